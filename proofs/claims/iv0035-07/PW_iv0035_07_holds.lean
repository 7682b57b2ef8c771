import PyProof.Rows.All
import Wide.Tac
import Wide.BridgeG
import Wide.Loose
import Wide.FinOn
import Open.Line
import Open.Claim
import Open.FastRun
import Open.FastT9
import Open.FastLooks
import OpenK.Peek
import OpenK.KQuick
import OpenK.KLine
import OpenK.KDescr
import OpenK.KMore
import OpenK.KGet
import OpenK.KWalk
import OpenK.KMake
import OpenK.KOwn
import OpenK.KList
import OpenK.KFacts
import OpenK.KCall
import OpenK.Lit
import KE.KDictSum
import KE.KDictList
import KE.KxPercent
import PySem.Challenge.RW_iv0035_07
set_option Elab.async false
set_option maxRecDepth 100000
set_option backward.match.sparseCases false
set_option bootstrap.genMatcherCode false
set_option compiler.extract_closed false
set_option genSizeOf false
set_option linter.all false
set_option genInjectivity false
section
open PySem
namespace Mine
theorem bAnd {a b:Bool}:(a&&b)=true→a=true∧b=true:=Bool.and_eq_true_iff.mp
theorem nNone {α:Type}{o:Option α}:o≠none→∃ x,o=some x:=Option.ne_none_iff_exists'.mp
theorem xo0_2  {A0 A1:Prop}{p:Prop}(h:A0∧A1)(k:A0→A1→p):p:=by obtain⟨h0,h1⟩:=h;exact k h0 h1
theorem xo0_3  {A0 A1 A2:Prop}{p:Prop}(h:A0∧A1∧A2)(k:A0→A1→A2→p):p:=by obtain⟨h0,h1,h2⟩:=h;exact k h0 h1 h2
theorem xo0_4  {A0 A1 A2 A3:Prop}{p:Prop}(h:A0∧A1∧A2∧A3)(k:A0→A1→A2→A3→p):p:=by obtain⟨h0,h1,h2,h3⟩:=h;exact k h0 h1 h2 h3
theorem xo0_5  {A0 A1 A2 A3 A4:Prop}{p:Prop}(h:A0∧A1∧A2∧A3∧A4)(k:A0→A1→A2→A3→A4→p):p:=by obtain⟨h0,h1,h2,h3,h4⟩:=h;exact k h0 h1 h2 h3 h4
theorem xo1_1 {α0:Sort _}{A0:α0→Prop}{p:Prop}(h:∃ x0,A0 x0)(k:∀ x0,A0 x0→p):p:=by obtain⟨x0,h0⟩:=h;exact k x0 h0
theorem xo1_2 {α0:Sort _}{A0 A1:α0→Prop}{p:Prop}(h:∃ x0,A0 x0∧A1 x0)(k:∀ x0,A0 x0→A1 x0→p):p:=by obtain⟨x0,h0,h1⟩:=h;exact k x0 h0 h1
theorem xo1_3 {α0:Sort _}{A0 A1 A2:α0→Prop}{p:Prop}(h:∃ x0,A0 x0∧A1 x0∧A2 x0)(k:∀ x0,A0 x0→A1 x0→A2 x0→p):p:=by obtain⟨x0,h0,h1,h2⟩:=h;exact k x0 h0 h1 h2
theorem xo1_4 {α0:Sort _}{A0 A1 A2 A3:α0→Prop}{p:Prop}(h:∃ x0,A0 x0∧A1 x0∧A2 x0∧A3 x0)(k:∀ x0,A0 x0→A1 x0→A2 x0→A3 x0→p):p:=by obtain⟨x0,h0,h1,h2,h3⟩:=h;exact k x0 h0 h1 h2 h3
theorem xo1_5 {α0:Sort _}{A0 A1 A2 A3 A4:α0→Prop}{p:Prop}(h:∃ x0,A0 x0∧A1 x0∧A2 x0∧A3 x0∧A4 x0)(k:∀ x0,A0 x0→A1 x0→A2 x0→A3 x0→A4 x0→p):p:=by obtain⟨x0,h0,h1,h2,h3,h4⟩:=h;exact k x0 h0 h1 h2 h3 h4
theorem xo1_6 {α0:Sort _}{A0 A1 A2 A3 A4 A5:α0→Prop}{p:Prop}(h:∃ x0,A0 x0∧A1 x0∧A2 x0∧A3 x0∧A4 x0∧A5 x0)(k:∀ x0,A0 x0→A1 x0→A2 x0→A3 x0→A4 x0→A5 x0→p):p:=by obtain⟨x0,h0,h1,h2,h3,h4,h5⟩:=h;exact k x0 h0 h1 h2 h3 h4 h5
theorem xo2_1 {α0:Sort _}{α1:Sort _}{A0:α0→α1→Prop}{p:Prop}(h:∃ x0 x1,A0 x0 x1)(k:∀ x0 x1,A0 x0 x1→p):p:=by obtain⟨x0,x1,h0⟩:=h;exact k x0 x1 h0
theorem xo2_2 {α0:Sort _}{α1:Sort _}{A0 A1:α0→α1→Prop}{p:Prop}(h:∃ x0 x1,A0 x0 x1∧A1 x0 x1)(k:∀ x0 x1,A0 x0 x1→A1 x0 x1→p):p:=by obtain⟨x0,x1,h0,h1⟩:=h;exact k x0 x1 h0 h1
theorem xo2_3 {α0:Sort _}{α1:Sort _}{A0 A1 A2:α0→α1→Prop}{p:Prop}(h:∃ x0 x1,A0 x0 x1∧A1 x0 x1∧A2 x0 x1)(k:∀ x0 x1,A0 x0 x1→A1 x0 x1→A2 x0 x1→p):p:=by obtain⟨x0,x1,h0,h1,h2⟩:=h;exact k x0 x1 h0 h1 h2
theorem xo2_4 {α0:Sort _}{α1:Sort _}{A0 A1 A2 A3:α0→α1→Prop}{p:Prop}(h:∃ x0 x1,A0 x0 x1∧A1 x0 x1∧A2 x0 x1∧A3 x0 x1)(k:∀ x0 x1,A0 x0 x1→A1 x0 x1→A2 x0 x1→A3 x0 x1→p):p:=by obtain⟨x0,x1,h0,h1,h2,h3⟩:=h;exact k x0 x1 h0 h1 h2 h3
theorem xo2_5 {α0:Sort _}{α1:Sort _}{A0 A1 A2 A3 A4:α0→α1→Prop}{p:Prop}(h:∃ x0 x1,A0 x0 x1∧A1 x0 x1∧A2 x0 x1∧A3 x0 x1∧A4 x0 x1)(k:∀ x0 x1,A0 x0 x1→A1 x0 x1→A2 x0 x1→A3 x0 x1→A4 x0 x1→p):p:=by obtain⟨x0,x1,h0,h1,h2,h3,h4⟩:=h;exact k x0 x1 h0 h1 h2 h3 h4
theorem xo2_6 {α0:Sort _}{α1:Sort _}{A0 A1 A2 A3 A4 A5:α0→α1→Prop}{p:Prop}(h:∃ x0 x1,A0 x0 x1∧A1 x0 x1∧A2 x0 x1∧A3 x0 x1∧A4 x0 x1∧A5 x0 x1)(k:∀ x0 x1,A0 x0 x1→A1 x0 x1→A2 x0 x1→A3 x0 x1→A4 x0 x1→A5 x0 x1→p):p:=by obtain⟨x0,x1,h0,h1,h2,h3,h4,h5⟩:=h;exact k x0 x1 h0 h1 h2 h3 h4 h5
theorem xo3_1 {α0:Sort _}{α1:Sort _}{α2:Sort _}{A0:α0→α1→α2→Prop}{p:Prop}(h:∃ x0 x1 x2,A0 x0 x1 x2)(k:∀ x0 x1 x2,A0 x0 x1 x2→p):p:=by obtain⟨x0,x1,x2,h0⟩:=h;exact k x0 x1 x2 h0
theorem xo3_2 {α0:Sort _}{α1:Sort _}{α2:Sort _}{A0 A1:α0→α1→α2→Prop}{p:Prop}(h:∃ x0 x1 x2,A0 x0 x1 x2∧A1 x0 x1 x2)(k:∀ x0 x1 x2,A0 x0 x1 x2→A1 x0 x1 x2→p):p:=by obtain⟨x0,x1,x2,h0,h1⟩:=h;exact k x0 x1 x2 h0 h1
theorem xo3_3 {α0:Sort _}{α1:Sort _}{α2:Sort _}{A0 A1 A2:α0→α1→α2→Prop}{p:Prop}(h:∃ x0 x1 x2,A0 x0 x1 x2∧A1 x0 x1 x2∧A2 x0 x1 x2)(k:∀ x0 x1 x2,A0 x0 x1 x2→A1 x0 x1 x2→A2 x0 x1 x2→p):p:=by obtain⟨x0,x1,x2,h0,h1,h2⟩:=h;exact k x0 x1 x2 h0 h1 h2
theorem xo3_4 {α0:Sort _}{α1:Sort _}{α2:Sort _}{A0 A1 A2 A3:α0→α1→α2→Prop}{p:Prop}(h:∃ x0 x1 x2,A0 x0 x1 x2∧A1 x0 x1 x2∧A2 x0 x1 x2∧A3 x0 x1 x2)(k:∀ x0 x1 x2,A0 x0 x1 x2→A1 x0 x1 x2→A2 x0 x1 x2→A3 x0 x1 x2→p):p:=by obtain⟨x0,x1,x2,h0,h1,h2,h3⟩:=h;exact k x0 x1 x2 h0 h1 h2 h3
theorem xo3_5 {α0:Sort _}{α1:Sort _}{α2:Sort _}{A0 A1 A2 A3 A4:α0→α1→α2→Prop}{p:Prop}(h:∃ x0 x1 x2,A0 x0 x1 x2∧A1 x0 x1 x2∧A2 x0 x1 x2∧A3 x0 x1 x2∧A4 x0 x1 x2)(k:∀ x0 x1 x2,A0 x0 x1 x2→A1 x0 x1 x2→A2 x0 x1 x2→A3 x0 x1 x2→A4 x0 x1 x2→p):p:=by obtain⟨x0,x1,x2,h0,h1,h2,h3,h4⟩:=h;exact k x0 x1 x2 h0 h1 h2 h3 h4
set_option genSizeOf false
set_option genSizeOfSpec false
set_option genInjectivity false
set_option genCtorIdx false
inductive KC where
 | none | bool (b:Bool) | int (i:Int) | str (k:Nat)
set_option genCtorIdx true
inductive Op where
 | add | sub | mul | fdiv | mod
inductive Cm where
 | eq | ne | lt | le | gt | ge | is | isnot | isin | notin
set_option genCtorIdx false
set_option genSizeOf false
set_option genInjectivity false
mutual
inductive E where
 | lv (i:Nat) (p:Pos)
 | gv (i:Nat) (p:Pos)
 | cst (c:KC) (k:Nat) (p:Pos)
 | attr (e:E) (a:Nat) (p:Pos)
 | sub (e i:E) (p:Pos)
 | upto (e n:E) (p q:Pos)
 | bin (o:Op) (l r:E) (p:Pos)
 | not (e:E) (p:Pos)
 | band (es:Es) (p:Pos)
 | bor (es:Es) (p:Pos)
 | cmp (l:E) (o:Cm) (r:E) (p:Pos)
 | cmp2 (l:E) (o:Cm) (m:E) (o':Cm) (r:E) (p:Pos)
 | ife (t a b:E) (p:Pos)
 | call (f:E) (as:Es) (ks:Ks) (p:Pos)
 | mcall (o:E) (m:Nat) (q:Pos) (as:Es) (ks:Ks) (p:Pos)
 | lst (es:Es) (p:Pos)
 | tup (es:Es) (k:Nat) (p:Pos)
 | dct1 (k v:E) (p:Pos)
 | comp (elt:E) (x:Nat) (xp:Pos) (src:E) (ifs:Es) (fr:List Nat) (p:Pos)
 | cv (i:Nat) (p:Pos)
inductive Es where
 | nil
 | cons (e:E) (r:Es)
inductive Ks where
 | nil
 | cons (n:Nat) (e:E) (p:Pos) (r:Ks)
end
inductive T where
 | nm (i:Nat) (p:Pos)
 | attr (e:E) (a:Nat) (p:Pos)
 | sub (e i:E) (p:Pos)
 | tup (i:Nat) (p:Pos) (j:Nat) (q:Pos) (k:Nat) (r:Pos)
mutual
inductive S where
 | expr (e:E) (p:Pos)
 | asg (t:T) (e:E) (p:Pos)
 | aug (i:Nat) (np:Pos) (o:Op) (e:E) (p:Pos)
 | ife (t:E) (a b:Ss) (p:Pos)
 | whl (t:E) (b:Ss) (p:Pos)
 | for (t:T) (e:E) (b:Ss) (p:Pos)
 | ret (e:E) (p:Pos)
 | ret0 (p:Pos)
 | raise (c:Nat) (np:Pos) (e:E) (cp p:Pos)
 | try (b:Ss) (hs:Hs) (p:Pos)
 | fin (b f:Ss) (p:Pos)
 | assert (e:E) (p:Pos)
 | cont (p:Pos)
inductive Ss where
 | nil
 | cons (s:S) (r:Ss)
inductive Hs where
 | nil
 | cons (c:Nat) (np:Pos) (b:Ss) (p:Pos) (r:Hs)
end
set_option genCtorIdx true
noncomputable def cmpScope (nm:Nat→Str) (_sc:Nat→Scope) (x:Nat) (fr:List Nat):Scope:={ kind:=.function,names:=(⟨#[46,48]⟩,.local) :: (nm x,.local) :: fr.map fun i=>(nm i,.free),isGenerator:=false,isCoroutine:=false }
section
variable (nm:Nat→Str)(sc:Nat→Scope)
noncomputable def KC.dec:KC→Const
 | .none=>.none
 | .bool b=>.bool b
 | .int i=>.int i
 | .str k=>.str (nm k)
noncomputable def Op.dec:Op→Operator
 | .add=>.Add | .sub=>.Sub | .mul=>.Mult | .fdiv=>.FloorDiv | .mod=>.Mod
noncomputable def Cm.dec:Cm→CmpOp
 | .eq=>.Eq | .ne=>.NotEq | .lt=>.Lt | .le=>.LtE | .gt=>.Gt | .ge=>.GtE | .is=>.Is | .isnot=>.IsNot | .isin=>.In | .notin=>.NotIn
mutual
noncomputable def E.dec:E→PySem.Expr
 | .lv i p=>.Name (nm i) p
 | .gv i p=>.Name (nm i) p
 | .cst c k p=>.Constant (c.dec nm) k p
 | .attr e a p=>.Attribute e.dec (nm a) p
 | .sub e i p=>.Subscript e.dec i.dec p
 | .upto e n p q=>.Subscript e.dec (.Slice none (some n.dec) none q) p
 | .bin o l r p=>.BinOp l.dec o.dec r.dec p
 | .not e p=>.UnaryOp .Not e.dec p
 | .band es p=>.BoolOp .And es.dec p
 | .bor es p=>.BoolOp .Or es.dec p
 | .cmp l o r p=>.Compare l.dec [o.dec] [r.dec] p
 | .cmp2 l o m o' r p=>.Compare l.dec [o.dec,o'.dec] [m.dec,r.dec] p
 | .ife t a b p=>.IfExp t.dec a.dec b.dec p
 | .call f as ks p=>.Call f.dec as.dec ks.dec p
 | .mcall o m q as ks p=>.Call (.Attribute o.dec (nm m) q) as.dec ks.dec p
 | .lst es p=>.List es.dec p
 | .tup es k p=>.Tuple es.dec k p
 | .dct1 k v p=>.Dict [some k.dec] [v.dec] p
 | .comp elt x xp src ifs fr p=>.ListComp elt.dec [⟨.Name (nm x) xp,src.dec,ifs.dec,0⟩] (cmpScope nm sc x fr) p
 | .cv i p=>.Name (nm i) p
noncomputable def Es.dec:Es→List PySem.Expr
 | .nil=>[]
 | .cons e r=>e.dec :: r.dec
noncomputable def Ks.dec:Ks→List Keyword
 | .nil=>[]
 | .cons n e p r=>⟨some (nm n),e.dec,p⟩ :: r.dec
end
noncomputable def T.dec:T→PySem.Expr
 | .nm i p=>.Name (nm i) p
 | .attr e a p=>.Attribute (e.dec nm sc) (nm a) p
 | .sub e i p=>.Subscript (e.dec nm sc) (i.dec nm sc) p
 | .tup i p j q k r=>.Tuple [.Name (nm i) p,.Name (nm j) q] k r
mutual
noncomputable def S.dec:S→Stmt
 | .expr e p=>.Expr (e.dec nm sc) p
 | .asg t e p=>.Assign [t.dec nm sc] (e.dec nm sc) p
 | .aug i np o e p=>.AugAssign (.Name (nm i) np) o.dec (e.dec nm sc) p
 | .ife t a b p=>.If (t.dec nm sc) a.dec b.dec p
 | .whl t b p=>.While (t.dec nm sc) b.dec [] p
 | .for t e b p=>.For (t.dec nm sc) (e.dec nm sc) b.dec [] p
 | .ret e p=>.Return (some (e.dec nm sc)) p
 | .ret0 p=>.Return none p
 | .raise c np e cp p=>.Raise (some (.Call (.Name (nm c) np) [e.dec nm sc] [] cp)) none p
 | .try b hs p=>.Try b.dec hs.dec [] [] p
 | .fin b f p=>.Try b.dec [] [] f.dec p
 | .assert e p=>.Assert (e.dec nm sc) none p
 | .cont p=>.Continue p
noncomputable def Ss.dec:Ss→List Stmt
 | .nil=>[]
 | .cons s r=>s.dec :: r.dec
noncomputable def Hs.dec:Hs→List ExceptHandler
 | .nil=>[]
 | .cons c np b p r=>.ExceptHandler (some (.Name (nm c) np)) none b.dec p :: r.dec
end
end
set_option genInjectivity true
inductive AV where
 | none | bool (b:Bool) | int (i:Int) | str (k:Nat) | msg | gl (k:Nat) | loc (l:Nat)
 deriving DecidableEq
inductive AO where
 | list (xs:List AV)
 | tup (xs:List AV)
 | dict (es:List (AV×AV))
 | inst (c:Nat) (as:List (Nat×AV))
 | rng (n:Int)
 | ro (xs:List AV)
 | cell (v:Option AV)
structure St where
 loc:List (Nat×AV)
 heap:Nat→Option AO
 next:Nat
 hd:Nat
inductive R (α:Type) where
 | ok (a:α) (s:St)
 | ex (c:Nat) (cl:Bool) (s:St)
 | bad
noncomputable def R.reHd {α:Type} (n:Nat):R α→R α
 | .ok a s=>.ok a { s with hd:=n }
 | .ex c cl s=>.ex c cl { s with hd:=n }
 | .bad=>.bad
inductive Fl where
 | next | brk | cont | ret (v:AV)
noncomputable def R.bnd {α β:Type}:R α→(α→St→R β)→R β
 | .ok a s,f=>f a s
 | .ex c cl s,_=>.ex c cl s
 | .bad,_=>.bad
@[simp] theorem R.bnd_ok {α β:Type} (a:α) (s:St) (f:α→St→R β):(R.ok a s).bnd f=f a s:=rfl
@[simp] theorem R.bnd_ex {α β:Type} (c:Nat) (cl:Bool) (s:St) (f:α→St→R β):(R.ex c cl s:R α).bnd f=.ex c cl s:=rfl
@[simp] theorem R.bnd_bad {α β:Type} (f:α→St→R β):(R.bad:R α).bnd f=.bad:=rfl
noncomputable def get? (m:List (Nat×AV)) (i:Nat):Option AV:=match m with
 | []=>Option.none
 | (j,v) :: r=>if i=j then some v else get? r i
noncomputable def put (m:List (Nat×AV)) (i:Nat) (v:AV):List (Nat×AV):=match m with
 | []=>[(i,v)]
 | (j,w) :: r=>if i=j then (j,v) :: r else (j,w) :: put r i v
noncomputable def dget? (m:List (AV×AV)) (k:AV):Option AV:=match m with
 | []=>Option.none
 | (j,v) :: r=>if k=j then some v else dget? r k
noncomputable def dput (m:List (AV×AV)) (k v:AV):List (AV×AV):=match m with
 | []=>[(k,v)]
 | (j,w) :: r=>if k=j then (j,v) :: r else (j,w) :: dput r k v
noncomputable def ddel (m:List (AV×AV)) (k:AV):List (AV×AV):=match m with
 | []=>[]
 | (j,w) :: r=>if k=j then r else (j,w) :: ddel r k
theorem get_c {j i:Nat}{v:AV}{r:List (Nat×AV)}:get? ((j,v) :: r) i=if i=j then some v else get? r i:=rfl
theorem put_c {j i:Nat}{v w:AV}{r:List (Nat×AV)}:put ((j,w) :: r) i v=if i=j then (j,v) :: r else (j,w) :: put r i v:=rfl
theorem get_put (L:List (Nat×AV))(i:Nat)(v:AV):get? (put L i v) i=some v:=by
 induction L with
 | nil=>exact if_pos rfl
 | cons a r ih=>
  obtain⟨x,y⟩:=a
  rw [put_c]
  by_cases q:i=x
  ·rw [if_pos q,get_c,if_pos q]
  ·rw [if_neg q,get_c,if_neg q];exact ih
theorem get_put_ne (L:List (Nat×AV)){i j:Nat}(v:AV)(e:j≠i):get? (put L i v) j=get? L j:=by
 induction L with
 | nil=>exact if_neg e
 | cons a r ih=>
  obtain⟨x,y⟩:=a
  rw [put_c]
  by_cases q:i=x
  ·rw [if_pos q,get_c,get_c,if_neg fun w=>e (w.trans q.symm),if_neg fun w=>e (w.trans q.symm)]
  ·rw [if_neg q,get_c,get_c,ih]
theorem dget_c {j k v:AV}{r:List (AV×AV)}:dget? ((j,v) :: r) k=if k=j then some v else dget? r k:=rfl
theorem dput_c {j k v w:AV}{r:List (AV×AV)}:dput ((j,w) :: r) k v=if k=j then (j,v) :: r else (j,w) :: dput r k v:=rfl
theorem ddel_c {j k w:AV}{r:List (AV×AV)}:ddel ((j,w) :: r) k=if k=j then r else (j,w) :: ddel r k:=rfl
noncomputable def AV.plain:AV→Bool
 | .gl _=>false
 | _=>true
noncomputable def R.only {α:Type}:R α→R α
 | .ok a s=>.ok a s
 | _=>.bad
namespace St
noncomputable def set (s:St) (l:Nat) (o:AO):St:={ s with heap:=fun x=>if x=l then some o else s.heap x }
noncomputable def new (s:St) (o:AO):St:={ s with heap:=fun x=>if x=s.next then some o else s.heap x,next:=s.next+1 }
noncomputable def put (s:St) (i:Nat) (v:AV):St:={ s with loc:=Mine.put s.loc i v }
end St
inductive BI where
 | abs | len | isinstance | range
 deriving DecidableEq
inductive GK where
 | fn (f:Nat) | cls | bi (b:BI) | other
inductive MK where
 | none | data | fn (f:Nat) | prop (g s:Nat)
structure Fn where
 params:List Nat
 dflts:List (Nat×KC)
 body:Ss
 cells:List Nat
set_option genInjectivity false in
structure Sig where
 gk:Nat→GK
 me:Nat→Nat→MK
 fn:Nat→Fn
 init:Nat
 shapes:List (Nat×Nat×List Nat)
 eqN:Nat
 ltN:Nat
 append:Nat
 pop:Nat
 remove:Nat
 indexError:Nat
 keyError:Nat
 lf:Nat
 pct:List Nat
 intN:Nat
 excs:List Nat
 rais:List Nat
noncomputable def KC.av:KC→AV
 | .none=>.none | .bool b=>.bool b | .int i=>.int i | .str k=>.str k
section
variable {α:Type}
noncomputable def noKw (ks:List (Nat×AV)) (r:R α):R α:=match ks with
 | []=>r
 | _ :: _=>.bad
noncomputable def arg1 (xs:List AV) (f:AV→R α):R α:=match xs with
 | []=>.bad
 | v :: r=>(match r with
  | []=>f v
  | _ :: _=>.bad)
noncomputable def arg2 (xs:List AV) (f:AV→AV→R α):R α:=match xs with
 | []=>.bad
 | v :: r=>arg1 r (f v)
noncomputable def asInt (v:AV) (f:Int→R α):R α:=match v with
 | .int x=>f x
 | _=>.bad
noncomputable def asStr (v:AV) (f:Nat→R α):R α:=match v with
 | .str x=>f x
 | _=>.bad
noncomputable def asLoc (v:AV) (f:Nat→R α):R α:=match v with
 | .loc l=>f l
 | _=>.bad
noncomputable def asGl (v:AV) (f:Nat→R α):R α:=match v with
 | .gl l=>f l
 | _=>.bad
noncomputable def asBool (v:AV) (f:Bool→R α):R α:=match v with
 | .bool b=>f b
 | _=>.bad
noncomputable def atObj (s:St) (l:Nat) (f:AO→R α):R α:=match s.heap l with
 | some o=>f o
 | none=>.bad
noncomputable def onList (o:AO) (f:List AV→R α):R α:=match o with
 | .list xs=>f xs
 | _=>.bad
noncomputable def onDict (o:AO) (f:List (AV×AV)→R α):R α:=match o with
 | .dict es=>f es
 | _=>.bad
noncomputable def onInst (o:AO) (f:Nat→List (Nat×AV)→R α):R α:=match o with
 | .inst c as=>f c as
 | _=>.bad
end
section
variable (g:Sig)(C:Nat→List AV→St→R AV)
noncomputable def raiseAs {α:Type} (c:Nat) (s:St):R α:=match s.hd with
 | 0=>.ex c true s
 | 1=>.ex c false s
 | _=>.bad
noncomputable def raise0 {α:Type} (c:Nat) (s:St):R α:=match s.hd with
 | 0=>.ex c true s
 | _=>.bad
noncomputable def truth (v:AV) (s:St):R Bool:=match v with
 | .none=>.ok false s
 | .bool b=>.ok b s
 | .int i=>.ok (i≠0) s
 | .loc l=>atObj s l fun o=>(match o with
  | .list xs=>.ok (!xs.isEmpty) s
  | .dict es=>.ok (!es.isEmpty) s
  | .ro xs=>.ok (!xs.isEmpty) s
  | _=>.bad)
 | _=>.bad
noncomputable def bindR:List Nat→List (Nat×KC)→List AV→List (Nat×AV)→Option (List AV)
 | [],_,[],_=>some []
 | [],_,_ :: _,_=>Option.none
 | _ :: ps,ds,v :: vs,ks=>(bindR ps ds vs ks).map (v :: ·)
 | p :: ps,ds,[],ks=>match get? ks p with
  | some v=>(bindR ps ds [] ks).map (v :: ·)
  | Option.none=>match ds.lookup p with
   | some c=>(bindR ps ds [] ks).map (c.av :: ·)
   | Option.none=>Option.none
noncomputable def callFn (f:Nat) (xs:List AV) (ks:List (Nat×AV)) (s:St):R AV:=
 if (f,xs.length,ks.map (·.1))∈g.shapes then (match bindR (g.fn f).params (g.fn f).dflts xs ks with
 | some vs=>C f vs s
 | Option.none=>.bad) else .bad
noncomputable def getA (v:AV) (a:Nat) (s:St):R AV:=asLoc v fun l=>atObj s l fun o=>onInst o fun c as=>(match g.me c a with
 | .prop f _=>(callFn g C f [.loc l] [] s).only.bnd fun x s=>if x.plain then .ok x s else .bad
 | .data=>(match get? as a with
  | some x=>if x.plain then .ok x s else .bad
  | Option.none=>.bad)
 | _=>.bad)
noncomputable def setA (v:AV) (a:Nat) (x:AV) (s:St):R Unit:=asLoc v fun l=>atObj s l fun o=>onInst o fun c as=>(match g.me c a with
 | .prop _ f=>(callFn g C f [.loc l,x] [] s).bnd fun _ s=>.ok () s
 | .data=>if as.length≤20 then .ok () (s.set l (.inst c (put as a x))) else .bad
 | _=>.bad)
noncomputable def itemR (xs:List AV) (k:Int) (s:St):R AV:=if 0≤k then (match xs[k.toNat]? with | some x=>.ok x s | Option.none=>.bad) else .bad
noncomputable def getI (v i:AV) (s:St):R AV:=asLoc v fun l=>asInt i fun k=>atObj s l fun o=>(match o with
 | .list xs=>itemR xs k s
 | .tup xs=>itemR xs k s
 | .dict es=>(match dget? es (.int k) with | some x=>.ok x s | Option.none=>raise0 g.keyError s)
 | .ro xs=>itemR xs k s
 | _=>.bad)
noncomputable def setI (v i x:AV) (s:St):R Unit:=asLoc v fun l=>asInt i fun k=>atObj s l fun o=>(match o with
 | .list xs=>if 0≤k∧k.toNat < xs.length then .ok () (s.set l (.list (xs.set k.toNat x))) else .bad
 | .dict es=>if es.length≤1000 then .ok () (s.set l (.dict (dput es (.int k) x))) else .bad
 | _=>.bad)
noncomputable def alloc (o:AO) (s:St):R AV:=.ok (.loc s.next) (s.new o)
noncomputable def binoI (o:Op) (x y:Int) (s:St):R AV:=match o with
 | .add=>.ok (.int (x+y)) s
 | .sub=>.ok (.int (x - y)) s
 | .mul=>if x.natAbs < 2 ^ 60 then .ok (.int (x * y)) s else .bad
 | .fdiv=>if y≠0∧y.natAbs < 1073741824 then .ok (.int (Int.fdiv x y)) s else .bad
 | .mod=>if y≠0 then .ok (.int (Int.fmod x y)) s else .bad
noncomputable def bino (g:Sig) (o:Op) (a b:AV) (s:St):R AV:=match a with
 | .int x=>asInt b fun y=>binoI o x y s
 | .str k=>asInt b fun y=>(match o with
  | .mod=>if k∈g.pct∧0≤y∧y < 1000000000 then .ok .msg s else .bad
  | _=>.bad)
 | .loc l=>atObj s l fun x=>onList x fun xs=>(match o with
  | .add=>asLoc b fun k=>atObj s k fun y=>onList y fun ys=>if xs.length+ys.length≤1000 then alloc (.list (xs++ys)) s else .bad
  | .mul=>asInt b fun n=>if xs.length=1∧0≤n∧n≤100 then alloc (.list ((List.replicate n.toNat xs).flatten)) s else .bad
  | _=>.bad)
 | _=>.bad
noncomputable def cmpI (m:Nat) (l k:Nat) (s:St):R Bool:=atObj s l fun x=>onInst x fun c _=>atObj s k fun y=>onInst y fun c' _=>if c=c' then (match g.me c m with
 | .fn f=>(callFn g C f [.loc l,.loc k] [] s).only.bnd fun v s=>asBool v fun b=>.ok b s
 | _=>.bad) else .bad
noncomputable def eqP (a b:AV):Option Bool:=match a with
 | .none=>(match b with | .none=>some true | .int _=>some false | .str _=>some false | _=>Option.none)
 | .int x=>(match b with | .none=>some false | .int y=>some (decide (x=y)) | .str _=>some false | _=>Option.none)
 | .str x=>(match b with | .none=>some false | .int _=>some false | .str y=>some (decide (x=y)) | _=>Option.none)
 | .bool x=>(match b with | .bool y=>some (x == y) | _=>Option.none)
 | _=>Option.none
noncomputable def eqR (a b:AV) (f:Bool→Bool) (s:St):R Bool:=match eqP a b with
 | some r=>.ok (f r) s
 | Option.none=>.bad
noncomputable def neLR (xs ys:List AV) (s:St):R Bool:=if xs.length=ys.length then (if xs.isEmpty then .ok false s else .bad) else .ok true s
noncomputable def neR (a b:AV) (s:St):R Bool:=match a with
 | .loc l=>asLoc b fun k=>atObj s l fun o=>onList o fun xs=>atObj s k fun o=>onList o fun ys=>neLR xs ys s
 | _=>eqR a b not s
noncomputable def eqv (a b:AV) (s:St):R Bool:=match a with
 | .loc l=>asLoc b fun k=>cmpI g C g.eqN l k s
 | _=>eqR a b id s
noncomputable def isR (a b:AV) (f:Bool→Bool) (s:St):R Bool:=match b with
 | .none=>(match a with | .none=>.ok (f true) s | .int _=>.ok (f false) s | .str _=>.ok (f false) s | _=>.bad)
 | _=>.bad
noncomputable def inR (a b:AV) (f:Bool→Bool) (s:St):R Bool:=asInt a fun _=>asLoc b fun l=>atObj s l fun o=>onDict o fun es=>.ok (f (dget? es a).isSome) s
noncomputable def intsR (a b:AV) (s:St) (f:Int→Int→Bool):R Bool:=asInt a fun x=>asInt b fun y=>.ok (f x y) s
noncomputable def cmpv (o:Cm) (a b:AV) (s:St):R Bool:=match o with
 | .eq=>eqv g C a b s
 | .ne=>neR a b s
 | .lt=>(match a with
  | .loc l=>asLoc b fun k=>cmpI g C g.ltN l k s
  | _=>intsR a b s fun x y=>x < y)
 | .le=>intsR a b s fun x y=>x≤y
 | .gt=>intsR a b s fun x y=>x > y
 | .ge=>intsR a b s fun x y=>x ≥ y
 | .is=>isR a b id s
 | .isnot=>isR a b not s
 | .isin=>inR a b id s
 | .notin=>inR a b not s
noncomputable def takeL (xs:List AV) (k:Int) (s:St):R AV:=if 0≤k∧xs.length≤1000 then alloc (.list (xs.take k.toNat)) s else .bad
noncomputable def takeR (v w:AV) (s:St):R AV:=asLoc v fun l=>asInt w fun k=>atObj s l fun o=>(match o with
 | .list xs=>takeL xs k s
 | .ro xs=>takeL xs k s
 | _=>.bad)
noncomputable def isiR (g:Sig) (k:Nat) (v:AV) (s:St):R AV:=match v with
 | .int _=>if k=g.intN then .ok (.bool true) s else .bad
 | .str _=>if k=g.intN then .ok (.bool false) s else .bad
 | .loc l=>atObj s l fun o=>onInst o fun c _=>if c=k then (match g.gk k with | .cls=>.ok (.bool true) s | _=>.bad) else .bad
 | _=>.bad
noncomputable def callBI (b:BI) (xs:List AV) (s:St):R AV:=match b with
 | .abs=>arg1 xs fun v=>asInt v fun x=>.ok (.int (if x < 0 then -x else x)) s
 | .len=>arg1 xs fun v=>asLoc v fun l=>atObj s l fun o=>(match o with
  | .list xs=>.ok (.int xs.length) s
  | .dict es=>.ok (.int es.length) s
  | _=>.bad)
 | .isinstance=>arg2 xs fun v u=>asGl u fun k=>isiR g k v s
 | .range=>arg1 xs fun v=>asInt v fun n=>if 0≤n∧n≤1000 then alloc (.rng n) s else .bad
noncomputable def callV (v:AV) (xs:List AV) (ks:List (Nat×AV)) (s:St):R AV:=match v with
 | .gl k=>(match g.gk k with
  | .fn f=>callFn g C f xs ks s
  | .cls=>(match g.me k g.init with
   | .fn f=>(callFn g C f (.loc s.next :: xs) ks (s.new (.inst k []))).bnd fun r s'=>if r=.none then .ok (.loc s.next) s' else .bad
   | _=>.bad)
  | .bi b=>if ks.isEmpty then callBI g b xs s else .bad
  | .other=>.bad)
 | _=>.bad
noncomputable def eqIt (y x:AV) (s:St):R Bool:=match y with
 | .int a=>asInt x fun b=>.ok (decide (a=b)) s
 | .loc a=>asLoc x fun b=>if a=b then .ok true s else eqv g C (.loc a) (.loc b) s
 | _=>.bad
noncomputable def cutAt (l n:Nat) (s:St):R AV:=atObj s l fun o=>onList o fun zs=>.ok .none (s.set l (.list (zs.eraseIdx n)))
noncomputable def removeAt (l:Nat) (x:AV):Nat→Nat→St→R AV
 | 0,_,_=>.bad
 | k+1,n,s=>atObj s l fun o=>onList o fun zs=>(match zs[n]? with
  | some y=>(eqIt g C y x s).bnd fun t s=>if t then cutAt l n s else removeAt l x k (n+1) s
  | none=>.bad)
noncomputable def canCall (g:Sig) (v:AV):Bool:=match v with
 | .gl k=>(match g.gk k with | .other=>false | _=>true)
 | _=>false
inductive Mt where
 | fn (f:Nat) | append | lpop | remove | dpop
noncomputable def methodOf (g:Sig) (v:AV) (m:Nat) (s:St):Option Mt:=match v with
 | .loc l=>(match s.heap l with
  | some (.inst c as)=>(match g.me c m,get? as m with
   | .fn f,Option.none=>some (.fn f)
   | _,_=>Option.none)
  | some (.list _)=>if m=g.append then some .append else if m=g.pop then some .lpop else if m=g.remove then some .remove else Option.none
  | some (.dict _)=>if m=g.pop then some .dpop else Option.none
  | _=>Option.none)
 | _=>Option.none
noncomputable def callMt (m:Mt) (v:AV) (xs:List AV) (ks:List (Nat×AV)) (s:St):R AV:=match m with
 | .fn f=>callFn g C f (v :: xs) ks s
 | .append=>asLoc v fun l=>noKw ks (arg1 xs fun x=>atObj s l fun o=>onList o fun ys=>if ys.length≤1000 then .ok .none (s.set l (.list (ys++[x]))) else .bad)
 | .lpop=>asLoc v fun l=>noKw ks (arg1 xs fun x=>asInt x fun i=>if i=0 then atObj s l fun o=>onList o fun ys=>(match ys with
   | []=>raise0 g.indexError s
   | y :: r=>.ok y (s.set l (.list r))) else .bad)
 | .remove=>asLoc v fun l=>noKw ks (arg1 xs fun x=>atObj s l fun o=>onList o fun ys=>removeAt g C l x (ys.length+1) 0 s)
 | .dpop=>asLoc v fun l=>noKw ks (arg1 xs fun x=>asInt x fun i=>atObj s l fun o=>onDict o fun es=>(match dget? es (.int i) with
   | some x=>.ok x (s.set l (.dict (ddel es (.int i))))
   | Option.none=>raise0 g.keyError s))
set_option genCtorIdx false
inductive It where
 | list (l:Nat) | tup (l:Nat) | rng (n:Int)
set_option genCtorIdx true
noncomputable def iterOf (v:AV) (s:St):Option It:=match v with
 | .loc l=>(match s.heap l with
  | some (.list _)=>some (.list l)
  | some (.tup _)=>some (.tup l)
  | some (.rng n)=>some (.rng n)
  | _=>Option.none)
 | _=>Option.none
noncomputable def itemAt (v:It) (i:Nat) (s:St):Option (Option AV):=match v with
 | .list l=>(match s.heap l with
  | some (.list xs)=>some xs[i]?
  | _=>Option.none)
 | .tup l=>(match s.heap l with
  | some (.tup xs)=>some xs[i]?
  | _=>Option.none)
 | .rng n=>some (if (i:Int) < n then some (.int i) else Option.none)
noncomputable def finR (h:Nat) (r:R Fl) (fin:St→R Fl):R Fl:=match r with
 | .ok x s=>(match fin s with
  | .ok .next s=>.ok x s
  | _=>.bad)
 | .ex c cl s'=>(match fin { s' with hd:=if cl then 1 else 2 } with
  | .ok .next s'=>.ex c cl { s' with hd:=h }
  | _=>.bad)
 | .bad=>.bad
noncomputable def whileN (test:St→R Bool) (body:St→R Fl):Nat→St→R Fl
 | 0,_=>.bad
 | k+1,s=>(test s).bnd fun b s=>if b then (body s).bnd fun f s=>(match f with
   | .next=>whileN test body k s
   | .cont=>whileN test body k s
   | .brk=>.ok .next s
   | .ret v=>.ok (.ret v) s) else .ok .next s
noncomputable def forN (v:It) (asg:AV→St→R Unit) (body:St→R Fl):Nat→Nat→St→R Fl
 | 0,_,_=>.bad
 | k+1,i,s=>match itemAt v i s with
  | Option.none=>.bad
  | some Option.none=>if s.hd≤1 then .ok .next s else .bad
  | some (some x)=>(asg x s).bnd fun _ s=>(body s).bnd fun f s=>(match f with
   | .next=>forN v asg body k (i+1) s
   | .cont=>forN v asg body k (i+1) s
   | .brk=>.ok .next s
   | .ret v=>.ok (.ret v) s)
noncomputable def cellV (o:AO):Option AV:=match o with
 | .cell c=>c
 | _=>none
noncomputable def cellR (v:AV) (s:St):R AV:=asLoc v fun l=>atObj s l fun o=>(match cellV o with
 | some x=>.ok x s
 | none=>.bad)
noncomputable def locO (v:AV):Option Nat:=match v with
 | .loc l=>some l
 | _=>none
noncomputable def intO (v:AV):Option Int:=match v with
 | .int i=>some i
 | _=>none
noncomputable def itemP (o:AO) (k:Int):Option AV:=match o with
 | .list xs=>if 0≤k then xs[k.toNat]? else none
 | .dict es=>dget? es (.int k)
 | _=>none
noncomputable def evalP (L:List (Nat×AV)) (h:Nat→Option AO) (x:Nat) (y:AV):E→Option AV
 | .lv i _=>if i=x then some y else none
 | .cv i _=>(get? L i).bind fun v=>(locO v).bind fun l=>(h l).bind cellV
 | .cst c _ _=>(match c with | .int i=>some (.int i) | _=>none)
 | .sub e i _=>(evalP L h x y e).bind fun a=>(evalP L h x y i).bind fun b=>(locO a).bind fun l=>(intO b).bind fun k=>(h l).bind fun o=>itemP o k
 | _=>none
noncomputable def testE (L:List (Nat×AV)) (h:Nat→Option AO) (x:Nat) (y:AV):E→Option Bool
 | .cmp l o r _=>(match o with
  | .eq=>(evalP L h x y l).bind fun a=>(evalP L h x y r).bind fun b=>eqP a b
  | _=>none)
 | _=>none
noncomputable def testP (L:List (Nat×AV)) (h:Nat→Option AO) (x:Nat) (y:AV):Es→Option Bool
 | .nil=>some true
 | .cons e r=>(match r with
  | .nil=>testE L h x y e
  | .cons _ _=>none)
noncomputable def selP (L:List (Nat×AV)) (h:Nat→Option AO) (x:Nat) (elt:E) (ifs:Es):List AV→Option (List AV)
 | []=>some []
 | y :: r=>(testP L h x y ifs).bind fun b=>if b then (evalP L h x y elt).bind fun z=>(selP L h x elt ifs r).map (z :: ·) else selP L h x elt ifs r
noncomputable def keysO (o:AO):Option (List AV):=match o with
 | .dict es=>some (es.map (·.1))
 | _=>none
noncomputable def compR (x:Nat) (elt:E) (ifs:Es) (v:AV) (s:St):R AV:=asLoc v fun l=>atObj s l fun o=>if s.hd=0 then (match (keysO o).bind (selP s.loc s.heap x elt ifs) with
 | some zs=>if zs.length≤1000 then alloc (.list zs) s else .bad
 | none=>.bad) else .bad
mutual
noncomputable def evalE:E→St→R AV
 | .lv i _,s=>match get? s.loc i with
  | some v=>.ok v s
  | Option.none=>.bad
 | .gv i _,s=>.ok (.gl i) s
 | .cst c _ _,s=>.ok c.av s
 | .attr e a _,s=>(evalE e s).bnd fun v s=>getA g C v a s
 | .sub e i _,s=>(evalE e s).bnd fun v s=>(evalE i s).bnd fun w s=>getI g v w s
 | .upto e n _ _,s=>(evalE e s).bnd fun v s=>(evalE n s).bnd fun w s=>takeR v w s
 | .bin o l r _,s=>(evalE l s).bnd fun a s=>(evalE r s).bnd fun b s=>bino g o a b s
 | .not e _,s=>(evalE e s).bnd fun a s=>(truth a s).bnd fun b s=>.ok (.bool (!b)) s
 | .band es _,s=>evalB true es s
 | .bor es _,s=>evalB false es s
 | .cmp l o r _,s=>(evalE l s).bnd fun a s=>(evalE r s).bnd fun b s=>(cmpv g C o a b s).bnd fun x s=>.ok (.bool x) s
 | .cmp2 l o m o' r _,s=>(evalE l s).bnd fun a s=>(evalE m s).bnd fun b s=>(cmpv g C o a b s).bnd fun x s=>
   if x then (evalE r s).bnd fun c s=>(cmpv g C o' b c s).bnd fun x s=>.ok (.bool x) s else .ok (.bool false) s
 | .ife t a b _,s=>((evalE t s).bnd fun v s=>truth v s).bnd fun x s=>if x then evalE a s else evalE b s
 | .call f as ks _,s=>(evalE f s).bnd fun v s=>if canCall g v then (evalEs as s).bnd fun xs s=>(evalKs ks s).bnd fun ys s=>callV g C v xs ys s else .bad
 | .mcall o m _ as ks _,s=>(evalE o s).bnd fun v s=>(match methodOf g v m s with
  | some mt=>(evalEs as s).bnd fun xs s=>(evalKs ks s).bnd fun ys s=>callMt g C mt v xs ys s
  | Option.none=>.bad)
 | .lst es _,s=>(evalEs es s).bnd fun xs s=>if xs.length≤1000 then alloc (.list xs) s else .bad
 | .tup es _ _,s=>(evalEs es s).bnd fun xs s=>if xs.length≤1000 then alloc (.tup xs) s else .bad
 | .dct1 k v _,s=>(evalE k s).bnd fun a s=>(evalE v s).bnd fun b s=>asInt a fun i=>alloc (.dict [(.int i,b)]) s
 | .comp elt x _ src ifs _ _,s=>(evalE src s).bnd fun v s=>compR x elt ifs v s
 | .cv i _,s=>match get? s.loc i with
  | some v=>cellR v s
  | Option.none=>.bad
noncomputable def evalEs:Es→St→R (List AV)
 | .nil,s=>.ok [] s
 | .cons e r,s=>(evalE e s).bnd fun v s=>(evalEs r s).bnd fun vs s=>.ok (v :: vs) s
noncomputable def evalKs:Ks→St→R (List (Nat×AV))
 | .nil,s=>.ok [] s
 | .cons n e _ r,s=>(evalE e s).bnd fun v s=>(evalKs r s).bnd fun vs s=>.ok ((n,v) :: vs) s
noncomputable def evalB:Bool→Es→St→R AV
 | _,.nil,_=>.bad
 | _,.cons e .nil,s=>evalE e s
 | op,.cons e r,s=>(evalE e s).bnd fun v s=>(truth v s).bnd fun b s=>if b=op then evalB op r s else .ok v s
end
noncomputable def augR (o:Op) (i:Nat) (x y:Int) (s:St):R Fl:=match o with
 | .add=>.ok .next (s.put i (.int (x+y)))
 | .sub=>.ok .next (s.put i (.int (x - y)))
 | _=>.bad
noncomputable def tupR (i j:Nat) (v:AV) (s:St):R Unit:=asLoc v fun l=>atObj s l fun o=>(match o with
 | .tup xs=>arg2 xs fun x y=>if s.hd≤1 then .ok () ((s.put i x).put j y) else .bad
 | _=>.bad)
noncomputable def evalT (e:E) (s:St):R Bool:=(evalE g C e s).bnd fun v s=>truth v s
noncomputable def asgT:T→AV→St→R Unit
 | .nm i _,v,s=>.ok () (s.put i v)
 | .attr e a _,v,s=>(evalE g C e s).bnd fun o s=>setA g C o a v s
 | .sub e i _,v,s=>(evalE g C e s).bnd fun o s=>(evalE g C i s).bnd fun w s=>setI o w v s
 | .tup i _ j _ _ _,v,s=>tupR i j v s
mutual
noncomputable def exec:S→St→R Fl
 | .expr e _,s=>(evalE g C e s).bnd fun _ s=>.ok .next s
 | .asg t e _,s=>(evalE g C e s).bnd fun v s=>(asgT g C t v s).bnd fun _ s=>.ok .next s
 | .aug i _ o e _,s=>match get? s.loc i with
  | some a=>(evalE g C e s).bnd fun b s=>asInt a fun x=>asInt b fun y=>augR o i x y s
  | Option.none=>.bad
 | .ife t a b _,s=>(evalT g C t s).bnd fun x s=>if x then execs a s else execs b s
 | .whl t b _,s=>whileN (fun s=>evalT g C t s) (fun s=>execs b s) g.lf s
 | .for t e b _,s=>(evalE g C e s).bnd fun v s=>(match iterOf v s with
  | some it=>forN it (fun x s=>asgT g C t x s) (fun s=>execs b s) g.lf 0 s
  | Option.none=>.bad)
 | .ret e _,s=>(evalE g C e s).bnd fun v s=>.ok (.ret v) s
 | .ret0 _,s=>.ok (.ret .none) s
 | .raise c _ e _ _,s=>(evalE g C e s).bnd fun _ s=>raiseAs c s
 | .try b hs _,s=>(match execs b s with
  | .ok f s=>.ok f s
  | .ex c cl s'=>handle s.hd hs c cl s'
  | .bad=>.bad)
 | .fin b f _,s=>finR s.hd (execs b s) (fun s=>execs f s)
 | .assert e _,s=>(evalT g C e s).bnd fun b s=>if b then .ok .next s else .bad
 | .cont _,s=>.ok .cont s
noncomputable def execs:Ss→St→R Fl
 | .nil,s=>.ok .next s
 | .cons a r,s=>(exec a s).bnd fun f s=>(match f with
  | .next=>execs r s
  | f=>.ok f s)
noncomputable def handle (h:Nat):Hs→Nat→Bool→St→R Fl
 | .nil,c,cl,s=>.ex c cl s
 | .cons d _ b _ r,c,cl,s=>if c∈g.excs∧d∈g.excs then (if c=d then (execs b { s with hd:=if cl then 1 else 2 }).reHd h else handle h r c cl s) else .bad
end
end
noncomputable def back (loc:List (Nat×AV)):R Fl→R AV
 | .ok (.ret v) s=>.ok v { s with loc:=loc }
 | .ok .next s=>.ok .none { s with loc:=loc }
 | .ok _ _=>.bad
 | .ex c cl s=>.ex c cl { s with loc:=loc }
 | .bad=>.bad
noncomputable def laidH:List Nat→List (Nat×AV)→St→St
 | [],_,s=>s
 | i :: r,L,s=>laidH r L (s.new (.cell (get? L i)))
noncomputable def laidL:List Nat→Nat→List (Nat×AV)→List (Nat×AV)
 | [],_,L=>L
 | i :: r,n,L=>laidL r (n+1) (put L i (.loc n))
noncomputable def laid (cs:List Nat) (s:St):St:={ laidH cs s.loc s with loc:=laidL cs s.next s.loc }
noncomputable def callF (g:Sig):Nat→Nat→List AV→St→R AV
 | 0,_,_,_=>.bad
 | n+1,f,vs,s=>if vs.length=(g.fn f).params.length then back s.loc (execs g (callF g n) (g.fn f).body (laid (g.fn f).cells { s with loc:=(g.fn f).params.zip vs })) else .bad
theorem callF_s {g:Sig}{n f:Nat}{vs:List AV}{s:St}:callF g (n+1) f vs s=if vs.length=(g.fn f).params.length then back s.loc (execs g (callF g n) (g.fn f).body (laid (g.fn f).cells { s with loc:=(g.fn f).params.zip vs })) else .bad:=rfl
noncomputable def nmOf (l:List Str) (i:Nat):Str:=match l[i]? with | some x=>x | none=>⟨#[1114112+i]⟩
end Mine
end
section
open PySem PySem.W PyProof.Rows PySem.Calls
namespace Mine
noncomputable abbrev P4 (a b c:Nat):PySem.Pos:=⟨a,b,a,c⟩
noncomputable def zs (l:List Nat):Str:=⟨l.toArray⟩
noncomputable abbrev zA0:Str:=zs [47,99,108,97,105,109,47,99,117,116,46,112,121]
noncomputable abbrev zA1:Str:=zs [112,114,105,111,114,105,116,121,46,112,114,105,111,114,105,116,121]
noncomputable abbrev zA2:Str:=zs [95,95,115,116,97,116,105,99,95,97,116,116,114,105,98,117,116,101,115,95,95]
noncomputable abbrev zA3:Str:=zs [95,95,102,105,114,115,116,108,105,110,101,110,111,95,95]
noncomputable abbrev zA4:Str:=zs [95,95,109,111,100,117,108,101,95,95]
noncomputable abbrev zA5:Str:=zs [95,95,100,111,99,95,95]
noncomputable abbrev zA6:Str:=zs [108,97,119,95,105,118,48,48,51,53,95,48,55]
noncomputable abbrev zA7:Str:=zs [95,95,119,101,97,107,114,101,102,95,95]
noncomputable abbrev zA8:Str:=zs [80,114,105,111,114,105,116,121,84,114,101,101,46,95,103,101,116,95,111,114,95,105,110,115,101,114,116,95,112,97,114,101,110,116]
noncomputable abbrev zA9:Str:=zs [80,114,105,111,114,105,116,121,84,114,101,101,46,95,101,120,99,108,117,115,105,118,101,95,105,110,115,101,114,116]
noncomputable abbrev zA10:Str:=zs [83,116,114,101,97,109,46,119,101,105,103,104,116]
noncomputable abbrev zA11:Str:=zs [80,114,105,111,114,105,116,121,84,114,101,101,46,105,110,115,101,114,116,95,115,116,114,101,97,109]
noncomputable abbrev zA12:Str:=zs [80,114,105,111,114,105,116,121,84,114,101,101,46,114,101,109,111,118,101,95,115,116,114,101,97,109]
noncomputable abbrev zA13:Str:=zs [80,114,105,111,114,105,116,121,84,114,101,101,46,114,101,112,114,105,111,114,105,116,105,122,101]
noncomputable abbrev zA14:Str:=zs [83,116,114,101,97,109,46,97,100,100,95,99,104,105,108,100,95,101,120,99,108,117,115,105,118,101]
noncomputable abbrev zA15:Str:=zs [80,114,105,111,114,105,116,121,84,114,101,101,46,95,95,105,110,105,116,95,95]
noncomputable abbrev zA16:Str:=zs [80,114,105,111,114,105,116,121,84,114,101,101,46,95,95,105,116,101,114,95,95]
noncomputable abbrev zA17:Str:=zs [80,114,105,111,114,105,116,121,84,114,101,101,46,95,95,110,101,120,116,95,95]
noncomputable abbrev zA18:Str:=zs [95,95,110,97,109,101,95,95]
noncomputable abbrev zA19:Str:=zs [80,114,105,111,114,105,116,121,84,114,101,101,46,117,110,98,108,111,99,107]
noncomputable abbrev zA20:Str:=zs [83,116,114,101,97,109,46,114,101,109,111,118,101,95,99,104,105,108,100]
noncomputable abbrev zA21:Str:=zs [80,114,105,111,114,105,116,121,84,114,101,101,46,98,108,111,99,107]
noncomputable abbrev zA22:Str:=zs [80,114,105,111,114,105,116,121,84,114,101,101,46,110,101,120,116]
noncomputable abbrev zA23:Str:=zs [95,95,100,105,99,116,95,95]
noncomputable abbrev zA24:Str:=zs [83,116,114,101,97,109,46,97,100,100,95,99,104,105,108,100]
noncomputable abbrev kH:=PyData.keyHash
noncomputable def names:List Str:=[zs [111,110,101],zs [111,116,104,101,114],zs [95,97,104,101,97,100],zs [113,117,101,117,101],zs [105,116,101,109],zs [104,101,97,112,112,117,115,104],zs [97,112,112,101,110,100],zs [112,108,97,99,101],zs [108,101,110],zs [104,101,97,112,112,111,112],zs [112,111,112],zs [80,114,105,111,114,105,116,121,69,114,114,111,114],zs [68,101,97,100,108,111,99,107,69,114,114,111,114],zs [80,114,105,111,114,105,116,121,76,111,111,112],zs [68,117,112,108,105,99,97,116,101,83,116,114,101,97,109,69,114,114,111,114],zs [77,105,115,115,105,110,103,83,116,114,101,97,109,69,114,114,111,114],zs [84,111,111,77,97,110,121,83,116,114,101,97,109,115,69,114,114,111,114],zs [66,97,100,87,101,105,103,104,116,69,114,114,111,114],zs [80,115,101,117,100,111,83,116,114,101,97,109,69,114,114,111,114],zs [83,116,114,101,97,109],zs [115,101,108,102],zs [115,116,114,101,97,109,95,105,100],zs [119,101,105,103,104,116],zs [95,95,105,110,105,116,95,95],zs [99,104,105,108,100,114,101,110],zs [112,97,114,101,110,116],zs [99,104,105,108,100,95,113,117,101,117,101],zs [97,99,116,105,118,101],zs [108,97,115,116,95,119,101,105,103,104,116],zs [95,100,101,102,105,99,105,116],zs [95,119,101,105,103,104,116],zs [118,97,108,117,101],zs [105,115,105,110,115,116,97,110,99,101],zs [105,110,116],zs [83,116,114,101,97,109,32,119,101,105,103,104,116,32,115,104,111,117,108,100,32,98,101,32,97,110,32,105,110,116,101,103,101,114],zs [83,116,114,101,97,109,32,119,101,105,103,104,116,32,109,117,115,116,32,98,101,32,98,101,116,119,101,101,110,32,49,32,97,110,100,32,50,53,54,32,40,105,110,99,108,117,115,105,118,101,41],zs [99,104,105,108,100],zs [97,100,100,95,99,104,105,108,100],zs [97,100,100,95,99,104,105,108,100,95,101,120,99,108,117,115,105,118,101],zs [111,108,100,95,99,104,105,108,100,114,101,110],zs [111,108,100,95,99,104,105,108,100],zs [115,116,114,105,112,95,99,104,105,108,100,114,101,110],zs [114,101,109,111,118,101,95,99,104,105,108,100],zs [114,101,109,111,118,101],zs [110,101,119,95,113,117,101,117,101],zs [108,101,118,101,108],zs [115,116,114,101,97,109],zs [110,101,119,95,99,104,105,108,100],zs [115,99,104,101,100,117,108,101],zs [110,101,120,116,95,115,116,114,101,97,109],zs [112,111,112,112,101,100,95,115,116,114,101,97,109,115],zs [118,97,108],zs [73,110,100,101,120,69,114,114,111,114],zs [95,95,114,101,112,114,95,95],zs [83,116,114,101,97,109,60,105,100,61,37,100,44,32,119,101,105,103,104,116,61,37,100,62],zs [95,95,101,113,95,95],zs [95,95,110,101,95,95],zs [95,95,108,116,95,95],zs [78,111,116,73,109,112,108,101,109,101,110,116,101,100],zs [95,95,108,101,95,95],zs [95,95,103,116,95,95],zs [95,95,103,101,95,95],zs [110,101,119,95,112,97,114,101,110,116],zs [99,117,114,114,101,110,116],zs [95,115,116,114,101,97,109,95,99,121,99,108,101],zs [95],zs [114,97,110,103,101],zs [83,116,114,101,97,109,32,37,100,32,105,115,32,105,110,32,97,32,112,114,105,111,114,105,116,121,32,108,111,111,112,46],zs [80,114,105,111,114,105,116,121,84,114,101,101],zs [109,97,120,105,109,117,109,95,115,116,114,101,97,109,115],zs [95,114,111,111,116,95,115,116,114,101,97,109],zs [95,115,116,114,101,97,109,115],zs [84,121,112,101,69,114,114,111,114],zs [109,97,120,105,109,117,109,95,115,116,114,101,97,109,115,32,109,117,115,116,32,98,101,32,97,110,32,105,110,116,46],zs [86,97,108,117,101,69,114,114,111,114],zs [109,97,120,105,109,117,109,95,115,116,114,101,97,109,115,32,109,117,115,116,32,98,101,32,97,32,112,111,115,105,116,105,118,101,32,105,110,116,101,103,101,114,46],zs [95,109,97,120,105,109,117,109,95,115,116,114,101,97,109,115],zs [112,97,114,101,110,116,95,115,116,114,101,97,109,95,105,100],zs [95,103,101,116,95,111,114,95,105,110,115,101,114,116,95,112,97,114,101,110,116],zs [75,101,121,69,114,114,111,114],zs [105,110,115,101,114,116,95,115,116,114,101,97,109],zs [98,108,111,99,107],zs [112,97,114,101,110,116,95,115,116,114,101,97,109],zs [105,110,115,101,114,116,101,100,95,115,116,114,101,97,109],zs [95,101,120,99,108,117,115,105,118,101,95,105,110,115,101,114,116],zs [100,101,112,101,110,100,115,95,111,110],zs [101,120,99,108,117,115,105,118,101],zs [83,116,114,101,97,109,32,37,100,32,97,108,114,101,97,100,121,32,105,110,32,116,114,101,101],zs [82,101,102,117,115,105,110,103,32,116,111,32,105,110,115,101,114,116,32,37,100,32,115,116,114,101,97,109,115,32,105,110,116,111,32,112,114,105,111,114,105,116,121,32,116,114,101,101,32,97,116,32,111,110,99,101],zs [83,116,114,101,97,109,32,37,100,32,109,117,115,116,32,110,111,116,32,100,101,112,101,110,100,32,111,110,32,105,116,115,101,108,102,46],zs [114,101,112,114,105,111,114,105,116,105,122,101],zs [67,97,110,110,111,116,32,114,101,112,114,105,111,114,105,116,105,122,101,32,115,116,114,101,97,109,32,48],zs [99,117,114,114,101,110,116,95,115,116,114,101,97,109],zs [83,116,114,101,97,109,32,37,100,32,110,111,116,32,105,110,32,116,114,101,101],zs [83,116,114,101,97,109,32,37,100,32,109,117,115,116,32,110,111,116,32,100,101,112,101,110,100,32,111,110,32,105,116,115,101,108,102],zs [99,121,99,108,101],zs [114,101,109,111,118,101,95,115,116,114,101,97,109],zs [67,97,110,110,111,116,32,114,101,109,111,118,101,32,115,116,114,101,97,109,32,48],zs [67,97,110,110,111,116,32,98,108,111,99,107,32,115,116,114,101,97,109,32,48],zs [117,110,98,108,111,99,107],zs [67,97,110,110,111,116,32,117,110,98,108,111,99,107,32,115,116,114,101,97,109,32,48],zs [95,95,105,116,101,114,95,95],zs [95,95,110,101,120,116,95,95],zs [78,111,32,117,110,98,108,111,99,107,101,100,32,115,116,114,101,97,109,115,32,116,111,32,115,99,104,101,100,117,108,101,46],zs [110,101,120,116],zs [95,108,97,119,95,112,97,114,101,110,116,115],zs [114,111,119,115],zs [112],zs [95,108,97,119,95,99,104,105,108,100,114,101,110],zs [121],zs [120],zs [95,108,97,119,95,98,101,108,111,119],zs [116,119,111],zs [110],zs [95,108,97,119,95,112,108,97,99,101],zs [102,114,101,115,104],zs [97,98,111,118,101],zs [97,108,111,110,101],zs [105,110,119,97,114,100],zs [95,108,97,119,95,115,105,109,112,108,101],zs [116,114,101,101],zs [95,108,97,119,95,116,117,114,110],zs [100,101,97,100,108,111,99,107],zs [115,99,114,105,112,116],zs [108,97,119],zs [110,117,109,98,101,114],zs [97,98,115],zs [116,117,114,110],zs [116,111,108,100],zs [115,111,114,116,101,100]]
noncomputable def nm (i:Nat):Str:=nmOf names i
noncomputable def scp (k:ScopeKind) (l:List (Str×NameKind)):Scope:={ kind:=k,names:=l,isGenerator:=false,isCoroutine:=false }
noncomputable def agl (a:List Arg) (d:List Expr):Arguments:=⟨[],a,none,[],[],none,d⟩
noncomputable def sct:List Scope:=[]
noncomputable def scs (i:Nat):Scope:=sct.getD i default
noncomputable def scm (l:List (Str×NameKind)) (m:List (Str×Const)):Scope:={ kind:=.function,names:=l,isGenerator:=false,isCoroutine:=false,more:=m }
noncomputable def ag0:List Arg:=[⟨(nm 0),none,(P4 2 11 14)⟩,⟨(nm 1),none,(P4 2 16 21)⟩]
noncomputable def dx0:List Expr:=[]
noncomputable def b0:Ss:=(.cons (.ife (.cmp (.sub (.lv 0 (P4 3 7 10)) (.cst (.int 0) 0 (P4 3 11 12)) (P4 3 7 13)) .ne (.sub (.lv 1 (P4 3 17 22)) (.cst (.int 0) 0 (P4 3 23 24)) (P4 3 17 25)) (P4 3 7 25)) (.cons (.ret (.cmp (.sub (.lv 0 (P4 4 15 18)) (.cst (.int 0) 0 (P4 4 19 20)) (P4 4 15 21)) .lt (.sub (.lv 1 (P4 4 24 29)) (.cst (.int 0) 0 (P4 4 30 31)) (P4 4 24 32)) (P4 4 15 32)) (P4 4 8 32)) .nil) .nil ⟨3,4,4,32⟩) (.cons (.ret (.cmp (.sub (.lv 0 (P4 5 11 14)) (.cst (.int 1) 0 (P4 5 15 16)) (P4 5 11 17)) .lt (.sub (.lv 1 (P4 5 20 25)) (.cst (.int 1) 0 (P4 5 26 27)) (P4 5 20 28)) (P4 5 11 28)) (P4 5 4 28)) .nil))
noncomputable def kd0:List (Nat×NameKind):=[(0,.local),(1,.local)]
noncomputable def sc0:Scope:=scp .function (kd0.map fun x=>(nm x.1,x.2))
noncomputable def ag1:List Arg:=[⟨(nm 3),none,(P4 6 13 18)⟩,⟨(nm 4),none,(P4 6 20 24)⟩]
noncomputable def dx1:List Expr:=[]
noncomputable def b1:Ss:=(.cons (.expr (.mcall (.lv 3 (P4 7 4 9)) 6 (P4 7 4 16) (.cons (.lv 4 (P4 7 17 21)) .nil) .nil (P4 7 4 22)) (P4 7 4 22)) (.cons (.asg (.nm 7 (P4 8 4 9)) (.bin .sub (.call (.gv 8 (P4 8 12 15)) (.cons (.lv 3 (P4 8 16 21)) .nil) .nil (P4 8 12 22)) (.cst (.int 1) 0 (P4 8 25 26)) (P4 8 12 26)) (P4 8 4 26)) (.cons (.whl (.band (.cons (.cmp (.lv 7 (P4 9 10 15)) .gt (.cst (.int 0) 0 (P4 9 18 19)) (P4 9 10 19)) (.cons (.call (.gv 2 (P4 9 24 30)) (.cons (.lv 4 (P4 9 31 35)) (.cons (.sub (.lv 3 (P4 9 37 42)) (.bin .sub (.lv 7 (P4 9 43 48)) (.cst (.int 1) 0 (P4 9 51 52)) (P4 9 43 52)) (P4 9 37 53)) .nil)) .nil (P4 9 24 54)) .nil)) (P4 9 10 54)) (.cons (.asg (.sub (.lv 3 (P4 10 8 13)) (.lv 7 (P4 10 14 19)) (P4 10 8 20)) (.sub (.lv 3 (P4 10 23 28)) (.bin .sub (.lv 7 (P4 10 29 34)) (.cst (.int 1) 0 (P4 10 37 38)) (P4 10 29 38)) (P4 10 23 39)) (P4 10 8 39)) (.cons (.aug 7 (P4 11 8 13) .sub (.cst (.int 1) 0 (P4 11 17 18)) (P4 11 8 18)) .nil)) ⟨9,4,11,18⟩) (.cons (.asg (.sub (.lv 3 (P4 12 4 9)) (.lv 7 (P4 12 10 15)) (P4 12 4 16)) (.lv 4 (P4 12 19 23)) (P4 12 4 23)) .nil))))
noncomputable def kd1:List (Nat×NameKind):=[(3,.local),(4,.local),(7,.local),(8,.globalImplicit),(2,.globalImplicit)]
noncomputable def sc1:Scope:=scp .function (kd1.map fun x=>(nm x.1,x.2))
noncomputable def ag2:List Arg:=[⟨(nm 3),none,(P4 13 12 17)⟩]
noncomputable def dx2:List Expr:=[]
noncomputable def b2:Ss:=(.cons (.ret (.mcall (.lv 3 (P4 14 11 16)) 10 (P4 14 11 20) (.cons (.cst (.int 0) 0 (P4 14 21 22)) .nil) .nil (P4 14 11 23)) (P4 14 4 23)) .nil)
noncomputable def kd2:List (Nat×NameKind):=[(3,.local)]
noncomputable def sc2:Scope:=scp .function (kd2.map fun x=>(nm x.1,x.2))
noncomputable def ag3:List Arg:=[⟨(nm 20),none,(P4 33 17 21)⟩,⟨(nm 21),none,(P4 33 23 32)⟩,⟨(nm 22),none,(P4 33 34 40)⟩]
noncomputable def dx3:List Expr:=[(.Constant (.int 16) 0 (P4 33 41 43))]
noncomputable def b3:Ss:=(.cons (.asg (.attr (.lv 20 (P4 34 8 12)) 21 (P4 34 8 22)) (.lv 21 (P4 34 25 34)) (P4 34 8 34)) (.cons (.asg (.attr (.lv 20 (P4 35 8 12)) 22 (P4 35 8 19)) (.lv 22 (P4 35 22 28)) (P4 35 8 28)) (.cons (.asg (.attr (.lv 20 (P4 36 8 12)) 24 (P4 36 8 21)) (.lst .nil (P4 36 24 26)) (P4 36 8 26)) (.cons (.asg (.attr (.lv 20 (P4 37 8 12)) 25 (P4 37 8 19)) (.cst .none 0 (P4 37 22 26)) (P4 37 8 26)) (.cons (.asg (.attr (.lv 20 (P4 38 8 12)) 26 (P4 38 8 24)) (.lst .nil (P4 38 27 29)) (P4 38 8 29)) (.cons (.asg (.attr (.lv 20 (P4 39 8 12)) 27 (P4 39 8 19)) (.cst (.bool true) 0 (P4 39 22 26)) (P4 39 8 26)) (.cons (.asg (.attr (.lv 20 (P4 40 8 12)) 28 (P4 40 8 24)) (.cst (.int 0) 0 (P4 40 27 28)) (P4 40 8 28)) (.cons (.asg (.attr (.lv 20 (P4 41 8 12)) 29 (P4 41 8 21)) (.cst (.int 0) 0 (P4 41 24 25)) (P4 41 8 25)) .nil))))))))
noncomputable def kd3:List (Nat×NameKind):=[(20,.local),(21,.local),(22,.local)]
noncomputable def sc3:Scope:=scp .function (kd3.map fun x=>(nm x.1,x.2))
noncomputable def ag4:List Arg:=[⟨(nm 20),none,(P4 44 15 19)⟩]
noncomputable def dx4:List Expr:=[]
noncomputable def b4:Ss:=(.cons (.ret (.attr (.lv 20 (P4 45 15 19)) 30 (P4 45 15 27)) (P4 45 8 27)) .nil)
noncomputable def kd4:List (Nat×NameKind):=[(20,.local)]
noncomputable def sc4:Scope:=scp .function (kd4.map fun x=>(nm x.1,x.2))
noncomputable def ag5:List Arg:=[⟨(nm 20),none,(P4 48 15 19)⟩,⟨(nm 31),none,(P4 48 21 26)⟩]
noncomputable def dx5:List Expr:=[]
noncomputable def b5:Ss:=(.cons (.ife (.not (.call (.gv 32 (P4 49 15 25)) (.cons (.lv 31 (P4 49 26 31)) (.cons (.gv 33 (P4 49 33 36)) .nil)) .nil (P4 49 15 37)) (P4 49 11 37)) (.cons (.raise 17 (P4 50 18 32) (.cst (.str 34) 0 (P4 50 33 69)) (P4 50 18 70) (P4 50 12 70)) .nil) (.cons (.ife (.not (.cmp2 (.cst (.int 1) 0 (P4 51 17 18)) .le (.lv 31 (P4 51 22 27)) .le (.cst (.int 256) 0 (P4 51 31 34)) (P4 51 17 34)) (P4 51 13 34)) (.cons (.raise 17 (P4 52 18 32) (.cst (.str 35) 0 (P4 52 33 86)) (P4 52 18 87) (P4 52 12 87)) .nil) .nil ⟨51,8,52,87⟩) .nil) ⟨49,8,52,87⟩) (.cons (.asg (.attr (.lv 20 (P4 53 8 12)) 30 (P4 53 8 20)) (.lv 31 (P4 53 23 28)) (P4 53 8 28)) .nil))
noncomputable def kd5:List (Nat×NameKind):=[(20,.local),(31,.local),(32,.globalImplicit),(33,.globalImplicit),(17,.globalImplicit)]
noncomputable def sc5:Scope:=scp .function (kd5.map fun x=>(nm x.1,x.2))
noncomputable def ag6:List Arg:=[⟨(nm 20),none,(P4 55 18 22)⟩,⟨(nm 36),none,(P4 55 24 29)⟩]
noncomputable def dx6:List Expr:=[]
noncomputable def b6:Ss:=(.cons (.asg (.attr (.lv 36 (P4 56 8 13)) 25 (P4 56 8 20)) (.lv 20 (P4 56 23 27)) (P4 56 8 27)) (.cons (.expr (.mcall (.attr (.lv 20 (P4 57 8 12)) 24 (P4 57 8 21)) 6 (P4 57 8 28) (.cons (.lv 36 (P4 57 29 34)) .nil) .nil (P4 57 8 35)) (P4 57 8 35)) (.cons (.expr (.call (.gv 5 (P4 58 8 16)) (.cons (.attr (.lv 20 (P4 58 17 21)) 26 (P4 58 17 33)) (.cons (.tup (.cons (.attr (.lv 20 (P4 58 36 40)) 28 (P4 58 36 52)) (.cons (.lv 36 (P4 58 54 59)) .nil)) 0 (P4 58 35 60)) .nil)) .nil (P4 58 8 61)) (P4 58 8 61)) .nil)))
noncomputable def kd6:List (Nat×NameKind):=[(20,.local),(36,.local),(5,.globalImplicit)]
noncomputable def sc6:Scope:=scp .function (kd6.map fun x=>(nm x.1,x.2))
noncomputable def ag7:List Arg:=[⟨(nm 20),none,(P4 60 28 32)⟩,⟨(nm 36),none,(P4 60 34 39)⟩]
noncomputable def dx7:List Expr:=[]
noncomputable def b7:Ss:=(.cons (.asg (.nm 39 (P4 61 8 20)) (.attr (.lv 20 (P4 61 23 27)) 24 (P4 61 23 36)) (P4 61 8 36)) (.cons (.asg (.attr (.lv 20 (P4 62 8 12)) 24 (P4 62 8 21)) (.lst .nil (P4 62 24 26)) (P4 62 8 26)) (.cons (.asg (.attr (.lv 20 (P4 63 8 12)) 26 (P4 63 8 24)) (.lst .nil (P4 63 27 29)) (P4 63 8 29)) (.cons (.asg (.attr (.lv 20 (P4 64 8 12)) 28 (P4 64 8 24)) (.cst (.int 0) 0 (P4 64 27 28)) (P4 64 8 28)) (.cons (.expr (.mcall (.lv 20 (P4 65 8 12)) 37 (P4 65 8 22) (.cons (.lv 36 (P4 65 23 28)) .nil) .nil (P4 65 8 29)) (P4 65 8 29)) (.cons (.for (.nm 40 (P4 66 12 21)) (.lv 39 (P4 66 25 37)) (.cons (.expr (.mcall (.lv 36 (P4 67 12 17)) 37 (P4 67 12 27) (.cons (.lv 40 (P4 67 28 37)) .nil) .nil (P4 67 12 38)) (P4 67 12 38)) .nil) ⟨66,8,67,38⟩) .nil))))))
noncomputable def kd7:List (Nat×NameKind):=[(20,.local),(36,.local),(39,.local),(40,.local)]
noncomputable def sc7:Scope:=scp .function (kd7.map fun x=>(nm x.1,x.2))
noncomputable def ag8:List Arg:=[⟨(nm 20),none,(P4 69 21 25)⟩,⟨(nm 36),none,(P4 69 27 32)⟩,⟨(nm 41),none,(P4 69 34 48)⟩]
noncomputable def dx8:List Expr:=[(.Constant (.bool true) 0 (P4 69 49 53))]
noncomputable def b8:Ss:=(.cons (.expr (.mcall (.attr (.lv 20 (P4 70 8 12)) 24 (P4 70 8 21)) 43 (P4 70 8 28) (.cons (.lv 36 (P4 70 29 34)) .nil) .nil (P4 70 8 35)) (P4 70 8 35)) (.cons (.asg (.nm 44 (P4 71 8 17)) (.lst .nil (P4 71 20 22)) (P4 71 8 22)) (.cons (.whl (.attr (.lv 20 (P4 72 14 18)) 26 (P4 72 14 30)) (.cons (.asg (.tup 45 (P4 73 12 17) 46 (P4 73 19 25) 0 (P4 73 12 25)) (.call (.gv 9 (P4 73 28 35)) (.cons (.attr (.lv 20 (P4 73 36 40)) 26 (P4 73 36 52)) .nil) .nil (P4 73 28 53)) (P4 73 12 53)) (.cons (.ife (.cmp (.lv 46 (P4 74 15 21)) .eq (.lv 36 (P4 74 25 30)) (P4 74 15 30)) (.cons (.cont (P4 75 16 24)) .nil) .nil ⟨74,12,75,24⟩) (.cons (.expr (.call (.gv 5 (P4 76 12 20)) (.cons (.lv 44 (P4 76 21 30)) (.cons (.tup (.cons (.lv 45 (P4 76 33 38)) (.cons (.lv 46 (P4 76 40 46)) .nil)) 0 (P4 76 32 47)) .nil)) .nil (P4 76 12 48)) (P4 76 12 48)) .nil))) ⟨72,8,76,48⟩) (.cons (.asg (.attr (.lv 20 (P4 77 8 12)) 26 (P4 77 8 24)) (.lv 44 (P4 77 27 36)) (P4 77 8 36)) (.cons (.ife (.lv 41 (P4 78 11 25)) (.cons (.for (.nm 47 (P4 79 16 25)) (.attr (.lv 36 (P4 79 29 34)) 24 (P4 79 29 43)) (.cons (.expr (.mcall (.lv 20 (P4 80 16 20)) 37 (P4 80 16 30) (.cons (.lv 47 (P4 80 31 40)) .nil) .nil (P4 80 16 41)) (P4 80 16 41)) .nil) ⟨79,12,80,41⟩) .nil) .nil ⟨78,8,80,41⟩) .nil)))))
noncomputable def kd8:List (Nat×NameKind):=[(20,.local),(36,.local),(41,.local),(44,.local),(45,.local),(46,.local),(47,.local),(9,.globalImplicit),(5,.globalImplicit)]
noncomputable def sc8:Scope:=scp .function (kd8.map fun x=>(nm x.1,x.2))
noncomputable def ag9:List Arg:=[⟨(nm 20),none,(P4 82 17 21)⟩]
noncomputable def dx9:List Expr:=[]
noncomputable def b9:Ss:=(.cons (.assert (.not (.attr (.lv 20 (P4 83 19 23)) 27 (P4 83 19 30)) (P4 83 15 30)) (P4 83 8 30)) (.cons (.asg (.nm 49 (P4 84 8 19)) (.cst .none 0 (P4 84 22 26)) (P4 84 8 26)) (.cons (.asg (.nm 50 (P4 85 8 22)) (.lst .nil (P4 85 25 27)) (P4 85 8 27)) (.cons (.fin (.cons (.whl (.cmp (.lv 49 (P4 87 18 29)) .is (.cst .none 0 (P4 87 33 37)) (P4 87 18 37)) (.cons (.asg (.nm 51 (P4 88 16 19)) (.call (.gv 9 (P4 88 22 29)) (.cons (.attr (.lv 20 (P4 88 30 34)) 26 (P4 88 30 46)) .nil) .nil (P4 88 22 47)) (P4 88 16 47)) (.cons (.expr (.mcall (.lv 50 (P4 89 16 30)) 6 (P4 89 16 37) (.cons (.lv 51 (P4 89 38 41)) .nil) .nil (P4 89 16 42)) (P4 89 16 42)) (.cons (.asg (.tup 45 (P4 90 16 21) 36 (P4 90 23 28) 0 (P4 90 16 28)) (.lv 51 (P4 90 31 34)) (P4 90 16 34)) (.cons (.ife (.attr (.lv 36 (P4 91 19 24)) 27 (P4 91 19 31)) (.cons (.asg (.nm 49 (P4 92 20 31)) (.attr (.lv 36 (P4 92 34 39)) 21 (P4 92 34 49)) (P4 92 20 49)) .nil) (.cons (.try (.cons (.asg (.nm 49 (P4 95 24 35)) (.mcall (.lv 36 (P4 95 38 43)) 48 (P4 95 38 52) .nil .nil (P4 95 38 54)) (P4 95 24 54)) .nil) (.cons 52 (P4 96 27 37) (.cons (.cont (P4 97 24 32)) .nil) ⟨96,20,97,32⟩ .nil) ⟨94,20,97,32⟩) .nil) ⟨91,16,97,32⟩) .nil)))) ⟨87,12,97,32⟩) .nil) (.cons (.for (.tup 45 (P4 99 16 21) 36 (P4 99 23 28) 0 (P4 99 16 28)) (.lv 50 (P4 99 32 46)) (.cons (.asg (.attr (.lv 20 (P4 100 16 20)) 28 (P4 100 16 32)) (.lv 45 (P4 100 35 40)) (P4 100 16 40)) (.cons (.aug 45 (P4 101 16 21) .add (.bin .fdiv (.bin .add (.cst (.int 256) 0 (P4 101 26 29)) (.attr (.lv 36 (P4 101 32 37)) 29 (P4 101 32 46)) (P4 101 26 46)) (.attr (.lv 36 (P4 101 51 56)) 22 (P4 101 51 63)) (P4 101 25 63)) (P4 101 16 63)) (.cons (.asg (.attr (.lv 36 (P4 102 16 21)) 29 (P4 102 16 30)) (.bin .mod (.bin .add (.cst (.int 256) 0 (P4 102 34 37)) (.attr (.lv 36 (P4 102 40 45)) 29 (P4 102 40 54)) (P4 102 34 54)) (.attr (.lv 36 (P4 102 58 63)) 22 (P4 102 58 70)) (P4 102 33 70)) (P4 102 16 70)) (.cons (.expr (.call (.gv 5 (P4 103 16 24)) (.cons (.attr (.lv 20 (P4 103 25 29)) 26 (P4 103 25 41)) (.cons (.tup (.cons (.lv 45 (P4 103 44 49)) (.cons (.lv 36 (P4 103 51 56)) .nil)) 0 (P4 103 43 57)) .nil)) .nil (P4 103 16 58)) (P4 103 16 58)) .nil)))) ⟨99,12,103,58⟩) .nil) ⟨86,8,103,58⟩) (.cons (.ret (.lv 49 (P4 104 15 26)) (P4 104 8 26)) .nil)))))
noncomputable def kd9:List (Nat×NameKind):=[(20,.local),(49,.local),(50,.local),(51,.local),(45,.local),(36,.local),(9,.globalImplicit),(52,.globalImplicit),(5,.globalImplicit)]
noncomputable def sc9:Scope:=scp .function (kd9.map fun x=>(nm x.1,x.2))
noncomputable def ag10:List Arg:=[⟨(nm 20),none,(P4 106 17 21)⟩]
noncomputable def dx10:List Expr:=[]
noncomputable def b10:Ss:=(.cons (.ret (.bin .mod (.cst (.str 54) 0 (P4 107 15 41)) (.tup (.cons (.attr (.lv 20 (P4 107 45 49)) 21 (P4 107 45 59)) (.cons (.attr (.lv 20 (P4 107 61 65)) 22 (P4 107 61 72)) .nil)) 0 (P4 107 44 73)) (P4 107 15 73)) (P4 107 8 73)) .nil)
noncomputable def kd10:List (Nat×NameKind):=[(20,.local)]
noncomputable def sc10:Scope:=scp .function (kd10.map fun x=>(nm x.1,x.2))
noncomputable def ag11:List Arg:=[⟨(nm 20),none,(P4 109 15 19)⟩,⟨(nm 1),none,(P4 109 21 26)⟩]
noncomputable def dx11:List Expr:=[]
noncomputable def b11:Ss:=(.cons (.ife (.not (.call (.gv 32 (P4 110 15 25)) (.cons (.lv 1 (P4 110 26 31)) (.cons (.gv 19 (P4 110 33 39)) .nil)) .nil (P4 110 15 40)) (P4 110 11 40)) (.cons (.ret (.cst (.bool false) 0 (P4 111 19 24)) (P4 111 12 24)) .nil) .nil ⟨110,8,111,24⟩) (.cons (.ret (.cmp (.attr (.lv 20 (P4 112 15 19)) 21 (P4 112 15 29)) .eq (.attr (.lv 1 (P4 112 33 38)) 21 (P4 112 33 48)) (P4 112 15 48)) (P4 112 8 48)) .nil))
noncomputable def kd11:List (Nat×NameKind):=[(20,.local),(1,.local),(32,.globalImplicit),(19,.globalImplicit)]
noncomputable def sc11:Scope:=scp .function (kd11.map fun x=>(nm x.1,x.2))
noncomputable def ag12:List Arg:=[⟨(nm 20),none,(P4 114 15 19)⟩,⟨(nm 1),none,(P4 114 21 26)⟩]
noncomputable def dx12:List Expr:=[]
noncomputable def b12:Ss:=(.cons (.ret (.not (.mcall (.lv 20 (P4 115 19 23)) 55 (P4 115 19 30) (.cons (.lv 1 (P4 115 31 36)) .nil) .nil (P4 115 19 37)) (P4 115 15 37)) (P4 115 8 37)) .nil)
noncomputable def kd12:List (Nat×NameKind):=[(20,.local),(1,.local)]
noncomputable def sc12:Scope:=scp .function (kd12.map fun x=>(nm x.1,x.2))
noncomputable def ag13:List Arg:=[⟨(nm 20),none,(P4 117 15 19)⟩,⟨(nm 1),none,(P4 117 21 26)⟩]
noncomputable def dx13:List Expr:=[]
noncomputable def b13:Ss:=(.cons (.ife (.not (.call (.gv 32 (P4 118 15 25)) (.cons (.lv 1 (P4 118 26 31)) (.cons (.gv 19 (P4 118 33 39)) .nil)) .nil (P4 118 15 40)) (P4 118 11 40)) (.cons (.ret (.gv 58 (P4 119 19 33)) (P4 119 12 33)) .nil) .nil ⟨118,8,119,33⟩) (.cons (.ret (.cmp (.attr (.lv 20 (P4 120 15 19)) 21 (P4 120 15 29)) .lt (.attr (.lv 1 (P4 120 32 37)) 21 (P4 120 32 47)) (P4 120 15 47)) (P4 120 8 47)) .nil))
noncomputable def kd13:List (Nat×NameKind):=[(20,.local),(1,.local),(32,.globalImplicit),(19,.globalImplicit),(58,.globalImplicit)]
noncomputable def sc13:Scope:=scp .function (kd13.map fun x=>(nm x.1,x.2))
noncomputable def ag14:List Arg:=[⟨(nm 20),none,(P4 122 15 19)⟩,⟨(nm 1),none,(P4 122 21 26)⟩]
noncomputable def dx14:List Expr:=[]
noncomputable def b14:Ss:=(.cons (.ife (.not (.call (.gv 32 (P4 123 15 25)) (.cons (.lv 1 (P4 123 26 31)) (.cons (.gv 19 (P4 123 33 39)) .nil)) .nil (P4 123 15 40)) (P4 123 11 40)) (.cons (.ret (.gv 58 (P4 124 19 33)) (P4 124 12 33)) .nil) .nil ⟨123,8,124,33⟩) (.cons (.ret (.cmp (.attr (.lv 20 (P4 125 15 19)) 21 (P4 125 15 29)) .le (.attr (.lv 1 (P4 125 33 38)) 21 (P4 125 33 48)) (P4 125 15 48)) (P4 125 8 48)) .nil))
noncomputable def kd14:List (Nat×NameKind):=[(20,.local),(1,.local),(32,.globalImplicit),(19,.globalImplicit),(58,.globalImplicit)]
noncomputable def sc14:Scope:=scp .function (kd14.map fun x=>(nm x.1,x.2))
noncomputable def ag15:List Arg:=[⟨(nm 20),none,(P4 127 15 19)⟩,⟨(nm 1),none,(P4 127 21 26)⟩]
noncomputable def dx15:List Expr:=[]
noncomputable def b15:Ss:=(.cons (.ife (.not (.call (.gv 32 (P4 128 15 25)) (.cons (.lv 1 (P4 128 26 31)) (.cons (.gv 19 (P4 128 33 39)) .nil)) .nil (P4 128 15 40)) (P4 128 11 40)) (.cons (.ret (.gv 58 (P4 129 19 33)) (P4 129 12 33)) .nil) .nil ⟨128,8,129,33⟩) (.cons (.ret (.cmp (.attr (.lv 20 (P4 130 15 19)) 21 (P4 130 15 29)) .gt (.attr (.lv 1 (P4 130 32 37)) 21 (P4 130 32 47)) (P4 130 15 47)) (P4 130 8 47)) .nil))
noncomputable def kd15:List (Nat×NameKind):=[(20,.local),(1,.local),(32,.globalImplicit),(19,.globalImplicit),(58,.globalImplicit)]
noncomputable def sc15:Scope:=scp .function (kd15.map fun x=>(nm x.1,x.2))
noncomputable def ag16:List Arg:=[⟨(nm 20),none,(P4 132 15 19)⟩,⟨(nm 1),none,(P4 132 21 26)⟩]
noncomputable def dx16:List Expr:=[]
noncomputable def b16:Ss:=(.cons (.ife (.not (.call (.gv 32 (P4 133 15 25)) (.cons (.lv 1 (P4 133 26 31)) (.cons (.gv 19 (P4 133 33 39)) .nil)) .nil (P4 133 15 40)) (P4 133 11 40)) (.cons (.ret (.gv 58 (P4 134 19 33)) (P4 134 12 33)) .nil) .nil ⟨133,8,134,33⟩) (.cons (.ret (.cmp (.attr (.lv 20 (P4 135 15 19)) 21 (P4 135 15 29)) .ge (.attr (.lv 1 (P4 135 33 38)) 21 (P4 135 33 48)) (P4 135 15 48)) (P4 135 8 48)) .nil))
noncomputable def kd16:List (Nat×NameKind):=[(20,.local),(1,.local),(32,.globalImplicit),(19,.globalImplicit),(58,.globalImplicit)]
noncomputable def sc16:Scope:=scp .function (kd16.map fun x=>(nm x.1,x.2))
noncomputable def ag17:List Arg:=[⟨(nm 62),none,(P4 136 18 28)⟩,⟨(nm 63),none,(P4 136 30 37)⟩]
noncomputable def dx17:List Expr:=[]
noncomputable def b17:Ss:=(.cons (.asg (.nm 25 (P4 137 4 10)) (.lv 62 (P4 137 13 23)) (P4 137 4 23)) (.cons (.for (.nm 65 (P4 138 8 9)) (.call (.gv 66 (P4 138 13 18)) (.cons (.cst (.int 100) 0 (P4 138 19 22)) .nil) .nil (P4 138 13 23)) (.cons (.asg (.nm 25 (P4 139 8 14)) (.attr (.lv 25 (P4 139 17 23)) 25 (P4 139 17 30)) (P4 139 8 30)) (.cons (.ife (.cmp (.attr (.lv 25 (P4 140 11 17)) 21 (P4 140 11 27)) .eq (.attr (.lv 63 (P4 140 31 38)) 21 (P4 140 31 48)) (P4 140 11 48)) (.cons (.ret (.cst (.bool true) 0 (P4 141 19 23)) (P4 141 12 23)) .nil) (.cons (.ife (.cmp (.attr (.lv 25 (P4 142 13 19)) 21 (P4 142 13 29)) .eq (.cst (.int 0) 0 (P4 142 33 34)) (P4 142 13 34)) (.cons (.ret (.cst (.bool false) 0 (P4 143 19 24)) (P4 143 12 24)) .nil) .nil ⟨142,8,143,24⟩) .nil) ⟨140,8,143,24⟩) .nil)) ⟨138,4,143,24⟩) (.cons (.raise 13 (P4 144 10 22) (.bin .mod (.cst (.str 67) 0 (P4 144 23 57)) (.attr (.lv 62 (P4 144 60 70)) 21 (P4 144 60 80)) (P4 144 23 80)) (P4 144 10 81) (P4 144 4 81)) .nil)))
noncomputable def kd17:List (Nat×NameKind):=[(62,.local),(63,.local),(25,.local),(65,.local),(66,.globalImplicit),(13,.globalImplicit)]
noncomputable def sc17:Scope:=scp .function (kd17.map fun x=>(nm x.1,x.2))
noncomputable def ag18:List Arg:=[⟨(nm 20),none,(P4 147 17 21)⟩,⟨(nm 69),none,(P4 147 23 38)⟩]
noncomputable def dx18:List Expr:=[(.Constant (.int 1000) 0 (P4 147 39 43))]
noncomputable def b18:Ss:=(.cons (.asg (.attr (.lv 20 (P4 148 8 12)) 70 (P4 148 8 25)) (.call (.gv 19 (P4 148 28 34)) .nil (.cons 21 (.cst (.int 0) 0 (P4 148 45 46)) (P4 148 35 46) (.cons 22 (.cst (.int 1) 0 (P4 148 55 56)) (P4 148 48 56) .nil)) (P4 148 28 57)) (P4 148 8 57)) (.cons (.asg (.attr (.attr (.lv 20 (P4 149 8 12)) 70 (P4 149 8 25)) 27 (P4 149 8 32)) (.cst (.bool false) 0 (P4 149 35 40)) (P4 149 8 40)) (.cons (.asg (.attr (.lv 20 (P4 150 8 12)) 71 (P4 150 8 21)) (.dct1 (.cst (.int 0) 0 (P4 150 25 26)) (.attr (.lv 20 (P4 150 28 32)) 70 (P4 150 28 45)) (P4 150 24 46)) (P4 150 8 46)) (.cons (.ife (.not (.call (.gv 32 (P4 151 15 25)) (.cons (.lv 69 (P4 151 26 41)) (.cons (.gv 33 (P4 151 43 46)) .nil)) .nil (P4 151 15 47)) (P4 151 11 47)) (.cons (.raise 72 (P4 152 18 27) (.cst (.str 73) 0 (P4 152 28 61)) (P4 152 18 62) (P4 152 12 62)) .nil) .nil ⟨151,8,152,62⟩) (.cons (.ife (.cmp (.lv 69 (P4 153 11 26)) .le (.cst (.int 0) 0 (P4 153 30 31)) (P4 153 11 31)) (.cons (.raise 74 (P4 154 18 28) (.cst (.str 75) 0 (P4 154 29 74)) (P4 154 18 75) (P4 154 12 75)) .nil) .nil ⟨153,8,154,75⟩) (.cons (.asg (.attr (.lv 20 (P4 155 8 12)) 76 (P4 155 8 29)) (.lv 69 (P4 155 32 47)) (P4 155 8 47)) .nil))))))
noncomputable def kd18:List (Nat×NameKind):=[(20,.local),(69,.local),(19,.globalImplicit),(32,.globalImplicit),(33,.globalImplicit),(72,.globalImplicit),(74,.globalImplicit)]
noncomputable def sc18:Scope:=scp .function (kd18.map fun x=>(nm x.1,x.2))
noncomputable def ag19:List Arg:=[⟨(nm 20),none,(P4 157 30 34)⟩,⟨(nm 77),none,(P4 157 36 52)⟩]
noncomputable def dx19:List Expr:=[]
noncomputable def b19:Ss:=(.cons (.try (.cons (.ret (.sub (.attr (.lv 20 (P4 159 19 23)) 71 (P4 159 19 32)) (.lv 77 (P4 159 33 49)) (P4 159 19 50)) (P4 159 12 50)) .nil) (.cons 79 (P4 160 15 23) (.cons (.expr (.mcall (.lv 20 (P4 161 12 16)) 80 (P4 161 12 30) (.cons (.lv 77 (P4 161 31 47)) .nil) .nil (P4 161 12 48)) (P4 161 12 48)) (.cons (.expr (.mcall (.lv 20 (P4 162 12 16)) 81 (P4 162 12 22) (.cons (.lv 77 (P4 162 23 39)) .nil) .nil (P4 162 12 40)) (P4 162 12 40)) (.cons (.ret (.sub (.attr (.lv 20 (P4 163 19 23)) 71 (P4 163 19 32)) (.lv 77 (P4 163 33 49)) (P4 163 19 50)) (P4 163 12 50)) .nil))) ⟨160,8,163,50⟩ .nil) ⟨158,8,163,50⟩) .nil)
noncomputable def kd19:List (Nat×NameKind):=[(20,.local),(77,.local),(79,.globalImplicit)]
noncomputable def sc19:Scope:=scp .function (kd19.map fun x=>(nm x.1,x.2))
noncomputable def ag20:List Arg:=[⟨(nm 20),none,(P4 165 26 30)⟩,⟨(nm 82),none,(P4 165 32 45)⟩,⟨(nm 83),none,(P4 165 47 62)⟩]
noncomputable def dx20:List Expr:=[]
noncomputable def b20:Ss:=(.cons (.expr (.mcall (.lv 82 (P4 166 8 21)) 38 (P4 166 8 41) (.cons (.lv 83 (P4 166 42 57)) .nil) .nil (P4 166 8 58)) (P4 166 8 58)) .nil)
noncomputable def kd20:List (Nat×NameKind):=[(20,.local),(82,.local),(83,.local)]
noncomputable def sc20:Scope:=scp .function (kd20.map fun x=>(nm x.1,x.2))
noncomputable def ag21:List Arg:=[⟨(nm 20),none,(P4 168 22 26)⟩,⟨(nm 21),none,(P4 168 28 37)⟩,⟨(nm 85),none,(P4 168 39 49)⟩,⟨(nm 22),none,(P4 168 56 62)⟩,⟨(nm 86),none,(P4 168 67 76)⟩]
noncomputable def dx21:List Expr:=[(.Constant .none 0 (P4 168 50 54)),(.Constant (.int 16) 0 (P4 168 63 65)),(.Constant (.bool false) 0 (P4 168 77 82))]
noncomputable def b21s0:S:=(.ife (.cmp (.lv 21 (P4 169 11 20)) .isin (.attr (.lv 20 (P4 169 24 28)) 71 (P4 169 24 37)) (P4 169 11 37)) (.cons (.raise 14 (P4 170 18 38) (.bin .mod (.cst (.str 87) 0 (P4 170 39 66)) (.lv 21 (P4 170 69 78)) (P4 170 39 78)) (P4 170 18 79) (P4 170 12 79)) .nil) .nil ⟨169,8,170,79⟩)
noncomputable def b21s1:S:=(.ife (.cmp (.bin .add (.call (.gv 8 (P4 171 11 14)) (.cons (.attr (.lv 20 (P4 171 15 19)) 71 (P4 171 15 28)) .nil) .nil (P4 171 11 29)) (.cst (.int 1) 0 (P4 171 32 33)) (P4 171 11 33)) .gt (.attr (.lv 20 (P4 171 36 40)) 76 (P4 171 36 57)) (P4 171 11 57)) (.cons (.raise 16 (P4 172 18 37) (.bin .mod (.cst (.str 88) 0 (P4 172 38 96)) (.bin .add (.attr (.lv 20 (P4 172 100 104)) 76 (P4 172 100 121)) (.cst (.int 1) 0 (P4 172 124 125)) (P4 172 100 125)) (P4 172 38 126)) (P4 172 18 127) (P4 172 12 127)) .nil) .nil ⟨171,8,172,127⟩)
noncomputable def b21s2:S:=(.asg (.nm 46 (P4 173 8 14)) (.call (.gv 19 (P4 173 17 23)) (.cons (.lv 21 (P4 173 24 33)) (.cons (.lv 22 (P4 173 35 41)) .nil)) .nil (P4 173 17 42)) (P4 173 8 42))
noncomputable def b21s3:S:=(.ife (.not (.lv 85 (P4 174 15 25)) (P4 174 11 25)) (.cons (.asg (.nm 85 (P4 175 12 22)) (.cst (.int 0) 0 (P4 175 25 26)) (P4 175 12 26)) .nil) (.cons (.ife (.cmp (.lv 85 (P4 176 13 23)) .eq (.lv 21 (P4 176 27 36)) (P4 176 13 36)) (.cons (.raise 13 (P4 177 18 30) (.bin .mod (.cst (.str 89) 0 (P4 177 31 69)) (.lv 21 (P4 177 72 81)) (P4 177 31 81)) (P4 177 18 82) (P4 177 12 82)) .nil) .nil ⟨176,8,177,82⟩) .nil) ⟨174,8,177,82⟩)
noncomputable def b21s4:S:=(.ife (.lv 86 (P4 178 11 20)) (.cons (.asg (.nm 82 (P4 179 12 25)) (.mcall (.lv 20 (P4 179 28 32)) 78 (P4 179 28 54) (.cons (.lv 85 (P4 179 55 65)) .nil) .nil (P4 179 28 66)) (P4 179 12 66)) (.cons (.expr (.mcall (.lv 20 (P4 180 12 16)) 84 (P4 180 12 34) (.cons (.lv 82 (P4 180 35 48)) (.cons (.lv 46 (P4 180 50 56)) .nil)) .nil (P4 180 12 57)) (P4 180 12 57)) (.cons (.asg (.sub (.attr (.lv 20 (P4 181 12 16)) 71 (P4 181 12 25)) (.lv 21 (P4 181 26 35)) (P4 181 12 36)) (.lv 46 (P4 181 39 45)) (P4 181 12 45)) (.cons (.ret0 (P4 182 12 18)) .nil)))) .nil ⟨178,8,182,18⟩)
noncomputable def b21s5:S:=(.asg (.nm 25 (P4 183 8 14)) (.mcall (.lv 20 (P4 183 17 21)) 78 (P4 183 17 43) (.cons (.lv 85 (P4 183 44 54)) .nil) .nil (P4 183 17 55)) (P4 183 8 55))
noncomputable def b21s6:S:=(.expr (.mcall (.lv 25 (P4 184 8 14)) 37 (P4 184 8 24) (.cons (.lv 46 (P4 184 25 31)) .nil) .nil (P4 184 8 32)) (P4 184 8 32))
noncomputable def b21s7:S:=(.asg (.sub (.attr (.lv 20 (P4 185 8 12)) 71 (P4 185 8 21)) (.lv 21 (P4 185 22 31)) (P4 185 8 32)) (.lv 46 (P4 185 35 41)) (P4 185 8 41))
noncomputable def b21:Ss:=(.cons b21s0 (.cons b21s1 (.cons b21s2 (.cons b21s3 (.cons b21s4 (.cons b21s5 (.cons b21s6 (.cons b21s7 .nil))))))))
noncomputable def kd21:List (Nat×NameKind):=[(20,.local),(21,.local),(85,.local),(22,.local),(86,.local),(46,.local),(82,.local),(25,.local),(14,.globalImplicit),(8,.globalImplicit),(16,.globalImplicit),(19,.globalImplicit),(13,.globalImplicit)]
noncomputable def sc21:Scope:=scp .function (kd21.map fun x=>(nm x.1,x.2))
noncomputable def ag22:List Arg:=[⟨(nm 20),none,(P4 187 21 25)⟩,⟨(nm 21),none,(P4 187 27 36)⟩,⟨(nm 85),none,(P4 187 38 48)⟩,⟨(nm 22),none,(P4 187 55 61)⟩,⟨(nm 86),none,(P4 187 66 75)⟩]
noncomputable def dx22:List Expr:=[(.Constant .none 0 (P4 187 49 53)),(.Constant (.int 16) 0 (P4 187 62 64)),(.Constant (.bool false) 0 (P4 187 76 81))]
noncomputable def b22s0:S:=(.ife (.cmp (.lv 21 (P4 188 11 20)) .eq (.cst (.int 0) 0 (P4 188 24 25)) (P4 188 11 25)) (.cons (.raise 18 (P4 189 18 35) (.cst (.str 91) 0 (P4 189 36 66)) (P4 189 18 67) (P4 189 12 67)) .nil) .nil ⟨188,8,189,67⟩)
noncomputable def b22s1:S:=(.try (.cons (.asg (.nm 92 (P4 191 12 26)) (.sub (.attr (.lv 20 (P4 191 29 33)) 71 (P4 191 29 42)) (.lv 21 (P4 191 43 52)) (P4 191 29 53)) (P4 191 12 53)) .nil) (.cons 79 (P4 192 15 23) (.cons (.raise 15 (P4 193 18 36) (.bin .mod (.cst (.str 93) 0 (P4 193 37 60)) (.lv 21 (P4 193 63 72)) (P4 193 37 72)) (P4 193 18 73) (P4 193 12 73)) .nil) ⟨192,8,193,73⟩ .nil) ⟨190,8,193,73⟩)
noncomputable def b22s2:S:=(.ife (.lv 85 (P4 194 11 21)) (.cons (.ife (.cmp (.lv 85 (P4 195 15 25)) .eq (.lv 21 (P4 195 29 38)) (P4 195 15 38)) (.cons (.raise 13 (P4 196 22 34) (.bin .mod (.cst (.str 94) 0 (P4 196 35 72)) (.lv 21 (P4 196 75 84)) (P4 196 35 84)) (P4 196 22 85) (P4 196 16 85)) .nil) .nil ⟨195,12,196,85⟩) (.cons (.asg (.nm 62 (P4 197 12 22)) (.mcall (.lv 20 (P4 197 25 29)) 78 (P4 197 25 51) (.cons (.lv 85 (P4 197 52 62)) .nil) .nil (P4 197 25 63)) (P4 197 12 63)) (.cons (.asg (.nm 95 (P4 198 12 17)) (.call (.gv 64 (P4 198 20 33)) (.cons (.lv 62 (P4 198 34 44)) (.cons (.lv 92 (P4 198 46 60)) .nil)) .nil (P4 198 20 61)) (P4 198 12 61)) .nil))) (.cons (.asg (.nm 62 (P4 200 12 22)) (.sub (.attr (.lv 20 (P4 200 25 29)) 71 (P4 200 25 38)) (.cst (.int 0) 0 (P4 200 39 40)) (P4 200 25 41)) (P4 200 12 41)) (.cons (.asg (.nm 95 (P4 201 12 17)) (.cst (.bool false) 0 (P4 201 20 25)) (P4 201 12 25)) .nil)) ⟨194,8,201,25⟩)
noncomputable def b22s3:S:=(.asg (.attr (.lv 92 (P4 202 8 22)) 22 (P4 202 8 29)) (.lv 22 (P4 202 32 38)) (P4 202 8 38))
noncomputable def b22s4:S:=(.ife (.lv 95 (P4 203 11 16)) (.cons (.expr (.mcall (.attr (.lv 62 (P4 204 12 22)) 25 (P4 204 12 29)) 42 (P4 204 12 42) (.cons (.lv 62 (P4 204 43 53)) .nil) .nil (P4 204 12 54)) (P4 204 12 54)) (.cons (.expr (.mcall (.attr (.lv 92 (P4 205 12 26)) 25 (P4 205 12 33)) 37 (P4 205 12 43) (.cons (.lv 62 (P4 205 44 54)) .nil) .nil (P4 205 12 55)) (P4 205 12 55)) .nil)) .nil ⟨203,8,205,55⟩)
noncomputable def b22s5:S:=(.expr (.mcall (.attr (.lv 92 (P4 206 8 22)) 25 (P4 206 8 29)) 42 (P4 206 8 42) (.cons (.lv 92 (P4 206 43 57)) .nil) (.cons 41 (.cst (.bool false) 0 (P4 206 74 79)) (P4 206 59 79) .nil) (P4 206 8 80)) (P4 206 8 80))
noncomputable def b22s6:S:=(.ife (.lv 86 (P4 207 11 20)) (.cons (.expr (.mcall (.lv 62 (P4 208 12 22)) 38 (P4 208 12 42) (.cons (.lv 92 (P4 208 43 57)) .nil) .nil (P4 208 12 58)) (P4 208 12 58)) .nil) (.cons (.expr (.mcall (.lv 62 (P4 210 12 22)) 37 (P4 210 12 32) (.cons (.lv 92 (P4 210 33 47)) .nil) .nil (P4 210 12 48)) (P4 210 12 48)) .nil) ⟨207,8,210,48⟩)
noncomputable def b22:Ss:=(.cons b22s0 (.cons b22s1 (.cons b22s2 (.cons b22s3 (.cons b22s4 (.cons b22s5 (.cons b22s6 .nil)))))))
noncomputable def kd22:List (Nat×NameKind):=[(20,.local),(21,.local),(85,.local),(22,.local),(86,.local),(92,.local),(62,.local),(95,.local),(18,.globalImplicit),(79,.globalImplicit),(15,.globalImplicit),(13,.globalImplicit),(64,.globalImplicit)]
noncomputable def sc22:Scope:=scp .function (kd22.map fun x=>(nm x.1,x.2))
noncomputable def ag23:List Arg:=[⟨(nm 20),none,(P4 212 22 26)⟩,⟨(nm 21),none,(P4 212 28 37)⟩]
noncomputable def dx23:List Expr:=[]
noncomputable def b23:Ss:=(.cons (.ife (.cmp (.lv 21 (P4 213 11 20)) .eq (.cst (.int 0) 0 (P4 213 24 25)) (P4 213 11 25)) (.cons (.raise 18 (P4 214 18 35) (.cst (.str 97) 0 (P4 214 36 60)) (P4 214 18 61) (P4 214 12 61)) .nil) .nil ⟨213,8,214,61⟩) (.cons (.try (.cons (.asg (.nm 36 (P4 216 12 17)) (.mcall (.attr (.lv 20 (P4 216 20 24)) 71 (P4 216 20 33)) 10 (P4 216 20 37) (.cons (.lv 21 (P4 216 38 47)) .nil) .nil (P4 216 20 48)) (P4 216 12 48)) .nil) (.cons 79 (P4 217 15 23) (.cons (.raise 15 (P4 218 18 36) (.bin .mod (.cst (.str 93) 0 (P4 218 37 60)) (.lv 21 (P4 218 63 72)) (P4 218 37 72)) (P4 218 18 73) (P4 218 12 73)) .nil) ⟨217,8,218,73⟩ .nil) ⟨215,8,218,73⟩) (.cons (.asg (.nm 25 (P4 219 8 14)) (.attr (.lv 36 (P4 219 17 22)) 25 (P4 219 17 29)) (P4 219 8 29)) (.cons (.expr (.mcall (.lv 25 (P4 220 8 14)) 42 (P4 220 8 27) (.cons (.lv 36 (P4 220 28 33)) .nil) .nil (P4 220 8 34)) (P4 220 8 34)) .nil))))
noncomputable def kd23:List (Nat×NameKind):=[(20,.local),(21,.local),(36,.local),(25,.local),(18,.globalImplicit),(79,.globalImplicit),(15,.globalImplicit)]
noncomputable def sc23:Scope:=scp .function (kd23.map fun x=>(nm x.1,x.2))
noncomputable def ag24:List Arg:=[⟨(nm 20),none,(P4 222 14 18)⟩,⟨(nm 21),none,(P4 222 20 29)⟩]
noncomputable def dx24:List Expr:=[]
noncomputable def b24:Ss:=(.cons (.ife (.cmp (.lv 21 (P4 223 11 20)) .eq (.cst (.int 0) 0 (P4 223 24 25)) (P4 223 11 25)) (.cons (.raise 18 (P4 224 18 35) (.cst (.str 98) 0 (P4 224 36 59)) (P4 224 18 60) (P4 224 12 60)) .nil) .nil ⟨223,8,224,60⟩) (.cons (.try (.cons (.asg (.attr (.sub (.attr (.lv 20 (P4 226 12 16)) 71 (P4 226 12 25)) (.lv 21 (P4 226 26 35)) (P4 226 12 36)) 27 (P4 226 12 43)) (.cst (.bool false) 0 (P4 226 46 51)) (P4 226 12 51)) .nil) (.cons 79 (P4 227 15 23) (.cons (.raise 15 (P4 228 18 36) (.bin .mod (.cst (.str 93) 0 (P4 228 37 60)) (.lv 21 (P4 228 63 72)) (P4 228 37 72)) (P4 228 18 73) (P4 228 12 73)) .nil) ⟨227,8,228,73⟩ .nil) ⟨225,8,228,73⟩) .nil))
noncomputable def kd24:List (Nat×NameKind):=[(20,.local),(21,.local),(18,.globalImplicit),(79,.globalImplicit),(15,.globalImplicit)]
noncomputable def sc24:Scope:=scp .function (kd24.map fun x=>(nm x.1,x.2))
noncomputable def ag25:List Arg:=[⟨(nm 20),none,(P4 230 16 20)⟩,⟨(nm 21),none,(P4 230 22 31)⟩]
noncomputable def dx25:List Expr:=[]
noncomputable def b25:Ss:=(.cons (.ife (.cmp (.lv 21 (P4 231 11 20)) .eq (.cst (.int 0) 0 (P4 231 24 25)) (P4 231 11 25)) (.cons (.raise 18 (P4 232 18 35) (.cst (.str 100) 0 (P4 232 36 61)) (P4 232 18 62) (P4 232 12 62)) .nil) .nil ⟨231,8,232,62⟩) (.cons (.try (.cons (.asg (.attr (.sub (.attr (.lv 20 (P4 234 12 16)) 71 (P4 234 12 25)) (.lv 21 (P4 234 26 35)) (P4 234 12 36)) 27 (P4 234 12 43)) (.cst (.bool true) 0 (P4 234 46 50)) (P4 234 12 50)) .nil) (.cons 79 (P4 235 15 23) (.cons (.raise 15 (P4 236 18 36) (.bin .mod (.cst (.str 93) 0 (P4 236 37 60)) (.lv 21 (P4 236 63 72)) (P4 236 37 72)) (P4 236 18 73) (P4 236 12 73)) .nil) ⟨235,8,236,73⟩ .nil) ⟨233,8,236,73⟩) .nil))
noncomputable def kd25:List (Nat×NameKind):=[(20,.local),(21,.local),(18,.globalImplicit),(79,.globalImplicit),(15,.globalImplicit)]
noncomputable def sc25:Scope:=scp .function (kd25.map fun x=>(nm x.1,x.2))
noncomputable def ag26:List Arg:=[⟨(nm 20),none,(P4 238 17 21)⟩]
noncomputable def dx26:List Expr:=[]
noncomputable def b26:Ss:=(.cons (.ret (.lv 20 (P4 239 15 19)) (P4 239 8 19)) .nil)
noncomputable def kd26:List (Nat×NameKind):=[(20,.local)]
noncomputable def sc26:Scope:=scp .function (kd26.map fun x=>(nm x.1,x.2))
noncomputable def ag27:List Arg:=[⟨(nm 20),none,(P4 241 17 21)⟩]
noncomputable def dx27:List Expr:=[]
noncomputable def b27:Ss:=(.cons (.try (.cons (.ret (.mcall (.attr (.lv 20 (P4 243 19 23)) 70 (P4 243 19 36)) 48 (P4 243 19 45) .nil .nil (P4 243 19 47)) (P4 243 12 47)) .nil) (.cons 52 (P4 244 15 25) (.cons (.raise 12 (P4 245 18 31) (.cst (.str 103) 0 (P4 245 32 67)) (P4 245 18 68) (P4 245 12 68)) .nil) ⟨244,8,245,68⟩ .nil) ⟨242,8,245,68⟩) .nil)
noncomputable def kd27:List (Nat×NameKind):=[(20,.local),(52,.globalImplicit),(12,.globalImplicit)]
noncomputable def sc27:Scope:=scp .function (kd27.map fun x=>(nm x.1,x.2))
noncomputable def ag28:List Arg:=[⟨(nm 20),none,(P4 247 13 17)⟩]
noncomputable def dx28:List Expr:=[]
noncomputable def b28:Ss:=(.cons (.ret (.mcall (.lv 20 (P4 248 15 19)) 102 (P4 248 15 28) .nil .nil (P4 248 15 30)) (P4 248 8 30)) .nil)
noncomputable def kd28:List (Nat×NameKind):=[(20,.local)]
noncomputable def sc28:Scope:=scp .function (kd28.map fun x=>(nm x.1,x.2))
noncomputable def ag29:List Arg:=[]
noncomputable def dx29:List Expr:=[]
noncomputable def b29:Ss:=(.cons (.ret (.lst (.cons (.cst .none 0 (P4 251 12 16)) (.cons (.cst (.int 3) 0 (P4 251 18 19)) (.cons (.cst (.int 5) 0 (P4 251 21 22)) (.cons (.cst (.int 7) 0 (P4 251 24 25)) (.cons (.cst (.int 9) 0 (P4 251 27 28)) (.cons (.cst (.int 11) 0 (P4 251 30 32)) (.cons (.cst (.int 13) 0 (P4 251 34 36)) (.cons (.cst (.int 15) 0 (P4 251 38 40)) (.cons (.cst (.int 17) 0 (P4 251 42 44)) .nil))))))))) (P4 251 11 45)) (P4 251 4 45)) .nil)
noncomputable def kd29:List (Nat×NameKind):=[]
noncomputable def sc29:Scope:=scp .function (kd29.map fun x=>(nm x.1,x.2))
noncomputable def ag30:List Arg:=[⟨(nm 106),none,(P4 252 18 22)⟩,⟨(nm 107),none,(P4 252 24 25)⟩]
noncomputable def dx30:List Expr:=[]
noncomputable def b30:Ss:=(.cons (.ret (.comp (.lv 109 (P4 253 12 13)) 109 (P4 253 18 19) (.cv 106 (P4 253 23 27)) (.cons (.cmp (.sub (.sub (.cv 106 (P4 253 31 35)) (.lv 109 (P4 253 36 37)) (P4 253 31 38)) (.cst (.int 0) 0 (P4 253 39 40)) (P4 253 31 41)) .eq (.cv 107 (P4 253 45 46)) (P4 253 31 46)) .nil) [107,106] (P4 253 11 47)) (P4 253 4 47)) .nil)
noncomputable def kd30:List (Nat×NameKind):=[(106,.cell),(107,.cell)]
noncomputable def sc30:Scope:=scm (kd30.map fun x=>(nm x.1,x.2)) [((zs [102,97,115,116]),(.str (nm 106))),((zs [102,97,115,116]),(.str (nm 107))),((zs [102,97,115,116]),(.str (nm 109)))]
noncomputable def ag31:List Arg:=[⟨(nm 106),none,(P4 254 15 19)⟩,⟨(nm 107),none,(P4 254 21 22)⟩,⟨(nm 110),none,(P4 254 24 25)⟩]
noncomputable def dx31:List Expr:=[]
noncomputable def b31:Ss:=(.cons (.whl (.band (.cons (.cmp (.lv 107 (P4 255 10 11)) .isnot (.cst .none 0 (P4 255 19 23)) (P4 255 10 23)) (.cons (.cmp (.lv 107 (P4 255 28 29)) .ne (.lv 110 (P4 255 33 34)) (P4 255 28 34)) .nil)) (P4 255 10 34)) (.cons (.asg (.nm 107 (P4 256 8 9)) (.sub (.sub (.lv 106 (P4 256 12 16)) (.lv 107 (P4 256 17 18)) (P4 256 12 19)) (.cst (.int 0) 0 (P4 256 20 21)) (P4 256 12 22)) (P4 256 8 22)) .nil) ⟨255,4,256,22⟩) (.cons (.ret (.cmp (.lv 107 (P4 257 11 12)) .eq (.lv 110 (P4 257 16 17)) (P4 257 11 17)) (P4 257 4 17)) .nil))
noncomputable def kd31:List (Nat×NameKind):=[(106,.local),(107,.local),(110,.local)]
noncomputable def sc31:Scope:=scp .function (kd31.map fun x=>(nm x.1,x.2))
noncomputable def ag32:List Arg:=[⟨(nm 0),none,(P4 258 15 18)⟩,⟨(nm 112),none,(P4 258 20 23)⟩,⟨(nm 106),none,(P4 258 25 29)⟩,⟨(nm 113),none,(P4 258 31 32)⟩]
noncomputable def dx32:List Expr:=[]
noncomputable def b32s0:S:=(.asg (.nm 115 (P4 259 4 9)) (.cmp (.bin .mod (.lv 113 (P4 259 12 13)) (.cst (.int 11) 0 (P4 259 16 18)) (P4 259 12 18)) .lt (.cst (.int 4) 0 (P4 259 21 22)) (P4 259 12 22)) (P4 259 4 22))
noncomputable def b32s1:S:=(.asg (.nm 110 (P4 260 4 5)) (.bin .add (.cst (.int 3) 0 (P4 260 8 9)) (.bin .mul (.cst (.int 2) 0 (P4 260 12 13)) (.bin .mod (.lv 113 (P4 260 17 18)) (.cst (.int 8) 0 (P4 260 21 22)) (P4 260 17 22)) (P4 260 12 23)) (P4 260 8 23)) (P4 260 4 23))
noncomputable def b32s2:S:=(.asg (.nm 107 (P4 261 4 5)) (.sub (.call (.gv 105 (P4 261 8 20)) .nil .nil (P4 261 8 22)) (.bin .mod (.lv 113 (P4 261 23 24)) (.cst (.int 9) 0 (P4 261 27 28)) (P4 261 23 28)) (P4 261 8 29)) (P4 261 4 29))
noncomputable def b32s3:S:=(.asg (.nm 116 (P4 262 4 9)) (.ife (.cmp (.lv 107 (P4 262 17 18)) .is (.cst .none 0 (P4 262 22 26)) (P4 262 17 26)) (.cst (.int 0) 0 (P4 262 12 13)) (.lv 107 (P4 262 32 33)) (P4 262 12 33)) (P4 262 4 33))
noncomputable def b32s4:S:=(.asg (.nm 117 (P4 263 4 9)) (.cmp (.bin .mod (.lv 113 (P4 263 12 13)) (.cst (.int 5) 0 (P4 263 16 17)) (P4 263 12 17)) .eq (.cst (.int 0) 0 (P4 263 21 22)) (P4 263 12 22)) (P4 263 4 22))
noncomputable def b32s5:S:=(.asg (.nm 22 (P4 264 4 10)) (.bin .add (.cst (.int 1) 0 (P4 264 13 14)) (.bin .mod (.bin .add (.bin .add (.bin .fdiv (.lv 113 (P4 264 18 19)) (.cst (.int 51480) 0 (P4 264 23 28)) (P4 264 18 28)) (.lv 113 (P4 264 31 32)) (P4 264 18 32)) (.cst (.int 15) 0 (P4 264 35 37)) (P4 264 18 37)) (.cst (.int 256) 0 (P4 264 41 44)) (P4 264 17 44)) (P4 264 13 44)) (P4 264 4 44))
noncomputable def b32s6:S:=(.ife (.bor (.cons (.cmp (.lv 110 (P4 265 7 8)) .eq (.lv 116 (P4 265 12 17)) (P4 265 7 17)) (.cons (.cmp (.lv 115 (P4 265 21 26)) .eq (.cmp (.lv 110 (P4 265 31 32)) .isin (.lv 106 (P4 265 36 40)) (P4 265 31 40)) (P4 265 21 41)) .nil)) (P4 265 7 41)) (.cons (.ret0 (P4 266 8 14)) .nil) .nil ⟨265,4,266,14⟩)
noncomputable def b32s7:S:=(.asg (.nm 118 (P4 267 4 10)) (.band (.cons (.not (.lv 115 (P4 267 17 22)) (P4 267 13 22)) (.cons (.cmp (.lv 116 (P4 267 27 32)) .isin (.lv 106 (P4 267 36 40)) (P4 267 27 40)) (.cons (.call (.gv 111 (P4 267 45 55)) (.cons (.lv 106 (P4 267 56 60)) (.cons (.lv 116 (P4 267 62 67)) (.cons (.lv 110 (P4 267 69 70)) .nil))) .nil (P4 267 45 71)) .nil))) (P4 267 13 71)) (P4 267 4 71))
noncomputable def b32s8:S:=(.ife (.band (.cons (.lv 118 (P4 268 7 13)) (.cons (.cmp (.call (.gv 108 (P4 268 18 31)) (.cons (.lv 106 (P4 268 32 36)) (.cons (.lv 116 (P4 268 38 43)) .nil)) .nil (P4 268 18 44)) .ne (.lst .nil (P4 268 48 50)) (P4 268 18 50)) .nil)) (P4 268 7 50)) (.cons (.ret0 (P4 269 8 14)) .nil) .nil ⟨268,4,269,14⟩)
noncomputable def b32s9:S:=(.ife (.lv 115 (P4 270 7 12)) (.cons (.expr (.mcall (.lv 0 (P4 271 8 11)) 80 (P4 271 8 25) (.cons (.lv 110 (P4 271 26 27)) (.cons (.lv 107 (P4 271 29 30)) (.cons (.lv 22 (P4 271 32 38)) (.cons (.lv 117 (P4 271 40 45)) .nil)))) .nil (P4 271 8 46)) (P4 271 8 46)) .nil) (.cons (.expr (.mcall (.lv 0 (P4 273 8 11)) 90 (P4 273 8 24) (.cons (.lv 110 (P4 273 25 26)) (.cons (.lv 107 (P4 273 28 29)) (.cons (.lv 22 (P4 273 31 37)) (.cons (.lv 117 (P4 273 39 44)) .nil)))) .nil (P4 273 8 45)) (P4 273 8 45)) .nil) ⟨270,4,273,45⟩)
noncomputable def b32s10:S:=(.ife (.cmp (.lv 116 (P4 274 7 12)) .notin (.lv 106 (P4 274 20 24)) (P4 274 7 24)) (.cons (.expr (.mcall (.lv 112 (P4 275 8 11)) 80 (P4 275 8 25) (.cons (.lv 116 (P4 275 26 31)) .nil) .nil (P4 275 8 32)) (P4 275 8 32)) (.cons (.expr (.mcall (.lv 112 (P4 276 8 11)) 81 (P4 276 8 17) (.cons (.lv 116 (P4 276 18 23)) .nil) .nil (P4 276 8 24)) (P4 276 8 24)) (.cons (.asg (.sub (.lv 106 (P4 277 8 12)) (.lv 116 (P4 277 13 18)) (P4 277 8 19)) (.lst (.cons (.cst (.int 0) 0 (P4 277 23 24)) (.cons (.cst (.int 16) 0 (P4 277 26 28)) .nil)) (P4 277 22 29)) (P4 277 8 29)) .nil))) .nil ⟨274,4,277,29⟩)
noncomputable def b32s11:S:=(.ife (.lv 118 (P4 278 7 13)) (.cons (.expr (.mcall (.lv 112 (P4 279 8 11)) 90 (P4 279 8 24) (.cons (.lv 116 (P4 279 25 30)) (.cons (.sub (.sub (.lv 106 (P4 279 32 36)) (.lv 110 (P4 279 37 38)) (P4 279 32 39)) (.cst (.int 0) 0 (P4 279 40 41)) (P4 279 32 42)) (.cons (.sub (.sub (.lv 106 (P4 279 44 48)) (.lv 116 (P4 279 49 54)) (P4 279 44 55)) (.cst (.int 1) 0 (P4 279 56 57)) (P4 279 44 58)) .nil))) .nil (P4 279 8 59)) (P4 279 8 59)) (.cons (.asg (.sub (.sub (.lv 106 (P4 280 8 12)) (.lv 116 (P4 280 13 18)) (P4 280 8 19)) (.cst (.int 0) 0 (P4 280 20 21)) (P4 280 8 22)) (.sub (.sub (.lv 106 (P4 280 25 29)) (.lv 110 (P4 280 30 31)) (P4 280 25 32)) (.cst (.int 0) 0 (P4 280 33 34)) (P4 280 25 35)) (P4 280 8 35)) .nil)) .nil ⟨278,4,280,35⟩)
noncomputable def b32s12:S:=(.ife (.lv 115 (P4 281 7 12)) (.cons (.expr (.mcall (.lv 112 (P4 282 8 11)) 80 (P4 282 8 25) (.cons (.lv 110 (P4 282 26 27)) (.cons (.lv 116 (P4 282 29 34)) (.cons (.lv 22 (P4 282 36 42)) .nil))) .nil (P4 282 8 43)) (P4 282 8 43)) .nil) (.cons (.expr (.mcall (.lv 112 (P4 284 8 11)) 90 (P4 284 8 24) (.cons (.lv 110 (P4 284 25 26)) (.cons (.lv 116 (P4 284 28 33)) (.cons (.lv 22 (P4 284 35 41)) .nil))) .nil (P4 284 8 42)) (P4 284 8 42)) .nil) ⟨281,4,284,42⟩)
noncomputable def b32s13:S:=(.asg (.sub (.lv 106 (P4 285 4 8)) (.lv 110 (P4 285 9 10)) (P4 285 4 11)) (.lst (.cons (.lv 116 (P4 285 15 20)) (.cons (.lv 22 (P4 285 22 28)) .nil)) (P4 285 14 29)) (P4 285 4 29))
noncomputable def b32s14:S:=(.ife (.lv 117 (P4 286 7 12)) (.cons (.for (.nm 109 (P4 287 12 13)) (.call (.gv 108 (P4 287 17 30)) (.cons (.lv 106 (P4 287 31 35)) (.cons (.lv 116 (P4 287 37 42)) .nil)) .nil (P4 287 17 43)) (.cons (.ife (.cmp (.lv 109 (P4 288 15 16)) .ne (.lv 110 (P4 288 20 21)) (P4 288 15 21)) (.cons (.expr (.mcall (.lv 112 (P4 289 16 19)) 90 (P4 289 16 32) (.cons (.lv 109 (P4 289 33 34)) (.cons (.lv 110 (P4 289 36 37)) (.cons (.sub (.sub (.lv 106 (P4 289 39 43)) (.lv 109 (P4 289 44 45)) (P4 289 39 46)) (.cst (.int 1) 0 (P4 289 47 48)) (P4 289 39 49)) .nil))) .nil (P4 289 16 50)) (P4 289 16 50)) (.cons (.asg (.sub (.sub (.lv 106 (P4 290 16 20)) (.lv 109 (P4 290 21 22)) (P4 290 16 23)) (.cst (.int 0) 0 (P4 290 24 25)) (P4 290 16 26)) (.lv 110 (P4 290 29 30)) (P4 290 16 30)) .nil)) .nil ⟨288,12,290,30⟩) .nil) ⟨287,8,290,30⟩) .nil) .nil ⟨286,4,290,30⟩)
noncomputable def b32s15:S:=(.ife (.band (.cons (.lv 115 (P4 291 7 12)) (.cons (.cmp (.bin .mod (.bin .add (.lv 113 (P4 291 18 19)) (.cst (.int 5) 0 (P4 291 22 23)) (P4 291 18 23)) (.cst (.int 13) 0 (P4 291 27 29)) (P4 291 17 29)) .lt (.cst (.int 5) 0 (P4 291 32 33)) (P4 291 17 33)) .nil)) (P4 291 7 33)) (.cons (.expr (.mcall (.lv 0 (P4 292 8 11)) 81 (P4 292 8 17) (.cons (.lv 110 (P4 292 18 19)) .nil) .nil (P4 292 8 20)) (P4 292 8 20)) (.cons (.expr (.mcall (.lv 112 (P4 293 8 11)) 81 (P4 293 8 17) (.cons (.lv 110 (P4 293 18 19)) .nil) .nil (P4 293 8 20)) (P4 293 8 20)) .nil)) .nil ⟨291,4,293,20⟩)
noncomputable def b32:Ss:=(.cons b32s0 (.cons b32s1 (.cons b32s2 (.cons b32s3 (.cons b32s4 (.cons b32s5 (.cons b32s6 (.cons b32s7 (.cons b32s8 (.cons b32s9 (.cons b32s10 (.cons b32s11 (.cons b32s12 (.cons b32s13 (.cons b32s14 (.cons b32s15 .nil))))))))))))))))
noncomputable def kd32:List (Nat×NameKind):=[(0,.local),(112,.local),(106,.local),(113,.local),(115,.local),(110,.local),(107,.local),(116,.local),(117,.local),(22,.local),(118,.local),(109,.local),(105,.globalImplicit),(111,.globalImplicit),(108,.globalImplicit)]
noncomputable def sc32:Scope:=scp .function (kd32.map fun x=>(nm x.1,x.2))
noncomputable def ag33:List Arg:=[⟨(nm 0),none,(P4 294 16 19)⟩,⟨(nm 112),none,(P4 294 21 24)⟩,⟨(nm 106),none,(P4 294 26 30)⟩,⟨(nm 113),none,(P4 294 32 33)⟩]
noncomputable def dx33:List Expr:=[]
noncomputable def b33s0:S:=(.asg (.nm 110 (P4 295 4 5)) (.bin .add (.cst (.int 3) 0 (P4 295 8 9)) (.bin .mul (.cst (.int 2) 0 (P4 295 12 13)) (.bin .mod (.lv 113 (P4 295 17 18)) (.cst (.int 8) 0 (P4 295 21 22)) (P4 295 17 22)) (P4 295 12 23)) (P4 295 8 23)) (P4 295 4 23))
noncomputable def b33s1:S:=(.ife (.cmp (.lv 110 (P4 296 7 8)) .notin (.lv 106 (P4 296 16 20)) (P4 296 7 20)) (.cons (.ret0 (P4 297 8 14)) .nil) .nil ⟨296,4,297,14⟩)
noncomputable def b33s2:S:=(.ife (.cmp (.bin .mod (.lv 113 (P4 298 7 8)) (.cst (.int 11) 0 (P4 298 11 13)) (P4 298 7 13)) .eq (.cst (.int 6) 0 (P4 298 17 18)) (P4 298 7 18)) (.cons (.expr (.mcall (.lv 0 (P4 299 8 11)) 96 (P4 299 8 25) (.cons (.lv 110 (P4 299 26 27)) .nil) .nil (P4 299 8 28)) (P4 299 8 28)) (.cons (.for (.nm 109 (P4 300 12 13)) (.call (.gv 108 (P4 300 17 30)) (.cons (.lv 106 (P4 300 31 35)) (.cons (.lv 110 (P4 300 37 38)) .nil)) .nil (P4 300 17 39)) (.cons (.expr (.mcall (.lv 112 (P4 301 12 15)) 90 (P4 301 12 28) (.cons (.lv 109 (P4 301 29 30)) (.cons (.sub (.sub (.lv 106 (P4 301 32 36)) (.lv 110 (P4 301 37 38)) (P4 301 32 39)) (.cst (.int 0) 0 (P4 301 40 41)) (P4 301 32 42)) (.cons (.sub (.sub (.lv 106 (P4 301 44 48)) (.lv 109 (P4 301 49 50)) (P4 301 44 51)) (.cst (.int 1) 0 (P4 301 52 53)) (P4 301 44 54)) .nil))) .nil (P4 301 12 55)) (P4 301 12 55)) (.cons (.asg (.sub (.sub (.lv 106 (P4 302 12 16)) (.lv 109 (P4 302 17 18)) (P4 302 12 19)) (.cst (.int 0) 0 (P4 302 20 21)) (P4 302 12 22)) (.sub (.sub (.lv 106 (P4 302 25 29)) (.lv 110 (P4 302 30 31)) (P4 302 25 32)) (.cst (.int 0) 0 (P4 302 33 34)) (P4 302 25 35)) (P4 302 12 35)) .nil)) ⟨300,8,302,35⟩) (.cons (.expr (.mcall (.lv 112 (P4 303 8 11)) 96 (P4 303 8 25) (.cons (.lv 110 (P4 303 26 27)) .nil) .nil (P4 303 8 28)) (P4 303 8 28)) (.cons (.expr (.mcall (.lv 106 (P4 304 8 12)) 10 (P4 304 8 16) (.cons (.lv 110 (P4 304 17 18)) .nil) .nil (P4 304 8 19)) (P4 304 8 19)) .nil)))) (.cons (.ife (.cmp (.bin .mod (.lv 113 (P4 305 9 10)) (.cst (.int 11) 0 (P4 305 13 15)) (P4 305 9 15)) .eq (.cst (.int 7) 0 (P4 305 19 20)) (P4 305 9 20)) (.cons (.expr (.mcall (.lv 0 (P4 306 8 11)) 81 (P4 306 8 17) (.cons (.lv 110 (P4 306 18 19)) .nil) .nil (P4 306 8 20)) (P4 306 8 20)) (.cons (.expr (.mcall (.lv 112 (P4 307 8 11)) 81 (P4 307 8 17) (.cons (.lv 110 (P4 307 18 19)) .nil) .nil (P4 307 8 20)) (P4 307 8 20)) .nil)) (.cons (.expr (.mcall (.lv 0 (P4 309 8 11)) 99 (P4 309 8 19) (.cons (.lv 110 (P4 309 20 21)) .nil) .nil (P4 309 8 22)) (P4 309 8 22)) (.cons (.expr (.mcall (.lv 112 (P4 310 8 11)) 99 (P4 310 8 19) (.cons (.lv 110 (P4 310 20 21)) .nil) .nil (P4 310 8 22)) (P4 310 8 22)) .nil)) ⟨305,4,310,22⟩) .nil) ⟨298,4,310,22⟩)
noncomputable def b33:Ss:=(.cons b33s0 (.cons b33s1 (.cons b33s2 .nil)))
noncomputable def kd33:List (Nat×NameKind):=[(0,.local),(112,.local),(106,.local),(113,.local),(110,.local),(109,.local),(108,.globalImplicit)]
noncomputable def sc33:Scope:=scp .function (kd33.map fun x=>(nm x.1,x.2))
noncomputable def ag34:List Arg:=[⟨(nm 120),none,(P4 311 14 18)⟩]
noncomputable def dx34:List Expr:=[]
noncomputable def b34:Ss:=(.cons (.try (.cons (.ret (.mcall (.lv 120 (P4 313 15 19)) 104 (P4 313 15 24) .nil .nil (P4 313 15 26)) (P4 313 8 26)) .nil) (.cons 12 (P4 314 11 24) (.cons (.ret (.cst (.str 122) 0 (P4 315 15 25)) (P4 315 8 25)) .nil) ⟨314,4,315,25⟩ .nil) ⟨312,4,315,25⟩) .nil)
noncomputable def kd34:List (Nat×NameKind):=[(120,.local),(12,.globalImplicit)]
noncomputable def sc34:Scope:=scp .function (kd34.map fun x=>(nm x.1,x.2))
noncomputable def ag35:List Arg:=[⟨(nm 123),none,(P4 316 8 14)⟩]
noncomputable def dx35:List Expr:=[]
noncomputable def b35s0:S:=(.asg (.nm 0 (P4 317 4 7)) (.call (.gv 68 (P4 317 10 22)) .nil .nil (P4 317 10 24)) (P4 317 4 24))
noncomputable def b35s1:S:=(.asg (.nm 112 (P4 318 4 7)) (.call (.gv 68 (P4 318 10 22)) .nil .nil (P4 318 10 24)) (P4 318 4 24))
noncomputable def b35s2:S:=(.asg (.nm 106 (P4 319 4 8)) (.dct1 (.cst (.int 0) 0 (P4 319 12 13)) (.lst (.cons (.cst .none 0 (P4 319 16 20)) (.cons (.cst (.int 1) 0 (P4 319 22 23)) .nil)) (P4 319 15 24)) (P4 319 11 25)) (P4 319 4 25))
noncomputable def b35s3:S:=(.for (.nm 125 (P4 320 8 14)) (.bin .add (.upto (.lv 123 (P4 320 18 24)) (.cst (.int 12) 0 (P4 320 26 28)) (P4 320 18 29) (P4 320 25 28)) (.bin .mul (.lst (.cons (.cst (.int 10) 0 (P4 320 33 35)) .nil) (P4 320 32 36)) (.cst (.int 4) 0 (P4 320 39 40)) (P4 320 32 40)) (P4 320 18 40)) (.cons (.asg (.nm 113 (P4 321 8 9)) (.call (.gv 126 (P4 321 12 15)) (.cons (.lv 125 (P4 321 16 22)) .nil) .nil (P4 321 12 23)) (P4 321 8 23)) (.cons (.ife (.cmp (.bin .mod (.lv 113 (P4 322 11 12)) (.cst (.int 11) 0 (P4 322 15 17)) (P4 322 11 17)) .lt (.cst (.int 6) 0 (P4 322 20 21)) (P4 322 11 21)) (.cons (.expr (.call (.gv 114 (P4 323 12 22)) (.cons (.lv 0 (P4 323 23 26)) (.cons (.lv 112 (P4 323 28 31)) (.cons (.lv 106 (P4 323 33 37)) (.cons (.lv 113 (P4 323 39 40)) .nil)))) .nil (P4 323 12 41)) (P4 323 12 41)) .nil) (.cons (.ife (.cmp (.bin .mod (.lv 113 (P4 324 13 14)) (.cst (.int 11) 0 (P4 324 17 19)) (P4 324 13 19)) .lt (.cst (.int 9) 0 (P4 324 22 23)) (P4 324 13 23)) (.cons (.expr (.call (.gv 119 (P4 325 12 23)) (.cons (.lv 0 (P4 325 24 27)) (.cons (.lv 112 (P4 325 29 32)) (.cons (.lv 106 (P4 325 34 38)) (.cons (.lv 113 (P4 325 40 41)) .nil)))) .nil (P4 325 12 42)) (P4 325 12 42)) .nil) (.cons (.for (.nm 127 (P4 327 16 20)) (.call (.gv 66 (P4 327 24 29)) (.cons (.cst (.int 2) 0 (P4 327 30 31)) .nil) .nil (P4 327 24 32)) (.cons (.asg (.nm 128 (P4 328 16 20)) (.call (.gv 121 (P4 328 23 32)) (.cons (.lv 0 (P4 328 33 36)) .nil) .nil (P4 328 23 37)) (P4 328 16 37)) (.cons (.ife (.bor (.cons (.cmp (.lv 128 (P4 329 19 23)) .is (.cst .none 0 (P4 329 27 31)) (P4 329 19 31)) (.cons (.cmp (.call (.gv 121 (P4 329 35 44)) (.cons (.lv 112 (P4 329 45 48)) .nil) .nil (P4 329 35 49)) .ne (.lv 128 (P4 329 53 57)) (P4 329 35 57)) .nil)) (P4 329 19 57)) (.cons (.ret (.cst (.bool false) 0 (P4 330 27 32)) (P4 330 20 32)) .nil) .nil ⟨329,16,330,32⟩) .nil)) ⟨327,12,330,32⟩) .nil) ⟨324,8,330,32⟩) .nil) ⟨322,8,330,32⟩) .nil)) ⟨320,4,330,32⟩)
noncomputable def b35s4:S:=(.ret (.cst (.bool true) 0 (P4 331 11 15)) (P4 331 4 15))
noncomputable def b35:Ss:=(.cons b35s0 (.cons b35s1 (.cons b35s2 (.cons b35s3 (.cons b35s4 .nil)))))
noncomputable def kd35:List (Nat×NameKind):=[(123,.local),(0,.local),(112,.local),(106,.local),(125,.local),(113,.local),(127,.local),(128,.local),(68,.globalImplicit),(126,.globalImplicit),(114,.globalImplicit),(119,.globalImplicit),(66,.globalImplicit),(121,.globalImplicit)]
noncomputable def sc35:Scope:=scp .function (kd35.map fun x=>(nm x.1,x.2))
noncomputable def fnTab:List Fn:=[⟨[0,1],[],b0,[]⟩,⟨[3,4],[],b1,[]⟩,⟨[3],[],b2,[]⟩,⟨[20,21,22],[(22,(.int 16))],b3,[]⟩,⟨[20],[],b4,[]⟩,⟨[20,31],[],b5,[]⟩,⟨[20,36],[],b6,[]⟩,⟨[20,36],[],b7,[]⟩,⟨[20,36,41],[(41,(.bool true))],b8,[]⟩,⟨[20],[],b9,[]⟩,⟨[20],[],b10,[]⟩,⟨[20,1],[],b11,[]⟩,⟨[20,1],[],b12,[]⟩,⟨[20,1],[],b13,[]⟩,⟨[20,1],[],b14,[]⟩,⟨[20,1],[],b15,[]⟩,⟨[20,1],[],b16,[]⟩,⟨[62,63],[],b17,[]⟩,⟨[20,69],[(69,(.int 1000))],b18,[]⟩,⟨[20,77],[],b19,[]⟩,⟨[20,82,83],[],b20,[]⟩,⟨[20,21,85,22,86],[(85,.none),(22,(.int 16)),(86,(.bool false))],b21,[]⟩,⟨[20,21,85,22,86],[(85,.none),(22,(.int 16)),(86,(.bool false))],b22,[]⟩,⟨[20,21],[],b23,[]⟩,⟨[20,21],[],b24,[]⟩,⟨[20,21],[],b25,[]⟩,⟨[20],[],b26,[]⟩,⟨[20],[],b27,[]⟩,⟨[20],[],b28,[]⟩,⟨[],[],b29,[]⟩,⟨[106,107],[],b30,[106,107]⟩,⟨[106,107,110],[],b31,[]⟩,⟨[0,112,106,113],[],b32,[]⟩,⟨[0,112,106,113],[],b33,[]⟩,⟨[120],[],b34,[]⟩,⟨[123],[],b35,[]⟩]
noncomputable def faTab:List Addr:=[21,28,35,147,154,163,171,178,186,193,200,207,214,221,228,235,242,256,271,278,285,293,301,308,315,322,329,336,343,357,362,369,376,383,390,397]
noncomputable def fd0:FuncData:=fnOf (nm 2) (nm 2) (agl ag0 dx0) (b0.dec nm scs) sc0 .none .none .none (.str zA1 187) none (.ref 20) .none
noncomputable def fd1:FuncData:=fnOf (nm 5) (nm 5) (agl ag1 dx1) (b1.dec nm scs) sc1 .none .none .none (.str zA1 187) none (.ref 27) .none
noncomputable def fd2:FuncData:=fnOf (nm 9) (nm 9) (agl ag2 dx2) (b2.dec nm scs) sc2 .none .none .none (.str zA1 187) none (.ref 34) .none
noncomputable def fd3:FuncData:=fnOf (nm 23) (zs [83,116,114,101,97,109,46,95,95,105,110,105,116,95,95]) (agl ag3 dx3) (b3.dec nm scs) sc3 (.ref 140) .none .none (.str zA1 187) none (.ref 146) .none
noncomputable def fd4:FuncData:=fnOf (nm 22) zA10 (agl ag4 dx4) (b4.dec nm scs) sc4 .none .none .none (.str zA1 187) none (.ref 153) .none
noncomputable def fd5:FuncData:=fnOf (nm 22) zA10 (agl ag5 dx5) (b5.dec nm scs) sc5 .none .none .none (.str zA1 187) none (.ref 162) .none
noncomputable def fd6:FuncData:=fnOf (nm 37) zA24 (agl ag6 dx6) (b6.dec nm scs) sc6 .none .none .none (.str zA1 187) none (.ref 170) .none
noncomputable def fd7:FuncData:=fnOf (nm 38) zA14 (agl ag7 dx7) (b7.dec nm scs) sc7 .none .none .none (.str zA1 187) none (.ref 177) .none
noncomputable def fd8:FuncData:=fnOf (nm 42) zA20 (agl ag8 dx8) (b8.dec nm scs) sc8 (.ref 179) .none .none (.str zA1 187) none (.ref 185) .none
noncomputable def fd9:FuncData:=fnOf (nm 48) (zs [83,116,114,101,97,109,46,115,99,104,101,100,117,108,101]) (agl ag9 dx9) (b9.dec nm scs) sc9 .none .none .none (.str zA1 187) none (.ref 192) .none
noncomputable def fd10:FuncData:=fnOf (nm 53) (zs [83,116,114,101,97,109,46,95,95,114,101,112,114,95,95]) (agl ag10 dx10) (b10.dec nm scs) sc10 .none .none .none (.str zA1 187) none (.ref 199) .none
noncomputable def fd11:FuncData:=fnOf (nm 55) (zs [83,116,114,101,97,109,46,95,95,101,113,95,95]) (agl ag11 dx11) (b11.dec nm scs) sc11 .none .none .none (.str zA1 187) none (.ref 206) .none
noncomputable def fd12:FuncData:=fnOf (nm 56) (zs [83,116,114,101,97,109,46,95,95,110,101,95,95]) (agl ag12 dx12) (b12.dec nm scs) sc12 .none .none .none (.str zA1 187) none (.ref 213) .none
noncomputable def fd13:FuncData:=fnOf (nm 57) (zs [83,116,114,101,97,109,46,95,95,108,116,95,95]) (agl ag13 dx13) (b13.dec nm scs) sc13 .none .none .none (.str zA1 187) none (.ref 220) .none
noncomputable def fd14:FuncData:=fnOf (nm 59) (zs [83,116,114,101,97,109,46,95,95,108,101,95,95]) (agl ag14 dx14) (b14.dec nm scs) sc14 .none .none .none (.str zA1 187) none (.ref 227) .none
noncomputable def fd15:FuncData:=fnOf (nm 60) (zs [83,116,114,101,97,109,46,95,95,103,116,95,95]) (agl ag15 dx15) (b15.dec nm scs) sc15 .none .none .none (.str zA1 187) none (.ref 234) .none
noncomputable def fd16:FuncData:=fnOf (nm 61) (zs [83,116,114,101,97,109,46,95,95,103,101,95,95]) (agl ag16 dx16) (b16.dec nm scs) sc16 .none .none .none (.str zA1 187) none (.ref 241) .none
noncomputable def fd17:FuncData:=fnOf (nm 64) (nm 64) (agl ag17 dx17) (b17.dec nm scs) sc17 .none .none .none (.str zA1 187) none (.ref 255) .none
noncomputable def fd18:FuncData:=fnOf (nm 23) zA15 (agl ag18 dx18) (b18.dec nm scs) sc18 (.ref 264) .none .none (.str zA1 187) none (.ref 270) .none
noncomputable def fd19:FuncData:=fnOf (nm 78) zA8 (agl ag19 dx19) (b19.dec nm scs) sc19 .none .none .none (.str zA1 187) none (.ref 277) .none
noncomputable def fd20:FuncData:=fnOf (nm 84) zA9 (agl ag20 dx20) (b20.dec nm scs) sc20 .none .none .none (.str zA1 187) none (.ref 284) .none
noncomputable def fd21:FuncData:=fnOf (nm 80) zA11 (agl ag21 dx21) (b21.dec nm scs) sc21 (.ref 286) .none .none (.str zA1 187) none (.ref 292) .none
noncomputable def fd22:FuncData:=fnOf (nm 90) zA13 (agl ag22 dx22) (b22.dec nm scs) sc22 (.ref 294) .none .none (.str zA1 187) none (.ref 300) .none
noncomputable def fd23:FuncData:=fnOf (nm 96) zA12 (agl ag23 dx23) (b23.dec nm scs) sc23 .none .none .none (.str zA1 187) none (.ref 307) .none
noncomputable def fd24:FuncData:=fnOf (nm 81) zA21 (agl ag24 dx24) (b24.dec nm scs) sc24 .none .none .none (.str zA1 187) none (.ref 314) .none
noncomputable def fd25:FuncData:=fnOf (nm 99) zA19 (agl ag25 dx25) (b25.dec nm scs) sc25 .none .none .none (.str zA1 187) none (.ref 321) .none
noncomputable def fd26:FuncData:=fnOf (nm 101) zA16 (agl ag26 dx26) (b26.dec nm scs) sc26 .none .none .none (.str zA1 187) none (.ref 328) .none
noncomputable def fd27:FuncData:=fnOf (nm 102) zA17 (agl ag27 dx27) (b27.dec nm scs) sc27 .none .none .none (.str zA1 187) none (.ref 335) .none
noncomputable def fd28:FuncData:=fnOf (nm 104) zA22 (agl ag28 dx28) (b28.dec nm scs) sc28 .none .none .none (.str zA1 187) none (.ref 342) .none
noncomputable def fd29:FuncData:=fnOf (nm 105) (nm 105) (agl ag29 dx29) (b29.dec nm scs) sc29 .none .none .none (.str zA6 637) none (.ref 356) .none
noncomputable def fd30:FuncData:=fnOf (nm 108) (nm 108) (agl ag30 dx30) (b30.dec nm scs) sc30 .none .none .none (.str zA6 637) none (.ref 361) .none
noncomputable def fd31:FuncData:=fnOf (nm 111) (nm 111) (agl ag31 dx31) (b31.dec nm scs) sc31 .none .none .none (.str zA6 637) none (.ref 368) .none
noncomputable def fd32:FuncData:=fnOf (nm 114) (nm 114) (agl ag32 dx32) (b32.dec nm scs) sc32 .none .none .none (.str zA6 637) none (.ref 375) .none
noncomputable def fd33:FuncData:=fnOf (nm 119) (nm 119) (agl ag33 dx33) (b33.dec nm scs) sc33 .none .none .none (.str zA6 637) none (.ref 382) .none
noncomputable def fd34:FuncData:=fnOf (nm 121) (nm 121) (agl ag34 dx34) (b34.dec nm scs) sc34 .none .none .none (.str zA6 637) none (.ref 389) .none
noncomputable def fd35:FuncData:=fnOf (nm 124) (nm 124) (agl ag35 dx35) (b35.dec nm scs) sc35 .none .none .none (.str zA6 637) none (.ref 396) .none
noncomputable def o3 (P:Params):Obj:=⟨(.type "dict"),none,.dict #[⟨(kH P zA18),(.str zA18 165),(.str zA6 637)⟩,⟨(kH P zA5),(.str zA5 166),.none⟩,⟨(kH P (zs [95,95,112,97,99,107,97,103,101,95,95])),(.str (zs [95,95,112,97,99,107,97,103,101,95,95]) 167),.none⟩,⟨(kH P (zs [95,95,108,111,97,100,101,114,95,95])),(.str (zs [95,95,108,111,97,100,101,114,95,95]) 168),(.builtin "__main__.__loader__#opaque")⟩,⟨(kH P (zs [95,95,115,112,101,99,95,95])),(.str (zs [95,95,115,112,101,99,95,95]) 169),.none⟩,⟨(kH P (zs [95,95,97,110,110,111,116,97,116,105,111,110,115,95,95])),(.str (zs [95,95,97,110,110,111,116,97,116,105,111,110,115,95,95]) 170),(.ref 6)⟩,⟨(kH P (zs [95,95,98,117,105,108,116,105,110,115,95,95])),(.str (zs [95,95,98,117,105,108,116,105,110,115,95,95]) 171),(.ref 4)⟩,⟨(kH P (zs [95,95,102,105,108,101,95,95])),(.str (zs [95,95,102,105,108,101,95,95]) 173),(.str zA0 172)⟩,⟨(kH P (zs [95,95,99,97,99,104,101,100,95,95])),(.str (zs [95,95,99,97,99,104,101,100,95,95]) 174),.none⟩,⟨(kH P (nm 2)),(.str (nm 2) 196),(.ref 21)⟩,⟨(kH P (nm 5)),(.str (nm 5) 205),(.ref 28)⟩,⟨(kH P (nm 9)),(.str (nm 9) 212),(.ref 35)⟩,⟨(kH P (nm 11)),(.str (nm 11) 232),(.ref 45)⟩,⟨(kH P (nm 12)),(.str (nm 12) 248),(.ref 58)⟩,⟨(kH P (nm 13)),(.str (nm 13) 264),(.ref 70)⟩,⟨(kH P (nm 14)),(.str (nm 14) 280),(.ref 82)⟩,⟨(kH P (nm 15)),(.str (nm 15) 296),(.ref 94)⟩,⟨(kH P (nm 16)),(.str (nm 16) 312),(.ref 106)⟩,⟨(kH P (nm 17)),(.str (nm 17) 328),(.ref 118)⟩,⟨(kH P (nm 18)),(.str (nm 18) 344),(.ref 130)⟩,⟨(kH P (nm 19)),(.str (nm 19) 500),(.ref 245)⟩,⟨(kH P (nm 64)),(.str (nm 64) 510),(.ref 256)⟩,⟨(kH P (nm 68)),(.str (nm 68) 636),(.ref 346)⟩,⟨(kH P (nm 105)),(.str (nm 105) 644),(.ref 357)⟩,⟨(kH P (nm 108)),(.str (nm 108) 650),(.ref 362)⟩,⟨(kH P (nm 111)),(.str (nm 111) 659),(.ref 369)⟩,⟨(kH P (nm 114)),(.str (nm 114) 677),(.ref 376)⟩,⟨(kH P (nm 119)),(.str (nm 119) 689),(.ref 383)⟩,⟨(kH P (nm 121)),(.str (nm 121) 696),(.ref 390)⟩,⟨(kH P (nm 124)),(.str (nm 124) 710),(.ref 397)⟩] 30,#[]⟩
noncomputable def o20:Obj:=⟨(.type "code"),none,.fields #[(.str (nm 2) 189),(.str (nm 2) 190),(.str zA0 191),(.int (2) 0),(.int (2) 0),(.int (0) 0),(.int (0) 0),(.int (3) 0),(.ref 15),(.bool true),(.int (181) 0),(.ref 16),.none,(.ref 17),(.ref 18),(.ref 19),(.int (194) 0),(.int (2) 0),(.str zA0 195)],#[]⟩
noncomputable def o21:Obj:=⟨.type "function",none,.func fd0,#[]⟩
noncomputable def o27:Obj:=⟨(.type "code"),none,.fields #[(.str (nm 5) 197),(.str (nm 5) 198),(.str zA0 199),(.int (6) 0),(.int (2) 0),(.int (0) 0),(.int (0) 0),(.int (3) 0),(.ref 22),(.bool true),(.int (181) 0),(.ref 23),.none,(.ref 24),(.ref 25),(.ref 26),(.int (203) 0),(.int (6) 0),(.str zA0 204)],#[]⟩
noncomputable def o28:Obj:=⟨.type "function",none,.func fd1,#[]⟩
noncomputable def o34:Obj:=⟨(.type "code"),none,.fields #[(.str (nm 9) 206),(.str (nm 9) 207),(.str zA0 208),(.int (13) 0),(.int (1) 0),(.int (0) 0),(.int (0) 0),(.int (3) 0),(.ref 29),(.bool true),(.int (181) 0),(.ref 30),.none,(.ref 31),(.ref 32),(.ref 33),(.int (210) 0),(.int (13) 0),(.str zA0 211)],#[]⟩
noncomputable def o35:Obj:=⟨.type "function",none,.func fd2,#[]⟩
noncomputable def o44 (P:Params):Obj:=⟨(.type "dict"),none,.dict #[⟨(kH P zA4),(.str zA4 220),(.str zA1 187)⟩,⟨(kH P zA3),(.str zA3 224),(.int (15) 223)⟩,⟨(kH P zA2),(.str zA2 225),(.ref 43)⟩,⟨(kH P zA7),(.str zA7 227),(.ref 46)⟩,⟨(kH P zA5),(.str zA5 228),.none⟩] 3,#[]⟩
noncomputable def o45:Obj:=⟨(.type "type"),none,.cls { name:=(nm 11),bases:=[(.type "Exception")],mro:=[(.ref 45),(.type "Exception"),(.type "BaseException"),(.type "object")],ns:=44,qualname:=(nm 11),hasDict:=true,slotNames:=[],subclasses:=[(.ref 58),(.ref 70),(.ref 82),(.ref 94),(.ref 106),(.ref 118),(.ref 130)],abstract:=false,collection:=none,hasDel:=false },#[(some (.ref 36)),none,(some (.str (nm 11) 213)),(some (.str (nm 11) 221)),(some (.builtin "Exception.__new__")),(some (.bool true))]⟩
noncomputable def o57 (P:Params):Obj:=⟨(.type "dict"),none,.dict #[⟨(kH P zA4),(.str zA4 240),(.str zA1 187)⟩,⟨(kH P zA3),(.str zA3 244),(.int (17) 243)⟩,⟨(kH P zA2),(.str zA2 245),(.ref 56)⟩,⟨(kH P zA5),(.str zA5 246),.none⟩] 2,#[]⟩
noncomputable def o58:Obj:=⟨(.type "type"),none,.cls { name:=(nm 12),bases:=[(.ref 45)],mro:=[(.ref 58),(.ref 45),(.type "Exception"),(.type "BaseException"),(.type "object")],ns:=57,qualname:=(nm 12),hasDict:=true,slotNames:=[],subclasses:=[],abstract:=false,collection:=none,hasDel:=false },#[(some (.ref 49)),none,(some (.str (nm 12) 233)),(some (.str (nm 12) 241)),(some (.builtin "Exception.__new__")),(some (.bool true))]⟩
noncomputable def o69 (P:Params):Obj:=⟨(.type "dict"),none,.dict #[⟨(kH P zA4),(.str zA4 256),(.str zA1 187)⟩,⟨(kH P zA3),(.str zA3 260),(.int (19) 259)⟩,⟨(kH P zA2),(.str zA2 261),(.ref 68)⟩,⟨(kH P zA5),(.str zA5 262),.none⟩] 2,#[]⟩
noncomputable def o70:Obj:=⟨(.type "type"),none,.cls { name:=(nm 13),bases:=[(.ref 45)],mro:=[(.ref 70),(.ref 45),(.type "Exception"),(.type "BaseException"),(.type "object")],ns:=69,qualname:=(nm 13),hasDict:=true,slotNames:=[],subclasses:=[],abstract:=false,collection:=none,hasDel:=false },#[(some (.ref 61)),none,(some (.str (nm 13) 249)),(some (.str (nm 13) 257)),(some (.builtin "Exception.__new__")),(some (.bool true))]⟩
noncomputable def o81 (P:Params):Obj:=⟨(.type "dict"),none,.dict #[⟨(kH P zA4),(.str zA4 272),(.str zA1 187)⟩,⟨(kH P zA3),(.str zA3 276),(.int (21) 275)⟩,⟨(kH P zA2),(.str zA2 277),(.ref 80)⟩,⟨(kH P zA5),(.str zA5 278),.none⟩] 2,#[]⟩
noncomputable def o82:Obj:=⟨(.type "type"),none,.cls { name:=(nm 14),bases:=[(.ref 45)],mro:=[(.ref 82),(.ref 45),(.type "Exception"),(.type "BaseException"),(.type "object")],ns:=81,qualname:=(nm 14),hasDict:=true,slotNames:=[],subclasses:=[],abstract:=false,collection:=none,hasDel:=false },#[(some (.ref 73)),none,(some (.str (nm 14) 265)),(some (.str (nm 14) 273)),(some (.builtin "Exception.__new__")),(some (.bool true))]⟩
noncomputable def o93 (P:Params):Obj:=⟨(.type "dict"),none,.dict #[⟨(kH P zA4),(.str zA4 288),(.str zA1 187)⟩,⟨(kH P zA3),(.str zA3 292),(.int (23) 291)⟩,⟨(kH P zA2),(.str zA2 293),(.ref 92)⟩,⟨(kH P zA5),(.str zA5 294),.none⟩] 2,#[]⟩
noncomputable def o94:Obj:=⟨(.type "type"),none,.cls { name:=(nm 15),bases:=[(.ref 45)],mro:=[(.ref 94),(.ref 45),(.type "Exception"),(.type "BaseException"),(.type "object")],ns:=93,qualname:=(nm 15),hasDict:=true,slotNames:=[],subclasses:=[],abstract:=false,collection:=none,hasDel:=false },#[(some (.ref 85)),none,(some (.str (nm 15) 281)),(some (.str (nm 15) 289)),(some (.builtin "Exception.__new__")),(some (.bool true))]⟩
noncomputable def o105 (P:Params):Obj:=⟨(.type "dict"),none,.dict #[⟨(kH P zA4),(.str zA4 304),(.str zA1 187)⟩,⟨(kH P zA3),(.str zA3 308),(.int (25) 307)⟩,⟨(kH P zA2),(.str zA2 309),(.ref 104)⟩,⟨(kH P zA5),(.str zA5 310),.none⟩] 2,#[]⟩
noncomputable def o106:Obj:=⟨(.type "type"),none,.cls { name:=(nm 16),bases:=[(.ref 45)],mro:=[(.ref 106),(.ref 45),(.type "Exception"),(.type "BaseException"),(.type "object")],ns:=105,qualname:=(nm 16),hasDict:=true,slotNames:=[],subclasses:=[],abstract:=false,collection:=none,hasDel:=false },#[(some (.ref 97)),none,(some (.str (nm 16) 297)),(some (.str (nm 16) 305)),(some (.builtin "Exception.__new__")),(some (.bool true))]⟩
noncomputable def o117 (P:Params):Obj:=⟨(.type "dict"),none,.dict #[⟨(kH P zA4),(.str zA4 320),(.str zA1 187)⟩,⟨(kH P zA3),(.str zA3 324),(.int (27) 323)⟩,⟨(kH P zA2),(.str zA2 325),(.ref 116)⟩,⟨(kH P zA5),(.str zA5 326),.none⟩] 2,#[]⟩
noncomputable def o118:Obj:=⟨(.type "type"),none,.cls { name:=(nm 17),bases:=[(.ref 45)],mro:=[(.ref 118),(.ref 45),(.type "Exception"),(.type "BaseException"),(.type "object")],ns:=117,qualname:=(nm 17),hasDict:=true,slotNames:=[],subclasses:=[],abstract:=false,collection:=none,hasDel:=false },#[(some (.ref 109)),none,(some (.str (nm 17) 313)),(some (.str (nm 17) 321)),(some (.builtin "Exception.__new__")),(some (.bool true))]⟩
noncomputable def o129 (P:Params):Obj:=⟨(.type "dict"),none,.dict #[⟨(kH P zA4),(.str zA4 336),(.str zA1 187)⟩,⟨(kH P zA3),(.str zA3 340),(.int (29) 339)⟩,⟨(kH P zA2),(.str zA2 341),(.ref 128)⟩,⟨(kH P zA5),(.str zA5 342),.none⟩] 2,#[]⟩
noncomputable def o130:Obj:=⟨(.type "type"),none,.cls { name:=(nm 18),bases:=[(.ref 45)],mro:=[(.ref 130),(.ref 45),(.type "Exception"),(.type "BaseException"),(.type "object")],ns:=129,qualname:=(nm 18),hasDict:=true,slotNames:=[],subclasses:=[],abstract:=false,collection:=none,hasDel:=false },#[(some (.ref 121)),none,(some (.str (nm 18) 329)),(some (.str (nm 18) 337)),(some (.builtin "Exception.__new__")),(some (.bool true))]⟩
noncomputable def o140:Obj:=⟨(.type "tuple"),none,.seq #[(.int (16) 357)] 0,#[]⟩
noncomputable def o146:Obj:=⟨(.type "code"),none,.fields #[(.str (nm 23) 358),(.str (zs [83,116,114,101,97,109,46,95,95,105,110,105,116,95,95]) 359),(.str zA0 360),(.int (33) 0),(.int (3) 0),(.int (0) 0),(.int (0) 0),(.int (3) 0),(.ref 141),(.bool true),(.int (181) 0),(.ref 142),.none,(.ref 143),(.ref 144),(.ref 145),(.int (364) 0),(.int (33) 0),(.str zA0 365)],#[]⟩
noncomputable def o147:Obj:=⟨.type "function",none,.func fd3,#[]⟩
noncomputable def o153:Obj:=⟨(.type "code"),none,.fields #[(.str (nm 22) 367),(.str zA10 368),(.str zA0 369),(.int (43) 0),(.int (1) 0),(.int (0) 0),(.int (0) 0),(.int (3) 0),(.ref 148),(.bool true),(.int (181) 0),(.ref 149),.none,(.ref 150),(.ref 151),(.ref 152),(.int (371) 0),(.int (43) 0),(.str zA0 372)],#[]⟩
noncomputable def o154:Obj:=⟨.type "function",none,.func fd4,#[]⟩
noncomputable def o155:Obj:=⟨(.type "property"),none,.fields #[(.ref 154),.none,.none,.none,(.int (0) 0),(.bool false)],#[]⟩
noncomputable def o162:Obj:=⟨(.type "code"),none,.fields #[(.str (nm 22) 376),(.str zA10 377),(.str zA0 378),(.int (47) 0),(.int (2) 0),(.int (0) 0),(.int (0) 0),(.int (3) 0),(.ref 157),(.bool true),(.int (181) 0),(.ref 158),.none,(.ref 159),(.ref 160),(.ref 161),(.int (381) 0),(.int (47) 0),(.str zA0 382)],#[]⟩
noncomputable def o163:Obj:=⟨.type "function",none,.func fd5,#[]⟩
noncomputable def o164:Obj:=⟨(.type "property"),none,.fields #[(.ref 154),(.ref 163),.none,.none,(.str (nm 22) 374),(.bool false)],#[]⟩
noncomputable def o170:Obj:=⟨(.type "code"),none,.fields #[(.str (nm 37) 385),(.str zA24 386),(.str zA0 387),(.int (55) 0),(.int (2) 0),(.int (0) 0),(.int (0) 0),(.int (3) 0),(.ref 165),(.bool true),(.int (181) 0),(.ref 166),.none,(.ref 167),(.ref 168),(.ref 169),(.int (390) 0),(.int (55) 0),(.str zA0 391)],#[]⟩
noncomputable def o171:Obj:=⟨.type "function",none,.func fd6,#[]⟩
noncomputable def o177:Obj:=⟨(.type "code"),none,.fields #[(.str (nm 38) 393),(.str zA14 394),(.str zA0 395),(.int (60) 0),(.int (2) 0),(.int (0) 0),(.int (0) 0),(.int (3) 0),(.ref 172),(.bool true),(.int (181) 0),(.ref 173),.none,(.ref 174),(.ref 175),(.ref 176),(.int (400) 0),(.int (60) 0),(.str zA0 401)],#[]⟩
noncomputable def o178:Obj:=⟨.type "function",none,.func fd7,#[]⟩
noncomputable def o179:Obj:=⟨(.type "tuple"),none,.seq #[(.bool true)] 0,#[]⟩
noncomputable def o185:Obj:=⟨(.type "code"),none,.fields #[(.str (nm 42) 403),(.str zA20 404),(.str zA0 405),(.int (69) 0),(.int (3) 0),(.int (0) 0),(.int (0) 0),(.int (3) 0),(.ref 180),(.bool true),(.int (181) 0),(.ref 181),.none,(.ref 182),(.ref 183),(.ref 184),(.int (413) 0),(.int (69) 0),(.str zA0 414)],#[]⟩
noncomputable def o186:Obj:=⟨.type "function",none,.func fd8,#[]⟩
noncomputable def o192:Obj:=⟨(.type "code"),none,.fields #[(.str (nm 48) 416),(.str (zs [83,116,114,101,97,109,46,115,99,104,101,100,117,108,101]) 417),(.str zA0 418),(.int (82) 0),(.int (1) 0),(.int (0) 0),(.int (0) 0),(.int (3) 0),(.ref 187),(.bool true),(.int (181) 0),(.ref 188),.none,(.ref 189),(.ref 190),(.ref 191),(.int (425) 0),(.int (82) 0),(.str zA0 426)],#[]⟩
noncomputable def o193:Obj:=⟨.type "function",none,.func fd9,#[]⟩
noncomputable def o199:Obj:=⟨(.type "code"),none,.fields #[(.str (nm 53) 428),(.str (zs [83,116,114,101,97,109,46,95,95,114,101,112,114,95,95]) 429),(.str zA0 430),(.int (106) 0),(.int (1) 0),(.int (0) 0),(.int (0) 0),(.int (3) 0),(.ref 194),(.bool true),(.int (181) 0),(.ref 195),.none,(.ref 196),(.ref 197),(.ref 198),(.int (432) 0),(.int (106) 0),(.str zA0 433)],#[]⟩
noncomputable def o200:Obj:=⟨.type "function",none,.func fd10,#[]⟩
noncomputable def o206:Obj:=⟨(.type "code"),none,.fields #[(.str (nm 55) 435),(.str (zs [83,116,114,101,97,109,46,95,95,101,113,95,95]) 436),(.str zA0 437),(.int (109) 0),(.int (2) 0),(.int (0) 0),(.int (0) 0),(.int (3) 0),(.ref 201),(.bool true),(.int (181) 0),(.ref 202),.none,(.ref 203),(.ref 204),(.ref 205),(.int (440) 0),(.int (109) 0),(.str zA0 441)],#[]⟩
noncomputable def o207:Obj:=⟨.type "function",none,.func fd11,#[]⟩
noncomputable def o213:Obj:=⟨(.type "code"),none,.fields #[(.str (nm 56) 443),(.str (zs [83,116,114,101,97,109,46,95,95,110,101,95,95]) 444),(.str zA0 445),(.int (114) 0),(.int (2) 0),(.int (0) 0),(.int (0) 0),(.int (3) 0),(.ref 208),(.bool true),(.int (181) 0),(.ref 209),.none,(.ref 210),(.ref 211),(.ref 212),(.int (448) 0),(.int (114) 0),(.str zA0 449)],#[]⟩
noncomputable def o214:Obj:=⟨.type "function",none,.func fd12,#[]⟩
noncomputable def o220:Obj:=⟨(.type "code"),none,.fields #[(.str (nm 57) 451),(.str (zs [83,116,114,101,97,109,46,95,95,108,116,95,95]) 452),(.str zA0 453),(.int (117) 0),(.int (2) 0),(.int (0) 0),(.int (0) 0),(.int (3) 0),(.ref 215),(.bool true),(.int (181) 0),(.ref 216),.none,(.ref 217),(.ref 218),(.ref 219),(.int (456) 0),(.int (117) 0),(.str zA0 457)],#[]⟩
noncomputable def o221:Obj:=⟨.type "function",none,.func fd13,#[]⟩
noncomputable def o227:Obj:=⟨(.type "code"),none,.fields #[(.str (nm 59) 459),(.str (zs [83,116,114,101,97,109,46,95,95,108,101,95,95]) 460),(.str zA0 461),(.int (122) 0),(.int (2) 0),(.int (0) 0),(.int (0) 0),(.int (3) 0),(.ref 222),(.bool true),(.int (181) 0),(.ref 223),.none,(.ref 224),(.ref 225),(.ref 226),(.int (464) 0),(.int (122) 0),(.str zA0 465)],#[]⟩
noncomputable def o228:Obj:=⟨.type "function",none,.func fd14,#[]⟩
noncomputable def o234:Obj:=⟨(.type "code"),none,.fields #[(.str (nm 60) 467),(.str (zs [83,116,114,101,97,109,46,95,95,103,116,95,95]) 468),(.str zA0 469),(.int (127) 0),(.int (2) 0),(.int (0) 0),(.int (0) 0),(.int (3) 0),(.ref 229),(.bool true),(.int (181) 0),(.ref 230),.none,(.ref 231),(.ref 232),(.ref 233),(.int (472) 0),(.int (127) 0),(.str zA0 473)],#[]⟩
noncomputable def o235:Obj:=⟨.type "function",none,.func fd15,#[]⟩
noncomputable def o241:Obj:=⟨(.type "code"),none,.fields #[(.str (nm 61) 475),(.str (zs [83,116,114,101,97,109,46,95,95,103,101,95,95]) 476),(.str zA0 477),(.int (132) 0),(.int (2) 0),(.int (0) 0),(.int (0) 0),(.int (3) 0),(.ref 236),(.bool true),(.int (181) 0),(.ref 237),.none,(.ref 238),(.ref 239),(.ref 240),(.int (480) 0),(.int (132) 0),(.str zA0 481)],#[]⟩
noncomputable def o242:Obj:=⟨.type "function",none,.func fd16,#[]⟩
noncomputable def o244 (P:Params):Obj:=⟨(.type "dict"),none,.dict #[⟨(kH P zA4),(.str zA4 352),(.str zA1 187)⟩,⟨(kH P zA3),(.str zA3 356),(.int (31) 355)⟩,⟨(kH P (nm 23)),(.str (nm 23) 366),(.ref 147)⟩,⟨(kH P (nm 22)),(.str (nm 22) 374),(.ref 164)⟩,⟨(kH P (nm 37)),(.str (nm 37) 392),(.ref 171)⟩,⟨(kH P (nm 38)),(.str (nm 38) 402),(.ref 178)⟩,⟨(kH P (nm 42)),(.str (nm 42) 415),(.ref 186)⟩,⟨(kH P (nm 48)),(.str (nm 48) 427),(.ref 193)⟩,⟨(kH P (nm 53)),(.str (nm 53) 434),(.ref 200)⟩,⟨(kH P (nm 55)),(.str (nm 55) 442),(.ref 207)⟩,⟨(kH P (nm 56)),(.str (nm 56) 450),(.ref 214)⟩,⟨(kH P (nm 57)),(.str (nm 57) 458),(.ref 221)⟩,⟨(kH P (nm 59)),(.str (nm 59) 466),(.ref 228)⟩,⟨(kH P (nm 60)),(.str (nm 60) 474),(.ref 235)⟩,⟨(kH P (nm 61)),(.str (nm 61) 482),(.ref 242)⟩,⟨(kH P zA2),(.str zA2 492),(.ref 243)⟩,⟨(kH P zA23),(.str zA23 494),(.ref 246)⟩,⟨(kH P zA7),(.str zA7 496),(.ref 247)⟩,⟨(kH P zA5),(.str zA5 497),.none⟩,⟨(kH P (zs [95,95,104,97,115,104,95,95])),(.str (zs [95,95,104,97,115,104,95,95]) 498),.none⟩] 5,#[]⟩
noncomputable def o245:Obj:=⟨(.type "type"),none,.cls { name:=(nm 19),bases:=[(.type "object")],mro:=[(.ref 245),(.type "object")],ns:=244,qualname:=(nm 19),hasDict:=true,slotNames:=[],subclasses:=[],abstract:=false,collection:=none,hasDel:=false },#[none,none,(some (.str (nm 19) 345)),(some (.str (nm 19) 353)),(some (.builtin "object.__new__")),(some (.bool true))]⟩
noncomputable def o255:Obj:=⟨(.type "code"),none,.fields #[(.str (nm 64) 501),(.str (nm 64) 502),(.str zA0 503),(.int (136) 0),(.int (2) 0),(.int (0) 0),(.int (0) 0),(.int (3) 0),(.ref 250),(.bool true),(.int (181) 0),(.ref 251),.none,(.ref 252),(.ref 253),(.ref 254),(.int (508) 0),(.int (136) 0),(.str zA0 509)],#[]⟩
noncomputable def o256:Obj:=⟨.type "function",none,.func fd17,#[]⟩
noncomputable def o264:Obj:=⟨(.type "tuple"),none,.seq #[(.int (1000) 523)] 0,#[]⟩
noncomputable def o270:Obj:=⟨(.type "code"),none,.fields #[(.str (nm 23) 524),(.str zA15 525),(.str zA0 526),(.int (147) 0),(.int (2) 0),(.int (0) 0),(.int (0) 0),(.int (3) 0),(.ref 265),(.bool true),(.int (181) 0),(.ref 266),.none,(.ref 267),(.ref 268),(.ref 269),(.int (529) 0),(.int (147) 0),(.str zA0 530)],#[]⟩
noncomputable def o271:Obj:=⟨.type "function",none,.func fd18,#[]⟩
noncomputable def o277:Obj:=⟨(.type "code"),none,.fields #[(.str (nm 78) 532),(.str zA8 533),(.str zA0 534),(.int (157) 0),(.int (2) 0),(.int (0) 0),(.int (0) 0),(.int (3) 0),(.ref 272),(.bool true),(.int (181) 0),(.ref 273),.none,(.ref 274),(.ref 275),(.ref 276),(.int (537) 0),(.int (157) 0),(.str zA0 538)],#[]⟩
noncomputable def o278:Obj:=⟨.type "function",none,.func fd19,#[]⟩
noncomputable def o284:Obj:=⟨(.type "code"),none,.fields #[(.str (nm 84) 540),(.str zA9 541),(.str zA0 542),(.int (165) 0),(.int (3) 0),(.int (0) 0),(.int (0) 0),(.int (3) 0),(.ref 279),(.bool true),(.int (181) 0),(.ref 280),.none,(.ref 281),(.ref 282),(.ref 283),(.int (546) 0),(.int (165) 0),(.str zA0 547)],#[]⟩
noncomputable def o285:Obj:=⟨.type "function",none,.func fd20,#[]⟩
noncomputable def o286:Obj:=⟨(.type "tuple"),none,.seq #[.none,(.int (16) 549),(.bool false)] 0,#[]⟩
noncomputable def o292:Obj:=⟨(.type "code"),none,.fields #[(.str (nm 80) 550),(.str zA11 551),(.str zA0 552),(.int (168) 0),(.int (5) 0),(.int (0) 0),(.int (0) 0),(.int (3) 0),(.ref 287),(.bool true),(.int (181) 0),(.ref 288),.none,(.ref 289),(.ref 290),(.ref 291),(.int (561) 0),(.int (168) 0),(.str zA0 562)],#[]⟩
noncomputable def o293:Obj:=⟨.type "function",none,.func fd21,#[]⟩
noncomputable def o294:Obj:=⟨(.type "tuple"),none,.seq #[.none,(.int (16) 564),(.bool false)] 0,#[]⟩
noncomputable def o300:Obj:=⟨(.type "code"),none,.fields #[(.str (nm 90) 565),(.str zA13 566),(.str zA0 567),(.int (187) 0),(.int (5) 0),(.int (0) 0),(.int (0) 0),(.int (3) 0),(.ref 295),(.bool true),(.int (181) 0),(.ref 296),.none,(.ref 297),(.ref 298),(.ref 299),(.int (576) 0),(.int (187) 0),(.str zA0 577)],#[]⟩
noncomputable def o301:Obj:=⟨.type "function",none,.func fd22,#[]⟩
noncomputable def o307:Obj:=⟨(.type "code"),none,.fields #[(.str (nm 96) 579),(.str zA12 580),(.str zA0 581),(.int (212) 0),(.int (2) 0),(.int (0) 0),(.int (0) 0),(.int (3) 0),(.ref 302),(.bool true),(.int (181) 0),(.ref 303),.none,(.ref 304),(.ref 305),(.ref 306),(.int (586) 0),(.int (212) 0),(.str zA0 587)],#[]⟩
noncomputable def o308:Obj:=⟨.type "function",none,.func fd23,#[]⟩
noncomputable def o314:Obj:=⟨(.type "code"),none,.fields #[(.str (nm 81) 589),(.str zA21 590),(.str zA0 591),(.int (222) 0),(.int (2) 0),(.int (0) 0),(.int (0) 0),(.int (3) 0),(.ref 309),(.bool true),(.int (181) 0),(.ref 310),.none,(.ref 311),(.ref 312),(.ref 313),(.int (594) 0),(.int (222) 0),(.str zA0 595)],#[]⟩
noncomputable def o315:Obj:=⟨.type "function",none,.func fd24,#[]⟩
noncomputable def o321:Obj:=⟨(.type "code"),none,.fields #[(.str (nm 99) 597),(.str zA19 598),(.str zA0 599),(.int (230) 0),(.int (2) 0),(.int (0) 0),(.int (0) 0),(.int (3) 0),(.ref 316),(.bool true),(.int (181) 0),(.ref 317),.none,(.ref 318),(.ref 319),(.ref 320),(.int (602) 0),(.int (230) 0),(.str zA0 603)],#[]⟩
noncomputable def o322:Obj:=⟨.type "function",none,.func fd25,#[]⟩
noncomputable def o328:Obj:=⟨(.type "code"),none,.fields #[(.str (nm 101) 605),(.str zA16 606),(.str zA0 607),(.int (238) 0),(.int (1) 0),(.int (0) 0),(.int (0) 0),(.int (3) 0),(.ref 323),(.bool true),(.int (181) 0),(.ref 324),.none,(.ref 325),(.ref 326),(.ref 327),(.int (609) 0),(.int (238) 0),(.str zA0 610)],#[]⟩
noncomputable def o329:Obj:=⟨.type "function",none,.func fd26,#[]⟩
noncomputable def o335:Obj:=⟨(.type "code"),none,.fields #[(.str (nm 102) 612),(.str zA17 613),(.str zA0 614),(.int (241) 0),(.int (1) 0),(.int (0) 0),(.int (0) 0),(.int (3) 0),(.ref 330),(.bool true),(.int (181) 0),(.ref 331),.none,(.ref 332),(.ref 333),(.ref 334),(.int (616) 0),(.int (241) 0),(.str zA0 617)],#[]⟩
noncomputable def o336:Obj:=⟨.type "function",none,.func fd27,#[]⟩
noncomputable def o342:Obj:=⟨(.type "code"),none,.fields #[(.str (nm 104) 619),(.str zA22 620),(.str zA0 621),(.int (247) 0),(.int (1) 0),(.int (0) 0),(.int (0) 0),(.int (3) 0),(.ref 337),(.bool true),(.int (181) 0),(.ref 338),.none,(.ref 339),(.ref 340),(.ref 341),(.int (623) 0),(.int (247) 0),(.str zA0 624)],#[]⟩
noncomputable def o343:Obj:=⟨.type "function",none,.func fd28,#[]⟩
noncomputable def o345 (P:Params):Obj:=⟨(.type "dict"),none,.dict #[⟨(kH P zA4),(.str zA4 518),(.str zA1 187)⟩,⟨(kH P zA3),(.str zA3 522),(.int (145) 521)⟩,⟨(kH P (nm 23)),(.str (nm 23) 531),(.ref 271)⟩,⟨(kH P (nm 78)),(.str (nm 78) 539),(.ref 278)⟩,⟨(kH P (nm 84)),(.str (nm 84) 548),(.ref 285)⟩,⟨(kH P (nm 80)),(.str (nm 80) 563),(.ref 293)⟩,⟨(kH P (nm 90)),(.str (nm 90) 578),(.ref 301)⟩,⟨(kH P (nm 96)),(.str (nm 96) 588),(.ref 308)⟩,⟨(kH P (nm 81)),(.str (nm 81) 596),(.ref 315)⟩,⟨(kH P (nm 99)),(.str (nm 99) 604),(.ref 322)⟩,⟨(kH P (nm 101)),(.str (nm 101) 611),(.ref 329)⟩,⟨(kH P (nm 102)),(.str (nm 102) 618),(.ref 336)⟩,⟨(kH P (nm 104)),(.str (nm 104) 625),(.ref 343)⟩,⟨(kH P zA2),(.str zA2 629),(.ref 344)⟩,⟨(kH P zA23),(.str zA23 631),(.ref 347)⟩,⟨(kH P zA7),(.str zA7 633),(.ref 348)⟩,⟨(kH P zA5),(.str zA5 634),.none⟩] 4,#[]⟩
noncomputable def o346:Obj:=⟨(.type "type"),none,.cls { name:=(nm 68),bases:=[(.type "object")],mro:=[(.ref 346),(.type "object")],ns:=345,qualname:=(nm 68),hasDict:=true,slotNames:=[],subclasses:=[],abstract:=false,collection:=none,hasDel:=false },#[none,none,(some (.str (nm 68) 511)),(some (.str (nm 68) 519)),(some (.builtin "object.__new__")),(some (.bool true))]⟩
noncomputable def o356:Obj:=⟨(.type "code"),none,.fields #[(.str (nm 105) 639),(.str (nm 105) 640),(.str zA0 641),(.int (250) 0),(.int (0) 0),(.int (0) 0),(.int (0) 0),(.int (3) 0),(.ref 351),(.bool true),(.int (181) 0),(.ref 352),.none,(.ref 353),(.ref 354),(.ref 355),(.int (642) 0),(.int (250) 0),(.str zA0 643)],#[]⟩
noncomputable def o357:Obj:=⟨.type "function",none,.func fd29,#[]⟩
noncomputable def o361:Obj:=⟨(.type "code"),none,.fields #[(.str (nm 108) 645),(.str (nm 108) 646),(.str zA0 647),(.int (252) 0),(.int (2) 0),(.int (0) 0),(.int (0) 0),(.int (3) 0),(.ref 358),(.bool true),(.int (181) 0),(.ref 359),.none,.none,.none,(.ref 360),(.int (648) 0),(.int (252) 0),(.str zA0 649)],#[]⟩
noncomputable def o362:Obj:=⟨.type "function",none,.func fd30,#[]⟩
noncomputable def o368:Obj:=⟨(.type "code"),none,.fields #[(.str (nm 111) 651),(.str (nm 111) 652),(.str zA0 653),(.int (254) 0),(.int (3) 0),(.int (0) 0),(.int (0) 0),(.int (3) 0),(.ref 363),(.bool true),(.int (181) 0),(.ref 364),.none,(.ref 365),(.ref 366),(.ref 367),(.int (657) 0),(.int (254) 0),(.str zA0 658)],#[]⟩
noncomputable def o369:Obj:=⟨.type "function",none,.func fd31,#[]⟩
noncomputable def o375:Obj:=⟨(.type "code"),none,.fields #[(.str (nm 114) 660),(.str (nm 114) 661),(.str zA0 662),(.int (258) 0),(.int (4) 0),(.int (0) 0),(.int (0) 0),(.int (3) 0),(.ref 370),(.bool true),(.int (181) 0),(.ref 371),.none,(.ref 372),(.ref 373),(.ref 374),(.int (675) 0),(.int (258) 0),(.str zA0 676)],#[]⟩
noncomputable def o376:Obj:=⟨.type "function",none,.func fd32,#[]⟩
noncomputable def o382:Obj:=⟨(.type "code"),none,.fields #[(.str (nm 119) 678),(.str (nm 119) 679),(.str zA0 680),(.int (294) 0),(.int (4) 0),(.int (0) 0),(.int (0) 0),(.int (3) 0),(.ref 377),(.bool true),(.int (181) 0),(.ref 378),.none,(.ref 379),(.ref 380),(.ref 381),(.int (687) 0),(.int (294) 0),(.str zA0 688)],#[]⟩
noncomputable def o383:Obj:=⟨.type "function",none,.func fd33,#[]⟩
noncomputable def o389:Obj:=⟨(.type "code"),none,.fields #[(.str (nm 121) 690),(.str (nm 121) 691),(.str zA0 692),(.int (311) 0),(.int (1) 0),(.int (0) 0),(.int (0) 0),(.int (3) 0),(.ref 384),(.bool true),(.int (181) 0),(.ref 385),.none,(.ref 386),(.ref 387),(.ref 388),(.int (694) 0),(.int (311) 0),(.str zA0 695)],#[]⟩
noncomputable def o390:Obj:=⟨.type "function",none,.func fd34,#[]⟩
noncomputable def o396:Obj:=⟨(.type "code"),none,.fields #[(.str (nm 124) 697),(.str (nm 124) 698),(.str zA0 699),(.int (316) 0),(.int (1) 0),(.int (0) 0),(.int (0) 0),(.int (3) 0),(.ref 391),(.bool true),(.int (181) 0),(.ref 392),.none,(.ref 393),(.ref 394),(.ref 395),(.int (708) 0),(.int (316) 0),(.str zA0 709)],#[]⟩
noncomputable def o397:Obj:=⟨.type "function",none,.func fd35,#[]⟩
noncomputable def K (P:Params):Frag:=[(3,o3 P),(20,o20),(21,o21),(27,o27),(28,o28),(34,o34),(35,o35),(44,o44 P),(45,o45),(57,o57 P),(58,o58),(69,o69 P),(70,o70),(81,o81 P),(82,o82),(93,o93 P),(94,o94),(105,o105 P),(106,o106),(117,o117 P),(118,o118),(129,o129 P),(130,o130),(140,o140),(146,o146),(147,o147),(153,o153),(154,o154),(155,o155),(162,o162),(163,o163),(164,o164),(170,o170),(171,o171),(177,o177),(178,o178),(179,o179),(185,o185),(186,o186),(192,o192),(193,o193),(199,o199),(200,o200),(206,o206),(207,o207),(213,o213),(214,o214),(220,o220),(221,o221),(227,o227),(228,o228),(234,o234),(235,o235),(241,o241),(242,o242),(244,o244 P),(245,o245),(255,o255),(256,o256),(264,o264),(270,o270),(271,o271),(277,o277),(278,o278),(284,o284),(285,o285),(286,o286),(292,o292),(293,o293),(294,o294),(300,o300),(301,o301),(307,o307),(308,o308),(314,o314),(315,o315),(321,o321),(322,o322),(328,o328),(329,o329),(335,o335),(336,o336),(342,o342),(343,o343),(345,o345 P),(346,o346),(356,o356),(357,o357),(361,o361),(362,o362),(368,o368),(369,o369),(375,o375),(376,o376),(382,o382),(383,o383),(389,o389),(390,o390),(396,o396),(397,o397)]
noncomputable def fdTab:List FuncData:=[fd0,fd1,fd2,fd3,fd4,fd5,fd6,fd7,fd8,fd9,fd10,fd11,fd12,fd13,fd14,fd15,fd16,fd17,fd18,fd19,fd20,fd21,fd22,fd23,fd24,fd25,fd26,fd27,fd28,fd29,fd30,fd31,fd32,fd33,fd34,fd35]
noncomputable def kdTab:List (List (Nat×NameKind)):=[kd0,kd1,kd2,kd3,kd4,kd5,kd6,kd7,kd8,kd9,kd10,kd11,kd12,kd13,kd14,kd15,kd16,kd17,kd18,kd19,kd20,kd21,kd22,kd23,kd24,kd25,kd26,kd27,kd28,kd29,kd30,kd31,kd32,kd33,kd34,kd35]
noncomputable def pqB:List Stmt:=[.Assign [.Name zA18 (P4 1 0 8)] (.Constant (.str zA1) 0 (P4 1 11 30)) (P4 1 0 30),.FunctionDef (nm 2) (agl ag0 dx0) (b0.dec nm scs) [] none [] sc0 none (nm 2) ⟨2,0,5,28⟩,.FunctionDef (nm 5) (agl ag1 dx1) (b1.dec nm scs) [] none [] sc1 none (nm 5) ⟨6,0,12,23⟩,.FunctionDef (nm 9) (agl ag2 dx2) (b2.dec nm scs) [] none [] sc2 none (nm 9) ⟨13,0,14,23⟩,.ClassDef (nm 11) [(.Name (zs [69,120,99,101,112,116,105,111,110]) (P4 15 20 29))] [] [.Pass (P4 16 4 8)] [] [] (scp .class []) none (nm 11) [] ⟨15,0,16,8⟩,.ClassDef (nm 12) [(.Name (nm 11) (P4 17 20 33))] [] [.Pass (P4 18 4 8)] [] [] (scp .class []) none (nm 12) [] ⟨17,0,18,8⟩,.ClassDef (nm 13) [(.Name (nm 11) (P4 19 19 32))] [] [.Pass (P4 20 4 8)] [] [] (scp .class []) none (nm 13) [] ⟨19,0,20,8⟩,.ClassDef (nm 14) [(.Name (nm 11) (P4 21 27 40))] [] [.Pass (P4 22 4 8)] [] [] (scp .class []) none (nm 14) [] ⟨21,0,22,8⟩,.ClassDef (nm 15) [(.Name (nm 11) (P4 23 25 38))] [] [.Pass (P4 24 4 8)] [] [] (scp .class []) none (nm 15) [] ⟨23,0,24,8⟩,.ClassDef (nm 16) [(.Name (nm 11) (P4 25 26 39))] [] [.Pass (P4 26 4 8)] [] [] (scp .class []) none (nm 16) [] ⟨25,0,26,8⟩,.ClassDef (nm 17) [(.Name (nm 11) (P4 27 21 34))] [] [.Pass (P4 28 4 8)] [] [] (scp .class []) none (nm 17) [] ⟨27,0,28,8⟩,.ClassDef (nm 18) [(.Name (nm 11) (P4 29 24 37))] [] [.Pass (P4 30 4 8)] [] [] (scp .class []) none (nm 18) [] ⟨29,0,30,8⟩,.ClassDef (nm 19) [] [] [.FunctionDef (nm 23) (agl ag3 dx3) (b3.dec nm scs) [] none [] sc3 none (nm 23) ⟨33,4,41,25⟩,.FunctionDef (nm 22) (agl ag4 dx4) (b4.dec nm scs) [(.Name (zs [112,114,111,112,101,114,116,121]) (P4 43 5 13))] none [] sc4 none (nm 22) ⟨44,4,45,27⟩,.FunctionDef (nm 22) (agl ag5 dx5) (b5.dec nm scs) [(.Attribute (.Name (nm 22) (P4 47 5 11)) (zs [115,101,116,116,101,114]) (P4 47 5 18))] none [] sc5 none (nm 22) ⟨48,4,53,28⟩,.FunctionDef (nm 37) (agl ag6 dx6) (b6.dec nm scs) [] none [] sc6 none (nm 37) ⟨55,4,58,61⟩,.FunctionDef (nm 38) (agl ag7 dx7) (b7.dec nm scs) [] none [] sc7 none (nm 38) ⟨60,4,67,38⟩,.FunctionDef (nm 42) (agl ag8 dx8) (b8.dec nm scs) [] none [] sc8 none (nm 42) ⟨69,4,80,41⟩,.FunctionDef (nm 48) (agl ag9 dx9) (b9.dec nm scs) [] none [] sc9 none (nm 48) ⟨82,4,104,26⟩,.FunctionDef (nm 53) (agl ag10 dx10) (b10.dec nm scs) [] none [] sc10 none (nm 53) ⟨106,4,107,73⟩,.FunctionDef (nm 55) (agl ag11 dx11) (b11.dec nm scs) [] none [] sc11 none (nm 55) ⟨109,4,112,48⟩,.FunctionDef (nm 56) (agl ag12 dx12) (b12.dec nm scs) [] none [] sc12 none (nm 56) ⟨114,4,115,37⟩,.FunctionDef (nm 57) (agl ag13 dx13) (b13.dec nm scs) [] none [] sc13 none (nm 57) ⟨117,4,120,47⟩,.FunctionDef (nm 59) (agl ag14 dx14) (b14.dec nm scs) [] none [] sc14 none (nm 59) ⟨122,4,125,48⟩,.FunctionDef (nm 60) (agl ag15 dx15) (b15.dec nm scs) [] none [] sc15 none (nm 60) ⟨127,4,130,47⟩,.FunctionDef (nm 61) (agl ag16 dx16) (b16.dec nm scs) [] none [] sc16 none (nm 61) ⟨132,4,135,48⟩] [] [] (scp .class [((nm 23),.local),((nm 22),.local),((zs [112,114,111,112,101,114,116,121]),.globalImplicit),((nm 37),.local),((nm 38),.local),((nm 42),.local),((nm 48),.local),((nm 53),.local),((nm 55),.local),((nm 56),.local),((nm 57),.local),((nm 59),.local),((nm 60),.local),((nm 61),.local)]) none (nm 19) [(nm 29),(nm 30),(nm 27),(nm 26),(nm 24),(nm 28),(nm 25),(nm 21),(nm 22)] ⟨31,0,135,48⟩,.FunctionDef (nm 64) (agl ag17 dx17) (b17.dec nm scs) [] none [] sc17 none (nm 64) ⟨136,0,144,81⟩,.ClassDef (nm 68) [] [] [.FunctionDef (nm 23) (agl ag18 dx18) (b18.dec nm scs) [] none [] sc18 none (nm 23) ⟨147,4,155,47⟩,.FunctionDef (nm 78) (agl ag19 dx19) (b19.dec nm scs) [] none [] sc19 none (nm 78) ⟨157,4,163,50⟩,.FunctionDef (nm 84) (agl ag20 dx20) (b20.dec nm scs) [] none [] sc20 none (nm 84) ⟨165,4,166,58⟩,.FunctionDef (nm 80) (agl ag21 dx21) (b21.dec nm scs) [] none [] sc21 none (nm 80) ⟨168,4,185,41⟩,.FunctionDef (nm 90) (agl ag22 dx22) (b22.dec nm scs) [] none [] sc22 none (nm 90) ⟨187,4,210,48⟩,.FunctionDef (nm 96) (agl ag23 dx23) (b23.dec nm scs) [] none [] sc23 none (nm 96) ⟨212,4,220,34⟩,.FunctionDef (nm 81) (agl ag24 dx24) (b24.dec nm scs) [] none [] sc24 none (nm 81) ⟨222,4,228,73⟩,.FunctionDef (nm 99) (agl ag25 dx25) (b25.dec nm scs) [] none [] sc25 none (nm 99) ⟨230,4,236,73⟩,.FunctionDef (nm 101) (agl ag26 dx26) (b26.dec nm scs) [] none [] sc26 none (nm 101) ⟨238,4,239,19⟩,.FunctionDef (nm 102) (agl ag27 dx27) (b27.dec nm scs) [] none [] sc27 none (nm 102) ⟨241,4,245,68⟩,.FunctionDef (nm 104) (agl ag28 dx28) (b28.dec nm scs) [] none [] sc28 none (nm 104) ⟨247,4,248,30⟩] [] [] (scp .class [((nm 23),.local),((nm 78),.local),((nm 84),.local),((nm 80),.local),((nm 90),.local),((nm 96),.local),((nm 81),.local),((nm 99),.local),((nm 101),.local),((nm 102),.local),((nm 104),.local)]) none (nm 68) [(nm 76),(nm 70),(nm 71)] ⟨145,0,248,30⟩,.Assign [.Name zA18 (P4 249 0 8)] (.Constant (.str zA6) 0 (P4 249 11 26)) (P4 249 0 26),.FunctionDef (nm 105) (agl ag29 dx29) (b29.dec nm scs) [] none [] sc29 none (nm 105) ⟨250,0,251,45⟩,.FunctionDef (nm 108) (agl ag30 dx30) (b30.dec nm scs) [] none [] sc30 none (nm 108) ⟨252,0,253,47⟩,.FunctionDef (nm 111) (agl ag31 dx31) (b31.dec nm scs) [] none [] sc31 none (nm 111) ⟨254,0,257,17⟩,.FunctionDef (nm 114) (agl ag32 dx32) (b32.dec nm scs) [] none [] sc32 none (nm 114) ⟨258,0,293,20⟩,.FunctionDef (nm 119) (agl ag33 dx33) (b33.dec nm scs) [] none [] sc33 none (nm 119) ⟨294,0,310,22⟩,.FunctionDef (nm 121) (agl ag34 dx34) (b34.dec nm scs) [] none [] sc34 none (nm 121) ⟨311,0,315,25⟩,.FunctionDef (nm 124) (agl ag35 dx35) (b35.dec nm scs) [] none [] sc35 none (nm 124) ⟨316,0,331,15⟩]
noncomputable def pq:Program:={ main:={ body:=pqB,scope:=(scp .module [(zA18,.local),((nm 2),.local),((nm 5),.local),((nm 9),.local),((nm 11),.local),((zs [69,120,99,101,112,116,105,111,110]),.globalImplicit),((nm 12),.local),((nm 13),.local),((nm 14),.local),((nm 15),.local),((nm 16),.local),((nm 17),.local),((nm 18),.local),((nm 19),.local),((nm 64),.local),((nm 68),.local),((nm 105),.local),((nm 108),.local),((nm 111),.local),((nm 114),.local),((nm 119),.local),((nm 121),.local),((nm 124),.local)]),futureAnnotations:=false,file:=zs [47,99,108,97,105,109,47,99,117,116,46,112,121] },modules:=[],parses:=[],absent:=[],given:={ argv:=[],stdin:=[],environ:=(some [([76,67,95,65,76,76],[67,46,85,84,70,45,56])]) } }
noncomputable def kAs:List Addr:=[3,20,21,27,28,34,35,44,45,57,58,69,70,81,82,93,94,105,106,117,118,129,130,140,146,147,153,154,155,162,163,164,170,171,177,178,179,185,186,192,193,199,200,206,207,213,214,220,221,227,228,234,235,241,242,244,245,255,256,264,270,271,277,278,284,285,286,292,293,294,300,301,307,308,314,315,321,322,328,329,335,336,342,343,345,346,356,357,361,362,368,369,375,376,382,383,389,390,396,397]
theorem pq_eq:PySem.Challenge.pw_iv0035_07=pq:=by kernel_rfl
end Mine
end
section
open PySem PySem.W PyProof.Rows
set_option maxHeartbeats 0
namespace Mine
noncomputable section
abbrev pr:Program:=pq
abbrev p0:Pos:=⟨0,0,0,0⟩
abbrev kkA:List Addr:=kAs
structure Run where
 p:Program
 lo:List Str
 ks:List Addr
 K:Params→Frag
variable (X:Run)
def vwX:Program:=view X.p [22]
def env0X:Env:={ scope:=X.p.main.scope,locals:=mainNs,globals:=mainNs,cells:=[],code:=.ref 13,frame:=some 14 }
abbrev cEX:Code:=.body (behindTheImports X.p) (env0X X)
def tRun (w:World) (os:OsState):=topGo treeTable X.p w 11 (some (.ref 6)) 12 ⟨boot_heap w.params,#[],boot_drawn,boot_toks,os⟩ (topStub X.p)
def hA (P:Params):Heap:=match tRun X ⟨fun _ _=>0,P⟩ {} with | some (s,_)=>s.heap | none=>{}
def oA (P:Params) (i:Nat):Obj:=(hA X P).objs.getD i default
def T0 (P:Params):BT:=(.node (boot_o_0 P) (.node (boot_o_1 P) (.node (boot_o_3 P) (.node (boot_o_7 P) .nil .nil) (.node (oA X P 11) .nil .nil)) (.node (boot_o_5 P) (.node (boot_o_9 P) .nil .nil) (.node (oA X P 13) .nil .nil))) (.node (boot_o_2 P) (.node (boot_o_4 P) (.node (boot_o_8 P) .nil .nil) (.node (oA X P 12) .nil .nil)) (.node (boot_o_6 P) (.node (boot_o_10 P) .nil .nil) (.node (oA X P 14) .nil .nil))))
def S0 (w:World) (os:OsState):SharedT:=⟨T0 X w.params,15,{},#[],{},187,os⟩
def preR (w:World) (os:OsState):=some ((S0 X w os).abs,(⟨denote treeTable (cEX X),cEX X,p0,[topFrame p0]⟩:Thread))
def XtX (s:Shared):Bool:=xlAt (vwX X) [] s&&recOk [] s
def h0 (P:Params):Heap:=boot_heap P
def looksX (w:World) (s:Shared):Bool:=staticsOk (importedModules X.p.main.body) (boot_heap w.params) s.heap&&namesBound X.p s.heap&&gensDone s&&laidKept (boot_heap w.params) s.heap
def isD (o:Obj):Bool:=match o.data with | .dict ..=>true | _=>false
def YfX (s:Shared):=(X.ks.map s.heap.get?,(s.heap.get? 1).any isD)
def YaX (w:World):=((X.K w.params).map fun p=>some p.2,true)
def L (w:World) (os:OsState):=(segRunT treeTable X.p w 11 (some (.ref 6)) 1 3600 (S0 X w os) (piecesOf (behindTheImports X.p) (env0X X) (cEX X) p0 [topFrame p0])).map
  (fun r=>(r.1,r.2.2.1,looksX X w r.2.1.abs,openSeen (vwX X) X.lo (importedModules X.p.main.body) (XtX X) true r.2.1.abs,YfX X r.2.1.abs))
def Rr (w:World) (_os:OsState):=some (Flow.next,cEX X,true,openGood (vwX X) X.lo,YaX X w)
end
def kk {α:Type} (_:α):Bool:=true
theorem dummy:(kk tRun&&kk preR&&kk L&&kk Rr)=true:=by k_qdec
noncomputable section
def loose:List Str:=[2,5,9,11,12,13,14,15,16,17,18,19,64,68,105,108,111,114,119,121].map nm
def rX:Run:=⟨pq,loose,kAs,K⟩
abbrev vw:=vwX rX
abbrev env0:=env0X rX
abbrev cE:=cEX rX
abbrev Xt:=XtX rX
abbrev looks:=looksX rX
abbrev Yf:=YfX rX
abbrev Ya:=YaX rX
end
theorem pre_ok (w:World)(os:OsState):tRun rX w os=preR rX w os:=
 (congrFun (congrFun (congrFun PySem.W.Fast.te4710584663710115324 rX) w) os).trans
  ((show _=PySem.W.Fast.tw17653279219239862775 rX w os by kernel_rfl).trans (congrFun (congrFun (congrFun PySem.W.Fast.te17653279219239862775 rX) w) os).symm)
theorem run_ok (w:World)(os:OsState):L rX w os=Rr rX w os:=
 (congrFun (congrFun (congrFun PySem.W.Fast.te13209459037748810971 rX) w) os).trans
  ((show _=PySem.W.Fast.tw10988778683140452701 rX w os by kernel_rfl).trans (congrFun (congrFun (congrFun PySem.W.Fast.te10988778683140452701 rX) w) os).symm)
theorem top_fin (w:World)(s:Shared)(p:Pos):topRun treeTable pr w 11 (some (.ref 6)) 2 s ⟨doneF .next,cE,p,[topFrame p0]⟩=some s:=by
 rfl
theorem size_ok (w:World):((boot_heap w.params).isNs mainGlobals&&(#[]:Array GenState).size == 0)=true∧(boot_heap w.params).objs.size=11∧(boot_heap w.params).nsMap mainGlobals "__annotations__" = some (.ref 6):=by
 refine⟨by kernel_rfl,by kernel_rfl,by kernel_rfl⟩
theorem open_ok (w:World):(fencedOpening treeTable pr w 8000).map (fun s=>(s.heap,s.gens,s.drawn,s.toks))=some (boot_heap w.params,Array.mk [],boot_drawn,boot_toks):=
 boot_open (by kernel_rfl) (by kernel_rfl) (fun s=>by kernel_rfl) w
theorem kAs_eq (P:Params):kAs=(K P).map (·.1):=rfl
def YP (w:World) (h:Heap):Prop:=InK K w h∧(h.get? 1).any isD=true
theorem YP.of (w:World)(s:Shared)(e:Yf s=Ya w):YP w s.heap:=⟨InK.of kAs_eq w s (congrArg (·.1) e),congrArg (·.2) e⟩
theorem YP.keeps (w:World)(h h':Heap)(x:YP w h)(k:∀ b o,h.get? b=some o→h'.get? b=some o):YP w h':=
 ⟨InK.keeps w h h' x.1 k,by
  have z:=x.2
  cases e:h.get? 1 with
  | none=>rw [e] at z;cases z
  | some o=>rw [e] at z;rw [k _ _ e];exact z⟩
theorem YP.sm {w:World}{h:Heap}(x:YP w h):∃ o es n,h.get? sysModules=some o∧o.data=.dict es n:=by
 have z:=x.2
 cases e:h.get? 1 with
 | none=>rw [e] at z;cases z
 | some o=>
  rw [e] at z
  have z:isD o=true:=z
  cases q:o.data with
  | dict es n=>exact⟨o,es,n,e,q⟩
  | _=>unfold isD at z;rw [q] at z;exact Bool.noConfusion z
theorem topFrom_of {tb : String → Option Builtin} {p : Program} {w : World} {N n₀ : Nat} {ann : Option Value} {s₀ s₁ : Shared} (e0 : (s₀.heap.isNs mainGlobals && s₀.gens.size == 0) = true) (e1 : s₀.heap.objs.size = n₀) (e2 : s₀.heap.nsMap mainGlobals "__annotations__" = ann) (h : topRun tb p w n₀ ann N s₀ (topStub p) = some s₁) (l : (staticsOk (importedModules p.main.body) s₀.heap s₁.heap && namesBound p s₁.heap && gensDone s₁ && laidKept s₀.heap s₁.heap) = true) : topFrom tb p w N s₀ = some s₁ := by
 subst e1 e2
 unfold topFrom
 rw [e0]
 dsimp only
 rw [h, Option.bind_some, l]
theorem left:LeftO pr vw loose Xt Yf Ya 8000:=fun w=>by
 obtain⟨⟨h,gs,d,k,os⟩,e,e'⟩:=Option.map_eq_some_iff.mp (open_ok w)
 obtain⟨rfl,rfl,rfl,rfl⟩:h=boot_heap w.params∧gs=#[]∧d=boot_drawn∧k=boot_toks:=by simpa using e'
 obtain⟨z1,z2,z3⟩:=size_ok w
 obtain⟨r,hr,hf⟩:=Option.map_eq_some_iff.mp (run_ok w os)
 obtain⟨fl,s',c,p'⟩:=r
 obtain⟨q1,hf⟩:=Prod.mk.inj hf
 obtain⟨q2,hf⟩:=Prod.mk.inj hf
 obtain⟨q3,hf⟩:=Prod.mk.inj hf
 obtain⟨q4,q5⟩:=Prod.mk.inj hf
 subst q1 q2
 have a1:=piece_app (rest:=[]) (segRun_of hr) (piece_nil (env:=env0X rX) (top_fin w s'.abs p'))
 rw [List.append_nil] at a1
 have a2:=piece_block (env:=env0X rX) (q:=p0) (n:=1) (p:=rX.p) (w:=w) (n₀:=11) (ann:=some (.ref 6)) (tb:=treeTable) (c:=cEX rX) (pos:=p0) (p':=p0) (s:=(S0 rX w os).abs) (s':=(S0 rX w os).abs) (b:=behindTheImports rX.p) (by kernel_rfl) a1
 have a3:=go_top (pre_ok w os) a2
 have a4:topRun treeTable pr w 11 (some (.ref 6)) (12+(1+(3600+2))+(8000 - 3615)) ⟨boot_heap w.params,#[],boot_drawn,boot_toks,os⟩ (topStub pr)=some s'.abs:=topRun_mono (8000 - 3615) _ _ _ _ a3
 have hN : 12 + (1 + (3600 + 2)) + (8000 - 3615) = 8000 := rfl
 rw [hN] at a4
 have t := topFrom_of z1 z2 z3 a4 q3
 unfold openEnds
 rw [e]
 rw [Option.bind_some, t]
 exact congrArg some (Prod.ext q4 q5)
end Mine
end
section
open PySem PySem.W PyProof.Rows PySem.Calls
namespace Mine
theorem xm_aeaa {α0:Sort _}{A0:Prop}{A1:α0→Prop}{A2:α0→Prop}{p:Prop}(h:A0∧∃ x0,A1 x0∧A2 x0)(k:A0→∀ x0,A1 x0→A2 x0→p):p:=by obtain⟨h0,x0,h1,h2⟩:=h;exact k h0 x0 h1 h2
theorem xm_eaaea {α0:Sort _}{α1:Sort _}{A0:α0→Prop}{A1:α0→Prop}{A2:α0→α1→Prop}{p:Prop}(h:∃ x0,A0 x0∧A1 x0∧∃ x1,A2 x0 x1)(k:∀ x0,A0 x0→A1 x0→∀ x1,A2 x0 x1→p):p:=by obtain⟨x0,h0,h1,x1,h2⟩:=h;exact k x0 h0 h1 x1 h2
theorem xm_aeaaa {α0:Sort _}{A0:Prop}{A1:α0→Prop}{A2:α0→Prop}{A3:α0→Prop}{p:Prop}(h:A0∧∃ x0,A1 x0∧A2 x0∧A3 x0)(k:A0→∀ x0,A1 x0→A2 x0→A3 x0→p):p:=by obtain⟨h0,x0,h1,h2,h3⟩:=h;exact k h0 x0 h1 h2 h3
theorem xm_aaeaa {α0:Sort _}{A0:Prop}{A1:Prop}{A2:α0→Prop}{A3:α0→Prop}{p:Prop}(h:A0∧A1∧∃ x0,A2 x0∧A3 x0)(k:A0→A1→∀ x0,A2 x0→A3 x0→p):p:=by obtain⟨h0,h1,x0,h2,h3⟩:=h;exact k h0 h1 x0 h2 h3
theorem xm_aaaaeaa {α0:Sort _}{A0:Prop}{A1:Prop}{A2:Prop}{A3:Prop}{A4:α0→Prop}{A5:α0→Prop}{p:Prop}(h:A0∧A1∧A2∧A3∧∃ x0,A4 x0∧A5 x0)(k:A0→A1→A2→A3→∀ x0,A4 x0→A5 x0→p):p:=by obtain⟨h0,h1,h2,h3,x0,h4,h5⟩:=h;exact k h0 h1 h2 h3 x0 h4 h5
theorem nsE {α:Type _}{a:α}{p:Prop}(h:none=some a):p:=nomatch h
theorem snE {α:Type _}{a:α}{p:Prop}(h:some a=none):p:=nomatch h
theorem ftE {p:Prop}(h:false=true):p:=nomatch h
theorem tfE {p:Prop}(h:true=false):p:=nomatch h
structure Wd where
 prog:Program
 w:World
 K:Frag
 hb:Heap
 nm:Nat→Str
 sc:Nat→Scope
 g:Sig
 gl:Nat→Bool
 gv:Nat→Value
 fa:Nat→Addr
 ca:Nat→Addr
 scr:Obj
section rel
variable (W:Wd)(β δ:Nat→Addr)(n:Nat)
noncomputable def VR (v:AV) (V:Value):Prop:=match v with
 | .none=>V=.none
 | .bool b=>V=.bool b
 | .int i=>∃ t,V=.int i t
 | .str k=>∃ t,V=.str (W.nm k) t
 | .msg=>∃ s t,V=.str s t
 | .gl k=>V=W.gv k
 | .loc l=>l < n∧V=.ref (β l)
inductive VRs:List AV→List Value→Prop
 | nil:VRs [] []
 | cons {v V vs Vs}:VR W β n v V→VRs vs Vs→VRs (v :: vs) (V :: Vs)
inductive DRs:List (AV×AV)→List (Int×Value)→Prop
 | nil:DRs [] []
 | cons {i v V es ds}:VR W β n v V→DRs es ds→DRs ((.int i,v) :: es) ((i,V) :: ds)
inductive ARs:List (Nat×AV)→List DictEntry→Prop
 | nil:ARs [] []
 | cons {a h t v V es ds}:VR W β n v V→(∀ x,get? es a≠some x)→ARs es ds→ARs ((a,v) :: es) (⟨h,.str (W.nm a) t,V⟩ :: ds)
noncomputable abbrev tupOf (vs:List Value):Obj:={ cls:=.type "tuple",data:=.seq vs.toArray }
noncomputable abbrev rngOf (k:Int) (t u v:Tok):Obj:={ cls:=.type "range",data:=.fields #[.int 0 t,.int k u,.int 1 v] }
inductive Seqd (xs:List AV) (P:List Value→Nat→Prop):Prop
 | intro (Vs:List Value) (ep:Nat) (p:P Vs ep) (a:VRs W β n xs Vs) (l:xs.length≤100000)
inductive Tupd (xs:List AV) (P:List Value→Prop):Prop
 | intro (Vs:List Value) (p:P Vs) (a:VRs W β n xs Vs) (l:xs.length≤100000)
inductive Dictd (es:List (AV×AV)) (P:List (Int×Value)→Prop):Prop
 | intro (ds:List (Int×Value)) (p:P ds) (a:DRs W β n es ds) (l:es.length≤100000)
inductive Instd (as:List (Nat×AV)) (P:List DictEntry→Nat→Prop):Prop
 | intro (ds:List DictEntry) (ep:Nat) (p:P ds ep) (a:ARs W β n as ds) (l:as.length≤21)
noncomputable def OVR:Option AV→Option Value→Prop
 | none,_=>True
 | some v,some V=>VR W β n v V
 | some _,none=>False
noncomputable def ObjAt (h:Heap) (l:Nat) (o:AO):Prop:=match o with
 | .list xs=>Seqd W β n xs fun Vs ep=>h.get? (β l)=some (listOf (List.toArray Vs) ep)
 | .tup xs=>Tupd W β n xs fun Vs=>h.get? (β l)=some (tupOf Vs)
 | .dict es=>Dictd W β n es fun ds=>h.DictOf (intKind W.prog W.w) (β l) ds
 | .inst c as=>h.get? (β l)=some (instObj (W.ca c) (δ l))∧Instd W β n as fun ds ep=>h.get? (δ l)=some (dictOf ds ep)
 | .rng k=>(∃ t u v,h.get? (β l)=some (rngOf k t u v))∧0≤k∧k≤1000
 | .ro xs=>Seqd W β n xs fun Vs ep=>(W.scr.cls=.type "list" ∧ W.scr.data=.seq (List.toArray Vs) ep)∧h.get? (β l)=some W.scr
 | .cell v=>∃ V,h.IsCell (β l) V∧OVR W β n v V
end rel
structure Rel (W:Wd) (β δ:Nat→Addr) (st:St) (h:Heap):Prop where
 some_lt:∀ l o,st.heap l=some o→l < st.next
 lt_some:∀ l,l < st.next→∃ o,st.heap l=some o
 obj:∀ l o,st.heap l=some o→ObjAt W β δ st.next h l o
 bb:∀ l l',l < st.next→l' < st.next→β l=β l'→l=l'
 dd:∀ l l',l < st.next→l' < st.next→δ l=δ l'→l=l'
 bd:∀ l l',l < st.next→l' < st.next→β l=δ l'→l=l'
 base:∀ l,l < st.next→W.hb.get? (β l)=none∧W.hb.get? (δ l)=none
 live:∀ l,l < st.next→(∃ o,h.get? (β l)=some o)∧∃ o,h.get? (δ l)=some o
structure Fx where
 A:Around
 env:Env
 outer:List Env
 L:Addr
 kd:List (Nat×NameKind)
noncomputable def Fx.frs (fx:Fx):List Addr:=(fx.env :: fx.outer).filterMap (·.frame)
noncomputable def own (β δ:Nat→Addr) (n:Nat) (b:Addr):Prop:=∃ l,l < n∧(b=β l∨b=δ l)
noncomputable def Free (fx:Fx) (β δ:Nat→Addr) (n:Nat) (b:Addr):Prop:=¬ own β δ n b∧b ∉ fx.frs
structure ExcSt (fr:Addr→Prop) (h:Heap) (e:Addr) (cls:Value) (clean:Bool) (h₀:Heap):Prop where
 new:h₀.get? e=none
 free:fr e
 obj:∃ oe vs,h.get? e=some oe∧oe.cls=cls∧oe.data=.fields vs∧4 < vs.size∧(clean=true→vs[2]?=some .none)∧
  (vs[1]?=some .none∨∃ T oT ts,vs[1]?=some (.ref T)∧h₀.get? T=none∧fr T∧T≠e∧h.get? T=some oT∧oT.data=.fields ts∧3 < ts.size)
noncomputable def Traced (h:Heap) (e:Addr):Prop:=∃ oe vs T,h.get? e=some oe∧oe.data=.fields vs∧vs[1]?=some (.ref T)
noncomputable def Held (h:Heap) (e:Addr):Prop:=∃ oe vs,h.get? e=some oe∧oe.data=.fields vs∧4 < vs.size∧vs[2]?=some .none
structure FxOk (W:Wd) (fx:Fx):Prop where
 frames:fx.A.frames=some (fx.env :: fx.outer)
 frame:fx.env.frame=some fx.L
 locals:fx.env.locals=fx.L
 kind:fx.env.scope.kind=.function
 above:W.hb.objs.size≤fx.L
 names:fx.env.scope.names=fx.kd.map fun x=>(W.nm x.1,x.2)
 globals:fx.env.globals=mainGlobals
 builtins:fx.env.builtins=builtinsNs
 cells:∀ i,fx.kd.lookup i=some .cell→∃ a,fx.env.cells.lookup (W.nm i)=some a
structure LocAt (W:Wd) (fx:Fx) (β:Nat→Addr) (n:Nat) (m:Str→Option Value) (i:Nat) (v:AV):Prop where
 cel:fx.kd.lookup i=some .cell→∃ l,v=.loc l∧l < n∧fx.env.cells.lookup (W.nm i)=some (β l)
 dic:fx.kd.lookup i≠some .cell→∃ V,m (W.nm i)=some V∧VR W β n v V
structure Inv (W:Wd) (fx:Fx) (β δ:Nat→Addr) (st:St) (h:Heap):Prop where
 ok:FxOk W fx
 rel:Rel W β δ st h
 loc:∃ m,h.Ns fx.L m∧∀ i v,get? st.loc i=some v→LocAt W fx β st.next m i v
 stays:W.hb.StaysIn h
 ff:h.FunFrames {} (fx.env :: fx.outer)
 apart:∀ b∈fx.frs,¬ own β δ st.next b
 basefr:∀ b∈fx.frs,W.hb.get? b=none
 hd:match st.hd with
  | 0=>fx.A.handled=none
  | 1=>∃ e,fx.A.handled=some (.ref e)∧Held h e∧Free fx β δ st.next e
  | _=>∃ e,fx.A.handled=some (.ref e)
structure Go (fx:Fx) (β δ:Nat→Addr) (st:St) (h:Heap) (β' δ':Nat→Addr) (st':St) (h':Heap):Prop where
 next:st.next≤st'.next
 same:∀ l,l < st.next→β' l=β l∧δ' l=δ l
 new:∀ l,st.next≤l→l < st'.next→h.get? (β' l)=none∧h.get? (δ' l)=none
 keep:∀ b o,h.get? b=some o→¬ own β δ st.next b→b ∉ fx.frs→h'.get? b=some o
 frames:∀ b∈fx.frs,b≠fx.L→∀ o,h.get? b=some o→∃ sl,h'.get? b=some { o with slots:=sl }
 hd:st'.hd=st.hd
 live:∀ b o,h.get? b=some o→∃ o',h'.get? b=some o'
structure Room (fx:Fx) (d u:Nat):Prop where
 depth:fx.A.depth+d < recursionLimit
 units:fx.A.units+u < cLine
abbrev Good (α τ:Type):=(Nat→Addr)→(Nat→Addr)→St→α→τ→Prop
inductive After {α τ:Type} (W:Wd) (fx:Fx) (β δ:Nat→Addr) (st:St) (s:Shared) (r:R α) (good:Good α τ) (x:τ) (s':Shared):Prop
 | intro (v:α) (st':St) (β' δ':Nat→Addr) (e:r=.ok v st') (g:good β' δ' st' v x) (h:Inv W fx β' δ' st' s'.heap∧Go fx β δ st s.heap β' δ' st' s'.heap∧s'={ s with heap:=s'.heap,toks:=s'.toks })
inductive Raised {α:Type} (W:Wd) (fx:Fx) (β δ:Nat→Addr) (st:St) (s:Shared) (r:R α) (x:Value) (s':Shared):Prop
 | intro (c:Nat) (cl:Bool) (st':St) (β' δ':Nat→Addr) (e:Addr) (hr:r=.ex c cl st') (h:x=.ref e∧ExcSt (Free fx β' δ' st'.next) s'.heap e (W.gv c) cl s.heap∧Inv W fx β' δ' st' s'.heap∧Go fx β δ st s.heap β' δ' st' s'.heap∧s'={ s with heap:=s'.heap,toks:=s'.toks })
noncomputable def Ok {α τ:Type} (W:Wd) (fx:Fx) (t:Sem τ) (β δ:Nat→Addr) (st:St) (r:R α) (good:Good α τ):Prop:=
 r≠.bad→∀ s:Shared,Inv W fx β δ st s.heap→wpAny (model W.prog W.w) fx.A t (After W fx β δ st s r good) (Raised W fx β δ st s r) s
section
variable {W:Wd}{fx:Fx}{β δ β' δ' β₁ δ₁:Nat→Addr}{st st' st₁:St}{h h' h₁:Heap}{n n':Nat}
theorem VR.mono {v:AV}{V:Value}(x:VR W β n v V)(hn:n≤n')(hs:∀ l,l < n→β' l=β l):VR W β' n' v V:=by
 cases v <;> try exact x
 case loc l=>exact⟨Nat.lt_of_lt_of_le x.1 hn,by rw [hs l x.1];exact x.2⟩
theorem OVR.mono {v:Option AV}{V:Option Value}(x:OVR W β n v V)(hn:n≤n')(hs:∀ l,l < n→β' l=β l):OVR W β' n' v V:=by
 cases v with
 | none=>trivial
 | some v=>cases V with
  | none=>exact x.elim
  | some V=>exact VR.mono (W:=W) x hn hs
theorem LocAt.mono {m:Str→Option Value}{i:Nat}{v:AV}(x:LocAt W fx β n m i v)(hn:n≤n')(hs:∀ l,l < n→β' l=β l):LocAt W fx β' n' m i v where
 cel h:=let ⟨l,a,b,c⟩:=x.cel h;⟨l,a,Nat.lt_of_lt_of_le b hn,by rw [hs l b];exact c⟩
 dic h:=let ⟨V,a,b⟩:=x.dic h;⟨V,a,b.mono hn hs⟩
theorem VRs.mono {vs:List AV}{Vs:List Value}(x:VRs W β n vs Vs)(hn:n≤n')(hs:∀ l,l < n→β' l=β l):VRs W β' n' vs Vs:=by
 induction x with
 | nil=>exact .nil
 | cons a _ ih=>exact .cons (a.mono hn hs) ih
theorem DRs.mono {es:List (AV×AV)}{ds:List (Int×Value)}(x:DRs W β n es ds)(hn:n≤n')(hs:∀ l,l < n→β' l=β l):DRs W β' n' es ds:=by
 induction x with
 | nil=>exact .nil
 | cons a _ ih=>exact .cons (a.mono hn hs) ih
theorem ARs.mono {es:List (Nat×AV)}{ds:List DictEntry}(x:ARs W β n es ds)(hn:n≤n')(hs:∀ l,l < n→β' l=β l):ARs W β' n' es ds:=by
 induction x with
 | nil=>exact .nil
 | cons a b _ ih=>exact .cons (a.mono hn hs) b ih
theorem ObjAt.mono {l:Nat}{o:AO}(x:ObjAt W β δ n h l o)(hn:n≤n')(hl:l < n)(hs:∀ l,l < n→β' l=β l∧δ' l=δ l)
  (hb:h'.get? (β l)=h.get? (β l)) (hd:h'.get? (δ l)=h.get? (δ l)):ObjAt W β' δ' n' h' l o:=by
 have hs1:∀ l,l < n→β' l=β l:=fun l hl=>(hs l hl).1
 cases o with
 | list xs=>obtain⟨Vs,ep,a,b,c⟩:=x;exact⟨Vs,ep,by rw [(hs l hl).1,hb];exact a,b.mono hn hs1,c⟩
 | tup xs=>obtain⟨Vs,a,b,c⟩:=x;exact⟨Vs,by rw [(hs l hl).1,hb];exact a,b.mono hn hs1,c⟩
 | dict es=>obtain⟨ds,⟨o,es,ep,a,r⟩,b,c⟩:=x;exact⟨ds,⟨o,es,ep,by rw [(hs l hl).1,hb];exact a,r⟩,b.mono hn hs1,c⟩
 | inst c as=>
  obtain⟨a,ds,ep,b,d,e⟩:=x
  exact⟨by rw [(hs l hl).1,(hs l hl).2,hb];exact a,ds,ep,by rw [(hs l hl).2,hd];exact b,d.mono hn hs1,e⟩
 | rng k=>obtain⟨⟨t,u,v,a⟩,b⟩:=x;exact⟨⟨t,u,v,by rw [(hs l hl).1,hb];exact a⟩,b⟩
 | ro xs=>obtain⟨Vs,ep,⟨a0,a⟩,b,c⟩:=x;exact⟨Vs,ep,⟨a0,by rw [(hs l hl).1,hb];exact a⟩,b.mono hn hs1,c⟩
 | cell v=>obtain⟨V,⟨o,a,e⟩,b⟩:=x;exact⟨V,⟨o,by rw [(hs l hl).1,hb];exact a,e⟩,b.mono hn hs1⟩
theorem Go.refl (hh:st'.next=st.next)(hd:st'.hd=st.hd):Go fx β δ st h β δ st' h:=
 ⟨Nat.le_of_eq hh.symm,fun _ _=>⟨rfl,rfl⟩,fun l a b=>absurd b (by lia),fun _ _ e _ _=>e,fun _ _ _ o e=>⟨o.slots,e⟩,hd,fun _ o e=>⟨o,e⟩⟩
theorem Go.none (x:Go fx β δ st h β' δ' st' h')(b:Addr)(e:h'.get? b=Option.none):h.get? b=Option.none:=by
 cases q:h.get? b with
 | none=>rfl
 | some o=>obtain⟨o',e'⟩:=x.live b o q;rw [e] at e';cases e'
theorem Go.own_old (x:Go fx β δ st h β' δ' st' h'){b:Addr}(hb:h.get? b≠Option.none)(y:own β' δ' st'.next b):own β δ st.next b:=by
 refine xo1_2 y fun l hl e=>?_;clear y
 by_cases q:l < st.next
 ·exact⟨l,q,by rw [← (x.same l q).1,← (x.same l q).2];exact e⟩
 ·have:=x.new l (Nat.le_of_not_lt q) hl
  rcases e with e | e
  ·exact absurd (e ▸ this.1) hb
  ·exact absurd (e ▸ this.2) hb
theorem Go.trans (x:Go fx β δ st h β' δ' st' h')(y:Go fx β' δ' st' h' β₁ δ₁ st₁ h₁):Go fx β δ st h β₁ δ₁ st₁ h₁ where
 next:=Nat.le_trans x.next y.next
 same l hl:=by
  have a:=x.same l hl
  have b:=y.same l (Nat.lt_of_lt_of_le hl x.next)
  exact⟨b.1.trans a.1,b.2.trans a.2⟩
 new l h1 h2:=by
  by_cases q:l < st'.next
  ·have a:=x.new l h1 q
   have b:=y.same l q
   rw [b.1,b.2];exact a
  ·have a:=y.new l (Nat.le_of_not_lt q) h2
   exact⟨x.none _ a.1,x.none _ a.2⟩
 keep b o e no nf:=y.keep b o (x.keep b o e no nf) (fun q=>no (x.own_old (by rw [e];nofun) q)) nf
 frames b hb hL o e:=by
  refine xo1_1 (x.frames b hb hL o e) fun s1 e1=>?_
  refine xo1_1 (y.frames b hb hL _ e1) fun s2 e2=>?_
  exact⟨s2,e2⟩
 hd:=y.hd.trans x.hd
 live b o e:=let ⟨_,e1⟩:=x.live b o e;y.live b _ e1
theorem ExcSt.mono {fr fr':Addr→Prop}{e:Addr}{cls:Value}{cl:Bool}{h₀ h₀':Heap}(x:ExcSt fr h e cls cl h₀)(hl:∀ b,h₀.get? b=none→h₀'.get? b=none)(hf:∀ b,fr b→fr' b):ExcSt fr' h e cls cl h₀':=by
 refine xo2_6 x.obj fun oe vs a1 a2 a3 a4 a5 a6=>?_
 refine⟨hl _ x.new,hf _ x.free,oe,vs,a1,a2,a3,a4,a5,a6.imp id ?_⟩
 rintro⟨T,oT,ts,b1,b2,b3,b4⟩
 exact⟨T,oT,ts,b1,hl _ b2,hf _ b3,b4⟩
theorem same_trans {s s' s'':Shared}(x:s'={ s with heap:=s'.heap,toks:=s'.toks })(y:s''={ s' with heap:=s''.heap,toks:=s''.toks }):s''={ s with heap:=s''.heap,toks:=s''.toks }:=by
 rw [y,x]
theorem After.trans {υ ρ:Type}{s s' s'':Shared}{q:R υ}{good:Good υ ρ}{x:ρ}(g:Go fx β δ st s.heap β' δ' st' s'.heap)(e:s'={ s with heap:=s'.heap,toks:=s'.toks })
  (a:After W fx β' δ' st' s' q good x s''):After W fx β δ st s q good x s'':=by
 obtain⟨v,st₁,β₁,δ₁,e1,e2,e3,e4,e5⟩:=a
 exact⟨v,st₁,β₁,δ₁,e1,e2,e3,g.trans e4,same_trans e e5⟩
theorem Raised.trans {υ:Type}{s s' s'':Shared}{q:R υ}{x:Value}(g:Go fx β δ st s.heap β' δ' st' s'.heap)(e:s'={ s with heap:=s'.heap,toks:=s'.toks })
  (a:Raised W fx β' δ' st' s' q x s''):Raised W fx β δ st s q x s'':=by
 obtain⟨c,cl,st₁,β₁,δ₁,ad,e1,e2,e3,e4,e5,e6⟩:=a
 exact⟨c,cl,st₁,β₁,δ₁,ad,e1,e2,e3.mono g.none fun _ z=>z,e4,g.trans e5,same_trans e e6⟩
variable {α τ υ ρ:Type}
theorem Ok.bind {t:Sem τ}{k:τ→Sem ρ}{r:R α}{f:α→St→R υ}{good:Good α τ}{good':Good υ ρ}(a:Ok W fx t β δ st r good)
  (b:∀ v st' β' δ' x,r=.ok v st'→good β' δ' st' v x→st.next≤st'.next→(∀ l,l < st.next→β' l=β l∧δ' l=δ l)→Ok W fx (k x) β' δ' st' (f v st') good') :
  Ok W fx (t >>= k) β δ st (r.bnd f) good':=fun nb s inv=>by
 refine wpAny_bind (wpAny_mono (a (fun q=>nb (by rw [q];rfl)) s inv) (fun x s' p=>?_) fun e s' p=>?_)
 ·obtain⟨v,st',β',δ',e1,e2,e3,e4,e5⟩:=p
  subst e1
  exact wpAny_mono (b v st' β' δ' x rfl e2 e4.next e4.same nb s' e3) (fun y s'' q=>After.trans e4 e5 q) fun y s'' q=>Raised.trans e4 e5 q
 ·obtain⟨c,cl,st₁,β₁,δ₁,ad,e1,e2,e3,e4,e5,e6⟩:=p
  subst e1
  exact⟨c,cl,st₁,β₁,δ₁,ad,rfl,e2,e3,e4,e5,e6⟩
end
section
variable {W:Wd}{fx:Fx}{β δ β' δ':Nat→Addr}{st:St}{h h':Heap}{l:Nat}{o o':AO}
theorem mem_frs (ok:FxOk W fx):fx.L∈fx.frs:=by
 unfold Fx.frs
 rw [List.filterMap_cons,ok.frame]
 exact .head _
theorem ff_keep (f:h.FunFrames {} (fx.env :: fx.outer))(k:∀ b∈fx.frs,∀ x,h.get? b=some x→∃ sl,h'.get? b=some { x with slots:=sl }):h'.FunFrames {} (fx.env :: fx.outer):=by
 unfold Fx.frs at k
 generalize fx.env :: fx.outer=l at f k
 induction l with
 | nil=>trivial
 | cons env rest ih=>
  obtain⟨hk,⟨L,x,hf,hn,ho,hd⟩,hr⟩:=f
  obtain⟨sl,e⟩:=k L (by rw [List.filterMap_cons,hf];exact .head _) x ho
  exact⟨hk,⟨L,_,hf,hn,e,hd⟩,ih hr fun b hb=>k b (by rw [List.filterMap_cons,hf];exact .tail _ hb)⟩
theorem ns_slots {L:Addr}{m:Str→Option Value}(x:h.Ns L m)(k:∀ y,h.get? L=some y→∃ sl,h'.get? L=some { y with slots:=sl }):h'.Ns L m:=by
 refine xo3_3 x fun y es ep a b c=>?_;clear x
 refine xo1_1 (k y a) fun sl e=>?_
 exact⟨_,es,ep,e,b,c⟩
theorem ObjAt.move {n:Nat}(z:ObjAt W β δ n h l o)(kb:∀ x,h.get? (β l)=some x→h'.get? (β l)=some x)(kd:∀ x,h.get? (δ l)=some x→h'.get? (δ l)=some x):ObjAt W β δ n h' l o:=by
 cases o with
 | list xs=>obtain⟨Vs,ep,a,b,c⟩:=z;exact⟨Vs,ep,kb _ a,b,c⟩
 | tup xs=>obtain⟨Vs,a,b,c⟩:=z;exact⟨Vs,kb _ a,b,c⟩
 | dict es=>obtain⟨ds,⟨o,es,ep,a,r⟩,b,c⟩:=z;exact⟨ds,⟨o,es,ep,kb _ a,r⟩,b,c⟩
 | inst c as=>obtain⟨a,ds,ep,b,d,e⟩:=z;exact⟨kb _ a,ds,ep,kd _ b,d,e⟩
 | rng kk=>obtain⟨⟨t,u,v,a⟩,b⟩:=z;exact⟨⟨t,u,v,kb _ a⟩,b⟩
 | ro xs=>obtain⟨Vs,ep,a,b,c⟩:=z;exact⟨Vs,ep,⟨a.1,kb _ a.2⟩,b,c⟩
 | cell v=>obtain⟨V,⟨o,a,e⟩,b⟩:=z;exact⟨V,⟨o,kb _ a,e⟩,b⟩
theorem Inv.grow (inv:Inv W fx β δ st h)(k:∀ b x,h.get? b=some x→h'.get? b=some x):Inv W fx β δ st h' where
 ok:=inv.ok
 rel:=by
  obtain⟨a1,a2,a3,a4,a5,a6,a7,a8⟩:=inv.rel
  refine⟨a1,a2,fun l o e=>?_,a4,a5,a6,a7,fun l hl=>let ⟨⟨x,e⟩,y,e'⟩:=a8 l hl;⟨⟨x,k _ _ e⟩,y,k _ _ e'⟩⟩
  exact (a3 l o e).move (k _) (k _)
 loc:=let ⟨m,a,b⟩:=inv.loc;⟨m,a.keeps k,b⟩
 stays:=fun b x e=>k b x (inv.stays b x e)
 ff:=ff_keep inv.ff fun b _ x e=>⟨x.slots,k b x e⟩
 apart:=inv.apart
 basefr:=inv.basefr
 hd:=by
  have z:=inv.hd
  revert z
  cases st.hd with
  | zero=>exact id
  | succ k'=>cases k' with
   | zero=>rintro⟨e,a,⟨oe,vs,b,c⟩,d⟩;exact⟨e,a,⟨oe,vs,k _ _ b,c⟩,d⟩
   | succ k''=>exact id
theorem Go.grow (k:∀ b x,h.get? b=some x→h'.get? b=some x):Go fx β δ st h β δ st h':=
 ⟨Nat.le_refl _,fun _ _=>⟨rfl,rfl⟩,fun l a b=>absurd b (Nat.not_lt.mpr a),fun b o e _ _=>k b o e,fun b _ _ o e=>⟨o.slots,k b o e⟩,rfl,fun b o e=>⟨o,k b o e⟩⟩
theorem push_keeps (o:Obj):∀ b x,h.get? b=some x→(h.push o).get? b=some x:=fun b x e=>Heap.get?_push_of_some _ e
theorem Inv.upd {a:Addr}(inv:Inv W fx β δ st h)(hl:st.heap l=some o)(hs:Heap.SameBut a h h')(ha:a=β l∨a=δ l)(hobj:ObjAt W β δ st.next h' l o')(hlive:∃ y,h'.get? a=some y) :
  Inv W fx β δ (st.set l o') h'∧Go fx β δ st h β δ (st.set l o') h':=by
 have hlt:=inv.rel.some_lt l o hl
 have hown:own β δ st.next a:=⟨l,hlt,ha⟩
 have nf:∀ b∈fx.frs,b≠a:=fun b hb e=>inv.apart b hb (e ▸ hown)
 have same:∀ b,b≠a→h'.get? b=h.get? b:=hs.2
 have oth:∀ l',l' < st.next→l'≠l→β l'≠a∧δ l'≠a:=fun l' h1 h2=>by
  rcases ha with rfl | rfl
  ·exact⟨fun e=>h2 (inv.rel.bb _ _ h1 hlt e),fun e=>h2 (inv.rel.bd _ _ hlt h1 e.symm).symm⟩
  ·exact⟨fun e=>h2 (inv.rel.bd _ _ h1 hlt e),fun e=>h2 (inv.rel.dd _ _ h1 hlt e)⟩
 have live:∀ b,(∃ x,h.get? b=some x)→∃ x,h'.get? b=some x:=fun b ⟨x,e⟩=>by
  by_cases q:b=a
  ·have z:∃ y,h'.get? a=some y:=hlive
   rw [q];exact z
  ·exact⟨x,(same b q).trans e⟩
 refine⟨⟨inv.ok,⟨fun l' x e=>?_,fun l' h1=>?_,fun l' x e=>?_,inv.rel.bb,inv.rel.dd,inv.rel.bd,inv.rel.base,fun l' h1=>⟨live _ (inv.rel.live l' h1).1,live _ (inv.rel.live l' h1).2⟩⟩,?_,?_,?_,inv.apart,inv.basefr,?_⟩,?_⟩
 ·simp only [St.set] at e ⊢
  split at e
  ·rename_i q;rw [q];exact hlt
  ·exact inv.rel.some_lt l' x e
 ·simp only [St.set]
  split
  ·exact⟨_,rfl⟩
  ·exact inv.rel.lt_some l' h1
 ·simp only [St.set] at e ⊢
  split at e
  ·rename_i q;cases e;rw [q];exact hobj
  ·rename_i q
   have h1:=inv.rel.some_lt l' x e
   have z:=oth l' h1 q
   exact (inv.rel.obj l' x e).mono (Nat.le_refl _) h1 (fun _ _=>⟨rfl,rfl⟩) (same _ z.1) (same _ z.2)
 ·refine xo1_2 inv.loc fun m a1 a2=>?_
  exact⟨m,a1.sameBut hs (nf _ (mem_frs inv.ok)),a2⟩
 ·exact fun b x e=>(same b fun q=>by
   have z:=inv.rel.base l hlt
   rcases ha with rfl | rfl
   ·rw [q,z.1] at e;cases e
   ·rw [q,z.2] at e;cases e).trans (inv.stays b x e)
 ·exact ff_keep inv.ff fun b hb x e=>⟨x.slots,(same b (nf b hb)).trans e⟩
 ·have z:=inv.hd
  show (match st.hd with | 0=>_ | 1=>_ | _=>_)
  revert z
  cases st.hd with
  | zero=>exact id
  | succ k'=>cases k' with
   | zero=>
    rintro⟨e,a1,⟨oe,vs,b,c⟩,d⟩
    exact⟨e,a1,⟨oe,vs,(same e fun q=>d.1 (q ▸ hown)).trans b,c⟩,d⟩
   | succ k''=>exact id
 ·exact⟨Nat.le_refl _,fun _ _=>⟨rfl,rfl⟩,fun l a b=>absurd b (Nat.not_lt.mpr a),fun b x e no _=>(same b fun q=>no (q ▸ hown)).trans e,
   fun b hb _ x e=>⟨x.slots,(same b (nf b hb)).trans e⟩,rfl,fun b x e=>live b ⟨x,e⟩⟩
end
end Mine
end
section
open PySem PySem.W PyProof.Rows PySem.Calls
namespace Mine
section
variable {W:Wd}{fx:Fx}{β δ β' δ':Nat→Addr}{st:St}{h h':Heap}{l:Nat}{o o':AO}
theorem VRs.length {n:Nat}{vs:List AV}{Vs:List Value}(x:VRs W β n vs Vs):vs.length=Vs.length:=by
 induction x with
 | nil=>rfl
 | cons _ _ ih=>simp [ih]
theorem VRs.get {n:Nat}{vs:List AV}{Vs:List Value}(x:VRs W β n vs Vs):∀ {k:Nat}{v:AV},vs[k]?=some v→∃ V,Vs[k]?=some V∧VR W β n v V:=by
 induction x with
 | nil=>intro k v e;simp at e
 | cons a _ ih=>
  intro k v e
  cases k with
  | zero=>simp at e;subst e;exact⟨_,rfl,a⟩
  | succ k=>simpa using ih (by simpa using e)
theorem VRs.none {n:Nat}{vs:List AV}{Vs:List Value}(x:VRs W β n vs Vs){k:Nat}(e:vs[k]?=Option.none):Vs[k]?=Option.none:=by
 rw [List.getElem?_eq_none_iff] at e ⊢
 rw [← x.length];exact e
theorem VRs.app {n:Nat}{vs ws:List AV}{Vs Ws:List Value}(x:VRs W β n vs Vs)(y:VRs W β n ws Ws):VRs W β n (vs++ws) (Vs++Ws):=by
 induction x with
 | nil=>exact y
 | cons a _ ih=>exact .cons a ih
theorem VRs.set {n:Nat}{vs:List AV}{Vs:List Value}(x:VRs W β n vs Vs){v:AV}{V:Value}(a:VR W β n v V):∀ k,VRs W β n (vs.set k v) (Vs.set k V):=by
 induction x with
 | nil=>intro k;exact .nil
 | cons b c ih=>
  intro k
  cases k with
  | zero=>exact .cons a c
  | succ k=>exact .cons b (ih k)
theorem VRs.erase {n:Nat}{vs:List AV}{Vs:List Value}(x:VRs W β n vs Vs):∀ k,VRs W β n (vs.eraseIdx k) (Vs.eraseIdx k):=by
 induction x with
 | nil=>intro k;exact .nil
 | cons b c ih=>
  intro k
  cases k with
  | zero=>exact c
  | succ k=>exact .cons b (ih k)
theorem VRs.take {n:Nat}{vs:List AV}{Vs:List Value}(x:VRs W β n vs Vs):∀ k,VRs W β n (vs.take k) (Vs.take k):=by
 induction x with
 | nil=>intro k;rw [List.take_nil,List.take_nil];exact .nil
 | cons b c ih=>
  intro k
  cases k with
  | zero=>exact .nil
  | succ k=>exact .cons b (ih k)
noncomputable def ext (β:Nat→Addr) (n:Nat) (a:Addr):Nat→Addr:=fun x=>if x=n then a else β x
theorem ext_lt {n:Nat}{a:Addr}{l:Nat}(hl:l < n):ext β n a l=β l:=by unfold ext;rw [if_neg (Nat.ne_of_lt hl)]
theorem ext_eq {n:Nat}{a:Addr}:ext β n a n=a:=by unfold ext;rw [if_pos rfl]
structure NewAt (W:Wd) (fx:Fx) (β δ:Nat→Addr) (st:St) (a:Addr):Prop where
 own:¬ own β δ st.next a
 frs:a ∉ fx.frs
 base:W.hb.get? a=none
 held:∀ e,st.hd=1→fx.A.handled=some (.ref e)→e≠a
theorem Inv.newAt {a:Addr}(inv:Inv W fx β δ st h)(ha:h.get? a=Option.none):NewAt W fx β δ st a where
 own:=fun⟨l,hl,e⟩=>by
  obtain⟨⟨x,e1⟩,y,e2⟩:=inv.rel.live l hl
  rcases e with rfl | rfl
  ·rw [ha] at e1;exact nsE e1
  ·rw [ha] at e2;exact nsE e2
 frs:=fun q=>by
  refine xm_aeaa (inv.ff.mem q) fun _ x hx _=>?_
  rw [ha] at hx;exact nsE hx
 base:=by
  cases q:W.hb.get? a with
  | none=>rfl
  | some x=>exact absurd (ha.symm.trans (inv.stays a x q)) (by nofun)
 held:=fun e q he w=>by
  have z:=inv.hd
  rw [q] at z
  obtain⟨e',a1,⟨oe,vs,b,_⟩,_⟩:=z
  rw [he] at a1;cases a1
  rw [w,ha] at b;cases b
theorem Inv.adopt {a d:Addr}(inv:Inv W fx β δ st h)(k:∀ b x,h.get? b=some x→h'.get? b=some x)
  (ha:NewAt W fx β δ st a) (hd:NewAt W fx β δ st d) (ha':∃ o,h'.get? a=some o) (hd':∃ o,h'.get? d=some o)
  (hobj:ObjAt W (ext β st.next a) (ext δ st.next d) (st.next+1) h' st.next o) :
  Inv W fx (ext β st.next a) (ext δ st.next d) (st.new o) h':=by
 have R:=inv.rel
 have I':=inv.grow k
 have same:∀ l,l < st.next→ext β st.next a l=β l∧ext δ st.next d l=δ l:=fun l hl=>⟨ext_lt hl,ext_lt hl⟩
 have lt1:∀ l,l < st.next+1→l≠st.next→l < st.next:=fun l h1 h2=>Nat.lt_of_le_of_ne (Nat.le_of_lt_succ h1) h2
 refine⟨inv.ok,⟨fun l x e=>?_,fun l hl=>?_,fun l x e=>?_,fun l l' h1 h2 e=>?_,fun l l' h1 h2 e=>?_,fun l l' h1 h2 e=>?_,fun l h1=>?_,fun l h1=>?_⟩,?_,I'.stays,I'.ff,?_,inv.basefr,?_⟩
 ·simp only [St.new] at e ⊢
  split at e
  ·rename_i q;rw [q];exact Nat.lt_succ_self _
  ·exact Nat.lt_succ_of_lt (R.some_lt l x e)
 ·simp only [St.new] at hl ⊢
  split
  ·exact⟨_,rfl⟩
  ·rename_i q;exact R.lt_some l (lt1 l hl q)
 ·simp only [St.new] at e ⊢
  split at e
  ·rename_i q;cases e;rw [q];exact hobj
  ·have h1:=R.some_lt l x e
   have z:=I'.rel.obj l x e
   exact z.mono (Nat.le_succ _) h1 same rfl rfl
 ·simp only [St.new] at h1 h2
  by_cases q:l=st.next <;> by_cases q':l'=st.next
  ·rw [q,q']
  ·rw [q,ext_eq,ext_lt (lt1 _ h2 q')] at e
   exact absurd ⟨l',lt1 _ h2 q',.inl e⟩ ha.own
  ·rw [q',ext_eq,ext_lt (lt1 _ h1 q)] at e
   exact absurd ⟨l,lt1 _ h1 q,.inl e.symm⟩ ha.own
  ·rw [ext_lt (lt1 _ h1 q),ext_lt (lt1 _ h2 q')] at e
   exact R.bb _ _ (lt1 _ h1 q) (lt1 _ h2 q') e
 ·simp only [St.new] at h1 h2
  by_cases q:l=st.next <;> by_cases q':l'=st.next
  ·rw [q,q']
  ·rw [q,ext_eq,ext_lt (lt1 _ h2 q')] at e
   exact absurd ⟨l',lt1 _ h2 q',.inr e⟩ hd.own
  ·rw [q',ext_eq,ext_lt (lt1 _ h1 q)] at e
   exact absurd ⟨l,lt1 _ h1 q,.inr e.symm⟩ hd.own
  ·rw [ext_lt (lt1 _ h1 q),ext_lt (lt1 _ h2 q')] at e
   exact R.dd _ _ (lt1 _ h1 q) (lt1 _ h2 q') e
 ·simp only [St.new] at h1 h2
  by_cases q:l=st.next <;> by_cases q':l'=st.next
  ·rw [q,q']
  ·rw [q,ext_eq,ext_lt (lt1 _ h2 q')] at e
   exact absurd ⟨l',lt1 _ h2 q',.inr e⟩ ha.own
  ·rw [q',ext_eq,ext_lt (lt1 _ h1 q)] at e
   exact absurd ⟨l,lt1 _ h1 q,.inl e.symm⟩ hd.own
  ·rw [ext_lt (lt1 _ h1 q),ext_lt (lt1 _ h2 q')] at e
   exact R.bd _ _ (lt1 _ h1 q) (lt1 _ h2 q') e
 ·simp only [St.new] at h1
  by_cases q:l=st.next
  ·rw [q,ext_eq,ext_eq];exact⟨ha.base,hd.base⟩
  ·rw [ext_lt (lt1 _ h1 q),ext_lt (lt1 _ h1 q)];exact R.base l (lt1 _ h1 q)
 ·simp only [St.new] at h1
  by_cases q:l=st.next
  ·rw [q,ext_eq,ext_eq];exact⟨ha',hd'⟩
  ·rw [ext_lt (lt1 _ h1 q),ext_lt (lt1 _ h1 q)]
   exact I'.rel.live l (lt1 _ h1 q)
 ·refine xo1_2 I'.loc fun m a1 a2=>?_
  exact⟨m,a1,fun i v e=>(a2 i v e).mono (Nat.le_succ _) fun l hl=>ext_lt hl⟩
 ·rintro b hb ⟨l,hl,e⟩
  simp only [St.new] at hl
  by_cases q:l=st.next
  ·rw [q,ext_eq,ext_eq] at e
   rcases e with rfl | rfl
   ·exact ha.frs hb
   ·exact hd.frs hb
  ·rw [ext_lt (lt1 _ hl q),ext_lt (lt1 _ hl q)] at e
   exact inv.apart b hb ⟨l,lt1 _ hl q,e⟩
 ·have z:=I'.hd
  have zz:=inv.hd
  have ah:=ha.held
  have dh:=hd.held
  show (match st.hd with | 0=>_ | 1=>_ | _=>_)
  revert z zz ah dh
  cases st.hd with
  | zero=>exact fun z _ _ _=>z
  | succ k'=>cases k' with
   | zero=>
    rintro⟨e,a1,b1,d1⟩ ⟨e',a1',b1',d1'⟩ ah dh
    refine⟨e',a1',?_,?_,d1'.2⟩
    ·rw [a1] at a1';cases a1';exact b1
    ·rintro⟨l,hl,q⟩
     simp only [St.new] at hl
     by_cases w:l=st.next
     ·rw [w,ext_eq,ext_eq] at q
      rcases q with q | q
      ·exact ah e' rfl a1' q
      ·exact dh e' rfl a1' q
     ·rw [ext_lt (lt1 _ hl w),ext_lt (lt1 _ hl w)] at q
      exact d1'.1 ⟨l,lt1 _ hl w,q⟩
   | succ k''=>exact fun z _ _ _=>z
theorem Inv.alloc {a d:Addr}(inv:Inv W fx β δ st h)(k:∀ b x,h.get? b=some x→h'.get? b=some x)
  (ha:h.get? a=Option.none) (hd:h.get? d=Option.none) (ha':∃ o,h'.get? a=some o) (hd':∃ o,h'.get? d=some o)
  (hobj:ObjAt W (ext β st.next a) (ext δ st.next d) (st.next+1) h' st.next o) :
  Inv W fx (ext β st.next a) (ext δ st.next d) (st.new o) h'∧Go fx β δ st h (ext β st.next a) (ext δ st.next d) (st.new o) h':=by
 refine⟨inv.adopt k (inv.newAt ha) (inv.newAt hd) ha' hd' hobj,Nat.le_succ _,fun l hl=>⟨ext_lt hl,ext_lt hl⟩,fun l h1 h2=>?_,fun b o e _ _=>k b o e,fun b _ _ o e=>⟨o.slots,k b o e⟩,rfl,fun b o e=>⟨o,k b o e⟩⟩
 have:l=st.next:=Nat.le_antisymm (Nat.le_of_lt_succ h2) h1
 rw [this,ext_eq,ext_eq];exact⟨ha,hd⟩
theorem Inv.put {i:Nat}{v:AV}{V:Value}{m:Str→Option Value}(inj:∀ i j,W.nm i=W.nm j→i=j)(inv:Inv W fx β δ st h)(hk:fx.kd.lookup i≠some .cell)(hm:∀ j x,get? st.loc j=some x→LocAt W fx β st.next m j x)
  (hs:Heap.SameBut fx.L h h') (hn:h'.Ns fx.L (fun y=>if y=W.nm i then some V else m y)) (hv:VR W β st.next v V) :
  Inv W fx β δ (st.put i v) h'∧Go fx β δ st h β δ (st.put i v) h':=by
 have hL:=mem_frs inv.ok
 have no:∀ l,l < st.next→β l≠fx.L∧δ l≠fx.L:=fun l hl=>⟨fun e=>inv.apart _ hL ⟨l,hl,.inl e.symm⟩,fun e=>inv.apart _ hL ⟨l,hl,.inr e.symm⟩⟩
 refine⟨⟨inv.ok,⟨inv.rel.some_lt,inv.rel.lt_some,fun l x e=>?_,inv.rel.bb,inv.rel.dd,inv.rel.bd,inv.rel.base,fun l hl=>let ⟨⟨x,e⟩,y,e'⟩:=inv.rel.live l hl;⟨⟨x,(hs.2 _ (no l hl).1).trans e⟩,y,(hs.2 _ (no l hl).2).trans e'⟩⟩,⟨_,hn,fun j x e=>?_⟩,?_,?_,inv.apart,inv.basefr,?_⟩,?_⟩
 ·have hl:=inv.rel.some_lt l x e
  exact (inv.rel.obj l x e).mono (Nat.le_refl _) hl (fun _ _=>⟨rfl,rfl⟩) (hs.2 _ (no l hl).1) (hs.2 _ (no l hl).2)
 ·by_cases q:j=i
  ·subst q
   rw [show (st.put j v).loc=Mine.put st.loc j v from rfl,get_put] at e
   obtain rfl:=Option.some.inj e
   exact⟨fun w=>(hk w).elim,fun _=>⟨V,by simp,hv⟩⟩
  ·rw [show (st.put i v).loc=Mine.put st.loc i v from rfl,get_put_ne _ _ q] at e
   refine⟨(hm j x e).cel,fun w=>?_⟩
   refine xo1_2 ((hm j x e).dic w) fun X a1 a2=>?_
   exact⟨X,by show (if W.nm j=W.nm i then some V else m (W.nm j))=some X;rw [if_neg fun w=>q (inj _ _ w)];exact a1,a2⟩
 ·exact fun b x e=>(hs.2 b fun q=>by
   have:=inv.basefr _ hL;rw [← q,e] at this;cases this).trans (inv.stays b x e)
 ·have:∀ b∈fx.frs,∀ x,h.get? b=some x→∃ x',h'.get? b=some x'∧∀ vs,x.data≠.fields vs→x'.data≠.fields vs:=fun b hb x e=>by
   by_cases q:b=fx.L
   ·refine xo3_3 hn fun y es ep e1 e2 _=>?_;clear hn
    exact⟨y,q ▸ e1,fun vs _ w=>by rw [e2] at w;cases w⟩
   ·exact⟨x,(hs.2 b q).trans e,fun vs w=>w⟩
  have f:=inv.ff
  unfold Fx.frs at this
  generalize fx.env :: fx.outer=l at f this
  induction l with
  | nil=>trivial
  | cons env rest ih=>
   obtain⟨hk,⟨L,x,hf,hn',ho,hd⟩,hr⟩:=f
   obtain⟨x',e1,e2⟩:=this L (by rw [List.filterMap_cons,hf];exact .head _) x ho
   exact⟨hk,⟨L,x',hf,hn',e1,fun vs=>e2 vs (hd vs)⟩,ih hr fun b hb=>this b (by rw [List.filterMap_cons,hf];exact .tail _ hb)⟩
 ·have z:=inv.hd
  show (match st.hd with | 0=>_ | 1=>_ | _=>_)
  revert z
  cases st.hd with
  | zero=>exact id
  | succ k'=>cases k' with
   | zero=>
    rintro⟨e,a1,⟨oe,vs,b,c⟩,d⟩
    exact⟨e,a1,⟨oe,vs,(hs.2 e fun q=>d.2 (q ▸ hL)).trans b,c⟩,d⟩
   | succ k''=>exact id
 ·refine⟨Nat.le_refl _,fun _ _=>⟨rfl,rfl⟩,fun l a b=>absurd b (Nat.not_lt.mpr a),fun b x e _ nf=>(hs.2 b fun q=>nf (q ▸ hL)).trans e,fun b _ hb x e=>⟨x.slots,(hs.2 b hb).trans e⟩,rfl,fun b x e=>?_⟩
  by_cases q:b=fx.L
  ·obtain⟨y,_,_,e1,_⟩:=hn;exact⟨y,q ▸ e1⟩
  ·exact⟨x,(hs.2 b q).trans e⟩
end
end Mine
end
section
open PySem PySem.W PyProof.Rows PySem.Calls
namespace Mine
theorem mapFields_data {o:Obj}{vs:Array Value}(hd:o.data=.fields vs) (f):(Obj.mapFields f o).data=.fields (f vs):=Obj.data_mapFields hd f
theorem mapFields_cls (o:Obj) (f):(Obj.mapFields f o).cls=o.cls:=Obj.cls_mapFields _ _
theorem notFreed_of_fields {o:Obj}{vs:Array Value}(hd:o.data=.fields vs):o.isFreed=false:=by
 obtain⟨c,d,dt,sl⟩:=o;subst hd;rfl
structure Tch (fx:Fx) (fr:Addr→Prop) (h₀:Heap) (h h':Heap):Prop where
 keep:∀ b o,h.get? b=some o→b ∉ fx.frs→(h₀.get? b≠none∨¬ fr b)→h'.get? b=some o
 live:∀ b o,h.get? b=some o→∃ o',h'.get? b=some o'
 frames:∀ b∈fx.frs,∀ o,h.get? b=some o→∃ sl,h'.get? b=some { o with slots:=sl }
theorem Tch.refl {fx:Fx}{fr:Addr→Prop}{h₀:Heap}{h:Heap}:Tch fx fr h₀ h h:=⟨fun _ _ e _ _=>e,fun _ o e=>⟨o,e⟩,fun _ _ o e=>⟨o.slots,e⟩⟩
theorem Tch.trans {fx:Fx}{fr:Addr→Prop}{h₀:Heap}{h h' h'':Heap}(x:Tch fx fr h₀ h h')(y:Tch fx fr h₀ h' h''):Tch fx fr h₀ h h'':=
 ⟨fun b o e n k=>y.keep b o (x.keep b o e n k) n k,fun b o e=>let ⟨_,e1⟩:=x.live b o e;y.live b _ e1,fun b hb o e=>let ⟨_,e1⟩:=x.frames b hb o e;let ⟨sl,e2⟩:=y.frames b hb _ e1;⟨sl,e2⟩⟩
theorem Tch.upd {fx:Fx}{fr:Addr→Prop}{h₀:Heap}{h:Heap}{a:Addr}{f:Obj→Obj}(h1:h₀.get? a=none)(h2:fr a)(h3:a ∉ fx.frs)(h4:∃ o,(h.update a f).get? a=some o):Tch fx fr h₀ h (h.update a f):=
 ⟨fun b o e _ k=>(Heap.get?_update_other _ _ fun q=>by
  subst q
  rcases k with k | k
  ·exact k h1
  ·exact k h2).trans e,fun b o e=>by
  by_cases q:b=a
  ·subst q;exact h4
  ·exact⟨o,(Heap.get?_update_other _ _ fun w=>q w.symm).trans e⟩,fun b hb o e=>⟨o.slots,(Heap.get?_update_other _ _ fun q=>by subst q;exact h3 hb).trans e⟩⟩
section
variable {M:Model}{fx:Fx}{E:Value→Shared→Prop}{s:Shared}{fr:Addr→Prop}{e:Addr}{cls:Value}{cl:Bool}{h₀:Heap}{Q:Unit→Shared→Prop}
theorem setFlight_any (x:ExcSt fr s.heap e cls cl h₀)(fl:Option Addr)(nf:∀ b,fr b→b ∉ fx.frs)
  (h:∀ h',Tch fx fr h₀ s.heap h'→ExcSt fr h' e cls cl h₀→(Traced s.heap e→Traced h' e)→Q () { s with heap:=h' }):wpAny M fx.A (setFlight (.ref e) fl) Q E s:=by
 refine xo2_6 x.obj fun oe vs a1 a2 a3 a4 a5 a6=>?_
 have h1lt:1 < vs.size:=by lia
 unfold setFlight
 rcases a6 with a6 | ⟨T,oT,ts,b1,b2,b3,b4,b5,b6,b7⟩
 ·refine wpAny_bind (wpAny_field a1 a3 a6 ?_)
  rw [if_neg (by simp)]
  exact wpAny_pure (h _ .refl x id)
 ·refine wpAny_bind (wpAny_field a1 a3 b1 ?_)
  rw [if_pos (show (Value.ref T != Value.none)=true from by simp)]
  have oth:∀ b,b≠T→(s.heap.update T (Obj.mapFields (·.setIfInBounds 3 (fl.elim Value.none fun f=>rawInt f)))).get? b=s.heap.get? b:=fun b hb=>Heap.get?_update_other _ _ (Ne.symm hb)
  have hT:=Heap.get?_update_self (Obj.mapFields (·.setIfInBounds 3 (fl.elim Value.none fun f=>rawInt f))) b5 (notFreed_of_fields (mapFields_data b6 _))
  refine wpAny_setField b5 b6 b7 (h _ (.upd b2 b3 (nf T b3) ⟨_,hT⟩) ⟨x.new,x.free,oe,vs,(oth e (Ne.symm b4)).trans a1,a2,a3,a4,a5,.inr ⟨T,_,_,b1,b2,b3,b4,hT,mapFields_data b6 _,by simpa using b7⟩⟩ ?_)
  rintro⟨oe',vs',T',c1,c2,c3⟩
  exact⟨oe',vs',T',(oth e (Ne.symm b4)).trans c1,c2,c3⟩
theorem note_new (hfr:fx.A.frames=some (fx.env :: fx.outer))(hf:fx.env.frame=some fx.L)(ff:s.heap.FunFrames {} (fx.env :: fx.outer))(x:ExcSt fr s.heap e cls cl h₀)(nf:∀ b,fr b→b ∉ fx.frs)
  (hnew:∀ b,s.heap.get? b=none→fr b) (hz:∀ b,s.heap.get? b=none→h₀.get? b=none) {head:Value} {hadNext:Bool}
  (h:∀ h',Tch fx fr h₀ s.heap h'→ExcSt fr h' e cls cl h₀→Traced h' e→Q () { s with heap:=h' }) :
  wpAny M fx.A (do let a ← frameOf fx.env;let pl ← entryPlaceOf fx.L hadNext;let b ← EntryCells.newEntry head a .none (rawInt fx.L) .none pl;setField (.ref e) 1 b) Q E s:=by
 refine xo2_6 x.obj fun oe vs a1 a2 a3 a4 a5 a6=>?_
 refine wpAny_bind (wpAny_frameOf_fun hfr ff hf fun h₁ hs₁=>?_)
 refine wpAny_bind (wpAny_entryPlaceOf fun pl hpl=>?_)
 unfold EntryCells.newEntry newFields
 refine wpAny_bind (wpAny_newObj_type ?_ (hpl.sizeOk5 _ _ _ _ _))
 have he₁:h₁.get? e=some oe:=(hs₁.2.1 e (nf e x.free)).trans a1
 have he₂:=Heap.get?_push_of_some (h:=h₁) { cls:=.type "traceback",dict:=none,data:=.fields ([head,.ref fx.L,.none,rawInt fx.L,.none]++(if pl.isEmpty then List.replicate 6 Value.none else pl)).toArray } he₁
 have h1lt:1 < vs.size:=by lia
 refine wpAny_setField he₂ a3 h1lt ?_
 have hTe:h₁.objs.size≠e:=Nat.ne_of_gt (Heap.lt_size he₁)
 have hd₃:=Obj.data_mapFields a3 (·.setIfInBounds 1 (Value.ref h₁.objs.size))
 have he₃:=Heap.get?_update_self (Obj.mapFields (·.setIfInBounds 1 (Value.ref h₁.objs.size))) he₂ (Obj.isFreed_of_fields hd₃)
 have hT₃:=(Heap.get?_update_other (h₁.push { cls:=.type "traceback",dict:=none,data:=.fields ([head,.ref fx.L,.none,rawInt fx.L,.none]++(if pl.isEmpty then List.replicate 6 Value.none else pl)).toArray })
  (Obj.mapFields (·.setIfInBounds 1 (Value.ref h₁.objs.size))) (Ne.symm hTe)).trans (Heap.get?_push_size h₁ rfl)
 have sz:s.heap.objs.size=h₁.objs.size:=hs₁.1.symm
 have lohs:h₀.get? h₁.objs.size=none:=hz _ (Heap.get?_none_of_le (Nat.le_of_eq sz))
 have t1:Tch fx fr h₀ s.heap h₁:=⟨fun b o q n _=>(hs₁.2.1 b n).trans q,fun b o q=>by
  by_cases w:b∈fx.frs
  ·obtain⟨sl,e1⟩:=hs₁.2.2 b o q;exact⟨_,e1⟩
  ·exact⟨o,(hs₁.2.1 b w).trans q⟩,fun b _ o q=>hs₁.2.2 b o q⟩
 have t2:Tch fx fr h₀ h₁ (h₁.push { cls:=.type "traceback",dict:=none,data:=.fields ([head,.ref fx.L,.none,rawInt fx.L,.none]++(if pl.isEmpty then List.replicate 6 Value.none else pl)).toArray }):=
  ⟨fun b o q _ _=>Heap.get?_push_of_some _ q,fun b o q=>⟨o,Heap.get?_push_of_some _ q⟩,fun b _ o q=>⟨o.slots,Heap.get?_push_of_some _ q⟩⟩
 refine h _ ((t1.trans t2).trans (.upd x.new x.free (nf e x.free) ⟨_,he₃⟩)) ⟨x.new,x.free,_,_,he₃,(mapFields_cls _ _).trans a2,hd₃,by simpa using a4,fun c=>?_,.inr ⟨h₁.objs.size,_,_,?_,lohs,hnew _ (Heap.get?_none_of_le (Nat.le_of_eq sz)),hTe,hT₃,rfl,?_⟩⟩ ⟨_,_,h₁.objs.size,he₃,hd₃,?_⟩
 ·rw [Array.getElem?_setIfInBounds_ne (by decide)];exact a5 c
 ·simp [h1lt]
 ·simp only [List.size_toArray,List.length_append,List.length_cons,List.length_nil];(clear sz hTe h1lt a4;lia)
 ·simp [h1lt]
theorem note_any (hfr:fx.A.frames=some (fx.env :: fx.outer))(hf:fx.env.frame=some fx.L)(ff:s.heap.FunFrames {} (fx.env :: fx.outer))(x:ExcSt fr s.heap e cls cl h₀)(nf:∀ b,fr b→b ∉ fx.frs)
  (hnew:∀ b,s.heap.get? b=none→fr b) (hz:∀ b,s.heap.get? b=none→h₀.get? b=none) (h:∀ h',Tch fx fr h₀ s.heap h'→ExcSt fr h' e cls cl h₀→Traced h' e→Q () { s with heap:=h' }):wpAny M fx.A (noteFrame (.ref e) fx.env) Q E s:=by
 refine xo2_6 x.obj fun oe vs a1 a2 a3 a4 a5 a6=>?_
 unfold noteFrame
 simp only [hf]
 rcases a6 with a6 | ⟨T,oT,ts,b1,b2,b3,b4,b5,b6,b7⟩
 ·refine wpAny_bind (wpAny_field a1 a3 a6 ?_)
  rw [if_neg (by simp)]
  exact note_new hfr hf ff x nf hnew hz h
 ·refine wpAny_bind (wpAny_field a1 a3 b1 ?_)
  rw [if_pos (show (Value.ref T != Value.none)=true from by simp)]
  obtain⟨y,hy⟩:∃ y,ts[3]?=some y:=⟨_,Array.getElem?_eq_getElem b7⟩
  refine wpAny_bind (wpAny_field b5 b6 hy ?_)
  by_cases q:(y == rawInt fx.L)=true
  ·rw [if_pos q]
   exact wpAny_pure (h _ .refl x ⟨oe,vs,T,a1,a3,b1⟩)
  ·rw [if_neg q]
   have oth:∀ b,b≠T→(s.heap.update T (Obj.mapFields (·.setIfInBounds 3 Value.none))).get? b=s.heap.get? b:=fun b hb=>Heap.get?_update_other _ _ (Ne.symm hb)
   have hT:=Heap.get?_update_self (Obj.mapFields (·.setIfInBounds 3 Value.none)) b5 (notFreed_of_fields (mapFields_data b6 _))
   have t1:Tch fx fr h₀ s.heap (s.heap.update T (Obj.mapFields (·.setIfInBounds 3 Value.none))):=.upd b2 b3 (nf T b3) ⟨_,hT⟩
   refine wpAny_bind (wpAny_setField b5 b6 b7 (note_new (s:={ s with heap:=_ }) hfr hf (ff_keep ff t1.frames)
    ⟨x.new,x.free,oe,vs,(oth e (Ne.symm b4)).trans a1,a2,a3,a4,a5,.inr ⟨T,_,_,b1,b2,b3,b4,hT,mapFields_data b6 _,by simpa using b7⟩⟩ nf
    (fun b hb=>hnew b (by
     cases q:s.heap.get? b with
     | none=>rfl
     | some o=>obtain⟨o',e'⟩:=t1.live b o q;exact absurd ((show (s.heap.update T _).get? b=none from hb).symm.trans e') (by nofun))) (fun b hb=>hz b (by
     cases q:s.heap.get? b with
     | none=>rfl
     | some o=>obtain⟨o',e'⟩:=t1.live b o q;exact absurd ((show (s.heap.update T _).get? b=none from hb).symm.trans e') (by nofun)))
    fun h' y1 y2 y3=>h h' (t1.trans y1) y2 y3))
end
section
variable {W:Wd}{fx:Fx}{β δ β' δ':Nat→Addr}{st st':St}{h h' h₀:Heap}
theorem Inv.hlow (inv:Inv W fx β δ st h)(q:st.hd=1):∀ e,fx.A.handled=some (.ref e)→h.get? e≠none:=fun e he=>by
 have z:=inv.hd
 rw [q] at z
 obtain⟨e',a,⟨oe,vs,b,_⟩,_⟩:=z
 rw [he] at a;cases a
 rw [b];nofun
theorem Inv.touch (inv:Inv W fx β δ st h)(t:Tch fx (Free fx β δ st.next) h₀ h h')(hst:W.hb.StaysIn h₀)(hh:st.hd=1→∀ e,fx.A.handled=some (.ref e)→h₀.get? e≠none):Inv W fx β δ st h':=by
 have ownk:∀ b x,own β δ st.next b→h.get? b=some x→h'.get? b=some x:=fun b x hb e=>t.keep b x e (fun q=>inv.apart b q hb) (.inr fun q=>q.1 hb)
 have bl:∀ l,l < st.next→own β δ st.next (β l)∧own β δ st.next (δ l):=fun l hl=>⟨⟨l,hl,.inl rfl⟩,⟨l,hl,.inr rfl⟩⟩
 refine⟨inv.ok,⟨inv.rel.some_lt,inv.rel.lt_some,fun l o e=>?_,inv.rel.bb,inv.rel.dd,inv.rel.bd,inv.rel.base,fun l hl=>let ⟨⟨x,e⟩,y,e'⟩:=inv.rel.live l hl;⟨⟨x,ownk _ _ (bl l hl).1 e⟩,y,ownk _ _ (bl l hl).2 e'⟩⟩,?_,?_,ff_keep inv.ff t.frames,inv.apart,inv.basefr,?_⟩
 ·have hl:=inv.rel.some_lt l o e
  exact (inv.rel.obj l o e).move (fun x=>ownk _ x (bl l hl).1) (fun x=>ownk _ x (bl l hl).2)
 ·refine xo1_2 inv.loc fun m a1 a2=>?_
  exact⟨m,ns_slots a1 fun y e=>t.frames _ (mem_frs inv.ok) y e,a2⟩
 ·exact fun b x e=>t.keep b x (inv.stays b x e) (fun q=>by rw [inv.basefr b q] at e;cases e) (.inl (by rw [hst b x e];nofun))
 ·have z:=inv.hd
  revert z hh
  cases st.hd with
  | zero=>exact fun _ z=>z
  | succ k'=>cases k' with
   | zero=>
    rintro hh ⟨e,a1,⟨oe,vs,b,c⟩,d⟩
    exact⟨e,a1,⟨oe,vs,t.keep e oe b d.2 (.inl (hh rfl e a1)),c⟩,d⟩
   | succ k''=>exact fun _ z=>z
theorem Go.touch (g:Go fx β δ st h₀ β' δ' st' h)(t:Tch fx (Free fx β' δ' st'.next) h₀ h h')(_inv:Inv W fx β' δ' st' h):Go fx β δ st h₀ β' δ' st' h' where
 next:=g.next
 same:=g.same
 new:=g.new
 keep b o e no nf:=t.keep b o (g.keep b o e no nf) nf (.inl (by rw [e];nofun))
 frames b hb hL o e:=by
  refine xo1_1 (g.frames b hb hL o e) fun s1 e1=>?_
  refine xo1_1 (t.frames b hb _ e1) fun s2 e2=>?_
  exact⟨s2,e2⟩
 hd:=g.hd
 live b o e:=let ⟨_,e1⟩:=g.live b o e;t.live b _ e1
theorem Inv.own_live (inv:Inv W fx β δ st h){b:Addr}(hb:own β δ st.next b):∃ o,h.get? b=some o:=by
 refine xo1_2 hb fun l hl e=>?_;clear hb
 rcases e with rfl | rfl
 ·exact (inv.rel.live l hl).1
 ·exact (inv.rel.live l hl).2
theorem Inv.free_new (inv:Inv W fx β δ st h):∀ b,h.get? b=none→Free fx β δ st.next b:=fun b hb=>by
 refine⟨fun q=>?_,fun q=>?_⟩
 ·obtain⟨o,e⟩:=inv.own_live q;rw [hb] at e;exact nsE e
 ·refine xm_aeaa (inv.ff.mem q) fun _ x hx _=>?_
  rw [hb] at hx;exact nsE hx
variable {α:Type}{r:R α}{s s':Shared}{x:Value}{E:Value→Shared→Prop}{M:Model}
noncomputable def RaisedT (W:Wd) (fx:Fx) (β δ:Nat→Addr) (st:St) (s:Shared) (r:R α) (x:Value) (s':Shared):Prop:=Raised W fx β δ st s r x s'∧∀ e,x=.ref e→Traced s'.heap e
theorem Raised.note {Q:Unit→Shared→Prop}(inv:Inv W fx β δ st s.heap)(p:Raised W fx β δ st s r x s')(q:∀ s'',RaisedT W fx β δ st s r x s''→Q () s''):wpAny M fx.A (noteFrame x fx.env) Q E s':=by
 obtain⟨c,cl,st₁,β₁,δ₁,e,e1,rfl,e3,e4,e5,e6⟩:=p
 refine note_any inv.ok.frames inv.ok.frame e4.ff e3 (fun b z=>z.2) e4.free_new e5.none fun h' t x' tr=>q _ ⟨⟨c,cl,st₁,β₁,δ₁,e,e1,rfl,x',e4.touch t inv.stays fun q1=>?_,e5.touch t e4,by rw [e6]⟩,fun e' he=>by cases he;exact tr⟩
 exact inv.hlow (e5.hd.symm.trans q1)
theorem RaisedT.flight {Q:Unit→Shared→Prop}(inv:Inv W fx β δ st s.heap)(p:RaisedT W fx β δ st s r x s')(fl:Option Addr)(q:∀ s'',RaisedT W fx β δ st s r x s''→Q () s''):wpAny M fx.A (setFlight x fl) Q E s':=by
 obtain⟨⟨c,cl,st₁,β₁,δ₁,e,e1,rfl,e3,e4,e5,e6⟩,tr⟩:=p
 refine setFlight_any e3 fl (fun b z=>z.2) fun h' t x' tr'=>q _ ⟨⟨c,cl,st₁,β₁,δ₁,e,e1,rfl,x',e4.touch t inv.stays fun q1=>?_,e5.touch t e4,by rw [e6]⟩,fun e' he=>by cases he;exact tr' (tr e rfl)⟩
 exact inv.hlow (e5.hd.symm.trans q1)
end
end Mine
end
section
open PySem PySem.W PyProof.Rows PySem.Calls
namespace Mine
structure Base (W:Wd):Prop where
 inK:W.K.In W.hb
 lim:W.hb.NoLimit
 inj:∀ i j,W.nm i=W.nm j→i=j
 dbg:∀ i,(W.nm i == ("__debug__" : Str))=false
 sup:∀ i,(W.nm i != ("super" : Str))=true
 dot:∀ i,W.nm i≠⟨#[46,48]⟩
 ns:∃ mg mb,W.hb.Ns mainGlobals mg∧W.hb.Ns builtinsNs mb∧∀ i,W.gl i=true→mg (W.nm i)=some (W.gv i)∨(mg (W.nm i)=none∧mb (W.nm i)=some (W.gv i))
noncomputable def notAttr:E→Bool
 | .gv ..=>true
 | .lv ..=>true
 | _=>false
noncomputable def notComp:E→Bool
 | .comp ..=>false
 | _=>true
section
variable (gl:Nat→Bool)(kd:List (Nat×NameKind))
noncomputable def Es.len:Es→Nat
 | .nil=>0
 | .cons _ r=>r.len+1
noncomputable def Cm.isEq:Cm→Bool
 | .eq=>true
 | _=>false
noncomputable def E.pur (x:Nat) (fr:List Nat):E→Bool
 | .lv i _=>i == x
 | .cv i _=>fr.contains i
 | .cst c _ _=>(match c with | .int _=>true | _=>false)
 | .sub e i _=>e.pur x fr&&i.pur x fr
 | _=>false
noncomputable def E.purT (x:Nat) (fr:List Nat):E→Bool
 | .cmp l o r _=>l.pur x fr&&r.pur x fr&&o.isEq
 | _=>false
noncomputable def Es.isNil:Es→Bool
 | .nil=>true
 | .cons _ _=>false
noncomputable def Es.purs (x:Nat) (fr:List Nat):Es→Bool
 | .nil=>true
 | .cons e r=>e.purT x fr&&r.isNil
noncomputable def Ks.len:Ks→Nat
 | .nil=>0
 | .cons _ _ _ r=>r.len+1
mutual
noncomputable def E.wf:E→Bool
 | .lv i _=>kd.lookup i == some .local
 | .gv i _=>kd.lookup i == some .globalImplicit&&gl i
 | .cst ..=>true
 | .attr e _ _=>e.wf
 | .sub e i _=>e.wf&&i.wf
 | .upto e n _ _=>e.wf&&n.wf
 | .bin _ l r _=>l.wf&&r.wf
 | .not e _=>e.wf
 | .band es _=>es.wf
 | .bor es _=>es.wf
 | .cmp l _ r _=>l.wf&&r.wf
 | .cmp2 l _ m _ r _=>l.wf&&m.wf&&r.wf
 | .ife t a b _=>t.wf&&a.wf&&b.wf
 | .call f as ks _=>notAttr f&&f.wf&&as.wf&&ks.wf&&decide (as.len+2 * ks.len < 25)
 | .mcall o _ q as ks p=>o.wf&&as.wf&&ks.wf&&decide (as.len+2 * ks.len < 25)&&decide (q.endLine=p.line)
 | .lst es _=>es.wf
 | .tup es _ _=>es.wf
 | .dct1 k v _=>k.wf&&v.wf
 | .comp elt x _ src ifs fr _=>src.wf&&elt.pur x fr&&ifs.purs x fr&&fr.all (fun i=>kd.lookup i == some .cell)&&decide fr.Nodup&&decide (x ∉ fr)
 | .cv i _=>kd.lookup i == some .cell
noncomputable def Es.wf:Es→Bool
 | .nil=>true
 | .cons e r=>e.wf&&r.wf
noncomputable def Ks.wf:Ks→Bool
 | .nil=>true
 | .cons _ e _ r=>e.wf&&r.wf
end
end
abbrev gV (W:Wd):Good AV Value:=fun β _ st v V=>VR W β st.next v V
abbrev gVs (W:Wd):Good (List AV) (List Value):=fun β _ st v V=>VRs W β st.next v V
abbrev gB:Good Bool Bool:=fun _ _ _ a b=>a=b
abbrev gU:Good Unit Unit:=fun _ _ _ _ _=>True
noncomputable def FlR (W:Wd) (β:Nat→Addr) (n:Nat):Fl→Flow→Prop
 | .next,.next=>True
 | .brk,.brk=>True
 | .cont,.cont=>True
 | .ret v,.ret V=>VR W β n v V
 | _,_=>False
abbrev gF (W:Wd):Good Fl Flow:=fun β _ st v V=>FlR W β st.next v V
section
variable {W:Wd}{fx:Fx}{β δ β' δ':Nat→Addr}{st st':St}{s:Shared}{h':Heap}{α τ υ ρ:Type}{good:Good α τ}{v:α}{x:τ}
theorem kindOf_nm (B:Base W)(ok:FxOk W fx)(i:Nat):fx.env.kindOf (W.nm i)=fx.kd.lookup i:=by
 unfold Env.kindOf
 rw [ok.names]
 generalize fx.kd=l
 induction l with
 | nil=>rfl
 | cons p r ih=>
  obtain⟨j,k⟩:=p
  rw [List.map_cons,List.lookup_cons,List.lookup_cons]
  by_cases q:i=j
  ·subst q;simp
  ·rw [beq_eq_false_iff_ne.mpr fun w=>q (B.inj _ _ w),beq_eq_false_iff_ne.mpr q];exact ih
theorem After.tok {k:Nat}(inv:Inv W fx β δ st s.heap)(g:good β δ st v x):After W fx β δ st s (.ok v st) good x { s with toks:=k }:=
 ⟨v,st,β,δ,rfl,g,inv,.refl rfl rfl,rfl⟩
theorem After.now (inv:Inv W fx β δ st s.heap)(g:good β δ st v x):After W fx β δ st s (.ok v st) good x s:=
 ⟨v,st,β,δ,rfl,g,inv,.refl rfl rfl,rfl⟩
theorem After.mk {k:Nat}(i:Inv W fx β' δ' st' h'∧Go fx β δ st s.heap β' δ' st' h')(g:good β' δ' st' v x):After W fx β δ st s (.ok v st') good x { s with heap:=h',toks:=k }:=
 ⟨v,st',β',δ',rfl,g,i.1,i.2,rfl⟩
theorem Ok.bad {t:Sem τ}:Ok W fx t β δ st (R.bad:R α) good:=fun nb=>(nb rfl).elim
noncomputable def OkA {α τ:Type} (W:Wd) (fx:Fx) (A:Around) (t:Sem τ) (β δ:Nat→Addr) (st:St) (r:R α) (good:Good α τ):Prop:=
 r≠.bad→∀ s:Shared,Inv W fx β δ st s.heap→wpAny (model W.prog W.w) A t (After W fx β δ st s r good) (Raised W fx β δ st s r) s
section
variable {A:Around}{V:Value}{v:AV}{n:Nat}{T:Value→Sem τ}
theorem OkA.bad {t:Sem τ}:OkA W fx A t β δ st (R.bad:R α) good:=fun nb=>(nb rfl).elim
theorem OkA.asInt {f:Int→R α}(hv:VR W β n v V)(h:∀ x t,OkA W fx A (T (.int x t)) β δ st (f x) good):OkA W fx A (T V) β δ st (asInt v f) good:=by
 cases v <;> first | exact .bad | (obtain⟨t,rfl⟩:=hv;exact h _ _)
theorem OkA.asLoc {f:Nat→R α}(hv:VR W β n v V)(h:∀ l,l < n→OkA W fx A (T (.ref (β l))) β δ st (f l) good):OkA W fx A (T V) β δ st (asLoc v f) good:=by
 cases v <;> first | exact .bad | (obtain⟨t,rfl⟩:=hv;exact h _ t)
theorem OkA.asGl {f:Nat→R α}(hv:VR W β n v V)(h:∀ k,OkA W fx A (T (W.gv k)) β δ st (f k) good):OkA W fx A (T V) β δ st (asGl v f) good:=by
 cases v <;> first | exact .bad | (cases hv;exact h _)
theorem OkA.atObj {t:Sem τ}{l:Nat}{f:AO→R α}(h:∀ o,st.heap l=some o→OkA W fx A t β δ st (f o) good):OkA W fx A t β δ st (atObj st l f) good:=by
 unfold Mine.atObj
 cases q:st.heap l with
 | none=>exact .bad
 | some o=>exact h o q
theorem OkA.onList {t:Sem τ}{o:AO}{f:List AV→R α}(h:∀ xs,o=.list xs→OkA W fx A t β δ st (f xs) good):OkA W fx A t β δ st (onList o f) good:=by
 cases o <;> first | exact .bad | exact h _ rfl
theorem OkA.onDict {t:Sem τ}{o:AO}{f:List (AV×AV)→R α}(h:∀ xs,o=.dict xs→OkA W fx A t β δ st (f xs) good):OkA W fx A t β δ st (onDict o f) good:=by
 cases o <;> first | exact .bad | exact h _ rfl
theorem OkA.onInst {t:Sem τ}{o:AO}{f:Nat→List (Nat×AV)→R α}(h:∀ c as,o=.inst c as→OkA W fx A t β δ st (f c as) good):OkA W fx A t β δ st (onInst o f) good:=by
 cases o <;> first | exact .bad | exact h _ _ rfl
theorem OkA.ifp {t:Sem τ}{p:Prop} [Decidable p] {r:R α}(h:p→OkA W fx A t β δ st r good):OkA W fx A t β δ st (if p then r else .bad) good:=by
 by_cases q:p
 ·rw [if_pos q];exact h q
 ·rw [if_neg q];exact .bad
theorem OkA.arg1 {T:List Value→Sem τ}{xs:List AV}{Xs:List Value}{f:AV→R α}(hx:VRs W β n xs Xs)(h:∀ v V,VR W β n v V→OkA W fx A (T [V]) β δ st (f v) good):OkA W fx A (T Xs) β δ st (arg1 xs f) good:=by
 cases hx with
 | nil=>exact .bad
 | cons a b=>cases b with
  | nil=>exact h _ _ a
  | cons _ _=>exact .bad
theorem OkA.arg2 {T:List Value→Sem τ}{xs:List AV}{Xs:List Value}{f:AV→AV→R α}(hx:VRs W β n xs Xs)(h:∀ v V u U,VR W β n v V→VR W β n u U→OkA W fx A (T [V,U]) β δ st (f v u) good):OkA W fx A (T Xs) β δ st (arg2 xs f) good:=by
 cases hx with
 | nil=>exact .bad
 | cons a b=>exact OkA.arg1 (T:=fun X=>T (_ :: X)) b fun _ _ c=>h _ _ _ _ a c
end
theorem Ok.toA {t:Sem τ}{r:R α}(h:OkA W fx fx.A t β δ st r good):Ok W fx t β δ st r good:=h
theorem Ok.pure (g:good β δ st v x):Ok W fx (Pure.pure x) β δ st (.ok v st) good:=fun _ _ inv=>wpAny_pure (.now inv g)
theorem Ok.hold {t:Sem τ}{r:R α}{vs:List Value}(a:Ok W fx t β δ st r good):Ok W fx (holding vs t) β δ st r good:=fun nb s inv=>wpAny_holding (a nb s inv)
theorem Ok.stand {t:Sem τ}{r:R α}{p:Pos}(a:Ok W fx t β δ st r good):Ok W fx (standAt p >>= fun _=>t) β δ st r good:=fun nb s inv=>wpAny_bind (wpAny_standAt (a nb s inv))
theorem Ok.operate {t:Sem Value}{r:R α}{good:Good α Value}{vs:List Value}(a:Ok W fx t β δ st r good):Ok W fx (operate vs t) β δ st r good:=fun nb s inv=>wpAny_operate' (a nb s inv)
theorem Ok.release {t:Sem τ}{r:R α}{vs ks:List Value}(a:Ok W fx t β δ st r good):Ok W fx (PySem.release vs ks >>= fun _=>t) β δ st r good:=fun nb s inv=>wpAny_bind (wpAny_release' (a nb s inv))
theorem Ok.step {t:Sem τ}{k:τ→Sem ρ}{r:R υ}{good:Good υ ρ}(x:τ)(a:∀ (s:Shared)(E:Value→Shared→Prop)(Q:τ→Shared→Prop),Inv W fx β δ st s.heap→Q x s→wpAny (model W.prog W.w) fx.A t Q E s)(b:Ok W fx (k x) β δ st r good):Ok W fx (t >>= k) β δ st r good:=
 fun nb s inv=>wpAny_bind (a s _ _ inv (b nb s inv))
theorem Ok.bnd1 {t:Sem τ}{r:R α}{k:α→St→R υ}{k':τ→ρ}{good':Good υ ρ}(a:Ok W fx t β δ st r good)
  (b:∀ v st' β' δ' x,r=.ok v st'→good β' δ' st' v x→∃ u,k v st'=.ok u st'∧good' β' δ' st' u (k' x)):Ok W fx (t >>= fun x=>Pure.pure (k' x)) β δ st (r.bnd k) good':=
 Ok.bind a fun v st' β' δ' x e g _ _=>by
  refine xo1_2 (b v st' β' δ' x e g) fun u e1 e2=>?_
  rw [e1];exact .pure e2
theorem lv_ok (B:Base W){i:Nat}{p:Pos}(hw:(E.lv i p).wf W.gl fx.kd=true) (C):Ok W fx (eval ((E.lv i p).dec W.nm W.sc) fx.env) β δ st (evalE W.g C (.lv i p) st) (gV W):=fun nb s inv=>by
 have hw:(fx.kd.lookup i == some .local)=true:=hw
 have hk:fx.env.kindOf (W.nm i)=some .local:=(kindOf_nm B inv.ok i).trans (eq_of_beq hw)
 have ev:evalE W.g C (.lv i p) st=match get? st.loc i with | some v=>.ok v st | none=>.bad:=rfl
 rw [ev] at nb ⊢
 show wpAny _ _ (eval (.Name (W.nm i) p) fx.env) _ _ s
 cases q:get? st.loc i with
 | none=>rw [q] at nb;exact (nb rfl).elim
 | some v=>
  refine xo1_2 inv.loc fun m a1 a2=>?_
  refine xo1_2 ((a2 i v q).dic (by rw [eq_of_beq hw];nofun)) fun V b1 b2=>?_
  refine wpAny_Name (wpAny_loadName_local inv.ok.kind hk (inv.ok.locals ▸ a1) b1 (.now inv b2)) (B.dbg i)
theorem gv_at (B:Base W){i:Nat}{p:Pos}{Er:Value→Shared→Prop}{Q:Value→Shared→Prop}(hw:(E.gv i p).wf W.gl fx.kd=true)(inv:Inv W fx β δ st s.heap)(hQ:Q (W.gv i) s):wpAny (model W.prog W.w) fx.A (eval (.Name (W.nm i) p) fx.env) Q Er s:=by
 have hw:(fx.kd.lookup i == some .globalImplicit&&W.gl i)=true:=hw
 refine xo0_2 (bAnd hw) fun h1 h2=>?_
 have hk:fx.env.kindOf (W.nm i)=some .globalImplicit:=(kindOf_nm B inv.ok i).trans (eq_of_beq h1)
 refine xo2_3 B.ns fun mg mb n1 n2 n3=>?_
 have g1:=inv.ok.globals ▸ n1.keeps inv.stays
 have g2:=inv.ok.builtins ▸ n2.keeps inv.stays
 rcases n3 i h2 with q | ⟨q,q'⟩
 ·exact Name_function_global inv.ok.kind hk (loadGlobal_global g1 q hQ) (B.dbg i)
 ·exact Name_function_global inv.ok.kind hk (loadGlobal_builtin g1 q g2 q' hQ) (B.dbg i)
theorem gv_ok (B:Base W){i:Nat}{p:Pos}(hw:(E.gv i p).wf W.gl fx.kd=true) (C):Ok W fx (eval ((E.gv i p).dec W.nm W.sc) fx.env) β δ st (evalE W.g C (.gv i p) st) (gV W):=fun nb s inv=>by
 exact gv_at B hw inv (.now inv (α:=AV) (v:=.gl i) rfl)
theorem cst_ok {c:KC}{k:Nat}{p:Pos} (C):Ok W fx (eval ((E.cst c k p).dec W.nm W.sc) fx.env) β δ st (evalE W.g C (.cst c k p) st) (gV W):=fun nb s inv=>by
 show wpAny _ _ (eval (.Constant (c.dec W.nm) k p) fx.env) (After W fx β δ st s (.ok c.av st) (gV W)) _ s
 cases c with
 | none=>exact wpAny_Constant_none (.now inv rfl)
 | bool b=>exact wpAny_Constant_bool (.now inv rfl)
 | int i=>exact wpAny_Constant_int (.tok inv ⟨_,rfl⟩)
 | str i=>exact wpAny_Constant_str (.tok inv ⟨_,rfl⟩)
theorem natAbs_bits {x:Int}(h:x.natAbs < 2 ^ 60):Builtin.Int.intBits x≤64:=intBits_le_64 (by omega) (by omega)
theorem binoI_ok {o:Op}{a b:Int}{t u:Tok}:Ok W fx (binaryOp o.dec (.int a t) (.int b u)) β δ st (binoI o a b st) (gV W):=by
 cases o with
 | add=>exact fun _ s inv=>P.add_int (.tok inv ⟨_,rfl⟩)
 | sub=>exact fun _ s inv=>P.sub_int (.tok inv ⟨_,rfl⟩)
 | mul=>exact .toA (.ifp fun q _ s inv=>P.mul_int (.tok inv ⟨_,rfl⟩) (.of_left (natAbs_bits q)))
 | fdiv=>exact .toA (.ifp fun q _ s inv=>floordiv_int q.1 (.tok inv ⟨_,rfl⟩) (.inl (PyProof.noPylong_small q.2)))
 | mod=>exact .toA (.ifp fun q _ s inv=>mod_int' q (.tok inv ⟨_,rfl⟩))
end
end Mine
end
section
open PySem PySem.W PyProof.Rows PySem.Calls
namespace Mine
noncomputable def biV:BI→Value
 | .abs=>.builtin "abs"
 | .len=>.builtin "len"
 | .isinstance=>.builtin "isinstance"
 | .range=>.type "range"
structure Words (W:Wd):Prop where
 ke:W.gv W.g.keyError=.type "KeyError"
 ie:W.gv W.g.indexError=.type "IndexError"
 sm:W.hb.get? sysModules≠none
 eqN:W.nm W.g.eqN=("__eq__" : Str)
 ltN:W.nm W.g.ltN=("__lt__" : Str)
 bi:∀ k b,W.g.gk k=.bi b→W.gv k=biV b
 intN:W.gv W.g.intN=.type "int"
 append:W.nm W.g.append=("append" : Str)
 pop:W.nm W.g.pop=("pop" : Str)
 remove:W.nm W.g.remove=("remove" : Str)
 pct:∀ k,k∈W.g.pct→∀ (prog:Program) (w:World) (A:Around) (E:Value→Shared→Prop) (s:Shared) (t u:Tok) (n:Int) (Q:Value→Shared→Prop),0≤n→n < 1000000000→
  (∀ y t' k,Q (.str y t') { s with toks:=k })→wpAny (model prog w) A (binaryOp .Mod (.str (W.nm k) t) (.int n u)) Q E s
 cpsInj:∀ i j,(W.nm i).cps.toList=(W.nm j).cps.toList→i=j
section
variable {W:Wd}{fx:Fx}{β δ β' δ':Nat→Addr}{st st':St}{s:Shared}{h':Heap}{n:Nat}
theorem dict_nodup {h:Heap}{a:Addr}{ds:List (Int×Value)}(x:h.DictOf (intKind W.prog W.w) a ds):(ds.map (·.1)).Nodup:=by
 obtain⟨_,_,_,_,_,_,_,_,r⟩:=x;exact r
theorem not_sm (B:Words W)(inv:Inv W fx β δ st s.heap){l:Nat}(hl:l < st.next):(β l == sysModules)=false:=
 beq_eq_false_iff_ne.mpr fun e=>B.sm (e ▸ (inv.rel.base l hl).1)
theorem DRs.val {es:List (AV×AV)}{ds:List (Int×Value)}(x:DRs W β n es ds){k:Int}:∀ {v:AV},dget? es (.int k)=some v→∃ V,valueAt ds k=some V∧VR W β n v V:=by
 induction x with
 | nil=>intro v e;exact nsE e
 | @cons i v0 V0 es ds a _ ih=>
  intro v e
  rw [dget_c] at e
  unfold valueAt at ih ⊢
  rw [List.find?_cons]
  by_cases q:k=i
  ·subst q
   rw [if_pos rfl] at e;obtain rfl:=Option.some.inj e
   exact⟨_,by simp,a⟩
  ·rw [if_neg (by simpa using q)] at e
   have:decide ((i,V0).1=k)=false:=decide_eq_false fun w=>q w.symm
   rw [this]
   exact ih e
theorem DRs.miss {es:List (AV×AV)}{ds:List (Int×Value)}(x:DRs W β n es ds){k:Int}(e:dget? es (.int k)=none):valueAt ds k=none:=by
 induction x with
 | nil=>rfl
 | @cons i v0 V0 es ds a _ ih=>
  rw [dget_c] at e
  unfold valueAt at ih ⊢
  rw [List.find?_cons]
  by_cases q:k=i
  ·subst q;rw [if_pos rfl] at e;exact snE e
  ·rw [if_neg (by simpa using q)] at e
   have:decide ((i,V0).1=k)=false:=decide_eq_false fun w=>q w.symm
   rw [this]
   exact ih e
theorem DRs.length {es:List (AV×AV)}{ds:List (Int×Value)}(x:DRs W β n es ds):es.length=ds.length:=by
 induction x with
 | nil=>rfl
 | cons _ _ ih=>simp [ih]
theorem dput_len (es:List (AV×AV))(k v:AV):(dput es k v).length≤es.length+1:=by
 induction es with
 | nil=>exact Nat.le_refl _
 | cons p r ih=>
  obtain⟨a,b⟩:=p
  rw [dput_c]
  by_cases q:k=a
  ·rw [if_pos q];exact Nat.le_succ _
  ·rw [if_neg q];exact Nat.succ_le_succ ih
theorem ddel_len (es:List (AV×AV))(k:AV):(ddel es k).length≤es.length:=by
 induction es with
 | nil=>exact Nat.le_refl _
 | cons p r ih=>
  obtain⟨a,b⟩:=p
  rw [ddel_c]
  by_cases q:k=a
  ·rw [if_pos q];exact Nat.le_succ _
  ·rw [if_neg q];exact Nat.succ_le_succ ih
theorem DRs.put {es:List (AV×AV)}{ds:List (Int×Value)}(x:DRs W β n es ds)(nd:(ds.map (·.1)).Nodup){k:Int}{v:AV}{V:Value}(hv:VR W β n v V):DRs W β n (dput es (.int k) v) (stored ds k V):=by
 induction x with
 | nil=>exact .cons hv .nil
 | @cons i v0 V0 es ds a b ih=>
  rw [List.map_cons,List.nodup_cons] at nd
  rw [dput_c]
  by_cases q:k=i
  ·subst q
   rw [if_pos rfl]
   unfold stored
   rw [if_pos (by simp)]
   rw [List.map_cons,map_store_of_not_mem _ _ _ nd.1]
   simpa using .cons hv b
  ·rw [if_neg (by simpa using q)]
   have z:=ih nd.2
   unfold stored at z ⊢
   have q':¬ i=k:=fun w=>q w.symm
   by_cases w:(ds.any fun kv=>decide (kv.1=k))=true
   ·rw [if_pos w] at z
    rw [if_pos (by simp [w])]
    simp only [List.map_cons,q',if_false]
    exact .cons a z
   ·rw [if_neg w] at z
    rw [if_neg (by simp [q'];simpa using w)]
    exact .cons a z
theorem DRs.del {es:List (AV×AV)}{ds:List (Int×Value)}(x:DRs W β n es ds)(nd:(ds.map (·.1)).Nodup){k:Int}:DRs W β n (ddel es (.int k)) (without ds k):=by
 induction x with
 | nil=>exact .nil
 | @cons i v0 V0 es ds a b ih=>
  rw [List.map_cons,List.nodup_cons] at nd
  rw [ddel_c];unfold without
  by_cases q:k=i
  ·subst q
   rw [if_pos rfl]
   have z:=without_of_not_mem _ _ nd.1
   unfold without at z
   rw [List.filter_cons,if_neg (by simp),z]
   exact b
  ·rw [if_neg (by simpa using q)]
   have q':i≠k:=fun w=>q w.symm
   have z:=ih nd.2
   unfold without at z
   simp only [List.filter_cons,q',ne_eq,not_false_eq_true,decide_true,if_true]
   exact .cons a z
theorem Raised.newExc {α:Type}{c:Nat}{e:Addr}{T:String}{k:Nat}(inv:Inv W fx β δ st s.heap)(n:Heap.NewExc s.heap h' e T)(hc:W.gv c=.type T):Raised (α:=α) W fx β δ st s (.ex c true st) (.ref e) { s with heap:=h',toks:=k }:=by
 refine xo2_3 n.there fun ob t a b d=>?_
 refine⟨c,true,st,β,δ,e,rfl,rfl,⟨n.new,inv.free_new e n.new,ob,_,a,b.trans hc.symm,d,by simp,fun _=>rfl,.inl rfl⟩,inv.grow n.keeps,.grow n.keeps,rfl⟩
theorem hd0 (inv:Inv W fx β δ st s.heap)(e:st.hd=0):fx.A.handled=none:=by
 have z:=inv.hd
 rw [e] at z;exact z
theorem raise0_of {α:Type}{c:Nat}(nb:(raise0 c st:R α)≠.bad):st.hd=0∧(raise0 c st:R α)=.ex c true st:=by
 unfold raise0 at nb ⊢
 cases q:st.hd with
 | zero=>exact⟨rfl,rfl⟩
 | succ k=>rw [q] at nb;exact (nb rfl).elim
theorem isEmpty_VRs {xs:List AV}{Vs:List Value}(b:VRs W β n xs Vs):(!xs.isEmpty)=!Vs.toArray.isEmpty:=by cases b <;> rfl
theorem truth_ok (B:Words W){v:AV}{V:Value}(hv:VR W β st.next v V):Ok W fx (truthy V) β δ st (truth v st) gB:=by
 cases v with
 | none=>cases hv;exact fun _ s inv=>wpAny_pure (.now inv rfl)
 | bool b=>cases hv;exact fun _ s inv=>wpAny_truthy_bool (.now inv rfl)
 | int i=>obtain⟨t,rfl⟩:=hv;exact fun _ s inv=>P.truthy_int (.now inv (by by_cases q:i=0 <;> simp [q]))
 | loc l=>
  refine xo0_2 hv fun hl e1_=>?_;clear hv;obtain rfl:=e1_
  refine .toA (.atObj fun o q=>?_)
  cases o with
  | list xs=>
   intro _ s inv
   obtain⟨Vs,ep,a,b,d⟩:=inv.rel.obj l _ q
   exact wpAny_truthy_list (items:=Vs.toArray) (IsL.isList a) (by have:=b.length;simp;lia) (.tok inv ((isEmpty_VRs b)))
  | dict es=>
   intro _ s inv
   obtain⟨ds,a,b,d⟩:=inv.rel.obj l _ q
   exact wpAny_truthy_dict (not_sm B inv hl) a (by have:=b.length;lia) (.tok inv (by cases b <;> rfl))
  | ro xs=>
   intro _ s inv
   obtain⟨Vs,ep,⟨a0,a⟩,b,d⟩:=inv.rel.obj l _ q
   exact wpAny_truthy_list (items:=Vs.toArray) ⟨_,a,a0.1,_,a0.2⟩ (by have:=b.length;simp;lia) (.tok inv ((isEmpty_VRs b)))
  | _=>exact .bad
 | _=>exact .bad
theorem itemR_ok {xs:List AV}{k:Int}{T:Sem Value}(h:∀ x,0≤k→k.toNat < xs.length→xs[k.toNat]?=some x→Ok W fx T β δ st (.ok x st) (gV W)):Ok W fx T β δ st (itemR xs k st) (gV W):=.toA (.ifp fun h0=>by
 cases q:xs[k.toNat]? with
 | none=>exact .bad
 | some x=>exact h x h0 (List.getElem?_eq_some_iff.mp q).1 q)
theorem getI_ok (B:Words W){v i:AV}{V I:Value}{base slice:Expr}(hv:VR W β st.next v V)(hi:VR W β st.next i I)(hs:∀ b,subscripted slice b V I=subscripted (.Constant .none 0 ⟨0,0,0,0⟩) b V I):Ok W fx (subscriptTail base slice V I) β δ st (getI W.g v i st) (gV W):=by
 cases v with
 | loc l=>
  cases i with
  | int k=>
   refine xo0_2 hv fun hl e1_=>?_;clear hv;obtain rfl:=e1_
   refine xo1_1 hi fun t e1_=>?_;clear hi;obtain rfl:=e1_
   have hs':subscripted slice false (.ref (β l)) (.int k t)=operate [.ref (β l),.int k t] (getItem (.ref (β l)) (.int k t)):=hs false
   refine .toA (.atObj fun o q=>?_)
   cases o with
   | list xs=>
    refine itemR_ok fun x h0 hlt qx _ s inv=>?_
    obtain⟨Vs,ep,a,b,d⟩:=inv.rel.obj l _ q
    refine xo1_2 (b.get qx) fun X e1 e2=>?_
    exact tail_any (IsL.isList a).typeIs slot_list_getitem.lookup (wpAny_getItem_list (IsL.isList a) h0 (by (clear h0 hl;lia)) (by simpa using e1) (.now inv e2)) hs'
   | ro xs=>
    refine itemR_ok fun x h0 hlt qx _ s inv=>?_
    obtain⟨Vs,ep,⟨a0,a⟩,b,d⟩:=inv.rel.obj l _ q
    refine xo1_2 (b.get qx) fun X e1 e2=>?_
    have hL:s.heap.IsList (β l) Vs.toArray:=⟨_,a,a0.1,_,a0.2⟩
    exact tail_any hL.typeIs slot_list_getitem.lookup (wpAny_getItem_list hL h0 (by (clear h0 hl;lia)) (by simpa using e1) (.now inv e2)) hs'
   | tup xs=>
    refine itemR_ok fun x h0 hlt qx _ s inv=>?_
    obtain⟨Vs,a,b,d⟩:=inv.rel.obj l _ q
    refine xo1_2 (b.get qx) fun X e1 e2=>?_
    have hb:=b.length
    exact tail_any (T := "tuple") ⟨_,a,rfl⟩ F.slot_tuple_getitem.lookup (P.getItem_tuple (k:=k.toNat) a (by (clear hb d hlt hl;lia)) (by (clear h0 hl;lia)) (by unfold seqIndex?;simp;lia) (by simpa using e1) (.now inv e2)) hs'
   | dict es=>
    intro nb s inv
    obtain⟨ds,a,b,d⟩:=inv.rel.obj l _ q
    have hk:(intKind W.prog W.w).is k (.int k t)=true:=by simp [intKind,Value.isInt]
    refine tail_any a.typeIs slot_dict_getitem.lookup ?_ hs'
    revert nb
    show (match dget? es (.int k) with | some x=>R.ok x st | none=>raise0 W.g.keyError st)≠.bad→wpAny _ _ _ (After W fx β δ st s (match dget? es (.int k) with | some x=>R.ok x st | none=>raise0 W.g.keyError st) (gV W)) (Raised W fx β δ st s (match dget? es (.int k) with | some x=>R.ok x st | none=>raise0 W.g.keyError st)) s
    cases qx:dget? es (.int k) with
    | none=>
     intro nb
     refine xo0_2 (raise0_of nb) fun h0 e0=>?_
     dsimp only
     rw [e0]
     exact wpAny_getItem_missing_of hk (not_sm B inv hl) (hd0 inv h0) a.mapOf (b.miss qx) fun h' e n=>.newExc inv n B.ke
    | some x=>
     intro nb
     refine xo1_2 (b.val qx) fun X e1 e2=>?_
     exact wpAny_getItem_of hk a.mapOf e1 (.tok inv e2)
   | _=>exact .bad
  | _=>exact .bad
 | _=>exact .bad
end
end Mine
end
section
open PySem PySem.W PyProof.Rows PySem.Calls
namespace Mine
section
variable {W:Wd}{fx:Fx}{β δ β' δ':Nat→Addr}{st st':St}{s:Shared}{h':Heap}{n:Nat}
theorem push_get {h:Heap}(o:Obj)(hf:o.isFreed=false):(h.push o).get? h.objs.size=some o:=Heap.get?_push_size h hf
theorem size_free {h:Heap}:h.get? h.objs.size=none:=Heap.get?_none_of_le (Nat.le_refl _)
theorem Inv.pushed {o:AO}{ob:Obj}(inv:Inv W fx β δ st s.heap)(hf:ob.isFreed=false)
  (hobj:ObjAt W (ext β st.next s.heap.objs.size) (ext δ st.next s.heap.objs.size) (st.next+1) (s.heap.push ob) st.next o) {k:Nat} :
  After W fx β δ st s (Mine.alloc o st) (gV W) (.ref s.heap.objs.size) { s with heap:=s.heap.push ob,toks:=k }:=
 .mk (inv.alloc (a:=s.heap.objs.size) (d:=s.heap.objs.size) (push_keeps ob) size_free size_free ⟨_,push_get ob hf⟩ ⟨_,push_get ob hf⟩ hobj) ⟨Nat.lt_succ_self _,by rw [ext_eq]⟩
theorem VRs.up {vs:List AV}{Vs:List Value}{a:Addr}(x:VRs W β n vs Vs):VRs W (ext β n a) (n+1) vs Vs:=x.mono (Nat.le_succ _) fun _ h=>ext_lt h
theorem VR.up {v:AV}{V:Value}{a:Addr}(x:VR W β n v V):VR W (ext β n a) (n+1) v V:=x.mono (Nat.le_succ _) fun _ h=>ext_lt h
theorem Inv.newList {xs:List AV}{Vs:List Value}(inv:Inv W fx β δ st s.heap)(x:VRs W β st.next xs Vs)(hz:xs.length≤100000){k:Nat} :
  After W fx β δ st s (Mine.alloc (.list xs) st) (gV W) (.ref s.heap.objs.size) { s with heap:=s.heap.push (listOf Vs.toArray 0),toks:=k }:=
 inv.pushed (o:=.list xs) (ob:=listOf Vs.toArray 0) rfl ⟨Vs,0,by rw [ext_eq];exact push_get _ rfl,x.up,hz⟩
theorem Inv.newTup {xs:List AV}{Vs:List Value}(inv:Inv W fx β δ st s.heap)(x:VRs W β st.next xs Vs)(hz:xs.length≤100000){k:Nat} :
  After W fx β δ st s (Mine.alloc (.tup xs) st) (gV W) (.ref s.heap.objs.size) { s with heap:=s.heap.push (tupOf Vs),toks:=k }:=
 inv.pushed (o:=.tup xs) (ob:=tupOf Vs) rfl ⟨Vs,by rw [ext_eq];exact push_get _ rfl,x.up,hz⟩
theorem newList_ok {xs:List AV}{Vs:List Value}(x:VRs W β st.next xs Vs)(hz:xs.length≤1000):Ok W fx (newList Vs) β δ st (alloc (.list xs) st) (gV W):=fun nb s inv=>by
 unfold newList
 exact wpAny_newObj_type (inv.newList x (by lia)) (by show Vs.toArray.size≤sizeLine;have:=x.length;rw [sizeLine_eq];simp;lia)
theorem newTup_ok {xs:List AV}{Vs:List Value}(x:VRs W β st.next xs Vs)(hz:xs.length≤1000):Ok W fx (newTuple Vs) β δ st (alloc (.tup xs) st) (gV W):=fun nb s inv=>by
 unfold newTuple
 exact wpAny_newObj_type (inv.newTup x (by lia)) (by show Vs.toArray.size≤sizeLine;have:=x.length;rw [sizeLine_eq];simp;lia)
theorem setItem_list {M:Program}{w:World}{A:Around}{E:Value→Shared→Prop}{l:Addr}{items:Array Value}{n:Nat}{k:Int}{t:Tok}{v:Value}{Q:Unit→Shared→Prop}
  (hl:IsL s.heap l items n) (h0:0≤k) (hfit:k < 2 ^ 63) (hn:k < items.size) (hQ:Q () { s with heap:=s.heap.update l (Obj.mapSeq (·.setIfInBounds k.toNat v)) }):wpAny (model M w) A (setItem (.ref l) (.int k t) v) Q E s:=by
 have hT:s.TypeIs (.ref l) "list" :=⟨_,hl,rfl⟩
 unfold setItem
 refine wpAny_holding (wpAny_bind (wpAny_sequenceKey hT (by decide) ?_))
 refine wpAny_bind (wpAny_callSpecial?_slot (name:=Str.ofString "__setitem__") hT slot_list_setitem (wpAny_call_entry slot_list_setitem hT entry_list_setitem ?_ (args_list_setitem _ _ _)))
 show wpAny _ _ (Builtin.List.listSubscript? (.int k t) >>= _) _ _ s
 refine wpAny_bind (wpAny_listSubscript_int (fitsIndex_of h0 hfit) ?_)
 clear hfit
 refine xo1_1 (Int.eq_ofNat_of_zero_le h0) fun j e1_=>?_;obtain rfl:=e1_
 have hx:items[j]?=some (items[j]'(by lia)):=Array.getElem?_eq_getElem (by lia)
 show wpAny _ _ ((seqItemAt l j >>= fun r=>pure (r.map (j,·))) >>= _) _ _ s
 refine wpAny_bind (wpAny_bind (wpAny_seqItemAt hl rfl (wpAny_pure ?_)))
 rw [hx]
 show wpAny _ _ (setSeqItemAt l j v >>= _) _ _ s
 refine wpAny_bind (wpAny_setSeqItemAt hl rfl ?_)
 first
  | exact wpAny_bind (wpAny_pure (wpAny_pure ⟨.none,rfl,wpAny_pure hQ⟩))
  | exact wpAny_pure ⟨.none,rfl,wpAny_pure hQ⟩
theorem get_update {h:Heap}{a:Addr}{o:Obj}(f:Obj→Obj)(ho:h.get? a=some o)(hf:(f o).isFreed=false):(h.update a f).get? a=some (f o):=Heap.get?_update_self f ho hf
theorem Inv.listed {l:Nat}{xs ys:List AV}{Vs Ws:List Value}{ep:Nat}{f:Array Value→Array Value}(inv:Inv W fx β δ st s.heap)(hl:st.heap l=some (.list xs))(ho:IsL s.heap (β l) Vs.toArray ep)
  (hf:f Vs.toArray=Ws.toArray) (hv:VRs W β st.next ys Ws) (hz:ys.length≤100000) :
  Inv W fx β δ (st.set l (.list ys)) (s.heap.update (β l) (Obj.mapSeq f))∧Go fx β δ st s.heap β δ (st.set l (.list ys)) (s.heap.update (β l) (Obj.mapSeq f)):=by
 have e:=IsL.update ho f
 rw [hf] at e
 refine inv.upd hl (Heap.SameBut.update ..) (.inl rfl) ⟨Ws,_,e,hv,hz⟩ ⟨_,e⟩
theorem Inv.dicted {l:Nat}{es es':List (AV×AV)}{ds:List (Int×Value)}(inv:Inv W fx β δ st s.heap)(hl:st.heap l=some (.dict es))(hs:Heap.SameBut (β l) s.heap h')(ho:h'.DictOf (intKind W.prog W.w) (β l) ds)
  (hv:DRs W β st.next es' ds) (hz:es'.length≤100000):Inv W fx β δ (st.set l (.dict es')) h'∧Go fx β δ st s.heap β δ (st.set l (.dict es')) h':=
 inv.upd hl hs (.inl rfl) ⟨ds,ho,hv,hz⟩ (let ⟨o,_,_,e,_⟩:=ho;⟨o,e⟩)
theorem setI_ok {v i x:AV}{V I X:Value}(hv:VR W β st.next v V)(hi:VR W β st.next i I)(hx:VR W β st.next x X):Ok W fx (setItem V I X) β δ st (setI v i x st) gU:=by
 refine .toA (.asLoc (T:=fun V=>setItem V I X) hv fun l hl=>.asInt (T:=fun I=>setItem _ I X) hi fun k t=>.atObj fun o q=>?_)
 cases o with
 | list xs=>
  refine .ifp fun h0 _ s inv=>?_
  obtain⟨Vs,ep,a,b,d⟩:=inv.rel.obj l _ q
  have hb:=b.length
  exact setItem_list a h0.1 (by lia) (by simp;lia) (.mk (inv.listed q a (Ws:=Vs.set k.toNat X) (by simp) (b.set hx _) (by simpa using d)) trivial)
 | dict es=>
  refine .ifp fun h0 _ s inv=>?_
  obtain⟨ds,a,b,d⟩:=inv.rel.obj l _ q
  have hb:=b.length
  exact wpAny_setItem_pairs (knd:=intKind W.prog W.w) (k:=k) (by simp [intKind,Value.isInt]) a (fun h' e1 e2=>.mk (inv.dicted q e2 e1 (b.put (dict_nodup a) hx) (Nat.le_trans (dput_len ..) (by (clear d hl;lia)))) trivial) (by rw [sizeLine_eq];(clear d hl;lia))
 | _=>exact .bad
theorem foldl_app (Vs:List Value):∀ (k:Nat)(acc:List Value),List.foldl (fun x1 x2=>x1++x2) acc.toArray (List.replicate k Vs.toArray)=(acc++(List.replicate k Vs).flatten).toArray
 | 0,acc=>by simp
 | k+1,acc=>by
  rw [List.replicate_succ,List.foldl_cons,List.replicate_succ,List.flatten_cons,← List.append_assoc,← foldl_app Vs k]
  simp
theorem VRs.rep {xs:List AV}{Vs:List Value}(x:VRs W β n xs Vs):∀ k:Nat,VRs W β n (List.replicate k xs).flatten (List.replicate k Vs).flatten
 | 0=>.nil
 | k+1=>by
  rw [List.replicate_succ,List.replicate_succ,List.flatten_cons,List.flatten_cons]
  exact x.app (VRs.rep x k)
theorem mul_list {M:Program}{w:World}{A:Around}{E:Value→Shared→Prop}{l:Addr}{Vs:List Value}{k:Nat}{x:Int}{u:Tok}{Q:Value→Shared→Prop}(hl:IsL s.heap l Vs.toArray k)(hne:Vs≠[])
  (h0:0≤x) (hx:x < 1000) (hz:Vs.length≤1000) (h:Q (.ref s.heap.objs.size) { s with heap:=s.heap.push (listOf (List.replicate x.toNat Vs).flatten.toArray 0) }):wpAny (model M w) A (binaryOp .Mult (.ref l) (.int x u)) Q E s:=by
 have hs1:Vs.toArray.size=Vs.length:=by simp
 have hsz:Vs.length * x.toNat≤2 ^ 24:=by
  have:Vs.length * x.toNat≤1000 * 1000:=Nat.mul_le_mul hz (by (clear hs1 hz;lia))
  (clear hs1 hz hx h0;lia)
 have e:List.foldl (fun x1 x2=>x1++x2) #[] (List.replicate (if Vs.toArray.isEmpty=true then 0 else x.toNat) Vs.toArray)=(List.replicate x.toNat Vs).flatten.toArray:=by
  rw [if_neg (by simpa using hne)]
  exact foldl_app Vs x.toNat []
 refine wpAny_binaryOp_repeat_ref (T := "list") (U := "int") (by decide) ⟨_,hl,rfl⟩ (fun s'=>typeIs_int s' x u) noFill_list_mul F.fills_int_mul F.slot_int_rmul repeat_list F.slot_int_index.lookup
  (call_meets F.slot_int_rmul (typeIs_int s x u) F.entry_int_rmul (F.args_int_rmul_2 _ _) (int___rmul___int_list x u l Vs.toArray k)
   ⟨hl,rfl,⟨_,hl,rfl⟩,call_meets F.slot_list_mul ⟨_,hl,rfl⟩ F.entry_list_mul (F.args_list_mul_2 _ _)
    (AutoListH.list___mul___list_int_3 l Vs.toArray k x u (by simp [Builtin.List.listFitsIndex];(clear hsz hs1 hz;lia)) (by rw [hs1];(clear hs1 hz hx h0;lia)) (by simp [Builtin.List.listTooLong,sizeLine];(clear hs1 hz hx h0;lia))) ⟨hl,?_⟩⟩)
 rw [e];exact h
theorem add_ok {l k:Nat}{xs ys:List AV}(q:st.heap l=some (.list xs))(q':st.heap k=some (.list ys))(h0:xs.length+ys.length≤1000):Ok W fx (binaryOp .Add (.ref (β l)) (.ref (β k))) β δ st (alloc (.list (xs++ys)) st) (gV W):=fun _ s inv=>by
 obtain⟨Vs,ep,a,b,d⟩:=inv.rel.obj l _ q
 obtain⟨Us,ep',a',b',d'⟩:=inv.rel.obj k _ q'
 have hb:=b.length
 have hb':=b'.length
 refine P.add_list a a' ?_ (by rw [sizeLine_eq];simp;(clear d' d;lia))
 simpa using inv.newList (b.app b') (by simp;(clear d' d;lia)) (k:=s.toks)
theorem rep_ok {l:Nat}{xs:List AV}{n:Int}{u:Tok}(q:st.heap l=some (.list xs))(h0:xs.length=1∧0≤n∧n≤100):Ok W fx (binaryOp .Mult (.ref (β l)) (.int n u)) β δ st (alloc (.list ((List.replicate n.toNat xs).flatten)) st) (gV W):=fun _ s inv=>by
 obtain⟨Vs,ep,a,b,d⟩:=inv.rel.obj l _ q
 have hb:=b.length
 refine mul_list a (fun e=>by rw [e,h0.1] at hb;simp at hb) h0.2.1 (by (clear hb d;omega)) (by lia) (inv.newList (b.rep _) ?_ (k:=s.toks))
 have:((List.replicate n.toNat xs).flatten).length=n.toNat * xs.length:=by simp
 rw [this,h0.1];(clear this hb d;lia)
theorem bino_ok (B:Words W){o:Op}{a b:AV}{V U:Value}(ha:VR W β st.next a V)(hb:VR W β st.next b U):Ok W fx (binaryOp o.dec V U) β δ st (bino W.g o a b st) (gV W):=by
 cases a with
 | int x=>obtain⟨t,rfl⟩:=ha;exact .toA (.asInt (T:=fun U=>binaryOp o.dec _ U) hb fun y u=>binoI_ok)
 | str k=>
  refine xo1_1 ha fun t e1_=>?_;clear ha;obtain rfl:=e1_
  refine .toA (.asInt (T:=fun U=>binaryOp o.dec _ U) hb fun y u=>?_)
  cases o with
  | mod=>exact .ifp fun h0 _ s inv=>B.pct k h0.1 _ _ _ _ _ _ _ _ _ h0.2.1 h0.2.2 fun y t' k=>.tok inv ⟨_,_,rfl⟩
  | _=>exact .bad
 | loc l=>
  refine xo0_2 ha fun h1 e1_=>?_;clear ha;obtain rfl:=e1_
  refine .toA (.atObj fun x q=>.onList fun xs e=>?_)
  subst e
  cases o with
  | add=>exact .asLoc (T:=fun U=>binaryOp _ _ U) hb fun k hk=>.atObj fun y q'=>.onList fun ys e=>.ifp fun h0=>by subst e;exact add_ok q q' h0
  | mul=>exact .asInt (T:=fun U=>binaryOp _ _ U) hb fun n u=>.ifp fun h0=>rep_ok q h0
  | _=>exact .bad
 | _=>exact .bad
end
end Mine
end
section
open PySem PySem.W PyProof.Rows PySem.Calls
namespace Mine
structure ClsOk (W:Wd) (c:Nat):Prop where
 gv:W.gv c=.ref (W.ca c)
 get:∀ a,plainGet W.K (W.ca c) (W.nm a)=true
 hasDict:hasDictIn W.K (W.ca c)=true
 over:plainOver W.K (W.ca c)=true
 setattr:findIn W.K (.ref (W.ca c)) "__setattr__" = some (some (.builtin "object.__setattr__"))
 data:∀ a,W.g.me c a=.data→findIn W.K (.ref (W.ca c)) (W.nm a)=some none
 meth:∀ a f,W.g.me c a=.fn f→findIn W.K (.ref (W.ca c)) (W.nm a)=some (some (.ref (W.fa f)))∧isFn W.K (.ref (W.fa f))=true
 prop:∀ a f g,W.g.me c a=.prop f g→∃ p rest,findIn W.K (.ref (W.ca c)) (W.nm a)=some (some (.ref p))∧specialIn W.K (.ref p) "__get__" = some (some (.builtin "property.__get__"))∧
  takesIn W.K (.ref p)=some true∧recIn W.K p "property" = some (.ref (W.fa f) :: .ref (W.fa g) :: rest)∧typeIn W.K (.ref p)=some (.type "property")
 makes:makesIn W.K (W.ca c)=true
noncomputable def Clss (W:Wd):Prop:=∀ c,((∃ a,W.g.me c a≠.none)∨W.g.gk c=.cls)→ClsOk W c
noncomputable def KRs (W:Wd) (β:Nat→Addr) (n:Nat) (ks:List (Nat×AV)) (Ks:List (Str×Value)):Prop:=∃ Vs,VRs W β n (ks.map (·.2)) Vs∧Ks=(ks.map (W.nm ·.1)).zip Vs
noncomputable def Ends (W:Wd) (fx:Fx) (β δ:Nat→Addr) (st:St) (s:Shared) (r:R AV):Result→Shared→Prop:=wants (After W fx β δ st s r (gV W)) (Raised W fx β δ st s r)
noncomputable def CallsOk (W:Wd) (fx:Fx) (C:Nat→List AV→St→R AV):Prop:=
 ∀ (A:Around),A.handled=fx.A.handled→A.frames=fx.A.frames→A.depth≤fx.A.depth+1→A.units≤fx.A.units+10→
 ∀ (β δ:Nat→Addr) (st:St) (s:Shared) (f:Nat) (xs:List AV) (Xs:List Value) (ks:List (Nat×AV)) (Ks:List (Str×Value)),VRs W β st.next xs Xs→KRs W β st.next ks Ks→callFn W.g C f xs ks st≠.bad→Inv W fx β δ st s.heap→
  codeAny (model W.prog W.w) A (.call (.ref (W.fa f)) ⟨Xs,Ks⟩) (Ends W fx β δ st s (callFn W.g C f xs ks st)) s
section
variable {W:Wd}{fx:Fx}{β δ β' δ':Nat→Addr}{st st':St}{s:Shared}{h':Heap}{n:Nat}{C:Nat→List AV→St→R AV}
theorem Inv.fr (inv:Inv W fx β δ st s.heap):∃ m,Fr W.hb fx.L s.heap m:=let ⟨m,a,_⟩:=inv.loc;⟨m,a,inv.stays,inv.ok.above⟩
theorem K_in (B:Base W)(inv:Inv W fx β δ st s.heap):W.K.In s.heap:=fun a o e=>inv.stays a o (B.inK a o e)
theorem KRs.nil:KRs W β n [] []:=⟨[],.nil,rfl⟩
theorem nm_str (B:Base W)(a b:Nat)(t:Tok):(Value.str (W.nm a) t).isStr (W.nm b)=decide (a=b):=by
 show (W.nm a == W.nm b)=_
 by_cases q:a=b
 ·subst q;simp
 ·rw [decide_eq_false q];exact beq_eq_false_iff_ne.mpr fun w=>q (B.inj _ _ w)
theorem ARs.find (B:Base W){as:List (Nat×AV)}{ds:List DictEntry}(x:ARs W β n as ds)(a:Nat) :
  match get? as a with | some v=>∃ V,getL (W.nm a) ds=some (some V)∧VR W β n v V | none=>getL (W.nm a) ds=some none:=by
 have nr:∀ {as ds},ARs W β n as ds→ds.any (·.refKey)=false:=fun x=>by
  induction x with
  | nil=>rfl
  | cons _ _ _ ih=>rw [List.any_cons,ih];rfl
 induction x with
 | nil=>rfl
 | @cons b h t v V es ds v0 _ x0 ih=>
  rw [get_c]
  by_cases q:a=b
  ·subst q
   rw [if_pos rfl]
   refine⟨V,?_,v0⟩
   unfold getL
   rw [List.find?_cons_of_pos]
   rw [nm_str B];simp
  ·rw [if_neg q]
   have e:getL (W.nm a) (⟨h,.str (W.nm b) t,V⟩ :: ds)=getL (W.nm a) ds:=by
    unfold getL
    rw [List.find?_cons_of_neg (by rw [nm_str B];simpa using fun w=>q w.symm),List.any_cons]
    rfl
   rw [e];exact ih
theorem ARs.put (B:Base W){as:List (Nat×AV)}{ds:List DictEntry}(x:ARs W β n as ds){a:Nat}{v:AV}{V:Value}(hv:VR W β n v V)(hh:Int)(t:Tok) :
  ARs W β n (Mine.put as a v) (putL (W.nm a) hh (.str (W.nm a) t) V ds):=by
 induction x with
 | nil=>exact .cons hv (fun _=>nofun) .nil
 | @cons b h t v0 V0 es ds hv0 hn x0 ih=>
  rw [put_c];unfold putL
  by_cases q:a=b
  ·subst q
   rw [if_pos rfl,if_pos (by rw [nm_str B];simp)]
   exact .cons hv hn x0
  ·rw [if_neg q,if_neg (by rw [nm_str B];simpa using fun w=>q w.symm)]
   refine .cons hv0 (fun x=>?_) ih
   rw [get_put_ne _ _ fun w=>q w.symm];exact hn x
theorem put_len (m:List (Nat×AV))(i:Nat)(v:AV):(Mine.put m i v).length≤m.length+1:=by
 induction m with
 | nil=>exact Nat.le_refl _
 | cons p r ih=>
  obtain⟨a,b⟩:=p
  rw [put_c]
  by_cases q:i=a
  ·rw [if_pos q];exact Nat.le_succ _
  ·rw [if_neg q];exact Nat.succ_le_succ ih
theorem ARs.len {as:List (Nat×AV)}{ds:List DictEntry}(x:ARs W β n as ds):as.length=ds.length:=by
 induction x with
 | nil=>rfl
 | cons _ _ _ ih=>simp [ih]
theorem VR.handed {v:AV}{V:Value}(x:VR W β n v V)(p:v.plain=true):handedIn V=true:=by
 cases v with
 | none=>cases x;rfl
 | bool b=>cases x;rfl
 | int i=>obtain⟨t,rfl⟩:=x;rfl
 | str k=>obtain⟨t,rfl⟩:=x;rfl
 | msg=>obtain⟨a,t,rfl⟩:=x;rfl
 | gl k=>exact ftE p
 | loc l=>obtain⟨_,rfl⟩:=x;rfl
theorem Raised.only {α υ:Type}{r:R α}{k:α→St→R υ}{e:Value}{s':Shared}(nb:r.only.bnd k≠.bad)(x:Raised W fx β δ st s r e s'):False:=by
 obtain⟨c,cl,st',_,_,_,e1,_⟩:=x
 subst e1;exact nb rfl
theorem After.toks {α τ:Type}{r:R α}{good:Good α τ}{x:τ}{s':Shared}{k:Nat}(a:After W fx β δ st { s with toks:=k } r good x s'):After W fx β δ st s r good x s':=by
 obtain⟨v,st',β',δ',e1,e2,e3,e4,e5⟩:=a
 exact⟨v,st',β',δ',e1,e2,e3,e4,by rw [e5]⟩
theorem Raised.toks {α:Type}{r:R α}{x:Value}{s':Shared}{k:Nat}(a:Raised W fx β δ st { s with toks:=k } r x s'):Raised W fx β δ st s r x s':=by
 obtain⟨c,cl,st',β',δ',e,e1,e2,e3,e4,e5,e6⟩:=a
 exact⟨c,cl,st',β',δ',e,e1,e2,e3,e4,e5,by rw [e6]⟩
theorem After.then {α τ υ ρ:Type}{r:R α}{k:α→St→R υ}{good:Good α τ}{good':Good υ ρ}{x:τ}{y:ρ}{s':Shared}(a:After W fx β δ st s r good x s')(h:∀ v st' β' δ',r=.ok v st'→good β' δ' st' v x→∃ u,k v st'=.ok u st'∧good' β' δ' st' u y) :
  After W fx β δ st s (r.bnd k) good' y s':=by
 obtain⟨v,st',β',δ',e1,e2,e3⟩:=a
 refine xo1_2 (h _ _ _ _ e1 e2) fun u f1 f2=>?_
 exact⟨u,st',β',δ',by rw [e1];exact f1,f2,e3⟩
theorem Raised.then {α υ:Type}{r:R α}{k:α→St→R υ}{x:Value}{s':Shared}(a:Raised W fx β δ st s r x s'):Raised W fx β δ st s (r.bnd k) x s':=by
 obtain⟨c,cl,st',β',δ',e,e1,e2⟩:=a
 exact⟨c,cl,st',β',δ',e,by rw [e1];rfl,e2⟩
theorem inst_at {l c:Nat}{as:List (Nat×AV)}(inv:Inv W fx β δ st s.heap)(q:st.heap l=some (.inst c as)):∃ ds ep,InstAt s.heap (β l) (instObj (W.ca c) (δ l)) (W.ca c) (some (dictOf ds ep))∧s.heap.get? (β l)=some (instObj (W.ca c) (δ l))∧s.heap.get? (δ l)=some (dictOf ds ep)∧ARs W β st.next as ds∧as.length≤21:=by
 obtain⟨z1,ds,ep,z2,z3,z4⟩:=inv.rel.obj l _ q
 exact⟨ds,ep,⟨z1,rfl,rfl,z2⟩,z1,z2,z3,z4⟩
noncomputable def plainR (r:R AV):R AV:=r.only.bnd fun x s=>if x.plain then .ok x s else .bad
theorem plain_after {r:R AV}{X:Value}{s':Shared}(nb:plainR r≠.bad)(a:After W fx β δ st s r (gV W) X s'):After W fx β δ st s (plainR r) (gV W) X s'∧handedIn X=true:=by
 obtain⟨v,st',β',δ',rfl,e2,e3⟩:=a
 have e:plainR (.ok v st')=if v.plain then .ok v st' else .bad:=rfl
 rw [e] at nb ⊢
 by_cases hp:v.plain=true
 ·rw [if_pos hp];exact⟨⟨v,st',β',δ',rfl,e2,e3⟩,e2.handed hp⟩
 ·rw [if_neg hp] at nb;exact (nb rfl).elim
theorem getA_ok (B:Base W)(K:Clss W)(CO:CallsOk W fx C){v:AV}{V:Value}{a:Nat}(hv:VR W β st.next v V):Ok W fx (getAttr V (W.nm a) true) β δ st (getA W.g C v a st) (gV W):=by
 refine .toA (.asLoc (T:=fun V=>getAttr V (W.nm a) true) hv fun l hl=>.atObj fun o q=>.onInst fun c as e=>?_)
 subst e
 cases qm:W.g.me c a with
 | data=>
  have D:=K c (.inl ⟨a,by rw [qm];nofun⟩)
  dsimp only
  cases qa:get? as a with
  | none=>exact .bad
  | some x=>
   refine .ifp fun hp _ s inv=>?_
   refine xo2_5 (inst_at inv q) fun ds ep I e3_ e4_ z3 e6_=>?_;clear e3_;clear e4_;clear e6_
   have:=z3.find B a
   rw [qa] at this
   refine xo1_2 this fun X e1 e2=>?_;clear this
   refine xo1_1 inv.fr fun m F=>?_
   exact get_own F B.inK I (D.get a) D.hasDict (D.data a qm) rfl e1 (e2.handed hp) (.tok inv e2)
 | prop f g=>
  intro nb s inv
  refine xo2_2 (inst_at inv q) fun ds ep I e3_=>?_;clear e3_
  refine xo1_1 inv.fr fun m F=>?_
  have D:=K c (.inl ⟨a,by rw [qm];nofun⟩)
  refine xo2_5 (D.prop a f g qm) fun p rest p1 p2 p3 p4 p5=>?_
  have nb:plainR (callFn W.g C f [.loc l] [] st)≠.bad:=nb
  refine get_prop F B.inK I (D.get a) D.hasDict p1 p2 p3 p4 (codeAny_mono (CO fx.A.in1 rfl rfl (Nat.le_succ _) (by show fx.A.units+1≤_;lia) β δ st { s with toks:=s.toks+1 } f [.loc l] [.ref (β l)] [] [] (.cons ⟨hl,rfl⟩ .nil) .nil (fun e=>nb (by rw [e];rfl)) inv) fun r s' hr=>?_)
  match r,hr with
  | .ok (.ret X),hr=>
   refine xo0_2 (plain_after nb (After.toks (show After W fx β δ st { s with toks:=s.toks+1 } _ (gV W) X s' from hr))) fun h1 h2=>?_
   exact wpAny_of_eq (handedOut_of h2) h1
  | .error e,hr=>exact ((show Raised W fx β δ st { s with toks:=s.toks+1 } _ e s' from hr).only nb).elim
 | _=>exact .bad
theorem setattr_raw {M:Program}{w:World}{A:Around}{K:Frag}{x C dx:Addr}{name:Str}{tk:Tok}{v:Value}{es:List DictEntry}{ep:Nat}{R:Result→Shared→Prop}(X:K.In s.heap)(I:InstAt s.heap x (instObj C dx) C (some (dictOf es ep)))
  (hd:s.heap.get? dx=some (dictOf es ep)) (hp:plainOver K C=true) (ht:takerIn K C name=some none) (hh:hasDictIn K C=true) (hl:(getL name es).isSome=true)
  (hz:(putL name (PyData.keyHash w.params name) (.str name s.toks) v es).length≤1000)
  (h:R (.ok (.ret .none)) { s with heap:=s.heap.update dx (Obj.putName name (PyData.keyHash w.params name) (.str name s.toks) v),toks:=s.toks+1 }) :
  codeAny (model M w) A (.call (.builtin "object.__setattr__") ⟨[.ref x,.str name tk,v],[]⟩) R s:=by
 refine osa_open X I hp ht fun b=>?_
 refine xo1_2 (any_some hh) fun cd hc hd'=>?_
 have D':(s.heap.update dx (Obj.putName name (PyData.keyHash w.params name) (.str name s.toks) v)).get? dx=some (dictOf (putL name (PyData.keyHash w.params name) (.str name s.toks) v es) (putN name es ep)):=by
  have:=get_update (Obj.putName name (PyData.keyHash w.params name) (.str name s.toks) v) hd (by rw [putName_dict];rfl)
  rwa [putName_dict] at this
 obtain⟨hx,-,-,-⟩:=I
 refine wpAny_bind (wpAny_pure (wpAny_bind (wpAny_bind (wpAny_loadPart hx (wpAny_bind ((looks_clsIn X hc).here ?_))))))
 rw [hd']
 refine wpAny_pure (a:=some dx) (wpAny_bind (wpAny_pure (wpAny_bind ?_)))
 unfold nsSet
 refine wpAny_bind (wpAny_bind (wpAny_askSetting (wpAny_pure (wpAny_bind (wpAny_mkText (wpAny_bind (wpAny_loadPart hd ?_)))))))
 have c:(!es.toArray.any (·.key.isStr name)&&es.toArray.any (·.refKey))=false:=by
  rw [← Array.any_toList,← Array.any_toList]
  show (!es.any (·.key.isStr name)&&es.any (·.refKey))=false
  unfold getL at hl
  split at hl
  ·rename_i en he
   rw [List.any_eq_true.mpr ⟨en,List.mem_of_find?_eq_some he,List.find?_some he⟩];rfl
  ·split at hl
   ·exact ftE hl
   ·rename_i z;rw [Bool.not_eq_true] at z;rw [z,Bool.and_false]
 dsimp only
 rw [aRefKeyMayBeTheName_at,c]
 refine wpAny_updatePart hd ?_
 refine wpAny_bind (wpAny_lookBehind D' (pastItsLine_dict (by rw [List.size_toArray,sizeLine_eq];lia)) ?_)
 exact wpAny_pure h
theorem takes_none {K:Frag}{C:Addr}{name:Str}(e:findIn K (.ref C) name=some none):takerIn K C name=some none:=by unfold takerIn;rw [e];rfl
theorem takes_some {K:Frag}{C p:Addr}{name:Str}(e:findIn K (.ref C) name=some (some (.ref p)))(t:takesIn K (.ref p)=some true):takerIn K C name=some (some (.ref p)):=by
 unfold takerIn;rw [e];show (takesIn K (.ref p)).map _=_;rw [t];rfl
theorem set_own {l c a:Nat}{as:List (Nat×AV)}{x:AV}{X:Value}{k:Nat}(B:Base W)(inv:Inv W fx β δ st s.heap)(q:st.heap l=some (.inst c as))(hx:VR W β st.next x X)(hz:as.length≤20){ds:List DictEntry}{ep:Nat}(z1:s.heap.get? (β l)=some (instObj (W.ca c) (δ l)))(z2:s.heap.get? (δ l)=some (dictOf ds ep))(z3:ARs W β st.next as ds){t:Tok} :
  After W fx β δ st s (.ok () (st.set l (.inst c (put as a x)))) gU () { s with heap:=s.heap.update (δ l) (Obj.putName (W.nm a) (PyData.keyHash W.w.params (W.nm a)) (.str (W.nm a) t) X),toks:=k }:=by
 have hput:=z3.put B hx (a:=a) (PyData.keyHash W.w.params (W.nm a)) t
 have hle:=put_len as a x
 have D':=get_update (Obj.putName (W.nm a) (PyData.keyHash W.w.params (W.nm a)) (.str (W.nm a) t) X) z2 (by rw [putName_dict];rfl)
 rw [putName_dict] at D'
 have hne:β l≠δ l:=fun e=>by rw [← e,z1] at z2;exact absurd z2 nofun
 exact .mk (inv.upd q (Heap.SameBut.update ..) (.inr rfl) ⟨(Heap.get?_update_other _ _ hne.symm).trans z1,_,_,D',hput,by lia⟩ ⟨_,D'⟩) trivial
theorem setA_ok (B:Base W)(K:Clss W)(CO:CallsOk W fx C){v x:AV}{V X:Value}{a:Nat}(hv:VR W β st.next v V)(hx:VR W β st.next x X):Ok W fx (setAttr V (W.nm a) X) β δ st (setA W.g C v a x st) gU:=by
 refine .toA (.asLoc (T:=fun V=>setAttr V (W.nm a) X) hv fun l hl=>.atObj fun o q=>.onInst fun c as e=>?_)
 subst e
 cases qm:W.g.me c a with
 | data=>
  have D:=K c (.inl ⟨a,by rw [qm];nofun⟩)
  refine .ifp fun hz _ s inv=>?_
  refine xo2_5 (inst_at inv q) fun ds ep I z1 z2 z3 z4=>?_
  have X0:=K_in B inv
  have gl:(getL (W.nm a) ds).isSome=true:=by
   have:=z3.find B a
   split at this
   ·obtain⟨_,e,_⟩:=this;rw [e];rfl
   ·rw [this];rfl
  have hlen:=(z3.put B hx (a:=a) (PyData.keyHash W.w.params (W.nm a)) (s.toks+1)).len
  have hle:=put_len as a x
  exact set_plain X0 I D.setattr (setattr_raw (s:={ s with toks:=s.toks+1 }) X0 I z2 D.over (takes_none (D.data a qm)) D.hasDict gl (Nat.le_trans (Nat.le_of_eq hlen.symm) (by (clear z4 hl;lia))) (set_own B inv q hx hz z1 z2 z3))
 | prop f g=>
  intro nb s inv
  refine xo2_2 (inst_at inv q) fun ds ep I e3_=>?_;clear e3_
  have X0:=K_in B inv
  have D:=K c (.inl ⟨a,by rw [qm];nofun⟩)
  refine xo2_5 (D.prop a f g qm) fun p rest p1 p2 p3 p4 p5=>?_
  have nb:((callFn W.g C g [.loc l,x] [] st).bnd fun _ s=>R.ok () s)≠.bad:=nb
  refine set_plain X0 I D.setattr (osa_descr (s:={ s with toks:=s.toks+1 }) KF.slot_pset X0 I D.over (takes_some p1 p3) p5 (prop_set (s:={ s with toks:=s.toks+1 }) X0 p4 (codeAny_mono
   (CO fx.A.in1.in1 rfl rfl (Nat.le_succ _) (by show fx.A.units+1+1≤_;lia) β δ st { s with toks:=s.toks+1 } g [.loc l,x] [.ref (β l),X] [] [] (.cons ⟨hl,rfl⟩ (.cons hx .nil)) .nil (fun e=>nb (by rw [e];rfl)) inv) fun r s' hr=>?_)))
  match r,hr with
  | .ok (.ret Y),hr=>exact (show After W fx β δ st { s with toks:=s.toks+1 } _ (gV W) Y s' from hr).toks.then fun v st' β' δ' _ _=>⟨(),rfl,trivial⟩
  | .error e,hr=>exact (show Raised W fx β δ st { s with toks:=s.toks+1 } _ e s' from hr).toks.then
 | _=>exact .bad
end
end Mine
end
section
open PySem PySem.W PyProof.Rows PySem.Calls PySem.SeqAt
namespace Mine
structure Near (fx:Fx) (A:Around):Prop where
 handled:A.handled=fx.A.handled
 frames:A.frames=fx.A.frames
 depth:A.depth≤fx.A.depth+1
 units:A.units≤fx.A.units+8
noncomputable def Roomy (fx:Fx):Prop:=fx.A.units+20 < cLine
abbrev gBv:Good Bool Value:=fun _ _ _ a V=>V=.bool a
section
variable {W:Wd}{fx:Fx}{β δ β' δ':Nat→Addr}{st st':St}{s:Shared}{h':Heap}{n:Nat}{C:Nat→List AV→St→R AV}{A:Around}
theorem Near.self:Near fx fx.A:=⟨rfl,rfl,Nat.le_succ _,by lia⟩
theorem Near.in1:Near fx fx.A.in1:=⟨rfl,rfl,Nat.le_succ _,by show fx.A.units+1≤_;lia⟩
theorem bool_ok {α:Type}{r:R AV}{x:Value}{s':Shared}(nb:(r.only.bnd fun v s=>asBool v fun b=>(.ok b s:R Bool))≠.bad)(a:After W fx β δ st s r (gV W) x s') :
  ∃ b,x=.bool b∧After W fx β δ st s (r.only.bnd fun v s=>asBool v fun b=>(.ok b s:R Bool)) gBv x s':=by
 obtain⟨v,st',β',δ',e1,e2,e3⟩:=a
 subst e1
 cases v with
 | bool b=>cases e2;exact⟨b,rfl,b,st',β',δ',rfl,rfl,e3⟩
 | _=>exact (nb rfl).elim
theorem inst_cmp {f l k c m:Nat}{as bs:List (Nat×AV)}{op:CmpOp}(B:Base W)(K:Clss W)(CO:CallsOk W fx C)(N:Near fx A)(rm:Roomy fx)(hn:W.nm m=((cmpInfo op).2.1:Str))(hf:W.g.me c m=.fn f)(ha:st.heap l=some (.inst c as))(hb:st.heap k=some (.inst c bs)) :
  OkA W fx A (richCompare op (.ref (β l)) (.ref (β k))) β δ st ((callFn W.g C f [.loc l,.loc k] [] st).only.bnd fun v s=>asBool v fun b=>.ok b s) gBv:=fun nb s inv=>by
 refine xo2_2 (inst_at inv ha) fun ds ep I e3_=>?_;clear e3_
 refine xo2_2 (inst_at inv hb) fun ds' ep' I' e3_=>?_;clear e3_
 refine xo1_1 inv.fr fun mm F=>?_
 have D:=K c (.inl ⟨m,by rw [hf];nofun⟩)
 refine xo0_2 (D.meth _ _ hf) fun d1 d2=>?_
 rw [hn] at d1
 have hu:A.units < cLine:=Nat.lt_of_le_of_lt N.units (by unfold Roomy at rm;lia)
 have key:=CO A N.handled N.frames N.depth (Nat.le_trans N.units (by lia)) β δ st s f [.loc l,.loc k] [.ref (β l),.ref (β k)] [] [] (.cons ⟨inv.rel.some_lt _ _ ha,rfl⟩ (.cons ⟨inv.rel.some_lt _ _ hb,rfl⟩ .nil)) .nil (fun e=>nb (by rw [e];rfl)) inv
 refine cmp_K (tb:=.ref (W.ca c)) hu F B.inK I I'.type (by unfold notFirst;simp) d1 d2 (wpAny_call (codeAny_mono key fun r s' hr=>?_))
 match r,hr with
 | .ok (.ret X),hr=>
  refine xo1_2 (bool_ok (α:=AV) nb (show After W fx β δ st s _ (gV W) X s' from hr)) fun b e a=>?_
  subst e
  exact a
 | .error e,hr=>exact ((show Raised W fx β δ st s _ e s' from hr).only nb).elim
theorem cmpI_ok {l k m:Nat}{op:CmpOp}(B:Base W)(K:Clss W)(CO:CallsOk W fx C)(N:Near fx A)(rm:Roomy fx)(hn:W.nm m=((cmpInfo op).2.1:Str)):OkA W fx A (richCompare op (.ref (β l)) (.ref (β k))) β δ st (cmpI W.g C m l k st) gBv:=by
 refine .atObj fun x q=>.onInst fun c as e=>.atObj fun y q'=>.onInst fun c' bs e'=>.ifp fun hc=>?_
 subst e e' hc
 cases qm:W.g.me c m with
 | fn f=>exact inst_cmp B K CO N rm hn qm q q'
 | _=>exact .bad
inductive EqG:AV→AV→Bool→Prop
 | nn:EqG .none .none true
 | ni {i}:EqG .none (.int i) false
 | ns {i}:EqG .none (.str i) false
 | i_n {i}:EqG (.int i) .none false
 | s_n {i}:EqG (.str i) .none false
 | si {i j}:EqG (.str i) (.int j) false
 | is {i j}:EqG (.int i) (.str j) false
 | ii {x y}:EqG (.int x) (.int y) (decide (x=y))
 | ss {x y}:EqG (.str x) (.str y) (decide (x=y))
 | bb {x y}:EqG (.bool x) (.bool y) (x == y)
theorem eqP_eq {a b:AV}{r:Bool}(e:eqP a b=some r):EqG a b r:=by
 cases a <;> first | (cases e;done) | (cases b <;> cases e <;> constructor)
theorem EqG.rc {r:Bool}{a b:AV}{V U:Value}(B:Base W)(h:EqG a b r)(ha:VR W β n a V)(hb:VR W β n b U):RcAt A s V U r∧RcNeAt A s V U (!r):=by
 cases h with
 | nn=>cases ha;cases hb;exact⟨.none_none,.none_none⟩
 | ni=>cases ha;obtain⟨u,rfl⟩:=hb;exact⟨.none_int _ _,.none_int _ _⟩
 | ns=>cases ha;obtain⟨u,rfl⟩:=hb;exact⟨.none_str _ _,.none_str _ _⟩
 | i_n=>cases hb;obtain⟨u,rfl⟩:=ha;exact⟨.int_none _ _,.int_none _ _⟩
 | s_n=>cases hb;obtain⟨u,rfl⟩:=ha;exact⟨.str_none _ _,.str_none _ _⟩
 | bb=>cases ha;cases hb;exact⟨.bool_bool _ _,.bool_bool _ _⟩
 | si=>obtain⟨u,rfl⟩:=ha;obtain⟨t,rfl⟩:=hb;exact⟨.str_int _ _ _ _,.str_int _ _ _ _⟩
 | is=>obtain⟨u,rfl⟩:=ha;obtain⟨t,rfl⟩:=hb;exact⟨.int_str _ _ _ _,.int_str _ _ _ _⟩
 | ii=>obtain⟨u,rfl⟩:=ha;obtain⟨t,rfl⟩:=hb;exact⟨.int_int _ _ _ _,.int_int _ _ _ _⟩
 | @ss x y=>
  obtain⟨u,rfl⟩:=ha;obtain⟨t,rfl⟩:=hb
  have e:decide (x=y)=(W.nm x == W.nm y):=by
   by_cases q:x=y
   ·subst q;simp
   ·rw [decide_eq_false q,beq_eq_false_iff_ne.mpr fun w=>q (B.inj _ _ w)]
  rw [e]
  exact⟨.str_str _ _ _ _,.str_str _ _ _ _⟩
theorem eqR_ok {T:Sem Value}{a b:AV}{f:Bool→Bool}(h:∀ r s (E:Value→Shared→Prop)(Q:Value→Shared→Prop),EqG a b r→Q (.bool (f r)) s→wpAny (model W.prog W.w) A T Q E s):OkA W fx A T β δ st (eqR a b f st) gBv:=by
 unfold eqR
 cases q:eqP a b with
 | none=>exact .bad
 | some r=>exact fun _ s inv=>h r s _ _ (eqP_eq q) (.now inv rfl)
theorem eqv_ok (B:Base W)(Wo:Words W)(K:Clss W)(CO:CallsOk W fx C)(N:Near fx A)(rm:Roomy fx){a b:AV}{V U:Value}(ha:VR W β st.next a V)(hb:VR W β st.next b U):OkA W fx A (richCompare .Eq V U) β δ st (eqv W.g C a b st) gBv:=by
 cases a with
 | loc l=>obtain⟨_,rfl⟩:=ha;exact .asLoc (T:=fun U=>richCompare .Eq _ U) hb fun k hk=>cmpI_ok B K CO N rm Wo.eqN
 | _=>exact eqR_ok fun r s E Q h hq=>(h.rc B ha hb).1 _ _ _ _ hq
theorem eqBool_ref {M:Model}{x y:Addr}{E:Value→Shared→Prop}{Q:Bool→Shared→Prop}(hne:x≠y)(h:wpAny M A (richCompare .Eq (.ref x) (.ref y)) (fun v s'=>∃ b,v=.bool b∧Q b s') E s):wpAny M A (eqBool (.ref x) (.ref y)) Q E s:=by
 unfold eqBool
 refine wpAny_holding ?_
 rw [if_neg (by simpa using hne)]
 refine wpAny_bind (wpAny_mono h (fun v s' hv=>?_) fun _ _ e=>e)
 refine xo1_2 hv fun b e1_ hq=>?_;clear hv;obtain rfl:=e1_
 exact wpAny_truthy_bool hq
theorem eqBool_same {M:Model}{x:Addr}{E:Value→Shared→Prop}{Q:Bool→Shared→Prop}(h:Q true s):wpAny M A (eqBool (.ref x) (.ref x)) Q E s:=by
 unfold eqBool
 refine wpAny_holding ?_
 rw [if_pos (by simp)]
 exact wpAny_bind (wpAny_rule (wpAny_pure h))
abbrev FinQ (R:Result→Shared→Prop) (P:Program) (w:World) (A:Around) (fin:Fin) (s':Shared):Prop:=match fin with | .done f=>R (.ok f) s' | .again c'=>c'.quiet=true∧codeAny (model P w) A c' R s'
theorem remove_step {P:Program}{w:World}{R:Result→Shared→Prop}{l:Addr}{items:Array Value}{n i:Nat}{x y:Value}(hl:IsL s.heap l items n)(hy:items[i]?=some y)
  (h:wpAny (model P w) A.in1 (eqBool y x) (fun b s'=>if b then (∃ its k,IsL s'.heap l its k∧its.size≤sizeLine∧R (.ok (.ret .none)) { s' with heap:=s'.heap.update l (Obj.mapSeq fun xs=>xs.eraseIdxIfInBounds i) })
   else codeAny (model P w) A (.builtin "list.remove.loop" ⟨[.ref l,x,rawInt ((i+1:Nat):Int)],[]⟩) R s') (fun e s'=>R (.error e) s') s) :
  wpAny (model P w) A.in1 (Builtin.«list.remove.loop» ⟨[.ref l,x,rawInt (i:Int)],[]⟩) (FinQ R P w A) (fun e s'=>R (.error e) s') s:=by
 obtain⟨hp,g,d,tk,os⟩:=s
 wp_walk using wpAny_loadPart' hl
 have hi:items[((i:Nat):Int).toNat]?=some y:=by simpa using hy
 have hc:((i:Int)+1)=((i+1:Nat):Int):=by push_cast;rfl
 rw [hi]
 refine wpAny_bind (wpAny_mono h (fun b s' hb=>?_) fun _ _ e=>e)
 cases b with
 | true=>
  simp only [if_true] at hb
  refine xo2_3 hb fun its k hl' hz hq=>?_;clear hb
  have hz':(its.eraseIdxIfInBounds i).size≤sizeLine+1:=Nat.le_trans (MeetsSeq.size_erased its _) (Nat.le_succ_of_le hz)
  wp_walk using (wpAny_updateSeq hl' rfl (hz:=hz) (_hz':=hz')),wpAny_loadPart' hl'
  simpa using hq
 | false=>
  simp only [Bool.false_eq_true,if_false] at hb
  wp_walk
  rw [hc]
  exact⟨plainId_quiet MeetsSeq.plain_remove_loop _,hb⟩
abbrev gBb:Good Bool Bool:=fun _ _ _ a b=>b=a
theorem eqIt_ok (B:Base W)(Wo:Words W)(K:Clss W)(CO:CallsOk W fx C)(N:Near fx A)(rm:Roomy fx){y x:AV}{Y X:Value}(hy:VR W β st.next y Y)(hx:VR W β st.next x X):OkA W fx A (eqBool Y X) β δ st (eqIt W.g C y x st) gBb:=by
 cases y with
 | int p=>obtain⟨t,rfl⟩:=hy;exact .asInt (T:=fun X=>eqBool _ X) hx fun q u _ s inv=>EqAt.int_int _ _ _ _ _ _ _ _ (.now inv rfl)
 | loc p=>
  refine xo0_2 hy fun h1 e1_=>?_;clear hy;obtain rfl:=e1_
  refine .asLoc (T:=fun X=>eqBool _ X) hx fun q h2=>?_
  by_cases w:p=q
  ·subst w
   rw [if_pos rfl]
   exact fun _ s inv=>eqBool_same (.now inv rfl)
  ·rw [if_neg w]
   intro nb s inv
   exact eqBool_ref (fun e=>w (inv.rel.bb _ _ h1 h2 e)) (wpAny_mono (eqv_ok B Wo K CO N rm (a:=.loc p) (b:=.loc q) ⟨h1,rfl⟩ ⟨h2,rfl⟩ nb s inv) (fun v s' ⟨t,st',β',δ',f1,f2,f3⟩=>⟨t,f2,t,st',β',δ',f1,rfl,f3⟩) fun _ _ e=>e)
 | _=>exact .bad
theorem cut_ok {l i:Nat}(nb:cutAt l i st≠.bad)(inv:Inv W fx β δ st s.heap):∃ its k',IsL s.heap (β l) its k'∧its.size≤sizeLine∧
  After W fx β δ st s (cutAt l i st) (gV W) .none { s with heap:=s.heap.update (β l) (Obj.mapSeq fun xs=>xs.eraseIdxIfInBounds i) }:=by
 obtain⟨ws,hw⟩:∃ ws,st.heap l=some (.list ws):=by
  unfold cutAt atObj at nb
  cases q:st.heap l with
  | none=>rw [q] at nb;exact (nb rfl).elim
  | some o=>rw [q] at nb;cases o <;> first | exact⟨_,rfl⟩ | exact (nb rfl).elim
 have e:cutAt l i st=.ok .none (st.set l (.list (ws.eraseIdx i))):=by unfold cutAt atObj;rw [hw];rfl
 rw [e]
 obtain⟨Ws,ep',a',b',d'⟩:=inv.rel.obj l _ hw
 have hlen':=b'.length
 exact⟨Ws.toArray,ep',a',by rw [sizeLine_eq];simp;lia,.mk (inv.listed hw a' (Ws:=Ws.eraseIdx i) (by rw [Array.eraseIdxIfInBounds_eq];split <;> simp_all [List.eraseIdx_of_length_le]) (b'.erase i) (Nat.le_trans (List.length_eraseIdx_le ..) d')) rfl⟩
theorem Ends.trans {r:R AV}{x:Result}{s':Shared}(g:Go fx β δ st s.heap β' δ' st' s'.heap)(e:s'={ s with heap:=s'.heap,toks:=s'.toks }){s'':Shared}(h:Ends W fx β' δ' st' s' r x s''):Ends W fx β δ st s r x s'':=by
 match x,h with
 | .ok (.ret V),h=>exact After.trans g e h
 | .error _,h=>exact Raised.trans g e h
theorem removeAt_eq {g:Sig}{l:Nat}{x:AV}{k n:Nat}{s:St}(nb:removeAt g C l x (k+1) n s≠.bad):∃ zs,s.heap l=some (.list zs)∧removeAt g C l x (k+1) n s=match zs[n]? with
  | some y=>(eqIt g C y x s).bnd fun t s=>if t then cutAt l n s else removeAt g C l x k (n+1) s
  | none=>.bad:=by
 revert nb
 show atObj s l _≠_→∃ zs,_∧atObj s l _=_
 unfold atObj
 cases q:s.heap l with
 | none=>exact fun nb=>(nb rfl).elim
 | some o=>cases o <;> first | exact fun _=>⟨_,rfl,rfl⟩ | exact fun nb=>(nb rfl).elim
theorem remove_loop (B:Base W)(Wo:Words W)(K:Clss W)(CO:CallsOk W fx C)(N:Near fx A.in1)(rm:Roomy fx){x:AV}{X:Value}{l:Nat}:∀ (k i:Nat)(β δ:Nat→Addr)(st:St)(s:Shared),VR W β st.next x X→removeAt W.g C l x k i st≠.bad→Inv W fx β δ st s.heap→
  codeAny (model W.prog W.w) A (.builtin "list.remove.loop" ⟨[.ref (β l),X,rawInt (i:Int)],[]⟩) (Ends W fx β δ st s (removeAt W.g C l x k i st)) s:=by
 intro k
 induction k with
 | zero=>intro i β δ st s _ nb;exact (nb rfl).elim
 | succ k ih=>
  intro i β δ st s hx nb inv
  refine xo1_2 (removeAt_eq nb) fun zs q e=>?_
  rw [e] at nb ⊢
  clear e
  have hl:=inv.rel.some_lt l _ q
  obtain⟨Vs,ep,a,b,d⟩:=inv.rel.obj l _ q
  clear q
  refine codeAny_builtin MeetsSeq.entry_remove_loop ?_
  rw [Around.under_plainId MeetsSeq.plain_remove_loop _]
  cases qx:zs[i]? with
  | none=>rw [qx] at nb;exact (nb rfl).elim
  | some y=>
   rw [qx] at nb
   refine xo1_2 (b.get qx) fun Y e1 e2=>?_
   clear qx d b
   refine remove_step a (y:=Y) (by simpa using e1) ?_
   clear a e1
   dsimp only at nb ⊢
   refine wpAny_mono (eqIt_ok B Wo K CO N rm e2 hx (fun e=>nb (by rw [e];rfl)) s inv) (fun t s' hv=>?_) fun e s' he=>Raised.then he
   obtain⟨t',st',β',δ',f1,f2,f3,f4,f5⟩:=hv
   rw [f1,R.bnd_ok] at nb ⊢
   subst f2
   have hb:=(f4.same l hl).1
   rw [← hb]
   cases t with
   | true=>
    rw [if_pos rfl] at nb ⊢
    refine xo2_3 (cut_ok nb f3) fun its k' z1 z2 z3=>?_
    exact⟨its,k',z1,z2,z3.trans f4 f5⟩
   | false=>exact codeAny_mono (ih (i+1) β' δ' st' s' (hx.mono f4.next fun l hl=>(f4.same l hl).1) nb f3) fun r s'' hr=>hr.trans f4 f5
end
end Mine
end
section
open PySem PySem.W PyProof.Rows PySem.Calls PySem.SeqAt
namespace Mine
section
variable {W:Wd}{fx:Fx}{β δ β' δ':Nat→Addr}{st st':St}{s:Shared}{h':Heap}{n:Nat}{C:Nat→List AV→St→R AV}{A:Around}
theorem intsR_ok {f:Int→Int→Bool}{a b:AV}{V U:Value}{op:CmpOp}(ha:VR W β st.next a V)(hb:VR W β st.next b U)
  (h:∀ {x t y u s} {Q E:Value→Shared→Prop},Q (.bool (f x y)) s→wpAny (model W.prog W.w) fx.A (compareOp op (.int x t) (.int y u)) Q E s):Ok W fx (compareOp op V U) β δ st (intsR a b st f) gBv:=
 .toA (.asInt (T:=fun V=>compareOp op V U) ha fun _ _=>.asInt (T:=fun U=>compareOp op _ U) hb fun _ _ _ s inv=>h (.now inv rfl))
theorem isR_ok {f:Bool→Bool}{a b:AV}{V U:Value}{op:CmpOp}(ha:VR W β st.next a V)(hb:VR W β st.next b U)
  (h:∀ {V s} {Q E:Value→Shared→Prop},PySem.plainIs V .none=true→Q (.bool (f (V == .none))) s→wpAny (model W.prog W.w) fx.A (compareOp op V .none) Q E s):Ok W fx (compareOp op V U) β δ st (isR a b f st) gBv:=by
 cases b with
 | none=>
  cases hb
  cases a with
  | none=>cases ha;exact fun _ s inv=>h rfl (.now inv rfl)
  | int i=>obtain⟨t,rfl⟩:=ha;exact fun _ s inv=>h rfl (.now inv rfl)
  | str i=>obtain⟨t,rfl⟩:=ha;exact fun _ s inv=>h rfl (.now inv rfl)
  | _=>exact .bad
 | _=>exact .bad
theorem int_key (k:Int)(t:Tok):(intKind W.prog W.w).is k (.int k t)=true:=by simp [intKind,Value.isInt]
theorem inR_ok (Wo:Words W){f:Bool→Bool}{a b:AV}{V U:Value}{op:CmpOp}(ha:VR W β st.next a V)(hb:VR W β st.next b U)
  (h:∀ {s k t d m} {Q E:Value→Shared→Prop},(intKind W.prog W.w).is k (.int k t)=true→(d == sysModules)=false→s.heap.MapOf (intKind W.prog W.w) d m→Q (.bool (f (m k).isSome)) { s with toks:=s.toks+1 }→wpAny (model W.prog W.w) fx.A (compareOp op (.int k t) (.ref d)) Q E s) :
  Ok W fx (compareOp op V U) β δ st (inR a b f st) gBv:=by
 cases a with
 | int k=>
  refine xo1_1 ha fun t e1_=>?_;clear ha;obtain rfl:=e1_
  refine .toA (.asLoc (T:=fun U=>compareOp op _ U) hb fun l hl=>.atObj fun o q=>.onDict fun es e _ s inv=>?_)
  subst e
  obtain⟨ds,a,b,d⟩:=inv.rel.obj l _ q
  refine h (int_key k t) (not_sm Wo inv hl) a.mapOf (.tok inv (congrArg (fun b=>Value.bool (f b)) ?_))
  cases qx:dget? es (.int k) with
  | none=>rw [b.miss qx];rfl
  | some x=>obtain⟨X,e1,_⟩:=b.val qx;rw [e1];rfl
 | _=>exact .bad
theorem ne_ok (B:Base W)(rm:Roomy fx){a b:AV}{V U:Value}(ha:VR W β st.next a V)(hb:VR W β st.next b U):Ok W fx (compareOp .NotEq V U) β δ st (neR a b st) gBv:=by
 cases a with
 | loc l=>
  obtain⟨hl,rfl⟩:=ha
  refine .toA (.asLoc (T:=fun U=>compareOp .NotEq _ U) hb fun k hk=>.atObj fun o q=>.onList fun xs e=>.atObj fun o' q'=>.onList fun ys e'=>?_)
  subst e e'
  intro nb s inv
  obtain⟨Xs,ep,a1,a2,a3⟩:=inv.rel.obj _ _ q
  obtain⟨Ys,ep',b1,b2,b3⟩:=inv.rel.obj _ _ q'
  have hu:fx.A.units < cLine:=by unfold Roomy at rm;(clear b3 a3 hk hl;lia)
  have la:=a2.length
  have lb:=b2.length
  unfold neLR at nb ⊢
  by_cases h:xs.length=ys.length
  ·rw [if_pos h] at nb ⊢
   cases xs with
   | cons _ _=>exact (nb rfl).elim
   | nil=>
    refine RcNeAt.lists (IsL.isList a1) (IsL.isList b1) (by simp;(clear hu b3 a3 hk hl;lia)) hu (e:=fun _=>true) (fun j h1 h2=>?_) _ _ _ _ ?_
    ·cases a2;exact absurd h1 (Nat.not_lt_zero _)
    ·rw [List.all_eq_true.mpr fun _ _=>rfl];exact .now inv rfl
  ·rw [if_neg h]
   exact RcNeAt.lists_lengths (IsL.isList a1) (IsL.isList b1) (by simp;(clear hu b3 a3 hk hl;lia)) hu _ _ _ _ (.now inv rfl)
 | _=>exact eqR_ok fun r s E Q h hq=>(h.rc B ha hb).2 _ _ _ _ hq
theorem cmpv_ok (B:Base W)(Wo:Words W)(K:Clss W)(CO:CallsOk W fx C)(rm:Roomy fx){o:Cm}{a b:AV}{V U:Value}(ha:VR W β st.next a V)(hb:VR W β st.next b U):Ok W fx (compareOp o.dec V U) β δ st (cmpv W.g C o a b st) gBv:=by
 cases o with
 | eq=>exact eqv_ok B Wo K CO .self rm ha hb
 | ne=>exact ne_ok B rm ha hb
 | lt=>
  have hi:Ok W fx (compareOp .Lt V U) β δ st (intsR a b st fun x y=>x < y) gBv:=intsR_ok ha hb P.lt_int
  cases a with
  | loc l=>obtain⟨_,rfl⟩:=ha;exact .toA (.asLoc (T:=fun U=>compareOp .Lt _ U) hb fun k hk=>cmpI_ok (op:=.Lt) B K CO .self rm Wo.ltN)
  | _=>exact hi
 | le=>exact intsR_ok ha hb P.le_int
 | gt=>exact intsR_ok ha hb P.gt_int
 | ge=>exact intsR_ok ha hb P.ge_int
 | is=>exact isR_ok ha hb wpAny_is_plain
 | isnot=>exact isR_ok ha hb wpAny_isNot_plain
 | isin=>exact inR_ok Wo ha hb wpAny_in_of
 | notin=>exact inR_ok Wo ha hb wpAny_notIn_of
theorem isi_ok (B:Base W)(Wo:Words W)(K:Clss W){v:AV}{V:Value}{k:Nat}(hv:VR W β st.next v V):Ok W fx (call (biV .isinstance) [V,W.gv k]) β δ st (isiR W.g k v st) (gV W):=by
 cases v with
 | int x=>obtain⟨t,rfl⟩:=hv;exact .toA (.ifp fun e=>by rw [e,Wo.intN];exact fun _ s inv=>IsiPair.int_int (.now inv rfl))
 | str x=>obtain⟨t,rfl⟩:=hv;exact .toA (.ifp fun e=>by rw [e,Wo.intN];exact fun _ s inv=>IsiPair.str_int (.tok inv rfl))
 | loc l=>
  refine xo0_2 hv fun hl e1_=>?_;clear hv;obtain rfl:=e1_
  refine .toA (.atObj fun o q=>.onInst fun c as e=>.ifp fun e'=>?_)
  subst e e'
  cases hc:W.g.gk c with
  | cls=>
   intro _ s inv
   rw [(K c (.inr hc)).gv]
   refine xo2_2 (inst_at inv q) fun ds ep I e3_=>?_;clear e3_
   exact isi_call (K_in B inv) (fun M=>I.type) (by unfold isIn;simp) (by nofun) (.now inv rfl)
  | _=>exact .bad
 | _=>exact .bad
theorem len_ok (Wo:Words W){l:Nat}(hl:l < st.next):Ok W fx (call (biV .len) [.ref (β l)]) β δ st (atObj st l fun o=>(match o with | .list xs=>R.ok (.int xs.length) st | .dict es=>.ok (.int es.length) st | _=>.bad)) (gV W):=by
 refine .toA (.atObj fun o q=>?_)
 cases o with
 | list xs=>
  intro _ s inv
  obtain⟨Vs,ep,a,b,d⟩:=inv.rel.obj _ _ q
  have hb:=b.length
  exact call_len_list (items:=Vs.toArray) (IsL.isList a) (by simp;lia) (.tok inv ⟨s.toks+1,by simp [hb]⟩)
 | dict es=>
  intro _ s inv
  obtain⟨ds,a,b,d⟩:=inv.rel.obj _ _ q
  have hb:=b.length
  exact call_len_dict (not_sm Wo inv hl) a (by lia) (.tok inv ⟨s.toks+1,by simp [hb]⟩)
 | _=>exact .bad
theorem ints_of:∀ {vs:List Value}{ns:List Int},vs.length=ns.length→(∀ (j:Nat)(v:Value),vs[j]?=some v→∃ (x:Int)(t:Tok),ns[j]?=some x∧v=Value.int x t)→IntsAre vs ns:=by
 intro vs
 induction vs with
 | nil=>intro ns h _;cases ns with | nil=>exact .nil | cons=>cases h
 | cons v r ih=>
  intro ns h k
  cases ns with
  | nil=>cases h
  | cons y ns=>
   obtain⟨x,t,e1,e2⟩:=k 0 v rfl
   cases e1
   rw [e2]
   exact .cons _ _ (ih (Nat.succ.inj h) fun j v e=>k (j+1) v e)
theorem callBI_ok (B:Base W)(Wo:Words W)(K:Clss W){b:BI}{xs:List AV}{Xs:List Value}(hx:VRs W β st.next xs Xs):Ok W fx (call (biV b) Xs) β δ st (callBI W.g b xs st) (gV W):=by
 cases b with
 | abs=>exact .toA (.arg1 (T:=fun Xs=>call (biV .abs) Xs) hx fun v V hv=>.asInt (T:=fun V=>call (biV .abs) [V]) hv fun x t _ s inv=>call_abs_int fun u tk=>.tok inv ⟨_,rfl⟩)
 | len=>exact .toA (.arg1 (T:=fun Xs=>call (biV .len) Xs) hx fun v V hv=>.asLoc (T:=fun V=>call (biV .len) [V]) hv fun l hl=>len_ok Wo hl)
 | isinstance=>exact .toA (.arg2 (T:=fun Xs=>call (biV .isinstance) Xs) hx fun v V u U hv hu=>.asGl (T:=fun U=>call (biV .isinstance) [V,U]) hu fun k=>isi_ok B Wo K hv)
 | range=>
  exact .toA (.arg1 (T:=fun Xs=>call (biV .range) Xs) hx fun v V hv=>.asInt (T:=fun V=>call (biV .range) [V]) hv fun x t=>.ifp fun e _ s inv=>
   call_range_1 (inv.pushed (o:=.rng _) rfl ⟨⟨s.toks,t,s.toks+1,by rw [ext_eq];exact push_get _ rfl⟩,e⟩))
noncomputable def MtVal (W:Wd) (mt:Mt) (F:Value):Prop:=match mt with | .fn f=>F=.ref (W.fa f) | .append=>F=.builtin "list.append" | .lpop=>F=.builtin "list.pop" | .remove=>F=.builtin "list.remove" | .dpop=>F=.builtin "dict.pop"
theorem call_remove {P:Program}{w:World}{l:Addr}{items:Array Value}{k:Nat}{x:Value}{E:Value→Shared→Prop}{Q:Value→Shared→Prop}(hl:IsL s.heap l items k)
  (h:codeAny (model P w) A (.builtin "list.remove.loop" ⟨[.ref l,x,rawInt ((0:Nat):Int)],[]⟩) (wants Q E) s):wpAny (model P w) A (call (.builtin "list.remove") [.ref l,x]) Q E s:=by
 refine wpAny_call (codeAny_call_builtin F.slot_list_remove.plain F.entry_list_remove (F.slot_list_remove.check _ _ _ _ _ _ _ _ ⟨_,hl,rfl⟩ (F.args_list_remove_2 _ _) ?_))
 obtain⟨hp,g,d,tk,os⟩:=s
 wp_walk
 exact⟨plainId_quiet MeetsSeq.plain_remove_loop _,h⟩
theorem append_ok {l:Nat}{ys:List AV}{x:AV}{X:Value}(q:st.heap l=some (.list ys))(hX:VR W β st.next x X)(hz:ys.length≤1000):Ok W fx (call (.builtin "list.append") [.ref (β l),X] []) β δ st (.ok .none (st.set l (.list (ys++[x])))) (gV W):=fun _ s inv=>by
 obtain⟨Vs,ep,a,b,d⟩:=inv.rel.obj l _ q
 have hb:=b.length
 exact call_meets F.slot_list_append ⟨_,a,rfl⟩ F.entry_list_append (F.args_list_append_2 _ _) (list_append (β l) Vs.toArray ep X (by rw [sizeLine_eq];simp;lia)) ⟨a,.mk (inv.listed q a (f:=fun x=>x.push X) (Ws:=Vs++[X]) (by simp) (b.app (.cons hX .nil)) (by simp;lia)) rfl⟩
theorem lpop_ok (Wo:Words W){l:Nat}{ys:List AV}{t:Tok}(q:st.heap l=some (.list ys)):Ok W fx (call (.builtin "list.pop") [.ref (β l),.int 0 t] []) β δ st (match ys with | []=>raise0 W.g.indexError st | y :: r=>.ok y (st.set l (.list r))) (gV W):=fun nb s inv=>by
 obtain⟨Vs,ep,a,b,d⟩:=inv.rel.obj l _ q
 have hb:=b.length
 cases b with
 | nil=>
  refine xo0_2 (raise0_of nb) fun h0 e0=>?_
  dsimp only
  rw [e0]
  exact call_meets F.slot_list_pop ⟨_,a,rfl⟩ F.entry_list_pop (F.args_list_pop_2 _ _) (AutoSeq1.list_pop_list_int_1 (β l) #[] ep 0 t (by decide) rfl) ⟨a,hd0 inv h0,fun h' tk e n=>Raised.newExc inv n Wo.ie⟩
 | @cons y Y r Vs hy b=>
  exact call_meets F.slot_list_pop ⟨_,a,rfl⟩ F.entry_list_pop (F.args_list_pop_2 _ _) (MeetsSeq.list_pop_at (β l) (Y :: Vs).toArray ep 0 t 0 Y rfl (by unfold seqIndex?;simp) (by simp) (by rw [sizeLine_eq];simp at *;lia))
   ⟨a,.mk (inv.listed q a (f:=fun xs=>xs.eraseIdxIfInBounds 0) (Ws:=Vs) (by simp [Array.eraseIdxIfInBounds]) b (by simp at d;lia)) hy⟩
theorem dpop_ok (Wo:Words W){l:Nat}{es:List (AV×AV)}{i:Int}{t:Tok}(q:st.heap l=some (.dict es)):Ok W fx (call (.builtin "dict.pop") [.ref (β l),.int i t] []) β δ st (match dget? es (.int i) with | some x=>.ok x (st.set l (.dict (ddel es (.int i)))) | none=>raise0 W.g.keyError st) (gV W):=fun nb s inv=>by
 obtain⟨ds,a,b,d⟩:=inv.rel.obj l _ q
 have hb:=b.length
 revert nb
 cases qx:dget? es (.int i) with
 | none=>
  intro nb
  refine xo0_2 (raise0_of nb) fun h0 e0=>?_
  dsimp only
  rw [e0]
  exact call_meetsIn F.slot_dict_pop a.typeIs F.entry_dict_pop (F.args_dict_pop_2 _ _) (meets_dict_pop_missing (intKind W.prog W.w) (β l) (int_key i t) (not_sm Wo inv (inv.rel.some_lt _ _ q)) rfl) ⟨hd0 inv h0,ds,a,b.miss qx,fun h' e n=>Raised.newExc inv n Wo.ke⟩
 | some x=>
  intro _
  refine xo1_2 (b.val qx) fun Y e1 e2=>?_
  exact call_meetsIn F.slot_dict_pop a.typeIs F.entry_dict_pop (F.args_dict_pop_2 _ _) (meets_dict_pop_there (intKind W.prog W.w) (β l) (int_key i t) [] (.inl rfl) rfl) ⟨ds,Y,a,by rw [sizeLine_eq];lia,e1,fun h' z1 z2=>.mk (inv.dicted q z2 z1 (b.del (dict_nodup a)) (Nat.le_trans (ddel_len ..) d)) e2⟩
theorem noKw_ok {T:List (Str×Value)→Sem Value}{ks:List (Nat×AV)}{Ks:List (Str×Value)}{r:R AV}(hk:KRs W β st.next ks Ks)(h:OkA W fx A (T []) β δ st r (gV W)):OkA W fx A (T Ks) β δ st (noKw ks r) (gV W):=by
 cases ks with
 | nil=>obtain⟨Us,hU,rfl⟩:=hk;exact h
 | cons _ _=>exact .bad
theorem callMt_ok (B:Base W)(Wo:Words W)(K:Clss W)(CO:CallsOk W fx C)(rm:Roomy fx){v:AV}{V:Value}{m:Nat}{mt:Mt}{st₀:St}(hv:VR W β st.next v V)(hm:methodOf W.g v m st₀=some mt)
  {xs:List AV} {Xs:List Value} {ks:List (Nat×AV)} {Ks:List (Str×Value)} (hx:VRs W β st.next xs Xs) (hk:KRs W β st.next ks Ks) {F:Value} (hF:MtVal W mt F) :
  Ok W fx (call F (V :: Xs) Ks) β δ st (callMt W.g C mt v xs ks st) (gV W):=by
 cases mt with
 | fn f=>
  cases hF
  exact fun nb s inv=>wpAny_call (CO fx.A rfl rfl (Nat.le_succ _) (by lia) β δ st s f (v :: xs) (V :: Xs) ks Ks (.cons hv hx) hk nb inv)
 | append=>
  cases hF
  exact .toA (.asLoc (T:=fun V=>call _ (V :: Xs) Ks) hv fun l hl=>noKw_ok (T:=fun Ks=>call _ (_ :: Xs) Ks) hk (.arg1 (T:=fun Xs=>call _ (_ :: Xs) []) hx fun x X hX=>.atObj fun o q=>.onList fun ys e=>.ifp fun hz=>append_ok (e ▸ q) hX hz))
 | lpop=>
  cases hF
  exact .toA (.asLoc (T:=fun V=>call _ (V :: Xs) Ks) hv fun l hl=>noKw_ok (T:=fun Ks=>call _ (_ :: Xs) Ks) hk (.arg1 (T:=fun Xs=>call _ (_ :: Xs) []) hx fun x X hX=>.asInt (T:=fun X=>call _ [_,X] []) hX fun i t=>.ifp fun h0=>.atObj fun o q=>.onList fun ys e=>h0 ▸ lpop_ok Wo (e ▸ q)))
 | remove=>
  cases hF
  refine .toA (.asLoc (T:=fun V=>call _ (V :: Xs) Ks) hv fun l hl=>noKw_ok (T:=fun Ks=>call _ (_ :: Xs) Ks) hk (.arg1 (T:=fun Xs=>call _ (_ :: Xs) []) hx fun x X hX=>.atObj fun o q=>.onList fun ys e nb s inv=>?_))
  subst e
  obtain⟨Vs,ep,a,b,d⟩:=inv.rel.obj l _ q
  exact call_remove a (remove_loop B Wo K CO .in1 rm _ 0 β δ st s hX nb inv)
 | dpop=>
  cases hF
  exact .toA (.asLoc (T:=fun V=>call _ (V :: Xs) Ks) hv fun l hl=>noKw_ok (T:=fun Ks=>call _ (_ :: Xs) Ks) hk (.arg1 (T:=fun Xs=>call _ (_ :: Xs) []) hx fun x X hX=>.asInt (T:=fun X=>call _ [_,X] []) hX fun i t=>.atObj fun o q=>.onDict fun es e=>dpop_ok Wo (e ▸ q)))
end
end Mine
end
section
open PySem PySem.W PyProof.Rows PySem.Calls PySem.SeqAt
namespace Mine
structure Funs (W:Wd):Prop where
 gv:∀ k f,W.g.gk k=.fn f→W.gv k=.ref (W.fa f)
 keep:∀ k f,W.g.gk k=.fn f→keepIn W.K (.ref (W.fa f))=true
 keepC:∀ k,W.g.gk k=.cls→keepIn W.K (.ref (W.ca k))=true
 keepM:∀ c a f,W.g.me c a=.fn f→keepIn W.K (.ref (W.fa f))=true
 init:W.nm W.g.init=("__init__" : Str)
section
variable {W:Wd}{fx:Fx}{β δ β' δ':Nat→Addr}{st st':St}{s:Shared}{h':Heap}{n:Nat}{C:Nat→List AV→St→R AV}{A:Around}
theorem KRs.mono {n':Nat}{ks:List (Nat×AV)}{Ks:List (Str×Value)}(x:KRs W β n ks Ks)(hn:n≤n')(hs:∀ l,l < n→β' l=β l):KRs W β' n' ks Ks:=let ⟨Vs,a,b⟩:=x;⟨Vs,a.mono hn hs,b⟩
theorem under_make {D:Addr}{rest:List Value}{kw:List (Str×Value)}:Near fx (fx.A.under (.builtin "type.__call__" ⟨.ref D :: rest,kw⟩)):=by
 refine⟨rfl,?_,?_,?_⟩
 ·have e:Code.envs (.builtin "type.__call__" ⟨.ref D :: rest,kw⟩)=[]:=rfl
  unfold Around.under
  rw [e]
  rfl
 ·show fx.A.depth+Code.weight _≤_
  have:Code.weight (.builtin "type.__call__" ⟨.ref D :: rest,kw⟩)=1:=by
   unfold Code.weight
   rfl
  lia
 ·show fx.A.units+Code.cUnits _≤_
  have:Code.cUnits (.builtin "type.__call__" ⟨.ref D :: rest,kw⟩)=1:=rfl
  lia
theorem make_ok (B:Base W)(Fu:Funs W)(K:Clss W)(CO:CallsOk W fx C){c f:Nat}(hc:W.g.gk c=.cls)(hf:W.g.me c W.g.init=.fn f){xs:List AV}{Xs:List Value}{ks:List (Nat×AV)}{Ks:List (Str×Value)}(hx:VRs W β st.next xs Xs)(hk:KRs W β st.next ks Ks) :
  Ok W fx (call (.ref (W.ca c)) Xs Ks) β δ st ((callFn W.g C f (.loc st.next :: xs) ks (st.new (.inst c []))).bnd fun r s'=>if r=.none then .ok (.loc st.next) s' else .bad) (gV W):=fun nb s inv=>by
 have D:=K c (.inr hc)
 refine xo0_2 (D.meth _ _ hf) fun d1 d2=>?_
 rw [Fu.init] at d1
 have X:=K_in B inv
 have hty:typeIn W.K (.ref (W.fa f))=some (.type "function"):=beq_iff_eq.mp d2
 have k1:∀ b x,s.heap.get? b=some x→((s.heap.push emptyDict).push (instObj (W.ca c) s.heap.objs.size)).get? b=some x:=fun b x e=>Heap.get?_push_of_some _ (Heap.get?_push_of_some _ e)
 have g1:((s.heap.push emptyDict).push (instObj (W.ca c) s.heap.objs.size)).get? (s.heap.objs.size+1)=some (instObj (W.ca c) s.heap.objs.size):=by
  have:=Heap.get?_push_size (s.heap.push emptyDict) (o:=instObj (W.ca c) s.heap.objs.size) rfl
  rwa [Heap.size_push] at this
 have g2:((s.heap.push emptyDict).push (instObj (W.ca c) s.heap.objs.size)).get? s.heap.objs.size=some emptyDict:=Heap.get?_push_of_some _ (Heap.get?_push_size _ rfl)
 obtain⟨inv',go'⟩:=inv.alloc (o:=.inst c []) k1 (a:=s.heap.objs.size+1) (d:=s.heap.objs.size) (Heap.get?_none_of_le (Nat.le_succ _)) size_free ⟨_,g1⟩ ⟨_,g2⟩
  ⟨by rw [ext_eq,ext_eq];exact g1,[],0,by rw [ext_eq];exact g2,.nil,Nat.zero_le _⟩
 have nb':callFn W.g C f (.loc st.next :: xs) ks (st.new (.inst c []))≠.bad:=fun e=>nb (by rw [e];rfl)
 have N:=under_make (fx:=fx) (D:=W.ca c) (rest:=Xs) (kw:=Ks)
 have co:=CO _ N.handled N.frames N.depth (Nat.le_trans N.units (by lia)) _ _ (st.new (.inst c [])) { s with heap:=(s.heap.push emptyDict).push (instObj (W.ca c) s.heap.objs.size) } f (.loc st.next :: xs) (.ref (s.heap.objs.size+1) :: Xs) ks Ks
  (.cons ⟨Nat.lt_succ_self _,by rw [ext_eq]⟩ hx.up) (hk.mono (Nat.le_succ _) fun _ h=>ext_lt h) nb' inv'
 refine wpAny_call ?_
 obtain⟨hh,g,d,t,os⟩:=s
 refine make_core (makes_of X D.makes) (looks_findIn X d1) (fun self=>bind_fn X self hty) (.inl rfl) (codeAny_mono co fun r s' hr=>?_)
 match r,hr with
 | .ok (.ret V),hr=>
  have hr:After W fx _ _ _ { heap:=(hh.push emptyDict).push (instObj (W.ca c) hh.objs.size),gens:=g,drawn:=d,toks:=t,os:=os } _ (gV W) V s':=hr
  obtain⟨v,st₁,β₁,δ₁,e1,e2,e3,e4,e5⟩:=hr
  rw [e1] at nb ⊢
  simp only [R.bnd_ok] at nb ⊢
  by_cases q:v=.none
  ·subst q
   cases e2
   refine⟨rfl,?_⟩
   rw [if_pos rfl]
   refine⟨.loc st.next,st₁,β₁,δ₁,rfl,⟨Nat.lt_of_lt_of_le (Nat.lt_succ_self _) e4.next,?_⟩,e3,go'.trans e4,by rw [e5]⟩
   rw [(e4.same st.next (Nat.lt_succ_self _)).1,ext_eq]
  ·rw [if_neg q] at nb;exact (nb rfl).elim
 | .error e,hr=>
  have hr:Raised W fx _ _ _ { heap:=(hh.push emptyDict).push (instObj (W.ca c) hh.objs.size),gens:=g,drawn:=d,toks:=t,os:=os } _ e s':=hr
  exact (Raised.then (Raised.trans (s:=⟨hh,g,d,t,os⟩) go' rfl hr):Raised W fx β δ st ⟨hh,g,d,t,os⟩ _ e s')
theorem callV_ok (B:Base W)(Wo:Words W)(Fu:Funs W)(K:Clss W)(CO:CallsOk W fx C){v:AV}{V:Value}(hv:VR W β n v V){xs:List AV}{Xs:List Value}{ks:List (Nat×AV)}{Ks:List (Str×Value)}
  (hx:VRs W β st.next xs Xs) (hk:KRs W β st.next ks Ks):Ok W fx (call V Xs Ks) β δ st (callV W.g C v xs ks st) (gV W):=by
 unfold callV
 cases v <;> try exact fun nb=>(nb rfl).elim
 rename_i k
 cases hv
 dsimp only
 cases hc:W.g.gk k with
 | fn f=>
  rw [Fu.gv _ _ hc]
  intro nb s inv
  exact wpAny_call (CO fx.A rfl rfl (Nat.le_succ _) (by lia) β δ st s f xs Xs ks Ks hx hk nb inv)
 | cls=>
  dsimp only
  cases hf:W.g.me k W.g.init with
  | fn f=>
   rw [(K k (.inr hc)).gv]
   exact make_ok B Fu K CO hc hf hx hk
  | _=>exact .bad
 | bi b=>
  rw [Wo.bi _ _ hc]
  refine xo1_2 hk fun Vs a e2_=>?_;clear hk;obtain rfl:=e2_
  cases ks with
  | nil=>exact callBI_ok B Wo K hx
  | cons _ _=>exact .bad
 | other=>exact .bad
end
end Mine
end
section
open PySem PySem.W PyProof.Rows PySem.Calls PySem.SeqAt
namespace Mine
noncomputable def Ks.names:Ks→List Nat
 | .nil=>[]
 | .cons n _ _ r=>n :: r.names
section
variable (W:Wd)(env:Env)
noncomputable def trees:Es→List (Bool×Sem Value)
 | .nil=>[]
 | .cons e r=>(false,eval (e.dec W.nm W.sc) env) :: trees r
noncomputable def ktrees (p:Pos):Ks→List (Option Str×Sem Value)
 | .nil=>[]
 | .cons n e _ r=>(some (W.nm n),do let v ← eval (e.dec W.nm W.sc) env;standAt p;pure v) :: ktrees p r
theorem trees_c {e:E}{r:Es}:trees W env (.cons e r)=(false,eval (e.dec W.nm W.sc) env) :: trees W env r:=rfl
theorem ktrees_c {n:Nat}{e:E}{p q:Pos}{r:Ks}:ktrees W env p (.cons n e q r)=(some (W.nm n),do let v ← eval (e.dec W.nm W.sc) env;standAt p;pure v) :: ktrees W env p r:=rfl
theorem ed_c {e:E}{r:Es}:(Es.cons e r).dec W.nm W.sc=e.dec W.nm W.sc :: r.dec W.nm W.sc:=rfl
theorem kd_c {n:Nat}{e:E}{q:Pos}{r:Ks}:(Ks.cons n e q r).dec W.nm W.sc=⟨some (W.nm n),e.dec W.nm W.sc,q⟩ :: r.dec W.nm W.sc:=rfl
theorem el_c {e:E}{r:Es}:(Es.cons e r).len=r.len+1:=rfl
theorem kl_c {n:Nat}{e:E}{q:Pos}{r:Ks}:(Ks.cons n e q r).len=r.len+1:=rfl
theorem kn_c {n:Nat}{e:E}{q:Pos}{r:Ks}:(Ks.cons n e q r).names=n :: r.names:=rfl
theorem starEach_dec (as:Es):starEach (as.dec W.nm W.sc) env=trees W env as:=by
 match as with
 | .nil=>rfl
 | .cons e r=>
  rw [ed_c,trees_c]
  rw [← starEach_dec r]
  cases e <;> rfl
theorem backTo_trees (p:Pos)(as:Es):backTo p (trees W env as)=trees W env as:=by
 match as with
 | .nil=>rfl
 | .cons e r=>
  have:=backTo_trees p r
  unfold backTo at this ⊢
  rw [trees_c]
  rw [List.map_cons,this]
  rfl
theorem backToKw_dec (p:Pos)(ks:Ks):backToKw p (keywordEach (ks.dec W.nm W.sc) env)=ktrees W env p ks:=by
 match ks with
 | .nil=>rfl
 | .cons n e q r=>
  have:=backToKw_dec p r
  rw [kd_c,ktrees_c]
  rw [← this]
  rfl
theorem dec_len (as:Es):(as.dec W.nm W.sc).length=as.len:=by
 match as with
 | .nil=>rfl
 | .cons e r=>rw [ed_c,el_c];rw [List.length_cons,dec_len r]
theorem kdec_len (ks:Ks):(ks.dec W.nm W.sc).length=ks.len:=by
 match ks with
 | .nil=>rfl
 | .cons n e q r=>rw [kd_c,kl_c];rw [List.length_cons,kdec_len r]
theorem trees_plain (as:Es):(trees W env as).any (·.1)=false:=by
 match as with
 | .nil=>rfl
 | .cons e r=>rw [trees_c];rw [List.any_cons,trees_plain r];rfl
theorem trees_all (as:Es):(trees W env as).all (!·.1)=true:=by
 match as with
 | .nil=>rfl
 | .cons e r=>rw [trees_c];rw [List.all_cons,trees_all r];rfl
theorem ktrees_plain (p:Pos)(ks:Ks):(ktrees W env p ks).any (·.1.isNone)=false:=by
 match ks with
 | .nil=>rfl
 | .cons n e q r=>rw [ktrees_c];rw [List.any_cons,ktrees_plain p r];rfl
theorem ktrees_all (p:Pos)(ks:Ks):(ktrees W env p ks).all (·.1.isSome)=true:=by
 match ks with
 | .nil=>rfl
 | .cons n e q r=>rw [ktrees_c];rw [List.all_cons,ktrees_all p r];rfl
theorem ktrees_names (p:Pos)(ks:Ks):(ktrees W env p ks).filterMap (·.1)=ks.names.map W.nm:=by
 match ks with
 | .nil=>rfl
 | .cons n e q r=>rw [ktrees_c,kn_c];rw [List.map_cons,← ktrees_names p r];rfl
end
section
variable {W:Wd}{fx:Fx}{β δ β' δ':Nat→Addr}{st st':St}{s:Shared}{h':Heap}{n:Nat}{C:Nat→List AV→St→R AV}{A:Around}
abbrev gKs (W:Wd) (ks:Ks):Good (List (Nat×AV)) (List Value):=fun β _ st v V=>VRs W β st.next (v.map (·.2)) V∧v.map (·.1)=ks.names
theorem evalArgs_any {M:Model}{E:Value→Shared→Prop}{Q:Args→Shared→Prop}{F:Value}{env:Env}{p:Pos}{as:Es}{ks:Ks}
  (h:wpAny M A (spliced (trees W env as)) (fun vs s₁=>wpAny M A (evalAll ((ktrees W env p ks).map (·.2))) (fun us s₂=>Q ⟨vs,(ks.names.map W.nm).zip us⟩ s₂) E s₁) E s):wpAny M A (evalArgs F true (trees W env as) (ktrees W env p ks)) Q E s:=by
 cases as with
 | nil=>
  refine evalArgs_kw_nil (ktrees_all W env p ks) ?_
  rw [ktrees_names]
  have h:wpAny M A (pure []:Sem (List Value)) _ E s:=h
  have:=h
  intro Γ q hΓ
  exact h Γ q hΓ Γ q hΓ
 | cons e r=>
  refine evalArgs_kw (ktrees_all W env p ks) ?_
  rw [ktrees_names]
  exact h
theorem Ok.seq {α υ τ:Type}{t:Sem τ}{r:R α}{good:Good α τ}{f:α→St→R υ}{Q:τ→Shared→Prop}(a:Ok W fx t β δ st r good)(nb:r.bnd f≠.bad)(inv:Inv W fx β δ st s.heap)
  (b:∀ v st' β' δ' x s',r=.ok v st'→good β' δ' st' v x→Inv W fx β' δ' st' s'.heap→Go fx β δ st s.heap β' δ' st' s'.heap→s'={ s with heap:=s'.heap,toks:=s'.toks }→Q x s') :
  wpAny (model W.prog W.w) fx.A t Q (Raised W fx β δ st s (r.bnd f)) s:=
 wpAny_mono (a (fun q=>nb (by rw [q];rfl)) s inv) (fun x s' ⟨v,st',β',δ',e1,e2,e3,e4,e5⟩=>b v st' β' δ' x s' e1 e2 e3 e4 e5) fun e s' p=>Raised.then p
theorem callWith_ok (B:Base W){F:Value}{first:List Value}{p q:Pos}{as:Es}{ks:Ks}{k:List AV→List (Nat×AV)→St→R AV}(hk:∀ M h,W.K.In h→∃ k,(k=Keeper.frame∨k=Keeper.machine∨k=Keeper.boundFrame)∧Looks M h (keeperOf F) k)
  (hes:∀ β δ st,Ok W fx (spliced (trees W fx.env as)) β δ st (evalEs W.g C as st) (gVs W)) (hks:∀ β δ st,Ok W fx (evalAll ((ktrees W fx.env q ks).map (·.2))) β δ st (evalKs W.g C ks st) (gKs W ks))
  (hc:∀ β' δ' st' xs Xs ys Ys,st.next≤st'.next→(∀ l,l < st.next→β' l=β l∧δ' l=δ l)→VRs W β' st'.next xs Xs→KRs W β' st'.next ys Ys→Ok W fx (call F (first++Xs) Ys) β' δ' st' (k xs ys st') (gV W)) :
  Ok W fx (callWith p F first (trees W fx.env as) (ktrees W fx.env q ks)) β δ st ((evalEs W.g C as st).bnd fun xs s=>(evalKs W.g C ks s).bnd fun ys s=>k xs ys s) (gV W):=by
 intro nb s inv
 refine callWith_of (P:=fun h=>W.K.In h) (by rw [trees_plain,ktrees_plain];rfl) (fun h X=>hk _ h X) (evalArgs_any ?_)
 refine (hes β δ st).seq nb inv fun xs st₁ β₁ δ₁ Xs s₁ e1 g1 i1 o1 q1=>?_
 rw [e1,R.bnd_ok] at nb ⊢
 refine wpAny_mono ((hks β₁ δ₁ st₁).seq (Q:=fun Us s₂=>W.K.In s₂.heap∧wpAny _ fx.A (call F (first++Xs) ((ks.names.map W.nm).zip Us)) (After W fx β₁ δ₁ st₁ s₁ ((evalKs W.g C ks st₁).bnd fun ys s=>k xs ys s) (gV W)) (Raised W fx β₁ δ₁ st₁ s₁ ((evalKs W.g C ks st₁).bnd fun ys s=>k xs ys s)) s₂) nb i1
  fun ys st₂ β₂ δ₂ Us s₂ e2 g2 i2 o2 q2=>⟨K_in B i2,?_⟩) (fun Us s₂ hh=>⟨hh.1,wpAny_mono hh.2 (fun V s' hv=>After.trans o1 q1 hv) fun e s' he=>Raised.trans o1 q1 he⟩) fun e s' he=>Raised.trans o1 q1 he
 rw [e2,R.bnd_ok] at nb ⊢
 have o:=o1.trans o2
 exact wpAny_mono (hc β₂ δ₂ st₂ xs Xs ys _ o.next o.same (g1.mono o2.next fun l hl=>(o2.same l hl).1) ⟨Us,g2.1,by rw [← g2.2,List.map_map];rfl⟩ nb s₂ i2)
  (fun V s' hv=>After.trans o2 q2 hv) fun e s' he=>Raised.trans o2 q2 he
theorem mt_keep (Fu:Funs W){mt:Mt}{F:Value}{v:AV}{m:Nat}(hm:methodOf W.g v m st=some mt)(hF:MtVal W mt F) :
  ∀ M h,W.K.In h→∃ k,(k=Keeper.frame∨k=Keeper.machine∨k=Keeper.boundFrame)∧Looks M h (keeperOf F) k:=fun M h X=>by
 cases mt with
 | fn f=>
  cases hF
  refine keeps_K ?_ h X
  have big:∀ {a b c:Prop} [Decidable a] [Decidable b] [Decidable c],(if a then some Mt.append else if b then some Mt.lpop else if c then some Mt.remove else none)≠some (.fn f):=fun {a b c} _ _ _ w=>by
   by_cases x:a
   ·rw [if_pos x] at w;cases w
   ·rw [if_neg x] at w
    by_cases y:b
    ·rw [if_pos y] at w;cases w
    ·rw [if_neg y] at w
     by_cases z:c
     ·rw [if_pos z] at w;cases w
     ·rw [if_neg z] at w;exact nsE w
  cases v with
  | loc l=>
   unfold methodOf at hm
   dsimp only at hm
   cases q:st.heap l with
   | none=>rw [q] at hm;exact nsE hm
   | some o=>
    rw [q] at hm
    cases o with
    | inst c as=>
     dsimp only at hm
     cases hme:W.g.me c m with
     | fn f'=>
      rw [hme] at hm
      cases hg:get? as m with
      | none=>rw [hg] at hm;cases hm;exact Fu.keepM _ _ _ hme
      | some y=>rw [hg] at hm;exact nsE hm
     | _=>rw [hme] at hm;exact nsE hm
    | list xs=>exact (big hm).elim
    | dict es=>
     dsimp only at hm
     by_cases z:m=W.g.pop
     ·rw [if_pos z] at hm;cases hm
     ·rw [if_neg z] at hm;exact nsE hm
    | _=>exact nsE hm
  | _=>exact nsE hm
 | _=>cases hF;exact⟨.machine,.inr (.inl rfl),.now⟩
theorem getM_ok (B:Base W)(Wo:Words W)(K:Clss W){v:AV}{V:Value}{m:Nat}{mt:Mt}{pl:Sem Bool}{E:Value→Shared→Prop}{Q:Value×List Value→Shared→Prop}(inv:Inv W fx β δ st s.heap)(hv:VR W β st.next v V)(hm:methodOf W.g v m st=some mt)
  (h:∀ F,MtVal W mt F→Q (F,[V]) s) :
  wpAny (model W.prog W.w) A (getMethod V (W.nm m) pl) Q E s:=by
 unfold methodOf at hm
 cases v with
 | loc l=>
  refine xo0_2 hv fun hl e1_=>?_;clear hv;obtain rfl:=e1_
  dsimp only at hm
  cases q:st.heap l with
  | none=>rw [q] at hm;exact nsE hm
  | some o=>
  rw [q] at hm
  cases o with
  | inst c as=>
   dsimp only at hm
   cases hme:W.g.me c m with
   | fn f=>
    rw [hme] at hm
    cases hg:get? as m with
    | some y=>rw [hg] at hm;exact nsE hm
    | none=>
    rw [hg] at hm
    obtain rfl:=Option.some.inj hm
    obtain⟨z1,ds,ep,z2,z3,z4⟩:=inv.rel.obj l _ q
    have I:InstAt s.heap (β l) (instObj (W.ca c) (δ l)) (W.ca c) (some (dictOf ds ep)):=⟨z1,rfl,rfl,z2⟩
    refine xo1_1 inv.fr fun mm F=>?_
    have D:=K c (.inl ⟨m,by rw [hme];nofun⟩)
    refine xo0_2 (D.meth _ _ hme) fun d1 d2=>?_
    have:=z3.find B m
    rw [hg] at this
    exact method_inst F B.inK I (D.get m) d1 d2 this (h _ rfl)
   | _=>rw [hme] at hm;exact nsE hm
  | list xs=>
   dsimp only at hm
   obtain⟨Vs,ep,a,b,d⟩:=inv.rel.obj l _ q
   have hT:s.TypeIs (.ref (β l)) "list" :=⟨_,a,rfl⟩
   have hd:∀ b,Value.ref (β l)=.ref b→∃ o,s.heap.get? b=some o∧o.dict=none:=fun b e=>by cases e;exact⟨_,a,rfl⟩
   by_cases e:m=W.g.append
   ·rw [if_pos e] at hm;obtain rfl:=Option.some.inj hm;rw [e,Wo.append]
    exact getMethod_builtin hT F.plainAttrs_list F.slot_list_append (by kernel_rfl) hd (h _ rfl)
   ·rw [if_neg e] at hm
    by_cases e:m=W.g.pop
    ·rw [if_pos e] at hm;obtain rfl:=Option.some.inj hm;rw [e,Wo.pop]
     exact getMethod_builtin hT F.plainAttrs_list F.slot_list_pop (by kernel_rfl) hd (h _ rfl)
    ·rw [if_neg e] at hm
     by_cases e:m=W.g.remove
     ·rw [if_pos e] at hm;obtain rfl:=Option.some.inj hm;rw [e,Wo.remove]
      exact getMethod_builtin hT F.plainAttrs_list F.slot_list_remove (by kernel_rfl) hd (h _ rfl)
     ·rw [if_neg e] at hm;exact nsE hm
  | dict es=>
   dsimp only at hm
   obtain⟨ds,a,b,d⟩:=inv.rel.obj l _ q
   by_cases e:m=W.g.pop
   ·rw [if_pos e] at hm;obtain rfl:=Option.some.inj hm;rw [e,Wo.pop]
    exact getMethod_builtin a.typeIs F.plainAttrs_dict F.slot_dict_pop (by kernel_rfl) a.mapOf.noDict (h _ rfl)
   ·rw [if_neg e] at hm;exact nsE hm
  | _=>exact nsE hm
 | _=>exact nsE hm
end
end Mine
end
section
open PySem PySem.W PyProof.Rows PySem.Calls PySem.SeqAt
namespace Mine
section
variable {W:Wd}{fx:Fx}{β δ β' δ':Nat→Addr}{st st':St}{s:Shared}{h':Heap}{n:Nat}{C:Nat→List AV→St→R AV}{A:Around}
theorem noMarks {o:Cm}{e:E}:behindInMarks o.dec (e.dec W.nm W.sc)=false:=by cases e <;> first | rfl | (cases o <;> rfl)
theorem notSlice {e:E}{b:Bool}{V I:Value}:subscripted (e.dec W.nm W.sc) b V I=subscripted (.Constant .none 0 ⟨0,0,0,0⟩) b V I:=by cases b <;> cases e <;> rfl
theorem cv_ok (B:Base W){i:Nat}{p:Pos}(hw:(E.cv i p).wf W.gl fx.kd=true) (C):Ok W fx (eval ((E.cv i p).dec W.nm W.sc) fx.env) β δ st (evalE W.g C (.cv i p) st) (gV W):=fun nb s inv=>by
 have hw:(fx.kd.lookup i == some .cell)=true:=hw
 have hk:fx.env.kindOf (W.nm i)=some .cell:=(kindOf_nm B inv.ok i).trans (eq_of_beq hw)
 have ev:evalE W.g C (.cv i p) st=match get? st.loc i with | some v=>cellR v st | none=>.bad:=rfl
 rw [ev] at nb ⊢
 show wpAny _ _ (eval (.Name (W.nm i) p) fx.env) _ _ s
 cases q:get? st.loc i with
 | none=>rw [q] at nb;exact (nb rfl).elim
 | some v=>
  rw [q] at nb
  obtain⟨m,a1,a2⟩:=inv.loc
  obtain⟨l,rfl,hl,hc⟩:=(a2 i v q).cel (eq_of_beq hw)
  have ev:cellR (.loc l) st=match st.heap l with | some o=>(match cellV o with | some x=>.ok x st | none=>.bad) | none=>.bad:=rfl
  show wpAny _ _ _ (After W fx β δ st s (cellR (.loc l) st) (gV W)) _ s
  have nb:cellR (.loc l) st≠.bad:=nb
  rw [ev] at nb ⊢
  cases ho:st.heap l with
  | none=>rw [ho] at nb;exact (nb rfl).elim
  | some o=>
   rw [ho] at nb
   cases o with
   | cell c=>
    cases c with
    | none=>exact (nb rfl).elim
    | some x=>
     obtain⟨V,b1,b2⟩:=inv.rel.obj l _ ho
     cases V with
     | none=>exact b2.elim
     | some X=>exact wpAny_Name (wpAny_loadName_cell inv.ok.kind hk hc b1 (.now inv b2)) (B.dbg i)
   | _=>exact (nb rfl).elim
structure InC (W:Wd) (β δ:Nat→Addr) (st:St) (x:Nat) (C:Addr) (y:AV) (Y:Value) (h:Heap):Prop where
 ns:∃ m,h.Ns C m∧m (W.nm x)=some Y
 vr:VR W β st.next y Y
 obj:∀ l o,st.heap l=some o→ObjAt W β δ st.next h l o
theorem InC.keep {x:Nat}{C:Addr}{y:AV}{Y:Value}{h h':Heap}(i:InC W β δ st x C y Y h)(k:∀ b o,h.get? b=some o→h'.get? b=some o):InC W β δ st x C y Y h' where
 ns:=let ⟨m,a,b⟩:=i.ns;⟨m,a.keeps k,b⟩
 vr:=i.vr
 obj l o e:=(i.obj l o e).move (k _) (k _)
structure CEnv (W:Wd) (fx:Fx) (x:Nat) (fr:List Nat) (C:Addr) (env:Env):Prop where
 kind:env.scope.kind=.function
 locals:env.locals=C
 own:env.kindOf (W.nm x)=some .local
 cel:∀ i∈fr,env.kindOf (W.nm i)=some .cell∧env.cells.lookup (W.nm i)=fx.env.cells.lookup (W.nm i)
theorem keeps_refl {s:Shared}{h:Heap}{k:Nat}(e:∀ b o,s.heap.get? b=some o→h.get? b=some o):PySem.Keeps s { s with heap:=h,toks:=k }:=⟨h,k,rfl,e⟩
theorem keeps_trans {s s' s'':Shared}(a:PySem.Keeps s s')(b:PySem.Keeps s' s''):PySem.Keeps s s'':=by
 obtain⟨h,k,rfl,e⟩:=a
 obtain⟨h',k',rfl,e'⟩:=b
 exact⟨h',k',rfl,fun b o w=>e' b o (e b o w)⟩
inductive Pur (x:Nat) (fr:List Nat):E→Prop
 | lv (p:Pos):Pur x fr (.lv x p)
 | cv (i:Nat) (p:Pos) (hi:i∈fr):Pur x fr (.cv i p)
 | int (i:Int) (k:Nat) (p:Pos):Pur x fr (.cst (.int i) k p)
 | sub (l r:E) (p:Pos) (hl:Pur x fr l) (hr:Pur x fr r):Pur x fr (.sub l r p)
theorem Pur.of {x:Nat}{fr:List Nat}:∀ e:E,e.pur x fr=true→Pur x fr e
 | .lv i p,h=>by obtain rfl:i=x:=eq_of_beq h;exact .lv p
 | .cv i p,h=>.cv i p (List.contains_iff_mem.mp h)
 | .cst c k p,h=>by cases c <;> first | (cases h;done) | exact .int _ k p
 | .sub l r p,h=>.sub l r p (Pur.of l (bAnd (show (l.pur x fr&&r.pur x fr)=true from h)).1) (Pur.of r (bAnd (show (l.pur x fr&&r.pur x fr)=true from h)).2)
 | .bin ..,h=>by cases h
 | .cmp ..,h=>by cases h
 | .gv ..,h=>by cases h
 | .attr ..,h=>by cases h
 | .upto ..,h=>by cases h
 | .not ..,h=>by cases h
 | .band ..,h=>by cases h
 | .bor ..,h=>by cases h
 | .cmp2 ..,h=>by cases h
 | .ife ..,h=>by cases h
 | .call ..,h=>by cases h
 | .mcall ..,h=>by cases h
 | .lst ..,h=>by cases h
 | .tup ..,h=>by cases h
 | .dct1 ..,h=>by cases h
 | .comp ..,h=>by cases h
theorem pur_ok (B:Base W)(Wo:Words W){x:Nat}{fr:List Nat}{C:Addr}{env:Env}(ce:CEnv W fx x fr C env)(loc:∀ i v,get? st.loc i=some v→fx.kd.lookup i=some .cell→∃ l,v=.loc l∧fx.env.cells.lookup (W.nm i)=some (β l))
  (nsm:∀ l,l < st.next→(β l == sysModules)=false) (hfr:∀ i∈fr,fx.kd.lookup i=some .cell) {y:AV} {Y:Value} {Er:Value→Shared→Prop}:∀ {e:E},Pur x fr e→∀ {v:AV} {s₃:Shared},evalP st.loc st.heap x y e=some v→InC W β δ st x C y Y s₃.heap→
  wpAny (model W.prog W.w) fx.A (eval (e.dec W.nm W.sc) env) (fun V s₄=>VR W β st.next v V∧PySem.Keeps s₃ s₄) Er s₃:=by
 intro e hp
 induction hp with
 | lv p=>
  intro v s₃ ev I
  have ev:(if x=x then some y else none)=some v:=ev
  rw [if_pos rfl] at ev
  obtain rfl:=Option.some.inj ev
  obtain⟨m,a,b⟩:=I.ns
  exact wpAny_Name (wpAny_loadName_local ce.kind ce.own (ce.locals ▸ a) b ⟨I.vr,keeps_refl fun _ _ e=>e⟩) (B.dbg x)
 | cv i p hi=>
  intro v s₃ ev I
  obtain⟨w,e1,ev⟩:=Option.bind_eq_some_iff.mp (show (get? st.loc i).bind _=some v from ev)
  obtain⟨l,e2,ev⟩:=Option.bind_eq_some_iff.mp ev
  obtain⟨o,e3,ev⟩:=Option.bind_eq_some_iff.mp ev
  obtain⟨l',rfl,e4⟩:=loc i w e1 (hfr i hi)
  cases e2
  cases o <;> first | (cases ev;done) | skip
  rename_i c
  have ev:c=some v:=ev
  subst ev
  obtain⟨V,b1,b2⟩:=I.obj _ _ e3
  cases V with
  | none=>exact b2.elim
  | some V=>exact wpAny_Name (wpAny_loadName_cell ce.kind (ce.cel i hi).1 ((ce.cel i hi).2.trans e4) b1 ⟨b2,keeps_refl fun _ _ e=>e⟩) (B.dbg i)
 | int i k p=>
  intro v s₃ ev I
  cases ev
  exact wpAny_Constant_int ⟨⟨_,rfl⟩,keeps_refl fun _ _ e=>e⟩
 | sub l r p _ _ ihl ihr=>
  intro v s₃ ev I
  obtain⟨a,ea,ev⟩:=Option.bind_eq_some_iff.mp (show (evalP st.loc st.heap x y l).bind _=some v from ev)
  obtain⟨b,eb,ev⟩:=Option.bind_eq_some_iff.mp ev
  obtain⟨i,ei,ev⟩:=Option.bind_eq_some_iff.mp ev
  obtain⟨k,ek,ev⟩:=Option.bind_eq_some_iff.mp ev
  obtain⟨o,eo,ev⟩:=Option.bind_eq_some_iff.mp ev
  cases a <;> first | (cases ei;done) | skip
  cases b <;> first | (cases ek;done) | skip
  cases ei;cases ek
  show wpAny _ _ (eval (.Subscript (l.dec W.nm W.sc) (r.dec W.nm W.sc) p) env) _ _ _
  rw [arm_eval_Subscript]
  refine wpAny_bind (wpAny_mono (ihl ea I) (fun V s₄ hV=>?_) fun _ _ e=>e)
  obtain⟨⟨hl,rfl⟩,kv⟩:=hV
  have I4:InC W β δ st x C y Y s₄.heap:=by obtain⟨h,k,rfl,e⟩:=kv;exact I.keep e
  refine wpAny_bind (wpAny_holding (wpAny_mono (ihr eb I4) (fun V s₅ hV=>?_) fun _ _ e=>e))
  obtain⟨⟨u,rfl⟩,ku⟩:=hV
  have I5:InC W β δ st x C y Y s₅.heap:=by obtain⟨h,k,rfl,e⟩:=ku;exact I4.keep e
  refine wpAny_bind (wpAny_standAt ?_)
  have fin:∀ {V:Value} {k:Nat},VR W β st.next v V→(VR W β st.next v V∧PySem.Keeps s₃ { s₅ with toks:=k }):=fun e=>⟨e,keeps_trans (keeps_trans kv ku) (keeps_refl (s:=s₅) fun _ _ e=>e)⟩
  have hs:subscripted (r.dec W.nm W.sc) false (.ref (β i)) (.int k u)=operate [.ref (β i),.int k u] (getItem (.ref (β i)) (.int k u)):=notSlice
  have ob:=I5.obj _ _ eo
  cases o with
  | list xs=>
   obtain⟨Vs,ep,a,b,d⟩:=ob
   have ev:(if 0≤k then xs[k.toNat]? else none)=some v:=ev
   by_cases q:0≤k
   ·rw [if_pos q] at ev
    have hlt:k.toNat < xs.length:=(List.getElem?_eq_some_iff.mp ev).1
    obtain⟨X,e1,e2⟩:=b.get ev
    exact tail_any (IsL.isList a).typeIs slot_list_getitem.lookup (wpAny_getItem_list (IsL.isList a) q (by lia) (by simpa using e1) (fin e2)) hs
   ·rw [if_neg q] at ev;cases ev
  | dict es=>
   obtain⟨ds,a,b,d⟩:=ob
   have hk:(intKind W.prog W.w).is k (.int k u)=true:=by simp [intKind,Value.isInt]
   obtain⟨X,e1,e2⟩:=b.val (show dget? es (.int k)=some v from ev)
   exact tail_any a.typeIs slot_dict_getitem.lookup (wpAny_getItem_of hk a.mapOf e1 (fin e2)) hs
  | _=>cases ev
theorem pur_test (B:Base W)(Wo:Words W){x:Nat}{fr:List Nat}{C:Addr}{env:Env}(ce:CEnv W fx x fr C env)(loc:∀ i v,get? st.loc i=some v→fx.kd.lookup i=some .cell→∃ l,v=.loc l∧fx.env.cells.lookup (W.nm i)=some (β l))
  (nsm:∀ l,l < st.next→(β l == sysModules)=false) (hfr:∀ i∈fr,fx.kd.lookup i=some .cell) {y:AV} {Y:Value} {Er:Value→Shared→Prop} {ifs:Es} (hI:ifs.purs x fr=true) {b:Bool} {s₃:Shared} (ev:testP st.loc st.heap x y ifs=some b) (I:InC W β δ st x C y Y s₃.heap) :
  wpAny (model W.prog W.w) fx.A (forIn (ifs.dec W.nm W.sc) true fun c r=>if r=true then do let ok ← isTrue c env (eval c env);pure (ForInStep.yield ok) else pure (ForInStep.yield r)) (fun ok s₄=>ok=b∧PySem.Keeps s₃ s₄) Er s₃:=by
 cases ifs with
 | nil=>
  cases ev
  exact wpAny_pure ⟨rfl,keeps_refl fun _ _ e=>e⟩
 | cons e r=>
  obtain⟨h,hn⟩:=bAnd (show (e.purT x fr&&r.isNil)=true from hI)
  cases r with
  | cons _ _=>cases hn
  | nil=>
   have ev:testE st.loc st.heap x y e=some b:=ev
   cases e with
   | cmp l o r p=>
    obtain⟨h,ho⟩:=bAnd (show (l.pur x fr&&r.pur x fr&&o.isEq)=true from h)
    obtain⟨h1,h2⟩:=bAnd h
    obtain rfl:o=.eq:=by cases o <;> first | rfl | cases ho
    have hl:=Pur.of l h1
    have hr:=Pur.of r h2
    obtain⟨a,ea,ev⟩:=Option.bind_eq_some_iff.mp (show (evalP st.loc st.heap x y l).bind _=some b from ev)
    obtain⟨c,eb,ez⟩:=Option.bind_eq_some_iff.mp ev
    show wpAny _ _ (forIn [Expr.Compare (l.dec W.nm W.sc) [.Eq] [r.dec W.nm W.sc] p] true _) _ _ _
    rw [List.forIn_cons]
    refine wpAny_bind ?_
    rw [if_pos rfl,isTrue_Compare1,show ∀ t,markedBehindIn CmpOp.Eq (r.dec W.nm W.sc) t=t from fun t=>markedBehindIn_of_false (noMarks (o:=Cm.eq))]
    refine wpAny_bind (wpAny_bind (wpAny_mono (pur_ok B Wo ce loc nsm hfr hl ea I) (fun V s₄ hV=>?_) fun _ _ e=>e))
    obtain⟨ga,kv⟩:=hV
    have I4:InC W β δ st x C y Y s₄.heap:=by obtain⟨h,k,rfl,e⟩:=kv;exact I.keep e
    refine wpAny_bind (wpAny_holding (wpAny_mono (pur_ok B Wo ce loc nsm hfr hr eb I4) (fun V s₅ hV=>?_) fun _ _ e=>e))
    obtain⟨gb,ku⟩:=hV
    refine wpAny_bind (wpAny_standAt ?_)
    refine wpAny_bind (wpAny_operate' ?_)
    refine ((eqP_eq ez).rc B ga gb).1 _ _ _ _ (wpAny_holding (wpAny_truthy_bool (wpAny_pure ?_)))
    exact wpAny_pure ⟨rfl,keeps_trans kv ku⟩
   | _=>cases h
noncomputable def clOf (W:Wd) (fx:Fx) (fr:List Nat) (cs:List (Str×Addr)):List (Str×Addr):=fr.foldl (fun cs i=>(W.nm i,(fx.env.cells.lookup (W.nm i)).getD 0) :: cs) cs
theorem clos_go {f:Str×NameKind→List (Str×Addr)→Sem (ForInStep (List (Str×Addr)))}{fr:List Nat}(hf:∀ i∈fr,∀ cs,f (W.nm i,.free) cs=pure (.yield ((W.nm i,(fx.env.cells.lookup (W.nm i)).getD 0) :: cs))):∀ cs,forIn (fr.map fun i=>(W.nm i,NameKind.free)) cs f=pure (clOf W fx fr cs):=by
 induction fr with
 | nil=>exact fun cs=>List.forIn_nil
 | cons a r ih=>
  intro cs
  rw [List.map_cons,List.forIn_cons,hf a (.head _)]
  exact ih (fun i hi=>hf i (.tail _ hi)) _
theorem clos_all {f:Str×NameKind→List (Str×Addr)→Sem (ForInStep (List (Str×Addr)))}{fr:List Nat}{a b:Str}(h0:∀ n cs,f (n,.local) cs=pure (.yield cs))(hf:∀ i∈fr,∀ cs,f (W.nm i,.free) cs=pure (.yield ((W.nm i,(fx.env.cells.lookup (W.nm i)).getD 0) :: cs))) :
  forIn ((a,NameKind.local) :: (b,NameKind.local) :: fr.map fun i=>(W.nm i,NameKind.free)) [] f=pure (clOf W fx fr []):=by
 rw [List.forIn_cons,h0]
 show forIn ((b,NameKind.local) :: fr.map fun i=>(W.nm i,NameKind.free)) [] f=_
 rw [List.forIn_cons,h0]
 exact clos_go hf _
theorem clos_ok (ok:FxOk W fx){x:Nat}{fr:List Nat}(hfr:∀ i∈fr,fx.kd.lookup i=some .cell):closureFor (cmpScope W.nm W.sc x fr) fx.env=pure (clOf W fx fr []):=by
 unfold closureFor cmpScope
 dsimp only
 rw [clos_all (fun n cs=>rfl) (fun i hi cs=>?_)]
 ·rfl
 ·obtain⟨a,ha⟩:=ok.cells i (hfr i hi)
  show (cellOf fx.env (W.nm i) >>= _)=_
  unfold cellOf
  rw [ha]
  rfl
theorem clOf_look (B:Base W){i:Nat}:∀ {fr:List Nat}{cs:List (Str×Addr)},(clOf W fx fr cs).lookup (W.nm i)=if i∈fr then some ((fx.env.cells.lookup (W.nm i)).getD 0) else cs.lookup (W.nm i):=by
 intro fr
 induction fr with
 | nil=>intro cs;rfl
 | cons a r ih=>
  intro cs
  show (clOf W fx r _).lookup _=_
  rw [ih,List.lookup_cons]
  by_cases q:i=a
  ·subst q
   rw [beq_self_eq_true]
   by_cases w:i∈r
   ·rw [if_pos w,if_pos (List.mem_cons_of_mem _ w)]
   ·rw [if_neg w,if_pos (List.mem_cons_self ..)]
  ·rw [beq_eq_false_iff_ne.mpr fun e=>q (B.inj _ _ e)]
   by_cases w:i∈r
   ·rw [if_pos w,if_pos (List.mem_cons_of_mem _ w)]
   ·rw [if_neg w,if_neg fun e=>(List.mem_cons.mp e).elim q w]
theorem fr_look (B:Base W){k:NameKind}{i:Nat}:∀ {fr:List Nat},i∈fr→(fr.map fun j=>(W.nm j,k)).lookup (W.nm i)=some k:=by
 intro fr
 induction fr with
 | nil=>intro h;cases h
 | cons a r ih=>
  intro h
  rw [List.map_cons,List.lookup_cons]
  by_cases q:i=a
  ·rw [q,beq_self_eq_true]
  ·rw [beq_eq_false_iff_ne.mpr fun e=>q (B.inj _ _ e)]
   exact ih ((List.mem_cons.mp h).resolve_left q)
theorem cenv_ok (B:Base W)(ok:FxOk W fx){x:Nat}{fr:List Nat}{C:Addr}(hfr:∀ i∈fr,fx.kd.lookup i=some .cell)(hx:x ∉ fr):CEnv W fx x fr C (compEnvC (cmpScope W.nm W.sc x fr) (clOf W fx fr []) C fx.env) where
 kind:=rfl
 locals:=rfl
 own:=by
  refine lookup_relabel_local (names:=(cmpScope W.nm W.sc x fr).names) ?_
  unfold cmpScope
  dsimp only
  rw [List.lookup_cons,beq_eq_false_iff_ne.mpr (B.dot x),List.lookup_cons,beq_self_eq_true]
 cel i hi:=by
  obtain⟨a,ha⟩:=ok.cells i (hfr i hi)
  refine⟨?_,?_⟩
  ·show List.lookup (W.nm i) (relabel (cmpScope W.nm W.sc x fr) fx.env).names=_
   have e:(relabel (cmpScope W.nm W.sc x fr) fx.env).names=(⟨#[46,48]⟩,.local) :: (W.nm x,.local) :: fr.map fun j=>(W.nm j,.cell):=by
    show (⟨#[46,48]⟩,NameKind.local) :: (W.nm x,NameKind.local) :: (fr.map fun i=>(W.nm i,NameKind.free)).map _=_
    rw [List.map_map]
    refine congrArg _ (congrArg _ (List.map_congr_left fun j hj=>?_))
    have k1:fx.env.kindOf (W.nm j)=some .cell:=(kindOf_nm B ok j).trans (hfr j hj)
    show (if (NameKind.free == NameKind.free&&fx.env.scope.kind == .function&&fx.env.kindOf (W.nm j) == some .cell)=true then (W.nm j,NameKind.cell) else (W.nm j,NameKind.free))=_
    rw [k1,ok.kind];rfl
   rw [e,List.lookup_cons,beq_eq_false_iff_ne.mpr (B.dot i),List.lookup_cons,beq_eq_false_iff_ne.mpr fun e=>hx (by rw [← B.inj _ _ e];exact hi)]
   exact fr_look B hi
  ·show (clOf W fx fr []).lookup (W.nm i)=_
   rw [clOf_look B,if_pos hi,ha];rfl
theorem selP_keys {x:Nat}{elt:E}{ifs:Es}{L:List (Nat×AV)}{h:Nat→Option AO}{n:Nat}{F:Value→Value→Prop}(hF:∀ V Z,F V Z→∀ k t z,V=.int k t→evalP L h x (.int k) elt=some z→VR W β n z Z):∀ {ks:List Int}{vs Zs:List Value}{zs:List AV},IntsAre vs ks→selP L h x elt ifs (ks.map .int)=some zs→
  Paired F (vs.filter fun V=>match V with | .int k _=>testP L h x (.int k) ifs == some true | _=>false) Zs→VRs W β n zs Zs
 | [],vs,Zs,zs,I,e,P=>by
  cases I;cases e
  cases P;exact .nil
 | k :: ks,vs,Zs,zs,I,e,P=>by
  obtain⟨b,e1,e⟩:=Option.bind_eq_some_iff.mp (show (testP L h x (.int k) ifs).bind (fun b=>if b then (evalP L h x (.int k) elt).bind fun z=>(selP L h x elt ifs (ks.map .int)).map (z :: ·) else selP L h x elt ifs (ks.map .int))=some zs from e)
  cases I with
  | cons _ t I=>
   cases b with
   | false=>
    rw [List.filter_cons_of_neg (by show ¬ (testP L h x (.int k) ifs == some true)=true;rw [e1];decide)] at P
    exact selP_keys hF I e P
   | true=>
    rw [List.filter_cons_of_pos (by show (testP L h x (.int k) ifs == some true)=true;rw [e1];rfl)] at P
    obtain⟨z,e2,e⟩:=Option.bind_eq_some_iff.mp (show (evalP L h x (.int k) elt).bind (fun z=>(selP L h x elt ifs (ks.map .int)).map (z :: ·))=some zs from e)
    obtain⟨zs',e3,rfl⟩:=Option.map_eq_some_iff.mp e
    cases P with
    | cons f P=>exact .cons (hF _ _ f k t z rfl e2) (selP_keys hF I e3 P)
theorem selP_at {x:Nat}{elt:E}{ifs:Es}{L:List (Nat×AV)}{h:Nat→Option AO}:∀ {ys zs:List AV},selP L h x elt ifs ys=some zs→∀ y∈ys,∃ b,testP L h x y ifs=some b∧(b=true→∃ z,evalP L h x y elt=some z)
 | [],_,_,y,m=>nomatch m
 | w :: r,zs,e,y,m=>by
  obtain⟨b,e1,e⟩:=Option.bind_eq_some_iff.mp (show (testP L h x w ifs).bind (fun b=>if b then (evalP L h x w elt).bind fun z=>(selP L h x elt ifs r).map (z :: ·) else selP L h x elt ifs r)=some zs from e)
  cases b with
  | false=>
   rcases List.mem_cons.mp m with rfl | m
   ·exact⟨_,e1,nofun⟩
   ·exact selP_at (show selP L h x elt ifs r=some zs from e) y m
  | true=>
   obtain⟨z,e2,e⟩:=Option.bind_eq_some_iff.mp (show (evalP L h x w elt).bind (fun z=>(selP L h x elt ifs r).map (z :: ·))=some zs from e)
   obtain⟨zs',e3,rfl⟩:=Option.map_eq_some_iff.mp e
   rcases List.mem_cons.mp m with rfl | m
   ·exact⟨_,e1,fun _=>⟨z,e2⟩⟩
   ·exact selP_at e3 y m
theorem compR_eq {x:Nat}{elt:E}{ifs:Es}{v:AV}(nb:compR x elt ifs v st≠.bad):∃ l es zs,v=.loc l∧st.heap l=some (.dict es)∧st.hd=0∧selP st.loc st.heap x elt ifs (es.map (·.1))=some zs∧zs.length≤1000∧compR x elt ifs v st=Mine.alloc (.list zs) st:=by
 cases v with
 | loc l=>
  have ev:compR x elt ifs (.loc l) st=match st.heap l with | some o=>(if st.hd=0 then (match (keysO o).bind (selP st.loc st.heap x elt ifs) with | some zs=>if zs.length≤1000 then Mine.alloc (.list zs) st else .bad | none=>.bad) else .bad) | none=>.bad:=rfl
  rw [ev] at nb ⊢
  cases ho:st.heap l with
  | none=>rw [ho] at nb;exact (nb rfl).elim
  | some o=>
   rw [ho] at nb
   dsimp only at nb ⊢
   by_cases h0:st.hd=0
   ·rw [if_pos h0] at nb ⊢
    cases o with
    | dict es=>
     cases hz:(keysO (.dict es)).bind (selP st.loc st.heap x elt ifs) with
     | none=>rw [hz] at nb;exact (nb rfl).elim
     | some zs=>
      rw [hz] at nb
      dsimp only at nb ⊢
      by_cases hl:zs.length≤1000
      ·exact⟨l,es,zs,rfl,ho,h0,hz,hl,if_pos hl⟩
      ·rw [if_neg hl] at nb;exact (nb rfl).elim
    | _=>exact (nb rfl).elim
   ·rw [if_neg h0] at nb;exact (nb rfl).elim
 | _=>exact (nb rfl).elim
theorem DRs.intKeys {es:List (AV×AV)}{ds:List (Int×Value)}(x:DRs W β n es ds):es.map (·.1)=(ds.map (·.1)).map .int:=by
 induction x with
 | nil=>rfl
 | cons _ _ ih=>rw [List.map_cons,ih];rfl
theorem comp_iter (B:Base W)(Wo:Words W){elt:E}{ifs:Es}{iter:Expr}{x:Nat}{px:Pos}{fr:List Nat}{pos:Pos}(hE:elt.pur x fr=true)(hI:ifs.purs x fr=true)(hfr:∀ i∈fr,fx.kd.lookup i=some .cell)(hx:x ∉ fr){v:AV}{V:Value}(hv:VR W β st.next v V)(nb:compR x elt ifs v st≠.bad)(inv:Inv W fx β δ st s.heap){Er:Value→Shared→Prop} :
  wpAny (model W.prog W.w) fx.A (pyIter V) (fun it s₂=>wpAny (model W.prog W.w) fx.A (newList []) (fun acc s₃=>wpAny (model W.prog W.w) fx.A (newFunctionEnv (cmpScope W.nm W.sc x fr) fx.env.globals (clOf W fx fr []) [] fx.env.qual none .none (some fx.env)) (fun cenv s₄=>
   codeAny (model W.prog W.w) fx.A (.compStart (.ListComp (elt.dec W.nm W.sc) [⟨.Name (W.nm x) px,iter,ifs.dec W.nm W.sc,0⟩] (cmpScope W.nm W.sc x fr) pos) 0 it acc { cenv with scope:=relabel (cmpScope W.nm W.sc x fr) fx.env }) (compPost (model W.prog W.w) fx.A Er none (After W fx β δ st s (compR x elt ifs v st) (gV W)) acc cenv.locals) s₄) Er s₃) Er s₂) Er s:=by
 obtain⟨l,es,zs,rfl,ho,h0,hz,hlz,er⟩:=compR_eq nb
 obtain⟨hl,rfl⟩:=hv
 rw [er]
 obtain⟨ds,a,dr,dl⟩:=inv.rel.obj l _ ho
 have hh:fx.A.handled=none:=by have z:=inv.hd;rw [h0] at z;exact z
 obtain⟨ep,hat⟩:=a.dictAt
 have ld:es.length=ds.length:=by have:=congrArg List.length dr.intKeys;simpa using this
 rw [dr.intKeys] at hz
 refine wpAny_pyIter_dict (knd:=intKind W.prog W.w) (not_sm Wo inv hl) hat ?_
 generalize hob:({ cls:=.type "dict_keyiterator",data:=.fields #[.ref (β l),.int 0 0,.int ds.length 0,.int ep 0] }:Obj)=ob
 have hI0:(s.heap.push ob).get? s.heap.objs.size=some ob:=Heap.get?_push_size _ (by rw [← hob];rfl)
 have kp:=push_keeps (h:=s.heap) ob
 have bl:∀ l o,st.heap l=some o→β l≠s.heap.objs.size∧δ l≠s.heap.objs.size:=fun l o e=>by
  obtain⟨⟨y,e'⟩,⟨y2,e2⟩⟩:=inv.rel.live l (inv.rel.some_lt l o e)
  exact⟨Nat.ne_of_lt (Heap.lt_size e'),Nat.ne_of_lt (Heap.lt_size e2)⟩
 have Wk:=Walks.dictKeys (prog:=W.prog) (w:=W.w) (knd:=intKind W.prog W.w) hh s.heap.objs.size (β l) (bl l _ ho).1 ds ep
 have key:∀ {C i v} {s₃:Shared} {m₃},(∃ k x',ds[i]?=some (k,x')∧(intKind W.prog W.w).is k v=true)→s₃.heap.Ns C m₃→m₃ (W.nm x)=some v→(∀ b o,b ∉ [s.heap.objs.size]→(s.heap.push ob).get? b=some o→s₃.heap.get? b=some o)→
   ∃ k t,v=.int k t∧k∈ds.map (·.1)∧InC W β δ st x C (.int k) v s₃.heap:=fun {C i v s₃ m₃} hP hns hm hk=>by
  obtain⟨k,x',e1,e2⟩:=hP
  obtain⟨t,rfl⟩:=Value.isInt_shape e2
  refine⟨k,t,rfl,List.mem_map.mpr ⟨_,List.mem_of_getElem? e1,rfl⟩,⟨m₃,hns,hm⟩,⟨t,rfl⟩,fun l' o e=>?_⟩
  exact (inv.rel.obj _ _ e).move (fun o' e'=>hk _ _ (fun q=>(bl _ _ e).1 (List.mem_singleton.mp q)) (kp _ _ e')) (fun o' e'=>hk _ _ (fun q=>(bl _ _ e).2 (List.mem_singleton.mp q)) (kp _ _ e'))
 have loc:∀ j v,get? st.loc j=some v→fx.kd.lookup j=some .cell→∃ l,v=.loc l∧fx.env.cells.lookup (W.nm j)=some (β l):=fun j v e hj=>by
  obtain⟨m,_,a2⟩:=inv.loc
  obtain⟨l,e1,_,e2⟩:=(a2 j v e).cel hj
  exact⟨l,e1,e2⟩
 have nsm:∀ l,l < st.next→(β l == sysModules)=false:=fun l hl=>not_sm Wo inv hl
 have at_:=selP_at hz
 refine comp_block_walkC (s₂:={ s with heap:=s.heap.push ob }) Wk (by rw [sizeLine_eq];lia) (fun V=>match V with | .int k _=>testP st.loc st.heap x (.int k) ifs == some true | _=>false) (fun V Z=>∀ (k:Int) (t:Tok) (z:AV),V=.int k t→evalP st.loc st.heap x (.int k) elt=some z→VR W β st.next z Z)
  (RR:=fun acc C=>compPost (model W.prog W.w) fx.A Er none (After W fx β δ st s (Mine.alloc (.list zs) st) (gV W)) acc C) ?_ rfl ?_ ⟨⟨ob,hI0,hob ▸ rfl,hob ▸ rfl⟩,hat.push _⟩ (fun b hb=>?_) ⟨fun C i V s₃ m₃ E' hC hP hns hm hk _=>?_,fun C i V s₃ m₃ E' hC hP hp hns hm hk _=>?_⟩ fun D C h' tk m' ys vs hD hC hDC hnC hl' hpl hlen hP hF hk=>?_
 ·intro y hy
  rcases List.mem_cons.mp hy with rfl | hy
  ·nofun
  ·rcases List.mem_cons.mp hy with rfl | hy
   ·nofun
   ·obtain⟨i,_,rfl⟩:=List.mem_map.mp hy
    nofun
 ·show List.lookup (W.nm x) ((⟨#[46,48]⟩,NameKind.local) :: (W.nm x,NameKind.local) :: _)=_
  rw [List.lookup_cons,beq_eq_false_iff_ne.mpr (B.dot x),List.lookup_cons,beq_self_eq_true]
 ·rcases List.mem_cons.mp hb with rfl | hb
  ·exact Heap.lt_size hI0
  ·rw [List.mem_singleton.mp hb]
   obtain⟨⟨y,e'⟩,_⟩:=inv.rel.live l hl
   exact Heap.lt_size (kp _ _ e')
 ·obtain⟨k,t,rfl,mk,I⟩:=key hP hns hm hk
  obtain⟨b,e1,_⟩:=at_ (.int k) (List.mem_map.mpr ⟨k,mk,rfl⟩)
  refine wpAny_mono (pur_test B Wo (cenv_ok B inv.ok hfr hx) loc nsm hfr hI e1 I) (fun ok s₄ h=>⟨?_,h.2⟩) fun _ _ e=>e
  rw [h.1]
  show b=(testP st.loc st.heap x (.int k) ifs == some true)
  rw [e1];cases b <;> rfl
 ·obtain⟨k,t,rfl,mk,I⟩:=key hP hns hm hk
  obtain⟨b,e1,e2⟩:=at_ (.int k) (List.mem_map.mpr ⟨k,mk,rfl⟩)
  have hp:(testP st.loc st.heap x (.int k) ifs == some true)=true:=hp
  rw [e1] at hp
  obtain⟨z,ez⟩:=e2 (by cases b <;> first | rfl | cases hp)
  refine wpAny_mono (pur_ok B Wo (cenv_ok B inv.ok hfr hx) loc nsm hfr (Pur.of elt hE) ez I) (fun Z s₄ hZ=>⟨fun k' t' z' e1 e2=>?_,hZ.2⟩) fun _ _ e=>e
  cases e1
  rw [ez] at e2
  cases e2
  exact hZ.1
 ·refine⟨m',hnC,fun h'' hs''=>?_⟩
  have keep:∀ b o,s.heap.get? b=some o→h''.get? b=some o:=fun b o e=>by
   have e2:=kp _ _ e
   refine hs''.extBut b o (fun q=>?_) (hk b o (fun q=>?_) e2)
   ·rw [q,hC] at e2;cases e2
   ·have:=Heap.lt_size e;rw [List.mem_singleton.mp q] at this;exact absurd this (Nat.lt_irrefl _)
  have hD0:s.heap.get? D=none:=by
   cases q:s.heap.get? D with
   | none=>rfl
   | some o=>have:=kp _ _ q;rw [hD] at this;cases this
  obtain⟨ep',hpl⟩:=hpl
  have hgD:h''.get? D=some _:=hs''.extBut D _ hDC hpl
  have hI2:IntsAre vs (ds.map (·.1)):=ints_of (by rw [hlen,List.length_map]) fun j v e=>by
   obtain⟨k,x',e1,e2⟩:=hP j v e
   obtain⟨t,rfl⟩:=Value.isInt_shape e2
   exact⟨k,t,by rw [List.getElem?_map,e1];rfl,rfl⟩
  have VZ:VRs W β st.next zs ys.toList:=selP_keys (fun V Z f=>f) hI2 hz hF
  exact .mk (inv.alloc (a:=D) (d:=D) keep hD0 hD0 ⟨_,hgD⟩ ⟨_,hgD⟩ ⟨ys.toList,ep',by rw [ext_eq,Array.toArray_toList];exact hgD,VZ.up,by lia⟩) ⟨Nat.lt_succ_self _,by rw [ext_eq]⟩
end
end Mine
end
section
open PySem PySem.W PyProof.Rows PySem.Calls PySem.SeqAt
namespace Mine
section
variable {W:Wd}{fx:Fx}{β δ β' δ':Nat→Addr}{st st':St}{s:Shared}{h':Heap}{n:Nat}{C:Nat→List AV→St→R AV}{A:Around}
theorem attrBase (B:Base W){e:E}{a:PySem.Str}{env:Env}{t:Sem Value}:attributeBase (e.dec W.nm W.sc) a env t=t:=by
 cases e with
 | call f as ks p=>
  cases f with
  | lv i q=>
   cases as with
   | nil=>cases ks with
    | nil=>show (if W.nm i != "super" || _ || _ || _ then t else _)=t;rw [B.sup i];rfl
    | cons _ _ _ _=>rfl
   | cons _ _=>rfl
  | gv i q=>
   cases as with
   | nil=>cases ks with
    | nil=>show (if W.nm i != "super" || _ || _ || _ then t else _)=t;rw [B.sup i];rfl
    | cons _ _ _ _=>rfl
   | cons _ _=>rfl
  | cv i q=>
   cases as with
   | nil=>cases ks with
    | nil=>show (if W.nm i != "super" || _ || _ || _ then t else _)=t;rw [B.sup i];rfl
    | cons _ _ _ _=>rfl
   | cons _ _=>rfl
  | _=>rfl
 | _=>rfl
theorem noMarks2 {o o':Cm}{e e':E}:lastMarks [o.dec,o'.dec] [e.dec W.nm W.sc,e'.dec W.nm W.sc]=false:=by
 show behindInMarks o'.dec (e'.dec W.nm W.sc)=false
 exact noMarks
structure Ctx2 (W:Wd) (fx:Fx) (C:Nat→List AV→St→R AV):Prop where
 B:Base W
 Wo:Words W
 Fu:Funs W
 K:Clss W
 CO:CallsOk W fx C
 rm:Roomy fx
theorem Ok.keepGo {α:Type}{t:Sem Value}{r:R α}{good:Good α Value}{e:Expr}{o:Value}(a:Ok W fx t β δ st r good):Ok W fx (t >>= fun q=>letTemporaryGo e o q >>= fun _=>Pure.pure q) β δ st r good:=fun nb s inv=>
 wpAny_bind (wpAny_mono (a nb s inv) (fun _ _ h=>wpAny_bind (wpAny_letTemporaryGo (wpAny_pure h))) fun _ _ h=>h)
theorem Ok.pureBind {τ ρ α:Type}{x:τ}{k:τ→Sem ρ}{r:R α}{good:Good α ρ}(a:Ok W fx (k x) β δ st r good):Ok W fx (Pure.pure x >>= k) β δ st r good:=fun nb s inv=>wpAny_bind (wpAny_pure (a nb s inv))
theorem testOf {t:Sem Value}{r:R AV}{p:Pos}(Z:Ctx2 W fx C)(a:Ok W fx t β δ st r (gV W)):Ok W fx (t >>= fun v=>standAt p >>= fun _=>holding [v] (truthy v)) β δ st (r.bnd fun v s=>truth v s) gB:=
 .bind a fun v st' β' δ' x _ g _ _=>.stand (.hold (truth_ok Z.Wo g))
theorem upto_ok {l:Nat}{xs:List AV}{k:Int}{t:Tok}{base:Expr}(up:Expr)(q q':Pos)(inv:Inv W fx β δ st s.heap)(hl:st.heap l=some (.list xs)∨st.heap l=some (.ro xs))(h0:0≤k∧xs.length≤1000){E:Value→Shared→Prop} :
  wpAny (model W.prog W.w) fx.A (newFields "slice" [.none,.int k t,.none]) (fun i s'=>wpAny (model W.prog W.w) fx.A (standAt q' >>= fun _=>subscriptTail base (.Slice none (some up) none q) (.ref (β l)) i) (After W fx β δ st s (Mine.alloc (.list (xs.take k.toNat)) st) (gV W)) E s') E s:=by
 obtain⟨Vs,a,b,d⟩:∃ Vs,s.heap.IsList (β l) (List.toArray Vs)∧VRs W β st.next xs Vs∧xs.length≤100000:=by
  rcases hl with hl | hl
  ·obtain⟨Vs,ep,a,b,c⟩:=inv.rel.obj l _ hl
   exact⟨Vs,IsL.isList a,b,c⟩
  ·obtain⟨Vs,ep,a,b,c⟩:=inv.rel.obj l _ hl
   exact⟨Vs,⟨_,a.2,a.1.1,_,a.1.2⟩,b,c⟩
 have hb:=b.length
 unfold newFields
 refine wpAny_newObj_type (wpAny_bind (wpAny_standAt ?_)) (by size_fits)
 have k1:=push_keeps (h:=s.heap) ({ cls:=.type "slice",data:=.fields [.none,.int k t,.none].toArray }:Obj)
 have inv1:=inv.grow k1
 have hL:({ s with heap:=s.heap.push ({ cls:=.type "slice",data:=.fields [.none,.int k t,.none].toArray }:Obj) }:Shared).heap.IsList (β l) Vs.toArray:=let ⟨o,a,r⟩:=a;⟨o,k1 _ _ a,r⟩
 refine tail_any (ops:=[.ref s.heap.objs.size,.ref (β l)]) hL.typeIs slot_list_getitem.lookup (wpAny_getItem_list_slice (lo:=none) (hi:=some k) (st:=none) hL (Heap.IsSliceOf.new ..) .none (.int k t) .none (by simp) ?_ (by rw [sizeLine_eq];simp;lia)) rfl
 refine xo1_1 (Int.eq_ofNat_of_zero_le h0.1) fun n e1_=>?_;obtain rfl:=e1_
 rw [slicePick_upto']
 obtain⟨v,st',β',δ',e1,e2,e3,e4,e5⟩:=inv1.newList (s:={ s with heap:=s.heap.push ({ cls:=.type "slice",data:=.fields [.none,.int (n:Int) t,.none].toArray }:Obj) }) (b.take n) (by simp;lia) (k:=s.toks)
 exact⟨v,st',β',δ',e1,e2,e3,(Go.grow k1).trans e4,by rw [e5]⟩
theorem not_ok {t:Sem Value}{r:R AV}{p:Pos}(Z:Ctx2 W fx C)(a:Ok W fx t β δ st r (gV W)):Ok W fx (t >>= fun v=>standAt p >>= fun _=>holding [v] (unaryOp .Not v)) β δ st (r.bnd fun a s=>(truth a s).bnd fun b s=>.ok (.bool (!b)) s) (gV W):=
 .bind a fun v st' β' δ' x e g _ _=>.stand (.hold (show Ok W fx (holding [x] (truthy x >>= fun b=>Pure.pure (Value.bool (!b)))) _ _ _ _ _ from .hold (Ok.bnd1 (good':=gV W) (k':=fun b=>Value.bool (!b)) (truth_ok Z.Wo g) fun b st' β' δ' x e g=>⟨.bool (!b),rfl,by cases g;rfl⟩)))
theorem bnd_bool (r:R Bool):((r.bnd fun x s=>(.ok (.bool x) s:R AV)).bnd fun v s=>truth v s)=r:=by cases r <;> rfl
theorem R.bnd_bnd {α υ ρ:Type}(r:R α)(f:α→St→R υ)(g:υ→St→R ρ):(r.bnd f).bnd g=r.bnd fun v s=>(f v s).bnd g:=by cases r <;> rfl
theorem Ok.assoc {α υ ρ τ:Type}{t:Sem τ}{r:R α}{f:α→St→R υ}{g:υ→St→R ρ}{good:Good ρ τ}(h:Ok W fx t β δ st (r.bnd fun v s=>(f v s).bnd g) good):Ok W fx t β δ st ((r.bnd f).bnd g) good:=by rw [R.bnd_bnd];exact h
theorem Ok.ite {α τ:Type}{t t':Sem τ}{r r':R α}{b:Bool}{good:Good α τ}(h:b=true→Ok W fx t β δ st r good)(h':b=false→Ok W fx t' β δ st r' good):Ok W fx (if b=true then t else t') β δ st (if b=true then r else r') good:=by
 cases b
 ·exact h' rfl
 ·exact h rfl
theorem bool_val {t:Sem Value}{r:R Bool}(a:Ok W fx t β δ st r gBv):Ok W fx t β δ st (r.bnd fun x s=>.ok (.bool x) s) (gV W):=fun nb s inv=>
 wpAny_mono (a (fun q=>nb (by rw [q];rfl)) s inv) (fun _ _ h=>After.then h fun v st' β' δ' e g=>⟨_,rfl,g⟩) fun _ _ h=>h.then
theorem bool_test {t:Sem Value}{r:R Bool}{vs:Value→List Value}(a:Ok W fx t β δ st r gBv):Ok W fx (t >>= fun c=>holding (vs c) (truthy c)) β δ st r gB:=by
 intro nb s inv
 refine wpAny_bind (wpAny_mono (a nb s inv) (fun x s' h=>wpAny_holding ?_) fun _ _ h=>h)
 obtain⟨v,st',β',δ',e1,e2,e3⟩:=h
 subst e2
 exact wpAny_truthy_bool ⟨v,st',β',δ',e1,rfl,e3⟩
theorem canCall_any {n n':Nat}{v:AV}{V:Value}(hc:canCall W.g v=true)(g:VR W β n v V):VR W β' n' v V:=by
 cases v <;> first | exact g | exact nomatch hc
theorem canCall_keep (Z:Ctx2 W fx C){n:Nat}{v:AV}{V:Value}(hc:canCall W.g v=true)(g:VR W β n v V):∀ M h,W.K.In h→∃ k,(k=Keeper.frame∨k=Keeper.machine∨k=Keeper.boundFrame)∧Looks M h (keeperOf V) k:=fun M h X=>by
 unfold canCall at hc
 cases v with
 | gl k=>
   cases g
   dsimp only at hc
   cases q:W.g.gk k with
   | fn f=>rw [Z.Fu.gv _ _ q];exact keeps_K (Z.Fu.keep _ _ q) h X
   | cls=>rw [(Z.K k (.inr q)).gv];exact keeps_K (Z.Fu.keepC _ q) h X
   | bi b=>rw [Z.Wo.bi _ _ q];cases b <;> exact⟨.machine,.inr (.inl rfl),.now⟩
   | other=>rw [q] at hc;exact ftE hc
 | _=>exact ftE hc
theorem cmp2_rest {o':Cm}{R':Sem Value}{r2:St→R AV}{p:Pos}(Z:Ctx2 W fx C){a b:AV}{V U:Value}{o:Cm}(ga:VR W β st.next a V)(gb:VR W β st.next b U)
  (hr:∀ β δ st,Ok W fx R' β δ st (r2 st) (gV W)):Ok W fx (standAt p >>= fun _=>holding [V,U] (compareOp o.dec V U) >>= fun c=>PySem.release [V,U] [c] >>= fun _=>holding [c,U] (truthy c) >>= fun t=>if t=true then compareChain p U [o'.dec] [R'] else Pure.pure c) β δ st
   ((cmpv W.g C o a b st).bnd fun x s=>if x then (r2 s).bnd fun c s=>(cmpv W.g C o' b c s).bnd fun x s=>.ok (.bool x) s else .ok (.bool false) s) (gV W):=by
 refine .stand (.bind (.hold (cmpv_ok Z.B Z.Wo Z.K Z.CO Z.rm ga gb)) fun x st₁ β₁ δ₁ c _ g1 n1 s1=>.release ?_)
 cases g1
 refine .step x (fun s E Q _ h=>wpAny_holding (wpAny_truthy_bool h)) (.ite (fun _=>?_) fun e=>.pure (e ▸ rfl))
 refine .bind (k:=fun rv=>standAt p >>= fun _=>operate [U,rv] (compareOp o'.dec U rv)) (.hold (hr β₁ δ₁ st₁)) fun c st₂ β₂ δ₂ D _ g2 n2 s2=>.stand (.operate ?_)
 exact bool_val (cmpv_ok Z.B Z.Wo Z.K Z.CO Z.rm (gb.mono (Nat.le_trans n1 n2) fun l hl=>((s2 l (Nat.lt_of_lt_of_le hl n1)).1.trans (s1 l hl).1)) g2)
theorem cmp2_test {o':Cm}{R':Sem Value}{r2:St→R AV}{p:Pos}(Z:Ctx2 W fx C){a b:AV}{V U:Value}{o:Cm}(ga:VR W β st.next a V)(gb:VR W β st.next b U)
  (hr:∀ β δ st,Ok W fx R' β δ st (r2 st) (gV W)):Ok W fx (standAt p >>= fun _=>holding [V,U] (compareOp o.dec V U) >>= fun c=>PySem.release [V,U] [c] >>= fun _=>holding [c,U] (truthy c) >>= fun t=>if t=true then testChain p U [o'.dec] [R'] else Pure.pure false) β δ st
   ((cmpv W.g C o a b st).bnd fun x s=>(if x then (r2 s).bnd fun c s=>(cmpv W.g C o' b c s).bnd fun x s=>.ok (.bool x) s else (.ok (.bool false) s:R AV)).bnd fun v s=>truth v s) gB:=by
 refine .stand (.bind (.hold (cmpv_ok Z.B Z.Wo Z.K Z.CO Z.rm ga gb)) fun x st₁ β₁ δ₁ c _ g1 n1 s1=>.release ?_)
 cases g1
 refine .step x (fun s E Q _ h=>wpAny_holding (wpAny_truthy_bool h)) ?_
 cases x with
 | true=>
  refine .assoc (.bind (k:=fun rv=>standAt p >>= fun _=>operate [U,rv] (compareOp o'.dec U rv) >>= fun c=>holding [c] (truthy c)) (.hold (hr β₁ δ₁ st₁)) fun c st₂ β₂ δ₂ D _ g2 n2 s2=>.stand ?_)
  rw [bnd_bool]
  exact bool_test (vs:=fun c=>[c]) (.operate (cmpv_ok Z.B Z.Wo Z.K Z.CO Z.rm (gb.mono (Nat.le_trans n1 n2) fun l hl=>((s2 l (Nat.lt_of_lt_of_le hl n1)).1.trans (s1 l hl).1)) g2))
 | false=>exact .pure rfl
theorem dict_adopt {st₂:St}{β₂ δ₂:Nat→Addr}{s₂:Shared}{b:AV}{y:Value}{i:Int}{t:Tok}{m:Nat}(inv:Inv W fx β δ st s.heap)(o:Go fx β δ st (s.heap.push emptyDict) β₂ δ₂ st₂ s₂.heap)(i2:Inv W fx β₂ δ₂ st₂ s₂.heap)(g2:VR W β₂ st₂.next b y)
  (qq:s₂={ s with heap:=s₂.heap,toks:=s₂.toks }):∃ kvs,Carries (intKind W.prog W.w) [(.int i t,y)] kvs∧s₂.heap.DictOf (intKind W.prog W.w) s.heap.objs.size []∧
   ∀ h',h'.DictOf (intKind W.prog W.w) s.heap.objs.size (merged [] kvs)→Heap.SameBut s.heap.objs.size s₂.heap h'→After W fx β δ st s (Mine.alloc (.dict [(.int i,b)]) st₂) (gV W) (.ref s.heap.objs.size) { s₂ with heap:=h',toks:=s₂.toks+m }:=by
 have N:=inv.newAt (a:=s.heap.objs.size) size_free
 have d0:(s.heap.push emptyDict).get? s.heap.objs.size=some emptyDict:=Heap.get?_push_size _ rfl
 have d2:s₂.heap.get? s.heap.objs.size=some emptyDict:=o.keep _ _ d0 N.own N.frs
 have no2:¬ own β₂ δ₂ st₂.next s.heap.objs.size:=fun q=>N.own (o.own_old (by rw [d0];nofun) q)
 refine⟨[(i,y)],⟨by simp [intKind,Value.isInt],rfl,trivial⟩,⟨emptyDict,#[],0,d2,⟨rfl,rfl,rfl⟩,rfl,fun e he=>by simp at he,.nil,by simp⟩,fun h' hd hs=>?_⟩
 have sm:∀ c x,c≠s.heap.objs.size→s₂.heap.get? c=some x→h'.get? c=some x:=fun c x hc e=>(hs.2 c hc).trans e
 have dl:∃ x,h'.get? s.heap.objs.size=some x:=let ⟨x,_,_,e,_⟩:=hd;⟨x,e⟩
 have lv:∀ c x,s₂.heap.get? c=some x→∃ x',h'.get? c=some x':=fun c x e=>by
  by_cases q:c=s.heap.objs.size
  ·rw [q];exact dl
  ·exact⟨x,sm c x q e⟩
 have T:Tch fx (Free fx β₂ δ₂ st₂.next) s.heap s₂.heap h':=⟨fun c x e nf hc=>by
   by_cases q:c=s.heap.objs.size
   ·subst q
    rcases hc with hc | hc
    ·exact (hc size_free).elim
    ·exact (hc ⟨no2,N.frs⟩).elim
   ·exact sm c x q e,lv,fun c hc x e=>⟨x.slots,sm c x (fun q=>N.frs (q ▸ hc)) e⟩⟩
 have i3:=i2.touch T inv.stays fun q e he=>inv.hlow (o.hd.symm.trans q) e he
 have N2:NewAt W fx β₂ δ₂ st₂ s.heap.objs.size:=⟨no2,N.frs,N.base,fun e q he=>N.held e (o.hd.symm.trans q) he⟩
 have hd':h'.DictOf (intKind W.prog W.w) s.heap.objs.size [(i,y)]:=hd
 have i4:=i3.adopt (o:=.dict [(.int i,b)]) (fun _ _ e=>e) N2 N2 dl dl ⟨[(i,y)],by rw [ext_eq];exact hd',.cons g2.up .nil,by simp⟩
 have pk:=push_keeps (h:=s.heap) emptyDict
 have np:∀ c,(s.heap.push emptyDict).get? c=none→s.heap.get? c=none:=fun c e=>by
  cases q:s.heap.get? c with
  | none=>rfl
  | some x=>rw [pk c x q] at e;exact snE e
 refine⟨.loc st₂.next,_,_,_,rfl,⟨Nat.lt_succ_self _,by rw [ext_eq]⟩,i4,⟨Nat.le_trans o.next (Nat.le_succ _),fun l hl=>?_,fun l h1 h2=>?_,fun c x e no nf=>?_,fun c hc hL x e=>?_,o.hd,fun c x e=>?_⟩,by rw [qq]⟩
 ·have:=Nat.lt_of_lt_of_le hl o.next
  rw [ext_lt this,ext_lt this];exact o.same l hl
 ·by_cases q:l=st₂.next
  ·rw [q,ext_eq,ext_eq];exact⟨size_free,size_free⟩
  ·have hl:l < st₂.next:=Nat.lt_of_le_of_ne (Nat.le_of_lt_succ h2) q
   rw [ext_lt hl,ext_lt hl]
   have:=o.new l h1 hl
   exact⟨np _ this.1,np _ this.2⟩
 ·exact sm c x (fun q=>by rw [q,size_free] at e;cases e) (o.keep c x (pk c x e) no nf)
 ·refine xo1_1 (o.frames c hc hL x (pk c x e)) fun sl e1=>?_
  exact⟨sl,sm c _ (fun q=>N.frs (q ▸ hc)) e1⟩
 ·refine xo1_1 (o.live c x (pk c x e)) fun x' e1=>?_
  exact lv c x' e1
structure PE (W:Wd) (fx:Fx) (C:Nat→List AV→St→R AV) (e:E):Prop where
 v:∀ β δ st,Ok W fx (eval (e.dec W.nm W.sc) fx.env) β δ st (evalE W.g C e st) (gV W)
 t:∀ β δ st,Ok W fx (isTrue (e.dec W.nm W.sc) fx.env (eval (e.dec W.nm W.sc) fx.env)) β δ st (evalT W.g C e st) gB
structure PEs (W:Wd) (fx:Fx) (C:Nat→List AV→St→R AV) (es:Es):Prop where
 v:∀ β δ st,Ok W fx (spliced (trees W fx.env es)) β δ st (evalEs W.g C es st) (gVs W)
 b:∀ op p β δ st,Ok W fx (boolOp p (if op then .And else .Or) (evalEach (es.dec W.nm W.sc) fx.env)) β δ st (evalB W.g C op es st) (gV W)
 t:∀ op β δ st,Ok W fx (allTrue (if op then .And else .Or) (es.dec W.nm W.sc) fx.env) β δ st ((evalB W.g C op es st).bnd fun v s=>truth v s) gB
abbrev PKs (W:Wd) (fx:Fx) (C:Nat→List AV→St→R AV) (ks:Ks):Prop:=∀ p β δ st,Ok W fx (evalAll ((ktrees W fx.env p ks).map (·.2))) β δ st (evalKs W.g C ks st) (gKs W ks)
abbrev PEw (W:Wd) (fx:Fx) (C:Nat→List AV→St→R AV) (e:E):Prop:=e.wf W.gl fx.kd=true→PE W fx C e
abbrev PEsw (W:Wd) (fx:Fx) (C:Nat→List AV→St→R AV) (es:Es):Prop:=es.wf W.gl fx.kd=true→PEs W fx C es
abbrev PKsw (W:Wd) (fx:Fx) (C:Nat→List AV→St→R AV) (ks:Ks):Prop:=ks.wf W.gl fx.kd=true→PKs W fx C ks
variable (Z:Ctx2 W fx C)
include Z
theorem pe_lv (i:Nat)(p:Pos):PEw W fx C (.lv i p):=fun hw=>⟨fun _ _ _=>lv_ok Z.B hw C,fun _ _ _=>testOf (p:=p) Z (lv_ok Z.B hw C)⟩
theorem pe_gv (i:Nat)(p:Pos):PEw W fx C (.gv i p):=fun hw=>⟨fun _ _ _=>gv_ok Z.B hw C,fun _ _ _=>testOf (p:=p) Z (gv_ok Z.B hw C)⟩
theorem pe_cst (c:KC)(k:Nat)(p:Pos):PEw W fx C (.cst c k p):=fun _=>⟨fun _ _ _=>cst_ok C,fun _ _ _=>testOf (p:=p) Z (cst_ok C)⟩
theorem pe_attr (e:E)(a:Nat)(p:Pos)(ih:PEw W fx C e):PEw W fx C (.attr e a p):=fun hw=>by
 have key:∀ β δ st,Ok W fx (eval ((E.attr e a p).dec W.nm W.sc) fx.env) β δ st (evalE W.g C (.attr e a p) st) (gV W):=fun β δ st=>by
  show Ok W fx (eval (.Attribute (e.dec W.nm W.sc) (W.nm a) p) fx.env) β δ st ((evalE W.g C e st).bnd fun v s=>getA W.g C v a s) (gV W)
  rw [arm_eval_Attribute,attrBase Z.B]
  exact .bind ((ih hw).v β δ st) fun v st' β' δ' x _ g _ _=>.stand (.keepGo (.hold (getA_ok Z.B Z.K Z.CO g)))
 exact⟨key,fun β δ st=>testOf (p:=p) Z (key β δ st)⟩
theorem pe_sub (e i:E)(p:Pos)(ih:PEw W fx C e)(ih2:PEw W fx C i):PEw W fx C (.sub e i p):=fun hw=>by
 refine xo0_2 (bAnd hw) fun h1 h2=>?_
 have key:∀ β δ st,Ok W fx (eval ((E.sub e i p).dec W.nm W.sc) fx.env) β δ st (evalE W.g C (.sub e i p) st) (gV W):=fun β δ st=>by
  show Ok W fx (eval (.Subscript (e.dec W.nm W.sc) (i.dec W.nm W.sc) p) fx.env) β δ st ((evalE W.g C e st).bnd fun v s=>(evalE W.g C i s).bnd fun w s=>getI W.g v w s) (gV W)
  rw [arm_eval_Subscript]
  exact .bind ((ih h1).v β δ st) fun v st' β' δ' x _ g _ _=>.bind (.hold ((ih2 h2).v β' δ' st')) fun w st₂ β₂ δ₂ y _ g2 n2 s2=>.stand (getI_ok Z.Wo (g.mono n2 fun l hl=>(s2 l hl).1) g2 fun b=>notSlice)
 exact⟨key,fun β δ st=>testOf (p:=p) Z (key β δ st)⟩
omit Z in
theorem takeR_inv {v w:AV}{s:St}(nb:takeR v w s≠.bad):∃ l k xs,v=.loc l∧w=.int k∧(s.heap l=some (.list xs)∨s.heap l=some (.ro xs))∧(0≤k∧xs.length≤1000)∧takeR v w s=Mine.alloc (.list (xs.take k.toNat)) s:=by
 cases v with
 | loc l=>
  cases w with
  | int k=>
   revert nb
   show atObj s l _≠_→∃ _ _ _,_∧_∧_∧_∧atObj s l _=_
   unfold atObj
   have key:∀ xs,takeL xs k s≠.bad→(0≤k∧xs.length≤1000)∧takeL xs k s=Mine.alloc (.list (xs.take k.toNat)) s:=fun xs nb=>by
    unfold takeL at nb ⊢
    by_cases h:0≤k∧xs.length≤1000
    ·exact⟨h,if_pos h⟩
    ·rw [if_neg h] at nb;exact (nb rfl).elim
   cases q:s.heap l with
   | none=>exact fun nb=>(nb rfl).elim
   | some o=>
    cases o with
    | list xs=>exact fun nb=>⟨l,k,xs,rfl,rfl,.inl q,key xs nb⟩
    | ro xs=>exact fun nb=>⟨l,k,xs,rfl,rfl,.inr q,key xs nb⟩
    | _=>exact fun nb=>(nb rfl).elim
  | _=>exact (nb rfl).elim
 | _=>exact (nb rfl).elim
theorem pe_upto (e n:E)(p q:Pos)(ih:PEw W fx C e)(ih2:PEw W fx C n):PEw W fx C (.upto e n p q):=fun hw=>by
 refine xo0_2 (bAnd hw) fun h1 h2=>?_
 have key:∀ β δ st,Ok W fx (eval ((E.upto e n p q).dec W.nm W.sc) fx.env) β δ st (evalE W.g C (.upto e n p q) st) (gV W):=fun β δ st=>by
  show Ok W fx (eval (.Subscript (e.dec W.nm W.sc) (.Slice none (some (n.dec W.nm W.sc)) none q) p) fx.env) β δ st ((evalE W.g C e st).bnd fun v s=>(evalE W.g C n s).bnd fun w s=>takeR v w s) (gV W)
  rw [arm_eval_Subscript]
  refine .bind ((ih h1).v β δ st) fun v st' β' δ' x _ g _ _=>?_
  intro nb s inv
  refine wpAny_bind (wpAny_holding ?_)
  rw [arm_eval_Slice]
  refine wpAny_bind (wpAny_pure (wpAny_bind (wpAny_holding ?_)))
  refine ((ih2 h2).v β' δ' st').seq nb inv fun w st₂ β₂ δ₂ y s₂ e2 g2 i2 o2 q2=>?_
  rw [e2,R.bnd_ok] at nb
  refine wpAny_bind (wpAny_holding (wpAny_pure ?_))
  rw [e2,R.bnd_ok]
  have g1:=g.mono o2.next fun l hl=>(o2.same l hl).1
  refine xo3_5 (takeR_inv nb) fun l k xs e3_ e4_ qq h0 ee=>?_;obtain rfl:=e3_;obtain rfl:=e4_
  rw [ee]
  refine xo0_2 g1 fun hl e1_=>?_;clear g1;obtain rfl:=e1_
  refine xo1_1 g2 fun t e1_=>?_;clear g2;obtain rfl:=e1_
  exact wpAny_mono (upto_ok (base:=e.dec W.nm W.sc) (n.dec W.nm W.sc) q p i2 qq h0 (E:=Raised W fx β' δ' st' s (Mine.alloc (.list (xs.take k.toNat)) st₂))) (fun i s' h=>wpAny_mono h (fun V s'' hv=>After.trans o2 q2 hv) fun _ _ h=>h) fun _ _ h=>h
 exact⟨key,fun β δ st=>testOf (p:=p) Z (key β δ st)⟩
theorem pe_bin (o:Op)(l r:E)(p:Pos)(ih:PEw W fx C l)(ih2:PEw W fx C r):PEw W fx C (.bin o l r p):=fun hw=>by
 refine xo0_2 (bAnd hw) fun h1 h2=>?_
 have key:∀ β δ st,Ok W fx (eval ((E.bin o l r p).dec W.nm W.sc) fx.env) β δ st (evalE W.g C (.bin o l r p) st) (gV W):=fun β δ st=>by
  show Ok W fx (eval (.BinOp (l.dec W.nm W.sc) o.dec (r.dec W.nm W.sc) p) fx.env) β δ st ((evalE W.g C l st).bnd fun a s=>(evalE W.g C r s).bnd fun b s=>bino W.g o a b s) (gV W)
  rw [arm_eval_BinOp]
  exact .bind ((ih h1).v β δ st) fun v st' β' δ' x _ g _ _=>.bind (.hold ((ih2 h2).v β' δ' st')) fun w st₂ β₂ δ₂ y _ g2 n2 s2=>.stand (.operate (bino_ok Z.Wo (g.mono n2 fun l hl=>(s2 l hl).1) g2))
 exact⟨key,fun β δ st=>testOf (p:=p) Z (key β δ st)⟩
theorem pe_not (e:E)(p:Pos)(ih:PEw W fx C e):PEw W fx C (.not e p):=fun hw=>by
 have ev:∀ st,evalE W.g C (.not e p) st=(evalE W.g C e st).bnd fun a s=>(truth a s).bnd fun b s=>.ok (.bool (!b)) s:=fun _=>rfl
 refine⟨fun β δ st=>?_,fun β δ st=>?_⟩
 ·show Ok W fx (eval (.UnaryOp .Not (e.dec W.nm W.sc) p) fx.env) β δ st _ (gV W)
  rw [arm_eval_UnaryOp]
  exact not_ok Z ((ih hw).v β δ st)
 ·have:=Ok.bnd1 (good':=gB) (k':=fun b=>!b) (k:=fun b s=>(.ok (!b) s:R Bool)) ((ih hw).t β δ st) fun b st' β' δ' x e g=>⟨!b,rfl,by cases g;rfl⟩
  have e1:evalT W.g C (.not e p) st=(evalT W.g C e st).bnd fun b s=>(.ok (!b) s:R Bool):=by
   unfold evalT
   rw [ev,R.bnd_bnd,R.bnd_bnd]
   refine congrArg _ (funext fun v=>funext fun s=>?_)
   cases truth v s <;> rfl
  rw [e1]
  exact this
omit Z in
theorem pe_band (es:Es)(p:Pos)(ih:PEsw W fx C es):PEw W fx C (.band es p):=fun hw=>by
 refine⟨fun β δ st=>?_,fun β δ st=>(ih hw).t true β δ st⟩
 show Ok W fx (eval (.BoolOp .And (es.dec W.nm W.sc) p) fx.env) β δ st (evalB W.g C true es st) (gV W)
 rw [arm_eval_BoolOp]
 exact (ih hw).b true p β δ st
omit Z in
theorem pe_bor (es:Es)(p:Pos)(ih:PEsw W fx C es):PEw W fx C (.bor es p):=fun hw=>by
 refine⟨fun β δ st=>?_,fun β δ st=>(ih hw).t false β δ st⟩
 show Ok W fx (eval (.BoolOp .Or (es.dec W.nm W.sc) p) fx.env) β δ st (evalB W.g C false es st) (gV W)
 rw [arm_eval_BoolOp]
 exact (ih hw).b false p β δ st
theorem pe_cmp (l:E)(o:Cm)(r:E)(p:Pos)(ih:PEw W fx C l)(ih2:PEw W fx C r):PEw W fx C (.cmp l o r p):=fun hw=>by
 refine xo0_2 (bAnd hw) fun h1 h2=>?_
 refine⟨fun β δ st=>?_,fun β δ st=>?_⟩
 ·show Ok W fx (eval (.Compare (l.dec W.nm W.sc) [o.dec] [r.dec W.nm W.sc] p) fx.env) β δ st ((evalE W.g C l st).bnd fun a s=>(evalE W.g C r s).bnd fun b s=>(cmpv W.g C o a b s).bnd fun x s=>.ok (.bool x) s) (gV W)
  rw [eval_Compare1,markedBehindIn_of_false noMarks]
  exact .bind ((ih h1).v β δ st) fun v st' β' δ' x _ g _ _=>.bind (.hold ((ih2 h2).v β' δ' st')) fun w st₂ β₂ δ₂ y _ g2 n2 s2=>.stand (.operate (bool_val (cmpv_ok Z.B Z.Wo Z.K Z.CO Z.rm (g.mono n2 fun l hl=>(s2 l hl).1) g2)))
 ·show Ok W fx (isTrue (.Compare (l.dec W.nm W.sc) [o.dec] [r.dec W.nm W.sc] p) fx.env _) β δ st (((evalE W.g C l st).bnd fun a s=>(evalE W.g C r s).bnd fun b s=>(cmpv W.g C o a b s).bnd fun x s=>.ok (.bool x) s).bnd fun v s=>truth v s) gB
  rw [isTrue_Compare1,markedBehindIn_of_false noMarks]
  refine .assoc (.bind ((ih h1).v β δ st) fun v st' β' δ' x _ g _ _=>.assoc (.bind (.hold ((ih2 h2).v β' δ' st')) fun w st₂ β₂ δ₂ y _ g2 n2 s2=>.stand ?_))
  rw [bnd_bool]
  exact bool_test (vs:=fun c=>[c]) (.operate (cmpv_ok Z.B Z.Wo Z.K Z.CO Z.rm (g.mono n2 fun l hl=>(s2 l hl).1) g2))
theorem pe_cmp2 (l:E)(o:Cm)(m:E)(o':Cm)(r:E)(p:Pos)(ih:PEw W fx C l)(ih2:PEw W fx C m)(ih3:PEw W fx C r):PEw W fx C (.cmp2 l o m o' r p):=fun hw=>by
 refine xo0_2 (bAnd hw) fun h12 h3=>?_
 refine xo0_2 (bAnd h12) fun h1 h2=>?_
 refine⟨fun β δ st=>?_,fun β δ st=>?_⟩
 ·show Ok W fx (eval (.Compare (l.dec W.nm W.sc) [o.dec,o'.dec] [m.dec W.nm W.sc,r.dec W.nm W.sc] p) fx.env) β δ st ((evalE W.g C l st).bnd fun a s=>(evalE W.g C m s).bnd fun b s=>(cmpv W.g C o a b s).bnd fun x s=>
   if x then (evalE W.g C r s).bnd fun c s=>(cmpv W.g C o' b c s).bnd fun x s=>.ok (.bool x) s else .ok (.bool false) s) (gV W)
  rw [arm_eval_Compare,markedEach_of_false _ _ _ noMarks2]
  exact .bind ((ih h1).v β δ st) fun v st' β' δ' x _ g _ _=>.bind (.hold ((ih2 h2).v β' δ' st')) fun w st₂ β₂ δ₂ y _ g2 n2 s2=>cmp2_rest Z (g.mono n2 fun l hl=>(s2 l hl).1) g2 fun β δ st=>(ih3 h3).v β δ st
 ·show Ok W fx (isTrue (.Compare (l.dec W.nm W.sc) [o.dec,o'.dec] [m.dec W.nm W.sc,r.dec W.nm W.sc] p) fx.env _) β δ st (((evalE W.g C l st).bnd fun a s=>(evalE W.g C m s).bnd fun b s=>(cmpv W.g C o a b s).bnd fun x s=>
    if x then (evalE W.g C r s).bnd fun c s=>(cmpv W.g C o' b c s).bnd fun x s=>.ok (.bool x) s else .ok (.bool false) s).bnd fun v s=>truth v s) gB
  rw [arm_isTrue_Compare,markedEach_of_false _ _ _ noMarks2]
  refine .assoc (.bind ((ih h1).v β δ st) fun v st' β' δ' x _ g _ _=>.assoc (.bind (.hold ((ih2 h2).v β' δ' st')) fun w st₂ β₂ δ₂ y _ g2 n2 s2=>.assoc ?_))
  exact cmp2_test Z (g.mono n2 fun l hl=>(s2 l hl).1) g2 fun β δ st=>(ih3 h3).v β δ st
omit Z in
theorem pe_ife (t a b:E)(p:Pos)(ih:PEw W fx C t)(ih2:PEw W fx C a)(ih3:PEw W fx C b):PEw W fx C (.ife t a b p):=fun hw=>by
 refine xo0_2 (bAnd hw) fun h12 h3=>?_
 refine xo0_2 (bAnd h12) fun h1 h2=>?_
 refine⟨fun β δ st=>?_,fun β δ st=>?_⟩
 ·show Ok W fx (eval (.IfExp (t.dec W.nm W.sc) (a.dec W.nm W.sc) (b.dec W.nm W.sc) p) fx.env) β δ st ((evalT W.g C t st).bnd fun x s=>if x then evalE W.g C a s else evalE W.g C b s) (gV W)
  rw [arm_eval_IfExp]
  exact .bind ((ih h1).t β δ st) fun v st' β' δ' x _ g _ _=>by cases g;exact .ite (fun _=>(ih2 h2).v β' δ' st') fun _=>(ih3 h3).v β' δ' st'
 ·show Ok W fx (isTrue (.IfExp (t.dec W.nm W.sc) (a.dec W.nm W.sc) (b.dec W.nm W.sc) p) fx.env _) β δ st (((evalT W.g C t st).bnd fun x s=>if x then evalE W.g C a s else evalE W.g C b s).bnd fun v s=>truth v s) gB
  rw [arm_isTrue_IfExp]
  refine .assoc (.bind ((ih h1).t β δ st) fun v st' β' δ' x _ g _ _=>?_)
  cases g
  cases v with
  | true=>exact (ih2 h2).t β' δ' st'
  | false=>exact (ih3 h3).t β' δ' st'
theorem pe_call (f:E)(as:Es)(ks:Ks)(p:Pos)(ih:PEw W fx C f)(ih2:PEsw W fx C as)(ih3:PKsw W fx C ks):PEw W fx C (.call f as ks p):=fun hw=>by
 refine xo0_2 (bAnd hw) fun h1 e1_=>?_;clear e1_
 refine xo0_2 (bAnd h1) fun h1 h4=>?_
 refine xo0_2 (bAnd h1) fun h1 h3=>?_
 refine xo0_2 (bAnd h1) fun h1 h2=>?_
 have tr:eval ((E.call f as ks p).dec W.nm W.sc) fx.env=(eval (f.dec W.nm W.sc) fx.env >>= fun F=>callWith p F [] (trees W fx.env as) (ktrees W fx.env p ks)):=by
  rw [← backToKw_dec,← backTo_trees W fx.env p as,← starEach_dec]
  cases f <;> first | rfl | exact ftE h1
 have key:∀ β δ st,Ok W fx (eval ((E.call f as ks p).dec W.nm W.sc) fx.env) β δ st (evalE W.g C (.call f as ks p) st) (gV W):=fun β δ st=>by
  rw [tr]
  refine .bind (f:=fun v s=>if canCall W.g v then (evalEs W.g C as s).bnd fun xs s=>(evalKs W.g C ks s).bnd fun ys s=>callV W.g C v xs ys s else .bad) ((ih h2).v β δ st) fun v st' β' δ' x _ g _ _=>.toA (.ifp fun hc=>?_)
  exact callWith_ok Z.B (canCall_keep Z hc g) (fun β δ st=>(ih2 h3).v β δ st) (fun β δ st=>ih3 h4 p β δ st) fun β' δ' st' xs Xs ys Ys _ _ gx gy=>callV_ok (n:=st.next) Z.B Z.Wo Z.Fu Z.K Z.CO (canCall_any hc g) gx gy
 exact⟨key,fun β δ st=>testOf (p:=p) Z (key β δ st)⟩
theorem pe_mcall (o:E)(m:Nat)(q:Pos)(as:Es)(ks:Ks)(p:Pos)(ih:PEw W fx C o)(ih2:PEsw W fx C as)(ih3:PKsw W fx C ks):PEw W fx C (.mcall o m q as ks p):=fun hw=>by
 refine xo0_2 (bAnd hw) fun h1 h5=>?_
 refine xo0_2 (bAnd h1) fun h1 h4=>?_
 refine xo0_2 (bAnd h1) fun h1 h3=>?_
 refine xo0_2 (bAnd h1) fun h1 h2=>?_
 have h4:=of_decide_eq_true h4
 have h5:=of_decide_eq_true h5
 have key:∀ β δ st,Ok W fx (eval ((E.mcall o m q as ks p).dec W.nm W.sc) fx.env) β δ st (evalE W.g C (.mcall o m q as ks p) st) (gV W):=fun β δ st=>by
  show Ok W fx (eval (.Call (.Attribute (o.dec W.nm W.sc) (W.nm m) q) (as.dec W.nm W.sc) (ks.dec W.nm W.sc) p) fx.env) β δ st ((evalE W.g C o st).bnd fun v s=>(match methodOf W.g v m s with
   | some mt=>(evalEs W.g C as s).bnd fun xs s=>(evalKs W.g C ks s).bnd fun ys s=>callMt W.g C mt v xs ys s
   | none=>.bad)) (gV W)
  rw [arm_eval_Call,attrBase Z.B,starEach_dec,backTo_trees,backToKw_dec,dec_len,kdec_len]
  refine .bind ((ih h1).v β δ st) fun v st' β' δ' x _ g _ _=>.stand ?_
  split
  ·rename_i mt hm
   have hform:methodCallForm (as.len+ks.len) (trees W fx.env as) (ktrees W fx.env p ks)=true:=by
    unfold methodCallForm
    rw [trees_all,ktrees_all,Bool.true_and,Bool.true_and]
    refine decide_eq_true ?_
    split <;> lia
   unfold methodCall
   rw [hform]
   intro nb s inv
   refine wpAny_bind (wpAny_holding ?_)
   refine getM_ok Z.B Z.Wo Z.K inv g hm fun F hF=>?_
   dsimp only
   have hp:methodCallPos true (o.dec W.nm W.sc) fx.env q p=Pure.pure p:=by
    unfold methodCallPos
    rw [h5]
    simp
   rw [hp]
   refine wpAny_bind (wpAny_pure ?_)
   exact callWith_ok Z.B (mt_keep Z.Fu hm hF) (fun β δ st=>(ih2 h2).v β δ st) (fun β δ st=>ih3 h3 p β δ st) (fun β₁ δ₁ st₁ xs Xs ys Ys n1 s1 gx gy=>callMt_ok Z.B Z.Wo Z.K Z.CO Z.rm (g.mono n1 fun l hl=>(s1 l hl).1) hm gx gy hF) nb s inv
  ·exact .bad
 exact⟨key,fun β δ st=>testOf (p:=p) Z (key β δ st)⟩
theorem pe_lst (es:Es)(p:Pos)(ih:PEsw W fx C es):PEw W fx C (.lst es p):=fun hw=>by
 have key:∀ β δ st,Ok W fx (eval ((E.lst es p).dec W.nm W.sc) fx.env) β δ st (evalE W.g C (.lst es p) st) (gV W):=fun β δ st=>by
  show Ok W fx (eval (.List (es.dec W.nm W.sc) p) fx.env) β δ st ((evalEs W.g C es st).bnd fun xs s=>if xs.length≤1000 then Mine.alloc (.list xs) s else .bad) (gV W)
  rw [arm_eval_List,starEach_dec,backTo_trees]
  refine .stand (.bind ((ih hw).v β δ st) fun v st' β' δ' x _ g _ _=>?_)
  exact .toA (.ifp fun h=>newList_ok g h)
 exact⟨key,fun β δ st=>testOf (p:=p) Z (key β δ st)⟩
theorem pe_tup (es:Es)(k:Nat)(p:Pos)(ih:PEsw W fx C es):PEw W fx C (.tup es k p):=fun hw=>by
 have key:∀ β δ st,Ok W fx (eval ((E.tup es k p).dec W.nm W.sc) fx.env) β δ st (evalE W.g C (.tup es k p) st) (gV W):=fun β δ st=>by
  show Ok W fx (eval (.Tuple (es.dec W.nm W.sc) k p) fx.env) β δ st ((evalEs W.g C es st).bnd fun xs s=>if xs.length≤1000 then Mine.alloc (.tup xs) s else .bad) (gV W)
  rw [arm_eval_Tuple,starEach_dec,backTo_trees]
  refine .stand (.bind ((ih hw).v β δ st) fun v st' β' δ' x _ g _ _=>?_)
  exact .toA (.ifp fun h=>newTup_ok g h)
 exact⟨key,fun β δ st=>testOf (p:=p) Z (key β δ st)⟩
theorem pe_dct1 (k v:E)(p:Pos)(ih:PEw W fx C k)(ih2:PEw W fx C v):PEw W fx C (.dct1 k v p):=fun hw=>by
 refine xo0_2 (bAnd hw) fun h1 h2=>?_
 have key:∀ β δ st,Ok W fx (eval ((E.dct1 k v p).dec W.nm W.sc) fx.env) β δ st (evalE W.g C (.dct1 k v p) st) (gV W):=fun β δ st=>by
  show Ok W fx (eval (.Dict [some (k.dec W.nm W.sc)] [v.dec W.nm W.sc] p) fx.env) β δ st ((evalE W.g C k st).bnd fun a s=>(evalE W.g C v s).bnd fun b s=>asInt a fun i=>Mine.alloc (.dict [(.int i,b)]) s) (gV W)
  intro nb s inv
  have inv0:Inv W fx β δ st ({ s with heap:=s.heap.push emptyDict }:Shared).heap:=inv.grow (push_keeps emptyDict)
  refine wpAny_Dict_walk (knd:=intKind W.prog W.w) rfl rfl (by simp) (by simp) (pairTrees_cons_walk ?_)
  have tr:∀ {α:Type} {r:R α} {x:Value} {s':Shared},Raised W fx β δ st { s with heap:=s.heap.push emptyDict } r x s'→Raised W fx β δ st s r x s':=fun h=>Raised.trans (Go.grow (push_keeps emptyDict)) rfl h
  refine wpAny_mono (((ih h1).v β δ st).seq nb inv0 (Q:=fun a s₁=>wpAny _ fx.A (eval (v.dec W.nm W.sc) fx.env) _ (Raised W fx β δ st { s with heap:=s.heap.push emptyDict } _) s₁) fun a st₁ β₁ δ₁ x s₁ e1 g1 i1 o1 q1=>?_) (fun _ _ h=>wpAny_mono h (fun _ _ h=>pairTrees_nil_walk h) fun _ _ h=>tr h) fun _ _ h=>tr h
  rw [e1,R.bnd_ok] at nb ⊢
  refine wpAny_mono (((ih2 h2).v β₁ δ₁ st₁).seq nb i1 fun b st₂ β₂ δ₂ y s₂ e2 g2 i2 o2 q2=>?_) (fun _ _ h=>h) fun _ _ h=>Raised.trans o1 q1 h
  rw [e2,R.bnd_ok] at nb ⊢
  have o:=o1.trans o2
  have qq:s₂={ s with heap:=s₂.heap,toks:=s₂.toks }:=same_trans (s:=s) (s':=s₁) (by rw [q1]) q2
  cases a with
  | int i=>obtain⟨t,rfl⟩:=g1;exact dict_adopt inv o i2 g2 qq
  | _=>exact (nb rfl).elim
 exact⟨key,fun β δ st=>testOf (p:=p) Z (key β δ st)⟩
omit Z in
theorem pes_nil:PEsw W fx C .nil:=fun _=>⟨fun _ _ _=>.pure .nil,fun _ _ _ _ _=>.bad,fun _ _ _ _=>.bad⟩
omit Z in
theorem truth_same {v:AV}{s s':St}{b:Bool}(h:truth v s=.ok b s'):s'=s:=by
 cases v with
 | none=>cases h;rfl
 | bool _=>cases h;rfl
 | int _=>cases h;rfl
 | loc l=>
  revert h
  show atObj s l _=_→_
  unfold atObj
  cases s.heap l with
  | none=>exact nofun
  | some o=>cases o <;> (intro h;cases h <;> rfl)
 | _=>exact absurd h nofun
set_option backward.match.sparseCases true in
theorem pes_cons (e:E)(r:Es)(ih:PEw W fx C e)(ih2:PEsw W fx C r):PEsw W fx C (.cons e r):=fun hw=>by
 refine xo0_2 (bAnd hw) fun h1 h2=>?_
 refine⟨fun β δ st=>?_,fun op p β δ st=>?_,fun op β δ st=>?_⟩
 ·show Ok W fx (spliced ((false,eval (e.dec W.nm W.sc) fx.env) :: trees W fx.env r)) β δ st ((evalE W.g C e st).bnd fun v s=>(evalEs W.g C r s).bnd fun vs s=>.ok (v :: vs) s) (gVs W)
  rw [spliced]
  refine .bind ((ih h1).v β δ st) fun v st' β' δ' x _ g _ _=>?_
  show Ok W fx (pure [x] >>= fun here=>holding here (spliced (trees W fx.env r)) >>= fun vs=>pure (here++vs)) _ _ _ _ _
  refine .pureBind ?_
  exact .bind (.hold ((ih2 h2).v β' δ' st')) fun vs st₂ β₂ δ₂ ys _ g2 n2 s2=>.pure (.cons (g.mono n2 fun l hl=>(s2 l hl).1) g2)
 ·cases r with
  | nil=>exact (ih h1).v β δ st
  | cons e' r=>
   show Ok W fx (eval (e.dec W.nm W.sc) fx.env >>= fun v=>standAt p >>= fun _=>holding [v] (truthy v) >>= fun t=>(match (if op then BoolOp.And else BoolOp.Or),t with
    | .And,false | .Or,true=>Pure.pure v
    | _,_=>boolOp p (if op then .And else .Or) (evalEach ((Es.cons e' r).dec W.nm W.sc) fx.env))) β δ st ((evalE W.g C e st).bnd fun v s=>(truth v s).bnd fun b s=>if b=op then evalB W.g C op (.cons e' r) s else .ok v s) (gV W)
   refine .bind ((ih h1).v β δ st) fun v st' β' δ' x _ g _ _=>.stand (.bind (.hold (truth_ok Z.Wo g)) fun b st₂ β₂ δ₂ y _ g2 n2 s2=>?_)
   cases g2
   cases op <;> cases b
   ·exact (ih2 h2).b false p β₂ δ₂ st₂
   ·exact .pure (g.mono n2 fun l hl=>(s2 l hl).1)
   ·exact .pure (g.mono n2 fun l hl=>(s2 l hl).1)
   ·exact (ih2 h2).b true p β₂ δ₂ st₂
 ·have e1:((evalB W.g C op (.cons e r) st).bnd fun v s=>truth v s)=(evalT W.g C e st).bnd fun b s=>if b=op then (match r with | .nil=>.ok op s | _=>(evalB W.g C op r s).bnd fun v s=>truth v s) else .ok (!op) s:=by
   cases r with
   | nil=>
    show evalT W.g C e st=(evalT W.g C e st).bnd fun b s=>if b=op then .ok op s else .ok (!op) s
    cases evalT W.g C e st with
    | ok b s=>cases b <;> cases op <;> rfl
    | ex c cl s=>rfl
    | bad=>rfl
   | cons e' r=>
    show (((evalE W.g C e st).bnd fun v s=>(truth v s).bnd fun b s=>if b=op then evalB W.g C op (.cons e' r) s else .ok v s).bnd fun v s=>truth v s)=((evalE W.g C e st).bnd fun v s=>truth v s).bnd _
    rw [R.bnd_bnd,R.bnd_bnd]
    refine congrArg _ (funext fun v=>funext fun s=>?_)
    rw [R.bnd_bnd]
    cases q:truth v s with
    | ok b s'=>
     cases truth_same q
     show (if b=op then _ else _:R AV).bnd _=if b=op then _ else _
     by_cases w:b=op
     ·rw [if_pos w,if_pos w]
     ·rw [if_neg w,if_neg w,R.bnd_ok,q]
      cases b <;> cases op <;> first | rfl | exact (w rfl).elim
    | ex c cl s=>rfl
    | bad=>rfl
  rw [e1]
  show Ok W fx (allTrue (if op then .And else .Or) (e.dec W.nm W.sc :: r.dec W.nm W.sc) fx.env) β δ st _ gB
  rw [arm_allTrue_cons]
  refine .bind ((ih h1).t β δ st) fun v st' β' δ' x _ g _ _=>?_
  cases g
  cases op <;> cases v
  ·cases r with
   | nil=>exact .pure rfl
   | cons e' r=>exact (ih2 h2).t false β' δ' st'
  ·exact .pure rfl
  ·exact .pure rfl
  ·cases r with
   | nil=>exact .pure rfl
   | cons e' r=>exact (ih2 h2).t true β' δ' st'
omit Z in
theorem pks_cons (n:Nat)(e:E)(q:Pos)(r:Ks)(ih:PEw W fx C e)(ih2:PKsw W fx C r):PKsw W fx C (.cons n e q r):=fun hw p β δ st=>by
 refine xo0_2 (bAnd hw) fun h1 h2=>?_
 show Ok W fx (evalAll (((some (W.nm n),do let v ← eval (e.dec W.nm W.sc) fx.env;standAt p;pure v) :: ktrees W fx.env p r).map (·.2))) β δ st ((evalE W.g C e st).bnd fun v s=>(evalKs W.g C r s).bnd fun vs s=>.ok ((n,v) :: vs) s) _
 rw [List.map_cons,evalAll]
 intro nb s inv
 refine wpAny_bind (wpAny_bind ?_)
 refine ((ih h1).v β δ st).seq nb inv fun v st₁ β₁ δ₁ x s₁ e1 g1 i1 o1 q1=>wpAny_bind (wpAny_standAt (wpAny_pure ?_))
 rw [e1,R.bnd_ok] at nb ⊢
 have key:Ok W fx (holding [x] (evalAll ((ktrees W fx.env p r).map (·.2))) >>= fun vs=>Pure.pure (x :: vs)) β₁ δ₁ st₁ ((evalKs W.g C r st₁).bnd fun vs s=>.ok ((n,v) :: vs) s) (gKs W (.cons n e q r)):=
  .bind (.hold (ih2 h2 p β₁ δ₁ st₁)) fun vs st₂ β₂ δ₂ ys _ g2 n2 s2=>.pure ⟨.cons (g1.mono n2 fun l hl=>(s2 l hl).1) g2.1,by show (n :: vs.map (·.1))=n :: r.names;rw [g2.2]⟩
 exact wpAny_mono (key nb s₁ i1) (fun _ _ h=>After.trans o1 q1 h) fun _ _ h=>Raised.trans o1 q1 h
theorem pe_cv (i:Nat)(p:Pos):PEw W fx C (.cv i p):=fun hw=>⟨fun _ _ _=>cv_ok Z.B hw C,fun _ _ _=>testOf (p:=p) Z (cv_ok Z.B hw C)⟩
theorem pe_comp (elt:E)(x:Nat)(xp:Pos)(src:E)(ifs:Es)(fr:List Nat)(p:Pos)(ih:PEw W fx C src):PEw W fx C (.comp elt x xp src ifs fr p):=fun hw=>by
 have hw:(src.wf W.gl fx.kd&&elt.pur x fr&&ifs.purs x fr&&fr.all (fun i=>fx.kd.lookup i == some .cell)&&decide fr.Nodup&&decide (x ∉ fr))=true:=hw
 simp only [Bool.and_eq_true,List.all_eq_true,beq_iff_eq,decide_eq_true_eq] at hw
 obtain⟨⟨⟨⟨⟨h1,h2⟩,h3⟩,h4⟩,_⟩,h6⟩:=hw
 have key:∀ β δ st,Ok W fx (eval ((E.comp elt x xp src ifs fr p).dec W.nm W.sc) fx.env) β δ st (evalE W.g C (.comp elt x xp src ifs fr p) st) (gV W):=fun β δ st nb s inv=>by
  have nb:((evalE W.g C src st).bnd fun v s=>compR x elt ifs v s)≠.bad:=nb
  show wpAny _ _ (eval (.ListComp (elt.dec W.nm W.sc) [⟨.Name (W.nm x) xp,src.dec W.nm W.sc,ifs.dec W.nm W.sc,0⟩] (cmpScope W.nm W.sc x fr) p) fx.env) (After W fx β δ st s ((evalE W.g C src st).bnd fun v s=>compR x elt ifs v s) (gV W)) (Raised W fx β δ st s ((evalE W.g C src st).bnd fun v s=>compR x elt ifs v s)) s
  rw [eval_ListComp]
  refine wpAny_comprehension_free (use:=none) rfl (fun _=>by cases src <;> rfl) (clos_ok inv.ok h4) rfl (fun y hy hl=>?_) ?_
  ·rcases List.mem_cons.mp hy with rfl | hy
   ·rfl
   ·rcases List.mem_cons.mp hy with rfl | hy
    ·show List.lookup (W.nm x) ((⟨#[46,48]⟩,NameKind.local) :: (W.nm x,NameKind.local) :: _)=_
     rw [List.lookup_cons,beq_eq_false_iff_ne.mpr (Z.B.dot x),List.lookup_cons,beq_self_eq_true]
    ·obtain⟨i,_,rfl⟩:=List.mem_map.mp hy
     cases hl
  ·refine wpAny_mono ((ih h1).v β δ st (fun q=>nb (by rw [q];rfl)) s inv) (fun V s' h=>?_) fun _ _ h=>h.then
   obtain⟨v,st',β',δ',e1,g,i1,o1,q1⟩:=h
   rw [e1] at nb ⊢
   have nb:compR x elt ifs v st'≠.bad:=nb
   refine wpAny_mono (comp_iter Z.B Z.Wo h2 h3 h4 h6 g nb i1) (fun it s₂ h=>wpAny_mono h (fun acc s₃ h=>wpAny_mono h (fun cenv s₄ h=>codeAny_mono h fun r s₅ h=>?_) fun _ _ h=>h) fun _ _ h=>h) fun _ _ h=>h
   cases r with
   | ok f=>
    obtain⟨m,a,b⟩:=h
    exact⟨m,a,fun h' hs=>After.trans o1 q1 (b h' hs)⟩
   | error e=>exact h
 exact⟨key,fun β δ st=>testOf (p:=p) Z (key β δ st)⟩
theorem pe_all (e:E):PEw W fx C e:=
 E.rec (motive_1:=PEw W fx C) (motive_2:=PEsw W fx C) (motive_3:=PKsw W fx C) (pe_lv Z) (pe_gv Z) (pe_cst Z) (pe_attr Z) (pe_sub Z) (pe_upto Z) (pe_bin Z) (pe_not Z) pe_band pe_bor (pe_cmp Z) (pe_cmp2 Z) pe_ife (pe_call Z) (pe_mcall Z) (pe_lst Z) (pe_tup Z)
  (pe_dct1 Z) (fun elt x xp src ifs fr p _ ih _=>pe_comp Z elt x xp src ifs fr p ih) (pe_cv Z) pes_nil (pes_cons Z) (fun _ _ _ _ _=>.pure ⟨.nil,rfl⟩) pks_cons e
theorem evalE_ok (e:E)(hw:e.wf W.gl fx.kd=true)(β δ:Nat→Addr)(st:St):Ok W fx (eval (e.dec W.nm W.sc) fx.env) β δ st (evalE W.g C e st) (gV W):=(pe_all Z e hw).v β δ st
theorem evalT_ok (e:E)(hw:e.wf W.gl fx.kd=true)(β δ:Nat→Addr)(st:St):Ok W fx (isTrue (e.dec W.nm W.sc) fx.env (eval (e.dec W.nm W.sc) fx.env)) β δ st (evalT W.g C e st) gB:=(pe_all Z e hw).t β δ st
end
end Mine
end
section
open PySem PySem.W PyProof.Rows PySem.Calls PySem.SeqAt
namespace Mine
theorem entry_unchain:entryFor table "proto.unchain" = some Builtin.«proto.unchain»:=entryFor_of_tree (by kernel_rfl)
section
variable {W:Wd}{fx:Fx}{β δ β' δ':Nat→Addr}{st st':St}{s:Shared}{h':Heap}{n:Nat}{C:Nat→List AV→St→R AV}{A:Around}
theorem raiseNew_held {α:Type}{P:Program}{w:World}{e h:Addr}{oe:Obj}{vs:Array Value}{Q:α→Shared→Prop}{E:Value→Shared→Prop}(hA:A.handled=some (.ref h))(hne:h≠e)(hh:Held s.heap h)(he:s.heap.get? e=some oe)(hd:oe.data=.fields vs)(hz:2 < vs.size)
  (hE:E (.ref e) { s with heap:=s.heap.update e (Obj.mapFields (·.setIfInBounds 2 (.ref h))) }):wpAny (model P w) A (raiseNew (.ref e):Sem α) Q E s:=by
 refine xo2_4 hh fun oh us a1 a2 a3 a4=>?_;clear hh
 unfold raiseNew
 refine wpAny_bind (wpAny_handled ?_)
 rw [hA]
 dsimp only
 rw [if_pos (by simpa using hne)]
 refine wpAny_bind (wpAny_holding (wpAny_runValue (codeAny_builtin entry_unchain ?_)))
 unfold Builtin.«proto.unchain»
 dsimp only
 refine wpAny_bind (wpAny_field a1 a2 a4 ?_)
 rw [if_pos (by simp)]
 refine wpAny_bind (wpAny_pure (wpAny_pure ?_))
 exact wpAny_bind (show wpAny _ A (setField (.ref e) 2 (.ref h)) _ E s from wpAny_setField he hd hz (wpAny_throw hE))
noncomputable def HeldOk (fx:Fx) (hd:Nat) (h:Heap):Prop:=(hd=0∧fx.A.handled=none)∨(hd=1∧∃ e,fx.A.handled=some (.ref e)∧Held h e)
theorem Inv.heldOk (inv:Inv W fx β δ st s.heap)(hd:st.hd≤1):HeldOk fx st.hd s.heap:=by
 have z:=inv.hd
 cases q:st.hd with
 | zero=>rw [q] at z;exact .inl ⟨rfl,z⟩
 | succ k=>
  cases k with
  | zero=>rw [q] at z;obtain⟨e,a,b,_⟩:=z;exact .inr ⟨rfl,e,a,b⟩
  | succ k=>lia
theorem HeldOk.keep {hd:Nat}{h h':Heap}(x:HeldOk fx hd h)(k:∀ e o,fx.A.handled=some (.ref e)→h.get? e=some o→h'.get? e=some o):HeldOk fx hd h':=by
 rcases x with x | ⟨q,e,a,oe,vs,b,c⟩
 ·exact .inl x
 ·exact .inr ⟨q,e,a,oe,vs,k e oe a b,c⟩
theorem raiseNew_any {α:Type}{P:Program}{w:World}{e:Addr}{oe:Obj}{vs:Array Value}{hd:Nat}{Q:α→Shared→Prop}{E:Value→Shared→Prop}(hA:A.handled=fx.A.handled)(hh:HeldOk fx hd s.heap)(hne:fx.A.handled≠some (.ref e))
  (he:s.heap.get? e=some oe) (hdat:oe.data=.fields vs) (hz:2 < vs.size)
  (hE:∀ h'',(∀ b x,b≠e→s.heap.get? b=some x→h''.get? b=some x)→(∃ oe' vs',h''.get? e=some oe'∧oe'.cls=oe.cls∧oe'.data=.fields vs'∧vs'.size=vs.size∧vs'[1]?=vs[1]?∧(hd=0→vs'[2]?=vs[2]?))→E (.ref e) { s with heap:=h'' }) :
  wpAny (model P w) A (raiseNew (.ref e):Sem α) Q E s:=by
 rcases hh with⟨_,q⟩ | ⟨q0,h,q,z⟩
 ·exact wpAny_raiseNew_none (hA.trans q) (hE s.heap (fun _ _ _ e=>e) ⟨oe,vs,he,rfl,hdat,rfl,rfl,fun _=>rfl⟩)
 ·have ne:h≠e:=fun w=>hne (w ▸ q)
  refine raiseNew_held (hA.trans q) ne z he hdat hz (hE _ (fun b x hb ex=>(Heap.get?_update_other _ _ (Ne.symm hb)).trans ex) ⟨_,_,Heap.get?_update_self _ he (notFreed_of_fields (mapFields_data hdat _)),mapFields_cls _ _,mapFields_data hdat _,by simp,?_,fun q=>?_⟩)
  ·rw [Array.getElem?_setIfInBounds_ne (by decide)]
  ·lia
noncomputable def KeepBut (it:Addr) (h h':Heap):Prop:=Heap.ExtBut it h h'∧∃ o,h'.get? it=some o
theorem stop_any {P:Program}{w:World}{hd:Nat}{it:Addr}{h₀:Heap}{Q:Option Value→Shared→Prop}{E:Value→Shared→Prop}{α:Type}{Q':α→Shared→Prop}{A₂:Around}(hA:A.handled=fx.A.handled)(hh:HeldOk fx hd s.heap)(k:KeepBut it h₀ s.heap)
  (hlt:∀ e,fx.A.handled=some (.ref e)→e < s.heap.objs.size)
  (hQ:∀ h',KeepBut it h₀ h'→Q none { s with heap:=h' }) :
  wpAny (model P w) A (newExc (.type "StopIteration") [] >>= fun e=>(raiseNew e:Sem α)) Q' (fun e s'=>wpAny (model P w) A₂ (do if ← isInstance e (.type "StopIteration") then pure none else throw e) Q E s') s:=by
 refine wpAny_bind ?_
 simp only [newExc,newTuple]
 refine wpAny_bind (wpAny_newObj_type ?_ (by size_fits))
 refine wpAny_bind (m:=firstArgMember _ _) (wpAny_of_eq (a:=Value.none) (by first | rfl | (simp only [firstArgMember];rfl)) ?_)
 refine wpAny_newObj_type ?_ (by size_fits)
 refine raiseNew_any (fx:=fx) (hd:=hd) hA (hh.keep fun e o _ he=>Heap.get?_push_of_some _ (Heap.get?_push_of_some _ he)) ?_ (Heap.get?_push_size _ rfl) rfl (by simp;lia) fun h'' k2 hx=>?_
 ·intro q
  have:=hlt _ q
  rw [Heap.size_push] at this
  exact absurd this (Nat.not_lt.mpr (Nat.le_succ _))
 ·refine xo2_4 hx fun oe' vs' e1 e2 e3 _=>?_;clear hx
  refine wpAny_bind (wpAny_isInstance (T := "StopIteration") (b:=true) ⟨oe',e1,e2⟩ isSubtype_stop ?_)
  have key:∀ b x,s.heap.get? b=some x→h''.get? b=some x:=fun b x ex=>by
   refine k2 b x ?_ (Heap.get?_push_of_some _ (Heap.get?_push_of_some _ ex))
   intro q
   have:=Heap.lt_size ex
   rw [q,Heap.size_push] at this
   exact absurd this (Nat.not_lt.mpr (Nat.le_succ _))
  exact wpAny_pure (hQ h'' ⟨fun b x hb ex=>key b x (k.1 b x hb ex),let ⟨o,e⟩:=k.2;⟨o,key it o e⟩⟩)
theorem Inv.hlt (inv:Inv W fx β δ st s.heap)(hd:st.hd≤1){h':Heap}(k:∀ e o,fx.A.handled=some (.ref e)→s.heap.get? e=some o→∃ o',h'.get? e=some o'):∀ e,fx.A.handled=some (.ref e)→e < h'.objs.size:=fun e he=>by
 rcases inv.heldOk hd with⟨_,q⟩ | ⟨_,e',q,oe,vs,b,_⟩
 ·rw [he] at q;cases q
 ·rw [he] at q;cases q
  refine xo1_1 (k e oe he b) fun o' e1=>?_
  exact Heap.lt_size e1
theorem next_list_end {P:Program}{w:World}{it l:Addr}{i:Nat}{items:Array Value}{Q:Option Value→Shared→Prop}{E:Value→Shared→Prop}(inv:Inv W fx β δ st s.heap)(hd:st.hd≤1)(hne:fx.A.handled≠some (.ref it))
  (hit:s.heap.IsListIter it l i) (hl:s.heap.IsList l items) (hx:items[i]?=none) (hQ:∀ h',KeepBut it s.heap h'→Q none { s with heap:=h' }):wpAny (model P w) fx.A (pyNext (.ref it)) Q E s:=by
 refine xo1_3 (id hit) fun o ho hc hdd=>?_
 refine xm_eaaea hl fun ol hol _ nl hdl=>?_;clear hl
 unfold pyNext
 refine wpAny_bind (wpAny_attempt (wpAny_callSpecial?_slot (name:=Str.ofString "__next__") hit.typeIs slot_listiter_next (wpAny_call_entry slot_listiter_next hit.typeIs entry_listiter_next ?_ (args_listiter_next _))))
 show wpAny _ _ (field (.ref it) 0 >>= _) _ _ s
 refine wpAny_bind (wpAny_field ho hdd (x:=.ref l) rfl ?_)
 show wpAny _ _ (if (Value.ref l == Value.none)=true then _ else _) _ _ s
 rw [if_neg (show ¬ ((Value.ref l == Value.none)=true) from Bool.false_ne_true)]
 show wpAny _ _ (field (.ref it) 1 >>= _) _ _ s
 refine wpAny_bind (wpAny_field ho hdd (x:=.int i 0) rfl ?_)
 show wpAny _ _ (seqItems? (.ref l) >>= _) _ _ s
 refine wpAny_bind (wpAny_seqItems hol hdl ?_)
 simp only [Int.toNat_natCast,hx]
 have oth:∀ b x,b≠it→s.heap.get? b=some x→(s.heap.update it (Obj.mapFields (·.setIfInBounds 0 .none))).get? b=some x:=fun b x hb e=>(Heap.get?_update_other _ _ (Ne.symm hb)).trans e
 refine wpAny_bind (wpAny_rule (wpAny_bind (wpAny_setField ho hdd (by simp) ?_)))
 have nh:∀ e,fx.A.handled=some (.ref e)→e≠it:=fun e he q=>hne (q ▸ he)
 exact stop_any (fx:=fx) (hd:=st.hd) (it:=it) (h₀:=s.heap) (s:={ s with heap:=s.heap.update it (Obj.mapFields (·.setIfInBounds 0 .none)) }) (A:=fx.A.in1) rfl ((inv.heldOk hd).keep fun e o he ho=>oth e o (nh e he) ho) ⟨fun b x hb e=>oth b x hb e,_,Heap.get?_update_self _ ho (notFreed_of_fields (mapFields_data hdd _))⟩ (inv.hlt hd (h':=s.heap.update it (Obj.mapFields (·.setIfInBounds 0 .none))) fun e o he ho=>⟨o,oth e o (nh e he) ho⟩) hQ
theorem next_tup_end {P:Program}{w:World}{it l:Addr}{i:Nat}{items:Array Value}{Q:Option Value→Shared→Prop}{E:Value→Shared→Prop}(inv:Inv W fx β δ st s.heap)(hd:st.hd≤1)(hne:fx.A.handled≠some (.ref it))
  (hit:s.heap.IsTupleIter it l i) (hl:s.heap.IsTuple l items) (hx:items[i]?=none) (hQ:∀ h',KeepBut it s.heap h'→Q none { s with heap:=h' }):wpAny (model P w) fx.A (pyNext (.ref it)) Q E s:=by
 refine xo1_3 (id hit) fun o ho hc hdd=>?_
 refine xm_eaaea hl fun ol hol _ nl hdl=>?_;clear hl
 unfold pyNext
 refine wpAny_bind (wpAny_attempt (wpAny_callSpecial?_slot (name:=Str.ofString "__next__") hit.typeIs F.slot_tuple_iterator_next (wpAny_call_entry F.slot_tuple_iterator_next hit.typeIs F.entry_tuple_iterator_next ?_ (F.args_tuple_iterator_next_1 _))))
 show wpAny _ _ (field (.ref it) 0 >>= _) _ _ s
 refine wpAny_bind (wpAny_field ho hdd (x:=.ref l) rfl ?_)
 show wpAny _ _ (if (Value.ref l == Value.none)=true then _ else _) _ _ s
 rw [if_neg (show ¬ ((Value.ref l == Value.none)=true) from Bool.false_ne_true)]
 show wpAny _ _ (field (.ref it) 1 >>= _) _ _ s
 refine wpAny_bind (wpAny_field ho hdd (x:=.int i 0) rfl ?_)
 show wpAny _ _ (seqItems? (.ref l) >>= _) _ _ s
 refine wpAny_bind (wpAny_seqItems hol hdl ?_)
 simp only [Int.toNat_natCast,hx]
 have oth:∀ b x,b≠it→s.heap.get? b=some x→(s.heap.update it (Obj.mapFields (·.setIfInBounds 0 .none))).get? b=some x:=fun b x hb e=>(Heap.get?_update_other _ _ (Ne.symm hb)).trans e
 refine wpAny_bind (wpAny_rule (wpAny_bind (wpAny_setField ho hdd (by simp) ?_)))
 have nh:∀ e,fx.A.handled=some (.ref e)→e≠it:=fun e he q=>hne (q ▸ he)
 exact stop_any (fx:=fx) (hd:=st.hd) (it:=it) (h₀:=s.heap) (s:={ s with heap:=s.heap.update it (Obj.mapFields (·.setIfInBounds 0 .none)) }) (A:=fx.A.in1) rfl ((inv.heldOk hd).keep fun e o he ho=>oth e o (nh e he) ho) ⟨fun b x hb e=>oth b x hb e,_,Heap.get?_update_self _ ho (notFreed_of_fields (mapFields_data hdd _))⟩ (inv.hlt hd (h':=s.heap.update it (Obj.mapFields (·.setIfInBounds 0 .none))) fun e o he ho=>⟨o,oth e o (nh e he) ho⟩) hQ
theorem next_rng_end {P:Program}{w:World}{it:Addr}{x left step:Int}{Q:Option Value→Shared→Prop}{E:Value→Shared→Prop}(inv:Inv W fx β δ st s.heap)(hd:st.hd≤1)
  (hit:IsRangeIter s.heap it x left step) (hleft:left≤0) (hQ:∀ h',KeepBut it s.heap h'→Q none { s with heap:=h' }):wpAny (model P w) fx.A (pyNext (.ref it)) Q E s:=by
 have hT:s.TypeIs (.ref it) "range_iterator" :=⟨_,hit,rfl⟩
 unfold pyNext
 refine wpAny_bind (wpAny_attempt (wpAny_callSpecial?_slot (name:=Str.ofString "__next__") hT F.slot_range_iterator_next (wpAny_call_entry F.slot_range_iterator_next hT F.entry_range_iterator_next ?_ (F.args_range_iterator_next_1 _))))
 show wpAny _ _ (field (.ref it) 0 >>= _) _ _ s
 refine wpAny_bind (wpAny_field hit rfl (x:=rawInt x) rfl ?_)
 show wpAny _ _ (field (.ref it) 1 >>= _) _ _ s
 refine wpAny_bind (wpAny_field hit rfl (x:=rawInt left) rfl ?_)
 show wpAny _ _ (field (.ref it) 2 >>= _) _ _ s
 refine wpAny_bind (wpAny_field hit rfl (x:=rawInt step) rfl ?_)
 show wpAny _ _ (if left≤0 then _ else _) _ _ s
 rw [if_pos hleft]
 refine wpAny_bind (wpAny_rule ?_)
 refine wpAny_bind ?_
 show wpAny _ _ (newExc (.type "StopIteration") [] >>= fun e=>raiseNew e) _ _ s
 exact stop_any (fx:=fx) (hd:=st.hd) (it:=it) (h₀:=s.heap) (A:=fx.A.in1) rfl (inv.heldOk hd) ⟨fun b x hb e=>e,_,hit⟩ (inv.hlt hd (h':=s.heap) fun e o he ho=>⟨o,ho⟩) hQ
noncomputable def IterAt (β:Nat→Addr) (h:Heap) (it:Addr) (v:It) (i:Nat):Prop:=match v with
 | .list l=>h.IsListIter it (β l) i
 | .tup l=>h.IsTupleIter it (β l) i
 | .rng k=>IsRangeIter h it i (k - i) 1∧i≤k
noncomputable def ItOk (v:It) (n:Nat):Prop:=match v with
 | .list l=>l < n
 | .tup l=>l < n
 | .rng _=>True
theorem IterAt.live {h:Heap}{it:Addr}{v:It}{i:Nat}(x:IterAt β h it v i):∃ o,h.get? it=some o:=by
 cases v with
 | list l=>obtain⟨o,e,_⟩:=x;exact⟨o,e⟩
 | tup l=>obtain⟨o,e,_⟩:=x;exact⟨o,e⟩
 | rng k=>exact⟨_,x.1⟩
theorem IterAt.same {h h':Heap}{it:Addr}{v:It}{i:Nat}(x:IterAt β h it v i)(hv:ItOk v n)(e:∀ o,h.get? it=some o→h'.get? it=some o)(hs:∀ l,l < n→β' l=β l):IterAt β' h' it v i:=by
 cases v with
 | list l=>obtain⟨o,a,b⟩:=x;exact⟨o,e o a,by rw [hs l hv];exact b⟩
 | tup l=>obtain⟨o,a,b⟩:=x;exact⟨o,e o a,by rw [hs l hv];exact b⟩
 | rng k=>exact⟨e _ x.1,x.2⟩
theorem pyIter_ok {v:AV}{V:Value}{it:It}{E:Value→Shared→Prop}{Q:Value→Shared→Prop}(inv:Inv W fx β δ st s.heap)(hv:VR W β st.next v V)(hi:iterOf v st=some it)
  (hQ:∀ ob,IterAt β (s.heap.push ob) s.heap.objs.size it 0→ItOk it st.next→Q (.ref s.heap.objs.size) { s with heap:=s.heap.push ob }):wpAny (model W.prog W.w) A (pyIter V) Q E s:=by
 unfold iterOf at hi
 cases v with
 | loc l=>
  refine xo0_2 hv fun hl e1_=>?_;clear hv;obtain rfl:=e1_
  dsimp only at hi
  cases q:st.heap l with
  | none=>rw [q] at hi;exact nsE hi
  | some o=>
  rw [q] at hi
  cases o with
  | list xs=>
   obtain rfl:=Option.some.inj hi
   obtain⟨Vs,ep,a,b,d⟩:=inv.rel.obj l _ q
   exact wpAny_pyIter_list (items:=Vs.toArray) (IsL.isList a) (hQ _ ⟨_,Heap.get?_push_size _ rfl,rfl,rfl⟩ hl)
  | tup xs=>
   obtain rfl:=Option.some.inj hi
   obtain⟨Vs,a,b,d⟩:=inv.rel.obj l _ q
   exact wpAny_pyIter_tuple (items:=Vs.toArray) ⟨_,a,rfl,_,rfl⟩ (hQ _ ⟨_,Heap.get?_push_size _ rfl,rfl,rfl⟩ hl)
  | rng k=>
   obtain rfl:=Option.some.inj hi
   obtain⟨⟨t,u,v,a⟩,h0,h1⟩:=inv.rel.obj l _ q
   have e:Builtin.Range.rangeSize 0 k 1=k:=by
    rw [show Builtin.Range.rangeSize 0 k 1=((k - 0).toNat:Int) from rangeSize_nat 0 k];lia
   refine wpAny_pyIter_range a ?_ ?_
   ·unfold Builtin.Range.small
    rw [e]
    unfold Builtin.Range.rangeFitsLong
    simp
    lia
   ·rw [e]
    exact hQ _ ⟨by
     have:=Heap.get?_push_size s.heap (o:={ cls:=.type "range_iterator",data:=.fields #[rawInt 0,rawInt k,rawInt 1] }) rfl
     simpa [IsRangeIter] using this,h0⟩ trivial
  | _=>exact nsE hi
 | _=>exact nsE hi
end
end Mine
end
section
open PySem PySem.W PyProof.Rows PySem.Calls PySem.SeqAt
namespace Mine
section
variable {W:Wd}{fx:Fx}{β δ β' δ':Nat→Addr}{st st':St}{s:Shared}{h h':Heap}{n:Nat}{C:Nat→List AV→St→R AV}{A:Around}
theorem NewAt.ne (N:NewAt W fx β δ st h₁)(inv:Inv W fx β δ st s.heap)(hd:st.hd≤1):fx.A.handled≠some (.ref h₁):=fun q=>by
 rcases inv.heldOk hd with⟨_,z⟩ | ⟨z,_⟩
 ·rw [q] at z;exact snE z
 ·exact N.held h₁ z q rfl
theorem NewAt.go {it:Addr}{h₀ h₁:Heap}(N:NewAt W fx β δ st it)(o:Go fx β δ st h₀ β' δ' st' h₁)(e:h₀.get? it≠none):NewAt W fx β' δ' st' it:=
 ⟨fun q=>N.own (o.own_old e q),N.frs,N.base,fun e q he=>N.held e (o.hd.symm.trans q) he⟩
theorem Inv.atFree {it:Addr}(inv:Inv W fx β δ st h)(N:NewAt W fx β δ st it)(k:KeepBut it h h'):Inv W fx β δ st h'∧Go fx β δ st (h.hide it) β δ st h':=by
 have lv:∀ b o,h.get? b=some o→∃ o',h'.get? b=some o':=fun b o e=>by
  by_cases q:b=it
  ·rw [q];exact k.2
  ·exact⟨o,k.1 b o q e⟩
 have hh:∀ b,b≠it→(h.hide it).get? b=h.get? b:=fun b hb=>Heap.hide_ne h hb
 have T:Tch fx (Free fx β δ st.next) (h.hide it) h h':=⟨fun b o e nf hc=>by
   by_cases q:b=it
   ·subst q
    rcases hc with hc | hc
    ·exact (hc (Heap.hide_self h b)).elim
    ·exact (hc ⟨N.own,N.frs⟩).elim
   ·exact k.1 b o q e,lv,fun b hb o e=>⟨o.slots,k.1 b o (fun q=>N.frs (q ▸ hb)) e⟩⟩
 refine⟨inv.touch T (fun b o e=>(hh b fun q=>by rw [q,N.base] at e;cases e).trans (inv.stays b o e)) fun q e he=>?_,⟨Nat.le_refl _,fun _ _=>⟨rfl,rfl⟩,fun l a b=>absurd b (Nat.not_lt.mpr a),fun b o e no nf=>?_,fun b hb hL o e=>?_,rfl,fun b o e=>?_⟩⟩
 ·rw [hh e (N.held e q he)];exact inv.hlow q e he
 ·by_cases q:b=it
  ·rw [q,Heap.hide_self] at e;exact nsE e
  ·rw [hh b q] at e;exact k.1 b o q e
 ·by_cases q:b=it
  ·exact (N.frs (q ▸ hb)).elim
  ·rw [hh b q] at e;exact⟨o.slots,k.1 b o q e⟩
 ·by_cases q:b=it
  ·rw [q,Heap.hide_self] at e;exact nsE e
  ·rw [hh b q] at e;exact lv b o e
theorem Go.past {it:Addr}{h₀:Heap}(x:Go fx β δ st h₀ β' δ' st' h)(e0:h₀.get? it=Option.none)(N:NewAt W fx β' δ' st' it)(k:KeepBut it h h'):Go fx β δ st h₀ β' δ' st' h' where
 next:=x.next
 same:=x.same
 new:=x.new
 keep b o e no nf:=k.1 b o (fun q=>by rw [q,e0] at e;cases e) (x.keep b o e no nf)
 frames b hb hL o e:=let ⟨sl,e1⟩:=x.frames b hb hL o e;⟨sl,k.1 b _ (fun q=>N.frs (q ▸ hb)) e1⟩
 hd:=x.hd
 live b o e:=let ⟨o',e1⟩:=x.live b o e;⟨o',k.1 b _ (fun q=>by rw [q,e0] at e;cases e) e1⟩
theorem next_ok {v:It}{it:Addr}{i:Nat}{r:Option AV}{E:Value→Shared→Prop}{Q:Option Value→Shared→Prop}(inv:Inv W fx β δ st s.heap)(N:NewAt W fx β δ st it)(hit:IterAt β s.heap it v i)(hi:itemAt v i st=some r)(hd:r=none→st.hd≤1)
  (hQ:∀ h' tk X,KeepBut it s.heap h'→(match r with | none=>X=none | some x=>IterAt β h' it v (i+1)∧∃ V,X=some V∧VR W β st.next x V)→Q X { s with heap:=h',toks:=tk }):wpAny (model W.prog W.w) fx.A (pyNext (.ref it)) Q E s:=by
 cases v with
 | list l=>
  unfold itemAt at hi
  dsimp only at hi
  cases q:st.heap l with
  | none=>rw [q] at hi;exact nsE hi
  | some o=>
  rw [q] at hi
  cases o with
  | list xs=>
   obtain⟨Vs,ep,a,b,d⟩:=inv.rel.obj l _ q
   have hL:s.heap.IsList (β l) Vs.toArray:=IsL.isList a
   obtain rfl:=Option.some.inj hi
   cases hx:xs[i]? with
   | none=>
    rw [hx] at hd hQ
    exact next_list_end inv (hd rfl) (N.ne inv (hd rfl)) hit hL (by simpa using b.none hx) fun h' k=>hQ h' s.toks none k rfl
   | some x=>
    rw [hx] at hd hQ
    refine xo1_2 (b.get hx) fun X e1 e2=>?_
    refine wpAny_pyNext_list_item hit hL (by simpa using e1) fun h' z1 z2=>hQ h' s.toks _ ⟨fun b o hb e=>(z2.2 b hb).trans e,let ⟨o,e,_⟩:=z1;⟨o,e⟩⟩ ⟨z1,X,rfl,e2⟩
  | _=>exact nsE hi
 | tup l=>
  unfold itemAt at hi
  dsimp only at hi
  cases q:st.heap l with
  | none=>rw [q] at hi;exact nsE hi
  | some o=>
  rw [q] at hi
  cases o with
  | tup xs=>
   obtain⟨Vs,a,b,d⟩:=inv.rel.obj l _ q
   have hL:s.heap.IsTuple (β l) Vs.toArray:=⟨_,a,rfl,_,rfl⟩
   obtain rfl:=Option.some.inj hi
   cases hx:xs[i]? with
   | none=>
    rw [hx] at hd hQ
    exact next_tup_end inv (hd rfl) (N.ne inv (hd rfl)) hit hL (by simpa using b.none hx) fun h' k=>hQ h' s.toks none k rfl
   | some x=>
    rw [hx] at hd hQ
    refine xo1_2 (b.get hx) fun X e1 e2=>?_
    refine wpAny_pyNext_tuple_item hit hL (by simpa using e1) fun h' z1 z2=>hQ h' s.toks _ ⟨fun b o hb e=>(z2.2 b hb).trans e,let ⟨o,e,_⟩:=z1;⟨o,e⟩⟩ ⟨z1,X,rfl,e2⟩
  | _=>exact nsE hi
 | rng k=>
  refine xo0_2 hit fun h1 h2=>?_;clear hit
  unfold itemAt at hi
  dsimp only at hi
  obtain rfl:=Option.some.inj hi
  split at hd
  ·rename_i q
   rw [if_pos q] at hQ
   refine wpAny_pyNext_range_item h1 (by (clear hd h2;lia)) fun h' z1 z2=>hQ h' _ _ ⟨fun b o hb e=>(z2.2 b hb).trans e,⟨_,z1⟩⟩ ⟨⟨?_,by (clear hd h2;lia)⟩,_,rfl,_,rfl⟩
   have e1:(i:Int)+1=((i+1:Nat):Int):=by (clear hd q h2;lia)
   have e2:k - (i:Int) - 1=k - ((i+1:Nat):Int):=by (clear e1 hd q h2;lia)
   rw [e1,e2] at z1
   exact z1
  ·rename_i q
   rw [if_neg q] at hQ
   exact next_rng_end inv (hd rfl) h1 (by lia) fun h' kk=>hQ h' s.toks none kk rfl
theorem bind_ok (B:Base W){i:Nat}{v:AV}{V:Value}(hk:fx.kd.lookup i=some .local)(hv:VR W β st.next v V):Ok W fx (bindName fx.env (W.nm i) V) β δ st (.ok () (st.put i v)) gU:=fun nb s inv=>by
 refine xo1_2 inv.loc fun m a1 a2=>?_
 have hl:fx.env.kindOf (W.nm i)=some .local:=(kindOf_nm B inv.ok i).trans hk
 have n1:s.heap.Ns fx.env.locals m:=inv.ok.locals ▸ a1
 refine wpAny_bindName (wpAny_storeName_local hl n1 (fun h' z1 z2=>?_) ?_)
 ·rw [inv.ok.locals] at z1 z2
  exact .mk (inv.put B.inj (by rw [hk];nofun) a2 z2 z1 hv) trivial
 ·rw [inv.ok.kind];rfl
noncomputable def T.wf (gl:Nat→Bool) (kd:List (Nat×NameKind)):T→Bool
 | .nm i _=>kd.lookup i == some .local
 | .attr e _ _=>e.wf gl kd
 | .sub e i _=>e.wf gl kd&&i.wf gl kd
 | .tup i _ j _ _ _=>kd.lookup i == some .local&&kd.lookup j == some .local
theorem VRs.two {v u:AV}{Xs:List Value}(x:VRs W β n [v,u] Xs):∃ V U,Xs=[V,U]∧VR W β n v V∧VR W β n u U:=by
 cases x with
 | cons a b=>cases b with
  | cons c d=>cases d;exact⟨_,_,rfl,a,c⟩
theorem unpack2 {l:Nat}{x y:AV}{t1 t2:Value→Sem Unit}{E:Value→Shared→Prop}{Q:Unit→Shared→Prop}(inv:Inv W fx β δ st s.heap)(hd:st.hd≤1)(hl:st.heap l=some (.tup [x,y]))
  (hQ:∀ X Y h',VR W β st.next x X→VR W β st.next y Y→(∀ b o,s.heap.get? b=some o→h'.get? b=some o)→wpAny (model W.prog W.w) fx.A (t1 X) (fun _ s₁=>wpAny (model W.prog W.w) fx.A (t2 Y) Q E s₁) E { s with heap:=h' }) :
  wpAny (model W.prog W.w) fx.A (unpack (.ref (β l)) [(false,t1),(false,t2)]) Q E s:=by
 obtain⟨Vs,a,b,d⟩:=inv.rel.obj l _ hl
 refine xo2_3 b.two fun X Y e2_ hx hy=>?_;obtain rfl:=e2_
 have hT:s.heap.IsTuple (β l) #[X,Y]:=⟨_,a,rfl,_,rfl⟩
 unfold unpack
 refine wpAny_bind (wpAny_holding ?_)
 show wpAny _ _ (unpackItems (.ref (β l)) 2 none) _ E s
 unfold unpackItems
 refine wpAny_bind ?_
 unfold notIterableAtAll
 refine wpAny_bind (wpAny_specialOf hT.typeIs F.slot_tuple_iter.lookup ?_)
 refine wpAny_pure ?_
 simp only [Bool.false_eq_true,if_false]
 have tne:β l≠s.heap.objs.size:=Nat.ne_of_lt (Heap.lt_size a)
 have N:=inv.newAt (a:=s.heap.objs.size) size_free
 refine wpAny_bind (wpAny_holding (wpAny_pyIter_tuple hT ?_))
 have hT1:=hT.push ({ cls:=.type "tuple_iterator",data:=.fields #[.ref (β l),.int 0 0] }:Obj)
 refine wpAny_bind (wpAny_holding (wpAny_draw_tuple (i:=0) tne 2 _ _ ⟨_,Heap.get?_push_size _ rfl,rfl,rfl⟩ hT1 (by simp) fun h₁ z1 z2=>?_))
 have kk:∀ b o,s.heap.get? b=some o→h₁.get? b=some o:=fun b o e=>(z2.2 b fun q=>by rw [q,size_free] at e;cases e).trans (Heap.get?_push_of_some _ e)
 show wpAny _ _ (holding [X,Y] (pyNext (.ref s.heap.objs.size)) >>= _) _ E _
 have hT2:h₁.IsTuple (β l) #[X,Y]:=⟨_,kk _ _ a,rfl,_,rfl⟩
 refine wpAny_bind (wpAny_holding (next_tup_end (s:={ s with heap:=h₁ }) (inv.grow kk) hd (N.ne inv hd) z1 hT2 (by simp) fun h₂ k2=>?_))
 refine wpAny_pure ?_
 have k3:∀ b o,s.heap.get? b=some o→h₂.get? b=some o:=fun b o e=>k2.1 b o (fun q=>by rw [q,size_free] at e;cases e) (kk b o e)
 exact wpAny_bind (wpAny_holding (wpAny_mono (hQ X Y h₂ hx hy k3) (fun _ _ h=>wpAny_bind (wpAny_holding (wpAny_mono h (fun _ _ h=>wpAny_pure h) fun _ _ h=>h))) fun _ _ h=>h))
theorem okU {t:Sem Unit}{r:R Unit}(a:Ok W fx t β δ st (r.bnd fun _ s=>.ok () s) gU):Ok W fx t β δ st r gU:=by
 have:r.bnd (fun _ s=>.ok () s)=r:=by cases r <;> rfl
 rw [this] at a;exact a
theorem tupR_inv {i j:Nat}{v:AV}{s:St}(nb:tupR i j v s≠.bad):∃ l x y,v=.loc l∧s.heap l=some (.tup [x,y])∧s.hd≤1∧tupR i j v s=.ok () ((s.put i x).put j y):=by
 cases v with
 | loc l=>
  revert nb
  show atObj s l _≠_→∃ _ _ _,_∧_∧_∧atObj s l _=_
  unfold atObj
  cases q:s.heap l with
  | none=>exact fun nb=>(nb rfl).elim
  | some o=>
   cases o with
   | tup xs=>
    match xs with
    | [x,y]=>
     show (if s.hd≤1 then _ else _)≠_→∃ _ _ _,_∧_∧_∧(if s.hd≤1 then _ else _)=_
     by_cases h:s.hd≤1
     ·exact fun _=>⟨l,x,y,rfl,q,h,if_pos h⟩
     ·rw [if_neg h];exact fun nb=>(nb rfl).elim
    | []=>exact fun nb=>(nb rfl).elim
    | [_]=>exact fun nb=>(nb rfl).elim
    | _ :: _ :: _ :: _=>exact fun nb=>(nb rfl).elim
   | _=>exact fun nb=>(nb rfl).elim
 | _=>exact (nb rfl).elim
theorem Raised.not_ok {α:Type}{v:α}{st₁:St}{x:Value}{s':Shared}:¬ Raised W fx β δ st s (.ok v st₁) x s':=by
 rintro⟨_,_,_,_,_,_,e,_⟩;exact absurd e nofun
theorem asgT_ok (Z:Ctx2 W fx C){t:T}(hw:t.wf W.gl fx.kd=true){v:AV}{V:Value}(hv:VR W β st.next v V):Ok W fx (assign (t.dec W.nm W.sc) fx.env V) β δ st (asgT W.g C t v st) gU:=by
 cases t with
 | nm i p=>
  unfold T.dec asgT
  rw [arm_assign_Name]
  exact .stand (bind_ok Z.B (eq_of_beq hw) hv)
 | attr e a p=>
  unfold T.wf at hw
  unfold T.dec asgT
  rw [arm_assign_Attribute]
  refine .bind (.hold (evalE_ok Z e hw β δ st)) fun o st' β' δ' O _ g n1 s1=>.stand ?_
  exact .bind (k:=fun _=>PySem.release [V,O] []) (f:=fun _ s=>.ok () s) (good':=gU) (.hold (setA_ok Z.B Z.K Z.CO g (hv.mono n1 fun l hl=>(s1 l hl).1))) (fun _ st₂ β₂ δ₂ _ _ _ _ _=>fun nb s inv=>wpAny_release' (.now inv trivial)) |> okU
 | sub e i p=>
  unfold T.wf at hw
  refine xo0_2 (bAnd hw) fun h1 h2=>?_
  unfold T.dec asgT
  rw [arm_assign_Subscript]
  refine .bind (.hold (evalE_ok Z e h1 β δ st)) fun o st' β' δ' O _ g n1 s1=>.bind (.hold (evalE_ok Z i h2 β' δ' st')) fun w st₂ β₂ δ₂ I _ g2 n2 s2=>.stand ?_
  exact .bind (f:=fun _ s=>.ok () s) (good':=gU) (.hold (setI_ok (g.mono n2 fun l hl=>(s2 l hl).1) g2 (hv.mono (Nat.le_trans n1 n2) fun l hl=>(s2 l (Nat.lt_of_lt_of_le hl n1)).1.trans (s1 l hl).1))) (fun _ st₂ β₂ δ₂ _ _ _ _ _=>fun nb s inv=>wpAny_release' (.now inv trivial)) |> okU
 | tup i p j q k r=>
  unfold T.wf at hw
  refine xo0_2 (bAnd hw) fun h1 h2=>?_
  unfold T.dec asgT
  rw [arm_assign_Tuple]
  refine .stand (show Ok W fx _ β δ st (tupR i j v st) gU from fun nb s inv=>?_)
  refine xo3_4 (tupR_inv nb) fun l x y e3_ qq hd e=>?_;obtain rfl:=e3_
  rw [e]
  refine xo0_2 hv fun hl e1_=>?_;clear hv;obtain rfl:=e1_
  refine unpack2 inv hd qq fun X Y h' hx hy kk=>?_
  have inv':Inv W fx β δ st ({ s with heap:=h' }:Shared).heap:=inv.grow kk
  refine wpAny_mono ((Ok.stand (p:=p) (bind_ok (fx:=fx) (β:=β) (δ:=δ) (st:=st) Z.B (eq_of_beq h1) hx)) (by nofun) { s with heap:=h' } inv') (fun _ s₁ h₁=>?_) fun e s' h=>absurd h Raised.not_ok
  obtain⟨_,st₁,β₁,δ₁,e1,_,i1,o1,q1⟩:=h₁
  cases e1
  exact wpAny_mono ((Ok.stand (p:=q) (bind_ok (fx:=fx) (β:=β₁) (δ:=δ₁) (st:=st.put i x) Z.B (eq_of_beq h2) (hy.mono o1.next fun l hl=>(o1.same l hl).1))) (by nofun) s₁ i1) (fun _ s₂ h₂=>After.trans (.grow kk) rfl (After.trans o1 q1 h₂)) fun e s' h=>absurd h Raised.not_ok
end
end Mine
end
section
open PySem PySem.W PyProof.Rows PySem.Calls PySem.SeqAt
namespace Mine
section
variable {W:Wd}{fx:Fx}{β δ β' δ':Nat→Addr}{st st':St}{s:Shared}{h h':Heap}{n:Nat}{C:Nat→List AV→St→R AV}{A:Around}
theorem RaisedT.came {α:Type}{r:R α}{e:Value}{s':Shared}{E:Value→Shared→Prop}(inv:Inv W fx β δ st s.heap)(p:RaisedT W fx β δ st s r e s')(q:∀ s'',RaisedT W fx β δ st s r e s''→E e s''):cameBackBy (model W.prog W.w) fx.A fx.env E e s':=by
 unfold cameBackBy
 obtain⟨c,cl,st₁,β₁,δ₁,ad,e1,e2,e3,e4,e5,e6⟩:=p.1
 refine xo3_3 (p.2 ad e2) fun oe vs T t1 t2 t3=>?_
 subst e2
 refine wpAny_bind (wpAny_field t1 t2 t3 ?_)
 rw [if_neg (by simp)]
 exact RaisedT.flight inv p _ fun s'' z=>q s'' z
theorem Raised.noted {α:Type}{r:R α}{e:Value}{s':Shared}{E:Value→Shared→Prop}(inv:Inv W fx β δ st s.heap)(p:Raised W fx β δ st s r e s')(q:∀ s'',RaisedT W fx β δ st s r e s''→E e s''):notedBy (model W.prog W.w) fx.A fx.env E e s':=
 Raised.note inv p fun s'' z=>q s'' z
theorem Raised.back {α:Type}{r:R α}{e:Value}{s':Shared}(inv:Inv W fx β δ st s.heap)(p:Raised W fx β δ st s r e s'):notedBy (model W.prog W.w) fx.A fx.env (cameBackBy (model W.prog W.w) fx.A fx.env (Raised W fx β δ st s r)) e s':=
 p.noted inv fun _ z=>z.came inv fun _ z=>z.1
noncomputable def FEnds (W:Wd) (fx:Fx) (β δ:Nat→Addr) (st:St) (s:Shared) (r:R Fl):Result→Shared→Prop:=fun x s'=>match x with
 | .ok f=>After W fx β δ st s r (gF W) f s'
 | .error e=>cameBackBy (model W.prog W.w) fx.A fx.env (Raised W fx β δ st s r) e s'
theorem FlR.next {v:Fl}{f:Flow}(x:FlR W β n v f):(v=.next∧f=.next)∨(v=.brk∧f=.brk)∨(v=.cont∧f=.cont)∨∃ a V,v=.ret a∧f=.ret V∧VR W β n a V:=by
 cases v <;> cases f <;> first | exact .inl ⟨rfl,rfl⟩ | exact .inr (.inl ⟨rfl,rfl⟩) | exact .inr (.inr (.inl ⟨rfl,rfl⟩)) | exact .inr (.inr (.inr ⟨_,_,rfl,rfl,x⟩)) | exact x.elim
structure On (W:Wd) (fx:Fx) (β δ:Nat→Addr) (st:St) (s:Shared) (r:R Fl) (now:St→R Fl) (st₁:St) (β₁ δ₁:Nat→Addr) (s₁:Shared):Prop where
 inv:Inv W fx β₁ δ₁ st₁ s₁.heap
 go:Go fx β δ st s.heap β₁ δ₁ st₁ s₁.heap
 same:s₁={ s with heap:=s₁.heap,toks:=s₁.toks }
 to:now st₁=r
 nb:r≠.bad
section
variable {r:R Fl}{now:St→R Fl}{st₁:St}{β₁ δ₁:Nat→Addr}{s₁:Shared}
theorem On.piece {α τ:Type}{t:Sem τ}{q:R α}{k:α→St→R Fl}{good:Good α τ}{Q:τ→Shared→Prop}{E:Value→Shared→Prop}(o:On W fx β δ st s r now st₁ β₁ δ₁ s₁)(a:Ok W fx t β₁ δ₁ st₁ q good)(e:now st₁=q.bnd k)(hE:∀ x s',Raised W fx β δ st s r x s'→E x s')
  (b:∀ v st₂ β₂ δ₂ x s₂,q=.ok v st₂→good β₂ δ₂ st₂ v x→On W fx β δ st s r (k v) st₂ β₂ δ₂ s₂→Go fx β₁ δ₁ st₁ s₁.heap β₂ δ₂ st₂ s₂.heap→Q x s₂):wpAny (model W.prog W.w) fx.A t Q E s₁:=by
 have e':q.bnd k=r:=e.symm.trans o.to
 have nb:=o.nb
 rw [← e'] at nb
 refine wpAny_mono (a.seq nb o.inv fun v st₂ β₂ δ₂ x s₂ e2 g2 i2 o2 q2=>b v st₂ β₂ δ₂ x s₂ e2 g2 ⟨i2,o.go.trans o2,same_trans o.same q2,by rw [e2] at e';exact e',o.nb⟩ o2) (fun _ _ h=>h) fun x s' h=>hE x s' ?_
 rw [← e']
 exact Raised.trans o.go o.same h
theorem On.done {v:Fl}{f:Flow}(o:On W fx β δ st s r now st₁ β₁ δ₁ s₁)(e:now st₁=.ok v st₁)(g:FlR W β₁ st₁.next v f):After W fx β δ st s r (gF W) f s₁:=⟨v,st₁,β₁,δ₁,o.to.symm.trans e,g,o.inv,o.go,o.same⟩
end
theorem while_ok {t:Expr}{b:List Stmt}{test:St→R Bool}{body:St→R Fl}(ht:∀ β δ st,Ok W fx (isTrue t fx.env (eval t fx.env)) β δ st (test st) gB)(hb:∀ β δ st,Ok W fx (PySem.execs b fx.env) β δ st (body st) (gF W))(k:Nat)(p:Pos) :
  Ok W fx (PySem.exec (.While t b [] p) fx.env) β δ st (whileN test body k st) (gF W):=fun nb s inv=>by
 refine wpAny_While ?_
 show codeAny _ _ _ (FEnds W fx β δ st s (whileN test body k st)) s
 have o0:On W fx β δ st s (whileN test body k st) (whileN test body k) st β δ s:=⟨inv,.refl rfl rfl,rfl,rfl,nb⟩
 revert o0
 generalize whileN test body k st=r
 intro o0
 refine codeAny_whileLoop (fun m s'=>∃ st₁ β₁ δ₁,On W fx β δ st s r (whileN test body m) st₁ β₁ δ₁ s') ?_ k ⟨st,β,δ,o0⟩
 rintro m s' ⟨st₁,β₁,δ₁,o⟩
 cases m with
 | zero=>exact (o.nb o.to.symm).elim
 | succ m=>
  have hE:∀ x s',Raised W fx β δ st s r x s'→notedBy (model W.prog W.w) fx.A fx.env (cameBackBy (model W.prog W.w) fx.A fx.env (Raised W fx β δ st s r)) x s':=fun x s' h=>h.back inv
  refine o.piece (ht β₁ δ₁ st₁) rfl hE fun v st₂ β₂ δ₂ x s₂ e2 g2 o2 _=>?_
  cases g2
  cases v with
  | true=>
   refine o2.piece (hb β₂ δ₂ st₂) rfl hE fun f st₃ β₃ δ₃ y s₃ e3 g3 o3 _=>?_
   rcases FlR.next g3 with⟨rfl,rfl⟩ | ⟨rfl,rfl⟩ | ⟨rfl,rfl⟩ | ⟨a,V,rfl,rfl,g⟩
   ·exact⟨m,Nat.lt_succ_self _,st₃,β₃,δ₃,o3⟩
   ·exact o3.done rfl trivial
   ·exact⟨m,Nat.lt_succ_self _,st₃,β₃,δ₃,o3⟩
   ·exact o3.done rfl g
  | false=>exact wpAny_execs_nil (o2.done rfl trivial)
theorem letGo_any {it:It}{a:Addr}{i:Nat}{U:Value}{es:List Expr}{k:Nat}{p:Pos}{E:Value→Shared→Prop}{Q:Unit→Shared→Prop}(hit:IterAt β s.heap a it i)(h:Q () s):wpAny (model W.prog W.w) A (letOwnedTupleGo (.Tuple es k p) (.ref a) U) Q E s:=by
 have ob:∃ o n vs,s.heap.get? a=some o∧o.cls=.type n∧o.data=.fields vs∧(["enumerate", "zip", "dict_itemiterator", "dict_reverseitemiterator", "odict_iterator", "itertools.zip_longest", "itertools.pairwise"].contains n)=false:=by
  cases it with
  | list l=>obtain⟨o,e1,e2,e3⟩:=hit;exact⟨o,_,_,e1,e2,e3,by decide⟩
  | tup l=>obtain⟨o,e1,e2,e3⟩:=hit;exact⟨o,_,_,e1,e2,e3,by decide⟩
  | rng k=>exact⟨_,_,_,hit.1,rfl,rfl,by decide⟩
 refine xo3_4 ob fun o n vs e1 e2 e3 e4=>?_;clear ob
 unfold letOwnedTupleGo
 dsimp only
 cases U <;> try exact wpAny_pure h
 dsimp only
 refine wpAny_bind (wpAny_load e1 ?_)
 rw [e2,e3]
 dsimp only
 rw [e4]
 exact wpAny_pure h
structure ItAt (W:Wd) (fx:Fx) (a:Addr) (it:It) (i:Nat) (st:St) (β δ:Nat→Addr) (s:Shared):Prop where
 at_:IterAt β s.heap a it i
 ok:ItOk it st.next
 new:NewAt W fx β δ st a
theorem ItAt.go {a:Addr}{it:It}{i:Nat}{s':Shared}(x:ItAt W fx a it i st β δ s)(o:Go fx β δ st s.heap β' δ' st' s'.heap):ItAt W fx a it i st' β' δ' s':=by
 refine xo1_1 x.at_.live fun y e=>?_
 refine⟨x.at_.same (n:=st.next) x.ok (fun o' e=>o.keep _ o' e x.new.own x.new.frs) fun l hl=>(o.same l hl).1,?_,x.new.go o (by rw [e];nofun)⟩
 have:=o.next
 have h:=x.ok
 cases it <;> first | exact Nat.lt_of_lt_of_le h this | trivial
theorem forN_s {it:It}{asg:AV→St→R Unit}{body:St→R Fl}{k i:Nat}{s:St}:forN it asg body (k+1) i s=(match itemAt it i s with
  | Option.none=>.bad
  | some Option.none=>if s.hd≤1 then .ok .next s else .bad
  | some (some x)=>(asg x s).bnd fun _ s=>(body s).bnd fun f s=>(match f with
   | .next=>forN it asg body k (i+1) s
   | .cont=>forN it asg body k (i+1) s
   | .brk=>.ok .next s
   | .ret v=>.ok (.ret v) s)):=rfl
theorem forN_none {it:It}{asg:AV→St→R Unit}{body:St→R Fl}{m i:Nat}{r:R Fl}(w:forN it asg body (m+1) i st=r)(nb:r≠.bad):∃ x,itemAt it i st=some x∧(x=none→st.hd≤1∧forN it asg body (m+1) i st=.ok .next st)∧
  ∀ y,x=some y→forN it asg body (m+1) i st=(asg y st).bnd fun _ s=>(body s).bnd fun f s=>(match f with | .next=>forN it asg body m (i+1) s | .cont=>forN it asg body m (i+1) s | .brk=>.ok .next s | .ret v=>.ok (.ret v) s):=by
 subst w
 rw [forN_s] at nb ⊢
 cases q:itemAt it i st with
 | none=>rw [q] at nb;exact (nb rfl).elim
 | some x=>
  rw [q] at nb
  cases x with
  | none=>
   refine⟨none,rfl,fun _=>?_,nofun⟩
   by_cases h:st.hd≤1
   ·exact⟨h,if_pos h⟩
   ·exact (nb (if_neg h)).elim
  | some y=>exact⟨some y,rfl,nofun,fun z e=>by cases e;rfl⟩
theorem for_ok (Z:Ctx2 W fx C){T:Expr}{v:AV}{V:Value}{it:It}{asg:AV→St→R Unit}{b:List Stmt}{body:St→R Fl}(hv:VR W β st.next v V)(hi:iterOf v st=some it)
  (ha:∀ β δ st x X,VR W β st.next x X→Ok W fx (assign T fx.env X) β δ st (asg x st) gU) (hb:∀ β δ st,Ok W fx (PySem.execs b fx.env) β δ st (body st) (gF W)) (k:Nat) {p:Pos}
  (hgo:∀ it v,letOwnedTupleGo T (.ref it) v=Pure.pure ()∨∃ es q r,T=.Tuple es q r) :
  Ok W fx (standAt p >>= fun _=>holding [V] (pyIter V) >>= fun i=>runOwn (.forLoop T i b [] fx.env) fx.env) β δ st (forN it asg body k 0 st) (gF W):=fun nb s inv=>by
 refine wpAny_bind (wpAny_standAt (wpAny_bind (wpAny_holding (pyIter_ok inv hv hi fun ob i0 io=>?_))))
 refine wpAny_runOwn ?_
 rw [Around.mark_none]
 show codeAny _ _ _ (FEnds W fx β δ st s (forN it asg body k 0 st)) _
 have pk:=push_keeps (h:=s.heap) ob
 have o0:On W fx β δ st s (forN it asg body k 0 st) (forN it asg body k 0) st β δ { s with heap:=s.heap.push ob }:=⟨inv.grow pk,.grow pk,rfl,rfl,nb⟩
 have j0:ItAt W fx s.heap.objs.size it 0 st β δ { s with heap:=s.heap.push ob }:=⟨i0,io,inv.newAt size_free⟩
 have sf:s.heap.get? s.heap.objs.size=none:=size_free
 revert o0
 generalize forN it asg body k 0 st=r
 generalize s.heap.objs.size=a at *
 intro o0
 clear i0 io
 refine codeAny_forLoop_any (fun m s'=>∃ i st₁ β₁ δ₁,On W fx β δ st s r (forN it asg body m i) st₁ β₁ δ₁ s'∧ItAt W fx a it i st₁ β₁ δ₁ s') ?_ k ⟨0,st,β,δ,o0,j0⟩
 rintro m s' ⟨i,st₁,β₁,δ₁,o,j⟩
 cases m with
 | zero=>exact (o.nb o.to.symm).elim
 | succ m=>
  have hE:∀ x s',Raised W fx β δ st s r x s'→notedBy (model W.prog W.w) fx.A fx.env (cameBackBy (model W.prog W.w) fx.A fx.env (Raised W fx β δ st s r)) x s':=fun x s' h=>h.back inv
  refine xo1_3 (forN_none o.to o.nb) fun x hr hn hs=>?_
  refine next_ok o.inv j.new j.at_ hr (fun e=>(hn e).1) fun h' tk X kk hX=>?_
  have o2:On W fx β δ st s r (forN it asg body (m+1) i) st₁ β₁ δ₁ { s' with heap:=h',toks:=tk }:=⟨(o.inv.atFree j.new kk).1,o.go.past sf j.new kk,by rw [o.same],o.to,o.nb⟩
  clear hr
  cases x with
  | none=>
   cases hX
   exact wpAny_execs_nil (o2.done (hn rfl).2 trivial)
  | some x=>
   refine xm_aeaa hX fun it2 U e2_ gx=>?_;clear hX;obtain rfl:=e2_
   have j2:ItAt W fx a it (i+1) st₁ β₁ δ₁ { s' with heap:=h',toks:=tk }:=⟨it2,j.ok,j.new⟩
   have go:wpAny (model W.prog W.w) fx.A (letOwnedTupleGo T (.ref a) U) (fun _ s''=>s''=({ s' with heap:=h',toks:=tk }:Shared)) (fun _ _=>False) { s' with heap:=h',toks:=tk }:=by
    rcases hgo a U with e | ⟨es,q',r',e⟩
    ·exact wpAny_of_eq e rfl
    ·subst e;exact letGo_any it2 rfl
   refine wpAny_mono go (fun _ s'' e=>?_) fun _ _ h=>h.elim
   subst e
   refine o2.piece (ha β₁ δ₁ st₁ x U gx) (hs x rfl) hE fun _ st₂ β₂ δ₂ _ s₂ e2 _ o3 g3=>?_
   have j3:=j2.go g3
   refine o3.piece (hb β₂ δ₂ st₂) rfl hE fun f st₃ β₃ δ₃ y s₃ e3 g4 o4 g5=>?_
   have j4:=j3.go g5
   rcases FlR.next g4 with⟨rfl,rfl⟩ | ⟨rfl,rfl⟩ | ⟨rfl,rfl⟩ | ⟨a,V,rfl,rfl,g⟩
   ·exact⟨m,Nat.lt_succ_self _,i+1,st₃,β₃,δ₃,o4,j4⟩
   ·exact o4.done rfl trivial
   ·exact⟨m,Nat.lt_succ_self _,i+1,st₃,β₃,δ₃,o4,j4⟩
   ·exact o4.done rfl g
end
end Mine
end
section
open PySem PySem.W PyProof.Rows PySem.Calls PySem.SeqAt
namespace Mine
noncomputable def raiseTail (xv:Value):Sem Flow:=do
 let e ← holding [] (excFromValue xv "exceptions must derive from BaseException")
 let e ← if ← isType xv then holding [e] (raisedFor xv e) else raisedInstance e
 setFlight e none
 raiseNew e
theorem raiseStmt_eq (env:Env)(x:Sem Value):raiseStmt env (some x) none=x >>= raiseTail:=rfl
noncomputable abbrev excObj (cls:Value) (t:Addr):Obj:={ cls:=cls,data:=.fields #[.ref t,.none,.none,.none,.bool false,.none] }
structure ExcOk (W:Wd) (c:Nat):Prop where
 keep:∀ (M:Model) (h:Heap),W.hb.StaysIn h→∃ k,(k=Keeper.frame∨k=Keeper.machine∨k=Keeper.boundFrame)∧Looks M h (keeperOf (W.gv c)) k
 make:∀ (A:Around) (E:Value→Shared→Prop) (s:Shared) (V:Value) (Q:Value→Shared→Prop),W.hb.StaysIn s.heap→
  (∀ h' e t,(∀ b o,s.heap.get? b=some o→h'.get? b=some o)→s.heap.get? e=none→h'.get? e=some (excObj (W.gv c) t)→Q (.ref e) { s with heap:=h' })→wpAny (model W.prog W.w) A (call (W.gv c) [V]) Q E s
 raise:∀ (A:Around) (E:Value→Shared→Prop) (s:Shared) (e t:Addr) (Q:Flow→Shared→Prop),W.hb.StaysIn s.heap→s.heap.get? e=some (excObj (W.gv c) t)→wpAny (model W.prog W.w) A (raiseNew (.ref e):Sem Flow) Q E s→wpAny (model W.prog W.w) A (raiseTail (.ref e)) Q E s
noncomputable def Exms (W:Wd):Prop:=∀ c d,c∈W.g.excs→d∈W.g.excs→∀ (M:Model) (A:Around) (E:Value→Shared→Prop) (s:Shared) (e:Addr) (o:Obj) (Q:Bool→Shared→Prop),W.hb.StaysIn s.heap→s.heap.get? e=some o→o.cls=W.gv c→(∃ vs,o.data=.fields vs)→Q (decide (c=d)) s→wpAny M A (excMatches (.ref e) (W.gv d)) Q E s
section
variable {W:Wd}{fx:Fx}{β δ β' δ':Nat→Addr}{st st':St}{s:Shared}{h h':Heap}{n:Nat}{C:Nat→List AV→St→R AV}{A:Around}
theorem R.bnd_pure {α:Type}(r:R α):(r.bnd fun v s=>.ok v s)=r:=by cases r <;> rfl
theorem raiseAs_hd {c:Nat}{st:St}(nb:(raiseAs c st:R Fl)≠.bad):st.hd≤1∧(raiseAs c st:R Fl)=.ex c (decide (st.hd=0)) st:=by
 revert nb
 show (match st.hd with | 0=>R.ex c true st | 1=>.ex c false st | _=>.bad:R Fl)≠_→_∧(match st.hd with | 0=>R.ex c true st | 1=>.ex c false st | _=>.bad:R Fl)=_
 cases st.hd with
 | zero=>exact fun _=>⟨Nat.zero_le _,rfl⟩
 | succ k=>cases k with
  | zero=>exact fun _=>⟨Nat.le_refl _,rfl⟩
  | succ k=>exact fun nb=>(nb rfl).elim
theorem one_ok (Z:Ctx2 W fx C){e:E}(he:e.wf W.gl fx.kd=true):Ok W fx (spliced (trees W fx.env (.cons e .nil))) β δ st (evalE W.g C e st) fun _ _ _ _ Vs=>∃ V:Value,Vs=[V]:=by
 show Ok W fx (spliced ((false,eval (e.dec W.nm W.sc) fx.env) :: [])) β δ st _ _
 rw [spliced,← R.bnd_pure (evalE W.g C e st)]
 refine .bind (evalE_ok Z e he β δ st) fun v st' β' δ' x _ g _ _=>?_
 show Ok W fx (pure [x] >>= fun here=>holding here (spliced []) >>= fun vs=>pure (here++vs)) _ _ _ _ _
 exact .pureBind (.step [] (fun s E Q _ h=>wpAny_holding (wpAny_pure h)) (.pure ⟨x,rfl⟩))
theorem make_raise {c:Nat}(X:ExcOk W c){V:Value}{EF E:Value→Shared→Prop}{QF:Flow→Shared→Prop}{Q:Value→Shared→Prop}(inv:Inv W fx β δ st s.heap)(hd:st.hd≤1)(hE:∀ x s',Raised W fx β δ st s (.ex c (decide (st.hd=0)) st:R Fl) x s'→EF x s')
  (hQ:∀ v s',wpAny (model W.prog W.w) fx.A (raiseTail v:Sem Flow) QF EF s'→Q v s'):wpAny (model W.prog W.w) fx.A (call (W.gv c) [V]) Q E s:=by
 refine X.make _ _ _ _ _ inv.stays fun h' ad t kk hn ho=>?_
 refine hQ _ _ (X.raise _ _ _ ad t _ (fun b o eo=>kk b o (inv.stays b o eo)) ho ?_)
 refine raiseNew_any (fx:=fx) (hd:=st.hd) rfl ((inv.heldOk hd).keep fun e o _ eo=>kk e o eo) ((inv.newAt hn).ne inv hd) ho rfl (by simp) fun h'' k2 hx=>?_
 refine xo2_6 hx fun oe us x1 x2 x3 x4 x5 x6=>?_;clear hx
 have kf:∀ b o,s.heap.get? b=some o→h''.get? b=some o:=fun b o eo=>k2 b o (fun q=>by rw [q,hn] at eo;cases eo) (kk b o eo)
 exact hE _ _ ⟨c,_,st,β,δ,ad,rfl,rfl,⟨hn,inv.free_new _ hn,oe,us,x1,x2,x3,by rw [x4];simp,fun w=>by rw [x6 (of_decide_eq_true w)];rfl,.inl (by rw [x5];rfl)⟩,inv.grow kf,.grow kf,rfl⟩
theorem raise_ok (Z:Ctx2 W fx C){c:Nat}(X:ExcOk W c){np cp p:Pos}{e:E}(hw:(E.gv c np).wf W.gl fx.kd=true)(he:e.wf W.gl fx.kd=true) :
  Ok W fx (PySem.exec (.Raise (some (.Call (.Name (W.nm c) np) [e.dec W.nm W.sc] [] cp)) none p) fx.env) β δ st ((evalE W.g C e st).bnd fun _ s=>(raiseAs c s:R Fl)) (gF W):=fun nb s inv=>by
 rw [arm_exec_Raise]
 refine wpAny_bind (wpAny_standAt ?_)
 show wpAny _ _ (raiseStmt fx.env (some (eval (.Call (.Name (W.nm c) np) [e.dec W.nm W.sc] [] cp) fx.env >>= fun v=>standAt p >>= fun _=>Pure.pure v)) none) _ _ s
 rw [raiseStmt_eq,arm_eval_Call_Name',show backTo cp (starEach [e.dec W.nm W.sc] fx.env)=trees W fx.env (.cons e .nil) by rw [← backTo_trees W fx.env cp,← starEach_dec];rfl]
 refine wpAny_bind (wpAny_bind (wpAny_bind (gv_at Z.B hw inv ?_)))
 refine callWith_of (P:=fun h=>W.hb.StaysIn h) (by rw [trees_plain];rfl) (fun h x=>X.keep _ h x) (evalArgs_any (ks:=.nil) (p:=cp) ?_)
 refine (one_ok Z he).seq nb inv fun v st₂ β₂ δ₂ Vs s₂ e2 g2 i2 o2 q2=>?_
 rw [e2,R.bnd_ok] at nb ⊢
 refine xo0_2 (raiseAs_hd nb) fun hd er=>?_
 rw [er]
 refine xo1_1 g2 fun V e1_=>?_;clear g2;obtain rfl:=e1_
 refine wpAny_pure ⟨i2.stays,?_⟩
 exact make_raise X i2 hd (fun _ _ h=>Raised.trans o2 q2 h) fun v s' h=>wpAny_bind (wpAny_standAt (wpAny_pure h))
noncomputable def Fx.mark (fx:Fx) (e:Addr):Fx:={ fx with A:=fx.A.mark (some (.ref e)) }
theorem Inv.mark {e:Addr}{cls:Value}{cl:Bool}{h₀:Heap}(inv:Inv W fx β δ st h)(x:ExcSt (Free fx β δ st.next) h e cls cl h₀):Inv W (fx.mark e) β δ { st with hd:=if cl then 1 else 2 } h where
 ok:=⟨inv.ok.frames,inv.ok.frame,inv.ok.locals,inv.ok.kind,inv.ok.above,inv.ok.names,inv.ok.globals,inv.ok.builtins,inv.ok.cells⟩
 rel:=⟨inv.rel.some_lt,inv.rel.lt_some,inv.rel.obj,inv.rel.bb,inv.rel.dd,inv.rel.bd,inv.rel.base,inv.rel.live⟩
 loc:=let ⟨m,a,b⟩:=inv.loc;⟨m,a,fun i v e=>⟨(b i v e).cel,(b i v e).dic⟩⟩
 stays:=inv.stays
 ff:=inv.ff
 apart:=inv.apart
 basefr:=inv.basefr
 hd:=by
  refine xo2_6 x.obj fun oe vs a1 a2 a3 a4 a5 _=>?_
  cases cl with
  | true=>exact⟨e,rfl,⟨oe,vs,a1,a3,a4,a5 rfl⟩,x.free⟩
  | false=>exact⟨e,rfl⟩
theorem Go.reHd {n:Nat}(g:Go fx β δ st h β' δ' st' h'):Go fx β δ { st with hd:=n } h β' δ' { st' with hd:=n } h':=⟨g.next,g.same,g.new,g.keep,g.frames,rfl,g.live⟩
theorem Go.unmark {e:Addr}(g:Go (fx.mark e) β δ st h β' δ' st' h'):Go fx β δ st h β' δ' st' h':=⟨g.next,g.same,g.new,g.keep,g.frames,g.hd,g.live⟩
theorem Inv.unmark {e:Addr}(i:Inv W (fx.mark e) β' δ' st' h')(inv:Inv W fx β δ st h)(g:Go fx β δ st h β' δ' { st' with hd:=st.hd } h'):Inv W fx β' δ' { st' with hd:=st.hd } h' where
 ok:=inv.ok
 rel:=⟨i.rel.some_lt,i.rel.lt_some,i.rel.obj,i.rel.bb,i.rel.dd,i.rel.bd,i.rel.base,i.rel.live⟩
 loc:=let ⟨m,a,b⟩:=i.loc;⟨m,a,fun i v e=>⟨(b i v e).cel,(b i v e).dic⟩⟩
 stays:=i.stays
 ff:=i.ff
 apart:=i.apart
 basefr:=i.basefr
 hd:=by
  have z:=inv.hd
  show (match st.hd with | 0=>_ | 1=>_ | _=>_)
  revert z
  cases st.hd with
  | zero=>exact id
  | succ k'=>cases k' with
   | zero=>
    rintro⟨e',a1,⟨oe,vs,b,c⟩,d⟩
    exact⟨e',a1,⟨oe,vs,g.keep e' oe b d.1 d.2,c⟩,fun q=>d.1 (g.own_old (by rw [b];nofun) q),d.2⟩
   | succ k''=>exact id
theorem After.unmark {α τ:Type}{e:Addr}{r:R α}{good:Good α τ}{x:τ}{st₀:St}{s₀ s':Shared}{β₀ δ₀:Nat→Addr}{n:Nat}(hg:∀ β δ st v x,good β δ st v x→good β δ { st with hd:=n } v x)(hn:n=st₀.hd)(inv:Inv W fx β₀ δ₀ st₀ s₀.heap)(g0:Go fx β₀ δ₀ st₀ s₀.heap β δ { st with hd:=st₀.hd } s.heap)(q0:s={ s₀ with heap:=s.heap,toks:=s.toks })
  (a:After W (fx.mark e) β δ st s r good x s'):After W fx β₀ δ₀ st₀ s₀ (r.reHd n) good x s':=by
 subst hn
 obtain⟨v,st',β',δ',e1,e2,e3,e4,e5⟩:=a
 have g:=g0.trans (e4.unmark.reHd (n:=st₀.hd))
 exact⟨v,{ st' with hd:=st₀.hd },β',δ',by rw [e1];rfl,hg _ _ _ _ _ e2,e3.unmark inv g,g,same_trans q0 e5⟩
theorem Raised.unmark {α:Type}{e:Addr}{r:R α}{x:Value}{st₀:St}{s₀ s':Shared}{β₀ δ₀:Nat→Addr}(inv:Inv W fx β₀ δ₀ st₀ s₀.heap)(g0:Go fx β₀ δ₀ st₀ s₀.heap β δ { st with hd:=st₀.hd } s.heap)(q0:s={ s₀ with heap:=s.heap,toks:=s.toks })
  (a:Raised W (fx.mark e) β δ st s r x s'):Raised W fx β₀ δ₀ st₀ s₀ (r.reHd st₀.hd) x s':=by
 obtain⟨c,cl,st',β',δ',ad,e1,e2,e3,e4,e5,e6⟩:=a
 have g:=g0.trans (e5.unmark.reHd (n:=st₀.hd))
 exact⟨c,cl,{ st' with hd:=st₀.hd },β',δ',ad,by rw [e1];rfl,e2,e3.mono g0.none fun _ z=>z,e4.unmark inv g,g,same_trans q0 e6⟩
end
end Mine
end
section
open PySem PySem.W PyProof.Rows PySem.Calls PySem.SeqAt
namespace Mine
section
variable {W:Wd}{fx:Fx}{β δ β' δ':Nat→Addr}{st st':St}{s:Shared}{h h':Heap}{n:Nat}{C:Nat→List AV→St→R AV}{A:Around}
structure Ctxs (W:Wd) (fx:Fx) (C:Nat→List AV→St→R AV):Prop where
 z:∀ hd,Ctx2 W { fx with A:={ fx.A with handled:=hd } } C
 xm:Exms W
 xo:∀ c,c∈W.g.rais→ExcOk W c
theorem Ctxs.here (Z:Ctxs W fx C):Ctx2 W fx C:=Z.z fx.A.handled
theorem Ctxs.mark (Z:Ctxs W fx C)(e:Addr):Ctxs W (fx.mark e) C:=⟨Z.z,Z.xm,Z.xo⟩
noncomputable def Ss.isNil:Ss→Bool
 | .nil=>true
 | _=>false
section
variable (gl:Nat→Bool)(g:Sig)(kd:List (Nat×NameKind))
mutual
noncomputable def S.wf:S→Bool
 | .expr e _=>e.wf gl kd&&notComp e
 | .asg t e _=>t.wf gl kd&&(e.wf gl kd&&notComp e)&&(match t,e with | .tup ..,.tup ..=>false | _,_=>true)
 | .aug i _ _ e _=>kd.lookup i == some .local&&e.wf gl kd
 | .ife t a b _=>t.wf gl kd&&a.wf&&b.wf
 | .whl t b _=>t.wf gl kd&&b.wf
 | .for t e b _=>t.wf gl kd&&e.wf gl kd&&b.wf&&(match t with | .nm ..=>true | .tup ..=>true | _=>false)
 | .ret e _=>e.wf gl kd
 | .ret0 _=>true
 | .raise c np e _ _=>(E.gv c np).wf gl kd&&e.wf gl kd&&decide (c∈g.rais)
 | .try b hs _=>b.wf&&hs.wf&&(match hs with | .nil=>false | _=>true)
 | .fin b f _=>b.wf&&f.wf&&!f.isNil
 | .assert e _=>e.wf gl kd
 | .cont _=>true
noncomputable def Ss.wf:Ss→Bool
 | .nil=>true
 | .cons s r=>s.wf&&r.wf
noncomputable def Hs.wf:Hs→Bool
 | .nil=>true
 | .cons c np b _ r=>(E.gv c np).wf gl kd&&b.wf&&!b.isNil&&r.wf
end
end
theorem RaisedT.flightM {e:Addr}{α:Type}{r:R α}{s':Shared}{x:Value}{E:Value→Shared→Prop}{fl:Option Addr}{Q:Unit→Shared→Prop}(inv:Inv W fx β δ st s.heap)(p:RaisedT W fx β δ st s r x s')(q:∀ s'',RaisedT W fx β δ st s r x s''→Q () s'') :
  wpAny (model W.prog W.w) (fx.mark e).A (setFlight x fl) Q E s':=by
 obtain⟨⟨c,cl,st₁,β₁,δ₁,e,e1,rfl,e3,e4,e5,e6⟩,tr⟩:=p
 refine setFlight_any (fx:=fx.mark _) e3 fl (fun b z=>z.2) fun h' t x' tr'=>?_
 have t':Tch fx (Free fx β₁ δ₁ st₁.next) s.heap s'.heap h':=⟨t.keep,t.live,t.frames⟩
 refine q _ ⟨⟨c,cl,st₁,β₁,δ₁,e,e1,rfl,x',e4.touch t' inv.stays fun q1=>?_,e5.touch t' e4,by rw [e6]⟩,fun e' he=>by cases he;exact tr' (tr e rfl)⟩
 exact fun e he=>inv.hlow (e5.hd.symm.trans q1) e he
theorem RaisedT.pass {α β₀:Type}{r:R α}{s':Shared}{x:Value}{what:String}{E:Value→Shared→Prop}{Q:β₀→Shared→Prop}(inv:Inv W fx β δ st s.heap)(p:RaisedT W fx β δ st s r x s')(q:∀ s'',RaisedT W fx β δ st s r x s''→E x s'') :
  wpAny (model W.prog W.w) fx.A (PySem.passOn what x fx.env:Sem β₀) Q E s':=by
 unfold PySem.passOn
 obtain⟨c,cl,st₁,β₁,δ₁,ad,e1,e2,e3,e4,e5,e6⟩:=p.1
 refine xo3_3 (p.2 ad e2) fun oe vs T t1 t2 t3=>?_
 subst e2
 refine wpAny_bind (wpAny_field t1 t2 t3 ?_)
 rw [if_neg (by simp)]
 exact wpAny_bind (RaisedT.flight inv p _ fun s'' z=>wpAny_throw (q s'' z))
theorem suite_ok {c:Nat}{cl:Bool}{st₁:St}{r0:R Fl}{e:Addr}{s₁:Shared}{b0:Stmt}{bs:List Stmt}{body:St→R Fl}{E':Value→Shared→Prop}{pos:Pos}(inv:Inv W fx β δ st s.heap)(hr:r0=.ex c cl st₁)(p:RaisedT W fx β δ st s r0 (.ref e) s₁)
  (hb:∀ β δ st,Ok W (fx.mark e) (PySem.execs (b0 :: bs) fx.env) β δ st (body st) (gF W)) (nb:(body { st₁ with hd:=if cl then 1 else 2 }).reHd st.hd≠.bad) :
  codeAny (model W.prog W.w) (fx.A.mark (some (.ref e))) (.handlers (.ref e) [.ExceptHandler none none (b0 :: bs) pos] fx.env)
   (fun r s'=>match r with | .ok f=>After W fx β δ st s ((body { st₁ with hd:=if cl then 1 else 2 }).reHd st.hd) (gF W) f s' | .error x=>cameBackBy (model W.prog W.w) fx.A fx.env (Raised W fx β δ st s ((body { st₁ with hd:=if cl then 1 else 2 }).reHd st.hd)) x s') s₁:=by
 refine codeAny_handlers_suite (RaisedT.flightM inv p fun s₂ p₂=>?_)
 obtain⟨c',cl',st₂,β₂,δ₂,ad,e1,e2,e3,e4,e5,e6⟩:=p₂.1
 rw [hr] at e1
 cases e1;cases e2
 have i':=e4.mark e3
 have g0:Go fx β δ st s.heap β₂ δ₂ { ({ st₁ with hd:=if cl then 1 else 2 }:St) with hd:=st.hd } s₂.heap:=by
  have:=e5
  have w:({ ({ st₁ with hd:=if cl then 1 else 2 }:St) with hd:=st.hd }:St)=st₁:=by rw [← e5.hd]
  rw [w];exact e5
 refine wpAny_mono (hb β₂ δ₂ _ (fun q=>nb (by rw [q];rfl)) s₂ i') (fun f s' hf=>?_) fun x s' hx=>?_
 ·exact hf.unmark (fun _ _ _ _ _ z=>z) rfl inv g0 e6
 ·refine Raised.note (fx:=fx.mark e) i' hx fun s'' z=>?_
  refine RaisedT.came inv (r:=(body { st₁ with hd:=if cl then 1 else 2 }).reHd st.hd) ⟨z.1.unmark inv g0 e6,z.2⟩ fun s₃ w=>w.1
theorem ExcSt.go {e:Addr}{cls:Value}{cl:Bool}{h₀:Heap}(x:ExcSt (Free fx β δ st.next) h e cls cl h₀)(g:Go fx β δ st h β' δ' st' h'):ExcSt (Free fx β' δ' st'.next) h' e cls cl h₀:=by
 have fr:∀ b o,h.get? b=some o→Free fx β δ st.next b→Free fx β' δ' st'.next b:=fun b o e z=>⟨fun q=>z.1 (g.own_old (by rw [e];nofun) q),z.2⟩
 refine xo2_6 x.obj fun oe vs a1 a2 a3 a4 a5 a6=>?_
 refine⟨x.new,fr e oe a1 x.free,oe,vs,g.keep e oe a1 x.free.1 x.free.2,a2,a3,a4,a5,a6.imp id ?_⟩
 rintro⟨T,oT,ts,b1,b2,b3,b4,b5,b6⟩
 exact⟨T,oT,ts,b1,b2,fr T oT b5 b3,b4,g.keep T oT b5 b3.1 b3.2,b6⟩
theorem finR_ok {h:Nat}{f:Fl}{st:St}{fin:St→R Fl}(nb:finR h (.ok f st) fin≠.bad):∃ st₂,fin st=.ok .next st₂∧finR h (.ok f st) fin=.ok f st₂:=by
 revert nb
 show (match fin st with | .ok .next s=>R.ok f s | _=>.bad)≠_→∃ st₂,_∧(match fin st with | .ok .next s=>R.ok f s | _=>.bad)=_
 cases fin st with
 | ok x st₂=>cases x <;> first | exact fun _=>⟨_,rfl,rfl⟩ | exact fun nb=>(nb rfl).elim
 | _=>exact fun nb=>(nb rfl).elim
theorem finR_ex {h c:Nat}{cl:Bool}{st:St}{fin:St→R Fl}(nb:finR h (.ex c cl st) fin≠.bad):∃ st₂,fin { st with hd:=if cl then 1 else 2 }=.ok .next st₂∧finR h (.ex c cl st) fin=.ex c cl { st₂ with hd:=h }:=by
 unfold finR at nb ⊢
 dsimp only at nb ⊢
 revert nb
 cases fin { st with hd:=if cl then 1 else 2 } with
 | ok x st₂=>cases x <;> first | exact fun _=>⟨_,rfl,rfl⟩ | exact fun nb=>(nb rfl).elim
 | _=>exact fun nb=>(nb rfl).elim
theorem Ok.foot {fs:List Stmt}{body:St→R Fl}{st₂:St}{Q:Flow→Shared→Prop}{E:Value→Shared→Prop}(a:Ok W fx (PySem.execs fs fx.env) β δ st (body st) (gF W))(q:body st=.ok .next st₂)(inv:Inv W fx β δ st s.heap)
  (hQ:∀ β' δ' s',Inv W fx β' δ' st₂ s'.heap→Go fx β δ st s.heap β' δ' st₂ s'.heap→s'={ s with heap:=s'.heap,toks:=s'.toks }→Q .next s'):wpAny (model W.prog W.w) fx.A (PySem.execs fs fx.env) Q E s:=by
 refine wpAny_mono (a (by rw [q];nofun) s inv) (fun g s' h=>?_) fun _ _ ⟨_,_,_,_,_,_,e2,_⟩=>by rw [q] at e2;exact absurd e2 nofun
 obtain⟨v,st₃,β₃,δ₃,e2,g2,i2,o2,q2⟩:=h
 rw [q] at e2
 cases e2
 cases g <;> first | exact g2.elim | exact hQ β₃ δ₃ s' i2 o2 q2
set_option backward.match.sparseCases true in
theorem fin_plain {f0:Stmt}{fs:List Stmt}{fin:St→R Fl}{r:R Fl}{f:Fl}{F:Flow}{st₁:St}{β₁ δ₁:Nat→Addr}{s₁:Shared}{E:Value→Shared→Prop}(hf:∀ β δ st,Ok W fx (PySem.execs (f0 :: fs) fx.env) β δ st (fin st) (gF W))(e:finR st.hd (.ok f st₁) fin=r)(nb:r≠.bad)
  (g1:FlR W β₁ st₁.next f F) (i1:Inv W fx β₁ δ₁ st₁ s₁.heap) (o1:Go fx β δ st s.heap β₁ δ₁ st₁ s₁.heap) (q1:s₁={ s with heap:=s₁.heap,toks:=s₁.toks }) :
  wpAny (model W.prog W.w) fx.A (PySem.execs (f0 :: fs) fx.env) (fun g s'=>match g with | .next=>After W fx β δ st s r (gF W) F s' | g=>After W fx β δ st s r (gF W) g s') E s₁:=by
 subst e
 refine xo1_2 (finR_ok nb) fun st₂ q e=>?_
 rw [e]
 refine (hf β₁ δ₁ st₁).foot q i1 fun β₃ δ₃ s' i2 o2 q2=>⟨f,st₂,β₃,δ₃,rfl,?_,i2,o1.trans o2,same_trans q1 q2⟩
 cases f <;> cases F <;> first | exact g1 | exact VR.mono g1 o2.next fun l hl=>(o2.same l hl).1
theorem fin_ok {b:List Stmt}{f0:Stmt}{fs:List Stmt}{p:Pos}{body fin:St→R Fl}(hb:Ok W fx (PySem.execs b fx.env) β δ st (body st) (gF W))(hf:∀ β δ st,Ok W fx (PySem.execs (f0 :: fs) fx.env) β δ st (fin st) (gF W))
  (hm:∀ e β δ st,Ok W (fx.mark e) (PySem.execs (f0 :: fs) fx.env) β δ st (fin st) (gF W)):Ok W fx (PySem.exec (.Try b [] [] (f0 :: fs) p) fx.env) β δ st (finR st.hd (body st) fin) (gF W):=fun nb s inv=>by
 have nb1:body st≠.bad:=fun q=>nb (by rw [q];rfl)
 generalize hr:finR st.hd (body st) fin=r at nb ⊢
 refine wpAny_Try_finally (wpAny_mono (hb nb1 s inv) (fun F s₁ h=>?_) fun e s₁ h=>?_)
 ·obtain⟨f,st₁,β₁,δ₁,e1,g1,i1,o1,q1⟩:=h
  rw [e1] at hr
  have:=fin_plain (E:=notedBy (model W.prog W.w) fx.A fx.env (cameBackBy (model W.prog W.w) fx.A fx.env (Raised W fx β δ st s r))) hf hr nb g1 i1 o1 q1
  cases F with
  | next=>exact wpAny_execs_nil this
  | _=>exact this
 ·refine Raised.note inv h fun s₂ p₂=>?_
  obtain⟨c,cl,st₁,β₁,δ₁,e',e1,e2,_⟩:=p₂.1
  subst e2
  refine⟨ref_ne_byPass _,Raised.note inv p₂.1 fun s₃ p₃=>RaisedT.flight inv p₃ _ fun s₄ p₄=>?_⟩
  clear e1 p₂ p₃
  obtain⟨c',cl',st₂,β₂,δ₂,ad,x1,x2,x3,x4,x5,x6⟩:=p₄.1
  cases x2
  rw [x1] at hr
  subst hr
  refine xo1_2 (finR_ex nb) fun st₃ q e=>?_
  rw [e]
  have w:({ ({ st₂ with hd:=if cl' then 1 else 2 }:St) with hd:=st.hd }:St)=st₂:=by rw [← x5.hd]
  have g0:Go fx β δ st s.heap β₂ δ₂ { ({ st₂ with hd:=if cl' then 1 else 2 }:St) with hd:=st.hd } s₄.heap:=by rw [w];exact x5
  refine (hm _ β₂ δ₂ _).foot q (x4.mark x3) fun β₃ δ₃ s' i2 o2 q2=>?_
  have g:=g0.trans (o2.unmark.reHd (n:=st.hd))
  refine xo3_3 (p₄.2 _ rfl) fun oe vs T t1 t2 t3=>?_
  refine RaisedT.pass inv (r:=(.ex c' cl' { st₃ with hd:=st.hd }:R Fl)) ⟨⟨c',cl',_,β₃,δ₃,_,rfl,rfl,(show ExcSt (Free fx β₃ δ₃ st₃.next) s'.heap _ _ _ _ from x3.go (st:={ st₂ with hd:=if cl' then 1 else 2 }) (st':=st₃) o2.unmark),i2.unmark inv g,g,same_trans x6 q2⟩,fun e he=>?_⟩ fun s'' z=>z.1
  cases he
  exact⟨oe,vs,T,o2.keep _ _ t1 x3.free.1 x3.free.2,t2,t3⟩
end
end Mine
end
section
open PySem PySem.W PyProof.Rows PySem.Calls PySem.SeqAt
namespace Mine
section
variable {W:Wd}{C:Nat→List AV→St→R AV}
theorem noSwap {gl:Nat→Bool}{kd:List (Nat×NameKind)}{e:E}(hw:(e.wf gl kd&&notComp e)=true){t:Option Expr}{l:Nat}{env:Env}:swapsWith (e.dec W.nm W.sc) t l env=Pure.pure false:=by
 have hw:=(bAnd hw).2
 cases e <;> first | rfl | exact ftE hw
theorem noSet {e:E}{env:Env}{x:Value}:foldedSetIterable (e.dec W.nm W.sc) env x=Pure.pure x:=by cases e <;> rfl
theorem noPairs {t:T}{e:E}(h:(match t,e with | .tup ..,.tup ..=>false | _,_=>true)=true){env:Env}:swappedStores [t.dec W.nm W.sc] (e.dec W.nm W.sc) env=Pure.pure none:=by
 cases t <;> first | rfl | (cases e <;> first | rfl | cases h)
theorem oneEach {t:T}{env:Env}:assignEach [t.dec W.nm W.sc] env=[(false,assign (t.dec W.nm W.sc) env)]:=by
 cases t <;> rfl
theorem handle_step (W:Wd)(C:Nat→List AV→St→R AV){fx:Fx}{β δ:Nat→Addr}{st:St}{s:Shared}(Z:Ctxs W fx C){d:Nat}{np q:Pos}{b0:Stmt}{bs rest:List Stmt}{hs:List ExceptHandler}{body next:St→R Fl}{r0:R Fl}{c:Nat}{cl:Bool}{st₁:St}{e:Addr}{s₁:Shared}
  (hw:(E.gv d np).wf W.gl fx.kd=true) (inv:Inv W fx β δ st s.heap) (hr:r0=.ex c cl st₁) (p:RaisedT W fx β δ st s r0 (.ref e) s₁) (hc:c∈W.g.excs∧d∈W.g.excs)
  (hb:∀ β δ st,Ok W (fx.mark e) (PySem.execs (b0 :: bs) fx.env) β δ st (body st) (gF W)) (nb:(if c=d then (body { st₁ with hd:=if cl then 1 else 2 }).reHd st.hd else next st₁)≠.bad)
  (hn:c≠d→wpAny (model W.prog W.w) fx.A (handleBy (.ref e) fx.env hs) (After W fx β δ st s (next st₁) (gF W)) (Raised W fx β δ st s (next st₁)) s₁) :
  wpAny (model W.prog W.w) fx.A (handleBy (.ref e) fx.env (.ExceptHandler (some (.Name (W.nm d) np)) none (b0 :: bs) q :: hs)) (After W fx β δ st s (if c=d then (body { st₁ with hd:=if cl then 1 else 2 }).reHd st.hd else next st₁) (gF W))
   (Raised W fx β δ st s (if c=d then (body { st₁ with hd:=if cl then 1 else 2 }).reHd st.hd else next st₁)) s₁:=by
 refine wpAny_handleBy_cons ?_ (ref_ne_byPass e)
 obtain⟨c',cl',st₂,β₂,δ₂,ad,e1,e2,e3,e4,e5,e6⟩:=p.1
 rw [hr] at e1
 cases e1;cases e2
 have i':=e4.mark e3
 refine xo2_4 e3.obj fun oe vs a1 a2 a3 _=>?_
 refine codeAny_handlers_test ?_
 refine gv_at (fx:=fx.mark e) Z.here.B hw i' ?_
 refine Z.xm c d hc.1 hc.2 _ _ _ _ e oe _ e4.stays a1 a2 ⟨vs,a3⟩ ?_
 by_cases q:c=d
 ·rw [if_pos q] at nb ⊢
  rw [decide_eq_true q]
  exact codeAny_mono (suite_ok (E':=fun _ _=>True) inv hr p hb nb) fun r s' h=>by cases r <;> exact h
 ·rw [if_neg q] at nb ⊢
  rw [decide_eq_false q]
  exact hn q
abbrev PS (W:Wd) (C:Nat→List AV→St→R AV) (s:S):Prop:=∀ (fx:Fx),Ctxs W fx C→s.wf W.gl W.g fx.kd=true→∀ β δ st,Ok W fx (PySem.exec (s.dec W.nm W.sc) fx.env) β δ st (exec W.g C s st) (gF W)
abbrev PSs (W:Wd) (C:Nat→List AV→St→R AV) (ss:Ss):Prop:=∀ (fx:Fx),Ctxs W fx C→ss.wf W.gl W.g fx.kd=true→∀ β δ st,Ok W fx (PySem.execs (ss.dec W.nm W.sc) fx.env) β δ st (execs W.g C ss st) (gF W)
abbrev PH (W:Wd) (C:Nat→List AV→St→R AV) (hs:Hs):Prop:=∀ (fx:Fx),Ctxs W fx C→hs.wf W.gl W.g fx.kd=true→∀ {β δ:Nat→Addr} {st:St} {s:Shared} {r0:R Fl} {c:Nat} {cl:Bool} {st₁:St} {e:Addr} {s₁:Shared},Inv W fx β δ st s.heap→r0=.ex c cl st₁→RaisedT W fx β δ st s r0 (.ref e) s₁→
 handle W.g C st.hd hs c cl st₁≠.bad→wpAny (model W.prog W.w) fx.A (handleBy (.ref e) fx.env (hs.dec W.nm W.sc)) (After W fx β δ st s (handle W.g C st.hd hs c cl st₁) (gF W)) (Raised W fx β δ st s (handle W.g C st.hd hs c cl st₁)) s₁
section
variable {fx:Fx}{β δ:Nat→Addr}{st:St}
theorem drop_ok {V:Value}{e:Expr}{p:Pos}:Ok W fx (dropValue e p V) β δ st (.ok .next st) (gF W):=fun _ _ inv=>wpAny_dropValue (.now inv trivial)
theorem ps_expr (e:E)(p:Pos):PS W C (.expr e p):=fun fx Z hw β δ st nb s inv=>by
 show wpAny _ _ (PySem.exec (.Expr (e.dec W.nm W.sc) p) fx.env) _ _ s
 rw [exec_Expr fx.env (e.dec W.nm W.sc) p (by unfold interactive;rw [inv.ok.kind];rfl) (noSwap hw)]
 exact (show Ok W fx _ β δ st ((evalE W.g C e st).bnd fun _ s=>.ok Fl.next s) (gF W) from .stand (.bind (evalE_ok Z.here e (bAnd hw).1 β δ st) fun v st' β' δ' V _ g _ _=>drop_ok)) nb s inv
theorem ps_asg (t:T)(e:E)(p:Pos):PS W C (.asg t e p):=fun fx Z hw β δ st=>by
 refine xo0_2 (bAnd hw) fun h12 h3=>?_
 refine xo0_2 (bAnd h12) fun h1 h2=>?_
 show Ok W fx (PySem.exec (.Assign [t.dec W.nm W.sc] (e.dec W.nm W.sc) p) fx.env) β δ st ((evalE W.g C e st).bnd fun v s=>(asgT W.g C t v s).bnd fun _ s=>.ok .next s) (gF W)
 rw [arm_exec_Assign,oneEach,show swapsWithSole [t.dec W.nm W.sc] (e.dec W.nm W.sc) p.line fx.env=Pure.pure false from noSwap h2,noPairs h3]
 refine .stand (.pureBind ?_)
 simp only [Bool.false_eq_true,if_false]
 refine .bind (evalE_ok Z.here e (bAnd h2).1 β δ st) fun v st' β' δ' V _ g _ _=>.pureBind ?_
 show Ok W fx (assign (t.dec W.nm W.sc) fx.env V >>= fun _=>Pure.pure Flow.next) _ _ _ _ _
 exact Ok.bnd1 (good':=gF W) (k':=fun _=>Flow.next) (asgT_ok Z.here h1 g) fun _ st' β' δ' _ _ _=>⟨.next,rfl,trivial⟩
theorem aug_fin (B:Base W){i:Nat}{np:Pos}{Va V:Value}{z:Int}{tm:Sem Value}(hi:fx.kd.lookup i=some .local)(hm:∀ s Q (E:Value→Shared→Prop),Q (.int z s.toks) { s with toks:=s.toks+1 }→wpAny (model W.prog W.w) fx.A tm Q E s) :
  Ok W fx (operate [Va,V] tm >>= fun new=>standAt np >>= fun _=>bindName fx.env (W.nm i) new >>= fun _=>Pure.pure Flow.next) β δ st (.ok .next (st.put i (.int z))) (gF W):=fun nb s inv=>by
 refine wpAny_bind (wpAny_operate' (hm s _ _ (wpAny_bind (wpAny_standAt ?_))))
 have key:=Ok.bnd1 (good':=gF W) (k':=fun _:Unit=>Flow.next) (k:=fun _ s=>R.ok Fl.next s) (bind_ok (fx:=fx) (β:=β) (δ:=δ) (st:=st) (i:=i) (v:=.int z) (V:=.int z s.toks) B hi ⟨_,rfl⟩) (fun _ st' β' δ' _ _ _=>⟨.next,rfl,trivial⟩)
 exact wpAny_mono (key (by nofun) { s with toks:=s.toks+1 } (show Inv W fx β δ st ({ s with toks:=s.toks+1 }:Shared).heap from inv)) (fun _ _ h=>h.toks) fun _ _ h=>h.toks
theorem ps_aug (i:Nat)(np:Pos)(o:Op)(e:E)(p:Pos):PS W C (.aug i np o e p):=fun fx Z hw β δ st=>by
 refine xo0_2 (bAnd hw) fun h1 h2=>?_
 show Ok W fx (PySem.exec (.AugAssign (.Name (W.nm i) np) o.dec (e.dec W.nm W.sc) p) fx.env) β δ st (match get? st.loc i with | some a=>(evalE W.g C e st).bnd fun b s=>asInt a fun x=>asInt b fun y=>augR o i x y s | none=>.bad) (gF W)
 rw [arm_exec_AugAssign]
 cases qx:get? st.loc i with
 | none=>exact .bad
 | some a=>
  intro nb s inv
  have hk:fx.env.kindOf (W.nm i)=some .local:=(kindOf_nm Z.here.B inv.ok i).trans (eq_of_beq h1)
  refine xo1_2 inv.loc fun m a1 a2=>?_
  refine xo1_2 ((a2 i a qx).dic (by rw [eq_of_beq h1];nofun)) fun Va b1 b2=>?_
  refine wpAny_bind (wpAny_standAt (wpAny_bind (wpAny_loadName_local inv.ok.kind hk (inv.ok.locals ▸ a1) b1 ?_)))
  refine (show Ok W fx _ β δ st ((evalE W.g C e st).bnd _) (gF W) from .bind (.hold (evalE_ok Z.here e h2 β δ st)) fun v st' β' δ' V _ g n1 s1=>.stand ?_) nb s inv
  have ga:=b2.mono n1 fun l hl=>(s1 l hl).1
  cases a with
  | int x=>
   cases v with
   | int y=>
    obtain⟨t,rfl⟩:=ga;obtain⟨u,rfl⟩:=g
    cases o with
    | add=>exact aug_fin Z.here.B (eq_of_beq h1) fun s Q E h=>P.iadd_int h
    | sub=>exact aug_fin Z.here.B (eq_of_beq h1) fun s Q E h=>P.isub_int h
    | _=>exact .bad
   | _=>exact .bad
  | _=>exact .bad
theorem ps_ife (t:E)(a b:Ss)(p:Pos)(ia:PSs W C a)(ib:PSs W C b):PS W C (.ife t a b p):=fun fx Z hw β δ st=>by
 refine xo0_2 (bAnd hw) fun h12 h3=>?_
 refine xo0_2 (bAnd h12) fun h1 h2=>?_
 show Ok W fx (PySem.exec (.If (t.dec W.nm W.sc) (a.dec W.nm W.sc) (b.dec W.nm W.sc) p) fx.env) β δ st ((evalT W.g C t st).bnd fun x s=>if x then execs W.g C a s else execs W.g C b s) (gF W)
 rw [arm_exec_If]
 exact .stand (.bind (evalT_ok Z.here t h1 β δ st) fun v st' β' δ' x _ g _ _=>by cases g;exact .ite (fun _=>ia fx Z h2 β' δ' st') fun _=>ib fx Z h3 β' δ' st')
theorem ps_whl (t:E)(b:Ss)(p:Pos)(ib:PSs W C b):PS W C (.whl t b p):=fun fx Z hw β δ st=>by
 refine xo0_2 (bAnd hw) fun h1 h2=>?_
 exact while_ok (fun β δ st=>evalT_ok Z.here t h1 β δ st) (fun β δ st=>ib fx Z h2 β δ st) _ _
theorem ps_for (t:T)(e:E)(b:Ss)(p:Pos)(ib:PSs W C b):PS W C (.for t e b p):=fun fx Z hw β δ st=>by
 refine xo0_2 (bAnd hw) fun h123 h4=>?_
 refine xo0_2 (bAnd h123) fun h12 h3=>?_
 refine xo0_2 (bAnd h12) fun h1 h2=>?_
 show Ok W fx (PySem.exec (.For (t.dec W.nm W.sc) (e.dec W.nm W.sc) (b.dec W.nm W.sc) [] p) fx.env) β δ st ((evalE W.g C e st).bnd fun v s=>(match iterOf v s with
  | some it=>forN it (fun x s=>asgT W.g C t x s) (fun s=>execs W.g C b s) W.g.lf 0 s
  | none=>.bad)) (gF W)
 rw [arm_exec_For]
 refine .stand (.bind (evalE_ok Z.here e h2 β δ st) fun v st' β' δ' V _ g _ _=>?_)
 rw [noSet]
 refine .pureBind ?_
 cases hi:iterOf v st' with
 | none=>exact .bad
 | some it=>
  refine for_ok Z.here g hi (fun β δ st x X hx=>asgT_ok Z.here h1 hx) (fun β δ st=>ib fx Z h3 β δ st) _ fun it v=>?_
  cases t <;> first | exact .inl rfl | exact .inr ⟨_,_,_,rfl⟩
theorem ps_ret (e:E)(p:Pos):PS W C (.ret e p):=fun fx Z hw β δ st=>by
 show Ok W fx (PySem.exec (.Return (some (e.dec W.nm W.sc)) p) fx.env) β δ st ((evalE W.g C e st).bnd fun v s=>.ok (.ret v) s) (gF W)
 rw [exec_Return_some]
 exact .stand (.bind (evalE_ok Z.here e hw β δ st) fun v st' β' δ' V _ g _ _=>.pure g)
theorem ps_ret0 (p:Pos):PS W C (.ret0 p):=fun fx Z hw β δ st=>by
 show Ok W fx (PySem.exec (.Return none p) fx.env) β δ st (.ok (.ret .none) st) (gF W)
 rw [exec_Return_none]
 exact .stand (.pure rfl)
theorem ps_raise (c:Nat)(np:Pos)(e:E)(cp p:Pos):PS W C (.raise c np e cp p):=fun fx Z hw β δ st=>by
 refine xo0_2 (bAnd hw) fun h12 h3=>?_
 refine xo0_2 (bAnd h12) fun h1 h2=>?_
 exact raise_ok Z.here (Z.xo c (of_decide_eq_true h3)) h1 h2
theorem ps_try (b:Ss)(hs:Hs)(p:Pos)(ib:PSs W C b)(ih:PH W C hs):PS W C (.try b hs p):=fun fx Z hw β δ st=>by
 refine xo0_2 (bAnd hw) fun h12 h3=>?_
 refine xo0_2 (bAnd h12) fun h1 h2=>?_
 show Ok W fx (PySem.exec (.Try (b.dec W.nm W.sc) (hs.dec W.nm W.sc) [] [] p) fx.env) β δ st (match execs W.g C b st with | .ok f s=>R.ok f s | .ex c cl s'=>handle W.g C st.hd hs c cl s' | .bad=>.bad) (gF W)
 intro nb s inv
 have nb1:execs W.g C b st≠.bad:=fun q=>nb (by rw [q])
 have ob:=ib fx Z h1 β δ st nb1 s inv
 obtain⟨h0,hs',eh⟩:∃ h0 hs',hs.dec W.nm W.sc=h0 :: hs':=by cases hs with | nil=>cases h3 | cons=>exact⟨_,_,rfl⟩
 rw [eh]
 refine wpAny_Try_except (wpAny_mono ob (fun f s₁ h=>?_) fun e s₁ h=>?_)
 ·obtain⟨v,st₁,β₁,δ₁,e1,g1,g2⟩:=h
  rw [e1]
  cases f with
  | next=>exact wpAny_execs_nil ⟨v,st₁,β₁,δ₁,rfl,g1,g2⟩
  | _=>exact⟨v,st₁,β₁,δ₁,rfl,g1,g2⟩
 ·refine Raised.note inv h fun s₂ p₂=>RaisedT.flight inv p₂ _ fun s₃ p₃=>?_
  obtain⟨c,cl,st₁,β₁,δ₁,e',e1,e2,_⟩:=p₃.1
  subst e2
  rw [e1] at nb ⊢
  rw [← eh]
  exact ih fx Z h2 inv e1 p₃ nb
theorem ps_fin (b f:Ss)(p:Pos)(ib:PSs W C b)(iF:PSs W C f):PS W C (.fin b f p):=fun fx Z hw β δ st=>by
 refine xo0_2 (bAnd hw) fun h12 h3=>?_
 refine xo0_2 (bAnd h12) fun h1 h2=>?_
 cases f with
 | nil=>exact ftE h3
 | cons a r=>exact fin_ok (fs:=r.dec W.nm W.sc) (ib fx Z h1 β δ st) (fun β δ st=>iF fx Z h2 β δ st) fun e β δ st=>iF (fx.mark e) (Z.mark e) h2 β δ st
theorem ps_assert (e:E)(p:Pos):PS W C (.assert e p):=fun fx Z hw β δ st=>by
 show Ok W fx (PySem.exec (.Assert (e.dec W.nm W.sc) none p) fx.env) β δ st ((evalT W.g C e st).bnd fun b s=>if b then .ok .next s else .bad) (gF W)
 rw [arm_exec_Assert]
 refine .stand (.bind (evalT_ok Z.here e hw β δ st) fun v st' β' δ' x _ g _ _=>?_)
 cases g
 cases v with
 | true=>exact .pure trivial
 | false=>exact .bad
theorem ps_cont (p:Pos):PS W C (.cont p):=fun fx Z hw β δ st=>by
 show Ok W fx (PySem.exec (.Continue p) fx.env) β δ st (.ok .cont st) (gF W)
 rw [arm_exec_Continue]
 exact .stand (.pure trivial)
theorem pss_nil:PSs W C .nil:=fun _ _ _ _ _ _=>.pure trivial
theorem pss_cons (a:S)(r:Ss)(ia:PS W C a)(ir:PSs W C r):PSs W C (.cons a r):=fun fx Z hw β δ st=>by
 refine xo0_2 (bAnd hw) fun h1 h2=>?_
 show Ok W fx (PySem.execs (a.dec W.nm W.sc :: r.dec W.nm W.sc) fx.env) β δ st ((exec W.g C a st).bnd fun f s=>(match f with | .next=>execs W.g C r s | f=>.ok f s)) (gF W)
 rw [arm_execs_cons]
 refine .bind (ia fx Z h1 β δ st) fun f st' β' δ' F _ g _ _=>?_
 rcases FlR.next g with⟨rfl,rfl⟩ | ⟨rfl,rfl⟩ | ⟨rfl,rfl⟩ | ⟨x,V,rfl,rfl,g'⟩
 ·exact ir fx Z h2 β' δ' st'
 ·exact .pure trivial
 ·exact .pure trivial
 ·exact .pure g'
theorem ph_nil:PH W C .nil:=fun fx Z hw β δ st s r0 c cl st₁ e s₁ inv hr p nb=>by
 subst hr
 exact wpAny_handleBy_nil (RaisedT.pass inv p fun s'' z=>z.1)
theorem ph_cons (d:Nat)(np:Pos)(b:Ss)(q:Pos)(r:Hs)(ib:PSs W C b)(ir:PH W C r):PH W C (.cons d np b q r):=fun fx Z hw β δ st s r0 c cl st₁ e s₁ inv hr p nb=>by
 refine xo0_2 (bAnd hw) fun h123 h4=>?_
 refine xo0_2 (bAnd h123) fun h12 h3=>?_
 refine xo0_2 (bAnd h12) fun h1 h2=>?_
 have eh:handle W.g C st.hd (.cons d np b q r) c cl st₁=if c∈W.g.excs∧d∈W.g.excs then (if c=d then (execs W.g C b { st₁ with hd:=if cl then 1 else 2 }).reHd st.hd else handle W.g C st.hd r c cl st₁) else .bad:=rfl
 rw [eh] at nb ⊢
 by_cases hc:c∈W.g.excs∧d∈W.g.excs
 ·rw [if_pos hc] at nb ⊢
  cases b with
  | nil=>exact ftE h3
  | cons a bs=>
   exact handle_step W C Z (rest:=[]) (body:=fun s=>execs W.g C (.cons a bs) s) (next:=fun s=>handle W.g C st.hd r c cl s) h1 inv hr p hc (fun β δ st=>ib (fx.mark e) (Z.mark e) h2 β δ st) nb fun hne=>ir fx Z h4 inv hr p (by rw [if_neg hne] at nb;exact nb)
 ·rw [if_neg hc] at nb
  exact (nb rfl).elim
theorem pss_all (ss:Ss):PSs W C ss:=
 Ss.rec (motive_1:=PS W C) (motive_2:=PSs W C) (motive_3:=PH W C) ps_expr ps_asg ps_aug ps_ife ps_whl ps_for ps_ret ps_ret0 ps_raise ps_try ps_fin ps_assert ps_cont pss_nil pss_cons ph_nil ph_cons ss
theorem execs_ok (ss:Ss)(fx:Fx)(Z:Ctxs W fx C)(hw:ss.wf W.gl W.g fx.kd=true)(β δ:Nat→Addr)(st:St):Ok W fx (PySem.execs (ss.dec W.nm W.sc) fx.env) β δ st (execs W.g C ss st) (gF W):=pss_all ss fx Z hw β δ st
end
end
end Mine
end
section
open PySem PySem.W PyProof.Rows PySem.Calls PySem.SeqAt
namespace Mine
theorem lp_same (L:List (Nat×AV))(i:Nat)(v:AV):get? (put L i v) i=some v:=by
 induction L with
 | nil=>show get? [(_,_)] _=_;rw [get_c,if_pos rfl]
 | cons x r ih=>
  obtain⟨a,b⟩:=x
  rw [put_c]
  by_cases q:i=a
  ·rw [if_pos q];rw [get_c];rw [if_pos q]
  ·rw [if_neg q];rw [get_c];rw [if_neg q];exact ih
theorem lp_ne (L:List (Nat×AV)){i j:Nat}(v:AV)(h:j≠i):get? (put L i v) j=get? L j:=by
 induction L with
 | nil=>show get? [(_,_)] _=_;rw [get_c,if_neg h]
 | cons x r ih=>
  obtain⟨a,b⟩:=x
  rw [put_c]
  by_cases q:i=a
  ·rw [if_pos q,get_c,get_c,if_neg (q ▸ h),if_neg (q ▸ h)]
  ·rw [if_neg q,get_c,get_c]
   by_cases w:j=a
   ·rw [if_pos w,if_pos w]
   ·rw [if_neg w,if_neg w];exact ih
theorem laidL_out {i:Nat}:∀ {cs:List Nat}{n:Nat}{L:List (Nat×AV)},i ∉ cs→get? (laidL cs n L) i=get? L i:=by
 intro cs
 induction cs with
 | nil=>intro n L _;rfl
 | cons a r ih=>intro n L h;exact (ih fun q=>h (.tail _ q)).trans (lp_ne _ _ fun q=>h (q ▸ .head _))
theorem laidL_in:∀ {cs:List Nat}{n:Nat}{L:List (Nat×AV)},cs.Nodup→∀ {j i:Nat},cs[j]?=some i→get? (laidL cs n L) i=some (.loc (n+j)):=by
 intro cs
 induction cs with
 | nil=>intro n L _ j i h;cases h
 | cons a r ih=>
  intro n L nd j i h
  have nd:=List.nodup_cons.mp nd
  cases j with
  | zero=>cases h;exact (laidL_out nd.1).trans (lp_same ..)
  | succ j=>rw [show n+(j+1)=n+1+j by lia];exact ih nd.2 h
theorem laidH_loc {A:List (Nat×AV)}:∀ {cs:List Nat}{L:List (Nat×AV)}{s:St},laidH cs L { s with loc:=A }={ laidH cs L s with loc:=A }:=by
 intro cs
 induction cs with
 | nil=>intro L s;rfl
 | cons a r ih=>intro L s;exact ih (s:=s.new _)
theorem laidH_hd:∀ {cs:List Nat}{L:List (Nat×AV)}{s:St},(laidH cs L s).hd=s.hd∧(laidH cs L s).next=s.next+cs.length:=by
 intro cs
 induction cs with
 | nil=>intro L s;exact⟨rfl,rfl⟩
 | cons a r ih=>intro L s;exact⟨(ih (s:=s.new _)).1,(ih (s:=s.new _)).2.trans (by show s.next+1+r.length=s.next+(r.length+1);lia)⟩
section
variable {W:Wd}{fx:Fx}{h:Heap}{A:Around}{s:Shared}
theorem Inv.cells {L:List (Nat×AV)}:∀ (cs:List Nat){β δ:Nat→Addr}{st:St}{a₀:Nat},Inv W fx β δ st h→(∀ j i,cs[j]?=some i→∃ V,h.IsCell (a₀+j) V∧∀ (β':Nat→Addr) n,st.next≤n→(∀ l,l < st.next→β' l=β l)→OVR W β' n (get? L i) V)→(∀ j,j < cs.length→NewAt W fx β δ st (a₀+j))→
  ∃ β' δ',Inv W fx β' δ' (laidH cs L st) h∧(∀ l,l < st.next→β' l=β l∧δ' l=δ l)∧∀ j,j < cs.length→β' (st.next+j)=a₀+j∧δ' (st.next+j)=a₀+j:=by
 intro cs
 induction cs with
 | nil=>intro β δ st a₀ inv _ _;exact⟨β,δ,inv,fun _ _=>⟨rfl,rfl⟩,fun j hj=>absurd hj (Nat.not_lt_zero _)⟩
 | cons a r ih=>
  intro β δ st a₀ inv hc hn
  obtain⟨V,c1,c2⟩:=hc 0 a rfl
  have N:=hn 0 (Nat.succ_pos _)
  rw [Nat.add_zero] at c1 N
  obtain⟨o,ho,hd⟩:=c1
  have inv1:Inv W fx (ext β st.next a₀) (ext δ st.next a₀) (st.new (.cell (get? L a))) h:=inv.adopt (fun _ _ e=>e) N N ⟨o,ho⟩ ⟨o,ho⟩ ⟨V,by rw [ext_eq];exact⟨o,ho,hd⟩,c2 _ _ (Nat.le_succ _) fun l hl=>ext_lt hl⟩
  obtain⟨β',δ',i1,s1,p1⟩:=ih (a₀:=a₀+1) inv1 (fun j i e=>by
    obtain⟨V,c1,c2⟩:=hc (j+1) i e
    rw [show a₀+(j+1)=a₀+1+j by lia] at c1
    exact⟨V,c1,fun β' n h1 h2=>c2 β' n (Nat.le_trans (Nat.le_succ _) h1) fun l hl=>(h2 l (Nat.lt_succ_of_lt hl)).trans (ext_lt hl)⟩)
   (fun j hj=>by
    have M:=hn (j+1) (Nat.succ_lt_succ hj)
    rw [show a₀+(j+1)=a₀+1+j by lia] at M
    refine⟨?_,M.frs,M.base,M.held⟩
    rintro⟨l,hl,e⟩
    have hl:l < st.next+1:=hl
    by_cases q:l=st.next
    ·rw [q,ext_eq,ext_eq] at e
     have:a₀+1+j=a₀:=e.elim id id
     (clear q hl hj;lia)
    ·have hl':l < st.next:=by lia
     rw [ext_lt hl',ext_lt hl'] at e
     exact M.own ⟨l,hl',e⟩)
  refine⟨β',δ',i1,fun l hl=>?_,fun j hj=>?_⟩
  ·have:=s1 l (Nat.lt_succ_of_lt hl)
   exact⟨this.1.trans (ext_lt hl),this.2.trans (ext_lt hl)⟩
  ·cases j with
   | zero=>
    have:=s1 st.next (Nat.lt_succ_self _)
    exact⟨this.1.trans ext_eq,this.2.trans ext_eq⟩
   | succ j=>
    have:=p1 j (Nat.lt_of_succ_lt_succ hj)
    rw [show st.next+(j+1)=(st.new (.cell (get? L a))).next+j by show _=st.next+1+j;lia,show a₀+(j+1)=a₀+1+j by lia]
    exact this
theorem Inv.reloc {β δ:Nat→Addr}{st:St}{L:List (Nat×AV)}{m:Str→Option Value}(inv:Inv W fx β δ st h)(hn:h.Ns fx.L m)(hl:∀ i v,get? L i=some v→LocAt W fx β st.next m i v):Inv W fx β δ { st with loc:=L } h:=
 ⟨inv.ok,⟨inv.rel.some_lt,inv.rel.lt_some,inv.rel.obj,inv.rel.bb,inv.rel.dd,inv.rel.bd,inv.rel.base,inv.rel.live⟩,⟨m,hn,hl⟩,inv.stays,inv.ff,inv.apart,inv.basefr,inv.hd⟩
noncomputable def cellsK (kd:List (Nat×NameKind)):List Nat:=(kd.filter fun x=>x.2 == .cell).map (·.1)
theorem cellsK_mem {kd:List (Nat×NameKind)}{i:Nat}(e:kd.lookup i=some .cell):i∈cellsK kd:=by
 induction kd with
 | nil=>cases e
 | cons p r ih=>
  obtain⟨a,k⟩:=p
  rw [List.lookup_cons] at e
  by_cases q:i=a
  ·rw [beq_iff_eq.mpr q] at e
   cases e
   subst q
   exact List.mem_map.mpr ⟨(i,.cell),List.mem_filter.mpr ⟨.head _,rfl⟩,rfl⟩
  ·rw [beq_eq_false_iff_ne.mpr q] at e
   obtain⟨y,h1,h2⟩:=List.mem_map.mp (ih e)
   obtain⟨h3,h4⟩:=List.mem_filter.mp h1
   exact List.mem_map.mpr ⟨y,List.mem_filter.mpr ⟨.tail _ h3,h4⟩,h2⟩
theorem cellsFrom_at (B:Base W):∀ {kd:List (Nat×NameKind)}{n:Nat}{acc:List (Str×Addr)},(cellsK kd).Nodup→
  (∀ j i,(cellsK kd)[j]?=some i→(cellsFrom n (kd.map fun x=>(W.nm x.1,x.2)) acc).lookup (W.nm i)=some (n+j))∧∀ i,i ∉ cellsK kd→(cellsFrom n (kd.map fun x=>(W.nm x.1,x.2)) acc).lookup (W.nm i)=acc.lookup (W.nm i):=by
 intro kd
 induction kd with
 | nil=>intro n acc _;exact⟨fun j i e=>(by cases e),fun i _=>rfl⟩
 | cons p r ih=>
  obtain⟨a,k⟩:=p
  intro n acc nd
  rw [List.map_cons]
  unfold cellsFrom
  by_cases q:k=.cell
  ·subst q
   rw [if_pos (show ((a,NameKind.cell).snd == NameKind.cell)=true from rfl)]
   have nd:(a :: cellsK r).Nodup:=nd
   have nd:=List.nodup_cons.mp nd
   have:=ih (n:=n+1) (acc:=(W.nm a,n) :: acc) nd.2
   refine⟨fun j i e=>?_,fun i hi=>?_⟩
   ·have e:(a :: cellsK r)[j]?=some i:=e
    cases j with
    | zero=>cases e;rw [this.2 a nd.1,List.lookup_cons,beq_self_eq_true];rfl
    | succ j=>rw [this.1 j i e];congr 1;lia
   ·have hi:i ∉ a :: cellsK r:=hi
    rw [this.2 i fun w=>hi (.tail _ w),List.lookup_cons,beq_eq_false_iff_ne.mpr fun w=>hi (by rw [B.inj _ _ w];exact .head _)]
  ·have q':(k == NameKind.cell)=false:=beq_eq_false_iff_ne.mpr q
   dsimp only
   rw [if_neg (by rw [q'];nofun)]
   have e:cellsK ((a,k) :: r)=cellsK r:=by unfold cellsK;rw [List.filter_cons_of_neg (by rw [q'];nofun)]
   rw [e] at nd ⊢
   exact ih nd
theorem look_snoc {l:List (Str×Value)}{n y:Str}{v:Value}:(l++[(n,v)]).lookup y=(l.lookup y).or (if y=n then some v else none):=by
 induction l with
 | nil=>
  rw [List.nil_append,List.lookup_cons]
  by_cases q:y=n
  ·rw [beq_iff_eq.mpr q,if_pos q];rfl
  ·rw [beq_eq_false_iff_ne.mpr q,if_neg q];rfl
 | cons x r ih=>
  obtain⟨a,b⟩:=x
  rw [List.cons_append,List.lookup_cons,List.lookup_cons,ih]
  split <;> rfl
theorem bindL_at {K:Str→Option NameKind}{y:Str}(hy:K y=some .local):∀ {bs:List (Str×Value)}{m:Str→Option Value},bindL K bs m y=(bs.reverse.lookup y).or (m y):=by
 intro bs
 induction bs with
 | nil=>intro m;rfl
 | cons x r ih=>
  obtain⟨n,v⟩:=x
  intro m
  unfold bindL
  rw [ih,List.reverse_cons,look_snoc]
  by_cases q:y=n
  ·subst q
   rw [if_pos hy,if_pos rfl]
   cases r.reverse.lookup y <;> simp
  ·rw [if_neg q]
   cases r.reverse.lookup y with
   | some _=>rfl
   | none=>split <;> simp [q]
theorem bindC_at {K:Str→Option NameKind}{y:Str}(hy:K y≠some .local):∀ {bs:List (Str×Value)}{m:Str→Option Value},bindC K bs m y=(bs.reverse.lookup y).or (m y):=by
 intro bs
 induction bs with
 | nil=>intro m;rfl
 | cons x r ih=>
  obtain⟨n,v⟩:=x
  intro m
  unfold bindC
  rw [ih,List.reverse_cons,look_snoc]
  by_cases q:y=n
  ·subst q
   rw [if_neg hy,if_pos rfl]
   cases r.reverse.lookup y <;> simp
  ·rw [if_neg q]
   cases r.reverse.lookup y with
   | some _=>rfl
   | none=>split <;> simp [q]
set_option backward.match.sparseCases true in
theorem call_defC {prog:Program}{w:World}{R:Result→Shared→Prop}{a:Addr}{o:Obj}{fd:FuncData}{body:List Stmt}{args:Args}{binds:List (Str×Value)}
  (hroom:A.depth < recursionLimit) (ho:s.heap.get? a=some o) (hdata:o.data=.func fd) (hlim:s.heap.NoLimit) (hcd:s.heap.CodeRec fd.code fd.qualname)
  (hbody:fd.body=.stmts body) (hbind:BindsTo s fd args binds) (hclo:fd.closure=[])
  (hkind:∀ x∈binds,fd.scope.names.lookup x.1=some .local∨(fd.scope.names.lookup x.1=some .cell∧((cellsFrom (s.heap.objs.size+1) fd.scope.names []).lookup x.1).isSome=true))
  (h:∀ s₁,InCallC s (callEnvC fd s.heap.objs.size a).locals (bindL (callEnvC fd s.heap.objs.size a).kindOf binds fun _=>none) (callEnvC fd s.heap.objs.size a).cells
    (bindC (callEnvC fd s.heap.objs.size a).kindOf binds fun _=>none) s₁→
   wpAny (model prog w) (A.deeper (callEnvC fd s.heap.objs.size a)) (PySem.execs body (callEnvC fd s.heap.objs.size a)) (fun f s'=>R (.ok (.ret (match f with | .ret v=>v | _=>.none))) s')
    (fun e s'=>wpAny (model prog w) (A.deeper (callEnvC fd s.heap.objs.size a)) (leaving (callEnvC fd s.heap.objs.size a) e) (fun _ s''=>R (.error e) s'') (fun e' s''=>R (.error e') s'') s') s₁)
  (hco:fd.scope.isCoroutine=false) (hgen:fd.scope.isGenerator=false) (hk:fd.scope.kind=.function) :
  codeAny (model prog w) A (.call (.ref a) args) R s:=by
 refine codeAny_call_function hroom ho hdata hco hgen hbody hcd (hbind _ _ _ _ ?_)
 rw [hclo]
 refine wpAny_newFunctionEnv_cells hk hkind fun env he s' x=>?_
 subst he
 exact⟨hlim.keeps x.toInCall.keep,codeAny_func (h s' x)⟩
end
end Mine
end
section
open PySem PySem.W PyProof.Rows PySem.Calls PySem.SeqAt
namespace Mine
structure FnIs (W:Wd) (f:Nat) (fd:FuncData) (kd:List (Nat×NameKind)):Prop where
 at_:∃ oc od osl,W.K.lookup (W.fa f)=some ⟨oc,od,.func fd,osl⟩
 code:codeIn W.K fd.code fd.qualname=true
 body:fd.body=.stmts ((W.g.fn f).body.dec W.nm W.sc)
 globals:fd.globals=mainGlobals
 builtins:fd.builtins=builtinsNs
 names:fd.scope.names=kd.map fun x=>(W.nm x.1,x.2)
 kind:fd.scope.kind=.function
 co:fd.scope.isCoroutine=false
 gen:fd.scope.isGenerator=false
 clo:fd.closure=[]
 cells:(W.g.fn f).cells=cellsK kd
 cellsN:(cellsK kd).Nodup
 cellsL:∀ i∈cellsK kd,kd.lookup i=some .cell
 params:∀ p∈(W.g.fn f).params,kd.lookup p=some .local∨kd.lookup p=some .cell
 nodup:(W.g.fn f).params.Nodup
 wf:(W.g.fn f).body.wf W.gl W.g kd=true
 bind:∀ (β:Nat→Addr) (n:Nat) (xs:List AV) (Xs:List Value) (ks:List (Nat×AV)) (Ks:List (Str×Value)) (vs:List AV) (s:Shared),W.hb.StaysIn s.heap→(f,xs.length,ks.map (·.1))∈W.g.shapes→VRs W β n xs Xs→KRs W β n ks Ks→
  bindR (W.g.fn f).params (W.g.fn f).dflts xs ks=some vs→∃ Vs,VRs W β n vs Vs∧BindsTo s fd ⟨Xs,Ks⟩ (((W.g.fn f).params.map W.nm).zip Vs)
structure All (W:Wd):Prop where
 B:Base W
 Wo:Words W
 Fu:Funs W
 K:Clss W
 xm:Exms W
 xo:∀ c,c∈W.g.rais→ExcOk W c
 fns:∀ f n ks,(f,n,ks)∈W.g.shapes→∃ fd kd,FnIs W f fd kd
section
variable {W:Wd}{fx:Fx}{β δ β' δ':Nat→Addr}{st st':St}{s:Shared}{h h':Heap}{n:Nat}{C:Nat→List AV→St→R AV}{A:Around}
structure Rm (fx:Fx) (n:Nat):Prop where
 depth:fx.A.depth+2 * n < recursionLimit
 units:fx.A.units+13 * n+20 < cLine
theorem zip_mem {ps:List Nat}:∀ {vs:List AV}{i:Nat}{v:AV},get? (ps.zip vs) i=some v→i∈ps:=by
 induction ps with
 | nil=>intro vs i v e;exact nsE e
 | cons p r ih=>
  intro vs i v e
  cases vs with
  | nil=>exact nsE e
  | cons w vs=>
   have e:(if i=p then some w else get? (r.zip vs) i)=some v:=e
   by_cases q:i=p
   ·exact q ▸ .head _
   ·rw [if_neg q] at e;exact .tail _ (ih e)
theorem look_map (B:Base W){j:Nat}:∀ (l:List (Nat×NameKind)),(l.map fun x=>(W.nm x.1,x.2)).lookup (W.nm j)=l.lookup j:=fun l=>by
 induction l with
 | nil=>rfl
 | cons p r ih=>
  obtain⟨a,b⟩:=p
  rw [List.map_cons,List.lookup_cons,List.lookup_cons]
  by_cases q:j=a
  ·subst q;simp
  ·rw [beq_eq_false_iff_ne.mpr fun w=>q (B.inj _ _ w),beq_eq_false_iff_ne.mpr q];exact ih
theorem FnIs.kindAt {fd:FuncData}{kd:List (Nat×NameKind)}{f:Nat}{L:Addr}(I:FnIs W f fd kd)(B:Base W)(j:Nat):(callEnvC fd L (W.fa f)).kindOf (W.nm j)=kd.lookup j:=by
 show fd.scope.names.lookup (W.nm j)=_
 rw [I.names];exact look_map B kd
theorem FnIs.cellAt {fd:FuncData}{kd:List (Nat×NameKind)}{f:Nat}{L:Addr}(I:FnIs W f fd kd)(B:Base W):∀ i,kd.lookup i=some .cell→∃ a,(callEnvC fd L (W.fa f)).cells.lookup (W.nm i)=some a:=fun i hi=>by
 obtain⟨j,hj⟩:=List.mem_iff_getElem?.mp (cellsK_mem hi)
 refine⟨L+1+j,?_⟩
 show (cellsFrom (L+1) fd.scope.names []).lookup (W.nm i)=_
 rw [I.names]
 exact (cellsFrom_at B I.cellsN).1 j i hj
theorem zip_lookup (B:Base W){ps:List Nat}{vs:List AV}{Vs:List Value}(nd:ps.Nodup)(x:VRs W β n vs Vs){i:Nat}{v:AV}(e:get? (ps.zip vs) i=some v):∃ V,((ps.map W.nm).zip Vs).reverse.lookup (W.nm i)=some V∧VR W β n v V:=by
 induction ps generalizing vs Vs with
 | nil=>exact nsE e
 | cons p r ih=>
  cases x with
  | nil=>exact nsE e
  | @cons v0 V0 vs Vs a b=>
   rw [List.nodup_cons] at nd
   rw [List.zip_cons_cons] at e
   rw [get_c] at e
   rw [List.map_cons,List.zip_cons_cons,List.reverse_cons]
   have app:∀ (l m:List (Str×Value)) (k:Str),(l++m).lookup k=(l.lookup k).or (m.lookup k):=fun l m k=>by
    induction l with
    | nil=>rfl
    | cons q l ih=>obtain⟨a,b⟩:=q;rw [List.cons_append,List.lookup_cons,List.lookup_cons,ih];split <;> rfl
   rw [app]
   by_cases q:i=p
   ·subst q
    rw [if_pos rfl] at e
    obtain rfl:=Option.some.inj e
    have:(((r.map W.nm).zip Vs).reverse).lookup (W.nm i)=none:=by
     rw [List.lookup_eq_none_iff]
     intro y hy
     have:=List.mem_reverse.mp hy
     refine xo0_2 (List.of_mem_zip (a:=y.1) (b:=y.2) this) fun h1 e1_=>?_;clear e1_
     refine xo1_2 (List.mem_map.mp h1) fun j hj ej=>?_
     have key:W.nm i≠y.1:=fun w=>by
      rw [← ej] at w
      exact nd.1 (B.inj _ _ w ▸ hj)
     first | exact key | exact beq_eq_false_iff_ne.mpr key | exact bne_iff_ne.mpr key | (simpa using key)
    rw [this]
    exact⟨V0,by simp,a⟩
   ·rw [if_neg q] at e
    refine xo1_2 (ih nd.2 b e) fun V e1 e2=>?_
    exact⟨V,by rw [e1];rfl,e2⟩
noncomputable abbrev inFx (fx:Fx) (A:Around) (W:Wd) (f:Nat) (fd:FuncData) (kd:List (Nat×NameKind)) (a:Addr):Fx:=⟨A.deeper (callEnvC fd a (W.fa f)),callEnvC fd a (W.fa f),fx.env :: fx.outer,a,kd⟩
theorem Inv.enter {fd:FuncData}{kd:List (Nat×NameKind)}{f:Nat}{m:Str→Option Value}{h₀:Heap}(B:Base W)(I:FnIs W f fd kd)(inv:Inv W fx β δ st s.heap)(hh:A.handled=fx.A.handled)(hf:A.frames=fx.A.frames)
  (hn:h₀.Ns s.heap.objs.size m) (k:∀ b o,s.heap.get? b=some o→h₀.get? b=some o):Inv W (inFx fx A W f fd kd s.heap.objs.size) β δ { st with loc:=[] } h₀:=by
 have G:=inv.grow k
 have szf:s.heap.get? s.heap.objs.size=none:=size_free
 have frs:∀ b,b∈(inFx fx A W f fd kd s.heap.objs.size).frs→b=s.heap.objs.size∨b∈fx.frs:=fun b hb=>by
  have e:(inFx fx A W f fd kd s.heap.objs.size).frs=s.heap.objs.size :: fx.frs:=rfl
  rw [e] at hb
  cases hb with
  | head=>exact .inl rfl
  | tail _ h=>exact .inr h
 have N:=inv.newAt szf
 have above:W.hb.objs.size≤s.heap.objs.size:=by
  obtain⟨m,⟨o,_,_,e,_⟩,_⟩:=inv.loc
  exact Nat.le_trans inv.ok.above (Nat.le_of_lt (Heap.lt_size e))
 refine⟨⟨?_,rfl,rfl,I.kind,above,I.names,I.globals,I.builtins,I.cellAt B⟩,⟨G.rel.some_lt,G.rel.lt_some,G.rel.obj,G.rel.bb,G.rel.dd,G.rel.bd,G.rel.base,G.rel.live⟩,⟨_,hn,fun i v e=>nsE e⟩,G.stays,?_,fun b hb=>?_,fun b hb=>?_,?_⟩
 ·show (A.frames).map _=_
  rw [hf,inv.ok.frames];rfl
 ·refine xo3_3 hn fun o es ep e1 e2 _=>?_;clear hn
  exact⟨by rw [show (callEnvC fd s.heap.objs.size (W.fa f)).scope.kind=.function from I.kind];nofun,⟨s.heap.objs.size,o,rfl,rfl,e1,fun vs w=>by rw [e2] at w;cases w⟩,G.ff⟩
 ·rcases frs b hb with rfl | hb
  ·exact N.own
  ·exact inv.apart b hb
 ·rcases frs b hb with rfl | hb
  ·exact N.base
  ·exact inv.basefr b hb
 ·have z:=G.hd
  show (match st.hd with | 0=>_ | 1=>_ | _=>_)
  have nh:=N.held
  revert z nh
  cases st.hd with
  | zero=>exact fun z _=>hh.trans z
  | succ k'=>cases k' with
   | zero=>
    rintro⟨e,a1,b1,d1⟩ nh
    refine⟨e,hh.trans a1,b1,d1.1,fun q=>?_⟩
    rcases frs e q with q | q
    ·exact nh e rfl a1 q
    ·exact d1.2 q
   | succ k''=>rintro⟨e,a1⟩ _;exact⟨e,hh.trans a1⟩
theorem FnIs.start {fd:FuncData}{kd:List (Nat×NameKind)}{f:Nat}{vs:List AV}{Vs:List Value}{s₁:Shared}{fx':Fx}(B:Base W)(I:FnIs W f fd kd)(hkd:fx'.kd=kd)(henv:fx'.env=callEnvC fd s.heap.objs.size (W.fa f))(hL:fx'.L=s.heap.objs.size)
  (inv:Inv W fx' β δ { st with loc:=[] } s₁.heap) (N:∀ a,s.heap.objs.size < a→s.heap.get? a=none→NewAt W fx' β δ { st with loc:=[] } a) (hv:VRs W β st.next vs Vs)
  (x:InCallC s (callEnvC fd s.heap.objs.size (W.fa f)).locals (bindL (callEnvC fd s.heap.objs.size (W.fa f)).kindOf (((W.g.fn f).params.map W.nm).zip Vs) fun _=>none) (callEnvC fd s.heap.objs.size (W.fa f)).cells
    (bindC (callEnvC fd s.heap.objs.size (W.fa f)).kindOf (((W.g.fn f).params.map W.nm).zip Vs) fun _=>none) s₁) :
  ∃ β' δ',Inv W fx' β' δ' (laid (W.g.fn f).cells { st with loc:=(W.g.fn f).params.zip vs }) s₁.heap∧(∀ l,l < st.next→β' l=β l∧δ' l=δ l)∧∀ l,st.next≤l→l < st.next+(W.g.fn f).cells.length→s.heap.get? (β' l)=none∧s.heap.get? (δ' l)=none:=by
 have kn:∀ j,(callEnvC fd s.heap.objs.size (W.fa f)).kindOf (W.nm j)=kd.lookup j:=fun j=>I.kindAt B j
 have lk:=(cellsFrom_at (W:=W) B (n:=s.heap.objs.size+1) (acc:=[]) I.cellsN).1
 have nm:fd.scope.names=kd.map fun x=>(W.nm x.1,x.2):=I.names
 have cl:(callEnvC fd s.heap.objs.size (W.fa f)).cells=cellsFrom (s.heap.objs.size+1) (kd.map fun x=>(W.nm x.1,x.2)) []:=by rw [← nm];rfl
 have big:∀ j,s.heap.get? (s.heap.objs.size+1+j)=none:=fun j=>Heap.get?_none_of_le (by lia)
 obtain⟨β',δ',i1,s1,p1⟩:=Inv.cells (L:=(W.g.fn f).params.zip vs) (W.g.fn f).cells (a₀:=s.heap.objs.size+1) inv (fun j i e=>by
   rw [I.cells] at e
   have c:=x.cell (W.nm i) _ (by rw [cl];exact lk j i e)
   refine⟨_,c,fun β₁ n h1 h2=>?_⟩
   have nl:(callEnvC fd s.heap.objs.size (W.fa f)).kindOf (W.nm i)≠some .local:=by rw [kn,I.cellsL i (List.mem_of_getElem? e)];nofun
   rw [bindC_at nl]
   cases q:get? ((W.g.fn f).params.zip vs) i with
   | none=>trivial
   | some v=>
    obtain⟨V,e1,e2⟩:=zip_lookup B I.nodup hv q
    rw [e1]
    exact e2.mono h1 h2) fun j hj=>N _ (by lia) (big j)
 refine⟨β',δ',?_,s1,fun l h1 h2=>?_⟩
 ·have e:laid (W.g.fn f).cells { st with loc:=(W.g.fn f).params.zip vs }={ laidH (W.g.fn f).cells ((W.g.fn f).params.zip vs) { st with loc:=[] } with loc:=laidL (W.g.fn f).cells st.next ((W.g.fn f).params.zip vs) }:=by
   have h1:=laidH_loc (A:=(W.g.fn f).params.zip vs) (cs:=(W.g.fn f).cells) (L:=(W.g.fn f).params.zip vs) (s:=st)
   have h2:=laidH_loc (A:=[]) (cs:=(W.g.fn f).cells) (L:=(W.g.fn f).params.zip vs) (s:=st)
   unfold laid
   dsimp only at h1 h2 ⊢
   rw [h1,h2]
  rw [e]
  refine i1.reloc (m:=bindL (callEnvC fd s.heap.objs.size (W.fa f)).kindOf (((W.g.fn f).params.map W.nm).zip Vs) fun _=>none) (by rw [hL];exact x.toInCall.ns) fun i v hi=>⟨fun hc=>?_,fun hc=>?_⟩
  ·rw [hkd] at hc
   have hm:=cellsK_mem hc
   obtain⟨j,hj⟩:=List.mem_iff_getElem?.mp hm
   have hj':(W.g.fn f).cells[j]?=some i:=by rw [I.cells];exact hj
   rw [laidL_in (I.cells ▸ I.cellsN) hj'] at hi
   obtain rfl:=Option.some.inj hi
   have hlen:=(List.getElem?_eq_some_iff.mp hj').1
   refine⟨st.next+j,rfl,?_,?_⟩
   ·rw [laidH_hd.2];show _ < st.next+_;lia
   ·rw [henv,cl,lk j i hj,(p1 j hlen).1]
  ·rw [hkd] at hc
   have hm:i ∉ (W.g.fn f).cells:=fun w=>hc (I.cellsL i (I.cells ▸ w))
   rw [laidL_out hm] at hi
   obtain⟨V,e1,e2⟩:=zip_lookup B I.nodup hv hi
   have hp:i∈(W.g.fn f).params:=zip_mem hi
   have hl:kd.lookup i=some .local:=(I.params i hp).resolve_right hc
   refine⟨V,?_,e2.mono (by rw [laidH_hd.2];exact Nat.le_add_right ..) fun l hl=>(s1 l hl).1⟩
   rw [bindL_at (by rw [kn];exact hl),e1];rfl
 ·obtain⟨j,rfl⟩:∃ j,l=st.next+j:=⟨l - st.next,by lia⟩
  have:=p1 j (by lia)
  rw [this.1,this.2]
  exact⟨big j,big j⟩
theorem Inv.leave {fx':Fx}{h₀:Heap}(inv:Inv W fx β δ st h)(hfr:fx'.frs=fx'.L :: fx.frs)(hL:h.get? fx'.L=none)(ho:fx'.outer=fx.env :: fx.outer)(k:∀ b o,h.get? b=some o→h₀.get? b=some o){st₀:St}(hs:st₀.next=st.next)(hhd:st₀.hd=st.hd)
  (i:Inv W fx' β' δ' st' h') (g:Go fx' β δ st₀ h₀ β' δ' st' h'):Inv W fx β' δ' { st' with loc:=st.loc } h'∧Go fx β δ st h β' δ' { st' with loc:=st.loc } h':=by
 have hn:st.next≤st'.next:=hs ▸ g.next
 have same:∀ l,l < st.next→β' l=β l∧δ' l=δ l:=fun l hl=>g.same l (hs ▸ hl)
 have nL:∀ b o,h.get? b=some o→b≠fx'.L:=fun b o e q=>by rw [q,hL] at e;exact nsE e
 have sub:∀ b,b∈fx.frs→b∈fx'.frs:=fun b hb=>by rw [hfr];exact .tail _ hb
 have inF:∀ b,b∈fx.frs→∃ o,h.get? b=some o:=fun b hb=>let ⟨_,x,hx,_⟩:=inv.ff.mem hb;⟨x,hx⟩
 have kp:∀ b o,h.get? b=some o→¬ own β δ st.next b→b ∉ fx.frs→h'.get? b=some o:=fun b o e no nf=>g.keep b o (k b o e) (hs ▸ no) fun q=>by
  rw [hfr] at q
  rcases List.mem_cons.mp q with q | q
  ·exact nL b o e q
  ·exact nf q
 have fk:∀ b∈fx.frs,∀ o,h.get? b=some o→∃ sl,h'.get? b=some { o with slots:=sl }:=fun b hb o e=>g.frames b (sub b hb) (nL b o e) o (k b o e)
 have G:Go fx β δ st h β' δ' { st' with loc:=st.loc } h':=⟨hn,same,fun l h1 h2=>?_,kp,fun b hb _ o e=>fk b hb o e,g.hd.trans hhd,fun b o e=>g.live b o (k b o e)⟩
 refine⟨⟨inv.ok,⟨i.rel.some_lt,i.rel.lt_some,i.rel.obj,i.rel.bb,i.rel.dd,i.rel.bd,i.rel.base,i.rel.live⟩,?_,i.stays,ff_keep inv.ff fk,fun b hb=>i.apart b (sub b hb),inv.basefr,?_⟩,G⟩
 ·refine xo1_2 inv.loc fun m a1 a2=>?_
  exact⟨m,ns_slots a1 fun y e=>fk _ (mem_frs inv.ok) y e,fun j v e=>(a2 j v e).mono hn fun l hl=>(same l hl).1⟩
 ·have z:=inv.hd
  have e:st'.hd=st.hd:=g.hd.trans hhd
  show (match st'.hd with | 0=>_ | 1=>_ | _=>_)
  rw [e]
  revert z
  cases st.hd with
  | zero=>exact id
  | succ k'=>cases k' with
   | zero=>
    rintro⟨e',a1,⟨oe,vs,b,c⟩,d⟩
    exact⟨e',a1,⟨oe,vs,kp e' oe b d.1 d.2,c⟩,fun q=>d.1 (G.own_old (by rw [b];nofun) q),d.2⟩
   | succ k''=>exact id
 ·have:=g.new l (hs ▸ h1) h2
  have np:∀ c,h₀.get? c=none→h.get? c=none:=fun c e=>by
   cases q:h.get? c with
   | none=>rfl
   | some x=>rw [k c x q] at e;exact snE e
  exact⟨np _ this.1,np _ this.2⟩
theorem FnIs.pars {fd:FuncData}{kd:List (Nat×NameKind)}{f:Nat}{Vs:List Value}{n:Nat}(I:FnIs W f fd kd)(B:Base W):∀ x∈((W.g.fn f).params.map W.nm).zip Vs,fd.scope.names.lookup x.1=some .local∨(fd.scope.names.lookup x.1=some .cell∧((cellsFrom n fd.scope.names []).lookup x.1).isSome=true):=fun x hx=>by
 refine xo0_2 (List.of_mem_zip (a:=x.1) (b:=x.2) hx) fun h1 e1_=>?_;clear e1_
 refine xo1_2 (List.mem_map.mp h1) fun j hj ej=>?_
 rw [I.names,← ej,look_map B]
 rcases I.params j hj with h | h
 ·exact .inl h
 ·obtain⟨k,hk⟩:=List.mem_iff_getElem?.mp (cellsK_mem h)
  exact .inr ⟨h,by rw [(cellsFrom_at B I.cellsN).1 k j hk];rfl⟩
theorem callFn_inv {g:Sig}{n f:Nat}{xs:List AV}{ks:List (Nat×AV)}(nb:callFn g (callF g n) f xs ks st≠.bad):∃ m vs,n=m+1∧(f,xs.length,ks.map (·.1))∈g.shapes∧bindR (g.fn f).params (g.fn f).dflts xs ks=some vs∧
  callFn g (callF g n) f xs ks st=Mine.back st.loc (execs g (callF g m) (g.fn f).body (laid (g.fn f).cells { st with loc:=(g.fn f).params.zip vs })):=by
 rw [callFn] at nb ⊢
 by_cases hs:(f,xs.length,ks.map (·.1))∈g.shapes
 ·rw [if_pos hs] at nb ⊢
  cases hv:bindR (g.fn f).params (g.fn f).dflts xs ks with
  | none=>rw [hv] at nb;exact (nb rfl).elim
  | some vs=>
   rw [hv] at nb
   cases n with
   | zero=>exact (nb rfl).elim
   | succ m=>
    refine⟨m,vs,rfl,hs,rfl,?_⟩
    have e:callF g (m+1) f vs st=if vs.length=(g.fn f).params.length then Mine.back st.loc (execs g (callF g m) (g.fn f).body (laid (g.fn f).cells { st with loc:=(g.fn f).params.zip vs })) else .bad:=rfl
    dsimp only at nb ⊢
    rw [e] at nb ⊢
    by_cases hl:vs.length=(g.fn f).params.length
    ·exact if_pos hl
    ·rw [if_neg hl] at nb;exact (nb rfl).elim
 ·rw [if_neg hs] at nb;exact (nb rfl).elim
theorem After.leave {fd:FuncData}{kd:List (Nat×NameKind)}{f k₀:Nat}{loc:List (Nat×AV)}{h₀:Heap}{r:R Fl}{F:Flow}{s':Shared}(inv:Inv W fx β δ st s.heap)(k:∀ b o,s.heap.get? b=some o→h₀.get? b=some o)(nb:Mine.back st.loc r≠.bad)
  (h:After W (inFx fx A W f fd kd s.heap.objs.size) β δ { st with loc:=loc } { s with heap:=h₀,toks:=k₀ } r (gF W) F s'):(F=.next∧After W fx β δ st s (Mine.back st.loc r) (gV W) .none s')∨∃ V,F=.ret V∧After W fx β δ st s (Mine.back st.loc r) (gV W) V s':=by
 obtain⟨v,st',β',δ',e1,g1,i1,o1,q1⟩:=h
 subst e1
 refine xo0_2 (inv.leave (fx':=inFx fx A W f fd kd s.heap.objs.size) rfl size_free rfl k (st₀:={ st with loc:=loc }) rfl rfl i1 o1) fun i2 o2=>?_
 rcases FlR.next g1 with⟨rfl,rfl⟩ | ⟨rfl,rfl⟩ | ⟨rfl,rfl⟩ | ⟨x,V,rfl,rfl,g'⟩
 ·exact .inl ⟨rfl,.none,{ st' with loc:=st.loc },β',δ',rfl,rfl,i2,o2,by rw [q1]⟩
 ·exact (nb rfl).elim
 ·exact (nb rfl).elim
 ·exact .inr ⟨V,rfl,x,{ st' with loc:=st.loc },β',δ',rfl,g',i2,o2,by rw [q1]⟩
theorem Raised.leave {fd:FuncData}{kd:List (Nat×NameKind)}{f k₀:Nat}{loc:List (Nat×AV)}{h₀:Heap}{r:R Fl}{e:Value}{s':Shared}(inv:Inv W fx β δ st s.heap)(k:∀ b o,s.heap.get? b=some o→h₀.get? b=some o)
  (h:Raised W (inFx fx A W f fd kd s.heap.objs.size) β δ { st with loc:=loc } { s with heap:=h₀,toks:=k₀ } r e s'):Raised W fx β δ st s (Mine.back st.loc r) e s':=by
 obtain⟨c,cl,st',β',δ',ad,e1,e2,e3,i1,o1,q1⟩:=h
 subst e1
 refine xo0_2 (inv.leave (fx':=inFx fx A W f fd kd s.heap.objs.size) rfl size_free rfl k (st₀:={ st with loc:=loc }) rfl rfl i1 o1) fun i2 o2=>?_
 have np:∀ c,h₀.get? c=none→s.heap.get? c=none:=fun c e=>by
  cases q:s.heap.get? c with
  | none=>rfl
  | some x=>rw [k c x q] at e;exact snE e
 exact⟨c,cl,{ st' with loc:=st.loc },β',δ',ad,rfl,e2,e3.mono np fun b z=>⟨z.1,fun q=>z.2 (.tail _ q)⟩,i2,o2,by rw [q1]⟩
theorem callsOk (X:All W):∀ (n:Nat)(fx:Fx),Rm fx n→CallsOk W fx (callF W.g n):=by
 intro n
 induction n with
 | zero=>
  intro fx _ A _ _ _ _ β δ st s f xs Xs ks Ks _ _ nb
  refine xo2_2 (callFn_inv nb) fun _ _ h _=>?_
  exact absurd h nofun
 | succ n ih=>
  intro fx rm A hh hf hd hu β δ st s f xs Xs ks Ks hx hk nb inv
  refine xo2_4 (callFn_inv nb) fun m vs hm hs hv er=>?_
  cases hm
  rw [er] at nb ⊢
  clear er
  refine xo2_1 (X.fns f _ _ hs) fun fd kd I=>?_
  refine xo1_2 (I.bind β st.next xs Xs ks Ks vs s inv.stays hs hx hk hv) fun Vs hV hB=>?_
  refine xo3_1 I.at_ fun oc od osl hat=>?_
  have XK:=K_in X.B inv
  have rd:=rm.depth
  have ru:=rm.units
  refine call_defC (hroom:=by (clear ru hu;lia)) (XK _ _ hat) rfl (X.B.lim.keeps inv.stays) (codeRec_of XK I.code) I.body hB I.clo (I.pars X.B) (fun s₁ x=>?_) I.co I.gen I.kind
  have k:∀ b o,s.heap.get? b=some o→s₁.heap.get? b=some o:=x.toInCall.keep
  have es:s₁={ s with heap:=s₁.heap,toks:=s₁.toks }:=by obtain⟨h₀,tk,e,_⟩:=x.done;rw [e]
  have inv0:=inv.enter X.B I hh hf x.toInCall.ns k
  refine xo2_3 (I.start (fx':=inFx fx A W f fd kd s.heap.objs.size) X.B rfl rfl rfl inv0 (fun a ha hn=>?_) hV x) fun β₀ δ₀ inv' sm nw=>?_
  ·have M:=inv.newAt hn
   refine⟨M.own,fun q=>?_,M.base,fun e h1 h2=>M.held e h1 (hh ▸ h2)⟩
   rcases List.mem_cons.mp (show a∈s.heap.objs.size :: fx.frs from q) with q | q
   ·exact absurd q (Nat.ne_of_gt ha)
   ·exact M.frs q
  have hln:(laid (W.g.fn f).cells { st with loc:=(W.g.fn f).params.zip vs }).next=st.next+(W.g.fn f).cells.length:=laidH_hd.2
  have g₁:Go (inFx fx A W f fd kd s.heap.objs.size) β δ { st with loc:=(W.g.fn f).params.zip vs } s.heap β₀ δ₀ (laid (W.g.fn f).cells { st with loc:=(W.g.fn f).params.zip vs }) s₁.heap:=
   ⟨by rw [hln];exact Nat.le_add_right ..,sm,fun l h1 h2=>nw l h1 (hln ▸ h2),fun b o e _ _=>k b o e,fun b _ _ o e=>⟨o.slots,k b o e⟩,laidH_hd.1,fun b o e=>⟨o,k b o e⟩⟩
  have Z:Ctxs W (inFx fx A W f fd kd s.heap.objs.size) (callF W.g n):=
   ⟨fun hd'=>⟨X.B,X.Wo,X.Fu,X.K,ih _ ⟨by show A.depth+1+2 * n < _;(clear hln ru hu;lia),by show A.units+3+13 * n+20 < _;(clear hln rd hd;lia)⟩,by show A.units+3+20 < cLine;(clear hln rd hd;lia)⟩,X.xm,X.xo⟩
  have ex:=execs_ok (W.g.fn f).body _ Z I.wf β₀ δ₀ (laid (W.g.fn f).cells { st with loc:=(W.g.fn f).params.zip vs })
  clear ih rd ru rm hx hk hv hV hB Z
  generalize hr:execs W.g (callF W.g n) (W.g.fn f).body (laid (W.g.fn f).cells { st with loc:=(W.g.fn f).params.zip vs })=r at nb ex ⊢
  refine wpAny_mono (ex (fun q=>nb (by rw [q];rfl)) s₁ inv') (fun F s' hF=>?_) fun e s' he=>?_
  ·rcases After.leave (h₀:=s.heap) (k₀:=s.toks) inv (fun _ _ e=>e) nb (After.trans (s:=s) g₁ es hF) with⟨rfl,h⟩ | ⟨V,rfl,h⟩ <;> exact h
  ·unfold leaving
   exact wpAny_bind (Raised.note (fx:=inFx fx A W f fd kd s.heap.objs.size) inv' he fun s₂ p₂=>RaisedT.flight (fx:=inFx fx A W f fd kd s.heap.objs.size) inv' p₂ _ fun s₃ p₃=>(show Raised W fx β δ st s _ e s₃ from Raised.leave (h₀:=s.heap) (k₀:=s.toks) inv (fun _ _ e=>e) (Raised.trans (s:=s) g₁ es p₃.1)))
end
end Mine
end
section
open PySem PySem.W PyProof.Rows PySem.Calls
namespace Mine
noncomputable def apart:List Str→Bool
 | []=>true
 | x :: r=>r.all (fun y=>!(x.cps.toList == y.cps.toList))&&apart r
noncomputable def namesOk (l bad:List Str):Bool:=apart l&&l.all fun x=>(bad.all fun y=>!(x.cps.toList == y.cps.toList))&&x.cps.toList.all fun c=>decide (c < 1114112)
theorem apart_get:∀ {l:List Str},apart l=true→∀ {i j:Nat}{x y:Str},l[i]?=some x→l[j]?=some y→x.cps.toList=y.cps.toList→i=j
 | [],_,i,j,x,y,e,_,_=>by simp at e
 | z :: r,h,i,j,x,y,e1,e2,q=>by
  refine xo0_2 (bAnd (show (_&&apart r)=true from h)) fun h1 h2=>?_
  have ne:∀ w,w∈r→z.cps.toList≠w.cps.toList:=fun w hw=>by
   have:=List.all_eq_true.mp h1 w hw
   simpa using this
  cases i with
  | zero=>
   cases j with
   | zero=>rfl
   | succ j=>
    simp only [List.getElem?_cons_zero,Option.some.injEq,List.getElem?_cons_succ] at e1 e2
    subst e1
    exact (ne y (List.mem_of_getElem? e2) q).elim
  | succ i=>
   cases j with
   | zero=>
    simp only [List.getElem?_cons_zero,Option.some.injEq,List.getElem?_cons_succ] at e1 e2
    subst e2
    exact (ne x (List.mem_of_getElem? e1) q.symm).elim
   | succ j=>
    simp only [List.getElem?_cons_succ] at e1 e2
    rw [apart_get h2 e1 e2 q]
section
variable {l bad:List Str}(h:namesOk l bad=true)
include h
theorem names_small {i:Nat}{x:Str}(e:l[i]?=some x):∀ c∈x.cps.toList,c < 1114112:=fun c hc=>by
 refine xo0_2 (bAnd h) fun _ h2=>?_
 have:=List.all_eq_true.mp h2 x (List.mem_of_getElem? e)
 refine xo0_2 (bAnd this) fun _ h3=>?_
 exact of_decide_eq_true (List.all_eq_true.mp h3 c hc)
theorem nm_cps (i j:Nat)(q:(nmOf l i).cps.toList=(nmOf l j).cps.toList):i=j:=by
 refine xo0_2 (bAnd h) fun h1 h2=>?_
 unfold nmOf at q
 cases e1:l[i]? with
 | some x=>
  cases e2:l[j]? with
  | some y=>rw [e1,e2] at q;exact apart_get h1 e1 e2 q
  | none=>
   rw [e1,e2] at q
   have:=names_small h e1 (1114112+j) (by simp only at q;rw [q];simp)
   lia
 | none=>
  cases e2:l[j]? with
  | some y=>
   rw [e1,e2] at q
   have:=names_small h e2 (1114112+i) (by simp only at q;rw [← q];simp)
   lia
  | none=>rw [e1,e2] at q;simpa using q
theorem nm_inj (i j:Nat)(q:nmOf l i=nmOf l j):i=j:=nm_cps h i j (by rw [q])
theorem nm_odd (i:Nat){b:Str}(hb:b∈bad)(hz:b.cps.size≠1):(nmOf l i == b)=false:=by
 refine xo0_2 (bAnd h) fun h1 h2=>?_
 refine beq_eq_false_iff_ne.mpr fun e=>?_
 unfold nmOf at e
 cases e1:l[i]? with
 | some x=>
  rw [e1] at e
  have:=List.all_eq_true.mp h2 x (List.mem_of_getElem? e1)
  refine xo0_2 (bAnd this) fun h4 _=>?_
  have:=List.all_eq_true.mp h4 b hb
  simp only at e
  rw [e] at this
  simp at this
 | none=>rw [e1] at e;exact hz (by rw [← e];rfl)
end
end Mine
end
section
open PySem PySem.W PyProof.Rows PySem.Calls
namespace Mine
noncomputable def slotsOf (ns:List Str) (pos:List Value) (kw:List (Str×Value)):List (Str×Value):=ns.zip pos++kw
noncomputable def kwOk (ns:List Str):List (Str×Value)→List (Str×Value)→Bool
 | _,[]=>true
 | sl,(k,v) :: r=>ns.contains k&&(sl.lookup k).isNone&&kwOk ns (sl++[(k,v)]) r
noncomputable def withDflt (sl:List (Str×Value)):List (Str×Value)→List (Str×Value)
 | []=>sl
 | (n,d) :: r=>withDflt (if (sl.lookup n).isNone then sl++[(n,d)] else sl) r
theorem kw_c {ns:List Str}{sl r:List (Str×Value)}{k:Str}{v:Value}:kwOk ns sl ((k,v) :: r)=(ns.contains k&&(sl.lookup k).isNone&&kwOk ns (sl++[(k,v)]) r):=rfl
theorem dflt_c {sl r:List (Str×Value)}{n:Str}{d:Value}:withDflt sl ((n,d) :: r)=withDflt (if (sl.lookup n).isNone then sl++[(n,d)] else sl) r:=rfl
noncomputable def boundOf (ns:List Str) (ds:List Value) (pos:List Value) (kw:List (Str×Value)):List (Str×Value):=
 ns.filterMap fun n=>((withDflt (slotsOf ns pos kw) ((ns.drop (ns.length - ds.length)).zip ds)).lookup n).map (n,·)
section
variable {M:Model}{A:Around}{E:Value→Shared→Prop}{s:Shared}
abbrev Dfl (fd:FuncData) (ds:List Value) (s:Shared):Prop:=∀ (M:Model) (A:Around) (E:Value→Shared→Prop) (Q:Option (Array Value)→Shared→Prop),(∀ o:Option (Array Value),(o.getD #[]).toList=ds→Q o s)→wpAny M A (seqItems? fd.defaults) Q E s
theorem kw_step {ns:List Str}{sl:List (Str×Value)}{k:Str}{v:Value}{r:List (Str×Value)}(h:kwOk ns sl ((k,v) :: r)=true):ns.contains k=true∧sl.lookup k=none∧kwOk ns (sl++[(k,v)]) r=true:=by
 refine xo0_2 (bAnd h) fun h12 h3=>?_
 refine xo0_2 (bAnd h12) fun h1 h2=>?_
 exact⟨h1,Option.isNone_iff_eq_none.mp h2,h3⟩
theorem bind_gen {fd:FuncData}{as:List Arg}{dx:List Expr}{args:Args}{ds:List Value}{ns:List Str}(hp:fd.params=⟨[],as,none,[],[],none,dx⟩)(ha:as.map (·.arg)=ns)(hd:Dfl fd ds s)(hk:kwOk ns (ns.zip args.pos) args.kw=true)(hn:args.pos.length≤ns.length)(hds:ds.length≤ns.length)
  (hm:((ns.take (ns.length - ds.length)).filter fun n=>((slotsOf ns args.pos args.kw).lookup n).isNone)=[]):BindsTo s fd args (boundOf ns ds args.pos args.kw):=fun M A E Q hq=>by
 obtain⟨pos,kw⟩:=args
 have hl:as.length=ns.length:=by rw [← ha,List.length_map]
 dsimp only at hk hn hm hq
 unfold boundOf at hq
 generalize hT:withDflt (slotsOf ns pos kw) ((ns.drop (ns.length - ds.length)).zip ds)=T at hq
 generalize hS:slotsOf ns pos kw=S at hT hm
 unfold bindArgs
 rw [hp]
 simp only [List.map_nil,List.nil_append,List.append_nil,ha,hl]
 refine wpAny_bind (wpAny_forIn_list _ (fun rest b s'=>s'=s∧b.2=[]∧kwOk ns b.1 rest=true∧b.1++rest=S) _ ?_ ?_ _ _ ⟨rfl,rfl,hk,hS⟩)
 ·clear hk hn hm hT hS hq hd hds
  intro x rest b s' w
  have k3:=kw_step (k:=x.1) (v:=x.2) w.2.2.1
  exact wpAny_ite_true (decide_eq_true (by rw [k3.1];rfl)) (wpAny_ite_false (decide_eq_false (by rw [k3.2.1];exact Bool.false_ne_true)) (wpAny_pure ⟨w.1,w.2.1,k3.2.2,(List.append_assoc ..).trans w.2.2.2⟩))
 ·clear hk hS
  intro b s' w
  obtain rfl:s'=s:=w.1
  obtain rfl:b=(S,[]):=Prod.ext ((List.append_nil _).symm.trans w.2.2.2) w.2.1
  clear w
  refine wpAny_bind (hd _ _ _ _ fun o ho=>?_)
  dsimp only
  have hz:ds.drop (ds.length - ns.length)=ds:=by rw [Nat.sub_eq_zero_of_le hds,List.drop_zero]
  refine wpAny_ite_false (decide_eq_false (by rw [decide_eq_false (Nat.not_lt.mpr hn)];simp)) (wpAny_ite_false (decide_eq_false (by rw [ho,hz,hm];simp)) ?_)
  rw [ho,hz]
  clear hz
  clear hm hd ho hn hds
  refine wpAny_bind (wpAny_forIn_list _ (fun rest b s''=>s''=s'∧withDflt b rest=T) _ ?_ ?_ _ _ ⟨rfl,hT⟩)
  ·clear hT hq
   intro x rest b s'' w
   have h4:withDflt (if (b.lookup x.1).isNone then b++[(x.1,x.2)] else b) rest=T:=w.2
   exact wpAny_ite_split (fun q=>wpAny_pure ⟨w.1,by rw [if_pos q] at h4;exact h4⟩) (fun q=>wpAny_pure ⟨w.1,by rw [if_neg q] at h4;exact h4⟩)
  ·rintro b s'' ⟨rfl,rfl⟩
   exact wpAny_bind (wpAny_pure (wpAny_pure hq))
theorem dfl_none {fd:FuncData}(h:fd.defaults=.none):∀ (M:Model)(A:Around)(E:Value→Shared→Prop)(Q:Option (Array Value)→Shared→Prop),(∀ o:Option (Array Value),(o.getD #[]).toList=[]→Q o s)→wpAny M A (seqItems? fd.defaults) Q E s:=fun M A E Q hq=>by
 rw [h]
 exact wpAny_pure (hq none rfl)
theorem dfl_ref {fd:FuncData}{T:Addr}{o:Obj}{items:Array Value}{n:Nat}(h:fd.defaults=.ref T)(ho:s.heap.get? T=some o)(hs:o.data=.seq items n) :
  ∀ (M:Model) (A:Around) (E:Value→Shared→Prop) (Q:Option (Array Value)→Shared→Prop),(∀ o:Option (Array Value),(o.getD #[]).toList=items.toList→Q o s)→wpAny M A (seqItems? fd.defaults) Q E s:=fun M A E Q hq=>by
 rw [h]
 exact wpAny_seqItems ho hs (hq (some items) rfl)
end
end Mine
end
section
open PySem PySem.W PyProof.Rows PySem.Calls PySem.SeqAt
namespace Mine
noncomputable def st0 (xs:List AV):St:=⟨[],fun l=>if l=0 then some (.ro xs) else none,1,0⟩
section
variable {W:Wd}{fx:Fx}{β δ:Nat→Addr}{st:St}{s:Shared}{A:Around}{E Q:Value→Shared→Prop}
noncomputable abbrev inFx0 (A:Around) (W:Wd) (f:Nat) (fd:FuncData) (kd:List (Nat×NameKind)) (a:Addr):Fx:=⟨A.deeper (callEnvC fd a (W.fa f)),callEnvC fd a (W.fa f),[],a,kd⟩
theorem Inv.enter0 {fd:FuncData}{kd:List (Nat×NameKind)}{f:Nat}{m:Str→Option Value}{xs:List AV}{Vs:List Value}{ep:Nat}{h₀:Heap}{a:Addr}(B:Base W)(I:FnIs W f fd kd)(hh:A.handled=none)(hf:A.frames=some [])
  (hs:W.hb.StaysIn s.heap) (hsz:W.hb.objs.size≤s.heap.objs.size) (ha:s.heap.get? a=some W.scr) (hscr:W.scr.cls=.type "list" ∧ W.scr.data=.seq Vs.toArray ep) (hv:∀ β n,VRs W β n xs Vs) (hx:xs.length≤100000) (hb:W.hb.get? a=none)
  (hn:h₀.Ns s.heap.objs.size m) (k:∀ b o,s.heap.get? b=some o→h₀.get? b=some o) :
  Inv W (inFx0 A W f fd kd s.heap.objs.size) (fun _=>a) (fun _=>a) { st0 xs with loc:=[] } h₀:=by
 have szf:W.hb.get? s.heap.objs.size=none:=Heap.get?_none_of_le hsz
 have hL:a≠s.heap.objs.size:=fun e=>by rw [e,size_free] at ha;exact nsE ha
 have one:∀ l:Nat,l < 1→l=0:=fun l h=>by (clear hx hsz;lia)
 refine⟨⟨?_,rfl,rfl,I.kind,hsz,I.names,I.globals,I.builtins,I.cellAt B⟩,⟨fun l o e=>?_,fun l h=>?_,fun l o e=>?_,fun l l' h h' _=>(one l h).trans (one l' h').symm,fun l l' h h' _=>(one l h).trans (one l' h').symm,fun l l' h h' _=>(one l h).trans (one l' h').symm,fun l _=>⟨hb,hb⟩,
  fun l _=>⟨⟨_,k _ _ ha⟩,_,k _ _ ha⟩⟩,⟨_,hn,fun i v e=>nsE e⟩,fun b o e=>k b o (hs b o e),?_,fun b hb=>?_,fun b hb=>?_,?_⟩
 ·show (A.frames).map _=_
  rw [hf];rfl
 ·show l < 1
  simp only [st0] at e
  split at e
  ·(clear hx hsz;lia)
  ·exact nsE e
 ·have:=one l h
  subst this
  exact⟨.ro xs,rfl⟩
 ·simp only [st0] at e
  split at e
  ·obtain rfl:=Option.some.inj e
   exact⟨Vs,ep,⟨hscr,k _ _ ha⟩,hv _ _,hx⟩
  ·exact nsE e
 ·refine xo3_3 hn fun o es ep e1 e2 _=>?_;clear hn
  exact⟨by rw [show (callEnvC fd s.heap.objs.size (W.fa f)).scope.kind=.function from I.kind];nofun,⟨s.heap.objs.size,o,rfl,rfl,e1,fun vs w=>by rw [e2] at w;cases w⟩,trivial⟩
 ·have e:b∈[s.heap.objs.size]:=hb
  rcases List.mem_singleton.mp e with rfl
  rintro⟨l,_,q | q⟩ <;> exact hL q.symm
 ·have e:b∈[s.heap.objs.size]:=hb
  rcases List.mem_singleton.mp e with rfl
  exact szf
 ·show (A.deeper _).handled=none
  exact hh
theorem top_ok (X:All W){f p n:Nat}{xs:List AV}{Vs:List Value}{ep:Nat}{a:Addr}{b:Bool}{st':St}(hf:(f,1,[])∈W.g.shapes)(hp:(W.g.fn f).params=[p])(hh:A.handled=none)(hfr:A.frames=some [])(hd:A.depth+1+2 * n < recursionLimit)(hu:A.units+3+13 * n+20 < cLine)
  (hs:W.hb.StaysIn s.heap) (hsz:W.hb.objs.size≤s.heap.objs.size) (ha:s.heap.get? a=some W.scr) (hscr:W.scr.cls=.type "list" ∧ W.scr.data=.seq Vs.toArray ep) (hv:∀ β n,VRs W β n xs Vs) (hx:xs.length≤100000) (hb:W.hb.get? a=none)
  (hrun:callF W.g (n+1) f [.loc 0] (st0 xs)=.ok (.bool b) st') (hro:st'.heap 0=some (.ro xs))
  (hQ:∀ s',W.hb.StaysIn s'.heap→s'.heap.get? a=some W.scr→s'={ s with heap:=s'.heap,toks:=s'.toks }→Q (.bool b) s'):wpAny (model W.prog W.w) A (call (.ref (W.fa f)) [.ref a]) Q E s:=by
 refine xo2_1 (X.fns f _ _ hf) fun fd kd I=>?_
 have bR:bindR (W.g.fn f).params (W.g.fn f).dflts [.loc 0] []=some [.loc 0]:=by rw [hp];rfl
 refine xo1_2 (I.bind (fun _=>a) 1 [.loc 0] [.ref a] [] [] [.loc 0] s hs hf (.cons ⟨Nat.zero_lt_one,rfl⟩ .nil) ⟨[],.nil,rfl⟩ bR) fun Vs' hV hB=>?_
 obtain rfl:Vs'=[.ref a]:=by
  cases hV with
  | cons h1 h2=>cases h2;obtain⟨_,rfl⟩:=h1;rfl
 refine xo3_1 I.at_ fun oc od osl hat=>?_
 have XK:W.K.In s.heap:=fun c o e=>hs c o (X.B.inK c o e)
 refine wpAny_call (call_defC (hroom:=by (clear hx hsz hu;lia)) (XK _ _ hat) rfl (X.B.lim.keeps hs) (codeRec_of XK I.code) I.body hB I.clo (I.pars X.B) (fun s₁ x=>?_) I.co I.gen I.kind)
 ·have k:∀ b o,s.heap.get? b=some o→s₁.heap.get? b=some o:=x.toInCall.keep
  have es:s₁={ s with heap:=s₁.heap,toks:=s₁.toks }:=by obtain⟨h₀,tk,e,_⟩:=x.done;rw [e]
  have inv0:=Inv.enter0 X.B I hh hfr hs hsz ha hscr hv hx hb x.toInCall.ns k
  have szf:∀ c,s.heap.objs.size < c→W.hb.get? c=none:=fun c hc=>Heap.get?_none_of_le (by (clear hx hu hd;lia))
  refine xo2_3 (I.start (fx':=inFx0 A W f fd kd s.heap.objs.size) (vs:=[.loc 0]) X.B rfl rfl rfl inv0 (fun c hc hn=>⟨?_,fun q=>?_,szf c hc,fun e h1 h2=>?_⟩) (.cons (show VR W (fun _=>a) 1 (.loc 0) (.ref a) from ⟨Nat.zero_lt_one,rfl⟩) .nil) x) fun β₀ δ₀ inv' sm _=>?_
  ·rintro⟨l,_,q | q⟩ <;> (rw [q,ha] at hn;exact snE hn)
  ·exact absurd (List.mem_singleton.mp (show c∈[s.heap.objs.size] from q)) (Nat.ne_of_gt hc)
  ·exact absurd h1 nofun
  have Z:Ctxs W (inFx0 A W f fd kd s.heap.objs.size) (callF W.g n):=
   ⟨fun hd'=>⟨X.B,X.Wo,X.Fu,X.K,callsOk X n _ ⟨by show A.depth+1+2 * n < _;(clear hx hsz hu;lia),by show A.units+3+13 * n+20 < _;(clear hx hsz hd;lia)⟩,by show A.units+3+20 < cLine;(clear hx hsz hd;lia)⟩,X.xm,X.xo⟩
  have ex:=execs_ok (W.g.fn f).body _ Z I.wf β₀ δ₀ (laid (W.g.fn f).cells { st0 xs with loc:=(W.g.fn f).params.zip [.loc 0] })
  have run:back [] (execs W.g (callF W.g n) (W.g.fn f).body (laid (W.g.fn f).cells { st0 xs with loc:=(W.g.fn f).params.zip [.loc 0] }))=.ok (.bool b) st':=by
   rw [callF_s,if_pos (by rw [hp];rfl)] at hrun
   exact hrun
  have nb1:execs W.g (callF W.g n) (W.g.fn f).body (laid (W.g.fn f).cells { st0 xs with loc:=(W.g.fn f).params.zip [.loc 0] })≠.bad:=fun q=>by rw [q] at run;exact absurd run nofun
  refine wpAny_mono (ex nb1 s₁ inv') (fun F s' hF=>?_) fun e s' he=>?_
  ·obtain⟨v,st₁,β',δ',e1,g1,i1,o1,q1⟩:=hF
   rw [e1] at run
   have keep:W.hb.StaysIn s'.heap:=i1.stays
   have b0:β' 0=a:=(o1.same 0 (by rw [show (laid (W.g.fn f).cells { st0 xs with loc:=(W.g.fn f).params.zip [.loc 0] }).next=1+_ from laidH_hd.2];(clear hx hsz hu hd;lia))).1.trans (sm 0 Nat.zero_lt_one).1
   have done:st₁.heap 0=some (.ro xs)→Q (.bool b) s':=fun h0=>by
    obtain⟨Us,ep',⟨-,z⟩,-⟩:=i1.rel.obj 0 _ h0
    rw [b0] at z
    exact hQ s' keep z (by rw [q1,es])
   rcases FlR.next g1 with⟨rfl,rfl⟩ | ⟨rfl,rfl⟩ | ⟨rfl,rfl⟩ | ⟨x,V,rfl,rfl,g'⟩
   ·exact absurd run nofun
   ·exact absurd run nofun
   ·cases run
   ·cases run
    cases g'
    exact done hro
  ·obtain⟨c,cl,st₁,β',δ',ad,e1,_⟩:=he
   rw [e1] at run
   exact absurd run nofun
end
end Mine
end
section
open PySem PySem.W PyProof.Rows PySem.Calls
namespace Mine
noncomputable def bmX:List Value:=[.type "Exception",.type "BaseException",.type "object"]
inductive OwnX (h:Heap) (C P:Addr):Prop
 | intro (N nm q bs hdct sn sub ab col dd k0 k1 k2 k3 k5 mN) (a:h.get? C=some (excClassObj nm q C N bs (.ref P :: bmX) hdct sn sub ab col dd k0 k1 k2 k3 k5 "Exception.__new__")) (b:h.Ns N mN) (c:mN "__init__" = none) (d:OwnTail h bmX (.ref P :: bmX))
theorem OwnX.keeps {h h':Heap}{C P:Addr}(x:OwnX h C P)(k:∀ b o,h.get? b=some o→h'.get? b=some o):OwnX h' C P:=by
 obtain⟨N,nm,q,bs,hdct,sn,sub,ab,col,dd,k0,k1,k2,k3,k5,mN,a,b,c,d⟩:=x
 exact⟨N,nm,q,bs,hdct,sn,sub,ab,col,dd,k0,k1,k2,k3,k5,mN,k _ _ a,b.keeps k,c,d.keeps k⟩
noncomputable def onCls (d:Data) (f:ClassData→Bool):Bool:=match d with
 | .cls cd=>f cd
 | _=>false
theorem onCls_inv {d:Data}{f:ClassData→Bool}(h:onCls d f=true):∃ cd,d=.cls cd∧f cd=true:=by
 cases d <;> first | exact⟨_,rfl,h⟩ | exact ftE h
noncomputable def ownXD (K:Frag) (C P:Addr) (sl:List (Option Value)) (cd:ClassData):Bool:=
 (cd.mro == .ref C :: .ref P :: bmX)&&(sl == [sl.getD 0 none,sl.getD 1 none,sl.getD 2 none,sl.getD 3 none,some (.builtin "Exception.__new__"),sl.getD 5 none])&&!cd.hasDel&&tailIn K bmX (.ref P :: bmX)&&nsOkIn K cd.ns&&(nsIn K cd.ns "__init__" == some none)
noncomputable def ownXB (K:Frag) (C P:Addr):Bool:=match K.lookup C with
 | some o=>(o.cls == .type "type")&&onCls o.data (ownXD K C P o.slots.toList)
 | none=>false
theorem ownX_of {K:Frag}{h:Heap}{C P:Addr}(X:K.In h)(e:ownXB K C P=true):OwnX h C P:=by
 unfold ownXB at e
 cases ho:K.lookup C with
 | none=>rw [ho] at e;exact ftE e
 | some o=>
  rw [ho] at e
  have e:=bAnd e
  refine xo1_2 (onCls_inv e.2) fun cd hd e2=>?_
  have e1:=beq_iff_eq.mp e.1
  clear e
  unfold ownXD at e2
  simp only [Bool.and_eq_true,beq_iff_eq,Bool.not_eq_true'] at e2
  obtain⟨⟨⟨⟨⟨e2,e3⟩,hdel⟩,ht⟩,hok⟩,hni⟩:=e2
  obtain⟨oc,dd,da,⟨l⟩⟩:=o
  obtain⟨nm,bs,mro,ns,qn,hd',sn,sub,ab,col,del⟩:=cd
  dsimp only at *
  subst e1 hd e2 hdel
  rw [e3] at ho
  exact⟨_,_,_,_,_,_,_,_,_,_,_,_,_,_,_,_,X _ _ ho,.of_isNs (isNs_of_in X hok),nsMap_none_of_in X hok hni,tail_of_in X ht⟩
section
variable {prog:Program}{w:World}{M:Model}{A:Around}{E:Value→Shared→Prop}{s:Shared}{C D P P' e t:Addr}{o:Obj}
theorem OwnX.matches {Q:Bool→Shared→Prop}(x:OwnX s.heap C P)(y:OwnX s.heap D P')(hne:C≠D→P≠D)(he:s.heap.get? e=some o)(hcls:o.cls=.ref C)(hq:Q (decide (C=D)) s):wpAny M A (excMatches (.ref e) (.ref D)) Q E s:=by
 obtain⟨N,nm,q,bs,hdct,sn,sub,ab,col,dd,k0,k1,k2,k3,k5,mN,hC,-,-,-⟩:=x
 obtain⟨N',nm',q',bs',hdct',sn',sub',ab',col',dd',j0,j1,j2,j3,j5,mN',hD,-,-,-⟩:=y
 obtain⟨h,g,d,t,os⟩:=s
 have hDB:(Value.ref D :: (.ref P' :: bmX)).contains (.type "BaseException")=true:=by simp [bmX]
 have hCD:(Value.ref C :: (.ref P :: bmX)).contains (.ref D)=decide (C=D):=by
  by_cases z:C=D
  ·subst z;rw [decide_eq_true rfl];simp
  ·have z1:D≠C:=fun w=>z w.symm
   have z2:D≠P:=fun w=>hne z w.symm
   rw [decide_eq_false z]
   simp [bmX,z1,z2]
 have f:=tc_notTuple
 unfold excMatches
 repeat (first | (with_reducible refine wpAny_loadPart_at he ?_;rw [hcls]) | with_reducible refine wpAny_loadPart_at hD ?_ | (with_reducible refine wpAny_isSubtype_exc hD ?_;rw [hDB]) | (with_reducible refine wpAny_isSubtype_exc hC ?_;rw [hCD]) | wp_step)
 revert hq
 cases decide (C=D) <;> (intro hq;wp_walk;exact hq)
theorem OwnX.matches_type {T:String}{Q:Bool→Shared→Prop}(y:OwnX s.heap D P')(hX:s.TypeIs (.ref e) T)(hT:isSubtype (.type T) (.ref D)=pure false)(hq:Q false s):wpAny M A (excMatches (.ref e) (.ref D)) Q E s:=by
 obtain⟨N',nm',q',bs',hdct',sn',sub',ab',col',dd',j0,j1,j2,j3,j5,mN',hD,-,-,-⟩:=y
 obtain⟨h,g,d,t,os⟩:=s
 have hDB:(Value.ref D :: (.ref P' :: bmX)).contains (.type "BaseException")=true:=by simp [bmX]
 have f:=tc_notTuple
 unfold excMatches
 repeat (first | with_reducible refine wpAny_loadPart_at hD ?_ | (with_reducible refine wpAny_isSubtype_exc hD ?_;rw [hDB]) | wp_step)
 exact hq
theorem OwnX.make {V:Value}{Q:Value→Shared→Prop}(x:OwnX s.heap C P)(hq:∀ h' e t,(∀ b o,s.heap.get? b=some o→h'.get? b=some o)→s.heap.get? e=none→h'.get? e=some (excObj (.ref C) t)→Q (.ref e) { s with heap:=h' }) :
  wpAny (model prog w) A (call (.ref C) [V]) Q E s:=by
 obtain⟨N,nm,q,bs,hdct,sn,sub,ab,col,dd,k0,k1,k2,k3,k5,mN,hC,hN,hi,T⟩:=x
 obtain⟨h,g,d,t,os⟩:=s
 refine wpAny_call_exc_subU (Bn := "Exception") F.excBase_Exception (by decide +kernel) F.excBase_Exception T hC hN hi (fun h' e hm=>?_) (by show 1≤sizeLine;rw [sizeLine_eq];decide)
 refine xo1_2 hm.there fun t' ht e2_=>?_;clear e2_
 exact hq h' e t' hm.keeps hm.new ht
theorem OwnX.raise {Q:Flow→Shared→Prop}(x:OwnX s.heap C P)(he:s.heap.get? e=some (excObj (.ref C) t))(h:wpAny M A (raiseNew (.ref e):Sem Flow) Q E s):wpAny M A (raiseTail (.ref e)) Q E s:=by
 obtain⟨N,nm,q,bs,hdct,sn,sub,ab,col,dd,k0,k1,k2,k3,k5,mN,hC,hN,hi,T⟩:=x
 obtain⟨hp,g,d,tk,os⟩:=s
 have hcB:(Value.ref C :: (.ref P :: bmX)).contains (.type "BaseException")=true:=by simp [bmX]
 unfold raiseTail
 repeat (first | with_reducible refine wpAny_loadPart_at he ?_ | with_reducible refine wpAny_loadPart_at hC ?_ | (with_reducible refine wpAny_isSubtype_exc hC ?_;rw [hcB]) | wp_step)
 exact h
theorem OwnX.keeper (x:OwnX s.heap C P)(M:Model):Looks M s.heap (keeperOf (.ref C)) .machine:=fun A Q E s' k hq=>by
 obtain⟨N,nm,q,bs,hdct,sn,sub,ab,col,dd,k0,k1,k2,k3,k5,mN,hC,hN,hi,T⟩:=x
 obtain⟨hp,g,d,tk,os⟩:=s'
 exact wpAny_keeperOf_exc (k _ _ hC) hq
theorem made_type {T n i:String}(F:ExcCallFacts T n i){V:Value}{Q:Value→Shared→Prop}(hq:∀ h' e t,(∀ b o,s.heap.get? b=some o→h'.get? b=some o)→s.heap.get? e=none→h'.get? e=some (excObj (.type T) t)→Q (.ref e) { s with heap:=h' }) :
  wpAny (model prog w) A (call (.type T) [V]) Q E s:=by
 obtain⟨h,g,d,t,os⟩:=s
 refine wpAny_call_exc F (fun h' e hm=>?_) (by show 1≤sizeLine;rw [sizeLine_eq];decide)
 refine xo1_2 ((Heap.MadeExc.of hm).there) fun t' ht e2_=>?_;clear e2_
 exact hq h' e t' (Heap.MadeExc.of hm).keeps (Heap.MadeExc.of hm).new ht
theorem raise_type {T:String}(F:ExcRaiseFacts T){Q:Flow→Shared→Prop}(he:s.heap.get? e=some (excObj (.type T) t))(h:wpAny M A (raiseNew (.ref e):Sem Flow) Q E s):wpAny M A (raiseTail (.ref e)) Q E s:=by
 obtain⟨hp,g,d,tk,os⟩:=s
 have hsub:=F.isExc
 have hmeta:=F.plainMeta
 unfold raiseTail
 repeat (first | refine wpAny_loadPart he ?_ | wp_step)
 exact h
end
end Mine
end
section
open PySem PySem.W PyProof.Rows PySem.Calls
namespace Mine
theorem mem_of_lookup {α:Type}{l:List (Nat×α)}{k:Nat}{x:α}(e:l.lookup k=some x):(k,x)∈l:=by
 induction l with
 | nil=>exact nsE e
 | cons p r ih=>
  obtain⟨a,b⟩:=p
  rw [List.lookup_cons] at e
  split at e
  ·rename_i q;cases e;rw [beq_iff_eq.mp q];exact .head _
  ·exact .tail _ (ih e)
section
variable {W:Wd}{β:Nat→Addr}{n:Nat}
theorem lookup_app {α:Type}(k:Str)(m:List (Str×α)):∀ l:List (Str×α),(l++m).lookup k=(l.lookup k).or (m.lookup k)
 | []=>rfl
 | (a,b) :: l=>by rw [List.cons_append,List.lookup_cons,List.lookup_cons,lookup_app k m l];split <;> rfl
theorem withDflt_get (k:Str)(r:List (Str×Value)):∀ sl:List (Str×Value),(withDflt sl r).lookup k=(sl.lookup k).or (r.lookup k):=by
 induction r with
 | nil=>exact fun sl=>(Option.or_none).symm
 | cons x r ih=>
  obtain⟨m,d⟩:=x
  intro sl
  rw [dflt_c]
  rw [ih,List.lookup_cons]
  by_cases q:(sl.lookup m).isNone=true
  ·rw [if_pos q,lookup_app,List.lookup_cons,List.lookup_nil]
   cases e:k == m <;> cases sl.lookup k <;> rfl
  ·rw [if_neg q]
   cases e:k == m with
   | false=>rfl
   | true=>
    rw [beq_iff_eq.mp e]
    cases e':sl.lookup m with
    | none=>rw [e'] at q;exact (q rfl).elim
    | some x=>rfl
theorem look_eq {α:Type}{a b:Str}{x:α}{l:List (Str×α)}(e:a=b):((a,x) :: l).lookup b=some x:=by rw [List.lookup_cons,e,beq_self_eq_true]
theorem look_ne {α:Type}{a b:Str}{x:α}{l:List (Str×α)}(e:b≠a):((a,x) :: l).lookup b=l.lookup b:=by rw [List.lookup_cons,beq_eq_false_iff_ne.mpr e]
theorem zip_at (B:Base W){α:Type}{p:Nat}{X:α}{ps:List Nat}:∀ {Xs:List α}{i:Nat},ps.Nodup→ps[i]?=some p→Xs[i]?=some X→((ps.map W.nm).zip Xs).lookup (W.nm p)=some X:=by
 induction ps with
 | nil=>exact fun _ e _=>nomatch e
 | cons a r ih=>
  intro Xs i nd e e'
  cases Xs with
  | nil=>exact nsE e'
  | cons x Xs=>
   cases i with
   | zero=>cases e';exact look_eq (congrArg W.nm (Option.some.inj e))
   | succ i=>
    have nd:=List.nodup_cons.mp nd
    exact (look_ne fun w=>nd.1 ((B.inj p a w) ▸ List.mem_of_getElem? e)).trans (ih nd.2 e e')
theorem zip_no (B:Base W){α:Type}{p:Nat}{ps:List Nat}:∀ {Xs:List α},p ∉ ps.take Xs.length→((ps.map W.nm).zip Xs).lookup (W.nm p)=none:=by
 induction ps with
 | nil=>exact fun _=>rfl
 | cons a r ih=>
  intro Xs h
  cases Xs with
  | nil=>rfl
  | cons x Xs=>exact (look_ne fun w=>h (by rw [B.inj p a w];exact .head _)).trans (ih fun q=>h (.tail _ q))
theorem kw_at (B:Base W){p:Nat}{ks:List (Nat×AV)}:∀ {Vs:List Value},VRs W β n (ks.map (·.2)) Vs→
  match get? ks p with | some v=>∃ V,((ks.map (W.nm ·.1)).zip Vs).lookup (W.nm p)=some V∧VR W β n v V | none=>((ks.map (W.nm ·.1)).zip Vs).lookup (W.nm p)=none:=by
 induction ks with
 | nil=>exact fun _=>rfl
 | cons x r ih=>
  obtain⟨k,v⟩:=x
  intro Vs h
  cases h with
  | cons a b=>
   rw [get_c]
   rw [List.map_cons,List.zip_cons_cons,List.lookup_cons]
   by_cases q:p=k
   ·subst q
    rw [if_pos rfl,beq_self_eq_true]
    exact⟨_,rfl,a⟩
   ·rw [if_neg q,beq_eq_false_iff_ne.mpr fun w=>q (B.inj _ _ w)]
    exact ih b
noncomputable def tokV:Value→Tok
 | .int _ t=>t
 | _=>default
noncomputable def dvB (c:KC) (V:Value):Bool:=match c with
 | .none=>V == .none
 | .bool b=>V == .bool b
 | .int i=>V == .int i (tokV V)
 | .str _=>false
theorem dv_vr {c:KC}{V:Value}(h:dvB c V=true):VR W β n c.av V:=by
 cases c with
 | none=>exact beq_iff_eq.mp h
 | bool b=>exact beq_iff_eq.mp h
 | int i=>exact⟨_,beq_iff_eq.mp h⟩
 | str _=>exact ftE h
noncomputable def dvsB:List (Nat×KC)→List Value→Bool
 | [],[]=>true
 | (_,c) :: r,V :: s=>dvB c V&&dvsB r s
 | _,_=>false
theorem dvs_len {ds:List (Nat×KC)}:∀ {Vs:List Value},dvsB ds Vs=true→ds.length=Vs.length:=by
 induction ds with
 | nil=>intro Vs h;cases Vs with | nil=>rfl | cons=>exact ftE h
 | cons _ _ ih=>intro Vs h;cases Vs with | nil=>cases h | cons=>exact congrArg (·+1) (ih (bAnd h).2)
theorem dvs_at (B:Base W){p:Nat}{c:KC}{ds:List (Nat×KC)}:∀ {Vs:List Value},dvsB ds Vs=true→ds.lookup p=some c→∃ V,((ds.map (W.nm ·.1)).zip Vs).lookup (W.nm p)=some V∧VR W β n c.av V:=by
 induction ds with
 | nil=>exact fun _ e=>nomatch e
 | cons x r ih=>
  obtain⟨k,d⟩:=x
  intro Vs h e
  cases Vs with
  | nil=>exact ftE h
  | cons V s=>
   have h:=bAnd h
   rw [List.lookup_cons] at e
   by_cases q:p=k
   ·rw [beq_iff_eq.mpr q] at e
    exact⟨V,look_eq (congrArg W.nm q.symm),Option.some.inj e ▸ dv_vr h.1⟩
   ·rw [beq_eq_false_iff_ne.mpr q] at e
    refine xo1_2 (ih h.2 e) fun V' h3 h4=>?_
    exact⟨V',(look_ne fun w=>q (B.inj _ _ w)).trans h3,h4⟩
theorem bindR_v {ds:List (Nat×KC)}{ks:List (Nat×AV)}{p:Nat}{ps:List Nat}{x:AV}{xs:List AV}:bindR (p :: ps) ds (x :: xs) ks=(bindR ps ds xs ks).map (x :: ·):=rfl
theorem bindR_n {ds:List (Nat×KC)}{ks:List (Nat×AV)}{p:Nat}{ps:List Nat}:bindR (p :: ps) ds [] ks=(match get? ks p with
  | some v=>(bindR ps ds [] ks).map (v :: ·)
  | none=>match ds.lookup p with
   | some c=>(bindR ps ds [] ks).map (c.av :: ·)
   | none=>none):=rfl
theorem bindR_next {ds:List (Nat×KC)}{ks:List (Nat×AV)}{a:Nat}{r:List Nat}{vs:List AV}(e:bindR (a :: r) ds [] ks=some vs):∃ v w,vs=v :: w∧bindR r ds [] ks=some w∧(get? ks a=some v∨get? ks a=none∧∃ c,ds.lookup a=some c∧v=c.av):=by
 rw [bindR_n] at e
 cases q:get? ks a with
 | some v=>rw [q] at e;obtain⟨w,e',rfl⟩:=Option.map_eq_some_iff.mp e;exact⟨v,w,rfl,e',.inl rfl⟩
 | none=>
  rw [q] at e
  dsimp only at e
  cases q':ds.lookup a with
  | some c=>rw [q'] at e;obtain⟨w,e',rfl⟩:=Option.map_eq_some_iff.mp e;exact⟨_,w,rfl,e',.inr ⟨rfl,c,rfl,rfl⟩⟩
  | none=>rw [q'] at e;exact nsE e
theorem bindR_has {ds:List (Nat×KC)}{ks:List (Nat×AV)}{ps:List Nat}:∀ {xs vs:List AV},bindR ps ds xs ks=some vs→∀ p,p∈ps→p∈ps.take xs.length∨get? ks p≠none∨ds.lookup p≠none:=by
 induction ps with
 | nil=>exact fun _ _ h=>nomatch h
 | cons a r ih=>
  intro xs vs e p h
  cases xs with
  | cons v xs=>
   refine xo1_2 (Option.map_eq_some_iff.mp (bindR_v.symm.trans e)) fun w e _=>?_
   rcases List.mem_cons.mp h with h | h
   ·exact .inl (h ▸ .head _)
   ·exact (ih e p h).imp_left (.tail _)
  | nil=>
   refine xo2_3 (bindR_next e) fun v w e2_ e ev=>?_;clear e2_
   rcases List.mem_cons.mp h with h | h
   ·refine .inr ?_
    rcases ev with ev | ⟨-,c,ev,-⟩
    ·exact .inl (h ▸ ev ▸ nofun)
    ·exact .inr (h ▸ ev ▸ nofun)
   ·exact (ih e p h).imp_left fun q=>nomatch q
theorem bindR_vals {ds:List (Nat×KC)}{ks:List (Nat×AV)}{F:Nat→Option Value}:∀ {ps:List Nat}{xs vs:List AV}{Xs:List Value},VRs W β n xs Xs→bindR ps ds xs ks=some vs→(∀ (i p:Nat)(X:Value),ps[i]?=some p→Xs[i]?=some X→F p=some X)→
  (∀ p,p∈ps.drop xs.length→∀ v,(get? ks p=some v∨get? ks p=none∧∃ c,ds.lookup p=some c∧v=c.av)→∃ V,F p=some V∧VR W β n v V)→∃ Vs,VRs W β n vs Vs∧ps.filterMap (fun p=>(F p).map (W.nm p,·))=(ps.map W.nm).zip Vs:=by
 intro ps
 induction ps with
 | nil=>
  intro xs vs Xs hx e _ _
  cases xs with
  | nil=>cases e;exact⟨[],.nil,rfl⟩
  | cons _ _=>exact nsE e
 | cons a r ih=>
  intro xs vs Xs hx e g1 g2
  have fin:∀ {v V Vs w},F a=some V→VR W β n v V→VRs W β n w Vs→r.filterMap (fun p=>(F p).map (W.nm p,·))=(r.map W.nm).zip Vs→∃ Vs,VRs W β n (v :: w) Vs∧(a :: r).filterMap (fun p=>(F p).map (W.nm p,·))=((a :: r).map W.nm).zip Vs:=
   fun f1 f2 z1 z2=>⟨_ :: _,.cons f2 z1,by rw [List.filterMap_cons,f1,z2];rfl⟩
  cases hx with
  | cons h hs=>
   refine xo1_2 (Option.map_eq_some_iff.mp (bindR_v.symm.trans e)) fun w e' e2_=>?_;obtain rfl:=e2_
   refine xo1_2 (ih hs e' (fun i p X h1 h2=>g1 (i+1) p X h1 h2) fun p hp=>g2 p hp) fun Vs z1 z2=>?_
   exact fin (g1 0 a _ rfl rfl) h z1 z2
  | nil=>
   obtain⟨v,w,rfl,e,ev⟩:=bindR_next e
   refine xo1_2 (g2 a (.head _) v ev) fun V f1 f2=>?_
   refine xo1_2 (ih .nil e (fun i p X h1 h2=>by cases h2) fun p hp=>g2 p (.tail _ hp)) fun Vs z1 z2=>?_
   exact fin f1 f2 z1 z2
theorem kw_ok (B:Base W){ns:List Str}{ks:List (Nat×AV)}:∀ {Vs:List Value}{sl:List (Str×Value)},(ks.map (·.1)).Nodup→(∀ k,k∈ks.map (·.1)→W.nm k∈ns∧sl.lookup (W.nm k)=none)→kwOk ns sl ((ks.map (W.nm ·.1)).zip Vs)=true:=by
 induction ks with
 | nil=>intro _ _ _ _;rfl
 | cons x r ih=>
  intro Vs sl nd h
  cases Vs with
  | nil=>rfl
  | cons V Vs=>
   have nd:=List.nodup_cons.mp nd
   have h0:=h x.1 (.head _)
   rw [List.map_cons,List.zip_cons_cons]
   rw [kw_c]
   refine Bool.and_eq_true_iff.mpr ⟨Bool.and_eq_true_iff.mpr ⟨List.contains_iff_mem.mpr h0.1,Option.isNone_iff_eq_none.mpr h0.2⟩,ih nd.2 fun j hj=>⟨(h j (.tail _ hj)).1,?_⟩⟩
   rw [lookup_app,(h j (.tail _ hj)).2]
   exact look_ne fun w=>nd.1 ((B.inj j _ w:j=x.1) ▸ (hj:j∈r.map (·.1)):x.1∈r.map (·.1))
structure ParOk (W:Wd) (K:Frag) (fd:FuncData) (ps:List Nat) (ds:List (Nat×KC)):Prop where
 par:∃ as dx,fd.params=⟨[],as,none,[],[],none,dx⟩∧as.map (·.arg)=ps.map W.nm
 nodup:ps.Nodup
 keys:ps.drop (ps.length - ds.length)=ds.map (·.1)
 vals:∃ dV,dvsB ds dV=true∧(fd.defaults=.none∧dV=[]∨∃ T o n,fd.defaults=.ref T∧K.lookup T=some o∧o.data=.seq dV.toArray n)
theorem par_bind (B:Base W){fd:FuncData}{ps:List Nat}{ds:List (Nat×KC)}(p:ParOk W W.K fd ps ds){xs vs:List AV}{Xs:List Value}{ks:List (Nat×AV)}{Ks:List (Str×Value)}{s:Shared}(hst:W.hb.StaysIn s.heap)
  (hs:(ks.map (·.1)).Nodup∧∀ k,k∈ks.map (·.1)→k∈ps.drop xs.length) (hn:xs.length≤ps.length) (hx:VRs W β n xs Xs) (hy:KRs W β n ks Ks) (hv:bindR ps ds xs ks=some vs):∃ Vs,VRs W β n vs Vs∧BindsTo s fd ⟨Xs,Ks⟩ ((ps.map W.nm).zip Vs):=by
 obtain⟨⟨as,dx,hp,ha⟩,nd,hkeys,dV,hd,hdef⟩:=p
 refine xo1_2 hy fun Us hU e2_=>?_;clear hy;obtain rfl:=e2_
 have hlen:as.length=ps.length:=by simpa using congrArg List.length ha
 have hl:=hx.length
 have dl:=dvs_len hd
 have dle:ds.length≤ps.length:=by have:=congrArg List.length hkeys;simp at this;lia
 have nt:∀ p,p∈ps.drop xs.length→p ∉ ps.take Xs.length:=fun p h1 h2=>by
  rw [← List.take_append_drop xs.length ps,List.nodup_append] at nd
  exact nd.2.2 _ (hl ▸ h2) _ h1 rfl
 have dz:((ps.map W.nm).drop ((ps.map W.nm).length - dV.length)).zip dV=(ds.map (W.nm ·.1)).zip dV:=by
  rw [List.length_map,← dl,← List.map_drop,hkeys,List.map_map];rfl
 have L1:∀ k,(slotsOf (ps.map W.nm) Xs ((ks.map (W.nm ·.1)).zip Us)).lookup k=(((ps.map W.nm).zip Xs).lookup k).or (((ks.map (W.nm ·.1)).zip Us).lookup k):=fun k=>lookup_app _ _ _
 obtain⟨Vs,z1,z2⟩:=bindR_vals (F:=fun p=>(withDflt (slotsOf (ps.map W.nm) Xs ((ks.map (W.nm ·.1)).zip Us)) ((ds.map (W.nm ·.1)).zip dV)).lookup (W.nm p)) hx hv
  (fun i p X h1 h2=>by rw [withDflt_get,L1,zip_at B nd h1 h2];rfl)
  (fun p h1 v h2=>by
   rw [withDflt_get,L1,zip_no B (nt p h1)]
   have z:=kw_at B (p:=p) hU
   rcases h2 with h2 | ⟨h2,c,h3,rfl⟩
   ·rw [h2] at z
    refine xo1_2 z fun V e1 e2=>?_;clear z
    exact⟨V,by rw [e1];rfl,e2⟩
   ·rw [h2] at z
    obtain⟨V,e1,e2⟩:=dvs_at B hd h3
    exact⟨V,by rw [z,e1];rfl,e2⟩)
 refine⟨Vs,z1,?_⟩
 have bo:boundOf (ps.map W.nm) dV Xs ((ks.map (W.nm ·.1)).zip Us)=(ps.map W.nm).zip Vs:=by
  rw [← z2]
  unfold boundOf
  rw [dz,List.filterMap_map]
  rfl
 rw [← bo]
 refine bind_gen hp ha ?_ ?_ (by show Xs.length≤_;rw [List.length_map];(clear dle dl;lia)) (by rw [List.length_map];(clear hl hn;lia)) ?_
 ·rcases hdef with⟨h1,rfl⟩ | ⟨T,o,m,h1,h2,h3⟩
  ·exact dfl_none h1
  ·exact dfl_ref h1 (hst _ _ (B.inK _ _ h2)) h3
 ·exact kw_ok B hs.1 fun k hk=>⟨List.mem_map_of_mem (List.mem_of_mem_drop (hs.2 k hk)),zip_no B (nt k (hs.2 k hk))⟩
 ·rw [List.length_map,List.filter_eq_nil_iff]
  intro q hq e
  rw [← List.map_take] at hq
  refine xo1_2 (List.mem_map.mp hq) fun p hp e2_=>?_;obtain rfl:=e2_
  rw [L1,Option.isNone_iff_eq_none] at e
  rcases bindR_has hv p (List.mem_of_mem_take hp) with h | h | h
  ·refine xo1_1 (List.mem_iff_getElem?.mp h) fun i hi=>?_
   rw [List.getElem?_take] at hi
   split at hi
   ·rename_i q
    have:Xs[i]?=some (Xs[i]'(by (clear dle dl hlen hn;lia))):=List.getElem?_eq_getElem (by (clear dle dl hlen hn;lia))
    rw [zip_at B nd hi this] at e
    exact snE e
   ·exact nsE hi
  ·cases q:get? ks p with
   | none=>exact h q
   | some v=>
    have z:=kw_at B (p:=p) hU
    rw [q] at z
    refine xo1_2 z fun V e1 _=>?_;clear z
    rw [e1] at e
    cases w:((ps.map W.nm).zip Xs).lookup (W.nm p) <;> rw [w] at e <;> exact snE e
  ·refine xo1_1 (nNone h) fun c hc=>?_
   have:p∈ds.map (·.1):=List.mem_map.mpr ⟨_,mem_of_lookup hc,rfl⟩
   rw [← hkeys] at this
   rw [← List.take_append_drop (ps.length - ds.length) ps,List.nodup_append] at nd
   exact nd.2.2 _ (dl ▸ hp) _ this rfl
end
end Mine
end
section
open PySem PySem.W PyProof.Rows PySem.Calls
namespace Mine
set_option genInjectivity false in
set_option genSizeOf false in
structure Tab where
 names:List Str
 K:Params→Frag
 fns:List Fn
 fas:List Addr
 fds:List FuncData
 kds:List (List (Nat×NameKind))
 scs:List Scope
 gks:List (Nat×GK)
 mes:List (Nat×List (Nat×MK))
 cas:List (Nat×Addr)
 gvs:List (Nat×Value)
 exs:List (Nat×Addr)
 tys:List (Nat×String)
 top:Addr
 shapes:List (Nat×Nat×List Nat)
 rais:List Nat
 pct:List Nat
 init:Nat
 eqN:Nat
 ltN:Nat
 append:Nat
 pop:Nat
 remove:Nat
 indexError:Nat
 keyError:Nat
 intN:Nat
noncomputable def fn0:Fn:=⟨[],[],.nil,[]⟩
namespace Tab
noncomputable def meF (T:Tab) (c a:Nat):MK:=(((T.mes.lookup c).getD []).lookup a).getD .none
noncomputable def sig (T:Tab):Sig where
 gk:=fun i=>(T.gks.lookup i).getD .other
 me:=T.meF
 fn:=fun i=>T.fns.getD i fn0
 init:=T.init
 shapes:=T.shapes
 eqN:=T.eqN
 ltN:=T.ltN
 append:=T.append
 pop:=T.pop
 remove:=T.remove
 indexError:=T.indexError
 keyError:=T.keyError
 lf:=100000
 pct:=T.pct
 intN:=T.intN
 excs:=T.exs.map (·.1)++T.tys.map (·.1)
 rais:=T.rais
noncomputable def wd (T:Tab) (pr:Program) (w:World) (hb:Heap) (ro:Obj):Wd:=
 { prog:=pr,w:=w,K:=T.K w.params,hb:=hb,nm:=nmOf T.names,sc:=fun i=>T.scs.getD i default,g:=T.sig,gl:=fun i=>(T.gvs.lookup i).isSome,gv:=fun i=>(T.gvs.lookup i).getD .none,fa:=fun f=>T.fas.getD f 0,ca:=fun c=>(T.cas.lookup c).getD 0,scr:=ro }
noncomputable def propB (T:Tab) (K:Frag) (q:Addr) (f g:Nat):Bool:=(specialIn K (.ref q) "__get__" == some (some (.builtin "property.__get__")))&&(takesIn K (.ref q) == some true)&&(recIn K q "property" == some (.ref (T.fas.getD f 0) :: .ref (T.fas.getD g 0) :: ((recIn K q "property").getD []).drop 2))&&(typeIn K (.ref q) == some (.type "property"))
noncomputable def refV:Option (Option Value)→Addr
 | some (some (.ref a))=>a
 | _=>0
noncomputable def memB (T:Tab) (K:Frag) (C:Addr) (p:Nat×MK):Bool:=match p.2 with
 | .none=>true
 | .data=>findIn K (.ref C) (nmOf T.names p.1) == some none
 | .fn f=>(findIn K (.ref C) (nmOf T.names p.1) == some (some (.ref (T.fas.getD f 0))))&&isFn K (.ref (T.fas.getD f 0))&&keepIn K (.ref (T.fas.getD f 0))
 | .prop f g=>(findIn K (.ref C) (nmOf T.names p.1) == some (some (.ref (refV (findIn K (.ref C) (nmOf T.names p.1))))))&&T.propB K (refV (findIn K (.ref C) (nmOf T.names p.1))) f g
noncomputable def clsB (T:Tab) (K:Frag) (p:Nat×Addr):Bool:=
 (T.gvs.lookup p.1 == some (.ref p.2))&&(T.cas.lookup p.1 == some p.2)&&plainGet K p.2 (nmOf T.names 0)&&hasDictIn K p.2&&plainOver K p.2&&(findIn K (.ref p.2) "__setattr__" == some (some (.builtin "object.__setattr__")))&&makesIn K p.2&&keepIn K (.ref p.2) &&
 ((T.mes.lookup p.1).getD []).all (T.memB K p.2)
noncomputable def gkB (T:Tab) (K:Frag) (p:Nat×GK):Bool:=match p.2 with
 | .fn f=>(T.gvs.lookup p.1 == some (.ref (T.fas.getD f 0)))&&keepIn K (.ref (T.fas.getD f 0))
 | .cls=>(T.cas.lookup p.1).isSome
 | .bi b=>T.gvs.lookup p.1 == some (biV b)
 | .other=>true
noncomputable def globB (T:Tab) (K:Frag) (p:Nat×Value):Bool:=(nsIn K mainGlobals (nmOf T.names p.1) == some (some p.2)) || ((nsIn K mainGlobals (nmOf T.names p.1) == some none)&&(bootBuiltins (nmOf T.names p.1) == some p.2))
noncomputable def excB (T:Tab) (K:Frag) (p:Nat×Addr):Bool:=ownXB K p.2 T.top&&(T.gvs.lookup p.1 == some (.ref p.2))&&decide (p.2≠T.top)&&(T.exs.all fun q=>decide (p.2=q.2) == decide (p.1=q.1))&&T.tys.all fun q=>decide (p.1≠q.1)
noncomputable def tyB (T:Tab) (p:Nat×String):Bool:=(["IndexError", "KeyError", "TypeError", "ValueError"].contains p.2)&&(T.gvs.lookup p.1 == some (.type p.2))&&T.tys.all fun q=>decide (p.2=q.2) == decide (p.1=q.1)
noncomputable def raiB (T:Tab) (c:Nat):Bool:=(T.exs.lookup c).isSome || (T.tys.lookup c == some "TypeError") || (T.tys.lookup c == some "ValueError")
noncomputable def bads:List Str:=["__debug__", "super", "__name__",⟨#[46,48]⟩]
noncomputable def wordsB (T:Tab):Bool:=namesOk T.names bads&&(nmOf T.names T.eqN == "__eq__")&&(nmOf T.names T.ltN == "__lt__")&&(nmOf T.names T.append == "append")&&(nmOf T.names T.pop == "pop")&&(nmOf T.names T.remove == "remove")&&(nmOf T.names T.init == "__init__") &&
 (T.gvs.lookup T.keyError == some (.type "KeyError"))&&(T.gvs.lookup T.indexError == some (.type "IndexError"))&&(T.gvs.lookup T.intN == some (.type "int"))
noncomputable def seqOf (d:Data) (f:Array Value→Bool):Bool:=match d with
 | .seq xs _=>f xs
 | _=>false
theorem seqOf_inv {d:Data}{f:Array Value→Bool}(h:seqOf d f=true):∃ xs n,d=.seq xs n∧f xs=true:=by
 cases d <;> first | exact⟨_,_,rfl,h⟩ | exact ftE h
noncomputable def defB (K:Frag) (fd:FuncData) (ds:List (Nat×KC)):Bool:=((fd.defaults == .none)&&ds.isEmpty) || ((fd.defaults == .ref (refV (some (some fd.defaults))))&&match K.lookup (refV (some (some fd.defaults))) with
 | some o=>seqOf o.data fun xs=>dvsB ds xs.toList
 | none=>false)
noncomputable def cellB (fd:FuncData) (g:Fn) (kd:List (Nat×NameKind)):Bool:=fd.closure.isEmpty&&(g.cells == cellsK kd)&&decide (cellsK kd).Nodup&&(cellsK kd).all fun i=>kd.lookup i == some .cell
noncomputable def fnB (T:Tab) (K:Frag) (f:Nat):Bool:=
 let fd:=T.fds.getD f default
 let kd:=T.kds.getD f []
 let g:=T.fns.getD f fn0
 codeIn K fd.code fd.qualname&&(fd.globals == mainGlobals)&&(fd.builtins == builtinsNs)&&decide (fd.scope.kind=.function)&&!fd.scope.isCoroutine&&!fd.scope.isGenerator&&cellB fd g kd&&g.params.all (fun p=>(kd.lookup p == some .local) || (kd.lookup p == some .cell)) &&
 decide g.params.Nodup&&g.body.wf (fun i=>(T.gvs.lookup i).isSome) T.sig kd&&fd.params.posonlyargs.isEmpty&&fd.params.vararg.isNone&&fd.params.kwonlyargs.isEmpty&&fd.params.kw_defaults.isEmpty&&fd.params.kwarg.isNone &&
 decide (g.params.drop (g.params.length - g.dflts.length)=g.dflts.map (·.1))&&defB K fd g.dflts
noncomputable def shB (T:Tab) (x:Nat×Nat×List Nat):Bool:=
 let ps:=(T.fns.getD x.1 fn0).params
 decide (x.1 < T.fns.length)&&decide (x.2.1≤ps.length)&&decide x.2.2.Nodup&&x.2.2.all fun k=>(ps.drop x.2.1).contains k
noncomputable def ok (T:Tab) (P:Params):Bool:=T.cas.all (T.clsB (T.K P))&&T.mes.all (fun x=>(T.cas.lookup x.1).isSome)&&T.gks.all (T.gkB (T.K P))&&T.gvs.all (T.globB (T.K P))&&T.exs.all (T.excB (T.K P))&&T.tys.all T.tyB&&T.rais.all T.raiB&&T.wordsB &&
 T.shapes.all (fun x=>T.shB x&&T.fnB (T.K P) x.1)
structure Eqs (T:Tab) (P:Params):Prop where
 at_:(T.fas.map fun a=>((T.K P).lookup a).map (·.data))=T.fds.map fun d=>some (.func d)
 body:(T.fds.map fun d=>(d.body,d.scope.names,d.params.args.map (·.arg)))=(T.fns.zip T.kds).map fun x=>(.stmts (x.1.body.dec (nmOf T.names) fun i=>T.scs.getD i default),x.2.map fun y=>(nmOf T.names y.1,y.2),x.1.params.map (nmOf T.names))
 len:T.fns.length=T.kds.length
end Tab
theorem and_l {a b:Bool}(h:(a&&b)=true):a=true:=(bAnd h).1
theorem and_r {a b:Bool}(h:(a&&b)=true):b=true:=(bAnd h).2
theorem and_both {a b:Bool}(h:(a&&b)=true):a=true∧b=true:=bAnd h
theorem not_t {b:Bool}(h:(!b)=true):b=false:=by cases b <;> first | rfl | exact ftE h
theorem all_mem {α:Type}{l:List α}{f:α→Bool}(h:l.all f=true){x:α}(hx:x∈l):f x=true:=List.all_eq_true.mp h x hx
theorem lookup_some {α:Type}{l:List (Nat×α)}{k:Nat}{d x:α}(e:(l.lookup k).getD d=x)(hx:x≠d):(k,x)∈l:=by
 cases q:l.lookup k with
 | none=>rw [q] at e;exact (hx e.symm).elim
 | some y=>rw [q] at e;cases e;exact mem_of_lookup q
section
variable {T:Tab}{pr:Program}{w:World}{hb:Heap}{ro:Obj}(h:T.ok w.params=true)
include h
theorem Tab.parts:(∀ p∈T.cas,T.clsB (T.K w.params) p=true)∧(∀ x∈T.mes,(T.cas.lookup x.1).isSome=true)∧(∀ p∈T.gks,T.gkB (T.K w.params) p=true)∧(∀ p∈T.gvs,T.globB (T.K w.params) p=true)∧(∀ p∈T.exs,T.excB (T.K w.params) p=true)∧
  (∀ p∈T.tys,T.tyB p=true)∧(∀ c∈T.rais,T.raiB c=true)∧T.wordsB=true∧∀ x∈T.shapes,T.shB x=true∧T.fnB (T.K w.params) x.1=true:=by
 unfold Tab.ok at h
 exact⟨fun _=>all_mem (and_l (and_l (and_l (and_l (and_l (and_l (and_l (and_l h)))))))),fun _=>all_mem (and_r (and_l (and_l (and_l (and_l (and_l (and_l (and_l h)))))))),fun _=>all_mem (and_r (and_l (and_l (and_l (and_l (and_l (and_l h))))))),fun _=>all_mem (and_r (and_l (and_l (and_l (and_l (and_l h)))))),fun _=>all_mem (and_r (and_l (and_l (and_l (and_l h))))),fun _=>all_mem (and_r (and_l (and_l (and_l h)))),fun _=>all_mem (and_r (and_l (and_l h))),(and_r (and_l h)),fun x hx=>and_both (all_mem (and_r h) hx)⟩
theorem Tab.words:namesOk T.names Tab.bads=true∧nmOf T.names T.eqN = "__eq__" ∧ nmOf T.names T.ltN = "__lt__" ∧ nmOf T.names T.append = "append" ∧ nmOf T.names T.pop = "pop" ∧ nmOf T.names T.remove = "remove" ∧ nmOf T.names T.init = "__init__" ∧
  T.gvs.lookup T.keyError=some (.type "KeyError")∧T.gvs.lookup T.indexError=some (.type "IndexError")∧T.gvs.lookup T.intN=some (.type "int"):=by
 have h:=(Tab.parts h).2.2.2.2.2.2.2.1
 unfold Tab.wordsB at h
 exact⟨(and_l (and_l (and_l (and_l (and_l (and_l (and_l (and_l (and_l h))))))))),beq_iff_eq.mp (and_r (and_l (and_l (and_l (and_l (and_l (and_l (and_l (and_l h))))))))),beq_iff_eq.mp (and_r (and_l (and_l (and_l (and_l (and_l (and_l (and_l h)))))))),beq_iff_eq.mp (and_r (and_l (and_l (and_l (and_l (and_l (and_l h))))))),beq_iff_eq.mp (and_r (and_l (and_l (and_l (and_l (and_l h)))))),beq_iff_eq.mp (and_r (and_l (and_l (and_l (and_l h))))),beq_iff_eq.mp (and_r (and_l (and_l (and_l h)))),beq_iff_eq.mp (and_r (and_l (and_l h))),beq_iff_eq.mp (and_r (and_l h)),beq_iff_eq.mp (and_r h)⟩
theorem Tab.meMem {c a:Nat}{x:MK}(e:T.sig.me c a=x)(hx:x≠.none):(a,x)∈(T.mes.lookup c).getD []∧∃ p∈T.cas,p.1=c:=by
 have m:=lookup_some e hx
 refine⟨m,?_⟩
 cases q:T.mes.lookup c with
 | none=>rw [q] at m;exact absurd m nofun
 | some l=>
  refine xo1_1 (Option.isSome_iff_exists.mp ((Tab.parts h).2.1 _ (mem_of_lookup q))) fun x e=>?_
  exact⟨_,mem_of_lookup e,rfl⟩
theorem Tab.clsOf {p:Nat×Addr}(hp:p∈T.cas):ClsOk (T.wd pr w hb ro) p.1∧keepIn (T.K w.params) (.ref p.2)=true∧(T.wd pr w hb ro).ca p.1=p.2∧∀ a f,T.sig.me p.1 a=.fn f→keepIn (T.K w.params) (.ref (T.fas.getD f 0))=true:=by
 have z:=(Tab.parts h).1 p hp
 unfold Tab.clsB at z
 have z0:=beq_iff_eq.mp (and_r (and_l (and_l (and_l (and_l (and_l (and_l (and_l z))))))))
 have hc:(T.wd pr w hb ro).ca p.1=p.2:=by show (T.cas.lookup p.1).getD 0=_;rw [z0];rfl
 have mem:∀ a x,T.sig.me p.1 a=x→x≠.none→T.memB (T.K w.params) p.2 (a,x)=true:=fun a x e hx=>all_mem (and_r z) (Tab.meMem h e hx).1
 have mf:∀ a f,T.sig.me p.1 a=.fn f→(findIn (T.K w.params) (.ref p.2) (nmOf T.names a)=some (some (.ref (T.fas.getD f 0)))∧isFn (T.K w.params) (.ref (T.fas.getD f 0))=true)∧keepIn (T.K w.params) (.ref (T.fas.getD f 0))=true:=fun a f e=>by
  have:=mem a _ e nofun
  exact⟨⟨beq_iff_eq.mp (and_l (and_l this)),and_r (and_l this)⟩,and_r this⟩
 refine⟨?_,(and_r (and_l z)),hc,fun a f e=>(mf a f e).2⟩
 constructor
 ·rw [hc];show (T.gvs.lookup p.1).getD .none=_;rw [beq_iff_eq.mp (and_l (and_l (and_l (and_l (and_l (and_l (and_l (and_l z))))))))];rfl
 ·rw [hc];exact fun a=>(and_r (and_l (and_l (and_l (and_l (and_l (and_l z)))))))
 ·rw [hc];exact (and_r (and_l (and_l (and_l (and_l (and_l z))))))
 ·rw [hc];exact (and_r (and_l (and_l (and_l (and_l z)))))
 ·rw [hc];exact beq_iff_eq.mp (and_r (and_l (and_l (and_l z))))
 ·rw [hc];exact fun a e=>beq_iff_eq.mp (mem a _ e nofun)
 ·rw [hc];exact fun a f e=>(mf a f e).1
 ·rw [hc]
  intro a f g e
  have:=mem a _ e nofun
  have this:=bAnd this
  have a:=bAnd this.2
  have b:=bAnd a.1
  have c:=bAnd b.1
  exact⟨_,_,beq_iff_eq.mp this.1,beq_iff_eq.mp c.1,beq_iff_eq.mp c.2,beq_iff_eq.mp b.2,beq_iff_eq.mp a.2⟩
 ·rw [hc];exact (and_r (and_l (and_l z)))
omit h in
theorem Tab.casOf {c:Nat}(e:(T.cas.lookup c).isSome=true):∃ p∈T.cas,p.1=c:=by
 refine xo1_1 (Option.isSome_iff_exists.mp e) fun x e=>?_
 exact⟨_,mem_of_lookup e,rfl⟩
theorem Tab.clss:Clss (T.wd pr w hb ro):=fun c hc=>by
 have:∃ p∈T.cas,p.1=c:=by
  rcases hc with⟨a,ha⟩ | hc
  ·exact (Tab.meMem h rfl ha).2
  ·exact Tab.casOf ((Tab.parts h).2.2.1 _ (lookup_some hc nofun))
 refine xo1_2 this fun p hp e2_=>?_;clear this;obtain rfl:=e2_
 exact (Tab.clsOf h hp).1
theorem Tab.gkFn {k f:Nat}(e:T.sig.gk k=.fn f):T.gvs.lookup k=some (.ref (T.fas.getD f 0))∧keepIn (T.K w.params) (.ref (T.fas.getD f 0))=true:=by
 have:=(Tab.parts h).2.2.1 _ (lookup_some e nofun)
 simpa only [Tab.gkB,Bool.and_eq_true,beq_iff_eq] using this
theorem Tab.funs:Funs (T.wd pr w hb ro) where
 gv k f e:=by show (T.gvs.lookup k).getD .none=_;rw [(Tab.gkFn h e).1];rfl
 keep k f e:=(Tab.gkFn h e).2
 keepC k e:=by
  refine xo1_2 (Tab.casOf ((Tab.parts h).2.2.1 _ (lookup_some e nofun))) fun p hp e2_=>?_;obtain rfl:=e2_
  refine xo0_4 (Tab.clsOf (pr:=pr) (hb:=hb) (ro:=ro) h hp) fun _ z1 z2 _=>?_
  rw [z2];exact z1
 keepM c a f e:=by
  refine xo1_2 ((Tab.meMem h e nofun).2) fun p hp e2_=>?_;obtain rfl:=e2_
  exact (Tab.clsOf (pr:=pr) (hb:=hb) (ro:=ro) h hp).2.2.2 a f e
 init:=(Tab.words h).2.2.2.2.2.2.1
theorem Tab.base {mg mb:Str→Option Value}(hB:(T.K w.params).In hb)(hl:hb.NoLimit)(hg:hb.Ns mainGlobals mg)(hn:hb.Ns builtinsNs mb)(hbb:∀ x:Str,x ≠ "__name__" → mb x=bootBuiltins x):Base (T.wd pr w hb ro) where
 inK:=hB
 lim:=hl
 inj:=nm_inj (Tab.words h).1
 dbg i:=nm_odd (Tab.words h).1 i (by unfold Tab.bads;decide) (by decide +kernel)
 dot i:=beq_eq_false_iff_ne.mp (nm_odd (Tab.words h).1 i (b:=⟨#[46,48]⟩) (by unfold Tab.bads;decide) (by decide +kernel))
 sup i:=by
  show (!(nmOf T.names i == ("super" : Str)))=true
  rw [nm_odd (Tab.words h).1 i (b:=("super" : Str)) (by unfold Tab.bads;decide) (by decide +kernel)];rfl
 ns:=⟨mg,mb,hg,hn,fun i hi=>by
  refine xo1_1 (Option.isSome_iff_exists.mp hi) fun v hv=>?_
  have e:(T.wd pr w hb ro).gv i=v:=by show (T.gvs.lookup i).getD .none=v;rw [hv];rfl
  rw [e]
  have g:=(Tab.parts h).2.2.2.1 _ (mem_of_lookup hv)
  rcases Bool.or_eq_true_iff.mp g with g | g
  ·exact .inl (mg_of hB hg (beq_iff_eq.mp g))
  ·refine xo0_2 (bAnd g) fun g1 g2=>?_
   refine .inr ⟨ns_none_of hB hg (beq_iff_eq.mp g1),(hbb _ ?_).trans (beq_iff_eq.mp g2)⟩
   exact beq_eq_false_iff_ne.mp (nm_odd (Tab.words h).1 i (b:=("__name__" : Str)) (by unfold Tab.bads;decide) (by decide +kernel))⟩
theorem Tab.wordsOk (hsm:hb.get? sysModules≠none)(hp:∀ k∈T.pct,∀ (prog:Program)(w:World)(A:Around)(E:Value→Shared→Prop)(s:Shared)(t u:Tok)(n:Int)(Q:Value→Shared→Prop),0≤n→n < 1000000000→
  (∀ y t' k,Q (.str y t') { s with toks:=k })→wpAny (model prog w) A (binaryOp .Mod (.str (nmOf T.names k) t) (.int n u)) Q E s):Words (T.wd pr w hb ro):=by
 obtain⟨z,z1,z2,z3,z4,z5,z6,z7,z8,z9⟩:=Tab.words h
 exact⟨by show (T.gvs.lookup T.keyError).getD .none=_;rw [z7];rfl,by show (T.gvs.lookup T.indexError).getD .none=_;rw [z8];rfl,hsm,z1,z2,
  fun k b e=>by
   have:=(Tab.parts h).2.2.1 _ (lookup_some e nofun)
   show (T.gvs.lookup k).getD .none=_
   rw [beq_iff_eq.mp this];rfl,
  by show (T.gvs.lookup T.intN).getD .none=_;rw [z9];rfl,z3,z4,z5,hp,nm_cps z⟩
theorem Tab.excs {c:Nat}(hc:c∈T.sig.excs):(∃ a,(c,a)∈T.exs∧(T.wd pr w hb ro).gv c=.ref a)∨∃ U,(c,U)∈T.tys∧(T.wd pr w hb ro).gv c=.type U:=by
 have hc:c∈T.exs.map (·.1)++T.tys.map (·.1):=hc
 rcases List.mem_append.mp hc with hc | hc
 ·obtain⟨⟨c,a⟩,hp,rfl⟩:=List.mem_map.mp hc
  have z:=(Tab.parts h).2.2.2.2.1 _ hp
  simp only [Tab.excB,Bool.and_eq_true,beq_iff_eq] at z
  exact .inl ⟨a,hp,by show (T.gvs.lookup c).getD .none=_;rw [z.1.1.1.2];rfl⟩
 ·obtain⟨⟨c,a⟩,hp,rfl⟩:=List.mem_map.mp hc
  have z:=(Tab.parts h).2.2.2.2.2.1 _ hp
  simp only [Tab.tyB,Bool.and_eq_true,beq_iff_eq] at z
  exact .inr ⟨a,hp,by show (T.gvs.lookup c).getD .none=_;rw [z.1.2];rfl⟩
theorem Tab.own {c:Nat}{a:Addr}(hB:(T.K w.params).In hb)(hp:(c,a)∈T.exs):OwnX hb a T.top∧a≠T.top∧(∀ d b,(d,b)∈T.exs→decide (a=b)=decide (c=d))∧∀ d U,(d,U)∈T.tys→c≠d:=by
 have z:=(Tab.parts h).2.2.2.2.1 _ hp
 simp only [Tab.excB,Bool.and_eq_true,List.all_eq_true,decide_eq_true_eq,beq_iff_eq] at z
 exact⟨ownX_of hB z.1.1.1.1,z.1.1.2,fun d b h=>z.1.2 _ h,fun d U h=>z.2 _ h⟩
theorem Tab.ty {c:Nat}{U:String}(hp:(c,U)∈T.tys):U∈["IndexError", "KeyError", "TypeError", "ValueError"]∧∀ d V,(d,V)∈T.tys→decide (U=V)=decide (c=d):=by
 have z:=(Tab.parts h).2.2.2.2.2.1 _ hp
 simp only [Tab.tyB,Bool.and_eq_true,List.all_eq_true,beq_iff_eq,List.contains_iff_mem] at z
 exact⟨z.1.1,fun d V h=>z.2 _ h⟩
omit h in
theorem four {p:String→Prop}(a:p "IndexError") (b:p "KeyError") (c:p "TypeError") (d:p "ValueError") {U:String} (h:U∈["IndexError", "KeyError", "TypeError", "ValueError"]):p U:=by
 simp only [List.mem_cons,List.not_mem_nil,or_false] at h
 rcases h with rfl | rfl | rfl | rfl <;> assumption
noncomputable def subP (U:Value) (V:Value) (b:Bool):Prop:=isSubtype U V=pure b
noncomputable def TyX (U:String):Prop:=(subP (.type U) (.type "BaseException") true∧subP (.type ((Manifest.find? U).elim "type" fun x=>x.metatype)) (.type "tuple") false∧∀ D,subP (.type U) (.ref D) false)∧
  (∀ a,(Value.ref a :: bmX).contains (.type U)=false)∧∀ {V},V∈["IndexError", "KeyError", "TypeError", "ValueError"]→subP (.type U) (.type V) (decide (U=V))
omit h in
theorem subP.of {U:String}{V:Value}{b:Bool}(e:(match fastBuiltinMro U with | some mro=>pure (mro.contains V) | none=>unsupported ("internal:unknown-type:" ++ U))=(pure b:Sem Bool)):subP (.type U) V b:=by unfold subP;rw [isSubtype_type];exact e
omit h in
theorem fourB {U:String}(a:subP (.type U) (.type "IndexError") (decide (U = "IndexError"))) (b:subP (.type U) (.type "KeyError") (decide (U = "KeyError"))) (c:subP (.type U) (.type "TypeError") (decide (U = "TypeError"))) (d:subP (.type U) (.type "ValueError") (decide (U = "ValueError"))) {V:String} (h:V∈["IndexError", "KeyError", "TypeError", "ValueError"]) :
  subP (.type U) (.type V) (decide (U=V)):=four (p:=fun V=>subP (.type U) (.type V) (decide (U=V))) a b c d h
omit h in
theorem tyX {U:String}(h:U∈["IndexError", "KeyError", "TypeError", "ValueError"]):TyX U:=by
 refine four (p:=TyX) ?_ ?_ ?_ ?_ h <;>
 exact⟨⟨.of (by kernel_rfl),.of (by kernel_rfl),fun D=>.of (by kernel_rfl)⟩,fun a=>by kernel_rfl,fourB (.of (by kernel_rfl)) (.of (by kernel_rfl)) (.of (by kernel_rfl)) (.of (by kernel_rfl))⟩
theorem Tab.exms (hB:(T.K w.params).In hb):Exms (T.wd pr w hb ro):=fun c d hc hd M A E s e o Q hs he ho hv hq=>by
 rcases Tab.excs (pr:=pr) (w:=w) (hb:=hb) (ro:=ro) h hc with⟨a,h1,h2⟩ | ⟨U,h1,h2⟩ <;> rcases Tab.excs (pr:=pr) (w:=w) (hb:=hb) (ro:=ro) h hd with⟨b,g1,g2⟩ | ⟨V,g1,g2⟩ <;> rw [g2] <;> rw [h2] at ho
 ·refine xo0_4 (Tab.own h hB h1) fun z1 z2 z3 _=>?_
  refine xo0_3 (Tab.own h hB g1) fun y1 y2 _=>?_
  exact (z1.keeps hs).matches (y1.keeps hs) (fun _ q=>y2 q.symm) he ho ((z3 _ _ g1) ▸ hq)
 ·obtain⟨⟨t1,t2,t3⟩,t4,_⟩:=tyX (Tab.ty h g1).1
  refine xo0_4 (Tab.own h hB h1) fun z1 z2 z3 z4=>?_
  obtain⟨N,nm,q,bs,hdct,sn,sub,ab,col,dd,k0,k1,k2,k3,k5,mN,hC,-⟩:=z1.keeps hs
  rw [decide_eq_false (z4 _ _ g1)] at hq
  exact wpAny_excMatches_sub_type hC he ho t1 t2 (by rw [t4];exact hq)
 ·obtain⟨⟨t1,t2,t3⟩,t4,_⟩:=tyX (Tab.ty h h1).1
  refine xo0_4 (Tab.own h hB g1) fun z1 z2 z3 z4=>?_
  rw [decide_eq_false fun q=>z4 _ _ h1 q.symm] at hq
  exact (z1.keeps hs).matches_type ⟨o,he,ho⟩ (t3 _) hq
 ·refine xo0_2 (Tab.ty h h1) fun z1 z2=>?_
  refine xo0_2 (Tab.ty h g1) fun y1 y2=>?_
  obtain⟨⟨t1,t2,t3⟩,t4,_⟩:=tyX y1
  exact wpAny_excMatches_type ⟨o,he,ho⟩ t1 t2 ((z2 _ _ g1) ▸ (tyX z1).2.2 y1) hq
theorem Tab.excOk (hB:(T.K w.params).In hb):∀ c,c∈T.sig.rais→ExcOk (T.wd pr w hb ro) c:=fun c hc=>by
 have z:=(Tab.parts h).2.2.2.2.2.2.1 c hc
 simp only [Tab.raiB,Bool.or_eq_true,beq_iff_eq,or_assoc] at z
 rcases z with z | z
 ·refine xo1_1 (Option.isSome_iff_exists.mp z) fun a z=>?_
  have h1:=mem_of_lookup z
  have X:=(Tab.own h hB h1).1
  have h2:(T.wd pr w hb ro).gv c=.ref a:=by
   have z:=(Tab.parts h).2.2.2.2.1 _ h1
   simp only [Tab.excB,Bool.and_eq_true,beq_iff_eq] at z
   show (T.gvs.lookup c).getD .none=_;rw [z.1.1.1.2];rfl
  constructor <;> rw [h2]
  ·exact fun M h k=>⟨.machine,.inr (.inl rfl),OwnX.keeper (s:=⟨h,#[],{},0,{}⟩) (X.keeps k) M⟩
  ·exact fun A E s V Q k hq=>(X.keeps k).make hq
  ·exact fun A E s e t Q k he h=>(X.keeps k).raise he h
 ·obtain⟨U,h1,⟨n,i,Z1⟩,Z2⟩:∃ U,(c,U)∈T.tys∧(∃ n i,ExcCallFacts U n i)∧ExcRaiseFacts U:=by
   rcases z with z | z
   ·exact⟨_,mem_of_lookup z,⟨_,_,F.excCall_TypeError⟩,F.excRaise_TypeError⟩
   ·exact⟨_,mem_of_lookup z,⟨_,_,F.excCall_ValueError⟩,F.excRaise_ValueError⟩
  have h2:(T.wd pr w hb ro).gv c=.type U:=by
   have z:=(Tab.parts h).2.2.2.2.2.1 _ h1
   simp only [Tab.tyB,Bool.and_eq_true,beq_iff_eq] at z
   show (T.gvs.lookup c).getD .none=_;rw [z.1.2];rfl
  constructor <;> rw [h2]
  ·exact fun M h k=>⟨.machine,.inr (.inl rfl),.of_pure rfl⟩
  ·exact fun A E s V Q k hq=>made_type Z1 hq
  ·exact fun A E s e t Q k he h=>raise_type Z2 he h
omit h in
theorem map_at {α β γ:Type}{f:α→γ}{g:β→γ}{xs:List α}:∀ {ys:List β},xs.map f=ys.map g→∀ {i:Nat}(dx:α)(dy:β),i < xs.length→f (xs.getD i dx)=g (ys.getD i dy):=by
 induction xs with
 | nil=>exact fun _ _ _ _ h=>absurd h (Nat.not_lt_zero _)
 | cons x xs ih=>
  intro ys e i dx dy h
  cases ys with
  | nil=>exact absurd e nofun
  | cons y ys=>
   have e:=List.cons.inj e
   cases i with
   | zero=>exact e.1
   | succ i=>exact ih e.2 dx dy (Nat.lt_of_succ_lt_succ h)
theorem Tab.fnsOk (q:T.Eqs w.params)(hB:Base (T.wd pr w hb ro)):∀ f n ks,(f,n,ks)∈T.sig.shapes→∃ fd kd,FnIs (T.wd pr w hb ro) f fd kd:=fun f n ks hf=>by
 refine xo0_2 ((Tab.parts h).2.2.2.2.2.2.2.2 _ hf) fun s1 s2=>?_
 refine⟨T.fds.getD f default,T.kds.getD f [],?_⟩
 have hfl:f < T.fns.length:=by
  simp only [Tab.shB,Bool.and_eq_true,decide_eq_true_eq] at s1
  exact s1.1.1.1
 have hzl:(T.fns.zip T.kds).length=T.fns.length:=by rw [List.length_zip,← q.len,Nat.min_self]
 have hdl:T.fds.length=T.fns.length:=by have:=congrArg List.length q.body;rw [List.length_map,List.length_map,hzl] at this;exact this
 have hal:T.fas.length=T.fns.length:=by have:=congrArg List.length q.at_;rw [List.length_map,List.length_map] at this;lia
 have e1:=map_at q.at_ (i:=f) 0 default (by lia)
 have e2:=map_at q.body (i:=f) default (fn0,[]) (by lia)
 have ez:(T.fns.zip T.kds).getD f (fn0,[])=(T.fns.getD f fn0,T.kds.getD f []):=by
  have hk:f < T.kds.length:=q.len ▸ hfl
  simp [List.getD_eq_getElem?_getD,List.getElem?_zip_eq_some,List.getElem?_eq_getElem,hfl,hk,hzl]
 rw [ez] at e2
 refine xo0_2 (Prod.mk.inj e2) fun e2 e3=>?_
 refine xo0_2 (Prod.mk.inj e3) fun e3 e4=>?_
 unfold Tab.fnB at s2
 dsimp only at s2
 refine⟨?_,(and_l (and_l (and_l (and_l (and_l (and_l (and_l (and_l (and_l (and_l (and_l (and_l (and_l (and_l (and_l (and_l s2)))))))))))))))),e2,(beq_iff_eq.mp (and_r (and_l (and_l (and_l (and_l (and_l (and_l (and_l (and_l (and_l (and_l (and_l (and_l (and_l (and_l (and_l s2))))))))))))))))),(beq_iff_eq.mp (and_r (and_l (and_l (and_l (and_l (and_l (and_l (and_l (and_l (and_l (and_l (and_l (and_l (and_l (and_l s2)))))))))))))))),e3,(of_decide_eq_true (and_r (and_l (and_l (and_l (and_l (and_l (and_l (and_l (and_l (and_l (and_l (and_l (and_l (and_l s2))))))))))))))),(not_t (and_r (and_l (and_l (and_l (and_l (and_l (and_l (and_l (and_l (and_l (and_l (and_l (and_l s2)))))))))))))),(not_t (and_r (and_l (and_l (and_l (and_l (and_l (and_l (and_l (and_l (and_l (and_l (and_l s2))))))))))))),(List.isEmpty_iff.mp (and_l (and_l (and_l (and_r (and_l (and_l (and_l (and_l (and_l (and_l (and_l (and_l (and_l (and_l s2))))))))))))))),(beq_iff_eq.mp (and_r (and_l (and_l (and_r (and_l (and_l (and_l (and_l (and_l (and_l (and_l (and_l (and_l (and_l s2))))))))))))))),(of_decide_eq_true (and_r (and_l (and_r (and_l (and_l (and_l (and_l (and_l (and_l (and_l (and_l (and_l (and_l s2)))))))))))))),(fun x hx=>beq_iff_eq.mp (all_mem (and_r (and_r (and_l (and_l (and_l (and_l (and_l (and_l (and_l (and_l (and_l (and_l s2)))))))))))) hx)),(fun x hx=>(Bool.or_eq_true_iff.mp (all_mem (and_r (and_l (and_l (and_l (and_l (and_l (and_l (and_l (and_l (and_l s2)))))))))) hx)).imp beq_iff_eq.mp beq_iff_eq.mp),(of_decide_eq_true (and_r (and_l (and_l (and_l (and_l (and_l (and_l (and_l (and_l s2)))))))))),(and_r (and_l (and_l (and_l (and_l (and_l (and_l (and_l s2)))))))),?_⟩
 ·obtain⟨⟨oc,od,da,os⟩,g1,g2⟩:=Option.map_eq_some_iff.mp e1
  cases g2
  exact⟨oc,od,os,g1⟩
 ·intro β n xs Xs ks Ks vs s hst hs hx hy hv
  refine xo0_2 ((Tab.parts h).2.2.2.2.2.2.2.2 _ hs) fun t1 e1_=>?_;clear e1_
  simp only [Tab.shB,Bool.and_eq_true,decide_eq_true_eq,List.all_eq_true,List.contains_iff_mem] at t1
  refine par_bind hB (ps:=(T.fns.getD f fn0).params) (ds:=(T.fns.getD f fn0).dflts) ⟨⟨_,(T.fds.getD f default).params.defaults,?_,e4⟩,(of_decide_eq_true (and_r (and_l (and_l (and_l (and_l (and_l (and_l (and_l (and_l s2)))))))))),(of_decide_eq_true (and_r (and_l s2))),?_⟩ hst ⟨t1.1.2,t1.2⟩ t1.1.1.2 hx hy hv
  ·have c1:=List.isEmpty_iff.mp (and_r (and_l (and_l (and_l (and_l (and_l (and_l s2)))))))
   have c2:=Option.isNone_iff_eq_none.mp (and_r (and_l (and_l (and_l (and_l (and_l s2))))))
   have c3:=List.isEmpty_iff.mp (and_r (and_l (and_l (and_l (and_l s2)))))
   have c4:=List.isEmpty_iff.mp (and_r (and_l (and_l (and_l s2))))
   have c5:=Option.isNone_iff_eq_none.mp (and_r (and_l (and_l s2)))
   revert c1 c2 c3 c4 c5
   cases (T.fds.getD f default).params
   rintro rfl rfl rfl rfl rfl
   rfl
  ·rcases Bool.or_eq_true_iff.mp (and_r s2) with c | c
   ·have c:=bAnd c
    exact⟨[],(List.isEmpty_iff.mp c.2) ▸ rfl,.inl ⟨beq_iff_eq.mp c.1,rfl⟩⟩
   ·have c:=bAnd c
    have c2:=c.2
    cases g:(T.K w.params).lookup (refV (some (some (T.fds.getD f default).defaults))) with
    | none=>rw [g] at c2;exact ftE c2
    | some o=>
     rw [g] at c2
     refine xo2_2 (seqOf_inv c2) fun xs n e z=>?_
     exact⟨xs.toList,z,.inr ⟨_,o,n,beq_iff_eq.mp c.1,g,e⟩⟩
theorem Tab.all (q:T.Eqs w.params){mg mb:Str→Option Value}(hB:(T.K w.params).In hb)(hl:hb.NoLimit)(hg:hb.Ns mainGlobals mg)(hn:hb.Ns builtinsNs mb)(hbb:∀ x:Str,x ≠ "__name__" → mb x=bootBuiltins x) (hsm:hb.get? sysModules≠none)
  (hp:∀ k∈T.pct,∀ (prog:Program) (w:World) (A:Around) (E:Value→Shared→Prop) (s:Shared) (t u:Tok) (n:Int) (Q:Value→Shared→Prop),0≤n→n < 1000000000→(∀ y t' k,Q (.str y t') { s with toks:=k })→wpAny (model prog w) A (binaryOp .Mod (.str (nmOf T.names k) t) (.int n u)) Q E s):Mine.All (T.wd pr w hb ro):=
 ⟨Tab.base h hB hl hg hn hbb,Tab.wordsOk h hsm hp,Tab.funs h,Tab.clss h,Tab.exms h hB,Tab.excOk h hB,Tab.fnsOk h q (Tab.base h hB hl hg hn hbb)⟩
end
end Mine
end
section
open PySem PySem.W PyProof.Rows PySem.Calls
namespace Mine
noncomputable def gvT:List (Nat×Value):=[(2,.ref 21),(5,.ref 28),(9,.ref 35),(11,.ref 45),(12,.ref 58),(13,.ref 70),(14,.ref 82),(15,.ref 94),(16,.ref 106),(17,.ref 118),(18,.ref 130),(19,.ref 245),(64,.ref 256),(68,.ref 346),(105,.ref 357),(108,.ref 362),(111,.ref 369),(114,.ref 376),(119,.ref 383),(121,.ref 390),(124,.ref 397),
 (52,.type "IndexError"),(79,.type "KeyError"),(72,.type "TypeError"),(74,.type "ValueError"),(32,.builtin "isinstance"),(33,.type "int"),(8,.builtin "len"),(126,.builtin "abs"),(66,.type "range"),(58,.notImplemented)]
noncomputable def meS:List (Nat×MK):=[(23,.fn 3),(22,.prop 4 5),(37,.fn 6),(38,.fn 7),(42,.fn 8),(48,.fn 9),(55,.fn 11),(57,.fn 13),(21,.data),(24,.data),(25,.data),(26,.data),(27,.data),(28,.data),(29,.data),(30,.data)]
noncomputable def meP:List (Nat×MK):=[(23,.fn 18),(78,.fn 19),(84,.fn 20),(80,.fn 21),(90,.fn 22),(96,.fn 23),(81,.fn 24),(99,.fn 25),(102,.fn 27),(104,.fn 28),(70,.data),(71,.data),(76,.data)]
noncomputable def shapes:List (Nat×Nat×List Nat):=[(0,2,[]),(1,2,[]),(2,1,[]),(3,3,[]),(3,1,[21,22]),(4,1,[]),(5,2,[]),(6,2,[]),(7,2,[]),(8,2,[]),(8,2,[41]),(9,1,[]),(11,2,[]),(13,2,[]),(17,2,[]),(18,1,[]),(19,2,[]),
 (20,3,[]),(21,2,[]),(21,3,[]),(21,4,[]),(21,5,[]),(22,4,[]),(22,5,[]),(23,2,[]),(24,2,[]),(25,2,[]),(27,1,[]),(28,1,[]),(29,0,[]),(30,2,[]),(31,3,[]),(32,4,[]),(33,4,[]),(34,1,[]),(35,1,[])]
noncomputable def tab:Tab where
 names:=names
 K:=K
 fns:=fnTab
 fas:=faTab
 fds:=fdTab
 kds:=kdTab
 scs:=sct
 gks:=[(2,.fn 0),(5,.fn 1),(9,.fn 2),(64,.fn 17),(105,.fn 29),(108,.fn 30),(111,.fn 31),(114,.fn 32),(119,.fn 33),(121,.fn 34),(124,.fn 35),(19,.cls),(68,.cls),(126,.bi .abs),(8,.bi .len),(32,.bi .isinstance),(66,.bi .range)]
 mes:=[(19,meS),(68,meP)]
 cas:=[(19,245),(68,346)]
 gvs:=gvT
 exs:=[(12,58),(13,70),(14,82),(15,94),(16,106),(17,118),(18,130)]
 tys:=[(52, "IndexError"),(79, "KeyError"),(72, "TypeError"),(74, "ValueError")]
 top:=45
 shapes:=shapes
 rais:=[12,13,14,15,16,17,18,72,74]
 pct:=[]
 init:=23
 eqN:=55
 ltN:=57
 append:=6
 pop:=10
 remove:=43
 indexError:=52
 keyError:=79
 intN:=33
noncomputable def sg:Sig:=tab.sig
theorem tab_ok (P:Params):tab.ok P=true:=by kernel_rfl
theorem tab_eqs (P:Params):tab.Eqs P:=⟨by kernel_rfl,by kernel_rfl,rfl⟩
end Mine
end
section
open PySem PySem.W PyProof.Rows PySem.Calls Builtin Builtin.Str
namespace Mine
theorem pcts:∀ k∈tab.pct,∀ (prog:Program)(w:World)(A:Around)(E:Value→Shared→Prop)(s:Shared)(t u:Tok)(n:Int)(Q:Value→Shared→Prop),0≤n→n < 1000000000→(∀ y t' k,Q (.str y t') { s with toks:=k })→wpAny (model prog w) A (binaryOp .Mod (.str (nmOf tab.names k) t) (.int n u)) Q E s:=fun k hk=>absurd (show k∈([]:List Nat) from hk) List.not_mem_nil
end Mine
end
section
open PySem PySem.W PyProof.Rows PySem.Calls
namespace Mine
noncomputable def without (h:Heap) (a:Addr):Heap:=h.update a fun o=>{ o with data:=.freed }
theorem without_get {h:Heap}{a b:Addr}{o:Obj}(e:(without h a).get? b=some o):h.get? b=some o∧b≠a:=by
 by_cases q:b=a
 ·subst q
  exfalso
  obtain⟨objs,l⟩:=h
  unfold without Heap.update Heap.get? at e
  dsimp only at e
  rw [Array.getElem?_modify,if_pos rfl] at e
  cases w:objs[b]? with
  | none=>rw [w] at e;exact nsE e
  | some x=>rw [w] at e;exact nsE e
 ·unfold without at e
  rw [Heap.get?_update_other _ _ (fun w=>q w.symm)] at e
  exact⟨e,q⟩
theorem without_self {h:Heap}{a:Addr}:(without h a).get? a=none:=by
 cases q:(without h a).get? a with
 | none=>rfl
 | some o=>exact absurd rfl (without_get q).2
theorem get_without {h:Heap}{a b:Addr}{o:Obj}(e:h.get? b=some o)(q:b≠a):(without h a).get? b=some o:=by
 unfold without
 rw [Heap.get?_update_other _ _ (fun w=>q w.symm)]
 exact e
noncomputable def noListB (K:Frag):Bool:=K.all fun p=>!(p.2.cls == .type "list")
theorem noList07 (P:Params):noListB (K P)=true:=by kernel_rfl
theorem ns_without {h:Heap}{a N:Addr}{m:Str→Option Value}(x:h.Ns N m){o:Obj}(ha:h.get? a=some o){v:Array Value}{ep:Nat}(hd:o.data=.seq v ep):(without h a).Ns N m:=by
 refine xo3_3 x fun y es e' h1 h2 h3=>?_;clear x
 refine⟨y,es,e',get_without h1 fun q=>?_,h2,h3⟩
 rw [q,ha] at h1
 obtain rfl:=Option.some.inj h1
 rw [hd] at h2
 exact absurd h2 nofun
theorem size_without {h:Heap}{a:Addr}:(without h a).objs.size=h.objs.size:=by
 obtain⟨objs,l⟩:=h
 unfold without Heap.update
 simp
theorem ints_VRs {W:Wd}{Vs:List Value}{ns:List Int}(x:IntsAre Vs ns):∀ (β:Nat→Addr)(n:Nat),VRs W β n (ns.map .int) Vs:=fun β n=>by
 induction x with
 | nil=>exact .nil
 | cons _ t _ ih=>exact .cons ⟨t,rfl⟩ ih
theorem law_at (P:Params):nsIn (K P) mainGlobals (nm 124)=some (some (.ref 397)):=by kernel_rfl
section
variable {pr:Program}{w:World}{s:Shared}{mg mb:Str→Option Value}{A:Around}{E Q:Value→Shared→Prop}
theorem law07 {a:Addr}{Vs:List Value}{ns:List Int}(hB:(K w.params).In s.heap)(hl:s.heap.NoLimit)(hg:s.heap.Ns mainGlobals mg)(hn:s.heap.Ns builtinsNs mb)(hbb:∀ x:Str,x ≠ "__name__" → mb x=bootBuiltins x) (hsm:∃ o es n,s.heap.get? sysModules=some o∧o.data=.dict es n)
  (hL:s.heap.IsList a Vs.toArray) (hI:IntsAre Vs ns) (hlen:ns.length≤63) (hh:A.handled=none) (hfr:A.frames=some []) (hd:A.depth≤301) (hu:A.units≤10)
  (run:∃ st',callF sg 301 35 [.loc 0] (st0 (ns.map .int))=.ok (.bool true) st'∧st'.heap 0=some (.ro (ns.map .int)))
  (hQ:∀ s',(∀ b o,s.heap.get? b=some o→s'.heap.get? b=some o)→s'={ s with heap:=s'.heap,toks:=s'.toks }→Q (.bool true) s'):wpAny (model pr w) A (call (.ref 397) [.ref a]) Q E s:=by
 refine xm_eaaea hL fun o ho hc ep hdat=>?_;clear hL
 revert run;refine fun z_=>xo1_2 z_ fun st' run hro=>?_;clear z_
 have hK:(K w.params).In (without s.heap a):=fun b x e=>get_without (hB b x e) fun q=>by
  have h1:=hB b x e
  rw [q,ho] at h1
  obtain rfl:=Option.some.inj h1
  have:=List.all_eq_true.mp (noList07 w.params) _ (mem_of_lookup e)
  simp only [hc] at this
  exact absurd this (by decide)
 have X:All (tab.wd pr w (without s.heap a) o):=by
  refine xo1_2 hl fun mc m1 m2=>?_;clear hl
  refine Tab.all (tab_ok _) (tab_eqs _) hK ⟨mc,ns_without m1 ho hdat,m2⟩ (ns_without hg ho hdat) (ns_without hn ho hdat) hbb ?_ pcts
  refine xo3_2 hsm fun y es n hy hd=>?_;clear hsm
  rw [get_without hy fun q=>by rw [q,ho] at hy;cases hy;rw [hdat] at hd;cases hd]
  nofun
 refine top_ok (W:=tab.wd pr w (without s.heap a) o) (f:=35) (p:=123) (n:=300) (xs:=ns.map .int) (Vs:=Vs) (ep:=ep) X (show (35,1,[])∈shapes by decide) rfl hh hfr ?_ ?_ (fun b x e=>(without_get e).1) (Nat.le_of_eq size_without) ho ⟨hc,hdat⟩ (ints_VRs hI) (by rw [List.length_map];(clear hu hd;lia)) without_self run hro fun s' h1 h2 h3=>hQ s' (fun b x e=>?_) h3
 ·show A.depth+1+2 * 300 < 1000
  (clear hu hlen;lia)
 ·show A.units+3+13 * 300+20 < 9900
  (clear hd hlen;lia)
 ·by_cases q:b=a
  ·rw [q] at e ⊢
   rw [ho] at e
   obtain rfl:=Option.some.inj e
   exact h2
  ·exact h1 b x (get_without e q)
end
end Mine
end
namespace Mine
section
open PySem
abbrev Hp:=Nat→Option AO
abbrev Lo:=List (Nat×AV)
abbrev Pst (α:Type):=α→Lo→Hp→Nat→Nat→Prop
abbrev Est:=Nat→Bool→Lo→Hp→Nat→Nat→Prop
noncomputable def Wp {α:Type} (r:R α) (Q:Pst α) (E:Est):Prop:=match r with
 | .ok a s=>Q a s.loc s.heap s.next s.hd
 | .ex c cl s=>E c cl s.loc s.heap s.next s.hd
 | .bad=>False
section
variable {E:Est}{α β:Type}{r:R α}{Q:Pst α}
theorem Wp.mono {Q':Pst α}{E':Est}(w:Wp r Q E)(hQ:∀ a L h n k,Q a L h n k→Q' a L h n k)(hE:∀ c cl L h n k,E c cl L h n k→E' c cl L h n k):Wp r Q' E':=by
 cases r with
 | ok a s=>exact hQ _ _ _ _ _ w
 | ex c cl s=>exact hE _ _ _ _ _ _ w
 | bad=>exact w
theorem Wp.imp {Q':Pst α}(w:Wp r Q E)(hQ:∀ a L h n k,Q a L h n k→Q' a L h n k):Wp r Q' E:=w.mono hQ fun _ _ _ _ _ _ x=>x
theorem Wp.bnd {f:α→St→R β}{Q:Pst β}(w:Wp r (fun a L h n k=>Wp (f a ⟨L,h,n,k⟩) Q E) E):Wp (r.bnd f) Q E:=by
 cases r <;> exact w
theorem Wp.eq {a:α}{L:Lo}{h:Hp}{n k:Nat}(e:r=.ok a ⟨L,h,n,k⟩)(q:Q a L h n k):Wp r Q E:=by subst e;exact q
theorem Wp.only {f:α→St→R β}{Q:Pst β}(w:Wp r (fun a L h n k=>Wp (f a ⟨L,h,n,k⟩) Q E) fun _ _ _ _ _ _=>False):Wp (r.only.bnd f) Q E:=by
 cases r with
 | ok a s=>exact w
 | ex c cl s=>exact w.elim
 | bad=>exact w
theorem Wp.atO {s:St}{l:Nat}{o:AO}{f:AO→R α}(e:s.heap l=some o)(w:Wp (f o) Q E):Wp (atObj s l f) Q E:=by unfold atObj;rw [e];exact w
theorem Wp.ifp {p:Prop} [Decidable p] (h:p)(w:Wp r Q E):Wp (if p then r else .bad) Q E:=by rw [if_pos h];exact w
theorem Wp.cmpI {g:Sig}{C:Nat→List AV→St→R AV}{l j m c f:Nat}{as bs:Lo}{L:Lo}{h:Hp}{n k:Nat}{Q:Pst Bool}(ha:h l=some (.inst c as))(hb:h j=some (.inst c bs))(hm:g.me c m=.fn f)
  (w:Wp (callFn g C f [.loc l,.loc j] [] ⟨L,h,n,k⟩) (fun v L h n k=>∃ b,v=.bool b∧Q b L h n k) fun _ _ _ _ _ _=>False):Wp (Mine.cmpI g C m l j ⟨L,h,n,k⟩) Q E:=by
 refine .atO ha (.atO hb (.ifp rfl ?_))
 rw [hm]
 exact .only (w.imp fun v _ _ _ _ w=>by obtain⟨b,rfl,w⟩:=w;exact w)
theorem Wp.fin {a:α}{L:Lo}{h:Hp}{n k:Nat}(w:Wp r (fun b L' h' n' k'=>b=a∧(⟨L',h',n',k'⟩:St)=⟨L,h,n,k⟩) fun _ _ _ _ _ _=>False):r=.ok a ⟨L,h,n,k⟩:=by
 cases r with
 | ok b s=>obtain⟨rfl,e⟩:=w;exact congrArg (R.ok b) e
 | ex c cl s=>exact w.elim
 | bad=>exact w.elim
end
section
variable {g:Sig}{C:Nat→List AV→St→R AV}{E:Est}{k n:Nat}{h:Hp}{L:Lo}{s:St}{Q:Pst AV}
theorem e_lv {i:Nat}{p:Pos}{v:AV}(e:get? L i=some v)(q:Q v L h n k):Wp (evalE g C (.lv i p) ⟨L,h,n,k⟩) Q E:=
 .eq (show (match get? L i with | some v=>R.ok v _ | none=>.bad)=.ok v _ by rw [e]) q
theorem e_ci {i:Int}{j:Nat}{p:Pos}(q:Q (.int i) L h n k):Wp (evalE g C (.cst (.int i) j p) ⟨L,h,n,k⟩) Q E:=q
theorem e_cb {b:Bool}{j:Nat}{p:Pos}(q:Q (.bool b) L h n k):Wp (evalE g C (.cst (.bool b) j p) ⟨L,h,n,k⟩) Q E:=q
theorem e_cn {j:Nat}{p:Pos}(q:Q .none L h n k):Wp (evalE g C (.cst .none j p) ⟨L,h,n,k⟩) Q E:=q
theorem e_cs {i:Nat}{j:Nat}{p:Pos}(q:Q (.str i) L h n k):Wp (evalE g C (.cst (.str i) j p) ⟨L,h,n,k⟩) Q E:=q
theorem e_attr {e:Mine.E}{a:Nat}{p:Pos}(w:Wp (evalE g C e s) (fun v L h n k=>Wp (getA g C v a ⟨L,h,n,k⟩) Q E) E):Wp (evalE g C (.attr e a p) s) Q E:=.bnd w
theorem e_sub {e i:Mine.E}{p:Pos}(w:Wp (evalE g C e s) (fun v L h n k=>Wp (evalE g C i ⟨L,h,n,k⟩) (fun w L h n k=>Wp (getI g v w ⟨L,h,n,k⟩) Q E) E) E):Wp (evalE g C (.sub e i p) s) Q E:=.bnd (w.imp fun _ _ _ _ _ w=>.bnd w)
theorem e_bin {o:Op}{l r:Mine.E}{p:Pos}(w:Wp (evalE g C l s) (fun a L h n k=>Wp (evalE g C r ⟨L,h,n,k⟩) (fun b L h n k=>Wp (bino g o a b ⟨L,h,n,k⟩) Q E) E) E):Wp (evalE g C (.bin o l r p) s) Q E:=.bnd (w.imp fun _ _ _ _ _ w=>.bnd w)
theorem e_not {e:Mine.E}{p:Pos}(w:Wp (evalE g C e s) (fun a L h n k=>Wp (truth a ⟨L,h,n,k⟩) (fun b L h n k=>Q (.bool (!b)) L h n k) E) E):Wp (evalE g C (.not e p) s) Q E:=.bnd (w.imp fun _ _ _ _ _ w=>.bnd w)
theorem e_band {es:Es}{p:Pos}(w:Wp (evalB g C true es s) Q E):Wp (evalE g C (.band es p) s) Q E:=w
theorem b_one {op:Bool}{e:Mine.E}(w:Wp (evalE g C e s) Q E):Wp (evalB g C op (.cons e .nil) s) Q E:=w
theorem b_cons {op:Bool}{e e':Mine.E}{r:Es}(w:Wp (evalE g C e s) (fun v L h n k=>Wp (truth v ⟨L,h,n,k⟩) (fun b L h n k=>if b=op then Wp (evalB g C op (.cons e' r) ⟨L,h,n,k⟩) Q E else Q v L h n k) E) E):Wp (evalB g C op (.cons e (.cons e' r)) s) Q E:=
 .bnd (w.imp fun v _ _ _ _ w=>.bnd (w.imp fun b _ _ _ _ w=>by show Wp (if b=op then _ else _) _ _;split <;> rename_i q <;> simp only [q,if_true,if_false] at w <;> exact w))
theorem e_cmp {l r:Mine.E}{o:Cm}{p:Pos}(w:Wp (evalE g C l s) (fun a L h n k=>Wp (evalE g C r ⟨L,h,n,k⟩) (fun b L h n k=>Wp (cmpv g C o a b ⟨L,h,n,k⟩) (fun x L h n k=>Q (.bool x) L h n k) E) E) E):Wp (evalE g C (.cmp l o r p) s) Q E:=
 .bnd (w.imp fun _ _ _ _ _ w=>.bnd (w.imp fun _ _ _ _ _ w=>.bnd w))
theorem e_cmp2 {l m r:Mine.E}{o o':Cm}{p:Pos}(w:Wp (evalE g C l s) (fun a L h n k=>Wp (evalE g C m ⟨L,h,n,k⟩) (fun b L h n k=>Wp (cmpv g C o a b ⟨L,h,n,k⟩) (fun x L h n k=>if x=true then Wp (evalE g C r ⟨L,h,n,k⟩) (fun c L h n k=>Wp (cmpv g C o' b c ⟨L,h,n,k⟩) (fun x L h n k=>Q (.bool x) L h n k) E) E else Q (.bool false) L h n k) E) E) E):Wp (evalE g C (.cmp2 l o m o' r p) s) Q E:=
 .bnd (w.imp fun _ _ _ _ _ w=>.bnd (w.imp fun _ _ _ _ _ w=>.bnd (w.imp fun x _ _ _ _ w=>by
  cases x with
  | true=>rw [if_pos rfl] at w;exact .bnd (Wp.imp w fun _ _ _ _ _ w=>.bnd w)
  | false=>exact w)))
theorem e_test {e:Mine.E}{Q:Pst Bool}(w:Wp (evalE g C e s) (fun v L h n k=>Wp (truth v ⟨L,h,n,k⟩) Q E) E):Wp (evalT g C e s) Q E:=.bnd w
theorem e_ife {t a b:Mine.E}{p:Pos}(w:Wp (evalE g C t s) (fun v L h n k=>Wp (truth v ⟨L,h,n,k⟩) (fun x L h n k=>if x=true then Wp (evalE g C a ⟨L,h,n,k⟩) Q E else Wp (evalE g C b ⟨L,h,n,k⟩) Q E) E) E):Wp (evalE g C (.ife t a b p) s) Q E:=
 .bnd (Wp.imp (e_test w) fun x _ _ _ _ w=>by cases x <;> exact w)
theorem e_call {i:Nat}{q:Pos}{as:Es}{ks:Ks}{p:Pos}(hc:canCall g (.gl i)=true)(w:Wp (evalEs g C as s) (fun xs L h n k=>Wp (evalKs g C ks ⟨L,h,n,k⟩) (fun ys L h n k=>Wp (callV g C (.gl i) xs ys ⟨L,h,n,k⟩) Q E) E) E):Wp (evalE g C (.call (.gv i q) as ks p) s) Q E:=by
 show Wp (if canCall g (.gl i) then (evalEs g C as s).bnd fun xs s=>(evalKs g C ks s).bnd fun ys s=>callV g C (.gl i) xs ys s else .bad) Q E
 rw [if_pos hc]
 exact .bnd (w.imp fun _ _ _ _ _ w=>.bnd w)
theorem e_mcall {o:Mine.E}{m:Nat}{q:Pos}{as:Es}{ks:Ks}{p:Pos}(w:Wp (evalE g C o s) (fun v L h n k=>∃ mt,methodOf g v m ⟨L,h,n,k⟩=some mt∧Wp (evalEs g C as ⟨L,h,n,k⟩) (fun xs L h n k=>Wp (evalKs g C ks ⟨L,h,n,k⟩) (fun ys L h n k=>Wp (callMt g C mt v xs ys ⟨L,h,n,k⟩) Q E) E) E) E):Wp (evalE g C (.mcall o m q as ks p) s) Q E:=
 .bnd (w.imp fun v L h n k ⟨mt,hm,w⟩=>by
  show Wp (match methodOf g v m ⟨L,h,n,k⟩ with | some mt=>_ | none=>_) _ _
  rw [hm]
  exact .bnd (w.imp fun _ _ _ _ _ w=>.bnd w))
theorem es_nil {Q:Pst (List AV)}(q:Q [] L h n k):Wp (evalEs g C .nil ⟨L,h,n,k⟩) Q E:=q
theorem es_cons {Q:Pst (List AV)}{e:Mine.E}{r:Es}(w:Wp (evalE g C e s) (fun v L h n k=>Wp (evalEs g C r ⟨L,h,n,k⟩) (fun vs L h n k=>Q (v :: vs) L h n k) E) E):Wp (evalEs g C (.cons e r) s) Q E:=.bnd (w.imp fun _ _ _ _ _ w=>.bnd w)
theorem ks_nil {Q:Pst (List (Nat×AV))}(q:Q [] L h n k):Wp (evalKs g C .nil ⟨L,h,n,k⟩) Q E:=q
theorem ks_cons {Q:Pst (List (Nat×AV))}{m:Nat}{e:Mine.E}{p:Pos}{r:Ks}(w:Wp (evalE g C e s) (fun v L h n k=>Wp (evalKs g C r ⟨L,h,n,k⟩) (fun vs L h n k=>Q ((m,v) :: vs) L h n k) E) E):Wp (evalKs g C (.cons m e p r) s) Q E:=.bnd (w.imp fun _ _ _ _ _ w=>.bnd w)
noncomputable def upd (h:Hp) (l:Nat) (o:AO):Hp:=fun x=>if x=l then some o else h x
noncomputable def Pu (g:Sig) (C:Nat→List AV→St→R AV) (L:Lo) (e:Mine.E) (v:AV):Prop:=∀ h n k,evalE g C e ⟨L,h,n,k⟩=.ok v ⟨L,h,n,k⟩
noncomputable def Us (g:Sig) (C:Nat→List AV→St→R AV) (L:Lo) (es:Es) (vs:List AV):Prop:=∀ h n k,evalEs g C es ⟨L,h,n,k⟩=.ok vs ⟨L,h,n,k⟩
theorem v_lv {i:Nat}{p:Pos}{v:AV}(e:get? L i=some v):Pu g C L (.lv i p) v:=fun h n k=>
 show (match get? L i with | some v=>R.ok v _ | none=>.bad)=.ok v _ by rw [e]
theorem v_gv {i:Nat}{p:Pos}:Pu g C L (.gv i p) (.gl i):=fun _ _ _=>rfl
theorem v_ci {i:Int}{j:Nat}{p:Pos}:Pu g C L (.cst (.int i) j p) (.int i):=fun _ _ _=>rfl
theorem v_cb {b:Bool}{j:Nat}{p:Pos}:Pu g C L (.cst (.bool b) j p) (.bool b):=fun _ _ _=>rfl
theorem v_cn {j:Nat}{p:Pos}:Pu g C L (.cst .none j p) .none:=fun _ _ _=>rfl
theorem v_cs {i:Nat}{j:Nat}{p:Pos}:Pu g C L (.cst (.str i) j p) (.str i):=fun _ _ _=>rfl
theorem v_sub {l r:Mine.E}{x y:Int}{p:Pos}(a:Pu g C L l (.int x))(b:Pu g C L r (.int y)):Pu g C L (.bin .sub l r p) (.int (x - y)):=fun h n k=>
 show ((evalE g C l _).bnd fun a s=>(evalE g C r s).bnd fun b s=>bino g .sub a b s)=_ by rw [a h n k];show ((evalE g C r _).bnd fun b s=>bino g .sub _ b s)=_;rw [b h n k];rfl
theorem vs_nil:Us g C L .nil []:=fun _ _ _=>rfl
theorem vs_cons {e:Mine.E}{r:Es}{v:AV}{vs:List AV}(a:Pu g C L e v)(b:Us g C L r vs):Us g C L (.cons e r) (v :: vs):=fun h n k=>
 show ((evalE g C e _).bnd fun v s=>(evalEs g C r s).bnd fun vs s=>.ok (v :: vs) s)=_ by rw [a h n k];show ((evalEs g C r _).bnd fun vs s=>R.ok (_ :: vs) s)=_;rw [b h n k];rfl
theorem p_es {Q:Pst (List AV)}{es:Es}{vs:List AV}(a:Us g C L es vs)(q:Q vs L h n k):Wp (evalEs g C es ⟨L,h,n,k⟩) Q E:=.eq (a h n k) q
theorem p_mcall {o:Mine.E}{m:Nat}{q:Pos}{as:Es}{p:Pos}{v:AV}{vs:List AV}(a:Pu g C L o v)(b:Us g C L as vs)(w:∃ mt,methodOf g v m ⟨L,h,n,k⟩=some mt∧Wp (callMt g C mt v vs [] ⟨L,h,n,k⟩) Q E):Wp (evalE g C (.mcall o m q as .nil p) ⟨L,h,n,k⟩) Q E:=
 e_mcall (.eq (a h n k) (by obtain⟨mt,e,w⟩:=w;exact⟨mt,e,.eq (b h n k) (ks_nil w)⟩))
theorem p_call {i:Nat}{q:Pos}{as:Es}{p:Pos}{vs:List AV}(hc:canCall g (.gl i)=true)(b:Us g C L as vs)(w:Wp (callV g C (.gl i) vs [] ⟨L,h,n,k⟩) Q E):Wp (evalE g C (.call (.gv i q) as .nil p) ⟨L,h,n,k⟩) Q E:=
 e_call hc (.eq (b h n k) (ks_nil w))
theorem p_attr {e:Mine.E}{m:Nat}{p:Pos}{v:AV}(a:Pu g C L e v)(w:Wp (getA g C v m ⟨L,h,n,k⟩) Q E):Wp (evalE g C (.attr e m p) ⟨L,h,n,k⟩) Q E:=e_attr (.eq (a h n k) w)
theorem p_sub {e i:Mine.E}{p:Pos}{v w:AV}(a:Pu g C L e v)(b:Pu g C L i w)(q:Wp (getI g v w ⟨L,h,n,k⟩) Q E):Wp (evalE g C (.sub e i p) ⟨L,h,n,k⟩) Q E:=e_sub (.eq (a h n k) (.eq (b h n k) q))
theorem p_cmp {o:Cm}{l r:Mine.E}{p:Pos}{v w:AV}(a:Pu g C L l v)(b:Pu g C L r w)(q:Wp (cmpv g C o v w ⟨L,h,n,k⟩) (fun x L h n k=>Q (.bool x) L h n k) E):Wp (evalE g C (.cmp l o r p) ⟨L,h,n,k⟩) Q E:=e_cmp (.eq (a h n k) (.eq (b h n k) q))
theorem e_lst {es:Es}{p:Pos}(w:Wp (evalEs g C es s) (fun xs L h n k=>xs.length≤1000∧Q (.loc n) L (upd h n (.list xs)) (n+1) k) E):Wp (evalE g C (.lst es p) s) Q E:=
 .bnd (w.imp fun xs _ _ _ _ w=>by show Wp (if xs.length≤1000 then _ else _) _ _;rw [if_pos w.1];exact w.2)
theorem e_tup {es:Es}{j:Nat}{p:Pos}(w:Wp (evalEs g C es s) (fun xs L h n k=>xs.length≤1000∧Q (.loc n) L (upd h n (.tup xs)) (n+1) k) E):Wp (evalE g C (.tup es j p) s) Q E:=
 .bnd (w.imp fun xs _ _ _ _ w=>by show Wp (if xs.length≤1000 then _ else _) _ _;rw [if_pos w.1];exact w.2)
theorem e_dct1 {a b:Mine.E}{p:Pos}(w:Wp (evalE g C a s) (fun a L h n k=>Wp (evalE g C b ⟨L,h,n,k⟩) (fun b L h n k=>(∃ i,a=.int i)∧Q (.loc n) L (upd h n (.dict [(a,b)])) (n+1) k) E) E):Wp (evalE g C (.dct1 a b p) s) Q E:=
 .bnd (w.imp fun a _ _ _ _ w=>.bnd (w.imp fun b _ _ _ _ w=>by obtain⟨⟨i,rfl⟩,w⟩:=w;exact w))
theorem e_upto {e j:Mine.E}{p q:Pos}(w:Wp (evalE g C e s) (fun v L h n k=>Wp (evalE g C j ⟨L,h,n,k⟩) (fun w L h n k=>∃ l i xs,v=.loc l∧w=.int i∧(h l=some (.list xs)∨h l=some (.ro xs))∧0≤i∧xs.length≤1000∧Q (.loc n) L (upd h n (.list (xs.take i.toNat))) (n+1) k) E) E):Wp (evalE g C (.upto e j p q) s) Q E:=
 .bnd (w.imp fun v _ _ _ _ w=>.bnd (w.imp fun w L h n k x=>by
  obtain⟨l,i,xs,rfl,rfl,h1 | h1,h2,h3,h4⟩:=x <;>
  ·show Wp (atObj ⟨L,h,n,k⟩ l _) Q E
   exact .atO h1 (.ifp (r:=alloc _ _) ⟨h2,h3⟩ h4)))
end
section
variable {g:Sig}{C:Nat→List AV→St→R AV}{E:Est}{k n:Nat}{h:Hp}{L:Lo}{s:St}{Q:Pst Fl}
theorem xs_nil (q:Q .next L h n k):Wp (execs g C .nil ⟨L,h,n,k⟩) Q E:=q
noncomputable def Go1 (g:Sig) (C:Nat→List AV→St→R AV) (r:Ss) (Q:Pst Fl) (E:Est):Pst Fl:=fun f L h n k=>match f with
 | .next=>Wp (execs g C r ⟨L,h,n,k⟩) Q E
 | f=>Q f L h n k
theorem xs_cons {a:S}{r:Ss}(w:Wp (exec g C a s) (Go1 g C r Q E) E):Wp (execs g C (.cons a r) s) Q E:=
 .bnd (w.imp fun f _ _ _ _ w=>by cases f <;> exact w)
theorem x_exprL {e:Mine.E}{p:Pos}(w:Wp (evalE g C e s) (fun _ L h n k=>Q .next L h n k) E):Wp (exec g C (.expr e p) s) Q E:=.bnd w
theorem x_expr {e:Mine.E}{p:Pos}(w:Wp (evalE g C e s) (fun v L h n k=>(match v with | .loc _=>False | .gl _=>False | _=>True)∧Q .next L h n k) E):Wp (exec g C (.expr e p) s) Q E:=x_exprL (w.imp fun _ _ _ _ _ w=>w.2)
theorem x_asg {i:Nat}{q:Pos}{e:Mine.E}{p:Pos}(w:Wp (evalE g C e s) (fun v L h n k=>Q .next (put L i v) h n k) E):Wp (exec g C (.asg (.nm i q) e p) s) Q E:=.bnd (w.imp fun _ _ _ _ _ w=>w)
theorem x_asgA {o:Mine.E}{a:Nat}{q:Pos}{e:Mine.E}{p:Pos}(w:Wp (evalE g C e s) (fun v L h n k=>Wp (evalE g C o ⟨L,h,n,k⟩) (fun w L h n k=>Wp (setA g C w a v ⟨L,h,n,k⟩) (fun _ L h n k=>Q .next L h n k) E) E) E):Wp (exec g C (.asg (.attr o a q) e p) s) Q E:=
 .bnd (w.imp fun _ _ _ _ _ w=>.bnd (.bnd w))
theorem x_asgI {o i:Mine.E}{q:Pos}{e:Mine.E}{p:Pos}(w:Wp (evalE g C e s) (fun v L h n k=>Wp (evalE g C o ⟨L,h,n,k⟩) (fun w L h n k=>Wp (evalE g C i ⟨L,h,n,k⟩) (fun j L h n k=>Wp (setI w j v ⟨L,h,n,k⟩) (fun _ L h n k=>Q .next L h n k) E) E) E) E):Wp (exec g C (.asg (.sub o i q) e p) s) Q E:=
 .bnd (w.imp fun _ _ _ _ _ w=>.bnd (.bnd (w.imp fun _ _ _ _ _ w=>.bnd w)))
theorem x_asg2 {i j m:Nat}{q q' q'':Pos}{e:Mine.E}{p:Pos}(w:Wp (evalE g C e s) (fun v L h n k=>∃ l x y,v=.loc l∧h l=some (.tup [x,y])∧k≤1∧Q .next (put (put L i x) j y) h n k) E):Wp (exec g C (.asg (.tup i q j q' m q'') e p) s) Q E:=
 .bnd (w.imp fun v L h n k w=>.bnd (by
  refine xo3_4 w fun l x y e3_ h1 h2 h3=>?_;clear w;obtain rfl:=e3_
  show Wp (atObj ⟨L,h,n,k⟩ l _) _ E
  exact .atO h1 (.ifp (r:=R.ok _ _) h2 h3)))
theorem x_aug {i:Nat}{q:Pos}{o:Op}{e:Mine.E}{p:Pos}{a:Int}(ha:get? s.loc i=some (.int a))(w:Wp (evalE g C e s) (fun v L h n k=>∃ b,v=.int b∧(match o with | .add=>Q .next (put L i (.int (a+b))) h n k | .sub=>Q .next (put L i (.int (a - b))) h n k | _=>False)) E):Wp (exec g C (.aug i q o e p) s) Q E:=by
 show Wp (match get? s.loc i with | some a=>_ | none=>_) Q E
 rw [ha]
 exact .bnd (w.imp fun v _ _ _ _ w=>by obtain⟨b,rfl,w⟩:=w;cases o <;> first | exact w | exact w.elim)
theorem x_ife {t:Mine.E}{a b:Ss}{p:Pos}(w:Wp (evalE g C t s) (fun v L h n k=>Wp (truth v ⟨L,h,n,k⟩) (fun x L h n k=>if x=true then Wp (execs g C a ⟨L,h,n,k⟩) Q E else Wp (execs g C b ⟨L,h,n,k⟩) Q E) E) E):Wp (exec g C (.ife t a b p) s) Q E:=
 .bnd (Wp.imp (e_test w) fun x _ _ _ _ w=>by cases x <;> exact w)
theorem x_ret {e:Mine.E}{p:Pos}(w:Wp (evalE g C e s) (fun v L h n k=>Q (.ret v) L h n k) E):Wp (exec g C (.ret e p) s) Q E:=.bnd (w.imp fun _ _ _ _ _ w=>w)
theorem x_ret0 {p:Pos}(q:Q (.ret .none) L h n k):Wp (exec g C (.ret0 p) ⟨L,h,n,k⟩) Q E:=q
theorem x_cont {p:Pos}(q:Q .cont L h n k):Wp (exec g C (.cont p) ⟨L,h,n,k⟩) Q E:=q
theorem x_assert {e:Mine.E}{p:Pos}(w:Wp (evalE g C e s) (fun v L h n k=>Wp (truth v ⟨L,h,n,k⟩) (fun b L h n k=>b=true∧Q .next L h n k) E) E):Wp (exec g C (.assert e p) s) Q E:=
 .bnd (Wp.imp (e_test w) fun x _ _ _ _ w=>by obtain⟨rfl,w⟩:=w;exact w)
theorem x_raise {c:Nat}{q:Pos}{e:Mine.E}{cp p:Pos}(w:Wp (evalE g C e s) (fun _ L h n k=>k≤1∧E c (k == 0) L h n k) E):Wp (exec g C (.raise c q e cp p) s) Q E:=
 .bnd (w.imp fun _ L h n k w=>by
  unfold raiseAs
  rcases Nat.le_one_iff_eq_zero_or_eq_one.mp w.1 with rfl | rfl <;> exact w.2)
theorem x_whl {t:Mine.E}{b:Ss}{p:Pos}(w:Wp (whileN (fun s=>evalT g C t s) (fun s=>execs g C b s) g.lf s) Q E):Wp (exec g C (.whl t b p) s) Q E:=w
theorem c_fn {Q:Pst AV}{f:Nat}{xs:List AV}{ks:List (Nat×AV)}{vs:List AV}(hs:g.shapes.contains (f,xs.length,ks.map (·.1))=true)(hb:bindR (g.fn f).params (g.fn f).dflts xs ks=some vs)(w:Wp (C f vs s) Q E):Wp (callFn g C f xs ks s) Q E:=by
 rw [callFn]
 rw [if_pos (List.contains_iff_mem.mp hs),hb]
 exact w
noncomputable def Back (L:Lo) (Q:Pst AV):Pst Fl:=fun f _ h n k=>match f with
 | .ret v=>Q v L h n k
 | .next=>Q .none L h n k
 | _=>False
theorem c_in {Q:Pst AV}{f m:Nat}{vs:List AV}(hl:vs.length=(g.fn f).params.length)(hc:(g.fn f).cells=[])(w:Wp (execs g (callF g m) (g.fn f).body ⟨(g.fn f).params.zip vs,h,n,k⟩) (Back L Q) fun c cl _ h n k=>E c cl L h n k):Wp (callF g (m+1) f vs ⟨L,h,n,k⟩) Q E:=by
 rw [callF_s]
 rw [if_pos hl,hc]
 show Wp (back L (execs g (callF g m) (g.fn f).body ⟨(g.fn f).params.zip vs,h,n,k⟩)) Q E
 cases q:execs g (callF g m) (g.fn f).body ⟨(g.fn f).params.zip vs,h,n,k⟩ with
 | ok f s'=>rw [q] at w;cases f <;> first | exact w | exact w.elim
 | ex c cl s'=>rw [q] at w;exact w
 | bad=>rw [q] at w;exact w
section
variable {P P':Prop}{b:Bool}{x y:Int}
theorem it_t (e:b=true)(p:P):if b=true then P else P':=by rw [if_pos e];exact p
theorem it_f (e:b=false)(p:P'):if b=true then P else P':=by rw [if_neg (by rw [e];nofun)];exact p
theorem it_s (p:b=true→P)(p':b=false→P'):if b=true then P else P':=by
 cases b
 ·exact p' rfl
 ·exact p rfl
theorem go_next {r:Ss}(w:Wp (execs g C r ⟨L,h,n,k⟩) Q E):Go1 g C r Q E .next L h n k:=w
theorem go_ret {r:Ss}{v:AV}(q:Q (.ret v) L h n k):Go1 g C r Q E (.ret v) L h n k:=q
theorem p_asg {i:Nat}{q p:Pos}{e:Mine.E}{r:Ss}{v:AV}(a:Pu g C L e v)(w:Wp (execs g C r ⟨put L i v,h,n,k⟩) Q E):Wp (execs g C (.cons (.asg (.nm i q) e p) r) ⟨L,h,n,k⟩) Q E:=xs_cons (x_asg (.eq (a h n k) (go_next w)))
theorem p_ret {p:Pos}{e:Mine.E}{r:Ss}{v:AV}(a:Pu g C L e v)(w:Q (.ret v) L h n k):Wp (execs g C (.cons (.ret e p) r) ⟨L,h,n,k⟩) Q E:=xs_cons (x_ret (.eq (a h n k) (go_ret w)))
theorem go_cont {r:Ss}(q:Q .cont L h n k):Go1 g C r Q E .cont L h n k:=q
theorem bk_ret {L':Lo}{Q:Pst AV}{v:AV}(q:Q v L' h n k):Back L' Q (.ret v) L h n k:=q
theorem bk_next {L':Lo}{Q:Pst AV}(q:Q .none L' h n k):Back L' Q .next L h n k:=q
theorem t_bool {Q:Pst Bool}(q:Q b L h n k):Wp (truth (.bool b) ⟨L,h,n,k⟩) Q E:=q
theorem t_int {Q:Pst Bool}(q:Q (decide (x≠0)) L h n k):Wp (truth (.int x) ⟨L,h,n,k⟩) Q E:=q
theorem t_none {Q:Pst Bool}(q:Q false L h n k):Wp (truth .none ⟨L,h,n,k⟩) Q E:=q
theorem t_list {Q:Pst Bool}{l:Nat}{xs:List AV}(e:h l=some (.list xs))(q:Q (!xs.isEmpty) L h n k):Wp (truth (.loc l) ⟨L,h,n,k⟩) Q E:=by
 show Wp (atObj ⟨L,h,n,k⟩ l _) Q E
 exact .atO e q
theorem o_add {Q:Pst AV}(q:Q (.int (x+y)) L h n k):Wp (bino g .add (.int x) (.int y) ⟨L,h,n,k⟩) Q E:=q
theorem o_sub {Q:Pst AV}(q:Q (.int (x - y)) L h n k):Wp (bino g .sub (.int x) (.int y) ⟨L,h,n,k⟩) Q E:=q
theorem o_mul {Q:Pst AV}(e:x.natAbs < 2 ^ 60)(q:Q (.int (x * y)) L h n k):Wp (bino g .mul (.int x) (.int y) ⟨L,h,n,k⟩) Q E:=by
 show Wp (if x.natAbs < 2 ^ 60 then _ else _) Q E
 rw [if_pos e];exact q
theorem o_div {Q:Pst AV}(e:y≠0∧y.natAbs < 1073741824)(q:Q (.int (Int.fdiv x y)) L h n k):Wp (bino g .fdiv (.int x) (.int y) ⟨L,h,n,k⟩) Q E:=by
 show Wp (if y≠0∧y.natAbs < 1073741824 then _ else _) Q E
 rw [if_pos e];exact q
theorem o_mod {Q:Pst AV}(e:y≠0)(q:Q (.int (Int.fmod x y)) L h n k):Wp (bino g .mod (.int x) (.int y) ⟨L,h,n,k⟩) Q E:=by
 show Wp (if y≠0 then _ else _) Q E
 rw [if_pos e];exact q
theorem k_eq {Q:Pst Bool}(q:Q (decide (x=y)) L h n k):Wp (cmpv g C .eq (.int x) (.int y) ⟨L,h,n,k⟩) Q E:=q
theorem k_ne {Q:Pst Bool}(q:Q (!decide (x=y)) L h n k):Wp (cmpv g C .ne (.int x) (.int y) ⟨L,h,n,k⟩) Q E:=q
theorem k_lt {Q:Pst Bool}(q:Q (decide (x < y)) L h n k):Wp (cmpv g C .lt (.int x) (.int y) ⟨L,h,n,k⟩) Q E:=q
theorem k_le {Q:Pst Bool}(q:Q (decide (x≤y)) L h n k):Wp (cmpv g C .le (.int x) (.int y) ⟨L,h,n,k⟩) Q E:=q
theorem k_gt {Q:Pst Bool}(q:Q (decide (x > y)) L h n k):Wp (cmpv g C .gt (.int x) (.int y) ⟨L,h,n,k⟩) Q E:=q
end
theorem a_get {Q:Pst AV}{l c a:Nat}{as:Lo}{x:AV}(e:h l=some (.inst c as))(hm:g.me c a=.data)(hx:get? as a=some x)(hp:x.plain=true)(q:Q x L h n k):Wp (getA g C (.loc l) a ⟨L,h,n,k⟩) Q E:=by
 show Wp (atObj ⟨L,h,n,k⟩ l _) Q E
 refine .atO e ?_
 unfold onInst
 dsimp only
 rw [hm]
 dsimp only
 rw [hx]
 exact .ifp hp q
theorem a_prop {Q:Pst AV}{l c a f j:Nat}{as:Lo}(e:s.heap l=some (.inst c as))(hm:g.me c a=.prop f j)(w:Wp (callFn g C f [.loc l] [] s) (fun x L h n k=>x.plain=true∧Q x L h n k) fun _ _ _ _ _ _=>False):Wp (getA g C (.loc l) a s) Q E:=by
 show Wp (atObj s l _) Q E
 refine .atO e ?_
 unfold onInst
 dsimp only
 rw [hm]
 exact .only (w.imp fun x _ _ _ _ w=>.ifp w.1 w.2)
theorem a_set {Q:Pst Unit}{l c a:Nat}{as:Lo}{x:AV}(e:h l=some (.inst c as))(hm:g.me c a=.data)(hl:as.length≤20)(q:Q () L (upd h l (.inst c (put as a x))) n k):Wp (setA g C (.loc l) a x ⟨L,h,n,k⟩) Q E:=by
 show Wp (atObj ⟨L,h,n,k⟩ l _) Q E
 refine .atO e ?_
 unfold onInst
 dsimp only
 rw [hm]
 exact .ifp (r:=R.ok _ _) hl q
theorem a_setp {Q:Pst Unit}{l c a j f:Nat}{as:Lo}{x:AV}(e:s.heap l=some (.inst c as))(hm:g.me c a=.prop j f)(w:Wp (callFn g C f [.loc l,x] [] s) (fun _ L h n k=>Q () L h n k) E):Wp (setA g C (.loc l) a x s) Q E:=by
 show Wp (atObj s l _) Q E
 refine .atO e ?_
 unfold onInst
 dsimp only
 rw [hm]
 exact .bnd w
theorem m_inst {l c m f:Nat}{as:Lo}(e:h l=some (.inst c as))(hm:g.me c m=.fn f)(hx:get? as m=none):methodOf g (.loc l) m ⟨L,h,n,k⟩=some (.fn f):=by
 unfold methodOf
 dsimp only
 rw [e]
 dsimp only
 rw [hm,hx]
end
end
def ty (k:Lean.Name)(a:List Lean.Syntax):Lean.Syntax:=.node .none k a.toArray
def tz (s:String):Lean.Syntax:=.atom .none s
def tsq:List Lean.Syntax→List Lean.Syntax
 | []=>[]
 | a::r=>a::(match r with | []=>[] | _=>tz ";"::tsq r)
def tq (l:List Lean.Syntax):Lean.Syntax:=ty `Lean.Parser.Tactic.tacticSeq [ty `Lean.Parser.Tactic.tacticSeq1Indented [ty `null (tsq l)]]
def tap1 (_:Lean.Syntax)(n:String):Lean.Syntax:=ty `Lean.Parser.Tactic.apply [tz "apply",.ident .none n.toRawSubstring (.mkSimple n) []]
def tap (v:Lean.Syntax)(w:String):Lean.Syntax:=
 let k:=w.front.toNat-48
 let n:=if k<3 then (w.drop 1).toString else w
 ty `group [tz "|",tq (tap1 v n::(if k<3 then List.replicate k v else []))]
def tfi (v:Lean.Syntax)(s:String)(z:List Lean.Syntax):Lean.Syntax:=ty `Lean.Parser.Tactic.first [tz "first",ty `null ((s.splitOn " ").map (tap v)++z.map fun a=>ty `group [tz "|",tq [a]])]
local macro_rules | `(tactic| walk_at "v")=>do return ty `Lean.Parser.Tactic.tacticRepeat_ [tz "repeat",tq [tfi .missing "vs_cons vs_nil v_ci v_cn v_cb v_cs v_gv v_sub v_lv" [←`(tactic| with_unfolding_all exact rfl),←`(tactic| assumption)]]]
local macro_rules | `(tactic| walk_at "e")=>do return ty `Lean.Parser.Tactic.withReducible [tz "with_reducible",tq [tfi (←`(tactic| (· walk_at "v"))) "1p_asg 1p_ret go_next 2p_mcall 2p_call 1p_attr 2p_sub 2p_cmp 1p_es 1e_lv e_ci e_cn e_cb e_cs e_attr es_nil es_cons ks_nil xs_cons x_asg x_asgA e_mcall 1e_call x_expr x_ife e_cmp e_bin t_bool o_add o_sub k_eq k_lt k_gt k_le k_ne e_sub e_not x_ret b_one b_cons e_band e_ife e_lst e_tup x_asgI x_raise x_asg2 xs_nil x_cont e_cmp2 ks_cons x_assert x_ret0 1x_aug bk_ret bk_next go_ret go_cont t_none 1it_t 1it_f" []]]
local macro_rules | `(tactic| walk_at "a")=>do
 let r←`(tactic| (· rfl))
 return ty `Lean.Parser.Tactic.paren [tz "(",tq [tap1 .missing "a_get",←`(tactic| (· assumption)),r,r,r],tz ")"]
local macro_rules | `(tactic| walk_at "r")=>do return ty `Lean.Parser.Tactic.tacticRepeat_ [tz "repeat",tq [←`(tactic| walk_at "e")]]
section
open PySem
section
variable {g:Sig}{C:Nat→List AV→St→R AV}{E:Est}{k n:Nat}{h:Hp}{L:Lo}{s:St}{Q:Pst AV}
theorem e_cv {i l:Nat}{p:Pos}{x:AV}(e:get? L i=some (.loc l))(ho:h l=some (.cell (some x)))(q:Q x L h n k):Wp (evalE g C (.cv i p) ⟨L,h,n,k⟩) Q E:=by
 show Wp (match get? L i with | some v=>cellR v ⟨L,h,n,k⟩ | none=>.bad) Q E
 rw [e]
 show Wp (atObj ⟨L,h,n,k⟩ l _) Q E
 exact .atO ho q
theorem e_bor {es:Es}{p:Pos}(w:Wp (evalB g C false es s) Q E):Wp (evalE g C (.bor es p) s) Q E:=w
theorem e_comp {elt src:Mine.E}{x:Nat}{xp p:Pos}{ifs:Es}{fr:List Nat}(w:Wp (evalE g C src s) (fun v L h n k=>∃ l es zs,v=.loc l∧h l=some (.dict es)∧k=0∧selP L h x elt ifs (es.map (·.1))=some zs∧zs.length≤1000∧Q (.loc n) L (upd h n (.list zs)) (n+1) k) E) :
  Wp (evalE g C (.comp elt x xp src ifs fr p) s) Q E:=
 .bnd (w.imp fun v L h n k w=>by
  obtain⟨l,es,zs,rfl,h1,rfl,h2,h3,w⟩:=w
  show Wp (atObj ⟨L,h,n,0⟩ l _) Q E
  refine .atO h1 ?_
  rw [if_pos rfl]
  show Wp (match selP L h x elt ifs _ with | some zs=>_ | none=>_) Q E
  rw [h2]
  exact .ifp (r:=alloc _ _) h3 w)
theorem k_neR {Q:Pst Bool}{a b:AV}{r:Bool}(e:eqP a b=some r)(q:Q (!r) L h n k):Wp (cmpv g C .ne a b ⟨L,h,n,k⟩) Q E:=by
 have key:Wp (eqR a b not ⟨L,h,n,k⟩) Q E:=by unfold eqR;rw [e];exact q
 cases a <;> first | exact key | cases e
theorem k_ne0 {Q:Pst Bool}{l m:Nat}{xs:List AV}(h1:h l=some (.list xs))(h2:h m=some (.list []))(q:Q (!xs.isEmpty) L h n k):Wp (cmpv g C .ne (.loc l) (.loc m) ⟨L,h,n,k⟩) Q E:=by
 show Wp (atObj ⟨L,h,n,k⟩ l _) Q E
 refine .atO h1 ?_
 show Wp (atObj ⟨L,h,n,k⟩ m _) Q E
 refine .atO h2 ?_
 cases xs <;> exact q
theorem k_isn_none {Q:Pst Bool}(q:Q false L h n k):Wp (cmpv g C .isnot .none .none ⟨L,h,n,k⟩) Q E:=q
theorem k_isn_int {Q:Pst Bool}{x:Int}(q:Q true L h n k):Wp (cmpv g C .isnot (.int x) .none ⟨L,h,n,k⟩) Q E:=q
theorem k_nin {Q:Pst Bool}{l:Nat}{es:List (AV×AV)}{i:Int}(e:h l=some (.dict es))(q:Q (!(dget? es (.int i)).isSome) L h n k):Wp (cmpv g C .notin (.int i) (.loc l) ⟨L,h,n,k⟩) Q E:=by
 show Wp (atObj ⟨L,h,n,k⟩ l _) Q E
 exact .atO e q
theorem k_eqB {Q:Pst Bool}{a b:Bool}(q:Q (a == b) L h n k):Wp (cmpv g C .eq (.bool a) (.bool b) ⟨L,h,n,k⟩) Q E:=q
theorem k_is_str {Q:Pst Bool}{x:Nat}(q:Q false L h n k):Wp (cmpv g C .is (.str x) .none ⟨L,h,n,k⟩) Q E:=q
end
end
section
open PySem
structure Nd where
 w:Int
 act:Bool
 lw:Int
 df:Int
 par:Option Int
 kids:List Int
 queue:List (Int×Int)
abbrev Tr:=Int→Option Nd
abbrev Fo:=Nat→Tr
noncomputable def setN (T:Tr) (i:Int) (nd:Nd):Tr:=fun j=>if j=i then some nd else T j
noncomputable def setT (Φ:Fo) (t:Nat) (T:Tr):Fo:=fun u=>if u=t then T else Φ u
noncomputable def drop (G:Hp) (l:Nat):Hp:=fun x=>if x=l then none else G x
theorem upd_same (h:Hp)(l:Nat)(o:AO):upd h l o l=some o:=if_pos rfl
theorem upd_ne (h:Hp){l x:Nat}(o:AO)(e:x≠l):upd h l o x=h x:=if_neg e
theorem setN_same (T:Tr)(i:Int)(nd:Nd):setN T i nd i=some nd:=if_pos rfl
theorem setN_ne (T:Tr){i j:Int}(nd:Nd)(e:j≠i):setN T i nd j=T j:=if_neg e
theorem setT_same (Φ:Fo)(t:Nat)(T:Tr):setT Φ t T t=T:=if_pos rfl
theorem setT_ne (Φ:Fo){t u:Nat}(T:Tr)(e:u≠t):setT Φ t T u=Φ u:=if_neg e
theorem setT_setT (Φ:Fo)(t:Nat)(T T':Tr):setT (setT Φ t T) t T'=setT Φ t T':=by
 funext u;unfold setT;split <;> rfl
theorem setT_self (Φ:Fo)(t:Nat):setT Φ t (Φ t)=Φ:=by
 funext u;unfold setT;split
 ·rename_i h;rw [h]
 ·rfl
abbrev Ad:=Nat→Int→Nat
noncomputable def parV (A:Ad) (t:Nat):Option Int→AV
 | none=>.none
 | some p=>.loc (A t p)
noncomputable abbrev ats (A:Ad) (t:Nat) (i:Int) (nd:Nd) (c q:Nat):List (Nat×AV):=[(21,.int i),(30,.int nd.w),(24,.loc c),(25,parV A t nd.par),(26,.loc q),(27,.bool nd.act),(28,.int nd.lw),(29,.int nd.df)]
noncomputable abbrev kidsO (A:Ad) (t:Nat) (ks:List Int):AO:=.list (ks.map fun j=>.loc (A t j))
noncomputable abbrev entsO (es:List Nat):AO:=.list (es.map .loc)
noncomputable def Ents (A:Ad) (t:Nat) (h:Hp):List Nat→List (Int×Int)→Prop
 | [],[]=>True
 | e :: es,(lv,i) :: q=>h e=some (.tup [.int lv,.loc (A t i)])∧Ents A t h es q
 | _,_=>False
structure Rep (A cl ql:Ad) (Φ:Fo) (G h:Hp) (n:Nat):Prop where
 node:∀ t i nd,Φ t i=some nd→h (A t i)=some (.inst 19 (ats A t i nd (cl t i) (ql t i)))
 kids:∀ t i nd,Φ t i=some nd→h (cl t i)=some (kidsO A t nd.kids)
 queue:∀ t i nd,Φ t i=some nd→∃ es,h (ql t i)=some (entsO es)∧Ents A t h es nd.queue
 aa:∀ t i u j,Φ t i≠none→Φ u j≠none→A t i=A u j→t=u∧i=j
 cc:∀ t i u j,Φ t i≠none→Φ u j≠none→cl t i=cl u j→t=u∧i=j
 qq:∀ t i u j,Φ t i≠none→Φ u j≠none→ql t i=ql u j→t=u∧i=j
 cq:∀ t i u j,Φ t i≠none→Φ u j≠none→cl t i≠ql u j
 old:∀ l o,G l=some o→h l=some o
 free:∀ l o,G l=some o→∀ t i,Φ t i≠none→A t i≠l∧cl t i≠l∧ql t i≠l
 lt:∀ l o,h l=some o→l < n
noncomputable def isTup:AO→Bool
 | .tup _=>true
 | _=>false
section
variable {A cl ql:Ad}{Φ:Fo}{G h h':Hp}{n:Nat}{t:Nat}{i:Int}{nd nd':Nd}{l:Nat}{o:AO}
theorem Ents.keep {es:List Nat}{q:List (Int×Int)}(k:∀ e x,h e=some (.tup x)→h' e=some (.tup x))(x:Ents A t h es q):Ents A t h' es q:=by
 induction es generalizing q with
 | nil=>cases q <;> exact x
 | cons e es ih=>
  cases q with
  | nil=>exact x
  | cons p q=>exact⟨k _ _ x.1,ih x.2⟩
theorem keepTup (e:h l=some o)(nt:isTup o=false)(o':AO):∀ e x,h e=some (.tup x)→upd h l o' e=some (.tup x):=fun b x hb=>by
 rw [upd_ne]
 ·exact hb
 ·rintro rfl;rw [e] at hb;cases hb;exact tfE nt
theorem setF_dom (hn:Φ t i=some nd){u:Nat}{j:Int}(e:setT Φ t (setN (Φ t) i nd') u j≠none):Φ u j≠none:=by
 unfold setT setN at e
 split at e
 ·rename_i q;subst q
  dsimp only at e
  split at e
  ·rename_i q;subst q;rw [hn];nofun
  ·exact e
 ·exact e
theorem setF_at {u:Nat}{j:Int}{x:Nd}(e:setT Φ t (setN (Φ t) i nd') u j=some x):(u=t∧j=i∧x=nd')∨(¬ (u=t∧j=i)∧Φ u j=some x):=by
 unfold setT setN at e
 split at e
 ·rename_i q;subst q
  dsimp only at e
  split at e
  ·rename_i q;subst q;cases e;exact .inl ⟨rfl,rfl,rfl⟩
  ·rename_i q;exact .inr ⟨fun w=>q w.2,e⟩
 ·rename_i q;exact .inr ⟨fun w=>q w.1,e⟩
theorem Rep.updNode (R:Rep A cl ql Φ G h n)(hn:Φ t i=some nd)(hk:nd'.kids=nd.kids)(hq:nd'.queue=nd.queue) :
  Rep A cl ql (setT Φ t (setN (Φ t) i nd')) G (upd h (A t i) (.inst 19 (ats A t i nd' (cl t i) (ql t i)))) n:=by
 have kt:=keepTup (R.node _ _ _ hn) rfl
 have dn:Φ t i≠none:=by rw [hn];nofun
 refine⟨fun u j x e=>?_,fun u j x e=>?_,fun u j x e=>?_,fun u j v k h1 h2=>R.aa _ _ _ _ (setF_dom hn h1) (setF_dom hn h2),fun u j v k h1 h2=>R.cc _ _ _ _ (setF_dom hn h1) (setF_dom hn h2),fun u j v k h1 h2=>R.qq _ _ _ _ (setF_dom hn h1) (setF_dom hn h2),fun u j v k h1 h2=>R.cq _ _ _ _ (setF_dom hn h1) (setF_dom hn h2),
  fun l o e=>?_,fun l o e u j h1=>R.free l o e u j (setF_dom hn h1),fun l o e=>?_⟩
 ·rcases setF_at e with⟨rfl,rfl,rfl⟩ | ⟨q,e⟩
  ·exact upd_same ..
  ·rw [upd_ne _ _ fun w=>q (R.aa _ _ _ _ (by rw [e];nofun) dn w)];exact R.node _ _ _ e
 ·have:∀ y,Φ u j=some y→upd h (A t i) (.inst 19 (ats A t i nd' (cl t i) (ql t i))) (cl u j)=some (kidsO A u y.kids):=fun y e=>by
   rw [upd_ne _ _ fun w=>by have:=R.kids _ _ _ e;rw [w,R.node _ _ _ hn] at this;cases this];exact R.kids _ _ _ e
  rcases setF_at e with⟨rfl,rfl,rfl⟩ | ⟨q,e⟩
  ·rw [hk];exact this _ hn
  ·exact this _ e
 ·have:∀ y,Φ u j=some y→∃ es,upd h (A t i) (.inst 19 (ats A t i nd' (cl t i) (ql t i))) (ql u j)=some (entsO es)∧Ents A u (upd h (A t i) (.inst 19 (ats A t i nd' (cl t i) (ql t i)))) es y.queue:=fun y e=>by
   refine xo1_2 (R.queue _ _ _ e) fun es e1 e2=>?_
   exact⟨es,by rw [upd_ne _ _ fun w=>by rw [w,R.node _ _ _ hn] at e1;cases e1];exact e1,e2.keep (kt _)⟩
  rcases setF_at e with⟨rfl,rfl,rfl⟩ | ⟨q,e⟩
  ·rw [hq];exact this _ hn
  ·exact this _ e
 ·rw [upd_ne _ _ fun w=>(R.free l o e _ _ dn).1 w.symm];exact R.old _ _ e
 ·by_cases q:l=A t i
  ·rw [q];exact R.lt _ _ (R.node _ _ _ hn)
  ·rw [upd_ne _ _ q] at e;exact R.lt _ _ e
theorem Rep.updKids (R:Rep A cl ql Φ G h n)(hn:Φ t i=some nd)(ks:List Int) :
  Rep A cl ql (setT Φ t (setN (Φ t) i { nd with kids:=ks })) G (upd h (cl t i) (kidsO A t ks)) n:=by
 have kt:=keepTup (R.kids _ _ _ hn) rfl
 have dn:Φ t i≠none:=by rw [hn];nofun
 refine⟨fun u j x e=>?_,fun u j x e=>?_,fun u j x e=>?_,fun u j v k h1 h2=>R.aa _ _ _ _ (setF_dom hn h1) (setF_dom hn h2),fun u j v k h1 h2=>R.cc _ _ _ _ (setF_dom hn h1) (setF_dom hn h2),fun u j v k h1 h2=>R.qq _ _ _ _ (setF_dom hn h1) (setF_dom hn h2),fun u j v k h1 h2=>R.cq _ _ _ _ (setF_dom hn h1) (setF_dom hn h2),
  fun l o e=>?_,fun l o e u j h1=>R.free l o e u j (setF_dom hn h1),fun l o e=>?_⟩
 ·have:∀ y,Φ u j=some y→upd h (cl t i) (kidsO A t ks) (A u j)=some (.inst 19 (ats A u j y (cl u j) (ql u j))):=fun y e=>by
   rw [upd_ne _ _ fun w=>by have:=R.node _ _ _ e;rw [w,R.kids _ _ _ hn] at this;cases this];exact R.node _ _ _ e
  rcases setF_at e with⟨rfl,rfl,rfl⟩ | ⟨q,e⟩
  ·exact this nd hn
  ·exact this _ e
 ·rcases setF_at e with⟨rfl,rfl,rfl⟩ | ⟨q,e⟩
  ·exact upd_same ..
  ·rw [upd_ne _ _ fun w=>q (R.cc _ _ _ _ (by rw [e];nofun) dn w)];exact R.kids _ _ _ e
 ·have:∀ y,Φ u j=some y→∃ es,upd h (cl t i) (kidsO A t ks) (ql u j)=some (entsO es)∧Ents A u (upd h (cl t i) (kidsO A t ks)) es y.queue:=fun y e=>by
   refine xo1_2 (R.queue _ _ _ e) fun es e1 e2=>?_
   exact⟨es,by rw [upd_ne _ _ fun w=>R.cq _ _ _ _ dn (by rw [e];nofun) w.symm];exact e1,e2.keep (kt _)⟩
  rcases setF_at e with⟨rfl,rfl,rfl⟩ | ⟨q,e⟩
  ·exact this nd hn
  ·exact this _ e
 ·rw [upd_ne _ _ fun w=>(R.free l o e _ _ dn).2.1 w.symm];exact R.old _ _ e
 ·by_cases q:l=cl t i
  ·rw [q];exact R.lt _ _ (R.kids _ _ _ hn)
  ·rw [upd_ne _ _ q] at e;exact R.lt _ _ e
theorem Rep.updQueue (R:Rep A cl ql Φ G h n)(hn:Φ t i=some nd){es:List Nat}{q:List (Int×Int)}(hes:Ents A t h es q) :
  Rep A cl ql (setT Φ t (setN (Φ t) i { nd with queue:=q })) G (upd h (ql t i) (entsO es)) n:=by
 refine xo1_2 (R.queue _ _ _ hn) fun es0 q0 _=>?_
 have kt:=keepTup q0 rfl
 have dn:Φ t i≠none:=by rw [hn];nofun
 refine⟨fun u j x e=>?_,fun u j x e=>?_,fun u j x e=>?_,fun u j v k h1 h2=>R.aa _ _ _ _ (setF_dom hn h1) (setF_dom hn h2),fun u j v k h1 h2=>R.cc _ _ _ _ (setF_dom hn h1) (setF_dom hn h2),fun u j v k h1 h2=>R.qq _ _ _ _ (setF_dom hn h1) (setF_dom hn h2),fun u j v k h1 h2=>R.cq _ _ _ _ (setF_dom hn h1) (setF_dom hn h2),
  fun l o e=>?_,fun l o e u j h1=>R.free l o e u j (setF_dom hn h1),fun l o e=>?_⟩
 ·have:∀ y,Φ u j=some y→upd h (ql t i) (entsO es) (A u j)=some (.inst 19 (ats A u j y (cl u j) (ql u j))):=fun y e=>by
   rw [upd_ne _ _ fun w=>by have:=R.node _ _ _ e;rw [w,q0] at this;cases this];exact R.node _ _ _ e
  rcases setF_at e with⟨rfl,rfl,rfl⟩ | ⟨q,e⟩
  ·exact this nd hn
  ·exact this _ e
 ·have:∀ y,Φ u j=some y→upd h (ql t i) (entsO es) (cl u j)=some (kidsO A u y.kids):=fun y e=>by
   rw [upd_ne _ _ fun w=>R.cq _ _ _ _ (by rw [e];nofun) dn w];exact R.kids _ _ _ e
  rcases setF_at e with⟨rfl,rfl,rfl⟩ | ⟨q,e⟩
  ·exact this nd hn
  ·exact this _ e
 ·rcases setF_at e with⟨rfl,rfl,rfl⟩ | ⟨qn,e⟩
  ·exact⟨es,upd_same ..,hes.keep (kt _)⟩
  ·refine xo1_2 (R.queue _ _ _ e) fun es' e1 e2=>?_
   exact⟨es',by rw [upd_ne _ _ fun w=>qn (R.qq _ _ _ _ (by rw [e];nofun) dn w)];exact e1,e2.keep (kt _)⟩
 ·rw [upd_ne _ _ fun w=>(R.free l o e _ _ dn).2.2 w.symm];exact R.old _ _ e
 ·by_cases q:l=ql t i
  ·rw [q];exact R.lt _ _ q0
  ·rw [upd_ne _ _ q] at e;exact R.lt _ _ e
theorem Rep.new (R:Rep A cl ql Φ G h n)(o:AO):Rep A cl ql Φ (upd G n o) (upd h n o) (n+1):=by
 have hn:h n=none:=by
  cases q:h n with
  | none=>rfl
  | some x=>exact absurd (R.lt _ _ q) (Nat.lt_irrefl _)
 have k:∀ l x,h l=some x→upd h n o l=some x:=fun l x e=>by
  rw [upd_ne]
  ·exact e
  ·rintro rfl;rw [hn] at e;exact nsE e
 refine⟨fun u j x e=>k _ _ (R.node _ _ _ e),fun u j x e=>k _ _ (R.kids _ _ _ e),fun u j x e=>?_,R.aa,R.cc,R.qq,R.cq,fun l x e=>?_,fun l x e u j h1=>?_,fun l x e=>?_⟩
 ·refine xo1_2 (R.queue _ _ _ e) fun es e1 e2=>?_
  exact⟨es,k _ _ e1,e2.keep fun _ _=>k _ _⟩
 ·by_cases q:l=n
  ·subst q;rw [upd_same] at e ⊢;exact e
  ·rw [upd_ne _ _ q] at e ⊢;exact R.old _ _ e
 ·by_cases q:l=n
  ·subst q
   refine xo1_1 (nNone h1) fun nd hd=>?_
   refine xo1_2 (R.queue _ _ _ hd) fun es e1 _=>?_
   refine⟨fun w=>?_,fun w=>?_,fun w=>?_⟩
   ·have:=R.node _ _ _ hd;rw [w,hn] at this;exact nsE this
   ·have:=R.kids _ _ _ hd;rw [w,hn] at this;exact nsE this
   ·rw [w,hn] at e1;exact nsE e1
  ·rw [upd_ne _ _ q] at e;exact R.free _ _ e _ _ h1
 ·by_cases q:l=n
  ·lia
  ·rw [upd_ne _ _ q] at e;exact Nat.lt_succ_of_lt (R.lt _ _ e)
theorem Rep.put (R:Rep A cl ql Φ G h n)(hl:G l=some o)(nt:isTup o=false)(o':AO):Rep A cl ql Φ (upd G l o') (upd h l o') n:=by
 have kt:=keepTup (R.old _ _ hl) nt
 have ne:∀ u j,Φ u j≠none→A u j≠l∧cl u j≠l∧ql u j≠l:=R.free _ _ hl
 have dm:∀ {u j x},Φ u j=some x→Φ u j≠none:=fun e=>by rw [e];nofun
 refine⟨fun u j x e=>?_,fun u j x e=>?_,fun u j x e=>?_,R.aa,R.cc,R.qq,R.cq,fun m x e=>?_,fun m x e u j h1=>?_,fun m x e=>?_⟩
 ·rw [upd_ne _ _ (ne _ _ (dm e)).1];exact R.node _ _ _ e
 ·rw [upd_ne _ _ (ne _ _ (dm e)).2.1];exact R.kids _ _ _ e
 ·refine xo1_2 (R.queue _ _ _ e) fun es e1 e2=>?_
  exact⟨es,by rw [upd_ne _ _ (ne _ _ (dm e)).2.2];exact e1,e2.keep (kt _)⟩
 ·by_cases q:m=l
  ·subst q;rw [upd_same] at e ⊢;exact e
  ·rw [upd_ne _ _ q] at e ⊢;exact R.old _ _ e
 ·by_cases q:m=l
  ·subst q;exact ne _ _ h1
  ·rw [upd_ne _ _ q] at e;exact R.free _ _ e _ _ h1
 ·by_cases q:m=l
  ·subst q;exact R.lt _ _ (R.old _ _ hl)
  ·rw [upd_ne _ _ q] at e;exact R.lt _ _ e
theorem Rep.sub {G':Hp}(R:Rep A cl ql Φ G h n)(s:∀ l o,G' l=some o→G l=some o):Rep A cl ql Φ G' h n:=
 ⟨R.node,R.kids,R.queue,R.aa,R.cc,R.qq,R.cq,fun l o e=>R.old _ _ (s _ _ e),fun l o e=>R.free _ _ (s _ _ e),R.lt⟩
end
end
section
open PySem
noncomputable def updA (A:Ad) (t:Nat) (i:Int) (a:Nat):Ad:=fun u j=>if u=t∧j=i then a else A u j
theorem updA_same (A:Ad)(t:Nat)(i:Int)(a:Nat):updA A t i a t i=a:=if_pos ⟨rfl,rfl⟩
theorem updA_ne (A:Ad){t u:Nat}{i j:Int}(a:Nat)(e:¬ (u=t∧j=i)):updA A t i a u j=A u j:=if_neg e
section
variable {A cl ql:Ad}{Φ:Fo}{G h h':Hp}{n:Nat}{t:Nat}{i:Int}{nd nd':Nd}{l:Nat}{o:AO}
theorem drop_some {x:AO}{m:Nat}(e:drop G l m=some x):m≠l∧G m=some x:=by
 unfold drop at e
 split at e
 ·exact nsE e
 ·exact⟨‹_›,e⟩
theorem Rep.adoptKids (R:Rep A cl ql Φ G h n)(hn:Φ t i=some nd){ks:List Int}(hl:G l=some (kidsO A t ks)) :
  Rep A (updA cl t i l) ql (setT Φ t (setN (Φ t) i { nd with kids:=ks })) (upd (drop G l) (cl t i) (kidsO A t nd.kids)) (upd h (A t i) (.inst 19 (ats A t i nd l (ql t i)))) n:=by
 have kt:=keepTup (R.node _ _ _ hn) rfl
 have dn:Φ t i≠none:=by rw [hn];nofun
 have dm:∀ {u j x},Φ u j=some x→Φ u j≠none:=fun e=>by rw [e];nofun
 have fr:=R.free _ _ hl
 have nA:∀ {m x},h m=some x→(∀ c a,x≠.inst c a)→m≠A t i:=fun e q w=>by rw [w,R.node _ _ _ hn] at e;cases e;exact q _ _ rfl
 refine⟨fun u j x e=>?_,fun u j x e=>?_,fun u j x e=>?_,fun u j v k h1 h2=>R.aa _ _ _ _ (setF_dom hn h1) (setF_dom hn h2),fun u j v k h1 h2 w=>?_,fun u j v k h1 h2=>R.qq _ _ _ _ (setF_dom hn h1) (setF_dom hn h2),fun u j v k h1 h2 w=>?_,
  fun m o e=>?_,fun m o e u j h1=>?_,fun m o e=>?_⟩
 ·rcases setF_at e with⟨rfl,rfl,rfl⟩ | ⟨q,e⟩
  ·rw [upd_same,updA_same]
  ·rw [upd_ne _ _ fun w=>q (R.aa _ _ _ _ (dm e) dn w),updA_ne _ _ q];exact R.node _ _ _ e
 ·rcases setF_at e with⟨rfl,rfl,rfl⟩ | ⟨q,e⟩
  ·rw [updA_same,upd_ne _ _ fun w=>(fr _ _ dn).1 w.symm];exact R.old _ _ hl
  ·rw [updA_ne _ _ q,upd_ne _ _ (nA (R.kids _ _ _ e) nofun)];exact R.kids _ _ _ e
 ·have:∀ y,Φ u j=some y→∃ es,upd h (A t i) (.inst 19 (ats A t i nd l (ql t i))) (ql u j)=some (entsO es)∧Ents A u (upd h (A t i) (.inst 19 (ats A t i nd l (ql t i)))) es y.queue:=fun y e=>by
   refine xo1_2 (R.queue _ _ _ e) fun es e1 e2=>?_
   exact⟨es,by rw [upd_ne _ _ (nA e1 nofun)];exact e1,e2.keep (kt _)⟩
  rcases setF_at e with⟨rfl,rfl,rfl⟩ | ⟨q,e⟩
  ·exact this nd hn
  ·exact this _ e
 ·replace h1:=setF_dom hn h1
  replace h2:=setF_dom hn h2
  by_cases q:u=t∧j=i <;> by_cases q':v=t∧k=i
  ·exact⟨q.1.trans q'.1.symm,q.2.trans q'.2.symm⟩
  ·refine xo0_2 q fun e0_ e1_=>?_;clear q;obtain rfl:=e0_;obtain rfl:=e1_
   rw [updA_same,updA_ne _ _ q'] at w
   exact ((fr _ _ h2).2.1 w.symm).elim
  ·refine xo0_2 q' fun e0_ e1_=>?_;clear q';obtain rfl:=e0_;obtain rfl:=e1_
   rw [updA_same,updA_ne _ _ q] at w
   exact ((fr _ _ h1).2.1 w).elim
  ·rw [updA_ne _ _ q,updA_ne _ _ q'] at w
   exact R.cc _ _ _ _ h1 h2 w
 ·replace h1:=setF_dom hn h1
  replace h2:=setF_dom hn h2
  by_cases q:u=t∧j=i
  ·refine xo0_2 q fun e0_ e1_=>?_;clear q;obtain rfl:=e0_;obtain rfl:=e1_
   rw [updA_same] at w
   exact (fr _ _ h2).2.2 w.symm
  ·rw [updA_ne _ _ q] at w
   exact R.cq _ _ _ _ h1 h2 w
 ·by_cases q:m=cl t i
  ·subst q
   rw [upd_same] at e
   obtain rfl:=Option.some.inj e
   rw [upd_ne _ _ (nA (R.kids _ _ _ hn) nofun)];exact R.kids _ _ _ hn
  ·rw [upd_ne _ _ q] at e
   refine xo0_2 (drop_some e) fun e1 e2=>?_
   rw [upd_ne _ _ fun w=>(R.free _ _ e2 _ _ dn).1 w.symm]
   exact R.old _ _ e2
 ·replace h1:=setF_dom hn h1
  by_cases q:m=cl t i
  ·subst q
   refine xo1_1 (nNone h1) fun x hx=>?_
   refine⟨fun w=>?_,fun w=>?_,fun w=>R.cq _ _ _ _ dn h1 w.symm⟩
   ·have:=R.node _ _ _ hx;rw [w,R.kids _ _ _ hn] at this;exact absurd this nofun
   ·by_cases q:u=t∧j=i
    ·refine xo0_2 q fun e0_ e1_=>?_;clear q;obtain rfl:=e0_;obtain rfl:=e1_
     rw [updA_same] at w
     exact (fr _ _ dn).2.1 w.symm
    ·rw [updA_ne _ _ q] at w
     exact q (R.cc _ _ _ _ h1 dn w)
  ·rw [upd_ne _ _ q] at e
   refine xo0_2 (drop_some e) fun e1 e2=>?_
   have f:=R.free _ _ e2 _ _ h1
   refine⟨f.1,?_,f.2.2⟩
   by_cases q:u=t∧j=i
   ·refine xo0_2 q fun e0_ e1_=>?_;clear q;obtain rfl:=e0_;obtain rfl:=e1_
    rw [updA_same];exact fun w=>e1 w.symm
   ·rw [updA_ne _ _ q];exact f.2.1
 ·by_cases q:m=A t i
  ·rw [q];exact R.lt _ _ (R.node _ _ _ hn)
  ·rw [upd_ne _ _ q] at e;exact R.lt _ _ e
theorem Rep.adoptQueue (R:Rep A cl ql Φ G h n)(hn:Φ t i=some nd){es:List Nat}{qs:List (Int×Int)}(hl:G l=some (entsO es))(hes:Ents A t h es qs) :
  Rep A cl (updA ql t i l) (setT Φ t (setN (Φ t) i { nd with queue:=qs })) (drop G l) (upd h (A t i) (.inst 19 (ats A t i nd (cl t i) l))) n:=by
 have kt:=keepTup (R.node _ _ _ hn) rfl
 have dn:Φ t i≠none:=by rw [hn];nofun
 have dm:∀ {u j x},Φ u j=some x→Φ u j≠none:=fun e=>by rw [e];nofun
 have fr:=R.free _ _ hl
 have nA:∀ {m x},h m=some x→(∀ c a,x≠.inst c a)→m≠A t i:=fun e q w=>by rw [w,R.node _ _ _ hn] at e;cases e;exact q _ _ rfl
 refine⟨fun u j x e=>?_,fun u j x e=>?_,fun u j x e=>?_,fun u j v k h1 h2=>R.aa _ _ _ _ (setF_dom hn h1) (setF_dom hn h2),fun u j v k h1 h2=>R.cc _ _ _ _ (setF_dom hn h1) (setF_dom hn h2),fun u j v k h1 h2 w=>?_,fun u j v k h1 h2 w=>?_,
  fun m o e=>?_,fun m o e u j h1=>?_,fun m o e=>?_⟩
 ·rcases setF_at e with⟨rfl,rfl,rfl⟩ | ⟨q,e⟩
  ·rw [upd_same,updA_same]
  ·rw [upd_ne _ _ fun w=>q (R.aa _ _ _ _ (dm e) dn w),updA_ne _ _ q];exact R.node _ _ _ e
 ·have:∀ y,Φ u j=some y→upd h (A t i) (.inst 19 (ats A t i nd (cl t i) l)) (cl u j)=some (kidsO A u y.kids):=fun y e=>by
   rw [upd_ne _ _ (nA (R.kids _ _ _ e) nofun)];exact R.kids _ _ _ e
  rcases setF_at e with⟨rfl,rfl,rfl⟩ | ⟨q,e⟩
  ·exact this nd hn
  ·exact this _ e
 ·rcases setF_at e with⟨rfl,rfl,rfl⟩ | ⟨q,e⟩
  ·rw [updA_same,upd_ne _ _ fun w=>(fr _ _ dn).1 w.symm];exact⟨es,R.old _ _ hl,hes.keep (kt _)⟩
  ·refine xo1_2 (R.queue _ _ _ e) fun es e1 e2=>?_
   exact⟨es,by rw [updA_ne _ _ q,upd_ne _ _ (nA e1 nofun)];exact e1,e2.keep (kt _)⟩
 ·replace h1:=setF_dom hn h1
  replace h2:=setF_dom hn h2
  by_cases q:u=t∧j=i <;> by_cases q':v=t∧k=i
  ·exact⟨q.1.trans q'.1.symm,q.2.trans q'.2.symm⟩
  ·refine xo0_2 q fun e0_ e1_=>?_;clear q;obtain rfl:=e0_;obtain rfl:=e1_
   rw [updA_same,updA_ne _ _ q'] at w
   exact ((fr _ _ h2).2.2 w.symm).elim
  ·refine xo0_2 q' fun e0_ e1_=>?_;clear q';obtain rfl:=e0_;obtain rfl:=e1_
   rw [updA_same,updA_ne _ _ q] at w
   exact ((fr _ _ h1).2.2 w).elim
  ·rw [updA_ne _ _ q,updA_ne _ _ q'] at w
   exact R.qq _ _ _ _ h1 h2 w
 ·replace h1:=setF_dom hn h1
  replace h2:=setF_dom hn h2
  by_cases q:v=t∧k=i
  ·refine xo0_2 q fun e0_ e1_=>?_;clear q;obtain rfl:=e0_;obtain rfl:=e1_
   rw [updA_same] at w
   exact (fr _ _ h1).2.1 w
  ·rw [updA_ne _ _ q] at w
   exact R.cq _ _ _ _ h1 h2 w
 ·refine xo0_2 (drop_some e) fun e1 e2=>?_
  rw [upd_ne _ _ fun w=>(R.free _ _ e2 _ _ dn).1 w.symm]
  exact R.old _ _ e2
 ·replace h1:=setF_dom hn h1
  refine xo0_2 (drop_some e) fun e1 e2=>?_
  have f:=R.free _ _ e2 _ _ h1
  refine⟨f.1,f.2.1,?_⟩
  by_cases q:u=t∧j=i
  ·refine xo0_2 q fun e0_ e1_=>?_;clear q;obtain rfl:=e0_;obtain rfl:=e1_
   rw [updA_same];exact fun w=>e1 w.symm
  ·rw [updA_ne _ _ q];exact f.2.2
 ·by_cases q:m=A t i
  ·rw [q];exact R.lt _ _ (R.node _ _ _ hn)
  ·rw [upd_ne _ _ q] at e;exact R.lt _ _ e
noncomputable def NoRef (T:Tr) (i:Int):Prop:=T i=none∧∀ j nd,T j=some nd→i ∉ nd.kids∧(∀ p∈nd.queue,p.2≠i)∧nd.par≠some i
noncomputable abbrev nd0 (w:Int):Nd:=⟨w,true,0,0,none,[],[]⟩
theorem Ents.ren {A':Ad}{es:List Nat}{q:List (Int×Int)}(e:∀ p∈q,A' t p.2=A t p.2)(x:Ents A t h es q):Ents A' t h es q:=by
 induction es generalizing q with
 | nil=>cases q <;> exact x
 | cons b es ih=>
  cases q with
  | nil=>exact x
  | cons p q=>exact⟨by rw [e p (.head _)];exact x.1,ih (fun p hp=>e p (.tail _ hp)) x.2⟩
theorem updA_inj {A:Ad}{t:Nat}{i:Int}{a:Nat}{D D':Nat→Int→Prop}(dom:∀ {u j},D' u j→(u=t∧j=i)∨(¬ (u=t∧j=i)∧D u j))(fr:∀ {u j},D u j→A u j≠a)(inj:∀ u j v k,D u j→D v k→A u j=A v k→u=v∧j=k) :
  ∀ u j v k,D' u j→D' v k→updA A t i a u j=updA A t i a v k→u=v∧j=k:=fun u j v k h1 h2 w=>by
 have at':∀ {u j},u=t∧j=i→updA A t i a u j=a:=fun e=>if_pos e
 rcases dom h1 with e | ⟨q1,g1⟩ <;> rcases dom h2 with e' | ⟨q2,g2⟩
 ·exact⟨e.1.trans e'.1.symm,e.2.trans e'.2.symm⟩
 ·rw [at' e,updA_ne _ _ q2] at w;exact (fr g2 w.symm).elim
 ·rw [at' e',updA_ne _ _ q1] at w;exact (fr g1 w).elim
 ·rw [updA_ne _ _ q1,updA_ne _ _ q2] at w;exact inj _ _ _ _ g1 g2 w
theorem Rep.adoptNode (R:Rep A cl ql Φ G h n)(no:NoRef (Φ t) i){a c q:Nat}{w:Int}(ha:G a=some (.inst 19 (ats A t i (nd0 w) c q)))(hc:G c=some (.list []))(hq:G q=some (.list []))(hcq:c≠q) :
  Rep (updA A t i a) (updA cl t i c) (updA ql t i q) (setT Φ t (setN (Φ t) i (nd0 w))) (drop (drop (drop G a) c) q) h n:=by
 have dm:∀ {u j x},Φ u j=some x→Φ u j≠none∧¬ (u=t∧j=i):=fun e=>⟨by rw [e];nofun,fun w=>by obtain⟨rfl,rfl⟩:=w;rw [no.1] at e;cases e⟩
 have at':∀ {u j x},setT Φ t (setN (Φ t) i (nd0 w)) u j=some x→(u=t∧j=i∧x=nd0 w)∨(¬ (u=t∧j=i)∧Φ u j=some x):=setF_at
 have dom:∀ {u j},setT Φ t (setN (Φ t) i (nd0 w)) u j≠none→(u=t∧j=i)∨(¬ (u=t∧j=i)∧Φ u j≠none):=fun h=>by
  refine xo1_1 (nNone h) fun x hx=>?_
  rcases at' hx with⟨a,b,_⟩ | ⟨a,b⟩
  ·exact .inl ⟨a,b⟩
  ·exact .inr ⟨a,by rw [b];nofun⟩
 have fa:=R.free _ _ ha
 have fc:=R.free _ _ hc
 have fq:=R.free _ _ hq
 have refs:∀ {u j x},Φ u j=some x→ats (updA A t i a) u j x=ats A u j x:=fun {u j x} e=>by
  funext c q
  have:parV (updA A t i a) u x.par=parV A u x.par:=by
   cases p:x.par with
   | none=>rfl
   | some k=>
    show AV.loc _=AV.loc _
    rw [updA_ne]
    rintro⟨rfl,rfl⟩
    exact (no.2 _ _ e).2.2 p
  unfold ats
  rw [this]
 have hca:c≠a:=fun w=>by rw [w,ha] at hc;exact absurd hc nofun
 have hqa:q≠a:=fun w=>by rw [w,ha] at hq;exact absurd hq nofun
 refine⟨fun u j x e=>?_,fun u j x e=>?_,fun u j x e=>?_,updA_inj dom (fun g=>(fa _ _ g).1) R.aa,updA_inj dom (fun g=>(fc _ _ g).2.1) R.cc,updA_inj dom (fun g=>(fq _ _ g).2.2) R.qq,fun u j v k h1 h2 w=>?_,fun m o e=>?_,fun m o e u j h1=>?_,R.lt⟩
 ·rcases at' e with⟨rfl,rfl,rfl⟩ | ⟨q,e'⟩
  ·rw [updA_same,updA_same,updA_same]
   exact R.old _ _ ha
  ·rw [updA_ne _ _ q,updA_ne _ _ q,updA_ne _ _ q,refs e'];exact R.node _ _ _ e'
 ·rcases at' e with⟨rfl,rfl,rfl⟩ | ⟨q,e'⟩
  ·rw [updA_same];exact R.old _ _ hc
  ·rw [updA_ne _ _ q]
   refine (R.kids _ _ _ e').trans ?_
   refine congrArg (fun l=>some (AO.list l)) (List.map_congr_left fun y hy=>?_)
   show AV.loc _=AV.loc _
   rw [updA_ne]
   rintro⟨rfl,rfl⟩
   exact (no.2 _ _ e').1 hy
 ·rcases at' e with⟨rfl,rfl,rfl⟩ | ⟨q,e'⟩
  ·rw [updA_same];exact⟨[],R.old _ _ hq,trivial⟩
  ·rw [updA_ne _ _ q]
   refine xo1_2 (R.queue _ _ _ e') fun es e1 e2=>?_
   refine⟨es,e1,e2.ren fun p hp=>updA_ne _ _ ?_⟩
   rintro⟨rfl,q2⟩
   exact (no.2 _ _ e').2.1 p hp q2
 ·rcases dom h1 with⟨rfl,rfl⟩ | ⟨q1,g1⟩ <;> rcases dom h2 with⟨rfl,rfl⟩ | ⟨q2,g2⟩
  ·rw [updA_same,updA_same] at w;exact hcq w
  ·rw [updA_same,updA_ne _ _ q2] at w;exact (fc _ _ g2).2.2 w.symm
  ·rw [updA_same,updA_ne _ _ q1] at w;exact (fq _ _ g1).2.1 w
  ·rw [updA_ne _ _ q1,updA_ne _ _ q2] at w;exact R.cq _ _ _ _ g1 g2 w
 ·exact R.old _ _ (drop_some (drop_some (drop_some e).2).2).2
 ·refine xo0_2 (drop_some e) fun e1 e=>?_
  refine xo0_2 (drop_some e) fun e2 e=>?_
  refine xo0_2 (drop_some e) fun e3 e=>?_
  rcases dom h1 with⟨rfl,rfl⟩ | ⟨q1,g1⟩
  ·rw [updA_same,updA_same,updA_same]
   exact⟨fun w=>e3 w.symm,fun w=>e2 w.symm,fun w=>e1 w.symm⟩
  ·rw [updA_ne _ _ q1,updA_ne _ _ q1,updA_ne _ _ q1]
   exact R.free _ _ e _ _ g1
end
end
section
open PySem PySem.W PyProof.Rows
section
variable {C:Nat→List AV→St→R AV}{E:Est}{k n:Nat}{h:Hp}{L:Lo}{s:St}{Q:Pst AV}
theorem bi_inst {b:Nat}{as:Lo}(e:h b=some (.inst 19 as))(q:Q (.bool true) L h n k):Wp (callV sg C (.gl 32) [.loc b,.gl 19] [] ⟨L,h,n,k⟩) Q E:=by
 show Wp (atObj ⟨L,h,n,k⟩ b _) Q E
 exact .atO e q
theorem f11 (m:Nat){a b:Nat}{as bs:Lo}{x y:Int}(ha:h a=some (.inst 19 as))(hb:h b=some (.inst 19 bs))(hx:get? as 21=some (.int x))(hy:get? bs 21=some (.int y)) :
  callF sg (m+1) 11 [.loc a,.loc b] ⟨L,h,n,k⟩=.ok (.bool (decide (x=y))) ⟨L,h,n,k⟩:=by
 refine Wp.fin (c_in rfl rfl ?_)
 show Wp (execs sg _ b11 ⟨[(20,.loc a),(1,.loc b)],h,n,k⟩) _ _
 delta b11
 walk_at "r"
 refine bi_inst hb ?_
 walk_at "r"
 refine a_get ha rfl hx rfl ?_
 walk_at "r"
 refine a_get hb rfl hy rfl ?_
 walk_at "r"
 exact⟨rfl,rfl⟩
theorem f13 (m:Nat){a b:Nat}{as bs:Lo}{x y:Int}(ha:h a=some (.inst 19 as))(hb:h b=some (.inst 19 bs))(hx:get? as 21=some (.int x))(hy:get? bs 21=some (.int y)) :
  callF sg (m+1) 13 [.loc a,.loc b] ⟨L,h,n,k⟩=.ok (.bool (decide (x < y))) ⟨L,h,n,k⟩:=by
 refine Wp.fin (c_in rfl rfl ?_)
 show Wp (execs sg _ b13 ⟨[(20,.loc a),(1,.loc b)],h,n,k⟩) _ _
 delta b13
 walk_at "r"
 refine bi_inst hb ?_
 walk_at "r"
 refine a_get ha rfl hx rfl ?_
 walk_at "r"
 refine a_get hb rfl hy rfl ?_
 walk_at "r"
 exact⟨rfl,rfl⟩
theorem m_append {l:Nat}{xs:List AV}(e:h l=some (.list xs)):methodOf sg (.loc l) 6 ⟨L,h,n,k⟩=some .append:=by
 show (match h l with | some (.inst c as)=>(match sg.me c 6,get? as 6 with | .fn f,none=>some (Mt.fn f) | _,_=>none) | some (.list _)=>some .append | some (.dict _)=>none | _=>none)=_
 rw [e]
theorem m_lpop {l:Nat}{xs:List AV}(e:h l=some (.list xs)):methodOf sg (.loc l) 10 ⟨L,h,n,k⟩=some .lpop:=by
 show (match h l with | some (.inst c as)=>(match sg.me c 10,get? as 10 with | .fn f,none=>some (Mt.fn f) | _,_=>none) | some (.list _)=>some .lpop | some (.dict _)=>some .dpop | _=>none)=_
 rw [e]
theorem m_dpop {l:Nat}{xs:List (AV×AV)}(e:h l=some (.dict xs)):methodOf sg (.loc l) 10 ⟨L,h,n,k⟩=some .dpop:=by
 show (match h l with | some (.inst c as)=>(match sg.me c 10,get? as 10 with | .fn f,none=>some (Mt.fn f) | _,_=>none) | some (.list _)=>some .lpop | some (.dict _)=>some .dpop | _=>none)=_
 rw [e]
theorem m_remove {l:Nat}{xs:List AV}(e:h l=some (.list xs)):methodOf sg (.loc l) 43 ⟨L,h,n,k⟩=some .remove:=by
 show (match h l with | some (.inst c as)=>(match sg.me c 43,get? as 43 with | .fn f,none=>some (Mt.fn f) | _,_=>none) | some (.list _)=>some .remove | some (.dict _)=>none | _=>none)=_
 rw [e]
theorem c_append {l:Nat}{ys:List AV}{x:AV}(e:h l=some (.list ys))(hl:ys.length≤1000)(q:Q .none L (upd h l (.list (ys++[x]))) n k):Wp (callMt sg C .append (.loc l) [x] [] ⟨L,h,n,k⟩) Q E:=by
 show Wp (atObj ⟨L,h,n,k⟩ l _) Q E
 exact .atO e (.ifp (r:=R.ok _ _) hl q)
theorem c_remove {l:Nat}{ys:List AV}{x:AV}(e:h l=some (.list ys))(w:Wp (removeAt sg C l x (ys.length+1) 0 ⟨L,h,n,k⟩) Q E):Wp (callMt sg C .remove (.loc l) [x] [] ⟨L,h,n,k⟩) Q E:=by
 show Wp (atObj ⟨L,h,n,k⟩ l _) Q E
 exact .atO e w
theorem c_dpop {l:Nat}{es:List (AV×AV)}{i:Int}{x:AV}(e:h l=some (.dict es))(hx:dget? es (.int i)=some x)(q:Q x L (upd h l (.dict (ddel es (.int i)))) n k):Wp (callMt sg C .dpop (.loc l) [.int i] [] ⟨L,h,n,k⟩) Q E:=by
 show Wp (atObj ⟨L,h,n,k⟩ l _) Q E
 refine .atO e ?_
 unfold onDict
 dsimp only
 rw [hx]
 exact q
theorem c_lpop {l:Nat}{y:AV}{r:List AV}(e:h l=some (.list (y :: r)))(q:Q y L (upd h l (.list r)) n k):Wp (callMt sg C .lpop (.loc l) [.int 0] [] ⟨L,h,n,k⟩) Q E:=by
 show Wp (atObj ⟨L,h,n,k⟩ l _) Q E
 exact .atO e q
theorem c_lpop0 {l:Nat}(e:h l=some (.list []))(q:E 52 true L h n 0):Wp (callMt sg C .lpop (.loc l) [.int 0] [] ⟨L,h,n,0⟩) Q E:=by
 show Wp (atObj ⟨L,h,n,0⟩ l _) Q E
 exact .atO e q
theorem bi_len {l:Nat}{xs:List AV}(e:h l=some (.list xs))(q:Q (.int xs.length) L h n k):Wp (callV sg C (.gl 8) [.loc l] [] ⟨L,h,n,k⟩) Q E:=by
 show Wp (atObj ⟨L,h,n,k⟩ l _) Q E
 exact .atO e q
theorem bi_dlen {l:Nat}{xs:List (AV×AV)}(e:h l=some (.dict xs))(q:Q (.int xs.length) L h n k):Wp (callV sg C (.gl 8) [.loc l] [] ⟨L,h,n,k⟩) Q E:=by
 show Wp (atObj ⟨L,h,n,k⟩ l _) Q E
 exact .atO e q
theorem i_list {l:Nat}{xs:List AV}{i:Int}{x:AV}(e:h l=some (.list xs))(h0:0≤i)(hx:xs[i.toNat]?=some x)(q:Q x L h n k):Wp (getI sg (.loc l) (.int i) ⟨L,h,n,k⟩) Q E:=by
 show Wp (atObj ⟨L,h,n,k⟩ l _) Q E
 refine .atO e ?_
 show Wp (itemR xs _ _) Q E
 unfold itemR
 rw [if_pos h0,hx]
 exact q
theorem i_tup {l:Nat}{xs:List AV}{i:Nat}{x:AV}(e:h l=some (.tup xs))(hx:xs[i]?=some x)(q:Q x L h n k):Wp (getI sg (.loc l) (.int i) ⟨L,h,n,k⟩) Q E:=by
 show Wp (atObj ⟨L,h,n,k⟩ l _) Q E
 refine .atO e ?_
 show Wp (itemR xs _ _) Q E
 unfold itemR
 rw [if_pos (Int.natCast_nonneg i),Int.toNat_natCast,hx]
 exact q
theorem i_dict {l:Nat}{es:List (AV×AV)}{i:Int}{x:AV}(e:h l=some (.dict es))(hx:dget? es (.int i)=some x)(q:Q x L h n k):Wp (getI sg (.loc l) (.int i) ⟨L,h,n,k⟩) Q E:=by
 show Wp (atObj ⟨L,h,n,k⟩ l _) Q E
 refine .atO e ?_
 dsimp only
 rw [hx]
 exact q
theorem i_dict0 {l:Nat}{es:List (AV×AV)}{i:Int}(e:h l=some (.dict es))(hx:dget? es (.int i)=none)(q:E 79 true L h n 0):Wp (getI sg (.loc l) (.int i) ⟨L,h,n,0⟩) Q E:=by
 show Wp (atObj ⟨L,h,n,0⟩ l _) Q E
 refine .atO e ?_
 dsimp only
 rw [hx]
 exact q
theorem j_list {Q:Pst Unit}{l:Nat}{xs:List AV}{i:Int}{x:AV}(e:h l=some (.list xs))(h0:0≤i∧i.toNat < xs.length)(q:Q () L (upd h l (.list (xs.set i.toNat x))) n k):Wp (setI (.loc l) (.int i) x ⟨L,h,n,k⟩) Q E:=by
 show Wp (atObj ⟨L,h,n,k⟩ l _) Q E
 exact .atO e (.ifp (r:=R.ok _ _) h0 q)
theorem j_dict {Q:Pst Unit}{l:Nat}{es:List (AV×AV)}{i:Int}{x:AV}(e:h l=some (.dict es))(h0:es.length≤1000)(q:Q () L (upd h l (.dict (dput es (.int i) x))) n k):Wp (setI (.loc l) (.int i) x ⟨L,h,n,k⟩) Q E:=by
 show Wp (atObj ⟨L,h,n,k⟩ l _) Q E
 exact .atO e (.ifp (r:=R.ok _ _) h0 q)
theorem k_in {Q:Pst Bool}{l:Nat}{es:List (AV×AV)}{i:Int}(e:h l=some (.dict es))(q:Q (dget? es (.int i)).isSome L h n k):Wp (cmpv sg C .isin (.int i) (.loc l) ⟨L,h,n,k⟩) Q E:=by
 show Wp (atObj ⟨L,h,n,k⟩ l _) Q E
 exact .atO e q
theorem f2 (m:Nat){q:Nat}{y:AV}{r:List AV}(e:h q=some (.list (y :: r))):callF sg (m+1) 2 [.loc q] ⟨L,h,n,k⟩=.ok y ⟨L,upd h q (.list r),n,k⟩:=by
 refine Wp.fin (c_in rfl rfl ?_)
 show Wp (execs sg _ b2 ⟨[(3,.loc q)],h,n,k⟩) _ _
 delta b2
 walk_at "r"
 refine⟨_,m_lpop e,?_⟩
 walk_at "r"
 refine c_lpop e ?_
 walk_at "r"
 exact⟨rfl,rfl⟩
theorem f2_0 (m:Nat){q:Nat}(e:h q=some (.list []))(z:E 52 true L h n 0):Wp (callF sg (m+1) 2 [.loc q] ⟨L,h,n,0⟩) Q E:=by
 refine c_in rfl rfl ?_
 show Wp (execs sg _ b2 ⟨[(3,.loc q)],h,n,0⟩) _ _
 delta b2
 walk_at "r"
 refine⟨_,m_lpop e,?_⟩
 walk_at "r"
 exact c_lpop0 e z
noncomputable def ahead (p q:Int×Int):Bool:=if p.1=q.1 then decide (p.2 < q.2) else decide (p.1 < q.1)
inductive Keyed (h:Hp) (l:Nat) (i:Int):Prop
 | intro (as:Lo) (a:h l=some (.inst 19 as)) (b:get? as 21=some (.int i))
inductive Ent (h:Hp) (e:Nat) (p:Int×Int):Prop
 | intro (l:Nat) (a:h e=some (.tup [.int p.1,.loc l])) (b:Keyed h l p.2)
theorem c_0 (m:Nat){a b:Nat}{p q:Int×Int}(ha:Ent h a p)(hb:Ent h b q):callF sg (m+2) 0 [.loc a,.loc b] ⟨L,h,n,k⟩=.ok (.bool (ahead p q)) ⟨L,h,n,k⟩:=by
 obtain⟨l,h1,as,h2,h3⟩:=ha
 obtain⟨j,g1,bs,g2,g3⟩:=hb
 refine Wp.fin (c_in rfl rfl ?_)
 show Wp (execs sg _ b0 ⟨[(0,.loc a),(1,.loc b)],h,n,k⟩) _ _
 delta b0
 unfold ahead
 walk_at "r"
 refine i_tup (i:=0) h1 rfl ?_
 walk_at "r"
 refine i_tup (i:=0) g1 rfl ?_
 walk_at "r"
 refine it_s (fun w=>?_) fun w=>?_
 ·rw [Bool.not_eq_true',decide_eq_false_iff_not] at w
  walk_at "r"
  refine i_tup (i:=0) h1 rfl ?_
  walk_at "r"
  refine i_tup (i:=0) g1 rfl ?_
  walk_at "r"
  rw [if_neg w]
  exact⟨rfl,rfl⟩
 ·rw [Bool.not_eq_false',decide_eq_true_iff] at w
  walk_at "r"
  refine i_tup (i:=1) h1 rfl ?_
  walk_at "r"
  refine i_tup (i:=1) g1 rfl ?_
  show Wp (cmpI sg (callF sg (m+1)) 57 l j _) _ _
  exact .cmpI h2 g2 rfl (c_fn rfl rfl (.eq (f13 m h2 g2 h3 g3) ⟨_,rfl,by
   rw [if_pos w]
   exact⟨rfl,rfl⟩⟩))
theorem k_eqS (m:Nat){Q:Pst Bool}{l j:Nat}{i i':Int}(a:Keyed h l i)(b:Keyed h j i')(q:Q (decide (i=i')) L h n k):Wp (eqv sg (callF sg (m+1)) (.loc l) (.loc j) ⟨L,h,n,k⟩) Q E:=by
 obtain⟨as,h2,h3⟩:=a
 obtain⟨bs,g2,g3⟩:=b
 show Wp (cmpI sg (callF sg (m+1)) 55 l j _) _ _
 exact .cmpI h2 g2 rfl (c_fn rfl rfl (.eq (f11 m h2 g2 h3 g3) ⟨_,rfl,q⟩))
end
end
section
open PySem PySem.W PyProof.Rows
inductive All2 {α β:Type} (P:α→β→Prop):List α→List β→Prop
 | nil:All2 P [] []
 | cons {a b as bs}:P a b→All2 P as bs→All2 P (a :: as) (b :: bs)
section
variable {α β:Type}{P:α→β→Prop}
theorem All2.app {as cs:List α}{bs ds:List β}(x:All2 P as bs)(y:All2 P cs ds):All2 P (as++cs) (bs++ds):=by
 induction x with
 | nil=>exact y
 | cons h _ ih=>exact .cons h ih
theorem All2.rev {as:List α}{bs:List β}(x:All2 P as bs):All2 P as.reverse bs.reverse:=by
 induction x with
 | nil=>exact .nil
 | cons h _ ih=>rw [List.reverse_cons,List.reverse_cons];exact ih.app (.cons h .nil)
theorem All2.mono {P':α→β→Prop}{as:List α}{bs:List β}(x:All2 P as bs)(k:∀ a b,b∈bs→P a b→P' a b):All2 P' as bs:=by
 induction x with
 | nil=>exact .nil
 | cons h _ ih=>exact .cons (k _ _ (.head _) h) (ih fun a b m=>k a b (.tail _ m))
theorem All2.len {as:List α}{bs:List β}(x:All2 P as bs):as.length=bs.length:=by
 induction x with
 | nil=>rfl
 | cons _ _ ih=>simp [ih]
end
theorem ents_iff {A:Ad}{t:Nat}{h:Hp}{es:List Nat}{q:List (Int×Int)}:Ents A t h es q ↔ All2 (fun e p=>h e=some (.tup [.int p.1,.loc (A t p.2)])) es q:=by
 induction es generalizing q with
 | nil=>
  cases q with
  | nil=>exact⟨fun _=>.nil,fun _=>trivial⟩
  | cons p q=>exact⟨fun x=>x.elim,fun x=>nomatch x⟩
 | cons e es ih=>
  cases q with
  | nil=>exact⟨fun x=>x.elim,fun x=>nomatch x⟩
  | cons p q=>exact⟨fun x=>.cons x.1 (ih.mp x.2),fun x=>by cases x with | cons a b=>exact⟨a,ih.mpr b⟩⟩
noncomputable def pushR (p:Int×Int):List (Int×Int)→List (Int×Int)
 | []=>[p]
 | y :: r=>if ahead p y then y :: pushR p r else p :: y :: r
theorem push_n {p:Int×Int}:pushR p []=[p]:=rfl
theorem push_c {p y:Int×Int}{r:List (Int×Int)}:pushR p (y :: r)=if ahead p y then y :: pushR p r else p :: y :: r:=rfl
noncomputable def qpush (q:List (Int×Int)) (p:Int×Int):List (Int×Int):=(pushR p q.reverse).reverse
theorem upd_upd (h:Hp)(l:Nat)(o o':AO):upd (upd h l o) l o'=upd h l o':=by
 funext x;unfold upd;split <;> rfl
theorem Ent.upd {h:Hp}{e q:Nat}{p:Int×Int}{xs ys:List AV}(hq:h q=some (.list xs))(x:Ent h e p):Ent (upd h q (.list ys)) e p:=by
 obtain⟨l,h1,as,h2,h3⟩:=x
 exact⟨l,by rw [upd_ne _ _ fun w=>by rw [w,hq] at h1;cases h1];exact h1,as,by rw [upd_ne _ _ fun w=>by rw [w,hq] at h2;cases h2];exact h2,h3⟩
section
variable {L:List (Nat×AV)}{h:Hp}{n k:Nat}{e q:Nat}{p:Int×Int}{P:Nat→Int×Int→Prop}
noncomputable abbrev l1 (q e:Nat) (j:Nat):List (Nat×AV):=[(3,.loc q),(4,.loc e),(7,.int j)]
theorem set_mid {α:Type}(a:List α)(x y:α)(b:List α):(a++x :: b).set a.length y=a++y :: b:=by
 rw [List.set_append_right _ _ (Nat.le_refl _),Nat.sub_self];rfl
theorem get_mid {α:Type}(a:List α)(x:α)(b:List α):(a++x :: b)[a.length]?=some x:=by
 rw [List.getElem?_append_right (Nat.le_refl _),Nat.sub_self];rfl
end
noncomputable def Ss.at:Ss→Nat→S
 | .cons a _,0=>a
 | .cons _ r,n+1=>r.at n
 | .nil,_=>.cont ⟨0,0,0,0⟩
noncomputable def S.tst:S→E
 | .whl t _ _=>t
 | .ife t _ _ _=>t
 | _=>.cst .none 0 ⟨0,0,0,0⟩
noncomputable def S.bdy:S→Ss
 | .whl _ b _=>b
 | .for _ _ b _=>b
 | .ife _ a _ _=>a
 | .try b _ _=>b
 | .fin b _ _=>b
 | _=>.nil
section
variable {L:List (Nat×AV)}{h:Hp}{n k:Nat}{e q:Nat}{p:Int×Int}{P:Nat→Int×Int→Prop}
theorem while_f {test:St→R Bool}{body:St→R Fl}{f:Nat}{s s':St}(h:test s=.ok false s'):whileN test body (f+1) s=.ok .next s':=by
 show (test s).bnd _=_
 rw [h];rfl
theorem while_t {test:St→R Bool}{body:St→R Fl}{f:Nat}{s s' s'':St}{x:Fl}(h:test s=.ok true s')(hb:body s'=.ok x s'')(hx:x=.next∨x=.cont):whileN test body (f+1) s=whileN test body f s'':=by
 show (test s).bnd _=_
 rw [h]
 show (body s').bnd _=_
 rw [hb]
 rcases hx with rfl | rfl <;> rfl
theorem w1 (m:Nat){xs:List AV}(hq:h q=some (.list xs))(he:P e p)(hP:∀ e p,P e p→Ent h e p):∀ {re:List Nat}{rq:List (Int×Int)},All2 P re rq→∀ (x:AV)(post:List AV)(fuel:Nat),re.length < fuel→
  ∃ (re':List Nat) (x':AV) (mid:List Nat),whileN (fun s=>evalT sg (callF sg (m+2)) (b1.at 2).tst s) (fun s=>execs sg (callF sg (m+2)) (b1.at 2).bdy s) fuel ⟨l1 q e re.length,upd h q (.list (re.reverse.map .loc++x :: post)),n,k⟩=
   .ok .next ⟨l1 q e re'.length,upd h q (.list (re'.reverse.map .loc++x' :: (mid.map .loc++post))),n,k⟩∧All2 P (re'.reverse++e :: mid) (pushR p rq).reverse:=by
 intro re rq hr
 induction hr with
 | nil=>
  intro x post fuel hf
  refine⟨[],x,[],?_,.cons he .nil⟩
  obtain⟨f,rfl⟩:∃ f,fuel=f+1:=⟨fuel - 1,by lia⟩
  have:evalT sg (callF sg (m+2)) (b1.at 2).tst ⟨l1 q e 0,upd h q (.list ([]++x :: post)),n,k⟩=.ok false ⟨l1 q e 0,upd h q (.list ([]++x :: post)),n,k⟩:=rfl
  show (evalT sg (callF sg (m+2)) (b1.at 2).tst ⟨l1 q e 0,upd h q (.list ([]++x :: post)),n,k⟩).bnd _=_
  rw [this]
  rfl
 | @cons y w r rq hy hr ih=>
  intro x post fuel hf
  obtain⟨f,rfl⟩:∃ f,fuel=f+1:=⟨fuel - 1,by simp at hf;lia⟩
  have lst:(y :: r).reverse.map AV.loc++x :: post=r.reverse.map .loc++.loc y :: x :: post:=by simp
  have len:(r.reverse.map AV.loc).length=r.length:=by simp
  have E1:Ent (upd h q (.list (r.reverse.map .loc++.loc y :: x :: post))) e p:=(hP _ _ he).upd hq
  have E2:Ent (upd h q (.list (r.reverse.map .loc++.loc y :: x :: post))) y w:=(hP _ _ hy).upd hq
  have test:evalT sg (callF sg (m+2)) (b1.at 2).tst ⟨l1 q e (r.length+1),upd h q (.list (r.reverse.map .loc++.loc y :: x :: post)),n,k⟩=.ok (ahead p w) ⟨l1 q e (r.length+1),upd h q (.list (r.reverse.map .loc++.loc y :: x :: post)),n,k⟩:=by
   ·refine Wp.fin (e_test ?_)
    delta b1
    dsimp only [Ss.at,S.tst]
    walk_at "r"
    refine it_t (decide_eq_true (by lia)) ?_
    walk_at "r"
    have i1:((((r.length+1:Nat):Int)) - 1).toNat=r.length:=by lia
    refine' i_list ?a1 ?a2 ?a3 ?a4
    case a1=>exact upd_same ..
    case a2=>lia
    case a3=>rw [i1,← len];exact get_mid _ _ _
    walk_at "r"
    refine c_fn rfl rfl (.eq (c_0 m E1 E2) ?_)
    walk_at "r"
    exact⟨rfl,rfl⟩
  rw [lst]
  by_cases ha:ahead p w=true
  ·have body:execs sg (callF sg (m+2)) (b1.at 2).bdy ⟨l1 q e (r.length+1),upd h q (.list (r.reverse.map .loc++.loc y :: x :: post)),n,k⟩=.ok .next ⟨l1 q e r.length,upd h q (.list (r.reverse.map .loc++.loc y :: .loc y :: post)),n,k⟩:=by
    ·refine Wp.fin ?_
     delta b1
     dsimp only [Ss.at,S.bdy]
     walk_at "r"
     have i1:((((r.length+1:Nat):Int)) - 1).toNat=r.length:=by lia
     refine' i_list ?b1 ?b2 ?b3 ?b4
     case b1=>exact upd_same ..
     case b2=>lia
     case b3=>rw [i1,← len];exact get_mid _ _ _
     walk_at "r"
     refine' j_list ?c1 ?c2 ?c3
     case c1=>exact upd_same ..
     case c2=>exact⟨by lia,by simp;try omega⟩
     walk_at "r"
     refine⟨1,rfl,?_⟩
     walk_at "r"
     refine⟨rfl,?_⟩
     have i2:(((r.length+1:Nat):Int)).toNat=r.length+1:=by lia
     have i3:((r.length+1:Nat):Int) - 1=(r.length:Int):=by (clear i2 i1 len hf;lia)
     have s1:(r.reverse.map AV.loc++.loc y :: x :: post).set (r.length+1) (.loc y)=r.reverse.map .loc++.loc y :: .loc y :: post:=by
      have:=set_mid (r.reverse.map AV.loc++[.loc y]) x (.loc y) post
      simpa using this
     show St.mk [(3,.loc q),(4,.loc e),(7,.int (((r.length+1:Nat):Int) - 1))] (upd (upd h q _) q (.list (List.set _ (((r.length+1:Nat):Int)).toNat (.loc y)))) n k=_
     rw [upd_upd,i2,i3,s1]
   obtain⟨re',x',mid,e1,e2⟩:=ih (.loc y) (.loc y :: post) f (by simp at hf;lia)
   refine⟨re',x',mid++[y],?_,?_⟩
   ·rw [ha] at test
    refine (while_t test body (.inl rfl)).trans (e1.trans ?_)
    rw [List.map_append,List.append_assoc];rfl
   ·rw [push_c]
    rw [if_pos ha,List.reverse_cons]
    have:=e2.app (.cons hy .nil)
    simpa using this
  ·refine⟨y :: r,x,[],?_,?_⟩
   ·rw [(Bool.not_eq_true _).mp ha] at test
    refine (while_f test).trans ?_
    rw [← lst];rfl
   ·rw [push_c]
    rw [if_neg ha,List.reverse_cons,List.reverse_cons]
    have:=(All2.cons hy hr).rev.app (.cons he .nil)
    simpa using this
end
end
section
open PySem PySem.W PyProof.Rows
section
variable {C:Nat→List AV→St→R AV}{E:Est}{k n:Nat}{h:Hp}{L:Lo}{A cl ql:Ad}{G:Hp}{Φ:Fo}{t:Nat}{i:Int}{nd:Nd}{Q:Pst AV}
theorem f1 (m:Nat){e q:Nat}{p:Int×Int}{P:Nat→Int×Int→Prop}{es:List Nat}{qs:List (Int×Int)}(hq:h q=some (entsO es))(hes:All2 P es qs)(he:P e p)(hP:∀ e p,P e p→Ent h e p)(hl:es.length≤1000)
  (hQ:∀ es',All2 P es' (qpush qs p)→Q .none L (upd h q (entsO es')) n k):Wp (callF sg (m+3) 1 [.loc q,.loc e] ⟨L,h,n,k⟩) Q E:=by
 refine c_in rfl rfl ?_
 show Wp (execs sg _ b1 ⟨[(3,.loc q),(4,.loc e)],h,n,k⟩) _ _
 obtain⟨re',x',mid,e1,e2⟩:=w1 (n:=n) (k:=k) m hq he hP hes.rev (.loc e) [] 100000 (by simp;lia)
 delta b1 at e1 ⊢
 walk_at "r"
 refine⟨_,m_append hq,?_⟩
 walk_at "r"
 refine c_append hq (by simp;lia) ?_
 refine⟨trivial,?_⟩
 walk_at "r"
 refine' bi_len ?a1 ?a2
 case a1=>exact upd_same ..
 walk_at "r"
 refine x_whl ?_
 have s1:(⟨l1 q e es.reverse.length,upd h q (.list (es.reverse.reverse.map .loc++.loc e :: [])),n,k⟩:St)=⟨[(3,.loc q),(4,.loc e),(7,.int (((es.map AV.loc++[AV.loc e]).length:Nat) - 1))],upd h q (.list (es.map .loc++[.loc e])),n,k⟩:=by
  have:((es.map AV.loc++[AV.loc e]).length:Int) - 1=(es.length:Int):=by simp
  rw [this,List.reverse_reverse,List.length_reverse]
 rw [s1] at e1
 refine .eq e1 ?_
 walk_at "r"
 refine' j_list ?b1 ?b2 ?b3
 case b1=>exact upd_same ..
 case b2=>exact⟨by lia,by simp⟩
 walk_at "r"
 have:=hQ _ (show All2 P (re'.reverse++e :: mid) (qpush qs p) from e2)
 show Q .none L (upd (upd h q _) q _) n k
 rw [upd_upd]
 have s2:(List.map AV.loc re'.reverse++x' :: (List.map AV.loc mid++[])).set ((re'.length:Int)).toNat (.loc e)=(re'.reverse++e :: mid).map .loc:=by
  have:=set_mid (re'.reverse.map AV.loc) x' (.loc e) (mid.map .loc)
  simp only [List.length_map,List.length_reverse] at this
  rw [Int.toNat_natCast,List.append_nil,this]
  simp
 rw [s2]
 exact this
theorem f4 (m:Nat){l:Nat}{as:Lo}{x:Int}(hl:h l=some (.inst 19 as))(hx:get? as 30=some (.int x)):callF sg (m+1) 4 [.loc l] ⟨L,h,n,k⟩=.ok (.int x) ⟨L,h,n,k⟩:=by
 refine Wp.fin (c_in rfl rfl ?_)
 show Wp (execs sg _ b4 ⟨[(20,.loc l)],h,n,k⟩) _ _
 delta b4
 walk_at "r"
 refine a_get hl rfl hx rfl ?_
 walk_at "r"
 exact⟨rfl,rfl⟩
theorem a_weight (m:Nat){l:Nat}{as:Lo}{x:Int}(hl:h l=some (.inst 19 as))(hx:get? as 30=some (.int x))(q:Q (.int x) L h n k):Wp (getA sg (callF sg (m+1)) (.loc l) 22 ⟨L,h,n,k⟩) Q E:=
 a_prop hl rfl (c_fn rfl rfl (.eq (f4 m hl hx) ⟨rfl,q⟩))
theorem bi_int {x:Int}(q:Q (.bool true) L h n k):Wp (callV sg C (.gl 32) [.int x,.gl 33] [] ⟨L,h,n,k⟩) Q E:=q
theorem f5 (m:Nat){l:Nat}{as:Lo}{x:Int}(hl:h l=some (.inst 19 as))(hs:as.length≤20)(hk:k≤1)(hQ:1≤x∧x≤256→Q .none L (upd h l (.inst 19 (put as 30 (.int x)))) n k)(hE:¬ (1≤x∧x≤256)→E 17 (k == 0) L h n k) :
  Wp (callF sg (m+1) 5 [.loc l,.int x] ⟨L,h,n,k⟩) Q E:=by
 refine c_in rfl rfl ?_
 show Wp (execs sg _ b5 ⟨[(20,.loc l),(31,.int x)],h,n,k⟩) _ _
 delta b5
 walk_at "r"
 refine bi_int ?_
 walk_at "r"
 refine it_s (fun w=>?_) fun w=>?_
 ·walk_at "r"
  refine it_s (fun w'=>?_) fun w'=>?_
  ·walk_at "r"
   exact⟨hk,hE fun q=>by simp [q.2] at w'⟩
  ·walk_at "r"
   refine a_set hl rfl hs ?_
   walk_at "r"
   exact hQ ⟨of_decide_eq_true w,by simpa using w'⟩
 ·walk_at "r"
  exact⟨hk,hE fun q=>by simp [q.1] at w⟩
end
end
section
open PySem PySem.W PyProof.Rows
section
variable {C:Nat→List AV→St→R AV}{E:Est}{k n:Nat}{h:Hp}{L:Lo}{A cl ql:Ad}{G:Hp}{Φ:Fo}{t:Nat}{i:Int}{nd:Nd}{Q:Pst AV}
theorem Rep.fresh (R:Rep A cl ql Φ G h n){l:Nat}(hl:n≤l):h l=none:=by
 cases q:h l with
 | none=>rfl
 | some o=>have:=R.lt _ _ q;lia
theorem Rep.gfresh (R:Rep A cl ql Φ G h n){l:Nat}(hl:n≤l):G l=none:=by
 cases q:G l with
 | none=>rfl
 | some o=>have:=R.old _ _ q;rw [R.fresh hl] at this;exact nsE this
theorem Rep.junk (R:Rep A cl ql Φ G h n)(o:AO):Rep A cl ql Φ G (upd h n o) (n+1):=
 (R.new o).sub fun l x e=>by
  rw [upd_ne]
  ·exact e
  ·rintro rfl;rw [R.gfresh (Nat.le_refl _)] at e;exact nsE e
theorem new_cls {xs:List AV}{ks:List (Nat×AV)}(w:Wp (callFn sg C 3 (.loc n :: xs) ks ⟨L,upd h n (.inst 19 []),n+1,k⟩) (fun r L h n' k=>r=.none∧Q (.loc n) L h n' k) E):Wp (callV sg C (.gl 19) xs ks ⟨L,h,n,k⟩) Q E:=by
 show Wp ((callFn sg C 3 (.loc n :: xs) ks ⟨L,upd h n (.inst 19 []),n+1,k⟩).bnd fun r s'=>if r=.none then R.ok (.loc n) s' else .bad) Q E
 exact .bnd (w.imp fun r _ _ _ _ w=>by rw [w.1];exact w.2)
theorem f3 (m:Nat){w:Int}(R:Rep A cl ql Φ G h n)(no:NoRef (Φ t) i)(hk:k≤1)
  (hQ:1≤w∧w≤256→∀ cl' ql' h' n',n < n'→Rep (updA A t i n) cl' ql' (setT Φ t (setN (Φ t) i (nd0 w))) G h' n'→Q .none L h' n' k)
  (hE:¬ (1≤w∧w≤256)→∀ h' n',Rep A cl ql Φ G h' n'→E 17 (k == 0) L h' n' k):Wp (callF sg (m+2) 3 [.loc n,.int i,.int w] ⟨L,upd h n (.inst 19 []),n+1,k⟩) Q E:=by
 refine c_in rfl rfl ?_
 show Wp (execs sg _ b3 ⟨[(20,.loc n),(21,.int i),(22,.int w)],upd h n (.inst 19 []),n+1,k⟩) _ _
 delta b3
 walk_at "r"
 refine a_set (upd_same ..) rfl (Nat.le_of_ble_eq_true rfl) ?_
 rw [upd_upd]
 walk_at "r"
 refine a_setp (upd_same ..) rfl ?_
 refine c_fn rfl rfl (f5 m (upd_same ..) (Nat.le_of_ble_eq_true rfl) hk (fun hw=>?_) fun hw=>?_)
 ·rw [upd_upd]
  walk_at "r"
  refine⟨by decide,?_⟩
  walk_at "r"
  refine a_set ((upd_ne _ _ (by (clear hw hE hQ hk;lia):n≠n+1)).trans (upd_same ..)) rfl (Nat.le_of_ble_eq_true rfl) ?_
  walk_at "r"
  refine a_set (upd_same ..) rfl (Nat.le_of_ble_eq_true rfl) ?_
  rw [upd_upd]
  walk_at "r"
  refine⟨by decide,?_⟩
  walk_at "r"
  refine a_set ((upd_ne _ _ (by (clear hw hE hQ hk;lia):n≠n+1+1)).trans (upd_same ..)) rfl (Nat.le_of_ble_eq_true rfl) ?_
  walk_at "r"
  refine a_set (upd_same ..) rfl (Nat.le_of_ble_eq_true rfl) ?_
  rw [upd_upd]
  walk_at "r"
  refine a_set (upd_same ..) rfl (Nat.le_of_ble_eq_true rfl) ?_
  rw [upd_upd]
  walk_at "r"
  refine a_set (upd_same ..) rfl (Nat.le_of_ble_eq_true rfl) ?_
  rw [upd_upd]
  walk_at "r"
  have R1:=(R.new (.inst 19 [(21,.int i),(30,.int w)])).new (.list [])
  have R2:=R1.put (l:=n) ((upd_ne _ _ (by (clear hw hE hQ hk;lia))).trans (upd_same ..)) rfl (.inst 19 [(21,.int i),(30,.int w),(24,.loc (n+1)),(25,.none)])
  have R3:=R2.new (.list [])
  have R4:=R3.put (l:=n) ((upd_ne _ _ (by (clear hw hE hQ hk;lia))).trans (upd_same ..)) rfl (.inst 19 (ats A t i (nd0 w) (n+1) (n+1+1)))
  have R5:=R4.adoptNode (c:=n+1) (q:=n+1+1) no (upd_same ..) ((upd_ne _ _ (by (clear hw hE hQ hk;lia))).trans ((upd_ne _ _ (by (clear hw hE hQ hk;lia))).trans ((upd_ne _ _ (by (clear hw hE hQ hk;lia))).trans (upd_same ..)))) ((upd_ne _ _ (by (clear hw hE hQ hk;lia))).trans (upd_same ..)) (by (clear hw hE hQ hk;lia))
  refine hQ hw _ _ _ _ (by (clear hw hE hQ hk;lia)) (R5.sub fun l o e=>?_)
  have z:l < n:=R.lt _ _ (R.old _ _ e)
  unfold drop
  rw [if_neg (by (clear hw hE hQ hk;lia)),if_neg (by (clear hw hE hQ hk;lia)),if_neg (by (clear hw hE hQ hk;lia)),upd_ne _ _ (by (clear hw hE hQ hk;lia)),upd_ne _ _ (by (clear hw hE hQ hk;lia)),upd_ne _ _ (by (clear hw hE hQ hk;lia)),upd_ne _ _ (by (clear hw hE hQ hk;lia)),upd_ne _ _ (by (clear hw hE hQ hk;lia))]
  exact e
 ·exact hE hw _ _ (R.junk _)
theorem c_stream (m:Nat){w:Int}(R:Rep A cl ql Φ G h n)(no:NoRef (Φ t) i)(hk:k≤1)
  (hQ:1≤w∧w≤256→∀ cl' ql' h' n',n < n'→Rep (updA A t i n) cl' ql' (setT Φ t (setN (Φ t) i (nd0 w))) G h' n'→Q (.loc n) L h' n' k)
  (hE:¬ (1≤w∧w≤256)→∀ h' n',Rep A cl ql Φ G h' n'→E 17 (k == 0) L h' n' k):Wp (callV sg (callF sg (m+2)) (.gl 19) [.int i,.int w] [] ⟨L,h,n,k⟩) Q E:=
 new_cls (c_fn rfl rfl (f3 m R no hk (fun a b c d e f g=>⟨rfl,hQ a b c d e f g⟩) hE))
theorem c_streamK (m:Nat){w:Int}(R:Rep A cl ql Φ G h n)(no:NoRef (Φ t) i)(hk:k≤1)
  (hQ:1≤w∧w≤256→∀ cl' ql' h' n',n < n'→Rep (updA A t i n) cl' ql' (setT Φ t (setN (Φ t) i (nd0 w))) G h' n'→Q (.loc n) L h' n' k)
  (hE:¬ (1≤w∧w≤256)→∀ h' n',Rep A cl ql Φ G h' n'→E 17 (k == 0) L h' n' k):Wp (callV sg (callF sg (m+2)) (.gl 19) [] [(21,.int i),(22,.int w)] ⟨L,h,n,k⟩) Q E:=
 new_cls (c_fn rfl rfl (f3 m R no hk (fun a b c d e f g=>⟨rfl,hQ a b c d e f g⟩) hE))
variable {T:Tr}
theorem atT (hn:T i=some nd):setT Φ t T t i=some nd:=by rw [setT_same];exact hn
theorem setT_put:setT (setT Φ t T) t (setN (setT Φ t T t) i nd)=setT Φ t (setN T i nd):=by rw [setT_setT,setT_same]
theorem Rep.upKids (R:Rep A cl ql (setT Φ t T) G h n)(hn:T i=some nd)(ks:List Int):Rep A cl ql (setT Φ t (setN T i { nd with kids:=ks })) G (upd h (cl t i) (kidsO A t ks)) n:=setT_put ▸ R.updKids (atT hn) ks
theorem Rep.upQueue (R:Rep A cl ql (setT Φ t T) G h n)(hn:T i=some nd){es:List Nat}{q:List (Int×Int)}(hes:Ents A t h es q):Rep A cl ql (setT Φ t (setN T i { nd with queue:=q })) G (upd h (ql t i) (entsO es)) n:=setT_put ▸ R.updQueue (atT hn) hes
theorem Rep.inKids (R:Rep A cl ql (setT Φ t T) G h n)(hn:T i=some nd){ks:List Int}{l:Nat}(hl:G l=some (kidsO A t ks)) :
  Rep A (updA cl t i l) ql (setT Φ t (setN T i { nd with kids:=ks })) (upd (drop G l) (cl t i) (kidsO A t nd.kids)) (upd h (A t i) (.inst 19 (ats A t i nd l (ql t i)))) n:=setT_put ▸ R.adoptKids (atT hn) hl
theorem Rep.inQueue (R:Rep A cl ql (setT Φ t T) G h n)(hn:T i=some nd){es:List Nat}{qs:List (Int×Int)}{l:Nat}(hl:G l=some (entsO es))(hes:Ents A t h es qs) :
  Rep A cl (updA ql t i l) (setT Φ t (setN T i { nd with queue:=qs })) (drop G l) (upd h (A t i) (.inst 19 (ats A t i nd (cl t i) l))) n:=setT_put ▸ R.adoptQueue (atT hn) hl hes
theorem Rep.get (R:Rep A cl ql (setT Φ t T) G h n)(hn:T i=some nd){a:Nat}{x:AV}(hm:sg.me 19 a=.data)(hx:get? (ats A t i nd (cl t i) (ql t i)) a=some x)(hp:x.plain=true)(q:Q x L h n k):Wp (getA sg C (.loc (A t i)) a ⟨L,h,n,k⟩) Q E:=
 a_get (R.node _ _ _ (atT hn)) hm hx hp q
theorem Rep.getId (R:Rep A cl ql (setT Φ t T) G h n)(hn:T i=some nd)(q:Q (.int i) L h n k):Wp (getA sg C (.loc (A t i)) 21 ⟨L,h,n,k⟩) Q E:=R.get hn rfl rfl rfl q
theorem Rep.getKids (R:Rep A cl ql (setT Φ t T) G h n)(hn:T i=some nd)(q:Q (.loc (cl t i)) L h n k):Wp (getA sg C (.loc (A t i)) 24 ⟨L,h,n,k⟩) Q E:=R.get hn rfl rfl rfl q
theorem Rep.getPar (R:Rep A cl ql (setT Φ t T) G h n)(hn:T i=some nd){p:Int}(hp:nd.par=some p)(q:Q (.loc (A t p)) L h n k):Wp (getA sg C (.loc (A t i)) 25 ⟨L,h,n,k⟩) Q E:=R.get hn rfl (show some (parV A t nd.par)=_ by rw [hp];rfl) rfl q
theorem Rep.getQ (R:Rep A cl ql (setT Φ t T) G h n)(hn:T i=some nd)(q:Q (.loc (ql t i)) L h n k):Wp (getA sg C (.loc (A t i)) 26 ⟨L,h,n,k⟩) Q E:=R.get hn rfl rfl rfl q
theorem Rep.getAct (R:Rep A cl ql (setT Φ t T) G h n)(hn:T i=some nd)(q:Q (.bool nd.act) L h n k):Wp (getA sg C (.loc (A t i)) 27 ⟨L,h,n,k⟩) Q E:=R.get hn rfl rfl rfl q
theorem Rep.getLw (R:Rep A cl ql (setT Φ t T) G h n)(hn:T i=some nd)(q:Q (.int nd.lw) L h n k):Wp (getA sg C (.loc (A t i)) 28 ⟨L,h,n,k⟩) Q E:=R.get hn rfl rfl rfl q
theorem Rep.getDf (R:Rep A cl ql (setT Φ t T) G h n)(hn:T i=some nd)(q:Q (.int nd.df) L h n k):Wp (getA sg C (.loc (A t i)) 29 ⟨L,h,n,k⟩) Q E:=R.get hn rfl rfl rfl q
theorem Rep.getW (m:Nat)(R:Rep A cl ql (setT Φ t T) G h n)(hn:T i=some nd)(q:Q (.int nd.w) L h n k):Wp (getA sg (callF sg (m+1)) (.loc (A t i)) 22 ⟨L,h,n,k⟩) Q E:=a_weight m (R.node _ _ _ (atT hn)) rfl q
theorem Rep.setPar {Q:Pst Unit}(R:Rep A cl ql (setT Φ t T) G h n)(hn:T i=some nd)(p:Int)(q:∀ h',Rep A cl ql (setT Φ t (setN T i { nd with par:=some p })) G h' n→Q () L h' n k):Wp (setA sg C (.loc (A t i)) 25 (.loc (A t p)) ⟨L,h,n,k⟩) Q E:=
 a_set (R.node _ _ _ (atT hn)) rfl (Nat.le_of_ble_eq_true rfl) (q _ (setT_put ▸ R.updNode (nd':={ nd with par:=some p }) (atT hn) rfl rfl))
theorem Rep.setAct {Q:Pst Unit}(R:Rep A cl ql (setT Φ t T) G h n)(hn:T i=some nd)(b:Bool)(q:∀ h',Rep A cl ql (setT Φ t (setN T i { nd with act:=b })) G h' n→Q () L h' n k):Wp (setA sg C (.loc (A t i)) 27 (.bool b) ⟨L,h,n,k⟩) Q E:=
 a_set (R.node _ _ _ (atT hn)) rfl (Nat.le_of_ble_eq_true rfl) (q _ (setT_put ▸ R.updNode (nd':={ nd with act:=b }) (atT hn) rfl rfl))
theorem Rep.setLw {Q:Pst Unit}(R:Rep A cl ql (setT Φ t T) G h n)(hn:T i=some nd)(x:Int)(q:∀ h',Rep A cl ql (setT Φ t (setN T i { nd with lw:=x })) G h' n→Q () L h' n k):Wp (setA sg C (.loc (A t i)) 28 (.int x) ⟨L,h,n,k⟩) Q E:=
 a_set (R.node _ _ _ (atT hn)) rfl (Nat.le_of_ble_eq_true rfl) (q _ (setT_put ▸ R.updNode (nd':={ nd with lw:=x }) (atT hn) rfl rfl))
theorem Rep.setDf {Q:Pst Unit}(R:Rep A cl ql (setT Φ t T) G h n)(hn:T i=some nd)(x:Int)(q:∀ h',Rep A cl ql (setT Φ t (setN T i { nd with df:=x })) G h' n→Q () L h' n k):Wp (setA sg C (.loc (A t i)) 29 (.int x) ⟨L,h,n,k⟩) Q E:=
 a_set (R.node _ _ _ (atT hn)) rfl (Nat.le_of_ble_eq_true rfl) (q _ (setT_put ▸ R.updNode (nd':={ nd with df:=x }) (atT hn) rfl rfl))
theorem Rep.setW {Q:Pst Unit}(m:Nat)(R:Rep A cl ql (setT Φ t T) G h n)(hn:T i=some nd)(x:Int)(hk:k≤1)(q:1≤x∧x≤256→∀ h',Rep A cl ql (setT Φ t (setN T i { nd with w:=x })) G h' n→Q () L h' n k)(e:¬ (1≤x∧x≤256)→E 17 (k == 0) L h n k) :
  Wp (setA sg (callF sg (m+1)) (.loc (A t i)) 22 (.int x) ⟨L,h,n,k⟩) Q E:=
 a_setp (R.node _ _ _ (atT hn)) rfl (c_fn rfl rfl (f5 m (R.node _ _ _ (atT hn)) (Nat.le_of_ble_eq_true rfl) hk (fun hw=>q hw _ (setT_put ▸ R.updNode (nd':={ nd with w:=x }) (atT hn) rfl rfl)) e))
theorem Rep.keyed (R:Rep A cl ql (setT Φ t T) G h n)(hn:T i≠none):Keyed h (A t i) i:=let ⟨_,e⟩:=nNone hn;⟨_,R.node _ _ _ (atT e),rfl⟩
theorem Rep.meth (R:Rep A cl ql (setT Φ t T) G h n)(hn:T i=some nd){m f:Nat}(hm:sg.me 19 m=.fn f)(hx:get? (ats A t i nd (cl t i) (ql t i)) m=none):methodOf sg (.loc (A t i)) m ⟨L,h,n,k⟩=some (.fn f):=m_inst (R.node _ _ _ (atT hn)) hm hx
theorem Rep.push (m:Nat)(R:Rep A cl ql (setT Φ t T) G h n){q e:Nat}{es:List Nat}{qs:List (Int×Int)}{lv:Int}(hq:h q=some (entsO es))(hes:Ents A t h es qs)(hi:∀ p∈qs,T p.2≠none)(he:h e=some (.tup [.int lv,.loc (A t i)]))(hn:T i≠none)(hl:qs.length≤1000)
  (hQ:∀ es',Ents A t h es' (qpush qs (lv,i))→Q .none L (upd h q (entsO es')) n k):Wp (callF sg (m+3) 1 [.loc q,.loc e] ⟨L,h,n,k⟩) Q E:=by
 have x:=ents_iff.mp hes
 have x':All2 (fun e p=>h e=some (.tup [.int p.1,.loc (A t p.2)])∧T p.2≠none) es qs:=x.mono fun _ p hp y=>⟨y,hi p hp⟩
 refine f1 m (p:=(lv,i)) hq x' ⟨he,hn⟩ (fun e p hp=>⟨_,hp.1,R.keyed hp.2⟩) (by rw [x.len];exact hl) fun es' y=>hQ _ (ents_iff.mpr (y.mono fun _ _ _ z=>z.1))
end
end
section
open PySem PySem.W PyProof.Rows
theorem setN_setN (T:Tr)(i:Int)(x y:Nd):setN (setN T i x) i y=setN T i y:=by funext j;unfold setN;split <;> rfl
noncomputable def addChild (T:Tr) (p c:Int):Tr:=match T p,T c with
 | some np,some nc=>setN (setN T c { nc with par:=some p }) p { np with kids:=np.kids++[c],queue:=qpush np.queue (np.lw,c) }
 | _,_=>T
theorem addChild_eq {T:Tr}{p c:Int}{np nc:Nd}(hp:T p=some np)(hc:T c=some nc):addChild T p c=setN (setN T c { nc with par:=some p }) p { np with kids:=np.kids++[c],queue:=qpush np.queue (np.lw,c) }:=by
 unfold addChild;rw [hp,hc]
section
variable {C:Nat→List AV→St→R AV}{E:Est}{k n:Nat}{h:Hp}{L:Lo}{A cl ql:Ad}{G:Hp}{Φ:Fo}{t:Nat}{i:Int}{nd:Nd}{T:Tr}{Q:Pst AV}
theorem setN_dom {x:Nd}{j:Int}(hj:T j≠none):setN T i x j≠none:=by
 unfold setN;split
 ·nofun
 ·exact hj
theorem f6 (m:Nat){p c:Int}{np nc:Nd}(R:Rep A cl ql (setT Φ t T) G h n)(hp:T p=some np)(hc:T c=some nc)(hpc:p≠c)(hi:∀ x∈np.queue,T x.2≠none)(hl:np.queue.length≤1000)(hlk:np.kids.length≤1000)
  (hQ:∀ h' n',Rep A cl ql (setT Φ t (addChild T p c)) G h' n'→Q .none L h' n' k):Wp (callF sg (m+4) 6 [.loc (A t p),.loc (A t c)] ⟨L,h,n,k⟩) Q E:=by
 refine c_in rfl rfl ?_
 show Wp (execs sg _ b6 ⟨[(20,.loc (A t p)),(36,.loc (A t c))],h,n,k⟩) _ _
 delta b6
 walk_at "r"
 refine R.setPar hc p fun h1 R1=>?_
 have hp1:setN T c { nc with par:=some p } p=some np:=(setN_ne _ _ hpc).trans hp
 walk_at "r"
 refine R1.getKids hp1 ?_
 refine⟨_,m_append (R1.kids _ _ _ (atT hp1)),?_⟩
 walk_at "r"
 refine c_append (R1.kids _ _ _ (atT hp1)) (by simpa using hlk) ⟨trivial,?_⟩
 have R2:=R1.upKids hp1 (np.kids++[c])
 rw [show kidsO A t (np.kids++[c])=.list (np.kids.map (fun j=>.loc (A t j))++[.loc (A t c)]) by simp] at R2
 walk_at "r"
 refine R2.getQ (setN_same ..) ?_
 walk_at "r"
 refine R2.getLw (setN_same ..) ?_
 walk_at "r"
 refine⟨Nat.le_of_ble_eq_true rfl,?_⟩
 walk_at "r"
 have R3:=R2.junk (.tup [.int np.lw,.loc (A t c)])
 refine xo1_2 (R3.queue _ _ _ (atT (setN_same ..))) fun es e1 e2=>?_
 refine c_fn rfl rfl (R3.push m e1 e2 (fun x hx=>setN_dom (setN_dom (hi x hx))) (upd_same ..) (setN_dom (by rw [setN_same];nofun)) hl fun es' e3=>⟨trivial,?_⟩)
 have R4:=R3.upQueue (setN_same ..) e3
 walk_at "r"
 refine hQ _ _ ?_
 rw [addChild_eq hp hc]
 rw [setN_setN] at R4
 exact R4
theorem forN_wp {Q:Pst Fl}{asg:AV→St→R Unit}{body:St→R Fl}{it:It}{xs:List AV}(I:Nat→Lo→Hp→Nat→Nat→Prop)
  (hI:∀ j L h n k,I j L h n k→itemAt it j ⟨L,h,n,k⟩=some xs[j]?∧k≤1)
  (step:∀ j x L h n k,xs[j]?=some x→I j L h n k→Wp (asg x ⟨L,h,n,k⟩) (fun _ L h n k=>Wp (body ⟨L,h,n,k⟩) (fun f L h n k=>match f with | .next=>I (j+1) L h n k | .cont=>I (j+1) L h n k | .brk=>Q .next L h n k | .ret v=>Q (.ret v) L h n k) E) E)
  (done:∀ L h n k,I xs.length L h n k→Q .next L h n k):∀ (fuel j:Nat),xs.length < fuel+j→j≤xs.length→∀ {L h n k},I j L h n k→Wp (forN it asg body fuel j ⟨L,h,n,k⟩) Q E:=by
 intro fuel
 induction fuel with
 | zero=>intro j h1 h2;lia
 | succ f ih=>
  intro j h1 h2 L h n k hj
  refine xo0_2 (hI _ _ _ _ _ hj) fun e1 e2=>?_
  rw [forN_s]
  rw [e1]
  cases q:xs[j]? with
  | none=>
   have:xs.length≤j:=List.getElem?_eq_none_iff.mp q
   obtain rfl:j=xs.length:=by (clear e2 h1;lia)
   show Wp (if k≤1 then _ else _) Q E
   rw [if_pos e2]
   exact done _ _ _ _ hj
  | some x=>
   have lt:j < xs.length:=(List.getElem?_eq_some_iff.mp q).1
   refine .bnd ((step _ _ _ _ _ _ q hj).imp fun _ L h n k w=>.bnd (w.imp fun fl L h n k w=>?_))
   cases fl with
   | next=>exact ih _ (by (clear lt e2 h2;lia)) lt w
   | cont=>exact ih _ (by (clear lt e2 h2;lia)) lt w
   | brk=>exact w
   | ret v=>exact w
theorem t_nm {Q:Pst Unit}{g:Sig}{i:Nat}{q:Pos}{v:AV}(w:Q () (put L i v) h n k):Wp (asgT g C (.nm i q) v ⟨L,h,n,k⟩) Q E:=w
theorem t_tup {Q:Pst Unit}{g:Sig}{i j m:Nat}{q q' q'':Pos}{l:Nat}{x y:AV}(e:h l=some (.tup [x,y]))(hk:k≤1)(w:Q () (put (put L i x) j y) h n k):Wp (asgT g C (.tup i q j q' m q'') (.loc l) ⟨L,h,n,k⟩) Q E:=by
 show Wp (atObj ⟨L,h,n,k⟩ l _) Q E
 exact .atO e (.ifp (r:=R.ok _ _) hk w)
theorem x_for {Q:Pst Fl}{g:Sig}{tg:Mine.T}{e:Mine.E}{b:Ss}{p:Pos}{s:St}(w:Wp (evalE g C e s) (fun v L h n k=>∃ it,iterOf v ⟨L,h,n,k⟩=some it∧Wp (forN it (fun x s=>asgT g C tg x s) (fun s=>execs g C b s) g.lf 0 ⟨L,h,n,k⟩) Q E) E):Wp (exec g C (.for tg e b p) s) Q E:=
 .bnd (w.imp fun v L h n k w=>by
  refine xo1_2 w fun it h1 h2=>?_;clear w
  show Wp (match iterOf v ⟨L,h,n,k⟩ with | some it=>_ | none=>_) Q E
  rw [h1]
  exact h2)
theorem it_list {l:Nat}{xs:List AV}(e:h l=some (.list xs)):iterOf (.loc l) ⟨L,h,n,k⟩=some (.list l):=by
 show (match h l with | some (.list _)=>some (It.list l) | some (.tup _)=>some (.tup l) | some (.rng n)=>some (.rng n) | _=>none)=_
 rw [e]
theorem at_list {l:Nat}{xs:List AV}{j:Nat}(e:h l=some (.list xs)):itemAt (.list l) j ⟨L,h,n,k⟩=some xs[j]?:=by
 show (match h l with | some (.list xs)=>some xs[j]? | _=>none)=_
 rw [e]
noncomputable def addExcl (T:Tr) (p c:Int):Tr:=match T p with
 | some np=>np.kids.foldl (fun T k=>addChild T c k) (addChild (setN T p { np with kids:=[],queue:=[],lw:=0 }) p c)
 | none=>T
noncomputable def Hang (T:Tr) (c:Int):List Int→Prop
 | []=>True
 | x :: r=>c≠x∧(∃ nc,T c=some nc∧(∀ y∈nc.queue,T y.2≠none)∧nc.queue.length≤1000∧nc.kids.length≤1000)∧T x≠none∧Hang (addChild T c x) c r
theorem Hang.get {T:Tr}{c:Int}{xs:List Int}(x:Hang T c xs):∀ {j:Nat}{y:Int},xs[j]?=some y→∃ nc,((xs.take j).foldl (fun T k=>addChild T c k) T) c=some nc∧(∀ z∈nc.queue,((xs.take j).foldl (fun T k=>addChild T c k) T) z.2≠none)∧nc.queue.length≤1000∧nc.kids.length≤1000∧c≠y∧((xs.take j).foldl (fun T k=>addChild T c k) T) y≠none:=by
 induction xs generalizing T with
 | nil=>intro j y e;simp at e
 | cons a r ih=>
  intro j y e
  obtain⟨h1,⟨nc,h2,h3,h4,h5⟩,h6,h7⟩:=x
  cases j with
  | zero=>simp at e;subst e;exact⟨nc,h2,h3,h4,h5,h1,h6⟩
  | succ j=>simpa using ih h7 (by simpa using e)
theorem take_succ' {α:Type}{xs:List α}{j:Nat}{x:α}(e:xs[j]?=some x):xs.take (j+1)=xs.take j++[x]:=by
 rw [List.take_add_one,e];rfl
theorem f7 (m:Nat){p c:Int}{np nc:Nd}(R:Rep A cl ql (setT Φ t T) G h n)(hk:k≤1)(hp:T p=some np)(hc:T c=some nc)(hpc:p≠c)(hlen:np.kids.length≤1000)
  (hg:Hang (addChild (setN T p { np with kids:=[],queue:=[],lw:=0 }) p c) c np.kids)
  (hQ:∀ cl' ql' h' n',Rep A cl' ql' (setT Φ t (addExcl T p c)) G h' n'→Q .none L h' n' k):Wp (callF sg (m+5) 7 [.loc (A t p),.loc (A t c)] ⟨L,h,n,k⟩) Q E:=by
 refine c_in rfl rfl ?_
 show Wp (execs sg _ b7 ⟨[(20,.loc (A t p)),(36,.loc (A t c))],h,n,k⟩) _ _
 delta b7
 walk_at "r"
 refine R.getKids hp ?_
 walk_at "r"
 refine⟨Nat.le_of_ble_eq_true rfl,?_⟩
 have R1:=R.new (.list [])
 have n1:cl t p < n:=R.lt _ _ (R.kids _ _ _ (atT hp))
 walk_at "r"
 refine a_set (R1.node _ _ _ (atT hp)) rfl (Nat.le_of_ble_eq_true rfl) ?_
 have R2:=R1.inKids (ks:=[]) hp (upd_same ..)
 walk_at "r"
 refine⟨Nat.le_of_ble_eq_true rfl,?_⟩
 have R3:=R2.new (.list [])
 walk_at "r"
 refine a_set (R3.node _ _ _ (atT (setN_same ..))) rfl (Nat.le_of_ble_eq_true rfl) ?_
 have R4:=R3.inQueue (es:=[]) (qs:=[]) (setN_same ..) (upd_same ..) trivial
 rw [setN_setN] at R4
 walk_at "r"
 refine R4.setLw (setN_same ..) 0 fun h5 R5=>?_
 rw [setN_setN] at R5
 have R6:=R5.sub (G':=upd G (cl t p) (kidsO A t np.kids)) fun l o e=>by
  have z:l < n:=by
   by_cases q:l=cl t p
   ·rw [q];exact n1
   ·rw [upd_ne _ _ q] at e;exact R.lt _ _ (R.old _ _ e)
  unfold drop
  rw [if_neg (by (clear n1 hlen hpc hk;lia)),upd_ne _ _ (by (clear n1 hlen hpc hk;lia))]
  by_cases q:l=cl t p
  ·rw [q,upd_same] at e ⊢;exact e
  ·rw [upd_ne _ _ q] at e ⊢
   rw [if_neg (by (clear q n1 hlen hpc hk;lia)),upd_ne _ _ (by (clear q n1 hlen hpc hk;lia))];exact e
 have hc5:setN T p { np with kids:=[],queue:=[],lw:=0 } c=some nc:=(setN_ne _ _ hpc.symm).trans hc
 walk_at "r"
 refine⟨_,R6.meth (setN_same ..) rfl rfl,?_⟩
 walk_at "r"
 refine c_fn rfl rfl (f6 (m+0) R6 (setN_same ..) hc5 hpc nofun (Nat.zero_le _) (Nat.zero_le _) fun h7 n7 R7=>⟨trivial,?_⟩)
 walk_at "r"
 refine x_for ?_
 walk_at "r"
 have xs_at:∀ {h':Hp} {n':Nat} {T':Tr} {cl' ql':Ad},Rep A cl' ql' (setT Φ t T') (upd G (cl t p) (kidsO A t np.kids)) h' n'→h' (cl t p)=some (kidsO A t np.kids):=fun R=>R.old _ _ (upd_same ..)
 refine⟨_,it_list (xs_at R7),?_⟩
 refine forN_wp (xs:=np.kids.map fun j=>.loc (A t j)) (fun j L h n k'=>k'=k∧get? L 36=some (.loc (A t c))∧Rep A _ _ (setT Φ t ((np.kids.take j).foldl (fun T k=>addChild T c k) (addChild (setN T p { np with kids:=[],queue:=[],lw:=0 }) p c))) (upd G (cl t p) (kidsO A t np.kids)) h n)
  (fun j L h n k' w=>⟨at_list (xs_at w.2.2),w.1 ▸ hk⟩) (fun j x L h n k' hx w=>?_) (fun L h n k' w=>?_) 100000 0 (by simp;(clear n1 hpc hk;lia)) (Nat.zero_le _) ⟨rfl,rfl,R7⟩
 ·refine xo0_3 w fun e0_ w1 w2=>?_;clear w;obtain rfl:=e0_
  obtain⟨y,hy,rfl⟩:∃ y,np.kids[j]?=some y∧x=.loc (A t y):=by
   rw [List.getElem?_map] at hx
   refine xo1_2 (Option.map_eq_some_iff.mp hx) fun y hy e=>?_
   exact⟨y,hy,e.symm⟩
  refine xo1_6 (hg.get hy) fun nc' g1 g2 g3 g4 g5 g6=>?_
  refine xo1_1 (nNone g6) fun nx g7=>?_
  have pL:∀ v,get? (put L 40 v) 36=some (.loc (A t c)):=fun v=>by rw [get_put_ne _ _ (by decide)];exact w1
  refine t_nm (xs_cons (x_expr (e_mcall (e_lv (pL _) ?_))))
  refine⟨_,w2.meth g1 rfl rfl,?_⟩
  refine es_cons (e_lv (get_put _ _ _) ?_)
  walk_at "r"
  refine c_fn rfl rfl (f6 (m+0) w2 g1 g7 g5 g2 g3 g4 fun h8 n8 R8=>⟨trivial,?_⟩)
  walk_at "r"
  refine⟨rfl,pL _,?_⟩
  rw [take_succ' hy,List.foldl_append]
  exact R8
 ·refine xo0_3 w fun e0_ w1 w2=>?_;clear w;obtain rfl:=e0_
  walk_at "r"
  have:addExcl T p c=np.kids.foldl (fun T k=>addChild T c k) (addChild (setN T p { np with kids:=[],queue:=[],lw:=0 }) p c):=by unfold addExcl;rw [hp]
  rw [List.length_map,List.take_length,← this] at w2
  refine hQ _ _ _ _ (w2.sub fun l o e=>?_)
  rw [upd_ne]
  ·exact e
  ·exact fun q=>(R.free _ _ e t p (by rw [atT hp];nofun)).2.1 q.symm
end
end
section
open PySem PySem.W PyProof.Rows
noncomputable def requeue (q:List (Int×Int)) (c:Int):List (Int×Int):=(q.filter fun x=>decide (x.2≠c)).foldl qpush []
noncomputable def cutChild (T:Tr) (p c:Int):Tr:=match T p with
 | some np=>setN T p { np with kids:=np.kids.erase c,queue:=requeue np.queue c }
 | none=>T
noncomputable def hangAll (T:Tr) (p:Int) (ks:List Int):Tr:=ks.foldl (fun T k=>addChild T p k) T
theorem pushR_len (p:Int×Int)(q:List (Int×Int)):(pushR p q).length=q.length+1:=by
 induction q with
 | nil=>rfl
 | cons y r ih=>rw [push_c];split <;> simp [ih]
theorem qpush_len (q:List (Int×Int))(p:Int×Int):(qpush q p).length=q.length+1:=by unfold qpush;rw [List.length_reverse,pushR_len,List.length_reverse]
theorem pushR_mem {p x:Int×Int}{q:List (Int×Int)}:x∈pushR p q ↔ x=p∨x∈q:=by
 induction q with
 | nil=>rw [push_n];exact⟨fun h=>.inl (List.mem_singleton.mp h),fun h=>h.elim (fun e=>List.mem_singleton.mpr e) nofun⟩
 | cons y r ih=>rw [push_c];split <;> simp [ih];exact⟨fun h=>by rcases h with h | h | h <;> simp [h],fun h=>by rcases h with h | h | h <;> simp [h]⟩
theorem qpush_mem' {p x:Int×Int}{q:List (Int×Int)}:x∈qpush q p ↔ x=p∨x∈q:=by unfold qpush;rw [List.mem_reverse,pushR_mem,List.mem_reverse]
theorem qpush_mem {p x:Int×Int}{q:List (Int×Int)}(e:x∈qpush q p):x=p∨x∈q:=qpush_mem'.mp e
section
variable {C:Nat→List AV→St→R AV}{E:Est}{k n:Nat}{h:Hp}{L:Lo}{A cl ql:Ad}{G:Hp}{Φ:Fo}{t:Nat}{i:Int}{nd:Nd}{T:Tr}{Q:Pst AV}
theorem while_wp {Q:Pst Fl}{test:St→R Bool}{body:St→R Fl}{f:Nat}{s:St}(w:Wp (test s) (fun b L h n k=>if b=true then Wp (body ⟨L,h,n,k⟩) (fun fl L h n k=>match fl with | .next=>Wp (whileN test body f ⟨L,h,n,k⟩) Q E | .cont=>Wp (whileN test body f ⟨L,h,n,k⟩) Q E | .brk=>Q .next L h n k | .ret v=>Q (.ret v) L h n k) E else Q .next L h n k) E):Wp (whileN test body (f+1) s) Q E:=
 .bnd (w.imp fun b L h n k w=>by
  cases b with
  | true=>
   rw [if_pos rfl] at w
   exact .bnd (Wp.imp w fun fl _ _ _ _ w=>by cases fl <;> exact w)
  | false=>exact w)
theorem erase_mid {α:Type}(a:List α)(x:α)(b:List α):(a++x :: b).eraseIdx a.length=a++b:=by
 rw [List.eraseIdx_append_of_length_le (Nat.le_refl _),Nat.sub_self];rfl
theorem rm_at (m:Nat)(R:Rep A cl ql (setT Φ t T) G h n){c:Int}(hc:T c≠none){l:Nat}:∀ (rest pre:List Int)(fuel:Nat),rest.length < fuel→h l=some (kidsO A t (pre++rest))→(∀ y∈rest,T y≠none)→c∈rest→Q .none L (upd h l (kidsO A t (pre++rest.erase c))) n k→
  Wp (removeAt sg (callF sg (m+1)) l (.loc (A t c)) fuel pre.length ⟨L,h,n,k⟩) Q E:=by
 intro rest
 induction rest with
 | nil=>intro pre fuel _ _ _ hm;exact nomatch hm
 | cons y r ih=>
  intro pre fuel hf hl hy hm hQ
  obtain⟨f,rfl⟩:∃ f,fuel=f+1:=⟨fuel - 1,by simp at hf;lia⟩
  have len:(pre.map fun j=>AV.loc (A t j)).length=pre.length:=by simp
  have lst:((pre++y :: r).map fun j=>AV.loc (A t j))=pre.map (fun j=>AV.loc (A t j))++.loc (A t y) :: r.map (fun j=>AV.loc (A t j)):=by simp
  have g:((pre++y :: r).map fun j=>AV.loc (A t j))[pre.length]?=some (.loc (A t y)):=by rw [lst,← len];exact get_mid _ _ _
  show Wp (atObj ⟨L,h,n,k⟩ l _) Q E
  refine .atO hl ?_
  show Wp (match ((pre++y :: r).map fun j=>AV.loc (A t j))[pre.length]? with | some y=>(eqIt sg (callF sg (m+1)) y (.loc (A t c)) ⟨L,h,n,k⟩).bnd fun t s=>if t then cutAt l pre.length s else removeAt sg (callF sg (m+1)) l _ f (pre.length+1) s | none=>.bad) Q E
  rw [g]
  show Wp (Mine.R.bnd (if A t y=A t c then Mine.R.ok true _ else _) _) Q E
  by_cases q:y=c
  ·subst q
   rw [if_pos rfl]
   rw [List.erase_cons_head] at hQ
   have:((pre++y :: r).map fun j=>AV.loc (A t j)).eraseIdx pre.length=(pre++r).map fun j=>AV.loc (A t j):=by
    rw [lst,← len,erase_mid];simp
   refine .atO hl ?_
   show Q .none L (upd h l (.list (((pre++y :: r).map fun j=>AV.loc (A t j)).eraseIdx pre.length))) n k
   rw [this]
   exact hQ
  ·have ny:=hy y (.head _)
   rw [if_neg fun w=>q (R.aa _ _ _ _ (by rw [setT_same];exact ny) (by rw [setT_same];exact hc) w).2]
   refine .bnd (k_eqS m (R.keyed ny) (R.keyed hc) ?_)
   rw [decide_eq_false q]
   have e1:(y :: r).erase c=y :: r.erase c:=List.erase_cons_tail (by simpa using q)
   have:=ih (pre++[y]) f (by simp at hf;(clear q len;lia)) (by rw [List.append_assoc];exact hl) (fun z hz=>hy z (.tail _ hz)) (by
    rcases List.mem_cons.mp hm with w | w
    ·exact (q w.symm).elim
    ·exact w) (by rw [List.append_assoc];rw [e1] at hQ;exact hQ)
   rw [List.length_append] at this
   exact this
structure F8 (A:Ad) (t:Nat) (p c:Int) (b:Bool) (nq:Nat) (L:Lo):Prop where
 l20:get? L 20=some (.loc (A t p))
 l36:get? L 36=some (.loc (A t c))
 l41:get? L 41=some (.bool b)
 l44:get? L 44=some (.loc nq)
theorem F8.put {p c:Int}{b:Bool}{nq:Nat}(x:F8 A t p c b nq L){j:Nat}(v:AV)(h1:j≠20)(h2:j≠36)(h3:j≠41)(h4:j≠44):F8 A t p c b nq (put L j v):=
 ⟨by rw [get_put_ne _ _ h1.symm];exact x.l20,by rw [get_put_ne _ _ h2.symm];exact x.l36,by rw [get_put_ne _ _ h3.symm];exact x.l41,by rw [get_put_ne _ _ h4.symm];exact x.l44⟩
theorem w8 (m:Nat){p c:Int}{b:Bool}{nq:Nat}{np:Nd}{Q:Pst Fl}(hk:k≤1)(hc:T c≠none)(hG:G nq=none)
  : ∀ (qs:List (Int×Int)) (fuel:Nat) (acc:List (Int×Int)) (es:List Nat) (L:Lo) (h:Hp) (n:Nat),qs.length < fuel→qs.length+acc.length≤1000→(∀ x∈qs,T x.2≠none)→(∀ x∈acc,T x.2≠none)→F8 A t p c b nq L→
   Rep A cl ql (setT Φ t (setN T p { np with queue:=qs })) (upd G nq (entsO es)) h n→Ents A t h es acc→
   (∀ L h n es,F8 A t p c b nq L→Rep A cl ql (setT Φ t (setN T p { np with queue:=[] })) (upd G nq (entsO es)) h n→Ents A t h es ((qs.filter fun x=>decide (x.2≠c)).foldl qpush acc)→Q .next L h n k)→
   Wp (whileN (fun s=>evalT sg (callF sg (m+4)) (b8.at 2).tst s) (fun s=>execs sg (callF sg (m+4)) (b8.at 2).bdy s) fuel ⟨L,h,n,k⟩) Q E:=by
 intro qs
 induction qs with
 | nil=>
  intro fuel acc es L h n hf hlen hq hacc FL R he hQ
  obtain⟨f,rfl⟩:∃ f,fuel=f+1:=⟨fuel - 1,by simp at hf;(clear hlen hk;lia)⟩
  refine while_wp (e_test ?_)
  refine xo1_2 (R.queue _ _ _ (atT (setN_same ..))) fun ql1 q1 q2=>?_
  obtain rfl:ql1=[]:=by cases ql1 with | nil=>rfl | cons _ _=>exact q2.elim
  have l20:=FL.l20
  delta b8
  dsimp only [Ss.at,S.tst]
  walk_at "r"
  refine R.getQ (setN_same ..) ?_
  refine t_list q1 ?_
  walk_at "r"
  exact hQ _ _ _ _ FL R he
 | cons x qs ih=>
  intro fuel acc es L h n hf hlen hq hacc FL R he hQ
  obtain⟨f,rfl⟩:∃ f,fuel=f+1:=⟨fuel - 1,by simp at hf;(clear hlen hk;lia)⟩
  refine while_wp (e_test ?_)
  refine xo1_2 (R.queue _ _ _ (atT (setN_same ..))) fun ql1 q1 q2=>?_
  obtain⟨lv,i⟩:=x
  cases ql1 with
  | nil=>exact q2.elim
  | cons e ql1=>
   revert q2;refine fun z_=>xo0_2 z_ fun q2 q3=>?_;clear z_
   have l20:=FL.l20
   have ni:T i≠none:=hq (lv,i) (.head _)
   have lt1:ql t p < n:=R.lt _ _ q1
   have R1:=R.upQueue (setN_same ..) q3
   rw [setN_setN] at R1
   have q4:upd h (ql t p) (entsO ql1) e=some (.tup [.int lv,.loc (A t i)]):=by
    rw [upd_ne _ _ fun w=>by rw [w,q1] at q2;cases q2];exact q2
   have he1:Ents A t (upd h (ql t p) (entsO ql1)) es acc:=he.keep (keepTup q1 rfl _)
   delta b8
   dsimp only [Ss.at,S.tst,S.bdy]
   walk_at "r"
   refine R.getQ (setN_same ..) ?_
   refine t_list q1 ?_
   walk_at "r"
   refine R.getQ (setN_same ..) ?_
   walk_at "r"
   refine c_fn rfl rfl (.eq (f2 (m+3) q1) ?_)
   refine⟨_,_,_,rfl,q4,hk,?_⟩
   have FL2:=(FL.put (j:=45) (.int lv) (by decide) (by decide) (by decide) (by decide)).put (j:=46) (.loc (A t i)) (by decide) (by decide) (by decide) (by decide)
   have l46:get? (put (put L 45 (.int lv)) 46 (.loc (A t i))) 46=some (.loc (A t i)):=get_put _ _ _
   have l45:get? (put (put L 45 (.int lv)) 46 (.loc (A t i))) 45=some (.int lv):=by rw [get_put_ne _ _ (by decide)];exact get_put _ _ _
   have l36:=FL2.l36
   have l44:=FL2.l44
   have d:∀ {j:Int},T j≠none→setN T p { np with queue:=qs } j≠none:=setN_dom
   walk_at "r"
   show Wp (eqv sg (callF sg (m+3+1)) (.loc (A t i)) (.loc (A t c)) _) _ _
   refine k_eqS (m+3) (R1.keyed (d ni)) (R1.keyed (d hc)) ?_
   walk_at "r"
   refine it_s (fun w=>?_) fun w=>?_
   ·have w:=of_decide_eq_true w
    walk_at "r"
    refine ih f acc es _ _ _ (by simp at hf;(clear w lt1 hlen hk;lia)) (by simp at hlen;(clear w lt1 hf hk;lia)) (fun x hx=>hq x (.tail _ hx)) hacc FL2 R1 he1 fun L h n es a1 a2 a3=>hQ L h n es a1 a2 ?_
    rw [List.filter_cons_of_neg (by simpa using w)]
    exact a3
   ·have w:=of_decide_eq_false w
    walk_at "r"
    refine⟨Nat.le_of_ble_eq_true rfl,?_⟩
    walk_at "r"
    have R2:=R1.junk (.tup [.int lv,.loc (A t i)])
    have z:nq≠n:=fun w=>by have:=R1.lt nq _ (R1.old _ _ (upd_same ..));(clear lt1 hf hlen hk;lia)
    have fr:upd h (ql t p) (entsO ql1) n=none:=R1.fresh (Nat.le_refl _)
    have kp:∀ b x,upd h (ql t p) (entsO ql1) b=some x→upd (upd h (ql t p) (entsO ql1)) n (.tup [.int lv,.loc (A t i)]) b=some x:=fun b x e=>by
     rw [upd_ne _ _ fun w=>by rw [w,fr] at e;cases e];exact e
    refine c_fn rfl rfl (R2.push (m+1) (R2.old _ _ (upd_same ..)) (he1.keep fun _ _=>kp _ _) (fun x hx=>d (hacc x hx)) (upd_same ..) (d ni) (by simp at hlen;(clear z w lt1 hf hk;lia)) fun es' e3=>⟨trivial,?_⟩)
    have R3:=R2.put (l:=nq) (upd_same ..) rfl (entsO es')
    rw [upd_upd] at R3
    have e4:Ents A t (upd (upd (upd h (ql t p) (entsO ql1)) n (.tup [.int lv,.loc (A t i)])) nq (entsO es')) es' (qpush acc (lv,i)):=e3.keep (keepTup (R2.old _ _ (upd_same ..)) rfl _)
    walk_at "r"
    refine ih f (qpush acc (lv,i)) es' _ _ _ (by simp at hf;(clear z w lt1 hlen hk;lia)) (by rw [qpush_len];simp at hlen;(clear z w lt1 hf hk;lia)) (fun x hx=>hq x (.tail _ hx)) (fun x hx=>?_) FL2 R3 e4 fun L h n es a1 a2 a3=>hQ L h n es a1 a2 ?_
    ·rcases qpush_mem hx with rfl | hx
     ·exact ni
     ·exact hacc x hx
    ·rw [List.filter_cons_of_pos (by simpa using w)]
     exact a3
end
end
section
open PySem PySem.W PyProof.Rows
noncomputable def rmChild (T:Tr) (p c:Int) (b:Bool):Tr:=if b=true then (match T c with | some nc=>hangAll (cutChild T p c) p nc.kids | none=>T) else cutChild T p c
section
variable {C:Nat→List AV→St→R AV}{E:Est}{k n:Nat}{h:Hp}{L:Lo}{A cl ql:Ad}{G:Hp}{Φ:Fo}{t:Nat}{i:Int}{nd:Nd}{T:Tr}{Q:Pst AV}
theorem addChild_at {p c j:Int}(hj:j≠p):(addChild T p c j).map (·.kids)=(T j).map (·.kids):=by
 cases h1:T p with
 | none=>unfold addChild;rw [h1]
 | some np=>
  cases h2:T c with
  | none=>unfold addChild;rw [h1,h2]
  | some nc=>
   rw [addChild_eq h1 h2,setN_ne _ _ hj]
   by_cases q:j=c
   ·subst q;rw [setN_same,h2];rfl
   ·rw [setN_ne _ _ q]
theorem hangAll_at {p j:Int}(hj:j≠p)(ks:List Int):(hangAll T p ks j).map (·.kids)=(T j).map (·.kids):=by
 unfold hangAll
 induction ks generalizing T with
 | nil=>rfl
 | cons x r ih=>exact (ih (T:=addChild T p x)).trans (addChild_at hj)
theorem f8 (m:Nat){p c:Int}{np nc:Nd}{b:Bool}(R:Rep A cl ql (setT Φ t T) G h n)(hk:k≤1)(hp:T p=some np)(hc:T c=some nc)(hpc:p≠c)(hm:c∈np.kids)(hy:∀ y∈np.kids,T y≠none)(hq:∀ x∈np.queue,T x.2≠none)
  (hl1:np.kids.length≤1000) (hl2:np.queue.length≤1000) (hb:b=true→Hang (cutChild T p c) p nc.kids∧nc.kids.length≤1000)
  (hQ:∀ ql' h' n',Rep A cl ql' (setT Φ t (rmChild T p c b)) G h' n'→Q .none L h' n' k):Wp (callF sg (m+5) 8 [.loc (A t p),.loc (A t c),.bool b] ⟨L,h,n,k⟩) Q E:=by
 refine c_in rfl rfl ?_
 show Wp (execs sg _ b8 ⟨[(20,.loc (A t p)),(36,.loc (A t c)),(41,.bool b)],h,n,k⟩) _ _
 delta b8
 walk_at "r"
 refine R.getKids hp ?_
 have hcl:=R.kids _ _ _ (atT hp)
 refine⟨_,m_remove hcl,?_⟩
 walk_at "r"
 have nc0:T c≠none:=by rw [hc];nofun
 refine c_remove hcl ?_
 refine rm_at (m+3) R nc0 np.kids [] _ (by simp) hcl hy hm ⟨trivial,?_⟩
 rw [List.nil_append]
 have R1:=R.upKids hp (np.kids.erase c)
 have d1:∀ {j:Int} {x:Nd},T j≠none→setN T p x j≠none:=setN_dom
 walk_at "r"
 refine⟨Nat.le_of_ble_eq_true rfl,?_⟩
 have R2:=R1.new (.list [])
 have eG:upd G n (.list [])=upd (drop G n) n (entsO []):=by
  funext x;unfold upd drop;split <;> rename_i q
  ·rfl
  ·rfl
 rw [eG] at R2
 walk_at "r"
 refine x_whl ?_
 have F0:F8 A t p c b n (put [(20,.loc (A t p)),(36,.loc (A t c)),(41,.bool b)] 44 (.loc n)):=⟨rfl,rfl,rfl,rfl⟩
 refine w8 (cl:=cl) (ql:=ql) (Φ:=Φ) (G:=drop G n) (np:={ np with kids:=np.kids.erase c }) m hk nc0 (by unfold drop;exact if_pos rfl) np.queue 100000 [] [] _ _ _ (by (clear hb hl1 hpc hk;lia)) (by simpa using hl2) hq nofun F0 ?_ trivial fun L' h' n' es FL R3 e3=>?_
 ·have:setN T p { np with kids:=np.kids.erase c }=setN T p { { np with kids:=np.kids.erase c } with queue:=np.queue }:=rfl
  exact R2
 have l20:=FL.l20
 have l36:=FL.l36
 have l41:=FL.l41
 have l44:=FL.l44
 walk_at "r"
 refine a_set (R3.node _ _ _ (atT (setN_same ..))) rfl (Nat.le_of_ble_eq_true rfl) ?_
 have R4:=R3.inQueue (setN_same ..) (upd_same ..) e3
 rw [setN_setN] at R4
 have eT:setN T p { np with kids:=np.kids.erase c,queue:=(np.queue.filter fun x=>decide (x.2≠c)).foldl qpush [] }=cutChild T p c:=by unfold cutChild requeue;rw [hp]
 have R5:Rep A cl (updA ql t p n) (setT Φ t (cutChild T p c)) G _ n':=(eT ▸ R4).sub fun l o e=>by
  have z:l < n:=R.lt _ _ (R.old _ _ e)
  unfold drop
  rw [if_neg (by (clear hb hl2 hl1 hpc hk;lia)),upd_ne _ _ (by (clear hb hl2 hl1 hpc hk;lia))]
  rw [if_neg (by (clear hb hl2 hl1 hpc hk;lia))];exact e
 walk_at "r"
 refine it_s (fun w=>?_) fun w=>?_
 ·subst w
  refine xo0_2 (hb rfl) fun hg hl3=>?_
  have kc:∀ ks,∃ nx,hangAll (cutChild T p c) p ks c=some nx∧nx.kids=nc.kids:=fun ks=>by
   have h1:=hangAll_at (T:=cutChild T p c) hpc.symm ks
   have h2:cutChild T p c c=some nc:=by rw [← eT];exact (setN_ne _ _ hpc.symm).trans hc
   rw [h2] at h1
   cases q:hangAll (cutChild T p c) p ks c with
   | none=>rw [q] at h1;exact nsE h1
   | some nx=>rw [q] at h1;exact⟨nx,rfl,Option.some.inj h1⟩
  refine xo1_2 (kc []) fun n0 k1 k2=>?_
  walk_at "r"
  refine x_for ?_
  walk_at "r"
  refine R5.getKids k1 ?_
  have xs_at:∀ {h':Hp} {n':Nat} {ks:List Int},Rep A cl (updA ql t p n) (setT Φ t (hangAll (cutChild T p c) p ks)) G h' n'→h' (cl t c)=some (kidsO A t nc.kids):=fun {h' n' ks} R=>by
   refine xo1_2 (kc ks) fun nx k1 k2=>?_
   rw [← k2]
   exact R.kids _ _ _ (atT k1)
  refine⟨_,it_list (xs_at (ks:=[]) R5),?_⟩
  refine forN_wp (xs:=nc.kids.map fun j=>.loc (A t j)) (fun j L h n1 k'=>k'=k∧get? L 20=some (.loc (A t p))∧Rep A cl (updA ql t p n) (setT Φ t (hangAll (cutChild T p c) p (nc.kids.take j))) G h n1)
   (fun j L h n k' w=>⟨at_list (xs_at w.2.2),w.1 ▸ hk⟩) (fun j x L h n k' hx w=>?_) (fun L h n k' w=>?_) 100000 0 (by simp;(clear hb hl2 hl1 hpc hk;lia)) (Nat.zero_le _) ⟨rfl,l20,R5⟩
  ·refine xo0_3 w fun e0_ w1 w2=>?_;clear w;obtain rfl:=e0_
   obtain⟨y,hy,rfl⟩:∃ y,nc.kids[j]?=some y∧x=.loc (A t y):=by
    rw [List.getElem?_map] at hx
    refine xo1_2 (Option.map_eq_some_iff.mp hx) fun y hy e=>?_
    exact⟨y,hy,e.symm⟩
   refine xo1_6 (hg.get hy) fun nc' g1 g2 g3 g4 g5 g6=>?_
   refine xo1_1 (nNone g6) fun nx g7=>?_
   have pL:get? (put L 47 (.loc (A t y))) 20=some (.loc (A t p)):=by rw [get_put_ne _ _ (by decide)];exact w1
   have pL2:get? (put L 47 (.loc (A t y))) 47=some (.loc (A t y)):=get_put _ _ _
   refine t_nm ?_
   walk_at "r"
   refine⟨_,w2.meth g1 rfl rfl,?_⟩
   walk_at "r"
   refine c_fn rfl rfl (f6 (m+0) w2 g1 g7 g5 g2 g3 g4 fun h8 n8 R8=>⟨trivial,?_⟩)
   walk_at "r"
   refine⟨rfl,pL,?_⟩
   rw [take_succ' hy]
   unfold hangAll
   rw [List.foldl_append]
   exact R8
  ·refine xo0_3 w fun e0_ w1 w2=>?_;clear w;obtain rfl:=e0_
   walk_at "r"
   have:rmChild T p c true=hangAll (cutChild T p c) p nc.kids:=by unfold rmChild;rw [if_pos rfl,hc]
   rw [List.length_map,List.take_length,← this] at w2
   exact hQ _ _ _ w2
 ·subst w
  walk_at "r"
  exact hQ _ _ _ R5
end
end
section
open PySem
noncomputable def turn1 (T:Tr) (i:Int) (x:Int×Int):Tr:=match T i,T x.2 with
 | some ni,some nc=>setN (setN T x.2 { nc with df:=Int.fmod (256+nc.df) nc.w }) i { ni with lw:=x.1,queue:=qpush ni.queue (x.1+Int.fdiv (256+nc.df) nc.w,x.2) }
 | _,_=>T
noncomputable def spent (T:Tr) (i:Int) (xs:List (Int×Int)):Tr:=xs.foldl (fun T x=>turn1 T i x) T
noncomputable def seek (sub:Tr→Int→Tr×Option Int) (i:Int):List (Int×Int)→Tr→List (Int×Int)→Tr×List (Int×Int)×Option Int
 | [],T,acc=>(T,acc,none)
 | x :: r,T,acc=>match T i,T x.2 with
  | some ni,some nc=>
   if nc.act=true then (setN T i { ni with queue:=r },acc++[x],some x.2)
   else match sub (setN T i { ni with queue:=r }) x.2 with
    | (T2,some y)=>(T2,acc++[x],some y)
    | (T2,none)=>seek sub i r T2 (acc++[x])
  | _,_=>(T,acc,none)
noncomputable def sched:Nat→Tr→Int→Tr×Option Int
 | 0,T,_=>(T,none)
 | d+1,T,i=>match T i with
  | some ni=>(spent (seek (sched d) i ni.queue T []).1 i (seek (sched d) i ni.queue T []).2.1,(seek (sched d) i ni.queue T []).2.2)
  | none=>(T,none)
theorem turn1_eq {T:Tr}{i:Int}{x:Int×Int}{ni nc:Nd}(h1:T i=some ni)(h2:T x.2=some nc):turn1 T i x=setN (setN T x.2 { nc with df:=Int.fmod (256+nc.df) nc.w }) i { ni with lw:=x.1,queue:=qpush ni.queue (x.1+Int.fdiv (256+nc.df) nc.w,x.2) }:=by
 unfold turn1;rw [h1,h2]
theorem seek_n {sub:Tr→Int→Tr×Option Int}{i:Int}{acc:List (Int×Int)}{T:Tr}:seek sub i [] T acc=(T,acc,none):=rfl
theorem seek_c {sub:Tr→Int→Tr×Option Int}{i:Int}{x:Int×Int}{r acc:List (Int×Int)}{T:Tr}:seek sub i (x :: r) T acc=(match T i,T x.2 with
  | some ni,some nc=>
   if nc.act=true then (setN T i { ni with queue:=r },acc++[x],some x.2)
   else match sub (setN T i { ni with queue:=r }) x.2 with
    | (T2,some y)=>(T2,acc++[x],some y)
    | (T2,none)=>seek sub i r T2 (acc++[x])
  | _,_=>(T,acc,none)):=rfl
theorem sched_c {d:Nat}{T:Tr}{i:Int}:sched (d+1) T i=(match T i with
  | some ni=>(spent (seek (sched d) i ni.queue T []).1 i (seek (sched d) i ni.queue T []).2.1,(seek (sched d) i ni.queue T []).2.2)
  | none=>(T,none)):=rfl
theorem seek_act {sub:Tr→Int→Tr×Option Int}{i:Int}{x:Int×Int}{r acc:List (Int×Int)}{T:Tr}{ni nc:Nd}(h1:T i=some ni)(h2:T x.2=some nc)(h3:nc.act=true):seek sub i (x :: r) T acc=(setN T i { ni with queue:=r },acc++[x],some x.2):=by
 rw [seek_c,h1,h2];exact if_pos h3
theorem seek_sub {sub:Tr→Int→Tr×Option Int}{i:Int}{x:Int×Int}{r acc:List (Int×Int)}{T:Tr}{ni nc:Nd}(h1:T i=some ni)(h2:T x.2=some nc)(h3:nc.act=false):seek sub i (x :: r) T acc=
  (match sub (setN T i { ni with queue:=r }) x.2 with | (T2,some y)=>(T2,acc++[x],some y) | (T2,none)=>seek sub i r T2 (acc++[x])):=by
 rw [seek_c,h1,h2];exact if_neg (by rw [h3];nofun)
theorem sched_eq {d:Nat}{T:Tr}{i:Int}{ni:Nd}(h:T i=some ni):sched (d+1) T i=(spent (seek (sched d) i ni.queue T []).1 i (seek (sched d) i ni.queue T []).2.1,(seek (sched d) i ni.queue T []).2.2):=by
 rw [sched_c,h]
structure WS (T:Tr) (rk:Int→Nat):Prop where
 w:∀ j nd,T j=some nd→1≤nd.w∧nd.w≤256
 len:∀ j nd,T j=some nd→nd.queue.length≤900
 q:∀ j nd,T j=some nd→∀ x∈nd.queue,T x.2≠none∧rk x.2 < rk j
structure Like (a b:Nd):Prop where
 w:b.w=a.w
 act:b.act=a.act
 par:b.par=a.par
 kids:b.kids=a.kids
 queue:(b.queue.map (·.2)).Perm (a.queue.map (·.2))
theorem Like.refl (a:Nd):Like a a:=⟨rfl,rfl,rfl,rfl,.refl _⟩
theorem Like.trans {a b c:Nd}(x:Like a b)(y:Like b c):Like a c:=⟨y.w.trans x.w,y.act.trans x.act,y.par.trans x.par,y.kids.trans x.kids,y.queue.trans x.queue⟩
noncomputable def OLike (a b:Option Nd):Prop:=(a=none∧b=none)∨∃ x y,a=some x∧b=some y∧Like x y
theorem OLike.refl (a:Option Nd):OLike a a:=by
 cases a with
 | none=>exact .inl ⟨rfl,rfl⟩
 | some x=>exact .inr ⟨x,x,rfl,rfl,.refl x⟩
theorem OLike.trans {a b c:Option Nd}(x:OLike a b)(y:OLike b c):OLike a c:=by
 rcases x with⟨rfl,rfl⟩ | ⟨u,v,rfl,rfl,x⟩
 ·exact y
 ·rcases y with⟨h,_⟩ | ⟨u',v',h,rfl,y⟩
  ·exact snE h
  ·cases h;exact .inr ⟨_,_,rfl,rfl,x.trans y⟩
theorem OLike.get {a b:Option Nd}(x:OLike a b){u:Nd}(e:a=some u):∃ v,b=some v∧Like u v:=by
 rcases x with⟨rfl,_⟩ | ⟨x,y,rfl,rfl,z⟩
 ·exact nsE e
 ·cases e;exact⟨_,rfl,z⟩
theorem OLike.back {a b:Option Nd}(x:OLike a b){v:Nd}(e:b=some v):∃ u,a=some u∧Like u v:=by
 rcases x with⟨_,rfl⟩ | ⟨x,y,rfl,rfl,z⟩
 ·exact nsE e
 ·cases e;exact⟨_,rfl,z⟩
theorem OLike.none {a b:Option Nd}(x:OLike a b):a=none ↔ b=none:=by
 rcases x with⟨rfl,rfl⟩ | ⟨x,y,rfl,rfl,z⟩ <;> simp
theorem perm_qpush (q:List (Int×Int))(p:Int×Int):(qpush q p).Perm (p :: q):=by
 have:∀ l:List (Int×Int),(pushR p l).Perm (p :: l):=fun l=>by
  induction l with
  | nil=>exact .refl _
  | cons y r ih=>
   rw [push_c]
   split
   ·exact (ih.cons y).trans (.swap p y r)
   ·exact .refl _
 unfold qpush
 exact (List.reverse_perm _).trans ((this _).trans ((List.reverse_perm q).cons p))
theorem WS.alike {T T':Tr}{rk:Int→Nat}(x:WS T rk)(i:Int)(h:∀ j,j≠i→OLike (T j) (T' j)){ni:Nd}(hi:T i=some ni){ni':Nd}(hi':T' i=some ni')(hw:ni'.w=ni.w)(hl:ni'.queue.length≤900)(hq:∀ y∈ni'.queue,T y.2≠none∧rk y.2 < rk i):WS T' rk:=by
 have nn:∀ j,T j≠none→T' j≠none:=fun j hj=>by
  by_cases q:j=i
  ·subst q;rw [hi'];nofun
  ·exact fun w=>hj ((h j q).none.mpr w)
 refine⟨fun j nd e=>?_,fun j nd e=>?_,fun j nd e y hy=>?_⟩
 ·by_cases q:j=i
  ·subst q;rw [hi'] at e;cases e;rw [hw];exact x.w _ _ hi
  ·refine xo1_2 ((h j q).back e) fun u e1 e2=>?_
   rw [e2.w];exact x.w _ _ e1
 ·by_cases q:j=i
  ·subst q;rw [hi'] at e;cases e;exact hl
  ·refine xo1_2 ((h j q).back e) fun u e1 e2=>?_
   have:=e2.queue.length_eq
   rw [List.length_map,List.length_map] at this
   rw [this];exact x.len _ _ e1
 ·by_cases q:j=i
  ·subst q;rw [hi'] at e;cases e;exact⟨nn _ (hq y hy).1,(hq y hy).2⟩
  ·refine xo1_2 ((h j q).back e) fun u e1 e2=>?_
   have:y.2∈u.queue.map (·.2):=e2.queue.mem_iff.mp (List.mem_map.mpr ⟨y,hy,rfl⟩)
   refine xo1_2 (List.mem_map.mp this) fun z hz ez=>?_
   have:=x.q _ _ e1 z hz
   rw [ez] at this
   exact⟨nn _ this.1,this.2⟩
theorem WS.all {T T':Tr}{rk:Int→Nat}(x:WS T rk)(h:∀ j,OLike (T j) (T' j)):WS T' rk:=by
 refine⟨fun j nd e=>?_,fun j nd e=>?_,fun j nd e y hy=>?_⟩
 ·obtain⟨u,e1,e2⟩:=(h j).back e;rw [e2.w];exact x.w _ _ e1
 ·refine xo1_2 ((h j).back e) fun u e1 e2=>?_
  have:=e2.queue.length_eq
  rw [List.length_map,List.length_map] at this
  rw [this];exact x.len _ _ e1
 ·refine xo1_2 ((h j).back e) fun u e1 e2=>?_
  have:y.2∈u.queue.map (·.2):=e2.queue.mem_iff.mp (List.mem_map.mpr ⟨y,hy,rfl⟩)
  refine xo1_2 (List.mem_map.mp this) fun z hz ez=>?_
  have:=x.q _ _ e1 z hz
  rw [ez] at this
  exact⟨fun w=>this.1 ((h _).none.mpr w),this.2⟩
noncomputable def Closed (T:Tr) (S:Int→Prop):Prop:=∀ j nd,S j→T j=some nd→∀ x∈nd.queue,S x.2
structure Turned (T:Tr) (i:Int) (T':Tr):Prop where
 like:∀ j,OLike (T j) (T' j)
 frame:∀ S,Closed T S→S i→∀ j,¬ S j→T' j=T j
theorem spent_ok {T:Tr}{i:Int}{rk:Int→Nat}:∀ (xs:List (Int×Int))(T:Tr)(ni:Nd),T i=some ni→(∀ x∈xs,T x.2≠none∧x.2≠i)→(∃ ni',spent T i xs i=some ni'∧ni'.w=ni.w∧ni'.act=ni.act∧ni'.par=ni.par∧ni'.kids=ni.kids∧(ni'.queue.map (·.2)).Perm (xs.map (·.2)++ni.queue.map (·.2)))∧
  (∀ j,j≠i→OLike (T j) (spent T i xs j))∧(∀ j,j≠i→j ∉ xs.map (·.2)→spent T i xs j=T j):=by
 intro xs
 induction xs with
 | nil=>intro T ni h _;exact⟨⟨ni,h,rfl,rfl,rfl,rfl,.refl _⟩,fun j _=>.refl _,fun j _ _=>rfl⟩
 | cons x r ih=>
  intro T ni h hx
  refine xo0_2 (hx x (.head _)) fun h1 h2=>?_
  refine xo1_1 (nNone h1) fun nc hc=>?_
  have e:=turn1_eq h hc
  have a1:turn1 T i x i=some { ni with lw:=x.1,queue:=qpush ni.queue (x.1+Int.fdiv (256+nc.df) nc.w,x.2) }:=by rw [e];exact setN_same ..
  have a2:∀ j,j≠i→OLike (T j) (turn1 T i x j):=fun j hj=>by
   rw [e,setN_ne _ _ hj]
   by_cases q:j=x.2
   ·subst q;rw [setN_same,hc];exact .inr ⟨_,_,rfl,rfl,rfl,rfl,rfl,rfl,.refl _⟩
   ·rw [setN_ne _ _ q];exact .refl _
  have a3:∀ j,j≠i→j≠x.2→turn1 T i x j=T j:=fun j hj hx=>by rw [e,setN_ne _ _ hj,setN_ne _ _ hx]
  obtain⟨⟨ni',b1,b2,b3,b4,b5,b6⟩,b7,b8⟩:=ih (turn1 T i x) _ a1 (fun y hy=>by
   refine xo0_2 (hx y (.tail _ hy)) fun z1 z2=>?_
   exact⟨fun w=>z1 ((a2 _ z2).none.mpr w),z2⟩)
  refine⟨⟨ni',b1,b2,b3,b4,b5,b6.trans ?_⟩,fun j hj=>(a2 j hj).trans (b7 j hj),fun j hj hm=>?_⟩
  ·refine (((perm_qpush _ _).map _).append_left _).trans ?_
   rw [List.map_cons,List.map_cons]
   exact List.perm_middle
  ·rw [List.map_cons,List.mem_cons,not_or] at hm
   exact (b8 j hj hm.2).trans (a3 j hj hm.1)
theorem seek_ok {i:Int}{rk:Int→Nat}{sub:Tr→Int→Tr×Option Int}(hs:∀ T c,WS T rk→rk c < rk i→T c≠none→Turned T c (sub T c).1):∀ (q:List (Int×Int))(T:Tr)(acc:List (Int×Int))(ni:Nd),WS T rk→T i=some ni→ni.queue=q→
  ∃ took rest,q=took++rest∧(seek sub i q T acc).2.1=acc++took∧(seek sub i q T acc).1 i=some { ni with queue:=rest }∧(∀ j,j≠i→OLike (T j) ((seek sub i q T acc).1 j))∧(∀ S,Closed T S→S i→∀ j,¬ S j→(seek sub i q T acc).1 j=T j):=by
 intro q
 induction q with
 | nil=>intro T acc ni W h e;refine⟨[],[],rfl,by rw [seek_n,List.append_nil],?_,fun j _=>.refl _,fun S _ _ j _=>rfl⟩;rw [seek_n,← e];exact h
 | cons x r ih=>
  intro T acc ni W h e
  obtain⟨h1,h2⟩:=W.q _ _ h x (by rw [e];exact .head _)
  refine xo1_1 (nNone h1) fun nc hc=>?_
  have ne:x.2≠i:=fun w=>by rw [w] at h2;lia
  have o1:∀ j,j≠i→OLike (T j) (setN T i { ni with queue:=r } j):=fun j hj=>by rw [setN_ne _ _ hj];exact .refl _
  have lr:r.length≤900:=by have:=W.len _ _ h;rw [e] at this;simp at this;(clear ne h2;lia)
  have W1:WS (setN T i { ni with queue:=r }) rk:=W.alike i o1 h (setN_same ..) rfl lr fun y hy=>W.q _ _ h y (by rw [e];exact .tail _ hy)
  have c1:∀ S,Closed T S→Closed (setN T i { ni with queue:=r }) S:=fun S hS j nd hj e' y hy=>by
   by_cases q:j=i
   ·subst q;rw [setN_same] at e';cases e';exact hS j ni hj h y (by rw [e];exact .tail _ hy)
   ·rw [setN_ne _ _ q] at e';exact hS j nd hj e' y hy
  cases ha:nc.act with
  | true=>
   rw [seek_act h hc ha]
   refine⟨[x],r,rfl,rfl,setN_same ..,o1,fun S hS hi j hj=>setN_ne _ _ fun w=>hj (w ▸ hi)⟩
  | false=>
   have t:=hs (setN T i { ni with queue:=r }) x.2 W1 h2 (by rw [setN_ne _ _ ne];exact h1)
   have i2:(sub (setN T i { ni with queue:=r }) x.2).1 i=some { ni with queue:=r }:=by
    rw [t.frame (fun j=>rk j≤rk x.2) (fun j nd hj e' y hy=>by have:=(W1.q _ _ e' y hy).2;(clear lr ne h2;lia)) (Nat.le_refl _) i (by (clear lr ne;lia))]
    exact setN_same ..
   have o2:∀ j,j≠i→OLike (T j) ((sub (setN T i { ni with queue:=r }) x.2).1 j):=fun j hj=>(o1 j hj).trans (t.like j)
   have f2:∀ S,Closed T S→S i→∀ j,¬ S j→(sub (setN T i { ni with queue:=r }) x.2).1 j=T j:=fun S hS hi j hj=>by
    rw [t.frame S (c1 S hS) (hS i ni hi h x (by rw [e];exact .head _)) j hj]
    exact setN_ne _ _ fun w=>hj (w ▸ hi)
   rw [seek_sub h hc ha]
   cases hr:sub (setN T i { ni with queue:=r }) x.2 with
   | mk T2 o=>
    rw [hr] at i2 o2 f2
    dsimp only at i2 o2 f2
    cases o with
    | some y=>exact⟨[x],r,rfl,rfl,i2,o2,f2⟩
    | none=>
     have W2:WS T2 rk:=W.alike i o2 h i2 rfl lr fun y hy=>W.q _ _ h y (by rw [e];exact .tail _ hy)
     refine xo2_5 (ih T2 (acc++[x]) _ W2 i2 rfl) fun took rest b1 b2 b3 b4 b5=>?_
     refine⟨x :: took,rest,by rw [b1];rfl,by rw [b2,List.append_assoc];rfl,b3,fun j hj=>(o2 j hj).trans (b4 j hj),fun S hS hi j hj=>?_⟩
     refine (b5 S (fun j nd hj e' y hy=>?_) hi j hj).trans (f2 S hS hi j hj)
     by_cases q:j=i
     ·subst q;rw [i2] at e';cases e';exact hS j ni hj h y (by rw [e];exact .tail _ hy)
     ·refine xo1_2 ((o2 j q).back e') fun u e1 e2=>?_
      have:y.2∈u.queue.map (·.2):=e2.queue.mem_iff.mp (List.mem_map.mpr ⟨y,hy,rfl⟩)
      refine xo1_2 (List.mem_map.mp this) fun z hz ez=>?_
      rw [← ez]
      exact hS j u hj e1 z hz
theorem sched_ok {rk:Int→Nat}:∀ (d:Nat)(T:Tr)(i:Int),WS T rk→rk i < d→T i≠none→Turned T i (sched d T i).1:=by
 intro d
 induction d with
 | zero=>intro T i _ h;lia
 | succ d ih=>
  intro T i W hd hi
  refine xo1_1 (nNone hi) fun ni h=>?_
  refine xo2_5 (seek_ok (i:=i) (rk:=rk) (sub:=sched d) (fun T c W hc hn=>ih T c W (by lia) hn) ni.queue T [] ni W h rfl) fun took rest b1 b2 b3 b4 b5=>?_
  rw [List.nil_append] at b2
  rw [sched_eq h]
  dsimp only
  rw [b2]
  have hx:∀ x∈took,T x.2≠none∧x.2≠i:=fun x hx=>by
   have:=W.q _ _ h x (by rw [b1];exact List.mem_append_left _ hx)
   exact⟨this.1,fun w=>by rw [w] at this;(clear w hd;lia)⟩
  obtain⟨⟨ni',c1,c2,c3,c4,c5,c6⟩,c7,c8⟩:=spent_ok (rk:=rk) (T:=T) took _ _ b3 (fun x hx'=>⟨fun w=>(hx x hx').1 ((b4 _ (hx x hx').2).none.mpr w),(hx x hx').2⟩)
  refine⟨fun j=>?_,fun S hS hSi j hj=>?_⟩
  ·by_cases q:j=i
   ·subst q
    rw [h,c1]
    refine .inr ⟨_,_,rfl,rfl,c2,c3,c4,c5,?_⟩
    rw [b1,List.map_append]
    exact c6
   ·exact (b4 j q).trans (c7 j q)
  ·have ji:j≠i:=fun w=>hj (w ▸ hSi)
   refine (c8 j ji fun w=>?_).trans (b5 S hS hSi j hj)
   refine xo1_2 (List.mem_map.mp w) fun x hx' e=>?_
   exact hj (e ▸ hS i ni hSi h x (by rw [b1];exact List.mem_append_left _ hx'))
end
section
open PySem PySem.W PyProof.Rows
section
variable {g:Sig}{C:Nat→List AV→St→R AV}{E:Est}{k n:Nat}{h:Hp}{L:Lo}{A cl ql:Ad}{G:Hp}{Φ:Fo}{t:Nat}{s:St}{i:Int}{nd:Nd}{T:Tr}
theorem x_fin {Q:Pst Fl}{b f:Ss}{p:Pos}{k:Nat}(w:Wp (execs g C b ⟨L,h,n,k⟩) (fun x L h n k=>Wp (execs g C f ⟨L,h,n,k⟩) (fun y L h n k=>y=.next∧Q x L h n k) fun _ _ _ _ _ _=>False)
  (fun c cl L h n _=>Wp (execs g C f ⟨L,h,n,if cl=true then 1 else 2⟩) (fun y L h n _=>y=.next∧E c cl L h n k) fun _ _ _ _ _ _=>False)):Wp (exec g C (.fin b f p) ⟨L,h,n,k⟩) Q E:=by
 show Wp (finR k (execs g C b ⟨L,h,n,k⟩) fun s=>execs g C f s) Q E
 cases q:execs g C b ⟨L,h,n,k⟩ with
 | ok x s=>
  rw [q] at w
  have w:Wp (execs g C f s) (fun y L h n k=>y=.next∧Q x L h n k) fun _ _ _ _ _ _=>False:=w
  unfold finR
  dsimp only
  cases q2:execs g C f s with
  | ok y s'=>rw [q2] at w;obtain⟨rfl,w⟩:=w;exact w
  | ex c cl s'=>rw [q2] at w;exact w.elim
  | bad=>rw [q2] at w;exact w.elim
 | ex c cl s=>
  rw [q] at w
  have w:Wp (execs g C f { s with hd:=if cl=true then 1 else 2 }) (fun y L h n _=>y=.next∧E c cl L h n k) fun _ _ _ _ _ _=>False:=w
  unfold finR
  dsimp only
  cases q2:execs g C f { s with hd:=if cl=true then 1 else 2 } with
  | ok y s'=>rw [q2] at w;obtain⟨rfl,w⟩:=w;exact w
  | ex c cl s'=>rw [q2] at w;exact w.elim
  | bad=>rw [q2] at w;exact w.elim
 | bad=>rw [q] at w;exact w.elim
theorem x_try {Q:Pst Fl}{b:Ss}{hs:Hs}{p:Pos}(w:Wp (execs g C b ⟨L,h,n,k⟩) Q fun c cl L h n k'=>Wp (handle g C k hs c cl ⟨L,h,n,k'⟩) Q E):Wp (exec g C (.try b hs p) ⟨L,h,n,k⟩) Q E:=by
 show Wp (match execs g C b ⟨L,h,n,k⟩ with | .ok f s=>R.ok f s | .ex c cl s'=>handle g C k hs c cl s' | .bad=>.bad) Q E
 cases q:execs g C b ⟨L,h,n,k⟩ with
 | ok x s=>rw [q] at w;exact w
 | ex c cl s=>rw [q] at w;exact w
 | bad=>rw [q] at w;exact w
theorem h_hit {Q:Pst Fl}{c:Nat}{cl:Bool}{q:Pos}{b:Ss}{p:Pos}{r:Hs}{k k':Nat}(hc:g.excs.contains c=true)(w:Wp (execs g C b ⟨L,h,n,if cl=true then 1 else 2⟩) (fun f L h n _=>Q f L h n k) fun c cl L h n _=>E c cl L h n k):Wp (handle g C k (.cons c q b p r) c cl ⟨L,h,n,k'⟩) Q E:=by
 have m:=List.contains_iff_mem.mp hc
 show Wp (if c∈g.excs∧c∈g.excs then (if c=c then (execs g C b ⟨L,h,n,if cl then 1 else 2⟩).reHd k else _) else .bad) Q E
 rw [if_pos ⟨m,m⟩,if_pos rfl]
 cases q2:execs g C b ⟨L,h,n,if cl=true then 1 else 2⟩ with
 | ok x s=>rw [q2] at w;exact w
 | ex c cl s=>rw [q2] at w;exact w
 | bad=>rw [q2] at w;exact w
theorem k_is_none {Q:Pst Bool}(q:Q true L h n k):Wp (cmpv g C .is .none .none ⟨L,h,n,k⟩) Q E:=q
theorem k_is_int {Q:Pst Bool}{x:Int}(q:Q false L h n k):Wp (cmpv g C .is (.int x) .none ⟨L,h,n,k⟩) Q E:=q
structure F9 (A:Ad) (t:Nat) (i:Int) (pl:Nat) (v:AV) (L:Lo):Prop where
 l20:get? L 20=some (.loc (A t i))
 l50:get? L 50=some (.loc pl)
 l49:get? L 49=some v
theorem F9.put {pl:Nat}{v:AV}(x:F9 A t i pl v L){j:Nat}(w:AV)(h1:j≠20)(h2:j≠50)(h3:j≠49):F9 A t i pl v (Mine.put L j w):=
 ⟨by rw [get_put_ne _ _ h1.symm];exact x.l20,by rw [get_put_ne _ _ h2.symm];exact x.l50,by rw [get_put_ne _ _ h3.symm];exact x.l49⟩
theorem F9.set {pl:Nat}{v:AV}(x:F9 A t i pl v L)(w:AV):F9 A t i pl w (Mine.put L 49 w):=
 ⟨by rw [get_put_ne _ _ (by decide)];exact x.l20,by rw [get_put_ne _ _ (by decide)];exact x.l50,get_put _ _ _⟩
theorem All2.get {α β:Type}{P:α→β→Prop}{as:List α}{bs:List β}(x:All2 P as bs):∀ {j:Nat}{a:α},as[j]?=some a→∃ b,bs[j]?=some b∧P a b:=by
 induction x with
 | nil=>intro j a e;simp at e
 | cons p _ ih=>
  intro j a e
  cases j with
  | zero=>simp at e;subst e;exact⟨_,rfl,p⟩
  | succ j=>simpa using ih (by simpa using e)
theorem w9f (m:Nat){pl:Nat}{v:AV}{Q:Pst Fl}(hk:k≤1){es:List Nat}{ps:List (Int×Int)}(hG:G pl=some (entsO es))(hps:∀ x∈ps,T x.2≠none∧x.2≠i)(hw:∀ j nd,T j=some nd→1≤nd.w∧nd.w≤256){ni:Nd}(hi:T i=some ni)(hnq:∀ x∈ni.queue,T x.2≠none)(hlen:ps.length+ni.queue.length≤1000)
  (FL:F9 A t i pl v L) (R:Rep A cl ql (setT Φ t T) G h n) (he:Ents A t G es ps) (hQ:∀ L h n,F9 A t i pl v L→Rep A cl ql (setT Φ t (spent T i ps)) G h n→Q .next L h n k) :
  Wp (execs sg (callF sg (m+4)) (match b9.at 3 with | .fin _ f _=>f | _=>.nil) ⟨L,h,n,k⟩) Q E:=by
 have all:∀ j,(∀ j',OLike (T j') (spent T i (ps.take j) j')∨j'=i)∧∃ nj,spent T i (ps.take j) i=some nj∧nj.queue.length≤1000 - (ps.length - (ps.take j).length)∧∀ x∈nj.queue,T x.2≠none:=fun j=>by
  obtain⟨⟨nj,a1,-,-,-,-,a2⟩,a3,-⟩:=spent_ok (rk:=fun _=>0) (T:=T) (ps.take j) T ni hi fun x hx=>hps x (List.mem_of_mem_take hx)
  refine⟨fun j'=>?_,nj,a1,?_,fun x hx=>?_⟩
  ·by_cases q:j'=i
   ·exact .inr q
   ·exact .inl (a3 j' q)
  ·have:=a2.length_eq
   simp only [List.length_map,List.length_append] at this
   have l2:(ps.take j).length≤ps.length:=by rw [List.length_take];(clear this hlen hk;lia)
   lia
  ·have:=a2.mem_iff.mp (List.mem_map.mpr ⟨x,hx,rfl⟩)
   rcases List.mem_append.mp this with w | w
   ·refine xo1_2 (List.mem_map.mp w) fun z hz ez=>?_
    rw [← ez];exact (hps z (List.mem_of_mem_take hz)).1
   ·refine xo1_2 (List.mem_map.mp w) fun z hz ez=>?_
    rw [← ez];exact hnq z hz
 have l20:=FL.l20
 have l50:=FL.l50
 delta b9
 dsimp only [Ss.at]
 walk_at "r"
 refine x_for ?_
 walk_at "r"
 have xs_at:∀ {h':Hp} {n':Nat} {T':Tr},Rep A cl ql (setT Φ t T') G h' n'→h' pl=some (entsO es):=fun R=>R.old _ _ hG
 refine⟨_,it_list (xs_at R),?_⟩
 have lenE:es.length=ps.length:=(ents_iff.mp he).len
 refine forN_wp (xs:=es.map AV.loc) (fun j L h n k'=>k'=k∧F9 A t i pl v L∧Rep A cl ql (setT Φ t (spent T i (ps.take j))) G h n)
  (fun j L h n k' w=>⟨at_list (xs_at w.2.2),w.1 ▸ hk⟩) (fun j x L h n k' hx w=>?_) (fun L h n k' w=>?_) 100000 0 (by simp;lia) (Nat.zero_le _) ⟨rfl,FL,R⟩
 ·refine xo0_3 w fun e0_ w1 w2=>?_;clear w;obtain rfl:=e0_
  obtain⟨e,hy,rfl⟩:∃ e,es[j]?=some e∧x=.loc e:=by
   rw [List.getElem?_map] at hx
   refine xo1_2 (Option.map_eq_some_iff.mp hx) fun y hy e=>?_
   exact⟨y,hy,e.symm⟩
  obtain⟨⟨lv,c⟩,hp,he'⟩:=(ents_iff.mp he).get hy
  have he:=w2.old _ _ he'
  refine xo0_2 (hps (lv,c) (List.mem_of_getElem? hp)) fun z1 z2=>?_
  refine xm_aeaaa (all j) fun al nj a1 a2 a3=>?_
  have jl:j < ps.length:=(List.getElem?_eq_some_iff.mp hp).1
  have lt:(ps.take j).length=j:=by rw [List.length_take];(clear a2 z2 hk hlen;lia)
  have oc:OLike (T c) (spent T i (ps.take j) c):=(al c).resolve_right z2
  refine xo1_1 (nNone z1) fun nc0 hc0=>?_
  refine xo1_2 (oc.get hc0) fun nc hc lk=>?_
  have wb:=hw _ _ hc0
  have w256:nc.w≠0∧nc.w.natAbs < 1073741824:=by have:=lk.w;(clear lt jl a2 z2 hk lenE hlen;lia)
  have FL2:=(w1.put (j:=45) (.int lv) (by decide) (by decide) (by decide)).put (j:=36) (.loc (A t c)) (by decide) (by decide) (by decide)
  refine t_tup he hk ?_
  have l20:=FL2.l20
  have l45:get? (put (put L 45 (.int lv)) 36 (.loc (A t c))) 45=some (.int lv):=by rw [get_put_ne _ _ (by decide)];exact get_put _ _ _
  have l36:get? (put (put L 45 (.int lv)) 36 (.loc (A t c))) 36=some (.loc (A t c)):=get_put _ _ _
  walk_at "r"
  refine w2.setLw a1 lv fun h1 R1=>?_
  have c1:setN (spent T i (ps.take j)) i { nj with lw:=lv } c=some nc:=(setN_ne _ _ z2).trans hc
  walk_at "r"
  walk_at "r"
  refine R1.getDf c1 ?_
  walk_at "r"
  refine R1.getW (m+3) c1 ?_
  refine o_div w256 ?_
  refine⟨_,rfl,?_⟩
  have FL3:=FL2.put (j:=45) (.int (lv+Int.fdiv (256+nc.df) nc.w)) (by decide) (by decide) (by decide)
  have m20:=FL3.l20
  have m45:get? (put (put (put L 45 (.int lv)) 36 (.loc (A t c))) 45 (.int (lv+Int.fdiv (256+nc.df) nc.w))) 45=some (.int (lv+Int.fdiv (256+nc.df) nc.w)):=get_put _ _ _
  have m36:get? (put (put (put L 45 (.int lv)) 36 (.loc (A t c))) 45 (.int (lv+Int.fdiv (256+nc.df) nc.w))) 36=some (.loc (A t c)):=by rw [get_put_ne _ _ (by decide)];exact l36
  walk_at "r"
  refine R1.getDf c1 ?_
  walk_at "r"
  refine R1.getW (m+3) c1 ?_
  refine o_mod w256.1 ?_
  walk_at "r"
  refine R1.setDf c1 _ fun h2 R2=>?_
  have i2:setN (setN (spent T i (ps.take j)) i { nj with lw:=lv }) c { nc with df:=Int.fmod (256+nc.df) nc.w } i=some { nj with lw:=lv }:=(setN_ne _ _ z2.symm).trans (setN_same ..)
  walk_at "r"
  refine R2.getQ i2 ?_
  walk_at "r"
  refine⟨Nat.le_of_ble_eq_true rfl,?_⟩
  walk_at "r"
  have R3:=R2.junk (.tup [.int (lv+Int.fdiv (256+nc.df) nc.w),.loc (A t c)])
  refine xo1_2 (R3.queue _ _ _ (atT i2)) fun eq q1 q2=>?_
  have dd:∀ {j':Int},T j'≠none→setN (setN (spent T i (ps.take j)) i { nj with lw:=lv }) c { nc with df:=Int.fmod (256+nc.df) nc.w } j'≠none:=fun {j'} hj=>setN_dom (by
   by_cases q:j'=i
   ·rw [q,setN_same];nofun
   ·exact setN_dom fun w=>hj (((al j').resolve_right q).none.mpr w))
  refine c_fn rfl rfl ?_
  refine R3.push (m+1) q1 q2 (lv:=lv+Int.fdiv (256+nc.df) nc.w) (i:=c) ?p1 ?p2 ?p3 ?p4 ?p5
  case p1=>exact fun x hx=>dd (a3 x hx)
  case p2=>exact upd_same ..
  case p3=>exact dd z1
  case p4=>show nj.queue.length≤1000;(clear wb lt jl z2 hk lenE hlen;lia)
  intro es' e3
  refine⟨trivial,?_⟩
  have R4:=R3.upQueue i2 e3
  walk_at "r"
  have eT:setN (setN (setN (spent T i (ps.take j)) i { nj with lw:=lv }) c { nc with df:=Int.fmod (256+nc.df) nc.w }) i { { nj with lw:=lv } with queue:=qpush nj.queue (lv+Int.fdiv (256+nc.df) nc.w,c) }=spent T i (ps.take (j+1)):=by
   rw [take_succ' hp]
   unfold spent at a1 hc ⊢
   rw [List.foldl_append]
   show _=turn1 _ i (lv,c)
   rw [turn1_eq a1 hc]
   funext y
   unfold setN
   by_cases q:y=i
   ·simp only [q,if_true]
   ·by_cases q':y=c <;> simp [q,q']
  rw [eT] at R4
  exact⟨rfl,FL3,R4⟩
 ·refine xo0_3 w fun e0_ w1 w2=>?_;clear w;obtain rfl:=e0_
  walk_at "r"
  rw [List.length_map,lenE,List.take_length] at w2
  exact hQ _ _ _ w1 w2
theorem Rep.know (R:Rep A cl ql Φ G h n){e:Nat}{x:List AV}(he:h e=some (.tup x)):Rep A cl ql Φ (upd G e (.tup x)) h n:=by
 refine⟨R.node,R.kids,R.queue,R.aa,R.cc,R.qq,R.cq,fun l o q=>?_,fun l o q u j hj=>?_,R.lt⟩
 ·by_cases z:l=e
  ·subst z;rw [upd_same] at q;cases q;exact he
  ·rw [upd_ne _ _ z] at q;exact R.old _ _ q
 ·by_cases z:l=e
  ·subst z
   refine xo1_1 (nNone hj) fun nd hd=>?_
   refine⟨fun w=>?_,fun w=>?_,fun w=>?_⟩
   ·have:=R.node _ _ _ hd;rw [w,he] at this;exact absurd this nofun
   ·have:=R.kids _ _ _ hd;rw [w,he] at this;exact absurd this nofun
   ·obtain⟨es,e1,_⟩:=R.queue _ _ _ hd;rw [w,he] at e1;exact absurd e1 nofun
  ·rw [upd_ne _ _ z] at q;exact R.free _ _ q _ _ hj
noncomputable def Know (G G':Hp):Prop:=∀ l o,G l=some o→G' l=some o
theorem Rep.know_le (R:Rep A cl ql Φ G h n){e:Nat}{x:List AV}(he:h e=some (.tup x)):Know G (upd G e (.tup x)):=fun l o q=>by
 by_cases z:l=e
 ·subst z;rw [upd_same,← he];exact R.old _ _ q
 ·rw [upd_ne _ _ z];exact q
theorem Ents.app {es es':List Nat}{q q':List (Int×Int)}(x:Ents A t h es q)(y:Ents A t h es' q'):Ents A t h (es++es') (q++q'):=ents_iff.mpr ((ents_iff.mp x).app (ents_iff.mp y))
noncomputable def TurnOk (sub:Nat→List AV→St→R AV) (sd:Tr→Int→Tr×Option Int) (c:Int) (rk:Int→Nat):Prop:=
 ∀ {A cl ql:Ad} {Φ:Fo} {G h:Hp} {n t:Nat} {T:Tr} {L:Lo} {nc:Nd} {Q:Pst AV} {E:Est},Rep A cl ql (setT Φ t T) G h n→WS T rk→T c=some nc→nc.act=false→
  (∀ x h' n',(sd T c).2=some x→Rep A cl ql (setT Φ t (sd T c).1) G h' n'→Q (.int x) L h' n' 0)→(∀ h' n',(sd T c).2=none→Rep A cl ql (setT Φ t (sd T c).1) G h' n'→E 52 true L h' n' 0)→Wp (sub 9 [.loc (A t c)] ⟨L,h,n,0⟩) Q E
theorem w9 (m:Nat){sd:Tr→Int→Tr×Option Int}{rk:Int→Nat}{pl:Nat}{Q:Pst Fl}(hsub:∀ c,rk c < rk i→TurnOk (callF sg (m+4)) sd c rk)(hsd:∀ T c,WS T rk→rk c < rk i→T c≠none→Turned T c (sd T c).1) :
  ∀ (q:List (Int×Int)) (fuel:Nat) (T:Tr) (ni:Nd) (acc:List (Int×Int)) (es:List Nat) (G:Hp) (L:Lo) (h:Hp) (n:Nat),q.length < fuel→q.length+acc.length≤900→T i=some ni→ni.queue=q→WS T rk→G pl=some (entsO es)→Ents A t G es acc→F9 A t i pl .none L→Rep A cl ql (setT Φ t T) G h n→
   (∀ L h n x G' es',(seek sd i q T acc).2.2=some x→F9 A t i pl (.int x) L→Know (drop G pl) (drop G' pl)→G' pl=some (entsO es')→Ents A t G' es' (seek sd i q T acc).2.1→Rep A cl ql (setT Φ t (seek sd i q T acc).1) G' h n→Q .next L h n 0)→
   (∀ L h n G' es',(seek sd i q T acc).2.2=none→F9 A t i pl .none L→Know (drop G pl) (drop G' pl)→G' pl=some (entsO es')→Ents A t G' es' (seek sd i q T acc).2.1→Rep A cl ql (setT Φ t (seek sd i q T acc).1) G' h n→E 52 true L h n 0)→
   Wp (whileN (fun s=>evalT sg (callF sg (m+4)) ((b9.at 3).bdy.at 0).tst s) (fun s=>execs sg (callF sg (m+4)) ((b9.at 3).bdy.at 0).bdy s) fuel ⟨L,h,n,0⟩) Q E:=by
 intro q
 induction q with
 | nil=>
  intro fuel T ni acc es G L h n hf hlen hi hq W hG he FL R hQ hE
  obtain⟨f,rfl⟩:∃ f,fuel=f+1:=⟨fuel - 1,by simp at hf;lia⟩
  refine xo1_2 (R.queue _ _ _ (atT hi)) fun qe q1 q2=>?_
  rw [hq] at q2
  obtain rfl:qe=[]:=by cases qe with | nil=>rfl | cons _ _=>exact q2.elim
  refine while_wp (e_test ?_)
  have l20:=FL.l20
  have l49:=FL.l49
  delta b9
  dsimp only [Ss.at,S.tst,S.bdy]
  walk_at "r"
  refine k_is_none ?_
  walk_at "r"
  refine R.getQ hi ?_
  walk_at "r"
  exact c_fn rfl rfl (f2_0 (m+3) q1 (hE _ _ _ G es rfl FL (fun _ _ e=>e) hG he R))
 | cons x q ih=>
  intro fuel T ni acc es G L h n hf hlen hi hq W hG he FL R hQ hE
  obtain⟨f,rfl⟩:∃ f,fuel=f+1:=⟨fuel - 1,by simp at hf;lia⟩
  refine xo1_2 (R.queue _ _ _ (atT hi)) fun qe q1 q2=>?_
  rw [hq] at q2
  obtain⟨lv,c⟩:=x
  cases qe with
  | nil=>exact q2.elim
  | cons e qe=>
   revert q2;refine fun z_=>xo0_2 z_ fun q2 q3=>?_;clear z_
   obtain⟨z1,z2⟩:=W.q _ _ hi (lv,c) (by rw [hq];exact .head _)
   replace z2:rk c < rk i:=z2
   have ne:c≠i:=fun w=>by rw [w] at z2;(clear w hf hlen;lia)
   refine xo1_1 (nNone z1) fun nc hc=>?_
   have R1:=R.upQueue hi q3
   have q4:upd h (ql t i) (entsO qe) e=some (.tup [.int lv,.loc (A t c)]):=by
    rw [upd_ne _ _ fun w=>by rw [w,q1] at q2;cases q2];exact q2
   have R2:=R1.know q4
   have kn:=R1.know_le q4
   have R3:=R2.put (l:=pl) (kn _ _ hG) rfl (entsO (es++[e]))
   have epl:e≠pl:=fun w=>by have:=R1.old _ _ hG;rw [← w,q4] at this;exact absurd this nofun
   have lenE:es.length=acc.length:=(ents_iff.mp he).len
   obtain⟨G3,hG3⟩:∃ G3,G3=upd (upd G e (.tup [.int lv,.loc (A t c)])) pl (entsO (es++[e])):=⟨_,rfl⟩
   have g1:Know (drop G pl) (drop G3 pl):=fun l o w=>by
    refine xo0_2 (drop_some w) fun w1 w2=>?_
    unfold drop
    rw [if_neg w1,hG3,upd_ne _ _ w1];exact kn _ _ w2
   have g2:G3 pl=some (entsO (es++[e])):=by rw [hG3];exact upd_same ..
   have g3:Ents A t G3 (es++[e]) (acc++[(lv,c)]):=by
    refine Ents.app (he.keep fun b y w=>?_) ⟨?_,trivial⟩
    ·rw [hG3,upd_ne _ _ fun z=>by rw [z,hG] at w;cases w];exact kn _ _ w
    ·rw [hG3,upd_ne _ _ epl];exact upd_same ..
   rw [← hG3] at R3
   have lst:entsO (es++[e])=.list (es.map .loc++[.loc e]):=by simp
   refine while_wp (e_test ?_)
   have l20:=FL.l20
   have l49:=FL.l49
   have l50:=FL.l50
   have FL1:=FL.put (j:=51) (.loc e) (by decide) (by decide) (by decide)
   have m20:=FL1.l20
   have m50:=FL1.l50
   have m51:get? (Mine.put L 51 (.loc e)) 51=some (.loc e):=get_put _ _ _
   delta b9
   dsimp only [Ss.at,S.tst,S.bdy]
   walk_at "r"
   refine k_is_none ?_
   walk_at "r"
   refine R.getQ hi ?_
   walk_at "r"
   refine c_fn rfl rfl (.eq (f2 (m+3) q1) ?_)
   walk_at "r"
   refine⟨_,m_append (R2.old _ _ (kn _ _ hG)),?_⟩
   walk_at "r"
   refine c_append (R2.old _ _ (kn _ _ hG)) (by simp;(clear epl ne z2 hf;lia)) ⟨trivial,?_⟩
   rw [← lst]
   have q5:upd (upd h (ql t i) (entsO qe)) pl (entsO (es++[e])) e=some (.tup [.int lv,.loc (A t c)]):=by rw [upd_ne _ _ epl];exact q4
   walk_at "r"
   refine⟨_,_,_,rfl,q5,Nat.zero_le _,?_⟩
   have FL2:=(FL1.put (j:=45) (.int lv) (by decide) (by decide) (by decide)).put (j:=36) (.loc (A t c)) (by decide) (by decide) (by decide)
   have p20:=FL2.l20
   have p36:get? (Mine.put (Mine.put (Mine.put L 51 (.loc e)) 45 (.int lv)) 36 (.loc (A t c))) 36=some (.loc (A t c)):=get_put _ _ _
   have c1:setN T i { ni with queue:=q } c=some nc:=(setN_ne _ _ ne).trans hc
   walk_at "r"
   refine R3.getAct c1 ?_
   walk_at "r"
   refine it_s (fun ha=>?_) fun ha=>?_
   ·walk_at "r"
    refine R3.getId c1 ?_
    have sk:=seek_act (sub:=sd) (x:=(lv,c)) (r:=q) (acc:=acc) hi hc ha
    have FL3:=FL2.set (.int c)
    have n49:=FL3.l49
    walk_at "r"
    obtain⟨f',rfl⟩:∃ f',f=f'+1:=⟨f - 1,by simp at hf;(clear lenE epl ne z2 hlen;lia)⟩
    refine while_wp (e_test ?_)
    walk_at "r"
    refine k_is_int ?_
    walk_at "r"
    exact hQ _ _ _ c G3 _ (by rw [sk]) FL3 g1 g2 (by rw [sk];exact g3) (by rw [sk];exact R3)
   ·have sk:=seek_sub (sub:=sd) (x:=(lv,c)) (r:=q) (acc:=acc) hi hc ha
    have lq:q.length≤900:=by simp at hlen;(clear epl ne z2 hf;lia)
    have W1:WS (setN T i { ni with queue:=q }) rk:=W.alike i (fun j hj=>by rw [setN_ne _ _ hj];exact .refl _) hi (setN_same ..) rfl lq fun y hy=>W.q _ _ hi y (by rw [hq];exact .tail _ hy)
    have tn:=hsd _ c W1 z2 (by rw [c1];nofun)
    walk_at "r"
    refine x_try ?_
    walk_at "r"
    refine⟨_,R3.meth c1 rfl rfl,?_⟩
    walk_at "r"
    refine c_fn rfl rfl (hsub c z2 R3 W1 c1 ha (fun x h' n' hx R4=>?_) fun h' n' hx R4=>?_)
    ·have FL3:=FL2.set (.int x)
     have n49:=FL3.l49
     have sk':seek sd i ((lv,c) :: q) T acc=((sd (setN T i { ni with queue:=q }) c).1,acc++[(lv,c)],some x):=by
      rw [sk]
      cases z:sd (setN T i { ni with queue:=q }) c with
      | mk T2 o=>rw [z] at hx;dsimp only at hx;subst hx;rfl
     walk_at "r"
     obtain⟨f',rfl⟩:∃ f',f=f'+1:=⟨f - 1,by simp at hf;(clear lenE epl ne z2 hlen;lia)⟩
     refine while_wp (e_test ?_)
     walk_at "r"
     refine k_is_int ?_
     walk_at "r"
     exact hQ _ _ _ x G3 _ (by rw [sk']) FL3 g1 g2 (by rw [sk'];exact g3) (by rw [sk'];exact R4)
    ·have sk':seek sd i ((lv,c) :: q) T acc=seek sd i q (sd (setN T i { ni with queue:=q }) c).1 (acc++[(lv,c)]):=by
      rw [sk]
      cases z:sd (setN T i { ni with queue:=q }) c with
      | mk T2 o=>rw [z] at hx;dsimp only at hx;subst hx;rfl
     refine h_hit rfl ?_
     walk_at "r"
     have i4:(sd (setN T i { ni with queue:=q }) c).1 i=some { ni with queue:=q }:=by
      rw [tn.frame (fun j=>rk j≤rk c) (fun j nd hj e' y hy=>by have:=(W1.q _ _ e' y hy).2;(clear lq lenE epl ne z2 hf hlen;lia)) (Nat.le_refl _) i (by (clear lq lenE epl ne hf hlen;lia))]
      exact setN_same ..
     refine ih f _ _ (acc++[(lv,c)]) (es++[e]) G3 _ _ _ (by simp at hf;(clear lq lenE epl ne z2 hlen;lia)) (by simp at hlen ⊢;(clear lq epl ne z2 hf;lia)) i4 rfl (W1.all tn.like) g2 g3 FL2 R4 (fun L h n x G' es' b1 b2 b3 b4 b5 b6=>?_) fun L h n G' es' b1 b2 b3 b4 b5 b6=>?_
     ·exact hQ L h n x G' es' (by rw [sk'];exact b1) b2 (fun l o w=>b3 _ _ (g1 _ _ w)) b4 (by rw [sk'];exact b5) (by rw [sk'];exact b6)
     ·exact hE L h n G' es' (by rw [sk'];exact b1) b2 (fun l o w=>b3 _ _ (g1 _ _ w)) b4 (by rw [sk'];exact b5) (by rw [sk'];exact b6)
theorem f9 (m:Nat){rk:Int→Nat}:∀ (d:Nat)(i:Int),rk i < d→TurnOk (callF sg (m+4+d)) (sched d) i rk:=by
 intro d
 induction d with
 | zero=>intro i h;lia
 | succ d ih=>
  intro i hd A cl ql Φ G h n t T L ni Q E R W hi ha hQ hE
  have hsub:∀ c,rk c < rk i→TurnOk (callF sg (m+d+4)) (sched d) c rk:=fun c hc=>by
   have e:m+4+d=m+d+4:=by (clear hc hd;lia)
   rw [← e]
   exact @ih c (by lia)
  rw [show m+4+(d+1)=m+d+4+1 by lia]
  refine xo2_5 (seek_ok (i:=i) (rk:=rk) (sub:=sched d) (fun T c W hc hn=>sched_ok d T c W (by lia) hn) ni.queue T [] ni W hi rfl) fun took rest b1 b2 b3 b4 b5=>?_
  rw [List.nil_append] at b2
  have sq:=sched_eq (d:=d) hi
  have hx:∀ x∈took,T x.2≠none∧x.2≠i:=fun x hx=>by
   have:=W.q _ _ hi x (by rw [b1];exact List.mem_append_left _ hx)
   exact⟨this.1,fun w=>by rw [w] at this;(clear w hd;lia)⟩
  have hr:∀ x∈rest,T x.2≠none∧x.2≠i:=fun x hx=>by
   have:=W.q _ _ hi x (by rw [b1];exact List.mem_append_right _ hx)
   exact⟨this.1,fun w=>by rw [w] at this;(clear w hd;omega)⟩
  have up:∀ {j:Int},T j≠none∧j≠i→(seek (sched d) i ni.queue T []).1 j≠none:=fun {j} hj w=>hj.1 ((b4 j hj.2).none.mpr w)
  have ln:=W.len _ _ hi
  have ln2:took.length+rest.length≤900:=by rw [b1,List.length_append] at ln;exact ln
  have ww:∀ j nd,(seek (sched d) i ni.queue T []).1 j=some nd→1≤nd.w∧nd.w≤256:=fun j nd e=>by
   by_cases q:j=i
   ·subst q;rw [b3] at e;cases e;exact W.w _ ni hi
   ·refine xo1_2 ((b4 j q).back e) fun u e1 e2=>?_
    rw [e2.w];exact W.w _ _ e1
  refine c_in rfl rfl ?_
  show Wp (execs sg _ b9 ⟨[(20,.loc (A t i))],h,n,0⟩) _ _
  have Wf:∀ {k:Nat} {v:AV} {L:Lo} {h:Hp} {n:Nat} {G':Hp} {es:List Nat} {Q:Pst Fl} {E:Est} {pl:Nat},k≤1→G' pl=some (entsO es)→Ents A t G' es (seek (sched d) i ni.queue T []).2.1→F9 A t i pl v L→Rep A cl ql (setT Φ t (seek (sched d) i ni.queue T []).1) G' h n→
    (∀ L h n,F9 A t i pl v L→Rep A cl ql (setT Φ t (sched (d+1) T i).1) G' h n→Q .next L h n k)→Wp (execs sg (callF sg (m+d+4)) (match b9.at 3 with | .fin _ f _=>f | _=>.nil) ⟨L,h,n,k⟩) Q E:=fun hk hG he FL R hQ=>by
   rw [sq] at hQ
   rw [b2] at he hQ
   exact w9f (m+d) hk hG (fun x h=>⟨up (hx x h),(hx x h).2⟩) ww b3 (fun x h=>up (hr x h)) (by show took.length+rest.length≤1000;(clear hk ln hd;lia)) FL R he hQ
  delta b9
  walk_at "r"
  refine R.getAct hi ?_
  walk_at "r"
  refine⟨by rw [ha];rfl,?_⟩
  walk_at "r"
  refine⟨Nat.le_of_ble_eq_true rfl,?_⟩
  have R1:=R.new (.list [])
  have gn:∀ l o,G l=some o→l≠n:=fun l o e w=>by rw [w,R.gfresh (Nat.le_refl _)] at e;exact nsE e
  have back:∀ {G':Hp},Know (drop (upd G n (.list [])) n) (drop G' n)→Know G G':=fun k l o e=>by
   have z:=gn _ _ e
   have:drop (upd G n (.list [])) n l=some o:=by unfold drop;rw [if_neg z,upd_ne _ _ z];exact e
   exact (drop_some (k _ _ this)).2
  walk_at "r"
  refine x_fin ?_
  walk_at "r"
  refine x_whl ?_
  refine w9 (i:=i) (rk:=rk) (sd:=sched d) (m+d) hsub (fun T c W hc hn=>sched_ok d T c W (by (clear ln2 ln;omega)) hn) ni.queue 100000 T ni [] [] (upd G n (.list [])) _ _ _ (by (clear ln2 hd;omega)) (by simpa using ln) hi rfl W (upd_same ..) trivial ⟨rfl,rfl,rfl⟩ R1 (fun L' h' n' x G' es' c1 c2 c3 c4 c5 c6=>?_) fun L' h' n' G' es' c1 c2 c3 c4 c5 c6=>?_
  ·refine go_next (xs_nil ?_)
   refine Wf (Nat.zero_le _) c4 c5 c2 c6 fun L h n FL R2=>⟨rfl,?_⟩
   have l49:=FL.l49
   walk_at "r"
   exact hQ x _ _ (by rw [sq];exact c1) (R2.sub (back c3))
  ·refine Wf (k:=1) (Nat.le_refl _) c4 c5 c2 c6 fun L h n FL R2=>⟨rfl,?_⟩
   exact hE _ _ (by rw [sq];exact c1) (R2.sub (back c3))
end
end
section
open PySem PySem.W PyProof.Rows
noncomputable def emp:Tr:=fun _=>none
noncomputable abbrev root0:Nd:={ nd0 1 with act:=false }
noncomputable abbrev tatt (A:Ad) (t d:Nat) (mx:Int):Lo:=[(70,.loc (A t 0)),(71,.loc d),(76,.int mx)]
structure TR (A:Ad) (t a d:Nat) (mx:Int) (es:List (AV×AV)) (T:Tr) (G:Hp):Prop where
 obj:G a=some (.inst 68 (tatt A t d mx))
 dict:G d=some (.dict es)
 ent:∀ i,dget? es (.int i)=(T i).map fun _=>AV.loc (A t i)
 len:es.length≤900
section
variable {C:Nat→List AV→St→R AV}{E:Est}{k n:Nat}{h:Hp}{L:Lo}{a d:Nat}{A cl ql:Ad}{G:Hp}{Φ:Fo}{t:Nat}{i x p:Int}{nd:Nd}{T:Tr}{mx:Int}{es:List (AV×AV)}{Q:Pst AV}
theorem TR.at_ (X:TR A t a d mx es T G)(e:T i≠none):dget? es (.int i)=some (.loc (A t i)):=by
 rw [X.ent];cases q:T i with
 | none=>exact (e q).elim
 | some y=>rfl
theorem TR.no (X:TR A t a d mx es T G)(e:T i=none):dget? es (.int i)=none:=by rw [X.ent,e];rfl
theorem TR.like {T':Tr}(X:TR A t a d mx es T G)(e:∀ j,T j=none ↔ T' j=none):TR A t a d mx es T' G:=
 ⟨X.obj,X.dict,fun i=>by
  rw [X.ent]
  cases q:T i with
  | none=>rw [(e i).mp q]
  | some y=>
   cases q':T' i with
   | none=>rw [(e i).mpr q'] at q;exact nsE q
   | some z=>rfl,X.len⟩
theorem getT (R:Rep A cl ql Φ G h n)(X:TR A t a d mx es T G){j:Nat}{v:AV}(hm:sg.me 68 j=.data)(hx:get? (tatt A t d mx) j=some v)(hp:v.plain=true)(q:Q v L h n k):Wp (getA sg C (.loc a) j ⟨L,h,n,k⟩) Q E:=
 a_get (R.old _ _ X.obj) hm hx hp q
theorem methT (R:Rep A cl ql Φ G h n)(X:TR A t a d mx es T G){m f:Nat}(hm:sg.me 68 m=.fn f)(hx:get? (tatt A t d mx) m=none):methodOf sg (.loc a) m ⟨L,h,n,k⟩=some (.fn f):=m_inst (R.old _ _ X.obj) hm hx
theorem c_tree (m:Nat)(R:Rep A cl ql (setT Φ t emp) G h n)(hk:k≤1)
  (hQ:∀ cl' ql' h' n' d,n < n'→n < d→Rep (updA A t 0 (n+1)) cl' ql' (setT Φ t (setN emp 0 root0)) (upd (upd G n (.inst 68 (tatt (updA A t 0 (n+1)) t d 1000))) d (.dict [(.int 0,.loc (n+1))])) h' n'→Q (.loc n) L h' n' k) :
  Wp (callV sg (callF sg (m+4)) (.gl 68) [] [] ⟨L,h,n,k⟩) Q E:=by
 show Wp ((callFn sg (callF sg (m+4)) 18 [.loc n] [] ⟨L,upd h n (.inst 68 []),n+1,k⟩).bnd fun r s'=>if r=.none then Mine.R.ok (.loc n) s' else .bad) Q E
 refine .bnd (Wp.imp (Q:=fun r L h' n' k'=>r=.none∧Q (.loc n) L h' n' k') ?_ fun r _ _ _ _ w=>by rw [w.1];exact w.2)
 refine c_fn rfl rfl (c_in rfl rfl ?_)
 show Wp (execs sg _ b18 ⟨[(20,.loc n),(69,.int 1000)],upd h n (.inst 68 []),n+1,k⟩) _ _
 delta b18
 have R1:=R.new (.inst 68 [])
 walk_at "r"
 refine c_streamK (m+1) (i:=0) (w:=1) R1 (by rw [setT_same];exact⟨rfl,fun j nd e=>nomatch e⟩) hk (fun _ cl' ql' h1 n1 ln R2=>?_) fun w=>(w (by decide)).elim
 rw [setT_setT,setT_same] at R2
 walk_at "r"
 refine a_set (R2.old _ _ (upd_same ..)) rfl (Nat.le_of_ble_eq_true rfl) ?_
 have R3:=R2.put (upd_same ..) rfl (.inst 68 [(70,.loc (n+1))])
 rw [upd_upd] at R3
 walk_at "r"
 refine a_get (x:=.loc (n+1)) (upd_same ..) rfl rfl rfl ?_
 have eA:updA A t 0 (n+1) t 0=n+1:=updA_same ..
 have N:=R3.node _ _ _ (atT (setN_same ..))
 rw [eA] at N
 refine a_set N rfl (Nat.le_of_ble_eq_true rfl) ?_
 have R4:=setT_put ▸ R3.updNode (nd':=root0) (atT (setN_same ..)) rfl rfl
 rw [eA,setN_setN] at R4
 walk_at "r"
 refine e_dct1 ?_
 walk_at "r"
 refine a_get (x:=.loc (n+1)) (R4.old _ _ (upd_same ..)) rfl rfl rfl ?_
 refine⟨⟨_,rfl⟩,?_⟩
 have R5:=R4.new (.dict [(.int 0,.loc (n+1))])
 have ne:n≠n1:=by lia
 walk_at "r"
 refine a_set (R5.old _ _ ((upd_ne _ _ ne).trans (upd_same ..))) rfl (Nat.le_of_ble_eq_true rfl) ?_
 have R6:=R5.put (l:=n) ((upd_ne _ _ ne).trans (upd_same ..)) rfl (.inst 68 [(70,.loc (n+1)),(71,.loc n1)])
 walk_at "r"
 refine bi_int ?_
 walk_at "r"
 refine a_set (upd_same ..) rfl (Nat.le_of_ble_eq_true rfl) ?_
 have R7:=R6.put (l:=n) (upd_same ..) rfl (.inst 68 (tatt (updA A t 0 (n+1)) t n1 1000))
 have eI:tatt (updA A t 0 (n+1)) t n1 1000=[(70,.loc (n+1)),(71,.loc n1),(76,.int 1000)]:=by unfold tatt;rw [eA]
 rw [eI] at R7
 walk_at "r"
 refine⟨rfl,hQ _ _ _ _ n1 (by (clear ne hk;lia)) (by (clear ne hk;lia)) (R7.sub fun l o e=>?_)⟩
 rw [eI] at e
 by_cases q1:l=n1
 ·rw [q1,upd_same] at e
  rw [q1,upd_ne _ _ ne.symm,upd_ne _ _ ne.symm,upd_same];exact e
 ·rw [upd_ne _ _ q1] at e
  by_cases q2:l=n
  ·rw [q2,upd_same] at e ⊢;exact e
  ·rw [upd_ne _ _ q2] at e ⊢
   rw [upd_ne _ _ q2,upd_ne _ _ q1,upd_ne _ _ q2];exact e
theorem f24 (m:Nat){S:Tr}(R:Rep A cl ql (setT Φ t T) G h n)(X:TR A t a d mx es S G)(x0:x≠0)(hS:S x≠none)(hx:T x=some nd)(hQ:∀ h',Rep A cl ql (setT Φ t (setN T x { nd with act:=false })) G h' n→Q .none L h' n k):Wp (callF sg (m+1) 24 [.loc a,.int x] ⟨L,h,n,k⟩) Q E:=by
 refine c_in rfl rfl ?_
 show Wp (execs sg _ b24 ⟨[(20,.loc a),(21,.int x)],h,n,k⟩) _ _
 delta b24
 walk_at "r"
 refine it_f (decide_eq_false x0) ?_
 walk_at "r"
 refine x_try ?_
 walk_at "r"
 refine getT R X rfl rfl rfl ?_
 walk_at "r"
 refine i_dict (R.old _ _ X.dict) (X.at_ hS) ?_
 refine R.setAct hx false fun h' R'=>?_
 walk_at "r"
 exact hQ h' R'
theorem f25 (m:Nat){S:Tr}(R:Rep A cl ql (setT Φ t T) G h n)(X:TR A t a d mx es S G)(x0:x≠0)(hS:S x≠none)(hx:T x=some nd)(hQ:∀ h',Rep A cl ql (setT Φ t (setN T x { nd with act:=true })) G h' n→Q .none L h' n k):Wp (callF sg (m+1) 25 [.loc a,.int x] ⟨L,h,n,k⟩) Q E:=by
 refine c_in rfl rfl ?_
 show Wp (execs sg _ b25 ⟨[(20,.loc a),(21,.int x)],h,n,k⟩) _ _
 delta b25
 walk_at "r"
 refine it_f (decide_eq_false x0) ?_
 walk_at "r"
 refine x_try ?_
 walk_at "r"
 refine getT R X rfl rfl rfl ?_
 walk_at "r"
 refine i_dict (R.old _ _ X.dict) (X.at_ hS) ?_
 refine R.setAct hx true fun h' R'=>?_
 walk_at "r"
 exact hQ h' R'
theorem f19 (m:Nat)(R:Rep A cl ql Φ G h n)(X:TR A t a d mx es T G)(e:T p≠none)(q:Q (.loc (A t p)) L h n k):Wp (callF sg (m+1) 19 [.loc a,.int p] ⟨L,h,n,k⟩) Q E:=by
 refine c_in rfl rfl ?_
 show Wp (execs sg _ b19 ⟨[(20,.loc a),(77,.int p)],h,n,k⟩) _ _
 delta b19
 walk_at "r"
 refine x_try ?_
 walk_at "r"
 refine getT R X rfl rfl rfl ?_
 walk_at "r"
 refine i_dict (R.old _ _ X.dict) (X.at_ e) ?_
 walk_at "r"
 exact q
theorem f28 (m:Nat){rk:Int→Nat}{dd:Nat}(R:Rep A cl ql (setT Φ t T) G h n)(X:TR A t a d mx es T G)(W:WS T rk)(hr:rk 0 < dd){r:Nd}(h0:T 0=some r)(ha:r.act=false)
  (hQ:∀ x h' n',(sched dd T 0).2=some x→Rep A cl ql (setT Φ t (sched dd T 0).1) G h' n'→Q (.int x) L h' n' 0) (hE:∀ h' n',(sched dd T 0).2=none→Rep A cl ql (setT Φ t (sched dd T 0).1) G h' n'→E 12 false L h' n' 0):Wp (callF sg (m+4+dd+1+1) 28 [.loc a] ⟨L,h,n,0⟩) Q E:=by
 refine c_in rfl rfl ?_
 show Wp (execs sg _ b28 ⟨[(20,.loc a)],h,n,0⟩) _ _
 delta b28
 walk_at "r"
 refine⟨_,methT R X rfl rfl,?_⟩
 walk_at "r"
 refine c_fn rfl rfl (c_in rfl rfl ?_)
 show Wp (execs sg _ b27 ⟨[(20,.loc a)],h,n,0⟩) _ _
 delta b27
 walk_at "r"
 refine x_try ?_
 walk_at "r"
 refine getT R X rfl rfl rfl ?_
 refine⟨_,R.meth h0 rfl rfl,?_⟩
 walk_at "r"
 refine c_fn rfl rfl (f9 m dd 0 hr R W h0 ha (fun x h' n' e R'=>?_) fun h' n' e R'=>?_)
 ·walk_at "r"
  exact hQ x h' n' e R'
 ·refine h_hit rfl ?_
  walk_at "r"
  exact⟨Nat.le_refl _,hE h' n' e R'⟩
end
end
section
open PySem PySem.W PyProof.Rows
noncomputable def climb (T:Tr):Nat→Int→Int→Option Bool
 | 0,_,_=>none
 | f+1,p,x=>match T p with
  | some np=>match np.par with
   | some q=>if T q=none then none else if q=x then some true else if q=0 then some false else climb T f q x
   | none=>none
  | none=>none
theorem climb_s {T:Tr}{f:Nat}{p x:Int}:climb T (f+1) p x=match T p with
  | some np=>match np.par with
   | some q=>if T q=none then none else if q=x then some true else if q=0 then some false else climb T f q x
   | none=>none
  | none=>none:=rfl
noncomputable def putIn (T:Tr) (p x w:Int) (ex:Bool):Tr:=if ex=true then addExcl (setN T x (nd0 w)) p x else addChild (setN T x (nd0 w)) p x
noncomputable def moved (T:Tr) (q p x:Int) (ex:Bool):Tr:=if ex=true then addExcl (cutChild T q x) p x else addChild (cutChild T q x) p x
section
variable {C:Nat→List AV→St→R AV}{E:Est}{k n:Nat}{h:Hp}{L:Lo}{a d:Nat}{A cl ql:Ad}{G:Hp}{Φ:Fo}{t:Nat}{i x p:Int}{nd:Nd}{T:Tr}{mx:Int}{es:List (AV×AV)}{Q:Pst AV}
theorem bi_range {j:Int}(e:0≤j∧j≤1000)(q:Q (.loc n) L (upd h n (.rng j)) (n+1) k):Wp (callV sg C (.gl 66) [.int j] [] ⟨L,h,n,k⟩) Q E:=by
 show Wp (if 0≤j∧j≤1000 then Mine.R.ok (.loc n) _ else .bad) Q E
 rw [if_pos e]
 exact q
theorem it_rng {l:Nat}{j:Int}(e:h l=some (.rng j)):iterOf (.loc l) ⟨L,h,n,k⟩=some (.rng j):=by
 show (match h l with | some (.list _)=>some (It.list l) | some (.tup _)=>some (.tup l) | some (.rng n)=>some (.rng n) | _=>none)=_
 rw [e]
theorem at_rng {j i:Nat}:itemAt (.rng j) i ⟨L,h,n,k⟩=some (((List.range j).map fun x:Nat=>AV.int x)[i]?):=by
 show some (if (i:Int) < (j:Int) then some (AV.int i) else none)=_
 congr 1
 by_cases q:i < j
 ·rw [if_pos (by lia),List.getElem?_map,List.getElem?_range q];rfl
 ·rw [if_neg (by lia),List.getElem?_eq_none (by simp;lia)]
theorem f17 (m:Nat){b:Bool}(R:Rep A cl ql (setT Φ t T) G h n)(hk:k≤1)(hx:T x≠none)(hc:climb T 100 p x=some b)(hQ:∀ h' n',Rep A cl ql (setT Φ t T) G h' n'→Q (.bool b) L h' n' k):Wp (callF sg (m+1) 17 [.loc (A t p),.loc (A t x)] ⟨L,h,n,k⟩) Q E:=by
 refine c_in rfl rfl ?_
 show Wp (execs sg _ b17 ⟨[(62,.loc (A t p)),(63,.loc (A t x))],h,n,k⟩) _ _
 delta b17
 refine xo1_1 (nNone hx) fun nx hx=>?_
 walk_at "r"
 refine x_for ?_
 walk_at "r"
 refine bi_range (by decide) ?_
 have R1:=R.junk (.rng 100)
 refine⟨_,it_rng (upd_same ..),?_⟩
 generalize upd h n (.rng 100)=hr at R1 ⊢
 generalize n+1=nr at R1 ⊢
 refine forN_wp (xs:=(List.range 100).map fun x:Nat=>AV.int x) (fun j L h n1 k'=>k'=k∧h=hr∧n1=nr∧get? L 63=some (.loc (A t x))∧∃ q,get? L 25=some (.loc (A t q))∧climb T (100 - j) q x=some b)
  (fun j L h n k' w=>⟨at_rng,w.1 ▸ hk⟩) (fun j v L h n k' hv w=>?_) (fun L h n k' w=>?_) 100000 0 (by simp) (Nat.zero_le _) ⟨rfl,rfl,rfl,rfl,p,rfl,hc⟩
 ·refine xm_aaaaeaa w fun e0_ e1_ e2_ w1 q w2 w3=>?_;clear w;obtain rfl:=e0_;obtain rfl:=e1_;obtain rfl:=e2_
  have jl:j < 100:=by have:=(List.getElem?_eq_some_iff.mp hv).1;simpa using this
  obtain⟨f,hf⟩:∃ f,100 - j=f+1:=⟨100 - j - 1,(Nat.sub_add_cancel (Nat.sub_pos_of_lt (by assumption))).symm⟩
  rw [hf] at w3
  rw [climb_s] at w3
  cases hq:T q with
  | none=>rw [hq] at w3;exact nsE w3
  | some nq=>
   rw [hq] at w3
   dsimp only at w3
   cases hpq:nq.par with
   | none=>rw [hpq] at w3;exact nsE w3
   | some r=>
    rw [hpq] at w3
    dsimp only at w3
    cases hr:T r with
    | none=>rw [if_pos hr] at w3;exact nsE w3
    | some nr=>
     rw [if_neg (by rw [hr];nofun)] at w3
     refine t_nm ?_
     have l25:get? (put L 65 v) 25=some (.loc (A t q)):=by rw [get_put_ne _ _ (by decide)];exact w2
     walk_at "r"
     refine R1.getPar hq hpq ?_
     have m25:get? (put (put L 65 v) 25 (.loc (A t r))) 25=some (.loc (A t r)):=get_put _ _ _
     have m63:get? (put (put L 65 v) 25 (.loc (A t r))) 63=some (.loc (A t x)):=by rw [get_put_ne _ _ (by decide),get_put_ne _ _ (by decide)];exact w1
     walk_at "r"
     refine R1.getId hr ?_
     walk_at "r"
     refine R1.getId hx ?_
     walk_at "r"
     refine it_s (fun z=>?_) fun z=>?_
     ·have z:=of_decide_eq_true z
      rw [if_pos z] at w3
      obtain rfl:=Option.some.inj w3
      walk_at "r"
      exact hQ _ _ R1
     ·have z:=of_decide_eq_false z
      rw [if_neg z] at w3
      walk_at "r"
      refine R1.getId hr ?_
      walk_at "r"
      refine it_s (fun z=>?_) fun z=>?_
      ·have z:=of_decide_eq_true z
       rw [if_pos z] at w3
       obtain rfl:=Option.some.inj w3
       walk_at "r"
       exact hQ _ _ R1
      ·have z:=of_decide_eq_false z
       rw [if_neg z] at w3
       walk_at "r"
       exact⟨rfl,rfl,rfl,m63,r,m25,by rw [show 100 - (j+1)=f by lia];exact w3⟩
 ·refine xm_aaaaeaa w fun e0_ e1_ e2_ w1 q w2 w3=>?_;clear w;obtain rfl:=e0_;obtain rfl:=e1_;obtain rfl:=e2_
  rw [List.length_map,List.length_range] at w3;exact nsE w3
theorem f20 (m:Nat){np nc:Nd}(R:Rep A cl ql (setT Φ t T) G h n)(hk:k≤1)(hp:T p=some np)(hc:T x=some nc)(hpc:p≠x)(hlen:np.kids.length≤1000)(hg:Hang (addChild (setN T p { np with kids:=[],queue:=[],lw:=0 }) p x) x np.kids)
  (hQ:∀ cl' ql' h' n',Rep A cl' ql' (setT Φ t (addExcl T p x)) G h' n'→Q .none L h' n' k):Wp (callF sg (m+6) 20 [.loc a,.loc (A t p),.loc (A t x)] ⟨L,h,n,k⟩) Q E:=by
 refine c_in rfl rfl ?_
 show Wp (execs sg _ b20 ⟨[(20,.loc a),(82,.loc (A t p)),(83,.loc (A t x))],h,n,k⟩) _ _
 delta b20
 walk_at "r"
 refine⟨_,R.meth hp rfl rfl,?_⟩
 walk_at "r"
 refine c_fn rfl rfl (f7 m R hk hp hc hpc hlen hg fun cl' ql' h' n' R'=>⟨trivial,?_⟩)
 walk_at "r"
 exact hQ _ _ _ _ R'
theorem TR.newA {l:Nat}(X:TR A t a d mx es T G)(hx:T x=none)(h0:x≠0):TR (updA A t x l) t a d mx es T G:=by
 refine⟨?_,X.dict,fun i=>?_,X.len⟩
 ·have:updA A t x l t 0=A t 0:=updA_ne _ _ fun w=>h0 w.2.symm
  show G a=some (.inst 68 [(70,.loc (updA A t x l t 0)),_,_])
  rw [this];exact X.obj
 ·rw [X.ent]
  cases q:T i with
  | none=>rfl
  | some y=>show some _=some _;rw [updA_ne _ _ fun w=>by rw [w.2,hx] at q;cases q]
structure Takes (T:Tr) (p:Int) (np:Nd):Prop where
 at_:T p=some np
 q:∀ y∈np.queue,T y.2≠none
 ql:np.queue.length≤1000
 kl:np.kids.length≤1000
theorem Takes.new {np:Nd}(x:Takes T p np){i:Int}(h:p≠i)(nd:Nd):Takes (setN T i nd) p np:=⟨(setN_ne _ _ h).trans x.at_,fun y hy=>setN_dom (x.q y hy),x.ql,x.kl⟩
theorem upd_self {l:Nat}{o:AO}(e:h l=some o):upd h l o=h:=by
 funext x
 unfold upd
 by_cases q:x=l
 ·rw [if_pos q,q,e]
 ·rw [if_neg q]
noncomputable def hangX (T:Tr) (p x:Int) (ex:Bool):Tr:=if ex=true then addExcl T p x else addChild T p x
noncomputable def HangOk (T:Tr) (p x:Int) (ex:Bool) (np:Nd):Prop:=ex=true→Hang (addChild (setN T p { np with kids:=[],queue:=[],lw:=0 }) p x) x np.kids
structure Par (t a d:Nat) (mx:Int) (G:Hp) (p x:Int) (ex:Bool) (A:Ad) (es:List (AV×AV)) (T:Tr):Prop where
 tr:∃ S,TR A t a d mx es S (upd G d (.dict es))
 np:∃ np,Takes T p np∧HangOk T p x ex np
 x:T x≠none
theorem f21 (m:Nat){w:Int}{pv:AV}{ex:Bool}{S:Tr}{QQ:Ad→List (AV×AV)→Tr→Prop}(R:Rep A cl ql (setT Φ t T) G h n)(hk:k≤1)(X:TR A t a d mx es S G)(hmx:(es.length:Int)+1≤mx)(hx:S x=none)(no:NoRef T x)(x0:x≠0)(px:p≠x)(hpv:pv=.int p∨(pv=.none∧p=0))(hw:1≤w∧w≤256)
  (h19:∀ {cl1 ql1:Ad} {h1:Hp} {n1:Nat} {L1:Lo} {Q:Pst AV} {E:Est},n < n1→Rep (updA A t x n) cl1 ql1 (setT Φ t (setN T x (nd0 w))) G h1 n1→(∀ A2 cl2 ql2 es2 T2 h2 n2,A2 t x=n→Rep A2 cl2 ql2 (setT Φ t T2) (upd G d (.dict es2)) h2 n2→Par t a d mx G p x ex A2 es2 T2→QQ A2 es2 T2→Q (.loc (A2 t p)) L1 h2 n2 k)→Wp (callF sg (m+6) 19 [.loc a,.int p] ⟨L1,h1,n1,k⟩) Q E)
  (hQ:∀ A2 cl' ql' es2 T2 h' n',QQ A2 es2 T2→Rep A2 cl' ql' (setT Φ t (hangX T2 p x ex)) (upd G d (.dict (dput es2 (.int x) (.loc n)))) h' n'→Q .none L h' n' k) :
  Wp (callF sg (m+7) 21 [.loc a,.int x,pv,.int w,.bool ex] ⟨L,h,n,k⟩) Q E:=by
 refine c_in rfl rfl ?_
 show Wp (execs sg _ b21 ⟨[(20,.loc a),(21,.int x),(85,pv),(22,.int w),(86,.bool ex)],h,n,k⟩) _ _
 delta b21
 delta b21s0 b21s1 b21s2 b21s3
 walk_at "r"
 refine getT R X rfl rfl rfl ?_
 refine k_in (R.old _ _ X.dict) ?_
 walk_at "r"
 refine it_f (by rw [X.no hx];rfl) ?_
 walk_at "r"
 refine getT R X rfl rfl rfl ?_
 walk_at "r"
 refine bi_dlen (R.old _ _ X.dict) ?_
 walk_at "r"
 refine getT R X rfl rfl rfl ?_
 walk_at "r"
 refine it_f (decide_eq_false (by (clear h19 hQ hw hpv px x0 hk;lia))) ?_
 walk_at "r"
 refine c_stream (m+4) R (by rw [setT_same];exact no) hk (fun _ cl1 ql1 h1 n1 ln R1=>?_) fun e=>(e hw).elim
 rw [setT_setT,setT_same] at R1
 have X1:=X.newA (l:=n) hx x0
 have rest:∀ (L1:Lo),get? L1 20=some (.loc a)→get? L1 21=some (.int x)→get? L1 85=some (.int p)→get? L1 86=some (.bool ex)→get? L1 46=some (.loc n)→
   Wp (execs sg (callF sg (m+6)) (match b21 with | .cons _ (.cons _ (.cons _ (.cons _ r)))=>r | _=>.nil) ⟨L1,h1,n1,k⟩) (Back L Q) fun c cl _ h n k=>E c cl L h n k:=fun L1 l20 l21 l85 l86 l46=>by
  delta b21
  delta b21s4 b21s5 b21s6 b21s7
  dsimp only
  have store:∀ {A2:Ad} {T1 S1:Tr} {es2:List (AV×AV)} {cl2 ql2:Ad} {h2:Hp} {n2:Nat} {L2:Lo} {r:Ss} {p1 p2 p3 p4 p5 p6:Pos} {Q':Pst Fl} {E':Est},Rep A2 cl2 ql2 (setT Φ t T1) (upd G d (.dict es2)) h2 n2→TR A2 t a d mx es2 S1 (upd G d (.dict es2))→get? L2 20=some (.loc a)→get? L2 21=some (.int x)→get? L2 46=some (.loc n)→
    (∀ h3,Rep A2 cl2 ql2 (setT Φ t T1) (upd G d (.dict (dput es2 (.int x) (.loc n)))) h3 n2→Wp (execs sg (callF sg (m+6)) r ⟨L2,h3,n2,k⟩) Q' E')→
    Wp (execs sg (callF sg (m+6)) (.cons (.asg (.sub (.attr (.lv 20 p1) 71 p2) (.lv 21 p3) p4) (.lv 46 p5) p6) r) ⟨L2,h2,n2,k⟩) Q' E':=fun {A2 T1 S1 es2 cl2 ql2 h2 n2 L2 r p1 p2 p3 p4 p5 p6 Q' E'} R2 X2 m20 m21 m46 go=>by
   walk_at "r"
   refine getT R2 X2 rfl rfl rfl ?_
   walk_at "r"
   refine j_dict (R2.old _ _ X2.dict) (by have:=X2.len;(clear ln hw hpv px x0 hk hmx;lia)) ?_
   refine go_next (go _ ?_)
   have:=R2.put X2.dict rfl (.dict (dput es2 (.int x) (.loc n)))
   rw [upd_upd] at this
   exact this
  walk_at "r"
  cases ex with
  | true=>
   walk_at "r"
   refine⟨_,methT R1 X1 rfl rfl,?_⟩
   walk_at "r"
   refine c_fn rfl rfl (h19 ln R1 fun A2 cl2 ql2 es2 T2 h2 n2 eA R2 P q2=>?_)
   refine xo1_1 P.tr fun S2 X2=>?_
   refine xo1_2 P.np fun np tk hg=>?_
   refine xo1_1 (nNone P.x) fun nx hnx=>?_
   have l20':get? (put L1 82 (.loc (A2 t p))) 20=some (.loc a):=by rw [get_put_ne _ _ (by decide)];exact l20
   have l21':get? (put L1 82 (.loc (A2 t p))) 21=some (.int x):=by rw [get_put_ne _ _ (by decide)];exact l21
   have l46':get? (put L1 82 (.loc (A2 t p))) 46=some (.loc n):=by rw [get_put_ne _ _ (by decide)];exact l46
   have l46x:get? (put L1 82 (.loc (A2 t p))) 46=some (.loc (A2 t x)):=by rw [eA];exact l46'
   have l82':get? (put L1 82 (.loc (A2 t p))) 82=some (.loc (A2 t p)):=get_put _ _ _
   refine go_next ?_
   refine xs_cons (x_expr (e_mcall (e_lv l20' ?_)))
   refine⟨_,methT R2 X2 rfl rfl,?_⟩
   refine es_cons (e_lv l82' (es_cons (e_lv l46x (es_nil (ks_nil ?_)))))
   refine c_fn rfl rfl (f20 m R2 hk tk.at_ hnx px tk.kl (hg rfl) fun cl3 ql3 h3 n3 R3=>⟨trivial,?_⟩)
   refine go_next (store R3 X2 l20' l21' l46' fun h4 R4=>?_)
   walk_at "r"
   exact hQ _ _ _ _ _ _ _ q2 R4
  | false=>
   walk_at "r"
   refine⟨_,methT R1 X1 rfl rfl,?_⟩
   walk_at "r"
   refine c_fn rfl rfl (h19 ln R1 fun A2 cl2 ql2 es2 T2 h2 n2 eA R2 P q2=>?_)
   refine xo1_1 P.tr fun S2 X2=>?_
   refine xo1_2 P.np fun np tk hg=>?_
   refine xo1_1 (nNone P.x) fun nx hnx=>?_
   have l20':get? (put L1 25 (.loc (A2 t p))) 20=some (.loc a):=by rw [get_put_ne _ _ (by decide)];exact l20
   have l21':get? (put L1 25 (.loc (A2 t p))) 21=some (.int x):=by rw [get_put_ne _ _ (by decide)];exact l21
   have l46':get? (put L1 25 (.loc (A2 t p))) 46=some (.loc n):=by rw [get_put_ne _ _ (by decide)];exact l46
   have l46x:get? (put L1 25 (.loc (A2 t p))) 46=some (.loc (A2 t x)):=by rw [eA];exact l46'
   have l25':get? (put L1 25 (.loc (A2 t p))) 25=some (.loc (A2 t p)):=get_put _ _ _
   refine go_next ?_
   refine xs_cons (x_expr (e_mcall (e_lv l25' ?_)))
   refine⟨_,R2.meth tk.at_ rfl rfl,?_⟩
   refine es_cons (e_lv l46x (es_nil (ks_nil ?_)))
   refine c_fn rfl rfl (f6 (m+2) R2 tk.at_ hnx px tk.q tk.ql tk.kl fun h3 n3 R3=>⟨trivial,?_⟩)
   refine go_next (store R3 X2 l20' l21' l46' fun h4 R4=>?_)
   walk_at "r"
   exact hQ _ _ _ _ _ _ _ q2 R4
 rcases hpv with rfl | ⟨rfl,rfl⟩
 ·walk_at "r"
  refine t_int ?_
  walk_at "r"
  refine it_s (fun z=>?_) fun z=>?_
  ·have z:p=0:=by simpa using z
   refine xs_cons (x_asg (e_ci (go_next (xs_nil (go_next ?_)))))
   refine rest _ ?a1 ?a2 ?a3 ?a4 ?a5
   ·rfl
   ·rfl
   ·rw [z];exact get_put _ _ _
   ·rfl
   ·rfl
  ·walk_at "r"
   refine it_f (decide_eq_false px) ?_
   refine xs_nil (go_next (xs_nil (go_next ?_)))
   refine rest _ ?b1 ?b2 ?b3 ?b4 ?b5
   all_goals rfl
 ·refine go_next (xs_cons (x_ife (e_not (e_lv rfl (t_none (t_bool (it_t rfl (xs_cons (x_asg (e_ci (go_next (xs_nil (go_next ?_)))))))))))))
  refine rest _ ?c1 ?c2 ?c3 ?c4 ?c5
  all_goals rfl
theorem f21p (m:Nat){w:Int}{pv:AV}{ex:Bool}{S:Tr}{np:Nd}(R:Rep A cl ql (setT Φ t T) G h n)(hk:k≤1)(X:TR A t a d mx es S G)(hmx:(es.length:Int)+1≤mx)(hx:S x=none)(no:NoRef T x)(x0:x≠0)(px:p≠x)(hpv:pv=.int p∨(pv=.none∧p=0))(hw:1≤w∧w≤256)
  (hS:S p≠none) (tk:Takes T p np) (hg:HangOk (setN T x (nd0 w)) p x ex np)
  (hQ:∀ cl' ql' h' n',Rep (updA A t x n) cl' ql' (setT Φ t (putIn T p x w ex)) (upd G d (.dict (dput es (.int x) (.loc n)))) h' n'→Q .none L h' n' k) :
  Wp (callF sg (m+7) 21 [.loc a,.int x,pv,.int w,.bool ex] ⟨L,h,n,k⟩) Q E:=by
 have X1:=X.newA (l:=n) hx x0
 refine f21 m (QQ:=fun A2 es2 T2=>A2=updA A t x n∧es2=es∧T2=setN T x (nd0 w)) R hk X hmx hx no x0 px hpv hw (fun {cl1 ql1 h1 n1 L1 Q' E'} _ R1 q=>f19 (m+5) R1 X1 hS (q _ cl1 ql1 es _ _ _ (updA_same ..) ?_ ⟨⟨S,?_⟩,⟨np,tk.new px _,hg⟩,by rw [setN_same];nofun⟩ ⟨rfl,rfl,rfl⟩)) fun A2 cl' ql' es2 T2 h' n' q R'=>?_
 ·rw [upd_self X.dict];exact R1
 ·rw [upd_self X.dict];exact X1
 ·obtain⟨rfl,rfl,rfl⟩:=q
  exact hQ _ _ _ _ R'
end
end
section
open PySem PySem.W PyProof.Rows
noncomputable def delN (T:Tr) (x:Int):Tr:=fun j=>if j=x then none else T j
noncomputable def takeOut (T:Tr) (q x:Int):Tr:=delN (rmChild T q x true) x
structure Gives (T:Tr) (q x:Int) (nq nx:Nd):Prop where
 at_:T q=some nq
 c:T x=some nx
 par:nx.par=some q
 ne:q≠x
 mem:x∈nq.kids
 kids:∀ y∈nq.kids,T y≠none
 q:∀ y∈nq.queue,T y.2≠none
 kl:nq.kids.length≤1000
 ql:nq.queue.length≤1000
section
variable {C:Nat→List AV→St→R AV}{E:Est}{k n:Nat}{h:Hp}{L:Lo}{a d:Nat}{A cl ql:Ad}{G:Hp}{Φ:Fo}{t:Nat}{i x p q:Int}{nd nq nx:Nd}{T:Tr}{mx:Int}{es:List (AV×AV)}{Q:Pst AV}
theorem Rep.forget (R:Rep A cl ql (setT Φ t T) G h n)(x:Int):Rep A cl ql (setT Φ t (delN T x)) G h n:=by
 have s:∀ {u:Nat} {j:Int} {y:Nd},setT Φ t (delN T x) u j=some y→setT Φ t T u j=some y:=fun {u j y} e=>by
  by_cases w:u=t
  ·subst w
   rw [setT_same] at e ⊢
   unfold delN at e
   split at e
   ·exact nsE e
   ·exact e
  ·rw [setT_ne _ _ w] at e ⊢;exact e
 have d:∀ {u:Nat} {j:Int},setT Φ t (delN T x) u j≠none→setT Φ t T u j≠none:=fun e=>by
  refine xo1_1 (nNone e) fun y hy=>?_
  rw [s hy];nofun
 exact⟨fun u j y e=>R.node _ _ _ (s e),fun u j y e=>R.kids _ _ _ (s e),fun u j y e=>R.queue _ _ _ (s e),fun _ _ _ _ e e'=>R.aa _ _ _ _ (d e) (d e'),fun _ _ _ _ e e'=>R.cc _ _ _ _ (d e) (d e'),fun _ _ _ _ e e'=>R.qq _ _ _ _ (d e) (d e'),fun _ _ _ _ e e'=>R.cq _ _ _ _ (d e) (d e'),R.old,fun l o e u j e'=>R.free l o e u j (d e'),R.lt⟩
theorem f23 (m:Nat)(R:Rep A cl ql (setT Φ t T) G h n)(hk:k≤1)(X:TR A t a d mx es T G)(x0:x≠0)(g:Gives T q x nq nx)(g1:Hang (cutChild T q x) q nx.kids)(g2:nx.kids.length≤1000)
  (hQ:∀ ql' h' n',Rep A cl ql' (setT Φ t (takeOut T q x)) (upd G d (.dict (ddel es (.int x)))) h' n'→Q .none L h' n' k):Wp (callF sg (m+6) 23 [.loc a,.int x] ⟨L,h,n,k⟩) Q E:=by
 refine c_in rfl rfl ?_
 show Wp (execs sg _ b23 ⟨[(20,.loc a),(21,.int x)],h,n,k⟩) _ _
 delta b23
 walk_at "r"
 refine it_f (decide_eq_false x0) ?_
 walk_at "r"
 refine x_try ?_
 walk_at "r"
 refine getT R X rfl rfl rfl ?_
 refine⟨_,m_dpop (R.old _ _ X.dict),?_⟩
 walk_at "r"
 refine c_dpop (R.old _ _ X.dict) (X.at_ (by rw [g.c];nofun)) ?_
 have R1:=R.put X.dict rfl (.dict (ddel es (.int x)))
 walk_at "r"
 refine R1.getPar g.c g.par ?_
 walk_at "r"
 refine⟨_,R1.meth g.at_ rfl rfl,?_⟩
 walk_at "r"
 refine c_fn rfl rfl (f8 m R1 hk g.at_ g.c g.ne g.mem g.kids g.q g.kl g.ql (fun _=>⟨g1,g2⟩) fun ql' h' n' R2=>⟨trivial,?_⟩)
 walk_at "r"
 exact hQ _ _ _ (R2.forget x)
end
end
section
open PySem
theorem nodup_len {xs:List Int}(h:xs.Nodup):∀ {ys:List Int},(∀ x∈xs,x∈ys)→xs.length≤ys.length:=by
 induction xs with
 | nil=>intro ys _;exact Nat.zero_le _
 | cons a r ih=>
  intro ys hs
  rw [List.nodup_cons] at h
  have ha:=hs a (.head _)
  have:=ih h.2 (ys:=ys.erase a) fun x hx=>(List.mem_erase_of_ne (show x≠a from fun w=>h.1 (by rw [← w];exact hx))).mpr (hs x (.tail _ hx))
  rw [List.length_erase_of_mem ha] at this
  have p:0 < ys.length:=List.length_pos_of_mem ha
  simp only [List.length_cons]
  lia
inductive SB (T:Tr) (p:Int):Int→Prop
 | kid {np i}:T p=some np→i∈np.kids→SB T p i
 | more {u nu i}:SB T p u→T u=some nu→i∈nu.kids→SB T p i
structure WD (M:Nat) (T:Tr) (D:Int→Prop):Prop where
 root:∃ r,T 0=some r∧r.act=false∧r.par=none
 w:∀ i nd,T i=some nd→1≤nd.w∧nd.w≤256
 up:∀ i nd,T i=some nd→i≠0→¬ D i→∃ p np,nd.par=some p∧T p=some np∧i∈np.kids
 down:∀ p np,T p=some np→∀ i∈np.kids,i≠0∧¬ D i∧∃ nd,T i=some nd∧nd.par=some p
 kq:∀ p np,T p=some np→(np.queue.map (·.2)).Perm np.kids
 nodup:∀ p np,T p=some np→np.kids.Nodup
 rank:∃ rk:Int→Nat,∀ p np,T p=some np→∀ i∈np.kids,rk p < rk i
 fin:∃ ids:List Int,ids.length≤M∧∀ i,T i≠none→i∈ids
abbrev WT (M:Nat) (T:Tr):Prop:=WD M T fun _=>False
section
variable {M:Nat}{T T':Tr}{x p q i:Int}{np nx nd:Nd}{y:Int→Prop}
theorem WD.kidsLen (W:WD M T y)(h:T p=some np):np.kids.length≤M:=by
 refine xo1_2 W.fin fun ids h1 h2=>?_
 refine Nat.le_trans (nodup_len (W.nodup _ _ h) fun k hk=>h2 k ?_) h1
 refine xm_aaeaa (W.down _ _ h k hk) fun _ _ nd e _=>?_
 rw [e];nofun
theorem WD.queueLen (W:WD M T y)(h:T p=some np):np.queue.length≤M:=by
 have:=(W.kq _ _ h).length_eq
 rw [List.length_map] at this
 rw [this];exact W.kidsLen h
theorem WD.kid (W:WD M T y)(h:T p=some np)(hk:i∈np.kids):T i≠none:=by
 refine xm_aaeaa (W.down _ _ h i hk) fun _ _ nd e _=>?_
 rw [e];nofun
theorem WD.inQ (W:WD M T y)(h:T p=some np){z:Int×Int}(hz:z∈np.queue):z.2∈np.kids:=(W.kq _ _ h).mem_iff.mp (List.mem_map.mpr ⟨z,hz,rfl⟩)
theorem WD.takes (W:WD M T y)(hM:M≤900)(h:T p=some np):Takes T p np:=⟨h,fun z hz=>W.kid h (W.inQ h hz),by have:=W.queueLen h;lia,by have:=W.kidsLen h;lia⟩
theorem WD.notSelf (W:WD M T y)(h:T p=some np):p ∉ np.kids:=fun hk=>by
 refine xo1_1 W.rank fun rk r=>?_
 have:=r _ _ h p hk
 lia
theorem WD.gives (W:WD M T y)(hM:M≤900)(hx:T x=some nx)(h0:x≠0)(hy:¬ y x):∃ q nq,nx.par=some q∧Gives T q x nq nx:=by
 refine xo2_3 (W.up _ _ hx h0 hy) fun q nq h1 h2 h3=>?_
 exact⟨q,nq,h1,h2,hx,h1,fun w=>by subst w;exact W.notSelf h2 h3,h3,fun y hy=>W.kid h2 hy,fun z hz=>W.kid h2 (W.inQ h2 hz),by have:=W.kidsLen h2;lia,by have:=W.queueLen h2;lia⟩
theorem WD.noRef (W:WD M T fun _=>False)(h:T x=none):NoRef T x:=⟨h,fun j nd e=>⟨fun hk=>W.kid e hk h,fun z hz w=>W.kid e (W.inQ e hz) (w ▸ h),fun w=>by
 by_cases q:j=0
 ·refine xo1_3 W.root fun r h1 _ h2=>?_
  rw [q,h1] at e;obtain rfl:=Option.some.inj e
  rw [h2] at w;exact nsE w
 ·refine xo2_3 (W.up _ _ e q id) fun p np h1 h2 _=>?_
  rw [w] at h1;obtain rfl:=Option.some.inj h1
  rw [h] at h2;cases h2⟩⟩
theorem WD.ws (W:WD M T y)(hM:M≤900):∃ rk:Int→Nat,WS T rk∧∀ i,rk i≤M:=by
 refine xo1_1 W.rank fun rk r=>?_
 refine xo1_2 W.fin fun ids h1 h2=>?_
 refine⟨fun i=>(ids.filter fun j=>decide (rk i < rk j)).length,⟨W.w,fun j nd e=>by have:=W.queueLen e;lia,fun j nd e z hz=>?_⟩,fun i=>Nat.le_trans (List.length_filter_le _ _) h1⟩
 have hk:=W.inQ e hz
 have lt:=r _ _ e _ hk
 refine⟨W.kid e hk,?_⟩
 show (ids.filter fun k=>decide (rk z.2 < rk k)).length < (ids.filter fun k=>decide (rk j < rk k)).length
 have mz:z.2∈ids:=h2 _ (W.kid e hk)
 have key:∀ l:List Int,z.2∈l→(l.filter fun k=>decide (rk z.2 < rk k)).length < (l.filter fun k=>decide (rk j < rk k)).length:=fun l=>by
  have le:∀ l:List Int,(l.filter fun k=>decide (rk z.2 < rk k)).length≤(l.filter fun k=>decide (rk j < rk k)).length:=fun l=>by
   induction l with
   | nil=>exact Nat.le_refl _
   | cons a r ih=>
    rw [List.filter_cons,List.filter_cons]
    by_cases q1:rk z.2 < rk a
    ·rw [if_pos (by simpa using q1),if_pos (by simp;(clear ih h1 hM;lia))]
     exact Nat.succ_le_succ ih
    ·rw [if_neg (by simpa using q1)]
     split
     ·exact Nat.le_succ_of_le ih
     ·exact ih
  induction l with
  | nil=>intro h;exact absurd h nofun
  | cons a r ih=>
   intro h
   rw [List.filter_cons,List.filter_cons]
   by_cases q:z.2=a
   ·rw [if_neg (by rw [q];simp),if_pos (by rw [← q];simpa using lt)]
    exact Nat.lt_succ_of_le (le r)
   ·have:=ih ((List.mem_cons.mp h).resolve_left q)
    by_cases q1:rk z.2 < rk a
    ·rw [if_pos (by simpa using q1),if_pos (by simp;(clear this q ih h1 hM;lia))]
     exact Nat.succ_lt_succ this
    ·rw [if_neg (by simpa using q1)]
     split
     ·exact Nat.lt_succ_of_lt this
     ·exact this
 exact key ids mz
theorem WD.touch (W:WD M T y)(hx:T x=some nx){nx':Nd}(hw:1≤nx'.w∧nx'.w≤256)(h0:x=0→nx'.act=false)(hp:nx'.par=nx.par)(hk:nx'.kids=nx.kids)(hq:(nx'.queue.map (·.2)).Perm (nx.queue.map (·.2))):WD M (setN T x nx') y:=by
 have at':∀ {i nd},setN T x nx' i=some nd→∃ nd0,T i=some nd0∧nd.par=nd0.par∧nd.kids=nd0.kids∧(nd.queue.map (·.2)).Perm (nd0.queue.map (·.2))∧1≤nd.w∧nd.w≤256:=fun {i nd} e=>by
  by_cases q:i=x
  ·subst q;rw [setN_same] at e;cases e;exact⟨nx,hx,hp,hk,hq,hw⟩
  ·rw [setN_ne _ _ q] at e;exact⟨nd,e,rfl,rfl,.refl _,W.w _ _ e⟩
 have to:∀ {i nd},T i=some nd→∃ nd',setN T x nx' i=some nd'∧nd'.par=nd.par∧nd'.kids=nd.kids:=fun {i nd} e=>by
  by_cases q:i=x
  ·subst q;rw [hx] at e;cases e;exact⟨nx',setN_same ..,hp,hk⟩
  ·exact⟨nd,(setN_ne _ _ q).trans e,rfl,rfl⟩
 refine⟨?_,fun i nd e=>?_,fun i nd e h0 hy=>?_,fun p np e i hi=>?_,fun p np e=>?_,fun p np e=>?_,?_,?_⟩
 ·refine xo1_3 W.root fun r h1 h2 h3=>?_
  by_cases q:(0:Int)=x
  ·subst q;rw [hx] at h1;cases h1;exact⟨nx',setN_same ..,h0 rfl,hp.trans h3⟩
  ·exact⟨r,(setN_ne _ _ q).trans h1,h2,h3⟩
 ·obtain⟨_,_,_,_,_,h⟩:=at' e;exact h
 ·refine xo1_5 (at' e) fun nd0 e1 e2 e3 e4 _=>?_
  refine xo2_3 (W.up _ _ e1 h0 hy) fun p np h1 h2 h3=>?_
  refine xo1_3 (to h2) fun np' g1 g2 g3=>?_
  exact⟨p,np',e2.trans h1,g1,by rw [g3];exact h3⟩
 ·refine xo1_5 (at' e) fun nd0 e1 e2 e3 e4 _=>?_
  rw [e3] at hi
  refine xm_aaeaa (W.down _ _ e1 i hi) fun h1 h2 nd h3 h4=>?_
  refine xo1_3 (to h3) fun nd' g1 g2 g3=>?_
  exact⟨h1,h2,nd',g1,g2.trans h4⟩
 ·refine xo1_5 (at' e) fun nd0 e1 e2 e3 e4 _=>?_
  rw [e3];exact e4.trans (W.kq _ _ e1)
 ·refine xo1_5 (at' e) fun nd0 e1 e2 e3 e4 _=>?_
  rw [e3];exact W.nodup _ _ e1
 ·refine xo1_1 W.rank fun rk r=>?_
  refine⟨rk,fun p np e i hi=>?_⟩
  refine xo1_5 (at' e) fun nd0 e1 e2 e3 e4 _=>?_
  rw [e3] at hi
  exact r _ _ e1 i hi
 ·refine xo1_2 W.fin fun ids h1 h2=>?_
  refine⟨ids,h1,fun i hi=>h2 i fun w=>hi ?_⟩
  rw [setN_ne _ _ fun q=>by rw [q,hx] at w;cases w];exact w
theorem WD.like (W:WD M T y)(h:∀ j,OLike (T j) (T' j)):WD M T' y:=by
 refine⟨?_,fun i nd e=>?_,fun i nd e h0 hy=>?_,fun p np e i hi=>?_,fun p np e=>?_,fun p np e=>?_,?_,?_⟩
 ·refine xo1_3 W.root fun r h1 h2 h3=>?_
  refine xo1_2 ((h 0).get h1) fun r' g1 g2=>?_
  exact⟨r',g1,g2.act.trans h2,g2.par.trans h3⟩
 ·obtain⟨u,e1,e2⟩:=(h i).back e;rw [e2.w];exact W.w _ _ e1
 ·refine xo1_2 ((h i).back e) fun u e1 e2=>?_
  refine xo2_3 (W.up _ _ e1 h0 hy) fun p np h1 h2 h3=>?_
  refine xo1_2 ((h p).get h2) fun np' g1 g2=>?_
  exact⟨p,np',e2.par.trans h1,g1,by rw [g2.kids];exact h3⟩
 ·refine xo1_2 ((h p).back e) fun u e1 e2=>?_
  rw [e2.kids] at hi
  refine xm_aaeaa (W.down _ _ e1 i hi) fun h1 h2 nd h3 h4=>?_
  refine xo1_2 ((h i).get h3) fun nd' g1 g2=>?_
  exact⟨h1,h2,nd',g1,g2.par.trans h4⟩
 ·refine xo1_2 ((h p).back e) fun u e1 e2=>?_
  rw [e2.kids];exact e2.queue.trans (W.kq _ _ e1)
 ·refine xo1_2 ((h p).back e) fun u e1 e2=>?_
  rw [e2.kids];exact W.nodup _ _ e1
 ·refine xo1_1 W.rank fun rk r=>?_
  refine⟨rk,fun p np e i hi=>?_⟩
  refine xo1_2 ((h p).back e) fun u e1 e2=>?_
  rw [e2.kids] at hi
  exact r _ _ e1 i hi
 ·refine xo1_2 W.fin fun ids h1 h2=>?_
  exact⟨ids,h1,fun i hi=>h2 i fun w=>hi ((h i).none.mp w)⟩
end
end
section
open PySem
noncomputable def pushAll (lw:Int) (ks:List Int) (q:List (Int×Int)):List (Int×Int):=ks.foldl (fun q k=>qpush q (lw,k)) q
theorem pushAll_perm (lw:Int)(ks:List Int):∀ q,((pushAll lw ks q).map (·.2)).Perm (q.map (·.2)++ks):=by
 induction ks with
 | nil=>intro q;rw [List.append_nil];exact .refl _
 | cons k r ih=>
  intro q
  refine (ih (qpush q (lw,k))).trans ?_
  refine (((perm_qpush q (lw,k)).map _).append_right _).trans ?_
  rw [List.map_cons,List.cons_append]
  exact List.perm_middle.symm
noncomputable def hung (T:Tr) (p:Int) (ks:List Int) (np:Nd):Tr:=fun j=>
 if j=p then some { np with kids:=np.kids++ks,queue:=pushAll np.lw ks np.queue } else if j∈ks then (T j).map fun nd=>{ nd with par:=some p } else T j
section
variable {M:Nat}{T T':Tr}{x p q i:Int}{np nx nq nd:Nd}{y:Int→Prop}
theorem hangAll_eq (ks:List Int):∀ {T:Tr}{np:Nd},T p=some np→(∀ k∈ks,T k≠none∧k≠p)→hangAll T p ks=hung T p ks np:=by
 induction ks with
 | nil=>
  intro T np h _
  funext j
  show T j=if j=p then some { np with kids:=np.kids++[],queue:=np.queue } else if j∈[] then _ else T j
  by_cases q:j=p
  ·rw [if_pos q,q,h,List.append_nil]
  ·rw [if_neg q,if_neg (by simp)]
 | cons k r ih=>
  intro T np h hk
  refine xo0_2 (hk k (.head _)) fun h1 h2=>?_
  refine xo1_1 (nNone h1) fun nk h3=>?_
  have e:=addChild_eq h h3
  have:hangAll T p (k :: r)=hangAll (addChild T p k) p r:=rfl
  have hp':addChild T p k p=some { np with kids:=np.kids++[k],queue:=qpush np.queue (np.lw,k) }:=by rw [e];exact setN_same ..
  rw [this,ih hp' fun z hz=>⟨by
   rw [e,setN_ne _ _ (hk z (.tail _ hz)).2]
   exact setN_dom (hk z (.tail _ hz)).1,(hk z (.tail _ hz)).2⟩]
  funext j
  show (if j=p then _ else if j∈r then (addChild T p k j).map _ else addChild T p k j)=if j=p then _ else if j∈k :: r then _ else T j
  by_cases q:j=p
  ·rw [if_pos q,if_pos q,List.append_assoc];rfl
  ·rw [if_neg q,if_neg q,e,setN_ne _ _ q]
   by_cases qk:j=k
   ·subst qk
    have m:j∈j :: r:=.head _
    rw [setN_same,h3,if_pos m]
    split <;> rfl
   ·rw [setN_ne _ _ qk]
    by_cases m:j∈r
    ·rw [if_pos m,if_pos (List.mem_cons_of_mem _ m)]
    ·rw [if_neg m,if_neg (by simp [qk,m])]
theorem addChild_hang (T:Tr)(p c:Int):addChild T p c=hangAll T p [c]:=rfl
theorem Hang.of (ks:List Int):∀ {T:Tr}{nc:Nd},T x=some nc→(∀ k∈ks,T k≠none∧x≠k)→(∀ z∈nc.queue,T z.2≠none)→nc.queue.length+ks.length≤1000→nc.kids.length+ks.length≤1000→Hang T x ks:=by
 induction ks with
 | nil=>intros;trivial
 | cons k r ih=>
  intro T nc h hk hq l1 l2
  refine xo0_2 (hk k (.head _)) fun h1 h2=>?_
  refine xo1_1 (nNone h1) fun nk h3=>?_
  have e:=addChild_eq h h3
  have dom:∀ {j:Int},T j≠none→addChild T x k j≠none:=fun hj=>by rw [e];exact setN_dom (setN_dom hj)
  simp only [List.length_cons] at l1 l2
  refine⟨h2,⟨nc,h,hq,by (clear h2 l2;lia),by lia⟩,h1,ih (by rw [e];exact setN_same ..) (fun z hz=>⟨dom (hk z (.tail _ hz)).1,(hk z (.tail _ hz)).2⟩) (fun z hz=>?_) (by rw [qpush_len];(clear h2 l2;lia)) (by simp;(clear h2 l1;lia))⟩
  rcases qpush_mem hz with rfl | hz
  ·exact dom h1
  ·exact dom (hq z hz)
theorem WD.new (W:WT M T)(h:T x=none)(h0:x≠0){w:Int}(hw:1≤w∧w≤256):WD (M+1) (setN T x (nd0 w)) (·=x):=by
 have nx:∀ {i nd},T i=some nd→i≠x:=fun e q=>by rw [q,h] at e;exact nsE e
 have to:∀ {i nd},T i=some nd→setN T x (nd0 w) i=some nd:=fun e=>(setN_ne _ _ (nx e)).trans e
 have at':∀ {i nd},setN T x (nd0 w) i=some nd→(i=x∧nd=nd0 w)∨T i=some nd:=fun {i nd} e=>by
  by_cases q:i=x
  ·subst q;rw [setN_same] at e;cases e;exact .inl ⟨rfl,rfl⟩
  ·rw [setN_ne _ _ q] at e;exact .inr e
 refine⟨?_,fun i nd e=>?_,fun i nd e h0 hy=>?_,fun p np e i hi=>?_,fun p np e=>?_,fun p np e=>?_,?_,?_⟩
 ·obtain⟨r,h1,h2,h3⟩:=W.root;exact⟨r,to h1,h2,h3⟩
 ·rcases at' e with⟨_,rfl⟩ | e
  ·exact hw
  ·exact W.w _ _ e
 ·rcases at' e with⟨rfl,rfl⟩ | e
  ·exact (hy rfl).elim
  ·refine xo2_3 (W.up _ _ e h0 id) fun p np h1 h2 h3=>?_
   exact⟨p,np,h1,to h2,h3⟩
 ·rcases at' e with⟨_,rfl⟩ | e
  ·exact absurd hi nofun
  ·refine xm_aaeaa (W.down _ _ e i hi) fun h1 _ nd h3 h4=>?_
   exact⟨h1,fun w=>nx h3 w,nd,to h3,h4⟩
 ·rcases at' e with⟨_,rfl⟩ | e
  ·exact .refl _
  ·exact W.kq _ _ e
 ·rcases at' e with⟨_,rfl⟩ | e
  ·exact .nil
  ·exact W.nodup _ _ e
 ·refine xo1_1 W.rank fun rk r=>?_
  refine⟨rk,fun p np e i hi=>?_⟩
  rcases at' e with⟨_,rfl⟩ | e
  ·exact absurd hi nofun
  ·exact r _ _ e i hi
 ·refine xo1_2 W.fin fun ids h1 h2=>?_
  refine⟨x :: ids,by simp;(clear hw h0;lia),fun i hi=>?_⟩
  refine xo1_1 (nNone hi) fun nd e=>?_
  rcases at' e with⟨rfl,_⟩ | e
  ·exact .head _
  ·exact .tail _ (h2 i (by rw [e];nofun))
theorem requeue_perm (q:List (Int×Int))(c:Int):((requeue q c).map (·.2)).Perm ((q.map (·.2)).filter fun i=>decide (i≠c)):=by
 have:∀ (l acc:List (Int×Int)),((l.foldl qpush acc).map (·.2)).Perm (acc.map (·.2)++l.map (·.2)):=fun l=>by
  induction l with
  | nil=>intro acc;rw [List.map_nil,List.append_nil];exact .refl _
  | cons p r ih=>
   intro acc
   refine (ih (qpush acc p)).trans ?_
   refine (((perm_qpush acc p).map _).append_right _).trans ?_
   rw [List.map_cons,List.map_cons,List.cons_append]
   exact List.perm_middle.symm
 unfold requeue
 refine (this _ _).trans ?_
 rw [List.map_nil,List.nil_append,List.filter_map]
 exact .refl _
theorem cut_at (hq:T q=some nq){j:Int}{nd:Nd}(e:cutChild T q x j=some nd):∃ nd0,T j=some nd0∧nd.w=nd0.w∧nd.act=nd0.act∧nd.par=nd0.par∧nd.kids=(if j=q then nq.kids.erase x else nd0.kids)∧nd.queue=(if j=q then requeue nq.queue x else nd0.queue):=by
 unfold cutChild at e
 rw [hq] at e
 dsimp only at e
 by_cases w:j=q
 ·subst w;rw [setN_same] at e;cases e;exact⟨nq,hq,rfl,rfl,rfl,by rw [if_pos rfl],by rw [if_pos rfl]⟩
 ·rw [setN_ne _ _ w] at e;exact⟨nd,e,rfl,rfl,rfl,by rw [if_neg w],by rw [if_neg w]⟩
theorem cut_to (hq:T q=some nq){j:Int}{nd:Nd}(e:T j=some nd):∃ nd',cutChild T q x j=some nd'∧nd'.w=nd.w∧nd'.act=nd.act∧nd'.par=nd.par∧nd'.kids=(if j=q then nq.kids.erase x else nd.kids):=by
 unfold cutChild
 rw [hq]
 dsimp only
 by_cases w:j=q
 ·subst w;rw [hq] at e;cases e;exact⟨_,setN_same ..,rfl,rfl,rfl,by rw [if_pos rfl]⟩
 ·exact⟨nd,(setN_ne _ _ w).trans e,rfl,rfl,rfl,by rw [if_neg w]⟩
theorem WD.cut (W:WT M T)(hq:T q=some nq)(hx:T x=some nx)(hp:nx.par=some q)(h0:x≠0):WD M (cutChild T q x) (·=x):=by
 have sub:∀ {j nd},cutChild T q x j=some nd→∃ nd0,T j=some nd0∧(∀ i∈nd.kids,i∈nd0.kids∧i≠x)∧nd.par=nd0.par∧nd.w=nd0.w:=fun {j nd} e=>by
  refine xo1_6 (cut_at hq e) fun nd0 h1 h2 h3 h4 h5 h6=>?_
  refine⟨nd0,h1,fun i hi=>?_,h4,h2⟩
  rw [h5] at hi
  by_cases w:j=q
  ·rw [if_pos w] at hi
   subst w
   rw [hq] at h1;obtain rfl:=Option.some.inj h1
   have nd:=W.nodup _ _ hq
   exact⟨List.mem_of_mem_erase hi,fun w=>by rw [w] at hi;exact absurd hi (List.Nodup.not_mem_erase nd)⟩
  ·rw [if_neg w] at hi
   refine⟨hi,fun z=>?_⟩
   subst z
   refine xm_aaeaa (W.down _ _ h1 _ hi) fun _ _ nd' g1 g2=>?_
   rw [hx] at g1;obtain rfl:=Option.some.inj g1
   rw [hp] at g2;obtain rfl:=Option.some.inj g2
   exact w rfl
 refine⟨?_,fun i nd e=>?_,fun i nd e h0 hy=>?_,fun p np e i hi=>?_,fun p np e=>?_,fun p np e=>?_,?_,?_⟩
 ·refine xo1_3 W.root fun r h1 h2 h3=>?_
  refine xo1_5 (cut_to (x:=x) hq h1) fun r' g1 g2 g3 g4 g5=>?_
  exact⟨r',g1,g3.trans h2,g4.trans h3⟩
 ·obtain⟨nd0,h1,h2,_⟩:=cut_at hq e;rw [h2];exact W.w _ _ h1
 ·refine xo1_5 (cut_at hq e) fun nd0 h1 h2 h3 h4 _=>?_
  refine xo2_3 (W.up _ _ h1 h0 id) fun p np k1 k2 k3=>?_
  refine xo1_5 (cut_to (x:=x) hq k2) fun np' g1 g2 g3 g4 g5=>?_
  refine⟨p,np',h4.trans k1,g1,?_⟩
  rw [g5]
  split
  ·rename_i w
   rw [w,hq] at k2;obtain rfl:=Option.some.inj k2
   exact (List.mem_erase_of_ne fun w=>hy w).mpr k3
  ·exact k3
 ·refine xo1_4 (sub e) fun nd0 h1 h2 h3 _=>?_
  refine xo0_2 (h2 i hi) fun g1 g2=>?_
  refine xm_aaeaa (W.down _ _ h1 i g1) fun k1 _ nd k3 k4=>?_
  refine xo1_5 (cut_to (x:=x) hq k3) fun nd' m1 m2 m3 m4 m5=>?_
  exact⟨k1,fun w=>g2 w,nd',m1,m4.trans k4⟩
 ·refine xo1_6 (cut_at hq e) fun nd0 h1 h2 h3 h4 h5 h6=>?_
  rw [h5,h6]
  split
  ·have nd:=W.nodup _ _ hq
   refine (requeue_perm _ _).trans ?_
   rw [List.Nodup.erase_eq_filter nd]
   refine ((W.kq _ _ hq).filter _).trans (.of_eq (List.filter_congr fun y _=>?_))
   by_cases w:y=x <;> simp [w]
  ·exact W.kq _ _ h1
 ·refine xo1_6 (cut_at hq e) fun nd0 h1 h2 h3 h4 h5 h6=>?_
  rw [h5]
  split
  ·exact (W.nodup _ _ hq).erase x
  ·exact W.nodup _ _ h1
 ·refine xo1_1 W.rank fun rk r=>?_
  refine⟨rk,fun p np e i hi=>?_⟩
  refine xo1_3 (sub e) fun nd0 h1 h2 _=>?_
  exact r _ _ h1 i (h2 i hi).1
 ·refine xo1_2 W.fin fun ids h1 h2=>?_
  refine⟨ids,h1,fun i hi=>h2 i ?_⟩
  refine xo1_1 (nNone hi) fun nd e=>?_
  refine xo1_2 (cut_at hq e) fun nd0 h1 _=>?_
  rw [h1];nofun
end
end
section
open PySem
section
variable {M:Nat}{T T':Tr}{x p q i c:Int}{np nx nq nc nd:Nd}{D:Int→Prop}
theorem hung_at {ks:List Int}(h:T c=some nc){j:Int}{nd:Nd}(e:hung T c ks nc j=some nd):∃ nd0,T j=some nd0∧nd.w=nd0.w∧nd.act=nd0.act∧(j=c→nd.par=nd0.par∧nd.kids=nc.kids++ks∧nd.queue=pushAll nc.lw ks nc.queue)∧(j≠c→nd.kids=nd0.kids∧nd.queue=nd0.queue∧nd.par=if j∈ks then some c else nd0.par):=by
 unfold hung at e
 by_cases w:j=c
 ·rw [if_pos w] at e;cases e;subst w;exact⟨nc,h,rfl,rfl,fun _=>⟨rfl,rfl,rfl⟩,fun w=>(w rfl).elim⟩
 ·rw [if_neg w] at e
  by_cases m:j∈ks
  ·rw [if_pos m] at e
   refine xo1_2 (Option.map_eq_some_iff.mp e) fun nd0 e1 e2_=>?_;obtain rfl:=e2_
   exact⟨nd0,e1,rfl,rfl,fun z=>(w z).elim,fun _=>⟨rfl,rfl,by rw [if_pos m]⟩⟩
  ·rw [if_neg m] at e
   exact⟨nd,e,rfl,rfl,fun z=>(w z).elim,fun _=>⟨rfl,rfl,by rw [if_neg m]⟩⟩
theorem hung_to {ks:List Int}(h:T c=some nc){j:Int}{nd:Nd}(e:T j=some nd):∃ nd',hung T c ks nc j=some nd'∧nd'.w=nd.w∧nd'.act=nd.act∧(j=c→nd'.par=nd.par∧nd'.kids=nc.kids++ks)∧(j≠c→nd'.kids=nd.kids∧nd'.par=if j∈ks then some c else nd.par):=by
 unfold hung
 by_cases w:j=c
 ·rw [if_pos w];subst w;rw [h] at e;cases e;exact⟨_,rfl,rfl,rfl,fun _=>⟨rfl,rfl⟩,fun w=>(w rfl).elim⟩
 ·rw [if_neg w]
  by_cases m:j∈ks
  ·rw [if_pos m,e];exact⟨_,rfl,rfl,rfl,fun z=>(w z).elim,fun _=>⟨rfl,by rw [if_pos m]⟩⟩
  ·rw [if_neg m];exact⟨nd,e,rfl,rfl,fun z=>(w z).elim,fun _=>⟨rfl,by rw [if_neg m]⟩⟩
theorem WD.hang (W:WD M T D){ks:List Int}(hc:T c=some nc)(hk:∀ k∈ks,D k∧k≠0∧T k≠none∧k≠c∧¬ SB T k c)(nd:ks.Nodup):WD M (hangAll T c ks) fun i=>D i∧i ∉ ks:=by
 rw [hangAll_eq ks hc fun k h=>⟨(hk k h).2.2.1,(hk k h).2.2.2.1⟩]
 have notc:c ∉ ks:=fun h=>(hk c h).2.2.2.1 rfl
 refine⟨?_,fun i nd e=>?_,fun i nd e h0 hy=>?_,fun p np e i hi=>?_,fun p np e=>?_,fun p np e=>?_,?_,?_⟩
 ·refine xo1_3 W.root fun r h1 h2 h3=>?_
  refine xo1_5 (hung_to (ks:=ks) hc h1) fun r' g1 g2 g3 g4 g5=>?_
  refine⟨r',g1,g3.trans h2,?_⟩
  by_cases w:(0:Int)=c
  ·exact (g4 w).1.trans h3
  ·rw [(g5 w).2,if_neg fun m=>(hk 0 m).2.1 rfl];exact h3
 ·obtain⟨nd0,h1,h2,_⟩:=hung_at hc e;rw [h2];exact W.w _ _ h1
 ·refine xo1_5 (hung_at hc e) fun nd0 h1 h2 h3 h4 h5=>?_
  by_cases m:i∈ks
  ·have ic:i≠c:=fun w=>notc (w ▸ m)
   refine xo1_5 (hung_to (ks:=ks) hc hc) fun nc' g1 g2 g3 g4 g5=>?_
   exact⟨c,nc',by rw [(h5 ic).2.2,if_pos m],g1,by rw [(g4 rfl).2];exact List.mem_append_right _ m⟩
  ·have hD:¬ D i:=fun w=>hy ⟨w,m⟩
   refine xo2_3 (W.up _ _ h1 h0 hD) fun p np k1 k2 k3=>?_
   refine xo1_5 (hung_to (ks:=ks) hc k2) fun np' g1 g2 g3 g4 g5=>?_
   refine⟨p,np',?_,g1,?_⟩
   ·by_cases w:i=c
    ·exact (h4 w).1.trans k1
    ·rw [(h5 w).2.2,if_neg m];exact k1
   ·by_cases w:p=c
    ·rw [(g4 w).2];subst w;rw [hc] at k2;cases k2;exact List.mem_append_left _ k3
    ·rw [(g5 w).1];exact k3
 ·refine xo1_5 (hung_at hc e) fun nd0 h1 h2 h3 h4 h5=>?_
  have old:∀ {p' np'},T p'=some np'→i∈np'.kids→p'=p→i≠0∧¬ (D i∧i ∉ ks)∧∃ nd,hung T c ks nc i=some nd∧nd.par=some p:=fun {p' np'} e' hi' ep=>by
   subst ep
   refine xm_aaeaa (W.down _ _ e' i hi') fun k1 k2 nd k3 k4=>?_
   refine xo1_5 (hung_to (ks:=ks) hc k3) fun nd' m1 m2 m3 m4 m5=>?_
   refine⟨k1,fun w=>k2 w.1,nd',m1,?_⟩
   by_cases w:i=c
   ·exact (m4 w).1.trans k4
   ·rw [(m5 w).2,if_neg fun m=>k2 (hk i m).1];exact k4
  by_cases w:p=c
  ·rw [(h4 w).2.1] at hi
   rcases List.mem_append.mp hi with hi | hi
   ·exact old hc hi w.symm
   ·refine xo0_5 (hk i hi) fun z1 z2 z3 z4 _=>?_
    refine xo1_1 (nNone z3) fun nk e3=>?_
    refine xo1_5 (hung_to (ks:=ks) hc e3) fun nd' m1 m2 m3 m4 m5=>?_
    exact⟨z2,fun w=>w.2 hi,nd',m1,by rw [(m5 z4).2,if_pos hi,w]⟩
  ·rw [(h5 w).1] at hi;exact old h1 hi rfl
 ·refine xo1_5 (hung_at hc e) fun nd0 h1 h2 h3 h4 h5=>?_
  by_cases w:p=c
  ·rw [(h4 w).2.1,(h4 w).2.2]
   exact (pushAll_perm _ _ _).trans ((W.kq _ _ hc).append_right _)
  ·rw [(h5 w).1,(h5 w).2.1];exact W.kq _ _ h1
 ·refine xo1_5 (hung_at hc e) fun nd0 h1 h2 h3 h4 h5=>?_
  by_cases w:p=c
  ·rw [(h4 w).2.1]
   refine List.nodup_append.mpr ⟨W.nodup _ _ hc,nd,fun a ha b hb e=>?_⟩
   subst e
   exact (W.down _ _ hc a ha).2.1 (hk a hb).1
  ·rw [(h5 w).1];exact W.nodup _ _ h1
 ·refine xo1_1 W.rank fun rk r=>?_
  have dec:∀ i,Decidable (∃ k∈ks,i=k∨SB T k i):=fun i=>Classical.propDecidable _
  refine⟨fun i=>rk i+if (∃ k∈ks,i=k∨SB T k i) then rk c+1 else 0,fun p np e i hi=>?_⟩
  have cb:¬ ∃ k∈ks,c=k∨SB T k c:=fun⟨k,h1,h2⟩=>h2.elim (fun w=>notc (w ▸ h1)) (hk k h1).2.2.2.2
  refine xo1_5 (hung_at hc e) fun nd0 h1 h2 h3 h4 h5=>?_
  have edge:i∈nd0.kids→rk p+(if (∃ k∈ks,p=k∨SB T k p) then rk c+1 else 0) < rk i+(if (∃ k∈ks,i=k∨SB T k i) then rk c+1 else 0):=fun hi'=>by
   have lt:=r _ _ h1 i hi'
   by_cases b:∃ k∈ks,p=k∨SB T k p
   ·have b':∃ k∈ks,i=k∨SB T k i:=by
     revert b;refine fun z_=>xo1_2 z_ fun k m b=>?_;clear z_
     refine⟨k,m,.inr ?_⟩
     rcases b with rfl | b
     ·exact .kid h1 hi'
     ·exact .more b h1 hi'
    rw [if_pos b,if_pos b'];(clear h5 h4 h2;lia)
   ·rw [if_neg b]
    (clear h5 h4 h2;lia)
  show rk p+(if (∃ k∈ks,p=k∨SB T k p) then rk c+1 else 0) < rk i+(if (∃ k∈ks,i=k∨SB T k i) then rk c+1 else 0)
  by_cases w:p=c
  ·rw [(h4 w).2.1] at hi
   rcases List.mem_append.mp hi with hi | hi
   ·refine edge ?_
    subst w;rw [hc] at h1;cases h1;exact hi
   ·rw [w,if_neg cb,if_pos ⟨i,hi,.inl rfl⟩];(clear w edge h5 h4 h2;lia)
  ·rw [(h5 w).1] at hi;exact edge hi
 ·refine xo1_2 W.fin fun ids h1 h2=>?_
  refine⟨ids,h1,fun i hi=>h2 i ?_⟩
  refine xo1_1 (nNone hi) fun nd e=>?_
  refine xo1_2 (hung_at hc e) fun nd0 h1 _=>?_
  rw [h1];nofun
theorem WD.strip (W:WD M T D)(hp:T p=some np)(lw:Int):WD M (setN T p { np with kids:=[],queue:=[],lw:=lw }) fun i=>D i∨i∈np.kids:=by
 have at':∀ {j nd},setN T p { np with kids:=[],queue:=[],lw:=lw } j=some nd→∃ nd0,T j=some nd0∧nd.w=nd0.w∧nd.act=nd0.act∧nd.par=nd0.par∧(j=p→nd.kids=[]∧nd.queue=[])∧(j≠p→nd.kids=nd0.kids∧nd.queue=nd0.queue):=fun {j nd} e=>by
  by_cases w:j=p
  ·subst w;rw [setN_same] at e;cases e;exact⟨np,hp,rfl,rfl,rfl,fun _=>⟨rfl,rfl⟩,fun w=>(w rfl).elim⟩
  ·rw [setN_ne _ _ w] at e;exact⟨nd,e,rfl,rfl,rfl,fun z=>(w z).elim,fun _=>⟨rfl,rfl⟩⟩
 have to:∀ {j nd},T j=some nd→∃ nd',setN T p { np with kids:=[],queue:=[],lw:=lw } j=some nd'∧nd'.act=nd.act∧nd'.par=nd.par∧(j≠p→nd'.kids=nd.kids):=fun {j nd} e=>by
  by_cases w:j=p
  ·subst w;rw [hp] at e;cases e;exact⟨_,setN_same ..,rfl,rfl,fun w=>(w rfl).elim⟩
  ·exact⟨nd,(setN_ne _ _ w).trans e,rfl,rfl,fun _=>rfl⟩
 refine⟨?_,fun i nd e=>?_,fun i nd e h0 hy=>?_,fun p' np' e i hi=>?_,fun p' np' e=>?_,fun p' np' e=>?_,?_,?_⟩
 ·refine xo1_3 W.root fun r h1 h2 h3=>?_
  refine xo1_4 (to h1) fun r' g1 g2 g3 _=>?_
  exact⟨r',g1,g2.trans h2,g3.trans h3⟩
 ·obtain⟨nd0,h1,h2,_⟩:=at' e;rw [h2];exact W.w _ _ h1
 ·refine xo1_5 (at' e) fun nd0 h1 h2 h3 h4 _=>?_
  refine xo2_3 (W.up _ _ h1 h0 fun w=>hy (.inl w)) fun p' np' k1 k2 k3=>?_
  refine xo1_4 (to k2) fun nd' m1 m2 m3 m4=>?_
  have ne:p'≠p:=fun w=>by subst w;rw [hp] at k2;cases k2;exact hy (.inr k3)
  exact⟨p',nd',h4.trans k1,m1,by rw [m4 ne];exact k3⟩
 ·refine xo1_6 (at' e) fun nd0 h1 h2 h3 h4 h5 h6=>?_
  by_cases w:p'=p
  ·rw [(h5 w).1] at hi;exact absurd hi nofun
  ·rw [(h6 w).1] at hi
   refine xm_aaeaa (W.down _ _ h1 i hi) fun k1 k2 nd k3 k4=>?_
   refine xo1_4 (to k3) fun nd' m1 m2 m3 m4=>?_
   refine⟨k1,fun z=>?_,nd',m1,m3.trans k4⟩
   rcases z with z | z
   ·exact k2 z
   ·refine xm_aaeaa (W.down _ _ hp i z) fun _ _ nd2 g3 g4=>?_
    rw [k3] at g3;obtain rfl:=Option.some.inj g3
    rw [k4] at g4;obtain rfl:=Option.some.inj g4
    exact w rfl
 ·refine xo1_6 (at' e) fun nd0 h1 h2 h3 h4 h5 h6=>?_
  by_cases w:p'=p
  ·rw [(h5 w).1,(h5 w).2];exact .refl _
  ·rw [(h6 w).1,(h6 w).2];exact W.kq _ _ h1
 ·refine xo1_6 (at' e) fun nd0 h1 h2 h3 h4 h5 h6=>?_
  by_cases w:p'=p
  ·rw [(h5 w).1];exact .nil
  ·rw [(h6 w).1];exact W.nodup _ _ h1
 ·refine xo1_1 W.rank fun rk r=>?_
  refine⟨rk,fun p' np' e i hi=>?_⟩
  refine xo1_6 (at' e) fun nd0 h1 h2 h3 h4 h5 h6=>?_
  by_cases w:p'=p
  ·rw [(h5 w).1] at hi;exact absurd hi nofun
  ·rw [(h6 w).1] at hi;exact r _ _ h1 i hi
 ·refine xo1_2 W.fin fun ids h1 h2=>?_
  refine⟨ids,h1,fun i hi=>h2 i ?_⟩
  refine xo1_1 (nNone hi) fun nd e=>?_
  refine xo1_2 (at' e) fun nd0 h1 _=>?_
  rw [h1];nofun
theorem WD.gone (W:WD M T D)(hx:T x=some nx)(hD:D x)(h0:x≠0):WD M (delN T x) fun i=>(D i∧i≠x)∨i∈nx.kids:=by
 have at':∀ {j nd},delN T x j=some nd→j≠x∧T j=some nd:=fun {j nd} e=>by
  unfold delN at e
  split at e
  ·exact nsE e
  ·exact⟨‹_›,e⟩
 have to:∀ {j nd},T j=some nd→j≠x→delN T x j=some nd:=fun e w=>by unfold delN;rw [if_neg w];exact e
 refine⟨?_,fun i nd e=>W.w _ _ (at' e).2,fun i nd e h0 hy=>?_,fun p' np' e i hi=>?_,fun p' np' e=>W.kq _ _ (at' e).2,fun p' np' e=>W.nodup _ _ (at' e).2,?_,?_⟩
 ·refine xo1_3 W.root fun r h1 h2 h3=>?_
  exact⟨r,to h1 h0.symm,h2,h3⟩
 ·refine xo0_2 (at' e) fun e1 e2=>?_
  refine xo2_3 (W.up _ _ e2 h0 fun w=>hy (.inl ⟨w,e1⟩)) fun p' np' k1 k2 k3=>?_
  exact⟨p',np',k1,to k2 (fun w=>by rw [w,hx] at k2;cases k2;exact hy (.inr k3)),k3⟩
 ·refine xo0_2 (at' e) fun e1 e2=>?_
  refine xm_aaeaa (W.down _ _ e2 i hi) fun k1 k2 nd k3 k4=>?_
  refine⟨k1,fun z=>?_,nd,to k3 (fun w=>k2 (w ▸ hD)),k4⟩
  rcases z with z | z
  ·exact k2 z.1
  ·refine xm_aaeaa (W.down _ _ hx i z) fun _ _ nd2 g3 g4=>?_
   rw [k3] at g3;obtain rfl:=Option.some.inj g3
   rw [k4] at g4;obtain rfl:=Option.some.inj g4
   exact e1 rfl
 ·refine xo1_1 W.rank fun rk r=>?_
  exact⟨rk,fun p' np' e i hi=>r _ _ (at' e).2 i hi⟩
 ·refine xo1_2 W.fin fun ids h1 h2=>?_
  refine⟨ids,h1,fun i hi=>h2 i ?_⟩
  refine xo1_1 (nNone hi) fun nd e=>?_
  rw [(at' e).2];nofun
theorem WD.weak {D':Int→Prop}(W:WD M T D)(h:∀ i,D i ↔ D' i):WD M T D':=by
 have:D=D':=funext fun i=>propext (h i)
 exact this ▸ W
theorem WD.more {N:Nat}(W:WD M T D)(h:M≤N):WD N T D:=⟨W.root,W.w,W.up,W.down,W.kq,W.nodup,W.rank,let ⟨ids,h1,h2⟩:=W.fin;⟨ids,Nat.le_trans h1 h,h2⟩⟩
end
end
section
open PySem
section
variable {M:Nat}{T T':Tr}{x p q i c:Int}{np nx nq nc nd:Nd}{D:Int→Prop}
theorem SB.up {rk:Int→Nat}(r:∀ p np,T p=some np→∀ i∈np.kids,rk p < rk i)(h:SB T x i):rk x < rk i:=by
 induction h with
 | kid a b=>exact r _ _ a _ b
 | more _ a b ih=>exact Nat.lt_trans ih (r _ _ a _ b)
theorem SB.none (hx:T x=some nx)(h0:nx.kids=[]):¬ SB T x i:=fun h=>by
 induction h with
 | kid a b=>rw [hx] at a;cases a;rw [h0] at b;exact absurd b nofun
 | more _ _ _ ih=>exact ih
theorem WD.leaf (W:WD M T (·=x))(hx:T x=some nx)(hp:T p=some np)(h0:x≠0)(ne:p≠x)(nb:¬ SB T x p):WT M (addChild T p x):=by
 rw [addChild_hang]
 refine (W.hang (ks:=[x]) hp (fun k hk=>?_) (by simp)).weak fun i=>⟨fun h=>h.2 (by rw [h.1];exact .head _),fun h=>h.elim⟩
 rcases List.mem_singleton.mp hk with rfl
 exact⟨rfl,h0,by rw [hx];nofun,ne.symm,nb⟩
theorem WD.excl (W:WD M T (·=x))(hx:T x=some nx)(hp:T p=some np)(h0:x≠0)(ne:p≠x)(nb:¬ SB T x p)(hM:M≤400):WT M (addExcl T p x)∧Hang (addChild (setN T p { np with kids:=[],queue:=[],lw:=0 }) p x) x np.kids:=by
 have W1:=W.strip hp 0
 have x1:setN T p { np with kids:=[],queue:=[],lw:=0 } x=some nx:=(setN_ne _ _ ne.symm).trans hx
 have sub1:∀ {a i},SB (setN T p { np with kids:=[],queue:=[],lw:=0 }) a i→SB T a i:=fun h=>by
  have k:∀ {u nu i},setN T p { np with kids:=[],queue:=[],lw:=0 } u=some nu→i∈nu.kids→∃ nu',T u=some nu'∧i∈nu'.kids:=fun {u nu i} e hi=>by
   by_cases w:u=p
   ·subst w;rw [setN_same] at e;cases e;exact absurd hi nofun
   ·rw [setN_ne _ _ w] at e;exact⟨nu,e,hi⟩
  induction h with
  | kid a b=>obtain⟨nu',g1,g2⟩:=k a b;exact .kid g1 g2
  | more _ a b ih=>obtain⟨nu',g1,g2⟩:=k a b;exact .more ih g1 g2
 have xk:x ∉ np.kids:=fun h=>(W.down _ _ hp x h).2.1 rfl
 have W2:=(W1.hang (ks:=[x]) (setN_same ..) (fun k hk=>by
  rcases List.mem_singleton.mp hk with rfl
  exact⟨.inl rfl,h0,by rw [x1];nofun,ne.symm,fun h=>nb (sub1 h)⟩) (by simp)).weak (D':=fun i=>i∈np.kids) fun i=>⟨fun h=>h.1.resolve_left fun w=>h.2 (by rw [w];exact .head _),fun h=>⟨.inr h,fun w=>xk (by rcases List.mem_singleton.mp w with rfl;exact h)⟩⟩
 rw [← addChild_hang] at W2
 have e2:=addChild_eq (p:=p) (c:=x) (setN_same T p { np with kids:=[],queue:=[],lw:=0 }) x1
 have x2:addChild (setN T p { np with kids:=[],queue:=[],lw:=0 }) p x x=some { nx with par:=some p }:=by rw [e2,setN_ne _ _ ne.symm];exact setN_same ..
 have kd:∀ k∈np.kids,k≠0∧addChild (setN T p { np with kids:=[],queue:=[],lw:=0 }) p x k≠none∧k≠x∧k≠p:=fun k hk=>by
  refine xm_aaeaa (W.down _ _ hp k hk) fun k1 k2 nd k3 k4=>?_
  refine⟨k1,?_,k2,fun w=>W.notSelf hp (w ▸ hk)⟩
  rw [e2]
  exact setN_dom (setN_dom (setN_dom (by rw [k3];nofun)))
 refine xo1_1 W.rank fun rk r=>?_
 have edge:∀ {u nu i},addChild (setN T p { np with kids:=[],queue:=[],lw:=0 }) p x u=some nu→i∈nu.kids→(u=p∧i=x)∨∃ nu',T u=some nu'∧i∈nu'.kids:=fun {u nu i} e hi=>by
  rw [e2] at e
  by_cases w:u=p
  ·subst w;rw [setN_same] at e;cases e;exact .inl ⟨rfl,by simpa using hi⟩
  ·rw [setN_ne _ _ w] at e
   by_cases w':u=x
   ·subst w';rw [setN_same] at e;cases e;exact .inr ⟨nx,hx,hi⟩
   ·rw [setN_ne _ _ w',setN_ne _ _ w] at e;exact .inr ⟨nu,e,hi⟩
 have low:∀ {k i},k∈np.kids→SB (addChild (setN T p { np with kids:=[],queue:=[],lw:=0 }) p x) k i→rk k < rk i∨i=x∨SB T x i:=fun {k i} hk h=>by
  induction h with
  | kid a b=>
   rcases edge a b with⟨w,rfl⟩ | ⟨nu',g1,g2⟩
   ·exact .inr (.inl rfl)
   ·exact .inl (r _ _ g1 _ g2)
  | more _ a b ih=>
   rcases edge a b with⟨w,rfl⟩ | ⟨nu',g1,g2⟩
   ·exact .inr (.inl rfl)
   ·rcases ih with ih | rfl | ih
    ·exact .inl (Nat.lt_trans ih (r _ _ g1 _ g2))
    ·exact .inr (.inr (.kid g1 g2))
    ·exact .inr (.inr (.more ih g1 g2))
 have notp:∀ {k},k∈np.kids→¬ SB (addChild (setN T p { np with kids:=[],queue:=[],lw:=0 }) p x) k p:=fun hk h=>by
  have:=r _ _ hp _ hk
  rcases low hk h with h | h | h
  ·(clear hM ne h0;lia)
  ·exact ne h
  ·exact nb h
 have notx:∀ {k},k∈np.kids→¬ SB (addChild (setN T p { np with kids:=[],queue:=[],lw:=0 }) p x) k x:=fun {k} hk h=>by
  have fr:∀ {u nu},addChild (setN T p { np with kids:=[],queue:=[],lw:=0 }) p x u=some nu→x∈nu.kids→u=p:=fun a b=>by
   rcases edge a b with w | ⟨nu',g1,g2⟩
   ·exact w.1
   ·exact ((W.down _ _ g1 x g2).2.1 rfl).elim
  cases h with
  | kid a b=>exact (kd k hk).2.2.2 (fr a b)
  | more h a b=>have:=fr a b;subst this;exact notp hk h
 have e3:addExcl T p x=hangAll (addChild (setN T p { np with kids:=[],queue:=[],lw:=0 }) p x) x np.kids:=by unfold addExcl;rw [hp];rfl
 refine⟨?_,?_⟩
 ·rw [e3]
  exact (W2.hang (ks:=np.kids) x2 (fun k hk=>⟨hk,(kd k hk).1,(kd k hk).2.1,(kd k hk).2.2.1,notx hk⟩) (W.nodup _ _ hp)).weak fun i=>⟨fun h=>h.2 h.1,fun h=>h.elim⟩
 ·have l1:=W.kidsLen hp
  have l2:=W.kidsLen hx
  have l3:=W.queueLen hx
  refine Hang.of np.kids x2 (fun k hk=>⟨(kd k hk).2.1,(kd k hk).2.2.1.symm⟩) (fun z hz=>W2.kid x2 (W2.inQ x2 hz)) ?_ ?_
  ·show nx.queue.length+np.kids.length≤1000;(clear l2 ne h0;lia)
  ·show nx.kids.length+np.kids.length≤1000;(clear l3 ne h0;lia)
theorem WD.putIn (W:WT M T)(h:T x=none)(hp:T p=some np)(h0:x≠0)(ne:p≠x){w:Int}(hw:1≤w∧w≤256)(hM:M < 400)(ex:Bool):WT (M+1) (Mine.putIn T p x w ex)∧(ex=true→Hang (addChild (setN (setN T x (nd0 w)) p { np with kids:=[],queue:=[],lw:=0 }) p x) x np.kids):=by
 have W1:=W.new h h0 hw
 have hx:=setN_same T x (nd0 w)
 have hp1:setN T x (nd0 w) p=some np:=(setN_ne _ _ ne).trans hp
 have nb:¬ SB (setN T x (nd0 w)) x p:=SB.none hx rfl
 have E:=W1.excl hx hp1 h0 ne nb (by (clear hw ne h0;lia))
 refine⟨?_,fun _=>E.2⟩
 unfold Mine.putIn
 split
 ·exact E.1
 ·exact W1.leaf hx hp1 h0 ne nb
theorem cut_kids (hq:T q=some nq)(hx:T x=some nx)(ne:q≠x):cutChild T q x x=some nx:=by
 unfold cutChild;rw [hq];exact (setN_ne _ _ ne.symm).trans hx
theorem WD.moved (W:WT M T)(hx:T x=some nx)(hq:nx.par=some q)(hp:T p≠none)(h0:x≠0)(ne:p≠x)(nb:¬ SB T x p)(hM:M≤400)(ex:Bool):∃ nq np,Gives T q x nq nx∧Takes (cutChild T q x) p np∧WT M (Mine.moved T q p x ex)∧
  (ex=true→Hang (addChild (setN (cutChild T q x) p { np with kids:=[],queue:=[],lw:=0 }) p x) x np.kids):=by
 refine xo2_2 (W.gives (by (clear ne h0;lia)) hx h0 id) fun q' nq e g=>?_
 rw [hq] at e;obtain rfl:=Option.some.inj e
 have W1:=W.cut g.at_ hx hq h0
 have hx1:=cut_kids g.at_ hx g.ne
 refine xo1_1 (nNone hp) fun np0 hp0=>?_
 refine xo1_2 (cut_to (x:=x) g.at_ hp0) fun np hp1 e2_=>?_;clear e2_
 have sbc:∀ {i},SB (cutChild T q x) x i→SB T x i:=fun h=>by
  have k:∀ {u nu i},cutChild T q x u=some nu→i∈nu.kids→∃ nu',T u=some nu'∧i∈nu'.kids:=fun {u nu i} e hi=>by
   refine xo1_6 (cut_at g.at_ e) fun nd0 h1 h2 h3 h4 h5 h6=>?_
   refine⟨nd0,h1,?_⟩
   rw [h5] at hi
   split at hi
   ·rename_i w;subst w;rw [g.at_] at h1;cases h1;exact List.mem_of_mem_erase hi
   ·exact hi
  induction h with
  | kid a b=>obtain⟨nu',g1,g2⟩:=k a b;exact .kid g1 g2
  | more _ a b ih=>obtain⟨nu',g1,g2⟩:=k a b;exact .more ih g1 g2
 have nb1:¬ SB (cutChild T q x) x p:=fun h=>nb (sbc h)
 have E:=W1.excl hx1 hp1 h0 ne nb1 hM
 refine⟨nq,np,g,W1.takes (by (clear ne h0;lia)) hp1,?_,fun _=>E.2⟩
 unfold Mine.moved
 split
 ·exact E.1
 ·exact W1.leaf hx1 hp1 h0 ne nb1
theorem WD.takeOut (W:WT M T)(hx:T x=some nx)(h0:x≠0)(hM:M≤400):∃ q nq,nx.par=some q∧Gives T q x nq nx∧Hang (cutChild T q x) q nx.kids∧nx.kids.length≤1000∧WT M (Mine.takeOut T q x):=by
 refine xo2_2 (W.gives (by lia) hx h0 id) fun q nq hq g=>?_
 have W1:=W.cut g.at_ hx hq h0
 have hx1:=cut_kids g.at_ hx g.ne
 refine xo1_2 (cut_to (x:=x) g.at_ g.at_) fun nq1 hq1 e2_=>?_;clear e2_
 have lk:=W.kidsLen hx
 have l1:=W1.kidsLen hq1
 have l2:=W1.queueLen hq1
 refine xo1_1 W.rank fun rk r=>?_
 have rq:=r _ _ g.at_ x g.mem
 have kd:∀ k∈nx.kids,k≠0∧cutChild T q x k≠none∧q≠k∧k≠x:=fun k hk=>by
  refine xm_aaeaa (W1.down _ _ hx1 k hk) fun k1 k2 nd k3 k4=>?_
  have:=r _ _ hx k hk
  exact⟨k1,by rw [k3];nofun,fun w=>by subst w;(clear k2 k1 l2 l1 lk hM h0;lia),k2⟩
 refine⟨q,nq,hq,g,Hang.of _ hq1 (fun k hk=>⟨(kd k hk).2.1,(kd k hk).2.2.1⟩) (fun z hz=>W1.kid hq1 (W1.inQ hq1 hz)) (by (clear rq l1 h0;lia)) (by (clear rq l2 h0;lia)),by (clear rq l2 l1 h0;lia),?_⟩
 have W2:=(W1.gone hx1 rfl h0).weak (D':=fun i=>i∈nx.kids) fun i=>⟨fun h=>h.elim (fun h=>(h.2 h.1).elim) id,.inr⟩
 have hq2:delN (cutChild T q x) x q=some nq1:=by unfold delN;rw [if_neg g.ne];exact hq1
 have sub:∀ {a i},SB (delN (cutChild T q x) x) a i→rk a < rk i:=fun h=>by
  refine SB.up (fun p np e i hi=>?_) h
  unfold delN at e
  split at e
  ·exact nsE e
  ·refine xo1_6 (cut_at g.at_ e) fun nd0 h1 h2 h3 h4 h5 h6=>?_
   rw [h5] at hi
   split at hi
   ·rename_i w;subst w;exact r _ _ g.at_ i (List.mem_of_mem_erase hi)
   ·exact r _ _ h1 i hi
 have W3:=(W2.hang (ks:=nx.kids) hq2 (fun k hk=>⟨hk,(kd k hk).1,by unfold delN;rw [if_neg (kd k hk).2.2.2];exact (kd k hk).2.1,(kd k hk).2.2.1.symm,fun h=>by
  have a:=sub h
  have b:=r _ _ hx k hk
  (clear l2 l1 lk hM h0;lia)⟩) (W.nodup _ _ hx)).weak (D':=fun _=>False) fun i=>⟨fun h=>h.2 h.1,fun h=>h.elim⟩
 have e:Mine.takeOut T q x=hangAll (delN (cutChild T q x) x) q nx.kids:=by
  unfold Mine.takeOut rmChild
  rw [if_pos rfl,hx]
  dsimp only
  rw [hangAll_eq nx.kids hq1 fun k hk=>⟨(kd k hk).2.1,(kd k hk).2.2.1.symm⟩,hangAll_eq nx.kids hq2 fun k hk=>⟨by unfold delN;rw [if_neg (kd k hk).2.2.2];exact (kd k hk).2.1,(kd k hk).2.2.1.symm⟩]
  funext j
  unfold delN hung
  by_cases w:j=x
  ·have w1:j≠q:=fun z=>g.ne (z ▸ w)
   have w2:j ∉ nx.kids:=fun z=>(kd j z).2.2.2 w
   rw [if_pos w,if_neg w1,if_neg w2]
   dsimp only
   rw [if_pos w]
  ·rw [if_neg w]
   dsimp only
   rw [if_neg w]
 rw [e];exact W3
end
end
section
open PySem PySem.W PyProof.Rows
noncomputable def parOf (T:Tr) (x:Int):Int:=match T x with
 | some nx=>nx.par.getD 0
 | none=>0
abbrev wok (w:Int):Prop:=1≤w∧w≤256
section
variable {C:Nat→List AV→St→R AV}{E:Est}{k n:Nat}{h:Hp}{L:Lo}{M a d:Nat}{A cl ql:Ad}{G:Hp}{Φ:Fo}{t:Nat}{i x p q:Int}{nd nq nx:Nd}{T:Tr}{mx:Int}{es:List (AV×AV)}{Q:Pst AV}
theorem dget_dput (es:List (AV×AV))(k v k':AV):dget? (dput es k v) k'=if k'=k then some v else dget? es k':=by
 induction es with
 | nil=>
  show (if k'=k then some v else none)=_
  rfl
 | cons p r ih=>
  obtain⟨j,w⟩:=p
  rw [dput_c]
  split
  ·rename_i e;subst e
   show (if k'=k then some v else dget? r k')=if k'=k then some v else (if k'=k then some w else dget? r k')
   split <;> rfl
  ·rename_i e
   show (if k'=j then some w else dget? (dput r k v) k')=if k'=k then some v else (if k'=j then some w else dget? r k')
   rw [ih]
   by_cases q1:k'=j
   ·subst q1;rw [if_pos rfl,if_neg fun w=>e w.symm,if_pos rfl]
   ·rw [if_neg q1,if_neg q1]
theorem dput_l (es:List (AV×AV))(k v:AV):(dput es k v).length≤es.length+1:=by
 induction es with
 | nil=>exact Nat.le_refl _
 | cons p r ih=>
  obtain⟨j,w⟩:=p
  rw [dput_c]
  split
  ·simp
  ·simp;lia
noncomputable def Once:List (AV×AV)→Prop
 | []=>True
 | (k,_) :: r=>dget? r k=none∧Once r
theorem Once.put {es:List (AV×AV)}(x:Once es)(k v:AV):Once (dput es k v):=by
 induction es with
 | nil=>exact⟨rfl,trivial⟩
 | cons p r ih=>
  obtain⟨j,w⟩:=p
  rw [dput_c]
  split
  ·exact x
  ·rename_i e
   exact⟨by rw [dget_dput,if_neg fun w=>e w.symm];exact x.1,ih x.2⟩
theorem dget_ddel {es:List (AV×AV)}(x:Once es)(k k':AV):dget? (ddel es k) k'=if k'=k then none else dget? es k':=by
 induction es with
 | nil=>
  show none=_
  split <;> rfl
 | cons p r ih=>
  obtain⟨j,w⟩:=p
  rw [ddel_c]
  split
  ·rename_i e;subst e
   show dget? r k'=if k'=k then none else (if k'=k then some w else dget? r k')
   split
   ·rename_i q;rw [q];exact x.1
   ·rfl
  ·rename_i e
   show (if k'=j then some w else dget? (ddel r k) k')=if k'=k then none else (if k'=j then some w else dget? r k')
   rw [ih x.2]
   by_cases q1:k'=j
   ·subst q1;rw [if_pos rfl,if_neg fun w=>e w.symm,if_pos rfl]
   ·rw [if_neg q1,if_neg q1]
theorem ddel_l (es:List (AV×AV))(k:AV):(ddel es k).length≤es.length:=by
 induction es with
 | nil=>exact Nat.le_refl _
 | cons p r ih=>
  obtain⟨j,w⟩:=p
  rw [ddel_c]
  split
  ·simp
  ·simp;lia
theorem Once.del {es:List (AV×AV)}(x:Once es)(k:AV):Once (ddel es k):=by
 induction es with
 | nil=>exact x
 | cons p r ih=>
  obtain⟨j,w⟩:=p
  rw [ddel_c]
  split
  ·exact x.2
  ·rename_i e
   refine⟨?_,ih x.2⟩
   rw [dget_ddel x.2]
   split
   ·rfl
   ·exact x.1
inductive TreX (M:Nat) (A:Ad) (t a d:Nat) (T:Tr) (G:Hp):Prop
 | intro (es:List (AV×AV)) (x:TR A t a d 1000 es T G) (o:Once es) (l:es.length≤M)
structure Tre (M:Nat) (A:Ad) (t a d:Nat) (T:Tr) (G:Hp):Prop where
 tr:TreX M A t a d T G
 wt:WT M T
theorem TR.put (X:TR A t a d mx es T G){l:Nat}{T':Tr}(h0:x≠0)(hl:es.length < 900)(e:∀ j,j≠x→(T j=none ↔ T' j=none))(ex:T' x≠none):TR (updA A t x l) t a d mx (dput es (.int x) (.loc l)) T' (upd G d (.dict (dput es (.int x) (.loc l)))):=by
 have ad:a≠d:=fun w=>by have:=X.dict;rw [← w,X.obj] at this;exact absurd this nofun
 have e0:updA A t x l t 0=A t 0:=updA_ne _ _ fun w=>h0 w.2.symm
 refine⟨?_,upd_same ..,fun i=>?_,by have:=dput_l es (.int x) (.loc l);(clear e0 ad h0;lia)⟩
 ·rw [upd_ne _ _ ad]
  show G a=some (.inst 68 [(70,.loc (updA A t x l t 0)),_,_])
  rw [e0];exact X.obj
 ·rw [dget_dput]
  by_cases w:i=x
  ·subst w
   rw [if_pos rfl]
   cases q:T' i with
   | none=>exact (ex q).elim
   | some y=>show _=some _;rw [updA_same]
  ·rw [if_neg (by intro z;cases z;exact w rfl),X.ent]
   cases q:T i with
   | none=>rw [(e i w).mp q];rfl
   | some y=>
    cases q':T' i with
    | none=>rw [(e i w).mpr q'] at q;exact nsE q
    | some z=>show some _=some _;rw [updA_ne _ _ fun z=>w z.2]
theorem TR.del (X:TR A t a d mx es T G)(o:Once es){T':Tr}(e:∀ j,j≠x→(T j=none ↔ T' j=none))(ex:T' x=none):TR A t a d mx (ddel es (.int x)) T' (upd G d (.dict (ddel es (.int x)))):=by
 have ad:a≠d:=fun w=>by have:=X.dict;rw [← w,X.obj] at this;exact absurd this nofun
 refine⟨by rw [upd_ne _ _ ad];exact X.obj,upd_same ..,fun i=>?_,by have:=ddel_l es (.int x);have:=X.len;lia⟩
 rw [dget_ddel o]
 by_cases w:i=x
 ·subst w;rw [if_pos rfl,ex];rfl
 ·rw [if_neg (by intro z;cases z;exact w rfl),X.ent]
  cases q:T i with
  | none=>rw [(e i w).mp q]
  | some y=>
   cases q':T' i with
   | none=>rw [(e i w).mpr q'] at q;exact nsE q
   | some z=>rfl
end
end
section
open PySem PySem.W PyProof.Rows
section
variable {i x p q c j:Int}{nd nq nx np:Nd}{T:Tr}
theorem setN_none {nd:Nd}(hx:T x≠none):setN T x nd j=none ↔ T j=none:=by
 by_cases q:j=x
 ·subst q;rw [setN_same];exact⟨fun w=>(nomatch w),fun w=>(hx w).elim⟩
 ·rw [setN_ne _ _ q]
theorem addChild_none:addChild T p c j=none ↔ T j=none:=by
 cases h1:T p with
 | none=>unfold addChild;rw [h1]
 | some np=>
  cases h2:T c with
  | none=>unfold addChild;rw [h1,h2]
  | some nc=>
   rw [addChild_eq h1 h2,setN_none (setN_dom (by rw [h1];nofun)),setN_none (by rw [h2];nofun)]
theorem hangAll_none (ks:List Int):∀ {T:Tr},hangAll T p ks j=none ↔ T j=none:=by
 induction ks with
 | nil=>intro T;exact .rfl
 | cons k r ih=>intro T;exact (ih (T:=addChild T p k)).trans addChild_none
theorem addExcl_none:addExcl T p x j=none ↔ T j=none:=by
 unfold addExcl
 cases h1:T p with
 | none=>exact .rfl
 | some np=>
  refine (hangAll_none (p:=x) np.kids).trans (addChild_none.trans (setN_none (by rw [h1];nofun)))
theorem cut_none:cutChild T q x j=none ↔ T j=none:=by
 unfold cutChild
 cases h1:T q with
 | none=>exact .rfl
 | some nq=>exact setN_none (by rw [h1];nofun)
theorem putIn_none {w:Int}{ex:Bool}:putIn T p x w ex j=none ↔ setN T x (nd0 w) j=none:=by
 unfold putIn;split
 ·exact addExcl_none
 ·exact addChild_none
theorem takeOut_none:takeOut T q x j=none ↔ j=x∨T j=none:=by
 unfold takeOut delN
 by_cases w:j=x
 ·rw [if_pos w];exact⟨fun _=>.inl w,fun _=>rfl⟩
 ·rw [if_neg w]
  unfold rmChild
  rw [if_pos rfl]
  cases h1:T x with
  | none=>simp [w]
  | some nx=>
   dsimp only
   rw [hangAll_none,cut_none]
   simp [w]
theorem SB.touch {T1:Tr}(e:∀ u nu,T1 u=some nu→∃ nu',T u=some nu'∧nu'.kids=nu.kids)(s:SB T1 x i):SB T x i:=by
 induction s with
 | kid a b=>obtain⟨nu',g1,g2⟩:=e _ _ a;exact .kid g1 (by rw [g2];exact b)
 | more _ a b ih=>obtain⟨nu',g1,g2⟩:=e _ _ a;exact .more ih g1 (by rw [g2];exact b)
theorem parOf_eq (hx:T x=some nx)(e:nx.par=some q):parOf T x=q:=by
 unfold parOf
 rw [hx]
 show nx.par.getD 0=q
 rw [e];rfl
end
end
section
open PySem PySem.W PyProof.Rows
noncomputable def Srtd (q:List (Int×Int)):Prop:=q.Pairwise fun x y=>ahead y x=false
theorem ahead_as {p q:Int×Int}(h:ahead p q=true):ahead q p=false:=by
 unfold ahead at *
 by_cases e:p.1=q.1
 ·rw [if_pos e] at h;rw [if_pos e.symm];simp at *;lia
 ·rw [if_neg e] at h;rw [if_neg fun w=>e w.symm];simp at *;lia
theorem ahead_f {p q:Int×Int}:ahead p q=false ↔ q.1 < p.1∨(q.1=p.1∧q.2≤p.2):=by
 unfold ahead
 by_cases e:p.1=q.1
 ·rw [if_pos e,decide_eq_false_iff_not];lia
 ·rw [if_neg e,decide_eq_false_iff_not];lia
theorem ahead_tr {p q r:Int×Int}(h:ahead p q=false)(h':ahead q r=false):ahead p r=false:=by
 rw [ahead_f] at *;lia
theorem pushR_sorted {p:Int×Int}{q:List (Int×Int)}(s:q.Pairwise fun x y=>ahead x y=false):(pushR p q).Pairwise fun x y=>ahead x y=false:=by
 induction q with
 | nil=>exact List.pairwise_singleton ..
 | cons y r ih=>
  obtain⟨s1,s2⟩:=List.pairwise_cons.mp s
  rw [push_c]
  split
  ·rename_i h
   refine List.pairwise_cons.mpr ⟨fun z hz=>?_,ih s2⟩
   rcases pushR_mem.mp hz with rfl | hz
   ·exact ahead_as h
   ·exact s1 z hz
  ·rename_i h
   have h:ahead p y=false:=by simpa using h
   refine List.pairwise_cons.mpr ⟨fun z hz=>?_,s⟩
   rcases List.mem_cons.mp hz with rfl | hz
   ·exact h
   ·exact ahead_tr h (s1 z hz)
theorem Srtd.push {p:Int×Int}{q:List (Int×Int)}(s:Srtd q):Srtd (qpush q p):=by
 unfold qpush Srtd
 rw [List.pairwise_reverse]
 exact pushR_sorted (List.pairwise_reverse.mpr s)
theorem Srtd.pushes {xs:List (Int×Int)}:∀ {q:List (Int×Int)},Srtd q→Srtd (xs.foldl qpush q):=by
 induction xs with
 | nil=>exact id
 | cons x r ih=>exact fun s=>ih s.push
theorem srtd_nil:Srtd []:=List.Pairwise.nil
theorem srtd_re {q:List (Int×Int)}{c:Int}:Srtd (requeue q c):=Srtd.pushes srtd_nil
noncomputable def Srt (T:Tr):Prop:=∀ i nd,T i=some nd→Srtd nd.queue
section
variable {T:Tr}{x p q i c:Int}{nd np nx:Nd}{w:Int}{ex:Bool}{M:Nat}
theorem Srt.set (s:Srt T)(h:Srtd nd.queue):Srt (setN T x nd):=fun i y e=>by
 by_cases z:i=x
 ·subst z;rw [setN_same] at e;obtain rfl:=Option.some.inj e;exact h
 ·rw [setN_ne _ _ z] at e;exact s _ _ e
theorem Srt.add (s:Srt T):Srt (addChild T p c):=by
 unfold addChild
 cases h1:T p with
 | none=>exact s
 | some np=>cases h2:T c with
  | none=>exact s
  | some nc=>exact Srt.set (Srt.set s (nd:={ nc with par:=some p }) (show Srtd nc.queue from s _ _ h2)) (show Srtd (qpush np.queue (np.lw,c)) from Srtd.push (s _ _ h1))
theorem Srt.hang (ks:List Int):∀ {T:Tr},Srt T→Srt (hangAll T p ks):=by
 induction ks with
 | nil=>exact id
 | cons k r ih=>exact fun s=>ih (s.add (c:=k))
theorem Srt.excl (s:Srt T):Srt (addExcl T p x):=by
 unfold addExcl
 cases h1:T p with
 | none=>exact s
 | some np=>exact Srt.hang (p:=x) np.kids ((s.set (nd:={ np with kids:=[],queue:=[],lw:=0 }) srtd_nil).add)
theorem Srt.cut (s:Srt T):Srt (cutChild T q x):=by
 unfold cutChild
 cases h1:T q with
 | none=>exact s
 | some nq=>exact s.set srtd_re
theorem Srt.putIn (s:Srt T):Srt (putIn T p x w ex):=by
 have s1:Srt (setN T x (nd0 w)):=s.set srtd_nil
 unfold Mine.putIn
 split
 ·exact s1.excl
 ·exact s1.add
theorem Srt.out (s:Srt T):Srt (takeOut T q x):=fun i y e=>by
 have s1:Srt (rmChild T q x true):=by
  unfold rmChild
  rw [if_pos rfl]
  cases h:T x with
  | none=>exact s
  | some nc=>exact s.cut.hang _
 unfold takeOut delN at e
 by_cases z:i=x
 ·rw [if_pos z] at e;exact nsE e
 ·rw [if_neg z] at e;exact s1 _ _ e
theorem Srt.spent (xs:List (Int×Int)):∀ {T:Tr},Srt T→Srt (spent T i xs):=by
 induction xs with
 | nil=>exact id
 | cons x r ih=>
  refine fun {T} s=>ih ?_
  show Srt (turn1 T i x)
  unfold turn1
  cases h1:T i with
  | none=>exact s
  | some ni=>cases h2:T x.2 with
   | none=>exact s
   | some nc=>exact Srt.set (Srt.set s (nd:={ nc with df:=Int.fmod (256+nc.df) nc.w }) (show Srtd nc.queue from s _ _ h2)) (show Srtd (qpush ni.queue _) from Srtd.push (s _ _ h1))
theorem Srt.seek {sub:Tr→Int→Tr×Option Int}(hs:∀ T c,Srt T→Srt (sub T c).1)(xs:List (Int×Int)):∀ {T:Tr}{acc:List (Int×Int)},Srt T→Srtd xs→Srt (seek sub i xs T acc).1:=by
 induction xs with
 | nil=>exact fun s _=>s
 | cons x r ih=>
  intro T acc s sx
  obtain⟨_,sr⟩:=List.pairwise_cons.mp sx
  rw [seek_c]
  cases h1:T i with
  | none=>exact s
  | some ni=>cases h2:T x.2 with
   | none=>exact s
   | some nc=>
    dsimp only
    have s1:Srt (setN T i { ni with queue:=r }):=s.set sr
    by_cases ha:nc.act=true
    ·rw [if_pos ha];exact s1
    ·rw [if_neg ha]
     have s2:=hs _ x.2 s1
     revert s2
     generalize sub (setN T i { ni with queue:=r }) x.2=u
     obtain⟨u1,u2⟩:=u
     intro s2
     cases u2 with
     | some y=>exact s2
     | none=>exact ih s2 sr
theorem Srt.sched:∀ (d:Nat){T:Tr}{i:Int},Srt T→Srt (sched d T i).1:=by
 intro d
 induction d with
 | zero=>exact fun s=>s
 | succ d ih=>
  intro T i s
  cases h:T i with
  | none=>rw [sched_c,h];exact s
  | some ni=>
   rw [sched_eq h]
   exact Srt.spent _ (Srt.seek (fun T c=>ih) _ s (s _ _ h))
end
end
section
open PySem
noncomputable def sh (s:Int) (x:Int×Int):Int×Int:=(x.1+s,x.2)
structure SimN (s:Int) (a b:Nd):Prop where
 w:b.w=a.w
 act:b.act=a.act
 lw:b.lw=a.lw+s
 df:b.df=a.df
 par:b.par=a.par
 kids:b.kids.Perm a.kids
 queue:b.queue.Perm (a.queue.map (sh s))
inductive SimO (s:Int):Option Nd→Option Nd→Prop
 | no:SimO s none none
 | so {a b:Nd} (x:SimN s a b):SimO s (some a) (some b)
noncomputable def Sim (σ:Int→Int) (T U:Tr):Prop:=∀ i,SimO (σ i) (T i) (U i)
section
variable {σ:Int→Int}{T U:Tr}{a b:Nd}{i p c:Int}{s:Int}{x y:Option Nd}
theorem SimO.get (h:SimO s x y)(e:x=some a):∃ b,y=some b∧SimN s a b:=by
 cases h with
 | no=>exact nsE e
 | so z=>obtain rfl:=Option.some.inj e;exact⟨_,rfl,z⟩
theorem SimO.back (h:SimO s x y)(e:y=some b):∃ a,x=some a∧SimN s a b:=by
 cases h with
 | no=>exact nsE e
 | so z=>obtain rfl:=Option.some.inj e;exact⟨_,rfl,z⟩
theorem SimO.none (h:SimO s x y)(e:x=none):y=none:=by
 cases h with
 | no=>rfl
 | so z=>exact snE e
theorem SimO.none' (h:SimO s x y):x=Option.none ↔ y=Option.none:=by
 cases h with
 | no=>exact Iff.rfl
 | so z=>exact⟨fun e=>snE e,fun e=>snE e⟩
theorem Sim.get (S:Sim σ T U)(e:T i=some a):∃ b,U i=some b∧SimN (σ i) a b:=(S i).get e
theorem Sim.set (S:Sim σ T U)(h:SimN (σ i) a b):Sim σ (setN T i a) (setN U i b):=fun j=>by
 by_cases q:j=i
 ·subst q;rw [setN_same,setN_same];exact .so h
 ·rw [setN_ne _ _ q,setN_ne _ _ q];exact S j
theorem perm_sh {q r:List (Int×Int)}{z:Int×Int}(h:r.Perm (q.map (sh s))):(qpush r (sh s z)).Perm ((qpush q z).map (sh s)):=
 (perm_qpush _ _).trans ((h.cons _).trans ((perm_qpush q z).map (sh s)).symm)
theorem pushes_perm (xs:List (Int×Int)):∀ acc,(xs.foldl qpush acc).Perm (xs++acc):=by
 induction xs with
 | nil=>exact fun _=>.refl _
 | cons z r ih=>exact fun acc=>(ih _).trans (((perm_qpush _ _).append_left _).trans List.perm_middle)
theorem re_perm (q:List (Int×Int))(c:Int):(requeue q c).Perm (q.filter fun x=>decide (x.2≠c)):=by
 unfold requeue
 have:=pushes_perm (q.filter fun x=>decide (x.2≠c)) []
 rw [List.append_nil] at this
 exact this
theorem re_sh {q r:List (Int×Int)}(h:r.Perm (q.map (sh s))):(requeue r c).Perm ((requeue q c).map (sh s)):=by
 refine (re_perm _ _).trans ((h.filter _).trans (.trans ?_ ((re_perm q c).map (sh s)).symm))
 rw [List.filter_map]
 exact .refl _
theorem Sim.add (S:Sim σ T U):Sim σ (addChild T p c) (addChild U p c):=by
 unfold addChild
 have hp:=S p
 have hc:=S c
 revert hp hc
 generalize T p=x,U p=y,T c=z,U c=v
 intro hp hc
 cases hp with
 | no=>exact S
 | so n=>
  cases hc with
  | no=>exact S
  | so m=>
   refine Sim.set (Sim.set S ⟨m.w,m.act,m.lw,m.df,rfl,m.kids,m.queue⟩) ⟨n.w,n.act,n.lw,n.df,n.par,n.kids.append_right _,?_⟩
   dsimp only
   rw [n.lw]
   exact perm_sh (z:=(_,c)) n.queue
theorem Sim.cut (S:Sim σ T U):Sim σ (cutChild T p c) (cutChild U p c):=by
 unfold cutChild
 have hp:=S p
 revert hp
 generalize T p=x,U p=y
 intro hp
 cases hp with
 | no=>exact S
 | so n=>exact S.set ⟨n.w,n.act,n.lw,n.df,n.par,n.kids.erase _,re_sh n.queue⟩
theorem Sim.turn1 {z:Int×Int}(S:Sim σ T U):Sim σ (turn1 T i z) (turn1 U i (sh (σ i) z)):=by
 unfold Mine.turn1
 show Sim σ _ (match U i,U z.2 with | some ni,some nc=>_ | _,_=>U)
 have hp:=S i
 have hc:=S z.2
 revert hp hc
 generalize T i=x,U i=y,T z.2=z',U z.2=v
 intro hp hc
 cases hp with
 | no=>exact S
 | so n=>
  cases hc with
  | no=>exact S
  | so m=>
   dsimp only
   refine Sim.set (Sim.set S ⟨m.w,m.act,m.lw,?_,m.par,m.kids,m.queue⟩) ⟨n.w,n.act,rfl,n.df,n.par,n.kids,?_⟩
   ·dsimp only
    rw [m.df,m.w]
   ·dsimp only
    rw [m.df,m.w]
    refine .trans (.of_eq (congrArg _ ?_)) (perm_sh n.queue)
    exact Prod.ext (Int.add_right_comm _ _ _) rfl
theorem Sim.spent (xs:List (Int×Int)):∀ {T U:Tr},Sim σ T U→Sim σ (spent T i xs) (spent U i (xs.map (sh (σ i)))):=by
 induction xs with
 | nil=>exact fun S=>S
 | cons k r ih=>exact fun S=>ih S.turn1
theorem seek_no {sub:Tr→Int→Tr×Option Int}{z:Int×Int}{r acc:List (Int×Int)}(h:T i=none∨T z.2=none):seek sub i (z :: r) T acc=(T,acc,none):=by
 rw [seek_c]
 rcases h with h | h <;> rw [h]
 cases T i <;> rfl
noncomputable def SubSim (σ:Int→Int) (sub:Tr→Int→Tr×Option Int):Prop:=∀ T U c,Sim σ T U→Srt T→Srt U→(sub U c).2=(sub T c).2∧Sim σ (sub T c).1 (sub U c).1
theorem Sim.seek {sub:Tr→Int→Tr×Option Int}(hs:SubSim σ sub)(ho:∀ T c,Srt T→Srt (sub T c).1)(q:List (Int×Int)):∀ {T U:Tr}(acc:List (Int×Int)),Sim σ T U→Srt T→Srt U→Srtd q→Srtd (q.map (sh (σ i)))→
  Sim σ (seek sub i q T acc).1 (seek sub i (q.map (sh (σ i))) U (acc.map (sh (σ i)))).1∧(seek sub i (q.map (sh (σ i))) U (acc.map (sh (σ i)))).2.1=(seek sub i q T acc).2.1.map (sh (σ i))∧(seek sub i (q.map (sh (σ i))) U (acc.map (sh (σ i)))).2.2=(seek sub i q T acc).2.2:=by
 induction q with
 | nil=>exact fun acc S _ _ _ _=>⟨S,rfl,rfl⟩
 | cons z r ih=>
  intro T U acc S s1 s2 q1 q2
  have q1':Srtd r:=(List.pairwise_cons.mp q1).2
  have q2':Srtd (r.map (sh (σ i))):=(List.pairwise_cons.mp q2).2
  cases hi:T i with
  | none=>
   rw [seek_no (.inl hi),List.map_cons,seek_no (.inl ((S i).none hi))]
   exact⟨S,rfl,rfl⟩
  | some ni=>
   cases hc:T z.2 with
   | none=>
    rw [seek_no (.inr hc),List.map_cons,seek_no (z:=sh (σ i) z) (.inr ((S z.2).none hc))]
    exact⟨S,rfl,rfl⟩
   | some nc=>
    refine xo1_2 (S.get hi) fun mi hi' n=>?_
    refine xo1_2 (S.get hc) fun mc hc' m=>?_
    have S1:Sim σ (setN T i { ni with queue:=r }) (setN U i { mi with queue:=r.map (sh (σ i)) }):=S.set ⟨n.w,n.act,n.lw,n.df,n.par,n.kids,.refl _⟩
    have ac:(acc++[z]).map (sh (σ i))=acc.map (sh (σ i))++[sh (σ i) z]:=by rw [List.map_append];rfl
    rw [List.map_cons]
    cases ha:nc.act with
    | true=>
     rw [seek_act hi hc ha,seek_act (x:=sh (σ i) z) hi' hc' (m.act.trans ha),ac.symm]
     exact⟨S1,rfl,rfl⟩
    | false=>
     rw [seek_sub hi hc ha,seek_sub (x:=sh (σ i) z) hi' hc' (m.act.trans ha),ac.symm]
     have t1:Srt (setN T i { ni with queue:=r }):=s1.set q1'
     have t2:Srt (setN U i { mi with queue:=r.map (sh (σ i)) }):=s2.set q2'
     have g:=hs _ _ z.2 S1 t1 t2
     have o1:=ho _ z.2 t1
     have o2:=ho _ z.2 t2
     revert g o1 o2
     show _∧Sim σ (sub _ z.2).1 (sub _ z.2).1→Srt (sub _ z.2).1→Srt (sub _ z.2).1→Sim σ _ (match sub _ z.2 with | (T2,some y)=>(T2,_,some y) | (T2,none)=>_).1∧(match sub _ z.2 with | (T2,some y)=>(T2,_,some y) | (T2,none)=>_).2.1=_∧(match sub _ z.2 with | (T2,some y)=>(T2,_,some y) | (T2,none)=>_).2.2=_
     generalize sub (setN T i { ni with queue:=r }) z.2=u,sub (setN U i { mi with queue:=r.map (sh (σ i)) }) z.2=v
     obtain⟨u1,u2⟩:=u
     obtain⟨v1,v2⟩:=v
     rintro⟨g1,g2⟩ o1 o2
     dsimp only at g1 g2 o1 o2
     subst g1
     cases v2 with
     | some y=>exact⟨g2,rfl,rfl⟩
     | none=>exact ih _ g2 o1 o2 q1' q2'
theorem Srtd.same {q r:List (Int×Int)}(h:r.Perm q)(s:Srtd q)(t:Srtd r):r=q:=
 h.eq_of_pairwise (le:=fun x y=>ahead y x=false) (fun x y _ _ h1 h2=>by
  rw [ahead_f] at h1 h2
  exact Prod.ext (by lia) (by lia)) t s
theorem Srtd.sh {q:List (Int×Int)}(t:Srtd q):Srtd (q.map (sh s)):=
 List.pairwise_map.mpr (t.imp fun {x y} h=>by
  rw [ahead_f] at h ⊢
  unfold Mine.sh
  dsimp only
  lia)
theorem Sim.sched:∀ d,SubSim σ (sched d):=by
 intro d
 induction d with
 | zero=>exact fun T U c S _ _=>⟨rfl,S⟩
 | succ d ih=>
  intro T U c S s1 s2
  cases hi:T c with
  | none=>
   have hi':=(S c).none hi
   rw [sched_c,sched_c,hi,hi']
   exact⟨rfl,S⟩
  | some ni=>
   refine xo1_2 (S.get hi) fun mi hi' n=>?_
   rw [sched_eq hi,sched_eq hi']
   have e:mi.queue=ni.queue.map (sh (σ c)):=Srtd.same n.queue (s1 _ _ hi).sh (s2 _ _ hi')
   rw [e]
   have:=Sim.seek (i:=c) (σ:=σ) ih (fun T c h=>Srt.sched d h) ni.queue [] S s1 s2 (s1 _ _ hi) (s1 _ _ hi).sh
   refine xo0_3 this fun g1 g2 g3=>?_
   refine⟨g3,?_⟩
   dsimp only
   rw [List.map_nil] at g2 g1
   rw [g2]
   exact g1.spent _
end
end
section
open PySem
noncomputable def setS (σ:Int→Int) (i s:Int):Int→Int:=fun j=>if j=i then s else σ j
noncomputable def cutAll (T:Tr) (p:Int) (ys:List Int):Tr:=ys.foldl (fun T y=>cutChild T p y) T
noncomputable def goes (T:Tr) (p c:Int) (ys:List Int):Tr:=ys.foldl (fun T y=>addChild (cutChild T p y) c y) T
section
variable {σ:Int→Int}{T U:Tr}{a b np nx nq mp mx mq:Nd}{i j p q c x y z:Int}{s:Int}{ks ys:List Int}
theorem setN_comm (ne:i≠j):setN (setN T i a) j b=setN (setN T j b) i a:=by
 funext k
 by_cases e:k=j
 ·rw [e,setN_same,setN_ne _ _ ne.symm,setN_same]
 ·rw [setN_ne _ _ e]
  by_cases e':k=i
  ·rw [e',setN_same,setN_same]
  ·rw [setN_ne _ _ e',setN_ne _ _ e',setN_ne _ _ e]
theorem Sim.setσ (S:∀ j,j≠i→SimO (σ j) (T j) (U j))(h:SimN s a b)(ha:T i=some a)(hb:U i=some b):Sim (setS σ i s) T U:=fun j=>by
 unfold setS
 by_cases q:j=i
 ·subst q;rw [if_pos rfl,ha,hb];exact .so h
 ·rw [if_neg q];exact S j q
theorem cut_eq (h:T p=some np):cutChild T p z=setN T p { np with kids:=np.kids.erase z,queue:=requeue np.queue z }:=by unfold cutChild;rw [h]
theorem cut_no (h:T p=none):cutChild T p z=T:=by unfold cutChild;rw [h]
theorem add_no (h:T p=none∨T c=none):addChild T p c=T:=by
 unfold addChild
 rcases h with h | h <;> rw [h]
 cases T p <;> rfl
theorem cut_add (pc:p≠c)(py:p≠y):cutChild (addChild T c y) p z=addChild (cutChild T p z) c y:=by
 cases hc:T c with
 | none=>
  rw [add_no (.inl hc),add_no (.inl (cut_none.mpr hc))]
 | some nc=>
  cases hy:T y with
  | none=>rw [add_no (.inr hy),add_no (.inr (cut_none.mpr hy))]
  | some ny=>
   cases hp:T p with
   | none=>
    rw [cut_no hp,cut_no (addChild_none.mpr hp)]
   | some np=>
    rw [addChild_eq hc hy,cut_eq (T:=T) hp,cut_eq (((setN_ne _ _ pc).trans (setN_ne _ _ py)).trans hp),addChild_eq ((setN_ne _ _ pc.symm).trans hc) ((setN_ne _ _ py.symm).trans hy),setN_comm pc.symm]
    rw [setN_comm (T:=T) py.symm]
theorem cutAll_add (pc:p≠c)(py:p≠y)(r:List Int):∀ {T:Tr},cutAll (addChild T c y) p r=addChild (cutAll T p r) c y:=by
 induction r with
 | nil=>exact rfl
 | cons z r ih=>
  intro T
  show cutAll (cutChild (addChild T c y) p z) p r=addChild (cutAll (cutChild T p z) p r) c y
  rw [cut_add pc py,ih]
theorem goes_eq (pc:p≠c)(ys:List Int)(py:∀ y∈ys,p≠y):∀ {T:Tr},goes T p c ys=hangAll (cutAll T p ys) c ys:=by
 induction ys with
 | nil=>exact rfl
 | cons y r ih=>
  intro T
  show goes (addChild (cutChild T p y) c y) p c r=hangAll (addChild (cutAll (cutChild T p y) p r) c y) c r
  rw [ih fun z hz=>py z (.tail _ hz),cutAll_add pc (py y (.head _))]
theorem cutAll_at (ys:List Int):∀ {T:Tr}{np:Nd},T p=some np→np.kids.Nodup→∃ q,cutAll T p ys=setN T p { np with kids:=np.kids.filter fun i=>decide (i ∉ ys),queue:=q }∧q.Perm (np.queue.filter fun x=>decide (x.2 ∉ ys)):=by
 induction ys with
 | nil=>
  intro T np h _
  refine⟨np.queue,?_,?_⟩
  ·rw [List.filter_eq_self.mpr fun _ _=>decide_eq_true List.not_mem_nil]
   funext j
   show T j=_
   by_cases e:j=p
   ·rw [e,setN_same,h]
   ·rw [setN_ne _ _ e]
  ·rw [List.filter_eq_self.mpr fun _ _=>decide_eq_true List.not_mem_nil]
 | cons y r ih=>
  intro T np h nd
  have e1:=cut_eq (z:=y) h
  obtain⟨q,e2,e3⟩:=ih (T:=cutChild T p y) (by rw [e1];exact setN_same ..) (nd.erase y)
  refine⟨q,?_,e3.trans (((re_perm _ _).filter _).trans ?_)⟩
  ·show cutAll (cutChild T p y) p r=_
   rw [e2,e1,setN_setN]
   refine congrArg (fun k=>setN T p { np with kids:=k,queue:=q }) ?_
   dsimp only
   rw [nd.erase_eq_filter,List.filter_filter]
   refine List.filter_congr fun k _=>?_
   by_cases g1:k=y <;> by_cases g2:k∈r <;> simp [g1,g2]
  ·rw [List.filter_filter]
   refine .of_eq (List.filter_congr fun k _=>?_)
   by_cases g1:k.2=y <;> by_cases g2:k.2∈r <;> simp [g1,g2]
theorem pushAll_p (lw:Int)(ks:List Int)(q:List (Int×Int)):(pushAll lw ks q).Perm (ks.map (fun k=>(lw,k))++q):=by
 have:=pushes_perm (ks.map fun k=>(lw,k)) q
 rw [List.foldl_map] at this
 exact this
theorem Sim.hangP (S:Sim σ T U)(hc:T c=some a)(hk:∀ k∈ks,T k≠none∧k≠c)(pm:ys.Perm ks):Sim σ (hangAll T c ks) (hangAll U c ys):=by
 obtain⟨b,hb,n⟩:=S.get hc
 rw [hangAll_eq ks hc hk,hangAll_eq ys hb fun k h=>⟨fun w=>(hk k (pm.mem_iff.mp h)).1 ((S k).none'.mpr w),(hk k (pm.mem_iff.mp h)).2⟩]
 intro j
 unfold hung
 by_cases q:j=c
 ·subst q
  rw [if_pos rfl,if_pos rfl]
  refine .so ⟨n.w,n.act,n.lw,n.df,n.par,n.kids.append pm,?_⟩
  dsimp only
  rw [n.lw]
  refine (pushAll_p _ _ _).trans (.trans ?_ ((pushAll_p _ _ _).map (sh (σ j))).symm)
  rw [List.map_append,List.map_map]
  exact (pm.map _).append n.queue
 ·rw [if_neg q,if_neg q]
  have S:=S j
  by_cases m:j∈ks
  ·rw [if_pos m,if_pos (pm.mem_iff.mpr m)]
   revert S
   generalize T j=x,U j=y
   intro S
   cases S with
   | no=>exact .no
   | so n=>exact .so ⟨n.w,n.act,n.lw,n.df,rfl,n.kids,n.queue⟩
  ·rw [if_neg m,if_neg fun w=>m (pm.mem_iff.mp w)];exact S
theorem Sim.alone (S:Sim σ T U)(hp:T p=some np)(hx:T x=some nx)(ne:p≠x)(hk:∀ y∈np.kids,T y≠none∧y≠x∧y≠p)(kq:(np.queue.map (·.2)).Perm np.kids)(nd:np.kids.Nodup)(pm:ys.Perm np.kids) :
  ∃ σ',Sim σ' (addExcl T p x) (goes (addChild U p x) p x ys):=by
 obtain⟨mp,hp',n⟩:=S.get hp
 obtain⟨mx,hx',n2⟩:=S.get hx
 have yp:∀ y∈ys,y≠p∧y≠x:=fun y h=>⟨(hk y (pm.mem_iff.mp h)).2.2,(hk y (pm.mem_iff.mp h)).2.1⟩
 have xy:x ∉ ys:=fun h=>(yp x h).2 rfl
 rw [goes_eq ne ys fun y h=>(yp y h).1.symm]
 have eA:addExcl T p x=hangAll (addChild (setN T p { np with kids:=[],queue:=[],lw:=0 }) p x) x np.kids:=by unfold addExcl;rw [hp];rfl
 rw [eA,addChild_eq (setN_same ..) ((setN_ne _ _ ne.symm).trans hx),addChild_eq hp' hx']
 have mn:(mp.kids++[x]).Nodup:=by
  rw [List.nodup_append]
  refine⟨n.kids.nodup_iff.mpr nd,List.pairwise_singleton ..,fun u hu v hv e=>?_⟩
  rw [List.mem_singleton.mp hv] at e
  exact (hk u (n.kids.mem_iff.mp hu)).2.1 e
 obtain⟨q,e1,e2⟩:=cutAll_at (T:=setN (setN U x { mx with par:=some p }) p { mp with kids:=mp.kids++[x],queue:=qpush mp.queue (mp.lw,x) }) (p:=p) ys (setN_same ..) mn
 have all:∀ i∈mp.kids,i∈ys:=fun i hi=>pm.mem_iff.mpr (n.kids.mem_iff.mp hi)
 rw [e1,setN_setN]
 refine⟨setS σ p mp.lw,Sim.hangP ?_ ((setN_ne _ _ ne.symm).trans (setN_same ..)) (fun k h=>⟨setN_dom (setN_dom (setN_dom (hk k h).1)),(hk k h).2.1⟩) pm⟩
 refine Sim.setσ (fun j hj=>?_) (a:={ np with kids:=[]++[x],queue:=qpush [] (0,x),lw:=0 }) (b:={ mp with kids:=(mp.kids++[x]).filter fun i=>decide (i ∉ ys),queue:=q }) ⟨n.w,n.act,(Int.zero_add _).symm,n.df,n.par,?_,?_⟩ (setN_same ..) (setN_same ..)
 ·rw [setN_ne _ _ hj,setN_ne _ _ hj]
  by_cases g:j=x
  ·subst g;rw [setN_same,setN_same];exact .so ⟨n2.w,n2.act,n2.lw,n2.df,rfl,n2.kids,n2.queue⟩
  ·rw [setN_ne _ _ g,setN_ne _ _ g,setN_ne _ _ hj];exact S j
 ·dsimp only
  rw [List.filter_append,List.filter_eq_nil_iff.mpr fun i hi=>by simp [all i hi],List.filter_eq_self.mpr fun i hi=>by rw [List.mem_singleton.mp hi];exact decide_eq_true xy]
 ·refine e2.trans (((perm_qpush _ _).filter _).trans ?_)
  rw [List.filter_cons_of_pos (by exact decide_eq_true xy),List.filter_eq_nil_iff.mpr fun i hi=>?_]
  ·exact .of_eq (congrArg (fun l=>[(l,x)]) (Int.zero_add _).symm)
  ·have:i.2∈np.kids:=kq.mem_iff.mp (by
    have:=(n.queue.map (·.2)).mem_iff.mp (List.mem_map.mpr ⟨i,hi,rfl⟩)
    rw [List.map_map] at this
    exact this)
   simp [pm.mem_iff.mpr this]
theorem Sim.out (S:Sim σ T U)(hq:T q=some nq)(hx:T x=some nx)(ne:q≠x)(mem:x∈nq.kids)(hk:∀ y∈nx.kids,T y≠none∧y≠x∧y≠q)(nd:nx.kids.Nodup)(pm:ys.Perm nx.kids) :
  Sim σ (takeOut T q x) (takeOut (goes U x q ys) q x):=by
 obtain⟨mq,hq',n⟩:=S.get hq
 obtain⟨mx,hx',n2⟩:=S.get hx
 have yp:∀ y∈ys,U y≠none∧y≠x∧y≠q:=fun y h=>let ⟨a,b⟩:=hk y (pm.mem_iff.mp h);⟨fun w=>a ((S y).none'.mpr w),b⟩
 rw [goes_eq ne.symm ys fun y h=>(yp y h).2.1.symm]
 obtain⟨q2,e1,e2⟩:=cutAll_at (T:=U) (p:=x) ys hx' (n2.kids.nodup_iff.mpr nd)
 have k0:(mx.kids.filter fun i=>decide (i ∉ ys))=[]:=List.filter_eq_nil_iff.mpr fun i hi=>by simp [pm.mem_iff.mpr (n2.kids.mem_iff.mp hi)]
 rw [k0] at e1
 rw [e1,hangAll_eq ys ((setN_ne _ _ ne).trans hq') fun y h=>⟨setN_dom (yp y h).1,(yp y h).2.2⟩]
 have xy:x ∉ ys:=fun h=>(yp x h).2.1 rfl
 have hxx:hung (setN U x { mx with kids:=[],queue:=q2 }) q ys mq x=some { mx with kids:=[],queue:=q2 }:=by
  unfold hung
  rw [if_neg ne.symm,if_neg xy,setN_same]
 have hqq:hung (setN U x { mx with kids:=[],queue:=q2 }) q ys mq q=some { mq with kids:=mq.kids++ys,queue:=pushAll mq.lw ys mq.queue }:=by
  unfold hung
  rw [if_pos rfl]
 have hc:cutChild T q x q=some { nq with kids:=nq.kids.erase x,queue:=requeue nq.queue x }:=by rw [cut_eq hq];exact setN_same ..
 have lt:takeOut T q x=delN (hung (cutChild T q x) q nx.kids { nq with kids:=nq.kids.erase x,queue:=requeue nq.queue x }) x:=by
  unfold takeOut rmChild
  rw [if_pos rfl,hx]
  exact congrArg (delN · x) (hangAll_eq nx.kids hc fun y h=>⟨fun w=>(hk y h).1 (cut_none.mp w),(hk y h).2.2⟩)
 rw [lt]
 unfold takeOut rmChild
 rw [if_pos rfl,hxx]
 show Sim σ _ (delN (cutChild _ q x) x)
 rw [cut_eq hqq]
 intro j
 unfold delN
 by_cases jx:j=x
 ·rw [if_pos jx,if_pos jx];exact .no
 ·rw [if_neg jx,if_neg jx]
  by_cases jq:j=q
  ·subst jq
   rw [setN_same]
   unfold hung
   rw [if_pos rfl]
   refine .so ⟨n.w,n.act,n.lw,n.df,n.par,?_,?_⟩
   ·dsimp only
    rw [List.erase_append_left _ (n.kids.mem_iff.mpr mem)]
    exact (n.kids.erase x).append pm
   ·dsimp only
    refine (re_perm _ _).trans (((pushAll_p _ _ _).filter _).trans (.trans ?_ ((pushAll_p _ _ _).map (sh (σ j))).symm))
    rw [List.filter_append,List.filter_eq_self.mpr fun i hi=>?_,List.map_append,List.map_map,n.lw]
    ·exact (pm.map _).append ((re_perm _ _).symm.trans (re_sh n.queue))
    ·obtain⟨k,hk,rfl⟩:=List.mem_map.mp hi
     exact decide_eq_true fun w=>xy (w ▸ hk)
  ·rw [setN_ne _ _ jq,cut_eq hq]
   unfold hung
   rw [if_neg jq,if_neg jq,setN_ne _ _ jq,setN_ne _ _ jx]
   have S:=S j
   by_cases m:j∈nx.kids
   ·rw [if_pos m,if_pos (pm.mem_iff.mpr m)]
    revert S
    generalize T j=x,U j=y
    intro S
    cases S with
    | no=>exact .no
    | so n=>exact .so ⟨n.w,n.act,n.lw,n.df,rfl,n.kids,n.queue⟩
   ·rw [if_neg m,if_neg fun w=>m (pm.mem_iff.mp w)];exact S
end
end
section
open PySem PySem.W PyProof.Rows
section
variable {C:Nat→List AV→St→R AV}{E:Est}{k n:Nat}{h:Hp}{L:Lo}{a d:Nat}{A cl ql:Ad}{G:Hp}{Φ:Fo}{t:Nat}{i x p q:Int}{nd nx np:Nd}{T:Tr}{mx:Int}{es:List (AV×AV)}{Q:Pst AV}
noncomputable def blk (T:Tr) (p:Int):Tr:=match T p with
 | some nd=>setN T p { nd with act:=false }
 | none=>T
theorem f19m (m:Nat){S:Tr}{r:Nd}(R:Rep A cl ql (setT Φ t T) G h n)(X:TR A t a d mx es S G)(hmx:(es.length:Int)+1≤mx)(hl:es.length < 900)(hp:S p=none)(no:NoRef T p)(p0:p≠0)(hS:S 0≠none)(tk:Takes T 0 r)
  (hQ:∀ cl' ql' h' n',Rep (updA A t p n) cl' ql' (setT Φ t (blk (putIn T 0 p 16 false) p)) (upd G d (.dict (dput es (.int p) (.loc n)))) h' n'→TR (updA A t p n) t a d mx (dput es (.int p) (.loc n)) (putIn S 0 p 16 false) (upd G d (.dict (dput es (.int p) (.loc n))))→Q (.loc n) L h' n' 0):Wp (callF sg (m+8) 19 [.loc a,.int p] ⟨L,h,n,0⟩) Q E:=by
 refine c_in rfl rfl ?_
 show Wp (execs sg _ b19 ⟨[(20,.loc a),(77,.int p)],h,n,0⟩) _ _
 delta b19
 walk_at "r"
 refine x_try ?_
 walk_at "r"
 refine getT R X rfl rfl rfl ?_
 walk_at "r"
 refine i_dict0 (R.old _ _ X.dict) (X.no hp) ?_
 refine h_hit rfl ?_
 walk_at "r"
 refine⟨_,methT R X rfl rfl,?_⟩
 walk_at "r"
 refine c_fn rfl rfl (f21p m (p:=0) R (Nat.le_refl _) X hmx hp no p0 (fun e=>p0 e.symm) (.inr ⟨rfl,rfl⟩) (by decide) hS tk nofun fun cl1 ql1 h1 n1 R1=>⟨trivial,?_⟩)
 have e0:∀ (j:Int),j≠p→(S j=none ↔ putIn S 0 p 16 false j=none):=fun j hj=>by
  show S j=none ↔ addChild (setN S p (nd0 16)) 0 p j=none
  rw [addChild_none,setN_ne _ _ hj]
 have e1:putIn S 0 p 16 false p≠none:=by
  show addChild (setN S p (nd0 16)) 0 p p≠none
  rw [ne_eq,addChild_none,setN_same];nofun
 have X1:=X.put (l:=n) (T':=putIn S 0 p 16 false) p0 hl e0 e1
 have e2:putIn T 0 p 16 false p≠none:=by
  show addChild (setN T p (nd0 16)) 0 p p≠none
  rw [ne_eq,addChild_none,setN_same];nofun
 refine xo1_1 (nNone e2) fun np hnp=>?_
 walk_at "r"
 refine⟨_,methT R1 X1 rfl rfl,?_⟩
 walk_at "r"
 refine c_fn rfl rfl (f24 (m+6) R1 X1 p0 e1 hnp fun h2 R2=>⟨trivial,?_⟩)
 have eb:blk (putIn T 0 p 16 false) p=setN (putIn T 0 p 16 false) p { np with act:=false }:=by unfold blk;rw [hnp]
 rw [← eb] at R2
 walk_at "r"
 refine getT R2 X1 rfl rfl rfl ?_
 walk_at "r"
 refine i_dict (R2.old _ _ X1.dict) (X1.at_ e1) ?_
 rw [updA_same]
 walk_at "r"
 exact hQ _ _ _ _ R2 X1
structure MvOk (T:Tr) (q p x:Int) (ex:Bool) (nq nx np:Nd):Prop where
 g:Gives T q x nq nx
 ne:p≠x
 tk:Takes (cutChild T q x) p np
 hg:HangOk (cutChild T q x) p x ex np
theorem mv_tail (m:Nat){ex:Bool}{nq:Nd}(R:Rep A cl ql (setT Φ t T) G h n)(hk:k≤1)(o:MvOk T q p x ex nq nx np)(l62:get? L 62=some (.loc (A t p)))(l86:get? L 86=some (.bool ex))(l92:get? L 92=some (.loc (A t x)))
  {L':Lo} (hQ:∀ cl' ql' h' n',Rep A cl' ql' (setT Φ t (hangX (cutChild T q x) p x ex)) G h' n'→Q .none L' h' n' k) :
  Wp (exec sg (callF sg (m+6)) b22s5 ⟨L,h,n,k⟩) (Go1 sg (callF sg (m+6)) (.cons b22s6 .nil) (Back L' Q) E) E:=by
 obtain⟨g,ne,tk,hh⟩:=o
 delta b22s5 b22s6
 walk_at "r"
 refine R.getPar g.c g.par ?_
 refine⟨_,R.meth g.at_ rfl rfl,?_⟩
 walk_at "r"
 refine c_fn rfl rfl (f8 (m+1) (b:=false) R hk g.at_ g.c g.ne g.mem g.kids g.q g.kl g.ql nofun fun ql' h3 n3 R3=>⟨trivial,?_⟩)
 have e2:rmChild T q x false=cutChild T q x:=rfl
 rw [e2] at R3
 refine xo1_1 (nNone (fun w=>by rw [cut_none,g.c] at w;exact snE w:cutChild T q x x≠none)) fun ny cx=>?_
 walk_at "r"
 cases ex with
 | true=>
  walk_at "r"
  refine⟨_,R3.meth tk.at_ rfl rfl,?_⟩
  walk_at "r"
  refine c_fn rfl rfl (f7 (m+1) R3 hk tk.at_ cx ne tk.kl (hh rfl) fun cl' ql' h' n' R4=>⟨trivial,?_⟩)
  walk_at "r"
  exact hQ _ _ _ _ R4
 | false=>
  walk_at "r"
  refine⟨_,R3.meth tk.at_ rfl rfl,?_⟩
  walk_at "r"
  refine c_fn rfl rfl (f6 (m+2) R3 tk.at_ cx ne tk.q tk.ql tk.kl fun h' n' R4=>⟨trivial,?_⟩)
  walk_at "r"
  exact hQ _ _ _ _ R4
noncomputable def wt (T:Tr) (x w:Int):Tr:=match T x with
 | some nx=>setN T x { nx with w:=w }
 | none=>T
noncomputable def cyc (b:Bool) (T:Tr) (pp q p:Int):Tr:=if b=true then hangX (cutChild T pp p) q p false else T
inductive RpOk (T:Tr) (x p w:Int) (ex b:Bool) (T':Tr):Prop
 | intro (nx:Nd) (pp q:Int) (nq nx' np:Nd) (hx:T x=some nx) (hw:1≤w∧w≤256) (hb:b=true→nx.par=some q∧∃ npp np nq,MvOk (wt T x w) pp q p false npp np nq∧np.kids=[]) (o:MvOk (cyc b (wt T x w) pp q p) q p x ex nq nx' np) (e:T'=hangX (cutChild (cyc b (wt T x w) pp q p) q x) p x ex)
theorem f22 (m:Nat){w:Int}{pv:AV}{ex:Bool}{QQ:Ad→List (AV×AV)→Tr→Prop}(R:Rep A cl ql (setT Φ t T) G h n)(hk:k≤1)(X:TR A t a d mx es T G)(x0:x≠0)(hx:T x≠none)(px:p≠x)(hpv:pv=.int p∨(pv=.none∧p=0))
  (h19:p≠0→∀ {L1:Lo} {Q:Pst AV} {E:Est},(∀ A2 cl2 ql2 es2 T2 h2 n2 b T3,A2 t x=A t x→Rep A2 cl2 ql2 (setT Φ t T2) (upd G d (.dict es2)) h2 n2→T2 x≠none→climb T2 100 p x=some b→RpOk T2 x p w ex b T3→QQ A2 es2 T3→Q (.loc (A2 t p)) L1 h2 n2 k)→Wp (callF sg (m+6) 19 [.loc a,.int p] ⟨L1,h,n,k⟩) Q E)
  (h0:p=0→T 0≠none∧∃ T3,RpOk T x p w ex false T3∧QQ A es T3)
  (hQ:∀ A2 cl' ql' es2 T3 h' n',QQ A2 es2 T3→Rep A2 cl' ql' (setT Φ t T3) (upd G d (.dict es2)) h' n'→Q .none L h' n' k) :
  Wp (callF sg (m+7) 22 [.loc a,.int x,pv,.int w,.bool ex] ⟨L,h,n,k⟩) Q E:=by
 refine c_in rfl rfl ?_
 show Wp (execs sg _ b22 ⟨[(20,.loc a),(21,.int x),(85,pv),(22,.int w),(86,.bool ex)],h,n,k⟩) _ _
 delta b22
 delta b22s0 b22s1 b22s2
 walk_at "r"
 refine it_f (decide_eq_false x0) ?_
 walk_at "r"
 refine x_try ?_
 walk_at "r"
 refine getT R X rfl rfl rfl ?_
 walk_at "r"
 refine i_dict (R.old _ _ X.dict) (X.at_ hx) ?_
 have rest:∀ {L1:Lo} {A2 cl2 ql2:Ad} {es2:List (AV×AV)} {T2 T3:Tr} {h1:Hp} {n1:Nat} {b:Bool},A2 t x=A t x→Rep A2 cl2 ql2 (setT Φ t T2) (upd G d (.dict es2)) h1 n1→RpOk T2 x p w ex b T3→QQ A2 es2 T3→get? L1 22=some (.int w)→get? L1 62=some (.loc (A2 t p))→get? L1 86=some (.bool ex)→get? L1 92=some (.loc (A t x))→get? L1 95=some (.bool b)→
   Wp (execs sg (callF sg (m+6)) (match b22 with | .cons _ (.cons _ (.cons _ r))=>r | _=>.nil) ⟨L1,h1,n1,k⟩) (Back L Q) fun c cl _ h n k=>E c cl L h n k:=fun {L1 A2 cl2 ql2 es2 T2 T3 h1 n1 b} eA R1 o qq l22 l62 l86 l92 l95=>by
  obtain⟨nx,pp,q,nq,nx',np,hx2,hw,hb,o,rfl⟩:=o
  delta b22
  delta b22s3 b22s4
  dsimp only
  rw [← eA] at l92
  walk_at "r"
  refine R1.setW (m+5) hx2 w hk (fun _ h2 R2=>?_) fun e=>(e hw).elim
  have ew:setN T2 x { nx with w:=w }=wt T2 x w:=by unfold wt;rw [hx2]
  rw [ew] at R2
  have hxw:wt T2 x w x=some { nx with w:=w }:=by rw [← ew];exact setN_same ..
  cases b with
  | false=>
   walk_at "r"
   exact mv_tail m R2 hk o l62 l86 l92 fun cl' ql' h' n' R3=>hQ _ _ _ _ _ _ _ qq R3
  | true=>
   obtain⟨hq,npp,np1,nq1,o1,k0⟩:=hb rfl
   walk_at "r"
   refine R2.getPar o1.g.c o1.g.par ?_
   refine⟨_,R2.meth o1.g.at_ rfl rfl,?_⟩
   walk_at "r"
   refine c_fn rfl rfl (f8 (m+1) (b:=true) R2 hk o1.g.at_ o1.g.c o1.g.ne o1.g.mem o1.g.kids o1.g.q o1.g.kl o1.g.ql (fun _=>by rw [k0];exact⟨trivial,Nat.zero_le _⟩) fun ql' h3 n3 R3=>⟨trivial,?_⟩)
   have e2:rmChild (wt T2 x w) pp p true=cutChild (wt T2 x w) pp p:=by unfold rmChild;rw [if_pos rfl,o1.g.c];dsimp only;rw [k0];rfl
   rw [e2] at R3
   have cx:∃ y,cutChild (wt T2 x w) pp p x=some y∧y.par=some q:=by
    unfold cutChild;rw [o1.g.at_]
    dsimp only
    by_cases z:x=pp
    ·subst z
     have:=o1.g.at_
     rw [hxw] at this
     obtain rfl:=Option.some.inj this
     exact⟨_,setN_same ..,hq⟩
    ·exact⟨_,(setN_ne _ _ z).trans hxw,hq⟩
   refine xo1_2 cx fun ny cx1 cx2=>?_
   refine xo1_1 (nNone (fun w'=>by rw [cut_none,o1.g.c] at w';exact snE w':cutChild (wt T2 x w) pp p p≠none)) fun ny2 cp=>?_
   walk_at "r"
   refine R3.getPar cx1 cx2 ?_
   refine⟨_,R3.meth o1.tk.at_ rfl rfl,?_⟩
   walk_at "r"
   refine c_fn rfl rfl (f6 (m+2) R3 o1.tk.at_ cp o1.ne o1.tk.q o1.tk.ql o1.tk.kl fun h4 n4 R4=>⟨trivial,?_⟩)
   walk_at "r"
   exact mv_tail m R4 hk o l62 l86 l92 fun cl' ql' h' n' R5=>hQ _ _ _ _ _ _ _ qq R5
 have zero:p=0→∀ (pv:AV),Wp (execs sg (callF sg (m+6)) (match b22 with | .cons _ (.cons _ (.cons (.ife _ _ b _) _))=>b | _=>.nil) ⟨[(20,.loc a),(21,.int x),(85,pv),(22,.int w),(86,.bool ex),(92,.loc (A t x))],h,n,k⟩)
   (Go1 sg (callF sg (m+6)) (match b22 with | .cons _ (.cons _ (.cons _ r))=>r | _=>.nil) (Back L Q) fun c cl _ h n k=>E c cl L h n k) fun c cl _ h n k=>E c cl L h n k:=fun e0 pv=>by
  refine xo0_2 (h0 e0) fun hp z_=>xo1_2 z_ fun T3 o qq=>?_;clear z_
  subst e0
  refine xs_cons (x_asg (e_sub (e_attr (e_lv rfl (getT R X rfl rfl rfl (e_ci (i_dict (R.old _ _ X.dict) (X.at_ hp) ?_)))))))
  refine go_next (xs_cons (x_asg (e_cb (go_next (xs_nil (go_next (rest (b:=false) (cl2:=cl) (ql2:=ql) rfl ?_ o qq ?_ ?_ ?_ ?_ ?_)))))))
  ·rw [upd_self X.dict];exact R
  all_goals rfl
 refine go_next (xs_nil (go_next (xs_cons (x_ife (e_lv rfl ?_)))))
 rcases hpv with rfl | ⟨rfl,hp0⟩
 ·refine t_int (it_s (fun y=>?_) fun y=>?_)
  ·have y:p≠0:=by simpa using y
   refine xs_cons (x_ife (e_cmp (e_lv rfl (e_lv rfl (k_eq (t_bool (it_f (decide_eq_false px) (xs_nil (go_next ?_)))))))))
   walk_at "r"
   refine⟨_,methT R X rfl rfl,?_⟩
   walk_at "r"
   refine c_fn rfl rfl (h19 y fun A2 cl2 ql2 es2 T2 h2 n2 b T3 eA R2 hx2 hc o qq=>?_)
   rw [← eA]
   walk_at "r"
   refine c_fn rfl rfl (f17 (m+5) R2 hk hx2 hc fun h1 n1 R1=>?_)
   refine go_next (xs_nil (go_next (rest eA R1 o qq ?_ ?_ ?_ ?_ ?_)))
   all_goals first | rfl | (rw [eA];rfl)
  ·have y:p=0:=by simpa using y
   exact zero y _
 ·exact t_none (it_f rfl (zero hp0 _))
end
end
section
open PySem PySem.W PyProof.Rows
section
variable {A A' cl ql:Ad}{Φ:Fo}{F G G' h:Hp}{t a d n:Nat}{T:Tr}{M N:Nat}{mx:Int}{es:List (AV×AV)}
theorem TR.keep (X:TR A t a d mx es T G)(hA:A' t=A t)(ha:G' a=G a)(hd:G' d=G d):TR A' t a d mx es T G':=
 ⟨by rw [ha];show G a=some (.inst 68 [(70,.loc (A' t 0)),(71,.loc d),(76,.int mx)]);rw [hA];exact X.obj,hd.trans X.dict,fun i=>by rw [hA];exact X.ent i,X.len⟩
theorem Tre.keep (X:Tre M A t a d T G)(hM:M≤N)(hA:A' t=A t)(ha:G' a=G a)(hd:G' d=G d):Tre N A' t a d T G':=by
 obtain⟨es,x,o,l⟩:=X.tr
 exact⟨⟨es,x.keep hA ha hd,o,by lia⟩,X.wt.more hM⟩
theorem Tre.obj (X:Tre M A t a d T G):∃ as,G a=some (.inst 68 as):=by
 obtain⟨es,x,_⟩:=X.tr
 exact⟨_,x.obj⟩
theorem Tre.dict (X:Tre M A t a d T G):∃ es,G d=some (.dict es):=by
 obtain⟨es,x,_⟩:=X.tr
 exact⟨_,x.dict⟩
end
inductive WEx (k M:Nat) (a d:Nat→Nat) (Φ:Fo) (F h:Hp) (n:Nat):Prop
 | intro (A cl ql:Ad) (G:Hp) (R:Rep A cl ql Φ G h n) (tre:∀ t,t < k→Tre M A t (a t) (d t) (Φ t) G) (fo:∀ l o,F l=some o→G l=some o∧∀ t,t < k→l≠a t∧l≠d t)
structure World (k M:Nat) (a d:Nat→Nat) (Φ:Fo) (F h:Hp) (n:Nat):Prop where
 ex:WEx k M a d Φ F h n
 inj:∀ t u,t < k→u < k→d t=d u→t=u
 no:∀ t,k≤t→Φ t=emp
section
variable {C:Nat→List AV→St→R AV}{E:Est}{k n:Nat}{h:Hp}{L:Lo}{M:Nat}{a d:Nat→Nat}{F:Hp}{Φ:Fo}{t hd l N:Nat}{o:AO}{x p kind w:Int}{ex:Bool}{Q:Pst AV}
theorem World.wt (X:World k M a d Φ F h n)(ht:t < k):WT M (Φ t):=by
 obtain⟨A,cl,ql,G,R,tre,fo⟩:=X.ex
 exact (tre t ht).wt
theorem World.get (X:World k M a d Φ F h n)(e:F l=some o):h l=some o:=by
 obtain⟨A,cl,ql,G,R,tre,fo⟩:=X.ex
 exact R.old _ _ (fo _ _ e).1
theorem World.lt (X:World k M a d Φ F h n)(e:F l=some o):l < n:=by
 obtain⟨A,cl,ql,G,R,tre,fo⟩:=X.ex
 exact R.lt _ _ (R.old _ _ (fo _ _ e).1)
theorem World.more (X:World k M a d Φ F h n)(hM:M≤N):World k N a d Φ F h n:=by
 obtain⟨A,cl,ql,G,R,tre,fo⟩:=X.ex
 exact⟨⟨A,cl,ql,G,R,fun t ht=>(tre t ht).keep hM rfl rfl rfl,fo⟩,X.inj,X.no⟩
theorem World.junk (X:World k M a d Φ F h n)(o:AO):World k M a d Φ F (upd h n o) (n+1):=by
 obtain⟨A,cl,ql,G,R,tre,fo⟩:=X.ex
 exact⟨⟨A,cl,ql,G,R.junk o,tre,fo⟩,X.inj,X.no⟩
theorem World.new (X:World k M a d Φ F h n)(o:AO):World k M a d Φ (upd F n o) (upd h n o) (n+1):=by
 obtain⟨A,cl,ql,G,R,tre,fo⟩:=X.ex
 have al:∀ t,t < k→a t < n∧d t < n:=fun t ht=>by
  refine xo1_1 ((tre t ht).obj) fun as h1=>?_
  refine xo1_1 ((tre t ht).dict) fun es h2=>?_
  exact⟨R.lt _ _ (R.old _ _ h1),R.lt _ _ (R.old _ _ h2)⟩
 refine⟨⟨A,cl,ql,upd G n o,R.new o,fun t ht=>?_,fun l o' e=>?_⟩,X.inj,X.no⟩
 ·have:=al t ht
  exact (tre t ht).keep (Nat.le_refl _) rfl (upd_ne _ _ (by lia)) (upd_ne _ _ (by lia))
 ·by_cases q:l=n
  ·subst q
   rw [upd_same] at e ⊢
   exact⟨e,fun t ht=>by have:=al t ht;lia⟩
  ·rw [upd_ne _ _ q] at e ⊢
   exact fo _ _ e
theorem World.put (X:World k M a d Φ F h n)(hl:F l=some o)(nt:isTup o=false)(o':AO):World k M a d Φ (upd F l o') (upd h l o') n:=by
 obtain⟨A,cl,ql,G,R,tre,fo⟩:=X.ex
 refine xo0_2 (fo _ _ hl) fun g1 g2=>?_
 refine⟨⟨A,cl,ql,upd G l o',R.put g1 nt o',fun t ht=>?_,fun m o2 e=>?_⟩,X.inj,X.no⟩
 ·have:=g2 t ht
  exact (tre t ht).keep (Nat.le_refl _) rfl (upd_ne _ _ this.1.symm) (upd_ne _ _ this.2.symm)
 ·by_cases q:m=l
  ·subst q
   rw [upd_same] at e ⊢
   exact⟨e,g2⟩
  ·rw [upd_ne _ _ q] at e ⊢
   exact fo _ _ e
theorem World.sub {F':Hp}(X:World k M a d Φ F h n)(s:∀ l o,F' l=some o→F l=some o):World k M a d Φ F' h n:=by
 obtain⟨A,cl,ql,G,R,tre,fo⟩:=X.ex
 exact⟨⟨A,cl,ql,G,R,tre,fun l o e=>fo _ _ (s _ _ e)⟩,X.inj,X.no⟩
theorem World.meth (X:World k M a d Φ F h n)(ht:t < k){m f:Nat}(hm:sg.me 68 m=.fn f)(hx:∀ A t d mx,get? (tatt A t d mx) m=none):methodOf sg (.loc (a t)) m ⟨L,h,n,hd⟩=some (.fn f):=by
 obtain⟨A,cl,ql,G,R,tre,fo⟩:=X.ex
 obtain⟨es,TX,_⟩:=(tre t ht).tr
 exact methT R TX hm (hx _ _ _ _)
theorem World.step {A A' cl' ql':Ad}{G G' h':Hp}{n':Nat}{T':Tr}(X:World k M a d Φ F h n)(ht:t < k)(hM:M≤N)(tre:∀ t,t < k→Tre M A t (a t) (d t) (Φ t) G)(fo:∀ l o,F l=some o→G l=some o∧∀ t,t < k→l≠a t∧l≠d t)
  (R':Rep A' cl' ql' (setT Φ t T') G' h' n') (tr':Tre N A' t (a t) (d t) T' G') (hA:∀ u,u≠t→A' u=A u) (hG:∀ l,l≠d t→G' l=G l):World k N a d (setT Φ t T') F h' n':=by
 refine⟨⟨A',cl',ql',G',R',fun u hu=>?_,fun l o e=>?_⟩,X.inj,fun u hu=>?_⟩
 ·by_cases q:u=t
  ·subst q;rw [setT_same];exact tr'
  ·rw [setT_ne _ _ q]
   refine xo1_1 ((tre u hu).obj) fun as h1=>?_
   refine xo1_1 ((tre t ht).dict) fun es h2=>?_
   exact (tre u hu).keep hM (hA u q) (hG _ fun w=>by rw [w,h2] at h1;cases h1) (hG _ fun w=>q (X.inj _ _ hu ht w))
 ·refine xo0_2 (fo _ _ e) fun e1 e2=>?_
  exact⟨(hG l (e2 t ht).2).trans e1,e2⟩
 ·rw [setT_ne _ _ (by lia)];exact X.no u hu
theorem World.next (m:Nat){dd:Nat}(X:World k M a d Φ F h n)(ht:t < k)(hM:M≤900)(hdd:M < dd)
  (hQ:∀ x h' n',(sched dd (Φ t) 0).2=some x→World k M a d (setT Φ t (sched dd (Φ t) 0).1) F h' n'→Q (.int x) L h' n' 0)
  (hE:∀ h' n',(sched dd (Φ t) 0).2=none→World k M a d (setT Φ t (sched dd (Φ t) 0).1) F h' n'→E 12 false L h' n' 0):Wp (callF sg (m+4+dd+1+1) 28 [.loc (a t)] ⟨L,h,n,0⟩) Q E:=by
 obtain⟨A,cl,ql,G,R,tre,fo⟩:=X.ex
 have W:=(tre t ht).wt
 obtain⟨es,TX,on,le⟩:=(tre t ht).tr
 refine xo1_2 (W.ws hM) fun rk ws rl=>?_
 refine xo1_3 W.root fun r r1 r2 _=>?_
 have r0:=rl 0
 have tn:=sched_ok dd (Φ t) 0 ws (by (clear le hM ht;lia)) (by rw [r1];nofun)
 have fin:∀ h' n',Rep A cl ql (setT Φ t (sched dd (Φ t) 0).1) G h' n'→World k M a d (setT Φ t (sched dd (Φ t) 0).1) F h' n':=fun h' n' R'=>
  X.step ht (Nat.le_refl _) tre fo R' ⟨⟨es,TX.like fun j=>(tn.like j).none,on,le⟩,W.like tn.like⟩ (fun _ _=>rfl) fun _ _=>rfl
 exact f28 (Φ:=Φ) (rk:=rk) m (by rw [setT_self];exact R) TX ws (by (clear le hM ht;lia)) r1 r2 (fun x h' n' e R'=>hQ x h' n' e (fin _ _ R')) fun h' n' e R'=>hE h' n' e (fin _ _ R')
theorem World.act (m:Nat)(b:Bool)(X:World k M a d Φ F h n)(ht:t < k)(x0:x≠0){nd:Nd}(hx:Φ t x=some nd)
  (hQ:∀ h',World k M a d (setT Φ t (setN (Φ t) x { nd with act:=b })) F h' n→Q .none L h' n 0) :
  Wp (callF sg (m+1) (if b=true then 25 else 24) [.loc (a t),.int x] ⟨L,h,n,0⟩) Q E:=by
 obtain⟨A,cl,ql,G,R,tre,fo⟩:=X.ex
 have W:=(tre t ht).wt
 obtain⟨es,TX,on,le⟩:=(tre t ht).tr
 have xn:Φ t x≠none:=by rw [hx];nofun
 have fin:∀ h',Rep A cl ql (setT Φ t (setN (Φ t) x { nd with act:=b })) G h' n→Q .none L h' n 0:=fun h' R'=>
  hQ _ (X.step ht (Nat.le_refl _) tre fo R' ⟨⟨es,TX.like fun j=>(setN_none xn).symm,on,le⟩,W.touch hx (W.w _ nd hx) (fun z=>(x0 z).elim) rfl rfl (.refl _)⟩ (fun _ _=>rfl) fun _ _=>rfl)
 cases b with
 | true=>exact f25 (Φ:=Φ) m (by rw [setT_self];exact R) TX x0 xn hx fin
 | false=>exact f24 (Φ:=Φ) m (by rw [setT_self];exact R) TX x0 xn hx fin
theorem World.take (m:Nat)(X:World k M a d Φ F h n)(ht:t < k)(hM:M < 400)(x0:x≠0)(hx:Φ t x≠none)
  (hQ:∀ h' n',World k M a d (setT Φ t (takeOut (Φ t) (parOf (Φ t) x) x)) F h' n'→Q .none L h' n' 0):Wp (callF sg (m+6) 23 [.loc (a t),.int x] ⟨L,h,n,0⟩) Q E:=by
 obtain⟨A,cl,ql,G,R,tre,fo⟩:=X.ex
 have W:=(tre t ht).wt
 obtain⟨es,TX,on,le⟩:=(tre t ht).tr
 refine xo1_1 (nNone hx) fun nx hnx=>?_
 refine xo2_5 (W.takeOut hnx x0 (by (clear le x0 ht;lia))) fun q nq e1 g1 g2 g3 g4=>?_
 have e2:parOf (Φ t) x=q:=parOf_eq hnx e1
 refine f23 (Φ:=Φ) (q:=q) m (by rw [setT_self];exact R) (Nat.zero_le _) TX x0 g1 g2 g3 fun ql' h' n' R'=>hQ _ _ ?_
 rw [e2]
 have dl:=ddel_l es (.int x)
 refine X.step ht (Nat.le_refl _) tre fo R' ⟨⟨_,TX.del on (fun j hj=>?_) ?_,on.del _,by (clear e2 g3 hM ht;lia)⟩,g4⟩ (fun _ _=>rfl) fun l hl=>upd_ne _ _ hl
 ·rw [takeOut_none];simp [hj]
 ·rw [takeOut_none];exact .inl rfl
end
end
section
open PySem PySem.W PyProof.Rows
noncomputable def ens (T:Tr) (p:Int):Tr:=if T p=none then blk (putIn T 0 p 16 false) p else T
noncomputable def rpT (T:Tr) (x p w:Int) (ex b:Bool):Tr:=hangX (cutChild (cyc b (wt T x w) (parOf T p) (parOf T x) p) (parOf T x) x) p x ex
section
variable {M:Nat}{T:Tr}{x p q i w:Int}{nd nx np a:Nd}{b ex:Bool}
theorem noSB0 (W:WT M T):¬ SB T x 0:=fun s=>by
 cases s with
 | kid a b=>exact (W.down _ _ a _ b).1 rfl
 | more _ a b=>exact (W.down _ _ a _ b).1 rfl
theorem SB_par (W:WT M T)(hi:T i=some nd)(hp:nd.par=some q):SB T x i ↔ q=x∨SB T x q:=by
 have one:∀ {u nu},T u=some nu→i∈nu.kids→u=q:=fun e hk=>by
  obtain⟨_,_,nd',e1,e2⟩:=W.down _ _ e i hk
  rw [hi] at e1;obtain rfl:=Option.some.inj e1
  rw [hp] at e2;exact (Option.some.inj e2).symm
 refine⟨fun s=>?_,fun s=>?_⟩
 ·cases s with
  | kid a b=>exact .inl (one a b).symm
  | more s a b=>exact .inr (one a b ▸ s)
 ·have i0:i≠0:=fun e=>by
   obtain⟨r,r1,_,r3⟩:=W.root
   rw [e,r1] at hi;obtain rfl:=Option.some.inj hi
   rw [r3] at hp;exact nsE hp
  obtain⟨u,nu,e1,e2,e3⟩:=W.up _ _ hi i0 id
  rw [hp] at e1;obtain rfl:=Option.some.inj e1
  rcases s with rfl | s
  ·exact .kid e2 e3
  ·exact .more s e2 e3
theorem noUp (W:WT M T)(hi:T i=some nd)(hp:nd.par=some q)(i0:i≠0):¬ SB T i q∧q≠i:=by
 obtain⟨rk,r⟩:=W.rank
 obtain⟨u,nu,e1,e2,e3⟩:=W.up _ _ hi i0 id
 rw [hp] at e1;obtain rfl:=Option.some.inj e1
 have:=r _ _ e2 _ e3
 exact⟨fun s=>by have:=SB.up r s;lia,fun e=>by rw [e] at this;lia⟩
theorem climb_SB (W:WT M T):∀ (f:Nat){p:Int},climb T f p x=some b→(b=true ↔ SB T x p):=by
 intro f
 induction f with
 | zero=>intro p e;exact nsE e
 | succ f ih=>
  intro p e
  rw [climb_s] at e
  cases hp:T p with
  | none=>rw [hp] at e;exact nsE e
  | some np=>
   rw [hp] at e
   dsimp only at e
   cases hq:np.par with
   | none=>rw [hq] at e;exact nsE e
   | some q=>
    rw [hq] at e
    dsimp only at e
    rw [SB_par W hp hq]
    by_cases z:T q=none
    ·rw [if_pos z] at e;exact nsE e
    rw [if_neg z] at e
    by_cases y:q=x
    ·rw [if_pos y] at e;obtain rfl:=Option.some.inj e;exact⟨fun _=>.inl y,fun _=>rfl⟩
    rw [if_neg y] at e
    by_cases u:q=0
    ·rw [if_pos u] at e;obtain rfl:=Option.some.inj e
     exact⟨fun h=>(nomatch h),fun h=>(h.elim y fun s=>noSB0 W (u ▸ s)).elim⟩
    rw [if_neg u] at e
    exact (ih e).trans ⟨.inr,fun h=>h.resolve_left y⟩
theorem climb_go {rk:Int→Nat}(W:WT M T)(hr:∀ p np,T p=some np→∀ c∈np.kids,rk c < rk p)(hM:∀ i,rk i≤M):∀ (f:Nat){p:Int},T p≠none→p≠0→M - rk p < f→∃ b,climb T f p x=some b:=by
 intro f
 induction f with
 | zero=>intro p _ _ h;exact absurd h (Nat.not_lt_zero _)
 | succ f ih=>
  intro p hp p0 hf
  obtain⟨np,e⟩:=nNone hp
  obtain⟨q,nq,e1,e2,e3⟩:=W.up _ _ e p0 (fun z=>z)
  rw [climb_s]
  rw [e]
  dsimp only
  rw [e1]
  dsimp only
  rw [if_neg (by rw [e2];nofun)]
  by_cases hx:q=x
  ·exact⟨true,if_pos hx⟩
  ·rw [if_neg hx]
   by_cases h0:q=0
   ·exact⟨false,if_pos h0⟩
   ·rw [if_neg h0]
    have:=hr _ _ e2 _ e3
    have:=hM q
    exact ih (by rw [e2];nofun) h0 (by lia)
theorem climb_some (W:WT M T)(hM:M < 100)(hp:T p≠none)(p0:p≠0):∃ b,climb T 100 p x=some b:=by
 obtain⟨rk,ws,le⟩:=W.ws (by lia)
 refine climb_go W (fun p np e c hc=>?_) le 100 hp p0 (by lia)
 obtain⟨z,hz,rfl⟩:=List.mem_map.mp ((W.kq _ _ e).mem_iff.mpr hc)
 exact (ws.q _ _ e z hz).2
theorem ens_eq (h:T p≠none):ens T p=T:=if_neg h
theorem blk_none:blk T p i=none ↔ T i=none:=by
 unfold blk
 cases h:T p with
 | none=>exact Iff.rfl
 | some nd=>exact setN_none (by rw [h];nofun)
theorem ens_none:ens T p i=none ↔ i≠p∧T i=none:=by
 unfold ens
 by_cases h:T p=none
 ·rw [if_pos h,blk_none,putIn_none]
  by_cases e:i=p
  ·rw [e,setN_same];exact⟨fun h=>snE h,fun h=>(h.1 rfl).elim⟩
  ·rw [setN_ne _ _ e];exact⟨fun h=>⟨e,h⟩,fun h=>h.2⟩
 ·rw [if_neg h];exact⟨fun e=>⟨fun w=>h (w ▸ e),e⟩,fun e=>e.2⟩
theorem WT_ens (W:WT M T)(p0:p≠0)(hM:M < 400):WT (M+1) (ens T p):=by
 unfold ens
 by_cases h:T p=none
 ·rw [if_pos h]
  obtain⟨r,r1,_⟩:=W.root
  have:=(W.putIn h r1 p0 (fun e=>p0 e.symm) (w:=16) (by decide) hM false).1
  unfold blk
  cases e:putIn T 0 p 16 false p with
  | none=>exact this
  | some nd=>
   have hw:=this.w _ _ e
   exact this.touch e hw (fun z=>(p0 z).elim) rfl rfl (.refl _)
 ·rw [if_neg h];exact W.more (Nat.le_succ _)
theorem add_setN {c:Int}(h1:x≠q)(h2:x≠c):addChild (setN T x a) q c=setN (addChild T q c) x a:=by
 unfold addChild
 rw [setN_ne _ _ h1.symm,setN_ne _ _ h2.symm]
 cases T q with
 | none=>rfl
 | some nq=>
  cases T c with
  | none=>rfl
  | some nc=>
   dsimp only
   rw [setN_comm (T:=T) h2,setN_comm h1]
theorem ens_setN (px:x≠p)(x0:x≠0):ens (setN T x a) p=setN (ens T p) x a:=by
 unfold ens
 rw [setN_ne _ _ px.symm]
 by_cases h:T p=none
 ·rw [if_pos h,if_pos h]
  have e:putIn (setN T x a) 0 p 16 false=setN (putIn T 0 p 16 false) x a:=by
   show addChild (setN (setN T x a) p (nd0 16)) 0 p=setN (addChild (setN T p (nd0 16)) 0 p) x a
   rw [setN_comm px,add_setN x0 px]
  rw [e]
  unfold blk
  rw [setN_ne _ _ px.symm]
  cases putIn T 0 p 16 false p with
  | none=>rfl
  | some nd=>exact setN_comm px
 ·rw [if_neg h,if_neg h]
theorem noRef_setN (no:NoRef T p)(px:p≠x){w:Int}:NoRef (setN T x (nd0 w)) p:=by
 refine⟨(setN_ne _ _ px).trans no.1,fun j nd e=>?_⟩
 by_cases q:j=x
 ·rw [q,setN_same] at e;obtain rfl:=Option.some.inj e;exact⟨nofun,nofun,nofun⟩
 ·rw [setN_ne _ _ q] at e;exact no.2 j nd e
end
section
variable {C:Nat→List AV→St→R AV}{E:Est}{k n:Nat}{h:Hp}{L:Lo}{M:Nat}{a d:Nat→Nat}{A cl ql:Ad}{F G:Hp}{Φ:Fo}{t hd l N a' d':Nat}{o:AO}{x p w:Int}{r nx:Nd}{S T:Tr}{ex:Bool}{es:List (AV×AV)}{Q:Pst AV}{pv:AV}
theorem ens_run (m:Nat){N:Nat}(hN:M≤N)(hN':S p=none→M+1≤N)(R:Rep A cl ql (setT Φ t T) G h n)(X:TR A t a' d' 1000 es S G)(on:Once es)(le:es.length≤M)(hM:M < 400)(p0:p≠0)(h0:S 0≠none)(tk:Takes T 0 r)(hp:S p=none→NoRef T p)(hT:T p=none→S p=none)
  (hQ:∀ A2 cl2 ql2 es2 h2 n2,(∀ u j,(u≠t∨j≠p)→A2 u j=A u j)→Rep A2 cl2 ql2 (setT Φ t (ens T p)) (upd G d' (.dict es2)) h2 n2→TR A2 t a' d' 1000 es2 (ens S p) (upd G d' (.dict es2))→Once es2→es2.length≤N→Q (.loc (A2 t p)) L h2 n2 0):Wp (callF sg (m+8) 19 [.loc a',.int p] ⟨L,h,n,0⟩) Q E:=by
 by_cases e:S p=none
 ·have no:=hp e
  refine f19m m R X (by (clear hQ;lia)) (by (clear hQ;lia)) e no p0 h0 tk fun cl' ql' h' n' R' X'=>?_
  have:=hQ (updA A t p n) cl' ql' (dput es (.int p) (.loc n)) h' n' (fun u j g=>updA_ne _ _ fun z=>g.elim (fun g=>g z.1) fun g=>g z.2) (by unfold ens;rw [if_pos no.1];exact R') (X'.like fun j=>by unfold ens;rw [if_pos e];exact blk_none.symm) (on.put _ _) (by have:=dput_l es (.int p) (.loc n);have:=hN' e;(clear hQ hM hN;lia))
  rw [updA_same] at this
  exact this
 ·have e':T p≠none:=fun w=>e (hT w)
  refine f19 (m+7) R X e (hQ A cl ql es h n (fun _ _ _=>rfl) (by rw [ens_eq e',upd_self X.dict];exact R) (by rw [ens_eq e,upd_self X.dict];exact X) on (by (clear hQ;lia)))
theorem WT_ens' {N:Nat}(W:WT M T)(h0:T 0≠none)(hM:M < 400)(hN:M≤N)(hN':T p=none→M+1≤N):WT N (ens T p):=by
 by_cases e:T p=none
 ·exact (WT_ens W (fun z=>h0 (z ▸ e)) hM).more (hN' e)
 ·rw [ens_eq e];exact W.more hN
theorem World.put7 (m:Nat){N:Nat}(hN:M≤N)(hN':Φ t p=none→M+1≤N)(X:World k M a d Φ F h n)(ht:t < k)(hM:N < 300)(x0:x≠0)(px:p≠x)(hpv:pv=.int p∨(pv=.none∧p=0))(hx:Φ t x=none)(hw:1≤w∧w≤256)
  (hQ:∀ h' n',World k (N+1) a d (setT Φ t (putIn (ens (Φ t) p) p x w ex)) F h' n'→Q .none L h' n' 0) :
  Wp (callF sg (m+9) 21 [.loc (a t),.int x,pv,.int w,.bool ex] ⟨L,h,n,0⟩) Q E:=by
 obtain⟨A,cl,ql,G,R,tre,fo⟩:=X.ex
 have W:=(tre t ht).wt
 obtain⟨es,TX,on,le⟩:=(tre t ht).tr
 obtain⟨r,r1,_⟩:=W.root
 have r0:Φ t 0≠none:=by rw [r1];nofun
 have W1:WT N (ens (Φ t) p):=WT_ens' W r0 (by (clear le;lia)) hN hN'
 have hx1:ens (Φ t) p x=none:=ens_none.mpr ⟨px.symm,hx⟩
 obtain⟨np,hnp⟩:=nNone (fun e=>(ens_none.mp e).1 rfl:ens (Φ t) p p≠none)
 have PI:=W1.putIn hx1 hnp x0 px hw (by (clear le;lia)) ex
 have tk:=W1.takes (by (clear le;lia)) hnp
 have X1:=TX.newA (l:=n) hx x0
 refine f21 (m+2) (Φ:=Φ) (QQ:=fun A2 es2 T2=>T2=setN (ens (Φ t) p) x (nd0 w)∧A2 t x=n∧(∀ u,u≠t→A2 u=A u)∧Once es2∧es2.length≤N∧TR A2 t (a t) (d t) 1000 es2 (ens (Φ t) p) (upd G (d t) (.dict es2)))
  (by rw [setT_self];exact R) (Nat.zero_le _) TX (by (clear hw;lia)) hx (W.noRef hx) x0 px hpv hw (fun {cl1 ql1 h1 n1 L1 Q1 E1} ln R1 q1=>?_) fun A2 cl' ql' es2 T2 h' n' q2 R'=>?_
 ·have fin:∀ A2 cl2 ql2 es2 h2 n2,A2 t x=n→(∀ u,u≠t→A2 u=A u)→Rep A2 cl2 ql2 (setT Φ t (setN (ens (Φ t) p) x (nd0 w))) (upd G (d t) (.dict es2)) h2 n2→TR A2 t (a t) (d t) 1000 es2 (ens (Φ t) p) (upd G (d t) (.dict es2))→Once es2→es2.length≤N→Q1 (.loc (A2 t p)) L1 h2 n2 0:=fun A2 cl2 ql2 es2 h2 n2 e1 e2 R2 X2 o2 l2=>
   q1 A2 cl2 ql2 es2 _ h2 n2 e1 R2 ⟨⟨_,X2⟩,⟨np,tk.new px _,PI.2⟩,by rw [setN_same];nofun⟩ ⟨rfl,e1,e2,o2,l2,X2⟩
  have nA:∀ u,u≠t→updA A t x n u=A u:=fun u hu=>by funext j;exact updA_ne _ _ fun z=>hu z.1
  by_cases p0:p=0
  ·have e:ens (Φ t) p=Φ t:=by rw [p0];exact ens_eq r0
   refine f19 (m+7) R1 X1 (by rw [p0];exact r0) (fin _ cl1 ql1 es _ _ (updA_same ..) nA ?_ ?_ on (by lia))
   ·rw [e,upd_self TX.dict];exact R1
   ·rw [e,upd_self TX.dict];exact X1
  ·refine ens_run m hN hN' R1 X1 on le (by lia) p0 r0 ((W.takes (by lia) r1).new (fun e=>x0 e.symm) _) (fun e=>noRef_setN (W.noRef e) px) (fun e=>(setN_ne _ _ px).symm.trans e) fun A2 cl2 ql2 es2 h2 n2 eA R2 X2 o2 l2=>?_
   refine fin A2 cl2 ql2 es2 h2 n2 ((eA _ _ (.inr px.symm)).trans (updA_same ..)) (fun u hu=>?_) (by rw [← ens_setN px.symm x0];exact R2) X2 o2 l2
   rw [← nA u hu]
   funext j
   exact eA _ _ (.inl hu)
 ·obtain⟨rfl,eA,hA,o2,l2,X2⟩:=q2
  refine hQ _ _ (X.step ht (Nat.le_succ_of_le hN) tre fo R' ⟨⟨dput es2 (.int x) (.loc n),?_,o2.put _ _,by have:=dput_l es2 (.int x) (.loc n);(clear hw px x0 hM ht;lia)⟩,PI.1⟩ hA fun l hl=>upd_ne _ _ hl)
  have:=X2.put (l:=n) (T':=putIn (ens (Φ t) p) p x w ex) x0 (by lia) (fun j hj=>by rw [putIn_none,setN_ne _ _ hj]) (by rw [ne_eq,putIn_none,setN_same];nofun)
  rw [upd_upd] at this
  have e:updA A2 t x n=A2:=by
   funext u j
   by_cases z:u=t∧j=x
   ·rw [z.1,z.2,updA_same,eA]
   ·exact updA_ne _ _ z
  rw [e] at this
  exact this
end
end
section
open PySem PySem.W PyProof.Rows
section
variable {M:Nat}{T:Tr}{x p q i j w:Int}{nd nx np nc a:Nd}{b ex:Bool}
theorem add_c {c:Int}(hp:T p≠none)(hc:T c=some nc)(ne:c≠p):addChild T p c c=some { nc with par:=some p }:=by
 obtain⟨np,hp⟩:=nNone hp
 rw [addChild_eq hp hc,setN_ne _ _ ne,setN_same]
theorem add_o {c:Int}(h1:j≠p)(h2:j≠c):addChild T p c j=T j:=by
 unfold addChild
 cases T p with
 | none=>rfl
 | some np=>cases T c with
  | none=>rfl
  | some nc=>exact (setN_ne _ _ h1).trans (setN_ne _ _ h2)
theorem cut_par {c:Int}(h:T j=some nd):∃ nd',cutChild T p c j=some nd'∧nd'.par=nd.par:=by
 unfold cutChild
 cases hp:T p with
 | none=>exact⟨_,h,rfl⟩
 | some np=>
  dsimp only
  by_cases e:j=p
  ·rw [e] at h ⊢;rw [hp] at h;obtain rfl:=Option.some.inj h;exact⟨_,setN_same ..,rfl⟩
  ·exact⟨_,(setN_ne _ _ e).trans h,rfl⟩
theorem wt_eq (h:T x=some nx):wt T x w=setN T x { nx with w:=w }:=by unfold wt;rw [h]
theorem wt_none:wt T x w i=none ↔ T i=none:=by
 unfold wt
 cases h:T x with
 | none=>exact Iff.rfl
 | some nd=>exact setN_none (by rw [h];nofun)
theorem hangX_none:hangX T p x ex i=none ↔ T i=none:=by
 unfold hangX;split
 ·exact addExcl_none
 ·exact addChild_none
theorem cyc_none {pp:Int}:cyc b T pp q p i=none ↔ T i=none:=by
 unfold cyc;split
 ·rw [hangX_none,cut_none]
 ·exact Iff.rfl
theorem rpT_none:rpT T x p w ex b i=none ↔ T i=none:=by
 unfold rpT
 rw [hangX_none,cut_none,cyc_none,wt_none]
theorem WT_wt (W:WT M T)(hx:T x=some nx)(x0:x≠0)(hw:1≤w∧w≤256):WT M (wt T x w):=by
 rw [wt_eq hx];exact W.touch hx hw (fun z=>(x0 z).elim) rfl rfl (.refl _)
theorem SB_wt (hx:T x=some nx):SB (wt T x w) q i→SB T q i:=SB.touch fun u nu e=>by
 rw [wt_eq hx] at e
 by_cases z:u=x
 ·rw [z,setN_same] at e;obtain rfl:=Option.some.inj e;exact⟨nx,z ▸ hx,rfl⟩
 ·rw [setN_ne _ _ z] at e;exact⟨_,e,rfl⟩
theorem par_of (W:WT M T)(hx:T x=some nx)(x0:x≠0):nx.par=some (parOf T x)∧T (parOf T x)≠none:=by
 obtain⟨q,nq,e1,e2,_⟩:=W.up _ _ hx x0 id
 have e:=parOf_eq hx e1
 rw [e]
 exact⟨e1,by rw [e2];nofun⟩
theorem rp_ok (W:WT M T)(hM:M≤400)(hx:T x=some nx)(hp:T p≠none)(x0:x≠0)(px:p≠x)(hw:1≤w∧w≤256)(hb:b=true ↔ SB T x p)(hc:b=true→∀ np,T p=some np→np.kids=[]) :
  RpOk T x p w ex b (rpT T x p w ex b)∧WT M (rpT T x p w ex b):=by
 obtain⟨e1,hq⟩:=par_of W hx x0
 have W2:=WT_wt W hx x0 hw
 have hx2:wt T x w x=some { nx with w:=w }:=by rw [wt_eq hx];exact setN_same ..
 have nn:∀ {j},T j≠none→wt T x w j≠none:=fun h e=>h (wt_none.mp e)
 cases b with
 | false=>
  obtain⟨nq,np,g1,g2,g3,g4⟩:=W2.moved hx2 e1 (nn hp) x0 px (fun s=>by have:=hb.mpr (SB_wt hx s);exact nomatch this) hM ex
  exact⟨⟨nx,parOf T p,parOf T x,nq,_,np,hx,hw,nofun,⟨g1,px,g2,g4⟩,rfl⟩,g3⟩
 | true=>
  have s:=hb.mp rfl
  have p0:p≠0:=fun e=>noSB0 W (e ▸ s)
  obtain⟨np,hnp⟩:=nNone hp
  have k0:=hc rfl np hnp
  obtain⟨e2,hpp⟩:=par_of W hnp p0
  have hp2:wt T x w p=some np:=by rw [wt_eq hx,setN_ne _ _ px];exact hnp
  have nu:=noUp W hx e1 x0
  have qp:parOf T x≠p:=fun e=>by
   obtain⟨u,nu,f1,f2,f3⟩:=W.up _ _ hx x0 id
   rw [e1] at f1;obtain rfl:=Option.some.inj f1
   rw [e,hnp] at f2;obtain rfl:=Option.some.inj f2
   rw [k0] at f3;exact nomatch f3
  obtain⟨npp,nq,g1,g2,g3,g4⟩:=W2.moved hp2 e2 (nn hq) p0 qp (SB.none hp2 k0) hM false
  have g3:WT M (cyc true (wt T x w) (parOf T p) (parOf T x) p):=g3
  obtain⟨nx3,f1,f2⟩:=cut_par (p:=parOf T p) (c:=p) hx2
  obtain⟨np3,f3,_⟩:=cut_par (p:=parOf T p) (c:=p) hp2
  have hx3:cyc true (wt T x w) (parOf T p) (parOf T x) p x=some nx3:=(add_o nu.2.symm px.symm).trans f1
  have hp3:cyc true (wt T x w) (parOf T p) (parOf T x) p p=some { np3 with par:=some (parOf T x) }:=add_c (fun e=>nn hq (cut_none.mp e)) f3 qp.symm
  have nb:¬ SB (cyc true (wt T x w) (parOf T p) (parOf T x) p) x p:=fun s=>by
   rcases (SB_par g3 hp3 rfl).mp s with s | s
   ·exact nu.2 s
   ·exact (noUp g3 hx3 (f2.trans e1) x0).1 s
  obtain⟨nq3,np4,h1,h2,h3,h4⟩:=g3.moved hx3 (f2.trans e1) (by rw [hp3];nofun) x0 px nb hM ex
  exact⟨⟨nx,parOf T p,parOf T x,nq3,_,np4,hx,hw,fun _=>⟨e1,npp,np,nq,⟨g1,qp,g2,g4⟩,k0⟩,⟨h1,px,h2,h4⟩,rfl⟩,h3⟩
theorem SB_ens (W:WT M T)(p0:p≠0)(x0:x≠0)(hM:M < 400)(hp:T p=none):¬ SB (ens T p) x p:=fun s=>by
 have W1:=WT_ens W p0 hM
 obtain⟨r,r1,_⟩:=W.root
 have hp1:∃ nd,ens T p p=some nd∧nd.par=some 0:=by
  have e:putIn T 0 p 16 false p=some { nd0 16 with par:=some 0 }:=add_c (by rw [setN_ne _ _ fun e=>p0 e.symm,r1];nofun) (setN_same ..) p0
  unfold ens
  rw [if_pos hp]
  unfold blk
  rw [e]
  exact⟨_,setN_same ..,rfl⟩
 obtain⟨nd,e1,e2⟩:=hp1
 rcases (SB_par W1 e1 e2).mp s with s | s
 ·exact x0 s.symm
 ·exact noSB0 W1 s
end
section
variable {C:Nat→List AV→St→R AV}{E:Est}{k n:Nat}{h:Hp}{L:Lo}{M:Nat}{a d:Nat→Nat}{F:Hp}{Φ:Fo}{t:Nat}{x p w:Int}{b ex:Bool}{Q:Pst AV}{pv:AV}
theorem World.move7 (m:Nat){N:Nat}(hN:M≤N)(hN':Φ t p=none→M+1≤N)(X:World k M a d Φ F h n)(ht:t < k)(hM:N < 90)(x0:x≠0)(px:p≠x)(hpv:pv=.int p∨(pv=.none∧p=0))(hx:Φ t x≠none)(hw:1≤w∧w≤256)(hb:b=true ↔ SB (Φ t) x p)(hc:b=true→∀ np,Φ t p=some np→np.kids=[])
  (hQ:∀ h' n',World k N a d (setT Φ t (rpT (ens (Φ t) p) x p w ex b)) F h' n'→Q .none L h' n' 0) :
  Wp (callF sg (m+9) 22 [.loc (a t),.int x,pv,.int w,.bool ex] ⟨L,h,n,0⟩) Q E:=by
 obtain⟨A,cl,ql,G,R,tre,fo⟩:=X.ex
 have W:=(tre t ht).wt
 obtain⟨es,TX,on,le⟩:=(tre t ht).tr
 obtain⟨r,r1,_⟩:=W.root
 have r0:Φ t 0≠none:=by rw [r1];nofun
 have W1:WT N (ens (Φ t) p):=WT_ens' W r0 (by (clear le;lia)) hN hN'
 obtain⟨nx,hnx⟩:=nNone (fun e=>hx (ens_none.mp e).2:ens (Φ t) p x≠none)
 have hp1:ens (Φ t) p p≠none:=fun e=>(ens_none.mp e).1 rfl
 have hb1:b=true ↔ SB (ens (Φ t) p) x p:=by
  by_cases e:Φ t p=none
  ·have p0:p≠0:=fun z=>r0 (z ▸ e)
   refine hb.trans ⟨fun s=>?_,fun s=>(SB_ens W p0 x0 (by (clear le;lia)) e s).elim⟩
   cases s with
   | kid a b=>exact (W.kid a b e).elim
   | more s a b=>exact (W.kid a b e).elim
  ·rw [ens_eq e];exact hb
 have hc1:b=true→∀ np,ens (Φ t) p p=some np→np.kids=[]:=fun h np e=>by
  have s:=hb.mp h
  have:Φ t p≠none:=by
   cases s with
   | kid a b=>exact W.kid a b
   | more s a b=>exact W.kid a b
  rw [ens_eq this] at e
  exact hc h np e
 have ok:=rp_ok (ex:=ex) W1 (by (clear le;lia)) hnx hp1 x0 px hw hb1 hc1
 refine f22 (m+2) (Φ:=Φ) (QQ:=fun A2 es2 T3=>T3=rpT (ens (Φ t) p) x p w ex b∧(∀ u,u≠t→A2 u=A u)∧Once es2∧es2.length≤N∧TR A2 t (a t) (d t) 1000 es2 (ens (Φ t) p) (upd G (d t) (.dict es2)))
  (by rw [setT_self];exact R) (Nat.zero_le _) TX x0 hx px hpv (fun p0=>?_) (fun p0=>?_) fun A2 cl' ql' es2 T3 h' n' q2 R'=>?_
 ·intro L1 Q1 E1 q1
  refine ens_run m hN hN' (by rw [setT_self];exact R) TX on le (by (clear le;lia)) p0 r0 (W.takes (by (clear le;lia)) r1) (fun e=>W.noRef e) id fun A2 cl2 ql2 es2 h2 n2 eA R2 X2 o2 l2=>?_
  obtain⟨b',hb'⟩:=climb_some (x:=x) W1 (by (clear le l2;lia)) hp1 p0
  obtain rfl:b'=b:=Bool.eq_iff_iff.mpr ((climb_SB W1 _ hb').trans hb1.symm)
  exact q1 A2 cl2 ql2 es2 _ h2 n2 b' _ (eA _ _ (.inr px.symm)) R2 (by rw [hnx];nofun) hb' ok.1 ⟨rfl,fun u hu=>by funext j;exact eA _ _ (.inl hu),o2,l2,X2⟩
 ·have e:ens (Φ t) p=Φ t:=by rw [p0];exact ens_eq r0
  obtain rfl:b=false:=Bool.eq_false_iff.mpr fun z=>noSB0 W (p0 ▸ hb.mp z)
  refine⟨r0,_,?_,rfl,fun _ _=>rfl,on,Nat.le_trans le hN,?_⟩
  ·have:=ok.1
   rw [e,p0] at this ⊢
   exact this
  ·rw [e,upd_self TX.dict];exact TX
 ·obtain⟨rfl,hA,o2,l2,X2⟩:=q2
  exact hQ _ _ (X.step ht hN tre fo R' ⟨⟨es2,X2.like fun j=>rpT_none.symm,o2,l2⟩,ok.2⟩ hA fun l hl=>upd_ne _ _ hl)
end
end
section
open PySem
abbrev Rho:=Int→Option (Option Int×Int)
noncomputable def PW (T:Tr):Rho:=fun j=>(T j).map fun nd=>(nd.par,nd.w)
noncomputable def setR (ρ:Rho) (y:Int) (r:Option Int×Int):Rho:=fun j=>if j=y then some r else ρ j
section
variable {σ:Int→Int}{M:Nat}{T U:Tr}{a b nd np nx nc:Nd}{i j p q c x y w:Int}{ex:Bool}{ys:List Int}{ρ:Rho}
theorem PW_set:PW (setN T i a)=setR (PW T) i (a.par,a.w):=by
 funext j
 unfold PW setR
 by_cases e:j=i
 ·rw [if_pos e,e,setN_same];rfl
 ·rw [if_neg e,setN_ne _ _ e]
theorem setR_self {r:Option Int×Int}(h:ρ y=some r):setR ρ y r=ρ:=by
 funext j
 unfold setR
 by_cases e:j=y
 ·rw [if_pos e,e,h]
 ·rw [if_neg e]
theorem setR_comm {r s:Option Int×Int}(ne:i≠j):setR (setR ρ i r) j s=setR (setR ρ j s) i r:=by
 funext k
 unfold setR
 by_cases e:k=j
 ·rw [if_pos e,if_neg fun w=>ne (w.symm.trans e),if_pos e]
 ·rw [if_neg e,if_neg e]
theorem setR_setR {r s:Option Int×Int}:setR (setR ρ i r) i s=setR ρ i s:=by
 funext k
 unfold setR
 by_cases e:k=i
 ·rw [if_pos e,if_pos e]
 ·rw [if_neg e,if_neg e,if_neg e]
theorem PW_at (h:T i=some nd):PW T i=some (nd.par,nd.w):=by unfold PW;rw [h];rfl
theorem PW_cut:PW (cutChild T p c)=PW T:=by
 unfold cutChild
 cases h:T p with
 | none=>rfl
 | some np=>rw [PW_set];exact setR_self (r:=(np.par,np.w)) (PW_at h)
theorem PW_add (hp:T p≠none)(hc:T c=some nc)(ne:c≠p):PW (addChild T p c)=setR (PW T) c (some p,nc.w):=by
 obtain⟨np,hp⟩:=nNone hp
 rw [addChild_eq hp hc,PW_set,PW_set,setR_comm ne]
 exact congrArg (setR · c _) (setR_self (r:=(np.par,np.w)) (PW_at hp))
theorem PW_wt (h:T x=some nx):PW (wt T x w)=setR (PW T) x (nx.par,w):=by rw [wt_eq h,PW_set]
theorem PW_blk:PW (blk T p)=PW T:=by
 unfold blk
 cases h:T p with
 | none=>rfl
 | some np=>rw [PW_set];exact setR_self (r:=(np.par,np.w)) (PW_at h)
theorem PW_ens (h:T p=none)(h0:T 0≠none)(p0:p≠0):PW (ens T p)=setR (PW T) p (some 0,16):=by
 unfold ens
 rw [if_pos h,PW_blk]
 show PW (addChild (setN T p (nd0 16)) 0 p)=_
 rw [PW_add (by rw [setN_ne _ _ fun e=>p0 e.symm];exact h0) (setN_same ..) p0,PW_set,setR_setR]
theorem setN_self (h:T x=some nx):setN T x nx=T:=by
 funext j
 by_cases e:j=x
 ·rw [e,setN_same,h]
 ·rw [setN_ne _ _ e]
theorem wt_same (h:T x=some nx):wt T x nx.w=T:=by rw [wt_eq h];exact setN_self h
theorem wt_cut:wt (cutChild T p c) x w=cutChild (wt T x w) p c:=by
 cases hx:T x with
 | none=>
  unfold wt
  rw [hx,show cutChild T p c x=none from cut_none.mpr hx]
 | some nx=>
  rw [wt_eq hx]
  cases hp:T p with
  | none=>
   have:p≠x:=fun e=>by rw [e,hx] at hp;exact snE hp
   rw [cut_no hp,cut_no ((setN_ne _ _ this).trans hp),wt_eq hx]
  | some np=>
   by_cases e:p=x
   ·subst e
    rw [hx] at hp;obtain rfl:=Option.some.inj hp
    rw [cut_eq hx,cut_eq (setN_same ..),wt_eq (setN_same ..),setN_setN,setN_setN]
   ·rw [cut_eq hp,cut_eq ((setN_ne _ _ e).trans hp),wt_eq ((setN_ne _ _ fun z=>e z.symm).trans hx),setN_comm e]
theorem wt_add:wt (addChild T p c) x w=addChild (wt T x w) p c:=by
 cases hx:T x with
 | none=>
  unfold wt
  rw [hx,show addChild T p c x=none from addChild_none.mpr hx]
 | some nx=>
  rw [wt_eq hx]
  have dn:∀ {j},T j=none→j≠x:=fun h e=>by rw [e,hx] at h;exact snE h
  cases hp:T p with
  | none=>rw [add_no (.inl hp),add_no (.inl ((setN_ne _ _ (dn hp)).trans hp)),wt_eq hx]
  | some np=>
   cases hc:T c with
   | none=>rw [add_no (.inr hc),add_no (.inr ((setN_ne _ _ (dn hc)).trans hc)),wt_eq hx]
   | some nc=>
    rw [addChild_eq hp hc]
    by_cases e:p=x
    ·subst e
     rw [hx] at hp;obtain rfl:=Option.some.inj hp
     rw [wt_eq (setN_same ..),setN_setN]
     by_cases e':c=p
     ·subst e'
      rw [hx] at hc;obtain rfl:=Option.some.inj hc
      rw [addChild_eq (setN_same ..) (setN_same ..),setN_setN,setN_setN,setN_setN]
     ·rw [addChild_eq (setN_same ..) ((setN_ne _ _ e').trans hc),setN_comm (T:=T) (i:=p) fun z=>e' z.symm,setN_setN]
    ·by_cases e':c=x
     ·subst e'
      rw [hx] at hc;obtain rfl:=Option.some.inj hc
      rw [wt_eq ((setN_ne _ _ fun z=>e z.symm).trans (setN_same ..)),addChild_eq ((setN_ne _ _ e).trans hp) (setN_same ..),setN_comm (T:=setN T c _) e,setN_setN,setN_setN]
     ·rw [wt_eq ((setN_ne _ _ fun z=>e z.symm).trans ((setN_ne _ _ fun z=>e' z.symm).trans hx)),addChild_eq ((setN_ne _ _ e).trans hp) ((setN_ne _ _ e').trans hc),setN_comm (T:=setN T c _) e,setN_comm (T:=T) e']
theorem Sim.pw (S:Sim σ T U):PW U=PW T:=by
 funext j
 unfold PW
 have h:=S j
 revert h
 generalize T j=a,U j=b
 intro h
 cases h with
 | no=>rfl
 | so n=>show some (_,_)=some (_,_);rw [n.par,n.w]
theorem Sim.wt (S:Sim σ T U):Sim σ (wt T x w) (wt U x w):=by
 unfold Mine.wt
 have h:=S x
 revert h
 generalize T x=a,U x=b
 intro h
 cases h with
 | no=>exact S
 | so n=>exact S.set ⟨rfl,n.act,n.lw,n.df,n.par,n.kids,n.queue⟩
theorem Sim.blk (S:Sim σ T U):Sim σ (blk T x) (blk U x):=by
 unfold Mine.blk
 have h:=S x
 revert h
 generalize T x=a,U x=b
 intro h
 cases h with
 | no=>exact S
 | so n=>exact S.set ⟨n.w,rfl,n.lw,n.df,n.par,n.kids,n.queue⟩
theorem Sim.new (S:Sim σ T U):Sim (setS σ x 0) (setN T x (nd0 w)) (setN U x (nd0 w)):=
 Sim.setσ (fun j hj=>by rw [setN_ne _ _ hj,setN_ne _ _ hj];exact S j) ⟨rfl,rfl,rfl,rfl,rfl,.refl _,.refl _⟩ (setN_same ..) (setN_same ..)
theorem Sim.ens (S:Sim σ T U):∃ σ',Sim σ' (ens T p) (ens U p):=by
 unfold Mine.ens
 by_cases h:T p=none
 ·rw [if_pos h,if_pos ((S p).none h)]
  exact⟨_,S.new.add.blk⟩
 ·rw [if_neg h,if_neg fun e=>h ((S p).none'.mpr e)]
  exact⟨σ,S⟩
theorem kids_perm {D:Int→Prop}(W:WD M T D)(hp:T p=some np)(nd:ys.Nodup)(hy:∀ y,y∈ys ↔ ¬ D y∧∃ w,PW T y=some (some p,w)):ys.Perm np.kids:=by
 refine (List.perm_ext_iff_of_nodup nd (W.nodup _ _ hp)).mpr fun y=>(hy y).trans ⟨fun⟨yx,w,e⟩=>?_,fun m=>?_⟩
 ·obtain⟨ny,e1,e2⟩:=Option.map_eq_some_iff.mp e
  have e2:=(Prod.mk.inj e2).1
  have y0:y≠0:=fun z=>by
   obtain⟨r,r1,_,r3⟩:=W.root
   rw [z,r1] at e1;obtain rfl:=Option.some.inj e1
   rw [r3] at e2;exact nsE e2
  obtain⟨u,nu,f1,f2,f3⟩:=W.up _ _ e1 y0 yx
  rw [e2] at f1;obtain rfl:=Option.some.inj f1
  rw [hp] at f2;obtain rfl:=Option.some.inj f2
  exact f3
 ·obtain⟨_,yx,ny,e1,e2⟩:=W.down _ _ hp y m
  exact⟨yx,ny.w,by rw [PW_at e1,e2]⟩
theorem Sim.hangX {mp:Nd}(S:Sim σ T U)(W:WD M U fun i=>i=x)(hp:U p=some mp)(hx:U x≠none)(px:p≠x)(nd:ys.Nodup)(hy:∀ y,y∈ys ↔ y≠x∧∃ w,PW U y=some (some p,w)) :
  ∃ σ',Sim σ' (hangX T p x ex) (if ex=true then goes (addChild U p x) p x ys else addChild U p x):=by
 unfold Mine.hangX
 cases ex with
 | false=>exact⟨σ,S.add⟩
 | true=>
  obtain⟨mx,hx⟩:=nNone hx
  obtain⟨np,hp',n⟩:=(S p).back hp
  obtain⟨nx,hx',_⟩:=(S x).back hx
  rw [if_pos rfl,if_pos rfl]
  refine S.alone hp' hx' px (fun y m=>?_) ?_ (n.kids.symm.nodup_iff.mpr (W.nodup _ _ hp)) ((kids_perm W hp nd hy).trans n.kids)
  ·have m:=n.kids.mem_iff.mpr m
   obtain⟨_,yx,ny,e1,_⟩:=W.down _ _ hp y m
   exact⟨fun e=>by have:=(S y).none e;rw [e1] at this;exact snE this,yx,fun e=>W.notSelf hp (e ▸ m)⟩
  ·have e:=(n.queue.map (·.2)).symm
   rw [List.map_map] at e
   exact e.trans ((W.kq _ _ hp).trans n.kids)
end
end
section
open PySem PySem.W PyProof.Rows
noncomputable def pvV:Option Int→AV
 | none=>.none
 | some p=>.int p
structure Rw (N:Nat) (rd:Nat) (rl:Int→Nat) (res:List (AV×AV)) (ρ:Rho) (F:Hp):Prop where
 dict:F rd=some (.dict res)
 ent:∀ i,dget? res (.int i)=(ρ i).map fun _=>AV.loc (rl i)
 row:∀ i r,ρ i=some r→F (rl i)=some (.list [pvV r.1,.int r.2])
 inj:∀ i j,ρ i≠none→ρ j≠none→rl i=rl j→i=j
 keys:∃ ks:List Int,res.map (·.1)=ks.map .int
 once:Once res
 len:res.length≤N
theorem dget_no {es:List (AV×AV)}{k:AV}:dget? es k=none ↔ k ∉ es.map (·.1):=by
 induction es with
 | nil=>exact⟨fun _=>nofun,fun _=>rfl⟩
 | cons e r ih=>
  obtain⟨a,b⟩:=e
  rw [dget_c,List.map_cons,List.mem_cons,not_or]
  by_cases q:k=a
  ·rw [if_pos q];exact⟨fun h=>snE h,fun h=>(h.1 q).elim⟩
  ·rw [if_neg q];exact ih.trans ⟨fun h=>⟨q,h⟩,fun h=>h.2⟩
theorem once_nodup {es:List (AV×AV)}(o:Once es):(es.map (·.1)).Nodup:=by
 induction es with
 | nil=>exact List.nodup_nil
 | cons e r ih=>
  obtain⟨a,b⟩:=e
  obtain⟨o1,o2⟩:=o
  rw [List.map_cons,List.nodup_cons]
  exact⟨dget_no.mp o1,ih o2⟩
theorem keys_put {es:List (AV×AV)}{v:AV}{x:Int}:(∃ ks:List Int,es.map (·.1)=ks.map .int)→∃ ks:List Int,(dput es (.int x) v).map (·.1)=ks.map .int:=by
 induction es with
 | nil=>exact fun _=>⟨[x],rfl⟩
 | cons e r ih=>
  rintro⟨ks,h⟩
  obtain⟨a,b⟩:=e
  cases ks with
  | nil=>cases h
  | cons y ks=>
   obtain⟨h1,h2⟩:=List.cons.inj h
   rw [dput_c]
   by_cases q:AV.int x=a
   ·rw [if_pos q];exact⟨y :: ks,h⟩
   ·rw [if_neg q]
    obtain⟨ks',e'⟩:=ih ⟨ks,h2⟩
    exact⟨y :: ks',by rw [List.map_cons,e',List.map_cons];exact congrArg (· :: _) h1⟩
theorem keys_del {es:List (AV×AV)}{x:Int}:(∃ ks:List Int,es.map (·.1)=ks.map .int)→∃ ks:List Int,(ddel es (.int x)).map (·.1)=ks.map .int:=by
 induction es with
 | nil=>exact fun _=>⟨[],rfl⟩
 | cons e r ih=>
  rintro⟨ks,h⟩
  obtain⟨a,b⟩:=e
  cases ks with
  | nil=>cases h
  | cons y ks=>
   obtain⟨h1,h2⟩:=List.cons.inj h
   rw [ddel_c]
   by_cases q:AV.int x=a
   ·rw [if_pos q];exact⟨ks,h2⟩
   ·rw [if_neg q]
    obtain⟨ks',e'⟩:=ih ⟨ks,h2⟩
    exact⟨y :: ks',by rw [List.map_cons,e',List.map_cons];exact congrArg (· :: _) h1⟩
section
variable {N rd l n:Nat}{rl:Int→Nat}{res:List (AV×AV)}{ρ:Rho}{F F':Hp}{i x y p:Int}{r r':Option Int×Int}
theorem Rw.keep (X:Rw N rd rl res ρ F)(k:∀ l o,F l=some o→F' l=some o):Rw N rd rl res ρ F':=
 ⟨k _ _ X.dict,X.ent,fun i r e=>k _ _ (X.row i r e),X.inj,X.keys,X.once,X.len⟩
theorem Rw.more {N':Nat}(X:Rw N rd rl res ρ F)(h:N≤N'):Rw N' rd rl res ρ F:=⟨X.dict,X.ent,X.row,X.inj,X.keys,X.once,Nat.le_trans X.len h⟩
theorem Rw.ne (X:Rw N rd rl res ρ F)(h:ρ i=some r):rd≠rl i:=fun e=>by
 have:=X.row i r h
 rw [← e,X.dict] at this
 exact absurd this nofun
theorem setR_at (h:setR ρ y r i≠none)(hy:ρ y≠none):ρ i≠none:=by
 unfold setR at h
 by_cases e:i=y
 ·rw [e];exact hy
 ·rw [if_neg e] at h;exact h
theorem Rw.setp (X:Rw N rd rl res ρ F)(h:ρ y=some r)(r':Option Int×Int):Rw N rd rl res (setR ρ y r') (upd F (rl y) (.list [pvV r'.1,.int r'.2])):=by
 have hy:ρ y≠none:=by rw [h];nofun
 refine⟨(upd_ne _ _ (X.ne h)).trans X.dict,fun i=>?_,fun i s e=>?_,fun i j h1 h2=>X.inj i j (setR_at h1 hy) (setR_at h2 hy),X.keys,X.once,X.len⟩
 ·rw [X.ent]
  unfold setR
  by_cases e:i=y
  ·rw [if_pos e,e,h];rfl
  ·rw [if_neg e]
 ·unfold setR at e
  by_cases q:i=y
  ·rw [if_pos q] at e;obtain rfl:=Option.some.inj e;rw [q,upd_same]
  ·rw [if_neg q] at e
   rw [upd_ne _ _ fun w=>q (X.inj i y (by rw [e];nofun) hy w)]
   exact X.row i s e
theorem Rw.newr (X:Rw N rd rl res ρ F)(hn:F n=none)(x:Int)(r:Option Int×Int) :
  Rw (N+1) rd (fun j=>if j=x then n else rl j) (dput res (.int x) (.loc n)) (setR ρ x r) (upd (upd F n (.list [pvV r.1,.int r.2])) rd (.dict (dput res (.int x) (.loc n)))):=by
 have nd:n≠rd:=fun e=>by rw [e,X.dict] at hn;exact snE hn
 have nl:∀ {j s},ρ j=some s→rl j≠n:=fun e w=>by have:=X.row _ _ e;rw [w,hn] at this;exact nsE this
 refine⟨upd_same ..,fun i=>?_,fun i s e=>?_,fun i j h1 h2 w=>?_,keys_put X.keys,X.once.put _ _,by have:=dput_l res (.int x) (.loc n);have:=X.len;lia⟩
 ·rw [dget_dput]
  by_cases e:i=x
  ·subst e
   rw [if_pos rfl]
   show some (AV.loc n)=(setR ρ i r i).map fun _=>AV.loc (if i=i then n else rl i)
   unfold setR
   rw [if_pos rfl,if_pos rfl]
   rfl
  ·rw [if_neg fun w=>e (AV.int.inj w),X.ent]
   show _=(setR ρ x r i).map fun _=>AV.loc (if i=x then n else rl i)
   unfold setR
   rw [if_neg e,if_neg e]
 ·unfold setR at e
  by_cases q:i=x
  ·rw [if_pos q] at e;obtain rfl:=Option.some.inj e;rw [if_pos q,upd_ne _ _ nd,upd_same]
  ·rw [if_neg q] at e;rw [if_neg q,upd_ne _ _ fun w=>X.ne e w.symm,upd_ne _ _ (nl e)];exact X.row i s e
 ·unfold setR at h1 h2
  by_cases q:i=x
  ·by_cases q':j=x
   ·rw [q,q']
   ·rw [if_pos q,if_neg q'] at w
    rw [if_neg q'] at h2
    obtain⟨s,e⟩:=nNone h2
    exact (nl e w.symm).elim
  ·rw [if_neg q] at h1 w
   by_cases q':j=x
   ·rw [if_pos q'] at w
    obtain⟨s,e⟩:=nNone h1
    exact (nl e w).elim
   ·rw [if_neg q'] at h2 w;exact X.inj i j h1 h2 w
theorem Rw.delr (X:Rw N rd rl res ρ F)(x:Int):Rw N rd rl (ddel res (.int x)) (fun j=>if j=x then none else ρ j) (upd F rd (.dict (ddel res (.int x)))):=by
 refine⟨upd_same ..,fun i=>?_,fun i s e=>?_,fun i j h1 h2 w=>?_,keys_del X.keys,X.once.del _,by have:=ddel_l res (.int x);have:=X.len;lia⟩
 ·rw [dget_ddel X.once]
  by_cases e:i=x
  ·rw [if_pos (by rw [e]),if_pos e];rfl
  ·rw [if_neg fun w=>e (AV.int.inj w),if_neg e,X.ent]
 ·by_cases q:i=x
  ·rw [if_pos q] at e;exact nsE e
  ·rw [if_neg q] at e;rw [upd_ne _ _ fun w=>X.ne e w.symm];exact X.row i s e
 ·by_cases q:i=x
  ·exact (h1 (if_pos q)).elim
  ·by_cases q':j=x
   ·exact (h2 (if_pos q')).elim
   ·rw [if_neg q] at h1;rw [if_neg q'] at h2;exact X.inj i j h1 h2 w
end
section
variable {C:Nat→List AV→St→R AV}{g:Sig}{E:Est}{k n N rd:Nat}{h:Hp}{L:Lo}{M:Nat}{a d:Nat→Nat}{F:Hp}{Φ:Fo}{rl:Int→Nat}{res:List (AV×AV)}{ρ:Rho}{x y p:Int}{r:Option Int×Int}{Q:Pst AV}
theorem c_in2 {f m i j:Nat}{vs:List AV}(hl:vs.length=(g.fn f).params.length)(hc:(g.fn f).cells=[i,j]){L0:Lo}(hL:L0=(g.fn f).params.zip vs)(w:Wp (execs g (callF g m) (g.fn f).body ⟨put (put L0 i (.loc n)) j (.loc (n+1)),upd (upd h n (.cell (get? L0 i))) (n+1) (.cell (get? L0 j)),n+1+1,k⟩) (Back L Q) fun c cl _ h n k=>E c cl L h n k):Wp (callF g (m+1) f vs ⟨L,h,n,k⟩) Q E:=by
 subst hL
 rw [callF_s]
 rw [if_pos hl,hc]
 show Wp (back L (execs g (callF g m) (g.fn f).body ⟨put (put ((g.fn f).params.zip vs) i (.loc n)) j (.loc (n+1)),upd (upd h n (.cell (get? ((g.fn f).params.zip vs) i))) (n+1) (.cell (get? ((g.fn f).params.zip vs) j)),n+1+1,k⟩)) Q E
 cases q:execs g (callF g m) (g.fn f).body ⟨put (put ((g.fn f).params.zip vs) i (.loc n)) j (.loc (n+1)),upd (upd h n (.cell (get? ((g.fn f).params.zip vs) i))) (n+1) (.cell (get? ((g.fn f).params.zip vs) j)),n+1+1,k⟩ with
 | ok f s'=>rw [q] at w;cases f <;> first | exact w | exact w.elim
 | ex c cl s'=>rw [q] at w;exact w
 | bad=>rw [q] at w;exact w
theorem i_row0 (X:World k M a d Φ F h n){hd:Nat}(RW:Rw N rd rl res ρ F)(e:ρ y=some r)(q:Q (pvV r.1) L h n hd):Wp (getI g (.loc (rl y)) (.int 0) ⟨L,h,n,hd⟩) Q E:=by
 show Wp (atObj ⟨L,h,n,hd⟩ (rl y) _) Q E
 exact .atO (X.get (RW.row _ _ e)) q
theorem i_row1 (X:World k M a d Φ F h n){hd:Nat}(RW:Rw N rd rl res ρ F)(e:ρ y=some r)(q:Q (.int r.2) L h n hd):Wp (getI g (.loc (rl y)) (.int 1) ⟨L,h,n,hd⟩) Q E:=by
 show Wp (atObj ⟨L,h,n,hd⟩ (rl y) _) Q E
 exact .atO (X.get (RW.row _ _ e)) q
theorem i_rows (X:World k M a d Φ F h n){hd:Nat}(RW:Rw N rd rl res ρ F)(e:ρ y=some r)(q:Q (.loc (rl y)) L h n hd):Wp (getI sg (.loc rd) (.int y) ⟨L,h,n,hd⟩) Q E:=
 i_dict (X.get RW.dict) (by rw [RW.ent,e];rfl) q
theorem k_rows {Q:Pst Bool}(X:World k M a d Φ F h n){hd:Nat}(RW:Rw N rd rl res ρ F)(q:Q (ρ y).isSome L h n hd):Wp (cmpv sg C .isin (.int y) (.loc rd) ⟨L,h,n,hd⟩) Q E:=
 k_in (X.get RW.dict) (by rw [RW.ent];cases e:ρ y <;> rw [e] at q <;> exact q)
theorem k_rowsn {Q:Pst Bool}(X:World k M a d Φ F h n){hd:Nat}(RW:Rw N rd rl res ρ F)(q:Q (!(ρ y).isSome) L h n hd):Wp (cmpv sg C .notin (.int y) (.loc rd) ⟨L,h,n,hd⟩) Q E:=
 k_nin (X.get RW.dict) (by rw [RW.ent];cases e:ρ y <;> rw [e] at q <;> exact q)
noncomputable def below (ρ:Rho) (p y:Int):Bool:=decide ((ρ y).map (·.1)=some (some p))
theorem below_iff:below ρ p y=true ↔ ∃ w,ρ y=some (some p,w):=by
 unfold below
 rw [decide_eq_true_iff,Option.map_eq_some_iff]
 exact⟨fun⟨r,e1,e2⟩=>⟨r.2,by rw [e1,← e2]⟩,fun⟨w,e⟩=>⟨_,e,rfl⟩⟩
theorem sel_kids {ifs:Es}{p0:Pos}(ht:∀ y r,ρ y=some r→testP L h 109 (.int y) ifs=some (below ρ p y)):∀ (ks:List Int),(∀ y∈ks,ρ y≠none)→selP L h 109 (.lv 109 p0) ifs (ks.map .int)=some ((ks.filter (below ρ p)).map .int):=by
 intro ks
 induction ks with
 | nil=>exact fun _=>rfl
 | cons y ks ih=>
  intro hk
  obtain⟨r,e⟩:=nNone (hk y (.head _))
  have i:=ih fun z hz=>hk z (.tail _ hz)
  show (testP L h 109 (.int y) ifs).bind (fun b=>if b then (evalP L h 109 (.int y) (.lv 109 p0)).bind fun z=>(selP L h 109 (.lv 109 p0) ifs (ks.map .int)).map (z :: ·) else selP L h 109 (.lv 109 p0) ifs (ks.map .int))=_
  rw [ht y r e,i]
  cases q:below ρ p y with
  | true=>rw [List.filter_cons_of_pos q];rfl
  | false=>rw [List.filter_cons_of_neg (by rw [q];nofun)];rfl
theorem f30 (m:Nat)(X:World k M a d Φ F h n)(RW:Rw N rd rl res ρ F)(hN:N≤900)
  (hQ:∀ (ys:List Int) (l:Nat) h' n',ys.Nodup→(∀ y,y∈ys ↔ ∃ w,ρ y=some (some p,w))→ys.length≤N→F l=none→World k M a d Φ (upd F l (.list (ys.map .int))) h' n'→Q (.loc l) L h' n' 0):Wp (callF sg (m+1) 30 [.loc rd,.int p] ⟨L,h,n,0⟩) Q E:=by
 refine c_in2 rfl rfl (L0:=[(106,.loc rd),(107,.int p)]) rfl ?_
 have X1:=(X.new (.cell (some (.loc rd)))).new (.cell (some (.int p)))
 have fr:∀ l,n≤l→F l=none:=fun l hl=>by
  cases e:F l with
  | none=>rfl
  | some o=>have:=X.lt e;lia
 have kp:∀ l o,F l=some o→upd (upd F n (.cell (some (.loc rd)))) (n+1) (.cell (some (.int p))) l=some o:=fun l o e=>by
  have:=X.lt e
  rw [upd_ne _ _ (by lia),upd_ne _ _ (by lia)];exact e
 have R1:=RW.keep kp
 have c1:upd (upd h n (.cell (some (.loc rd)))) (n+1) (.cell (some (.int p))) n=some (.cell (some (.loc rd))):=(upd_ne _ _ (by lia)).trans (upd_same ..)
 have c2:upd (upd h n (.cell (some (.loc rd)))) (n+1) (.cell (some (.int p))) (n+1)=some (.cell (some (.int p))):=upd_same ..
 show Wp (execs sg _ b30 ⟨[(106,.loc n),(107,.loc (n+1))],upd (upd h n (.cell (some (.loc rd)))) (n+1) (.cell (some (.int p))),n+1+1,0⟩) _ _
 generalize upd (upd h n (.cell (some (.loc rd)))) (n+1) (.cell (some (.int p)))=h1 at X1 c1 c2 ⊢
 delta b30
 obtain⟨ks,hk⟩:=RW.keys
 have hin:∀ y,y∈ks ↔ ρ y≠none:=fun y=>by
  have e:dget? res (.int y)=none ↔ ρ y=none:=by rw [RW.ent];cases ρ y <;> simp
  rw [ne_eq,← e,dget_no,hk,Decidable.not_not,List.mem_map]
  exact⟨fun h=>⟨y,h,rfl⟩,fun⟨z,h,w⟩=>AV.int.inj w ▸ h⟩
 have nk:ks.Nodup:=by
  have:=once_nodup RW.once
  rw [hk] at this
  exact (List.pairwise_map.mp this).imp fun h w=>h (congrArg AV.int w)
 have lk:ks.length≤N:=by
  have:=congrArg List.length hk
  rw [List.length_map,List.length_map] at this
  have:=RW.len;lia
 refine xs_cons (x_ret (e_comp (e_cv rfl c1 ⟨_,res,(ks.filter (below ρ p)).map .int,rfl,X1.get R1.dict,rfl,?_,?_,go_ret (bk_ret ?_)⟩)))
 ·rw [hk]
  refine sel_kids (p:=p) (fun y r e=>?_) ks fun y hy=>(hin y).mp hy
  have e1:h1 rd=some (.dict res):=X1.get R1.dict
  have e2:h1 (rl y)=some (.list [pvV r.1,.int r.2]):=X1.get (R1.row _ _ e)
  have e3:dget? res (.int y)=some (.loc (rl y)):=by rw [RW.ent,e];rfl
  have s1:∀ {p1:Pos},evalP [(106,.loc n),(107,.loc (n+1))] h1 109 (.int y) (.cv 106 p1)=some (.loc rd):=fun {p1}=>by
   show ((h1 n).bind cellV)=_
   rw [c1];rfl
  have s2:∀ {p1:Pos},evalP [(106,.loc n),(107,.loc (n+1))] h1 109 (.int y) (.cv 107 p1)=some (.int p):=fun {p1}=>by
   show ((h1 (n+1)).bind cellV)=_
   rw [c2];rfl
  have s3:∀ {p1 p2 p3:Pos},evalP [(106,.loc n),(107,.loc (n+1))] h1 109 (.int y) (.sub (.cv 106 p1) (.lv 109 p2) p3)=some (.loc (rl y)):=fun {p1 p2 p3}=>by
   show (evalP [(106,.loc n),(107,.loc (n+1))] h1 109 (.int y) (.cv 106 p1)).bind _=_
   rw [s1]
   show (h1 rd).bind (itemP · y)=_
   rw [e1]
   exact e3
  have s4:∀ {p1 p2 p3 p4 p5:Pos} {j:Nat},evalP [(106,.loc n),(107,.loc (n+1))] h1 109 (.int y) (.sub (.sub (.cv 106 p1) (.lv 109 p2) p3) (.cst (.int 0) j p4) p5)=some (pvV r.1):=fun {p1 p2 p3 p4 p5 j}=>by
   show (evalP [(106,.loc n),(107,.loc (n+1))] h1 109 (.int y) (.sub (.cv 106 p1) (.lv 109 p2) p3)).bind _=_
   rw [s3]
   show (h1 (rl y)).bind (itemP · 0)=_
   rw [e2]
   rfl
  show ((evalP [(106,.loc n),(107,.loc (n+1))] h1 109 (.int y) (.sub (.sub (.cv 106 _) (.lv 109 _) _) (.cst (.int 0) _ _) _)).bind fun a=>(evalP [(106,.loc n),(107,.loc (n+1))] h1 109 (.int y) (.cv 107 _)).bind fun b=>eqP a b)=_
  rw [s4,s2]
  show eqP (pvV r.1) (.int p)=_
  unfold below
  rw [e]
  obtain⟨o,w⟩:=r
  cases o with
  | none=>rfl
  | some q=>
   show some (decide (q=p))=some (decide (some (some q)=some (some p)))
   refine congrArg some (decide_eq_decide.mpr ⟨fun z=>by rw [z],fun z=>Option.some.inj (Option.some.inj z)⟩)
 ·rw [List.length_map]
  exact Nat.le_trans (List.length_filter_le ..) (by lia)
 ·have X2:=X1.new (.list ((ks.filter (below ρ p)).map .int))
  refine hQ (ks.filter (below ρ p)) (n+1+1) _ _ (nk.filter _) (fun y=>?_) (Nat.le_trans (List.length_filter_le ..) lk) (fr _ (by lia)) (X2.sub fun l o e=>?_)
  ·rw [List.mem_filter,below_iff,hin]
   exact⟨fun h=>h.2,fun h=>⟨by obtain⟨w,e⟩:=h;rw [e];nofun,h⟩⟩
  ·by_cases q:l=n+1+1
   ·rw [q,upd_same] at e ⊢;exact e
   ·rw [upd_ne _ _ q] at e ⊢;exact kp l o e
end
end
section
open PySem PySem.W PyProof.Rows
noncomputable def parsL:List AV:=[.none,.int 3,.int 5,.int 7,.int 9,.int 11,.int 13,.int 15,.int 17]
noncomputable def tellV:Option Int→AV
 | some x=>.int x
 | none=>.str 122
section
variable {C:Nat→List AV→St→R AV}{g:Sig}{E:Est}{k n N rd t:Nat}{h:Hp}{L:Lo}{M M':Nat}{a d:Nat→Nat}{F:Hp}{Φ:Fo}{rl:Int→Nat}{res:List (AV×AV)}{ρ:Rho}{x y p:Int}{T:Tr}{Q:Pst AV}
theorem k_eqN {Q:Pst Bool}(q:Q false L h n k):Wp (cmpv g C .eq .none (.int x) ⟨L,h,n,k⟩) Q E:=q
theorem f29 (m:Nat)(hQ:Q (.loc n) L (upd h n (.list parsL)) (n+1) k):Wp (callF sg (m+1) 29 [] ⟨L,h,n,k⟩) Q E:=by
 refine c_in rfl rfl ?_
 show Wp (execs sg _ b29 ⟨[],h,n,k⟩) _ _
 delta b29
 walk_at "r"
 exact⟨by decide,hQ⟩
theorem f31 (m:Nat)(X:World k M a d Φ F h n)(RW:Rw N rd rl res (PW T) F)(W:WT M' T)(hM:M'≤900)(hp:T p≠none)(hQ:∀ b,(b=true ↔ p=x∨SB T x p)→Q (.bool b) L h n 0):Wp (callF sg (m+1) 31 [.loc rd,.int p,.int x] ⟨L,h,n,0⟩) Q E:=by
 refine c_in rfl rfl ?_
 show Wp (execs sg _ b31 ⟨[(106,.loc rd),(107,.int p),(110,.int x)],h,n,0⟩) _ _
 delta b31
 obtain⟨rk,ws,le⟩:=W.ws hM
 have hr:∀ p np,T p=some np→∀ c∈np.kids,rk c < rk p:=fun p np e c hc=>by
  obtain⟨z,hz,rfl⟩:=List.mem_map.mp ((W.kq _ _ e).mem_iff.mpr hc)
  exact (ws.q _ _ e z hz).2
 have key:∀ (f:Nat) (o:Option Int) (L1:Lo),get? L1 106=some (.loc rd)→get? L1 107=some (pvV o)→get? L1 110=some (.int x)→(∀ q,o=some q→T q≠none∧M'+1 < rk q+f∧((p=x∨SB T x p) ↔ q=x∨SB T x q))→(o=none→¬ (p=x∨SB T x p)∧0 < f)→
   Wp (whileN (fun s=>evalT sg (callF sg m) (match b31 with | .cons (.whl t _ _) _=>t | _=>.cst .none 0 ⟨0,0,0,0⟩) s) (fun s=>execs sg (callF sg m) (match b31 with | .cons (.whl _ b _) _=>b | _=>.nil) s) f ⟨L1,h,n,0⟩)
    (fun fl L2 h2 n2 k2=>∃ o',fl=.next∧get? L2 107=some (pvV o')∧get? L2 110=some (.int x)∧((p=x∨SB T x p) ↔ o'=some x)∧h2=h∧n2=n∧k2=0) fun c cl _ h n k=>E c cl L h n k:=by
  intro f
  induction f with
  | zero => 
   intro o L1 _ _ _ h4 h5
   cases o with
   | none=>exact absurd (h5 rfl).2 (Nat.lt_irrefl _)
   | some q=>have z:=(h4 q rfl).2.1;have:=le q;exact (show False by clear h4 h5;omega).elim
  | succ f ih=>
   intro o L1 h1 h2 h3 h4 h5
   refine while_wp (e_test ?_)
   delta b31
   dsimp only
   refine e_band (b_cons ?_)
   cases o with
   | none=>
    refine e_cmp (e_lv h2 (e_cn (k_isn_none (t_bool ?_))))
    rw [if_neg (by decide)]
    exact t_bool (it_f rfl ⟨none,rfl,h2,h3,⟨fun w=>((h5 rfl).1 w).elim,fun e=>nsE e⟩,rfl,rfl,rfl⟩)
   | some q=>
    refine xo0_3 (h4 q rfl) fun q1 q2 q3=>?_
    refine e_cmp (e_lv h2 (e_cn (k_isn_int (t_bool ?_))))
    rw [if_pos rfl]
    refine b_one (e_cmp (e_lv h2 (e_lv h3 (k_ne (t_bool ?_)))))
    by_cases e:q=x
    ·refine it_f (by rw [decide_eq_true e];rfl) ⟨some q,rfl,h2,h3,⟨fun _=>by rw [e],fun _=>q3.mpr (.inl e)⟩,rfl,rfl,rfl⟩
    ·refine it_t (by rw [decide_eq_false e];rfl) ?_
     obtain⟨nq,hq⟩:=nNone q1
     have hw:=PW_at hq
     refine xs_cons (x_asg (e_sub (e_sub (e_lv h1 (e_lv h2 (i_rows X RW hw (e_ci (i_row0 X RW hw (go_next (xs_nil ?_))))))))))
     refine ih nq.par _ ((get_put_ne _ _ (by decide)).trans h1) (get_put ..) ((get_put_ne _ _ (by decide)).trans h3) (fun u hu=>?_) fun hn=>?_
     ·have q0:q≠0:=fun z=>by
       obtain⟨r,r1,_,r3⟩:=W.root
       rw [z,r1] at hq;obtain rfl:=Option.some.inj hq
       rw [r3] at hu;exact nsE hu
      obtain⟨v,nv,f1,f2,f3⟩:=W.up _ _ hq q0 id
      rw [hu] at f1;obtain rfl:=Option.some.inj f1
      have:=hr _ _ f2 _ f3
      refine⟨by rw [f2];nofun,by clear ih h4 h5 ws;omega,q3.trans ⟨fun s=>(SB_par W hq hu).mp (s.resolve_left e),fun s=>.inr ((SB_par W hq hu).mpr s)⟩⟩
     ·refine⟨fun s=>?_,by have:=le q;clear ih h4 h5 ws;omega⟩
      rcases q3.mp s with s | s
      ·exact e s
      ·by_cases q0:q=0
       ·exact noSB0 W (q0 ▸ s)
       ·obtain⟨v,nv,f1,f2,f3⟩:=W.up _ _ hq q0 id
        rw [hn] at f1;exact nsE f1
 refine xs_cons (x_whl ((key 100000 (some p) _ rfl rfl rfl (fun q e=>by obtain rfl:=Option.some.inj e;exact⟨hp,by clear key;omega,Iff.rfl⟩) fun e=>snE e).imp fun fl L2 h2 n2 k2 w=>?_))
 obtain⟨o,rfl,g1,g2,g3,rfl,rfl,rfl⟩:=w
 refine go_next (xs_cons (x_ret (e_cmp (e_lv g1 (e_lv g2 ?_)))))
 cases o with
 | none=>exact k_eqN (go_ret (bk_ret (hQ _ ⟨fun e=>ftE e,fun s=>nsE (g3.mp s)⟩)))
 | some q=>exact k_eq (go_ret (bk_ret (hQ _ (decide_eq_true_iff.trans ⟨fun e=>g3.mpr (by rw [e]),fun s=>Option.some.inj (g3.mp s)⟩))))
theorem f34 (m:Nat)(X:World k M a d Φ F h n)(ht:t < k)(hM:M < 100)
  (hQ:∀ h' n',World k M a d (setT Φ t (sched 100 (Φ t) 0).1) F h' n'→Q (tellV (sched 100 (Φ t) 0).2) L h' n' 0):Wp (callF sg (m+107) 34 [.loc (a t)] ⟨L,h,n,0⟩) Q E:=by
 refine c_in rfl rfl ?_
 show Wp (execs sg _ b34 ⟨[(120,.loc (a t))],h,n,0⟩) _ _
 delta b34
 refine xs_cons (x_try ?_)
 walk_at "r"
 refine⟨_,X.meth ht rfl fun _ _ _ _=>rfl,?_⟩
 walk_at "r"
 refine c_fn rfl rfl (X.next m (dd:=100) ht (by lia) hM (fun y h' n' e X'=>?_) fun h' n' e X'=>?_)
 ·walk_at "r"
  have:=hQ _ _ X'
  rw [e] at this
  exact this
 ·refine h_hit rfl ?_
  walk_at "r"
  have:=hQ _ _ X'
  rw [e] at this
  exact this
end
end
section
open PySem PySem.W PyProof.Rows
inductive WR (M N:Nat) (a d:Nat→Nat) (rd:Nat) (Φ:Fo) (ρ:Rho) (F0 h:Hp) (n:Nat):Prop
 | intro (F:Hp) (rl:Int→Nat) (res:List (AV×AV)) (X:World 2 M a d Φ F h n) (R:Rw N rd rl res ρ F) (fx:∀ l o,F0 l=some o→F l=some o∧l≠rd∧∀ i,ρ i≠none→l≠rl i)
section
variable {C:Nat→List AV→St→R AV}{E:Est}{k n N rd t i:Nat}{h:Hp}{L:Lo}{M:Nat}{a d:Nat→Nat}{F0:Hp}{Φ:Fo}{ρ:Rho}{x y p q w:Int}{r:Option Int×Int}{o:Option Int}{T:Tr}{ex b:Bool}{pv:AV}{p1 p2 p3 p4 p5 p6:Pos}{j:Nat}
theorem WR.wt (X:WR M N a d rd Φ ρ F0 h n)(ht:t < 2):WT M (Φ t):=by cases X with | intro F rl res X R fx=>exact X.wt ht
theorem WR.get {l:Nat}{o:AO}(X:WR M N a d rd Φ ρ F0 h n)(e:F0 l=some o):h l=some o:=by cases X with | intro F rl res X R fx=>exact X.get (fx _ _ e).1
theorem WR.more {M' N':Nat}(X:WR M N a d rd Φ ρ F0 h n)(hM:M≤M')(hN:N≤N'):WR M' N' a d rd Φ ρ F0 h n:=by cases X with | intro F rl res X R fx=>exact⟨F,rl,res,X.more hM,R.more hN,fx⟩
theorem WR.sub {F1:Hp}(X:WR M N a d rd Φ ρ F0 h n)(s:∀ l o,F1 l=some o→F0 l=some o):WR M N a d rd Φ ρ F1 h n:=by cases X with | intro F rl res X R fx=>exact⟨F,rl,res,X,R,fun l o e=>fx _ _ (s _ _ e)⟩
theorem WR.junk (X:WR M N a d rd Φ ρ F0 h n)(o:AO):WR M N a d rd Φ ρ F0 (upd h n o) (n+1):=by cases X with | intro F rl res X R fx=>exact⟨F,rl,res,X.junk o,R,fx⟩
theorem WR.new (X:WR M N a d rd Φ ρ F0 h n)(o:AO):WR M N a d rd Φ ρ (upd F0 n o) (upd h n o) (n+1):=by
 cases X with
 | intro F rl res X R fx=>
  have kp:∀ l o',F l=some o'→upd F n o l=some o':=fun l o' e=>by rw [upd_ne _ _ (Nat.ne_of_lt (X.lt e))];exact e
  refine⟨upd F n o,rl,res,X.new o,R.keep kp,fun l o' e=>?_⟩
  by_cases z:l=n
  ·subst z
   rw [upd_same] at e ⊢
   refine⟨e,fun w=>?_,fun i hi w=>?_⟩
   ·have:=X.lt R.dict;lia
   ·obtain⟨s,hs⟩:=nNone hi
    have:=X.lt (R.row _ _ hs);lia
  ·rw [upd_ne _ _ z] at e ⊢
   exact fx _ _ e
theorem WR.meth (X:WR M N a d rd Φ ρ F0 h n)(ht:t < 2){m f hd:Nat}(hm:sg.me 68 m=.fn f)(hx:∀ A t d mx,get? (tatt A t d mx) m=none):methodOf sg (.loc (a t)) m ⟨L,h,n,hd⟩=some (.fn f):=by cases X with | intro F rl res X R fx=>exact X.meth ht hm hx
section
variable {Q:Pst AV}
theorem WR.e0 (X:WR M N a d rd Φ ρ F0 h n)(l106:get? L 106=some (.loc rd))(li:get? L i=some (.int y))(e:ρ y=some r)(q:Q (pvV r.1) L h n 0):Wp (evalE sg C (.sub (.sub (.lv 106 p1) (.lv i p2) p3) (.cst (.int 0) j p4) p5) ⟨L,h,n,0⟩) Q E:=by
 cases X with | intro F rl res X R fx=>exact e_sub (e_sub (e_lv l106 (e_lv li (i_rows X R e (e_ci (i_row0 X R e q))))))
theorem WR.e1 (X:WR M N a d rd Φ ρ F0 h n)(l106:get? L 106=some (.loc rd))(li:get? L i=some (.int y))(e:ρ y=some r)(q:Q (.int r.2) L h n 0):Wp (evalE sg C (.sub (.sub (.lv 106 p1) (.lv i p2) p3) (.cst (.int 1) j p4) p5) ⟨L,h,n,0⟩) Q E:=by
 cases X with | intro F rl res X R fx=>exact e_sub (e_sub (e_lv l106 (e_lv li (i_rows X R e (e_ci (i_row1 X R e q))))))
theorem WR.isin (X:WR M N a d rd Φ ρ F0 h n)(l106:get? L 106=some (.loc rd))(li:get? L i=some (.int y))(q:Q (.bool (ρ y).isSome) L h n 0):Wp (evalE sg C (.cmp (.lv i p1) .isin (.lv 106 p2) p3) ⟨L,h,n,0⟩) Q E:=by
 cases X with | intro F rl res X R fx=>exact e_cmp (e_lv li (e_lv l106 (k_rows X R q)))
theorem WR.notin (X:WR M N a d rd Φ ρ F0 h n)(l106:get? L 106=some (.loc rd))(li:get? L i=some (.int y))(q:Q (.bool (!(ρ y).isSome)) L h n 0):Wp (evalE sg C (.cmp (.lv i p1) .notin (.lv 106 p2) p3) ⟨L,h,n,0⟩) Q E:=by
 cases X with | intro F rl res X R fx=>exact e_cmp (e_lv li (e_lv l106 (k_rowsn X R q)))
theorem WR.pop (X:WR M N a d rd Φ ρ F0 h n)(l106:get? L 106=some (.loc rd))(li:get? L i=some (.int y))(e:ρ y=some r)
  (go:∀ v h',(match v with | .loc _=>True | _=>False)→WR M N a d rd Φ (fun j=>if j=y then none else ρ j) F0 h' n→Q v L h' n 0):Wp (evalE sg C (.mcall (.lv 106 p1) 10 p2 (.cons (.lv i p3) .nil) .nil p4) ⟨L,h,n,0⟩) Q E:=by
 cases X with
 | intro F rl res X R fx=>
  refine e_mcall (e_lv l106 ⟨_,m_dpop (X.get R.dict),es_cons (e_lv li (es_nil (ks_nil (c_dpop (X.get R.dict) (by rw [R.ent,e];rfl) (go _ _ trivial ?_)))))⟩)
  refine⟨_,rl,_,X.put R.dict rfl _,R.delr y,fun l o z=>?_⟩
  obtain⟨z1,z2,z3⟩:=fx l o z
  refine⟨by rw [upd_ne _ _ z2];exact z1,z2,fun i hi=>?_⟩
  by_cases iy:i=y
  ·rw [if_pos iy] at hi;exact (hi rfl).elim
  ·rw [if_neg iy] at hi;exact z3 i hi
theorem WR.kids (m:Nat)(X:WR M N a d rd Φ ρ F0 h n)(hN:N≤900)
  (hQ:∀ (ys:List Int) (l:Nat) h' n',ys.Nodup→(∀ y,y∈ys ↔ ∃ w,ρ y=some (some p,w))→ys.length≤N→F0 l=none→WR M N a d rd Φ ρ (upd F0 l (.list (ys.map .int))) h' n'→Q (.loc l) L h' n' 0):Wp (callF sg (m+1) 30 [.loc rd,.int p] ⟨L,h,n,0⟩) Q E:=by
 cases X with
 | intro F rl res X R fx=>
  refine f30 m X R hN fun ys l h' n' nd hy hl nl X'=>hQ ys l h' n' nd hy hl ?_ ?_
  ·cases e:F0 l with
   | none=>rfl
   | some o=>have:=(fx _ _ e).1;rw [nl] at this;exact nsE this
  ·have kp:∀ l' o,F l'=some o→upd F l (.list (ys.map .int)) l'=some o:=fun l' o e=>by
    rw [upd_ne]
    ·exact e
    ·rintro rfl;rw [nl] at e;exact nsE e
   refine⟨_,rl,res,X',R.keep kp,fun l' o e=>?_⟩
   by_cases z:l'=l
   ·subst z
    rw [upd_same] at e ⊢
    refine⟨e,fun w=>by rw [w,R.dict] at nl;exact snE nl,fun i hi w=>?_⟩
    obtain⟨s,hs⟩:=nNone hi
    rw [w,R.row _ _ hs] at nl;exact snE nl
   ·rw [upd_ne _ _ z] at e ⊢
    exact fx _ _ e
theorem WR.below (m:Nat)(X:WR M N a d rd Φ (PW (Φ 1)) F0 h n)(hM:M≤900)(hp:Φ 1 p≠none)(hQ:∀ b,(b=true ↔ p=x∨SB (Φ 1) x p)→Q (.bool b) L h n 0):Wp (callF sg (m+1) 31 [.loc rd,.int p,.int x] ⟨L,h,n,0⟩) Q E:=by
 cases X with | intro F rl res X R fx=>exact f31 m X R (X.wt (by decide)) hM hp hQ
theorem WR.turn (m:Nat)(X:WR M N a d rd Φ ρ F0 h n)(ht:t < 2)(hM:M < 100)(hQ:∀ h' n',WR M N a d rd (setT Φ t (sched 100 (Φ t) 0).1) ρ F0 h' n'→Q (tellV (sched 100 (Φ t) 0).2) L h' n' 0):Wp (callF sg (m+107) 34 [.loc (a t)] ⟨L,h,n,0⟩) Q E:=by
 cases X with | intro F rl res X R fx=>exact f34 m X ht hM fun h' n' X'=>hQ _ _ ⟨F,rl,res,X',R,fx⟩
theorem WR.put7 (m:Nat){M':Nat}(hN:M≤M')(hN':Φ t p=none→M+1≤M')(X:WR M N a d rd Φ ρ F0 h n)(ht:t < 2)(hM:M' < 300)(x0:x≠0)(px:p≠x)(hpv:pv=.int p∨(pv=.none∧p=0))(hx:Φ t x=none)(hw:1≤w∧w≤256)
  (hQ:∀ h' n',WR (M'+1) N a d rd (setT Φ t (putIn (ens (Φ t) p) p x w ex)) ρ F0 h' n'→Q .none L h' n' 0):Wp (callF sg (m+9) 21 [.loc (a t),.int x,pv,.int w,.bool ex] ⟨L,h,n,0⟩) Q E:=by
 cases X with | intro F rl res X R fx=>exact X.put7 m hN hN' ht hM x0 px hpv hx hw fun h' n' X'=>hQ _ _ ⟨F,rl,res,X',R,fx⟩
theorem WR.move7 (m:Nat){M':Nat}(hN:M≤M')(hN':Φ t p=none→M+1≤M')(X:WR M N a d rd Φ ρ F0 h n)(ht:t < 2)(hM:M' < 90)(x0:x≠0)(px:p≠x)(hpv:pv=.int p∨(pv=.none∧p=0))(hx:Φ t x≠none)(hw:1≤w∧w≤256)(hb:b=true ↔ SB (Φ t) x p)(hc:b=true→∀ np,Φ t p=some np→np.kids=[])
  (hQ:∀ h' n',WR M' N a d rd (setT Φ t (rpT (ens (Φ t) p) x p w ex b)) ρ F0 h' n'→Q .none L h' n' 0):Wp (callF sg (m+9) 22 [.loc (a t),.int x,pv,.int w,.bool ex] ⟨L,h,n,0⟩) Q E:=by
 cases X with | intro F rl res X R fx=>exact X.move7 m hN hN' ht hM x0 px hpv hx hw hb hc fun h' n' X'=>hQ _ _ ⟨F,rl,res,X',R,fx⟩
theorem WR.act (m:Nat)(b:Bool)(X:WR M N a d rd Φ ρ F0 h n)(ht:t < 2)(x0:x≠0){nd:Nd}(hx:Φ t x=some nd)
  (hQ:∀ h',WR M N a d rd (setT Φ t (setN (Φ t) x { nd with act:=b })) ρ F0 h' n→Q .none L h' n 0):Wp (callF sg (m+1) (if b=true then 25 else 24) [.loc (a t),.int x] ⟨L,h,n,0⟩) Q E:=by
 cases X with | intro F rl res X R fx=>exact X.act m b ht x0 hx fun h' X'=>hQ _ ⟨F,rl,res,X',R,fx⟩
theorem WR.take (m:Nat)(X:WR M N a d rd Φ ρ F0 h n)(ht:t < 2)(hM:M < 400)(x0:x≠0)(hx:Φ t x≠none)
  (hQ:∀ h' n',WR M N a d rd (setT Φ t (takeOut (Φ t) (parOf (Φ t) x) x)) ρ F0 h' n'→Q .none L h' n' 0):Wp (callF sg (m+6) 23 [.loc (a t),.int x] ⟨L,h,n,0⟩) Q E:=by
 cases X with | intro F rl res X R fx=>exact X.take m ht hM x0 hx fun h' n' X'=>hQ _ _ ⟨F,rl,res,X',R,fx⟩
theorem WR.go (m:Nat)(X:WR M N a d rd Φ ρ F0 h n)(hM:M < 90)(y0:y≠0)(hc:Φ 1 p≠none)(py:p≠y)(hy:PW (Φ 1) y=some (some q,w))(nb:¬ SB (Φ 1) y p)
  (hQ:∀ h' n',WR M N a d rd (setT Φ 1 (addChild (cutChild (Φ 1) q y) p y)) ρ F0 h' n'→Q .none L h' n' 0):Wp (callF sg (m+9) 22 [.loc (a 1),.int y,.int p,.int w,.bool false] ⟨L,h,n,0⟩) Q E:=by
 obtain⟨ny,e1,e2⟩:=Option.map_eq_some_iff.mp hy
 obtain⟨f1,rfl⟩:=Prod.mk.inj e2
 refine X.move7 m (b:=false) (Nat.le_refl _) (fun e=>(hc e).elim) (by decide) hM y0 py (.inl rfl) (by rw [e1];nofun) ((X.wt (by decide)).w _ _ e1) ⟨fun e=>ftE e,fun s=>(nb s).elim⟩ (fun e=>ftE e) fun h' n' X'=>hQ _ _ ?_
 have:rpT (ens (Φ 1) p) y p ny.w false false=addChild (cutChild (Φ 1) q y) p y:=by
  rw [ens_eq hc]
  unfold rpT
  rw [wt_same e1,parOf_eq e1 f1]
  rfl
 rw [this] at X'
 exact X'
end
section
variable {Q:Pst Fl}{e:Mine.E}
theorem WR.s0 (X:WR M N a d rd Φ ρ F0 h n)(l106:get? L 106=some (.loc rd))(li:get? L i=some (.int y))(hy:ρ y=some r)(he:∀ {Q:Pst AV}{E:Est},Q (pvV o) L h n 0→Wp (evalE sg C e ⟨L,h,n,0⟩) Q E)
  (go:∀ h',WR M N a d rd Φ (setR ρ y (o,r.2)) F0 h' n→Q .next L h' n 0):Wp (exec sg C (.asg (.sub (.sub (.lv 106 p1) (.lv i p2) p3) (.cst (.int 0) j p4) p5) e p6) ⟨L,h,n,0⟩) Q E:=by
 cases X with
 | intro F rl res X R fx=>
  have hy':ρ y≠none:=by rw [hy];nofun
  refine x_asgI (he (e_sub (e_lv l106 (e_lv li (i_rows X R hy (e_ci (j_list (i:=0) (X.get (R.row _ _ hy)) ⟨Int.le_refl _,Nat.le_of_ble_eq_true rfl⟩ (go _ ⟨_,rl,res,X.put (R.row _ _ hy) rfl _,R.setp hy (o,r.2),fun l o' z=>?_⟩))))))))
  obtain⟨z1,z2,z3⟩:=fx l o' z
  exact⟨by rw [upd_ne _ _ (z3 y hy')];exact z1,z2,fun i hi=>z3 i (setR_at hi hy')⟩
theorem WR.sN {es:Es}(X:WR M N a d rd Φ ρ F0 h n)(hN:N≤900)(l106:get? L 106=some (.loc rd))(li:get? L i=some (.int y))(he:Us sg C L es [pvV o,.int w])
  (go:∀ h',WR M (N+1) a d rd Φ (setR ρ y (o,w)) F0 h' (n+1)→Q .next L h' (n+1) 0):Wp (exec sg C (.asg (.sub (.lv 106 p1) (.lv i p2) p3) (.lst es p4) p5) ⟨L,h,n,0⟩) Q E:=by
 cases X with
 | intro F rl res X R fx=>
  have nn:F n=none:=by
   cases e:F n with
   | none=>rfl
   | some o=>exact absurd (X.lt e) (Nat.lt_irrefl _)
  have X1:=X.new (.list [pvV o,.int w])
  have ed:upd F n (.list [pvV o,.int w]) rd=some (.dict res):=by rw [upd_ne _ _ (Nat.ne_of_lt (X.lt R.dict))];exact R.dict
  refine x_asgI (e_lst (p_es he ⟨Nat.le_of_ble_eq_true rfl,e_lv l106 (e_lv li (j_dict (X1.get ed) (by have:=R.len;lia) (go _ ⟨_,_,_,X1.put ed rfl _,R.newr nn y (o,w),fun l o' z=>?_⟩)))⟩))
  obtain⟨z1,z2,z3⟩:=fx l o' z
  have ln:=X.lt z1
  refine⟨by rw [upd_ne _ _ z2,upd_ne _ _ (Nat.ne_of_lt ln)];exact z1,z2,fun i hi=>?_⟩
  by_cases iy:i=y
  ·rw [if_pos iy];exact Nat.ne_of_lt ln
  ·rw [if_neg iy]
   unfold setR at hi
   rw [if_neg iy] at hi
   exact z3 i hi
end
end
end
section
open PySem PySem.W PyProof.Rows
section
variable {σ:Int→Int}{M:Nat}{T U:Tr}{nd np nx ny nc:Nd}{i j p q c x y w:Int}{ex:Bool}{ys zs:List Int}{ρ:Rho}
theorem PW_some (h:PW T i≠none):T i≠none:=fun e=>h (by unfold PW;rw [e];rfl)
theorem PW_none (h:T i≠none):PW T i≠none:=fun e=>h (by unfold PW at e;cases z:T i with | none=>rfl | some _=>rw [z] at e;exact snE e)
theorem PW_go {r:Option Int×Int}(hc:T c≠none)(hy:PW T y=some r)(ne:y≠c):PW (addChild (cutChild T p y) c y)=setR (PW T) y (some c,r.2):=by
 obtain⟨ny,e1,rfl⟩:=Option.map_eq_some_iff.mp hy
 obtain⟨ny',e2⟩:=nNone (fun w=>by rw [cut_none,e1] at w;exact snE w:cutChild T p y y≠none)
 have e3:ny'.w=ny.w:=by
  have:=PW_at e2
  rw [PW_cut,PW_at e1] at this
  exact ((Prod.mk.inj (Option.some.inj this)).2).symm
 rw [PW_add (fun w=>hc (cut_none.mp w)) e2 ne,PW_cut,e3]
theorem goes_snoc:goes T p c (zs++[y])=addChild (cutChild (goes T p c zs) p y) c y:=by unfold goes;rw [List.foldl_append];rfl
theorem goes_none (zs:List Int):∀ {T:Tr},goes T p c zs i=none ↔ T i=none:=by
 induction zs with
 | nil=>exact Iff.rfl
 | cons z r ih=>exact ih.trans (addChild_none.trans cut_none)
theorem PW_goes (zs:List Int):∀ {T:Tr},T c≠none→(∀ y∈zs,T y≠none∧y≠c)→∀ j,PW (goes T p c zs) j=if j∈zs then (PW T j).map (fun r=>(some c,r.2)) else PW T j:=by
 induction zs with
 | nil=>exact fun _ _ j=>(if_neg List.not_mem_nil).symm
 | cons y r ih=>
  intro T hc hz j
  obtain⟨hy,yc⟩:=hz y (.head _)
  obtain⟨s,hs⟩:=nNone (PW_none hy)
  have st:∀ {i},T i≠none→addChild (cutChild T p y) c y i≠none:=fun h w=>h (cut_none.mp (addChild_none.mp w))
  show PW (goes (addChild (cutChild T p y) c y) p c r) j=_
  rw [ih (st hc) (fun z hz'=>⟨st (hz z (.tail _ hz')).1,(hz z (.tail _ hz')).2⟩) j,PW_go hc hs yc]
  unfold setR
  by_cases e:j=y
  ·subst e
   rw [if_pos rfl,if_pos (List.mem_cons_self ..),hs]
   split <;> rfl
  ·rw [if_neg e]
   by_cases m:j∈r
   ·rw [if_pos m,if_pos (List.mem_cons_of_mem _ m)]
   ·rw [if_neg m,if_neg fun w=>(List.mem_cons.mp w).elim e m]
theorem noSB_go {v:Int}(W:WT M T)(hy:PW T y=some (some p,w))(cy:c≠y)(hc:PW T c=some (some p,v)∨PW T p=some (some c,v)):¬ SB T y c:=fun s=>by
 obtain⟨ny,e1,e2⟩:=Option.map_eq_some_iff.mp hy
 have e2:=(Prod.mk.inj e2).1
 have y0:y≠0:=fun z=>by
  obtain⟨r,r1,_,r3⟩:=W.root
  rw [z,r1] at e1;obtain rfl:=Option.some.inj e1
  rw [r3] at e2;exact nsE e2
 have nu:=noUp W e1 e2 y0
 rcases hc with h | h
 ·obtain⟨nc,f1,f2⟩:=Option.map_eq_some_iff.mp h
  rcases (SB_par W f1 (Prod.mk.inj f2).1).mp s with s | s
  ·exact nu.2 s
  ·exact nu.1 s
 ·obtain⟨np,f1,f2⟩:=Option.map_eq_some_iff.mp h
  exact nu.1 ((SB_par W f1 (Prod.mk.inj f2).1).mpr (.inr s))
theorem Srt.wt (s:Srt T):Srt (wt T x w):=by
 unfold Mine.wt
 cases h:T x with
 | none=>exact s
 | some nx=>exact s.set (nd:={ nx with w:=w }) (show Srtd nx.queue from s _ _ h)
theorem Srt.blk (s:Srt T):Srt (blk T x):=by
 unfold Mine.blk
 cases h:T x with
 | none=>exact s
 | some nx=>exact s.set (nd:={ nx with act:=false }) (show Srtd nx.queue from s _ _ h)
theorem Srt.ens (s:Srt T):Srt (ens T p):=by
 unfold Mine.ens;split
 ·exact s.putIn.blk
 ·exact s
theorem Srt.hangX (s:Srt T):Srt (hangX T p x ex):=by
 unfold Mine.hangX;split
 ·exact s.excl
 ·exact s.add
theorem Srt.goes (zs:List Int):∀ {T:Tr},Srt T→Srt (goes T p c zs):=by
 induction zs with
 | nil=>exact id
 | cons z r ih=>exact fun s=>ih s.cut.add
end
structure LS (M:Nat) (a d:Nat→Nat) (rd:Nat) (Φ:Fo) (F0 h:Hp) (n:Nat):Prop where
 x:WR M M a d rd Φ (PW (Φ 1)) F0 h n
 s:∃ σ,Sim σ (Φ 0) (Φ 1)
 s0:Srt (Φ 0)
 s1:Srt (Φ 1)
section
variable {C:Nat→List AV→St→R AV}{E:Est}{k n N rd t i:Nat}{h:Hp}{L:Lo}{M:Nat}{a d:Nat→Nat}{F0:Hp}{Φ:Fo}{ρ:Rho}{x y p q w nn:Int}{T:Tr}{ex b:Bool}{Q:Pst AV}
theorem loop33 (m:Nat){l:Nat}{U:Tr}{ys:List Int}{wx:Int}(hM:M < 90)(hl:ys.length≤900)(nd:ys.Nodup)(hy:∀ y,y∈ys ↔ ∃ w,PW U y=some (some x,w))(hx:PW U x=some (some q,wx))(xy:x ∉ ys)(qy:q ∉ ys)(qx:U q≠none)(y0:∀ y∈ys,y≠0)
  (l106:get? L 106=some (.loc rd)) (l110:get? L 110=some (.int x)) (l112:get? L 112=some (.loc (a 1))) {Q:Pst Fl} (hU:Φ 1=U)
  (X:WR M N a d rd Φ (PW U) (upd F0 l (.list (ys.map .int))) h n)
  (hQ:∀ L h n,get? L 106=some (.loc rd)→get? L 110=some (.int x)→get? L 112=some (.loc (a 1))→WR M N a d rd (setT Φ 1 (goes U x q ys)) (PW (goes U x q ys)) (upd F0 l (.list (ys.map .int))) h n→Q .next L h n 0) :
  Wp (forN (.list l) (fun x s=>asgT sg (callF sg (m+9)) (.nm 109 ⟨300,12,300,13⟩) x s) (fun s=>execs sg (callF sg (m+9)) (match b33s2 with | .ife _ (.cons _ (.cons (.for _ _ b _) _)) _ _=>b | _=>.nil) s) 100000 0 ⟨L,h,n,0⟩) Q E:=by
 have gl:∀ {k M N ρ Φ h n},WR M N a d rd Φ ρ (upd F0 l (.list (ys.map .int))) h n→itemAt (.list l) k ⟨L,h,n,0⟩=some (ys.map AV.int)[k]?:=fun X=>at_list (X.get (upd_same ..))
 refine forN_wp (xs:=ys.map AV.int) (fun j L h n k=>k=0∧get? L 106=some (.loc rd)∧get? L 110=some (.int x)∧get? L 112=some (.loc (a 1))∧WR M N a d rd (setT Φ 1 (goes U x q (ys.take j))) (PW (goes U x q (ys.take j))) (upd F0 l (.list (ys.map .int))) h n∧∀ z,z ∉ ys.take j→PW (goes U x q (ys.take j)) z=PW U z)
  (fun j L h n k w=>⟨at_list (w.2.2.2.2.1.get (upd_same ..)),by rw [w.1];exact Nat.zero_le _⟩) (fun j v L h n k hj w=>?_) (fun L h n k w=>?_) 100000 0 (by rw [List.length_map];lia) (Nat.zero_le _) ⟨rfl,l106,l110,l112,by rw [List.take_zero];show WR M N a d rd (setT Φ 1 U) (PW U) _ h n;rw [← hU,setT_self,hU];exact X,fun z _=>by rw [List.take_zero];rfl⟩
 ·obtain⟨rfl,m106,m110,m112,X,hz⟩:=w
  obtain⟨y,hyj,rfl⟩:∃ y,ys[j]?=some y∧v=.int y:=by
   rw [List.getElem?_map] at hj
   obtain⟨y,e1,e2⟩:=Option.map_eq_some_iff.mp hj
   exact⟨y,e1,e2.symm⟩
  have my:y∈ys:=List.mem_of_getElem? hyj
  have nt:y ∉ ys.take j:=fun w=>by
   have:=nd
   rw [← List.take_append_drop j ys,List.nodup_append] at this
   exact this.2.2 y w y (List.mem_of_getElem? (i:=0) (by rw [List.getElem?_drop];exact hyj)) rfl
  have tk:∀ {z},z ∉ ys→z ∉ ys.take j:=fun h w=>h (List.mem_of_mem_take w)
  obtain⟨wy,ey⟩:=(hy y).mp my
  have ey:PW (goes U x q (ys.take j)) y=some (some x,wy):=(hz y nt).trans ey
  have exx:PW (goes U x q (ys.take j)) x=some (some q,wx):=(hz x (tk xy)).trans hx
  have qy':q≠y:=fun e=>qy (e ▸ my)
  refine t_nm ?_
  have k106:get? (put L 109 (.int y)) 106=some (.loc rd):=(get_put_ne _ _ (by decide)).trans m106
  have k110:get? (put L 109 (.int y)) 110=some (.int x):=(get_put_ne _ _ (by decide)).trans m110
  have k112:get? (put L 109 (.int y)) 112=some (.loc (a 1)):=(get_put_ne _ _ (by decide)).trans m112
  have k109:get? (put L 109 (.int y)) 109=some (.int y):=get_put ..
  generalize put L 109 (.int y)=L at k106 k110 k112 k109 ⊢
  delta b33s2
  dsimp only
  refine xs_cons (x_expr (e_mcall (e_lv k112 ⟨_,X.meth (by decide) rfl fun _ _ _ _=>rfl,es_cons (e_lv k109 (es_cons (X.e0 k106 k110 exx (es_cons (X.e1 k106 k109 ey (es_nil (ks_nil ?_)))))))⟩)))
  have tU:setT Φ 1 (goes U x q (ys.take j)) 1=goes U x q (ys.take j):=setT_same ..
  refine c_fn rfl rfl (X.go (q:=x) (w:=wy) m hM (y0 y my) (by rw [tU,ne_eq,goes_none];exact qx) qy' (by rw [tU];exact ey) ?_ fun h' n' X'=>⟨trivial,?_⟩)
  ·have W:=X.wt (t:=1) (by decide)
   rw [tU] at W ⊢
   exact noSB_go W ey qy' (.inr exx)
  rw [tU,setT_setT,← goes_snoc,← take_succ' hyj] at X'
  refine go_next (xs_cons (X'.s0 (o:=some q) k106 k109 ey (X'.e0 k106 k110 exx) fun h2 X2=>go_next (xs_nil ?_)))
  have eP:PW (goes U x q (ys.take (j+1)))=setR (PW (goes U x q (ys.take j))) y (some q,wy):=by
   rw [take_succ' hyj,goes_snoc]
   exact PW_go (by rw [ne_eq,goes_none];exact qx) ey qy'.symm
  refine⟨rfl,k106,k110,k112,by rw [eP];exact X2,fun z hz'=>?_⟩
  rw [take_succ' hyj,List.mem_append,not_or,List.mem_singleton] at hz'
  rw [eP]
  unfold setR
  rw [if_neg hz'.2]
  exact hz z hz'.1
 ·obtain⟨rfl,m106,m110,m112,X,hz⟩:=w
  rw [List.length_map,List.take_length] at X
  exact hQ _ _ _ m106 m110 m112 X
theorem LS.more {M':Nat}(S:LS M a d rd Φ F0 h n)(hM:M≤M'):LS M' a d rd Φ F0 h n:=⟨S.x.more hM hM,S.s,S.s0,S.s1⟩
theorem PW_out {nx:Nd}(hx:T x=some nx)(k0:nx.kids=[]):PW (takeOut T q x)=fun j=>if j=x then none else PW T j:=by
 have e:takeOut T q x=delN (cutChild T q x) x:=by unfold takeOut rmChild;rw [if_pos rfl,hx];dsimp only;rw [k0];rfl
 rw [e]
 funext j
 by_cases z:j=x
 ·rw [if_pos z];unfold PW delN;rw [if_pos z];rfl
 ·rw [if_neg z,← PW_cut (T:=T) (p:=q) (c:=x)]
  unfold PW delN
  rw [if_neg z]
theorem LS.act (S:LS M a d rd Φ F0 h n){na nb:Nd}(ha:Φ 0 x=some na)(hb:Φ 1 x=some nb){h':Hp}{n':Nat}
  (X:WR M M a d rd (setT (setT Φ 0 (setN (Φ 0) x { na with act:=b })) 1 (setN (setT Φ 0 (setN (Φ 0) x { na with act:=b }) 1) x { nb with act:=b })) (PW (Φ 1)) F0 h' n') :
  LS M a d rd (setT (setT Φ 0 (setN (Φ 0) x { na with act:=b })) 1 (setN (setT Φ 0 (setN (Φ 0) x { na with act:=b }) 1) x { nb with act:=b })) F0 h' n':=by
 obtain⟨σ,s⟩:=S.s
 obtain⟨nb',e1,g⟩:=s.get ha
 rw [hb] at e1;obtain rfl:=Option.some.inj e1
 have e0:setT Φ 0 (setN (Φ 0) x { na with act:=b }) 1=Φ 1:=setT_ne _ _ (by decide)
 refine⟨?_,⟨σ,?_⟩,?_,?_⟩
 ·rw [setT_same,PW_set,e0,setR_self (r:=(nb.par,nb.w)) (PW_at hb)];rw [e0] at X;exact X
 ·rw [setT_same,setT_ne _ _ (by decide),setT_same,e0]
  exact s.set ⟨g.w,rfl,g.lw,g.df,g.par,g.kids,g.queue⟩
 ·rw [setT_ne _ _ (by decide),setT_same];exact S.s0.set (nd:={ na with act:=b }) (show Srtd na.queue from S.s0 _ _ ha)
 ·rw [setT_same,e0];exact S.s1.set (nd:={ nb with act:=b }) (show Srtd nb.queue from S.s1 _ _ hb)
theorem f33 (m:Nat)(S:LS M a d rd Φ F0 h n)(hM:M < 89)(hQ:∀ Φ' h' n',LS M a d rd Φ' F0 h' n'→Q .none L h' n' 0):Wp (callF sg (m+12) 33 [.loc (a 0),.loc (a 1),.loc rd,.int nn] ⟨L,h,n,0⟩) Q E:=by
 refine c_in rfl rfl ?_
 show Wp (execs sg _ b33 ⟨[(0,.loc (a 0)),(112,.loc (a 1)),(106,.loc rd),(113,.int nn)],h,n,0⟩) _ _
 delta b33
 delta b33s0 b33s1
 refine xs_cons (x_asg (e_bin (e_ci (e_bin (e_ci (e_bin (e_lv rfl (e_ci (o_mod (by decide) (o_mul (by decide) (o_add (go_next ?_))))))))))))
 have x0:3+2 * Int.fmod nn 8≠0:=by lia
 show Wp (execs sg _ _ ⟨[(0,.loc (a 0)),(112,.loc (a 1)),(106,.loc rd),(113,.int nn),(110,.int (3+2 * Int.fmod nn 8))],h,n,0⟩) _ _
 generalize 3+2 * Int.fmod nn 8=x at x0 ⊢
 refine xs_cons (x_ife (S.x.notin rfl rfl (t_bool (it_s (fun z=>?_) fun z=>?_))))
 ·walk_at "r"
  exact hQ _ _ _ S
 have hU:Φ 1 x≠none:=PW_some fun e=>by rw [e] at z;exact tfE z
 obtain⟨σ,s⟩:=S.s
 have hT:Φ 0 x≠none:=fun e=>hU ((s x).none e)
 obtain⟨nt,ht⟩:=nNone hT
 obtain⟨nu,hu,g⟩:=s.get ht
 refine xs_nil (go_next (xs_cons ?_))
 have acts:∀ (b:Bool) (m106:get? [(0,AV.loc (a 0)),(112,.loc (a 1)),(106,.loc rd),(113,.int nn),(110,.int x)] 106=some (.loc rd)) {p1 p2 p3 p4 p5 q1 q2 q3 q4 q5:Pos},
   Wp (execs sg (callF sg (m+11)) (.cons (.expr (.mcall (.lv 0 p1) (if b=true then 99 else 81) p2 (.cons (.lv 110 p3) .nil) .nil p4) p5) (.cons (.expr (.mcall (.lv 112 q1) (if b=true then 99 else 81) q2 (.cons (.lv 110 q3) .nil) .nil q4) q5) .nil)) ⟨[(0,.loc (a 0)),(112,.loc (a 1)),(106,.loc rd),(113,.int nn),(110,.int x)],h,n,0⟩)
    (fun f L' h' n' k'=>f=.next∧k'=0∧∃ Φ',LS M a d rd Φ' F0 h' n') fun _ _ _ _ _ _=>False:=fun b _ {p1 p2 p3 p4 p5 q1 q2 q3 q4 q5}=>by
  refine xs_cons (x_expr (e_mcall (e_lv rfl ⟨_,S.x.meth (f:=if b=true then 25 else 24) (by decide) (by cases b <;> rfl) (fun _ _ _ _=>by cases b <;> rfl),es_cons (e_lv rfl (es_nil (ks_nil ?_)))⟩)))
  refine c_fn (by cases b <;> rfl) (by cases b <;> rfl) (S.x.act (m+10) b (by decide) x0 ht fun h1 X1=>⟨trivial,go_next ?_⟩)
  have e1:setT Φ 0 (setN (Φ 0) x { nt with act:=b }) 1 x=some nu:=by rw [setT_ne _ _ (by decide)];exact hu
  refine xs_cons (x_expr (e_mcall (e_lv rfl ⟨_,X1.meth (f:=if b=true then 25 else 24) (by decide) (by cases b <;> rfl) (fun _ _ _ _=>by cases b <;> rfl),es_cons (e_lv rfl (es_nil (ks_nil ?_)))⟩)))
  refine c_fn (by cases b <;> rfl) (by cases b <;> rfl) (X1.act (m+10) b (by decide) x0 e1 fun h2 X2=>⟨trivial,go_next (xs_nil ?_)⟩)
  exact⟨rfl,rfl,_,S.act ht hu X2⟩
 have fin:∀ {f L' h' n' k'},(f=Fl.next∧k'=0∧∃ Φ',LS M a d rd Φ' F0 h' n')→Go1 sg (callF sg (m+11)) .nil (Back L Q) (fun c cl _ h n k=>E c cl L h n k) f L' h' n' k':=fun w=>by
  obtain⟨rfl,rfl,Φ',S'⟩:=w
  exact go_next (xs_nil (bk_next (hQ _ _ _ S')))
 delta b33s2
 refine x_ife (e_cmp (e_bin (e_lv rfl (e_ci (o_mod (by decide) (e_ci (k_eq (t_bool (it_s (fun _=>?_) fun _=>?_)))))))))
 ·-- taken out
  have W1:=S.x.wt (t:=0) (by decide)
  have W2:=S.x.wt (t:=1) (by decide)
  obtain⟨eq1,hq⟩:=par_of W1 ht x0
  obtain⟨eq2,hq2⟩:=par_of W2 hu x0
  have eq:parOf (Φ 1) x=parOf (Φ 0) x:=by have:=g.par;rw [eq1,eq2] at this;exact Option.some.inj this
  generalize hqq:parOf (Φ 0) x=q at eq1 hq eq
  rw [eq] at eq2 hq2
  have px:PW (Φ 1) x=some (some q,nu.w):=by rw [PW_at hu,eq2]
  have nq:=noUp W2 hu eq2 x0
  refine xs_cons (x_expr (e_mcall (e_lv rfl ⟨_,S.x.meth (by decide) rfl fun _ _ _ _=>rfl,es_cons (e_lv rfl (es_nil (ks_nil ?_)))⟩)))
  refine c_fn rfl rfl (S.x.take (m+5) (by decide) (by lia) x0 hT fun h1 n1 X1=>⟨trivial,go_next ?_⟩)
  rw [hqq] at X1
  refine xs_cons (x_for (e_call rfl (es_cons (e_lv rfl (es_cons (e_lv rfl (es_nil (ks_nil ?_))))))))
  refine c_fn rfl rfl (X1.kids (m+10) (by lia) fun ys l h2 n2 nd hy hl nl X2=>⟨_,it_list (X2.get (upd_same ..)),?_⟩)
  have e1:setT Φ 0 (takeOut (Φ 0) q x) 1=Φ 1:=setT_ne _ _ (by decide)
  have pm:ys.Perm nt.kids:=kids_perm W1 ht nd fun y=>(hy y).trans ⟨fun h=>⟨id,by rw [← s.pw];exact h⟩,fun h=>by rw [s.pw];exact h.2⟩
  have kd:∀ y∈ys,y≠0∧Φ 0 y≠none∧y≠x∧y≠q:=fun y my=>by
   obtain⟨y0,_,ny,f1,f2⟩:=W1.down _ _ ht y (pm.mem_iff.mp my)
   refine⟨y0,by rw [f1];nofun,fun e=>W1.notSelf ht (e ▸ pm.mem_iff.mp my),fun e=>?_⟩
   have n1:=noUp W1 ht eq1 x0
   exact n1.1 (e ▸ .kid ht (pm.mem_iff.mp my))
  refine loop33 (m+2) (q:=q) (wx:=nu.w) (by lia) (by lia) nd hy px (fun w=>(kd x w).2.2.1 rfl) (fun w=>(kd q w).2.2.2 rfl) hq2 (fun y my=>(kd y my).1) rfl rfl rfl e1 X2 fun L3 h3 n3 l106 l110 l112 X3=>go_next ?_
  have e3:setT (setT Φ 0 (takeOut (Φ 0) q x)) 1 (goes (Φ 1) x q ys) 1=goes (Φ 1) x q ys:=setT_same ..
  have W3:=X3.wt (t:=1) (by decide)
  rw [e3] at W3
  have gx:goes (Φ 1) x q ys x≠none:=by rw [ne_eq,goes_none];exact hU
  obtain⟨ng,hg⟩:=nNone gx
  have pg:=PW_goes (p:=x) ys hq2 fun y my=>⟨fun w=>(kd y my).2.1 ((s y).none'.mpr w),(kd y my).2.2.2⟩
  have xy:x ∉ ys:=fun w=>(kd x w).2.2.1 rfl
  have gp:PW (goes (Φ 1) x q ys) x=some (some q,nu.w):=by rw [pg,if_neg xy];exact px
  have k0:ng.kids=[]:=List.eq_nil_iff_forall_not_mem.mpr fun z hz=>by
   obtain⟨_,_,nz,f1,f2⟩:=W3.down _ _ hg z hz
   have pz:=PW_at f1
   rw [f2,pg] at pz
   by_cases mz:z∈ys
   ·rw [if_pos mz] at pz
    obtain⟨r,_,e⟩:=Option.map_eq_some_iff.mp pz
    exact nq.2 (Option.some.inj (Prod.mk.inj e).1)
   ·rw [if_neg mz] at pz
    exact mz ((hy z).mpr ⟨_,pz⟩)
  have pq:parOf (goes (Φ 1) x q ys) x=q:=by
   have:=PW_at hg
   rw [gp] at this
   exact parOf_eq hg (Prod.mk.inj (Option.some.inj this)).1.symm
  refine xs_cons (x_expr (e_mcall (e_lv l112 ⟨_,X3.meth (by decide) rfl fun _ _ _ _=>rfl,es_cons (e_lv l110 (es_nil (ks_nil ?_)))⟩)))
  refine c_fn rfl rfl (X3.take (m+5) (by decide) (by lia) x0 (by rw [e3];exact gx) fun h4 n4 X4=>⟨trivial,go_next ?_⟩)
  rw [e3,setT_setT,pq] at X4
  refine xs_cons (x_exprL (X4.pop l106 l110 gp fun v h5 _ X5=>go_next (xs_nil ?_)))
  refine fin (L':=L3) ⟨rfl,rfl,setT (setT Φ 0 (takeOut (Φ 0) q x)) 1 (takeOut (goes (Φ 1) x q ys) q x),?_,⟨σ,?_⟩,?_,?_⟩
  ·rw [setT_same,PW_out hg k0]
   refine X5.sub fun l' o e=>?_
   rw [upd_ne]
   ·exact e
   ·rintro rfl;rw [nl] at e;exact nsE e
  ·obtain⟨nq',hnq⟩:=nNone hq
   have n1:=noUp W1 ht eq1 x0
   obtain⟨v,nv,f1,f2,f3⟩:=W1.up _ _ ht x0 id
   rw [eq1] at f1;obtain rfl:=Option.some.inj f1
   rw [setT_same,setT_ne _ _ (by decide),setT_same]
   exact s.out f2 ht n1.2 f3 (fun y my=>(kd y (pm.mem_iff.mpr my)).2) (W1.nodup _ _ ht) pm
  ·rw [setT_ne _ _ (by decide),setT_same];exact S.s0.out
  ·rw [setT_same];exact Srt.out (S.s1.goes _)
 ·refine xs_cons (x_ife (e_cmp (e_bin (e_lv rfl (e_ci (o_mod (by decide) (e_ci (k_eq (t_bool (it_s (fun _=>?_) fun _=>?_))))))))))
  ·exact Wp.mono (acts false rfl) (fun f L' h' n' k' w=>by obtain⟨rfl,rfl,w⟩:=w;exact go_next (xs_nil (fin ⟨rfl,rfl,w⟩))) fun _ _ _ _ _ _ w=>w.elim
  ·exact Wp.mono (acts true rfl) (fun f L' h' n' k' w=>by obtain⟨rfl,rfl,w⟩:=w;exact go_next (xs_nil (fin ⟨rfl,rfl,w⟩))) fun _ _ _ _ _ _ w=>w.elim
end
end
section
open PySem PySem.W PyProof.Rows
structure Loc (a:Nat→Nat) (rd:Nat) (nn:Int) (fr:Bool) (x:Int) (pv:AV) (ab:Int) (al:Bool) (w:Int) (L:Lo):Prop where
 l0:get? L 0=some (.loc (a 0))
 l112:get? L 112=some (.loc (a 1))
 l106:get? L 106=some (.loc rd)
 l113:get? L 113=some (.int nn)
 l115:get? L 115=some (.bool fr)
 l110:get? L 110=some (.int x)
 l107:get? L 107=some pv
 l116:get? L 116=some (.int ab)
 l117:get? L 117=some (.bool al)
 l22:get? L 22=some (.int w)
section
variable {C:Nat→List AV→St→R AV}{E:Est}{k n N rd t i:Nat}{h:Hp}{L:Lo}{M:Nat}{a d:Nat→Nat}{F0:Hp}{Φ:Fo}{ρ:Rho}{x y p q w nn ab wx:Int}{T U:Tr}{fr al b:Bool}{pv:AV}{Q:Pst Fl}
theorem Loc.put (H:Loc a rd nn fr x pv ab al w L){i:Nat}(v:AV)(z:([0,112,106,113,115,110,107,116,117,22].contains i)=false):Loc a rd nn fr x pv ab al w (put L i v):=by
 have g:∀ {j u},get? L j=some u→([0,112,106,113,115,110,107,116,117,22].contains j)=true→get? (Mine.put L i v) j=some u:=fun e c=>(get_put_ne _ _ fun q=>by rw [q,z] at c;exact ftE c).trans e
 exact⟨g H.l0 rfl,g H.l112 rfl,g H.l106 rfl,g H.l113 rfl,g H.l115 rfl,g H.l110 rfl,g H.l107 rfl,g H.l116 rfl,g H.l117 rfl,g H.l22 rfl⟩
theorem loop14 (m:Nat){l:Nat}{ys:List Int}(hM:M < 90)(hl:ys.length≤900)(nd:ys.Nodup)(hy:∀ y,y∈ys ↔ ∃ w,PW U y=some (some ab,w))(hx:PW U x=some (some ab,wx))(y0:∀ y∈ys,y≠0)
  (H:Loc a rd nn fr x pv ab al w L) (hU:Φ 1=U)
  (X:WR M N a d rd Φ (PW U) (upd F0 l (.list (ys.map .int))) h n)
  (hQ:∀ L h n,Loc a rd nn fr x pv ab al w L→WR M N a d rd (setT Φ 1 (goes U ab x (ys.filter fun y=>decide (y≠x)))) (PW (goes U ab x (ys.filter fun y=>decide (y≠x)))) (upd F0 l (.list (ys.map .int))) h n→Q .next L h n 0) :
  Wp (forN (.list l) (fun x s=>asgT sg (callF sg (m+9)) (.nm 109 ⟨287,12,287,13⟩) x s) (fun s=>execs sg (callF sg (m+9)) (match b32s14 with | .ife _ (.cons (.for _ _ b _) _) _ _=>b | _=>.nil) s) 100000 0 ⟨L,h,n,0⟩) Q E:=by
 have ux:U x≠none:=PW_some (by rw [hx];nofun)
 refine forN_wp (xs:=ys.map AV.int) (fun j L h n k=>k=0∧Loc a rd nn fr x pv ab al w L∧WR M N a d rd (setT Φ 1 (goes U ab x ((ys.take j).filter fun y=>decide (y≠x)))) (PW (goes U ab x ((ys.take j).filter fun y=>decide (y≠x)))) (upd F0 l (.list (ys.map .int))) h n∧∀ z,(z=x∨z ∉ ys.take j)→PW (goes U ab x ((ys.take j).filter fun y=>decide (y≠x))) z=PW U z)
  (fun j L h n k w=>⟨at_list (w.2.2.1.get (upd_same ..)),by rw [w.1];exact Nat.zero_le _⟩) (fun j v L h n k hj w=>?_) (fun L h n k w=>?_) 100000 0 (by rw [List.length_map];lia) (Nat.zero_le _) ⟨rfl,H,by rw [List.take_zero];show WR M N a d rd (setT Φ 1 U) (PW U) _ h n;rw [← hU,setT_self,hU];exact X,fun z _=>by rw [List.take_zero];rfl⟩
 ·obtain⟨rfl,H,X,hz⟩:=w
  obtain⟨y,hyj,rfl⟩:∃ y,ys[j]?=some y∧v=.int y:=by
   rw [List.getElem?_map] at hj
   obtain⟨y,e1,e2⟩:=Option.map_eq_some_iff.mp hj
   exact⟨y,e1,e2.symm⟩
  have my:y∈ys:=List.mem_of_getElem? hyj
  have nt:y ∉ ys.take j:=fun w=>by
   have:=nd
   rw [← List.take_append_drop j ys,List.nodup_append] at this
   exact this.2.2 y w y (List.mem_of_getElem? (i:=0) (by rw [List.getElem?_drop];exact hyj)) rfl
  refine t_nm ?_
  have k109:get? (put L 109 (.int y)) 109=some (.int y):=get_put ..
  have K:=H.put (i:=109) (.int y) rfl
  generalize put L 109 (.int y)=L at K k109 ⊢
  delta b32s14
  dsimp only
  refine xs_cons (x_ife (e_cmp (e_lv k109 (e_lv K.l110 (k_ne (t_bool ?_))))))
  by_cases yx:y=x
  ·refine it_f (by rw [decide_eq_true yx];rfl) (xs_nil (go_next (xs_nil ?_)))
   have e:(ys.take (j+1)).filter (fun y=>decide (y≠x))=(ys.take j).filter fun y=>decide (y≠x):=by
    rw [take_succ' hyj,List.filter_append,List.filter_cons_of_neg (by rw [yx];simp),List.filter_nil,List.append_nil]
   refine⟨rfl,K,by rw [e];exact X,fun z hz'=>?_⟩
   rw [e]
   refine hz z (hz'.imp_right fun h w=>h ?_)
   rw [take_succ' hyj]
   exact List.mem_append_left _ w
  ·refine it_t (by rw [decide_eq_false yx];rfl) ?_
   have e:(ys.take (j+1)).filter (fun y=>decide (y≠x))=((ys.take j).filter fun y=>decide (y≠x))++[y]:=by
    rw [take_succ' hyj,List.filter_append,List.filter_cons_of_pos (by exact decide_eq_true yx),List.filter_nil]
   rw [e,goes_snoc]
   obtain⟨wy,ey⟩:=(hy y).mp my
   have ey:=(hz y (.inr nt)).trans ey
   have exx:=(hz x (.inl rfl)).trans hx
   generalize (ys.take j).filter (fun y=>decide (y≠x))=zs at X hz ey exx ⊢
   refine xs_cons (x_expr (e_mcall (e_lv K.l112 ⟨_,X.meth (by decide) rfl fun _ _ _ _=>rfl,es_cons (e_lv k109 (es_cons (e_lv K.l110 (es_cons (X.e1 K.l106 k109 ey (es_nil (ks_nil ?_)))))))⟩)))
   have tU:setT Φ 1 (goes U ab x zs) 1=goes U ab x zs:=setT_same ..
   refine c_fn rfl rfl (X.go (q:=ab) (w:=wy) m hM (y0 y my) (by rw [tU,ne_eq,goes_none];exact ux) (fun e=>yx e.symm) (by rw [tU];exact ey) ?_ fun h' n' X'=>⟨trivial,?_⟩)
   ·have W:=X.wt (t:=1) (by decide)
    rw [tU] at W ⊢
    exact noSB_go W ey (fun e=>yx e.symm) (.inl exx)
   rw [tU,setT_setT] at X'
   have eP:PW (addChild (cutChild (goes U ab x zs) ab y) x y)=setR (PW (goes U ab x zs)) y (some x,wy):=PW_go (by rw [ne_eq,goes_none];exact ux) ey yx
   refine go_next (xs_cons (X'.s0 (o:=some x) K.l106 k109 ey (fun q=>e_lv K.l110 q) fun h2 X2=>go_next (xs_nil (go_next (xs_nil ?_)))))
   refine⟨rfl,K,by rw [eP];exact X2,fun z hz'=>?_⟩
   rw [eP]
   unfold setR
   by_cases zy:z=y
   ·rcases hz' with w | w
    ·exact absurd (zy.symm.trans w) yx
    ·rw [take_succ' hyj] at w
     exact absurd (List.mem_append_right _ (by rw [zy];exact .head _)) w
   ·rw [if_neg zy]
    refine hz z (hz'.imp_right fun h w=>h ?_)
    rw [take_succ' hyj]
    exact List.mem_append_left _ w
 ·obtain⟨rfl,H,X,hz⟩:=w
  rw [List.length_map,List.take_length] at X
  exact hQ _ _ _ H X
theorem s10 (m:Nat)(hM:M < 200)(hN:N≤900)(p0:ab≠0∨Φ 1 ab≠none)(H:Loc a rd nn fr x pv ab al w L)(X:WR M N a d rd Φ (PW (Φ 1)) F0 h n)
  (hQ:∀ h n,WR (M+1) (N+1) a d rd (setT Φ 1 (ens (Φ 1) ab)) (PW (ens (Φ 1) ab)) F0 h n→Q .next L h n 0):Wp (exec sg (callF sg (m+9)) b32s10 ⟨L,h,n,0⟩) Q E:=by
 delta b32s10
 refine x_ife (X.notin H.l106 H.l116 (t_bool (it_s (fun z=>?_) fun z=>?_)))
 ·have hp:Φ 1 ab=none:=by
   cases e:Φ 1 ab with
   | none=>rfl
   | some nd=>rw [PW_at e] at z;exact ftE z
  have p0:ab≠0:=p0.resolve_right fun e=>e hp
  obtain⟨r,r1,_⟩:=(X.wt (t:=1) (by decide)).root
  have r0:Φ 1 0≠none:=by rw [r1];nofun
  refine xs_cons (x_expr (e_mcall (e_lv H.l112 ⟨_,X.meth (by decide) rfl fun _ _ _ _=>rfl,es_cons (e_lv H.l116 (es_nil (ks_nil ?_)))⟩)))
  refine c_fn rfl rfl (X.put7 m (p:=0) (Nat.le_refl _) (fun e=>(r0 e).elim) (by decide) (by lia) p0 (fun e=>p0 e.symm) (.inr ⟨rfl,rfl⟩) hp (by decide) fun h1 n1 X1=>⟨trivial,go_next ?_⟩)
  rw [ens_eq r0] at X1
  have e2:setT Φ 1 (putIn (Φ 1) 0 ab 16 false) 1 ab≠none:=by
   rw [setT_same,ne_eq,putIn_none,setN_same];nofun
  obtain⟨np,hnp⟩:=nNone e2
  refine xs_cons (x_expr (e_mcall (e_lv H.l112 ⟨_,X1.meth (by decide) rfl fun _ _ _ _=>rfl,es_cons (e_lv H.l116 (es_nil (ks_nil ?_)))⟩)))
  refine c_fn rfl rfl (X1.act (m+8) false (by decide) p0 hnp fun h2 X2=>⟨trivial,go_next ?_⟩)
  rw [setT_setT] at X2
  have eb:setN (setT Φ 1 (putIn (Φ 1) 0 ab 16 false) 1) ab { np with act:=false }=ens (Φ 1) ab:=by
   rw [setT_same] at hnp ⊢
   unfold ens blk
   rw [if_pos hp,hnp]
  rw [eb] at X2
  refine xs_cons (X2.sN hN H.l106 H.l116 (o:=some 0) (w:=16) (vs_cons v_ci (vs_cons v_ci vs_nil)) fun h3 X3=>go_next (xs_nil (hQ _ _ ?_)))
  rw [PW_ens hp r0 p0]
  exact X3
 ·have hp:Φ 1 ab≠none:=PW_some fun e=>by rw [e] at z;exact tfE z
  refine xs_nil (hQ _ _ ?_)
  rw [ens_eq hp,setT_self]
  exact X.more (Nat.le_succ _) (Nat.le_succ _)
theorem s11 (m:Nat)(hM:M < 90){inw:Bool}(x0:inw=true→ab≠0)(H:Loc a rd nn fr x pv ab al w L)(l118:get? L 118=some (.bool inw))(X:WR M N a d rd Φ (PW (Φ 1)) F0 h n)(xa:x≠ab)
  (hi:inw=true→∃ pp q wa wx,PW (Φ 1) ab=some (some pp,wa)∧PW (Φ 1) x=some (some q,wx)∧Φ 1 q≠none∧q≠ab∧¬ SB (Φ 1) ab q)
  (hQ:∀ h n U,(inw=false→U=Φ 1)→(inw=true→∀ pp q wa wx,PW (Φ 1) ab=some (some pp,wa)→PW (Φ 1) x=some (some q,wx)→U=addChild (cutChild (Φ 1) pp ab) q ab)→WR M N a d rd (setT Φ 1 U) (PW U) F0 h n→Q .next L h n 0):Wp (exec sg (callF sg (m+9)) b32s11 ⟨L,h,n,0⟩) Q E:=by
 delta b32s11
 refine x_ife (e_lv l118 (t_bool ?_))
 cases inw with
 | false=>exact it_f rfl (xs_nil (hQ _ _ (Φ 1) (fun _=>rfl) (fun e=>ftE e) (by rw [setT_self];exact X)))
 | true=>
  refine it_t rfl ?_
  obtain⟨pp,q,wa,wx,e1,e2,e3,e4,e5⟩:=hi rfl
  refine xs_cons (x_expr (e_mcall (e_lv H.l112 ⟨_,X.meth (by decide) rfl fun _ _ _ _=>rfl,es_cons (e_lv H.l116 (es_cons (X.e0 H.l106 H.l110 e2 (es_cons (X.e1 H.l106 H.l116 e1 (es_nil (ks_nil ?_)))))))⟩)))
  refine c_fn rfl rfl (X.go (q:=pp) (w:=wa) m hM (x0 rfl) e3 e4 e1 e5 fun h' n' X'=>⟨trivial,?_⟩)
  refine go_next (xs_cons (X'.s0 (o:=some q) H.l106 H.l116 e1 (X'.e0 H.l106 H.l110 e2) fun h2 X2=>go_next (xs_nil (hQ _ _ (addChild (cutChild (Φ 1) pp ab) q ab) (fun e=>tfE e) (fun _ pp' q' wa' wx' f1 f2=>?_) (by rw [PW_go e3 e1 e4.symm];exact X2)))))
  ·rw [e1] at f1;rw [e2] at f2
   rw [Option.some.inj (Prod.mk.inj (Option.some.inj f1)).1,Option.some.inj (Prod.mk.inj (Option.some.inj f2)).1]
end
end
section
open PySem PySem.W PyProof.Rows
section
variable {C:Nat→List AV→St→R AV}{E:Est}{k n N rd t i:Nat}{h:Hp}{L:Lo}{M:Nat}{a d:Nat→Nat}{F0:Hp}{Φ:Fo}{ρ:Rho}{x y p q w nn ab wx:Int}{T U:Tr}{fr al b inw:Bool}{pv:AV}{Q:Pst Fl}
theorem s7 (m:Nat)(hM:M≤900)(xa:x≠ab)(H:Loc a rd nn fr x pv ab al w L)(X:WR M N a d rd Φ (PW (Φ 1)) F0 h n)
  (hQ:∀ inw,(inw=true ↔ fr=false∧SB (Φ 1) x ab)→Q .next (put L 118 (.bool inw)) h n 0):Wp (exec sg (callF sg (m+1)) b32s7 ⟨L,h,n,0⟩) Q E:=by
 delta b32s7
 refine x_asg (e_band (b_cons (e_not (e_lv H.l115 (t_bool (t_bool ?_))))))
 cases fr with
 | true=>exact hQ false ⟨fun e=>ftE e,fun e=>tfE e.1⟩
 | false=>
  refine it_t rfl ?_
  refine b_cons (X.isin H.l106 H.l116 (t_bool ?_))
  cases e:Φ 1 ab with
  | none=>
   have e1:PW (Φ 1) ab=none:=by unfold PW;rw [e];rfl
   rw [e1]
   refine hQ false ⟨fun e=>ftE e,fun s=>?_⟩
   have W:=X.wt (t:=1) (by decide)
   cases s.2 with
   | kid a b=>exact (W.kid a b e).elim
   | more s a b=>exact (W.kid a b e).elim
  | some nd=>
   rw [PW_at e]
   show if true=true then _ else _
   rw [if_pos rfl]
   refine b_one (e_call rfl (es_cons (e_lv H.l106 (es_cons (e_lv H.l116 (es_cons (e_lv H.l110 (es_nil (ks_nil ?_)))))))))
   refine c_fn rfl rfl (X.below m hM (by rw [e];nofun) fun b hb=>hQ b (hb.trans ⟨fun s=>⟨rfl,s.resolve_left fun z=>xa z.symm⟩,fun s=>.inr s.2⟩))
theorem s8 (m:Nat)(hN:N≤900)(H:Loc a rd nn fr x pv ab al w L)(l118:get? L 118=some (.bool inw))(X:WR M N a d rd Φ ρ F0 h n)
  (hR:∀ h n,WR M N a d rd Φ ρ F0 h n→Q (.ret .none) L h n 0) (hQ:∀ h n,WR M N a d rd Φ ρ F0 h n→(inw=true→∀ y w,ρ y≠some (some ab,w))→Q .next L h n 0):Wp (exec sg (callF sg (m+1)) b32s8 ⟨L,h,n,0⟩) Q E:=by
 delta b32s8
 refine x_ife (e_band (b_cons (e_lv l118 (t_bool ?_))))
 cases inw with
 | false=>exact it_f rfl (t_bool (it_f rfl (xs_nil (hQ _ _ X fun e=>ftE e))))
 | true=>
  refine it_t rfl ?_
  refine b_one (e_cmp (e_call rfl (es_cons (e_lv H.l106 (es_cons (e_lv H.l116 (es_nil (ks_nil ?_))))))))
  refine c_fn rfl rfl (X.kids m hN fun ys l h' n' nd hy hl nl X'=>?_)
  have X2:=X'.junk (.list [])
  have back:WR M N a d rd Φ ρ F0 (upd h' n' (.list [])) (n'+1):=X2.sub fun l' o e=>by
   rw [upd_ne]
   ·exact e
   ·rintro rfl;rw [nl] at e;exact nsE e
  refine e_lst (es_nil ⟨by decide,k_ne0 (X2.get (upd_same ..)) (upd_same ..) (t_bool ?_)⟩)
  cases ys with
  | nil=>exact it_f rfl (xs_nil (hQ _ _ back fun _ y w e=>nomatch (hy y).mpr ⟨w,e⟩))
  | cons y r=>exact it_t rfl (xs_cons (x_ret0 (go_ret (hR _ _ back))))
theorem s9 (m:Nat)(hM:M < 80)(x0:x≠0)(xa:x≠ab)(hw:1≤w∧w≤256)(hpv:pv=.int ab∨(pv=.none∧ab=0))(H:Loc a rd nn fr x pv ab al w L)(X:WR M N a d rd Φ ρ F0 h n)
  (h1:fr=true→Φ 0 x=none) (h2:fr=false→Φ 0 x≠none∧(inw=true ↔ SB (Φ 0) x ab)∧(inw=true→∀ np,Φ 0 ab=some np→np.kids=[]))
  (hQ:∀ h n,WR (M+2) N a d rd (setT Φ 0 (if fr=true then putIn (ens (Φ 0) ab) ab x w al else rpT (ens (Φ 0) ab) x ab w al inw)) ρ F0 h n→Q .next L h n 0):Wp (exec sg (callF sg (m+9)) b32s9 ⟨L,h,n,0⟩) Q E:=by
 delta b32s9
 refine x_ife (e_lv H.l115 (t_bool ?_))
 cases fr with
 | true=>
  refine it_t rfl (xs_cons (x_expr (e_mcall (e_lv H.l0 ⟨_,X.meth (by decide) rfl fun _ _ _ _=>rfl,es_cons (e_lv H.l110 (es_cons (e_lv H.l107 (es_cons (e_lv H.l22 (es_cons (e_lv H.l117 (es_nil (ks_nil ?_)))))))))⟩))))
  exact c_fn rfl rfl (X.put7 m (M':=M+1) (Nat.le_succ _) (fun _=>Nat.le_refl _) (by decide) (by lia) x0 (fun e=>xa e.symm) hpv (h1 rfl) hw fun h' n' X'=>⟨trivial,go_next (xs_nil (hQ _ _ X'))⟩)
 | false=>
  refine it_f rfl (xs_cons (x_expr (e_mcall (e_lv H.l0 ⟨_,X.meth (by decide) rfl fun _ _ _ _=>rfl,es_cons (e_lv H.l110 (es_cons (e_lv H.l107 (es_cons (e_lv H.l22 (es_cons (e_lv H.l117 (es_nil (ks_nil ?_)))))))))⟩))))
  obtain⟨g1,g2,g3⟩:=h2 rfl
  exact c_fn rfl rfl (X.move7 m (M':=M+1) (Nat.le_succ _) (fun _=>Nat.le_refl _) (by decide) (by lia) x0 (fun e=>xa e.symm) hpv g1 hw g2 g3 fun h' n' X'=>⟨trivial,go_next (xs_nil (hQ _ _ (X'.more (Nat.le_succ _) (Nat.le_refl _))))⟩)
noncomputable def baseU (fr:Bool) (U:Tr) (x w:Int):Tr:=if fr=true then setN U x (nd0 w) else cutChild (wt U x w) (parOf U x) x
theorem s12 (m:Nat)(hM:M < 85)(hN:N≤900)(x0:x≠0)(xa:x≠ab)(hw:1≤w∧w≤256){r:Ss}(H:Loc a rd nn fr x pv ab al w L)(X:WR M N a d rd Φ (PW (Φ 1)) F0 h n)(hab:Φ 1 ab≠none)
  (h1:fr=true→Φ 1 x=none) (h2:fr=false→Φ 1 x≠none∧¬ SB (Φ 1) x ab)
  (hQ:∀ h n,WR (M+1) (N+1) a d rd (setT Φ 1 (addChild (baseU fr (Φ 1) x w) ab x)) (PW (addChild (baseU fr (Φ 1) x w) ab x)) F0 h n→Wp (execs sg (callF sg (m+9)) r ⟨L,h,n,0⟩) Q E):Wp (execs sg (callF sg (m+9)) (.cons b32s12 (.cons b32s13 r)) ⟨L,h,n,0⟩) Q E:=by
 have fin:∀ {h n nx},WR (M+1) N a d rd (setT Φ 1 (addChild (baseU fr (Φ 1) x w) ab x)) (PW (Φ 1)) F0 h n→baseU fr (Φ 1) x w x=some nx→nx.w=w→(∀ r,setR (PW (baseU fr (Φ 1) x w)) x r=setR (PW (Φ 1)) x r)→baseU fr (Φ 1) x w ab≠none→Wp (execs sg (callF sg (m+9)) (.cons b32s13 r) ⟨L,h,n,0⟩) Q E:=fun X hx ew eR ha=>by
  delta b32s13
  refine xs_cons (X.sN hN H.l106 H.l110 (o:=some ab) (w:=w) (vs_cons (v_lv H.l116) (vs_cons (v_lv H.l22) vs_nil)) fun h' X'=>go_next (hQ _ _ ?_))
  rw [PW_add ha hx xa,eR,ew]
  exact X'
 delta b32s12
 refine xs_cons (x_ife (e_lv H.l115 (t_bool ?_)))
 cases fr with
 | true=>
  refine it_t rfl (xs_cons (x_expr (e_mcall (e_lv H.l112 ⟨_,X.meth (by decide) rfl fun _ _ _ _=>rfl,es_cons (e_lv H.l110 (es_cons (e_lv H.l116 (es_cons (e_lv H.l22 (es_nil (ks_nil ?_)))))))⟩))))
  refine c_fn rfl rfl (X.put7 m (Nat.le_refl _) (fun e=>(hab e).elim) (by decide) (by lia) x0 (fun e=>xa e.symm) (.inl rfl) (h1 rfl) hw fun h' n' X'=>⟨trivial,go_next (xs_nil (go_next ?_))⟩)
  rw [ens_eq hab] at X'
  exact fin X' (setN_same ..) rfl (fun r=>by show setR (PW (setN (Φ 1) x (nd0 w))) x r=_;rw [PW_set,setR_setR]) (setN_dom hab)
 | false=>
  refine it_f rfl (xs_cons (x_expr (e_mcall (e_lv H.l112 ⟨_,X.meth (by decide) rfl fun _ _ _ _=>rfl,es_cons (e_lv H.l110 (es_cons (e_lv H.l116 (es_cons (e_lv H.l22 (es_nil (ks_nil ?_)))))))⟩))))
  obtain⟨g1,g2⟩:=h2 rfl
  obtain⟨nx,hx⟩:=nNone g1
  refine c_fn rfl rfl (X.move7 m (b:=false) (Nat.le_refl _) (fun e=>(hab e).elim) (by decide) (by lia) x0 (fun e=>xa e.symm) (.inl rfl) g1 hw ⟨fun e=>ftE e,fun s=>(g2 s).elim⟩ (fun e=>ftE e) fun h' n' X'=>⟨trivial,go_next (xs_nil (go_next ?_))⟩)
  rw [ens_eq hab] at X'
  have hb:baseU false (Φ 1) x w x≠none:=fun e=>g1 (wt_none.mp (cut_none.mp e))
  obtain⟨nb,hb⟩:=nNone hb
  have eP:PW (baseU false (Φ 1) x w)=setR (PW (Φ 1)) x (nx.par,w):=by
   show PW (cutChild (wt (Φ 1) x w) (parOf (Φ 1) x) x)=_
   rw [PW_cut,PW_wt hx]
  have ew:nb.w=w:=by
   have:=PW_at hb
   rw [eP] at this
   unfold setR at this
   rw [if_pos rfl] at this
   exact (Prod.mk.inj (Option.some.inj this)).2.symm
  exact fin (X'.more (Nat.le_succ _) (Nat.le_refl _)) hb ew (fun r=>by rw [eP,setR_setR]) fun e=>hab (wt_none.mp (cut_none.mp e))
end
end
section
open PySem PySem.W PyProof.Rows
section
variable {σ:Int→Int}{M:Nat}{T U:Tr}{nd np nx:Nd}{i p q x ab w:Int}{fr al inw:Bool}{ys:List Int}
theorem Sim.SB (S:Sim σ T U):SB T p i ↔ SB U p i:=by
 constructor
 ·intro s
  induction s with
  | kid a b=>obtain⟨nb,e,n⟩:=S.get a;exact .kid e (n.kids.mem_iff.mpr b)
  | more _ a b ih=>obtain⟨nb,e,n⟩:=S.get a;exact .more ih e (n.kids.mem_iff.mpr b)
 ·intro s
  induction s with
  | kid a b=>obtain⟨nb,e,n⟩:=(S _).back a;exact .kid e (n.kids.mem_iff.mp b)
  | more _ a b ih=>obtain⟨nb,e,n⟩:=(S _).back a;exact .more ih e (n.kids.mem_iff.mp b)
theorem Sim.parOf (S:Sim σ T U):parOf U x=parOf T x:=by
 unfold Mine.parOf
 have h:=S x
 revert h
 generalize T x=a,U x=b
 intro h
 cases h with
 | no=>rfl
 | so n=>show _=_;dsimp only;rw [n.par]
noncomputable def baseT (fr inw:Bool) (T:Tr) (x ab w:Int):Tr:=if fr=true then setN T x (nd0 w) else cutChild (cyc inw (wt T x w) (parOf T ab) (parOf T x) ab) (parOf T x) x
theorem baseT_eq:(if fr=true then putIn T ab x w al else rpT T x ab w al inw)=hangX (baseT fr inw T x ab w) ab x al:=by
 unfold baseT
 cases fr <;> rfl
noncomputable def midU (inw:Bool) (U:Tr) (x ab:Int):Tr:=if inw=true then addChild (cutChild U (parOf U ab) ab) (parOf U x) ab else U
theorem Sim.base (S:Sim σ T U)(xa:x≠ab)(hf:inw=true→fr=false∧∃ nx q,U x=some nx∧nx.par=some q∧q≠x):∃ σ',Sim σ' (baseT fr inw T x ab w) (baseU fr (midU inw U x ab) x w):=by
 unfold baseT baseU midU
 cases fr with
 | true=>
  obtain rfl:inw=false:=Bool.eq_false_iff.mpr fun e=>tfE (hf e).1
  exact⟨_,S.new⟩
 | false=>
  refine⟨σ,?_⟩
  cases inw with
  | false=>
   show Sim σ (cutChild (Mine.wt T x w) (Mine.parOf T x) x) (cutChild (Mine.wt U x w) (Mine.parOf U x) x)
   rw [S.parOf]
   exact S.wt.cut
  | true=>
   obtain⟨_,nx,q,hx,hq,qx⟩:=hf rfl
   have e:Mine.parOf U x=q:=parOf_eq hx hq
   show Sim σ (cutChild (addChild (cutChild (Mine.wt T x w) (Mine.parOf T ab) ab) (Mine.parOf T x) ab) (Mine.parOf T x) x) (cutChild (Mine.wt (addChild (cutChild U (Mine.parOf U ab) ab) (Mine.parOf U x) ab) x w) (Mine.parOf (addChild (cutChild U (Mine.parOf U ab) ab) (Mine.parOf U x) ab) x) x)
   have e2:Mine.parOf (addChild (cutChild U (Mine.parOf U ab) ab) (Mine.parOf U x) ab) x=q:=by
    obtain⟨nx',f1,f2⟩:=cut_par (p:=Mine.parOf U ab) (c:=ab) hx
    exact parOf_eq ((add_o (by rw [e];exact qx.symm) xa).trans f1) (f2.trans hq)
   rw [e2,wt_add,wt_cut,← S.parOf (x:=x),← S.parOf (x:=ab),e]
   exact S.wt.cut.add.cut
theorem WD_base (W:WT M U)(x0:x≠0)(hw:1≤w∧w≤256)(h1:fr=true→U x=none)(h2:fr=false→U x≠none):WD (M+1) (baseU fr U x w) fun i=>i=x:=by
 unfold baseU
 cases fr with
 | true=>exact W.new (h1 rfl) x0 hw
 | false=>
  obtain⟨nx,hx⟩:=nNone (h2 rfl)
  obtain⟨e1,e2⟩:=par_of W hx x0
  obtain⟨nq,hq⟩:=nNone (fun e=>e2 (wt_none.mp e):wt U x w (parOf U x)≠none)
  exact ((WT_wt W hx x0 hw).cut hq (nx:={ nx with w:=w }) (by rw [wt_eq hx];exact setN_same ..) e1 x0).more (Nat.le_succ _)
end
section
variable {C:Nat→List AV→St→R AV}{E:Est}{k n N rd t i:Nat}{h:Hp}{L:Lo}{M:Nat}{a d:Nat→Nat}{F0:Hp}{Φ:Fo}{ρ:Rho}{x y p q w nn ab wx:Int}{T U:Tr}{fr al b inw:Bool}{pv:AV}
section
variable {Q:Pst Fl}
theorem s14 (m:Nat)(hM:M < 90)(hN:N≤900)(H:Loc a rd nn fr x pv ab al w L)(X:WR M N a d rd Φ (PW (Φ 1)) F0 h n)(hx:PW (Φ 1) x=some (some ab,wx))
  (hQ:∀ L' h n ys,Loc a rd nn fr x pv ab al w L'→(al=true→ys.Nodup∧∀ y,y∈ys ↔ y≠x∧∃ w,PW (Φ 1) y=some (some ab,w))→WR M N a d rd (setT Φ 1 (if al=true then goes (Φ 1) ab x ys else Φ 1)) (PW (if al=true then goes (Φ 1) ab x ys else Φ 1)) F0 h n→Q .next L' h n 0):Wp (exec sg (callF sg (m+9)) b32s14 ⟨L,h,n,0⟩) Q E:=by
 delta b32s14
 refine x_ife (e_lv H.l117 (t_bool ?_))
 cases al with
 | false=>exact it_f rfl (xs_nil (hQ _ _ _ [] H (fun e=>ftE e) (by show WR M N a d rd (setT Φ 1 (Φ 1)) (PW (Φ 1)) F0 h n;rw [setT_self];exact X)))
 | true=>
  refine it_t rfl (xs_cons (x_for (e_call rfl (es_cons (e_lv H.l106 (es_cons (e_lv H.l116 (es_nil (ks_nil ?_)))))))))
  refine c_fn rfl rfl (X.kids (m+8) hN fun ys l h' n' nd hy hl nl X'=>⟨_,it_list (X'.get (upd_same ..)),?_⟩)
  have W:=X.wt (t:=1) (by decide)
  refine loop14 m hM (by lia) nd hy hx (fun y my e=>?_) H rfl X' fun L2 h2 n2 H2 X2=>go_next (xs_nil (hQ _ _ _ (ys.filter fun y=>decide (y≠x)) H2 (fun _=>⟨nd.filter _,fun y=>?_⟩) (X2.sub fun l' o e=>?_)))
  ·obtain⟨w',e1⟩:=(hy y).mp my
   obtain⟨r,r1,_,r3⟩:=W.root
   rw [e,PW_at r1,r3] at e1
   exact nsE (Prod.mk.inj (Option.some.inj e1)).1
  ·rw [List.mem_filter,hy,decide_eq_true_iff]
   exact⟨fun h=>⟨h.2,h.1⟩,fun h=>⟨h.2,h.1⟩⟩
  ·rw [upd_ne]
   ·exact e
   ·rintro rfl;rw [nl] at e;exact nsE e
theorem s15 (m:Nat)(S:LS M a d rd Φ F0 h n)(x0:x≠0)(hx:Φ 1 x≠none)(H:Loc a rd nn fr x pv ab al w L)(hQ:∀ Φ' h n,LS M a d rd Φ' F0 h n→Q .next L h n 0):Wp (exec sg (callF sg (m+1)) b32s15 ⟨L,h,n,0⟩) Q E:=by
 delta b32s15
 refine x_ife (e_band (b_cons (e_lv H.l115 (t_bool ?_))))
 cases fr with
 | false=>exact it_f rfl (t_bool (it_f rfl (xs_nil (hQ _ _ _ S))))
 | true=>
  refine it_t rfl (b_one (e_cmp (e_bin (e_bin (e_lv H.l113 (e_ci (o_add (e_ci (o_mod (by decide) (e_ci ?_))))))))))
  refine k_lt (t_bool (it_s (fun _=>?_) fun _=>xs_nil (hQ _ _ _ S)))
  obtain⟨nu,hu⟩:=nNone hx
  obtain⟨σ,s⟩:=S.s
  obtain⟨nt,ht,_⟩:=(s x).back hu
  refine xs_cons (x_expr (e_mcall (e_lv H.l0 ⟨_,S.x.meth (by decide) rfl fun _ _ _ _=>rfl,es_cons (e_lv H.l110 (es_nil (ks_nil ?_)))⟩)))
  refine c_fn rfl rfl (S.x.act m false (by decide) x0 ht fun h1 X1=>⟨trivial,go_next ?_⟩)
  have e1:setT Φ 0 (setN (Φ 0) x { nt with act:=false }) 1 x=some nu:=by rw [setT_ne _ _ (by decide)];exact hu
  refine xs_cons (x_expr (e_mcall (e_lv H.l112 ⟨_,X1.meth (by decide) rfl fun _ _ _ _=>rfl,es_cons (e_lv H.l110 (es_nil (ks_nil ?_)))⟩)))
  exact c_fn rfl rfl (X1.act m false (by decide) x0 e1 fun h2 X2=>⟨trivial,go_next (xs_nil (hQ _ _ _ (S.act ht hu X2)))⟩)
end
end
end
section
open PySem PySem.W PyProof.Rows
theorem pars_at:∀ i:Nat,i < 9→∃ pv ab,parsL[i]?=some pv∧(pv=.int ab∧ab≠0∨pv=.none∧ab=0)
 | 0,_=>⟨_,0,rfl,.inr ⟨rfl,rfl⟩⟩
 | 1,_=>⟨_,3,rfl,.inl ⟨rfl,by decide⟩⟩
 | 2,_=>⟨_,5,rfl,.inl ⟨rfl,by decide⟩⟩
 | 3,_=>⟨_,7,rfl,.inl ⟨rfl,by decide⟩⟩
 | 4,_=>⟨_,9,rfl,.inl ⟨rfl,by decide⟩⟩
 | 5,_=>⟨_,11,rfl,.inl ⟨rfl,by decide⟩⟩
 | 6,_=>⟨_,13,rfl,.inl ⟨rfl,by decide⟩⟩
 | 7,_=>⟨_,15,rfl,.inl ⟨rfl,by decide⟩⟩
 | 8,_=>⟨_,17,rfl,.inl ⟨rfl,by decide⟩⟩
 | i+9,h=>absurd h (by lia)
theorem io_f {P P':Prop}(p:P'):if true=false then P else P':=by rw [if_neg (by decide)];exact p
theorem io_t {P P':Prop}(p:P):if false=false then P else P':=by rw [if_pos rfl];exact p
section
variable {C:Nat→List AV→St→R AV}{E:Est}{k n N rd t i:Nat}{h:Hp}{L:Lo}{M:Nat}{a d:Nat→Nat}{F0:Hp}{Φ:Fo}{ρ:Rho}{x y p q w nn ab wx:Int}{T U:Tr}{fr al b inw:Bool}{pv:AV}
theorem place (m:Nat){L':Lo}{Q:Pst AV}(S:LS M a d rd Φ F0 h n)(hM:M < 80)(x0:x≠0)(xa:x≠ab)(hw:1≤w∧w≤256)(hpv:(pv=.int ab∧ab≠0)∨(pv=.none∧ab=0))(hf:fr=true→Φ 1 x=none)(hf2:fr=false→Φ 1 x≠none)(H:Loc a rd nn fr x pv ab al w L)
  (hQ:∀ Φ' h' n',LS (M+4) a d rd Φ' F0 h' n'→Q .none L' h' n' 0):Wp (execs sg (callF sg (m+9)) (.cons b32s7 (.cons b32s8 (.cons b32s9 (.cons b32s10 (.cons b32s11 (.cons b32s12 (.cons b32s13 (.cons b32s14 (.cons b32s15 .nil))))))))) ⟨L,h,n,0⟩) (Back L' Q) E:=by
 obtain⟨X,⟨σ,s⟩,s0,s1⟩:=S
 have WU:=X.wt (t:=1) (by decide)
 have pv':pv=.int ab∨(pv=.none∧ab=0):=hpv.imp_left And.left
 obtain⟨r,r1,_⟩:=WU.root
 have p0:ab≠0∨Φ 1 ab≠none:=hpv.elim (fun h=>.inl h.2) fun h=>.inr (by rw [h.2,r1];nofun)
 refine xs_cons (s7 (m+8) (by lia) xa H X fun inw hi=>go_next ?_)
 have l118:get? (put L 118 (.bool inw)) 118=some (.bool inw):=get_put ..
 have H:=H.put (i:=118) (.bool inw) rfl
 generalize put L 118 (.bool inw)=L at H l118 ⊢
 refine xs_cons (s8 (m+8) (by lia) H l118 X (fun h1 n1 X1=>go_ret (bk_ret (hQ _ _ _ (LS.more ⟨X1,⟨σ,s⟩,s0,s1⟩ (by lia))))) fun h1 n1 X hk=>go_next ?_)
 have k0:inw=true→∀ np,Φ 1 ab=some np→np.kids=[]:=fun e np hnp=>List.eq_nil_iff_forall_not_mem.mpr fun z hz=>by
  obtain⟨_,_,nz,f1,f2⟩:=WU.down _ _ hnp z hz
  exact hk e z nz.w (by rw [PW_at f1,f2])
 have abU:inw=true→Φ 1 ab≠none:=fun e=>by
  cases (hi.mp e).2 with
  | kid a b=>exact WU.kid a b
  | more s a b=>exact WU.kid a b
 refine xs_cons (s9 m (inw:=inw) hM x0 xa hw pv' H X (fun e=>(s x).none'.mpr (hf e)) (fun e=>⟨fun z=>hf2 e ((s x).none z),hi.trans ⟨fun h=>s.SB.mpr h.2,fun h=>⟨e,s.SB.mp h⟩⟩,fun e' np hnp=>?_⟩) fun h2 n2 X=>go_next ?_)
 ·obtain⟨nb,e1,g⟩:=s.get hnp
  have:=k0 e' nb e1
  have gk:=g.kids
  rw [this] at gk
  exact List.nil_perm.mp gk
 rw [baseT_eq] at X
 obtain⟨σ1,se⟩:=s.ens (p:=ab)
 have sE0:=s0.ens (p:=ab)
 have sE1:=s1.ens (p:=ab)
 have WE:=WT_ens' (p:=ab) WU (by rw [r1];nofun) (by lia) (Nat.le_succ M) fun _=>Nat.le_refl _
 generalize hT1:ens (Φ 0) ab=T1 at X se sE0
 generalize hΦa:setT Φ 0 (hangX (baseT fr inw T1 x ab w) ab x al)=Φa at X
 have a0:Φa 0=hangX (baseT fr inw T1 x ab w) ab x al:=by rw [← hΦa];exact setT_same ..
 have a1:Φa 1=Φ 1:=by rw [← hΦa];exact setT_ne _ _ (by decide)
 rw [← a1] at X
 refine xs_cons (s10 m (by lia) (by lia) (by rw [a1];exact p0) H X fun h3 n3 X=>go_next ?_)
 rw [a1] at X
 have abE:ens (Φ 1) ab ab≠none:=fun e=>(ens_none.mp e).1 rfl
 have fE:fr=true→ens (Φ 1) ab x=none:=fun e=>ens_none.mpr ⟨xa,hf e⟩
 have fE2:fr=false→ens (Φ 1) ab x≠none:=fun e z=>hf2 e (ens_none.mp z).2
 have eE:inw=true→ens (Φ 1) ab=Φ 1:=fun e=>ens_eq (abU e)
 have iE:inw=true ↔ fr=false∧SB (ens (Φ 1) ab) x ab:=by
  by_cases e:Φ 1 ab=none
  ·have ab0:ab≠0:=p0.resolve_right fun z=>z e
   exact hi.trans ⟨fun h=>absurd e (abU (hi.mpr h)),fun h=>(SB_ens WU ab0 x0 (by lia) e h.2).elim⟩
  ·rw [ens_eq e];exact hi
 generalize hU1:ens (Φ 1) ab=U1 at X se sE1 WE abE fE fE2 eE iE
 generalize hΦb:setT Φa 1 U1=Φb at X
 have b0:Φb 0=hangX (baseT fr inw T1 x ab w) ab x al:=by rw [← hΦb,setT_ne _ _ (by decide)];exact a0
 have b1:Φb 1=U1:=by rw [← hΦb];exact setT_same ..
 rw [← b1] at X
 have inf:inw=true→∃ nx na q,U1 x=some nx∧nx.par=some q∧U1 ab=some na∧na.par=some (parOf U1 ab)∧parOf U1 x=q∧q≠x∧U1 q≠none∧q≠ab∧¬ SB U1 ab q:=fun e=>by
  obtain⟨e1,e2⟩:=iE.mp e
  obtain⟨nx,hx⟩:=nNone (fE2 e1)
  obtain⟨na,hna⟩:=nNone abE
  have ab0:ab≠0:=fun z=>noSB0 WE (z ▸ e2)
  obtain⟨f1,f2⟩:=par_of WE hx x0
  have nu:=noUp WE hx f1 x0
  refine⟨nx,na,parOf U1 x,hx,f1,hna,(par_of WE hna ab0).1,rfl,nu.2,f2,fun z=>nu.1 (z ▸ e2),fun z=>?_⟩
  obtain⟨rk,rr⟩:=WE.rank
  have:=SB.up rr e2
  have:=SB.up rr ((SB_par WE hx f1).mpr (.inr z))
  lia
 have ab0':inw=true→ab≠0:=fun e z=>noSB0 WE (z ▸ (iE.mp e).2)
 refine xs_cons (s11 m (by lia) ab0' H l118 X xa (fun e=>?_) fun h4 n4 U2 u1 u2 X=>go_next ?_)
 ·rw [b1]
  obtain⟨nx,na,q,hx,hq,hna,hp,_,_,qn,qa,ns⟩:=inf e
  exact⟨parOf U1 ab,q,na.w,nx.w,by rw [PW_at hna,hp],by rw [PW_at hx,hq],qn,qa,ns⟩
 have hU2:U2=midU inw U1 x ab:=by
  unfold midU
  cases inw with
  | false=>exact (u1 rfl).trans b1
  | true=>
   obtain⟨nx,na,q,hx,hq,hna,hp,eq,_⟩:=inf rfl
   rw [b1] at u2
   rw [u2 rfl (parOf U1 ab) q na.w nx.w (by rw [PW_at hna,hp]) (by rw [PW_at hx,hq]),eq]
   rfl
 clear u1 u2
 have u0:∀ {j},U2 j=none ↔ U1 j=none:=fun {j}=>by
  rw [hU2]
  unfold midU
  split
  ·exact addChild_none.trans cut_none
  ·exact Iff.rfl
 generalize hΦc:setT Φb 1 U2=Φc at X
 have c0:Φc 0=hangX (baseT fr inw T1 x ab w) ab x al:=by rw [← hΦc,setT_ne _ _ (by decide)];exact b0
 have c1:Φc 1=U2:=by rw [← hΦc];exact setT_same ..
 have W2:=X.wt (t:=1) (by decide)
 rw [c1] at W2
 rw [← c1] at X
 have f2:fr=true→U2 x=none:=fun e=>u0.mpr (fE e)
 have f22:fr=false→U2 x≠none:=fun e z=>fE2 e (u0.mp z)
 have ns2:fr=false→¬ SB U2 x ab:=fun e sb=>by
  cases inw with
  | false=>
   have:U2=U1:=hU2
   rw [this] at sb
   exact ftE (iE.mpr ⟨e,sb⟩)
  | true=>
   obtain⟨nx,na,q,hx,hq,hna,hp,eq,qx,qn,qa,ns⟩:=inf rfl
   have e2:U2=addChild (cutChild U1 (parOf U1 ab) ab) q ab:=by rw [hU2,← eq];rfl
   obtain⟨nx',g1,g2⟩:=cut_par (p:=parOf U1 ab) (c:=ab) hx
   obtain⟨na',g3,_⟩:=cut_par (p:=parOf U1 ab) (c:=ab) hna
   have hx2:U2 x=some nx':=by rw [e2];exact (add_o qx.symm xa).trans g1
   have ha2:U2 ab=some { na' with par:=some q }:=by rw [e2];exact add_c (fun z=>qn (cut_none.mp z)) g3 qa.symm
   have nu:=noUp W2 hx2 (g2.trans hq) x0
   rcases (SB_par W2 ha2 rfl).mp sb with z | z
   ·exact nu.2 z
   ·exact nu.1 z
 refine s12 m (by lia) (by lia) x0 xa hw H X (by rw [c1,ne_eq,u0];exact abE) (by rw [c1];exact f2) (by rw [c1];exact fun e=>⟨f22 e,ns2 e⟩) fun h5 n5 X=>?_
 rw [c1] at X
 obtain⟨σ2,sb⟩:=se.base (fr:=fr) (inw:=inw) (w:=w) xa fun e=>by
  obtain⟨nx,na,q,hx,hq,_,_,_,qx,_⟩:=inf e
  exact⟨(iE.mp e).1,nx,q,hx,hq,qx⟩
 rw [← hU2] at sb
 have WB:=WD_base W2 x0 hw f2 f22
 have sA:Srt (baseT fr inw T1 x ab w):=by
  unfold baseT
  split
  ·exact sE0.set srtd_nil
  ·refine Srt.cut ?_
   unfold cyc
   split
   ·exact sE0.wt.cut.hangX
   ·exact sE0.wt
 have sB:Srt (baseU fr U2 x w):=by
  have sU2:Srt U2:=by
   rw [hU2];unfold midU;split
   ·exact sE1.cut.add
   ·exact sE1
  unfold baseU
  split
  ·exact sU2.set srtd_nil
  ·exact sU2.wt.cut
 have hxB:baseU fr U2 x w x≠none:=by
  unfold baseU
  cases fr with
  | true=>show setN U2 x (nd0 w) x≠none;rw [setN_same];nofun
  | false=>exact fun e=>f22 rfl (wt_none.mp (cut_none.mp e))
 have haB:baseU fr U2 x w ab≠none:=by
  unfold baseU
  cases fr with
  | true=>exact setN_dom fun e=>abE (u0.mp e)
  | false=>exact fun e=>abE (u0.mp (wt_none.mp (cut_none.mp e)))
 generalize baseU fr U2 x w=B at X sb WB sB hxB haB
 generalize baseT fr inw T1 x ab w=A at sA sb c0
 generalize hΦd:setT Φc 1 (addChild B ab x)=Φd at X
 have d0:Φd 0=hangX A ab x al:=by rw [← hΦd,setT_ne _ _ (by decide)];exact c0
 have d1:Φd 1=addChild B ab x:=by rw [← hΦd];exact setT_same ..
 obtain⟨nxB,hnxB⟩:=nNone hxB
 obtain⟨naB,hnaB⟩:=nNone haB
 have pB:PW (addChild B ab x)=setR (PW B) x (some ab,nxB.w):=PW_add haB hnxB xa
 rw [← d1] at X
 refine xs_cons (s14 m (by lia) (by lia) H X (wx:=nxB.w) (by rw [d1,pB];exact if_pos rfl) fun L2 h6 n6 ys H2 hys X=>go_next ?_)
 refine xs_cons (s15 (m+8) (Φ:=setT Φd 1 (if al=true then goes (Φd 1) ab x ys else Φd 1)) ⟨?_,?_,?_,?_⟩ x0 ?_ H2 fun Φ' h7 n7 S'=>go_next (xs_nil (bk_next (hQ _ _ _ S'))))
 ·rw [setT_same];exact X.more (Nat.le_refl _) (by lia)
 ·rw [setT_same,setT_ne _ _ (by decide),d0,d1]
  cases al with
  | false=>exact⟨σ2,sb.add⟩
  | true=>
   obtain⟨ny,hy⟩:=hys rfl
   refine sb.hangX WB hnaB hxB (fun e=>xa e.symm) ny fun y=>(hy y).trans ?_
   rw [d1,pB]
   refine and_congr_right fun yx=>?_
   unfold setR
   rw [if_neg yx]
 ·rw [setT_ne _ _ (by decide),d0];exact sA.hangX
 ·rw [setT_same,d1]
  split
  ·exact Srt.goes _ sB.add
  ·exact sB.add
 ·rw [setT_same,d1]
  have:addChild B ab x x≠none:=fun e=>hxB (addChild_none.mp e)
  split
  ·exact fun e=>this (goes_none _ |>.mp e)
  ·exact this
theorem f32 (m:Nat){L:Lo}{Q:Pst AV}(S:LS M a d rd Φ F0 h n)(hM:M < 80)(hQ:∀ Φ' h' n',LS (M+4) a d rd Φ' F0 h' n'→Q .none L h' n' 0):Wp (callF sg (m+10) 32 [.loc (a 0),.loc (a 1),.loc rd,.int nn] ⟨L,h,n,0⟩) Q E:=by
 refine c_in rfl rfl ?_
 show Wp (execs sg _ b32 ⟨[(0,.loc (a 0)),(112,.loc (a 1)),(106,.loc rd),(113,.int nn)],h,n,0⟩) _ _
 delta b32
 delta b32s0 b32s1 b32s2 b32s3 b32s4 b32s5
 refine xs_cons (x_asg (e_cmp (e_bin (e_lv rfl (e_ci (o_mod (by decide) (e_ci (k_lt (go_next ?_)))))))))
 refine xs_cons (x_asg (e_bin (e_ci (e_bin (e_ci (e_bin (e_lv rfl (e_ci (o_mod (by decide) (o_mul (by decide) (o_add (go_next ?_))))))))))))
 refine xs_cons (x_asg (e_sub (e_call rfl (es_nil (ks_nil ?_)))))
 refine c_fn rfl rfl (f29 (m+8) ?_)
 have S1:LS M a d rd Φ F0 (upd h n (.list parsL)) (n+1):=⟨S.x.junk _,S.s,S.s0,S.s1⟩
 have f9:Int.fmod nn 9=nn % 9:=Int.fmod_eq_emod_of_nonneg nn (by decide)
 obtain⟨pv,ab,e1,hpv⟩:=pars_at (Int.fmod nn 9).toNat (by rw [f9];lia)
 refine e_bin (e_lv rfl (e_ci (o_mod (by decide) (i_list (upd_same ..) (by rw [f9];lia) e1 (go_next ?_)))))
 generalize upd h n (.list parsL)=h1 at S1 ⊢
 have x0:3+2 * Int.fmod nn 8≠0:=by lia
 have hw:1≤1+Int.fmod (Int.fdiv nn 51480+nn+15) 256∧1+Int.fmod (Int.fdiv nn 51480+nn+15) 256≤256:=by
  rw [Int.fmod_eq_emod_of_nonneg _ (by decide)];lia
 have tail:Wp (execs sg (callF sg (m+9)) (.cons b32s6 (.cons b32s7 (.cons b32s8 (.cons b32s9 (.cons b32s10 (.cons b32s11 (.cons b32s12 (.cons b32s13 (.cons b32s14 (.cons b32s15 .nil))))))))))
   ⟨[(0,.loc (a 0)),(112,.loc (a 1)),(106,.loc rd),(113,.int nn),(115,.bool (decide (Int.fmod nn 11 < 4))),(110,.int (3+2 * Int.fmod nn 8)),(107,pv),(116,.int ab),(117,.bool (decide (Int.fmod nn 5=0))),(22,.int (1+Int.fmod (Int.fdiv nn 51480+nn+15) 256))],h1,n+1,0⟩) (Back L Q) fun c cl _ h n k=>E c cl L h n k:=by
  generalize decide (Int.fmod nn 11 < 4)=fr
  generalize decide (Int.fmod nn 5=0)=al
  generalize 3+2 * Int.fmod nn 8=x at x0 ⊢
  generalize 1+Int.fmod (Int.fdiv nn 51480+nn+15) 256=w at hw ⊢
  have H:Loc a rd nn fr x pv ab al w [(0,.loc (a 0)),(112,.loc (a 1)),(106,.loc rd),(113,.int nn),(115,.bool fr),(110,.int x),(107,pv),(116,.int ab),(117,.bool al),(22,.int w)]:=⟨rfl,rfl,rfl,rfl,rfl,rfl,rfl,rfl,rfl,rfl⟩
  generalize [(0,AV.loc (a 0)),(112,.loc (a 1)),(106,.loc rd),(113,.int nn),(115,.bool fr),(110,.int x),(107,pv),(116,.int ab),(117,.bool al),(22,.int w)]=L0 at H ⊢
  have none:Q .none L h1 (n+1) 0:=hQ _ _ _ (S1.more (by lia))
  delta b32s6
  refine xs_cons (x_ife (e_bor (b_cons (e_cmp (e_lv H.l110 (e_lv H.l116 (k_eq (t_bool ?_))))))))
  by_cases xa:x=ab
  ·rw [decide_eq_true xa]
   exact io_f (t_bool (it_t rfl (xs_cons (x_ret0 (go_ret (go_ret (bk_ret none)))))))
  rw [decide_eq_false xa]
  refine io_t (b_one (e_cmp (e_lv H.l115 (S1.x.isin H.l106 H.l110 (k_eqB (t_bool (it_s (fun z=>?_) fun z=>?_)))))))
  ·exact xs_cons (x_ret0 (go_ret (go_ret (bk_ret none))))
  refine xs_nil (go_next (place m S1 hM x0 xa hw hpv (fun e=>?_) (fun e u=>?_) H hQ))
  ·cases u:Φ 1 x with
   | none=>rfl
   | some nd=>rw [e,PW_at u] at z;exact tfE z
  ·have:PW (Φ 1) x=.none:=by unfold PW;rw [u];rfl
   rw [e,this] at z
   exact tfE z
 rcases hpv with⟨rfl,_⟩ | ⟨rfl,rfl⟩
 ·show Wp (execs sg _ _ ⟨[(0,.loc (a 0)),(112,.loc (a 1)),(106,.loc rd),(113,.int nn),(115,.bool (decide (Int.fmod nn 11 < 4))),(110,.int (3+2 * Int.fmod nn 8)),(107,.int ab)],h1,n+1,0⟩) _ _
  refine xs_cons (x_asg (e_ife (e_cmp (e_lv rfl (e_cn (k_is_int (t_bool (it_f rfl (e_lv rfl (go_next ?_)))))))))) 
  refine xs_cons (x_asg (e_cmp (e_bin (e_lv rfl (e_ci (o_mod (by decide) (e_ci (k_eq (go_next ?_)))))))))
  refine xs_cons (x_asg (e_bin (e_ci (e_bin (e_bin (e_bin (e_bin (e_lv rfl (e_ci (o_div (by decide) ?_))))))))))
  refine e_lv rfl (o_add (e_ci (o_add (e_ci (o_mod (by decide) (o_add (go_next ?_)))))))
  exact tail
 ·show Wp (execs sg _ _ ⟨[(0,.loc (a 0)),(112,.loc (a 1)),(106,.loc rd),(113,.int nn),(115,.bool (decide (Int.fmod nn 11 < 4))),(110,.int (3+2 * Int.fmod nn 8)),(107,.none)],h1,n+1,0⟩) _ _
  refine xs_cons (x_asg (e_ife (e_cmp (e_lv rfl (e_cn (k_is_none (t_bool (it_t rfl (e_ci (go_next ?_))))))))))
  refine xs_cons (x_asg (e_cmp (e_bin (e_lv rfl (e_ci (o_mod (by decide) (e_ci (k_eq (go_next ?_)))))))))
  refine xs_cons (x_asg (e_bin (e_ci (e_bin (e_bin (e_bin (e_bin (e_lv rfl (e_ci (o_div (by decide) ?_))))))))))
  refine e_lv rfl (o_add (e_ci (o_add (e_ci (o_mod (by decide) (o_add (go_next ?_)))))))
  exact tail
end
end
section
open PySem PySem.W PyProof.Rows
noncomputable def tree0:Tr:=setN emp 0 root0
theorem wt0:WT 1 tree0:=by
 have at0:∀ {i nd},tree0 i=some nd→i=0∧nd=root0:=fun {i nd} e=>by
  unfold tree0 at e
  by_cases q:i=0
  ·subst q;rw [setN_same] at e;cases e;exact⟨rfl,rfl⟩
  ·rw [setN_ne _ _ q] at e;exact nsE e
 refine⟨⟨root0,setN_same ..,rfl,rfl⟩,fun i nd e=>?_,fun i nd e h=>(h (at0 e).1).elim,fun p np e i hi=>?_,fun p np e=>?_,fun p np e=>?_,⟨fun _=>0,fun p np e i hi=>?_⟩,⟨[0],Nat.le_refl _,fun i h=>?_⟩⟩
 ·rw [(at0 e).2];decide
 ·rw [(at0 e).2] at hi;exact absurd hi nofun
 ·rw [(at0 e).2];exact .refl _
 ·rw [(at0 e).2];exact List.nodup_nil
 ·rw [(at0 e).2] at hi;exact absurd hi nofun
 ·refine xo1_1 (nNone h) fun nd e=>?_
  rw [(at0 e).1];exact .head _
section
variable {C:Nat→List AV→St→R AV}{E:Est}{k n:Nat}{h:Hp}{L:Lo}{M:Nat}{a d:Nat→Nat}{F:Hp}{Φ:Fo}{t hd l N:Nat}{o:AO}{x p kind w:Int}{ex:Bool}{Q:Pst AV}
noncomputable abbrev setD (d:Nat→Nat) (k x:Nat):Nat→Nat:=fun t=>if t=k then x else d t
theorem World.tree (m:Nat)(X:World k M a d Φ F h n)(hM:1≤M)(hQ:∀ dk h' n',World (k+1) M (setD a k n) (setD d k dk) (setT Φ k tree0) F h' n'→Q (.loc n) L h' n' 0) :
  Wp (callV sg (callF sg (m+4)) (.gl 68) [] [] ⟨L,h,n,0⟩) Q E:=by
 obtain⟨A,cl,ql,G,R,tre,fo⟩:=X.ex
 refine c_tree (Φ:=Φ) (t:=k) m (by rw [← X.no k (Nat.le_refl _),setT_self];exact R) (Nat.zero_le _) fun cl' ql' h' n' dk h1 h2 R'=>hQ dk _ _ ?_
 have lt:∀ {l o},G l=some o→l < n:=fun e=>R.lt _ _ (R.old _ _ e)
 have ne:n≠dk:=by lia
 have sd:∀ {f:Nat→Nat} {y u:Nat},u < k→setD f k y u=f u:=fun hu=>if_neg (by lia)
 have ss:∀ {f:Nat→Nat} {y:Nat},setD f k y k=y:=if_pos rfl
 have eA:updA A k 0 (n+1) k 0=n+1:=updA_same ..
 refine⟨⟨_,_,_,_,R',fun u hu=>?_,fun l o e=>?_⟩,fun u v hu hv e=>?_,fun u hu=>?_⟩
 ·by_cases q:u=k
  ·subst q
   rw [setT_same,ss,ss]
   refine⟨⟨_,⟨(upd_ne _ _ ne).trans (upd_same ..),upd_same ..,fun i=>?_,Nat.le_of_ble_eq_true rfl⟩,⟨rfl,trivial⟩,hM⟩,wt0.more hM⟩
   show (if AV.int i=AV.int 0 then some (AV.loc (n+1)) else none)=_
   by_cases q:i=0
   ·subst q;rw [if_pos rfl,eA];show _=Option.map _ (setN emp 0 root0 0);rw [setN_same];rfl
   ·rw [if_neg (by intro w;cases w;exact q rfl)];show _=Option.map _ (setN emp 0 root0 i);rw [setN_ne _ _ q];rfl
  ·have hu':u < k:=by lia
   rw [setT_ne _ _ q,sd hu',sd hu']
   refine xo1_1 ((tre u hu').obj) fun as g1=>?_
   refine xo1_1 ((tre u hu').dict) fun es g2=>?_
   have l1:=lt g1
   have l2:=lt g2
   exact (tre u hu').keep (Nat.le_refl _) (by funext j;exact updA_ne _ _ fun z=>q z.1) ((upd_ne _ _ (by lia)).trans (upd_ne _ _ (by lia))) ((upd_ne _ _ (by lia)).trans (upd_ne _ _ (by lia)))
 ·refine xo0_2 (fo _ _ e) fun e1 e2=>?_
  have ll:=lt e1
  refine⟨(upd_ne _ _ (by lia)).trans ((upd_ne _ _ (by lia)).trans e1),fun u hu=>?_⟩
  by_cases q:u=k
  ·subst q;rw [ss,ss];lia
  ·have hu':u < k:=by lia
   rw [sd hu',sd hu'];exact e2 u hu'
 ·have dl:∀ {u},u < k→d u < n:=fun hu=>by
   refine xo1_1 ((tre _ hu).dict) fun es g2=>?_
   exact lt g2
  by_cases q:u=k <;> by_cases q':v=k
  ·lia
  ·subst q
   rw [ss,sd (by lia)] at e
   have:=dl (show v < u by lia)
   lia
  ·subst q'
   rw [ss,sd (by lia)] at e
   have:=dl (show u < v by lia)
   lia
  ·rw [sd (by lia),sd (by lia)] at e
   exact X.inj _ _ (by lia) (by lia) e
 ·rw [setT_ne _ _ (by lia)];exact X.no u (by lia)
end
theorem world0 (xs:List AV):World 0 1 (fun _=>0) (fun _=>0) (fun _=>emp) (fun l=>if l=0 then some (.ro xs) else none) (fun l=>if l=0 then some (.ro xs) else none) 1:=by
 refine⟨⟨fun _ _=>0,fun _ _=>0,fun _ _=>0,fun l=>if l=0 then some (.ro xs) else none,⟨fun _ _ _ e=>(by cases e),fun _ _ _ e=>(by cases e),fun _ _ _ e=>(by cases e),fun _ _ _ _ h=>(h rfl).elim,fun _ _ _ _ h=>(h rfl).elim,fun _ _ _ _ h=>(h rfl).elim,fun _ _ _ _ h=>(h rfl).elim,fun _ _ e=>e,fun _ _ _ _ _ h=>(h rfl).elim,fun l o e=>?_⟩,fun t ht=>by lia,fun l o e=>⟨e,fun t ht=>by lia⟩⟩,fun t u ht=>by lia,fun _ _=>rfl⟩
 split at e
 ·lia
 ·exact nsE e
section
variable {C:Nat→List AV→St→R AV}{E:Est}{k n l l':Nat}{h:Hp}{L:Lo}{xs ys:List AV}{Q:Pst AV}
theorem o_cat (e:h l=some (.list xs))(e':h l'=some (.list ys))(hl:xs.length+ys.length≤1000)(q:Q (.loc n) L (upd h n (.list (xs++ys))) (n+1) k):Wp (bino sg .add (.loc l) (.loc l') ⟨L,h,n,k⟩) Q E:=by
 show Wp (atObj ⟨L,h,n,k⟩ l _) Q E
 refine .atO e ?_
 show Wp (atObj ⟨L,h,n,k⟩ l' _) Q E
 exact .atO e' (.ifp (r:=alloc _ _) hl q)
theorem o_rep {x:AV}{j:Int}(e:h l=some (.list [x]))(hj:0≤j∧j≤100)(q:Q (.loc n) L (upd h n (.list (List.replicate j.toNat [x]).flatten)) (n+1) k):Wp (bino sg .mul (.loc l) (.int j) ⟨L,h,n,k⟩) Q E:=by
 show Wp (atObj ⟨L,h,n,k⟩ l _) Q E
 exact .atO e (.ifp (r:=alloc _ _) ⟨rfl,hj⟩ q)
theorem bi_abs {x:Int}(q:Q (.int (if x < 0 then -x else x)) L h n k):Wp (callV sg C (.gl 126) [.int x] [] ⟨L,h,n,k⟩) Q E:=q
end
section
variable {C:Nat→List AV→St→R AV}{E:Est}{k n N rd t i:Nat}{h:Hp}{L:Lo}{M:Nat}{a d:Nat→Nat}{F0:Hp}{Φ:Fo}{ρ:Rho}{x y p q w nn ab wx:Int}{T U:Tr}{fr al b inw:Bool}{pv:AV}
theorem PW_sched (W:WT M T)(hM:M < 100):PW (sched 100 T 0).1=PW T:=by
 obtain⟨rk,ws,rl⟩:=W.ws (by lia)
 obtain⟨r,r1,_⟩:=W.root
 have r0:=rl 0
 have tn:=sched_ok 100 T 0 ws (by lia) (by rw [r1];nofun)
 funext j
 unfold PW
 rcases tn.like j with⟨e1,e2⟩ | ⟨u,v,e1,e2,e3⟩
 ·rw [e1,e2]
 ·rw [e1,e2];show some (_,_)=some (_,_);rw [e3.par,e3.w]
theorem k_neT {C:Nat→List AV→St→R AV}{g:Sig}{o:Option Int}{Q:Pst Bool}(q:Q false L h n k):Wp (cmpv g C .ne (tellV o) (tellV o) ⟨L,h,n,k⟩) Q E:=by
 cases o with
 | none=>exact k_neR (r:=true) rfl q
 | some x=>exact k_neR (r:=true) (congrArg some (decide_eq_true rfl)) q
theorem k_isT {C:Nat→List AV→St→R AV}{g:Sig}{o:Option Int}{Q:Pst Bool}(q:Q false L h n k):Wp (cmpv g C .is (tellV o) .none ⟨L,h,n,k⟩) Q E:=by
 cases o <;> exact q
structure LL (a:Nat→Nat) (rd:Nat) (L:Lo):Prop where
 l0:get? L 0=some (.loc (a 0))
 l112:get? L 112=some (.loc (a 1))
 l106:get? L 106=some (.loc rd)
theorem LL.put (H:LL a rd L){i:Nat}(v:AV)(z:([0,112,106].contains i)=false):LL a rd (put L i v):=by
 have g:∀ {j u},get? L j=some u→([0,112,106].contains j)=true→get? (Mine.put L i v) j=some u:=fun e c=>(get_put_ne _ _ fun q=>by rw [q,z] at c;exact ftE c).trans e
 exact⟨g H.l0 rfl,g H.l112 rfl,g H.l106 rfl⟩
theorem turns {Q:Pst Fl}(S:LS M a d rd Φ F0 h n)(hM:M < 90)(H:LL a rd L)(hQ:∀ L Φ' h n,LL a rd L→LS M a d rd Φ' F0 h n→Q .next L h n 0) :
  Wp (forN (.rng 2) (fun x s=>asgT sg (callF sg 300) (.nm 127 ⟨327,16,327,20⟩) x s) (fun s=>execs sg (callF sg 300) (match b35s3 with | .for _ _ (.cons _ (.cons (.ife _ _ (.cons (.ife _ _ (.cons (.for _ _ b _) _) _) _) _) _)) _=>b | _=>.nil) s) 100000 0 ⟨L,h,n,0⟩) Q E:=by
 refine forN_wp (xs:=(List.range 2).map fun x:Nat=>AV.int x) (fun j L h n k=>k=0∧LL a rd L∧∃ Φ',LS M a d rd Φ' F0 h n) (fun j L h n k w=>⟨at_rng,by rw [w.1];exact Nat.zero_le _⟩) (fun j v L h n k hj w=>?_) (fun L h n k w=>?_) 100000 0 (by decide) (Nat.zero_le _) ⟨rfl,H,Φ,S⟩
 ·obtain⟨rfl,H,Φ,S⟩:=w
  refine t_nm ?_
  have H:=H.put (i:=127) v rfl
  generalize put L 127 v=L at H ⊢
  delta b35s3
  dsimp only
  refine xs_cons (x_asg (e_call rfl (es_cons (e_lv H.l0 (es_nil (ks_nil ?_))))))
  refine c_fn rfl rfl (S.x.turn 193 (by decide) (by lia) fun h1 n1 X1=>go_next ?_)
  have H2:=H.put (i:=128) (tellV (sched 100 (Φ 0) 0).2) rfl
  have l128:get? (put L 128 (tellV (sched 100 (Φ 0) 0).2)) 128=some (tellV (sched 100 (Φ 0) 0).2):=get_put ..
  generalize put L 128 (tellV (sched 100 (Φ 0) 0).2)=L2 at H2 l128 ⊢
  refine xs_cons (x_ife (e_bor (b_cons (e_cmp (e_lv l128 (e_cn (k_isT (t_bool (io_t ?_)))))))))
  refine b_one (e_cmp (e_call rfl (es_cons (e_lv H2.l112 (es_nil (ks_nil ?_))))))
  refine c_fn rfl rfl (X1.turn 193 (by decide) (by lia) fun h2 n2 X2=>?_)
  obtain⟨σ,s⟩:=S.s
  have e1:setT Φ 0 (sched 100 (Φ 0) 0).1 1=Φ 1:=setT_ne _ _ (by decide)
  obtain⟨g1,g2⟩:=Sim.sched (σ:=σ) 100 (Φ 0) (Φ 1) 0 s S.s0 S.s1
  rw [e1] at X2 ⊢
  rw [g1]
  refine e_lv l128 (k_neT (t_bool (it_f rfl (xs_nil (go_next (xs_nil ⟨rfl,H2,setT (setT Φ 0 (sched 100 (Φ 0) 0).1) 1 (sched 100 (Φ 1) 0).1,?_,⟨σ,?_⟩,?_,?_⟩))))))
  ·rw [setT_same,PW_sched (S.x.wt (by decide)) (by lia)];exact X2
  ·rw [setT_same,setT_ne _ _ (by decide),setT_same];exact g2
  ·rw [setT_ne _ _ (by decide),setT_same];exact Srt.sched _ S.s0
  ·rw [setT_same];exact Srt.sched _ S.s1
 ·obtain⟨rfl,H,Φ',S'⟩:=w
  exact hQ _ _ _ _ H S'
theorem round {Q:Pst Fl}{r:Int}(S:LS M a d rd Φ F0 h n)(hM:M < 80)(H:LL a rd L)(l125:get? L 125=some (.int r))(hQ:∀ L Φ' h n,LL a rd L→LS (M+4) a d rd Φ' F0 h n→Q .next L h n 0) :
  Wp (execs sg (callF sg 300) (match b35s3 with | .for _ _ b _=>b | _=>.nil) ⟨L,h,n,0⟩) Q E:=by
 delta b35s3
 dsimp only
 refine xs_cons (x_asg (e_call rfl (es_cons (e_lv l125 (es_nil (ks_nil (bi_abs (go_next ?_)))))))) 
 generalize (if r < 0 then -r else r)=nn
 have H:=H.put (i:=113) (.int nn) rfl
 have l113:get? (put L 113 (.int nn)) 113=some (.int nn):=get_put ..
 generalize put L 113 (.int nn)=L at H l113 ⊢
 refine xs_cons (x_ife (e_cmp (e_bin (e_lv l113 (e_ci (o_mod (by decide) (e_ci (k_lt (t_bool (it_s (fun _=>?_) fun _=>?_))))))))))
 ·refine xs_cons (x_expr (e_call rfl (es_cons (e_lv H.l0 (es_cons (e_lv H.l112 (es_cons (e_lv H.l106 (es_cons (e_lv l113 (es_nil (ks_nil ?_))))))))))))
  exact c_fn rfl rfl (f32 290 S hM fun Φ' h' n' S'=>⟨trivial,go_next (xs_nil (go_next (xs_nil (hQ _ _ _ _ H S'))))⟩)
 refine xs_cons (x_ife (e_cmp (e_bin (e_lv l113 (e_ci (o_mod (by decide) (e_ci (k_lt (t_bool (it_s (fun _=>?_) fun _=>?_))))))))))
 ·refine xs_cons (x_expr (e_call rfl (es_cons (e_lv H.l0 (es_cons (e_lv H.l112 (es_cons (e_lv H.l106 (es_cons (e_lv l113 (es_nil (ks_nil ?_))))))))))))
  exact c_fn rfl rfl (f33 288 S (by lia) fun Φ' h' n' S'=>⟨trivial,go_next (xs_nil (go_next (xs_nil (go_next (xs_nil (hQ _ _ _ _ H (S'.more (by lia))))))))⟩)
 ·refine xs_cons (x_for (e_call rfl (es_cons (e_ci (es_nil (ks_nil (bi_range (by decide) ⟨_,it_rng (upd_same ..),?_⟩)))))))
  refine turns (Φ:=Φ) ⟨S.x.junk _,S.s,S.s0,S.s1⟩ (by lia) H fun L' Φ' h' n' H' S'=>go_next (xs_nil (go_next (xs_nil (go_next (xs_nil (hQ _ _ _ _ H' (S'.more (by lia))))))))
end
end
section
open PySem PySem.W PyProof.Rows
section
variable {C:Nat→List AV→St→R AV}{E:Est}{k n N rd t i:Nat}{h:Hp}{L:Lo}{M:Nat}{a d:Nat→Nat}{F0:Hp}{Φ:Fo}{ρ:Rho}{x y p q w nn ab wx:Int}{T U:Tr}{ns:List Int}
theorem LS.new (S:LS M a d rd Φ F0 h n)(o:AO):LS M a d rd Φ (upd F0 n o) (upd h n o) (n+1):=⟨S.x.new o,S.s,S.s0,S.s1⟩
theorem tree0_at {i:Int}{nd:Nd}(e:tree0 i=some nd):i=0∧nd=root0:=by
 unfold tree0 at e
 by_cases q:i=0
 ·subst q;rw [setN_same] at e;exact⟨rfl,(Option.some.inj e).symm⟩
 ·rw [setN_ne _ _ q] at e;exact nsE e
theorem start {F:Hp}(X:World 2 1 a d Φ F h n)(h0:Φ 0=tree0)(h1:Φ 1=tree0):LS 1 a d (n+1) Φ F (upd (upd h n (.list [.none,.int 1])) (n+1) (.dict [(.int 0,.loc n)])) (n+1+1):=by
 have X2:=(X.new (.list [.none,.int 1])).new (.dict [(.int 0,.loc n)])
 have r0:tree0 0=some root0:=setN_same ..
 have pw:∀ {i r},PW (Φ 1) i=some r→i=0∧r=(none,1):=fun e=>by
  rw [h1] at e
  obtain⟨nd,e1,rfl⟩:=Option.map_eq_some_iff.mp e
  obtain⟨e2,rfl⟩:=tree0_at e1
  exact⟨e2,rfl⟩
 have pw0:PW (Φ 1) 0=some (none,1):=by rw [h1];exact PW_at r0
 have st:Srt tree0:=fun i nd e=>by rw [(tree0_at e).2];exact srtd_nil
 refine⟨⟨_,fun _=>n,_,X2,⟨upd_same ..,fun i=>?_,fun i r e=>?_,fun i j hi hj _=>?_,⟨[0],rfl⟩,⟨rfl,trivial⟩,Nat.le_refl _⟩,fun l o e=>?_⟩,⟨fun _=>0,fun i=>?_⟩,by rw [h0];exact st,by rw [h1];exact st⟩
 ·show (if AV.int i=AV.int 0 then some (AV.loc n) else none)=_
  by_cases z:i=0
  ·rw [if_pos (by rw [z]),z,pw0];rfl
  ·rw [if_neg fun w=>z (AV.int.inj w)]
   cases e:PW (Φ 1) i with
   | none=>rfl
   | some r=>exact absurd (pw e).1 z
 ·rw [upd_ne _ _ (Nat.ne_of_lt (Nat.lt_succ_self n)),upd_same,(pw e).2];rfl
 ·obtain⟨r,e⟩:=nNone hi
  obtain⟨r',e'⟩:=nNone hj
  rw [(pw e).1,(pw e').1]
 ·have ln:=X.lt e
  exact⟨by rw [upd_ne _ _ (Nat.ne_of_lt (Nat.lt_succ_of_lt ln)),upd_ne _ _ (Nat.ne_of_lt ln)];exact e,Nat.ne_of_lt (Nat.lt_succ_of_lt ln),fun _ _=>Nat.ne_of_lt ln⟩
 ·rw [h0,h1]
  cases e:tree0 i with
  | none=>exact .no
  | some nd=>rw [(tree0_at e).2];exact .so ⟨rfl,rfl,rfl,rfl,rfl,.refl _,.refl _⟩
theorem rounds {Q:Pst Fl}{l:Nat}{zs:List Int}(hz:zs.length≤16)(hl:F0 l=some (.list (zs.map .int)))(S:LS 1 a d rd Φ F0 h n)(H:LL a rd L)(hQ:∀ L Φ' h n,LS (1+4 * zs.length) a d rd Φ' F0 h n→Q .next L h n 0) :
  Wp (forN (.list l) (fun x s=>asgT sg (callF sg 300) (.nm 125 ⟨320,8,320,14⟩) x s) (fun s=>execs sg (callF sg 300) (match b35s3 with | .for _ _ b _=>b | _=>.nil) s) 100000 0 ⟨L,h,n,0⟩) Q E:=by
 refine forN_wp (xs:=zs.map AV.int) (fun j L h n k=>k=0∧LL a rd L∧∃ Φ',LS (1+4 * j) a d rd Φ' F0 h n) (fun j L h n k w=>⟨?_,by rw [w.1];exact Nat.zero_le _⟩) (fun j v L h n k hj w=>?_) (fun L h n k w=>?_) 100000 0 (by rw [List.length_map];lia) (Nat.zero_le _) ⟨rfl,H,Φ,S⟩
 ·obtain⟨rfl,_,Φ,S⟩:=w
  exact at_list (S.x.get hl)
 ·obtain⟨rfl,H,Φ,S⟩:=w
  obtain⟨y,hyj,rfl⟩:∃ y,zs[j]?=some y∧v=.int y:=by
   rw [List.getElem?_map] at hj
   obtain⟨y,e1,e2⟩:=Option.map_eq_some_iff.mp hj
   exact⟨y,e1,e2.symm⟩
  have lj:j < zs.length:=(List.getElem?_eq_some_iff.mp hyj).1
  refine t_nm (round S (by lia) (H.put (i:=125) _ rfl) (get_put ..) fun L' Φ' h' n' H' S'=>?_)
  exact⟨rfl,H',Φ',S'⟩
 ·obtain⟨rfl,H,Φ',S'⟩:=w
  rw [List.length_map] at S'
  exact hQ _ _ _ _ S'
theorem call07 (ns:List Int)(hn:ns.length≤63){n:Nat}{h0:Hp}(X0:World 0 1 (fun _=>0) (fun _=>0) (fun _=>emp) h0 h0 n)(g0:h0 0=some (.ro (ns.map .int))):Wp (callF sg (300+1) 35 [.loc 0] ⟨[],h0,n,0⟩) (fun v _ h _ _=>v=.bool true∧h 0=some (.ro (ns.map .int))) fun _ _ _ _ _ _=>False:=by
 refine c_in rfl rfl ?_
 show Wp (execs sg _ b35 ⟨[(123,.loc 0)],h0,n,0⟩) _ _
 delta b35
 delta b35s0 b35s1 b35s2
 refine xs_cons (x_asg (e_call rfl (es_nil (ks_nil (X0.tree 296 (Nat.le_refl _) fun d0 h1 n1 X1=>go_next ?_)))))
 refine xs_cons (x_asg (e_call rfl (es_nil (ks_nil (X1.tree 296 (Nat.le_refl _) fun d1 h2 n2 X2=>go_next ?_)))))
 generalize ha:setD (setD (fun _=>0) 0 n) (0+1) n1=a at X2
 generalize hd:setD (setD (fun _=>0) 0 d0) (0+1) d1=d at X2
 generalize hΦ:setT (setT (fun _=>emp) 0 tree0) (0+1) tree0=Φ at X2
 have a0:a 0=n:=by rw [← ha];rfl
 have a1:a 1=n1:=by rw [← ha];rfl
 have p0:Φ 0=tree0:=by rw [← hΦ];rfl
 have p1:Φ 1=tree0:=by rw [← hΦ];rfl
 have S:=start X2 p0 p1
 refine xs_cons (x_asg (e_dct1 (e_ci (e_lst (es_cons (e_cn (es_cons (e_ci (es_nil ⟨by decide,⟨0,rfl⟩,go_next ?_⟩)))))))))
 have H:LL a (n2+1) [(123,.loc 0),(0,.loc n),(112,.loc n1),(106,.loc (n2+1))]:=⟨by rw [a0];rfl,by rw [a1];rfl,rfl⟩
 show Wp (execs sg _ _ ⟨[(123,.loc 0),(0,.loc n),(112,.loc n1),(106,.loc (n2+1))],_,_,_⟩) _ _
 have l123:get? [(123,AV.loc 0),(0,.loc n),(112,.loc n1),(106,.loc (n2+1))] 123=some (.loc 0):=rfl
 generalize [(123,AV.loc 0),(0,.loc n),(112,.loc n1),(106,.loc (n2+1))]=L at H l123 ⊢
 generalize upd (upd h2 n2 (.list [.none,.int 1])) (n2+1) (.dict [(.int 0,.loc n2)])=h3 at S ⊢
 delta b35s3
 have S1:=S.new (.list ((ns.map AV.int).take 12))
 have S2:=S1.new (.list [.int 10])
 have S3:=S2.new (.list (List.replicate (Int.toNat 4) [AV.int 10]).flatten)
 have S4:=S3.new (.list ((ns.map AV.int).take 12++(List.replicate (Int.toNat 4) [AV.int 10]).flatten))
 have eit:(ns.map AV.int).take 12++(List.replicate (Int.toNat 4) [AV.int 10]).flatten=(ns.take 12++[10,10,10,10]).map .int:=by
  rw [List.map_append,List.map_take];rfl
 have le:(ns.take 12).length≤12:=List.length_take_le ..
 have lz:(ns.take 12++[10,10,10,10]).length≤16:=by rw [List.length_append];exact Nat.add_le_add_right le 4
 have n0:0 < n2:=X2.lt g0
 refine xs_cons (x_for (e_bin (e_upto (e_lv l123 (e_ci ⟨0,12,ns.map .int,rfl,rfl,.inr (S.x.get g0),by decide,by rw [List.length_map];lia,?_⟩)))))
 refine e_bin (e_lst (es_cons (e_ci (es_nil ⟨by decide,?_⟩))))
 refine e_ci (o_rep (S2.x.get (upd_same ..)) (by decide) ?_)
 refine o_cat (S3.x.get ((upd_ne _ _ (by lia)).trans ((upd_ne _ _ (by lia)).trans (upd_same ..)))) (S3.x.get (upd_same ..)) (by rw [← List.length_append,eit,List.length_map];lia) ?_
 refine⟨_,it_list (S4.x.get (upd_same ..)),?_⟩
 refine rounds lz ((upd_same ..).trans (by rw [eit])) S4 H fun L' Φ' h' n' S'=>go_next ?_
 delta b35s4
 refine xs_cons (x_ret (e_cb (go_ret (bk_ret ⟨rfl,S'.x.get ?_⟩))))
 rw [upd_ne _ _ (by lia),upd_ne _ _ (by lia),upd_ne _ _ (by lia),upd_ne _ _ (by lia)]
 exact g0
theorem Wp.ends {P:AV→Hp→Prop}{r:R AV}(w:Wp r (fun v _ h _ _=>P v h) fun _ _ _ _ _ _=>False):∃ v s,r=.ok v s∧P v s.heap:=by
 cases r with
 | ok v s=>exact⟨v,s,rfl,w⟩
 | ex=>exact w.elim
 | bad=>exact w.elim
theorem ends07 {n:Nat}{h0:Hp}{xs:List AV}(w:Wp (callF sg (300+1) 35 [.loc 0] ⟨[],h0,n,0⟩) (fun v _ h _ _=>v=.bool true∧h 0=some (.ro xs)) fun _ _ _ _ _ _=>False):∃ st',callF sg 301 35 [.loc 0] ⟨[],h0,n,0⟩=.ok (.bool true) st'∧st'.heap 0=some (.ro xs):=
 xo2_2 (Wp.ends w) fun _ s e w=>⟨s,e.trans (congrArg (R.ok · s) w.1),w.2⟩
theorem run07 (ns:List Int)(hn:ns.length≤63):∃ st',callF sg 301 35 [.loc 0] (st0 (ns.map .int))=.ok (.bool true) st'∧st'.heap 0=some (.ro (ns.map .int)):=
 have key:∀ {n:Nat} {h0:Hp},World 0 1 (fun _=>0) (fun _=>0) (fun _=>emp) h0 h0 n→h0 0=some (.ro (ns.map .int))→∃ st',callF sg 301 35 [.loc 0] ⟨[],h0,n,0⟩=.ok (.bool true) st'∧st'.heap 0=some (.ro (ns.map .int)):=fun X g=>ends07 (call07 ns hn X g)
 key (world0 (ns.map .int)) (if_pos rfl)
end
end
end Mine
section
open PySem PySem.W PyProof.Rows
noncomputable def Mine.rq:PySem.W.OpenLaw:={ prog:=Mine.pq,name:=Mine.nm 124,about:=[Mine.nm 68,Mine.nm 80],foot:=7,most:=some 63,bound:=none,writes:=false }
theorem Mine.rq_eq:PySem.Challenge.rw_iv0035_07=Mine.rq:=by kernel_rfl
theorem Mine.rq_said:Mine.rq.wellSaid=true:=by kernel_rfl
set_option maxHeartbeats 8000000 in
theorem Mine.fin07 (run:∀ ns:List Int,ns.length≤63→∃ st',Mine.callF Mine.sg 301 35 [.loc 0] (Mine.st0 (ns.map .int))=.ok (.bool true) st'∧st'.heap 0=some (.ro (ns.map .int))):Mine.rq.Holds:=by
 w_on
 refine holds_law Mine.rq_said fun said=>?_
 refine holds_open (q:=Mine.vw) (loose:=Mine.loose) (Xt:=Mine.Xt) (XP:=XL Mine.vw []) (Yf:=Mine.Yf) (Ya:=Mine.Ya) (YP:=Mine.YP) (N:=8000) ?hl Mine.YP.of Mine.YP.keeps
  (fun s e=>xl_of s (bAnd e).1) XL.keeps (by rfl) (by rfl) (by rfl) (fun s e=>recFacts_of (bAnd e).2) (by rfl) (by assumption) (by decide +kernel) ⟨rfl,rfl,rfl,rfl,rfl,by decide +kernel⟩ ?hw ?hc
 case hl=>exact Mine.left
 case hw=>exact⟨[.list [.int 3,.int 1]],by decide +kernel,by decide +kernel⟩
 case hc=>
  k_fill
  intro w s₀ s₁ mg mb G Y a o pm cd doc dV kV ho hd hcd hD hmg hg args vals as hpre hlay hrd hwl hlo
  refine Ground.open G ?_
  intro T B D TE TW
  clear hd hcd hD TE TW D
  wrow_args hpre hlay hrd hwl hlo
  rename ¬ ((63:Nat):Int) < _=>h63
  rename IntsAre _ _=>hI
  rename (s₁.heap.IsList _ _)=>hL
  have hlen:=Int.not_lt.mp h63
  have KX:(Mine.K w.params).In s₁.heap:=Y.1
  have e1:nsIn (Mine.K w.params) mainGlobals (Mine.nm 124)=some (some (.ref 397)):=Mine.law_at w.params
  have e2:mg (Mine.nm 124)=some (.ref a):=hmg
  have e3:=(mg_of KX T.g e1).symm.trans e2
  cases e3
  refine Mine.law07 KX T.nolimit T.g T.b T.builtins (Mine.YP.sm Y) hL hI (by lia) rfl rfl (by decide) (by decide) (run _ (by lia)) fun s' hk hs=>?_
  refine GoodW.toG ?_
  refine⟨.inl ⟨.bool true,.bool true,[],rfl,fun cls=>?_,.bool true,?_,fun _=>⟨.nil,fun _ h=>nomatch h⟩⟩,hk,?_,?_⟩
  ·rfl
  ·exact postW_of (r:=Mine.rq.row.toRowW) (X:=true) (by rfl) (by wtm_val) rfl
  ·rw [hs]
  ·rw [hs];exact hg
end
theorem PySem.Challenge.cw_iv0035_07_holds : PySem.Challenge.rw_iv0035_07.Holds := by
  rw [Mine.rq_eq]
  exact Mine.fin07 Mine.run07
