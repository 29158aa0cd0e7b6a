import PyProof.Rows.All
import Wide.All
import OpenK.AllK
import Wide.FinOn
import Lean
import PySem.Challenge.RW_in0070_01
open PySem PySem.Calls PyProof.Rows PySem.W
set_option Elab.async false
set_option linter.all false
set_option compiler.extract_closed false
set_option genInjectivity false
set_option genSizeOf false
set_option tactic.hygienic false
set_option maxRecDepth 100000
set_option maxHeartbeats 0
namespace Mine
theorem x01 {p0 p1:Prop}{G:Prop}(h:p0/\p1)(k:p0->p1->G):G:=k h.1 h.2
theorem x10 {α0:Sort _}{p0:α0->Prop}{G:Prop}(h:∃x0,p0 x0)(k:∀(x0:α0),p0 x0->G):G:=h.elim λx0 h=>k x0 h
theorem x02 {p0 p1 p2:Prop}{G:Prop}(h:p0/\p1/\p2)(k:p0->p1->p2->G):G:=k h.1 h.2.1 h.2.2
theorem x11 {α0:Sort _}{p0 p1:α0->Prop}{G:Prop}(h:∃x0,p0 x0/\p1 x0)(k:∀(x0:α0),p0 x0->p1 x0->G):G:=h.elim λx0 h=>k x0 h.1 h.2
theorem x20 {α0:Sort _}{α1:Sort _}{p0:α0->α1->Prop}{G:Prop}(h:∃x0 x1,p0 x0 x1)(k:∀(x0:α0) (x1:α1),p0 x0 x1->G):G:=h.elim λx0 h=>h.elim λx1 h=>k x0 x1 h
theorem x03 {p0 p1 p2 p3:Prop}{G:Prop}(h:p0/\p1/\p2/\p3)(k:p0->p1->p2->p3->G):G:=k h.1 h.2.1 h.2.2.1 h.2.2.2
theorem x12 {α0:Sort _}{p0 p1 p2:α0->Prop}{G:Prop}(h:∃x0,p0 x0/\p1 x0/\p2 x0)(k:∀(x0:α0),p0 x0->p1 x0->p2 x0->G):G:=h.elim λx0 h=>k x0 h.1 h.2.1 h.2.2
theorem x21 {α0:Sort _}{α1:Sort _}{p0 p1:α0->α1->Prop}{G:Prop}(h:∃x0 x1,p0 x0 x1/\p1 x0 x1)(k:∀(x0:α0) (x1:α1),p0 x0 x1->p1 x0 x1->G):G:=h.elim λx0 h=>h.elim λx1 h=>k x0 x1 h.1 h.2
theorem x30 {α0:Sort _}{α1:Sort _}{α2:Sort _}{p0:α0->α1->α2->Prop}{G:Prop}(h:∃x0 x1 x2,p0 x0 x1 x2)(k:∀(x0:α0) (x1:α1) (x2:α2),p0 x0 x1 x2->G):G:=h.elim λx0 h=>h.elim λx1 h=>h.elim λx2 h=>k x0 x1 x2 h
theorem x04 {p0 p1 p2 p3 p4:Prop}{G:Prop}(h:p0/\p1/\p2/\p3/\p4)(k:p0->p1->p2->p3->p4->G):G:=k h.1 h.2.1 h.2.2.1 h.2.2.2.1 h.2.2.2.2
theorem x13 {α0:Sort _}{p0 p1 p2 p3:α0->Prop}{G:Prop}(h:∃x0,p0 x0/\p1 x0/\p2 x0/\p3 x0)(k:∀(x0:α0),p0 x0->p1 x0->p2 x0->p3 x0->G):G:=h.elim λx0 h=>k x0 h.1 h.2.1 h.2.2.1 h.2.2.2
theorem x22 {α0:Sort _}{α1:Sort _}{p0 p1 p2:α0->α1->Prop}{G:Prop}(h:∃x0 x1,p0 x0 x1/\p1 x0 x1/\p2 x0 x1)(k:∀(x0:α0) (x1:α1),p0 x0 x1->p1 x0 x1->p2 x0 x1->G):G:=h.elim λx0 h=>h.elim λx1 h=>k x0 x1 h.1 h.2.1 h.2.2
theorem x31 {α0:Sort _}{α1:Sort _}{α2:Sort _}{p0 p1:α0->α1->α2->Prop}{G:Prop}(h:∃x0 x1 x2,p0 x0 x1 x2/\p1 x0 x1 x2)(k:∀(x0:α0) (x1:α1) (x2:α2),p0 x0 x1 x2->p1 x0 x1 x2->G):G:=h.elim λx0 h=>h.elim λx1 h=>h.elim λx2 h=>k x0 x1 x2 h.1 h.2
theorem x40 {α0:Sort _}{α1:Sort _}{α2:Sort _}{α3:Sort _}{p0:α0->α1->α2->α3->Prop}{G:Prop}(h:∃x0 x1 x2 x3,p0 x0 x1 x2 x3)(k:∀(x0:α0) (x1:α1) (x2:α2) (x3:α3),p0 x0 x1 x2 x3->G):G:=h.elim λx0 h=>h.elim λx1 h=>h.elim λx2 h=>h.elim λx3 h=>k x0 x1 x2 x3 h
theorem x05 {p0 p1 p2 p3 p4 p5:Prop}{G:Prop}(h:p0/\p1/\p2/\p3/\p4/\p5)(k:p0->p1->p2->p3->p4->p5->G):G:=k h.1 h.2.1 h.2.2.1 h.2.2.2.1 h.2.2.2.2.1 h.2.2.2.2.2
theorem x14 {α0:Sort _}{p0 p1 p2 p3 p4:α0->Prop}{G:Prop}(h:∃x0,p0 x0/\p1 x0/\p2 x0/\p3 x0/\p4 x0)(k:∀(x0:α0),p0 x0->p1 x0->p2 x0->p3 x0->p4 x0->G):G:=h.elim λx0 h=>k x0 h.1 h.2.1 h.2.2.1 h.2.2.2.1 h.2.2.2.2
theorem x23 {α0:Sort _}{α1:Sort _}{p0 p1 p2 p3:α0->α1->Prop}{G:Prop}(h:∃x0 x1,p0 x0 x1/\p1 x0 x1/\p2 x0 x1/\p3 x0 x1)(k:∀(x0:α0) (x1:α1),p0 x0 x1->p1 x0 x1->p2 x0 x1->p3 x0 x1->G):G:=h.elim λx0 h=>h.elim λx1 h=>k x0 x1 h.1 h.2.1 h.2.2.1 h.2.2.2
theorem x32 {α0:Sort _}{α1:Sort _}{α2:Sort _}{p0 p1 p2:α0->α1->α2->Prop}{G:Prop}(h:∃x0 x1 x2,p0 x0 x1 x2/\p1 x0 x1 x2/\p2 x0 x1 x2)(k:∀(x0:α0) (x1:α1) (x2:α2),p0 x0 x1 x2->p1 x0 x1 x2->p2 x0 x1 x2->G):G:=h.elim λx0 h=>h.elim λx1 h=>h.elim λx2 h=>k x0 x1 x2 h.1 h.2.1 h.2.2
theorem x15 {α0:Sort _}{p0 p1 p2 p3 p4 p5:α0->Prop}{G:Prop}(h:∃x0,p0 x0/\p1 x0/\p2 x0/\p3 x0/\p4 x0/\p5 x0)(k:∀(x0:α0),p0 x0->p1 x0->p2 x0->p3 x0->p4 x0->p5 x0->G):G:=h.elim λx0 h=>k x0 h.1 h.2.1 h.2.2.1 h.2.2.2.1 h.2.2.2.2.1 h.2.2.2.2.2
theorem x24 {α0:Sort _}{α1:Sort _}{p0 p1 p2 p3 p4:α0->α1->Prop}{G:Prop}(h:∃x0 x1,p0 x0 x1/\p1 x0 x1/\p2 x0 x1/\p3 x0 x1/\p4 x0 x1)(k:∀(x0:α0) (x1:α1),p0 x0 x1->p1 x0 x1->p2 x0 x1->p3 x0 x1->p4 x0 x1->G):G:=h.elim λx0 h=>h.elim λx1 h=>k x0 x1 h.1 h.2.1 h.2.2.1 h.2.2.2.1 h.2.2.2.2
theorem x33 {α0:Sort _}{α1:Sort _}{α2:Sort _}{p0 p1 p2 p3:α0->α1->α2->Prop}{G:Prop}(h:∃x0 x1 x2,p0 x0 x1 x2/\p1 x0 x1 x2/\p2 x0 x1 x2/\p3 x0 x1 x2)(k:∀(x0:α0) (x1:α1) (x2:α2),p0 x0 x1 x2->p1 x0 x1 x2->p2 x0 x1 x2->p3 x0 x1 x2->G):G:=h.elim λx0 h=>h.elim λx1 h=>h.elim λx2 h=>k x0 x1 x2 h.1 h.2.1 h.2.2.1 h.2.2.2
theorem x42 {α0:Sort _}{α1:Sort _}{α2:Sort _}{α3:Sort _}{p0 p1 p2:α0->α1->α2->α3->Prop}{G:Prop}(h:∃x0 x1 x2 x3,p0 x0 x1 x2 x3/\p1 x0 x1 x2 x3/\p2 x0 x1 x2 x3)(k:∀(x0:α0) (x1:α1) (x2:α2) (x3:α3),p0 x0 x1 x2 x3->p1 x0 x1 x2 x3->p2 x0 x1 x2 x3->G):G:=h.elim λx0 h=>h.elim λx1 h=>h.elim λx2 h=>h.elim λx3 h=>k x0 x1 x2 x3 h.1 h.2.1 h.2.2
theorem x25 {α0:Sort _}{α1:Sort _}{p0 p1 p2 p3 p4 p5:α0->α1->Prop}{G:Prop}(h:∃x0 x1,p0 x0 x1/\p1 x0 x1/\p2 x0 x1/\p3 x0 x1/\p4 x0 x1/\p5 x0 x1)(k:∀(x0:α0) (x1:α1),p0 x0 x1->p1 x0 x1->p2 x0 x1->p3 x0 x1->p4 x0 x1->p5 x0 x1->G):G:=h.elim λx0 h=>h.elim λx1 h=>k x0 x1 h.1 h.2.1 h.2.2.1 h.2.2.2.1 h.2.2.2.2.1 h.2.2.2.2.2
theorem x34 {α0:Sort _}{α1:Sort _}{α2:Sort _}{p0 p1 p2 p3 p4:α0->α1->α2->Prop}{G:Prop}(h:∃x0 x1 x2,p0 x0 x1 x2/\p1 x0 x1 x2/\p2 x0 x1 x2/\p3 x0 x1 x2/\p4 x0 x1 x2)(k:∀(x0:α0) (x1:α1) (x2:α2),p0 x0 x1 x2->p1 x0 x1 x2->p2 x0 x1 x2->p3 x0 x1 x2->p4 x0 x1 x2->G):G:=h.elim λx0 h=>h.elim λx1 h=>h.elim λx2 h=>k x0 x1 x2 h.1 h.2.1 h.2.2.1 h.2.2.2.1 h.2.2.2.2
theorem x43 {α0:Sort _}{α1:Sort _}{α2:Sort _}{α3:Sort _}{p0 p1 p2 p3:α0->α1->α2->α3->Prop}{G:Prop}(h:∃x0 x1 x2 x3,p0 x0 x1 x2 x3/\p1 x0 x1 x2 x3/\p2 x0 x1 x2 x3/\p3 x0 x1 x2 x3)(k:∀(x0:α0) (x1:α1) (x2:α2) (x3:α3),p0 x0 x1 x2 x3->p1 x0 x1 x2 x3->p2 x0 x1 x2 x3->p3 x0 x1 x2 x3->G):G:=h.elim λx0 h=>h.elim λx1 h=>h.elim λx2 h=>h.elim λx3 h=>k x0 x1 x2 x3 h.1 h.2.1 h.2.2.1 h.2.2.2
theorem x08 {p0 p1 p2 p3 p4 p5 p6 p7 p8:Prop}{G:Prop}(h:p0/\p1/\p2/\p3/\p4/\p5/\p6/\p7/\p8)(k:p0->p1->p2->p3->p4->p5->p6->p7->p8->G):G:=k h.1 h.2.1 h.2.2.1 h.2.2.2.1 h.2.2.2.2.1 h.2.2.2.2.2.1 h.2.2.2.2.2.2.1 h.2.2.2.2.2.2.2.1 h.2.2.2.2.2.2.2.2
theorem x17 {α0:Sort _}{p0 p1 p2 p3 p4 p5 p6 p7:α0->Prop}{G:Prop}(h:∃x0,p0 x0/\p1 x0/\p2 x0/\p3 x0/\p4 x0/\p5 x0/\p6 x0/\p7 x0)(k:∀(x0:α0),p0 x0->p1 x0->p2 x0->p3 x0->p4 x0->p5 x0->p6 x0->p7 x0->G):G:=h.elim λx0 h=>k x0 h.1 h.2.1 h.2.2.1 h.2.2.2.1 h.2.2.2.2.1 h.2.2.2.2.2.1 h.2.2.2.2.2.2.1 h.2.2.2.2.2.2.2
theorem x18 {α0:Sort _}{p0 p1 p2 p3 p4 p5 p6 p7 p8:α0->Prop}{G:Prop}(h:∃x0,p0 x0/\p1 x0/\p2 x0/\p3 x0/\p4 x0/\p5 x0/\p6 x0/\p7 x0/\p8 x0)(k:∀(x0:α0),p0 x0->p1 x0->p2 x0->p3 x0->p4 x0->p5 x0->p6 x0->p7 x0->p8 x0->G):G:=h.elim λx0 h=>k x0 h.1 h.2.1 h.2.2.1 h.2.2.2.1 h.2.2.2.2.1 h.2.2.2.2.2.1 h.2.2.2.2.2.2.1 h.2.2.2.2.2.2.2.1 h.2.2.2.2.2.2.2.2
theorem x27 {α0:Sort _}{α1:Sort _}{p0 p1 p2 p3 p4 p5 p6 p7:α0->α1->Prop}{G:Prop}(h:∃x0 x1,p0 x0 x1/\p1 x0 x1/\p2 x0 x1/\p3 x0 x1/\p4 x0 x1/\p5 x0 x1/\p6 x0 x1/\p7 x0 x1)(k:∀(x0:α0) (x1:α1),p0 x0 x1->p1 x0 x1->p2 x0 x1->p3 x0 x1->p4 x0 x1->p5 x0 x1->p6 x0 x1->p7 x0 x1->G):G:=h.elim λx0 h=>h.elim λx1 h=>k x0 x1 h.1 h.2.1 h.2.2.1 h.2.2.2.1 h.2.2.2.2.1 h.2.2.2.2.2.1 h.2.2.2.2.2.2.1 h.2.2.2.2.2.2.2
theorem x36 {α0:Sort _}{α1:Sort _}{α2:Sort _}{p0 p1 p2 p3 p4 p5 p6:α0->α1->α2->Prop}{G:Prop}(h:∃x0 x1 x2,p0 x0 x1 x2/\p1 x0 x1 x2/\p2 x0 x1 x2/\p3 x0 x1 x2/\p4 x0 x1 x2/\p5 x0 x1 x2/\p6 x0 x1 x2)(k:∀(x0:α0) (x1:α1) (x2:α2),p0 x0 x1 x2->p1 x0 x1 x2->p2 x0 x1 x2->p3 x0 x1 x2->p4 x0 x1 x2->p5 x0 x1 x2->p6 x0 x1 x2->G):G:=h.elim λx0 h=>h.elim λx1 h=>h.elim λx2 h=>k x0 x1 x2 h.1 h.2.1 h.2.2.1 h.2.2.2.1 h.2.2.2.2.1 h.2.2.2.2.2.1 h.2.2.2.2.2.2
def lenLine:Nat:=1000000
def isW (w:String)(c:Char):Bool:=w.toList.headD ' ' == c
def ij (w:String):String:=String.ofList (w.toList.drop 1)
open Lean in
def mJ (k:Name)(as:List Syntax):Syntax:=.node .none k as.toArray
open Lean in
def eQ (s:String):Syntax:=mkIdent s.toName
open Lean in
def oD {α:Type}(f:α->Syntax):List α->List Syntax
 | []=>[]
 | a::l=>f a::oD f l
open Lean in
def anyW (f:Syntax->Bool):List Syntax->Bool
 | []=>false
 | a::l=>f a||anyW f l
open Lean in
def closeW (k:Name)(as:List Syntax):Syntax:=
 if k == `s then mJ `Lean.Parser.Tactic.tacticSeq [mJ `Lean.Parser.Tactic.tacticSeq1Indented [mJ `null as]] else mJ k as
open Lean in
def closeF:List Syntax->Syntax
 | k::as=>closeW k.getId as
 | []=>.missing
open Lean in
def pieceW (hs:List Syntax)(w:String):Syntax:=
 let t:=ij w
 if isW w '\'' then .atom .none t
 else if isW w '?' then hs.getD t.toNat! .missing
 else eQ (if isW w '(' then (if isW t '.' then "Lean.Parser.Tactic" ++ t else if isW t '-' then "Lean.Parser.Term." ++ ij t else t) else w)
open Lean in
def sr (hs:List Syntax):List String->List Syntax->List (List Syntax)->Syntax
 | [],as,_=>as.headD .missing
 | w::ws,as,st=>
  let a:=pieceW hs w
  let z:=isW w ')'
  let o:=isW w '('
  sr hs ws (if o then [a] else (if z then [closeF as.reverse] else if isW w '*' then hs.reverse else [a])++if z then st.headD [] else as) (if o then as::st else if z then st.drop 1 else st)
open Lean in
def tr (s:String)(hs:List Syntax):Syntax:=sr hs (s.splitOn " ") [] []
open Lean in
def semi:List Syntax->List Syntax
 | []=>[]
 | a::l=>a::if l.isEmpty then [] else .atom .none ";" :: semi l
open Lean in
def pars (ts:List Syntax):Syntax:=tr "(.paren '( (s ** ) ') )" (semi ts)
open Lean in
def altT (t:Syntax):Syntax:=tr "(group '| (s ?0 ) )" [t]
open Lean in
def alts (ts:List Syntax):Syntax:=tr "(.first 'first (null ** ) )" (oD altT ts)
open Lean in
def sz (hs:List Syntax):Syntax:=tr "(-typeAscription (-hygienicLParen '( (hygieneInfo [anonymous] ) ) ?0 ': (null ?1 ) ') )" hs
open Lean in
def tm (hs:List Syntax):Syntax:=tr "(.refine 'refine (-app ?0 (null ?1 (-syntheticHole '? '_ ) ) ) )" hs
open Lean in
def badP (p:Syntax):Bool:=(p.find? λs=>s.getKind == `Lean.Parser.Tactic.rcasesPatMed&&s[0].getNumArgs > 1).isSome
open Lean in
def mS (q:Syntax):String:=match q.getKind with
 | .str _ s=>s
 | _=>""
open Lean in
def patT (x:String)(p q:Syntax):List Syntax:=
 let t:=eQ x
 let k:=mS q
 if k == "one" && q[0].getId != `rfl then [q[0]]
 else if k == "ignore" then [tr "(-hole '_ )" []]
 else [t,tr (if k == "clear" then "(.clear 'clear (null ?0 ) )" else if k == "tuple" then "(.obtain 'obtain (null (.rcasesPatMed (null ?1 ) ) ) (null ) (null ':= (null ?0 ) ) )" else "(.rcases 'rcases (null (.elimTarget (null ) ?0 ) ) (null 'with ?2 ) )") [t,q,p]]
open Lean in
def obtL:List Syntax->Nat->List Syntax->List Syntax×List Syntax
 | [],_,bs=>(bs,[])
 | p::ps,i,bs=>
  let l:=patT ("ιz" ++ toString i) p p[0][0][0]
  let r:=obtL ps (i+1) (bs++l.take 1)
  (r.1,l.drop 1++r.2)
open Lean in
def obtX (h:Syntax)(n:Nat):Nat->List Syntax
 | 0=>[]
 | e+1=>obtX h n e++if e<n then [tm [eQ ("x" ++ toString e++toString (n - 1 - e)),h]] else []
open Lean in
def obt (ps:List Syntax)(h dflt:Syntax):Syntax:=
  let r:=obtL ps 0 []
  alts [pars ([alts (obtX h ps.length 6),tr (if h.isIdent then "(.tacticTry_ 'try (s (.clear 'clear (null ?0 ) ) ) )" else "(.skip 'skip )") [h],tr "(.intro 'intro (null ** ) )" r.1]++r.2),dflt]
open Lean in
def jr (stx:Syntax)(b:Bool)(t:Syntax):MacroM Syntax:=if b then Macro.throwUnsupported else return t
open Lean in
local macro_rules (kind:=Lean.Parser.Tactic.obtain)
| stx=>
 let q:=stx[1][0][0][0]
 let ps:=q[1].getSepArgs.toList
 let h:=stx[3][1]
 let n:=ps.length
 let g:=if stx[2].getNumArgs == 0 then h[0] else sz [h[0],stx[2][1]]
 jr stx (stx[1][0][0].getNumArgs != 1||mS q != "tuple" || n<2||n > 10||h.getNumArgs != 1||anyW (λp=>badP p || !p[1].isMissing&&p[1].getNumArgs > 0) ps)
  (obt ps g (tr "(.rcases 'rcases (null (.elimTarget (null ) ?0 ) ) (null 'with (.rcasesPatLo (.rcasesPatMed (null ?1 ) ) (null ) ) ) )" [g,q]))
open Lean in
def rinL:List Syntax->Nat->List Syntax
 | [],_=>[]
 | p::ps,i=>
  let q:=p[0]
  let l:=patT ("ιy" ++ toString i) (tr "(.rcasesPatLo (.rcasesPatMed (null ?0 ) ) (null ) )" [q]) q
  tr "(.intro 'intro (null ?0 ) )" (l.take 1)::l.drop 1++rinL ps (i+1)
open Lean in
local macro_rules (kind:=Lean.Parser.Tactic.rintro)
| stx=>
 let ps:=stx[1].getArgs.toList
 jr stx (anyW (λp=>badP p||mS p != "one" || mS p[0] == "clear") ps || !anyW (λp=>mS p[0] == "tuple") ps) (pars (rinL ps 0))
def clos:String:="r(.withUnfoldingAll 'with_unfolding_all (s (.tacticRfl 'rfl ) ) )\nR(.exact 'exact rfl )\ni(.paren '( (s (.intros 'intros (null ) ) '; (.withUnfoldingAll 'with_unfolding_all (s (.tacticRfl 'rfl ) ) ) ) ') )\nd(.decide 'decide (.optConfig (null ) ) )\no(.omega 'omega (.optConfig (null ) ) )\ns(.withUnfoldingAll 'with_unfolding_all (s (.exact 'exact (-app Eq.refl (null (-paren (-hygienicLParen '( (hygieneInfo [anonymous] ) ) (-app some (null (-hole '_ ) ) ) ') ) ) ) ) ) )\na(.withReducible 'with_reducible (s (.assumption 'assumption ) ) )\nB(.withUnfoldingAll 'with_unfolding_all (s (.exact 'exact (-app Nat.le_of_ble_eq_true (null rfl ) ) ) ) )\nc(.paren '( (s (.intro 'intro (null h ) ) '; (.cases 'cases (null (.elimTarget (null ) h ) ) (null ) (null ) ) ) ') )\n+(.first 'first (null (group '| (s (.focus 'focus (s (.dsimp 'dsimp (.optConfig (null ) ) (null ) (null 'only ) (null '[ (null (.simpLemma (null ) (null ) List.length_cons ) ', (.simpLemma (null ) (null ) List.length_nil ) ', (.simpLemma (null ) (null ) Nat.reduceAdd ) ) '] ) (null ) ) '; (.done 'done ) ) ) ) ) (group '| (s (.focus 'focus (s (.tacticTry_ 'try (s (.dsimp 'dsimp (.optConfig (null ) ) (null ) (null 'only ) (null '[ (null (.simpLemma (null ) (null ) List.length_cons ) ', (.simpLemma (null ) (null ) List.length_nil ) ', (.simpLemma (null ) (null ) Nat.reduceAdd ) ) '] ) (null ) ) ) ) '; (.exact 'exact rfl ) ) ) ) ) ) )\n-(.first 'first (null (group '| (s (.focus 'focus (s (.dsimp 'dsimp (.optConfig (null ) ) (null ) (null 'only ) (null '[ (null (.simpLemma (null ) (null ) List.cons_append ) ', (.simpLemma (null ) (null ) List.nil_append ) ) '] ) (null ) ) '; (.done 'done ) ) ) ) ) (group '| (s (.focus 'focus (s (.tacticTry_ 'try (s (.dsimp 'dsimp (.optConfig (null ) ) (null ) (null 'only ) (null '[ (null (.simpLemma (null ) (null ) List.cons_append ) ', (.simpLemma (null ) (null ) List.nil_append ) ) '] ) (null ) ) ) ) '; (.exact 'exact rfl ) ) ) ) ) ) )\n/(.first 'first (null (group '| (s (.focus 'focus (s (.dsimp 'dsimp (.optConfig (null ) ) (null ) (null 'only ) (null ) (null ) ) '; (.done 'done ) ) ) ) ) (group '| (s (.focus 'focus (s (.tacticTry_ 'try (s (.dsimp 'dsimp (.optConfig (null ) ) (null ) (null 'only ) (null ) (null ) ) ) ) '; (.exact 'exact rfl ) ) ) ) ) ) )\n>(.first 'first (null (group '| (s (.exact 'exact (-app Nat.le_of_ble_eq_true (null rfl ) ) ) ) ) (group '| (s (.decide 'decide (.optConfig (null ) ) ) ) ) (group '| (s (.focus 'focus (s (.simp 'simp (.optConfig (null ) ) (null ) (null ) (null '[ (null (.simpLemma (null ) (null ) lenLine ) ) '] ) (null ) ) '; (.done 'done ) ) ) ) ) (group '| (s (.focus 'focus (s (.simp 'simp (.optConfig (null ) ) (null ) (null ) (null '[ (null (.simpLemma (null ) (null ) lenLine ) ) '] ) (null ) ) '; (.omega 'omega (.optConfig (null ) ) ) ) ) ) ) (group '| (s (.focus 'focus (s (.simp 'simp (.optConfig (null ) ) (null ) (null ) (null '[ (null (.simpLemma (null ) (null ) lenLine ) ) '] ) (null (.location 'at (.locationWildcard '* ) ) ) ) '; (.omega 'omega (.optConfig (null ) ) ) ) ) ) ) ) )"
def rows:String:="zlen cn cN:!a;len_zone nl;len_put n;len_gone n\nzat:!a;*at_app_0 n;*at_app_r nR;at_app_l p;*at_put_eq p;at_put_tag ppR;at_gone_tag ppR;at_put_ne qp;at_gone_ne qp;*Grow.at ap;*Off.at apq;at_put_kind ppc;at_gone_kind ppc;*OffC.at apq\nzoff cf:!a;*Off.put p;*Off.put' f;*Off.app f;*Off.refl p;*Off.grow fa\nzputm cM:*PutM.eq h\nzput cP cw:*put_app_0 n;*put_zone nb;put_base pw;!j\nzapp cQ:app_zone m;!R\nzitem cT:!a;*seqAt_last 7;*seqAt_nat 7o\nzitem0 cU:!a;!R\nzdictA cD:*DictR.d p;*DictR.e p\nzputi cI:*PutI.eq 8\nzseq cS:*seqA_tuple p;*seqA_list p\nzstores cO cy:=storesA_nil;storesA_local rrAMPy;storesA_cell rrrAPy\ncV:EV_local rAsrs;EV_glob rsrs;EV_blt rsrrs;EV_cell rsrsA;EV_free rsrsA;EV_const s;EV_call rVW;EV_meth iriVHW;EV_slice VYYZ;EV_sub rVVG;EV_attr iVJ;EV_bin VV2;EV_cmp rVV2;EV_list vLNQ;EV_tuple vLNQ;EV_neg V;EV_dict0 NQ\ncv:EVs_nil;EVs_cons rVv\ncK:EAr_nil;EAr_E rv;EAr_kw rvV\ncW:EWc_b0 KC;EWc_b1 KC;EWc_t0 KC;EWc_r0 rKC;EWc_r1 rKC\ncC:ec_buffer Ao;ec_truth Ao;ec_threes AoNQ;ECl_append ALP;ECl_pop ALUP;ECl_clear ALP;ECl_setAdd AoP;ECl_getd1 Dr;ECl_getd2 Dr;ECl_values DNQ;ECl_typeb;ECl_typeB;ECl_lenl AL;ECl_lent AL;ECl_lens L;ECl_lenb L;ECl_range1 NQ;ECl_range3 drNQ;ECl_iterl ANQ;ECl_object NQ;ECl_set0 NQ\nc2:EB_addi;EB_subi;EB_adds L;EB_mod d;EB_fdiv d;EB_addl AALNQ;EB_and;EB_or;EB_addb L;EC_lt;EC_le;EC_gt;EC_ge;EC_eqi;EC_nei;EC_eqs;EC_nes;EC_isC rrrr;EC_isnC rrrr;EC_isLoc AAr;EC_isnLoc AAr;*EC_isLN;*EC_isnLN;EC_isSL;EC_ins;EC_nins;EB_iaddi;EB_isubi\nct:ETr_bool\nce:ET_cmp rVV2t;ET_not e;ET_plain rVt\ncG:EGt_list AT;EGt_dict Ar\ncZ:ESl_bytes Lrr;ESl_str Lrr;ESl_list ALrrNQ\ncY:EOp_some V;EOp_none\ncH:EMt_append A;EMt_pop A;EMt_clear A;EMt_get A;EMt_getE A;EMt_values A;EMt_valuesE A;EMt_add A;EMt_inst AAssr;EMt_join;EMt_replace;EMt_translate;EMt_decode\ncJ:EAt_own AAsrsr;EAt_slot AAssrr;EAt_append ANQ;EAt_next ANQ\ncE:ES_assign iiVk;ES_expr rrV;ES_augattr VJV2x;ES_delsub VVu\nck:EAs_one r1;EAs_two rr11\nc1:EA1_local rsAMP;EA1_cell rssAP;EA1_tuple FsSrO;EA1_attr Vx;EA1_sub VV3\nc3:EO3_set ALP\ncu:EU2_del ALaP\ncx:EStA_own AAAsrIBP;EStA_slot AAAssrP\nzT:TE_ev V_;TS_ev E_;TT_ev e_;OP2_ev 2_;TCall_ev C_;TTru_ev t_;GetI_ev G_;SliceI_ev Z_;TMeth_ev H_;TAttr_ev J_;OP3_ev 3_;TAsg_ev 1_;TOp_ev Y_;TDel_ev u_;TSet_ev x_;thenF_next _;thenF_ret _;thenF_brk _;thenF_cont _;loopQ_next _;loopQ_cont _;loopQ_brk _;loopQ_ret _;kR _;kR2 _;kK _;TE_Call r_;TE_CallMethod iri_;TE_Slice' _;TE_Subscript' r_;TE_Attribute i_;TE_BinOp _;TE_Compare ~r;TE_ListE _;TE_TupleE _;TE_IfExp' _;TE_Neg _;TE_Named_local rr_;TSpE_nil _;TSpE_cons r_;TCW_b0 _;TCW_b1 _;TCW_r0 r_;TCW_r1 r_;TCW_t0 _;TArgs_nil _;TArgsE r_;TArgsE_kw r_;TT_Compare ~r;TT_Not _;TT_BoolOp _;TT_plain r_;TS_Assign ii_;TS_If' _;TS_Return _;TS_Expr rr_;TS_Assert _;TS_AugAttr _;TS_Break _;TS_Continue _;TS_DelSub _;TAsgs_one r_;TAsgs_two rr_;TAsg_Attribute _;TAsg_Subscript _;TE_Opt_some _;TE_Opt_none _;pick_true _;pick_false _;pick_true' r_;pick_false' r_;TAnd_one _;TAnd_cons _;TOr_one _;TOr_cons _;New.mk NQ_;FitNew.mk LNQ_;TE_J3r dd_;TE_J3 dd_;TE_Joined1 _\nzS:TSs_one _;TSs_cons' _;TSs_nil _\ncl:!+\ncm:!-\nzne cq:!a;!o\ncj:=put_put;!/\nzll cL:!a;!>\nzfree cF:!a;SP.down_free F\nc7:!a;!R\nzgrow cg:!a;=Grow.refl;=Grow.app;Grow.pref 0;Grow.put go;Grow.gone go;Grow.into g\nc0:=PrefL.nil;PrefL.cons 0\nzcells c4:=CellsL.nil;CellsL.cons 4\nzbinds c5:=bindAll_nil;bindAll_local rrAMP5;bindAll_cell rrrAP5\nzraiseV:TS_RaiseV F6i_\nc6:nameA_blt rrrrr\nzR:%#zT;#zS\nzom:!a;=Nat.le_refl;=Nat.le_add_right;om_le_pp R;om_lt_pp R;om_lt_0p R;om_ne_pp R;om_ne_p0 R;om_ne_0p R;Nat.le_of_eq a;om_le_sym a;Nat.le_of_lt a;Nat.ne_of_lt a;Nat.ne_of_gt a;om_lt_0 a;om_lt_s aR;om_ne_g0 a;om_ne_0g a;om_ne_gs aR;om_ne_sg aR;om_ne_gp aR;om_ne_pg aR;om_ne_gp0 a;om_ne_pg0 a;om_le_0 a;om_le_s aR;om_le_e a;om_le_e' a;om_lt_0e aa;om_lt_se aaR;om_lt_e aa;om_le_le aa;om_ne_e aa;om_ne_e' aa;om_ne_ep aa;om_ne_pe aa;om_ne_gpx a;om_ne_xpg a;om_le_tr a;om_lt_tr a;om_le_lit aR;om_lt_lit aR;om_pos aR;om_le_lt aa;om_ne_le aa;om_ne_le' aa;om_sub aR;om_sub2 aR\nzoffc cX:!a;*OffC.put X;*OffC.app X;*OffC.refl p\nzhas c9:=HasL.nil;HasL.cons r9\nzfrhas:*FrHas.mk p9\nzputl cb:=PutL.zero;*PutL.succ b\nzpm ch:=PutM.nil;=PutM.hit;PutM.miss rh\nc8:=PutI.nil;=PutI.hit;PutI.miss r8\nn:*nid;*ntr\nky:ky1 r;*ky2;*ky3;*ky4\nkg:*kg1;*kg2\nu:!r\nua:@zat\nuf:@zfrhas\nuo:@zoff"
open Lean in
def opn (s:String):Syntax:=tr "(PySem.W.tacticK_lt_ 'k_lt ?0 )" [eQ s]
def uh (p:String->Bool):List String->String
 | []=>""
 | w::ws=>if p w then w else uh p ws
open Lean in
def unfT (t:Syntax):Syntax:=tr "(.withUnfoldingAll 'with_unfolding_all (s ?0 ) )" [t]
open Lean in
def redT (t:Syntax):Syntax:=tr "(.withReducible 'with_reducible (s ?0 ) )" [t]
open Lean in
def cloT (c:Char):Syntax:=
 let w:=uh (isW · c) (clos.splitOn "\n")
 let t:=opn (if c == 'A'||c == 'p' then "zat" else "c" ++ toString c)
 if w != "" then tr (ij w) [] else if "APMTUDNQSOI".toList.contains c then unfT t else t
open Lean in
def ruleT (w:String):Syntax:=
 let t:=ij w
 if isW w '#' then opn t
 else if isW w '!' then cloT (t.toList.headD 'a')
 else if isW w '=' then redT (tr "(.exact 'exact (-app ?0 (null (-ellipsis '.. ) ) ) )" [eQ t])
 else
  let ws:=w.splitOn " "
  let n:=ws.headD ""
  let cw:=ws.getD 1 ""
  let dflt:=isW w '*'
  let back:=isW cw '~'
  let cs:=(if back then ij cw else cw).toList
  let md (t:Syntax):=if dflt then t else redT t
  let x:=[eQ (if dflt then ij n else n)]
  let k:=cs.length
  if k == 0 then md (tr "(.exact 'exact ?0 )" x)
  else tr "(.focus 'focus (s ** ) )" (semi (md (tr ("(.refine' 'refine' (-app ?0 (null " ++ String.join (List.replicate (if back then k+1 else k) "(-syntheticHole '? '_ ) ") ++ ") ) )") x) ::
   tr ("(.rotateRight 'rotate_right (null (num '" ++ toString (if back then 1 else k) ++ " ) ) )") []::oD cloT (cs.filter (· != '_'))))
open Lean in
def rwT (r:Syntax):Syntax:=alts [tm [eQ (if r[0].getNumArgs == 0 then "rwg" else "rwgs"),r[1]],tr "(.rewriteSeq 'rewrite (.optConfig (null ) ) (.rwRuleSeq '[ (null ?0 ) '] ) (null ) )" [r]]
open Lean in
local macro_rules (kind:=Lean.Parser.Tactic.rwSeq)
| stx=>jr stx (stx[3].getNumArgs+stx[1][0].getNumArgs > 0) (pars (oD rwT stx[2][1].getSepArgs.toList++[tr "(.tacticTry_ 'try (s (.withReducible 'with_reducible (s (.tacticRfl 'rfl ) ) ) ) )" []]))
open Lean in
local macro_rules (kind:=PySem.W.tacticK_lt_)
| stx=>
 let n:=stx[1].getId.eraseMacroScopes.toString
 let w:=((uh (λr=>(((r.splitOn ":").headD "").splitOn " ").contains n) (rows.splitOn "\n")).splitOn ":").getD 1 ""
 let b:=isW w '%'
 let t:=alts (oD ruleT ((if b then ij w else w).splitOn ";"))
 jr stx (w == "") (if isW w '@' then unfT (opn (ij w)) else if b then tr "(.tacticRepeat_ 'repeat (s ?0 ) )" [t] else t)
@[elab_as_elim] theorem rwg {α:Sort _}{a b:α}{p:α->Prop}(h:a=b)(q:p b):p a:=h▸q
@[elab_as_elim] theorem rwgs {α:Sort _}{a b:α}{p:α->Prop}(h:b=a)(q:p b):p a:=h▸q
theorem rq {g:Prop}(h:∀G:Prop,(g->G)->G):g:=h g id
theorem nid {α:Type}{p:α->Prop}:∀a,p a->p a:=λω h=>h
theorem ntr {α:Type}{p:α->Prop}:∀a,p a->True:=λω ω=>trivial
def auR:Lean.Syntax:=tr "(s (.tacticRfl 'rfl ) )" []
def auN:Lean.Syntax:=tr "(s (PySem.W.tacticK_lt_ 'k_lt n ) )" []
def auY:Lean.Syntax:=tr "(s (PySem.W.tacticK_lt_ 'k_lt ky ) )" []
def auG:Lean.Syntax:=tr "(s (PySem.W.tacticK_lt_ 'k_lt kg ) )" []
section
variable {x y z a b c k:Nat}
theorem om_le_pp (oh1:Nat.ble a b=true):x+a<=x+b:=Nat.add_le_add_left (Nat.le_of_ble_eq_true oh1) x
theorem om_lt_pp (oh1:Nat.blt a b=true):x+a<x+b:=Nat.add_lt_add_left (Nat.le_of_ble_eq_true oh1) x
theorem om_lt_0p (oh1:Nat.blt 0 b=true):x<x+b:=Nat.lt_add_of_pos_right (Nat.le_of_ble_eq_true oh1)
theorem om_ne_pp (oh1:Nat.beq a b=false):x+a≠x+b:=λoe1=>Nat.ne_of_beq_eq_false oh1 (Nat.add_left_cancel oe1)
theorem om_ne_p0 (oh1:Nat.blt 0 b=true):x+b≠x:=Nat.ne_of_gt (om_lt_0p oh1)
theorem om_ne_0p (oh1:Nat.blt 0 b=true):x≠x+b:=Nat.ne_of_lt (om_lt_0p oh1)
theorem om_lt_s (oh1:x+a<y)(oc1:Nat.ble b a=true):x+b<y:=Nat.lt_of_le_of_lt (Nat.add_le_add_left (Nat.le_of_ble_eq_true oc1) x) oh1
theorem om_lt_0 (oh1:x+a<y):x<y:=Nat.lt_of_le_of_lt (Nat.le_add_right x a) oh1
theorem om_le_0 (oh1:x+a<y):x<=y:=Nat.le_of_lt (om_lt_0 oh1)
theorem om_ne_gs (oh1:x+a<y)(oc1:Nat.ble b a=true):y≠x+b:=Nat.ne_of_gt (om_lt_s oh1 oc1)
theorem om_ne_sg (oh1:x+a<y)(oc1:Nat.ble b a=true):x+b≠y:=Nat.ne_of_lt (om_lt_s oh1 oc1)
theorem om_ne_gp (oh1:x+a<y)(oc1:Nat.ble b a=true):y+k≠x+b:=Nat.ne_of_gt (Nat.lt_of_lt_of_le (om_lt_s oh1 oc1) (Nat.le_add_right y k))
theorem om_ne_g0 (oh1:x+a<y):y≠x:=Nat.ne_of_gt (om_lt_0 oh1)
theorem om_ne_0g (oh1:x+a<y):x≠y:=Nat.ne_of_lt (om_lt_0 oh1)
theorem om_ne_gp0 (oh1:x+a<y):y+k≠x:=Nat.ne_of_gt (Nat.lt_of_lt_of_le (om_lt_0 oh1) (Nat.le_add_right y k))
theorem om_le_e (oe1:x=y):x<=y+b:=oe1▸Nat.le_add_right x b
theorem om_lt_se (oe1:y=z)(oh1:x+a<y)(oc1:Nat.ble b a=true):x+b<z:=oe1▸om_lt_s oh1 oc1
theorem om_lt_e (oe1:y=z)(oh1:x<y):x<z:=oe1▸oh1
theorem om_le_le (oe1:y=z)(oh1:x<=y):x<=z:=oe1▸oh1
theorem om_ne_e (oe1:y=z)(oh1:x<y):x≠z:=Nat.ne_of_lt (oe1▸oh1)
theorem om_ne_e' (oe1:y=z)(oh1:x<y):z≠x:=Nat.ne_of_gt (oe1▸oh1)
theorem om_ne_ep (oe1:y=z)(oh1:x<y):x≠z+b:=Nat.ne_of_lt (Nat.lt_of_lt_of_le (oe1▸oh1) (Nat.le_add_right z b))
theorem om_ne_gpx (oh1:x<y):y+k≠x:=Nat.ne_of_gt (Nat.lt_of_lt_of_le oh1 (Nat.le_add_right y k))
theorem om_ne_xpg (oh1:x<y):x≠y+k:=Nat.ne_of_lt (Nat.lt_of_lt_of_le oh1 (Nat.le_add_right y k))
theorem om_le_tr (oh1:x<=y):x<=y+k:=Nat.le_trans oh1 (Nat.le_add_right y k)
theorem om_le_lit (oh1:x<=a)(oc1:Nat.ble a b=true):x<=b:=Nat.le_trans oh1 (Nat.le_of_ble_eq_true oc1)
theorem om_lt_lit (oh1:x<=a)(oc1:Nat.blt a b=true):x<b:=Nat.lt_of_le_of_lt oh1 (Nat.le_of_ble_eq_true oc1)
theorem om_pos (oh1:a<x)(oc1:Nat.ble b a=true):b<x:=Nat.lt_of_le_of_lt (Nat.le_of_ble_eq_true oc1) oh1
theorem om_ne_le' (oh1:x<=y)(oh2:y<z):z≠x:=Nat.ne_of_gt (Nat.lt_of_le_of_lt oh1 oh2)
theorem iZ (h0:0<x)(h:a+k * x<=y)(hc:c<=k):a+c+k * (x - 1)<=y:=by
 cases x with
 | zero=>exact absurd h0 (Nat.lt_irrefl 0)
 | succ e=>exact Nat.le_trans (Nat.add_assoc a c _▸Nat.add_le_add_left (Nat.add_comm c _▸Nat.add_le_add_left hc _) a) h
theorem om_sub (oh1:k<x)(oc1:Nat.blt b k=true):b<x - 1:=Nat.lt_sub_of_add_lt (Nat.lt_of_le_of_lt (Nat.le_of_ble_eq_true oc1) oh1)
theorem om_sub2 (oh1:k<x)(oc1:Nat.blt b (k - 1)=true):b<x - 1 - 1:=om_sub (om_sub oh1 (k:=k) (b:=k - 1) (by
 cases k with
 | zero=>simp at oc1
 | succ k=>show Nat.ble (k+1) (k+1)=true;simp)) oc1
end
local macro_rules (kind:=Lean.Parser.Tactic.omega)
| stx=>jr stx (stx[1][0].getNumArgs > 0) (alts [opn "zom",tr "(.lia 'lia (.optConfig (null ) ) )" [],tr "(.omega 'omega (.optConfig (null (.configItem (.posConfigItem '+ splitDisjunctions ) ) ) ) )" []])
open Lean in
def csT (n:Syntax):Syntax:=tr "(.cases 'cases (null (.elimTarget (null ) ?0 ) ) (null ) (null ) )" [n]
open Lean in
def injT (h:Syntax)(ns:List String):Syntax:=
 let ns:=oD eQ ns
 pars (tr "(.injection 'injection ?0 (null 'with ?1 ) )" [h,mJ `null ns]::oD csT ns)
open Lean in
local macro_rules (kind:=Lean.Parser.Tactic.cases)
| stx=>
 let g:=stx[1][0]
 let h:=g[1]
 jr stx (stx[1].getNumArgs != 1||stx[2].getNumArgs+stx[3].getNumArgs+g[0].getNumArgs > 0 || !h.isIdent)
  (tr "(.paren '( (s (.guardHyp 'guard_hyp ?0 (null (Lean.Parser.colon (Lean.Parser.colonR ': ) ) («term_=_» (-hole '_ ) '= (-hole '_ ) ) ) (null ) ) '; ?1 ) ') )" [h,alts [tr "(.subst 'subst (null ?0 ) )" [h],tr "(.focus 'focus (s (.injection 'injection ?0 (null ) ) '; (.done 'done ) ) )" [h],injT h ["ι1","ι2","ι3","ι4"],injT h ["ι1","ι2","ι3"],injT h ["ι1","ι2"],injT h ["ι1"]]])
open Lean in
def rty (t:Syntax):Syntax:=tr "(.refine 'refine ?0 )" [sz [tr "(-syntheticHole '? '_ )" [],t]]
open Lean in
local macro_rules (kind:=Lean.Parser.Tactic.show)
| stx=>return rty stx[1]
open Lean in
local macro_rules (kind:=Lean.Parser.Tactic.change)
| stx=>jr stx (stx[2].getNumArgs > 0) (rty stx[1])
section
set_option tactic.hygienic true
noncomputable def keepAt (idx:List Nat)(l:List Stmt):List Stmt:=idx.filterMap (l[·]?)
end
section
set_option tactic.hygienic true
noncomputable abbrev prog:=PySem.Challenge.pw_in0070_01
noncomputable def ls:List Str:=[Str.ofString "_NodeInfo",Str.ofString "b2a_base64",Str.ofString "b64encode",Str.ofString "_twin_re_1",Str.ofString "_special_chars_map"]
noncomputable def view0:Program:={PySem.Challenge.pw_in0070_01 with main:={PySem.Challenge.pw_in0070_01.main with body:=keepAt [0,1,3,4,5,6,7,9,10,11,15,17,18,20,22,23,24,25,26,27,28,29] PySem.Challenge.pw_in0070_01.main.body}}
end
theorem said0:OpenLaw.wellSaid PySem.Challenge.rw_in0070_01=true:=by kernel_rfl
theorem hdA {A:Prop}(_:True)(x:A):A:=x
open Lean in
local macro_rules (kind:=PySem.W.tacticO_law) | stx=>return tr "(.refine 'refine (-app holds_law (null said0 (-fun 'fun (-basicFun (null (-hole '_ ) ) (null ) '=> (-syntheticHole '? '_ ) ) ) ) ) )" []
open Lean in
local macro_rules (kind:=PySem.W.tacticO_head_) | stx=>return tr "(.refine 'refine (-app hdA (null (-syntheticHole '? hw ) (-syntheticHole '? hc ) ) ) )" []
open Lean in
local macro_rules (kind:=PySem.W.tacticW_witness2) | stx=>return tr "(.tacticTrivial 'trivial )" []
open_top hd for PySem.Challenge.rw_in0070_01
section
set_option tactic.hygienic true
section
variable {tb:String->Option Builtin}{p:Program}{w:World}{n0:Nat}{ann:Option Value}
noncomputable def fZ (stp:SharedT->Thread->Option (SharedT×Thread))(n0:Nat)(ann:Option Value):Nat->SharedT->Thread->Option SharedT
 | 0,_,_=>none
 | n+1,s,t=>match through t with
  | true=>some s
  | false=>match stepOk n0 ann t with
   | false=>none
   | true=>match stp s t with
    | some (s',t')=>fZ stp n0 ann n s' t'
    | none=>none
theorem i9:∀{n:Nat} {s s':SharedT} {t:Thread},fZ (stepT (denote tb) p w) n0 ann n s t=some s'->topRun tb p w n0 ann n s.abs t=some s'.abs
 | 0,_,_,_,h=>by cases h
 | n+1,s,s',t,h=>by
  unfold fZ at h
  unfold topRun
  cases he:through t with
  | true=>rw [he] at h;cases h;rfl
  | false=>
   rw [he] at h
   cases hk:stepOk n0 ann t with
   | false=>rw [hk] at h;cases h
   | true=>
    rw [hk] at h
    cases hs:stepT (denote tb) p w s t with
    | none=>rw [hs] at h;cases h
    | some r=>obtain ⟨s2,t2⟩:=r;rw [hs] at h;rw [stepT_spec hs];exact i9 h
noncomputable def t0 (stp:SharedT->Thread->Option (SharedT×Thread)):Nat->SharedT->Thread->Option SharedT
 | 0,_,_=>none
 | n+1,s,t=>match t.atExitBegin with
  | some []=>some s
  | some (_::_)=>none
  | none=>match stp s t with
   | some (s',t')=>t0 stp n s' t'
   | none=>none
theorem pZ:∀{n:Nat} {s s':SharedT} {t:Thread},t0 (stepT (denote tb) p w) n s t=some s'->importEnds tb p w n s.abs t=some s'.abs
 | 0,_,_,_,h=>by cases h
 | n+1,s,s',t,h=>by
  unfold t0 at h
  unfold importEnds
  cases he:t.atExitBegin with
  | some l=>rw [he] at h;cases l <;> cases h;rfl
  | none=>
   rw [he] at h
   cases hs:stepT (denote tb) p w s t with
   | none=>rw [hs] at h;cases h
   | some r=>obtain ⟨s2,t2⟩:=r;rw [hs] at h;rw [stepT_spec hs];exact pZ h
end
noncomputable def tW:List Obj->Nat->BT->Option BT
 | [],_,t=>some t
 | o::l,n,t=>match ((t.ins n o).get n).isSome with
  | true=>tW l (n+1) (t.ins n o)
  | false=>none
theorem pW {life:Life}:∀{l:List Obj} {n:Nat} {t t':BT},tW l n t=some t'->absHeap t' (n+l.length) life=⟨(absHeap t n life).objs++l.toArray,life⟩
 | [],n,t,t',h=>by
  cases h
  show absHeap t n life=_
  rw [Array.append_empty]
  rfl
 | o::l,n,t,t',h=>by
  unfold tW at h
  cases e:((t.ins n o).get n).isSome with
  | false=>rw [e] at h;cases h
  | true=>
   rw [e] at h
   have:=pW (life:=life) h
   rw [absHeap_ins e] at this
   rw [List.length_cons,show n+(l.length+1)=n+1+l.length by omega,this]
   refine congrArg (Heap.mk · life) ?_
   show (absHeap t n life).objs.push o++_=_
   apply Array.toList_inj.mp
   simp
noncomputable def sE (s:Shared):Option SharedT:=match tW s.heap.objs.toList 0 .nil with
 | some t=>some ⟨t,s.heap.objs.toList.length,s.heap.life,s.gens,s.drawn,s.toks,s.os⟩
 | none=>none
theorem qA {s:Shared}{t:SharedT}(h:sE s=some t):t.abs=s:=by
 unfold sE at h
 cases e:tW s.heap.objs.toList 0 .nil with
 | none=>rw [e] at h;cases h
 | some b=>
  rw [e] at h
  cases h
  have:=pW (life:=s.heap.life) e
  rw [Nat.zero_add] at this
  show Shared.mk (absHeap b _ _) _ _ _ _=s
  rw [this]
  have e0:(absHeap .nil 0 s.heap.life).objs++s.heap.objs.toList.toArray=s.heap.objs:=by
   apply Array.toList_inj.mp
   simp [absHeap,BT.list]
  rw [e0]
noncomputable def sB (p:Program):SharedT:=⟨.nil,0,(start p).1.heap.life,(start p).1.gens,(start p).1.drawn,(start p).1.toks,(start p).1.os⟩
structure Tw where
 step:(Code->Sem Fin)->Program->World->SharedT->Thread->Option (SharedT×Thread)
 den:(String->Option Builtin)->Code->Sem Fin
 tab:String->Option Builtin
 fence:Program->Shared->Option Shared
 boot:Program->Shared×Thread
noncomputable def plainTw:=Tw.mk stepT denote treeTable fenceModules? start
noncomputable def fR:=Tw.mk PySem.W.Fast.tw10156331382660048174 PySem.W.Fast.tw11892475500146522536 PySem.W.Fast.tw14364793385576792824 PySem.W.Fast.tw14289696077712309145 PySem.W.Fast.tw1435165496053646825
theorem tw_eq:fR=plainTw:=by
 unfold plainTw fR
 congr 1
 ·exact PySem.W.Fast.te10156331382660048174.symm
 ·exact PySem.W.Fast.te11892475500146522536.symm
 ·exact PySem.W.Fast.te14364793385576792824.symm
 ·exact PySem.W.Fast.te14289696077712309145.symm
 ·exact PySem.W.Fast.te1435165496053646825.symm
section
variable {β:Type}{p:Program}{w:World}{N:Nat}{F:Shared->β}{b:β}
noncomputable def iY (k:Tw)(p:Program)(N:Nat)(w:World):Option SharedT:=match t0 (k.step (k.den k.tab) (opening p) w) N (sB (opening p)) (k.boot (opening p)).2 with
 | some s=>(match k.fence p s.abs with
  | some s'=>sE s'
  | none=>none)
 | none=>none
noncomputable def allWell (p:Program)(s₀ s₁:Shared):Bool:=staticsOk (importedModules p.main.body) s₀.heap s₁.heap&&namesBound p s₁.heap&&gensDone s₁&&laidKept s₀.heap s₁.heap
noncomputable def q7 (k:Tw)(p:Program)(N:Nat)(F:Shared->β)(w:World):Option (Bool×β):=match iY k p N w with
 | some s₀=>(match s₀.abs.heap.isNs mainGlobals&&s₀.abs.gens.size == 0 with
  | true=>(match fZ (k.step (k.den k.tab) p w) s₀.n (s₀.abs.heap.nsMap mainGlobals "__annotations__") N s₀ (topStub p) with
   | some s₁=>some (allWell p s₀.abs s₁.abs,F s₁.abs)
   | none=>none)
  | false=>none)
 | none=>none
theorem rC {s₀:SharedT}(e0:iY plainTw p N w=some s₀):fencedOpening treeTable p w N=some s₀.abs:=by
 unfold iY at e0
 cases e1:t0 (plainTw.step (plainTw.den plainTw.tab) (opening p) w) N (sB (opening p)) (plainTw.boot (opening p)).2 with
 | none=>rw [e1] at e0;cases e0
 | some s=>
  rw [e1] at e0
  dsimp only at e0
  have g:importEnds treeTable (opening p) w N (start (opening p)).1 (start (opening p)).2=some s.abs:=pZ e1
  unfold fencedOpening
  rw [g]
  cases e2:plainTw.fence p s.abs with
  | none=>rw [e2] at e0;cases e0
  | some s'=>rw [e2] at e0;rw [qA e0];exact e2
theorem iU (h:q7 fR p N F w=some (true,b)):(openEnds treeTable p w N).map F=some b:=by
 rw [tw_eq] at h
 unfold q7 at h
 cases e0:iY plainTw p N w with
 | none=>rw [e0] at h;cases h
 | some s₀=>
  rw [e0] at h
  dsimp only at h
  unfold openEnds
  rw [rC e0]
  show (topFrom treeTable p w N s₀.abs).map _=_
  unfold topFrom
  cases e1:s₀.abs.heap.isNs mainGlobals&&s₀.abs.gens.size == 0 with
  | false=>rw [e1] at h;cases h
  | true=>
   rw [e1] at h
   dsimp only at h
   cases e2:fZ (plainTw.step (plainTw.den plainTw.tab) p w) s₀.n (s₀.abs.heap.nsMap mainGlobals "__annotations__") N s₀ (topStub p) with
   | none=>rw [e2] at h;cases h
   | some s₁=>
    rw [e2] at h
    dsimp only at h
    have g:topRun treeTable p w s₀.n (s₀.abs.heap.nsMap mainGlobals "__annotations__") N s₀.abs (topStub p)=some s₁.abs:=i9 e2
    have hn:s₀.abs.heap.objs.size=s₀.n:=absHeap_size _ _ _
    obtain ⟨h1,h2⟩:=Prod.mk.inj (Option.some.inj h)
    have h1:(staticsOk (importedModules p.main.body) s₀.abs.heap s₁.abs.heap&&namesBound p s₁.abs.heap&&gensDone s₁.abs&&laidKept s₀.abs.heap s₁.abs.heap)=true:=h1
    simp only [hn,g,Option.bind_some,h1,Option.map_some,h2]
end
end
section
set_option tactic.hygienic true
noncomputable abbrev HK:Hook:=kmHook hd.heap_1 [2,3,32,34,35,37,38,46,47,49,50,52,53,54,56,57,58,59,60,63,70,71,72,73,83,84,86,87,89,90,91,93,94,96,97,98,100,101,103,104,105,108,109,110,112,113,115,116,117,119,120,122,123,124,126,127,129,130,131,133,134,136,137,138,140,141,143,144,145,147,148,150,151,152,153,154,155,156,159,161,162,164,165,166,168,169,171,172,173,174,176,177,179,180,181,182,184,185,187,188,192,193,195,199,201,202,204,205,206,208,209,211,212,213,215,216,218,219,220,222,223,225,226,227,230,231,232,235,236,237,240,241,242,244,245,247,248,249,252,253,254,257,258] (λω=>by kernel_rfl) [250,207,255]
noncomputable def F0 (s:Shared):=(openSeen view0 ls (importedModules prog.main.body) (λs=>xlAt view0 [] s&&recOk (RowW.records PySem.Challenge.rw_in0070_01.row.toRowW) s) true s,HK.obs s)
noncomputable def F1 (s:Shared):=(PySem.W.Fast.tw4187177175401517315 view0 ls (importedModules prog.main.body) (λs=>xlAt view0 [] s&&recOk (RowW.records PySem.Challenge.rw_in0070_01.row.toRowW) s) true s,HK.obs s)
theorem F_eq:F0=F1:=by
 funext s
 unfold F0 F1
 rw [PySem.W.Fast.te4187177175401517315]
def S0 (w:World):Prop:=(openEnds treeTable prog w 5828).map F1=some (openGood view0 ls,HK.val w)
theorem side_ff (w:World):S0 ((w.withFollow "special-get-raises" false).withFollow "comprehension-iter-twice" false):=iU (F:=F1) (show q7 fR prog 5828 F1 _=some (true,(openGood view0 ls,HK.val _)) from by kernel_rfl)
theorem side_tf (w:World):S0 ((w.withFollow "special-get-raises" true).withFollow "comprehension-iter-twice" false):=iU (F:=F1) (show q7 fR prog 5828 F1 _=some (true,(openGood view0 ls,HK.val _)) from by kernel_rfl)
theorem side_ft (w:World):S0 ((w.withFollow "special-get-raises" false).withFollow "comprehension-iter-twice" true):=iU (F:=F1) (show q7 fR prog 5828 F1 _=some (true,(openGood view0 ls,HK.val _)) from by kernel_rfl)
theorem side_tt (w:World):S0 ((w.withFollow "special-get-raises" true).withFollow "comprehension-iter-twice" true):=iU (F:=F1) (show q7 fR prog 5828 F1 _=some (true,(openGood view0 ls,HK.val _)) from by kernel_rfl)
theorem left0:LeftO prog view0 ls (λs=>xlAt view0 [] s&&recOk (RowW.records PySem.Challenge.rw_in0070_01.row.toRowW) s) HK.obs HK.val 5828:=by
 intro w
 show (openEnds treeTable prog w 5828).map F0=_
 rw [F_eq]
 exact byRow2 "comprehension-iter-twice" (P:=S0) (byRow2 "special-get-raises" (P:=λw=>S0 (w.withFollow "comprehension-iter-twice" false)) side_ff side_tf) (byRow2 "special-get-raises" (P:=λw=>S0 (w.withFollow "comprehension-iter-twice" true)) side_ft side_tt) w
end
section
variable {V V':Nat->Addr}{n n' i j:Nat}{α β:Type}{o:Obj}{U:Store}{ao x ao':AObj}{h':Heap}{κ:KX}{s:Shared}{a:Addr}
set_option tactic.hygienic true
inductive AVal where
 | none
 | bool (b:Bool)
 | int (i:Int)
 | str (s:Str)
 | bytes (b:Array UInt8)
 | top (v:Value)
 | any
 | loc (i:Nat)
inductive IterK where
 | list (l:Nat)
 | tuple (l:Nat)
 | bytes (b:Array UInt8)
 | range (a:Int) (n:Nat) (c:Int)
 | keys (d n ep:Nat)
 | vals (d n ep:Nat)
inductive AObj where
 | list (l:List AVal)
 | listS (o:Obj) (l:List AVal)
 | tuple (l:List AVal)
 | dict (es:List (Str×AVal))
 | idict (es:List (Str×AVal))
 | frame (m:List (Str×AVal))
 | cell (v:Option AVal)
 | inst (C:Addr) (d:Nat)
 | slots (C:Addr) (d:Nat) (l:List (Option AVal))
 | set (l:List Str)
 | object
 | iter (k:IterK) (i:Nat)
 | dictE (es:List (Str×AVal)) (ep:Nat)
 | range (a b c:Int)
 | vals (d:Nat)
 | iterL (l i:Nat)
 | bmeth (cls:String) (id:String) (self:AVal)
 | exc (cls:Value) (tb:Option Nat)
 | tback (fl:Option Nat)
 | tab (P:Addr) (es:List (Int×Int×Nat))
 | code (q:Str)
 | lam (qual:Str) (params:Arguments) (body:Expr) (scope:Scope) (cl:List (Str×Nat)) (code:Nat)
 | meth (f:Addr) (self:AVal)
 | raw (o:Obj)
def AObj.need (a:Addr):AObj->Prop
 | .dict _=>4<=a
 | .idict _=>4<=a
 | .dictE _ _=>4<=a
 | .tab P _=>a=P
 | _=>True
noncomputable abbrev Store:=List (Option AObj)
noncomputable def Store.at (U:Store)(i:Nat):Option AObj:=match U[i]? with | some (some o)=>some o | _=>none
def VR (V:Nat->Addr)(n:Nat):AVal->Value->Prop
 | .none,v=>v=.none
 | .bool b,v=>v=.bool b
 | .int i,v=>∃t,v=.int i t
 | .str x,v=>∃t,v=.str x t
 | .bytes b,v=>∃t,v=.bytes b t
 | .top u,v=>v=u
 | .any,_=>True
 | .loc i,v=>i<n/\v=.ref (V i)
def Ext (n:Nat)(V V':Nat->Addr):Prop:=∀i,i<n->V' i=V i
theorem Ext.refl (n:Nat)(V:Nat->Addr):Ext n V V:=λω ω=>rfl
theorem Ext.trans {n n':Nat}{V V' V'':Nat->Addr}(a:Ext n V V')(l:n<=n')(b:Ext n' V' V''):Ext n V V'':=
 λi h=>(b i (Nat.lt_of_lt_of_le h l)).trans (a i h)
theorem VR.ext {a:AVal}{v:Value}(h:VR V n a v)(e:Ext n V V')(l:n<=n'):VR V' n' a v:=by
 cases a <;> simp only [VR] at h ⊢ <;> try exact h
 exact ⟨Nat.lt_of_lt_of_le h.1 l,h.2.trans (by rw [e _ h.1])⟩
inductive All2 {α β:Type}(R:α->β->Prop):List α->List β->Prop
 | nil:All2 R [] []
 | cons {a b l m}:R a b->All2 R l m->All2 R (a::l) (b::m)
@[elab_as_elim] theorem All2.uncons {R:α->β->Prop}{a:α}{l:List α}{m:List β}{G:List β->Prop}(h:All2 R (a::l) m)(k:∀b m',R a b->All2 R l m'->G (b::m')):G m:=by
 cases h with
 | cons r rs=>exact k _ _ r rs
@[elab_as_elim] theorem All2.unnil {R:α->β->Prop}{m:List β}{G:List β->Prop}(h:All2 R [] m)(k:G []):G m:=by
 cases h;exact k
theorem All2.canon {α':Type}{f:α->α'}{p:α->Bool}{R:α'->β->Prop}{R':α->β->Prop}(k:∀{a b},R (f a) b->p a=true->R' a b){l:List α}:∀{m:List β},All2 R (l.map f) m->l.all p=true->All2 R' l m:=by
 induction l with
 | nil=>exact λh ω=>h.unnil .nil
 | cons a l ih=>
  intro m h q
  rw [List.all_cons,Bool.and_eq_true] at q
  exact h.uncons λb m r rs=>.cons (k r q.1) (ih rs q.2)
theorem All2.all {α β:Type}{p:α->Bool}{R:α->β->Prop}(k:∀{a b},R a b->p a=true){l:List α}{m:List β}(h:All2 R l m):l.all p=true:=by
 induction h with
 | nil=>rfl
 | cons r _ ih=>rw [List.all_cons,k r,ih];rfl
theorem All2.mono {R R':α->β->Prop}{l:List α}{m:List β}(h:All2 R l m)(k:∀a b,R a b->R' a b):All2 R' l m:=by
 induction h with
 | nil=>exact .nil
 | cons r _ ih=>exact .cons (k _ _ r) ih
theorem All2.length {α β:Type}{R:α->β->Prop}{l:List α}{m:List β}(h:All2 R l m):l.length=m.length:=by
 induction h with
 | nil=>rfl
 | cons _ _ ih=>simp [ih]
theorem All2.append {R:α->β->Prop}{l l':List α}{m m':List β}(h:All2 R l m)(h':All2 R l' m'):All2 R (l++l') (m++m'):=by
 induction h with
 | nil=>exact h'
 | cons r _ ih=>exact .cons r ih
theorem All2.get {R:α->β->Prop}{l:List α}{m:List β}(h:All2 R l m):∀{i:Nat} {a:α},l[i]? = some a->∃b,m[i]? = some b/\R a b:=by
 induction h with
 | nil=>intro i a e;simp at e
 | cons r _ ih=>
  intro i a e
  cases i with
  | zero=>simp at e;subst e;exact ⟨_,rfl,r⟩
  | succ i=>exact ih (by simpa using e)
abbrev VRs (V:Nat->Addr)(n:Nat):List AVal->List Value->Prop:=All2 (VR V n)
theorem VRs.ext {V V':Nat->Addr}{n n':Nat}{l:List AVal}{m:List Value}(h:VRs V n l m)(e:Ext n V V')(l':n<=n'):VRs V' n' l m:=h.mono λω ω x=>x.ext e l'
def OptVR (V:Nat->Addr)(n:Nat):Option AVal->Option Value->Prop
 | none,_=>True
 | some a,some v=>VR V n a v
 | some _,none=>False
noncomputable def keyH (w:World)(x:Str):Int:=PyData.keyHash w.params x
def DER (w:World)(V:Nat->Addr)(n:Nat)(p:Str×AVal)(e:DictEntry):Prop:=(∃t,e.key=.str p.1 t)/\e.hash=keyH w p.1/\VR V n p.2 e.val
def KVR (V:Nat->Addr)(n:Nat)(a:Str×AVal)(b:Str×Value):Prop:=a.1=b.1/\VR V n a.2 b.2
def SlotR (V:Nat->Addr)(n:Nat):Option AVal->Option Value->Prop
 | none,v=>v=none
 | some a,v=>∃w,v=some w/\VR V n a w
theorem SlotR.ext {V V':Nat->Addr}{n n':Nat}{a:Option AVal}{v:Option Value}(h:SlotR V n a v)(e:Ext n V V')(l:n<=n'):SlotR V' n' a v:=by
 cases a with
 | none=>exact h
 | some a=>obtain ⟨w,a,b⟩:=h;exact ⟨w,a,b.ext e l⟩
noncomputable def bf (V:Nat->Addr)(es:List (Int×Int×Nat)):List Value:=es.flatMap λe=>[rawInt e.1,rawInt e.2.1,.ref (V e.2.2)]
theorem ik (e:Ext n V V'){es:List (Int×Int×Nat)}(h:∀x∈es,x.2.2<n):bf V' es=bf V es:=by
 induction es with
 | nil=>rfl
 | cons a es ih=>
  haveI:=ih λx hx=>h x (.tail _ hx)
  unfold bf at this ⊢
  rw [List.flatMap_cons,List.flatMap_cons,this,e _ (h a (.head _))]
noncomputable def aM (V:Nat->Addr)(cl:List (Str×Nat)):List (Str×Addr):=cl.map λp=>(p.1,V p.2)
theorem du (e:Ext n V V'){cl:List (Str×Nat)}(h:∀x∈cl,x.2<n):aM V' cl=aM V cl:=List.map_congr_left λp hp=>by rw [e _ (h p hp)]
def IterR (V:Nat->Addr)(n:Nat):IterK->Nat->Obj->Prop
 | .list l,i,o=>l<n/\o.cls=.type "list_iterator"/\o.data=.fields #[.ref (V l),.int i 0]
 | .tuple l,i,o=>l<n/\o.cls=.type "tuple_iterator"/\o.data=.fields #[.ref (V l),.int i 0]
 | .bytes b,i,o=>∃t,o.cls=.type "bytes_iterator"/\o.data=.fields #[.bytes b t,.int i 0]
 | .range a m c,i,o=>o={cls:=.type "range_iterator",dict:=none,data:=.fields #[rawInt (a+(i:Nat) * c),rawInt ((m:Int) - (i:Nat)),rawInt c],slots:=#[]}
 | .keys d m ep,i,o=>d<n/\o.cls=.type "dict_keyiterator"/\o.data=.fields #[.ref (V d),.int i 0,.int m 0,.int ep 0]
 | .vals d m ep,i,o=>d<n/\o.cls=.type "dict_valueiterator"/\o.data=.fields #[.ref (V d),.int i 0,.int m 0,.int ep 0]
theorem IterR.ext {k:IterK}(h:IterR V n k i o)(e:Ext n V V')(l:n<=n'):IterR V' n' k i o:=by
 cases k <;> first | exact h | exact ⟨Nat.lt_of_lt_of_le h.1 l,h.2.1,by rw [e _ h.1];exact h.2.2⟩
def OR (p:Program)(w:World)(V:Nat->Addr)(n:Nat):AObj->Obj->Prop
 | .list l,o=>∃vs ep,o={cls:=.type "list",data:=.seq (List.toArray vs) ep}/\VRs V n l vs
 | .listS o' l,o=>o=o'/\o.cls=.type "list"/\∃vs ep,o.data=.seq (List.toArray vs) ep/\VRs V n l vs
 | .tuple l,o=>∃vs ep,o={cls:=.type "tuple",data:=.seq (List.toArray vs) ep}/\VRs V n l vs
 | .dict es,o=>∃kvs,o.IsDictOf (strKind p w) kvs/\All2 (KVR V n) es kvs
 | .idict es,o=>∃ds ep,o=dictOf ds ep/\All2 (DER w V n) es ds/\(es.map (·.1)).Nodup
 | .frame m,o=>∃es ep,o.data=.dict es ep/\StrKeys es/\∀x,OptVR V n (m.lookup x) (nsFind es x)
 | .cell v,o=>∃v',o.data=.cell v'/\OptVR V n v v'/\(v=none->v'=none)
 | .inst C d,o=>d<n/\o=instObj C (V d)
 | .slots C d l,o=>d<n/\∃vs,All2 (SlotR V n) l vs/\o={cls:=.ref C,dict:=some (V d),data:=.plain,slots:=vs.toArray}
 | .set l,o=>o.SetObjOf (strKind p w) (λk=>decide (k∈l)) l.length
 | .object,o=>o={cls:=.type "object"}
 | .iter k i,o=>IterR V n k i o
 | .dictE es ep,o=>∃kvs des,o.ExactDict/\o.data=.dict des ep/\KeysOf (strKind p w) des/\Pairs (strKind p w) des.toList kvs/\(kvs.map (·.1)).Nodup/\All2 (KVR V n) es kvs
 | .range a b c,o=>∃t u v,o={cls:=.type "range",dict:=none,data:=.fields #[.int a t,.int b u,.int c v],slots:=#[]}
 | .vals d,o=>d<n/\o.cls=.type "dict_values"/\o.data=.fields #[.ref (V d)]
 | .iterL l i,o=>l<n/\o={cls:=.type "list_iterator",data:=.fields #[.ref (V l),.int i 0]}
 | .bmeth cls id a,o=>∃v,VR V n a v/\o={cls:=.type cls,data:=.fields #[.builtin id,v]}
 | .exc cls tb,o=>o.cls=cls/\∃vs a0,o.data=.fields vs/\vs[0]? = some a0/\(match tb with
  | none=>vs[1]? = some .none
  | some t=>t<n/\vs[1]? = some (.ref (V t)))
 | .tback fl,o=>∃ts,o.data=.fields ts/\(match fl with
  | none=>ts[3]? = some .none
  | some L=>L<n/\ts[3]? = some (rawInt (V L)))
 | .tab _ es,o=>∃ps,o=tabObj ps/\ps.toList=bf V es/\∀e∈es,e.2.2<n
 | .code q,o=>∃vs tq,o.data=.fields vs/\vs[1]? = some (.str q tq)
 | .lam qual params body scope cl k,o=>k<n/\(∀e∈cl,e.2<n)/\∃pm ctv,o=kla_obj "<lambda>" qual params body scope (aM V cl) pm (V k) ctv
 | .meth f a,o=>∃v,VR V n a v/\o=methodObj (.ref f) v
 | .raw o',o=>o=o'
theorem DER.ext {w:World}{V V':Nat->Addr}{n n':Nat}{p:Str×AVal}{d:DictEntry}(h:DER w V n p d)(e:Ext n V V')(l:n<=n'):DER w V' n' p d:=⟨h.1,h.2.1,h.2.2.ext e l⟩
theorem OptVR.ext {V V':Nat->Addr}{n n':Nat}{a:Option AVal}{v:Option Value}(h:OptVR V n a v)(e:Ext n V V')(l:n<=n'):OptVR V' n' a v:=by
 cases a with
 | none=>trivial
 | some a=>cases v with
  | none=>exact h
  | some v=>exact VR.ext (a:=a) (v:=v) h e l
theorem OR.ext {p:Program}{w:World}{V V':Nat->Addr}{n n':Nat}{ao:AObj}{o:Obj}(h:OR p w V n ao o)(e:Ext n V V')(l:n<=n'):OR p w V' n' ao o:=by
 cases ao with
 | list xs=>obtain ⟨vs,ep,d,r⟩:=h;exact ⟨vs,ep,d,r.ext e l⟩
 | listS o' xs=>obtain ⟨z,c,vs,ep,d,r⟩:=h;exact ⟨z,c,vs,ep,d,r.ext e l⟩
 | tuple xs=>obtain ⟨vs,ep,d,r⟩:=h;exact ⟨vs,ep,d,r.ext e l⟩
 | dict es=>obtain ⟨kvs,d,r⟩:=h;exact ⟨kvs,d,r.mono λω ω x=>⟨x.1,x.2.ext e l⟩⟩
 | idict es=>obtain ⟨ds,ep,d,r,nd⟩:=h;exact ⟨ds,ep,d,r.mono λω ω x=>x.ext e l,nd⟩
 | frame m=>obtain ⟨es,ep,d,k,r⟩:=h;exact ⟨es,ep,d,k,λx=>(r x).ext e l⟩
 | cell v=>obtain ⟨v',d,r,z⟩:=h;exact ⟨v',d,r.ext e l,z⟩
 | inst C d=>obtain ⟨a,b⟩:=h;exact ⟨Nat.lt_of_lt_of_le a l,b.trans (by rw [e _ a])⟩
 | slots C dd xs=>obtain ⟨q,vs,r,d⟩:=h;exact ⟨Nat.lt_of_lt_of_le q l,vs,r.mono λω ω x=>x.ext e l,d.trans (by rw [e _ q])⟩
 | set _=>exact h
 | object=>exact h
 | iter k i=>exact IterR.ext h e l
 | dictE es ep=>obtain ⟨kvs,des,a,b,d,f,g,r⟩:=h;exact ⟨kvs,des,a,b,d,f,g,r.mono λω ω x=>⟨x.1,x.2.ext e l⟩⟩
 | range a b c=>exact h
 | vals d=>exact ⟨Nat.lt_of_lt_of_le h.1 l,h.2.1,by rw [e _ h.1];exact h.2.2⟩
 | iterL l2 i2=>exact ⟨Nat.lt_of_lt_of_le h.1 l,by rw [e _ h.1];exact h.2⟩
 | bmeth c i a=>obtain ⟨v,r,d⟩:=h;exact ⟨v,r.ext e l,d⟩
 | exc c tb=>
  obtain ⟨a,vs,a0,b,c',d⟩:=h
  refine ⟨a,vs,a0,b,c',?_⟩
  cases tb with
  | none=>exact d
  | some t=>exact ⟨Nat.lt_of_lt_of_le d.1 l,by rw [e _ d.1];exact d.2⟩
 | tback fl=>
  obtain ⟨ts,b,d⟩:=h
  refine ⟨ts,b,?_⟩
  cases fl with
  | none=>exact d
  | some t=>exact ⟨Nat.lt_of_lt_of_le d.1 l,by rw [e _ d.1];exact d.2⟩
 | tab P es=>obtain ⟨ps,a,b,d⟩:=h;exact ⟨ps,a,b.trans (ik e d).symm,λx hx=>Nat.lt_of_lt_of_le (d x hx) l⟩
 | code q=>exact h
 | lam qual params body scope cl k=>
  obtain ⟨a,b,pm,ctv,d⟩:=h
  exact ⟨Nat.lt_of_lt_of_le a l,λx hx=>Nat.lt_of_lt_of_le (b x hx) l,pm,ctv,d.trans (by rw [du e b,e _ a])⟩
 | meth f a=>obtain ⟨v,r,d⟩:=h;exact ⟨v,r.ext e l,d⟩
 | raw o'=>exact h
structure KX where
 p:Program
 w:World
 A:Around
 G:Heap
 h₀:Heap
 outs:List Env
 os:OsState
noncomputable def KX.frs (κ:KX):List Addr:=κ.outs.filterMap (·.frame)
structure SP where
 d:Nat
 free:Bool
def FunFr (h:Heap)(l:List Env):Prop:=∀env∈l,env.scope.kind≠.module/\∃L o,env.frame=some L/\h.get? L=some o/\∀vs,o.data≠.fields vs
def Keeps (frs:List Addr)(h₀ h:Heap):Prop:=∀b o,h₀.get? b=some o->∃sl,h.get? b=some {o with slots:=sl}/\(b∉frs->sl=o.slots)
structure St (κ:KX)(V:Nat->Addr)(U:Store)(s:Shared):Prop where
 keep:Keeps κ.frs κ.h₀ s.heap
 obj:∀i ao,U.at i=some ao->∃o,s.heap.get? (V i)=some o/\OR κ.p κ.w V U.length ao o
 new:∀i ao,U.at i=some ao->κ.h₀.get? (V i)=none
 inj:∀i j a b,U.at i=some a->U.at j=some b->V i=V j->i=j
 bare:s.gens = #[]
 os:s.os=κ.os
 low:∀i ao,U.at i=some ao->ao.need (V i)
 big:4<=s.heap.objs.size
structure dS where
 fd:FuncData
 body:List Stmt
 bind:List AVal->List (Str×AVal)->Store->Option (List (Str×AVal)×Store)
structure aJ where
 init:Addr
 meths:List (Str×Addr)
 own:List Str
 slots:List (Str×Addr×Nat)
 size:Nat
structure Cfg where
 K:Params->Frag
 loose:List Str
 glob:Str->Option AVal
 blt:Str->Option AVal
 fn:Addr->Option dS
 cls:Addr->Option aJ
 tabs:List (Addr×Addr)
structure FnOk (K:Params->Frag)(f:Addr)(i:dS):Prop where
 at_:∀P,∃oc od osl,(K P).lookup f=some ⟨oc,od,.func i.fd,osl⟩
 body:i.fd.body=.stmts i.body
 co:i.fd.scope.isCoroutine=false
 gen:i.fd.scope.isGenerator=false
 kind:i.fd.scope.kind=.function
 globals:i.fd.globals=mainGlobals
 closure:i.fd.closure=[]
 builtins:i.fd.builtins=builtinsNs
 code:∀P,codeIn (K P) i.fd.code i.fd.qualname=true
 binds:∀(κ:KX) V U s args kw vs ks bs U' (E:Value->Shared->Prop),(K κ.w.params).In s.heap->St κ V U s->VRs V U.length args vs->All2 (KVR V U.length) kw ks->i.bind args kw U=some (bs,U')->
  wpAny (model κ.p κ.w) κ.A (bindArgs i.fd ⟨vs,ks⟩) (λbinds s'=>∃V',Ext U.length V V'/\U.length<=U'.length/\St κ V' U' s'/\All2 (KVR V' U'.length) bs binds) E s
structure vp (K:Params->Frag)(C:Addr)(i:aJ):Prop where
 keep:∀P,keepIn (K P) (.ref C)=true
 makes:∀P,makesIn (K P) C=true
 init:∀P,findIn (K P) (.ref C) "__init__" = some (some (.ref i.init))/\isFn (K P) (.ref i.init)=true
 get:∀P x,plainGet (K P) C x=true
 set:∀P,findIn (K P) (.ref C) "__setattr__" = some (some (.builtin "object.__setattr__"))/\plainOver (K P) C=true/\(clsIn (K P) C).isSome=true
 meths:∀x f,i.meths.lookup x=some f->∀P,findIn (K P) (.ref C) x=some (some (.ref f))/\isFn (K P) (.ref f)=true/\specialIn (K P) (.ref f) "__get__" = some (some (.builtin "function.__get__"))/\takesIn (K P) (.ref f)=some false/\hasDictIn (K P) C=true/\copiedNames.contains x=false
 own:∀x,x∈i.own->∀P,findIn (K P) (.ref C) x=some none/\hasDictIn (K P) C=true
 slots:∀x p k,i.slots.lookup x=some (p,k)->k<1000/\∀P,findIn (K P) (.ref C) x=some (some (.ref p))/\specialIn (K P) (.ref p) "__get__" = some (some (.builtin "member_descriptor.__get__"))/\takesIn (K P) (.ref p)=some true/\slotIn (K P) p C=some k/\typeIn (K P) (.ref p)=some (.type "member_descriptor")
structure Cfg.Ok (c:Cfg):Prop where
 glob:∀x a,c.glob x=some a->∀P,∃v,nsIn (c.K P) mainGlobals x=some (some v)/\VR (λω=>0) 0 a v
 blt:∀x a,c.blt x=some a->(∀P,nsIn (c.K P) mainGlobals x=some none)/\(∃v,bootBuiltins x=some v/\VR (λω=>0) 0 a v)/\x≠"__name__"
 fn:∀f i,c.fn f=some i->FnOk c.K f i
 cls:∀C i,c.cls C=some i->vp c.K C i
structure KX.Ok (c:Cfg)(P:SP)(κ:KX):Prop where
 cfg:c.Ok
 keepG:∀b o,κ.G.get? b=some o->κ.h₀.get? b=some o
 frG:∀b∈κ.frs,κ.G.get? b=none
 X:(c.K κ.w.params).In κ.G
 T:∃mg mb,TopRead topProg c.loose mg mb κ.G
 tabs:∀q∈c.tabs,CodeHd κ.G q.1 q.2
 bmain:∃mg bm ob,κ.G.Ns mainGlobals mg/\mg "__builtins__" = some (.ref bm)/\bm≠builtinsNs/\bm≠mainGlobals/\κ.G.get? bm=some ob/\ob.cls=.type "module"/\ob.dict=some builtinsNs/\ob.data=.plain
 depth:κ.A.depth+4 * P.d<=600
 units:κ.A.units+40 * P.d<=1000
 handled:P.free=true->κ.A.handled=none
 frames:FunFr κ.h₀ κ.outs
theorem Store.at_lt (h:U.at i=some ao):i<U.length:=by
 unfold Store.at at h
 split at h
 ·rename_i o e;exact (List.getElem?_eq_some_iff.mp e).1
 ·cases h
noncomputable def Store.put (U:Store)(i:Nat)(ao:AObj):Store:=U.set i (some ao)
@[simp] theorem Store.put_length (U:Store)(i:Nat)(ao:AObj):(U.put i ao).length=U.length:=List.length_set
theorem Store.at_put (h:i<U.length)(ao:AObj)(j:Nat):(U.put i ao).at j=if j=i then some ao else U.at j:=by
 unfold Store.at Store.put
 rw [List.getElem?_set]
 by_cases e:i=j
 ·subst e;simp [h]
 ·simp [e,Ne.symm e]
theorem Store.at_push (U:Store)(ao:AObj)(j:Nat):Store.at (U++[some ao]) j=if j=U.length then some ao else U.at j:=by
 unfold Store.at
 rw [List.getElem?_append]
 by_cases e:j<U.length
 ·simp [e,Nat.ne_of_lt e]
 ·by_cases q:j=U.length
  ·subst q;simp
  ·haveI:¬j<U.length:=e
   simp only [this,if_false,q,if_false]
   haveI h1:j - U.length≠0:=by omega
   obtain ⟨k,hk⟩:=Nat.exists_eq_succ_of_ne_zero h1
   rw [hk]
   simp only [List.getElem?_cons_succ,List.getElem?_nil]
   rw [List.getElem?_eq_none (by omega)]
theorem Store.of_put (h:(U.put i ao).at j=some x):(j=i/\x=ao/\i<U.length)∨(j≠i/\U.at j=some x):=by
 haveI hl:j<U.length:=Store.put_length U i ao▸Store.at_lt h
 by_cases e:j=i
 ·subst e
  rw [Store.at_put hl,if_pos rfl] at h
  exact .inl ⟨rfl,(Option.some.inj h).symm,hl⟩
 ·refine .inr ⟨e,?_⟩
  unfold Store.at Store.put at h
  rw [List.getElem?_set_ne (Ne.symm e)] at h
  exact h
theorem Store.of_push (h:Store.at (U++[some ao]) j=some x):(j=U.length/\x=ao)∨U.at j=some x:=by
 rw [Store.at_push] at h
 by_cases e:j=U.length
 ·rw [if_pos e] at h;exact .inl ⟨e,(Option.some.inj h).symm⟩
 ·rw [if_neg e] at h;exact .inr h
structure vc (κ:KX)(V:Nat->Addr)(n:Nat)(h:Heap)(j:Nat)(ao:AObj):Prop where
 obj:∃o,h.get? (V j)=some o/\OR κ.p κ.w V n ao o
 new:κ.h₀.get? (V j)=none
 low:ao.need (V j)
theorem nns {a:α}{p:Prop}(h:none=some a):p:=nomatch h
theorem Heap.Keeps.of {frs:List Addr}{h₀ h:Heap}(k:Keeps frs h₀ h)(e:∀b o o',h₀.get? b=some o->h.get? b=some o'->h'.get? b=some o'):Keeps frs h₀ h':=λb o q=>
 (k b o q).elim λsl z=>⟨sl,e b o _ q z.1,z.2⟩
theorem St.set (st:St κ V U s)(keep:Keeps κ.frs κ.h₀ h')(big:4<=h'.objs.size)(hi:i<U.length->vc κ V U.length h' i ao)
  (hold:∀j x,j≠i->U.at j=some x->(∃o,h'.get? (V j)=some o/\OR κ.p κ.w V U.length x o)/\V j≠V i) (tk:Nat) (dr:Drawn):St κ V (U.put i ao) {s with heap:=h',toks:=tk,drawn:=dr}:=by
 have live:∀j x,(U.put i ao).at j=some x->vc κ V U.length h' j x:=λj x h=>by
  rcases Store.of_put h with ⟨rfl,rfl,hl⟩ | ⟨e,h⟩
  ·exact hi hl
  ·exact ⟨(hold j x e h).1,st.new j x h,st.low j x h⟩
 refine ⟨keep,λj x h=>(Store.put_length U i ao).symm▸(live j x h).obj,λj x h=>(live j x h).new,λj k x y hj hk e=>?_,st.bare,st.os,λj x h=>(live j x h).low,big⟩
 rcases Store.of_put hj with ⟨rfl,_,_⟩ | ⟨p,gj⟩
 ·rcases Store.of_put hk with ⟨rfl,_,_⟩ | ⟨q,gk⟩
  ·rfl
  ·exact absurd e.symm (hold k y q gk).2
 ·rcases Store.of_put hk with ⟨rfl,_,_⟩ | ⟨q,gk⟩
  ·exact absurd e (hold j x p gj).2
  ·exact st.inj j k x y gj gk e
theorem St.turn (st:St κ V U s)(hi:U.at i=some ao)(hs:∀b o,b≠V i->s.heap.get? b=some o->h'.get? b=some o)(big:4<=h'.objs.size)
  (ho:∃o,h'.get? (V i)=some o/\OR κ.p κ.w V U.length ao' o) (tk:Nat) (dr:Drawn) (hk:∀a,ao.need a->ao'.need a):St κ V (U.put i ao') {s with heap:=h',toks:=tk,drawn:=dr}:=
 st.set (Heap.Keeps.of st.keep λb o o' q g=>hs b o' (λe=>nns ((st.new i ao hi).symm.trans (e▸q))) g) big (λω=>⟨ho,st.new i ao hi,hk _ (st.low i ao hi)⟩)
  (λj x e hj=>have ne:V j≠V i:=λq=>e (st.inj j i x ao hj hi q)
   ⟨(st.obj j x hj).elim λo z=>⟨o,hs _ _ ne z.1,z.2⟩,ne⟩) tk dr
theorem St.upd (st:St κ V U s)(hi:U.at i=some ao)(hs:Heap.SameBut (V i) s.heap h')
  (ho:∃o,h'.get? (V i)=some o/\OR κ.p κ.w V U.length ao' o) (tk:Nat) (dr:Drawn) (hk:autoParam (∀a,ao.need a->ao'.need a) auN):St κ V (U.put i ao') {s with heap:=h',toks:=tk,drawn:=dr}:=
 st.turn hi (λb o e g=>(hs.2 b e).trans g) (hs.1▸st.big) ho tk dr hk
theorem St.toks (st:St κ V U s)(tk:Nat)(dr:Drawn):St κ V U {s with toks:=tk,drawn:=dr}:=⟨st.keep,st.obj,st.new,st.inj,st.bare,st.os,st.low,st.big⟩
noncomputable def aw (V:Nat->Addr)(n:Nat)(a:Addr):Nat->Addr:=λi=>if i=n then a else V i
theorem ah (V:Nat->Addr)(n:Nat)(a:Addr):Ext n V (aw V n a):=λi h=>by unfold aw;rw [if_neg (Nat.ne_of_lt h)]
theorem ad (V:Nat->Addr)(n:Nat)(a:Addr):aw V n a n=a:=by unfold aw;rw [if_pos rfl]
theorem St.add (st:St κ V U s)(keep:Keeps κ.frs κ.h₀ h')(big:4<=h'.objs.size)
  (hold:∀j x,U.at j=some x->(∃o,h'.get? (V j)=some o/\OR κ.p κ.w V U.length x o)/\V j≠a) (ho:h'.get? a=some o) (r:OR κ.p κ.w (aw V U.length a) (U.length+1) ao o) (h0:κ.h₀.get? a=none) (low:ao.need a) (tk:Nat) (dr:Drawn) :
  St κ (aw V U.length a) (U++[some ao]) {s with heap:=h',toks:=tk,drawn:=dr}:=by
 haveI e0:=ah V U.length a
 haveI live:∀j x,Store.at (U++[some ao]) j=some x->vc κ (aw V U.length a) (U.length+1) h' j x:=λj x h=>by
  rcases Store.of_push h with ⟨rfl,rfl⟩ | h
  ·exact ⟨⟨o,by rw [ad];exact ho,r⟩,by rw [ad];exact h0,by rw [ad];exact low⟩
  ·haveI e1:=e0 j (Store.at_lt h)
   exact ⟨(hold j x h).1.elim λo z=>⟨o,e1.symm▸z.1,z.2.ext e0 (Nat.le_succ _)⟩,e1.symm▸st.new j x h,e1.symm▸st.low j x h⟩
 haveI l1:(U++[some ao]).length=U.length+1:=List.length_append
 refine ⟨keep,λj x h=>l1.symm▸(live j x h).obj,λj x h=>(live j x h).new,λj k x y hj hk e=>?_,st.bare,st.os,λj x h=>(live j x h).low,big⟩
 rcases Store.of_push hj with ⟨rfl,_⟩ | gj
 ·rcases Store.of_push hk with ⟨rfl,_⟩ | gk
  ·rfl
  ·rw [ad,e0 k (Store.at_lt gk)] at e
   exact absurd e.symm (hold k y gk).2
 ·rw [e0 j (Store.at_lt gj)] at e
  rcases Store.of_push hk with ⟨rfl,_⟩ | gk
  ·rw [ad] at e
   exact absurd e (hold j x gj).2
  ·rw [e0 k (Store.at_lt gk)] at e
   exact st.inj j k x y gj gk e
theorem St.newAt (st:St κ V U s)(hn:s.heap.get? a=none)(hd:ao.need a)(hk:∀b o,s.heap.get? b=some o->h'.get? b=some o)
  (ho:h'.get? a=some o) (r:OR κ.p κ.w (aw V U.length a) (U.length+1) ao o) (hb:4<=h'.objs.size) (tk:Nat) (dr:Drawn):St κ (aw V U.length a) (U++[some ao]) {s with heap:=h',toks:=tk,drawn:=dr}:=
 st.add (Heap.Keeps.of st.keep λb ω o' ω g=>hk b o' g) hb (λj x hj=>(st.obj j x hj).elim λo z=>⟨⟨o,hk _ _ z.1,z.2⟩,λe=>nns (hn.symm.trans (e▸z.1))⟩) ho r
  (Option.eq_none_iff_forall_ne_some.mpr λo q=>(st.keep a o q).elim λω z=>nns (hn.symm.trans z.1)) hd tk dr
theorem St.new' (st:St κ V U s)(hn:s.heap.objs.size<=a)(hk:∀b o,s.heap.get? b=some o->h'.get? b=some o)
  (ho:h'.get? a=some o) (r:OR κ.p κ.w (aw V U.length a) (U.length+1) ao o) (tk:Nat) (dr:Drawn) (hw:autoParam (∀a,4<=a->ao.need a) auN):St κ (aw V U.length a) (U++[some ao]) {s with heap:=h',toks:=tk,drawn:=dr}:=
 st.newAt (Heap.get?_none_of_le hn) (hw _ (Nat.le_trans st.big hn)) hk ho r (Nat.le_trans st.big (Nat.le_of_lt (Nat.lt_of_le_of_lt hn (Heap.lt_size ho)))) tk dr
theorem St.noMods (st:St κ V U s)(h:U.at i=some ao)(hn:autoParam (∀a,ao.need a->4<=a) auN):(V i == sysModules)=false:=by
 haveI:=hn _ (st.low i ao h)
 exact beq_eq_false_iff_ne.mpr λe=>by rw [e] at this;exact absurd this (by decide)
end
section
inductive ai where
 | next
 | brk
 | cont
 | ret (a:AVal)
def FR (V:Nat->Addr)(n:Nat):ai->Flow->Prop
 | .next,f=>f=.next
 | .brk,f=>f=.brk
 | .cont,f=>f=.cont
 | .ret a,f=>∃v,f=.ret v/\VR V n a v
structure AEnv where
 scope:Scope
 loc:Nat
 frame:Nat
 cells:List (Str×Nat)
 qual:Str
 func:AVal
 code:AVal
 inner:Bool:=false
noncomputable def dB (V:Nat->Addr):AVal->Option Addr
 | .top (.ref a)=>some a
 | .loc i=>some (V i)
 | _=>none
noncomputable def b9 (V:Nat->Addr):AVal->Value
 | .top v=>v
 | .loc i=>.ref (V i)
 | _=>.none
noncomputable def AEnv.conc (E:AEnv)(V:Nat->Addr):Env:=
 {scope:=E.scope,locals:=V E.loc,globals:=mainGlobals,cells:=E.cells.map λp=>(p.1,V p.2),qual:=E.qual,func:=dB V E.func,code:=b9 V E.code,frame:=some (V E.frame),builtins:=builtinsNs}
def AVal.lt (n:Nat):AVal->Prop
 | .loc i=>i<n
 | _=>True
structure AEnv.Valid (E:AEnv)(n:Nat):Prop where
 loc:E.loc<n
 frame:E.frame<n
 cells:∀p∈E.cells,p.2<n
 func:E.func.lt n
 code:E.code.lt n
theorem AVal.lt.mono {a:AVal}{n m:Nat}(h:a.lt n)(l:n<=m):a.lt m:=by
 cases a <;> first | trivial | exact Nat.lt_of_lt_of_le h l
theorem AEnv.Valid.mono {E:AEnv}{n m:Nat}(h:E.Valid n)(l:n<=m):E.Valid m:=
 ⟨Nat.lt_of_lt_of_le h.loc l,Nat.lt_of_lt_of_le h.frame l,λp hp=>Nat.lt_of_lt_of_le (h.cells p hp) l,h.func.mono l,h.code.mono l⟩
theorem AEnv.conc_ext {E:AEnv}{n:Nat}{V V':Nat->Addr}(h:E.Valid n)(e:Ext n V V'):E.conc V'=E.conc V:=by
 unfold AEnv.conc
 have h1:=e _ h.loc
 have h2:=e _ h.frame
 have h3:(E.cells.map λp=>(p.1,V' p.2))=E.cells.map λp=>(p.1,V p.2):=List.map_congr_left λp hp=>by rw [e _ (h.cells p hp)]
 have h4:dB V' E.func=dB V E.func:=by
  have:=h.func
  cases hf:E.func with
  | loc i=>rw [hf] at this;show some (V' i)=some (V i);rw [e _ this]
  | top v=>cases v <;> rfl
  | _=>rfl
 have h5:b9 V' E.code=b9 V E.code:=by
  have:=h.code
  cases hf:E.code with
  | loc i=>rw [hf] at this;show Value.ref (V' i)=.ref (V i);rw [e _ this]
  | _=>rfl
 rw [h1,h2,h3,h4,h5]
def Post {α:Type}(κ:KX)(V:Nat->Addr)(n:Nat)(G:(Nat->Addr)->Store->α->Prop)(r:α)(s':Shared):Prop:=
 ∃V' U',Ext n V V'/\n<=U'.length/\St κ V' U' s'/\G V' U' r
theorem Post.back {α:Type}{κ:KX}{V V':Nat->Addr}{n n':Nat}{G:(Nat->Addr)->Store->α->Prop}{r:α}{s':Shared}(e:Ext n V V')(l:n<=n')(h:Post κ V' n' G r s'):Post κ V n G r s':=by
 obtain ⟨V'',U'',e',l',st,g⟩:=h
 exact ⟨V'',U'',e.trans l e',Nat.le_trans l l',st,g⟩
theorem Post.mono {α:Type}{κ:KX}{V:Nat->Addr}{n:Nat}{G G':(Nat->Addr)->Store->α->Prop}{r:α}{s':Shared}(h:Post κ V n G r s')(k:∀V' U' r,Ext n V V'->n<=U'.length->G V' U' r->G' V' U' r):Post κ V n G' r s':=by
 obtain ⟨V'',U'',e',l',st,g⟩:=h
 exact ⟨V'',U'',e',l',st,k _ _ _ e' l' g⟩
def gV (Q:AVal->Store->Prop):(Nat->Addr)->Store->Value->Prop:=λV U v=>∃a,VR V U.length a v/\Q a U
def gVs (Q:List AVal->Store->Prop):(Nat->Addr)->Store->List Value->Prop:=λV U vs=>∃as,VRs V U.length as vs/\Q as U
def gF (Q:ai->Store->Prop):(Nat->Addr)->Store->Flow->Prop:=λV U f=>∃a,FR V U.length a f/\Q a U
def gU (Q:Store->Prop):(Nat->Addr)->Store->Unit->Prop:=λω U ω=>Q U
def gB (Q:Bool->Store->Prop):(Nat->Addr)->Store->Bool->Prop:=λω U b=>Q b U
def gX (X:Nat->Store->Prop):(Nat->Addr)->Store->Value->Prop:=λV U e=>∃i,i<U.length/\e=.ref (V i)/\X i U
noncomputable abbrev XP:=Nat->Store->Prop
noncomputable def noX:XP:=λω ω=>False
def J {α:Type}(c:Cfg)(κ:KX)(V:Nat->Addr)(n:Nat)(t:Sem α)(G:(Nat->Addr)->Store->α->Prop)(X:XP)(s:Shared):Prop:=
 wpAny (model κ.p κ.w) κ.A t (Post κ V n G) (Post κ V n (gX X)) s
section
variable {α β:Type}{c:Cfg}{κ:KX}{V:Nat->Addr}{U:Store}{n:Nat}{X:XP}{s:Shared}
theorem J.mono {t:Sem α}{G G':(Nat->Addr)->Store->α->Prop}{X':XP}(h:J c κ V n t G X s)(k:∀V' U' r,Ext n V V'->n<=U'.length->G V' U' r->G' V' U' r)(kx:∀i U',X i U'->X' i U'):J c κ V n t G' X' s:=
 wpAny_mono h (λω ω x=>x.mono k) λω ω x=>x.mono λ_ _ _ _ _ ⟨i,a,b,d⟩=>⟨i,a,b,kx _ _ d⟩
theorem J.back {t:Sem α}{G:(Nat->Addr)->Store->α->Prop}{V':Nat->Addr}{n':Nat}(e:Ext n V V')(l:n<=n')(h:J c κ V' n' t G X s):J c κ V n t G X s:=
 wpAny_mono h (λω ω x=>x.back e l) λω ω x=>x.back e l
theorem J.pure {a:α}{G:(Nat->Addr)->Store->α->Prop}(st:St κ V U s)(h:G V U a):J c κ V U.length (pure a) G X s:=wpAny_pure ⟨V,U,Ext.refl _ _,Nat.le_refl _,st,h⟩
def Then (c:Cfg)(κ:KX)(V:Nat->Addr)(n:Nat)(f:α->Sem β)(G:(Nat->Addr)->Store->β->Prop)(X:XP):(Nat->Addr)->Store->α->Prop:=
 λV' U' a=>∀s',Ext n V V'->n<=U'.length->St κ V' U' s'->J c κ V' U'.length (f a) G X s'
theorem J.bind {m:Sem α}{f:α->Sem β}{G:(Nat->Addr)->Store->β->Prop}(h:J c κ V n m (Then c κ V n f G X) X s):J c κ V n (m >>= f) G X s:=by
 refine wpAny_bind (wpAny_mono h ?_ λω ω x=>x)
 rintro a s' ⟨V',U',e,l,st,k⟩
 exact J.back e l (k s' e l st)
end
structure Here (E:AEnv)(κ:KX)(V:Nat->Addr):Prop where
 top:∃F:Env,κ.A.frames=some (F::κ.outs)/\F.frame=some (V E.frame)/\F.scope.kind≠.module/\(E.inner=false->F=E.conc V)
theorem Here.ext {E:AEnv}{κ:KX}{V V':Nat->Addr}{n:Nat}(h:Here E κ V)(v:E.Valid n)(e:Ext n V V'):Here E κ V':=by
 obtain ⟨F,a,b,d,f⟩:=h.top
 exact ⟨F,a,b.trans (by rw [e _ v.frame]),d,λq=>(f q).trans (AEnv.conc_ext v e).symm⟩
def TM {α:Type}(c:Cfg)(P:SP)(E:AEnv)(t:Env->Sem α)(G:(Nat->Addr)->Store->α->Prop)(X:XP)(U:Store):Prop:=
 ∀κ V s,κ.Ok c P->Here E κ V->E.Valid U.length->St κ V U s->J c κ V U.length (t (E.conc V)) G X s
abbrev TE (c:Cfg)(P:SP)(E:AEnv)(e:Expr)(Q:AVal->Store->Prop)(X:XP)(U:Store):Prop:=TM c P E (eval e) (gV Q) X U
abbrev TT (c:Cfg)(P:SP)(E:AEnv)(e:Expr)(Q:Bool->Store->Prop)(X:XP)(U:Store):Prop:=TM c P E (λenv=>isTrue e env (eval e env)) (gB Q) X U
abbrev TS (c:Cfg)(P:SP)(E:AEnv)(st:Stmt)(Q:ai->Store->Prop)(X:XP)(U:Store):Prop:=TM c P E (exec st) (gF Q) X U
abbrev TSs (c:Cfg)(P:SP)(E:AEnv)(l:List Stmt)(Q:ai->Store->Prop)(X:XP)(U:Store):Prop:=TM c P E (execs l) (gF Q) X U
section
variable {c:Cfg}{P:SP}{E:AEnv}{X:XP}{U:Store}
theorem TM.mono {α:Type}{t:Env->Sem α}{G G':(Nat->Addr)->Store->α->Prop}{X':XP}(h:TM c P E t G X U)(k:∀V' U' r,U.length<=U'.length->G V' U' r->G' V' U' r)(kx:∀i U',X i U'->X' i U'):TM c P E t G' X' U:=
 λκ V s ok hh hv st=>(h κ V s ok hh hv st).mono (λV' U' r ω l g=>k V' U' r l g) kx
theorem TE.mono {e:Expr}{Q Q':AVal->Store->Prop}(h:TE c P E e Q X U)(k:∀a U',Q a U'->Q' a U'):TE c P E e Q' X U:=
 TM.mono h (λ_ _ _ _ ⟨a,r,q⟩=>⟨a,r,k _ _ q⟩) λω ω x=>x
end
end
section
theorem aj:lenLine<=sizeLine:=by decide
section
variable {c:Cfg}{P:SP}
variable {κ:KX}{V:Nat->Addr}{U:Store}{s:Shared}{i:Nat}{l:List AVal}
theorem St.isList (st:St κ V U s)(h:U.at i=some (.list l)):∃vs,s.heap.IsList (V i) (List.toArray vs)/\VRs V U.length l vs:=by
 obtain ⟨o,g,vs,ep,d,r⟩:=st.obj i _ h
 subst d
 exact ⟨vs,⟨_,g,rfl,ep,rfl⟩,r⟩
theorem St.isListS (st:St κ V U s){o':Obj}(h:U.at i=some (.listS o' l)):∃vs,s.heap.IsList (V i) (List.toArray vs)/\VRs V U.length l vs:=by
 obtain ⟨o,g,_,c,vs,ep,d,r⟩:=st.obj i _ h
 exact ⟨vs,⟨o,g,c,ep,d⟩,r⟩
theorem St.push {κ:KX}{V:Nat->Addr}{U:Store}{s:Shared}(st:St κ V U s){ao:AObj}{o:Obj}(hf:o.isFreed=false)(r:OR κ.p κ.w (aw V U.length s.heap.objs.size) (U.length+1) ao o)(tk:Nat)(dr:Drawn)(hw:autoParam (∀a,4<=a->ao.need a) auN) :
  St κ (aw V U.length s.heap.objs.size) (U++[some ao]) {s with heap:=s.heap.push o,toks:=tk,drawn:=dr}:=
 st.new' (Nat.le_refl _) (λω ω e=>Heap.get?_push_of_some _ e) (Heap.get?_push_size _ hf) r tk dr hw
end
end
section
noncomputable def Store.gone (U:Store)(i:Nat):Store:=U.set i none
@[simp] theorem Store.gone_length (U:Store)(i:Nat):(U.gone i).length=U.length:=List.length_set
theorem Store.at_gone (U:Store)(i j:Nat):(U.gone i).at j=if j=i then none else U.at j:=by
 unfold Store.at Store.gone
 rw [List.getElem?_set]
 by_cases e:i=j
 ·subst e
  by_cases h:i<U.length
  ·simp [h]
  ·simp [h]
 ·simp [e,Ne.symm e]
noncomputable def bO (V:Nat->Addr)(U:Store):List Addr:=(List.range U.length).filterMap λi=>if (U.at i).isSome then some (V i) else none
theorem mem_usedAddrs {V:Nat->Addr}{U:Store}{b:Addr}:b∈bO V U↔∃i ao,U.at i=some ao/\V i=b:=by
 unfold bO
 rw [List.mem_filterMap]
 constructor
 ·rintro ⟨i,_,h⟩
  by_cases q:(U.at i).isSome
  ·rw [if_pos q] at h
   obtain ⟨ao,e⟩:=Option.isSome_iff_exists.mp q
   exact ⟨i,ao,e,Option.some.inj h⟩
  ·rw [if_neg q] at h;cases h
 ·rintro ⟨i,ao,e,rfl⟩
  exact ⟨i,List.mem_range.mpr (Store.at_lt e),by rw [e];rfl⟩
noncomputable def KX.inCall (κ:KX)(F:Env)(h:Heap)(V:Nat->Addr)(U:Store):KX:={κ with h₀:=hideAll h (bO V U),outs:=F::κ.outs}
abbrev KWR (V:Nat->Addr)(n:Nat):List (Str×AVal)->List (Str×Value)->Prop:=All2 (KVR V n)
def TC (c:Cfg)(P:SP)(f:AVal)(args:List AVal)(kw:List (Str×AVal))(Q:AVal->Store->Prop)(X:XP)(U:Store):Prop:=
 ∀κ V s vf vs ks,κ.Ok c P->κ.A.frames=some κ.outs->St κ V U s->VR V U.length f vf->VRs V U.length args vs->KWR V U.length kw ks->J c κ V U.length (call vf vs ks) (gV Q) X s
section
variable {c:Cfg}{P:SP}{κ:KX}{V:Nat->Addr}{U:Store}{s:Shared}{E:AEnv}
variable {i:Nat}{F:Env}{m:List (Str×AVal)}
theorem Store.of_gone {j:Nat}{x:AObj}(h:(U.gone i).at j=some x):j≠i/\U.at j=some x:=by
 rw [Store.at_gone] at h
 by_cases e:j=i
 ·rw [if_pos e] at h;exact nns h
 ·rw [if_neg e] at h;exact ⟨e,h⟩
theorem St.gone (st:St κ V U s)(i:Nat):St κ V (U.gone i) s:=
 ⟨st.keep,λj ao h=>(Store.gone_length U i).symm▸st.obj j ao (Store.of_gone h).2,λj ao h=>st.new j ao (Store.of_gone h).2,λj k a b h h' e=>st.inj j k a b (Store.of_gone h).2 (Store.of_gone h').2 e,st.bare,st.os,λj ao h=>st.low j ao (Store.of_gone h).2,st.big⟩
theorem rj (ok:κ.Ok c P)(st:St κ V U s)(hF:F.frame=some (V i))(hk:F.scope.kind≠.module)(hi:U.at i=some (.frame m)):(κ.inCall F s.heap V (U.gone i)).Ok c P:=by
 have notUsed:∀{b o},κ.h₀.get? b=some o->b∉bO V (U.gone i):=λe h=>by
  obtain ⟨j,ao,hj,rfl⟩:=mem_usedAddrs.mp h
  rw [(st.gone i).new j ao hj] at e;cases e
 obtain ⟨oF,gF,es,ep,hd,_⟩:=st.obj i _ hi
 haveI nF:V i∉bO V (U.gone i):=λh=>by
  obtain ⟨j,ao,hj,e⟩:=mem_usedAddrs.mp h
  rw [Store.at_gone] at hj
  split at hj
  ·cases hj
  ·rename_i q;exact q (st.inj j i ao _ hj hi e)
 refine ⟨ok.cfg,λb o h=>?_,λb hb=>?_,ok.X,ok.T,ok.tabs,ok.bmain,ok.depth,ok.units,ok.handled,λenv he=>?_⟩
 ·haveI h1:=ok.keepG b o h
  obtain ⟨sl,g,z⟩:=st.keep b o h1
  have:b∉κ.frs:=λhb=>by haveI:=ok.frG b hb;rw [show κ.G.get? b=some o from h] at this;cases this
  rw [z this] at g
  exact hideAll_get _ g (notUsed h1)
 ·rcases List.mem_cons.mp (show b∈V i::κ.frs by
   haveI:b∈(F::κ.outs).filterMap (·.frame):=hb
   rw [List.filterMap_cons,hF] at this;exact this) with rfl | hb
  ·cases q:κ.G.get? (V i) with
   | none=>exact q
   | some o=>haveI:=ok.keepG _ _ q;rw [st.new i _ hi] at this;cases this
  ·exact ok.frG b hb
 ·rcases List.mem_cons.mp he with rfl | he
  ·exact ⟨hk,V i,oF,hF,hideAll_get _ gF nF,λvs q=>by rw [hd] at q;cases q⟩
  ·obtain ⟨k1,L,o,k2,k3,k4⟩:=ok.frames env he
   obtain ⟨sl,g,_⟩:=st.keep L o k3
   exact ⟨k1,L,_,k2,hideAll_get _ g (notUsed k3),k4⟩
theorem rg (st:St κ V U s)(F:Env)(i:Nat):St (κ.inCall F s.heap V (U.gone i)) V (U.gone i) s:=by
 haveI st':=st.gone i
 refine ⟨λb o h=>⟨o.slots,of_hideAll _ h,λω=>rfl⟩,st'.obj,λj ao h=>?_,st'.inj,st.bare,st.os,st'.low,st.big⟩
 exact hideAll_none _ (mem_usedAddrs.mpr ⟨j,ao,h,rfl⟩)
theorem iB (st:St κ V U s)(hF:F.frame=some (V i))(hi:U.at i=some (.frame m)){V':Nat->Addr}{U':Store}{s':Shared}(e:Ext U.length V V')(l:U.length<=U'.length)
  (st':St (κ.inCall F s.heap V (U.gone i)) V' U' s'):St κ V' (U'.put i (.frame m)) s':=by
 have hil:=Store.at_lt hi
 have hil':i<U'.length:=Nat.lt_of_lt_of_le hil l
 have notUsed:∀{b o},κ.h₀.get? b=some o->b∉bO V (U.gone i):=λe h=>by
  obtain ⟨j,ao,hj,rfl⟩:=mem_usedAddrs.mp h
  rw [(st.gone i).new j ao hj] at e;cases e
 obtain ⟨oF,gF,es,ep,hd,hs,hv⟩:=st.obj i _ hi
 have nF:V i∉bO V (U.gone i):=λh=>by
  obtain ⟨j,ao,hj,e⟩:=mem_usedAddrs.mp h
  rw [Store.at_gone] at hj
  split at hj
  ·cases hj
  ·rename_i q;exact q (st.inj j i ao _ hj hi e)
 haveI gF':(κ.inCall F s.heap V (U.gone i)).h₀.get? (V i)=some oF:=hideAll_get _ gF nF
 haveI ri:V' i=V i:=e i hil
 have old:∀{b o},κ.h₀.get? b=some o->∃sl,(κ.inCall F s.heap V (U.gone i)).h₀.get? b=some {o with slots:=sl}/\(b∉κ.frs->sl=o.slots):=λq=>by
  obtain ⟨sl,g,z⟩:=st.keep _ _ q
  exact ⟨sl,hideAll_get _ g (notUsed q),z⟩
 refine ⟨λb o q=>?_,λj ao hj=>?_,λj ao hj=>?_,λj k a b hj hk' q=>?_,st'.bare,st'.os,λj ao hj=>?_,st'.big⟩
 ·obtain ⟨sl,g,z⟩:=old q
  obtain ⟨sl',g',z'⟩:=st'.keep b _ g
  refine ⟨sl',g',λhb=>?_⟩
  haveI:b∉(κ.inCall F s.heap V (U.gone i)).frs:=λh=>by
   haveI h:b∈(F::κ.outs).filterMap (·.frame):=h
   rw [List.filterMap_cons,hF] at h
   rcases List.mem_cons.mp h with rfl | h
   ·rw [st.new i _ hi] at q;cases q
   ·exact hb h
  rw [z' this];exact z hb
 ·rw [Store.put_length]
  rw [Store.at_put hil'] at hj
  by_cases w:j=i
  ·subst w;rw [if_pos rfl] at hj;cases hj
   obtain ⟨sl',g',_⟩:=st'.keep _ _ gF'
   rw [ri]
   exact ⟨_,g',es,ep,hd,hs,λx=>(hv x).ext e l⟩
  ·rw [if_neg w] at hj;exact st'.obj j ao hj
 ·rw [Store.at_put hil'] at hj
  by_cases w:j=i
  ·subst w;rw [ri];exact st.new j _ hi
  ·rw [if_neg w] at hj
   cases q:κ.h₀.get? (V' j) with
   | none=>rfl
   | some o=>obtain ⟨sl,g,_⟩:=old q;rw [st'.new j ao hj] at g;cases g
 ·rw [Store.at_put hil'] at hj hk'
  by_cases w:j=i
  ·by_cases w':k=i
   ·exact w.trans w'.symm
   ·rw [if_neg w'] at hk'
    subst w
    rw [ri] at q
    have:=st'.new k b hk'
    rw [←q,gF'] at this;cases this
  ·rw [if_neg w] at hj
   by_cases w':k=i
   ·subst w'
    rw [ri] at q
    have:=st'.new j a hj
    rw [q,gF'] at this;cases this
   ·rw [if_neg w'] at hk'
    exact st'.inj j k a b hj hk' q
 ·rw [Store.at_put hil'] at hj
  by_cases w:j=i
  ·subst w;rw [if_pos rfl] at hj;cases hj;trivial
  ·rw [if_neg w] at hj;exact st'.low j ao hj
theorem TC.from {f:AVal}{args:List AVal}{kw:List (Str×AVal)}{Q:AVal->Store->Prop}{X:XP}(hi:U.at E.frame=some (.frame m))(h:TC c P f args kw (λa U'=>Q a (U'.put E.frame (.frame m))) (λi U'=>X i (U'.put E.frame (.frame m))) (U.gone E.frame))
  (ok:κ.Ok c P) (hh:Here E κ V) (st:St κ V U s) {vf:Value} {vs:List Value} {ks:List (Str×Value)} (hf:VR V U.length f vf) (ha:VRs V U.length args vs) (hk:KWR V U.length kw ks) :
  J c κ V U.length (call vf vs ks) (gV Q) X s:=by
 obtain ⟨F,f1,f2,f3,_⟩:=hh.top
 haveI ok':=rj ok st f2 f3 hi
 haveI st':=rg st F E.frame
 haveI h':=h (κ.inCall F s.heap V (U.gone E.frame)) V s vf vs ks ok' f1 st' (by rw [Store.gone_length];exact hf) (by rw [Store.gone_length];exact ha) (by rw [Store.gone_length];exact hk)
 rw [Store.gone_length] at h'
 refine wpAny_mono h' ?_ ?_
 ·rintro v s' ⟨V',U',e,l,st'',a,r,q⟩
  exact ⟨V',_,e,by rw [Store.put_length];exact l,iB st f2 hi e l st'',a,by rw [Store.put_length];exact r,q⟩
 ·rintro v s' ⟨V',U',e,l,st'',i,a,b,q⟩
  exact ⟨V',_,e,by rw [Store.put_length];exact l,iB st f2 hi e l st'',i,by rw [Store.put_length];exact a,b,q⟩
end
end
section
noncomputable def dG (x:Str)(a:AVal):List (Str×AVal)->List (Str×AVal)
 | []=>[(x,a)]
 | p::l=>if p.1=x then (x,a)::l else p::dG x a l
theorem mQ (x:Str)(a:AVal)(m:List (Str×AVal))(y:Str):(dG x a m).lookup y=if y=x then some a else m.lookup y:=by
 have h0:∀(z:Str) (b:AVal) (l:List (Str×AVal)),((z,b)::l).lookup y=if y=z then some b else l.lookup y:=λz b l=>by
  rw [List.lookup_cons]
  by_cases q:y=z
  ·rw [if_pos q,q,beq_self_eq_true]
  ·rw [if_neg q,beq_eq_false_iff_ne.mpr q]
 induction m with
 | nil=>exact h0 x a []
 | cons p l ih=>
  unfold dG
  by_cases h:p.1=x
  ·rw [if_pos h,h0,h0,h]
   by_cases q:y=x
   ·rw [if_pos q,if_pos q]
   ·rw [if_neg q,if_neg q,if_neg q]
  ·rw [if_neg h,h0,h0,ih]
   by_cases q:y=x
   ·rw [if_pos q,if_pos q,if_neg λw=>h (w.symm.trans q)]
   ·rw [if_neg q,if_neg q]
inductive StoreR (E:AEnv)(x:Str)(a:AVal)(U:Store):Store->Prop
 | loc {m:List (Str×AVal)} (hk:E.scope.kind=.function) (hl:E.scope.names.lookup x=some .local) (hm:U.at E.loc=some (.frame m)):StoreR E x a U (U.put E.loc (.frame (dG x a m)))
 | cell {i:Nat} {v:Option AVal} (hk:E.scope.kind=.function) (hl:E.scope.names.lookup x=some .cell) (hi:E.cells.lookup x=some i) (hv:U.at i=some (.cell v)):StoreR E x a U (U.put i (.cell (some a)))
section
variable {c:Cfg}{P:SP}{κ:KX}{V:Nat->Addr}{U:Store}{s:Shared}{E:AEnv}{X:XP}
variable {i:Nat}{x:Str}{a:AVal}{v:Value}{h':Heap}{ao:AObj}
theorem cA (E:AEnv)(V:Nat->Addr)(x:Str):(E.conc V).kindOf x=E.scope.names.lookup x:=rfl
theorem St.frameNs (st:St κ V U s){m:List (Str×AVal)}(h:U.at i=some (.frame m)):∃f,s.heap.Ns (V i) f/\∀x,OptVR V U.length (m.lookup x) (f x):=by
 obtain ⟨o,g,es,ep,d,k,r⟩:=st.obj i _ h
 exact ⟨_,⟨o,es,ep,g,d,k,λω=>rfl⟩,r⟩
theorem ef {α β:Type}(f:α->β)(l:List (Str×α))(x:Str):(l.map λp=>(p.1,f p.2)).lookup x=(l.lookup x).map f:=by
 induction l with
 | nil=>rfl
 | cons p l ih=>
  obtain ⟨y,a⟩:=p
  simp only [List.map_cons,List.lookup_cons,ih]
  cases x == y <;> rfl
theorem ff {U':Store}(st:St κ V U s)(ha:VR V U.length a v)(e:StoreR E x a U U'):J c κ V U.length (storeName (E.conc V) x v) (λV' U'' ω=>V'=V/\U''=U') X s:=by
 cases e with
 | @loc m hk hl hm=>
  obtain ⟨f,hn,hf⟩:=st.frameNs hm
  refine wpAny_storeName_local (m:=f) ((cA ..).trans hl) hn (λh' hn' hs=>?_) (by show (E.scope.kind == .class||(E.scope.kind == .module&&_))=false;rw [hk];rfl)
  obtain ⟨o,es,ep,g,d,k,r⟩:=hn'
  refine ⟨V,_,Ext.refl _ _,Nat.le_of_eq (Store.put_length ..).symm,st.upd hm (ao':=.frame (dG x a m)) hs ⟨o,g,es,ep,d,k,λy=>?_⟩ (s.toks+1) s.drawn,rfl,rfl⟩
  rw [r y,mQ]
  dsimp only
  by_cases q:y=x
  ·rw [if_pos q,if_pos q];exact ha
  ·rw [if_neg q,if_neg q];exact hf y
 | @cell i v hk hl hi hv=>
  obtain ⟨o,g,v',d,r,z⟩:=st.obj i _ hv
  refine wpAny_storeName_cell (c:=V i) (v₀:=v') hk ((cA ..).trans hl) ((ef _ _ _).trans (by rw [hi];rfl)) ⟨o,g,d⟩ (λh' hc hs=>?_)
  obtain ⟨o',g',d'⟩:=hc
  exact ⟨V,_,Ext.refl _ _,Nat.le_of_eq (Store.put_length ..).symm,st.upd hv (ao':=.cell (some _)) hs ⟨o',g',some _,d',ha,λq=>nns q.symm⟩ s.toks s.drawn,rfl,rfl⟩
noncomputable def a7 (x:Str):Bool:=!(x == ("__debug__" : Str)||x == ("__classdict__" : Str))
inductive kV (c:Cfg)(E:AEnv)(x:Str)(U:Store)(a:AVal):Prop
 | loc {m:List (Str×AVal)} (hl:E.scope.names.lookup x=some .local) (hm:U.at E.loc=some (.frame m)) (ha:m.lookup x=some a)
 | cell {i:Nat} (hl:E.scope.names.lookup x=some .cell) (hi:E.cells.lookup x=some i) (hv:U.at i=some (.cell (some a)))
 | free {i:Nat} (hl:E.scope.names.lookup x=some .free) (hi:E.cells.lookup x=some i) (hv:U.at i=some (.cell (some a)))
 | glob (hl:E.scope.names.lookup x=some .globalImplicit) (ha:c.glob x=some a)
 | blt (hl:E.scope.names.lookup x=some .globalImplicit) (hg:c.glob x=none) (ha:c.blt x=some a)
theorem kO (st:St κ V U s)(hi:E.cells.lookup x=some i)(hv:U.at i=some (.cell (some a))):∃w,(E.conc V).cells.lookup x=some (V i)/\s.heap.IsCell (V i) (some w)/\VR V U.length a w:=by
 obtain ⟨o,g,v',d,r,z⟩:=st.obj i _ hv
 cases v' with
 | none=>exact r.elim
 | some w=>exact ⟨w,(ef _ _ _).trans (by rw [hi];rfl),⟨o,g,d⟩,r⟩
theorem St.top (ok:κ.Ok c P)(st:St κ V U s):∀b o,κ.G.get? b=some o->s.heap.get? b=some o:=λb o h=>by
 have h1:=ok.keepG b o h
 obtain ⟨sl,g,z⟩:=st.keep b o h1
 have:b∉κ.frs:=λhb=>by have:=ok.frG b hb;rw [h] at this;cases this
 rw [z this] at g
 exact g
theorem St.room (ok:κ.Ok c P)(st:St κ V U s)(hk:∀b o,κ.G.get? b=some o->s.heap.get? b=some o->h'.get? b=some o):4<=h'.objs.size:=by
 obtain ⟨mg,mb,T⟩:=ok.T
 obtain ⟨o,_,_,g,_⟩:=T.g
 exact Nat.le_of_lt_succ (Nat.succ_lt_succ (Heap.lt_size (hk _ _ g (st.top ok _ _ g))))
theorem St.off (ok:κ.Ok c P)(st:St κ V U s)(hi:U.at i=some ao){b:Addr}{o:Obj}(q:κ.h₀.get? b=some o):b≠V i:=λe=>nns ((st.new i ao hi).symm.trans (e▸q))
theorem St.upd' (ok:κ.Ok c P)(st:St κ V U s){ao':AObj}(hi:U.at i=some ao)(hs:∀b o,b≠V i->s.heap.get? b=some o->h'.get? b=some o)
  (ho:∃o,h'.get? (V i)=some o/\OR κ.p κ.w V U.length ao' o) (tk:Nat) (dr:Drawn) (hk:autoParam (∀a,ao.need a->ao'.need a) auN):St κ V (U.put i ao') {s with heap:=h',toks:=tk,drawn:=dr}:=
 st.turn hi hs (st.room ok λb o g=>hs b o (st.off ok hi (ok.keepG _ _ g))) ho tk dr hk
theorem St.lost (ok:κ.Ok c P)(st:St κ V U s)(hi:U.at i=some ao)(hs:∀b o,b≠V i->s.heap.get? b=some o->h'.get? b=some o)(tk:Nat)(dr:Drawn):St κ V (U.gone i) {s with heap:=h',toks:=tk,drawn:=dr}:=by
 have sg:=st.gone i
 refine ⟨Heap.Keeps.of st.keep λb o o' q g=>hs b o' (st.off ok hi q) g,λj x hj=>?_,sg.new,sg.inj,st.bare,st.os,sg.low,st.room ok λb o g=>hs b o (st.off ok hi (ok.keepG _ _ g))⟩
 obtain ⟨e,gj⟩:=Store.of_gone hj
 exact (sg.obj j x hj).elim λo z=>⟨o,hs _ _ (λq=>e (st.inj j i x ao gj hi q)) z.1,z.2⟩
theorem St.inK (ok:κ.Ok c P)(st:St κ V U s):(c.K κ.w.params).In s.heap:=ok.X.keeps (st.top ok)
theorem St.topRead (ok:κ.Ok c P)(st:St κ V U s):∃mg mb,TopRead topProg c.loose mg mb s.heap:=by
 obtain ⟨mg,mb,T⟩:=ok.T
 exact ⟨mg,mb,T.keeps (st.top ok)⟩
theorem VR.const (h:VR (λω=>0) 0 a v)(V:Nat->Addr)(n:Nat):VR V n a v:=h.ext (λω q=>absurd q (Nat.not_lt_zero _)) (Nat.zero_le _)
theorem Name_ok {pos:Pos}{Q E':Value->Shared->Prop}(ok:κ.Ok c P)(st:St κ V U s)(hk:E.scope.kind=.function)(hd:a7 x=true)(h:kV c E x U a)(q:∀v,VR V U.length a v->Q v s):wpAny (model κ.p κ.w) κ.A (eval (.Name x pos) (E.conc V)) Q E' s:=by
 have hq:(x == ("__debug__" : Str)||x == ("__classdict__" : Str))=false:=by
  unfold a7 at hd
  exact (Bool.not_eq_true' _).mp hd
 obtain ⟨hd,hd'⟩:=Bool.or_eq_false_iff.mp hq
 cases h with
 | loc hl hm ha=>
  obtain ⟨f,hn,hf⟩:=st.frameNs hm
  have h1:=hf x
  rw [ha] at h1
  cases p:f x with
  | none=>rw [p] at h1;exact h1.elim
  | some v=>rw [p] at h1;exact wpAny_Name (wpAny_loadName_local hk ((cA ..).trans hl) hn p (q v h1)) hd
 | cell hl hi hv=>exact (kO st hi hv).elim λw z=>wpAny_Name (wpAny_loadName_cell hk ((cA ..).trans hl) z.1 z.2.1 (q w z.2.2)) hd
 | free hl hi hv=>exact (kO st hi hv).elim λw z=>wpAny_Name (wpAny_loadName_free hk ((cA ..).trans hl) z.1 z.2.1 (q w z.2.2) hd') hd
 | glob hl ha=>
  obtain ⟨mg,mb,T⟩:=st.topRead ok
  obtain ⟨v,hv,r⟩:=ok.cfg.glob x a ha κ.w.params
  exact Calls.Name_function_global hk hl (Calls.loadGlobal_global T.g (mg_of (st.inK ok) T.g hv) (q v (r.const _ _))) hd
 | blt hl hg ha=>
  obtain ⟨mg,mb,T⟩:=st.topRead ok
  obtain ⟨hn,⟨v,hv,r⟩,hx⟩:=ok.cfg.blt x a ha
  exact Calls.Name_function_global hk hl (Calls.loadGlobal_builtin T.g (mg_none_of (st.inK ok) T.g (hn _)) T.b ((T.builtins x hx).trans hv) (q v (r.const _ _))) hd
end
end
section
noncomputable def dg:List (Str×NameKind)->List (Str×Nat)->Store->List (Str×Nat)×Store
 | [],acc,U=>(acc,U)
 | (x,k)::r,acc,U=>if k == .cell then dg r ((x,U.length)::acc) (U++[some (.cell none)]) else dg r acc U
inductive eE (E:AEnv):List (Str×AVal)->Store->Store->Prop
 | nil {U:Store}:eE E [] U U
 | cons {x:Str} {a:AVal} {l:List (Str×AVal)} {U U1 U2:Store} (h:StoreR E x a U U1) (t:eE E l U1 U2):eE E ((x,a)::l) U U2
theorem StoreR.length {E:AEnv}{x:Str}{a:AVal}{U U':Store}(h:StoreR E x a U U'):U'.length=U.length:=by
 cases h <;> exact Store.put_length ..
noncomputable def bq (scope:Scope)(closure:List (Str×Nat))(qual:Str)(func:AVal)(code:AVal)(U:Store):AEnv×Store:=
 let r:=dg scope.names closure (U++[some (.frame [])])
 ({scope,loc:=U.length,frame:=U.length,cells:=r.1,qual,func,code},r.2)
section
variable {c:Cfg}{P:SP}{κ:KX}{V:Nat->Addr}{U:Store}{s:Shared}{E:AEnv}{X:XP}
variable {bs:List (Str×AVal)}{U':Store}
theorem cz:∀(names:List (Str×NameKind)) (acc:List (Str×Nat)) (U:Store),U.length<=(dg names acc U).2.length
 | [],_,_=>Nat.le_refl _
 | (x,k)::r,acc,U=>by
  unfold dg
  split
  ·exact Nat.le_trans (by simp) (cz r _ _)
  ·exact cz r _ _
theorem pX (names:List (Str×NameKind)):∀(acc:List (Str×Nat)) (U:Store) (V:Nat->Addr) (s:Shared),St κ V U s->(∀p∈acc,p.2<U.length)->
  ∃V',Ext U.length V V'/\St κ V' (dg names acc U).2 {s with heap:=pushCells s.heap names}/\cellsFrom s.heap.objs.size names (acc.map λp=>(p.1,V p.2))=((dg names acc U).1.map λp=>(p.1,V' p.2))/\∀p∈(dg names acc U).1,p.2<(dg names acc U).2.length:=by
 induction names with
 | nil=>exact λacc U V s st h=>⟨V,Ext.refl _ _,st,rfl,h⟩
 | cons p r ih=>
  obtain ⟨x,k⟩:=p
  intro acc U V s st h
  by_cases hk:(k == NameKind.cell)=true
  ·haveI e:=ah V U.length s.heap.objs.size
   haveI st1:=St.push st (ao:=.cell none) (o:={cls:=.type "cell",data:=.cell none}) rfl ⟨none,rfl,trivial,λω=>rfl⟩ s.toks s.drawn
   haveI h1:∀p∈(x,U.length)::acc,p.2<(U++[some (AObj.cell none)]).length:=λp hp=>by
    rw [List.length_append,List.length_singleton]
    rcases List.mem_cons.mp hp with rfl | hp
    ·exact Nat.lt_succ_self _
    ·exact Nat.lt_succ_of_lt (h p hp)
   obtain ⟨V',e',st',hc,hl⟩:=ih ((x,U.length)::acc) (U++[some (AObj.cell none)]) (aw V U.length s.heap.objs.size) _ st1 h1
   refine ⟨V',e.trans (by simp) e',?_,?_,?_⟩
   ·unfold dg pushCells;rw [if_pos hk,if_pos hk];exact st'
   ·unfold dg cellsFrom;rw [if_pos hk,if_pos hk]
    rw [←hc]
    haveI:(((x,U.length)::acc).map λp=>(p.1,aw V U.length s.heap.objs.size p.2))=(x,s.heap.objs.size)::(acc.map λp=>(p.1,V p.2)):=by
     rw [List.map_cons,ad]
     congr 1
     exact List.map_congr_left λp hp=>by rw [e _ (h p hp)]
    rw [this]
    skip
    rw [Heap.size_push]
   ·unfold dg;rw [if_pos hk];exact hl
  ·obtain ⟨V',e',st',hc,hl⟩:=ih acc U V s st h
   refine ⟨V',e',?_,?_,?_⟩
   ·unfold dg pushCells;rw [if_neg hk,if_neg hk];exact st'
   ·unfold dg cellsFrom;rw [if_neg hk,if_neg hk];exact hc
   ·unfold dg;rw [if_neg hk];exact hl
theorem J_binds (e:eE E bs U U'):∀(binds:List (Str×Value)) (s:Shared),St κ V U s->All2 (KVR V U.length) bs binds->
  ∀(f:Str×Value->PUnit->Sem (ForInStep PUnit)),(∀x u,f x u=(do storeName (E.conc V) x.1 x.2;pure (.yield ⟨⟩)))->J c κ V U.length (forIn binds PUnit.unit f) (λV' U'' ω=>V'=V/\U''=U') X s:=by
 induction e with
 | nil=>
  intro binds s st r f hf
  cases r
  rw [List.forIn_nil]
  exact J.pure st ⟨rfl,rfl⟩
 | @cons x a bs U U1 U2 h t ih=>
  intro binds s st r f hf
  cases r with
  | @cons _ b _ binds r rs=>
  obtain ⟨e1,r2⟩:=r
  rw [List.forIn_cons,hf,←e1]
  refine J.bind (J.bind ((ff st r2 h).mono ?_ λω ω x=>x))
  intro V1 U1' _ ex l q s' _ _ st'
  obtain ⟨rfl,rfl⟩:=q
  exact J.pure st' λs'' ex' l' st''=>ih binds s'' st'' (rs.mono λω ω x=>⟨x.1,x.2.ext (Ext.refl _ _) l⟩) f hf
theorem nM {scope:Scope}{cl:List (Str×Nat)}{qual:Str}{func:AVal}{code:AVal}{binds:List (Str×Value)}
  (st:St κ V U s) (hcl:∀p∈cl,p.2<U.length) (hfl:func.lt U.length) (hfc:code.lt U.length) (hb:All2 (KVR V U.length) bs binds) (e:eE (bq scope cl qual func code U).1 bs (bq scope cl qual func code U).2 U') :
  J c κ V U.length (newFunctionEnv scope mainGlobals (cl.map λp=>(p.1,V p.2)) binds qual (dB V func) (b9 V code) none builtinsNs)
   (λV' U'' env=>U''=U'/\env=(bq scope cl qual func code U).1.conc V'/\(bq scope cl qual func code U).1.Valid U''.length) X s:=by
 simp only [newFunctionEnv,Option.isSome_none,Bool.false_eq_true,if_false]
 refine wpAny_bind (wpAny_alloc ?_)
 haveI e0:=ah V U.length s.heap.objs.size
 have st1:=St.push st (ao:=.frame []) (o:={cls:=.type "frame",data:=.dict #[]}) rfl ⟨#[],0,rfl,λω h=>by simp at h,λω=>trivial⟩ s.toks s.drawn
 have hcl1:∀p∈cl,p.2<(U++[some (AObj.frame [])]).length:=λp hp=>by rw [List.length_append];exact Nat.lt_of_lt_of_le (hcl p hp) (Nat.le_add_right _ _)
 obtain ⟨V1,e1,st2,hc,hl⟩:=pX scope.names cl _ _ _ st1 hcl1
 haveI hlen:=cz scope.names cl (U++[some (AObj.frame [])])
 have hlen':U.length<(dg scope.names cl (U++[some (AObj.frame [])])).2.length:=Nat.lt_of_lt_of_le (by simp) hlen
 have ex:Ext U.length V V1:=e0.trans (by simp) e1
 refine wpAny_bind (wpAny_layCells _ (λname kind cells=>by cases hkc:kind == NameKind.cell <;> simp [hkc]) _ _ _ _ ?_)
 haveI hcells:cellsFrom (s.heap.push {cls:=.type "frame",data:=.dict #[]}).objs.size scope.names (cl.map λp=>(p.1,V p.2))=(dg scope.names cl (U++[some (AObj.frame [])])).1.map λp=>(p.1,V1 p.2):=by
  rw [←hc]
  congr 1
  exact List.map_congr_left λp hp=>by rw [e0 _ (hcl p hp)]
 haveI hloc:V1 U.length=s.heap.objs.size:=by rw [e1 _ (by simp),ad]
 haveI hfunc:dB V1 func=dB V func:=by
  cases func with
  | loc i=>show some (V1 i)=some (V i);rw [ex _ hfl]
  | top v=>cases v <;> rfl
  | _=>rfl
 have valid:(bq scope cl qual func code U).1.Valid (bq scope cl qual func code U).2.length:=⟨hlen',hlen',hl,hfl.mono (Nat.le_of_lt hlen'),hfc.mono (Nat.le_of_lt hlen')⟩
 haveI henv:(bq scope cl qual func code U).1.conc V1={scope:=scope,locals:=s.heap.objs.size,globals:=mainGlobals,cells:=cellsFrom (s.heap.push {cls:=.type "frame",data:=.dict #[]}).objs.size scope.names (cl.map λp=>(p.1,V p.2)),qual:=qual,func:=dB V func,code:=b9 V code,frame:=some s.heap.objs.size,builtins:=builtinsNs}:=by
  unfold AEnv.conc bq
  dsimp only
  haveI hcode:b9 V1 code=b9 V code:=by
   cases code with
   | loc i=>show Value.ref (V1 i)=.ref (V i);rw [ex _ hfc]
   | _=>rfl
  rw [hcells,hloc,hfunc,hcode]
 haveI hv:∀p∈([]:List Nat),True:=λω ω=>trivial
 refine J.back (c:=c) ex (Nat.le_of_lt hlen') (J.bind ?_)
 rw [←henv]
 refine (J_binds (c:=c) e binds _ st2 (hb.mono λω ω x=>⟨x.1,x.2.ext ex (Nat.le_of_lt hlen')⟩) _ (λx u=>rfl)).mono ?_ λω ω x=>x
 rintro V2 U2 _ ex2 l2 ⟨hV,hU⟩ s' _ _ st'
 rw [hV] at st' ⊢
 refine J.pure st' ⟨hU,rfl,valid.mono l2⟩
end
end
section
noncomputable def goneO (U:Store):Option Nat->Store
 | none=>U
 | some t=>U.gone t
noncomputable def dc (U:Store)(F i:Nat)(cls:Value)(tb:Option Nat):Store:=((goneO U tb)++[some (AObj.tback (some F))]).put i (.exc cls (some U.length))
inductive fK (U:Store)(F i:Nat):Store->Prop
 | bare {cls:Value} (h:U.at i=some (.exc cls none)):fK U F i (dc U F i cls none)
 | own {cls:Value} {t:Nat} (h:U.at i=some (.exc cls (some t))) (h':U.at t=some (.tback none)):fK U F i (dc U F i cls (some t))
 | here {cls:Value} {t:Nat} (h:U.at i=some (.exc cls (some t))) (h':U.at t=some (.tback (some F))):fK U F i U
def dv (U:Store)(i:Nat)(fl:Option Nat)(U':Store):Prop:=∃cls t f,U.at i=some (.exc cls (some t))/\U.at t=some (.tback f)/\U.put t (.tback fl)=U'
def jW (U:Store)(F i:Nat)(U':Store):Prop:=∃U1,fK U F i U1/\dv U1 i none U'
@[simp] theorem dq (U:Store)(t:Option Nat):(goneO U t).length=U.length:=by cases t <;> simp [goneO]
section
variable {c:Cfg}{P:SP}{κ:KX}{V:Nat->Addr}{U:Store}{s:Shared}{E:AEnv}{X:XP}
variable {b:Addr}{tb:Option Nat}{i F:Nat}{m:List (Str×AVal)}{cls:Value}{Q:Unit->Shared->Prop}{Ex:Value->Shared->Prop}{U':Store}
theorem St.goneO (st:St κ V U s)(t:Option Nat):St κ V (goneO U t) s:=by
 cases t with
 | none=>exact st
 | some t=>exact st.gone t
theorem gz {h base:Heap}:∀{l:List Env},(∀env∈l,env.scope.kind≠.module/\∃L o,env.frame=some L/\base.get? L=none/\h.get? L=some o/\∀vs,o.data≠.fields vs)->h.FunFrames base l
 | [],_=>trivial
 | env::l,h=>⟨(h env (.head _)).1,(h env (.head _)).2,gz λe he=>h e (.tail _ he)⟩
noncomputable def hid (κ:KX)(V:Nat->Addr)(env:Env)(i:Nat)(tb:Option Nat):List Addr:=(env::κ.outs).filterMap (·.frame)++(V i::(tb.map V).toList)
theorem iX {h:Heap}{l:List Addr}(hb:b∈l):(hideAll h l).get? b=none:=hideAll_none _ hb
def uU (U:Store):Option Nat->Prop
 | none=>True
 | some t=>U.at t=some (.tback none)
theorem Store.of_goneO {j:Nat}{x:AObj}(h:(Mine.goneO U tb).at j=some x):U.at j=some x/\∀t,tb=some t->j≠t:=by
 cases tb with
 | none=>exact ⟨h,nofun⟩
 | some t=>exact ⟨(Store.of_gone h).2,λu e=>Option.some.inj e▸(Store.of_gone h).1⟩
theorem gS (ok:κ.Ok c P)(st:St κ V U s){ao:AObj}(hi:U.at i=some ao)(hfl:uU U tb)(hF:U.at E.frame=some (.frame m))(hb:b∈hid κ V (E.conc V) i tb) :
  b∈κ.frs/\κ.h₀.get? b≠none∨∃j x,U.at j=some x/\b=V j/\(j=E.frame∨j=i∨tb=some j):=by
 rcases List.mem_append.mp hb with hm | hm
 ·rcases List.mem_cons.mp (show b∈V E.frame::κ.frs from hm) with rfl | hm
  ·exact .inr ⟨_,_,hF,rfl,.inl rfl⟩
  ·obtain ⟨env,he,w⟩:=List.mem_filterMap.mp hm
   obtain ⟨_,L,o',k2,k3,_⟩:=ok.frames env he
   cases Option.some.inj (k2.symm.trans w)
   exact .inl ⟨hm,λe=>nns (e.symm.trans k3)⟩
 ·rcases List.mem_cons.mp hm with rfl | hm
  ·exact .inr ⟨_,_,hi,rfl,.inr (.inl rfl)⟩
  ·cases tb with
   | none=>exact (List.not_mem_nil hm).elim
   | some t=>exact .inr ⟨t,_,hfl,List.mem_singleton.mp hm,.inr (.inr rfl)⟩
theorem mH (ok:κ.Ok c P)(hh:Here E κ V)(hin:E.inner=false)(st:St κ V U s)(hF:U.at E.frame=some (.frame m))(i:Nat)(tb:Option Nat) :
  s.heap.FunFrames (hideAll s.heap (hid κ V (E.conc V) i tb)) (E.conc V::κ.outs):=by
 obtain ⟨F,f1,f2,f3,f4⟩:=hh.top
 cases f4 hin
 obtain ⟨oF,gF,es,ep,hdF,_⟩:=st.obj _ _ hF
 refine gz λenv he=>?_
 have hm:∀{L},env.frame=some L->L∈hid κ V (E.conc V) i tb:=λq=>List.mem_append_left _ (List.mem_filterMap.mpr ⟨env,he,q⟩)
 rcases List.mem_cons.mp he with rfl | he
 ·exact ⟨f3,V E.frame,oF,rfl,iX (hm rfl),gF,λvs q=>Data.noConfusion (hdF.symm.trans q)⟩
 ·obtain ⟨k1,L,o,k2,k3,k4⟩:=ok.frames env he
  obtain ⟨sl,g,_⟩:=st.keep L o k3
  exact ⟨k1,L,_,k2,iX (hm k2),g,k4⟩
theorem note_st (ok:κ.Ok c P)(st:St κ V U s){a0:Value}(hi:U.at i=some (.exc cls tb))(hfl:uU U tb)(hF:U.at E.frame=some (.frame m)){h':Heap}
  (hn:Heap.NotedW (hideAll s.heap (hid κ V (E.conc V) i tb)) (E.conc V::κ.outs) (V i) cls a0 (rawInt (V E.frame)) s.heap h'):∃V',Ext U.length V V'/\St κ V' (dc U E.frame i cls tb) {s with heap:=h'}:=by
 refine rq λG hG=>?_
 obtain ⟨n1,n2,n3,n4⟩:=hn
 obtain ⟨oe',vs',T,oT,ts,ge',⟨hc',h0'⟩,hd',h1',hnT,hTe,hT,hdT,h3⟩:=n3
 haveI gS:=λ{b}=>gS (b:=b) ok st hi hfl hF
 have kp:∀{b o},b∉hid κ V (E.conc V) i tb->s.heap.get? b=some o->h'.get? b=some o:=λhb g=>n1 _ _ (hideAll_get _ g hb)
 have frT:∀{L},L∈(E.conc V::κ.outs).filterMap (·.frame)->L≠T:=λhL q=>by
  obtain ⟨_,o,ho,hnf⟩:=n2.mem hL
  rw [q,hT] at ho
  exact hnf ts (Option.some.inj ho▸hdT)
 have nT:∀{b o},b∉hid κ V (E.conc V) i tb->s.heap.get? b=some o->b≠T:=λhb g q=>nns (hnT.symm.trans (q▸hideAll_get _ g hb))
 have hold:∀j x,((goneO U tb).gone i).at j=some x->(∃o,h'.get? (V j)=some o/\OR κ.p κ.w V U.length x o)/\V j≠T:=λj x hj=>by
  refine rq λG hG=>?_
  obtain ⟨hji,hj⟩:=Store.of_gone hj
  obtain ⟨gj,hjt⟩:=Store.of_goneO hj
  obtain ⟨o,g,r⟩:=st.obj j x gj
  by_cases hb:V j∈hid κ V (E.conc V) i tb
  ·rcases gS hb with ⟨_,h0⟩ | ⟨k,y,hk,e,w⟩
   ·exact absurd (st.new j x gj) h0
   ·cases st.inj j k x y gj hk e
    rcases w with rfl | rfl | w
    ·cases Option.some.inj (hF.symm.trans gj)
     refine hG ⟨?_,frT (List.mem_filterMap.mpr ⟨_,.head _,rfl⟩)⟩
     obtain ⟨es',ep',d',k',r'⟩:=r
     obtain ⟨sl,g'⟩:=n4 _ _ g λvs q=>Data.noConfusion (d'.symm.trans q)
     exact ⟨_,g',es',ep',d',k',r'⟩
    ·exact absurd rfl hji
    ·exact absurd rfl (hjt _ w)
  ·exact hG ⟨⟨o,kp hb g,r⟩,nT hb g⟩
 have keep:Keeps κ.frs κ.h₀ h':=λb o q=>by
  obtain ⟨sl,g,z⟩:=st.keep b o q
  by_cases hb:b∈hid κ V (E.conc V) i tb
  ·rcases gS hb with ⟨hf,_⟩ | ⟨k,y,hk,e,_⟩
   ·obtain ⟨env,he,w⟩:=List.mem_filterMap.mp hf
    obtain ⟨_,L,o',k2,k3,k4⟩:=ok.frames env he
    cases Option.some.inj (k2.symm.trans w)
    cases Option.some.inj (k3.symm.trans q)
    obtain ⟨sl',g'⟩:=n4 _ _ g k4
    exact ⟨sl',g',λhn=>absurd hf hn⟩
   ·exact absurd (st.new k y hk) λw=>nns (w.symm.trans (e▸q))
  ·exact ⟨sl,kp hb g,z⟩
 have h0T:κ.h₀.get? T=none:=Option.eq_none_iff_forall_ne_some.mpr λo q=>by
  obtain ⟨sl,g,_⟩:=st.keep T o q
  by_cases hb:T∈hid κ V (E.conc V) i tb
  ·rcases gS hb with ⟨hf,_⟩ | ⟨k,y,hk,e,_⟩
   ·exact frT (List.mem_filterMap.mpr ((List.mem_filterMap.mp hf).elim λe z=>⟨e,.tail _ z.1,z.2⟩)) rfl
   ·exact nns ((st.new k y hk).symm.trans (e▸q))
  ·exact nT hb g rfl
 have big:=(st.room (h':=h') ok λb o g g'=>kp (λhb=>(gS hb).elim (λz=>nns ((ok.frG b z.1).symm.trans g)) λ⟨k,y,hk,e,_⟩=>nns ((st.new k y hk).symm.trans (e▸ok.keepG _ _ g))) g')
 have sl:((goneO U tb).gone i).length=U.length:=(Store.gone_length ..).trans (dq ..)
 have e0:=ah V U.length T
 have hFl:=Store.at_lt hF
 have st1:=((st.goneO tb).gone i).add (ao:=.tback (some E.frame)) keep big (sl.symm▸hold) hT ⟨ts,hdT,by rw [sl];exact Nat.lt_succ_of_lt hFl,by rw [sl,e0 _ hFl];exact h3⟩ h0T trivial s.toks s.drawn
 rw [sl] at st1
 haveI hil:=Store.at_lt hi
 haveI l1:((goneO U tb).gone i++[some (AObj.tback (some E.frame))]).length=U.length+1:=List.length_append.trans (congrArg Nat.succ sl)
 refine hG ⟨_,e0,?_⟩
 haveI st2:=st1.set (i:=i) (ao:=.exc cls (some U.length)) keep big (λω=>⟨⟨oe',by rw [e0 i hil];exact ge',hc',vs',a0,hd',h0',by rw [l1];exact Nat.lt_succ_self _,by rw [ad];exact h1'⟩,by rw [e0 i hil];exact st.new i _ hi,trivial⟩) (λj x e hj=>⟨st1.obj j x hj,λq=>by
  rw [e0 i hil] at q
  rcases Store.of_push hj with ⟨rfl,_⟩ | hj
  ·rw [sl,ad] at q;exact hTe q
  ·have gj:=(Store.of_goneO (Store.of_gone hj).2).1
   rw [e0 j (Store.at_lt gj)] at q
   exact e (st.inj j i x _ gj hi q)⟩) s.toks s.drawn
 haveI e3:((goneO U tb).gone i++[some (AObj.tback (some E.frame))]).put i (.exc cls (some U.length))=dc U E.frame i cls tb:=by
  unfold dc Store.put Store.gone
  rw [List.set_append_left _ _ (by rw [List.length_set,dq];exact hil),List.set_append_left _ _ (by rw [dq];exact hil),List.set_set]
 rw [e3] at st2
 exact st2
theorem jX (ok:κ.Ok c P)(hh:Here E κ V)(hin:E.inner=false)(st:St κ V U s)(hi:U.at i=some (.exc cls tb))
  (hfl:uU U tb) (hF:U.at E.frame=some (.frame m))
  (h:∀V' s',Ext U.length V V'->St κ V' (dc U E.frame i cls tb) s'->Q () s'):wpAny (model κ.p κ.w) κ.A (noteFrame (.ref (V i)) (E.conc V)) Q Ex s:=by
 haveI hFr:=mH ok hh hin st hF i tb
 obtain ⟨F,f1,f2,f3,f4⟩:=hh.top
 cases f4 hin
 obtain ⟨oe,ge,hc,vs,a0,hd,h0,htb⟩:=st.obj _ _ hi
 have hkb:∀b o,(hideAll s.heap (hid κ V (E.conc V) i tb)).get? b=some o->s.heap.get? b=some o:=λb o q=>of_hideAll _ q
 have hen:(hideAll s.heap (hid κ V (E.conc V) i tb)).get? (V i)=none:=iX (List.mem_append_right _ (.head _))
 have fin:∀h',Heap.NotedW (hideAll s.heap (hid κ V (E.conc V) i tb)) (E.conc V::κ.outs) (V i) cls a0 (rawInt (V E.frame)) s.heap h'->Q () {s with heap:=h'}:=λh' hN=>
  (note_st ok st hi hfl hF hN).elim λV' z=>h V' _ z.1 z.2
 cases tb with
 | none=>
  unfold noteFrame
  skip
  refine wpAny_bind (wpAny_field ge hd htb ?_)
  refine wpAny_ite_false (by decide) ?_
  exact wpAny_entryW f1 hFr rfl ge hkb hen hd (Array.getElem?_eq_some_iff.mp htb).1 h0 λh' hN=>fin h' (hc▸hN)
 | some t=>
  obtain ⟨oT,gT,ts,hdT,h3⟩:=st.obj _ _ hfl
  refine wpAny_noteFrame_onW f1 hFr rfl ⟨oe,vs,V t,oT,ts,ge,⟨hc,h0⟩,hd,htb.2,iX (List.mem_append_right _ (.tail _ (.head _))),λq=>?_,gT,hdT,h3⟩ hkb hen fin
  cases st.inj _ _ _ _ hfl hi q
  exact absurd (Option.some.inj (hi.symm.trans hfl)) nofun
theorem gH (st:St κ V U s){fl:Option Nat}(e:dv U i fl U')(hfl:∀L,fl=some L->L<U.length){a:Addr}(ha:V i=a)
  (h:∀s',St κ V U' s'->Q () s'):wpAny (model κ.p κ.w) κ.A (setFlight (.ref a) (fl.map V)) Q Ex s:=by
 subst ha
 obtain ⟨cls,t,fl0,hi,ht,rfl⟩:=e
 obtain ⟨oe,ge,hc,vs,a0,hd,h0,_,htb⟩:=st.obj _ _ hi
 obtain ⟨oT,gT,ts,hdT,h3⟩:=st.obj _ _ ht
 have hsz:3<ts.size:=by
  cases fl0 with
  | none=>exact (Array.getElem?_eq_some_iff.mp h3).1
  | some L=>exact (Array.getElem?_eq_some_iff.mp h3.2).1
 haveI hd3:=Obj.data_mapFields hdT (·.setIfInBounds 3 ((fl.map V).elim Value.none λf=>rawInt f))
 haveI fin:OR κ.p κ.w V U.length (.tback fl) (oT.mapFields (·.setIfInBounds 3 ((fl.map V).elim Value.none λf=>rawInt f))):=⟨_,hd3,by
  cases fl with
  | none=>simp [hsz]
  | some L=>exact ⟨hfl L rfl,by simp [hsz]⟩⟩
 skip
 refine wpAny_bind (wpAny_field ge hd htb ?_)
 rw [if_pos (show (Value.ref (V t) != Value.none)=true from by simp)]
 exact wpAny_setField gT hdT hsz (h _ (st.upd ht (ao':=.tback fl) ⟨Heap.size_after_update ..,λb hb=>Heap.get?_update_other _ _ (Ne.symm hb)⟩ ⟨_,Heap.get?_update_self _ gT (Obj.isFreed_of_fields hd3),fin⟩ s.toks s.drawn))
theorem fH (U:Store)(F i:Nat)(cls:Value)(tb:Option Nat):U.length<=(dc U F i cls tb).length:=by
 unfold dc
 rw [Store.put_length,List.length_append,dq]
 exact Nat.le_succ _
theorem ed (e:fK U F i U'):U.length<=U'.length:=by
 cases e with
 | bare=>exact fH ..
 | own=>exact fH ..
 | here=>exact Nat.le_refl _
theorem qX (e:fK U F i U'):i<U.length:=by
 cases e with
 | bare h=>exact Store.at_lt h
 | own h=>exact Store.at_lt h
 | here h=>exact Store.at_lt h
theorem pC (ok:κ.Ok c P)(hh:Here E κ V)(hin:E.inner=false)(st:St κ V U s)(e:fK U E.frame i U')(hF:U.at E.frame=some (.frame m))
  (h:∀V' s',Ext U.length V V'->St κ V' U' s'->Q () s'):wpAny (model κ.p κ.w) κ.A (noteFrame (.ref (V i)) (E.conc V)) Q Ex s:=by
 cases e with
 | bare hi=>exact jX ok hh hin st hi trivial hF h
 | own hi ht=>exact jX ok hh hin st hi ht hF h
 | @here cls t hi ht=>
  obtain ⟨oe,ge,hc,vs,a0,hd,h0,_,htb⟩:=st.obj _ _ hi
  obtain ⟨oT,gT,ts,hdT,_,h3⟩:=st.obj _ _ ht
  unfold noteFrame
  haveI f2:(E.conc V).frame=some (V E.frame):=rfl
  skip
  refine wpAny_bind (wpAny_field ge hd htb ?_)
  rw [if_pos (show (Value.ref (V t) != Value.none)=true from by simp)]
  refine wpAny_bind (wpAny_field gT hdT h3 ?_)
  rw [if_pos (show (rawInt (V E.frame) == rawInt (V E.frame))=true from by simp)]
  exact wpAny_pure (h V s (Ext.refl _ _) st)
theorem sa (ok:κ.Ok c P)(hh:Here E κ V)(hin:E.inner=false)(st:St κ V U s)(e:jW U E.frame i U')(hF:U.at E.frame=some (.frame m))
  (h:∀V' s',Ext U.length V V'->St κ V' U' s'->Q () s'):wpAny (model κ.p κ.w) κ.A (leaving (E.conc V) (.ref (V i))) Q Ex s:=by
 obtain ⟨U1,q,e⟩:=e
 skip
 refine wpAny_bind (pC ok hh hin st q hF λV' s' ex st'=>?_)
 rw [←ex i (qX q)]
 exact gH (fl:=none) st' e (λω q=>nns q) rfl λs'' st''=>h V' s'' ex st''
end
end
section
noncomputable def bL:ai->AVal
 | .ret a=>a
 | _=>.none
noncomputable def SP.down (P:SP):SP:={P with d:=P.d - 1}
noncomputable def qe (i:dS):Str:=i.fd.qualname ++ ".<locals>."
noncomputable def hA (f:Addr)(i:dS)(U:Store):AEnv×Store:=bq i.fd.scope [] (qe i) (.top (.ref f)) (.top i.fd.code) U
inductive EnterR (f:Addr)(i:dS)(args:List AVal)(kw:List (Str×AVal))(U:Store):AEnv->Store->Prop
 | mk {bs:List (Str×AVal)} {U1 U2:Store} (hb:i.bind args kw U=some (bs,U1)) (h:eE (hA f i U1).1 bs (hA f i U1).2 U2):EnterR f i args kw U (hA f i U1).1 U2
section
variable {c:Cfg}{P:SP}{κ:KX}{V:Nat->Addr}{U:Store}{s:Shared}{E:AEnv}{X:XP}
variable {U':Store}{i:Nat}{args:List AVal}{kw:List (Str×AVal)}{Q:AVal->Store->Prop}{E':AEnv}{f:Addr}
noncomputable def KX.deep (κ:KX)(env:Env):KX:={κ with A:=κ.A.deeper env}
theorem KX.Ok.deep (ok:κ.Ok c P)(hd:0<P.d)(env:Env):(κ.deep env).Ok c P.down:=by
 have h1:=ok.depth
 have h2:=ok.units
 refine ⟨ok.cfg,ok.keepG,ok.frG,ok.X,ok.T,ok.tabs,ok.bmain,?_,?_,ok.handled,ok.frames⟩
 ·exact iZ hd h1 (by decide)
 ·exact iZ hd h2 (by decide)
theorem St.deep {env:Env}(st:St κ V U s):St (κ.deep env) V U s:=⟨st.keep,st.obj,st.new,st.inj,st.bare,st.os,st.low,st.big⟩
theorem St.undeep {env:Env}(st:St (κ.deep env) V U s):St κ V U s:=⟨st.keep,st.obj,st.new,st.inj,st.bare,st.os,st.low,st.big⟩
noncomputable def KX.inOne (κ:KX):KX:={κ with A:=κ.A.in1}
theorem St.inOne (st:St κ V U s):St κ.inOne V U s:=⟨st.keep,st.obj,st.new,st.inj,st.bare,st.os,st.low,st.big⟩
theorem St.outOne (st:St κ.inOne V U s):St κ V U s:=⟨st.keep,st.obj,st.new,st.inj,st.bare,st.os,st.low,st.big⟩
noncomputable def aD (E:AEnv)(X:XP):XP:=λj U=>∃U' m,jW U E.frame j U'/\U.at E.frame=some (.frame m)/\X j U'
theorem bJ {fl:Option Nat}(e:dv U i fl U'):U'.length=U.length:=by
 obtain ⟨cls,t,f,hi,ht,rfl⟩:=e
 exact Store.put_length ..
theorem eB {F:Nat}(e:jW U F i U'):U.length<=U'.length:=by
 obtain ⟨U1,q,e⟩:=e
 rw [bJ e]
 exact ed q
def callR (κ:KX)(V:Nat->Addr)(n:Nat)(Q:AVal->Store->Prop)(X:XP)(r:Result)(s':Shared):Prop:=match r with
 | .ok (.ret v)=>Post κ V n (gV Q) v s'
 | .ok _=>False
 | .error e=>Post κ V n (gX X) e s'
def TK (c:Cfg)(P:SP)(f:AVal)(args:List AVal)(kw:List (Str×AVal))(Q:AVal->Store->Prop)(X:XP)(U:Store):Prop:=
 ∀κ V s vf vs ks,κ.Ok c P->κ.A.frames=some κ.outs->St κ V U s->VR V U.length f vf->VRs V U.length args vs->KWR V U.length kw ks->codeAny (model κ.p κ.w) κ.A (.call vf ⟨vs,ks⟩) (callR κ V U.length Q X) s
theorem TC.of {f:AVal}(h:TK c P f args kw Q X U):TC c P f args kw Q X U:=
 λκ V s vf vs ks ok hfr st hf ha hk=>wpAny_call (codeAny_mono (h κ V s vf vs ks ok hfr st hf ha hk) λr s' hr=>by
  rcases r with e | (v | _ | _ | _) <;> exact hr)
theorem vj {α:Type}{t:Env->Sem α}{G':(Nat->Addr)->Store->α->Prop}{R:α->Shared->Prop}{Ex':Value->Shared->Prop}{V2:Nat->Addr}{U2:Store}{s2:Shared}(hd:0<P.d)(ok:κ.Ok c P)(hfr:κ.A.frames=some κ.outs)(hk:E'.scope.kind=.function)(hin:E'.inner=false)
  (hb:TM c P.down E' t G' (aD E' X) U2) (ex:Ext U.length V V2) (l:U.length<=U2.length) (st:St κ V2 U2 s2) (hv:E'.Valid U2.length) (k:∀r s3 V3 U3,Ext U.length V V3->U.length<=U3.length->St κ V3 U3 s3->G' V3 U3 r->R r s3) :
  wpAny (model κ.p κ.w) (κ.deep (E'.conc V2)).A (t (E'.conc V2)) R (λe s3=>wpAny (model κ.p κ.w) (κ.deep (E'.conc V2)).A (leaving (E'.conc V2) e) (λω s''=>Post κ V U.length (gX X) e s'') Ex' s3) s2:=by
 have okd:=ok.deep hd (E'.conc V2)
 have hh:Here E' (κ.deep (E'.conc V2)) V2:=⟨E'.conc V2,Around.frames_deeper hfr,rfl,by show E'.scope.kind≠_;rw [hk];decide,λω=>rfl⟩
 refine wpAny_mono (hb _ V2 s2 okd hh hv st.deep) (λr s3 ⟨V3,U3,ex3,l3,st3,g⟩=>k r s3 V3 U3 (ex.trans l ex3) (Nat.le_trans l l3) st3.undeep g) ?_
 rintro e s3 ⟨V3,U3,ex3,l3,st3,j,hj,rfl,U4,m,hl,hF,hX⟩
 have key:∀env,E'.conc V3=env->wpAny (model κ.p κ.w) (κ.deep (E'.conc V2)).A (leaving env (.ref (V3 j))) (λω s''=>Post κ V U.length (gX X) (.ref (V3 j)) s'') Ex' s3:=by
  rintro _ rfl
  exact sa (c:=c) okd (hh.ext hv ex3) hin st3 hl hF (Q:=λω s''=>Post κ V U.length (gX X) (.ref (V3 j)) s'') λV4 s4 ex4 st4=>⟨V4,U4,(ex.trans l ex3).trans (Nat.le_trans l l3) ex4,Nat.le_trans (Nat.le_trans l l3) (eB hl),st4.undeep,j,Nat.lt_of_lt_of_le hj (eB hl),by rw [ex4 j hj],hX⟩
 exact key _ (AEnv.conc_ext hv ex3)
theorem TK_def {i:dS}(hi:c.fn f=some i)(hd:0<P.d)(he:EnterR f i args kw U E' U')
  (hb:TSs c P.down E' i.body (λfl U1=>Q (bL fl) U1) (aD E' X) U'):TK c P (.top (.ref f)) args kw Q X U:=by
 intro κ V s vf vs ks ok hfr st hf ha hk
 cases hf
 have fo:=ok.cfg.fn f i hi
 obtain ⟨oc,od,osl,hlk⟩:=fo.at_ κ.w.params
 have Xk:=st.inK ok
 obtain ⟨mg,mb,T⟩:=st.topRead ok
 have ho:=Xk _ _ hlk
 obtain @⟨bs,U1,U2,hbind,hba⟩:=he
 refine codeAny_call_function (Nat.lt_of_lt_of_le (show κ.A.depth<601 from by have:=ok.depth;omega) (by decide)) ho rfl fo.co fo.gen fo.body (codeRec_of Xk (fo.code _)) ?_
 refine wpAny_mono (fo.binds κ.inOne V U s args kw vs ks bs U1 (λω ω=>False) Xk st.inOne ha hk hbind) ?_ λω ω x=>x.elim
 intro binds s₁ z
 obtain ⟨V1,ex,l,st1,hbs⟩:=z
 have:=nM (c:=c) (X:=noX) (scope:=i.fd.scope) (cl:=[]) (qual:=qe i) (func:=.top (.ref f)) (code:=.top i.fd.code) st1 (λp hp=>nomatch hp) trivial trivial hbs hba
 rw [fo.globals,fo.closure,fo.builtins]
 refine wpAny_mono this ?_ ?_
 ·rintro env s2 ⟨V2,U2',ex2,l2,st2,rfl,rfl,hv⟩
  obtain ⟨mg',mb',T'⟩:=st2.outOne.topRead ok
  refine ⟨T'.nolimit,codeAny_func ?_⟩
  refine vj (E':=(hA f i U1).1) hd ok hfr fo.kind rfl hb (ex.trans l ex2) (Nat.le_trans l l2) st2.outOne hv λfl s3 V3 U3 ex3 l3 st3 h=>?_
  obtain ⟨afl,hr,hq⟩:=h
  refine ⟨V3,U3,ex3,l3,st3,bL afl,?_,hq⟩
  cases afl with
  | ret a=>obtain ⟨v,rfl,r⟩:=hr;exact r
  | next=>cases hr;rfl
  | brk=>cases hr;rfl
  | cont=>cases hr;rfl
 ·rintro e s2 ⟨_,_,_,_,_,_,_,_,x⟩
  exact x.elim
theorem lX {self:AVal}(hi:U.at i=some (.meth f self))(h:TK c P (.top (.ref f)) (self::args) kw Q X U):TK c P (.loc i) args kw Q X U:=by
 intro κ V s vf vs ks ok hfr st hf ha hk
 obtain ⟨_,rfl⟩:=hf
 obtain ⟨o,g,v,rv,rfl⟩:=st.obj _ _ hi
 exact method_call g (h κ V s (.ref f) (v::vs) ks ok hfr st rfl (.cons rv ha) hk)
noncomputable def ee (ci:aJ)(C:Addr)(n:Nat):AObj:=if ci.slots.isEmpty then .inst C n else .slots C n []
theorem uK {C:Addr}{ci:aJ}(hc:c.cls C=some ci)(hd:0<P.d)
  (h:TK c P.down (.top (.ref ci.init)) (.loc (U.length+1)::args) kw (λr U'=>r=.none/\Q (.loc (U.length+1)) U') X (U++[some (.idict [])]++[some (ee ci C U.length)])):TK c P (.top (.ref C)) args kw Q X U:=by
 intro κ V s vf vs ks ok hfr st hf ha hk
 cases hf
 have co:=ok.cfg.cls C ci hc
 have Xk:=st.inK ok
 obtain ⟨i1,i2⟩:=co.init κ.w.params
 have e1:=ah V U.length s.heap.objs.size
 have st1:=St.push st (ao:=.idict []) (o:=emptyDict) rfl ⟨[],0,rfl,.nil,.nil⟩ s.toks s.drawn
 have e2:=ah (aw V U.length s.heap.objs.size) (U++[some (AObj.idict [])]).length (s.heap.push emptyDict).objs.size
 have hl:(U++[some (AObj.idict [])]).length=U.length+1:=by simp
 have hat:aw (aw V U.length s.heap.objs.size) (U++[some (AObj.idict [])]).length (s.heap.push emptyDict).objs.size U.length=s.heap.objs.size:=by rw [e2 _ (by simp),ad]
 have st2:=St.push st1 (ao:=ee ci C U.length) (o:=instObj C s.heap.objs.size) rfl (by
  unfold ee
  split
  ·exact ⟨by simp;omega,by rw [hat]⟩
  ·exact ⟨by simp;omega,[],.nil,by rw [hat]⟩) s.toks s.drawn (by intro _ _;unfold ee;split <;> trivial)
 have ex:=e1.trans (by simp) e2
 have hsz:(s.heap.push emptyDict).objs.size=s.heap.objs.size+1:=Heap.size_push _ _
 have hself:aw (aw V U.length s.heap.objs.size) (U++[some (AObj.idict [])]).length (s.heap.push emptyDict).objs.size (U.length+1)=s.heap.objs.size+1:=by rw [←hl,ad,hsz]
 obtain ⟨hh,g,d,t,os⟩:=s
 refine make_core (makes_of Xk (co.makes _)) (looks_findIn Xk i1) (λself=>bind_fn Xk self (beq_iff_eq.mp i2)) (.inl rfl) ?_
 have h1:=ok.depth
 have h2:=ok.units
 have ok':({κ with A:=κ.A.under (.builtin "type.__call__" ⟨.ref C::vs,ks⟩)}:KX).Ok c P.down:=by
  refine ⟨ok.cfg,ok.keepG,ok.frG,ok.X,ok.T,ok.tabs,ok.bmain,?_,?_,ok.handled,ok.frames⟩
  ·exact iZ hd ok.depth (Nat.le_of_ble_eq_true rfl)
  ·exact iZ hd ok.units (Nat.le_of_ble_eq_true rfl)
 have st':St ({κ with A:=κ.A.under (.builtin "type.__call__" ⟨.ref C::vs,ks⟩)}:KX) _ _ _:=⟨st2.keep,st2.obj,st2.new,st2.inj,st2.bare,st2.os,st2.low,st2.big⟩
 refine codeAny_mono (h _ _ _ (.ref ci.init) (.ref (hh.objs.size+1)::vs) ks ok' hfr st' rfl (.cons ⟨by simp,by rw [hself]⟩ (VRs.ext ha ex (by simp))) (hk.mono λω ω x=>⟨x.1,x.2.ext ex (by simp)⟩)) ?_
 intro r s' hr
 have conv:∀{α:Type} {G:(Nat->Addr)->Store->α->Prop} {r:α},Post ({κ with A:=κ.A.under (.builtin "type.__call__" ⟨.ref C::vs,ks⟩)}:KX) (aw (aw V U.length hh.objs.size) (U++[some (AObj.idict [])]).length (hh.push emptyDict).objs.size) (U++[some (AObj.idict [])]++[some (ee ci C U.length)]).length G r s'->Post κ V U.length G r s':=by
  rintro α G r ⟨V',U',e,l,st3,q⟩
  exact ⟨V',U',ex.trans (by simp) e,Nat.le_trans (by simp) l,⟨st3.keep,st3.obj,st3.new,st3.inj,st3.bare,st3.os,st3.low,st3.big⟩,q⟩
 cases r with
 | error e=>exact conv hr
 | ok f=>
  cases f with
  | ret v=>
   obtain ⟨V',U',e,l,st3,a,ra,rfl,q⟩:=hr
   cases ra
   refine ⟨rfl,conv (G:=gV Q) ⟨V',U',e,l,st3,.loc (U.length+1),⟨Nat.lt_of_lt_of_le (by simp) l,?_⟩,q⟩⟩
   rw [e _ (by simp)]
   exact congrArg _ hself.symm
  | next=>exact hr
  | brk=>exact hr
  | cont=>exact hr
end
end
section
structure Go (c:Cfg)(P:SP)(E:AEnv)(κ:KX)(V0:Nat->Addr)(n0:Nat)(V:Nat->Addr)(U:Store)(s:Shared):Prop where
 ok:κ.Ok c P
 hh:Here E κ V
 hv:E.Valid U.length
 st:St κ V U s
 e0:Ext n0 V0 V
 l0:n0<=U.length
 env:E.conc V0=E.conc V
 hv0:E.Valid n0
section
variable {α β:Type}{c:Cfg}{P:SP}{E:AEnv}{κ:KX}{V0 V:Nat->Addr}{n0:Nat}{U:Store}{s:Shared}{X:XP}{G G':(Nat->Addr)->Store->α->Prop}
variable {v:Value}{a:AVal}{Q:AVal->Store->Prop}{s':Shared}{pos:Pos}{l r x e:Expr}{rest es:List Expr}
theorem Go.done (g:Go c P E κ V0 n0 V U s){r:α}(h:G V U r):Post κ V0 n0 G r s:=⟨V,U,g.e0,g.l0,g.st,h⟩
theorem Go.doneV (g:Go c P E κ V0 n0 V U s)(r:VR V U.length a v)(h:Q a U):Post κ V0 n0 (gV Q) v s:=g.done ⟨a,r,h⟩
theorem Go.doneF (g:Go c P E κ V0 n0 V U s){f:Flow}{a:ai}{Q:ai->Store->Prop}(r:FR V U.length a f)(h:Q a U):Post κ V0 n0 (gF Q) f s:=g.done ⟨a,r,h⟩
theorem Go.step (g:Go c P E κ V0 n0 V U s){V':Nat->Addr}{U':Store}(e:Ext U.length V V')(l:U.length<=U'.length)(st:St κ V' U' s'):Go c P E κ V0 n0 V' U' s':=
 ⟨g.ok,g.hh.ext g.hv e,g.hv.mono l,st,g.e0.trans g.l0 e,Nat.le_trans g.l0 l,g.env.trans (AEnv.conc_ext g.hv e).symm,g.hv0⟩
theorem TM.mk {t:Env->Sem α}(h:∀κ V0 s,Go c P E κ V0 U.length V0 U s->wpAny (model κ.p κ.w) κ.A (t (E.conc V0)) (Post κ V0 U.length G) (Post κ V0 U.length (gX X)) s):TM c P E t G X U:=
 λκ V s ok hh hv st=>h κ V s ⟨ok,hh,hv,st,Ext.refl _ _,Nat.le_refl _,rfl,hv⟩
theorem Post.goX (g:Go c P E κ V0 n0 V U s)(h:Post κ V U.length (gX X) v s'):Post κ V0 n0 (gX X) v s':=h.back g.e0 g.l0
theorem J.go {t:Sem α}{Q:α->Shared->Prop}(h:J c κ V U.length t G X s)(g:Go c P E κ V0 n0 V U s)
  (k:∀V' U' r s',Go c P E κ V0 n0 V' U' s'->Ext U.length V V'->U.length<=U'.length->G V' U' r->Q r s'):wpAny (model κ.p κ.w) κ.A t Q (Post κ V0 n0 (gX X)) s:=by
 refine wpAny_mono h ?_ λω ω x=>Post.goX g x
 rintro r s' ⟨V',U',e,l,st,hG⟩
 exact k V' U' r s' (g.step e l st) e l hG
theorem TM.go {t:Env->Sem α}{Q:α->Shared->Prop}(h:TM c P E t G X U)(g:Go c P E κ V0 n0 V U s)
  (k:∀V' U' r s',Go c P E κ V0 n0 V' U' s'->Ext U.length V V'->U.length<=U'.length->G V' U' r->Q r s'):wpAny (model κ.p κ.w) κ.A (t (E.conc V0)) Q (Post κ V0 n0 (gX X)) s:=by
 rw [g.env]
 exact (h κ V s g.ok g.hh g.hv g.st).go g k
theorem TM.end {t:Env->Sem α}(h:TM c P E t G X U)(g:Go c P E κ V0 n0 V U s):wpAny (model κ.p κ.w) κ.A (t (E.conc V0)) (Post κ V0 n0 G) (Post κ V0 n0 (gX X)) s:=
 h.go g λω ω ω ω g' ω ω hG=>g'.done hG
theorem J.end {t:Sem α}(h:J c κ V U.length t G X s)(g:Go c P E κ V0 n0 V U s):wpAny (model κ.p κ.w) κ.A t (Post κ V0 n0 G) (Post κ V0 n0 (gX X)) s:=
 h.go g λω ω ω ω g' ω ω hG=>g'.done hG
def OP1 (c:Cfg)(P:SP)(t:Value->Sem α)(a:AVal)(G:(Nat->Addr)->Store->α->Prop)(X:XP)(U:Store):Prop:=
 ∀κ V s v,κ.Ok c P->St κ V U s->VR V U.length a v->J c κ V U.length (t v) G X s
def OP2 (c:Cfg)(P:SP)(t:Value->Value->Sem α)(a b:AVal)(G:(Nat->Addr)->Store->α->Prop)(X:XP)(U:Store):Prop:=
 ∀κ V s v w,κ.Ok c P->St κ V U s->VR V U.length a v->VR V U.length b w->J c κ V U.length (t v w) G X s
def OP3 (c:Cfg)(P:SP)(t:Value->Value->Value->Sem α)(a b d:AVal)(G:(Nat->Addr)->Store->α->Prop)(X:XP)(U:Store):Prop:=
 ∀κ V s v w x,κ.Ok c P->St κ V U s->VR V U.length a v->VR V U.length b w->VR V U.length d x->J c κ V U.length (t v w x) G X s
theorem fy {x:Str}(hd:a7 x=true)(hk:E.scope.kind=.function)(h:kV c E x U a)(q:Q a U):TE c P E (.Name x pos) Q X U:=
 TM.mk λκ V0 s g=>Name_ok g.ok g.st hk hd h λv r=>g.doneV r q
theorem TE_BinOp {op:Operator}(h:TE c P E l (λa U1=>TE c P E r (λb U2=>OP2 c P (binaryOp op) a b (gV Q) X U2) X U1) X U):TE c P E (.BinOp l op r pos) Q X U:=by
 refine TM.mk λκ V0 s g=>wpAny_BinOp (h.go g ?_)
 rintro V1 U1 v s₁ g₁ e1 l1 ⟨a,ra,h₁⟩
 refine h₁.go g₁ ?_
 rintro V2 U2 w s2 g2 e2 l2 ⟨b,rb,h₂⟩
 exact (h₂ κ V2 s2 v w g2.ok g2.st (ra.ext e2 l2) rb).end g2
theorem TE_Compare {op:CmpOp}(h:TE c P E l (λa U1=>TE c P E r (λb U2=>OP2 c P (compareOp op) a b (gV Q) X U2) X U1) X U)(hm:behindInMarks op r=false):TE c P E (.Compare l [op] [r] pos) Q X U:=by
 refine TM.mk λκ V0 s g=>wpAny_Compare1 (h.go g ?_) hm
 rintro V1 U1 v s₁ g₁ e1 l1 ⟨a,ra,h₁⟩
 refine h₁.go g₁ ?_
 rintro V2 U2 w s2 g2 e2 l2 ⟨b,rb,h₂⟩
 exact (h₂ κ V2 s2 v w g2.ok g2.st (ra.ext e2 l2) rb).end g2
def TTru (c:Cfg)(P:SP)(a:AVal)(Q:Bool->Store->Prop)(X:XP)(U:Store):Prop:=OP1 c P truthy a (gB Q) X U
theorem TT_Compare {op:CmpOp}{Q:Bool->Store->Prop}(h:TE c P E l (λa U1=>TE c P E r (λb U2=>OP2 c P (compareOp op) a b (gV λd U3=>TTru c P d Q X U3) X U2) X U1) X U)(hm:behindInMarks op r=false):TT c P E (.Compare l [op] [r] pos) Q X U:=by
 refine TM.mk λκ V0 s g=>?_
 rw [isTrue_Compare1,markedBehindIn_of_false hm]
 refine wpAny_bind (h.go g ?_)
 rintro V1 U1 v s₁ g₁ e1 l1 ⟨a,ra,h₁⟩
 refine wpAny_bind (wpAny_holding (h₁.go g₁ ?_))
 rintro V2 U2 w s2 g2 e2 l2 ⟨b,rb,h₂⟩
 refine wpAny_bind (wpAny_standAt (wpAny_bind (wpAny_operateT ((h₂ κ V2 s2 v w g2.ok g2.st (ra.ext e2 l2) rb).go g2 ?_))))
 rintro V3 U3 x s3 g3 e3 l3 ⟨d,rd,h3⟩
 exact wpAny_holding ((h3 κ V3 s3 x g3.ok g3.st rd).end g3)
theorem uR {t b o:Expr}(h:TT c P E t (λx U1=>if x then TE c P E b Q X U1 else TE c P E o Q X U1) X U):TE c P E (.IfExp t b o pos) Q X U:=by
 refine TM.mk λκ V0 s g=>?_
 rw [arm_eval_IfExp]
 refine wpAny_bind (TM.go (t:=λenv=>isTrue t env (eval t env)) h g ?_)
 rintro V1 U1 x s₁ g₁ e1 l1 h₁
 haveI h₁:if x then TE c P E b Q X U1 else TE c P E o Q X U1:=h₁
 cases x
 ·exact TM.end h₁ g₁
 ·exact TM.end h₁ g₁
theorem TT_Not {Q:Bool->Store->Prop}(h:TT c P E x (λb U1=>Q (!b) U1) X U):TT c P E (.UnaryOp .Not x pos) Q X U:=by
 refine TM.mk λκ V0 s g=>wpAny_isTrue_Not (TM.go (t:=λenv=>isTrue x env (eval x env)) h g ?_)
 rintro V1 U1 b s₁ g₁ e1 l1 h₁
 exact g₁.done h₁
theorem TT_BoolOp {op:BoolOp}{vs:List Expr}{Q:Bool->Store->Prop}(h:TM c P E (allTrue op vs) (gB Q) X U):TT c P E (.BoolOp op vs pos) Q X U:=by
 refine TM.mk λκ V0 s g=>?_
 rw [arm_isTrue_BoolOp]
 exact h.end g
theorem nC {op:BoolOp}{Q:Bool->Store->Prop}(h:Q (op == .And) U):TM c P E (allTrue op []) (gB Q) X U:=by
 refine TM.mk λκ V0 s g=>?_
 rw [arm_allTrue_nil]
 exact wpAny_pure (g.done h)
theorem kU {op:BoolOp}{Q:Bool->Store->Prop}
  (h:TT c P E x (λb U1=>if b=(op == .And) then TM c P E (allTrue op rest) (gB Q) X U1 else Q b U1) X U):TM c P E (allTrue op (x::rest)) (gB Q) X U:=by
 refine TM.mk λκ V0 s g=>?_
 rw [arm_allTrue_cons]
 refine wpAny_bind (TM.go (t:=λenv=>isTrue x env (eval x env)) h g ?_)
 rintro V1 U1 b s₁ g₁ e1 l1 h₁
 haveI h₁:if b=(op == .And) then TM c P E (allTrue op rest) (gB Q) X U1 else Q b U1:=h₁
 cases op <;> cases b <;> first | exact TM.end h₁ g₁ | exact wpAny_pure (g₁.done h₁)
theorem TE_Neg (h:TE c P E x (λa U1=>∃i,a=.int i/\Q (.int (-i)) U1) X U):TE c P E (.UnaryOp .USub x pos) Q X U:=by
 refine TM.mk λκ V0 s g=>wpAny_UnaryOp (h.go g ?_)
 rintro V1 U1 v s₁ g₁ e1 l1 ⟨a,ra,i,rfl,h₁⟩
 obtain ⟨t,rfl⟩:=ra
 exact neg_int ((g₁.step (Ext.refl _ _) (Nat.le_refl _) (g₁.st.toks _ s₁.drawn)).doneV (a:=.int (-i)) ⟨_,rfl⟩ h₁)
noncomputable def um:Const->Option AVal
 | .none=>some .none
 | .bool b=>some (.bool b)
 | .int i=>some (.int i)
 | .str x=>some (.str x)
 | .bytes b=>some (.bytes b.toArray)
 | _=>none
theorem db {k:Const}{n:Nat}(e:um k=some a)(q:Q a U):TE c P E (.Constant k n pos) Q X U:=by
 refine TM.mk λκ V0 s g=>?_
 have st1:=g.step (Ext.refl _ _) (Nat.le_refl _) (g.st.toks (s.toks+1) s.drawn)
 cases k <;> cases e
 ·exact wpAny_Constant_none (g.doneV (a:=.none) rfl q)
 ·exact wpAny_Constant_bool (g.doneV (a:=.bool _) rfl q)
 ·exact wpAny_Constant_int (st1.doneV (a:=.int _) ⟨_,rfl⟩ q)
 ·exact wpAny_Constant_str (st1.doneV (a:=.str _) ⟨_,rfl⟩ q)
 ·exact λω ω ω=>st1.doneV (a:=.bytes _) ⟨_,rfl⟩ q
noncomputable def gN (e:Expr):Bool:=![0,3,5,15].contains e.ctorIdx
theorem lF (h:gN e=true)(env:Env)(w:Sem Value):isTrue e env w=(do let v ←w;standAt e.pos;holding [v] (truthy v)):=by
 cases e <;> first | rfl | exact absurd h Bool.false_ne_true
theorem TT_plain {Q:Bool->Store->Prop}(hp:gN e=true)(h:TE c P E e (λa U1=>TTru c P a Q X U1) X U):TT c P E e Q X U:=by
 refine TM.mk λκ V0 s g=>?_
 rw [lF hp]
 refine wpAny_bind (h.go g ?_)
 rintro V1 U1 v s₁ g₁ e1 l1 ⟨a,ra,h₁⟩
 exact wpAny_bind (wpAny_standAt (wpAny_holding ((h₁ κ V1 s₁ v g₁.ok g₁.st ra).end g₁)))
def TSp (c:Cfg)(P:SP)(E:AEnv)(t:Env->List (Bool×Sem Value))(Q:List AVal->Store->Prop)(X:XP)(U:Store):Prop:=TM c P E (λenv=>spliced (t env)) (gVs Q) X U
noncomputable def dP (e:Expr):Bool:=Nat.beq e.ctorIdx 22
theorem dz (h:dP e=false)(rest:List Expr)(env:Env):starEach (e::rest) env=(false,eval e env)::starEach rest env:=by
 cases e <;> first | rfl | exact absurd h.symm Bool.false_ne_true
theorem TSp_nil {Q:List AVal->Store->Prop}(h:Q [] U):TSp c P E (λenv=>backTo pos (starEach [] env)) Q X U:=by
 refine TM.mk λκ V0 s g=>?_
 exact wpAny_pure (g.done ⟨[],.nil,h⟩)
theorem uG {Q:List AVal->Store->Prop}(hs:dP e=false)
  (h:TE c P E e (λa U1=>TSp c P E (λenv=>backTo pos (starEach rest env)) (λas U2=>Q (a::as) U2) X U1) X U):TSp c P E (λenv=>backTo pos (starEach (e::rest) env)) Q X U:=by
 refine TM.mk λκ V0 s g=>?_
 dsimp only
 rw [dz hs]
 show wpAny _ _ (do
  let v ←eval e (E.conc V0)
  let here ←pure [v]
  return here++(←holding here (spliced (backTo pos (starEach rest (E.conc V0)))))) _ _ _
 refine wpAny_bind (h.go g ?_)
 rintro V1 U1 v s₁ g₁ e1 l1 ⟨a,ra,h₁⟩
 refine wpAny_bind (wpAny_pure (wpAny_bind (wpAny_holding (TM.go (t:=λenv=>spliced (backTo pos (starEach rest env))) h₁ g₁ ?_))))
 rintro V2 U2 ws s2 g2 e2 l2 ⟨as,ras,h₂⟩
 exact wpAny_pure (g2.done ⟨a::as,.cons (ra.ext e2 l2) ras,h₂⟩)
theorem TE_List (h:TSp c P E (λenv=>backTo pos (starEach es env)) (λas U1=>as.length<=lenLine/\Q (.loc U1.length) (U1++[some (.list as)])) X U):TE c P E (.List es pos) Q X U:=by
 refine TM.mk λκ V0 s g=>?_
 rw [arm_eval_List]
 refine wpAny_bind (wpAny_standAt (wpAny_bind (TM.go h g ?_)))
 rintro V1 U1 vs s₁ g₁ e1 l1 ⟨as,ras,hl,hq⟩
 skip
 refine wpAny_newObj_type ?_ (show vs.toArray.size<=sizeLine by rw [List.size_toArray,←ras.length];exact Nat.le_trans hl aj)
 haveI e:=ah V1 U1.length s₁.heap.objs.size
 haveI st2:=St.push g₁.st (ao:=.list as) (o:={cls:=.type "list",data:=.seq vs.toArray}) rfl ⟨_,_,rfl,VRs.ext ras e (Nat.le_succ _)⟩ s₁.toks s₁.drawn
 exact (g₁.step e (by simp) st2).doneV (a:=.loc U1.length) ⟨by simp,by rw [ad]⟩ hq
theorem uN {k:Nat}(h:TSp c P E (λenv=>backTo pos (starEach es env)) (λas U1=>as.length<=lenLine/\Q (.loc U1.length) (U1++[some (.tuple as)])) X U):TE c P E (.Tuple es k pos) Q X U:=by
 refine TM.mk λκ V0 s g=>?_
 rw [arm_eval_Tuple]
 refine wpAny_bind (wpAny_standAt (wpAny_bind (TM.go h g ?_)))
 rintro V1 U1 vs s₁ g₁ e1 l1 ⟨as,ras,hl,hq⟩
 skip
 refine wpAny_newObj_type ?_ (show vs.toArray.size<=sizeLine by rw [List.size_toArray,←ras.length];exact Nat.le_trans hl aj)
 haveI e:=ah V1 U1.length s₁.heap.objs.size
 haveI st2:=St.push g₁.st (ao:=.tuple as) (o:={cls:=.type "tuple",data:=.seq vs.toArray}) rfl ⟨_,_,rfl,VRs.ext ras e (Nat.le_succ _)⟩ s₁.toks s₁.drawn
 exact (g₁.step e (by simp) st2).doneV (a:=.loc U1.length) ⟨by simp,by rw [ad]⟩ hq
end
end
section
theorem VRs.size {V:Nat->Addr}{n:Nat}{l:List AVal}{vs:List Value}(h:VRs V n l vs):vs.length=l.length:=(All2.length h).symm
theorem VRs.fits {V:Nat->Addr}{n:Nat}{l:List AVal}{vs:List Value}(h:VRs V n l vs)(hl:l.length<=lenLine):(List.toArray vs).size<=sizeLine:=by
 rw [List.size_toArray,h.size];exact Nat.le_trans hl aj
def New (U:Store)(o:AObj)(Q:AVal->Store->Prop):Prop:=∃n U2,U.length=n/\U++[some o]=U2/\Q (.loc n) U2
theorem New.get {U:Store}{o:AObj}{Q:AVal->Store->Prop}(h:New U o Q):Q (.loc U.length) (U++[some o]):=by
 obtain ⟨n,U2,rfl,rfl,q⟩:=h
 exact q
theorem New.post {κ:KX}{V:Nat->Addr}{U:Store}{s:Shared}{o:Obj}{ao:AObj}{Q:AVal->Store->Prop}(q:New U ao Q)(st:St κ V U s)(hf:o.isFreed=false)(r:OR κ.p κ.w (aw V U.length s.heap.objs.size) (U.length+1) ao o)(tk:Nat)(hw:autoParam (∀a,4<=a->ao.need a) auN) :
  Post κ V U.length (gV Q) (.ref s.heap.objs.size) {s with heap:=s.heap.push o,toks:=tk}:=by
 have l1:(U++[some ao]).length=U.length+1:=List.length_append
 exact ⟨_,_,ah V U.length s.heap.objs.size,l1▸Nat.le_succ _,St.push st hf r tk s.drawn hw,.loc U.length,⟨l1▸Nat.lt_succ_self _,by rw [ad]⟩,q.get⟩
section
variable {c:Cfg}{P:SP}{E:AEnv}{U:Store}{X:XP}
variable {t:Value->Value->Sem Value}{d lo hi:AVal}{z r:Bool}{w v:Value}{s:Shared}{vs:List Value}{i j n:Nat}{l m:List AVal}{V:Nat->Addr}{o:Obj}{κ:KX}{es:List (Str×AVal)}{kvs:List (Str×Value)}{k:Str}
theorem OP2.say {a b:AVal}(q:Q d U)
  (h:∀(κ:KX) V s v w (Q' E':Value->Shared->Prop),κ.Ok c P->St κ V U s->VR V U.length a v->VR V U.length b w->(∀u tk,VR V U.length d u->Q' u {s with toks:=tk})->wpAny (model κ.p κ.w) κ.A (t v w) Q' E' s):OP2 c P t a b (gV Q) X U:=
 λκ V s v w ok st ha hb=>h κ V s v w _ _ ok st ha hb λu tk r=>⟨V,U,Ext.refl _ _,Nat.le_refl _,st.toks tk _,d,r,q⟩
theorem OP2.lits {a b:AVal}{f g:Tok->Value}(hf:∀V n v,VR V n a v->∃t,v=f t)(hg:∀V n v,VR V n b v->∃t,v=g t)(q:Q d U)
  (h:∀(κ:KX) s ta tb (Q' E':Value->Shared->Prop),(∀u tk,(∀V n,VR V n d u)->Q' u {s with toks:=tk})->wpAny (model κ.p κ.w) κ.A (t (f ta) (g tb)) Q' E' s):OP2 c P t a b (gV Q) X U:=
 OP2.say q λκ V s v w Q' E' ω ω ha hb k=>by
  obtain ⟨ta,rfl⟩:=hf _ _ _ ha
  obtain ⟨tb,rfl⟩:=hg _ _ _ hb
  exact h κ s ta tb Q' E' λu tk r=>k u tk (r _ _)
theorem OP2.ints (q:Q d U)
  (h:∀(κ:KX) s ta tb (Q' E':Value->Shared->Prop),(∀u tk,(∀V n,VR V n d u)->Q' u {s with toks:=tk})->wpAny (model κ.p κ.w) κ.A (t (.int a ta) (.int b tb)) Q' E' s):OP2 c P t (.int a) (.int b) (gV Q) X U:=
 OP2.lits (λω ω ω h=>h) (λω ω ω h=>h) q h
theorem OP2.inti {z:Int}(q:Q (.int z) U)
  (h:∀(κ:KX) s ta tb (Q' E':Value->Shared->Prop),(∀tk tk',Q' (.int z tk) {s with toks:=tk'})->wpAny (model κ.p κ.w) κ.A (t (.int a ta) (.int b tb)) Q' E' s):OP2 c P t (.int a) (.int b) (gV Q) X U:=
 OP2.ints q λκ s ta tb Q' E' k=>h κ s ta tb Q' E' λtk tk'=>k _ tk' λω ω=>⟨_,rfl⟩
theorem OP2.intb (q:Q (.bool z) U)
  (h:∀(κ:KX) s ta tb (Q' E':Value->Shared->Prop),Q' (.bool z) s->wpAny (model κ.p κ.w) κ.A (t (.int a ta) (.int b tb)) Q' E' s):OP2 c P t (.int a) (.int b) (gV Q) X U:=
 OP2.ints q λκ s ta tb Q' E' k=>h κ s ta tb Q' E' (k _ s.toks λω ω=>rfl)
theorem OP2.strb {a b:Str}(q:Q (.bool z) U)
  (h:∀(κ:KX) s ta tb (Q' E':Value->Shared->Prop),(∀tk,Q' (.bool z) {s with toks:=tk})->wpAny (model κ.p κ.w) κ.A (t (.str a ta) (.str b tb)) Q' E' s):OP2 c P t (.str a) (.str b) (gV Q) X U:=
 OP2.lits (λω ω ω h=>h) (λω ω ω h=>h) q λκ s ta tb Q' E' k=>h κ s ta tb Q' E' λtk=>k _ tk λω ω=>rfl
variable {a b:Int}{Q:AVal->Store->Prop}
theorem u8 (q:Q (.int (a+b)) U):OP2 c P (binaryOp .Add) (.int a) (.int b) (gV Q) X U:=OP2.inti q λω ω ω ω ω ω k=>PyProof.Rows.add_int (k _ _)
theorem uV (q:Q (.int (a - b)) U):OP2 c P (binaryOp .Sub) (.int a) (.int b) (gV Q) X U:=OP2.inti q λω ω ω ω ω ω k=>PyProof.Rows.sub_int (k _ _)
theorem OP2_and (q:Q (.int (Builtin.bitAnd a b)) U):OP2 c P (binaryOp .BitAnd) (.int a) (.int b) (gV Q) X U:=OP2.inti q λω ω ω ω ω ω k=>and_int (k _ _)
theorem OP2_or (q:Q (.int (Builtin.bitOr a b)) U):OP2 c P (binaryOp .BitOr) (.int a) (.int b) (gV Q) X U:=OP2.inti q λω ω ω ω ω ω k=>or_int (k _ _)
theorem u7 (h:b≠0/\b.natAbs<1000000)(q:Q (.int (a.fdiv b)) U):OP2 c P (binaryOp .FloorDiv) (.int a) (.int b) (gV Q) X U:=
 OP2.inti q λω ω ω ω ω ω k=>floordiv_int h.1 (k _ _) (.inl (PyProof.noPylong_small (Nat.lt_trans h.2 (by decide))))
theorem OP2_mod (h:b≠0/\b.natAbs<1000000)(q:Q (.int (a.fmod b)) U):OP2 c P (binaryOp .Mod) (.int a) (.int b) (gV Q) X U:=OP2.inti q λω ω ω ω ω ω k=>PyProof.Rows.mod_int' h.1 (k _ _)
theorem OP2_shl (h:0<=b/\b<=1000000/\a.natAbs<2 ^ 64)(q:Q (.int (a * 2 ^ b.toNat)) U):OP2 c P (binaryOp .LShift) (.int a) (.int b) (gV Q) X U:=OP2.inti q λω ω ω ω ω ω k=>lshift_int_small h.1 h.2.1 h.2.2 (k _ _)
theorem OP2_shr (h:0<=b/\b<10000)(q:Q (.int (a.fdiv (2 ^ b.toNat))) U):OP2 c P (binaryOp .RShift) (.int a) (.int b) (gV Q) X U:=OP2.inti q λω ω ω ω ω ω k=>rshift_int h.1 (k _ _)
theorem r7 (q:Q (.int (a+b)) U):OP2 c P (inplaceOp .Add) (.int a) (.int b) (gV Q) X U:=OP2.inti q λω ω ω ω ω ω k=>wpAny_iadd_int (k _ _)
theorem rX (q:Q (.int (a - b)) U):OP2 c P (inplaceOp .Sub) (.int a) (.int b) (gV Q) X U:=OP2.inti q λω ω ω ω ω ω k=>PySem.P.isub_int (k _ _)
theorem OP2_lt (q:Q (.bool (decide (a<b))) U):OP2 c P (compareOp .Lt) (.int a) (.int b) (gV Q) X U:=OP2.intb q λω ω ω ω ω ω k=>PyProof.Rows.lt_int k
theorem OP2_gt (q:Q (.bool (decide (b<a))) U):OP2 c P (compareOp .Gt) (.int a) (.int b) (gV Q) X U:=OP2.intb q λω ω ω ω ω ω k=>PySem.P.gt_int k
theorem OP2_ge (q:Q (.bool (decide (b<=a))) U):OP2 c P (compareOp .GtE) (.int a) (.int b) (gV Q) X U:=OP2.intb q λω ω ω ω ω ω k=>PySem.P.ge_int k
theorem pb {p:Prop} [Decidable p] {b:Bool}(h:b=true↔p):b=decide p:=by
 by_cases q:p
 ·exact (h.mpr q).trans (decide_eq_true q).symm
 ·exact (Bool.eq_false_iff.mpr λe=>q (h.mp e)).trans (decide_eq_false q).symm
theorem fq (a b:Int):(a == b)=decide (a=b):=pb beq_iff_eq
theorem pM (a b:Str):(a.cps.toList == b.cps.toList)=decide (a=b):=pb (beq_iff_eq.trans ⟨λe=>by cases a;cases b;exact congrArg Str.mk (Array.toList_inj.mp e),λe=>e▸rfl⟩)
theorem OP2_eqi (q:Q (.bool (decide (a=b))) U):OP2 c P (compareOp .Eq) (.int a) (.int b) (gV Q) X U:=OP2.intb q λω ω ω ω ω ω k=>PyProof.Rows.eq_int (fq a b▸k)
theorem OP2_nei (q:Q (.bool (!decide (a=b))) U):OP2 c P (compareOp .NotEq) (.int a) (.int b) (gV Q) X U:=OP2.intb q λω ω ω ω ω ω k=>PyProof.Rows.ne_int (by rw [←fq] at k;exact k)
variable {x y:Str}
theorem OP2_eqs (q:Q (.bool (decide (x=y))) U):OP2 c P (compareOp .Eq) (.str x) (.str y) (gV Q) X U:=OP2.strb q λω s ω ω ω ω k=>PySem.P.eq_str (pM x y▸k s.toks)
theorem OP2_nes (q:Q (.bool (!decide (x=y))) U):OP2 c P (compareOp .NotEq) (.str x) (.str y) (gV Q) X U:=OP2.strb q λω s ω ω ω ω k=>PySem.P.ne_str (by have:=k s.toks;rw [←pM] at this;exact this)
theorem OP2_ins (q:Q (.bool (Txt.contains y x)) U):OP2 c P (compareOp .In) (.str x) (.str y) (gV Q) X U:=OP2.strb q λω ω ω ω ω ω k=>PySem.SB.contains (k _)
theorem uW (q:Q (.bool (!Txt.contains y x)) U):OP2 c P (compareOp .NotIn) (.str x) (.str y) (gV Q) X U:=OP2.strb q λω ω ω ω ω ω k=>PySem.SB.notContains (k _)
theorem nJ (h:x.length+y.length<=lenLine)(q:Q (.str (x++y)) U):OP2 c P (binaryOp .Add) (.str x) (.str y) (gV Q) X U:=
 OP2.lits (f:=.str x) (g:=.str y) (λω ω ω h=>h) (λω ω ω h=>h) q λω ω ω ω ω ω k=>PyProof.Rows.add_str (λt' tk=>k _ _ λω ω=>⟨_,rfl⟩) (Nat.le_trans h aj)
theorem u9 {u v:Array UInt8}(h:u.size+v.size<=lenLine)(q:Q (.bytes (u++v)) U):OP2 c P (binaryOp .Add) (.bytes u) (.bytes v) (gV Q) X U:=
 OP2.lits (f:=.bytes u) (g:=.bytes v) (λω ω ω h=>h) (λω ω ω h=>h) q λω ω ω ω ω ω k=>KBy.add_bytes (Nat.le_trans h (by decide)) (λt' tk=>k _ _ λω ω=>⟨_,rfl⟩)
theorem kh {prog:Program}{w:World}{A:Around}{E:Value->Shared->Prop}{l b:Addr}{ws:List Value}{Q:Value->Shared->Prop}(hl:s.heap.IsList l vs.toArray)(hb:s.heap.IsList b ws.toArray)
  (h:Q (.ref s.heap.objs.size) {s with heap:=s.heap.push {cls:=.type "list",data:=.seq (vs++ws).toArray}}) (hsz:vs.toArray.size+ws.toArray.size<=sizeLine) :
  wpAny (model prog w) A (binaryOp .Add (.ref l) (.ref b)) Q E s:=by
 obtain ⟨⟨c1,d1,t1,s₁⟩,g₁,hc1,n1,hd1⟩:=id hl
 obtain ⟨⟨c2,d2,t2,s2⟩,g2,hc2,n2,hd2⟩:=id hb
 dsimp only at hc1 hd1 hc2 hd2
 subst hc1 hd1 hc2 hd2
 have q:vs.toArray++ws.toArray=(vs++ws).toArray:=List.append_toArray ..
 refine concat_meets ⟨_,g₁,rfl⟩ ⟨_,g2,rfl⟩ noFill_list_add seq_list_add PySem.F.slot_list_add PySem.F.entry_list_add (PySem.F.args_list_add_2 _ _) (list_addW l b vs.toArray ws.toArray n1 n2 d1 d2 s₁ s2 hsz) ⟨g₁,g2,?_⟩
 rw [q];exact h
theorem jV (hi:U.at i=some (.list l))(hj:U.at j=some (.list m))(h:l.length+m.length<=lenLine)(q:New U (.list (l++m)) Q):OP2 c P (binaryOp .Add) (.loc i) (.loc j) (gV Q) X U:=by
 intro κ V s v w ok st ha hb
 obtain ⟨_,rfl⟩:=ha
 obtain ⟨_,rfl⟩:=hb
 obtain ⟨vs,il,rl⟩:=st.isList hi
 obtain ⟨ws,im,rm⟩:=st.isList hj
 exact kh il im (q.post st rfl ⟨_,_,rfl,VRs.ext (rl.append rm) (ah V U.length _) (Nat.le_succ _)⟩ s.toks) (by rw [List.size_toArray,List.size_toArray,rl.size,rm.size];exact Nat.le_trans h aj)
theorem mf {a b:AVal}(h:∀V n v w,VR V n a v->VR V n b w->plainIs v w=true/\(v == w)=r)(q:Q (.bool r) U):OP2 c P (compareOp .Is) a b (gV Q) X U:=
 OP2.say q λκ V s v w Q' E' ω ω ha hb k=>by
  obtain ⟨p,rfl⟩:=h _ _ _ _ ha hb
  exact wpAny_is_plain p (k _ s.toks rfl)
theorem jU {a b:AVal}(h:∀V n v w,VR V n a v->VR V n b w->plainIs v w=true/\(v == w)=r)(q:Q (.bool (!r)) U):OP2 c P (compareOp .IsNot) a b (gV Q) X U:=
 OP2.say q λκ V s v w Q' E' ω ω ha hb k=>by
  obtain ⟨p,rfl⟩:=h _ _ _ _ ha hb
  exact wpAny_isNot_plain p (k _ s.toks rfl)
theorem isLN :∀(V:Nat->Addr) n v w,VR V n (.loc i) v->VR V n .none w->plainIs v w=true/\(v == w)=false:=λω ω ω ω ha hb=>by cases ha.2;cases hb;exact ⟨rfl,rfl⟩
theorem isSL :∀(V:Nat->Addr) n v w,VR V n (.str x) v->VR V n (.loc i) w->plainIs v w=true/\(v == w)=false:=λω ω ω ω ha hb=>by cases hb.2;obtain ⟨_,rfl⟩:=ha;exact ⟨rfl,rfl⟩
noncomputable def conc:AVal->Option Value
 | .none=>some .none
 | .bool b=>some (.bool b)
 | .top v=>some v
 | _=>none
theorem qf {a:AVal}(h:conc a=some v)(r:VR V n a w):w=v:=by
 cases a <;> cases h <;> exact r
theorem isCC {a b:AVal}{u:Bool}(ha:conc a=some v)(hb:conc b=some w)(hp:plainIs v w=true)(e:(v == w)=u):∀(V:Nat->Addr) n v w,VR V n a v->VR V n b w->plainIs v w=true/\(v == w)=u:=
 λω ω ω ω ra rb=>qf ha ra▸qf hb rb▸⟨hp,e⟩
noncomputable def notTup:AObj->Bool
 | .list _=>true
 | .object=>true
 | _=>false
theorem OR.notTup {p:Program}{w:World}{x:AObj}(h:OR p w V n x o)(hx:notTup x=true):o.cls≠.type "tuple":=by
 cases x with
 | list l=>obtain ⟨vs,ep,rfl,_⟩:=h;exact λw=>absurd (Value.type.inj w) (by decide)
 | object=>cases h;exact λw=>absurd (Value.type.inj w) (by decide)
 | _=>exact absurd hx Bool.false_ne_true
theorem isLoc {x y:AObj}(st:St κ V U s)(hi:U.at i=some x)(hj:U.at j=some y)(hx:notTup x=true){Q E:Value->Shared->Prop} :
  (Q (.bool (decide (i=j))) s->wpAny (model κ.p κ.w) κ.A (compareOp .Is (.ref (V i)) (.ref (V j))) Q E s)/\(Q (.bool (!decide (i=j))) s->wpAny (model κ.p κ.w) κ.A (compareOp .IsNot (.ref (V i)) (.ref (V j))) Q E s):=by
 by_cases e:i=j
 ·subst e
  rw [decide_eq_true rfl]
  exact ⟨wpAny_is_ref_self,wpAny_isNot_ref_self⟩
 ·rw [decide_eq_false e]
  obtain ⟨ox,gx,rx⟩:=st.obj i x hi
  obtain ⟨oy,gy,_⟩:=st.obj j y hj
  have hne:V i≠V j:=λw=>e (st.inj i j x y hi hj w)
  exact ⟨wpAny_is_ref_other hne gx gy (rx.notTup hx),wpAny_isNot_ref_other hne gx gy (rx.notTup hx)⟩
theorem rY {x y:AObj}(hi:U.at i=some x)(hj:U.at j=some y)(hx:notTup x=true)(q:Q (.bool (decide (i=j))) U):OP2 c P (compareOp .Is) (.loc i) (.loc j) (gV Q) X U:=
 OP2.say q λκ V s v w Q' E' ω st ha hb k=>by
  cases ha.2;cases hb.2
  exact (isLoc st hi hj hx).1 (k _ s.toks rfl)
theorem pB {x y:AObj}(hi:U.at i=some x)(hj:U.at j=some y)(hx:notTup x=true)(q:Q (.bool (!decide (i=j))) U):OP2 c P (compareOp .IsNot) (.loc i) (.loc j) (gV Q) X U:=
 OP2.say q λκ V s v w Q' E' ω st ha hb k=>by
  cases ha.2;cases hb.2
  exact (isLoc st hi hj hx).2 (k _ s.toks rfl)
noncomputable def eqP:AVal->AVal->Option Bool
 | .int a,.int b=>some (a == b)
 | .str a,.str b=>some (a.cps.toList == b.cps.toList)
 | .bytes a,.bytes b=>some (a.toList == b.toList)
 | _,_=>none
noncomputable def fD (x:AVal):List AVal->Option Bool
 | []=>some false
 | a::l=>match eqP a x with
  | some b=>match fD x l with
   | some c=>some (b||c)
   | none=>none
  | none=>none
theorem beq_dec (a b:List UInt8):(a == b)=decide (a=b):=pb beq_iff_eq
noncomputable def ui:Value->AVal->Bool
 | .int a _,.int b=>a == b
 | .str a _,.str b=>a.cps.toList == b.cps.toList
 | .bytes a _,.bytes b=>a.toList == b.toList
 | _,_=>false
theorem eqP_at {a b:AVal}(ha:VR V n a v)(hb:VR V n b w)(h:eqP a b=some r)(A:Around)(s:Shared):ui v b=r/\SeqAt.EqAt A s v w r:=by
 cases a with
 | int x=>cases b with
  | int y=>cases h;obtain ⟨t,rfl⟩:=ha;obtain ⟨u,rfl⟩:=hb;exact ⟨rfl,(MeetsSeq.EqGives.int _ _ t u).at A s⟩
  | _=>exact nns h
 | str x=>cases b with
  | str y=>cases h;obtain ⟨t,rfl⟩:=ha;obtain ⟨u,rfl⟩:=hb;exact ⟨rfl,(SeqRoads2.EqGives.str _ _ t u).at A s⟩
  | _=>exact nns h
 | bytes x=>cases b with
  | bytes y=>cases h;obtain ⟨t,rfl⟩:=ha;obtain ⟨u,rfl⟩:=hb;exact ⟨rfl,λprog w E Q hq=>eqBool_bytes (by rw [←beq_dec];exact hq)⟩
  | _=>exact nns h
 | _=>exact nns h
theorem rN {x a:AVal}(h:fD x (a::l)=some r):∃b k,eqP a x=some b/\fD x l=some k/\(b||k)=r:=by
 unfold fD at h
 cases p:eqP a x with
 | none=>rw [p] at h;exact nns h
 | some b=>cases q:fD x l with
  | none=>rw [p,q] at h;exact nns h
  | some k=>rw [p,q] at h;exact ⟨b,k,rfl,rfl,Option.some.inj h⟩
theorem qw {x:AVal}(hx:VR V n x v)(A:Around)(s:Shared)(rs:VRs V n l vs):∀{r:Bool},fD x l=some r->
  (∀y∈vs,SeqAt.EqAt A s y v (ui y x))/\(vs.any λy=>ui y x)=r:=by
 induction rs with
 | nil=>intro r h;cases h;exact ⟨λω hy=>(List.not_mem_nil hy).elim,rfl⟩
 | cons ra rs ih=>
  intro r h
  obtain ⟨b,k,p,q,rfl⟩:=rN h
  obtain ⟨e1,e2⟩:=eqP_at ra hx p A s
  obtain ⟨he,hk⟩:=ih q
  exact ⟨λy hy=>(List.mem_cons.mp hy).elim (λe=>e▸e1.symm▸e2) (he y),by rw [List.any_cons,hk,e1]⟩
theorem jQ {x:AVal}(hx:VR V n x v)(A:Around)(s:Shared)(rs:VRs V n l vs)(h:fD x l=some r) :
  (∀y,y∈List.toArray vs->SeqAt.EqAt A s y v (ui y x))/\(List.toArray vs).any (λy=>ui y x)=r:=
 ⟨λy hy=>(qw hx A s rs h).1 y (List.mem_toArray.mp hy),List.any_toArray.trans (qw hx A s rs h).2⟩
theorem OP2_inL {a:AVal}(hi:U.at i=some (.list l))(h:fD a l=some r)(q:Q (.bool r) U):OP2 c P (compareOp .In) a (.loc i) (gV Q) X U:=
 OP2.say q λκ V s v w Q' E' ω st ha hb k=>by
  cases hb.2
  obtain ⟨vs,il,rl⟩:=st.isList hi
  obtain ⟨he,hr⟩:=jQ ha κ.A.in1 s rl h
  exact SeqAt.in_listAt _ il he (hr▸k _ s.toks rfl)
theorem dF {a:AVal}(hi:U.at i=some (.list l))(h:fD a l=some r)(q:Q (.bool (!r)) U):OP2 c P (compareOp .NotIn) a (.loc i) (gV Q) X U:=
 OP2.say q λκ V s v w Q' E' ω st ha hb k=>by
  cases hb.2
  obtain ⟨vs,il,rl⟩:=st.isList hi
  obtain ⟨he,hr⟩:=jQ ha κ.A.in1 s rl h
  exact SeqAt.notIn_listAt _ il he (hr▸k _ s.toks rfl)
theorem St.isTuple (st:St κ V U s)(h:U.at i=some (.tuple l)):∃vs,s.heap.IsTuple (V i) (List.toArray vs)/\VRs V U.length l vs:=by
 obtain ⟨o,g,vs,ep,rfl,r⟩:=st.obj i _ h
 exact ⟨vs,⟨_,g,rfl,ep,rfl⟩,r⟩
theorem rZ {a:AVal}(hi:U.at i=some (.tuple l))(h:fD a l=some r)(q:Q (.bool r) U):OP2 c P (compareOp .In) a (.loc i) (gV Q) X U:=
 OP2.say q λκ V s v w Q' E' ω st ha hb k=>by
  cases hb.2
  obtain ⟨vs,il,rl⟩:=st.isTuple hi
  obtain ⟨he,hr⟩:=jQ ha κ.A.in1 s rl h
  exact SeqAt.in_tupleAt _ il he (hr▸k _ s.toks rfl)
noncomputable def fQ (x:Str):List (Str×AVal)->Bool
 | []=>false
 | p::l=>p.1 == x||fQ x l
theorem oN (h:All2 (KVR V n) es kvs)(k:Str):fQ k es=(valueAt kvs k).isSome:=by
 induction h with
 | nil=>rfl
 | @cons a b l m r _ ih=>
  unfold valueAt at ih ⊢
  rw [List.find?_cons]
  unfold fQ
  rw [ih,r.1]
  cases q:b.1 == k with
  | true=>rw [decide_eq_true (eq_of_beq q)];rfl
  | false=>rw [decide_eq_false (ne_of_beq_false q)];rfl
theorem St.dictOf (st:St κ V U s)(h:U.at i=some (.dict es)):∃kvs,s.heap.DictOf (strKind κ.p κ.w) (V i) kvs/\All2 (KVR V U.length) es kvs:=by
 obtain ⟨o,g,kvs,d,r⟩:=st.obj i _ h
 exact ⟨kvs,Heap.dictOf_iff.mpr ⟨o,g,d⟩,r⟩
theorem OP2_inD (hi:U.at i=some (.dict es))(q:Q (.bool (fQ k es)) U):OP2 c P (compareOp .In) (.str k) (.loc i) (gV Q) X U:=
 OP2.say q λκ V s v w Q' E' ω st ha hb z=>by
  cases hb.2
  obtain ⟨t,rfl⟩:=ha
  obtain ⟨kvs,d,r⟩:=st.dictOf hi
  exact wpAny_in_of (strKind_is _ _ k t) (st.noMods hi) d.mapOf (oN r k▸z _ _ rfl)
theorem qy {l:List Str}(hi:U.at i=some (.set l))(hl:l.length<1000)(q:Q (.bool (decide (k∈l))) U):OP2 c P (compareOp .In) (.str k) (.loc i) (gV Q) X U:=
 OP2.say q λκ V s v w Q' E' ω st ha hb z=>by
  cases hb.2
  obtain ⟨t,rfl⟩:=ha
  obtain ⟨o,g,ro⟩:=st.obj i _ hi
  exact wpAny_inSet_of (strKind_is _ _ k t) rfl (ro.setOf g (by unfold scanBound;omega)) (z _ _ rfl)
noncomputable def fM:AVal->Bool
 | .int _=>true
 | .str x=>PyData.canLay0 (.str x)
 | _=>false
noncomputable def dA:AVal->PyData
 | .int a=>.int a
 | .str a=>.str a
 | _=>.none
structure PyIs (a:AVal):Prop where
 reads:∀{h:Heap} {V:Nat->Addr} {n:Nat} {v:Value},VR V n a v->Reads h v (dA a) []
 lay:PyData.canLay0 (dA a)=true
 depth:PyData.depth (dA a)=0
 self:PyData.eqv (dA a) (dA a)=true
theorem pyIs {a:AVal}(h:fM a=true):PyIs a:=by
 cases a with
 | int x=>exact ⟨λ⟨t,e⟩=>e▸.int ..,rfl,rfl,by unfold dA PyData.eqv;exact beq_self_eq_true x⟩
 | str x=>exact ⟨λ⟨t,e⟩=>e▸.str ..,h,rfl,by unfold dA PyData.eqv;exact beq_self_eq_true _⟩
 | _=>exact absurd h Bool.false_ne_true
structure PyAre (l:List AVal):Prop where
 reads:∀{h:Heap} {V:Nat->Addr} {n:Nat} {vs:List Value},VRs V n l vs->ReadsAll h vs (l.map dA) []
 lay:PyData.canLayAll0 (l.map dA)=true
 depth:PyData.depthAll (l.map dA)=0
 self:PyData.eqvAll (l.map dA) (l.map dA)=true
theorem fF (h:l.all fM=true):PyAre l:=by
 induction l with
 | nil=>exact ⟨λr=>by cases r;exact .nil,rfl,rfl,rfl⟩
 | cons a l ih=>
  obtain ⟨h1,h2⟩:=Bool.and_eq_true_iff.mp ((List.all_cons (l:=l)).symm.trans h)
  have p:=pyIs h1
  have q:=ih h2
  refine ⟨λr=>?_,?_,?_,?_⟩
  ·cases r with
   | cons r rs=>exact .cons (as:=[]) (p.reads r) (q.reads rs)
  ·rw [List.map_cons];unfold PyData.canLayAll0;rw [p.lay,q.lay];rfl
  ·rw [List.map_cons];unfold PyData.depthAll;rw [p.depth,q.depth];rfl
  ·rw [List.map_cons];unfold PyData.eqvAll;rw [p.self,q.self];rfl
theorem PyAre.shaped {l:List AVal}(h:PyAre l):SeqAt.shaped (.list (l.map dA))=true:=by
 have e1:PyData.canLay0 (.list (l.map dA))=true:=by unfold PyData.canLay0;exact h.lay
 have e2:PyData.depth (.list (l.map dA))=1:=by unfold PyData.depth;rw [h.depth]
 unfold SeqAt.shaped
 rw [e1,e2];rfl
theorem KX.Ok.room (ok:κ.Ok c P):κ.A.units+64<cLine:=by
 have:=ok.units
 rw [cLine_is];omega
theorem i5 (hi:U.at i=some (.list l))(hj:U.at j=some (.list m))(h1:PyAre l)(h2:PyAre m)(e:PyData.eqv (.list (l.map dA)) (.list (m.map dA))=r) :
  (Q (.bool r) U->OP2 c P (compareOp .Eq) (.loc i) (.loc j) (gV Q) X U)/\(Q (.bool (!r)) U->OP2 c P (compareOp .NotEq) (.loc i) (.loc j) (gV Q) X U):=by
 subst e
 have rd:∀{κ:KX} {V s},St κ V U s->(∃as,Reads s.heap (.ref (V i)) (.list (l.map dA)) as)/\∃bs,Reads s.heap (.ref (V j)) (.list (m.map dA)) bs:=λ{κ V s} st=>by
  obtain ⟨o,g,vs,ep,d,r⟩:=st.obj i _ hi
  obtain ⟨o',g',vs',ep',d',r'⟩:=st.obj j _ hj
  subst d d'
  exact ⟨⟨_,.list g rfl rfl (h1.reads r)⟩,_,.list g' rfl rfl (h2.reads r')⟩
 refine ⟨λq=>OP2.say q λκ V s v w Q' E' ok st ha hb k=>?_,λq=>OP2.say q λκ V s v w Q' E' ok st ha hb k=>?_⟩
 ·cases ha.2;cases hb.2
  obtain ⟨⟨_,ra⟩,_,rb⟩:=rd st
  exact SeqAt.compareEq_shaped ra rb h1.shaped h2.shaped ok.room (k _ s.toks rfl)
 ·cases ha.2;cases hb.2
  obtain ⟨⟨_,ra⟩,_,rb⟩:=rd st
  exact SeqAt.compareNe_shaped ra rb h1.shaped h2.shaped ok.room (k _ s.toks rfl)
theorem qc (l:List AVal):PyData.eqv (.list (l.map dA)) (.list (([]:List AVal).map dA))=l.isEmpty:=by
 unfold PyData.eqv;cases l <;> (unfold PyData.eqvAll;rfl)
theorem PyAre.eqv {l:List AVal}(h:PyAre l):PyData.eqv (.list (l.map dA)) (.list (l.map dA))=true:=by unfold PyData.eqv;exact h.self
theorem i0 (hi:U.at i=some (.list l))(hj:U.at j=some (.list []))(h:l.all fM=true)(q:Q (.bool l.isEmpty) U):OP2 c P (compareOp .Eq) (.loc i) (.loc j) (gV Q) X U:=(i5 hi hj (fF h) (fF rfl) (qc l)).1 q
theorem qx (hi:U.at i=some (.list l))(hj:U.at j=some (.list []))(h:l.all fM=true)(q:Q (.bool (!l.isEmpty)) U):OP2 c P (compareOp .NotEq) (.loc i) (.loc j) (gV Q) X U:=(i5 hi hj (fF h) (fF rfl) (qc l)).2 q
theorem OP2_eqR (hi:U.at i=some (.list l))(hj:U.at j=some (.list l))(h:l.all fM=true)(q:Q (.bool true) U):OP2 c P (compareOp .Eq) (.loc i) (.loc j) (gV Q) X U:=(i5 hi hj (fF h) (fF h) (fF h).eqv).1 q
theorem gG (hi:U.at i=some (.list l))(hj:U.at j=some (.list l))(h:l.all fM=true)(q:Q (.bool false) U):OP2 c P (compareOp .NotEq) (.loc i) (.loc j) (gV Q) X U:=(i5 hi hj (fF h) (fF h) (fF h).eqv).2 q
theorem TTru.say {a:AVal}{b:Bool}{Q:Bool->Store->Prop}(q:Q b U)(h:∀(κ:KX) V s v (Q':Bool->Shared->Prop) (E':Value->Shared->Prop),St κ V U s->VR V U.length a v->(∀tk,Q' b {s with toks:=tk})->wpAny (model κ.p κ.w) κ.A (truthy v) Q' E' s):TTru c P a Q X U:=
 λκ V s v ω st ha=>h κ V s v _ _ st ha λtk=>⟨V,U,Ext.refl _ _,Nat.le_refl _,st.toks tk _,q⟩
theorem rP {Q:Bool->Store->Prop}(q:Q false U):TTru c P .none Q X U:=TTru.say q λκ V s v Q' E' st ha k=>by cases ha;exact λω ω ω=>k s.toks
theorem rQ {b:Bool}{Q:Bool->Store->Prop}(q:Q b U):TTru c P (.bool b) Q X U:=TTru.say q λκ V s v Q' E' st ha k=>by cases ha;exact wpAny_truthy_bool (k s.toks)
theorem uE {Q:Bool->Store->Prop}(hl:x.length<=lenLine)(q:Q ((x.length:Int) != 0) U):TTru c P (.str x) Q X U:=
 TTru.say q λκ V s v Q' E' st ha k=>by obtain ⟨t,rfl⟩:=ha;exact PySem.P.truthy_str (by unfold lenLine at hl;omega) (k _)
theorem eC (vs:List Value):(List.toArray vs).isEmpty=vs.isEmpty:=by cases vs <;> rfl
theorem VRs.isEmpty {V:Nat->Addr}{n:Nat}{l:List AVal}{vs:List Value}(h:VRs V n l vs):vs.isEmpty=l.isEmpty:=by cases h <;> rfl
theorem ic {Q:Bool->Store->Prop}(hi:U.at i=some (.list l))(hl:l.length<=lenLine)(q:Q (!l.isEmpty) U):TTru c P (.loc i) Q X U:=
 TTru.say q λκ V s v Q' E' st ha k=>by
  cases ha.2
  obtain ⟨vs,il,rl⟩:=st.isList hi
  exact wpAny_truthy_list il (by rw [List.size_toArray,rl.size];unfold lenLine at hl;omega) (by rw [eC,rl.isEmpty];exact k _)
noncomputable def ae (k:Str):List (Str×AVal)->Option AVal
 | []=>none
 | p::l=>if p.1=k then some p.2 else ae k l
noncomputable def bz (l:List AVal)(k:Int):Option AVal:=
 if 0<=k/\k<2 ^ 62 then l[k.toNat]? else if k<0/\-(l.length:Int)<=k/\-(2 ^ 62)<=k then l[(k+l.length).toNat]? else none
theorem bi (h:All2 (KVR V n) es kvs){a:AVal}(e:ae k es=some a):∃v,valueAt kvs k=some v/\VR V n a v:=by
 induction h with
 | nil=>exact nns e
 | @cons p q l m r _ ih=>
  unfold valueAt at ih ⊢
  rw [List.find?_cons]
  unfold ae at e
  by_cases z:p.1=k
  ·rw [decide_eq_true (r.1.symm.trans z)]
   exact ⟨q.2,rfl,Option.some.inj ((if_pos z).symm.trans e)▸r.2⟩
  ·rw [decide_eq_false λw=>z (r.1.trans w)]
   exact ih ((if_neg z).symm.trans e)
theorem uY {k:Int}(hi:U.at i=some (.list l))(hk:bz l k=some d)(q:Q d U):OP2 c P getItem (.loc i) (.int k) (gV Q) X U:=
 OP2.say q λκ V s v w Q' E' ω st ha hb z=>by
  cases ha.2
  obtain ⟨u,rfl⟩:=hb
  obtain ⟨vs,il,rl⟩:=st.isList hi
  unfold bz at hk
  by_cases h:0<=k/\k<2 ^ 62
  ·obtain ⟨x,hv,rv⟩:=All2.get rl ((if_pos h).symm.trans hk)
   exact wpAny_getItem_list il h.1 (Int.lt_trans h.2 (by decide)) ((List.getElem?_toArray ..).trans hv) (z _ _ rv)
  ·have hk:=(if_neg h).symm.trans hk
   by_cases h':k<0/\-(l.length:Int)<=k/\-(2 ^ 62)<=k
   ·obtain ⟨x,hv,rv⟩:=All2.get rl ((if_pos h').symm.trans hk)
    have hs:(List.toArray vs).size=l.length:=by rw [List.size_toArray,rl.size]
    exact wpAny_getItem_list_neg il h'.1 (by rw [hs];exact h'.2.1) (Int.le_trans (by decide) h'.2.2) (by rw [hs];exact (List.getElem?_toArray ..).trans hv) (z _ _ rv)
   ·exact nns ((if_neg h').symm.trans hk)
theorem uZ (hi:U.at i=some (.dict es))(hk:ae k es=some d)(q:Q d U):OP2 c P getItem (.loc i) (.str k) (gV Q) X U:=
 OP2.say q λκ V s v w Q' E' ω st ha hb z=>by
  cases ha.2
  obtain ⟨u,rfl⟩:=hb
  obtain ⟨kvs,dd,r⟩:=st.dictOf hi
  obtain ⟨x,hv,rv⟩:=bi r hk
  exact wpAny_getItem_of (strKind_is _ _ k u) dd.mapOf hv (z _ _ rv)
theorem uX {k:Int}{ch:Nat}(h0:0<=k/\k<2 ^ 62)(hk:x.cps[k.toNat]? = some ch)(q:Q (.str ⟨#[ch]⟩) U):OP2 c P getItem (.str x) (.int k) (gV Q) X U:=
 OP2.say q λκ V s v w Q' E' ω st ha hb z=>by
  obtain ⟨t,rfl⟩:=ha
  obtain ⟨u,rfl⟩:=hb
  refine PyProof.Rows.getItem_str ?_ ?_ (z _ _ ⟨s.toks,rfl⟩)
  ·simp only [Bool.or_eq_false_iff,decide_eq_false_iff_not];omega
  ·have hlt:k.toNat<x.cps.size:=(Array.getElem?_eq_some_iff.mp hk).1
   have:seqIndex? k x.length=some k.toNat:=by
    unfold seqIndex?
    have h1:k<(x.length:Int):=Int.lt_of_toNat_lt hlt
    have h2:¬k<0:=Int.not_lt.mpr h0.1
    simp [h0.1,h1,h2]
   rw [this];exact hk
theorem u0 {x:Array UInt8}{k:Int}(h0:x.size<=lenLine/\0<=k/\k<(x.toList.length:Int))(q:Q (.int (x.toList.getD k.toNat 0).toNat) U):OP2 c P getItem (.bytes x) (.int k) (gV Q) X U:=
 OP2.say q λκ V s v w Q' E' ω st ha hb z=>by
  obtain ⟨t,rfl⟩:=ha
  obtain ⟨u,rfl⟩:=hb
  exact PySem.W.getItem_bytes (l:=x.toList) (i:=k) (by rw [Array.length_toList];exact Nat.le_trans h0.1 (by decide)) h0.2.1 h0.2.2 (z _ _ ⟨s.toks,rfl⟩)
theorem St.grow (st:St κ V U s){h':Heap}(hk:∀b o,s.heap.get? b=some o->h'.get? b=some o)(hsz:s.heap.objs.size<=h'.objs.size)(tk:Nat)(dr:Drawn) :
  St κ V U {s with heap:=h',toks:=tk,drawn:=dr} where
 keep b o q:=(st.keep b o q).elim λsl z=>⟨sl,hk _ _ z.1,z.2⟩
 obj i ao hi:=(st.obj i ao hi).elim λo z=>⟨o,hk _ _ z.1,z.2⟩
 new:=st.new
 inj:=st.inj
 bare:=st.bare
 os:=st.os
 low:=st.low
 big:=Nat.le_trans st.big hsz
noncomputable def dY {α:Type}(l:List α)(lo hi:Option Int):List α:=(l.drop (kms_lo lo l.length)).take (kms_hi hi l.length - kms_lo lo l.length)
noncomputable def j9 (x:Str)(lo hi:Option Int):Str:=if kms_hi hi x.length - kms_lo lo x.length=x.length then x else ⟨(dY x.cps.toList lo hi).toArray⟩
noncomputable def bE:AVal->Option (Option Int)
 | .none=>some none
 | .int i=>some (some i)
 | _=>none
theorem pP {x:AVal}{y:Option Int}(hx:VR V n x v)(e:bE x=some y):IsPart v y/\∃q:Option (Int×Tok),v=partValue q/\q.map (·.1)=y:=by
 cases x with
 | none=>cases hx;cases e;exact ⟨.none,none,rfl,rfl⟩
 | int i=>obtain ⟨t,rfl⟩:=hx;cases e;exact ⟨.int _ _,some (_,t),rfl,rfl⟩
 | _=>exact nns e
theorem All2.drop {α β:Type}{R:α->β->Prop}{l:List α}{m:List β}(h:All2 R l m):∀k,All2 R (l.drop k) (m.drop k):=by
 induction h with
 | nil=>intro k;rw [List.drop_nil,List.drop_nil];exact .nil
 | cons r t ih=>intro k;cases k with
  | zero=>exact .cons r t
  | succ k=>exact ih k
theorem All2.take {α β:Type}{R:α->β->Prop}{l:List α}{m:List β}(h:All2 R l m):∀k,All2 R (l.take k) (m.take k):=by
 induction h with
 | nil=>intro k;rw [List.take_nil,List.take_nil];exact .nil
 | cons r t ih=>intro k;cases k with
  | zero=>exact .nil
  | succ k=>exact .cons r (ih k)
theorem q8 (hi:Option Int)(n:Nat):kms_hi hi n<=n:=by
 cases hi with
 | none=>exact Nat.le_refl _
 | some x=>
  unfold kms_hi;dsimp only;split
  ·exact Nat.sub_le _ _
  ·exact Nat.min_le_right _ _
theorem jf (a b:Nat):sliceRange (a:Int) (b:Int) 1=(List.range (b - a)).map (λk=>a+k):=by
 unfold sliceRange
 rw [if_pos (by decide)]
 by_cases h:(a:Int)<b
 ·have:(((b:Int) - a+1 - 1) / 1).toNat=b - a:=by rw [Int.ediv_one];omega
  rw [if_pos h]
  show List.map _ (List.range (((b:Int) - a+1 - 1) / 1).toNat)=_
  rw [this]
  exact List.map_congr_left λk ω=>by omega
 ·have:b - a=0:=by omega
  rw [if_neg h,this];rfl
theorem sM (lo hi:Option Int)(n:Nat):Builtin.Str.strSliceIndices lo hi 1 n=(List.range (kms_hi hi n - kms_lo lo n)).map (λk=>kms_lo lo n+k):=by
 have:Builtin.Str.strSliceIndices lo hi 1 n=sliceRange (sliceBounds lo hi none n).1 (sliceBounds lo hi none n).2.1 (sliceBounds lo hi none n).2.2:=by
  cases lo <;> cases hi <;> rfl
 rw [this,kms_bounds]
 exact jf _ _
theorem la (x:Str):x.length=x.cps.toList.length:=(Array.length_toList).symm
theorem strCut (x:Str)(lo hi:Option Int):(Builtin.Str.strSliceIndices lo hi 1 x.length).filterMap (x.cps[·]?)=dY x.cps.toList lo hi:=by
 rw [sM]
 unfold dY
 rw [←la]
 by_cases h:kms_lo lo x.length<=kms_hi hi x.length
 ·have q:=StrLaws.picks x.cps.toList (kms_hi hi x.length - kms_lo lo x.length) (kms_lo lo x.length) (by have:=q8 hi x.length;rw [←la];omega)
  simpa using q
 ·rw [Nat.sub_eq_zero_of_le (Nat.le_of_not_le h)];rfl
def SliceI (o lo hi:AVal)(Q:AVal->Store->Prop)(U:Store):Prop:=
 ∀(κ:KX) (V:Nat->Addr) (s:Shared) (vo vl vh:Value) (e:Expr) (a b:Option Expr) (p:Pos) (Ex:Value->Shared->Prop),St κ V U s->VR V U.length o vo->VR V U.length lo vl->VR V U.length hi vh->
  wpAny (model κ.p κ.w) κ.A (newFields "slice" [vl,vh,.none]) (λi s'=>wpAny (model κ.p κ.w) κ.A (subscriptTail e (.Slice a b none p) vo i) (Post κ V U.length (gV Q)) Ex s') Ex s
theorem SliceI.of {o:AVal}{l h:Option Int}(h1:bE lo=some l)(h2:bE hi=some h)
  (k:∀(κ:KX) (V:Nat->Addr) (s:Shared) (vo vl vh i:Value) (e:Expr) (a b:Option Expr) (p:Pos) (Ex:Value->Shared->Prop) (S:Addr),i=.ref S->St κ V U s->VR V U.length o vo->s.heap.IsSliceOf S vl vh .none->
   (IsPart vl l/\∃q:Option (Int×Tok),vl=partValue q/\q.map (·.1)=l)->(IsPart vh h/\∃q:Option (Int×Tok),vh=partValue q/\q.map (·.1)=h)->
   wpAny (model κ.p κ.w) κ.A (subscriptTail e (.Slice a b none p) vo i) (Post κ V U.length (gV Q)) Ex s):SliceI o lo hi Q U:=by
 intro κ V s vo vl vh e a b p Ex st ho hl hh
 unfold newFields
 exact wpAny_newObj_type (k κ V _ vo vl vh _ e a b p Ex _ rfl (st.grow (λω ω e=>Heap.get?_push_of_some _ e) (by rw [Heap.size_push];exact Nat.le_succ _) s.toks s.drawn) ho (Heap.IsSliceOf.new _ _ _ _) (pP hl h1) (pP hh h2)) (show (3:Nat)<=sizeLine+2 by decide)
theorem me {x:Array UInt8}{a b:Option Int}(hl:x.size<=lenLine)(h1:bE lo=some a)(h2:bE hi=some b)(q:Q (.bytes (KBy.picked x a b)) U):SliceI (.bytes x) lo hi Q U:=
 SliceI.of h1 h2 λκ V s vo vl vh i e ea eb p Ex S es st ho hS pl ph=>by
  subst es
  obtain ⟨t,rfl⟩:=ho
  refine tail_any (typeIs_bytes _ x t) FB.slot_bytes_getitem.lookup (getItem_meets (typeIs_bytes _ _ _) (by decide) FB.slot_bytes_getitem FB.entry_bytes_getitem (FB.args_bytes_getitem_2 _ _) (KBc.meets_slice2 x t _ pl.1 ph.1) ⟨hS,Nat.le_trans (KBc.size_picked_le x a b) (Nat.le_trans hl aj),λt' k=>?_⟩) rfl
  exact ⟨V,U,Ext.refl _ _,Nat.le_refl _,st.toks k _,.bytes (KBy.picked x a b),⟨_,rfl⟩,q⟩
theorem SliceI.list {i:Nat}{l:List AVal}{lo hi:AVal}{a b:Option Int}(h:∀(κ:KX) (V:Nat->Addr) (s:Shared),St κ V U s->∃vs,s.heap.IsList (V i) (List.toArray vs)/\VRs V U.length l vs)(hl:l.length<=lenLine)
  (h1:bE lo=some a) (h2:bE hi=some b) (q:New U (.list (dY l a b)) Q):SliceI (.loc i) lo hi Q U:=
 SliceI.of h1 h2 λκ V s vo vl vh i e ea eb p Ex S es st ho hS pl ph=>by
  subst es
  cases ho.2
  obtain ⟨vs,iv,rl⟩:=h κ V s st
  refine tail_any iv.typeIs slot_list_getitem.lookup (wpAny_getItem_list_slice iv hS pl.1 ph.1 .none (by decide) ?_ (rl.fits hl)) rfl
  rw [kms_pick_eq]
  have rl':VRs V U.length (dY l a b) (kms_pick vs a b):=by
   unfold kms_pick dY
   rw [rl.size]
   exact (All2.drop rl _).take _
  exact q.post st rfl ⟨_,_,rfl,VRs.ext rl' (ah V U.length _) (Nat.le_succ _)⟩ s.toks
theorem nG {a b:Option Int}(hi':U.at i=some (.list l))(hl:l.length<=lenLine)(h1:bE lo=some a)(h2:bE hi=some b)(q:New U (.list (dY l a b)) Q):SliceI (.loc i) lo hi Q U:=
 SliceI.list (λω ω ω st=>st.isList hi') hl h1 h2 q
theorem ma {a b:Option Int}(hi':U.at i=some (.listS o l))(hl:l.length<=lenLine)(h1:bE lo=some a)(h2:bE hi=some b)(q:New U (.list (dY l a b)) Q):SliceI (.loc i) lo hi Q U:=
 SliceI.list (λω ω ω st=>st.isListS hi') hl h1 h2 q
theorem pA {a b:Option Int}(hl:x.length<=lenLine)(h1:bE lo=some a)(h2:bE hi=some b)(q:Q (.str (j9 x a b)) U):SliceI (.str x) lo hi Q U:=
 SliceI.of h1 h2 λκ V s vo vl vh i e ea eb p Ex S es st ho hS pl ph=>by
  subst es
  obtain ⟨t,rfl⟩:=ho
  obtain ⟨_,ql,el,ml⟩:=pl
  obtain ⟨_,qh,eh,mh⟩:=ph
  have fin:∀t' tk,Post κ V U.length (gV Q) (.str (j9 x a b) t') {s with toks:=tk}:=λt' tk=>⟨V,U,Ext.refl _ _,Nat.le_refl _,st.toks tk _,.str (j9 x a b),⟨_,rfl⟩,q⟩
  obtain ⟨o,ho,hd⟩:=hS
  refine tail_any (typeIs_str _ x t) PySem.F.slot_str_getitem.lookup (wpAny_getItem_str_slice (l:=ql) (u:=qh) (st:=none) ⟨o,ho,hd.1,by rw [←el,←eh];exact hd.2⟩ rfl ?_) rfl
  have e2:slicePicked x ql qh none=Builtin.Str.strSliceIndices a b 1 x.length:=by unfold slicePicked;rw [ml,mh];rfl
  have e3:(Builtin.Str.strSliceIndices a b 1 x.length).length=kms_hi b x.length - kms_lo a x.length:=by rw [sM,List.length_map,List.length_range]
  have e1:((none:Option (Int×Tok)).map (·.1)).getD 1=1:=rfl
  unfold sliceMade
  rw [e1,e2,e3,strCut]
  unfold j9 at fin
  by_cases z:kms_hi b x.length - kms_lo a x.length=x.length
  ·rw [if_pos (by simp [z])]
   rw [if_pos z] at fin
   exact fin t s.toks
  ·rw [if_neg (by simp [z])]
   rw [if_neg z] at fin
   refine ⟨?_,fin _ _⟩
   show (List.toArray (dY x.cps.toList a b)).size<=sizeLine
   rw [List.size_toArray]
   unfold dY
   rw [List.length_take,List.length_drop,←la]
   exact Nat.le_trans (Nat.min_le_right _ _) (Nat.le_trans (Nat.sub_le _ _) (Nat.le_trans hl aj))
end
end
section
inductive KeepR (c:Cfg)(U:Store):AVal->Prop
 | blt {x:String}:KeepR c U (.top (.builtin x))
 | typ {x:String}:KeepR c U (.top (.type x))
 | ref {a:Addr} (h:((c.fn a).isSome||(c.cls a).isSome)=true):KeepR c U (.top (.ref a))
 | lam {i k:Nat} {qual:Str} {params:Arguments} {body:Expr} {scope:Scope} {cl:List (Str×Nat)} (h:U.at i=some (.lam qual params body scope cl k)):KeepR c U (.loc i)
 | bmeth {i:Nat} {cls id:String} {a:AVal} (h:U.at i=some (.bmeth cls id a)) (hc:(cls == "builtin_function_or_method" || cls == "method-wrapper")=true):KeepR c U (.loc i)
 | meth {i:Nat} {f:Addr} {a:AVal} (h:U.at i=some (.meth f a)) (hf:(c.fn f).isSome=true):KeepR c U (.loc i)
section
variable {α β:Type}{c:Cfg}{P:SP}{E:AEnv}{κ:KX}{V0 V:Nat->Addr}{n0:Nat}{U:Store}{s:Shared}{X:XP}
variable {f:AVal}{pos apos:Pos}{Q:AVal->Store->Prop}{e o:Expr}{rest args:List Expr}{kws:List Keyword}{name:Str}
def KeepV (M:Model)(h:Heap)(v:Value):Prop:=∃k,(k=Keeper.frame∨k=Keeper.machine∨k=Keeper.boundFrame)/\Looks M h (keeperOf v) k
theorem keep_ok {vf:Value}(h:KeepR c U f)(ok:κ.Ok c P)(st:St κ V U s)(hf:VR V U.length f vf):KeepV (model κ.p κ.w) s.heap vf:=by
 have X:=st.inK ok
 cases h with
 | blt=>cases hf;exact ⟨.machine,.inr (.inl rfl),.of_pure rfl⟩
 | typ=>cases hf;exact ⟨.machine,.inr (.inl rfl),.of_pure rfl⟩
 | ref h=>
  cases hf
  rcases Bool.or_eq_true_iff.mp h with h | h
  ·obtain ⟨i,hi⟩:=Option.isSome_iff_exists.mp h
   obtain ⟨oc,od,osl,e⟩:=(ok.cfg.fn _ _ hi).at_ κ.w.params
   exact ⟨.frame,.inl rfl,(Looks.ld (part:=none) (X _ _ e)).andThen .now⟩
  ·obtain ⟨i,hi⟩:=Option.isSome_iff_exists.mp h
   obtain ⟨k,hk,L⟩:=looks_keep (M:=model κ.p κ.w) ((ok.cfg.cls _ _ hi).keep κ.w.params) X
   exact ⟨k,hk.elim .inl (λe=>.inr (.inl e)),L⟩
 | lam hi=>
  obtain ⟨_,rfl⟩:=hf
  obtain ⟨o,g,_,_,pm,ctv,rfl⟩:=st.obj _ _ hi
  exact ⟨.frame,.inl rfl,(Looks.ld (part:=none) g).andThen .now⟩
 | bmeth hi h=>
  obtain ⟨_,rfl⟩:=hf
  obtain ⟨o,g,v,_,rfl⟩:=st.obj _ _ hi
  refine ⟨.machine,.inr (.inl rfl),(Looks.ld (part:=none) g).andThen ?_⟩
  rcases Bool.or_eq_true_iff.mp h with h | h
  ·cases eq_of_beq h;exact .now
  ·cases eq_of_beq h;exact .now
 | meth hi h=>
  obtain ⟨_,rfl⟩:=hf
  obtain ⟨o,g,v,_,rfl⟩:=st.obj _ _ hi
  obtain ⟨i',hi'⟩:=Option.isSome_iff_exists.mp h
  obtain ⟨oc,od,osl,e⟩:=(ok.cfg.fn _ _ hi').at_ κ.w.params
  exact ⟨.boundFrame,.inr (.inr rfl),(Looks.ld (part:=none) g).andThen ((Looks.ld (part:=none) (X _ _ e)).andThen .now)⟩
theorem lR {M:Model}{A:Around}{Ex:Value->Shared->Prop}{f:Value}{first:List Value}{args:List (Bool×Sem Value)}{keywords:List (Option Str×Sem Value)}{Q:Value->Shared->Prop}
  (h:wpAny M A (evalArgs f true args keywords) (λa s₁=>KeepV M s₁.heap f/\wpAny M A (call f (first++a.pos) a.kw) Q Ex s₁) Ex s):wpAny M A (callWith pos f first args keywords) Q Ex s:=by
 unfold callWith
 refine wpAny_bind (wpAny_holding (wpAny_mono h (λa s₁ h₁=>wpAny_bind (wpAny_standAt ?_)) λω ω x=>x))
 obtain ⟨⟨k,hk',L⟩,h₂⟩:=h₁
 have tail:∀{t:Sem Value},wpAny M A t Q Ex s₁->wpAny M A (t >>= λr=>holding [r] point >>= λω=>pure r) Q Ex s₁:=
  λht=>wpAny_bind (wpAny_mono ht (λr s2 hr=>wpAny_bind (wpAny_holding (wpAny_point (wpAny_pure hr)))) λω ω x=>x)
 have marked (mk:Value):wpAny M A (callMarked mk f (first++a.pos) a.kw) Q Ex s₁:=by unfold callMarked;exact Calls.wpAny_keep h₂
 cases hs:(args.any (·.1)||keywords.any (·.1.isNone))
 ·refine wpAny_bind (L.here ?_)
  rcases hk' with rfl | rfl | rfl <;> dsimp only <;> first | exact tail h₂ | (split <;> first | exact tail h₂ | exact tail (marked _))
 ·refine wpAny_bind (L.here ?_)
  rcases hk' with rfl | rfl | rfl <;> dsimp only <;> first | exact tail (marked _) | exact tail (wpAny_operating h₂)
def gA (Q:List AVal->List (Str×AVal)->Store->Prop):(Nat->Addr)->Store->Args->Prop:=λV U a=>∃as ks,VRs V U.length as a.pos/\KWR V U.length ks a.kw/\Q as ks U
def bM (c:Cfg)(P:SP)(E:AEnv)(pos:Pos)(args:List Expr)(kws:List Keyword)(Q:List AVal->List (Str×AVal)->Store->Prop)(X:XP)(U:Store):Prop:=
 ∀vf,TM c P E (λenv=>evalArgs vf true (backTo pos (starEach args env)) (backToKw pos (keywordEach kws env))) (gA Q) X U
theorem TArgs_nil {Q:List AVal->List (Str×AVal)->Store->Prop}(h:Q [] [] U):bM c P E pos [] [] Q X U:=by
 refine λvf=>TM.mk λκ V0 s g=>?_
 exact PySem.evalArgs_none (g.done ⟨[],[],.nil,.nil,h⟩)
theorem nB {Q:List AVal->List (Str×AVal)->Store->Prop}(hs:dP e=false)
  (h:TSp c P E (λenv=>backTo pos (starEach (e::rest) env)) (λas U1=>Q as [] U1) X U):bM c P E pos (e::rest) [] Q X U:=by
 refine λvf=>TM.mk λκ V0 s g=>?_
 have:=TM.go h g (Q:=λvs s'=>Post κ V0 U.length (gA Q) ⟨vs,[]⟩ s') (by
  rintro V1 U1 vs s₁ g₁ e1 l1 ⟨as,ras,hq⟩
  exact g₁.done ⟨as,[],ras,.nil,hq⟩)
 dsimp only at this ⊢
 rw [dz hs] at this ⊢
 exact evalArgs_plain this
theorem rW {k:Str}{ke:Expr}{kp:Pos}{Q:List AVal->List (Str×AVal)->Store->Prop}(hs:dP e=false)
  (h:TSp c P E (λenv=>backTo pos (starEach (e::rest) env)) (λas U1=>TE c P E ke (λb U2=>Q as [(k,b)] U2) X U1) X U):bM c P E pos (e::rest) [⟨some k,ke,kp⟩] Q X U:=by
 refine λvf=>TM.mk λκ V0 s g=>?_
 have:=TM.go h g (Q:=λvs s'=>wpAny (model κ.p κ.w) κ.A (evalAll ((backToKw pos (keywordEach [⟨some k,ke,kp⟩] (E.conc V0))).map (·.2))) (λks s2=>Post κ V0 U.length (gA Q) ⟨vs,((backToKw pos (keywordEach [⟨some k,ke,kp⟩] (E.conc V0))).filterMap (·.1)).zip ks⟩ s2) (Post κ V0 U.length (gX X)) s') (by
  rintro V1 U1 vs s₁ g₁ e1 l1 ⟨as,ras,hq⟩
  show wpAny _ _ (do
   let v ←(do let v ←eval ke (E.conc V0);standAt pos;pure v)
   return v::(←holding [v] (evalAll []))) _ _ _
  refine wpAny_bind (wpAny_bind (hq.go g₁ ?_))
  rintro V2 U2 w s2 g2 e2 l2 ⟨b,rb,hq2⟩
  refine wpAny_bind (wpAny_standAt (wpAny_pure (wpAny_bind (wpAny_holding (wpAny_pure (wpAny_pure ?_))))))
  exact g2.done ⟨as,[(k,b)],ras.ext e2 l2,.cons ⟨rfl,rb⟩ .nil,hq2⟩)
 dsimp only at this ⊢
 rw [dz hs] at this ⊢
 exact evalArgs_kw rfl this
def TCall (c:Cfg)(P:SP)(E:AEnv)(f:AVal)(args:List AVal)(kw:List (Str×AVal))(Q:AVal->Store->Prop)(X:XP)(U:Store):Prop:=
 ∀κ V s vf vs ks,κ.Ok c P->Here E κ V->E.Valid U.length->St κ V U s->VR V U.length f vf->VRs V U.length args vs->KWR V U.length kw ks->J c κ V U.length (call vf vs ks) (gV Q) X s
theorem TCall.of {args:List AVal}{kw:List (Str×AVal)}{m:List (Str×AVal)}(hi:U.at E.frame=some (.frame m))
  (h:TC c P f args kw (λa U'=>Q a (U'.put E.frame (.frame m))) (λi U'=>X i (U'.put E.frame (.frame m))) (U.gone E.frame)):TCall c P E f args kw Q X U:=
 λκ V s vf vs ks ok hh hv st hf ha hk=>TC.from hi h ok hh st hf ha hk
def TCW (c:Cfg)(P:SP)(E:AEnv)(pos:Pos)(f:AVal)(first:List AVal)(args:List Expr)(kws:List Keyword)(Q:AVal->Store->Prop)(X:XP)(U:Store):Prop:=
 ∀κ V s vf vs,κ.Ok c P->Here E κ V->E.Valid U.length->St κ V U s->VR V U.length f vf->VRs V U.length first vs->J c κ V U.length (callWith pos vf vs (backTo pos (starEach args (E.conc V))) (backToKw pos (keywordEach kws (E.conc V)))) (gV Q) X s
theorem TCW.mk {first:List AVal}(h:bM c P E pos args kws (λas ks U1=>KeepR c U1 f/\TCall c P E f (first++as) ks Q X U1) X U):TCW c P E pos f first args kws Q X U:=by
 intro κ V s vf vs ok hh hv st hf hfs
 have g:Go c P E κ V U.length V U s:=⟨ok,hh,hv,st,Ext.refl _ _,Nat.le_refl _,rfl,hv⟩
 refine lR (TM.go (h vf) g ?_)
 rintro V1 U1 a s₁ g₁ e1 l1 ⟨as,ks,ras,rks,hk,hc⟩
 exact ⟨keep_ok hk g₁.ok g₁.st (hf.ext e1 l1),(hc κ V1 s₁ vf (vs++a.pos) a.kw g₁.ok g₁.hh g₁.hv g₁.st (hf.ext e1 l1) ((hfs.ext e1 l1).append ras) rks).end g₁⟩
noncomputable def oL (e:Expr):Bool:=Nat.beq e.ctorIdx 20
theorem iL {f:Expr}(h:oL f=false)(args:List Expr)(kws:List Keyword)(pos:Pos)(env:Env) :
  eval (.Call f args kws pos) env=(do callWith pos (←eval f env) [] (backTo pos (starEach args env)) (backToKw pos (keywordEach kws env))):=by
 cases f <;> first | rfl | exact absurd h.symm Bool.false_ne_true
theorem TE_Call {f:Expr}(ha:oL f=false)(h:TE c P E f (λa U1=>TCW c P E pos a [] args kws Q X U1) X U):TE c P E (.Call f args kws pos) Q X U:=by
 refine TM.mk λκ V0 s g=>?_
 rw [iL ha]
 refine wpAny_bind (h.go g ?_)
 rintro V1 U1 v s₁ g₁ e1 l1 ⟨a,ra,h₁⟩
 rw [g₁.env]
 exact (h₁ κ V1 s₁ v [] g₁.ok g₁.hh g₁.hv g₁.st ra .nil).end g₁
def gMe (Q:AVal->List AVal->Store->Prop):(Nat->Addr)->Store->Value×List Value->Prop:=λV U r=>∃a as,VR V U.length a r.1/\VRs V U.length as r.2/\Q a as U
def cR (c:Cfg)(P:SP)(o:AVal)(name:Str)(Q:AVal->List AVal->Store->Prop)(X:XP)(U:Store):Prop:=∀pl,OP1 c P (λv=>getMethod v name pl) o (gMe Q) X U
theorem TE_CallMethod (hb:∀env t,attributeBase o name env t=t)(hl:(apos.endLine == pos.line)=true)
  (hfew:∀env,methodCallForm (args.length+kws.length) (backTo pos (starEach args env)) (backToKw pos (keywordEach kws env))=true)
  (h:TE c P E o (λa U1=>cR c P a name (λf first U2=>TCW c P E pos f first args kws Q X U2) X U1) X U):TE c P E (.Call (.Attribute o name apos) args kws pos) Q X U:=by
 refine TM.mk λκ V0 s g=>?_
 rw [arm_eval_Call,hb]
 refine wpAny_bind (h.go g ?_)
 rintro V1 U1 v s₁ g₁ e1 l1 ⟨a,ra,h₁⟩
 refine wpAny_bind (wpAny_standAt ?_)
 unfold methodCall
 rw [hfew]
 refine wpAny_bind (wpAny_holding ?_)
 unfold calleeOf
 rw [if_pos rfl]
 refine (h₁ _ κ V1 s₁ v g₁.ok g₁.st ra).go g₁ ?_
 rintro V2 U2 ⟨f,first⟩ s2 g2 e2 l2 ⟨af,afs,rf,rfs,h₂⟩
 dsimp only
 have hp:methodCallPos true o (E.conc V0) apos pos=pure pos:=by unfold methodCallPos;rw [hl];rfl
 rw [hp]
 refine wpAny_bind (wpAny_pure ?_)
 rw [g2.env]
 exact (h₂ κ V2 s2 f first g2.ok g2.hh g2.hv g2.st rf rfs).end g2
def d8 (c:Cfg)(P:SP)(o:AVal)(name:Str)(Q:AVal->Store->Prop)(X:XP)(U:Store):Prop:=OP1 c P (λv=>getAttr v name true) o (gV Q) X U
theorem gE (hb:∀env t,attributeBase o name env t=t)
  (hfew:∀env,methodCallForm (args.length+kws.length) (backTo pos (starEach args env)) (backToKw pos (keywordEach kws env))=false)
  (h:TE c P E o (λa U1=>d8 c P a name (λf U2=>TCW c P E pos f [] args kws Q X U2) X U1) X U):TE c P E (.Call (.Attribute o name apos) args kws pos) Q X U:=by
 refine TM.mk λκ V0 s g=>?_
 rw [arm_eval_Call,hb]
 refine wpAny_bind (h.go g ?_)
 rintro V1 U1 v s₁ g₁ e1 l1 ⟨a,ra,h₁⟩
 refine wpAny_bind (wpAny_standAt ?_)
 unfold methodCall
 rw [hfew]
 refine wpAny_bind (wpAny_holding ?_)
 unfold calleeOf
 rw [if_neg (by decide)]
 refine wpAny_bind ((h₁ κ V1 s₁ v g₁.ok g₁.st ra).go g₁ ?_)
 rintro V2 U2 f s2 g2 e2 l2 ⟨af,rf,h₂⟩
 refine wpAny_pure ?_
 dsimp only
 have hp:methodCallPos false o (E.conc V0) apos pos=pure pos:=by unfold methodCallPos;rfl
 rw [hp]
 refine wpAny_bind (wpAny_pure ?_)
 rw [g2.env]
 exact (h₂ κ V2 s2 f [] g2.ok g2.hh g2.hv g2.st rf .nil).end g2
theorem TE_Attribute (hb:∀env t,attributeBase o name env t=t)(h:TE c P E o (λa U1=>d8 c P a name Q X U1) X U):TE c P E (.Attribute o name pos) Q X U:=by
 refine TM.mk λκ V0 s g=>?_
 rw [arm_eval_Attribute,hb]
 refine wpAny_bind (h.go g ?_)
 rintro V1 U1 v s₁ g₁ e1 l1 ⟨a,ra,h₁⟩
 refine wpAny_bind (wpAny_standAt (wpAny_bind (wpAny_holding ((h₁ κ V1 s₁ v g₁.ok g₁.st ra).go g₁ ?_))))
 rintro V2 U2 r s2 g2 e2 l2 ⟨b,rb,h₂⟩
 exact wpAny_bind (wpAny_letTemporaryGo (wpAny_pure (g2.doneV rb h₂)))
end
end
section
section
variable {α β:Type}{c:Cfg}{P:SP}{E:AEnv}{κ:KX}{V0 V:Nat->Addr}{n0:Nat}{U:Store}{s:Shared}{X:XP}
variable {t o i value:Expr}{a:AVal}{v:Value}{Q:ai->Store->Prop}{pos tpos:Pos}{x attr:Str}{U':Store}{xs:List Str}{es:List Expr}{l:List AVal}{k:Nat}
def TV1 (c:Cfg)(P:SP)(E:AEnv)(t:Env->Value->Sem α)(a:AVal)(G:(Nat->Addr)->Store->α->Prop)(X:XP)(U:Store):Prop:=
 ∀κ V s v,κ.Ok c P->Here E κ V->E.Valid U.length->St κ V U s->VR V U.length a v->J c κ V U.length (t (E.conc V) v) G X s
theorem TV1.go {t:Env->Value->Sem α}{a:AVal}{G:(Nat->Addr)->Store->α->Prop}(h:TV1 c P E t a G X U)(g:Go c P E κ V0 n0 V U s){v:Value}(ra:VR V U.length a v){Q:α->Shared->Prop}
  (k:∀V' U' r s',Go c P E κ V0 n0 V' U' s'->Ext U.length V V'->U.length<=U'.length->G V' U' r->Q r s'):wpAny (model κ.p κ.w) κ.A (t (E.conc V0) v) Q (Post κ V0 n0 (gX X)) s:=by
 rw [g.env]
 exact (h κ V s v g.ok g.hh g.hv g.st ra).go g k
theorem TV1.mk {t:Env->Value->Sem α}{G:(Nat->Addr)->Store->α->Prop}(h:∀κ V0 s v,Go c P E κ V0 U.length V0 U s->VR V0 U.length a v->wpAny (model κ.p κ.w) κ.A (t (E.conc V0) v) (Post κ V0 U.length G) (Post κ V0 U.length (gX X)) s):TV1 c P E t a G X U:=
 λκ V s v ok hh hv st ra=>h κ V s v ⟨ok,hh,hv,st,Ext.refl _ _,Nat.le_refl _,rfl,hv⟩ ra
theorem TV1.end {t:Env->Value->Sem α}{G:(Nat->Addr)->Store->α->Prop}(h:TV1 c P E t a G X U)(g:Go c P E κ V0 n0 V U s)(ra:VR V U.length a v) :
  wpAny (model κ.p κ.w) κ.A (t (E.conc V0) v) (Post κ V0 n0 G) (Post κ V0 n0 (gX X)) s:=h.go g ra λω ω ω ω g' ω ω hG=>g'.done hG
def nH (c:Cfg)(P:SP)(E:AEnv)(t:Value->Value->Sem α)(a b:AVal)(G:(Nat->Addr)->Store->α->Prop)(X:XP)(U:Store):Prop:=
 ∀κ V s v w,κ.Ok c P->Here E κ V->E.Valid U.length->St κ V U s->VR V U.length a v->VR V U.length b w->J c κ V U.length (t v w) G X s
theorem St.grown (ok:κ.Ok c P)(st:St κ V U s){h':Heap}(hk:∀b o,s.heap.get? b=some o->h'.get? b=some o)(tk:Nat)(dr:Drawn):St κ V U {s with heap:=h',toks:=tk,drawn:=dr}:=by
 obtain ⟨mg,mb,T⟩:=ok.T
 obtain ⟨o,_,_,g,_⟩:=T.g
 haveI g':=hk _ _ (st.top ok _ _ g)
 refine ⟨λb o q=>let ⟨sl,a,z⟩:=st.keep b o q;⟨sl,hk _ _ a,z⟩,λi ao hi=>let ⟨o,g,r⟩:=st.obj i ao hi;⟨o,hk _ _ g,r⟩,st.new,st.inj,st.bare,st.os,st.low,?_⟩
 exact Nat.lt_of_lt_of_le (show 3<h'.objs.size from Heap.lt_size g') (Nat.le_refl _)
theorem TSs_nil (h:Q .next U):TSs c P E [] Q X U:=by
 refine TM.mk λκ V0 s g=>wpAny_execs_nil (g.doneF (a:=.next) rfl h)
theorem uF {x:Stmt}{rest:List Stmt}(h:TS c P E x (λf U1=>match f with | .next=>TSs c P E rest Q X U1 | f=>Q f U1) X U):TSs c P E (x::rest) Q X U:=by
 refine TM.mk λκ V0 s g=>?_
 rw [arm_execs_cons]
 refine wpAny_bind (h.go g ?_)
 rintro V1 U1 f s₁ g₁ e1 l1 ⟨a,ra,h₁⟩
 cases a with
 | next=>cases ra;exact TM.end h₁ g₁
 | brk=>cases ra;exact wpAny_pure (g₁.doneF (a:=.brk) rfl h₁)
 | cont=>cases ra;exact wpAny_pure (g₁.doneF (a:=.cont) rfl h₁)
 | ret a=>obtain ⟨v,rfl,r⟩:=ra;exact wpAny_pure (g₁.doneF (a:=.ret a) ⟨v,rfl,r⟩ h₁)
theorem TS_Return {e:Expr}(h:TE c P E e (λa U1=>Q (.ret a) U1) X U):TS c P E (.Return (some e) pos) Q X U:=by
 refine TM.mk λκ V0 s g=>wpAny_Return_some (h.go g ?_)
 rintro V1 U1 v s₁ g₁ e1 l1 ⟨a,ra,h₁⟩
 exact g₁.doneF (a:=.ret a) ⟨v,rfl,ra⟩ h₁
theorem TS_Break (h:Q .brk U):TS c P E (.Break pos) Q X U:=TM.mk λκ V0 s g=>wpAny_Break (g.doneF (a:=.brk) rfl h)
theorem TS_Continue (h:Q .cont U):TS c P E (.Continue pos) Q X U:=TM.mk λκ V0 s g=>wpAny_Continue (g.doneF (a:=.cont) rfl h)
theorem TS_If {b o:List Stmt}(h:TT c P E t (λx U1=>if x then TSs c P E b Q X U1 else TSs c P E o Q X U1) X U):TS c P E (.If t b o pos) Q X U:=by
 refine TM.mk λκ V0 s g=>wpAny_If (TM.go (t:=λenv=>isTrue t env (eval t env)) h g ?_)
 rintro V1 U1 x s₁ g₁ e1 l1 h₁
 haveI h₁:if x then TSs c P E b Q X U1 else TSs c P E o Q X U1:=h₁
 cases x
 ·exact TM.end h₁ g₁
 ·exact TM.end h₁ g₁
noncomputable def oK (e:Expr):Bool:=[8,9,10].contains e.ctorIdx
theorem mr {e:Expr}(h:oK e=false)(t:Option Expr)(l:Nat)(env:Env):swapsWith e t l env=pure false:=by
 cases e <;> first | rfl | exact absurd h.symm Bool.false_ne_true
theorem jp (hk:E.scope.kind=.function)(V:Nat->Addr):interactive (E.conc V)=false:=by
 skip
 show (E.scope.kind == .module&&_)=false
 rw [hk];rfl
theorem TS_Expr {e:Expr}(hk:E.scope.kind=.function)(hc:oK e=false)(h:TE c P E e (λω U1=>Q .next U1) X U):TS c P E (.Expr e pos) Q X U:=by
 refine TM.mk λκ V0 s g=>?_
 rw [PySem.exec_Expr _ _ _ (jp hk V0) (mr hc _ _ _)]
 refine wpAny_bind (wpAny_standAt (wpAny_bind (h.go g ?_)))
 rintro V1 U1 v s₁ g₁ e1 l1 ⟨a,ra,h₁⟩
 exact wpAny_dropValue (g₁.doneF (a:=.next) rfl h₁)
abbrev TAsg (c:Cfg)(P:SP)(E:AEnv)(target:Expr)(a:AVal)(Q:Store->Prop)(X:XP)(U:Store):Prop:=TV1 c P E (λenv v=>assign target env v) a (gU Q) X U
theorem ie {Q:Store->Prop}(e:StoreR E x a U U')(q:Q U'):TAsg c P E (.Name x pos) a Q X U:=by
 refine TV1.mk λκ V0 s v g ra=>assign_Name ?_
 refine (ff (c:=c) (X:=X) g.st ra e).go g ?_
 rintro V1 U1 _ s₁ g₁ e1 l1 ⟨h1,h2⟩
 exact g₁.done (by show Q U1;rw [h2];exact q)
theorem TAsg_Attribute {Q:Store->Prop}(h:TE c P E o (λb U1=>nH c P E (λov v=>setAttr ov attr v) b a (gU Q) X U1) X U):TAsg c P E (.Attribute o attr pos) a Q X U:=by
 refine TV1.mk λκ V0 s v g ra=>?_
 rw [arm_assign_Attribute]
 refine wpAny_bind (wpAny_holding (h.go g ?_))
 rintro V1 U1 w s₁ g₁ e1 l1 ⟨b,rb,h₁⟩
 refine wpAny_bind (wpAny_standAt (wpAny_bind (wpAny_holding ((h₁ κ V1 s₁ w v g₁.ok g₁.hh g₁.hv g₁.st rb (ra.ext e1 l1)).go g₁ ?_))))
 rintro V2 U2 _ s2 g2 e2 l2 h₂
 exact wpAny_release (g2.done h₂)
theorem TAsg_Subscript {Q:Store->Prop}(h:TE c P E o (λb U1=>TE c P E i (λd U2=>OP3 c P setItem b d a (gU Q) X U2) X U1) X U):TAsg c P E (.Subscript o i pos) a Q X U:=by
 refine TV1.mk λκ V0 s v g ra=>?_
 rw [arm_assign_Subscript]
 refine wpAny_bind (wpAny_holding (h.go g ?_))
 rintro V1 U1 w s₁ g₁ e1 l1 ⟨b,rb,h₁⟩
 refine wpAny_bind (wpAny_holding (h₁.go g₁ ?_))
 rintro V2 U2 x s2 g2 e2 l2 ⟨d,rd,h₂⟩
 refine wpAny_bind (wpAny_standAt (wpAny_bind (wpAny_holding ((h₂ κ V2 s2 w x v g2.ok g2.st (rb.ext e2 l2) rd ((ra.ext e1 l1).ext e2 l2)).go g2 ?_))))
 rintro V3 U3 _ s3 g3 e3 l3 h3
 exact wpAny_release (g3.done h3)
inductive bt (E:AEnv):List Str->List AVal->Store->Store->Prop
 | nil {U:Store}:bt E [] [] U U
 | cons {x:Str} {xs:List Str} {a:AVal} {as:List AVal} {U U1 U2:Store} (h:StoreR E x a U U1) (t:bt E xs as U1 U2):bt E (x::xs) (a::as) U U2
theorem nL {as:List AVal}(e:bt E xs as U U'):∀(ts:List (Value->Sem Unit)) (vs:List Value) {s:Shared} {V:Nat->Addr},VRs V U.length as vs->Go c P E κ V0 n0 V U s->
  (ts.length=xs.length)->(∀(i:Nat) (x:Str),xs[i]? = some x->∀(v:Value) (Q:Unit->Shared->Prop) (Ex:Value->Shared->Prop) (s:Shared),wpAny (model κ.p κ.w) κ.A (storeName (E.conc V0) x v) Q Ex s->∀t:Value->Sem Unit,ts[i]? = some t->wpAny (model κ.p κ.w) κ.A (t v) Q Ex s)->
  ∀{Q:Unit->Shared->Prop} {Ex:Value->Shared->Prop},(∀s',Go c P E κ V0 n0 V U' s'->Q () s')->wpAny (model κ.p κ.w) κ.A (assignInOrder ts vs) Q Ex s:=by
 induction e with
 | nil=>
  intro ts vs s V r g hl ht Q Ex k
  cases r
  cases ts with
  | nil=>exact wpAny_pure (k s g)
  | cons _ _=>cases hl
 | @cons x xs a as U U1 U2 h t ih=>
  intro ts vs s V r g hl ht Q Ex k
  cases r with
  | @cons _ v _ vs ra ras=>
  cases ts with
  | nil=>cases hl
  | cons t ts=>
  refine wpAny_bind (wpAny_holding (ht 0 x rfl v _ _ _ ?_ t rfl))
  rw [g.env]
  refine wpAny_mono (ff (c:=c) (X:=noX) g.st ra h) (λω s₁ z=>?_) λω s₁ z=>z.elim λω z=>z.elim λω z=>z.2.2.2.elim λω z=>z.2.2.elim
  obtain ⟨V1,U1',ex,hl1,st1,e1,e2⟩:=z
  subst e1
  subst e2
  exact ih ts vs (h.length.symm▸ras) (g.step (Ext.refl _ _) (Nat.le_of_eq h.length.symm) st1) (Nat.succ.inj hl) (λi y hy w Q' Ex' s' h' t' ht'=>ht (i+1) y hy w Q' Ex' s' h' t' ht') k
noncomputable def pS (e:Expr):Option (Str×Pos):=by
 cases e with
 | Name x p=>exact some (x,p)
 | _=>exact none
theorem qY {e:Expr}{q:Str×Pos}(h:pS e=some q):e=.Name q.1 q.2:=by
 cases e with
 | Name x p=>cases h;rfl
 | _=>exact nns h
noncomputable def gq:List Expr->Option (List Str)
 | []=>some []
 | e::es=>(pS e).bind λq=>(gq es).map λl=>q.1::l
theorem iJ {env:Env}:∀{xs:List Str},gq es=some xs->∃ps:List Pos,ps.length=xs.length/\assignEach es env=(xs.zip ps).map λq=>(false,assign (.Name q.1 q.2) env):=by
 induction es with
 | nil=>intro xs h;cases h;exact ⟨[],rfl,rfl⟩
 | cons e es ih=>
  intro xs h
  obtain ⟨q,h1,h2⟩:=Option.bind_eq_some_iff.mp h
  obtain ⟨l,h3,rfl⟩:=Option.map_eq_some_iff.mp h2
  obtain ⟨ps,hl,he⟩:=ih h3
  rw [qY h1]
  exact ⟨q.2::ps,congrArg Nat.succ hl,congrArg (List.cons _) he⟩
noncomputable def AObj.row (o:AObj):Option (List AVal):=by
 cases o with
 | tuple l=>exact some l
 | list l=>exact some l
 | _=>exact Option.none
noncomputable def AVal.loc? (a:AVal):Option Nat:=by
 cases a with
 | loc i=>exact some i
 | _=>exact Option.none
theorem AVal.loc_ok {i:Nat}(h:a.loc? = some i):a=.loc i:=by
 cases a with
 | loc j=>exact congrArg AVal.loc (Option.some.inj h)
 | _=>exact nns h
noncomputable def n5 (a:AVal)(U:Store):Option (List AVal):=a.loc?.bind λi=>(U.at i).bind AObj.row
theorem AObj.row_ok {o:AObj}(h:o.row=some l):o=.tuple l∨o=.list l:=by
 cases o with
 | tuple m=>exact .inl (congrArg AObj.tuple (Option.some.inj h))
 | list m=>exact .inr (congrArg AObj.list (Option.some.inj h))
 | _=>exact nns h
theorem eG (hfree:P.free=true)(g:Go c P E κ V0 n0 V U s)(ra:VR V U.length a v)(h:n5 a U=some l){n:Nat}(hn:n=l.length){Q:List Value->Shared->Prop}{Ex:Value->Shared->Prop}
  (k:∀vs s',Go c P E κ V0 n0 V U s'->VRs V U.length l vs->Q vs s'):wpAny (model κ.p κ.w) κ.A (unpackItems v n none) Q Ex s:=by
 haveI hh:=g.ok.handled hfree
 obtain ⟨i,h1,h2⟩:=Option.bind_eq_some_iff.mp h
 obtain ⟨o,hi,h3⟩:=Option.bind_eq_some_iff.mp h2
 cases AVal.loc_ok h1
 cases ra.2
 have fin:∀{vs h'},VRs V U.length l vs->(∀b o,b≠s.heap.objs.size->s.heap.get? b=some o->h'.get? b=some o)->Q vs {s with heap:=h'}:=λr hx=>
  k _ _ (g.step (Ext.refl _ _) (Nat.le_refl _) (g.st.grown g.ok (λb o e=>hx b o (Nat.ne_of_lt (Heap.lt_size e)) e) s.toks s.drawn)) r
 rcases AObj.row_ok h3 with rfl | rfl
 ·obtain ⟨vs,it,r⟩:=g.st.isTuple hi
  cases (hn.trans (All2.length r)).trans List.size_toArray.symm
  exact wpAny_unpackItems_tuple hh it λh' hx=>fin r hx
 ·obtain ⟨vs,it,r⟩:=g.st.isList hi
  cases (hn.trans (All2.length r)).trans List.size_toArray.symm
  exact kun_itemsOf hh it λh' hx=>fin r hx
theorem zip_get {ps:List Pos}(h:ps.length=xs.length){i:Nat}(hx:xs[i]? = some x):∃p,ps[i]? = some p:=by
 haveI:i<ps.length:=by rw [h];exact (List.getElem?_eq_some_iff.mp hx).1
 exact ⟨ps[i],List.getElem?_eq_getElem this⟩
theorem pz {Q:Store->Prop}(hfree:P.free=true)(hx:gq es=some xs)(hl:n5 a U=some l)(hn:xs.length=l.length)
  (e:bt E xs l U U') (q:Q U'):TAsg c P E (.Tuple es k pos) a Q X U:=by
 refine TV1.mk λκ V0 s v g ra=>?_
 rw [arm_assign_Tuple]
 obtain ⟨ps,hps,he⟩:=iJ (env:=E.conc V0) hx
 rw [he]
 haveI hlen:((xs.zip ps).map λq=>(false,assign (.Name q.1 q.2) (E.conc V0))).length=l.length:=by simp [hps,hn]
 haveI hno:((xs.zip ps).map λq=>(false,assign (.Name q.1 q.2) (E.conc V0))).findIdx? (·.1)=none:=by
  rw [List.findIdx?_eq_none_iff]
  intro x hx
  obtain ⟨y,_,rfl⟩:=List.mem_map.mp hx
  rfl
 unfold unpack
 rw [hno]
 refine wpAny_bind (wpAny_standAt (wpAny_bind (wpAny_holding (eG hfree g ra hl hlen ?_))))
 intro vs s₁ g₁ r
 refine nL e _ vs r g₁ (by simp [hps]) (λi x hx'=>?_) λs' g'=>g'.done q
 intro v' Q' Ex' s' h' t ht
 obtain ⟨p,hp⟩:=zip_get hps hx'
 haveI:t=assign (.Name x p) (E.conc V0):=by
  haveI hz:(xs.zip ps)[i]? = some (x,p):=by rw [List.getElem?_zip_eq_some];exact ⟨hx',hp⟩
  simp [List.getElem?_map,hz] at ht
  exact ht.symm
 rw [this]
 exact assign_Name h'
def kT (c:Cfg)(P:SP)(E:AEnv)(ts:List Expr)(a:AVal)(Q:Store->Prop)(X:XP)(U:Store):Prop:=TV1 c P E (λenv v=>assignAll v ((assignEach ts env).map (·.2))) a (gU Q) X U
noncomputable abbrev gw:=dP
theorem bV (h:gw t=false)(rest:List Expr)(env:Env):assignEach (t::rest) env=(false,assign t env)::assignEach rest env:=by
 cases t <;> first | rfl | exact absurd h.symm Bool.false_ne_true
theorem TAsgs_one {Q:Store->Prop}(hs:gw t=false)(h:TAsg c P E t a Q X U):kT c P E [t] a Q X U:=by
 refine TV1.mk λκ V0 s v g ra=>?_
 rw [bV hs]
 exact h.end g ra
theorem TAsgs_two {t':Expr}{Q:Store->Prop}(hs:gw t=false)(hs':gw t'=false)(h:TAsg c P E t a (λU1=>TAsg c P E t' a Q X U1) X U):kT c P E [t,t'] a Q X U:=by
 refine TV1.mk λκ V0 s v g ra=>?_
 rw [bV hs,bV hs']
 show wpAny _ _ (do holding [v] (assign t (E.conc V0) v);assign t' (E.conc V0) v) _ _ _
 refine wpAny_bind (wpAny_holding (h.go g ra ?_))
 rintro V1 U1 _ s₁ g₁ e1 l1 h₁
 exact TV1.end (t:=λenv v=>assign t' env v) h₁ g₁ (ra.ext e1 l1)
theorem TS_Assign {ts:List Expr}(hs:∀V,swapsWithSole ts value pos.line (E.conc V)=pure false)(hw:∀env,swappedStores ts value env=pure none)
  (h:TE c P E value (λa U1=>kT c P E ts a (λU2=>Q .next U2) X U1) X U):TS c P E (.Assign ts value pos) Q X U:=by
 refine TM.mk λκ V0 s g=>?_
 rw [arm_exec_Assign,hs]
 refine wpAny_bind (wpAny_standAt (wpAny_bind (wpAny_pure ?_)))
 refine wpAny_ite_false (by decide) ?_
 refine wpAny_bind (h.go g ?_)
 rintro V1 U1 v s₁ g₁ e1 l1 ⟨a,ra,h₁⟩
 rw [hw]
 refine wpAny_bind (wpAny_pure ?_)
 show wpAny (model κ.p κ.w) κ.A (do assignAll v ((assignEach ts (E.conc V0)).map (·.2));pure Flow.next) _ _ _
 refine wpAny_bind (h₁.go g₁ ra ?_)
 rintro V2 U2 _ s2 g2 e2 l2 h₂
 exact wpAny_pure (g2.doneF (a:=.next) rfl h₂)
theorem gD (hfree:P.free=true)(hs:∀V,swapsWithSole [.Tuple es k tpos] value pos.line (E.conc V)=pure false)
  (hw:∀V,swappedStores [.Tuple es k tpos] value (E.conc V)=pure (some xs)) (h:TE c P E value (λa U1=>∃l U2,n5 a U1=some l/\xs.length=l.length/\bt E xs.reverse l.reverse U1 U2/\Q .next U2) X U) :
  TS c P E (.Assign [.Tuple es k tpos] value pos) Q X U:=by
 refine TM.mk λκ V0 s g=>Assign_Tuple_swapped ?_ (hs _) (hw _)
 refine h.go g ?_
 rintro V1 U1 v s₁ g₁ e1 l1 ⟨a,ra,l,U2,hl,hn,e,q⟩
 refine eG hfree g₁ ra hl hn ?_
 intro vs s2 g2 r
 haveI rrev:VRs V1 U1.length l.reverse vs.reverse:=by
  clear e q hl hn ra
  induction r with
  | nil=>exact .nil
  | cons x _ ih=>rw [List.reverse_cons,List.reverse_cons];exact ih.append (.cons x .nil)
 refine nL e _ _ rrev g2 (by simp) (λi x hx=>?_) λs' g'=>g'.doneF (a:=.next) rfl q
 intro v' Q' Ex' s' h' t ht
 haveI:t=λv=>bindName (E.conc V0) x v:=by
  rw [List.getElem?_map,hx] at ht
  exact (Option.some.inj ht).symm
 rw [this]
 exact wpAny_bindName h'
theorem TS_AugAttr {op:Operator}
  (h:TE c P E o (λb U1=>d8 c P b attr (λold U2=>TE c P E value (λv U3=>OP2 c P (inplaceOp op) old v (gV λnew U4=>nH c P E (λov v=>setAttr ov attr v) b new (gU λU5=>Q .next U5) X U4) X U3) X U2) X U1) X U) :
  TS c P E (.AugAssign (.Attribute o attr tpos) op value pos) Q X U:=by
 refine TM.mk λκ V0 s g=>?_
 rw [arm_exec_AugAssign_2]
 refine wpAny_bind (wpAny_standAt (wpAny_bind (h.go g ?_)))
 rintro V1 U1 ov s₁ g₁ e1 l1 ⟨b,rb,h₁⟩
 refine wpAny_bind (wpAny_holding (wpAny_bind (wpAny_standAt (wpAny_bind ((h₁ κ V1 s₁ ov g₁.ok g₁.st rb).go g₁ ?_)))))
 rintro V2 U2 old s2 g2 e2 l2 ⟨ao,ro,h₂⟩
 refine wpAny_bind (wpAny_holding (h₂.go g2 ?_))
 rintro V3 U3 v s3 g3 e3 l3 ⟨av,rv,h3⟩
 refine wpAny_bind (wpAny_standAt (wpAny_operateT ((h3 κ V3 s3 old v g3.ok g3.st (ro.ext e3 l3) rv).go g3 ?_)))
 rintro V4 U4 new s4 g4 e4 l4 ⟨an,rn,h4⟩
 refine wpAny_bind (wpAny_standAt (wpAny_bind (wpAny_holding ((h4 κ V4 s4 ov new g4.ok g4.hh g4.hv g4.st (((rb.ext e2 l2).ext e3 l3).ext e4 l4) rn).go g4 ?_))))
 rintro V5 U5 _ s5 g5 e5 l5 h5
 exact wpAny_bind (wpAny_release (wpAny_pure (g5.doneF (a:=.next) rfl h5)))
theorem TS_DelSub {ipos:Pos}(h:TE c P E o (λb U1=>TE c P E i (λd U2=>OP2 c P delItem b d (gU λU3=>Q .next U3) X U2) X U1) X U):TS c P E (.Delete [.Subscript o i ipos] pos) Q X U:=by
 refine TM.mk λκ V0 s g=>wpAny_Delete ?_
 rw [arm_deleteEach_cons]
 refine wpAny_bind (wpAny_delete_Subscript (h.go g ?_))
 rintro V1 U1 ov s₁ g₁ e1 l1 ⟨b,rb,h₁⟩
 refine h₁.go g₁ ?_
 rintro V2 U2 iv s2 g2 e2 l2 ⟨d,rd,h₂⟩
 refine (h₂ κ V2 s2 ov iv g2.ok g2.st (rb.ext e2 l2) rd).go g2 ?_
 rintro V3 U3 _ s3 g3 e3 l3 h3
 exact wpAny_deleteEach_nil (g3.doneF (a:=.next) rfl h3)
theorem TS_Assert {m:Option Expr}(h:TT c P E t (λb U1=>b=true/\Q .next U1) X U):TS c P E (.Assert t m pos) Q X U:=by
 refine TM.mk λκ V0 s g=>wpAny_Assert_holds (TM.go (t:=λenv=>isTrue t env (eval t env)) h g ?_)
 rintro V1 U1 x s₁ g₁ e1 l1 ⟨hb,hq⟩
 exact ⟨hb,g₁.doneF (a:=.next) rfl hq⟩
theorem uQ {npos:Pos}{Q:AVal->Store->Prop}(h:TE c P E value (λa U1=>∃U2,StoreR E x a U1 U2/\Q a U2) X U):TE c P E (.NamedExpr (.Name x npos) value pos) Q X U:=by
 refine TM.mk λκ V0 s g=>?_
 rw [arm_eval_NamedExpr]
 refine wpAny_bind (h.go g ?_)
 rintro V1 U1 v s₁ g₁ e1 l1 ⟨a,ra,U2,e,q⟩
 refine wpAny_bind (wpAny_holding (TV1.go (ie (c:=c) (P:=P) (X:=X) (pos:=npos) (Q:=λU'=>U'=U2) e rfl) g₁ ra ?_))
 rintro V2 U3 _ s2 g2 e2 l2 h₂
 haveI h₂:U3=U2:=h₂
 exact wpAny_pure (g2.doneV (ra.ext e2 l2) (by rw [h₂];exact q))
end
end
section
set_option tactic.hygienic true
noncomputable def AVal.ren (g:Nat->Nat):AVal->AVal
 | .loc i=>.loc (g i)
 | a=>a
noncomputable def IterK.ren (g:Nat->Nat):IterK->IterK
 | .list l=>.list (g l)
 | .tuple l=>.tuple (g l)
 | .keys d n e=>.keys (g d) n e
 | .vals d n e=>.vals (g d) n e
 | k=>k
noncomputable def mA (g:Nat->Nat)(l:List AVal):List AVal:=l.map (AVal.ren g)
noncomputable def ji (g:Nat->Nat)(l:List (Str×AVal)):List (Str×AVal):=l.map λp=>(p.1,p.2.ren g)
noncomputable def AObj.ren (g:Nat->Nat):AObj->AObj
 | .list l=>.list (mA g l)
 | .listS o l=>.listS o (mA g l)
 | .tuple l=>.tuple (mA g l)
 | .dict es=>.dict (ji g es)
 | .idict es=>.idict (ji g es)
 | .frame m=>.frame (ji g m)
 | .cell v=>.cell (v.map (AVal.ren g))
 | .inst C d=>.inst C (g d)
 | .slots C d l=>.slots C (g d) (l.map (Option.map (AVal.ren g)))
 | .set l=>.set l
 | .object=>.object
 | .iter k i=>.iter (k.ren g) i
 | .dictE es ep=>.dictE (ji g es) ep
 | .range a b c=>.range a b c
 | .vals d=>.vals (g d)
 | .iterL l i=>.iterL (g l) i
 | .bmeth c i a=>.bmeth c i (a.ren g)
 | .exc c tb=>.exc c (tb.map g)
 | .tback fl=>.tback (fl.map g)
 | .tab P es=>.tab P (es.map λe=>(e.1,e.2.1,g e.2.2))
 | .code q=>.code q
 | .lam q p b sc cl k=>.lam q p b sc (cl.map λx=>(x.1,g x.2)) (g k)
 | .meth f a=>.meth f (a.ren g)
 | .raw o=>.raw o
noncomputable def AVal.ltB (n:Nat):AVal->Bool
 | .loc i=>decide (i<n)
 | _=>true
noncomputable def IterK.ltB (n:Nat):IterK->Bool
 | .list l=>decide (l<n)
 | .tuple l=>decide (l<n)
 | .keys d _ _=>decide (d<n)
 | .vals d _ _=>decide (d<n)
 | _=>true
noncomputable def fC (f:α->Bool):Option α->Bool
 | none=>true
 | some a=>f a
noncomputable def AObj.ltB (n:Nat):AObj->Bool
 | .list l=>l.all (AVal.ltB n)
 | .listS _ l=>l.all (AVal.ltB n)
 | .tuple l=>l.all (AVal.ltB n)
 | .dict es=>es.all λp=>p.2.ltB n
 | .idict es=>es.all λp=>p.2.ltB n
 | .frame m=>m.all λp=>fC (AVal.ltB n) (m.lookup p.1)
 | .cell v=>fC (AVal.ltB n) v
 | .inst _ d=>decide (d<n)
 | .slots _ d l=>decide (d<n)&&l.all (fC (AVal.ltB n))
 | .iter k _=>k.ltB n
 | .dictE es _=>es.all λp=>p.2.ltB n
 | .vals d=>decide (d<n)
 | .iterL l _=>decide (l<n)
 | .bmeth _ _ a=>a.ltB n
 | .exc _ tb=>fC (λt=>decide (t<n)) tb
 | .tback fl=>fC (λt=>decide (t<n)) fl
 | .tab _ es=>es.all λe=>decide (e.2.2<n)
 | .lam _ _ _ _ cl k=>decide (k<n)&&cl.all λx=>decide (x.2<n)
 | .meth _ a=>a.ltB n
 | _=>true
section
variable {p:Program}{w:World}{V:Nat->Addr}{n n':Nat}{g:Nat->Nat}
theorem VR.canon {a:AVal}{v:Value}(h:VR V n (a.ren g) v)(l:a.ltB n'=true):VR (V∘g) n' a v:=by
 cases a <;> first | exact h | exact ⟨of_decide_eq_true l,h.2⟩
theorem VRs.canon {l:List AVal}{vs:List Value}(h:VRs V n (mA g l) vs)(q:l.all (AVal.ltB n')=true):VRs (V∘g) n' l vs:=All2.canon (λr q=>r.canon q) h q
theorem KVRs.canon {l:List (Str×AVal)}{vs:List (Str×Value)}(h:All2 (KVR V n) (ji g l) vs)(q:(l.all λp=>p.2.ltB n')=true):All2 (KVR (V∘g) n') l vs:=All2.canon (λr q=>⟨r.1,VR.canon r.2 q⟩) h q
theorem DERs.canon {l:List (Str×AVal)}{vs:List DictEntry}(h:All2 (DER w V n) (ji g l) vs)(q:(l.all λp=>p.2.ltB n')=true):All2 (DER w (V∘g) n') l vs:=All2.canon (λr q=>⟨r.1,r.2.1,VR.canon r.2.2 q⟩) h q
theorem SlotR.canon {a:Option AVal}{v:Option Value}(h:SlotR V n (a.map (AVal.ren g)) v)(q:fC (AVal.ltB n') a=true):SlotR (V∘g) n' a v:=by
 cases a with
 | none=>exact h
 | some a=>obtain ⟨x,r1,r2⟩:=h;exact ⟨x,r1,r2.canon q⟩
theorem SlotRs.canon {l:List (Option AVal)}{vs:List (Option Value)}(h:All2 (SlotR V n) (l.map (Option.map (AVal.ren g))) vs)(q:l.all (fC (AVal.ltB n'))=true):All2 (SlotR (V∘g) n') l vs:=All2.canon SlotR.canon h q
theorem OptVR.canon {a:Option AVal}{v:Option Value}(h:OptVR V n (a.map (AVal.ren g)) v)(l:fC (AVal.ltB n') a=true):OptVR (V∘g) n' a v:=by
 cases a with
 | none=>trivial
 | some a=>cases v with
  | none=>exact h
  | some v=>exact VR.canon (a:=a) (v:=v) h l
theorem mP (m:List (Str×AVal))(x:Str):(ji g m).lookup x=(m.lookup x).map (AVal.ren g):=ef _ _ _
theorem oG {m:List (Str×AVal)}(h:(m.all λp=>fC (AVal.ltB n') (m.lookup p.1))=true)(x:Str):fC (AVal.ltB n') (m.lookup x)=true:=by
 cases e:m.lookup x with
 | none=>rfl
 | some a=>
  have:∀{l:List (Str×AVal)},l.lookup x=some a->(x,a)∈l:=by
   intro l
   induction l with
   | nil=>intro e;cases e
   | cons p l ih=>
    intro e
    obtain ⟨y,b⟩:=p
    rw [List.lookup_cons] at e
    cases q:x == y with
    | true=>rw [q] at e;cases e;cases eq_of_beq q;exact .head _
    | false=>rw [q] at e;exact .tail _ (ih e)
  have:=List.all_eq_true.mp h _ (this e)
  rw [←e];exact this
theorem mq (es:List (Int×Int×Nat)):bf V (es.map λe=>(e.1,e.2.1,g e.2.2))=bf (V∘g) es:=by
 unfold bf;rw [List.flatMap_map];rfl
theorem OR.canon {ao:AObj}{o:Obj}(h:OR p w V n (ao.ren g) o)(l:ao.ltB n'=true):OR p w (V∘g) n' ao o:=by
 cases ao with
 | list xs=>obtain ⟨vs,ep,d,r⟩:=h;exact ⟨vs,ep,d,VRs.canon r l⟩
 | listS _ xs=>obtain ⟨z,c,vs,ep,d,r⟩:=h;exact ⟨z,c,vs,ep,d,VRs.canon r l⟩
 | tuple xs=>obtain ⟨vs,ep,d,r⟩:=h;exact ⟨vs,ep,d,VRs.canon r l⟩
 | dict es=>obtain ⟨kvs,d,r⟩:=h;exact ⟨kvs,d,KVRs.canon r l⟩
 | idict es=>
  obtain ⟨ds,ep,d,r,nd⟩:=h
  refine ⟨ds,ep,d,DERs.canon r l,?_⟩
  have:(ji g es).map (·.1)=es.map (·.1):=by unfold ji;rw [List.map_map];rfl
  rw [this] at nd;exact nd
 | frame m=>
  obtain ⟨es,ep,d,k,r⟩:=h
  refine ⟨es,ep,d,k,λx=>?_⟩
  have:=r x
  rw [mP] at this
  exact this.canon (oG l x)
 | cell v=>
  obtain ⟨v',d,r,z⟩:=h
  exact ⟨v',d,r.canon l,λq=>z (by rw [q];rfl)⟩
 | inst C d=>exact ⟨of_decide_eq_true l,h.2⟩
 | slots C dd xs=>
  obtain ⟨q,vs,r,d⟩:=h
  have l:(decide (dd<n')&&xs.all (fC (AVal.ltB n')))=true:=l
  rw [Bool.and_eq_true] at l
  exact ⟨of_decide_eq_true l.1,vs,SlotRs.canon r l.2,d⟩
 | set _=>exact h
 | object=>exact h
 | iter k i=>
  cases k <;> first | exact h | exact ⟨of_decide_eq_true l,h.2⟩
 | dictE es ep=>obtain ⟨kvs,des,a,b,d,f,gg,r⟩:=h;exact ⟨kvs,des,a,b,d,f,gg,KVRs.canon r l⟩
 | range a b c=>exact h
 | vals d=>exact ⟨of_decide_eq_true l,h.2⟩
 | iterL l2 i2=>exact ⟨of_decide_eq_true l,h.2⟩
 | bmeth c i a=>obtain ⟨v,r,d⟩:=h;exact ⟨v,r.canon l,d⟩
 | exc c tb=>
  obtain ⟨a,vs,a0,b,c',d⟩:=h
  refine ⟨a,vs,a0,b,c',?_⟩
  cases tb with
  | none=>exact d
  | some t=>exact ⟨of_decide_eq_true l,d.2⟩
 | tback fl=>
  obtain ⟨ts,b,d⟩:=h
  refine ⟨ts,b,?_⟩
  cases fl with
  | none=>exact d
  | some t=>exact ⟨of_decide_eq_true l,d.2⟩
 | tab P es=>
  obtain ⟨ps,a,b,d⟩:=h
  exact ⟨ps,a,b.trans (mq es),λe he=>of_decide_eq_true (List.all_eq_true.mp l e he)⟩
 | code q=>exact h
 | lam q ps b sc cl k=>
  obtain ⟨a,b',pm,ctv,d⟩:=h
  have l:(decide (k<n')&&cl.all λx=>decide (x.2<n'))=true:=l
  rw [Bool.and_eq_true] at l
  refine ⟨of_decide_eq_true l.1,λe he=>of_decide_eq_true (List.all_eq_true.mp l.2 e he),pm,ctv,d.trans ?_⟩
  have:aM V (cl.map λx=>(x.1,g x.2))=aM (V∘g) cl:=by unfold aM;rw [List.map_map];rfl
  rw [this];rfl
 | meth f a=>obtain ⟨v,r,d⟩:=h;exact ⟨v,r.canon l,d⟩
 | raw o'=>exact h
end
section
variable {c:Cfg}{P:SP}{E:AEnv}{κ:KX}{V0 V:Nat->Addr}{n0 n:Nat}{U U':Store}{s:Shared}{g:Nat->Nat}
end
section
variable {p:Program}{w:World}{V:Nat->Addr}{n:Nat}
theorem VR.ltB {a:AVal}{v:Value}(h:VR V n a v):a.ltB n=true:=by
 cases a <;> first | rfl | exact decide_eq_true h.1
theorem VRs.ltB {l:List AVal}{vs:List Value}(h:VRs V n l vs):l.all (AVal.ltB n)=true:=All2.all (p:=AVal.ltB n) VR.ltB h
theorem KVRs.ltB {l:List (Str×AVal)}{vs:List (Str×Value)}(h:All2 (KVR V n) l vs):(l.all λp=>p.2.ltB n)=true:=All2.all (λr=>VR.ltB r.2) h
theorem DERs.ltB {l:List (Str×AVal)}{vs:List DictEntry}(h:All2 (DER w V n) l vs):(l.all λp=>p.2.ltB n)=true:=All2.all (λr=>VR.ltB r.2.2) h
theorem SlotR.ltB {a:Option AVal}{v:Option Value}(h:SlotR V n a v):fC (AVal.ltB n) a=true:=by
 cases a with
 | none=>rfl
 | some a=>obtain ⟨x,_,r⟩:=h;exact r.ltB
theorem SlotRs.ltB {l:List (Option AVal)}{vs:List (Option Value)}(h:All2 (SlotR V n) l vs):l.all (fC (AVal.ltB n))=true:=All2.all (p:=fC (AVal.ltB n)) SlotR.ltB h
theorem OptVR.ltB {a:Option AVal}{v:Option Value}(h:OptVR V n a v):fC (AVal.ltB n) a=true:=by
 cases a with
 | none=>rfl
 | some a=>cases v with
  | none=>exact h.elim
  | some v=>exact VR.ltB (a:=a) (v:=v) h
theorem OR.ltB {ao:AObj}{o:Obj}(h:OR p w V n ao o):ao.ltB n=true:=by
 cases ao with
 | list xs=>obtain ⟨vs,ep,d,r⟩:=h;exact VRs.ltB r
 | listS _ xs=>obtain ⟨_,c,vs,ep,d,r⟩:=h;exact VRs.ltB r
 | tuple xs=>obtain ⟨vs,ep,d,r⟩:=h;exact VRs.ltB r
 | dict es=>obtain ⟨kvs,d,r⟩:=h;exact KVRs.ltB r
 | idict es=>obtain ⟨ds,ep,d,r,nd⟩:=h;exact DERs.ltB r
 | frame m=>
  obtain ⟨es,ep,d,k,r⟩:=h
  exact List.all_eq_true.mpr λq ω=>(r q.1).ltB
 | cell v=>obtain ⟨v',d,r,z⟩:=h;exact r.ltB
 | inst C d=>exact decide_eq_true h.1
 | slots C dd xs=>
  obtain ⟨q,vs,r,d⟩:=h
  show (decide (dd<n)&&xs.all (fC (AVal.ltB n)))=true
  rw [decide_eq_true q,SlotRs.ltB r];rfl
 | set _=>rfl
 | object=>rfl
 | iter k i=>cases k <;> first | rfl | exact decide_eq_true h.1
 | dictE es ep=>obtain ⟨kvs,des,a,b,d,f,gg,r⟩:=h;exact KVRs.ltB r
 | range a b c=>rfl
 | vals d=>exact decide_eq_true h.1
 | iterL l2 i2=>exact decide_eq_true h.1
 | bmeth c i a=>obtain ⟨v,r,d⟩:=h;exact r.ltB
 | exc c tb=>
  obtain ⟨a,vs,a0,b,c',d⟩:=h
  cases tb with
  | none=>rfl
  | some t=>exact decide_eq_true d.1
 | tback fl=>
  obtain ⟨ts,b,d⟩:=h
  cases fl with
  | none=>rfl
  | some t=>exact decide_eq_true d.1
 | tab P es=>obtain ⟨ps,a,b,d⟩:=h;exact List.all_eq_true.mpr λe he=>decide_eq_true (d e he)
 | code q=>rfl
 | lam q ps b sc cl k=>
  obtain ⟨a,b',pm,ctv,d⟩:=h
  show (decide (k<n)&&cl.all λx=>decide (x.2<n))=true
  rw [decide_eq_true a,List.all_eq_true.mpr λe he=>decide_eq_true (b' e he)];rfl
 | meth f a=>obtain ⟨v,r,d⟩:=h;exact r.ltB
 | raw o'=>rfl
end
def WF (U:Store):Prop:=∀i ao,U.at i=some ao->ao.ltB U.length=true
theorem St.wf {κ:KX}{V:Nat->Addr}{U:Store}{s:Shared}(st:St κ V U s):WF U:=λi ao h=>by
 obtain ⟨o,_,r⟩:=st.obj i ao h
 exact r.ltB
theorem TM.wf {c:Cfg}{P:SP}{E:AEnv}{α:Type}{t:Env->Sem α}{G:(Nat->Addr)->Store->α->Prop}{X:XP}{U:Store}(h:WF U->E.Valid U.length->TM c P E t G X U):TM c P E t G X U:=λκ V s ok hh hv st=>h st.wf hv κ V s ok hh hv st
theorem TC.wf {c:Cfg}{P:SP}{f:AVal}{args:List AVal}{kw:List (Str×AVal)}{Q:AVal->Store->Prop}{X:XP}{U:Store}(h:WF U->TC c P f args kw Q X U):TC c P f args kw Q X U:=λκ V s vf vs ks ok hfr st=>h st.wf κ V s vf vs ks ok hfr st
end
section
inductive Items (U:Store):IterK->List AVal->Prop
 | list {l:Nat} {xs:List AVal} (h:U.at l=some (.list xs)):Items U (.list l) xs
 | tuple {l:Nat} {xs:List AVal} (h:U.at l=some (.tuple xs)):Items U (.tuple l) xs
 | bytes (b:Array UInt8):Items U (.bytes b) (b.toList.map λx=>.int x.toNat)
 | range (a:Int) (n:Nat) (c:Int):Items U (.range a n c) ((List.range n).map λ(i:Nat)=>.int (a+i * c))
 | keys {d ep:Nat} {es:List (Str×AVal)} (h:U.at d=some (.dictE es ep)):Items U (.keys d es.length ep) (es.map λp=>.str p.1)
 | vals {d ep:Nat} {es:List (Str×AVal)} (h:U.at d=some (.dictE es ep)):Items U (.vals d es.length ep) (es.map λp=>p.2)
def nK (i:Nat)(U:Store)(r:Option AVal)(U':Store):Prop:=
 ∃k j xs,U.at i=some (.iter k j)/\Items U k xs/\xs[j]? = r/\((∃a,r=some a/\U'=U.put i (.iter k (j+1)))∨(r=none/\j=xs.length/\U'=U.gone i))
section
variable {c:Cfg}{P:SP}{E:AEnv}{κ:KX}{V0 V:Nat->Addr}{n0:Nat}{U:Store}{s:Shared}{X:XP}
variable {i:Nat}{Ex:Value->Shared->Prop}
theorem All2.get' {α β:Type}{R:α->β->Prop}{l:List α}{m:List β}(h:All2 R l m):∀{i:Nat} {b:β},m[i]? = some b->∃a,l[i]? = some a/\R a b:=by
 induction h with
 | nil=>intro i a e;simp at e
 | cons r _ ih=>
  intro i a e
  cases i with
  | zero=>simp at e;subst e;exact ⟨_,rfl,r⟩
  | succ i=>exact ih (by simpa using e)
inductive uC (κ:KX)(V:Nat->Addr)(n:Nat)(s:Shared)(i:Nat)(k:IterK)(j:Nat)(xs:List AVal):Prop
 | mk (m:Nat) (fp:List Addr) (Pv:Nat->Value->Prop) (Sv:Nat->Heap->Prop) (l:xs.length=m) (W:Walks κ.p κ.w κ.A (V i) fp [V i] m Pv Sv) (h:Sv j s.heap) (hP:∀j' v,j'<m->Pv j' v->∃a,xs[j']? = some a/\VR V n a v) (hS:∀j' h',Sv j' h'->∃o,h'.get? (V i)=some o/\IterR V n k j' o):uC κ V n s i k j xs
theorem St.apart (st:St κ V U s){l:Nat}{x y:AObj}(hl:U.at l=some x)(hi:U.at i=some y)(hk:x≠y):V l≠V i:=λe=>hk (Option.some.inj (hl.symm.trans (st.inj _ _ _ _ hl hi e▸hi)))
theorem sx (ok:κ.Ok c P)(hfree:P.free=true)(st:St κ V U s){j:Nat}{k:IterK}{xs:List AVal}(hi:U.at i=some (.iter k j))(hx:Items U k xs):uC κ V U.length s i k j xs:=by
 have hh:=ok.handled hfree
 obtain ⟨o,g,r⟩:=st.obj _ _ hi
 cases hx with
 | @list l xs h=>
  obtain ⟨vs,il,rl⟩:=st.isList h
  exact ⟨_,_,_,_,All2.length rl,Walks.list (prog:=κ.p) (w:=κ.w) hh (V i) (V l) (st.apart h hi nofun) (List.toArray vs),⟨⟨o,g,r.2⟩,il⟩,λj' v hj hp=>All2.get' rl ((List.getElem?_toArray ..).symm.trans hp),λj' h' q=>q.1.elim λo' w=>⟨o',w.1,r.1,w.2⟩⟩
 | @tuple l xs h=>
  obtain ⟨vs,il,rl⟩:=st.isTuple h
  exact ⟨_,_,_,_,All2.length rl,Walks.tuple (prog:=κ.p) (w:=κ.w) hh (V i) (V l) (st.apart h hi nofun) (List.toArray vs),⟨⟨o,g,r.2⟩,il⟩,λj' v hj hp=>All2.get' rl ((List.getElem?_toArray ..).symm.trans hp),λj' h' q=>q.1.elim λo' w=>⟨o',w.1,r.1,w.2⟩⟩
 | bytes b=>
  obtain ⟨t,r1,r2⟩:=r
  refine ⟨_,_,_,_,by rw [List.length_map,Array.length_toList],KBw.walks (prog:=κ.p) (w:=κ.w) hh (V i) b t,⟨o,g,r1,r2⟩,λj' v hj hp=>?_,λj' h' q=>q.elim λo' w=>⟨o',w.1,t,w.2⟩⟩
  obtain ⟨x,u,h1,rfl⟩:=hp
  exact ⟨.int x.toNat,by rw [List.getElem?_map,Array.getElem?_toList,h1];rfl,u,rfl⟩
 | range a m st'=>
  cases r
  refine ⟨_,_,_,_,by rw [List.length_map,List.length_range],Walks.range (prog:=κ.p) (w:=κ.w) hh (V i) a st' m,g,λj' v hj hp=>?_,λj' h' g'=>⟨_,g',rfl⟩⟩
  obtain ⟨t,rfl⟩:=hp
  exact ⟨.int (a+j' * st'),by rw [List.getElem?_map,List.getElem?_range hj];rfl,t,rfl⟩
 | @keys d ep es h=>
  obtain ⟨od,gd,kvs,des,a1,a2,a3,a4,a5,a6⟩:=st.obj _ _ h
  have hlen:=All2.length a6
  refine ⟨_,_,_,_,(List.length_map _).trans hlen,Walks.dictKeys (knd:=strKind κ.p κ.w) hh (V i) (V d) (st.apart h hi nofun) kvs ep,⟨⟨o,g,r.2.1,hlen▸r.2.2⟩,⟨od,des,gd,a1,a2,a3,a4,a5⟩⟩,λj' v hj hp=>?_,λj' h' q=>q.1.elim λo' w=>⟨o',w.1,r.1,w.2.1,hlen▸w.2.2⟩⟩
  obtain ⟨k',x',h1,h2⟩:=hp
  obtain ⟨e,he,re⟩:=All2.get' a6 h1
  exact ⟨.str e.1,by rw [List.getElem?_map,he];rfl,re.1▸Value.isStrOf_shape h2⟩
 | @vals d ep es h=>
  obtain ⟨od,gd,kvs,des,a1,a2,a3,a4,a5,a6⟩:=st.obj _ _ h
  have hlen:=All2.length a6
  refine ⟨_,_,_,_,(List.length_map _).trans hlen,Walks.dictValues (knd:=strKind κ.p κ.w) hh (V i) (V d) (st.apart h hi nofun) kvs ep,⟨⟨o,g,r.2.1,hlen▸r.2.2⟩,⟨od,des,gd,a1,a2,a3,a4,a5⟩⟩,λj' v hj hp=>?_,λj' h' q=>q.1.elim λo' w=>⟨o',w.1,r.1,w.2.1,hlen▸w.2.2⟩⟩
  obtain ⟨k',h1⟩:=hp
  obtain ⟨e,he,re⟩:=All2.get' a6 h1
  exact ⟨e.2,by rw [List.getElem?_map,he];rfl,re.2⟩
def NextV (V:Nat->Addr)(n:Nat):Option AVal->Option Value->Prop
 | none,none=>True
 | some a,some v=>VR V n a v
 | _,_=>False
theorem mM (hfree:P.free=true)(g:Go c P E κ V0 n0 V U s){r:Option AVal}{U':Store}(h:nK i U r U'){Q:Option Value->Shared->Prop}{a:Addr}(ha:V i=a)
  (k:∀o s',Go c P E κ V0 n0 V U' s'->U'.length=U.length->NextV V U'.length r o->Q o s'):wpAny (model κ.p κ.w) κ.A (pyNext (.ref a)) Q Ex s:=by
 subst ha
 obtain ⟨kk,j,xs,hi,hx,hj,h⟩:=h
 obtain ⟨_,fp,Pv,Sv,rfl,W,hst,hP,hS⟩:=sx g.ok hfree g.st hi hx
 have hb:∀{h':Heap},(∀b o,b∉[V i]->s.heap.get? b=some o->h'.get? b=some o)->∀b o,b≠V i->s.heap.get? b=some o->h'.get? b=some o:=λhk b o hb=>hk b o λm=>hb (List.mem_singleton.mp m)
 rcases h with ⟨a,rfl,rfl⟩ | ⟨rfl,rfl,rfl⟩
 ·have hlt:j<xs.length:=(List.getElem?_eq_some_iff.mp hj).1
  refine W.item j s Q Ex hlt hst λv h' tk hp hst' hk=>?_
  obtain ⟨a',e,ra⟩:=hP j v hlt hp
  cases Option.some.inj (hj.symm.trans e)
  have st':=g.st.upd' g.ok hi (ao':=.iter kk (j+1)) (h':=h') (hb hk) (hS _ _ hst') tk s.drawn
  have l:=Store.put_length (U:=U) (i:=i) (ao:=.iter kk (j+1))
  exact k _ _ (g.step (Ext.refl _ _) (Nat.le_of_eq l.symm) st') l (by rw [l];exact ra)
 ·exact W.done s Q Ex hst λh' tk hk=>
   have l:=Store.gone_length (U:=U) (i:=i)
   k _ _ (g.step (Ext.refl _ _) (Nat.le_of_eq l.symm) (g.st.lost g.ok hi (h':=h') (hb hk) tk s.drawn)) l trivial
noncomputable def aW (a b c:Int):Nat:=(Builtin.Range.rangeSize a b c).toNat
inductive bK (U:Store):AVal->IterK->Prop
 | bytes (b:Array UInt8):bK U (.bytes b) (.bytes b)
 | list {i:Nat} {l:List AVal} (h:U.at i=some (.list l)):bK U (.loc i) (.list i)
 | tuple {i:Nat} {l:List AVal} (h:U.at i=some (.tuple l)):bK U (.loc i) (.tuple i)
 | range {i:Nat} {a b c:Int} (h:U.at i=some (.range a b c)) (h1:Builtin.Range.small a b c=true) (h2:0<=Builtin.Range.rangeSize a b c):bK U (.loc i) (.range a (aW a b c) c)
 | keys {i ep:Nat} {es:List (Str×AVal)} (h:U.at i=some (.dictE es ep)):bK U (.loc i) (.keys i es.length ep)
 | vals {i d ep:Nat} {es:List (Str×AVal)} (h:U.at i=some (.vals d)) (hd:U.at d=some (.dictE es ep)):bK U (.loc i) (.vals d es.length ep)
theorem mT (g:Go c P E κ V0 n0 V U s){v:Value}{a:AVal}{kk:IterK}(ra:VR V U.length a v)(h:bK U a kk){Q:Value->Shared->Prop}
  (k:∀V' s',Go c P E κ V0 n0 V' (U++[some (.iter kk 0)]) s'->Ext U.length V V'->Q (.ref (V' U.length)) s'):wpAny (model κ.p κ.w) κ.A (pyIter v) Q Ex s:=by
 have push:∀{o:Obj},o.isFreed=false->IterR V U.length kk 0 o->Q (.ref s.heap.objs.size) {s with heap:=s.heap.push o}:=by
  intro o hf hr
  have e:=ah V U.length s.heap.objs.size
  have st1:=St.push g.st (ao:=.iter kk 0) hf (IterR.ext hr e (Nat.le_succ _)) s.toks s.drawn
  have:=k _ _ (g.step e (by rw [List.length_append];exact Nat.le_succ _) st1) e
  rw [ad] at this
  exact this
 cases h with
 | bytes b=>obtain ⟨t,rfl⟩:=ra;exact KBw.pyIter_bytes (push rfl ⟨t,rfl,rfl⟩)
 | list h=>
  cases ra.2
  obtain ⟨vs,il,rl⟩:=g.st.isList h
  exact wpAny_pyIter_list il (push rfl ⟨ra.1,rfl,rfl⟩)
 | tuple h=>
  cases ra.2
  obtain ⟨vs,il,rl⟩:=g.st.isTuple h
  exact wpAny_pyIter_tuple il (push rfl ⟨ra.1,rfl,rfl⟩)
 | @range i a b c' h h1 h2=>
  cases ra.2
  obtain ⟨o,go,t,u,v',rfl⟩:=g.st.obj _ _ h
  refine wpAny_pyIter_range go h1 (push rfl ?_)
  have:((aW a b c':Nat):Int)=Builtin.Range.rangeSize a b c':=Int.toNat_of_nonneg h2
  show _=_
  rw [this]
  simp
 | @keys i ep es h=>
  cases ra.2
  obtain ⟨od,gd,kvs,des,a1,a2,a3,a4,a5,a6⟩:=g.st.obj _ _ h
  exact wpAny_pyIter_dict (knd:=strKind κ.p κ.w) (kvs:=kvs) (ep:=ep) (g.st.noMods h) ⟨od,des,gd,a1,a2,a3,a4,a5⟩ (push rfl ⟨ra.1,rfl,by rw [All2.length a6];rfl⟩)
 | @vals i d ep es h hd=>
  cases ra.2
  obtain ⟨o,go,hdl,h1,h2⟩:=g.st.obj _ _ h
  obtain ⟨od,gd,kvs,des,a1,a2,a3,a4,a5,a6⟩:=g.st.obj _ _ hd
  exact wpAny_pyIter_values (knd:=strKind κ.p κ.w) (kvs:=kvs) (ep:=ep) ⟨o,go,h1,h2⟩ ⟨od,des,gd,a1,a2,a3,a4,a5⟩ (push rfl ⟨hdl,rfl,by rw [All2.length a6];rfl⟩)
end
end
section
noncomputable def bN (E:AEnv)(X:XP):XP:=λj U=>∃U1 U2 m,fK U E.frame j U1/\U.at E.frame=some (.frame m)/\dv U1 j (some E.frame) U2/\X j U2
def lU (n0:Nat)(I:Nat->Store->Prop)(n:Nat)(Q:ai->Store->Prop):ai->Store->Prop:=λfl U=>match fl with
 | .next=>∃m,m<n/\I m U
 | .cont=>∃m,m<n/\I m U
 | .brk=>Q .next U
 | .ret a=>Q (.ret a) U
noncomputable def AObj.isLI (o:AObj):Bool:=if h:o.ctorIdx=11 then AObj.iter.elim (motive:=λω=>Bool) o h λk ω=>Nat.beq k.ctorIdx 0 else false
theorem AObj.isLI_ok {o:AObj}(h:o.isLI=true):∃l j,o=.iter (.list l) j:=by
 unfold AObj.isLI at h
 by_cases c:o.ctorIdx=11
 ·rw [dif_pos c] at h
  refine AObj.iter.elim (motive:=λo=>∀c,AObj.iter.elim (motive:=λω=>Bool) o c (λk ω=>Nat.beq k.ctorIdx 0)=true->∃l j,o=.iter (.list l) j) o c (λk j ω h=>?_) c h
  exact IterK.list.elim (motive:=λk=>∃l j',AObj.iter k j=.iter (.list l) j') k (Nat.eq_of_beq_eq_true h) λl=>⟨l,j,rfl⟩
 ·rw [dif_neg c] at h;exact absurd h Bool.false_ne_true
noncomputable def di (target:Expr)(i:Nat)(U:Store):Bool:=Nat.beq target.ctorIdx 23||Nat.beq target.ctorIdx 25&&(U.at i).any AObj.isLI
section
variable {c:Cfg}{P:SP}{E:AEnv}{κ:KX}{V0 V:Nat->Addr}{n0 n:Nat}{U:Store}{s:Shared}{X:XP}
variable {i n2 n1:Nat}{e target:Expr}{Q:ai->Store->Prop}{V2:Nat->Addr}{R:Result->Shared->Prop}{I:Nat->Store->Prop}{orelse:List Stmt}{pos:Pos}
theorem nh {U':Store}{fl:Option Nat}(e:dv U i fl U'):∃cls t f,U.at i=some (.exc cls (some t))/\U.at t=some (.tback f):=by
 obtain ⟨cls,t,f,hi,ht,_⟩:=e
 exact ⟨cls,t,f,hi,ht⟩
theorem tU (ok:κ.Ok c P)(hh:Here E κ V0)(hv:E.Valid n0)(hin:E.inner=false){e:Value}(h:Post κ V0 n0 (gX (bN E X)) e s) :
  notedBy (model κ.p κ.w) κ.A (E.conc V0) (λx s'=>cameBackBy (model κ.p κ.w) κ.A (E.conc V0) (Post κ V0 n0 (gX X)) x s') e s:=by
 obtain ⟨V1,U1,e1,l1,st1,j,hj,rfl,U2,U3,m,h1,h2,h3,h4⟩:=h
 have hc:E.conc V0=E.conc V1:=(AEnv.conc_ext hv e1).symm
 rw [hc]
 refine pC ok (hh.ext hv e1) hin st1 h1 h2 λV2 s2 e2 st2=>?_
 have l2:=ed h1
 obtain ⟨cls,t,f,hi,ht⟩:=nh h3
 obtain ⟨oe,ge,_,vs,a0,hd,_,_,htb⟩:=st2.obj _ _ hi
 have hje:V1 j=V2 j:=(e2 j hj).symm
 have hfr:(E.conc V1).frame=some (V2 E.frame):=by show some (V1 E.frame)=_;rw [e2 _ (Nat.lt_of_lt_of_le hv.frame l1)]
 unfold cameBackBy
 rw [hje]
 refine wpAny_bind (wpAny_field ge hd htb ?_)
 rw [if_neg (show ¬((Value.ref (V2 t) == Value.none)=true) from by simp)]
 have hF:E.frame<U2.length:=Nat.lt_of_lt_of_le (Nat.lt_of_lt_of_le hv.frame l1) l2
 have fin:wpAny (model κ.p κ.w) κ.A (setFlight (.ref (V2 j)) (E.conc V1).frame) (λω s''=>Post κ V0 n0 (gX X) (.ref (V2 j)) s'') (Post κ V0 n0 (gX X)) s2:=by
  rw [hfr]
  refine gH (fl:=some E.frame) st2 h3 (λL hL=>by cases hL;exact hF) rfl λs3 st3=>?_
  have l3:=bJ h3
  refine ⟨V2,U3,e1.trans l1 e2,by rw [l3];exact Nat.le_trans l1 l2,st3,j,by rw [l3];exact Nat.lt_of_lt_of_le hj l2,rfl,h4⟩
 first
  | exact fin
  | exact wpAny_bind (wpAny_pure fin)
theorem name_of (h:Nat.beq e.ctorIdx 23=true):∃x p,e=.Name x p:=Expr.Name.elim e (Nat.eq_of_beq_eq_true h) λx p=>⟨x,p,rfl⟩
theorem sC (h:Nat.beq e.ctorIdx 25=true):∃es k p,e=.Tuple es k p:=Expr.Tuple.elim e (Nat.eq_of_beq_eq_true h) λes k p=>⟨es,k,p,rfl⟩
theorem oj (es:List Expr)(k:Nat)(p:Pos)(I:Addr)(v:Value):(∃T,v=.ref T)∨letOwnedTupleGo (.Tuple es k p) (.ref I) v=pure ():=by
 cases v with
 | ref T=>exact .inl ⟨T,rfl⟩
 | _=>exact .inr rfl
theorem iA (g:Go c P E κ V0 n0 V U s){v:Value}(h:di target i U=true){Q:Unit->Shared->Prop}{Ex:Value->Shared->Prop}{I:Addr}(hI:V i=I)(q:Q () s) :
  wpAny (model κ.p κ.w) κ.A (letOwnedTupleGo target (.ref I) v) Q Ex s:=by
 subst hI
 rcases Bool.or_eq_true_iff.mp h with h | h
 ·obtain ⟨x,p,rfl⟩:=name_of h
  exact wpAny_pure q
 ·obtain ⟨h1,h2⟩:=Bool.and_eq_true_iff.mp h
  obtain ⟨es,k,p,rfl⟩:=sC h1
  cases hi:U.at i with
  | none=>rw [hi] at h2;exact absurd h2 Bool.false_ne_true
  | some o=>
   rw [hi] at h2
   obtain ⟨l,j,rfl⟩:=AObj.isLI_ok h2
   obtain ⟨o,go,_,h1,h2⟩:=g.st.obj _ _ hi
   rcases oj es k p (V i) v with ⟨T,rfl⟩ | e
   ·exact wpAny_letOwnedTupleGo_listiter ⟨o,go,h1,h2⟩ q
   ·rw [e];exact wpAny_pure q
structure LoopR (E:AEnv)(κ:KX)(V2:Nat->Addr)(n2:Nat)(Q:ai->Store->Prop)(X:XP)(R:Result->Shared->Prop):Prop where
 ok:∀f s,Post κ V2 n2 (gF Q) f s->R (.ok f) s
 exc:∀e s,Post κ V2 n2 (gX (bN E X)) e s->notedBy (model κ.p κ.w) κ.A (E.conc V2) (λx s'=>R (.error x) s') e s
theorem LoopR.of (hin:E.inner=false)(g:Go c P E κ V0 n0 V U s)(l:U.length=n2) :
  LoopR E κ V n2 Q X (λr s'=>match r with | .ok f=>Post κ V0 n0 (gF Q) f s' | .error e=>cameBackBy (model κ.p κ.w) κ.A (E.conc V) (Post κ V0 n0 (gX X)) e s'):=by
 subst l
 refine ⟨λf s' hp=>hp.back g.e0 g.l0,λe s' hp=>?_⟩
 exact wpAny_mono (tU g.ok g.hh g.hv hin hp) (λω ω y=>wpAny_mono y (λω ω z=>z.back g.e0 g.l0) λω ω z=>z.back g.e0 g.l0) λω ω y=>wpAny_mono y (λω ω z=>z.back g.e0 g.l0) λω ω z=>z.back g.e0 g.l0
theorem LoopR.body (L:LoopR E κ V2 n2 Q X R){body:List Stmt}(h:TSs c P E body (lU n1 I n Q) (bN E X) U)(g:Go c P E κ V2 n2 V U s)
  {F:Flow->Shared->Prop} (fn:∀s',(∃m,m<n/\∃V' U',Go c P E κ V2 n2 V' U' s'/\I m U')->F .next s'/\F .cont s') (fb:∀s',R (.ok .next) s'->F .brk s') (fr:∀v s',R (.ok (.ret v)) s'->F (.ret v) s') :
  wpAny (model κ.p κ.w) κ.A (execs body (E.conc V2)) F (notedBy (model κ.p κ.w) κ.A (E.conc V2) λe s'=>R (.error e) s') s:=by
 refine wpAny_mono (TM.go h g (Q:=F) ?_) (λω ω x=>x) L.exc
 rintro V6 U6 f s6 g6 e6 l6 ⟨fl,rf,hq⟩
 cases fl with
 | next=>cases rf;obtain ⟨m,hm,hI⟩:=hq;exact (fn _ ⟨m,hm,_,_,g6,hI⟩).1
 | cont=>cases rf;obtain ⟨m,hm,hI⟩:=hq;exact (fn _ ⟨m,hm,_,_,g6,hI⟩).2
 | brk=>cases rf;exact fb _ (L.ok _ _ (g6.doneF (a:=.next) rfl hq))
 | ret b=>obtain ⟨v',rfl,rv⟩:=rf;exact fr _ _ (L.ok _ _ (g6.doneF (a:=.ret b) ⟨v',rfl,rv⟩ hq))
def qz (c:Cfg)(P:SP)(E:AEnv)(n0:Nat)(target:Expr)(body orelse:List Stmt)(i:Nat)(I:Nat->Store->Prop)(Q:ai->Store->Prop)(X:XP)(n:Nat)(U:Store):Prop:=
 ∃r U1,nK i U r U1/\match r with
  | none=>TSs c P E orelse Q (bN E X) U1
  | some a=>di target i U1=true/\TAsg c P E target a (λU2=>TSs c P E body (lU n0 I n Q) (bN E X) U2) (bN E X) U1
theorem oR {body:List Stmt}(L:LoopR E κ V2 n2 Q X R)(hfree:P.free=true)(hil:i<n2)(g:Go c P E κ V2 n2 V2 U s)(hI:I n U)
  (turn:∀n' U',I n' U'->qz c P E n1 target body orelse i I Q X n' U'):codeAny (model κ.p κ.w) κ.A (.forLoop target (.ref (V2 i)) body orelse (E.conc V2)) R s:=by
 refine codeAny_forLoop_any (λn s=>∃V U,Go c P E κ V2 n2 V U s/\I n U) (λn' s' h=>?_) n ⟨V2,U,g,hI⟩
 obtain ⟨V',U',g',hI'⟩:=h
 obtain ⟨r,U4,hn,hr⟩:=turn n' U' hI'
 refine mM hfree g' hn (g'.e0 i hil) λo s4 g4 ω ho=>?_
 cases r with
 | none=>cases o with
  | some _=>exact ho.elim
  | none=>exact wpAny_mono (TM.end hr g4) L.ok L.exc
 | some x=>cases o with
  | none=>exact ho.elim
  | some w=>
   exact iA g4 hr.1 (g'.e0 i hil) (wpAny_mono (TV1.go (t:=λenv v=>assign target env v) hr.2 g4 ho λV5 U5 ω s5 g5 ω ω h5=>L.body h5 g5 (λω h=>⟨h,h⟩) (λω h=>h) λω ω h=>h) (λω ω h=>h) L.exc)
theorem TS_For {iter:Expr}{body:List Stmt}(hfree:P.free=true)(hin:E.inner=false)(hs:∀V x,foldedSetIterable iter (E.conc V) x=pure x)
  (h:TE c P E iter (λa U1=>∃k n I,bK U1 a k/\I n (U1++[some (.iter k 0)])/\∀n' U',I n' U'->qz c P E (U1.length+1) target body orelse U1.length I Q X n' U') X U):TS c P E (.For target iter body orelse pos) Q X U:=by
 refine TM.mk λκ V0 s g=>wpAny_For (h.go g ?_) (hs _)
 rintro V1 U1 v s₁ g₁ e1 l1 ⟨a,ra,k,n,I,hi,hI,turn⟩
 refine mT g₁ ra hi λV2 s2 g2 e2=>?_
 rw [g2.env]
 have l:(U1++[some (AObj.iter k 0)]).length=U1.length+1:=List.length_append
 have hv:=g2.hv
 rw [l] at hv
 exact oR (LoopR.of hin g2 l) hfree (Nat.lt_succ_self _) ⟨g2.ok,g2.hh,g2.hv,g2.st,Ext.refl _ _,Nat.le_of_eq l.symm,rfl,hv⟩ hI turn
def rO (c:Cfg)(P:SP)(E:AEnv)(n0:Nat)(test:Expr)(body orelse:List Stmt)(I:Nat->Store->Prop)(Q:ai->Store->Prop)(X:XP)(n:Nat)(U:Store):Prop:=
 TT c P E test (λb U1=>if b then TSs c P E body (lU n0 I n Q) (bN E X) U1 else TSs c P E orelse Q (bN E X) U1) (bN E X) U
theorem uH {test:Expr}{body:List Stmt}(hin:E.inner=false)(I:Nat->Store->Prop)(n:Nat)(hI:I n U)
  (turn:∀n' U',I n' U'->rO c P E U.length test body orelse I Q X n' U'):TS c P E (.While test body orelse pos) Q X U:=by
 refine TM.mk λκ V0 s g=>wpAny_While ?_
 have L:=LoopR.of (Q:=Q) (X:=X) hin g rfl
 refine codeAny_whileLoop (λn s=>∃V U',Go c P E κ V0 U.length V U' s/\I n U') (λn' s' h=>?_) n ⟨V0,U,g,hI⟩
 obtain ⟨V',U',g',hI'⟩:=h
 refine wpAny_mono (TM.go (t:=λenv=>isTrue test env (eval test env)) (turn n' U' hI') g' λV1 U1 b s₁ g₁ ω ω h₁=>?_) (λω ω x=>x) L.exc
 cases b with
 | false=>exact wpAny_mono (TM.end (show TSs c P E orelse Q (bN E X) U1 from h₁) g₁) L.ok L.exc
 | true=>exact L.body (show TSs c P E body (lU U.length I n' Q) (bN E X) U1 from h₁) g₁ (λω h=>⟨h,h⟩) (λω h=>h) λω ω h=>h
end
end
section
noncomputable def ba (cells:List (Str×Nat)):List (Str×NameKind)->List (Str×Nat)->Option (List (Str×Nat))
 | [],acc=>some acc
 | (x,k)::r,acc=>if k == .free then (match cells.lookup x with
   | some i=>ba cells r ((x,i)::acc)
   | none=>none) else ba cells r acc
noncomputable def jl (scope:Scope)(E:AEnv):Scope:=
 {scope with names:=scope.names.map λ(n,k)=>if (k == .free&&E.scope.kind == .function&&E.scope.names.lookup n == some .cell) then (n,.cell) else (n,k)}
noncomputable def aY (E:AEnv)(scope:Scope)(cl:List (Str×Nat))(U:Store):AEnv×Store:=
 let r:=dg scope.names cl (U++[some (.frame [])])
 ({scope:=jl scope E,loc:=U.length,frame:=E.frame,cells:=r.1,qual:=E.qual,func:=.none,code:=E.code,inner:=true},r.2)
noncomputable def fi (scope:Scope):Bool:=scope.kind == .function&&scope.names.all λx=>!(x.2 == .local)||scope.names.lookup x.1 == some .local
section
variable {α:Type}{c:Cfg}{P:SP}{E:AEnv}{κ:KX}{V0 V:Nat->Addr}{n0 n:Nat}{U:Store}{s:Shared}{X:XP}
variable {cells cl:List (Str×Nat)}{names:List (Str×NameKind)}{scope:Scope}{Ex:Value->Shared->Prop}{acc n1 i C:Nat}{I:Nat->Store->Prop}{F:Fin->Shared->Prop}{target iter:Expr}{ifs:List Expr}{pos:Pos}{fin:Store->Prop}{R:Result->Shared->Prop}{use:Option (Env->Value->Sem Unit)}{Q:AVal->Store->Prop}
theorem jO {x:Str}{k:NameKind}{r:List (Str×NameKind)}{acc:List (Str×Nat)}(e:ba cells ((x,k)::r) acc=some cl) :
  ((k == .free)=true/\∃i,cells.lookup x=some i/\ba cells r ((x,i)::acc)=some cl)∨((k == .free)=false/\ba cells r acc=some cl):=by
 unfold ba at e
 cases hk:k == NameKind.free with
 | false=>rw [hk] at e;exact .inr ⟨rfl,e⟩
 | true=>
  rw [hk] at e
  cases hi:cells.lookup x with
  | none=>rw [hi] at e;exact nns e
  | some i=>rw [hi] at e;exact .inl ⟨rfl,i,rfl,e⟩
theorem nv (h:∀p∈cells,p.2<n):∀{acc cl:List (Str×Nat)},ba cells names acc=some cl->(∀p∈acc,p.2<n)->∀p∈cl,p.2<n:=by
 induction names with
 | nil=>intro acc cl e ha;exact Option.some.inj e▸ha
 | cons q r ih=>
  intro acc cl e ha
  rcases jO e with ⟨_,i,hi,e⟩ | ⟨_,e⟩
  ·obtain ⟨l1,l2,he,_⟩:=List.lookup_eq_some_iff.mp hi
   exact ih e λp hp=>(List.mem_cons.mp hp).elim (λe=>e▸h (q.1,i) (he▸List.mem_append_right _ (.head _))) (ha p)
  ·exact ih e ha
theorem nu (E:AEnv)(V:Nat->Addr):∀{acc cl:List (Str×Nat)},ba E.cells names acc=some cl->
  (forIn names (aM V acc) λx r=>(do
   let (name,kind):=x
   if kind == .free then do
    let a ←cellOf (E.conc V) name
    pure (ForInStep.yield ((name,a)::r))
   else pure (ForInStep.yield r):Sem (ForInStep (List (Str×Addr)))))=(pure (aM V cl):Sem (List (Str×Addr))):=by
 induction names with
 | nil=>intro acc cl e;exact Option.some.inj e▸rfl
 | cons q names ih=>
  intro acc cl e
  rw [List.forIn_cons]
  rcases jO e with ⟨hk,i,hi,e⟩ | ⟨hk,e⟩
  ·haveI hc:cellOf (E.conc V) q.1=pure (V i):=by
    haveI:(E.conc V).cells.lookup q.1=some (V i):=(ef _ _ _).trans (by rw [hi];rfl)
    unfold cellOf
    rw [this]
   dsimp only
   rw [if_pos hk,hc]
   exact ih e
  ·dsimp only
   rw [if_neg (Bool.eq_false_iff.mp hk)]
   exact ih e
theorem jN (E:AEnv)(V:Nat->Addr)(e:ba E.cells scope.names []=some cl):closureFor scope (E.conc V)=pure (aM V cl):=by
 unfold closureFor
 haveI:=nu E V e
 haveI h0:aM V []=[]:=rfl
 rw [h0] at this
 simp only [bind_pure_comp] at this ⊢
 first
  | (rw [this];rfl)
  | (simp only [this];rfl)
  | exact this
theorem sb (st:St κ V U s)(hv:E.Valid U.length)(hcl:∀p∈cl,p.2<U.length) :
  J c κ V U.length (newFunctionEnv scope mainGlobals (aM V cl) [] (E.conc V).qual none .none (some (E.conc V)))
   (λV' U'' env=>U''=(aY E scope cl U).2/\{env with scope:=relabel scope (E.conc V)}=(aY E scope cl U).1.conc V'/\env.locals=V' U.length/\(aY E scope cl U).1.Valid U''.length) X s:=by
 unfold newFunctionEnv
 simp only [Option.isSome_some,if_true]
 refine wpAny_bind (wpAny_alloc ?_)
 haveI e0:=ah V U.length s.heap.objs.size
 have st1:=St.push st (ao:=.frame []) (o:={cls:=.type "dict",data:=.dict #[]}) rfl ⟨#[],0,rfl,λω h=>by simp at h,λω=>trivial⟩ s.toks s.drawn
 have hcl1:∀p∈cl,p.2<(U++[some (AObj.frame [])]).length:=λp hp=>by rw [List.length_append];exact Nat.lt_of_lt_of_le (hcl p hp) (Nat.le_add_right _ _)
 obtain ⟨V1,e1,st2,hc,hl⟩:=pX scope.names cl _ _ _ st1 hcl1
 haveI hlen:=cz scope.names cl (U++[some (AObj.frame [])])
 haveI hlen':U.length<(dg scope.names cl (U++[some (AObj.frame [])])).2.length:=Nat.lt_of_lt_of_le (by simp) hlen
 have ex:Ext U.length V V1:=e0.trans (by simp) e1
 refine wpAny_bind (wpAny_layCells _ (λname kind cells=>by cases hkc:kind == NameKind.cell <;> simp [hkc]) _ _ _ _ ?_)
 have hcells:cellsFrom (s.heap.push {cls:=.type "dict",data:=.dict #[]}).objs.size scope.names (aM V cl)=(dg scope.names cl (U++[some (AObj.frame [])])).1.map λp=>(p.1,V1 p.2):=by
  rw [←hc]
  congr 1
  exact List.map_congr_left λp hp=>by rw [e0 _ (hcl p hp)]
 have hloc:V1 U.length=s.heap.objs.size:=by rw [e1 _ (by simp),ad]
 skip
 refine wpAny_bind (wpAny_pure (wpAny_pure ?_))
 haveI hE:=AEnv.conc_ext hv ex
 haveI h2:V1 E.frame=V E.frame:=ex _ hv.frame
 haveI h5:b9 V1 E.code=b9 V E.code:=by
  haveI:=hv.code
  cases hf:E.code with
  | loc i=>rw [hf] at this;show Value.ref (V1 i)=.ref (V i);rw [ex _ this]
  | _=>rfl
 refine ⟨V1,_,ex,Nat.le_of_lt hlen',st2,rfl,?_,hloc.symm,?_⟩
 ·unfold AEnv.conc aY
  dsimp only
  rw [hcells,hloc,h2,h5]
  rfl
 ·exact ⟨hlen',Nat.lt_trans hv.frame hlen',hl,trivial,hv.code.mono (Nat.le_of_lt hlen')⟩
def TIfs (c:Cfg)(P:SP)(E:AEnv)(ifs:List Expr)(Q:Bool->Store->Prop)(X:XP)(U:Store):Prop:=match ifs with
 | []=>Q true U
 | [t]=>TT c P E t Q X U
 | _=>False
def nN (n0:Nat)(I:Nat->Store->Prop)(n:Nat)(U:Store):Prop:=∃m,m<n/\I m U
def i6 (c:Cfg)(P:SP)(E:AEnv)(n0:Nat)(elt:Expr)(acc:Nat)(I:Nat->Store->Prop)(n:Nat)(b:Bool)(U3:Store):Prop:=
 if b then TE c P E elt (λx U4=>∃l,U4.at acc=some (.list l)/\l.length<lenLine/\nN n0 I n (U4.put acc (.list (l++[x])))) noX U3 else nN n0 I n U3
def gK (c:Cfg)(P:SP)(E:AEnv)(n0:Nat)(target:Expr)(ifs:List Expr)(elt:Expr)(i acc:Nat)(I:Nat->Store->Prop)(fin:Store->Prop)(n:Nat)(U:Store):Prop:=
 ∃r U1,nK i U r U1/\match r with
  | none=>fin U1
  | some a=>di target i U1=true/\TAsg c P E target a (λU2=>TIfs c P E ifs (i6 c P E n0 elt acc I n) noX U2) noX U1
theorem bF (f:Array Value->Array Value)(cls:Value)(xs:Array Value)(n:Nat):∃n',Obj.mapSeq f {cls:=cls,data:=.seq xs n}={cls:=cls,data:=.seq (f xs) n'}:=⟨_,rfl⟩
theorem iE {prog:Program}{w:World}{A:Around}{l:Addr}{items:Array Value}{ep:Nat}{x:Value}{Q:Value->Shared->Prop}(ho:s.heap.get? l=some {cls:=.type "list",data:=.seq items ep})
  (hQ:∀h' n',h'.get? l=some {cls:=.type "list",data:=.seq (items.push x) n'}->Heap.SameBut l s.heap h'->Q .none {s with heap:=h'}) (hsz:items.size<=sizeLine):wpAny (model prog w) A (call (.builtin "list.append") [.ref l,x]) Q Ex s:=by
 haveI hl:s.heap.IsList l items:=⟨_,ho,rfl,ep,rfl⟩
 refine wpAny_call_entry slot_list_append hl.typeIs entry_list_append ?_ (args_list_append _ _)
 show wpAny _ _ (updateSeq l (·.push x) >>= λω=>ret .none) _ _ s
 refine wpAny_bind ?_
 obtain ⟨n',e⟩:=bF (·.push x) (.type "list") items ep
 refine wpAny_updateSeq ho rfl (wpAny_pure ⟨.none,rfl,hQ _ n' ?_ (Heap.SameBut.update ..)⟩)
 rw [←e]
 exact Heap.get?_update_self _ ho (by rw [e];rfl)
theorem jq {e:Value}(h:Post κ V n (gX noX) e s):False:=by
 obtain ⟨_,_,_,_,_,_,_,_,x⟩:=h
 exact x
theorem jL {elt:Expr}{b:Bool}(g:Go c P E κ V0 n1 V U s)(hal:acc<n1)(h:i6 c P E n1 elt acc I n b U){C:Code}
  (hF:∀V' U' s',Go c P E κ V0 n1 V' U' s'->nN n1 I n U'->F (.again C) s'):wpAny (model κ.p κ.w) κ.A (if b=true then ((eval elt (E.conc V0) >>= λx=>call (.builtin "list.append") [.ref (V0 acc),x] >>= λω=>pure ()) >>= λω=>again C) else again C) F Ex s:=by
 cases b with
 | false=>exact wpAny_pure (hF _ _ _ g h)
 | true=>
  haveI h:TE c P E elt (λx U4=>∃l,U4.at acc=some (.list l)/\l.length<lenLine/\nN n1 I n (U4.put acc (.list (l++[x])))) noX U:=h
  refine wpAny_bind (wpAny_bind (wpAny_mono (TM.go h g (Q:=λv s4=>wpAny (model κ.p κ.w) κ.A (call (.builtin "list.append") [.ref (V0 acc),v]) (λω s5=>F (.again C) s5) Ex s4) λV4 U4 v s4 g4 e4 l4 hq=>?_) (λv s4 h4=>?_) λω ω h=>(jq h).elim))
  ·obtain ⟨x,rx,hq⟩:=hq
   obtain ⟨l,q1,q2,q3⟩:=hq
   obtain ⟨o4,go4,vs,ep4,rfl,rl⟩:=g4.st.obj _ _ q1
   rw [show V0 acc=V4 acc from (g4.e0 acc hal).symm]
   refine iE go4 (λh' n' il' hs'=>?_) (rl.fits (Nat.le_of_lt q2))
   haveI st5:=g4.st.upd q1 (ao':=.list (l++[x])) hs' ⟨_,il',vs++[v],n',by rw [List.push_toArray],rl.append (.cons rx .nil)⟩ s4.toks s4.drawn
   exact hF _ _ _ (g4.step (Ext.refl _ _) (Nat.le_of_eq (Store.put_length ..).symm) st5) q3
  ·exact wpAny_bind (wpAny_mono h4 (λω ω h=>wpAny_pure (wpAny_pure h)) λω ω h=>h)
theorem nq {elt:Expr}(hfree:P.free=true)(g:Go c P E κ V0 n1 V U s)(hil:i<n1)(hal:acc<n1)
  (t:gK c P E n1 target ifs elt i acc I fin n U) (hd:∀V' U' s',Go c P E κ V0 n1 V' U' s'->fin U'->F (.done .next) s')
  (ha:∀V' U' s',Go c P E κ V0 n1 V' U' s'->nN n1 I n U'->F (.again (.compLoop (.ListComp elt [⟨target,iter,ifs,0⟩] scope pos) 0 (.ref (V0 i)) (.ref (V0 acc)) (E.conc V0))) s') :
  wpAny (model κ.p κ.w) κ.A (compTurn (.ListComp elt [⟨target,iter,ifs,0⟩] scope pos) 0 (.ref (V0 i)) (.ref (V0 acc)) (E.conc V0)) F Ex s:=by
 obtain ⟨r,U1,hn,hr⟩:=t
 rw [compTurn_list]
 refine wpAny_bind (wpAny_standAt (wpAny_bind (mM hfree g hn (g.e0 i hil) λo s₁ g₁ hl1 ho=>?_)))
 cases r with
 | none=>cases o with
  | some _=>exact ho.elim
  | none=>exact wpAny_pure (hd _ _ _ g₁ hr)
 | some x=>cases o with
  | none=>exact ho.elim
  | some w=>
   obtain ⟨hown,hx⟩:=hr
   refine wpAny_bind (iA g₁ hown (g.e0 i hil) (wpAny_bind (wpAny_mono (TV1.go (t:=λenv v=>assign target env v) hx g₁ ho λV2 U2 ω s2 g2 ω ω h₂=>?_) (λω ω h=>h) λω ω h=>(jq h).elim)))
   haveI h₂:TIfs c P E ifs (i6 c P E n1 elt acc I n) noX U2:=h₂
   cases ifs with
   | nil=>exact wpAny_bind (wpAny_tests_nil (jL g2 hal h₂ ha))
   | cons t ts=>cases ts with
   | cons _ _=>exact h₂.elim
   | nil=>exact wpAny_bind (wpAny_tests_one (wpAny_mono (TM.go (t:=λenv=>isTrue t env (eval t env)) h₂ g2 λV3 U3 b s3 g3 ω ω h3=>jL g3 hal h3 ha) (λω ω h=>h) λω ω h=>(jq h).elim))
theorem nr {elt:Expr}(hfree:P.free=true)(g:Go c P E κ V n1 V U s)(hil:i<n1)(hal:acc<n1)
  (hI:I n U) (turn:∀n' U',I n' U'->gK c P E n1 target ifs elt i acc I fin n' U') (hR:∀V' U' s',Go c P E κ V n1 V' U' s'->fin U'->R (.ok .next) s') :
  codeAny (model κ.p κ.w) κ.A (.compLoop (.ListComp elt [⟨target,iter,ifs,0⟩] scope pos) 0 (.ref (V i)) (.ref (V acc)) (E.conc V)) R s:=by
 refine codeAny_loop rfl (λn s=>∃V' U',Go c P E κ V n1 V' U' s/\I n U') (λn' s' h=>?_) n ⟨V,U,g,hI⟩
 obtain ⟨V',U',g',hI'⟩:=h
 exact wpAny_noted (nq hfree g' hil hal (turn n' U' hI') hR λ_ _ _ g ⟨m,hm,h⟩=>⟨rfl,m,hm,_,_,g,h⟩)
theorem lO {elt:Expr}(hfree:P.free=true)(g:Go c P E κ V n1 V U s)(hil:i<n1)(hal:acc<n1)
  (hI:I n U) (turn:∀n' U',I n' U'->gK c P E n1 target ifs elt i acc I fin n' U') (hR:∀V' U' s',Go c P E κ V n1 V' U' s'->fin U'->R (.ok .next) s') :
  codeAny (model κ.p κ.w) κ.A (.compStart (.ListComp elt [⟨target,iter,ifs,0⟩] scope pos) 0 (.ref (V i)) (.ref (V acc)) (E.conc V)) R s:=by
 haveI loop:=nr (iter:=iter) (scope:=scope) (pos:=pos) hfree g hil hal hI turn hR
 obtain ⟨_,_,⟨k,j,xs,hi,hx,_⟩,_⟩:=turn n U hI
 obtain ⟨_,_,_,_,_,W,hst,_⟩:=sx g.ok hfree g.st hi hx
 exact codeAny_compStart_list loop (W.self _ _ _ _ hst loop)
def fB (c:Cfg)(P:SP)(E:AEnv)(use:Option (Env->Value->Sem Unit))(acc C:Nat)(Q:AVal->Store->Prop)(X:XP)(U:Store):Prop:=match use with
 | none=>(∃m,U.at C=some (.frame m))/\Q (.loc acc) (U.gone C)
 | some u=>TV1 c P E u (.loc acc) (gU λU'=>(∃m,U'.at C=some (.frame m))/\Q .none (U'.gone C)) X U
def CompAt (c:Cfg)(P:SP)(E:AEnv)(elt target:Expr)(ifs:List Expr)(scope:Scope)(use:Option (Env->Value->Sem Unit))(Q:AVal->Store->Prop)(X:XP)(a:AVal)(U1:Store):Prop:=
 ∃k cl n I,bK U1 a k/\ba E.cells scope.names []=some cl/\I n (aY E scope cl (U1++[some (.iter k 0)]++[some (.list [])])).2/\
  ∀n' U',I n' U'->gK c P (aY E scope cl (U1++[some (.iter k 0)]++[some (.list [])])).1 (aY E scope cl (U1++[some (.iter k 0)]++[some (.list [])])).2.length target ifs elt U1.length (U1.length+1) I (fB c P E use (U1.length+1) (U1.length+2) Q X) n' U'
theorem iM (E:AEnv)(scope:Scope)(cl:List (Str×Nat))(U:Store):U.length<(aY E scope cl U).2.length:=Nat.lt_of_lt_of_le (by rw [List.length_append];exact Nat.lt_succ_self _) (cz scope.names cl (U++[some (AObj.frame [])]))
theorem St.lostFrame (ok:κ.Ok c P)(st:St κ V U s){m:List (Str×AVal)}(h:U.at C=some (.frame m)):∃f,s.heap.Ns (V C) f/\∀h',Heap.SameBut (V C) s.heap h'->St κ V (U.gone C) {s with heap:=h'}:=by
 obtain ⟨f,hn,_⟩:=st.frameNs h
 exact ⟨f,hn,λh' hs=>st.lost ok h (λb o hb e=>(hs.2 b hb).trans e) s.toks s.drawn⟩
theorem pc {va:Value}{C':Addr}(hf:fB c P E use acc C Q X U)(g:Go c P E κ V0 n0 V U s)(hacl:acc<U.length)(hC:C<U.length)(ha:va=.ref (V acc))(hC':C'=V C) :
  compPost (model κ.p κ.w) κ.A (Post κ V0 n0 (gX X)) (use.map λu=>u (E.conc V0)) (Post κ V0 n0 (gV Q)) va C' (.ok .next) s:=by
 subst ha hC'
 cases use with
 | none=>
  obtain ⟨⟨m,hm⟩,hq⟩:=hf
  obtain ⟨f,hn,hl⟩:=g.st.lostFrame g.ok hm
  exact ⟨f,hn,λh' hs=>(g.step (Ext.refl _ _) (Nat.le_of_eq (Store.gone_length ..).symm) (hl h' hs)).doneV (a:=.loc acc) ⟨by rw [Store.gone_length];exact hacl,rfl⟩ hq⟩
 | some u=>
  refine TV1.go (t:=u) hf g ⟨hacl,rfl⟩ λV7 U7 ω s7 g7 e7 l7 hq=>?_
  obtain ⟨⟨m,hm⟩,hq⟩:=hq
  obtain ⟨f,hn,hl⟩:=g7.st.lostFrame g7.ok hm
  rw [e7 C hC] at hn hl
  exact ⟨f,hn,λh' hs=>(g7.step (Ext.refl _ _) (Nat.le_of_eq (Store.gone_length ..).symm) (hl h' hs)).doneV (a:=.none) rfl hq⟩
theorem uD {elt:Expr}{fpos:Pos}(hfree:P.free=true)(hsc:fi scope=true)(hs:∀V x,foldedSetIterable iter (E.conc V) x=pure x)
  (h:TE c P E iter (λa U1=>CompAt c P E elt target ifs scope use Q X a U1) X U) :
  TM c P E (λenv=>comprehension (.ListComp elt [⟨target,iter,ifs,0⟩] scope pos) scope env fpos (newList []) false (eval iter env) (use.map λu=>u env)) (gV Q) X U:=by
 obtain ⟨hk,hn⟩:=Bool.and_eq_true_iff.mp hsc
 haveI hnames:∀x∈scope.names,x.2=.local->scope.names.lookup x.1=some .local:=λx hx hl=>by
  haveI:=List.all_eq_true.mp hn x hx
  rw [hl] at this
  exact eq_of_beq this
 refine TM.mk λκ V0 s g=>?_
 cases hcl:ba E.cells scope.names [] with
 | none=>exact wpAny_bind (wpAny_mono (h.go g (Q:=λω ω=>False) λV1 U1 v s₁ g₁ e1 l1 hq=>by
  obtain ⟨a,ra,hq⟩:=hq
  obtain ⟨k,cl,n,I,hi,hcl',_⟩:=hq
  exact nns (hcl.symm.trans hcl')) (λω ω h=>h.elim) λω ω h=>h)
 | some cl=>
 refine wpAny_comprehension_free (cl:=aM V0 cl) rfl (hs _) (jN E V0 hcl) (eq_of_beq hk) hnames (h.go g λV1 U1 v s₁ g₁ e1 l1 hq=>?_)
 refine rq λG hG=>?_
 obtain ⟨a,ra,hq⟩:=hq
 obtain ⟨k,cl',n,I,hi,hcl',hI,turn⟩:=hq
 cases Option.some.inj (hcl.symm.trans hcl')
 refine hG ?_
 refine mT g₁ ra hi λV2 s2 g2 e2=>?_
 skip
 refine wpAny_newObj_type ?_ (show (0:Nat)<=sizeLine from Nat.zero_le _)
 haveI l2:(U1++[some (AObj.iter k 0)]).length=U1.length+1:=List.length_append
 have l3:(U1++[some (AObj.iter k 0)]++[some (AObj.list [])]).length=U1.length+2:=List.length_append.trans (congrArg Nat.succ l2)
 haveI e3:=ah V2 (U1++[some (AObj.iter k 0)]).length s2.heap.objs.size
 haveI st3:=St.push g2.st (ao:=.list []) (o:={cls:=.type "list",data:=.seq (List.toArray [])}) rfl ⟨[],_,rfl,.nil⟩ s2.toks s2.drawn
 have g3:=g2.step e3 (by rw [l2,l3];exact Nat.le_succ _) st3
 haveI hclt:∀p∈cl,p.2<U.length:=nv g.hv0.cells hcl (λp hp=>(List.not_mem_nil hp).elim)
 rw [show aM V0 cl=aM (aw V2 (U1++[some (AObj.iter k 0)]).length s2.heap.objs.size) cl from (du g3.e0 hclt).symm,g3.env]
 refine (sb (c:=c) (X:=X) (scope:=scope) g3.st g3.hv λp hp=>Nat.lt_of_lt_of_le (hclt p hp) g3.l0).go g3 λV4 U4 env s4 g4 e4 l4 hq=>?_
 obtain ⟨hU4,henv,hloc,hv4⟩:=hq
 subst hU4
 rw [henv,←g3.env]
 haveI lc:=iM E scope cl (U1++[some (AObj.iter k 0)]++[some (AObj.list [])])
 rw [l3] at lc hloc e4
 haveI e5:aw V2 (U1++[some (AObj.iter k 0)]).length s2.heap.objs.size U1.length=V2 U1.length:=e3 _ (by rw [l2];exact Nat.lt_succ_self _)
 haveI q0:V2 U1.length=V4 U1.length:=by rw [e4 _ (Nat.lt_succ_of_lt (Nat.lt_succ_self _)),e5]
 haveI q1:s2.heap.objs.size=V4 (U1.length+1):=by rw [e4 _ (Nat.lt_succ_self _),l2,ad]
 rw [q0,q1]
 refine rq λG hG=>?_
 obtain ⟨F,f1,f2,f3,_⟩:=g4.hh.top
 refine hG ?_
 refine lO hfree ⟨g4.ok,⟨F,f1,f2,f3,λq=>nomatch q⟩,hv4,g4.st,Ext.refl _ _,Nat.le_refl _,rfl,hv4⟩ (Nat.lt_trans (Nat.lt_succ_of_lt (Nat.lt_succ_self _)) lc) (Nat.lt_trans (Nat.lt_succ_self _) lc) hI turn λV' U' s' g5 hf=>?_
 exact pc hf (g4.step g5.e0 g5.l0 g5.st) (Nat.lt_of_lt_of_le (Nat.lt_trans (Nat.lt_succ_self _) lc) g5.l0) (Nat.lt_of_lt_of_le lc g5.l0) (by rw [g5.e0 _ (Nat.lt_trans (Nat.lt_succ_self _) lc)]) (by rw [g5.e0 _ lc,hloc])
end
end
section
section
variable {α:Type}{c:Cfg}{P:SP}{E:AEnv}{κ:KX}{V0 V:Nat->Addr}{n0 n:Nat}{U:Store}{s:Shared}{X:XP}
variable {target iter:Expr}{ifs:List Expr}{scope:Scope}{pos:Pos}
theorem da {elt:Expr}{Q:AVal->Store->Prop}(hfree:P.free=true)(hsc:fi scope=true)(hs:∀V x,foldedSetIterable iter (E.conc V) x=pure x)
  (h:TE c P E iter (λa U1=>CompAt c P E elt target ifs scope none Q X a U1) X U):TE c P E (.ListComp elt [⟨target,iter,ifs,0⟩] scope pos) Q X U:=by
 refine TM.mk λκ V0 s g=>?_
 rw [eval_ListComp]
 exact TM.end (uD (pos:=pos) (fpos:=firstIterPos [⟨target,iter,ifs,0⟩] pos) hfree hsc hs h) g
theorem kj {x:Str}{npos:Pos}{elt:Expr}{cpos:Pos}{Q:ai->Store->Prop}(hfree:P.free=true)(hsc:fi scope=true)(hs:∀V x,foldedSetIterable iter (E.conc V) x=pure x)
  (hsw:∀V,swapsWithSole [.Name x npos] (.ListComp elt [⟨target,iter,ifs,0⟩] scope cpos) pos.line (E.conc V)=pure true)
  (h:TE c P E iter (λa U1=>CompAt c P E elt target ifs scope (some λenv v=>assignAll v ((assignEach [.Name x npos] env).map (·.2))) (λω U2=>Q .next U2) X a U1) X U) :
  TS c P E (.Assign [.Name x npos] (.ListComp elt [⟨target,iter,ifs,0⟩] scope cpos) pos) Q X U:=by
 refine TM.mk λκ V0 s g=>?_
 rw [arm_exec_Assign,hsw]
 refine wpAny_bind (wpAny_standAt (wpAny_bind (wpAny_pure ?_)))
 rw [if_pos rfl,arm_evalThenUse_ListComp]
 refine wpAny_bind (wpAny_bind (TM.go (uD (pos:=cpos) (fpos:=firstIterPos [⟨target,iter,ifs,0⟩] cpos) hfree hsc hs h) g ?_))
 rintro V1 U1 v s₁ g₁ e1 l1 ⟨a,ra,hq⟩
 exact wpAny_pure (wpAny_pure (g₁.doneF (a:=.next) rfl hq))
end
end
section
def fA (c:Cfg)(fv cls:Value):Prop:=∀(prog:Program) (w:World) (A:Around) (Ex:Value->Shared->Prop) (s:Shared) (env:Env) (x:Str) (np cpos pos:Pos) (args:List Expr) (Q:Flow->Shared->Prop),A.handled=none->(backTo cpos (starEach args env)).any (·.1)=false->
 wpAny (model prog w) A (eval (.Name x np) env) (λf s₁=>f=fv/\wpAny (model prog w) A (evalArgs fv true (backTo cpos (starEach args env)) [])
   (λa s2=>a.kw=[]/\a.pos.length<=sizeLine/\(c.K w.params).In s2.heap/\∀h' e,Heap.MadeExcOf s2.heap h' e cls a.pos->Ex (.ref e) {s2 with heap:=h'}) Ex s₁) Ex s->
 wpAny (model prog w) A (exec (.Raise (some (.Call (.Name x np) args [] cpos)) none pos) env) Q Ex s
theorem jZ {c:Cfg}{cls newId initId:String}(F:ExcCallFacts cls newId initId)(G:ExcRaiseFacts cls):fA c (.type cls) (.type cls):=by
 intro prog w A Ex s env x np cpos pos args Q hh hplain h
 refine wpAny_Raise_call F G hh hplain (wpAny_mono h (λf s₁ h₁=>⟨h₁.1,wpAny_mono h₁.2 (λa s2 h₂=>?_) λω ω x=>x⟩) λω ω x=>x)
 obtain ⟨h1,h2,h3,h4⟩:=h₂
 exact ⟨h1,h2,λh' e hm=>h4 h' e ⟨hm.keeps,hm.new,hm.there⟩⟩
def a8 (c:Cfg)(cls spec:Value)(b:Bool):Prop:=∀(prog:Program) (w:World) (h:Heap) (e:Addr),(c.K w.params).In h->(∃o,h.get? e=some o/\o.cls=cls)->Looks (model prog w) h (excMatches (.ref e) spec) b
section
variable {c:Cfg}{P:SP}{E:AEnv}{κ:KX}{V0 V:Nat->Addr}{n0 n:Nat}{U:Store}{s:Shared}{X:XP}
variable {h':Heap}{e:Addr}{cls:Value}{pos:Pos}{Q:ai->Store->Prop}{j:Nat}{Ex:Value->Shared->Prop}{hs:List ExceptHandler}
theorem lh (ok:κ.Ok c P)(st:St κ V U s)(hk:∀b o,s.heap.get? b=some o->h'.get? b=some o):4<=h'.objs.size:=by
 obtain ⟨mg,mb,T⟩:=ok.T
 obtain ⟨o,_,_,g,_⟩:=T.g
 exact Nat.le_of_lt_succ (Nat.succ_lt_succ (Heap.lt_size (hk _ _ (st.top ok _ _ g))))
theorem oE (g:Go c P E κ V0 n0 V U s){args:List Value}(hm:Heap.MadeExcOf s.heap h' e cls args)(hX:X U.length (U++[some (.exc cls none)])):Post κ V0 n0 (gX X) (.ref e) {s with heap:=h'}:=by
 obtain ⟨t,ht,_,_⟩:=hm.there
 have ex:=ah V U.length e
 have st1:=g.st.newAt (ao:=.exc cls none) (h':=h') hm.new trivial hm.keeps ht ⟨rfl,_,.ref t,rfl,rfl,rfl⟩ (lh g.ok g.st hm.keeps) s.toks s.drawn
 exact (g.step ex (by simp) st1).done ⟨U.length,by simp,by rw [ad],hX⟩
theorem ny {x:Str}{np cpos:Pos}{args:List Expr}{fv:Value}(hfree:P.free=true)(R:fA c fv cls)(hx:a7 x=true/\E.scope.kind=.function/\kV c E x U (.top fv))
  (hplain:∀env,(backTo cpos (starEach args env)).any (·.1)=false)
  (h:bM c P E cpos args [] (λas ks U1=>ks=[]/\as.length<=lenLine/\X U1.length (U1++[some (.exc cls none)])) X U):TS c P E (.Raise (some (.Call (.Name x np) args [] cpos)) none pos) Q X U:=by
 refine TM.mk λκ V0 s g=>R _ _ _ _ _ _ _ _ _ _ _ _ (g.ok.handled hfree) (hplain _) ?_
 have hn:TE c P E (.Name x np) (λa U1=>a=.top fv/\U1=U) X U:=fy hx.1 hx.2.1 hx.2.2 ⟨rfl,rfl⟩
 refine hn.go g ?_
 rintro V1 U1 v s₁ g₁ e1 l1 ⟨a,ra,rfl,rfl⟩
 cases ra
 refine ⟨rfl,TM.go (h fv) g₁ ?_⟩
 rintro V2 U2 av s2 g2 e2 l2 ⟨as,ks,ras,rks,rfl,hlen,hX⟩
 refine ⟨?_,by rw [←All2.length ras];exact Nat.le_trans hlen aj,g2.st.inK g2.ok,λh' e hm=>oE g2 hm hX⟩
 cases hk:av.kw with
 | nil=>rfl
 | cons a b=>rw [hk] at rks;cases rks
noncomputable def KX.marked (κ:KX)(e:Option Value):KX:={κ with A:=κ.A.mark e}
noncomputable def SP.held (P:SP):SP:={P with free:=false}
theorem KX.Ok.marked (ok:κ.Ok c P)(e:Option Value):(κ.marked e).Ok c P.held:=⟨ok.cfg,ok.keepG,ok.frG,ok.X,ok.T,ok.tabs,ok.bmain,ok.depth,ok.units,(λq=>nomatch q),ok.frames⟩
theorem St.marked {e:Option Value}(st:St κ V U s):St (κ.marked e) V U s:=⟨st.keep,st.obj,st.new,st.inj,st.bare,st.os,st.low,st.big⟩
theorem St.unmarked {e:Option Value}(st:St (κ.marked e) V U s):St κ V U s:=⟨st.keep,st.obj,st.new,st.inj,st.bare,st.os,st.low,st.big⟩
theorem Go.marked (g:Go c P E κ V0 n0 V U s)(e:Option Value):Go c P.held E (κ.marked e) V0 n0 V U s:=⟨g.ok.marked e,⟨g.hh.top⟩,g.hv,g.st.marked,g.e0,g.l0,g.env,g.hv0⟩
theorem Post.unmarked {α:Type}{G:(Nat->Addr)->Store->α->Prop}{r:α}{e:Option Value}(h:Post (κ.marked e) V n G r s):Post κ V n G r s:=by
 obtain ⟨V',U',ex,l,st,hG⟩:=h
 exact ⟨V',U',ex,l,st.unmarked,hG⟩
inductive et (c:Cfg)(P:SP)(E:AEnv)(j:Nat)(Q:ai->Store->Prop):List ExceptHandler->Store->Prop
 | yes {t:Expr} {b0:Stmt} {suite:List Stmt} {pos:Pos} {rest:List ExceptHandler} {spec cls:Value} {tb:Option Nat} {U U2:Store} (hn:TE c P.held E t (λa U1=>a=.top spec/\U1=U) noX U) (hj:U.at j=some (.exc cls tb)) (hm:a8 c cls spec true)
  (hf:dv U j none U2) (hb:TSs c P.held E (b0::suite) Q noX U2):et c P E j Q (.ExceptHandler (some t) none (b0::suite) pos::rest) U
 | no {t:Expr} {suite:List Stmt} {pos:Pos} {rest:List ExceptHandler} {spec cls:Value} {tb:Option Nat} {U:Store} (hn:TE c P.held E t (λa U1=>a=.top spec/\U1=U) noX U) (hj:U.at j=some (.exc cls tb)) (hm:a8 c cls spec false)
  (h:et c P E j Q rest U):et c P E j Q (.ExceptHandler (some t) none suite pos::rest) U
theorem pJ {t:Expr}{spec:Value}{tb:Option Nat}{b:Bool}(g:Go c P E κ V0 n0 V U s)(hn:TE c P.held E t (λa U1=>a=.top spec/\U1=U) noX U)(hj:U.at j=some (.exc cls tb))(hm:a8 c cls spec b){F:Bool->Shared->Prop}(he:V j=e)
  (k:∀V1 s₁,Go c P E κ V0 n0 V1 U s₁->V1 j=e->F b s₁):wpAny (model κ.p κ.w) (κ.A.mark (some (.ref e))) (eval t (E.conc V0)) (λv s₁=>wpAny (model κ.p κ.w) (κ.A.mark (some (.ref e))) (excMatches (.ref e) v) F Ex s₁) Ex s:=by
 refine wpAny_mono (TM.go hn (g.marked (some (.ref e))) λV1 U1 v s₁ g₁ e1 l1 hq=>?_) (λω ω h=>h) λω ω h=>(jq h).elim
 obtain ⟨a,ra,ha,hs⟩:=hq
 subst ha hs
 cases ra
 obtain ⟨oe,ge,hc,_⟩:=g₁.st.obj _ _ hj
 have hje:V1 j=e:=(e1 j (Store.at_lt hj)).trans he
 rw [hje] at ge
 exact (hm κ.p κ.w s₁.heap e (St.inK (κ:=κ.marked (some (.ref e))) g₁.ok g₁.st) ⟨oe,ge,hc⟩).here (k V1 s₁ ⟨g.ok,⟨g₁.hh.top⟩,g₁.hv,g₁.st.unmarked,g₁.e0,g₁.l0,g₁.env,g₁.hv0⟩ hje)
theorem sJ {b0:Stmt}{suite:List Stmt}{U2:Store}(g:Go c P E κ V0 n0 V U s)(hf:dv U j none U2)(hb:TSs c P.held E (b0::suite) Q noX U2)(he:V j=e){R:Result->Shared->Prop}
  (hR:∀f s',Post κ V0 n0 (gF Q) f s'->R (.ok f) s'):codeAny (model κ.p κ.w) (κ.A.mark (some (.ref e))) (.handlers (.ref e) [.ExceptHandler none none (b0::suite) pos] (E.conc V0)) R s:=by
 have gm:=g.marked (some (.ref e))
 exact codeAny_handlers_suite (gH (κ:=κ.marked (some (.ref e))) (fl:=none) gm.st hf (λω q=>nns q) he λs' st'=>
  wpAny_mono (TM.end hb (gm.step (Ext.refl _ _) (Nat.le_of_eq (bJ hf).symm) st')) (λf s2 hp=>hR f s2 hp.unmarked) λω ω h=>(jq h).elim)
theorem rA (h:et c P E j Q hs U):∀{V:Nat->Addr} {s:Shared} {e:Addr},Go c P E κ V0 n0 V U s->V j=e->wpAny (model κ.p κ.w) κ.A (handleBy (.ref e) (E.conc V0) hs) (Post κ V0 n0 (gF Q)) Ex s:=by
 induction h with
 | yes hn hj hm hf hb=>exact λ{V s e} g he=>wpAny_handleBy_cons (codeAny_handlers_test (pJ g hn hj hm he λV1 s₁ g₁ h₁=>sJ g₁ hf hb h₁ λω ω h=>h)) (by intro q;cases q)
 | no hn hj hm _ ih=>exact λ{V s e} g he=>wpAny_handleBy_cons (codeAny_handlers_test (pJ g hn hj hm he λV1 s₁ g₁ h₁=>ih g₁ h₁)) (by intro q;cases q)
noncomputable def TryX (c:Cfg)(P:SP)(E:AEnv)(hs:List ExceptHandler)(Q:ai->Store->Prop):XP:=λj U=>∃U1 U2 m,fK U E.frame j U1/\U.at E.frame=some (.frame m)/\dv U1 j none U2/\et c P E j Q hs U2
theorem uI {body orelse:List Stmt}{h₀:ExceptHandler}(hin:E.inner=false)
  (h:TSs c P E body (λfl U1=>match fl with | .next=>TSs c P E orelse Q X U1 | f=>Q f U1) (TryX c P E (h₀::hs) Q) U):TS c P E (.Try body (h₀::hs) orelse [] pos) Q X U:=by
 refine TM.mk λκ V0 s g=>wpAny_Try_except ?_
 refine wpAny_mono (TM.go h g (Q:=λf s₁=>match f with | .next=>wpAny (model κ.p κ.w) κ.A (execs orelse (E.conc V0)) (Post κ V0 U.length (gF Q)) (Post κ V0 U.length (gX X)) s₁ | f=>Post κ V0 U.length (gF Q) f s₁) ?_) (λf s₁ h₁=>?_) ?_
 ·rintro V1 U1 f s₁ g₁ e1 l1 ⟨fl,rf,hq⟩
  cases fl with
  | next=>cases rf;exact TM.end hq g₁
  | brk=>cases rf;exact g₁.doneF (a:=.brk) rfl hq
  | cont=>cases rf;exact g₁.doneF (a:=.cont) rfl hq
  | ret a=>obtain ⟨v,rfl,r⟩:=rf;exact g₁.doneF (a:=.ret a) ⟨v,rfl,r⟩ hq
 ·cases f <;> exact h₁
 ·rintro e s₁ ⟨V1,U1,e1,l1,st1,j,hj,rfl,U2,U3,m,h1,h2,h3,h4⟩
  have g₁:=g.step e1 l1 st1
  rw [g₁.env]
  refine pC g.ok g₁.hh hin st1 h1 h2 λV2 s2 e2 st2=>?_
  have l2:=ed h1
  have hje:V1 j=V2 j:=(e2 j hj).symm
  have g2:=g₁.step e2 l2 st2
  refine gH (fl:=none) st2 h3 (λω q=>nns q) hje.symm λs3 st3=>?_
  rw [←g₁.env]
  exact rA h4 (g2.step (Ext.refl _ _) (Nat.le_of_eq (bJ h3).symm) st3) hje.symm
end
end
section
def OPc (c:Cfg)(P:SP)(f:Value)(args:List AVal)(Q:AVal->Store->Prop)(X:XP)(U:Store):Prop:=
 ∀κ V s vs,κ.Ok c P->St κ V U s->VRs V U.length args vs->J c κ V U.length (call f vs []) (gV Q) X s
section
variable {c:Cfg}{P:SP}{E:AEnv}{κ:KX}{V0 V:Nat->Addr}{n0 n:Nat}{U:Store}{s:Shared}{X:XP}
section
variable {f:Value}{a b d:AVal}{i:Nat}{Q:AVal->Store->Prop}
theorem OPc.of1 (h:∀κ V s v,κ.Ok c P->St κ V U s->VR V U.length a v->J c κ V U.length (call f [v] []) (gV Q) X s):OPc c P f [a] Q X U:=λκ V s ω ok st hv=>hv.uncons λv ω ra rs=>rs.unnil (h κ V s v ok st ra)
theorem OPc.of2 (h:∀κ V s v w,κ.Ok c P->St κ V U s->VR V U.length a v->VR V U.length b w->J c κ V U.length (call f [v,w] []) (gV Q) X s):OPc c P f [a,b] Q X U:=λκ V s ω ok st hv=>hv.uncons λv ω ra rs=>rs.uncons λw ω rb rs=>rs.unnil (h κ V s v w ok st ra rb)
theorem OPc.of3 (h:∀κ V s v w x,κ.Ok c P->St κ V U s->VR V U.length a v->VR V U.length b w->VR V U.length d x->J c κ V U.length (call f [v,w,x] []) (gV Q) X s):OPc c P f [a,b,d] Q X U:=λκ V s ω ok st hv=>hv.uncons λv ω ra rs=>rs.uncons λw ω rb rs=>rs.uncons λx ω rd rs=>rs.unnil (h κ V s v w x ok st ra rb rd)
theorem OPc.of1L (h:∀κ V s,κ.Ok c P->St κ V U s->i<U.length->J c κ V U.length (call f [.ref (V i)] []) (gV Q) X s):OPc c P f [.loc i] Q X U:=.of1 λκ V s ω ok st r=>r.2▸h κ V s ok st r.1
theorem OPc.of2L (h:∀κ V s w,κ.Ok c P->St κ V U s->i<U.length->VR V U.length b w->J c κ V U.length (call f [.ref (V i),w] []) (gV Q) X s):OPc c P f [.loc i,b] Q X U:=.of2 λκ V s ω w ok st r rb=>r.2▸h κ V s w ok st r.1 rb
theorem OPc.of3L (h:∀κ V s w x,κ.Ok c P->St κ V U s->i<U.length->VR V U.length b w->VR V U.length d x->J c κ V U.length (call f [.ref (V i),w,x] []) (gV Q) X s):OPc c P f [.loc i,b,d] Q X U:=.of3 λκ V s ω w x ok st r rb rd=>r.2▸h κ V s w x ok st r.1 rb rd
end
theorem TCall.op {f:Value}{args:List AVal}{Q:AVal->Store->Prop}(h:OPc c P f args Q X U):TCall c P E (.top f) args [] Q X U:=by
 intro κ V s vf vs ks ok hh hv st hf ha hk
 cases hf;cases hk
 exact h κ V s vs ok st ha
theorem dI (st:St κ V U s){U':Store}{s':Shared}{a:AVal}{v:Value}{Q:AVal->Store->Prop}(st':St κ V U' s')(l:U'.length=U.length)(r:VR V U.length a v)(q:Q a U'):Post κ V U.length (gV Q) v s':=
 ⟨V,U',Ext.refl _ _,Nat.le_of_eq l.symm,st',a,by rw [l];exact r,q⟩
theorem dC (st:St κ V U s){o:Obj}{ao:AObj}{Q:AVal->Store->Prop}(tk:Nat)(hf:o.isFreed=false)(r:OR κ.p κ.w (aw V U.length s.heap.objs.size) (U.length+1) ao o)(q:Q (.loc U.length) (U++[some ao]))(hw:autoParam (∀a,4<=a->ao.need a) auN) :
  Post κ V U.length (gV Q) (.ref s.heap.objs.size) {s with heap:=s.heap.push o,toks:=tk}:=
 ⟨_,_,ah V U.length s.heap.objs.size,by simp,St.push st hf r tk s.drawn hw,.loc U.length,⟨by simp,by rw [ad]⟩,q⟩
theorem jF (ok:κ.Ok c P)(st:St κ V U s){h':Heap}{a:Addr}{o:Obj}{ao:AObj}{Q:AVal->Store->Prop}(tk:Nat)(hk:∀b o,s.heap.get? b=some o->h'.get? b=some o)(hn:s.heap.get? a=none)(ho:h'.get? a=some o)(hd:∀a,ao.need a)
  (r:OR κ.p κ.w (aw V U.length a) (U.length+1) ao o) (q:Q (.loc U.length) (U++[some ao])):Post κ V U.length (gV Q) (.ref a) {s with heap:=h',toks:=tk}:=
 ⟨_,_,ah V U.length a,by simp,St.newAt st hn (hd _) hk ho r (lh ok st hk) tk s.drawn,.loc U.length,⟨by simp,by rw [ad]⟩,q⟩
inductive vg (U:Store):AVal->Nat->Prop
 | str {x:Str} (h:x.length<=lenLine):vg U (.str x) x.length
 | bytes {x:Array UInt8} (h:x.size<=lenLine):vg U (.bytes x) x.size
 | list {i:Nat} {l:List AVal} (hi:U.at i=some (.list l)) (h:l.length<=lenLine):vg U (.loc i) l.length
 | tuple {i:Nat} {l:List AVal} (hi:U.at i=some (.tuple l)) (h:l.length<=lenLine):vg U (.loc i) l.length
theorem eP {n:Nat}(h:n<=lenLine):(n:Int)<2 ^ 63:=by
 have:(n:Int)<=1000000:=by unfold lenLine at h;omega
 omega
theorem lz {a:AVal}{n:Nat}{Q:AVal->Store->Prop}(h:vg U a n)(q:Q (.int n) U):OPc c P (.builtin "len") [a] Q X U:=by
 refine OPc.of1 λκ V s xv ok st ra=>?_
 have fin:∀tk,Post κ V U.length (gV Q) (.int n (s.toks+1)) {s with toks:=tk}:=λtk=>dI (a:=.int n) st (st.toks tk s.drawn) rfl ⟨_,rfl⟩ q
 cases h with
 | str hl=>
  obtain ⟨t,rfl⟩:=ra
  exact PySem.P.len_str (by have:=eP hl;omega) (fin _)
 | bytes hl=>
  obtain ⟨t,rfl⟩:=ra
  exact PySem.W.len_bytes (Nat.le_trans hl (by decide)) (fin _)
 | list hi hl=>
  obtain ⟨_,rfl⟩:=ra
  obtain ⟨vs,il,rl⟩:=st.isList hi
  refine call_len_list il (by rw [List.size_toArray,←All2.length rl];exact eP hl) ?_
  rw [List.size_toArray,←All2.length rl]
  exact fin _
 | tuple hi hl=>
  obtain ⟨_,rfl⟩:=ra
  obtain ⟨vs,il,rl⟩:=st.isTuple hi
  refine PyProof.Rows.len_tuple il (by rw [List.size_toArray,←All2.length rl];exact eP hl) ?_
  rw [List.size_toArray,←All2.length rl]
  exact fin _
theorem qU {n:Int}{Q:AVal->Store->Prop}(q:Q (.loc U.length) (U++[some (.range 0 n 1)])):OPc c P (.type "range") [.int n] Q X U:=by
 refine OPc.of1 λκ V s xv ok st ra=>?_
 obtain ⟨t,rfl⟩:=ra
 exact call_range_1 (dC (ao:=.range 0 n 1) st _ rfl ⟨_,_,_,rfl⟩ q)
theorem qT {a b d:Int}{Q:AVal->Store->Prop}(hd:d≠0)(hp:Builtin.divisionGoesByPylong (b - a) d=false)(q:Q (.loc U.length) (U++[some (.range a b d)])):OPc c P (.type "range") [.int a,.int b,.int d] Q X U:=by
 refine OPc.of3 λκ V s xv yv zv ok st ra rb rd=>?_
 obtain ⟨t,rfl⟩:=ra
 obtain ⟨u,rfl⟩:=rb
 obtain ⟨v,rfl⟩:=rd
 exact call_range_3 (hp:=.inl hp) hd (dC (ao:=.range a b d) st _ rfl ⟨_,_,_,rfl⟩ q)
theorem qW {i:Nat}{l:List AVal}{x:AVal}{Q:AVal->Store->Prop}(hi:U.at i=some (.list l))(hl:l.length<=lenLine)(q:Q .none (U.put i (.list (l++[x])))):OPc c P (.builtin "list.append") [.loc i,x] Q X U:=by
 refine OPc.of2L λκ V s v ok st ω rx=>?_
 obtain ⟨o,go,vs,ep,ho,rl⟩:=st.obj _ _ hi
 subst ho
 refine iE go (λh' n' il' hs'=>?_) (by rw [List.size_toArray,←All2.length rl];exact Nat.le_trans hl aj)
 exact dI (a:=.none) st (st.upd hi (ao':=.list (l++[x])) hs' ⟨_,il',vs++[v],n',by simp,rl.append (.cons rx .nil)⟩ s.toks s.drawn) (by simp) rfl q
theorem All2.dropLast {α β:Type}{R:α->β->Prop}{l:List α}{m:List β}(h:All2 R l m):All2 R l.dropLast m.dropLast:=by
 induction h with
 | nil=>exact .nil
 | cons r t ih=>cases t with
  | nil=>exact .nil
  | cons r' t'=>exact .cons r ih
theorem op_pop {i:Nat}{l:List AVal}{x:AVal}{Q:AVal->Store->Prop}(hi:U.at i=some (.list l))(hl:l.length<=lenLine)(hx:l[l.length - 1]? = some x)(q:Q x (U.put i (.list l.dropLast))):OPc c P (.builtin "list.pop") [.loc i] Q X U:=by
 refine OPc.of1L λκ V s ok st ω=>?_
 obtain ⟨o,go,vs,ep,ho,rl⟩:=st.obj _ _ hi
 subst ho
 obtain ⟨y,hy,ry⟩:=All2.get rl hx
 have hlen:=All2.length rl
 have hsz:(List.toArray vs).size<=sizeLine:=by rw [List.size_toArray,←hlen];exact Nat.le_trans hl aj
 refine call_meets PySem.F.slot_list_pop ⟨_,go,rfl⟩ PySem.F.entry_list_pop (PySem.F.args_list_pop_1 _) (PySem.MeetsSeq.list_pop_last (V i) (List.toArray vs) ep y (by rw [List.size_toArray,←hlen];simpa using hy) hsz) ⟨go,?_⟩
 obtain ⟨n',e⟩:=bF (λxs=>xs.eraseIdxIfInBounds ((List.toArray vs).size - 1)) (.type "list") (List.toArray vs) ep
 have hne:0<vs.length:=by
  cases vs with
  | nil=>cases hlen▸hy
  | cons _ _=>simp
 have e2:(List.toArray vs).eraseIdxIfInBounds ((List.toArray vs).size - 1)=List.toArray vs.dropLast:=by
  apply Array.toList_inj.mp
  have:vs.length - 1<vs.length:=Nat.sub_lt hne Nat.one_pos
  simp [Array.eraseIdxIfInBounds,this]
 exact dI (a:=x) st (st.upd hi (ao':=.list l.dropLast) (Heap.SameBut.update ..) ⟨_,Heap.get?_update_self _ go (by rw [e];rfl),vs.dropLast,n',by rw [e,e2],All2.dropLast rl⟩ s.toks s.drawn) (by simp) ry q
theorem tH {i:Nat}{l:List AVal}{Q:AVal->Store->Prop}(hi:U.at i=some (.list l))(hl:l.length<=lenLine)(q:Q .none (U.put i (.list []))):OPc c P (.builtin "list.clear") [.loc i] Q X U:=by
 refine OPc.of1L λκ V s ok st ω=>?_
 obtain ⟨o,go,vs,ep,ho,rl⟩:=st.obj _ _ hi
 subst ho
 have hsz:(List.toArray vs).size<=sizeLine:=by rw [List.size_toArray,←All2.length rl];exact Nat.le_trans hl aj
 refine call_meets PySem.F.slot_list_clear ⟨_,go,rfl⟩ PySem.F.entry_list_clear (PySem.F.args_list_clear_1 _) (PySem.AutoSeq1.list_clear_list_0 (V i) (List.toArray vs) ep hsz) ⟨go,?_⟩
 obtain ⟨n',e⟩:=bF (λω=>#[]) (.type "list") (List.toArray vs) ep
 exact dI (a:=.none) st (st.upd hi (ao':=.list []) (Heap.SameBut.update ..) ⟨_,Heap.get?_update_self _ go (by rw [e];rfl),[],n',by rw [e],.nil⟩ s.toks s.drawn) (by simp) rfl q
inductive DictR (U:Store)(i:Nat)(es:List (Str×AVal)):Prop
 | d (h:U.at i=some (.dict es))
 | e {ep:Nat} (h:U.at i=some (.dictE es ep))
theorem St.isDict (st:St κ V U s){i:Nat}{es:List (Str×AVal)}(h:DictR U i es):∃kvs,s.heap.DictOf (strKind κ.p κ.w) (V i) kvs/\All2 (KVR V U.length) es kvs/\(V i == sysModules)=false:=by
 cases h with
 | d hi=>
  obtain ⟨o,g,kvs,d,r⟩:=st.obj _ _ hi
  exact ⟨kvs,Heap.dictOf_iff.mpr ⟨o,g,d⟩,r,st.noMods hi⟩
 | e hi=>
  obtain ⟨o,g,kvs,des,a,b,d,f,gg,r⟩:=st.obj _ _ hi
  exact ⟨kvs,⟨o,des,_,g,a,b,d,f,gg⟩,r,st.noMods hi⟩
theorem kf {es:List (Str×AVal)}{kvs:List (Str×Value)}(h:All2 (KVR V n) es kvs){k:Str}(e:ae k es=none):valueAt kvs k=none:=by
 induction h with
 | nil=>rfl
 | @cons a b es kvs r rs ih=>
  obtain ⟨x,v⟩:=a
  obtain ⟨y,w⟩:=b
  have hxy:x=y:=r.1
  subst hxy
  by_cases q:x=k
  ·simp [ae,q] at e
  ·have:ae k es=none:=by simpa [ae,q] using e
   simpa [valueAt,q] using ih this
theorem got {es:List (Str×AVal)}{kvs:List (Str×Value)}(h:All2 (KVR V n) es kvs){k:Str}{d:AVal}{vd:Value}(rd:VR V n d vd):VR V n ((ae k es).getD d) ((valueAt kvs k).getD vd):=by
 cases e:ae k es with
 | none=>rw [kf h e];exact rd
 | some b=>
  obtain ⟨v,hv,rv⟩:=bi h e
  rw [hv];exact rv
theorem op_get1 {i:Nat}{es:List (Str×AVal)}{k:Str}{Q:AVal->Store->Prop}(hd:DictR U i es)(q:Q ((ae k es).getD .none) U):OPc c P (.builtin "dict.get") [.loc i,.str k] Q X U:=by
 refine OPc.of2L λκ V s yv ok st ω rb=>?_
 obtain ⟨t,rfl⟩:=rb
 obtain ⟨kvs,D,r,hm⟩:=st.isDict hd
 exact call_meetsIn F.slot_dict_get D.mapOf.typeIs F.entry_dict_get (F.args_dict_get_2 _ _) (meets_dict_get (strKind κ.p κ.w) (V i) (strKind_is _ _ k t) hm) ⟨_,D.mapOf,dI st (st.toks (s.toks+1) s.drawn) rfl (got r (d:=.none) rfl) q⟩
theorem op_get2 {i:Nat}{es:List (Str×AVal)}{k:Str}{d:AVal}{Q:AVal->Store->Prop}(hd:DictR U i es)(q:Q ((ae k es).getD d) U):OPc c P (.builtin "dict.get") [.loc i,.str k,d] Q X U:=by
 refine OPc.of3L λκ V s yv vd ok st ω rb rd=>?_
 obtain ⟨t,rfl⟩:=rb
 obtain ⟨kvs,D,r,hm⟩:=st.isDict hd
 exact call_meetsIn F.slot_dict_get D.mapOf.typeIs F.entry_dict_get (F.args_dict_get_3 _ _ _) (meets_dict_get_default (strKind κ.p κ.w) (V i) (strKind_is _ _ k t) hm vd) ⟨_,D.mapOf,dI st (st.toks (s.toks+1) s.drawn) rfl (got r rd) q⟩
theorem oz {a:Int}{Q:AVal->Store->Prop}(q:Q (.int (if a<0 then -a else a)) U):OPc c P (.builtin "abs") [.int a] Q X U:=by
 refine OPc.of1 λκ V s xv ok st ra=>?_
 obtain ⟨t,rfl⟩:=ra
 exact PyProof.Rows.call_abs_int λu tk=>dI (a:=.int _) st (st.toks tk s.drawn) rfl ⟨_,rfl⟩ q
noncomputable def typeA:AVal->Option String
 | .bytes _=>some "bytes"
 | .bool _=>some "bool"
 | _=>none
theorem pQ {a:AVal}{T:String}{Q:AVal->Store->Prop}(h:typeA a=some T)(q:Q (.top (.type T)) U):OPc c P (.type "type") [a] Q X U:=by
 refine OPc.of1 λκ V s xv ok st ra=>?_
 cases a <;> cases h
 ·cases ra
  exact call_type_of (Tx:="bool") rfl (by decide) (dI (a:=.top (.type "bool")) st st rfl rfl q)
 ·obtain ⟨t,rfl⟩:=ra
  exact call_type_of (PySem.W.typeIs_bytes _ _ _) (by decide) (dI (a:=.top (.type "bytes")) st st rfl rfl q)
theorem tD {i:Nat}{l:List AVal}{Q:AVal->Store->Prop}(hi:U.at i=some (.list l))(hl:l.length<=lenLine)(q:Q (.loc U.length) (U++[some (.tuple l)])):OPc c P (.type "tuple") [.loc i] Q X U:=by
 refine OPc.of1L λκ V s ok st ω=>?_
 obtain ⟨vs,il,rl⟩:=st.isList hi
 refine call_tuple_list il (λh' hk=>?_) (by rw [List.size_toArray,←All2.length rl];exact Nat.le_trans hl aj)
 have st':=st.grown ok hk s.toks s.drawn
 have:=dC (s:={s with heap:=h'}) (Q:=Q) st' (o:={cls:=.type "tuple",data:=.seq (List.toArray vs)}) (ao:=.tuple l) s.toks rfl ⟨vs,_,rfl,VRs.ext rl (ah _ _ _) (Nat.le_succ _)⟩ q
 exact this
theorem mV {is:List Int}:∀{vs:List Value},VRs V n (is.map .int) vs->IntsAre vs is:=by
 induction is with
 | nil=>exact λh=>h.unnil IntsAre.nil
 | cons i is ih=>exact λh=>h.uncons λω ω ra rs=>by obtain ⟨t,rfl⟩:=ra;exact .cons _ _ (ih rs)
theorem tI {i:Nat}{l:List AVal}{is:List Int}{Q:AVal->Store->Prop}(hfree:P.free=true)(hi:U.at i=some (.list l))(hl:l.length<=lenLine)(hn:l=is.map .int)(hr:is.all (λn=>decide (0<=n/\n<256))=true)(q:Q (.bytes (PySem.byteArr is)) U):OPc c P (.type "bytes") [.loc i] Q X U:=by
 refine OPc.of1L λκ V s ok st ω=>?_
 obtain ⟨vs,il,rl⟩:=st.isList hi
 refine call_bytes_ints il (mV (hn▸rl)) (λm hm=>of_decide_eq_true (List.all_eq_true.mp hr m hm)) (by rw [←All2.length rl];exact Nat.le_trans hl aj) (ok.handled hfree) λh' t k hk=>?_
 exact dI (a:=.bytes _) st (st.grown ok hk k s.drawn) rfl ⟨_,rfl⟩ q
end
end
section
section
variable {c:Cfg}{P:SP}{E:AEnv}{κ:KX}{V0 V:Nat->Addr}{n0 n:Nat}{U:Store}{s:Shared}{X:XP}
variable {Q:AVal->Store->Prop}{i:Nat}{x:Str}{vs:List Value}{is:List Int}{ss:List Str}{l:List AVal}
theorem op_set0 (q:Q (.loc U.length) (U++[some (.set [])])):OPc c P (.type "set") [] Q X U:=by
 intro κ V s vs ok st hv
 cases hv
 refine call_set_0 λled=>dC (ao:=.set []) st s.toks rfl ?_ q
 have:=setObjOf_fresh (knd:=PySem.strKind κ.p κ.w) led
 exact this
noncomputable def dR (x:Str)(l:List Str):List Str:=if x∈l then l else l++[x]
theorem qS {l:List Str}(hi:U.at i=some (.set l))(hl:l.length+1<1000)(q:Q .none (U.put i (.set (dR x l)))):OPc c P (.builtin "set.add") [.loc i,.str x] Q X U:=by
 refine OPc.of2L λκ V s yv ok st ω rb=>?_
 obtain ⟨t,rfl⟩:=rb
 obtain ⟨o,go,ho⟩:=st.obj _ _ hi
 have hS:=ho.setOf go (by unfold scanBound;omega)
 refine call_set_add (strKind_is _ _ x t) rfl hS (by unfold scanBound;omega) λh' hs hS'=>?_
 obtain ⟨o',go',ho'⟩:=hS'.objOf
 have e1:(λk'=>decide (k'∈l)||decide (k'=x))=λk=>decide (k∈dR x l):=by
  funext k
  unfold dR
  by_cases hx:x∈l
  ·by_cases hk:k=x
   ·subst hk;simp [hx]
   ·simp [hx,hk]
  ·by_cases hk:k=x
   ·subst hk;simp [hx]
   ·simp [hx,hk]
 have e2:(if decide (x∈l)=true then l.length else l.length+1)=(dR x l).length:=by
  unfold dR
  by_cases hx:x∈l <;> simp [hx]
 rw [e1,e2] at ho'
 exact dI (a:=.none) st (st.upd hi (ao':=.set (dR x l)) hs ⟨o',go',ho'⟩ (s.toks+1) s.drawn) (by simp) rfl q
theorem fE (h:Heap)(vs:List Value)(out:Array Value):∃e,(sortedAll h vs out).get? (h.objs.size+1)=some (seqObj "list" out e):=sortedAll_at h vs out
theorem gW (h:Heap):h.get? (h.objs.size+1)=none:=Heap.get?_none_of_le (Nat.le_succ _)
theorem tZ (h:IntsAre vs is):VRs V n (is.map .int) vs:=by
 induction h with
 | nil=>exact .nil
 | cons i t _ ih=>exact .cons ⟨t,rfl⟩ ih
theorem mt (h:StrsAre vs ss):VRs V n (ss.map .str) vs:=by
 induction h with
 | nil=>exact .nil
 | cons i t _ ih=>exact .cons ⟨t,rfl⟩ ih
theorem mu :∀{vs:List Value},VRs V n (ss.map .str) vs->StrsAre vs ss:=by
 induction ss with
 | nil=>exact λh=>h.unnil StrsAre.nil
 | cons i is ih=>exact λh=>h.uncons λω ω ra rs=>by obtain ⟨t,rfl⟩:=ra;exact .cons _ _ (ih rs)
theorem j2 (hi:U.at i=some (.list l))(hl:l.length<64)(hn:l=is.map .int)
  (q:∀js:List Int,js.Perm is->js.Pairwise (·<=·)->Q (.loc U.length) (U++[some (.list (js.map .int))])):OPc c P (.builtin "sorted") [.loc i] Q X U:=by
 refine OPc.of1L λκ V s ok st ω=>?_
 obtain ⟨vs,il,rl⟩:=st.isList hi
 refine sorted_ints il (mV (hn▸rl)) (by rw [←All2.length rl];exact hl) λout js hI hp hs=>?_
 obtain ⟨e,ge⟩:=fE s.heap vs out
 exact jF ok st (ao:=.list (js.map .int)) s.toks (λb o hb=>sortedAll_old hb) (gW _) ge (λω=>trivial) ⟨out.toList,e,by simp,tZ hI⟩ (q js hp hs)
theorem j1 (hi:U.at i=some (.list l))(hl:l.length<64)(hn:l=ss.map .str)
  (q:∀js:List Str,js.Perm ss->sortedS js=true->Q (.loc U.length) (U++[some (.list (js.map .str))])):OPc c P (.builtin "sorted") [.loc i] Q X U:=by
 refine OPc.of1L λκ V s ok st ω=>?_
 obtain ⟨vs,il,rl⟩:=st.isList hi
 refine sorted_strs il (mu (hn▸rl)) (by rw [←All2.length rl];exact hl) λout js hI hp hs=>?_
 obtain ⟨e,ge⟩:=fE s.heap vs out
 exact jF ok st (ao:=.list (js.map .str)) s.toks (λb o hb=>sortedAll_old hb) (gW _) ge (λω=>trivial) ⟨out.toList,e,by simp,mt hI⟩ (q js hp hs)
theorem tE (q:Q (.bool true) U):OPc c P (.builtin "isinstance") [.str x,.top (.type "str")] Q X U:=by
 refine OPc.of2 λκ V s xv yv ok st ra rb=>?_
 obtain ⟨t,rfl⟩:=ra
 cases rb
 exact PySem.IsiPair.str_str (dI (a:=.bool true) st st rfl rfl q)
theorem lf :∀{vs:List Value},VRs V n (ss.map .str) vs->∃ps:List (Str×Tok),vs=strValues ps/\ps.map (·.1)=ss:=by
 induction ss with
 | nil=>exact λh=>h.unnil ⟨[],rfl,rfl⟩
 | cons x l ih=>exact λh=>h.uncons λω ω ra rs=>ra.elim λt e=>(ih rs).elim λps h=>⟨(x,t)::ps,by rw [e,h.1];rfl,congrArg (x :: ·) h.2⟩
theorem op_join (hi:U.at i=some (.list l))(hn:l=ss.map .str)(hok:JoinOk x ss=true)(q:Q (.str (Txt.join x ss)) U):OPc c P (.builtin "str.join") [.str x,.loc i] Q X U:=by
 refine OPc.of2 λκ V s xv yv ok st ra rb=>?_
 obtain ⟨t,rfl⟩:=ra
 obtain ⟨_,rfl⟩:=rb
 obtain ⟨vs,il,rl⟩:=st.isList hi
 obtain ⟨ps,h1,h2⟩:=lf (hn▸rl)
 subst h1
 exact PySem.SC.join il h2 hok λt' k=>dI (a:=.str _) st (st.toks k s.drawn) rfl ⟨_,rfl⟩ q
end
end
section
noncomputable def bY (es:List (Str×AVal))(k:Str)(v:AVal):List (Str×AVal):=
 if es.any (λe=>e.1=k) then es.map (λe=>if e.1=k then (e.1,v) else e) else es++[(k,v)]
noncomputable def ca (es:List (Str×AVal))(k:Str):List (Str×AVal):=es.filter λe=>decide (e.1≠k)
section
variable {c:Cfg}{P:SP}{E:AEnv}{κ:KX}{V0 V:Nat->Addr}{n0 n:Nat}{U:Store}{s:Shared}{X:XP}
variable {es:List (Str×AVal)}{kvs:List (Str×Value)}{k:Str}{a:AVal}{v:Value}{i:Nat}{Q:AVal->Store->Prop}{pos:Pos}{α:Type}
theorem nW (h:All2 (KVR V n) es kvs)(ra:VR V n a v) :
  All2 (KVR V n) (es.map (λe=>if e.1=k then (e.1,a) else e)) (kvs.map λkv=>if kv.1=k then (kv.1,v) else kv):=by
 induction h with
 | nil=>exact .nil
 | @cons x y es kvs r rs ih=>
  rw [List.map_cons,List.map_cons]
  refine .cons ?_ ih
  have e1:=r.1
  by_cases q:y.1=k
  ·rw [if_pos q,if_pos (e1.trans q)];exact ⟨e1,ra⟩
  ·rw [if_neg q,if_neg (λw=>q (e1.symm.trans w))];exact r
theorem nV (h:All2 (KVR V n) es kvs)(ra:VR V n a v):All2 (KVR V n) (bY es k a) (stored kvs k v):=by
 have hany:es.any (λe=>e.1=k)=kvs.any (λe=>e.1=k):=by
  induction h with
  | nil=>rfl
  | cons r rs ih=>rw [List.any_cons,List.any_cons,ih,r.1]
 unfold bY stored
 rw [hany]
 split
 ·exact nW h ra
 ·exact h.append (.cons ⟨rfl,ra⟩ .nil)
theorem mn (h:All2 (KVR V n) es kvs):All2 (KVR V n) (ca es k) (without kvs k):=by
 unfold ca without
 induction h with
 | nil=>exact .nil
 | @cons x y es kvs r rs ih=>
  have e1:=r.1
  rw [List.filter_cons,List.filter_cons]
  by_cases q:y.1=k
  ·rw [if_neg (by simp [e1.trans q]),if_neg (by simp [q])];exact ih
  ·have q':¬x.1=k:=λw=>q (e1.symm.trans w)
   rw [if_pos (by simp [q']),if_pos (by simp [q])];exact .cons r ih
theorem oo {Q:Store->Prop}(hi:U.at i=some (.dict es))(hl:es.length<=lenLine)(q:Q (U.put i (.dict (bY es k a)))):OP3 c P setItem (.loc i) (.str k) a (gU Q) X U:=by
 intro κ V s v w x ok st ha hb hd
 obtain ⟨_,rfl⟩:=ha
 obtain ⟨t,rfl⟩:=hb
 obtain ⟨o,g,kvs,d,r⟩:=st.obj _ _ hi
 refine wpAny_setItem_pairs (strKind_is _ _ k t) (Heap.dictOf_iff.mpr ⟨o,g,d⟩) (λh' hm hs=>?_) (by rw [←All2.length r];exact Nat.le_trans hl aj)
 obtain ⟨o',g',d'⟩:=Heap.dictOf_iff.mp hm
 exact ⟨V,_,Ext.refl _ _,by simp,st.upd hi (ao':=.dict (bY es k a)) hs ⟨o',g',_,d',nV r hd⟩ (s.toks+1) s.drawn,q⟩
theorem ow {Q:Store->Prop}(hi:U.at i=some (.dict es))(hl:es.length<=lenLine)(hk:(ae k es).isSome=true)(q:Q (U.put i (.dict (ca es k)))):OP2 c P delItem (.loc i) (.str k) (gU Q) X U:=by
 intro κ V s v w ok st ha hb
 obtain ⟨_,rfl⟩:=ha
 obtain ⟨t,rfl⟩:=hb
 obtain ⟨o,g,kvs,d,r⟩:=st.obj _ _ hi
 have hD:s.heap.DictOf (PySem.strKind κ.p κ.w) (V i) kvs:=Heap.dictOf_iff.mpr ⟨o,g,d⟩
 obtain ⟨a,ha⟩:=Option.isSome_iff_exists.mp hk
 obtain ⟨va,hva,_⟩:=bi r ha
 unfold J delItem
 refine wpAny_holding ?_
 refine wpAny_bind (wpAny_sequenceKey hD.typeIs (by decide) ?_)
 refine wpAny_bind (wpAny_callSpecial?_slot (name:=Str.ofString "__delitem__") hD.typeIs PySem.F.slot_dict_delitem
  (call_meetsIn PySem.F.slot_dict_delitem hD.typeIs PySem.F.entry_dict_delitem (PySem.F.args_dict_delitem_2 _ _) (meets_dict_delitem_pairs (PySem.strKind κ.p κ.w) (V i) (strKind_is _ _ k t)) ⟨kvs,hD,by rw [←All2.length r];exact Nat.le_trans hl aj,by rw [hva];rfl,λh' hmm hs=>?_⟩))
 obtain ⟨o',g',d'⟩:=Heap.dictOf_iff.mp hmm
 exact wpAny_pure ⟨V,_,Ext.refl _ _,by simp,st.upd hi (ao':=.dict (ca es k)) hs ⟨o',g',_,d',mn r⟩ (s.toks+1) s.drawn,q⟩
theorem uT (q:Q (.loc U.length) (U++[some (.dict [])])):TE c P E (.Dict [] [] pos) Q X U:=by
 refine TM.mk λκ V0 s g=>wpAny_Dict_empty ?_
 have e:=ah V0 U.length s.heap.objs.size
 obtain ⟨o,ho,hd⟩:=Heap.dictOf_iff.mp (Heap.DictOf.new (knd:=PySem.strKind κ.p κ.w) s.heap)
 have go:=Heap.get?_push_size s.heap (o:={cls:=.type "dict",data:=.dict #[]}) rfl
 have:o={cls:=.type "dict",data:=.dict #[]}:=by rw [go] at ho;exact (Option.some.inj ho).symm
 subst this
 have st2:=St.push g.st (ao:=.dict []) (o:={cls:=.type "dict",data:=.dict #[]}) rfl ⟨[],hd,.nil⟩ s.toks s.drawn
 exact (g.step e (by simp) st2).doneV (a:=.loc U.length) ⟨by simp,by rw [ad]⟩ q
theorem uS {ke ve:Expr}
  (h:TE c P E ke (λa U1=>TE c P E ve (λb U2=>∃k,a=.str k/\U2.at U.length=some (.dict [])/\Q (.loc U.length) (U2.put U.length (.dict [(k,b)]))) X U1) X (U++[some (.dict [])])):TE c P E (.Dict [some ke] [ve] pos) Q X U:=by
 refine TM.mk λκ V0 s g=>wpAny_Dict_walk (knd:=PySem.strKind κ.p κ.w) rfl rfl (by simp) (by simp) ?_
 refine rq λG hG=>?_
 have e:=ah V0 U.length s.heap.objs.size
 obtain ⟨o,ho,hd⟩:=Heap.dictOf_iff.mp (Heap.DictOf.new (knd:=PySem.strKind κ.p κ.w) s.heap)
 have go:=Heap.get?_push_size s.heap (o:={cls:=.type "dict",data:=.dict #[]}) rfl
 have:o={cls:=.type "dict",data:=.dict #[]}:=by rw [go] at ho;exact (Option.some.inj ho).symm
 subst this
 have st2:=St.push g.st (ao:=.dict []) (o:={cls:=.type "dict",data:=.dict #[]}) rfl ⟨[],hd,.nil⟩ s.toks s.drawn
 have g1:=g.step e (by simp) st2
 refine hG (pairTrees_cons_walk (h.go g1 ?_))
 rintro V1 U1 v s₁ g₁ e1 l1 ⟨a,ra,h₁⟩
 refine h₁.go g₁ ?_
 rintro V2 U2 w s2 g2 e2 l2 ⟨b,rb,k,rfl,hat,hq⟩
 obtain ⟨t,rfl⟩:=ra
 refine pairTrees_nil_walk ?_
 refine rq λG hG=>?_
 obtain ⟨o,g',kvs,d,r⟩:=g2.st.obj _ _ hat
 cases r
 have hV:V2 U.length=s.heap.objs.size:=by
  rw [e2 _ (Nat.lt_of_lt_of_le (by simp) l1),e1 _ (by simp),ad]
 rw [hV] at g'
 refine hG ⟨[(k,w)],⟨strKind_is _ _ k t,rfl,trivial⟩,Heap.dictOf_iff.mpr ⟨o,g',d⟩,λh' hm hs=>?_⟩
 obtain ⟨o',g'',d'⟩:=Heap.dictOf_iff.mp hm
 rw [←hV] at g'' hs
 have st':=g2.st.upd hat (ao':=.dict [(k,b)]) hs ⟨o',g'',_,d',.cons ⟨rfl,rb⟩ .nil⟩ (s2.toks+1) s2.drawn
 exact (g2.step (Ext.refl _ _) (by simp) st').doneV (a:=.loc U.length) ⟨by rw [Store.put_length];exact Store.at_lt hat,by rw [hV]⟩ hq
theorem qQ (h:DictR U i es)(q:Q (.loc U.length) (U++[some (.vals i)])):OPc c P (.builtin "dict.values") [.loc i] Q X U:=by
 refine OPc.of1L λκ V s ok st hil=>?_
 obtain ⟨kvs,D,r,hm⟩:=st.isDict h
 refine call_meetsIn F.slot_dict_values D.typeIs F.entry_dict_values (F.args_dict_values_1 _) (meets_dict_values (PySem.strKind κ.p κ.w) (V i) hm) ⟨⟨kvs,D⟩,?_⟩
 exact dC (ao:=.vals i) st s.toks rfl ⟨Nat.lt_succ_of_lt hil,rfl,by rw [ah V U.length s.heap.objs.size i hil]⟩ q
theorem TM.epoch {t:Env->Sem α}{G:(Nat->Addr)->Store->α->Prop}(hi:U.at i=some (.dict es))(h:∀ep,TM c P E t G X (U.put i (.dictE es ep))):TM c P E t G X U:=by
 intro κ V s ok hh hv st
 obtain ⟨o,g,kvs,⟨des,ep,a1,a2,a3,a4,a5⟩,r⟩:=st.obj _ _ hi
 have st':=st.upd hi (ao':=.dictE es ep) ⟨rfl,λω ω=>rfl⟩ ⟨o,g,kvs,des,a1,a2,a3,a4,a5,r⟩ s.toks s.drawn
 have:=h ep κ V s ok hh (by rw [Store.put_length];exact hv) st'
 rw [Store.put_length] at this
 exact this
theorem TM.unepoch {t:Env->Sem α}{G:(Nat->Addr)->Store->α->Prop}{ep:Nat}(hi:U.at i=some (.dictE es ep))(h:TM c P E t G X (U.put i (.dict es))):TM c P E t G X U:=by
 intro κ V s ok hh hv st
 obtain ⟨o,g,kvs,des,a1,a2,a3,a4,a5,r⟩:=st.obj _ _ hi
 have st':=st.upd hi (ao':=.dict es) ⟨rfl,λω ω=>rfl⟩ ⟨o,g,kvs,⟨des,ep,a1,a2,a3,a4,a5⟩,r⟩ s.toks s.drawn
 have:=h κ V s ok hh (by rw [Store.put_length];exact hv) st'
 rw [Store.put_length] at this
 exact this
end
end
section
section
variable {c:Cfg}{P:SP}{E:AEnv}{κ:KX}{V0 V:Nat->Addr}{n0 n:Nat}{U:Store}{s:Shared}{X:XP}
variable {T:String}{a:AVal}{v:Value}{name:Str}{Q:AVal->Store->Prop}{i d:Nat}{C f:Addr}{es:List (Str×AVal)}{ci:aJ}{l:List (Option AVal)}
inductive TyR (U:Store):AVal->String->Prop
 | str {x:Str}:TyR U (.str x) "str"
 | bytes {x:Array UInt8}:TyR U (.bytes x) "bytes"
 | list {i:Nat} {l:List AVal} (h:U.at i=some (.list l)):TyR U (.loc i) "list"
 | dict {i:Nat} {l:List (Str×AVal)} (h:U.at i=some (.dict l)):TyR U (.loc i) "dict"
 | dictE {i ep:Nat} {l:List (Str×AVal)} (h:U.at i=some (.dictE l ep)):TyR U (.loc i) "dict"
 | set {i:Nat} {l:List Str} (h:U.at i=some (.set l)):TyR U (.loc i) "set"
theorem k8 {a:Addr}{o:Obj}(g:s.heap.get? a=some o)(h:o.cls=.type T)(hd:o.dict=none):s.TypeIs (.ref a) T/\∀b,.ref a=Value.ref b->∃o,s.heap.get? b=some o/\o.dict=none:=
 ⟨⟨_,g,h⟩,λb e=>by cases e;exact ⟨_,g,hd⟩⟩
theorem kl (st:St κ V U s)(h:TyR U a T)(ra:VR V U.length a v):s.TypeIs v T/\∀b,v=.ref b->∃o,s.heap.get? b=some o/\o.dict=none:=by
 cases h with
 | str=>obtain ⟨t,rfl⟩:=ra;exact ⟨typeIs_str _ _ _,λb e=>nomatch e⟩
 | bytes=>obtain ⟨t,rfl⟩:=ra;exact ⟨PySem.W.typeIs_bytes _ _ _,λb e=>nomatch e⟩
 | list hi=>
  obtain ⟨_,rfl⟩:=ra
  obtain ⟨o,g,vs,ep,rfl,_⟩:=st.obj _ _ hi
  exact k8 g rfl rfl
 | dict hi=>
  obtain ⟨_,rfl⟩:=ra
  obtain ⟨o,g,kvs,⟨es,ep,d,_⟩,_⟩:=st.obj _ _ hi
  exact k8 g d.1 d.2.1
 | dictE hi=>
  obtain ⟨_,rfl⟩:=ra
  obtain ⟨o,g,kvs,des,d,_⟩:=st.obj _ _ hi
  exact k8 g d.1 d.2.1
 | set hi=>
  obtain ⟨_,rfl⟩:=ra
  obtain ⟨o,g,d⟩:=st.obj _ _ hi
  exact k8 g d.1.1 d.1.2.1
theorem aI {id:String}{Q:AVal->List AVal->Store->Prop}(hT:TyR U a T)(pa:PlainAttrs T)(slot:Slot T name id)(hty:typeOf (.builtin id)=pure (.type "method_descriptor"))(q:Q (.top (.builtin id)) [a] U):cR c P a name Q X U:=by
 intro pl κ V s v ok st ra
 obtain ⟨h1,h2⟩:=kl st hT ra
 exact getMethod_builtin h1 pa slot hty h2 ⟨V,U,Ext.refl _ _,Nat.le_refl _,st,.top (.builtin id),[a],rfl,.cons ra .nil,q⟩
theorem lG (st:St κ V U s)(hi:U.at i=some (.inst C d))(hd:U.at d=some (.idict es)) :
  ∃ds ep,InstAt s.heap (V i) (instObj C (V d)) C (some (PySem.W.dictOf ds ep))/\All2 (DER κ.w V U.length) es ds/\(es.map (·.1)).Nodup:=by
 obtain ⟨o,g,hdl,rfl⟩:=st.obj _ _ hi
 obtain ⟨o',g',ds,ep,rfl,r,nd⟩:=st.obj _ _ hd
 exact ⟨ds,ep,⟨g,rfl,rfl,g'⟩,r,nd⟩
theorem eT {ds:List DictEntry}(h:All2 (DER κ.w V n) es ds)(name:Str):(∀a,ae name es=some a->∃v,getL name ds=some (some v)/\VR V n a v)/\(ae name es=none->getL name ds=some none):=by
 have key:∀{es:List (Str×AVal)} {ds:List DictEntry},All2 (DER κ.w V n) es ds->ds.any (·.refKey)=false:=by
  intro es ds h
  induction h with
  | nil=>rfl
  | @cons a b es ds r rs ih=>
   obtain ⟨⟨t,h1⟩,_⟩:=r
   rw [List.any_cons,ih,Bool.or_false]
   unfold DictEntry.refKey
   rw [h1]
 unfold getL
 rw [key h]
 induction h with
 | nil=>exact ⟨λa e=>by simp [ae] at e,λω=>rfl⟩
 | @cons a b es ds r rs ih=>
  obtain ⟨x,av⟩:=a
  obtain ⟨⟨t,h1⟩,_,h3⟩:=r
  rw [List.find?_cons]
  by_cases q:x=name
  ·have:b.key.isStr name=true:=by rw [h1];simp [Value.isStr,q]
   rw [this]
   refine ⟨λa e=>?_,λe=>?_⟩
   ·simp [ae,q] at e
    subst e
    exact ⟨b.val,rfl,h3⟩
   ·simp [ae,q] at e
  ·have:b.key.isStr name=false:=by rw [h1];simp [Value.isStr,q]
   rw [this]
   refine ⟨λa e=>ih.1 a (by simpa [ae,q] using e),λe=>ih.2 (by simpa [ae,q] using e)⟩
noncomputable def jD:AVal->Bool
 | .top v=>handedIn v
 | .any=>false
 | _=>true
theorem mY (h:jD a=true)(r:VR V n a v):handedIn v=true:=by
 cases a <;> first | (cases h;done) | skip
 ·cases r;rfl
 ·cases r;rfl
 ·obtain ⟨t,rfl⟩:=r;rfl
 ·obtain ⟨t,rfl⟩:=r;rfl
 ·obtain ⟨t,rfl⟩:=r;rfl
 ·cases r;exact h
 ·obtain ⟨_,rfl⟩:=r;rfl
theorem rV (hc:c.cls C=some ci)(hi:U.at i=some (.inst C d))(hd:U.at d=some (.idict es))(hn:ci.own.contains name=true)
  (ha:ae name es=some a) (hh:jD a=true) (q:Q a U):d8 c P (.loc i) name Q X U:=by
 intro κ V s v ok st ra
 obtain ⟨_,rfl⟩:=ra
 obtain ⟨ds,ep,I,r,_⟩:=lG st hi hd
 have co:=ok.cfg.cls C ci hc
 obtain ⟨h1,h2⟩:=co.own name (by simpa using hn) κ.w.params
 obtain ⟨w,hw,rw'⟩:=(eT r name).1 a ha
 refine get_value (st.inK ok) I (plainGet_of (co.get _ name)).1 (findObj_own h2 h1 rfl (by rw [lookIn_dict];exact hw)) (mY hh rw') ?_
 exact dI st (st.toks (s.toks+1) s.drawn) rfl rw' q
theorem pq {Q:AVal->List AVal->Store->Prop}(hc:c.cls C=some ci)(hi:U.at i=some (.inst C d))(hd:U.at d=some (.idict es))(hm:ci.meths.lookup name=some f)
  (ha:ae name es=none) (q:Q (.top (.ref f)) [.loc i] U):cR c P (.loc i) name Q X U:=by
 intro pl κ V s v ok st ra
 obtain ⟨hil,rfl⟩:=ra
 obtain ⟨ds,ep,I,r,_⟩:=lG st hi hd
 have co:=ok.cfg.cls C ci hc
 obtain ⟨h1,h2,_⟩:=co.meths name f hm κ.w.params
 have hg:=plainGet_of (co.get κ.w.params name)
 refine method_fn (st.inK ok) I hg.1 hg.2 h1 (beq_iff_eq.mp h2) (by show (lookIn name (PySem.W.dictOf ds ep)).map _=_;rw [lookIn_dict,(eT r name).2 ha];rfl) ?_
 exact ⟨V,U,Ext.refl _ _,Nat.le_refl _,st,.top (.ref f),[.loc i],rfl,.cons ⟨hil,rfl⟩ .nil,q⟩
theorem fV (hc:c.cls C=some ci)(hi:U.at i=some (.inst C d))(hd:U.at d=some (.idict es))(hm:ci.meths.lookup name=some f)
  (ha:ae name es=none) (q:Q (.loc U.length) (U++[some (.meth f (.loc i))])):d8 c P (.loc i) name Q X U:=by
 intro κ V s v ok st ra
 obtain ⟨hil,rfl⟩:=ra
 obtain ⟨ds,ep,I,r,_⟩:=lG st hi hd
 have co:=ok.cfg.cls C ci hc
 obtain ⟨h1,h2,h3,h4,h5,h6⟩:=co.meths name f hm κ.w.params
 have hg:=plainGet_of (co.get κ.w.params name)
 refine get_bind (st.inK ok) I hg.1 (findObj_fn h5 h1 h3 h4 h6 (by rw [lookIn_dict];exact (eT r name).2 ha)) hg.2 ?_
 refine wpAny_call (fn_get (s:={s with toks:=s.toks+1}) (St.inK ok (st.toks (s.toks+1) s.drawn)) (beq_iff_eq.mp h2) (handed_on rfl ?_))
 exact dC (ao:=.meth f (.loc i)) st (s.toks+1) rfl ⟨_,⟨Nat.lt_succ_of_lt hil,rfl⟩,by rw [ah V U.length s.heap.objs.size i hil]⟩ q
theorem sU (st:St κ V U s)(hi:U.at i=some (.slots C d l))(hd:U.at d=some (.idict es)):∃vs od,InstAt s.heap (V i) {cls:=.ref C,dict:=some (V d),data:=.plain,slots:=(List.toArray vs)} C (some od)/\All2 (SlotR V U.length) l vs:=by
 obtain ⟨o,g,_,vs,r,rfl⟩:=st.obj _ _ hi
 obtain ⟨o',g',ds,ep,rfl,_⟩:=st.obj _ _ hd
 exact ⟨vs,_,⟨g,rfl,rfl,g'⟩,r⟩
theorem lI {K:Frag}{od:Option Obj}{a g:Value}(hc:(clsIn K C).isSome=true)(ha:findIn K (.ref C) name=some (some a))(hg:specialIn K a "__get__" = some (some g))(ht:takesIn K a=some true):findObj K C od name=some (.bind g a):=by
 obtain ⟨cd,hc⟩:=Option.isSome_iff_exists.mp hc
 unfold findObj
 rw [hc,Option.bind_some,ha,Option.bind_some]
 show (specialIn K a "__get__").bind _=_
 rw [hg]
 show (takesIn K a).bind _=_
 rw [ht];rfl
theorem px {k:Nat}{p:Addr}(hc:c.cls C=some ci)(hi:U.at i=some (.slots C d l))(hd:U.at d=some (.idict es))(hs:ci.slots.lookup name=some (p,k))
  (ha:l[k]? = some (some a)) (hh:jD a=true) (q:Q a U):d8 c P (.loc i) name Q X U:=by
 intro κ V s v ok st ra
 obtain ⟨hil,rfl⟩:=ra
 obtain ⟨vs,od,I,r⟩:=sU st hi hd
 have co:=ok.cfg.cls C ci hc
 obtain ⟨_,hS⟩:=co.slots name p k hs
 obtain ⟨h1,h2,h3,h4,_⟩:=hS κ.w.params
 have hg:=plainGet_of (co.get κ.w.params name)
 obtain ⟨w,hw,x,rfl,rx⟩:=All2.get r ha
 refine get_bind (st.inK ok) I hg.1 (lI (co.set _).2.2 h1 h2 h3) hg.2 ?_
 refine wpAny_call (slot_get (s:={s with toks:=s.toks+1}) (St.inK ok (st.toks (s.toks+1) s.drawn)) I h4 (by show ((List.toArray vs)[k]?).join=some x;simp [hw]) (handed_on (mY hh rx) ?_))
 exact dI st (st.toks (s.toks+1) s.drawn) rfl rx q
end
end
section
section
variable {c:Cfg}{P:SP}{E:AEnv}{κ:KX}{V0 V:Nat->Addr}{n0 n:Nat}{U:Store}{s:Shared}{X:XP}
variable {i d:Nat}{m es:List (Str×AVal)}{h' h:Heap}{mm:Str->Option Value}{L x C p:Addr}{name:Str}{ci:aJ}{a:AVal}{Q:Store->Prop}
theorem St.remake (ok:κ.Ok c P)(st:St κ V U s){F:Nat}{ao ao':AObj}(hF:U.at F=some (.frame m))(hi:U.at i=some ao)(hne:i≠F)
  (hk:∀b o,b≠V F->b≠V i->s.heap.get? b=some o->h'.get? b=some o) (hN:h'.Ns (V F) mm) (hmm:∀x,OptVR V U.length (m.lookup x) (mm x)) (ho:∃o,h'.get? (V i)=some o/\OR κ.p κ.w V U.length ao' o)
  (tk:Nat) (dr:Drawn) (hd:∀a,ao.need a->ao'.need a):St κ V (U.put i ao') {s with heap:=h',toks:=tk,drawn:=dr}:=by
 refine st.set (Heap.Keeps.of st.keep λb o o' q g=>hk b o' (st.off ok hF q) (st.off ok hi q) g) (st.room ok λb o g=>hk b o (st.off ok hF (ok.keepG _ _ g)) (st.off ok hi (ok.keepG _ _ g))) (λω=>⟨ho,st.new i ao hi,hd _ (st.low i ao hi)⟩) (λj x e hj=>?_) tk dr
 have ne:V j≠V i:=λq=>e (st.inj j i x ao hj hi q)
 refine ⟨?_,ne⟩
 by_cases e':j=F
 ·subst e'
  cases Option.some.inj (hF.symm.trans hj)
  obtain ⟨o,es,ep,g,d,kk,r⟩:=hN
  exact ⟨o,g,es,ep,d,kk,λx=>by rw [r x];exact hmm x⟩
 ·obtain ⟨o,g,r⟩:=st.obj _ _ hj
  exact ⟨o,hk _ _ (λq=>e' (st.inj _ _ _ _ hj hF q)) ne g,r⟩
noncomputable abbrev noHeap:Heap:={objs:=#[]}
noncomputable def lT (h:Heap)(L x:Addr):List (Addr×Obj):=(List.range h.objs.size).filterMap λb=>if b=L∨b=x then none else (h.get? b).map λo=>(b,o)
theorem mem_allBut {b:Addr}{o:Obj}:(b,o)∈lT h L x↔b≠L/\b≠x/\h.get? b=some o:=by
 unfold lT
 rw [List.mem_filterMap]
 constructor
 ·rintro ⟨b',_,e⟩
  split at e
  ·cases e
  ·rename_i hn
   obtain ⟨o',h1,h2⟩:=Option.map_eq_some_iff.mp e
   cases h2
   exact ⟨λq=>hn (.inl q),λq=>hn (.inr q),h1⟩
 ·rintro ⟨h1,h2,h3⟩
  refine ⟨b,List.mem_range.mpr (Heap.lt_size h3),?_⟩
  rw [if_neg (λq=>q.elim h1 h2),h3];rfl
theorem fO (b:Addr):noHeap.get? b=none:=Heap.get?_none_of_le (Nat.zero_le _)
theorem kQ (hn:h.Ns L mm):Fr noHeap L h mm:=⟨hn,(λb o e=>by rw [fO] at e;cases e),Nat.zero_le _⟩
theorem iF {ox:Obj}(hx:h.get? x=some ox)(hne:x≠L):News noHeap L h ([]++(x,ox)::lT h L x):=by
 intro p hp
 rcases List.mem_cons.mp hp with rfl | hp
 ·exact ⟨hx,hne,fO _⟩
 ·obtain ⟨b,o⟩:=p
  obtain ⟨h1,h2,h3⟩:=mem_allBut.mp hp
  exact ⟨h3,h1,fO _⟩
theorem iG {ox':Obj}(N:News noHeap L h' ([]++(x,ox')::lT h L x)):h'.get? x=some ox'/\∀b o,b≠L->b≠x->h.get? b=some o->h'.get? b=some o:=
 ⟨(N _ (.head _)).1,λb o h1 h2 h3=>(N (b,o) (.tail _ (mem_allBut.mpr ⟨h1,h2,h3⟩))).1⟩
noncomputable def gb (l:List (Option AVal))(k:Nat)(a:AVal):List (Option AVal):=(l++List.replicate (k+1 - l.length) none).set k (some a)
theorem All2.replicate {α β:Type}{R:α->β->Prop}{a:α}{b:β}(h:R a b):∀k,All2 R (List.replicate k a) (List.replicate k b)
 | 0=>.nil
 | k+1=>.cons h (All2.replicate h k)
theorem All2.set {α β:Type}{R:α->β->Prop}{l:List α}{m:List β}(h:All2 R l m){a:α}{b:β}(r:R a b):∀k,All2 R (l.set k a) (m.set k b):=by
 induction h with
 | nil=>intro k;exact .nil
 | cons r' t ih=>intro k;cases k with
  | zero=>exact .cons r t
  | succ k=>exact .cons r' (ih k)
theorem nS {K:Frag}(h:findIn K (.ref C) name=some (some (.ref p)))(t:takesIn K (.ref p)=some true):takerIn K C name=some (some (.ref p)):=by
 unfold takerIn;rw [h,Option.bind_some];simp [t]
theorem om {k:Nat}{l:List (Option AVal)}(hc:c.cls C=some ci)(hF:U.at E.frame=some (.frame m))(hi:U.at i=some (.slots C d l))(hd:U.at d=some (.idict es))(hs:ci.slots.lookup name=some (p,k))
  (q:Q (U.put i (.slots C d (gb l k a)))):nH c P E (λov v=>setAttr ov name v) (.loc i) a (gU Q) X U:=by
 intro κ V s ov v ok hh hv st ro ra
 obtain ⟨hil,rfl⟩:=ro
 obtain ⟨vs,od,I,r⟩:=sU st hi hd
 have co:=ok.cfg.cls C ci hc
 obtain ⟨hk,hS⟩:=co.slots name p k hs
 obtain ⟨h1,h2,h3,h4,h5⟩:=hS κ.w.params
 obtain ⟨g1,g2,_⟩:=co.set κ.w.params
 obtain ⟨f,hn,hf⟩:=st.frameNs hF
 have hne:i≠E.frame:=λe=>by rw [e,hF] at hi;cases hi
 have hne':V i≠V E.frame:=λe=>hne (st.inj _ _ _ _ hi hF e)
 have X1:(c.K κ.w.params).In s.heap:=st.inK ok
 have hlen:vs.length=l.length:=(All2.length r).symm
 refine set_plain X1 I g1 (osa_descr (s:={s with toks:=s.toks+1}) KF.slot_mset X1 I g2 (nS h1 h3) h5 (slot_set (s:={s with toks:=s.toks+1}) (kQ hn) (iF I.at_ hne') X1 I h4 hk (λp hp=>nomatch hp) (λp hp=>(mem_allBut.mp (show (p.1,p.2)∈_ from hp)).2.1) rfl rfl λh' F' N'=>?_))
 obtain ⟨ho,hkeep⟩:=iG N'
 have hO:OR κ.p κ.w V U.length (.slots C d (gb l k a)) {cls:=.ref C,dict:=some (V d),data:=.plain,slots:=(List.toArray vs++Array.replicate (k+1 - (List.toArray vs).size) none).setIfInBounds k (some v)}:=by
  refine ⟨Store.at_lt hd,(vs++List.replicate (k+1 - vs.length) none).set k (some v),?_,?_⟩
  ·unfold gb
   rw [hlen]
   exact All2.set (r.append (All2.replicate (show SlotR V U.length none none from rfl) _)) (show SlotR V U.length (some a) (some v) from ⟨v,rfl,ra⟩) k
  ·have:∀(xs:List (Option Value)) (y:Option Value),(List.toArray xs).setIfInBounds k y=List.toArray (xs.set k y):=λxs y=>by simp
   rw [←this]
   have e2:List.toArray (vs++List.replicate (k+1 - vs.length) none)=List.toArray vs++Array.replicate (k+1 - vs.length) none:=by
    apply Array.toList_inj.mp;simp
   rw [e2];simp only [List.size_toArray]
 exact ⟨V,_,Ext.refl _ _,by simp,st.remake ok hF hi hne hkeep F'.ns hf ⟨_,ho,hO⟩ (s.toks+1) s.drawn (λω ω=>trivial),q⟩
noncomputable def eO (x:Str)(a:AVal):List (Str×AVal)->List (Str×AVal)
 | []=>[(x,a)]
 | p::l=>if p.1=x then (p.1,a)::l else p::eO x a l
theorem kB {x:Str}{a:AVal}:∀{es:List (Str×AVal)},(eO x a es).map (·.1)=if x∈es.map (·.1) then es.map (·.1) else es.map (·.1)++[x]
 | []=>by simp [eO]
 | p::l=>by
  by_cases h:p.1=x
  ·simp [eO,h]
  ·have ih:=kB (x:=x) (a:=a) (es:=l)
   have h':¬x=p.1:=λe=>h e.symm
   simp only [eO,if_neg h,List.map_cons,ih,List.mem_cons,h',false_or]
   split <;> simp
theorem og {x:Str}(h:(es.map (·.1)).Nodup):((eO x a es).map (·.1)).Nodup:=by
 rw [kB]
 split
 ·exact h
 ·rename_i hn
  rw [List.nodup_append]
  refine ⟨h,by simp,?_⟩
  intro y hy z hz e
  simp at hz
  subst hz;subst e
  exact hn hy
theorem tv {ds:List DictEntry}{x:Str}{v:Value}{t:Tok}(h:All2 (DER κ.w V n) es ds)(ra:VR V n a v):All2 (DER κ.w V n) (eO x a es) (putL x (PyData.keyHash κ.w.params x) (.str x t) v ds):=by
 induction h with
 | nil=>exact .cons ⟨⟨t,rfl⟩,rfl,ra⟩ .nil
 | @cons p e es ds r rs ih=>
  obtain ⟨⟨u,h1⟩,h2,h3⟩:=r
  by_cases q:p.1=x
  ·have:e.key.isStr x=true:=by rw [h1];simp [Value.isStr,q]
   simp only [eO,putL,if_pos q,this,if_true]
   exact .cons ⟨⟨u,h1⟩,h2,ra⟩ rs
  ·have:e.key.isStr x=false:=by rw [h1];simp [Value.isStr,q]
   simp only [eO,putL,if_neg q,this,Bool.false_eq_true,if_false]
   exact .cons ⟨⟨u,h1⟩,h2,h3⟩ ih
theorem qR (hc:c.cls C=some ci)(hF:U.at E.frame=some (.frame m))(hi:U.at i=some (.inst C d))(hd:U.at d=some (.idict es))(hn:ci.own.contains name=true)
  (hz:(eO name a es).length<=1000) (q:Q (U.put d (.idict (eO name a es)))):nH c P E (λov v=>setAttr ov name v) (.loc i) a (gU Q) X U:=by
 intro κ V s ov v ok hh hv st ro ra
 obtain ⟨hil,rfl⟩:=ro
 obtain ⟨ds,ep,I,r,nd⟩:=lG st hi hd
 have co:=ok.cfg.cls C ci hc
 obtain ⟨h1,h2⟩:=co.own name (by simpa using hn) κ.w.params
 obtain ⟨g1,g2,_⟩:=co.set κ.w.params
 obtain ⟨f,hns,hf⟩:=st.frameNs hF
 have hne:d≠E.frame:=λe=>by rw [e,hF] at hd;cases hd
 have hne':V d≠V E.frame:=λe=>hne (st.inj _ _ _ _ hd hF e)
 have X1:(c.K κ.w.params).In s.heap:=st.inK ok
 have hgd:s.heap.get? (V d)=some (PySem.W.dictOf ds ep):=I.dict
 have r':All2 (DER κ.w V U.length) (eO name a es) (putL name (PyData.keyHash κ.w.params name) (.str name (s.toks+1)) v ds):=tv r ra
 have ht:takerIn (c.K κ.w.params) C name=some none:=by unfold takerIn;rw [h1];rfl
 have hl:(lookIn name (PySem.W.dictOf ds ep)).isSome=true:=by
  rw [lookIn_dict]
  cases e:ae name es with
  | none=>rw [(eT r name).2 e];rfl
  | some b=>obtain ⟨w,hw,_⟩:=(eT r name).1 b e;rw [hw];rfl
 refine set_plain X1 I g1 (osa_dict (s:={s with toks:=s.toks+1}) (kQ hns) (iF hgd hne') X1 I rfl g2 ht h2 hl (λp hp=>nomatch hp) (λp hp=>(mem_allBut.mp (show (p.1,p.2)∈_ from hp)).2.1) (putName_dict _ _ _ _ _ _) rfl (by rw [←All2.length r'];exact hz) λh' F' N'=>?_)
 obtain ⟨ho,hkeep⟩:=iG N'
 have hO:OR κ.p κ.w V U.length (.idict (eO name a es)) (PySem.W.dictOf (putL name (PyData.keyHash κ.w.params name) (.str name (s.toks+1)) v ds) (putN name ds ep)):=⟨_,_,rfl,r',og nd⟩
 exact ⟨V,_,Ext.refl _ _,by simp,st.remake ok hF hd hne hkeep F'.ns hf ⟨_,ho,hO⟩ (s.toks+1+1) s.drawn (λω h=>h),q⟩
end
end
section
noncomputable def dt (pos:Pos):List (Int×Int×Nat)->Option Nat
 | []=>none
 | e::r=>if e.1 == pos.line&&e.2.1 == pos.col then some e.2.2 else dt pos r
theorem fJ (V:Nat->Addr)(pos:Pos):∀es:List (Int×Int×Nat),codeAmong pos (bf V es)=(dt pos es).map λk=>.ref (V k)
 | []=>rfl
 | e::r=>by
  have ih:=fJ V pos r
  unfold bf at ih ⊢
  rw [List.flatMap_cons]
  show (if e.1 == pos.line&&e.2.1 == pos.col then some (Value.ref (V e.2.2)) else codeAmong pos (r.flatMap _))=_
  unfold dt
  split
  ·rfl
  ·exact ih
theorem ii (V:Nat->Addr):∀es:List (Int×Int×Nat),TriplesOk (bf V es)
 | []=>trivial
 | e::r=>by
  have ih:=ii V r
  unfold bf at ih ⊢
  rw [List.flatMap_cons]
  exact ih
section
variable {c:Cfg}{P:SP}{E:AEnv}{κ:KX}{V0 V:Nat->Addr}{n0 n:Nat}{U:Store}{s:Shared}{X:XP}
variable {ao:AObj}{o:Obj}{t:Nat}{scope:Scope}{pos:Pos}{cc Pt:Addr}{es:List (Int×Int×Nat)}{cl:List (Str×Nat)}{params:Arguments}{qn:Str}{Q:AVal->Store->Prop}
theorem St.found (st:St κ V U s){a:Addr}(ho:s.heap.get? a=some o)(hf:∀j x,U.at j=some x->V j≠a)(hn:κ.h₀.get? a=none)(hd:ao.need a)(r:OR κ.p κ.w (aw V U.length a) (U.length+1) ao o):St κ (aw V U.length a) (U++[some ao]) s:=by
 have e1:∀{j x},U.at j=some x->aw V U.length a j=V j:=λhj=>ah V _ a _ (Store.at_lt hj)
 refine ⟨st.keep,λj x hj=>?_,λj x hj=>?_,λj k x y hj hk' e=>?_,st.bare,st.os,λj x hj=>?_,st.big⟩
 ·rw [List.length_append,List.length_singleton]
  rw [Store.at_push] at hj
  by_cases e:j=U.length
  ·subst e;rw [if_pos rfl] at hj;cases hj
   exact ⟨o,by rw [ad];exact ho,r⟩
  ·rw [if_neg e] at hj
   obtain ⟨o',g,r'⟩:=st.obj j x hj
   exact ⟨o',by rw [e1 hj];exact g,r'.ext (ah V _ a) (Nat.le_succ _)⟩
 ·rw [Store.at_push] at hj
  by_cases e:j=U.length
  ·subst e;rw [ad];exact hn
  ·rw [if_neg e] at hj;rw [e1 hj];exact st.new j x hj
 ·rw [Store.at_push] at hj hk'
  by_cases p:j=U.length
  ·by_cases q:k=U.length
   ·exact p.trans q.symm
   ·rw [if_neg q] at hk'
    subst p
    rw [ad,e1 hk'] at e
    exact absurd e.symm (hf _ _ hk')
  ·rw [if_neg p] at hj
   by_cases q:k=U.length
   ·subst q
    rw [ad,e1 hj] at e
    exact absurd e (hf _ _ hj)
   ·rw [if_neg q] at hk'
    rw [e1 hj,e1 hk'] at e
    exact st.inj j k x y hj hk' e
 ·rw [Store.at_push] at hj
  by_cases e:j=U.length
  ·subst e;rw [ad];rw [if_pos rfl] at hj;cases hj;exact hd
  ·rw [if_neg e] at hj;rw [e1 hj];exact st.low j x hj
theorem St.refound (st:St κ V U s)(ht:t<U.length)(ho:s.heap.get? (V t)=some o)(hf:∀j x,j≠t->U.at j=some x->V j≠V t)(hn:κ.h₀.get? (V t)=none)(hd:ao.need (V t))(r:OR κ.p κ.w V U.length ao o):St κ V (U.put t ao) s:=by
 refine ⟨st.keep,λj x hj=>?_,λj x hj=>?_,λj k x y hj hk' e=>?_,st.bare,st.os,λj x hj=>?_,st.big⟩
 ·rw [Store.put_length]
  rw [Store.at_put ht] at hj
  by_cases e:j=t
  ·subst e;rw [if_pos rfl] at hj;cases hj;exact ⟨o,ho,r⟩
  ·rw [if_neg e] at hj;exact st.obj j x hj
 ·rw [Store.at_put ht] at hj
  by_cases e:j=t
  ·subst e;exact hn
  ·rw [if_neg e] at hj;exact st.new j x hj
 ·rw [Store.at_put ht] at hj hk'
  by_cases p:j=t
  ·by_cases q:k=t
   ·exact p.trans q.symm
   ·rw [if_neg q] at hk'
    subst p
    exact absurd e.symm (hf _ _ q hk')
  ·rw [if_neg p] at hj
   by_cases q:k=t
   ·subst q;exact absurd e (hf _ _ p hj)
   ·rw [if_neg q] at hk';exact st.inj j k x y hj hk' e
 ·rw [Store.at_put ht] at hj
  by_cases e:j=t
  ·subst e;rw [if_pos rfl] at hj;cases hj;exact hd
  ·rw [if_neg e] at hj;exact st.low j x hj
inductive vi (V0:Nat->Addr)(U:Store)(s:Shared)(E:AEnv)(cc Pt:Addr)(es:List (Int×Int×Nat))(cl:List (Str×Nat))(scope:Scope)(pos:Pos):Prop
 | mk (mg:Str->Option Value) (ps:Array Value) (gT:s.heap.get? Pt=some (tabObj ps)) (hps:ps.toList=bf V0 es) (hlt:∀e∈es,e.2.2<U.length) (hg:s.heap.Ns mainGlobals mg) (hgP:mainGlobals≠Pt) (hB:s.heap.BuiltinsAt mg Pt) (C:CodeHd s.heap cc Pt)
  (hcd:(E.conc V0).code=.ref cc) (hclos:closureFor scope (E.conc V0)=pure (aM V0 cl)) (hclt:∀p∈cl,p.2<U.length) (htr:TriplesOk ps.toList) (hca:codeAmong pos ps.toList=(dt pos es).map λk=>.ref (V0 k)):vi V0 U s E cc Pt es cl scope pos
theorem pY (hcode:E.code=.top (.ref cc))(hq:(cc,Pt)∈c.tabs)(ht:U.at t=some (.tab Pt es))(hcl:ba E.cells scope.names []=some cl)(ok:κ.Ok c P)(st:St κ V0 U s)(hv:E.Valid U.length):vi V0 U s E cc Pt es cl scope pos:=by
 obtain ⟨oT,gT,ps,hoT,hps,hlt⟩:=st.obj _ _ ht
 subst hoT
 rw [st.low _ _ ht] at gT
 obtain ⟨mg,bm,ob,b0,b1,b2,b3,b4,b5,b6,b7⟩:=ok.bmain
 have top:=st.top ok
 have hg:s.heap.Ns mainGlobals mg:=b0.keeps top
 have hgP:mainGlobals≠Pt:=λw=>by
  obtain ⟨o,es,ep,e,hd,_⟩:=hg
  rw [w,gT] at e;cases e;cases hd
 have hbP:bm≠Pt:=λw=>by
  have:=top _ _ b4
  rw [w,gT] at this;cases this;cases b7
 exact ⟨mg,ps,gT,hps,hlt,hg,hgP,⟨bm,ob,b1,b2,b3,hbP,top _ _ b4,b5,b6,b7⟩,(ok.tabs _ hq).keeps top,by show b9 V0 E.code=_;rw [hcode];rfl,jN E V0 hcl,
  nv hv.cells hcl (λp hp=>nomatch hp),hps▸ii _ _,hps▸fJ V0 pos es⟩
theorem St.lam (st:St κ V U s)(ok:κ.Ok c P){c':Addr}{es':List (Int×Int×Nat)}{ac al:AObj}{h':Heap}{tk:Nat}{oT oc ol:Obj}(ht:U.at t=some (.tab Pt es))(gT:s.heap.get? Pt=some oT)(hx:Heap.ExtBut Pt s.heap h')(hge:s.heap.objs.size<=c')
  (hc:h'.get? c'=some oc) (hac:ac.need c') (rc:OR κ.p κ.w (aw V U.length c') (U.length+1) ac oc) {oT':Obj} (gT':h'.get? Pt=some oT') (rT:OR κ.p κ.w (aw V U.length c') (U.length+1) (.tab Pt es') oT')
  (hf:ol.isFreed=false) (rl:OR κ.p κ.w (aw (aw V U.length c') (U.length+1) h'.objs.size) (U.length+1+1) al ol) (hw:∀a,4<=a->al.need a):St κ (aw (aw V U.length c') (U.length+1) h'.objs.size) (U.put t (.tab Pt es')++[some ac]++[some al]) {s with heap:=h'.push ol,toks:=tk}:=by
 have hVt:=st.low _ _ ht
 have htl:=Store.at_lt ht
 have gl:(U.gone t).length=U.length:=Store.gone_length _ _
 have st1:St κ V (U.gone t) {s with heap:=h',toks:=tk}:=st.lost ok ht (λb o hb e=>hx b o (by rw [hVt] at hb;exact hb) e) tk s.drawn
 have new1:∀j x,U.at j=some x->V j≠c':=λj x hj w=>by
  obtain ⟨o,go,_⟩:=st.obj _ _ hj
  exact absurd (Heap.lt_size go) (by rw [w];exact Nat.not_lt.mpr hge)
 have goneAt:∀{j x},(U.gone t).at j=some x->U.at j=some x/\j≠t:=λ{j x} h=>by
  rw [Store.at_gone] at h
  split at h
  ·cases h
  ·rename_i w;exact ⟨h,w⟩
 have e1:Ext U.length V (aw V U.length c'):=ah V _ c'
 have hc0:κ.h₀.get? c'=none:=by
  cases w:κ.h₀.get? c' with
  | none=>rfl
  | some o=>obtain ⟨sl,p,_⟩:=st.keep _ _ w;exact absurd (Heap.lt_size p) (Nat.not_lt.mpr hge)
 have st2:=St.found st1 (ao:=ac) hc (λj x hj=>new1 j x (goneAt hj).1) hc0 hac (by rw [gl];exact rc)
 rw [gl] at st2
 have hVt2:aw V U.length c' t=Pt:=by rw [e1 _ htl,hVt]
 have l2:((U.gone t)++[some ac]).length=U.length+1:=by rw [List.length_append,gl];rfl
 have st3:=St.refound st2 (t:=t) (by rw [l2];exact Nat.lt_succ_of_lt htl) (ao:=.tab Pt es') (by rw [hVt2];exact gT') (λj x hne hj=>by
   rw [hVt2]
   rw [Store.at_push,gl] at hj
   by_cases w:j=U.length
   ·rw [w,ad]
    intro z
    exact absurd (Heap.lt_size gT) (by rw [←z];exact Nat.not_lt.mpr hge)
   ·rw [if_neg w] at hj
    have hj':=goneAt hj
    rw [e1 _ (Store.at_lt hj'.1)]
    intro z
    exact hne (st.inj _ _ _ _ hj'.1 ht (z.trans hVt.symm))) (by rw [hVt2,←hVt];exact st.new _ _ ht) hVt2 (by rw [l2];exact rT)
 have hs3:((U.gone t)++[some ac]).put t (.tab Pt es')=U.put t (.tab Pt es')++[some ac]:=by
  unfold Store.put Store.gone
  rw [List.set_append_left _ _ (by simpa using htl),List.set_set]
 have hl3:(U.put t (.tab Pt es')++[some ac]).length=U.length+1:=by rw [List.length_append,Store.put_length];rfl
 rw [hs3] at st3
 have st4:=St.push st3 (ao:=al) (o:=ol) hf (by rw [hl3];exact rl) tk s.drawn hw
 rw [hl3] at st4
 exact st4
theorem l8 {body:Expr}{k:Nat}(hqn:E.qual ++ "<lambda>" = qn)(hcode:E.code=.top (.ref cc))(hq:(cc,Pt)∈c.tabs)(hdef:∀env,defaultsOf params env=([],[]))
  (ht:U.at t=some (.tab Pt es)) (hcl:ba E.cells scope.names []=some cl) (hf:dt pos es=some k) (hk:U.at k=some (.code qn)) (q:Q (.loc U.length) (U++[some (.lam qn params body scope cl k)])):TE c P E (.Lambda params body scope pos) Q X U:=by
 subst hqn
 refine TM.mk λκ V0 s g=>kla_eval (hdef _) ?_
 obtain ⟨mg,ps,gT,hps,hlt,hg,hgP,hB,C,hcd,hclos,hclt,htr,hca⟩:=pY (pos:=pos) hcode hq ht hcl g.ok g.st g.hv0
 rw [hf] at hca
 have hkl:=Store.at_lt hk
 refine kla_makeFunctionHit (mg:=mg) hclos rfl hg hcd C gT htr hca hB λctv h' tk hkp hsz=>?_
 have e1:=ah V0 U.length h'.objs.size
 exact (g.step e1 (by simp) (St.push (g.st.grown g.ok hkp tk s.drawn) (ao:=.lam (E.qual ++ "<lambda>") params body scope cl k) (o:=kla_obj "<lambda>" (E.qual ++ "<lambda>") params body scope (aM V0 cl) ((mg "__name__").getD .none) (V0 k) ctv) rfl ⟨Nat.lt_succ_of_lt hkl,λx hx=>Nat.lt_succ_of_lt (hclt x hx),_,ctv,by rw [du e1 hclt,e1 _ hkl]⟩ tk s.drawn)).doneV (a:=.loc U.length) ⟨by simp,by rw [ad]⟩ q
theorem lZ {body:Expr}(hqn:E.qual ++ "<lambda>" = qn)(hcode:E.code=.top (.ref cc))(hq:(cc,Pt)∈c.tabs)(hdef:∀env,defaultsOf params env=([],[]))
  (ht:U.at t=some (.tab Pt es)) (hcl:ba E.cells scope.names []=some cl) (hf:dt pos es=none) (q:Q (.loc (U.length+1)) (U.put t (.tab Pt (es++[((pos.line:Int),(pos.col:Int),U.length)]))++[some (.code qn)]++[some (.lam qn params body scope cl U.length)])):TE c P E (.Lambda params body scope pos) Q X U:=by
 subst hqn
 refine TM.mk λκ V0 s g=>kla_eval (hdef _) ?_
 obtain ⟨mg,ps,gT,hps,hlt,hg,hgP,hB,C,hcd,hclos,hclt,htr,hca⟩:=pY (pos:=pos) hcode hq ht hcl g.ok g.st g.hv0
 rw [hf] at hca
 refine kla_makeFunction (mg:=mg) hclos rfl hg hcd C gT htr hca hgP hB λc' ctv h' tk hx hge hlt' hrec htb=>?_
 obtain ⟨c2,oc,vs,tq,ec,hoc,hd,hv⟩:=hrec
 cases ec
 have e1:=ah V0 U.length c'
 have e2:=ah (aw V0 U.length c') (U.length+1) h'.objs.size
 have e3:=e1.trans (Nat.le_succ _) e2
 refine (g.step e3 (by simp) (g.st.lam g.ok (ac:=.code (E.qual ++ "<lambda>")) (al:=.lam (E.qual ++ "<lambda>") params body scope cl U.length) (ol:=kla_obj "<lambda>" (E.qual ++ "<lambda>") params body scope (aM V0 cl) ((mg "__name__").getD .none) c' ctv) ht gT hx hge hoc trivial ⟨vs,tq,hd,hv⟩ htb ⟨_,rfl,?_,λx hx=>?_⟩ rfl ⟨by omega,λx hx=>by have:=hclt x hx;omega,_,ctv,by rw [du e3 hclt,e2 _ (Nat.lt_succ_self _),ad]⟩ (λω ω=>trivial))).doneV (a:=.loc _) ⟨by simp,by rw [ad]⟩ q
 ·have:=ik e1 hlt
  unfold bf at this hps ⊢
  rw [List.flatMap_append,this,←hps]
  simp [ad]
 ·rcases List.mem_append.mp hx with hx | hx
  ·exact Nat.lt_succ_of_lt (hlt x hx)
  ·simp at hx;subst hx;exact Nat.lt_succ_self _
end
end
section
section
variable {c:Cfg}{P:SP}{E:AEnv}{κ:KX}{V0 V:Nat->Addr}{n0 n:Nat}{U:Store}{s:Shared}{X:XP}
variable {Q:AVal->Store->Prop}{o:Expr}{pos:Pos}
noncomputable def gR (i:Nat)(qual:Str)(scope:Scope)(cl:List (Str×Nat))(k:Nat)(U:Store):AEnv×Store:=bq scope cl (qual ++ ".<locals>.") (.loc i) (.loc k) U
theorem TK_lam {i k:Nat}{qual:Str}{params:Arguments}{body:Expr}{scope:Scope}{cl:List (Str×Nat)}(hi:U.at i=some (.lam qual params body scope cl k))(hk:U.at k=some (.code qual))(hd:0<P.d)
  (hsc:scope.kind=.function/\scope.isCoroutine=false/\scope.isGenerator=false) (hb:∀cl pm cdv ct,bindArgs (kla_fn "<lambda>" qual params body scope cl pm cdv ct) ⟨[],[]⟩=pure [])
  (h:TE c P.down (gR i qual scope cl k U).1 body (λa U1=>Q a U1) (aD (gR i qual scope cl k U).1 X) (gR i qual scope cl k U).2):TK c P (.loc i) [] [] Q X U:=by
 intro κ V s vf vs ks ok hfr st hf ha hkw
 cases ha;cases hkw
 obtain ⟨hil,rfl⟩:=hf
 obtain ⟨o,g,hkl,hcl,pm,ctv,rfl⟩:=st.obj _ _ hi
 obtain ⟨oc,gc,cvs,tq,hcd,hcq⟩:=st.obj _ _ hk
 refine kla_callFunE (Nat.lt_of_lt_of_le (show κ.A.depth<601 from by have:=ok.depth;omega) (by decide)) g rfl hsc.2.1 hsc.2.2 rfl ⟨V k,oc,cvs,tq,rfl,gc,hcd,hcq⟩ ?_
 rw [hb]
 refine wpAny_pure ?_
 have:=nM (c:=c) (κ:=κ.inOne) (X:=noX) (scope:=scope) (cl:=cl) (qual:=qual ++ ".<locals>.") (func:=.loc i) (code:=.loc k) st.inOne hcl hil hkl (.nil:All2 (KVR V U.length) [] []) .nil
 refine wpAny_mono this ?_ ?_
 ·rintro env s2 ⟨V2,U2',ex2,l2,st2,rfl,rfl,hv⟩
  obtain ⟨mg',mb',T'⟩:=st2.outOne.topRead ok
  refine ⟨T'.nolimit,kla_codeExpr ?_⟩
  exact vj (E':=(gR i qual scope cl k U).1) hd ok hfr hsc.1 rfl h ex2 l2 st2.outOne hv λv s3 V3 U3 ex3 l3 st3 h=>⟨V3,U3,ex3,l3,st3,h⟩
 ·rintro e s2 ⟨_,_,_,_,_,_,_,_,x⟩
  exact x.elim
inductive iH (U:Store):AVal->Prop
 | str {x:Str}:iH U (.str x)
 | bytes {x:Array UInt8}:iH U (.bytes x)
 | list {i:Nat} {l:List AVal} (h:U.at i=some (.list l)):iH U (.loc i)
 | dict {i:Nat} {l:List (Str×AVal)} (h:U.at i=some (.dict l)):iH U (.loc i)
 | dictE {i ep:Nat} {l:List (Str×AVal)} (h:U.at i=some (.dictE l ep)):iH U (.loc i)
theorem item_ok (st:St κ V U s){o:AVal}(h:iH U o){v:Value}(ra:VR V U.length o v):∃T id,s.TypeIs v T/\typeLookup (.type T) "__getitem__" = pure (some (.builtin id)):=by
 cases h with
 | str=>exact ⟨_,_,(kl st .str ra).1,PySem.F.slot_str_getitem.lookup⟩
 | bytes=>exact ⟨_,_,(kl st .bytes ra).1,FB.slot_bytes_getitem.lookup⟩
 | list h=>exact ⟨_,_,(kl st (.list h) ra).1,slot_list_getitem.lookup⟩
 | dict h=>exact ⟨_,_,(kl st (.dict h) ra).1,slot_dict_getitem.lookup⟩
 | dictE h=>exact ⟨_,_,(kl st (.dictE h) ra).1,slot_dict_getitem.lookup⟩
noncomputable def iW (e:Expr):Bool:=Nat.beq e.ctorIdx 26
theorem f8 {e:Expr}(h:iW e=false)(o i:Value):subscripted e false o i=operate [o,i] (getItem o i):=by
 cases e <;> first | rfl | exact absurd h.symm Bool.false_ne_true
theorem lY {i:Expr}(hs:iW i=false)(h:TE c P E o (λa U1=>TE c P E i (λb U2=>iH U2 a/\OP2 c P getItem a b (gV Q) X U2) X U1) X U):TE c P E (.Subscript o i pos) Q X U:=by
 refine TM.mk λκ V0 s g=>Subscript_ (h.go g ?_)
 rintro V1 U1 v s₁ g₁ e1 l1 ⟨a,ra,h₁⟩
 refine h₁.go g₁ ?_
 rintro V2 U2 w s2 g2 e2 l2 ⟨b,rb,hT,h₂⟩
 obtain ⟨T,id,t1,t2⟩:=item_ok g2.st hT (ra.ext e2 l2)
 exact tail_any t1 t2 ((h₂ κ V2 s2 v w g2.ok g2.st (ra.ext e2 l2) rb).end g2) (f8 hs v w)
theorem uP {e:Option Expr}(h:match e with | some x=>TE c P E x Q X U | none=>Q .none U):TM c P E (λenv=>valueOrNone (evalOpt e env)) (gV Q) X U:=by
 refine TM.mk λκ V0 s g=>?_
 cases e with
 | none=>exact wpAny_pure (g.doneV (a:=.none) rfl h)
 | some x=>exact TM.end h g
theorem uO {lo hi:Option Expr}{spos:Pos}
  (h:TE c P E o (λa U1=>TM c P E (λenv=>valueOrNone (evalOpt lo env)) (gV λl U2=>TM c P E (λenv=>valueOrNone (evalOpt hi env)) (gV λr U3=>SliceI a l r Q U3) X U2) X U1) X U):TE c P E (.Subscript o (.Slice lo hi none spos) pos) Q X U:=by
 refine TM.mk λκ V0 s g=>Subscript_ (h.go g ?_)
 rintro V1 U1 v s₁ g₁ e1 l1 ⟨a,ra,h₁⟩
 rw [arm_eval_Slice]
 refine wpAny_bind (TM.go (t:=λenv=>valueOrNone (evalOpt lo env)) h₁ g₁ ?_)
 rintro V2 U2 l s2 g2 e2 l2 ⟨al,rl,h₂⟩
 refine wpAny_bind (wpAny_holding (TM.go (t:=λenv=>valueOrNone (evalOpt hi env)) h₂ g2 ?_))
 rintro V3 U3 u s3 g3 e3 l3 ⟨au,ru,hs⟩
 refine wpAny_bind (wpAny_holding (wpAny_pure ?_))
 exact wpAny_mono (hs κ V3 s3 v l u o lo hi spos _ g3.st ((ra.ext e2 l2).ext e3 l3) (rl.ext e3 l3) ru) (λi s4 h4=>wpAny_mono h4 (λr s5 hp=>Post.back g3.e0 g3.l0 hp) λω ω h=>h) λω ω h=>h
end
end
section
theorem pT:mroOf (.type "object")=pure [.type "object"]:=by rw [mroOf_type];kernel_rfl
theorem jy:typeLookup (.type "object") "__new__" = pure (some (.builtin "object.__new__")):=by rw [typeLookup_type,builtinLookup_eq_fast];kernel_rfl
theorem tR:Bind.madeBy (.type "object")=pure (some "object.__new__"):=madeBy_type pT jy (by decide +kernel)
theorem i8:checkTypeCall "object" ⟨[],[]⟩=pure ():=by kernel_rfl
theorem j6:checkBuiltinCall "object.__new__" ⟨[.type "object"],[]⟩=pure ():=by kernel_rfl
theorem mG:Builtin.«object.__new__» ⟨[.type "object"],[]⟩=(newObj (.type "object") .plain none >>= λv=>ret v):=by kernel_rfl
theorem sub_obj:isSubtype (.type "object") (.type "object")=pure true:=by rw [isSubtype_type];kernel_rfl
theorem pf:TypeCalled "object" "object.__new__" "object.__init__":=
 ⟨by decide +kernel,by decide +kernel,⟨_,_,pT⟩,tR,by decide +kernel,sub_obj,F.slot_object_init⟩
theorem j8:entryFor table "object.__new__" = some Builtin.«object.__new__»:=entryFor_of_tree (by kernel_rfl)
theorem j3:Meets (Builtin.«object.__new__» ⟨[.type "object"],[]⟩) (λω R s=>R (.ok (.ret (.ref s.heap.objs.size))) {s with heap:=s.heap.push {cls:=.type "object"}}):=by
 refine Meets.of_wp λprog w A R s hs=>?_
 rw [mG]
 refine wpAny_bind (wpAny_newObj_type ?_ (by size_fits))
 exact wpAny_pure ⟨_,rfl,hs⟩
theorem jo {self:Value}:Meets (Builtin.«object.__init__» ⟨[self],[]⟩) (λω R s=>R (.ok (.ret .none)) s):=
 Meets.of_wp λprog w A R s hs=>wpAny_pure ⟨_,rfl,hs⟩
section
variable {prog:Program}{w:World}{A:Around}{E:Value->Shared->Prop}{s:Shared}
theorem nw {Q:Value->Shared->Prop}(h:Q (.ref s.heap.objs.size) {s with heap:=s.heap.push {cls:=.type "object"}}):wpAny (model prog w) A (call (.type "object") []) Q E s:=
 callType_meets (Q₁:=λr s₁=>r=.ref s.heap.objs.size/\s₁={s with heap:=s.heap.push {cls:=.type "object"}}) pf i8 j6 j8 F.entry_object_init j3 ⟨rfl,rfl⟩ λobj s₁ hq=>by
  obtain ⟨rfl,rfl⟩:=hq
  exact ⟨⟨_,Heap.get?_push_size _ rfl,rfl⟩,F.args_object_init_1 _,_,jo,rfl,h⟩
end
section
variable {c:Cfg}{P:SP}{E:AEnv}{κ:KX}{V0 V:Nat->Addr}{n0 n:Nat}{U:Store}{s:Shared}{X:XP}
variable {Q:AVal->Store->Prop}{i:Nat}{l:List AVal}
theorem qV (q:Q (.loc U.length) (U++[some .object])):OPc c P (.type "object") [] Q X U:=by
 intro κ V s vs ok st hv
 cases hv
 exact nw (dC (ao:=.object) st s.toks rfl rfl q)
theorem iO {l:Addr}:Meets (Builtin.«bool.__new__» ⟨[.type "bool",.ref l],[]⟩) (λω R s=>∃items,s.heap.IsList l items/\(items.size:Int)<2 ^ 63/\R (.ok (.ret (.bool (!items.isEmpty)))) {s with toks:=s.toks+1+1}):=by
 refine Meets.of_wp λprog w A R s hs=>?_
 obtain ⟨items,il,hz,hq⟩:=hs
 have f1:=F.conv_sub_bool
 repeat (any_goals (first | assumption | with_reducible refine wpAny_truthy_list il hz ?_ | wp_step))
 all_goals first | exact ⟨_,rfl,hq⟩ | skip
theorem mF (hi:U.at i=some (.list l))(hl:l.length<=lenLine)(q:Q (.bool (!l.isEmpty)) U):OPc c P (.type "bool") [.loc i] Q X U:=by
 refine OPc.of1L λκ V s ok st ω=>?_
 obtain ⟨vs,il,rl⟩:=st.isList hi
 refine call_bool_1 iO ⟨_,il,?_,rfl,?_⟩
 ·rw [List.size_toArray,rl.size];unfold lenLine at hl;omega
 ·rw [eC,rl.isEmpty];exact dI (a:=.bool (!l.isEmpty)) st (st.toks _ s.drawn) rfl rfl q
theorem q9:builtinKind "iter" = none:=by decide +kernel
theorem oh:plainId "iter" = true:=by decide +kernel
theorem o8:entryFor table "iter" = some Builtin.«iter»:=entryFor_of_tree (by kernel_rfl)
theorem pk (a:Value):argsOk "iter" ⟨[a],[]⟩:=by unfold argsOk;kernel_rfl
theorem mE (hi:U.at i=some (.list l))(q:Q (.loc U.length) (U++[some (.iterL i 0)])):OPc c P (.builtin "iter") [.loc i] Q X U:=by
 refine OPc.of1L λκ V s ok st hl=>?_
 obtain ⟨vs,il,rl⟩:=st.isList hi
 refine call_function_entry q9 oh o8 (pk _) ?_
 unfold Builtin.«iter»
 refine wpAny_bind (m:=someArgs "iter" 1 2 _) (wpAny_pure ?_)
 dsimp only
 refine wpAny_bind (wpAny_pyIter_list il ?_)
 refine wpAny_pure ⟨_,rfl,?_⟩
 have e:=ah V U.length s.heap.objs.size
 exact dC (ao:=.iterL i 0) st s.toks rfl ⟨Nat.lt_succ_of_lt hl,by rw [e _ hl];rfl⟩ q
end
end
section
theorem ap_look:typeLookup (.type "list") "append" = pure (some (.builtin "list.append")):=by rw [typeLookup_type,builtinLookup_eq_fast];kernel_rfl
theorem qv:typeOf (.builtin "list.append")=pure (.type "method_descriptor"):=by kernel_rfl
theorem tM:typeLookup (.type "method_descriptor") "__get__" = pure (some (.builtin "method_descriptor.__get__")):=by rw [typeLookup_type,builtinLookup_eq_fast];kernel_rfl
theorem md_set:typeLookup (.type "method_descriptor") "__set__" = pure none:=by rw [typeLookup_type,builtinLookup_eq_fast];kernel_rfl
theorem md_del:typeLookup (.type "method_descriptor") "__delete__" = pure none:=by rw [typeLookup_type,builtinLookup_eq_fast];kernel_rfl
theorem slot_mdget:Slot "method_descriptor" "__get__" "method_descriptor.__get__":=
 .of (owner:="method_descriptor") (n:="__get__") tM (by decide +kernel) (by decide +kernel) (by decide +kernel)
  (by first | exact .inl (by decide +kernel) | exact .inr (by decide +kernel)) (by rw [isSubtype_type];kernel_rfl)
theorem own_ap:(".".intercalate ("list.append".cutAt '.').dropLast) = "list":=by first | decide +kernel | kernel_rfl
theorem sub_ap:isSubtype (.type "list") (.type (".".intercalate ("list.append".cutAt '.').dropLast))=pure true:=by rw [own_ap,isSubtype_type];kernel_rfl
theorem nj:entryFor table "method_descriptor.__get__" = some Builtin.«method_descriptor.__get__»:=entryFor_of_tree (by kernel_rfl)
theorem pj (a b c:Value):argsOk "method_descriptor.__get__" ⟨[a,b,c],[]⟩:=by unfold argsOk;kernel_rfl
theorem told_ap:Manifest.toldItsClass.contains "list.append" = false:=by decide +kernel
theorem lS (a:Addr)(xs:Array Value)(k:Nat)(sl:Array (Option Value))(u:Tok) :
  Meets (Builtin.«object.__getattribute__» ⟨[.ref a,.str "append" u],[]⟩) (λA R s=>s.heap.get? a=some {cls:=.type "list",dict:=none,data:=.seq xs k,slots:=sl}/\R (.ok (.ret (.ref s.heap.objs.size))) {s with heap:=s.heap.push {cls:=.type "builtin_function_or_method",data:=.fields #[.builtin "list.append",.ref a]}}):=
 Meets.of_wp λprog w A R s hs=>by
  obtain ⟨hp,g,d,tk,os⟩:=s
  obtain ⟨hx,hs⟩:=hs
  have hT:(⟨hp,g,d,tk,os⟩:Shared).TypeIs (.ref a) "list":=⟨_,hx,rfl⟩
  have f1:=ap_look
  have f2:=qv
  have f3:=tM
  have f4:=md_set
  have f5:=md_del
  unfold Builtin.«object.__getattribute__»
  repeat (any_goals (first | assumption | wp_step))
  refine codeAny_call_builtin slot_mdget.plain nj (slot_mdget.check _ _ _ _ _ _ _ _ (show (⟨hp,g,d,tk,os⟩:Shared).TypeIs (.builtin "list.append") "method_descriptor" from qv) (pj _ _ _) ?_)
  have f6:=sub_ap
  have f7:=told_ap
  unfold Builtin.«method_descriptor.__get__»
  repeat (any_goals (first | assumption | wp_step))
  exact ⟨_,rfl,hs⟩
theorem jE {prog:Program}{w:World}{A:Around}{E:Value->Shared->Prop}{s:Shared}{a:Addr}{xs:Array Value}{k:Nat}{sl:Array (Option Value)}{Q:Value->Shared->Prop}
  (hx:s.heap.get? a=some {cls:=.type "list",dict:=none,data:=.seq xs k,slots:=sl})
  (h:∀tk,Q (.ref s.heap.objs.size) {s with heap:=s.heap.push {cls:=.type "builtin_function_or_method",data:=.fields #[.builtin "list.append",.ref a]},toks:=tk}) :
  wpAny (model prog w) A (getAttr (.ref a) "append" true) Q E s:=by
 obtain ⟨hp,g,d,tk,os⟩:=s
 have hT:∀tk',(⟨hp,g,d,tk',os⟩:Shared).TypeIs (.ref a) "list":=λω=>⟨_,hx,rfl⟩
 have f3:=PySem.F.slot_list_getattribute.lookup
 have f4:=PySem.F.slot_list_getattribute.bind (.ref a)
 have f5:=am_list_getattr_none
 unfold getAttr getAttrBy
 repeat (any_goals (first | assumption | exact hT _ | ((with_reducible show wpAny _ _ (call (Value.builtin "list.__getattribute__") _ _) _ _ _);refine call_meets PySem.F.slot_list_getattribute (hT _) am_entry_list_getattribute (PySem.F.args_list_getattribute_2 _ _) (lS a xs k sl _) ⟨hx,?_⟩) | wp_step))
 all_goals (show wpAny _ _ (handedOut (.ref _)) _ _ _;first | exact wpAny_pure (h _) | (repeat (any_goals (first | assumption | exact h _ | wp_step))))
section
variable {c:Cfg}{P:SP}{E:AEnv}{κ:KX}{V0 V:Nat->Addr}{n0 n:Nat}{U:Store}{s:Shared}{X:XP}
theorem l9 {i:Nat}{l:List AVal}{Q:AVal->Store->Prop}(hi:U.at i=some (.list l))(q:Q (.loc U.length) (U++[some (.bmeth "builtin_function_or_method" "list.append" (.loc i))])):d8 c P (.loc i) "append" Q X U:=by
 intro κ V s v ok st ra
 obtain ⟨hl,rfl⟩:=ra
 obtain ⟨o,go,vs,ep,rfl,rv⟩:=st.obj _ _ hi
 refine jE go λtk=>?_
 have e:=ah V U.length s.heap.objs.size
 exact dC (ao:=.bmeth "builtin_function_or_method" "list.append" (.loc i)) st tk rfl ⟨.ref (V i),VR.ext (a:=.loc i) ⟨hl,rfl⟩ e (Nat.le_succ _),rfl⟩ q
end
end
section
variable {f:Addr}{α:Type}{names:List Str}
noncomputable def fnAt (K:Frag)(f:Addr):FuncData:=match K.lookup f with
 | some ⟨_,_,.func fd,_⟩=>fd
 | _=>default
noncomputable def oJ (K:Frag)(f:Addr):Bool:=match K.lookup f with
 | some ⟨_,_,.func _,_⟩=>true
 | _=>false
theorem fnAt_of {K:Frag}(h:oJ K f=true):∃oc od osl,K.lookup f=some ⟨oc,od,.func (fnAt K f),osl⟩:=by
 unfold oJ at h
 unfold fnAt
 cases e:K.lookup f with
 | none=>rw [e] at h;exact absurd h Bool.false_ne_true
 | some o=>
  rw [e] at h
  obtain ⟨oc,od,d,osl⟩:=o
  cases d <;> first | exact ⟨oc,od,osl,rfl⟩ | exact absurd h Bool.false_ne_true
noncomputable def pg:FuncBody->List Stmt
 | .stmts b=>b
 | _=>[]
noncomputable def P0:Params:={strHash:=λω=>0,shareClass:=λω=>0,mergeTok:=λt=>t,idOf:=λω=>0,idOfShared:=λω ω=>0,followText:=λω=>false,idOfImm:=λω=>0}
noncomputable def dQ (f:Addr):FuncData:=fnAt (hd.heap_1 P0) f
noncomputable def ty (names ks:List Str)(ex:List (Str×AVal))(args:List AVal)(kw:List (Str×AVal))(U:Store):Option (List (Str×AVal)×Store):=
 if args.length=names.length/\kw.map Prod.fst=ks then some (names.zip args++(kw++ex),U) else none
noncomputable abbrev am (names:List Str):=ty names [] []
noncomputable def bP (f:Addr)(bind:List AVal->List (Str×AVal)->Store->Option (List (Str×AVal)×Store)):dS:={fd:=dQ f,body:=pg (dQ f).body,bind}
structure aS (f:Addr):Prop where
 is:∀P,oJ (hd.heap_1 P) f=true
 eq:∀P,fnAt (hd.heap_1 P) f=dQ f
 body:(dQ f).body=.stmts (pg (dQ f).body)
 co:(dQ f).scope.isCoroutine=false
 gen:(dQ f).scope.isGenerator=false
 kind:(dQ f).scope.kind=.function
 globals:(dQ f).globals=mainGlobals
 closure:(dQ f).closure=[]
 builtins:(dQ f).builtins=builtinsNs
 code:∀P,codeIn (hd.heap_1 P) (dQ f).code (dQ f).qualname=true
def aE (f:Addr)(bind:List AVal->List (Str×AVal)->Store->Option (List (Str×AVal)×Store)):Prop:=∀(κ:KX) V U s args kw vs ks bs U' (E:Value->Shared->Prop),(hd.heap_1 κ.w.params).In s.heap->St κ V U s->VRs V U.length args vs->All2 (KVR V U.length) kw ks->bind args kw U=some (bs,U')->
  wpAny (model κ.p κ.w) κ.A (bindArgs (dQ f) ⟨vs,ks⟩) (λbinds s'=>∃V',Ext U.length V V'/\U.length<=U'.length/\St κ V' U' s'/\All2 (KVR V' U'.length) bs binds) E s
theorem dH {bind:List AVal->List (Str×AVal)->Store->Option (List (Str×AVal)×Store)}(h:aS f)(b:aE f bind):FnOk hd.heap_1 f (bP f bind) where
 at_:=λP=>by
  obtain ⟨oc,od,osl,e⟩:=fnAt_of (h.is P)
  rw [h.eq P] at e
  exact ⟨oc,od,osl,e⟩
 body:=h.body
 co:=h.co
 gen:=h.gen
 kind:=h.kind
 globals:=h.globals
 closure:=h.closure
 builtins:=h.builtins
 code:=h.code
 binds:=b
theorem All2.zip {V:Nat->Addr}{n:Nat}(names:List Str){as:List AVal}{vs:List Value}(h:VRs V n as vs):All2 (KVR V n) (names.zip as) (names.zip vs):=by
 induction h generalizing names with
 | nil=>rw [List.zip_nil_right,List.zip_nil_right];exact .nil
 | cons r _ ih=>cases names with
  | nil=>exact .nil
  | cons x names=>exact .cons ⟨rfl,r⟩ (ih names)
theorem KVR.fsts {V:Nat->Addr}{n:Nat}{kw:List (Str×AVal)}{ks:List (Str×Value)}(h:All2 (KVR V n) kw ks):ks.map Prod.fst=kw.map Prod.fst:=by
 induction h with
 | nil=>rfl
 | cons r _ ih=>exact congr (congrArg List.cons r.1.symm) ih
theorem zip_fst {β:Type}(l:List (α×β)):(l.map Prod.fst).zip (l.map Prod.snd)=l:=by
 induction l with
 | nil=>rfl
 | cons a l ih=>exact congrArg (List.cons a) ih
def AllV:Nat->(List Value->Prop)->Prop
 | 0,p=>p []
 | n+1,p=>∀a,AllV n λl=>p (a::l)
theorem AllV.get {vs:List Value}:∀{p:List Value->Prop},AllV vs.length p->p vs:=by
 induction vs with
 | nil=>exact λh=>h
 | cons a vs ih=>exact λ{p} h=>ih (p:=λl=>p (a::l)) (h a)
theorem mU {p:Prop} [Decidable p]{x y:α}(h:(if p then some x else none)=some y):p/\x=y:=by
 by_cases c:p
 ·exact ⟨c,Option.some.inj ((if_pos c).symm.trans h)⟩
 ·exact absurd ((if_neg c).symm.trans h) (Option.some_ne_none _).symm
theorem iS {ks:List Str}{ex:List (Str×AVal)}{exv:List (Str×Value)}(hx:∀V n,All2 (KVR V n) ex exv)
  (h:∀P S,AllV names.length λvs=>AllV ks.length λws=>peek (hd.heap_1 P) S (bindArgs (dQ f) ⟨vs,ks.zip ws⟩)=some (names.zip vs++(ks.zip ws++exv))):aE f (ty names ks ex):=
 λκ V U s args kw vs kv bs U' E X st ra rk e=>by
 obtain ⟨⟨h1,h2⟩,hb⟩:=mU e
 obtain ⟨e1,e2⟩:=Prod.mk.inj hb
 have e3:kv.map Prod.fst=ks:=(KVR.fsts rk).trans h2
 have e4:ks.zip (kv.map Prod.snd)=kv:=e3▸zip_fst kv
 have h3:=h κ.w.params ⟨κ.p,κ.w.params⟩
 rw [h1.symm.trans (All2.length ra)] at h3
 have h4:=AllV.get h3
 have h5:ks.length=(kv.map Prod.snd).length:=by rw [←e3,List.length_map,List.length_map]
 rw [h5] at h4
 have h6:=AllV.get h4
 rw [e4] at h6
 exact e1▸e2▸(Looks.of_peek (M:=model κ.p κ.w) X h6).here ⟨V,Ext.refl _ _,Nat.le_refl _,st,(All2.zip names ra).append (rk.append (hx _ _))⟩
theorem aB (h:∀P S,AllV names.length λvs=>peek (hd.heap_1 P) S (bindArgs (dQ f) ⟨vs,[]⟩)=some (names.zip vs++[])):aE f (am names):=iS (exv:=[]) (λω ω=>.nil) h
theorem ff53:aS 53:=⟨λP=>by k_lt u,λP=>by k_lt u,by k_lt u,by k_lt u,by k_lt u,by k_lt u,by k_lt u,by k_lt u,by k_lt u,λP=>by k_lt u⟩
theorem ff90:aS 90:=⟨λP=>by k_lt u,λP=>by k_lt u,by k_lt u,by k_lt u,by k_lt u,by k_lt u,by k_lt u,by k_lt u,by k_lt u,λP=>by k_lt u⟩
theorem ff97:aS 97:=⟨λP=>by k_lt u,λP=>by k_lt u,by k_lt u,by k_lt u,by k_lt u,by k_lt u,by k_lt u,by k_lt u,by k_lt u,λP=>by k_lt u⟩
theorem ff104:aS 104:=⟨λP=>by k_lt u,λP=>by k_lt u,by k_lt u,by k_lt u,by k_lt u,by k_lt u,by k_lt u,by k_lt u,by k_lt u,λP=>by k_lt u⟩
theorem ff109:aS 109:=⟨λP=>by k_lt u,λP=>by k_lt u,by k_lt u,by k_lt u,by k_lt u,by k_lt u,by k_lt u,by k_lt u,by k_lt u,λP=>by k_lt u⟩
theorem ff116:aS 116:=⟨λP=>by k_lt u,λP=>by k_lt u,by k_lt u,by k_lt u,by k_lt u,by k_lt u,by k_lt u,by k_lt u,by k_lt u,λP=>by k_lt u⟩
theorem ff123:aS 123:=⟨λP=>by k_lt u,λP=>by k_lt u,by k_lt u,by k_lt u,by k_lt u,by k_lt u,by k_lt u,by k_lt u,by k_lt u,λP=>by k_lt u⟩
theorem ff137:aS 137:=⟨λP=>by k_lt u,λP=>by k_lt u,by k_lt u,by k_lt u,by k_lt u,by k_lt u,by k_lt u,by k_lt u,by k_lt u,λP=>by k_lt u⟩
theorem ff144:aS 144:=⟨λP=>by k_lt u,λP=>by k_lt u,by k_lt u,by k_lt u,by k_lt u,by k_lt u,by k_lt u,by k_lt u,by k_lt u,λP=>by k_lt u⟩
theorem ff165:aS 165:=⟨λP=>by k_lt u,λP=>by k_lt u,by k_lt u,by k_lt u,by k_lt u,by k_lt u,by k_lt u,by k_lt u,by k_lt u,λP=>by k_lt u⟩
theorem ff172:aS 172:=⟨λP=>by k_lt u,λP=>by k_lt u,by k_lt u,by k_lt u,by k_lt u,by k_lt u,by k_lt u,by k_lt u,by k_lt u,λP=>by k_lt u⟩
theorem ff180:aS 180:=⟨λP=>by k_lt u,λP=>by k_lt u,by k_lt u,by k_lt u,by k_lt u,by k_lt u,by k_lt u,by k_lt u,by k_lt u,λP=>by k_lt u⟩
theorem ff188:aS 188:=⟨λP=>by k_lt u,λP=>by k_lt u,by k_lt u,by k_lt u,by k_lt u,by k_lt u,by k_lt u,by k_lt u,by k_lt u,λP=>by k_lt u⟩
theorem ff205:aS 205:=⟨λP=>by k_lt u,λP=>by k_lt u,by k_lt u,by k_lt u,by k_lt u,by k_lt u,by k_lt u,by k_lt u,by k_lt u,λP=>by k_lt u⟩
theorem ff212:aS 212:=⟨λP=>by k_lt u,λP=>by k_lt u,by k_lt u,by k_lt u,by k_lt u,by k_lt u,by k_lt u,by k_lt u,by k_lt u,λP=>by k_lt u⟩
theorem ff219:aS 219:=⟨λP=>by k_lt u,λP=>by k_lt u,by k_lt u,by k_lt u,by k_lt u,by k_lt u,by k_lt u,by k_lt u,by k_lt u,λP=>by k_lt u⟩
theorem ff226:aS 226:=⟨λP=>by k_lt u,λP=>by k_lt u,by k_lt u,by k_lt u,by k_lt u,by k_lt u,by k_lt u,by k_lt u,by k_lt u,λP=>by k_lt u⟩
theorem ff231:aS 231:=⟨λP=>by k_lt u,λP=>by k_lt u,by k_lt u,by k_lt u,by k_lt u,by k_lt u,by k_lt u,by k_lt u,by k_lt u,λP=>by k_lt u⟩
theorem ff236:aS 236:=⟨λP=>by k_lt u,λP=>by k_lt u,by k_lt u,by k_lt u,by k_lt u,by k_lt u,by k_lt u,by k_lt u,by k_lt u,λP=>by k_lt u⟩
theorem ff241:aS 241:=⟨λP=>by k_lt u,λP=>by k_lt u,by k_lt u,by k_lt u,by k_lt u,by k_lt u,by k_lt u,by k_lt u,by k_lt u,λP=>by k_lt u⟩
theorem ff248:aS 248:=⟨λP=>by k_lt u,λP=>by k_lt u,by k_lt u,by k_lt u,by k_lt u,by k_lt u,by k_lt u,by k_lt u,by k_lt u,λP=>by k_lt u⟩
theorem ff253:aS 253:=⟨λP=>by k_lt u,λP=>by k_lt u,by k_lt u,by k_lt u,by k_lt u,by k_lt u,by k_lt u,by k_lt u,by k_lt u,λP=>by k_lt u⟩
theorem bo53:aE 53 (am ["self","node"]):=aB λP S a b=>by refine (?_:_=_);kernel_rfl
theorem bo97:aE 97 (am ["self","node"]):=aB λP S a b=>by refine (?_:_=_);kernel_rfl
theorem bo109:aE 109 (am ["self"]):=aB λP S a=>by refine (?_:_=_);kernel_rfl
theorem bo116:aE 116 (am ["self"]):=aB λP S a=>by refine (?_:_=_);kernel_rfl
theorem bo123:aE 123 (am ["self"]):=aB λP S a=>by refine (?_:_=_);kernel_rfl
theorem bo144:aE 144 (am ["self"]):=aB λP S a=>by refine (?_:_=_);kernel_rfl
theorem bo165:aE 165 (am ["data"]):=aB λP S a=>by refine (?_:_=_);kernel_rfl
theorem bo172:aE 172 (am ["x"]):=aB λP S a=>by refine (?_:_=_);kernel_rfl
theorem bo205:aE 205 (am ["pattern"]):=aB λP S a=>by refine (?_:_=_);kernel_rfl
theorem bo212:aE 212 (am ["pat","STAR","QUESTION_MARK"]):=aB λP S a b d=>by refine (?_:_=_);kernel_rfl
theorem bo219:aE 219 (am []):=aB λP S=>by refine (?_:_=_);kernel_rfl
theorem bo226:aE 226 (am ["numbers"]):=aB λP S a=>by refine (?_:_=_);kernel_rfl
theorem bo231:aE 231 (am ["row","more","octets"]):=aB λP S a b d=>by refine (?_:_=_);kernel_rfl
theorem bo236:aE 236 (am ["parts","star","name"]):=aB λP S a b d=>by refine (?_:_=_);kernel_rfl
theorem bo241:aE 241 (am ["names","rules"]):=aB λP S a b=>by refine (?_:_=_);kernel_rfl
theorem bo248:aE 248 (am ["deed"]):=aB λP S a=>by refine (?_:_=_);kernel_rfl
theorem bo253:aE 253 (am ["sorter","names","waits"]):=aB λP S a b d=>by refine (?_:_=_);kernel_rfl
end
section
variable {α:Type}
set_option tactic.hygienic true
theorem sq {K:Frag}{M:Model}{A:Around}{E:Value->Shared->Prop}{Q:α->Shared->Prop}{s:Shared}{o:Obj}{r:Addr->α}(X:K.In s.heap)
  (q:Q (r s.heap.objs.size) {s with heap:=s.heap.push o}) :
  ∀(t:Sem α) (g:Addr->Option α),peek1 K ⟨M.prog,M.w.params⟩ t=some (o,g)->(∀D,g D=some (r D))->wpAny M A t Q E s:=by
 intro t
 induction t with
 | rule _ k ih=>intro g e hg Γ p hΓ;exact ih () g e hg Γ p hΓ
 | point _ k ih=>intro g e hg Γ p hΓ;exact ih () g e hg Γ p hΓ
 | ask k ih=>intro g e hg Γ p hΓ;exact ih _ g e hg Γ p hΓ
 | load a _ k ih=>
  intro g e hg Γ p hΓ
  simp only [peek1] at e
  split at e
  ·rename_i ob ho;exact ⟨ob,X _ _ ho,ih ob g e hg Γ p hΓ⟩
  ·cases e
 | alloc ob k _=>
  intro g e hg
  have e:some (ob,λD=>peek K ⟨M.prog,M.w.params⟩ (k D))=some (o,g):=e
  obtain ⟨e1,e2⟩:=Prod.mk.inj (Option.some.inj e)
  subst e1
  subst e2
  have X':K.In (s.heap.push ob):=X.keeps λb x hb=>Heap.get?_push_of_some _ hb
  show wpAny M A (alloc ob >>= k) Q E s
  refine wpAny_bind (wpAny_alloc ?_)
  exact (Looks.of_peek (M:=M) (h:=s.heap.push ob) X' (hg s.heap.objs.size)).here (s:={s with heap:=s.heap.push ob}) q
 | _=>intro g e;cases e
noncomputable abbrev ut:=ty ["self"] [] [("graph",.none)]
theorem bo90:aE 90 ut:=iS (exv:=[(("graph" : Str),.none)]) (λω ω=>.cons ⟨rfl,rfl⟩ .nil) λP S a=>by refine (?_:_=_);kernel_rfl
noncomputable abbrev qj:=ty ["s"] [] [("altchars",.none)]
theorem bo188:aE 188 qj:=iS (exv:=[(("altchars" : Str),.none)]) (λω ω=>.cons ⟨rfl,rfl⟩ .nil) λP S a=>by refine (?_:_=_);kernel_rfl
noncomputable abbrev qk:=ty ["data"] ["newline"] []
theorem bo180:aE 180 qk:=iS (exv:=[]) (λω ω=>.nil) λP S a b=>by refine (?_:_=_);kernel_rfl
noncomputable def sN (names:List Str)(x:Str)(args:List AVal)(kw:List (Str×AVal))(U:Store):Option (List (Str×AVal)×Store):=
 if (names.length<=args.length/\(args.drop names.length).length<=7)/\kw.length=0 then some (names.zip args++[(x,.loc U.length)],U++[some (.tuple (args.drop names.length))]) else none
noncomputable abbrev qq:=sN ["self","node"] "predecessors"
noncomputable abbrev qo:=sN ["self"] "nodes"
noncomputable def sD (vs:List Value):Obj:={cls:=.type "tuple",data:=.seq vs.toArray}
def AllVs:Nat->(List Value->Prop)->Prop
 | 0,p=>p []
 | n+1,p=>p []/\∀a,AllVs n λl=>p (a::l)
theorem AllVs.get {n:Nat}:∀{vs:List Value} {p:List Value->Prop},AllVs n p->vs.length<=n->p vs:=by
 induction n with
 | zero=>exact λ{vs p} h l=>List.eq_nil_of_length_eq_zero (Nat.le_zero.mp l)▸h
 | succ n ih=>
  intro vs p h l
  cases vs with
  | nil=>exact h.1
  | cons a vs=>exact ih (p:=λl=>p (a::l)) (h.2 a) (Nat.le_of_succ_le_succ l)
theorem mx {f:Addr}{names:List Str}{x:Str}
  (h:∀P S,AllV names.length λvs=>AllVs 7 λws=>∃g,peek1 (hd.heap_1 P) S (bindArgs (dQ f) ⟨vs++ws,[]⟩)=some (sD ws,g)/\∀D,g D=some (names.zip (vs++ws)++[(x,.ref D)])):aE f (sN names x):=
 λκ V U s args kw vs ks bs U' E X st ra rk e=>by
 obtain ⟨⟨⟨h0,h1⟩,h2⟩,hb⟩:=mU e
 obtain ⟨rfl,rfl⟩:=Prod.mk.inj hb
 have rd:=ra.drop names.length
 have h3:=h κ.w.params ⟨κ.p,κ.w.params⟩
 have ht:names.length=(vs.take names.length).length:=(List.length_take_of_le (All2.length ra▸h0)).symm
 rw [ht] at h3
 obtain ⟨g,g1,g2⟩:=(AllV.get h3).get (vs:=vs.drop names.length) (All2.length rd▸h1)
 rw [List.take_append_drop] at g1 g2
 cases List.eq_nil_of_length_eq_zero ((All2.length rk).symm.trans h2)
 refine sq (M:=model κ.p κ.w) X ?_ _ g g1 g2
 have e:=ah V U.length s.heap.objs.size
 have l1:(U++[some (AObj.tuple (args.drop names.length))]).length=U.length+1:=List.length_append
 rw [l1]
 exact ⟨_,e,Nat.le_succ _,St.push st (ao:=.tuple _) (o:=sD _) rfl ⟨_,_,rfl,VRs.ext rd e (Nat.le_succ _)⟩ s.toks s.drawn,(All2.zip names (VRs.ext ra e (Nat.le_succ _))).append (.cons ⟨rfl,Nat.lt_succ_self _,by rw [ad]⟩ .nil)⟩
theorem bo104:aE 104 qq:=mx λP S a b=>by
 repeat (refine ⟨⟨_,by kernel_rfl,λD=>rfl⟩,λω=>?_⟩)
 exact ⟨_,by kernel_rfl,λD=>rfl⟩
theorem bo137:aE 137 qo:=mx λP S a=>by
 repeat (refine ⟨⟨_,by kernel_rfl,λD=>rfl⟩,λω=>?_⟩)
 exact ⟨_,by kernel_rfl,λD=>rfl⟩
noncomputable def ci57:aJ:={init:=53,meths:=[],own:=[],slots:=[("node",58,0),("npredecessors",59,1),("successors",60,2)],size:=3}
noncomputable def ci154:aJ:={init:=90,meths:=[("_get_nodeinfo",97),("add",104),("prepare",109),("get_ready",116),("is_active",123),("done",137),("_find_cycle",144)],own:=["_node2info","_ready_nodes","_npassedout","_nfinished"],slots:=[],size:=0}
theorem bQ {β:Type} [BEq α] [LawfulBEq α] {l:List (α×β)}{x:α}{b:β}(h:l.lookup x=some b):(x,b)∈l:=by
 obtain ⟨l1,l2,e,_⟩:=List.lookup_eq_some_iff.mp h
 exact e▸List.mem_append_right _ (.head _)
def vq {α:Type}(p:α->Prop):List α->Prop
 | []=>True
 | a::l=>p a/\vq p l
theorem ia {p:α->Prop}{l:List α}{x:α}(h:vq p l)(m:x∈l):p x:=by
 induction l with
 | nil=>exact (List.not_mem_nil m).elim
 | cons a l ih=>exact (List.mem_cons.mp m).elim (λe=>e▸h.1) λm=>ih h.2 m
theorem co57:vp hd.heap_1 57 ci57 where
 keep:=λP=>by k_lt u
 makes:=λP=>by k_lt u
 init:=λP=>⟨by k_lt u,by k_lt u⟩
 get:=λP x=>by k_lt u
 set:=λP=>⟨by k_lt u,by k_lt u,by k_lt u⟩
 meths:=λx f h=>by cases h
 own:=λx h=>by cases h
 slots:=λx p k h=>ia (p:=λq=>q.2.2<1000/\∀P,findIn (hd.heap_1 P) (.ref 57) q.1=some (some (.ref q.2.1))/\specialIn (hd.heap_1 P) (.ref q.2.1) "__get__" = some (some (.builtin "member_descriptor.__get__"))/\takesIn (hd.heap_1 P) (.ref q.2.1)=some true/\slotIn (hd.heap_1 P) q.2.1 57=some q.2.2/\typeIn (hd.heap_1 P) (.ref q.2.1)=some (.type "member_descriptor")) (l:=ci57.slots) (by
  refine ⟨⟨by decide,λP=>⟨?_,?_,?_,?_,?_⟩⟩,⟨by decide,λP=>⟨?_,?_,?_,?_,?_⟩⟩,⟨by decide,λP=>⟨?_,?_,?_,?_,?_⟩⟩,trivial⟩ <;> (first | trivial | k_lt u)) (bQ h)
theorem co154:vp hd.heap_1 154 ci154 where
 keep:=λP=>by k_lt u
 makes:=λP=>by k_lt u
 init:=λP=>⟨by k_lt u,by k_lt u⟩
 get:=λP x=>by k_lt u
 set:=λP=>⟨by k_lt u,by k_lt u,by k_lt u⟩
 meths:=λx f h=>ia (p:=λq=>∀P,findIn (hd.heap_1 P) (.ref 154) q.1=some (some (.ref q.2))/\isFn (hd.heap_1 P) (.ref q.2)=true/\specialIn (hd.heap_1 P) (.ref q.2) "__get__" = some (some (.builtin "function.__get__"))/\takesIn (hd.heap_1 P) (.ref q.2)=some false/\hasDictIn (hd.heap_1 P) 154=true/\copiedNames.contains q.1=false) (l:=ci154.meths) (by
  refine ⟨λP=>⟨?_,?_,?_,?_,?_,?_⟩,λP=>⟨?_,?_,?_,?_,?_,?_⟩,λP=>⟨?_,?_,?_,?_,?_,?_⟩,λP=>⟨?_,?_,?_,?_,?_,?_⟩,λP=>⟨?_,?_,?_,?_,?_,?_⟩,λP=>⟨?_,?_,?_,?_,?_,?_⟩,λP=>⟨?_,?_,?_,?_,?_,?_⟩,trivial⟩ <;> (first | trivial | k_lt u)) (bQ h)
 own:=λx h=>ia (p:=λq=>∀P,findIn (hd.heap_1 P) (.ref 154) q=some none/\hasDictIn (hd.heap_1 P) 154=true) (l:=ci154.own) (by
  refine ⟨λP=>⟨?_,?_⟩,λP=>⟨?_,?_⟩,λP=>⟨?_,?_⟩,λP=>⟨?_,?_⟩,trivial⟩ <;> (first | trivial | k_lt u)) h
 slots:=λx p k h=>by cases h
end
section
noncomputable def b64:Array UInt8:=#[65,66,67,68,69,70,71,72,73,74,75,76,77,78,79,80,81,82,83,84,85,86,87,88,89,90,97,98,99,100,101,102,103,104,105,106,107,108,109,110,111,112,113,114,115,116,117,118,119,120,121,122,48,49,50,51,52,53,54,55,56,57,43,47]
noncomputable def globTab:List (Str×AVal):=[("_NODE_OUT",.int (-1)),("_NODE_DONE",.int (-2)),("_NodeInfo",.top (.ref 57)),("CycleError",.top (.ref 72)),("TopologicalSorter",.top (.ref 154)),("_buffer",.top (.ref 165)),("_truth",.top (.ref 172)),("_B64",.bytes b64),("b2a_base64",.top (.ref 180)),("b64encode",.top (.ref 188)),("_twin_re_1",.top (.ref 193)),("_special_chars_map",.top (.ref 195)),("escape",.top (.ref 205)),("_translate",.top (.ref 212)),("_law_threes",.top (.ref 219)),("_law_rules",.top (.ref 226)),("_law_fits",.top (.ref 231)),("_law_takes",.top (.ref 236)),("_law_sorter",.top (.ref 241)),("_law_refused",.top (.ref 248)),("_law_run",.top (.ref 253))]
noncomputable def bltTab:List (Str×AVal):=[("len",.top (.builtin "len")),("range",.top (.type "range")),("abs",.top (.builtin "abs")),("sorted",.top (.builtin "sorted")),("type",.top (.type "type")),("bytes",.top (.type "bytes")),("bytearray",.top (.type "bytearray")),("set",.top (.type "set")),("tuple",.top (.type "tuple")),("iter",.top (.builtin "iter")),("bool",.top (.type "bool")),("object",.top (.type "object")),("isinstance",.top (.builtin "isinstance")),("str",.top (.type "str")),("ValueError",.top (.type "ValueError")),("StopIteration",.top (.type "StopIteration"))]
noncomputable def fnTab:List (Addr×dS):=[(53,bP 53 (am ["self","node"])),(90,bP 90 (ut)),(97,bP 97 (am ["self","node"])),(104,bP 104 (qq)),(109,bP 109 (am ["self"])),(116,bP 116 (am ["self"])),(123,bP 123 (am ["self"])),(137,bP 137 (qo)),(144,bP 144 (am ["self"])),(165,bP 165 (am ["data"])),(172,bP 172 (am ["x"])),(180,bP 180 (qk)),(188,bP 188 (qj)),(205,bP 205 (am ["pattern"])),(212,bP 212 (am ["pat","STAR","QUESTION_MARK"])),(219,bP 219 (am [])),(226,bP 226 (am ["numbers"])),(231,bP 231 (am ["row","more","octets"])),(236,bP 236 (am ["parts","star","name"])),(241,bP 241 (am ["names","rules"])),(248,bP 248 (am ["deed"])),(253,bP 253 (am ["sorter","names","waits"]))]
noncomputable def fnOf (a:Addr):Option dS:=fnTab.lookup a
noncomputable def ur (a:Addr):Option aJ:=match a with
 | 57=>some ci57
 | 154=>some ci154
 | _=>none
noncomputable def lose0:List Str:=[Str.ofString "_NodeInfo",Str.ofString "b2a_base64",Str.ofString "b64encode",Str.ofString "_twin_re_1",Str.ofString "_special_chars_map"]
noncomputable def tS:List Str:=looseW view0 lose0++(recsOf view0).map (·.name)++(litsOf view0).map (·.1)++(clssOf view0 (looseW view0 lose0)).map (·.name)
noncomputable def C0:Cfg where
 K:=hd.heap_1
 loose:=tS
 glob:=λx=>globTab.lookup x
 blt:=λx=>bltTab.lookup x
 fn:=fnOf
 cls:=ur
 tabs:=[(252,250),(211,207),(257,255)]
theorem ub:vq (λp:Addr×dS=>FnOk hd.heap_1 p.1 p.2) fnTab:=
 ⟨dH ff53 bo53,dH ff90 bo90,dH ff97 bo97,dH ff104 bo104,dH ff109 bo109,dH ff116 bo116,dH ff123 bo123,dH ff137 bo137,dH ff144 bo144,dH ff165 bo165,dH ff172 bo172,dH ff180 bo180,dH ff188 bo188,dH ff205 bo205,dH ff212 bo212,dH ff219 bo219,dH ff226 bo226,dH ff231 bo231,dH ff236 bo236,dH ff241 bo241,dH ff248 bo248,dH ff253 bo253,trivial⟩
theorem oQ:vq (λp:Str×AVal=>∀P,∃v,nsIn (hd.heap_1 P) mainGlobals p.1=some (some v)/\VR (λω=>0) 0 p.2 v) globTab:=
 ⟨λP=>⟨_,by k_lt u,⟨_,rfl⟩⟩,λP=>⟨_,by k_lt u,⟨_,rfl⟩⟩,λP=>⟨_,by k_lt u,rfl⟩,λP=>⟨_,by k_lt u,rfl⟩,λP=>⟨_,by k_lt u,rfl⟩,λP=>⟨_,by k_lt u,rfl⟩,λP=>⟨_,by k_lt u,rfl⟩,λP=>⟨_,by k_lt u,⟨_,rfl⟩⟩,λP=>⟨_,by k_lt u,rfl⟩,λP=>⟨_,by k_lt u,rfl⟩,λP=>⟨_,by k_lt u,rfl⟩,λP=>⟨_,by k_lt u,rfl⟩,λP=>⟨_,by k_lt u,rfl⟩,λP=>⟨_,by k_lt u,rfl⟩,λP=>⟨_,by k_lt u,rfl⟩,λP=>⟨_,by k_lt u,rfl⟩,λP=>⟨_,by k_lt u,rfl⟩,λP=>⟨_,by k_lt u,rfl⟩,λP=>⟨_,by k_lt u,rfl⟩,λP=>⟨_,by k_lt u,rfl⟩,λP=>⟨_,by k_lt u,rfl⟩,trivial⟩
theorem rK:vq (λp:Str×AVal=>(∀P,nsIn (hd.heap_1 P) mainGlobals p.1=some none)/\(∃v,bootBuiltins p.1=some v/\VR (λω=>0) 0 p.2 v)/\p.1≠"__name__") bltTab:=
 ⟨⟨λP=>by k_lt u,⟨_,by k_lt u,rfl⟩,by decide +kernel⟩,⟨λP=>by k_lt u,⟨_,by k_lt u,rfl⟩,by decide +kernel⟩,⟨λP=>by k_lt u,⟨_,by k_lt u,rfl⟩,by decide +kernel⟩,⟨λP=>by k_lt u,⟨_,by k_lt u,rfl⟩,by decide +kernel⟩,⟨λP=>by k_lt u,⟨_,by k_lt u,rfl⟩,by decide +kernel⟩,⟨λP=>by k_lt u,⟨_,by k_lt u,rfl⟩,by decide +kernel⟩,⟨λP=>by k_lt u,⟨_,by k_lt u,rfl⟩,by decide +kernel⟩,⟨λP=>by k_lt u,⟨_,by k_lt u,rfl⟩,by decide +kernel⟩,⟨λP=>by k_lt u,⟨_,by k_lt u,rfl⟩,by decide +kernel⟩,⟨λP=>by k_lt u,⟨_,by k_lt u,rfl⟩,by decide +kernel⟩,⟨λP=>by k_lt u,⟨_,by k_lt u,rfl⟩,by decide +kernel⟩,⟨λP=>by k_lt u,⟨_,by k_lt u,rfl⟩,by decide +kernel⟩,⟨λP=>by k_lt u,⟨_,by k_lt u,rfl⟩,by decide +kernel⟩,⟨λP=>by k_lt u,⟨_,by k_lt u,rfl⟩,by decide +kernel⟩,⟨λP=>by k_lt u,⟨_,by k_lt u,rfl⟩,by decide +kernel⟩,⟨λP=>by k_lt u,⟨_,by k_lt u,rfl⟩,by decide +kernel⟩,trivial⟩
theorem C0_ok:C0.Ok where
 glob:=λx a h=>ia oQ (bQ h)
 blt:=λx a h=>have:=ia rK (bQ h);this
 fn:=λf i h=>have:=ia ub (bQ h);this
 cls:=λC i h=>by
  have h:ur C=some i:=h
  unfold ur at h
  split at h <;> cases h
  ·exact co57
  ·exact co154
end
section
structure Lit where
 scope:Scope
 body:List Stmt
 qual:Str
 code:Value
noncomputable def aC (f:Addr):Lit:=⟨(dQ f).scope,pg (dQ f).body,(dQ f).qualname ++ ".<locals>.",(dQ f).code⟩
noncomputable def lt53:{b:Lit // aC 53=b}:=by
 refine ⟨?x,?h⟩
 case h=>
  unfold aC
  conv=>
   lhs
   congr
   ·whnf
   ·whnf
   ·skip
   ·whnf
noncomputable def sc53:Scope:=lt53.1.scope
noncomputable def bd53:List Stmt:=lt53.1.body
noncomputable abbrev uk (n:Nat):AEnv:={scope:=sc53,loc:=n,frame:=n,cells:=[],qual:=lt53.1.qual,func:=.top (.ref 53),code:=.top lt53.1.code}
noncomputable def lt90:{b:Lit // aC 90=b}:=by
 refine ⟨?x,?h⟩
 case h=>
  unfold aC
  conv=>
   lhs
   congr
   ·whnf
   ·whnf
   ·skip
   ·whnf
noncomputable def sc90:Scope:=lt90.1.scope
noncomputable def bd90:List Stmt:=lt90.1.body
noncomputable abbrev uj (n:Nat):AEnv:={scope:=sc90,loc:=n,frame:=n,cells:=[],qual:=lt90.1.qual,func:=.top (.ref 90),code:=.top lt90.1.code}
noncomputable def lt97:{b:Lit // aC 97=b}:=by
 refine ⟨?x,?h⟩
 case h=>
  unfold aC
  conv=>
   lhs
   congr
   ·whnf
   ·whnf
   ·skip
   ·whnf
noncomputable def sc97:Scope:=lt97.1.scope
noncomputable def bd97:List Stmt:=lt97.1.body
noncomputable abbrev qd (n:Nat):AEnv:={scope:=sc97,loc:=n,frame:=n,cells:=[],qual:=lt97.1.qual,func:=.top (.ref 97),code:=.top lt97.1.code}
noncomputable def lt104:{b:Lit // aC 104=b}:=by
 refine ⟨?x,?h⟩
 case h=>
  unfold aC
  conv=>
   lhs
   congr
   ·whnf
   ·whnf
   ·skip
   ·whnf
noncomputable def sc104:Scope:=lt104.1.scope
noncomputable def bd104:List Stmt:=lt104.1.body
noncomputable abbrev lM (n:Nat):AEnv:={scope:=sc104,loc:=n,frame:=n,cells:=[],qual:=lt104.1.qual,func:=.top (.ref 104),code:=.top lt104.1.code}
noncomputable def lt109:{b:Lit // aC 109=b}:=by
 refine ⟨?x,?h⟩
 case h=>
  unfold aC
  conv=>
   lhs
   congr
   ·whnf
   ·whnf
   ·skip
   ·whnf
noncomputable def sc109:Scope:=lt109.1.scope
noncomputable def bd109:List Stmt:=lt109.1.body
noncomputable abbrev o7 (n:Nat):AEnv:={scope:=sc109,loc:=n,frame:=n,cells:=[],qual:=lt109.1.qual,func:=.top (.ref 109),code:=.top lt109.1.code}
noncomputable def lt116:{b:Lit // aC 116=b}:=by
 refine ⟨?x,?h⟩
 case h=>
  unfold aC
  conv=>
   lhs
   congr
   ·whnf
   ·whnf
   ·skip
   ·whnf
noncomputable def sc116:Scope:=lt116.1.scope
noncomputable def bd116:List Stmt:=lt116.1.body
noncomputable abbrev o6 (n:Nat):AEnv:={scope:=sc116,loc:=n,frame:=n,cells:=[],qual:=lt116.1.qual,func:=.top (.ref 116),code:=.top lt116.1.code}
noncomputable def lt123:{b:Lit // aC 123=b}:=by
 refine ⟨?x,?h⟩
 case h=>
  unfold aC
  conv=>
   lhs
   congr
   ·whnf
   ·whnf
   ·skip
   ·whnf
noncomputable def sc123:Scope:=lt123.1.scope
noncomputable def bd123:List Stmt:=lt123.1.body
noncomputable abbrev o5 (n:Nat):AEnv:={scope:=sc123,loc:=n,frame:=n,cells:=[],qual:=lt123.1.qual,func:=.top (.ref 123),code:=.top lt123.1.code}
noncomputable def lt137:{b:Lit // aC 137=b}:=by
 refine ⟨?x,?h⟩
 case h=>
  unfold aC
  conv=>
   lhs
   congr
   ·whnf
   ·whnf
   ·skip
   ·whnf
noncomputable def sc137:Scope:=lt137.1.scope
noncomputable def bd137:List Stmt:=lt137.1.body
noncomputable abbrev eX (n:Nat):AEnv:={scope:=sc137,loc:=n,frame:=n,cells:=[],qual:=lt137.1.qual,func:=.top (.ref 137),code:=.top lt137.1.code}
noncomputable def lt144:{b:Lit // aC 144=b}:=by
 refine ⟨?x,?h⟩
 case h=>
  unfold aC
  conv=>
   lhs
   congr
   ·whnf
   ·whnf
   ·skip
   ·whnf
noncomputable def sc144:Scope:=lt144.1.scope
noncomputable def qs:List Stmt:=lt144.1.body
noncomputable abbrev g9 (n:Nat):AEnv:={scope:=sc144,loc:=n,frame:=n,cells:=[],qual:=lt144.1.qual,func:=.top (.ref 144),code:=.top lt144.1.code}
noncomputable def lt165:{b:Lit // aC 165=b}:=by
 refine ⟨?x,?h⟩
 case h=>
  unfold aC
  conv=>
   lhs
   congr
   ·whnf
   ·whnf
   ·skip
   ·whnf
noncomputable def sc165:Scope:=lt165.1.scope
noncomputable def bd165:List Stmt:=lt165.1.body
noncomputable abbrev oZ (n:Nat):AEnv:={scope:=sc165,loc:=n,frame:=n,cells:=[],qual:=lt165.1.qual,func:=.top (.ref 165),code:=.top lt165.1.code}
noncomputable def lt172:{b:Lit // aC 172=b}:=by
 refine ⟨?x,?h⟩
 case h=>
  unfold aC
  conv=>
   lhs
   congr
   ·whnf
   ·whnf
   ·skip
   ·whnf
noncomputable def sc172:Scope:=lt172.1.scope
noncomputable def bd172:List Stmt:=lt172.1.body
noncomputable abbrev oY (n:Nat):AEnv:={scope:=sc172,loc:=n,frame:=n,cells:=[],qual:=lt172.1.qual,func:=.top (.ref 172),code:=.top lt172.1.code}
noncomputable def lt180:{b:Lit // aC 180=b}:=by
 refine ⟨?x,?h⟩
 case h=>
  unfold aC
  conv=>
   lhs
   congr
   ·whnf
   ·whnf
   ·skip
   ·whnf
noncomputable def sc180:Scope:=lt180.1.scope
noncomputable def bd180:List Stmt:=lt180.1.body
noncomputable abbrev oX (n:Nat):AEnv:={scope:=sc180,loc:=n,frame:=n,cells:=[],qual:=lt180.1.qual,func:=.top (.ref 180),code:=.top lt180.1.code}
noncomputable def lt188:{b:Lit // aC 188=b}:=by
 refine ⟨?x,?h⟩
 case h=>
  unfold aC
  conv=>
   lhs
   congr
   ·whnf
   ·whnf
   ·skip
   ·whnf
noncomputable def sc188:Scope:=lt188.1.scope
noncomputable def bd188:List Stmt:=lt188.1.body
noncomputable abbrev oW (n:Nat):AEnv:={scope:=sc188,loc:=n,frame:=n,cells:=[],qual:=lt188.1.qual,func:=.top (.ref 188),code:=.top lt188.1.code}
noncomputable def lt205:{b:Lit // aC 205=b}:=by
 refine ⟨?x,?h⟩
 case h=>
  unfold aC
  conv=>
   lhs
   congr
   ·whnf
   ·whnf
   ·skip
   ·whnf
noncomputable def sc205:Scope:=lt205.1.scope
noncomputable def bd205:List Stmt:=lt205.1.body
noncomputable abbrev oV (n:Nat):AEnv:={scope:=sc205,loc:=n,frame:=n,cells:=[],qual:=lt205.1.qual,func:=.top (.ref 205),code:=.top lt205.1.code}
noncomputable def lt212:{b:Lit // aC 212=b}:=by
 refine ⟨?x,?h⟩
 case h=>
  unfold aC
  conv=>
   lhs
   congr
   ·whnf
   ·whnf
   ·skip
   ·whnf
noncomputable def sc212:Scope:=lt212.1.scope
noncomputable def uv:List Stmt:=lt212.1.body
noncomputable abbrev fT (n:Nat):AEnv:={scope:=sc212,loc:=n,frame:=n,cells:=[],qual:=lt212.1.qual,func:=.top (.ref 212),code:=.top lt212.1.code}
noncomputable def lt219:{b:Lit // aC 219=b}:=by
 refine ⟨?x,?h⟩
 case h=>
  unfold aC
  conv=>
   lhs
   congr
   ·whnf
   ·whnf
   ·skip
   ·whnf
noncomputable def sc219:Scope:=lt219.1.scope
noncomputable def bd219:List Stmt:=lt219.1.body
noncomputable abbrev oU (n:Nat):AEnv:={scope:=sc219,loc:=n,frame:=n,cells:=[],qual:=lt219.1.qual,func:=.top (.ref 219),code:=.top lt219.1.code}
noncomputable def lt226:{b:Lit // aC 226=b}:=by
 refine ⟨?x,?h⟩
 case h=>
  unfold aC
  conv=>
   lhs
   congr
   ·whnf
   ·whnf
   ·skip
   ·whnf
noncomputable def sc226:Scope:=lt226.1.scope
noncomputable def bd226:List Stmt:=lt226.1.body
noncomputable abbrev oS (n:Nat):AEnv:={scope:=sc226,loc:=n,frame:=n,cells:=[],qual:=lt226.1.qual,func:=.top (.ref 226),code:=.top lt226.1.code}
noncomputable def lt231:{b:Lit // aC 231=b}:=by
 refine ⟨?x,?h⟩
 case h=>
  unfold aC
  conv=>
   lhs
   congr
   ·whnf
   ·whnf
   ·skip
   ·whnf
noncomputable def sc231:Scope:=lt231.1.scope
noncomputable def bd231:List Stmt:=lt231.1.body
noncomputable abbrev jH (n:Nat):AEnv:={scope:=sc231,loc:=n,frame:=n,cells:=[("let",n+4),("threes",n+3),("octets",n+2),("row",n+1)],qual:=lt231.1.qual,func:=.top (.ref 231),code:=.top lt231.1.code}
noncomputable def lt236:{b:Lit // aC 236=b}:=by
 refine ⟨?x,?h⟩
 case h=>
  unfold aC
  conv=>
   lhs
   congr
   ·whnf
   ·whnf
   ·skip
   ·whnf
noncomputable def sc236:Scope:=lt236.1.scope
noncomputable def bd236:List Stmt:=lt236.1.body
noncomputable abbrev lL (n:Nat):AEnv:={scope:=sc236,loc:=n,frame:=n,cells:=[("part",n+2),("name",n+1)],qual:=lt236.1.qual,func:=.top (.ref 236),code:=.top lt236.1.code}
noncomputable def lt241:{b:Lit // aC 241=b}:=by
 refine ⟨?x,?h⟩
 case h=>
  unfold aC
  conv=>
   lhs
   congr
   ·whnf
   ·whnf
   ·skip
   ·whnf
noncomputable def sc241:Scope:=lt241.1.scope
noncomputable def bd241:List Stmt:=lt241.1.body
noncomputable abbrev jG (n:Nat):AEnv:={scope:=sc241,loc:=n,frame:=n,cells:=[("parts",n+2),("star",n+1)],qual:=lt241.1.qual,func:=.top (.ref 241),code:=.top lt241.1.code}
noncomputable def lt248:{b:Lit // aC 248=b}:=by
 refine ⟨?x,?h⟩
 case h=>
  unfold aC
  conv=>
   lhs
   congr
   ·whnf
   ·whnf
   ·skip
   ·whnf
noncomputable def sc248:Scope:=lt248.1.scope
noncomputable def bd248:List Stmt:=lt248.1.body
noncomputable abbrev lK (n:Nat):AEnv:={scope:=sc248,loc:=n,frame:=n,cells:=[],qual:=lt248.1.qual,func:=.top (.ref 248),code:=.top lt248.1.code}
noncomputable def lt253:{b:Lit // aC 253=b}:=by
 refine ⟨?x,?h⟩
 case h=>
  unfold aC
  conv=>
   lhs
   congr
   ·whnf
   ·whnf
   ·skip
   ·whnf
noncomputable def sc253:Scope:=lt253.1.scope
noncomputable def uu:List Stmt:=lt253.1.body
noncomputable abbrev aK (n:Nat):AEnv:={scope:=sc253,loc:=n,frame:=n,cells:=[("known",n+6),("out",n+5),("done",n+4),("waits",n+3),("names",n+2),("sorter",n+1)],qual:=lt253.1.qual,func:=.top (.ref 253),code:=.top lt253.1.code}
noncomputable def lt258:{b:Lit // aC 258=b}:=by
 refine ⟨?x,?h⟩
 case h=>
  unfold aC
  conv=>
   lhs
   congr
   ·whnf
   ·whnf
   ·skip
   ·whnf
noncomputable def sc258:Scope:=lt258.1.scope
noncomputable def bd258:List Stmt:=lt258.1.body
end
section
set_option tactic.hygienic true
theorem at_app_l {U l:Store}{i:Nat}{x:AObj}(h:U.at i=some x):Store.at (U++l) i=some x:=by
 have hl:=Store.at_lt h
 unfold Store.at at h ⊢
 rw [List.getElem?_append_left hl];exact h
theorem at_app_r {U l:Store}{N j:Nat}{x:AObj}(hN:U.length=N)(h:Store.at l j=some x):Store.at (U++l) (N+j)=some x:=by
 subst hN
 unfold Store.at at h ⊢
 rw [List.getElem?_append_right (Nat.le_add_right _ _),Nat.add_sub_cancel_left];exact h
theorem at_app_0 {U l:Store}{N:Nat}{x:AObj}(hN:U.length=N):Store.at (U++some x::l) N=some x:=at_app_r (j:=0) hN rfl
theorem at_put_eq {U:Store}{i:Nat}{x y:AObj}(h:U.at i=some y):(U.put i x).at i=some x:=by
 rw [Store.at_put (Store.at_lt h),if_pos rfl]
theorem at_put_ne {U:Store}{i j:Nat}{x y:AObj}(hne:j≠i)(h:U.at j=some y):(U.put i x).at j=some y:=by
 unfold Store.at Store.put at *
 rw [List.getElem?_set_ne (Ne.symm hne)];exact h
theorem at_gone_ne {U:Store}{i j:Nat}{y:AObj}(hne:j≠i)(h:U.at j=some y):(U.gone i).at j=some y:=by
 rw [Store.at_gone,if_neg hne];exact h
theorem gp {U:Store}{i j:Nat}{x y:AObj}(hi:U.at i=some x)(hj:U.at j=some y)(h:x≠y):i≠j:=by
 rintro rfl
 rw [hi] at hj;cases hj;exact h rfl
theorem kA {U l l':Store}{N j:Nat}{x:AObj}(hN:U.length=N)(h:Store.put l j x=l'):Store.put (U++l) (N+j) x=U++l':=by
 subst hN
 subst h
 unfold Store.put
 rw [List.set_append_right _ _ (Nat.le_add_right _ _),Nat.add_sub_cancel_left]
theorem put_app_0 {U l:Store}{N:Nat}{x:AObj}{y:Option AObj}(hN:U.length=N):Store.put (U++y::l) N x=U++some x::l:=kA (j:=0) hN rfl
theorem fj {U l:Store}{i:Nat}{x y:AObj}(h:U.at i=some y):Store.put (U++l) i x=U.put i x++l:=by
 unfold Store.put
 rw [List.set_append_left _ _ (Store.at_lt h)]
theorem put_put {U:Store}{i:Nat}{x y:AObj}:(U.put i x).put i y=U.put i y:=by unfold Store.put;rw [List.set_set]
theorem oO {U l l':Store}{N j:Nat}(hN:U.length=N)(h:Store.gone l j=l'):Store.gone (U++l) (N+j)=U++l':=by
 subst hN
 subst h
 unfold Store.gone
 rw [List.set_append_right _ _ (Nat.le_add_right _ _),Nat.add_sub_cancel_left]
theorem tp {U:Store}{i:Nat}{x:AObj}:(U.gone i).put i x=U.put i x:=by unfold Store.put Store.gone;rw [List.set_set]
theorem tu {U:Store}{i:Nat}{x:AObj}(h:U.at i=some x):U.put i x=U:=by
 unfold Store.at at h
 unfold Store.put
 split at h
 ·rename_i o e
  cases h
  refine List.ext_getElem? λj=>?_
  rw [List.getElem?_set]
  by_cases q:i=j
  ·subst q
   rw [if_pos rfl,if_pos (List.getElem?_eq_some_iff.mp e).1,e]
  ·rw [if_neg q]
 ·cases h
def Grow (U U':Store):Prop:=U.length<=U'.length/\∀i x,U.at i=some x->U'.at i=some x
theorem Grow.refl (U:Store):Grow U U:=⟨Nat.le_refl _,λω ω h=>h⟩
theorem Grow.trans {a b d:Store}(h:Grow a b)(h':Grow b d):Grow a d:=⟨Nat.le_trans h.1 h'.1,λi x e=>h'.2 i x (h.2 i x e)⟩
theorem Grow.app (U l:Store):Grow U (U++l):=⟨by simp,λω ω h=>at_app_l h⟩
theorem Grow.at {U U':Store}(h:Grow U U'){i:Nat}{x:AObj}(e:U.at i=some x):U'.at i=some x:=h.2 i x e
theorem New.mk {U U2:Store}{o:AObj}{Q:AVal->Store->Prop}{n:Nat}(h:U.length=n)(h':U++[some o]=U2)(q:Q (.loc n) U2):New U o Q:=⟨n,U2,h,h',q⟩
def FitNew (as:List AVal)(U:Store)(o:AObj)(Q:AVal->Store->Prop):Prop:=as.length<=lenLine/\New U o Q
theorem FitNew.mk {as:List AVal}{U U2:Store}{o:AObj}{Q:AVal->Store->Prop}{n:Nat}(hl:as.length<=lenLine)(h:U.length=n)(h':U++[some o]=U2)(q:Q (.loc n) U2):FitNew as U o Q:=⟨hl,n,U2,h,h',q⟩
def a9 (K:Store->Prop)(Q:ai->Store->Prop):ai->Store->Prop
 | .next,U=>K U
 | f,U=>Q f U
theorem thenF_next {K:Store->Prop}{Q:ai->Store->Prop}{U:Store}(h:K U):a9 K Q .next U:=h
theorem thenF_ret {K:Store->Prop}{Q:ai->Store->Prop}{a:AVal}{U:Store}(h:Q (.ret a) U):a9 K Q (.ret a) U:=h
theorem thenF_cont {K:Store->Prop}{Q:ai->Store->Prop}{U:Store}(h:Q .cont U):a9 K Q .cont U:=h
def d9 (b:Bool)(A B:Prop):Prop:=if b then A else B
theorem pick_true {A B:Prop}(h:A):d9 true A B:=h
theorem pick_false {A B:Prop}(h:B):d9 false A B:=h
theorem pick_true' {b:Bool}{A B:Prop}(e:b=true)(h:A):d9 b A B:=by subst e;exact h
theorem pick_false' {b:Bool}{A B:Prop}(e:b=false)(h:B):d9 b A B:=by subst e;exact h
theorem aA {b:Bool}{A B:Prop}(h:b=true->A)(h':b=false->B):d9 b A B:=by
 cases b
 ·exact h' rfl
 ·exact h rfl
section
variable {α β:Type}{c:Cfg}{P:SP}{E:AEnv}{κ:KX}{V0 V:Nat->Addr}{n0:Nat}{U:Store}{s:Shared}{X:XP}
variable {x:Str}{Q:AVal->Store->Prop}{t:Expr}{pos:Pos}{rest es:List Expr}{a:AVal}{m m':List (Str×AVal)}{i:Nat}{U':Store}{v:Option AVal}
theorem TSs_cons' {x:Stmt}{rest:List Stmt}{Q:ai->Store->Prop}(h:TS c P E x (a9 (λU1=>TSs c P E rest Q X U1) Q) X U):TSs c P E (x::rest) Q X U:=by
 refine uF (TM.mono h ?_ λω ω h=>h)
 rintro V' U' r _ ⟨a,ra,q⟩
 refine ⟨a,ra,?_⟩
 cases a <;> exact q
theorem TSs_one {x:Stmt}{Q:ai->Store->Prop}(h:TS c P E x Q X U):TSs c P E [x] Q X U:=by
 refine TSs_cons' (TM.mono h ?_ λω ω h=>h)
 rintro V' U' r _ ⟨a,ra,q⟩
 refine ⟨a,ra,?_⟩
 cases a <;> first | exact q | exact TSs_nil q
theorem TS_If' {b o:List Stmt}{Q:ai->Store->Prop}(h:TT c P E t (λx U1=>d9 x (TSs c P E b Q X U1) (TSs c P E o Q X U1)) X U):TS c P E (.If t b o pos) Q X U:=TS_If h
theorem TE_IfExp' {b o:Expr}(h:TT c P E t (λx U1=>d9 x (TE c P E b Q X U1) (TE c P E o Q X U1)) X U):TE c P E (.IfExp t b o pos) Q X U:=uR h
theorem TAnd_cons {x:Expr}{Q:Bool->Store->Prop}
  (h:TT c P E x (λb U1=>d9 b (TM c P E (allTrue .And rest) (gB Q) X U1) (Q false U1)) X U):TM c P E (allTrue .And (x::rest)) (gB Q) X U:=by
 refine kU (TM.mono h ?_ λω ω h=>h)
 rintro V' U' r _ q
 cases r <;> exact q
theorem TAnd_one {x:Expr}{Q:Bool->Store->Prop}(h:TT c P E x Q X U):TM c P E (allTrue .And [x]) (gB Q) X U:=by
 refine TAnd_cons (TM.mono h ?_ λω ω h=>h)
 rintro V' U' r _ q
 cases r
 ·exact q
 ·exact nC q
theorem TOr_cons {x:Expr}{Q:Bool->Store->Prop}
  (h:TT c P E x (λb U1=>d9 b (Q true U1) (TM c P E (allTrue .Or rest) (gB Q) X U1)) X U):TM c P E (allTrue .Or (x::rest)) (gB Q) X U:=by
 refine kU (TM.mono h ?_ λω ω h=>h)
 rintro V' U' r _ q
 cases r <;> exact q
theorem TOr_one {x:Expr}{Q:Bool->Store->Prop}(h:TT c P E x Q X U):TM c P E (allTrue .Or [x]) (gB Q) X U:=by
 refine TOr_cons (TM.mono h ?_ λω ω h=>h)
 rintro V' U' r _ q
 cases r
 ·exact nC q
 ·exact q
theorem uM (hd:a7 x=true)(hk:E.scope.kind=.function)(hl:E.scope.names.lookup x=some .local)(hm:U.at E.loc=some (.frame m))(ha:m.lookup x=some a)(q:Q a U):TE c P E (.Name x pos) Q X U:=fy hd hk (.loc hl hm ha) q
theorem TE_cell (hd:a7 x=true)(hk:E.scope.kind=.function)(hl:E.scope.names.lookup x=some .cell)(hi:E.cells.lookup x=some i)(hv:U.at i=some (.cell (some a)))(q:Q a U):TE c P E (.Name x pos) Q X U:=fy hd hk (.cell hl hi hv) q
theorem TE_free (hd:a7 x=true)(hk:E.scope.kind=.function)(hl:E.scope.names.lookup x=some .free)(hi:E.cells.lookup x=some i)(hv:U.at i=some (.cell (some a)))(q:Q a U):TE c P E (.Name x pos) Q X U:=fy hd hk (.free hl hi hv) q
theorem er (hd:a7 x=true)(hk:E.scope.kind=.function)(hl:E.scope.names.lookup x=some .globalImplicit)(ha:c.glob x=some a)(q:Q a U):TE c P E (.Name x pos) Q X U:=fy hd hk (.glob hl ha) q
theorem pu (hd:a7 x=true)(hk:E.scope.kind=.function)(hl:E.scope.names.lookup x=some .globalImplicit)(hg:c.glob x=none)(ha:c.blt x=some a)(q:Q a U):TE c P E (.Name x pos) Q X U:=fy hd hk (.blt hl hg ha) q
theorem StoreR.loc' (hk:E.scope.kind=.function)(hl:E.scope.names.lookup x=some .local)(hm:U.at E.loc=some (.frame m))(hm':dG x a m=m')(hU:U.put E.loc (.frame m')=U'):StoreR E x a U U':=
 hU▸hm'▸.loc hk hl hm
theorem StoreR.cell' (hk:E.scope.kind=.function)(hl:E.scope.names.lookup x=some .cell)(hi:E.cells.lookup x=some i)(hv:U.at i=some (.cell v))(hU:U.put i (.cell (some a))=U'):StoreR E x a U U':=
 hU▸.cell hk hl hi hv
theorem fW {Q:Store->Prop}(hk:E.scope.kind=.function)(hl:E.scope.names.lookup x=some .local)(hm:U.at E.loc=some (.frame m))(hm':dG x a m=m')(hU:U.put E.loc (.frame m')=U')(q:Q U'):TAsg c P E (.Name x pos) a Q X U:=ie (.loc' hk hl hm hm' hU) q
theorem bW {Q:Store->Prop}(hk:E.scope.kind=.function)(hl:E.scope.names.lookup x=some .cell)(hi:E.cells.lookup x=some i)(hv:U.at i=some (.cell v))(hU:U.put i (.cell (some a))=U')(q:Q U'):TAsg c P E (.Name x pos) a Q X U:=ie (.cell' hk hl hi hv hU) q
theorem TE_Named_local {npos:Pos}{value:Expr}(hk:E.scope.kind=.function)(hl:E.scope.names.lookup x=some .local)
  (h:TE c P E value (λa U1=>∃m m' U2,U1.at E.loc=some (.frame m)/\dG x a m=m'/\U1.put E.loc (.frame m')=U2/\Q a U2) X U):TE c P E (.NamedExpr (.Name x npos) value pos) Q X U:=
 uQ (TE.mono h λa U1 z=>z.elim λm z=>z.elim λm' z=>z.elim λU2 z=>⟨U2,.loc' hk hl z.1 z.2.1 z.2.2.1,z.2.2.2⟩)
theorem TE_List' (h:TSp c P E (λenv=>backTo pos (starEach es env)) (λas U1=>FitNew as U1 (.list as) Q) X U):TE c P E (.List es pos) Q X U:=by
 refine TE_List (TM.mono h ?_ λω ω h=>h)
 rintro V' U' r _ ⟨as,ras,h1,n,U2,rfl,rfl,q⟩
 exact ⟨as,ras,h1,q⟩
theorem TE_Tuple' {k:Nat}(h:TSp c P E (λenv=>backTo pos (starEach es env)) (λas U1=>FitNew as U1 (.tuple as) Q) X U):TE c P E (.Tuple es k pos) Q X U:=by
 refine uN (TM.mono h ?_ λω ω h=>h)
 rintro V' U' r _ ⟨as,ras,h1,n,U2,rfl,rfl,q⟩
 exact ⟨as,ras,h1,q⟩
end
end
section
theorem AVal.ren_id' (a:AVal):a.ren (λi=>i)=a:=by cases a <;> rfl
theorem jk (l:List AVal):mA (λi=>i) l=l:=by
 unfold mA
 rw [show (AVal.ren λi=>i)=id from funext AVal.ren_id',List.map_id]
theorem gf (l:List (Str×AVal)):ji (λi=>i) l=l:=by
 unfold ji
 haveI:(λp:Str×AVal=>(p.1,p.2.ren λi=>i))=id:=funext λp=>by rw [AVal.ren_id'];rfl
 rw [this,List.map_id]
theorem AObj.ren_id' (ao:AObj):ao.ren (λi=>i)=ao:=by
 haveI opt:(Option.map (AVal.ren λi=>i))=id:=by
  funext o
  cases o with
  | none=>rfl
  | some a=>show some (a.ren _)=some a;rw [AVal.ren_id']
 haveI optn:∀o:Option Nat,o.map (λi=>i)=o:=λo=>by cases o <;> rfl
 cases ao with
 | list l=>exact congrArg AObj.list (jk l)
 | listS o l=>exact congrArg (AObj.listS o) (jk l)
 | tuple l=>exact congrArg AObj.tuple (jk l)
 | dict l=>exact congrArg AObj.dict (gf l)
 | idict l=>exact congrArg AObj.idict (gf l)
 | frame l=>exact congrArg AObj.frame (gf l)
 | cell v=>exact congrArg AObj.cell (by rw [opt];rfl)
 | slots C d l=>exact congrArg (AObj.slots C d) (by rw [opt,List.map_id])
 | iter k i=>exact congrArg (λk=>AObj.iter k i) (by cases k <;> rfl)
 | dictE l ep=>exact congrArg (λl=>AObj.dictE l ep) (gf l)
 | bmeth c i a=>exact congrArg (AObj.bmeth c i) (AVal.ren_id' a)
 | exc c tb=>exact congrArg (AObj.exc c) (optn tb)
 | tback fl=>exact congrArg AObj.tback (optn fl)
 | tab P es=>exact congrArg (AObj.tab P) (by
   show es.map (λe=>(e.1,e.2.1,e.2.2))=es
   exact List.map_id es)
 | lam q p b sc cl k=>exact congrArg (λcl=>AObj.lam q p b sc cl k) (by
   show cl.map (λe=>(e.1,e.2))=cl
   exact List.map_id cl)
 | meth f a=>exact congrArg (AObj.meth f) (AVal.ren_id' a)
 | _=>rfl
theorem OR.bound {p:Program}{w:World}{V:Nat->Addr}{N n:Nat}{ao:AObj}{o:Obj}(h:OR p w V N ao o)(l:ao.ltB n=true):OR p w V n ao o:=by
 haveI:=OR.canon (g:=λi=>i) (by rw [AObj.ren_id'];exact h) l
 exact this
structure Tidy (n:Nat)(U U':Store)(g:Nat->Nat):Prop where
 low:∀i,i<n->g i=i
 len:n<=U'.length
 at_:∀i ao,U'.at i=some ao->(i<n/\U.at i=some ao/\ao.ltB n=true)∨(U.at (g i)=some (ao.ren g)/\ao.ltB U'.length=true)
 inj:∀i j a b,U'.at i=some a->U'.at j=some b->g i=g j->i=j
section
variable {c:Cfg}{P:SP}{E:AEnv}{κ:KX}{V:Nat->Addr}{n:Nat}{U U':Store}{s:Shared}{g:Nat->Nat}{X:XP}
variable {U1:Store}{ao:AObj}{f r:AVal}{args:List AVal}{kw m:List (Str×AVal)}{Q:AVal->Store->Prop}
theorem St.tidy (st:St κ V U s)(h:Tidy n U U' g):St κ (V∘g) U' s:=by
 have live:∀{i ao},U'.at i=some ao->∃ao',U.at (g i)=some ao'/\(∀a,ao'.need a->ao.need a):=λ{i ao} hi=>by
  rcases h.at_ i ao hi with ⟨h1,h2,_⟩ | ⟨h1,_⟩
  ·exact ⟨ao,by rw [h.low i h1];exact h2,λω x=>x⟩
  ·exact ⟨_,h1,λb x=>(by revert x;cases ao <;> exact λx=>x)⟩
 refine ⟨st.keep,λi ao hi=>?_,λi ao hi=>?_,λi j a b hi hj e=>?_,st.bare,st.os,λi ao hi=>?_,st.big⟩
 ·rcases h.at_ i ao hi with ⟨h1,h2,h3⟩ | ⟨h1,h2⟩
  ·obtain ⟨o,q,r⟩:=st.obj _ _ h2
   refine ⟨o,by show s.heap.get? (V (g i))=_;rw [h.low i h1];exact q,?_⟩
   exact (r.bound h3).ext (λj hj=>by show V (g j)=V j;rw [h.low j hj]) h.len
  ·obtain ⟨o,q,r⟩:=st.obj _ _ h1
   exact ⟨o,q,r.canon h2⟩
 ·obtain ⟨ao',h1,_⟩:=live hi;exact st.new _ _ h1
 ·obtain ⟨_,h1,_⟩:=live hi
  obtain ⟨_,h2,_⟩:=live hj
  exact h.inj i j a b hi hj (st.inj _ _ _ _ h1 h2 e)
 ·obtain ⟨ao',h1,h2⟩:=live hi;exact h2 _ (st.low _ _ h1)
theorem TE.tidy {e:Expr}{Q:AVal->Store->Prop}(h:TE c P E e (λa U1=>∃U2 g a',Tidy U.length U1 U2 g/\a=a'.ren g/\a'.ltB U2.length=true/\Q a' U2) X U):TE c P E e Q X U:=by
 intro κ V s ok hh hv st
 refine wpAny_mono (h κ V s ok hh hv st) ?_ λω ω x=>x
 rintro v s' ⟨V',U1,ex,l,st',a,r,U2,g,a',cn,rfl,hl,q⟩
 exact ⟨V'∘g,U2,λi hi=>by show V' (g i)=_;rw [cn.low i hi];exact ex i hi,cn.len,st'.tidy cn,a',r.canon hl,q⟩
theorem TC.tidy {f:AVal}{args:List AVal}{kw:List (Str×AVal)}{Q:AVal->Store->Prop}
  (h:TC c P f args kw (λa U1=>∃U2 g a',Tidy U.length U1 U2 g/\a=a'.ren g/\a'.ltB U2.length=true/\Q a' U2) (λj U1=>∃U2 g j',Tidy U.length U1 U2 g/\j=g j'/\j'<U2.length/\X j' U2) U):TC c P f args kw Q X U:=by
 intro κ V s vf vs ks ok hfr st rf ra rk
 refine wpAny_mono (h κ V s vf vs ks ok hfr st rf ra rk) ?_ ?_
 ·rintro v s' ⟨V',U1,ex,l,st',a,r,U2,g,a',cn,rfl,hl,q⟩
  exact ⟨V'∘g,U2,λi hi=>by show V' (g i)=_;rw [cn.low i hi];exact ex i hi,cn.len,st'.tidy cn,a',r.canon hl,q⟩
 ·rintro v s' ⟨V',U1,ex,l,st',j,hj,rfl,U2,g,j',cn,rfl,hl,q⟩
  exact ⟨V'∘g,U2,λi hi=>by show V' (g i)=_;rw [cn.low i hi];exact ex i hi,cn.len,st'.tidy cn,j',hl,rfl,q⟩
theorem TC.mono {f:AVal}{args:List AVal}{kw:List (Str×AVal)}{Q Q':AVal->Store->Prop}{X':XP}(h:TC c P f args kw Q X U)(k:∀a U',U.length<=U'.length->Q a U'->Q' a U')(kx:∀j U',X j U'->X' j U'):TC c P f args kw Q' X' U:=
 λκ V s vf vs ks ok hfr st rf ra rk=>(h κ V s vf vs ks ok hfr st rf ra rk).mono (λV' U' r _ l ⟨a,ra,q⟩=>⟨a,ra,k a U' l q⟩) kx
theorem Tidy.base (wf:WF U)(h:Grow U U1):Tidy U.length U1 U (λi=>i):=
 ⟨λω ω=>rfl,Nat.le_refl _,λi ao hi=>.inl ⟨Store.at_lt hi,h.at hi,wf i ao hi⟩,λω ω ω ω ω ω e=>e⟩
noncomputable def bv (n p:Nat)(i:Nat):Nat:=if i=n then p else i
theorem Tidy.one {p:Nat}(wf:WF U)(h:Grow U U1)(hp:U.length<=p)(ha:U1.at p=some (ao.ren (bv U.length p)))(hl:ao.ltB (U.length+1)=true):Tidy U.length U1 (U++[some ao]) (bv U.length p):=by
 refine ⟨λi hi=>by unfold bv;rw [if_neg (Nat.ne_of_lt hi)],by simp,λi x hi=>?_,λi j a b hi hj e=>?_⟩
 ·rw [Store.at_push] at hi
  by_cases q:i=U.length
  ·rw [if_pos q] at hi;cases hi
   subst q
   refine .inr ⟨by unfold bv at ha ⊢;rw [if_pos rfl];exact ha,by simpa using hl⟩
  ·rw [if_neg q] at hi
   exact .inl ⟨Store.at_lt hi,h.at hi,wf i x hi⟩
 ·rw [Store.at_push] at hi hj
  unfold bv at e
  by_cases q:i=U.length
  ·by_cases q':j=U.length
   ·exact q.trans q'.symm
   ·rw [if_pos q,if_neg q'] at e
    rw [if_neg q'] at hj
    haveI:=Store.at_lt hj
    omega
  ·rw [if_neg q] at hi e
   by_cases q':j=U.length
   ·rw [if_pos q'] at e
    haveI:=Store.at_lt hi
    omega
   ·rw [if_neg q'] at e;exact e
def SpecV (c:Cfg)(P:SP)(f:AVal)(args:List AVal)(kw:List (Str×AVal))(r:AVal)(U:Store):Prop:=∀(Q:AVal->Store->Prop) (X:XP),Q r U->TC c P f args kw Q X U
def SpecN (c:Cfg)(P:SP)(f:AVal)(args:List AVal)(kw:List (Str×AVal))(ao:AObj)(U:Store):Prop:=∀(Q:AVal->Store->Prop) (X:XP),Q (.loc U.length) (U++[some ao])->TC c P f args kw Q X U
theorem TCall.specV (hF:U.at E.frame=some (.frame m))(h:SpecV c P f args kw r (U.gone E.frame))(q:Q r U):TCall c P E f args kw Q X U:=by
 refine TCall.of hF (h _ _ ?_)
 rw [tp,tu hF];exact q
theorem TCall.specN (hF:U.at E.frame=some (.frame m))(h:SpecN c P f args kw ao (U.gone E.frame))(q:New U ao Q):TCall c P E f args kw Q X U:=by
 obtain ⟨n,U2,rfl,rfl,q⟩:=q
 refine TCall.of hF (h _ _ ?_)
 haveI hl:=Store.at_lt hF
 haveI:Store.put (U.gone E.frame++[some ao]) E.frame (.frame m)=U++[some ao]:=by
  unfold Store.put Store.gone
  rw [List.set_append_left _ _ (by rw [List.length_set];exact hl),List.set_set]
  haveI:=tu hF
  unfold Store.put at this
  rw [this]
 rw [this,Store.gone_length]
 exact q
theorem SpecV.of (hr:r.ltB U.length=true)(h:WF U->TC c P f args kw (λa U1=>a=r/\Grow U U1) noX U):SpecV c P f args kw r U:=by
 intro Q X q
 refine TC.tidy (TC.wf λwf=>(h wf).mono ?_ λω ω x=>x.elim)
 rintro a U1 _ ⟨rfl,hG⟩
 exact ⟨U,_,a,Tidy.base wf hG,(AVal.ren_id' a).symm,hr,q⟩
theorem SpecN.of (hl:ao.ltB (U.length+1)=true)(h:WF U->TC c P f args kw (λa U1=>∃p,a=.loc p/\Grow U U1/\U.length<=p/\U1.at p=some (ao.ren (bv U.length p))) noX U):SpecN c P f args kw ao U:=by
 intro Q X q
 refine TC.tidy (TC.wf λwf=>(h wf).mono ?_ λω ω x=>x.elim)
 rintro a U1 _ ⟨p,rfl,hG,hp,ha⟩
 exact ⟨U++[some ao],_,.loc U.length,Tidy.one wf hG hp ha hl,by simp [AVal.ren,bv],by simp [AVal.ltB],q⟩
end
end
section
def PutL {β:Type}(l:List β)(n:Nat)(b:β)(l':List β):Prop:=l.set n b=l'
theorem PutL.zero {β:Type}{a b:β}{l:List β}:PutL (a::l) 0 b (b::l):=rfl
theorem PutL.succ {β:Type}{a b:β}{l l':List β}{n:Nat}(h:PutL l n b l'):PutL (a::l) (n+1) b (a::l'):=congrArg (a :: ·) h
theorem PutL.eq {β:Type}{l l':List β}{n:Nat}{b:β}(h:PutL l n b l'):l.set n b=l':=h
def PutM (x:Str)(a:AVal)(m m':List (Str×AVal)):Prop:=dG x a m=m'
theorem PutM.nil {x:Str}{a:AVal}:PutM x a [] [(x,a)]:=rfl
theorem PutM.hit {x:Str}{a b:AVal}{l:List (Str×AVal)}:PutM x a ((x,b)::l) ((x,a)::l):=if_pos rfl
theorem PutM.miss {x y:Str}{a b:AVal}{l l':List (Str×AVal)}(hn:(y == x)=false)(h:PutM x a l l'):PutM x a ((y,b)::l) ((y,b)::l'):=(if_neg (beq_eq_false_iff_ne.mp hn)).trans (congrArg ((y,b) :: ·) h)
theorem PutM.eq {x:Str}{a:AVal}{m m':List (Str×AVal)}(h:PutM x a m m'):dG x a m=m':=h
theorem put_zone {U:Store}{l l':List (Option AObj)}{N j:Nat}{x:AObj}(hN:U.length=N)(h:PutL l j (some x) l'):Store.put (U++l) (N+j) x=U++l':=kA hN h.eq
theorem oP {U:Store}{l:List (Option AObj)}{o:Option AObj}{N:Nat}(hN:U.length=N):Store.gone (U++o::l) N=U++none::l:=oO (j:=0) hN rfl
theorem put_base {U U':Store}{l:List (Option AObj)}{i:Nat}{x y:AObj}(h:U.at i=some y)(e:U.put i x=U'):Store.put (U++l) i x=U'++l:=by rw [←e];exact fj h
theorem len_zone {U:Store}{l:List (Option AObj)}{N k:Nat}(hN:U.length=N)(h:l.length=k):(U++l).length=N+k:=by rw [List.length_append,hN,h]
theorem len_put {U:Store}{i N:Nat}{x:AObj}(hN:U.length=N):(U.put i x).length=N:=by rw [Store.put_length,hN]
theorem app_zone {U:Store}{l l':List (Option AObj)}{m:List (Option AObj)}(h:l++m=l'):(U++l)++m=U++l':=by rw [List.append_assoc,h]
section
variable {c:Cfg}{P:SP}{E:AEnv}{U:Store}{X:XP}
variable {pos:Pos}{first:List AVal}{args:List Expr}{kws:List Keyword}{Q:AVal->Store->Prop}{f:String}{a:AVal}
theorem pv {f:Value}(hk:∀U',KeepR c U' (.top f))
  (h:bM c P E pos args kws (λas ks U1=>TCall c P E (.top f) (first++as) ks Q X U1) X U):TCW c P E pos (.top f) first args kws Q X U:=by
 refine TCW.mk λvf=>TM.mono (h vf) ?_ λω ω h=>h
 rintro V' U' r _ ⟨as,ks,h1,h2,h3⟩
 exact ⟨as,ks,h1,h2,hk _,h3⟩
theorem TCW_b (h:bM c P E pos args kws (λas ks U1=>TCall c P E (.top (.builtin f)) (first++as) ks Q X U1) X U):TCW c P E pos (.top (.builtin f)) first args kws Q X U:=pv (λω=>.blt) h
theorem TCW_t (h:bM c P E pos args kws (λas ks U1=>TCall c P E (.top (.type f)) (first++as) ks Q X U1) X U):TCW c P E pos (.top (.type f)) first args kws Q X U:=pv (λω=>.typ) h
theorem TCW_r {f:Addr}(hk:((c.fn f).isSome||(c.cls f).isSome)=true)(h:bM c P E pos args kws (λas ks U1=>TCall c P E (.top (.ref f)) (first++as) ks Q X U1) X U):TCW c P E pos (.top (.ref f)) first args kws Q X U:=pv (λω=>.ref hk) h
theorem TCW_b0 (h:bM c P E pos args kws (λas ks U1=>TCall c P E (.top (.builtin f)) as ks Q X U1) X U):TCW c P E pos (.top (.builtin f)) [] args kws Q X U:=TCW_b h
theorem TCW_b1 (h:bM c P E pos args kws (λas ks U1=>TCall c P E (.top (.builtin f)) (a::as) ks Q X U1) X U):TCW c P E pos (.top (.builtin f)) [a] args kws Q X U:=TCW_b h
theorem TCW_t0 (h:bM c P E pos args kws (λas ks U1=>TCall c P E (.top (.type f)) as ks Q X U1) X U):TCW c P E pos (.top (.type f)) [] args kws Q X U:=TCW_t h
theorem TCW_r0 {f:Addr}(hk:((c.fn f).isSome||(c.cls f).isSome)=true)(h:bM c P E pos args kws (λas ks U1=>TCall c P E (.top (.ref f)) as ks Q X U1) X U):TCW c P E pos (.top (.ref f)) [] args kws Q X U:=TCW_r hk h
theorem TCW_r1 {f:Addr}(hk:((c.fn f).isSome||(c.cls f).isSome)=true)(h:bM c P E pos args kws (λas ks U1=>TCall c P E (.top (.ref f)) (a::as) ks Q X U1) X U):TCW c P E pos (.top (.ref f)) [a] args kws Q X U:=TCW_r hk h
end
end
section
section
variable {α:Type}{c:Cfg}{P:SP}{E:AEnv}{κ:KX}{V0 V:Nat->Addr}{n0 n:Nat}{U:Store}{s:Shared}{X:XP}
variable {scope:Scope}{cl:List (Str×Nat)}{target:Expr}{N i j:Nat}{H U1:Store}{k:IterK}{xs:List AVal}{E':AEnv}{ifs:List Expr}{use:Option (Env->Value->Sem Unit)}{Q:AVal->Store->Prop}{a:AVal}
theorem St.weak (st:St κ V U s){F:Nat}{m:List (Str×AVal)}(h:U.at F=some (.frame m)):St κ V (U.put F (.frame [])) s:=by
 obtain ⟨o,g,es,ep,d,k,r⟩:=st.obj _ _ h
 exact st.upd h (ao':=.frame []) (h':=s.heap) ⟨rfl,λω ω=>rfl⟩ ⟨o,g,es,ep,d,k,λω=>trivial⟩ s.toks s.drawn
theorem TV1.weak {t:Env->Value->Sem α}{a:AVal}{G:(Nat->Addr)->Store->α->Prop}{F:Nat}{m:List (Str×AVal)}(h:U.at F=some (.frame m))(k:TV1 c P E t a G X (U.put F (.frame []))):TV1 c P E t a G X U:=by
 intro κ V s v ok hh hv st ra
 haveI:=k κ V s v ok hh (by rw [Store.put_length];exact hv) (st.weak h) (by rw [Store.put_length];exact ra)
 rw [Store.put_length] at this
 exact this
theorem TM.weak {t:Env->Sem α}{G:(Nat->Addr)->Store->α->Prop}{F:Nat}{m:List (Str×AVal)}(h:U.at F=some (.frame m))(k:TM c P E t G X (U.put F (.frame []))):TM c P E t G X U:=by
 intro κ V s ok hh hv st
 haveI:=k κ V s ok hh (by rw [Store.put_length];exact hv) (st.weak h)
 rw [Store.put_length] at this
 exact this
noncomputable def dJ (scope:Scope):Bool:=scope.names.all λp=>!(p.2 == .cell)
theorem gQ:∀(names:List (Str×NameKind)) (acc:List (Str×Nat)) (U:Store),(names.all λp=>!(p.2 == .cell))=true->dg names acc U=(acc,U)
 | [],_,_,_=>rfl
 | (x,k)::r,acc,U,h=>by
  rw [List.all_cons,Bool.and_eq_true] at h
  unfold dg
  haveI:(k == NameKind.cell)=false:=by haveI:=h.1;revert this;cases (k == NameKind.cell) <;> simp
  rw [this]
  exact gQ r acc U h.2
noncomputable abbrev eF (E:AEnv)(scope:Scope)(cl:List (Str×Nat))(N:Nat):AEnv:={scope:=jl scope E,loc:=N,frame:=E.frame,cells:=cl,qual:=E.qual,func:=.none,code:=E.code,inner:=true}
theorem ka (h:dJ scope=true):aY E scope cl U=(eF E scope cl U.length,U++[some (.frame [])]):=by
 unfold aY eF
 rw [gQ _ _ _ h]
theorem tA {H':Store}(a:H.at N=some (.iter k i))(b:H'.at N=some (.iter k j))(h:di target N H=true):di target N H'=true:=by
 unfold di at h ⊢
 rw [a] at h
 rw [b]
 exact h
theorem jt {x:AVal}(a:H.at N=some (.iter k j))(hx:Items H k xs)(q:xs[j]? = some x):nK N H (some x) (H.put N (.iter k (j+1))):=⟨k,j,xs,a,hx,q,.inl ⟨x,rfl,rfl⟩⟩
theorem ju (a:H.at N=some (.iter k xs.length))(hx:Items H k xs):nK N H none (H.gone N):=⟨k,_,xs,a,hx,List.getElem?_eq_none (Nat.le_refl _),.inr ⟨rfl,rfl,rfl⟩⟩
theorem mI {xs:List α}(hj:j<=xs.length)(q:xs[j]? = none):j=xs.length:=Nat.le_antisymm hj (List.getElem?_eq_none_iff.mp q)
theorem iR {xs:List α}{x:α}(q:xs[j]? = some x):j<xs.length:=(List.getElem?_eq_some_iff.mp q).1
theorem TIfs.mono {ifs:List Expr}{A B:Bool->Store->Prop}(h:TIfs c P E ifs A X U)(k:∀b U',A b U'->B b U'):TIfs c P E ifs B X U:=by
 cases ifs with
 | nil=>exact k _ _ h
 | cons t ts=>cases ts with
  | nil=>exact TM.mono (t:=λenv=>isTrue t env (eval t env)) h (λω ω b ω hb=>k b _ hb) λω ω h=>h
  | cons _ _=>exact h
theorem TAsg.mono {t:Expr}{a:AVal}{Q Q':Store->Prop}(h:TAsg c P E t a Q X U)(k:∀U',Q U'->Q' U'):TAsg c P E t a Q' X U:=
 λκ V s v ok hh hv st ra=>Mine.J.mono (h κ V s v ok hh hv st ra) (λω ω ω ω ω g=>k _ g) λω ω h=>h
def CTurn (c:Cfg)(P:SP)(E':AEnv)(elt target:Expr)(ifs:List Expr)(N:Nat)(k:IterK)(J:Nat->List AVal->Store->Prop)(j:Nat)(x:AVal)(l:List AVal)(H:Store):Prop:=
 TAsg c P E' target x (λU2=>TIfs c P E' ifs (λb U3=>if b then TE c P E' elt (λy U4=>J (j+1) (l++[y]) U4/\U4.at N=some (.iter k (j+1))/\U4.at (N+1)=some (.list l)/\∃m,U4.at (N+2)=some (.frame m)) noX U3
  else J (j+1) l U3/\U3.at N=some (.iter k (j+1))/\U3.at (N+1)=some (.list l)/\∃m,U3.at (N+2)=some (.frame m)) noX U2) noX H
theorem jm {es:List Expr}{q:Nat}{p:Pos}{l:Nat}(h:U.at i=some (.iter (.list l) j)):di (.Tuple es q p) i U=true:=by unfold di;rw [h];rfl
structure CIG (N:Nat)(k:IterK)(xs:List AVal)(J:Nat->List AVal->Store->Prop)(Z:Store->Prop)(j:Nat)(l:List AVal)(n:Nat)(H:Store):Prop where
 en:n=xs.length - j
 ej:j<=xs.length
 el:l.length<=j
 eJ:J j l H
 it:H.at N=some (.iter k j)
 ls:H.at (N+1)=some (.list l)
 fr:∃m,H.at (N+2)=some (.frame m)
 z:Z H
structure CAft (N:Nat)(k:IterK)(J:Nat->List AVal->Store->Prop)(Z:Store->Prop)(j:Nat)(l' l:List AVal)(H:Store):Prop where
 eJ:J (j+1) l' H
 it:H.at N=some (.iter k (j+1))
 ls:H.at (N+1)=some (.list l)
 fr:∃m,H.at (N+2)=some (.frame m)
 z:Z H
def CTurnG (c:Cfg)(P:SP)(E':AEnv)(elt target:Expr)(ifs:List Expr)(N:Nat)(k:IterK)(J:Nat->List AVal->Store->Prop)(Z:Store->Prop)(j:Nat)(x:AVal)(l:List AVal)(H:Store):Prop:=
 TAsg c P E' target x (λU2=>TIfs c P E' ifs (λb U3=>if b then TE c P E' elt (λy U4=>CAft N k J Z j (l++[y]) l U4) noX U3 else CAft N k J Z j l l U3) noX U2) noX H
theorem CAft.elt {n':Nat}{J:Nat->List AVal->Store->Prop}{Z:Store->Prop}{elt:Expr}{l:List AVal}(hxl:xs.length<=lenLine)(hs:∀j l H i y,N<=i->i<=N+2->J j l H->J j l (H.put i y))(hz:∀H i y,N<=i->i<=N+2->Z H->Z (H.put i y))
  (hn:n'=xs.length - j) (hjl:j<xs.length) (hl:l.length<=j) {b:Bool} {U3:Store} (hb:if b then TE c P E' elt (λy U4=>CAft N k J Z j (l++[y]) l U4) noX U3 else CAft N k J Z j l l U3):i6 c P E' n0 elt (N+1) (λn H=>∃j l,CIG N k xs J Z j l n H) n' b U3:=by
 haveI lt:xs.length - (j+1)<n':=hn▸Nat.sub_succ_lt_self _ _ hjl
 cases b with
 | true=>
  refine TE.mono hb λy U4 h=>⟨l,h.ls,Nat.lt_of_lt_of_le (Nat.lt_of_le_of_lt hl hjl) hxl,_,lt,j+1,l++[y],rfl,hjl,?_,hs _ _ _ _ _ (Nat.le_succ _) (Nat.le_succ _) h.eJ,at_put_ne (Nat.ne_of_lt (Nat.lt_succ_self _)) h.it,at_put_eq h.ls,?_,hz _ _ _ (Nat.le_succ _) (Nat.le_succ _) h.z⟩
  ·rw [List.length_append];exact Nat.succ_le_succ hl
  ·obtain ⟨m,e⟩:=h.fr
   exact ⟨m,at_put_ne (Nat.ne_of_gt (Nat.lt_succ_self _)) e⟩
 | false=>exact ⟨_,lt,j+1,l,rfl,hjl,Nat.le_succ_of_le hl,hb.eJ,hb.it,hb.ls,hb.fr,hb.z⟩
theorem CompAt.gen {elt:Expr}{τ:Store}(J:Nat->List AVal->Store->Prop)(Z:Store->Prop)
  (hN:U1.length=N) (hit:bK U1 a k) (hcl:ba E.cells scope.names []=some cl) (hE:∀U:Store,U.length=N+2->aY E scope cl U=(E',U++τ)) (hxl:xs.length<=lenLine)
  (hx:∀j l H,J j l H->Items H k xs) (hs:∀j l H i y,N<=i->i<=N+2->J j l H->J j l (H.put i y)) (hz:∀H i y,N<=i->i<=N+2->Z H->Z (H.put i y)) (hg:∀j l H,J j l H->J j l (H.gone N)) (h0:CIG N k xs J Z 0 [] xs.length (U1++[some (.iter k 0)]++[some (.list [])]++τ))
  (hown:∀H,H.at N=some (.iter k 0)->di target N H=true)
  (turn:∀j a l H,xs[j]? = some a->J j l H->l.length<=j->H.at N=some (.iter k (j+1))->H.at (N+1)=some (.list l)->H.at (N+2)=some (.frame [])->Z H->CTurnG c P E' elt target ifs N k J Z j a l H)
  (fin:∀l H,J xs.length l H->H.at (N+1)=some (.list l)->(∃m,H.at (N+2)=some (.frame m))->fB c P E use (N+1) (N+2) Q X H) :
  CompAt c P E elt target ifs scope use Q X a U1:=by
 haveI hlen:(U1++[some (AObj.iter k 0)]).length=N+1:=by rw [List.length_append,hN];rfl
 haveI he:=hE (U1++[some (AObj.iter k 0)]++[some (AObj.list [])]) (by rw [List.length_append,hlen];rfl)
 refine ⟨k,cl,xs.length,λn H=>∃j l,CIG N k xs J Z j l n H,hit,hcl,?_⟩
 rw [he,hN]
 refine ⟨⟨0,[],h0⟩,λn' H ⟨j,l,g⟩=>?_⟩
 cases q:xs[j]? with
 | none=>
  have hje:=mI g.ej q
  have gi:=g.it
  have gJ:=g.eJ
  rw [hje] at gi gJ
  obtain ⟨m,fr⟩:=g.fr
  exact ⟨none,_,ju gi (hx _ _ _ gJ),fin l (H.gone N) (hg _ _ _ gJ) (at_gone_ne (Nat.ne_of_gt (Nat.lt_succ_self _)) g.ls) ⟨m,at_gone_ne (Nat.ne_of_gt (Nat.lt_succ_of_lt (Nat.lt_succ_self _))) fr⟩⟩
 | some x=>
  refine ⟨some x,_,jt g.it (hx _ _ _ g.eJ) q,tA (at_put_eq g.it) (at_put_eq g.it) (hown (H.put N (.iter k 0)) (at_put_eq g.it)),?_⟩
  obtain ⟨m,fr⟩:=g.fr
  haveI n1:N+1≠N:=Nat.ne_of_gt (Nat.lt_succ_self _)
  have n2:N+2≠N:=Nat.ne_of_gt (Nat.lt_succ_of_lt (Nat.lt_succ_self _))
  have n3:N+1≠N+2:=Nat.ne_of_lt (Nat.lt_succ_self _)
  have l2:N<=N+2:=Nat.le_add_right _ _
  refine TV1.weak (F:=N+2) (m:=m) (at_put_ne n2 fr) ?_
  haveI tt:=turn j x l ((H.put N (.iter k (j+1))).put (N+2) (.frame [])) q (hs _ _ _ _ _ l2 (Nat.le_refl _) (hs _ _ _ _ _ (Nat.le_refl _) l2 g.eJ)) g.el (at_put_ne (Ne.symm n2) (at_put_eq g.it)) (at_put_ne n3 (at_put_ne n1 g.ls)) (at_put_eq (at_put_ne n2 fr)) (hz _ _ _ l2 (Nat.le_refl _) (hz _ _ _ (Nat.le_refl _) l2 g.z))
  exact TAsg.mono tt λω hI=>TIfs.mono hI λb U3 hb=>CAft.elt hxl hs hz g.en (iR q) g.el hb
theorem CompAt.of {elt:Expr}(J:Nat->List AVal->Store->Prop)
  (hN:U1.length=N) (hit:bK U1 a k) (hcl:ba E.cells scope.names []=some cl) (hnc:dJ scope=true) (hxl:xs.length<=lenLine)
  (hx:∀j l H,J j l H->Items H k xs) (hs:∀j l H i y,N<=i->i<=N+2->J j l H->J j l (H.put i y)) (hg:∀j l H,J j l H->J j l (H.gone N)) (h0:J 0 [] (U1++[some (.iter k 0),some (.list []),some (.frame [])]))
  (hown:∀H,H.at N=some (.iter k 0)->di target N H=true)
  (turn:∀j x l H,xs[j]? = some x->J j l H->l.length<=j->H.at N=some (.iter k (j+1))->H.at (N+1)=some (.list l)->H.at (N+2)=some (.frame [])->CTurn c P (eF E scope cl (N+2)) elt target ifs N k J j x l H)
  (fin:∀l H,J xs.length l H->H.at (N+1)=some (.list l)->(∃m,H.at (N+2)=some (.frame m))->fB c P E use (N+1) (N+2) Q X H) :
  CompAt c P E elt target ifs scope use Q X a U1:=by
 refine CompAt.gen (τ:=[some (.frame [])]) J (λω=>True) hN hit hcl (λU h=>by rw [ka hnc,h]) hxl hx hs (λω ω ω ω ω ω=>trivial) hg ⟨rfl,Nat.zero_le _,Nat.le_refl _,by simpa using h0,at_app_l (at_app_l (at_app_0 hN)),?_,⟨[],?_⟩,trivial⟩ hown (λj x l H q hJ hl b0 b1 b2 ω=>?_) fin
 ·exact at_app_l (at_app_0 (by rw [List.length_append,hN];rfl))
 ·exact at_app_0 (by rw [List.length_append,List.length_append,hN];rfl)
 ·refine TAsg.mono (turn j x l H q hJ hl b0 b1 b2) λω h=>TIfs.mono h λb U3 h=>?_
  cases b with
  | true=>exact TE.mono h λω ω h=>⟨h.1,h.2.1,h.2.2.1,h.2.2.2,trivial⟩
  | false=>exact ⟨h.1,h.2.1,h.2.2.1,h.2.2.2,trivial⟩
end
end
section
def Off (F:Nat)(H U:Store):Prop:=H.length<=U.length/\(∀i x,i≠F->H.at i=some x->U.at i=some x)/\∃m,U.at F=some (.frame m)
theorem Off.put {F:Nat}{H:Store}{m m':List (Str×AVal)}(h:H.at F=some (.frame m)):Off F H (H.put F (.frame m')):=⟨by simp,λi x hn hi=>at_put_ne hn hi,m',at_put_eq h⟩
theorem Off.grow {F:Nat}{H U U':Store}(h:Off F H U)(g:Grow U U'):Off F H U':=⟨Nat.le_trans h.1 g.1,λi x hn hi=>g.at (h.2.1 i x hn hi),h.2.2.choose,g.at h.2.2.choose_spec⟩
theorem Off.app {F:Nat}{H U l:Store}(h:Off F H U):Off F H (U++l):=h.grow (Grow.app _ _)
theorem Grow.put {U H:Store}(h:Grow U H){i:Nat}{x:AObj}(hi:U.length<=i):Grow U (H.put i x):=⟨by simpa using h.1,λj y e=>at_put_ne (by haveI:=Store.at_lt e;omega) (h.at e)⟩
theorem Grow.gone {U H:Store}(h:Grow U H){i:Nat}(hi:U.length<=i):Grow U (H.gone i):=⟨by simpa using h.1,λj y e=>at_gone_ne (by haveI:=Store.at_lt e;omega) (h.at e)⟩
theorem Grow.off {U H H':Store}{F:Nat}(h:Grow U H)(g:Off F H H')(hF:U.length<=F):Grow U H':=⟨Nat.le_trans h.1 g.1,λj y e=>g.2.1 j y (by haveI:=Store.at_lt e;omega) (h.at e)⟩
theorem jj {n:Nat}{g:Nat->Nat}(hg:∀i,i<n->g i=i):∀{l:List AVal},l.all (AVal.ltB n)=true->mA g l=l
 | [],_=>rfl
 | a::l,h=>by
  rw [List.all_cons,Bool.and_eq_true] at h
  have e:a.ren g=a:=by
   cases a <;> first | rfl | (show AVal.loc (g _)=_;rw [hg _ (of_decide_eq_true h.1)])
  show a.ren g::mA g l=_
  rw [e,jj hg h.2]
theorem ja {n p i:Nat}(h:i<n):bv n p i=i:=by unfold bv;rw [if_neg (Nat.ne_of_lt h)]
theorem AVal.ltB_mono {n m:Nat}{a:AVal}(h:a.ltB n=true)(l:n<=m):a.ltB m=true:=by
 cases a <;> first | rfl | exact decide_eq_true (Nat.lt_of_lt_of_le (of_decide_eq_true h) l)
theorem gC {n m:Nat}{l:List AVal}(h:l.all (AVal.ltB n)=true)(le:n<=m):l.all (AVal.ltB m)=true:=
 List.all_eq_true.mpr λa ha=>AVal.ltB_mono (List.all_eq_true.mp h a ha) le
section
variable {c:Cfg}{P:SP}{E:AEnv}{U:Store}{X:XP}
variable {xs:List AVal}{target:Expr}{ifs:List Expr}{scope:Scope}{Q:AVal->Store->Prop}{F:AVal->Option AVal}{a:AVal}{U1:Store}{N:Nat}{k:IterK}{cl:List (Str×Nat)}
structure MapOk (c:Cfg)(P:SP)(E:AEnv)(elt target:Expr)(ifs:List Expr)(scope:Scope)(U:Store)(xs:List AVal)(F:AVal->Option AVal)(a:AVal)(U1:Store)(N:Nat)(k:IterK)(cl:List (Str×Nat)):Prop where
 grow:Grow U U1
 len:U1.length=N
 it:bK U1 a k
 clo:ba E.cells scope.names []=some cl
 nc:dJ scope=true
 xl:xs.length<=lenLine
 items:∀H,Grow U1 H->Items H k xs
 own:∀H,H.at N=some (.iter k 0)->di target N H=true
 turn:∀x H,x∈xs->Grow U1 H->N+3<=H.length->H.at (N+2)=some (.frame [])->TAsg c P (eF E scope cl (N+2)) target x (λU2=>TIfs c P (eF E scope cl (N+2)) ifs (λb U3=>if b then TE c P (eF E scope cl (N+2)) elt (λy U4=>F x=some y/\Off (N+2) H U4) noX U3 else F x=none/\Off (N+2) H U3) noX U2) noX H
def MJ (U1:Store)(xs:List AVal)(F:AVal->Option AVal)(j:Nat)(l:List AVal)(H:Store):Prop:=Grow U1 H/\l=(xs.take j).filterMap F
theorem fh {j:Nat}{x:AVal}(h:xs[j]? = some x):xs.take (j+1)=xs.take j++[x]:=by
 rw [List.take_add_one,h];rfl
theorem MapOk.at_ {elt:Expr}{use:Option (Env->Value->Sem Unit)}
  (h:MapOk c P E elt target ifs scope U xs F a U1 N k cl) (fin:∀H,Grow U1 H->H.at (N+1)=some (.list (xs.filterMap F))->(∃m,H.at (N+2)=some (.frame m))->fB c P E use (N+1) (N+2) Q X H):CompAt c P E elt target ifs scope use Q X a U1:=by
 have hle:∀i,N<=i->U1.length<=i:=λi hi=>by rw [h.len];exact hi
 refine CompAt.of (MJ U1 xs F) h.len h.it h.clo h.nc h.xl (λj l H hJ=>h.items H hJ.1) (λj l H i y hi ω hJ=>⟨hJ.1.put (hle i hi),hJ.2⟩) (λj l H hJ=>⟨hJ.1.gone (hle N (Nat.le_refl _)),hJ.2⟩) ⟨Grow.app _ _,by simp⟩ h.own ?_ ?_
 ·intro j x l H hx hJ hl b0 b1 b2
  haveI hF:Off (N+2) H H:=⟨Nat.le_refl _,λω ω ω h=>h,_,b2⟩
  have tt:=h.turn x H (List.mem_of_getElem? hx) hJ.1 (Store.at_lt b2) b2
  have low:∀{U4:Store},Off (N+2) H U4->Grow U1 U4/\U4.at N=some (.iter k (j+1))/\U4.at (N+1)=some (.list l)/\∃m,U4.at (N+2)=some (.frame m):=λo=>
   ⟨hJ.1.off o (hle _ (by omega)),o.2.1 _ _ (by omega) b0,o.2.1 _ _ (by omega) b1,o.2.2⟩
  refine λκ V s v ok hh hv st ra=>Mine.J.mono (tt κ V s v ok hh hv st ra) ?_ λω ω h=>h
  intro V' U2 r _ _ hI
  haveI hI:TIfs c P (eF E scope cl (N+2)) ifs (λb U3=>if b then TE c P (eF E scope cl (N+2)) elt (λy U4=>F x=some y/\Off (N+2) H U4) noX U3 else F x=none/\Off (N+2) H U3) noX U2:=hI
  have key:∀b U3,(if b=true then TE c P (eF E scope cl (N+2)) elt (λy U4=>F x=some y/\Off (N+2) H U4) noX U3 else F x=none/\Off (N+2) H U3)->
    (if b=true then TE c P (eF E scope cl (N+2)) elt (λy U4=>MJ U1 xs F (j+1) (l++[y]) U4/\U4.at N=some (.iter k (j+1))/\U4.at (N+1)=some (.list l)/\∃m,U4.at (N+2)=some (.frame m)) noX U3
     else MJ U1 xs F (j+1) l U3/\U3.at N=some (.iter k (j+1))/\U3.at (N+1)=some (.list l)/\∃m,U3.at (N+2)=some (.frame m)):=by
   intro b U3 hb
   cases b with
   | true=>
    simp only [if_true] at hb ⊢
    refine TE.mono hb ?_
    rintro y U4 ⟨f1,o⟩
    obtain ⟨g1,g2,g3,g4⟩:=low o
    refine ⟨⟨g1,?_⟩,g2,g3,g4⟩
    rw [fh hx,List.filterMap_append,←hJ.2]
    simp [f1]
   | false=>
    simp only [Bool.false_eq_true,if_false] at hb ⊢
    obtain ⟨f1,o⟩:=hb
    obtain ⟨g1,g2,g3,g4⟩:=low o
    refine ⟨⟨g1,?_⟩,g2,g3,g4⟩
    rw [fh hx,List.filterMap_append,←hJ.2]
    simp [f1]
  show TIfs c P (eF E scope cl (N+2)) ifs (λb U3=>if b=true then TE c P (eF E scope cl (N+2)) elt (λy U4=>MJ U1 xs F (j+1) (l++[y]) U4/\U4.at N=some (.iter k (j+1))/\U4.at (N+1)=some (.list l)/\∃m,U4.at (N+2)=some (.frame m)) noX U3
     else MJ U1 xs F (j+1) l U3/\U3.at N=some (.iter k (j+1))/\U3.at (N+1)=some (.list l)/\∃m,U3.at (N+2)=some (.frame m)) noX U2
  cases ifs with
  | nil=>exact key true _ hI
  | cons t ts=>
   cases ts with
   | nil=>
    refine TM.mono (t:=λenv=>isTrue t env (eval t env)) hI ?_ λω ω h=>h
    intro V3 U3 b _ hb
    exact key _ _ hb
   | cons _ _=>exact hI
 ·rintro l H ⟨g1,g2⟩ b1 b2
  rw [List.take_length] at g2
  subst g2
  exact fin H g1 b1 b2
theorem dE (xs:List AVal)(F:AVal->Option AVal){elt iter:Expr}{pos:Pos}(hfree:P.free=true)(hsc:fi scope=true)(hs:∀V x,foldedSetIterable iter (E.conc V) x=pure x)
  (h:TE c P E iter (λa U1=>∃N k cl,MapOk c P E elt target ifs scope U xs F a U1 N k cl) X U) (hl:(xs.filterMap F).all (AVal.ltB U.length)=true)
  (q:New U (.list (xs.filterMap F)) Q):TE c P E (.ListComp elt [⟨target,iter,ifs,0⟩] scope pos) Q X U:=by
 obtain ⟨n,U2,rfl,rfl,q⟩:=q
 refine TM.wf λwf ω=>TE.tidy (da hfree hsc hs (TE.mono h ?_))
 rintro a U1 ⟨N,k,cl,m⟩
 refine m.at_ λH g1 b1 ⟨mm,b2⟩=>?_
 refine ⟨⟨mm,b2⟩,U++[some (.list (xs.filterMap F))],bv U.length (N+1),.loc U.length,?_,by simp [AVal.ren,bv],by simp [AVal.ltB],q⟩
 haveI hNl:=m.grow.1
 rw [m.len] at hNl
 refine Tidy.one wf ((m.grow.trans g1).gone (by omega)) (by omega) ?_ (gC hl (Nat.le_succ _))
 haveI:(AObj.list (xs.filterMap F)).ren (bv U.length (N+1))=.list (xs.filterMap F):=congrArg AObj.list (jj (λi hi=>ja hi) hl)
 rw [this]
 exact at_gone_ne (by omega) b1
structure Src (U1:Store)(a:AVal)(N:Nat)(k:IterK)(xs:List AVal):Prop where
 len:U1.length=N
 it:bK U1 a k
 items:∀H,Grow U1 H->Items H k xs
theorem Src.list {U1:Store}{i N:Nat}{l:List AVal}(hN:U1.length=N)(h:U1.at i=some (.list l)):Src U1 (.loc i) N (.list i) l:=⟨hN,.list h,λH g=>.list (g.at h)⟩
theorem Src.tuple {U1:Store}{i N:Nat}{l:List AVal}(hN:U1.length=N)(h:U1.at i=some (.tuple l)):Src U1 (.loc i) N (.tuple i) l:=⟨hN,.tuple h,λH g=>.tuple (g.at h)⟩
noncomputable def aP (a b d:Int):List AVal:=(List.range (aW a b d)).map λ(i:Nat)=>.int (a+i * d)
theorem Src.range {U1:Store}{i N:Nat}{a b d:Int}(hN:U1.length=N)(h:U1.at i=some (.range a b d))(h1:Builtin.Range.small a b d=true)(h2:0<=Builtin.Range.rangeSize a b d):Src U1 (.loc i) N (.range a (aW a b d) d) (aP a b d):=⟨hN,.range h h1 h2,λH g=>.range ..⟩
theorem MapOk.of0 {elt:Expr}(s:Src U1 a N k xs)(g:Grow U U1)(xl:xs.length<=lenLine)(clo:ba E.cells scope.names []=some cl)(nc:dJ scope=true)(own:∀H,H.at N=some (.iter k 0)->di target N H=true)
  (turn:∀x H (R:AVal->Store->Prop),(∀{y s},F x=some y/\Off (N+2) H s->R y s)->x∈xs->Grow U1 H->N+3<=H.length->H.at (N+2)=some (.frame [])->TAsg c P (eF E scope cl (N+2)) target x (λU2=>TE c P (eF E scope cl (N+2)) elt R noX U2) noX H):∃N k cl,MapOk c P E elt target [] scope U xs F a U1 N k cl:=
 ⟨N,k,cl,g,s.len,s.it,clo,nc,xl,s.items,own,λx H=>turn x H _ λh=>h⟩
theorem MapOk.of1 {elt t:Expr}(s:Src U1 a N k xs)(g:Grow U U1)(xl:xs.length<=lenLine)(clo:ba E.cells scope.names []=some cl)(nc:dJ scope=true)(own:∀H,H.at N=some (.iter k 0)->di target N H=true)
  (turn:∀x H (R:AVal->Store->Prop) (K:Store->Prop),(∀{y s},F x=some y/\Off (N+2) H s->R y s)->(∀{s},F x=none/\Off (N+2) H s->K s)->x∈xs->Grow U1 H->N+3<=H.length->H.at (N+2)=some (.frame [])->TAsg c P (eF E scope cl (N+2)) target x (λU2=>TT c P (eF E scope cl (N+2)) t (λb U3=>d9 b (TE c P (eF E scope cl (N+2)) elt R noX U3) (K U3)) noX U2) noX H):∃N k cl,MapOk c P E elt target [t] scope U xs F a U1 N k cl:=
 ⟨N,k,cl,g,s.len,s.it,clo,nc,xl,s.items,own,λx H=>turn x H _ _ (λh=>h) λh=>h⟩
end
end
section
section
variable {c:Cfg}{P:SP}{E:AEnv}{U:Store}{X:XP}
variable {i k:Nat}{l:List AVal}{Q:AVal->Store->Prop}{x:Array UInt8}{pos:Pos}{e o:Expr}{rest es:List Expr}{d a:AVal}{xs:List Str}{U':Store}
theorem mD (hi:U.at i=some (.list l))(hl:l.length<=lenLine)(q:Q (.int l.length) U):OPc c P (.builtin "len") [.loc i] Q X U:=lz (.list hi hl) q
theorem lv (hi:U.at i=some (.tuple l))(hl:l.length<=lenLine)(q:Q (.int l.length) U):OPc c P (.builtin "len") [.loc i] Q X U:=lz (.tuple hi hl) q
theorem ot {x:Str}(hl:x.length<=lenLine)(q:Q (.int x.length) U):OPc c P (.builtin "len") [.str x] Q X U:=lz (.str hl) q
theorem ly (hl:x.size<=lenLine)(q:Q (.int x.size) U):OPc c P (.builtin "len") [.bytes x] Q X U:=lz (.bytes hl) q
theorem op_range1' {n:Int}(q:New U (.range 0 n 1) Q):OPc c P (.type "range") [.int n] Q X U:=by
 obtain ⟨k,U2,rfl,rfl,q⟩:=q;exact qU q
theorem op_range3' {a b d:Int}(hd:d≠0)(hp:Builtin.divisionGoesByPylong (b - a) d=false)(q:New U (.range a b d) Q):OPc c P (.type "range") [.int a,.int b,.int d] Q X U:=by
 obtain ⟨k,U2,rfl,rfl,q⟩:=q;exact qT hd hp q
def jR (c:Cfg)(P:SP)(E:AEnv)(pos:Pos)(es:List Expr)(Q:List AVal->Store->Prop)(X:XP)(U:Store):Prop:=TSp c P E (λenv=>backTo pos (starEach es env)) Q X U
theorem TSpE_nil {Q:List AVal->Store->Prop}(h:Q [] U):jR c P E pos [] Q X U:=TSp_nil h
theorem TSpE_cons {Q:List AVal->Store->Prop}(hs:dP e=false)
  (h:TE c P E e (λa U1=>jR c P E pos rest (λas U2=>Q (a::as) U2) X U1) X U):jR c P E pos (e::rest) Q X U:=uG hs h
theorem TE_ListE (h:jR c P E pos es (λas U1=>FitNew as U1 (.list as) Q) X U):TE c P E (.List es pos) Q X U:=TE_List' h
theorem TE_TupleE (h:jR c P E pos es (λas U1=>FitNew as U1 (.tuple as) Q) X U):TE c P E (.Tuple es k pos) Q X U:=TE_Tuple' h
theorem TArgsE {Q:List AVal->List (Str×AVal)->Store->Prop}(hs:dP e=false)(h:jR c P E pos (e::rest) (λas U1=>Q as [] U1) X U):bM c P E pos (e::rest) [] Q X U:=nB hs h
theorem TArgsE_kw {k:Str}{ke:Expr}{kp:Pos}{Q:List AVal->List (Str×AVal)->Store->Prop}(hs:dP e=false)
  (h:jR c P E pos (e::rest) (λas U1=>TE c P E ke (λb U2=>Q as [(k,b)] U2) X U1) X U):bM c P E pos (e::rest) [⟨some k,ke,kp⟩] Q X U:=rW hs h
def pG (c:Cfg)(P:SP)(a b:AVal)(Q:AVal->Store->Prop)(X:XP)(U:Store):Prop:=iH U a/\OP2 c P getItem a b (gV Q) X U
theorem TE_Subscript' {i:Expr}(hs:iW i=false)(h:TE c P E o (λa U1=>TE c P E i (λb U2=>pG c P a b Q X U2) X U1) X U):TE c P E (.Subscript o i pos) Q X U:=lY hs h
theorem seqAt_nat (h:l[k]? = some d)(hk:(k:Int)<2 ^ 62):bz l (k:Int)=some d:=by
 unfold bz
 rw [if_pos ⟨by omega,hk⟩];simpa using h
theorem seqAt_last (h:l[l.length - 1]? = some d):bz l (-1)=some d:=by
 unfold bz
 have hl:0<l.length:=by
  cases l with
  | nil=>simp at h
  | cons _ _=>simp
 have e:(-1:Int)+l.length=((l.length - 1:Nat):Int):=by rw [Int.add_comm];exact (Int.ofNat_sub hl).symm
 rw [if_neg (by decide),if_pos ⟨by decide,Int.neg_le_neg (Int.ofNat_le.mpr hl),by decide⟩]
 have:((-1:Int)+l.length).toNat=l.length - 1:=by rw [e];rfl
 rw [this];exact h
theorem sh {k:Int}(hi:U.at i=some (.list l))(hk:bz l k=some d)(q:Q d U):pG c P (.loc i) (.int k) Q X U:=⟨.list hi,uY hi hk q⟩
theorem ig {es:List (Str×AVal)}{k:Str}(hi:U.at i=some (.dict es))(hk:ae k es=some d)(q:Q d U):pG c P (.loc i) (.str k) Q X U:=⟨.dict hi,uZ hi hk q⟩
theorem aV {x:Str}{k:Int}{ch:Nat}(h0:0<=k/\k<2 ^ 62)(hk:x.cps[k.toNat]? = some ch)(q:Q (.str ⟨#[ch]⟩) U):pG c P (.str x) (.int k) Q X U:=⟨.str,uX h0 hk q⟩
theorem pE {k:Int}(h0:x.size<=lenLine/\0<=k/\k<(x.toList.length:Int))(q:Q (.int (x.toList.getD k.toNat 0).toNat) U):pG c P (.bytes x) (.int k) Q X U:=⟨.bytes,u0 h0 q⟩
theorem TE_Opt_some (h:TE c P E e Q X U):TM c P E (λenv=>valueOrNone (evalOpt (some e) env)) (gV Q) X U:=uP (e:=some e) h
theorem TE_Opt_none (h:Q .none U):TM c P E (λenv=>valueOrNone (evalOpt none env)) (gV Q) X U:=uP (e:=none) h
theorem TE_Slice' {lo hi:Option Expr}{spos:Pos}
  (h:TE c P E o (λa U1=>TM c P E (λenv=>valueOrNone (evalOpt lo env)) (gV λl U2=>TM c P E (λenv=>valueOrNone (evalOpt hi env)) (gV λr U3=>SliceI a l r Q U3) X U2) X U1) X U):TE c P E (.Subscript o (.Slice lo hi none spos) pos) Q X U:=uO h
theorem TAsg_Tuple' {Q:Store->Prop}(hfree:P.free=true)(hx:gq es=some xs)(hl:n5 a U=some l)(hn:xs.length=l.length)
  (e:bt E xs l U U') (q:Q U'):TAsg c P E (.Tuple es k pos) a Q X U:=pz hfree hx hl hn e q
theorem storesA_nil:bt E [] [] U U:=.nil
theorem storesA_local {x:Str}{as:List AVal}{m m':List (Str×AVal)}{U'':Store}(hk:E.scope.kind=.function)(hl:E.scope.names.lookup x=some .local)(hm:U.at E.loc=some (.frame m))(hm':dG x a m=m')(hU:U.put E.loc (.frame m')=U')(h:bt E xs as U' U''):bt E (x::xs) (a::as) U U'':=.cons (.loc' hk hl hm hm' hU) h
theorem seqA_list (h:U.at i=some (.list l)):n5 (.loc i) U=some l:=by show (U.at i).bind AObj.row=_;rw [h];rfl
theorem seqA_tuple (h:U.at i=some (.tuple l)):n5 (.loc i) U=some l:=by show (U.at i).bind AObj.row=_;rw [h];rfl
end
end
section
theorem small1:∀n:Fin 65,Builtin.Range.small 0 (n.val:Nat) 1=true:=by decide
theorem small3:∀n:Fin 65,Builtin.Range.small 0 (n.val:Nat) 3=true:=by decide
theorem aZ {n:Nat}(h:n<=64):Builtin.Range.small 0 n 1=true:=small1 ⟨n,by omega⟩
theorem lj {n:Nat}(h:n<=64):Builtin.Range.small 0 n 3=true:=small3 ⟨n,by omega⟩
theorem bd (a b c:Int):0<=Builtin.Range.rangeSize a b c:=by rw [rangeSize_toNat];omega
theorem kz (n:Nat):aW 0 n 1=n:=by unfold aW;rw [rangeSize_nat];omega
theorem ll (n:Nat):aW 0 n 3<=n:=by unfold aW;have:=rangeSize_toNat_le 0 n 3;omega
theorem nX (n:Nat):aP 0 n 1=(List.range n).map λ(i:Nat)=>.int i:=by
 unfold aP;rw [kz]
 exact List.map_congr_left λi ω=>by simp
theorem eH (a b d:Int):(aP a b d).length=aW a b d:=by unfold aP;simp
theorem qZ {a b d:Int}{x:AVal}(h:x∈aP a b d):∃i:Nat,i<aW a b d/\x=.int (a+i * d):=by
 obtain ⟨i,hi,rfl⟩:=List.mem_map.mp h
 exact ⟨i,List.mem_range.mp hi,rfl⟩
theorem jv {n:Nat}{x:AVal}(h:x∈aP 0 n 1):∃i:Nat,i<n/\x=.int i:=by
 rw [nX] at h
 obtain ⟨i,hi,rfl⟩:=List.mem_map.mp h
 exact ⟨i,List.mem_range.mp hi,rfl⟩
noncomputable def az (f:Int->Option AVal):AVal->Option AVal
 | .int k=>f k
 | _=>none
noncomputable def kE (f:Str->Option AVal):AVal->Option AVal
 | .str k=>f k
 | _=>none
theorem bo {F:AVal->Option AVal}{xs:List AVal}{n:Nat}(h:∀x y,F x=some y->y.ltB n=true):(xs.filterMap F).all (AVal.ltB n)=true:=by
 refine List.all_eq_true.mpr λy hy=>?_
 obtain ⟨x,_,e⟩:=List.mem_filterMap.mp hy
 exact h x y e
def PrefL {β:Type}(l m:List β):Prop:=∃k,m=l++k
theorem PrefL.nil {β:Type}{m:List β}:PrefL [] m:=⟨m,rfl⟩
theorem PrefL.cons {β:Type}{a:β}{l m:List β}(h:PrefL l m):PrefL (a::l) (a::m):=h.elim λk e=>⟨k,congrArg (a :: ·) e⟩
theorem PrefL.eq {β:Type}{l m:List β}(h:PrefL l m):∃k,m=l++k:=h
theorem Grow.pref {U:Store}{l m:List (Option AObj)}(h:PrefL l m):Grow (U++l) (U++m):=by
 obtain ⟨k,rfl⟩:=h.eq
 rw [←List.append_assoc]
 exact Grow.app _ _
theorem Grow.into {U U':Store}{l:Store}(h:Grow U U'):Grow U (U'++l):=h.trans (Grow.app _ _)
section
variable {c:Cfg}{P:SP}{E:AEnv}{U:Store}{X:XP}
variable {α:Type}{k:Nat}{p:Int->Bool}
theorem kJ {l:List α}(h:k<l.length)(d:α):l[k]? = some (l.getD k d):=by
 rw [List.getD_eq_getElem?_getD,List.getElem?_eq_getElem h];rfl
theorem jw {l:List α}{f:α->AVal}(h:k<l.length)(d:α)(hk:l.length<1000):bz (l.map f) (k:Int)=some (f (l.getD k d)):=by
 refine seqAt_nat ?_ (by omega)
 rw [List.getElem?_map,kJ h d];rfl
theorem t8 {l:List α}(h:k<l.length)(d:α):l.getD k d∈l:=List.mem_of_getElem? (kJ h d)
theorem pn (x:Array UInt8)(l:List (Array UInt8)):fD (.bytes x) (l.map .bytes)=some (l.any λy=>decide (y=x)):=by
 induction l with
 | nil=>rfl
 | cons a l ih=>
  rw [List.map_cons,List.any_cons]
  have:(a.toList == x.toList)=decide (a=x):=by
   by_cases h:a=x
   ·subst h;simp
   ·have:a.toList≠x.toList:=λe=>h (Array.toList_inj.mp e)
    rw [decide_eq_false h];exact beq_eq_false_iff_ne.mpr this
  show (match some (a.toList == x.toList) with | some b=>(match fD (.bytes x) (l.map .bytes) with | some c=>some (b||c) | none=>none) | none=>none)=_
  rw [ih,this]
theorem kP (x:Int)(l:List Int):fD (.int x) (l.map .int)=some (l.any λy=>decide (y=x)):=by
 induction l with
 | nil=>rfl
 | cons a l ih=>
  rw [List.map_cons,List.any_cons]
  show (match some (a == x) with | some b=>(match fD (.int x) (l.map .int) with | some c=>some (b||c) | none=>none) | none=>none)=_
  rw [ih,fq]
theorem ones_ok {ks:List AVal}:(ks.filterMap (az λk=>if p k then some (.int 1) else none)).all fM=true:=by
 refine List.all_eq_true.mpr λy hy=>?_
 obtain ⟨x,_,e⟩:=List.mem_filterMap.mp hy
 cases x <;> simp [az] at e
 obtain ⟨_,rfl⟩:=e;rfl
theorem oA {n:Nat}:(((List.range n).map λ(i:Nat)=>AVal.int i).filterMap (az λk=>if p k then some (.int 1) else none)).isEmpty = !((List.range n).any λ(i:Nat)=>p i):=by
 rw [List.filterMap_map]
 generalize List.range n=l
 induction l with
 | nil=>rfl
 | cons a l ih=>
  rw [List.filterMap_cons,List.any_cons]
  by_cases h:p a=true
  ·simp [az,h]
  ·simp only [Bool.not_eq_true] at h
   simp only [Function.comp,az,h,Bool.false_eq_true,if_false,Bool.false_or]
   exact ih
end
end
section
variable {x:Str}{cs:List Str}{l:List (Option AObj)}{E:AEnv}{U U' U'':Store}{a:AVal}{bs:List (Str×AVal)}
noncomputable def bh (names:List (Str×NameKind)):List Str:=names.filterMap λp=>if p.2 == .cell then some p.1 else none
noncomputable def dX:List Str->Nat->List (Str×Nat)->List (Str×Nat)
 | [],_,acc=>acc
 | x::xs,n,acc=>dX xs (n+1) ((x,n)::acc)
noncomputable def bT (cs:List Str):List (Option AObj):=cs.map λω=>some (.cell none)
theorem iV:∀(names:List (Str×NameKind)) (acc:List (Str×Nat)) (U:Store),dg names acc U=(dX (bh names) U.length acc,U++bT (bh names))
 | [],acc,U=>by simp [dg,bh,dX,bT]
 | (x,k)::r,acc,U=>by
  unfold dg bh
  by_cases h:(k == NameKind.cell)=true
  ·rw [if_pos h,iV r]
   simp only [List.filterMap_cons,h,if_true,dX,bT,List.map_cons,List.length_append,List.length_singleton,List.append_assoc,List.singleton_append]
   rfl
  ·rw [if_neg h,iV r]
   have h':(k == NameKind.cell)=false:=by simpa using h
   simp only [List.filterMap_cons,h',Bool.false_eq_true,if_false]
   rfl
def CellsL (cs:List Str)(l:List (Option AObj)):Prop:=bT cs=l
theorem CellsL.nil:CellsL [] []:=rfl
theorem CellsL.cons (h:CellsL cs l):CellsL (x::cs) (some (.cell none)::l):=congrArg (some (AObj.cell none) :: ·) h
theorem CellsL.eq (h:CellsL cs l):bT cs=l:=h
theorem bindAll_nil :eE E [] U U:=.nil
theorem bindAll_local {m m':List (Str×AVal)}(hk:E.scope.kind=.function)(hl:E.scope.names.lookup x=some .local)(hm:U.at E.loc=some (.frame m))(hm':dG x a m=m')(hU:U.put E.loc (.frame m')=U')(h:eE E bs U' U''):eE E ((x,a)::bs) U U'':=.cons (.loc' hk hl hm hm' hU) h
theorem bindAll_cell {i:Nat}{v:Option AVal}(hk:E.scope.kind=.function)(hl:E.scope.names.lookup x=some .cell)(hi:E.cells.lookup x=some i)(hv:U.at i=some (.cell v))(hU:U.put i (.cell (some a))=U')(h:eE E bs U' U''):eE E ((x,a)::bs) U U'':=.cons (.cell' hk hl hi hv hU) h
theorem aT {P:SP}{f:Addr}{l:Lit}{bind:List AVal->List (Str×AVal)->Store->Option (List (Str×AVal)×Store)}{args:List AVal}{kw:List (Str×AVal)}{Q:AVal->Store->Prop}{X:XP}{U1 U2:Store}{N:Nat}{b:List Stmt}{ini:List (Option AObj)}
  (hl:aC f=l) (hf:C0.fn f=some (bP f bind)) (hE:E={scope:=l.scope,loc:=N,frame:=N,cells:=dX cs (N+1) [],qual:=l.qual,func:=.top (.ref f),code:=.top l.code}) (hb':l.body=b) (hd:0<P.d)
  (hb:bind args kw U=some (bs,U1)) (hN:U1.length=N) (hcs:bh E.scope.names=cs) (hini:CellsL cs ini) (ha:eE E bs (U1++some (.frame [])::ini) U2)
  (h:TSs C0 P.down E b (λfl U'=>Q (bL fl) U') (aD E X) U2):TK C0 P (.top (.ref f)) args kw Q X U:=by
 subst hl
 have e:hA f (bP f bind) U1=(E,U1++some (.frame [])::ini):=by
  unfold hA bq
  rw [iV]
  have h1:bh (bP f bind).fd.scope.names=cs:=by rw [←hcs,hE];rfl
  rw [h1,hini.eq,hE]
  dsimp only
  rw [List.length_append,hN,List.append_assoc]
  rfl
 subst hb'
 have r:=EnterR.mk (f:=f) (i:=bP f bind) (args:=args) (kw:=kw) (U:=U) (bs:=bs) (U1:=U1) (U2:=U2) hb
 rw [e] at r
 exact TK_def hf hd (r ha) h
end
section
noncomputable def lE (s:Stmt):List Stmt:=by
 cases s with
 | If _ b _ _=>exact b
 | While _ b _ _=>exact b
 | For _ _ b _ _=>exact b
 | _=>exact []
noncomputable def kid2 (s:Stmt):List Stmt:=by
 cases s with
 | If _ _ o _=>exact o
 | While _ _ o _=>exact o
 | _=>exact []
noncomputable def nth (l:List Stmt)(i:Nat):Stmt:=l.getD i (.Break ⟨0,0,0,0⟩)
def jx (K:Store->Prop)(Q:ai->Store->Prop):ai->Store->Prop
 | .next,U=>K U
 | .cont,U=>K U
 | .brk,U=>Q .next U
 | .ret a,U=>Q (.ret a) U
theorem loopQ_next {K:Store->Prop}{Q:ai->Store->Prop}{U:Store}(h:K U):jx K Q .next U:=h
theorem loopQ_cont {K:Store->Prop}{Q:ai->Store->Prop}{U:Store}(h:K U):jx K Q .cont U:=h
theorem loopQ_brk {K:Store->Prop}{Q:ai->Store->Prop}{U:Store}(h:Q .next U):jx K Q .brk U:=h
theorem loopQ_ret {K:Store->Prop}{Q:ai->Store->Prop}{a:AVal}{U:Store}(h:Q (.ret a) U):jx K Q (.ret a) U:=h
section
variable {c:Cfg}{P:SP}{E:AEnv}{U:Store}{X:XP}
inductive ForR (c:Cfg)(P:SP)(E:AEnv)(target:Expr)(body orelse:List Stmt)(Q:ai->Store->Prop)(X:XP)(a:AVal)(U1:Store):Prop
 | mk (N:Nat) (k:IterK) (xs:List AVal) (J:Nat->Store->Prop) (src:Src U1 a N k xs) (h0:J 0 (U1++[some (.iter k 0)])) (hx:∀j H,J j H->Items H k xs) (hown:∀H,H.at N=some (.iter k 0)->di target N H=true)
   (turn:∀j x H (R:ai->Store->Prop) (Y:XP),(∀{f s},jx (λU3=>J (j+1) U3/\U3.at N=some (.iter k (j+1))) Q f s->R f s)->(∀{i s},bN E X i s->Y i s)->
    xs[j]? = some x->J j H->H.at N=some (.iter k j)->TAsg c P E target x (λU2=>TSs c P E body R Y U2) Y (H.put N (.iter k (j+1))))
   (fin:∀H,J xs.length H->H.at N=some (.iter k xs.length)->TSs c P E orelse Q (bN E X) (H.gone N)):ForR c P E target body orelse Q X a U1
theorem br {target iter:Expr}{body orelse:List Stmt}{pos:Pos}{Q:ai->Store->Prop}(hfree:P.free=true)(hin:E.inner=false)(hs:∀V x,foldedSetIterable iter (E.conc V) x=pure x)
  (h:TE c P E iter (ForR c P E target body orelse Q X) X U):TS c P E (.For target iter body orelse pos) Q X U:=by
 refine TS_For hfree hin hs (TE.mono h ?_)
 rintro a U1 ⟨N,k,xs,J,src,h0,hx,hown,turn,fin⟩
 cases src.len
 refine ⟨k,xs.length,λn H=>∃j,n=xs.length - j/\j<=xs.length/\J j H/\H.at U1.length=some (.iter k j),src.it,⟨0,rfl,Nat.zero_le _,h0,at_app_0 rfl⟩,?_⟩
 rintro n' H ⟨j,hn,hj,hJ,hat⟩
 cases q:xs[j]? with
 | none=>
  have hje:=mI hj q
  subst hje
  exact ⟨none,_,ju hat (hx _ _ hJ),fin H hJ hat⟩
 | some x=>
  refine ⟨some x,_,jt hat (hx _ _ hJ) q,tA (at_put_eq hat) (at_put_eq hat) (hown _ (at_put_eq (x:=.iter k 0) hat)),?_⟩
  have lt:xs.length - (j+1)<n':=hn▸Nat.sub_succ_lt_self _ _ (iR q)
  refine TAsg.mono (turn j x H _ _ (λh=>h) (λh=>h) q hJ hat) λU2 hb=>?_
  refine TM.mono hb ?_ λω ω h=>h
  rintro V3 U3 r3 _ ⟨fl,rf,hq⟩
  refine ⟨fl,rf,?_⟩
  cases fl with
  | next=>exact ⟨_,lt,j+1,rfl,iR q,hq.1,hq.2⟩
  | cont=>exact ⟨_,lt,j+1,rfl,iR q,hq.1,hq.2⟩
  | brk=>exact hq
  | ret a=>exact hq
theorem dy {test:Expr}{body orelse:List Stmt}{pos:Pos}{Q:ai->Store->Prop}(hin:E.inner=false)(I:Nat->Store->Prop)(n:Nat)(hI:I n U)
  (turn:∀n' U' (R:ai->Store->Prop) (Y:XP),(∀{f s},jx (λU2=>∃m,m<n'/\I m U2) Q f s->R f s)->(∀{i s},bN E X i s->Y i s)->I n' U'->
   TT c P E test (λb U1=>d9 b (TSs c P E body R Y U1) (TSs c P E orelse Q Y U1)) Y U'):TS c P E (.While test body orelse pos) Q X U:=by
 refine uH hin I n hI λn' U' h=>?_
 refine TM.mono (t:=λenv=>isTrue test env (eval test env)) (turn n' U' _ _ (λh=>h) (λh=>h) h) ?_ λω ω h=>h
 intro V' U1 b _ hb
 have hb:d9 b (TSs c P E body (jx (λU2=>∃m,m<n'/\I m U2) Q) (bN E X) U1) (TSs c P E orelse Q (bN E X) U1):=hb
 show if b=true then _ else _
 cases b with
 | false=>exact hb
 | true=>
  refine TM.mono hb ?_ λω ω h=>h
  rintro V3 U3 r3 _ ⟨fl,rf,hq⟩
  refine ⟨fl,rf,?_⟩
  cases fl <;> exact hq
theorem iz {α β:Type}{f:α->β}{l:List α}{j:Nat}{x:β}(h:(l.map f)[j]? = some x):∃b,l[j]? = some b/\x=f b:=by
 rw [List.getElem?_map] at h
 cases e:l[j]? with
 | none=>rw [e] at h;cases h
 | some y=>rw [e] at h;cases h;exact ⟨y,rfl,rfl⟩
section
variable {α:Type}{p1 p2 p3 p4 p5 p6 p7 p8 p9:α->Prop}{G:α->Prop}
@[elab_as_elim] theorem gen1 (a:α)(h1:p1 a)(k:∀x,p1 x->G x):G a:=k a h1
@[elab_as_elim] theorem gen2 (a:α)(h1:p1 a)(h2:p2 a)(k:∀x,p1 x->p2 x->G x):G a:=k a h1 h2
@[elab_as_elim] theorem na (a:α)(h1:p1 a)(h2:p2 a)(h3:p3 a)(k:∀x,p1 x->p2 x->p3 x->G x):G a:=k a h1 h2 h3
@[elab_as_elim] theorem gen4 (a:α)(h1:p1 a)(h2:p2 a)(h3:p3 a)(h4:p4 a)(k:∀x,p1 x->p2 x->p3 x->p4 x->G x):G a:=k a h1 h2 h3 h4
@[elab_as_elim] theorem rB (a:α)(h1:p1 a)(h2:p2 a)(h3:p3 a)(h4:p4 a)(h5:p5 a)(k:∀x,p1 x->p2 x->p3 x->p4 x->p5 x->G x):G a:=k a h1 h2 h3 h4 h5
@[elab_as_elim] theorem gen6 (a:α)(h1:p1 a)(h2:p2 a)(h3:p3 a)(h4:p4 a)(h5:p5 a)(h6:p6 a)(k:∀x,p1 x->p2 x->p3 x->p4 x->p5 x->p6 x->G x):G a:=k a h1 h2 h3 h4 h5 h6
end
end
end
section
section
variable {c:Cfg}{P:SP}{E:AEnv}{U:Store}{X:XP}
variable {i d:Nat}{l:List AVal}{Q:AVal->List AVal->Store->Prop}{x k name:Str}{U':Store}{es m:List (Str×AVal)}{a b:AVal}{C p:Addr}{ci:aJ}
theorem rU (h:U.at i=some (.list l))(q:Q (.top (.builtin "list.append")) [.loc i] U):cR c P (.loc i) "append" Q X U:=aI (.list h) PySem.F.plainAttrs_list PySem.F.slot_list_append PySem.F.type_list_append q
theorem TM_pop (h:U.at i=some (.list l))(q:Q (.top (.builtin "list.pop")) [.loc i] U):cR c P (.loc i) "pop" Q X U:=aI (.list h) PySem.F.plainAttrs_list PySem.F.slot_list_pop PySem.F.type_list_pop q
theorem uJ (h:U.at i=some (.list l))(q:Q (.top (.builtin "list.clear")) [.loc i] U):cR c P (.loc i) "clear" Q X U:=aI (.list h) PySem.F.plainAttrs_list PySem.F.slot_list_clear PySem.F.type_list_clear q
theorem TM_get {l:List (Str×AVal)}(h:U.at i=some (.dict l))(q:Q (.top (.builtin "dict.get")) [.loc i] U):cR c P (.loc i) "get" Q X U:=aI (.dict h) PySem.F.plainAttrs_dict PySem.F.slot_dict_get PySem.F.type_dict_get q
theorem pr {ep:Nat}{l:List (Str×AVal)}(h:U.at i=some (.dictE l ep))(q:Q (.top (.builtin "dict.values")) [.loc i] U):cR c P (.loc i) "values" Q X U:=aI (.dictE h) PySem.F.plainAttrs_dict PySem.F.slot_dict_values PySem.F.type_dict_values q
theorem TM_add {l:List Str}(h:U.at i=some (.set l))(q:Q (.top (.builtin "set.add")) [.loc i] U):cR c P (.loc i) "add" Q X U:=aI (.set h) PySem.F.plainAttrs_set PySem.F.slot_set_add PySem.F.type_set_add q
theorem TM_join (q:Q (.top (.builtin "str.join")) [.str x] U):cR c P (.str x) "join" Q X U:=aI .str PySem.F.plainAttrs_str PySem.F.slot_str_join PySem.F.type_str_join q
theorem pt (q:Q (.top (.builtin "str.replace")) [.str x] U):cR c P (.str x) "replace" Q X U:=aI .str PySem.F.plainAttrs_str PySem.F.slot_str_replace PySem.F.type_str_replace q
theorem lW (q:Q (.top (.builtin "str.translate")) [.str x] U):cR c P (.str x) "translate" Q X U:=aI .str PySem.F.plainAttrs_str PySem.F.slot_str_translate PySem.F.type_str_translate q
theorem rS {x:Array UInt8}(q:Q (.top (.builtin "bytes.decode")) [.bytes x] U):cR c P (.bytes x) "decode" Q X U:=aI .bytes FB.plainAttrs_bytes FB.slot_bytes_decode FB.type_bytes_decode q
theorem op_append' {x:AVal}{Q:AVal->Store->Prop}(hi:U.at i=some (.list l))(hl:l.length<=lenLine)(hU:U.put i (.list (l++[x]))=U')(q:Q .none U'):OPc c P (.builtin "list.append") [.loc i,x] Q X U:=by subst hU;exact qW hi hl q
theorem op_pop' {x:AVal}{Q:AVal->Store->Prop}(hi:U.at i=some (.list l))(hl:l.length<=lenLine)(hx:l[l.length - 1]? = some x)(hU:U.put i (.list l.dropLast)=U')(q:Q x U'):OPc c P (.builtin "list.pop") [.loc i] Q X U:=by subst hU;exact op_pop hi hl hx q
theorem op_clear' {Q:AVal->Store->Prop}(hi:U.at i=some (.list l))(hl:l.length<=lenLine)(hU:U.put i (.list [])=U')(q:Q .none U'):OPc c P (.builtin "list.clear") [.loc i] Q X U:=by subst hU;exact tH hi hl q
theorem op_setAdd' {l:List Str}{Q:AVal->Store->Prop}(hi:U.at i=some (.set l))(hl:l.length+1<1000)(hU:U.put i (.set (dR x l))=U')(q:Q .none U'):OPc c P (.builtin "set.add") [.loc i,.str x] Q X U:=by subst hU;exact qS hi hl q
theorem tG {Q:AVal->Store->Prop}(hi:DictR U i es)(ha:(ae k es).getD .none=a)(q:Q a U):OPc c P (.builtin "dict.get") [.loc i,.str k] Q X U:=op_get1 hi (ha▸q)
theorem tF {d:AVal}{Q:AVal->Store->Prop}(hi:DictR U i es)(ha:(ae k es).getD d=a)(q:Q a U):OPc c P (.builtin "dict.get") [.loc i,.str k,d] Q X U:=op_get2 hi (ha▸q)
theorem op_values' {Q:AVal->Store->Prop}(h:DictR U i es)(q:New U (.vals i) Q):OPc c P (.builtin "dict.values") [.loc i] Q X U:=by obtain ⟨n,U2,rfl,rfl,q⟩:=q;exact qQ h q
theorem op_setItem' {Q:Store->Prop}(hi:U.at i=some (.dict es))(hl:es.length<=lenLine)(hU:U.put i (.dict (bY es k a))=U')(q:Q U'):OP3 c P setItem (.loc i) (.str k) a (gU Q) X U:=by subst hU;exact oo hi hl q
theorem op_delItem' {Q:Store->Prop}(hi:U.at i=some (.dict es))(hl:es.length<=lenLine)(hk:(ae k es).isSome=true)(hU:U.put i (.dict (ca es k))=U')(q:Q U'):OP2 c P delItem (.loc i) (.str k) (gU Q) X U:=by subst hU;exact ow hi hl hk q
theorem op_setOwn' {es':List (Str×AVal)}{Q:Store->Prop}(hF:U.at E.frame=some (.frame m))(hi:U.at i=some (.inst C d))(hd:U.at d=some (.idict es))(hc:c.cls C=some ci)(hn:ci.own.contains name=true)(he:eO name a es=es')
  (hz:es'.length<=1000) (hU:U.put d (.idict es')=U') (q:Q U'):nH c P E (λov v=>setAttr ov name v) (.loc i) a (gU Q) X U:=by subst hU;subst he;exact qR hc hF hi hd hn hz q
theorem op_setSlot' {k:Nat}{l l':List (Option AVal)}{Q:Store->Prop}(hF:U.at E.frame=some (.frame m))(hi:U.at i=some (.slots C d l))(hd:U.at d=some (.idict es))(hc:c.cls C=some ci)(hs:ci.slots.lookup name=some (p,k))
  (he:gb l k a=l') (hU:U.put i (.slots C d l')=U') (q:Q U'):nH c P E (λov v=>setAttr ov name v) (.loc i) a (gU Q) X U:=by subst hU;subst he;exact om hc hF hi hd hs q
def PutI (x:Str)(a:AVal)(m m':List (Str×AVal)):Prop:=eO x a m=m'
theorem PutI.nil :PutI x a [] [(x,a)]:=rfl
theorem PutI.hit {l:List (Str×AVal)}:PutI x a ((x,b)::l) ((x,a)::l):=if_pos rfl
theorem PutI.miss {y:Str}{l l':List (Str×AVal)}(hn:(y == x)=false)(h:PutI x a l l'):PutI x a ((y,b)::l) ((y,b)::l'):=(if_neg (beq_eq_false_iff_ne.mp hn)).trans (congrArg ((y,b) :: ·) h)
theorem PutI.eq {m':List (Str×AVal)}(h:PutI x a m m'):eO x a m=m':=h
theorem TA_own {Q:AVal->Store->Prop}(hi:U.at i=some (.inst C d))(hd:U.at d=some (.idict es))(hc:c.cls C=some ci)(hn:ci.own.contains name=true)
  (ha:ae name es=some a) (hh:jD a=true) (q:Q a U):d8 c P (.loc i) name Q X U:=rV hc hi hd hn ha hh q
theorem TA_slot {k:Nat}{l:List (Option AVal)}{Q:AVal->Store->Prop}(hi:U.at i=some (.slots C d l))(hd:U.at d=some (.idict es))(hc:c.cls C=some ci)(hs:ci.slots.lookup name=some (p,k))
  (ha:l[k]? = some (some a)) (hh:jD a=true) (q:Q a U):d8 c P (.loc i) name Q X U:=px hc hi hd hs ha hh q
theorem TM_inst {f:Addr}(hi:U.at i=some (.inst C d))(hd:U.at d=some (.idict es))(hc:c.cls C=some ci)(hm:ci.meths.lookup name=some f)
  (ha:ae name es=none) (q:Q (.top (.ref f)) [.loc i] U):cR c P (.loc i) name Q X U:=pq hc hi hd hm ha q
theorem tB {x:Array UInt8}{Q:AVal->Store->Prop}(q:Q (.top (.type "bytes")) U):OPc c P (.type "type") [.bytes x] Q X U:=pQ rfl q
theorem tC {x:Bool}{Q:AVal->Store->Prop}(q:Q (.top (.type "bool")) U):OPc c P (.type "type") [.bool x] Q X U:=pQ rfl q
end
end
section
theorem at_put_kind {U:Store}{i j:Nat}{x y z:AObj}(h:U.at j=some y)(hi:U.at i=some z)(hk:y≠z):(U.put i x).at j=some y:=at_put_ne (gp h hi hk) h
theorem at_gone_kind {U:Store}{i j:Nat}{y z:AObj}(h:U.at j=some y)(hi:U.at i=some z)(hk:y≠z):(U.gone i).at j=some y:=at_gone_ne (gp h hi hk) h
theorem kH {y z:AObj}(h:Nat.beq y.ctorIdx z.ctorIdx=false):y≠z:=λe=>by
 rw [e] at h
 exact Nat.ne_of_beq_eq_false h rfl
theorem at_put_tag {U:Store}{i j:Nat}{x y z:AObj}(h:U.at j=some y)(hi:U.at i=some z)(hk:Nat.beq y.ctorIdx z.ctorIdx=false):(U.put i x).at j=some y:=at_put_kind h hi (kH hk)
theorem at_gone_tag {U:Store}{i j:Nat}{y z:AObj}(h:U.at j=some y)(hi:U.at i=some z)(hk:Nat.beq y.ctorIdx z.ctorIdx=false):(U.gone i).at j=some y:=at_gone_kind h hi (kH hk)
theorem SP.down_free {P:SP}(h:P.free=true):P.down.free=true:=h
def EV (c:Cfg)(P:SP)(E:AEnv)(U:Store)(e:Expr)(a:AVal)(U':Store):Prop:=∀(Q:AVal->Store->Prop) (X:XP),Q a U'->TE c P E e Q X U
def EVs (c:Cfg)(P:SP)(E:AEnv)(pos:Pos)(U:Store)(es:List Expr)(as:List AVal)(U':Store):Prop:=∀(Q:List AVal->Store->Prop) (X:XP),Q as U'->jR c P E pos es Q X U
def EAr (c:Cfg)(P:SP)(E:AEnv)(pos:Pos)(U:Store)(es:List Expr)(kw:List Keyword)(as:List AVal)(ks:List (Str×AVal))(U':Store):Prop:=∀(Q:List AVal->List (Str×AVal)->Store->Prop) (X:XP),Q as ks U'->bM c P E pos es kw Q X U
def EWc (c:Cfg)(P:SP)(E:AEnv)(pos:Pos)(U:Store)(f:AVal)(first:List AVal)(es:List Expr)(kw:List Keyword)(a:AVal)(U':Store):Prop:=∀(Q:AVal->Store->Prop) (X:XP),Q a U'->TCW c P E pos f first es kw Q X U
def ECl (c:Cfg)(P:SP)(E:AEnv)(U:Store)(f:AVal)(as:List AVal)(ks:List (Str×AVal))(a:AVal)(U':Store):Prop:=∀(Q:AVal->Store->Prop) (X:XP),Q a U'->TCall c P E f as ks Q X U
def EB2 (c:Cfg)(P:SP)(t:Value->Value->Sem Value)(U:Store)(a b d:AVal)(U':Store):Prop:=∀(Q:AVal->Store->Prop) (X:XP),Q d U'->OP2 c P t a b (gV Q) X U
def EGt (c:Cfg)(P:SP)(U:Store)(a b d:AVal)(U':Store):Prop:=∀(Q:AVal->Store->Prop) (X:XP),Q d U'->pG c P a b Q X U
def EMt (c:Cfg)(P:SP)(U:Store)(a:AVal)(name:Str)(f:AVal)(first:List AVal)(U':Store):Prop:=∀(Q:AVal->List AVal->Store->Prop) (X:XP),Q f first U'->cR c P a name Q X U
def EAt (c:Cfg)(P:SP)(U:Store)(a:AVal)(name:Str)(d:AVal)(U':Store):Prop:=∀(Q:AVal->Store->Prop) (X:XP),Q d U'->d8 c P a name Q X U
def ESl (U:Store)(a l r d:AVal)(U':Store):Prop:=∀(Q:AVal->Store->Prop),Q d U'->SliceI a l r Q U
def EOp (c:Cfg)(P:SP)(E:AEnv)(U:Store)(e:Option Expr)(a:AVal)(U':Store):Prop:=∀(Q:AVal->Store->Prop) (X:XP),Q a U'->TM c P E (λenv=>valueOrNone (evalOpt e env)) (gV Q) X U
def ETr (c:Cfg)(P:SP)(U:Store)(a:AVal)(b:Bool)(U':Store):Prop:=∀(Q:Bool->Store->Prop) (X:XP),Q b U'->TTru c P a Q X U
def ET (c:Cfg)(P:SP)(E:AEnv)(U:Store)(e:Expr)(b:Bool)(U':Store):Prop:=∀(Q:Bool->Store->Prop) (X:XP),Q b U'->TT c P E e Q X U
def ES (c:Cfg)(P:SP)(E:AEnv)(U:Store)(s:Stmt)(U':Store):Prop:=∀(Q:ai->Store->Prop) (X:XP),Q .next U'->TS c P E s Q X U
def EAs (c:Cfg)(P:SP)(E:AEnv)(U:Store)(ts:List Expr)(a:AVal)(U':Store):Prop:=∀(Q:Store->Prop) (X:XP),Q U'->kT c P E ts a Q X U
def EA1 (c:Cfg)(P:SP)(E:AEnv)(U:Store)(t:Expr)(a:AVal)(U':Store):Prop:=∀(Q:Store->Prop) (X:XP),Q U'->TAsg c P E t a Q X U
def EO3 (c:Cfg)(P:SP)(U:Store)(a b d:AVal)(U':Store):Prop:=∀(Q:Store->Prop) (X:XP),Q U'->OP3 c P setItem a b d (gU Q) X U
def EU2 (c:Cfg)(P:SP)(U:Store)(a b:AVal)(U':Store):Prop:=∀(Q:Store->Prop) (X:XP),Q U'->OP2 c P delItem a b (gU Q) X U
def vk (c:Cfg)(P:SP)(E:AEnv)(name:Str)(U:Store)(a b:AVal)(U':Store):Prop:=∀(Q:Store->Prop) (X:XP),Q U'->nH c P E (λov v=>setAttr ov name v) a b (gU Q) X U
section
variable {c:Cfg}{P:SP}{E:AEnv}{U:Store}
variable {m es ks:List (Str×AVal)}{x name y attr:Str}{pos:Pos}{a v d b lo hi:AVal}{i n k j:Nat}{args rest:List Expr}{kws:List Keyword}{U1 U2 U3 U4 U':Store}{o u e value t:Expr}{f:String}{l as:List AVal}{w:Value}{C p:Addr}{ci:aJ}{X:XP}{Q:AVal->Store->Prop}
theorem EV_local (hk:E.scope.kind=.function)(hm:U.at E.loc=some (.frame m))(hl:E.scope.names.lookup x=some .local)(hd:a7 x=true)(ha:m.lookup x=some a):EV c P E U (.Name x pos) a U:=λω ω q=>uM hd hk hl hm ha q
theorem EV_glob (hk:E.scope.kind=.function)(hl:E.scope.names.lookup x=some .globalImplicit)(hd:a7 x=true)(ha:c.glob x=some a):EV c P E U (.Name x pos) a U:=λω ω q=>er hd hk hl ha q
theorem EV_blt (hk:E.scope.kind=.function)(hl:E.scope.names.lookup x=some .globalImplicit)(hd:a7 x=true)(hg:c.glob x=none)(ha:c.blt x=some a):EV c P E U (.Name x pos) a U:=λω ω q=>pu hd hk hl hg ha q
theorem EV_cell (hk:E.scope.kind=.function)(hl:E.scope.names.lookup x=some .cell)(hd:a7 x=true)(hi:E.cells.lookup x=some i)(hv:U.at i=some (.cell (some a))):EV c P E U (.Name x pos) a U:=λω ω q=>TE_cell hd hk hl hi hv q
theorem EV_free (hk:E.scope.kind=.function)(hl:E.scope.names.lookup x=some .free)(hd:a7 x=true)(hi:E.cells.lookup x=some i)(hv:U.at i=some (.cell (some a))):EV c P E U (.Name x pos) a U:=λω ω q=>TE_free hd hk hl hi hv q
theorem EV_const {k:Const}(ha:um k=some a):EV c P E U (.Constant k n pos) a U:=λω ω q=>db ha q
theorem EV_call {f:Expr}(hf:oL f=false)(h1:EV c P E U f v U1)(h2:EWc c P E pos U1 v [] args kws a U2):EV c P E U (.Call f args kws pos) a U2:=λω ω q=>TE_Call hf (h1 _ _ (h2 _ _ q))
theorem EV_meth {apos:Pos}{f:AVal}{first:List AVal}(hb:∀env t,attributeBase o name env t=t)(hp:(apos.endLine == pos.line)=true)(hm:∀env:Env,methodCallForm (args.length+kws.length) (backTo pos (starEach args env)) (backToKw pos (keywordEach kws env))=true)(h1:EV c P E U o v U1)(h2:EMt c P U1 v name f first U2)(h3:EWc c P E pos U2 f first args kws a U3):EV c P E U (.Call (.Attribute o name apos) args kws pos) a U3:=λω ω q=>TE_CallMethod hb hp hm (h1 _ _ (h2 _ _ (h3 _ _ q)))
theorem EV_slice {lo hi:Option Expr}{spos:Pos}{l u:AVal}(h1:EV c P E U o a U1)(h2:EOp c P E U1 lo l U2)(h3:EOp c P E U2 hi u U3)(h4:ESl U3 a l u d U4):EV c P E U (.Subscript o (.Slice lo hi none spos) pos) d U4:=λω ω q=>TE_Slice' (h1 _ _ (h2 _ _ (h3 _ _ (h4 _ q))))
theorem EV_sub {i:Expr}(hs:iW i=false)(h1:EV c P E U o a U1)(h2:EV c P E U1 i b U2)(h3:EGt c P U2 a b d U3):EV c P E U (.Subscript o i pos) d U3:=λω ω q=>TE_Subscript' hs (h1 _ _ (h2 _ _ (h3 _ _ q)))
theorem EV_attr (hb:∀env t,attributeBase o name env t=t)(h1:EV c P E U o a U1)(h2:EAt c P U1 a name d U2):EV c P E U (.Attribute o name pos) d U2:=λω ω q=>TE_Attribute hb (h1 _ _ (h2 _ _ q))
theorem EV_bin {l:Expr}{op:Operator}(h1:EV c P E U l a U1)(h2:EV c P E U1 u b U2)(h3:EB2 c P (binaryOp op) U2 a b d U3):EV c P E U (.BinOp l op u pos) d U3:=λω ω q=>TE_BinOp (h1 _ _ (h2 _ _ (h3 _ _ q)))
theorem EV_cmp {l:Expr}{op:CmpOp}(hb:behindInMarks op u=false)(h1:EV c P E U l a U1)(h2:EV c P E U1 u b U2)(h3:EB2 c P (compareOp op) U2 a b d U3):EV c P E U (.Compare l [op] [u] pos) d U3:=λω ω q=>TE_Compare (h1 _ _ (h2 _ _ (h3 _ _ q))) hb
theorem EV_list {es:List Expr}(h:EVs c P E pos U es as U1)(hl:as.length<=lenLine)(hn:U1.length=n)(hs:U1++[some (AObj.list as)]=U2):EV c P E U (.List es pos) (.loc n) U2:=λω ω q=>TE_ListE (h _ _ (FitNew.mk hl hn hs q))
theorem EV_tuple {es:List Expr}(h:EVs c P E pos U es as U1)(hl:as.length<=lenLine)(hn:U1.length=n)(hs:U1++[some (AObj.tuple as)]=U2):EV c P E U (.Tuple es k pos) (.loc n) U2:=λω ω q=>TE_TupleE (h _ _ (FitNew.mk hl hn hs q))
theorem EV_neg {x:Expr}{i:Int}(h:EV c P E U x (.int i) U1):EV c P E U (.UnaryOp .USub x pos) (.int (-i)) U1:=λω ω q=>TE_Neg (h _ _ ⟨i,rfl,q⟩)
theorem EVs_nil :EVs c P E pos U [] [] U:=λω ω q=>TSpE_nil q
theorem EVs_cons (hs:dP e=false)(h1:EV c P E U e a U1)(h2:EVs c P E pos U1 rest as U2):EVs c P E pos U (e::rest) (a::as) U2:=λω ω q=>TSpE_cons hs (h1 _ _ (h2 _ _ q))
theorem EAr_nil :EAr c P E pos U [] [] [] [] U:=λω ω q=>TArgs_nil q
theorem EAr_E (hs:dP e=false)(h:EVs c P E pos U (e::rest) as U1):EAr c P E pos U (e::rest) [] as [] U1:=λω ω q=>TArgsE hs (h _ _ q)
theorem EWc_b0 (h1:EAr c P E pos U args kws as ks U1)(h2:ECl c P E U1 (.top (.builtin f)) as ks a U2):EWc c P E pos U (.top (.builtin f)) [] args kws a U2:=λω ω q=>TCW_b0 (h1 _ _ (h2 _ _ q))
theorem EWc_b1 {x:AVal}(h1:EAr c P E pos U args kws as ks U1)(h2:ECl c P E U1 (.top (.builtin f)) (x::as) ks a U2):EWc c P E pos U (.top (.builtin f)) [x] args kws a U2:=λω ω q=>TCW_b1 (h1 _ _ (h2 _ _ q))
theorem EWc_t0 (h1:EAr c P E pos U args kws as ks U1)(h2:ECl c P E U1 (.top (.type f)) as ks a U2):EWc c P E pos U (.top (.type f)) [] args kws a U2:=λω ω q=>TCW_t0 (h1 _ _ (h2 _ _ q))
theorem EWc_r0 {f:Addr}(hk:((c.fn f).isSome||(c.cls f).isSome)=true)(h1:EAr c P E pos U args kws as ks U1)(h2:ECl c P E U1 (.top (.ref f)) as ks a U2):EWc c P E pos U (.top (.ref f)) [] args kws a U2:=λω ω q=>TCW_r0 hk (h1 _ _ (h2 _ _ q))
theorem ECl_append {x:AVal}(h:U.at i=some (.list l))(hl:l.length<=lenLine)(hs:U.put i (.list (l++[x]))=U'):ECl c P E U (.top (.builtin "list.append")) [.loc i,x] [] .none U':=λω ω q=>TCall.op (op_append' h hl hs q)
theorem ECl_pop {x:AVal}(h:U.at i=some (.list l))(hl:l.length<=lenLine)(hx:l[l.length - 1]? = some x)(hs:U.put i (.list l.dropLast)=U'):ECl c P E U (.top (.builtin "list.pop")) [.loc i] [] x U':=λω ω q=>TCall.op (op_pop' h hl hx hs q)
theorem ECl_clear (h:U.at i=some (.list l))(hl:l.length<=lenLine)(hs:U.put i (.list [])=U'):ECl c P E U (.top (.builtin "list.clear")) [.loc i] [] .none U':=λω ω q=>TCall.op (op_clear' h hl hs q)
theorem ECl_setAdd {l:List Str}(h:U.at i=some (.set l))(hl:l.length+1<1000)(hs:U.put i (.set (dR x l))=U'):ECl c P E U (.top (.builtin "set.add")) [.loc i,.str x] [] .none U':=λω ω q=>TCall.op (op_setAdd' h hl hs q)
theorem ECl_getd1 {k:Str}(h:DictR U i es)(he:(ae k es).getD .none=a):ECl c P E U (.top (.builtin "dict.get")) [.loc i,.str k] [] a U:=λω ω q=>TCall.op (tG h he q)
theorem ECl_getd2 {k:Str}(h:DictR U i es)(he:(ae k es).getD d=a):ECl c P E U (.top (.builtin "dict.get")) [.loc i,.str k,d] [] a U:=λω ω q=>TCall.op (tF h he q)
theorem ECl_values (h:DictR U i es)(hn:U.length=n)(hs:U++[some (.vals i)]=U'):ECl c P E U (.top (.builtin "dict.values")) [.loc i] [] (.loc n) U':=λω ω q=>TCall.op (op_values' h (New.mk hn hs q))
theorem ECl_typeb {x:Array UInt8}:ECl c P E U (.top (.type "type")) [.bytes x] [] (.top (.type "bytes")) U:=λω ω q=>TCall.op (tB q)
theorem ECl_typeB {x:Bool}:ECl c P E U (.top (.type "type")) [.bool x] [] (.top (.type "bool")) U:=λω ω q=>TCall.op (tC q)
theorem ECl_lenl (h:U.at i=some (.list l))(hl:l.length<=lenLine):ECl c P E U (.top (.builtin "len")) [.loc i] [] (.int l.length) U:=λω ω q=>TCall.op (mD h hl q)
theorem ECl_lent (h:U.at i=some (.tuple l))(hl:l.length<=lenLine):ECl c P E U (.top (.builtin "len")) [.loc i] [] (.int l.length) U:=λω ω q=>TCall.op (lv h hl q)
theorem ECl_lens (hl:x.length<=lenLine):ECl c P E U (.top (.builtin "len")) [.str x] [] (.int x.length) U:=λω ω q=>TCall.op (ot hl q)
theorem ECl_lenb {x:Array UInt8}(hl:x.size<=lenLine):ECl c P E U (.top (.builtin "len")) [.bytes x] [] (.int x.size) U:=λω ω q=>TCall.op (ly hl q)
theorem ECl_range1 {k:Int}(hn:U.length=n)(hs:U++[some (.range 0 k 1)]=U'):ECl c P E U (.top (.type "range")) [.int k] [] (.loc n) U':=λω ω q=>TCall.op (op_range1' (New.mk hn hs q))
theorem ECl_range3 {a b d:Int}(hd:d≠0)(hp:Builtin.divisionGoesByPylong (b - a) d=false)(hn:U.length=n)(hs:U++[some (.range a b d)]=U'):ECl c P E U (.top (.type "range")) [.int a,.int b,.int d] [] (.loc n) U':=λω ω q=>TCall.op (op_range3' hd hp (New.mk hn hs q))
theorem EB_addi {a b:Int}:EB2 c P (binaryOp .Add) U (.int a) (.int b) (.int (a+b)) U:=λω ω q=>u8 q
theorem EB_subi {a b:Int}:EB2 c P (binaryOp .Sub) U (.int a) (.int b) (.int (a - b)) U:=λω ω q=>uV q
theorem EB_mod {a b:Int}(h:b≠0/\b.natAbs<1000000):EB2 c P (binaryOp .Mod) U (.int a) (.int b) (.int (a.fmod b)) U:=λω ω q=>OP2_mod h q
theorem EB_fdiv {a b:Int}(h:b≠0/\b.natAbs<1000000):EB2 c P (binaryOp .FloorDiv) U (.int a) (.int b) (.int (a.fdiv b)) U:=λω ω q=>u7 h q
theorem EB_addl {m:List AVal}(hi:U.at i=some (.list l))(hj:U.at j=some (.list m))(hl:l.length+m.length<=lenLine)(hn:U.length=n)(hs:U++[some (.list (l++m))]=U'):EB2 c P (binaryOp .Add) U (.loc i) (.loc j) (.loc n) U':=λω ω q=>jV hi hj hl (New.mk hn hs q)
theorem EB_and {a b:Int}:EB2 c P (binaryOp .BitAnd) U (.int a) (.int b) (.int (Builtin.bitAnd a b)) U:=λω ω q=>OP2_and q
theorem EB_or {a b:Int}:EB2 c P (binaryOp .BitOr) U (.int a) (.int b) (.int (Builtin.bitOr a b)) U:=λω ω q=>OP2_or q
theorem EB_addb {x y:Array UInt8}(h:x.size+y.size<=lenLine):EB2 c P (binaryOp .Add) U (.bytes x) (.bytes y) (.bytes (x++y)) U:=λω ω q=>u9 h q
theorem EC_lt {a b:Int}:EB2 c P (compareOp .Lt) U (.int a) (.int b) (.bool (decide (a<b))) U:=λω ω q=>OP2_lt q
theorem EC_gt {a b:Int}:EB2 c P (compareOp .Gt) U (.int a) (.int b) (.bool (decide (b<a))) U:=λω ω q=>OP2_gt q
theorem EC_ge {a b:Int}:EB2 c P (compareOp .GtE) U (.int a) (.int b) (.bool (decide (b<=a))) U:=λω ω q=>OP2_ge q
theorem EC_eqi {a b:Int}:EB2 c P (compareOp .Eq) U (.int a) (.int b) (.bool (decide (a=b))) U:=λω ω q=>OP2_eqi q
theorem EC_nei {a b:Int}:EB2 c P (compareOp .NotEq) U (.int a) (.int b) (.bool (!decide (a=b))) U:=λω ω q=>OP2_nei q
theorem EC_eqs {a b:Str}:EB2 c P (compareOp .Eq) U (.str a) (.str b) (.bool (decide (a=b))) U:=λω ω q=>OP2_eqs q
theorem EC_nes {a b:Str}:EB2 c P (compareOp .NotEq) U (.str a) (.str b) (.bool (!decide (a=b))) U:=λω ω q=>OP2_nes q
theorem EC_isC {v:Value}{u:Bool}(ha:conc a=some v)(hb:conc b=some w)(hp:plainIs v w=true)(he:(v == w)=u):EB2 c P (compareOp .Is) U a b (.bool u) U:=λω ω q=>mf (isCC ha hb hp he) q
theorem EC_isnC {v:Value}{u:Bool}(ha:conc a=some v)(hb:conc b=some w)(hp:plainIs v w=true)(he:(v == w)=u):EB2 c P (compareOp .IsNot) U a b (.bool (!u)) U:=λω ω q=>jU (isCC ha hb hp he) q
theorem EC_isLoc {x y:AObj}(hi:U.at i=some x)(hj:U.at j=some y)(hx:notTup x=true):EB2 c P (compareOp .Is) U (.loc i) (.loc j) (.bool (decide (i=j))) U:=λω ω q=>rY hi hj hx q
theorem EC_isLN :EB2 c P (compareOp .Is) U (.loc i) .none (.bool false) U:=λω ω q=>mf isLN q
theorem EC_isnLN :EB2 c P (compareOp .IsNot) U (.loc i) .none (.bool true) U:=λω ω q=>jU isLN q
theorem EC_isSL :EB2 c P (compareOp .Is) U (.str x) (.loc i) (.bool false) U:=λω ω q=>mf isSL q
theorem EC_ins :EB2 c P (compareOp .In) U (.str x) (.str y) (.bool (Txt.contains y x)) U:=λω ω q=>OP2_ins q
theorem EC_nins :EB2 c P (compareOp .NotIn) U (.str x) (.str y) (.bool (!Txt.contains y x)) U:=λω ω q=>uW q
theorem ETr_bool {b:Bool}:ETr c P U (.bool b) b U:=λω ω q=>rQ q
theorem ET_cmp {l:Expr}{op:CmpOp}{x:Bool}(hb:behindInMarks op u=false)(h1:EV c P E U l a U1)(h2:EV c P E U1 u b U2)(h3:EB2 c P (compareOp op) U2 a b d U3)(h4:ETr c P U3 d x U4):ET c P E U (.Compare l [op] [u] pos) x U4:=λω ω q=>TT_Compare (h1 _ _ (h2 _ _ (h3 _ _ (h4 _ _ q)))) hb
theorem ET_not {x:Expr}{b:Bool}(h:ET c P E U x b U1):ET c P E U (.UnaryOp .Not x pos) (!b) U1:=λω ω q=>TT_Not (h _ _ q)
theorem ET_plain {b:Bool}(hp:gN e=true)(h1:EV c P E U e a U1)(h2:ETr c P U1 a b U2):ET c P E U e b U2:=λω ω q=>TT_plain hp (h1 _ _ (h2 _ _ q))
theorem EGt_list {k:Int}(h:U.at i=some (.list l))(hd:bz l k=some d):EGt c P U (.loc i) (.int k) d U:=λω ω q=>sh h hd q
theorem ESl_bytes {x:Array UInt8}{a b:Option Int}(hl:x.size<=lenLine)(ha:bE lo=some a)(hb:bE hi=some b):ESl U (.bytes x) lo hi (.bytes (KBy.picked x a b)) U:=λω q=>me hl ha hb q
theorem ESl_str {a b:Option Int}(hl:x.length<=lenLine)(ha:bE lo=some a)(hb:bE hi=some b):ESl U (.str x) lo hi (.str (j9 x a b)) U:=λω q=>pA hl ha hb q
theorem ESl_list {a b:Option Int}(h:U.at i=some (.list l))(hl:l.length<=lenLine)(ha:bE lo=some a)(hb:bE hi=some b)(hn:U.length=n)(hs:U++[some (.list (dY l a b))]=U'):ESl U (.loc i) lo hi (.loc n) U':=λω q=>nG h hl ha hb (New.mk hn hs q)
theorem EOp_some (h:EV c P E U e a U'):EOp c P E U (some e) a U':=λω ω q=>TE_Opt_some (h _ _ q)
theorem EOp_none:EOp c P E U none .none U:=λω ω q=>TE_Opt_none q
theorem EMt_append (h:U.at i=some (.list l)):EMt c P U (.loc i) "append" (.top (.builtin "list.append")) [(.loc i)] U:=λω ω q=>rU h q
theorem EMt_pop (h:U.at i=some (.list l)):EMt c P U (.loc i) "pop" (.top (.builtin "list.pop")) [(.loc i)] U:=λω ω q=>TM_pop h q
theorem EMt_clear (h:U.at i=some (.list l)):EMt c P U (.loc i) "clear" (.top (.builtin "list.clear")) [(.loc i)] U:=λω ω q=>uJ h q
theorem EMt_get {l:List (Str×AVal)}(h:U.at i=some (.dict l)):EMt c P U (.loc i) "get" (.top (.builtin "dict.get")) [(.loc i)] U:=λω ω q=>TM_get h q
theorem EMt_valuesE {ep:Nat}{l:List (Str×AVal)}(h:U.at i=some (.dictE l ep)):EMt c P U (.loc i) "values" (.top (.builtin "dict.values")) [(.loc i)] U:=λω ω q=>pr h q
theorem EMt_add {l:List Str}(h:U.at i=some (.set l)):EMt c P U (.loc i) "add" (.top (.builtin "set.add")) [(.loc i)] U:=λω ω q=>TM_add h q
theorem EMt_inst {d:Nat}{f:Addr}(hi:U.at i=some (.inst C d))(hd:U.at d=some (.idict es))(hc:c.cls C=some ci)(hf:ci.meths.lookup name=some f)(hn:ae name es=none):EMt c P U (.loc i) name (.top (.ref f)) [(.loc i)] U:=λω ω q=>TM_inst hi hd hc hf hn q
theorem EMt_join :EMt c P U (.str x) "join" (.top (.builtin "str.join")) [(.str x)] U:=λω ω q=>TM_join q
theorem EMt_replace :EMt c P U (.str x) "replace" (.top (.builtin "str.replace")) [(.str x)] U:=λω ω q=>pt q
theorem EMt_translate :EMt c P U (.str x) "translate" (.top (.builtin "str.translate")) [(.str x)] U:=λω ω q=>lW q
theorem EMt_decode {x:Array UInt8}:EMt c P U (.bytes x) "decode" (.top (.builtin "bytes.decode")) [(.bytes x)] U:=λω ω q=>rS q
theorem EAt_own {d:Nat}(hi:U.at i=some (.inst C d))(hd:U.at d=some (.idict es))(hc:c.cls C=some ci)(ho:ci.own.contains name=true)(ha:ae name es=some a)(hh:jD a=true):EAt c P U (.loc i) name a U:=λω ω q=>TA_own hi hd hc ho ha hh q
theorem EAt_slot {d:Nat}{l:List (Option AVal)}(hi:U.at i=some (.slots C d l))(hd:U.at d=some (.idict es))(hc:c.cls C=some ci)(ho:ci.slots.lookup name=some (p,k))(ha:l[k]? = some (some a))(hh:jD a=true):EAt c P U (.loc i) name a U:=λω ω q=>TA_slot hi hd hc ho ha hh q
theorem ES_assign {ts:List Expr}(hs:∀V:Nat->Addr,swapsWithSole ts value pos.line (E.conc V)=pure false)(hn:∀env:Env,swappedStores ts value env=pure none)(h1:EV c P E U value a U1)(h2:EAs c P E U1 ts a U2):ES c P E U (.Assign ts value pos) U2:=λω ω q=>TS_Assign hs hn (h1 _ _ (h2 _ _ q))
theorem ES_expr (hk:E.scope.kind=.function)(hc:oK e=false)(h1:EV c P E U e a U1):ES c P E U (.Expr e pos) U1:=λω ω q=>TS_Expr hk hc (h1 _ _ q)
theorem ES_augattr {tpos:Pos}{op:Operator}{old new:AVal}{U5:Store}(h1:EV c P E U o b U1)(h2:EAt c P U1 b attr old U2)(h3:EV c P E U2 value v U3)(h4:EB2 c P (inplaceOp op) U3 old v new U4)(h5:vk c P E attr U4 b new U5):ES c P E U (.AugAssign (.Attribute o attr tpos) op value pos) U5:=λω ω q=>TS_AugAttr (h1 _ _ (h2 _ _ (h3 _ _ (h4 _ _ (h5 _ _ q)))))
theorem ES_delsub {i:Expr}{ipos:Pos}(h1:EV c P E U o b U1)(h2:EV c P E U1 i d U2)(h3:EU2 c P U2 b d U3):ES c P E U (.Delete [.Subscript o i ipos] pos) U3:=λω ω q=>TS_DelSub (h1 _ _ (h2 _ _ (h3 _ _ q)))
theorem EAs_one (hs:gw t=false)(h:EA1 c P E U t a U'):EAs c P E U [t] a U':=λω ω q=>TAsgs_one hs (h _ _ q)
theorem EA1_local {m':List (Str×AVal)}(hk:E.scope.kind=.function)(hl:E.scope.names.lookup x=some .local)(hm:U.at E.loc=some (.frame m))(hp:dG x a m=m')(hs:U.put E.loc (.frame m')=U'):EA1 c P E U (.Name x pos) a U':=λω ω q=>fW hk hl hm hp hs q
theorem EA1_cell {v:Option AVal}(hk:E.scope.kind=.function)(hl:E.scope.names.lookup x=some .cell)(hi:E.cells.lookup x=some i)(hm:U.at i=some (.cell v))(hs:U.put i (.cell (some a))=U'):EA1 c P E U (.Name x pos) a U':=λω ω q=>bW hk hl hi hm hs q
theorem EA1_tuple {es:List Expr}{xs:List Str}(hf:P.free=true)(hn:gq es=some xs)(ha:n5 a U=some l)(hl:xs.length=l.length)(hs:bt E xs l U U'):EA1 c P E U (.Tuple es k pos) a U':=λω ω q=>TAsg_Tuple' hf hn ha hl hs q
theorem EA1_attr (h1:EV c P E U o b U1)(h2:vk c P E attr U1 b a U2):EA1 c P E U (.Attribute o attr pos) a U2:=λω ω q=>TAsg_Attribute (h1 _ _ (h2 _ _ q))
theorem EA1_sub {i:Expr}(h1:EV c P E U o b U1)(h2:EV c P E U1 i d U2)(h3:EO3 c P U2 b d a U3):EA1 c P E U (.Subscript o i pos) a U3:=λω ω q=>TAsg_Subscript (h1 _ _ (h2 _ _ (h3 _ _ q)))
theorem EO3_set {k:Str}(h:U.at i=some (.dict es))(hl:es.length<=lenLine)(hs:U.put i (.dict (bY es k a))=U'):EO3 c P U (.loc i) (.str k) a U':=λω ω q=>op_setItem' h hl hs q
theorem EV_dict0 (hn:U.length=n)(hs:U++[some (AObj.dict [])]=U'):EV c P E U (.Dict [] [] pos) (.loc n) U':=λω ω q=>by subst hn;subst hs;exact uT q
theorem EU2_del {k:Str}(hi:U.at i=some (.dict es))(hl:es.length<=lenLine)(hk:(ae k es).isSome=true)(hs:U.put i (.dict (ca es k))=U'):EU2 c P U (.loc i) (.str k) U':=λω ω q=>op_delItem' hi hl hk hs q
theorem EStA_own {d:Nat}{es':List (Str×AVal)}(hF:U.at E.frame=some (.frame m))(hi:U.at i=some (.inst C d))(hd:U.at d=some (.idict es))(hc:c.cls C=some ci)(hn:ci.own.contains name=true)(he:eO name a es=es')(hl:es'.length<=1000)(hs:U.put d (.idict es')=U'):vk c P E name U (.loc i) a U':=λω ω q=>op_setOwn' hF hi hd hc hn he hl hs q
theorem EStA_slot {d:Nat}{l l':List (Option AVal)}(hF:U.at E.frame=some (.frame m))(hi:U.at i=some (.slots C d l))(hd:U.at d=some (.idict es))(hc:c.cls C=some ci)(hn:ci.slots.lookup name=some (p,k))(hl:gb l k a=l')(hs:U.put i (.slots C d l')=U'):vk c P E name U (.loc i) a U':=λω ω q=>op_setSlot' hF hi hd hc hn hl hs q
theorem TE_ev (he:EV c P E U e a U')(q:Q a U'):TE c P E e Q X U:=he _ _ q
theorem TS_ev {s:Stmt}{Q:ai->Store->Prop}(he:ES c P E U s U')(q:Q .next U'):TS c P E s Q X U:=he _ _ q
theorem TT_ev {b:Bool}{Q:Bool->Store->Prop}(he:ET c P E U e b U')(q:Q b U'):TT c P E e Q X U:=he _ _ q
theorem OP2_ev {t:Value->Value->Sem Value}(he:EB2 c P t U a b d U')(q:Q d U'):OP2 c P t a b (gV Q) X U:=he _ _ q
theorem TCall_ev {f:AVal}(he:ECl c P E U f as ks a U')(q:Q a U'):TCall c P E f as ks Q X U:=he _ _ q
theorem TTru_ev {b:Bool}{Q:Bool->Store->Prop}(he:ETr c P U a b U')(q:Q b U'):TTru c P a Q X U:=he _ _ q
theorem SliceI_ev {l u:AVal}(he:ESl U a l u d U')(q:Q d U'):SliceI a l u Q U:=he _ q
theorem TMeth_ev {f:AVal}{Q:AVal->List AVal->Store->Prop}(he:EMt c P U a name f as U')(q:Q f as U'):cR c P a name Q X U:=he _ _ q
theorem TAttr_ev (he:EAt c P U a name d U')(q:Q d U'):d8 c P a name Q X U:=he _ _ q
theorem TAsg_ev {Q:Store->Prop}(he:EA1 c P E U t a U')(q:Q U'):TAsg c P E t a Q X U:=he _ _ q
theorem TOp_ev {e:Option Expr}(he:EOp c P E U e a U')(q:Q a U'):TM c P E (λenv=>valueOrNone (evalOpt e env)) (gV Q) X U:=he _ _ q
theorem TSet_ev {Q:Store->Prop}(he:vk c P E name U a b U')(q:Q U'):nH c P E (λov v=>setAttr ov name v) a b (gU Q) X U:=he _ _ q
theorem ECl.specV {f:AVal}{as:List AVal}{ks:List (Str×AVal)}{a:AVal}{m:List (Str×AVal)}(hF:U.at E.frame=some (.frame m))(h:SpecV c P f as ks a (U.gone E.frame)):ECl c P E U f as ks a U:=λω ω q=>TCall.specV hF h q
theorem ECl.specN {f:AVal}{as:List AVal}{ks:List (Str×AVal)}{o:AObj}{m:List (Str×AVal)}{n:Nat}{U':Store}(hF:U.at E.frame=some (.frame m))(h:SpecN c P f as ks o (U.gone E.frame))(hn:U.length=n)(hs:U++[some o]=U'):ECl c P E U f as ks (.loc n) U':=λω ω q=>TCall.specN hF h (New.mk hn hs q)
end
end
section
variable {P:SP}{Q:AVal->Store->Prop}{X:XP}{U:Store}{N:Nat}{self node data names:AVal}
theorem tk53 (hN:U.length=N)(hd:0<P.d)
  (h:TSs C0 P.down (uk N) bd53 (λfl U'=>Q (bL fl) U') (aD (uk N) X) (U++[some (.frame [("self",self),("node",node)])])):TK C0 P (.top (.ref 53)) ([self,node]) [] Q X U:=by
 refine aT (E:=uk N) (b:=bd53) (cs:=[]) (ini:=[]) (U2:=U++[some (.frame [("self",self),("node",node)])]) lt53.2 rfl rfl rfl hd (bs:=[("self",self),("node",node)]) rfl hN rfl (by k_lt zcells) ?_ ?_
 ·k_lt zbinds
 ·with_reducible exact h
theorem tk97 (hN:U.length=N)(hd:0<P.d)
  (h:TSs C0 P.down (qd N) bd97 (λfl U'=>Q (bL fl) U') (aD (qd N) X) (U++[some (.frame [("self",self),("node",node)])])):TK C0 P (.top (.ref 97)) ([self,node]) [] Q X U:=by
 refine aT (E:=qd N) (b:=bd97) (cs:=[]) (ini:=[]) (U2:=U++[some (.frame [("self",self),("node",node)])]) lt97.2 rfl rfl rfl hd (bs:=[("self",self),("node",node)]) rfl hN rfl (by k_lt zcells) ?_ ?_
 ·k_lt zbinds
 ·with_reducible exact h
theorem tk109 (hN:U.length=N)(hd:0<P.d)
  (h:TSs C0 P.down (o7 N) bd109 (λfl U'=>Q (bL fl) U') (aD (o7 N) X) (U++[some (.frame [("self",self)])])):TK C0 P (.top (.ref 109)) ([self]) [] Q X U:=by
 refine aT (E:=o7 N) (b:=bd109) (cs:=[]) (ini:=[]) (U2:=U++[some (.frame [("self",self)])]) lt109.2 rfl rfl rfl hd (bs:=[("self",self)]) rfl hN rfl (by k_lt zcells) ?_ ?_
 ·k_lt zbinds
 ·with_reducible exact h
theorem tk116 (hN:U.length=N)(hd:0<P.d)
  (h:TSs C0 P.down (o6 N) bd116 (λfl U'=>Q (bL fl) U') (aD (o6 N) X) (U++[some (.frame [("self",self)])])):TK C0 P (.top (.ref 116)) ([self]) [] Q X U:=by
 refine aT (E:=o6 N) (b:=bd116) (cs:=[]) (ini:=[]) (U2:=U++[some (.frame [("self",self)])]) lt116.2 rfl rfl rfl hd (bs:=[("self",self)]) rfl hN rfl (by k_lt zcells) ?_ ?_
 ·k_lt zbinds
 ·with_reducible exact h
theorem tk123 (hN:U.length=N)(hd:0<P.d)
  (h:TSs C0 P.down (o5 N) bd123 (λfl U'=>Q (bL fl) U') (aD (o5 N) X) (U++[some (.frame [("self",self)])])):TK C0 P (.top (.ref 123)) ([self]) [] Q X U:=by
 refine aT (E:=o5 N) (b:=bd123) (cs:=[]) (ini:=[]) (U2:=U++[some (.frame [("self",self)])]) lt123.2 rfl rfl rfl hd (bs:=[("self",self)]) rfl hN rfl (by k_lt zcells) ?_ ?_
 ·k_lt zbinds
 ·with_reducible exact h
theorem tk144 (hN:U.length=N)(hd:0<P.d)
  (h:TSs C0 P.down (g9 N) qs (λfl U'=>Q (bL fl) U') (aD (g9 N) X) (U++[some (.frame [("self",self)])])):TK C0 P (.top (.ref 144)) ([self]) [] Q X U:=by
 refine aT (E:=g9 N) (b:=qs) (cs:=[]) (ini:=[]) (U2:=U++[some (.frame [("self",self)])]) lt144.2 rfl rfl rfl hd (bs:=[("self",self)]) rfl hN rfl (by k_lt zcells) ?_ ?_
 ·k_lt zbinds
 ·with_reducible exact h
theorem tk165 (hN:U.length=N)(hd:0<P.d)
  (h:TSs C0 P.down (oZ N) bd165 (λfl U'=>Q (bL fl) U') (aD (oZ N) X) (U++[some (.frame [("data",data)])])):TK C0 P (.top (.ref 165)) ([data]) [] Q X U:=by
 refine aT (E:=oZ N) (b:=bd165) (cs:=[]) (ini:=[]) (U2:=U++[some (.frame [("data",data)])]) lt165.2 rfl rfl rfl hd (bs:=[("data",data)]) rfl hN rfl (by k_lt zcells) ?_ ?_
 ·k_lt zbinds
 ·with_reducible exact h
theorem tk172 {x:AVal}(hN:U.length=N)(hd:0<P.d)
  (h:TSs C0 P.down (oY N) bd172 (λfl U'=>Q (bL fl) U') (aD (oY N) X) (U++[some (.frame [("x",x)])])):TK C0 P (.top (.ref 172)) ([x]) [] Q X U:=by
 refine aT (E:=oY N) (b:=bd172) (cs:=[]) (ini:=[]) (U2:=U++[some (.frame [("x",x)])]) lt172.2 rfl rfl rfl hd (bs:=[("x",x)]) rfl hN rfl (by k_lt zcells) ?_ ?_
 ·k_lt zbinds
 ·with_reducible exact h
theorem tk205 {pattern:AVal}(hN:U.length=N)(hd:0<P.d)
  (h:TSs C0 P.down (oV N) bd205 (λfl U'=>Q (bL fl) U') (aD (oV N) X) (U++[some (.frame [("pattern",pattern)])])):TK C0 P (.top (.ref 205)) ([pattern]) [] Q X U:=by
 refine aT (E:=oV N) (b:=bd205) (cs:=[]) (ini:=[]) (U2:=U++[some (.frame [("pattern",pattern)])]) lt205.2 rfl rfl rfl hd (bs:=[("pattern",pattern)]) rfl hN rfl (by k_lt zcells) ?_ ?_
 ·k_lt zbinds
 ·with_reducible exact h
theorem tk212 {pat STAR QUESTION_MARK:AVal}(hN:U.length=N)(hd:0<P.d)
  (h:TSs C0 P.down (fT N) uv (λfl U'=>Q (bL fl) U') (aD (fT N) X) (U++[some (.frame [("pat",pat),("STAR",STAR),("QUESTION_MARK",QUESTION_MARK)])])):TK C0 P (.top (.ref 212)) ([pat,STAR,QUESTION_MARK]) [] Q X U:=by
 refine aT (E:=fT N) (b:=uv) (cs:=[]) (ini:=[]) (U2:=U++[some (.frame [("pat",pat),("STAR",STAR),("QUESTION_MARK",QUESTION_MARK)])]) lt212.2 rfl rfl rfl hd (bs:=[("pat",pat),("STAR",STAR),("QUESTION_MARK",QUESTION_MARK)]) rfl hN rfl (by k_lt zcells) ?_ ?_
 ·k_lt zbinds
 ·with_reducible exact h
theorem tk219 (hN:U.length=N)(hd:0<P.d)
  (h:TSs C0 P.down (oU N) bd219 (λfl U'=>Q (bL fl) U') (aD (oU N) X) (U++[some (.frame [])])):TK C0 P (.top (.ref 219)) ([]) [] Q X U:=by
 refine aT (E:=oU N) (b:=bd219) (cs:=[]) (ini:=[]) (U2:=U++[some (.frame [])]) lt219.2 rfl rfl rfl hd (bs:=[]) rfl hN rfl (by k_lt zcells) ?_ ?_
 ·k_lt zbinds
 ·with_reducible exact h
theorem tk226 {numbers:AVal}(hN:U.length=N)(hd:0<P.d)
  (h:TSs C0 P.down (oS N) bd226 (λfl U'=>Q (bL fl) U') (aD (oS N) X) (U++[some (.frame [("numbers",numbers)])])):TK C0 P (.top (.ref 226)) ([numbers]) [] Q X U:=by
 refine aT (E:=oS N) (b:=bd226) (cs:=[]) (ini:=[]) (U2:=U++[some (.frame [("numbers",numbers)])]) lt226.2 rfl rfl rfl hd (bs:=[("numbers",numbers)]) rfl hN rfl (by k_lt zcells) ?_ ?_
 ·k_lt zbinds
 ·with_reducible exact h
theorem tk231 {row more octets:AVal}(hN:U.length=N)(hd:0<P.d)
  (h:TSs C0 P.down (jH N) bd231 (λfl U'=>Q (bL fl) U') (aD (jH N) X) (U++[some (.frame [("more",more)]),some (.cell (some row)),some (.cell (some octets)),some (.cell none),some (.cell none)])):TK C0 P (.top (.ref 231)) ([row,more,octets]) [] Q X U:=by
 refine aT (E:=jH N) (b:=bd231) (cs:=["row","octets","threes","let"]) (ini:=[some (.cell none),some (.cell none),some (.cell none),some (.cell none)]) (U2:=U++[some (.frame [("more",more)]),some (.cell (some row)),some (.cell (some octets)),some (.cell none),some (.cell none)]) lt231.2 rfl rfl rfl hd (bs:=[("row",row),("more",more),("octets",octets)]) rfl hN rfl (by k_lt zcells) ?_ ?_
 ·k_lt zbinds
 ·with_reducible exact h
theorem tk236 {parts star name:AVal}(hN:U.length=N)(hd:0<P.d)
  (h:TSs C0 P.down (lL N) bd236 (λfl U'=>Q (bL fl) U') (aD (lL N) X) (U++[some (.frame [("parts",parts),("star",star)]),some (.cell (some name)),some (.cell none)])):TK C0 P (.top (.ref 236)) ([parts,star,name]) [] Q X U:=by
 refine aT (E:=lL N) (b:=bd236) (cs:=["name","part"]) (ini:=[some (.cell none),some (.cell none)]) (U2:=U++[some (.frame [("parts",parts),("star",star)]),some (.cell (some name)),some (.cell none)]) lt236.2 rfl rfl rfl hd (bs:=[("parts",parts),("star",star),("name",name)]) rfl hN rfl (by k_lt zcells) ?_ ?_
 ·k_lt zbinds
 ·with_reducible exact h
theorem tk241 {rules:AVal}(hN:U.length=N)(hd:0<P.d)
  (h:TSs C0 P.down (jG N) bd241 (λfl U'=>Q (bL fl) U') (aD (jG N) X) (U++[some (.frame [("names",names),("rules",rules)]),some (.cell none),some (.cell none)])):TK C0 P (.top (.ref 241)) ([names,rules]) [] Q X U:=by
 refine aT (E:=jG N) (b:=bd241) (cs:=["star","parts"]) (ini:=[some (.cell none),some (.cell none)]) (U2:=U++[some (.frame [("names",names),("rules",rules)]),some (.cell none),some (.cell none)]) lt241.2 rfl rfl rfl hd (bs:=[("names",names),("rules",rules)]) rfl hN rfl (by k_lt zcells) ?_ ?_
 ·k_lt zbinds
 ·with_reducible exact h
theorem tk248 {deed:AVal}(hN:U.length=N)(hd:0<P.d)
  (h:TSs C0 P.down (lK N) bd248 (λfl U'=>Q (bL fl) U') (aD (lK N) X) (U++[some (.frame [("deed",deed)])])):TK C0 P (.top (.ref 248)) ([deed]) [] Q X U:=by
 refine aT (E:=lK N) (b:=bd248) (cs:=[]) (ini:=[]) (U2:=U++[some (.frame [("deed",deed)])]) lt248.2 rfl rfl rfl hd (bs:=[("deed",deed)]) rfl hN rfl (by k_lt zcells) ?_ ?_
 ·k_lt zbinds
 ·with_reducible exact h
theorem tk253 {sorter waits:AVal}(hN:U.length=N)(hd:0<P.d)
  (h:TSs C0 P.down (aK N) uu (λfl U'=>Q (bL fl) U') (aD (aK N) X) (U++[some (.frame []),some (.cell (some sorter)),some (.cell (some names)),some (.cell (some waits)),some (.cell none),some (.cell none),some (.cell none)])):TK C0 P (.top (.ref 253)) ([sorter,names,waits]) [] Q X U:=by
 refine aT (E:=aK N) (b:=uu) (cs:=["sorter","names","waits","done","out","known"]) (ini:=[some (.cell none),some (.cell none),some (.cell none),some (.cell none),some (.cell none),some (.cell none)]) (U2:=U++[some (.frame []),some (.cell (some sorter)),some (.cell (some names)),some (.cell (some waits)),some (.cell none),some (.cell none),some (.cell none)]) lt253.2 rfl rfl rfl hd (bs:=[("sorter",sorter),("names",names),("waits",waits)]) rfl hN rfl (by k_lt zcells) ?_ ?_
 ·k_lt zbinds
 ·with_reducible exact h
theorem tk90 (hN:U.length=N)(hd:0<P.d)
  (h:TSs C0 P.down (uj N) bd90 (λfl U'=>Q (bL fl) U') (aD (uj N) X) (U++[some (.frame [("self",self),("graph",.none)])])):TK C0 P (.top (.ref 90)) ([self]) [] Q X U:=by
 refine aT (E:=uj N) (b:=bd90) (cs:=[]) (ini:=[]) (U2:=U++[some (.frame [("self",self),("graph",.none)])]) lt90.2 rfl rfl rfl hd (bs:=[("self",self),("graph",.none)]) rfl hN rfl (by k_lt zcells) ?_ ?_
 ·k_lt zbinds
 ·with_reducible exact h
theorem tk188 {s:AVal}(hN:U.length=N)(hd:0<P.d)
  (h:TSs C0 P.down (oW N) bd188 (λfl U'=>Q (bL fl) U') (aD (oW N) X) (U++[some (.frame [("s",s),("altchars",.none)])])):TK C0 P (.top (.ref 188)) ([s]) [] Q X U:=by
 refine aT (E:=oW N) (b:=bd188) (cs:=[]) (ini:=[]) (U2:=U++[some (.frame [("s",s),("altchars",.none)])]) lt188.2 rfl rfl rfl hd (bs:=[("s",s),("altchars",.none)]) rfl hN rfl (by k_lt zcells) ?_ ?_
 ·k_lt zbinds
 ·with_reducible exact h
theorem tk180 {newl:AVal}(hN:U.length=N)(hd:0<P.d)
  (h:TSs C0 P.down (oX N) bd180 (λfl U'=>Q (bL fl) U') (aD (oX N) X) (U++[some (.frame [("data",data),("newline",newl)])])):TK C0 P (.top (.ref 180)) ([data]) [("newline",newl)] Q X U:=by
 refine aT (E:=oX N) (b:=bd180) (cs:=[]) (ini:=[]) (U2:=U++[some (.frame [("data",data),("newline",newl)])]) lt180.2 rfl rfl rfl hd (bs:=[("data",data),("newline",newl)]) rfl hN rfl (by k_lt zcells) ?_ ?_
 ·k_lt zbinds
 ·with_reducible exact h
theorem tk104 {preds:List AVal}(htl:preds.length<=7)(hN:U.length=N)(hd:0<P.d)
  (h:TSs C0 P.down (lM (N+1)) bd104 (λfl U'=>Q (bL fl) U') (aD (lM (N+1)) X) (U++[some (.tuple preds),some (.frame [("self",self),("node",node),("predecessors",(.loc N))])])):TK C0 P (.top (.ref 104)) (self::node::preds) [] Q X U:=by
 refine aT (E:=lM (N+1)) (b:=bd104) (cs:=[]) (ini:=[]) (U1:=U++[some (.tuple preds)]) (U2:=U++[some (.tuple preds),some (.frame [("self",self),("node",node),("predecessors",(.loc N))])]) lt104.2 rfl rfl rfl hd (bs:=[("self",self),("node",node),("predecessors",(.loc N))]) ?_ (by rw [List.length_append,hN];rfl) rfl (by k_lt zcells) ?_ ?_
 ·exact hN▸if_pos ⟨⟨Nat.le_add_left _ _,htl⟩,rfl⟩
 ·simp only [List.append_assoc,List.cons_append,List.nil_append];k_lt zbinds
 ·with_reducible exact h
theorem tk137 {nodes:List AVal}(htl:nodes.length<=7)(hN:U.length=N)(hd:0<P.d)
  (h:TSs C0 P.down (eX (N+1)) bd137 (λfl U'=>Q (bL fl) U') (aD (eX (N+1)) X) (U++[some (.tuple nodes),some (.frame [("self",self),("nodes",(.loc N))])])):TK C0 P (.top (.ref 137)) (self::nodes) [] Q X U:=by
 refine aT (E:=eX (N+1)) (b:=bd137) (cs:=[]) (ini:=[]) (U1:=U++[some (.tuple nodes)]) (U2:=U++[some (.tuple nodes),some (.frame [("self",self),("nodes",(.loc N))])]) lt137.2 rfl rfl rfl hd (bs:=[("self",self),("nodes",(.loc N))]) ?_ (by rw [List.length_append,hN];rfl) rfl (by k_lt zcells) ?_ ?_
 ·exact hN▸if_pos ⟨⟨Nat.le_add_left _ _,htl⟩,rfl⟩
 ·simp only [List.append_assoc,List.cons_append,List.nil_append];k_lt zbinds
 ·with_reducible exact h
end
section
variable {P:SP}{n:Nat}
theorem SP.down_d (h:n+1<P.d):n<P.down.d:=Nat.lt_sub_of_add_lt h
theorem kq (hd:0<P.d)(U:Store):SpecN C0 P (.top (.ref 219)) [] [] (.list [.bytes #[0,16,131],.bytes #[251,239,190],.bytes #[255,255,255]]) U:=by
 refine SpecN.of rfl λwf=>?_
 obtain ⟨N,hN⟩:∃N,U.length=N:=⟨_,rfl⟩
 rw [hN]
 refine TC.of (tk219 hN hd ?_)
 refine TSs_one (x:=?_) ?_
 repeat k_lt zT
 exact ⟨_,rfl,by k_lt zgrow,by omega,by k_lt zat⟩
theorem ec_threes {E:AEnv}{U U':Store}{m:List (Str×AVal)}(hF:U.at E.frame=some (.frame m))(hd:1<P.d)(hn:U.length=n)(hs:U++[some (AObj.list [.bytes #[0,16,131],.bytes #[251,239,190],.bytes #[255,255,255]])]=U'):ECl C0 P.down E U (.top (.ref 219)) [] [] (.loc n) U':=ECl.specN hF (kq (SP.down_d hd) _) hn hs
noncomputable def bZ (o:Array UInt8):AVal->Option AVal:=az λk=>some (.bytes (KBy.picked o (some k) (some (k+3))))
noncomputable def letT:List (List (Array UInt8)):=[[#[0,16,131]],[#[251,239,190]],[#[255,255,255]],[#[0,16,131],#[251,239,190],#[255,255,255]],[#[0,16,131],#[255,255,255]]]
noncomputable def qt (row:List Nat)(th:List (Array UInt8))(k:Nat):Bool:=!((letT.getD (row.getD k 0) []).any λy=>decide (y=th.getD k #[]))
noncomputable def eW (row:List Nat)(more:Bool)(th:List (Array UInt8)):Bool:=!(decide (th.length<row.length)) && !(decide (row.length<th.length) && !more) && !((List.range row.length).any (qt row th))
theorem sp_fits (hd:1<P.d)(hf:P.free=true)(U:Store)(i:Nat)(row:List Nat)(more:Bool)(o:Array UInt8)(th:List (Array UInt8))(ho:o.size<=9)(hi:U.at i=some (.list (row.map λ(x:Nat)=>.int x)))(hr:row.length<=2)(hr5:∀x∈row,x<5)(hth:(aP 0 o.size 3).filterMap (bZ o)=th.map .bytes)(htl:th.length<=3):SpecV C0 P (.top (.ref 231)) [.loc i,.bool more,.bytes o] [] (.bool (eW row more th)) U:=by
 refine SpecV.of rfl λwf=>?_
 obtain ⟨N,hN⟩:∃N,U.length=N:=⟨_,rfl⟩
 refine TC.of (tk231 hN (by omega) ?_)
 refine TSs_cons' (x:=?_) ?_
 repeat k_lt zT
 refine dE (aP 0 o.size 3) (bZ o) hf (by rfl) (by intro _ _;rfl) ?h ?hl ?q
 case hl=>rw [hth];simp [AVal.ltB]
 case h=>
  repeat k_lt zT
  refine MapOk.of0 (Src.range (by k_lt zlen) (by k_lt zat) (lj (by omega)) (bd _ _ _)) (by k_lt zgrow) (by rw [eH];have:=ll o.size;simp [lenLine];omega) (by rfl) (by rfl) (λω ω=>rfl) ?_
  intro x H R kR hx g hl hF
  obtain ⟨j,hj,rfl⟩:=qZ hx
  repeat k_lt zT
  exact ⟨rfl,by k_lt uo⟩
 case q=>
  rw [hth]
  have key:eW row more th = !((List.range row.length).any (qt row th))->¬th.length<row.length->TSs C0 P.down (jH N) (bd231.drop 2) (λfl U1=>bL fl=AVal.bool (eW row more th)/\Grow U U1) (aD (jH N) noX) (U ++
    [some (AObj.frame [("more",AVal.bool more)]),some (AObj.cell (some (AVal.loc i))),
     some (AObj.cell (some (AVal.bytes o))),some (AObj.cell (some (AVal.loc (N+5)))),some (AObj.cell none),
     some (AObj.list (List.map AVal.bytes th))]):=by
   intro hfit hlen
   refine TSs_cons' (x:=?_) ?_
   repeat k_lt zT
   k_lt zS
   repeat k_lt zT
   k_lt zS
   repeat k_lt zT
   refine dE (aP 0 row.length 1) (az λk=>if qt row th k.toNat then some (.int 1) else none) hf (by rfl) (by intro _ _;rfl) ?h ?hl ?q
   case hl=>exact bo λx y h=>by cases x <;> simp [az] at h;obtain ⟨_,rfl⟩:=h;rfl
   case h=>
    repeat k_lt zT
    simp only [List.length_map]
    refine MapOk.of1 (Src.range (by k_lt zlen) (by k_lt zat) (aZ (by omega)) (bd _ _ _)) (by k_lt zgrow) (by rw [eH,kz];simp [lenLine];omega) (by rfl) (by rfl) (λω ω=>rfl) ?_
    intro x H R _ kR kK hx g hl hF
    obtain ⟨j,hj,rfl⟩:=jv hx
    have e1:bz (th.map .bytes) (j:Int)=some (.bytes (th.getD j #[])):=jw (by omega) #[] (by omega)
    haveI e2:bz (row.map λ(x:Nat)=>AVal.int x) (j:Int)=some (.int (row.getD j 0:Nat)):=jw (by omega) 0 (by omega)
    haveI h5:=hr5 _ (t8 hj 0)
    haveI hb:qt row th j = !((letT.getD (row.getD j 0) []).any λy=>decide (y=th.getD j #[])):=rfl
    generalize row.getD j 0=v at h5 e2 hb
    generalize th.getD j #[]=w at e1 hb
    obtain ⟨p,hp1,hp2⟩:∃p,bz [AVal.loc (N+7),.loc (N+8),.loc (N+9),.loc (N+10),.loc (N+11)] (v:Int)=some (.loc p)/\H.at p=some (.list ((letT.getD v []).map AVal.bytes)):=by
     rcases v with _ | _ | _ | _ | _ | v
     ·exact ⟨N+7,rfl,by k_lt zat⟩
     ·exact ⟨N+8,rfl,by k_lt zat⟩
     ·exact ⟨N+9,rfl,by k_lt zat⟩
     ·exact ⟨N+10,rfl,by k_lt zat⟩
     ·exact ⟨N+11,rfl,by k_lt zat⟩
     ·omega
    generalize letT.getD v []=lt at hb hp2
    repeat k_lt zT
    refine dF (l:=lt.map AVal.bytes) (by k_lt ua) (pn w _) ?_
    repeat k_lt zT
    refine aA (λh=>?_) (λh=>?_)
    ·repeat k_lt zT
     exact ⟨by simp [az,hb,h],by k_lt uo⟩
    ·exact kK ⟨by simp [az,hb,h],by k_lt uo⟩
   case q=>
    repeat k_lt zT
    refine i0 (by k_lt zat) (by k_lt zat) ones_ok ?_
    refine ⟨?_,by k_lt zgrow⟩
    rw [nX,oA,hfit]
    rfl
  repeat k_lt zT
  k_lt zS
  repeat k_lt zT
  refine aA (λhb=>?_) (λhb=>?_)
  ·repeat k_lt zT
   k_lt zS
   repeat k_lt zT
   refine ⟨?_,by k_lt zgrow⟩
   simp at hb
   simp [eW,bL,hb]
  ·repeat k_lt zT
   refine aA (λhb'=>?_) (λhb'=>?_)
   ·repeat k_lt zT
    cases more
    ·repeat k_lt zT
     k_lt zS
     repeat k_lt zT
     refine ⟨?_,by k_lt zgrow⟩
     simp at hb hb'
     simp [eW,bL,hb']
    ·repeat k_lt zT
     k_lt zS
     repeat k_lt zT
     simp at hb
     exact key (by simp [eW,hb]) (by omega)
   ·repeat k_lt zT
    k_lt zS
    repeat k_lt zT
    simp at hb hb'
    exact key (by simp [eW,hb,hb']) (by omega)
end
section
theorem qG {P:SP}(hd:0<P.d)(U:Store)(o:Array UInt8):SpecV C0 P (.top (.ref 165)) [.bytes o] [] (.bytes o) U:=by
 refine SpecV.of rfl λwf=>?_
 obtain ⟨N,hN⟩:∃N,U.length=N:=⟨_,rfl⟩
 refine TC.of (tk165 hN hd ?_)
 refine TSs_cons' (x:=?_) ?_
 repeat k_lt zT
 k_lt zS
 repeat k_lt zT
 k_lt zS
 repeat k_lt zT
 exact ⟨rfl,by k_lt zgrow⟩
theorem sO {P:SP}(hd:0<P.d)(U:Store)(b:Bool):SpecV C0 P (.top (.ref 172)) [.bool b] [] (.bool b) U:=by
 refine SpecV.of rfl λwf=>?_
 obtain ⟨N,hN⟩:∃N,U.length=N:=⟨_,rfl⟩
 refine TC.of (tk172 hN hd ?_)
 refine TSs_cons' (x:=?_) ?_
 repeat k_lt zT
 k_lt zS
 repeat k_lt zT
 k_lt zS
 repeat k_lt zT
 cases b
 ·repeat k_lt zT
  exact ⟨rfl,by k_lt zgrow⟩
 ·repeat k_lt zT
  exact ⟨rfl,by k_lt zgrow⟩
end
section
def HasL (m l:List (Str×AVal)):Prop:=∀p∈l,m.lookup p.1=some p.2
theorem HasL.nil {m:List (Str×AVal)}:HasL m []:=λω h=>nomatch h
theorem HasL.cons {m l:List (Str×AVal)}{x:Str}{a:AVal}(h:m.lookup x=some a)(t:HasL m l):HasL m ((x,a)::l):=List.forall_mem_cons.mpr ⟨h,t⟩
theorem HasL.mem {m l:List (Str×AVal)}(h:HasL m l){x:Str}{a:AVal}(hm:(x,a)∈l):m.lookup x=some a:=h _ hm
def FrHas (U:Store)(F:Nat)(m':List (Str×AVal)):Prop:=∃m,U.at F=some (.frame m)/\HasL m m'
theorem FrHas.mk {U:Store}{F:Nat}{m m':List (Str×AVal)}(h:U.at F=some (.frame m))(h':HasL m m'):FrHas U F m':=⟨m,h,h'⟩
theorem FrHas.put_ne {U:Store}{F i:Nat}{m':List (Str×AVal)}{x:AObj}(h:FrHas U F m')(hn:F≠i):FrHas (U.put i x) F m':=by
 obtain ⟨m,a,b⟩:=h
 exact ⟨m,at_put_ne hn a,b⟩
theorem FrHas.gone {U:Store}{F i:Nat}{m':List (Str×AVal)}(h:FrHas U F m')(hn:F≠i):FrHas (U.gone i) F m':=by
 obtain ⟨m,a,b⟩:=h
 exact ⟨m,at_gone_ne hn a,b⟩
section
variable {α:Type}{c:Cfg}{P:SP}{E:AEnv}{κ:KX}{V:Nat->Addr}{U:Store}{s:Shared}{X:XP}
theorem St.weakTo (st:St κ V U s){F:Nat}{m':List (Str×AVal)}(h:FrHas U F m'):St κ V (U.put F (.frame m')) s:=by
 obtain ⟨m,h,hh⟩:=h
 obtain ⟨o,g,es,ep,d,k,r⟩:=st.obj _ _ h
 refine st.upd h (ao':=.frame m') (h':=s.heap) ⟨rfl,λω ω=>rfl⟩ ⟨o,g,es,ep,d,k,λx=>?_⟩ s.toks s.drawn
 cases e:m'.lookup x with
 | none=>trivial
 | some a=>
  have:=r x
  rw [hh.mem (bQ e)] at this
  exact this
theorem TM.weakTo {t:Env->Sem α}{G:(Nat->Addr)->Store->α->Prop}{F:Nat}{m':List (Str×AVal)}(h:FrHas U F m')(k:TM c P E t G X (U.put F (.frame m'))):TM c P E t G X U:=by
 intro κ V s ok hh hv st
 have:=k κ V s ok hh (by rw [Store.put_length];exact hv) (st.weakTo h)
 rw [Store.put_length] at this
 exact this
theorem TV1.weakTo {t:Env->Value->Sem α}{a:AVal}{G:(Nat->Addr)->Store->α->Prop}{F:Nat}{m':List (Str×AVal)}(h:FrHas U F m')(k:TV1 c P E t a G X (U.put F (.frame m'))):TV1 c P E t a G X U:=by
 intro κ V s v ok hh hv st ra
 have:=k κ V s v ok hh (by rw [Store.put_length];exact hv) (st.weakTo h) (by rw [Store.put_length];exact ra)
 rw [Store.put_length] at this
 exact this
theorem Src.bytes {U1:Store}{N:Nat}{b:Array UInt8}(hN:U1.length=N):Src U1 (.bytes b) N (.bytes b) (b.toList.map λx=>.int x.toNat):=⟨hN,.bytes _,λH g=>.bytes _⟩
end
end
section
variable {P:SP}{E:AEnv}{U:Store}{m:List (Str×AVal)}
theorem ec_buffer {o:Array UInt8}(hF:U.at E.frame=some (.frame m))(hd:1<P.d):ECl C0 P.down E U (.top (.ref 165)) [.bytes o] [] (.bytes o) U:=ECl.specV hF (qG (SP.down_d hd) _ _)
theorem ec_truth {b:Bool}(hF:U.at E.frame=some (.frame m))(hd:1<P.d):ECl C0 P.down E U (.top (.ref 172)) [.bool b] [] (.bool b) U:=ECl.specV hF (sO (SP.down_d hd) _ _)
theorem take_next' {α:Type}{xs:List α}{j:Nat}{x:α}(h:xs[j]? = some x):xs.take (j+1)=xs.take j++[x]:=by
 rw [List.take_add_one,h];rfl
noncomputable def up (lc lb:Int):Int:=((b64.toList.getD (Builtin.bitAnd (lc.fdiv (2 ^ (lb - 6).toNat)) 63).toNat 0).toNat:Nat)
noncomputable def bH (lc b:Int):Int:=Builtin.bitAnd (Builtin.bitOr (lc * 2 ^ (8:Int).toNat) b) 65535
noncomputable def jI (lc:Int):Nat->List Int->Int->List Int×Int
 | 0,out,lb=>(out,lb)
 | f+1,out,lb=>if 6<=lb then jI lc f (out++[up lc lb]) (lb - 6) else (out,lb)
noncomputable def gZ:List Int->Int->List Int->Int->Int×List Int×Int
 | [],lc,out,lb=>(lc,out,lb)
 | b::bs,lc,out,lb=>gZ bs (bH lc b) (jI (bH lc b) 3 out (lb+8)).1 (jI (bH lc b) 3 out (lb+8)).2
theorem rD (bs:List Int)(b:Int):∀lc out lb,gZ (bs++[b]) lc out lb=gZ [b] (gZ bs lc out lb).1 (gZ bs lc out lb).2.1 (gZ bs lc out lb).2.2:=by
 induction bs with
 | nil=>intro lc out lb;rfl
 | cons a bs ih=>intro lc out lb;exact ih _ _ _
theorem lC (lc b:Int):0<=bH lc b/\bH lc b<65536:=by
 unfold bH;rw [bitAnd_m16];omega
theorem o9 (lc:Int)(out:List Int)(lb:Int)(h:lb<14)(h0:0<=lb):(jI lc 3 out lb).2<6/\0<=(jI lc 3 out lb).2/\(jI lc 3 out lb).1.length<=out.length+2:=by
 simp only [jI]
 split
 ·split
  ·split
   ·omega +splitDisjunctions
   ·simp;omega +splitDisjunctions
  ·simp;omega +splitDisjunctions
 ·simp;omega +splitDisjunctions
noncomputable def dD (o:Array UInt8):List Int:=(gZ (o.toList.map λx=>(x.toNat:Int)) 0 [] 0).2.1
noncomputable def iN (o:Array UInt8):List Int:=o.toList.map λx=>(x.toNat:Int)
abbrev B2I (U:Store)(o:Array UInt8)(N j:Nat)(H:Store):Prop:=∃lc out lb,gZ ((iN o).take j) 0 [] 0=(lc,out,lb)/\(0<=lb/\lb<6/\0<=lc/\lc<65536/\out.length<=2 * j)/\Grow U H/\FrHas H N [("data",.bytes o),("newline",.bool false),("bin_data",.bytes o),("out",.loc (N+1)),("leftbits",.int lb),("leftchar",.int lc)]/\H.at (N+1)=some (.list (out.map .int))
abbrev B2W (U:Store)(o:Array UInt8)(N j:Nat)(lc b lb:Int)(out:List Int)(n:Nat)(H:Store):Prop:=∃out' lb',jI (bH lc b) n out' lb'=jI (bH lc b) 3 out (lb+8)/\(0<=lb'/\lb'<6 * n+6/\out'.length+n<=out.length+3/\n<=3)/\Grow U H/\FrHas H N [("data",.bytes o),("newline",.bool false),("bin_data",.bytes o),("out",.loc (N+1)),("leftbits",.int lb'),("leftchar",.int (bH lc b))]/\H.at (N+1)=some (.list (out'.map .int))/\H.at (N+2)=some (.iter (.bytes o) (j+1))
theorem sp_b2a (hd:1<P.d)(hf:P.free=true)(U:Store)(o:Array UInt8)(ho:o.size<=9)(hb:(gZ (iN o) 0 [] 0).2.2=0)(hall:(dD o).all (λn=>decide (0<=n/\n<256))=true):SpecV C0 P (.top (.ref 180)) [.bytes o] [("newline",.bool false)] (.bytes (PySem.byteArr (dD o))) U:=by
 refine SpecV.of rfl λwf=>?_
 obtain ⟨N,hN⟩:∃N,U.length=N:=⟨_,rfl⟩
 refine TC.of (tk180 hN (by omega) ?_)
 refine TSs_cons' (x:=?_) ?_
 repeat k_lt zT
 k_lt zS
 repeat k_lt zT
 k_lt zS
 repeat k_lt zT
 k_lt zS
 repeat k_lt zT
 k_lt zS
 repeat k_lt zT
 k_lt zS
 repeat k_lt zT
 refine br hf rfl (λω ω=>rfl) ?_
 repeat k_lt zT
 refine ⟨_,_,_,B2I U o N,Src.bytes (by k_lt zlen),?h0,?hx,λω ω=>rfl,?turn,?fin⟩
 case hx=>rintro j H -;exact .bytes _
 case h0=>exact ⟨0,[],0,rfl,by simp,(Grow.app _ _).trans (Grow.app _ _),by k_lt zfrhas,by k_lt zat⟩
 case turn=>
  rintro j x H R Y kR kX hx ⟨lc,out,lb,hfeed,hr,g,fr,hout⟩ hit
  obtain ⟨b,hb1,rfl⟩:=iz (l:=iN o) (f:=AVal.int) (by unfold iN;rw [List.map_map];exact hx)
  haveI hj:j<9:=by
   haveI:=(List.getElem?_eq_some_iff.mp hb1).1
   unfold iN at this;simp at this;omega
  haveI fr':=fr
  obtain ⟨m0,hm0,_⟩:=fr'
  refine TV1.weakTo (F:=N) (fr.put_ne (by omega)) ?_
  repeat k_lt zT
  k_lt zS
  repeat k_lt zT
  refine OP2_shl ⟨by decide,by decide,by omega⟩ ?_
  repeat k_lt zT
  k_lt zS
  repeat k_lt zT
  k_lt zS
  haveI hlc:=lC lc b
  refine dy rfl (B2W U o N j lc b lb out) 3
   ⟨out,lb+8,rfl,by omega,(g.put (by omega)).put (by omega),by k_lt uf,by k_lt zat,by k_lt zat⟩ ?_
  rintro n H' R2 Y2 kR2 kX2 ⟨out',lb',he,hr',g',fr',hout',hit'⟩
  haveI fr2:=fr'
  obtain ⟨m1,hm1,_⟩:=fr2
  refine TM.weakTo (t:=λenv=>isTrue _ env (eval _ env)) (F:=N) fr' ?_
  repeat k_lt zT
  refine aA (λh=>?_) (λh=>?_)
  ·haveI h:=of_decide_eq_true h
   k_lt zS
   repeat k_lt zT
   refine OP2_shr ⟨by omega,by omega⟩ ?_
   repeat k_lt zT
   haveI hm:=bitAnd_m6 ((bH lc b).fdiv (2 ^ (lb' - 6).toNat))
   refine pE ⟨by decide,by omega,by rw [hm];haveI:(b64.toList.length:Int)=64:=rfl;omega⟩ ?_
   repeat k_lt zT
   k_lt zS
   repeat k_lt zT
   refine ⟨n - 1,by omega,out'++[up (bH lc b) lb'],lb' - 6,?_,?_,by k_lt zgrow,by k_lt uf,?_,by k_lt zat⟩
   ·rw [←he]
    obtain ⟨k,rfl⟩:∃k,n=k+1:=⟨n - 1,by omega⟩
    show jI _ k _ _=if 6<=lb' then _ else _
    rw [if_pos h]
   ·simp;omega
   ·rw [List.map_append]
    k_lt zat
  ·haveI h:=of_decide_eq_false h
   k_lt zS
   repeat k_lt zT
   haveI hemit:jI (bH lc b) 3 out (lb+8)=(out',lb'):=by
    rw [←he]
    cases n with
    | zero=>rfl
    | succ k=>show (if 6<=lb' then _ else _)=_;rw [if_neg h]
   refine ⟨⟨bH lc b,out',lb',?_,?_,by k_lt zgrow,by k_lt uf,by k_lt zat⟩,by k_lt zat⟩
   ·rw [take_next' hb1,rD,hfeed]
    show gZ [] _ _ _=_
    rw [hemit];rfl
   ·haveI:=o9 (bH lc b) out (lb+8) (by omega) (by omega)
    rw [hemit] at this
    simp at this
    omega
 case fin=>
  rintro H ⟨lc,out,lb,hfeed,hr,g,fr,hout⟩ hit
  haveI hlen:(o.toList.map λx=>AVal.int (x.toNat:Nat)).length=(iN o).length:=by unfold iN;simp
  rw [hlen,List.take_length] at hfeed
  rw [hfeed] at hb
  haveI hout2:dD o=out:=by unfold dD;show (gZ (iN o) 0 [] 0).2.1=out;rw [hfeed]
  haveI hb:lb=0:=hb
  subst hb
  haveI fr2:=fr
  obtain ⟨m1,hm1,_⟩:=fr2
  refine TM.weakTo (F:=N) (fr.gone (by omega)) ?_
  k_lt zS
  repeat k_lt zT
  k_lt zS
  repeat k_lt zT
  k_lt zS
  repeat k_lt zT
  k_lt zS
  repeat k_lt zT
  k_lt zS
  repeat k_lt zT
  k_lt zS
  repeat k_lt zT
  k_lt zS
  repeat k_lt zT
  haveI hsz:(iN o).length<=9:=by unfold iN;simp;omega
  rw [hlen] at hr
  rw [hout2] at hall
  refine TCall.op (tI (SP.down_free hf) (by k_lt zat) (by simp [lenLine];omega) rfl hall ?_)
  exact ⟨by rw [hout2];rfl,by k_lt zgrow⟩
end
section
theorem sp_b64 {P:SP}(hd:2<P.d)(hf:P.free=true)(U:Store)(o:Array UInt8)(ho:o.size<=9)(hb:(gZ (iN o) 0 [] 0).2.2=0)(hall:(dD o).all (λn=>decide (0<=n/\n<256))=true):SpecV C0 P (.top (.ref 188)) [.bytes o] [] (.bytes (PySem.byteArr (dD o))) U:=by
 refine SpecV.of rfl λwf=>?_
 obtain ⟨N,hN⟩:∃N,U.length=N:=⟨_,rfl⟩
 refine TC.of (tk188 hN (by omega) ?_)
 refine TSs_cons' (x:=?_) ?_
 repeat k_lt zT
 refine TCall.specV (by k_lt ua) (sp_b2a (SP.down_d hd) (SP.down_free hf) _ o ho hb hall) ?_
 repeat k_lt zT
 k_lt zS
 repeat k_lt zT
 k_lt zS
 repeat k_lt zT
 k_lt zS
 repeat k_lt zT
 exact ⟨rfl,by k_lt zgrow⟩
end
section
section
open Builtin
variable {b:Array UInt8}{c:UInt8}{cs:List UInt8}{t u:Tok}{x:PySem.Str}{n:Nat}
theorem uy {id:String}:_codecs.decodeRoad id b (PySem.Str.ofString "ascii") none []=(_codecs.runDecoder id _codecs.asciiDecoder none true b 0 [] >>= λr=>mkStr ⟨r.1⟩):=by kernel_rfl
theorem ux {t1 t2:Tok}{d:PySem.Str}(hd:∀id,_codecs.runDecoder id _codecs.asciiDecoder none true b 0 []=pure (x.cps,n)) :
  Meets («_codecs.decode.text» ⟨[.bytes b t,.str (PySem.Str.ofString "ascii") t1,.none,.str d t2],[]⟩) (λω R s=>x.length<=sizeLine/\R (.ok (.ret (.str x s.toks))) {s with toks:=s.toks+1}):=by
 refine .of_wp λprog w A R s hS=>?_
 obtain ⟨hsz,h⟩:=hS
 show wpAny _ _ (Bytes.bytesLike _ (.bytes b t) >>= λr=>_) _ _ s
 refine wpAny_bind (wpAny_of_eq KBd.like_eq ?_)
 refine wpAny_bind (wpAny_of_eq KBd.held_eq ?_)
 show wpAny _ _ (_codecs.decodeRoad _ b (PySem.Str.ofString "ascii") none [] >>= λv=>_) _ _ s
 rw [uy,hd]
 refine wpAny_bind (wpAny_bind (wpAny_pure ?_))
 exact wpAny_mkStr (wpAny_pure ⟨_,rfl,h⟩) hsz
theorem rM : «bytes.decode» ⟨[.bytes (c::cs).toArray t,.str (PySem.Str.ofString "ascii") u],[]⟩=(mkStr (PySem.Str.ofString "utf-8") >>= λω=>mkStr (PySem.Str.ofString "ascii") >>= λe=>mkStr (PySem.Str.ofString "bytes.decode") >>= λd=>
  call (.builtin "_codecs.decode.text") [.bytes (c::cs).toArray t,e,.none,d] >>= λv=>ret v):=by kernel_rfl
theorem uz (a b:Value):argsOk "bytes.decode" ⟨[a,b],[]⟩:=by unfold argsOk;kernel_rfl
theorem rL (hd:∀id,_codecs.runDecoder id _codecs.asciiDecoder none true (c::cs).toArray 0 []=pure (x.cps,n)) :
  Meets («bytes.decode» ⟨[.bytes (c::cs).toArray t,.str (PySem.Str.ofString "ascii") u],[]⟩) (λω R s=>x.length<=sizeLine/\∀t' k,R (.ok (.ret (.str x t'))) {s with toks:=k}):=by
 refine .of_wp λprog w A R s hS=>?_
 obtain ⟨hsz,h⟩:=hS
 rw [rM]
 refine wpAny_bind (wpAny_mkStr ?_ (by decide))
 refine wpAny_bind (wpAny_mkStr ?_ (by decide))
 refine wpAny_bind (wpAny_mkStr ?_ (by decide))
 exact wpAny_bind (call_function_meets KBd.kind_text KBd.plain_text KBd.entry_text (KBd.args_text _ _ _ _) (ux hd) ⟨hsz,wpAny_pure ⟨_,rfl,h _ _⟩⟩)
end
section
variable {c:Cfg}{P:SP}{E:AEnv}{U:Store}{X:XP}
theorem tJ {a:UInt8}{as:List UInt8}{x:Str}{n:Nat}{Q:AVal->Store->Prop}(hd:∀id,Builtin._codecs.runDecoder id Builtin._codecs.asciiDecoder none true (a::as).toArray 0 []=pure (x.cps,n))(hx:x.length<=lenLine)(q:Q (.str x) U):OPc c P (.builtin "bytes.decode") [.bytes (a::as).toArray,.str "ascii"] Q X U:=by
 refine OPc.of2 λκ V s xv yv ok st ra rb=>?_
 obtain ⟨t,rfl⟩:=ra
 obtain ⟨u,rfl⟩:=rb
 exact call_meets FB.slot_bytes_decode (PySem.W.typeIs_bytes _ _ _) FB.entry_bytes_decode (uz _ _) (rL hd) ⟨Nat.le_trans hx aj,λt' k=>dI (a:=.str x) st (st.toks k s.drawn) rfl ⟨_,rfl⟩ q⟩
end
end
section
section
variable {prog:Program}{w:World}{A:Around}{E:Value->Shared->Prop}{s:Shared}
theorem nZ {l:Addr}{vs:List Value}{ss:List Str}{Q:Value->Shared->Prop}(hl:s.heap.IsTuple l vs.toArray)(hS:StrsAre vs ss)(h64:vs.length<64)
  (h:∀(out:Array Value) (ss':List Str) (h':Heap) (a:Addr) (e:Nat),StrsAre out.toList ss'->ss'.Perm ss->sortedS ss'=true->(∀b o,s.heap.get? b=some o->h'.get? b=some o)->s.heap.get? a=none->h'.get? a=some (seqObj "list" out e)->Q (.ref a) {s with heap:=h'}) :
  wpAny (model prog w) A (call (.builtin "sorted") [.ref l]) Q E s:=by
 obtain ⟨o,ho,hc,n,hd⟩:=hl
 refine Calls.call_function_entry kind_sorted plain_sorted entry_sorted (args_sorted1 _) ?_
 unfold Builtin.«sorted»
 refine wpAny_bind (m:=checkCount "sorted" 1 1 _) (wpAny_pure ?_)
 refine wpAny_bind (wpAny_collect_seq l (.inr rfl) ho hc hd (λh₁ hk=>?_) (by rw [List.size_toArray,sizeLine_eq];omega))
 refine wpAny_bind (wpAny_newList ?_ (by rw [sizeLine_eq];show vs.length<=_;omega))
 have hoL:(h₁.push (seqObj "list" vs.toArray 0)).get? h₁.objs.size=some (seqObj "list" vs.toArray 0):=Heap.get?_push_size _ rfl
 show wpAny _ _ _ _ _ {s with heap:=h₁.push (seqObj "list" vs.toArray 0)}
 refine wpAny_bind (wpAny_holding (wpAny_call_entry slot_list_sort ⟨_,hoL,rfl⟩ entry_list_sort (list_sort_treeK strKind_oneLt (s:={s with heap:=h₁.push (seqObj "list" vs.toArray 0)}) hoL hS.keysOf (λv1 v2 rest e=>keyKind_strs (by rw [←e];exact hS)) h64 λst' a1 a2=>⟨_,rfl,?_⟩) (args_list_sort _)))
 obtain ⟨ss',x1,x2,x3⟩:=sorted_out_str hS a1 a2
 refine wpAny_pure ⟨_,rfl,?_⟩
 have hne:∀{b o'},s.heap.get? b=some o'->b<h₁.objs.size:=λq=>Heap.lt_size (hk _ _ q)
 have old:∀b o',s.heap.get? b=some o'->(sortedHeap (h₁.push (seqObj "list" vs.toArray 0)) h₁.objs.size vs ((arrOf st').map (·.2))).get? b=some o':=λb o' q=>by
  have hb:=hne q
  have h1:=hk _ _ q
  unfold sortedHeap
  rw [Heap.get?_update_ne _ _ _ _ (Nat.ne_of_lt hb)]
  have e0:(h₁.push (seqObj "list" vs.toArray 0)).get? b=some o':=Heap.get?_push_of_some _ h1
  have e1:((h₁.push (seqObj "list" vs.toArray 0)).update h₁.objs.size (Obj.mapSeq λω=>#[])).get? b=some o':=by rw [Heap.get?_update_ne _ _ _ _ (Nat.ne_of_lt hb)];exact e0
  exact Heap.get?_push_of_some _ (Heap.get?_push_of_some _ e1)
 have new:∃e,(sortedHeap (h₁.push (seqObj "list" vs.toArray 0)) h₁.objs.size vs ((arrOf st').map (·.2))).get? h₁.objs.size=some (seqObj "list" ((arrOf st').map (·.2)) e):=by
  obtain ⟨e1,ho1⟩:∃e1,((h₁.push (seqObj "list" vs.toArray 0)).update h₁.objs.size (Obj.mapSeq λω=>#[])).get? h₁.objs.size=some (seqObj "list" #[] e1):=⟨_,get?_update_seq hoL (λω=>#[])⟩
  unfold sortedHeap
  exact ⟨_,get?_update_seq (Heap.get?_push_of_some _ (Heap.get?_push_of_some _ ho1)) _⟩
 obtain ⟨e,he⟩:=new
 refine h _ ss' _ _ e x1 x2 x3 old ?_ he
 cases q:s.heap.get? h₁.objs.size with
 | none=>rfl
 | some o'=>exact absurd (hne q) (Nat.lt_irrefl _)
end
section
variable {c:Cfg}{P:SP}{E:AEnv}{U:Store}{X:XP}
theorem lu {i:Nat}{l:List AVal}{ss:List Str}{Q:AVal->Store->Prop}(hi:U.at i=some (.tuple l))(hl:l.length<64)(hn:l=ss.map .str)
  (q:∀js:List Str,js.Perm ss->sortedS js=true->Q (.loc U.length) (U++[some (.list (js.map .str))])):OPc c P (.builtin "sorted") [.loc i] Q X U:=by
 refine OPc.of1L λκ V s ok st ω=>?_
 obtain ⟨vs,il,rl⟩:=st.isTuple hi
 refine nZ il (mu (hn▸rl)) (by rw [←All2.length rl];exact hl) λout js h' a e hI hp hs hk hna ge=>?_
 exact jF ok st (ao:=.list (js.map .str)) s.toks hk hna ge (λω=>trivial) ⟨out.toList,e,by simp [seqObj],mt hI⟩ (q js hp hs)
end
end
section
theorem All2.rep {α β:Type}{R:α->β->Prop}{l:List α}{m:List β}(h:All2 R l m):∀k,All2 R (List.replicate k l).flatten (List.replicate k m).flatten
 | 0=>.nil
 | k+1=>by rw [List.replicate_succ,List.replicate_succ,List.flatten_cons,List.flatten_cons];exact h.append (All2.rep h k)
section
variable {c:Cfg}{P:SP}{E:AEnv}{U:Store}{X:XP}
theorem nI {i:Nat}{l:List AVal}{x:Int}{Q:AVal->Store->Prop}(hi:U.at i=some (.list l))(h0:0<=x)(h1:x<=100)(hl:l.length<=100)(q:New U (.list (List.replicate x.toNat l).flatten) Q):OP2 c P (binaryOp .Mult) (.loc i) (.int x) (gV Q) X U:=by
 obtain ⟨nn,U2,rfl,rfl,q⟩:=q
 intro κ V s v w ok st ra rb
 obtain ⟨_,rfl⟩:=ra
 obtain ⟨u,rfl⟩:=rb
 obtain ⟨o,ho,vs,k,rfl,rv⟩:=st.obj _ _ hi
 have hsz':(List.toArray vs).size * x.toNat<=2 ^ 24:=by
  rw [List.size_toArray,←All2.length rv]
  have h2:x.toNat<=100:=by omega
  exact Nat.le_trans (Nat.mul_le_mul hl h2) (by decide)
 refine wpAny_binaryOp_repeat_ref (T:="list") (U:="int") (by decide) ⟨_,ho,rfl⟩ (λs'=>typeIs_int s' x u) noFill_list_mul F.fills_int_mul F.slot_int_rmul repeat_list F.slot_int_index.lookup
  (call_meets F.slot_int_rmul (typeIs_int s x u) F.entry_int_rmul (F.args_int_rmul_2 _ _) (lm_int_rmul_list_any x u (V i) (List.toArray vs) k none #[])
   ⟨ho,rfl,⟨_,ho,rfl⟩,call_meets F.slot_list_mul ⟨_,ho,rfl⟩ F.entry_list_mul (F.args_list_mul_2 _ _)
    (lm_list_mul_any (V i) (List.toArray vs) k none #[] x u (by simp [Builtin.List.listFitsIndex];omega) (by omega) (by simp [Builtin.List.listTooLong,sizeLine];omega))
    ⟨ho,?_⟩⟩)
 rw [listMul_foldl_if]
 have e:=ah V U.length s.heap.objs.size
 exact dC (ao:=.list (List.replicate x.toNat l).flatten) st s.toks rfl ⟨_,_,rfl,VRs.ext (All2.rep rv _) e (Nat.le_succ _)⟩ q
end
end
section
section
variable {c:Cfg}{P:SP}{E:AEnv}{U:Store}{X:XP}
theorem rR {x:Expr}{sp:Pos}{rest:List Expr}{pos:Pos}{Q:List AVal->Store->Prop}
  (h:TE c P E x (λa U1=>∃i l,a=.loc i/\U1.at i=some (.list l)/\l.length<=lenLine/\jR c P E pos rest (λas U2=>Q (l++as) U2) X U1) X U):jR c P E pos (.Starred x sp::rest) Q X U:=by
 refine TM.mk (t:=λenv=>spliced (backTo pos (starEach (.Starred x sp::rest) env))) λκ V0 s g=>?_
 refine items_star (h.go g ?_)
 rintro V1 U1 v s₁ g₁ e1 l1 ⟨a,ra,i,l,rfl,hi,hl,hq⟩
 obtain ⟨_,rfl⟩:=ra
 obtain ⟨o,ho,vs,ep,rfl,rv⟩:=g₁.st.obj _ _ hi
 have hT':s₁.TypeIs (.ref (V1 i)) "list":=⟨_,ho,rfl⟩
 unfold StarOf notIterableAtAll
 refine wpAny_bind (wpAny_specialOf hT' PySem.F.slot_list_iter.lookup (wpAny_pure ⟨rfl,?_⟩))
 refine wpAny_collect_seq (V1 i) (.inl rfl) ho rfl rfl (λh' hk=>?_) (by rw [List.size_toArray,←All2.length rv];exact Nat.le_trans hl aj)
 have g2:=g₁.step (Ext.refl _ _) (Nat.le_refl _) (g₁.st.grown g₁.ok hk s₁.toks s₁.drawn)
 refine TM.go (t:=λenv=>spliced (backTo pos (starEach rest env))) hq g2 ?_
 rintro V2 U2 ws s2 g3 e3 l3 ⟨as,ras,hq'⟩
 exact g3.done ⟨l++as,(VRs.ext rv e3 l3).append ras,hq'⟩
end
end
section
set_option tactic.hygienic true
noncomputable def o195 (P:Params):Obj:=((C0.K P).lookup 195).getD default
noncomputable def dK (P:Params):Array DictEntry:=match (o195 P).data with | .dict es _=>es | _=>#[]
noncomputable def ep195 (P:Params):Nat:=match (o195 P).data with | .dict _ ep=>ep | _=>0
theorem at195 (P:Params):(C0.K P).lookup 195=some ⟨.type "dict",none,.dict (dK P) (ep195 P),#[]⟩:=by kernel_rfl
noncomputable def mW (e:DictEntry):Bool:=match e.key with
 | .int i _=>e.hash == hashInt i
 | _=>false
theorem tY (P:Params):(dK P).toList.all mW=true:=by kernel_rfl
theorem keys195 (p:Program)(w:World)(P:Params):KeysOf (intKind p w) (dK P):=by
 intro e he
 haveI:=List.all_eq_true.mp (tY P) e (Array.mem_toList_iff.mpr he)
 unfold mW at this
 split at this
 ·rename_i i t hk
  exact ⟨i,by rw [hk];exact intKind_is _ _ _ _,eq_of_beq this⟩
 ·cases this
noncomputable def fm (c:Nat):Option Str:=if c=43 then some ⟨#[92,43]⟩ else none
noncomputable def eD (c:Nat):Bool:=c == 65||c == 66||c == 67||c == 68||c == 47||c == 43
theorem t9 (P:Params){c:Nat}(h:eD c=true):match fm c with
  | some x=>∃t,findBy Value.isInt (dK P) (c:Int)=some (.str x t)
  | none=>findBy Value.isInt (dK P) (c:Int)=none:=by
 unfold eD at h
 simp only [Bool.or_eq_true,beq_iff_eq] at h
 rcases h with ((((rfl | rfl) | rfl) | rfl) | rfl) | rfl
 ·show findBy Value.isInt (dK P) 65=none;kernel_rfl
 ·show findBy Value.isInt (dK P) 66=none;kernel_rfl
 ·show findBy Value.isInt (dK P) 67=none;kernel_rfl
 ·show findBy Value.isInt (dK P) 68=none;kernel_rfl
 ·show findBy Value.isInt (dK P) 47=none;kernel_rfl
 ·haveI:(match findBy Value.isInt (dK P) 43 with | some (.str x _)=>decide (x=⟨#[92,43]⟩) | _=>false)=true:=by kernel_rfl
  show ∃t,findBy Value.isInt (dK P) 43=some (.str ⟨#[92,43]⟩ t)
  revert this
  cases findBy Value.isInt (dK P) 43 with
  | none=>intro h;cases h
  | some v=>
   cases v <;> intro h <;> first | cases h;done | skip
   rename_i x t
   exact ⟨t,by rw [of_decide_eq_true h]⟩
theorem k9:isSubtype (.type "KeyError") (.type "LookupError")=pure true:=by rw [isSubtype_type];kernel_rfl
section
variable {c:Nat}
open Builtin Builtin.Str
variable {prog:Program}{w:World}{A:Around}{E:Value->Shared->Prop}{s:Shared}
noncomputable def gv (c:Nat):Mapped:=match fm c with
 | some x=>.text x
 | none=>.keep
def Grown (s s':Shared):Prop:=∃h' tk,(∀b o,s.heap.get? b=some o->h'.get? b=some o)/\s'={s with heap:=h',toks:=tk}
theorem Grown.trans {a b d:Shared}(h:Grown a b)(h':Grown b d):Grown a d:=by
 obtain ⟨h1,t1,k1,rfl⟩:=h
 obtain ⟨h2,t2,k2,rfl⟩:=h'
 exact ⟨h2,t2,λb o e=>k2 b o (k1 b o e),rfl⟩
theorem pU {Q:Mapped->Shared->Prop}(hc:eD c=true)(hh:A.handled=none)(hK:(C0.K w.params).In s.heap)(h:∀s',Grown s s'->Q (gv c) s'):wpAny (model prog w) A (tableLookup (.ref 195) c) Q E s:=by
 skip
 have hm:({s with toks:=s.toks+1}:Shared).heap.MapOf (intKind prog w) 195 (findBy Value.isInt (dK w.params)):=
  ⟨_,_,_,hK _ _ (at195 _),⟨rfl,rfl,rfl⟩,rfl,keys195 _ _ _,λω=>rfl⟩
 haveI hf:=t9 w.params hc
 refine wpAny_bind (wpAny_attempt (wpAny_bind (wpAny_mkInt ?_)))
 unfold gv at h
 cases hmc:fm c with
 | some x=>
  rw [hmc] at hf h
  obtain ⟨t,hf⟩:=hf
  refine wpAny_getItem_of (intKind_is _ _ _ _) hm hf ?_
  exact wpAny_bind (wpAny_pure (wpAny_bind (wpAny_pure (wpAny_pure (h _ ⟨_,_,λω ω e=>e,rfl⟩)))))
 | none=>
  rw [hmc] at hf h
  refine wpAny_getItem_missing_of (intKind_is _ _ _ _) (by decide) hh hm hf ?_
  intro h' e hx
  obtain ⟨ob,t,g1,g2,g3⟩:=hx.there
  refine wpAny_bind (wpAny_isInstance (T:="KeyError") ⟨ob,g1,g2⟩ k9 ?_)
  exact wpAny_bind (wpAny_rule (wpAny_pure (h _ ⟨_,_,hx.keeps,rfl⟩)))
noncomputable def bu (c:Nat):Str:=match fm c with
 | some x=>x
 | none=>⟨#[c]⟩
theorem jY {t:Tok}{Q:Fin->Shared->Prop}(hc:eD c=true)(hh:A.handled=none)(hK:(C0.K w.params).In s.heap)(h:∀s' k,Grown s s'->Q (.done (.ret (.str (bu c) k))) s'):wpAny (model prog w) A («str.translate» ⟨[.str ⟨#[c]⟩ t,.ref 195],[]⟩) Q E s:=by
 skip
 refine wpAny_bind (wpAny_of_eq (a:=(.str ⟨#[c]⟩ t,⟨#[c]⟩,.ref 195)) (by kernel_rfl) ?_)
 dsimp only
 refine wpAny_ite_false (decide_eq_false (by intro h;cases h)) ?_
 refine wpAny_bind ?_
 rw [←Array.forIn_toList]
 skip
 rw [List.forIn_cons]
 dsimp only
 have hall:(#[c]:Array Nat).all (λx=>decide (x<128))=true:=by
  unfold eD at hc
  simp only [Bool.or_eq_true,beq_iff_eq] at hc
  rcases hc with ((((rfl | rfl) | rfl) | rfl) | rfl) | rfl <;> decide +kernel
 rw [hall]
 rw [if_pos rfl]
 rw [if_neg (by decide)]
 refine wpAny_bind ?_
 rw [List.lookup_nil]
 skip
 refine wpAny_bind (pU hc hh hK λs1 g1=>?_)
 haveI hK1:(C0.K w.params).In s1.heap:=by
  obtain ⟨h',tk,k1,rfl⟩:=g1
  exact hK.keeps k1
 unfold gv
 unfold bu at h
 cases hmc:fm c with
 | none=>
  rw [hmc] at h
  dsimp only at h ⊢
  refine wpAny_bind (wpAny_pure ?_)
  refine wpAny_pure ?_
  skip
  refine wpAny_pure ?_
  refine wpAny_ite_false (decide_eq_false (show ¬tooLong 1=true by decide)) ?_
  refine wpAny_bind (wpAny_mkStr ?_ (show 1<=sizeLine by decide))
  refine wpAny_pure ?_
  obtain ⟨h',tk,k1,rfl⟩:=g1
  exact h _ _ ⟨h',_,k1,rfl⟩
 | some x=>
  haveI hx:c=43/\x=⟨#[92,43]⟩:=by
   unfold fm at hmc
   split at hmc
   ·cases hmc;exact ⟨by assumption,rfl⟩
   ·cases hmc
  obtain ⟨rfl,rfl⟩:=hx
  rw [hmc] at h
  dsimp only at h ⊢
  rw [if_neg (by decide)]
  skip
  refine wpAny_bind (wpAny_pure ?_)
  skip
  refine wpAny_bind (wpAny_rule ?_)
  refine wpAny_ite_false (by decide) ?_
  refine wpAny_bind (pU hc hh hK1 λs2 g2=>?_)
  unfold gv
  rw [hmc]
  skip
  refine wpAny_pure ?_
  dsimp only
  rw [List.forIn_nil]
  refine wpAny_pure ?_
  refine wpAny_ite_false (by decide) ?_
  refine wpAny_bind (wpAny_mkStr ?_ (by decide))
  refine wpAny_pure ?_
  obtain ⟨h',tk,k1,rfl⟩:=g1.trans g2
  exact h _ _ ⟨h',_,k1,rfl⟩
end
section
variable {c:Cfg}{P:SP}{E:AEnv}{U:Store}{X:XP}
theorem lq {ch:Nat}{Q:AVal->Store->Prop}(hfree:P.free=true)(hc:eD ch=true)(q:Q (.str (bu ch)) U):OPc C0 P (.builtin "str.translate") [.str ⟨#[ch]⟩,.top (.ref 195)] Q X U:=by
 refine OPc.of2 λκ V s xv yv ok st ra rb=>?_
 obtain ⟨t,rfl⟩:=ra
 cases rb
 refine wpAny_call_entry PySem.F.slot_str_translate (PySem.typeIs_str _ _ _) PySem.F.entry_str_translate ?_ (PySem.F.args_str_translate_2 _ _)
 refine jY hc (ok.handled hfree) (st.inK ok) λs' k g=>?_
 obtain ⟨h',tk,k1,rfl⟩:=g
 exact ⟨_,rfl,dI (a:=.str (bu ch)) st (st.grown ok k1 tk s.drawn) rfl ⟨_,rfl⟩ q⟩
end
end
section
section
variable {c:Cfg}{P:SP}{E:AEnv}{U:Store}{X:XP}
variable {Q:AVal->Store->Prop}{acc:Str}{rest:List Expr}{pos:Pos}{e:Expr}
theorem oq {x y z:Str}(h:(Builtin.Str.occurrences x y 0 x.length (x.length+1)).isEmpty=true)(q:Q (.str x) U):OPc c P (.builtin "str.replace") [.str x,.str y,.str z] Q X U:=by
 refine OPc.of3 λκ V s xv yv zv ok st ra rb rd=>?_
 obtain ⟨t,rfl⟩:=ra
 obtain ⟨u,rfl⟩:=rb
 obtain ⟨v,rfl⟩:=rd
 refine call_gives PySem.F.slot_str_replace (PySem.typeIs_str _ _ _) PySem.F.entry_str_replace (PySem.F.args_str_replace_3 _ _ _) (gives_str_replace x y z t u v λhf=>?_) ?_
 ·rw [h] at hf;cases hf
 ·rw [h]
  exact dI (a:=.str x) st st rfl ⟨_,rfl⟩ q
def TJ (c:Cfg)(P:SP)(E:AEnv)(parts:List Expr)(acc:Str)(Q:AVal->Store->Prop)(X:XP)(U:Store):Prop:=TM c P E (λenv=>joinParts acc (evalEach parts env)) (gV Q) X U
theorem uL (hl:acc.length<=lenLine)(q:Q (.str acc) U):TJ c P E [] acc Q X U:=by
 refine TM.mk λκ V0 s g=>?_
 show wpAny _ _ (mkStr acc) _ _ _
 exact wpAny_mkStr (g.st.toks (s.toks+1) s.drawn |> λst'=>(g.step (Ext.refl _ _) (Nat.le_refl _) st').doneV (a:=.str acc) ⟨_,rfl⟩ q) (Nat.le_trans hl aj)
theorem fx {x:Expr}(h:TE c P E x (λa U1=>∃y,a=.str y/\(acc++y).length<=lenLine/\TJ c P E rest (acc++y) Q X U1) X U):TJ c P E (x::rest) acc Q X U:=by
 refine TM.mk λκ V0 s g=>?_
 show wpAny _ _ (joinParts acc (eval x _::evalEach rest _)) _ _ _
 rw [joinParts]
 refine wpAny_bind (TM.go h g ?_)
 rintro V1 U1 v s₁ g₁ e1 l1 ⟨a,ra,y,rfl,hz,hr⟩
 obtain ⟨t,rfl⟩:=ra
 have hz':¬(acc.length+y.length > sizeLine):=by rw [←strLen_append];exact Nat.not_lt.mpr (Nat.le_trans hz aj)
 refine wpAny_bind (wpAny_pure ?_)
 show wpAny _ _ (if acc.length+y.length > sizeLine then _ else _) _ _ s₁
 rw [if_neg hz']
 have:=TM.end hr g₁
 first
  | exact this
  | exact wpAny_bind (wpAny_pure this)
theorem kS {v1 v2:Expr}(h:TJ c P E (v1::v2::rest) Str.empty Q X U):TE c P E (.JoinedStr (v1::v2::rest) pos) Q X U:=by
 refine TM.mk λκ V0 s g=>?_
 rw [arm_eval_JoinedStr]
 exact TM.end h g
theorem TE_Joined1 {v:Expr}(h:TE c P E v Q X U):TE c P E (.JoinedStr [v] pos) Q X U:=TM.mk λκ V0 s g=>wpAny_JoinedStr_one (TM.end h g)
theorem TE_FV (h:TE c P E e (λa U1=>∃x,a=.str x/\x.length<=lenLine/\Q (.str x) U1) X U):TE c P E (.FormattedValue e (-1) none pos) Q X U:=by
 refine TM.mk λκ V0 s g=>wpAny_FormattedValue_plain (TM.go h g ?_)
 rintro V1 U1 v s₁ g₁ e1 l1 ⟨a,ra,x,rfl,hz,q⟩
 obtain ⟨t,rfl⟩:=ra
 exact wpAny_formatField_str (g₁.doneV (a:=.str x) ⟨_,rfl⟩ q) ((g₁.step (Ext.refl _ _) (Nat.le_refl _) (g₁.st.toks (s₁.toks+1) s₁.drawn)).doneV (a:=.str x) ⟨_,rfl⟩ q) (Nat.le_trans hz aj)
theorem TE_FVr (h:TE c P E e (λa U1=>∃x,a=.str x/\(reprText x).length<=lenLine/\Q (.str (reprText x)) U1) X U):TE c P E (.FormattedValue e 114 none pos) Q X U:=by
 refine TM.mk λκ V0 s g=>wpAny_FormattedValue_repr (TM.go h g ?_)
 rintro V1 U1 v s₁ g₁ e1 l1 ⟨a,ra,x,rfl,hz,q⟩
 obtain ⟨t,rfl⟩:=ra
 have hz':=Nat.le_trans hz aj
 refine wpAny_pyReprObj_gives (PySem.typeIs_str _ _ _) PySem.F.slot_str_repr PySem.F.entry_str_repr (PySem.F.args_str_repr_1 _) (gives_str_repr x t) ?_ (by rfl) hz'
 have g2:=g₁.step (Ext.refl _ _) (Nat.le_refl _) (g₁.st.toks (s₁.toks+1) s₁.drawn)
 exact wpAny_formatField_str (g2.doneV (a:=.str (reprText x)) ⟨_,rfl⟩ q) ((g2.step (Ext.refl _ _) (Nat.le_refl _) (g2.st.toks (s₁.toks+1+1) s₁.drawn)).doneV (a:=.str (reprText x)) ⟨_,rfl⟩ q) hz'
end
end
section
noncomputable def o192 (P:Params):Obj:=((C0.K P).lookup 192).getD default
noncomputable def sm (P:Params):Array Value:=match (o192 P).data with | .seq xs _=>xs | _=>#[]
noncomputable def ep192 (P:Params):Nat:=match (o192 P).data with | .seq _ ep=>ep | _=>0
theorem at192 (P:Params):(C0.K P).lookup 192=some ⟨(o192 P).cls,none,.seq (sm P) (ep192 P),#[]⟩:=by kernel_rfl
noncomputable def n9:Array Nat:=#[14,14,4,1,1,9,0,64,0,1342177280,0,0,0,0,0,17,0,13,11,9,0,64,0,1342177280,0,0,0,0,0,17,1,1]
theorem code192 (P:Params):((sm P).map Builtin.Re.reRawOf).map (·.toNat)=n9:=by kernel_rfl
theorem qu (P:Params):(C0.K P).lookup 193=some ⟨.type "re.Pattern",none,.fields #[.str "([&~|])" 517,.int 32 552,.int 1 0,.none,.none,.ref 192,.int 0 0],#[]⟩:=by kernel_rfl
open Builtin Builtin.Re
noncomputable def fU:Nat->Sre.M->Sre.M
 | 0,m=>m
 | k+1,m=>let m':=m.runFor reTurnSteps
  if m'.outcome.isSome then m' else fU k m'
noncomputable def lJ (o:Option Sre.Outcome):Bool:=match o with | some .failed=>true | _=>false
noncomputable def dV (c:Nat):Sre.M:=Sre.forSearch n9 #[c,47] 1 0 2 false
theorem fails:∀c∈[65,66,67,68],lJ (fU 20 (dV c)).outcome=true:=by decide +kernel
section
variable {prog:Program}{w:World}{A:Around}{E:Value->Shared->Prop}{s:Shared}
variable {c:Nat}{t:Tok}
theorem nk:∀(k r:Nat) (m:Sre.M) {Q:Sre.M->Shared->Prop},(fU k m).outcome.isSome=true->m.outcome.isSome=false->Q (fU k m) s->wpAny (model prog w) A (reDrive (k+r) m) Q E s
 | 0,r,m,Q,h,h0,q=>by rw [show fU 0 m=m from rfl,h0] at h;cases h
 | k+1,r,m,Q,h,h0,q=>by
  rw [Nat.add_right_comm]
  unfold reDrive
  unfold fU at h q
  dsimp only at h q ⊢
  by_cases e:(m.runFor reTurnSteps).outcome.isSome=true
  ·rw [if_pos e] at h q ⊢
   exact wpAny_pure q
  ·rw [if_neg e] at h q ⊢
   exact wpAny_bind (wpAny_rule (nk k r _ h (by simpa using e) q))
theorem jg (b:Nat->Bool)(f:Nat->String):∀(l:List Nat) {Q:PUnit->Shared->Prop},Q ⟨⟩ s->wpAny (model prog w) A (forIn l PUnit.unit λi ω=>if b i=true then do rule (f i);pure (ForInStep.yield PUnit.unit) else pure (ForInStep.yield PUnit.unit)) Q E s
 | [],Q,q=>wpAny_pure q
 | i::l,Q,q=>by
  rw [List.forIn_cons]
  refine wpAny_bind ?_
  by_cases e:b i=true
  ·rw [if_pos e]
   exact wpAny_bind (wpAny_rule (wpAny_pure (jg b f l q)))
  ·rw [if_neg e]
   exact wpAny_pure (jg b f l q)
theorem sV {Q:Option Sre.M->Shared->Prop}(hc:c∈[65,66,67,68])(q:Q none s):wpAny (model prog w) A (reRunToEnd (dV c)) Q E s:=by
 have hf:=fails c hc
 unfold reRunToEnd
 refine wpAny_bind ?_
 have h0:(dV c).outcome.isSome=false:=by
  have:∀c∈[65,66,67,68],(dV c).outcome.isSome=false:=by decide +kernel
  exact this c hc
 rw [show (2 ^ 64:Nat)=20+(2 ^ 64 - 20) from rfl]
 generalize hm:fU 20 (dV c)=m at hf
 refine nk 20 _ _ ?_ h0 ?_
 ·rw [hm];unfold lJ at hf;revert hf;cases m.outcome <;> intro hf
  ·cases hf
  ·rfl
 ·rw [hm]
  refine wpAny_bind ?_
  refine jg (λi=>m.seen.has i) (λi=>Sre.names.getD i "") _ ?_
  unfold lJ at hf
  revert hf
  cases m.outcome with
  | none=>intro hf;cases hf
  | some o=>cases o <;> intro hf <;> first | cases hf;done | exact wpAny_pure q
theorem km {Q:ReTarget->Shared->Prop}(hK:(C0.K w.params).In s.heap)(q:Q {pattern:=.ref 193,string:=.str ⟨#[c,47]⟩ t,code:=n9,text:=#[c,47],kind:=0,groups:=1,pos:=0,lim:=2} s):wpAny (model prog w) A (reWholeTarget (.ref 193) (.str ⟨#[c,47]⟩ t)) Q E s:=by
 unfold reWholeTarget
 refine wpAny_bind ?_
 show wpAny _ _ (load 193 >>= _) _ _ _
 refine wpAny_bind (wpAny_load (hK _ _ (qu _)) ?_)
 refine wpAny_pure ?_
 refine wpAny_bind (wpAny_of_eq (a:=(#[c,47],0)) rfl ?_)
 dsimp only
 rw [if_neg (by decide),if_neg (by decide)]
 refine wpAny_bind (wpAny_of_eq (a:=()) rfl ?_)
 refine wpAny_bind ?_
 unfold reRawItems
 refine wpAny_bind ?_
 show wpAny _ _ (load 192 >>= _) _ _ _
 refine wpAny_bind (wpAny_load (hK _ _ (at192 _)) ?_)
 refine wpAny_pure ?_
 refine wpAny_pure ?_
 refine wpAny_pure ?_
 have hc:=code192 w.params
 show Q {pattern:=.ref 193,string:=.str ⟨#[c,47]⟩ t,code:=((sm w.params).map Builtin.Re.reRawOf).map (·.toNat),text:=#[c,47],kind:=0,groups:=1,pos:=0,lim:=2} s
 rw [hc];exact q
theorem fn_call:typeLookup (.type "function") "__call__" = pure (some (.builtin "function.__call__")):=by rw [typeLookup_type,builtinLookup_eq_fast];kernel_rfl
theorem tT {a:Nat}{L:Addr}{Q:Fin->Shared->Prop}(hc:c∈[65,66,67,68])(hK:(C0.K w.params).In s.heap)(hL:s.heap.get? L=some {cls:=.type "list",data:=.seq #[] 0})
  (q:∀h' k k',(∀b o,s.heap.get? b=some o->b≠L->h'.get? b=some o)->Q (.done (.ret (.str ⟨#[c,47]⟩ k))) {s with heap:=h',toks:=k'}) :
  wpAny (model prog w) A («re.Pattern.sub.loop» ⟨[.ref 193,.str ⟨#[c,47]⟩ t,.ref a,rawInt 1,rawInt 0,rawInt 0,rawInt 0,rawInt 0,.bool false,.ref L,.bool false],[]⟩) Q E s:=by
 unfold «re.Pattern.sub.loop»
 dsimp only [rawInt]
 refine wpAny_bind (km hK ?_)
 rw [if_neg (by decide)]
 refine wpAny_bind ?_
 rw [if_neg (by decide)]
 show wpAny _ _ (reRunToEnd (dV c)) _ _ _
 refine sV hc ?_
 dsimp only
 rw [if_pos (by decide)]
 unfold reSlice
 rw [if_pos (by decide)]
 have ext2:(#[c,47]:Array Nat).extract (Int.toNat 0) 2 = #[c,47]:=by
  simp only [List.mem_cons,List.not_mem_nil,or_false] at hc
  rcases hc with rfl | rfl | rfl | rfl <;> decide +kernel
 have ext0:(#[c,47]:Array Nat).extract 0 0 = #[]:=by
  simp only [List.mem_cons,List.not_mem_nil,or_false] at hc
  rcases hc with rfl | rfl | rfl | rfl <;> decide +kernel
 rw [ext2]
 refine wpAny_bind (wpAny_mkStr (x:=⟨#[c,47]⟩) ?_ (show 2<=sizeLine by decide))
 obtain ⟨n',e⟩:=bF (·.push (.str ⟨#[c,47]⟩ s.toks)) (.type "list") #[] 0
 refine wpAny_bind (wpAny_updateSeq (xs:=#[]) (n:=0) hL rfl ?_ (by decide) (by show 1<=sizeLine+1;decide))
 have hL2:(s.heap.update L (Obj.mapSeq λx=>x.push (.str ⟨#[c,47]⟩ s.toks))).get? L=some {cls:=.type "list",data:=.seq #[.str ⟨#[c,47]⟩ s.toks] n'}:=by
  rw [Heap.get?_update_self _ hL (by rw [e];rfl),e];rfl
 have hsame:=Heap.SameBut.update s.heap L (Obj.mapSeq λx=>x.push (.str ⟨#[c,47]⟩ s.toks))
 generalize s.heap.update L (Obj.mapSeq λx=>x.push (.str ⟨#[c,47]⟩ s.toks))=h1 at hL2 hsame
 dsimp only
 rw [if_pos (by decide)]
 rw [ext0]
 refine wpAny_bind (wpAny_mkStr (x:=⟨#[]⟩) ?_ (show 0<=sizeLine by decide))
 refine wpAny_bind ?_
 show wpAny _ _ (load L >>= _) _ _ _
 refine wpAny_bind (wpAny_load hL2 ?_)
 refine wpAny_pure ?_
 rw [if_neg (by intro h;cases h)]
 refine wpAny_bind ?_
 rw [if_pos (by decide)]
 have hok:JoinOk ⟨#[]⟩ [⟨#[c,47]⟩]=true:=by
  simp only [List.mem_cons,List.not_mem_nil,or_false] at hc
  rcases hc with rfl | rfl | rfl | rfl <;> decide +kernel
 have htx:Txt.join ⟨#[]⟩ [⟨#[c,47]⟩]=(⟨#[c,47]⟩:Str):=by
  simp only [List.mem_cons,List.not_mem_nil,or_false] at hc
  rcases hc with rfl | rfl | rfl | rfl <;> decide +kernel
 refine PySem.SC.join (D:=L) (l:=[(⟨#[c,47]⟩,s.toks)]) (texts:=[⟨#[c,47]⟩]) ⟨_,hL2,rfl,n',rfl⟩ rfl hok λt' k=>?_
 rw [htx,if_neg (by decide)]
 refine wpAny_pure ?_
 refine q h1 _ _ λb o hb hne=>?_
 rw [hsame.2 b hne];exact hb
theorem slot_sub:Slot "re.Pattern" "sub" "re.Pattern.sub":=
 .of (owner:="re.Pattern") (n:="sub") (by rw [typeLookup_type,builtinLookup_eq_fast];kernel_rfl) (by decide +kernel) (by decide +kernel) (by decide +kernel)
  (by first | exact .inl (by decide +kernel) | exact .inr (by decide +kernel)) (by rw [isSubtype_type];kernel_rfl)
theorem sA:typeOf (.builtin "re.Pattern.sub")=pure (.type "method_descriptor"):=by kernel_rfl
theorem rE:entryFor table "re.Pattern.sub" = some Builtin.«re.Pattern.sub»:=entryFor_of_tree (by kernel_rfl)
theorem j7:entryFor table "re.Pattern.sub.loop" = some Builtin.«re.Pattern.sub.loop»:=entryFor_of_tree (by kernel_rfl)
theorem fG:plainId "re.Pattern.sub.loop" = true:=by decide +kernel
theorem uA (a b c:Value):argsOk "re.Pattern.sub" ⟨[a,b,c],[]⟩:=by unfold argsOk;kernel_rfl
theorem kd:PlainAttrs "re.Pattern":=⟨⟨"object.__getattribute__",by rw [typeLookup_type,builtinLookup_eq_fast];kernel_rfl,by decide +kernel⟩,by rw [typeLookup_type,builtinLookup_eq_fast];kernel_rfl⟩
end
section
variable {prog:Program}{w:World}{A:Around}{E:Value->Shared->Prop}{s:Shared}
theorem sub_run {c a:Nat}{t:Tok}{oa:Obj}{Q:Value->Shared->Prop}(hc:c∈[65,66,67,68])(hK:(C0.K w.params).In s.heap)(ha:s.heap.get? a=some oa)(hcl:oa.cls=.type "function")
  (q:∀s' k,Grown s s'->Q (.str ⟨#[c,47]⟩ k) s'):wpAny (model prog w) A (call (.builtin "re.Pattern.sub") [.ref 193,.ref a,.str ⟨#[c,47]⟩ t]) Q E s:=by
 have hT:s.TypeIs (.ref 193) "re.Pattern":=⟨_,hK _ _ (qu _),rfl⟩
 refine wpAny_call (codeAny_call_builtin slot_sub.plain rE (slot_sub.check _ _ _ _ _ _ _ _ hT (uA _ _ _) ?_))
 unfold Builtin.«re.Pattern.sub» reSubstitute
 dsimp only
 refine wpAny_bind (wpAny_of_eq (a:=[some (.ref a),some (.str ⟨#[c,47]⟩ t),none]) (by kernel_rfl) ?_)
 dsimp only
 refine wpAny_bind (wpAny_pure ?_)
 refine wpAny_bind (wpAny_specialOf (T:="function") ⟨oa,ha,hcl⟩ fn_call ?_)
 have hsome:(some (Value.builtin "function.__call__")).isSome=true:=rfl
 rw [if_pos hsome]
 refine wpAny_bind (wpAny_pure ?_)
 rw [if_pos hsome]
 refine wpAny_bind (wpAny_pure ?_)
 dsimp only
 refine wpAny_bind (wpAny_holding (km hK ?_))
 rw [if_pos (by decide)]
 refine wpAny_bind (wpAny_of_eq (a:=()) (by kernel_rfl) ?_)
 refine wpAny_bind (wpAny_newList ?_ (by decide))
 refine wpAny_pure ?_
 refine ⟨plainId_quiet fG _,codeAny_builtin j7 ?_⟩
 rw [Around.under_plainId fG]
 have hk:∀b o,s.heap.get? b=some o->(s.heap.push {cls:=.type "list",data:=.seq ([]:List Value).toArray}).get? b=some o:=λb o h=>Heap.get?_push_of_some _ h
 refine tT hc (hK.keeps hk) (Heap.get?_push_size _ rfl) λh' k k' hs=>?_
 refine q _ k ⟨h',k',λb o hb=>hs b o (hk b o hb) ?_,rfl⟩
 rintro rfl
 rw [Heap.get?_none_of_le (Nat.le_refl _)] at hb;cases hb
end
section
variable {P:SP}{E:AEnv}{U:Store}{X:XP}
theorem TM_sub {Q:AVal->List AVal->Store->Prop}(q:Q (.top (.builtin "re.Pattern.sub")) [.top (.ref 193)] U):cR C0 P (.top (.ref 193)) "sub" Q X U:=by
 intro pl κ V s v ok st ra
 cases ra
 have hK:=st.inK ok
 exact getMethod_builtin ⟨_,hK _ _ (qu _),rfl⟩ kd slot_sub sA (λb e=>by cases e;exact ⟨_,hK _ _ (qu _),rfl⟩) ⟨V,U,Ext.refl _ _,Nat.le_refl _,st,.top (.builtin "re.Pattern.sub"),[.top (.ref 193)],rfl,.cons rfl .nil,q⟩
theorem op_sub {c i k:Nat}{qual:Str}{params:Arguments}{body:Expr}{scope:Scope}{cl:List (Str×Nat)}{Q:AVal->Store->Prop}(hc:c∈[65,66,67,68])(hi:U.at i=some (.lam qual params body scope cl k))(q:Q (.str ⟨#[c,47]⟩) U):OPc C0 P (.builtin "re.Pattern.sub") [.top (.ref 193),.loc i,.str ⟨#[c,47]⟩] Q X U:=by
 refine OPc.of3 λκ V s xv yv zv ok st ra rb rd=>?_
 cases ra
 obtain ⟨_,rfl⟩:=rb
 obtain ⟨t,rfl⟩:=rd
 obtain ⟨o,g,_,_,pm,ctv,ho⟩:=st.obj _ _ hi
 refine sub_run hc (st.inK ok) g (by rw [ho]) λs' k g'=>?_
 obtain ⟨h',tk,k1,rfl⟩:=g'
 exact dI (a:=.str ⟨#[c,47]⟩) st (st.grown ok k1 tk s.drawn) rfl ⟨_,rfl⟩ q
end
end
section
noncomputable def chkF (id:String)(args:Args)(fl:String):Sem Unit:=match Manifest.signature? id with
 | some sig=>Bind.checkArgs id {sig with full:=fl} args
 | none=>pure ()
noncomputable def chk0 (id:String)(args:Args):Sem Unit:=match Manifest.signature? id with
 | some sig=>Bind.checkArgs id sig args
 | none=>pure ()
theorem pe (a b:Value):chkF "list.append" ⟨[a,b],[]⟩ (toString (Bind.lastOf "list")++toString "." ++ toString (Bind.lastOf "list.append"))=pure ():=by unfold chkF;kernel_rfl
theorem us (a:Value):chk0 "list_iterator.__next__" ⟨[a],[]⟩=pure ():=by unfold chk0;kernel_rfl
theorem mR:builtinKind "list.append" = some .method:=by decide +kernel
theorem oI:builtinKind "list_iterator.__next__" = some .slot:=by decide +kernel
theorem j4:Manifest.varargsMethods.contains "list.append" = false:=by decide +kernel
theorem tV:isSubtype (.type "list") (.type "module")=pure false:=by rw [isSubtype_type];kernel_rfl
theorem lm (a:Args):(Code.builtin "list.append" a).quiet=true:=plainId_quiet slot_list_append.plain a
theorem iw (a:Args):(Code.builtin "list_iterator.__next__" a).quiet=true:=plainId_quiet slot_listiter_next.plain a
section
variable {prog:Program}{w:World}{A:Around}{E:Value->Shared->Prop}{s:Shared}
variable {L:Addr}
theorem lQ {x:Value}{o:Obj}{xs:Array Value}{ep:Nat}{Q:Unit->Shared->Prop}(ho:s.heap.get? L=some o)(hc:o.cls=.type "list")(hd:o.data=.seq xs ep)(q:Q () s):wpAny (model prog w) A (checkBoundCall "list.append" ⟨[.ref L,x],[]⟩) Q E s:=by
 have hT:s.TypeIs (.ref L) "list":=⟨o,ho,hc⟩
 unfold checkBoundCall
 cases h1:Manifest.signature? "list.append" with
 | none=>exact wpAny_pure q
 | some sg=>
  have h2:=pe (.ref L) x
  unfold chkF at h2
  rw [h1] at h2
  dsimp only at h2
  rw [mR]
  dsimp only
  rw [if_neg (by decide)]
  refine wpAny_bind (wpAny_isInstance hT tV ?_)
  rw [j4]
  rw [if_neg (by decide)]
  refine wpAny_bind ?_
  show wpAny _ _ (loadHead L >>= _) _ _ _
  refine wpAny_bind (wpAny_loadPart ho ?_)
  refine wpAny_pure ?_
  rw [hd]
  dsimp only
  rw [if_neg (by decide)]
  refine wpAny_bind (wpAny_typeOf hT ?_)
  dsimp only
  exact wpAny_of_eq h2 q
theorem jP :checkBoundCall "list_iterator.__next__" ⟨[.ref L],[]⟩=pure ():=by
 unfold checkBoundCall
 have h2:=us (.ref L)
 unfold chk0 at h2
 cases h1:Manifest.signature? "list_iterator.__next__" with
 | none=>rfl
 | some sg=>
  rw [h1] at h2
  rw [oI]
  dsimp only
  rw [if_pos (by decide)]
  dsimp only at h2
  exact h2
theorem fe {u:Addr}{vs:List Value}{cls id:String}{self:Value}{Q:Value->Shared->Prop}(ho:s.heap.get? u=some {cls:=.type cls,data:=.fields #[.builtin id,self]})(hc:cls = "builtin_function_or_method"∨cls = "method-wrapper")
  (h:wpAny (model prog w) A.in1 (checkBoundCall id ⟨self::vs,[]⟩) (λω s'=>(Code.builtin id ⟨self::vs,[]⟩).quiet=true/\codeAny (model prog w) A (.builtin id ⟨self::vs,[]⟩) (λr s'=>match r with | .ok (.ret v)=>Q v s' | .ok _=>False | .error e=>E e s') s') (λω ω=>False) s):wpAny (model prog w) A (call (.ref u) vs) Q E s:=by
 refine wpAny_call (codeAny_of_tree ?_)
 show wpAny _ A.in1 (callAny (.ref u) ⟨vs,[]⟩) _ _ s
 refine wpAny_bind (wpAny_load ho ?_)
 have hb:(Value.type cls == Value.type "method" || Value.type cls == Value.type "builtin_function_or_method" || Value.type cls == Value.type "method-wrapper")=true:=by rcases hc with rfl | rfl <;> decide
 have hn:(Value.type cls != Value.type "method")=true:=by rcases hc with rfl | rfl <;> decide
 show wpAny _ _ (if (Value.type cls == Value.type "method" || Value.type cls == Value.type "builtin_function_or_method" || Value.type cls == Value.type "method-wrapper")=true then _ else _) _ _ _
 rw [if_pos hb]
 show wpAny _ _ (if (Value.type cls != Value.type "method")=true then _ else _) _ _ _
 rw [if_pos hn]
 refine wpAny_bind (wpAny_mono h (λω s' h'=>wpAny_pure ?_) λω ω x=>x.elim)
 exact ⟨h'.1,codeAny_mono h'.2 λr s'' hr=>hr⟩
end
section
variable {c:Cfg}{P:SP}{E:AEnv}{U:Store}{X:XP}
variable {u i it:Nat}{l:List AVal}{x:AVal}{U':Store}{Q:AVal->Store->Prop}
theorem bp (hu:U.at u=some (.bmeth "builtin_function_or_method" "list.append" (.loc i)))(hi:U.at i=some (.list l))(hl:l.length<=lenLine)(hU:U.put i (.list (l++[x]))=U')(q:Q .none U'):TCall c P E (.loc u) [x] [] Q X U:=by
 subst hU
 intro κ V s vf vs ks ok hh hv st hf ha hk
 obtain ⟨_,rfl⟩:=hf
 cases hk
 cases ha with
 | @cons _ v _ _ rx rs=>
  cases rs
  obtain ⟨ou,gu,self,rself,rfl⟩:=st.obj _ _ hu
  obtain ⟨hil,rfl⟩:=rself
  obtain ⟨o,go,vs,ep,ho,rl⟩:=st.obj _ _ hi
  subst ho
  refine fe gu (.inl rfl) (lQ go rfl rfl ⟨lm _,codeAny_builtin entry_list_append ?_⟩)
  rw [Around.under_plainId slot_list_append.plain]
  show wpAny _ _ (updateSeq (V i) (·.push v) >>= λω=>ret .none) _ _ s
  refine wpAny_bind ?_
  obtain ⟨n',e⟩:=bF (·.push v) (.type "list") vs.toArray ep
  have hsz:(vs.toArray).size<=sizeLine:=by rw [List.size_toArray,←All2.length rl];exact Nat.le_trans hl aj
  refine wpAny_updateSeq go rfl (wpAny_pure ?_)
  have hs':=Heap.SameBut.update s.heap (V i) (Obj.mapSeq λx=>x.push v)
  refine dI (a:=.none) st (st.upd hi (ao':=.list (l++[x])) hs' ⟨_,Heap.get?_update_self _ go (by rw [e];rfl),vs++[v],n',by rw [e];simp,rl.append (.cons rx .nil)⟩ s.toks s.drawn) (by simp) rfl q
theorem nA {j:Nat}(hu:U.at u=some (.bmeth "method-wrapper" "list_iterator.__next__" (.loc it)))(hit:U.at it=some (.iterL i j))(hi:U.at i=some (.list l))(hx:l[j]? = some x)(hU:U.put it (.iterL i (j+1))=U')(q:Q x U'):TCall c P E (.loc u) [] [] Q X U:=by
 subst hU
 intro κ V s vf vs ks ok hh hv st hf ha hk
 obtain ⟨_,rfl⟩:=hf
 cases hk
 cases ha
 obtain ⟨ou,gu,self,rself,rfl⟩:=st.obj _ _ hu
 obtain ⟨hil,rfl⟩:=rself
 obtain ⟨o,go,vs,ep,ho,rl⟩:=st.obj _ _ hi
 obtain ⟨oi,gi,hlt,hoi⟩:=st.obj _ _ hit
 have hd:oi.data=.fields #[.ref (V i),.int j 0]:=by rw [hoi]
 have hc:oi.cls=.type "list_iterator":=by rw [hoi]
 subst ho
 obtain ⟨v,hvx,rv⟩:=All2.get rl hx
 refine fe gu (.inr rfl) (wpAny_of_eq jP ⟨iw _,codeAny_builtin entry_listiter_next ?_⟩)
 rw [Around.under_plainId slot_listiter_next.plain]
 show wpAny _ _ (field (.ref (V it)) 0 >>= _) _ _ s
 refine wpAny_bind (wpAny_field gi hd (x:=.ref (V i)) rfl ?_)
 show wpAny _ _ (if (Value.ref (V i) == Value.none)=true then _ else _) _ _ s
 rw [if_neg (show ¬((Value.ref (V i) == Value.none)=true) from Bool.false_ne_true)]
 show wpAny _ _ (field (.ref (V it)) 1 >>= _) _ _ s
 refine wpAny_bind (wpAny_field gi hd (x:=.int j 0) rfl ?_)
 show wpAny _ _ (seqItems? (.ref (V i)) >>= _) _ _ s
 refine wpAny_bind (wpAny_seqItems go rfl ?_)
 have hvx':(vs.toArray)[j]? = some v:=by simpa using hvx
 simp only [Int.toNat_natCast,hvx']
 refine wpAny_bind (wpAny_setField gi hd (by simp) (wpAny_pure ?_))
 have hs':=Heap.SameBut.update s.heap (V it) (Obj.mapFields λx=>x.setIfInBounds 1 (rawInt (j+1)))
 refine dI (a:=x) st (st.upd hit (ao':=.iterL i (j+1)) hs' ⟨_,Heap.get?_update_self _ gi (Obj.isFreed_of_fields (Obj.data_mapFields hd _)),hlt,?_⟩ s.toks s.drawn) (by simp) rv q
 rw [hoi];simp [Obj.mapFields,rawInt]
theorem nz (hfree:P.free=true)(hu:U.at u=some (.bmeth "method-wrapper" "list_iterator.__next__" (.loc it)))(hit:U.at it=some (.iterL i l.length))(hi:U.at i=some (.list l))(q:X U.length (U.gone it++[some (.exc (.type "StopIteration") none)])):TCall c P E (.loc u) [] [] Q X U:=by
 intro κ V s vf vs ks ok hh hv st hf ha hk
 obtain ⟨_,rfl⟩:=hf
 cases hk
 cases ha
 obtain ⟨ou,gu,self,rself,rfl⟩:=st.obj _ _ hu
 obtain ⟨hil,rfl⟩:=rself
 obtain ⟨o,go,vs,ep,ho,rl⟩:=st.obj _ _ hi
 obtain ⟨oi,gi,hlt,hoi⟩:=st.obj _ _ hit
 have hd:oi.data=.fields #[.ref (V i),.int l.length 0]:=by rw [hoi]
 have hc:oi.cls=.type "list_iterator":=by rw [hoi]
 subst ho
 refine fe gu (.inr rfl) (wpAny_of_eq jP ⟨iw _,codeAny_builtin entry_listiter_next ?_⟩)
 rw [Around.under_plainId slot_listiter_next.plain]
 show wpAny _ _ (field (.ref (V it)) 0 >>= _) _ _ s
 refine wpAny_bind (wpAny_field gi hd (x:=.ref (V i)) rfl ?_)
 show wpAny _ _ (if (Value.ref (V i) == Value.none)=true then _ else _) _ _ s
 rw [if_neg (show ¬((Value.ref (V i) == Value.none)=true) from Bool.false_ne_true)]
 show wpAny _ _ (field (.ref (V it)) 1 >>= _) _ _ s
 refine wpAny_bind (wpAny_field gi hd (x:=.int l.length 0) rfl ?_)
 show wpAny _ _ (seqItems? (.ref (V i)) >>= _) _ _ s
 refine wpAny_bind (wpAny_seqItems go rfl ?_)
 have hvx':(vs.toArray)[l.length]? = none:=by rw [All2.length rl];simp
 simp only [Int.toNat_natCast,hvx']
 refine wpAny_bind (wpAny_rule (wpAny_bind (wpAny_setField gi hd (by simp) ?_)))
 show wpAny _ _ (newExc (.type "StopIteration") [] >>= _) _ _ _
 have st1:=st.lost ok hit (h':=s.heap.update (V it) (Obj.mapFields λx=>x.setIfInBounds 0 .none)) (λb o hne hb=>by rw [(Heap.SameBut.update s.heap (V it) _).2 b hne];exact hb) s.toks s.drawn
 generalize s.heap.update (V it) (Obj.mapFields λx=>x.setIfInBounds 0 .none)=h1 at st1
 refine wpAny_bind ?_
 simp only [newExc,newTuple]
 refine wpAny_bind (wpAny_newObj_type ?_ (by size_fits))
 refine wpAny_bind (m:=firstArgMember _ _) (wpAny_of_eq (a:=Value.none) (by first | rfl | (simp only [firstArgMember];rfl)) ?_)
 refine wpAny_newObj_type ?_ (by size_fits)
 refine wpAny_bind (wpAny_handled ?_)
 rw [show κ.A.handled=none from ok.handled hfree]
 refine wpAny_bind (wpAny_pure (wpAny_throw ?_))
 have hsz:(U.gone it).length=U.length:=Store.gone_length ..
 have hk2:∀b o,h1.get? b=some o->((h1.push {cls:=.type "tuple",data:=.seq #[]}).push {cls:=.type "StopIteration",data:=.fields (#[.ref h1.objs.size,.none,.none,.none,.bool false,.none]++ownMembersOf (.type "StopIteration") [])}).get? b=some o:=λb o h=>Heap.get?_push_of_some _ (Heap.get?_push_of_some _ h)
 have hn:h1.get? (h1.push {cls:=.type "tuple",data:=.seq #[]}).objs.size=none:=by
  rw [Heap.size_push];exact gW h1
 have e:=ah V (U.gone it).length (h1.push {cls:=.type "tuple",data:=.seq #[]}).objs.size
 have st2:=st1.newAt (ao:=.exc (.type "StopIteration") none) hn trivial hk2 (Heap.get?_push_size _ rfl) ⟨rfl,_,.ref h1.objs.size,rfl,by rw [Array.getElem?_append_left (show 0<6 by decide)];rfl,by show (_:Array Value)[1]? = _;rw [Array.getElem?_append_left (show 1<6 by decide)];rfl⟩ (lh ok st1 hk2) s.toks s.drawn
 refine ⟨_,_,by rw [←hsz];exact e,by simp,st2,U.length,by simp,?_,q⟩
 rw [←hsz,ad]
end
end
section
theorem ln_look:typeLookup (.type "list_iterator") "__next__" = pure (some (.builtin "list_iterator.__next__")):=by rw [typeLookup_type,builtinLookup_eq_fast];kernel_rfl
theorem pV:typeOf (.builtin "list_iterator.__next__")=pure (.type "wrapper_descriptor"):=by kernel_rfl
theorem sv:typeLookup (.type "wrapper_descriptor") "__get__" = pure (some (.builtin "wrapper_descriptor.__get__")):=by rw [typeLookup_type,builtinLookup_eq_fast];kernel_rfl
theorem wd_set:typeLookup (.type "wrapper_descriptor") "__set__" = pure none:=by rw [typeLookup_type,builtinLookup_eq_fast];kernel_rfl
theorem wd_del:typeLookup (.type "wrapper_descriptor") "__delete__" = pure none:=by rw [typeLookup_type,builtinLookup_eq_fast];kernel_rfl
theorem slot_wdget:Slot "wrapper_descriptor" "__get__" "wrapper_descriptor.__get__":=
 .of (owner:="wrapper_descriptor") (n:="__get__") sv (by decide +kernel) (by decide +kernel) (by decide +kernel)
  (by first | exact .inl (by decide +kernel) | exact .inr (by decide +kernel)) (by rw [isSubtype_type];kernel_rfl)
theorem own_ln:(".".intercalate ("list_iterator.__next__".cutAt '.').dropLast) = "list_iterator":=by first | decide +kernel | kernel_rfl
theorem sub_ln:isSubtype (.type "list_iterator") (.type (".".intercalate ("list_iterator.__next__".cutAt '.').dropLast))=pure true:=by rw [own_ln,isSubtype_type];kernel_rfl
theorem ni:entryFor table "wrapper_descriptor.__get__" = some Builtin.«wrapper_descriptor.__get__»:=entryFor_of_tree (by kernel_rfl)
theorem pi (a b c:Value):argsOk "wrapper_descriptor.__get__" ⟨[a,b,c],[]⟩:=by unfold argsOk;kernel_rfl
theorem told_ln:Manifest.toldItsClass.contains "list_iterator.__next__" = false:=by decide +kernel
theorem slot_liget:Slot "list_iterator" "__getattribute__" "object.__getattribute__":=
 .of (owner:="object") (n:="__getattribute__") (by rw [typeLookup_type,builtinLookup_eq_fast];kernel_rfl) (by decide +kernel) (by decide +kernel) (by decide +kernel)
  (by first | exact .inl (by decide +kernel) | exact .inr (by decide +kernel)) (by rw [isSubtype_type];kernel_rfl)
theorem iK:typeLookup (.type "list_iterator") "__getattr__" = pure none:=by rw [typeLookup_type,builtinLookup_eq_fast];kernel_rfl
theorem lN:entryFor table "object.__getattribute__" = some Builtin.«object.__getattribute__»:=entryFor_of_tree (by kernel_rfl)
theorem nx (a b:Value):argsOk "object.__getattribute__" ⟨[a,b],[]⟩:=by unfold argsOk;kernel_rfl
theorem oB (a:Addr)(fs:Array Value)(u:Tok) :
  Meets (Builtin.«object.__getattribute__» ⟨[.ref a,.str "__next__" u],[]⟩) (λA R s=>s.heap.get? a=some {cls:=.type "list_iterator",dict:=none,data:=.fields fs,slots:=#[]}/\R (.ok (.ret (.ref s.heap.objs.size))) {s with heap:=s.heap.push {cls:=.type "method-wrapper",data:=.fields #[.builtin "list_iterator.__next__",.ref a]}}):=
 Meets.of_wp λprog w A R s hs=>by
  obtain ⟨hp,g,d,tk,os⟩:=s
  obtain ⟨hx,hs⟩:=hs
  have hT:(⟨hp,g,d,tk,os⟩:Shared).TypeIs (.ref a) "list_iterator":=⟨_,hx,rfl⟩
  have f1:=ln_look
  have f2:=pV
  have f3:=sv
  have f4:=wd_set
  have f5:=wd_del
  unfold Builtin.«object.__getattribute__»
  repeat (any_goals (first | assumption | wp_step))
  refine codeAny_call_builtin slot_wdget.plain ni (slot_wdget.check _ _ _ _ _ _ _ _ (show (⟨hp,g,d,tk,os⟩:Shared).TypeIs (.builtin "list_iterator.__next__") "wrapper_descriptor" from pV) (pi _ _ _) ?_)
  have f6:=sub_ln
  have f7:=told_ln
  unfold Builtin.«wrapper_descriptor.__get__»
  repeat (any_goals (first | assumption | wp_step))
  exact ⟨_,rfl,hs⟩
theorem lH {prog:Program}{w:World}{A:Around}{E:Value->Shared->Prop}{s:Shared}{a:Addr}{fs:Array Value}{Q:Value->Shared->Prop}
  (hx:s.heap.get? a=some {cls:=.type "list_iterator",dict:=none,data:=.fields fs,slots:=#[]})
  (h:∀tk,Q (.ref s.heap.objs.size) {s with heap:=s.heap.push {cls:=.type "method-wrapper",data:=.fields #[.builtin "list_iterator.__next__",.ref a]},toks:=tk}) :
  wpAny (model prog w) A (getAttr (.ref a) "__next__" true) Q E s:=by
 obtain ⟨hp,g,d,tk,os⟩:=s
 have hT:∀tk',(⟨hp,g,d,tk',os⟩:Shared).TypeIs (.ref a) "list_iterator":=λω=>⟨_,hx,rfl⟩
 have f3:=slot_liget.lookup
 have f4:=slot_liget.bind (.ref a)
 have f5:=iK
 unfold getAttr getAttrBy
 repeat (any_goals (first | assumption | exact hT _ | ((with_reducible show wpAny _ _ (call (Value.builtin "object.__getattribute__") _ _) _ _ _);refine call_meets slot_liget (hT _) lN (nx _ _) (oB a fs _) ⟨hx,?_⟩) | wp_step))
 all_goals (show wpAny _ _ (handedOut (.ref _)) _ _ _;first | exact wpAny_pure (h _) | (repeat (any_goals (first | assumption | exact h _ | wp_step))))
section
variable {c:Cfg}{P:SP}{E:AEnv}{κ:KX}{V0 V:Nat->Addr}{n0 n:Nat}{U:Store}{s:Shared}{X:XP}
variable {i:Nat}{Q:AVal->Store->Prop}{l:List AVal}
theorem py {l j:Nat}(hi:U.at i=some (.iterL l j))(q:New U (.bmeth "method-wrapper" "list_iterator.__next__" (.loc i)) Q):d8 c P (.loc i) "__next__" Q X U:=by
 obtain ⟨n,U2,rfl,rfl,q⟩:=q
 intro κ V s v ok st ra
 obtain ⟨hl,rfl⟩:=ra
 obtain ⟨o,go,hll,rfl⟩:=st.obj _ _ hi
 refine lH go λtk=>?_
 have e:=ah V U.length s.heap.objs.size
 exact dC (ao:=.bmeth "method-wrapper" "list_iterator.__next__" (.loc i)) st tk rfl ⟨.ref (V i),VR.ext (a:=.loc i) ⟨hl,rfl⟩ e (Nat.le_succ _),rfl⟩ q
theorem TAttr_append' (hi:U.at i=some (.list l))(q:New U (.bmeth "builtin_function_or_method" "list.append" (.loc i)) Q):d8 c P (.loc i) "append" Q X U:=by
 obtain ⟨n,U2,rfl,rfl,q⟩:=q
 exact l9 hi q
theorem op_iterList' (hi:U.at i=some (.list l))(q:New U (.iterL i 0) Q):OPc c P (.builtin "iter") [.loc i] Q X U:=by
 obtain ⟨n,U2,rfl,rfl,q⟩:=q
 exact mE hi q
theorem op_object' (q:New U .object Q):OPc c P (.type "object") [] Q X U:=by
 obtain ⟨n,U2,rfl,rfl,q⟩:=q
 exact qV q
theorem op_set0' (q:New U (.set []) Q):OPc c P (.type "set") [] Q X U:=by
 obtain ⟨n,U2,rfl,rfl,q⟩:=q
 exact op_set0 q
theorem pD {ep:Nat}{es:List (Str×AVal)}{k:Str}{d:AVal}(hi:U.at i=some (.dictE es ep))(hk:ae k es=some d)(q:Q d U):pG c P (.loc i) (.str k) Q X U:=by
 refine ⟨.dictE hi,?_⟩
 intro κ V s v w ok st ra rb
 obtain ⟨_,rfl⟩:=ra
 obtain ⟨u,rfl⟩:=rb
 obtain ⟨o,g,kvs,des,a1,a2,a3,a4,a5,rk⟩:=st.obj i _ hi
 obtain ⟨v,hv,rv⟩:=bi rk hk
 refine wpAny_getItem_of (strKind_is _ _ k u) (Heap.DictOf.mapOf (Heap.dictOf_iff.mpr ⟨o,g,des,ep,a1,a2,a3,a4,a5⟩)) hv ?_
 exact ⟨V,U,Ext.refl _ _,Nat.le_refl _,st.toks _ _,d,rv,q⟩
end
end
section
set_option tactic.hygienic true
theorem gs {cls spec:Value}{b:Bool}(h:∀P,exmOne (C0.K P) cls spec=some b):a8 C0 cls spec b:=by
 intro prog w hp e X ⟨o,ho,hc⟩
 subst hc
 refine exm_one X ?_ (h w.params)
 exact (Looks.ld (part:=some headPart) ho).andThen .now
theorem tO:a8 C0 (.type "ValueError") (.ref 72) false:=gs λP=>by kernel_rfl
theorem tN:a8 C0 (.type "ValueError") (.type "ValueError") true:=gs λP=>by kernel_rfl
theorem tQ:a8 C0 (.ref 72) (.ref 72) true:=gs λP=>by kernel_rfl
theorem tP:a8 C0 (.type "StopIteration") (.type "StopIteration") true:=gs λP=>by kernel_rfl
theorem raise_V:fA C0 (.type "ValueError") (.type "ValueError"):=jZ PySem.F.excCall_ValueError PySem.F.excRaise_ValueError
noncomputable def es71 (P:Params):Array DictEntry:=match (C0.K P).lookup 71 with | some ⟨_,_,.dict es _,_⟩=>es | _=>#[]
noncomputable def ep71 (P:Params):Nat:=match (C0.K P).lookup 71 with | some ⟨_,_,.dict _ ep,_⟩=>ep | _=>0
noncomputable def cl71 (P:Params):Value:=match (C0.K P).lookup 71 with | some ⟨c,_,.dict _ ep,_⟩=>c | _=>.none
theorem at71 (P:Params):(C0.K P).lookup 71=some ⟨cl71 P,none,.dict (es71 P) (ep71 P),#[]⟩:=by kernel_rfl
noncomputable def mv (e:DictEntry):Bool:=match e.key with
 | .str _ _=>true
 | _=>false
theorem keyed71 (P:Params):(es71 P).toList.all mv=true:=by kernel_rfl
theorem tL (P:Params):nsFind (es71 P) "__init__" = none:=by kernel_rfl
theorem at72 (P:Params):(C0.K P).lookup 72=some (excClassObj "CycleError" "CycleError" 72 71 [.type "ValueError"] [.type "ValueError",.type "Exception",.type "BaseException",.type "object"] true [] [] false none none (some (.ref 63)) none (some (.str "CycleError" 334)) (some (.str "CycleError" 342)) (some (.bool true)) "ValueError.__new__"):=by kernel_rfl
theorem raise_C:fA C0 (.ref 72) (.ref 72):=by
 intro prog w A Ex s env x np cpos pos args Q hh hplain h
 refine wpAny_Raise_call_sub PySem.F.excBase_ValueError (C:=72) (N:=71) (nm:="CycleError") (q:="CycleError") (bs:=[.type "ValueError"]) (hdct:=true) (sn:=[]) (sub:=[]) (ab:=false) (col:=none) (dd:=none) (k0:=some (.ref 63)) (k1:=none) (k2:=some (.str "CycleError" 334)) (k3:=some (.str "CycleError" 342)) (k5:=some (.bool true)) (mN:=nsFind (es71 w.params)) hh hplain (tL _) (wpAny_mono h (λf s₁ h₁=>⟨h₁.1,wpAny_mono h₁.2 (λa s2 h₂=>?_) λω ω x=>x⟩) λω ω x=>x)
 obtain ⟨h1,h2,X,h4⟩:=h₂
 refine ⟨h1,h2,X _ _ (at72 _),⟨_,_,_,X _ _ (at71 _),rfl,λe he=>?_,λω=>rfl⟩,h4⟩
 have:=List.all_eq_true.mp (keyed71 w.params) e (Array.mem_toList_iff.mpr he)
 unfold mv at this
 split at this
 ·rename_i x t hk;exact ⟨x,t,hk⟩
 ·cases this
end
section
structure Nd where
 k:Str
 np:Int
 su:List Str
 i:Nat
 l:Nat
 d:Nat
structure Sr where
 s:Nat
 d:Nat
 m:Nat
 ep:Option Nat
 ns:List Nd
 rdy:Option (Nat×List Str)
 po:Int
 nf:Int
noncomputable def Nd.slots (x:Nd):AObj:=.slots 57 x.d [some (.str x.k),some (.int x.np),some (.loc x.l)]
noncomputable def rdyA:Option (Nat×List Str)->AVal
 | none=>.none
 | some p=>.loc p.1
noncomputable def Sr.attrs (S:Sr):List (Str×AVal):=[("_node2info",.loc S.m),("_ready_nodes",rdyA S.rdy),("_npassedout",.int S.po),("_nfinished",.int S.nf)]
noncomputable def dj (ep:Option Nat)(es:List (Str×AVal)):AObj:=match ep with
 | none=>.dict es
 | some e=>.dictE es e
noncomputable def n2i (ns:List Nd):List (Str×AVal):=ns.map λx=>(x.k,.loc x.i)
structure Srt (U:Store)(S:Sr):Prop where
 s:U.at S.s=some (.inst 154 S.d)
 d:U.at S.d=some (.idict S.attrs)
 m:U.at S.m=some (dj S.ep (n2i S.ns))
 i:∀x∈S.ns,U.at x.i=some x.slots
 l:∀x∈S.ns,U.at x.l=some (.list (x.su.map .str))
 nd:∀x∈S.ns,U.at x.d=some (.idict [])
 r:∀p,S.rdy=some p->U.at p.1=some (.list (p.2.map .str))
 ks:(S.ns.map (·.k)).Nodup
 ls:(S.ns.map (·.l)).Nodup
 rl:∀p,S.rdy=some p->∀x∈S.ns,x.l≠p.1
def Sr.places (S:Sr)(j:Nat):Prop:=j=S.s∨j=S.d∨j=S.m∨(∃x∈S.ns,j=x.i∨j=x.l∨j=x.d)∨∃p,S.rdy=some p/\j=p.1
def Sr.foot (S:Sr)(j:Nat):Prop:=j=S.d∨j=S.m∨(∃x∈S.ns,j=x.i∨j=x.l)∨∃p,S.rdy=some p/\j=p.1
theorem Sr.foot.places {S:Sr}{j:Nat}(h:S.foot j):S.places j:=by
 rcases h with h | h | ⟨x,hx,h⟩ | h
 ·exact .inr (.inl h)
 ·exact .inr (.inr (.inl h))
 ·exact .inr (.inr (.inr (.inl ⟨x,hx,h.elim .inl λh=>.inr (.inl h)⟩)))
 ·exact .inr (.inr (.inr (.inr h)))
noncomputable def bI:AObj->Bool
 | .list _=>false
 | .dict _=>false
 | .dictE _ _=>false
 | .idict _=>false
 | .inst _ _=>false
 | .slots _ _ _=>false
 | _=>true
section
variable {U U':Store}{S S':Sr}
variable {j n F p:Nat}{o:AObj}{x y:Nd}{ns:List Nd}{k:Str}{f:Nd->Nd}{l:List Str}{po nf:Int}
theorem Srt.at_place (h:Srt U S)(hj:S.places j):∃o,U.at j=some o/\bI o=false:=by
 rcases hj with rfl | rfl | rfl | ⟨x,hx,rfl | rfl | rfl⟩ | ⟨p,hp,rfl⟩
 ·exact ⟨_,h.s,rfl⟩
 ·exact ⟨_,h.d,rfl⟩
 ·refine ⟨_,h.m,?_⟩
  unfold dj;cases S.ep <;> rfl
 ·exact ⟨_,h.i x hx,rfl⟩
 ·exact ⟨_,h.l x hx,rfl⟩
 ·exact ⟨_,h.nd x hx,rfl⟩
 ·exact ⟨_,h.r p hp,rfl⟩
theorem Srt.out (h:Srt U S)(hj:U.at j=some o)(ho:bI o=true):¬S.places j:=by
 intro hp
 obtain ⟨o',h1,h2⟩:=h.at_place hp
 rw [hj] at h1;cases h1
 rw [ho] at h2;cases h2
theorem Srt.lt (h:Srt U S)(hj:S.places j):j<U.length:=by
 obtain ⟨o,h1,_⟩:=h.at_place hj
 exact Store.at_lt h1
theorem Srt.congr (h:Srt U S)(k:∀j,S.places j->∀x,U.at j=some x->U'.at j=some x):Srt U' S where
 s:=k _ (.inl rfl) _ h.s
 d:=k _ (.inr (.inl rfl)) _ h.d
 m:=k _ (.inr (.inr (.inl rfl))) _ h.m
 i:=λx hx=>k _ (.inr (.inr (.inr (.inl ⟨x,hx,.inl rfl⟩)))) _ (h.i x hx)
 l:=λx hx=>k _ (.inr (.inr (.inr (.inl ⟨x,hx,.inr (.inl rfl)⟩)))) _ (h.l x hx)
 nd:=λx hx=>k _ (.inr (.inr (.inr (.inl ⟨x,hx,.inr (.inr rfl)⟩)))) _ (h.nd x hx)
 r:=λp hp=>k _ (.inr (.inr (.inr (.inr ⟨p,hp,rfl⟩)))) _ (h.r p hp)
 ks:=h.ks
 ls:=h.ls
 rl:=h.rl
theorem Srt.grow (h:Srt U S)(g:Grow U U'):Srt U' S:=h.congr λω ω ω e=>g.at e
theorem Srt.app (h:Srt U S){l:Store}:Srt (U++l) S:=h.grow (Grow.app _ _)
theorem Srt.put (h:Srt U S){j:Nat}{o:AObj}(hj:¬S.places j):Srt (U.put j o) S:=h.congr λi hi x e=>at_put_ne (by rintro rfl;exact hj hi) e
theorem Srt.gone (h:Srt U S){j:Nat}(hj:¬S.places j):Srt (U.gone j) S:=h.congr λi hi x e=>at_gone_ne (by rintro rfl;exact hj hi) e
noncomputable def isX:AObj->Bool
 | .exc _ _=>true
 | .tback _=>true
 | _=>false
def Kept (S:Sr)(U U':Store):Prop:=U.length<=U'.length/\∀j x,¬S.foot j->isX x=false->U.at j=some x->U'.at j=some x
theorem Kept.of (g:Grow U U'):Kept S U U':=⟨g.1,λω ω ω ω e=>g.at e⟩
theorem Kept.at (h:Kept S U U'){j:Nat}{o:AObj}(hj:U.at j=some o)(hn:¬S.foot j)(hx:autoParam (isX o=false) auR):U'.at j=some o:=h.2 j o hn hx hj
theorem Kept.put {S:Sr}{U U':Store}(h:Kept S U U'){j:Nat}{o:AObj}(hj:S.foot j∨U.length<=j):Kept S U (U'.put j o):=
 ⟨by simpa using h.1,λi x hi hx e=>at_put_ne (by rintro rfl;exact hj.elim hi λhl=>by have:=Store.at_lt e;omega) (h.2 i x hi hx e)⟩
theorem Kept.app {l:Store}(h:Kept S U U'):Kept S U (U'++l):=⟨by have:=h.1;simp;omega,λi x hi hx e=>at_app_l (h.2 i x hi hx e)⟩
theorem Kept.gone {S:Sr}{U U':Store}(h:Kept S U U'){j:Nat}(hj:S.foot j∨U.length<=j):Kept S U (U'.gone j):=
 ⟨by simpa using h.1,λi x hi hx e=>at_gone_ne (by rintro rfl;exact hj.elim hi λhl=>by have:=Store.at_lt e;omega) (h.2 i x hi hx e)⟩
structure Sr.Step (S S':Sr)(n:Nat):Prop where
 foot:∀j,S'.foot j->S.foot j∨n<=j
 places:∀j,S'.places j->S.places j∨n<=j
theorem Sr.Step.refl :S.Step S n:=⟨λω h=>.inl h,λω h=>.inl h⟩
theorem Sr.Step.trans {S'':Sr}{n':Nat}(h:S.Step S' n)(h':S'.Step S'' n')(l:n<=n'):S.Step S'' n:=
 ⟨λj hj=>(h'.foot j hj).elim (h.foot j) λq=>.inr (Nat.le_trans l q),λj hj=>(h'.places j hj).elim (h.places j) λq=>.inr (Nat.le_trans l q)⟩
theorem Kept.trans {U'':Store}(h:Kept S U U')(st:S.Step S' U.length)(h':Kept S' U' U''):Kept S U U'':=
 ⟨Nat.le_trans h.1 h'.1,λj x hj hx e=>h'.2 j x (λq=>(st.foot j q).elim hj λl=>by have:=Store.at_lt e;omega) hx (h.2 j x hj hx e)⟩
theorem Grow.back {x:AObj}(hF:U.at F=some x)(g:Grow (U.gone F) U'):Grow U (U'.put F x):=by
 have hl:=g.1
 rw [Store.gone_length] at hl
 refine ⟨by simpa using hl,λj y e=>?_⟩
 by_cases q:j=F
 ·subst q
  rw [hF] at e;cases e
  rw [Store.at_put (Nat.lt_of_lt_of_le (Store.at_lt hF) hl),if_pos rfl]
 ·exact at_put_ne q (g.at (at_gone_ne q e))
theorem Kept.back {x:AObj}(hF:U.at F=some x)(g:Kept S (U.gone F) U'):Kept S U (U'.put F x):=by
 have hl:=g.1
 rw [Store.gone_length] at hl
 refine ⟨by simpa using hl,λj y hj hx e=>?_⟩
 by_cases q:j=F
 ·subst q
  rw [hF] at e;cases e
  rw [Store.at_put (Nat.lt_of_lt_of_le (Store.at_lt hF) hl),if_pos rfl]
 ·exact at_put_ne q (g.2 j y hj hx (at_gone_ne q e))
theorem Kept.frame (h:Kept S U U')(hS:Srt U S)(hj:U.at j=some o)(ho:autoParam (bI o=true) auR)(hx:autoParam (isX o=false) auR):U'.at j=some o:=h.at hj (λq=>hS.out hj ho q.places) hx
theorem TCall.srt {c:Cfg}{P:SP}{E:AEnv}{X:XP}{f:AVal}{args:List AVal}{kw:List (Str×AVal)}{Q:AVal->Store->Prop}{m:List (Str×AVal)}{R:AVal->Sr->Prop}(hS:Srt U S)(hF:U.at E.frame=some (.frame m))
  (h:Srt (U.gone E.frame) S->TC c P f args kw (λa U'=>∃S',R a S'/\Srt U' S'/\Kept S (U.gone E.frame) U'/\S.Step S' U.length) noX (U.gone E.frame))
  (q:∀a S' τ,R a S'->Srt τ S'->Kept S U τ->S.Step S' U.length->Q a τ):TCall c P E f args kw Q X U:=by
 have ho:=hS.out hF rfl
 refine TCall.of hF ((h (hS.gone ho)).mono ?_ λω ω x=>x.elim)
 rintro a U' _ ⟨S',r,hS',hK,st⟩
 refine q a S' _ r (hS'.put λhp=>?_) (hK.back hF) st
 rcases st.places _ hp with h | h
 ·exact ho h
 ·have:=Store.at_lt hF;omega
noncomputable def aH (ns:List Nd)(k:Str)(f:Nd->Nd):List Nd:=ns.map λy=>if y.k=k then f y else y
noncomputable def Nd.setNp (v:Int)(x:Nd):Nd:={x with np:=v}
noncomputable def Nd.push (a:Str)(x:Nd):Nd:={x with su:=x.su++[a]}
theorem bg (h:(ns.map (·.k)).Nodup)(hx:x∈ns)(hy:y∈ns)(e:x.k=y.k):x=y:=by
 induction ns with
 | nil=>cases hx
 | cons a l ih=>
  rw [List.map_cons,List.nodup_cons] at h
  rcases List.mem_cons.mp hx with rfl | hx' <;> rcases List.mem_cons.mp hy with rfl | hy'
  ·rfl
  ·exact absurd (by rw [e];exact List.mem_map_of_mem (f:=λx:Nd=>x.k) hy') h.1
  ·exact absurd (by have:=List.mem_map_of_mem (f:=λx:Nd=>x.k) hx';rw [e] at this;exact this) h.1
  ·exact ih h.2 hx' hy'
theorem nodup_l (h:(ns.map (·.l)).Nodup)(hx:x∈ns)(hy:y∈ns)(e:x.l=y.l):x=y:=by
 induction ns with
 | nil=>cases hx
 | cons a l ih=>
  rw [List.map_cons,List.nodup_cons] at h
  rcases List.mem_cons.mp hx with rfl | hx' <;> rcases List.mem_cons.mp hy with rfl | hy'
  ·rfl
  ·exact absurd (by rw [e];exact List.mem_map_of_mem (f:=λx:Nd=>x.l) hy') h.1
  ·exact absurd (by have:=List.mem_map_of_mem (f:=λx:Nd=>x.l) hx';rw [e] at this;exact this) h.1
  ·exact ih h.2 hx' hy'
theorem mem_updN :y∈aH ns k f↔∃z∈ns,y=if z.k=k then f z else z:=by
 unfold aH
 rw [List.mem_map]
 exact ⟨λ⟨z,h,e⟩=>⟨z,h,e.symm⟩,λ⟨z,h,e⟩=>⟨z,h,e.symm⟩⟩
theorem cr {β:Type}(g:Nd->β)(h:∀x,g (f x)=g x):(aH ns k f).map g=ns.map g:=by
 unfold aH
 rw [List.map_map]
 refine List.map_congr_left λx ω=>?_
 show g (if x.k=k then f x else x)=g x
 split
 ·exact h x
 ·rfl
theorem mO (h1:∀x,(f x).k=x.k)(h2:∀x,(f x).i=x.i):n2i (aH ns k f)=n2i ns:=by
 unfold n2i
 exact cr (λx=>(x.k,AVal.loc x.i)) λx=>by rw [h1,h2]
theorem Srt.i_ne (h:Srt U S)(hx:x∈S.ns)(hy:y∈S.ns)(hk:x.k≠y.k):x.i≠y.i:=λe=>by
 have:=h.i x hx
 rw [e,h.i y hy] at this
 unfold Nd.slots at this
 injection this with this;injection this with _ _ this;injection this with this _;injection this with this;injection this with this
 exact hk this.symm
theorem Srt.setNp (h:Srt U S){x:Nd}(hx:x∈S.ns)(v:Int):Srt (U.put x.i (x.setNp v).slots) {S with ns:=aH S.ns x.k (Nd.setNp v)}:=by
 have hxi:=h.i x hx
 have kp:∀{j o},U.at j=some o->o≠x.slots->(U.put x.i (x.setNp v).slots).at j=some o:=λhj hn=>at_put_kind hj hxi hn
 refine ⟨kp h.s (by intro e;cases e),kp h.d (by intro e;cases e),?_,λy hy=>?_,λy hy=>?_,λy hy=>?_,λp hp=>kp (h.r p hp) (by intro e;cases e),?_,?_,λp hp y hy=>?_⟩
 ·show _=some (dj S.ep (n2i (aH S.ns x.k (Nd.setNp v))))
  rw [mO (f:=Nd.setNp v) (λω=>rfl) (λω=>rfl)]
  exact kp h.m (by unfold dj;cases S.ep <;> (intro e;cases e))
 ·obtain ⟨z,hz,rfl⟩:=mem_updN.mp hy
  by_cases e:z.k=x.k
  ·cases bg h.ks hz hx e
   rw [if_pos rfl]
   exact at_put_eq hxi
  ·rw [if_neg e]
   exact at_put_ne (h.i_ne hz hx e) (h.i z hz)
 ·obtain ⟨z,hz,rfl⟩:=mem_updN.mp hy
  split <;> exact kp (h.l z hz) (by intro e;cases e)
 ·obtain ⟨z,hz,rfl⟩:=mem_updN.mp hy
  split <;> exact kp (h.nd z hz) (by intro e;cases e)
 ·show ((aH S.ns x.k (Nd.setNp v)).map (·.k)).Nodup
  rw [cr (f:=Nd.setNp v) _ λω=>rfl];exact h.ks
 ·show ((aH S.ns x.k (Nd.setNp v)).map (·.l)).Nodup
  rw [cr (f:=Nd.setNp v) _ λω=>rfl];exact h.ls
 ·obtain ⟨z,hz,rfl⟩:=mem_updN.mp hy
  split <;> exact h.rl p hp z hz
theorem Srt.push (h:Srt U S){x:Nd}(hx:x∈S.ns)(a:Str):Srt (U.put x.l (.list ((x.su++[a]).map .str))) {S with ns:=aH S.ns x.k (Nd.push a)}:=by
 have hxl:=h.l x hx
 have kp:∀{j o},U.at j=some o->o≠.list (x.su.map .str)->(U.put x.l (.list ((x.su++[a]).map .str))).at j=some o:=λhj hn=>at_put_kind hj hxl hn
 refine ⟨kp h.s (by intro e;cases e),kp h.d (by intro e;cases e),?_,λy hy=>?_,λy hy=>?_,λy hy=>?_,λp hp=>at_put_ne (h.rl p hp x hx).symm (h.r p hp),?_,?_,λp hp y hy=>?_⟩
 ·show _=some (dj S.ep (n2i (aH S.ns x.k (Nd.push a))))
  rw [mO (f:=Nd.push a) (λω=>rfl) (λω=>rfl)]
  exact kp h.m (by unfold dj;cases S.ep <;> (intro e;cases e))
 ·obtain ⟨z,hz,rfl⟩:=mem_updN.mp hy
  split <;> exact kp (h.i z hz) (by intro e;cases e)
 ·obtain ⟨z,hz,rfl⟩:=mem_updN.mp hy
  by_cases e:z.k=x.k
  ·cases bg h.ks hz hx e
   rw [if_pos rfl]
   exact at_put_eq hxl
  ·rw [if_neg e]
   exact at_put_ne (λq=>e (congrArg _ (nodup_l h.ls hz hx q))) (h.l z hz)
 ·obtain ⟨z,hz,rfl⟩:=mem_updN.mp hy
  split <;> exact kp (h.nd z hz) (by intro e;cases e)
 ·show ((aH S.ns x.k (Nd.push a)).map (·.k)).Nodup
  rw [cr (f:=Nd.push a) _ λω=>rfl];exact h.ks
 ·show ((aH S.ns x.k (Nd.push a)).map (·.l)).Nodup
  rw [cr (f:=Nd.push a) _ λω=>rfl];exact h.ls
 ·obtain ⟨z,hz,rfl⟩:=mem_updN.mp hy
  split <;> exact h.rl p hp z hz
theorem Srt.setD (h:Srt U S)(rdy:Option (Nat×List Str))(po nf:Int)(hr:∀p,rdy=some p->U.at p.1=some (.list (p.2.map .str))/\∀x∈S.ns,x.l≠p.1):Srt (U.put S.d (.idict {S with rdy:=rdy,po:=po,nf:=nf}.attrs)) {S with rdy:=rdy,po:=po,nf:=nf}:=by
 have kp:∀{j o},U.at j=some o->o≠.idict S.attrs->(U.put S.d (.idict {S with rdy:=rdy,po:=po,nf:=nf}.attrs)).at j=some o:=λhj hn=>at_put_kind hj h.d hn
 refine ⟨kp h.s (by intro e;cases e),at_put_eq h.d,kp h.m (by unfold dj;cases S.ep <;> (intro e;cases e)),λy hy=>kp (h.i y hy) (by intro e;cases e),λy hy=>kp (h.l y hy) (by intro e;cases e),λy hy=>kp (h.nd y hy) (by intro e;cases e),λp hp=>kp (hr p hp).1 (by intro e;cases e),h.ks,h.ls,λp hp=>(hr p hp).2⟩
theorem Srt.setR (h:Srt U S){l':List Str}(hp:S.rdy=some (p,l)):Srt (U.put p (.list (l'.map .str))) {S with rdy:=some (p,l')}:=by
 have hr:=h.r _ hp
 have kp:∀{j o},U.at j=some o->o≠.list (l.map .str)->(U.put p (.list (l'.map .str))).at j=some o:=λhj hn=>at_put_kind hj hr hn
 refine ⟨kp h.s (by intro e;cases e),?_,kp h.m (by unfold dj;cases S.ep <;> (intro e;cases e)),λy hy=>kp (h.i y hy) (by intro e;cases e),λy hy=>at_put_ne (h.rl _ hp y hy) (h.l y hy),λy hy=>kp (h.nd y hy) (by intro e;cases e),λq hq=>?_,h.ks,h.ls,λq hq=>?_⟩
 ·have:({S with rdy:=some (p,l')}:Sr).attrs=S.attrs:=by unfold Sr.attrs;rw [hp];rfl
  rw [this]
  exact kp h.d (by intro e;cases e)
 ·cases hq;exact at_put_eq hr
 ·cases hq;exact h.rl (p,l) hp
theorem Srt.newNd (h:Srt U S)(hep:S.ep=none)(hi:U.at x.i=some x.slots)(hl:U.at x.l=some (.list (x.su.map .str)))(hd:U.at x.d=some (.idict []))(hk:∀y∈S.ns,y.k≠x.k)(hll:∀y∈S.ns,y.l≠x.l)(hrl:∀p,S.rdy=some p->x.l≠p.1) :
  Srt (U.put S.m (.dict (n2i (S.ns++[x])))) {S with ns:=S.ns++[x]}:=by
 have hm:=h.m
 rw [hep] at hm
 have kp:∀{j o},U.at j=some o->o≠.dict (n2i S.ns)->(U.put S.m (.dict (n2i (S.ns++[x])))).at j=some o:=λhj hn=>at_put_kind hj hm hn
 have mem:∀{y},y∈S.ns++[x]->y∈S.ns∨y=x:=λh=>by simpa using h
 refine ⟨kp h.s (by intro e;cases e),kp h.d (by intro e;cases e),?_,λy hy=>?_,λy hy=>?_,λy hy=>?_,λp hp=>kp (h.r p hp) (by intro e;cases e),?_,?_,λp hp y hy=>?_⟩
 ·show _=some (dj S.ep _)
  rw [hep];exact at_put_eq hm
 ·rcases mem hy with hy | rfl
  ·exact kp (h.i y hy) (by intro e;cases e)
  ·exact kp hi (by intro e;cases e)
 ·rcases mem hy with hy | rfl
  ·exact kp (h.l y hy) (by intro e;cases e)
  ·exact kp hl (by intro e;cases e)
 ·rcases mem hy with hy | rfl
  ·exact kp (h.nd y hy) (by intro e;cases e)
  ·exact kp hd (by intro e;cases e)
 ·show ((S.ns++[x]).map (·.k)).Nodup
  rw [List.map_append,List.nodup_append]
  refine ⟨h.ks,by simp,?_⟩
  intro a ha b hb
  obtain ⟨y,hy,rfl⟩:=List.mem_map.mp ha
  simp at hb;subst hb
  exact hk y hy
 ·show ((S.ns++[x]).map (·.l)).Nodup
  rw [List.map_append,List.nodup_append]
  refine ⟨h.ls,by simp,?_⟩
  intro a ha b hb
  obtain ⟨y,hy,rfl⟩:=List.mem_map.mp ha
  simp at hb;subst hb
  exact hll y hy
 ·rcases mem hy with hy | rfl
  ·exact h.rl p hp y hy
  ·exact hrl p hp
theorem nE (h1:n<=x.i)(h2:n<=x.l)(h3:n<=x.d):S.Step {S with ns:=S.ns++[x]} n:=by
 refine ⟨λj hj=>?_,λj hj=>?_⟩
 ·rcases hj with h | h | ⟨y,hy,h⟩ | h
  ·exact .inl (.inl h)
  ·exact .inl (.inr (.inl h))
  ·rcases List.mem_append.mp hy with hy | hy
   ·exact .inl (.inr (.inr (.inl ⟨y,hy,h⟩)))
   ·simp at hy;subst hy
    rcases h with rfl | rfl
    ·exact .inr h1
    ·exact .inr h2
  ·exact .inl (.inr (.inr (.inr h)))
 ·rcases hj with h | h | h | ⟨y,hy,h⟩ | h
  ·exact .inl (.inl h)
  ·exact .inl (.inr (.inl h))
  ·exact .inl (.inr (.inr (.inl h)))
  ·rcases List.mem_append.mp hy with hy | hy
   ·exact .inl (.inr (.inr (.inr (.inl ⟨y,hy,h⟩))))
   ·simp at hy;subst hy
    rcases h with rfl | rfl | rfl
    ·exact .inr h1
    ·exact .inr h2
    ·exact .inr h3
  ·exact .inl (.inr (.inr (.inr (.inr h))))
theorem jT (h1:∀x,(f x).i=x.i)(h2:∀x,(f x).l=x.l)(h3:∀x,(f x).d=x.d):S.Step {S with ns:=aH S.ns k f} n:=by
 have key:∀{y},y∈aH S.ns k f->∃z∈S.ns,y.i=z.i/\y.l=z.l/\y.d=z.d:=by
  intro y hy
  obtain ⟨z,hz,rfl⟩:=mem_updN.mp hy
  refine ⟨z,hz,?_⟩
  split
  ·exact ⟨h1 z,h2 z,h3 z⟩
  ·exact ⟨rfl,rfl,rfl⟩
 refine ⟨λj hj=>.inl ?_,λj hj=>.inl ?_⟩
 ·rcases hj with h | h | ⟨y,hy,h⟩ | h
  ·exact .inl h
  ·exact .inr (.inl h)
  ·obtain ⟨z,hz,e1,e2,e3⟩:=key hy
   exact .inr (.inr (.inl ⟨z,hz,by rw [←e1,←e2];exact h⟩))
  ·exact .inr (.inr (.inr h))
 ·rcases hj with h | h | h | ⟨y,hy,h⟩ | h
  ·exact .inl h
  ·exact .inr (.inl h)
  ·exact .inr (.inr (.inl h))
  ·obtain ⟨z,hz,e1,e2,e3⟩:=key hy
   exact .inr (.inr (.inr (.inl ⟨z,hz,by rw [←e1,←e2,←e3];exact h⟩)))
  ·exact .inr (.inr (.inr (.inr h)))
theorem fz {rdy:Option (Nat×List Str)}{ep:Option Nat}(h:rdy.map (·.1)=S.rdy.map (·.1)):S.Step {S with rdy:=rdy,po:=po,nf:=nf,ep:=ep} n:=by
 have key:∀{j:Nat},(∃p,rdy=some p/\j=p.1)->∃p,S.rdy=some p/\j=p.1:=by
  rintro j ⟨p,rfl,rfl⟩
  cases hr:S.rdy with
  | none=>rw [hr] at h;cases h
  | some q=>rw [hr] at h;exact ⟨q,rfl,by simpa using h⟩
 refine ⟨λj hj=>.inl ?_,λj hj=>.inl ?_⟩
 ·rcases hj with h | h | h | h
  ·exact .inl h
  ·exact .inr (.inl h)
  ·exact .inr (.inr (.inl h))
  ·exact .inr (.inr (.inr (key h)))
 ·rcases hj with h | h | h | h | h
  ·exact .inl h
  ·exact .inr (.inl h)
  ·exact .inr (.inr (.inl h))
  ·exact .inr (.inr (.inr (.inl h)))
  ·exact .inr (.inr (.inr (.inr (key h))))
theorem nD (hp:n<=p):S.Step {S with rdy:=some (p,l),po:=po,nf:=nf} n:=by
 refine ⟨λj hj=>?_,λj hj=>?_⟩
 ·rcases hj with h | h | h | ⟨q,hq,h⟩
  ·exact .inl (.inl h)
  ·exact .inl (.inr (.inl h))
  ·exact .inl (.inr (.inr (.inl h)))
  ·cases hq;subst h;exact .inr hp
 ·rcases hj with h | h | h | h | ⟨q,hq,h⟩
  ·exact .inl (.inl h)
  ·exact .inl (.inr (.inl h))
  ·exact .inl (.inr (.inr (.inl h)))
  ·exact .inl (.inr (.inr (.inr (.inl h))))
  ·cases hq;subst h;exact .inr hp
theorem Srt.setEp (h:Srt U S)(e:Option Nat):Srt (U.put S.m (dj e (n2i S.ns))) {S with ep:=e}:=by
 have kp:∀{j o},U.at j=some o->o≠dj S.ep (n2i S.ns)->(U.put S.m (dj e (n2i S.ns))).at j=some o:=λhj hn=>at_put_kind hj h.m hn
 have dn:∀{o},bI o=false->(∀es,o≠.dict es)->(∀es k,o≠.dictE es k)->o≠dj S.ep (n2i S.ns):=λω h1 h2=>by unfold dj;cases S.ep with | none=>exact h1 _ | some k=>exact h2 _ _
 refine ⟨kp h.s (dn rfl (by intro _ e;cases e) (by intro _ _ e;cases e)),kp h.d (dn rfl (by intro _ e;cases e) (by intro _ _ e;cases e)),at_put_eq h.m,λy hy=>kp (h.i y hy) (dn rfl (by intro _ e;cases e) (by intro _ _ e;cases e)),λy hy=>kp (h.l y hy) (dn rfl (by intro _ e;cases e) (by intro _ _ e;cases e)),λy hy=>kp (h.nd y hy) (dn rfl (by intro _ e;cases e) (by intro _ _ e;cases e)),λp hp=>kp (h.r p hp) (dn rfl (by intro _ e;cases e) (by intro _ _ e;cases e)),h.ks,h.ls,h.rl⟩
noncomputable def bx (ns:List Nd)(k:Str):Option Nd:=ns.find? λx=>x.k == k
theorem dx (ns:List Nd)(k:Str):ae k (n2i ns)=(bx ns k).map λx=>.loc x.i:=by
 induction ns with
 | nil=>rfl
 | cons x l ih=>
  unfold bx n2i at ih ⊢
  rw [List.map_cons,List.find?_cons]
  by_cases h:x.k=k
  ·simp [ae,h]
  ·have:(x.k == k)=false:=by simpa using h
   rw [this]
   simp only [ae,h,if_false]
   exact ih
theorem cB (h:bx ns k=some x):x∈ns/\x.k=k:=⟨List.mem_of_find?_eq_some h,by have:=List.find?_some h;simpa using this⟩
theorem fu (h:bx ns k=none):∀y∈ns,y.k≠k:=λy hy e=>by
 have:=List.find?_eq_none.mp h y hy
 simp [e] at this
noncomputable def ax (ns:List Nd):List (Str×Int×List Str):=ns.map λx=>(x.k,x.np,x.su)
end
end
section
theorem TK.mono {c:Cfg}{P:SP}{U:Store}{X X':XP}{f:AVal}{args:List AVal}{kw:List (Str×AVal)}{Q Q':AVal->Store->Prop}(h:TK c P f args kw Q X U)(k:∀a U',Q a U'->Q' a U')(kx:∀j U',X j U'->X' j U'):TK c P f args kw Q' X' U:=
 λκ V s vf vs ks ok hfr st rf ra rk=>codeAny_mono (h κ V s vf vs ks ok hfr st rf ra rk) λr s' hr=>by
  unfold callR at hr ⊢
  rcases r with e | (v | _ | _ | _)
  ·obtain ⟨V',U',h1,h2,h3,j,h4,h5,h6⟩:=hr
   exact ⟨V',U',h1,h2,h3,j,h4,h5,kx _ _ h6⟩
  all_goals first
   | exact hr
   | (obtain ⟨V',U',h1,h2,h3,a,h4,h5⟩:=hr;exact ⟨V',U',h1,h2,h3,a,h4,k _ _ h5⟩)
section
variable {c:Cfg}{P:SP}{E:AEnv}{U:Store}{X:XP}
variable {i n:Nat}{l:List AVal}{U':Store}{a b:Int}
theorem EAt_append (hi:U.at i=some (.list l))(hn:U.length=n)(hs:U++[some (AObj.bmeth "builtin_function_or_method" "list.append" (.loc i))]=U'):EAt c P U (.loc i) "append" (.loc n) U':=λω ω q=>TAttr_append' hi (New.mk hn hs q)
theorem EAt_next {l j:Nat}(hi:U.at i=some (.iterL l j))(hn:U.length=n)(hs:U++[some (AObj.bmeth "method-wrapper" "list_iterator.__next__" (.loc i))]=U'):EAt c P U (.loc i) "__next__" (.loc n) U':=λω ω q=>py hi (New.mk hn hs q)
theorem EB_iaddi :EB2 c P (inplaceOp .Add) U (.int a) (.int b) (.int (a+b)) U:=λω ω q=>r7 q
theorem EB_isubi :EB2 c P (inplaceOp .Sub) U (.int a) (.int b) (.int (a - b)) U:=λω ω q=>rX q
theorem ECl_iterl (hi:U.at i=some (.list l))(hn:U.length=n)(hs:U++[some (AObj.iterL i 0)]=U'):ECl c P E U (.top (.builtin "iter")) [.loc i] [] (.loc n) U':=λω ω q=>TCall.op (op_iterList' hi (New.mk hn hs q))
theorem ECl_object (hn:U.length=n)(hs:U++[some AObj.object]=U'):ECl c P E U (.top (.type "object")) [] [] (.loc n) U':=λω ω q=>TCall.op (op_object' (New.mk hn hs q))
theorem ECl_set0 (hn:U.length=n)(hs:U++[some (AObj.set [])]=U'):ECl c P E U (.top (.type "set")) [] [] (.loc n) U':=λω ω q=>TCall.op (op_set0' (New.mk hn hs q))
end
theorem TCall.grows {c:Cfg}{P:SP}{E:AEnv}{X:XP}{U:Store}{f:AVal}{args:List AVal}{kw:List (Str×AVal)}{Q:AVal->Store->Prop}{m:List (Str×AVal)}{R:AVal->Store->Prop}(hF:U.at E.frame=some (.frame m))
  (h:TC c P f args kw (λa U'=>R a U'/\Grow (U.gone E.frame) U') noX (U.gone E.frame))
  (q:∀a U' τ,R a U'->(∀j x,j≠E.frame->U'.at j=some x->τ.at j=some x)->Grow U τ->Q a τ):TCall c P E f args kw Q X U:=by
 refine TCall.of hF (h.mono ?_ λω ω x=>x.elim)
 rintro a U' _ ⟨r,g⟩
 exact q a U' _ r (λj x hn e=>at_put_ne hn e) (g.back hF)
abbrev NdQ (U:Store)(k:Str)(a:AVal)(U':Store):Prop:=∃i l d,a=.loc i/\U'.at i=some (Nd.slots ⟨k,0,[],i,l,d⟩)/\U'.at l=some (.list [])/\U'.at d=some (.idict [])/\Grow U U'/\U.length<=i/\U.length<=l/\U.length<=d
abbrev NdR (N:Nat)(k:Str)(a:AVal)(U':Store):Prop:=∃i l d,a=.loc i/\U'.at i=some (Nd.slots ⟨k,0,[],i,l,d⟩)/\U'.at l=some (.list [])/\U'.at d=some (.idict [])/\N<i/\N<l/\N<d
abbrev GiQ (U:Store)(S:Sr)(k:Str)(a:AVal)(U':Store):Prop:=∃x S',a=.loc x.i/\x∈S'.ns/\x.k=k/\Srt U' S'/\Kept S U U'/\S.Step S' U.length/\S'={S with ns:=if (bx S.ns k).isSome then S.ns else S.ns++[x]}/\(bx S.ns k=none->x.np=0/\x.su=[])
theorem qD {P:SP}(hd:2<P.d)(U:Store)(k:Str){X:XP}:TK C0 P (.top (.ref 57)) [.str k] [] (NdQ U k) X U:=by
 obtain ⟨N,hN⟩:∃N,U.length=N:=⟨_,rfl⟩
 refine uK (ci:=ci57) rfl (by omega) ?_
 haveI e:U++[some (AObj.idict [])]++[some (ee ci57 57 U.length)]=U++[some (.idict []),some (.slots 57 N [])]:=by rw [hN,List.append_assoc];rfl
 rw [e,hN]
 refine tk53 (N:=N+2) (by rw [List.length_append,hN];rfl) (SP.down_d hd |> λh=>by omega) ?_
 simp only [List.append_assoc,List.cons_append,List.nil_append]
 refine TSs_cons' (x:=?_) ?_
 repeat k_lt zT
 k_lt zS
 repeat k_lt zT
 k_lt zS
 repeat k_lt zT
 refine ⟨rfl,N+1,N+3,N,rfl,by k_lt zat,by k_lt zat,by k_lt zat,Grow.app _ _,by omega,by omega,by omega⟩
theorem mw {ns:List Nd}{x:Nd}(h:∀y∈ns,y.k≠x.k):bY (n2i ns) x.k (.loc x.i)=n2i (ns++[x]):=by
 haveI:((n2i ns).any λe=>decide (e.1=x.k))=false:=by
  rw [List.any_eq_false]
  intro e he
  obtain ⟨y,hy,rfl⟩:=List.mem_map.mp he
  simpa using h y hy
 unfold bY
 rw [if_neg (by rw [this];exact Bool.false_ne_true)]
 unfold n2i
 rw [List.map_append];rfl
theorem jd {P:SP}(hd:4<P.d)(U:Store)(S:Sr)(hS:Srt U S)(hep:S.ep=none)(hlen:S.ns.length<=1000)(k:Str){X:XP}:TK C0 P (.top (.ref 97)) [.loc S.s,.str k] [] (GiQ U S k) X U:=by
 obtain ⟨N,hN⟩:∃N,U.length=N:=⟨_,rfl⟩
 haveI hs:=hS.s
 haveI hD:=hS.d
 haveI hm:=hS.m
 rw [hep] at hm
 change U.at S.m=some (.dict (n2i S.ns)) at hm
 refine tk97 hN (by omega) ?_
 refine TSs_cons' (x:=?_) ?_
 repeat k_lt zT
 rw [dx S.ns k]
 refine ⟨_,_,_,by k_lt ua,by with_unfolding_all k_lt zputm,by with_unfolding_all k_lt zput,?_⟩
 cases hg:bx S.ns k with
 | some x=>
  dsimp only [Option.map,Option.getD]
  k_lt zR
  obtain ⟨hx,hk⟩:=cB hg
  haveI hF:¬S.places N:=λh=>by haveI:=hS.lt h;omega
  refine ⟨x,S,rfl,hx,hk,?_,?_,Sr.Step.refl,?_,λe=>by rw [hg] at e;cases e⟩
  ·exact hS.app
  ·exact Kept.of (Grow.app _ _)
  ·rw [hg];rfl
 | none=>
  dsimp only [Option.map,Option.getD]
  k_lt zR
  refine TCall.grows (R:=NdR N k) (by k_lt ua) (TC.of ((qD (P:=P.down) (by show 2<P.d - 1;omega) _ k).mono ?_ λω ω x=>x)) ?_
  ·rintro a U' ⟨i,l,d,rfl,hi,hl,hd',hG,h1,h2,h3⟩
   haveI e:((U++[some (AObj.frame [("self",AVal.loc S.s),("node",AVal.str k),("result",AVal.none)])]).gone (qd N).frame).length=N+1:=by rw [Store.gone_length,List.length_append,hN];rfl
   rw [e] at h1 h2 h3
   exact ⟨⟨i,l,d,rfl,hi,hl,hd',by omega,by omega,by omega⟩,hG⟩
  rintro a U' τ ⟨i,l,d,rfl,hi,hl,hd',h1,h2,h3⟩ hk hG
  haveI hi':=hk _ _ (by show i≠N;omega) hi
  haveI hl':=hk _ _ (by show l≠N;omega) hl
  haveI hd'':=hk _ _ (by show d≠N;omega) hd'
  haveI hSτ:Srt τ S:=hS.app.grow hG
  haveI hF:τ.at N=some (.frame [("self",AVal.loc S.s),("node",AVal.str k),("result",AVal.none)]):=hG.at (by k_lt zat)
  haveI hs:=hSτ.s
  haveI hD:=hSτ.d
  haveI hm:=hSτ.m
  rw [hep] at hm
  change τ.at S.m=some (.dict (n2i S.ns)) at hm
  haveI hll:(n2i S.ns).length<=lenLine:=by unfold n2i;rw [List.length_map];exact Nat.le_trans hlen (by decide)
  k_lt zR
  haveI hN':N<=i/\N<=l/\N<=d:=⟨by omega,by omega,by omega⟩
  refine ⟨⟨k,0,[],i,l,d⟩,{S with ns:=S.ns++[⟨k,0,[],i,l,d⟩]},rfl,by simp,rfl,?_,?_,nE (by rw [hN];exact hN'.1) (by rw [hN];exact hN'.2.1) (by rw [hN];exact hN'.2.2),by rw [hg];rfl,λω=>⟨rfl,rfl⟩⟩
  ·rw [mw (x:=⟨k,0,[],i,l,d⟩) (fu hg)]
   refine (hSτ.newNd hep hi' hl' hd'' (fu hg) (λy hy=>?_) λp hp=>?_).put ?_
   ·haveI:=hS.lt (j:=y.l) (.inr (.inr (.inr (.inl ⟨y,hy,.inr (.inl rfl)⟩))))
    show y.l≠l;omega
   ·haveI:=hS.lt (j:=p.1) (.inr (.inr (.inr (.inr ⟨p,hp,rfl⟩))))
    show l≠p.1;omega
   ·intro hp
    rcases (nE (S:=S) (x:=⟨k,0,[],i,l,d⟩) (n:=N+1) (by show N+1<=i;omega) (by show N+1<=l;omega) (by show N+1<=d;omega)).places _ hp with h | h
    ·haveI:=hS.lt h;omega
    ·omega
  ·exact ((Kept.of ((Grow.app _ _).trans hG)).put (.inl (.inr (.inl rfl)))).put (.inr (by omega))
end
section
def Pers (U U':Store):Prop:=U.length<=U'.length/\∀i x,U.at i=some x->isX x=false->U'.at i=some x
theorem Pers.refl {U:Store}:Pers U U:=⟨Nat.le_refl _,λω ω h ω=>h⟩
theorem Pers.trans {U U' U'':Store}(h:Pers U U')(h':Pers U' U''):Pers U U'':=⟨Nat.le_trans h.1 h'.1,λi x e q=>h'.2 i x (h.2 i x e q) q⟩
theorem Pers.of {U U':Store}(h:Grow U U'):Pers U U':=⟨h.1,λi x e ω=>h.at e⟩
theorem Pers.at {U U':Store}(h:Pers U U'){i:Nat}{x:AObj}(e:U.at i=some x)(q:autoParam (isX x=false) auR):U'.at i=some x:=h.2 i x e q
theorem Pers.put {U U':Store}(h:Pers U U'){j:Nat}{x o:AObj}(e:U'.at j=some o)(q:isX o=true):Pers U (U'.put j x):=
 ⟨by simpa using h.1,λi y hi hx=>at_put_ne (by rintro rfl;haveI:=h.2 _ _ hi hx;rw [e] at this;cases this;rw [q] at hx;cases hx) (h.2 i y hi hx)⟩
theorem Pers.gone {U U':Store}(h:Pers U U'){j:Nat}{o:AObj}(e:U'.at j=some o)(q:isX o=true):Pers U (U'.gone j):=
 ⟨by simpa using h.1,λi y hi hx=>at_gone_ne (by rintro rfl;haveI:=h.2 _ _ hi hx;rw [e] at this;cases this;rw [q] at hx;cases hx) (h.2 i y hi hx)⟩
theorem Pers.putN {U U':Store}(h:Pers U U'){j:Nat}{x:AObj}(q:U.length<=j):Pers U (U'.put j x):=
 ⟨by simpa using h.1,λi y hi hx=>at_put_ne (by haveI:=Store.at_lt hi;omega) (h.2 i y hi hx)⟩
theorem Pers.goneN {U U':Store}(h:Pers U U'){j:Nat}(q:U.length<=j):Pers U (U'.gone j):=
 ⟨by simpa using h.1,λi y hi hx=>at_gone_ne (by haveI:=Store.at_lt hi;omega) (h.2 i y hi hx)⟩
theorem Pers.srt {U U':Store}{S:Sr}(h:Pers U U')(hS:Srt U S):Srt U' S:=hS.congr λj hj x e=>h.2 j x e (by
 obtain ⟨o,h1,h2⟩:=hS.at_place hj
 rw [e] at h1;cases h1
 cases x <;> first | rfl | cases h2)
def mi (U:Store)(j:Nat)(cls:Value)(fl:Option Nat):Prop:=∃t,U.at j=some (.exc cls (some t))/\U.at t=some (.tback fl)
def Raised (U:Store)(j:Nat)(cls:Value)(F:Option Nat):Prop:=U.at j=some (.exc cls none)∨mi U j cls none∨∃L,F=some L/\mi U j cls (some L)
theorem Raised.lt {U:Store}{j:Nat}{cls:Value}{F:Option Nat}(h:Raised U j cls F):j<U.length:=by
 rcases h with h | ⟨t,h,_⟩ | ⟨L,_,t,h,_⟩ <;> exact Store.at_lt h
theorem Raised.any {U:Store}{j:Nat}{cls:Value}{F:Option Nat}(h:Raised U j cls none):Raised U j cls F:=by
 rcases h with h | h | ⟨L,q,_⟩
 ·exact .inl h
 ·exact .inr (.inl h)
 ·cases q
def Hi (n:Nat)(U:Store)(j:Nat):Prop:=n<=j/\∀c t,U.at j=some (.exc c (some t))->n<=t
theorem lB {U:Store}{F j:Nat}{cls:Value}(h:Raised U j cls (some F)):∃U',fK U F j U'/\mi U' j cls (some F)/\Pers U U'/\∀n,n<=U.length->Hi n U j->Hi n U' j:=by
 rcases h with h | ⟨t,h,h'⟩ | ⟨L,q,t,h,h'⟩
 ·have hl:=Store.at_lt h
  refine ⟨dc U F j cls none,.bare h,⟨U.length,?_,?_⟩,?_⟩
  ·exact at_put_eq (at_app_l h)
  ·exact at_put_ne (by omega) (at_app_0 rfl)
  ·refine ⟨(Pers.of (Grow.app _ _)).put (at_app_l h) rfl,λn hn hh=>⟨hh.1,λc t e=>?_⟩⟩
   unfold dc at e
   first
    | (rw [at_put_eq (at_app_l h)] at e;cases e;exact hn)
    | (erw [at_put_eq (at_app_l h)] at e;cases e;exact hn)
 ·haveI hl:=Store.at_lt h
  have hne:j≠t:=gp h h' (by intro e;cases e)
  refine ⟨dc U F j cls (some t),.own h h',⟨U.length,?_,?_⟩,?_⟩
  ·exact at_put_eq (at_app_l (at_gone_ne hne h))
  ·exact at_put_ne (by omega) (at_app_0 (by simp [goneO]))
  ·refine ⟨?_,λn hn hh=>⟨hh.1,λc t e=>?_⟩⟩
   ·refine Pers.put (o:=.exc cls (some t)) (j:=j) ?_ (at_app_l (at_gone_ne hne h)) rfl
    exact (Pers.refl.gone h' rfl).trans (Pers.of (Grow.app _ _))
   ·unfold dc at e
    erw [at_put_eq (at_app_l (at_gone_ne hne h))] at e;cases e;exact hn
 ·cases q
  refine ⟨U,.here h h',⟨t,h,h'⟩,Pers.refl,λω ω hh=>hh⟩
theorem fw {U:Store}{j:Nat}{cls:Value}{fl:Option Nat}(fl':Option Nat)(h:mi U j cls fl):∃U',dv U j fl' U'/\mi U' j cls fl'/\Pers U U'/\∀n,Hi n U j->Hi n U' j:=by
 obtain ⟨t,h,h'⟩:=h
 have hne:j≠t:=gp h h' (by intro e;cases e)
 exact ⟨U.put t (.tback fl'),⟨cls,t,fl,h,h',rfl⟩,⟨t,at_put_ne hne h,at_put_eq h'⟩,Pers.refl.put h' rfl,λn hh=>⟨hh.1,λc t' e=>hh.2 c t' (by rw [at_put_ne hne h] at e;rw [h];exact e)⟩⟩
theorem Hi.new {n j:Nat}{U:Store}{cls:Value}(h:U.at j=some (.exc cls none))(hn:n<=j):Hi n U j:=⟨hn,λc t e=>by rw [h] at e;cases e⟩
section
variable {c:Cfg}{P:SP}{E:AEnv}{U:Store}{X:XP}{j:Nat}{cls:Value}{m:List (Str×AVal)}
variable {Q:ai->Store->Prop}{t:Expr}{b0:Stmt}{suite:List Stmt}{pos:Pos}{rest:List ExceptHandler}{spec:Value}
theorem bX (hF:U.at E.frame=some (.frame m))(h:Raised U j cls (some E.frame))(q:∀U',Raised U' j cls none->(∀n,n<=U.length->Hi n U j->Hi n U' j)->Pers U U'->X j U'):aD E X j U:=by
 obtain ⟨U1,h1,h2,h3,h7⟩:=lB h
 obtain ⟨U2,h4,h5,h6,h8⟩:=fw none h2
 exact ⟨U2,m,⟨U1,h1,h4⟩,hF,q U2 (.inr (.inl h5)) (λn hn hh=>h8 n (h7 n hn hh)) (h3.trans h6)⟩
theorem vb (hF:U.at E.frame=some (.frame m))(h:Raised U j cls (some E.frame))(q:∀U',Raised U' j cls (some E.frame)->(∀n,n<=U.length->Hi n U j->Hi n U' j)->Pers U U'->X j U'):bN E X j U:=by
 obtain ⟨U1,h1,h2,h3,h7⟩:=lB h
 obtain ⟨U2,h4,h5,h6,h8⟩:=fw (some E.frame) h2
 exact ⟨U1,U2,m,h1,hF,h4,q U2 (.inr (.inr ⟨_,rfl,h5⟩)) (λn hn hh=>h8 n (h7 n hn hh)) (h3.trans h6)⟩
theorem lV {hs:List ExceptHandler}(hF:U.at E.frame=some (.frame m))(h:Raised U j cls (some E.frame))(q:∀U',mi U' j cls none->Pers U U'->et c P E j Q hs U'):TryX c P E hs Q j U:=by
 obtain ⟨U1,h1,h2,h3,_⟩:=lB h
 obtain ⟨U2,h4,h5,h6,_⟩:=fw none h2
 exact ⟨U1,U2,m,h1,hF,h4,q U2 h5 (h3.trans h6)⟩
theorem fX (hx:mi U j cls none)(hn:TE c P.held E t (λa U1=>a=.top spec/\U1=U) noX U)(hm:a8 c cls spec true)
  (q:∀U',mi U' j cls none->Pers U U'->TSs c P.held E (b0::suite) Q noX U'):et c P E j Q (.ExceptHandler (some t) none (b0::suite) pos::rest) U:=by
 obtain ⟨U2,h4,h5,h6,_⟩:=fw none hx
 obtain ⟨t,h1,h2⟩:=hx
 exact .yes hn h1 hm h4 (q U2 h5 h6)
theorem sf (hx:mi U j cls none)(hn:TE c P.held E t (λa U1=>a=.top spec/\U1=U) noX U)(hm:a8 c cls spec false)
  (q:et c P E j Q rest U):et c P E j Q (.ExceptHandler (some t) none (b0::suite) pos::rest) U:=by
 obtain ⟨t,h1,h2⟩:=hx
 exact .no hn h1 hm q
end
end
section
section
variable {c:Cfg}{P:SP}{E:AEnv}{U:Store}{X:XP}
variable {x:Str}{v:Value}
theorem nameA_blt (hd:a7 x=true)(hk:E.scope.kind=.function)(hl:E.scope.names.lookup x=some .globalImplicit)(hg:c.glob x=none)(ha:c.blt x=some (.top v)):a7 x=true/\E.scope.kind=.function/\kV c E x U (.top v):=⟨hd,hk,.blt hl hg ha⟩
theorem oC (hd:a7 x=true)(hk:E.scope.kind=.function)(hl:E.scope.names.lookup x=some .globalImplicit)(hg:c.glob x=some (.top v)):a7 x=true/\E.scope.kind=.function/\kV c E x U (.top v):=⟨hd,hk,.glob hl hg⟩
theorem TS_RaiseV {np cpos pos:Pos}{args:List Expr}{Q:ai->Store->Prop}(hfree:P.free=true)(hx:a7 x=true/\E.scope.kind=.function/\kV C0 E x U (.top (.type "ValueError")))
  (hplain:∀env,(backTo cpos (starEach args env)).any (·.1)=false)
  (h:bM C0 P E cpos args [] (λas ks U1=>ks=[]/\as.length<=lenLine/\X U1.length (U1++[some (.exc (.type "ValueError") none)])) X U):TS C0 P E (.Raise (some (.Call (.Name x np) args [] cpos)) none pos) Q X U:=ny hfree raise_V hx hplain h
end
theorem je {P:SP}(hd:0<P.d)(hf:P.free=true)(U:Store)(S:Sr)(hS:Srt U S){p:Nat×List Str}(hr:S.rdy=some p)(k:Str){Q:AVal->Store->Prop}{X:XP}(q:∀j U',Raised U' j (.type "ValueError") none->Hi U.length U' j->Srt U' S->Pers U U'->X j U'):TK C0 P (.top (.ref 104)) [.loc S.s,.str k] [] Q X U:=by
 obtain ⟨N,hN⟩:∃N,U.length=N:=⟨_,rfl⟩
 haveI hs:=hS.s
 haveI hD:=hS.d
 haveI hR:=hS.r p hr
 unfold Sr.attrs at hD
 rw [hr] at hD
 refine tk104 (preds:=[]) (by decide) hN hd ?_
 refine TSs_cons' (x:=?_) ?_
 k_lt zR
 k_lt zraiseV
 k_lt zR
 refine ⟨rfl,by decide,bX (m:=[("self",.loc S.s),("node",.str k),("predecessors",.loc N)]) (by k_lt ua) (.inl (at_app_0 rfl)) λU' hx hh hp=>?_⟩
 haveI hp':Pers U U':=(Pers.of ((Grow.app _ _).trans (Grow.app _ _))).trans hp
 exact q _ U' hx (hh _ (by simp) (Hi.new (at_app_0 rfl) (by simp))) (hp'.srt hS) hp'
noncomputable def bj (n:Int)(x:Nd):Nd:=x.setNp (x.np+n)
noncomputable def rz (C:List (Str×Int×List Str))(k:Str):Bool:=C.any λx=>x.1 == k
noncomputable def bR (C:List (Str×Int×List Str))(k:Str):List (Str×Int×List Str):=if rz C k then C else C++[(k,0,[])]
noncomputable def fc (C:List (Str×Int×List Str))(k:Str)(n:Int):List (Str×Int×List Str):=C.map λx=>if x.1=k then (x.1,x.2.1+n,x.2.2) else x
noncomputable def ez (C:List (Str×Int×List Str))(k a:Str):List (Str×Int×List Str):=C.map λx=>if x.1=k then (x.1,x.2.1,x.2.2++[a]) else x
noncomputable def ki (C:List (Str×Int×List Str))(k:Str)(preds:List Str):List (Str×Int×List Str):=preds.foldl (λC p=>ez (bR C p) p k) (fc (bR C k) k preds.length)
theorem rt {ns:List Nd}{k:Str}:rz (ax ns) k=(bx ns k).isSome:=by
 unfold rz ax bx
 rw [List.any_map]
 induction ns with
 | nil=>rfl
 | cons x l ih=>
  rw [List.any_cons,List.find?_cons,ih]
  show ((x.k == k)||_)=_
  cases x.k == k <;> rfl
theorem gY {ns:List Nd}{k:Str}{x:Nd}(hk:x.k=k)(h:bx ns k=none->x.np=0/\x.su=[]):ax (if (bx ns k).isSome then ns else ns++[x])=bR (ax ns) k:=by
 unfold bR
 rw [rt]
 cases e:bx ns k with
 | some y=>rfl
 | none=>
  obtain ⟨h1,h2⟩:=h e
  simp only [Option.isSome_none,Bool.false_eq_true,if_false]
  unfold ax
  rw [List.map_append]
  simp [hk,h1,h2]
theorem kN {ns:List Nd}{k:Str}{f:Nd->Nd}{g:Str×Int×List Str->Str×Int×List Str}(h:∀x,((f x).k,(f x).np,(f x).su)=g (x.k,x.np,x.su)):ax (aH ns k f)=(ax ns).map λx=>if x.1=k then g x else x:=by
 unfold ax aH
 rw [List.map_map,List.map_map]
 refine List.map_congr_left λx ω=>?_
 show _=if x.k=k then g (x.k,x.np,x.su) else (x.k,x.np,x.su)
 by_cases e:x.k=k
 ·rw [if_pos e,←h];simp [e]
 ·rw [if_neg e];simp [e]
theorem i7 {ns:List Nd}{k:Str}{f g:Nd->Nd}(h:∀x∈ns,x.k=k->f x=g x):aH ns k f=aH ns k g:=by
 unfold aH
 refine List.map_congr_left λx hx=>?_
 by_cases e:x.k=k
 ·rw [if_pos e,if_pos e,h x hx e]
 ·rw [if_neg e,if_neg e]
def suB (B:Nat)(C:List (Str×Int×List Str)):Prop:=∀x∈C,x.2.2.length<=B
theorem iQ {B:Nat}{C:List (Str×Int×List Str)}{k:Str}(h:suB B C):suB B (bR C k):=by
 unfold bR;split
 ·exact h
 ·intro x hx
  rcases List.mem_append.mp hx with hx | hx
  ·exact h x hx
  ·simp at hx;subst hx;exact Nat.zero_le _
theorem ms {B:Nat}{C:List (Str×Int×List Str)}{k:Str}{n:Int}(h:suB B C):suB B (fc C k n):=by
 intro x hx
 obtain ⟨y,hy,rfl⟩:=List.mem_map.mp hx
 split <;> exact h y hy
theorem sK {B:Nat}{C:List (Str×Int×List Str)}{k a:Str}(h:suB B C):suB (B+1) (ez C k a):=by
 intro x hx
 obtain ⟨y,hy,rfl⟩:=List.mem_map.mp hx
 haveI:=h y hy
 split
 ·simp;exact this
 ·omega
theorem jb {k:Str}:∀(l:List Str) {B:Nat} {C:List (Str×Int×List Str)},suB B C->suB (B+l.length) (l.foldl (λC p=>ez (bR C p) p k) C)
 | [],B,C,h=>h
 | p::l,B,C,h=>by
  haveI:=jb (k:=k) l (sK (k:=p) (a:=k) (iQ (k:=p) h))
  rw [List.length_cons]
  haveI e:B+(l.length+1)=B+1+l.length:=by omega
  rw [e];exact this
theorem suB_add {B:Nat}{C:List (Str×Int×List Str)}{k:Str}{l:List Str}(h:suB B C):suB (B+l.length) (ki C k l):=jb l (ms (iQ h))
theorem sL {B:Nat}{ns:List Nd}(h:suB B (ax ns)){x:Nd}(hx:x∈ns):x.su.length<=B:=h (x.k,x.np,x.su) (List.mem_map_of_mem (f:=λx:Nd=>(x.k,x.np,x.su)) hx)
structure nO (S S':Sr)(C:List (Str×Int×List Str)):Prop where
 s:S'.s=S.s
 d:S'.d=S.d
 m:S'.m=S.m
 ep:S'.ep=S.ep
 rdy:S'.rdy=S.rdy
 po:S'.po=S.po
 nf:S'.nf=S.nf
 core:ax S'.ns=C
abbrev AddQ (U:Store)(S:Sr)(k:Str)(preds:List Str)(a:AVal)(U':Store):Prop:=a=.none/\∃S',nO S S' (ki (ax S.ns) k preds)/\Srt U' S'/\Kept S U U'/\S.Step S' U.length
abbrev AddR (S:Sr)(k:Str)(a:AVal)(S':Sr):Prop:=∃x,a=.loc x.i/\x∈S'.ns/\x.k=k/\S'={S with ns:=if (bx S.ns k).isSome then S.ns else S.ns++[x]}/\(bx S.ns k=none->x.np=0/\x.su=[])
abbrev AddI (U:Store)(S:Sr)(k:Str)(preds:List Str)(N Z j:Nat)(H:Store):Prop:=∃S2,nO S S2 ((preds.take j).foldl (λC p=>ez (bR C p) p k) (fc (bR (ax S.ns) k) k preds.length))/\Srt H S2/\Kept S U H/\S.Step S2 N/\S2.ns.length<=S.ns.length+1+j/\FrHas H (N+1) [("self",.loc S.s),("node",.str k)]/\H.at N=some (.tuple (preds.map .str))/\Z<H.length
theorem sT {P:SP}(hd:6<P.d)(hf:P.free=true)(U:Store)(S:Sr)(hS:Srt U S)(hep:S.ep=none)(hr:S.rdy=none)(k:Str)(preds:List Str)(hp:preds.length<=7)(hlen:S.ns.length+preds.length<1000)(hB:suB 500 (ax S.ns)){X:XP} :
  TK C0 P (.top (.ref 104)) (.loc S.s::.str k::preds.map .str) [] (AddQ U S k preds) X U:=by
 obtain ⟨N,hN⟩:∃N,U.length=N:=⟨_,rfl⟩
 haveI hs:=hS.s
 haveI hD:=hS.d
 unfold Sr.attrs at hD
 rw [hr] at hD
 refine tk104 (preds:=preds.map .str) (by rw [List.length_map];exact hp) hN (by omega) ?_
 refine TSs_cons' (x:=?_) ?_
 k_lt zR
 haveI hS1:Srt (U++[some (AObj.tuple (preds.map .str)),some (AObj.frame [("self",AVal.loc S.s),("node",AVal.str k),("predecessors",AVal.loc N)])]) S:=hS.app
 refine TCall.srt (S:=S) (R:=AddR S k) hS1 (by k_lt ua) (λhS'=>TC.of ((jd (P:=P.down) (by show 4<P.d - 1;omega) _ S hS' hep (by omega) k).mono ?_ λω ω x=>x)) ?_
 ·rintro a U' ⟨x,S',h1,h2,h3,h4,h5,h6,h7,h8⟩
  rw [Store.gone_length] at h6
  exact ⟨S',⟨x,h1,h2,h3,h7,h8⟩,h4,h5,h6⟩
 rintro a S' τ ⟨x,rfl,hx,hxk,hS',hnew⟩ hSτ hK hst
 haveI hF:τ.at (N+1)=some (.frame [("self",.loc S.s),("node",.str k),("predecessors",.loc N)]):=hK.frame hS1 (by k_lt zat)
 haveI hT:τ.at N=some (.tuple (preds.map .str)):=hK.frame hS1 (by k_lt zat)
 haveI hxi:=hSτ.i x hx
 haveI hxd:=hSτ.nd x hx
 unfold Nd.slots at hxi
 k_lt zR
 haveI hFo:¬S'.places (N+1):=hSτ.out hF rfl
 haveI hS2:=(hSτ.put (o:=.frame [("self",.loc S.s),("node",.str k),("predecessors",.loc N),("nodeinfo",.loc x.i)]) hFo).setNp hx (x.np+(preds.map AVal.str).length)
 haveI hK2:Kept S U ((τ.put (N+1) (.frame [("self",.loc S.s),("node",.str k),("predecessors",.loc N),("nodeinfo",.loc x.i)])).put x.i (x.setNp (x.np+(preds.map AVal.str).length)).slots):=by
  refine ((Kept.trans (Kept.of (Grow.app _ _)) Sr.Step.refl hK).put (.inr (by omega))).put ?_
  rcases hst.foot x.i (.inr (.inr (.inl ⟨x,hx,.inl rfl⟩))) with h | h
  ·exact .inl h
  ·exact .inr (by rw [List.length_append] at h;omega)
 haveI hF2:FrHas ((τ.put (N+1) (.frame [("self",.loc S.s),("node",.str k),("predecessors",.loc N),("nodeinfo",.loc x.i)])).put x.i (x.setNp (x.np+(preds.map AVal.str).length)).slots) (N+1) [("self",.loc S.s),("node",.str k)]:=by k_lt uf
 haveI hF3:((τ.put (N+1) (.frame [("self",.loc S.s),("node",.str k),("predecessors",.loc N),("nodeinfo",.loc x.i)])).put x.i (x.setNp (x.np+(preds.map AVal.str).length)).slots).at (N+1)=some (.frame [("self",.loc S.s),("node",.str k),("predecessors",.loc N),("nodeinfo",.loc x.i)]):=by k_lt ua
 haveI hT2:((τ.put (N+1) (.frame [("self",.loc S.s),("node",.str k),("predecessors",.loc N),("nodeinfo",.loc x.i)])).put x.i (x.setNp (x.np+(preds.map AVal.str).length)).slots).at N=some (.tuple (preds.map .str)):=by k_lt ua
 haveI hst2:S.Step {S' with ns:=aH S'.ns x.k (Nd.setNp (x.np+(preds.map AVal.str).length))} N:=by
  refine Sr.Step.trans (n':=N) ?_ (jT (S:=S') (λω=>rfl) (λω=>rfl) λω=>rfl) (Nat.le_refl _)
  exact ⟨λj hj=>(hst.foot j hj).imp id λh=>by rw [List.length_append] at h;omega,λj hj=>(hst.places j hj).imp id λh=>by rw [List.length_append] at h;omega⟩
 haveI hlen':S'.ns.length<=S.ns.length+1:=by
  rw [hS'];dsimp only;split
  ·omega
  ·simp
 haveI hadd:nO S {S' with ns:=aH S'.ns x.k (Nd.setNp (x.np+(preds.map AVal.str).length))} (fc (bR (ax S.ns) k) k preds.length):=by
  subst hS'
  refine ⟨rfl,rfl,rfl,rfl,rfl,rfl,rfl,?_⟩
  dsimp only at hx ⊢
  rw [←gY hxk hnew]
  haveI e:=i7 (ns:=if (bx S.ns k).isSome then S.ns else S.ns++[x]) (k:=x.k) (f:=Nd.setNp (x.np+(preds.map AVal.str).length)) (g:=bj preds.length) (λy hy hyk=>by
   cases bg hSτ.ks hy hx hyk
   unfold bj;rw [List.length_map])
  rw [e,kN (f:=bj preds.length) (g:=λx=>(x.1,x.2.1+preds.length,x.2.2)) (λω=>rfl),hxk]
  rfl
 haveI hSl:({S' with ns:=aH S'.ns x.k (Nd.setNp (x.np+(preds.map AVal.str).length))}:Sr).ns.length<=S.ns.length+1:=by
  show (aH _ _ _).length<=_
  unfold aH;rw [List.length_map];exact hlen'
 generalize ({S' with ns:=aH S'.ns x.k (Nd.setNp (x.np+(preds.map AVal.str).length))}:Sr)=S1 at hS2 hst2 hadd hSl
 with_unfolding_all change TS C0 P.down (lM (N+1)) _ _ _ ((τ.put (N+1) (.frame [("self",.loc S.s),("node",.str k),("predecessors",.loc N),("nodeinfo",.loc x.i)])).put x.i (x.setNp (x.np+(preds.map AVal.str).length)).slots)
 with_unfolding_all generalize ((τ.put (N+1) (.frame [("self",.loc S.s),("node",.str k),("predecessors",.loc N),("nodeinfo",.loc x.i)])).put x.i (x.setNp (x.np+(preds.map AVal.str).length)).slots)=H0 at hS2 hK2 hF2 hF3 hT2 ⊢
 clear hS' hnew hSτ hK hst hF hT hxi hxd hFo hlen' hx hxk
 refine br (SP.down_free hf) rfl (λω ω=>rfl) ?_
 k_lt zR
 obtain ⟨Z,hZ⟩:∃Z,H0.length=Z:=⟨_,rfl⟩
 haveI hNZ:N+1<Z:=by haveI:=Store.at_lt hF3;omega
 refine ⟨Z,.tuple N,preds.map .str,AddI U S k preds N Z,Src.tuple hZ hT2,?h0,?hx,λω ω=>rfl,?turn,?fin⟩
 case h0=>exact ⟨S1,hadd,hS2.app,hK2.app,hst2,by omega,by k_lt uf,by k_lt zat,by rw [List.length_append,hZ];exact Nat.lt_succ_self _⟩
 case hx=>rintro j H ⟨S2,_,_,_,_,_,_,hT,_⟩;exact Items.tuple hT
 case fin=>
  rintro H ⟨S2,h1,h2,h3,h4,h5,h6,h7,h8⟩ hit
  rw [List.length_map,List.take_length] at h1
  k_lt zR
  exact ⟨rfl,S2,h1,h2.gone (h2.out hit rfl),h3.gone (.inr (by omega)),by rw [hN];exact h4⟩
 case turn=>
  rintro j x H R Y kR kX hx ⟨S2,h1,h2,h3,h4,h5,h6,h7,h8⟩ hit
  obtain ⟨p,hp1,rfl⟩:=iz hx
  refine TV1.weakTo (F:=N+1) (h6.put_ne (by omega)) ?_
  obtain ⟨m3,hm3,_⟩:=id h6
  haveI g1:=h2.out hit rfl
  haveI g2:=h2.out hm3 rfl
  haveI e1:Srt ((H.put Z (.iter (.tuple N) (j+1))).put (N+1) (.frame [("self",.loc S.s),("node",.str k)])) S2:=(h2.put g1).put g2
  haveI e2:Kept S U ((H.put Z (.iter (.tuple N) (j+1))).put (N+1) (.frame [("self",.loc S.s),("node",.str k)])):=(h3.put (.inr (by omega))).put (.inr (by omega))
  haveI e3:((H.put Z (.iter (.tuple N) (j+1))).put (N+1) (.frame [("self",.loc S.s),("node",.str k)])).at (N+1)=some (.frame [("self",.loc S.s),("node",.str k)]):=by k_lt zat
  haveI e4:((H.put Z (.iter (.tuple N) (j+1))).put (N+1) (.frame [("self",.loc S.s),("node",.str k)])).at N=some (.tuple (preds.map .str)):=by k_lt zat
  haveI e5:((H.put Z (.iter (.tuple N) (j+1))).put (N+1) (.frame [("self",.loc S.s),("node",.str k)])).at Z=some (.iter (.tuple N) (j+1)):=by k_lt zat
  haveI e6:Z<((H.put Z (.iter (.tuple N) (j+1))).put (N+1) (.frame [("self",.loc S.s),("node",.str k)])).length:=Store.at_lt e5
  generalize ((H.put Z (.iter (.tuple N) (j+1))).put (N+1) (.frame [("self",.loc S.s),("node",.str k)]))=H1 at e1 e2 e3 e4 e5 e6 ⊢
  clear hit h6 h7 h8 hm3 g1 g2 h2 h3
  haveI hs2:=e1.s
  haveI hd2:=e1.d
  rw [h1.s] at hs2
  k_lt zR
  haveI hj7:j<preds.length:=(List.getElem?_eq_some_iff.mp hp1).1
  haveI hep2:S2.ep=none:=h1.ep.trans hep
  refine rB (H1.put (N+1) (.frame [("self",.loc S.s),("node",.str k),("pred",.str p)])) (p1:=λH2=>Srt H2 S2) (p2:=λH2=>Kept S U H2) (p3:=λH2=>H2.at (N+1)=some (.frame [("self",.loc S.s),("node",.str k),("pred",.str p)])) (p4:=λH2=>H2.at N=some (.tuple (preds.map .str))) (p5:=λH2=>H2.at Z=some (.iter (.tuple N) (j+1))) (e1.put (e1.out e3 rfl)) (e2.put (.inr (by omega))) (at_put_eq e3) (at_put_ne (by omega) e4) (at_put_ne (by omega) e5) ?_
  intro H2 f1 f2 e3' e4' e5'
  refine TCall.srt (S:=S2) (R:=AddR S2 p) f1 (by k_lt ua) ?_ ?_
  ·intro hS'
   rw [←h1.s]
   refine TC.of ((jd (P:=P.down) (by show 4<P.d - 1;omega) _ S2 hS' hep2 (by omega) p).mono ?_ λω ω x=>x)
   rintro a U' ⟨x,S',h1,h2,h3,h4,h5,h6,h7,h8⟩
   rw [Store.gone_length] at h6
   exact ⟨S',⟨x,h1,h2,h3,h7,h8⟩,h4,h5,h6⟩
  rintro a S' τ2 ⟨x,rfl,hx,hxk,hS',hnew⟩ hSτ hK hst
  haveI hF:τ2.at (N+1)=some (.frame [("self",.loc S.s),("node",.str k),("pred",.str p)]):=hK.frame f1 e3'
  haveI hT:τ2.at N=some (.tuple (preds.map .str)):=hK.frame f1 e4'
  haveI hI:τ2.at Z=some (.iter (.tuple N) (j+1)):=hK.frame f1 e5'
  haveI hxi:=hSτ.i x hx
  haveI hxd:=hSτ.nd x hx
  haveI hxl:=hSτ.l x hx
  unfold Nd.slots at hxi
  haveI hb:x.su.length<=507:=by
   haveI hc:ax S'.ns=bR (ax S2.ns) p:=by rw [hS'];exact gY hxk hnew
   refine sL (ns:=S'.ns) ?_ hx
   rw [hc,h1.core]
   haveI:=iQ (k:=p) (jb (k:=k) (preds.take j) (ms (k:=k) (n:=preds.length) (iQ (k:=k) hB)))
   intro y hy
   haveI:=this y hy
   rw [List.length_take] at this
   omega
  haveI hll:(x.su.map AVal.str).length<=lenLine:=by rw [List.length_map];exact Nat.le_trans hb (by decide)
  k_lt zR
  haveI hFo:¬S'.places (N+1):=hSτ.out hF rfl
  haveI hZo:Z≠x.l:=λe=>by rw [←e,hI] at hxl;cases hxl
  haveI hS3:=(hSτ.put (o:=.frame [("self",.loc S.s),("node",.str k),("pred",.str p),("pred_info",.loc x.i)]) hFo).push hx k
  haveI el:(x.su.map AVal.str)++[.str k]=(x.su++[k]).map AVal.str:=by rw [List.map_append];rfl
  rw [el]
  haveI hst3:S.Step {S' with ns:=aH S'.ns x.k (Nd.push k)} N:=by
   refine (h4.trans (n':=N) ?_ (Nat.le_refl _)).trans (n':=N) (jT (S:=S') (λω=>rfl) (λω=>rfl) λω=>rfl) (Nat.le_refl _)
   haveI hl:N<=H2.length:=by haveI:=Store.at_lt e4';omega
   exact ⟨λj hj=>(hst.foot j hj).imp id λh=>by omega,λj hj=>(hst.places j hj).imp id λh=>by omega⟩
  haveI hKK:Kept S U τ2:=by
   refine f2.trans (S':=S2) ?_ hK
   rw [hN];exact h4
  refine ⟨⟨{S' with ns:=aH S'.ns x.k (Nd.push k)},?_,hS3,(hKK.put (.inr (by omega))).put ?_,hst3,?_,by k_lt uf,by k_lt zat,?_⟩,by k_lt zat⟩
  ·subst hS'
   refine ⟨h1.s,h1.d,h1.m,h1.ep,h1.rdy,h1.po,h1.nf,?_⟩
   dsimp only at hx ⊢
   rw [take_next' hp1,List.foldl_append]
   show _=ez (bR _ p) p k
   rw [←h1.core,←gY hxk hnew,kN (f:=Nd.push k) (g:=λx=>(x.1,x.2.1,x.2.2++[k])) (λω=>rfl),hxk]
   rfl
  ·rcases hst.foot x.l (.inr (.inr (.inl ⟨x,hx,.inr rfl⟩))) with h | h
   ·rcases h4.foot _ h with h | h
    ·exact .inl h
    ·exact .inr (by omega)
   ·exact .inr (by haveI:=Store.at_lt e4';omega)
  ·show (aH _ _ _).length<=_
   unfold aH
   rw [List.length_map,hS']
   dsimp only
   split
   ·omega
   ·simp;omega
  ·rw [Store.put_length,Store.put_length];exact Store.at_lt hI
end
section
variable {c:Cfg}{P:SP}{U:Store}{X:XP}{Q:AVal->Store->Prop}{p:Nat}{l:List Str}
theorem lp {i:Nat}{l:List AVal}(hi:U.at i=some (.list l))(hl:l.length<=lenLine)(q:New U (.tuple l) Q):OPc c P (.type "tuple") [.loc i] Q X U:=by
 obtain ⟨n,U2,rfl,rfl,q⟩:=q
 exact tD hi hl q
theorem TE_Or2 {E:AEnv}{x y:Expr}{pos:Pos}
  (h:TE c P E x (λa U1=>TTru c P a (λb U2=>∃b',a=.bool b'/\b'=b/\d9 b (Q (.bool true) U2) (TE c P E y Q X U2)) X U1) X U):TE c P E (.BoolOp .Or [x,y] pos) Q X U:=by
 refine TM.mk λκ V0 s g=>?_
 rw [arm_eval_BoolOp]
 show wpAny _ _ (boolOp pos .Or [eval x _,eval y _]) _ _ _
 refine wpAny_bind (h.go g ?_)
 rintro V1 U1 v s₁ g₁ e1 l1 ⟨a,ra,h₁⟩
 refine wpAny_bind (wpAny_standAt (wpAny_bind (wpAny_holding ((h₁ κ V1 s₁ v g₁.ok g₁.st ra).go g₁ ?_))))
 rintro V2 U2 b s2 g2 e2 l2 ⟨b',rfl,rfl,q⟩
 cases b' with
 | true=>
  haveI:v=.bool true:=ra
  subst this
  exact wpAny_pure (g2.doneV (a:=.bool true) rfl q)
 | false=>
  exact TM.end (t:=λenv=>eval y env) q g2
abbrev NewQ (U:Store)(a:AVal)(U':Store):Prop:=∃S,a=.loc S.s/\Srt U' S/\S.ns=[]/\S.ep=none/\S.rdy=none/\S.po=0/\S.nf=0/\Grow U U'/\∀j,S.places j->U.length<=j
theorem qE (hd:2<P.d)(U:Store):TK C0 P (.top (.ref 154)) [] [] (NewQ U) X U:=by
 obtain ⟨N,hN⟩:∃N,U.length=N:=⟨_,rfl⟩
 refine uK (ci:=ci154) rfl (by omega) ?_
 haveI e:U++[some (AObj.idict [])]++[some (ee ci154 154 U.length)]=U++[some (.idict []),some (.inst 154 N)]:=by rw [hN,List.append_assoc];rfl
 rw [e,hN]
 refine tk90 (N:=N+2) (by rw [List.length_append,hN];rfl) (by show 0<P.d - 1;omega) ?_
 simp only [List.append_assoc,List.cons_append,List.nil_append]
 refine TSs_cons' (x:=?_) ?_
 k_lt zR
 refine ⟨rfl,⟨N+1,N,N+3,none,[],none,0,0⟩,rfl,⟨by k_lt zat,?_,by k_lt zat,λω h=>(List.not_mem_nil h).elim,λω h=>(List.not_mem_nil h).elim,λω h=>(List.not_mem_nil h).elim,λω h=>(by cases h),List.nodup_nil,List.nodup_nil,λω h ω ω=>(by cases h)⟩,rfl,rfl,rfl,rfl,rfl,Grow.app _ _,?_⟩
 ·exact at_app_0 hN
 ·intro j hj
  rcases hj with h | h | h | ⟨x,h,_⟩ | ⟨p,h,_⟩
  ·rw [hN,h];exact Nat.le_succ _
  ·rw [hN,h];exact Nat.le_refl _
  ·rw [hN,h];exact Nat.le_add_right _ _
  ·cases h
  ·cases h
theorem f9 (hd:0<P.d)(hf:P.free=true)(U:Store)(S:Sr)(hS:Srt U S)(hr:S.rdy=none)(q:∀j U',Raised U' j (.type "ValueError") none->Hi U.length U' j->Srt U' S->Pers U U'->X j U'):TK C0 P (.top (.ref 123)) [.loc S.s] [] Q X U:=by
 obtain ⟨N,hN⟩:∃N,U.length=N:=⟨_,rfl⟩
 haveI hs:=hS.s
 haveI hD:=hS.d
 unfold Sr.attrs at hD
 rw [hr] at hD
 refine tk123 hN hd ?_
 refine TSs_cons' (x:=?_) ?_
 k_lt zR
 k_lt zraiseV
 k_lt zR
 refine ⟨rfl,by decide,bX (m:=[("self",.loc S.s)]) (by k_lt ua) (.inl (at_app_0 rfl)) λU' hx hh hp=>?_⟩
 haveI hp':Pers U U':=(Pers.of ((Grow.app _ _).trans (Grow.app _ _))).trans hp
 exact q _ U' hx (hh _ (by simp) (Hi.new (at_app_0 rfl) (by simp))) (hp'.srt hS) hp'
theorem gO (hd:0<P.d)(hf:P.free=true)(U:Store)(S:Sr)(hS:Srt U S)(hr:S.rdy=none)(q:∀j U',Raised U' j (.type "ValueError") none->Hi U.length U' j->Srt U' S->Pers U U'->X j U'):TK C0 P (.top (.ref 116)) [.loc S.s] [] Q X U:=by
 obtain ⟨N,hN⟩:∃N,U.length=N:=⟨_,rfl⟩
 haveI hs:=hS.s
 haveI hD:=hS.d
 unfold Sr.attrs at hD
 rw [hr] at hD
 refine tk116 hN hd ?_
 refine TSs_cons' (x:=?_) ?_
 k_lt zR
 k_lt zraiseV
 k_lt zR
 refine ⟨rfl,by decide,bX (m:=[("self",.loc S.s)]) (by k_lt ua) (.inl (at_app_0 rfl)) λU' hx hh hp=>?_⟩
 haveI hp':Pers U U':=(Pers.of ((Grow.app _ _).trans (Grow.app _ _))).trans hp
 exact q _ U' hx (hh _ (by simp) (Hi.new (at_app_0 rfl) (by simp))) (hp'.srt hS) hp'
theorem fL (hd:0<P.d)(hf:P.free=true)(U:Store)(S:Sr)(hS:Srt U S){p:Nat×List Str}(hr:S.rdy=some p)(q:∀j U',Raised U' j (.type "ValueError") none->Hi U.length U' j->Srt U' S->Pers U U'->X j U'):TK C0 P (.top (.ref 109)) [.loc S.s] [] Q X U:=by
 obtain ⟨N,hN⟩:∃N,U.length=N:=⟨_,rfl⟩
 haveI hs:=hS.s
 haveI hD:=hS.d
 haveI hR:=hS.r p hr
 unfold Sr.attrs at hD
 rw [hr] at hD
 refine tk109 hN hd ?_
 refine TSs_cons' (x:=?_) ?_
 k_lt zR
 k_lt zraiseV
 k_lt zR
 refine ⟨rfl,by decide,bX (m:=[("self",.loc S.s)]) (by k_lt ua) (.inl (at_app_0 rfl)) λU' hx hh hp=>?_⟩
 haveI hp':Pers U U':=(Pers.of ((Grow.app _ _).trans (Grow.app _ _))).trans hp
 exact q _ U' hx (hh _ (by simp) (Hi.new (at_app_0 rfl) (by simp))) (hp'.srt hS) hp'
theorem qH (hd:0<P.d)(hf:P.free=true)(U:Store)(S:Sr)(hS:Srt U S)(hr:S.rdy=some (p,l))(hl:l.length<=7):SpecV C0 P (.top (.ref 123)) [.loc S.s] [] (.bool (decide (S.nf<S.po) || !l.isEmpty)) U:=by
 refine SpecV.of rfl λwf=>?_
 obtain ⟨N,hN⟩:∃N,U.length=N:=⟨_,rfl⟩
 haveI hs:=hS.s
 haveI hD:=hS.d
 haveI hR:=hS.r _ hr
 unfold Sr.attrs at hD
 rw [hr] at hD
 refine TC.of (tk123 hN hd ?_)
 refine TSs_cons' (x:=?_) ?_
 k_lt zR
 refine TE_Or2 ?_
 k_lt zR
 refine ⟨_,rfl,rfl,aA (λh=>?_) λh=>?_⟩
 ·k_lt zR
  refine ⟨by rw [h];rfl,by k_lt zgrow⟩
 ·k_lt zR
  refine TCall.op (mF (i:=p) (l:=l.map .str) (by k_lt zat) (by rw [List.length_map];exact Nat.le_trans hl (by decide)) ?_)
  refine ⟨?_,by k_lt zgrow⟩
  rw [h,Bool.false_or]
  cases l <;> rfl
noncomputable def aX (ns:List Nd)(l:List Str):List Nd:=l.foldl (λns k=>aH ns k (Nd.setNp (-1))) ns
theorem dL {n:Nat}:∀(l:List Str) {S:Sr},S.Step {S with ns:=aX S.ns l} n
 | [],_=>Sr.Step.refl
 | a::l,S=>(jT (S:=S) (k:=a) (f:=Nd.setNp (-1)) (λω=>rfl) (λω=>rfl) λω=>rfl).trans (dL l (S:={S with ns:=aH S.ns a (Nd.setNp (-1))})) (Nat.le_refl n)
abbrev RdyQ (U:Store)(S:Sr)(p:Nat)(l:List Str)(a:AVal)(U':Store):Prop:=∃i,a=.loc i/\U'.at i=some (.tuple (l.map .str))/\U.length<=i/\Srt U' {S with ns:=aX S.ns l,rdy:=some (p,[]),po:=S.po+l.length}/\Kept S U U'
abbrev RdyI (U:Store)(S:Sr)(l:List Str)(N j:Nat)(H:Store):Prop:=Srt H {S with ns:=aX S.ns (l.take j)}/\Kept S U H/\FrHas H N [("self",.loc S.s),("result",.loc (N+1)),("n2i",.loc S.m)]/\H.at (N+1)=some (.tuple (l.map .str))/\N+2<H.length
theorem sR (hd:0<P.d)(hf:P.free=true)(U:Store)(S:Sr)(hS:Srt U S)(hep:S.ep=none)(hr:S.rdy=some (p,l))(hl:l.length<=7)(hin:∀k∈l,∃x∈S.ns,x.k=k) :
  TK C0 P (.top (.ref 116)) [.loc S.s] [] (RdyQ U S p l) X U:=by
 obtain ⟨N,hN⟩:∃N,U.length=N:=⟨_,rfl⟩
 haveI hs:=hS.s
 haveI hD:=hS.d
 haveI hm:=hS.m
 haveI hR:=hS.r _ hr
 unfold Sr.attrs at hD
 rw [hr] at hD
 rw [hep] at hm
 change U.at S.m=some (.dict (n2i S.ns)) at hm
 refine tk116 hN hd ?_
 refine TSs_cons' (x:=?_) ?_
 k_lt zR
 refine TCall.op (lp (i:=p) (l:=l.map .str) (by k_lt zat) (by rw [List.length_map];exact Nat.le_trans hl (by decide)) ?_)
 k_lt zR
 haveI e1:Srt (U++[some (AObj.frame [("self",AVal.loc S.s),("result",AVal.loc (N+1)),("n2i",.loc S.m)]),some (.tuple (l.map .str))]) S:=hS.app
 refine br (SP.down_free hf) rfl (λω ω=>rfl) ?_
 k_lt zR
 refine ⟨N+2,.tuple (N+1),l.map .str,RdyI U S l N,Src.tuple (by rw [List.length_append,hN];rfl) (by k_lt zat),?h0,?hx,λω ω=>rfl,?turn,?fin⟩
 case h0=>exact ⟨e1.app,Kept.of ((Grow.app _ _).trans (Grow.app _ _)),by k_lt uf,by k_lt zat,by rw [List.length_append,List.length_append,hN];exact Nat.lt_succ_self _⟩
 case hx=>rintro j H ⟨_,_,_,hT,_⟩;exact Items.tuple hT
 case turn=>
  rintro j x H R Y kR kX hx ⟨h2,h3,h6,h7,h8⟩ hit
  obtain ⟨k,hp1,rfl⟩:=iz hx
  refine TV1.weakTo (F:=N) (h6.put_ne (by omega)) ?_
  obtain ⟨m3,hm3,_⟩:=id h6
  haveI g1:=h2.out hit rfl
  haveI g2:=h2.out hm3 rfl
  refine rB ((H.put (N+2) (.iter (.tuple (N+1)) (j+1))).put N (.frame [("self",.loc S.s),("result",.loc (N+1)),("n2i",.loc S.m)])) (p1:=λH1=>Srt H1 {S with ns:=aX S.ns (l.take j)}) (p2:=λH1=>Kept S U H1) (p3:=λH1=>H1.at N=some (.frame [("self",.loc S.s),("result",.loc (N+1)),("n2i",.loc S.m)])) (p4:=λH1=>H1.at (N+1)=some (.tuple (l.map .str))) (p5:=λH1=>H1.at (N+2)=some (.iter (.tuple (N+1)) (j+1))) ((h2.put g1).put g2) ((h3.put (.inr (by omega))).put (.inr (by omega))) (by k_lt zat) (by k_lt zat) (by k_lt zat) ?_
  intro H1 f1 f2 f3 f4 f5
  clear h2 h3 h6 h7 h8 hit hm3 g1 g2
  haveI hm2:=f1.m
  change H1.at S.m=some (dj S.ep _) at hm2
  rw [hep] at hm2
  change H1.at S.m=some (.dict _) at hm2
  haveI hks:∀(l:List Str) (ns:List Nd) (k:Str),(∃x∈ns,x.k=k)->∃x∈aX ns l,x.k=k:=by
   intro l
   induction l with
   | nil=>exact λω ω h=>h
   | cons a l ih=>
    rintro ns k ⟨x,hx,rfl⟩
    refine ih _ _ ⟨if x.k=a then x.setNp (-1) else x,mem_updN.mpr ⟨x,hx,rfl⟩,?_⟩
    split <;> rfl
  obtain ⟨y,hy,hyk⟩:=hks (l.take j) S.ns k (hin k (List.mem_of_getElem? hp1))
  haveI hg:bx (aX S.ns (l.take j)) k=some y:=by
   cases e:bx (aX S.ns (l.take j)) k with
   | none=>exact absurd hyk (fu e y hy)
   | some z=>
    obtain ⟨hz,hzk⟩:=cB e
    rw [bg f1.ks hz hy (hzk.trans hyk.symm)]
  haveI hyi:=f1.i y hy
  haveI hyd:=f1.nd y hy
  unfold Nd.slots at hyi
  k_lt zR
  haveI f3':(H1.put N (.frame [("self",.loc S.s),("result",.loc (N+1)),("n2i",.loc S.m),("node",.str k)])).at N=some (.frame [("self",.loc S.s),("result",.loc (N+1)),("n2i",.loc S.m),("node",.str k)]):=at_put_eq f3
  refine ig (d:=.loc y.i) (by k_lt zat) (by rw [dx,hg];rfl) ?_
  k_lt zR
  haveI e2:=(f1.put (o:=.frame [("self",.loc S.s),("result",.loc (N+1)),("n2i",.loc S.m),("node",.str k)]) (f1.out f3 rfl)).setNp hy (-1)
  refine ⟨⟨?_,(f2.put (.inr (by omega))).put ?_,by k_lt uf,by k_lt ua,?_⟩,by k_lt ua⟩
  ·haveI e3:aX S.ns (l.take (j+1))=aH (aX S.ns (l.take j)) y.k (Nd.setNp (-1)):=by
    rw [take_next' hp1,hyk];unfold aX;rw [List.foldl_append];rfl
   rw [e3];exact e2
  ·exact (dL (S:=S) (n:=U.length) (l.take j)).foot y.i (.inr (.inr (.inl ⟨y,hy,.inl rfl⟩)))
  ·rw [Store.put_length,Store.put_length];exact Store.at_lt f5
 case fin=>
  rintro H ⟨h2,h3,h6,h7,h8⟩ hit
  obtain ⟨m3,hm3,_⟩:=id h6
  refine TM.weakTo (F:=N) (h6.gone (by omega)) ?_
  haveI g1:=h2.out hit rfl
  haveI g2:=h2.out hm3 rfl
  refine gen4 ((H.gone (N+2)).put N (.frame [("self",.loc S.s),("result",.loc (N+1)),("n2i",.loc S.m)])) (p1:=λH1=>Srt H1 {S with ns:=aX S.ns l}) (p2:=λH1=>Kept S U H1) (p3:=λH1=>H1.at N=some (.frame [("self",.loc S.s),("result",.loc (N+1)),("n2i",.loc S.m)])) (p4:=λH1=>H1.at (N+1)=some (.tuple (l.map .str))) ?f1_ ((h3.gone (.inr (by omega))).put (.inr (by omega))) (by k_lt zat) (by k_lt zat) ?_
  case f1_=>
   rw [List.length_map,List.take_length] at h2
   exact (h2.gone (h2.out hit rfl)).put (h2.out hm3 rfl)
  intro H1 f1 f2 f3 f4
  haveI hs:=f1.s
  haveI hD:=f1.d
  haveI hR:=f1.r _ hr
  unfold Sr.attrs at hD
  change H1.at S.d=some (.idict [("_node2info",.loc S.m),("_ready_nodes",rdyA S.rdy),("_npassedout",.int S.po),("_nfinished",.int S.nf)]) at hD
  rw [hr] at hD
  change H1.at S.d=some (.idict [("_node2info",.loc S.m),("_ready_nodes",.loc p),("_npassedout",.int S.po),("_nfinished",.int S.nf)]) at hD
  change H1.at p=some (.list (l.map .str)) at hR
  change H1.at S.s=some (.inst 154 S.d) at hs
  haveI hll:(l.map AVal.str).length<=lenLine:=by rw [List.length_map];exact Nat.le_trans hl (by decide)
  k_lt zR
  rw [List.length_map]
  haveI g3:Srt (H1.put p (.list [])) {S with ns:=aX S.ns l,rdy:=some (p,[])}:=f1.setR (l:=l) (l':=[]) hr
  haveI g4:=g3.setD (some (p,[])) (S.po+l.length) S.nf (λq hq=>by cases hq;exact ⟨g3.r (p,[]) rfl,g3.rl (p,[]) rfl⟩)
  refine ⟨N+1,rfl,by k_lt zat,by omega,g4,(f2.put (.inl (.inr (.inr (.inr ⟨_,hr,rfl⟩))))).put (.inl (.inl rfl))⟩
end
section
section
variable {c:Cfg}{P:SP}{E:AEnv}{U:Store}{X:XP}
variable {a b:Str}{e:Expr}{n1 n2:Nat}{p p1 p2 p3:Pos}{Q:AVal->Store->Prop}
theorem len3 {x:Str}(ha:a.length<=1000)(hx:x.length<=1000)(hb:b.length<=1000):(Str.empty++a).length<=lenLine/\(Str.empty++a++x).length<=lenLine/\(Str.empty++a++x++b).length<=lenLine:=by
 haveI h0:Str.empty.length=0:=rfl
 simp only [strLen_append,h0,Nat.zero_add]
 exact ⟨Nat.le_trans ha (by decide),Nat.le_trans (Nat.add_le_add ha hx) (by decide),Nat.le_trans (Nat.add_le_add (Nat.add_le_add ha hx) hb) (by decide)⟩
theorem TE_J3r (ha:a.length<=1000)(hb:b.length<=1000)
  (h:TE c P E e (λv U1=>∃x,v=.str x/\(reprText x).length<=1000/\Q (.str (Str.empty++a++reprText x++b)) U1) X U):TE c P E (.JoinedStr [.Constant (.str a) n1 p1,.FormattedValue e 114 none p2,.Constant (.str b) n2 p3] p) Q X U:=by
 refine kS (fx (db (a:=.str a) rfl ⟨a,rfl,?_,fx (TE_FVr (TE.mono h ?_))⟩))
 ·haveI h0:Str.empty.length=0:=rfl
  rw [strLen_append,h0];unfold lenLine;omega
 rintro v U1 ⟨x,rfl,hx,q⟩
 obtain ⟨h1,h2,h3⟩:=len3 ha hx hb
 exact ⟨x,rfl,Nat.le_trans hx (by decide),_,rfl,h2,fx (db (a:=.str b) rfl ⟨b,rfl,h3,uL h3 q⟩)⟩
theorem TE_J3 (ha:a.length<=1000)(hb:b.length<=1000)
  (h:TE c P E e (λv U1=>∃x,v=.str x/\x.length<=1000/\Q (.str (Str.empty++a++x++b)) U1) X U):TE c P E (.JoinedStr [.Constant (.str a) n1 p1,.FormattedValue e (-1) none p2,.Constant (.str b) n2 p3] p) Q X U:=by
 refine kS (fx (db (a:=.str a) rfl ⟨a,rfl,?_,fx (TE_FV (TE.mono h ?_))⟩))
 ·haveI h0:Str.empty.length=0:=rfl
  rw [strLen_append,h0];unfold lenLine;omega
 rintro v U1 ⟨x,rfl,hx,q⟩
 obtain ⟨h1,h2,h3⟩:=len3 ha hx hb
 exact ⟨x,rfl,Nat.le_trans hx (by decide),_,rfl,h2,fx (db (a:=.str b) rfl ⟨b,rfl,h3,uL h3 q⟩)⟩
end
abbrev DrfI (U:Store)(S:Sr)(k:Str)(N j:Nat)(H:Store):Prop:=j=0/\Srt H S/\Pers U H/\H.at (N+1)=some (.frame [("self",AVal.loc S.s),("nodes",AVal.loc N),("n2i",.loc S.m)])/\H.at N=some (.tuple [.str k])/\N+2<H.length
theorem iI {P:SP}(hd:0<P.d)(hf:P.free=true)(U:Store)(S:Sr)(hS:Srt U S)(hep:S.ep=none){p:Nat×List Str}(hr:S.rdy=some p)(k:Str)(hk:(reprText k).length<=1000)(hn:∀x,bx S.ns k=some x->0<=x.np∨x.np = -2){Q:AVal->Store->Prop}{X:XP}(q:∀j U',Raised U' j (.type "ValueError") none->Hi U.length U' j->Srt U' S->Pers U U'->X j U'):TK C0 P (.top (.ref 137)) [.loc S.s,.str k] [] Q X U:=by
 obtain ⟨N,hN⟩:∃N,U.length=N:=⟨_,rfl⟩
 haveI hs:=hS.s
 haveI hD:=hS.d
 haveI hm:=hS.m
 haveI hR:=hS.r p hr
 unfold Sr.attrs at hD
 rw [hr] at hD
 rw [hep] at hm
 change U.at S.m=some (.dict (n2i S.ns)) at hm
 refine tk137 (nodes:=[.str k]) (by show 1<=7;decide) hN hd ?_
 refine TSs_cons' (x:=?_) ?_
 k_lt zR
 haveI e1:Srt (U++[some (AObj.tuple [.str k]),some (AObj.frame [("self",AVal.loc S.s),("nodes",AVal.loc N),("n2i",.loc S.m)])]) S:=hS.app
 refine br (SP.down_free hf) rfl (λω ω=>rfl) ?_
 k_lt zR
 refine ⟨N+2,.tuple N,[.str k],DrfI U S k N,Src.tuple (by rw [List.length_append,hN];rfl) (by k_lt zat),?h0,?hx,λω ω=>rfl,?turn,?fin⟩
 case h0=>exact ⟨rfl,e1.app,Pers.of ((Grow.app _ _).trans (Grow.app _ _)),by k_lt zat,by k_lt zat,by rw [List.length_append,List.length_append,hN];exact Nat.lt_succ_self _⟩
 case hx=>rintro j H ⟨_,_,_,_,hT,_⟩;exact Items.tuple hT
 case fin=>rintro H ⟨h,_⟩;cases h
 case turn=>
  rintro j x H R Y kR kX hx ⟨rfl,h2,h3,h6,h7,h8⟩ hit
  cases hx
  haveI hm:=h2.m
  rw [hep] at hm
  change H.at S.m=some (.dict (n2i S.ns)) at hm
  haveI hi:=h2.i
  k_lt zR
  rw [dx]
  refine ⟨_,_,_,by k_lt ua,by with_unfolding_all k_lt zputm,by with_unfolding_all k_lt zput,?_⟩
  haveI fin:∀(τ:Store) (fr:List (Str×AVal)),τ.at (N+1)=some (.frame fr)->Srt τ S->Pers U τ->bN (eX (N+1)) (aD (eX (N+1)) X) τ.length (τ++[some (.exc (.type "ValueError") none)]):=by
   intro τ fr h1 h2 h3
   refine vb (m:=fr) (by k_lt ua) (.inl (at_app_0 rfl)) λU' hx hh hp=>?_
   refine bX (m:=fr) (hp.at (at_app_l h1)) hx λU'' hx' hh' hp'=>?_
   haveI hp2:=(Pers.of (Grow.app τ _)).trans (hp.trans hp')
   exact q _ U'' hx' (hh' _ (Nat.le_trans h3.1 (Nat.le_trans (by simp) hp.1)) (hh _ (Nat.le_trans h3.1 (by simp)) (Hi.new (at_app_0 rfl) h3.1))) (hp2.srt h2) (h3.trans hp2)
  haveI gI:Srt (H.put (N+2) (.iter (.tuple N) (0+1))) S:=h2.put (h2.out hit rfl)
  haveI pI:Pers U (H.put (N+2) (.iter (.tuple N) (0+1))):=by
   refine ⟨by simpa using h3.1,λi x hi hx=>at_put_ne ?_ (h3.2 i x hi hx)⟩
   haveI:=Store.at_lt hi;omega
  haveI pF:∀{τ:Store} {o:AObj},Pers U τ->Pers U (τ.put (N+1) o):=λh=>⟨by simpa using h.1,λi x hi hx=>at_put_ne (by haveI:=Store.at_lt hi;omega) (h.2 i x hi hx)⟩
  haveI sF:∀{τ:Store} {fr fr':List (Str×AVal)},Srt τ S->τ.at (N+1)=some (.frame fr)->Srt (τ.put (N+1) (.frame fr')) S:=λh e=>h.put (h.out e rfl)
  cases hg:bx S.ns k with
  | none=>
   dsimp only [Option.map,Option.getD]
   k_lt zR
   k_lt zraiseV
   k_lt zR
   refine ⟨k,rfl,hk,?_⟩
   k_lt zR
   exact ⟨rfl,by show 1<=lenLine;decide,kX (fin _ [("self",AVal.loc S.s),("nodes",AVal.loc N),("n2i",.loc S.m),("node",.str k),("nodeinfo",.none)] (by k_lt ua) (sF gI (by k_lt zat)) (pF pI))⟩
  | some x=>
   obtain ⟨hx,hxk⟩:=cB hg
   haveI hxi:=h2.i x hx
   haveI hxd:=h2.nd x hx
   unfold Nd.slots at hxi
   haveI hnx:=hn x hg
   dsimp only [Option.map,Option.getD]
   k_lt zR
   refine pick_true' (by simp;omega) ?_
   k_lt zR
   rcases hnx with hnx | hnx
   ·refine pick_true' (by simp;omega) ?_
    k_lt zR
    k_lt zraiseV
    k_lt zR
    refine ⟨k,rfl,hk,?_⟩
    k_lt zR
    exact ⟨rfl,by show 1<=lenLine;decide,kX (fin _ [("self",AVal.loc S.s),("nodes",AVal.loc N),("n2i",.loc S.m),("node",.str k),("nodeinfo",.loc x.i),("stat",.int x.np)] (by k_lt ua) (sF gI (by k_lt zat)) (pF pI))⟩
   ·refine pick_false' (by simp;omega) ?_
    k_lt zR
    refine pick_true' (by simp;omega) ?_
    k_lt zR
    k_lt zraiseV
    k_lt zR
    refine ⟨k,rfl,hk,?_⟩
    k_lt zR
    exact ⟨rfl,by show 1<=lenLine;decide,kX (fin _ [("self",AVal.loc S.s),("nodes",AVal.loc N),("n2i",.loc S.m),("node",.str k),("nodeinfo",.loc x.i),("stat",.int x.np)] (by k_lt ua) (sF gI (by k_lt zat)) (pF pI))⟩
end
section
variable {ns ns':List Nd}{x:Nd}{k:Str}
noncomputable def stepD (st:List Nd×List Str)(s:Str):List Nd×List Str:=(aH st.1 s (bj (-1)),if (bx (aH st.1 s (bj (-1))) s).any (λx=>x.np == 0) then st.2++[s] else st.2)
noncomputable def bn (ns:List Nd)(r:List Str)(k:Str)(su:List Str):List Nd×List Str:=su.foldl stepD (aH ns k (Nd.setNp (-2)),r)
theorem ft (h:(ns.map (·.k)).Nodup)(hx:x∈ns):bx ns x.k=some x:=by
 cases e:bx ns x.k with
 | none=>exact absurd rfl (fu e x hx)
 | some z=>
  obtain ⟨hz,hzk⟩:=cB e
  rw [bg h hz hx hzk]
def SameN (ns ns':List Nd):Prop:=ns'.map (λx=>(x.k,x.i,x.l,x.d,x.su))=ns.map (λx=>(x.k,x.i,x.l,x.d,x.su))
theorem SameN.refl (ns:List Nd):SameN ns ns:=rfl
theorem SameN.trans {a b d:List Nd}(h:SameN a b)(h':SameN b d):SameN a d:=Eq.trans h' h
theorem SameN.upd {f:Nd->Nd}(h:∀x,((f x).k,(f x).i,(f x).l,(f x).d,(f x).su)=(x.k,x.i,x.l,x.d,x.su)):SameN ns (aH ns k f):=cr (λx:Nd=>(x.k,x.i,x.l,x.d,x.su)) h
theorem SameN.mem (h:SameN ns ns')(hx:x∈ns):∃y∈ns',y.k=x.k/\y.i=x.i/\y.l=x.l/\y.d=x.d/\y.su=x.su:=by
 haveI:(x.k,x.i,x.l,x.d,x.su)∈ns'.map (λx:Nd=>(x.k,x.i,x.l,x.d,x.su)):=by
  haveI h:ns'.map (λx:Nd=>(x.k,x.i,x.l,x.d,x.su))=_:=h
  rw [h]
  exact List.mem_map_of_mem (f:=λx:Nd=>(x.k,x.i,x.l,x.d,x.su)) hx
 obtain ⟨y,hy,e⟩:=List.mem_map.mp this
 simp only [Prod.mk.injEq] at e
 exact ⟨y,hy,e⟩
theorem SameN.symm {ns ns':List Nd}(h:SameN ns ns'):SameN ns' ns:=Eq.symm h
theorem SameN.step {S:Sr}(h:SameN S.ns ns'){n:Nat}:S.Step {S with ns:=ns'} n:=by
 refine ⟨λj hj=>.inl ?_,λj hj=>.inl ?_⟩
 ·rcases hj with h' | h' | ⟨y,hy,h'⟩ | h'
  ·exact .inl h'
  ·exact .inr (.inl h')
  ·obtain ⟨z,hz,_,e1,e2,_,_⟩:=h.symm.mem hy
   exact .inr (.inr (.inl ⟨z,hz,by rw [e1,e2];exact h'⟩))
  ·exact .inr (.inr (.inr h'))
 ·rcases hj with h' | h' | h' | ⟨y,hy,h'⟩ | h'
  ·exact .inl h'
  ·exact .inr (.inl h')
  ·exact .inr (.inr (.inl h'))
  ·obtain ⟨z,hz,_,e1,e2,e3,_⟩:=h.symm.mem hy
   exact .inr (.inr (.inr (.inl ⟨z,hz,by rw [e1,e2,e3];exact h'⟩)))
  ·exact .inr (.inr (.inr (.inr h')))
theorem SameN.stepD (st:List Nd×List Str)(s:Str):SameN st.1 (stepD st s).1:=SameN.upd λω=>rfl
theorem SameN.fold:∀(l:List Str) (st:List Nd×List Str),SameN st.1 (l.foldl Mine.stepD st).1
 | [],_=>SameN.refl _
 | s::l,st=>(SameN.stepD st s).trans (SameN.fold l _)
theorem qB (st:List Nd×List Str)(s:Str):(stepD st s).2.length<=st.2.length+1:=by
 unfold stepD;dsimp only;split
 ·simp
 ·omega
theorem ng:∀(l:List Str) (st:List Nd×List Str),(l.foldl stepD st).2.length<=st.2.length+l.length
 | [],_=>Nat.le_refl _
 | s::l,st=>by
  haveI h1:=ng l (stepD st s)
  haveI h2:=qB st s
  rw [List.foldl_cons,List.length_cons];omega
abbrev DnQ (U:Store)(S:Sr)(l:List Str)(k:Str)(su:List Str)(p:Nat)(a:AVal)(U':Store):Prop:=a=.none/\Srt U' {S with ns:=(bn S.ns l k su).1,rdy:=some (p,(bn S.ns l k su).2),nf:=S.nf+1}/\Kept S U U'
abbrev DnO (U:Store)(S:Sr)(l:List Str)(k:Str)(su:List Str)(p N j:Nat)(H:Store):Prop:=(j=0/\Srt H S∨j=1/\Srt H {S with ns:=(bn S.ns l k su).1,rdy:=some (p,(bn S.ns l k su).2),nf:=S.nf+1})/\Kept S U H/\FrHas H (N+1) [("self",AVal.loc S.s),("nodes",AVal.loc N),("n2i",.loc S.m)]/\H.at N=some (.tuple [.str k])/\N+2<H.length
abbrev DnI (U:Store)(S:Sr)(l:List Str)(k:Str)(x:Nd)(p N Z j:Nat)(H:Store):Prop:=Srt H {S with ns:=((x.su.take j).foldl stepD (aH S.ns k (Nd.setNp (-2)),l)).1,rdy:=some (p,((x.su.take j).foldl stepD (aH S.ns k (Nd.setNp (-2)),l)).2)}/\Kept S U H/\FrHas H (N+1) [("self",.loc S.s),("nodes",.loc N),("n2i",.loc S.m),("nodeinfo",.loc x.i)]/\H.at N=some (.tuple [.str k])/\H.at (N+2)=some (.iter (.tuple N) (0+1))/\Z<H.length
theorem sp_done {P:SP}(hd:0<P.d)(hf:P.free=true)(U:Store)(S:Sr)(hS:Srt U S)(hep:S.ep=none){p:Nat}{l:List Str}(hr:S.rdy=some (p,l))(hx:x∈S.ns)(hxk:x.k=k)(hnp:x.np = -1)(hl:l.length+x.su.length<=10000)(hin:∀s∈x.su,∃y∈S.ns,y.k=s){X:XP} :
  TK C0 P (.top (.ref 137)) [.loc S.s,.str k] [] (DnQ U S l k x.su p) X U:=by
 obtain ⟨N,hN⟩:∃N,U.length=N:=⟨_,rfl⟩
 haveI hs:=hS.s
 haveI hD:=hS.d
 haveI hm:=hS.m
 haveI hR:=hS.r _ hr
 unfold Sr.attrs at hD
 rw [hr] at hD
 rw [hep] at hm
 change U.at S.m=some (.dict (n2i S.ns)) at hm
 refine tk137 (nodes:=[.str k]) (by show 1<=7;decide) hN hd ?_
 refine TSs_cons' (x:=?_) ?_
 k_lt zR
 haveI e1:Srt (U++[some (AObj.tuple [.str k]),some (AObj.frame [("self",AVal.loc S.s),("nodes",AVal.loc N),("n2i",.loc S.m)])]) S:=hS.app
 refine br (SP.down_free hf) rfl (λω ω=>rfl) ?_
 k_lt zR
 refine ⟨N+2,.tuple N,[.str k],DnO U S l k x.su p N,Src.tuple (by rw [List.length_append,hN];rfl) (by k_lt zat),?h0,?hx,λω ω=>rfl,?turn,?fin⟩
 case h0=>exact ⟨.inl ⟨rfl,e1.app⟩,Kept.of ((Grow.app _ _).trans (Grow.app _ _)),by k_lt uf,by k_lt zat,by rw [List.length_append,List.length_append,hN];exact Nat.lt_succ_self _⟩
 case hx=>rintro j H ⟨_,_,_,hT,_⟩;exact Items.tuple hT
 case fin=>
  rintro H ⟨h | ⟨_,h2⟩,h3,h6,h7,h8⟩ hit
  ·cases h.1
  ·k_lt zR
   exact ⟨rfl,h2.gone (h2.out hit rfl),h3.gone (.inr (by omega))⟩
 case turn=>
  rintro j v H R Y kR kX hv ⟨h2 | ⟨rfl,_⟩,h3,h6,h7,h8⟩ hit
  rotate_left
  ·cases hv
  obtain ⟨rfl,h2⟩:=h2
  cases hv
  refine TV1.weakTo (F:=N+1) (h6.put_ne (by omega)) ?_
  obtain ⟨m3,hm3,_⟩:=id h6
  refine rB ((H.put (N+2) (.iter (.tuple N) (0+1))).put (N+1) (.frame [("self",.loc S.s),("nodes",.loc N),("n2i",.loc S.m)])) (p1:=λH1=>Srt H1 S) (p2:=λH1=>Kept S U H1) (p3:=λH1=>H1.at (N+1)=some (.frame [("self",.loc S.s),("nodes",.loc N),("n2i",.loc S.m)])) (p4:=λH1=>H1.at N=some (.tuple [.str k])) (p5:=λH1=>H1.at (N+2)=some (.iter (.tuple N) (0+1))) ((h2.put (h2.out hit rfl)).put (h2.out hm3 rfl)) ((h3.put (.inr (by omega))).put (.inr (by omega))) (by k_lt zat) (by k_lt zat) (by k_lt zat) ?_
  intro H1 f1 f2 f3 f4 f5
  clear h2 h3 h6 h7 h8 hit hm3
  haveI hm2:=f1.m
  rw [hep] at hm2
  change H1.at S.m=some (.dict (n2i S.ns)) at hm2
  haveI hg:=ft f1.ks hx
  rw [hxk] at hg
  haveI hxi:=f1.i x hx
  haveI hxd:=f1.nd x hx
  haveI hxl:=f1.l x hx
  unfold Nd.slots at hxi
  k_lt zR
  rw [dx,hg]
  refine ⟨_,_,_,by k_lt ua,by with_unfolding_all k_lt zputm,by with_unfolding_all k_lt zput,?_⟩
  dsimp only [Option.map,Option.getD]
  k_lt zR
  refine pick_false' (by simp;omega) ?_
  k_lt zR
  with_unfolding_all change TS C0 P.down (eX (N+1)) _ _ _ ((H1.put (N+1) (.frame [("self",.loc S.s),("nodes",.loc N),("n2i",.loc S.m),("node",.str k),("nodeinfo",.loc x.i),("stat",.int x.np)])).put x.i (x.setNp (-2)).slots)
  refine gen6 ((H1.put (N+1) (.frame [("self",.loc S.s),("nodes",.loc N),("n2i",.loc S.m),("node",.str k),("nodeinfo",.loc x.i),("stat",.int x.np)])).put x.i (x.setNp (-2)).slots) (p1:=λH2=>Srt H2 {S with ns:=aH S.ns k (Nd.setNp (-2))}) (p2:=λH2=>Kept S U H2) (p3:=λH2=>H2.at (N+1)=some (.frame [("self",.loc S.s),("nodes",.loc N),("n2i",.loc S.m),("node",.str k),("nodeinfo",.loc x.i),("stat",.int x.np)])) (p4:=λH2=>H2.at N=some (.tuple [.str k])) (p5:=λH2=>H2.at (N+2)=some (.iter (.tuple N) (0+1))) (p6:=λH2=>H2.at x.l=some (.list (x.su.map .str))) ?g1_ ((f2.put (.inr (by omega))).put (.inl (.inr (.inr (.inl ⟨x,hx,.inl rfl⟩))))) (by k_lt ua) (by k_lt ua) (by k_lt ua) (by k_lt ua) ?_
  case g1_=>
   haveI:=(f1.put (o:=.frame [("self",.loc S.s),("nodes",.loc N),("n2i",.loc S.m),("node",.str k),("nodeinfo",.loc x.i),("stat",.int x.np)]) (f1.out f3 rfl)).setNp hx (-2)
   rw [hxk] at this;exact this
  intro H2 g1 g2 g3 g4 g5 g6
  haveI hi2:=g1.i (x.setNp (-2)) (mem_updN.mpr ⟨x,hx,by rw [if_pos hxk]⟩)
  change H2.at x.i=some (.slots 57 x.d [some (.str x.k),some (.int (-2)),some (.loc x.l)]) at hi2
  haveI hd2:=g1.nd (x.setNp (-2)) (mem_updN.mpr ⟨x,hx,by rw [if_pos hxk]⟩)
  change H2.at x.d=_ at hd2
  clear f1 f2 f3 f4 f5 hm2 hxi hxd hxl
  refine br (SP.down_free hf) rfl (λω ω=>rfl) ?_
  k_lt zR
  obtain ⟨Z,hZ⟩:∃Z,H2.length=Z:=⟨_,rfl⟩
  haveI hNZ:N+2<Z:=by haveI:=Store.at_lt g5;omega
  haveI hsame:∀j,SameN S.ns ((x.su.take j).foldl stepD (aH S.ns k (Nd.setNp (-2)),l)).1:=λj=>(SameN.upd (f:=Nd.setNp (-2)) (k:=k) λω=>rfl).trans (SameN.fold (x.su.take j) (aH S.ns k (Nd.setNp (-2)),l))
  refine ⟨Z,.list x.l,x.su.map .str,DnI U S l k x p N Z,Src.list hZ g6,?h0,?hx,λω ω=>rfl,?turn,?fin⟩
  case h0=>
   refine ⟨?_,g2.app,by k_lt uf,by k_lt zat,by k_lt zat,by rw [List.length_append,hZ];exact Nat.lt_succ_self _⟩
   haveI:=g1.app (l:=[some (AObj.iter (.list x.l) 0)])
   rw [hr] at this;exact this
  case hx=>
   rintro j H ⟨h2,_⟩
   obtain ⟨y,hy,_,_,e3,_,e5⟩:=(hsame j).mem hx
   haveI:=h2.l y hy
   rw [e3,e5] at this
   exact Items.list this
  case fin=>
   rintro H ⟨h2,h3,h6,h7,h8,h9⟩ hit
   rw [List.length_map,List.take_length] at h2
   obtain ⟨m3,hm3,_⟩:=id h6
   refine TM.weakTo (F:=N+1) (h6.gone (by omega)) ?_
   refine rB ((H.gone Z).put (N+1) (.frame [("self",.loc S.s),("nodes",.loc N),("n2i",.loc S.m),("nodeinfo",.loc x.i)])) (p1:=λH3=>Srt H3 {S with ns:=(bn S.ns l k x.su).1,rdy:=some (p,(bn S.ns l k x.su).2)}) (p2:=λH3=>Kept S U H3) (p3:=λH3=>H3.at (N+1)=some (.frame [("self",.loc S.s),("nodes",.loc N),("n2i",.loc S.m),("nodeinfo",.loc x.i)])) (p4:=λH3=>H3.at N=some (.tuple [.str k])) (p5:=λH3=>H3.at (N+2)=some (.iter (.tuple N) (0+1))) ((h2.gone (h2.out hit rfl)).put (h2.out hm3 rfl)) ((h3.gone (.inr (by omega))).put (.inr (by omega))) (by k_lt zat) (by k_lt zat) (by k_lt zat) ?_
   intro H3 f1 f2 f3 f4 f5
   clear h2 h3 h6 h7 h8 h9 hit hm3
   haveI hs3:=f1.s
   haveI hd3:=f1.d
   change H3.at S.s=some (.inst 154 S.d) at hs3
   change H3.at S.d=some (.idict [("_node2info",.loc S.m),("_ready_nodes",.loc p),("_npassedout",.int S.po),("_nfinished",.int S.nf)]) at hd3
   k_lt zR
   haveI f6:=f1.setD (some (p,(bn S.ns l k x.su).2)) S.po (S.nf+1) (λq hq=>by cases hq;exact ⟨f1.r (p,_) rfl,f1.rl (p,_) rfl⟩)
   exact ⟨⟨.inr ⟨rfl,f6⟩,f2.put (.inl (.inl rfl)),by k_lt uf,by k_lt zat,by rw [Store.put_length];exact Store.at_lt f5⟩,by k_lt zat⟩
  case turn=>
   rintro j v H R2 Y2 kR2 kX2 hv ⟨h2,h3,h6,h7,h8,h9⟩ hit
   obtain ⟨s,hs1,rfl⟩:=iz hv
   refine TV1.weakTo (F:=N+1) (h6.put_ne (by omega)) ?_
   obtain ⟨m3,hm3,_⟩:=id h6
   haveI sj:=hsame j
   haveI el:(((x.su.take j).foldl stepD (aH S.ns k (Nd.setNp (-2)),l)).2).length<=10000:=by
    haveI:=ng (x.su.take j) (aH S.ns k (Nd.setNp (-2)),l)
    haveI h2:(x.su.take j).length<=x.su.length:=by rw [List.length_take];omega
    dsimp only at this
    omega
   generalize hst:(x.su.take j).foldl stepD (aH S.ns k (Nd.setNp (-2)),l)=st at h2 sj el
   obtain ⟨ns1,r1⟩:=st
   dsimp only at h2 sj el
   refine gen6 ((H.put Z (.iter (.list x.l) (j+1))).put (N+1) (.frame [("self",.loc S.s),("nodes",.loc N),("n2i",.loc S.m),("nodeinfo",.loc x.i)])) (p1:=λH3=>Srt H3 {S with ns:=ns1,rdy:=some (p,r1)}) (p2:=λH3=>Kept S U H3) (p3:=λH3=>H3.at (N+1)=some (.frame [("self",.loc S.s),("nodes",.loc N),("n2i",.loc S.m),("nodeinfo",.loc x.i)])) (p4:=λH3=>H3.at N=some (.tuple [.str k])) (p5:=λH3=>H3.at (N+2)=some (.iter (.tuple N) (0+1))) (p6:=λH3=>H3.at Z=some (.iter (.list x.l) (j+1))) ((h2.put (h2.out hit rfl)).put (h2.out hm3 rfl)) ((h3.put (.inr (by omega))).put (.inr (by omega))) (by k_lt zat) (by k_lt zat) (by k_lt zat) (by k_lt zat) ?_
   intro H3 f1 f2 f3 f4 f5 f6
   clear h2 h3 h6 h7 h8 h9 hit hm3
   haveI hm2:=f1.m
   change H3.at S.m=some (dj S.ep (n2i ns1)) at hm2
   rw [hep] at hm2
   change H3.at S.m=some (.dict (n2i ns1)) at hm2
   obtain ⟨y0,hy0,hyk0⟩:=hin s (List.mem_of_getElem? hs1)
   obtain ⟨y,hy,hyk,_,_,_,_⟩:=sj.mem hy0
   haveI hys:y.k=s:=hyk.trans hyk0
   haveI hg2:=ft f1.ks hy
   change bx ns1 y.k=some y at hg2
   rw [hys] at hg2
   haveI hyi:=f1.i y hy
   haveI hyd:=f1.nd y hy
   unfold Nd.slots at hyi
   haveI hs3:=f1.s
   haveI hd3:=f1.d
   haveI hr3:=f1.r (p,r1) rfl
   change H3.at S.s=some (.inst 154 S.d) at hs3
   change H3.at S.d=some (.idict [("_node2info",.loc S.m),("_ready_nodes",.loc p),("_npassedout",.int S.po),("_nfinished",.int S.nf)]) at hd3
   change H3.at p=some (.list (r1.map .str)) at hr3
   k_lt zR
   refine ig (d:=.loc y.i) (by k_lt zat) (by rw [dx,hg2];rfl) ?_
   k_lt zR
   haveI k1:Srt ((H3.put (N+1) (.frame [("self",.loc S.s),("nodes",.loc N),("n2i",.loc S.m),("nodeinfo",.loc x.i),("successor",.str s),("successor_info",.loc y.i)])).put y.i (y.setNp (y.np - 1)).slots) {S with ns:=aH ns1 s (bj (-1)),rdy:=some (p,r1)}:=by
    haveI:=(f1.put (o:=.frame [("self",.loc S.s),("nodes",.loc N),("n2i",.loc S.m),("nodeinfo",.loc x.i),("successor",.str s),("successor_info",.loc y.i)]) (f1.out f3 rfl)).setNp hy (y.np - 1)
    rw [hys] at this
    haveI e:=i7 (ns:=ns1) (k:=s) (f:=Nd.setNp (y.np - 1)) (g:=bj (-1)) (λz hz hzk=>by
     cases bg f1.ks hz hy (hzk.trans hys.symm)
     unfold bj;rw [Int.sub_eq_add_neg])
    rw [←e];exact this
   haveI k2:Kept S U ((H3.put (N+1) (.frame [("self",.loc S.s),("nodes",.loc N),("n2i",.loc S.m),("nodeinfo",.loc x.i),("successor",.str s),("successor_info",.loc y.i)])).put y.i (y.setNp (y.np - 1)).slots):=by
    refine (f2.put (.inr (by omega))).put ?_
    exact (SameN.step (S:=S) sj (n:=U.length)).foot y.i (.inr (.inr (.inl ⟨y,hy,.inl rfl⟩)))
   haveI k3:((H3.put (N+1) (.frame [("self",.loc S.s),("nodes",.loc N),("n2i",.loc S.m),("nodeinfo",.loc x.i),("successor",.str s),("successor_info",.loc y.i)])).put y.i (y.setNp (y.np - 1)).slots).at (N+1)=some (.frame [("self",.loc S.s),("nodes",.loc N),("n2i",.loc S.m),("nodeinfo",.loc x.i),("successor",.str s),("successor_info",.loc y.i)]):=by k_lt ua
   haveI k4:((H3.put (N+1) (.frame [("self",.loc S.s),("nodes",.loc N),("n2i",.loc S.m),("nodeinfo",.loc x.i),("successor",.str s),("successor_info",.loc y.i)])).put y.i (y.setNp (y.np - 1)).slots).at N=some (.tuple [.str k]):=by k_lt ua
   haveI k5:((H3.put (N+1) (.frame [("self",.loc S.s),("nodes",.loc N),("n2i",.loc S.m),("nodeinfo",.loc x.i),("successor",.str s),("successor_info",.loc y.i)])).put y.i (y.setNp (y.np - 1)).slots).at (N+2)=some (.iter (.tuple N) (0+1)):=by k_lt ua
   haveI k6:((H3.put (N+1) (.frame [("self",.loc S.s),("nodes",.loc N),("n2i",.loc S.m),("nodeinfo",.loc x.i),("successor",.str s),("successor_info",.loc y.i)])).put y.i (y.setNp (y.np - 1)).slots).at Z=some (.iter (.list x.l) (j+1)):=by k_lt ua
   haveI hym:(bj (-1) y)∈aH ns1 s (bj (-1)):=mem_updN.mpr ⟨y,hy,by rw [if_pos hys]⟩
   haveI hgn:=ft k1.ks hym
   change bx (aH ns1 s (bj (-1))) y.k=some (bj (-1) y) at hgn
   rw [hys] at hgn
   haveI hstep:stepD (ns1,r1) s=(aH ns1 s (bj (-1)),if decide (y.np - 1=0) then r1++[s] else r1):=by
    unfold stepD
    dsimp only
    rw [hgn]
    haveI:(some (bj (-1) y)).any (λx=>x.np == 0)=decide (y.np - 1=0):=by
     show ((y.np + -1) == 0)=_
     rw [fq,←Int.sub_eq_add_neg]
    rw [this]
   haveI hlast:(x.su.take (j+1)).foldl stepD (aH S.ns k (Nd.setNp (-2)),l)=stepD (ns1,r1) s:=by
    rw [take_next' hs1,List.foldl_append,hst];rfl
   haveI hZl:=Store.at_lt k6
   haveI hll:(r1.map AVal.str).length<=lenLine:=by rw [List.length_map];exact Nat.le_trans el (by decide)
   haveI hs4:=k1.s
   haveI hd4:=k1.d
   haveI hr4:=k1.r (p,r1) rfl
   change ((H3.put (N+1) (.frame [("self",.loc S.s),("nodes",.loc N),("n2i",.loc S.m),("nodeinfo",.loc x.i),("successor",.str s),("successor_info",.loc y.i)])).put y.i (y.setNp (y.np - 1)).slots).at S.s=some (.inst 154 S.d) at hs4
   change ((H3.put (N+1) (.frame [("self",.loc S.s),("nodes",.loc N),("n2i",.loc S.m),("nodeinfo",.loc x.i),("successor",.str s),("successor_info",.loc y.i)])).put y.i (y.setNp (y.np - 1)).slots).at S.d=some (.idict [("_node2info",.loc S.m),("_ready_nodes",.loc p),("_npassedout",.int S.po),("_nfinished",.int S.nf)]) at hd4
   change ((H3.put (N+1) (.frame [("self",.loc S.s),("nodes",.loc N),("n2i",.loc S.m),("nodeinfo",.loc x.i),("successor",.str s),("successor_info",.loc y.i)])).put y.i (y.setNp (y.np - 1)).slots).at p=some (.list (r1.map .str)) at hr4
   with_unfolding_all change d9 (decide (y.np - 1=0)) (TSs C0 P.down (eX (N+1)) _ _ _ ((H3.put (N+1) (.frame [("self",.loc S.s),("nodes",.loc N),("n2i",.loc S.m),("nodeinfo",.loc x.i),("successor",.str s),("successor_info",.loc y.i)])).put y.i (y.setNp (y.np - 1)).slots)) (TSs C0 P.down (eX (N+1)) _ _ _ ((H3.put (N+1) (.frame [("self",.loc S.s),("nodes",.loc N),("n2i",.loc S.m),("nodeinfo",.loc x.i),("successor",.str s),("successor_info",.loc y.i)])).put y.i (y.setNp (y.np - 1)).slots))
   generalize ((H3.put (N+1) (.frame [("self",.loc S.s),("nodes",.loc N),("n2i",.loc S.m),("nodeinfo",.loc x.i),("successor",.str s),("successor_info",.loc y.i)])).put y.i (y.setNp (y.np - 1)).slots)=H4 at k1 k2 k3 k4 k5 k6 hZl hs4 hd4 hr4 ⊢
   refine aA (λhz=>?_) λhz=>?_
   ·k_lt zR
    haveI el:(r1.map AVal.str)++[.str s]=(r1++[s]).map AVal.str:=by rw [List.map_append];rfl
    rw [el]
    haveI k7:=k1.setR (l:=r1) (l':=r1++[s]) rfl
    refine ⟨⟨?_,k2.put (.inl (.inr (.inr (.inr ⟨_,hr,rfl⟩)))),by k_lt uf,by k_lt zat,by k_lt zat,by rw [Store.put_length];exact hZl⟩,by k_lt zat⟩
    rw [hlast,hstep,if_pos hz]
    exact k7
   ·k_lt zR
    refine ⟨⟨?_,k2,by k_lt uf,by k_lt zat,by k_lt zat,hZl⟩,by k_lt zat⟩
    rw [hlast,hstep,hz]
    exact k1
end
section
variable {su:Str->List Str}{fin:List Str}{v:Str}{r:List Ent}
def dM (su:Str->List Str):List Str->Prop
 | []=>True
 | k::fin=>(∀s∈su k,s∈fin)/\dM su fin
noncomputable def dl (ns:List Nd)(k:Str):List Str:=match bx ns k with
 | some x=>x.su
 | none=>[]
def sk (ns:List Nd):Prop:=∃fin,dM (dl ns) fin/\fin.Nodup/\(∀x∈ns,x.k∈fin)/\fin.length<=ns.length
def Cyc (su:Str->List Str):Prop:=∃C:List Str,C≠[]/\∀c∈C,∃a∈C,c∈su a
structure Ent where
 k:Str
 bm:Nat
 it:Nat
 l:Nat
 pos:Nat
def Path (su:Str->List Str)(fin:List Str):Str->List Ent->Prop
 | _,[]=>True
 | v,e::r=>(∀s∈(su e.k).take e.pos,s∈fin∨s=v)/\v∈su e.k/\Path su fin e.k r
def Top2 (su:Str->List Str)(fin:List Str):List Ent->Prop
 | []=>True
 | e::r=>(∀s∈(su e.k).take e.pos,s∈fin)/\Path su fin e.k r
theorem Path.mono {su:Str->List Str}{fin fin':List Str}(h:∀s∈fin,s∈fin'):∀{v:Str} {r:List Ent},Path su fin v r->Path su fin' v r
 | _,[],_=>trivial
 | _,e::r,⟨h1,h2,h3⟩=>⟨λs hs=>(h1 s hs).imp (h s) id,h2,h3.mono h⟩
theorem Path.toTop (h:Path su fin v r)(hv:v∈fin):Top2 su fin r:=by
 cases r with
 | nil=>trivial
 | cons e r=>exact ⟨λs hs=>(h.1 s hs).elim id λq=>q▸hv,h.2.2⟩
theorem Path.pop (h:Path su fin v r):Top2 su (v::fin) r:=(h.mono λω h=>.tail _ h).toTop (.head _)
theorem Path.cyc {su:Str->List Str}{fin:List Str}{v:Str}:∀{u:Str} {r:List Ent},Path su fin u r->v∈r.map (·.k)->∃C:List Str,v∈C/\(∃a∈C,u∈su a)/\∀c∈C,c=v∨∃a∈C,c∈su a
 | _,[],_,h=>by cases h
 | u,e::r,⟨h1,h2,h3⟩,h=>by
  by_cases q:e.k=v
  ·subst q
   exact ⟨[e.k],.head _,⟨e.k,.head _,h2⟩,λc hc=>.inl (by simpa using hc)⟩
  ·haveI hv:v∈r.map (·.k):=by
    rw [List.map_cons] at h
    rcases List.mem_cons.mp h with h | h
    ·exact absurd h.symm q
    ·exact h
   obtain ⟨C,c1,⟨a,ha,hs⟩,c3⟩:=h3.cyc hv
   refine ⟨e.k::C,.tail _ c1,⟨e.k,.head _,h2⟩,λc hc=>?_⟩
   rcases List.mem_cons.mp hc with rfl | hc
   ·exact .inr ⟨a,.tail _ ha,hs⟩
   ·exact (c3 c hc).imp id λ⟨a,ha,hs⟩=>⟨a,.tail _ ha,hs⟩
theorem Path.cyc' (h:Path su fin v r)(hv:v∈r.map (·.k)):Cyc su:=by
 obtain ⟨C,c1,c2,c3⟩:=h.cyc hv
 exact ⟨C,List.ne_nil_of_mem c1,λc hc=>(c3 c hc).elim (λq=>q▸c2) id⟩
noncomputable def bl:List Ent->List (Str×AVal)
 | []=>[]
 | e::r=>bl r++[(e.k,.int r.length)]
theorem dw:∀(stk:List Ent),(bl stk).map (·.1)=stk.reverse.map (·.k)
 | []=>rfl
 | e::r=>by rw [bl,List.map_append,dw r,List.reverse_cons,List.map_append];rfl
theorem rr (k:Str)(es:List (Str×AVal)):fQ k es=decide (k∈es.map (·.1)):=by
 induction es with
 | nil=>rfl
 | cons p l ih=>
  unfold fQ
  rw [ih,List.map_cons]
  by_cases h:p.1=k
  ·simp [h]
  ·haveI:(p.1 == k)=false:=by simpa using h
   rw [this]
   haveI h':¬k=p.1:=λe=>h e.symm
   simp [h']
theorem t5 (k:Str)(stk:List Ent):fQ k (bl stk)=decide (k∈stk.map (·.k)):=by
 rw [rr,dw];simp
theorem mX (stk:List Ent):(bl stk).length=stk.length:=by
 haveI:=congrArg List.length (dw stk)
 simpa using this
theorem jC {k:Str}:∀{stk:List Ent},k∈stk.map (·.k)->∃i:Nat,i<stk.length/\ae k (bl stk)=some (.int i)
 | [],h=>by cases h
 | e::r,h=>by
  by_cases q:k∈r.map (·.k)
  ·obtain ⟨i,hi,e1⟩:=jC q
   refine ⟨i,Nat.lt_succ_of_lt hi,?_⟩
   rw [bl]
   haveI:∀(l m:List (Str×AVal)) {a},ae k l=some a->ae k (l++m)=some a:=by
    intro l
    induction l with
    | nil=>intro m a h;cases h
    | cons p l ih=>
     intro m a h
     unfold ae at h ⊢
     rw [List.cons_append]
     dsimp only at h ⊢
     split
     ·rename_i h';rw [if_pos h'] at h;exact h
     ·rename_i h';rw [if_neg h'] at h;exact ih m h
   exact this _ _ e1
  ·haveI hk:e.k=k:=by
    rw [List.map_cons] at h
    rcases List.mem_cons.mp h with h | h
    ·exact h.symm
    ·exact absurd h q
   refine ⟨r.length,Nat.lt_succ_self _,?_⟩
   rw [bl]
   haveI:∀(l m:List (Str×AVal)),k∉l.map (·.1)->ae k (l++m)=ae k m:=by
    intro l
    induction l with
    | nil=>intro m _;rfl
    | cons p l ih=>
     intro m hl
     rw [List.cons_append]
     rw [List.map_cons,List.mem_cons,not_or] at hl
     rw [ae,if_neg (λe=>hl.1 e.symm)]
     exact ih m hl.2
   rw [this _ _ (by rw [dw];simpa using q)]
   rw [ae,if_pos hk]
theorem oM {k:Str}{stk:List Ent}(h:k∉stk.map (·.k)):bY (bl stk) k (.int stk.length)=bl stk++[(k,.int stk.length)]:=by
 unfold bY
 rw [if_neg]
 rw [List.any_eq_true]
 rintro ⟨e,he,hk⟩
 haveI:e.1∈(bl stk).map (·.1):=List.mem_map_of_mem he
 rw [dw,of_decide_eq_true hk] at this
 exact h (by simpa using this)
theorem t6 {e:Ent}(h:e.k∉r.map (·.k)):ca (bl (e::r)) e.k=bl r:=by
 unfold ca
 rw [bl,List.filter_append]
 haveI h1:(bl r).filter (λx=>decide (x.1≠e.k))=bl r:=by
  refine List.filter_eq_self.mpr λx hx=>?_
  haveI:x.1∈(bl r).map (·.1):=List.mem_map_of_mem hx
  rw [dw] at this
  refine decide_eq_true λq=>h ?_
  rw [q] at this
  simpa using this
 rw [h1]
 simp
end
section
structure DF (U0:Store)(S:Sr)(N:Nat)(H:Store)(stk:List Ent)(fin seen:List Str):Prop where
 grow:Pers U0 H
 st:H.at (N+1)=some (.list (stk.reverse.map λe=>.str e.k))
 its:H.at (N+2)=some (.list (stk.reverse.map λe=>.loc e.bm))
 se:H.at (N+3)=some (.set seen)
 nd:H.at (N+4)=some (.dict (bl stk))
 bm:∀e∈stk,H.at e.bm=some (.bmeth "method-wrapper" "list_iterator.__next__" (.loc e.it))
 it:∀e∈stk,H.at e.it=some (.iterL e.l e.pos)
 itn:(stk.map (·.it)).Nodup
 hi:∀e∈stk,N+5<e.bm/\N+5<e.it
 ent:∀e∈stk,∃x∈S.ns,x.k=e.k/\x.l=e.l/\e.pos<=x.su.length
 kn:(stk.map (·.k)).Nodup
 fn:fin.Nodup
 dis:∀k∈fin,k∉stk.map (·.k)
 fk:∀k∈fin,∃x∈S.ns,x.k=k
 sn:∀k,k∈seen↔k∈fin∨k∈stk.map (·.k)
 sl:seen.length=fin.length+stk.length
 ord:dM (dl S.ns) fin
theorem gn:∀{l m:List Str},l.Nodup->(∀a∈l,a∈m)->l.length<=m.length
 | [],_,_,_=>Nat.zero_le _
 | a::l,m,h,s=>by
  rw [List.nodup_cons] at h
  haveI ha:=s a (.head _)
  haveI:=gn (l:=l) (m:=m.erase a) h.2 λb hb=>(List.mem_erase_of_ne (λe=>h.1 (by rw [←e];exact hb))).mpr (s b (.tail _ hb))
  rw [List.length_erase_of_mem ha] at this
  exact Nat.add_le_of_le_sub (List.length_pos_of_mem ha) this
theorem j5 {ns:List Nd}{l:List Str}(h:l.Nodup)(hk:∀k∈l,∃x∈ns,x.k=k):l.length<=ns.length:=by
 haveI:=gn (m:=ns.map (·.k)) h λk hkl=>by
  obtain ⟨x,hx,rfl⟩:=hk k hkl
  exact List.mem_map_of_mem (f:=λx:Nd=>x.k) hx
 simpa using this
theorem Src.keys {U1:Store}{i N ep:Nat}{es:List (Str×AVal)}(hN:U1.length=N)(h:U1.at i=some (.dictE es ep)):Src U1 (.loc i) N (.keys i es.length ep) (es.map λp=>.str p.1):=
 ⟨hN,.keys h,λH g=>.keys (g.at h)⟩
noncomputable def kI (ns:List Nd)(seen:List Str):Nat:=(ns.map λx=>if x.k∈seen then 0 else x.su.length+2).sum
noncomputable def eA (ns:List Nd)(stk:List Ent):Nat:=(stk.map λe=>(dl ns e.k).length - e.pos+1).sum
theorem oH {ns:List Nd}{seen:List Str}{x:Nd}(hn:(ns.map (·.k)).Nodup)(hx:x∈ns)(hk:x.k∉seen):kI ns (seen++[x.k])+x.su.length+2<=kI ns seen:=by
 induction ns with
 | nil=>cases hx
 | cons a l ih=>
  rw [List.map_cons,List.nodup_cons] at hn
  unfold kI at ih ⊢
  rw [List.map_cons,List.map_cons,List.sum_cons,List.sum_cons]
  rcases List.mem_cons.mp hx with rfl | hx'
  ·haveI:(l.map λy=>if y.k∈seen++[x.k] then 0 else y.su.length+2)=l.map λy=>if y.k∈seen then 0 else y.su.length+2:=by
    refine List.map_congr_left λy hy=>?_
    haveI hne:y.k≠x.k:=λe=>hn.1 (by rw [←e];exact List.mem_map_of_mem (f:=λx:Nd=>x.k) hy)
    simp [hne]
   rw [this,if_pos (by simp),if_neg hk]
   omega
  ·haveI:=ih hn.2 hx'
   haveI h2:(if a.k∈seen++[x.k] then 0 else a.su.length+2)<=if a.k∈seen then 0 else a.su.length+2:=by
    by_cases q:a.k∈seen
    ·rw [if_pos q,if_pos (by simp [q])];exact Nat.le_refl _
    ·rw [if_neg q];split <;> omega
   omega
theorem DF.len {U0:Store}{S:Sr}{N:Nat}{H:Store}{stk:List Ent}{fin seen:List Str}(h:DF U0 S N H stk fin seen):fin.length+stk.length<=S.ns.length:=by
 haveI:(fin++stk.map (·.k)).length<=S.ns.length:=j5 (List.nodup_append.mpr ⟨h.fn,h.kn,λa ha b hb e=>h.dis a ha (e▸hb)⟩) λk hk=>by
  rcases List.mem_append.mp hk with hk | hk
  ·exact h.fk k hk
  ·obtain ⟨e,he,rfl⟩:=List.mem_map.mp hk
   obtain ⟨x,hx,hk,_⟩:=h.ent e he
   exact ⟨x,hx,hk⟩
 simpa using this
noncomputable def kF:AObj->Bool
 | .frame _=>true
 | .iter _ _=>true
 | _=>false
theorem DF.put {U0:Store}{S:Sr}{N:Nat}{H:Store}{stk:List Ent}{fin seen:List Str}(h:DF U0 S N H stk fin seen){i:Nat}{y o:AObj}(hy:H.at i=some y)(hk:kF y=true)(hi:U0.length<=i):DF U0 S N (H.put i o) stk fin seen:=by
 have kp:∀{j z},H.at j=some z->kF z=false->(H.put i o).at j=some z:=λhj hz=>at_put_kind hj hy (by intro e;rw [e,hk] at hz;cases hz)
 exact ⟨h.grow.putN hi,kp h.st rfl,kp h.its rfl,kp h.se rfl,kp h.nd rfl,λe he=>kp (h.bm e he) rfl,λe he=>kp (h.it e he) rfl,h.itn,h.hi,h.ent,h.kn,h.fn,h.dis,h.fk,h.sn,h.sl,h.ord⟩
noncomputable def Ent.adv (e:Ent):Ent:={e with pos:=e.pos+1}
theorem DF.adv {U0:Store}{S:Sr}{N:Nat}{H:Store}{e:Ent}{r:List Ent}{fin seen:List Str}(h:DF U0 S N H (e::r) fin seen)(hU:U0.length=N)(hp:∀x∈S.ns,x.k=e.k->e.pos+1<=x.su.length):DF U0 S N (H.put e.it (.iterL e.l (e.pos+1))) (e.adv::r) fin seen:=by
 have hie:=h.it e (.head _)
 have kp:∀{j z},H.at j=some z->(∀a b,z≠.iterL a b)->(H.put e.it (.iterL e.l (e.pos+1))).at j=some z:=λhj hz=>at_put_kind hj hie (hz _ _)
 have hN:=h.hi e (.head _)
 haveI hn:=h.itn
 rw [List.map_cons,List.nodup_cons] at hn
 refine ⟨h.grow.putN (by omega),?_,?_,kp h.se (by intro _ _ e;cases e),?_,λe' he=>?_,λe' he=>?_,h.itn,λe' he=>?_,λe' he=>?_,h.kn,h.fn,h.dis,h.fk,h.sn,h.sl,h.ord⟩
 ·haveI:(e.adv::r).reverse.map (λe=>AVal.str e.k)=(e::r).reverse.map (λe=>AVal.str e.k):=by simp [Ent.adv]
  rw [this];exact kp h.st (by intro _ _ e;cases e)
 ·haveI:(e.adv::r).reverse.map (λe=>AVal.loc e.bm)=(e::r).reverse.map (λe=>AVal.loc e.bm):=by simp [Ent.adv]
  rw [this];exact kp h.its (by intro _ _ e;cases e)
 ·exact kp h.nd (by intro _ _ e;cases e)
 ·rcases List.mem_cons.mp he with rfl | he
  ·exact kp (h.bm e (.head _)) (by intro _ _ e;cases e)
  ·exact kp (h.bm e' (.tail _ he)) (by intro _ _ e;cases e)
 ·rcases List.mem_cons.mp he with rfl | he
  ·exact at_put_eq hie
  ·exact at_put_ne (λq=>hn.1 (by rw [←q];exact List.mem_map_of_mem (f:=λe:Ent=>e.it) he)) (h.it e' (.tail _ he))
 ·rcases List.mem_cons.mp he with rfl | he
  ·exact h.hi e (.head _)
  ·exact h.hi e' (.tail _ he)
 ·rcases List.mem_cons.mp he with rfl | he
  ·obtain ⟨x,hx,h1,h2,h3⟩:=h.ent e (.head _)
   exact ⟨x,hx,h1,h2,hp x hx h1⟩
  ·exact h.ent e' (.tail _ he)
noncomputable def FR7 (S:Sr)(N:Nat):List (Str×AVal):=[("self",.loc S.s),("n2i",.loc S.m),("stack",.loc (N+1)),("itstack",.loc (N+2)),("seen",.loc (N+3)),("node2stacki",.loc (N+4))]
theorem aF {c:Cfg}{P:SP}{E:AEnv}{X:XP}{U:Store}{x:Stmt}{rest:List Stmt}{Q:ai->Store->Prop}(M:Store->Prop)(h:TS c P E x (a9 M Q) X U)(k:∀U1,M U1->TSs c P E rest Q X U1):TSs c P E (x::rest) Q X U:=by
 refine TSs_cons' (TM.mono h ?_ λω ω h=>h)
 rintro V' U' r _ ⟨a,ra,q⟩
 refine ⟨a,ra,?_⟩
 cases a with
 | next=>exact k _ q
 | brk=>exact q
 | cont=>exact q
 | ret v=>exact q
noncomputable def FR8 (S:Sr)(N:Nat)(v:Str):List (Str×AVal):=[("self",.loc S.s),("n2i",.loc S.m),("stack",.loc (N+1)),("itstack",.loc (N+2)),("seen",.loc (N+3)),("node2stacki",.loc (N+4)),("node",.str v)]
structure CyC (U:Store)(S:Sr)(N ep:Nat):Prop where
 len:U.length=N
 srt:Srt U S
 m:U.at S.m=some (.dictE (n2i S.ns) ep)
 l10:S.ns.length<=10
 ins:∀x∈S.ns,∀s∈x.su,∃y∈S.ns,y.k=s
 su:∀x∈S.ns,x.su.length<=1000
def vn (S:Sr)(N ep j:Nat)(H:Store):Prop:=H.at (N+5)=some (.iter (.keys S.m (n2i S.ns).length ep) (j+1))
def CyAll (S:Sr)(j:Nat)(fin:List Str):Prop:=∀(i:Nat) x,i<j->S.ns[i]? = some x->x.k∈fin
structure CyO (U:Store)(S:Sr)(N j:Nat)(fin seen:List Str)(H:Store):Prop where
 df:DF U S N H [] fin seen
 fr:FrHas H N (FR7 S N)
 all:CyAll S j fin
 hl:N+5<H.length
def CyOE (U:Store)(S:Sr)(N j:Nat)(H:Store):Prop:=∃fin seen,CyO U S N j fin seen H
structure CyI (U:Store)(S:Sr)(N ep j n:Nat)(xk:Str)(stk:List Ent)(fin seen:List Str)(H:Store):Prop where
 df:DF U S N H stk fin seen
 fr:FrHas H N (FR7 S N)
 top:Top2 (dl S.ns) fin stk
 all:CyAll S j fin
 x3:xk∈fin∨xk∈stk.map (·.k)
 m:kI S.ns seen+eA S.ns stk<=n
 it:vn S N ep j H
def CyIE (U:Store)(S:Sr)(N ep j n:Nat)(xk:Str)(k:Nat)(H:Store):Prop:=∃stk fin seen,k=stk.length/\CyI U S N ep j n xk stk fin seen H
def CyM (U:Store)(S:Sr)(N ep j n:Nat)(xk:Str)(H:Store):Prop:=∃k,CyIE U S N ep j n xk k H
structure CyW (U:Store)(S:Sr)(N ep j n:Nat)(xk:Str)(stk:List Ent)(fin seen:List Str)(v:Str)(H:Store):Prop where
 df:DF U S N H stk fin seen
 fr:FrHas H N (FR8 S N v)
 path:Path (dl S.ns) fin v stk
 y:∃y∈S.ns,y.k=v
 all:CyAll S j fin
 x3:xk∈fin∨xk∈stk.map (·.k)∨(stk=[]/\v=xk)
 nil:stk=[]->v∉seen
 m:kI S.ns seen+eA S.ns stk<=n
 it:vn S N ep j H
def CyWE (U:Store)(S:Sr)(N ep j:Nat)(xk:Str)(n:Nat)(H:Store):Prop:=∃stk fin seen v,CyW U S N ep j n xk stk fin seen v H
def vm (U:Store)(S:Sr)(a:AVal)(U':Store):Prop:=Pers U U'/\(a=.none/\sk S.ns∨∃i l,a=.loc i/\U'.at i=some (.list l)/\U.length<=i/\l≠[]/\l.length<=100/\Cyc (dl S.ns))
theorem bk {N a b:Nat}(h:a≠b):N+a≠N+b:=λe=>h (Nat.add_left_cancel e)
theorem DF.push {U0:Store}{S:Sr}{N:Nat}{H:Store}{stk:List Ent}{fin seen:List Str}(f1:DF U0 S N H stk fin seen)(hU:U0.length=N){y:Nd}{v:Str}(hy:y∈S.ns)(hyv:y.k=v)(hvs:v∉seen){Z:Nat}(hZ:H.length=Z)(hZ5:N+5<Z) :
  DF U0 S N ((((H.put (N+3) (.set (seen++[v]))).put (N+2) (.list ((stk.reverse.map λe=>AVal.loc e.bm)++[.loc (Z+1)]))).put (N+4) (.dict (bl stk++[(v,.int stk.length)]))).put (N+1) (.list ((stk.reverse.map λe=>AVal.str e.k)++[.str v]))++[some (.iterL y.l 0),some (.bmeth "method-wrapper" "list_iterator.__next__" (.loc Z))]) (⟨v,Z+1,Z,y.l,0⟩::stk) fin (seen++[v]):=by
 haveI hvf:v∉fin:=λh=>hvs ((f1.sn v).mpr (.inl h))
 haveI hvk:v∉stk.map (·.k):=λh=>hvs ((f1.sn v).mpr (.inr h))
 haveI g:=λi=>(show U0.length<=N+i from hU▸Nat.le_add_right _ _)
 haveI a4:=at_put_eq (x:=AObj.list ((stk.reverse.map λe=>AVal.str e.k)++[.str v])) (at_put_ne (x:=.dict (bl stk++[(v,.int stk.length)])) (bk (N:=N) (show 1≠4 by decide)) (at_put_ne (x:=.list ((stk.reverse.map λe=>AVal.loc e.bm)++[.loc (Z+1)])) (bk (show 1≠2 by decide)) (at_put_ne (x:=.set (seen++[v])) (bk (show 1≠3 by decide)) f1.st)))
 haveI a2:=at_put_ne (x:=.list ((stk.reverse.map λe=>AVal.str e.k)++[.str v])) (bk (N:=N) (show 2≠1 by decide)) (at_put_ne (x:=.dict (bl stk++[(v,.int stk.length)])) (bk (show 2≠4 by decide)) (at_put_eq (x:=.list ((stk.reverse.map λe=>AVal.loc e.bm)++[.loc (Z+1)])) (at_put_ne (x:=.set (seen++[v])) (bk (show 2≠3 by decide)) f1.its)))
 haveI a1:=at_put_ne (x:=.list ((stk.reverse.map λe=>AVal.str e.k)++[.str v])) (bk (N:=N) (show 3≠1 by decide)) (at_put_ne (x:=.dict (bl stk++[(v,.int stk.length)])) (bk (show 3≠4 by decide)) (at_put_ne (x:=.list ((stk.reverse.map λe=>AVal.loc e.bm)++[.loc (Z+1)])) (bk (show 3≠2 by decide)) (at_put_eq (x:=.set (seen++[v])) f1.se)))
 haveI a3:=at_put_ne (x:=.list ((stk.reverse.map λe=>AVal.str e.k)++[.str v])) (bk (N:=N) (show 4≠1 by decide)) (at_put_eq (x:=.dict (bl stk++[(v,.int stk.length)])) (at_put_ne (x:=.list ((stk.reverse.map λe=>AVal.loc e.bm)++[.loc (Z+1)])) (bk (show 4≠2 by decide)) (at_put_ne (x:=.set (seen++[v])) (bk (show 4≠3 by decide)) f1.nd)))
 haveI old:∀{i o},N+5<i->H.at i=some o->((((H.put (N+3) (.set (seen++[v]))).put (N+2) (.list ((stk.reverse.map λe=>AVal.loc e.bm)++[.loc (Z+1)]))).put (N+4) (.dict (bl stk++[(v,.int stk.length)]))).put (N+1) (.list ((stk.reverse.map λe=>AVal.str e.k)++[.str v]))).at i=some o:=λ{i o} hi h=>by
  haveI n:=λk (hk:k<=5)=>(show i≠N+k from Nat.ne_of_gt (Nat.lt_of_le_of_lt (Nat.add_le_add_left hk N) hi))
  exact at_put_ne (n 1 (by decide)) (at_put_ne (n 4 (by decide)) (at_put_ne (n 2 (by decide)) (at_put_ne (n 3 (by decide)) h)))
 haveI gr:Pers U0 ((((H.put (N+3) (.set (seen++[v]))).put (N+2) (.list ((stk.reverse.map λe=>AVal.loc e.bm)++[.loc (Z+1)]))).put (N+4) (.dict (bl stk++[(v,.int stk.length)]))).put (N+1) (.list ((stk.reverse.map λe=>AVal.str e.k)++[.str v]))):=(((f1.grow.putN (g 3)).putN (g 2)).putN (g 4)).putN (g 1)
 haveI hLen:((((H.put (N+3) (.set (seen++[v]))).put (N+2) (.list ((stk.reverse.map λe=>AVal.loc e.bm)++[.loc (Z+1)]))).put (N+4) (.dict (bl stk++[(v,.int stk.length)]))).put (N+1) (.list ((stk.reverse.map λe=>AVal.str e.k)++[.str v]))).length=Z:=by rw [Store.put_length,Store.put_length,Store.put_length,Store.put_length,hZ]
 generalize ((((H.put (N+3) (.set (seen++[v]))).put (N+2) (.list ((stk.reverse.map λe=>AVal.loc e.bm)++[.loc (Z+1)]))).put (N+4) (.dict (bl stk++[(v,.int stk.length)]))).put (N+1) (.list ((stk.reverse.map λe=>AVal.str e.k)++[.str v])))=τ at *
 haveI cons:∀{p:Ent->Prop},p ⟨v,Z+1,Z,y.l,0⟩->(∀e∈stk,p e)->∀e∈(⟨v,Z+1,Z,y.l,0⟩::stk:List Ent),p e:=λh k e he=>(List.mem_cons.mp he).elim (λq=>q▸h) (k e)
 refine ⟨gr.trans (Pers.of (Grow.app _ _)),?_,?_,at_app_l a1,at_app_l a3,cons (at_app_r (j:=1) hLen rfl) λe he=>at_app_l (old (f1.hi e he).1 (f1.bm e he)),cons (at_app_0 hLen) λe he=>at_app_l (old (f1.hi e he).2 (f1.it e he)),?_,cons ⟨Nat.lt_succ_of_lt hZ5,hZ5⟩ f1.hi,cons ⟨y,hy,hyv,rfl,Nat.zero_le _⟩ f1.ent,?_,f1.fn,?_,f1.fk,?_,?_,f1.ord⟩
 ·rw [List.reverse_cons,List.map_append];exact at_app_l a4
 ·rw [List.reverse_cons,List.map_append];exact at_app_l a2
 ·rw [List.map_cons,List.nodup_cons]
  refine ⟨λh=>?_,f1.itn⟩
  obtain ⟨e,he,q⟩:=List.mem_map.mp h
  exact absurd (Store.at_lt (f1.it e he)) (by rw [hZ,show e.it=Z from q];exact Nat.lt_irrefl _)
 ·rw [List.map_cons,List.nodup_cons];exact ⟨hvk,f1.kn⟩
 ·intro k hk h
  rw [List.map_cons] at h
  exact (List.mem_cons.mp h).elim (λh=>hvf (by rw [←show k=v from h];exact hk)) (f1.dis k hk)
 ·intro k
  rw [List.map_cons,List.mem_append,List.mem_singleton,List.mem_cons,f1.sn k]
  exact ⟨λh=>h.elim (λh=>h.elim .inl λh=>.inr (.inr h)) λh=>.inr (.inl h),λh=>h.elim (λh=>.inl (.inl h)) λh=>h.elim .inr λh=>.inl (.inr h)⟩
 ·rw [List.length_append,List.length_cons,f1.sl];rfl
theorem DF.pop {U0:Store}{S:Sr}{N:Nat}{H τ:Store}{e:Ent}{r:List Ent}{fin seen:List Str}(f1:DF U0 S N H (e::r) fin seen)(hU:U0.length=N)(hs:∀s∈dl S.ns e.k,s∈fin)(hP:Pers U0 τ)(old:∀{j o},H.at j=some o->j≠e.it->isX o=false->τ.at j=some o) :
  DF U0 S N (((τ.put (N+1) (.list (r.reverse.map λe=>AVal.str e.k))).put (N+4) (.dict (bl r))).put (N+2) (.list (r.reverse.map λe=>AVal.loc e.bm))) r (e.k::fin) seen:=by
 have g:=λi=>(show U0.length<=N+i from hU▸Nat.le_add_right _ _)
 have hkn:=f1.kn
 rw [List.map_cons,List.nodup_cons] at hkn
 have hitn:=f1.itn
 rw [List.map_cons,List.nodup_cons] at hitn
 have hNi:=(f1.hi e (.head _)).2
 have n0:=λk (hk:k<=5)=>(show N+k≠e.it from Nat.ne_of_lt (Nat.lt_of_le_of_lt (Nat.add_le_add_left hk N) hNi))
 have at1:=old f1.st (n0 1 (by decide)) rfl
 haveI at2:=old f1.its (n0 2 (by decide)) rfl
 haveI at3:=old f1.se (n0 3 (by decide)) rfl
 haveI at4:=old f1.nd (n0 4 (by decide)) rfl
 haveI keep:∀{i o},N+5<i->τ.at i=some o->(((τ.put (N+1) (.list (r.reverse.map λe=>AVal.str e.k))).put (N+4) (.dict (bl r))).put (N+2) (.list (r.reverse.map λe=>AVal.loc e.bm))).at i=some o:=λ{i o} hi h=>by
  haveI n:=λk (hk:k<=5)=>(show i≠N+k from Nat.ne_of_gt (Nat.lt_of_le_of_lt (Nat.add_le_add_left hk N) hi))
  exact at_put_ne (n 2 (by decide)) (at_put_ne (n 4 (by decide)) (at_put_ne (n 1 (by decide)) h))
 refine ⟨((hP.putN (g 1)).putN (g 4)).putN (g 2),at_put_ne (bk (by decide)) (at_put_ne (bk (by decide)) (at_put_eq at1)),at_put_eq (at_put_ne (bk (by decide)) (at_put_ne (bk (by decide)) at2)),at_put_ne (bk (by decide)) (at_put_ne (bk (by decide)) (at_put_ne (bk (by decide)) at3)),at_put_ne (bk (by decide)) (at_put_eq (at_put_ne (bk (by decide)) at4)),λe' he=>?_,λe' he=>?_,hitn.2,λe' he=>f1.hi e' (.tail _ he),λe' he=>f1.ent e' (.tail _ he),hkn.2,List.nodup_cons.mpr ⟨λh=>f1.dis _ h (.head _),f1.fn⟩,λk hk h=>?_,λk hk=>?_,λk=>?_,?_,⟨hs,f1.ord⟩⟩
 ·haveI hb:=f1.bm e' (.tail _ he)
  exact keep (f1.hi e' (.tail _ he)).1 (old hb (λq=>by rw [q,f1.it e (.head _)] at hb;cases hb) rfl)
 ·exact keep (f1.hi e' (.tail _ he)).2 (old (f1.it e' (.tail _ he)) (λq=>hitn.1 (by rw [←q];exact List.mem_map_of_mem (f:=λe:Ent=>e.it) he)) rfl)
 ·exact (List.mem_cons.mp hk).elim (λq=>hkn.1 (q▸h)) λhk=>f1.dis k hk (.tail _ h)
 ·obtain ⟨y,hy,hyk,_⟩:=f1.ent e (.head _)
  exact (List.mem_cons.mp hk).elim (λq=>⟨y,hy,q▸hyk⟩) (f1.fk k)
 ·rw [f1.sn k,List.map_cons,List.mem_cons,List.mem_cons]
  exact ⟨λh=>h.elim (λh=>.inl (.inr h)) λh=>h.elim (λh=>.inl (.inl h)) .inr,λh=>h.elim (λh=>h.elim (λh=>.inr (.inl h)) .inl) λh=>.inr (.inr h)⟩
 ·rw [f1.sl,List.length_cons,List.length_cons];exact (Nat.succ_add_eq_add_succ _ _).symm
theorem CyAll.next {S:Sr}{j:Nat}{fin:List Str}{x:Nd}(h:CyAll S j fin)(hx:S.ns[j]? = some x)(hf:x.k∈fin):CyAll S (j+1) fin:=λi y hi hy=>by
 rcases Nat.lt_succ_iff_lt_or_eq.mp hi with hi | rfl
 ·exact h i y hi hy
 ·rw [hx] at hy;cases hy;exact hf
noncomputable def if144:Stmt:=nth (lE (nth (lE (nth qs 5)) 1)) 0
noncomputable def wh144:Stmt:=nth (lE (nth (lE (nth qs 5)) 1)) 1
section
variable {P:SP}{U:Store}{S:Sr}{N ep j n:Nat}{xk:Str}{X:XP}{Q:ai->Store->Prop}
theorem cy_if (hf:P.free=true)(hd:0<P.d)(C:CyC U S N ep){stk:List Ent}{fin seen:List Str}{v:Str}{H:Store}(W:CyW U S N ep j n xk stk fin seen v H)
  (q:∀H,CyM U S N ep j n xk H->Q .next H) (qr:∀a H,vm U S a H->Q (.ret a) H):TS C0 P.down (g9 N) if144 Q X H:=by
 obtain ⟨m3,hm3,_⟩:=id W.fr
 haveI hN:=C.len
 refine TM.weakTo (F:=N) W.fr ?_
 refine na (H.put N (.frame (FR8 S N v))) (p1:=λH1=>DF U S N H1 stk fin seen) (p2:=λH1=>H1.at N=some (.frame [("self",.loc S.s),("n2i",.loc S.m),("stack",.loc (N+1)),("itstack",.loc (N+2)),("seen",.loc (N+3)),("node2stacki",.loc (N+4)),("node",.str v)])) (p3:=λH1=>vn S N ep j H1) (W.df.put hm3 rfl (by omega)) (at_put_eq hm3) (at_put_ne (by omega) W.it) ?_
 intro H1 f1 f3 f5
 haveI hln:=f1.len
 haveI hsl:=f1.sl
 haveI hst:=f1.st
 haveI hits:=f1.its
 haveI hse:=f1.se
 haveI hnd:=f1.nd
 haveI hl10:=C.l10
 show TS C0 P.down (g9 N) (.If _ _ _ _) Q X H1
 repeat k_lt zT
 refine qy (by k_lt zat) (by omega) ?_
 repeat k_lt zT
 refine aA (λhb=>?_) λhb=>?_
 ·haveI hvs:=(f1.sn v).mp (of_decide_eq_true hb)
  k_lt zR
  refine OP2_inD (by k_lt zat) ?_
  k_lt zR
  rw [t5]
  refine aA (λhb2=>?_) λhb2=>?_
  ·haveI hvk:=of_decide_eq_true hb2
   obtain ⟨i,hi,hgi⟩:=jC hvk
   k_lt zR
   refine ig (d:=.int i) (by k_lt zat) hgi ?_
   obtain ⟨Z,hZ⟩:∃Z,H1.length=Z:=⟨_,rfl⟩
   haveI hcl:(dY (stk.reverse.map λe=>AVal.str e.k) (some (i:Int)) none).length<=10:=by
    unfold dY
    rw [List.length_take,List.length_drop,List.length_map,List.length_reverse]
    omega
   k_lt zR
   exact qr _ _ ⟨f1.grow.trans (Pers.of (Grow.app _ _)),.inr ⟨Z+2,_,rfl,at_app_r hZ rfl,by haveI:=f1.grow.1;omega,by simp,by rw [List.length_append];show _+1<=100;omega,W.path.cyc' hvk⟩⟩
  ·k_lt zR
   haveI hvf:v∈fin:=hvs.elim id λh=>absurd h (of_decide_eq_false hb2)
   refine q _ ⟨_,stk,fin,seen,rfl,f1,?_,W.path.toTop hvf,W.all,?_,W.m,f5⟩
   ·unfold FR7;k_lt zfrhas
   ·exact W.x3.imp id λh=>h.elim id λh=>absurd (of_decide_eq_true hb) (W.nil h.1)
 ·haveI hvs:v∉seen:=of_decide_eq_false hb
  obtain ⟨y,hy,hyv⟩:=W.y
  haveI hS:=C.srt
  haveI hyi:=f1.grow.at (hS.i y hy)
  haveI hyd:=f1.grow.at (hS.nd y hy)
  haveI hyl:=f1.grow.at (hS.l y hy)
  haveI hmm:=f1.grow.at C.m
  haveI hyg:=ft hS.ks hy
  unfold Nd.slots at hyi
  obtain ⟨Z,hZ⟩:∃Z,H1.length=Z:=⟨_,rfl⟩
  haveI hl0:stk.length<=lenLine:=Nat.le_trans (show stk.length<=10 by omega) (by decide)
  haveI hl1:(stk.reverse.map λe=>AVal.str e.k).length<=lenLine:=by rw [List.length_map,List.length_reverse];exact hl0
  haveI hl2:(stk.reverse.map λe=>AVal.loc e.bm).length<=lenLine:=by rw [List.length_map,List.length_reverse];exact hl0
  haveI hl3:(bl stk).length<=lenLine:=by rw [mX];exact hl0
  k_lt zR
  refine pD (d:=.loc y.i) (by k_lt zat) (by rw [dx,←hyv,hyg];rfl) ?_
  k_lt zR
  haveI hvk:v∉stk.map (·.k):=λh=>hvs ((f1.sn v).mpr (.inr h))
  haveI hadd:dR v seen=seen++[v]:=by unfold dR;rw [if_neg hvs]
  haveI hlen2:(stk.reverse.map λe=>AVal.str e.k).length=stk.length:=by simp
  rw [hadd,hlen2,oM hvk]
  haveI hZ5:N+5<Z:=hZ▸Store.at_lt f5
  refine q _ ⟨_,_,fin,_,rfl,f1.push hN hy hyv hvs hZ hZ5,?_,⟨λs hs=>by simp at hs,W.path⟩,W.all,?_,?_,?_⟩
  ·unfold FR7;k_lt zfrhas
  ·exact W.x3.imp id λh=>h.elim (λh=>.tail _ h) λh=>h.2▸.head _
  ·haveI h1:=oH hS.ks hy (by rw [hyv];exact hvs)
   rw [hyv] at h1
   haveI h2:eA S.ns (⟨v,Z+1,Z,y.l,0⟩::stk)=y.su.length+1+eA S.ns stk:=by
    unfold eA
    rw [List.map_cons,List.sum_cons,show dl S.ns v=y.su by unfold dl;rw [←hyv,hyg]]
    rfl
   haveI:=W.m
   omega
  ·haveI f5:H1.at (N+5)=_:=f5
   show Store.at _ _=_
   k_lt zat
theorem cy_wh (hf:P.free=true)(hd:0<P.d)(C:CyC U S N ep){x:Nd}(hx1:S.ns[j]? = some x){H:Store}(M:CyM U S N ep j n x.k H)
  (q:∀H m,m<n->CyWE U S N ep j x.k m H->Q .next H) (qb:∀H,CyOE U S N (j+1) H->vn S N ep j H->Q .brk H):TS C0 P.down (g9 N) wh144 Q X H:=by
 obtain ⟨k0,M⟩:=M
 refine dy rfl (CyIE U S N ep j n x.k) k0 M ?_
 clear M H k0
 rintro k H R Y kR kX ⟨stk,fin,seen,rfl,I⟩
 obtain ⟨m4,hm4,-⟩:=id I.fr
 have hN:=C.len
 refine TM.weakTo (t:=λenv=>isTrue _ env (eval _ env)) (F:=N) I.fr ?_
 have ht:=I.top
 have hall:=I.all
 have hx3:=I.x3
 have hM:=I.m
 refine na (H.put N (.frame (FR7 S N))) (p1:=λH1=>DF U S N H1 stk fin seen) (p2:=λH1=>H1.at N=some (.frame [("self",.loc S.s),("n2i",.loc S.m),("stack",.loc (N+1)),("itstack",.loc (N+2)),("seen",.loc (N+3)),("node2stacki",.loc (N+4))])) (p3:=λH1=>vn S N ep j H1) (I.df.put hm4 rfl (by omega)) (at_put_eq hm4) (at_put_ne (by omega) I.it) ?_
 intro H1 f1 f3 f5
 clear I hm4 m4 H
 have hln:=f1.len
 have hsl:=f1.sl
 have hst:=f1.st
 have hits:=f1.its
 have hse:=f1.se
 have hnd:=f1.nd
 have hl10:=C.l10
 have hl0:stk.length<=lenLine:=Nat.le_trans (show stk.length<=10 by omega) (by decide)
 have hl1:(stk.reverse.map λe=>AVal.str e.k).length<=lenLine:=by rw [List.length_map,List.length_reverse];exact hl0
 have hl2:(stk.reverse.map λe=>AVal.loc e.bm).length<=lenLine:=by rw [List.length_map,List.length_reverse];exact hl0
 have hl3:(bl stk).length<=lenLine:=by rw [mX];exact hl0
 k_lt zR
 refine ic (by k_lt zat) hl1 ?_
 cases stk with
 | nil=>
  k_lt zR
  refine qb _ ⟨fin,seen,f1,?_,hall.next hx1 (hx3.elim id λh=>by cases h),Store.at_lt f5⟩ f5
  unfold FR7;k_lt zfrhas
 | cons e r=>
  have hne:(!(((e::r).reverse.map λe=>AVal.str e.k).isEmpty))=true:=by simp
  refine pick_true' hne ?_
  k_lt zR
  obtain ⟨y,hy,hyk,hyl,hpos⟩:=f1.ent e (.head _)
  have hS:=C.srt
  have hli:=f1.grow.at (hS.l y hy)
  rw [hyl] at hli
  have hbm:=f1.bm e (.head _)
  have hie:=f1.it e (.head _)
  have hlast:((e::r).reverse.map λe=>AVal.loc e.bm)[((e::r).reverse.map λe=>AVal.loc e.bm).length - 1]? = some (.loc e.bm):=by simp
  have hlast2:((e::r).reverse.map λe=>AVal.str e.k)[((e::r).reverse.map λe=>AVal.str e.k).length - 1]? = some (.str e.k):=by simp
  haveI hsuv:dl S.ns e.k=y.su:=by unfold dl;rw [←hyk,ft hS.ks hy]
  with_reducible refine uI rfl ?_
  k_lt zR
  refine TCW.mk ?_
  k_lt zR
  refine ⟨KeepR.bmeth (by k_lt zat) rfl,?_⟩
  show TCall _ _ _ _ [] _ _ _ _
  by_cases hlt:e.pos<y.su.length
  ·haveI hx5:(y.su.map AVal.str)[e.pos]? = some (.str y.su[e.pos]):=by simp [hlt]
   refine nA hbm hie hli hx5 rfl ?_
   k_lt zR
   haveI hs5:y.su[e.pos]∈dl S.ns e.k:=by rw [hsuv];exact List.getElem_mem hlt
   haveI g1:=f1.adv hN λz hz hzk=>by
    cases bg hS.ks hz hy (hzk.trans hyk.symm)
    omega
   haveI hE:eA S.ns (e.adv::r)+1=eA S.ns (e::r):=by
    unfold eA
    rw [List.map_cons,List.map_cons,List.sum_cons,List.sum_cons]
    show (dl S.ns e.k).length - (e.pos+1)+1+_+1=_
    rw [hsuv];omega
   haveI hF':(H1.put e.it (.iterL e.l (e.pos+1))).at N=some (.frame [("self",.loc S.s),("n2i",.loc S.m),("stack",.loc (N+1)),("itstack",.loc (N+2)),("seen",.loc (N+3)),("node2stacki",.loc (N+4))]):=by k_lt zat
   refine q _ (n - 1) (by omega) ⟨e.adv::r,fin,seen,y.su[e.pos],g1.put hF' rfl (by omega),?_,⟨λs hs=>?_,hs5,ht.2⟩,C.ins y hy _ (List.getElem_mem hlt),hall,hx3.imp id .inl,(λh=>(by cases h)),by omega,?_⟩
   ·unfold FR8;k_lt zfrhas
   ·haveI hs:s∈(dl S.ns e.k).take (e.pos+1):=hs
    rw [hsuv,List.take_succ_eq_append_getElem hlt] at hs
    exact (List.mem_append.mp hs).imp (λhs=>ht.1 s (by rw [hsuv];exact hs)) λhs=>by simpa using hs
   ·haveI f5:H1.at (N+5)=_:=f5
    show Store.at _ _=_
    k_lt zat
  ·haveI hpe:e.pos=(y.su.map AVal.str).length:=by rw [List.length_map];omega
   rw [hpe] at hie
   refine nz (SP.down_free hf) hbm hie hli ?_
   haveI hNi:=(f1.hi e (.head _)).2
   haveI hgl:(H1.gone e.it).length=H1.length:=Store.gone_length ..
   refine lV (m:=[("self",.loc S.s),("n2i",.loc S.m),("stack",.loc (N+1)),("itstack",.loc (N+2)),("seen",.loc (N+3)),("node2stacki",.loc (N+4))]) (by k_lt zat) (.inl (by rw [←hgl];exact at_app_0 rfl)) λτ hx hp=>?_
   refine fX hx (pu (by k_lt u) (by k_lt u) (by k_lt u) (by k_lt u) (by k_lt u) ⟨rfl,rfl⟩) tP λτ2 hx2 hp2=>?_
   haveI hpp:=hp.trans hp2
   haveI old:∀{j o},H1.at j=some o->j≠e.it->isX o=false->τ2.at j=some o:=λh hn hx=>hpp.at (at_app_l (l:=[some (.exc (.type "StopIteration") none)]) (at_gone_ne hn h)) hx
   haveI q3:=old f3 (by omega) rfl
   haveI q1:=old hst (by omega) rfl
   haveI q2:=old hits (by omega) rfl
   haveI q5:=old hnd (by omega) rfl
   haveI q6:τ2.at (N+5)=_:=old f5 (by omega) rfl
   haveI hsome:(ae e.k (bl (e::r))).isSome=true:=by
    obtain ⟨i,_,h⟩:=jC (k:=e.k) (stk:=e::r) (.head _)
    rw [h];rfl
   k_lt zR
   haveI hkn:=f1.kn
   rw [List.map_cons,List.nodup_cons] at hkn
   rw [t6 hkn.1]
   haveI d1:((e::r).reverse.map λe=>AVal.str e.k).dropLast=r.reverse.map λe=>AVal.str e.k:=by simp
   haveI d2:((e::r).reverse.map λe=>AVal.loc e.bm).dropLast=r.reverse.map λe=>AVal.loc e.bm:=by simp
   rw [d1,d2]
   haveI hE:eA S.ns r+1<=eA S.ns (e::r):=by
    unfold eA
    rw [List.map_cons,List.sum_cons];omega
   haveI hsf:∀s∈dl S.ns e.k,s∈fin:=λs hs=>ht.1 s (by rw [List.take_of_length_le (by rw [hsuv];omega)];exact hs)
   refine ⟨r.length,Nat.lt_succ_self _,r,e.k::fin,seen,rfl,f1.pop hN hsf (((f1.grow.goneN (by omega)).trans (Pers.of (Grow.app _ _))).trans hpp) old,?_,ht.2.pop,λi z hi hz=>.tail _ (hall i z hi hz),?_,by omega,?_⟩
   ·unfold FR7;k_lt zfrhas
   ·exact hx3.elim (λh=>.inl (.tail _ h)) λh=>by
     rw [List.map_cons] at h
     exact (List.mem_cons.mp h).imp (λh=>by rw [h];exact .head _) id
   ·show Store.at _ _=_
    k_lt zat
end
theorem sS {P:SP}(hd:0<P.d)(hf:P.free=true)(U:Store)(S:Sr)(hS:Srt U S){ep:Nat}(hep:S.ep=some ep)(hlen:S.ns.length<=10)(hin:∀x∈S.ns,∀s∈x.su,∃y∈S.ns,y.k=s)(hsu:∀x∈S.ns,x.su.length<=1000){X:XP} :
  TC C0 P (.top (.ref 144)) [.loc S.s] [] (vm U S) X U:=by
 obtain ⟨N,hN⟩:∃N,U.length=N:=⟨_,rfl⟩
 haveI hs:=hS.s
 haveI hD:=hS.d
 haveI hm:=hS.m
 rw [hep] at hm
 change U.at S.m=some (.dictE (n2i S.ns) ep) at hm
 haveI C:CyC U S N ep:=⟨hN,hS,hm,hlen,hin,hsu⟩
 refine TC.of (tk144 hN hd ?_)
 refine TSs_cons' (x:=?_) ?_
 k_lt zR
 refine br (SP.down_free hf) rfl (λω ω=>rfl) ?_
 k_lt zR
 haveI hm0:(U++[some (AObj.frame [("self",AVal.loc S.s),("n2i",AVal.loc S.m),("stack",AVal.loc (N+1)),("itstack",AVal.loc (N+2)),("seen",AVal.loc (N+3)),("node2stacki",AVal.loc (N+4))]),some (AObj.list []),some (AObj.list []),some (AObj.set []),some (AObj.dict [])]:Store).at S.m=some (.dictE (n2i S.ns) ep):=by k_lt zat
 refine ⟨N+5,.keys S.m (n2i S.ns).length ep,(n2i S.ns).map λp=>.str p.1,CyOE U S N,Src.keys (by rw [List.length_append,hN];rfl) hm0,?h0,?hx,λω ω=>rfl,?turn,?fin⟩
 case h0=>
  refine ⟨[],[],⟨Pers.of ((Grow.app _ _).trans (Grow.app _ _)),by k_lt zat,by k_lt zat,by k_lt zat,by k_lt zat,λω h=>(List.not_mem_nil h).elim,λω h=>(List.not_mem_nil h).elim,List.nodup_nil,λω h=>(List.not_mem_nil h).elim,λω h=>(List.not_mem_nil h).elim,List.nodup_nil,List.nodup_nil,λω h=>(List.not_mem_nil h).elim,λω h=>(List.not_mem_nil h).elim,λk=>by simp,rfl,trivial⟩,?_,λω ω h=>(Nat.not_lt_zero _ h).elim,?_⟩
  ·unfold FR7;k_lt zfrhas
  ·rw [List.length_append,List.length_append,hN];exact Nat.lt_succ_self _
 case hx=>
  rintro j H ⟨fin,seen,h⟩
  exact .keys (h.df.grow.at hm)
 case fin=>
  rintro H ⟨fin,seen,h⟩ hit
  k_lt zR
  refine ⟨h.df.grow.goneN (by omega),.inl ⟨rfl,fin,h.df.ord,h.df.fn,λx hx=>?_,by haveI:=h.df.len;simpa using this⟩⟩
  obtain ⟨i,hi,e⟩:=List.getElem_of_mem hx
  refine h.all i x ?_ (by rw [List.getElem?_eq_getElem hi,e])
  unfold n2i;simpa using hi
 case turn=>
  clear hm0 hs hD hin hsu
  rintro j v H R Y kR kX hv ⟨fin,seen,h⟩ hit
  obtain ⟨x,hx1,rfl⟩:∃x,S.ns[j]? = some x/\v=.str x.k:=by
   unfold n2i at hv
   rw [List.map_map,List.getElem?_map] at hv
   cases e:S.ns[j]? with
   | none=>rw [e] at hv;cases hv
   | some y=>rw [e] at hv;cases hv;exact ⟨y,rfl,rfl⟩
  refine TV1.weakTo (F:=N) (h.fr.put_ne (by omega)) ?_
  obtain ⟨m3,hm3,-⟩:=id h.fr
  haveI hall:=h.all
  refine na ((H.put (N+5) (.iter (.keys S.m (n2i S.ns).length ep) (j+1))).put N (.frame (FR7 S N))) (p1:=λH1=>DF U S N H1 [] fin seen) (p2:=λH1=>H1.at N=some (.frame [("self",.loc S.s),("n2i",.loc S.m),("stack",.loc (N+1)),("itstack",.loc (N+2)),("seen",.loc (N+3)),("node2stacki",.loc (N+4))])) (p3:=λH1=>H1.at (N+5)=some (.iter (.keys S.m (n2i S.ns).length ep) (j+1))) ((h.df.put hit rfl (by omega)).put (at_put_ne (by omega) hm3) rfl (by omega)) (by k_lt zat) (by k_lt zat) ?_
  intro H1 f1 f3 f5
  clear h hit hm3 m3 H
  k_lt zR
  haveI hln:=f1.len
  haveI hse:=f1.se
  refine qy (by k_lt zat) (by haveI:=f1.sl;simp at this hln;omega) ?_
  k_lt zR
  refine aA (λhb=>?_) λhb=>?_
  ·k_lt zR
   haveI hx':x.k∈fin:=by
    haveI:=(f1.sn x.k).mp (of_decide_eq_true hb)
    simpa using this
   refine ⟨⟨fin,seen,f1.put f3 rfl (by omega),?_,hall.next hx1 hx',by rw [Store.put_length];exact Store.at_lt f5⟩,by k_lt zat⟩
   unfold FR7;k_lt zfrhas
  ·k_lt zR
   haveI hxs:x.k∉seen:=of_decide_eq_false hb
   haveI hF8:(H1.put N (.frame (FR8 S N x.k))).at N=some (.frame (FR8 S N x.k)):=at_put_eq f3
   refine dy rfl (CyWE U S N ep j x.k) (kI S.ns seen+eA S.ns []) ⟨[],fin,seen,x.k,f1.put f3 rfl (by omega),?_,trivial,⟨x,List.mem_of_getElem? hx1,rfl⟩,hall,.inr (.inr ⟨rfl,rfl⟩),λω=>hxs,Nat.le_refl _,by show Store.at _ _=_;k_lt zat⟩ ?_
   ·unfold FR8;k_lt zfrhas
   clear hF8 hxs hb hse hln f1 f3 f5
   clear hall
   clear seen fin H1
   rintro n H' R2 Y2 kR2 kX2 ⟨stk,fin,seen,v,W⟩
   repeat k_lt zT
   with_reducible refine aF (CyM U S N ep j n x.k) ?_ ?_
   ·exact cy_if hf hd C W (λω h=>h) λω ω h=>kR2 (loopQ_ret (kR (loopQ_ret h)))
   ·intro H2 M
    with_reducible refine TSs_one ?_
    exact cy_wh hf hd C hx1 M (λω m hm h=>kR2 (loopQ_next ⟨m,hm,h⟩)) λω h h'=>kR2 (loopQ_brk (kR (loopQ_next ⟨h,h'⟩)))
end
section
noncomputable def ay (ns:List Nd):List Str:=(ns.filter λx=>x.np == 0).map (·.k)
noncomputable def mC (ns:List Nd):AVal->Option AVal
 | .loc i=>(ns.find? λx=>x.i == i).bind λx=>if x.np == 0 then some (.str x.k) else none
 | _=>none
theorem Src.vals {U1:Store}{i d N ep:Nat}{es:List (Str×AVal)}(hN:U1.length=N)(hv:U1.at i=some (.vals d))(h:U1.at d=some (.dictE es ep)):Src U1 (.loc i) N (.vals d es.length ep) (es.map λp=>p.2):=
 ⟨hN,.vals hv h,λH g=>.vals (g.at h)⟩
theorem Pers.back {U U':Store}{F:Nat}{x:AObj}(hF:U.at F=some x)(g:Pers (U.gone F) U'):Pers U (U'.put F x):=by
 have hl:=g.1
 rw [Store.gone_length] at hl
 refine ⟨by simpa using hl,λj y e hx=>?_⟩
 by_cases q:j=F
 ·subst q
  rw [hF] at e;cases e
  rw [Store.at_put (Nat.lt_of_lt_of_le (Store.at_lt hF) hl),if_pos rfl]
 ·exact at_put_ne q (g.2 j y (at_gone_ne q e) hx)
abbrev PrpQ (U:Store)(S:Sr)(a:AVal)(U':Store):Prop:=∃p,a=.none/\sk S.ns/\U.length<=p/\Srt U' {S with rdy:=some (p,ay S.ns)}/\Kept S U U'
theorem nY {P:SP}(hd:1<P.d)(hf:P.free=true)(U:Store)(S:Sr)(hS:Srt U S)(hep:S.ep=none)(hr:S.rdy=none)(hlen:S.ns.length<=10)(hin:∀x∈S.ns,∀s∈x.su,∃y∈S.ns,y.k=s)(hsu:∀x∈S.ns,x.su.length<=1000){X:XP}
  (hX:∀j U' p,Raised U' j (.ref 72) none->Hi U.length U' j->Srt U' {S with rdy:=some (p,ay S.ns)}->Kept S U U'->U.length<=p->Cyc (dl S.ns)->X j U') :
  TK C0 P (.top (.ref 109)) [.loc S.s] [] (PrpQ U S) X U:=by
 obtain ⟨N,hN⟩:∃N,U.length=N:=⟨_,rfl⟩
 haveI hs:=hS.s
 haveI hD:=hS.d
 haveI hm:=hS.m
 unfold Sr.attrs at hD
 rw [hr] at hD
 rw [hep] at hm
 change U.at S.m=some (.dict (n2i S.ns)) at hm
 refine tk109 hN (by omega) ?_
 refine TSs_cons' (x:=?_) ?_
 repeat k_lt zT
 k_lt zS
 k_lt zT
 refine TM.epoch (i:=S.m) (es:=n2i S.ns) (by k_lt zat) λep=>?_
 refine gen4 ((U++[some (AObj.frame [("self",.loc S.s)])]).put S.m (.dictE (n2i S.ns) ep)) (p1:=λH0=>Srt H0 {S with ep:=some ep}) (p2:=λH0=>Kept S U H0) (p3:=λH0=>H0.at N=some (.frame [("self",.loc S.s)])) (p4:=λH0=>H0.length=N+1) (hS.app.setEp (some ep)) ((Kept.of (Grow.app _ _)).put (.inl (.inr (.inl rfl)))) (by k_lt zat) (by rw [Store.put_length,List.length_append,hN];rfl) ?_
 intro H0 f1 f2 f3 hl
 haveI hs:=f1.s
 haveI hD:=f1.d
 haveI hm:=f1.m
 change H0.at S.s=some (.inst 154 S.d) at hs
 change H0.at S.d=some (.idict [("_node2info",.loc S.m),("_ready_nodes",rdyA S.rdy),("_npassedout",.int S.po),("_nfinished",.int S.nf)]) at hD
 rw [hr] at hD
 change H0.at S.m=some (.dictE (n2i S.ns) ep) at hm
 refine TSs_cons' (x:=?_) ?_
 k_lt zT
 haveI hpick:∀y∈S.ns,mC S.ns (.loc y.i)=if y.np == 0 then some (.str y.k) else none:=by
  intro y hy
  haveI hfi:S.ns.find? (λx=>x.i == y.i)=some y:=by
   cases e:S.ns.find? (λx=>x.i == y.i) with
   | none=>exact absurd (List.find?_eq_none.mp e y hy) (by simp)
   | some z=>
    haveI hz:=List.mem_of_find?_eq_some e
    haveI hzi:z.i=y.i:=by haveI:=List.find?_some e;simpa using this
    by_cases q:z.k=y.k
    ·rw [bg hS.ks hz hy q]
    ·exact absurd hzi (hS.i_ne hz hy q)
  unfold mC
  dsimp only
  rw [hfi];rfl
 haveI hfm:((n2i S.ns).map λp=>p.2).filterMap (mC S.ns)=(ay S.ns).map .str:=by
  unfold n2i ay
  rw [List.map_map]
  haveI:∀l:List Nd,(∀y∈l,y∈S.ns)->(l.map ((λp:Str×AVal=>p.2)∘λx=>(x.k,AVal.loc x.i))).filterMap (mC S.ns)=((l.filter λx=>x.np == 0).map (·.k)).map .str:=by
   intro l
   induction l with
   | nil=>intro _;rfl
   | cons a l ih=>
    intro h
    rw [List.map_cons,List.filterMap_cons]
    haveI e0:((λp:Str×AVal=>p.2)∘λx:Nd=>(x.k,AVal.loc x.i)) a=.loc a.i:=rfl
    rw [e0,hpick a (h a (.head _)),List.filter_cons]
    by_cases q:(a.np == 0)=true
    ·rw [if_pos q,if_pos q,List.map_cons,List.map_cons]
     dsimp only
     rw [ih λy hy=>h y (.tail _ hy)]
    ·rw [if_neg q,if_neg q]
     exact ih λy hy=>h y (.tail _ hy)
  exact this S.ns λω h=>h
 refine dE ((n2i S.ns).map λp=>p.2) (mC S.ns) (SP.down_free hf) (by rfl) (by intro _ _;rfl) ?h ?hl ?q
 case hl=>rw [hfm];exact List.all_eq_true.mpr λa ha=>by obtain ⟨k,_,rfl⟩:=List.mem_map.mp ha;rfl
 case h=>
  k_lt zR
  refine MapOk.of1 (Src.vals (N:=N+2) (by rw [List.length_append,hl];rfl) (by k_lt zat) (by k_lt zat)) (by k_lt zgrow) (by unfold n2i;simp [lenLine];omega) (by rfl) (by rfl) (λω ω=>rfl) ?_
  intro v H R _ kR kK hv g hl' hF
  obtain ⟨y,hy,rfl⟩:∃y∈S.ns,v=.loc y.i:=by
   unfold n2i at hv
   rw [List.map_map] at hv
   obtain ⟨y,hy,rfl⟩:=List.mem_map.mp hv
   exact ⟨y,hy,rfl⟩
  haveI hyi:=g.at (at_app_l (f1.i y hy))
  haveI hyd:=g.at (at_app_l (f1.nd y hy))
  unfold Nd.slots at hyi
  haveI hpk:=hpick y hy
  k_lt zR
  refine aA (λhz=>?_) λhz=>?_
  ·k_lt zR
   exact ⟨by rw [hpk,fq,hz];rfl,by k_lt uo⟩
  ·exact kK ⟨by rw [hpk,fq,hz];rfl,by k_lt uo⟩
 case q=>
  rw [hfm]
  k_lt zR
  haveI g1:Srt ((H0++[some (AObj.list ((ay S.ns).map .str))]).put S.d (.idict [("_node2info",.loc S.m),("_ready_nodes",.loc (N+1)),("_npassedout",.int S.po),("_nfinished",.int S.nf)])) {S with ep:=some ep,rdy:=some (N+1,ay S.ns)}:=(f1.app (l:=[some (.list ((ay S.ns).map .str))])).setD (some (N+1,ay S.ns)) S.po S.nf (λp hp=>by
   cases hp
   refine ⟨at_app_0 hl,λx hx q=>?_⟩
   haveI:=hS.lt (j:=x.l) (.inr (.inr (.inr (.inl ⟨x,hx,.inr (.inl rfl)⟩))))
   have q:x.l=N+1:=q
   omega)
  have g2:Kept S U ((H0++[some (AObj.list ((ay S.ns).map .str))]).put S.d (.idict [("_node2info",.loc S.m),("_ready_nodes",.loc (N+1)),("_npassedout",.int S.po),("_nfinished",.int S.nf)])):=(f2.app).put (.inl (.inl rfl))
  have g3:((H0++[some (AObj.list ((ay S.ns).map .str))]).put S.d (.idict [("_node2info",.loc S.m),("_ready_nodes",.loc (N+1)),("_npassedout",.int S.po),("_nfinished",.int S.nf)])).at N=some (.frame [("self",.loc S.s)]):=by k_lt zat
  have g4:((H0++[some (AObj.list ((ay S.ns).map .str))]).put S.d (.idict [("_node2info",.loc S.m),("_ready_nodes",.loc (N+1)),("_npassedout",.int S.po),("_nfinished",.int S.nf)])).length=N+2:=by rw [Store.put_length,List.length_append,hl];rfl
  have est:((H0++[some (AObj.list ((ay S.ns).map .str))]).put S.d (.idict [("_node2info",.loc S.m),("_ready_nodes",.loc (N+1)),("_npassedout",.int S.po),("_nfinished",.int S.nf)]))=(H0.put S.d (.idict [("_node2info",.loc S.m),("_ready_nodes",.loc (N+1)),("_npassedout",.int S.po),("_nfinished",.int S.nf)])++[some (AObj.list ((ay S.ns).map .str))]):=fj hD
  rw [est] at g1 g2 g3 g4
  generalize (H0.put S.d (.idict [("_node2info",.loc S.m),("_ready_nodes",.loc (N+1)),("_npassedout",.int S.po),("_nfinished",.int S.nf)])++[some (AObj.list ((ay S.ns).map .str))])=H1 at g1 g2 g3 g4 ⊢
  have hcy:=sS (P:=P.down) (X:=noX) (by show 0<P.d - 1;omega) hf _ _ (g1.gone (g1.out g3 rfl)) rfl hlen hin hsu
  change TC C0 P.down _ [.loc S.s] [] _ _ _ at hcy
  refine TCall.of (by k_lt ua) ?_
  refine TC.mono hcy ?_ (λω ω x=>x.elim)
  rintro a U' _ ⟨hp,hres⟩
  have hpb:=Pers.back g3 hp
  have k1:=hpb.srt g1
  have k2:Kept S U (U'.put N (.frame [("self",.loc S.s)])):=⟨Nat.le_trans g2.1 hpb.1,λj x hn hx e=>hpb.2 j x (g2.2 j x hn hx e) hx⟩
  have k3:=hpb.at g3
  have k4:∀i l,U'.at i=some (.list l)->(H1.gone N).length<=i->(U'.put N (.frame [("self",.loc S.s)])).at i=some (.list l):=λi l e hi=>at_put_ne (by rw [Store.gone_length] at hi;omega) e
  with_unfolding_all change kT _ _ _ _ _ _ _ (U'.put N (.frame [("self",.loc S.s)]))
  generalize (U'.put N (.frame [("self",.loc S.s)]))=τ at k1 k2 k3 k4 hpb ⊢
  have k5:τ.at S.m=some (.dictE (n2i S.ns) ep):=k1.m
  have eS:({S with ep:=none,rdy:=some (N+1,ay S.ns)}:Sr)={S with rdy:=some (N+1,ay S.ns)}:=by rw [←hep]
  have fin:∀fr,Srt ((τ.put N (.frame fr)).put S.m (.dict (n2i S.ns))) {S with rdy:=some (N+1,ay S.ns)}/\Kept S U ((τ.put N (.frame fr)).put S.m (.dict (n2i S.ns))):=λfr=>by
   rw [←eS]
   exact ⟨(k1.put (k1.out k3 rfl)).setEp none,(k2.put (.inr (by omega))).put (.inl (.inr (.inl rfl)))⟩
  rcases hres with ⟨rfl,hac⟩ | ⟨i,l,rfl,hi,hil,hl0,hl1,hcyc⟩
  ·repeat k_lt zT
   refine TM.unepoch (i:=S.m) (ep:=ep) (es:=n2i S.ns) (by k_lt zat) ?_
   obtain ⟨l1,l2⟩:=fin [("self",.loc S.s),("cycle",.none)]
   have l3:((τ.put N (.frame [("self",.loc S.s),("cycle",.none)])).put S.m (.dict (n2i S.ns))).at N=some (.frame [("self",.loc S.s),("cycle",.none)]):=by k_lt zat
   with_unfolding_all change TSs _ _ _ _ _ _ ((τ.put N (.frame [("self",.loc S.s),("cycle",.none)])).put S.m (.dict (n2i S.ns)))
   generalize ((τ.put N (.frame [("self",.loc S.s),("cycle",.none)])).put S.m (.dict (n2i S.ns)))=τ1 at l1 l2 l3 ⊢
   k_lt zR
   refine rP ?_
   k_lt zR
   exact ⟨N+1,rfl,hac,by omega,l1,l2⟩
  ·have hi4:=k4 i l hi hil
   have hi5:i≠N:=by rw [Store.gone_length] at hil;omega
   repeat k_lt zT
   refine TM.unepoch (i:=S.m) (ep:=ep) (es:=n2i S.ns) (by k_lt zat) ?_
   obtain ⟨l1,l2⟩:=fin [("self",.loc S.s),("cycle",.loc i)]
   have l3:((τ.put N (.frame [("self",.loc S.s),("cycle",.loc i)])).put S.m (.dict (n2i S.ns))).at N=some (.frame [("self",.loc S.s),("cycle",.loc i)]):=by k_lt zat
   have l4:((τ.put N (.frame [("self",.loc S.s),("cycle",.loc i)])).put S.m (.dict (n2i S.ns))).at i=some (.list l):=by k_lt zat
   with_unfolding_all change TSs _ _ _ _ _ _ ((τ.put N (.frame [("self",.loc S.s),("cycle",.loc i)])).put S.m (.dict (n2i S.ns)))
   generalize ((τ.put N (.frame [("self",.loc S.s),("cycle",.loc i)])).put S.m (.dict (n2i S.ns)))=τ1 at l1 l2 l3 l4 ⊢
   k_lt zR
   refine ic l4 (Nat.le_trans hl1 (by decide)) ?_
   refine pick_true' (by cases l <;> first | rfl | exact absurd rfl hl0) ?_
   k_lt zR
   with_reducible refine' ny ?_ raise_C ?_ ?_ ?_
   ·k_lt zfree
   ·exact oC (by k_lt u) (by k_lt u) (by k_lt u) (by k_lt u)
   ·intro _;k_lt u
   k_lt zR
   refine ⟨rfl,by show 2<=lenLine;decide,bX (m:=[("self",.loc S.s),("cycle",.loc i)]) (by k_lt ua) (.inl (at_app_0 rfl)) λU' hx hh hp'=>?_⟩
   have hp2:=(Pers.of (Grow.app τ1 _)).trans hp'
   exact hX _ U' (N+1) hx (hh _ (Nat.le_trans l2.1 (by simp)) (Hi.new (at_app_0 rfl) l2.1)) (hp2.srt l1) ⟨Nat.le_trans l2.1 hp2.1,λj x hn hx e=>hp2.2 j x (l2.2 j x hn hx e) hx⟩ (by omega) hcyc
end
section
noncomputable abbrev eZ (E:AEnv)(scope:Scope)(cl:List (Str×Nat))(N:Nat)(x:Str):AEnv:={scope:=jl scope E,loc:=N,frame:=E.frame,cells:=(x,N+1)::cl,qual:=E.qual,func:=.none,code:=E.code,inner:=true}
def OffC (C:Nat)(H U:Store):Prop:=H.length<=U.length/\(∀i x,i≠C->H.at i=some x->U.at i=some x)/\∃v,U.at C=some (.cell v)
theorem OffC.refl {F:Nat}{H:Store}{m:Option AVal}(h:H.at F=some (.cell m)):OffC F H H:=⟨Nat.le_refl _,λω ω ω h=>h,m,h⟩
theorem OffC.put {F:Nat}{H U:Store}{m':Option AVal}(h:OffC F H U):OffC F H (U.put F (.cell m')):=by
 obtain ⟨a,b,m,e⟩:=h
 exact ⟨by simpa using a,λi x hn hi=>at_put_ne hn (b i x hn hi),m',at_put_eq e⟩
theorem OffC.grow {F:Nat}{H U U':Store}(h:OffC F H U)(g:Grow U U'):OffC F H U':=⟨Nat.le_trans h.1 g.1,λi x hn hi=>g.at (h.2.1 i x hn hi),h.2.2.choose,g.at h.2.2.choose_spec⟩
theorem OffC.app {F:Nat}{H U l:Store}(h:OffC F H U):OffC F H (U++l):=h.grow (Grow.app _ _)
theorem OffC.at {F:Nat}{H U:Store}(h:OffC F H U){i:Nat}{x:AObj}(e:H.at i=some x)(hn:i≠F):U.at i=some x:=h.2.1 i x hn e
theorem Grow.offC {U H H':Store}{F:Nat}(h:Grow U H)(g:OffC F H H')(hF:U.length<=F):Grow U H':=⟨Nat.le_trans h.1 g.1,λj y e=>g.2.1 j y (by haveI:=Store.at_lt e;omega) (h.at e)⟩
section
variable {c:Cfg}{P:SP}{E:AEnv}{U:Store}{X:XP}
variable {scope:Scope}{cl:List (Str×Nat)}{x:Str}{target iter:Expr}{ifs:List Expr}{Q:AVal->Store->Prop}{pos:Pos}
def mj (c:Cfg)(P:SP)(E':AEnv)(elt target:Expr)(ifs:List Expr)(N:Nat)(k:IterK)(J:Nat->List AVal->Store->Prop)(j:Nat)(x:AVal)(l:List AVal)(H:Store):Prop:=
 TAsg c P E' target x (λU2=>TIfs c P E' ifs (λb U3=>if b then TE c P E' elt (λy U4=>J (j+1) (l++[y]) U4/\U4.at N=some (.iter k (j+1))/\U4.at (N+1)=some (.list l)/\(∃m,U4.at (N+2)=some (.frame m))/\∃v,U4.at (N+3)=some (.cell v)) noX U3
  else J (j+1) l U3/\U3.at N=some (.iter k (j+1))/\U3.at (N+1)=some (.list l)/\(∃m,U3.at (N+2)=some (.frame m))/\∃v,U3.at (N+3)=some (.cell v)) noX U2) noX H
theorem kb (h:bh scope.names=[x]):aY E scope cl U=(eZ E scope cl U.length x,U++[some (.frame []),some (.cell none)]):=by
 unfold aY eZ
 rw [iV,h]
 simp [dX,bT]
theorem CompAt.ofC {elt:Expr}{use:Option (Env->Value->Sem Unit)}{a:AVal}{U1:Store}{k:IterK}{xs:List AVal}{N:Nat}(J:Nat->List AVal->Store->Prop)
  (hN:U1.length=N) (hit:bK U1 a k) (hcl:ba E.cells scope.names []=some cl) (hnc:bh scope.names=[x]) (hxl:xs.length<=lenLine)
  (hx:∀j l H,J j l H->Items H k xs) (hs:∀j l H i y,N<=i->i<=N+2->J j l H->J j l (H.put i y)) (hg:∀j l H,J j l H->J j l (H.gone N)) (h0:J 0 [] (U1++[some (.iter k 0),some (.list []),some (.frame []),some (.cell none)]))
  (hown:∀H,H.at N=some (.iter k 0)->di target N H=true)
  (turn:∀j a l H v,xs[j]? = some a->J j l H->l.length<=j->H.at N=some (.iter k (j+1))->H.at (N+1)=some (.list l)->H.at (N+2)=some (.frame [])->H.at (N+3)=some (.cell v)->mj c P (eZ E scope cl (N+2) x) elt target ifs N k J j a l H)
  (fin:∀l H,J xs.length l H->H.at (N+1)=some (.list l)->(∃m,H.at (N+2)=some (.frame m))->fB c P E use (N+1) (N+2) Q X H) :
  CompAt c P E elt target ifs scope use Q X a U1:=by
 refine CompAt.gen (τ:=[some (.frame []),some (.cell none)]) J (λH=>∃v,H.at (N+3)=some (.cell v)) hN hit hcl (λU h=>by rw [kb hnc,h]) hxl hx hs ?_ hg ⟨rfl,Nat.zero_le _,Nat.le_refl _,by simpa using h0,at_app_l (at_app_l (at_app_0 hN)),?_,⟨[],?_⟩,none,?_⟩ hown (λj x' l H q hJ hl b0 b1 b2 ⟨v,b3⟩=>?_) fin
 ·exact λH i y _ h ⟨v,e⟩=>⟨v,at_put_ne (Nat.ne_of_gt (Nat.lt_succ_of_le h)) e⟩
 ·exact at_app_l (at_app_0 (by rw [List.length_append,hN];rfl))
 ·exact at_app_0 (by rw [List.length_append,List.length_append,hN];rfl)
 ·exact at_app_r (j:=1) (N:=N+2) (by rw [List.length_append,List.length_append,hN];rfl) rfl
 ·refine TAsg.mono (turn j x' l H v q hJ hl b0 b1 b2 b3) λω h=>TIfs.mono h λb U3 h=>?_
  cases b with
  | true=>exact TE.mono h λω ω h=>⟨h.1,h.2.1,h.2.2.1,h.2.2.2.1,h.2.2.2.2⟩
  | false=>exact ⟨h.1,h.2.1,h.2.2.1,h.2.2.2.1,h.2.2.2.2⟩
theorem TE_mapC (xs:List AVal)(F:AVal->Option AVal){elt t:Expr}(hfree:P.free=true)(hsc:fi scope=true)(hs:∀V x,foldedSetIterable iter (E.conc V) x=pure x)(hnc:bh scope.names=[x])(hcl:ba E.cells scope.names []=some cl)(hxl:xs.length<=lenLine)
  (h:TE c P E iter (λa U1=>∃N k,Src U1 a N k xs/\Grow U U1/\(∀H,H.at N=some (.iter k 0)->di target N H=true)/\
   ∀x' H v,x'∈xs->Grow U1 H->N+4<=H.length->H.at (N+2)=some (.frame [])->H.at (N+3)=some (.cell v)->TAsg c P (eZ E scope cl (N+2) x) target x' (λU2=>TT c P (eZ E scope cl (N+2) x) t (λb U3=>d9 b (TE c P (eZ E scope cl (N+2) x) elt (λy U4=>F x'=some y/\OffC (N+3) H U4) noX U3) (F x'=none/\OffC (N+3) H U3)) noX U2) noX H) X U)
  (hl:(xs.filterMap F).all (AVal.ltB U.length)=true) (q:New U (.list (xs.filterMap F)) Q):TE c P E (.ListComp elt [⟨target,iter,[t],0⟩] scope pos) Q X U:=by
 obtain ⟨n,U2,rfl,rfl,q⟩:=q
 refine TM.wf λwf ω=>TE.tidy (da hfree hsc hs (TE.mono h ?_))
 rintro a U1 ⟨N,k,src,g,own,turn⟩
 have hle:∀i,N<=i->U1.length<=i:=λi hi=>by rw [src.len];exact hi
 refine CompAt.ofC (MJ U1 xs F) src.len src.it hcl hnc hxl (λj l H hJ=>src.items H hJ.1) (λj l H i y hi ω hJ=>⟨hJ.1.put (hle i hi),hJ.2⟩) (λj l H hJ=>⟨hJ.1.gone (hle N (Nat.le_refl _)),hJ.2⟩) ⟨Grow.app _ _,by simp⟩ own ?_ ?_
 ·intro j x' l H v hx hJ hl b0 b1 b2 b3
  have tt:=turn x' H v (List.mem_of_getElem? hx) hJ.1 (Store.at_lt b3) b2 b3
  have low:∀{U4:Store},OffC (N+3) H U4->Grow U1 U4/\U4.at N=some (.iter k (j+1))/\U4.at (N+1)=some (.list l)/\(∃m,U4.at (N+2)=some (.frame m))/\∃v,U4.at (N+3)=some (.cell v):=λo=>
   ⟨hJ.1.offC o (hle _ (by omega)),o.2.1 _ _ (by omega) b0,o.2.1 _ _ (by omega) b1,⟨_,o.2.1 _ _ (by omega) b2⟩,o.2.2⟩
  refine λκ V s v ok hh hv st ra=>Mine.J.mono (tt κ V s v ok hh hv st ra) ?_ λω ω h=>h
  intro V' U2 r _ _ hI
  haveI hI:TT c P (eZ E scope cl (N+2) x) t (λb U3=>d9 b (TE c P (eZ E scope cl (N+2) x) elt (λy U4=>F x'=some y/\OffC (N+3) H U4) noX U3) (F x'=none/\OffC (N+3) H U3)) noX U2:=hI
  show TT c P (eZ E scope cl (N+2) x) t _ noX U2
  refine TM.mono (t:=λenv=>isTrue t env (eval t env)) hI ?_ λω ω h=>h
  intro V3 U3 b _ hb
  haveI hb:d9 b (TE c P (eZ E scope cl (N+2) x) elt (λy U4=>F x'=some y/\OffC (N+3) H U4) noX U3) (F x'=none/\OffC (N+3) H U3):=hb
  show (if b=true then TE c P (eZ E scope cl (N+2) x) elt (λy U4=>MJ U1 xs F (j+1) (l++[y]) U4/\U4.at N=some (.iter k (j+1))/\U4.at (N+1)=some (.list l)/\(∃m,U4.at (N+2)=some (.frame m))/\∃v,U4.at (N+3)=some (.cell v)) noX U3
     else MJ U1 xs F (j+1) l U3/\U3.at N=some (.iter k (j+1))/\U3.at (N+1)=some (.list l)/\(∃m,U3.at (N+2)=some (.frame m))/\∃v,U3.at (N+3)=some (.cell v))
  cases b with
  | true=>
   refine TE.mono hb ?_
   rintro y U4 ⟨f1,o⟩
   obtain ⟨g1,g2,g3,g4⟩:=low o
   refine ⟨⟨g1,?_⟩,g2,g3,g4⟩
   rw [fh hx,List.filterMap_append,←hJ.2]
   simp [f1]
  | false=>
   obtain ⟨f1,o⟩:=hb
   obtain ⟨g1,g2,g3,g4⟩:=low o
   refine ⟨⟨g1,?_⟩,g2,g3,g4⟩
   rw [fh hx,List.filterMap_append,←hJ.2]
   simp [f1]
 ·rintro l H ⟨g1,g2⟩ b1 ⟨mm,b2⟩
  rw [List.take_length] at g2
  subst g2
  refine ⟨⟨mm,b2⟩,U++[some (.list (xs.filterMap F))],bv U.length (N+1),.loc U.length,?_,by simp [AVal.ren,bv],by simp [AVal.ltB],q⟩
  haveI hNl:=g.1
  rw [src.len] at hNl
  refine Tidy.one wf ((g.trans g1).gone (by omega)) (by omega) ?_ (gC hl (Nat.le_succ _))
  haveI:(AObj.list (xs.filterMap F)).ren (bv U.length (N+1))=.list (xs.filterMap F):=congrArg AObj.list (jj (λi hi=>ja hi) hl)
  rw [this]
  exact at_gone_ne (by omega) b1
theorem jS (xs:List AVal)(F:AVal->Option AVal){npos:Pos}{elt:Expr}{cpos:Pos}{Q:ai->Store->Prop}{m:List (Str×AVal)}(hfree:P.free=true)(hsc:fi scope=true)(hs:∀V x,foldedSetIterable iter (E.conc V) x=pure x)
  (hsw:∀V,swapsWithSole [.Name x npos] (.ListComp elt [⟨target,iter,ifs,0⟩] scope cpos) pos.line (E.conc V)=pure true) (hk:E.scope.kind=.function) (hn:E.scope.names.lookup x=some .local) (hm:U.at E.loc=some (.frame m))
  (h:TE c P E iter (λa U1=>∃N k cl,MapOk c P E elt target ifs scope U xs F a U1 N k cl) X U)
  (q:∀(p:Nat) (H:Store),U.length<=p->H.at p=some (.list (xs.filterMap F))->U.length<=H.length->(∀i y,i≠E.loc->U.at i=some y->H.at i=some y)->H.at E.loc=some (.frame (dG x (.loc p) m))->Q .next H):TS c P E (.Assign [.Name x npos] (.ListComp elt [⟨target,iter,ifs,0⟩] scope cpos) pos) Q X U:=by
 refine kj hfree hsc hs hsw (TE.mono h ?_)
 rintro a U1 ⟨N,k,cl,mo⟩
 refine mo.at_ λH g1 b1 ⟨mm,b2⟩=>?_
 have hNl:=mo.grow.1
 rw [mo.len] at hNl
 have g:=mo.grow.trans g1
 have hm':=g.at hm
 haveI hEl:=Store.at_lt hm
 haveI hz:kT c P E [.Name x npos] (.loc (N+1)) (λU'=>(∃m,U'.at (N+2)=some (.frame m))/\Q .next (U'.gone (N+2))) X H:=by
  refine TAsgs_one ?_ (fW (m:=m) hk hn hm' rfl rfl ?_)
  ·rfl
  refine ⟨⟨mm,at_put_ne (by omega) b2⟩,q (N+1) _ (by omega) (at_gone_ne (by omega) (at_put_ne (by omega) b1)) ?_ (λi y hi e=>?_) (at_gone_ne (by omega) (at_put_eq hm'))⟩
  ·rw [Store.gone_length,Store.put_length];exact g.1
  ·exact at_gone_ne (by haveI:=Store.at_lt e;omega) (at_put_ne hi (g.at e))
 refine λκ V s v ok hh hv st ra=>Mine.J.mono (hz κ V s v ok hh hv st ra) (λω ω ω ω ω h=>h) λω ω h=>h
end
end
section
variable {k:Nat}{rs:List Rule}
structure Rule where
 q:Nat
 row:List Nat
 more:Bool
noncomputable def nm:List Str:=["ABCD","ABCD++++","++++","////ABCD","ABCD++++////","////","////////"]
noncomputable def ag (k:Nat):Str:=nm.getD k ""
noncomputable def bA:Array UInt8:=#[0,16,131]
noncomputable def bB:Array UInt8:=#[251,239,190]
noncomputable def bC:Array UInt8:=#[255,255,255]
noncomputable def ths:List (List (Array UInt8)):=[[bA],[bA,bB],[bB],[bC,bA],[bA,bB,bC],[bC],[bC,bC]]
noncomputable def tk (r:Rule)(p:Nat):Bool:=eW r.row r.more (ths.getD p [])
def Rule.Ok (r:Rule):Prop:=r.q<7/\(∀x∈r.row,x<5)/\(r.row.length=1∨r.row.length=2)
noncomputable def cnt (rs:List Rule)(p q:Nat):Nat:=rs.countP λr=>r.q == q&&tk r p
noncomputable def aU (rs:List Rule)(q:Nat):List Nat:=(List.range 7).filter λp=>rs.any λr=>r.q == q&&tk r p
noncomputable def aG (rs:List Rule):Nat->List Nat
 | 0=>[]
 | n+1=>(List.range 7).filter λq=>(aU rs q).all λp=>(aG rs n).contains p
noncomputable def bw (r:Rule):List Str:=((List.range 7).filter (tk r)).map ag
noncomputable def suP (rs:List Rule)(p:Nat):List Str:=(rs.filter λr=>tk r p).map λr=>ag r.q
noncomputable def npP (rs:List Rule)(q:Nat):Nat:=((rs.filter λr=>r.q == q).map λr=>((List.range 7).filter (tk r)).length).sum
noncomputable def fixedR:List Rule:=[⟨1,[0],false⟩,⟨4,[0],false⟩,⟨4,[0,1],false⟩,⟨3,[3],false⟩,⟨6,[2],false⟩]
noncomputable def ord:List Nat:=[1,0,4,3,2,5,6]
noncomputable def aL (rs:List Rule):List (Str×Int×List Str):=ord.map λk=>(ag k,(npP rs k:Int),suP rs k)
theorem de:∀{i j:Nat},i<7->j<7->ag i=ag j->i=j:=by
 haveI:∀i:Fin 7,∀j:Fin 7,ag i=ag j->i=j:=by decide +kernel
 intro i j hi hj h
 exact congrArg Fin.val (this ⟨i,hi⟩ ⟨j,hj⟩ h)
theorem mem_ord :k∈ord↔k<7:=by
 unfold ord
 constructor
 ·intro h;simp at h;rcases h with rfl | rfl | rfl | rfl | rfl | rfl | rfl <;> decide
 ·intro h
  rcases k with _ | _ | _ | _ | _ | _ | _ | k
  all_goals first | decide | omega
noncomputable def be (C:List (Str×Int×List Str))(r:Rule):List (Str×Int×List Str):=ki C (ag r.q) (bw r)
theorem jJ:fixedR.foldl be []=aL fixedR:=by decide +kernel
theorem hasC_core' (rs:List Rule)(hk:k<7):rz (aL rs) (ag k)=true:=by
 unfold rz aL
 rw [List.any_map,List.any_eq_true]
 exact ⟨k,mem_ord.mpr hk,by simp⟩
theorem tw (a:Str)(f:Nat->Int):∀(l:List Nat) (g:Nat->List Str),(∀p∈l,p<7)->l.Nodup->
  (l.map ag).foldl (λC p=>ez (bR C p) p a) (ord.map λk=>(ag k,f k,g k))=ord.map λk=>(ag k,f k,if k∈l then g k++[a] else g k):=by
 intro l
 induction l with
 | nil=>intro g _ _;simp
 | cons p l ih=>
  intro g hl hn
  haveI hp:=hl p (.head _)
  rw [List.nodup_cons] at hn
  have h1:bR (ord.map λk=>(ag k,f k,g k)) (ag p)=ord.map λk=>(ag k,f k,g k):=by
   unfold bR
   rw [if_pos]
   unfold rz
   rw [List.any_map,List.any_eq_true]
   exact ⟨p,mem_ord.mpr hp,by simp⟩
  have h2:ez (ord.map λk=>(ag k,f k,g k)) (ag p) a=ord.map λk=>(ag k,f k,if k=p then g k++[a] else g k):=by
   unfold ez
   rw [List.map_map]
   refine List.map_congr_left λk hk=>?_
   have hk:=mem_ord.mp hk
   show (if ag k=ag p then _ else _)=_
   by_cases e:k=p
   ·subst e;simp
   ·rw [if_neg λq=>e (de hk hp q),if_neg e]
  rw [List.map_cons,List.foldl_cons,h1,h2,ih (λk=>if k=p then g k++[a] else g k) (λx hx=>hl x (.tail _ hx)) hn.2]
  refine List.map_congr_left λk ω=>?_
  by_cases e:k=p
  ·subst e;simp [hn.1]
  ·simp [e]
theorem rG {r:Rule}(h:r.Ok):be (aL rs) r=aL (rs++[r]):=by
 unfold be ki
 haveI h1:bR (aL rs) (ag r.q)=aL rs:=by
  unfold bR;rw [if_pos (hasC_core' rs h.1)]
 haveI h2:fc (aL rs) (ag r.q) (bw r).length=ord.map λk=>(ag k,(npP (rs++[r]) k:Int),suP rs k):=by
  unfold fc aL
  rw [List.map_map]
  refine List.map_congr_left λk hk=>?_
  have hk:=mem_ord.mp hk
  show (if ag k=ag r.q then _ else _)=_
  unfold npP bw
  by_cases e:k=r.q
  ·subst e
   simp
  ·rw [if_neg λq=>e (de hk h.1 q)]
   haveI:(r.q == k)=false:=by simpa using λq:r.q=k=>e q.symm
   simp [this]
 rw [h1,h2]
 unfold bw
 rw [tw (ag r.q) (λk=>(npP (rs++[r]) k:Int)) _ (suP rs) (λp hp=>List.mem_range.mp (List.mem_filter.mp hp).1) (List.nodup_range.sublist List.filter_sublist)]
 unfold aL
 refine List.map_congr_left λk hk=>?_
 haveI hk:=mem_ord.mp hk
 unfold suP
 rw [List.filter_append,List.map_append]
 by_cases e:tk r k=true
 ·rw [if_pos (List.mem_filter.mpr ⟨List.mem_range.mpr hk,e⟩)]
  simp [e]
 ·rw [if_neg λq=>e (List.mem_filter.mp q).2]
  simp [e]
theorem jK:∀(l rs:List Rule),(∀r∈l,r.Ok)->l.foldl be (aL rs)=aL (rs++l)
 | [],rs,_=>by simp
 | r::l,rs,h=>by
  rw [List.foldl_cons,rG (h r (.head _)),jK l _ λx hx=>h x (.tail _ hx),List.append_assoc];rfl
theorem rH (hk:k<7):ki (aL rs) (ag k) []=aL rs:=by
 unfold ki bR
 rw [if_pos (hasC_core' rs hk)]
 show fc _ _ _=_
 unfold fc
 conv=>rhs;rw [←List.map_id (aL rs)]
 refine List.map_congr_left λx ω=>?_
 split
 ·simp
 ·rfl
end
section
variable {rs:List Rule}{p q k n:Nat}{D:List Nat}{su:Str->List Str}
noncomputable def eL (rs:List Rule)(D:List Nat)(q:Nat):Nat:=(((List.range 7).filter λp=>!D.contains p).map λp=>cnt rs p q).sum
theorem qi :cnt rs p q≠0↔(rs.any λr=>r.q == q&&tk r p)=true:=by
 unfold cnt
 rw [List.any_eq_true]
 constructor
 ·intro h
  haveI:=List.countP_pos_iff.mp (Nat.pos_of_ne_zero h)
  exact this
 ·intro h
  exact Nat.pos_iff_ne_zero.mp (List.countP_pos_iff.mpr h)
theorem mem_deep :p∈aU rs q↔p<7/\cnt rs p q≠0:=by
 unfold aU
 rw [List.mem_filter,List.mem_range,qi]
theorem sH {l:List Nat}{f:Nat->Nat}:(l.map f).sum=0↔∀x∈l,f x=0:=by
 induction l with
 | nil=>simp
 | cons a l ih=>
  rw [List.map_cons,List.sum_cons]
  constructor
  ·intro h x hx
   rcases List.mem_cons.mp hx with rfl | hx
   ·omega
   ·exact ih.mp (by omega) x hx
  ·intro h
   haveI:=h a (.head _)
   haveI:=ih.mpr λx hx=>h x (.tail _ hx)
   omega
theorem te :eL rs D q=0↔∀p∈aU rs q,p∈D:=by
 unfold eL
 rw [sH]
 constructor
 ·intro h p hp
  obtain ⟨h1,h2⟩:=mem_deep.mp hp
  by_cases e:p∈D
  ·exact e
  ·exact absurd (h p (List.mem_filter.mpr ⟨List.mem_range.mpr h1,by simpa using e⟩)) h2
 ·intro h p hp
  obtain ⟨h1,h2⟩:=List.mem_filter.mp hp
  by_cases e:cnt rs p q=0
  ·exact e
  ·exact absurd (h p (mem_deep.mpr ⟨List.mem_range.mp h1,e⟩)) (by simpa using h2)
theorem sI (D:List Nat)(k:Nat)(f:Nat->Nat):∀(l:List Nat),l.Nodup->k∉D->
  ((l.filter λp=>!(D++[k]).contains p).map f).sum+(if k∈l then f k else 0)=((l.filter λp=>!D.contains p).map f).sum:=by
 intro l
 induction l with
 | nil=>intro _ _;simp
 | cons a l ih=>
  intro hn hk
  rw [List.nodup_cons] at hn
  haveI ih:=ih hn.2 hk
  by_cases e:a=k
  ·subst e
   haveI h1:(!(D++[a]).contains a)=false:=by simp
   haveI h2:(!D.contains a)=true:=by simpa using hk
   rw [List.filter_cons,List.filter_cons,h1,h2,if_neg (by decide),if_pos rfl,List.map_cons,List.sum_cons,if_pos (.head _)]
   rw [if_neg hn.1] at ih
   omega
  ·haveI h1:(!(D++[k]).contains a) = !D.contains a:=by simp [e]
   haveI h3:(k∈a::l)↔k∈l:=by
    rw [List.mem_cons]
    exact ⟨λh=>h.elim (λq=>absurd q.symm e) id,.inr⟩
   rw [List.filter_cons,List.filter_cons,h1]
   by_cases h2:(!D.contains a)=true
   ·rw [if_pos h2,if_pos h2,List.map_cons,List.map_cons,List.sum_cons,List.sum_cons]
    simp only [h3]
    omega
   ·rw [if_neg h2,if_neg h2]
    simp only [h3]
    exact ih
theorem ti (hk:k<7)(hD:k∉D)(q:Nat):eL rs (D++[k]) q+cnt rs k q=eL rs D q:=by
 haveI:=sI D k (λp=>cnt rs p q) (List.range 7) List.nodup_range hD
 rw [if_pos (List.mem_range.mpr hk)] at this
 exact this
theorem pK (b:Nat->Bool)(f:Nat->Nat):∀l:List Nat,(l.map λp=>(if b p then 1 else 0)+f p).sum=(l.filter b).length+(l.map f).sum
 | []=>rfl
 | a::l=>by
  rw [List.map_cons,List.sum_cons,pK b f l,List.filter_cons,List.map_cons,List.sum_cons]
  cases b a <;> simp <;> omega
theorem uq (r:Rule)(rs:List Rule)(p q:Nat):cnt (r::rs) p q=(if r.q == q&&tk r p then 1 else 0)+cnt rs p q:=by
 unfold cnt
 rw [List.countP_cons,Nat.add_comm]
theorem li (rs:List Rule)(q:Nat):eL rs [] q=npP rs q:=by
 unfold eL
 haveI e:(List.range 7).filter (λp=>!([]:List Nat).contains p)=List.range 7:=by decide
 rw [e]
 induction rs with
 | nil=>rfl
 | cons r rs ih=>
  haveI:((List.range 7).map λp=>cnt (r::rs) p q)=(List.range 7).map λp=>(if r.q == q&&tk r p then 1 else 0)+cnt rs p q:=List.map_congr_left λp ω=>uq r rs p q
  rw [this,pK (λp=>r.q == q&&tk r p),ih]
  unfold npP
  rewrite [List.filter_cons]
  by_cases h:(r.q == q)=true
  ·rw [if_pos h,List.map_cons,List.sum_cons]
   simp [h]
  ·rw [if_neg h]
   haveI h':(r.q == q)=false:=by simpa using h
   simp [h']
theorem eY (hr:∀r∈rs,r.Ok)(hq:q<7):(suP rs k).count (ag q)=cnt rs k q:=by
 unfold suP cnt
 rw [List.count_eq_countP,List.countP_map,List.countP_filter]
 refine List.countP_congr λr hr'=>?_
 show ((ag r.q == ag q&&tk r k)=true)↔_
 haveI:(ag r.q == ag q)=(r.q == q):=by
  by_cases e:r.q=q
  ·simp [e]
  ·haveI h1:ag r.q≠ag q:=λh=>e (de (hr r hr').1 hq h)
   rw [beq_eq_false_iff_ne.mpr h1,beq_eq_false_iff_ne.mpr e]
 rw [this]
theorem fP (hr:∀r∈rs,r.Ok){s:Str}:s∈suP rs k↔∃q,q<7/\s=ag q/\cnt rs k q≠0:=by
 constructor
 ·intro h
  obtain ⟨r,h1,rfl⟩:=List.mem_map.mp h
  obtain ⟨h2,h3⟩:=List.mem_filter.mp h1
  haveI hq:=(hr r h2).1
  refine ⟨r.q,hq,rfl,?_⟩
  rw [qi,List.any_eq_true]
  exact ⟨r,h2,by simp [h3]⟩
 ·rintro ⟨q,hq,rfl,h⟩
  rw [←eY hr hq] at h
  exact List.count_pos_iff.mp (Nat.pos_of_ne_zero h)
theorem mem_come :q∈aG rs (n+1)↔q<7/\∀p∈aU rs q,p∈aG rs n:=by
 show q∈(List.range 7).filter _↔_
 rw [List.mem_filter,List.mem_range,List.all_eq_true]
 simp
theorem hY {rs:List Rule}{q:Nat}:∀{n:Nat},q∈aG rs n->q∈aG rs (n+1)
 | 0,h=>by cases h
 | n+1,h=>by
  obtain ⟨h1,h2⟩:=mem_come.mp h
  exact mem_come.mpr ⟨h1,λp hp=>hY (h2 p hp)⟩
theorem come_le {m:Nat}(h:n<=m)(hq:q∈aG rs n):q∈aG rs m:=by
 induction h with
 | refl=>exact hq
 | step _ ih=>exact hY ih
theorem qg :∀{n:Nat},q∈aG rs n->q<7
 | 0,h=>by cases h
 | _+1,h=>(mem_come.mp h).1
theorem jM :∀n,(aG rs n).Nodup
 | 0=>List.nodup_nil
 | _+1=>List.nodup_range.sublist List.filter_sublist
theorem bD:∀{l m:List Nat},l.Nodup->(∀a∈l,a∈m)->l.length<=m.length
 | [],_,_,_=>Nat.zero_le _
 | a::l,m,h,s=>by
  rw [List.nodup_cons] at h
  haveI ha:=s a (.head _)
  haveI:=bD (l:=l) (m:=m.erase a) h.2 λb hb=>(List.mem_erase_of_ne (λe=>h.1 (by rw [←e];exact hb))).mpr (s b (.tail _ hb))
  rw [List.length_erase_of_mem ha] at this
  exact Nat.add_le_of_le_sub (List.length_pos_of_mem ha) this
theorem un (hr:∀r∈rs,r.Ok)(hsu:∀k,k<7->su (ag k)=suP rs k)(hno:∀a,(∀k,k<7->a≠ag k)->su a=[])(h:Cyc su):(aG rs 7).length<7:=by
 obtain ⟨C,hC,hc⟩:=h
 haveI key:∀n q,q∈aG rs n->ag q∉C:=by
  intro n
  induction n with
  | zero=>intro q h;cases h
  | succ n ih=>
   intro q hq hqC
   obtain ⟨h1,h2⟩:=mem_come.mp hq
   obtain ⟨a,ha,hs⟩:=hc _ hqC
   by_cases e:∃k,k<7/\a=ag k
   ·obtain ⟨k,hk,rfl⟩:=e
    rw [hsu k hk] at hs
    obtain ⟨q',hq',e1,e2⟩:=(fP hr).mp hs
    cases de h1 hq' e1
    exact ih k (h2 k (mem_deep.mpr ⟨hk,e2⟩)) ha
   ·rw [hno a λk hk q=>e ⟨k,hk,q⟩] at hs
    cases hs
 obtain ⟨c,hc0⟩:=List.exists_mem_of_ne_nil C hC
 obtain ⟨a,_,hs⟩:=hc c hc0
 haveI hca:∃q,q<7/\c=ag q:=by
  by_cases e:∃k,k<7/\a=ag k
  ·obtain ⟨k,hk,rfl⟩:=e
   rw [hsu k hk] at hs
   obtain ⟨q',hq',e1,_⟩:=(fP hr).mp hs
   exact ⟨q',hq',e1⟩
  ·rw [hno a λk hk q=>e ⟨k,hk,q⟩] at hs
   cases hs
 obtain ⟨q,hq,rfl⟩:=hca
 have hnq:q∉aG rs 7:=λh=>key 7 q h hc0
 have:=bD (l:=q::aG rs 7) (m:=List.range 7) (List.nodup_cons.mpr ⟨hnq,jM 7⟩) λa ha=>by
  rcases List.mem_cons.mp ha with rfl | ha
  ·exact List.mem_range.mpr hq
  ·exact List.mem_range.mpr (qg ha)
 rw [List.length_cons,List.length_range] at this
 omega
theorem jn {su:Str->List Str}{v:Str}:∀{l:List Str},dM su l->v∉l->∀a∈l,v∉su a
 | [],_,_,_,h=>by cases h
 | k::l,⟨h1,h2⟩,hv,a,ha=>by
  rw [List.mem_cons,not_or] at hv
  rcases List.mem_cons.mp ha with rfl | ha
  ·exact λh=>hv.2 (h1 v h)
  ·exact jn h2 hv.2 a ha
theorem rJ (hr:∀r∈rs,r.Ok)(hsu:∀k,k<7->su (ag k)=suP rs k){fin:List Str}(ho:dM su fin)(hn:fin.Nodup)(hall:∀k,k<7->ag k∈fin)(hl:fin.length<=7):(aG rs 7).length=7:=by
 haveI key:∀(l2 l1:List Str),l1++l2=fin->∀q,q<7->ag q∈l1->q∈aG rs l1.length:=by
  intro l2 l1
  haveI:∀n (l1 l2:List Str),l1.length=n->l1++l2=fin->∀q,q<7->ag q∈l1->q∈aG rs n:=by
   intro n
   induction n with
   | zero=>intro l1 l2 h1 _ q _ hq;cases l1 with
    | nil=>cases hq
    | cons _ _=>cases h1
   | succ n ih=>
    intro l1 l2 h1 h2 q hq hm
    obtain ⟨l0,a,rfl⟩:∃l0 a,l1=l0++[a]:=⟨l1.dropLast,l1.getLast (by intro e;subst e;cases h1),(List.dropLast_concat_getLast _).symm⟩
    haveI hl0:l0.length=n:=by simpa using h1
    haveI h2':l0++(a::l2)=fin:=by rw [←h2];simp
    by_cases e:ag q∈l0
    ·exact hY (ih l0 (a::l2) hl0 h2' q hq e)
    ·haveI ha:a=ag q:=by
      rcases List.mem_append.mp hm with h | h
      ·exact absurd h e
      ·exact (List.mem_singleton.mp h).symm
     subst ha
     refine mem_come.mpr ⟨hq,λp hp=>?_⟩
     obtain ⟨hp1,hp2⟩:=mem_deep.mp hp
     refine ih l0 _ hl0 h2' p hp1 ?_
     haveI hs:ag q∈su (ag p):=by rw [hsu p hp1];exact (fP hr).mpr ⟨q,hq,rfl,hp2⟩
     haveI hpf:=hall p hp1
     rw [←h2'] at hpf
     rcases List.mem_append.mp hpf with h | h
     ·exact h
     ·exfalso
      haveI hO:dM su (ag q::l2):=by
       haveI:∀(x y:List Str),dM su (x++y)->dM su y:=by
        intro x
        induction x with
        | nil=>exact λω h=>h
        | cons _ _ ih=>exact λy h=>ih y h.2
       exact this l0 _ (by rw [h2'];exact ho)
      rw [←h2'] at hn
      haveI hnd:=(List.nodup_append.mp hn).2.1
      rw [List.nodup_cons] at hnd
      rcases List.mem_cons.mp h with h | h
      ·rw [h] at hs
       exact hnd.1 (hO.1 _ hs)
      ·exact jn hO.2 hnd.1 _ h hs
  exact this l1.length l1 l2 rfl
 haveI h7:∀q,q<7->q∈aG rs 7:=λq hq=>come_le hl (key [] fin (by simp) q hq (hall q hq))
 haveI h1:=bD (l:=List.range 7) (m:=aG rs 7) List.nodup_range λa ha=>h7 a (List.mem_range.mp ha)
 haveI h2:=bD (l:=aG rs 7) (m:=List.range 7) (jM 7) λa ha=>List.mem_range.mpr (qg ha)
 rw [List.length_range] at h1 h2
 omega
end
section
variable {ns:List Nd}{p:Nat}{rs:List Rule}{D O:List Nat}{R:List Str}
structure RunP (rs:List Rule)(ns:List Nd)(D O:List Nat)(R:List Str):Prop where
 ks:ns.map (·.k)=ord.map ag
 su:∀x∈ns,∀p,p<7->x.k=ag p->x.su=suP rs p
 np:∀x∈ns,∀p,p<7->x.k=ag p->x.np=if p∈D then -2 else if p∈O then -1 else (eL rs D p:Int)
 dn:D.Nodup
 on:O.Nodup
 dis:∀p∈O,p∉D
 dlt:∀p∈D,p<7
 olt:∀p∈O,p<7
 z:∀p,p∈D∨p∈O->eL rs D p=0
 rn:R.Nodup
 rm:∀s,s∈R↔∃p,p<7/\s=ag p/\p∉D/\p∉O/\eL rs D p=0
theorem jA:(ord.map ag).Nodup:=by decide +kernel
theorem eg (h:ns.map (·.k)=ord.map ag)(hp:p<7):∃x∈ns,x.k=ag p:=by
 haveI:ag p∈ns.map (·.k):=by rw [h];exact List.mem_map_of_mem (mem_ord.mpr hp)
 obtain ⟨x,hx,e⟩:=List.mem_map.mp this
 exact ⟨x,hx,e⟩
theorem jB (h:ns.map (·.k)=ord.map ag){x:Nd}(hx:x∈ns):∃p,p<7/\x.k=ag p:=by
 haveI:x.k∈ord.map ag:=by rw [←h];exact List.mem_map_of_mem (f:=λx:Nd=>x.k) hx
 obtain ⟨p,hp,e⟩:=List.mem_map.mp this
 exact ⟨p,mem_ord.mp hp,e.symm⟩
theorem em (h:ax ns=aL rs){x:Nd}(hx:x∈ns)(hp:p<7)(hk:x.k=ag p):x.np=(npP rs p:Int)/\x.su=suP rs p:=by
 haveI:(x.k,x.np,x.su)∈aL rs:=by rw [←h];exact List.mem_map_of_mem (f:=λx:Nd=>(x.k,x.np,x.su)) hx
 obtain ⟨k,hk',e⟩:=List.mem_map.mp this
 injection e with e1 e2
 injection e2 with e2 e3
 haveI:=de (mem_ord.mp hk') hp (e1.trans hk)
 subst this
 exact ⟨e2.symm,e3.symm⟩
theorem bU (h:ax ns=aL rs):ns.map (·.k)=ord.map ag:=by
 haveI:=congrArg (List.map λx:Str×Int×List Str=>x.1) h
 unfold ax aL at this
 rw [List.map_map,List.map_map] at this
 exact this
theorem RunP.start (h:ax ns=aL rs):RunP rs ns [] [] (ay ns):=by
 have hk:=bU h
 refine ⟨hk,λx hx p hp e=>(em h hx hp e).2,λx hx p hp e=>?_,List.nodup_nil,List.nodup_nil,λω h=>(by cases h),λω h=>(by cases h),λω h=>(by cases h),λp hp=>hp.elim (λh=>(by cases h)) λh=>(by cases h),?_,λs=>?_⟩
 ·rw [if_neg (by simp),if_neg (by simp),li];exact (em h hx hp e).1
 ·unfold ay
  have:(ns.map (·.k)).Nodup:=by rw [hk];exact jA
  exact this.sublist (List.Sublist.map _ List.filter_sublist)
 ·unfold ay
  rw [List.mem_map]
  constructor
  ·rintro ⟨x,hx,rfl⟩
   obtain ⟨hx,h0⟩:=List.mem_filter.mp hx
   obtain ⟨p,hp,e⟩:=jB hk hx
   refine ⟨p,hp,e,by simp,by simp,?_⟩
   rw [li]
   haveI:=(em h hx hp e).1
   rw [this] at h0
   simpa using h0
  ·rintro ⟨p,hp,rfl,_,_,hz⟩
   obtain ⟨x,hx,e⟩:=eg hk hp
   refine ⟨x,List.mem_filter.mpr ⟨hx,?_⟩,e⟩
   rw [(em h hx hp e).1,←li,hz];rfl
theorem kD:∀(l:List Str) (ns:List Nd),aX ns l=ns.map λx=>if x.k∈l then x.setNp (-1) else x
 | [],ns=>by simp [aX]
 | a::l,ns=>by
  show aX (aH ns a (Nd.setNp (-1))) l=_
  rw [kD l]
  unfold aH
  rw [List.map_map]
  refine List.map_congr_left λx ω=>?_
  show (if (if x.k=a then x.setNp (-1) else x).k∈l then (if x.k=a then x.setNp (-1) else x).setNp (-1) else (if x.k=a then x.setNp (-1) else x))=_
  by_cases e:x.k=a
  ·rw [if_pos e]
   show (if x.k∈l then _ else _)=_
   simp [e,Nd.setNp]
  ·simp [e]
theorem RunP.out {O':List Nat}(h:RunP rs ns D O R)(hn:O'.Nodup)(hm:∀p,p∈O'↔p∈O∨(p<7/\ag p∈R)):RunP rs (aX ns R) D O' []:=by
 have hR:∀{p},p<7->(ag p∈R↔p∉D/\p∉O/\eL rs D p=0):=λ{p} hp=>by
  rw [h.rm]
  constructor
  ·rintro ⟨q,hq,e,h1⟩
   cases de hp hq e
   exact h1
  ·exact λh1=>⟨p,hp,rfl,h1⟩
 rw [kD]
 have mem:∀{y},y∈ns.map (λx=>if x.k∈R then x.setNp (-1) else x)->∃x∈ns,y.k=x.k/\y.su=x.su/\y.np=if x.k∈R then -1 else x.np:=by
  intro y hy
  obtain ⟨x,hx,rfl⟩:=List.mem_map.mp hy
  refine ⟨x,hx,?_⟩
  by_cases e:x.k∈R
  ·rw [if_pos e,if_pos e];exact ⟨rfl,rfl,rfl⟩
  ·rw [if_neg e,if_neg e];exact ⟨rfl,rfl,rfl⟩
 refine ⟨?_,λy hy p hp e=>?_,λy hy p hp e=>?_,h.dn,hn,λp hp=>?_,h.dlt,λp hp=>?_,λp hp=>?_,List.nodup_nil,λs=>?_⟩
 ·rw [←h.ks,List.map_map]
  refine List.map_congr_left λx ω=>?_
  show (if x.k∈R then x.setNp (-1) else x).k=x.k
  split <;> rfl
 ·obtain ⟨x,hx,e1,e2,_⟩:=mem hy
  rw [e2];exact h.su x hx p hp (e1.symm.trans e)
 ·obtain ⟨x,hx,e1,_,e3⟩:=mem hy
  haveI hxp:=e1.symm.trans e
  rw [e3,hxp,h.np x hx p hp hxp]
  by_cases hD:p∈D
  ·haveI hR':ag p∉R:=λq=>((hR hp).mp q).1 hD
   rw [if_neg hR',if_pos hD,if_pos hD]
  ·rw [if_neg hD,if_neg hD]
   by_cases hO:p∈O
   ·have hR':ag p∉R:=λq=>((hR hp).mp q).2.1 hO
    rw [if_neg hR',if_pos hO,if_pos ((hm p).mpr (.inl hO))]
   ·rw [if_neg hO]
    by_cases hR':ag p∈R
    ·rw [if_pos hR',if_pos ((hm p).mpr (.inr ⟨hp,hR'⟩))]
    ·rw [if_neg hR',if_neg λq=>((hm p).mp q).elim hO λq=>hR' q.2]
 ·rcases (hm p).mp hp with q | ⟨q,q'⟩
  ·exact h.dis p q
  ·exact ((hR q).mp q').1
 ·rcases (hm p).mp hp with q | ⟨q,_⟩
  ·exact h.olt p q
  ·exact q
 ·rcases hp with q | q
  ·exact h.z p (.inl q)
  ·rcases (hm p).mp q with q | ⟨q,q'⟩
   ·exact h.z p (.inr q)
   ·exact ((hR q).mp q').2.2
 ·refine ⟨λq=>(by cases q),?_⟩
  rintro ⟨p,hp,rfl,h1,h2,h3⟩
  exact absurd ((hm p).mpr (.inr ⟨hp,(hR hp).mpr ⟨h1,λq=>h2 ((hm p).mpr (.inl q)),h3⟩⟩)) h2
theorem kM:∀(L:List Str) (ns:List Nd) (r:List Str),(ns.map (·.k)).Nodup->(∀s∈L,∃x∈ns,x.k=s/\(L.count s:Int)<=x.np)->
  (L.foldl stepD (ns,r)).1=(ns.map λx=>x.setNp (x.np - L.count x.k))/\∃Y:List Str,(L.foldl stepD (ns,r)).2=r++Y/\Y.Nodup/\∀s,s∈Y↔s∈L/\∃x∈ns,x.k=s/\x.np=L.count s
 | [],ns,r,_,_=>by
  refine ⟨?_,[],by simp,List.nodup_nil,λs=>by simp⟩
  conv=>lhs;rw [←List.map_id ns]
  show List.map id ns=_
  refine List.map_congr_left λx ω=>?_
  simp [Nd.setNp]
 | a::L,ns,r,hn,hge=>by
  obtain ⟨y,hy,hyk,hyc⟩:=hge a (.head _)
  rw [List.count_cons_self] at hyc
  have hn1:((aH ns a (bj (-1))).map (·.k)).Nodup:=by rw [cr (f:=bj (-1)) _ λω=>rfl];exact hn
  have hy1:bj (-1) y∈aH ns a (bj (-1)):=mem_updN.mpr ⟨y,hy,by rw [if_pos hyk]⟩
  have hg:bx (aH ns a (bj (-1))) a=some (bj (-1) y):=by
   haveI:=ft hn1 hy1
   rw [show (bj (-1) y).k=a from hyk] at this
   exact this
  have h0:∀x∈ns,x.k=a->x=y:=λx hx e=>bg hn hx hy (e.trans hyk.symm)
  have hge':∀s∈L,∃x∈aH ns a (bj (-1)),x.k=s/\(L.count s:Int)<=x.np:=by
   intro s hs
   obtain ⟨x,hx,hxk,hxc⟩:=hge s (.tail _ hs)
   refine ⟨if x.k=a then bj (-1) x else x,mem_updN.mpr ⟨x,hx,rfl⟩,?_,?_⟩
   ·split <;> exact hxk
   ·rw [List.count_cons] at hxc
    by_cases e:x.k=a
    ·rw [if_pos e]
     show _<=x.np+(-1)
     have:(a == s)=true:=by rw [←hxk,e];simp
     rw [this] at hxc
     simp at hxc
     omega
    ·rw [if_neg e]
     have:(a == s)=false:=beq_eq_false_iff_ne.mpr λq=>e (hxk.trans q.symm)
     rw [this] at hxc
     simpa using hxc
  obtain ⟨i1,Y,i2,i3,i4⟩:=kM L (aH ns a (bj (-1))) (if (bj (-1) y).np == 0 then r++[a] else r) hn1 hge'
  have es:stepD (ns,r) a=(aH ns a (bj (-1)),if (bj (-1) y).np == 0 then r++[a] else r):=by
   unfold stepD
   skip
   rw [hg]
   rfl
  rw [List.foldl_cons,es]
  refine ⟨?_,?_⟩
  ·rw [i1]
   unfold aH
   rw [List.map_map]
   refine List.map_congr_left λx hx=>?_
   show (if x.k=a then bj (-1) x else x).setNp ((if x.k=a then bj (-1) x else x).np - L.count (if x.k=a then bj (-1) x else x).k)=_
   rw [List.count_cons]
   by_cases e:x.k=a
   ·rw [if_pos e]
    haveI:(a == x.k)=true:=by rw [e];simp
    rw [this]
    show ({x with np:=x.np+(-1) - L.count x.k}:Nd)={x with np:=_}
    congr 1
    simp
    omega
   ·rw [if_neg e]
    haveI:(a == x.k)=false:=beq_eq_false_iff_ne.mpr λq=>e q.symm
    rw [this]
    simp
  ·have hmem:∀s,s∈Y↔s∈L/\∃x∈ns,x.k=s/\x.np=(a::L).count s:=by
    intro s
    rw [i4]
    refine and_congr_right λhs=>?_
    constructor
    ·rintro ⟨x',hx',hxk,hxn⟩
     obtain ⟨x,hx,rfl⟩:=mem_updN.mp hx'
     by_cases e:x.k=a
     ·rw [if_pos e] at hxk hxn
      refine ⟨x,hx,hxk,?_⟩
      rw [List.count_cons]
      have:(a == s)=true:=by rw [←hxk];show (a == x.k)=true;rw [e];simp
      rw [this]
      haveI hxn:x.np+(-1)=L.count s:=hxn
      simp
      omega
     ·rw [if_neg e] at hxk hxn
      refine ⟨x,hx,hxk,?_⟩
      rw [List.count_cons]
      have:(a == s)=false:=beq_eq_false_iff_ne.mpr λq=>e (hxk.trans q.symm)
      rw [this]
      simpa using hxn
    ·rintro ⟨x,hx,hxk,hxn⟩
     rw [List.count_cons] at hxn
     refine ⟨if x.k=a then bj (-1) x else x,mem_updN.mpr ⟨x,hx,rfl⟩,?_,?_⟩
     ·split <;> exact hxk
     ·by_cases e:x.k=a
      ·rw [if_pos e]
       show x.np+(-1)=_
       have:(a == s)=true:=by rw [←hxk,e];simp
       rw [this] at hxn
       simp at hxn
       omega
      ·rw [if_neg e]
       have:(a == s)=false:=beq_eq_false_iff_ne.mpr λq=>e (hxk.trans q.symm)
       rw [this] at hxn
       simpa using hxn
   by_cases h1:y.np=1
   ·haveI hz:((bj (-1) y).np == 0)=true:=by show (y.np+(-1) == 0)=true;rw [h1];rfl
    have haL:a∉L:=by
     intro ha
     haveI:=List.count_pos_iff.mpr ha
     omega
    refine ⟨a::Y,by rw [i2,if_pos hz,List.append_assoc];rfl,List.nodup_cons.mpr ⟨λq=>haL ((i4 a).mp q).1,i3⟩,λs=>?_⟩
    rw [List.mem_cons,List.mem_cons,hmem]
    constructor
    ·rintro (rfl | ⟨q,q'⟩)
     ·refine ⟨.inl rfl,y,hy,hyk,?_⟩
      rw [List.count_cons_self,List.count_eq_zero.mpr haL,h1];rfl
     ·exact ⟨.inr q,q'⟩
    ·rintro ⟨rfl | q,q'⟩
     ·exact .inl rfl
     ·exact .inr ⟨q,q'⟩
   ·have hz:((bj (-1) y).np == 0)=false:=by
     show (y.np+(-1) == 0)=false
     exact beq_eq_false_iff_ne.mpr (by omega)
    refine ⟨Y,by rw [i2,hz];rfl,i3,λs=>?_⟩
    rw [List.mem_cons,hmem]
    constructor
    ·rintro ⟨q,q'⟩
     exact ⟨.inr q,q'⟩
    ·rintro ⟨rfl | q,x,hx,hxk,hxn⟩
     ·cases h0 x hx hxk
      rw [List.count_cons_self] at hxn
      refine ⟨?_,_,hx,hxk,by rw [List.count_cons_self];exact hxn⟩
      by_cases q:s∈L
      ·exact q
      ·rw [List.count_eq_zero.mpr q] at hxn
       exact absurd hxn h1
     ·exact ⟨q,x,hx,hxk,hxn⟩
theorem RunP.done (hr:∀r∈rs,r.Ok){k:Nat}(h:RunP rs ns D (k::O) []):RunP rs (bn ns [] (ag k) (suP rs k)).1 (D++[k]) O (bn ns [] (ag k) (suP rs k)).2:=by
 have hk:=h.olt k (.head _)
 have hkD:=h.dis k (.head _)
 have hon:=h.on
 rw [List.nodup_cons] at hon
 have hsn:=λq=>ti (rs:=rs) hk hkD q
 have hkn:(ns.map (·.k)).Nodup:=by rw [h.ks];exact jA
 have hkn0:((aH ns (ag k) (Nd.setNp (-2))).map (·.k)).Nodup:=by rw [cr (f:=Nd.setNp (-2)) _ λω=>rfl];exact hkn
 have hin:∀s∈suP rs k,∃x∈aH ns (ag k) (Nd.setNp (-2)),x.k=s/\((suP rs k).count s:Int)<=x.np:=by
  intro s hs
  obtain ⟨q,hq,rfl,hc⟩:=(fP hr).mp hs
  obtain ⟨x,hx,e⟩:=eg h.ks hq
  have hrem:eL rs D q≠0:=by haveI:=hsn q;omega
  haveI hqD:q∉D:=λhD=>hrem (h.z q (.inl hD))
  haveI hqO:q∉k::O:=λhO=>hrem (h.z q (.inr hO))
  have hqk:q≠k:=λe=>hqO (e▸.head _)
  refine ⟨x,mem_updN.mpr ⟨x,hx,by rw [if_neg λq'=>hqk (de hq hk (e.symm.trans q'))]⟩,e,?_⟩
  rw [h.np x hx q hq e,if_neg hqD,if_neg hqO,eY hr hq]
  haveI:=hsn q;omega
 obtain ⟨i1,Y,i2,i3,i4⟩:=kM (suP rs k) (aH ns (ag k) (Nd.setNp (-2))) [] hkn0 hin
 have mem:∀{y},y∈(bn ns [] (ag k) (suP rs k)).1->∃x∈ns,y.k=x.k/\y.su=x.su/\y.np=(if x.k=ag k then -2 else x.np) - (suP rs k).count x.k:=by
  intro y hy
  unfold bn at hy
  rw [i1] at hy
  obtain ⟨x',hx',rfl⟩:=List.mem_map.mp hy
  obtain ⟨x,hx,rfl⟩:=mem_updN.mp hx'
  refine ⟨x,hx,?_⟩
  by_cases e:x.k=ag k
  ·rw [if_pos e,if_pos e];exact ⟨rfl,rfl,rfl⟩
  ·rw [if_neg e,if_neg e];exact ⟨rfl,rfl,rfl⟩
 have hR2:(bn ns [] (ag k) (suP rs k)).2=Y:=by unfold bn;rw [i2];rfl
 refine ⟨?_,λy hy p hp e=>?_,λy hy p hp e=>?_,?_,hon.2,λp hp q=>?_,λp hp=>?_,λp hp=>h.olt p (.tail _ hp),λp hp=>?_,by rw [hR2];exact i3,λs=>?_⟩
 ·unfold bn
  rw [i1,←h.ks,List.map_map]
  unfold aH
  rw [List.map_map]
  refine List.map_congr_left λx ω=>?_
  show (if x.k=ag k then x.setNp (-2) else x).k=x.k
  split <;> rfl
 ·obtain ⟨x,hx,e1,e2,_⟩:=mem hy
  rw [e2];exact h.su x hx p hp (e1.symm.trans e)
 ·obtain ⟨x,hx,e1,_,e3⟩:=mem hy
  haveI hxp:=e1.symm.trans e
  rw [e3,hxp,eY hr hp,h.np x hx p hp hxp]
  haveI hs:=hsn p
  by_cases hpk:p=k
  ·subst hpk
   haveI:=h.z p (.inr (.head _))
   rw [if_pos rfl,if_pos (by simp)]
   omega
  ·rw [if_neg λq=>hpk (de hp hk q)]
   by_cases hD:p∈D
   ·have:=h.z p (.inl hD)
    rw [if_pos hD,if_pos (by simp [hD])]
    omega
   ·haveI hD':p∉D++[k]:=by simp [hD,hpk]
    rw [if_neg hD,if_neg hD']
    by_cases hO:p∈O
    ·haveI:=h.z p (.inr (.tail _ hO))
     rw [if_pos (.tail _ hO),if_pos hO]
     omega
    ·rw [if_neg (by simp [hO,hpk]),if_neg hO]
     omega
 ·exact List.nodup_append.mpr ⟨h.dn,by simp,λa ha b hb e=>by simp at hb;subst hb;subst e;exact hkD ha⟩
 ·rcases List.mem_append.mp q with q | q
  ·exact h.dis p (.tail _ hp) q
  ·simp at q;subst q;exact hon.1 hp
 ·rcases List.mem_append.mp hp with q | q
  ·exact h.dlt p q
  ·simp at q;subst q;exact hk
 ·haveI hs:=hsn p
  haveI:eL rs D p=0:=by
   rcases hp with q | q
   ·rcases List.mem_append.mp q with q | q
    ·exact h.z p (.inl q)
    ·simp at q;subst q;exact h.z p (.inr (.head _))
   ·exact h.z p (.inr (.tail _ q))
  omega
 ·rw [hR2,i4]
  constructor
  ·rintro ⟨hs,x',hx',hxk,hxn⟩
   obtain ⟨q,hq,rfl,hc⟩:=(fP hr).mp hs
   obtain ⟨x,hx,rfl⟩:=mem_updN.mp hx'
   haveI hs:=hsn q
   have hrem:eL rs D q≠0:=by omega
   haveI hqD:q∉D:=λhD=>hrem (h.z q (.inl hD))
   have hqO:q∉k::O:=λhO=>hrem (h.z q (.inr hO))
   have hqk:q≠k:=λe=>hqO (e▸.head _)
   have e:x.k=ag q:=by revert hxk;split <;> exact id
   rw [if_neg λq'=>hqk (de hq hk (e.symm.trans q'))] at hxn
   rw [h.np x hx q hq e,if_neg hqD,if_neg hqO,eY hr hq] at hxn
   exact ⟨q,hq,rfl,by simp [hqD,hqk],λq'=>hqO (.tail _ q'),by omega⟩
  ·rintro ⟨q,hq,rfl,h1,h2,h3⟩
   have hqD:q∉D:=λq'=>h1 (by simp [q'])
   have hqk:q≠k:=λq'=>h1 (by simp [q'])
   have hqO:q∉k::O:=by simp [hqk,h2]
   have hs:=hsn q
   have hrem:eL rs D q≠0:=λhz=>by
    have:=(h.rm (ag q)).mpr ⟨q,hq,rfl,hqD,hqO,hz⟩
    cases this
   obtain ⟨x,hx,e⟩:=eg h.ks hq
   refine ⟨(fP hr).mpr ⟨q,hq,rfl,by omega⟩,x,mem_updN.mpr ⟨x,hx,by rw [if_neg λq'=>hqk (de hq hk (e.symm.trans q'))]⟩,e,?_⟩
   rw [h.np x hx q hq e,if_neg hqD,if_neg hqO,eY hr hq]
   omega
noncomputable def aO (rs:List Rule)(D:List Nat):List Nat:=(List.range 7).filter λq=>(aU rs q).all λp=>D.contains p
theorem mem_free {q:Nat}:q∈aO rs D↔q<7/\eL rs D q=0:=by
 unfold aO
 rw [List.mem_filter,List.mem_range,te,List.all_eq_true]
 simp
theorem free_nodup :(aO rs D).Nodup:=List.nodup_range.sublist List.filter_sublist
theorem iy {l:List Nat}(h:l.Nodup)(hl:∀p∈l,p<7):(l.map ag).Nodup:=by
 induction l with
 | nil=>exact List.nodup_nil
 | cons a l ih=>
  rw [List.nodup_cons] at h
  rw [List.map_cons,List.nodup_cons]
  refine ⟨λq=>?_,ih h.2 λp hp=>hl p (.tail _ hp)⟩
  obtain ⟨b,hb,e⟩:=List.mem_map.mp q
  cases de (hl b (.tail _ hb)) (hl a (.head _)) e
  exact h.1 hb
theorem RunP.len (h:RunP rs ns D O R):(aO rs D).length=D.length+O.length+R.length:=by
 haveI hI:∃I:List Nat,I.Nodup/\(∀p,p∈I↔p<7/\p∉D/\p∉O/\eL rs D p=0):=
  ⟨(List.range 7).filter λp=>decide (p∉D/\p∉O/\eL rs D p=0),List.nodup_range.sublist List.filter_sublist,λp=>by rw [List.mem_filter,List.mem_range,decide_eq_true_iff]⟩
 obtain ⟨I,hn,hm⟩:=hI
 haveI hlt:∀p∈I,p<7:=λp hp=>((hm p).mp hp).1
 have l1:R.length=I.length:=by
  have h1:=gn (l:=R) (m:=I.map ag) h.rn λs hs=>by
   obtain ⟨p,hp,rfl,h1⟩:=(h.rm s).mp hs
   exact List.mem_map_of_mem ((hm p).mpr ⟨hp,h1⟩)
  haveI h2:=gn (l:=I.map ag) (m:=R) (iy hn hlt) λs hs=>by
   obtain ⟨p,hp,rfl⟩:=List.mem_map.mp hs
   obtain ⟨q,q'⟩:=(hm p).mp hp
   exact (h.rm _).mpr ⟨p,q,rfl,q'⟩
  rw [List.length_map] at h1 h2
  omega
 have hU9:(D++O++I).Nodup:=by
  refine List.nodup_append.mpr ⟨List.nodup_append.mpr ⟨h.dn,h.on,λa ha b hb e=>h.dis b hb (e▸ha)⟩,hn,λa ha b hb e=>?_⟩
  subst e
  obtain ⟨_,q1,q2,_⟩:=(hm a).mp hb
  rcases List.mem_append.mp ha with q | q
  ·exact q1 q
  ·exact q2 q
 have hmU:∀p,p∈D++O++I↔p∈aO rs D:=by
  intro p
  rw [mem_free,List.mem_append,List.mem_append,hm]
  constructor
  ·rintro ((q | q) | q)
   ·exact ⟨h.dlt p q,h.z p (.inl q)⟩
   ·exact ⟨h.olt p q,h.z p (.inr q)⟩
   ·exact ⟨q.1,q.2.2.2⟩
  ·rintro ⟨q1,q2⟩
   by_cases hD:p∈D
   ·exact .inl (.inl hD)
   ·by_cases hO:p∈O
    ·exact .inl (.inr hO)
    ·exact .inr ⟨q1,hD,hO,q2⟩
 haveI h1:=bD hU9 λa ha=>(hmU a).mp ha
 haveI h2:=bD (free_nodup (rs:=rs) (D:=D)) λa ha=>(hmU a).mpr ha
 rw [List.length_append,List.length_append] at h1 h2
 omega
noncomputable def nmS:List Str:=["++++","////","////////","////ABCD","ABCD","ABCD++++","ABCD++++////"]
noncomputable def eu (x:Str):Nat:=nmS.findIdx (· == x)
theorem pN:∀a∈nm,∀b∈nm,Spec.ltCps a.cps.toList b.cps.toList=decide (eu a<eu b)/\(eu a=eu b->a=b):=by decide +kernel
theorem iq:∀{l:List Str},(∀s∈l,s∈nm)->sortedS l=true->l.Pairwise λa b=>eu a<=eu b
 | [],_,_=>.nil
 | a::l,hl,h=>by
  have key:∀(l:List Str) (a:Str),(∀s∈a::l,s∈nm)->risingS a l=true->(∀b∈l,eu a<=eu b)/\l.Pairwise λa b=>eu a<=eu b:=by
   intro l
   induction l with
   | nil=>exact λω ω ω=>⟨λω h=>(by cases h),.nil⟩
   | cons b l ih=>
    intro a hl h
    unfold risingS at h
    rw [Bool.and_eq_true] at h
    have h1:=(pN b (hl b (.tail _ (.head _))) a (hl a (.head _))).1
    haveI h2:eu a<=eu b:=by
     haveI:=h.1
     rw [h1] at this
     simpa using this
    obtain ⟨i1,i2⟩:=ih b (λs hs=>hl s (.tail _ hs)) h.2
    refine ⟨λd hd=>?_,List.pairwise_cons.mpr ⟨i1,i2⟩⟩
    rcases List.mem_cons.mp hd with rfl | hd
    ·exact h2
    ·exact Nat.le_trans h2 (i1 d hd)
  obtain ⟨i1,i2⟩:=key l a hl h
  exact List.pairwise_cons.mpr ⟨i1,i2⟩
theorem qJ {l m:List Str}(hl:∀s∈l,s∈nm)(h1:sortedS l=true)(h2:sortedS m=true)(hp:l.Perm m):l=m:=by
 have hm:∀s∈m,s∈nm:=λs hs=>hl s (hp.mem_iff.mpr hs)
 exact List.Perm.eq_of_pairwise (λa b ha hb q q'=>(pN a (hl a ha) b (hm b hb)).2 (Nat.le_antisymm q q')) (iq hl h1) (iq hm h2) hp
theorem mL (h:p<7):ag p∈nm:=by
 haveI:∀i:Fin 7,ag i∈nm:=by decide +kernel
 exact this ⟨p,h⟩
theorem RunP.ready {K:List Nat}(h:RunP rs ns D O R)(hK:∀p,p∈K↔p∈D∨p∈O){js ks:List Str}(hj:js.Perm R)(hk:ks.Perm (((aO rs D).filter λp=>!K.contains p).map ag))(h1:sortedS js=true)(h2:sortedS ks=true):js=ks:=by
 haveI hlt:∀p∈(aO rs D).filter (λp=>!K.contains p),p<7:=λp hp=>(mem_free.mp (List.mem_filter.mp hp).1).1
 have hRm:∀s∈R,s∈nm:=λs hs=>by
  obtain ⟨p,hp,rfl,_⟩:=(h.rm s).mp hs
  exact mL hp
 have hp:R.Perm (((aO rs D).filter λp=>!K.contains p).map ag):=by
  refine (List.perm_ext_iff_of_nodup h.rn (iy (free_nodup.sublist List.filter_sublist) hlt)).mpr λs=>?_
  rw [h.rm,List.mem_map]
  constructor
  ·rintro ⟨p,hp,rfl,q1,q2,q3⟩
   refine ⟨p,List.mem_filter.mpr ⟨mem_free.mpr ⟨hp,q3⟩,?_⟩,rfl⟩
   have:p∉K:=λq=>((hK p).mp q).elim q1 q2
   simpa using this
  ·rintro ⟨p,hp,rfl⟩
   obtain ⟨q1,q2⟩:=List.mem_filter.mp hp
   obtain ⟨q3,q4⟩:=mem_free.mp q1
   have:p∉K:=by simpa using q2
   exact ⟨p,q3,rfl,λq=>this ((hK p).mpr (.inl q)),λq=>this ((hK p).mpr (.inr q)),q4⟩
 exact qJ (λs hs=>hRm s (hj.mem_iff.mp hs)) h1 h2 (hj.trans (hp.trans hk.symm))
end
section
variable {N:Nat}{U:Store}{Q:AVal->Store->Prop}
def StandX (N:Nat)(U U':Store):Prop:=U.length<=U'.length/\∀i x,i≠N->isX x=false->U.at i=some x->U'.at i=some x
theorem StandX.put {N:Nat}{U:Store}{o:AObj}:StandX N U (U.put N o):=⟨by simp,λi x hn ω e=>at_put_ne hn e⟩
theorem StandX.pers {U' U'':Store}(h:StandX N U U')(p:Pers U' U''):StandX N U U'':=⟨Nat.le_trans h.1 p.1,λi x hn hx e=>p.2 i x (h.2 i x hn hx e) hx⟩
theorem Raised.putHi {j:Nat}{cls:Value}{F:Option Nat}{o:AObj}(h:Raised U j cls F)(hh:Hi (N+1) U j):Raised (U.put N o) j cls F:=by
 have h1:=hh.1
 rcases h with h | ⟨t,h,h'⟩ | ⟨L,q,t,h,h'⟩
 ·exact .inl (at_put_ne (by omega) h)
 ·have:=hh.2 _ _ h
  exact .inr (.inl ⟨t,at_put_ne (by omega) h,at_put_ne (by omega) h'⟩)
 ·have:=hh.2 _ _ h
  exact .inr (.inr ⟨L,q,t,at_put_ne (by omega) h,at_put_ne (by omega) h'⟩)
theorem jc {P:SP}(hd:1<P.d)(hf:P.free=true)(U:Store)(deed:AVal)(G:Nat->Store->Prop)(hN:U.length=N)(hk:∀o,KeepR C0 (U++[some o]) deed)
  (h:TC C0 P.down deed [] [] (λω U'=>G 0 U') (λj U'=>Hi (N+1) U' j/\((Raised U' j (.type "ValueError") none/\G 1 U')∨(Raised U' j (.ref 72) none/\G 2 U'))) (U++[none]))
  (hG:∀n U' U'',G n U'->N<U'.length->StandX N U' U''->G n U'') {X:XP} (q0:∀U',G 0 U'->Q (.str "") U') (q1:∀U',G 1 U'->Q (.str "order") U') (q2:∀U',G 2 U'->Q (.str "ring") U') :
  TC C0 P (.top (.ref 248)) [deed] [] Q X U:=by
 refine TC.of (tk248 hN (by omega) ?_)
 refine TSs_cons' (x:=?_) ?_
 with_reducible refine uI rfl ?_
 k_lt zR
 refine TCW.mk ?_
 k_lt zR
 refine ⟨hk _,TCall.of (m:=[("deed",deed)]) (at_app_0 hN) ?_⟩
 have e:Store.gone (U++[some (AObj.frame [("deed",deed)])]) (lK N).frame=U++[none]:=oP hN
 rw [e]
 have lenN:(U++[none]:Store).length=N+1:=by simp [hN]
 refine TC.mono h ?_ ?_
 ·rintro a U' hl hg
  have h1:(U'.put N (.frame [("deed",deed)])).at N=some (.frame [("deed",deed)]):=by
   rw [Store.at_put (by omega),if_pos rfl]
  have hg':=hG 0 U' _ hg (by omega) (StandX.put (o:=.frame [("deed",deed)]))
  with_unfolding_all change TSs _ _ _ _ _ _ (U'.put N (.frame [("deed",deed)]))
  generalize (U'.put N (.frame [("deed",deed)]))=τ at h1 hg' ⊢
  k_lt zR
  exact q0 _ hg'
 ·rintro j U' ⟨hi,hh⟩
  rcases hh with ⟨hr,hg⟩ | ⟨hr,hg⟩
  ·have hlt:=hr.lt
   have hj:=hi.1
   have h1:(U'.put N (.frame [("deed",deed)])).at N=some (.frame [("deed",deed)]):=by
    rw [Store.at_put (by omega),if_pos rfl]
   refine lV (m:=[("deed",deed)]) h1 (hr.putHi hi).any λτ hx hp=>?_
   refine sf hx (er (by k_lt u) (by k_lt u) (by k_lt u) (by k_lt u) ⟨rfl,rfl⟩) tO ?_
   refine fX hx (pu (by k_lt u) (by k_lt u) (by k_lt u) (by k_lt u) (by k_lt u) ⟨rfl,rfl⟩) tN λτ2 hx2 hp2=>?_
   k_lt zR
   exact q1 _ (hG 1 _ _ hg (by omega) ((StandX.put (o:=.frame [("deed",deed)])).pers (hp.trans hp2)))
  ·have hlt:=hr.lt
   have hj:=hi.1
   have h1:(U'.put N (.frame [("deed",deed)])).at N=some (.frame [("deed",deed)]):=by
    rw [Store.at_put (by omega),if_pos rfl]
   refine lV (m:=[("deed",deed)]) h1 (hr.putHi hi).any λτ hx hp=>?_
   refine fX hx (er (by k_lt u) (by k_lt u) (by k_lt u) (by k_lt u) ⟨rfl,rfl⟩) tQ λτ2 hx2 hp2=>?_
   k_lt zR
   exact q2 _ (hG 2 _ _ hg (by omega) ((StandX.put (o:=.frame [("deed",deed)])).pers (hp.trans hp2)))
theorem io {P:SP}(hd:1<P.d)(hf:P.free=true)(U:Store)(deed:AVal)(hk:∀o,KeepR C0 (U++[some o]) deed)
  (h:TC C0 P.down deed [] [] (λω ω=>False) (λj U'=>Hi (U++[none]).length U' j/\Raised U' j (.type "ValueError") none/\Pers (U++[none]) U') (U++[none])) {X:XP} (q:∀U',Pers U U'->Q (.str "order") U'):TC C0 P (.top (.ref 248)) [deed] [] Q X U:=by
 have e:(U++[none]:Store).length=U.length+1:=by simp
 refine jc hd hf U deed (λn U'=>n=1/\Pers U U') rfl hk ?_ ?_ (λω h=>by cases h.1) (λω h=>q _ h.2) (λω h=>by cases h.1)
 ·rw [e] at h
  refine TC.mono h (λω ω ω x=>x.elim) ?_
  rintro j U' ⟨h1,h2,h3⟩
  exact ⟨h1,.inl ⟨h2,rfl,(Pers.of (Grow.app _ _)).trans h3⟩⟩
 ·rintro n U' U'' ⟨h1,h2⟩ hl h3
  exact ⟨h1,Nat.le_trans h2.1 h3.1,λi x e hx=>h3.2 i x (by have:=Store.at_lt e;omega) hx (h2.2 i x e hx)⟩
end
section
noncomputable def ptA (is:Nat):Option Str->AVal
 | some s=>.str s
 | none=>.loc is
noncomputable def pd (n:Nat):Str:=⟨#[n]⟩
noncomputable def ek (s:Str)(ch:Nat):Bool:=decide (s = "?")||(decide (s=if ch=43 then ("\\+" : Str) else pd ch)||(decide (pd (s.cps.getD 0 0) = "[")&&decide ((s.length:Int)=4)&&Txt.contains (j9 s (some 1) (some 3)) (pd ch)))
noncomputable def bc (nm:Str):List (Option Str)->List Nat->Bool
 | [],pl=>pl.any λk=>decide (k=nm.length)
 | none::_,pl=>!pl.isEmpty
 | some s::r,pl=>bc nm r (pl.filterMap λk=>if k<nm.length&&ek s (nm.cps.getD k 0) then some (k+1) else none)
theorem tz (ch:Nat):(ae (⟨#[ch]⟩:Str) [("+",.str "\\+")]).getD (.str ⟨#[ch]⟩)=.str (if ch=43 then ("\\+" : Str) else pd ch):=by
 unfold ae
 by_cases h:ch=43
 ·subst h;rfl
 ·rw [if_neg,if_neg h]
  ·rfl
  ·intro e
   apply h
   haveI:(⟨#[43]⟩:Str)=⟨#[ch]⟩:=e
   injection this with this
   haveI:=congrArg Array.toList this
   simp at this
   omega
theorem t7 {s:Str}(h:0<s.length):s.cps[((0:Int)).toNat]? = some (s.cps.getD 0 0):=by
 haveI h:0<s.cps.size:=h
 show s.cps[0]? = _
 simp [h]
abbrev TkI (U:Store)(nmv:Str)(parts:List (Option Str))(ip is N j:Nat)(H:Store):Prop:=∃pl pp,bc nmv parts [0]=bc nmv (parts.drop j) pl/\(pl.length<=1/\∀k∈pl,k<=j)/\Grow U H/\FrHas H N [("parts",.loc ip),("star",.loc is),("places",.loc pp)]/\H.at pp=some (.list (pl.map λ(k:Nat)=>.int k))/\H.at (N+1)=some (.cell (some (.str nmv)))/\(∃v,H.at (N+2)=some (.cell v))
theorem sP {P:SP}(hd:0<P.d)(hf:P.free=true)(U:Store)(ip is:Nat)(nmv:Str)(parts:List (Option Str))(hp:U.at ip=some (.list (parts.map (ptA is))))(hs:U.at is=some .object)(hl:parts.length<=100)(hn:nmv.length<=20)(hps:∀s,some s∈parts->0<s.length/\s.length<=4) :
  SpecV C0 P (.top (.ref 236)) [.loc ip,.loc is,.str nmv] [] (.bool (bc nmv parts [0])) U:=by
 refine SpecV.of rfl λwf=>?_
 obtain ⟨N,hN⟩:∃N,U.length=N:=⟨_,rfl⟩
 refine TC.of (tk236 hN (by omega) ?_)
 refine TSs_cons' (x:=?_) ?_
 k_lt zR
 refine br (SP.down_free hf) rfl (λω ω=>rfl) ?_
 k_lt zR
 refine ⟨N+4,.list ip,parts.map (ptA is),TkI U nmv parts ip is N,Src.list (by rw [List.length_append,hN];rfl) (by k_lt zat),?h0,?hx,λω ω=>rfl,?turn,?fin⟩
 case h0=>exact ⟨[0],N+3,rfl,by simp,(Grow.app _ _).trans (Grow.app _ _),by k_lt zfrhas,by k_lt zat,by k_lt zat,_,by k_lt zat⟩
 case hx=>rintro j H ⟨pl,pp,_,_,g,_⟩;exact Items.list (g.at hp)
 case fin=>
  rintro H ⟨pl,pp,h1,h2,g,fr,hpl,hc1,v,hc2⟩ hit
  refine TM.weakTo (F:=N) (fr.gone (by omega)) ?_
  obtain ⟨m3,hm3,_⟩:=id fr
  have hpp:pp≠N+4/\pp≠N:=⟨λe=>(by rw [e,hit] at hpl;cases hpl),λe=>(by rw [e,hm3] at hpl;cases hpl)⟩
  obtain ⟨hpp1,hpp2⟩:=hpp
  k_lt zR
  refine OP2_inL (l:=(pl.map λ(k:Nat)=>(k:Int)).map .int) (by rw [List.map_map];exact at_put_ne hpp2 (at_gone_ne hpp1 hpl)) (kP _ _) ?_
  refine ⟨?_,by k_lt zgrow⟩
  rw [h1,List.length_map,List.drop_length,List.any_map]
  show AVal.bool _=.bool (bc nmv [] pl)
  unfold bc
  congr 2
  funext k
  exact decide_eq_decide.mpr (by simp only [Function.comp];omega)
 case turn=>
  rintro j x H R Y kR kX hx ⟨pl,pp,h1,h2,g,fr,hpl,hc1,v,hc2⟩ hit
  obtain ⟨q,hq1,rfl⟩:=iz hx
  refine TV1.weakTo (F:=N) (fr.put_ne (by omega)) ?_
  obtain ⟨m3,hm3,_⟩:=id fr
  have hpp:pp≠N+4/\pp≠N/\pp≠N+2:=⟨λe=>(by rw [e,hit] at hpl;cases hpl),λe=>(by rw [e,hm3] at hpl;cases hpl),λe=>(by rw [e,hc2] at hpl;cases hpl)⟩
  obtain ⟨hpp1,hpp2,hpp3⟩:=hpp
  have hso:=g.at hs
  have his:is≠N+4/\is≠N/\is≠N+2:=by have:=Store.at_lt hs;omega
  obtain ⟨his1,his2,his3⟩:=his
  obtain ⟨Z,hZ⟩:∃Z,H.length=Z:=⟨_,rfl⟩
  cases q with
  | none=>
   have e:bc nmv (parts.drop j) pl = !pl.isEmpty:=by rw [List.drop_eq_getElem?_toList_append,hq1];rfl
   show TAsg _ _ _ _ (.loc is) _ _ _
   k_lt zR
   refine pick_true' (by simp) ?_
   k_lt zR
   refine qx (i:=pp) (l:=pl.map λ(k:Nat)=>.int k) (by k_lt zat) (by k_lt zat) (List.all_eq_true.mpr λa ha=>by obtain ⟨k,_,rfl⟩:=List.mem_map.mp ha;rfl) ?_
   refine kR (loopQ_ret ?_)
   refine ⟨?_,by k_lt zgrow⟩
   rw [h1,e]
   cases pl <;> rfl
  | some s=>
   show TAsg _ _ _ _ (.str s) _ _ _
   obtain ⟨hs0,hs4⟩:=hps s (List.mem_of_getElem? hq1)
   k_lt zR
   obtain ⟨H1,hH1⟩:∃H1,((H.put (N+4) (AObj.iter (IterK.list ip) (j+1))).put N (.frame [("parts",.loc ip),("star",.loc is),("places",.loc pp)])).put (N+2) (.cell (some (.str s)))=H1:=⟨_,rfl⟩
   have f0:H1.at N=some (.frame [("parts",.loc ip),("star",.loc is),("places",.loc pp)]):=by rw [←hH1];k_lt zat
   have f1:H1.at (N+1)=some (.cell (some (.str nmv))):=by rw [←hH1];exact at_put_ne (by omega) (at_put_ne (by omega) (at_put_ne (by omega) hc1))
   have f2:H1.at (N+2)=some (.cell (some (.str s))):=by rw [←hH1];exact at_put_eq (at_put_ne (by omega) (at_put_ne (by omega) hc2))
   have f4:H1.at (N+4)=some (.iter (IterK.list ip) (j+1)):=by rw [←hH1];k_lt zat
   have f5:H1.at pp=some (.list (pl.map λ(k:Nat)=>.int k)):=by rw [←hH1];k_lt zat
   have fg:Grow U H1:=by rw [←hH1];k_lt zgrow
   with_unfolding_all change TS _ _ _ _ _ _ (((H.put (N+4) (AObj.iter (IterK.list ip) (j+1))).put N (.frame [("parts",.loc ip),("star",.loc is),("places",.loc pp)])).put (N+2) (.cell (some (.str s))))
   rw [hH1]
   clear hH1 hit hm3 hc2 hc1 hpl hso
   with_reducible refine' jS (pl.map λ(k:Nat)=>.int k) (az λk=>if decide (k.toNat<nmv.length)&&ek s (nmv.cps.getD k.toNat 0) then some (.int (k+1)) else none) ?_ ?_ ?_ ?_ ?_ ?_ f0 ?_ ?_
   ·k_lt zfree
   ·k_lt u
   ·intro _ _;k_lt u
   ·intro _;k_lt u
   ·k_lt u
   ·k_lt u
   ·k_lt zR
    refine MapOk.of1 (Src.list rfl f5) (Grow.refl _) (by rw [List.length_map];exact Nat.le_trans h2.1 (by decide)) (by k_lt u) (by rfl) (λω ω=>rfl) ?_
    intro x H2 R W kR kK hx2 g2 hl2 hF2
    obtain ⟨k,hk,rfl⟩:=List.mem_map.mp hx2
    have hk100:k<=100:=by have:=h2.2 k hk;have:=(List.getElem?_eq_some_iff.mp hq1).1;omega
    have c1:=g2.at f1
    have c2:=g2.at f2
    obtain ⟨Z2,hZ2⟩:∃Z,H2.length=Z:=⟨_,rfl⟩
    k_lt zR
    refine aA (λhk1=>?_) λhk1=>?_
    ·have hk1:(k:Int)<nmv.length:=of_decide_eq_true hk1
     have hk2:k<nmv.cps.size:=by
                      have:k<nmv.length:=by omega
                      exact this
     have hch:nmv.cps[((k:Nat):Int).toNat]? = some (nmv.cps.getD k 0):=by
      have:((k:Nat):Int).toNat=k:=by omega
      rw [this];simp [hk2]
     have hval:∀b,ek s (nmv.cps.getD k 0)=b->az (λk=>if (decide (k.toNat<nmv.length)&&ek s (nmv.cps.getD k.toNat 0))=true then some (.int (k+1)) else none) (.int k)=if b then some (.int (k+1)) else none:=by
      intro b hb
      have e1:((k:Nat):Int).toNat=k:=by omega
      show (if (decide (((k:Nat):Int).toNat<nmv.length)&&ek s (nmv.cps.getD ((k:Nat):Int).toNat 0))=true then _ else _)=_
      rw [e1,hb,decide_eq_true (show k<nmv.length by omega),Bool.true_and]
     have fin:∀b τ,ek s (nmv.cps.getD k 0)=b->Off (H1.length+2) H2 τ->τ.at (H1.length+2)=some (.frame [("k",.int k)])->d9 b
      (TE C0 P.down (eF (lL N) {kind:=ScopeKind.function,names:=[(".0",.local),("k",.local),("len",.globalImplicit),("name",.free),("part",.free)],isGenerator:=false,isCoroutine:=false} [("part",N+2),("name",N+1)] (H1.length+2)) (.BinOp (.Name "k" ⟨260,18,260,19⟩) .Add (.Constant (.int 1) 0 ⟨260,22,260,23⟩) ⟨260,18,260,23⟩) R noX τ)
      (W τ):=by
      intro b τ hb ho hF
      have hv:=hval b hb
      cases b with
      | true=>
       refine pick_true ?_
       k_lt zR
       exact ⟨hv,ho⟩
      | false=>exact pick_false (kK ⟨hv,ho⟩)
     generalize hc:nmv.cps.getD k 0=ch at hch fin
     k_lt zR
     refine aA (λhq=>?_) λhq=>?_
     ·exact fin true _ (by unfold ek;rw [hq];rfl) (by k_lt uo) (by k_lt zat)
     ·repeat k_lt zT
      refine uS ?_
      repeat k_lt zT
      refine ⟨"+",rfl,at_app_0 rfl,?_⟩
      rw [put_app_0 rfl]
      have hlt:(H2.put (H1.length+2) (.frame [("k",.int k)])).length=Z2:=by rw [Store.put_length,hZ2]
      rw [hlt]
      repeat k_lt zT
      refine aV ⟨by omega,by omega⟩ hch ?_
      repeat k_lt zT
      refine aV ⟨by omega,by omega⟩ hch ?_
      repeat k_lt zT
      rw [tz]
      repeat k_lt zT
      refine aA (λhq2=>?_) λhq2=>?_
      ·exact fin true _ (by unfold ek;rw [hq2];simp) (by k_lt uo) (by k_lt zat)
      repeat k_lt zT
      refine aV ⟨by decide,by decide⟩ (ch:=s.cps.getD 0 0) (t7 hs0) ?_
      repeat k_lt zT
      refine aA (λhq3=>?_) λhq3=>?_
      ·repeat k_lt zT
       refine aA (λhq4=>?_) λhq4=>?_
       ·repeat k_lt zT
        refine aV ⟨by omega,by omega⟩ hch ?_
        repeat k_lt zT
        have hq3:decide (pd (s.cps.getD 0 0) = "[")=true:=hq3
        exact fin _ _ (by unfold ek;rw [hq,hq2,hq3,hq4];rfl) (by k_lt uo) (by k_lt zat)
       ·have hq3:decide (pd (s.cps.getD 0 0) = "[")=true:=hq3
        exact fin false _ (by unfold ek;rw [hq,hq2,hq3,hq4];rfl) (by k_lt uo) (by k_lt zat)
      ·have hq3:decide (pd (s.cps.getD 0 0) = "[")=false:=hq3
       exact fin false _ (by unfold ek;rw [hq,hq2,hq3];rfl) (by k_lt uo) (by k_lt zat)
    ·refine kK ⟨?_,by k_lt uo⟩
     have e1:((k:Nat):Int).toNat=k:=by omega
     have hk2:=of_decide_eq_false hk1
     show (if (decide (((k:Nat):Int).toNat<nmv.length)&&ek s (nmv.cps.getD ((k:Nat):Int).toNat 0))=true then _ else _)=_
     rw [e1,decide_eq_false (show ¬k<nmv.length by omega),Bool.false_and];rfl
   ·intro p H2 hp2 hat2 hlen2 hoff2 hfr2
    have hNH:N+4<H1.length:=Store.at_lt f4
    have hfm:(pl.map λ(k:Nat)=>AVal.int k).filterMap (az λk=>if decide (k.toNat<nmv.length)&&ek s (nmv.cps.getD k.toNat 0) then some (.int (k+1)) else none)=(pl.filterMap λk=>if k<nmv.length&&ek s (nmv.cps.getD k 0) then some (k+1) else none).map λ(k:Nat)=>AVal.int k:=by
     clear h1 hat2 f5 h2
     induction pl with
     | nil=>rfl
     | cons a l ih=>
      rw [List.map_cons,List.filterMap_cons,List.filterMap_cons,ih]
      have e1:((a:Nat):Int).toNat=a:=by omega
      have e2:az (λk=>if decide (k.toNat<nmv.length)&&ek s (nmv.cps.getD k.toNat 0) then some (.int (k+1)) else none) (.int a)=if decide (a<nmv.length)&&ek s (nmv.cps.getD a 0) then some (.int (a+1)) else none:=by
       show (if decide (((a:Nat):Int).toNat<nmv.length)&&ek s (nmv.cps.getD ((a:Nat):Int).toNat 0) then some (AVal.int (a+1)) else none)=_
       rw [e1]
      rw [e2]
      by_cases hb:(decide (a<nmv.length)&&ek s (nmv.cps.getD a 0))=true
      ·rw [if_pos hb,if_pos hb];rfl
      ·rw [if_neg hb,if_neg hb]
    rw [hfm] at hat2
    refine kR ?_
    refine ⟨⟨pl.filterMap λk=>if k<nmv.length&&ek s (nmv.cps.getD k 0) then some (k+1) else none,p,?_,⟨?_,λk hk=>?_⟩,?_,?_,hat2,hoff2 _ _ (by show N+1≠N;omega) f1,_,hoff2 _ _ (by show N+2≠N;omega) f2⟩,hoff2 _ _ (by show N+4≠N;omega) f4⟩
    ·rw [h1,List.drop_eq_getElem?_toList_append,hq1];rfl
    ·exact Nat.le_trans (List.length_filterMap_le _ _) h2.1
    ·obtain ⟨a,ha,e⟩:=List.mem_filterMap.mp hk
     have:=h2.2 a ha
     split at e
     ·cases e;omega
     ·cases e
    ·exact ⟨Nat.le_trans fg.1 hlen2,λi y e=>hoff2 i y (by have:=Store.at_lt e;show i≠N;omega) (fg.at e)⟩
    ·exact FrHas.mk hfr2 (by k_lt zhas)
end
section
noncomputable def eK (h:Nat):List Nat:=(h % 5)::(if 0<h / 5 then [h / 5 % 5] else [])
noncomputable def jh (x:Int):Rule:=⟨(x.fmod 7).toNat,eK ((x.fdiv 7).natAbs / 2),(x.fdiv 7).natAbs % 2 == 1⟩
noncomputable def b8 (xs:List Int):List Rule:=fixedR++xs.map jh
theorem fmod7 (x:Int):0<=x.fmod 7/\x.fmod 7<7:=⟨Int.fmod_nonneg_of_pos _ (by decide),Int.fmod_lt_of_pos _ (by decide)⟩
theorem qK (x:Int):(jh x).Ok:=by
 haveI:=fmod7 x
 refine ⟨by show (x.fmod 7).toNat<7;omega,λy hy=>?_,?_⟩
 ·haveI hy:y∈eK ((x.fdiv 7).natAbs / 2):=hy
  unfold eK at hy
  rcases List.mem_cons.mp hy with rfl | hy
  ·omega
  ·split at hy
   ·simp at hy;omega
   ·cases hy
 ·show (eK _).length=1∨(eK _).length=2
  unfold eK
  split
  ·exact .inr rfl
  ·exact .inl rfl
theorem n6 (xs:List Int):∀r∈b8 xs,r.Ok:=by
 intro r hr
 rcases List.mem_append.mp hr with hr | hr
 ·haveI:∀r∈fixedR,r.q<7/\(∀x∈r.row,x<5)/\(r.row.length=1∨r.row.length=2):=by decide +kernel
  exact this r hr
 ·obtain ⟨x,_,rfl⟩:=List.mem_map.mp hr
  exact qK x
def RuleAt (U:Store)(n e t:Nat)(r:Rule):Prop:=∃rl,(n<=rl/\n<=t)/\rl≠e/\t≠e/\U.at t=some (.tuple [.int r.q,.loc rl,.bool r.more])/\U.at rl=some (.list (r.row.map λ(k:Nat)=>.int k))
def RulesAt (U:Store)(n i:Nat)(rs:List Rule):Prop:=n<=i/\∃ts:List Nat,U.at i=some (.list (ts.map .loc))/\All2 (RuleAt U n i) ts rs
noncomputable def tupO:AObj->Bool
 | .tuple _=>true
 | .list _=>true
 | _=>false
theorem RuleAt.keep {U U':Store}{n e t:Nat}{r:Rule}(h:RuleAt U n e t r)(k:∀j x,n<=j->j≠e->tupO x=true->U.at j=some x->U'.at j=some x):RuleAt U' n e t r:=by
 obtain ⟨rl,⟨h0,h0'⟩,h1,h2,h3,h4⟩:=h
 exact ⟨rl,⟨h0,h0'⟩,h1,h2,k t _ h0' h2 rfl h3,k rl _ h0 h1 rfl h4⟩
theorem RulesAt.keep {U U':Store}{n i:Nat}{rs:List Rule}(h:RulesAt U n i rs)(k:∀j x,n<=j->tupO x=true->U.at j=some x->U'.at j=some x):RulesAt U' n i rs:=by
 obtain ⟨h0,ts,h1,h2⟩:=h
 exact ⟨h0,ts,k _ _ h0 rfl h1,h2.mono λt r h=>h.keep λj x hj ω=>k j x hj⟩
theorem All2.snoc {α β:Type}{R:α->β->Prop}{l:List α}{m:List β}{a:α}{b:β}(h:All2 R l m)(r:R a b):All2 R (l++[a]) (m++[b]):=h.append (.cons r .nil)
theorem fdivN (a b:Nat):Int.fdiv (a:Int) (b:Int)=((a / b:Nat):Int):=(Int.ofNat_fdiv a b).symm
theorem fmodN (a b:Nat):Int.fmod (a:Int) (b:Int)=((a % b:Nat):Int):=(Int.ofNat_fmod a b).symm
theorem fdiv2 (a:Nat):Int.fdiv (a:Int) 2=((a / 2:Nat):Int):=fdivN a 2
theorem fdiv5 (a:Nat):Int.fdiv (a:Int) 5=((a / 5:Nat):Int):=fdivN a 5
theorem uc (a:Nat):Int.fmod (a:Int) 5=((a % 5:Nat):Int):=fmodN a 5
theorem fmod2 (a:Nat):Int.fmod (a:Int) 2=((a % 2:Nat):Int):=fmodN a 2
theorem absN (a:Int):(if a<0 then -a else a)=(a.natAbs:Int):=by split <;> omega +splitDisjunctions
abbrev RuI (U:Store)(i:Nat)(xs:List Int)(N j:Nat)(H:Store):Prop:=∃ts:List Nat,H.at (N+11)=some (.list (ts.map .loc))/\All2 (RuleAt H N (N+11)) ts (fixedR++(xs.take j).map jh)/\FrHas H N [("numbers",.loc i),("rules",.loc (N+11))]/\Grow U H/\ts.length<=5+j
theorem sQ {P:SP}(hd:0<P.d)(hf:P.free=true)(U:Store)(i:Nat)(xs:List Int)(hi:U.at i=some (.list (xs.map .int)))(hl:xs.length<=100){X:XP} :
  TC C0 P (.top (.ref 226)) [.loc i] [] (λa U'=>∃p,a=.loc p/\RulesAt U' U.length p (b8 xs)/\Grow U U') X U:=by
 obtain ⟨N,hN⟩:∃N,U.length=N:=⟨_,rfl⟩
 refine TC.of (tk226 hN (by omega) ?_)
 refine TSs_cons' ?_
 k_lt zR
 refine br (SP.down_free hf) rfl (λω ω=>rfl) ?_
 k_lt zR
 refine ⟨N+12,.list i,xs.map .int,RuI U i xs N,Src.list (by rw [List.length_append,hN];rfl) (by k_lt zat),?h0,?hx,λω ω=>rfl,?turn,?fin⟩
 case h0=>
  refine ⟨[N+2,N+4,N+6,N+8,N+10],by k_lt zat,?_,by k_lt zfrhas,(Grow.app _ _).trans (Grow.app _ _),by simp⟩
  refine .cons ⟨N+1,⟨by omega,by omega⟩,by omega,by omega,by k_lt zat,by k_lt zat⟩ (.cons ⟨N+3,⟨by omega,by omega⟩,by omega,by omega,by k_lt zat,by k_lt zat⟩ (.cons ⟨N+5,⟨by omega,by omega⟩,by omega,by omega,by k_lt zat,by k_lt zat⟩ (.cons ⟨N+7,⟨by omega,by omega⟩,by omega,by omega,by k_lt zat,by k_lt zat⟩ (.cons ⟨N+9,⟨by omega,by omega⟩,by omega,by omega,by k_lt zat,by k_lt zat⟩ .nil))))
 case hx=>rintro j H ⟨ts,_,_,_,g,_⟩;exact Items.list (g.at hi)
 case fin=>
  rintro H ⟨ts,h1,h2,fr,g,_⟩ hit
  refine TM.weakTo (F:=N) (fr.gone (by omega)) ?_
  obtain ⟨m3,hm3,_⟩:=id fr
  have e1:RulesAt ((H.gone (N+12)).put N (.frame [("numbers",.loc i),("rules",.loc (N+11))])) N (N+11) (b8 xs):=by
   rw [List.length_map,List.take_length] at h2
   refine RulesAt.keep ⟨by omega,ts,h1,h2⟩ λj x ω hx e=>?_
   refine at_put_ne (by rintro rfl;rw [hm3] at e;cases e;cases hx) (at_gone_ne (by rintro rfl;rw [hit] at e;cases e;cases hx) e)
  have e2:Grow U ((H.gone (N+12)).put N (.frame [("numbers",.loc i),("rules",.loc (N+11))])):=by k_lt zgrow
  k_lt zR
  rw [hN];exact ⟨N+11,rfl,e1,e2⟩
 case turn=>
  rintro j v H R Y kR kX hv ⟨ts,h1,h2,fr,g,hts⟩ hit
  obtain ⟨x,hx1,rfl⟩:=iz hv
  refine TV1.weakTo (F:=N) (fr.put_ne (by omega)) ?_
  obtain ⟨m3,hm3,_⟩:=id fr
  obtain ⟨H1,hH1⟩:∃H1,((H.put (N+12) (.iter (.list i) (j+1))).put N (.frame [("numbers",.loc i),("rules",.loc (N+11))]))=H1:=⟨_,rfl⟩
  have f0:H1.at N=some (.frame [("numbers",.loc i),("rules",.loc (N+11))]):=by rw [←hH1];k_lt zat
  have f1:H1.at (N+12)=some (.iter (.list i) (j+1)):=by rw [←hH1];k_lt zat
  have f2:H1.at (N+11)=some (.list (ts.map .loc)):=by rw [←hH1];k_lt zat
  have f3:All2 (RuleAt H1 N (N+11)) ts (fixedR++(xs.take j).map jh):=by
   rw [←hH1]
   refine h2.mono λt r h=>h.keep λk o ω hk ho e=>?_
   exact at_put_ne (by rintro rfl;rw [hm3] at e;cases e;cases ho) (at_put_ne (by rintro rfl;rw [hit] at e;cases e;cases ho) e)
  have f4:Grow U H1:=by rw [←hH1];k_lt zgrow
  rw [hH1]
  clear hH1 hm3 hit fr g h1 h2
  obtain ⟨Z,hZ⟩:∃Z,H1.length=Z:=⟨_,rfl⟩
  have hj:j<xs.length:=(List.getElem?_eq_some_iff.mp hx1).1
  have hll:(ts.map AVal.loc).length<=lenLine:=by rw [List.length_map];exact Nat.le_trans (show ts.length<=105 by omega) (by decide)
  obtain ⟨h,hh⟩:∃h,(x.fdiv 7).natAbs / 2=h:=⟨_,rfl⟩
  k_lt zR
  refine TCall.op (oz ?_)
  rw [absN]
  k_lt zR
  rw [fdiv2,hh]
  have hq7:((x.fmod 7).toNat:Int)=x.fmod 7:=by have:=fmod7 x;omega
  haveI hmore:decide ((((x.fdiv 7).natAbs:Nat):Int).fmod 2=1)=((x.fdiv 7).natAbs % 2 == 1):=by
   rw [fmod2]
   by_cases e:(x.fdiv 7).natAbs % 2=1
   ·rw [e];rfl
   ·rw [decide_eq_false (by omega),beq_eq_false_iff_ne.mpr e]
  haveI key:∀(l1 l2:AObj),All2 (RuleAt ((H1.put N (.frame [("numbers",.loc i),("rules",.loc (N+11)),("x",.int x),("half",.int h),("row",.loc (Z+2))])).put (N+11) (.list (ts.map .loc++[.loc (Z+3)]))++[some l1,some l2,some (.list ((eK h).map λ(k:Nat)=>.int k)),some (.tuple [.int (x.fmod 7),.loc (Z+2),.bool ((x.fdiv 7).natAbs % 2 == 1)])]) N (N+11)) (ts++[Z+3]) (fixedR++(xs.take (j+1)).map jh):=by
   intro l1 l2
   haveI hNZ:N+12<Z:=by haveI:=Store.at_lt f1;omega
   rw [take_next' hx1,List.map_append,←List.append_assoc]
   refine All2.snoc (f3.mono λt r h=>h.keep λk o ω hk ho e=>at_app_l (at_put_ne hk (at_put_ne (by rintro rfl;rw [f0] at e;cases e;cases ho) e))) ?_
   haveI hlen:((H1.put N (.frame [("numbers",.loc i),("rules",.loc (N+11)),("x",.int x),("half",.int h),("row",.loc (Z+2))])).put (N+11) (.list (ts.map .loc++[.loc (Z+3)]))).length=Z:=by simp [hZ]
   refine ⟨Z+2,⟨by omega,by omega⟩,by omega,by omega,?_,?_⟩
   ·refine (at_app_r (j:=3) hlen rfl).trans ?_
    show some (AObj.tuple _)=some (.tuple [.int (((x.fmod 7).toNat:Nat):Int),_,_])
    rw [hq7];rfl
   ·refine (at_app_r (j:=2) hlen rfl).trans ?_
    rw [←hh];rfl
  refine aA (λhp=>?_) λhp=>?_
  ·k_lt zR
   refine TCall.op (oz ?_)
   rw [absN]
   k_lt zR
   rw [fdiv5] at hp ⊢
   rw [uc,uc,hmore]
   haveI hrow:[AVal.int ((h % 5:Nat):Int),.int ((h / 5 % 5:Nat):Int)]=(eK h).map λ(k:Nat)=>.int k:=by
    haveI:=of_decide_eq_true hp
    unfold eK;rw [if_pos (by omega)];rfl
   haveI k:=key (.list [.int ((h % 5:Nat):Int)]) (.list [.int ((h / 5 % 5:Nat):Int)])
   rw [←hrow] at k
   refine ⟨⟨ts++[Z+3],by rw [List.map_append];k_lt zat,k,by k_lt uf,by k_lt zgrow,by simp;omega⟩,by k_lt zat⟩
  ·k_lt zR
   refine TCall.op (oz ?_)
   rw [absN]
   k_lt zR
   rw [fdiv5] at hp
   rw [uc,hmore]
   haveI hrow:[AVal.int ((h % 5:Nat):Int)]=(eK h).map λ(k:Nat)=>.int k:=by
    haveI:=of_decide_eq_false hp
    unfold eK;rw [if_neg (by omega)];rfl
   haveI k:=key (.list [.int ((h % 5:Nat):Int)]) (.list [])
   rw [←hrow] at k
   refine ⟨⟨ts++[Z+3],by rw [List.map_append];k_lt zat,k,by k_lt uf,by k_lt zgrow,by simp;omega⟩,by k_lt zat⟩
end
section
def TabOk (U:Store)(t:Nat)(P:Addr)(q:Str):Prop:=∃es,U.at t=some (.tab P es)/\∀e∈es,U.at e.2.2=some (.code q)
structure ButT (t:Nat)(U U':Store):Prop where
 len:U.length<=U'.length
 keep:∀i x,i≠t->U.at i=some x->U'.at i=some x
 tab:∀P es,U.at t=some (.tab P es)->∃es',U'.at t=some (.tab P es')/\∀e∈es',e∈es∨U.length<=e.2.2
theorem ButT.trans {t:Nat}{U U' U'':Store}(h:ButT t U U')(h':ButT t U' U''):ButT t U U'':=⟨Nat.le_trans h.len h'.len,λi x hn e=>h'.keep i x hn (h.keep i x hn e),λP es e=>by
 obtain ⟨es1,e1,q1⟩:=h.tab P es e
 obtain ⟨es2,e2,q2⟩:=h'.tab P es1 e1
 exact ⟨es2,e2,λe he=>(q2 e he).elim (q1 e) λq=>.inr (Nat.le_trans h.len q)⟩⟩
theorem ButT.of {t:Nat}{U U':Store}(h:Grow U U'):ButT t U U':=⟨h.1,λi x ω e=>h.at e,λω es e=>⟨es,h.at e,λω h=>.inl h⟩⟩
theorem ButT.at {t:Nat}{U U':Store}(h:ButT t U U'){i:Nat}{x:AObj}(e:U.at i=some x)(hn:i≠t):U'.at i=some x:=h.keep i x hn e
theorem ButT.put {t:Nat}{U U':Store}(h:ButT t U U'){j:Nat}{x:AObj}(hj:U.length<=j):ButT t U (U'.put j x):=⟨by simpa using h.len,λi y hn e=>at_put_ne (by have:=Store.at_lt e;omega) (h.keep i y hn e),λP es e=>by
 obtain ⟨es1,e1,q1⟩:=h.tab P es e
 exact ⟨es1,at_put_ne (by have:=Store.at_lt e;omega) e1,q1⟩⟩
theorem ButT.app {t:Nat}{U U' l:Store}(h:ButT t U U'):ButT t U (U'++l):=h.trans (ButT.of (Grow.app _ _))
theorem ButT.back {t F:Nat}{U U':Store}{x:AObj}(hF:U.at F=some x)(ht:F≠t)(g:ButT t (U.gone F) U'):ButT t U (U'.put F x):=by
 have hl:=g.len
 rw [Store.gone_length] at hl
 refine ⟨by simpa using hl,λj y hn e=>?_,λP es e=>?_⟩
 ·by_cases q:j=F
  ·subst q
   rw [hF] at e;cases e
   rw [Store.at_put (Nat.lt_of_lt_of_le (Store.at_lt hF) hl),if_pos rfl]
  ·exact at_put_ne q (g.keep j y hn (at_gone_ne q e))
 ·obtain ⟨es1,e1,q1⟩:=g.tab P es (at_gone_ne (Ne.symm ht) e)
  rw [Store.gone_length] at q1
  exact ⟨es1,at_put_ne (Ne.symm ht) e1,q1⟩
theorem TabOk.back {t F:Nat}{U U':Store}{x:AObj}{P:Addr}{q:Str}(hF:F<U.length)(ht:F≠t)(h:TabOk (U.gone F) t P q)(g:ButT t (U.gone F) U')(h':TabOk U' t P q):TabOk (U'.put F x) t P q:=by
 obtain ⟨es,e1,e2⟩:=h
 obtain ⟨es1,e3,q1⟩:=g.tab P es e1
 obtain ⟨es2,e4,e5⟩:=h'
 rw [e3] at e4;cases e4
 rw [Store.gone_length] at q1
 refine ⟨es1,at_put_ne (Ne.symm ht) e3,λe he=>at_put_ne ?_ (e5 e he)⟩
 rcases q1 e he with q | q
 ·rintro hq
  have:=e2 e q
  rw [hq,Store.at_gone,if_pos rfl] at this
  cases this
 ·omega
theorem TabOk.keep {U U':Store}{t:Nat}{P:Addr}{q:Str}(h:TabOk U t P q)(k:∀j x,(∃es,x=.tab P es)∨(∃q,x=.code q)->U.at j=some x->U'.at j=some x):TabOk U' t P q:=by
 obtain ⟨es,h1,h2⟩:=h
 exact ⟨es,k _ _ (.inl ⟨_,rfl⟩) h1,λe he=>k _ _ (.inr ⟨_,rfl⟩) (h2 e he)⟩
theorem TabOk.grow {U U':Store}{t:Nat}{P:Addr}{q:Str}(h:TabOk U t P q)(g:Grow U U'):TabOk U' t P q:=h.keep λω ω ω e=>g.at e
theorem ky1 {y:AObj}(h:bI y=false):bI y=false∨(∃m,y=.frame m)∨(∃m,y=.cell m)∨(∃k i,y=.iter k i):=.inl h
theorem ky2 {m:List (Str×AVal)}:bI (.frame m)=false∨(∃m',AObj.frame m=.frame m')∨(∃m',AObj.frame m=.cell m')∨(∃k i,AObj.frame m=.iter k i):=.inr (.inl ⟨_,rfl⟩)
theorem ky3 {m:Option AVal}:bI (.cell m)=false∨(∃m',AObj.cell m=.frame m')∨(∃m',AObj.cell m=.cell m')∨(∃k i,AObj.cell m=.iter k i):=.inr (.inr (.inl ⟨_,rfl⟩))
theorem kg1 {m:List (Str×AVal)}:(∃m',AObj.frame m=.frame m')∨(∃k i,AObj.frame m=.iter k i):=.inl ⟨_,rfl⟩
theorem TabOk.put {U:Store}{t:Nat}{P:Addr}{q:Str}(h:TabOk U t P q){j:Nat}{y o:AObj}(hj:U.at j=some y)(hy:autoParam (bI y=false∨(∃m,y=.frame m)∨(∃m,y=.cell m)∨(∃k i,y=.iter k i)) auY):TabOk (U.put j o) t P q:=h.keep λi x hx e=>at_put_ne (by
 rintro rfl
 rw [hj] at e;cases e
 rcases hx with ⟨_,rfl⟩ | ⟨_,rfl⟩ <;> rcases hy with hy | ⟨_,hy⟩ | ⟨_,hy⟩ | ⟨_,_,hy⟩ <;> cases hy) e
theorem TabOk.gone {U:Store}{t:Nat}{P:Addr}{q:Str}(h:TabOk U t P q){j:Nat}{y:AObj}(hj:U.at j=some y)(hy:autoParam ((∃m,y=.frame m)∨(∃k i,y=.iter k i)) auG):TabOk (U.gone j) t P q:=h.keep λi x hx e=>at_gone_ne (by
 rintro rfl
 rw [hj] at e;cases e
 rcases hx with ⟨_,rfl⟩ | ⟨_,rfl⟩ <;> rcases hy with ⟨_,hy⟩ | ⟨_,_,hy⟩ <;> cases hy) e
theorem iC {pos:Pos}{k:Nat}:∀{es:List (Int×Int×Nat)},dt pos es=some k->∃e∈es,e.2.2=k
 | [],h=>by cases h
 | e::es,h=>by
  unfold dt at h
  split at h
  ·cases h;exact ⟨_,.head _,rfl⟩
  ·obtain ⟨e',h1,h2⟩:=iC h
   exact ⟨e',.tail _ h1,h2⟩
section
variable {c:Cfg}{P:SP}{E:AEnv}{U:Store}{X:XP}
variable {t:Nat}{Pt cc:Addr}{params:Arguments}{scope:Scope}{pos:Pos}{cl:List (Str×Nat)}{Q:AVal->Store->Prop}
theorem lam_new {es:List (Int×Int×Nat)}{x:Int×Int×Nat}{qn:Str}{al:AObj}{G:Prop}(h1:U.at t=some (.tab Pt es))(h2:∀e∈es,U.at e.2.2=some (.code qn))(hx:x.2.2=U.length)
  (k:(U.length+1+1=(U.put t (.tab Pt (es++[x]))++[some (AObj.code qn)]++[some al]).length)->(U.put t (.tab Pt (es++[x]))++[some (AObj.code qn)]++[some al]).at (U.length+1)=some al->(U.put t (.tab Pt (es++[x]))++[some (AObj.code qn)]++[some al]).at U.length=some (.code qn)->
   TabOk (U.put t (.tab Pt (es++[x]))++[some (AObj.code qn)]++[some al]) t Pt qn->ButT t U (U.put t (.tab Pt (es++[x]))++[some (AObj.code qn)]++[some al])->G):G:=by
 have hl:(U.put t (.tab Pt (es++[x]))).length=U.length:=Store.put_length ..
 have hl2:(U.put t (.tab Pt (es++[x]))++[some (AObj.code qn)]).length=U.length+1:=by rw [List.length_append,hl];rfl
 have hc:(U.put t (.tab Pt (es++[x]))++[some (AObj.code qn)]++[some al]).at U.length=some (.code qn):=at_app_l (at_app_0 hl)
 refine k (by rw [List.length_append,hl2];rfl) (at_app_0 hl2) hc ⟨_,at_app_l (at_app_l (at_put_eq h1)),λe he=>?_⟩ ⟨by simp,λi x hn e=>at_app_l (at_app_l (at_put_ne hn e)),λP' es' e=>?_⟩
 ·rcases List.mem_append.mp he with he | he
  ·exact at_app_l (at_app_l (at_put_ne (λq=>by have:=h2 e he;rw [q,h1] at this;cases this) (h2 e he)))
  ·cases List.mem_singleton.mp he
   rw [hx];exact hc
 ·rw [h1] at e;cases e
  refine ⟨_,at_app_l (at_app_l (at_put_eq h1)),λe he=>?_⟩
  rcases List.mem_append.mp he with he | he
  ·exact .inl he
  ·cases List.mem_singleton.mp he
   exact .inr (Nat.le_of_eq hx.symm)
theorem TE_Lam {body:Expr}(hcode:E.code=.top (.ref cc))(hq:(cc,Pt)∈c.tabs)(hdef:∀env,defaultsOf params env=([],[]))
  (hT:TabOk U t Pt (E.qual ++ "<lambda>")) (hcl:ba E.cells scope.names []=some cl)
  (h:∀i k U',U.length<=i->i+1=U'.length->U'.at i=some (.lam (E.qual ++ "<lambda>") params body scope cl k)->U'.at k=some (.code (E.qual ++ "<lambda>"))->TabOk U' t Pt (E.qual ++ "<lambda>")->ButT t U U'->Q (.loc i) U'):TE c P E (.Lambda params body scope pos) Q X U:=by
 obtain ⟨es,h1,h2⟩:=hT
 cases hf:dt pos es with
 | some k=>
  obtain ⟨e,he,hk⟩:=iC hf
  have hkc:=h2 e he
  rw [hk] at hkc
  refine l8 rfl hcode hq hdef h1 hcl hf hkc ?_
  exact h _ k _ (Nat.le_refl _) (by simp) (at_app_0 rfl) (at_app_l hkc) ⟨es,at_app_l h1,λe he=>at_app_l (h2 e he)⟩ (ButT.of (Grow.app _ _))
 | none=>
  refine lZ rfl hcode hq hdef h1 hcl hf ?_
  exact lam_new (x:=((pos.line:Int),(pos.col:Int),U.length)) h1 h2 rfl λh3 h4 h5 h6 h7=>h _ U.length _ (Nat.le_succ _) h3 h4 h5 h6 h7
theorem TE_Lam' {body:Expr}{q:Str}(he:E.qual ++ "<lambda>" = q)(hT:TabOk U t Pt q)(hcode:E.code=.top (.ref cc))(hq:(cc,Pt)∈c.tabs)(hdef:∀env,defaultsOf params env=([],[]))
  (hcl:ba E.cells scope.names []=some cl)
  (h:∀i k U',U.length<=i->i+1=U'.length->U'.at i=some (.lam q params body scope cl k)->U'.at k=some (.code q)->TabOk U' t Pt q->ButT t U U'->Q (.loc i) U'):TE c P E (.Lambda params body scope pos) Q X U:=by
 subst he
 exact TE_Lam hcode hq hdef hT hcl h
end
end
section
theorem qF {P:SP}(hd:0<P.d)(hf:P.free=true)(U:Store){ch:Nat}(hc:eD ch=true):SpecV C0 P (.top (.ref 205)) [.str ⟨#[ch]⟩] [] (.str (bu ch)) U:=by
 refine SpecV.of rfl λwf=>?_
 obtain ⟨N,hN⟩:∃N,U.length=N:=⟨_,rfl⟩
 refine TC.of (tk205 hN (by omega) ?_)
 refine TSs_cons' ?_
 k_lt zR
 refine TCall.op (tE ?_)
 k_lt zR
 refine TCall.op (lq (SP.down_free hf) hc ?_)
 exact ⟨rfl,by k_lt zgrow⟩
inductive Tok3 where
 | lit (c:Nat)
 | qm
 | set (c:Nat)
 | star
noncomputable def Tok3.txt:Tok3->List Nat
 | .lit c=>[c]
 | .qm=>[63]
 | .set c=>[91,c,47,93]
 | .star=>[42]
def Tok3.ok:Tok3->Prop
 | .lit c=>eD c=true
 | .set c=>c∈[65,66,67,68]
 | _=>True
noncomputable def Tok3.part:Tok3->Option Str
 | .lit c=>some (bu c)
 | .qm=>some "?"
 | .set c=>some ⟨#[91,c,47,93]⟩
 | .star=>none
noncomputable def ib (ps:List (Option Str)):Tok3->List (Option Str)
 | .star=>if ps.getLast? = some none then ps else ps++[none]
 | t=>ps++[t.part]
noncomputable def ar (l:List Tok3):List (Option Str):=l.foldl ib []
noncomputable def aQ (l:List Tok3):List Nat:=l.flatMap Tok3.txt
theorem ix:∀(l:List Tok3),(ar l).length<=l.length:=by
 haveI:∀(l:List Tok3) (ps:List (Option Str)),(l.foldl ib ps).length<=ps.length+l.length:=by
  intro l
  induction l with
  | nil=>intro ps;exact Nat.le_refl _
  | cons t l ih=>
   intro ps
   rw [List.foldl_cons,List.length_cons]
   haveI h1:=ih (ib ps t)
   haveI h2:(ib ps t).length<=ps.length+1:=by
    cases t <;> unfold ib <;> dsimp only
    all_goals first
     | (rw [List.length_append];exact Nat.le_refl _)
     | (split <;> simp)
   omega
 intro l
 haveI:=this l []
 rw [List.length_nil,Nat.zero_add] at this
 exact this
noncomputable def ev:Str:="_translate.<locals>.<lambda>"
theorem uw {c:Nat}(h:eD c=true):decide ((⟨#[c]⟩:Str) = "*")=false/\decide ((⟨#[c]⟩:Str) = "?")=false/\decide ((⟨#[c]⟩:Str) = "[")=false:=by
 unfold eD at h
 simp only [Bool.or_eq_true,beq_iff_eq] at h
 rcases h with ((((rfl | rfl) | rfl) | rfl) | rfl) | rfl <;> decide
theorem kr {c:Nat}(h:c∈[65,66,67,68]):decide ((⟨#[c]⟩:Str) = "!")=false/\decide ((⟨#[c]⟩:Str) = "]")=false/\Txt.contains ⟨#[c,47]⟩ "-" = false/\(Builtin.Str.occurrences ⟨#[c,47]⟩ "\\" 0 (⟨#[c,47]⟩:Str).length ((⟨#[c,47]⟩:Str).length+1)).isEmpty=true/\
  decide ((⟨#[c,47]⟩:Str) = "!")=false/\fD (.str ⟨#[c]⟩) [.str "^",.str "["]=some false/\(Str.empty ++ "[" ++ (⟨#[c,47]⟩:Str) ++ "]" : Str)=⟨#[91,c,47,93]⟩/\(⟨#[c,47]⟩:Str).length<=1000/\True:=by
 simp only [List.mem_cons,List.not_mem_nil,or_false] at h
 rcases h with rfl | rfl | rfl | rfl <;> decide +kernel
theorem dm (l:List Tok3)(t:Tok3):ar (l++[t])=ib (ar l) t:=by unfold ar;rw [List.foldl_append];rfl
theorem nP (l:List Tok3)(t:Tok3):aQ (l++[t])=aQ l++t.txt:=by unfold aQ;rw [List.flatMap_append];simp
theorem cutS_at {x:Str}{l m r:List Nat}{c L:Nat}(h:x.cps.toList=l++(m++c::47::r))(hL:L+1=l.length+m.length)(hr:0<r.length∨True:=.inr trivial):j9 x (some ((L:Int)+1)) (some (L+3))=⟨#[c,47]⟩:=by
 have hn:x.length=l.length+(m.length+(2+r.length)):=by
  show x.cps.size=_
  rw [←Array.length_toList,h]
  simp;omega
 have e1:kms_lo (some ((L:Int)+1)) x.length=L+1:=by
  unfold kms_lo;dsimp only
  rw [if_neg (by omega)]
  have:((L:Int)+1).toNat=L+1:=by omega
  omega
 have e2:kms_hi (some ((L:Int)+3)) x.length=L+3:=by
  unfold kms_hi;dsimp only
  rw [if_neg (by omega)]
  have:((L:Int)+3).toNat=L+3:=by omega
  omega
 have e3:x.cps.toList.length=x.length:=by rw [Array.length_toList];rfl
 have e4:dY x.cps.toList (some ((L:Int)+1)) (some (L+3))=[c,47]:=by
  unfold dY
  rw [e3,e1,e2,h,←List.append_assoc,hL,show l.length+m.length=(l++m).length by simp,List.drop_left]
  have:L+3 - (l++m).length=2:=by simp;omega
  rw [this];rfl
 unfold j9
 rw [e1,e2,e4]
 split
 ·rename_i hh
  have hx:x.cps.toList=[c,47]:=by
   have h1:l=[]:=List.eq_nil_of_length_eq_zero (by omega)
   have h2:m=[]:=List.eq_nil_of_length_eq_zero (by omega)
   have h3:r=[]:=List.eq_nil_of_length_eq_zero (by omega)
   rw [h,h1,h2,h3];rfl
  cases x with
  | mk cps=>
   congr 1
   exact Array.toList_inj.mp hx
 ·rfl
theorem tn {U:Store}{i:Nat}{x:AObj}(h:U.at i=some x):U.put i x=U:=by
 haveI e:U[i]? = some (some x):=by
  unfold Store.at at h
  split at h
  ·rename_i q;rw [q,h]
  ·cases h
 unfold Store.put
 refine List.ext_getElem? λj=>?_
 rw [List.getElem?_set]
 split
 ·rename_i q;subst q;rw [if_pos (Store.at_lt h),e]
 ·rfl
noncomputable def fY (is N:Nat)(pat:Str)(L:Int):List (Str×AVal):=[("pat",.str pat),("STAR",.loc is),("QUESTION_MARK",.str "?"),("res",.loc (N+1)),("add",.loc (N+2)),("n",.int pat.length),("i",.int L)]
structure TrI (U:Store)(is t N:Nat)(pat:Str)(pre:List Tok3)(H:Store):Prop where
 fr:FrHas H N (fY is N pat (aQ pre).length)
 f1:H.at (N+1)=some (.list ((ar pre).map (ptA is)))
 f2:H.at (N+2)=some (.bmeth "builtin_function_or_method" "list.append" (.loc (N+1)))
 f3:ButT t U H
 f4:TabOk H t 207 ev
def TrE (U:Store)(toks:List Tok3)(is t N:Nat)(pat:Str)(n:Nat)(H:Store):Prop:=∃pre rest,toks=pre++rest/\n=rest.length/\TrI U is t N pat pre H
structure TrF (U:Store)(is t N:Nat)(pat:Str)(pre:List Tok3)(L:Nat)(H:Store):Prop where
 f0:H.at N=some (.frame [("pat",.str pat),("STAR",.loc is),("QUESTION_MARK",.str "?"),("res",.loc (N+1)),("add",.loc (N+2)),("n",.int pat.length),("i",.int L)])
 f1:H.at (N+1)=some (.list ((ar pre).map (ptA is)))
 f2:H.at (N+2)=some (.bmeth "builtin_function_or_method" "list.append" (.loc (N+1)))
 f3:ButT t U H
 f4:TabOk H t 207 ev
 f5:H.at is=some .object
 hL:(aQ pre).length=L
 l1:((ar pre).map (ptA is)).length<=lenLine
 pll:pat.length<=lenLine
 pl3:pat.length<=80
 isN:is<N
 hNt:t<N
 hN:U.length=N
noncomputable def sw:List Stmt:=lE (nth uv 3)
noncomputable def wh212:Stmt:=nth (lE (nth (kid2 (nth (kid2 (nth sw 2)) 0)) 0)) 3
noncomputable def se212:List Stmt:=(lE (nth (kid2 (nth (kid2 (nth sw 2)) 0)) 0)).drop 4
section
variable {P:SP}{U:Store}{is t N L:Nat}{pat:Str}{pre:List Tok3}{H:Store}{K:Store->Prop}{Q:ai->Store->Prop}{X:XP}
variable {c:Nat}{H0:Store}
theorem TrI.of (hsn:∀tk,(aQ (pre++[tk])).length=(aQ pre).length+tk.txt.length){tk:Tok3}{ps:List (Option Str)}(F:TrF U is t N pat pre L H)(hps:ar (pre++[tk])=ps){τ:Store}{j:Int}(hj:((L+tk.txt.length:Nat):Int)=j)(fr:FrHas τ N (fY is N pat j))(h1:τ.at (N+1)=some (.list (ps.map (ptA is))))(h2:τ.at (N+2)=some (.bmeth "builtin_function_or_method" "list.append" (.loc (N+1))))(h3:ButT t U τ)(h4:TabOk τ t 207 ev):TrI U is t N pat (pre++[tk]) τ:=by
 refine ⟨?_,by rw [hps];exact h1,h2,h3,h4⟩
 rw [hsn,F.hL,hj];exact fr
theorem dT (pre:List Tok3)(tk:Tok3):(aQ (pre++[tk])).length=(aQ pre).length+tk.txt.length:=by rw [nP,List.length_append]
def TrT (P:SP)(U:Store)(is t N:Nat)(pat:Str)(pre:List Tok3)(tk:Tok3)(H:Store):Prop:=∀(R:ai->Store->Prop) (X:XP),(∀τ,TrI U is t N pat (pre++[tk]) τ->R .next τ)->TSs C0 P.down (fT N) sw R X H
theorem tr_star (hd:1<P.d)(hf:P.free=true)(F:TrF U is t N pat pre L H)(h0:pat.cps[((L:Nat):Int).toNat]? = some 42)(hL80:L<pat.length):TrT P U is t N pat pre .star H:=by
 intro R X q
 have f0:=F.f0
 have f1:=F.f1
 have f2:=F.f2
 have f3:=F.f3
 have f4:=F.f4
 have f5:=F.f5
 have hl1:=F.l1
 have hll:=F.pll
 have hpl3:=F.pl3
 have hisN:=F.isN
 have hNt:=F.hNt
 have hN:=F.hN
 have hps:=dm pre .star
 refine TSs_cons' ?_
 k_lt zR
 refine aV ⟨by omega,by omega⟩ h0 ?_
 k_lt zR
 refine ic (by k_lt zat) hl1 ?_
 cases hpp:ar pre with
 | nil=>
  rw [hpp] at f1 hl1 hps
  refine pick_true' rfl ?_
  k_lt zR
  refine TCW.mk ?_
  k_lt zR
  refine ⟨KeepR.bmeth (by k_lt zat) rfl,bp (i:=N+1) (by k_lt zat) (by k_lt zat) hl1 rfl ?_⟩
  k_lt zR
  refine q _ (.of (dT pre) F hps (j:=(L:Int)+1) rfl (by unfold fY;k_lt zfrhas) ?_ (by k_lt zat) ((f3.put (by omega)).put (by omega)) ((f4.put f0).put (at_put_ne (by omega) f1)))
  show _=some (AObj.list [.loc is])
  k_lt zat
 | cons a l=>
  rw [hpp] at f1 hl1 hps
  refine pick_false' rfl ?_
  obtain ⟨z,hz⟩:∃z,(a::l).getLast? = some z:=⟨_,List.getLast?_eq_some_getLast (by simp)⟩
  have hz1:((a::l).map (ptA is))[((a::l).map (ptA is)).length - 1]? = some (ptA is z):=by
   rw [←List.getLast?_eq_getElem?,List.getLast?_map,hz];rfl
  repeat k_lt zT
  cases z with
  | none=>
   show OP2 _ _ _ (.loc is) (.loc is) _ _ _
   refine pB (x:=.object) (y:=.object) (by k_lt zat) (by k_lt zat) rfl ?_
   k_lt zR
   refine pick_false' (by simp) ?_
   k_lt zR
   exact q _ (.of (dT pre) F (hps.trans (if_pos hz)) (j:=(L:Int)+1) rfl (by unfold fY;k_lt zfrhas) (by k_lt zat) (by k_lt zat) (f3.put (by omega)) (f4.put f0))
  | some x=>
   show OP2 _ _ _ (.str x) (.loc is) _ _ _
   refine jU isSL ?_
   k_lt zR
   refine TCW.mk ?_
   k_lt zR
   refine ⟨KeepR.bmeth (by k_lt zat) rfl,bp (i:=N+1) (by k_lt zat) (by k_lt zat) hl1 rfl ?_⟩
   k_lt zR
   refine q _ (.of (dT pre) F (hps.trans (if_neg (by rw [hz];intro e;cases e))) (j:=(L:Int)+1) rfl (by unfold fY;k_lt zfrhas) ?_ (by k_lt zat) ((f3.put (by omega)).put (by omega)) ((f4.put f0).put (at_put_ne (by omega) f1)))
   rw [List.map_append]
   show _=some (AObj.list ((a::l).map (ptA is)++[.loc is]))
   k_lt zat
theorem tr_qm (hd:1<P.d)(hf:P.free=true)(F:TrF U is t N pat pre L H)(h0:pat.cps[((L:Nat):Int).toNat]? = some 63)(hL80:L<pat.length):TrT P U is t N pat pre .qm H:=by
 intro R X q
 haveI f0:=F.f0
 haveI f1:=F.f1
 haveI f2:=F.f2
 haveI f3:=F.f3
 haveI hl1:=F.l1
 haveI hll:=F.pll
 haveI hpl3:=F.pl3
 haveI hN:=F.hN
 refine TSs_cons' ?_
 k_lt zR
 refine aV ⟨by omega,by omega⟩ h0 ?_
 k_lt zR
 refine TCW.mk ?_
 k_lt zR
 refine ⟨KeepR.bmeth (by k_lt zat) rfl,bp (i:=N+1) (by k_lt zat) (by k_lt zat) hl1 rfl ?_⟩
 k_lt zR
 refine q _ (.of (dT pre) F (dm pre .qm) (j:=(L:Int)+1) rfl (by unfold fY;k_lt zfrhas) ?_ (by k_lt zat) ((f3.put (by omega)).put (by omega)) ((F.f4.put f0).put (at_put_ne (by omega) f1)))
 show _=some (AObj.list ((ar pre++[some ("?" : Str)]).map (ptA is)))
 rw [List.map_append];k_lt zat
theorem tr_lit (hd:1<P.d)(hf:P.free=true)(F:TrF U is t N pat pre L H)(h0:pat.cps[((L:Nat):Int).toNat]? = some c)(hL80:L<pat.length)(htk:eD c=true):TrT P U is t N pat pre (.lit c) H:=by
 intro R X q
 haveI f0:=F.f0
 haveI f1:=F.f1
 haveI f2:=F.f2
 haveI f3:=F.f3
 haveI hl1:=F.l1
 haveI hll:=F.pll
 haveI hpl3:=F.pl3
 haveI hN:=F.hN
 obtain ⟨n1,n2,n3⟩:=uw htk
 refine TSs_cons' ?_
 k_lt zR
 refine aV ⟨by omega,by omega⟩ h0 ?_
 k_lt zR
 refine pick_false' n1 ?_
 k_lt zR
 refine pick_false' n2 ?_
 k_lt zR
 refine pick_false' n3 ?_
 k_lt zR
 refine TCW.mk ?_
 k_lt zR
 with_reducible refine TCall.specV (by k_lt ua) (qF (SP.down_d (by omega)) (SP.down_free hf) _ htk) ?_
 k_lt zR
 refine ⟨KeepR.bmeth (by k_lt zat) rfl,bp (i:=N+1) (by k_lt zat) (by k_lt zat) hl1 rfl ?_⟩
 k_lt zR
 refine q _ (.of (dT pre) F (dm pre (.lit c)) (j:=(L:Int)+1) rfl (by unfold fY;k_lt zfrhas) ?_ (by k_lt zat) ((f3.put (by omega)).put (by omega)) ((F.f4.put f0).put (at_put_ne (by omega) f1)))
 show _=some (AObj.list ((ar pre++[some (bu c)]).map (ptA is)))
 rw [List.map_append];k_lt zat
noncomputable def nQ (is N:Nat)(pat:Str)(L:Nat)(j:Int):List (Str×AVal):=[("pat",.str pat),("STAR",.loc is),("QUESTION_MARK",.str "?"),("res",.loc (N+1)),("add",.loc (N+2)),("n",.int pat.length),("i",.int (L+1)),("c",.str ⟨#[91]⟩),("j",.int j)]
theorem tr_seek (hf:P.free=true)(hH:H0.at N=some (.frame (nQ is N pat L (L+1))))(hll:pat.length<=lenLine)(hpl3:pat.length<=80)(hpl4:L+4<=pat.length)(hget:∀k x,[91,c,47,93][k]? = some x->pat.cps[L+k]? = some x)(m2:decide ((⟨#[c]⟩:Str) = "]")=false)
  (q:Q .next (H0.put N (.frame (nQ is N pat L (L+3))))):TS C0 P.down (fT N) wh212 Q X H0:=by
 refine dy rfl (λn2 τ=>∃d:Nat,d<=2/\n2=2 - d/\τ=H0.put N (.frame (nQ is N pat L (L+1+d)))) 2 ⟨0,by omega,rfl,by simp [tn hH]⟩ ?_
 rintro n2 τ R Y kR kX ⟨d,hd2,hn2,rfl⟩
 haveI hF:(H0.put N (.frame (nQ is N pat L (L+1+d)))).at N=some (.frame [("pat",.str pat),("STAR",.loc is),("QUESTION_MARK",.str "?"),("res",.loc (N+1)),("add",.loc (N+2)),("n",.int pat.length),("i",.int (L+1)),("c",.str ⟨#[91]⟩),("j",.int (L+1+d))]):=at_put_eq hH
 repeat k_lt zT
 refine pick_true' (decide_eq_true (by omega)) ?_
 repeat k_lt zT
 by_cases hdd:d=2
 ·subst hdd
  refine aV ⟨by omega,by omega⟩ (ch:=93) (by rw [show ((L:Int)+1+((2:Nat):Int)).toNat=L+3 by omega];exact hget 3 93 rfl) ?_
  k_lt zR
  rw [show (L:Int)+1+((2:Nat):Int)=L+3 by omega]
  exact q
 ·haveI hch:∃ch,pat.cps[((L:Int)+1+(d:Int)).toNat]? = some ch/\decide ((⟨#[ch]⟩:Str) = "]")=false:=by
   rcases d with _ | _ | d
   ·exact ⟨c,by rw [show ((L:Int)+1+((0:Nat):Int)).toNat=L+1 by omega];exact hget 1 c rfl,m2⟩
   ·exact ⟨47,by rw [show ((L:Int)+1+((1:Nat):Int)).toNat=L+2 by omega];exact hget 2 47 rfl,by decide⟩
   ·omega
  obtain ⟨ch,hch1,hch2⟩:=hch
  refine aV ⟨by omega,by omega⟩ hch1 ?_
  repeat k_lt zT
  refine pick_true' (by rw [hch2];rfl) ?_
  k_lt zR
  refine ⟨2 - (d+1),by omega,d+1,by omega,rfl,?_⟩
  show _=H0.put N (.frame [("pat",.str pat),("STAR",.loc is),("QUESTION_MARK",.str "?"),("res",.loc (N+1)),("add",.loc (N+2)),("n",.int pat.length),("i",.int (L+1)),("c",.str ⟨#[91]⟩),("j",.int (L+1+((d+1:Nat):Int)))])
  rw [show (L:Int)+1+((d+1:Nat):Int)=L+1+d+1 by omega]
theorem tr_put (hd:1<P.d)(hf:P.free=true)(F:TrF U is t N pat pre L H0)(htk:c∈[65,66,67,68])(hpl4:L+4<=pat.length)(hcut:j9 pat (some ((L:Int)+1)) (some (L+3))=⟨#[c,47]⟩)
  (q:∀τ,TrI U is t N pat (pre++[.set c]) τ->Q .next τ):TSs C0 P.down (fT N) se212 Q X (H0.put N (.frame (nQ is N pat L (L+3)))):=by
 haveI f0:=F.f0
 haveI f1:=F.f1
 haveI f2:=F.f2
 haveI f3:=F.f3
 haveI f4:=F.f4
 haveI hl1:=F.l1
 haveI hll:=F.pll
 haveI hpl3:=F.pl3
 haveI hNt:=F.hNt
 haveI hN:=F.hN
 obtain ⟨m1,m2,m3,m4,m5,m6,m7,m8,m9⟩:=kr htk
 haveI hF:(H0.put N (.frame (nQ is N pat L (L+3)))).at N=some (.frame [("pat",.str pat),("STAR",.loc is),("QUESTION_MARK",.str "?"),("res",.loc (N+1)),("add",.loc (N+2)),("n",.int pat.length),("i",.int (L+1)),("c",.str ⟨#[91]⟩),("j",.int (L+3))]):=at_put_eq f0
 refine TSs_cons' ?_
 k_lt zR
 refine pick_false' (decide_eq_false (by omega)) ?_
 k_lt zR
 rw [hcut,m3]
 k_lt zR
 refine TCall.op (oq m4 ?_)
 k_lt zR
 refine TM_sub ?_
 k_lt zR
 haveI hNt':N≠t:=by omega
 haveI hNt1:N+1≠t:=by omega
 haveI hNt2:N+2≠t:=by omega
 refine TE_Lam' (t:=t) (cc:=211) (Pt:=207) (q:=ev) (by k_lt u) (f4.put f0) (by k_lt u) (.tail _ (.head _)) (λω=>rfl) (by k_lt u) λi k τ hi1 hi2 hlam hcode htab hbt=>?_
 haveI e0:=hbt.at (at_put_eq f0) hNt'
 haveI e1:=hbt.at (at_put_ne (show N+1≠N by omega) f1) hNt1
 haveI e2:=hbt.at (at_put_ne (show N+2≠N by omega) f2) hNt2
 haveI e3:ButT t U τ:=(f3.put (by omega)).trans hbt
 haveI hiN:i≠N:=by haveI:=Store.at_lt f0;rw [Store.put_length] at hi1;omega
 haveI hiN1:i≠N+1:=by haveI:=Store.at_lt f1;rw [Store.put_length] at hi1;omega
 obtain ⟨Z2,hZ2⟩:∃Z,τ.length=Z:=⟨_,rfl⟩
 k_lt zR
 refine TCall.op (op_sub htk hlam ?_)
 k_lt zR
 refine uE (Nat.le_trans m8 (by decide)) ?_
 refine pick_false' rfl ?_
 k_lt zR
 refine aV ⟨by decide,by decide⟩ (ch:=c) rfl ?_
 k_lt zR
 refine pick_false' m1 ?_
 k_lt zR
 refine aV ⟨by decide,by decide⟩ (ch:=c) rfl ?_
 k_lt zR
 refine rZ (by k_lt zat) m6 ?_
 k_lt zR
 refine TCW.mk ?_
 k_lt zR
 refine ⟨_,rfl,m8,?_⟩
 k_lt zR
 rw [m7]
 refine ⟨KeepR.bmeth (by k_lt zat) rfl,bp (i:=N+1) (l:=(ar pre).map (ptA is)) (by k_lt zat) (by k_lt zat) hl1 (fj (y:=.list ((ar pre).map (ptA is))) (by k_lt zat)) ?_⟩
 k_lt zR
 refine q _ (.of (dT pre) F (dm pre (.set c)) (j:=L+3+1) (by show ((L+4:Nat):Int)=_;omega) (by unfold fY;k_lt zfrhas) ?_ (by k_lt zat) (((e3.put (by omega)).put (by omega)).app) (((htab.put e0).put (at_put_ne (by omega) e1)).grow (Grow.app _ _)))
 show _=some (AObj.list ((ar pre++[some (⟨#[91,c,47,93]⟩:Str)]).map (ptA is)))
 rw [List.map_append]
 exact at_app_l (at_put_eq (at_put_ne (by omega) e1))
theorem tr_set (hd:1<P.d)(hf:P.free=true)(F:TrF U is t N pat pre L H)(htk:c∈[65,66,67,68])(hpl4:L+4<=pat.length)(hget:∀k x,[91,c,47,93][k]? = some x->pat.cps[L+k]? = some x)(hcut:j9 pat (some ((L:Int)+1)) (some (L+3))=⟨#[c,47]⟩):TrT P U is t N pat pre (.set c) H:=by
 intro R X q
 haveI f0:=F.f0
 haveI hll:=F.pll
 haveI hpl3:=F.pl3
 obtain ⟨m1,m2,-⟩:=kr htk
 haveI g1:pat.cps[((L:Int)+1).toNat]? = some c:=by haveI:=hget 1 c rfl;rw [show ((L:Int)+1).toNat=L+1 by omega];exact this
 refine TSs_cons' ?_
 k_lt zR
 refine aV ⟨by omega,by omega⟩ (hget 0 91 rfl) ?_
 k_lt zR
 refine pick_true' (decide_eq_true (by omega)) ?_
 k_lt zR
 refine aV ⟨by omega,by omega⟩ g1 ?_
 k_lt zR
 refine pick_false' m1 ?_
 k_lt zR
 refine pick_true' (decide_eq_true (by omega)) ?_
 k_lt zR
 refine aV ⟨by omega,by omega⟩ g1 ?_
 k_lt zR
 refine pick_false' m2 ?_
 k_lt zS
 refine aF (λτ=>τ=H.put N (.frame (nQ is N pat L (L+3)))) ?_ ?_
 ·refine tr_seek (c:=c) hf (at_put_eq f0) hll hpl3 hpl4 hget m2 ?_
  exact put_put
 ·rintro τ rfl
  exact tr_put hd hf F htk hpl4 hcut λτ h=>q τ h
end
theorem lg {P:SP}(hd:1<P.d)(hf:P.free=true)(U:Store)(toks:List Tok3)(hok:∀t∈toks,t.ok)(hlen:toks.length<=20)(is t:Nat)(hs:U.at is=some .object)(hT:TabOk U t 207 ev){X:XP} :
  TC C0 P (.top (.ref 212)) [.str ⟨(aQ toks).toArray⟩,.loc is,.str "?"] [] (λa U'=>∃R,a=.loc R/\U'.at R=some (.list ((ar toks).map (ptA is)))/\U.length<=R/\ButT t U U'/\TabOk U' t 207 ev) X U:=by
 obtain ⟨N,hN⟩:∃N,U.length=N:=⟨_,rfl⟩
 refine TC.of (tk212 hN (by omega) ?_)
 refine TSs_cons' ?_
 k_lt zR
 obtain ⟨pat,hpat⟩:∃pat:Str,(⟨(aQ toks).toArray⟩:Str)=pat:=⟨_,rfl⟩
 rw [hpat]
 haveI hpl:pat.length=(aQ toks).length:=by rw [←hpat];rfl
 haveI htl:∀l:List Tok3,(aQ l).length<=4 * l.length:=by
  intro l
  induction l with
  | nil=>exact Nat.le_refl _
  | cons a l ih=>
   unfold aQ at ih ⊢
   rw [List.flatMap_cons,List.length_append,List.length_cons]
   haveI:a.txt.length<=4:=by cases a <;> simp [Tok3.txt]
   omega
 haveI hpl3:pat.length<=80:=by haveI:=htl toks;omega
 haveI hll:pat.length<=lenLine:=Nat.le_trans hpl3 (by decide)
 refine gD (xs:=["i","n"]) (SP.down_free hf) (λω=>by k_lt u) (λω=>by k_lt u) ?_
 k_lt zR
 refine ⟨[.int 0,.int pat.length],U++[some (.frame [("pat",.str pat),("STAR",.loc is),("QUESTION_MARK",.str "?"),("res",.loc (N+1)),("add",.loc (N+2)),("n",.int pat.length),("i",.int 0)]),some (.list []),some (.bmeth "builtin_function_or_method" "list.append" (.loc (N+1))),some (.tuple [.int 0,.int pat.length])],seqA_tuple (at_app_r (j:=3) hN rfl),rfl,?_,?_⟩
 ·show bt (fT N) ["n","i"] [.int pat.length,.int 0] _ _
  with_unfolding_all k_lt zstores
 refine aF (TrI U is t N pat toks) ?_ ?_
 ·refine dy rfl (TrE U toks is t N pat) toks.length ⟨[],toks,rfl,rfl,by unfold fY;k_lt zfrhas,by k_lt zat,by k_lt zat,ButT.of (Grow.app _ _),hT.grow (Grow.app _ _)⟩ ?_
  rintro n' H R Y kR kX ⟨pre,rest,he,hn,I⟩
  refine TM.weakTo (t:=λenv=>isTrue _ env (eval _ env)) (F:=N) I.fr ?_
  obtain ⟨m3,hm3,-⟩:=id I.fr
  obtain ⟨L,hL⟩:∃L,(aQ pre).length=L:=⟨_,rfl⟩
  refine gen1 (H.put N (.frame (fY is N pat (aQ pre).length))) (p1:=λH1=>TrF U is t N pat pre L H1) ?F_ ?_
  case F_=>
   haveI hist:is≠t:=λe=>by obtain ⟨es,h,_⟩:=hT;rw [e,h] at hs;cases hs
   haveI hNt:t<N:=by obtain ⟨es,h,_⟩:=hT;exact hN▸Store.at_lt h
   haveI hpre:(ar pre).length<=20:=by
    haveI:=ix pre
    rw [he,List.length_append] at hlen
    omega
   haveI f3:ButT t U (H.put N (.frame (fY is N pat (aQ pre).length))):=I.f3.put (by omega)
   exact ⟨by rw [←hL];exact at_put_eq hm3,at_put_ne (by omega) I.f1,at_put_ne (by omega) I.f2,f3,I.f4.put hm3,f3.at hs hist,hL,by rw [List.length_map];exact Nat.le_trans hpre (by decide),hll,hpl3,hN▸Store.at_lt hs,hNt,hN⟩
  intro H1 F
  clear I hm3 m3 H
  haveI f0:=F.f0
  repeat k_lt zT
  cases rest with
  | nil=>
   rw [List.append_nil] at he
   subst he
   rw [hL] at hpl
   rw [←hpl] at f0
   refine pick_false' (by rw [←hpl];simp) ?_
   k_lt zR
   exact ⟨by rw [hL,←hpl];unfold fY;k_lt zfrhas,F.f1,F.f2,F.f3,F.f4⟩
  | cons tk rest=>
   have hpc:pat.cps.toList=aQ pre++(tk.txt++aQ rest):=by rw [←hpat,he];simp [aQ]
   have hget:∀(k:Nat) c,tk.txt[k]? = some c->pat.cps[L+k]? = some c:=by
    intro k c hk
    rw [←Array.getElem?_toList,hpc,←hL,List.getElem?_append_right (Nat.le_add_right _ _),Nat.add_sub_cancel_left,List.getElem?_append_left (List.getElem?_eq_some_iff.mp hk).1]
    exact hk
   have hpl2:pat.length=L+(tk.txt.length+(aQ rest).length):=by rw [hpl,he,←hL];simp [aQ]
   have htk:=hok tk (by rw [he];simp)
   have hL80:L<pat.length:=by
    have:0<tk.txt.length:=by cases tk <;> exact Nat.succ_pos _
    omega
   refine pick_true' (decide_eq_true (by omega)) ?_
   have q:∀τ,TrI U is t N pat (pre++[tk]) τ->R .next τ:=λτ h=>kR (loopQ_next ⟨rest.length,by rw [hn];exact Nat.lt_succ_self _,pre++[tk],rest,by rw [he,List.append_assoc];rfl,rfl,h⟩)
   have T:TrT P U is t N pat pre tk H1:=by
    cases tk with
    | star=>exact tr_star hd hf F (hget 0 42 rfl) hL80
    | qm=>exact tr_qm hd hf F (hget 0 63 rfl) hL80
    | lit c=>exact tr_lit hd hf F (hget 0 c rfl) hL80 htk
    | set c=>
     refine tr_set hd hf F htk (by rw [hpl2];show L+4<=L+(4+_);omega) hget ?_
     exact cutS_at (x:=pat) (l:=aQ pre) (m:=[91]) (c:=c) (r:=93::aQ rest) (L:=L) (by rw [hpc];rfl) (by rw [←hL];rfl)
   exact T _ _ q
 ·intro H I
  refine TM.weakTo (F:=N) I.fr ?_
  obtain ⟨m3,hm3,-⟩:=id I.fr
  have e1:=I.f4.put (o:=AObj.frame (fY is N pat (aQ toks).length)) hm3
  have h1:=I.f1
  have h2:=I.f3
  have f0:(H.put N (.frame (fY is N pat (aQ toks).length))).at N=some (.frame [("pat",.str pat),("STAR",.loc is),("QUESTION_MARK",.str "?"),("res",.loc (N+1)),("add",.loc (N+2)),("n",.int pat.length),("i",.int pat.length)]):=by rw [←hpl];exact at_put_eq hm3
  k_lt zR
  refine ⟨by simp,?_⟩
  k_lt zR
  exact ⟨N+1,rfl,by k_lt zat,by omega,h2.put (by omega),e1⟩
end
section
variable {r:Rule}
noncomputable def pieceT:Nat->List Tok3
 | 0=>[.lit 65,.lit 66,.lit 67,.lit 68]
 | 1=>[.lit 43,.lit 43,.lit 43,.lit 43]
 | 2=>[.lit 47,.lit 47,.lit 47,.lit 47]
 | 3=>[.qm,.qm,.qm,.qm]
 | _=>[.set 65,.set 66,.set 67,.set 68]
noncomputable def pieces:List Str:=["ABCD","++++","////","????","[A/][B/][C/][D/]"]
noncomputable def dN (k:Nat):Str:=pieces.getD k ""
noncomputable def aN (row:List Nat)(more:Bool):List Tok3:=row.flatMap pieceT++if more then [.star,.star] else []
noncomputable def gM (row:List Nat):Str:=Txt.join "" (row.map dN)
theorem take1:∀a:Fin 5,∀more:Bool,∀p:Fin 7,bc (ag p) (ar (aN [a.val] more)) [0]=eW [a.val] more (ths.getD p []):=by decide +kernel
theorem take2:∀a b:Fin 5,∀more:Bool,∀p:Fin 7,bc (ag p) (ar (aN [a.val,b.val] more)) [0]=eW [a.val,b.val] more (ths.getD p []):=by decide +kernel
noncomputable def kW (row:List Nat)(more:Bool):Bool:=decide (gM row++(if more then "**" else "")=(⟨(aQ (aN row more)).toArray⟩:Str))&&JoinOk "" (row.map dN)&&decide ((gM row).length<=100)
theorem writ1:∀a:Fin 5,∀more:Bool,kW [a.val] more=true:=by decide +kernel
theorem writ2:∀a b:Fin 5,∀more:Bool,kW [a.val,b.val] more=true:=by decide +kernel
theorem gP (h:r.Ok):(∃a:Fin 5,r.row=[a.val])∨∃a b:Fin 5,r.row=[a.val,b.val]:=by
 obtain ⟨_,h5,hl⟩:=h
 cases hr:r.row with
 | nil=>rw [hr] at hl;simp at hl
 | cons a l=>
  rw [hr] at h5 hl
  cases l with
  | nil=>exact .inl ⟨⟨a,h5 a (.head _)⟩,rfl⟩
  | cons b l=>
   cases l with
   | nil=>exact .inr ⟨⟨a,h5 a (.head _)⟩,⟨b,h5 b (.tail _ (.head _))⟩,rfl⟩
   | cons d l=>simp at hl
theorem sG (h:r.Ok){p:Nat}(hp:p<7):bc (ag p) (ar (aN r.row r.more)) [0]=tk r p:=by
 unfold tk
 rcases gP h with ⟨a,e⟩ | ⟨a,b,e⟩ <;> rw [e]
 ·exact take1 a r.more ⟨p,hp⟩
 ·exact take2 a b r.more ⟨p,hp⟩
theorem writ_ok (h:r.Ok):gM r.row++(if r.more then "**" else "")=(⟨(aQ (aN r.row r.more)).toArray⟩:Str)/\JoinOk "" (r.row.map dN)=true/\(gM r.row).length<=100:=by
 have:kW r.row r.more=true:=by
  rcases gP h with ⟨a,e⟩ | ⟨a,b,e⟩ <;> rw [e]
  ·exact writ1 a r.more
  ·exact writ2 a b r.more
 unfold kW at this
 rw [Bool.and_eq_true,Bool.and_eq_true] at this
 exact ⟨of_decide_eq_true this.1.1,this.1.2,of_decide_eq_true this.2⟩
noncomputable def tokB:Tok3->Bool
 | .lit c=>eD c
 | .set c=>[65,66,67,68].contains c
 | _=>true
noncomputable def partB (s:Option Str):Bool:=match s with
 | some s=>decide (0<s.length/\s.length<=4)
 | none=>true
noncomputable def pH (row:List Nat)(more:Bool):Bool:=(aN row more).all tokB&&decide ((aN row more).length<=20)&&(ar (aN row more)).all partB
theorem toks1:∀a:Fin 5,∀more:Bool,pH [a.val] more=true:=by decide +kernel
theorem toks2:∀a b:Fin 5,∀more:Bool,pH [a.val,b.val] more=true:=by decide +kernel
theorem toks_ok (h:r.Ok):(∀t∈aN r.row r.more,t.ok)/\(aN r.row r.more).length<=20/\∀s,some s∈ar (aN r.row r.more)->0<s.length/\s.length<=4:=by
 have:pH r.row r.more=true:=by
  rcases gP h with ⟨a,e⟩ | ⟨a,b,e⟩ <;> rw [e]
  ·exact toks1 a r.more
  ·exact toks2 a b r.more
 unfold pH at this
 rw [Bool.and_eq_true,Bool.and_eq_true] at this
 refine ⟨λt ht=>?_,of_decide_eq_true this.1.2,λs hs=>?_⟩
 ·have:=List.all_eq_true.mp this.1.1 t ht
  cases t with
  | lit c=>exact this
  | qm=>trivial
  | set c=>show c∈[65,66,67,68];unfold tokB at this;simpa using this
  | star=>trivial
 ·have:=List.all_eq_true.mp this.2 _ hs
  unfold partB at this
  exact of_decide_eq_true this
theorem mZ (C:List (Str×Int×List Str))(k:Str):(bR C k).length<=C.length+1:=by
 unfold bR;split
 ·omega
 ·simp
theorem uB (C:List (Str×Int×List Str))(k:Str)(l:List Str):(ki C k l).length<=C.length+1+l.length:=by
 have:∀(l:List Str) (C:List (Str×Int×List Str)),(l.foldl (λC p=>ez (bR C p) p k) C).length<=C.length+l.length:=by
  intro l
  induction l with
  | nil=>intro C;exact Nat.le_refl _
  | cons p l ih=>
   intro C
   rw [List.foldl_cons,List.length_cons]
   have h1:=ih (ez (bR C p) p k)
   have h2:(ez (bR C p) p k).length=(bR C p).length:=by unfold ez;rw [List.length_map]
   have h3:=mZ C p
   omega
 unfold ki
 have h1:=this l (fc (bR C k) k l.length)
 have h2:(fc (bR C k) k l.length).length=(bR C k).length:=by unfold fc;rw [List.length_map]
 have h3:=mZ C k
 omega
theorem kC (r:Rule):(bw r).length<=7:=by
 unfold bw
 rw [List.length_map]
 exact Nat.le_trans (List.length_filter_le _ _) (by simp)
theorem eV:∀(l:List Rule) (C:List (Str×Int×List Str)) (n:Nat),C.length<=8 * n->suB (7 * n) C->(l.foldl be C).length<=8 * (n+l.length)/\suB (7 * (n+l.length)) (l.foldl be C)
 | [],C,n,h1,h2=>⟨h1,h2⟩
 | r::l,C,n,h1,h2=>by
  have hp:=kC r
  have h3:(be C r).length<=8 * (n+1):=by
   have:=uB C (ag r.q) (bw r)
   unfold be;omega
  have h4:suB (7 * (n+1)) (be C r):=by
   have:=suB_add (k:=ag r.q) (l:=bw r) h2
   intro x hx
   have:=this x hx
   omega
  have:=eV l (be C r) (n+1) h3 h4
  rw [List.foldl_cons,List.length_cons]
  have e:n+1+l.length=n+(l.length+1):=by omega
  rw [e] at this
  exact this
end
section
def ButX (t:Nat)(U U':Store):Prop:=U.length<=U'.length/\∀i x,i≠t->isX x=false->U.at i=some x->U'.at i=some x
theorem ButX.of {t:Nat}{U U':Store}(h:ButT t U U'):ButX t U U':=⟨h.len,λi x hn ω e=>h.keep i x hn e⟩
theorem ButX.ofG {t:Nat}{U U':Store}(h:Grow U U'):ButX t U U':=⟨h.1,λi x ω ω e=>h.at e⟩
theorem ButX.trans {t:Nat}{U U' U'':Store}(h:ButX t U U')(h':ButX t U' U''):ButX t U U'':=⟨Nat.le_trans h.1 h'.1,λi x hn hx e=>h'.2 i x hn hx (h.2 i x hn hx e)⟩
theorem ButX.put {t:Nat}{U U':Store}(h:ButX t U U'){j:Nat}{x:AObj}(hj:U.length<=j):ButX t U (U'.put j x):=⟨by simpa using h.1,λi y hn hx e=>at_put_ne (by haveI:=Store.at_lt e;omega) (h.2 i y hn hx e)⟩
theorem ButX.gone {t:Nat}{U U':Store}(h:ButX t U U'){j:Nat}(hj:U.length<=j):ButX t U (U'.gone j):=⟨by simpa using h.1,λi y hn hx e=>at_gone_ne (by haveI:=Store.at_lt e;omega) (h.2 i y hn hx e)⟩
theorem ButX.app {t:Nat}{U U' l:Store}(h:ButX t U U'):ButX t U (U'++l):=h.trans (ButX.ofG (Grow.app _ _))
theorem ButX.at {t:Nat}{U U':Store}(h:ButX t U U'){i:Nat}{x:AObj}(e:U.at i=some x)(hn:i≠t)(hx:autoParam (isX x=false) auR):U'.at i=some x:=h.2 i x hn hx e
theorem ButX.kept {t:Nat}{U U' U'':Store}{S:Sr}(h:ButX t U U')(k:Kept S U' U'')(hS:∀j,S.places j->U.length<=j):ButX t U U'':=⟨Nat.le_trans h.1 k.1,λi x hn hx e=>k.2 i x (λhf=>by haveI:=hS i hf.places;haveI:=Store.at_lt e;omega) hx (h.2 i x hn hx e)⟩
theorem TabOk.kept {U U':Store}{S:Sr}{t:Nat}{P:Addr}{q:Str}(h:TabOk U t P q)(hS:Srt U S)(k:Kept S U U'):TabOk U' t P q:=h.keep λj x hx e=>by
 rcases hx with ⟨_,rfl⟩ | ⟨_,rfl⟩ <;> exact k.frame hS e
structure SoI (U:Store)(N t np ri s:Nat)(C:List (Str×Int×List Str))(H:Store)(S:Sr):Prop where
 srt:Srt H S
 s:S.s=s
 ep:S.ep=none
 rdy:S.rdy=none
 po:S.po=0
 nf:S.nf=0
 core:ax S.ns=C
 pl:∀j,S.places j->N+3<=j
 but:ButX t U H
 tab:TabOk H t 207 ev
 c1:∃v,H.at (N+1)=some (.cell v)
 c2:∃v,H.at (N+2)=some (.cell v)
noncomputable def soF (np ri s:Nat):List (Str×AVal):=[("names",.loc np),("rules",.loc ri),("sorter",.loc s)]
section
variable {U H:Store}{N t np ri s:Nat}{C:List (Str×Int×List Str)}{S:Sr}
noncomputable def frIt:AObj->Bool
 | .frame _=>true
 | .iter _ _=>true
 | _=>false
theorem SoI.put (h:SoI U N t np ri s C H S)(hN:U.length=N){j:Nat}{y o:AObj}(hj:H.at j=some y)(hy:frIt y=true)(hl:N<=j):SoI U N t np ri s C (H.put j o) S:=by
 have hk:bI y=true:=by cases y <;> first | rfl | cases hy
 refine ⟨h.srt.put (h.srt.out hj hk),h.s,h.ep,h.rdy,h.po,h.nf,h.core,h.pl,h.but.put (by omega),h.tab.put hj (by cases y <;> first | cases hy;done | exact .inr (.inl ⟨_,rfl⟩) | exact .inr (.inr (.inr ⟨_,_,rfl⟩))),?_,?_⟩
 ·obtain ⟨v,e⟩:=h.c1
  exact ⟨v,at_put_kind e hj (by rintro rfl;cases hy)⟩
 ·obtain ⟨v,e⟩:=h.c2
  exact ⟨v,at_put_kind e hj (by rintro rfl;cases hy)⟩
theorem SoI.gone (h:SoI U N t np ri s C H S)(hN:U.length=N){j:Nat}{y:AObj}(hj:H.at j=some y)(hy:frIt y=true)(hl:N<=j):SoI U N t np ri s C (H.gone j) S:=by
 have hk:bI y=true:=by cases y <;> first | rfl | cases hy
 refine ⟨h.srt.gone (h.srt.out hj hk),h.s,h.ep,h.rdy,h.po,h.nf,h.core,h.pl,h.but.gone (by omega),h.tab.gone hj (by cases y <;> first | cases hy;done | exact .inl ⟨_,rfl⟩ | exact .inr ⟨_,_,rfl⟩),?_,?_⟩
 ·obtain ⟨v,e⟩:=h.c1
  exact ⟨v,at_gone_kind e hj (by rintro rfl;cases hy)⟩
 ·obtain ⟨v,e⟩:=h.c2
  exact ⟨v,at_gone_kind e hj (by rintro rfl;cases hy)⟩
theorem SoI.app (h:SoI U N t np ri s C H S){l:Store}:SoI U N t np ri s C (H++l) S:=
 ⟨h.srt.app,h.s,h.ep,h.rdy,h.po,h.nf,h.core,h.pl,h.but.app,h.tab.grow (Grow.app _ _),⟨_,at_app_l h.c1.choose_spec⟩,_,at_app_l h.c2.choose_spec⟩
theorem SoI.cell (h:SoI U N t np ri s C H S)(hN:U.length=N){j:Nat}(hj:j=N+1∨j=N+2){v:Option AVal}:SoI U N t np ri s C (H.put j (.cell v)) S:=by
 obtain ⟨v1,e1⟩:=h.c1
 obtain ⟨v2,e2⟩:=h.c2
 haveI hc:∃w,H.at j=some (.cell w):=by rcases hj with rfl | rfl <;> exact ⟨_,by assumption⟩
 obtain ⟨w,hc⟩:=hc
 refine ⟨h.srt.put (h.srt.out hc rfl),h.s,h.ep,h.rdy,h.po,h.nf,h.core,h.pl,h.but.put (by omega),h.tab.put hc,?_,?_⟩
 ·rcases hj with rfl | rfl
  ·exact ⟨_,at_put_eq hc⟩
  ·exact ⟨_,at_put_ne (by omega) e1⟩
 ·rcases hj with rfl | rfl
  ·exact ⟨_,at_put_ne (by omega) e2⟩
  ·exact ⟨_,at_put_eq hc⟩
theorem SoI.butT (h:SoI U N t np ri s C H S){H':Store}(g:ButT t H H')(ht:t<N)(hT:TabOk H' t 207 ev):SoI U N t np ri s C H' S:=
 ⟨h.srt.congr λj hj x e=>g.at e (by haveI:=h.pl j hj;omega),h.s,h.ep,h.rdy,h.po,h.nf,h.core,h.pl,h.but.trans (ButX.of g),hT,⟨_,g.at h.c1.choose_spec (by omega)⟩,_,g.at h.c2.choose_spec (by omega)⟩
end
theorem pR {k:Nat}(h:k<7):bz (nm.map AVal.str) (k:Int)=some (.str (ag k)):=jw h _ (by decide)
theorem nm_eq:nm=(List.range 7).map ag:=by decide +kernel
theorem qO {k:Nat}(h:k<5):bz (pieces.map AVal.str) (k:Int)=some (.str (dN k)):=jw h _ (by decide)
abbrev SoQ (U:Store)(t:Nat)(rs:List Rule)(a:AVal)(U':Store):Prop:=∃S,a=.loc S.s/\Srt U' S/\S.ep=none/\S.rdy=none/\S.po=0/\S.nf=0/\ax S.ns=aL rs/\(∀j,S.places j->U.length<=j)/\ButX t U U'/\TabOk U' t 207 ev
abbrev SoN (N:Nat)(a:AVal)(U':Store):Prop:=∃S,a=.loc S.s/\Srt U' S/\S.ns=[]/\S.ep=none/\S.rdy=none/\S.po=0/\S.nf=0/\∀j,S.places j->N+3<=j
abbrev SoF (U:Store)(N t np ri s:Nat)(C:List (Str×Int×List Str))(H:Store):Prop:=(∃S,SoI U N t np ri s C H S)/\FrHas H N (soF np ri s)
abbrev SoJ (U:Store)(N t np ri s:Nat)(rs:List Rule)(j:Nat)(H:Store):Prop:=SoF U N t np ri s ((rs.take j).foldl be []) H
abbrev SoP (N Z:Nat)(H:Store):Prop:=∃so,H.at (N+1)=some (.cell (some (.loc so)))/\H.at so=some .object/\Z<so
abbrev SoA (U:Store)(N t np ri s Z:Nat)(rs:List Rule)(j rl:Nat)(r:Rule)(H:Store):Prop:=(∃S,SoI U N t np ri s ((rs.take j).foldl be []) H S)/\H.at N=some (.frame [("names",.loc np),("rules",.loc ri),("sorter",.loc s),("which",.int r.q),("row",.loc rl),("more",.bool r.more)])/\SoP N Z H/\H.at Z=some (.iter (.list ri) (j+1))
abbrev SoB (U:Store)(N t np ri s Z:Nat)(rs:List Rule)(j rl:Nat)(r:Rule)(H:Store):Prop:=(∃S,SoI U N t np ri s ((rs.take j).foldl be []) H S)/\H.at N=some (.frame [("names",.loc np),("rules",.loc ri),("sorter",.loc s),("which",.int r.q),("row",.loc rl),("more",.bool r.more),("written",.str (gM r.row))])/\SoP N Z H/\H.at Z=some (.iter (.list ri) (j+1))
abbrev SoC (U:Store)(N t np ri s Z:Nat)(rs:List Rule)(j rl:Nat)(r:Rule)(H:Store):Prop:=(∃S,SoI U N t np ri s ((rs.take j).foldl be []) H S)/\H.at N=some (.frame [("names",.loc np),("rules",.loc ri),("sorter",.loc s),("which",.int r.q),("row",.loc rl),("more",.bool r.more),("written",.str (gM r.row))])/\(∃so pp,H.at (N+1)=some (.cell (some (.loc so)))/\H.at so=some .object/\Z<so/\H.at (N+2)=some (.cell (some (.loc pp)))/\H.at pp=some (.list ((ar (aN r.row r.more)).map (ptA so)))/\Z<pp)/\H.at Z=some (.iter (.list ri) (j+1))
theorem qC {P:SP}(hd:8<P.d)(hf:P.free=true)(U:Store)(np ri t:Nat){n0:Nat}(rs:List Rule)(hr:∀r∈rs,r.Ok)(hfix:∃l,rs=fixedR++l)(hrl:rs.length<=8)(hnp:U.at np=some (.list (nm.map .str)))(hri:RulesAt U n0 ri rs)(hT:TabOk U t 207 ev){X:XP} :
  TC C0 P (.top (.ref 241)) [.loc np,.loc ri] [] (SoQ U t rs) X U:=by
 obtain ⟨N,hN⟩:∃N,U.length=N:=⟨_,rfl⟩
 refine TC.of (tk241 hN (by omega) ?_)
 refine TSs_cons' ?_
 k_lt zR
 haveI hl0:((U++[some (AObj.frame [("names",.loc np),("rules",.loc ri)]),some (.cell none),some (.cell none)]).gone (jG N).frame).length=N+3:=by rw [Store.gone_length,List.length_append,hN];rfl
 refine TCall.grows (R:=SoN N) (by k_lt ua) (TC.of ((qE (P:=P.down) (by show 2<P.d - 1;omega) _).mono ?_ λω ω x=>x)) ?_
 ·rintro a U' ⟨S,h1,h2,h3,h4,h5,h6,h7,h8,h9⟩
  rw [hl0] at h9
  exact ⟨⟨S,h1,h2,h3,h4,h5,h6,h7,h9⟩,h8⟩
 rintro a U' τ ⟨S0,rfl,s1,s2,s3,s4,s5,s6,s7⟩ hk hG
 haveI hS0:Srt τ S0:=s1.congr λj hj x e=>hk j x (by haveI:=s7 j hj;show j≠N;omega) e
 haveI b0:τ.at N=some (.frame [("names",.loc np),("rules",.loc ri)]):=hG.at (by k_lt zat)
 haveI b1:τ.at (N+1)=some (.cell none):=hG.at (by k_lt zat)
 haveI b2:τ.at (N+2)=some (.cell none):=hG.at (by k_lt zat)
 haveI hGU:Grow U τ:=(Grow.app _ _).trans hG
 clear hk hG s1 hl0
 obtain ⟨Z,hZ⟩:∃Z,τ.length=Z:=⟨_,rfl⟩
 haveI hNZ:N+2<Z:=by haveI:=Store.at_lt b2;omega
 haveI hnpN:np<N:=by haveI:=Store.at_lt hnp;omega
 haveI htN:t<N:=by obtain ⟨es,h,_⟩:=hT;haveI:=Store.at_lt h;omega
 haveI hnpt:np≠t:=λe=>by obtain ⟨es,h,_⟩:=hT;rw [e,h] at hnp;cases hnp
 obtain ⟨_,ts,hts,hrs⟩:=id hri
 haveI hriN:ri<N:=by haveI:=Store.at_lt hts;omega
 haveI hrit:ri≠t:=λe=>by obtain ⟨es,h,_⟩:=hT;rw [e,h] at hts;cases hts
 haveI htsl:ts.length=rs.length:=All2.length hrs
 haveI hnpn:np≠N:=by omega
 haveI hrin:ri≠N:=by omega
 haveI c1:=hGU.at hnp
 haveI c2:=hGU.at hts
 repeat k_lt zT
 refine aF (SoF U N t np ri S0.s (aL rs)) ?_ ?_
 ·refine br (SP.down_free hf) rfl (λω ω=>rfl) ?_
  repeat k_lt zT
  haveI hZN:Z≠N:=by omega
  haveI hZ1:Z≠N+1:=by omega
  haveI hZ2:Z≠N+2:=by omega
  refine ⟨Z,.list ri,ts.map .loc,SoJ U N t np ri S0.s rs,Src.list (by rw [Store.put_length,hZ]) (by k_lt zat),?h0,?hx,λω hz=>?hown,?turn,?fin⟩
  case hown=>exact jm hz
  case h0=>
   refine ⟨⟨S0,(hS0.put (hS0.out b0 rfl)).app,rfl,s3,s4,s5,s6,by rw [s2];rfl,s7,((ButX.ofG hGU).put (by omega)).app,((hT.grow hGU).put b0).grow (Grow.app _ _),⟨_,at_app_l (at_put_ne (by omega) b1)⟩,_,at_app_l (at_put_ne (by omega) b2)⟩,?_⟩
   unfold soF;k_lt zfrhas
  case hx=>
   rintro j H ⟨⟨S,h⟩,_⟩
   exact Items.list (h.but.at hts hrit)
  case fin=>
   rintro H ⟨⟨S,h⟩,fr⟩ hit
   rw [List.length_map,htsl,List.take_length] at h
   haveI hcore:rs.foldl be []=aL rs:=by
    obtain ⟨l,rfl⟩:=hfix
    rw [List.foldl_append,jJ,jK l fixedR λr hr'=>hr r (List.mem_append.mpr (.inr hr'))]
   rw [hcore] at h
   refine TSs_nil ?_
   exact ⟨⟨S,h.gone hN hit rfl (by omega)⟩,fr.gone (by omega)⟩
  case turn=>
   rintro j x H R Y kR kX hx ⟨⟨S,h⟩,fr⟩ hit
   obtain ⟨tj,htj,rfl⟩:=iz hx
   obtain ⟨r,hrj,rl,_,_,_,hr3,hr4⟩:=hrs.get htj
   haveI hrok:=hr r (List.mem_of_getElem? hrj)
   obtain ⟨w1,w2,w3⟩:=writ_ok hrok
   obtain ⟨k1,k2,k3⟩:=toks_ok hrok
   haveI hjl:j<rs.length:=(List.getElem?_eq_some_iff.mp hrj).1
   haveI tabne:∀{i o},U.at i=some o->tupO o=true->i≠t:=λ{i o} e ho q=>by obtain ⟨es,h,_⟩:=hT;rw [q,h] at e;cases e;cases ho
   refine TV1.weakTo (F:=N) (fr.put_ne (by omega)) ?_
   obtain ⟨m3,hm3,_⟩:=id fr
   obtain ⟨H1,hH1⟩:∃H1,((H.put Z (.iter (.list ri) (j+1))).put N (.frame (soF np ri S0.s)))=H1:=⟨_,rfl⟩
   haveI f0:H1.at N=some (.frame [("names",.loc np),("rules",.loc ri),("sorter",.loc S0.s)]):=by rw [←hH1];unfold soF;k_lt zat
   haveI fI:H1.at Z=some (.iter (.list ri) (j+1)):=by rw [←hH1];k_lt zat
   haveI fS:SoI U N t np ri S0.s ((rs.take j).foldl be []) H1 S:=by
    rw [←hH1]
    exact (h.put hN hit rfl (by omega)).put hN (at_put_ne (by omega) hm3) rfl (Nat.le_refl _)
   rw [hH1]
   clear hH1 hm3 hit fr h
   haveI t3:=fS.but.at hr3 (tabne hr3 rfl)
   haveI t4:=fS.but.at hr4 (tabne hr4 rfl)
   obtain ⟨v1,cc1⟩:=fS.c1
   obtain ⟨v2,cc2⟩:=fS.c2
   obtain ⟨Z1,hZ1'⟩:∃Z,H1.length=Z:=⟨_,rfl⟩
   haveI hZZ:Z<Z1:=by haveI:=Store.at_lt fI;omega
   repeat k_lt zT
   refine aF (SoA U N t np ri S0.s Z rs j rl r) ?_ ?_
   ·repeat k_lt zT
    refine ⟨⟨S,?_⟩,by k_lt zat,⟨Z1,by k_lt zat,?_,hZZ⟩,by k_lt zat⟩
    ·exact ((fS.put hN f0 rfl (Nat.le_refl _)).cell hN (.inl rfl)).app
    ·exact at_app_0 (by simp [hZ1'])
   clear t3 t4 cc1 cc2 f0 fI fS hZ1' hZZ
   rintro H2 ⟨⟨S,fS⟩,f0,⟨so,cc1,hso,hsoZ⟩,fI⟩
   obtain ⟨v2,cc2⟩:=fS.c2
   haveI t4:=fS.but.at hr4 (tabne hr4 rfl)
   obtain ⟨Z2,hZ2'⟩:∃Z,H2.length=Z:=⟨_,rfl⟩
   refine aF (SoB U N t np ri S0.s Z rs j rl r) ?_ ?_
   ·repeat k_lt zT
    refine dE (r.row.map λ(k:Nat)=>.int k) (az λk=>some (.str (dN k.toNat))) (SP.down_free hf) (by rfl) (λω ω=>by rfl) ?h ?hl ?q
    case hl=>exact bo λx y h=>by cases x <;> simp [az] at h;subst h;rfl
    case h=>
     repeat k_lt zT
     refine MapOk.of0 (Src.list rfl t4) (Grow.refl _) (by rw [List.length_map];rcases hrok.2.2 with e | e <;> rw [e] <;> decide) (by k_lt u) (by rfl) (λω ω=>rfl) ?_
     intro x H' R kR hx' g' hl' hF'
     obtain ⟨k,hk,rfl⟩:=List.mem_map.mp hx'
     haveI hk5:=hrok.2.1 k hk
     obtain ⟨Z',hZ'⟩:∃Z,H'.length=Z:=⟨_,rfl⟩
     haveI hpk:bz [AVal.str "ABCD",.str "++++",.str "////",.str "????",.str "[A/][B/][C/][D/]"] (k:Int)=some (.str (dN k)):=qO hk5
     repeat k_lt zT
     refine ⟨by show some (AVal.str (dN ((k:Nat):Int).toNat))=_;rw [show ((k:Nat):Int).toNat=k by omega],by k_lt uo⟩
    case q=>
     haveI hfm:(r.row.map λ(k:Nat)=>AVal.int k).filterMap (az λk=>some (.str (dN k.toNat)))=(r.row.map dN).map .str:=by
      rw [List.filterMap_map,List.map_map]
      induction r.row with
      | nil=>rfl
      | cons a l ih=>rw [List.filterMap_cons,List.map_cons,←ih];rfl
     rw [hfm]
     repeat k_lt zT
     refine TCall.op (op_join (ss:=r.row.map dN) (by k_lt zat) rfl w2 ?_)
     repeat k_lt zT
     refine ⟨⟨S,(fS.put hN f0 rfl (Nat.le_refl _)).app⟩,by k_lt zat,⟨so,by k_lt zat,at_app_l (at_put_ne (by omega) hso),hsoZ⟩,by k_lt zat⟩
   clear t4 cc2 hZ2' fI fS hsoZ hso cc1
   rintro H3 ⟨⟨S,fS⟩,f0,⟨so,cc1,hso,hsoZ⟩,fI⟩
   obtain ⟨v2,cc2⟩:=fS.c2
   obtain ⟨Z3,hZ3'⟩:∃Z,H3.length=Z:=⟨_,rfl⟩
   haveI hZZ3:Z<Z3:=by haveI:=Store.at_lt fI;omega
   refine aF (SoC U N t np ri S0.s Z rs j rl r) ?_ ?_
   ·repeat k_lt zT
    haveI go:∀(x:Str) (Q:AVal->Store->Prop) (X':XP),gM r.row++x=(⟨(aQ (aN r.row r.more)).toArray⟩:Str)->(∀R τ,SoI U N t np ri S0.s ((rs.take j).foldl be []) τ S->τ.at N=some (.frame [("names",.loc np),("rules",.loc ri),("sorter",.loc S0.s),("which",.int r.q),("row",.loc rl),("more",.bool r.more),("written",.str (gM r.row))])->τ.at (N+1)=some (.cell (some (.loc so)))->τ.at (N+2)=some (.cell v2)->τ.at so=some .object->Z3<=R->τ.at R=some (.list ((ar (aN r.row r.more)).map (ptA so)))->τ.at Z=some (.iter (.list ri) (j+1))->Q (.loc R) τ)->
      TCall C0 P.down (jG N) (.top (.ref 212)) [.str (gM r.row++x),.loc so,.str "?"] [] Q X' H3:=by
     intro x Q X' hx hq
     rw [hx]
     refine TCall.of (by k_lt ua) (TC.mono (lg (P:=P.down) (X:=noX) (by show 1<P.d - 1;omega) (SP.down_free hf) _ (aN r.row r.more) k1 k2 so t (at_gone_ne (by show so≠N;omega) hso) (fS.tab.gone f0)) ?_ (λω ω x=>x.elim))
     rintro a U' hl ⟨R,rfl,q1,q2,q3,q4⟩
     rw [Store.gone_length] at q2 hl
     haveI hb:=ButT.back f0 (by omega) q3
     haveI hT':=TabOk.back (x:=.frame [("names",.loc np),("rules",.loc ri),("sorter",.loc S0.s),("which",.int r.q),("row",.loc rl),("more",.bool r.more),("written",.str (gM r.row))]) (Store.at_lt f0) (by omega) (fS.tab.gone f0) q3 q4
     exact hq R _ (fS.butT hb htN hT') (hb.at f0 (by omega)) (hb.at cc1 (by omega)) (hb.at cc2 (by omega)) (hb.at hso (by omega)) (by omega) (at_put_ne (by haveI:=Store.at_lt f0;show R≠N;omega) q1) (hb.at fI (by omega))
    haveI w3':∀x:Str,x.length<=2->(gM r.row).length+x.length<=lenLine:=λx hx=>Nat.le_trans (show _<=102 by omega) (by decide)
    rcases Bool.eq_false_or_eq_true r.more with hmore | hmore
    ·haveI w1':gM r.row ++ "**" = (⟨(aQ (aN r.row r.more)).toArray⟩:Str):=by rw [←w1,hmore];rfl
     repeat k_lt zT
     refine pick_true' hmore ?_
     repeat k_lt zT
     refine nJ (w3' _ (by decide)) ?_
     repeat k_lt zT
     refine go _ _ _ w1' λR τ g1 g2 g3 g4 g5 g6 g7 g8=>?_
     repeat k_lt zT
     exact ⟨⟨S,g1.cell hN (.inr rfl)⟩,by k_lt zat,⟨so,R,at_put_ne (by omega) g3,at_put_ne (by omega) g5,hsoZ,at_put_eq g4,at_put_ne (by omega) g7,by omega⟩,by k_lt zat⟩
    ·haveI w1':gM r.row ++ "" = (⟨(aQ (aN r.row r.more)).toArray⟩:Str):=by rw [←w1,hmore];rfl
     repeat k_lt zT
     refine pick_false' hmore ?_
     repeat k_lt zT
     refine nJ (w3' _ (by decide)) ?_
     repeat k_lt zT
     refine go _ _ _ w1' λR τ g1 g2 g3 g4 g5 g6 g7 g8=>?_
     repeat k_lt zT
     exact ⟨⟨S,g1.cell hN (.inr rfl)⟩,by k_lt zat,⟨so,R,at_put_ne (by omega) g3,at_put_ne (by omega) g5,hsoZ,at_put_eq g4,at_put_ne (by omega) g7,by omega⟩,by k_lt zat⟩
   clear cc2 hZ3' fI fS hsoZ hso cc1
   rintro H4 ⟨⟨S,fS⟩,f0,⟨so,pp,cc1,hso,hsoZ,cc2,hpp,hppZ⟩,fI⟩
   obtain ⟨Z4,hZ4'⟩:∃Z,H4.length=Z:=⟨_,rfl⟩
   haveI hs0:=fS.srt.s
   haveI hd0:=fS.srt.d
   rw [fS.s] at hs0
   unfold Sr.attrs at hd0
   refine TSs_one (TS_Expr rfl rfl ?_)
   refine gE (λω ω=>rfl) (λω=>by k_lt u) ?_
   repeat k_lt zT
   haveI hnp4:=fS.but.at hnp hnpt
   refine fV (c:=C0) (ci:=ci154) rfl hs0 hd0 rfl rfl ?_
   rw [hZ4']
   refine TCW.mk ?_
   haveI hqk:=pR hrok.1
   repeat k_lt zT
   refine rR ?_
   haveI hl5:(H4++[some (AObj.meth 104 (.loc S0.s))]).length=Z4+1:=by rw [List.length_append,hZ4'];rfl
   refine dE (nm.map .str) (kE λx=>if bc x (ar (aN r.row r.more)) [0] then some (.str x) else none) (SP.down_free hf) (by rfl) (λω ω=>by rfl) ?h ?hl ?q
   case hl=>exact bo λx y h=>by cases x <;> simp [kE] at h;obtain ⟨_,rfl⟩:=h;rfl
   case h=>
    repeat k_lt zT
    refine MapOk.of1 (Src.list hl5 (by k_lt zat)) (Grow.refl _) (by rw [List.length_map];decide) (by k_lt u) (by rfl) (λω ω=>rfl) ?_
    intro x H' R _ kR kK hx' g' hl' hF'
    obtain ⟨y,hy,rfl⟩:=List.mem_map.mp hx'
    haveI d1:=g'.at (at_app_l (l:=[some (AObj.meth 104 (.loc S0.s))]) cc1)
    haveI d2:=g'.at (at_app_l (l:=[some (AObj.meth 104 (.loc S0.s))]) cc2)
    haveI d3:=g'.at (at_app_l (l:=[some (AObj.meth 104 (.loc S0.s))]) hso)
    haveI d4:=g'.at (at_app_l (l:=[some (AObj.meth 104 (.loc S0.s))]) hpp)
    haveI d5:=g'.at (at_app_l (l:=[some (AObj.meth 104 (.loc S0.s))]) f0)
    repeat k_lt zT
    haveI hy7:y.length<=20:=(by decide +kernel:∀y∈nm,y.length<=20) y hy
    refine TCall.specV (by k_lt ua) (sP (SP.down_d (by omega)) (SP.down_free hf) _ pp so y (ar (aN r.row r.more)) (at_gone_ne (by show pp≠N;omega) (at_put_ne (by haveI:=Store.at_lt hpp;omega) d4)) (at_gone_ne (by show so≠N;omega) (at_put_ne (by haveI:=Store.at_lt hso;omega) d3)) (Nat.le_trans (ix _) (by omega)) hy7 k3) ?_
    repeat k_lt zT
    haveI hv:∀b,bc y (ar (aN r.row r.more)) [0]=b->kE (λx=>if bc x (ar (aN r.row r.more)) [0]=true then some (.str x) else none) (.str y)=if b then some (.str y) else none:=λb hb=>by rw [←hb];rfl
    refine aA (λhb=>?_) λhb=>?_
    ·repeat k_lt zT
     exact ⟨by rw [hv _ hb];rfl,by k_lt uo⟩
    ·exact kK ⟨by rw [hv _ hb];rfl,by k_lt uo⟩
   case q=>
    haveI hfm:(nm.map AVal.str).filterMap (kE λx=>if bc x (ar (aN r.row r.more)) [0] then some (.str x) else none)=(bw r).map .str:=by
     rw [nm_eq,List.map_map,List.filterMap_map]
     unfold bw
     haveI:∀l:List Nat,(∀p∈l,p<7)->l.filterMap ((kE λx=>if bc x (ar (aN r.row r.more)) [0] then some (.str x) else none)∘(AVal.str∘ag))=((l.filter (tk r)).map ag).map .str:=by
      intro l
      induction l with
      | nil=>intro _;rfl
      | cons p l ih=>
       intro hl
       haveI e:((kE λx=>if bc x (ar (aN r.row r.more)) [0] then some (AVal.str x) else none)∘(AVal.str∘ag)) p=if tk r p then some (.str (ag p)) else none:=by
        show (if bc (ag p) (ar (aN r.row r.more)) [0] then some (AVal.str (ag p)) else none)=_
        rw [sG hrok (hl p (.head _))]
       rw [List.filterMap_cons,e,List.filter_cons,ih λq hq=>hl q (.tail _ hq)]
       cases tk r p <;> rfl
     exact this _ λp hp=>List.mem_range.mp hp
    rw [hfm]
    repeat k_lt zT
    haveI hpl:=kC r
    refine ⟨Z4+1,(bw r).map .str,rfl,at_app_r (j:=1) hZ4' rfl,by rw [List.length_map];exact Nat.le_trans hpl (by decide),?_⟩
    repeat k_lt zT
    refine ⟨KeepR.meth (at_app_0 hZ4') rfl,?_⟩
    rw [List.append_nil,List.nil_append]
    obtain ⟨hb1,hb2⟩:=eV (rs.take j) [] 0 (Nat.zero_le _) (λx hx=>by cases hx)
    haveI hlj:(rs.take j).length<=8:=by rw [List.length_take];omega
    haveI hS4:Srt (H4++[some (AObj.meth 104 (.loc S0.s)),some (.list ((bw r).map .str))]) S:=fS.srt.app
    haveI hlen4:S.ns.length<=64:=by
     haveI:(ax S.ns).length=S.ns.length:=by unfold ax;rw [List.length_map]
     rw [fS.core] at this
     omega
    refine TCall.srt (S:=S) (R:=λa S'=>a=.none/\nO S S' (ki (ax S.ns) (ag r.q) (bw r))) hS4 (by k_lt ua) (λhS'=>TC.of (lX (f:=104) (self:=.loc S0.s) (at_gone_ne (by show Z4≠N;haveI:=Store.at_lt f0;omega) (at_app_0 hZ4')) ?_)) ?_
    ·haveI hsp:=sT (P:=P.down) (by show 6<P.d - 1;omega) (SP.down_free hf) _ S hS' fS.ep fS.rdy (ag r.q) (bw r) hpl (by omega) (X:=noX) (by rw [fS.core];intro x hx;haveI:=hb2 x hx;omega)
     rw [fS.s] at hsp
     refine hsp.mono ?_ λω ω x=>x
     rintro a U' ⟨h1,S',h2,h3,h4,h5⟩
     rw [Store.gone_length] at h5
     exact ⟨S',⟨h1,h2⟩,h3,h4,h5⟩
    ·rintro a S' τ ⟨rfl,hadd⟩ hSτ hK hst
     haveI hl4:N+3<=(H4++[some (AObj.meth 104 (.loc S0.s)),some (.list ((bw r).map .str))]).length:=by
      haveI:=Store.at_lt fI
      rw [List.length_append];omega
     refine kR ?_
     refine ⟨⟨⟨S',hSτ,hadd.s.trans fS.s,hadd.ep.trans fS.ep,hadd.rdy.trans fS.rdy,hadd.po.trans fS.po,hadd.nf.trans fS.nf,?_,?_,fS.but.app.kept hK (λj hj=>by haveI:=fS.pl j hj;omega),(fS.tab.grow (Grow.app _ _)).kept hS4 hK,⟨_,hK.frame hS4 (at_app_l cc1)⟩,_,hK.frame hS4 (at_app_l cc2)⟩,?_⟩,hK.frame hS4 (at_app_l fI)⟩
     ·rw [hadd.core,take_next' hrj,List.foldl_append,fS.core];rfl
     ·intro j hj
      rcases hst.places j hj with q | q
      ·exact fS.pl j q
      ·omega
     ·haveI:=hK.frame hS4 (at_app_l f0)
      unfold soF
      k_lt zfrhas
 ·clear hZ c1 c2 b0 b1 b2 hS0
  rintro H ⟨⟨S,h⟩,fr⟩
  refine TM.weakTo (F:=N) fr ?_
  obtain ⟨m3,hm3,_⟩:=id fr
  refine gen2 (H.put N (.frame (soF np ri S0.s))) (p1:=λH1=>SoI U N t np ri S0.s (aL rs) H1 S) (p2:=λH1=>H1.at N=some (.frame [("names",.loc np),("rules",.loc ri),("sorter",.loc S0.s)])) (h.put hN hm3 rfl (Nat.le_refl _)) (at_put_eq hm3) ?_
  intro H1 g1 g0
  clear h fr hm3
  haveI hnp1:=g1.but.at hnp hnpt
  obtain ⟨W,hW⟩:∃W,H1.length=W:=⟨_,rfl⟩
  haveI hNW:N+2<W:=by obtain ⟨v,e⟩:=g1.c2;haveI:=Store.at_lt e;omega
  k_lt zS
  refine br (SP.down_free hf) rfl (λω ω=>rfl) ?_
  repeat k_lt zT
  refine ⟨W,.list np,nm.map .str,λω=>SoF U N t np ri S0.s (aL rs),Src.list hW hnp1,⟨⟨S,g1.app⟩,by unfold soF;k_lt zfrhas⟩,?hx,λω ω=>rfl,?turn,?fin⟩
  case hx=>
   rintro j H ⟨⟨S,h⟩,_⟩
   exact Items.list (h.but.at hnp hnpt)
  case fin=>
   rintro H ⟨⟨S,h⟩,fr⟩ hit
   refine TM.weakTo (F:=N) (fr.gone (by omega)) ?_
   obtain ⟨m3,hm3,_⟩:=id fr
   refine gen2 ((H.gone W).put N (.frame (soF np ri S0.s))) (p1:=λH2=>SoI U N t np ri S0.s (aL rs) H2 S) (p2:=λH2=>H2.at N=some (.frame [("names",.loc np),("rules",.loc ri),("sorter",.loc S0.s)])) ((h.gone hN hit rfl (by omega)).put hN (at_gone_ne (by omega) hm3) rfl (Nat.le_refl _)) (at_put_eq (at_gone_ne (by omega) hm3)) ?_
   intro H2 q1 q0
   k_lt zR
   exact ⟨S,by rw [q1.s];rfl,q1.srt,q1.ep,q1.rdy,q1.po,q1.nf,q1.core,λj hj=>by haveI:=q1.pl j hj;omega,q1.but,q1.tab⟩
  case turn=>
   rintro j x H R Y kR kX hx ⟨⟨S,h⟩,fr⟩ hit
   obtain ⟨y,hyj,rfl⟩:=iz hx
   obtain ⟨k,hk,rfl⟩:∃k,k<7/\y=ag k:=by
    haveI:j<7:=(List.getElem?_eq_some_iff.mp hyj).1
    refine ⟨j,this,?_⟩
    unfold ag
    rw [List.getD_eq_getElem?_getD,hyj];rfl
   refine TV1.weakTo (F:=N) (fr.put_ne (by omega)) ?_
   obtain ⟨m3,hm3,_⟩:=id fr
   refine na ((H.put W (.iter (.list np) (j+1))).put N (.frame (soF np ri S0.s))) (p1:=λH2=>SoI U N t np ri S0.s (aL rs) H2 S) (p2:=λH2=>H2.at N=some (.frame [("names",.loc np),("rules",.loc ri),("sorter",.loc S0.s)])) (p3:=λH2=>H2.at W=some (.iter (.list np) (j+1))) ((h.put hN hit rfl (by omega)).put hN (at_put_ne (by omega) hm3) rfl (Nat.le_refl _)) (at_put_eq (at_put_ne (by omega) hm3)) (at_put_ne (by omega) (at_put_eq hit)) ?_
   intro H2 q1 q0 qI
   haveI hs0:=q1.srt.s
   haveI hd0:=q1.srt.d
   rw [q1.s] at hs0
   unfold Sr.attrs at hd0
   repeat k_lt zT
   haveI r1:=q1.put (o:=.frame [("names",.loc np),("rules",.loc ri),("sorter",.loc S0.s),("name",.str (ag k))]) hN q0 rfl (Nat.le_refl _)
   haveI r0:(H2.put N (.frame [("names",.loc np),("rules",.loc ri),("sorter",.loc S0.s),("name",.str (ag k))])).at N=some (.frame [("names",.loc np),("rules",.loc ri),("sorter",.loc S0.s),("name",.str (ag k))]):=at_put_eq q0
   haveI rI:(H2.put N (.frame [("names",.loc np),("rules",.loc ri),("sorter",.loc S0.s),("name",.str (ag k))])).at W=some (.iter (.list np) (j+1)):=at_put_ne (by omega) qI
   k_lt zR
   haveI hlen4:S.ns.length=7:=by
    haveI:(ax S.ns).length=S.ns.length:=by unfold ax;rw [List.length_map]
    rw [r1.core] at this
    exact this.symm
   haveI hsu:suB 500 (aL rs):=by
    obtain ⟨l,rfl⟩:=hfix
    rw [←jK l fixedR λr hr'=>hr r (List.mem_append.mpr (.inr hr')),←jJ,←List.foldl_append]
    haveI:=(eV (fixedR++l) [] 0 (Nat.zero_le _) (λx hx=>by cases hx)).2
    intro x hx
    haveI:=this x hx
    omega
   refine TCall.srt (S:=S) (R:=λa S'=>a=.none/\nO S S' (ki (ax S.ns) (ag k) [])) r1.srt (by k_lt ua) (λhS'=>TC.of ?_) ?_
   ·haveI hsp:=sT (P:=P.down) (by show 6<P.d - 1;omega) (SP.down_free hf) _ S hS' q1.ep q1.rdy (ag k) [] (by decide) (by rw [hlen4];decide) (X:=noX) (by rw [q1.core];exact hsu)
    rw [q1.s] at hsp
    refine hsp.mono ?_ λω ω x=>x
    rintro a U' ⟨h1,S',h2,h3,h4,h5⟩
    rw [Store.gone_length] at h5
    exact ⟨S',⟨h1,h2⟩,h3,h4,h5⟩
   ·rintro a S' τ ⟨rfl,hadd⟩ hSτ hK hst
    haveI hl4:N+3<=(H2.put N (.frame [("names",.loc np),("rules",.loc ri),("sorter",.loc S0.s),("name",.str (ag k))])).length:=by
     haveI:=Store.at_lt rI;omega
    haveI rr0:=hK.frame r1.srt r0
    k_lt zR
    refine ⟨⟨⟨S',hSτ,hadd.s.trans r1.s,hadd.ep.trans r1.ep,hadd.rdy.trans r1.rdy,hadd.po.trans r1.po,hadd.nf.trans r1.nf,?_,?_,r1.but.kept hK (λj hj=>by haveI:=r1.pl j hj;omega),r1.tab.kept r1.srt hK,⟨_,hK.frame r1.srt r1.c1.choose_spec⟩,_,hK.frame r1.srt r1.c2.choose_spec⟩,by unfold soF;k_lt zfrhas⟩,hK.frame r1.srt rI⟩
    ·rw [hadd.core,r1.core];exact rH hk
    ·intro j hj
     rcases hst.places j hj with q | q
     ·exact r1.pl j q
     ·omega
end
section
variable {j i k:Nat}{U:Store}{E:AEnv}{m:List (Str×AVal)}{X0:XP}{Q:AVal->Store->Prop}{qual:Str}{scope:Scope}{cl:List (Str×Nat)}
theorem Hi.mono {n m:Nat}(h:Hi n U j)(l:m<=n):Hi m U j:=⟨Nat.le_trans l h.1,λc t e=>Nat.le_trans l (h.2 c t e)⟩
theorem Hi.put {n j i:Nat}{U:Store}{o:AObj}(h:Hi n U j)(hi:i<n):Hi n (U.put i o) j:=⟨h.1,λc t e=>h.2 c t (by
 have hl:j≠i:=by have:=h.1;omega
 by_cases q:i<U.length
 ·rw [Store.at_put q,if_neg hl] at e;exact e
 ·have:U.put i o=U:=by unfold Store.put;exact List.set_eq_of_length_le (by omega)
  rw [this] at e;exact e)⟩
theorem jz {U':Store}{cls:Value}(hF:U.at E.frame=some (.frame m))(hr:Raised U' j cls none)(hh:Hi (U.gone E.frame).length U' j)(hp:Pers (U.gone E.frame) U')
  (q:∀U'',Raised U'' j cls none->Hi U.length U'' j->Pers U U''->X0 j U''):aD E X0 j (U'.put E.frame (.frame m)):=by
 have hFl:=Store.at_lt hF
 rw [Store.gone_length] at hh
 have hpb:=Pers.back hF hp
 have hrp:=hr.putHi (N:=E.frame) (o:=.frame m) (hh.mono (by omega))
 exact bX (hpb.at hF) hrp.any λU'' h1 h2 h3=>q U'' h1 (h2 _ hpb.1 (hh.put (by omega))) (hpb.trans h3)
theorem TCall.doneRefused {P:SP}{S:Sr}{k:Str}(hd:0<P.d)(hf:P.free=true)(hF:U.at E.frame=some (.frame m))(hS:Srt U S)(hep:S.ep=none){p:Nat×List Str}(hr:S.rdy=some p)(hk:(reprText k).length<=1000)(hn:∀x,bx S.ns k=some x->0<=x.np∨x.np = -2)
  (q:∀j U'',Raised U'' j (.type "ValueError") none->Hi U.length U'' j->Pers U U''->X0 j U''):TCall C0 P E (.top (.ref 137)) [.loc S.s,.str k] [] Q (aD E X0) U:=by
 refine TCall.of hF (TC.of (iI hd hf _ S (hS.gone (hS.out hF rfl)) hep hr k hk hn λj U' h1 h2 h3 h4=>?_))
 exact jz hF h1 h2 h4 (q j)
theorem lD (h:dJ scope=true):gR i qual scope cl k U=({scope:=scope,loc:=U.length,frame:=U.length,cells:=cl,qual:=qual ++ ".<locals>.",func:=.loc i,code:=.loc k},U++[some (.frame [])]):=by
 unfold gR bq
 rw [gQ _ _ _ h]
theorem ir {P:SP}(hd:2<P.d)(hf:P.free=true)(U:Store){params:Arguments}{body:Expr}(hi:U.at i=some (.lam qual params body scope cl k))(hk:U.at k=some (.code qual))(hn:dJ scope=true)
  (hsc:scope.kind=.function/\scope.isCoroutine=false/\scope.isGenerator=false) (hb:∀cl pm cdv ct,bindArgs (kla_fn "<lambda>" qual params body scope cl pm cdv ct) ⟨[],[]⟩=pure [])
  (h:TE C0 P.down.down {scope:=scope,loc:=U.length+1,frame:=U.length+1,cells:=cl,qual:=qual ++ ".<locals>.",func:=.loc i,code:=.loc k} body (λω ω=>False)
   (aD {scope:=scope,loc:=U.length+1,frame:=U.length+1,cells:=cl,qual:=qual ++ ".<locals>.",func:=.loc i,code:=.loc k} λj U'=>Hi (U++[none,some (AObj.frame [])]).length U' j/\Raised U' j (.type "ValueError") none/\Pers (U++[none,some (AObj.frame [])]) U') (U++[none,some (.frame [])])) {X:XP} (q:∀U',Pers U U'->Q (.str "order") U'):TC C0 P (.top (.ref 248)) [.loc i] [] Q X U:=by
 have hl:(U++[none]:Store).length=U.length+1:=by simp
 have ha:(U++[none]++[some (AObj.frame [])]:Store)=U++[none,some (.frame [])]:=by simp
 refine io (by omega) hf U (.loc i) (λo=>KeepR.lam (at_app_l hi)) (TC.of (TK_lam (at_app_l hi) (at_app_l hk) (by show 0<P.d - 1;omega) hsc hb ?_)) q
 rw [lD hn,hl]
 dsimp only
 rw [ha]
 refine TM.mono h (λ_ _ _ _ ⟨_,_,x⟩=>x.elim) ?_
 rintro j U' ⟨U1,m,h1,h2,h3,h4,h5⟩
 refine ⟨U1,m,h1,h2,h3.mono (by simp),h4,?_⟩
 exact (Pers.of (by rw [←ha];exact Grow.app _ _)).trans h5
end
section
noncomputable def ak (l:List Nat):List AVal:=l.map λ(k:Nat)=>.int k
theorem aq (l:List Nat):(ak l).length=l.length:=by unfold ak;rw [List.length_map]
theorem nats_ok (l:List Nat):(ak l).all fM=true:=List.all_eq_true.mpr λa ha=>by obtain ⟨k,_,rfl⟩:=List.mem_map.mp ha;rfl
theorem iT (l:List Nat):ak l=(l.map λ(k:Nat)=>(k:Int)).map .int:=by unfold ak;rw [List.map_map];rfl
theorem dZ (k:Nat)(l:List Nat):fD (.int k) (ak l)=some (l.contains k):=by
 rw [iT,kP,List.any_map]
 congr 1
 rw [List.contains_eq_any_beq]
 congr 1
 funext y
 show decide ((y:Int)=k)=(k == y)
 by_cases h:k=y
 ·subst h;simp
 ·rw [beq_eq_false_iff_ne.mpr h,decide_eq_false (by omega)]
def Sd (N t:Nat)(H H':Store):Prop:=H.length<=H'.length/\∀i x,i≠N->i≠t->isX x=false->H.at i=some x->H'.at i=some x
theorem Sd.refl {N t:Nat}{H:Store}:Sd N t H H:=⟨Nat.le_refl _,λω ω ω ω ω e=>e⟩
theorem Sd.trans {N t:Nat}{a b d:Store}(h:Sd N t a b)(h':Sd N t b d):Sd N t a d:=⟨Nat.le_trans h.1 h'.1,λi x h1 h2 h3 e=>h'.2 i x h1 h2 h3 (h.2 i x h1 h2 h3 e)⟩
theorem Sd.of {N t:Nat}{a b:Store}(h:Grow a b):Sd N t a b:=⟨h.1,λi x ω ω ω e=>h.at e⟩
theorem Sd.ofP {N t:Nat}{a b:Store}(h:Pers a b):Sd N t a b:=⟨h.1,λi x ω ω hx e=>h.2 i x e hx⟩
theorem Sd.ofB {N t:Nat}{a b:Store}(h:ButT t a b):Sd N t a b:=⟨h.len,λi x ω hn ω e=>h.keep i x hn e⟩
theorem Sd.put {N t:Nat}{a:Store}{o:AObj}:Sd N t a (a.put N o):=⟨by simp,λi x hn ω ω e=>at_put_ne hn e⟩
theorem Sd.putN {N t j:Nat}{a b:Store}{o:AObj}(h:Sd N t a b)(hj:a.length<=j):Sd N t a (b.put j o):=⟨by simpa using h.1,λi x h1 h2 h3 e=>at_put_ne (by haveI:=Store.at_lt e;omega) (h.2 i x h1 h2 h3 e)⟩
theorem Sd.goneN {N t j:Nat}{a b:Store}(h:Sd N t a b)(hj:a.length<=j):Sd N t a (b.gone j):=⟨by simpa using h.1,λi x h1 h2 h3 e=>at_gone_ne (by haveI:=Store.at_lt e;omega) (h.2 i x h1 h2 h3 e)⟩
theorem Sd.app {N t:Nat}{a b l:Store}(h:Sd N t a b):Sd N t a (b++l):=h.trans (Sd.of (Grow.app _ _))
theorem Sd.at {N t:Nat}{a b:Store}(h:Sd N t a b){i:Nat}{x:AObj}(e:a.at i=some x)(h1:i≠N)(h2:i≠t)(h3:autoParam (isX x=false) auR):b.at i=some x:=h.2 i x h1 h2 h3 e
noncomputable def dh:Str:="_law_run.<locals>.<lambda>"
structure RSo (U:Store)(N B t:Nat)(rs:List Rule)(s p:Nat)(D O:List Nat)(R:List Str)(H:Store)(S:Sr):Prop where
 srt:Srt H S
 s:S.s=s
 ep:S.ep=none
 rdy:S.rdy=some (p,R)
 nf:S.nf=(D.length:Int)
 po:S.po=(D.length:Int)+O.length
 run:RunP rs S.ns D O R
 pl:∀j,S.places j->B<=j/\j<N
 low:∀i x,i<B->i≠t->isX x=false->U.at i=some x->H.at i=some x
 tab:TabOk H t 250 dh
structure RF (N s np wp d o k:Nat)(D O K:List Nat)(H:Store):Prop where
 c1:H.at (N+1)=some (.cell (some (.loc s)))
 c2:H.at (N+2)=some (.cell (some (.loc np)))
 c3:H.at (N+3)=some (.cell (some (.loc wp)))
 c4:H.at (N+4)=some (.cell (some (.loc d)))
 c5:H.at (N+5)=some (.cell (some (.loc o)))
 c6:H.at (N+6)=some (.cell (some (.loc k)))
 ld:H.at d=some (.list (ak D))
 lo:H.at o=some (.list (ak O))
 lk:H.at k=some (.list (ak K))
 hd:N+6<d
 ho:N+6<o
 hk:N+6<k
section
variable {U H H':Store}{N B t np wp s p d o k:Nat}{rs:List Rule}{D O K:List Nat}{R:List Str}{S:Sr}
theorem RF.keep (h:RF N s np wp d o k D O K H)(g:∀j x,N<j->(∃v,x=.cell v)∨(∃l,x=.list l)->H.at j=some x->H'.at j=some x):RF N s np wp d o k D O K H':=by
 haveI c:∀{j v},N<j->H.at j=some (.cell v)->H'.at j=some (.cell v):=λhj e=>g _ _ hj (.inl ⟨_,rfl⟩) e
 haveI l:∀{j v},N<j->H.at j=some (.list v)->H'.at j=some (.list v):=λhj e=>g _ _ hj (.inr ⟨_,rfl⟩) e
 haveI:=h.hd
 haveI:=h.ho
 haveI:=h.hk
 exact ⟨c (by omega) h.c1,c (by omega) h.c2,c (by omega) h.c3,c (by omega) h.c4,c (by omega) h.c5,c (by omega) h.c6,l (by omega) h.ld,l (by omega) h.lo,l (by omega) h.lk,h.hd,h.ho,h.hk⟩
theorem RF.sd (h:RF N s np wp d o k D O K H)(g:Sd N t H H')(ht:t<N):RF N s np wp d o k D O K H':=h.keep λj x hj hx e=>g.at e (by omega) (by omega) (by rcases hx with ⟨_,rfl⟩ | ⟨_,rfl⟩ <;> rfl)
theorem RF.kept (h:RF N s np wp d o k D O K H)(hS:∀j,S.places j->j<N)(g:Kept S H H'):RF N s np wp d o k D O K H':=h.keep λj x hj hx e=>g.2 j x (λhf=>by haveI:=hS j hf.places;omega) (by rcases hx with ⟨_,rfl⟩ | ⟨_,rfl⟩ <;> rfl) e
theorem RSo.sd (h:RSo U N B t rs s p D O R H S)(g:Sd N t H H')(htB:t<B)(hBN:B<=N)(hT:TabOk H' t 250 dh):RSo U N B t rs s p D O R H' S:=
 ⟨h.srt.congr (λj hj x e=>(by
  haveI hp:=h.pl j hj
  refine g.at e (by omega) (by omega) ?_
  obtain ⟨y,h1,h2⟩:=h.srt.at_place hj
  rw [e] at h1;cases h1
  cases x <;> first | rfl | (cases h2;done))),h.s,h.ep,h.rdy,h.nf,h.po,h.run,h.pl,λi x hi hn hx e=>g.at (h.low i x hi hn hx e) (by omega) hn hx,hT⟩
theorem RSo.grow (h:RSo U N B t rs s p D O R H S)(g:Grow H H'):RSo U N B t rs s p D O R H' S:=
 ⟨h.srt.grow g,h.s,h.ep,h.rdy,h.nf,h.po,h.run,h.pl,λi x hi hn hx e=>g.at (h.low i x hi hn hx e),h.tab.grow g⟩
theorem RSo.putF (h:RSo U N B t rs s p D O R H S)(htB:t<B)(hBN:B<=N){m m':List (Str×AVal)}(hm:H.at N=some (.frame m)):RSo U N B t rs s p D O R (H.put N (.frame m')) S:=h.sd Sd.put htB hBN (h.tab.put hm)
theorem RSo.putC (h:RSo U N B t rs s p D O R H S)(hBN:B<=N){j:Nat}{v w:Option AVal}(hm:H.at j=some (.cell v))(hj:N<j):RSo U N B t rs s p D O R (H.put j (.cell w)) S:=
 ⟨h.srt.put (h.srt.out hm rfl),h.s,h.ep,h.rdy,h.nf,h.po,h.run,h.pl,λi x hi hn hx e=>at_put_ne (by omega) (h.low i x hi hn hx e),h.tab.put hm⟩
end
def eo (U:Store)(B wp:Nat)(rs:List Rule):Prop:=∃ws:List Nat,U.at wp=some (.list (ws.map .loc))/\ws.length=7/\(∀w∈ws,w<B)/\∀q,q<7->∃w,ws[q]? = some w/\U.at w=some (.list (ak (aU rs q)))
end
section
variable {b:Bool}
noncomputable def wb253:List Stmt:=lE (nth uu 3)
noncomputable def dU (i:Nat):Stmt:=wb253.getD i (.Pass ⟨0,0,0,0⟩)
theorem eN:aP 0 ((7:Nat):Int) 1=ak (List.range 7):=nX 7
theorem qa (f:Nat->Bool)(l:List Nat):(ak l).filterMap (az λk=>if f k.toNat then some (.int k) else none)=ak (l.filter f):=by
 unfold ak
 induction l with
 | nil=>rfl
 | cons a l ih=>
  rw [List.map_cons,List.filterMap_cons,List.filter_cons,ih]
  haveI e:az (λk=>if f k.toNat then some (.int k) else none) (.int (a:Int))=if f a then some (.int (a:Int)) else none:=by
   show (if f ((a:Nat):Int).toNat then _ else _)=_
   rw [show ((a:Nat):Int).toNat=a by omega]
  rw [e]
  cases f a <;> rfl
theorem ue (f:Nat->Bool)(l:List Nat):((ak l).filterMap (az λk=>if f k.toNat then some (.int 1) else none)).isEmpty = !l.any f:=by
 unfold ak
 induction l with
 | nil=>rfl
 | cons a l ih=>
  rw [List.map_cons,List.filterMap_cons,List.any_cons]
  haveI e:az (λk=>if f k.toNat then some (.int 1) else none) (.int (a:Int))=if f a then some (.int 1) else none:=by
   show (if f ((a:Nat):Int).toNat then _ else _)=_
   rw [show ((a:Nat):Int).toNat=a by omega]
  rw [e]
  cases f a
  ·simpa using ih
  ·rfl
theorem iP (f:Nat->Bool)(v:Nat)(h:f v=b):az (λk=>if f k.toNat then some (.int 1) else none) (.int (v:Int))=if b then some (.int 1) else none:=by
 show (if f ((v:Nat):Int).toNat then _ else _)=_
 rw [show ((v:Nat):Int).toNat=v by omega,h]
theorem kY (f:Nat->Bool)(v:Nat)(h:f v=b):az (λk=>if f k.toNat then some (.int k) else none) (.int (v:Int))=if b then some (.int (v:Int)) else none:=by
 show (if f ((v:Nat):Int).toNat then _ else _)=_
 rw [show ((v:Nat):Int).toNat=v by omega,h]
theorem rn_free {P:SP}(hf:P.free=true){U H:Store}{N B t s p np wp d o k:Nat}{rs:List Rule}{D O K:List Nat}{R:List Str}{S:Sr}(hN:U.length=N)(htB:t<B)(hBN:B<=N)(hnpB:np<B)(hnpt:np≠t)(hwpB:wp<B)(hnp:U.at np=some (.list (nm.map .str)))(hw:eo U B wp rs)(htab:∃es,U.at t=some (.tab 250 es))
  (h:RSo U N B t rs s p D O R H S) (c:RF N s np wp d o k D O K H) (hm:H.at N=some (.frame [])) {Q:ai->Store->Prop} {X:XP} :
  TS C0 P (aK N) (dU 0) (a9 (λτ=>RSo U N B t rs s p D O R τ S/\RF N s np wp d o k D O K τ/\∃fp,N+6<fp/\τ.at fp=some (.list (ak (aO rs D)))/\τ.at N=some (.frame [("free",.loc fp)])) Q) X H:=by
 have htt:∀{i l},U.at i=some (.list l)->i≠t:=λe q=>by obtain ⟨es,h1⟩:=htab;rw [q,h1] at e;cases e
 obtain ⟨ws,hws,hwl,hwB,hwq⟩:=hw
 have a1:=h.low np _ hnpB hnpt rfl hnp
 have a2:=h.low wp _ hwpB (htt hws) rfl hws
 have c1:=c.c1
 have c2:=c.c2
 have c3:=c.c3
 have c4:=c.c4
 have ld:=c.ld
 obtain ⟨Z,hZ⟩:∃Z,H.length=Z:=⟨_,rfl⟩
 have hc6:=Store.at_lt c.c6
 refine jS (ak (List.range 7)) (az λk=>if (aU rs k.toNat).all (λp=>D.contains p) then some (.int k) else none) hf (by k_lt u) (λω ω=>by k_lt u) (λω=>by k_lt u) (by k_lt u) (by k_lt u) hm ?h ?q
 case q=>
  intro fp τ h1 h2 h3 h4 h5
  have e:(ak (List.range 7)).filterMap (az λk=>if (aU rs k.toNat).all (λp=>D.contains p) then some (.int k) else none)=ak (aO rs D):=qa (λq=>(aU rs q).all λp=>D.contains p) _
  rw [e] at h2
  have g:Sd N t H τ:=⟨h3,λi x hn ω ω e=>h4 i x hn e⟩
  exact ⟨h.sd g htB hBN (h.tab.keep λj x hx e=>h4 j x (λhq=>by have hq:j=N:=hq;rw [hq,hm] at e;cases e;rcases hx with ⟨_,hx⟩ | ⟨_,hx⟩ <;> cases hx) e),c.sd g (by omega),fp,by omega,h2,h5⟩
 case h=>
  repeat k_lt zT
  have e7:((nm.map AVal.str).length:Int)=((7:Nat):Int):=rfl
  rw [e7,←eN]
  have hZ0:(H++[some (AObj.range 0 ((7:Nat):Int) 1)]).length=Z+1:=by rw [List.length_append,hZ];rfl
  refine MapOk.of1 (Src.range hZ0 (at_app_0 hZ) (aZ (by decide)) (bd _ _ _)) (Grow.app _ _) (by rw [eN,aq];decide) (by k_lt u) (by rfl) (λω ω=>rfl) ?_
  intro x H1 R _ kR kK hx g1 hl1 hF1
  obtain ⟨q,hq,rfl⟩:=jv hx
  obtain ⟨w,hw1,hw2⟩:=hwq q hq
  have hwm:=List.mem_of_getElem? hw1
  have a3:=h.low w _ (hwB w hwm) (htt hw2) rfl hw2
  have g0:Grow H H1:=(Grow.app _ _).trans g1
  haveI b2:=g0.at a2
  haveI b3:=g0.at a3
  haveI d3:=g0.at c3
  haveI d4:=g0.at c4
  haveI d5:=g0.at ld
  obtain ⟨Z1,hZ1⟩:∃Z,H1.length=Z:=⟨_,rfl⟩
  haveI hZZ1:Z+4<=Z1:=by rw [←hZ1];exact hl1
  haveI hZ3:Z+1+2<Z1:=by omega
  haveI hwZ:=Store.at_lt a3
  haveI hdZ:=Store.at_lt ld
  haveI hwpZ:=Store.at_lt a2
  repeat k_lt zT
  haveI e1:(ak (aU rs q)).filterMap (az λk=>if !D.contains k.toNat then some (.int 1) else none)=(ak (aU rs q)).filterMap (az λk=>if (λp=>!D.contains p) k.toNat then some (.int 1) else none):=rfl
  refine dE (ak (aU rs q)) (az λk=>if !D.contains k.toNat then some (.int 1) else none) hf (by k_lt u) (λω ω=>by k_lt u) ?h2 ?hl2 ?q2
  case hl2=>exact bo λx y h=>by cases x <;> simp [az] at h;obtain ⟨_,rfl⟩:=h;rfl
  case h2=>
   haveI hwk:bz (ws.map AVal.loc) (q:Int)=some (.loc w):=seqAt_nat (by rw [List.getElem?_map,hw1];rfl) (by omega)
   repeat k_lt zT
   refine MapOk.of1 (Src.list (by rw [Store.put_length,hZ1]) (at_put_ne (by omega) b3)) (Grow.refl _) (by rw [aq];refine Nat.le_trans (List.length_filter_le _ _) (by decide)) (by k_lt u) (by rfl) (λω ω=>rfl) ?_
   intro y H2 R _ kR kK hy g2 hl2 hF2
   obtain ⟨v,hv,rfl⟩:=List.mem_map.mp hy
   haveI d6:=g2.at (at_put_ne (x:=.frame [("k",.int q)]) (show N+4≠Z+1+2 by omega) d4)
   haveI d7:=g2.at (at_put_ne (x:=.frame [("k",.int q)]) (show d≠Z+1+2 by omega) d5)
   haveI hl2':Z1+3<=H2.length:=by haveI:=hl2;omega
   repeat k_lt zT
   refine dF (by k_lt zat) (dZ v D) ?_
   repeat k_lt zT
   refine aA (λhb=>?_) λhb=>?_
   ·repeat k_lt zT
    exact ⟨iP (λp=>!D.contains p) v hb,by k_lt uo⟩
   ·exact kK ⟨iP (λp=>!D.contains p) v hb,by k_lt uo⟩
  case q2=>
   repeat k_lt zT
   refine i0 (at_app_r (j:=0) (by rw [Store.put_length,hZ1]) rfl) (at_app_r (j:=1) (by rw [Store.put_length,hZ1]) rfl) (List.all_eq_true.mpr λa ha=>by obtain ⟨x,_,e⟩:=List.mem_filterMap.mp ha;cases x <;> simp [az] at e;obtain ⟨_,rfl⟩:=e;rfl) ?_
   rw [ue (λp=>!D.contains p)]
   repeat k_lt zT
   haveI hv:∀b,(!(aU rs q).any λp=>!D.contains p)=b->az (λk=>if (aU rs k.toNat).all (λp=>D.contains p) then some (.int k) else none) (.int (q:Int))=if b then some (.int (q:Int)) else none:=λb hb=>kY (λq=>(aU rs q).all λp=>D.contains p) q (by rw [←hb,List.not_any_eq_all_not];simp)
   refine aA (λhb=>?_) λhb=>?_
   ·repeat k_lt zT
    exact ⟨hv _ hb,by k_lt uo⟩
   ·exact kK ⟨hv _ hb,by k_lt uo⟩
end
section
variable {P:SP}{U H:Store}{N B t s p np wp d o k fp:Nat}{rs:List Rule}{D O K:List Nat}{R:List Str}{S:Sr}{Q:ai->Store->Prop}{X:XP}{ns:List Nd}
theorem eU (rs:List Rule)(D:List Nat):(aO rs D).length<=7:=by
 unfold aO
 exact Nat.le_trans (List.length_filter_le _ _) (by simp)
theorem bG {l:List AVal}(h:l.length<=100):l.length<=lenLine:=Nat.le_trans h (by decide)
theorem qM (hd:1<P.d)(hf:P.free=true)(hN:U.length=N)
  (h:RSo U N B t rs s p D O R H S) (c:RF N s np wp d o k D O K H) (hm:H.at N=some (.frame [("free",.loc fp)])) (hfp:H.at fp=some (.list (ak (aO rs D)))) :
  TS C0 P (aK N) (dU 1) (a9 (λτ=>τ=H) Q) X H:=by
 haveI c1:=c.c1
 haveI c4:=c.c4
 haveI ld:=c.ld
 haveI hlen:=h.run.len
 haveI hfl:=eU rs D
 haveI hs:=h.srt.s
 haveI hD:=h.srt.d
 unfold Sr.attrs at hD
 rw [h.s] at hs
 with_unfolding_all change TS C0 P (aK N) (.If _ _ _ _) _ _ _
 refine TS_If' ?_
 repeat k_lt zT
 haveI hsp:=qH (P:=P) (by omega) hf (H.gone N) S (h.srt.gone (h.srt.out hm rfl)) h.rdy (by omega)
 rw [h.s] at hsp
 refine TCall.specV hm hsp ?_
 haveI l1:(ak (aO rs D)).length<=lenLine:=bG (by rw [aq];omega)
 haveI l2:(ak D).length<=lenLine:=bG (by rw [aq];omega)
 haveI e1:=h.po
 haveI e2:=h.nf
 repeat k_lt zT
 rw [aq,aq,e1,e2]
 haveI e3:(decide ((D.length:Int)<D.length+O.length) || !R.isEmpty)=decide ((D.length:Int)<((aO rs D).length:Nat)):=by
  cases R with
  | nil=>
   simp only [List.length_nil] at hlen
   rw [List.isEmpty_nil,Bool.not_true,Bool.or_false]
   exact decide_eq_decide.mpr (by omega)
  | cons a l=>
   simp only [List.length_cons] at hlen
   rw [List.isEmpty_cons,Bool.not_false,Bool.or_true]
   exact (decide_eq_true (by omega)).symm
 rw [e3]
 generalize decide ((D.length:Int)<((aO rs D).length:Nat))=bb
 refine pick_false' (by cases bb <;> rfl) ?_
 k_lt zS
 k_lt zT
 rfl
theorem TCall.srtS {c:Cfg}{E:AEnv}{f:AVal}{args:List AVal}{kw:List (Str×AVal)}{Q:AVal->Store->Prop}{m:List (Str×AVal)}{R:AVal->Sr->Store->Prop}(hS:Srt U S)(hF:U.at E.frame=some (.frame m))
  (h:Srt (U.gone E.frame) S->TC c P f args kw (λa U'=>∃S',R a S' U'/\Srt U' S'/\Kept S (U.gone E.frame) U'/\S.Step S' U.length) noX (U.gone E.frame))
  (hR:∀a S' U',R a S' U'->R a S' (U'.put E.frame (.frame m)))
  (q:∀a S' τ,R a S' τ->Srt τ S'->Kept S U τ->S.Step S' U.length->Q a τ):TCall c P E f args kw Q X U:=by
 haveI ho:=hS.out hF rfl
 refine TCall.of hF ((h (hS.gone ho)).mono ?_ λω ω x=>x.elim)
 rintro a U' _ ⟨S',r,hS',hK,st⟩
 refine q a S' _ (hR _ _ _ r) (hS'.put λhp=>?_) (hK.back hF) st
 rcases st.places _ hp with h | h
 ·exact ho h
 ·haveI:=Store.at_lt hF;omega
noncomputable def fN (rs:List Rule)(D O:List Nat):List Nat:=O++(aO rs D).filter λk=>!O.contains k && !D.contains k
theorem outP_ok (h:RunP rs ns D O R):(fN rs D O).Nodup/\∀p,p∈fN rs D O↔p∈O∨(p<7/\ag p∈R):=by
 unfold fN
 refine ⟨List.nodup_append.mpr ⟨h.on,free_nodup.sublist List.filter_sublist,λa ha b hb e=>?_⟩,λp=>?_⟩
 ·subst e
  haveI:=(List.mem_filter.mp hb).2
  simp [ha] at this
 ·rw [List.mem_append,List.mem_filter]
  by_cases hO:p∈O
  ·exact ⟨λω=>.inl hO,λω=>.inl hO⟩
  refine ⟨λq=>.inr ?_,λq=>.inr ?_⟩
  ·obtain ⟨q1,q2⟩:=q.resolve_left hO
   obtain ⟨q3,q4⟩:=mem_free.mp q1
   haveI hD:p∉D:=by
    intro hD;simp [hD] at q2
   exact ⟨q3,(h.rm _).mpr ⟨p,q3,rfl,hD,hO,q4⟩⟩
  ·obtain ⟨q1,q2⟩:=q.resolve_left hO
   obtain ⟨q,hq,e,hD,_,hz⟩:=(h.rm _).mp q2
   cases de q1 hq e
   exact ⟨mem_free.mpr ⟨q1,hz⟩,by simp [hD,hO]⟩
theorem RunP.perm {O':List Nat}(h:RunP rs ns D O R)(hp:O.Perm O'):RunP rs ns D O' R:=by
 have m:∀{p},p∈O↔p∈O':=hp.mem_iff
 exact ⟨h.ks,h.su,λx hx p hl e=>by rw [h.np x hx p hl e];simp only [m],h.dn,(hp.nodup_iff).mp h.on,λp hp=>h.dis p (m.mpr hp),h.dlt,λp hp=>h.olt p (m.mpr hp),λp hp=>h.z p (hp.imp id m.mpr),h.rn,λs=>by rw [h.rm];simp only [m]⟩
theorem sW (hd:1<P.d)(hf:P.free=true)(hN:U.length=N)(hBN:B<=N)(htB:t<B)
  (h:RSo U N B t rs s p D O R H S) (c:RF N s np wp d o k D O K H) (hm:H.at N=some (.frame [("free",.loc fp)])) (hfp:H.at fp=some (.list (ak (aO rs D)))) (hfN:N+6<fp) :
  TS C0 P (aK N) (dU 2) (a9 (λτ=>∃S' rp,RSo U N B t rs s p D (fN rs D O) [] τ S'/\RF N s np wp d o k D O K τ/\τ.at N=some (.frame [("free",.loc fp),("ready",.loc rp)])/\τ.at fp=some (.list (ak (aO rs D)))/\N+6<rp/\τ.at rp=some (.tuple (R.map .str))) Q) X H:=by
 obtain rfl:S.s=s:=h.s
 haveI c1:=c.c1
 haveI hlen:=h.run.len
 haveI hfl:=eU rs D
 haveI hs:=h.srt.s
 haveI hD:=h.srt.d
 unfold Sr.attrs at hD
 with_unfolding_all change TS C0 P (aK N) (.Assign [.Name _ _] (.Call _ _ _ _) _) _ _ _
 repeat k_lt zT
 obtain ⟨o1,o2⟩:=outP_ok h.run
 haveI hout:=h.run.out o1 o2
 haveI hlen2:=hout.len
 haveI h6:=Store.at_lt c.c6
 refine TCall.srtS (S:=S) (R:=λa S' τ=>∃i,a=.loc i/\N+6<i/\τ.at i=some (.tuple (R.map .str))/\S'={S with ns:=aX S.ns R,rdy:=some (p,[]),po:=S.po+R.length}) h.srt hm (λhS'=>?_) ?_ ?_
 ·haveI hin:∀k∈R,∃x∈S.ns,x.k=k:=λk hk=>by
   obtain ⟨q,hq,rfl,_⟩:=(h.run.rm k).mp hk
   exact eg h.run.ks hq
  haveI hsp:=sR (P:=P) (by omega) hf _ S hS' h.ep h.rdy (by omega) hin (X:=noX)
  refine TC.of (hsp.mono ?_ λω ω x=>x)
  rintro a U' ⟨i,h1,h2,h3,h4,h5⟩
  rw [Store.gone_length] at h3
  refine ⟨_,⟨i,h1,by omega,h2,rfl⟩,h4,h5,?_⟩
  refine (dL R (S:=S) (n:=H.length)).trans (n':=H.length) ?_ (Nat.le_refl _)
  exact fz (S:={S with ns:=aX S.ns R}) (by show some p=S.rdy.map _;rw [h.rdy];rfl)
 ·rintro a S' U' ⟨i,h1,h2,h3,h4⟩
  exact ⟨i,h1,h2,at_put_ne (by show i≠N;omega) h3,h4⟩
 ·rintro a S' τ ⟨i,rfl,h2,h3,rfl⟩ hS' hK hst
  haveI hpl:∀j,S.places j->j<N:=λj hj=>(h.pl j hj).2
  haveI m1:=hK.frame h.srt hm
  haveI f1:=hK.2 fp _ (λq=>by haveI:=hpl fp q.places;omega) rfl hfp
  haveI g1:RSo U N B t rs S.s p D (fN rs D O) [] τ {S with ns:=aX S.ns R,rdy:=some (p,[]),po:=S.po+R.length}:=by
   refine ⟨hS',rfl,h.ep,rfl,h.nf,?_,hout,λj hj=>?_,λi x hi hn hx e=>hK.2 i x (λq=>by haveI:=(h.pl i q.places).1;omega) hx (h.low i x hi hn hx e),h.tab.kept h.srt hK⟩
   ·show S.po+(R.length:Int)=_
    haveI:=h.po
    simp only [List.length_nil] at hlen2
    omega
   ·rcases ((dL R (S:=S) (n:=j+1)).trans (n':=j+1) (fz (S:={S with ns:=aX S.ns R}) (rdy:=some (p,[])) (po:=S.po+R.length) (nf:=S.nf) (ep:=S.ep) (n:=j+1) (by show some p=S.rdy.map _;rw [h.rdy];rfl)) (Nat.le_refl _)).places j hj with q | q
    ·exact h.pl j q
    ·omega
  haveI c2:=c.kept hpl hK
  repeat k_lt zT
  refine ⟨_,i,g1.putF htB hBN m1,c2.sd (t:=t) Sd.put (by omega),by k_lt zat,at_put_ne (by omega) f1,h2,at_put_ne (by omega) h3⟩
end
section
variable {P:SP}{H:Store}{N s np wp d o k fp rp:Nat}{rs:List Rule}{D O K:List Nat}{R:List Str}{ns:List Nd}{Q:ai->Store->Prop}{X:XP}
theorem nm_py:∀x∈nm,fM (.str x)=true:=by decide +kernel
theorem pL {l:List Str}(h:∀x∈l,x∈nm):(l.map AVal.str).all fM=true:=List.all_eq_true.mpr λa ha=>by
 obtain ⟨x,hx,rfl⟩:=List.mem_map.mp ha
 exact nm_py x (h x hx)
theorem ug (f:Nat->Bool)(l:List Nat):(ak l).filterMap (az λk=>if f k.toNat then some (.str (ag k.toNat)) else none)=((l.filter f).map ag).map .str:=by
 unfold ak
 induction l with
 | nil=>rfl
 | cons a l ih=>
  rw [List.map_cons,List.filterMap_cons,List.filter_cons,ih]
  haveI e:az (λk=>if f k.toNat then some (.str (ag k.toNat)) else none) (.int (a:Int))=if f a then some (.str (ag a)) else none:=by
   show (if f ((a:Nat):Int).toNat then some (AVal.str (ag ((a:Nat):Int).toNat)) else none)=_
   rw [show ((a:Nat):Int).toNat=a by omega]
  rw [e]
  cases f a <;> rfl
theorem sy (f:Nat->Bool)(v:Nat){b:Bool}(h:f v=b):az (λk=>if f k.toNat then some (.str (ag k.toNat)) else none) (.int (v:Int))=if b then some (.str (ag v)) else none:=by
 show (if f ((v:Nat):Int).toNat then some (AVal.str (ag ((v:Nat):Int).toNat)) else none)=_
 rw [show ((v:Nat):Int).toNat=v by omega,h]
theorem rn_cmp (hf:P.free=true)(hnp:H.at np=some (.list (nm.map .str)))(hnpN:np<N)
  (h:RunP rs ns D O R) (hK:∀p,p∈K↔p∈D∨p∈O) (c:RF N s np wp d o k D O K H) (hm:H.at N=some (.frame [("free",.loc fp),("ready",.loc rp)])) (hfp:H.at fp=some (.list (ak (aO rs D)))) (hrp:H.at rp=some (.tuple (R.map .str))) :
  TS C0 P (aK N) (dU 3) (a9 (λτ=>Grow H τ) Q) X H:=by
 haveI c2:=c.c2
 haveI c6:=c.c6
 haveI lk:=c.lk
 haveI hlen:=h.len
 haveI hfl:=eU rs D
 obtain ⟨Z,hZ⟩:∃Z,H.length=Z:=⟨_,rfl⟩
 haveI hnZ:=Store.at_lt hnp
 haveI hkZ:=Store.at_lt lk
 haveI h6:=Store.at_lt c6
 with_unfolding_all change TS C0 P (aK N) (.If _ _ _ _) _ _ _
 refine TS_If' ?_
 repeat k_lt zT
 refine TCall.op (lu hrp (by rw [List.length_map];omega) rfl λjs hj1 hj2=>?_)
 rw [hZ]
 repeat k_lt zT
 haveI hl1:(H++[some (AObj.list (js.map .str))]).length=Z+1:=by rw [List.length_append,hZ];rfl
 refine dE (ak (aO rs D)) (az λk=>if !K.contains k.toNat then some (.str (ag k.toNat)) else none) hf (by k_lt u) (λω ω=>by k_lt u) ?h ?hl ?q
 case hl=>exact bo λx y h=>by cases x <;> simp [az] at h;obtain ⟨_,rfl⟩:=h;rfl
 case h=>
  repeat k_lt zT
  refine MapOk.of1 (Src.list hl1 (at_app_l hfp)) (Grow.refl _) (bG (by rw [aq];omega)) (by k_lt u) (by rfl) (λω ω=>rfl) ?_
  intro x H1 R _ kR kK hx g1 hl1' hF1
  obtain ⟨q,hq,rfl⟩:=List.mem_map.mp hx
  haveI hq7:=(mem_free.mp hq).1
  haveI g0:Grow H H1:=(Grow.app _ _).trans g1
  haveI d2:=g0.at c2
  haveI d6:=g0.at c6
  haveI dk:=g0.at lk
  haveI dn:=g0.at hnp
  haveI hF1':H1.at (Z+1+2)=some (.frame []):=hF1
  repeat k_lt zT
  refine dF (at_put_ne (by omega) dk) (dZ q K) ?_
  repeat k_lt zT
  refine aA (λhb=>?_) λhb=>?_
  ·haveI hqk:=pR hq7
   repeat k_lt zT
   exact ⟨sy (λp=>!K.contains p) q hb,by k_lt uo⟩
  ·exact kK ⟨sy (λp=>!K.contains p) q hb,by k_lt uo⟩
 case q=>
  rw [ug (λp=>!K.contains p)]
  repeat k_lt zT
  refine TCall.op (j1 (ss:=((aO rs D).filter λp=>!K.contains p).map ag) (at_app_r (j:=1) hZ rfl) (by rw [List.length_map,List.length_map];haveI:=List.length_filter_le (λp=>!K.contains p) (aO rs D);omega) rfl λks hk1 hk2=>?_)
  haveI hjk:=h.ready hK hj1 hk1 hj2 hk2
  subst hjk
  haveI hpy:(js.map AVal.str).all fM=true:=pL λx hx=>by
   obtain ⟨p,hp,rfl,_⟩:=(h.rm x).mp (hj1.mem_iff.mp hx)
   exact mL hp
  repeat k_lt zT
  refine gG (l:=js.map .str) (at_app_l (at_app_0 hZ)) (at_app_0 rfl) hpy ?_
  repeat k_lt zT
  k_lt zS
  k_lt zT
  exact (Grow.app _ _).trans (Grow.app _ _)
theorem sX {F:List Nat}(c:RF N s np wp d o k D O K H)(hm:H.at N=some (.frame [("free",.loc fp),("ready",.loc rp)]))(hfp:H.at fp=some (.list (ak F)))(hfN:N+6<fp) :
  TS C0 P (aK N) (dU 4) (a9 (λτ=>τ=H.put (N+6) (.cell (some (.loc fp)))/\RF N s np wp d o fp D O F τ) Q) X H:=by
 haveI c6:=c.c6
 with_unfolding_all change TS C0 P (aK N) (.Assign [.Name _ _] (.Name _ _) _) _ _ _
 repeat k_lt zT
 haveI h1:=c.hd
 haveI h2:=c.ho
 haveI h3:=c.hk
 exact ⟨rfl,⟨at_put_ne (by omega) c.c1,at_put_ne (by omega) c.c2,at_put_ne (by omega) c.c3,at_put_ne (by omega) c.c4,at_put_ne (by omega) c.c5,at_put_eq c6,at_put_ne (by omega) c.ld,at_put_ne (by omega) c.lo,at_put_ne (by omega) hfp,h1,h2,hfN⟩⟩
theorem qP {js:List Int}{l:List Nat}(h:js.Perm (l.map λ(k:Nat)=>(k:Int))):∃m:List Nat,js=m.map (λ(k:Nat)=>(k:Int))/\m.Perm l:=by
 haveI e:js=(js.map Int.toNat).map (λ(k:Nat)=>(k:Int)):=by
  rw [List.map_map]
  conv=>lhs;rw [←List.map_id js]
  refine List.map_congr_left λx hx=>?_
  obtain ⟨k,_,rfl⟩:=List.mem_map.mp (h.mem_iff.mp hx)
  show (k:Int)=((k:Int).toNat:Int)
  omega
 refine ⟨js.map Int.toNat,e,?_⟩
 haveI:=h.map Int.toNat
 rw [List.map_map] at this
 haveI e2:l.map (Int.toNat∘λ(k:Nat)=>(k:Int))=l:=by
  conv=>rhs;rw [←List.map_id l]
  exact List.map_congr_left λx ω=>by show ((x:Int).toNat)=x;omega
 rwa [e2] at this
theorem rn_out (hf:P.free=true)(h:RunP rs ns D O R)
  (c:RF N s np wp d o k D O K H) (hm:H.at N=some (.frame [("free",.loc fp),("ready",.loc rp)])) (hfp:H.at fp=some (.list (ak (aO rs D)))) :
  TS C0 P (aK N) (dU 5) (a9 (λτ=>∃o' O' H',O'.Perm (fN rs D O)/\Grow H H'/\τ=H'.put (N+5) (.cell (some (.loc o')))/\RF N s np wp d o' k D O' K τ) Q) X H:=by
 haveI c4:=c.c4
 haveI c5:=c.c5
 haveI ld:=c.ld
 haveI lo:=c.lo
 haveI hlen:=h.len
 haveI hfl:=eU rs D
 obtain ⟨Z,hZ⟩:∃Z,H.length=Z:=⟨_,rfl⟩
 haveI hdZ:=Store.at_lt ld
 haveI hoZ:=Store.at_lt lo
 haveI h6:=Store.at_lt c.c6
 haveI hl1:(ak O).length<=lenLine:=bG (by rw [aq];omega)
 with_unfolding_all change TS C0 P (aK N) (.Assign [.Name _ _] (.Call _ _ _ _) _) _ _ _
 repeat k_lt zT
 refine dE (ak (aO rs D)) (az λk=>if (!O.contains k.toNat && !D.contains k.toNat) then some (.int k) else none) hf (by k_lt u) (λω ω=>by k_lt u) ?h ?hl ?q
 case hl=>exact bo λx y h=>by cases x <;> simp [az] at h;obtain ⟨_,rfl⟩:=h;rfl
 case h=>
  repeat k_lt zT
  refine MapOk.of1 (Src.list hZ hfp) (Grow.refl _) (bG (by rw [aq];omega)) (by k_lt u) (by rfl) (λω ω=>rfl) ?_
  intro x H1 R _ kR kK hx g1 hl1' hF1
  obtain ⟨q,hq,rfl⟩:=List.mem_map.mp hx
  haveI d4:=g1.at c4
  haveI d5:=g1.at c5
  haveI dd:=g1.at ld
  haveI dO:=g1.at lo
  haveI hv:∀b,(!O.contains q && !D.contains q)=b->az (λk=>if (!O.contains k.toNat && !D.contains k.toNat) then some (.int k) else none) (.int (q:Int))=if b then some (.int (q:Int)) else none:=λb hb=>kY (λp=>!O.contains p && !D.contains p) q hb
  repeat k_lt zT
  refine dF (at_put_ne (by omega) dO) (dZ q O) ?_
  repeat k_lt zT
  refine aA (λhb=>?_) λhb=>?_
  ·repeat k_lt zT
   refine dF (at_put_ne (by omega) dd) (dZ q D) ?_
   repeat k_lt zT
   refine aA (λhb2=>?_) λhb2=>?_
   ·repeat k_lt zT
    exact ⟨hv true (by rw [hb,hb2];rfl),by k_lt uo⟩
   ·exact kK ⟨hv false (by rw [hb,hb2];rfl),by k_lt uo⟩
  ·exact kK ⟨hv false (by rw [hb];rfl),by k_lt uo⟩
 case q=>
  rw [qa (λp=>!O.contains p && !D.contains p)]
  repeat k_lt zT
  haveI hfil:=List.length_filter_le (λp=>!O.contains p && !D.contains p) (aO rs D)
  refine jV (at_app_l lo) (at_app_0 hZ) (by rw [aq,aq];exact Nat.le_trans (show _<=14 by omega) (by decide)) ?_
  repeat k_lt zT
  haveI hcat:ak O++ak ((aO rs D).filter λp=>!O.contains p && !D.contains p)=((fN rs D O).map (λ(k:Nat)=>(k:Int))).map .int:=by
   rw [←iT];unfold ak fN;rw [List.map_append]
  rw [hcat]
  haveI hlo:(fN rs D O).length<=14:=by unfold fN;rw [List.length_append];omega
  refine TCall.op (j2 (is:=(fN rs D O).map (λ(k:Nat)=>(k:Int))) (at_app_r (j:=1) hZ rfl) (by rw [List.length_map,List.length_map];omega) (by rw [List.map_map];try rfl) λjs hj1 hj2=>?_)
  obtain ⟨O',rfl,hO'⟩:=qP hj1
  rw [←iT O',←iT (fN rs D O)]
  haveI e1:=c.hd
  haveI e2:=c.ho
  haveI e3:=c.hk
  haveI hlz:(H++[some (AObj.list (ak ((aO rs D).filter λp=>!O.contains p && !D.contains p))),some (.list (ak (fN rs D O)))]).length=Z+2:=by rw [List.length_append,hZ];rfl
  haveI gg:Grow H (H++[some (AObj.list (ak ((aO rs D).filter λp=>!O.contains p && !D.contains p))),some (.list (ak (fN rs D O)))]++[some (.list (ak O'))]):=(Grow.app _ _).trans (Grow.app _ _)
  haveI gl:=at_app_0 (x:=AObj.list (ak O')) (l:=[]) hlz
  rw [hlz]
  generalize (H++[some (AObj.list (ak ((aO rs D).filter λp=>!O.contains p && !D.contains p))),some (.list (ak (fN rs D O)))]++[some (.list (ak O'))])=H2 at gg gl ⊢
  haveI hm2:=gg.at hm
  haveI c52:=gg.at c5
  repeat k_lt zT
  exact ⟨Z+2,O',H2,hO',gg,rfl,⟨at_put_ne (by omega) (gg.at c.c1),at_put_ne (by omega) (gg.at c.c2),at_put_ne (by omega) (gg.at c.c3),at_put_ne (by omega) (gg.at c.c4),at_put_eq c52,at_put_ne (by omega) (gg.at c.c6),at_put_ne (by omega) (gg.at c.ld),at_put_ne (by omega) gl,at_put_ne (by omega) (gg.at c.lk),e1,by omega,e3⟩⟩
end
section
variable {U U':Store}{t M i N:Nat}{P:Addr}{q:Str}
def TabX (U:Store)(t M:Nat):Prop:=∀P es,U.at t=some (.tab P es)->∀e∈es,e.2.2<M∨M+3<e.2.2
theorem TabX.of (h:TabOk U t P q)(hM:U.length<=M):TabX U t M:=λP' es' e x hx=>by
 obtain ⟨es,h1,h2⟩:=h
 rw [h1] at e;cases e
 have:=Store.at_lt (h2 x hx)
 exact .inl (by omega)
theorem TabX.keep (h:TabX U t M)(g:∀x,U'.at t=some x->U.at t=some x):TabX U' t M:=λP es e=>h P es (g _ e)
theorem TabOk.putX (h:TabOk U t P q)(hx:TabX U t M)(ht:t<M)(h1:M<=i)(h2:i<=M+3){o:AObj}:TabOk (U.put i o) t P q:=by
 obtain ⟨es,e1,e2⟩:=h
 exact ⟨es,at_put_ne (by omega) e1,λe he=>at_put_ne (by rcases hx P es e1 e he with q | q <;> omega) (e2 e he)⟩
theorem TabOk.goneX (h:TabOk U t P q)(hx:TabX U t M)(ht:t<M)(h1:M<=i)(h2:i<=M+3):TabOk (U.gone i) t P q:=by
 obtain ⟨es,e1,e2⟩:=h
 exact ⟨es,at_gone_ne (by omega) e1,λe he=>at_gone_ne (by rcases hx P es e1 e he with q | q <;> omega) (e2 e he)⟩
theorem TabX.butT (h:TabX U t M)(hT:TabOk U t P q)(g:ButT t U U')(hM:M+3<U.length):TabX U' t M:=λP' es' e x hx=>by
 obtain ⟨es,h1,_⟩:=hT
 obtain ⟨es1,h2,h3⟩:=g.tab P es h1
 rw [h2] at e;cases e
 rcases h3 x hx with q | q
 ·exact h P es h1 x q
 ·exact .inr (by omega)
theorem Srt.sd {S:Sr}(h:Srt U S)(g:Sd N t U U')(hN:∀j,S.places j->j≠N/\j≠t):Srt U' S:=h.congr λj hj x e=>g.at e (hN j hj).1 (hN j hj).2 (by
 obtain ⟨y,h1,h2⟩:=h.at_place hj
 rw [e] at h1;cases h1
 cases x <;> first | rfl | (cases h2;done))
theorem iu {P:SP}(hd:3<P.d)(hf:P.free=true){H:Store}{E:AEnv}{S:Sr}{m:List (Str×AVal)}(hE:E.frame=N)(hk:E.scope.kind=.function)(hl:E.scope.names.lookup (Str.ofString "_law_refused")=some .globalImplicit)(hcode:E.code=.top (.ref 252))(hqual:E.qual ++ "<lambda>" = dh)
  (hS:Srt H S) (hpl:∀j,S.places j->j≠N/\j≠t) (hm:H.at N=some (.frame m)) (hT:TabOk H t 250 dh) (hX:TabX H t M) (hM:M+3<H.length) (hNt:N≠t)
  {params:Arguments} {body:Expr} {scope:Scope} {pos p1 p2:Pos} {cl:List (Str×Nat)} (hdef:∀env,defaultsOf params env=([],[])) (hcl:ba E.cells scope.names []=some cl) (hn:dJ scope=true)
  (hsc:scope.kind=.function/\scope.isCoroutine=false/\scope.isGenerator=false) (hb:∀cl pm cdv ct,bindArgs (kla_fn "<lambda>" dh params body scope cl pm cdv ct) ⟨[],[]⟩=pure [])
  (hbody:∀(F i k:Nat) (τ:Store),τ.at F=some (.frame [])->Srt τ S->Sd N t H τ->∀X0:XP,(∀j U'',Raised U'' j (.type "ValueError") none->Hi τ.length U'' j->Pers τ U''->X0 j U'')->
   TE C0 P.down.down {scope:=scope,loc:=F,frame:=F,cells:=cl,qual:=dh ++ ".<locals>.",func:=.loc i,code:=.loc k} body (λω ω=>False) (aD {scope:=scope,loc:=F,frame:=F,cells:=cl,qual:=dh ++ ".<locals>.",func:=.loc i,code:=.loc k} X0) τ) {Q:AVal->Store->Prop}
  (q:∀τ,Srt τ S->Sd N t H τ->τ.at N=some (.frame m)->TabOk τ t 250 dh->TabX τ t M->Q (.str "order") τ) :
  TE C0 P E (.Call (.Name "_law_refused" p1) [.Lambda params body scope pos] [] p2) Q noX H:=by
 subst hE
 refine TE_Call rfl (er (by k_lt u) hk hl (a:=.top (.ref 248)) (by k_lt u) ?_)
 refine TCW_r0 (by k_lt u) (TArgsE rfl (TSpE_cons rfl ?_))
 refine TE_Lam' (t:=t) (cc:=252) (Pt:=250) hqual hT hcode (.head _) hdef hcl λi k τ h1 h2 h3 h4 h5 h6=>?_
 refine TSpE_nil ?_
 have g1:Sd E.frame t H τ:=Sd.ofB h6
 have m1:=h6.at hm hNt
 have hlτ:=h6.len
 have hFl:=Store.at_lt hm
 have x1:=hX.butT hT h6 hM
 have s1:=hS.sd g1 hpl
 have hiF:i≠E.frame:=by omega
 have hkF:k≠E.frame:=λe=>by rw [e,m1] at h4;cases h4
 refine TCall.of m1 (ir (by omega) hf _ (at_gone_ne hiF h3) (at_gone_ne hkF h4) hn hsc hb ?_ λU' hp=>?_)
 ·refine hbody _ i k _ (at_app_r (j:=1) rfl rfl) ((s1.gone (s1.out m1 rfl)).app) ?_ _ λj U'' r1 r2 r3=>⟨r2,r1,r3⟩
  refine ⟨by have:=g1.1;simp;omega,λi x hi1 hi2 hx e=>at_app_l (at_gone_ne hi1 (g1.at e hi1 hi2 hx))⟩
 ·have hpb:=Pers.back m1 hp
  refine q _ (hpb.srt s1) (g1.trans (Sd.ofP hpb)) (hpb.at m1) (h5.keep λj x hx e=>hpb.2 j x e (by rcases hx with ⟨_,rfl⟩ | ⟨_,rfl⟩ <;> rfl)) (x1.keep λx e=>?_)
  obtain ⟨es,e1,_⟩:=h5
  have e2:=hpb.at e1
  rw [e] at e2;cases e2
  exact e1
end
section
variable {rs:List Rule}{D:List Nat}
noncomputable def retE (s:Stmt):Expr:=by
 cases s with
 | Return e _=>exact e.getD (.Constant .none 0 ⟨0,0,0,0⟩)
 | If t _ _ _=>exact t
 | _=>exact .Constant .none 0 ⟨0,0,0,0⟩
noncomputable def cmpL (e:Expr):Expr:=by
 cases e with
 | Compare l _ _ _=>exact l
 | _=>exact .Constant .none 0 ⟨0,0,0,0⟩
noncomputable def cmpA:Expr:=cmpL (retE (nth (lE (dU 6)) 0))
noncomputable def cmpB:Expr:=cmpL (retE (dU 7))
structure JR2 (N t M:Nat)(m:List (Str×AVal))(S:Sr)(H:Store)(n:Nat)(l:List AVal)(τ:Store):Prop where
 srt:Srt τ S
 sd:Sd N t H τ
 fr:τ.at N=some (.frame m)
 tab:TabOk τ t 250 dh
 tx:TabX τ t M
 l:l=List.replicate n (.str "order")
theorem JR2.put {N t M n:Nat}{m:List (Str×AVal)}{S:Sr}{H τ:Store}{l:List AVal}(h:JR2 N t M m S H n l τ)(hM:H.length<=M)(hN:N<M)(ht:t<M)(hpl:∀j,S.places j->j<N){i:Nat}{o:AObj}(h1:M<=i)(h2:i<=M+3):JR2 N t M m S H n l (τ.put i o):=
 ⟨h.srt.put (λq=>by haveI:=hpl i q;omega),h.sd.putN (by omega),at_put_ne (by omega) h.fr,h.tab.putX h.tx ht h1 h2,h.tx.keep λx e=>by
  by_cases q:i<τ.length
  ·rw [Store.at_put q,if_neg (by omega)] at e;exact e
  ·haveI:τ.put i o=τ:=by unfold Store.put;exact List.set_eq_of_length_le (by omega)
   rw [this] at e;exact e,h.l⟩
theorem JR2.gone {N t M n:Nat}{m:List (Str×AVal)}{S:Sr}{H τ:Store}{l:List AVal}(h:JR2 N t M m S H n l τ)(hM:H.length<=M)(hN:N<M)(ht:t<M)(hpl:∀j,S.places j->j<N){i:Nat}(h1:M<=i)(h2:i<=M+3):JR2 N t M m S H n l (τ.gone i):=
 ⟨h.srt.gone (λq=>by haveI:=hpl i q;omega),h.sd.goneN (by omega),at_gone_ne (by omega) h.fr,h.tab.goneX h.tx ht h1 h2,h.tx.keep λx e=>by
  rw [Store.at_gone,if_neg (by omega)] at e;exact e,h.l⟩
theorem none_py:(reprText "none").length<=1000/\∀p,p<7->(reprText (ag p)).length<=1000:=by
 haveI:(reprText "none").length<=1000/\∀p:Fin 7,(reprText (ag p)).length<=1000:=by decide +kernel
 exact ⟨this.1,λp hp=>this.2 ⟨p,hp⟩⟩
theorem gh {ns:List Nd}{O:List Nat}(h:RunP rs ns D O []){q:Nat}(hq:q<7)(hO:q∉O):∀x,bx ns (ag q)=some x->0<=x.np∨x.np = -2:=by
 intro x hx
 obtain ⟨hm,hk⟩:=cB hx
 rw [h.np x hm q hq hk]
 by_cases hD:q∈D
 ·rw [if_pos hD];exact .inr rfl
 ·rw [if_neg hD,if_neg hO];exact .inl (by omega)
theorem none_no:∀p,p<7->ag p≠"none":=by
 haveI:∀p:Fin 7,ag p≠"none":=by decide +kernel
 exact λp hp=>this ⟨p,hp⟩
theorem sZ {P:SP}(hd:3<P.d)(hf:P.free=true){U H:Store}{N B t s p np wp d o k:Nat}{K:List Nat}{S:Sr}{m:List (Str×AVal)}(hBN:B<=N)(htB:t<B)(hnpB:np<B)(hnp:H.at np=some (.list (nm.map .str)))
  (h:RSo U N B t rs s p D [] [] H S) (c:RF N s np wp d o k D [] K H) (hm:H.at N=some (.frame m)) {Q:AVal->Store->Prop} {X:XP}
  (q:∀i τ,τ.at i=some (.list (List.replicate 8 (.str "order")))->Sd N t H τ->τ.at N=some (.frame m)->TabOk τ t 250 dh->Q (.loc i) τ):TE C0 P (aK N) cmpA Q X H:=by
 have hpl:∀j,S.places j->j<N:=λj hj=>(h.pl j hj).2
 have hplB:∀j,S.places j->B<=j:=λj hj=>(h.pl j hj).1
 have c1:=c.c1
 have c2:=c.c2
 have h6:=Store.at_lt c.c6
 obtain ⟨Z,hZ⟩:∃Z,H.length=Z:=⟨_,rfl⟩
 obtain rfl:S.s=s:=h.s
 with_unfolding_all change TE C0 P (aK N) (.ListComp _ _ _ _) _ _ _
 refine da hf (by k_lt u) (λω ω=>by k_lt u) ?_
 repeat k_lt zT
 obtain ⟨xs,hxs⟩:∃xs,nm.map AVal.str++[.str "none"]=xs:=⟨_,rfl⟩
 rw [hxs]
 refine na (H++[some (AObj.list [.str "none"]),some (.list xs)]) (p1:=λH1=>H1.length=Z+2) (p2:=λH1=>H1.at (Z+1)=some (.list xs)) (p3:=λH1=>Grow H H1) (by rw [List.length_append,hZ];rfl) (at_app_r (j:=1) hZ rfl) (Grow.app _ _) ?_
 intro H1 hlen hat gr
 have hxl:xs.length=8:=by rw [←hxs];rfl
 have hxm:∀x∈xs,∃y,x=.str y/\(y = "none"∨∃q,q<7/\y=ag q):=by
  intro x hx
  rw [←hxs] at hx
  rcases List.mem_append.mp hx with hx | hx
  ·rw [nm_eq,List.map_map] at hx
   obtain ⟨q,hq,rfl⟩:=List.mem_map.mp hx
   exact ⟨ag q,rfl,.inr ⟨q,List.mem_range.mp hq,rfl⟩⟩
  ·exact ⟨"none",List.mem_singleton.mp hx,.inl rfl⟩
 have hNZ:N+6<Z:=by omega
 have j0:JR2 N t (Z+2) m S H1 0 [] H1:=⟨h.srt.grow gr,Sd.refl,gr.at hm,h.tab.grow gr,TabX.of (h.tab.grow gr) (Nat.le_of_eq hlen),rfl⟩
 refine CompAt.ofC (x:="name") (N:=Z+2) (k:=.list (Z+1)) (xs:=xs) (λj l τ=>JR2 N t (Z+2) m S H1 j l τ) hlen (.list hat) (by k_lt u) (by k_lt u) (by rw [hxl];decide) (λj l τ hJ=>Items.list (hJ.sd.at hat (by omega) (by omega))) (λj l τ i y h1 h2 hJ=>hJ.put (by omega) (by omega) (by omega) hpl h1 (by omega)) (λj l τ hJ=>hJ.gone (by omega) (by omega) (by omega) hpl (Nat.le_refl _) (by omega)) ?h0 (λω ω=>rfl) ?turn ?fin
 case h0=>
  refine ⟨j0.srt.app,j0.sd.app,at_app_l j0.fr,j0.tab.grow (Grow.app _ _),?_,rfl⟩
  refine j0.tx.keep λx e=>?_
  have hlt:t<H1.length:=by omega
  unfold Store.at at e ⊢
  rw [List.getElem?_append_left hlt] at e
  exact e
 case turn=>
  intro j a l τ v hx hJ hl b0 b1 b2 b3
  obtain ⟨y,rfl,hy⟩:=hxm a (List.mem_of_getElem? hx)
  have hJ1:=hJ.put (i:=Z+5) (o:=.cell (some (.str y))) (by omega) (by omega) (by omega) hpl (by omega) (by omega)
  have b0':(τ.put (Z+5) (.cell (some (.str y)))).at (Z+2)=some (.iter (.list (Z+1)) (j+1)):=at_put_ne (by omega) b0
  haveI b1':(τ.put (Z+5) (.cell (some (.str y)))).at (Z+3)=some (.list l):=at_put_ne (by omega) b1
  haveI b2':(τ.put (Z+5) (.cell (some (.str y)))).at (Z+4)=some (.frame []):=at_put_ne (by omega) b2
  haveI b3':(τ.put (Z+5) (.cell (some (.str y)))).at (Z+5)=some (.cell (some (.str y))):=at_put_eq b3
  unfold mj
  refine bW (i:=Z+5) (v:=v) (U':=τ.put (Z+5) (.cell (some (.str y)))) (by k_lt u) (by k_lt u) (by k_lt u) b3 rfl ?_
  generalize τ.put (Z+5) (.cell (some (.str y)))=τ1 at hJ1 b0' b1' b2' b3' ⊢
  show TE _ _ _ _ _ _ _
  haveI hlt:=Store.at_lt b3'
  refine iu hd hf (N:=N) (t:=t) (M:=Z+2) (S:=S) (m:=m) rfl (by k_lt u) (by k_lt u) (by k_lt u) (by k_lt u) hJ1.srt (λj hj=>by haveI:=hpl j hj;haveI:=hplB j hj;omega) hJ1.fr hJ1.tab hJ1.tx (by omega) (by omega) (λω=>rfl) (by k_lt u) (by k_lt u) ⟨rfl,rfl,rfl⟩ (λω ω ω ω=>by rfl) ?_ ?_
  ·intro F i k τ2 hF hS2 hsd X0 hX0
   haveI e1:=hsd.at (hJ1.sd.at (gr.at c1) (by omega) (by omega)) (by omega) (by omega)
   haveI e3:τ2.at (Z+2+2+1)=some (.cell (some (.str y))):=hsd.at b3' (by omega) (by omega)
   haveI hs0:=hS2.s
   haveI hd0:=hS2.d
   unfold Sr.attrs at hd0
   haveI ey:(reprText y).length<=1000/\∀x,bx S.ns y=some x->0<=x.np∨x.np = -2:=by
    rcases hy with rfl | ⟨q,hq,rfl⟩
    ·refine ⟨none_py.1,λx hx=>?_⟩
     obtain ⟨hm,hk⟩:=cB hx
     obtain ⟨p,hp,e⟩:=jB h.run.ks hm
     exact absurd (e.symm.trans hk) (none_no p hp)
    ·exact ⟨none_py.2 q hq,gh h.run hq (by simp)⟩
   repeat k_lt zT
   exact TCall.doneRefused (by show 0<P.d - 1 - 1;omega) hf hF hS2 h.ep h.rdy ey.1 ey.2 hX0
  ·intro τ2 q1 q2 q3 q4 q5
   refine ⟨⟨q1,hJ1.sd.trans q2,q3,q4,q5,by rw [hJ.l];exact (List.replicate_succ' ..).symm⟩,q2.at b0' (by omega) (by omega),q2.at b1' (by omega) (by omega),⟨_,q2.at b2' (by omega) (by omega)⟩,_,q2.at b3' (by omega) (by omega)⟩
 case fin=>
  intro l τ hJ b1 ⟨mm,b2⟩
  rw [hxl] at hJ
  haveI:=hJ.l
  subst this
  exact ⟨⟨mm,b2⟩,q _ _ (at_gone_ne (by omega) b1) ((Sd.of gr).trans hJ.sd |>.goneN (by omega)) (at_gone_ne (by omega) hJ.fr) (hJ.tab.goneX hJ.tx (by omega) (by omega) (by omega))⟩
end
section
theorem td (n:Nat):(List.replicate n (AVal.str "order")).all fM=true:=List.all_eq_true.mpr λa ha=>by
 obtain ⟨_,rfl⟩:=List.mem_replicate.mp ha
 decide +kernel
theorem mz (n:Nat):(List.replicate n [AVal.str "order"]).flatten=List.replicate n (AVal.str "order"):=by
 induction n with
 | zero=>rfl
 | succ n ih=>rw [List.replicate_succ,List.flatten_cons,ih];rfl
theorem rn_end {P:SP}(hd:3<P.d)(hf:P.free=true){U H:Store}{N B t s p np wp d o k:Nat}{rs:List Rule}{D O K:List Nat}{S:Sr}{m:List (Str×AVal)}(hBN:B<=N)(htB:t<B)(hnpB:np<B)(hnpt:np≠t)(hnp:H.at np=some (.list (nm.map .str)))
  (h:RSo U N B t rs s p D O [] H S) (c:RF N s np wp d o k D O K H) (hm:H.at N=some (.frame m)) {Q:ai->Store->Prop} {X:XP}
  (q:O=[]->∀τ,Sd N t H τ->TabOk τ t 250 dh->Q (.ret (.bool true)) τ):TS C0 P (aK N) (dU 6) (a9 (λτ=>O≠[]/\Grow H τ) Q) X H:=by
 have c2:=c.c2
 have c5:=c.c5
 have lo:=c.lo
 have h6:=Store.at_lt c.c6
 obtain ⟨Z,hZ⟩:∃Z,H.length=Z:=⟨_,rfl⟩
 with_unfolding_all change TS C0 P (aK N) (.If _ _ _ _) _ _ _
 refine TS_If' ?_
 repeat k_lt zT
 refine i0 (l:=ak O) (at_app_l lo) (at_app_0 hZ) (nats_ok O) ?_
 repeat k_lt zT
 cases O with
 | cons a l=>
  refine pick_false' rfl ?_
  k_lt zS
  k_lt zT
  exact ⟨by simp,Grow.app _ _⟩
 | nil=>
  refine pick_true' rfl ?_
  k_lt zS
  refine gen2 (H++[some (AObj.list [])]) (p1:=λH1=>Grow H H1) (p2:=λH1=>H1.length=Z+1) (Grow.app _ _) (by rw [List.length_append,hZ];rfl) ?_
  intro H1 gr hl1
  iterate 2 k_lt zT
  with_unfolding_all refine sZ hd hf hBN htB hnpB (gr.at hnp) (h.grow gr) (c.sd (Sd.of (t:=t) gr) (by omega)) (gr.at hm) λi τ h1 h2 h3 h4=>?_
  have d2:=h2.at (gr.at c2) (by omega) (by omega)
  have dn:=h2.at (gr.at hnp) (by omega) (by omega)
  obtain ⟨Z2,hZ2⟩:∃Z,τ.length=Z:=⟨_,rfl⟩
  repeat k_lt zT
  have e8:((nm.map AVal.str).length:Int)+1=8:=rfl
  rw [e8]
  refine nI (at_app_0 hZ2) (by decide) (by decide) (by decide) ?_
  have e9:(List.replicate (8:Int).toNat [AVal.str "order"]).flatten=List.replicate 8 (.str "order"):=mz 8
  rw [e9]
  have hl2:(τ++[some (AObj.list [.str "order"])]).length=Z2+1:=by rw [List.length_append,hZ2];rfl
  refine New.mk hl2 rfl ?_
  refine OP2_eqR (at_app_l (at_app_l h1)) (at_app_0 hl2) (td 8) ?_
  exact q rfl _ (((Sd.of gr).trans h2).app.app) (h4.grow ((Grow.app _ _).trans (Grow.app _ _)))
end
section
variable {O D K:List Nat}{U H:Store}{N B t s p np wp d o k:Nat}{rs:List Rule}{m:List (Str×AVal)}
noncomputable def dW (O:List Nat)(j:Nat):Nat:=(((List.range 7).take j).filter λk=>!O.contains k).length
theorem qN {j:Nat}(hj:j<7):dW O (j+1)=dW O j+if !O.contains j then 1 else 0:=by
 unfold dW
 haveI e:(List.range 7)[j]? = some j:=by rw [List.getElem?_range hj]
 rw [take_next' e,List.filter_append,List.length_append,List.filter_cons]
 cases !O.contains j <;> rfl
theorem tc (hn:O.Nodup)(hl:∀p∈O,p<7):dW O 7+O.length=7:=by
 haveI e:(List.range 7).take 7=List.range 7:=by decide
 unfold dW
 rw [e]
 haveI hU9:(((List.range 7).filter λk=>!O.contains k)++O).Nodup:=List.nodup_append.mpr ⟨List.nodup_range.sublist List.filter_sublist,hn,λa ha b hb q=>by
  subst q
  haveI:=(List.mem_filter.mp ha).2
  simp [hb] at this⟩
 haveI h1:=bD (m:=List.range 7) hU9 λa ha=>by
  rcases List.mem_append.mp ha with ha | ha
  ·exact (List.mem_filter.mp ha).1
  ·exact List.mem_range.mpr (hl a ha)
 haveI h2:=bD (l:=List.range 7) (m:=((List.range 7).filter λk=>!O.contains k)++O) List.nodup_range λa ha=>by
  by_cases q:a∈O
  ·exact List.mem_append.mpr (.inr q)
  ·exact List.mem_append.mpr (.inl (List.mem_filter.mpr ⟨ha,by simpa using q⟩))
 rw [List.length_append,List.length_range] at h1 h2
 omega
theorem sY {P:SP}(hd:3<P.d)(hf:P.free=true){S:Sr}(hBN:B<=N)(htB:t<B)(hnpB:np<B)(hnpt:np≠t)(hnp:H.at np=some (.list (nm.map .str)))
  (h:RSo U N B t rs s p D O [] H S) (c:RF N s np wp d o k D O K H) (hm:H.at N=some (.frame m)) {Q:AVal->Store->Prop} {X:XP}
  (q:∀i τ,τ.at i=some (.list (List.replicate (dW O 7) (.str "order")))->Sd N t H τ->τ.at N=some (.frame m)->TabOk τ t 250 dh->Q (.loc i) τ):TE C0 P (aK N) cmpB Q X H:=by
 have hpl:∀j,S.places j->j<N:=λj hj=>(h.pl j hj).2
 have hplB:∀j,S.places j->B<=j:=λj hj=>(h.pl j hj).1
 have c1:=c.c1
 have c2:=c.c2
 have c5:=c.c5
 have lo:=c.lo
 have hoN:=c.ho
 have h6:=Store.at_lt c.c6
 have hoZ:=Store.at_lt lo
 obtain ⟨Z,hZ⟩:∃Z,H.length=Z:=⟨_,rfl⟩
 obtain rfl:S.s=s:=h.s
 with_unfolding_all change TE C0 P (aK N) (.ListComp _ _ _ _) _ _ _
 refine da hf (by k_lt u) (λω ω=>by k_lt u) ?_
 repeat k_lt zT
 have e7:((nm.map AVal.str).length:Int)=((7:Nat):Int):=rfl
 rw [e7]
 refine na (H++[some (AObj.range 0 ((7:Nat):Int) 1)]) (p1:=λH1=>H1.length=Z+1) (p2:=λH1=>H1.at Z=some (.range 0 ((7:Nat):Int) 1)) (p3:=λH1=>Grow H H1) (by rw [List.length_append,hZ];rfl) (at_app_0 hZ) (Grow.app _ _) ?_
 intro H1 hlen hat gr
 have src:=Src.range hlen hat (aZ (by decide)) (bd _ _ _)
 rw [eN] at src
 have hNZ:N+6<Z:=by omega
 have j0:JR2 N t (Z+1) m S H1 0 [] H1:=⟨h.srt.grow gr,Sd.refl,gr.at hm,h.tab.grow gr,TabX.of (h.tab.grow gr) (Nat.le_of_eq hlen),rfl⟩
 refine CompAt.ofC (x:="k") (N:=Z+1) (k:=_) (xs:=ak (List.range 7)) (λj l τ=>JR2 N t (Z+1) m S H1 (dW O j) l τ) hlen src.it (by k_lt u) (by k_lt u) (by rw [aq];decide) (λj l τ hJ=>eN▸Items.range ..) (λj l τ i y h1 h2 hJ=>hJ.put (by omega) (by omega) (by omega) hpl h1 (by omega)) (λj l τ hJ=>hJ.gone (by omega) (by omega) (by omega) hpl (Nat.le_refl _) (by omega)) ?h0 (λω ω=>rfl) ?turn ?fin
 case h0=>
  refine ⟨j0.srt.app,j0.sd.app,at_app_l j0.fr,j0.tab.grow (Grow.app _ _),?_,rfl⟩
  refine j0.tx.keep λx e=>?_
  have hlt:t<H1.length:=by omega
  unfold Store.at at e ⊢
  rw [List.getElem?_append_left hlt] at e
  exact e
 case turn=>
  intro j a l τ v hx hJ hl b0 b1 b2 b3
  have hj7:j<7:=by have:=(List.getElem?_eq_some_iff.mp hx).1;rw [aq] at this;simpa using this
  obtain rfl:a=.int (j:Int):=by
   unfold ak at hx
   rw [List.getElem?_map,List.getElem?_range hj7] at hx
   cases hx;rfl
  have hJ1:=hJ.put (i:=Z+4) (o:=.cell (some (.int j))) (by omega) (by omega) (by omega) hpl (by omega) (by omega)
  have b0':(τ.put (Z+4) (.cell (some (.int j)))).at (Z+1)=some (.iter _ (j+1)):=at_put_ne (by omega) b0
  have b1':(τ.put (Z+4) (.cell (some (.int j)))).at (Z+2)=some (.list l):=at_put_ne (by omega) b1
  haveI b2':(τ.put (Z+4) (.cell (some (.int j)))).at (Z+3)=some (.frame []):=at_put_ne (by omega) b2
  haveI b3':(τ.put (Z+4) (.cell (some (.int j)))).at (Z+4)=some (.cell (some (.int j))):=at_put_eq b3
  unfold mj
  refine bW (i:=Z+4) (v:=v) (U':=τ.put (Z+4) (.cell (some (.int j)))) (by k_lt u) (by k_lt u) (by k_lt u) b3 rfl ?_
  generalize τ.put (Z+4) (.cell (some (.int j)))=τ1 at hJ1 b0' b1' b2' b3' ⊢
  haveI hlt:=Store.at_lt b3'
  haveI f5:=hJ1.sd.at (gr.at c5) (by omega) (by omega)
  haveI fo:=hJ1.sd.at (gr.at lo) (by omega) (by omega)
  haveI hrs:=qN (O:=O) hj7
  show TT _ _ _ _ _ _ _
  repeat k_lt zT
  refine dF fo (dZ j O) ?_
  repeat k_lt zT
  by_cases hb:(!O.contains j)=true
  ·rw [if_pos hb]
   rw [if_pos hb] at hrs
   haveI hjO:j∉O:=by simpa using hb
   refine iu hd hf (N:=N) (t:=t) (M:=Z+1) (S:=S) (m:=m) rfl (by k_lt u) (by k_lt u) (by k_lt u) (by k_lt u) hJ1.srt (λi hi=>by haveI:=hpl i hi;haveI:=hplB i hi;omega) hJ1.fr hJ1.tab hJ1.tx (by omega) (by omega) (λω=>rfl) (by k_lt u) (by k_lt u) ⟨rfl,rfl,rfl⟩ (λω ω ω ω=>by rfl) ?_ ?_
   ·intro F i k τ2 hF hS2 hsd X0 hX0
    haveI e1:=hsd.at (hJ1.sd.at (gr.at c1) (by omega) (by omega)) (by omega) (by omega)
    haveI e2:=hsd.at (hJ1.sd.at (gr.at c2) (by omega) (by omega)) (by omega) (by omega)
    haveI e4:=hsd.at (hJ1.sd.at (gr.at hnp) (by omega) (by omega)) (by omega) (by omega)
    haveI e3:τ2.at (Z+1+2+1)=some (.cell (some (.int j))):=hsd.at b3' (by omega) (by omega)
    haveI hs0:=hS2.s
    haveI hd0:=hS2.d
    unfold Sr.attrs at hd0
    haveI hqk:=pR hj7
    repeat k_lt zT
    exact TCall.doneRefused (by show 0<P.d - 1 - 1;omega) hf hF hS2 h.ep h.rdy (none_py.2 j hj7) (gh h.run hj7 hjO) hX0
   ·intro τ2 q1 q2 q3 q4 q5
    refine ⟨⟨q1,hJ1.sd.trans q2,q3,q4,q5,by rw [hJ.l,hrs];exact (List.replicate_succ' ..).symm⟩,q2.at b0' (by omega) (by omega),q2.at b1' (by omega) (by omega),⟨_,q2.at b2' (by omega) (by omega)⟩,_,q2.at b3' (by omega) (by omega)⟩
  ·rw [if_neg hb]
   rw [if_neg hb] at hrs
   refine ⟨⟨hJ1.srt,hJ1.sd,hJ1.fr,hJ1.tab,hJ1.tx,by rw [hJ.l,hrs];rfl⟩,b0',b1',⟨_,b2'⟩,_,b3'⟩
 case fin=>
  intro l τ hJ b1 ⟨mm,b2⟩
  rw [aq] at hJ
  haveI hJ:JR2 N t (Z+1) m S H1 (dW O 7) l τ:=hJ
  haveI:=hJ.l
  subst this
  haveI hg:=hJ.gone (i:=Z+1+2) (by omega) (by omega) (by omega) hpl (by omega) (by omega)
  exact ⟨⟨mm,b2⟩,q _ _ (at_gone_ne (by omega) b1) ((Sd.of gr).trans hg.sd) hg.fr hg.tab⟩
theorem qL {P:SP}(hd:3<P.d)(hf:P.free=true){S:Sr}(hBN:B<=N)(htB:t<B)(hnpB:np<B)(hnpt:np≠t)(hnp:H.at np=some (.list (nm.map .str)))
  (h:RSo U N B t rs s p D O [] H S) (c:RF N s np wp d o k D O K H) (hm:H.at N=some (.frame m)) {Q:ai->Store->Prop} {X:XP} :
  TS C0 P (aK N) (dU 7) (a9 (λτ=>Sd N t H τ/\τ.at N=some (.frame m)/\TabOk τ t 250 dh) Q) X H:=by
 haveI c2:=c.c2
 haveI c5:=c.c5
 haveI lo:=c.lo
 haveI hoN:=c.ho
 haveI hra:=tc h.run.on h.run.olt
 with_unfolding_all change TS C0 P (aK N) (.If _ _ _ _) _ _ _
 refine TS_If' ?_
 k_lt zT
 with_unfolding_all refine sY hd hf hBN htB hnpB hnpt hnp h c hm λi τ h1 h2 h3 h4=>?_
 haveI d2:=h2.at c2 (by omega) (by omega)
 haveI dn:=h2.at hnp (by omega) (by omega)
 haveI d5:=h2.at c5 (by omega) (by omega)
 haveI dO:=h2.at lo (by omega) (by omega)
 obtain ⟨Z2,hZ2⟩:∃Z,τ.length=Z:=⟨_,rfl⟩
 haveI hl1:(ak O).length<=lenLine:=bG (by rw [aq];omega)
 repeat k_lt zT
 haveI e8:((nm.map AVal.str).length:Int) - (ak O).length=(dW O 7:Int):=by
  rw [aq]
  show (7:Int) - _=_
  omega
 rw [e8]
 haveI hl2:(τ++[some (AObj.list [.str "order"])]).length=Z2+1:=by rw [List.length_append,hZ2];rfl
 refine nI (at_app_0 hZ2) (by omega) (by omega) (by decide) (New.mk hl2 rfl ?_)
 haveI e9:(List.replicate ((dW O 7:Nat):Int).toNat [AVal.str "order"]).flatten=List.replicate (dW O 7) (.str "order"):=by
  rw [show ((dW O 7:Nat):Int).toNat=dW O 7 by omega];exact mz _
 rw [e9]
 refine gG (at_app_l (at_app_l h1)) (at_app_0 hl2) (td _) ?_
 repeat k_lt zT
 k_lt zS
 k_lt zT
 exact ⟨h2.app.app,at_app_l (at_app_l h3),(h4.grow (Grow.app _ _)).grow (Grow.app _ _)⟩
end
section
variable {P:SP}{H:Store}{N s np wp d o k q:Nat}{D O K:List Nat}{m:List (Str×AVal)}{Q:ai->Store->Prop}{X:XP}
theorem SameN.done (ns:List Nd)(r:List Str)(k:Str)(su:List Str):SameN ns (bn ns r k su).1:=by
 unfold bn
 exact (SameN.upd (k:=k) (f:=Nd.setNp (-2)) λω=>rfl).trans (SameN.fold su _)
theorem rn_done (hd:1<P.d)(hf:P.free=true){U:Store}{B t p:Nat}{rs:List Rule}{S:Sr}(hr:∀r∈rs,r.Ok)(hrl:rs.length<=8)(hBN:B<=N)(htB:t<B)(hnp:H.at np=some (.list (nm.map .str)))
  (h:RSo U N B t rs s p D (q::O) [] H S) (c:RF N s np wp d o k D (q::O) K H) (hm:H.at N=some (.frame m)) :
  TS C0 P (aK N) (dU 8) (a9 (λτ=>∃S' R',RSo U N B t rs s p (D++[q]) O R' τ S'/\RF N s np wp d o k D (q::O) K τ/\τ.at N=some (.frame m)) Q) X H:=by
 obtain rfl:S.s=s:=h.s
 haveI hq:=h.run.olt q (.head _)
 haveI c1:=c.c1
 haveI c2:=c.c2
 haveI c5:=c.c5
 haveI lo:=c.lo
 haveI hs:=h.srt.s
 haveI hD:=h.srt.d
 unfold Sr.attrs at hD
 with_unfolding_all change TS C0 P (aK N) (.Expr _ _) _ _ _
 haveI hq0:bz (ak (q::O)) 0=some (.int q):=seqAt_nat (k:=0) rfl (by decide)
 haveI hqk:=pR hq
 repeat k_lt zT
 obtain ⟨x,hx,hxk⟩:=eg h.run.ks hq
 haveI hxs:=h.run.su x hx q hq hxk
 haveI hxn:x.np = -1:=by
  rw [h.run.np x hx q hq hxk,if_neg (h.run.dis q (.head _)),if_pos (.head _)]
 haveI hsl:x.su.length<=8:=by
  rw [hxs];unfold suP
  rw [List.length_map]
  exact Nat.le_trans (List.length_filter_le _ _) hrl
 haveI hdn:=h.run.done hr
 rw [←hxs] at hdn
 haveI hsame:=SameN.done S.ns [] (ag q) x.su
 refine TCall.srt (S:=S) (R:=λa S'=>S'={S with ns:=(bn S.ns [] (ag q) x.su).1,rdy:=some (p,(bn S.ns [] (ag q) x.su).2),nf:=S.nf+1}) h.srt hm (λhS'=>TC.of ?_) ?_
 ·refine (sp_done (P:=P) (by omega) hf _ S hS' h.ep h.rdy hx hxk hxn (by simp;omega) (λy hy=>?_) (X:=noX)).mono ?_ λω ω x=>x
  ·rw [hxs] at hy
   obtain ⟨r,hr',rfl,_⟩:=(fP hr).mp hy
   exact eg h.run.ks hr'
  ·rintro a U' ⟨h1,h2,h3⟩
   refine ⟨_,rfl,h2,h3,(hsame.step (S:=S) (n:=H.length)).trans (n':=H.length) ?_ (Nat.le_refl _)⟩
   exact fz (S:={S with ns:=(bn S.ns [] (ag q) x.su).1}) (by show some p=S.rdy.map _;rw [h.rdy];rfl)
 ·rintro a S' τ rfl hS' hK hst
  haveI hpl:∀j,S.places j->j<N:=λj hj=>(h.pl j hj).2
  refine ⟨_,_,⟨hS',rfl,h.ep,rfl,?_,?_,hdn,λj hj=>?_,λi y hi hn hy e=>hK.2 i y (λq=>by haveI:=(h.pl i q.places).1;omega) hy (h.low i y hi hn hy e),h.tab.kept h.srt hK⟩,c.kept hpl hK,hK.frame h.srt hm⟩
  ·show S.nf+1=_
   rw [h.nf,List.length_append];rfl
  ·show S.po=_
   rw [h.po,List.length_append,List.length_cons]
   simp;omega
  ·rcases ((hsame.step (S:=S) (n:=j+1)).trans (n':=j+1) (fz (S:={S with ns:=(bn S.ns [] (ag q) x.su).1}) (rdy:=some (p,(bn S.ns [] (ag q) x.su).2)) (po:=S.po) (nf:=S.nf+1) (ep:=S.ep) (n:=j+1) (by show some p=S.rdy.map _;rw [h.rdy];rfl)) (Nat.le_refl _)).places j hj with q' | q'
   ·exact h.pl j q'
   ·omega
theorem my (hl:D.length+O.length<=20)(c:RF N s np wp d o k D (q::O) K H)(hm:H.at N=some (.frame m)) :
  TS C0 P (aK N) (dU 9) (a9 (λτ=>∃d' H',Grow H H'/\τ=H'.put (N+4) (.cell (some (.loc d')))/\RF N s np wp d' o k (D++[q]) (q::O) K τ/\τ.at N=some (.frame m)) Q) X H:=by
 haveI c4:=c.c4
 haveI c5:=c.c5
 haveI ld:=c.ld
 haveI lo:=c.lo
 obtain ⟨Z,hZ⟩:∃Z,H.length=Z:=⟨_,rfl⟩
 haveI h6:=Store.at_lt c.c6
 with_unfolding_all change TS C0 P (aK N) (.Assign [.Name _ _] (.BinOp _ _ _ _) _) _ _ _
 haveI hq0:bz (ak (q::O)) 0=some (.int q):=seqAt_nat (k:=0) rfl (by decide)
 repeat k_lt zT
 refine jV (l:=ak D) (m:=[.int q]) (at_app_l ld) (at_app_0 hZ) (by rw [aq];exact Nat.le_trans (show D.length+1<=21 by omega) (by decide)) ?_
 haveI hl1:(H++[some (AObj.list [AVal.int q])]).length=Z+1:=by rw [List.length_append,hZ];rfl
 refine New.mk hl1 rfl ?_
 haveI e1:ak D++[.int q]=ak (D++[q]):=by unfold ak;rw [List.map_append];rfl
 rw [e1]
 haveI gg:Grow H (H++[some (AObj.list [AVal.int q])]++[some (AObj.list (ak (D++[q])))]):=(Grow.app _ _).trans (Grow.app _ _)
 haveI gl:=at_app_0 (x:=AObj.list (ak (D++[q]))) (l:=[]) hl1
 generalize (H++[some (AObj.list [AVal.int q])]++[some (AObj.list (ak (D++[q])))])=H2 at gg gl ⊢
 haveI c42:=gg.at c4
 haveI h1:=c.hd
 haveI h2:=c.ho
 haveI h3:=c.hk
 repeat k_lt zT
 exact ⟨Z+1,H2,gg,rfl,⟨at_put_ne (by omega) (gg.at c.c1),at_put_ne (by omega) (gg.at c.c2),at_put_ne (by omega) (gg.at c.c3),at_put_eq c42,at_put_ne (by omega) (gg.at c.c5),at_put_ne (by omega) (gg.at c.c6),at_put_ne (by omega) gl,at_put_ne (by omega) (gg.at c.lo),at_put_ne (by omega) (gg.at c.lk),by omega,h2,h3⟩,at_put_ne (by omega) (gg.at hm)⟩
theorem ul (q:Nat)(O:List Nat)(hl:O.length<=100):dY (ak (q::O)) (some 1) none=ak O:=by
 unfold dY kms_lo kms_hi
 rw [aq,List.length_cons]
 dsimp only
 rw [if_neg (by decide)]
 haveI:min (1:Int).toNat (O.length+1)=1:=by
  show min 1 _=1
  omega
 rw [this]
 unfold ak
 rw [List.map_cons,List.drop_succ_cons,List.drop_zero,List.take_of_length_le (by rw [List.length_map];omega)]
theorem n7 (hl:O.length<=20)(c:RF N s np wp d o k D (q::O) K H)(hm:H.at N=some (.frame m)) :
  TS C0 P (aK N) (dU 10) (a9 (λτ=>∃o' H',Grow H H'/\τ=H'.put (N+5) (.cell (some (.loc o')))/\RF N s np wp d o' k D O K τ/\τ.at N=some (.frame m)) Q) X H:=by
 haveI c5:=c.c5
 haveI lo:=c.lo
 obtain ⟨Z,hZ⟩:∃Z,H.length=Z:=⟨_,rfl⟩
 haveI h6:=Store.at_lt c.c6
 haveI hl1:(ak (q::O)).length<=lenLine:=bG (by rw [aq,List.length_cons];omega)
 with_unfolding_all change TS C0 P (aK N) (.Assign [.Name _ _] (.Subscript _ _ _) _) _ _ _
 repeat k_lt zT
 rw [ul q O (by omega)]
 haveI gg:Grow H (H++[some (AObj.list (ak O))]):=Grow.app _ _
 haveI h1:=c.hd
 haveI h2:=c.ho
 haveI h3:=c.hk
 haveI gl:=at_app_0 (x:=AObj.list (ak O)) (l:=[]) hZ
 rw [←fj c5]
 generalize (H++[some (AObj.list (ak O))])=H2 at gg gl ⊢
 haveI c52:=gg.at c5
 exact ⟨Z,H2,gg,rfl,⟨at_put_ne (by omega) (gg.at c.c1),at_put_ne (by omega) (gg.at c.c2),at_put_ne (by omega) (gg.at c.c3),at_put_ne (by omega) (gg.at c.c4),at_put_eq c52,at_put_ne (by omega) (gg.at c.c6),at_put_ne (by omega) (gg.at c.ld),at_put_ne (by omega) gl,at_put_ne (by omega) (gg.at c.lk),h1,by omega,h3⟩,at_put_ne (by omega) (gg.at hm)⟩
end
section
variable {rs:List Rule}
theorem RunP.free_mem {ns:List Nd}{D O:List Nat}(h:RunP rs ns D O []){y:Nat}:y∈aO rs D↔y∈D∨y∈O:=by
 rw [mem_free]
 constructor
 ·rintro ⟨h1,h2⟩
  by_cases hD:y∈D
  ·exact .inl hD
  ·by_cases hO:y∈O
   ·exact .inr hO
   ·have:=(h.rm (ag y)).mpr ⟨y,h1,rfl,hD,hO,h2⟩
    cases this
 ·rintro (q | q)
  ·exact ⟨h.dlt y q,h.z y (.inl q)⟩
  ·exact ⟨h.olt y q,h.z y (.inr q)⟩
theorem sp_run {P:SP}(hd:4<P.d)(hf:P.free=true)(U:Store)(S:Sr){B t np wp p:Nat}{R:List Str}(hr:∀r∈rs,r.Ok)(hrl:rs.length<=8)(hS:Srt U S)(hep:S.ep=none)(hrd:S.rdy=some (p,R))(hpo:S.po=0)(hnf:S.nf=0)(hrun:RunP rs S.ns [] [] R)(hpl:∀j,S.places j->B<=j)
  (htB:t<B) (hBl:B<=U.length) (hnpB:np<B) (hT:TabOk U t 250 dh) (hnp:U.at np=some (.list (nm.map .str))) (hw:eo U B wp rs) (hwpB:wp<B) {X:XP} :
  TC C0 P (.top (.ref 253)) [.loc S.s,.loc np,.loc wp] [] (λa τ=>a=.bool true/\(∀i x,i<B->i≠t->isX x=false->U.at i=some x->τ.at i=some x)/\∃es,τ.at t=some (.tab 250 es)) X U:=by
 obtain ⟨N,hN⟩:∃N,U.length=N:=⟨_,rfl⟩
 have hnpt:np≠t:=λe=>by obtain ⟨es,h,_⟩:=hT;rw [e,h] at hnp;cases hnp
 have htab:∃es,U.at t=some (.tab 250 es):=by obtain ⟨es,h,_⟩:=hT;exact ⟨es,h⟩
 have hBN:B<=N:=by omega
 refine TC.of (tk253 hN (by omega) ?_)
 refine TSs_cons' ?_
 repeat k_lt zT
 k_lt zS
 repeat k_lt zT
 k_lt zS
 repeat k_lt zT
 have s0:RSo U N B t rs S.s p [] [] R (U++[some (AObj.frame []),some (.cell (some (.loc S.s))),some (.cell (some (.loc np))),some (.cell (some (.loc wp))),some (.cell (some (.loc (N+7)))),some (.cell (some (.loc (N+8)))),some (.cell (some (.loc (N+9)))),some (.list []),some (.list []),some (.list [])]) S:=
  ⟨hS.app,rfl,hep,hrd,hnf,by rw [hpo];rfl,hrun,λj hj=>⟨hpl j hj,by have:=hS.lt hj;omega⟩,λi x hi hn hx e=>at_app_l e,hT.grow (Grow.app _ _)⟩
 have f0:RF N S.s np wp (N+7) (N+8) (N+9) [] [] [] (U++[some (AObj.frame []),some (.cell (some (.loc S.s))),some (.cell (some (.loc np))),some (.cell (some (.loc wp))),some (.cell (some (.loc (N+7)))),some (.cell (some (.loc (N+8)))),some (.cell (some (.loc (N+9)))),some (.list []),some (.list []),some (.list [])]):=
  ⟨by k_lt zat,by k_lt zat,by k_lt zat,by k_lt zat,by k_lt zat,by k_lt zat,by k_lt zat,by k_lt zat,by k_lt zat,by omega,by omega,by omega⟩
 have m0:(U++[some (AObj.frame []),some (.cell (some (.loc S.s))),some (.cell (some (.loc np))),some (.cell (some (.loc wp))),some (.cell (some (.loc (N+7)))),some (.cell (some (.loc (N+8)))),some (.cell (some (.loc (N+9)))),some (.list []),some (.list []),some (.list [])]:Store).at N=some (.frame []):=at_app_0 hN
 k_lt zS
 generalize (U++[some (AObj.frame []),some (.cell (some (.loc S.s))),some (.cell (some (.loc np))),some (.cell (some (.loc wp))),some (.cell (some (.loc (N+7)))),some (.cell (some (.loc (N+8)))),some (.cell (some (.loc (N+9)))),some (.list []),some (.list []),some (.list [])]:Store)=H0 at s0 f0 m0 ⊢
 refine dy rfl (λn H=>∃D O K R S' d o k,n=8 - D.length/\RSo U N B t rs S.s p D O R H S'/\RF N S.s np wp d o k D O K H/\(∀q,q∈K↔q∈D∨q∈O)/\∃m,H.at N=some (.frame m)) 8 ⟨[],[],[],R,S,N+7,N+8,N+9,rfl,s0,f0,λq=>by simp,_,m0⟩ ?_
 clear s0 f0 m0
 rintro n' H R Y kR kX ⟨D,O,K,R1,S1,d,o,k,hn,h,c,hK,m,hm⟩
 have h0:=h.putF (m':=[]) htB hBN hm
 have c0:=c.sd (t:=t) (Sd.put (o:=.frame [])) (by omega)
 have hm0:(H.put N (.frame [])).at N=some (.frame []):=at_put_eq hm
 refine TM.weak (t:=λenv=>isTrue _ env (eval _ env)) hm ?_
 generalize H.put N (.frame [])=H1 at h0 c0 hm0 ⊢
 clear h c hm
 repeat k_lt zT
 with_unfolding_all refine aF _ (rn_free (P:=P.down) hf hN htB hBN hnpB hnpt hwpB hnp hw htab h0 c0 hm0) ?_
 rintro H2 ⟨h1,c1,fp,hfN,hfp,hm1⟩
 clear h0 c0 hm0
 with_unfolding_all refine aF _ (qM (P:=P.down) (by show 1<P.d - 1;omega) hf hN h1 c1 hm1 hfp) ?_
 rintro _ rfl
 with_unfolding_all refine aF _ (sW (P:=P.down) (by show 1<P.d - 1;omega) hf hN hBN htB h1 c1 hm1 hfp hfN) ?_
 rintro H3 ⟨S2,rp,h2,c2,hm2,hfp2,hrN,hrp⟩
 have hrun1:=h1.run
 clear h1 c1 hm1 hfp
 have hnp3:=h2.low np _ hnpB hnpt rfl hnp
 with_unfolding_all refine aF _ (rn_cmp (P:=P.down) hf hnp3 (by omega) hrun1 hK c2 hm2 hfp2 hrp) ?_
 intro H4 gr
 have h3:=h2.grow gr
 have c3:=c2.sd (Sd.of (t:=t) gr) (by omega)
 have hm3:=gr.at hm2
 have hfp3:=gr.at hfp2
 clear h2 c2 hm2 hfp2 hrp hnp3 gr
 with_unfolding_all refine aF _ (sX (P:=P.down) c3 hm3 hfp3 hfN) ?_
 rintro _ ⟨rfl,c4⟩
 have h4:=h3.putC (w:=some (.loc fp)) hBN c3.c6 (by omega)
 have hm4:(H4.put (N+6) (.cell (some (.loc fp)))).at N=some (.frame [("free",.loc fp),("ready",.loc rp)]):=at_put_ne (by omega) hm3
 have hfp4:(H4.put (N+6) (.cell (some (.loc fp)))).at fp=some (.list (ak (aO rs D))):=at_put_ne (by omega) hfp3
 generalize H4.put (N+6) (.cell (some (.loc fp)))=H5 at c4 h4 hm4 hfp4 ⊢
 clear h3 c3 hm3 hfp3
 with_unfolding_all refine aF _ (rn_out (P:=P.down) hf hrun1 c4 hm4 hfp4) ?_
 rintro _ ⟨o',O',H6,hperm,gr,rfl,c5⟩
 have h5':=(h4.grow gr).putC (w:=some (.loc o')) hBN (gr.at c4.c5) (by omega)
 have hm5:(H6.put (N+5) (.cell (some (.loc o')))).at N=some (.frame [("free",.loc fp),("ready",.loc rp)]):=at_put_ne (by omega) (gr.at hm4)
 generalize H6.put (N+5) (.cell (some (.loc o')))=H7 at c5 h5' hm5 ⊢
 have h5:RSo U N B t rs S.s p D O' [] H7 S2:=⟨h5'.srt,h5'.s,h5'.ep,h5'.rdy,h5'.nf,by rw [h5'.po,hperm.length_eq],h5'.run.perm hperm.symm,h5'.pl,h5'.low,h5'.tab⟩
 clear h4 c4 hm4 hfp4 h5' gr hrun1
 have hnp7:=h5.low np _ hnpB hnpt rfl hnp
 with_unfolding_all refine aF _ (rn_end (P:=P.down) (by show 3<P.d - 1;omega) hf hBN htB hnpB hnpt hnp7 h5 c5 hm5 (λω τ hsd hT'=>kR (loopQ_ret ⟨rfl,λi x hi hn hx e=>hsd.at (h5.low i x hi hn hx e) (by omega) hn hx,let ⟨es,e,_⟩:=hT';⟨es,e⟩⟩))) ?_
 rintro H8 ⟨hne,gr⟩
 have h6:=h5.grow gr
 have c6:=c5.sd (Sd.of (t:=t) gr) (by omega)
 have hm6:=gr.at hm5
 have hnp8:=gr.at hnp7
 clear h5 c5 hm5 hnp7 gr
 with_unfolding_all refine aF _ (qL (P:=P.down) (by show 3<P.d - 1;omega) hf hBN htB hnpB hnpt hnp8 h6 c6 hm6) ?_
 rintro H9 ⟨hsd,hm7,htab7⟩
 have h7:=h6.sd hsd htB hBN htab7
 have c7:=c6.sd hsd (by omega)
 have hnp9:=hsd.at hnp8 (by omega) hnpt
 clear h6 c6 hm6 hnp8 hsd htab7
 cases O' with
 | nil=>exact absurd rfl hne
 | cons q O2=>
  have hlen:=h7.run.len
  have hfl:=eU rs D
  rw [List.length_cons] at hlen
  with_unfolding_all refine aF _ (rn_done (P:=P.down) (by show 1<P.d - 1;omega) hf hr hrl hBN htB hnp9 h7 c7 hm7) ?_
  rintro H10 ⟨S3,R3,h8,c8,hm8⟩
  with_unfolding_all refine aF _ (my (P:=P.down) (by omega) c8 hm8) ?_
  rintro _ ⟨d',H11,gr,rfl,c9,hm9⟩
  have h9:=(h8.grow gr).putC (w:=some (.loc d')) hBN (gr.at c8.c4) (by omega)
  generalize H11.put (N+4) (.cell (some (.loc d')))=H12 at c9 hm9 h9 ⊢
  with_unfolding_all refine aF _ (n7 (P:=P.down) (by omega) c9 hm9) ?_
  rintro _ ⟨o2,H13,gr2,rfl,c10,hm10⟩
  have h10:=(h9.grow gr2).putC (w:=some (.loc o2)) hBN (gr2.at c9.c5) (by omega)
  refine TSs_nil ?_
  refine kR ?_
  refine ⟨8 - (D++[q]).length,by rw [hn,List.length_append];show 8 - (D.length+1)<_;omega,D++[q],O2,aO rs D,R3,S3,d',o2,fp,rfl,h10,c10,λy=>?_,_,hm10⟩
  rw [h7.run.free_mem,List.mem_append,List.mem_cons,List.mem_singleton]
  constructor
  ·rintro (h | h | h)
   ·exact .inl (.inl h)
   ·exact .inl (.inr h)
   ·exact .inr h
  ·rintro ((h | h) | h)
   ·exact .inl h
   ·exact .inr (.inl h)
   ·exact .inr (.inr h)
end
section
noncomputable abbrev bS (fa:Addr)(n:Nat):AEnv:={scope:=sc258,loc:=n,frame:=n,cells:=[("made",n+5),("come",n+4),("deep",n+3),("drawn",n+2),("rows_of",n+1)],qual:=lt258.1.qual,func:=.top (.ref fa),code:=.top lt258.1.code}
noncomputable def ko (i:Nat):Stmt:=bd258.getD i (.Pass ⟨0,0,0,0⟩)
noncomputable def rowsB:List (Array UInt8):=[bA,bA++bB,bB,bC++bA,bA++bB++bC,bC,bC++bC]
noncomputable def nU (l:List Int):Str:=⟨(l.map Int.toNat).toArray⟩
theorem rF:rowsB.map (λo=>nU (dD o))=nm:=by decide +kernel
theorem enc_ok:∀o∈rowsB,o.size<=9/\(gZ (iN o) 0 [] 0).2.2=0/\(dD o).all (λn=>decide (0<=n/\n<256))=true/\(nU (dD o)).length<=100:=by decide +kernel
def iD (o:Array UInt8):Prop:=∃a as n,PySem.byteArr (dD o)=(a::as).toArray/\∀id,Builtin._codecs.runDecoder id Builtin._codecs.asciiDecoder none true (a::as).toArray 0 []=pure ((nU (dD o)).cps,n)
theorem dec0:iD bA:=⟨65,[66,67,68],4,by decide +kernel,λid=>by kernel_rfl⟩
theorem dec1:iD (bA++bB):=⟨65,[66,67,68,43,43,43,43],8,by decide +kernel,λid=>by kernel_rfl⟩
theorem dec2:iD bB:=⟨43,[43,43,43],4,by decide +kernel,λid=>by kernel_rfl⟩
theorem dec3:iD (bC++bA):=⟨47,[47,47,47,65,66,67,68],8,by decide +kernel,λid=>by kernel_rfl⟩
theorem dec4:iD (bA++bB++bC):=⟨65,[66,67,68,43,43,43,43,47,47,47,47],12,by decide +kernel,λid=>by kernel_rfl⟩
theorem dec5:iD bC:=⟨47,[47,47,47],4,by decide +kernel,λid=>by kernel_rfl⟩
theorem dec6:iD (bC++bC):=⟨47,[47,47,47,47,47,47,47],8,by decide +kernel,λid=>by kernel_rfl⟩
theorem dec_all:∀o∈rowsB,iD o:=by
 intro o ho
 unfold rowsB at ho
 simp only [List.mem_cons,List.not_mem_nil,or_false] at ho
 rcases ho with rfl | rfl | rfl | rfl | rfl | rfl | rfl
 ·exact dec0
 ·exact dec1
 ·exact dec2
 ·exact dec3
 ·exact dec4
 ·exact dec5
 ·exact dec6
end
section
variable {fa:Addr}
noncomputable def lA (f:Array UInt8->Option AVal):AVal->Option AVal
 | .bytes b=>f b
 | _=>none
noncomputable def frL (si np:Nat):List (Str×AVal):=[("script",.loc si),("alpha",.bytes bA),("beta",.bytes bB),("gamma",.bytes bC),("written_of",.loc np)]
theorem cut3 (l:List AVal):dY l none (some 3)=l.take 3:=by
 unfold dY kms_lo kms_hi
 dsimp only
 rw [if_neg (by decide),Nat.sub_zero,List.drop_zero]
 show l.take (min 3 l.length)=_
 by_cases h:3<=l.length
 ·rw [Nat.min_eq_left h]
 ·rw [Nat.min_eq_right (by omega),List.take_length,List.take_of_length_le (by omega)]
theorem la_head {P:SP}(hd:3<P.d)(hf:P.free=true){U:Store}{N si:Nat}{ob:Obj}{xs:List Int}(hN:U.length=N)(hs:U.at si=some (.listS ob (xs.map .int)))(hxl:xs.length<=63){Q:ai->Store->Prop}{X:XP}
  (q:∀H rp np dp,Grow U H->N+5<rp->N+5<np->N+5<dp->H.at N=some (.frame (frL si np))->H.at (N+1)=some (.cell (some (.loc rp)))->H.at rp=some (.list (rowsB.map .bytes))->H.at np=some (.list (nm.map .str))->H.at (N+2)=some (.cell (some (.loc dp)))->RulesAt H N dp (b8 (xs.take 3))->H.at (N+3)=some (.cell none)->H.at (N+4)=some (.cell none)->H.at (N+5)=some (.cell none)->TSs C0 P (bS fa N) (bd258.drop 5) Q X H) :
  TSs C0 P (bS fa N) bd258 Q X (U++[some (.frame [("script",.loc si)]),some (.cell none),some (.cell none),some (.cell none),some (.cell none),some (.cell none)]):=by
 refine TSs_cons' ?_
 repeat k_lt zT
 refine TCall.specN (by k_lt ua) (kq (by omega) _) ?_
 repeat k_lt zT
 k_lt zS
 repeat k_lt zT
 obtain ⟨H0,hH0⟩:∃H0,U++[some (AObj.frame [("script",.loc si),("alpha",.bytes bA),("beta",.bytes bB),("gamma",.bytes bC)]),some (.cell (some (.loc (N+7)))),some (.cell none),some (.cell none),some (.cell none),some (.cell none),some (.list [.bytes bA,.bytes bB,.bytes bC]),some (.list (rowsB.map .bytes))]=H0:=⟨_,rfl⟩
 have f0:H0.at N=some (.frame [("script",.loc si),("alpha",.bytes bA),("beta",.bytes bB),("gamma",.bytes bC)]):=by rw [←hH0];exact at_app_0 hN
 have f1:H0.at (N+1)=some (.cell (some (.loc (N+7)))):=by rw [←hH0];exact at_app_r (j:=1) hN rfl
 have f2:H0.at (N+2)=some (.cell none):=by rw [←hH0];exact at_app_r (j:=2) hN rfl
 have f3:H0.at (N+3)=some (.cell none):=by rw [←hH0];exact at_app_r (j:=3) hN rfl
 have f4:H0.at (N+4)=some (.cell none):=by rw [←hH0];exact at_app_r (j:=4) hN rfl
 have f5:H0.at (N+5)=some (.cell none):=by rw [←hH0];exact at_app_r (j:=5) hN rfl
 have f7:H0.at (N+7)=some (.list (rowsB.map .bytes)):=by rw [←hH0];exact at_app_r (j:=7) hN rfl
 have fg:Grow U H0:=by rw [←hH0];exact Grow.app _ _
 have fl:H0.length=N+8:=by rw [←hH0,List.length_append,hN];rfl
 with_unfolding_all change TSs C0 P (bS fa N) _ _ _ (U++[some (AObj.frame [("script",.loc si),("alpha",.bytes bA),("beta",.bytes bB),("gamma",.bytes bC)]),some (.cell (some (.loc (N+7)))),some (.cell none),some (.cell none),some (.cell none),some (.cell none),some (.list [.bytes bA,.bytes bB,.bytes bC]),some (.list (rowsB.map .bytes))])
 rw [hH0]
 clear hH0
 refine aF (λH=>∃np,N+5<np/\H.at N=some (.frame (frL si np))/\H.at np=some (.list (nm.map .str))/\Sd N N H0 H/\Grow U H) ?_ ?_
 ·refine jS (rowsB.map .bytes) (lA λo=>some (.str (nU (dD o)))) hf (by k_lt u) (λω ω=>by k_lt u) (λω=>by k_lt u) (by k_lt u) (by k_lt u) f0 ?h ?q
  case q=>
   intro np τ h1 h2 h3 h4 h5
   have e:(rowsB.map AVal.bytes).filterMap (lA λo=>some (.str (nU (dD o))))=nm.map .str:=by
    rw [←rF,List.filterMap_map,List.map_map]
    have:∀l:List (Array UInt8),l.filterMap ((lA λo=>some (AVal.str (nU (dD o))))∘AVal.bytes)=l.map (AVal.str∘λo=>nU (dD o)):=by
     intro l
     induction l with
     | nil=>rfl
     | cons a l ih=>rw [List.filterMap_cons,List.map_cons,←ih];rfl
    exact this _
   rw [e] at h2
   exact ⟨np,by omega,h5,h2,⟨h3,λi x hn ω ω e=>h4 i x hn e⟩,Nat.le_trans fg.1 h3,λi x e=>h4 i x (by have:=Store.at_lt e;show i≠N;omega) (fg.at e)⟩
  case h=>
   repeat k_lt zT
   refine MapOk.of0 (Src.list fl f7) (Grow.refl _) (by decide) (by k_lt u) (by rfl) (λω ω=>rfl) ?_
   intro x H1 R kR hx g1 hl1 hF1
   obtain ⟨o,ho,rfl⟩:=List.mem_map.mp hx
   obtain ⟨o1,o2,o3,o4⟩:=enc_ok o ho
   obtain ⟨a,as,n,d1,d2⟩:=dec_all o ho
   have hN1:=g1.at f0
   have hs1:N≠N+8+2:=by omega
   repeat k_lt zT
   refine TCall.specV (by k_lt ua) (sp_b64 (by omega) hf _ o o1 o2 o3) ?_
   repeat k_lt zT
   rw [d1]
   refine TCall.op (tJ d2 (Nat.le_trans o4 (by decide)) ?_)
   exact kR ⟨rfl,by k_lt uo⟩
 rintro H ⟨np,hnp,b0,b1,hsd,hg⟩
 have c1:=hsd.at f1 (by omega) (by omega)
 have c2:=hsd.at f2 (by omega) (by omega)
 have c3:=hsd.at f3 (by omega) (by omega)
 have c4:=hsd.at f4 (by omega) (by omega)
 haveI c5:=hsd.at f5 (by omega) (by omega)
 haveI c7:=hsd.at f7 (by omega) (by omega)
 haveI hs0:=hg.at hs
 obtain ⟨Z,hZ⟩:∃Z,H.length=Z:=⟨_,rfl⟩
 haveI hZ5:=Store.at_lt c5
 clear fg fl f0 f1 f2 f3 f4 f5 f7 hsd
 unfold frL at b0
 haveI hpy:(nm.map AVal.str).all fM=true:=pL λx hx=>hx
 k_lt zS
 repeat k_lt zT
 refine gG (i:=np) (j:=Z) (l:=nm.map .str) (at_app_l b1) (at_app_0 hZ) hpy ?_
 repeat k_lt zT
 k_lt zS
 repeat k_lt zT
 haveI hl1:(xs.map AVal.int).length<=lenLine:=bG (by rw [List.length_map];omega)
 k_lt zS
 repeat k_lt zT
 refine ma (o:=ob) (l:=xs.map .int) (at_app_l hs0) hl1 (by k_lt u) (by k_lt u) ?_
 repeat k_lt zT
 haveI e3:dY (xs.map AVal.int) none (some 3)=(xs.take 3).map .int:=by rw [cut3,List.map_take]
 rw [e3]
 haveI hg1:=(Grow.app H [some (AObj.list [.str "ABCD",.str "ABCD++++",.str "++++",.str "////ABCD",.str "ABCD++++////",.str "////",.str "////////"]),some (.list ((xs.take 3).map .int))])
 haveI hl2:(H++[some (AObj.list [.str "ABCD",.str "ABCD++++",.str "++++",.str "////ABCD",.str "ABCD++++////",.str "////",.str "////////"]),some (.list ((xs.take 3).map .int))]).length=Z+2:=by rw [List.length_append,hZ];rfl
 haveI hn:(H++[some (AObj.list [.str "ABCD",.str "ABCD++++",.str "++++",.str "////ABCD",.str "ABCD++++////",.str "////",.str "////////"]),some (.list ((xs.take 3).map .int))]).at (Z+1)=some (.list ((xs.take 3).map .int)):=at_app_r (j:=1) hZ rfl
 generalize (H++[some (AObj.list [.str "ABCD",.str "ABCD++++",.str "++++",.str "////ABCD",.str "ABCD++++////",.str "////",.str "////////"]),some (.list ((xs.take 3).map .int))])=H2 at hg1 hl2 hn ⊢
 haveI g0:=hg1.at b0
 refine TCall.grows (R:=λa U'=>∃p,a=.loc p/\RulesAt U' (Z+2) p (b8 (xs.take 3))) g0 ((sQ (P:=P) (by omega) hf _ (Z+1) (xs.take 3) (at_gone_ne (by show Z+1≠N;omega) hn) (by rw [List.length_take];omega) (X:=noX)).mono ?_ λω ω x=>x) ?_
 ·rintro a U' _ ⟨p,h1,h2,h3⟩
  rw [Store.gone_length,hl2] at h2
  exact ⟨⟨p,h1,h2⟩,h3⟩
 rintro a U' τ ⟨dp,rfl,hr⟩ hk hG
 haveI hr2:RulesAt τ (Z+2) dp (b8 (xs.take 3)):=hr.keep λj x hj ω e=>hk j x (by show j≠N;omega) e
 haveI gg:=hg1.trans hG
 haveI q0:=gg.at b0
 haveI q2:=gg.at c2
 repeat k_lt zT
 haveI hdp:=hr2.1
 haveI hput:∀{j x},τ.at j=some x->j≠N+2->(τ.put (N+2) (.cell (some (.loc dp)))).at j=some x:=λe hn=>at_put_ne hn e
 haveI hfin:=q (τ.put (N+2) (.cell (some (.loc dp)))) (N+7) np dp ⟨by rw [Store.put_length];exact Nat.le_trans hg.1 gg.1,λi x e=>hput (gg.at (hg.at e)) (by haveI:=Store.at_lt e;omega)⟩ (by omega) hnp (by omega) (hput q0 (by omega)) (hput (gg.at c1) (by omega)) (hput (gg.at c7) (by omega)) (hput (gg.at b1) (by omega)) (at_put_eq q2) ?_ (hput (gg.at c3) (by omega)) (hput (gg.at c4) (by omega)) (hput (gg.at c5) (by omega))
 ·exact hfin
 ·obtain ⟨h0,ts,h1,h2⟩:=hr2.keep (U':=τ.put (N+2) (.cell (some (.loc dp)))) λj x hj ω e=>hput e (by omega)
  refine ⟨by omega,ts,h1,h2.mono λt r h=>?_⟩
  obtain ⟨rl,⟨e1,e2⟩,e3⟩:=h
  exact ⟨rl,⟨by omega,by omega⟩,e3⟩
end
section
variable {U:Store}{n e p:Nat}
set_option tactic.hygienic true
noncomputable def natOf:AVal->Nat
 | .int k=>k.toNat
 | _=>0
noncomputable def eI (U:Store)(i:Nat):Rule:=match U.at i with
 | some (.tuple [.int q,.loc rl,.bool m])=>(match U.at rl with
  | some (.list l)=>⟨q.toNat,l.map natOf,m⟩
  | _=>⟨0,[],false⟩)
 | _=>⟨0,[],false⟩
theorem ku {t:Nat}{r:Rule}(h:RuleAt U n e t r):eI U t=r:=by
 obtain ⟨rl,_,_,_,h1,h2⟩:=h
 unfold eI
 rw [h1]
 dsimp only
 rw [h2]
 dsimp only
 have:(r.row.map λ(k:Nat)=>AVal.int k).map natOf=r.row:=by
  rw [List.map_map]
  conv=>rhs;rw [←List.map_id r.row]
  exact List.map_congr_left λk ω=>by show ((k:Int)).toNat=k;omega
 rw [this]
 have:((r.q:Int)).toNat=r.q:=by omega
 rw [this]
noncomputable def kG (f:Nat->Option AVal):AVal->Option AVal
 | .loc i=>f i
 | _=>none
noncomputable def ei (j p:Nat)(r:Rule):Bool:=r.q == j&&tk r p
theorem ud {j:Nat}{ts:List Nat}{rs:List Rule}(h:All2 (RuleAt U n e) ts rs):((ts.map AVal.loc).filterMap (kG λi=>if ei j p (eI U i) then some (.int 1) else none)).isEmpty = !(rs.any (ei j p)):=by
 induction h with
 | nil=>rfl
 | cons ra _ ih=>
  rename_i t r ts rs _
  rw [List.map_cons,List.filterMap_cons,List.any_cons]
  have e1:kG (λi=>if ei j p (eI U i) then some (.int 1) else none) (.loc t)=if ei j p r then some (.int 1) else none:=by
   show (if ei j p (eI U t) then _ else _)=_
   rw [ku ra]
  rw [e1]
  cases ei j p r
  ·simpa using ih
  ·rfl
theorem row0:(aP 0 bA.size 3).filterMap (bZ bA)=[bA].map .bytes:=by rfl
theorem row1:(aP 0 (bA++bB).size 3).filterMap (bZ (bA++bB))=[bA,bB].map .bytes:=by rfl
theorem row2:(aP 0 bB.size 3).filterMap (bZ bB)=[bB].map .bytes:=by rfl
theorem row3:(aP 0 (bC++bA).size 3).filterMap (bZ (bC++bA))=[bC,bA].map .bytes:=by rfl
theorem row4:(aP 0 (bA++bB++bC).size 3).filterMap (bZ (bA++bB++bC))=[bA,bB,bC].map .bytes:=by rfl
theorem row5:(aP 0 bC.size 3).filterMap (bZ bC)=[bC].map .bytes:=by rfl
theorem row6:(aP 0 (bC++bC).size 3).filterMap (bZ (bC++bC))=[bC,bC].map .bytes:=by rfl
theorem row_ok (h:p<7):(rowsB.getD p #[]).size<=9/\(aP 0 (rowsB.getD p #[]).size 3).filterMap (bZ (rowsB.getD p #[]))=(ths.getD p []).map .bytes/\(ths.getD p []).length<=3:=by
 rcases p with _ | _ | _ | _ | _ | _ | _ | p
 ·exact ⟨by decide,row0,by decide⟩
 ·exact ⟨by decide,row1,by decide⟩
 ·exact ⟨by decide,row2,by decide⟩
 ·exact ⟨by decide,row3,by decide⟩
 ·exact ⟨by decide,row4,by decide⟩
 ·exact ⟨by decide,row5,by decide⟩
 ·exact ⟨by decide,row6,by decide⟩
 ·omega
theorem rows_at (h:p<7):bz (rowsB.map AVal.bytes) (p:Int)=some (.bytes (rowsB.getD p #[])):=jw h _ (by decide)
end
section
variable {fa:Addr}
variable {L j:Nat}{rs:List Rule}{H0 H H':Store}{l:List AVal}
def JD (L:Nat)(rs:List Rule)(H0:Store)(j:Nat)(l:List AVal)(H:Store):Prop:=Grow H0 H/\∃ws:List Nat,l=ws.map .loc/\ws.length=j/\(∀w∈ws,L<=w)/\∀q,q<j->∃w,ws[q]? = some w/\H.at w=some (.list (ak (aU rs q)))
theorem JD.low (h:JD L rs H0 j l H)(hl:H.length<=H'.length)(g:∀i x,(i<H0.length∨L<=i)->H.at i=some x->H'.at i=some x):JD L rs H0 j l H':=by
 obtain ⟨h1,ws,h2,h3,h4,h5⟩:=h
 refine ⟨⟨Nat.le_trans h1.1 hl,λi x e=>g i x (.inl (Store.at_lt e)) (h1.at e)⟩,ws,h2,h3,h4,λq hq=>?_⟩
 obtain ⟨w,e1,e2⟩:=h5 q hq
 exact ⟨w,e1,g w _ (.inr (h4 w (List.mem_of_getElem? e1))) e2⟩
theorem JD.next {w:Nat}(h:JD L rs H0 j l H)(hl:H.length<=H'.length)(g:∀i x,(i<H0.length∨L<=i)->H.at i=some x->H'.at i=some x)(hw:L<=w)(e:H'.at w=some (.list (ak (aU rs j)))):JD L rs H0 (j+1) (l++[.loc w]) H':=by
 obtain ⟨h1,ws,rfl,h3,h4,h5⟩:=h.low hl g
 refine ⟨h1,ws++[w],by simp,by simp [h3],λx hx=>?_,λq hq=>?_⟩
 ·rcases List.mem_append.mp hx with hx | hx
  ·exact h4 x hx
  ·cases List.mem_singleton.mp hx;exact hw
 ·by_cases hj:q=j
  ·subst hj
   exact ⟨w,by rw [List.getElem?_append_right (by omega),h3,Nat.sub_self];rfl,e⟩
  ·obtain ⟨w',e1,e2⟩:=h5 q (by omega)
   exact ⟨w',by rw [List.getElem?_append_left (by omega)];exact e1,e2⟩
theorem la_deep {P:SP}(hd:2<P.d)(hf:P.free=true){N rp dp:Nat}{m:List (Str×AVal)}{v:Option AVal}(hrl:rs.length<=8)(hok:∀r∈rs,r.Ok)(hm:H.at N=some (.frame m))(c1:H.at (N+1)=some (.cell (some (.loc rp))))(hrp:H.at rp=some (.list (rowsB.map .bytes)))(c2:H.at (N+2)=some (.cell (some (.loc dp))))(hr:RulesAt H N dp rs)(c3:H.at (N+3)=some (.cell v))(hrN:N<rp)(hrN3:N+5<rp)(hdN:N+5<dp)(hZN:N+5<H.length){Q:ai->Store->Prop}{X:XP} :
  TS C0 P (bS fa N) (ko 5) (a9 (λτ=>∃(wp:Nat) (ws:List Nat),N+5<wp/\τ.at (N+3)=some (.cell (some (.loc wp)))/\τ.at wp=some (.list (ws.map .loc))/\ws.length=7/\(∀w∈ws,N+5<w)/\(∀q,q<7->∃w,ws[q]? = some w/\τ.at w=some (.list (ak (aU rs q))))/\H.length<=τ.length/\∀i x,i≠N+3->H.at i=some x->τ.at i=some x) Q) X H:=by
 obtain ⟨Z,hZ⟩:∃Z,H.length=Z:=⟨_,rfl⟩
 with_unfolding_all change TS C0 P (bS fa N) (.Assign [.Name _ _] (.ListComp _ _ _ _) _) _ _ _
 k_lt zT
 refine da hf (by k_lt u) (λω ω=>by k_lt u) ?_
 repeat k_lt zT
 haveI hlen:(H++[some (AObj.range 0 ((7:Nat):Int) 1)]).length=Z+1:=by rw [List.length_append,hZ];rfl
 haveI src:=Src.range hlen (b:=((7:Nat):Int)) (at_app_0 hZ) (aZ (by decide)) (bd _ _ _)
 haveI gr:Grow H (H++[some (AObj.range 0 ((7:Nat):Int) 1)]):=Grow.app _ _
 rw [eN] at src
 haveI e7:some (AObj.range 0 7 1)=some (AObj.range 0 ((7:Nat):Int) 1):=rfl
 rw [e7]
 generalize (H++[some (AObj.range 0 ((7:Nat):Int) 1)])=H0 at hlen src gr ⊢
 refine CompAt.ofC (x:="q") (xs:=ak (List.range 7)) (JD (Z+5) rs H0) hlen src.it (by k_lt u) (by k_lt u) (by rw [aq];decide) (λj l τ hJ=>src.items τ hJ.1) (λj l τ i y h1 h2 hJ=>hJ.low (by simp) λi' x h e=>at_put_ne (by omega) e) (λj l τ hJ=>hJ.low (by simp) λi' x h e=>at_gone_ne (by omega) e) ⟨Grow.app _ _,[],rfl,rfl,by simp,λq hq=>absurd hq (by omega)⟩ (λω ω=>rfl) ?turn ?fin
 case fin=>
  intro l τ hJ b1 ⟨mm,b2⟩
  refine ⟨⟨mm,b2⟩,?_⟩
  rw [aq,List.length_range] at hJ
  obtain ⟨g,ws,rfl,w1,w2,w3⟩:=hJ
  haveI c3':=at_gone_ne (show N+3≠Z+1+2 by omega) (g.at (gr.at c3))
  k_lt zT
  refine bW (i:=N+3) (v:=v) (U':=(τ.gone (Z+1+2)).put (N+3) (.cell (some (.loc (Z+2))))) (by k_lt u) (by k_lt u) (by k_lt u) c3' rfl ?_
  refine ⟨Z+2,ws,by omega,at_put_eq c3',at_put_ne (by omega) (at_gone_ne (by omega) b1),w1,λw hw=>by haveI:=w2 w hw;omega,λq hq=>?_,?_,λi x hi e=>?_⟩
  ·obtain ⟨w,e1,e2⟩:=w3 q hq
   haveI:=w2 w (List.mem_of_getElem? e1)
   exact ⟨w,e1,at_put_ne (by omega) (at_gone_ne (by omega) e2)⟩
  ·rw [Store.put_length,Store.gone_length];haveI:=g.1;omega
  ·haveI:=Store.at_lt e
   exact at_put_ne hi (at_gone_ne (by omega) (g.at (gr.at e)))
 case turn=>
  intro j a l τ v' hx hJ hl b0 b1 b2 b3
  haveI hxq:a=.int j/\j<7:=by
   unfold ak at hx
   rw [List.getElem?_map,Option.map_eq_some_iff] at hx
   obtain ⟨y,hy,rfl⟩:=hx
   obtain ⟨h1,h2⟩:=List.getElem?_eq_some_iff.mp hy
   rw [List.getElem_range] at h2
   rw [List.length_range] at h1
   exact ⟨by rw [h2],h1⟩
  obtain ⟨rfl,hj7⟩:=hxq
  unfold mj
  refine bW (i:=Z+4) (v:=v') (U':=τ.put (Z+4) (.cell (some (.int j)))) (by k_lt u) (by k_lt u) (by k_lt u) b3 rfl ?_
  refine rB (τ.put (Z+4) (.cell (some (.int j)))) (p1:=λτ1=>JD (Z+5) rs H0 j l τ1) (p2:=λτ1=>τ1.at (Z+1)=some (.iter (.range 0 (aW 0 ((7:Nat):Int) 1) 1) (j+1))) (p3:=λτ1=>τ1.at (Z+2)=some (.list l)) (p4:=λτ1=>τ1.at (Z+3)=some (.frame [])) (p5:=λτ1=>τ1.at (Z+4)=some (.cell (some (.int j)))) (hJ.low (by simp) λi x h e=>at_put_ne (by omega) e) (at_put_ne (by omega) b0) (at_put_ne (by omega) b1) (at_put_ne (by omega) b2) (at_put_eq b3) ?_
  intro τ1 hJ1 b0' b1' b2' b3'
  clear hJ b0 b1 b2 b3
  show TE _ _ _ _ _ _ _
  haveI d0:=hJ1.1.at (gr.at hm)
  haveI d1:=hJ1.1.at (gr.at c1)
  haveI d2:=hJ1.1.at (gr.at c2)
  haveI d3:=hJ1.1.at (gr.at hrp)
  haveI d4:=hr.keep λi x ω ω e=>hJ1.1.at (gr.at e)
  obtain ⟨Z1,hZ1⟩:∃Z1,τ1.length=Z1:=⟨_,rfl⟩
  haveI hZZ:=Store.at_lt b3'
  refine TE_mapC (ak (List.range 7)) (az λk=>if rs.any (ei j k.toNat) then some (.int k) else none) (by show P.free=true;exact hf) (by k_lt u) (λω ω=>by k_lt u) (by k_lt u) (by k_lt u) (by rw [aq];decide) ?h2 ?hl2 ?q2
  case hl2=>exact bo λx y h=>by cases x <;> simp [az] at h;obtain ⟨_,rfl⟩:=h;rfl
  case q2=>
   repeat k_lt zT
   rw [qa (λp=>rs.any (ei j p))]
   haveI gg:Grow τ1 (τ1++[some (AObj.list (ak ((List.range 7).filter λp=>rs.any (ei j p))))]):=Grow.app _ _
   refine ⟨hJ1.next gg.1 (λi x ω e=>gg.at e) (by omega) (at_app_0 hZ1),gg.at b0',gg.at b1',⟨_,gg.at b2'⟩,_,gg.at b3'⟩
  case h2=>
   repeat k_lt zT
   haveI hlen1:(τ1++[some (AObj.range 0 ((7:Nat):Int) 1)]).length=Z1+1:=by rw [List.length_append,hZ1];rfl
   haveI src1:=Src.range (b:=((7:Nat):Int)) hlen1 (at_app_0 hZ1) (aZ (by decide)) (bd _ _ _)
   haveI gr1:Grow τ1 (τ1++[some (AObj.range 0 ((7:Nat):Int) 1)]):=Grow.app _ _
   rw [eN] at src1
   refine ⟨Z1+1,_,src1,gr1,λω ω=>rfl,?_⟩
   intro x' H2 v2 hx' g2 hl2 hF2 hC2
   obtain ⟨p,hp,rfl⟩:=List.mem_map.mp hx'
   haveI hp7:=List.mem_range.mp hp
   haveI g12:=gr1.trans g2
   haveI q0:=g12.at d0
   haveI q1:=g12.at d1
   haveI q2:=g12.at d2
   haveI q3:=g12.at d3
   haveI q4:=d4.keep λi x ω ω e=>g12.at e
   haveI q5:=g12.at b3'
   haveI d3z:=d3
   clear hJ1 b0' b1' b2' d1 d2 d3 d4
   haveI hZ2:=Store.at_lt hC2
   refine bW (i:=Z1+1+3) (v:=v2) (U':=H2.put (Z1+1+3) (.cell (some (.int p)))) (by k_lt u) (by k_lt u) (by k_lt u) hC2 rfl ?_
   haveI off2:OffC (Z1+1+3) H2 (H2.put (Z1+1+3) (.cell (some (.int p)))):=(OffC.refl hC2).put
   haveI q6:(H2.put (Z1+1+3) (.cell (some (.int p)))).at (Z1+1+3)=some (.cell (some (.int p))):=at_put_eq hC2
   haveI q0':=off2.at q0 (by omega)
   haveI q1':=off2.at q1 (by omega)
   haveI q2':=off2.at q2 (by omega)
   haveI hrpl:=Store.at_lt q3
   haveI q3':=off2.at q3 (by haveI:=Store.at_lt d3z;omega)
   haveI q5':=off2.at q5 (by omega)
   haveI q4':=q4.keep (U':=H2.put (Z1+1+3) (.cell (some (.int p)))) λi x ω hx e=>at_put_ne (by rintro rfl;rw [hC2] at e;cases e;cases hx) e
   generalize H2.put (Z1+1+3) (.cell (some (.int p)))=H3 at off2 q6 q0' q1' q2' q3' q4' q5' ⊢
   obtain ⟨Z3,hZ3⟩:∃Z3,H3.length=Z3:=⟨_,rfl⟩
   haveI hZ13:=Store.at_lt q6
   obtain ⟨_,ts,t1,t2⟩:=q4'
   haveI htl:=t2.length
   repeat k_lt zT
   refine dE (ts.map .loc) (kG λi=>if ei j p (eI H3 i) then some (.int 1) else none) hf (by k_lt u) (λω ω=>by k_lt u) ?h3 ?hl3 ?q3
   case hl3=>exact bo λx y h=>by cases x <;> simp [kG] at h;obtain ⟨_,rfl⟩:=h;rfl
   case q3=>
    repeat k_lt zT
    refine qx (at_app_r (j:=0) hZ3 rfl) (at_app_r (j:=1) hZ3 rfl) (List.all_eq_true.mpr λa ha=>by obtain ⟨x,_,e⟩:=List.mem_filterMap.mp ha;cases x <;> simp [kG] at e;obtain ⟨_,rfl⟩:=e;rfl) ?_
    rw [ud t2,Bool.not_not]
    repeat k_lt zT
    haveI hv:∀b,rs.any (ei j p)=b->az (λk=>if rs.any (ei j k.toNat) then some (.int k) else none) (.int (p:Int))=if b then some (.int (p:Int)) else none:=λb hb=>kY (λp=>rs.any (ei j p)) p hb
    refine aA (λhb=>?_) λhb=>?_
    ·repeat k_lt zT
     exact ⟨hv _ hb,by with_unfolding_all k_lt zoffc⟩
    ·exact ⟨hv _ hb,by with_unfolding_all k_lt zoffc⟩
   case h3=>
    repeat k_lt zT
    refine MapOk.of1 (Src.list hZ3 t1) (Grow.refl _) (by rw [List.length_map,htl];exact Nat.le_trans hrl (by decide)) (by k_lt u) (by rfl) (λω h=>jm h) ?_
    intro y H4 R _ kR kK hy g4 hl4 hF4
    obtain ⟨t,ht,rfl⟩:=List.mem_map.mp hy
    obtain ⟨k,hk⟩:=List.getElem?_of_mem ht
    obtain ⟨r,hr1,hr2⟩:=t2.get hk
    haveI hrr:=hok r (List.mem_of_getElem? hr1)
    haveI hrd:=ku hr2
    obtain ⟨rl,⟨u1,u2⟩,u3,u4,u5,u6⟩:=hr2
    haveI z0:=g4.at q0'
    haveI z1:=g4.at q1'
    haveI z3:=g4.at q3'
    haveI z5:=g4.at q5'
    haveI z6:=g4.at q6
    haveI z7:=g4.at u5
    haveI z8:=g4.at u6
    haveI hv:∀b,ei j p r=b->kG (λi=>if ei j p (eI H3 i) then some (.int 1) else none) (.loc t)=if b then some (.int 1) else none:=λb hb=>by
     show (if ei j p (eI H3 t) then _ else _)=_
     rw [hrd,hb]
    haveI hrlz:=Store.at_lt u6
    haveI hrlN:rl≠N:=λe=>by rw [e,q0'] at u6;cases u6
    haveI htz:=Store.at_lt u5
    haveI hrpz:=Store.at_lt q3'
    repeat k_lt zT
    refine aA (λhb=>?_) λhb=>?_
    ·obtain ⟨w1,w2,w3⟩:=row_ok hp7
     haveI hpk:=rows_at hp7
     haveI hrpn:rp≠Z3+2:=by omega
     repeat k_lt zT
     refine TCall.specV (at_put_ne (show N≠Z3+2 by omega) z0) (sp_fits (P:=P) (by omega) hf _ rl r.row r.more _ (ths.getD p []) w1 (at_gone_ne hrlN (at_put_ne (by omega) z8)) (by haveI:=hrr.2.2;omega) hrr.2.1 w2 w3) ?_
     repeat k_lt zT
     haveI hq:r.q=j:=by haveI:=of_decide_eq_true hb;omega
     haveI hh:ei j p r=eW r.row r.more (ths.getD p []):=by
      unfold ei
      rw [hq,beq_self_eq_true]
      rfl
     refine aA (λhb2=>?_) λhb2=>?_
     ·repeat k_lt zT
      exact ⟨hv true (hh.trans hb2),by k_lt uo⟩
     ·exact kK ⟨hv false (hh.trans hb2),by k_lt uo⟩
    ·repeat k_lt zT
     refine ⟨hv false ?_,by k_lt uo⟩
     unfold ei
     haveI:¬(r.q:Int)=j:=of_decide_eq_false hb
     rw [beq_eq_false_iff_ne.mpr (by omega)]
     rfl
end
section
variable {fa:Addr}
variable {N si np:Nat}{H a b:Store}{Q:ai->Store->Prop}
def LOff (N:Nat)(H τ:Store):Prop:=H.length<=τ.length/\∀i x,i≠N->i≠N+4->H.at i=some x->τ.at i=some x
theorem LOff.refl :LOff N H H:=⟨Nat.le_refl _,λω ω ω ω e=>e⟩
theorem LOff.trans {d:Store}(h:LOff N a b)(h':LOff N b d):LOff N a d:=⟨Nat.le_trans h.1 h'.1,λi x h1 h2 e=>h'.2 i x h1 h2 (h.2 i x h1 h2 e)⟩
theorem LOff.ofG (h:Grow a b):LOff N a b:=⟨h.1,λi x ω ω e=>h.at e⟩
theorem LOff.put {N i:Nat}{a b:Store}{o:AObj}(h:LOff N a b)(hi:i=N∨i=N+4∨a.length<=i):LOff N a (b.put i o):=⟨by rw [Store.put_length];exact h.1,λj x h1 h2 e=>at_put_ne (by haveI:=Store.at_lt e;omega) (h.2 j x h1 h2 e)⟩
theorem LOff.gone {N i:Nat}{a b:Store}(h:LOff N a b)(hi:a.length<=i):LOff N a (b.gone i):=⟨by rw [Store.gone_length];exact h.1,λj x h1 h2 e=>at_gone_ne (by haveI:=Store.at_lt e;omega) (h.2 j x h1 h2 e)⟩
theorem LOff.at {N:Nat}{a b:Store}(h:LOff N a b){i:Nat}{x:AObj}(e:a.at i=some x)(h1:i≠N)(h2:i≠N+4):b.at i=some x:=h.2 i x h1 h2 e
theorem tX {P:SP}(hm:H.at N=some (.frame (frL si np)))(c4:H.at (N+4)=some (.cell none)){X:XP}(hZN:N+5<H.length) :
  TS C0 P (bS fa N) (ko 6) (a9 (λτ=>∃cp,N+5<cp/\τ.at N=some (.frame (frL si np))/\τ.at (N+4)=some (.cell (some (.loc cp)))/\τ.at cp=some (.list (ak (aG rs 0)))/\LOff N H τ) Q) X H:=by
 obtain ⟨Z,hZ⟩:∃Z,H.length=Z:=⟨_,rfl⟩
 with_unfolding_all change TS C0 P (bS fa N) (.Assign [.Name _ _] (Expr.List _ _) _) _ _ _
 repeat k_lt zT
 exact ⟨Z,by omega,at_app_l (at_put_ne (by omega) hm),at_app_l (at_put_eq c4),at_app_0 (by rw [Store.put_length,hZ]),(LOff.refl.put (.inr (.inl rfl))).trans (LOff.ofG (Grow.app _ _))⟩
theorem la_come {P:SP}(hf:P.free=true){wp cp:Nat}{ws:List Nat}{rs:List Rule}(hm:H.at N=some (.frame (frL si np)))(c3:H.at (N+3)=some (.cell (some (.loc wp))))(hw:H.at wp=some (.list (ws.map .loc)))(hwN:N+5<wp)(hwsN:∀w∈ws,N+5<w)
  (hwq:∀q,q<7->∃w,ws[q]? = some w/\H.at w=some (.list (ak (aU rs q)))) (c4:H.at (N+4)=some (.cell (some (.loc cp)))) (hcp:H.at cp=some (.list (ak (aG rs 0)))) (hcN:N+5<cp) (hZN:N+5<H.length) {X:XP} :
  TS C0 P (bS fa N) (ko 7) (a9 (λτ=>∃cp,N+5<cp/\FrHas τ N (frL si np)/\τ.at (N+4)=some (.cell (some (.loc cp)))/\τ.at cp=some (.list (ak (aG rs 7)))/\LOff N H τ) Q) X H:=by
 obtain ⟨Z,hZ⟩:∃Z,H.length=Z:=⟨_,rfl⟩
 with_unfolding_all change TS C0 P (bS fa N) (.For _ _ _ _ _) _ _ _
 refine br hf rfl (λω ω=>by k_lt u) ?_
 repeat k_lt zT
 haveI hlen:(H++[some (AObj.range 0 ((7:Nat):Int) 1)]).length=Z+1:=by rw [List.length_append,hZ];rfl
 haveI src:=Src.range hlen (b:=((7:Nat):Int)) (at_app_0 hZ) (aZ (by decide)) (bd _ _ _)
 haveI gr:Grow H (H++[some (AObj.range 0 ((7:Nat):Int) 1)]):=Grow.app _ _
 rw [eN] at src
 haveI e7:some (AObj.range 0 7 1)=some (AObj.range 0 ((7:Nat):Int) 1):=rfl
 rw [e7]
 haveI g0:=gr
 generalize (H++[some (AObj.range 0 ((7:Nat):Int) 1)])=H0 at hlen src gr g0 ⊢
 refine ⟨Z+1,_,_,λj τ=>∃cp,N+5<cp/\FrHas τ N (frL si np)/\τ.at (N+4)=some (.cell (some (.loc cp)))/\τ.at cp=some (.list (ak (aG rs j)))/\LOff N H0 τ,src,?h0,?hx,λω ω=>rfl,?turn,?fin⟩
 case h0=>exact ⟨cp,hcN,.mk (at_app_l (gr.at hm)) (by unfold frL;k_lt zhas),at_app_l (gr.at c4),at_app_l (gr.at hcp),LOff.ofG (Grow.app _ _)⟩
 case hx=>
  rintro j τ ⟨_,_,_,_,_,_⟩
  exact .range ..
 case fin=>
  rintro τ ⟨cp1,h1,h2,h3,h4,h5⟩ hit
  rw [aq,List.length_range] at h4
  refine TSs_nil ?_
  haveI hc:cp1≠Z+1:=λe=>by rw [e,hit] at h4;cases h4
  exact ⟨cp1,h1,h2.gone (by omega),at_gone_ne (by omega) h3,at_gone_ne hc h4,(LOff.ofG gr).trans (h5.gone (by omega))⟩
 case turn=>
  rintro j x τ R Y kR kX hx ⟨cp1,h1,h2,h3,h4,h5⟩ hit
  refine TV1.weakTo (F:=N) (h2.put_ne (by omega)) ?_
  haveI hc:cp1≠Z+1:=λe=>by rw [e,hit] at h4;cases h4
  obtain ⟨m3,hm3,_⟩:=id h2
  haveI hc0:cp1≠N:=by omega
  refine rB ((τ.put (Z+1) (.iter (.range 0 (aW 0 ((7:Nat):Int) 1) 1) (j+1))).put N (.frame (frL si np))) (p1:=λτ1=>τ1.at N=some (.frame (frL si np))) (p2:=λτ1=>τ1.at (Z+1)=some (.iter (.range 0 (aW 0 ((7:Nat):Int) 1) 1) (j+1))) (p3:=λτ1=>τ1.at (N+4)=some (.cell (some (.loc cp1)))) (p4:=λτ1=>τ1.at cp1=some (.list (ak (aG rs j)))) (p5:=λτ1=>LOff N H0 τ1) (at_put_eq (at_put_ne (by omega) hm3)) (at_put_ne (by omega) (at_put_eq hit)) (at_put_ne (by omega) (at_put_ne (by omega) h3)) (at_put_ne hc0 (at_put_ne hc h4)) ((h5.put (.inr (.inr (by omega)))).put (.inl rfl)) ?_
  intro τ1 k0 k1 k4 k5 kL
  clear h2 h3 h4 h5 hit hm3
  unfold frL at k0
  refine fW (m:=_) (by k_lt u) (by k_lt u) k0 rfl rfl ?_
  haveI fr2:FrHas (τ1.put N (.frame (dG "turn" x [("script",.loc si),("alpha",.bytes bA),("beta",.bytes bB),("gamma",.bytes bC),("written_of",.loc np)]))) N (frL si np):=.mk (at_put_eq k0) (by unfold frL dG;k_lt zhas)
  with_unfolding_all change TSs C0 P (bS fa N) _ _ _ (τ1.put N (.frame (dG "turn" x [("script",.loc si),("alpha",.bytes bA),("beta",.bytes bB),("gamma",.bytes bC),("written_of",.loc np)])))
  replace kL:=kL.put (o:=.frame (dG "turn" x [("script",.loc si),("alpha",.bytes bA),("beta",.bytes bB),("gamma",.bytes bC),("written_of",.loc np)])) (i:=N) (.inl rfl)
  replace k1:=at_put_ne (x:=.frame (dG "turn" x [("script",.loc si),("alpha",.bytes bA),("beta",.bytes bB),("gamma",.bytes bC),("written_of",.loc np)])) (show Z+1≠N by omega) k1
  replace k4:=at_put_ne (x:=.frame (dG "turn" x [("script",.loc si),("alpha",.bytes bA),("beta",.bytes bB),("gamma",.bytes bC),("written_of",.loc np)])) (show N+4≠N by omega) k4
  replace k5:=at_put_ne (x:=.frame (dG "turn" x [("script",.loc si),("alpha",.bytes bA),("beta",.bytes bB),("gamma",.bytes bC),("written_of",.loc np)])) hc0 k5
  generalize (τ1.put N (.frame (dG "turn" x [("script",.loc si),("alpha",.bytes bA),("beta",.bytes bB),("gamma",.bytes bC),("written_of",.loc np)])))=τ2 at fr2 kL k1 k4 k5 ⊢
  haveI kZ:=Store.at_lt k1
  haveI e3:=kL.at (gr.at c3) (by omega) (by omega)
  haveI ew:=kL.at (gr.at hw) (by omega) (by omega)
  haveI eq:∀q,q<7->∃w,ws[q]? = some w/\w<τ2.length/\τ2.at w=some (.list (ak (aU rs q))):=λq hq=>by
   obtain ⟨w,w1,w2⟩:=hwq q hq
   haveI:=hwsN w (List.mem_of_getElem? w1)
   haveI:=kL.at (gr.at w2) (by omega) (by omega)
   exact ⟨w,w1,Store.at_lt this,this⟩
  haveI hwpZ:=Store.at_lt ew
  haveI hcpZ:=Store.at_lt k5
  clear k0
  refine TSs_cons' ?_
  k_lt zT
  obtain ⟨Z1,hZ1⟩:∃Z,τ2.length=Z:=⟨_,rfl⟩
  refine dE (ak (List.range 7)) (az λk=>if (aU rs k.toNat).all (λp=>(aG rs j).contains p) then some (.int k) else none) hf (by k_lt u) (λω ω=>by k_lt u) ?h ?hl ?q
  case hl=>exact bo λx y h=>by cases x <;> simp [az] at h;obtain ⟨_,rfl⟩:=h;rfl
  case q=>
   repeat k_lt zT
   refine TSs_nil ?_
   rw [qa (λq=>(aU rs q).all λp=>(aG rs j).contains p)]
   refine kR ?_
   refine ⟨⟨Z1,by omega,?_,at_app_l (at_put_eq k4),at_app_0 (by rw [Store.put_length,hZ1]),(kL.put (.inr (.inl rfl))).trans (LOff.ofG (Grow.app _ _))⟩,at_app_l (at_put_ne (by omega) k1)⟩
   obtain ⟨m4,m5,m6⟩:=fr2
   exact ⟨m4,at_app_l (at_put_ne (by omega) m5),m6⟩
  case h=>
   repeat k_lt zT
   haveI hZ0:(τ2++[some (AObj.range 0 ((7:Nat):Int) 1)]).length=Z1+1:=by rw [List.length_append,hZ1];rfl
   haveI src1:=Src.range (b:=((7:Nat):Int)) hZ0 (at_app_0 hZ1) (aZ (by decide)) (bd _ _ _)
   rw [eN] at src1
   refine MapOk.of1 src1 (Grow.app _ _) (by rw [aq];decide) (by k_lt u) (by rfl) (λω ω=>rfl) ?_
   intro y H1 R _ kR kK hy g1 hl1 hF1
   obtain ⟨q,hq7,rfl⟩:=List.mem_map.mp hy
   haveI hq:=List.mem_range.mp hq7
   obtain ⟨w,hw1,hw2,hw3⟩:=eq q hq
   haveI g2:Grow τ2 H1:=(Grow.app _ _).trans g1
   haveI b2:=g2.at ew
   haveI b3:=g2.at hw3
   haveI d3:=g2.at e3
   haveI d4:=g2.at k4
   haveI d5:=g2.at k5
   obtain ⟨Z2,hZ2⟩:∃Z,H1.length=Z:=⟨_,rfl⟩
   haveI hZZ1:Z1+4<=Z2:=by rw [←hZ2];exact hl1
   haveI hZ3:Z1+1+2<Z2:=by omega
   repeat k_lt zT
   refine dE (ak (aU rs q)) (az λk=>if !(aG rs j).contains k.toNat then some (.int 1) else none) hf (by k_lt u) (λω ω=>by k_lt u) ?h2 ?hl2 ?q2
   case hl2=>exact bo λx y h=>by cases x <;> simp [az] at h;obtain ⟨_,rfl⟩:=h;rfl
   case h2=>
    haveI hsq:bz (ws.map .loc) (q:Int)=some (.loc w):=seqAt_nat (by rw [List.getElem?_map,hw1];rfl) (by omega)
    haveI hat:=at_put_ne (x:=.frame [("q",.int q)]) (show wp≠Z1+1+2 by omega) b2
    repeat k_lt zT
    refine MapOk.of1 (Src.list (by rw [Store.put_length,hZ2]) (at_put_ne (by omega) b3)) (Grow.refl _) (by rw [aq];refine Nat.le_trans (List.length_filter_le _ _) (by decide)) (by k_lt u) (by rfl) (λω ω=>rfl) ?_
    intro y H2 R _ kR kK hy g2 hl2 hF2
    obtain ⟨v,hv,rfl⟩:=List.mem_map.mp hy
    haveI d6:=g2.at (at_put_ne (x:=.frame [("q",.int q)]) (show N+4≠Z1+1+2 by omega) d4)
    haveI d7:=g2.at (at_put_ne (x:=.frame [("q",.int q)]) (show cp1≠Z1+1+2 by omega) d5)
    haveI hl2':Z2+3<=H2.length:=by haveI:=hl2;omega
    repeat k_lt zT
    refine dF (by k_lt zat) (dZ v (aG rs j)) ?_
    repeat k_lt zT
    refine aA (λhb=>?_) λhb=>?_
    ·repeat k_lt zT
     exact ⟨iP (λp=>!(aG rs j).contains p) v hb,by k_lt uo⟩
    ·exact kK ⟨iP (λp=>!(aG rs j).contains p) v hb,by k_lt uo⟩
   case q2=>
    repeat k_lt zT
    refine i0 (at_app_r (j:=0) (by rw [Store.put_length,hZ2]) rfl) (at_app_r (j:=1) (by rw [Store.put_length,hZ2]) rfl) (List.all_eq_true.mpr λa ha=>by obtain ⟨x,_,e⟩:=List.mem_filterMap.mp ha;cases x <;> simp [az] at e;obtain ⟨_,rfl⟩:=e;rfl) ?_
    rw [ue (λp=>!(aG rs j).contains p)]
    repeat k_lt zT
    haveI hv:∀b,(!(aU rs q).any λp=>!(aG rs j).contains p)=b->az (λk=>if (aU rs k.toNat).all (λp=>(aG rs j).contains p) then some (.int k) else none) (.int (q:Int))=if b then some (.int (q:Int)) else none:=λb hb=>kY (λq=>(aU rs q).all λp=>(aG rs j).contains p) q (by rw [←hb,List.not_any_eq_all_not];simp)
    refine aA (λhb=>?_) λhb=>?_
    ·repeat k_lt zT
     exact ⟨hv _ hb,by k_lt uo⟩
    ·exact kK ⟨hv _ hb,by k_lt uo⟩
end
section
variable {fa:Addr}
section
variable {rs:List Rule}{ns:List Nd}
theorem su_at (h:ax ns=aL rs){k:Nat}(hk:k<7):dl ns (ag k)=suP rs k:=by
 unfold dl
 obtain ⟨x,hx,e⟩:=eg (bU h) hk
 cases q:bx ns (ag k) with
 | none=>
  haveI:=List.find?_eq_none.mp q x hx
  rw [e] at this
  exact absurd (beq_self_eq_true _) this
 | some y=>
  obtain ⟨h1,h2⟩:=cB q
  exact (em h h1 hk h2).2
theorem su_no (h:ax ns=aL rs){a:Str}(ha:∀k,k<7->a≠ag k):dl ns a=[]:=by
 unfold dl
 cases q:bx ns a with
 | none=>rfl
 | some y=>
  obtain ⟨h1,h2⟩:=cB q
  obtain ⟨p,hp,e⟩:=jB (bU h) h1
  exact absurd (h2.symm.trans e) (ha p hp)
theorem nt (hr:∀r∈rs,r.Ok)(h:ax ns=aL rs)(hc:Cyc (dl ns)):(aG rs 7).length<7:=un hr (λω=>su_at h) (λω=>su_no h) hc
theorem tK (h:ax ns=aL rs):ns.length=7:=by
 haveI:=congrArg List.length h
 unfold ax aL at this
 rw [List.length_map,List.length_map] at this
 exact this
theorem lP (hr:∀r∈rs,r.Ok)(h:ax ns=aL rs)(ha:sk ns):(aG rs 7).length=7:=by
 obtain ⟨fin,h1,h2,h3,h4⟩:=ha
 rw [tK h] at h4
 refine rJ hr (λω=>su_at h) h1 h2 (λk hk=>?_) h4
 obtain ⟨x,hx,e⟩:=eg (bU h) hk
 rw [←e]
 exact h3 x hx
theorem su_in (hr:∀r∈rs,r.Ok)(h:ax ns=aL rs):∀x∈ns,∀s∈x.su,∃y∈ns,y.k=s:=by
 intro x hx s hs
 obtain ⟨p,hp,e⟩:=jB (bU h) hx
 rw [(em h hx hp e).2] at hs
 unfold suP at hs
 obtain ⟨r,hr',rfl⟩:=List.mem_map.mp hs
 exact eg (bU h) (hr r (List.mem_filter.mp hr').1).1
theorem su_len (hrl:rs.length<=8)(h:ax ns=aL rs):∀x∈ns,x.su.length<=1000:=by
 intro x hx
 obtain ⟨p,hp,e⟩:=jB (bU h) hx
 rw [(em h hx hp e).2]
 unfold suP
 rw [List.length_map]
 haveI:=List.length_filter_le (λr=>tk r p) rs
 omega
end
structure LSo (rs:List Rule)(B s:Nat)(S:Sr)(H:Store):Prop where
 srt:Srt H S
 s:S.s=s
 ep:S.ep=none
 po:S.po=0
 nf:S.nf=0
 core:ax S.ns=aL rs
 pl:∀j,S.places j->B<=j
def LSt (N t:Nat)(H τ:Store):Prop:=H.length<=τ.length/\∀i x,i≠N->i≠N+5->i≠t->isX x=false->H.at i=some x->τ.at i=some x
theorem la_made {P:SP}(hd:8<P.d)(hf:P.free=true){H:Store}{N si np dp t:Nat}{rs:List Rule}(hm:H.at N=some (.frame (frL si np)))(c2:H.at (N+2)=some (.cell (some (.loc dp))))(c5:H.at (N+5)=some (.cell none))(hr:RulesAt H N dp rs)(hok:∀r∈rs,r.Ok)(hfix:∃l,rs=fixedR++l)(hrl:rs.length<=8)(hnp:H.at np=some (.list (nm.map .str)))(hT:TabOk H t 207 ev)(ht:t<N){Q:ai->Store->Prop}{X:XP} :
  TS C0 P (bS fa N) (ko 8) (a9 (λτ=>∃S,LSo rs H.length S.s S τ/\S.rdy=none/\τ.at (N+5)=some (.cell (some (.loc S.s)))/\τ.at N=some (.frame (frL si np))/\LSt N t H τ/\∃es,τ.at t=some (.tab 207 es)) Q) X H:=by
 obtain ⟨Z,hZ⟩:∃Z,H.length=Z:=⟨_,rfl⟩
 haveI h5:=Store.at_lt c5
 with_unfolding_all change TS C0 P (bS fa N) (.Assign [.Name _ _] (.Call _ _ _ _) _) _ _ _
 haveI hm':=hm
 unfold frL at hm'
 repeat k_lt zT
 haveI hnpN:np≠N:=λe=>by rw [e,hm] at hnp;cases hnp
 refine TCall.of hm (TC.mono (qC (P:=P) (n0:=N) (by omega) hf (H.gone N) np dp t rs hok hfix hrl (at_gone_ne hnpN hnp) (hr.keep λj x ω hx e=>at_gone_ne (by rintro rfl;rw [hm] at e;cases e;cases hx) e) (hT.gone hm (.inl ⟨_,rfl⟩)) (X:=noX)) ?_ λω ω x=>x.elim)
 rintro a U' hl ⟨S,rfl,s1,s2,s3,s4,s5,s6,s7,s8,s9⟩
 rw [Store.gone_length] at hl s7
 haveI e0:(U'.put N (.frame (frL si np))).at N=some (.frame (frL si np)):=by rw [Store.at_put (by omega),if_pos rfl]
 haveI e5:(U'.put N (.frame (frL si np))).at (N+5)=some (.cell none):=at_put_ne (by omega) (s8.at (at_gone_ne (by omega) c5) (by omega))
 refine TAsgs_one (by rfl) ?_
 refine bW (i:=N+5) (v:=none) (U':=(U'.put N (.frame (frL si np))).put (N+5) (.cell (some (.loc S.s)))) (by k_lt u) (by k_lt u) (by k_lt u) e5 rfl ?_
 haveI np1:∀j,S.places j->j≠N/\j≠N+5:=λj hj=>by haveI:=s7 j hj;omega
 refine ⟨S,⟨(s1.put λh=>(np1 _ h).1 rfl).put λh=>(np1 _ h).2 rfl,rfl,s2,s4,s5,s6,s7⟩,s3,at_put_eq e5,at_put_ne (by omega) e0,⟨by simpa using hl,λi x h1 h2 h3 h4 e=>at_put_ne h2 (at_put_ne h1 (s8.at (at_gone_ne h1 e) h3 h4))⟩,?_⟩
 obtain ⟨es,e,_⟩:=s9
 exact ⟨es,at_put_ne (by omega) (at_put_ne (by omega) e)⟩
end
section
variable {fa:Addr}
theorem eM {P:SP}(hd:1<P.d)(hf:P.free=true){H:Store}{N:Nat}{S:Sr}{m:List (Str×AVal)}{f:Addr}{name:Str}{p1 p2 p3 p4:Pos}(hm:H.at N=some (.frame m))(c5:H.at (N+5)=some (.cell (some (.loc S.s))))(hS:Srt H S)(hl:ci154.meths.lookup name=some f)(ha:ae name S.attrs=none)(hfn:(C0.fn f).isSome=true)
  (spec:∀(U:Store),Srt U S->∀{Q:AVal->Store->Prop} {X:XP},(∀j U',Raised U' j (.type "ValueError") none->Hi U.length U' j->Srt U' S->Pers U U'->X j U')->TK C0 P.down (.top (.ref f)) [.loc S.s] [] Q X U) {Q:AVal->Store->Prop} {X:XP} (q:∀τ,Pers H τ->Q (.str "order") τ) :
  TE C0 P (bS fa N) (.Call (.Name "_law_refused" p1) [.Attribute (.Name "made" p2) name p3] [] p4) Q X H:=by
 obtain ⟨Z,hZ⟩:∃Z,H.length=Z:=⟨_,rfl⟩
 have h5:=Store.at_lt c5
 have hs:=hS.s
 have hD:=hS.d
 refine TE_Call rfl (er (by k_lt u) (by k_lt u) (by k_lt u) (a:=.top (.ref 248)) (by k_lt u) ?_)
 refine TCW_r0 (by k_lt u) (TArgsE rfl (TSpE_cons rfl ?_))
 repeat k_lt zT
 refine fV (c:=C0) (ci:=ci154) rfl hs hD hl ha ?_
 refine TSpE_nil ?_
 rw [hZ]
 refine na (H++[some (AObj.meth f (.loc S.s))]) (p1:=λH1=>Grow H H1) (p2:=λH1=>H1.at Z=some (.meth f (.loc S.s))) (p3:=λH1=>H1.length=Z+1) (Grow.app _ _) (at_app_0 hZ) (by rw [List.length_append,hZ];rfl) ?_
 intro H1 g h1 hlen
 have hm1:=g.at hm
 have hS1:=hS.grow g
 refine TCall.of hm1 (io hd hf _ (.loc Z) (λo=>KeepR.meth (at_app_l (at_gone_ne (by show Z≠N;omega) h1)) hfn) (TC.of (lX (at_app_l (at_gone_ne (by show Z≠N;omega) h1)) (spec _ ((hS1.gone (hS1.out hm1 rfl)).app) λj U' r1 r2 r3 r4=>⟨r2,r1,r4⟩))) λU' hp=>?_)
 exact q _ ((Pers.of g).trans (Pers.back hm1 hp))
end
section
variable {fa:Addr}
theorem mB {P:SP}(hd:2<P.d)(hf:P.free=true){H:Store}{N:Nat}{S:Sr}{m:List (Str×AVal)}{p1 p2 p3 p4:Pos}(hm:H.at N=some (.frame m))(c5:H.at (N+5)=some (.cell (some (.loc S.s))))(hS:Srt H S)(hep:S.ep=none)(hr:S.rdy=none)(hlen:S.ns.length<=10)(hin:∀x∈S.ns,∀s∈x.su,∃y∈S.ns,y.k=s)(hsu:∀x∈S.ns,x.su.length<=1000)
  {Q:AVal->Store->Prop} {X:XP} (q:∀τ p a,((a:Str) = ""/\sk S.ns)∨(a = "ring"/\Cyc (dl S.ns))->Srt τ {S with rdy:=some (p,ay S.ns)}->Kept S H τ->H.length<=p->Q (.str a) τ) :
  TE C0 P (bS fa N) (.Call (.Name "_law_refused" p1) [.Attribute (.Name "made" p2) "prepare" p3] [] p4) Q X H:=by
 obtain ⟨Z,hZ⟩:∃Z,H.length=Z:=⟨_,rfl⟩
 have h5:=Store.at_lt c5
 have hs:=hS.s
 have hD:=hS.d
 refine TE_Call rfl (er (by k_lt u) (by k_lt u) (by k_lt u) (a:=.top (.ref 248)) (by k_lt u) ?_)
 refine TCW_r0 (by k_lt u) (TArgsE rfl (TSpE_cons rfl ?_))
 repeat k_lt zT
 refine fV (c:=C0) (ci:=ci154) rfl hs hD (f:=109) rfl rfl ?_
 refine TSpE_nil ?_
 rw [hZ]
 refine na (H++[some (AObj.meth 109 (.loc S.s))]) (p1:=λH1=>Grow H H1) (p2:=λH1=>H1.at Z=some (.meth 109 (.loc S.s))) (p3:=λH1=>H1.length=Z+1) (Grow.app _ _) (at_app_0 hZ) (by rw [List.length_append,hZ];rfl) ?_
 intro H1 g h1 hlen1
 have hm1:=g.at hm
 have hS1:=hS.grow g
 have hS2:=hS1.gone (hS1.out hm1 rfl)
 have h2:=at_gone_ne (show Z≠N by omega) h1
 have hlen2:(H1.gone N).length=Z+1:=by rw [Store.gone_length,hlen1]
 haveI hlen3:(H1.gone N++[none]).length=Z+2:=by rw [List.length_append,hlen2];rfl
 haveI hpN:∀j,S.places j->j<Z/\j≠N:=λj hj=>⟨by haveI:=hS.lt hj;omega,λe=>hS.out hm rfl (e▸hj)⟩
 haveI hpl:∀{p},Z+2<=p->∀j,Sr.places {S with rdy:=some (p,ay S.ns)} j->(j<Z/\j≠N)∨Z+2<=j:=λhp j hj=>((nD (S:=S) (po:=S.po) (nf:=S.nf) (n:=Z+2) hp).places j hj).imp (hpN j) id
 haveI kp:∀{τ},Kept S (H1.gone N++[none]) τ->Kept S (H1.gone N) τ:=λk=>⟨by haveI:=k.1;rw [hlen3] at this;rw [hlen2];omega,λj x h1 h2 e=>k.2 j x h1 h2 (at_app_l e)⟩
 haveI fin:∀(a:Str) (τ:Store) p,((a:Str) = ""/\sk S.ns)∨(a = "ring"/\Cyc (dl S.ns))->Z+2<=p->Srt τ {S with rdy:=some (p,ay S.ns)}->Kept S (H1.gone N) τ->Q (.str a) (τ.put N (.frame m)):=by
  intro a τ p ha hp hS' hk
  refine q _ p a ha (hS'.put λh=>by rcases hpl hp _ h with h | h <;> omega) ?_ (by omega)
  haveI:=hk.back hm1
  exact ⟨Nat.le_trans g.1 this.1,λj x h1 h2 e=>this.2 j x h1 h2 (g.at e)⟩
 refine TCall.of hm1 (jc (by omega) hf _ (.loc Z) (λn τ=>∃p,(n=0/\sk S.ns∨n=2/\Cyc (dl S.ns))/\Z+2<=p/\Srt τ {S with rdy:=some (p,ay S.ns)}/\Kept S (H1.gone N) τ) hlen2 (λo=>KeepR.meth (at_app_l h2) rfl) ?_ ?_ ?_ ?_ ?_)
 ·refine TC.of (lX (at_app_l h2) (TK.mono (nY (P:=P.down) (by show 1<P.d - 1;omega) hf _ S (hS2.app) hep hr hlen hin hsu (X:=λj U'=>Hi (Z+1+1) U' j/\((Raised U' j (.type "ValueError") none/\_)∨(Raised U' j (.ref 72) none/\_))) λj U' p r1 r2 r3 r4 r5 r6=>⟨by rw [hlen3] at r2;exact r2,.inr ⟨r1,p,.inr ⟨rfl,r6⟩,by rw [hlen3] at r5;exact r5,r3,kp r4⟩⟩) ?_ λω ω x=>x))
  rintro a U' ⟨p,rfl,r1,r2,r3,r4⟩
  exact ⟨p,.inl ⟨rfl,r1⟩,by rw [hlen3] at r2;exact r2,r3,kp r4⟩
 ·rintro n U' U'' ⟨p,r1,r2,r3,r4⟩ hl hx
  refine ⟨p,r1,r2,r3.congr λj hj x e=>hx.2 j x (by rcases hpl r2 j hj with h | h <;> omega) ?_ e,⟨Nat.le_trans r4.1 hx.1,λj x h1 h2 e=>hx.2 j x (by haveI:=Store.at_lt e;omega) h2 (r4.2 j x h1 h2 e)⟩⟩
  obtain ⟨y,h1,h2⟩:=r3.at_place hj
  rw [e] at h1;cases h1
  cases x <;> first | rfl | (cases h2;done)
 ·rintro U' ⟨p,r1,r2,r3,r4⟩
  exact fin _ _ p (.inl ⟨rfl,(r1.resolve_right λh=>by cases h.1).2⟩) r2 r3 r4
 ·rintro U' ⟨p,r1,_⟩
  rcases r1 with ⟨h,_⟩ | ⟨h,_⟩ <;> cases h
 ·rintro U' ⟨p,r1,r2,r3,r4⟩
  exact fin _ _ p (.inr ⟨rfl,(r1.resolve_left λh=>by cases h.1).2⟩) r2 r3 r4
end
section
variable {fa:Addr}
theorem la_ask {P:SP}(hd:4<P.d)(hf:P.free=true){H:Store}{N B si np cp:Nat}{rs:List Rule}{S:Sr}(hok:∀r∈rs,r.Ok)(hrl:rs.length<=8)(hm:H.at N=some (.frame (frL si np)))(h:LSo rs B S.s S H)(hr:S.rdy=none)(c5:H.at (N+5)=some (.cell (some (.loc S.s))))(c4:H.at (N+4)=some (.cell (some (.loc cp))))(hcp:H.at cp=some (.list (ak (aG rs 7))))(hcB:cp<B)(hBN:N+5<B){Q:ai->Store->Prop}{X:XP} :
  TS C0 P (bS fa N) (ko 9) (a9 (λτ=>∃p,Srt τ {S with rdy:=some (p,ay S.ns)}/\Kept S H τ/\H.length<=p) Q) X H:=by
 have hd1:2<P.down.d:=by show 2<P.d - 1;omega
 with_unfolding_all change TS C0 P (bS fa N) (.If _ _ _ _) _ _ _
 refine TS_If' ?_
 k_lt zT
 k_lt zT
 k_lt zT
 refine eM (S:=S) (f:=116) (by omega) hf hm c5 h.srt rfl rfl rfl (λU hS ω ω q=>gO (P:=P.down) (by show 0<P.d - 1;omega) hf U S hS hr q) λτ1 p1=>?_
 have m1:=p1.2 N _ hm rfl
 have d1:=p1.2 _ _ c5 rfl
 have s1:=p1.srt h.srt
 k_lt zT
 refine eM (S:=S) (f:=123) (by omega) hf m1 d1 s1 rfl rfl rfl (λU hS ω ω q=>f9 (P:=P.down) (by show 0<P.d - 1;omega) hf U S hS hr q) λτ2 p2=>?_
 have m2:=p2.2 N _ m1 rfl
 have d2:=p2.2 _ _ d1 rfl
 have s2:=p2.srt s1
 k_lt zT
 refine mB (S:=S) (by omega) hf m2 d2 s2 h.ep hr (by rw [tK h.core];decide) (su_in hok h.core) (su_len hrl h.core) λτ3 p a ha s3 k3 hp=>?_
 have hp2:=p1.trans p2
 have k:Kept S H τ3:=⟨Nat.le_trans hp2.1 k3.1,λj x h1 h2 e=>k3.2 j x h1 h2 (hp2.2 j x e h2)⟩
 have m3:=k3.frame s2 m2
 have e4:=k.frame h.srt c4
 have hcpp:¬S.foot cp:=λq=>by have:=h.pl cp q.places;omega
 have e5:=k.at hcp hcpp
 have hl:=hp2.1
 have ha':a=if (aG rs 7).length<7 then ("ring" : Str) else ("" : Str):=by
  rcases ha with ⟨rfl,h1⟩ | ⟨rfl,h1⟩
  ·rw [if_neg (by rw [lP hok h.core h1];decide)]
  ·rw [if_pos (nt hok h.core h1)]
 clear k3 m2 d2 m1 d1 c4 hcp hm c5 p1 p2
 obtain ⟨Z,hZ⟩:∃Z,τ3.length=Z:=⟨_,rfl⟩
 have l7:(aG rs 7).length<=7:=by
  unfold aG
  exact Nat.le_trans (List.length_filter_le _ _) (by simp)
 have l1:(ak (aG rs 7)).length<=lenLine:=bG (by rw [aq];omega)
 have done:∀b:Str,a=b->OP2 C0 P (compareOp .NotEq) (.loc Z) (.loc (Z+1)) (gV λd U3=>TTru C0 P d (λx U1=>d9 x (TSs C0 P (bS fa N) [Stmt.Return (some (Expr.Constant (Const.bool false) 0 ⟨313,15,313,20⟩)) ⟨313,8,313,20⟩] (a9 (λτ=>∃p,Srt τ {S with rdy:=some (p,ay S.ns)}/\Kept S H τ/\H.length<=p) Q) X U1) (TSs C0 P (bS fa N) [] (a9 (λτ=>∃p,Srt τ {S with rdy:=some (p,ay S.ns)}/\Kept S H τ/\H.length<=p) Q) X U1)) X U3) X (τ3++[some (AObj.list [.str "order",.str "order",.str a]),some (AObj.list [.str "order",.str "order",.str b])]):=by
  rintro _ rfl
  have hpy:([AVal.str "order",.str "order",.str a]:List AVal).all fM=true:=by
   rcases ha with ⟨rfl,_⟩ | ⟨rfl,_⟩ <;> decide +kernel
  refine gG (at_app_r (j:=0) hZ rfl) (at_app_r (j:=1) hZ rfl) hpy ?_
  repeat k_lt zT
  refine TSs_nil ?_
  exact ⟨p,s3.app,⟨by rw [List.length_append];have:=k.1;omega,λj x h1 h2 e=>at_app_l (k.2 j x h1 h2 e)⟩,by omega⟩
 repeat k_lt zT
 rw [aq]
 refine aA (λhb=>?_) λhb=>?_
 ·repeat k_lt zT
  exact done _ (by rw [ha',if_pos (by have:=of_decide_eq_true hb;omega)])
 ·repeat k_lt zT
  exact done _ (by rw [ha',if_neg (by have:=of_decide_eq_false hb;omega)])
end
section
variable {fa:Addr}
noncomputable def pO:Str:="law.<locals>.<lambda>"
theorem TCall.addRefused {P:SP}{E:AEnv}{U:Store}{S:Sr}{m:List (Str×AVal)}{k:Str}{X0:XP}{Q:AVal->Store->Prop}(hd:0<P.d)(hf:P.free=true)(hF:U.at E.frame=some (.frame m))(hS:Srt U S){p:Nat×List Str}(hr:S.rdy=some p)
  (q:∀j U'',Raised U'' j (.type "ValueError") none->Hi U.length U'' j->Pers U U''->X0 j U''):TCall C0 P E (.top (.ref 104)) [.loc S.s,.str k] [] Q (aD E X0) U:=by
 refine TCall.of hF (TC.of (je hd hf _ S (hS.gone (hS.out hF rfl)) hr k λj U' h1 h2 h3 h4=>?_))
 exact jz hF h1 h2 h4 (q j)
theorem la_ask2 {P:SP}(hd:4<P.d)(hf:P.free=true){H:Store}{N t si np:Nat}{S:Sr}{R:Nat×List Str}(hm:H.at N=some (.frame (frL si np)))(hS:Srt H S)(hr:S.rdy=some R)(c5:H.at (N+5)=some (.cell (some (.loc S.s))))(hT:TabOk H t 255 pO)(ht:t<N){Q:ai->Store->Prop}{X:XP} :
  TS C0 P (bS fa N) (ko 10) (a9 (λτ=>Srt τ S/\τ.at N=some (.frame (frL si np))/\Sd N t H τ/\∃es,τ.at t=some (.tab 255 es)) Q) X H:=by
 with_unfolding_all change TS C0 P (bS fa N) (.If _ _ _ _) _ _ _
 refine TS_If' ?_
 k_lt zT
 k_lt zT
 k_lt zT
 refine eM (S:=S) (f:=109) (by omega) hf hm c5 hS rfl rfl rfl (λU hS ω ω q=>fL (P:=P.down) (by show 0<P.d - 1;omega) hf U S hS hr q) λτ1 p1=>?_
 have m1:=p1.2 N _ hm rfl
 have d1:=p1.2 _ _ c5 rfl
 have s1:=p1.srt hS
 have t1:TabOk τ1 t 255 pO:=hT.keep λj x hx e=>p1.2 j x e (by rcases hx with ⟨_,rfl⟩ | ⟨_,rfl⟩ <;> rfl)
 k_lt zT
 refine TE_Call rfl (er (by k_lt u) (by k_lt u) (by k_lt u) (a:=.top (.ref 248)) (by k_lt u) ?_)
 refine TCW_r0 (by k_lt u) (TArgsE rfl (TSpE_cons rfl ?_))
 refine TE_Lam' (t:=t) (cc:=257) (Pt:=255) (q:=pO) (by k_lt u) t1 (by k_lt u) (.tail _ (.tail _ (.head _))) (λω=>rfl) (by k_lt u) λi k τ h1 h2 h3 h4 h5 h6=>?_
 refine TSpE_nil ?_
 have g1:Sd N t τ1 τ:=Sd.ofB h6
 have m2:=h6.at m1 (by omega)
 have d2:=h6.at d1 (by omega)
 have hlτ:=h6.len
 have hFl:=Store.at_lt m1
 have htt:¬S.places t:=λh=>by
  obtain ⟨es,e1,_⟩:=t1
  exact s1.out e1 rfl h
 have s2:Srt τ S:=s1.sd g1 λj hj=>⟨λe=>s1.out m1 rfl (e▸hj),λe=>htt (e▸hj)⟩
 have hiF:i≠N:=by omega
 haveI hkF:k≠N:=λe=>by rw [e,m2] at h4;cases h4
 refine TCall.of m2 (ir (by omega) hf _ (at_gone_ne hiF h3) (at_gone_ne hkF h4) (by k_lt u) ⟨rfl,rfl,rfl⟩ (λω ω ω ω=>by rfl) ?_ λU' hp=>?_)
 ·haveI s3:Srt (τ.gone N++[none,some (AObj.frame [])]) S:=(s2.gone (s2.out m2 rfl)).app
  haveI d3:(τ.gone N++[none,some (AObj.frame [])]).at (N+5)=some (.cell (some (.loc S.s))):=at_app_l (at_gone_ne (by omega) d2)
  haveI hs0:=s3.s
  haveI hd0:=s3.d
  unfold Sr.attrs at hd0
  haveI f3:(τ.gone N++[none,some (AObj.frame [])]).at ((τ.gone N).length+1)=some (.frame []):=at_app_r (j:=1) rfl rfl
  with_unfolding_all change TE _ _ _ _ _ _ (τ.gone N++[none,some (AObj.frame [])])
  generalize (τ.gone N++[none,some (AObj.frame [])])=τ3 at s3 d3 hs0 hd0 f3 ⊢
  repeat k_lt zT
  exact TCall.addRefused (by show 0<P.d - 1 - 1;omega) hf f3 s3 hr λj U'' r1 r2 r3=>⟨r2,r1,r3⟩
 ·haveI hpb:=Pers.back m2 hp
  haveI m4:=hpb.2 N _ m2 rfl
  haveI s4:=hpb.srt s2
  haveI g4:Sd N t H (U'.put N (.frame (frL si np))):=((Sd.ofP p1).trans g1).trans (Sd.ofP hpb)
  haveI e4:∃es,(U'.put N (.frame (frL si np))).at t=some (.tab 255 es):=by
   obtain ⟨es,e,_⟩:=h5
   exact ⟨es,hpb.2 t _ e rfl⟩
  with_unfolding_all change jR _ _ _ _ _ _ _ (U'.put N (.frame (frL si np)))
  generalize (U'.put N (.frame (frL si np)))=τ4 at m4 s4 g4 e4 ⊢
  obtain ⟨Z,hZ⟩:∃Z,τ4.length=Z:=⟨_,rfl⟩
  repeat k_lt zT
  haveI hpy:([AVal.str "order",.str "order"]:List AVal).all fM=true:=by decide +kernel
  refine gG (at_app_r (j:=0) hZ rfl) (at_app_r (j:=1) hZ rfl) hpy ?_
  repeat k_lt zT
  refine TSs_nil ?_
  exact ⟨s4.app,at_app_l m4,g4.app,e4.choose,at_app_l e4.choose_spec⟩
end
section
variable {fa:Addr}
variable {U:Store}{t N si:Nat}{Q:ai->Store->Prop}
theorem TabOk.other {U':Store}{u:Nat}{P P':Addr}{q q':Str}(h:TabOk U t P q)(hu:TabOk U u P' q')(hP:P≠P')(k:∀j x,j≠u->(∃es,x=.tab P es)∨(∃q,x=.code q)->U.at j=some x->U'.at j=some x):TabOk U' t P q:=h.keep λj x hx e=>k j x (by
 rintro rfl
 obtain ⟨es,e1,_⟩:=hu
 rw [e1] at e;cases e
 rcases hx with ⟨_,hx⟩ | ⟨_,hx⟩
 ·injection hx with hx;exact hP hx.symm
 ·cases hx) hx e
theorem la_tail {P:SP}(hd:8<P.d)(hf:P.free=true){H H':Store}{B np wp p:Nat}{rs:List Rule}{S:Sr}{R:List Str}(hok:∀r∈rs,r.Ok)(hrl:rs.length<=8)(hm:H.at N=some (.frame (frL si np)))(h:LSo rs B S.s S H')(hS:Srt H {S with rdy:=some (p,R)})(hpB:B<=p)(hR:R=ay S.ns)(c5:H.at (N+5)=some (.cell (some (.loc S.s))))(c3:H.at (N+3)=some (.cell (some (.loc wp))))(hT:TabOk H t 250 dh)(htB:t<N)(hBl:B<=H.length)(hnp:H.at np=some (.list (nm.map .str)))(hnpB:np<B)(hw:eo H B wp rs)(hwpB:wp<B)(hNB:N<B){X:XP}(q:∀τ,(∀i x,i<N->i≠t->isX x=false->H.at i=some x->τ.at i=some x)->(∃es,τ.at t=some (.tab 250 es))->Q (.ret (.bool true)) τ) :
  TSs C0 P (bS fa N) (bd258.drop 11) Q X H:=by
 have hm':=hm
 unfold frL at hm'
 refine TSs_cons' ?_
 repeat k_lt zT
 have ne:∀{i l},H.at i=some (.list l)->i≠N:=λe q=>by rw [q,hm] at e;cases e
 haveI np1:¬Sr.places {S with rdy:=some (p,R)} N:=hS.out hm rfl
 haveI hpl:∀j,Sr.places {S with rdy:=some (p,R)} j->B<=j:=λj hj=>((nD (S:=S) (po:=S.po) (nf:=S.nf) hpB).places j hj).elim (h.pl j) id
 haveI hw':eo (H.gone N) B wp rs:=by
  obtain ⟨ws,w1,w2,w3,w4⟩:=hw
  refine ⟨ws,at_gone_ne (ne w1) w1,w2,w3,λq hq=>?_⟩
  obtain ⟨w,e1,e2⟩:=w4 q hq
  exact ⟨w,e1,at_gone_ne (ne e2) e2⟩
 subst hR
 refine TCall.of hm (TC.mono (sp_run (P:=P) (by omega) hf (H.gone N) {S with rdy:=some (p,ay S.ns)} (B:=B) (t:=t) hok hrl (hS.gone np1) h.ep rfl h.po h.nf (RunP.start h.core) hpl (by omega) (by rw [Store.gone_length];exact hBl) hnpB (hT.gone hm (.inl ⟨_,rfl⟩)) (at_gone_ne (ne hnp) hnp) hw' hwpB (X:=noX)) ?_ λω ω x=>x.elim)
 rintro a U' _ ⟨rfl,f1,es,f2⟩
 exact q _ (λi x hi hn hx e=>at_put_ne (by show i≠N;omega) (f1 i x (by omega) hn hx (at_gone_ne (by omega) e))) ⟨es,at_put_ne (by show t≠N;omega) f2⟩
theorem sp_law {P:SP}(hd:8<P.d)(hf:P.free=true){t1 t2 t3:Nat}{ob:Obj}{xs:List Int}(hN:U.length=N)(hs:U.at si=some (.listS ob (xs.map .int)))(hxl:xs.length<=63)(hT1:TabOk U t1 250 dh)(hT2:TabOk U t2 207 ev)(hT3:TabOk U t3 255 pO){X:XP}(q:∀τ,τ.at si=some (.listS ob (xs.map .int))->(∃es,τ.at t1=some (.tab 250 es))->(∃es,τ.at t2=some (.tab 207 es))->(∃es,τ.at t3=some (.tab 255 es))->Q (.ret (.bool true)) τ) :
  TSs C0 P (bS fa N) bd258 Q X (U++[some (.frame [("script",.loc si)]),some (.cell none),some (.cell none),some (.cell none),some (.cell none),some (.cell none)]):=by
 have tl:∀{t P q},TabOk U t P q->t<N:=λh=>by obtain ⟨es,e,_⟩:=h;rw [←hN];exact Store.at_lt e
 have l1:=tl hT1
 have l2:=tl hT2
 have l3:=tl hT3
 refine la_head (by omega) hf hN hs hxl ?_
 intro H rp np dp g0 lr ln ld fr c1 hrp hnp c2 hR c3 c4 c5
 have hZ:=Store.at_lt c5
 replace hT1:=hT1.grow g0
 replace hT2:=hT2.grow g0
 replace hT3:=hT3.grow g0
 have lsi:si<N:=by rw [←hN];exact Store.at_lt hs
 have hs0:=g0.at hs
 have hok:=n6 (xs.take 3)
 have hrl:(b8 (xs.take 3)).length<=8:=by
  unfold b8 fixedR
  rw [List.length_append,List.length_map,List.length_take]
  show 5+_<=8
  omega
 have hfix:∃l,b8 (xs.take 3)=fixedR++l:=⟨_,rfl⟩
 generalize b8 (xs.take 3)=rs at hR hok hrl hfix
 clear hs hN g0
 generalize xs.map AVal.int=lx at hs0 q
 with_unfolding_all refine aF _ (la_deep (P:=P) (by omega) hf hrl hok fr c1 hrp c2 hR c3 (by omega) lr ld hZ) ?_
 rintro H1 ⟨wp,ws,lw,b3,hw,hwl,hwN,hwq,hle,k⟩
 replace fr:=k N _ (by omega) fr
 replace hnp:=k np _ (by omega) hnp
 replace c2:=k _ _ (by omega) c2
 replace hR:=hR.keep (U':=H1) λj x ω hx e=>k j x (by rintro rfl;rw [c3] at e;cases e;cases hx) e
 have kt:∀j x P,((∃es,x=AObj.tab P es)∨∃q,x=.code q)->H.at j=some x->H1.at j=some x:=λj x P hx e=>k j x (by rintro rfl;rw [c3] at e;cases e;rcases hx with ⟨_,hx⟩ | ⟨_,hx⟩ <;> cases hx) e
 replace hT1:=hT1.keep (kt · · _)
 replace hT2:=hT2.keep (kt · · _)
 replace hT3:=hT3.keep (kt · · _)
 replace c4:=k _ _ (by omega) c4
 replace c5:=k _ _ (by omega) c5
 replace hs0:=k _ _ (by omega) hs0
 replace hZ:=Store.at_lt c5
 clear hrp c1 c3 k kt hle
 with_unfolding_all refine aF _ (tX (P:=P) (rs:=rs) fr c4 hZ) ?_
 rintro H2 ⟨cp0,lc0,fr2,c42,hc0,off2⟩
 have tr:∀{a b:Store},LOff N a b->∀{i x},a.at i=some x->N<i->i≠N+4->b.at i=some x:=by
  intro a b o i x e h1 h2
  exact o.at e (by omega) h2
 have wq:∀{a b:Store},LOff N a b->(∀q,q<7->∃w,ws[q]? = some w/\a.at w=some (.list (ak (aU rs q))))->∀q,q<7->∃w,ws[q]? = some w/\b.at w=some (.list (ak (aU rs q))):=λo h q hq=>by
  obtain ⟨w,e1,e2⟩:=h q hq
  have:=hwN w (List.mem_of_getElem? e1)
  exact ⟨w,e1,tr o e2 (by omega) (by omega)⟩
 with_unfolding_all refine aF _ (la_come (P:=P) (rs:=rs) hf fr2 (tr off2 b3 (by omega) (by omega)) (tr off2 hw (by omega) (by omega)) lw hwN (wq off2 hwq) c42 hc0 lc0 (Nat.lt_of_lt_of_le hZ off2.1)) ?_
 rintro H3' ⟨cp,lc,frh,c43',hcp',off3⟩
 refine TM.weakTo frh ?_
 obtain ⟨m3,hm3,_⟩:=frh
 have off:LOff N H1 (H3'.put N (.frame (frL si np))):=off2.trans (off3.put (.inl rfl))
 have fr3:(H3'.put N (.frame (frL si np))).at N=some (.frame (frL si np)):=at_put_eq hm3
 have c43:(H3'.put N (.frame (frL si np))).at (N+4)=some (.cell (some (.loc cp))):=at_put_ne (by omega) c43'
 have hcp:(H3'.put N (.frame (frL si np))).at cp=some (.list (ak (aG rs 7))):=at_put_ne (by omega) hcp'
 generalize (H3'.put N (.frame (frL si np)))=H3 at off fr3 c43 hcp ⊢
 clear off2 off3 hm3 c43' hcp' c42 hc0 fr2
 replace hnp:=tr off hnp (by omega) (by omega)
 replace c2:=tr off c2 (by omega) (by omega)
 replace b3:=tr off b3 (by omega) (by omega)
 replace hw:=tr off hw (by omega) (by omega)
 replace hwq:=wq off hwq
 replace hR:=hR.keep (U':=H3) λj x ω hx e=>off.at e (by rintro rfl;rw [fr] at e;cases e;cases hx) (by rintro rfl;rw [c4] at e;cases e;cases hx)
 have kt:∀j x P,((∃es,x=AObj.tab P es)∨∃q,x=.code q)->H1.at j=some x->H3.at j=some x:=λj x P hx e=>off.at e (by rintro rfl;rw [fr] at e;cases e;rcases hx with ⟨_,hx⟩ | ⟨_,hx⟩ <;> cases hx) (by rintro rfl;rw [c4] at e;cases e;rcases hx with ⟨_,hx⟩ | ⟨_,hx⟩ <;> cases hx)
 replace hT1:=hT1.keep (kt · · _)
 replace hT2:=hT2.keep (kt · · _)
 replace hT3:=hT3.keep (kt · · _)
 replace c5:=tr off c5 (by omega) (by omega)
 replace hs0:=off.at hs0 (by omega) (by omega)
 replace hZ:=Store.at_lt c5
 clear tr wq kt off c4 fr
 obtain ⟨B,hB⟩:∃B,H3.length=B:=⟨_,rfl⟩
 rw [hB] at hZ
 with_unfolding_all refine aF _ (la_made (P:=P) hd hf fr3 c2 c5 hR hok hfix hrl hnp hT2 l2) ?_
 rintro H4 ⟨S,h4,hr4,c54,fr4,st,es2,x2⟩
 replace hs0:=st.2 _ _ (by omega) (by omega) (by rintro rfl;obtain ⟨es,h,_⟩:=hT2;rw [hs0] at h;cases h) rfl hs0
 rw [hB] at h4
 have hcpB:=Store.at_lt hcp
 have hnpB:=Store.at_lt hnp
 have hwpB:=Store.at_lt hw
 have hne2:∀{i l},H3.at i=some (.list l)->i≠t2:=λe q=>by obtain ⟨es,h,_⟩:=hT2;rw [q,h] at e;cases e
 have hlw:eo H4 B wp rs:=by
  refine ⟨ws,st.2 _ _ (by omega) (by omega) (hne2 hw) rfl hw,hwl,λw hw1=>?_,λq hq=>?_⟩
  ·obtain ⟨q,hq⟩:=List.getElem?_of_mem hw1
   have hq7:=(List.getElem?_eq_some_iff.mp hq).1
   obtain ⟨w',e1,e2⟩:=hwq q (by omega)
   rw [hq] at e1;cases e1
   have:=Store.at_lt e2
   omega
  ·obtain ⟨w,e1,e2⟩:=hwq q hq
   have:=hwN w (List.mem_of_getElem? e1)
   exact ⟨w,e1,st.2 _ _ (by omega) (by omega) (hne2 e2) rfl e2⟩
 have hcp4:=st.2 _ _ (by omega) (by omega) (hne2 hcp) rfl hcp
 have hnp4:=st.2 _ _ (by omega) (by omega) (hne2 hnp) rfl hnp
 have c44:=st.2 _ _ (by omega) (by omega) (by omega) rfl c43
 have c34:=st.2 _ _ (by omega) (by omega) (by omega) rfl b3
 have kt:∀j x P,j≠t2->((∃es,x=AObj.tab P es)∨∃q,x=.code q)->H3.at j=some x->H4.at j=some x:=λj x P hj hx e=>st.2 j x (by rintro rfl;rw [fr3] at e;cases e;rcases hx with ⟨_,hx⟩ | ⟨_,hx⟩ <;> cases hx) (by rintro rfl;rw [c5] at e;cases e;rcases hx with ⟨_,hx⟩ | ⟨_,hx⟩ <;> cases hx) hj (by rcases hx with ⟨_,rfl⟩ | ⟨_,rfl⟩ <;> rfl) e
 have hT14:=hT1.other hT2 (by decide) (kt · · _)
 have hT34:=hT3.other hT2 (by decide) (kt · · _)
 have hl4:B<=H4.length:=by rw [←hB];exact st.1
 clear kt hT1 hT2 hT3 b3 c43 hnp hcp hw hwq hR c2 c5 fr3
 with_unfolding_all refine aF _ (la_ask (P:=P) (by omega) hf hok hrl fr4 h4 hr4 c54 c44 hcp4 (by omega) hZ) ?_
 rintro H5 ⟨p,s5,k5,hp5⟩
 have kc:∀{i x},H4.at i=some x->(i<B)->isX x=false->H5.at i=some x:=λe hi hx=>k5.2 _ _ (λq=>by have:=h4.pl _ q.places;omega) hx e
 have kt:∀j x P,((∃es,x=AObj.tab P es)∨∃q,x=.code q)->H4.at j=some x->H5.at j=some x:=λj x P hx e=>by rcases hx with ⟨_,rfl⟩ | ⟨_,rfl⟩ <;> exact k5.frame h4.srt e
 have fr5:=kc fr4 (by omega) rfl
 replace hs0:=kc hs0 (by omega) rfl
 replace x2:=kc x2 (by omega) rfl
 have c55:=kc c54 (by omega) rfl
 have hT15:=hT14.keep (kt · · _)
 have hT35:=hT34.keep (kt · · _)
 have hnp5:=kc hnp4 (by omega) rfl
 have c35:=kc c34 (by omega) rfl
 have hlw5:eo H5 B wp rs:=by
  obtain ⟨ws,w1,w2,w3,w4⟩:=hlw
  refine ⟨ws,kc w1 (by omega) rfl,w2,w3,λq hq=>?_⟩
  obtain ⟨w,e1,e2⟩:=w4 q hq
  exact ⟨w,e1,kc e2 (w3 w (List.mem_of_getElem? e1)) rfl⟩
 have hl5:B<=H5.length:=Nat.le_trans hl4 k5.1
 clear kc kt hlw hcp4 hnp4 c44 c34 hT14 hT34 fr4 c54
 with_unfolding_all refine aF _ (la_ask2 (P:=P) (by omega) hf fr5 s5 rfl c55 hT35 l3) ?_
 rintro H6 ⟨s6,fr6,k6,es3,x3⟩
 replace hs0:=k6.at hs0 (by omega) (by rintro rfl;obtain ⟨es,h,_⟩:=hT35;rw [hs0] at h;cases h)
 replace x2:=k6.at x2 (by omega) (by rintro rfl;obtain ⟨es,h,_⟩:=hT35;rw [x2] at h;cases h)
 have hne3:∀{i l},H5.at i=some (.list l)->i≠t3:=λe q=>by obtain ⟨es,h,_⟩:=hT35;rw [q,h] at e;cases e
 have hlw6:eo H6 B wp rs:=by
  obtain ⟨ws',w1,w2,w3,w4⟩:=hlw5
  have ne:∀{i l},H5.at i=some (.list l)->i≠N:=λe q=>by rw [q,fr5] at e;cases e
  refine ⟨ws',k6.at w1 (ne w1) (hne3 w1),w2,w3,λq hq=>?_⟩
  obtain ⟨w,e1,e2⟩:=w4 q hq
  exact ⟨w,e1,k6.at e2 (ne e2) (hne3 e2)⟩
 have hT16:=hT15.other hT35 (by decide) λj x hj hx e=>k6.2 j x (by rintro rfl;rw [fr5] at e;cases e;rcases hx with ⟨_,hx⟩ | ⟨_,hx⟩ <;> cases hx) hj (by rcases hx with ⟨_,rfl⟩ | ⟨_,rfl⟩ <;> rfl) e
 refine la_tail (P:=P) hd hf hok hrl fr6 h4 s6 (by omega) rfl (k6.at c55 (by omega) (by omega)) (k6.at c35 (by omega) (by omega)) hT16 l1 (Nat.le_trans hl5 k6.1) (k6.at hnp5 (by omega) (hne3 hnp5)) (by omega) hlw6 (by omega) (by omega) λτ low x1=>?_
 have n1:∀{i x},H6.at i=some x->(∀es,x≠.tab 250 es)->i≠t1:=λe h q=>by
  obtain ⟨es,h',_⟩:=hT16
  rw [q,h'] at e;cases e
  exact h _ rfl
 refine q τ (low _ _ (by omega) (n1 hs0 (λω h=>by cases h)) rfl hs0) x1 ⟨es2,low _ _ (by omega) (n1 x2 (λω h=>by cases h)) rfl x2⟩ ⟨es3,low _ _ (by omega) (n1 x3 (λω h=>by cases h)) rfl x3⟩
end
section
variable {G:Heap}
set_option tactic.hygienic true
noncomputable def noList (K:Frag):Bool:=K.all λp=>match p.2.cls with
 | .type n=>!(n == "list")
 | _=>true
theorem mK (P:Params):noList (hd.heap_1 P)=true:=by k_lt u
noncomputable def n8 (a L:Addr):Nat->Addr
 | 0=>250
 | 1=>207
 | 2=>255
 | 3=>a
 | k+4=>L+k
noncomputable def sto0 (ob:Obj)(xs:List Int):Store:=[some (.tab 250 []),some (.tab 207 []),some (.tab 255 []),some (.listS ob (xs.map .int))]
noncomputable def sto1 (ob:Obj)(xs:List Int):Store:=sto0 ob xs++[some (.frame [("script",.loc 3)]),some (.cell none),some (.cell none),some (.cell none),some (.cell none),some (.cell none)]
theorem ints_vr {V:Nat->Addr}{n:Nat}:∀{vs:List Value} {xs:List Int},IntsAre vs xs->VRs V n (xs.map .int) vs:=by
 intro vs xs h
 induction h with
 | nil=>exact .nil
 | cons=>
  rename_i ih
  exact .cons ⟨_,rfl⟩ ih
theorem eR {a b:Addr}{o:Obj}(e:G.get? b=some o)(h:b≠a):(G.hide a).get? b=some o:=(Heap.hide_ne G h).trans e
theorem wp_hide {α:Type}{M:Model}{A:Around}{t:Sem α}{Q:α->Shared->Prop}{Ex:Value->Shared->Prop}{s:Shared}(h:∀Q':α->Shared->Prop,(∀{r s'},Q r s'->Q' r s')->wpAny M A t Q' Ex s):wpAny M A t Q Ex s:=h Q λh=>h
theorem entry {p:Program}{w:World}{h₁:Heap}{a fa L tk:Nat}{os:OsState}{drawn:Drawn}{gens:Array GenState}{vs:List Value}{xs:List Int}{mean:ExcName->Option Value}{mg mb m:Str->Option Value}{o0 o1 o2 o3 o4:Obj}
  (hX:(hd.heap_1 w.params).In G) (hT:Top topProg tS mean mg mb G) (hc1:CodeHd G 252 250) (hc2:CodeHd G 211 207) (hc3:CodeHd G 257 255) (hl:G.IsList a vs.toArray) (hI:IntsAre vs xs) (hxl:xs.length<=63)
  (hF:Fr G L h₁ m) (hm:m "script" = some (.ref a)) (hN:News G L h₁ [(L+1+1+1+1+1,o4),(L+1+1+1+1,o3),(L+1+1+1,o2),(L+1+1,o1),(L+1,o0),(250,tabObj #[]),(207,tabObj #[]),(255,tabObj #[])])
  (d0:o0.data=.cell none) (d1:o1.data=.cell none) (d2:o2.data=.cell none) (d3:o3.data=.cell none) (d4:o4.data=.cell none) (hL:255<L) (hgens:gens = #[]) :
  wpAny (model p w) (callerA.deeper ((bS fa 4).conc (n8 a L))) (execs bd258 ((bS fa 4).conc (n8 a L)))
   (λf s'=>f=.ret (.bool true)/\(∀b o,G.get? b=some o->s'.heap.get? b=some o)/\s'.os=os/\s'.gens = #[]/\GrownAll [(252,250),(211,207),(257,255)] s'.heap) (λω ω=>False)
   {heap:=h₁,gens:=gens,drawn:=drawn,toks:=tk,os:=os}:=by
 subst hgens
 refine wp_hide λQ' q'=>?_
 obtain ⟨ob,lo,lc,ep,ld⟩:=hl
 have ga:h₁.get? a=some ob:=hF.keep _ _ lo
 have gL:∃o es ep,h₁.get? L=some o/\o.data=.dict es ep/\StrKeys es/\∀name,nsFind es name=m name:=hF.ns
 have n4:=hN _ (.head _)
 have n3:=hN _ (.tail _ (.head _))
 have n2:=hN _ (.tail _ (.tail _ (.head _)))
 have n1:=hN _ (.tail _ (.tail _ (.tail _ (.head _))))
 have n0:=hN _ (.tail _ (.tail _ (.tail _ (.tail _ (.head _)))))
 have t1:=hN _ (.tail _ (.tail _ (.tail _ (.tail _ (.tail _ (.head _))))))
 have t2:=hN _ (.tail _ (.tail _ (.tail _ (.tail _ (.tail _ (.tail _ (.head _)))))))
 have t3:=hN _ (.tail _ (.tail _ (.tail _ (.tail _ (.tail _ (.tail _ (.tail _ (.head _))))))))
 dsimp only at n0 n1 n2 n3 n4 t1 t2 t3
 have gfr:∀{b},L<=b->G.get? b=none:=λ{b} hb=>by
  cases q:G.get? b with
  | none=>rfl
  | some o=>exact absurd (Nat.lt_of_lt_of_le (Heap.lt_size q) (Nat.le_trans hF.above hb)) (Nat.lt_irrefl _)
 have haL:a<L:=Nat.lt_of_lt_of_le (Heap.lt_size lo) hF.above
 have ha1:a≠250:=λe=>by rw [e,t1.2.2] at lo;cases lo
 have ha2:a≠207:=λe=>by rw [e,t2.2.2] at lo;cases lo
 have ha3:a≠255:=λe=>by rw [e,t3.2.2] at lo;cases lo
 let κ:KX:=⟨p,w,callerA.deeper ((bS fa 4).conc (n8 a L)),G.hide a,G.hide a,[],os⟩
 have nsK:∀{b mm},G.Ns b mm->(G.hide a).Ns b mm:=λx=>by
  obtain ⟨o,es,ep',e,hd',r⟩:=x
  exact ⟨o,es,ep',eR e (λq=>by rw [q,lo] at e;cases e;rw [ld] at hd';cases hd'),hd',r⟩
 have cdK:∀{c P},CodeHd G c P->CodeHd (G.hide a) c P:=λx=>by
  obtain ⟨o,vs',file,tf,flags,tg,inF,text,tt,e,hc,r⟩:=x
  exact ⟨o,vs',file,tf,flags,tg,inF,text,tt,eR e (λq=>by rw [q,lo] at e;cases e;rw [lc] at hc;exact absurd hc (by decide)),hc,r⟩
 have ok:κ.Ok C0 ⟨20,true⟩:=by
  refine ⟨C0_ok,λb o e=>e,λb hb=>(by cases hb),?_,⟨mg,mb,nsK hT.g,nsK hT.b,?_,hT.builtins,hT.free⟩,?_,?_,?_,?_,λω=>rfl,λe he=>(by cases he)⟩
  ·intro b o e
   refine eR (hX b o e) ?_
   rintro rfl
   have e1:=hX _ o e
   rw [lo] at e1;cases e1
   have:=List.all_eq_true.mp (mK w.params) (_,_) (mem_of_lookupK e)
   dsimp only at this
   rw [lc] at this
   exact absurd this (by decide)
  ·obtain ⟨mc,x,r⟩:=hT.nolimit
   exact ⟨mc,nsK x,r⟩
  ·intro q hq
   have hq:q∈[((252:Addr),(250:Addr)),(211,207),(257,255)]:=hq
   rcases List.mem_cons.mp hq with rfl | hq
   ·exact cdK hc1
   rcases List.mem_cons.mp hq with rfl | hq
   ·exact cdK hc2
   rcases List.mem_cons.mp hq with rfl | hq
   ·exact cdK hc3
   ·cases hq
  ·obtain ⟨bm,o,a1,a2,a3,a4,a5,a6⟩:=hT.bmain
   have hne:bm≠mainGlobals:=λq=>by
    obtain ⟨o',es,ep',e1,e2,_⟩:=hT.g
    rw [←q,a3] at e1;cases e1
    rw [a6] at e2;cases e2
   exact ⟨mg,bm,o,nsK hT.g,a1,a2,hne,eR a3 (λq=>by rw [q,lo] at a3;cases a3;exact absurd a4 (by rw [lc];decide)),a4,a5,a6⟩
  ·show 1+claimMargin+1+4 * 20<=600
   decide
  ·show 4+3+40 * 20<=1000
   decide
 have hh:Here (bS fa 4) κ (n8 a L):=⟨_,rfl,rfl,by show ScopeKind.function≠.module;decide,λω=>rfl⟩
 have hv:(bS fa 4).Valid (sto1 ob xs).length:=⟨by show 4<10;decide,by show 4<10;decide,by show ∀q∈([("made",9),("come",8),("deep",7),("drawn",6),("rows_of",5)]:List (Str×Nat)),q.2<10;decide,trivial,trivial⟩
 have hno:∀{b},G.get? b=none->(G.hide a).get? b=none:=λ{b} h=>by
  cases q:(G.hide a).get? b with
  | none=>rfl
  | some o=>rw [Heap.of_hide q] at h;cases h
 have hat:∀{i ao},(sto1 ob xs).at i=some ao->i<10:=λh=>Store.at_lt h
 have hsz:L+5<h₁.objs.size:=Heap.lt_size n4.1
 have st:St κ (n8 a L) (sto1 ob xs) {heap:=h₁,gens:=#[],drawn:=drawn,toks:=tk,os:=os}:=by
  refine ⟨λb o e=>⟨o.slots,hF.keep b o (Heap.of_hide e),λω=>rfl⟩,?_,?_,?_,rfl,rfl,?_,by show 4<=h₁.objs.size;omega⟩
  ·intro i ao hi
   have hi10:=hat hi
   rcases i with _ | _ | _ | _ | _ | _ | _ | _ | _ | _ | i
   ·have hi:some (AObj.tab 250 [])=some ao:=hi
    cases hi
    exact ⟨_,t1.1,#[],rfl,rfl,λω h=>nomatch h⟩
   ·have hi:some (AObj.tab 207 [])=some ao:=hi
    cases hi
    exact ⟨_,t2.1,#[],rfl,rfl,λω h=>nomatch h⟩
   ·have hi:some (AObj.tab 255 [])=some ao:=hi
    cases hi
    exact ⟨_,t3.1,#[],rfl,rfl,λω h=>nomatch h⟩
   ·have hi:some (AObj.listS ob (xs.map .int))=some ao:=hi
    cases hi
    exact ⟨_,ga,rfl,lc,vs,ep,ld,ints_vr hI⟩
   ·have hi:some (AObj.frame [("script",.loc 3)])=some ao:=hi
    cases hi
    obtain ⟨o,es,ep',g1,g2,g3,g4⟩:=gL
    refine ⟨o,g1,es,ep',g2,g3,λx=>?_⟩
    rw [List.lookup_cons]
    cases q:x == "script" with
    | false=>exact trivial
    | true=>
     have q:=eq_of_beq q
     subst q
     rw [g4,hm]
     exact ⟨by show 3<10;decide,rfl⟩
   ·have hi:some (AObj.cell none)=some ao:=hi
    cases hi
    exact ⟨_,n0.1,none,d0,trivial,λω=>rfl⟩
   ·have hi:some (AObj.cell none)=some ao:=hi
    cases hi
    exact ⟨_,n1.1,none,d1,trivial,λω=>rfl⟩
   ·have hi:some (AObj.cell none)=some ao:=hi
    cases hi
    exact ⟨_,n2.1,none,d2,trivial,λω=>rfl⟩
   ·have hi:some (AObj.cell none)=some ao:=hi
    cases hi
    exact ⟨_,n3.1,none,d3,trivial,λω=>rfl⟩
   ·have hi:some (AObj.cell none)=some ao:=hi
    cases hi
    exact ⟨_,n4.1,none,d4,trivial,λω=>rfl⟩
   ·omega
  ·intro i ao hi
   have hi10:=hat hi
   rcases i with _ | _ | _ | _ | i
   ·exact hno t1.2.2
   ·exact hno t2.2.2
   ·exact hno t3.2.2
   ·exact Heap.hide_self G a
   ·exact hno (gfr (Nat.le_add_right _ _))
  ·intro i j x y hi hj e
   rcases i with _ | _ | _ | _ | i <;> rcases j with _ | _ | _ | _ | j <;> dsimp only [n8] at e <;> first | rfl | (change (_:Nat)=(_:Nat) at e;omega)
  ·intro i ao hi
   have hi10:=hat hi
   rcases i with _ | _ | _ | _ | _ | _ | _ | _ | _ | _ | i
   ·have hi:some (AObj.tab 250 [])=some ao:=hi
    cases hi
    exact rfl
   ·have hi:some (AObj.tab 207 [])=some ao:=hi
    cases hi
    exact rfl
   ·have hi:some (AObj.tab 255 [])=some ao:=hi
    cases hi
    exact rfl
   ·have hi:some (AObj.listS ob (xs.map .int))=some ao:=hi
    cases hi
    exact trivial
   ·have hi:some (AObj.frame [("script",.loc 3)])=some ao:=hi
    cases hi
    exact trivial
   iterate 5
    ·have hi:some (AObj.cell none)=some ao:=hi
     cases hi
     exact trivial
   ·omega
 have run:=sp_law (fa:=fa) (P:=⟨20,true⟩) (by decide) rfl (U:=sto0 ob xs) (N:=4) (si:=3) (t1:=0) (t2:=1) (t3:=2) (ob:=ob) (xs:=xs) rfl rfl hxl ⟨[],rfl,λω h=>nomatch h⟩ ⟨[],rfl,λω h=>nomatch h⟩ ⟨[],rfl,λω h=>nomatch h⟩
  (Q:=λf τ=>f=.ret (.bool true)/\τ.at 3=some (.listS ob (xs.map .int))/\(∃es,τ.at 0=some (.tab 250 es))/\(∃es,τ.at 1=some (.tab 207 es))/\∃es,τ.at 2=some (.tab 255 es)) (X:=noX) (λτ h1 h2 h3 h4=>⟨rfl,h1,h2,h3,h4⟩) κ (n8 a L) _ ok hh hv st
 refine wpAny_mono run ?_ ?_
 ·rintro f s' ⟨V',U',ext,hlen,st',b,hfr,rfl,q1,⟨es1,q2⟩,⟨es2,q3⟩,es3,q4⟩
  obtain ⟨v,rfl,rfl⟩:=hfr
  have r3:V' 3=a:=ext 3 (by show 3<10;decide)
  have r0:V' 0=250:=ext 0 (by show 0<10;decide)
  have r1:V' 1=207:=ext 1 (by show 1<10;decide)
  have r2:V' 2=255:=ext 2 (by show 2<10;decide)
  refine q' ⟨rfl,λb o e=>?_,st'.os,st'.bare,?_,?_,?_,trivial⟩
  ·by_cases hb:b=a
   ·subst hb
    rw [lo] at e;cases e
    obtain ⟨o',e1,rfl,_⟩:=st'.obj 3 _ q1
    rw [r3] at e1
    exact e1
   ·obtain ⟨sl,e1,e2⟩:=st'.keep b o (eR e hb)
    rw [e2 (λh=>nomatch h)] at e1
    exact e1
  ·obtain ⟨o',e1,ps,rfl,_⟩:=st'.obj 0 _ q2
   rw [r0] at e1
   exact ⟨ps,e1⟩
  ·obtain ⟨o',e1,ps,rfl,_⟩:=st'.obj 1 _ q3
   rw [r1] at e1
   exact ⟨ps,e1⟩
  ·obtain ⟨o',e1,ps,rfl,_⟩:=st'.obj 2 _ q4
   rw [r2] at e1
   exact ⟨ps,e1⟩
 ·rintro e s' ⟨V',U',_,_,_,i,_,_,h⟩
  exact h.elim
end
end Mine
set_option tactic.hygienic true in
set_option maxRecDepth 100000 in
set_option maxHeartbeats 0 in
theorem PySem.Challenge.cw_in0070_01_holds : PySem.Challenge.rw_in0070_01.Holds := by
 w_on
 refine holds_law Mine.said0 λsaid=>?_
 refine holds_open (q:=Mine.view0) (loose:=Mine.ls) (Xt:=λs=>xlAt Mine.view0 [] s&&recOk (RowW.records PySem.Challenge.rw_in0070_01.row.toRowW) s) (XP:=XL Mine.view0 []) (Yf:=Hook.obs Mine.HK) (Ya:=Hook.val Mine.HK) (YP:=Hook.says Mine.HK) (N:=5828) Mine.left0 (Hook.of Mine.HK) (Hook.keeps Mine.HK) (λs e=>xl_of s (Bool.and_eq_true_iff.mp e).1) XL.keeps (by rfl) (by rfl) (by rfl) (λs e=>recFacts_of (Bool.and_eq_true_iff.mp e).2) (by rfl) (by assumption) (by decide +kernel) ⟨rfl,rfl,rfl,rfl,rfl,by decide +kernel⟩ ?hw ?hc
 case hw=>w_witness2
 delta Mine.HK
 k_go0
 rename_i w s0 s1 mg mb G Y fa o pm doc ho hg X V9 T B TE TW hcd xs hs hlay0 hL hr hl2 as1 as2 a vs as3 hL1 ra w1 r0 hI hr2 hcond1 hcond2 hD h1 tk o4 o3 o2 o1 o0 d4 d3 d2 d1 d0 X0 X1 T1 K1 F1 c1 c2 N1 l0
 have h63:xs.length<=63:=by omega
 have run:=Mine.entry (p:=PySem.Challenge.rw_in0070_01.row.prog) (fa:=fa) (tk:=tk) (os:=s1.os) (drawn:=s1.drawn) X1 T1 c1 c2 codeHd lifted hI h63 F1 rfl N1 (d0.trans rfl) (d1.trans rfl) (d2.trans rfl) (d3.trans rfl) (d4.trans rfl) l0.2.2 hg
 refine wpAny_mono (by with_unfolding_all exact run) ?_ λω ω h=>False.elim h
 rintro f s' ⟨rfl,hk,hos,hgs,hgr⟩
 refine ⟨⟨.inl ⟨.bool true,.bool true,[],rfl,raisesW_false (by wrow_none_raised),.bool true,postW_of rfl rfl (by decide +kernel),unshared_nil⟩,hk,hos,hgs⟩,hgr⟩
