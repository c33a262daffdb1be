import PyProof.Rows.All
import Wide.All
import OpenK.AllK
import Wide.FinOn
import KE.KNest
import KE.KRevIter
import KE.IntBitsLaws
import KE.BitLaws
import PySem.Sre
import Lean
import PySem.Challenge.RW_uk0023_01
set_option Elab.async false
set_option maxRecDepth 100000
set_option maxHeartbeats 0
set_option linter.all false
set_option maxErrors 1000
set_option genInjectivity false
set_option genSizeOf false
set_option genCtorIdx false
set_option backward.match.sparseCases false
set_option bootstrap.genMatcherCode false
set_option tactic.hygienic false
namespace Internal
universe u1 u2 u3 u4 u5 u6 u7 u8
theorem X0_2 {p1 p2:Prop} {G:Prop} (h:p1∧p2) (f:p1→p2→G):G:=f h.1 h.2
theorem X1_1 {a1:Sort u1} {p1:a1→Prop} {G:Prop} (h: ∃x1,p1 x1) (f: ∀x1,p1 x1→G):G:=h.elim fun x1 h=>f x1 h
theorem X0_3 {p1 p2 p3:Prop} {G:Prop} (h:p1∧p2∧p3) (f:p1→p2→p3→G):G:=f h.1 h.2.1 h.2.2
theorem X1_2 {a1:Sort u1} {p1 p2:a1→Prop} {G:Prop} (h: ∃x1,p1 x1∧p2 x1) (f: ∀x1,p1 x1→p2 x1→G):G:=h.elim fun x1 h=>f x1 h.1 h.2
theorem X2_1 {a1:Sort u1} {a2:Sort u2} {p1:a1→a2→Prop} {G:Prop} (h: ∃x1,∃x2,p1 x1 x2) (f: ∀x1 x2,p1 x1 x2→G):G:=h.elim fun x1 h=>h.elim fun x2 h=>f x1 x2 h
theorem X0_4 {p1 p2 p3 p4:Prop} {G:Prop} (h:p1∧p2∧p3∧p4) (f:p1→p2→p3→p4→G):G:=f h.1 h.2.1 h.2.2.1 h.2.2.2
theorem X1_3 {a1:Sort u1} {p1 p2 p3:a1→Prop} {G:Prop} (h: ∃x1,p1 x1∧p2 x1∧p3 x1) (f: ∀x1,p1 x1→p2 x1→p3 x1→G):G:=h.elim fun x1 h=>f x1 h.1 h.2.1 h.2.2
theorem X2_2 {a1:Sort u1} {a2:Sort u2} {p1 p2:a1→a2→Prop} {G:Prop} (h: ∃x1,∃x2,p1 x1 x2∧p2 x1 x2) (f: ∀x1 x2,p1 x1 x2→p2 x1 x2→G):G:=h.elim fun x1 h=>h.elim fun x2 h=>f x1 x2 h.1 h.2
theorem X3_1 {a1:Sort u1} {a2:Sort u2} {a3:Sort u3} {p1:a1→a2→a3→Prop} {G:Prop} (h: ∃x1,∃x2,∃x3,p1 x1 x2 x3) (f: ∀x1 x2 x3,p1 x1 x2 x3→G):G:=h.elim fun x1 h=>h.elim fun x2 h=>h.elim fun x3 h=>f x1 x2 x3 h
theorem X0_5 {p1 p2 p3 p4 p5:Prop} {G:Prop} (h:p1∧p2∧p3∧p4∧p5) (f:p1→p2→p3→p4→p5→G):G:=f h.1 h.2.1 h.2.2.1 h.2.2.2.1 h.2.2.2.2
theorem X1_4 {a1:Sort u1} {p1 p2 p3 p4:a1→Prop} {G:Prop} (h: ∃x1,p1 x1∧p2 x1∧p3 x1∧p4 x1) (f: ∀x1,p1 x1→p2 x1→p3 x1→p4 x1→G):G:=h.elim fun x1 h=>f x1 h.1 h.2.1 h.2.2.1 h.2.2.2
theorem X2_3 {a1:Sort u1} {a2:Sort u2} {p1 p2 p3:a1→a2→Prop} {G:Prop} (h: ∃x1,∃x2,p1 x1 x2∧p2 x1 x2∧p3 x1 x2) (f: ∀x1 x2,p1 x1 x2→p2 x1 x2→p3 x1 x2→G):G:=h.elim fun x1 h=>h.elim fun x2 h=>f x1 x2 h.1 h.2.1 h.2.2
theorem X3_2 {a1:Sort u1} {a2:Sort u2} {a3:Sort u3} {p1 p2:a1→a2→a3→Prop} {G:Prop} (h: ∃x1,∃x2,∃x3,p1 x1 x2 x3∧p2 x1 x2 x3) (f: ∀x1 x2 x3,p1 x1 x2 x3→p2 x1 x2 x3→G):G:=h.elim fun x1 h=>h.elim fun x2 h=>h.elim fun x3 h=>f x1 x2 x3 h.1 h.2
theorem X4_1 {a1:Sort u1} {a2:Sort u2} {a3:Sort u3} {a4:Sort u4} {p1:a1→a2→a3→a4→Prop} {G:Prop} (h: ∃x1,∃x2,∃x3,∃x4,p1 x1 x2 x3 x4) (f: ∀x1 x2 x3 x4,p1 x1 x2 x3 x4→G):G:=h.elim fun x1 h=>h.elim fun x2 h=>h.elim fun x3 h=>h.elim fun x4 h=>f x1 x2 x3 x4 h
theorem X0_6 {p1 p2 p3 p4 p5 p6:Prop} {G:Prop} (h:p1∧p2∧p3∧p4∧p5∧p6) (f:p1→p2→p3→p4→p5→p6→G):G:=f h.1 h.2.1 h.2.2.1 h.2.2.2.1 h.2.2.2.2.1 h.2.2.2.2.2
theorem X2_4 {a1:Sort u1} {a2:Sort u2} {p1 p2 p3 p4:a1→a2→Prop} {G:Prop} (h: ∃x1,∃x2,p1 x1 x2∧p2 x1 x2∧p3 x1 x2∧p4 x1 x2) (f: ∀x1 x2,p1 x1 x2→p2 x1 x2→p3 x1 x2→p4 x1 x2→G):G:=h.elim fun x1 h=>h.elim fun x2 h=>f x1 x2 h.1 h.2.1 h.2.2.1 h.2.2.2
theorem X3_3 {a1:Sort u1} {a2:Sort u2} {a3:Sort u3} {p1 p2 p3:a1→a2→a3→Prop} {G:Prop} (h: ∃x1,∃x2,∃x3,p1 x1 x2 x3∧p2 x1 x2 x3∧p3 x1 x2 x3) (f: ∀x1 x2 x3,p1 x1 x2 x3→p2 x1 x2 x3→p3 x1 x2 x3→G):G:=h.elim fun x1 h=>h.elim fun x2 h=>h.elim fun x3 h=>f x1 x2 x3 h.1 h.2.1 h.2.2
theorem X5_1 {a1:Sort u1} {a2:Sort u2} {a3:Sort u3} {a4:Sort u4} {a5:Sort u5} {p1:a1→a2→a3→a4→a5→Prop} {G:Prop} (h: ∃x1,∃x2,∃x3,∃x4,∃x5,p1 x1 x2 x3 x4 x5) (f: ∀x1 x2 x3 x4 x5,p1 x1 x2 x3 x4 x5→G):G:=h.elim fun x1 h=>h.elim fun x2 h=>h.elim fun x3 h=>h.elim fun x4 h=>h.elim fun x5 h=>f x1 x2 x3 x4 x5 h
theorem X0_7 {p1 p2 p3 p4 p5 p6 p7:Prop} {G:Prop} (h:p1∧p2∧p3∧p4∧p5∧p6∧p7) (f:p1→p2→p3→p4→p5→p6→p7→G):G:=f h.1 h.2.1 h.2.2.1 h.2.2.2.1 h.2.2.2.2.1 h.2.2.2.2.2.1 h.2.2.2.2.2.2
theorem X1_6 {a1:Sort u1} {p1 p2 p3 p4 p5 p6:a1→Prop} {G:Prop} (h: ∃x1,p1 x1∧p2 x1∧p3 x1∧p4 x1∧p5 x1∧p6 x1) (f: ∀x1,p1 x1→p2 x1→p3 x1→p4 x1→p5 x1→p6 x1→G):G:=h.elim fun x1 h=>f x1 h.1 h.2.1 h.2.2.1 h.2.2.2.1 h.2.2.2.2.1 h.2.2.2.2.2
theorem X2_5 {a1:Sort u1} {a2:Sort u2} {p1 p2 p3 p4 p5:a1→a2→Prop} {G:Prop} (h: ∃x1,∃x2,p1 x1 x2∧p2 x1 x2∧p3 x1 x2∧p4 x1 x2∧p5 x1 x2) (f: ∀x1 x2,p1 x1 x2→p2 x1 x2→p3 x1 x2→p4 x1 x2→p5 x1 x2→G):G:=h.elim fun x1 h=>h.elim fun x2 h=>f x1 x2 h.1 h.2.1 h.2.2.1 h.2.2.2.1 h.2.2.2.2
theorem X3_4 {a1:Sort u1} {a2:Sort u2} {a3:Sort u3} {p1 p2 p3 p4:a1→a2→a3→Prop} {G:Prop} (h: ∃x1,∃x2,∃x3,p1 x1 x2 x3∧p2 x1 x2 x3∧p3 x1 x2 x3∧p4 x1 x2 x3) (f: ∀x1 x2 x3,p1 x1 x2 x3→p2 x1 x2 x3→p3 x1 x2 x3→p4 x1 x2 x3→G):G:=h.elim fun x1 h=>h.elim fun x2 h=>h.elim fun x3 h=>f x1 x2 x3 h.1 h.2.1 h.2.2.1 h.2.2.2
theorem X4_3 {a1:Sort u1} {a2:Sort u2} {a3:Sort u3} {a4:Sort u4} {p1 p2 p3:a1→a2→a3→a4→Prop} {G:Prop} (h: ∃x1,∃x2,∃x3,∃x4,p1 x1 x2 x3 x4∧p2 x1 x2 x3 x4∧p3 x1 x2 x3 x4) (f: ∀x1 x2 x3 x4,p1 x1 x2 x3 x4→p2 x1 x2 x3 x4→p3 x1 x2 x3 x4→G):G:=h.elim fun x1 h=>h.elim fun x2 h=>h.elim fun x3 h=>h.elim fun x4 h=>f x1 x2 x3 x4 h.1 h.2.1 h.2.2
theorem X5_2 {a1:Sort u1} {a2:Sort u2} {a3:Sort u3} {a4:Sort u4} {a5:Sort u5} {p1 p2:a1→a2→a3→a4→a5→Prop} {G:Prop} (h: ∃x1,∃x2,∃x3,∃x4,∃x5,p1 x1 x2 x3 x4 x5∧p2 x1 x2 x3 x4 x5) (f: ∀x1 x2 x3 x4 x5,p1 x1 x2 x3 x4 x5→p2 x1 x2 x3 x4 x5→G):G:=h.elim fun x1 h=>h.elim fun x2 h=>h.elim fun x3 h=>h.elim fun x4 h=>h.elim fun x5 h=>f x1 x2 x3 x4 x5 h.1 h.2
theorem X6_1 {a1:Sort u1} {a2:Sort u2} {a3:Sort u3} {a4:Sort u4} {a5:Sort u5} {a6:Sort u6} {p1:a1→a2→a3→a4→a5→a6→Prop} {G:Prop} (h: ∃x1,∃x2,∃x3,∃x4,∃x5,∃x6,p1 x1 x2 x3 x4 x5 x6) (f: ∀x1 x2 x3 x4 x5 x6,p1 x1 x2 x3 x4 x5 x6→G):G:=h.elim fun x1 h=>h.elim fun x2 h=>h.elim fun x3 h=>h.elim fun x4 h=>h.elim fun x5 h=>h.elim fun x6 h=>f x1 x2 x3 x4 x5 x6 h
theorem X0_8 {p1 p2 p3 p4 p5 p6 p7 p8:Prop} {G:Prop} (h:p1∧p2∧p3∧p4∧p5∧p6∧p7∧p8) (f:p1→p2→p3→p4→p5→p6→p7→p8→G):G:=f h.1 h.2.1 h.2.2.1 h.2.2.2.1 h.2.2.2.2.1 h.2.2.2.2.2.1 h.2.2.2.2.2.2.1 h.2.2.2.2.2.2.2
theorem X2_6 {a1:Sort u1} {a2:Sort u2} {p1 p2 p3 p4 p5 p6:a1→a2→Prop} {G:Prop} (h: ∃x1,∃x2,p1 x1 x2∧p2 x1 x2∧p3 x1 x2∧p4 x1 x2∧p5 x1 x2∧p6 x1 x2) (f: ∀x1 x2,p1 x1 x2→p2 x1 x2→p3 x1 x2→p4 x1 x2→p5 x1 x2→p6 x1 x2→G):G:=h.elim fun x1 h=>h.elim fun x2 h=>f x1 x2 h.1 h.2.1 h.2.2.1 h.2.2.2.1 h.2.2.2.2.1 h.2.2.2.2.2
theorem X3_5 {a1:Sort u1} {a2:Sort u2} {a3:Sort u3} {p1 p2 p3 p4 p5:a1→a2→a3→Prop} {G:Prop} (h: ∃x1,∃x2,∃x3,p1 x1 x2 x3∧p2 x1 x2 x3∧p3 x1 x2 x3∧p4 x1 x2 x3∧p5 x1 x2 x3) (f: ∀x1 x2 x3,p1 x1 x2 x3→p2 x1 x2 x3→p3 x1 x2 x3→p4 x1 x2 x3→p5 x1 x2 x3→G):G:=h.elim fun x1 h=>h.elim fun x2 h=>h.elim fun x3 h=>f x1 x2 x3 h.1 h.2.1 h.2.2.1 h.2.2.2.1 h.2.2.2.2
theorem X4_4 {a1:Sort u1} {a2:Sort u2} {a3:Sort u3} {a4:Sort u4} {p1 p2 p3 p4:a1→a2→a3→a4→Prop} {G:Prop} (h: ∃x1,∃x2,∃x3,∃x4,p1 x1 x2 x3 x4∧p2 x1 x2 x3 x4∧p3 x1 x2 x3 x4∧p4 x1 x2 x3 x4) (f: ∀x1 x2 x3 x4,p1 x1 x2 x3 x4→p2 x1 x2 x3 x4→p3 x1 x2 x3 x4→p4 x1 x2 x3 x4→G):G:=h.elim fun x1 h=>h.elim fun x2 h=>h.elim fun x3 h=>h.elim fun x4 h=>f x1 x2 x3 x4 h.1 h.2.1 h.2.2.1 h.2.2.2
theorem X5_3 {a1:Sort u1} {a2:Sort u2} {a3:Sort u3} {a4:Sort u4} {a5:Sort u5} {p1 p2 p3:a1→a2→a3→a4→a5→Prop} {G:Prop} (h: ∃x1,∃x2,∃x3,∃x4,∃x5,p1 x1 x2 x3 x4 x5∧p2 x1 x2 x3 x4 x5∧p3 x1 x2 x3 x4 x5) (f: ∀x1 x2 x3 x4 x5,p1 x1 x2 x3 x4 x5→p2 x1 x2 x3 x4 x5→p3 x1 x2 x3 x4 x5→G):G:=h.elim fun x1 h=>h.elim fun x2 h=>h.elim fun x3 h=>h.elim fun x4 h=>h.elim fun x5 h=>f x1 x2 x3 x4 x5 h.1 h.2.1 h.2.2
theorem X6_2 {a1:Sort u1} {a2:Sort u2} {a3:Sort u3} {a4:Sort u4} {a5:Sort u5} {a6:Sort u6} {p1 p2:a1→a2→a3→a4→a5→a6→Prop} {G:Prop} (h: ∃x1,∃x2,∃x3,∃x4,∃x5,∃x6,p1 x1 x2 x3 x4 x5 x6∧p2 x1 x2 x3 x4 x5 x6) (f: ∀x1 x2 x3 x4 x5 x6,p1 x1 x2 x3 x4 x5 x6→p2 x1 x2 x3 x4 x5 x6→G):G:=h.elim fun x1 h=>h.elim fun x2 h=>h.elim fun x3 h=>h.elim fun x4 h=>h.elim fun x5 h=>h.elim fun x6 h=>f x1 x2 x3 x4 x5 x6 h.1 h.2
end Internal
namespace Internal
universe u v w1
theorem nosL {α:Prop} {β:Type v} {a:β} (h:none=some a):α:=absurd h.symm (Option.some_ne_none a)
theorem nosR {α:Prop} {β:Type v} {a:β} (h:some a=none):α:=absurd h (Option.some_ne_none a)
theorem nftB {α:Prop} (h:false=true):α:=absurd h Bool.false_ne_true
theorem ntfB {α:Prop} (h:true=false):α:=absurd h.symm Bool.false_ne_true
theorem memN {α:Type w1} {a:α} {p:Prop} (h:a∈[]):p:=(List.not_mem_nil h).elim
theorem someE {β:Type v} {a b:β} {G:Prop} (h:some a=some b) (k:a=b→G):G:=k (Option.some.inj h)
theorem holdE {β:Sort v} {a b:β} {G:Prop} (h:a=b) (k:a=b→G):G:=k h
@[elab_as_elim] theorem rwE {α:Sort w1} {a b:α} {m:α→Prop} (p:m b) (h:a=b):m a:=h▸p
@[elab_as_elim] theorem rwB {α:Sort w1} {a b:α} {m:α→Prop} (p:m a) (h:a=b):m b:=h▸p
end Internal
set_option compiler.extract_closed false
set_option compiler.reuse false
namespace UM
open Lean
abbrev S:=Syntax
def u (l:List S):S:= .node .none nullKind l.toArray
def n (k:String) (l:List S):S:= .node .none (.mkStr4 "Lean" "Parser" "Tactic" k) l.toArray
def r (k:String) (l:List S):S:= .node .none (.str (.mkStr4 "Lean" "Parser" "Tactic" "rcasesPat") k) l.toArray
def e (k:String) (l:List S):S:= .node .none (.mkStr4 "Lean" "Parser" "Term" k) l.toArray
def x:S:= .atom .none ""
def o:S:=u []
def lo (p:S):S:=n "rcasesPatLo" [n "rcasesPatMed" [u [p]],o]
def ob (ps e:S):S:=n "obtain" [x,u [n "rcasesPatMed" [u [r "tuple" [x,ps,x]]]],o,u [x,u [e]]]
def rc (h p:S):S:=n "rcases" [x,u [n "elimTarget" [o,h]],u [x,p]]
def ap (f:S) (l:List S):S:=e "app" [f,u l]
def un (f:String):S:=mkIdent (.mkStr2 "Internal" f)
def rf (e:S):S:=n "refine" [x,e]
def q:S:=e "syntheticHole" [x,x]
def two (a b:S):S:=u [a,b]
def fst (a b:S):S:=n "first" [x,u [u [x,a],u [x,b]]]
def fn (l:List S) (b:S):S:=e "fun" [x,e "basicFun" [u l,o,x,b]]
def tc (k:String) (t:S):S:=n k [x,t]
def by' (t:S):S:=e "byTactic" [x,t]
def sy (s:String) (n:Nat):S:=mkIdent (.mkSimple (s++n.repr))
def kd (s:S):String:=match s.getKind with| .str _ k=>k|_=> ""
def isP (s:S):Bool:=kd s== "anonymousCtor"
def isH (s:S):Bool:=kd s== "syntheticHole"
def fr {α β:Type} (f:α→β→β) (b:β):List α→β
  |[]=>b
  |a::l=>f a (fr f b l)
def pat (s:S):S:=s.rewriteBottomUp fun s=>
  if s.isIdent then lo (r "one" [s])else if kd s== "hole" then lo (r "ignore" [x])else if isP s then lo (r "tuple" s.getArgs.toList)else s
/--the binders of a fun:the patterns become names;what takes them apart-/
def bs (l:List S):List S×S:=fr (fun b (p:List S×S)=>
  if isP b then let h:=sy "p_" p.1.length;(h::p.1,two (ob (pat b)[0][0][0][1] h) p.2)else(b::p.1,p.2)) ([],o) l
/--the binders and the body of a fun with patterns-/
def pf (s:S):Option (List S×S):=
  let l:=s[1][0].getArgs.toList
  if kd s== "fun" &&kd s[1]== "basicFun" &&l.any isP then some (l,s[1][3])else none
def rp:Nat→S→S×S
  |0,s=>(s,o)
  |k+1,s=>
    let h:=(pf s).getD ([],o)
    if isH h.2 then let p:=bs h.1;(fn p.1 h.2,tc "allGoals" (fst p.2 o))else
    match s with
    | .node i n a=>
      let p:=fr (fun c (p:List S×S)=>let d:=rp k c;(d.1::p.1,if d.2.getNumArgs=0 then p.2 else two d.2 p.2)) ([],o) a.toList
      (.node i n p.1.toArray,p.2)
    |s=>(s,o)
def rw1 (s:S):S:=
  let t:=n "rewriteSeq" [x,n "optConfig" [o],n "rwRuleSeq" [x,u [s],x],o]
  if(s[1].find? fun s=>isH s||kd s== "byTactic" ||isP s).isSome then t else
  let l:=un (if s[0].getNumArgs=0 then "rwE" else "rwB")
  let f (e:S):=tc "withReducible" (rf (ap l [q,e]))
  fst (f s[1]) (fst (f (ap s[1] [e "ellipsis" [x]])) t)
def idP (p:S) (n:Nat):S×S:=
  let q:=p[0][0][0]
  let k:=if p[0][0].getNumArgs==1&&p[1].getNumArgs==0 then kd q else ""
  let h:=sy "q_" n
  if k== "one" then
    if q[0].getId== `rfl then(h,UM.n "subst" [x,u [h]])else(q[0],o)
  else if k== "ignore" then(sy "i_" 0,o)
  else if k== "tuple" then(h,ob q[1] h)
  else(h,rc h p)
/--the lemmas with j things in all-/
def obK (e:S) (is:List S) (s:S) (j:Nat) (t:S):S:=
  fr (fun k t=>if k<j then
    let l:=un ("X" ++k.repr++ "_" ++(j-k).repr)
    fst (if e.isIdent then u [rf (ap l [e,q]),fst (n "clear" [x,u [e]]) o,n "intro" [x,u is],s]
      else two (rf (ap l [e,fn is q])) s) t else t) t [6,5,4,3,2,1,0]
def mF:Macro:=fun s=>
  match pf s with
  |some (l,b)=>if(b.find? isH).isSome then Macro.throwUnsupported else
    let p:=bs l
    pure (fn p.1 (by' (two p.2 (tc "exact" b))))
  |none=>Macro.throwUnsupported
def mR:Macro:=fun s=>
  let p:=rp 999 s[1]
  if p.2.getNumArgs=0 then Macro.throwUnsupported else pure (two (rf p.1) p.2)
def cl (s:S):List S:=fr (fun a l=>if a.isAtom then l else a::l) [] s.getArgs.toList
def mO:Macro:=fun s=>
  let ps:=cl s[1][0][0][0][1]
  let m:=ps.length
  if s[1][0][0].getNumArgs !=1||kd s[1][0][0][0] != "tuple" ||s[2].getNumArgs !=0||s[3].getNumArgs !=2||m<2 then Macro.throwUnsupported else
  let e:=s[3][1][0]
  let p:=fr (fun a (p:List S×List S)=>let c:=idP a (m-1-p.1.length);(c.1::p.1,c.2::p.2)) ([],[]) ps
  pure (fr (fun j t=>if m<j then t else
    if j=m then obK e p.1 (u p.2) j t
    else obK e (p.1.take (j-1)++[sy "r_" 0]) (u (p.2.take (j-1)++[ob (u (fr (fun a l=>a::x::l) [] (ps.drop (j-1)))) (sy "r_" 0)])) j t)
    (rc e (lo (r "tuple" [x,s[1][0][0][0][1],x]))) [8,7,6,5,4,3,2])
def mW:Macro:=fun s=>
  if s[3].getNumArgs !=0 then Macro.throwUnsupported else
  pure (fr (fun r t=>two (rw1 r) t) (fst (tc "withReducible" (n "tacticRfl" [x])) o) (cl s[2][1]))
def mC:Macro:=fun s=>
  let h:=s[1][0][1]
  if !h.isIdent||s[1].getNumArgs !=1||s[1][0][0].getNumArgs !=0||s[2].getNumArgs !=0||s[3].getNumArgs !=0 then Macro.throwUnsupported else
  let t:=n "cases" [x,u [n "elimTarget" [o,e "explicit" [x,h]]],o,o]
  let f l t:=fst (rf (ap (un l) [h])) t
  let g l t:=fst (two (rf (ap (un l) [h,fn [h] q])) t)
  pure (f "nosL" (f "nosR" (f "nftB" (f "ntfB" (f "memN" (g "someE" t (g "holdE" t t)))))))
def mS:Macro:=fun s=>pure (rf (e "typeAscription" [e "hygienicLParen" [x,.node .none hygieneInfoKind #[mkIdent .anonymous]],q,x,u [s[1]],x]))
def mN:Macro:=fun s=>if s[1].getNumArgs !=1 then Macro.throwUnsupported else
  pure (by' (n "cases" [x,u [n "elimTarget" [o,s[1][0]]],o,o]))
def z:S→S:=fun s=>s.rewriteBottomUp fun
  | .node _ k a=> .node .none k a
  | .atom _ v=> .atom .none v
  | .ident _ r n p=> .ident .none r n p
  |s=>s
def mD:Macro:=fun s=>if s.getPos?.isNone then Macro.throwUnsupported else
  let s:=z s
  pure (if(kd s[1]== "definition" ||kd s[1]== "abbrev" ||kd s[1]== "instance")&&s[0][4].getNumArgs=0 then s.setArg 0 (s[0].setArg 4 (u [.node .none (.mkStr4 "Lean" "Parser" "Command" "noncomputable") #[.atom .none "noncomputable"]]))else s)
end UM
local macro_rules (kind:=Lean.Parser.Term.fun)
  |s=>UM.mF s
local macro_rules (kind:=Lean.Parser.Tactic.refine)
  |s=>UM.mR s
local macro_rules (kind:=Lean.Parser.Tactic.obtain)
  |s=>UM.mO s
local macro_rules (kind:=Lean.Parser.Tactic.rwSeq)
  |s=>UM.mW s
local macro_rules (kind:=Lean.Parser.Tactic.cases)
  |s=>UM.mC s
local macro_rules (kind:=Lean.Parser.Tactic.show)
  |s=>UM.mS s
local macro_rules (kind:=Lean.Parser.Term.nomatch)
  |s=>UM.mN s
local macro_rules (kind:=Lean.Parser.Command.declaration)
  |s=>UM.mD s
open Option renaming some→H7,none→H9,bind_eq_some_iff→Ho,map_eq_some_iff→HG,bind_eq_bind→IT,isSome_iff_exists→J7,bind_some→Je,map→Lu,bind_assoc→Nk,map_some→NG
open Nat renaming le_trans→H8,lt_of_lt_of_le→Ha,lt_of_le_of_lt→Hk,le_refl→Hm,lt_irrefl→Hr,le_of_eq→Hu,le_add_right→HD,add_le_add→HE,succ_le_succ→HM,le_add_right_of_le→HN,le_of_lt→HP,lt_succ_self→HR,add_right_comm→HS,mul_le_mul→I6,add_assoc→I7,add_sub_of_le→I9,two_pow_pos→Ib,mul_le_mul_left→Ig,le_of_add_right_le→Ii,add_le_add_left→Io,add_comm→Iv,le_of_not_lt→Ix,le_add_left→Iy,ne_of_lt→IB,mul_le_mul_right→IC,mul_comm→ID,zero_le→IH,zero_add→IJ,le_of_lt_succ→IN,pow_le_pow_right→J4,lt_trans→J6,lt_succ_of_le→J8,div_lt_iff_lt_mul→Ja,not_le_of_lt→Jj,add_le_add_right→Jk,le_antisymm→JH,le_of_succ_le_succ→JM,not_lt_of_le→JS,le_of_ble_eq_true→JZ,sub_lt_left_of_lt_add→K2,mul_succ→K7,lt_succ_of_lt→K8,add_sub_cancel_left→Kj,pow_add→Kn,sub_add_cancel→Kp,mod_lt→Kq,lt_or_ge→Kr,sub_eq_zero_of_le→KA,add_mul→KN,lt_of_not_le→KS,add_lt_add_left→KX,succ→L0,div_add_mod→L9,le_of_succ_le→Lm,not_lt→LC,mul_assoc→LF,le_succ→LM,succ_pos→LY,succ_mul→LZ,pow_succ→L_,mul_lt_mul_of_pos_right→M0,min_self→M1,mod_two_eq_zero_or_one→Mc,lt_of_le_of_ne→Md,sub_pos_of_lt→Mm,one_mul→Mn,min_le_right→MI,sub_self→MT,ne_of_gt→MU,min_eq_left→MW,div_lt_of_lt_mul→N7,add_lt_add_right→N8,sub_lt_sub_left→Ng,add_sub_cancel→Nt,succ_add→NA,le_succ_of_le→NB,succ_ne_self→NR,two_mul→N_,mul_add_div→Oi,testBit_mul_two_pow→ON,pow_zero→P3,div_div_eq_div_mul→P4,le_of_add_left_le→Pg,le_add_left_of_le→Ph,sub_le_of_le_add→Po,mul_one→Pp,le_sub_of_add_le→Pq,eq_of_testBit_eq→Pr,add_le_of_le_sub→Ps,sub_le→PW,pos_of_ne_zero→PX,lt_of_lt_of_eq→PY
open Bool renaming false→Hb,true→Hd,and_eq_true_iff→HZ,and_eq_true→H_,false_eq_true→Ie,false_ne_true→J2,or_eq_true→L7,not_eq_true'→Ll,or_eq_true_iff→Nd,or_false→Nj,eq_iff_iff→O6
open PySem.Builtin.Int renaming intBits→Hc
open PySem renaming wpAny_bind→He,Shared→Hh,wpAny_pure→Hi,model→Hj,Value→Hl,Addr→Hw,sizeLine→Hz,Str→HJ,intBits_mul_le→I4,intBits_le_iff→Ia,wpAny_execs_cons→Ih,wpAny→Im,cellsFrom→It,letOwnedTupleGo→Iu,sysModules→IA,mainGlobals→IE,Program→IG,Heap→IL,intKind→IM,Stmt→IR,eval→IY,Around→IZ,wpAny_holding→I_,World→J0,NameKind→J1,standAt→Ji,wpAny_mono→Jl,assignEach→Jm,Pos→Jq,wpAny_of_eq→Jx,swappedStores→JD,seg_execs_nil→JE,seg_execs_cons→JG,strValues→JJ,execs→JK,callEnvC→JR,callEnv→JW,Sem→J_,Fin→J',typeLookup→K1,builtinLookup_eq_fast→K4,assign→K9,wpAny_newObj_type→Ka,FuncData→Ku,call→KG,wpAny_standAt→KI,foldedSetIterable→KO,sizeLine_eq→KV,builtinsNs→KW,holding→KZ,compareOp→K_,pyNext→Lb,starEach→Le,comprehension→Lf,Operator→Lg,typeLookup_type→Lh,wpAny_Call_method_lateS→Lr,seqIndex?→Ls,Arguments→Lx,mainNs→LB,exec_Return_some→LN,exec→LO,call_meets→LP,Flow→LR,swapsWithSole→LU,Comprehension→LW,interactive→LX,GenState→M4,wpAny_updateSeq→Ma,wpAny_specialOf→Mb,assignStores→Mh,pushCells→Ml,wpAny_seqItems→Mr,wpAny_rule→Ms,intKind_is→Mt,bindName→Mu,Scope→Mv,wpAny_field→MJ,evalThenUse→MK,Builtin→MP,pyIter→MQ,behindInMarks→MR,assignInOrder→MS,Env→MY,wpAny_callSpecial?_slot→M',updateSeq→N0,rawInt→N4,qualnameIn→N5,closureFor→N6,leftWithCleanup→Na,importedModules→Nb,unsupported→Np,loadIfAlive→Nr,IntMulOk→Nu,table→NE,plainId_quiet→NF,wpAny_Constant_int→NM,typeIs_str→NN,denote→NP,Result→NQ,Tok→NX,wpAny_pyIter_list→O7,wpAny_dictEntries→O8,valueAt→O9,spliced→Ob,evalArgs→Oc,binaryOp→Oe,Obj→Oh,Model→Oj,CmpOp→Ok,wpAny_call_entry→On,swapsWith→Oo,noteFrame→Oq,fillsInplaceSlot→Os,backTo→Ot,wpAny_fresh→Oz,slot_list_setitem→OA,theTreesLotGoes→OG,codeAny_builtin→OH,wpAny_call→OQ,strKind_is→OR,stored→OS,letTemporaryGo→OT,constantsAlone→OU,callWith→OV,cLine→OW,bindArgs→OX,intBits_neg_le→OZ,intBits_add_le→O_,IsPair→Pa,Seg→Pf,eval→Pm,wpAny_list_append_plain→Pw,seg_again→Px,assignAll→Py,TriplesOk→Pz,wpAny_nextOf_list_item→PK,mergeMapping→PM,getItem→PN,firstIterPos→PO,finish→PP,dictSet→PR,codeAny→PU,JoinOk→Q0
open List renaming length_map→Hf,length_append→Hn,mem_cons→Hp,mem_cons_of_mem→Hq,mem_cons_self→Hs,mem_of_getElem?→Ht,length_cons→Hv,mem_singleton→Hx,replicate→Hy,getElem?_eq_getElem→HB,mem_map→HC,mem_nil_iff→HF,map_cons→HI,size_toArray→HO,getElem?_map→HQ,mem_map_of_mem→HT,map_map→HU,append_assoc→HW,all_eq_true→HX,map_append→HY,length_nil→I0,forall_mem_cons→I5,mem_append→Ik,length_range'→Il,take_of_length_le→Iq,range'→Ir,mem_filter→Iw,take_append_drop→IF,drop_of_length_le→IQ,append_nil→IS,not_mem_nil→IU,lookup_cons→IV,cons_append→J5,nodup_cons→Jc,nil_append→Jd,mem_singleton_self→Jf,filter_cons_of_pos→Jg,filter_cons_of_neg→Jh,flatten_append→Jn,filterMap_cons→Jo,drop_eq_getElem_cons→Js,length_replicate→Jt,getElem?_toArray→Ju,contains_iff_mem→Jv,length_drop→Jy,flatten_cons→JF,map_congr_left→JI,length_take→JP,foldlM_cons→JQ,drop_drop→JU,length_singleton→JY,getElem?_eq_some_iff→K0,forIn_cons→K3,length_reverse→Kc,filter_sublist→Kd,nodup_nil→Kg,getElem_mem→Kh,getElem?_set_self'→Ki,length→Kl,eq_nil_of_length_eq_zero→Km,map_nil→Ko,length_set→Kw,getElem?_eq_none→Ky,nodup_append→KB,map_inj_left→KC,mem_of_mem_drop→KL,drop_zero→KM,getD→KP,take_succ_eq_append_getElem→Li,length_filter_le→Lz,take_append_of_le_length→LI,mem_of_mem_take→LJ,replicate_succ→LQ,range→M6,forIn_nil→M7,contains_cons→M8,getElem?_zip_eq_some→Mg,mem_range'_1→Mi,flatMap_cons→Mj,map_take→Mo,range'_succ→My,map_fst_zip→Mz,getElem?_set_self→MO,getElem?_reverse→MX,take_succ_cons→Nc,map_drop→Nh,any_cons→Ni,zip_cons_cons→Nl,mem_replicate→Nn,getElem_idxOf→No,filter_congr→Nw,mem_reverse→NH,map_reverse→NI,isEmpty_iff→NJ,drop_append→NK,drop_append_of_le_length→NS,of_mem_zip→O1,length_zip→O2,find?_cons→O3,filter_map→O4,getElem?_eq_none_iff→Ou,idxOf_lt_length_iff→OD,getElem_of_getElem?→OE,all_cons→OF,length_eq_zero_iff→OJ,drop_eq_nil_of_le→OO,singleton_append→P9,drop_eq_nil_iff→Pi,contains_eq_mem→Pj,filter_eq_self→Pt,getElem?_drop→PB,forIn_toArray→PC,filter_append→PD,pairwise_map→PZ,contains_nil→P_
open Option.some renaming inj→Hg,injEq→OC
open Int renaming natCast_nonneg→HA,toNat_natCast→I3,fdiv_eq_ediv_of_nonneg→IK,eq_ofNat_of_zero_le→I',fmod_eq_emod_of_nonneg→Jp,natCast_add→Jr,lt_of_le_of_lt→JA,le_of_lt→JN,fmod_nonneg_of_pos→JO,natCast_mul→K6,not_lt_of_ge→Kk,ofNat_lt→Ks,le_trans→Kt,toNat_of_nonneg→KY,natCast_pow→La,fmod_lt_of_pos→Lc,mul_assoc→LK,ofNat_le→M2,add_comm→M3,add_sub_cancel→Me,one_mul→Mp,add_zero→NC,not_le_of_gt→NT,neg_mul→O5,pow_nonneg→Ov,mul_nonneg→Ow,add_assoc→OK,zero_mul→Pb,zero_add→Pc,ediv_eq_zero_of_lt→Pd,add_mul_ediv_right→Pe,natAbs_of_nonneg→Pu,mul_one→Pv,not_lt→Q1
open PySem.Str renaming ofString→HH,length→JX
open PySem.Heap renaming get?_push_size→HL,get?_push_of_some→HV,size_push→I8,SameBut→Iz,lt_size→II,get?_update_self→IX,get?_some_iff→M9,ExtBut→NU
open PySem.Obj renaming mapSeq→Ic,data_mapDictKeys→Pn,isFreed_of_dict→PA
open PySem.NameKind renaming free→Ij,cell→Lo
open Inhabited renaming default→Ip
open PySem.W renaming behindTheImports→IP,tabObj→NO,opening→PL,CodeHd→Q2
open Eq renaming symm→IW,trans→PH
open PySem.Sre renaming Seen→J3,forSearch→LD,Frame→M5,M→MA
open PySem.Builtin renaming divisionGoesByPylong→J9,bitXor→NV,bitAnd→NW
open PySem.Builtin.Str renaming strSliceIndices→Jb,occurrences→Jz,tooLong→KD,strKind→Lv,partsBetween→ND
open PySem.Builtin.SmallTypes renaming ownedTupleIsFree→Jw,nextOf→Lk
open PySem.Heap.SameBut renaming update→JB,refl→Ox
open PySem.W.Fast renaming tw12563942051412417395→JC,tw17772580674575903948→MB,tw17154629097778926822→MC,tw14364793385576792824→MD,tw12822647523644345616→MF,te14364793385576792824→MG,te12563942051412417395→MH,tw1435165496053646825→MM,tw1066825118222455980→MN
open PySem.Sem renaming wp_bind'→JL,wp→Kz,wp_mono→Ld
open PySem.Heap.DictOf renaming mapOf→JT,new→Lp
open PySem.Challenge renaming rw_uk0023_01→JV
open PySem.Txt renaming lstripChars→K5,lower→KR,join→LL
open PySem.Value renaming int→Kb,str→L8,type→Ly,ref→LV,none→Nf,isInt→OY
open Array renaming eq_empty_of_size_eq_zero→Ke,getElem?_eq_some_iff→KH,getElem?_eq_getElem→KQ,length_toList→KT,extract_empty_of_stop_le_start→KU,toList_append→N9,getElem?_eq_none→OM,getElem?_toList→OP,getElem_mem→PJ,toList_inj→Q3
open Nat.succ renaming inj→Kf
open Ne renaming symm→Kv
open List.Sublist renaming map→Kx
open Exists renaming elim→KF
open PySem.F renaming plain_extend_loop→KJ,slot_list_iadd→Mw,slot_list_reverse→NY,entry_extend_loop→NZ,slot_str_getitem→Of,slot_int_rmul→OB
open List.cons renaming inj→Lj
open PySem.End renaming bare_of_quiet→Lq
open PySem.Builtin.List renaming listExtendWith→Lw,listTooLong→Ny,listSameRef→Nz,listItems→NL
open ForInStep renaming yield→LA
open PySem.Sre.M renaming attemptFrom→Mf
open Except renaming ok→Mq
open PySem.StrLaws renaming strSliceIndices_plain→Mx,found_one→Nv
open PySem.Shared renaming asleep_of_life→ML
open PySem.Heap.IsList renaming typeIs→MV
open PySem.Builtin.Re renaming reDrive→MZ,reRunToEnd→Ol,reRawNat→Oy
open PySem.Around renaming under_plainId→M_
open PyProof.Rows renaming Call_Name→N1
open PySem.Stmt renaming Assign→N3
open PySem.Calls renaming spliced_nil→Nq,spliced_cons→Oa,callWith_function→Od,docDef→PQ
open PySem.Builtin.Range renaming rangeSize→Nx
open PUnit renaming unit→Og
open List.Pairwise renaming map→Om
open LawfulMonad renaming pure_bind→Op
open Prod.mk renaming inj→OI
open PySem.Heap.MapOf renaming typeIs→OL
open Lean renaming maxHeartbeats→Pk
open PySem.Walks renaming list→Pl
open PySem.IntMulOk renaming of_le→PF
open Int.ofNat renaming inj→PG
namespace Internal
variable {n d s e:Nat}
theorem EH {f:Nat} (h:n-d<f+1) (h1:d<=s) (h2:s<e) (h3:e<=n):n-e<f:=Ha (Ng (Hk h1 (Ha h2 h3)) (Hk h1 h2)) (IN h)
variable {b:Nat}
theorem wJ (h:s<b):b-s=b-(s+1)+1:=(Kp (Mm h)).symm.trans (congrArg (λn=>n+1) (Nat.sub_sub b s 1))
variable {m:Nat}
theorem H1:n-m+min m n=n:=by
 cases Nat.le_total m n with
 |inl h=>rw [MW h,Kp h]
 |inr h=>rw [Nat.min_eq_right h,KA h,IJ]
variable {h:Nat}
theorem FY (h0:0<n) (e:n+n % 2=2*h):2*h-1=n-1+n % 2:=by rw [<-e,Nat.sub_add_comm h0]
variable {a:Nat}
theorem GW (h1:a+1<=n+4000) (h2:n-1<b+1): ¬b/30+1+150<a/30+1:=λh=>by
 have h3:n<=b+1:=Nat.le_add_of_sub_le (IN h2);have h4:a<=b+4000:=JM (H8 h1 (H8 (Jk h3 4000) (Hu (HS b 1 4000))));have h5:a/30<=(b+4500)/30:=Nat.div_le_div_right (H8 h4 (Io (by decide) b))
 rw [show b+4500=b+30*150 from rfl,Nat.add_mul_div_left b 150 (by decide)]at h5
 exact JS (HM h5) (show b/30+150+1<a/30+1 from HS (b/30) 150 1▸h)
variable {q r:Nat}
theorem H3 (h0:0<n) (e:q+r=b+n-1) (h:r<n):b<=q:=
 IN (Nat.lt_of_add_lt_add_right (n:=n-1) (by
  have:b+(n-1)<q+1+(n-1):=by rw [<-Nat.add_sub_assoc h0,<-e,I7 q 1 (n-1),I9 h0];exact KX h q
  exact this))
theorem FZ {o:Nat} (h:r+1=17):o+1+(0+n+16)/17=o+(r+(n+1)+16)/17:=by rw [<-I7 r n 1,HS r n 1,h,I7 17 n 16,Iv 17,Nat.add_div_right _ (by decide),IJ,I7 o,Iv 1]
theorem G_ {a:Int} (h:a<0):(-a-1).natAbs<=a.natAbs:=by
 cases a with
 |ofNat n=>exact absurd h (Kk (HA n))
 |negSucc n=>
  rw [Int.neg_negSucc];show(((n:Nat):Int)+1-1).natAbs<=_;rw [Me];exact LM n
variable {L y t:Nat}
theorem FU {z:Nat} (h:t=L+y):L+y+(L+y+z-t)=L+(y+z):=by rw [h,Kj,I7]
variable {A:Nat}
theorem GV (h: ¬m<=A):m=A+(1+(m-A-1)):=by have h:=KS h;rw [I9 (Mm h),I9 (HP h)]
variable {x:Nat}
theorem FV (h:L+y<=x):min L x+y+(x-(L+y))=x:=by rw [MW (H8 (HD _ _) h),I9 h]
variable {w:Nat}
theorem H2:(L+(L+w))/2=L+w/2:=by rw [<-I7,<-N_,Oi (by decide)]
theorem H4 (h0:0<h):h-1+h=2*h-1:=by rw [N_,Nat.sub_add_comm h0]
variable {p:Nat}
theorem aLt {Q:Nat} (h:r<p) (h2:Q+1*p<=b):Q+r<b:=Ha (KX h Q) (Mn p▸h2)
theorem aPw (h:x<2^n):(x:Int)<2^n:=by
 have h:=Ks.mpr h
 rwa [La]at h
theorem EF (h:(x:Int)<2^n):x<2^n:=Ks.mp (by rw [La];exact h)
theorem aNp {d:Int} (h0:0<=d) (h:d.natAbs<2^n):d<2^n:=Pu h0▸aPw h
theorem aPn {d:Int} (h0:0<=d) (h:d<2^n):d.natAbs<2^n:=EF (by rw [Pu h0];exact h)
theorem FT (h:a+d<950):a<1000:=Hk (HD _ _) (J6 h (by decide))
variable {u:Nat}
theorem FX (h:e<=d) (k:u+10*d+60<9900):u+10*e+60<9900:=Hk (Jk (Io (Ig 10 h) _) 60) k
theorem aIn (k:u+10*(d+1)+60<9900):u+1+10*d+60<9900:=Hk (Jk (by rw [I7 u 1];exact Io (H8 (Hu (Iv 1 _)) (Io (by decide) _)) u) 60) k
theorem GZ (h:p<2):p=0∨p=1:=(by decide: ∀p<2,p=0∨p=1) p h
theorem GY (h:p<3):p=0∨p=1∨p=2:=(by decide: ∀p<3,p=0∨p=1∨p=2) p h
theorem GX (h:p<5):p=0∨p=1∨p=2∨p=3∨p=4:=(by decide: ∀p<5,p=0∨p=1∨p=2∨p=3∨p=4) p h
theorem aS5 (h:n<=3*(a-b)+5):n<=3*a+5:=H8 h (Jk (Ig 3 (PW _ _)) 5)
variable {i l:Nat}
theorem GU (h:x-i=l+1):i<x:=Nat.lt_of_sub_pos (by rw [h];exact LY _)
theorem EE (h:i<=x) (e:x-i=0):i=x:=JH h (Nat.le_of_sub_eq_zero e)
theorem aTn {a b:Int} (h:a<b):b-a=((b-a).toNat:Int):=(KY (Int.sub_nonneg_of_le (JN h))).symm
theorem GT {a b:Int} (h: ¬a<b):0=((b-a).toNat:Int):=by rw [Int.toNat_of_nonpos (Int.sub_nonpos_of_le (Q1.mp h))];rfl
theorem aMd {v:Int} (h:v=m) (k:v<n):m<n:=Ks.mp (h▸k)
theorem aW2 (h:0<w) (k: ¬w=1):0<w/2:=Nat.div_pos (Md h λe=>k e.symm) (by decide)
theorem aW3 (h:0<w):0<w-w/2:=Mm (Nat.div_lt_self h (by decide))
theorem aPz (h:0<n):(0:Int)<n:=Ks.mpr h
theorem aZp (h:(0:Int)<n):0<n:=Ks.mp h
theorem EG (h:a<2^62): -2^63<=(a:Int)/\(a:Int)<2^63:=⟨Kt (by decide) (HA a),Int.lt_trans (aPw h) (by decide)⟩
theorem Ce (h:m<=1000000): -1000000<=(m:Int)/\(m:Int)<=1000000:=⟨Kt (by decide) (HA m),M2.mpr h⟩
theorem BW (h:m<=1000000) (k:n<=1000000): -1000000<=(m:Int)/\(m:Int)<=1000000/\ -1000000<=(n:Int)/\(n:Int)<=1000000:=⟨(Ce h).1,(Ce h).2,Ce k⟩
theorem BV {n:Int} (h:n<=1000000):1*n.toNat<=1000000:=by rw [Mn];exact Int.toNat_le.mpr h
variable {c:Nat}
theorem aC1 (h:c<=2*(x-e)+1) (h1:b<e) (h2:e<=x):0+1+c<=2*(x-b)+1:=by rw [IJ,Iv 1];exact H8 (HM h) (NB (Ig 2 (Nat.succ_le_of_lt (Ng (Ha h1 h2) h1))))
theorem aC2 (h:c<=2*(x-e)+1) (h1:b<e) (h2:e<=x) (h3:s<b):0+1+1+c<=2*(x-s)+1:=by rw [IJ,Iv (1+1)];exact HM (H8 (HM h) (Ig 2 (Nat.succ_le_of_lt (Ng (Ha (J6 h3 h1) h2) (J6 h3 h1)))))
theorem aKl (h0:0<n) (h:i<=m):i+n-1<=m+(n-1):=by rw [Nat.add_sub_assoc h0];exact Jk h _
theorem aRg {k:Nat} (h:1<=k/\k<1+(n-1)):1<=k/\k<n:=by
 cases n with
 |zero=>exact absurd (IN h.2) (Jj h.1)
 |succ n=>exact⟨h.1,Iv 1 n▸h.2⟩
theorem aPl (h:x-a=l+(c+1+1)):a+l+2<=x:=by rw [I7,Iv];exact Ps (HP (Nat.lt_of_sub_pos (by rw [h];exact LY _))) (by rw [h];exact Io (Iy 2 c) l)
theorem aD2 {R:Nat} (e1:A+s=a) (e2:A=b*q*p+R):a=q*p*b+(R+s):=by rw [<-e1,e2,I7,ID b q,Nat.mul_right_comm]
theorem aCs (h:0<n):(i:Int)+n-1=((i+n-1:Nat):Int):=(Int.ofNat_sub (H8 h (Iy n i))).symm
theorem aSz (h2:c-1<s):c<=s:=by
 cases c with
 |zero=>exact IH _
 |succ n=>exact h2
theorem aNo (h:s<=t) (k: ¬s=t): ¬(s>t∨t-s<1):=λq=>q.elim (JS h) λq=>MU (Mm (Md h k)) (Nat.lt_one_iff.mp q)
theorem aZ (h:b<=n) (h1:a<=b) (e:b-a=n):a=0:=
 Nat.eq_zero_of_le_zero (Nat.le_of_add_le_add_right (b:=n) (by rw [IJ,<-e,I9 h1,e];exact h))
theorem aDv:n+n % 2=2*((n+n % 2)/2):=by
 have h:(n+n % 2) % 2=0:=by rw [Nat.add_mod,Nat.mod_mod];cases Mc n with|inl e=>rw [e]|inr e=>rw [e]
 exact(Nat.mul_div_cancel' (Nat.dvd_of_mod_eq_zero h)).symm
end Internal
namespace Internal
open PySem
variable {M:Oj} {Γ:Ctx} {p:Jq} {s s':Hh}
set_option tactic.hygienic true in
theorem runs_size {t:J_ J'} {fs:List Frame} {e:End} (h:Runs M Γ p t fs s e s'):s.heap.objs.size<=s'.heap.objs.size:=by
 induction h<;>first
  |exact Hm _
  |assumption
  |exact H8 (by assumption) (by assumption)
  |(simp only [Shared.setGen]at*;lia)
  |(rename_i ih;simp only [Heap.size_update]at ih;exact ih)
  |(rename_i ih;rw [show∀(h:IL) o,(h.push o).objs.size=h.objs.size+1 from λ_ _=>I8 ..]at ih;exact Ii ih)
theorem sH {g:Nat} {r:Resume} {RW:GenResult} (h:Wakes M Γ p g r s RW s'):s.heap.objs.size<=s'.heap.objs.size:=by
 unfold Wakes at h;split at h
 ·exact h.elim
 ·split at h
  ·obtain⟨_,_,hr,_,_,rfl⟩:=h;exact(runs_size hr:)
  ·rw [h.2];exact Hm _
  ·rw [h.2];exact Hm _
 ·obtain⟨_,_,hr,_,_,rfl⟩:=h;exact(runs_size hr:)
 ·rw [h.2];exact Hm _
 ·rw [h.2];exact Hm _
variable {α:Type}
theorem zN (M:Oj) (Γ:Ctx) (n:Nat) (t:J_ α): ∀(Q:α->Jq->Hh->Prop) (E:Hl->Jq->Hh->Prop) (p:Jq) (s:Hh),n<=s.heap.objs.size->Kz M Γ t Q E p s->
  Kz M Γ t (λa p' s'=>n<=s'.heap.objs.size/\Q a p' s') (λe p' s'=>n<=s'.heap.objs.size/\E e p' s') p s:=by
 induction t with
 |pure a=>intro Q E p s hn h;exact⟨hn,h⟩
 |raise e=>intro Q E p s hn h;exact⟨hn,h⟩
 |unsupported _=>intro Q E p s _ h;exact h
 |finish _=>intro Q E p s _ h;exact h
 |rule _ k ih=>intro Q E p s hn h;exact ih () Q E p s hn h
 | «at» p' k ih=>intro Q E p s hn h;exact ih () Q E p' s hn h
 |load a _ k ih=>intro Q E p s hn ⟨o,ho,h⟩;exact⟨o,ho,ih o Q E p s hn h⟩
 |update a _ f k ih=>intro Q E p s hn h;exact⟨h.1,ih () Q E p _ (by show n<=(s.heap.update a f).objs.size;rw [Heap.size_update];exact hn) h.2⟩
 |loadIfAlive a k ih=>intro Q E p s hn h;exact ih _ Q E p s hn h
 |point _ k ih=>intro Q E p s hn h;exact ih () Q E p s hn h
 |register _ _=>intro Q E p s _ h;exact h
 |alloc o k ih=>intro Q E p s hn h;exact ih _ Q E p _ (by show n<=(s.heap.push o).objs.size;rw [I8];exact HN hn) h
 |fresh k ih=>intro Q E p s hn h;exact ih _ Q E p _ hn h
 |ask k ih=>intro Q E p s hn h;exact ih _ Q E p s hn h
 |choose src m k ih=>intro Q E p s hn h;exact⟨h.1,ih _ Q E p _ hn h.2⟩
 |os q _ k ih=>intro Q E p s hn h;exact ih _ Q E p _ hn h
 |call c hd _ _ k ih=>intro Q E p s hn ⟨r,s',hr,h⟩;exact⟨r,s',hr,ih r Q E p s' (H8 hn (runs_size hr)) h⟩
 |handled own k ih=>intro Q E p s hn h;exact ih _ Q E p s hn h
 |genState g k ih=>intro Q E p s hn ⟨st,hs,h⟩;exact⟨st,hs,ih _ Q E p s hn h⟩
 |newGen c k ih=>intro Q E p s hn h;exact ih _ Q E p _ hn h
 |resume g r _ k ih=>intro Q E p s hn ⟨RW,s',hw,h⟩;exact⟨RW,s',hw,ih RW Q E p s' (H8 hn (sH hw)) h⟩
 |yield _ _ _ _=>intro Q E p s _ h;exact h
 |stack k ih=>intro Q E p s hn h;exact ih _ Q E p s hn h
 |fork _ _=>intro Q E p s _ h;exact h
 |thread k ih=>intro Q E p s hn h;exact ih _ Q E p s hn h
 |await _ _ _ _ _=>intro Q E p s _ h;exact h
theorem sx {A:IZ} {t:J_ α} {Q:α->Hh->Prop} {E:Hl->Hh->Prop} (h:Im M A t (λa s'=>s.heap.objs.size<=s'.heap.objs.size->Q a s') E s):Im M A t Q E s:=
 Jl (λΓ p hΓ=>zN M Γ s.heap.objs.size t _ _ p s (Hm _) (h Γ p hΓ):Im M A t (λa s'=>s.heap.objs.size<=s'.heap.objs.size/\(s.heap.objs.size<=s'.heap.objs.size->Q a s')) (λe s'=>s.heap.objs.size<=s'.heap.objs.size/\E e s') s) (λ_ _ x=>x.2 x.1) (λ_ _ x=>x.2)
end Internal
namespace Internal
open PySem PySem.W PySem.Calls PyProof.Rows
def theTabs:List (Hw×Jq×HJ):=[(64,⟨39,4,48,28⟩,"_int2digits.<locals>.inner"),(71,⟨54,4,59,55⟩,"_digits2int.<locals>.inner")]
def dFi:Data->Option (Array Hl)
 | .fields vs=>H7 vs
 |_=>H9
theorem oZ {d:Data} {vs:Array Hl} (h:dFi d=H7 vs):d= .fields vs:=by
 cases d with
 |fields=>exact congrArg Data.fields (Hg h)
 |_=>exact nomatch h
def fP (o:Oh):Bool:=decide (o.cls= .none)&&(dFi o.data).isSome
def aK (o:Oh):Prop:= ∀vs,o.data= .fields vs->o.cls≠ .none/\ ∀q t,vs[1]? ≠H7 (.str q t)
variable {o:Oh}
theorem nn (h: ∀vs,o.data= .fields vs->o.cls≠ .none):fP o=Hb:=Bool.eq_false_iff.mpr λq=>by obtain⟨a,b⟩:=HZ.mp q;obtain⟨vs,e⟩:=J7.mp b;exact h vs (oZ e) (of_decide_eq_true a)
theorem aK.tab (h:aK o):fP o=Hb:=nn λvs e=>(h vs e).1
def e7 (h:IL) (cd:Hl) (q:HJ):Prop:= ∃c o vs t,cd= .ref c/\h.get? c=H7 o/\o.cls≠ .none/\o.data= .fields vs/\vs[1]? =H7 (.str q t)
structure ie (h:IL) (P:Hw) (pos:Jq) (q:HJ):Prop where
 ok: ∃ps,h.get? P=H7 (NO ps)/\Pz ps.toList/\(codeAmong pos ps.toList=H9∨ ∃c,codeAmong pos ps.toList=H7 (.ref c)/\e7 h (.ref c) q)
def cV:Oh:={cls:= .builtin "tab",data:= .plain}
open Classical in
def vis (h:IL) (b:Hw):Option Oh:=
 match h.get? b with
 |none=>H9
 |some o=>if∃t∈theTabs,t.1=b then(if fP o=Hd then(if∀t∈theTabs,t.1=b->ie h b t.2.1 t.2.2 then H7 cV else H9)else if o=cV then H9 else H7 o)else H7 o
variable {h:IL} {b:Hw}
theorem jk (e:h.get? b=H7 o) (n:fP o=Hb) (m:o≠cV):vis h b=H7 o:=by unfold vis;rw [e];simp [n,m]
set_option tactic.hygienic true in
theorem ot (e:vis h b=H7 o) (n:o≠cV):h.get? b=H7 o:=by
 unfold vis at e;split at e
 ·cases e
 ·rename_i o' e'
  split at e
  ·split at e
   ·split at e
    ·cases e;exact absurd rfl n
    ·cases e
   ·split at e
    ·cases e
    ·cases e;exact e'
  ·cases e;exact e'
theorem kz (n: ¬ ∃t∈theTabs,t.1=b):vis h b=h.get? b:=by
 unfold vis;cases h.get? b with
 |none=>rfl
 |some o=>exact if_neg n
set_option tactic.hygienic true in
theorem zQ (e:vis h b=H7 cV): ∀t∈theTabs,t.1=b->ie h b t.2.1 t.2.2:=by
 intro t ht hb;unfold vis at e;split at e
 ·cases e
 ·rw [if_pos ⟨t,ht,hb⟩]at e
  split at e
  ·split at e
   ·rename_i hc;exact hc t ht hb
   ·cases e
  ·split at e
   ·cases e
   ·rename_i hn;cases e;exact absurd rfl hn
theorem oy (h1: ∃t∈theTabs,t.1=b) (h2: ∀t∈theTabs,t.1=b->ie h b t.2.1 t.2.2):vis h b=H7 cV:=by haveI Y6:=h1;obtain⟨t,ht,hb⟩:=h1;obtain⟨ps,e,_⟩:=(h2 t ht hb).ok;unfold vis;rw [e];simp only;rw [if_pos Y6,if_pos (show fP (NO ps)=Hd from rfl),if_pos h2]
theorem xN (e:vis h b=H7 o): ∃o',h.get? b=H7 o':=by
 unfold vis at e;split at e
 ·cases e
 ·exact⟨_,by assumption⟩
theorem ao (e:vis h b=H7 o):b<h.objs.size:=by obtain⟨_,e⟩:=xN e;exact II e
theorem wO (e:h.objs.size<=b):vis h b=H9:=by
 cases q:vis h b with
 |none=>rfl
 |some o=>exact absurd (ao q) (LC.mpr e)
theorem xO (e:h.get? b=H9):vis h b=H9:=by unfold vis;rw [e]
variable {h':IL} {pos:Jq} {q:HJ}
theorem ie.step {P:Hw} (x:ie h P pos q) (k1: ∀o,h.get? P=H7 o->h'.get? P=H7 o) (k2: ∀c o vs t,h.get? c=H7 o->o.data= .fields vs->vs[1]? =H7 (.str q t)->h'.get? c=H7 o):ie h' P pos q:=by obtain⟨ps,e,ht,hc⟩:=x.ok;refine⟨ps,k1 _ e,ht,hc.imp id ?_⟩;rintro⟨c,hc,c',o,vs,t,e1,e2,e5,e3,e4⟩;exact⟨c,hc,c',o,vs,t,e1,k2 _ _ _ _ e2 e3 e4,e5,e3,e4⟩
set_option tactic.hygienic true in
theorem cy {W:Hw->Prop} (hk: ∀b o,¬W b->h.get? b=H7 o->h'.get? b=H7 o) (hp: ∀b o,W b->h.get? b=H7 o->aK o) (hb: ¬W b) (e:vis h b=H7 o):vis h' b=H7 o:=by
 unfold vis at e;split at e
 ·cases e
 ·rename_i o' e'
  have e2:=hk b o' hb e';split at e
  ·rename_i RI
   split at e
   ·rename_i ht
    split at e
    ·rename_i hc
     cases e;exact oy RI λt h1 h2=>(hc t h1 h2).step (λo e=>hk b o hb e) λc o vs u e1 e2 e3=>hk c o (λq=>(hp c o q e1 vs e2).2 _ _ e3) e1
    ·cases e
   ·rename_i ht
    split at e
    ·cases e
    ·rename_i hm
     cases e;exact jk e2 (by simpa using ht) hm
  ·rename_i RI
   cases e;rw [kz RI,e2]
theorem kC (hk: ∀b o,h.get? b=H7 o->h'.get? b=H7 o) (e:vis h b=H7 o):vis h' b=H7 o:=
 cy (W:=λ_=>False) (λb o _ e=>hk b o e) (λ_ _ h=>h.elim) (λh=>h) e
theorem qa {o':Oh} (e:vis h b=H7 o):vis (h.push o') b=H7 o:=kC (λ_ _ e=>HV _ e) e
variable {a:Hw}
theorem ax (hs:Iz a h h') (hp: ∀o,h.get? a=H7 o->aK o) (hb:b≠a) (e:vis h b=H7 o):vis h' b=H7 o:=
 cy (W:=λb=>b=a) (λb o n e=>(hs.2 b n).trans e) (λb o q e=>hp o (q▸e)) hb e
theorem uf (hs:NU a h h') (hp: ∀o,h.get? a=H7 o->aK o) (hb:b≠a) (e:vis h b=H7 o):vis h' b=H7 o:=
 cy (W:=λb=>b=a) (λb o n e=>hs b o n e) (λb o q e=>hp o (q▸e)) hb e
theorem dU (h: ∀vs,o.data≠ .fields vs):aK o:=λvs e=>absurd e (h vs)
theorem jB {vs n} (h:o.data= .seq vs n):aK o:=dU λvs e=>by rw [h]at e;cases e
theorem fX {es n} (h:o.data= .dict es n):aK o:=dU λvs e=>by rw [h]at e;cases e
theorem lT {v} (h:o.data= .cell v):aK o:=dU λvs e=>by rw [h]at e;cases e
theorem tj {v} (h:o.data= .func v):aK o:=dU λvs e=>by rw [h]at e;cases e
def bE (o:Oh):Prop:=aK o/\o≠cV
theorem bZ {vs n} (h:o.data= .seq vs n):bE o:=⟨jB h,λq=>by rw [q]at h;cases h⟩
theorem cC {es n} (h:o.data= .dict es n):bE o:=⟨fX h,λq=>by rw [q]at h;cases h⟩
theorem n6 {v} (h:o.data= .cell v):bE o:=⟨lT h,λq=>by rw [q]at h;cases h⟩
theorem cz {v} (h:o.data= .func v):bE o:=⟨tj h,λq=>by rw [q]at h;cases h⟩
theorem fc {vs:Array Hl} (h:o.data= .fields vs) (hc:o.cls≠ .none) (h1: ∀q t,vs[1]? ≠H7 (.str q t)):bE o:=
 ⟨λus e=>by rw [h]at e;cases e;exact⟨hc,h1⟩,λq=>by rw [q]at h;cases h⟩
theorem yB {es n t} (h:o.data= .set es n t):bE o:=⟨dU (λvs e=>by rw [h]at e;cases e),λq=>by rw [q]at h;cases h⟩
theorem dt {vs:Array Hl} (k: ∀o,vis h a=H7 o->vis h' a=H7 o) (e:h.get? a=H7 o) (hd:o.data= .fields vs) (hc:o.cls≠ .none):h'.get? a=H7 o:=
 haveI n:fP o=Hb:=nn λ_ _=>hc;have m:o≠cV:=λq=>by rw [q]at hd;cases hd
 ot (k _ (jk e n m)) m
theorem bE.keep (n:bE o) (k: ∀o,vis h a=H7 o->vis h' a=H7 o) (e:h.get? a=H7 o):h'.get? a=H7 o:=ot (k _ (jk e n.1.tab n.2)) n.2
theorem bE.vis (n:bE o) (e:h.get? a=H7 o):vis h a=H7 o:=jk e n.1.tab n.2
inductive PV where
 |none
 |bool (b:Bool)
 |int (i:Int)
 |str (s:HJ)
 |list (xs:List PV)
 |tuple (xs:List PV)
 |dictS (ks:List HJ) (vs:List PV)
 |dictI (ks:List Int) (vs:List PV)
 |range (a b:Int)
 deriving Inhabited
abbrev HK (h h':IL):Prop:= ∀b o,vis h b=H7 o->vis h' b=H7 o
theorem HK.refl (h:IL):HK h h:=λ_ _ e=>e
theorem HK.trans {a b c:IL} (x:HK a b) (y:HK b c):HK a c:=λd o e=>y d o (x d o e)
theorem HK.none (k:HK h h') (e:vis h' a= .none):vis h a= .none:=by
 cases q:vis h a with
 |none=>rfl
 |some o=>rw [k a o q]at e;cases e
theorem HK.push (h:IL) (o:Oh):HK h (h.push o):=λ_ _ e=>qa e
theorem HK.of (k: ∀b o,h.get? b=H7 o->h'.get? b=H7 o):HK h h':=λ_ _ e=>kC k e
def IsL (h:IL) (a:Hw) (vs:List Hl):Prop:=h.PlainList a vs.toArray
def IsT (h:IL) (a:Hw) (vs:List Hl):Prop:=h.IsTuple a vs.toArray
def DAt {K:Type} [DecidableEq K] {prog:IG} {w:J0} (knd:KeyKind prog w K) (h:IL) (a:Hw) (ks:List K) (vs:List Hl):Prop:=ks.length=vs.length/\h.DictOf knd a (ks.zip vs)
abbrev H5 (prog:IG) (w:J0) (h:IL) (a:Hw) (ks:List HJ) (vs:List Hl):Prop:=DAt (strKind prog w) h a ks vs
abbrev H6 (prog:IG) (w:J0) (h:IL) (a:Hw) (ks:List Int) (vs:List Hl):Prop:=DAt (IM prog w) h a ks vs
mutual
noncomputable def Rep (prog:IG) (w:J0) (ok:Hw->Prop) (h:IL):PV->Hl->Prop
 | .none,v=>v= .none
 | .bool b,v=>v= .bool b
 | .int i,v=> ∃t,v= .int i t
 | .str s,v=> ∃t,v= .str s t
 | .list xs,v=> ∃a vs,v= .ref a/\ok a/\(a==IA)=Hb/\IsL h a vs/\av prog w ok h xs vs
 | .tuple xs,v=> ∃a vs,v= .ref a/\ok a/\(a==IA)=Hb/\IsT h a vs/\av prog w ok h xs vs
 | .dictS ks us,v=> ∃a vs,v= .ref a/\ok a/\(a==IA)=Hb/\H5 prog w h a ks vs/\av prog w ok h us vs
 | .dictI ks us,v=> ∃a vs,v= .ref a/\ok a/\(a==IA)=Hb/\H6 prog w h a ks vs/\av prog w ok h us vs
 | .range a b,v=> ∃r t u c,v= .ref r/\ok r/\(r==IA)=Hb/\h.get? r=H7 {cls:= .type "range",dict:=H9,data:= .fields #[.int a t,.int b u,.int 1 c],slots:= #[]}
noncomputable def av (prog:IG) (w:J0) (ok:Hw->Prop) (h:IL):List PV->List Hl->Prop
 |[],vs=>vs=[]
 |x::xs,vs=> ∃v r,vs=v::r/\Rep prog w ok h x v/\av prog w ok h xs r
end
theorem IsL.mono {a vs} (x:IsL h a vs) (k: ∀o,vis h a=H7 o->vis h' a=H7 o):IsL h' a vs:=by obtain⟨n,e⟩:=x;exact⟨n,(bZ rfl).keep k e⟩
theorem IsL.il {a vs} (x:IsL h a vs):h.IsList a vs.toArray:=Heap.PlainList.isList x
theorem IsT.mono {a vs} (x:IsT h a vs) (k: ∀o,vis h a=H7 o->vis h' a=H7 o):IsT h' a vs:=by obtain⟨o,e,c,n,d⟩:=x;exact⟨o,(bZ d).keep k e,c,n,d⟩
variable {K:Type}
theorem DAt.mono [DecidableEq K] {prog w} {knd:KeyKind prog w K} {a ks vs} (x:DAt knd h a ks vs) (k: ∀o,vis h a=H7 o->vis h' a=H7 o):DAt knd h' a ks vs:=by obtain⟨l,o,es,ep,e,c,d,r⟩:=x;exact⟨l,o,es,ep,(cC d).keep k e,c,d,r⟩
theorem IsL.has {a vs} (x:IsL h a vs): ∃o,vis h a=H7 o:=by obtain⟨n,e⟩:=x;exact⟨_,(bZ rfl).vis e⟩
theorem IsT.has {a vs} (x:IsT h a vs): ∃o,vis h a=H7 o:=by obtain⟨o,e,_,_,d⟩:=x;exact⟨o,(bZ d).vis e⟩
theorem DAt.has [DecidableEq K] {prog w} {knd:KeyKind prog w K} {a ks vs} (x:DAt knd h a ks vs): ∃o,vis h a=H7 o:=by obtain⟨_,o,_,_,e,_,d,_⟩:=x;exact⟨o,(cC d).vis e⟩
variable {prog:IG} {w:J0} {ok ok':Hw->Prop} {t u:NX}
section
theorem lV {a b:Int} {c:NX}:bE {cls:= .type "range",dict:=H9,data:= .fields #[.int a t,.int b u,.int 1 c],slots:= #[]}:=fc rfl (λh=>by cases h) λq t=>by simp
mutual
theorem Rep.mono (ho: ∀a,ok a->(∃o,vis h a=H7 o)->ok' a) (hk: ∀a,ok a-> ∀o,vis h a=H7 o->vis h' a=H7 o): ∀{x:PV} {v:Hl},Rep prog w ok h x v->Rep prog w ok' h' x v
 | .none,_,q=>q
 | .bool _,_,q=>q
 | .int _,_,q=>q
 | .str _,_,q=>q
 | .list _,_,q=>by obtain⟨a,vs,e,o,s,l,r⟩:=q;exact⟨a,vs,e,ho a o l.has,s,l.mono (hk a o),av.mono ho hk r⟩
 | .tuple _,_,q=>by obtain⟨a,vs,e,o,s,l,r⟩:=q;exact⟨a,vs,e,ho a o l.has,s,l.mono (hk a o),av.mono ho hk r⟩
 | .dictS _ _,_,q=>by obtain⟨a,vs,e,o,s,l,r⟩:=q;exact⟨a,vs,e,ho a o l.has,s,l.mono (hk a o),av.mono ho hk r⟩
 | .dictI _ _,_,q=>by obtain⟨a,vs,e,o,s,l,r⟩:=q;exact⟨a,vs,e,ho a o l.has,s,l.mono (hk a o),av.mono ho hk r⟩
 | .range _ _,_,q=>by obtain⟨r,t,u,c,e,o,s,l⟩:=q;exact⟨r,t,u,c,e,ho r o ⟨_,(lV).vis l⟩,s,(lV).keep (hk r o) l⟩
theorem av.mono (ho: ∀a,ok a->(∃o,vis h a=H7 o)->ok' a) (hk: ∀a,ok a-> ∀o,vis h a=H7 o->vis h' a=H7 o): ∀{xs:List PV} {vs:List Hl},av prog w ok h xs vs->av prog w ok' h' xs vs
 |[],_,q=>q
 |_::_,_,q=>by obtain⟨v,r,e,q,t⟩:=q;exact⟨v,r,e,Rep.mono ho hk q,av.mono ho hk t⟩
end
variable {v:Hl}
theorem Rep.keep {x:PV} (q:Rep prog w ok h x v) (k:HK h h'):Rep prog w ok h' x v:=Rep.mono (λ_ o _=>o) (λ_ _ _ e=>k _ _ e) q
variable {xs:List PV} {vs:List Hl}
theorem av.keep (q:av prog w ok h xs vs) (k:HK h h'):av prog w ok h' xs vs:=av.mono (λ_ o _=>o) (λ_ _ _ e=>k _ _ e) q
theorem Rep.wide {x:PV} (q:Rep prog w ok h x v) (k: ∀a,ok a->ok' a):Rep prog w ok' h x v:=Rep.mono (λ_ o _=>k _ o) (λ_ _ _ e=>e) q
theorem av.length: ∀{xs:List PV} {vs:List Hl},av prog w ok h xs vs->vs.length=xs.length
 |[],_,q=>by rw [show _=_ from q];rfl
 |_::_,_,⟨_,_,e,_,t⟩=>by subst e;simp [av.length t]
theorem av.get: ∀{xs:List PV} {vs:List Hl} (_:av prog w ok h xs vs) {i:Nat} {x:PV},xs[i]? =H7 x-> ∃v,vs[i]? =H7 v/\Rep prog w ok h x v
 |[],_,_,_,_,e=>by simp at e
 |_::_,_,⟨v,r,e,q,t⟩,0,x,e'=>by subst e;simp at e';subst e';exact⟨v,rfl,q⟩
 |_::_,_,⟨v,r,e,q,t⟩,i+1,x,e'=>by subst e;simp at e';exact t.get e'
theorem av.append: ∀{xs ys:List PV} {vs us:List Hl},av prog w ok h xs vs->av prog w ok h ys us->av prog w ok h (xs++ys) (vs++us)
 |[],_,_,_,q,r=>by rw [show _=_ from q];exact r
 |_::_,_,_,_,⟨v,r,e,q,t⟩,r'=>by subst e;exact⟨v,_,rfl,q,t.append r'⟩
theorem av.snoc {x:PV} (q:av prog w ok h xs vs) (r:Rep prog w ok h x v):av prog w ok h (xs++[x]) (vs++[v]):=q.append ⟨v,[],rfl,r,rfl⟩
end
structure Ext (s s':Hh):Prop where
 keep:HK s.heap s'.heap
 size:s.heap.objs.size<=s'.heap.objs.size
 gens: ∀(i:Nat) (g:M4),s.gens[i]? =H7 g->s'.gens[i]? =H7 g
 os:s'.os=s.os
theorem Ext.refl (s:Hh):Ext s s:=⟨HK.refl _,Hm _,λ_ _ e=>e,rfl⟩
theorem Ext.trans {a b c:Hh} (x:Ext a b) (y:Ext b c):Ext a c:=⟨x.keep.trans y.keep,H8 x.size y.size,λi g e=>y.gens i g (x.gens i g e),y.os.trans x.os⟩
theorem Ext.toks (s:Hh) (n:Nat):Ext s {s with toks:=n}:=⟨HK.refl _,Hm _,λ_ _ e=>e,rfl⟩
theorem Ext.pushed (s:Hh) (o:Oh) (n:Nat):Ext s {s with heap:=s.heap.push o,toks:=n}:=⟨HK.push _ _,by show _<=(s.heap.push o).objs.size;rw [I8];exact HD _ _,λ_ _ e=>e,rfl⟩
abbrev bS (ok:Hw->Prop) (h:IL):Prop:= ∀a,h.objs.size<=a->ok a
theorem bS.keep (f:bS ok h) (k:h.objs.size<=h'.objs.size):bS ok h':=λa e=>f a (H8 k e)
theorem bq (e:h.objs.size<=a):vis h a=H9:=wO e
def Sys (h:IL):Prop:=(∃o,vis h IA=H7 o)/\ ∀t∈theTabs,vis h t.1=H7 cV
theorem Sys.keep (f:Sys h) (k:HK h h'):Sys h':=by obtain⟨⟨o,e⟩,g⟩:=f;exact⟨⟨o,k _ _ e⟩,λt ht=>k _ _ (g t ht)⟩
theorem Sys.tab (f:Sys h) {t:Hw×Jq×HJ} (ht:t∈theTabs):ie h t.1 t.2.1 t.2.2:=zQ (f.2 t ht) t ht rfl
theorem ca (h:IL):vis h h.objs.size=H9:=wO (Hm _)
theorem Sys.ne (f:Sys h) (e:vis h a=H9):(a==IA)=Hb:=by refine beq_eq_false_iff_ne.mpr λq=> ?_;obtain⟨⟨o,e'⟩,_⟩:=f;rw [q,e']at e;cases e
abbrev WP {α:Type} (M:Oj) (A:IZ) (t:J_ α) (Q:α->Hh->Prop) (s:Hh):Prop:=Im M A t Q (λ_ _=>False) s
variable {α β:Type} {A:IZ} {s:Hh} {Q:Hl->Hh->Prop}
section
variable {M:Oj}
theorem WP.mono {t:J_ α} {Q Q':α->Hh->Prop} (h:WP M A t Q s) (hQ: ∀a s',Q a s'->Q' a s'):WP M A t Q' s:=Jl h hQ λ_ _ e=>e
theorem WP.bind {m:J_ α} {f:α->J_ β} {Q:β->Hh->Prop} (h:WP M A m (λa s'=>WP M A (f a) Q s') s):WP M A (m>>=f) Q s:=He h
theorem uZ {t:J_ α} {Q:α->Hh->Prop} {E:Hl->Hh->Prop} (h: ∀(K:α->Hh->Prop) (E:Hl->Hh->Prop),(∀v s,Q v s->K v s)->Im M A t K E s):Im M A t Q E s:=h Q E λ_ _ q=>q
theorem bar {p:Prop} (h:p):p:=h
theorem WP.low {t:J_ α} {Q:α->Hh->Prop} {E:Hl->Hh->Prop} (h:WP M A t Q s):Im M A t Q E s:=Jl (E:=λ_ _=>False) h (λ_ _ h=>h) λ_ _ h=>h.elim
theorem WP.gen {t:J_ α} {Q:α->Hh->Prop} (h: ∀K:α->Hh->Prop,(∀v s,Q v s->K v s)->WP M A t K s):WP M A t Q s:=h Q λ_ _ q=>q
theorem WP.then {m:J_ α} {f:α->J_ β} {Q₁:α->Hh->Prop} {Q:β->Hh->Prop} (h:WP M A m Q₁ s) (k: ∀a s',Q₁ a s'->WP M A (f a) Q s'):WP M A (m>>=f) Q s:=He (h.mono k)
theorem WP.size {t:J_ α} {Q:α->Hh->Prop} (h:WP M A t (λa s'=>s.heap.objs.size<=s'.heap.objs.size->Q a s') s):WP M A t Q s:=sx h
theorem WP.at {f:Unit->J_ β} {Q:β->Hh->Prop} (h:WP M A (f ()) Q s):WP M A (Ji pos>>=f) Q s:=He (KI h)
theorem WP.hold {m:J_ α} {Q:α->Hh->Prop} (h:WP M A m Q s):WP M A (KZ vs m) Q s:=I_ h
theorem WP.oper {m:J_ Hl} (h:WP M A m Q s):WP M A (operate vs m) Q s:=wpAny_operate' h
theorem WP.rel {keep:List Hl} {Q:Unit->Hh->Prop} (h:Q () s):WP M A (release vs keep) Q s:=wpAny_release' h
theorem WP.eq {t t':J_ α} {Q:α->Hh->Prop} (e:t=t') (h:WP M A t' Q s):WP M A t Q s:=e▸h
end
variable {m:HJ->Option Hl}
theorem dD (n:h.Ns a m) (k: ∀o,vis h a=H7 o->vis h' a=H7 o):h'.Ns a m:=by obtain⟨o,es,ep,e,d,r⟩:=n;exact⟨o,es,ep,(cC d).keep k e,d,r⟩
theorem aN {v:Option Hl} (n:h.IsCell a v) (k: ∀o,vis h a=H7 o->vis h' a=H7 o):h'.IsCell a v:=by obtain⟨o,e,d⟩:=n;exact⟨o,(n6 d).keep k e,d⟩
theorem n_ (n:h.Ns a m): ∃o,vis h a=H7 o:=by obtain⟨o,_,_,e,d,_⟩:=n;exact⟨o,(cC d).vis e⟩
theorem lL {v:Option Hl} (n:h.IsCell a v): ∃o,vis h a=H7 o:=by obtain⟨o,e,d⟩:=n;exact⟨o,(n6 d).vis e⟩
theorem lH (n:h.Ns a m): ∀o,h.get? a=H7 o->aK o:=λo e=>by obtain⟨o',_,_,e',d,_⟩:=n;rw [e]at e';cases e';exact fX d
theorem tP {v:Option Hl} (n:h.IsCell a v): ∀o,h.get? a=H7 o->aK o:=λo e=>by obtain⟨o',e',d⟩:=n;rw [e]at e';cases e';exact lT d
variable {items:Array Hl}
theorem Ao (n:h.PlainList a items) (k: ∀o,vis h a=H7 o->vis h' a=H7 o):h'.PlainList a items:=by obtain⟨n,e⟩:=n;exact⟨n,(bZ rfl).keep k e⟩
theorem CR (n:h.PlainList a items): ∃o,vis h a=H7 o:=by obtain⟨_,e⟩:=n;exact⟨_,(bZ rfl).vis e⟩
theorem gC (n:h.PlainList a items): ∀o,h.get? a=H7 o->aK o:=λo e=>by obtain⟨_,e'⟩:=n;rw [e]at e';cases e';exact jB rfl
theorem jG (n:IsL h a vs): ∀o,h.get? a=H7 o->aK o:=gC n
theorem ka: ∀o,h.get? h.objs.size=H7 o->aK o:=λo e=>absurd (II e) (Hr _)
section
variable [DecidableEq K] {knd:PySem.KeyKind prog w K}
theorem rI {Qu:List (K×Hl)} (d:h.DictOf knd a Qu) (k: ∀o,vis h a=H7 o->vis h' a=H7 o):h'.DictOf knd a Qu:=by obtain⟨o,es,ep,e,c,d,r⟩:=d;exact⟨o,es,ep,(cC d).keep k e,c,d,r⟩
theorem pM {Qu:List (K×Hl)} (d:h.DictOf knd a Qu): ∀o,h.get? a=H7 o->aK o:=λo e=>by obtain⟨_,_,_,e',_,d,_⟩:=d;rw [e]at e';cases e';exact fX d
end
variable {cd:Hl}
theorem e7.rec (x:e7 h cd q):h.CodeRec cd q:=by obtain⟨c,o,vs,t,e,g,_,d,r⟩:=x;exact⟨c,o,vs,t,e,g,d,r⟩
theorem e7.keep (x:e7 h cd q) (k:HK h h'):e7 h' cd q:=by obtain⟨c,o,vs,t,e,g,n,d,r⟩:=x;exact⟨c,o,vs,t,e,dt (k c) g d n,n,d,r⟩
theorem c_ (x:h.NoLimit) (k:HK h h'):h'.NoLimit:=by obtain⟨mc,n,r⟩:=x;exact⟨mc,dD n (k _),r⟩
variable {γ:Type}
section
variable {δ:Type} {P:γ->Prop} {Q:Prop} {r:γ}
def grd (c:Bool) (x:Option γ):Option γ:=if c then x else H9
def ob2 (f:α->β->γ) (x:Option α) (y:Option β):Option γ:=x.bind λa=>y.map (f a)
def ob3 (f:α->β->δ->γ) (x:Option α) (y:Option β) (z:Option δ):Option γ:=x.bind λa=>ob2 (f a) y z
@[elab_as_elim] theorem aL {f:α->γ} {x:Option α} (h:x.map f=H7 r) (k: ∀a,x=H7 a->P (f a)):P r:=by
 cases x with
 |none=>cases h
 |some a=>cases h;exact k a rfl
theorem ae {f:α->Option γ} {x:Option α} (h:x.bind f=H7 r) (k: ∀a,x=H7 a->f a=H7 r->Q):Q:=by
 cases x with
 |none=>cases h
 |some a=>exact k a rfl h
theorem cX {c:Bool} {x:Option γ} (h:grd c x=H7 r) (k:c=Hd->x=H7 r->Q):Q:=by
 cases c with
 |false=>cases h
 |true=>exact k rfl h
@[elab_as_elim] theorem bH {f:α->β->γ} {x:Option α} {y:Option β} (h:ob2 f x y=H7 r) (k: ∀a b,x=H7 a->y=H7 b->P (f a b)):P r:=
 ae h λa ha h=>aL (P:=P) h λb hb=>k a b ha hb
@[elab_as_elim] theorem gW {f:α->β->δ->γ} {x:Option α} {y:Option β} {z:Option δ} (h:ob3 f x y z=H7 r) (k: ∀a b c,x=H7 a->y=H7 b->z=H7 c->P (f a b c)):P r:=
 ae h λa ha h=>bH (P:=P) h λb c hb hc=>k a b c ha hb hc
end
theorem ct {c:Prop} [Decidable c] {x y:Option α} {r:α} {Q:Prop} (h:(if c then x else y)=H7 r) (k1:c->x=H7 r->Q) (k2: ¬c->y=H7 r->Q):Q:=by
 by_cases hc:c
 ·rw [if_pos hc]at h;exact k1 hc h
 ·rw [if_neg hc]at h;exact k2 hc h
theorem aF {x:Option α} {f:α->Option β} {a:α} {r:β} (h:x=H7 a) (k:f a=H7 r):x.bind f=H7 r:=by subst h;exact k
theorem a9 {a:α} {Q:Prop} (h:H9=H7 a):Q:=nomatch h
theorem cZ {w:Prop} [Decidable w] {x:Option α} {y:α} (h:(if w then x else H9)=H7 y):w/\x=H7 y:=ct h And.intro λ_ h=>a9 h
theorem de {a b:Bool} {Q:Prop} (h:(a&&b)=Hd) (k:a=Hd->b=Hd->Q):Q:=k (HZ.mp h).1 (HZ.mp h).2
theorem ed {x:Option α} {y:Option β} {f:α->Option β} {r:β} {Q:Prop} (h:x.elim y f=H7 r) (k1: ∀a,x=H7 a->f a=H7 r->Q) (k2:x=H9->y=H7 r->Q):Q:=by
 cases x with
 |none=>exact k2 rfl h
 |some a=>exact k1 a rfl h
set_option genCtorIdx true in
inductive BI where
 |len|ord|chr|max|sum|divmod
 deriving DecidableEq
set_option genCtorIdx true in
inductive ME where
 |count|join|split|lstrip|lower|bitlen|index
 deriving DecidableEq
set_option genCtorIdx true in
inductive PT where
 |one (x:Nat)
 |many (xs:List Nat)
mutual
inductive PE where
 |cI (i:Int)|cS (s:HJ)|cB (b:Bool)|cN
 |var (x:Nat)
 |glo (k:Nat)
 |bin (op:Lg) (l r:PE)
 |neg (e:PE)|inv (e:PE)|not (e:PE)
 |cmp (op:Ok) (l r:PE)
 |cmp2 (o1 o2:Ok) (l m r:PE)
 |boolop (Ss:Bool) (es:List PE)
 |ife (c a b:PE)
 |list (es:List PE)|tup (es:List PE)|dicI (ks:List Int) (vs:List PE)
 |comp1 (Qi:List Nat) (t:PT) (it:PI) (ifs:List PE) (Qv:PE)
 |comp2 (Qi:List Nat) (t:PT) (it:PI) (ifs:List PE) (t2:PT) (Tq:PI) (QW:List PE) (Qv:PE)
 |dcomp (Qi:List Nat) (t:PT) (it:PI) (ifs:List PE) (k v:PE)
 |idx (e i:PE)
 |slice (e lo hi st:PE)
 |call (f:Nat) (args:List PE)
 |bi (k:BI) (args:List PE)
 |meth (k:ME) (o:PE) (args:List PE)
 |listOf (e:PE)
 |listZip (a b:PE)
 |listGen (f:Nat) (args:List PE)
 |rng (args:List PE)
inductive PI where
 |ex (e:PE)
 |rev (e:PE)
 |gen (f:Nat) (args:List PE)
end
abbrev Ρ:=List (Option PV)
def Ρ.get (ρ:Ρ) (x:Nat):Option PV:=(ρ[x]?).join
def ib {α:Type}:List α->Option α
 |x::xs=>match xs with
  |[]=>H7 x
  |_=>H9
 |_=>H9
theorem db {l:List α} {p:α} (h:ib l=H7 p):l=[p]:=by
 cases l with
 |nil=>exact a9 h
 |cons a l=>
  cases l with
  |nil=>cases h;rfl
  |cons=>exact a9 h
def aW:Ρ->List Nat->List PV->Option Ρ
 |ρ,[],vs=>(match vs with
  |[]=>H7 ρ
  |_=>H9)
 |ρ,x::xs,vs=>match vs with
  |v::vs=>aW (ρ.set x (H7 v)) xs vs
  |_=>H9
def oT {γ:Type} (f:List PV->Option γ):PV->Option γ
 | .tuple x=>f x
 |_=>H9
def aw:Ρ->List Nat->Ρ
 |ρ,[]=>ρ
 |ρ,x::xs=>aw (ρ.set x H9) xs
def ptIdx:PT->List Nat
 | .one x=>[x]
 | .many xs=>xs
def wV (pt:PT) (ρ:Ρ):Bool:=(ptIdx pt).all λi=>(ρ.get i).isNone
def aX (ρ:Ρ):PT->PV->Option Ρ
 | .one x,v=>H7 (ρ.set x (H7 v))
 | .many xs,v=>oT (aW ρ xs) v
def gq (s:HJ):List HJ:=s.cps.toList.map λc=>⟨#[c]⟩
def fg (f:PV->PV->Option Bool):List PV->List PV->Option Bool
 |[],ys=>(match ys with
  |[]=>H7 Hd
  |_=>H9)
 |x::xs,ys=>match ys with
  |y::ys=>(f x y).bind λa=>(fg f xs ys).bind λb=>H7 (a&&b)
  |_=>H9
theorem la {f:PV->PV->Option Bool} {x y:PV} {ys:List PV}:fg f (x::xs) (y::ys)=(f x y).bind λa=>(fg f xs ys).bind λb=>H7 (a&&b):=rfl
def dZ:Nat->PV->PV->Option Bool
 |0,_,_=>H9
 |n+1,a,b=>match a,b with
  | .int a,.int b=>H7 (a==b)
  | .str a,.str b=>H7 (a==b)
  | .list xs,.list ys=>if xs.length=ys.length then fg (dZ n) xs ys else H7 Hb
  | .tuple xs,.tuple ys=>if xs.length=ys.length then fg (dZ n) xs ys else H9
  |_,_=>H9
def peq (a b:PV):Option Bool:=dZ 8 a b
def fz:List PV->Option (List Int)
 |[]=>H7 []
 | .int i::r=>(fz r).map (i::·)
 |_=>H9
def jQ:List PV->Option (List HJ)
 |[]=>H7 []
 | .str i::r=>(jQ r).map (i::·)
 |_=>H9
def ff:PV->Option Bool
 | .bool b=>H7 b
 | .int i=>H7 (i !=0)
 | .str s=>if s.length<2^62 then H7 (s.length !=0)else H9
 | .list xs=>if xs.length<2^62 then H7 (!xs.isEmpty)else H9
 | .none=>H7 Hb
 |_=>H9
def bB (c:Prop) [Decidable c] (i:Int):Option PV:=if c then H7 (.int i)else H9
def b_ (xs:List PV):Option PV:=if xs.length<=Hz then H7 (.list xs)else H9
instance (a b:Int):Decidable (Nu a b):=by unfold Nu;infer_instance
def ou (xs:List PV):Option PV:=if xs.length<=Hz then H7 (.tuple xs)else H9
def bh {α:Type} (xs:List α):Nat->List α
 |0=>[]
 |n+1=>xs++bh xs n
variable {n:Nat}
theorem my {xs:List α}:bh xs (n+1)=xs++bh xs n:=rfl
def pII:Lg->Int->Int->Option PV
 | .Add,a,b=>H7 (.int (a+b))
 | .Sub,a,b=>H7 (.int (a-b))
 | .Mult,a,b=>bB (Nu a b) (a*b)
 | .FloorDiv,a,b=>bB (b≠0/\J9 a b=Hb) (a.fdiv b)
 | .Mod,a,b=>bB (b≠0) (a.fmod b)
 | .Pow,a,b=>bB (0<=b/\(Hc a:Int)*b<=2^27) (a^b.toNat)
 | .LShift,a,b=>bB (0<=b/\(Hc a:Int)+b<=2^27) (a*2^b.toNat)
 | .RShift,a,b=>bB (0<=b) (a.fdiv (2^b.toNat))
 | .BitAnd,a,b=>H7 (.int (NW a b))
 | .BitOr,a,b=>H7 (.int (Builtin.bitOr a b))
 | .BitXor,a,b=>H7 (.int (NV a b))
 |_,_,_=>H9
def pSS:Lg->HJ->HJ->Option PV
 | .Add,a,b=>if a.length+b.length<=Hz then H7 (.str (a++b))else H9
 |_,_,_=>H9
def pSI:Lg->HJ->Int->Option PV
 | .Mult,a,n=>if 0<=n/\a.length<=1/\n<=1000000 then H7 (.str ⟨(bh a.cps.toList n.toNat).toArray⟩)else H9
 |_,_,_=>H9
def pLL:Lg->List PV->List PV->Option PV
 | .Add,xs,ys=>b_ (xs++ys)
 |_,_,_=>H9
def pLI:Lg->List PV->Int->Option PV
 | .Mult,xs,n=>if 0<=n/\xs.length<=1/\n<=1000000 then H7 (.list (bh xs n.toNat))else H9
 |_,_,_=>H9
def eg (op:Lg):PV->PV->Option PV
 | .int a,.int b=>pII op a b
 | .str a,.str b=>pSS op a b
 | .str a,.int n=>pSI op a n
 | .list xs,.list ys=>pLL op xs ys
 | .list xs,.int n=>pLI op xs n
 |_,_=>H9
def pin (x:PV):PV->Option Bool
 | .list ys=>match x with
  | .str z=>(jQ ys).map (·.contains z)
  | .int z=>(fz ys).map (·.contains z)
  |_=>H9
 | .str y=>match x with
  | .str z=>H7 !(Jz y z 0 y.length 1).isEmpty
  |_=>H9
 | .dictS ks _=>match x with
  | .str z=>H7 (ks.contains z)
  |_=>H9
 |_=>H9
def plt:PV->PV->Option Bool
 | .int a,.int b=>H7 (decide (a<b))
 |_,_=>H9
def ple:PV->PV->Option Bool
 | .int a,.int b=>H7 (decide (a<=b))
 |_,_=>H9
def pis:PV->PV->Option Bool
 | .bool a,.bool b=>H7 (a==b)
 | .none,.none=>H7 Hd
 | .int _,.none=>H7 Hb
 |_,_=>H9
def Ed:PV->PV->Option Bool
 | .bool a,.bool b=>H7 (a !=b)
 | .none,.none=>H7 Hb
 | .str _,.none=>H7 Hd
 |_,_=>H9
def gp:Ok->PV->PV->Option Bool
 | .Eq,a,b=>peq a b
 | .NotEq,a,b=>(peq a b).map not
 | .In,a,b=>pin a b
 | .NotIn,a,b=>(pin a b).map not
 | .Is,a,b=>pis a b
 | .IsNot,a,b=>Ed a b
 | .Lt,a,b=>plt a b
 | .LtE,a,b=>ple a b
 |_,_,_=>H9
def uS {K:Type} [DecidableEq K] (z:K):List K->List PV->Option PV
 |[],_=>H9
 |k::ks,vs=>match vs with
  |v::vs=>if z=k then H7 v else uS z ks vs
  |_=>H9
def gi:PV->PV->Option PV
 | .list xs,.int i=>(Ls i xs.length).bind λk=>if-(2^63)<=i/\i<2^63 then xs[k]? else H9
 | .tuple xs,.int i=>(Ls i xs.length).bind λk=>if-(2^63)<=i/\i<2^63 then xs[k]? else H9
 | .dictS ks vs,x=>match x with
  | .str z=>uS z ks vs
  |_=>H9
 | .dictI ks vs,x=>match x with
  | .int z=>uS z ks vs
  |_=>H9
 | .str x,y=>match y with
  | .int i=>((Ls i x.length).bind (x.cps[·]?)).bind λc=>if-(2^63)<=i/\i<2^63 then H7 (.str ⟨#[c]⟩)else H9
  |_=>H9
 |_,_=>H9
def kj:PV->Option (Option Int)
 | .none=>H7 H9
 | .int i=>H7 (H7 i)
 |_=>H9
def eZ {α:Type} (xs:List α) (lo hi st:Option Int):List α:=
 let b:=sliceBounds lo hi st xs.length
 (sliceRange b.1 b.2.1 b.2.2).filterMap (xs[·]?)
def bz:PV->PV->PV->PV->Option PV
 | .list xs,l,h,s=>do
  let l<-kj l;let h<-kj h;let s<-kj s
  if s=H7 0∨Hz<xs.length then H9 else H7 (.list (eZ xs l h s))
 | .str x,l,h,s=>do
  let l<-kj l;let h<-kj h;let s<-kj s
  if s.getD 1=0∨Hz<(Jb l h (s.getD 1) x.length).length then H9 else
   H7 (.str (if(s.getD 1==1&&(Jb l h (s.getD 1) x.length).length==x.length)=Hd then x else⟨((Jb l h (s.getD 1) x.length).filterMap (x.cps[·]?)).toArray⟩))
 |_,_,_,_=>H9
def zD (l:List Int):Int:=l.getD (argBest (λi j=>decide (l.getD i 0>l.getD j 0)) (l.length-1)) 0
def a0 {γ:Type} (f:Option γ):List PV->Option γ
 |[]=>f
 |_=>H9
def a1 {γ:Type} (f:PV->Option γ):List PV->Option γ
 |x::xs=>a0 (f x) xs
 |_=>H9
def oI {γ:Type} (f:Int->Option γ):PV->Option γ
 | .int x=>f x
 |_=>H9
def oS {γ:Type} (f:HJ->Option γ):PV->Option γ
 | .str x=>f x
 |_=>H9
def oL {γ:Type} (f:List PV->Option γ):PV->Option γ
 | .list x=>f x
 |_=>H9
def giv {γ:Type} (c:Prop) [Decidable c] (r:γ):Option γ:=if c then H7 r else H9
def Ec:PV->Option PV
 | .list xs=>giv (xs.length<2^62) (.int xs.length)
 | .str x=>giv (x.length<2^62) (.int x.length)
 |_=>H9
def Eb (x:HJ):Option PV:=(ib x.cps.toList).map λc=> .int c
def a2 {γ:Type} (f:PV->PV->Option γ):List PV->Option γ
 |x::xs=>a1 (f x) xs
 |_=>H9
def fII {γ:Type} (f:Int->Int->Option γ) (vs:List PV):Option γ:=a2 (λx y=>oI (λa=>oI (f a) y) x) vs
def pbi:BI->List PV->Option PV
 | .len,vs=>a1 Ec vs
 | .ord,vs=>a1 (oS Eb) vs
 | .chr,vs=>a1 (oI λi=>giv ((decide (i<0)||decide (i>0x10FFFF))=Hb) (.str ⟨#[i.toNat]⟩)) vs
 | .max,vs=>a1 (oL λxs=>(fz xs).bind λl=>giv (0<l.length) (.int (zD l))) vs
 | .sum,vs=>a1 (oL λxs=>(fz xs).map λl=> .int l.sum) vs
 | .divmod,vs=>fII (λa b=>giv (b≠0/\J9 a b=Hb) (.tuple [.int (a.fdiv b),.int (a.fmod b)])) vs
def pme:ME->PV->List PV->Option PV
 | .count,a,vs=>(match a with
  | .list xs=>(fz xs).bind λl=>a1 (oI λy=>giv (xs.length<=1000) (.int (l.count y:Nat))) vs
  |a=>oS (λx=>a1 (oS λy=>H7 (.int (Txt.count x y))) vs) a)
 | .index,a,vs=>oL (λxs=>(jQ xs).bind λl=>a1 (oS λy=>giv (y∈l/\l.length<=1000) (.int (l.idxOf y:Nat))) vs) a
 | .join,a,vs=>oS (λx=>a1 (oL λys=>(jQ ys).bind λl=>giv (Q0 x l=Hd) (.str (LL x l))) vs) a
 | .split,a,vs=>oS (λx=>a1 (oS λy=>giv ((y.length==0)=Hb/\x.length<=Hz/\(ND x (Jz x y 0 x.length (x.length+1)) y.length).length<=Hz) (.list ((Txt.split x y).map .str))) vs) a
 | .lstrip,a,vs=>oS (λx=>a1 (oS λy=>giv (x.length<=Hz) (.str (K5 x y))) vs) a
 | .lower,a,vs=>oS (λx=>a0 (giv (KD (KR x).length=Hb) (.str (KR x))) vs) a
 | .bitlen,a,vs=>oI (λa=>a0 (H7 (.int (Hc a))) vs) a
def fh (a:Int):Nat->List Int
 |0=>[]
 |n+1=>a::fh (a+1) n
def di (a b:Int):Option (List PV):=
 if-1000000<=a/\a<=1000000/\ -1000000<=b/\b<=1000000 then H7 ((fh a (b-a).toNat).map .int)else H9
def bK:PV->Option (List PV)
 | .list xs=>H7 xs
 | .str s=>H7 ((gq s).map .str)
 | .range a b=>di a b
 | .dictI ks _=>H7 (ks.map .int)
 |_=>H9
def nN:List PV->List PV->List PV
 |[],_=>[]
 |x::xs,ys=>match ys with
  |y::ys=> .tuple [x,y]::nN xs ys
  |_=>[]
def eV {K:Type} [DecidableEq K] (k:K) (v:PV):List K->List PV->List K×List PV
 |[],_=>([k],[v])
 |k'::ks,vs=>match vs with
  |v'::vs=>if k'=k then(k'::ks,v::vs)else(k'::(eV k v ks vs).1,v'::(eV k v ks vs).2)
  |_=>([k],[v])
def gX:List PV->Option PV
 |x::xs=>match xs with
  |[]=>oI (λn=>H7 (.range 0 n)) x
  |y::ys=>oI (λa=>oI (λb=>a0 (H7 (.range a b)) ys) y) x
 |[]=>H9
def lm:PV->Option PV
 | .list xs=>giv (xs.length<=Hz) (.list xs)
 | .str s=>giv (s.length<=Hz) (.list ((gq s).map .str))
 | .range a b=>(di a b).map .list
 |_=>H9
@[elab_as_elim] theorem ba {c:Prop} [Decidable c] {r y:γ} {P:γ->Prop} (h:giv c r=H7 y) (k:c->P r):P y:=
 ct h (λhc e=>Hg e▸k hc) λ_ e=>a9 e
variable {ρ ρ':Ρ}
section
variable {c:γ} {x:PV} {P:Hl->Prop} {R:List Hl->Prop}
@[elab_as_elim] theorem on {f:Option γ} (hp:a0 f xs=H7 c) (q:av prog w ok h xs vs) (k:f=H7 c->R []):R vs:=by
 cases xs with
 |nil=>cases (show _=[]from q);exact k hp
 |cons=>exact a9 hp
@[elab_as_elim] theorem eu {f:PV->Option γ} (hp:a1 f xs=H7 c) (q:av prog w ok h xs vs) (k: ∀x v,f x=H7 c->Rep prog w ok h x v->R [v]):R vs:=by
 cases xs with
 |nil=>exact a9 hp
 |cons x xs=>obtain⟨v,r,rfl,q,t⟩:=q;exact on hp t λhp=>k x v hp q
@[elab_as_elim] theorem iu {f:Int->Option γ} (hp:oI f x=H7 c) (q:Rep prog w ok h x v) (k: ∀i t,f i=H7 c->P (.int i t)):P v:=by
 cases x with
 |int i=>obtain⟨t,rfl⟩:=q;exact k i t hp
 |_=>exact a9 hp
@[elab_as_elim] theorem lc {f:HJ->Option γ} (hp:oS f x=H7 c) (q:Rep prog w ok h x v) (k: ∀i t,f i=H7 c->P (.str i t)):P v:=by
 cases x with
 |str i=>obtain⟨t,rfl⟩:=q;exact k i t hp
 |_=>exact a9 hp
@[elab_as_elim] theorem sb {f:List PV->Option γ} (hp:oL f x=H7 c) (q:Rep prog w ok h x v) (k: ∀xs a vs,ok a->(a==IA)=Hb->IsL h a vs->av prog w ok h xs vs->f xs=H7 c->P (.ref a)):P v:=by
 cases x with
 |list i=>obtain⟨a,vs,rfl,h1,h2,h3,h4⟩:=q;exact k i a vs h1 h2 h3 h4 hp
 |_=>exact a9 hp
theorem wZ {f:List PV->Option γ} {Q:PV->Prop} (hp:oL f x=H7 c) (k: ∀i,f i=H7 c->Q (.list i)):Q x:=by
 cases x with
 |list i=>exact k i hp
 |_=>exact a9 hp
theorem wY {f:List PV->Option γ} {Q:PV->Prop} (hp:oT f x=H7 c) (k: ∀i,f i=H7 c->Q (.tuple i)):Q x:=by
 cases x with
 |tuple i=>exact k i hp
 |_=>exact a9 hp
theorem gy {f:PV->Option γ} {Q:List PV->Prop} (hp:a1 f xs=H7 c) (k: ∀x,f x=H7 c->Q [x]):Q xs:=by
 cases xs with
 |nil=>exact a9 hp
 |cons x xs=>
  cases xs with
  |nil=>exact k x hp
  |cons=>exact a9 hp
theorem xu {f:PV->PV->Option γ} {Q:List PV->Prop} (hp:a2 f xs=H7 c) (k: ∀x y,f x y=H7 c->Q [x,y]):Q xs:=by
 cases xs with
 |nil=>exact a9 hp
 |cons x xs=>exact gy (Q:=λl=>Q (x::l)) hp λy hy=>k x y hy
@[elab_as_elim] theorem dT {P:Ρ->List Nat->List PV->Ρ->Prop} {xs:List Nat} {vs:List PV} (h:aW ρ xs vs=H7 ρ') (h0: ∀ρ,P ρ [] [] ρ)
  (h1: ∀ρ x xs v vs ρ',aW (ρ.set x (H7 v)) xs vs=H7 ρ'->P (ρ.set x (H7 v)) xs vs ρ'->P ρ (x::xs) (v::vs) ρ'):P ρ xs vs ρ':=by
 induction xs generalizing ρ vs with
 |nil=>
  cases vs with
  |nil=>exact Hg h▸h0 ρ
  |cons=>exact a9 h
 |cons x xs ih=>
  cases vs with
  |nil=>exact a9 h
  |cons v vs=>exact h1 _ _ _ _ _ _ h (ih h)
@[elab_as_elim] theorem i8 {P:PT->PV->Ρ->Prop} {pt:PT} {v:PV} (h:aX ρ pt v=H7 ρ') (k1: ∀x,P (.one x) v (ρ.set x (H7 v))) (k2: ∀xs vs,aW ρ xs vs=H7 ρ'->P (.many xs) (.tuple vs) ρ'):P pt v ρ':=by
 cases pt with
 |one x=>exact Hg h▸k1 x
 |many xs=>exact wY (Q:=λv=>P (.many xs) v ρ') h λvs=>k2 xs vs
theorem jm {f:Int->Option γ} {Q:PV->Prop} (hp:oI f x=H7 c) (k: ∀i,f i=H7 c->Q (.int i)):Q x:=by
 cases x with
 |int i=>exact k i hp
 |_=>exact a9 hp
theorem iV {f:Int->Int->Option γ} {Q:List PV->Prop} (hp:fII f xs=H7 c) (k: ∀a b,f a b=H7 c->Q [.int a,.int b]):Q xs:=
 xu hp λx y h=>jm (Q:=λx=>Q [x,y]) h λa h=>jm (Q:=λy=>Q [.int a,y]) h λb h=>k a b h
theorem eA {c:Prop} [Decidable c] {r:γ} (h:c):giv c r=H7 r:=if_pos h
theorem fO {f:HJ->Option γ} {Q:PV->Prop} (hp:oS f x=H7 c) (k: ∀i,f i=H7 c->Q (.str i)):Q x:=by
 cases x with
 |str i=>exact k i hp
 |_=>exact a9 hp
end
structure Gam where
 gv:Nat->Option PV
 fn:Nat->List PV->Option PV
 gn:Nat->List PV->Option (List PV)
def zF:Option PV->Option (List HJ×List PV)
 |none=>H7 ([],[])
 |some v=>match v with
  | .dictS ks us=>H7 (ks,us)
  |_=>H9
def kvI:Option PV->Option (List Int×List PV)
 |none=>H7 ([],[])
 |some v=>match v with
  | .dictI ks us=>H7 (ks,us)
  |_=>H9
def zA {K:Type} [DecidableEq K] (f:List K->List PV->PV) (k:K) (b:PV) (p:List K×List PV):Option PV:=giv ((eV k b p.1 p.2).1.length<=1000) (f (eV k b p.1 p.2).1 (eV k b p.1 p.2).2)
def kQ (Q8:Option PV) (a b:PV):Option PV:=match a with
 | .int k=>(kvI Q8).bind (zA .dictI k b)
 |a=>oS (λk=>(zF Q8).bind (zA .dictS k b)) a
mutual
noncomputable def pev (Γ:Gam):PE->Ρ->Option PV
 | .cI i,_=>H7 (.int i)
 | .cS s,_=>H7 (.str s)
 | .cB b,_=>H7 (.bool b)
 | .cN,_=>H7 .none
 | .var x,ρ=>ρ.get x
 | .glo k,_=>Γ.gv k
 | .bin op l r,ρ=>do
  let a<-pev Γ l ρ
  let b<-pev Γ r ρ
  eg op a b
 | .neg e,ρ=>do
  match<-pev Γ e ρ with
  | .int i=>H7 (.int (-i))
  |_=>H9
 | .inv e,ρ=>do
  match<-pev Γ e ρ with
  | .int i=>H7 (.int (Builtin.bitNot i))
  |_=>H9
 | .not e,ρ=>do
  let v<-pev Γ e ρ
  let b<-ff v
  H7 (.bool (!b))
 | .cmp op l r,ρ=>do
  let a<-pev Γ l ρ
  let b<-pev Γ r ρ
  (gp op a b).map .bool
 | .cmp2 o1 o2 l m r,ρ=>do
  let a<-pev Γ l ρ
  let b<-pev Γ m ρ
  match<-gp o1 a b with
  |false=>H7 (.bool Hb)
  |true=>
   let c<-pev Γ r ρ
   (gp o2 b c).map .bool
 | .boolop a es,ρ=>(je Γ a es ρ).map .bool
 | .ife c a b,ρ=>do
  let v<-pev Γ c ρ
  match<-ff v with
  |true=>pev Γ a ρ
  |false=>pev Γ b ρ
 | .list es,ρ=>(cE Γ es ρ).bind b_
 | .tup es,ρ=>(cE Γ es ρ).bind ou
 | .dicI ks vs,ρ=>(cE Γ vs ρ).bind λus=>giv (ks.length=us.length/\ks.Nodup/\0<ks.length/\ks.length<=15) (.dictI ks us)
 | .comp1 Qi t it ifs Qv,ρ=>do
  let xs<-pit Γ it ρ
  let ρ:=aw ρ Qi;let ys<-xs.foldlM (λQ8 x=>do
   let ρ'<-aX ρ t x
   match<-cr Γ ifs ρ' with
   |true=>do let y<-pev Γ Qv ρ';H7 (Q8++[y])
   |false=>H7 Q8) []
  b_ ys
 | .comp2 Qi t it ifs t2 Tq QW Qv,ρ=>do
  let xs<-pit Γ it ρ
  let ρ:=aw ρ Qi;let ys<-xs.foldlM (λQ8 x=>do
   let ρ'<-aX ρ t x
   match<-cr Γ ifs ρ' with
   |true=>if wV t2 ρ'=Hd then(pit Γ Tq ρ').bind (λus=>
     us.foldlM (λQ8 u=>do
      let QL<-aX ρ' t2 u
      match<-cr Γ QW QL with
      |true=>do let y<-pev Γ Qv QL;H7 (Q8++[y])
      |false=>H7 Q8) Q8)else H9
   |false=>H7 Q8) []
  b_ ys
 | .dcomp Qi t it ifs k v,ρ=>do
  let xs<-pit Γ it ρ
  let ρ:=aw ρ Qi;let d<-xs.foldlM (λQ8 x=>do
   let ρ'<-aX ρ t x
   match<-cr Γ ifs ρ' with
   |true=>do
    let a<-pev Γ k ρ';let b<-pev Γ v ρ'
    (kQ Q8 a b).map H7
   |false=>H7 Q8) (H9:Option PV)
  d
 | .idx e i,ρ=>do
  let a<-pev Γ e ρ
  let b<-pev Γ i ρ
  gi a b
 | .slice e lo hi st,ρ=>do
  let a<-pev Γ e ρ
  let l<-pev Γ lo ρ
  let h<-pev Γ hi ρ
  let s<-pev Γ st ρ
  bz a l h s
 | .call f args,ρ=>do
  let vs<-cE Γ args ρ
  Γ.fn f vs
 | .bi k args,ρ=>do
  let vs<-cE Γ args ρ
  pbi k vs
 | .meth k o args,ρ=>do
  let a<-pev Γ o ρ
  let vs<-cE Γ args ρ
  pme k a vs
 | .listOf e,ρ=>do
  let v<-pev Γ e ρ
  lm v
 | .listZip a b,ρ=>do
  match<-pev Γ a ρ,<-pev Γ b ρ with
  | .list xs,.list ys=>if xs.length=ys.length then b_ (nN xs ys)else H9
  |_,_=>H9
 | .listGen f args,ρ=>do
  let vs<-cE Γ args ρ
  (Γ.gn f vs).bind b_
 | .rng args,ρ=>do
  let vs<-cE Γ args ρ
  gX vs
noncomputable def cE (Γ:Gam):List PE->Ρ->Option (List PV)
 |[],_=>H7 []
 |e::es,ρ=>do
  let v<-pev Γ e ρ
  let vs<-cE Γ es ρ
  H7 (v::vs)
noncomputable def cr (Γ:Gam):List PE->Ρ->Option Bool
 |[],_=>H7 Hd
 |e::es,ρ=>do
  let v<-pev Γ e ρ
  match<-ff v with
  |true=>cr Γ es ρ
  |false=>H7 Hb
noncomputable def je (Γ:Gam) (Ss:Bool):List PE->Ρ->Option Bool
 |[],_=>H7 Ss
 |e::es,ρ=>do
  let v<-pev Γ e ρ
  let b<-ff v
  if b=Ss then je Γ Ss es ρ else H7 b
noncomputable def pit (Γ:Gam):PI->Ρ->Option (List PV)
 | .ex e,ρ=>do
  let v<-pev Γ e ρ
  bK v
 | .rev e,ρ=>do
  match<-pev Γ e ρ with
  | .list xs=>H7 xs.reverse
  |_=>H9
 | .gen f args,ρ=>do
  let vs<-cE Γ args ρ
  Γ.gn f vs
end
def aJ (Γ:Gam) (e:PE) (ρ:Ρ):Option Bool:=(pev Γ e ρ).bind ff
inductive aO where
 |val (k:Nat)|fn (k:Nat)|gen (k:Nat)|bi (k:BI)|ty (s:String)
abbrev ay:=List (HJ×J1)
def fw:Option J1->Nat
 |some .local=>1
 |some .cell=>1
 |some .free=>1
 |some .globalImplicit=>2
 |_=>0
def aB (x:HJ):Bool:= !(x==("__debug__" :HJ))&& !(x==("__classdict__" :HJ))
def bv:Option J1->Bool
 |some .cell=>Hd
 |some .free=>Hd
 |_=>Hb
def bR (ns:ay) (sc:Mv):Bool:=
 sc.kind== .function&&sc.names.all (λp=>(p.2 != .free||bv (ns.lookup p.1))&&sc.names.lookup p.1==H7 p.2)
def a_ (ns:ay) (x:HJ):Bool:=(ns.lookup x==H7 .local||ns.lookup x==H7 .cell)&&aB x
def nm1:Expr->Option HJ
 | .Name x _=>H7 x
 |_=>H9
def zx:Expr->Option (List Expr)
 | .Tuple es _ _=>H7 es
 |_=>H9
def tg1 (Q4:List HJ) (ns:ay) (e:Expr):Option Nat:=(nm1 e).bind λx=>grd (a_ ns x&&Q4.contains x) (H7 (Q4.idxOf x))
def tgs (Q4:List HJ) (ns:ay):List Expr->Option (List Nat)
 |[]=>H7 []
 |e::es=>ob2 (λa as=>a::as) (tg1 Q4 ns e) (tgs Q4 ns es)
def sPT (Q4:List HJ) (ns:ay) (e:Expr):Option PT:=
 (zx e).elim ((tg1 Q4 ns e).map .one) λes=>(tgs Q4 ns es).bind λxs=>grd (decide (2<=xs.length)) (H7 (.many xs))
variable {P:Expr->Prop} {e:Expr} {x:HJ}
@[elab_as_elim] theorem uw (h:nm1 e=H7 x) (k: ∀p,P (.Name x p)):P e:=by
 cases e with
 |Name y p=>exact Hg h▸k p
 |_=>exact a9 h
@[elab_as_elim] theorem qe {x:List Expr} (h:zx e=H7 x) (k: ∀c p,P (.Tuple x c p)):P e:=by
 cases e with
 |Tuple y c p=>exact Hg h▸k c p
 |_=>exact a9 h
theorem lg (h:nm1 e=H7 x): ∃p,e= .Name x p:=uw (P:=λe=> ∃p,e= .Name x p) h λp=>⟨p,rfl⟩
theorem zT {vs:List Expr} (h:zx e=H7 vs): ∃k p,e= .Tuple vs k p:=qe (P:=λe=> ∃k p,e= .Tuple vs k p) h λk p=>⟨k,p,rfl⟩
variable {Q4:List HJ} {ns:ay}
@[elab_as_elim] theorem kD {P:Expr->Nat->Prop} {i:Nat} (h:tg1 Q4 ns e=H7 i) (k: ∀x p,a_ ns x=Hd->x∈Q4->P (.Name x p) (Q4.idxOf x)):P e i:=
 ae h λx hx h=>cX h λhc h=>de hc λh1 h2=>Hg h▸uw (P:=λe=>P e (Q4.idxOf x)) hx λp=>k x p h1 (by simpa using h2)
@[elab_as_elim] theorem oB {P:Expr->PT->Prop} {pt:PT} (h:sPT Q4 ns e=H7 pt) (k1: ∀x p,a_ ns x=Hd->x∈Q4->P (.Name x p) (.one (Q4.idxOf x)))
  (k2: ∀es c p xs,tgs Q4 ns es=H7 xs->2<=xs.length->P (.Tuple es c p) (.many xs)):P e pt:=
 ed h (λes he h=>ae h λxs RX h=>cX h λh2 h=>Hg h▸qe (P:=λe=>P e (.many xs)) he λc p=>k2 es c p xs RX (of_decide_eq_true h2))
  λ_ h=>aL (P:=P e) h λi hi=>kD (P:=λe i=>P e (.one i)) hi k1
variable {p:Jq}
theorem lx (hx:a_ ns x=Hd) (hm:x∈Q4):tg1 Q4 ns (.Name x p)=H7 (Q4.idxOf x):=if_pos (HZ.mpr ⟨hx,by simpa using hm⟩)
theorem oA (hx:a_ ns x=Hd) (hm:x∈Q4):sPT Q4 ns (.Name x p)=H7 (.one (Q4.idxOf x)):=congrArg (Lu PT.one) (lx hx hm)
def cj (Q4:List HJ) (sc:Mv):List Nat:=(sc.names.filter λp=>p.2== .local||p.2== .cell).map λp=>Q4.idxOf p.1
def zH:BI->String
 | .len=> "len" | .ord=> "ord" | .chr=> "chr" | .max=> "max" | .sum=> "sum" | .divmod=> "divmod"
def o4:HJ->Option ME:=λx=>
 if x== "count" then H7 .count else if x== "join" then H7 .join else if x== "split" then H7 .split
 else if x== "lstrip" then H7 .lstrip else if x== "lower" then H7 .lower else if x== "bit_length" then H7 .bitlen else if x== "index" then H7 .index else H9
def uj:Expr->Option (Option Expr×Option Expr×Option Expr)
 | .Slice a b c _=>H7 (a,b,c)
 |_=>H9
def o0:Expr->Bool
 | .Starred .. =>Hb
 |_=>Hd
def iK:Expr->Bool
 | .Set .. =>Hb
 |_=>Hd
def few {α:Type} (xs:List α):Bool:=decide (xs.length<=10)
def qF:Expr->Bool
 | .Call (.Name _ _) [] [] _=>Hb
 |_=>Hd
def two {α:Type}:List α->Option (α×α)
 |x::xs=>(ib xs).map λy=>(x,y)
 |[]=>H9
theorem gS {l:List α} {p:α×α} (h:two l=H7 p):l=[p.1,p.2]:=by
 cases l with
 |nil=>exact a9 h
 |cons a l=>exact aL h λy hy=>congrArg (List.cons a) (db hy)
def pY (E:Expr->Option PE):List Expr->Option (List PE)
 |[]=>H7 []
 |e::es=>ob2 (λa as=>a::as) (E e) (pY E es)
def En:Option Expr->Option Int
 |some (.Constant c _ _)=>(match c with
  | .int i=>H7 i
  |_=>H9)
 |_=>H9
def iU:List (Option Expr)->Option (List Int)
 |[]=>H7 []
 |k::ks=>ob2 (λa b=>a::b) (En k) (iU ks)
def sC:Const->Option PE
 | .int i=>H7 (.cI i)
 | .str s=>H7 (.cS s)
 | .bool b=>H7 (.cB b)
 | .none=>H7 .cN
 |_=>H9
def Gz:aO->Option PE
 | .val k=>H7 (.glo k)
 |_=>H9
def sN (gl:HJ->Option aO) (Q4:List HJ) (ns:ay) (x:HJ):Option PE:=if fw (ns.lookup x)=1 then H7 (.var (Q4.idxOf x))else grd (decide (fw (ns.lookup x)=2)) ((gl x).bind Gz)
def sLA (E:Expr->Option PE) (L:List Expr->Option (List PE)) (args:List Expr):aO->Option PE
 | .gen k=>(L args).map (.listGen k)
 | .ty t=>if t= "zip" then(two args).bind λq=>ob2 .listZip (E q.1) (E q.2)else H9
 |_=>H9
def sF (E:Expr->Option PE) (W:Expr->Option PE) (L:Option (List PE)) (args:List Expr):Option aO->Option PE
 |none=>H9
 |some g=>match g with
 | .fn k=>L.map (.call k)
 | .bi k=>L.map (.bi k)
 | .ty t=>if t= "list" then(ib args).bind λa=>(E a).elim (W a) λe=>H7 (.listOf e)else if t= "range" then L.map .rng else H9
 |_=>H9
def sW (E:Expr->Option PE) (L:Option (List PE)) (args:List Expr):Option aO->Option PI
 |none=>H9
 |some g=>match g with
 | .fn k=>L.map λas=> .ex (.call k as)
 | .bi k=>L.map λas=> .ex (.bi k as)
 | .ty t=>if t= "range" then L.map λas=> .ex (.rng as)else(ib args).bind λa=>if t= "list" then(E a).map λe=> .ex (.listOf e)else if t= "reversed" then(E a).map .rev else H9
 |_=>H9
def t_:Expr->Option (Expr×List Expr×Jq)
 | .Call f args WD p=>(match WD with
  |[]=>H7 (f,args,p)
  |_=>H9)
 |_=>H9
def wH:Expr->Option (Expr×HJ×Jq)
 | .Attribute o m p=>H7 (o,m,p)
 |_=>H9
theorem jO {q:Expr×List Expr×Jq} (h:t_ e=H7 q):e= .Call q.1 q.2.1 [] q.2.2:=by
 cases e with
 |Call f args WD p=>
  cases WD with
  |nil=>exact Hg h▸rfl
  |cons=>exact a9 h
 |_=>exact a9 h
theorem nH {q:Expr×HJ×Jq} (h:wH e=H7 q):e= .Attribute q.1 q.2.1 q.2.2:=by
 cases e with
 |Attribute o m p=>exact Hg h▸rfl
 |_=>exact a9 h
def jq (ns:ay) (e:Expr):Option (HJ×List Expr):=(t_ e).bind λq=>(nm1 q.1).bind λf=>grd (aB f&&fw (ns.lookup f)==2&&few q.2.1) (H7 (f,q.2.1))
def w_ (e:Expr):Option (ME×Expr×List Expr):=(t_ e).bind λq=>(wH q.1).bind λa=>grd (few q.2.1&&qF a.1&&a.2.2.endLine==q.2.2.line) ((o4 a.2.1).map λk=>(k,a.1,q.2.1))
def sG (E:ay->Expr->Option PE) (I:ay->Expr->Option PI) (Ts:ay->List Expr->Option (List PE)) (Q4:List HJ) (ns sn:ay) (g:LW):Option (PT×PI×List PE):=
 grd (iK g.iter&&g.is_async==0) (ob3 (λa b c=>(a,b,c)) (sPT Q4 sn g.target) (I ns g.iter) (Ts sn g.ifs))
mutual
noncomputable def sE (gl:HJ->Option aO) (Q4:List HJ):Nat->ay->Expr->Option PE
 |0,_,_=>H9
 |n+1,ns,e=>match e with
  | .Constant c _ _=>sC c
  | .Name x _=>grd (aB x) (sN gl Q4 ns x)
  | .BinOp l op r _=>ob2 (.bin op) (sE gl Q4 n ns l) (sE gl Q4 n ns r)
  | .UnaryOp op x _=>(match op with
   | .USub=>(sE gl Q4 n ns x).map .neg
   | .Invert=>(sE gl Q4 n ns x).map .inv
   |_=>H9)
  | .Compare l UO rs _=>(ib UO).bind λop=>(ib rs).bind λr=>grd (!MR op r) (ob2 (.cmp op) (sE gl Q4 n ns l) (sE gl Q4 n ns r))
  | .IfExp c a b _=>ob3 .ife (sT gl Q4 n ns c) (sE gl Q4 n ns a) (sE gl Q4 n ns b)
  | .List es _=>(sL gl Q4 n ns es).map .list
  | .Tuple es _ _=>(sL gl Q4 n ns es).map .tup
  | .ListComp Qv gs sc _=>grd (bR ns sc) ((ib gs).elim
    ((two gs).bind λq=>ob3 (λg g2 e=> .comp2 (cj Q4 sc) g.1 g.2.1 g.2.2 g2.1 g2.2.1 g2.2.2 e) (sG (sE gl Q4 n) (sI gl Q4 n) (sTs gl Q4 n) Q4 ns sc.names q.1)
     (sG (sE gl Q4 n) (sI gl Q4 n) (sTs gl Q4 n) Q4 sc.names sc.names q.2) (sE gl Q4 n sc.names Qv))
    λg=>ob2 (λg e=> .comp1 (cj Q4 sc) g.1 g.2.1 g.2.2 e) (sG (sE gl Q4 n) (sI gl Q4 n) (sTs gl Q4 n) Q4 ns sc.names g) (sE gl Q4 n sc.names Qv))
  | .DictComp k v gs sc _=>grd (bR ns sc) ((ib gs).bind λg=>
    ob3 (λg k v=> .dcomp (cj Q4 sc) g.1 g.2.1 g.2.2 k v) (sG (sE gl Q4 n) (sI gl Q4 n) (sTs gl Q4 n) Q4 ns sc.names g) (sE gl Q4 n sc.names k) (sE gl Q4 n sc.names v))
  | .Subscript v i _=>(uj i).elim (ob2 .idx (sE gl Q4 n ns v) (sE gl Q4 n ns i)) λq=>
    ob2 (λa p=> .slice a p.1 p.2.1 p.2.2) (sE gl Q4 n ns v) (ob3 (λa b c=>(a,b,c)) (sO gl Q4 n ns q.1) (sO gl Q4 n ns q.2.1) (sO gl Q4 n ns q.2.2))
  | .Call .. =>(jq ns e).elim ((w_ e).bind λq=>ob2 (.meth q.1) (sE gl Q4 n ns q.2.1) (sL gl Q4 n ns q.2.2)) λq=>sF (sE gl Q4 n ns) (λa=>(jq ns a).bind λq=>(gl q.1).bind (sLA (sE gl Q4 n ns) (sL gl Q4 n ns) q.2)) (sL gl Q4 n ns q.2) q.2 (gl q.1)
  | .Dict keys vs _=>(iU keys).bind λks=>(pY (sE gl Q4 n ns) vs).map (.dicI ks)
  |_=>H9
noncomputable def sO (gl:HJ->Option aO) (Q4:List HJ):Nat->ay->Option Expr->Option PE
 |0,_,_=>H9
 |_+1,_,H9=>H7 .cN
 |n+1,ns,H7 e=>sE gl Q4 n ns e
noncomputable def sL (gl:HJ->Option aO) (Q4:List HJ):Nat->ay->List Expr->Option (List PE)
 |0,_,_=>H9
 |_+1,_,[]=>H7 []
 |n+1,ns,e::es=>ob2 (λa as=>a::as) (sE gl Q4 n ns e) (sL gl Q4 n ns es)
noncomputable def sT (gl:HJ->Option aO) (Q4:List HJ):Nat->ay->Expr->Option PE
 |0,_,_=>H9
 |n+1,ns,e=>match e with
  | .UnaryOp op x _=>(match op with
   | .Not=>(sT gl Q4 n ns x).map .not
   |_=>H9)
  | .Compare l UO rs _=>(ib UO).elim ((two UO).bind λo=>(two rs).bind λr=>grd (!lastMarks [o.1,o.2] [r.1,r.2]) (ob3 (.cmp2 o.1 o.2) (sE gl Q4 n ns l) (sE gl Q4 n ns r.1) (sE gl Q4 n ns r.2)))
    λop=>(ib rs).bind λr=>grd (!MR op r) (ob2 (.cmp op) (sE gl Q4 n ns l) (sE gl Q4 n ns r))
  | .BoolOp op vs _=>(sTs gl Q4 n ns vs).map (.boolop (op== .And))
  | .IfExp .. =>H9
  |e=>sE gl Q4 n ns e
noncomputable def sTs (gl:HJ->Option aO) (Q4:List HJ):Nat->ay->List Expr->Option (List PE)
 |0,_,_=>H9
 |_+1,_,[]=>H7 []
 |n+1,ns,e::es=>ob2 (λa as=>a::as) (sT gl Q4 n ns e) (sTs gl Q4 n ns es)
noncomputable def sI (gl:HJ->Option aO) (Q4:List HJ):Nat->ay->Expr->Option PI
 |0,_,_=>H9
 |n+1,ns,e=>(jq ns e).elim ((sE gl Q4 n ns e).map .ex) λq=>sW (sE gl Q4 n ns) (sL gl Q4 n ns q.2) q.2 (gl q.1)
end
theorem uz (h:IL) (o:Oh):h.objs.size<(h.push o).objs.size:=by rw [I8];exact HR _
inductive aY (h:IL) (Q5:MY) (x:HJ) (v:Hl):Prop
 |loc (m:HJ->Option Hl) (k:Q5.kindOf x=H7 .local) (n:h.Ns Q5.locals m) (e:m x=H7 v):aY h Q5 x v
 |cel (c:Hw) (k:Q5.kindOf x=H7 .cell∨Q5.kindOf x=H7 .free) (l:Q5.cells.lookup x=H7 c) (e:h.IsCell c (H7 v)):aY h Q5 x v
variable {Q5:MY}
theorem aY.keep (q:aY h Q5 x v) (k:HK h h'):aY h' Q5 x v:=by
 cases q with
 |loc m a b c=>exact .loc m a (dD b (k _)) c
 |cel c a b d=>exact .cel c a b (aN d (k _))
structure cx (Q5:MY) (ns:ay):Prop where
 kind:Q5.scope.kind= .function
 glob:Q5.globals=IE
 blt:Q5.builtins=KW
 cls: ∀x,fw (Q5.kindOf x)=fw (ns.lookup x)
 cel: ∀x,bv (ns.lookup x)=bv (Q5.kindOf x)
 cells: ∀x,bv (Q5.kindOf x)=Hd-> ∃c,Q5.cells.lookup x=H7 c
 inj: ∀x y c,bv (Q5.kindOf x)=Hd->bv (Q5.kindOf y)=Hd->Q5.cells.lookup x=H7 c->Q5.cells.lookup y=H7 c->x=y
 own: ∀x,ns.lookup x=H7 .cell->Q5.kindOf x=H7 .cell
def cU (prog:IG) (w:J0) (Q4:List HJ) (ok:Hw->Prop) (h:IL) (Q5:MY) (ρ:Ρ):Prop:=
 ∀x pv,fw (Q5.kindOf x)=1->ρ.get (Q4.idxOf x)=H7 pv-> ∃v,aY h Q5 x v/\Rep prog w ok h pv v
theorem cU.keep (q:cU prog w Q4 ok h Q5 ρ) (k:HK h h'):cU prog w Q4 ok h' Q5 ρ:=
 λx pv a b=>by obtain⟨v,c,d⟩:=q x pv a b;exact⟨v,c.keep k,d.keep k⟩
theorem cU.wide (q:cU prog w Q4 ok h Q5 ρ) (k: ∀a,ok a->ok' a):cU prog w Q4 ok' h Q5 ρ:=
 λx pv a b=>by obtain⟨v,c,d⟩:=q x pv a b;exact⟨v,c,d.wide k⟩
def AOk (d:Nat) (A:IZ):Prop:=A.handled=H9/\A.depth+d<950/\A.units+10*d+60<9900
variable {d:Nat}
theorem AOk.in1 (h:AOk (d+1) A):AOk d A.in1:=⟨h.1,by have:=h.2.1;show A.depth+d<950;exact J8 (HP (IN this)),by have:=h.2.2;show A.units+1+10*d+60<9900;exact aIn this⟩
theorem AOk.in2 (h:AOk (d+1) A):AOk d A.in1.in1:=⟨h.1,by have:=h.2.1;show A.depth+d<950;lia,by have:=h.2.2;show A.units+1+1+10*d+60<9900;lia⟩
theorem AOk.room (h:AOk d A):A.depth<recursionLimit:=by have:=h.2.1;show A.depth<1000;exact FT this
theorem AOk.units (h:AOk d A):A.units+50<OW:=by have:=h.2.2;show A.units+50<9900;exact Hk (HE (HD _ _) (by decide)) this
theorem AOk.mono {d':Nat} (h:AOk d A) (k:d'<=d):AOk d' A:=⟨h.1,by have:=h.2.1;exact Hk (Io k _) this,by have:=h.2.2;exact FX k this⟩
def cG (H:IL) (x:HJ) (v:Hl):Prop:= ∃mg mb,H.Ns IE mg/\H.Ns KW mb/\(mg x=H7 v∨(mg x=H9/\mb x=H7 v))
def aj (prog:IG) (w:J0) (H:IL) (d:Nat) (f:Hw) (args:List PV) (r:PV):Prop:=
 ∀(A:IZ) (s:Hh) (ok:Hw->Prop) (vs:List Hl),AOk d A->HK H s.heap->bS ok s.heap->Sys s.heap->av prog w ok s.heap args vs->
  WP (Hj prog w) A (KG (.ref f) vs) (λv s'=>Ext s s'/\Rep prog w ok s'.heap r v) s
structure Cx where
 prog:IG
 w:J0
 H:IL
 gl:HJ->Option aO
 d:Nat
def bF (Q5:MY) (a:Hw):Prop:=a=Q5.locals∨ ∃x,bv (Q5.kindOf x)=Hd/\Q5.cells.lookup x=H7 a
theorem aY.at (q:aY h Q5 x v) (k: ∀a,bF Q5 a-> ∀o,vis h a=H7 o->vis h' a=H7 o):aY h' Q5 x v:=by
 cases q with
 |loc m a b c=>exact .loc m a (dD b (k _ (.inl rfl))) c
 |cel c a b d=>exact .cel c a b (aN d (k c (.inr ⟨x,by rcases a with a|a<;>rw [a]<;>rfl,b⟩)))
structure d5 (C:Cx) (Q4:List HJ) (A:IZ) (Q5:MY) (ns:ay) (ρ:Ρ) (ok:Hw->Prop) (s:Hh):Prop where
 a:AOk C.d A
 e:cx Q5 ns
 h:HK C.H s.heap
 r:cU C.prog C.w Q4 ok s.heap Q5 ρ
 o:bS ok s.heap
 m:Sys s.heap
 l:ρ.length<=Q4.length
 v: ∀a,bF Q5 a-> ∃o,vis s.heap a=H7 o
variable {C:Cx}
theorem d5.ext {s':Hh} (G:d5 C Q4 A Q5 ns ρ ok s) (x:Ext s s'):d5 C Q4 A Q5 ns ρ ok s':=
 ⟨G.a,G.e,G.h.trans x.keep,G.r.keep x.keep,G.o.keep x.size,G.m.keep x.keep,G.l,λa h=>by obtain⟨o,e⟩:=G.v a h;exact⟨o,x.keep _ _ e⟩⟩
abbrev Ev (C:Cx) (ok:Hw->Prop) (r:PV) (s:Hh):Hl->Hh->Prop:=λv s'=>Ext s s'/\Rep C.prog C.w ok s'.heap r v
abbrev EvL (C:Cx) (ok:Hw->Prop) (rs:List PV) (s:Hh):List Hl->Hh->Prop:=λvs s'=>Ext s s'/\av C.prog C.w ok s'.heap rs vs
variable {op:Lg} {l r:Expr} {c:PV} {i:Int} {k:Nat} {f:Hl} {args:List (Bool×J_ Hl)} {es:List Expr} {rs:List PV}
section
theorem df (h:aB x=Hd):(x==("__debug__" :HJ))=Hb/\(x==("__classdict__" :HJ))=Hb:=by simpa [aB]using h
theorem jo (E:cx Q5 ns) (hx:aB x=Hd) (V:aY s.heap Q5 x v) (h:Q v s):
  WP (Hj C.prog C.w) A (IY (.Name x pos) Q5) Q s:=by
 refine wpAny_Name ?_ (df hx).1;cases V with
 |loc m k n e=>exact wpAny_loadName_local E.kind k n e h
 |cel c k l e=>
  rcases k with k|k
  ·exact wpAny_loadName_cell E.kind k l e h
  ·exact wpAny_loadName_free E.kind k l e h (df hx).2
theorem Fe {k:Option J1} (h:fw k=2):k=H7 .globalImplicit:=by
 cases k with
 |none=>cases h
 |some k=>cases k<;>first|rfl|cases h
theorem cD (E:cx Q5 ns) (hx:aB x=Hd) (hk:fw (ns.lookup x)=2) (hH:HK C.H s.heap) (L:cG C.H x v) (h:Q v s):
  WP (Hj C.prog C.w) A (IY (.Name x pos) Q5) Q s:=by
 refine Name_function_global E.kind (Fe ((E.cls x).trans hk)) ?_ (df hx).1;obtain⟨mg,mb,a,b,c⟩:=L;rcases c with c|⟨c,d⟩
 ·exact loadGlobal_global (mg:=mg) (E.glob▸dD a (hH _)) c h
 ·exact loadGlobal_builtin (mg:=mg) (mb:=mb) (E.glob▸dD a (hH _)) c (E.blt▸dD b (hH _)) d h
theorem sk {a b:PV} (hl: ∀s',Ext s s'->WP (Hj C.prog C.w) A (IY l Q5) (Ev C ok a s') s')
  (hr: ∀s',Ext s s'->WP (Hj C.prog C.w) A (IY r Q5) (Ev C ok b s') s')
  (S1: ∀s' va vb,Ext s s'->Rep C.prog C.w ok s'.heap a va->Rep C.prog C.w ok s'.heap b vb->WP (Hj C.prog C.w) A (Oe op va vb) (Ev C ok c s') s'):
  WP (Hj C.prog C.w) A (IY (.BinOp l op r pos) Q5) (Ev C ok c s) s:=by
 refine wpAny_BinOp ((hl s (.refl s)).mono λva s₁ ⟨x₁,ra⟩=>(hr s₁ x₁).mono λvb s₂ ⟨x₂,rb⟩=>(S1 s₂ va vb (x₁.trans x₂) (ra.keep x₂.keep) rb).mono λv s₃ ⟨x₃,rc⟩=>⟨(x₁.trans x₂).trans x₃,rc⟩)
theorem xj {op:UnaryOp} {a:PV} (he:WP (Hj C.prog C.w) A (IY e Q5) (Ev C ok a s) s)
  (S1: ∀s' va,Rep C.prog C.w ok s'.heap a va->WP (Hj C.prog C.w) A (unaryOp op va) (Ev C ok c s') s'):
  WP (Hj C.prog C.w) A (IY (.UnaryOp op e pos) Q5) (Ev C ok c s) s:=
 UnaryOp_ (he.mono λva s₁ ⟨x₁,ra⟩=>(S1 s₁ va ra).mono λv s₃ ⟨x₃,rc⟩=>⟨x₁.trans x₃,rc⟩)
theorem Dy {op:Ok} {a b:PV} (hm:MR op r=Hb) (hl: ∀s',Ext s s'->WP (Hj C.prog C.w) A (IY l Q5) (Ev C ok a s') s')
  (hr: ∀s',Ext s s'->WP (Hj C.prog C.w) A (IY r Q5) (Ev C ok b s') s')
  (S1: ∀s' va vb,Ext s s'->Rep C.prog C.w ok s'.heap a va->Rep C.prog C.w ok s'.heap b vb->WP (Hj C.prog C.w) A (K_ op va vb) (Ev C ok c s') s'):
  WP (Hj C.prog C.w) A (IY (.Compare l [op] [r] pos) Q5) (Ev C ok c s) s:=by
 refine wpAny_Compare1 ((hl s (.refl s)).mono λva s₁ ⟨x₁,ra⟩=>(hr s₁ x₁).mono λvb s₂ ⟨x₂,rb⟩=>(S1 s₂ va vb (x₁.trans x₂) (ra.keep x₂.keep) rb).mono λv s₃ ⟨x₃,rc⟩=>⟨(x₁.trans x₂).trans x₃,rc⟩) hm
theorem Dx:WP (Hj C.prog C.w) A (IY (.Constant (.int i) k pos) Q5) (Ev C ok (.int i) s) s:=NM ⟨.toks _ _,_,rfl⟩
theorem Dw {i:HJ}:WP (Hj C.prog C.w) A (IY (.Constant (.str i) k pos) Q5) (Ev C ok (.str i) s) s:=Constant_str ⟨.toks _ _,_,rfl⟩
theorem AX {i:Bool}:WP (Hj C.prog C.w) A (IY (.Constant (.bool i) k pos) Q5) (Ev C ok (.bool i) s) s:=Constant_bool ⟨.refl _,rfl⟩
theorem AV:WP (Hj C.prog C.w) A (IY (.Constant .none k pos) Q5) (Ev C ok .none s) s:=Constant_none ⟨.refl _,rfl⟩
theorem aU {first:List Hl} (hf: ∀a,f≠ .ref a) (Sg:args.any (·.1)=Hb)
  (h:WP (Hj C.prog C.w) A (Oc f Hd args []) (λa s₁=>WP (Hj C.prog C.w) A (KG f (first++a.pos) a.kw) Q s₁) s):
  WP (Hj C.prog C.w) A (OV pos f first args []) Q s:=by
 unfold OV;refine WP.bind (WP.hold (h.mono λa s₁ h₁=>WP.at ?_));have hs:(args.any (·.1)||([]:List (Option HJ×J_ Hl)).any (·.1.isNone))=Hb:=(Nj _).trans Sg
 haveI:keeperOf f=pure .machine:=by unfold keeperOf;cases f<;>first|rfl|exact absurd rfl (hf _)
 rw [this];refine He (Hi ?_);revert hs;generalize (args.any (·.1)||([]:List (Option HJ×J_ Hl)).any (·.1.isNone))=bb
 intro hs;subst hs;exact WP.bind (h₁.mono λr s₂ hr=>He (I_ (wpAny_point (Hi hr))))
theorem bj {Q:Args->Hh->Prop} (Sg:args.all (λa=> !a.1)=Hd)
  (h:WP (Hj C.prog C.w) A (Ob args) (λvs s'=>Q ⟨vs,[]⟩ s') s):WP (Hj C.prog C.w) A (Oc f Hd args []) Q s:=by
 unfold Oc;cases args with
 |nil=>
  show WP _ A (Ob []>>=_) Q s;refine WP.bind (h.mono λvs s' h'=> ?_);exact WP.hold (He (Hi (He (Hi (Hi h')))))
 |cons x Qo=>
  obtain⟨b,x⟩:=x;haveI hb:b=Hb:=by simpa using(HZ.mp Sg).1
  subst hb;show WP _ A (Ob ((Hb,x)::Qo)>>=_) Q s;refine WP.bind (h.mono λvs s' h'=> ?_);exact WP.hold (He (Hi (He (Hi (Hi h')))))
theorem eN:(Ot pos (Le es Q5)).any (·.1)=(Le es Q5).any (·.1):=by
 unfold Ot;rw [List.any_map]
 rfl
theorem bX:(Ot pos (Le es Q5)).all (λa=> !a.1)=(Le es Q5).all (λa=> !a.1):=by
 unfold Ot;rw [List.all_map]
 rfl
theorem fV: ∀{es:List (Bool×J_ Hl)},es.all (λa=> !a.1)=Hd->es.any (·.1)=Hb
 |[],_=>rfl
 |(b,_)::r,h=>by simp only [OF,H_,Ll]at h;simp only [Ni,h.1,Bool.false_or];exact fV h.2
def bU (C:Cx) (A:IZ) (Q5:MY) (ok:Hw->Prop) (es:List Expr) (rs:List PV) (s:Hh):Prop:=
 (Le es Q5).all (λa=> !a.1)=Hd/\ ∀pos,WP (Hj C.prog C.w) A (Ob (Ot pos (Le es Q5))) (EvL C ok rs s) s
theorem bU.nil:bU C A Q5 ok [] [] s:=⟨rfl,λ_=>Nq ⟨.refl _,rfl⟩⟩
theorem aQ (he: ∀x p,e≠ .Starred x p):Le (e::es) Q5=(Hb,IY e Q5)::Le es Q5:=by cases e<;>first|rfl|exact absurd rfl (he _ _)
theorem bU.cons {r:PV} (he: ∀x p,e≠ .Starred x p) (h:WP (Hj C.prog C.w) A (IY e Q5) (Ev C ok r s) s)
  (t: ∀s',Ext s s'->bU C A Q5 ok es rs s'):bU C A Q5 ok (e::es) (r::rs) s:=by
 refine⟨?_,λpos=> ?_⟩
 ·rw [aQ he,OF]
  have:=(t s (.refl s)).1;simpa using this
 ·rw [aQ he]
  show WP _ A (Ob ((Hb,IY e Q5)::Ot pos (Le es Q5))) _ s;refine Oa (h.mono λv s₁ ⟨x₁,r₁⟩=>((t s₁ x₁).2 pos).mono λvs s₂ ⟨x₂,r₂⟩=>⟨x₁.trans x₂,v,vs,rfl,r₁.keep x₂.keep,r₂⟩)
theorem kL (h:bU C A Q5 ok es rs s) (Q7:rs.length<=Hz) (hs:Sys s.heap):
  WP (Hj C.prog C.w) A (IY (.List es pos) Q5) (λv s'=>Ext s s'/\ ∃a vs,v= .ref a/\s.heap.objs.size<=a/\s'.heap.PlainList a vs.toArray/\av C.prog C.w (λb=>ok b/\b≠a) s'.heap rs vs/\(a==IA)=Hb) s:=by
 refine List_ ((h.2 pos).mono λvs s₁ ⟨x₁,r₁⟩=> ?_);refine Ka ?_ (by show vs.toArray.size<=Hz;rw [HO,r₁.length];exact Q7)
 haveI hn:vis s.heap s₁.heap.objs.size=H9:=bq x₁.size;exact⟨x₁.trans (Ext.pushed s₁ _ s₁.toks),_,vs,rfl,x₁.size,⟨_,HL _ rfl⟩,r₁.mono (λb hb ⟨o,e⟩=>⟨hb,λq=>by rw [q,ca]at e;cases e⟩) (λb _ o e=>HK.push _ _ b o e),hs.ne hn⟩
theorem z4 (h:bU C A Q5 ok es rs s) (Q7:rs.length<=Hz) (ho:bS ok s.heap) (hs:Sys s.heap):
  WP (Hj C.prog C.w) A (IY (.Tuple es k pos) Q5) (Ev C ok (.tuple rs) s) s:=by
 refine Tuple_ ((h.2 pos).mono λvs s₁ ⟨x₁,r₁⟩=> ?_);refine Ka ?_ (by show vs.toArray.size<=Hz;rw [HO,r₁.length];exact Q7)
 haveI hn:vis s.heap s₁.heap.objs.size=H9:=bq x₁.size;exact⟨x₁.trans (Ext.pushed s₁ _ s₁.toks),_,vs,rfl,ho _ x₁.size,hs.ne hn,⟨_,HL _ rfl,rfl,_,rfl⟩,r₁.keep (HK.push _ _)⟩
end
section
def D_:PV->String
 | .none=> "NoneType" | .bool _=> "bool" | .int _=> "int" | .str _=> "str" | .list _=> "list" | .tuple _=> "tuple"
 | .dictS .. => "dict" | .dictI .. => "dict" | .range .. => "range"
theorem qo {x:PV} (r:Rep prog w ok s.heap x v):s.TypeIs v (D_ x):=by
 cases x with
 |none=>cases (show v= .none from r);rfl
 |bool b=>cases (show v= .bool b from r);rfl
 |int i=>obtain⟨t,rfl⟩:=r;rfl
 |str i=>obtain⟨t,rfl⟩:=r;rfl
 |list xs=>obtain⟨a,vs,rfl,_,_,l,_⟩:=r;exact MV l.il
 |tuple xs=>obtain⟨a,vs,rfl,_,_,l,_⟩:=r;exact Heap.IsTuple.typeIs l
 |dictS ks us=>obtain⟨a,vs,rfl,_,_,l,_⟩:=r;exact OL (JT l.2)
 |dictI ks us=>obtain⟨a,vs,rfl,_,_,l,_⟩:=r;exact OL (JT l.2)
 |range a b=>obtain⟨a,_,_,_,rfl,_,_,l⟩:=r;exact⟨_,l,rfl⟩
abbrev Ev' (prog:IG) (w:J0) (ok:Hw->Prop) (r:PV) (s:Hh):Hl->Hh->Prop:=λv s'=>Ext s s'/\Rep prog w ok s'.heap r v
theorem bt:Ev' prog w ok (.int i) s (.int i t) {s with toks:=n}:=⟨.toks _ _,_,rfl⟩
theorem fT {i:HJ}:Ev' prog w ok (.str i) s (.str i t) {s with toks:=n}:=⟨.toks _ _,_,rfl⟩
theorem jI (x:Array α): ∀(n:Nat) (Q8:Array α),(Hy n x).foldl (· ++·) Q8=Q8++(bh x.toList n).toArray
 |0,Q8=>by rfl
 |n+1,Q8=>by rw [LQ,List.foldl_cons,jI x n,my,Array.append_assoc];congr 1;apply Array.ext';simp
theorem jZ (xs:List α): ∀n,(bh xs n).length=n*xs.length
 |0=>by rw [Nat.zero_mul];rfl
 |n+1=>by rw [my,Hn,jZ xs n,LZ];exact Iv _ _
set_option tactic.hygienic true in
theorem zX {n:Int} (h0:0<=n) (hx:x.length<=1) (hn:n<=1000000)
  (h: ∀t' k,Q (.str ⟨(bh x.cps.toList n.toNat).toArray⟩ t') {s with toks:=k}):WP (Hj prog w) A (Oe .Mult (.str x t) (.int n u)) Q s:=by
 refine PySem.P.mul_str ?_ ?_ ?_ ?_
 ·have h1: ¬n< -(2^63:Int):=by exact Kk (Kt (by decide) h0)
  have h2: ¬n>=2^63:=by exact NT (JA hn (by decide))
  rw [decide_eq_false h1,decide_eq_false h2];rfl
 ·intro h1 h2 h3
  haveI:(1:Int)<=(2^63-1)/n:=(Int.le_ediv_iff_mul_le (by lia)).mpr (by lia)
  lia
 ·intro h1 h2
  haveI h3:x.length*n.toNat<=1000000:=H8 (IC _ hx) (by exact BV hn)
  unfold KD;simp [KV];exact H8 h3 (by decide)
 ·haveI e0: ∀m:Nat,x.length=0->(bh x.cps.toList m)=[]:=λm hm=>by
   haveI:x.cps.toList=[]:=Km (by simpa [JX]using hm)
   rw [this];induction m with
   |zero=>rfl
   |succ m ih=>rw [my,ih];rfl
  split
  ·haveI hz:n.toNat=0:=by lia
   have:=h s.toks (s.toks+1);rw [hz]at this;exact⟨by decide,this⟩
  ·split
   ·rename_i h1 h2
    have:=h t s.toks;have e:(Str.mk (bh x.cps.toList n.toNat).toArray)=x:=by
     rcases Nd.mp h2 with q|q
     ·haveI:n=1:=by simpa using q
      subst this;show Str.mk (x.cps.toList++[]).toArray=x;simp
     ·have hx0:x.length=0:=by simpa using q
      rw [e0 _ hx0];have:x.cps= #[]:=Ke hx0;cases x;simp_all
    rw [e]at this;exact this
   ·have:=h s.toks (s.toks+1)
    haveI e:(Hy n.toNat x.cps).foldl (· ++·) #[]=(bh x.cps.toList n.toNat).toArray:=by rw [jI];simp
    rw [e];refine⟨?_,this⟩;show(bh x.cps.toList n.toNat).toArray.size<=Hz;rw [HO,jZ];haveI:n.toNat*x.cps.toList.length<=1000000:=H8 (Ig _ (by simpa [JX]using hx)) (by lia)
    rw [KV];exact H8 this (by decide)
theorem yJ {l:Hw} {ws:List Hl} (hl:IsL s.heap l vs) (hb:IsL s.heap b ws)
  (h:Q (.ref s.heap.objs.size) {s with heap:=s.heap.push {cls:= .type "list",data:= .seq (vs++ws).toArray}})
  (hsz:vs.length+ws.length<=Hz):WP (Hj prog w) A (Oe .Add (.ref l) (.ref b)) Q s:=by
 obtain⟨n,ho⟩:=id hl;obtain⟨n2,T_⟩:=id hb;haveI e:vs.toArray++ws.toArray=(vs++ws).toArray:=by simp
 refine concat_meets ⟨_,ho,rfl⟩ ⟨_,T_,rfl⟩ noFill_list_add seq_list_add PySem.F.slot_list_add PySem.F.entry_list_add (PySem.F.args_list_add_2 _ _) (list_addW l b vs.toArray ws.toArray n n2 H9 H9 #[] #[] (by simpa using hsz)) ⟨ho,T_, ?_⟩
 rw [e];exact h
theorem qK {l:Hw} {n:Int} (hl:IsL s.heap l vs) (h0:0<=n) (h1:vs.length<=1) (hn:n<=1000000)
  (h:Q (.ref s.heap.objs.size) {s with heap:=s.heap.push {cls:= .type "list",data:= .seq (bh vs n.toNat).toArray}}):WP (Hj prog w) A (Oe .Mult (.ref l) (.int n u)) Q s:=by
 obtain⟨k,ho⟩:=id hl;have hb:vs.toArray.size*n.toNat<=1000000:=H8 (IC _ (by simpa using h1)) (by exact BV hn)
 haveI e:(Hy (if vs.toArray.isEmpty=Hd then 0 else n.toNat) vs.toArray).foldl (· ++·) #[]=(bh vs n.toNat).toArray:=by
  rw [jI];by_cases hv:vs=[]
  ·subst hv
   haveI: ∀m,bh ([]:List Hl) m=[]:=λm=>by induction m with|zero=>rfl|succ m ih=>rw [my,ih];rfl
   simp [this]
  ·haveI:vs.toArray.isEmpty=Hb:=by simpa using hv
   rw [this];simp
 refine wpAny_binaryOp_repeat_ref (T:= "list") (U:= "int") (by decide) ⟨_,ho,rfl⟩ (λs'=>typeIs_int s' n u) noFill_list_mul PySem.F.fills_int_mul OB repeat_list PySem.F.slot_int_index.lookup ?_
 refine LP OB (typeIs_int s n u) PySem.F.entry_int_rmul (PySem.F.args_int_rmul_2 _ _) (lm_int_rmul_list_any n u l vs.toArray k H9 #[]) ⟨ho,⟨rfl,⟨_,ho,rfl⟩, ?_⟩⟩;refine LP PySem.F.slot_list_mul ⟨_,ho,rfl⟩ PySem.F.entry_list_mul (PySem.F.args_list_mul_2 _ _) (lm_list_mul_any l vs.toArray k H9 #[] n u ?_ ?_ ?_) ⟨ho, ?_⟩
 ·unfold Builtin.List.listFitsIndex
  simp;exact⟨(Kt (by decide) h0),(JA hn (by decide))⟩
 ·exact JS (H8 hb (by decide))
 ·unfold Ny
  haveI QP:vs.length*n.toNat<=1000000:=by simpa using hb
  simp [KV];exact H8 QP (by decide)
 ·rw [e]
  exact h
theorem av.rep (q:av prog w ok h xs vs): ∀n,av prog w ok h (bh xs n) (bh vs n)
 |0=>rfl
 |n+1=>q.append (av.rep q n)
theorem fZ (ho:bS ok s.heap) (h1:Sys s.heap) (q:av prog w ok s.heap xs vs):
  Ev' prog w ok (.list xs) s (.ref s.heap.objs.size) {s with heap:=s.heap.push {cls:= .type "list",data:= .seq vs.toArray},toks:=n}:=
 ⟨.pushed _ _ _,_,vs,rfl,ho _ (Hm _),h1.ne (ca _),⟨_,HL _ rfl⟩,q.keep (HK.push _ _)⟩
theorem ah {c:Prop} [Decidable c] {x y:α} (h:(if c then H7 x else H9)=H7 y):c/\x=y:=(cZ h).imp id Hg
theorem CU {a b:Int} (hp:pII op a b=H7 c):WP (Hj prog w) A (Oe op (.int a t) (.int b u)) (Ev' prog w ok c s) s:=by
 cases op with
 |Add=>cases hp;exact add_int bt
 |Sub=>cases hp;exact sub_int bt
 |Mult=>obtain⟨hc,rfl⟩:=ah hp;exact mul_int bt hc
 |FloorDiv=>obtain⟨hc,rfl⟩:=ah hp;exact floordiv_int hc.1 bt (.inl hc.2)
 |Mod=>obtain⟨hc,rfl⟩:=ah hp;exact mod_int hc bt
 |Pow=>obtain⟨hc,rfl⟩:=ah hp;exact pow_int hc.1 hc.2 bt
 |LShift=>obtain⟨hc,rfl⟩:=ah hp;exact lshift_int hc.1 hc.2 bt
 |RShift=>obtain⟨hc,rfl⟩:=ah hp;exact rshift_int hc bt
 |BitAnd=>cases hp;exact and_int bt
 |BitOr=>cases hp;exact or_int bt
 |BitXor=>cases hp;exact xor_int bt
 |_=>exact a9 hp
theorem oH {a b:PV} {va vb:Hl} (hp:eg op a b=H7 c) (ho:bS ok s.heap) (h1:Sys s.heap)
  (ra:Rep prog w ok s.heap a va) (rb:Rep prog w ok s.heap b vb):WP (Hj prog w) A (Oe op va vb) (Ev' prog w ok c s) s:=by
 cases a with
 |int a=>
  obtain⟨t,rfl⟩:=ra;cases b with
  |int b=>obtain⟨u,rfl⟩:=rb;exact CU hp
  |_=>exact a9 hp
 |str a=>
  obtain⟨t,rfl⟩:=ra;cases b with
  |str b=>
   obtain⟨u,rfl⟩:=rb;cases op with
   |Add=>obtain⟨hc,rfl⟩:=ah hp;exact PyProof.Rows.add_str (λ_ _=>fT) hc
   |_=>exact a9 hp
  |int b=>
   obtain⟨u,rfl⟩:=rb;cases op with
   |Mult=>obtain⟨hc,rfl⟩:=ah hp;exact zX hc.1 hc.2.1 hc.2.2 λ_ _=>fT
   |_=>exact a9 hp
  |_=>exact a9 hp
 |list xs=>
  obtain⟨a,vs,rfl,_,_,l,q⟩:=ra;cases b with
  |list ys=>
   obtain⟨b,us,rfl,_,_,l',q'⟩:=rb;cases op with
   |Add=>
    obtain⟨hc,rfl⟩:=ah hp;exact yJ l l' (fZ ho h1 (q.append q')) (by rw [q.length,q'.length,<-Hn];exact hc)
   |_=>exact a9 hp
  |int n=>
   obtain⟨u,rfl⟩:=rb;cases op with
   |Mult=>obtain⟨hc,rfl⟩:=ah hp;exact qK l hc.1 (q.length.symm▸hc.2.1) hc.2.2 (fZ ho h1 (q.rep _))
   |_=>exact a9 hp
  |_=>exact a9 hp
 |_=>exact a9 hp
theorem Ak {x:PV} {b:Bool} (hp:ff x=H7 b) (r:Rep prog w ok s.heap x v):
  WP (Hj prog w) A (truthy v) (λb' s'=>b'=b/\Ext s s') s:=by
 cases x with
 |bool b=>cases (show v= .bool _ from r);cases hp;exact wpAny_truthy_bool ⟨rfl,.refl _⟩
 |int i=>obtain⟨t,rfl⟩:=r;cases hp;exact truthy_int ⟨rfl,.refl _⟩
 |str x=>
  obtain⟨hc,rfl⟩:=ah hp;obtain⟨t,rfl⟩:=r;refine PySem.P.truthy_str (by exact NT (aPw (Hk (IN hc) (by decide)))) ⟨?_,.toks _ _⟩
  rw [O6];simp
 |list xs=>
  obtain⟨hc,rfl⟩:=ah hp;obtain⟨a,vs,rfl,_,_,l,q⟩:=r;refine wpAny_truthy_list l.il (by rw [HO,q.length];exact aPw (Hk (IN hc) (by decide))) ⟨?_,.toks _ _⟩
  have:=q.length;cases vs with
  |nil=>have:xs=[]:=Km this.symm;subst this;rfl
  |cons v vs=>cases xs with
   |nil=>cases this
   |cons x xs=>rfl
 |none=>cases (show v= .none from r);cases hp;exact truthy_none ⟨rfl,.refl _⟩
 |_=>exact a9 hp
end
end Internal
namespace Internal
open PySem PySem.W PySem.Calls PyProof.Rows PySem.SeqAt
variable {prog:IG} {w:J0} {A:IZ} {s:Hh} {ok:Hw->Prop} {f:PV->PV->Option Bool} {xs ys:List PV} {h:IL} {vs us:List Hl} {n:Nat} {a b x y:PV} {va vb:Hl} {k:Bool} {K:Type} {op:Ok} {l:Hw}
section
@[elab_as_elim] theorem qy {P:List PV->List PV->Bool->Prop} {b:Bool} (h:fg f xs ys=H7 b) (h0:P [] [] Hd)
  (h1: ∀x xs y ys a b,f x y=H7 a->P xs ys b->P (x::xs) (y::ys) (a&&b)):P xs ys b:=by
 induction xs generalizing ys b with
 |nil=>
  cases ys with
  |nil=>exact Hg h▸h0
  |cons=>exact a9 h
 |cons x xs ih=>
  cases ys with
  |nil=>exact a9 h
  |cons y ys=>exact ae h λa ha h=>ae h λb hb h=>Hg h▸h1 x xs y ys a b ha (ih hb)
theorem yo {b:Bool} (h:fg f xs ys=H7 b):
  ∃e:Nat->Bool,(∀(j:Nat) (x y:PV),xs[j]? =H7 x->ys[j]? =H7 y->f x y=H7 (e j))/\(M6 xs.length).all e=b:=by
 refine qy h ⟨λ_=>Hd,λj x y h=>(nomatch h),rfl⟩ λx xs y ys a b ha ⟨e,h1,h2⟩=>⟨λj=>Nat.casesOn j a e,λj u v hu hv=> ?_, ?_⟩
 ·cases j with
  |zero=>exact Hg hu▸Hg hv▸ha
  |succ j=>exact h1 j u v hu hv
 ·rw [Hv,List.range_succ_eq_map,OF,List.all_map,<-h2]
  rfl
theorem AM {a:Hw} (x:IsL h a vs) (y:IsL h a us):vs=us:=by obtain⟨n,e1⟩:=x;obtain⟨m,e2⟩:=y;exact List.toArray_inj (Data.seq.inj (congrArg Obj.data (Hg (e1.symm.trans e2)))).1
theorem AL {a:Hw} (x:IsT h a vs) (y:IsT h a us):vs=us:=by obtain⟨o,e1,_,n,d1⟩:=x;obtain⟨o',e2,_,m,d2⟩:=y;exact List.toArray_inj (Data.seq.inj (d1.symm.trans ((congrArg Obj.data (Hg (e1.symm.trans e2))).trans d2))).1
@[elab_as_elim] theorem jD {P:PV->PV->Hl->Hl->Bool->Prop} (h:dZ (n+1) a b=H7 k) (ra:Rep prog w ok s.heap a va) (rb:Rep prog w ok s.heap b vb)
  (hi: ∀i j t u,P (.int i) (.int j) (.int i t) (.int j u) (i==j)) (hs: ∀i j t u,P (.str i) (.str j) (.str i t) (.str j u) (i==j))
  (hl: ∀xs ys a b vs us k,IsL s.heap a vs->IsL s.heap b us->av prog w ok s.heap xs vs->av prog w ok s.heap ys us->(if xs.length=ys.length then fg (dZ n) xs ys else H7 Hb)=H7 k->P (.list xs) (.list ys) (.ref a) (.ref b) k)
  (ht: ∀xs ys a b vs us k,IsT s.heap a vs->IsT s.heap b us->av prog w ok s.heap xs vs->av prog w ok s.heap ys us->xs.length=ys.length->fg (dZ n) xs ys=H7 k->P (.tuple xs) (.tuple ys) (.ref a) (.ref b) k):P a b va vb k:=by
 cases a with
 |int i=>
  cases b with
  |int j=>obtain⟨t,rfl⟩:=ra;obtain⟨u,rfl⟩:=rb;exact Hg h▸hi i j t u
  |_=>exact a9 h
 |str i=>
  cases b with
  |str j=>obtain⟨t,rfl⟩:=ra;obtain⟨u,rfl⟩:=rb;exact Hg h▸hs i j t u
  |_=>exact a9 h
 |list xs=>
  cases b with
  |list ys=>
   obtain⟨a,vs,rfl,_,_,l,q⟩:=ra;obtain⟨b,us,rfl,_,_,l',q'⟩:=rb;exact hl xs ys a b vs us k l l' q q' h
  |_=>exact a9 h
 |tuple xs=>
  cases b with
  |tuple ys=>
   obtain⟨a,vs,rfl,_,_,l,q⟩:=ra;obtain⟨b,us,rfl,_,_,l',q'⟩:=rb;exact ct h (λe h=>ht xs ys a b vs us k l l' q q' e h) λ_ h=>a9 h
  |_=>exact a9 h
 |_=>exact a9 h
theorem yn (n:Nat): ∀{a b:PV} {va vb:Hl} {k:Bool},dZ n a b=H7 k->Rep prog w ok s.heap a va->Rep prog w ok s.heap b vb->va=vb->k=Hd:=by
 induction n with
 |zero=>exact λh _ _ _=>a9 h
 |succ n ih=>
  have Ug: ∀{xs ys:List PV} {k:Bool},fg (dZ n) xs ys=H7 k-> ∀vs:List Hl,av prog w ok s.heap xs vs->av prog w ok s.heap ys vs->k=Hd:=λh=>
   qy h (λ_ _ _=>rfl) λx xs y ys a b ha Rt vs ⟨v,r,e,r1,t1⟩ ⟨v',r',e',r2,t2⟩=>by cases e;cases e';exact HZ.mpr ⟨ih ha r1 r2 rfl,Rt r t1 t2⟩
  intro a b va vb k h ra rb;refine jD h ra rb (λi j t u e=> ?_) (λi j t u e=> ?_) (λxs ys a b vs us k l l' q q' h e=> ?_) λxs ys a b vs us k l l' q q' _ h e=> ?_
  ·cases e;exact beq_self_eq_true _
  ·cases e;exact beq_self_eq_true _
  ·cases e
   obtain rfl:=AM l l';exact Ug ((if_pos (q.length.symm.trans q'.length)).symm.trans h) _ q q'
  ·cases e
   obtain rfl:=AL l l';exact Ug h _ q q'
theorem j5 (ih: ∀{A:IZ} {a b:PV} {va vb:Hl} {k:Bool},A.units+n<OW->dZ n a b=H7 k->Rep prog w ok s.heap a va->Rep prog w ok s.heap b vb->RcAt A s va vb k/\EqAt A s va vb k) (hu:A.units+(n+1)<OW)
 (hk:fg (dZ n) xs ys=H7 k) (q:av prog w ok s.heap xs vs) (q':av prog w ok s.heap ys us):
  ∃e:Nat->Bool,(∀j (h1:j<vs.toArray.size) (h2:j<us.toArray.size),EqAt A.in1 s vs.toArray[j] us.toArray[j] (e j))/\(M6 vs.toArray.size).all e=k:=by
 obtain⟨e,h1,h2⟩:=yo hk;refine⟨e,λj hj1 hj2=> ?_,by rw [HO,q.length];exact h2⟩
 have hx:j<xs.length:=q.length▸hj1;have hy:j<ys.length:=q'.length▸hj2;obtain⟨v,e1,r1⟩:=q.get (HB hx);obtain⟨u,e2,r2⟩:=q'.get (HB hy);show EqAt A.in1 s vs[j] us[j] (e j);rw [OE e1|>.2,OE e2|>.2];exact(ih (A:=A.in1) (Hk (Hu (HS A.units 1 n)) hu) (h1 j _ _ (HB hx) (HB hy)) r1 r2).2
theorem tT (q:av prog w ok h xs vs) (q':av prog w ok h ys us) (e:xs.length=ys.length):vs.toArray.size=us.toArray.size:=q.length.trans (e.trans q'.length.symm)
theorem Bv (q:av prog w ok h xs vs) (q':av prog w ok h ys us) (e:xs.length≠ys.length):(vs.toArray.size !=us.toArray.size)=Hd:=bne_iff_ne.mpr λd=>e (q.length.symm.trans (d.trans q'.length))
theorem wE (n:Nat): ∀{A:IZ} {a b:PV} {va vb:Hl} {k:Bool},A.units+n<OW->dZ n a b=H7 k->Rep prog w ok s.heap a va->Rep prog w ok s.heap b vb->
  RcAt A s va vb k/\EqAt A s va vb k:=by
 induction n with
 |zero=>exact λ_ h _ _=>a9 h
 |succ n ih=>
  intro A a b va vb k hu h ra rb;have Ul:A.units<OW:=Hk (HD _ _) hu;have fin: ∀{a b:Hw},va= .ref a->vb= .ref b->RcAt A s (.ref a) (.ref b) k->RcAt A s (.ref a) (.ref b) k/\EqAt A s (.ref a) (.ref b) k:=λ{a b} e1 e2 rc=>⟨rc,by
   by_cases S6:a=b
   ·haveI hk:=yn _ h ra rb (by rw [e1,e2,S6])
    rw [hk,S6];exact EqAt.same _
   ·exact EqAt.of_refs S6 rc⟩
  revert fin;refine jD h ra rb (λi j t u _=>⟨RcAt.int_int _ _ _ _,EqAt.int_int _ _ _ _⟩) (λi j t u _=>⟨RcAt.str_str _ _ _ _,EqAt.str_str _ _ _ _⟩) (λxs ys a b vs us k l l' q q' h fin=>fin rfl rfl ?_)
   λxs ys a b vs us k l l' q q' hl h fin=>fin rfl rfl ?_
  ·refine ct h (λhl h=> ?_) λhl h=>Hg h▸RcAt.lists_lengths l.il l'.il (Bv q q' hl) Ul
   obtain⟨e,h1,h2⟩:=j5 (A:=A) ih hu h q q';exact h2▸RcAt.lists l.il l'.il (tT q q' hl) Ul h1
  ·obtain⟨e,h1,h2⟩:=j5 (A:=A) ih hu h q q'
   have:=RcAt.tuples (A:=A) (e:=e) l l' Ul h1;rw [<-tT q q' hl,M1,h2,beq_self_eq_true,Bool.and_true]at this;exact this
theorem lz: ∀{l:List HJ} {vs:List Hl},jQ ys=H7 l->av prog w ok s.heap ys vs-> ∃ts:List (HJ×NX),vs=ts.map (λp=>L8 p.1 p.2)/\ts.map (·.1)=l:=by
 induction ys with
 |nil=>exact λh q=>⟨[],q,Hg h⟩
 |cons y ys ih=>
  intro l _ h ⟨v,r,e,ry,tl⟩;cases e;cases y with
  |str y=>
   obtain⟨t,rfl⟩:=ry;exact aL (P:=λl=> ∃ts:List (HJ×NX),.str y t::r=ts.map (λp=>L8 p.1 p.2)/\ts.map (·.1)=l) h λl' h'=>(ih h' tl).elim λts q=>⟨(y,t)::ts,congrArg _ q.1,congrArg _ q.2⟩
  |_=>exact a9 h
theorem j2: ∀{l:List Int} {vs:List Hl},fz ys=H7 l->av prog w ok s.heap ys vs-> ∃ts:List (Int×NX),vs=ts.map (λp=>Kb p.1 p.2)/\ts.map (·.1)=l:=by
 induction ys with
 |nil=>exact λh q=>⟨[],q,Hg h⟩
 |cons y ys ih=>
  intro l _ h ⟨v,r,e,ry,tl⟩;cases e;cases y with
  |int y=>
   obtain⟨t,rfl⟩:=ry;exact aL (P:=λl=> ∃ts:List (Int×NX),.int y t::r=ts.map (λp=>Kb p.1 p.2)/\ts.map (·.1)=l) h λl' h'=>(ih h' tl).elim λts q=>⟨(y,t)::ts,congrArg _ q.1,congrArg _ q.2⟩
  |_=>exact a9 h
def xb (x:HJ):Hl->Bool
 | .str z _=>z==x
 |_=>Hb
def xc (x:Int):Hl->Bool
 | .int z _=>z==x
 |_=>Hb
theorem xr {α β:Type} {f:α×β->Hl} {P:Hl->Bool} [BEq α] [LawfulBEq α] (x:α) (h: ∀p,P (f p)=(p.1==x)) (ts:List (α×β)):(ts.map f).toArray.any P=(ts.map (·.1)).contains x:=by
 rw [List.any_toArray,List.any_map];induction ts with
 |nil=>rfl
 |cons p ts ih=>rw [Ni,HI,M8,ih];exact congrArg (· ||_) ((h p).trans Bool.beq_comm)
theorem Bq (x:HJ) (ts:List (HJ×NX)):(ts.map (λp=>L8 p.1 p.2)).toArray.any (xb x)=(ts.map (·.1)).contains x:=xr x (λ_=>rfl) ts
theorem Br (x:Int) (ts:List (Int×NX)):(ts.map (λp=>Kb p.1 p.2)).toArray.any (xc x)=(ts.map (·.1)).contains x:=xr x (λ_=>rfl) ts
theorem jW [DecidableEq K] (k:K) (ks:List K): ∀(vs:List Hl),ks.length=vs.length->(O9 (ks.zip vs) k).isSome=ks.contains k:=by
 induction ks with
 |nil=>exact λ_ _=>rfl
 |cons k' ks ih=>
  intro vs h;cases vs with
  |nil=>exact nomatch h
  |cons v vs=>
   unfold O9 at ih ⊢
   rw [Nl,O3,M8,<-ih vs (Kf h)];by_cases e:k'=k
   ·subst e;simp
   ·rw [beq_eq_false_iff_ne.mpr (Kv e),decide_eq_false e];rfl
theorem BH {x:Hl} {e:Hl->Bool} (hl:IsL s.heap l vs) (he: ∀y∈vs.toArray,EqAt A.in1 s y x (e y)) (hk:vs.toArray.any e=k) (S1:op= .In∨op= .NotIn):
  WP (Hj prog w) A (K_ op x (.ref l)) (Ev' prog w ok (.bool (if op= .In then k else !k)) s) s:=by
 subst hk;rcases S1 with rfl|rfl
 ·exact in_listAt _ hl.il he ⟨.refl _,rfl⟩
 ·exact notIn_listAt _ hl.il he ⟨.refl _,rfl⟩
theorem wW {vx vy:Hl} (h:pin x y=H7 k) (rx:Rep prog w ok s.heap x vx) (ry:Rep prog w ok s.heap y vy) (op:Ok) (S1:op= .In∨op= .NotIn):
  WP (Hj prog w) A (K_ op vx vy) (Ev' prog w ok (.bool (if op= .In then k else !k)) s) s:=by
 cases y with
 |list ys=>
  obtain⟨a,vs,rfl,_,_,l,q⟩:=ry;cases x with
  |str z=>
   obtain⟨t,rfl⟩:=rx;obtain⟨l',h',rfl⟩:=HG.mp h;obtain⟨ts,rfl,rfl⟩:=lz h' q;refine BH l (e:=xb z) (λy hy=> ?_) (Bq z ts) S1;obtain⟨p,_,rfl⟩:=HC.mp (List.mem_toArray.mp hy);exact EqAt.str_str _ _ _ _
  |int z=>
   obtain⟨t,rfl⟩:=rx;obtain⟨l',h',rfl⟩:=HG.mp h;obtain⟨ts,rfl,rfl⟩:=j2 h' q;refine BH l (e:=xc z) (λy hy=> ?_) (Br z ts) S1;obtain⟨p,_,rfl⟩:=HC.mp (List.mem_toArray.mp hy);exact EqAt.int_int _ _ _ _
  |_=>exact a9 h
 |str y=>
  obtain⟨u,rfl⟩:=ry;cases x with
  |str z=>
   obtain⟨t,rfl⟩:=rx;cases h;rcases S1 with rfl|rfl
   ·exact PyProof.Rows.in_str ⟨.refl _,rfl⟩
   ·exact PyProof.Rows.notIn_str ⟨.refl _,rfl⟩
  |_=>exact a9 h
 |dictS ks us=>
  obtain⟨a,vs,rfl,_,hs,l,q⟩:=ry;cases x with
  |str z=>
   obtain⟨t,rfl⟩:=rx;cases h;rcases S1 with rfl|rfl
   ·exact wpAny_in_of (OR prog w _ t) hs (JT l.2) ⟨.toks _ _,by rw [jW _ _ _ l.1];rfl⟩
   ·exact wpAny_notIn_of (OR prog w _ t) hs (JT l.2) ⟨.toks _ _,by rw [jW _ _ _ l.1];rfl⟩
  |_=>exact a9 h
 |_=>exact a9 h
theorem qZ (hu:A.units+50<OW) (h:dZ 8 a b=H7 k) (ra:Rep prog w ok s.heap a va) (rb:Rep prog w ok s.heap b vb):
  WP (Hj prog w) A (K_ .NotEq va vb) (Ev' prog w ok (.bool (!k)) s) s:=by
 have Ul:A.units<OW:=Hk (HD _ _) hu;have hu8:A.units+(7+1)<OW:=Hk (Io (by decide) _) hu
 refine jD h ra rb (λi j t u=>ne_int ⟨.refl _,rfl⟩) (λi j t u=>PyProof.Rows.ne_str ⟨.refl _,rfl⟩) (λxs ys a b vs us k l l' q q' h=> ?_) λxs ys a b vs us k l l' q q' hl h=> ?_
 ·refine ct h (λhl h=> ?_) λhl h=>Hg h▸RcNeAt.lists_lengths l.il l'.il (Bv q q' hl) Ul prog w _ _ ⟨.refl _,rfl⟩
  obtain⟨e,h1,h2⟩:=j5 (A:=A) (wE 7) hu8 h q q';exact h2▸RcNeAt.lists l.il l'.il (tT q q' hl) Ul h1 prog w _ _ ⟨.refl _,rfl⟩
 ·obtain⟨e,h1,h2⟩:=j5 (A:=A) (wE 7) hu8 h q q'
  have:=RcNeAt.tuples (A:=A) (e:=e) l l' Ul h1;rw [<-tT q q' hl,M1,h2,beq_self_eq_true,Bool.and_true]at this;exact this prog w _ _ ⟨.refl _,rfl⟩
theorem CS (h:pis a b=H7 k) (ra:Rep prog w ok s.heap a va) (rb:Rep prog w ok s.heap b vb):WP (Hj prog w) A (K_ .Is va vb) (Ev' prog w ok (.bool k) s) s:=by
 cases a with
 |bool i=>
  cases b with
  |bool j=>cases (show va= .bool _ from ra);cases (show vb= .bool _ from rb);cases h;exact is_bool ⟨.refl _,rfl⟩
  |_=>exact a9 h
 |none=>
  cases b with
  |none=>cases (show va= .none from ra);cases (show vb= .none from rb);cases h;exact is_none_none ⟨.refl _,rfl⟩
  |_=>exact a9 h
 |int i=>
  cases b with
  |none=>obtain⟨t,rfl⟩:=ra;cases (show vb= .none from rb);cases h;exact is_int_none ⟨.refl _,rfl⟩
  |_=>exact a9 h
 |_=>exact a9 h
theorem Aq (h:Ed a b=H7 k) (ra:Rep prog w ok s.heap a va) (rb:Rep prog w ok s.heap b vb):WP (Hj prog w) A (K_ .IsNot va vb) (Ev' prog w ok (.bool k) s) s:=by
 cases a with
 |bool i=>
  cases b with
  |bool j=>cases (show va= .bool _ from ra);cases (show vb= .bool _ from rb);cases h;exact isnot_bool ⟨.refl _,rfl⟩
  |_=>exact a9 h
 |none=>
  cases b with
  |none=>cases (show va= .none from ra);cases (show vb= .none from rb);cases h;exact isnot_none_none ⟨.refl _,rfl⟩
  |_=>exact a9 h
 |str i=>
  cases b with
  |none=>obtain⟨t,rfl⟩:=ra;cases (show vb= .none from rb);cases h;exact isnot_str_none ⟨.refl _,rfl⟩
  |_=>exact a9 h
 |_=>exact a9 h
theorem CP (h:plt a b=H7 k) (ra:Rep prog w ok s.heap a va) (rb:Rep prog w ok s.heap b vb):WP (Hj prog w) A (K_ .Lt va vb) (Ev' prog w ok (.bool k) s) s:=by
 cases a with
 |int i=>
  cases b with
  |int j=>obtain⟨t,rfl⟩:=ra;obtain⟨u,rfl⟩:=rb;cases h;exact lt_int ⟨.refl _,rfl⟩
  |_=>exact a9 h
 |_=>exact a9 h
theorem CQ (h:ple a b=H7 k) (ra:Rep prog w ok s.heap a va) (rb:Rep prog w ok s.heap b vb):WP (Hj prog w) A (K_ .LtE va vb) (Ev' prog w ok (.bool k) s) s:=by
 cases a with
 |int i=>
  cases b with
  |int j=>obtain⟨t,rfl⟩:=ra;obtain⟨u,rfl⟩:=rb;cases h;exact le_int ⟨.refl _,rfl⟩
  |_=>exact a9 h
 |_=>exact a9 h
theorem kH (hu:A.units+50<OW) (h:gp op a b=H7 k) (ra:Rep prog w ok s.heap a va) (rb:Rep prog w ok s.heap b vb):
  WP (Hj prog w) A (K_ op va vb) (Ev' prog w ok (.bool k) s) s:=by
 cases op with
 |Eq=>exact(wE 8 (by exact Hk (Io (by decide) _) hu) h ra rb).1 prog w _ _ ⟨.refl _,rfl⟩
 |NotEq=>exact aL (P:=λk=>WP _ A (K_ .NotEq va vb) (Ev' prog w ok (.bool k) s) s) h λk' h'=>qZ hu h' ra rb
 |In=>exact wW (A:=A) h ra rb .In (.inl rfl)
 |NotIn=>exact aL (P:=λk=>WP _ A (K_ .NotIn va vb) (Ev' prog w ok (.bool k) s) s) h λk' h'=>wW (A:=A) h' ra rb .NotIn (.inr rfl)
 |Is=>exact CS h ra rb
 |IsNot=>exact Aq h ra rb
 |Lt=>exact CP h ra rb
 |LtE=>exact CQ h ra rb
 |_=>exact a9 h
end
variable {c:PV} {t:NX} {v:Hl}
section
theorem av.at (q:av prog w ok h xs vs) {i:Nat} (e:xs[i]? =H7 x): ∃v,vs.toArray[i]? =H7 v/\Rep prog w ok h x v:=by obtain⟨v,a,b⟩:=q.get e;exact⟨v,by simpa using a,b⟩
theorem uq [DecidableEq K] {x:K} {ks:List K}: ∀{us:List PV} {vs:List Hl} {r:PV},uS x ks us=H7 r->ks.length=vs.length->av prog w ok s.heap us vs-> ∃v,O9 (ks.zip vs) x=H7 v/\Rep prog w ok s.heap r v:=by
 induction ks with
 |nil=>exact λh _ _=>a9 h
 |cons k ks ih=>
  intro us vs r h hl q;cases us with
  |nil=>exact a9 h
  |cons u us=>
   obtain⟨v,t,rfl,q,q'⟩:=q;rw [Nl,O9,O3];refine ct h (λhx h=> ?_) λhx h=> ?_
   ·rw [decide_eq_true hx.symm]
    exact⟨v,rfl,Hg h▸q⟩
   ·rw [decide_eq_false (Kv hx)]
    exact ih h (Kf hl) q'
set_option tactic.hygienic true in
theorem pB {i:Int} {a:Hw} (h:gi (.list xs) (.int i)=H7 c) (l:IsL s.heap a vs) (q:av prog w ok s.heap xs vs):
  WP (Hj prog w) A (PN (.ref a) (.int i t)) (Ev' prog w ok c s) s:=by
 refine ae h λk hk h=>ct h (λhb h=> ?_) λ_ h=>a9 h;obtain⟨v,e,r⟩:=q.at h;unfold Ls at hk;by_cases h0:0<=i
 ·haveI:k=i.toNat:=by
   simp only [show¬i<0 by exact Kk h0,if_false]at hk
   split at hk<;>simp at hk
   exact IW hk
  subst this;exact wpAny_getItem_list l.il h0 hb.2 e ⟨.refl _,r⟩
 ·have h1:k=(i+xs.length).toNat/\ -(xs.length:Int)<=i:=by
   simp only [show i<0 by exact Int.lt_of_not_ge h0,if_true]at hk
   split at hk<;>simp at hk
   rename_i hc;simp at hc;exact⟨hk.symm,by lia⟩
  have hs:vs.toArray.size=xs.length:=by rw [HO,q.length]
  refine wpAny_getItem_list_neg l.il (by exact Int.lt_of_not_ge h0) (by rw [hs];exact h1.2) hb.1 (x:=v) ?_ ⟨.refl _,r⟩
  rw [hs,<-h1.1];exact e
theorem Ar (h:gi a b=H7 c) (ra:Rep prog w ok s.heap a va) (rb:Rep prog w ok s.heap b vb):
  WP (Hj prog w) A (PN va vb) (Ev' prog w ok c s) s:=by
 cases a with
 |list xs=>
  cases b with
  |int i=>
   obtain⟨a,vs,rfl,_,_,l,q⟩:=ra;obtain⟨t,rfl⟩:=rb;exact pB h l q
  |_=>exact a9 h
 |dictS ks us=>
  cases b with
  |str z=>
   obtain⟨a,vs,rfl,_,_,l,q⟩:=ra;obtain⟨u,rfl⟩:=rb;obtain⟨v,e,r⟩:=uq h l.1 q;exact wpAny_getItem_of (OR prog w z u) (JT l.2) e ⟨.toks _ _,r⟩
  |_=>exact a9 h
 |dictI ks us=>
  cases b with
  |int z=>
   obtain⟨a,vs,rfl,_,_,l,q⟩:=ra;obtain⟨u,rfl⟩:=rb;obtain⟨v,e,r⟩:=uq h l.1 q;exact wpAny_getItem_of (Mt prog w z u) (JT l.2) e ⟨.toks _ _,r⟩
  |_=>exact a9 h
 |tuple xs=>
  cases b with
  |int i=>
   obtain⟨a,vs,rfl,_,_,l,q⟩:=ra;obtain⟨t,rfl⟩:=rb;exact ae h λk hk h=>ct h (λhb h=>by obtain⟨v,e,r⟩:=q.at h;exact PyProof.Rows.getItem_tuple l hb.1 hb.2 (by rw [HO,q.length];exact hk) e ⟨.refl _,r⟩) λ_ h=>a9 h
  |_=>exact a9 h
 |str x=>
  cases b with
  |int i=>
   obtain⟨t,rfl⟩:=ra;obtain⟨u,rfl⟩:=rb;exact ae h λk hk h=>ct h (λhb h=>by cases h;exact P.getItem_str (by simp;exact⟨hb.1,hb.2⟩) hk ⟨.toks _ _,_,rfl⟩) λ_ h=>a9 h
  |_=>exact a9 h
 |_=>exact a9 h
theorem m9 {z:PV} (h:gi x y=H7 z) (r:Rep prog w ok s.heap x v): ∃T id,K1 (.type T) "__getitem__" =pure (H7 (.builtin id))/\s.TypeIs v T:=by
 have:=qo r;cases x with
 |list xs=>exact⟨_,_,slot_list_getitem.lookup,this⟩
 |dictS ks us=>exact⟨_,_,slot_dict_getitem.lookup,this⟩
 |dictI ks us=>exact⟨_,_,slot_dict_getitem.lookup,this⟩
 |tuple xs=>exact⟨_,_,PySem.F.slot_tuple_getitem.lookup,this⟩
 |str x=>exact⟨_,_,Of.lookup,this⟩
 |_=>exact a9 h
theorem gV {o:Option Int} (h:kj x=H7 o) (r:Rep prog w ok s.heap x v): ∃p:Option (Int×NX),v=partValue p/\p.map (·.1)=o:=by
 cases x with
 |none=>cases (show v= .none from r);cases h;exact⟨H9,rfl,rfl⟩
 |int i=>obtain⟨t,rfl⟩:=r;cases h;exact⟨H7 (_,t),rfl,rfl⟩
 |_=>exact a9 h
theorem oJ (p:Option (Int×NX)):IsPart (partValue p) (p.map (·.1)):=by
 cases p with
 |none=>exact .none
 |some q=>exact .int q.1 q.2
theorem av.filterMapIdx (q:av prog w ok h xs vs): ∀js:List Nat,av prog w ok h (js.filterMap (xs[·]?)) (js.filterMap (vs[·]?))
 |[]=>rfl
 |j::js=>by
  cases hx:xs[j]? with
  |none=>
   haveI:vs[j]? =H9:=by
    rw [Ou]at hx ⊢
    rw [q.length];exact hx
   rw [Jo,hx,Jo,this];exact av.filterMapIdx q js
  |some x=>
   obtain⟨v,e,r⟩:=q.get hx;rw [Jo,hx,Jo,e];exact⟨v,_,rfl,r,av.filterMapIdx q js⟩
theorem As (vs:List Hl) (lo hi st:Option Int):slicePick vs.toArray lo hi st=(eZ vs lo hi st).toArray:=by unfold slicePick eZ;simp
theorem vB {l h st:PV} {vl vh vst:Hl} {sl:Hw} (hp:bz a l h st=H7 c) (ho:bS ok s.heap) (h1:Sys s.heap)
  (ra:Rep prog w ok s.heap a va) (rl:Rep prog w ok s.heap l vl) (rh:Rep prog w ok s.heap h vh) (rs:Rep prog w ok s.heap st vst)
  (hs:s.heap.get? sl=H7 {cls:= .type "slice",data:= .fields #[vl,vh,vst]}):WP (Hj prog w) A (PN va (.ref sl)) (Ev' prog w ok c s) s:=by
 cases a with
 |list xs=>
  refine ae hp λlo hl hp=>ae hp λhi hh hp=>ae hp λso XC hp=>ct hp (λ_ hp=>a9 hp) λh0 hp=> ?_;rw [not_or]at h0;cases hp;obtain⟨pl,rfl,rfl⟩:=gV hl rl;obtain⟨ph,rfl,rfl⟩:=gV hh rh;obtain⟨ps,rfl,rfl⟩:=gV XC rs;obtain⟨a,vs,rfl,_,_,L,q⟩:=ra;refine wpAny_getItem_list_slice (sl:=sl) L.il ⟨_,hs,rfl,rfl⟩ (oJ pl) (oJ ph) (oJ ps) h0.1 ?_ (by rw [HO,q.length];exact Ix h0.2)
  rw [As];refine fZ ho h1 ?_;unfold eZ;rw [q.length];exact q.filterMapIdx _
 |str x=>
  refine ae hp λlo hl hp=>ae hp λhi hh hp=>ae hp λso XC hp=>ct hp (λ_ hp=>a9 hp) λh0 hp=> ?_;rw [not_or]at h0;cases hp;obtain⟨pl,rfl,rfl⟩:=gV hl rl;obtain⟨ph,rfl,rfl⟩:=gV hh rh;obtain⟨ps,rfl,rfl⟩:=gV XC rs;obtain⟨t,rfl⟩:=ra;refine wpAny_getItem_str_slice (l:=pl) (u:=ph) (st:=ps) ⟨_,hs,rfl,rfl⟩ (by simpa using h0.1) ?_
  unfold sliceMade slicePicked;split
  ·exact⟨.refl _,_,rfl⟩
  ·refine⟨?_,fT⟩
   refine H8 ?_ (Ix h0.2);show(List.filterMap _ _).toArray.size<=_;rw [HO];exact List.length_filterMap_le _ _
 |_=>exact a9 hp
end
variable {ts:List (Int×NX)}
section
theorem tG:IntsAre (ts.map (λp=>Kb p.1 p.2)) (ts.map (·.1)):=by
 induction ts with
 |nil=>exact .nil
 |cons p ts ih=>exact .cons p.1 p.2 ih
theorem j_ (val:Nat->Int) (ns:List Int) (h: ∀i (hi:i<ns.length),val i=ns[i]): ∀n,n<=ns.length->preSum val n=(ns.take n).sum
 |0,_=>by simp [preSum]
 |n+1,hn=>by rw [preSum,j_ val ns h n (by exact Ii hn),h n hn,Li hn,List.sum_append,List.sum_singleton]
theorem AU {a b:Int} {u:NX} (ho:bS ok s.heap) (h1:Sys s.heap):
  Ev' prog w ok (.tuple [.int a,.int b]) s (.ref s.heap.objs.size) {s with toks:=n,heap:=s.heap.push {cls:= .type "tuple",data:= .seq #[.int a t,.int b u]}}:=
 ⟨.pushed _ _ _,_,[.int a t,.int b u],rfl,ho _ (Hm _),h1.ne (ca _),⟨_,HL _ rfl,rfl,_,rfl⟩,⟨_,_,rfl,⟨t,rfl⟩,_,_,rfl,⟨u,rfl⟩,rfl⟩⟩
theorem y0 (hA:A.handled=H9) (hl:IsL s.heap l (ts.map (λp=>Kb p.1 p.2))):
  WP (Hj prog w) A (KG (.builtin "sum") [.ref l]) (Ev' prog w ok (.int (ts.map (·.1)).sum) s) s:=by
 refine WP.size (call_sum_walkG (O7 hl.il ?_));have hk:HK s.heap (s.heap.push {cls:= .type "list_iterator",data:= .fields #[.ref l,.int 0 0]}):=HK.push _ _;haveI Ru:=(hl.mono λo e=>hk l o e).il;obtain⟨o,ho⟩:=hl.has;have Qp:l<s.heap.objs.size:=ao ho;refine⟨_,_,_,_,_,_,λi=>((ts.map (·.1))[i]?).getD 0,rfl,Pl (A:=A.in1) hA s.heap.objs.size l (IB Qp) _,⟨⟨_,HL _ rfl,rfl,rfl⟩,Ru⟩,λb hb=> ?_,λi v hv=> ?_,λh' tk t' RS=> ?_⟩
 ·rw [show({s with heap:=s.heap.push {cls:= .type "list_iterator",data:= .fields #[.ref l,.int 0 0]}}:Hh).heap.objs.size=s.heap.objs.size+1 from I8 ..]
  rcases Hp.mp hb with rfl|hb
  ·exact HR _
  ·rcases Hp.mp hb with rfl|hb
   ·exact K8 Qp
   ·cases hb
 ·simp only [Ju,HQ,HG]at hv
  obtain⟨p,hp,rfl⟩:=hv;exact⟨p.2,by simp [hp]⟩
 ·have e:preSum (λi=>((ts.map (·.1))[i]?).getD 0) (ts.map (λp=>Kb p.1 p.2)).toArray.size=(ts.map (·.1)).sum:=by rw [j_ _ (ts.map (·.1)) (λi hi=>by simp [HB hi]) _ (by simp),Iq (by simp)]
  rw [e];refine λsz=>⟨⟨λb o e=>cy (W:=λb=>b∈[s.heap.objs.size]) (λb o n e=>RS b o n e) (λb o hb e=> ?_) ?_ (hk b o e),sz,λ_ _ e=>e,rfl⟩,_,rfl⟩
  ·rw [Hx.mp hb]at e
   haveI e2:(s.heap.push {cls:= .type "list_iterator",data:= .fields #[.ref l,.int 0 0]}).get? s.heap.objs.size=H7 {cls:= .type "list_iterator",data:= .fields #[.ref l,.int 0 0]}:=HL _ rfl;have e:(s.heap.push {cls:= .type "list_iterator",data:= .fields #[.ref l,.int 0 0]}).get? s.heap.objs.size=H7 o:=e;rw [e2]at e;cases e;exact(fc rfl (λh=>by cases h) λq t=>by simp).1
  haveI:b<s.heap.objs.size:=ao e;exact λhb=>by
   rcases Hp.mp hb with rfl|hb
   ·exact absurd this (Hr _)
   ·cases hb
theorem yD (hA:A.handled=H9) (QJ:0<ts.length) (hl:IsL s.heap l (ts.map (λp=>Kb p.1 p.2))):
  WP (Hj prog w) A (KG (.builtin "max") [.ref l]) (Ev' prog w ok (.int (zD (ts.map (·.1)))) s) s:=by
 refine WP.size (call_max_walk (O7 hl.il ?_));have hk:HK s.heap (s.heap.push {cls:= .type "list_iterator",data:= .fields #[.ref l,.int 0 0]}):=HK.push _ _;haveI Ru:=(hl.mono λo e=>hk l o e).il;obtain⟨o,ho⟩:=hl.has;have Qp:l<s.heap.objs.size:=ao ho;refine⟨_,_,_,_,_,_,_,rfl,Pl (A:=A.in1) hA s.heap.objs.size l (IB Qp) _,⟨⟨_,HL _ rfl,rfl,rfl⟩,Ru⟩,λb hb=> ?_,by simpa using QJ,
  CmpOf.ints_gt (λi=>(ts.map (·.1)).getD i 0) (λi v hv=> ?_),λv h' tk hP RS=> ?_⟩
 ·rw [show({s with heap:=s.heap.push {cls:= .type "list_iterator",data:= .fields #[.ref l,.int 0 0]}}:Hh).heap.objs.size=s.heap.objs.size+1 from I8 ..]
  rcases Hp.mp hb with rfl|hb
  ·exact HR _
  ·rcases Hp.mp hb with rfl|hb
   ·exact K8 Qp
   ·cases hb
 ·simp only [Ju,HQ,HG]at hv
  obtain⟨p,hp,rfl⟩:=hv;exact⟨p.2,by simp [KP,hp]⟩
 ·refine λsz=>⟨⟨λb o e=>cy (W:=λb=>b∈[s.heap.objs.size]) (λb o n e=>RS b o n e) (λb o hb e=> ?_) ?_ (hk b o e),sz,λ_ _ e=>e,rfl⟩, ?_⟩
  ·rw [Hx.mp hb]at e
   haveI e2:(s.heap.push {cls:= .type "list_iterator",data:= .fields #[.ref l,.int 0 0]}).get? s.heap.objs.size=H7 {cls:= .type "list_iterator",data:= .fields #[.ref l,.int 0 0]}:=HL _ rfl;have e:(s.heap.push {cls:= .type "list_iterator",data:= .fields #[.ref l,.int 0 0]}).get? s.heap.objs.size=H7 o:=e;rw [e2]at e;cases e;exact(fc rfl (λh=>by cases h) λq t=>by simp).1
  ·haveI:b<s.heap.objs.size:=ao e
   exact λhb=>by
    rcases Hp.mp hb with rfl|hb
    ·exact absurd this (Hr _)
    ·cases hb
  ·have hP':(ts.map (λp=>Kb p.1 p.2)).toArray[argBest (λi j=>decide ((ts.map (·.1)).getD i 0>(ts.map (·.1)).getD j 0)) (ts.length-1)]? =H7 v:=by
    haveI:(ts.map (λp=>Kb p.1 p.2)).toArray.size-1=ts.length-1:=by simp
    rw [<-this];exact hP
   simp only [Ju,HQ,HG]at hP';obtain⟨p,hp,rfl⟩:=hP';haveI e:zD (ts.map (·.1))=p.1:=by
    unfold zD;rw [Hf];simp only [KP,HQ]at hp ⊢
    rw [hp]
    rfl
   rw [e];exact⟨p.2,rfl⟩
theorem An (hp:Ec x=H7 c) (r:Rep prog w ok s.heap x v):WP (Hj prog w) A (KG (.builtin "len") [v]) (Ev' prog w ok c s) s:=by
 cases x with
 |list xs=>
  obtain⟨l,us,rfl,_,_,L,q⟩:=r;refine ba hp λhc=> ?_;refine call_len_list L.il (show(us.length:Int)<2^63 by rw [q.length];exact aPw (Hk (IN hc) (by decide))) ?_
  rw [show us.toArray.size=us.length from rfl,q.length];exact bt
 |str x=>
  obtain⟨t,rfl⟩:=r;exact ba hp λhc=>PySem.P.len_str (by exact NT (aPw (Hk (IN hc) (by decide)))) bt
 |_=>exact a9 hp
theorem Am {x:HJ} (hp:Eb x=H7 c):WP (Hj prog w) A (KG (.builtin "ord") [.str x t]) (Ev' prog w ok c s) s:=by
 obtain⟨⟨l⟩⟩:=x;cases l with
 |nil=>exact a9 hp
 |cons a l=>
  cases l with
  |nil=>cases hp;exact PySem.P.ord_of_char bt
  |cons=>exact a9 hp
theorem CT {k:BI} (hA:A.handled=H9) (hp:pbi k xs=H7 c) (ho:bS ok s.heap) (h1:Sys s.heap)
  (r:av prog w ok s.heap xs vs):WP (Hj prog w) A (KG (.builtin (zH k)) vs) (Ev' prog w ok c s) s:=by
 cases k with
 |len=>exact eu hp r λx v hp r=>An hp r
 |ord=>exact eu hp r λx v hp r=>lc hp r λx t hp=>Am hp
 |chr=>exact eu hp r λx v hp r=>iu hp r λi t hp=>ba hp λhc=>PySem.P.chr_of_int hc fT
 |max=>
  refine eu hp r λx v hp r=>sb hp r λxs l us _ _ L q hp=>ae hp λns hn hp=>ba hp λhc=> ?_;obtain⟨ts,rfl,rfl⟩:=j2 hn q;exact yD hA (by simpa using hc) L
 |sum=>
  refine eu hp r λx v hp r=>sb hp r λxs l us _ _ L q hp=> ?_;obtain⟨ns,hn,rfl⟩:=HG.mp hp;obtain⟨ts,rfl,rfl⟩:=j2 hn q;exact y0 hA L
 |divmod=>
  cases xs with
  |nil=>exact a9 hp
  |cons x xs=>
   obtain⟨v,_,rfl,r,q⟩:=r;exact eu (f:=λy=>oI (λa=>oI (λb=>giv (b≠0/\J9 a b=Hb) (PV.tuple [.int (a.fdiv b),.int (a.fmod b)])) y) x) hp q λy v hp r'=>iu hp r λa t hp=>iu hp r' λb u hp=>ba hp λhc=>divmod_int hc.1 (AU ho h1) (.inl hc.2)
end
end Internal
namespace Internal
open PySem PySem.W PySem.Calls PyProof.Rows PySem.SeqAt
open Builtin Builtin.Str Builtin.Int
def wA:ME->String
 | .count=> "count" | .join=> "join" | .split=> "split" | .lstrip=> "lstrip" | .lower=> "lower" | .bitlen=> "bit_length" | .index=> "index"
variable {k:ME}
set_option tactic.hygienic true in
theorem tz {m:HJ} (h:o4 m=H7 k):m=HH (wA k):=by
 unfold o4 at h;repeat' split at h
 all_goals first
  |(cases h;rename_i e;exact eq_of_beq e)
  |cases h
variable {x:HJ} {t:NX} {xs:List PV} {c:PV}
section
variable {prog:IG} {w:J0} {A:IZ} {s:Hh} {ok:Hw->Prop}
theorem qp {h:IL}: ∀(l:List (HJ×NX)),av prog w ok h (l.map λp=> .str p.1) (JJ l)
 |[]=>rfl
 |p::l=>⟨_,_,rfl,⟨p.2,rfl⟩,qp l⟩
theorem y5 {y:HJ} {u:NX} (hy:(y.length==0)=Hb) (hx:x.length<=Hz) (hn:(partsBetween x (occurrences x y 0 x.length (x.length+1)) y.length).length<=Hz)
  (ho:bS ok s.heap) (h1:Sys s.heap):WP (Hj prog w) A (KG (.builtin "str.split") [.str x t,.str y u]) (Ev' prog w ok (.list ((Txt.split x y).map .str)) s) s:=by
 have fin: ∀(l:List (HJ×NX)) n,l.map (·.1)=Txt.split x y->Ev' prog w ok (.list ((Txt.split x y).map .str)) s (.ref s.heap.objs.size) {s with toks:=n,heap:=s.heap.push {cls:= .type "list",data:= .seq (JJ l).toArray}}:=by intro l n e;rw [<-e,HU];exact fZ ho h1 (qp l)
 cases e1:(decide (x.length<y.length)||decide (strKind x<strKind y))
 ·cases hf:(occurrences x y 0 x.length (x.length+1)).isEmpty
  ·refine LP F.slot_str_split (NN _ _ _) F.entry_str_split (F.args_str_split_2 _ _) (meets_str_split_sep x y t u e1 hy hf hx hn) ?_
   show wants _ _ _ {s with toks:=_,heap:=s.heap.push {cls:= .type "list",data:= .seq (strsFrom s.toks (partsBetween x (occurrences x y 0 x.length (x.length+1)) y.length)).toArray}}
   rw [strsFrom_eq];exact fin (numbered s.toks _) _ ((numbered_texts _ _).trans ((if_neg (ne_true_of_eq_false e1)).trans (if_neg (ne_true_of_eq_false hf))).symm)
  ·exact LP F.slot_str_split (NN _ _ _) F.entry_str_split (F.args_str_split_2 _ _) (meets_str_split_not_found x y t u e1 hy hf)
    (fin [(x,t)] _ ((if_neg (ne_true_of_eq_false e1)).trans (if_pos hf)).symm)
 ·exact LP F.slot_str_split (NN _ _ _) F.entry_str_split (F.args_str_split_2 _ _) (meets_str_split_cannot_occur x y t u e1) (fin [(x,t)] _ (if_pos e1).symm)
theorem lO: ∀{ts:List (HJ×NX)},StrsAre (ts.map λp=>L8 p.1 p.2) (ts.map (·.1))
 |[]=> .nil
 |p::ts=> .cons p.1 p.2 lO
theorem tI {l:Hw} {ts:List (HJ×NX)} {k:HJ} {Q:Hl->Hh->Prop} (L:IsL s.heap l (ts.map λp=>L8 p.1 p.2)) (hk:k∈ts.map (·.1)) (hb:ts.length<=1000)
  (h:Q (.int ((ts.map (·.1)).idxOf k:Nat) s.toks) {s with toks:=s.toks+1}):WP (Hj prog w) A (KG (.builtin "list.index") [.ref l,.str k t]) Q s:=by
 obtain⟨n,ho⟩:=L;have hj:(ts.map (·.1)).idxOf k<ts.length:=by simpa using OD.mpr hk
 refine LP PySem.F.slot_list_index ⟨_,ho,rfl⟩ PySem.F.entry_list_index (PySem.F.args_list_index_2 _ _)
  (list_indexAt l _ n H9 #[] (.str k t) (isStrOf k) ((ts.map (·.1)).idxOf k) (by simpa using hj) (by lia) ?_ ?_) ⟨ho,λy hy=>(eq_isStrOf k t lO y (by simpa using hy)).at _ _,h⟩
 ·have h:(ts.map (·.1))[(ts.map (·.1)).idxOf k]'(by simpa using hj)=k:=No _
  rw [List.getElem_map]at h;simp [isStrOf,h]
 ·intro j hjs Qp
  have h:=List.not_of_lt_findIdx Qp;simp at h;simp [isStrOf];exact h
structure DW (name:String) (T id:String):Prop where
 pa:PlainAttrs T
 sl:Slot T name id
 ty:typeOf (.builtin id)=pure (.type "method_descriptor")
def qX (k:ME) (xs:List PV) (c:PV) (a:PV):Prop:= ∃T id,DW (wA k) T id/\
  ∀(prog:IG) (w:J0) (ok:Hw->Prop) (s:Hh) (v:Hl),Rep prog w ok s.heap a v->s.TypeIs v T/\(∀b,v= .ref b->s.heap.NoDictAt (.ref b))/\
   ∀(A:IZ) (s':Hh) (vs:List Hl),bS ok s'.heap->Sys s'.heap->Rep prog w ok s'.heap a v->av prog w ok s'.heap xs vs->
    WP (Hj prog w) A (KG (.builtin id) (v::vs)) (Ev' prog w ok c s') s'
theorem iO {id:String} (sl:Slot "str" (wA k) id) (ty:typeOf (.builtin id)=pure (.type "method_descriptor"))
  (h: ∀(prog:IG) (w:J0) (ok:Hw->Prop) (A:IZ) (s':Hh) (vs:List Hl) t,bS ok s'.heap->Sys s'.heap->av prog w ok s'.heap xs vs->
    WP (Hj prog w) A (KG (.builtin id) (.str x t::vs)) (Ev' prog w ok c s') s'):qX k xs c (.str x):=
 ⟨_,_,⟨F.plainAttrs_str,sl,ty⟩,λprog w ok s v ⟨t,e⟩=>e▸⟨NN _ _ _,(λ_ e=>nomatch e),λA s' vs ho h1 _ q=>h prog w ok A s' vs t ho h1 q⟩⟩
theorem CO {a:PV} (hp:pme k a xs=H7 c):qX k xs c a:=by
 cases k with
 |count=>
  cases a with
  |list ys=>
   exact ae hp λl hl hp=>⟨_,_,⟨F.plainAttrs_list,F.slot_list_count,F.type_list_count⟩,λprog w ok s v r=>by
    obtain⟨D,us,rfl,_,_,L,q⟩:=r;refine⟨MV L.il,λb e=>by cases e;obtain⟨n,e⟩:=L;exact⟨_,e,rfl⟩,λA s' vs ho h1 r q'=> ?_⟩
    obtain⟨D',us,e,_,_,L,q⟩:=r;cases e;obtain⟨ts,rfl,rfl⟩:=j2 hl q;exact eu hp q' λy v hp q=>iu hp q λy u hp=>ba (P:=λc=>WP _ A _ (Ev' prog w ok c s') s') hp λhc=>count_list_ints L.il tG bt⟩
  |str x=>exact iO F.slot_str_count F.type_str_count λprog w ok A s vs t ho h1 q=>eu hp q λy v hp q=>lc hp q λy u hp=>by cases hp;exact SC.count bt
  |_=>exact a9 hp
 |join=>
  refine fO hp λx hp=>iO F.slot_str_join F.type_str_join λprog w ok A s vs t ho h1 q=>eu hp q λy v hp q=>sb hp q λys D us _ _ L q hp=>ae hp λl hl hp=>ba hp λhc=> ?_;obtain⟨ts,rfl,rfl⟩:=lz hl q;exact SC.join (l:=ts) L.il rfl hc λ_ _=>fT
 |split=>exact fO hp λx hp=>iO F.slot_str_split F.type_str_split λprog w ok A s vs t ho h1 q=>eu hp q λy v hp q=>lc hp q λy u hp=>ba hp λhc=>y5 hc.1 hc.2.1 hc.2.2 ho h1
 |lower=>exact fO hp λx hp=>iO F.slot_str_lower F.type_str_lower λprog w ok A s vs t ho h1 q=>on hp q λhp=>ba hp λhc=>SC.lower hc fT
 |lstrip=>exact fO hp λx hp=>iO F.slot_str_lstrip F.type_str_lstrip λprog w ok A s vs t ho h1 q=>eu hp q λy v hp q=>lc hp q λy u hp=>ba hp λhc=>SC.lstripChars (λ_ _=>fT) hc
 |bitlen=>
  refine jm hp λx hp=>⟨_,_,⟨F.plainAttrs_int,slot_int_bit_length,type_int_bit_length⟩,λprog w ok s v r=> ?_⟩;obtain⟨t,rfl⟩:=r;exact⟨typeIs_int _ _ _,(λ_ e=>nomatch e),λA s' vs ho h1 _ q=>on hp q λhp=>by cases hp;exact call_int_bit_length bt⟩
 |index=>
  exact wZ hp λys hp=>ae hp λl hl hp=>⟨_,_,⟨F.plainAttrs_list,F.slot_list_index,F.type_list_index⟩,λprog w ok s v r=>by
   obtain⟨D,us,rfl,_,_,L,q⟩:=r;refine⟨MV L.il,λb e=>by cases e;obtain⟨n,e⟩:=L;exact⟨_,e,rfl⟩,λA s' vs ho h1 r q'=> ?_⟩
   obtain⟨D',us,e,_,_,L,q⟩:=r;cases e;obtain⟨ts,rfl,rfl⟩:=lz hl q;exact eu hp q' λy v hp q=>lc hp q λy u hp=>ba (P:=λc=>WP _ A _ (Ev' prog w ok c s') s') hp λhc=>tI L hc.1 (by simpa using hc.2) bt⟩
end
end Internal
namespace Internal
open PySem PySem.W PySem.Calls PyProof.Rows PySem.SeqAt
structure bw (W:List Hw) (Wg:List Nat) (s s':Hh):Prop where
 keep: ∀b o,b∉W->vis s.heap b=H7 o->vis s'.heap b=H7 o
 gens: ∀(i:Nat) g,i∉Wg->s.gens[i]? =H7 g->s'.gens[i]? =H7 g
 os:s'.os=s.os
 size:s.heap.objs.size<=s'.heap.objs.size
abbrev okW (ok:Hw->Prop) (W:List Hw):Hw->Prop:=λa=>ok a/\a∉W
structure nU (prog:IG) (w:J0) (d:Nat) (I:Hw) (Wg:List Nat) (St:(Hw->Prop)->List PV->List Hw->Hh->Prop):Prop where
 own: ∀{ok xs W s},St ok xs W s-> ∀b∈W,(∃o,vis s.heap b=H7 o)/\ ¬ok b
 frame: ∀{ok ok' xs W s s'},St ok xs W s->(∀b o,ok b∨b∈W->vis s.heap b=H7 o->vis s'.heap b=H7 o)->
  (∀b o,ok b->vis s.heap b=H7 o->ok' b)->(∀b∈W,¬ok' b)->(∀(i:Nat) g,s.gens[i]? =H7 g->s'.gens[i]? =H7 g)->s'.os=s.os->St ok' xs W s'
 next: ∀{A ok x xs W s tgt},AOk d A->bS (λa=>ok a) s.heap->Sys s.heap->St ok (x::xs) W s->
  WP (Hj prog w) A (Lb (.ref I)) (λr s1=> ∃v W1,r=H7 v/\(∀b∈W,b∈W1)/\(∀b∈W1,b∈W∨s.heap.objs.size<=b)/\bw W Wg s s1/\
   Rep prog w (okW ok W1) s1.heap x v/\WP (Hj prog w) A (Iu tgt (.ref I) v) (λ_ s2=>bw W1 Wg s1 s2/\St (okW ok W1) xs W1 s2) s1) s
 done: ∀{A ok W s},AOk d A->St ok [] W s->WP (Hj prog w) A (Lb (.ref I)) (λr s1=>r=H9/\bw W Wg s s1) s
 self: ∀{A ok xs W s},AOk d A->St ok xs W s->WP (Hj prog w) A (MQ (.ref I)) (λv s1=>v= .ref I/\s1=s) s
def qz:List String:=["enumerate","zip","dict_itemiterator","dict_reverseitemiterator","odict_iterator","itertools.zip_longest","itertools.pairwise"]
def BX (h:IL) (I:Hw):Prop:= ∃o n,h.get? I=H7 o/\o.cls= .type n/\qz.contains n=Hb
variable {prog:IG} {w:J0} {A:IZ} {s:Hh} {ok:Hw->Prop} {d n:Nat} {I a:Hw} {o:Oh} {h h':IL} {wr fp:List Hw} {S:Nat->IL->Prop}
section
theorem k0 {tgt:Expr} {v:Hl} {Q:Unit->Hh->Prop} (hn:BX s.heap I) (h:Q () s):WP (Hj prog w) A (Iu tgt (.ref I) v) Q s:=by
 obtain⟨o,n,ho,hc,hn⟩:=hn;have main:WP (Hj prog w) A (Iu (.List [] Ip) (.ref I) v) Q s:=by
  cases v with
  |ref a=>
   refine He (wpAny_load ho ?_);rw [hc];cases o.data with
   |fields vs=>
    refine wpAny_ite ?_;exact Eq.mpr (if_neg λq=>Bool.noConfusion (hn.symm.trans (HZ.mp q).1)) (Hi h)
   |_=>exact Hi h
  |_=>exact Hi h
 cases tgt with
 |Tuple=>exact main
 |List=>exact main
 |_=>exact Hi h
theorem cW {vs:Array Hl} {n:String} (c:o.cls= .type n) (d:o.data= .fields vs) (h: ∀q t,vs[1]? ≠H7 (.str q t)):bE o:=fc d (λq=>by rw [c]at q;cases q) h
theorem qM {vs:Array Hl} (x:h.IsList a vs): ∃o,h.get? a=H7 o/\bE o:=by obtain⟨o,e,_,_,d⟩:=x;exact⟨o,e,bZ d⟩
theorem iS (hk: ∀b o,b∉wr->h.get? b=H7 o->h'.get? b=H7 o) (hp: ∀b∈wr,∀o,h.get? b=H7 o->aK o): ∀b o,b∉wr->vis h b=H7 o->vis h' b=H7 o:=
 λb o hb e=>cy (W:=λb=>b∈wr) (λb o n e=>hk b o n e) (λb o q e=>hp b q o e) hb e
theorem rY (hl: ∀b∈fp,∃o,h.get? b=H7 o/\bE o) (sub: ∀b∈wr,b∈fp): ∀b∈wr,∀o,h.get? b=H7 o->aK o:=
 λb hb o e=>(hl b (sub b hb)).elim λo' h=>Hg (h.1.symm.trans e)▸h.2.1
def Cf (fp wr:List Hw) (n:Nat) (S:Nat->IL->Prop) (E:(Hw->Prop)->IL->Nat->PV->Prop):(Hw->Prop)->List PV->List Hw->Hh->Prop:=λok xs W s=>
 W=wr/\(∀b∈wr,¬ok b)/\(∀b∈fp,b∈wr∨ok b)/\ ∃i,i+xs.length=n/\S i s.heap/\ ∀(j:Nat) x,xs[j]? =H7 x->E ok s.heap (i+j) x
section
variable {E:(Hw->Prop)->IL->Nat->PV->Prop}
theorem nU.of (sub: ∀b∈wr,b∈fp) (hf: ∀i h h',S i h->(∀b∈fp,∀o,h.get? b=H7 o->h'.get? b=H7 o)->S i h') (hl: ∀i h,S i h-> ∀b∈fp,∃o,h.get? b=H7 o/\bE o)
  (Em: ∀{ok ok':Hw->Prop} {h h':IL} {k:Nat} {x:PV},(∀a,ok a->(∃o,vis h a=H7 o)->ok' a)->(∀a,ok a-> ∀o,vis h a=H7 o->vis h' a=H7 o)->E ok h k x->E ok' h' k x)
  (hn: ∀{A:IZ} {ok:Hw->Prop} {x:PV} {s:Hh} {tgt:Expr} {i:Nat},AOk d A->bS ok s.heap->Sys s.heap->i<n->S i s.heap->(∀b∈wr,¬ok b)->E ok s.heap i x->
   WP (Hj prog w) A (Lb (.ref I)) (λr s1=> ∃v,r=H7 v/\bw wr [] s s1/\Rep prog w (okW ok wr) s1.heap x v/\
    WP (Hj prog w) A (Iu tgt (.ref I) v) (λ_ s2=>bw wr [] s1 s2/\S (i+1) s2.heap) s1) s)
  (hd: ∀{A:IZ} {s:Hh},AOk d A->S n s.heap->WP (Hj prog w) A (Lb (.ref I)) (λr s1=>r=H9/\bw wr [] s s1) s)
  (hs: ∀{A:IZ} {s:Hh} {i:Nat},AOk d A->S i s.heap->WP (Hj prog w) A (MQ (.ref I)) (λv s1=>v= .ref I/\s1=s) s):nU prog w d I [] (Cf fp wr n S E)where
 own:=λ{ok xs W s} ⟨e,h1,h2,i,hi,hS,hr⟩ b hb=>(hl _ _ hS b (sub b (e▸hb))).elim λo h=>⟨⟨o,h.2.vis h.1⟩,h1 b (e▸hb)⟩
 frame:=λ{ok ok' xs W s s'} ⟨e,h1,h2,i,hi,hS,hr⟩ k1 k2 k3 _ _=>
  ⟨e,e▸k3,λb hb=>(h2 b hb).imp id λh=>(hl _ _ hS b hb).elim λo n=>k2 b o h (n.2.vis n.1),i,hi,
   hf _ _ _ hS λb hb o e'=>(hl _ _ hS b hb).elim λo' h=>(Hg (h.1.symm.trans e')▸h.2:bE o).keep (λo e'=>k1 b o (e▸(h2 b hb).symm) e') e',
   λj x hx=>Em (λa ha h=>h.elim λo e=>k2 a o ha e) (λa ha o e=>k1 a o (.inl ha) e) (hr j x hx)⟩
 next:=λ{A ok x xs W s tgt} hA ho h1 ⟨e,h2,h3,i,hi,hS,hr⟩=>by
  cases e;refine(hn hA ho h1 (hi▸Nat.lt_add_of_pos_right (LY _)) hS h2 (hr 0 x rfl)).mono λr s1 ⟨v,e,K,q,hg⟩=>⟨v,wr,e,λ_ h=>h,λ_ h=> .inl h,K,q,hg.mono λ_ s2 ⟨K',U4⟩=>⟨K',rfl,λb hb hc=>hc.2 hb,λb hb=> ?_,i+1, ?_,U4,λj x hx=> ?_⟩⟩
  ·exact if QP:b∈wr then .inl QP else .inr ⟨(h3 b hb).resolve_left QP,QP⟩
  ·rw [<-hi,I7,Iv 1];rfl
  ·rw [I7,Iv 1]
   exact Em (λa ha _=>⟨ha,λhb=>h2 a hb ha⟩) (λa ha o e=>K'.keep a o (λhb=>h2 a hb ha) (K.keep a o (λhb=>h2 a hb ha) e)) (hr (j+1) x hx)
 done:=λ{A ok W s} hA ⟨e,h2,h3,i,hi,hS,hr⟩=>by cases e;cases hi;exact hd hA hS
 self:=λ{A ok xs W s} hA ⟨e,h2,h3,i,hi,hS,hr⟩=>hs hA hS
theorem bw.of {tk:NX} (hk: ∀b o,b∉wr->s.heap.get? b=H7 o->h'.get? b=H7 o) (hp: ∀b∈wr,∀o,s.heap.get? b=H7 o->aK o) (sz:s.heap.objs.size<=h'.objs.size):
  bw wr [] s {s with heap:=h',toks:=tk}:=⟨iS hk hp,λ_ _ _ e=>e,rfl,sz⟩
theorem nU.ofWalks {P:Nat->Hl->Prop} (hW: ∀A:IZ,A.handled=H9->Walks prog w A I fp wr n P S)
  (hI: ∀i h,S i h->BX h I) (hl: ∀i h,S i h-> ∀b∈fp,∃o,h.get? b=H7 o/\bE o):
  nU prog w d I [] (Cf fp wr n S λok h k x=> ∀v,P k v->Rep prog w ok h x v):=
 .of (hW {} rfl).sub (hW {} rfl).frame hl (λho hk r v hv=>(r v hv).mono ho hk)
  (λ{A ok x s tgt i} hA ho h1 Qp hS h2 hr=>WP.size ((hW A hA.1).item i s _ _ Qp hS λv h' tk hP U4 hk sz=>
   ⟨v,rfl,.of hk (rY (hl _ _ hS) (hW {} rfl).sub) sz,(hr v hP).mono (λa ha _=>⟨ha,λhb=>h2 a hb ha⟩) (λa ha o e=>iS hk (rY (hl _ _ hS) (hW {} rfl).sub) a o (λhb=>h2 a hb ha) e),
    k0 (hI _ _ U4) ⟨⟨λ_ _ _ e=>e,λ_ _ _ e=>e,rfl,Hm _⟩,U4⟩⟩))
  (λ{A s} hA hS=>WP.size ((hW A hA.1).done s _ _ hS λh' tk hk sz=>⟨rfl,.of hk (rY (hl _ _ hS) (hW {} rfl).sub) sz⟩))
  λ{A s i} hA hS=>(hW A hA.1).self i s _ _ hS ⟨rfl,rfl⟩
end
end
def zJ (prog:IG) (w:J0) (d:Nat) (ok:Hw->Prop) (xs:List PV) (s₀ s:Hh) (I:Hw):Prop:=
 ∃W St,nU prog w d I [] St/\St (okW ok W) xs W s/\(∀b∈W,s₀.heap.objs.size<=b)
def pO (prog:IG) (w:J0) (d:Nat) (ok:Hw->Prop) (xs:List PV) (s₀:Hh) (v:Hl) (s:Hh):Prop:=
 ∀A,AOk d A->WP (Hj prog w) A (MQ v) (λr s'=>Ext s s'/\ ∃I,r= .ref I/\zJ prog w d ok xs s₀ s' I) s
variable {s' s₀:Hh} {xs:List PV} {vs:List Hl} {j i:Nat} {b N l:Hw} {x:HJ} {v:PV} {K:Type}
section
theorem Rep.new {x:PV} {v:Hl} {W:List Hw} (r:Rep prog w ok h x v) (k:HK h h') (hW: ∀b∈W,vis h b=H9):Rep prog w (okW ok W) h' x v:=
 r.mono (λa ha ⟨o,e⟩=>⟨ha,λhb=>by rw [hW a hb]at e;cases e⟩) (λa _ o e=>k a o e)
theorem Rep.newP {x:PV} {v:Hl} (r:Rep prog w ok s.heap x v):Rep prog w (okW ok [s.heap.objs.size]) (s.heap.push o) x v:=r.new (HK.push _ _) λb hb=>by rw [Hx.mp hb];exact ca _
theorem av.at2 {x:PV} {v:Hl} (q:av prog w ok h xs vs) (hx:xs[j]? =H7 x) (hv:vs.toArray[j]? =H7 v):Rep prog w ok h x v:=
 (q.get hx).elim λv' h=>Hg (h.1.symm.trans (Ju.symm.trans hv))▸h.2
theorem nT {p:Hw->Prop} (h1:p a) (h2:p b): ∀c∈[a,b],p c:=I5.mpr ⟨h1,I5.mpr ⟨h2,λ_ h=>nomatch h⟩⟩
theorem fp1 (h:ok l): ∀b∈[N,l],b∈[N]∨ok b:=nT (.inl (Hx.mpr rfl)) (.inr h)
theorem nQ {p:Hw->Prop} (h:p a): ∀c∈[a],p c:=I5.mpr ⟨h,λ_ h=>nomatch h⟩
theorem zJ.of {W:List Hw} {E:(Hw->Prop)->IL->Nat->PV->Prop} (it:nU prog w d I [] (Cf fp W n S E))
  (hfp: ∀b∈fp,b∈W∨ok b) (hn:xs.length=n) (hS:S 0 s.heap) (hr: ∀(j:Nat) x,xs[j]? =H7 x->E (okW ok W) s.heap j x) (h0: ∀b∈W,s₀.heap.objs.size<=b):zJ prog w d ok xs s₀ s I:=
 ⟨W,_,it,⟨rfl,λb hb hc=>hc.2 hb,λb hb=>if h:b∈W then .inl h else .inr ⟨(hfp b hb).resolve_left h,h⟩,0,(IJ _).trans hn,hS,λj x h=>(IJ j).symm▸hr j x h⟩,h0⟩
theorem wz (x:h.IsListIter N l i): ∃o,h.get? N=H7 o/\bE o:=KF x λo h=>⟨o,h.1,cW h.2.1 h.2.2 λq t=>by simp⟩
theorem vU (h0:s₀.heap.objs.size<=s.heap.objs.size) (hl:IsL s.heap l vs) (QI:ok l) (q:av prog w ok s.heap xs vs):
  pO prog w d ok xs s₀ (.ref l) s:=λA hA=>
 O7 hl.il ⟨.pushed _ _ _,_,rfl,.of (.ofWalks (λA hA=>Pl hA s.heap.objs.size l (hl.has.elim λo e=>IB (ao e)) vs.toArray)
  (λi h hS=>KF hS.1 λo h=>⟨o,_,h.1,h.2.1,by decide⟩) λi h hS=>nT (wz hS.1) (qM hS.2)) (fp1 QI) q.length.symm
  ⟨⟨_,HL _ rfl,rfl,rfl⟩,(hl.mono λo e=>HK.push _ _ l o e).il⟩ (λj x hx v hv=>(q.at2 hx hv).newP) (nQ h0)⟩
theorem nB (h:((gq x).map PV.str)[j]? =H7 v): ∃c,x.cps[j]? =H7 c/\v= .str ⟨#[c]⟩:=by simp only [gq,HU,HQ,HG,OP]at h;obtain⟨c,hc,rfl⟩:=h;exact⟨c,hc,rfl⟩
theorem yQ {t:NX} (h0:s₀.heap.objs.size<=s.heap.objs.size):pO prog w d ok ((gq x).map .str) s₀ (.str x t) s:=by
 intro A hA;have key: ∀(ty:String),qz.contains ty=Hb->(∀A:IZ,A.handled=H9->Walks prog w A s.heap.objs.size [s.heap.objs.size] [s.heap.objs.size] x.cps.size (SignAt x) (λi h=>h.IsStrIter s.heap.objs.size ty x t i))->
   (fun(r:Hl) (s':Hh)=>Ext s s'/\ ∃I,r= .ref I/\zJ prog w d ok ((gq x).map .str) s₀ s' I) (.ref s.heap.objs.size) {s with heap:=s.heap.push {cls:= .type ty,data:= .fields #[.str x t,.int 0 0]}}:=λty TD hW=>
  ⟨.pushed _ _ _,_,rfl,.of (.ofWalks hW (λi h hS=>KF hS λo h=>⟨o,_,h.1,h.2.1,TD⟩) λi h hS=>nQ (KF hS λo h=>⟨o,h.1,cW h.2.1 h.2.2 λq t=>by simp⟩))
   (nQ (.inl (Hx.mpr rfl))) ((Hf _).trans (Hf _)) ⟨_,HL _ rfl,rfl,rfl⟩
   (λj x hx v hv=>by obtain⟨c,hc,rfl⟩:=nB hx;obtain⟨c',u,Sm,rfl⟩:=hv;exact Hg (hc.symm.trans Sm)▸⟨u,rfl⟩) (nQ h0)⟩
 cases ha:x.cps.all (· <128)
 ·exact wpAny_pyIter_wide ha (key "str_iterator" (by decide) λA' hA=>Walks.strWide hA _ x t)
 ·exact wpAny_pyIter_ascii ha (key "str_ascii_iterator" (by decide) λA' hA=>Walks.strAscii hA _ x t)
theorem iA: ∀(n:Nat) (a:Int) (j:Nat) (v:Int),(fh a n)[j]? =H7 v->v=a+j
 |0,a,j,v,h=>by simp [fh]at h
 |n+1,a,0,v,h=>by simp [fh]at h;lia
 |n+1,a,j+1,v,h=>by simp only [fh,List.getElem?_cons_succ]at h;have:=iA n (a+1) j v h;lia
theorem iz: ∀(n:Nat) (a:Int),(fh a n).length=n
 |0,_=>rfl
 |n+1,a=>by simp [fh,iz n]
theorem tF {a b:Int} {r:Hw} {t u v:NX} (h0:s₀.heap.objs.size<=s.heap.objs.size) (hp:di a b=H7 xs) (hr:IsRange s.heap r a b 1 t u v):pO prog w d ok xs s₀ (.ref r) s:=by
 obtain⟨hc,rfl⟩:=ah hp;intro A hA;refine wpAny_pyIter_range hr (small_one (by exact Kt (by decide) hc.1) (by exact JA hc.2.1 (by decide)) (by exact Kt (by decide) hc.2.2.1) (by exact JA hc.2.2.2 (by decide))) ?_
 rw [show Nx a b 1=((b-a).toNat:Int)by rw [rangeSize_one];split<;>first|exact aTn (by assumption)|exact GT (by assumption)]
 refine⟨.pushed _ _ _,s.heap.objs.size,rfl,.of (.ofWalks (n:=(b-a).toNat) (λA hA=>Walks.range hA s.heap.objs.size a 1 (b-a).toNat) (λi h hS=>⟨_,_,hS,rfl,by decide⟩) λi h hS=>nQ ⟨_,hS,cW rfl rfl λq t h=>by injection h with h;cases h⟩)
  (nQ (.inl (Hx.mpr rfl))) ((Hf _).trans (iz _ _)) ?_ (λj x hx v hv=> ?_) (nQ h0)⟩
 ·simp only [IsRangeIter,Int.natCast_zero,Pb,NC,Int.sub_zero]
  exact HL _ rfl
 ·simp only [HQ,HG]at hx
  obtain⟨k,hk,rfl⟩:=hx;obtain⟨t,rfl⟩:=hv;exact⟨t,by rw [iA _ _ _ _ hk,Pv]⟩
theorem vV [DecidableEq K] {knd:KeyKind prog w K} (f:K->PV) (hf: ∀ok h k v,knd.is k v=Hd->Rep prog w ok h (f k) v) {ks:List K} (h0:s₀.heap.objs.size<=s.heap.objs.size) (hs:(l==IA)=Hb) (Q7:ks.length=vs.length)
  (hl:s.heap.DictOf knd l (ks.zip vs)) (QI:ok l):pO prog w d ok (ks.map f) s₀ (.ref l) s:=by
 intro A hA;obtain⟨ep,hl⟩:=hl.dictAt;refine wpAny_pyIter_dict hs hl ⟨.pushed _ _ _,_,rfl,.of (.ofWalks (λA hA=>Walks.dictKeys hA s.heap.objs.size l (IB hl.lt_size) (ks.zip vs) ep) (λi h hS=>KF hS.1 λo h=>⟨o,_,h.1,h.2.1,by decide⟩)
  λi h hS=>nT (KF hS.1 λo h=>⟨o,h.1,cW h.2.1 h.2.2 λq t=>by simp⟩) (by obtain⟨_,o,es,e,_,d,_⟩:=hS;exact⟨o,e,cC d⟩)) (fp1 QI) (by simp [Q7])
  ⟨⟨_,HL _ rfl,rfl,rfl⟩,hl.keep λb o e=>HV _ e⟩ (λj x hx v hv=> ?_) (nQ h0)⟩
 simp only [HQ,HG]at hx;obtain⟨k,hk,rfl⟩:=hx;obtain⟨k',y,QO,hv⟩:=hv;have:=Mg.mp QO;rw [hk]at this;exact Hg this.1▸hf _ _ _ _ hv
theorem pH {x:PV} {v:Hl} (h0:s₀.heap.objs.size<=s.heap.objs.size) (hp:bK x=H7 xs) (r:Rep prog w ok s.heap x v):
  pO prog w d ok xs s₀ v s:=by
 cases x with
 |list ys=>obtain⟨a,vs,rfl,o,_,l,q⟩:=r;cases hp;exact vU h0 l o q
 |str y=>obtain⟨t,rfl⟩:=r;cases hp;exact yQ h0
 |range a b=>obtain⟨a,t,u,c,rfl,o,hs,l⟩:=r;exact tF h0 hp l
 |dictI ks us=>obtain⟨a,vs,rfl,o,hs,l,q⟩:=r;cases hp;exact vV .int (λok h k v hv=>by obtain⟨t,rfl⟩:=Value.isInt_shape hv;exact⟨t,rfl⟩) h0 hs l.1 l.2 o
 |_=>exact a9 hp
end
section
theorem yd (h0:s₀.heap.objs.size<=s.heap.objs.size) (hl:IsL s.heap l vs) (QI:ok l) (q:av prog w ok s.heap xs vs):
  WP (Hj prog w) A (KG (.type "reversed") [.ref l]) (λr s'=>Ext s s'/\pO prog w d ok xs.reverse s₀ r s') s:=by
 refine call_reversed_list hl.il ⟨.pushed _ _ _,λA hA=> ?_⟩;haveI Qp:l<s.heap.objs.size:=by obtain⟨o,e⟩:=hl.has;exact ao e
 have Qe:((s.heap.push (revObj l ((vs.toArray.size:Int)-1))).IsRevIter s.heap.objs.size l ((vs.toArray.size:Int)-1)):=⟨_,HL _ rfl,rfl,rfl⟩;refine wpAny_pyIter_revIter Qe ⟨.refl _,s.heap.objs.size,rfl,.of (.ofWalks (λA hA=>Walks.listRev hA s.heap.objs.size l (IB Qp) vs.toArray) (λi h hS=>KF hS.2.1 λo h=>⟨o,_,h.1,h.2.1,by decide⟩)
  λi h hS=>nT (KF hS.2.1 λo h=>⟨o,h.1,cW h.2.1 h.2.2 λq t=>by simp [N4]⟩) (qM hS.2.2)) (fp1 QI) (Kc.trans q.length.symm)
  ⟨IH _,by simpa using Qe,(hl.mono λo e=>HK.push _ _ l o e).il⟩ (λj x hx v hv=> ?_) (nQ h0)⟩
 haveI hj:j<xs.length:=by have:=(K0.mp hx).1;simpa using this
 rw [MX hj]at hx;refine(q.at2 hx (v:=v) ?_).newP;rw [<-q.length];exact hv
theorem xD: ∀{ys:List PV} {j:Nat} {x:PV},(nN xs ys)[j]? =H7 x-> ∃a b,xs[j]? =H7 a/\ys[j]? =H7 b/\x= .tuple [a,b]:=by
 induction xs with
 |nil=>exact λh=>nomatch h
 |cons a xs ih=>
  intro ys j x h;cases ys with
  |nil=>exact nomatch h
  |cons b ys=>
   cases j with
   |zero=>exact⟨a,b,rfl,rfl,(Hg h).symm⟩
   |succ j=>exact ih (ys:=ys) (j:=j) h
theorem xC (xs:List PV): ∀(ys:List PV),(nN xs ys).length=min xs.length ys.length:=by
 induction xs with
 |nil=>exact λ_=>(Nat.zero_min _).symm
 |cons a xs ih=>
  intro ys;cases ys with
  |nil=>rfl
  |cons b ys=>exact(congrArg L0 (ih ys)).trans (Nat.add_min_add_right xs.length ys.length 1).symm
end
def bg (Q5:MY) (ns:ay) (a:Hw):Prop:=a=Q5.locals∨ ∃x,ns.lookup x=H7 .cell/\Q5.cells.lookup x=H7 a
structure aG (h:IL) (Q5:MY) (ns:ay):Prop where
 L: ∃m,h.Ns Q5.locals m
 C: ∀x,ns.lookup x=H7 .cell-> ∃c v,Q5.cells.lookup x=H7 c/\h.IsCell c v
variable {Q5:MY} {ns:ay}
theorem aG.at (F:aG h Q5 ns) (k: ∀a,bg Q5 ns a-> ∀o,vis h a=H7 o->vis h' a=H7 o):aG h' Q5 ns where
 L:=by obtain⟨m,n⟩:=F.L;exact⟨m,dD n (k _ (.inl rfl))⟩
 C:=λx hx=>by obtain⟨c,v,e,n⟩:=F.C x hx;exact⟨c,v,e,aN n (k c (.inr ⟨x,hx,e⟩))⟩
theorem fa {m:HJ->Option Hl} {v:Option Hl} (x:h.Ns a m) (y:h.IsCell a v):False:=by obtain⟨o,es,ep,ho,hd,_⟩:=x;obtain⟨o',V7,R1⟩:=y;rw [ho]at V7;cases V7;rw [hd]at R1;cases R1
variable {Q4:List HJ} {y:HJ}
theorem e_ (hx:x∈Q4) (SX:y≠x):Q4.idxOf y≠Q4.idxOf x:=by intro e;have h1:Q4.idxOf x<Q4.length:=OD.mpr hx;haveI h2:Q4.idxOf y<Q4.length:=e▸h1;haveI a:=No h1;haveI b:=No h2;exact SX (by rw [<-a,<-b];congr 1)
variable {ρ:Ρ} {pv:PV}
theorem dM {o:Option PV} (h:Ρ.get (ρ.set i o) i=H7 pv):o=H7 pv:=by
 unfold Ρ.get at h;rw [Ki]at h;cases e:ρ[i]? with
 |none=>rw [e]at h;cases h
 |some q=>rw [e]at h;simpa using h
theorem aD {o:Option PV} (h:j≠i):Ρ.get (ρ.set i o) j=ρ.get j:=by unfold Ρ.get;rw [List.getElem?_set_ne (Kv h)]
variable {ρ' ρ₁ ρ₂:Ρ} {pos:Jq} {is:List Nat} {s₁:Hh}
section
theorem tE (E:cx Q5 ns) (h:ns.lookup x=H7 .local):Q5.kindOf x=H7 .local:=by
 have h1:=E.cls x;have h2:=E.cel x;rw [h]at h1 h2;cases e:Q5.kindOf x with
 |none=>rw [e]at h1;cases h1
 |some k=>rw [e]at h1 h2;cases k<;>first|rfl|exact absurd h1 (by decide)|exact absurd h2 (by decide)
theorem lP (E:cx Q5 ns) (F:aG s.heap Q5 ns) {v:Hl} (hx:a_ ns x=Hd) {Q:Unit->Hh->Prop}
  (h: ∀h' a tk,bg Q5 ns a->Iz a s.heap h'->(∀o,s.heap.get? a=H7 o->aK o)->aG h' Q5 ns->aY h' Q5 x v->(∀y u,y≠x->aY s.heap Q5 y u->aY h' Q5 y u)->Q () {s with heap:=h',toks:=tk}):
  WP (Hj prog w) A (storeName Q5 x v) Q s:=by
 simp only [a_,H_,L7,beq_iff_eq]at hx;obtain⟨hk,_⟩:=hx;obtain⟨m,hn⟩:=F.L;rcases hk with hk|hk
 ·have QO:=tE E hk
  refine wpAny_storeName_local QO hn (λh' Ra QV=>h h' _ _ (.inl rfl) QV (lH hn) ⟨⟨_,Ra⟩,λy hy=> ?_⟩ (.loc _ QO Ra (by simp)) λy u SA V=> ?_) (by rw [E.kind];rfl)
  ·obtain⟨c,v,e,hc⟩:=F.C y hy
   exact⟨c,v,e,hc.sameBut QV λq=>fa hn (q▸hc)⟩
  ·cases V with
   |loc m' k n e=>
    haveI hmm:m'=m:=by obtain⟨o,es,ep,ho,hd,hk,hm⟩:=n;obtain⟨o',es',ep',V7,R1,QO,S4⟩:=hn;rw [ho]at V7;cases V7;rw [hd]at R1;cases R1;funext z;rw [<-hm z,<-S4 z]
    subst hmm;exact .loc _ k Ra (by simp [SA];exact e)
   |cel c k l e=>exact .cel c k l (e.sameBut QV λq=>fa hn (q▸e))
 ·have QO:=E.own x hk
  obtain⟨c,v₀,e,hc⟩:=F.C x hk;refine wpAny_storeName_cell E.kind QO e hc λh' Sm QV=>h h' c _ (.inr ⟨x,hk,e⟩) QV (tP hc) ⟨⟨m,hn.sameBut QV λq=>fa hn (q▸hc)⟩,λy hy=> ?_⟩ (.cel c (.inl QO) e Sm) λy u SA V=> ?_
  ·obtain⟨c',v',e',YK⟩:=F.C y hy
   by_cases X0:c'=c
   ·subst X0;exact⟨c',_,e',Sm⟩
   ·exact⟨c',v',e',YK.sameBut QV X0⟩
  ·cases V with
   |loc m' k n e'=>exact .loc m' k (n.sameBut QV λq=>fa n (q▸hc)) e'
   |cel c' k l e'=>
    refine .cel c' k l (e'.sameBut QV λq=>SA ?_);subst q;refine E.inj y x c' ?_ (by rw [QO];rfl) l e
    rcases k with k|k<;>rw [k]<;>rfl
theorem lA (E:cx Q5 ns) (F:aG s.heap Q5 ns) {v:Hl} (hx:a_ ns x=Hd) {Q:Unit->Hh->Prop}
  (h: ∀h' a tk,bg Q5 ns a->Iz a s.heap h'->(∀o,s.heap.get? a=H7 o->aK o)->aG h' Q5 ns->aY h' Q5 x v->(∀y u,y≠x->aY s.heap Q5 y u->aY h' Q5 y u)->Q () {s with heap:=h',toks:=tk}):
  WP (Hj prog w) A (K9 (.Name x pos) Q5 v) Q s:=wpAny_assign_Name (lP E F hx h)
theorem cU.set (R:cU prog w Q4 ok h Q5 ρ) {v:Hl} (hx:x∈Q4) (V:aY h' Q5 x v) (hV: ∀y u,y≠x->aY h Q5 y u->aY h' Q5 y u)
  (hk: ∀b,ok b-> ∀o,vis h b=H7 o->vis h' b=H7 o) (r:Rep prog w ok h' pv v):cU prog w Q4 ok h' Q5 (ρ.set (Q4.idxOf x) (H7 pv)):=by
 intro y p hy hp;by_cases e:y=x
 ·subst e
  have:=Hg (dM hp);subst this;exact⟨v,V,r⟩
 ·rw [aD (e_ hx e)]at hp
  obtain⟨u,a,b⟩:=R y p hy hp;exact⟨u,hV y u e a,b.mono (λ_ o _=>o) hk⟩
structure jV (prog:IG) (w:J0) (Q4:List HJ) (ok:Hw->Prop) (Q5:MY) (ns:ay) (ρ':Ρ) (is:List Nat) (s s':Hh):Prop where
 keep: ∀b o,¬bg Q5 ns b->vis s.heap b=H7 o->vis s'.heap b=H7 o
 gens:s'.gens=s.gens
 os:s'.os=s.os
 size:s.heap.objs.size<=s'.heap.objs.size
 frame:aG s'.heap Q5 ns
 envr:cU prog w Q4 ok s'.heap Q5 ρ'
 vars: ∀y u,Q4.idxOf y∉is->aY s.heap Q5 y u->aY s'.heap Q5 y u
theorem qU (E:cx Q5 ns) (F:aG s.heap Q5 ns) (R:cU prog w Q4 ok s.heap Q5 ρ) (QI: ∀b,ok b-> ¬bg Q5 ns b) {v:Hl}
  (hx:a_ ns x=Hd) (hm:x∈Q4) (r:Rep prog w ok s.heap pv v):WP (Hj prog w) A (K9 (.Name x pos) Q5 v) (λ_ s'=>jV prog w Q4 ok Q5 ns (ρ.set (Q4.idxOf x) (H7 pv)) [Q4.idxOf x] s s') s:=by
 refine lA E F hx λh' a tk ha hs hp hF hV S'=> ?_;have hk: ∀b,ok b-> ∀o,vis s.heap b=H7 o->vis h' b=H7 o:=λb hb o e=>ax hs hp (λq=>QI b hb (q▸ha)) e;exact⟨λb o hb e=>ax hs hp (λq=>hb (q▸ha)) e,rfl,rfl,Hu hs.1.symm,hF,R.set hm hV S' hk (r.mono (λ_ o _=>o) hk),λy u hy V=>S' y u (λq=>hy (by rw [q];exact Jf _)) V⟩
theorem jV.trans {s₂:Hh} (x:jV prog w Q4 ok Q5 ns ρ₁ [i] s s₁) (y:jV prog w Q4 ok Q5 ns ρ₂ is s₁ s₂):jV prog w Q4 ok Q5 ns ρ₂ (i::is) s s₂:=
 ⟨λb o hb e=>y.keep b o hb (x.keep b o hb e),y.gens.trans x.gens,y.os.trans x.os,H8 x.size y.size,y.frame,y.envr,λz u hz V=>y.vars z u (λq=>hz (Hq _ q)) (x.vars z u (λq=>hz (by rw [Hx.mp q];exact Hs)) V)⟩
theorem we (E:cx Q5 ns) (QI: ∀b,ok b-> ¬bg Q5 ns b) {xs:List Nat} {Xo:List PV} (hs:aW ρ xs Xo=H7 ρ'): ∀(es:List Expr) (vs:List Hl) (s:Hh),
  tgs Q4 ns es=H7 xs->aG s.heap Q5 ns->cU prog w Q4 ok s.heap Q5 ρ->av prog w ok s.heap Xo vs->
  WP (Hj prog w) A (MS ((Jm es Q5).map (·.2)) vs) (λ_ s'=>jV prog w Q4 ok Q5 ns ρ' xs s s') s:=by
 refine dT hs (λρ es vs s h F R r=> ?_) λρ x xs v Xo ρ' _ ih es vs s h F R r=> ?_
 ·cases es with
  |nil=>
   cases (show vs=[]from r);exact Hi ⟨λ_ _ _ e=>e,rfl,rfl,Hm _,F,R,λ_ _ _ V=>V⟩
  |cons=>exact ae h λ_ _ h=>aL (P:=λl=>l=[]->_) h (λ_ _ q=>nomatch q) rfl
 ·cases es with
  |nil=>exact nomatch h
  |cons e es=>
   obtain⟨u,vr,rfl,r1,r2⟩:=r;refine ae h λi hi h=>kD (P:=λe i=>(tgs Q4 ns es).map (λas=>i::as)=H7 (x::xs)->WP (Hj prog w) A (MS ((Jm (e::es) Q5).map (·.2)) (u::vr)) _ s) hi (λz p h1 h2 h=> ?_) h
   obtain⟨is,U0,q⟩:=HG.mp h;cases q;exact wpAny_assignInOrder_more ((qU E F R QI h1 h2 r1).mono λ_ s₁ B=>(ih es _ _ U0 B.frame B.envr (r2.mono (λ_ o _=>o) λb hb o e=>B.keep b o (QI b hb) e)).mono λ_ s₂ B₂=>B.trans B₂)
theorem v9: ∀{es:List Expr} {xs:List Nat},tgs Q4 ns es=H7 xs->(Jm es Q5).length=xs.length/\(Jm es Q5).findIdx? (·.1)=H9:=by
 intro es;induction es with
 |nil=>exact λh=>Hg h▸⟨rfl,rfl⟩
 |cons e es ih=>
  exact λh=>bH (P:=λxs=>(Jm (e::es) Q5).length=xs.length/\_) h λi is hi U0=>kD (P:=λe _=>(Jm (e::es) Q5).length=(i::is).length/\(Jm (e::es) Q5).findIdx? (·.1)=H9) hi λx p _ _=>
   ⟨congrArg L0 (ih U0).1,(List.findIdx?_cons ..).trans (congrArg (Lu L0) (ih U0).2)⟩
theorem dS {xs:List Nat} {vs:List PV} (h:aW ρ xs vs=H7 ρ'):xs.length=vs.length/\ρ'.length=ρ.length:=
 dT h (λ_=>⟨rfl,rfl⟩) λ_ _ _ _ _ _ _ ih=>⟨congrArg L0 ih.1,ih.2.trans (Kw ..)⟩
theorem nD {pt:PT} (h:aX ρ pt v=H7 ρ'):ρ'.length=ρ.length:=i8 h (λ_=>Kw ..) λ_ _ h=>(dS h).2
theorem uN (hA:A.handled=H9) (E:cx Q5 ns) (F:aG s.heap Q5 ns) (R:cU prog w Q4 ok s.heap Q5 ρ) (QI: ∀b,ok b-> ¬bg Q5 ns b) (Ua: ∀b,bg Q5 ns b-> ∃o,vis s.heap b=H7 o)
  {tgt:Expr} {pt:PT} {v:Hl} (ht:sPT Q4 ns tgt=H7 pt) (hb:aX ρ pt pv=H7 ρ') (r:Rep prog w ok s.heap pv v):
  WP (Hj prog w) A (K9 tgt Q5 v) (λ_ s'=>jV prog w Q4 ok Q5 ns ρ' (ptIdx pt) s s'/\ρ'.length=ρ.length) s:=by
 refine WP.mono ?_ λ_ _ B=>⟨B,nD hb⟩;revert hb;refine oB (P:=λtgt pt=>aX ρ pt pv=H7 ρ'->WP (Hj prog w) A (K9 tgt Q5 v) (λ_ s'=>jV prog w Q4 ok Q5 ns ρ' (ptIdx pt) s s') s) ht (λx p h1 h2 hb=> ?_) λes c p xs RX h2 hb=> ?_
 ·cases hb
  exact qU E F R QI h1 h2 r
 ·revert r
  refine wY (Q:=λpv=>Rep prog w ok s.heap pv v->WP _ A _ _ s) hb λvs₁ hb r=> ?_;obtain⟨a,vs,rfl,VE,_,l,q⟩:=r;have hn:=v9 (Q5:=Q5) RX;refine WP.size (wpAny_assign_Tuple hA l (hn.1.trans ((dS hb).1.trans (q.length.symm.trans (HO ..).symm))) hn.2 λh' hx=> ?_);have Sc:HK s.heap h':=λb o e=>uf hx ka (λq=>by rw [q,ca]at e;cases e) e
  haveI hF:aG h' Q5 ns:=F.at λb hb o e=>Sc b o e;refine(we (A:=A) E QI hb _ _ {s with heap:=h'} RX hF (R.keep Sc) (q.keep Sc)).mono λ_ s₂ B sz=>⟨λb o hb e=>B.keep b o hb (Sc b o e),B.gens,B.os,sz,B.frame,B.envr,λy u hy V=>B.vars y u hy (V.keep Sc)⟩
end
structure iq (Z:Hw->Prop) (ok ok':Hw->Prop) (s s':Hh):Prop where
 keep: ∀b o,¬Z b->vis s.heap b=H7 o->vis s'.heap b=H7 o
 sub: ∀b,ok' b->ok b
 sup: ∀b o,ok b->vis s.heap b=H7 o->ok' b
 gens: ∀(i:Nat) g,s.gens[i]? =H7 g->s'.gens[i]? =H7 g
 os:s'.os=s.os
 free:bS ok' s'.heap
 size:s.heap.objs.size<=s'.heap.objs.size
variable {Z:Hw->Prop}
theorem iq.ofExt (x:Ext s s') (f:bS ok s.heap):iq Z ok ok s s':=
 ⟨λb o _ e=>x.keep b o e,λ_ h=>h,λ_ _ h _=>h,x.gens,x.os,f.keep x.size,x.size⟩
structure ud {α:Type} (D:Hw) (AR:(Hw->Prop)->α->IL->Prop):Prop where
 frame: ∀{ok ok':Hw->Prop} {a:α} {h h':IL},AR ok a h->(∀b,ok b∨b=D-> ∀o,vis h b=H7 o->vis h' b=H7 o)->(∀b o,ok b->vis h b=H7 o->ok' b)->AR ok' a h'
 has: ∀{ok:Hw->Prop} {a:α} {h:IL},AR ok a h-> ∃o,vis h D=H7 o
structure LS (C:Cx) (Q4:List HJ) (A:IZ) (Q5:MY) (ns:ay) (D:Hw) (ρ:Ρ) (ok:Hw->Prop) (s:Hh):Prop where
 g:d5 C Q4 A Q5 ns ρ ok s
 z: ∀b,b=D∨bg Q5 ns b-> ¬ok b
 f:aG s.heap Q5 ns
 hD: ¬bg Q5 ns D/\ ¬bF Q5 D
 hH: ∀b,b=D∨bg Q5 ns b->vis C.H b=H9
 sy:Sys C.H
variable {C:Cx} {ok':Hw->Prop} {α:Type} {e:Expr} {depth:Nat} {Q8:Hl} {St:(Hw->Prop)->List PV->List Hw->Hh->Prop} {p0:Jq}
section
variable {D:Hw}
theorem aG.live (F:aG h Q5 ns) (hb:bg Q5 ns b): ∃o,vis h b=H7 o:=by
 rcases hb with rfl|⟨x,hx,e⟩
 ·obtain⟨m,n⟩:=F.L;exact n_ n
 ·obtain⟨c,v,e',n⟩:=F.C x hx
  rw [e]at e';cases e';exact lL n
theorem bg.reads (E:cx Q5 ns) (hb:bg Q5 ns b):bF Q5 b:=by
 rcases hb with rfl|⟨x,hx,e⟩
 ·exact .inl rfl
 ·exact .inr ⟨x,by rw [E.own x hx];rfl,e⟩
theorem LS.next (L:LS C Q4 A Q5 ns D ρ ok s) (keep: ∀b o,¬bg Q5 ns b->b≠D->vis C.H b=H7 o∨bF Q5 b->vis s.heap b=H7 o->vis s'.heap b=H7 o)
  (sub: ∀b,ok' b->ok b) (free:bS ok' s'.heap) (F:aG s'.heap Q5 ns) (R:cU C.prog C.w Q4 ok' s'.heap Q5 ρ') (hl:ρ'.length<=Q4.length):LS C Q4 A Q5 ns D ρ' ok' s' where
 g:=by
  have hk:HK C.H s'.heap:=λb o e=>keep b o (λq=>by rw [L.hH b (.inr q)]at e;cases e) (λq=>by rw [L.hH b (.inl q)]at e;cases e) (.inl e) (L.g.h b o e)
  exact⟨L.g.a,L.g.e,hk,R,free,L.sy.keep hk,hl,λa ha=>by
   by_cases hh:bg Q5 ns a
   ·exact F.live hh
   ·obtain⟨o,e⟩:=L.g.v a ha
    exact⟨o,keep a o hh (λq=>L.hD.2 (q▸ha)) (.inr ha) e⟩⟩
 z:=λb hb hc=>L.z b hb (sub b hc)
 f:=F
 hD:=L.hD
 hH:=L.hH
 sy:=L.sy
theorem cU.at (R:cU C.prog C.w Q4 ok h Q5 ρ) (kr: ∀a,bF Q5 a-> ∀o,vis h a=H7 o->vis h' a=H7 o) (ko: ∀b,ok b-> ∀o,vis h b=H7 o->vis h' b=H7 o)
  (sup: ∀b o,ok b->vis h b=H7 o->ok' b):cU C.prog C.w Q4 ok' h' Q5 ρ:=λx pv hx hp=>
 by obtain⟨v,a,b⟩:=R x pv hx hp;exact⟨v,a.at kr,b.mono (λa ha ⟨o,e⟩=>sup a o ha e) ko⟩
theorem cU.less (R:cU C.prog C.w Q4 ok h Q5 ρ₂) (hρ: ∀i v,Ρ.get ρ₁ i=H7 v->Ρ.get ρ₂ i=H7 v):cU C.prog C.w Q4 ok h Q5 ρ₁:=
 λx pv hx hp=>R x pv hx (hρ _ _ hp)
theorem LS.fin {c:J_ Fin} {c':Code} {P:(Hw->Prop)->IL->Prop} (h: ∀K:Hh->Prop,(∀s' ok',iq (λb=>b=D∨bg Q5 ns b) ok ok' s s'->P ok' s'.heap->aG s'.heap Q5 ns->cU C.prog C.w Q4 ok' s'.heap Q5 ρ->K s')->WP (Hj C.prog C.w) A c (λf s'=>f= .again c'/\K s') s):
  WP (Hj C.prog C.w) A c (λf s'=>f= .again c'/\ ∃ok',iq (λb=>b=D∨bg Q5 ns b) ok ok' s s'/\P ok' s'.heap/\aG s'.heap Q5 ns/\cU C.prog C.w Q4 ok' s'.heap Q5 ρ) s:=h _ λ_ ok' a b c d=>⟨ok',a,b,c,d⟩
theorem nA {AR:(Hw->Prop)->α->IL->Prop} {tgt:Expr} {pt:PT}
 {tail:J_ Fin} {ρ0:Ρ} {R3:Ρ->α->Option α}
  (Tf:compTurn e depth (.ref I) Q8 Q5=(Ji p0>>=λ_=>Lb (.ref I)>>=λr=>match r with
   |none=>pure (.done .next)
   |some v=>Iu tgt (.ref I) v>>=λ_=>K9 tgt Q5 v>>=λ_=>tail))
  (T9:(Hj C.prog C.w).den (.compLoop e depth (.ref I) Q8 Q5)=(compTurn e depth (.ref I) Q8 Q5).onRaise (λx=>do Oq x Q5;OG x))
  (T8:A.under (.compLoop e depth (.ref I) Q8 Q5)=A)
  (Qe:nU C.prog C.w C.d I [] St) (R9:sPT Q4 ns tgt=H7 pt) (Rc:ud D AR)
  (hρ: ∀ρ' pv,aX ρ0 pt pv=H7 ρ'-> ∀i v,ρ0.get i=H7 v->ρ'.get i=H7 v)
  (body: ∀ρ' ok s a a',LS C Q4 A Q5 ns D ρ' ok s->AR ok a s.heap->R3 ρ' a=H7 a'->
   WP (Hj C.prog C.w) A tail (λfin s'=>fin= .again (.compLoop e depth (.ref I) Q8 Q5)/\ ∃ok',iq (λb=>b=D∨bg Q5 ns b) ok ok' s s'/\AR ok' a' s'.heap/\aG s'.heap Q5 ns/\
    cU C.prog C.w Q4 ok' s'.heap Q5 ρ') s)
 {W:List Hw} {a z:α} (RN:St ok xs W s) (hW: ∀b∈W,¬(b=D∨bg Q5 ns b)/\ ¬bF Q5 b/\vis C.H b=H9) (L:LS C Q4 A Q5 ns D ρ0 ok s)
  (Rv:AR ok a s.heap) (hz:xs.foldlM (λa x=>(aX ρ0 pt x).bind λρ'=>R3 ρ' a) a=H7 z):
  PU (Hj C.prog C.w) A (.compLoop e depth (.ref I) Q8 Q5) (λr s'=>r= .ok .next/\ ∃ok',iq (λb=>(b=D∨bg Q5 ns b)∨b∈W) ok ok' s s'/\AR ok' z s'.heap/\aG s'.heap Q5 ns/\
   cU C.prog C.w Q4 ok' s'.heap Q5 ρ0) s:=by
 obtain⟨Inv,hv⟩: ∃Inv:Nat->Hh->Prop,∀n s₁,Inv n s₁↔ ∃xs Qc W₁ a,n=xs.length/\St Qc xs W₁ s₁/\(∀b∈W₁,¬(b=D∨bg Q5 ns b)/\ ¬bF Q5 b/\vis C.H b=H9)/\(∀b∈W₁,b∈W∨s.heap.objs.size<=b)/\LS C Q4 A Q5 ns D ρ0 Qc s₁/\AR Qc a s₁.heap/\xs.foldlM (λa x=>(aX ρ0 pt x).bind λρ'=>R3 ρ' a) a=H7 z/\iq (λb=>(b=D∨bg Q5 ns b)∨b∈W) ok Qc s s₁:=⟨_,λ_ _=>Iff.rfl⟩;refine codeAny_loop rfl Inv (λn s₁ hI=> ?_) xs.length ((hv _ _).mpr
  ⟨xs,ok,W,a,rfl,RN,hW,λb hb=> .inl hb,L,Rv,hz,⟨λ_ _ _ e=>e,λ_ h=>h,λ_ _ h _=>h,λ_ _ e=>e,rfl,L.g.o,Hm _⟩⟩)
 obtain⟨xs,Qc,W₁,a,rfl,RN,R6,XY,L₁,Sk,hz,T₁⟩:=(hv _ _).mp hI;rw [T9,T8];refine wpAny_noted ?_;rw [Tf];refine Jl (E:=λ_ _=>False) ?_ (λ_ _ h=>h) λ_ _ h=>h.elim;refine WP.gen λK hK=>WP.at ?_;cases xs with
 |nil=>
  cases hz;refine WP.then (Qe.done L₁.g.a RN) λr s₂ ⟨hr,S⟩=> ?_;subst hr;refine Hi (hK _ _ ⟨rfl,Qc, ?_,Rc.frame Sk (λb hb o e=>S.keep b o (λq=> ?_) e) λ_ _ h _=>h,L₁.f.at λb hb o e=>S.keep b o (λq=>(R6 b q).1 (.inr hb)) e,
   L₁.g.r.at (λb hb o e=>S.keep b o (λq=>(R6 b q).2.1 hb) e) (λb hb o e=>S.keep b o (λq=>(Qe.own RN b q).2 hb) e) λ_ _ h _=>h⟩)
  ·refine⟨λb o h e=>S.keep b o (λq=> ?_) (T₁.keep b o h e),T₁.sub,T₁.sup,λi g e=>S.gens i g (by simp) (T₁.gens i g e),S.os.trans T₁.os,λb e=>T₁.free b (H8 S.size e),H8 T₁.size S.size⟩
   rcases XY b q with q|q
   ·exact h (.inr q)
   ·rw [bq q]at e;cases e
  ·rcases hb with hb|hb
   ·exact(Qe.own RN b q).2 hb
   ·exact(R6 b q).1 (.inl hb)
 |cons x xs=>
  rw [JQ]at hz;simp only [IT,Ho]at hz;obtain⟨a',⟨ρ',hb,hs⟩,hz⟩:=hz;refine WP.then (Qe.next (tgt:=tgt) L₁.g.a L₁.g.o L₁.g.m RN) λr s₂ ⟨v,W₂,hr,hW12,hW2,S₁,rv,hlet⟩=> ?_
  subst hr;refine WP.then hlet λ_ s₃ ⟨S₂,hSt₃⟩=> ?_;have R5: ∀b∈W₂,¬(b=D∨bg Q5 ns b)/\ ¬bF Q5 b/\vis C.H b=H9:=λb hb=>by
   rcases hW2 b hb with q|q
   ·exact R6 b q
   ·replace q:=bq q
    refine⟨?_,λhr=> ?_,L₁.g.h.none q⟩
    ·rintro(hd|hh)
     ·obtain⟨o,e⟩:=Rc.has Sk
      rw [hd,e]at q;cases q
     ·obtain⟨o,e⟩:=L₁.f.live hh
      rw [e]at q;cases q
    ·obtain⟨o,e⟩:=L₁.g.v b hr
     rw [e]at q;cases q
  have Qr: ∀b o,b∉W₂->vis s₁.heap b=H7 o->vis s₃.heap b=H7 o:=λb o hb e=>S₂.keep b o hb (S₁.keep b o (λq=>hb (hW12 b q)) e);have R2: ∀b o,Qc b->vis s₁.heap b=H7 o->okW Qc W₂ b:=λb o hb e=>⟨hb,λq=>by
   rcases hW2 b q with q|q
   ·exact(Qe.own RN b q).2 hb
   ·rw [bq q]at e;cases e⟩
  have Uf:bS (okW Qc W₂) s₃.heap:=λb e=>by
   have hb:b∉W₂:=λq=>by obtain⟨o,e'⟩:=(Qe.own hSt₃ b q).1;rw [bq e]at e';cases e'
   exact⟨L₁.g.o b (H8 (H8 S₁.size S₂.size) e),hb⟩
  have F₃:aG s₃.heap Q5 ns:=L₁.f.at λb hb o e=>Qr b o (λq=>(R5 b q).1 (.inr hb)) e;have R₃:cU C.prog C.w Q4 (okW Qc W₂) s₃.heap Q5 ρ0:=L₁.g.r.at (λb hb o e=>Qr b o (λq=>(R5 b q).2.1 hb) e) (λb hb o e=>Qr b o (R2 b o hb e).2 e) R2;have L₃:LS C Q4 A Q5 ns D ρ0 (okW Qc W₂) s₃:=L₁.next (λb o _ _ h e=>Qr b o (λq=>by
   rcases h with h|h
   ·rw [(R5 b q).2.2]at h;cases h
   ·exact(R5 b q).2.1 h) e) (λb h=>h.1) Uf F₃ R₃ L₁.g.l
  refine WP.then (uN L₁.g.a.1 L₁.g.e F₃ R₃ (λb hb hh=>L₃.z b (.inr hh) hb) (λb hb=>F₃.live hb) R9 hb (rv.mono (λ_ h _=>h) λb hb o e=>S₂.keep b o hb.2 e)) λ_ s₄ ⟨B,Q7⟩=> ?_;haveI Wo:bS (okW Qc W₂) s₄.heap:=λb e=>Uf b (H8 B.size e);have L₄:LS C Q4 A Q5 ns D ρ' (okW Qc W₂) s₄:=L₃.next (λb o hh _ _ e=>B.keep b o hh e) (λb h=>h) Wo B.frame B.envr (by rw [Q7];exact L₁.g.l)
  haveI Wu:AR (okW Qc W₂) a s₄.heap:=Rc.frame Sk (λb hb o e=>B.keep b o (λhh=>by
    rcases hb with hb|hb
    ·exact L₁.z b (.inr hh) hb
    ·exact L₁.hD.1 (hb▸hh)) (Qr b o (λq=>by
    rcases hb with hb|hb
    ·exact(R2 b o hb e).2 q
    ·exact(R5 b q).1 (.inl hb)) e)) R2
  refine(body ρ' _ s₄ a a' L₄ Wu hs).mono λfin s₅ ⟨hf,ok',T₅,AR₅,F₅,R₅⟩=> ?_;subst hf;haveI Sh:St ok' xs W₂ s₅:=by
   haveI Si:St (okW Qc W₂) xs W₂ s₄:=Qe.frame hSt₃ (λb o hb e=>B.keep b o (λhh=>by
    rcases hb with hb|hb
    ·exact L₁.z b (.inr hh) hb.1
    ·exact(R5 b hb).1 (.inr hh)) e) (λb o h _=>h) (λb hb h=>h.2 hb) (λi g e=>by rw [B.gens];exact e) B.os
   refine Qe.frame Si (λb o hb e=>T₅.keep b o (λhz=> ?_) e) T₅.sup (λb hb h=>(T₅.sub b h).2 hb) T₅.gens T₅.os;rcases hb with hb|hb
   ·exact L₄.z b hz hb
   ·exact(R5 b hb).1 hz
  haveI UI: ∀b o,¬(b=D∨bg Q5 ns b)->vis s₃.heap b=H7 o->vis s₅.heap b=H7 o:=λb o hb e=>T₅.keep b o hb (B.keep b o (λq=>hb (.inr q)) e);refine hK _ _ ⟨rfl,xs.length,HR _,(hv _ _).mpr ⟨xs,ok',W₂,a',rfl,Sh,R5,λb hb=> ?_, ?_,AR₅,hz, ?_⟩⟩
  ·rcases hW2 b hb with q|q
   ·exact XY b q
   ·exact .inr (H8 T₁.size q)
  ·exact L₄.next (λb o hh hd _ e=>T₅.keep b o (λq=>q.elim hd hh) e) T₅.sub T₅.free F₅ (R₅.less (hρ ρ' x hb)) L₁.g.l
  ·refine⟨λb o h e=>UI b o (λq=>h (.inl q)) (Qr b o (λq=> ?_) (T₁.keep b o h e)),λb h=>T₁.sub b (T₅.sub b h).1,λb o h e=> ?_,λi g e=> ?_, ?_,T₅.free,H8 T₁.size (H8 S₁.size (H8 S₂.size (H8 B.size T₅.size)))⟩
   ·rcases hW2 b q with q|q
    ·rcases XY b q with q|q
     ·exact h (.inr q)
     ·rw [bq q]at e;cases e
    ·have:=T₁.keep b o h e
     rw [bq q]at this;cases this
   ·have h1:=T₁.sup b o h e
    have hz1: ¬(b=D∨bg Q5 ns b):=λq=>L₁.z b q h1;haveI hbW:b∉W:=λq=>(Qe.own ‹St ok _ W s› b q).2 h;have e1:=T₁.keep b o (λq=>q.elim hz1 hbW) e;have h2:=R2 b o h1 e1;exact T₅.sup b o h2 (B.keep b o (λq=>hz1 (.inr q)) (Qr b o h2.2 e1))
   ·refine T₅.gens i g ?_
    rw [B.gens];exact S₂.gens i g (by simp) (S₁.gens i g (by simp) (T₁.gens i g e))
   ·rw [T₅.os,B.os,S₂.os,S₁.os,T₁.os]
end
def dg (Q5:MY):List (HJ×J1)->List (HJ×Hw)->List (HJ×Hw)
 |[],Q8=>Q8
 |(n,k)::r,Q8=>if k== .free then(match Q5.cells.lookup n with|some c=>dg Q5 r ((n,c)::Q8)|none=>dg Q5 r Q8)else dg Q5 r Q8
theorem Ey {n:HJ} {k:J1} {r:List (HJ×J1)} {Q8:List (HJ×Hw)}:dg Q5 ((n,k)::r) Q8=if k== .free then(match Q5.cells.lookup n with|some c=>dg Q5 r ((n,c)::Q8)|none=>dg Q5 r Q8)else dg Q5 r Q8:=rfl
theorem ge: ∀(Q4:List (HJ×J1)) (Q8:List (HJ×Hw)),(∀n,(n,Ij)∈Q4-> ∃c,Q5.cells.lookup n=H7 c)->
  (forIn Q4 Q8 (fun(x:HJ×J1) (cs:List (HJ×Hw))=>if x.2== .free then(do let c<-cellOf Q5 x.1;pure (.yield ((x.1,c)::cs)))else pure (.yield cs)):J_ (List (HJ×Hw)))=pure (dg Q5 Q4 Q8)
 |[],Q8,_=>rfl
 |(n,k)::r,Q8,h=>by
  rw [K3];rw [Ey];by_cases hk:(k==Ij)=Hd
  ·haveI QO:k= .free:=by simpa using hk
   subst QO;obtain⟨c,hc⟩:=h n Hs;simp only [hk,if_true,hc];haveI:cellOf Q5 n=pure c:=by unfold cellOf;rw [hc]
   rw [this];simp only [Op];exact ge r _ λn hn=>h n (Hq _ hn)
  ·simp only [hk,if_false,Op]
   exact ge r _ λn hn=>h n (Hq _ hn)
variable {sc:Mv}
theorem im (h: ∀n,(n,Ij)∈sc.names-> ∃c,Q5.cells.lookup n=H7 c):N6 sc Q5=pure (dg Q5 sc.names []):=by have:=ge (Q5:=Q5) sc.names [] h;unfold N6;rw [<-this];simp only [bind_pure]
theorem fe: ∀(Q4:List (HJ×J1)) (Q8:List (HJ×Hw)),(∀n,(n,Ij)∈Q4-> ∃c,Q5.cells.lookup n=H7 c)->
  (dg Q5 Q4 Q8).lookup x=if(x,Ij)∈Q4 then Q5.cells.lookup x else Q8.lookup x
 |[],Q8,_=>by rw [if_neg IU];rfl
 |(n,k)::r,Q8,h=>by
  have hr: ∀n,(n,Ij)∈r-> ∃c,Q5.cells.lookup n=H7 c:=λn hn=>h n (Hq _ hn);rw [Ey];by_cases hk:(k==Ij)=Hd
  ·haveI QO:k= .free:=by simpa using hk
   subst QO;obtain⟨c,hc⟩:=h n Hs;simp only [hk,if_true,hc];rw [fe r _ hr];by_cases hx:x=n
   ·subst hx
    simp [hc]
   ·haveI: ¬((x,Ij)=(n,Ij)):=λe=>hx (OI e).1
    simp only [Hp,this,false_or,IV,show(x==n)=Hb by simpa using hx]
  ·rw [if_neg hk,fe r _ hr]
   haveI: ¬((x,Ij)=(n,k)):=λe=>hk (by rw [<-(OI e).2];rfl)
   simp only [Hp,this,false_or]
theorem cf: ∀(Q4:List (HJ×J1)) (n:Nat) (Q8:List (HJ×Hw)),It n Q4 Q8=It n Q4 []++Q8
 |[],n,Q8=>rfl
 |(x,k)::r,n,Q8=>by
  unfold It;split
  ·rw [cf r (n+1) ((x,n)::Q8),cf r (n+1) [(x,n)]];simp
  ·exact cf r n Q8
theorem d8 {x:HJ}: ∀(Q4:List (HJ×J1)) (n:Nat),(x,Lo)∈Q4↔ ∃c,(x,c)∈It n Q4 []
 |[],n=>by simp [It]
 |(y,k)::r,n=>by
  unfold It;by_cases hk:(k==Lo)=Hd
  ·haveI QO:k= .cell:=by simpa using hk
   subst QO;rw [if_pos hk,cf];have ih:=d8 (x:=x) r (n+1);constructor
   ·intro h
    rcases Hp.mp h with e|h
    ·cases e;exact⟨n,by simp⟩
    ·obtain⟨c,hc⟩:=ih.mp h
     exact⟨c,List.mem_append_left _ hc⟩
   ·rintro⟨c,hc⟩
    rcases Ik.mp hc with h|h
    ·exact Hq _ (ih.mpr ⟨c,h⟩)
    ·cases Hx.mp h;exact Hs
  ·rw [if_neg hk]
   haveI ih:=d8 (x:=x) r n;rw [<-ih];constructor
   ·intro h
    rcases Hp.mp h with e|h
    ·exact absurd (by rw [<-(OI e).2];rfl) hk
    ·exact h
   ·exact λh=>Hq _ h
theorem gP: ∀{l:List (HJ×α)},(∀c,(x,c)∉l)->l.lookup x=H9
 |[],_=>rfl
 |(y,c)::r,h=>by
  rw [IV];cases hb:x==y with
  |true=>exact absurd (by rw [beq_iff_eq.mp hb];exact Hs) (h c)
  |false=>exact gP λc hc=>h c (Hq _ hc)
theorem eS {c:α}: ∀{l:List (HJ×α)},(x,c)∈l-> ∃c',l.lookup x=H7 c'
 |(y,c')::r,h=>by
  rw [IV];cases hb:x==y with
  |true=>exact⟨c',rfl⟩
  |false=>
   rcases Hp.mp h with e|h
   ·cases e;simp at hb
   ·exact eS h
def eY (Q5:MY) (x:HJ) (k:J1):J1:=if(k== .free&&Q5.scope.kind== .function&&Q5.kindOf x==H7 .cell)then .cell else k
theorem gO {Q5:MY} {x:HJ}: ∀(Q4:List (HJ×J1)),
  (Q4.map fun(n,k)=>if(k==Ij&&Q5.scope.kind== .function&&Q5.kindOf n==H7 .cell)then(n,Lo)else(n,k)).lookup x=(Q4.lookup x).map (eY Q5 x)
 |[]=>rfl
 |(n,k)::r=>by
  have ih:=gO (Q5:=Q5) (x:=x) r;show List.lookup x ((if(k==Ij&&Q5.scope.kind== .function&&Q5.kindOf n==H7 .cell)=Hd then(n,Lo)else(n,k))::_)=_;cases hx:x==n with
  |true=>
   haveI:x=n:=beq_iff_eq.mp hx;subst this;by_cases hc:(k==Ij&&Q5.scope.kind== .function&&Q5.kindOf x==H7 .cell)=Hd
   ·rw [if_pos hc];simp only [IV,hx,NG,eY];rw [if_pos hc]
   ·rw [if_neg hc];simp only [IV,hx,NG,eY];rw [if_neg hc]
  |false=>
   by_cases hc:(k==Ij&&Q5.scope.kind== .function&&Q5.kindOf n==H7 .cell)=Hd
   ·rw [if_pos hc];simp only [IV,hx];exact ih
   ·rw [if_neg hc];simp only [IV,hx];exact ih
def ol (sc:Mv) (L:Hw) (cells:List (HJ×Hw)) (Q5:MY):MY:=
 {(newEnv sc L Q5.globals cells Q5.qual H9 .none (H7 Q5) KW)with scope:=relabel sc Q5}
section
theorem iC (h:bR ns sc=Hd) (hx:(x,Ij)∈sc.names):bv (ns.lookup x)=Hd:=by simp only [bR,H_,HX]at h;have:=(h.2 _ hx).1;simpa using this
theorem ga (h:bR ns sc=Hd) {k:J1} (hx:(x,k)∈sc.names):sc.names.lookup x=H7 k:=by simp only [bR,H_,HX]at h;have:=(h.2 _ hx).2;simpa using this
theorem lS (h:bR ns sc=Hd):sc.kind= .function:=by simp only [bR,H_]at h;simpa using h.1
theorem pG {cl:List (HJ×Hw)} {Q:MY->Hh->Prop}
  (h:Q (newEnv sc s.heap.objs.size Q5.globals (It (s.heap.objs.size+1) sc.names cl) Q5.qual H9 .none (H7 Q5) KW)
   {s with heap:=Ml (s.heap.push {cls:= .type "dict",data:= .dict #[]}) sc.names}):
  WP (Hj C.prog C.w) A (newFunctionEnv sc Q5.globals cl [] Q5.qual H9 .none (H7 Q5)) Q s:=by
 unfold newFunctionEnv;simp only [Option.isSome_some,if_true];refine He (wpAny_alloc ?_);refine He (wpAny_layCells _ (λname kind cells=>by cases hkc:kind==Lo<;>simp [hkc]) _ _ _ _ ?_)
 rw [show({s with heap:=s.heap.push {cls:= .type "dict",data:= .dict #[]}}:Hh).heap.objs.size=s.heap.objs.size+1 from I8 ..]
 exact He (Hi (Hi h))
theorem eQ: ∀(Q4:List (HJ×J1)) (h:IL),h.objs.size<=(Ml h Q4).objs.size
 |[],h=>Hm _
 |(x,k)::r,h=>by
  unfold Ml;split
  ·exact H8 (by rw [I8];exact HD _ _) (eQ r _)
  ·exact eQ r h
structure Bt (C:Cx) (Q4:List HJ) (ok:Hw->Prop) (Q5 Q9:MY) (sc:Mv) (ρ:Ρ) (s s':Hh):Prop where
 x:Ext s s'
 e:cx Q9 sc.names
 f:aG s'.heap Q9 sc.names
 r: ∀ok':Hw->Prop,cU C.prog C.w Q4 ok' s'.heap Q5 ρ->cU C.prog C.w Q4 ok' s'.heap Q9 (aw ρ (cj Q4 sc))
 new: ∀b,bg Q9 sc.names b->s.heap.objs.size<=b
 reads: ∀b,bF Q9 b->bg Q9 sc.names b∨bF Q5 b
 L:Q9.locals=s.heap.objs.size
theorem cY: ∀{ms:List Nat} {ρ:Ρ} {i:Nat} {v:PV},Ρ.get (aw ρ ms) i=H7 v->i∉ms/\ρ.get i=H7 v
 |[],ρ,i,v,h=>⟨by simp,h⟩
 |m::ms,ρ,i,v,h=>by
  rw [aw]at h;obtain⟨a,b⟩:=cY h;by_cases e:i=m
  ·subst e
   have:=dM b;cases this
  ·rw [aD e]at b
   exact⟨by simp [e,a],b⟩
theorem fE: ∀{ms:List Nat} {ρ:Ρ},(aw ρ ms).length=ρ.length
 |[],ρ=>rfl
 |m::ms,ρ=>by rw [aw,fE];simp
set_option tactic.hygienic true in
theorem zl (hs:bR ns sc=Hd) (G:d5 C Q4 A Q5 ns ρ ok s):
  Bt C Q4 ok Q5 (ol sc s.heap.objs.size (It (s.heap.objs.size+1) sc.names (dg Q5 sc.names [])) Q5) sc ρ s
   {s with heap:=Ml (s.heap.push {cls:= .type "dict",data:= .dict #[]}) sc.names}:=by
 haveI Rj: ∀n,(n,Ij)∈sc.names-> ∃c,Q5.cells.lookup n=H7 c:=λn hn=>G.e.cells n (by rw [<-G.e.cel];exact iC hs hn)
 haveI S5: ∀x,(dg Q5 sc.names []).lookup x=if(x,Ij)∈sc.names then Q5.cells.lookup x else H9:=λx=>by rw [fe _ _ Rj];rfl
 have hk: ∀x,(ol sc s.heap.objs.size (It (s.heap.objs.size+1) sc.names (dg Q5 sc.names [])) Q5).kindOf x=(sc.names.lookup x).map (eY Q5 x):=λx=>gO sc.names;have hsz:(s.heap.push {cls:= .type "dict",data:= .dict #[]}).objs.size=s.heap.objs.size+1:=I8 ..
 have RG:CellsOk (Ml (s.heap.push {cls:= .type "dict",data:= .dict #[]}) sc.names) (s.heap.objs.size+1) (It (s.heap.objs.size+1) sc.names []):=by
  have:=cellsFrom_ok sc.names (s.heap.push {cls:= .type "dict",data:= .dict #[]}) (s.heap.objs.size+1) [] ⟨λ_ _ hm=>(nomatch hm),List.Pairwise.nil⟩ (by rw [hsz];exact Hm _)
  rwa [hsz]at this
 haveI TB:HK s.heap (Ml (s.heap.push {cls:= .type "dict",data:= .dict #[]}) sc.names):=HK.of λb o e=>pushCells_keeps _ _ b o (HV _ e);have Rm: ∀{x k},sc.names.lookup x=H7 k->(x,k)∈sc.names:=λh=>mem_of_lookup h;have Rb: ∀x,(It (s.heap.objs.size+1) sc.names (dg Q5 sc.names [])).lookup x=
   if sc.names.lookup x=H7 .cell then(It (s.heap.objs.size+1) sc.names []).lookup x else if sc.names.lookup x=H7 .free then Q5.cells.lookup x else H9:=λx=>by
  rw [cf,List.lookup_append];by_cases h1:sc.names.lookup x=H7 .cell
  ·rw [if_pos h1]
   obtain⟨c,hc⟩:=(d8 sc.names (s.heap.objs.size+1)).mp (Rm h1);obtain⟨c',Sm⟩:=eS hc;rw [Sm];rfl
  ·rw [if_neg h1]
   haveI:(It (s.heap.objs.size+1) sc.names []).lookup x=H9:=gP λc hc=>h1 (ga hs ((d8 sc.names (s.heap.objs.size+1)).mpr ⟨c,hc⟩));rw [this,Option.none_or,S5];by_cases h2:sc.names.lookup x=H7 .free
   ·rw [if_pos h2,if_pos (Rm h2)]
   ·rw [if_neg h2,if_neg λh=>h2 (ga hs h)]
 have Rg: ∀{x},sc.names.lookup x=H7 .cell-> ∃c,(It (s.heap.objs.size+1) sc.names []).lookup x=H7 c/\s.heap.objs.size+1<=c/\
   (Ml (s.heap.push {cls:= .type "dict",data:= .dict #[]}) sc.names).IsCell c H9:=λ{x} h=>by
  obtain⟨c,hc⟩:=(d8 sc.names (s.heap.objs.size+1)).mp (Rm h);obtain⟨c',Sm⟩:=eS hc;obtain⟨a,b⟩:=RG.empty x c' (mem_of_lookup Sm);exact⟨c',Sm,b,a⟩
 have ck: ∀{x},bv ((sc.names.lookup x).map (eY Q5 x))=Hd->sc.names.lookup x=H7 .cell∨sc.names.lookup x=H7 .free:=λ{x} h=>by
  cases e:sc.names.lookup x with
  |none=>rw [e]at h;cases h
  |some k=>
   rw [e]at h;cases k<;>first|exact .inl rfl|exact .inr rfl|(exfalso;revert h;simp [eY,bv])
 have fk: ∀{x},sc.names.lookup x=H7 .free->bv (Q5.kindOf x)=Hd:=λ{x} h=>by rw [<-G.e.cel];exact iC hs (Rm h)
 haveI Rx: ∀b,bg (ol sc s.heap.objs.size (It (s.heap.objs.size+1) sc.names (dg Q5 sc.names [])) Q5) sc.names b->s.heap.objs.size<=b:=by
  rintro b (rfl|⟨x,hx,e⟩)
  ·exact Hm _
  ·replace e:(It (s.heap.objs.size+1) sc.names (dg Q5 sc.names [])).lookup x=H7 b:=e
   rw [Rb,if_pos hx]at e;obtain⟨c,e',h1,_⟩:=Rg hx;rw [e']at e;cases e;exact Lm h1
 refine⟨⟨TB, ?_,λ_ _ e=>e,rfl⟩,⟨?_,rfl.trans G.e.glob,rfl.trans G.e.blt, ?_, ?_, ?_, ?_, ?_⟩,⟨⟨λ_=>H9, ?_⟩, ?_⟩, ?_,Rx, ?_,rfl⟩
 ·exact H8 (by rw [hsz];exact LM _) (eQ _ _)
 ·show sc.kind= .function
  exact lS hs
 ·intro x
  rw [hk];cases e:sc.names.lookup x with
  |none=>rfl
  |some k=>
   show fw (H7 (eY Q5 x k))=fw (H7 k);unfold eY;split
   ·rename_i h
    haveI:k= .free:=by simp only [H_,beq_iff_eq]at h;exact h.1.1
    subst this;rfl
   ·rfl
 ·intro x
  rw [hk];cases e:sc.names.lookup x with
  |none=>rfl
  |some k=>
   show bv (H7 k)=bv (H7 (eY Q5 x k));unfold eY;split
   ·rename_i h
    haveI:k= .free:=by simp only [H_,beq_iff_eq]at h;exact h.1.1
    subst this;rfl
   ·rfl
 ·intro x hx
  rw [hk]at hx;show∃c,(It (s.heap.objs.size+1) sc.names (dg Q5 sc.names [])).lookup x=H7 c;rw [Rb];rcases ck hx with h|h
  ·rw [if_pos h]
   obtain⟨c,e,_⟩:=Rg h;exact⟨c,e⟩
  ·rw [h]
   exact G.e.cells x (fk h)
 ·intro x y c hx hy ex ey
  rw [hk]at hx hy;replace ex:(It (s.heap.objs.size+1) sc.names (dg Q5 sc.names [])).lookup x=H7 c:=ex;replace ey:(It (s.heap.objs.size+1) sc.names (dg Q5 sc.names [])).lookup y=H7 c:=ey;rw [Rb]at ex ey;have live: ∀{z},sc.names.lookup z=H7 .free->Q5.cells.lookup z=H7 c->c<s.heap.objs.size:=λ{z} hz e=>by obtain⟨o,ho⟩:=G.v c (.inr ⟨z,fk hz,e⟩);exact ao ho
  have V3: ∀{z},sc.names.lookup z=H7 .cell->(It (s.heap.objs.size+1) sc.names []).lookup z=H7 c->s.heap.objs.size+1<=c:=λ{z} hz e=>by obtain⟨c',e',h1,_⟩:=Rg hz;rw [e']at e;cases e;exact h1
  rcases ck hx with h|h<;>rcases ck hy with h'|h'
  ·rw [if_pos h]at ex;rw [if_pos h']at ey
   exact name_of_addr RG.apart (mem_of_lookup ex) (mem_of_lookup ey)
  ·rw [if_pos h]at ex;rw [h']at ey
   exact absurd (live h' ey) (LC.mpr (Lm (V3 h ex)))
  ·rw [h]at ex;rw [if_pos h']at ey
   exact absurd (live h ex) (LC.mpr (Lm (V3 h' ey)))
  ·rw [h]at ex;rw [h']at ey
   exact G.e.inj x y c (fk h) (fk h') ex ey
 ·intro x hx
  rw [hk,hx]
  rfl
 ·exact(Heap.Ns.new s.heap (.type "dict")).keeps (pushCells_keeps _ _)
 ·intro x hx
  show∃c v,(It (s.heap.objs.size+1) sc.names (dg Q5 sc.names [])).lookup x=H7 c/\_;rw [Rb,if_pos hx];obtain⟨c,e,_,h⟩:=Rg hx;exact⟨c,H9,e,h⟩
 ·intro ok' R' x pv hx hp
  rw [hk]at hx;obtain⟨hm,hp⟩:=cY hp;have UQ:sc.names.lookup x=H7 .free:=by
   cases e:sc.names.lookup x with
   |none=>rw [e]at hx;cases hx
   |some k=>
    rw [e]at hx;have own: ∀k,(k= .local∨k= .cell)->sc.names.lookup x=H7 k->False:=λk QO e'=>hm (by unfold cj;refine HC.mpr ⟨(x,k),Iw.mpr ⟨Rm e', ?_⟩,rfl⟩;rcases QO with rfl|rfl<;>rfl)
    cases k<;>first|rfl|exact(own _ (.inl rfl) e).elim|exact(own _ (.inr rfl) e).elim|(exfalso;revert hx;simp [eY,fw])
  have UY:=fk UQ;obtain⟨v,V,R⟩:=R' x pv (by
   cases e:Q5.kindOf x with
   |none=>rw [e]at UY;cases UY
   |some k=>rw [e]at UY;cases k<;>first|rfl|cases UY) hp
  refine⟨v, ?_,R⟩;cases V with
  |loc m k n e=>rw [k]at UY;cases UY
  |cel c k l e=>
   refine .cel c ?_ ?_ e
   ·rw [hk,UQ]
    show H7 (eY Q5 x .free)=_∨H7 (eY Q5 x .free)=_;unfold eY;split
    ·exact .inl rfl
    ·exact .inr rfl
   ·show(It (s.heap.objs.size+1) sc.names (dg Q5 sc.names [])).lookup x=H7 c
    rw [Rb,UQ];exact l
 ·rintro b (rfl|⟨x,hx,e⟩)
  ·exact .inl (.inl rfl)
  ·rw [hk]at hx
   rcases ck hx with h|h
   ·exact .inl (.inr ⟨x,h,e⟩)
   ·refine .inr (.inr ⟨x,fk h, ?_⟩)
    replace e:(It (s.heap.objs.size+1) sc.names (dg Q5 sc.names [])).lookup x=H7 b:=e;rw [Rb,h]at e;exact e
end
theorem iD (h:iK e=Hd) (Q5:MY) (x:Hl):KO e Q5 x=pure x:=by cases e<;>first|rfl|cases h
variable {R:NQ->Hh->Prop} {g:LW}
theorem ik
  (T9:(Hj prog w).den (.compStart e depth (.ref I) Q8 Q5)=(compStart e depth (.ref I) Q8 Q5).onRaise (λx=>do Oq x Q5;Ji theWindowsPlace))
  (T8:A.under (.compStart e depth (.ref I) Q8 Q5)=A)
  (hq:Code.quiet (.compLoop e depth (.ref I) Q8 Q5)=Hd)
  (S5:(clausesOf e)[depth]? =H7 g) (ha:g.is_async=0)
  (Ri:WP (Hj prog w) A (MQ (.ref I)) (λv s1=>v= .ref I/\s1=s) s)
  (h:PU (Hj prog w) A (.compLoop e depth (.ref I) Q8 Q5) R s):PU (Hj prog w) A (.compStart e depth (.ref I) Q8 Q5) R s:=by
 refine codeAny_of_tree ?_;rw [T9,T8];refine wpAny_notedAt ?_;refine Jl (E:=λ_ _=>False) ?_ (λ_ _ h=>h) λ_ _ h=>h.elim;unfold compStart;rw [S5];haveI hb:((H7 g).elim Hb λx=>x.is_async !=0)=Hb:=by simp [ha]
 rw [hb];show Im _ _ (ask>>=_) _ _ s;refine He (wpAny_askSetting (wpAny_ite ?_));split
 ·first
   |exact He (Hi (Hi (And.intro hq h)))
   |exact Hi (And.intro hq h)
 ·refine He (Ms ?_)
  refine WP.at ?_;refine WP.then Ri λv s1 ⟨h1,h2⟩=> ?_;subst h1 h2;exact Hi (And.intro hq h)
theorem td {xs:List Nat} {vs:List PV} (h:aW ρ xs vs=H7 ρ'):i∉xs->ρ.get i=H7 v->ρ'.get i=H7 v:=
 dT h (λ_ _ h=>h) λρ x xs u vs ρ' _ ih hi hv=>ih (λq=>hi (Hq _ q)) ((aD λq=>hi (Hp.mpr (.inl q))).trans hv)
theorem jP {pt:PT} (h:aX ρ pt pv=H7 ρ'):i∉ptIdx pt->ρ.get i=H7 v->ρ'.get i=H7 v:=
 i8 h (λ_ hi hv=>(aD (λq=>hi (Hx.mpr q))).trans hv) λ_ _ h=>td h
theorem A9 {tgt:Expr} {pt:PT} (h:sPT Q4 sc.names tgt=H7 pt): ∀i∈ptIdx pt,i∈cj Q4 sc:=by
 have one: ∀{x:HJ},a_ sc.names x=Hd->Q4.idxOf x∈cj Q4 sc:=λ{x} hx=>by
  simp only [a_,H_,L7,beq_iff_eq]at hx;unfold cj;rcases hx.1 with e|e
  ·exact HC.mpr ⟨(x,.local),Iw.mpr ⟨mem_of_lookup e,rfl⟩,rfl⟩
  ·exact HC.mpr ⟨(x,.cell),Iw.mpr ⟨mem_of_lookup e,rfl⟩,rfl⟩
 refine oB (P:=λ_ pt=> ∀i∈ptIdx pt,i∈cj Q4 sc) h (λx p h1 _ i hi=>Hx.mp hi▸one h1) λes _ _ xs h hl=> ?_;clear hl;show∀i∈xs,i∈cj Q4 sc;revert xs;induction es with
 |nil=>exact λxs h=>Hg h▸λ_ hi=>nomatch hi
 |cons e es ih=>exact λxs h=>bH (P:=λxs=> ∀i∈xs,i∈cj Q4 sc) h λi is hi U0 j hj=>(Hp.mp hj).elim (λq=>q▸kD (P:=λ_ i=>i∈cj Q4 sc) hi λx p h1 _=>one h1) λq=>ih is U0 j q
variable {iter:Expr} {ifs:List Expr} {QD:Option (Hl->J_ Unit)} {Q:Hl->Hh->Prop}
section
theorem jM {Tj:J_ Hl} {tgt:Expr} {Qo:List LW} {AR:Hw->(Hw->Prop)->α->IL->Prop} {a0 z:α}
 {pt:PT} {R3:Ρ->α->Option α} {tail:Hw->Hw->MY->J_ J'}
  (Ro:Sys C.H) (S5:clausesOf e=⟨tgt,iter,ifs,0⟩::Qo) (Tv:iK iter=Hd) (hs:bR ns sc=Hd) (R9:sPT Q4 sc.names tgt=H7 pt) (G:d5 C Q4 A Q5 ns ρ ok s)
  (Qe:WP (Hj C.prog C.w) A (IY iter Q5) (λv s'=>Ext s s'/\pO C.prog C.w C.d ok xs s v s') s)
  (Rx: ∀(s:Hh) (Q:Hl->Hh->Prop),Q (.ref s.heap.objs.size) {s with heap:=s.heap.push o}->WP (Hj C.prog C.w) A Tj Q s)
  (Rc: ∀D,ud D (AR D)) (YN: ∀(ok:Hw->Prop) (h:IL),AR h.objs.size ok a0 (h.push o))
  (Tf: ∀I D Q9,compTurn e 0 (.ref I) (.ref D) Q9=(Ji p0>>=λ_=>Lb (.ref I)>>=λr=>match r with
   |none=>pure (.done .next)
   |some v=>Iu tgt (.ref I) v>>=λ_=>K9 tgt Q9 v>>=λ_=>tail I D Q9))
  (T9: ∀I D Q9,(Hj C.prog C.w).den (.compLoop e 0 (.ref I) (.ref D) Q9)=(compTurn e 0 (.ref I) (.ref D) Q9).onRaise (λx=>do Oq x Q9;OG x))
  (T8: ∀I D Q9,A.under (.compLoop e 0 (.ref I) (.ref D) Q9)=A)
  (Wc: ∀I D Q9,(Hj C.prog C.w).den (.compStart e 0 (.ref I) (.ref D) Q9)=(compStart e 0 (.ref I) (.ref D) Q9).onRaise (λx=>do Oq x Q9;Ji theWindowsPlace))
  (VX: ∀I D Q9,A.under (.compStart e 0 (.ref I) (.ref D) Q9)=A)
  (body: ∀I D Q9 ρ' ok s a a',LS C Q4 A Q9 sc.names D ρ' ok s->AR D ok a s.heap->R3 ρ' a=H7 a'->
   WP (Hj C.prog C.w) A (tail I D Q9) (λfin s'=>fin= .again (.compLoop e 0 (.ref I) (.ref D) Q9)/\ ∃ok',iq (λb=>b=D∨bg Q9 sc.names b) ok ok' s s'/\AR D ok' a' s'.heap/\aG s'.heap Q9 sc.names/\
    cU C.prog C.w Q4 ok' s'.heap Q9 ρ') s)
  (W9:xs.foldlM (λa x=>(aX (aw ρ (cj Q4 sc)) pt x).bind λρ'=>R3 ρ' a) a0=H7 z)
  (QC: ∀D L s' ok',Ext s s'->s.heap.objs.size<=D->s.heap.objs.size<=L->D≠L->(∃m,s'.heap.Ns L m)->AR D ok' z s'.heap->(∀b,ok' b->ok b/\b≠D/\b≠L)->
   compPost (Hj C.prog C.w) A (λ_ _=>False) QD Q (.ref D) L (.ok .next) s'):
  WP (Hj C.prog C.w) A (Lf e sc Q5 pos Tj Hb (IY iter Q5) QD) Q s:=by
 haveI Rj: ∀n,(n,Ij)∈sc.names-> ∃c,Q5.cells.lookup n=H7 c:=λn hn=>G.e.cells n (by rw [<-G.e.cel];exact iC hs hn)
 refine wpAny_comprehension_free S5 (iD Tv Q5) (im Rj) (lS hs) (λx hx hl=>ga hs (hl▸hx)) ?_;refine Jl Qe (λv s₁ ⟨x₁,hv⟩=> ?_) λ_ _ h=>h;refine Jl (hv A G.a) (λit s₂ ⟨x₂,I,hI,W,St,hIt,RN,hW⟩=> ?_) λ_ _ h=>h;subst hI;refine Rx s₂ _ ?_;have x3:Ext s {s₂ with heap:=s₂.heap.push o}:=(x₁.trans x₂).trans (Ext.pushed s₂ o s₂.toks)
 haveI G₃:=G.ext x3;have CE:=zl hs G₃;refine pG (C:=C) ?_;generalize RG:It _ sc.names _=cells at CE ⊢
 haveI Ux:(s₂.heap.push o).objs.size=s₂.heap.objs.size+1:=I8 ..
 generalize hL:({s₂ with heap:=s₂.heap.push o}:Hh).heap.objs.size=L at CE ⊢
 replace hL:(s₂.heap.push o).objs.size=L:=hL;generalize WG:({heap:=Ml _ sc.names,gens:=_,drawn:=_,toks:=_,os:=_}:Hh)=s₄ at CE ⊢
 generalize hD:s₂.heap.objs.size=D;generalize hcenv:ol sc L cells Q5=Q9 at CE;haveI VL:({(newEnv sc L Q5.globals cells Q5.qual H9 .none (H7 Q5) KW)with scope:=relabel sc Q5}:MY)=Q9:=hcenv
 rw [VL];clear VL hcenv WG RG;revert CE hL hD;revert cells L s₄ D Q9;refine bar ?_;intro cells L s₄ D Q9 hL hD CE;have hcL:Q9.locals=L:=CE.L.trans hL;have sD:s.heap.objs.size<=D:=by rw [<-hD];exact H8 x₁.size x₂.size
 have DL:D<L:=by rw [<-hL,Ux,hD];exact HR _
 have Sa: ∀b,bg Q9 sc.names b->D<b:=λb hb=>Ha DL (by have:=CE.new b hb;rw [<-hL];exact this)
 have x4:Ext s s₄:=x3.trans CE.x;haveI x24:HK s₂.heap s₄.heap:=λb o' e=>CE.x.keep b o' (HK.push _ _ b o' e);have U7: ∀b∈W,b<D:=λb hb=>by obtain⟨⟨o',e⟩,_⟩:=hIt.own RN b hb;rw [<-hD];exact ao e
 have L4:D<s₄.heap.objs.size:=by have:=CE.x.size;exact Ha DL (hL▸this)
 haveI WA: ∀b,(okW ok W b/\ ¬(b=D∨bg Q9 sc.names b))->ok b:=λb h=>h.1.1;haveI LSt:LS C Q4 A Q9 sc.names D (aw ρ (cj Q4 sc)) (λb=>okW ok W b/\ ¬(b=D∨bg Q9 sc.names b)) s₄:=by
  refine⟨⟨G.a,CE.e,G.h.trans x4.keep, ?_,λb hb=>⟨⟨G.o b (H8 x4.size hb),λq=> ?_⟩, ?_⟩,G.m.keep x4.keep,by rw [fE];exact G.l,λb hb=> ?_⟩,λb hb h=>h.2 hb,CE.f,⟨λq=>Hr _ (Sa D q),λq=> ?_⟩,λb hb=> ?_,Ro⟩
  ·refine CE.r _ (G.r.at (λa _ o e=>x4.keep a o e) (λb _ o e=>x4.keep b o e) λb o hb e=>⟨⟨hb,λq=> ?_⟩, ?_⟩)
   ·exact Hr _ (Ha (ao e) (hW b q))
   ·rintro(q|q)
    ·subst q;exact Hr _ (Ha (ao e) sD)
    ·exact Hr _ (Ha (Ha (ao e) sD) (HP (Sa b q)))
  ·exact Hr _ (Ha (J6 (U7 b q) L4) hb)
  ·rintro(q|q)
   ·subst q;exact Hr _ (Ha L4 hb)
   ·obtain⟨o',e⟩:=CE.f.live q
    exact Hr _ (Ha (ao e) hb)
  ·rcases CE.reads b hb with q|q
   ·exact CE.f.live q
   ·obtain⟨o',e⟩:=G.v b q
    exact⟨o',x4.keep _ _ e⟩
  ·rcases CE.reads D q with q|q
   ·exact Hr _ (Sa D q)
   ·obtain⟨o',e⟩:=G.v D q
    exact Hr _ (Ha (ao e) sD)
  ·refine G.h.none (bq ?_)
   rcases hb with rfl|hb
   ·exact sD
   ·exact H8 sD (HP (Sa b hb))
 haveI Y2: ∀b∈W,¬(b=D∨bg Q9 sc.names b)/\ ¬bF Q9 b/\vis C.H b=H9:=λb hb=>by
  have RY:=U7 b hb;have n1: ¬bg Q9 sc.names b:=λq=>Hr _ (J6 (Sa b q) RY);refine⟨?_,λq=> ?_,G.h.none (bq (hW b hb))⟩
  ·rintro(q|q)
   ·exact IB RY q
   ·exact n1 q
  ·rcases CE.reads b q with q|q
   ·exact n1 q
   ·obtain⟨o',e⟩:=G.v b q
    exact Hr _ (Ha (ao e) (hW b hb))
 have VN:St (λb=>okW ok W b/\ ¬(b=D∨bg Q9 sc.names b)) xs W s₄:=by
  refine hIt.frame RN (λb o' _ e=>x24 b o' e) (λb o' h e=>⟨h, ?_⟩) (λb hb h=>h.1.2 hb) (λi g e=>CE.x.gens i g e) CE.x.os;rintro(q|q)
  ·rw [q,<-hD,ca]at e;cases e
  ·have:=Sa b q
   rw [<-hD]at this;exact Hr _ (J6 this (ao e))
 haveI AR4:AR D (λb=>okW ok W b/\ ¬(b=D∨bg Q9 sc.names b)) a0 s₄.heap:=by have h0:=YN (λb=>okW ok W b/\ ¬(b=D∨bg Q9 sc.names b)) s₂.heap;rw [hD]at h0;exact(Rc D).frame h0 (λb _ o' e=>CE.x.keep b o' e) λ_ _ h _=>h
 haveI hρ: ∀ρ' pv,aX (aw ρ (cj Q4 sc)) pt pv=H7 ρ'-> ∀i v,(aw ρ (cj Q4 sc)).get i=H7 v->ρ'.get i=H7 v:=λρ' pv hb i v hv=>
  jP hb (λq=>(cY hv).1 (A9 R9 i q)) hv
 refine ik (g:=⟨tgt,iter,ifs,0⟩) (Wc I D Q9) (VX I D Q9) rfl (by rw [S5];rfl) rfl (hIt.self G.a VN) ?_
 refine codeAny_mono (nA (Tf I D Q9) (T9 I D Q9) (T8 I D Q9) hIt R9 (Rc D) hρ (body I D Q9) VN Y2 LSt AR4 W9) λr s₅ ⟨hr,ok',T₅,AR₅,F₅,R₅⟩=> ?_;subst hr;haveI h0:=QC D L s₅ ok' ⟨λb o' e=> ?_,H8 x4.size T₅.size,λi g e=>T₅.gens i g (x4.gens i g e),T₅.os.trans x4.os⟩ sD (H8 sD (HP DL)) (IB DL) (hcL▸F₅.L) AR₅ λb hb=> ?_
 ·exact h0
 ·refine T₅.keep b o' ?_ (x4.keep b o' e)
  have hb:=ao e;rintro((q|q)|q)
  ·exact Hr _ (Ha hb (q▸sD))
  ·exact Hr _ (Ha hb (H8 sD (HP (Sa b q))))
  ·exact Hr _ (Ha hb (hW b q))
 ·have h:=T₅.sub b hb
  exact⟨h.1.1,λq=>h.2 (.inl q),λq=>h.2 (.inr (.inl (q.trans hcL.symm)))⟩
end
def aI (C:Cx) (Γ:Gam) (Q4:List HJ) (ns:ay) (e:Expr) (pe:PE):Prop:=
 ∀A Q5 ρ ok s r,d5 C Q4 A Q5 ns ρ ok s->pev Γ pe ρ=H7 r->WP (Hj C.prog C.w) A (IY e Q5) (Ev C ok r s) s
def dB (C:Cx) (Γ:Gam) (Q4:List HJ) (ns:ay) (e:Expr) (pe:PE):Prop:=
 ∀A Q5 ρ ok s v b,d5 C Q4 A Q5 ns ρ ok s->pev Γ pe ρ=H7 v->ff v=H7 b->WP (Hj C.prog C.w) A (isTrue e Q5 (IY e Q5)) (λb' s'=>b'=b/\Ext s s') s
inductive cK (C:Cx) (Γ:Gam) (Q4:List HJ) (ns:ay):List Expr->List PE->Prop
 |nil:cK C Γ Q4 ns [] []
 |cons {e pe es Qs}:dB C Γ Q4 ns e pe->cK C Γ Q4 ns es Qs->cK C Γ Q4 ns (e::es) (pe::Qs)
def mi (C:Cx) (Γ:Gam) (Q4:List HJ) (ns:ay) (e:Expr) (pi:PI):Prop:=
 ∀A Q5 ρ ok s xs,d5 C Q4 A Q5 ns ρ ok s->pit Γ pi ρ=H7 xs->WP (Hj C.prog C.w) A (IY e Q5) (λv s'=>Ext s s'/\pO C.prog C.w C.d ok xs s v s') s
abbrev iY (ifs:List Expr) (Q5:MY) (b:Bool):J_ Bool:=
 forIn ifs b λc r=>if r=Hd then do let ok<-isTrue c Q5 (IY c Q5);pure (LA ok)else pure (LA r)
variable {Γ:Gam} {QE:List PE} {β:Type} {Qv:Expr} {R0:PE} {pi:PI} {p:Jq} {r:PV}
section
theorem r4 {Q:Bool->Hh->Prop} (h:Q Hb s):WP (Hj C.prog C.w) A (iY ifs Q5 Hb) Q s:=by
 induction ifs with
 |nil=>exact Hi h
 |cons c r ih=>
  rw [iY,K3];exact He (Hi ih)
theorem ly (h0:cK C Γ Q4 ns ifs QE): ∀{s:Hh} {b:Bool},d5 C Q4 A Q5 ns ρ ok s->cr Γ QE ρ=H7 b->
  WP (Hj C.prog C.w) A (iY ifs Q5 Hd) (λb' s'=>b'=b/\Ext s s') s:=by
 induction h0 with
 |nil=>exact λG h=>Hi ⟨Hg h,.refl _⟩
 |cons h1 h2 ih=>
  intro s b G h;refine ae h λv hv h=>ae h λb1 RY h=> ?_;rw [iY,K3];refine WP.then (Q₁:=λr s'=>r=LA b1/\Ext s s') (WP.then (h1 A Q5 ρ ok s v b1 G hv RY) λb' s' q=>Hi ⟨congrArg _ q.1,q.2⟩) λr s1 ⟨hr,x1⟩=> ?_;subst hr;cases b1 with
  |true=>exact(ih (G.ext x1) h).mono λb' s' q=>⟨q.1,x1.trans q.2⟩
  |false=>exact r4 ⟨Hg h,x1⟩
def ARL (C:Cx) (D:Hw) (ok:Hw->Prop) (ys:List PV) (h:IL):Prop:= ∃vs,IsL h D vs/\av C.prog C.w ok h ys vs
theorem ARL.acc (D:Hw):ud D (ARL C D)where
 frame:=fun⟨vs,l,q⟩ k sup=>⟨vs,l.mono λo e=>k D (.inr rfl) o e,q.mono (λa ha ⟨o,e⟩=>sup a o ha e) λa ha o e=>k a (.inl ha) o e⟩
 has:=fun⟨vs,l,q⟩=>l.has
theorem lX {f:List PV->β->Option (List PV)} (hf: ∀a x b,f a x=H7 b->a.length<=b.length) {xs:List β}: ∀{a z:List PV},xs.foldlM f a=H7 z->a.length<=z.length:=by
 induction xs with
 |nil=>exact λh=>Hg h▸Hm _
 |cons x xs ih=>exact λh=>ae h λb hb h=>H8 (hf _ _ _ hb) (ih h)
theorem gc {f:List PV->β->Option (List PV)} (hf: ∀a x b,f a x=H7 b->a.length<=b.length) {N:Nat} {xs:List β}: ∀{a z:List PV},xs.foldlM f a=H7 z->z.length<=N->
  xs.foldlM (λa x=>(f a x).bind λb=>if b.length<=N then H7 b else H9) a=H7 z:=by
 induction xs with
 |nil=>exact λh _=>h
 |cons x xs ih=>exact λh hz=>ae h λb hb h=>aF (aF hb (if_pos (H8 (lX hf h) hz))) (ih h hz)
def j0 (e Qv:Expr) (ifs:List Expr) (depth:Nat) (I D:Hw) (Q5:MY):J_ J':=do
 let mut ok:=Hd
 for c in ifs do
  if ok then ok<-isTrue c Q5 (IY c Q5)
 if ok then
  (do let _<-KG (.builtin "list.append") [.ref D,<-IY Qv Q5])
 again (.compLoop e depth (.ref I) (.ref D) Q5)
def ic (Γ:Gam) (ifs:List PE) (Qv:PE) (ρ':Ρ) (Q8:List PV):Option (List PV):=do
 match<-cr Γ ifs ρ' with
 |true=>do let y<-pev Γ Qv ρ';H7 (Q8++[y])
 |false=>H7 Q8
theorem jv {ifs:List PE} {Qv:PE} {a b:List PV} (h:ic Γ ifs Qv ρ' a=H7 b):a.length<=b.length:=by
 simp only [ic,IT,Ho]at h;obtain⟨t,_,h⟩:=h;cases t with
 |true=>
  simp only [Ho,OC]at h;obtain⟨y,_,rfl⟩:=h;simp
 |false=>cases h;exact Hm _
def gd (o:Option (List PV)):Option (List PV):=o.bind λb=>if b.length<=Hz then H7 b else H9
theorem iq.move {D:Hw} (hD:Z D) (x:Ext s s') (f:bS ok s.heap) (hs:Iz D s'.heap h') (Ql: ∀o,s'.heap.get? D=H7 o->aK o) (hz: ∀b,Z b-> ¬ok b):iq Z ok ok s {s' with heap:=h'}:=
 ⟨λb o hb e=>ax hs Ql (λq=>hb (q▸hD)) (x.keep b o e),λ_ h=>h,λ_ _ h _=>h,x.gens,x.os,λa ha=>f a (H8 x.size (by have:=hs.1;exact this▸ha)),by show _<=h'.objs.size;rw [hs.1];exact x.size⟩
theorem j' {D:Hw} {a a':List PV} (hq:Code.quiet (.compLoop e depth (.ref I) (.ref D) Q5)=Hd)
  (ht:cK C Γ Q4 ns ifs QE) (he:aI C Γ Q4 ns Qv R0) (L:LS C Q4 A Q5 ns D ρ' ok s) (Rv:ARL C D ok a s.heap) (hs:gd (ic Γ QE R0 ρ' a)=H7 a'):
  WP (Hj C.prog C.w) A (j0 e Qv ifs depth I D Q5) (λfin s'=>fin= .again (.compLoop e depth (.ref I) (.ref D) Q5)/\ ∃ok',iq (λb=>b=D∨bg Q5 ns b) ok ok' s s'/\ARL C D ok' a' s'.heap/\
   aG s'.heap Q5 ns/\cU C.prog C.w Q4 ok' s'.heap Q5 ρ') s:=by
 refine LS.fin λK hK=> ?_;unfold gd at hs;simp only [Ho]at hs;obtain⟨a₁,hs,hg⟩:=hs;obtain⟨hg,rfl⟩:=ah hg;simp only [ic,IT,Ho]at hs;obtain⟨t,V6,hs⟩:=hs;unfold j0;refine WP.then (ly ht L.g V6) λb s₁ ⟨hb,x₁⟩=> ?_;subst hb;cases b with
 |false=>
  cases hs;exact Hi ⟨rfl,hK _ ok (.ofExt x₁ L.g.o) ((ARL.acc D).frame Rv (λb _ o e=>x₁.keep b o e) λ_ _ h _=>h) (L.f.at λb _ o e=>x₁.keep b o e) (L.g.r.keep x₁.keep)⟩
 |true=>
  simp only [Ho,OC]at hs;obtain⟨y,hy,rfl⟩:=hs;refine WP.then (WP.then (he A Q5 ρ' ok s₁ y (L.g.ext x₁) hy) λv s₂ ⟨x₂,r⟩=> ?_) (Q₁:=λ_ s'=>K s') λ_ s' h=>Hi ⟨rfl,h⟩;have x:=x₁.trans x₂;obtain⟨vs,l,q⟩:=Rv;haveI Q7:vs.length<=Hz:=by rw [q.length];simp at hg;exact Ii hg
  refine WP.then (Pw (l.mono λo e=>x.keep D o e) (Q:=λ_ s'=> ∃h',s'={s₂ with heap:=h'}/\IsL h' D (vs++[v])/\Iz D s₂.heap h') (λh' hl SB=>⟨h',rfl,by simpa [IsL]using hl,SB⟩) (by simpa using Q7)) λ_ s₃ ⟨h',e3,l',SB⟩=> ?_
  subst e3;have QQ:=jG (l.mono λo e=>x.keep D o e);refine Hi (hK _ ok (iq.move (Z:=λb=>b=D∨bg Q5 ns b) (.inl rfl) x L.g.o SB QQ L.z) ⟨_,l', ?_⟩ (L.f.at λb hb o e=>ax SB QQ (λq=>L.hD.1 (q▸hb)) (x.keep b o e)) ?_)
  ·have kp: ∀b,ok b-> ∀o,vis s₂.heap b=H7 o->vis h' b=H7 o:=λb hb o e=>ax SB QQ (λq=>L.z b (.inl q) hb) e
   exact((q.keep x.keep).mono (λ_ h _=>h) kp).snoc (r.mono (λ_ h _=>h) kp)
  ·exact(L.g.r.keep x.keep).at (λb hb o e=>ax SB QQ (λq=>L.hD.2 (q▸hb)) e) (λb hb o e=>ax SB QQ (λq=>L.z b (.inl q) hb) e) λ_ _ h _=>h
abbrev Cg (C:Cx) (A:IZ) (ok:Hw->Prop) (zs:List PV) (QD:Option (Hl->J_ Unit)) (Q:Hl->Hh->Prop) (s:Hh):Prop:=
 ∀D L s' ok' vs,Ext s s'->s.heap.objs.size<=D->s.heap.objs.size<=L->D≠L->(∃m,s'.heap.Ns L m)->IsL s'.heap D vs->av C.prog C.w ok' s'.heap zs vs->(∀b,ok' b->ok b/\b≠D/\b≠L)->
  compPost (Hj C.prog C.w) A (λ_ _=>False) QD Q (.ref D) L (.ok .next) s'
theorem zn {tgt:Expr} {pt:PT}
  (Ro:Sys C.H) (hs:bR ns sc=Hd) (Tv:iK iter=Hd) (R9:sPT Q4 sc.names tgt=H7 pt) (Qe:mi C Γ Q4 ns iter pi)
  (ht:cK C Γ Q4 sc.names ifs QE) (he:aI C Γ Q4 sc.names Qv R0) (G:d5 C Q4 A Q5 ns ρ ok s)
  (hp:pev Γ (.comp1 (cj Q4 sc) pt pi QE R0) ρ=H7 r) (QC: ∀zs,r= .list zs->Cg C A ok zs QD Q s):
  WP (Hj C.prog C.w) A (Lf (.ListComp Qv [⟨tgt,iter,ifs,0⟩] sc pos) sc Q5 p (newList []) Hb (IY iter Q5) QD) Q s:=by
 refine ae hp λxs RX hp=>ae hp λzs hz hr=> ?_;obtain⟨Q7,rfl⟩:=ah hr;haveI Xw:xs.foldlM (λa x=>(aX (aw ρ (cj Q4 sc)) pt x).bind λρ'=>gd (ic Γ QE R0 ρ' a)) []=H7 zs:=by
  have:=gc (f:=λa x=>(aX (aw ρ (cj Q4 sc)) pt x).bind λρ'=>ic Γ QE R0 ρ' a) (λa x b h=>by simp only [Ho]at h;obtain⟨_,_,h⟩:=h;exact jv h) (N:=Hz) hz Q7
  rw [<-this]
  congr 1
  funext a x;rw [Nk]
  rfl
 refine jM (α:=List PV) (AR:=ARL C) (a0:=[]) (z:=zs) (o:={cls:= .type "list",data:= .seq #[]}) (Qo:=[]) (ifs:=ifs) (tail:=λI D Q9=>j0 (.ListComp Qv [⟨tgt,iter,ifs,0⟩] sc pos) Qv ifs 0 I D Q9) (p0:=iter.pos)
  Ro rfl Tv hs R9 G (Qe A Q5 ρ ok s xs G RX) (λs Q h=>Ka h (IH _)) ARL.acc (λok h=>⟨[],⟨_,HL _ rfl⟩,rfl⟩) (λI D Q9=>rfl) (λI D Q9=>rfl) (λI D Q9=>rfl) (λI D Q9=>rfl) (λI D Q9=>rfl)
  (λI D Q9 ρ' ok s a a' L Rv Th=>j' rfl ht he L Rv Th) Xw λD L s' ok' x h1 h2 h3 h4 ⟨vs,l,q⟩ h6=>QC zs rfl D L s' ok' vs x h1 h2 h3 h4 l q h6
end
def ut (e Tq:Expr) (ifs:List Expr) (I D:Hw) (Q5:MY):J_ J':=do
 let mut ok:=Hd
 for c in ifs do
  if ok then ok<-isTrue c Q5 (IY c Q5)
 if ok then
  let x<-IY Tq Q5
  Ji Tq.pos
  let x<-KO Tq Q5 x;let _<-runOwn (.compStart e 1 (<-KZ [x] (MQ x)) (.ref D) Q5) Q5
 again (.compLoop e 0 (.ref I) (.ref D) Q5)
def pS (Γ:Gam) (ifs:List PE) (t2:PT) (Tq:PI) (QW:List PE) (Qv:PE) (ρ':Ρ) (Q8:List PV):Option (List PV):=do
 match<-cr Γ ifs ρ' with
 |true=>if wV t2 ρ'=Hd then(pit Γ Tq ρ').bind (λus=>us.foldlM (λQ8 u=>(aX ρ' t2 u).bind λQL=>ic Γ QW Qv QL Q8) Q8)else H9
 |false=>H7 Q8
section
theorem vi {ifs QW:List PE} {t2:PT} {Tq:PI} {Qv:PE} {a b:List PV} (h:pS Γ ifs t2 Tq QW Qv ρ' a=H7 b):a.length<=b.length:=by
 simp only [pS,IT,Ho]at h;obtain⟨t,_,h⟩:=h;cases t with
 |true=>
  simp only at h;split at h
  ·simp only [Ho]at h
   obtain⟨us,_,h⟩:=h;exact lX (λa x b h=>by simp only [Ho]at h;obtain⟨_,_,h⟩:=h;exact jv h) h
  ·cases h
 |false=>cases h;exact Hm _
set_option tactic.hygienic true in
theorem zm {tgt SH QY:Expr} {QW:List Expr} {pt UN:PT} {Wz:PI} {Rh:List PE}
  (Ro:Sys C.H) (hs:bR ns sc=Hd) (Tv:iK iter=Hd) (R9:sPT Q4 sc.names tgt=H7 pt) (Qe:mi C Γ Q4 ns iter pi)
  (ht:cK C Γ Q4 sc.names ifs QE) (Yx:iK QY=Hd) (Yp:sPT Q4 sc.names SH=H7 UN) (hit2:mi C Γ Q4 sc.names QY Wz)
  (ht2:cK C Γ Q4 sc.names QW Rh) (he:aI C Γ Q4 sc.names Qv R0) (G:d5 C Q4 A Q5 ns ρ ok s)
  (hp:pev Γ (.comp2 (cj Q4 sc) pt pi QE UN Wz Rh R0) ρ=H7 r) (QC: ∀zs,r= .list zs->Cg C A ok zs QD Q s):
  WP (Hj C.prog C.w) A (Lf (.ListComp Qv [⟨tgt,iter,ifs,0⟩,⟨SH,QY,QW,0⟩] sc pos) sc Q5 p (newList []) Hb (IY iter Q5) QD) Q s:=by
 refine ae hp λxs RX hp=>ae hp λzs hz hr=> ?_;obtain⟨Q7,rfl⟩:=ah hr;haveI Xw:xs.foldlM (λa x=>(aX (aw ρ (cj Q4 sc)) pt x).bind λρ'=>gd (pS Γ QE UN Wz Rh R0 ρ' a)) []=H7 zs:=by
  have:=gc (f:=λa x=>(aX (aw ρ (cj Q4 sc)) pt x).bind λρ'=>pS Γ QE UN Wz Rh R0 ρ' a) (λa x b h=>by simp only [Ho]at h;obtain⟨_,_,h⟩:=h;exact vi h) (N:=Hz) hz Q7
  rw [<-this]
  congr 1
  funext a x;rw [Nk]
  rfl
 refine jM (α:=List PV) (AR:=ARL C) (a0:=[]) (z:=zs) (o:={cls:= .type "list",data:= .seq #[]}) (Qo:=[⟨SH,QY,QW,0⟩]) (ifs:=ifs)
  (tail:=λI D Q9=>ut (.ListComp Qv [⟨tgt,iter,ifs,0⟩,⟨SH,QY,QW,0⟩] sc pos) QY ifs I D Q9) (p0:=iter.pos)
  Ro rfl Tv hs R9 G (Qe A Q5 ρ ok s xs G RX) (λs Q h=>Ka h (IH _)) ARL.acc (λok h=>⟨[],⟨_,HL _ rfl⟩,rfl⟩) (λI D Q9=>rfl) (λI D Q9=>rfl) (λI D Q9=>rfl) (λI D Q9=>rfl) (λI D Q9=>rfl)
  ?_ Xw λD L s' ok' x h1 h2 h3 h4 ⟨vs,l,q⟩ h6=>QC zs rfl D L s' ok' vs x h1 h2 h3 h4 l q h6
 intro I D Q9 ρ' ok s a a' L Rv hs;refine LS.fin λK hK=> ?_;unfold gd at hs;simp only [Ho]at hs;obtain⟨a₁,hs,hg⟩:=hs;obtain⟨hgl,rfl⟩:=ah hg;simp only [pS,IT,Ho]at hs;obtain⟨t,V6,hs⟩:=hs;unfold ut;refine WP.then (ly ht L.g V6) λb s₁ ⟨hb,x₁⟩=> ?_;subst hb;cases b with
 |false=>
  cases hs;exact Hi ⟨rfl,hK _ ok (.ofExt x₁ L.g.o) ((ARL.acc D).frame Rv (λb _ o e=>x₁.keep b o e) λ_ _ h _=>h) (L.f.at λb _ o e=>x₁.keep b o e) (L.g.r.keep x₁.keep)⟩
 |true=>
  simp only at hs;split at hs
  ·rename_i Vf
   simp only [Ho]at hs;obtain⟨us,TZ,hs⟩:=hs;haveI QV:=gc (f:=λa x=>(aX ρ' UN x).bind λQL=>ic Γ Rh R0 QL a) (λa x b h=>by simp only [Ho]at h;obtain⟨_,_,h⟩:=h;exact jv h) (N:=Hz) hs hgl
   haveI XE:us.foldlM (λa x=>(aX ρ' UN x).bind λQL=>gd (ic Γ Rh R0 QL a)) a=H7 a₁:=by
    rw [<-QV]
    congr 1
    funext a x;rw [Nk]
    rfl
   refine WP.then (hit2 A Q9 ρ' ok s₁ us (L.g.ext x₁) TZ) λv s₂ ⟨x₂,hv⟩=> ?_;refine WP.at ?_;refine He (Jx (iD Yx Q9 v) ?_);refine WP.then (WP.hold (hv A L.g.a)) λr s₃ ⟨x₃,I2,hr,W2,St2,hI2,hSt2,hW2⟩=> ?_;subst hr;haveI x13:=x₂.trans x₃;have SW:=x₁.trans x13;have WA: ∀b o,ok b->vis s.heap b=H7 o->okW ok W2 b:=λb o hb e=>⟨hb,λq=>by have:=Ha (ao (x₁.keep b o e)) (hW2 b q);exact Hr _ this⟩
   haveI Wn:bS (okW ok W2) s₃.heap:=λb hb=>⟨L.g.o b (H8 SW.size hb),λq=>by obtain⟨⟨o,e⟩,_⟩:=hI2.own hSt2 b q;exact Hr _ (Ha (ao e) hb)⟩
   haveI L₃:LS C Q4 A Q9 sc.names D ρ' (okW ok W2) s₃:=L.next (λb o _ _ _ e=>SW.keep b o e) (λb h=>h.1) Wn (L.f.at λb _ o e=>SW.keep b o e)
    (L.g.r.at (λb _ o e=>SW.keep b o e) (λb _ o e=>SW.keep b o e) WA) L.g.l
   haveI Y2: ∀b∈W2,¬(b=D∨bg Q9 sc.names b)/\ ¬bF Q9 b/\vis C.H b=H9:=λb hb=>by
    have h1:=hW2 b hb;have nl: ∀o,vis s.heap b≠H7 o:=λo e=>Hr _ (Ha (ao (x₁.keep b o e)) h1);refine⟨?_,λq=> ?_, ?_⟩
    ·rintro(q|q)
     ·obtain⟨o,e⟩:=(ARL.acc D).has Rv
      exact nl o (q▸e)
     ·obtain⟨o,e⟩:=L.f.live q
      exact nl o e
    ·obtain⟨o,e⟩:=L.g.v b q
     exact nl o e
    ·cases e:vis C.H b with
     |none=>rfl
     |some o=>exact absurd (L.g.h b o e) (nl o)
   refine WP.then (wpAny_runOwn (A:=A) (Q:=λ_ s'=>K s') (codeAny_mono (R:=λr s'=>r= .ok .next/\ ∃ok',iq (λb=>(b=D∨bg Q9 sc.names b)∨b∈W2) (okW ok W2) ok' s₃ s'/\ARL C D ok' a₁ s'.heap/\aG s'.heap Q9 sc.names/\
    cU C.prog C.w Q4 ok' s'.heap Q9 ρ') ?_ λr s₄ ⟨hr,ok',T,h1,h2,h3⟩=> ?_)) λ_ s' h=>Hi ⟨rfl,h⟩
   ·refine ik (g:=⟨SH,QY,QW,0⟩) rfl rfl rfl rfl rfl (hI2.self L.g.a hSt2) ?_
    refine nA (tail:=j0 (.ListComp Qv [⟨tgt,iter,ifs,0⟩,⟨SH,QY,QW,0⟩] sc pos) Qv QW 1 I2 D Q9) (R3:=λQL a=>gd (ic Γ Rh R0 QL a)) (p0:=QY.pos) rfl rfl rfl hI2 Yp (ARL.acc D) (λQL pv hb i v hv=>jP hb (λq=> ?_) hv)
     (λQL ok s a a' L Rv hs=>j' rfl ht2 he L Rv hs) hSt2 Y2 L₃ ((ARL.acc D).frame Rv (λb _ o e=>SW.keep b o e) WA) XE
    have:=(HX.mp Vf) i q;rw [hv]at this;cases this
   ·subst hr
    refine hK _ ok' ⟨λb o hb e=>T.keep b o ?_ (SW.keep b o e),λb h=>(T.sub b h).1,λb o h e=>T.sup b o (WA b o h e) (SW.keep b o e),λi g e=>T.gens i g (SW.gens i g e),T.os.trans SW.os,T.free,H8 SW.size T.size⟩ h1 h2 h3;rintro(q|q)
    ·exact hb q
    ·exact Hr _ (Ha (ao (x₁.keep b o e)) (hW2 b q))
  ·cases hs
def ARK {K:Type} [DecidableEq K] {prog:IG} {w:J0} (knd:KeyKind prog w K) (D:Hw) (ok:Hw->Prop) (d:Option (List K×List PV)) (h:IL):Prop:=
 ∀p,d=H7 p->p.1.length<=1000/\ ∃vs,DAt knd h D p.1 vs/\av prog w ok h p.2 vs
def ARD (C:Cx) (D:Hw) (ok:Hw->Prop) (d:Option PV) (h:IL):Prop:=
 ARK (strKind C.prog C.w) D ok (zF d) h/\ARK (IM C.prog C.w) D ok (kvI d) h/\((zF d).isSome||(kvI d).isSome)=Hd/\ ∃o,h.get? D=H7 o/\ ∃es n,o.data= .dict es n
theorem ARK.frame [DecidableEq K] {knd:KeyKind prog w K} {D:Hw} {d:Option (List K×List PV)} (x:ARK knd D ok d h) (k: ∀b,ok b∨b=D-> ∀o,vis h b=H7 o->vis h' b=H7 o) (sup: ∀b o,ok b->vis h b=H7 o->ok' b):ARK knd D ok' d h':=
 λp e=>by obtain⟨hl,vs,l,q⟩:=x p e;exact⟨hl,vs,l.mono λo e=>k D (.inr rfl) o e,q.mono (λa ha h=>h.elim λo e=>sup a o ha e) λa ha o e=>k a (.inl ha) o e⟩
theorem ARD.acc (D:Hw):ud D (ARD C D)where
 frame:=λ{ok ok' a h h'} x k sup=>by obtain⟨x,y,z,o,e,es,n,d⟩:=x;exact⟨x.frame k sup,y.frame k sup,z,o,(cC d).keep (k D (.inr rfl)) e,es,n,d⟩
 has:=λ{ok a h} x=>by obtain⟨_,_,_,o,e,es,n,d⟩:=x;exact⟨o,(cC d).vis e⟩
end
variable {v':Hl}
theorem m5 [DecidableEq K] {k k':K} {v:Hl} {r:List (K×Hl)} (h: ¬k'=k):OS ((k',v')::r) k v=(k',v')::OS r k v:=by
 unfold OS;simp only [Ni,decide_eq_false h,Bool.false_or,HI,if_neg h];split
 ·rfl
 ·rfl
theorem m6 [DecidableEq K] {k:K} {v:Hl} {r:List (K×Hl)} (h:k∉r.map (·.1)):OS ((k,v')::r) k v=(k,v)::r:=by unfold OS;simp only [Ni,decide_true,Bool.true_or,if_true,HI];rw [map_store_of_not_mem r k v h]
theorem zip_keys {ks:List K} (h:ks.length=vs.length):(ks.zip vs).map (·.1)=ks:=Mz (Hu h)
theorem Aj [DecidableEq K] {k:K} {u:PV} {v:Hl} (ru:Rep prog w ok h u v) {ks:List K}: ∀{us:List PV} {vs:List Hl},ks.Nodup->ks.length=vs.length->av prog w ok h us vs->
  ∃Qw,OS (ks.zip vs) k v=(eV k u ks us).1.zip Qw/\(eV k u ks us).1.length=Qw.length/\av prog w ok h (eV k u ks us).2 Qw:=by
 induction ks with
 |nil=>exact λ_ hl q=>⟨[v],Km hl.symm▸rfl,rfl,v,[],rfl,ru,rfl⟩
 |cons k' ks ih=>
  intro us vs hn hl q;cases us with
  |nil=>cases (show vs=[]from q);exact nomatch hl
  |cons u' us=>
   obtain⟨v',vs,rfl,q1,q2⟩:=q;have Ru:ks.length=vs.length:=Kf hl;show∃Qw,_=(if k'=k then(k'::ks,u::us)else(k'::(eV k u ks us).1,u'::(eV k u ks us).2)).1.zip Qw/\(if k'=k then(k'::ks,u::us)else(k'::(eV k u ks us).1,u'::(eV k u ks us).2)).1.length=Qw.length/\
    av prog w ok h (if k'=k then(k'::ks,u::us)else(k'::(eV k u ks us).1,u'::(eV k u ks us).2)).2 Qw
   by_cases e:k'=k
   ·rw [if_pos e]
    subst e;exact⟨v::vs,m6 λq=>(Jc.mp hn).1 ((zip_keys Ru:(ks.zip vs).map (·.1)=ks)▸q),hl,v,vs,rfl,ru,q2⟩
   ·rw [if_neg e]
    obtain⟨Qw,a,b,c⟩:=ih (Jc.mp hn).2 Ru q2;exact⟨v'::Qw,(m5 e).trans (congrArg _ a),congrArg L0 b,v',Qw,rfl,q1,c⟩
theorem tN [DecidableEq K] {knd:KeyKind prog w K} {ks:List K} (hl:ks.length=vs.length) (d:h.DictOf knd a (ks.zip vs)):ks.Nodup:=by
 obtain⟨_,_,_,_,_,_,_,_,hn⟩:=d
 rwa [zip_keys hl]at hn
def lK (e kx vx:Expr) (ifs:List Expr) (I D:Hw) (Q5:MY):J_ J':=do
 let mut ok:=Hd
 for c in ifs do
  if ok then ok<-isTrue c Q5 (IY c Q5)
 if ok then
  (do
   let kv<-IY kx Q5;let vv<-KZ [kv] (IY vx Q5)
   Ji {kx.pos with endLine:=vx.pos.endLine,endCol:=vx.pos.endCol}
   KZ [kv,vv] (PR D kv vv))
 again (.compLoop e 0 (.ref I) (.ref D) Q5)
def wu (Γ:Gam) (ifs:List PE) (k v:PE) (ρ':Ρ) (Q8:Option PV):Option (Option PV):=do
 match<-cr Γ ifs ρ' with
 |true=>do
  let a<-pev Γ k ρ';let b<-pev Γ v ρ'
  (kQ Q8 a b).map H7
 |false=>H7 Q8
variable {va vb:Hl} {kx vx:Expr} {pk:PE}
section
theorem nK {D:Hw} {Q8:Option PV} (x:ARD C D ok Q8 h): ∀o,h.get? D=H7 o->aK o:=by obtain⟨_,_,_,o,e,es,n,d⟩:=x;exact λo' e'=>by rw [e]at e';cases e';exact fX d
theorem uo [DecidableEq K] {knd:KeyKind C.prog C.w K} {D:Hw} {p:List K×List PV} {k:K} {b:PV} {Q:Unit->Hh->Prop} (hk:knd.is k va=Hd) (x:ARK knd D ok (H7 p) s.heap) (Ql: ∀o,s.heap.get? D=H7 o->aK o) (rb:Rep C.prog C.w ok s.heap b vb)
  (Q7:(eV k b p.1 p.2).1.length<=1000) (hD: ¬ok D) (hQ: ∀h' tk,ARK knd D ok (H7 (eV k b p.1 p.2)) h'->(∃o,h'.get? D=H7 o/\ ∃es n,o.data= .dict es n)->Iz D s.heap h'->Q () {s with heap:=h',toks:=tk}):WP (Hj C.prog C.w) A (PR D va vb) Q s:=by
 obtain⟨Wm,vs,⟨hl,hm⟩,q⟩:=x p rfl;obtain⟨Qw,e1,e2,e3⟩:=Aj rb (k:=k) (tN hl hm) hl q;refine wpAny_dictSet_pairs (knd:=knd) hk hm (λh' S4 hs=>hQ h' _ (λp' e=> ?_) (by obtain⟨o,es,ep,ho,_,d,_⟩:=S4;exact⟨o,ho,es,ep,d⟩) hs) ?_
 ·cases e
  exact⟨Q7,Qw,⟨e2,e1▸S4⟩,e3.mono (λ_ h _=>h) λc hc o e=>ax hs Ql (λq=>hD (q▸hc)) e⟩
 ·rw [O2,<-hl,M1]
  exact H8 Wm (by rw [KV];decide)
theorem qW [DecidableEq K] {knd:KeyKind C.prog C.w K} {D:Hw}:ARK knd D ok H9 h:=λp e=>nomatch e
theorem zf {D:Hw} {Q8:Option PV} {a b d:PV} {Q:Unit->Hh->Prop} (Rv:ARD C D ok Q8 s.heap) (hd:kQ Q8 a b=H7 d)
  (ra:Rep C.prog C.w ok s.heap a va) (rb:Rep C.prog C.w ok s.heap b vb) (hD: ¬ok D) (hQ: ∀h' tk,ARD C D ok (H7 d) h'->Iz D s.heap h'->Q () {s with heap:=h',toks:=tk}):
  WP (Hj C.prog C.w) A (PR D va vb) Q s:=by
 have Ql:=nK Rv;obtain⟨x,y,_,_⟩:=Rv;cases a with
 |int k=>
  obtain⟨t,rfl⟩:=ra;obtain⟨p,hp,hd⟩:=Ho.mp (show(kvI Q8).bind (zA .dictI k b)=H7 d from hd);rw [hp]at y;obtain⟨Q7,rfl⟩:=ah hd;exact uo (Mt C.prog C.w k t) y Ql rb Q7 hD λh' tk z o hs=>hQ h' tk ⟨qW,z,rfl,o⟩ hs
 |str k=>
  obtain⟨t,rfl⟩:=ra;obtain⟨p,hp,hd⟩:=Ho.mp (show(zF Q8).bind (zA .dictS k b)=H7 d from hd);rw [hp]at x;obtain⟨Q7,rfl⟩:=ah hd;exact uo (OR C.prog C.w k t) x Ql rb Q7 hD λh' tk z o hs=>hQ h' tk ⟨z,qW,rfl,o⟩ hs
 |_=>exact a9 hd
theorem rH {pv:PE} {D:Hw} {a a':Option PV}
  (ht:cK C Γ Q4 ns ifs QE) (hk:aI C Γ Q4 ns kx pk) (hv:aI C Γ Q4 ns vx pv) (L:LS C Q4 A Q5 ns D ρ' ok s) (Rv:ARD C D ok a s.heap) (hs:wu Γ QE pk pv ρ' a=H7 a'):
  WP (Hj C.prog C.w) A (lK e kx vx ifs I D Q5) (λfin s'=>fin= .again (.compLoop e 0 (.ref I) (.ref D) Q5)/\ ∃ok',iq (λb=>b=D∨bg Q5 ns b) ok ok' s s'/\ARD C D ok' a' s'.heap/\
   aG s'.heap Q5 ns/\cU C.prog C.w Q4 ok' s'.heap Q5 ρ') s:=by
 refine LS.fin λK hK=> ?_;simp only [wu,IT,Ho]at hs;obtain⟨t,V6,hs⟩:=hs;unfold lK;refine WP.then (ly ht L.g V6) λb s₁ ⟨hb,x₁⟩=> ?_;subst hb;cases b with
 |false=>
  cases hs;exact Hi ⟨rfl,hK _ ok (.ofExt x₁ L.g.o) ((ARD.acc D).frame Rv (λb _ o e=>x₁.keep b o e) λ_ _ h _=>h) (L.f.at λb _ o e=>x₁.keep b o e) (L.g.r.keep x₁.keep)⟩
 |true=>
  simp only [Ho,HG]at hs;obtain⟨y,hy,z,hz,d,hd,rfl⟩:=hs;refine WP.then (Q₁:=λ_ s'=>K s') ?_ λ_ s' h=>Hi ⟨rfl,h⟩;refine WP.then (hk A Q5 ρ' ok s₁ y (L.g.ext x₁) hy) λva s₂ ⟨x₂,ra⟩=> ?_;refine WP.then (WP.hold (hv A Q5 ρ' ok s₂ z ((L.g.ext x₁).ext x₂) hz)) λvb s₃ ⟨x₃,rb⟩=> ?_;refine WP.at (WP.hold ?_);have x:=(x₁.trans x₂).trans x₃;have QQ:=nK ((ARD.acc D).frame (ok':=ok) Rv (λb _ o e=>x.keep b o e) λ_ _ h _=>h);refine zf ((ARD.acc D).frame Rv (λb _ o e=>x.keep b o e) λ_ _ h _=>h) hd (ra.keep x₃.keep) rb (L.z D (.inl rfl)) λh' tk YO SB=> ?_;refine hK _ ok ?_ YO (L.f.at λb hb o e=>ax SB QQ (λq=>L.hD.1 (q▸hb)) (x.keep b o e)) ?_
  ·have:=iq.move (Z:=λb=>b=D∨bg Q5 ns b) (.inl rfl) x L.g.o SB QQ L.z
   exact⟨this.keep,this.sub,this.sup,this.gens,this.os,this.free,this.size⟩
  ·exact(L.g.r.keep x.keep).at (λb hb o e=>ax SB QQ (λq=>L.hD.2 (q▸hb)) e) (λb hb o e=>ax SB QQ (λq=>L.z b (.inl q) hb) e) λ_ _ h _=>h
abbrev EI (C:Cx) (A:IZ) (ok:Hw->Prop) (d:PV) (QD:Option (Hl->J_ Unit)) (Q:Hl->Hh->Prop) (s:Hh):Prop:=
 ∀D L s' ok',Ext s s'->s.heap.objs.size<=D->s.heap.objs.size<=L->D≠L->(∃m,s'.heap.Ns L m)->ARD C D ok' (H7 d) s'.heap->(∀b,ok' b->ok b/\b≠D/\b≠L)->
  compPost (Hj C.prog C.w) A (λ_ _=>False) QD Q (.ref D) L (.ok .next) s'
theorem zh {tgt:Expr} {pt:PT} {pv:PE}
  (Ro:Sys C.H) (hs:bR ns sc=Hd) (Tv:iK iter=Hd) (R9:sPT Q4 sc.names tgt=H7 pt) (Qe:mi C Γ Q4 ns iter pi)
  (ht:cK C Γ Q4 sc.names ifs QE) (hk:aI C Γ Q4 sc.names kx pk) (hv:aI C Γ Q4 sc.names vx pv) (G:d5 C Q4 A Q5 ns ρ ok s)
  (hp:pev Γ (.dcomp (cj Q4 sc) pt pi QE pk pv) ρ=H7 r) (QC:EI C A ok r QD Q s):
  WP (Hj C.prog C.w) A (Lf (.DictComp kx vx [⟨tgt,iter,ifs,0⟩] sc pos) sc Q5 p newDict Hb (IY iter Q5) QD) Q s:=by
 refine ae hp λxs RX hp=>ae hp λz hz hr=> ?_;subst hr;refine jM (α:=Option PV) (AR:=ARD C) (a0:=H9) (z:=H7 r) (o:={cls:= .type "dict",data:= .dict #[]}) (Qo:=[]) (ifs:=ifs) (tail:=λI D Q9=>lK (.DictComp kx vx [⟨tgt,iter,ifs,0⟩] sc pos) kx vx ifs I D Q9) (p0:=iter.pos)
  (R3:=λρ' a=>wu Γ QE pk pv ρ' a)
  Ro rfl Tv hs R9 G (Qe A Q5 ρ ok s xs G RX) (λs Q h=>Ka h (IH _)) ARD.acc (λok h=>⟨λp e=>by cases e;exact⟨IH _,[],⟨rfl,Lp h⟩,rfl⟩,λp e=>by cases e;exact⟨IH _,[],⟨rfl,Lp h⟩,rfl⟩,rfl,_,HL _ rfl,_,_,rfl⟩) (λI D Q9=>rfl) (λI D Q9=>rfl) (λI D Q9=>rfl) (λI D Q9=>rfl) (λI D Q9=>rfl)
  (λI D Q9 ρ' ok s a a' L Rv Th=>rH ht hk hv L Rv Th) hz λD L s' ok' x h1 h2 h3 h4 q h6=>QC D L s' ok' x h1 h2 h3 h4 q h6
theorem Bp {D:Hw} {d:PV} (QI:ok D) (hs:(D==IA)=Hb) (x:ARD C D ok (H7 d) h):Rep C.prog C.w ok h d (.ref D):=by
 obtain⟨x,y,z,_⟩:=x;cases d with
 |dictS=>obtain⟨_,vs,l,q⟩:=x _ rfl;exact⟨D,vs,rfl,QI,hs,l,q⟩
 |dictI=>obtain⟨_,vs,l,q⟩:=y _ rfl;exact⟨D,vs,rfl,QI,hs,l,q⟩
 |_=>exact nomatch z
end
theorem kG: ∀{vs:List Hl},xs.length=vs.length->(∀(i:Nat) x v,xs[i]? =H7 x->vs[i]? =H7 v->Rep prog w ok h x v)->av prog w ok h xs vs:=by
 induction xs with
 |nil=>exact λe _=>Km e.symm
 |cons x xs ih=>
  intro vs e f;cases vs with
  |nil=>exact nomatch e
  |cons v vs=>exact⟨v,vs,rfl,f 0 x v rfl rfl,ih (Kf e) λi=>f (i+1)⟩
structure jU (prog:IG) (w:J0) (A:IZ) (H:IL) (I:Hw) (Wg:List Nat) (T:Expr->Prop) (St:(Hw->Prop)->List PV->List Hw->Hh->Prop):Prop where
 own: ∀{ok xs W s},St ok xs W s-> ∀b∈W,b<s.heap.objs.size/\ ¬ok b
 frame: ∀{ok ok' xs W s s'},St ok xs W s->(∀b o,ok b∨b∈W->vis s.heap b=H7 o->vis s'.heap b=H7 o)->
  (∀b o,ok b->vis s.heap b=H7 o->ok' b)->(∀b∈W,¬ok' b)->(∀(i:Nat) g,s.gens[i]? =H7 g->s'.gens[i]? =H7 g)->s'.os=s.os->HK H s'.heap->s.heap.objs.size<=s'.heap.objs.size->St ok' xs W s'
 next: ∀{ok x xs W s tgt},T tgt->bS (λa=>ok a) s.heap->Sys s.heap->St ok (x::xs) W s->
  WP (Hj prog w) A (Lb (.ref I)) (λr s1=> ∃v W1,r=H7 v/\(∀b∈W,b∈W1)/\(∀b∈W1,b∈W∨s.heap.objs.size<=b)/\bw W Wg s s1/\
   Rep prog w (okW ok W1) s1.heap x v/\WP (Hj prog w) A (Iu tgt (.ref I) v) (λ_ s2=>bw W1 Wg s1 s2/\St (okW ok W1) xs W1 s2) s1) s
 done: ∀{ok W s},St ok [] W s->WP (Hj prog w) A (Lb (.ref I)) (λr s1=>r=H9/\bw W Wg s s1) s
variable {Wg:List Nat} {H:IL}
theorem nU.atA (it:nU prog w d I Wg St) (hA:AOk d A):jU prog w A H I Wg (λ_=>True) St:=
 ⟨λh b hb=>by obtain⟨⟨o,e⟩,n⟩:=it.own h b hb;exact⟨ao e,n⟩,λh1 h2 h3 h4 h5 h6 _ _=>it.frame h1 h2 h3 h4 h5 h6,λ_ h2 h3 h4=>it.next hA h2 h3 h4,λh=>it.done hA h⟩
def ItG (C:Cx) (A:IZ) (ok:Hw->Prop) (xs:List PV) (tgt:Expr) (s₀ s:Hh) (I:Hw):Prop:=
 ∃W Wg T St,jU C.prog C.w A C.H I Wg T St/\T tgt/\St (okW ok W) xs W s/\(∀b∈W,s₀.heap.objs.size<=b)/\ ∀i∈Wg,s₀.gens.size<=i
def iX (C:Cx) (f:Hw) (args xs:List PV):Prop:=
 ∀(A:IZ) (s:Hh) (ok:Hw->Prop) (vs:List Hl) (tgt:Expr),AOk C.d A->HK C.H s.heap->bS ok s.heap->Sys s.heap->av C.prog C.w ok s.heap args vs->
  WP (Hj C.prog C.w) A (KG (.ref f) vs) (λv s₁=>Ext s s₁/\ ∃g,v= .ref g/\ ∀A' QX,A'=A∨A'=A.in1.in1->Ext s₁ QX->(∃i,QX.heap.IsGen g i)/\ItG C A' ok xs tgt s QX g) s
structure ai (C:Cx) (Γ:Gam):Prop where
 sy:Sys C.H
 val: ∀x k r,C.gl x=H7 (.val k)->Γ.gv k=H7 r-> ∃v,cG C.H x v/\ ∀ok h,Rep C.prog C.w ok h r v
 fn: ∀x k,C.gl x=H7 (.fn k)-> ∃f o fd,cG C.H x (.ref f)/\C.H.get? f=H7 o/\o.data= .func fd/\ ∀args r,Γ.fn k args=H7 r->aj C.prog C.w C.H C.d f args r
 bi: ∀x k,C.gl x=H7 (.bi k)->cG C.H x (.builtin (zH k))
 gn: ∀x k,C.gl x=H7 (.gen k)-> ∃f o fd,cG C.H x (.ref f)/\C.H.get? f=H7 o/\o.data= .func fd/\ ∀args xs,Γ.gn k args=H7 xs->iX C f args xs
 ty: ∀x t,C.gl x=H7 (.ty t)->cG C.H x (.type t)
variable {c:PV} {tk:Nat} {Qf:Expr} {f:HJ} {args:List Expr} {fv:Hl} {rs:List PV} {fd:Ku}
section
theorem tw (hp:gX xs=H7 c) (ho:bS ok s.heap) (h1:Sys s.heap) (r:av C.prog C.w ok s.heap xs vs):
  WP (Hj C.prog C.w) A (KG (.type "range") vs) (Ev C ok c s) s:=by
 have fin: ∀(a b:Int) (t u c k:NX),Ev C ok (.range a b) s (.ref s.heap.objs.size) {s with heap:=s.heap.push {cls:= .type "range",dict:=H9,data:= .fields #[.int a t,.int b u,.int 1 c],slots:= #[]},toks:=k}:=λa b t u c k=>
  ⟨.pushed _ _ _,_,_,_,_,rfl,ho _ (Hm _),h1.ne (ca _),HL _ rfl⟩
 cases xs with
 |nil=>exact a9 hp
 |cons x xs=>
  obtain⟨v,_,rfl,r,q⟩:=r;cases xs with
  |nil=>
   cases (show _=[]from q);refine iu hp r λn t hp=> ?_;cases hp;exact call_range_1 (fin _ _ _ _ _ _)
  |cons y ys=>
   obtain⟨u,_,rfl,r',q⟩:=q;refine iu hp r λa t hp=>iu hp r' λb t' hp=>on hp q λhp=> ?_;cases hp;exact call_range_2 (fin _ _ _ _ _ _)
theorem iG (ho:bS ok s.heap) (h1:Sys s.heap) (k:HK s.heap h') (sz:s.heap.objs.size<=h'.objs.size)
  (hl:h'.get? s.heap.objs.size=H7 {cls:= .type "list",dict:=H9,data:= .seq vs.toArray n,slots:= #[]}) (q:av C.prog C.w ok h' xs vs):Ev C ok (.list xs) s (.ref s.heap.objs.size) {s with heap:=h',toks:=tk}:=
 ⟨⟨k,sz,λ_ _ e=>e,rfl⟩,_,vs,rfl,ho _ (Hm _),h1.ne (ca _),⟨_,hl⟩,q⟩
theorem wf {x:PV} {v:Hl} (hA:A.handled=H9) (hp:lm x=H7 c) (ho:bS ok s.heap) (h1:Sys s.heap) (r:Rep C.prog C.w ok s.heap x v):
  WP (Hj C.prog C.w) A (KG (.type "list") [v]) (Ev C ok c s) s:=by
 cases x with
 |list xs=>
  obtain⟨a,vs,rfl,_,_,⟨n,e⟩,q⟩:=r;exact ba hp λQ7=>WP.size (call_list_seq a (.inl rfl) e rfl rfl (λh' c' hk hl sz=>iG (tk:=s.toks) ho h1 (HK.of hk) sz hl (q.keep (HK.of hk))) (by rw [HO,q.length];exact Q7))
 |str x=>
  obtain⟨t,rfl⟩:=r;refine ba (P:=λc=>WP _ A _ (Ev C ok c s) s) hp λQ7=>WP.size (call_list_str hA x t (λh' tk SO c' hk hl Rc sz=>iG (vs:=SO.toList) ho h1 (HK.of hk) sz (by simpa using hl) (kG ?_ λi y v hy hv=> ?_)) Q7)
  ·rw [Hf,gq,Hf]
   exact Rc.1.symm
  ·obtain⟨ch,hch,rfl⟩:=nB hy
   obtain⟨c2,u,h2,h3⟩:=Rc.2 i v (by simpa using hv)
   exact⟨u,Hg (h2.symm.trans hch)▸h3⟩
 |range lo hi=>
  obtain⟨a,t,u,c,rfl,_,_,l⟩:=r;refine aL (P:=λc=>WP _ A _ (Ev C ok c s) s) hp λxs hx=> ?_;obtain⟨hc,rfl⟩:=ah hx;haveI hn:Nx lo hi 1=((hi-lo).toNat:Int):=by rw [rangeSize_one];split<;>lia
  refine WP.size (call_list_range hA l (small_one (by exact Kt (by decide) hc.1) (by exact JA hc.2.1 (by decide)) (by exact Kt (by decide) hc.2.2.1) (by exact JA hc.2.2.2 (by decide))) hn (by lia) λh' tk SO c' hk hl Rc sz=>iG (vs:=SO.toList) ho h1 (HK.of hk) sz hl (kG ?_ λi y v hy hv=> ?_))
  ·rw [Hf,iz,<-Rc.1];rfl
  ·simp only [HQ,HG]at hy
   obtain⟨k,QO,rfl⟩:=hy;obtain⟨t,rfl⟩:=Rc.2 i v (by simpa using hv)
   exact⟨t,by rw [iA _ _ _ _ QO,Pv]⟩
 |_=>exact a9 hp
theorem ja {slice:Expr} {P:Hl->Hl->Hh->Prop}
  (h:WP (Hj C.prog C.w) A (IY Qf Q5) (λo s₁=>WP (Hj C.prog C.w) A (IY slice Q5) (λi s₂=> ∃T id,K1 (.type T) "__getitem__" =pure (H7 (.builtin id))/\s₂.TypeIs o T/\WP (Hj C.prog C.w) A (PN o i) (Ev C ok r s) s₂) s₁) s):
  WP (Hj C.prog C.w) A (IY (.Subscript Qf slice pos) Q5) (Ev C ok r s) s:=by
 rw [eval_Subscript];refine WP.then h λo s₁ h₁=>WP.then (WP.hold h₁) λi s₂ ⟨T,id,hl,hT,hg⟩=>WP.at ?_;refine He ?_;rw [getitemInPython_of_ne hT.not_modules];refine He (Mb hT hl ?_);haveI fin:WP (Hj C.prog C.w) A (subscripted slice Hb o i) (λr' s₃=>WP (Hj C.prog C.w) A (OT Qf o r'>>=λ_=>pure r') (Ev C ok r s) s₃) s₂:=by
  haveI body: ∀r' s₃,Ev C ok r s r' s₃->WP (Hj C.prog C.w) A (OT Qf o r'>>=λ_=>pure r') (Ev C ok r s) s₃:=λr' s₃ h₃=>WP.bind (wpAny_letTemporaryGo (Hi h₃));have op: ∀{l:List Hl},WP (Hj C.prog C.w) A (operate l (PN o i)) (λr' s₃=>WP (Hj C.prog C.w) A (OT Qf o r'>>=λ_=>pure r') (Ev C ok r s) s₃) s₂:=WP.oper (hg.mono body);cases slice with
  |Slice a b c p=>cases c<;>exact op
  |_=>exact op
 exact Hi (He fin)
theorem kM (E:cx Q5 ns) (hx:aB f=Hd) (hk:fw (ns.lookup f)=2) (hH:HK C.H s.heap) (L:cG C.H f fv)
  (Qm:bU C A Q5 ok args rs s)
  (Wf:(∀pos args,(args.any (·.1))=Hb->WP (Hj C.prog C.w) A (Oc fv Hd args []) (λa s₁=>a.kw=[]/\HK s.heap s₁.heap/\WP (Hj C.prog C.w) A (KG fv a.pos) (Ev C ok r s) s₁) s->WP (Hj C.prog C.w) A (OV pos fv [] args []) (Ev C ok r s) s))
  (Us: ∀s₁ vs,Ext s s₁->av C.prog C.w ok s₁.heap rs vs->WP (Hj C.prog C.w) A (KG fv vs) (Ev C ok r s₁) s₁):
  WP (Hj C.prog C.w) A (IY (.Call (.Name f p) args [] pos) Q5) (Ev C ok r s) s:=by
 refine N1 rfl (cD E hx hk hH L ?_);refine Wf pos _ ?_ ?_
 ·rw [eN];exact fV Qm.1
 ·refine bj (by rw [bX];exact Qm.1) ((Qm.2 pos).mono λvs s₁ ⟨x,q⟩=>⟨rfl,x.keep,(Us s₁ vs x q).mono λv s₂ ⟨x₂,r₂⟩=>⟨x.trans x₂,r₂⟩⟩)
theorem jN (hf: ∀a,fv≠ .ref a): ∀pos args,(args.any (·.1))=Hb->WP (Hj C.prog C.w) A (Oc fv Hd args []) (λa s₁=>a.kw=[]/\HK s.heap s₁.heap/\WP (Hj C.prog C.w) A (KG fv a.pos) (Ev C ok r s) s₁) s->WP (Hj C.prog C.w) A (OV pos fv [] args []) (Ev C ok r s) s:=
 λpos args hp h=>aU hf hp (h.mono λa s₁ ⟨h1,_,h2⟩=>by rw [h1];exact h2)
theorem zq {f:Hw} (hH:HK C.H s.heap) (ho:C.H.get? f=H7 o) (hd:o.data= .func fd): ∀pos args,(args.any (·.1))=Hb->
  WP (Hj C.prog C.w) A (Oc (.ref f) Hd args []) (λa s₁=>a.kw=[]/\HK s.heap s₁.heap/\WP (Hj C.prog C.w) A (KG (.ref f) a.pos) (Ev C ok r s) s₁) s->WP (Hj C.prog C.w) A (OV pos (.ref f) [] args []) (Ev C ok r s) s:=
 λpos args hp h=>Od (o:=o) (fd:=fd) (h.mono λa s₁ ⟨h1,h2,h3⟩=>⟨⟨(cz hd).keep (h2 _) ((cz hd).keep (hH _) ho),hd⟩,by rw [h1];exact h3⟩)
theorem AW {o:Expr} {m:HJ} {k:ME} {VS:Jq} {a:PV} (hm:o4 m=H7 k) (Tv:qF o=Hd) (UC:few args=Hd) (QG:(VS.endLine==pos.line)=Hd)
  (ho:WP (Hj C.prog C.w) A (IY o Q5) (Ev C ok a s) s) (Qm: ∀s₁,Ext s s₁->bU C A Q5 ok args rs s₁) (hp:pme k a rs=H7 r) (Rj:bS ok s.heap) (Ym:Sys s.heap):
  WP (Hj C.prog C.w) A (IY (.Call (.Attribute o m VS) args [] pos) Q5) (Ev C ok r s) s:=by
 obtain⟨T,id,M,hM⟩:=CO hp;haveI hb:attributeBase o m Q5 (IY o Q5)=IY o Q5:=by
  cases o with
  |Call f as ks p=>
   cases f with
   |Name=>
    cases as with
    |nil=>
     cases ks with
     |nil=>cases Tv
     |cons=>rfl
    |cons=>rfl
   |_=>rfl
  |_=>rfl
 haveI Ti:args.length<=10:=by simpa [few]using UC
 refine Lr hb ?_ QG (ho.mono λov s₁ ⟨x₁,ra⟩=> ?_)
 ·haveI h1:=(Qm s (.refl s)).1
  rw [bX,h1];exact decide_eq_true (Hk Ti (by decide):args.length<30)
 ·obtain⟨hT,hr,Us⟩:=hM C.prog C.w ok s₁ ov ra
  refine⟨T,id,M.pa,tz hm▸M.sl,M.ty,hT,hr, ?_⟩;have H:=Qm s₁ x₁;refine aU (λb e=>by cases e) (by rw [eN];exact fV H.1) ?_
  refine bj (by rw [bX];exact H.1) ((H.2 pos).mono λvs s₂ ⟨x₂,q⟩=> ?_)
  exact(Us A s₂ vs (Rj.keep (H8 x₁.size x₂.size)) (Ym.keep (x₁.keep.trans x₂.keep)) (ra.keep x₂.keep) q).mono λv s₃ ⟨x₃,r₃⟩=>⟨(x₁.trans x₂).trans x₃,r₃⟩
end
theorem gG {g:Nat} (x:h.IsGen a g) (k: ∀o,vis h a=H7 o->vis h' a=H7 o):h'.IsGen a g:=by obtain⟨o,nm,qn,e,c,d,r⟩:=x;exact⟨o,nm,qn,dt k e d (λq=>nomatch c.symm.trans q),c,d,r⟩
variable {E:Hl->Hh->Prop} {TN:String}
section
variable {S:Hw} {T:Expr->Prop} {tgt:Expr}
theorem vz {v:Hl} {Q:Unit->Hh->Prop} (L:IsL s.heap S vs) (hl:vs.length<=Hz) (hQ: ∀h',IsL h' S (vs++[v])->Iz S s.heap h'->Q () {s with heap:=h'}):
  Im (Hj prog w) A (N0 S (·.push v)) Q E s:=by
 obtain⟨n,ho⟩:=L;obtain⟨n',hd⟩:=Obj.data_mapSeq (o:={cls:= .type "list",data:= .seq vs.toArray n}) rfl (·.push v)
 have e:(Ic (·.push v) {cls:= .type "list",data:= .seq vs.toArray n}:Oh)={cls:= .type "list",data:= .seq (vs++[v]).toArray n'}:=by
  simp only [Ic,List.push_toArray]at hd ⊢
  rw [hd]
 exact Ma ho rfl (hQ _ ⟨n',(IX _ ho (by rw [e];rfl)).trans (congrArg H7 e)⟩ (JB ..)) (by simpa using hl) (by simpa using hl)
theorem z3 (it:jU prog w A.in1 H I Wg T St) (hT:T tgt) (Up: ∀v,Iu tgt (.ref I) v=pure ()) (hSH:vis H S=H9) (Uy:Sys H): ∀(xs done:List PV) (vs:List Hl) (okc:Hw->Prop) (W:List Hw) (s:Hh),
  St okc xs W s->IsL s.heap S vs->av prog w okc s.heap done vs-> ¬okc S->S∉W->S<s.heap.objs.size->bS okc s.heap->HK H s.heap->(∀b∈W,vis H b=H9)->done.length+xs.length<=Hz->
  (∀(s':Hh) (Qw:List Hl) (ok':Hw->Prop) (W':List Hw),(∀b∈W,b∈W')->(∀b∈W',b∈W∨s.heap.objs.size<=b)->(∀b o,b≠S->b∉W'->vis s.heap b=H7 o->vis s'.heap b=H7 o)->s.heap.objs.size<=s'.heap.objs.size->(∀(i:Nat) g,i∉Wg->s.gens[i]? =H7 g->s'.gens[i]? =H7 g)->s'.os=s.os->
   (∀b,ok' b->okc b)->IsL s'.heap S Qw->av prog w ok' s'.heap (done++xs) Qw->R (.ok (.ret .none)) s')->
  PU (Hj prog w) A (.builtin "list.extend.loop" ⟨[.ref S,.ref I,.none],[]⟩) R s:=by
 intro xs;induction xs with
 |nil=>
  intro done vs okc W s QR L q hS Y1 Qp ho hH Xa Q7 hR;refine OH NZ ?_;rw [M_ KJ _];show Im _ A.in1 (Lb (.ref I)>>=_) _ _ s;refine He (WP.low ((it.done QR).mono λr s' ⟨hr,K⟩=> ?_));subst hr;refine Hi (hR s' vs okc W (λb hb=>hb) (λb hb=> .inl hb) (λb o _ hb e=>K.keep b o hb e) K.size K.gens K.os (λ_ h=>h) (L.mono λo e=>K.keep S o Y1 e) ?_);rw [IS];exact q.mono (λ_ h _=>h) λb hb o e=>K.keep b o (λh=>(it.own QR b h).2 hb) e
 |cons x xs ih=>
  intro done vs okc W s QR L q hS Y1 Qp ho hH Xa Q7 hR;refine OH NZ ?_;rw [M_ KJ _];show Im _ A.in1 (Lb (.ref I)>>=_) _ _ s;refine He (WP.low ((it.next hT ho (Uy.keep hH) QR).mono λr s₁ ⟨v,W₁,hr,h1,h2,K,rv,hlet⟩=> ?_))
  subst hr;rw [Up]at hlet;show Im _ A.in1 ((pure ():J_ Unit)>>=λ_=>N0 S (·.push v)>>=λ_=>again (.builtin "list.extend.loop" ⟨[.ref S,.ref I,.none],[]⟩)) _ _ s₁
  refine He (WP.low (hlet.mono λ_ s₂ ⟨K₂,hst₂⟩=> ?_));have Sj:S∉W₁:=λh=>(h2 S h).elim Y1 λh=>Hr _ (Ha Qp h);have TB: ∀b,b∈W₁->b<s.heap.objs.size->b∈W:=λb h hb=>(h2 b h).resolve_right λh=>Hr _ (Ha hb h);have k2: ∀b o,b∉W₁->vis s.heap b=H7 o->vis s₂.heap b=H7 o:=λb o hb e=>K₂.keep b o hb (K.keep b o (λh=>hb (h1 b h)) e);have L₂:IsL s₂.heap S vs:=L.mono λo e=>k2 S o Sj e;have sz:s.heap.objs.size<=s₂.heap.objs.size:=H8 K.size K₂.size;simp only [Hv]at Q7;refine He (vz L₂ (by rw [q.length];exact H8 (HD _ _) Q7) λh' L' hs=> ?_)
  have hp:=jG L₂;have up: ∀b o,b≠S->vis s₂.heap b=H7 o->vis h' b=H7 o:=λb o hb e=>ax hs hp hb e;have V4:s₂.heap.objs.size=h'.objs.size:=hs.1.symm;have okn: ∀b,okc b->b≠S:=λb hb e=>hS (e▸hb);have To: ∀b∈W₁,vis H b=H9:=λb hb=>(h2 b hb).elim (Xa b) λh=>hH.none (bq h);have Xd:HK H h':=λb o e=>up b o (λh=>by rw [h,hSH]at e;cases e) (k2 b o (λh=>by rw [To b h]at e;cases e) (hH b o e))
  refine Hi ⟨NF KJ _,ih (done++[x]) (vs++[v]) (okW okc W₁) W₁ {s₂ with heap:=h'} ?_ L' ?_ (λh=>hS h.1) Sj ?_ ?_ Xd To ?_ λs' Qw ok' W' g0 g1 g2 g3 g4 g5 g6 g7 g8=> ?_⟩
  ·exact it.frame hst₂ (λb o hb e=>up b o (λh=>hb.elim (λh'=>hS (h▸h'.1)) λh'=>Sj (h▸h')) e) (λb o h _=>h) (λb hb h=>h.2 hb) (λi g e=>e) rfl Xd (Hu V4)
  ·refine av.snoc (q.mono (λb hb ⟨o,e⟩=>⟨hb,λh=>(it.own QR b (TB b h (ao e))).2 hb⟩) λb hb o e=>up b o (okn b hb) (k2 b o (λh=>(it.own QR b (TB b h (ao e))).2 hb) e)) ?_
   exact rv.mono (λb hb _=>hb) λb hb o e=>up b o (okn b hb.1) (K₂.keep b o hb.2 e)
  ·show S<h'.objs.size
   rw [<-V4];exact Ha Qp sz
  ·intro b hb
   have QP:s₂.heap.objs.size<=b:=V4▸hb;exact⟨ho b (H8 sz QP),λh=>Hr _ (Ha (it.own hst₂ b h).1 QP)⟩
  ·simp only [Hn,Hv,I0];lia
  ·refine hR s' Qw ok' W' (λb hb=>g0 b (h1 b hb)) (λb hb=> ?_) (λb o hb Xb e=>g2 b o hb Xb (up b o hb (k2 b o (λh=>Xb (g0 b h)) e))) ?_ (λi g hi e=>g4 i g hi (K₂.gens i g hi (K.gens i g hi e))) (g5.trans (K₂.os.trans K.os)) (λb hb=>(g6 b hb).1) g7 (by rw [HW]at g8;exact g8)
   ·rcases g1 b hb with h|h
    ·exact h2 b h
    ·exact .inr (H8 sz (V4▸h))
   ·exact H8 (V4▸sz) g3
theorem AG {okc:Hw->Prop} {W:List Hw} (it:jU prog w A.in1.in1 H I Wg T St) (hT:T tgt) (Up: ∀v,Iu tgt (.ref I) v=pure ()) (Uy:Sys H) (QR:St okc xs W s)
  (TD: ∀s':Hh,(∀o,vis s.heap I=H7 o->vis s'.heap I=H7 o)->s'.TypeIs (.ref I) TN) (hI:I<s.heap.objs.size) (h2:(Ly TN==Ly "list")=Hb) (h3:(Ly TN==Ly "tuple")=Hb)
  (Te:K1 (.type TN) "__len__" =pure H9) (Se:K1 (.type TN) "__length_hint__" =pure H9)
  (Ri: ∀(s':Hh) (Q:Hl->Hh->Prop) (E:Hl->Hh->Prop),(∀o,vis s.heap I=H7 o->vis s'.heap I=H7 o)->Q (.ref I) s'->Im (Hj prog w) A.in1.in1 (MQ (.ref I)) Q E s')
  (ho:bS okc s.heap) (hH:HK H s.heap) (Xa: ∀b∈W,vis H b=H9) (Q7:xs.length<=Hz)
  (hQ: ∀(s':Hh) (Qw:List Hl) (ok':Hw->Prop) (W':List Hw),(∀b∈W',b∈W∨s.heap.objs.size<=b)->(∀b o,b∉W'->vis s.heap b=H7 o->vis s'.heap b=H7 o)->s.heap.objs.size<=s'.heap.objs.size->(∀(i:Nat) g,i∉Wg->s.gens[i]? =H7 g->s'.gens[i]? =H7 g)->s'.os=s.os->
   (∀b,ok' b->okc b)->IsL s'.heap s.heap.objs.size Qw->av prog w ok' s'.heap xs Qw->Q (.ref s.heap.objs.size) s'):WP (Hj prog w) A (KG (.type "list") [.ref I]) Q s:=by
 refine callType_codes (Q₁:=λobj s₁=>obj= .ref s.heap.objs.size/\s₁={s with heap:=s.heap.push {cls:= .type "list",data:= .seq #[]}}) PySem.F.called_list (PySem.F.typeCall_list_1 _) PySem.F.entry_list_init (code_list_new _ ⟨rfl,rfl⟩) λobj s₁ h₁=> ?_
 obtain⟨rfl,rfl⟩:=h₁;obtain⟨S,TK⟩: ∃S,S=s.heap.objs.size:=⟨_,rfl⟩;rw [<-TK]at hQ ⊢
 have hS:(s.heap.push {cls:= .type "list",data:= .seq #[]}).get? S=H7 {cls:= .type "list",data:= .seq #[]}:=TK▸HL _ rfl;refine⟨⟨_,hS,rfl⟩,PySem.F.args_list_init_2 _ _, ?_⟩;have h1:Nz (.ref S) (.ref I)=Hb:=by simp [Nz,TK,MU hI]
 show Im _ A.in1.in1 (do let TB<-NL (.ref S);Builtin.List.listUpdate (.ref S) (λ_=> #[]);letGo TB.toList.reverse;Lw (.ref S) (.ref I) .none) _ _ _
 refine He ?_;unfold NL;refine He (Mr hS rfl (Hi ?_));show Im _ A.in1.in1 (N0 S (λ_=> #[])>>=λ_=>letGo (#[]:Array Hl).toList.reverse>>=λ_=>Lw (.ref S) (.ref I) .none) _ _ _;refine He (Ma hS rfl ?_);have Ue:=IX (Ic (λ_=>(#[]:Array Hl))) hS rfl;refine He (wpAny_letGo ?_);have kp: ∀(h':IL),(∀b o,b≠S->(s.heap.push {cls:= .type "list",data:= .seq #[]}).get? b=H7 o->h'.get? b=H7 o)-> ∀b o,vis s.heap b=H7 o->vis h' b=H7 o:=λh' k b o e=>by have hb:b<s.heap.objs.size:=ao e;exact cy (W:=λ_=>False) (λb o n e=>k b o (λq=>Hr _ (TK▸q▸II e)) (HV _ e)) (λb o q e=>q.elim) (λq=>q) e
 have u: ∀(h:IL) f b o,b≠S->h.get? b=H7 o->(h.update S f).get? b=H7 o:=λh f b o hb e=>(Heap.get?_update_other _ _ (Kv hb)).trans e;have k2:=kp _ (λb o hb e=>u _ (Ic (λ_=>(#[]:Array Hl))) b o hb e);unfold Lw;refine He (wpAny_typeOf (TD _ λo e=>k2 I o e) ?_);simp only [h1,h2,h3,Nj,Ie,if_false];refine He (Ri _ _ _ (λo e=>k2 I o e) ?_);refine He (I_ ?_);unfold Builtin.List.listLengthHint;refine He (Mb (TD _ λo e=>k2 I o e) Te ?_);show Im _ A.in1.in1 (specialOf (LV I) (HH "__length_hint__")>>=_) _ _ _;refine He (Mb (TD _ λo e=>k2 I o e) Se ?_);refine Hi ?_;show Im _ A.in1.in1 (rule "list.extend.makes-room" >>=λ_=>Builtin.List.listTouch (.ref S)>>=λ_=>again (.builtin "list.extend.loop" ⟨[.ref S,.ref I,.none],[]⟩)) _ _ _;refine He (Ms ?_);refine He ?_;show Im _ A.in1.in1 (N0 S (·.push .none)>>=λ_=>N0 S (·.pop)) _ _ _
 refine He (Ma Ue rfl ?_);have Ud:=IX (Ic (·.push Nf)) Ue rfl
 refine Ma (hz:=by seq_fits) Ud rfl ?_
 have Wh:=IX (Ic (·.pop)) Ud rfl
 have k4:=kp _ (λb o hb e=>u _ (Ic (·.pop)) b o hb (u _ (Ic (·.push Nf)) b o hb (u _ (Ic (λ_=>(#[]:Array Hl))) b o hb e)))
 have sz: ∀(h:IL) f,(h.update S f).objs.size=h.objs.size:=λh f=>(JB (h:=h) (a:=S) (f:=f)).1;have szp:(s.heap.push {cls:= .type "list",data:= .seq #[]}).objs.size=s.heap.objs.size+1:=I8 ..
 have RP:((((s.heap.push {cls:= .type "list",data:= .seq #[]}).update S (Ic (λ_=>(#[]:Array Hl)))).update S (Ic (·.push Nf))).update S (Ic (·.pop))).objs.size=s.heap.objs.size+1:=by rw [sz,sz,sz,szp]
 have Vw: ∀n,s.heap.objs.size+1<=n->S<=n:=λn h=>TK▸Lm h;have Y0:vis s.heap S=H9:=bq (Hu TK.symm);refine Hi ⟨NF KJ _,z3 (A:=A.in1) it hT Up (hH.none Y0) Uy xs [] [] (λb=>okc b/\b≠S) W _ (it.frame QR (λb o _ e=>k4 b o e) (λb o h e=>⟨h,λq=>by rw [q,Y0]at e;cases e⟩) (λb hb h=>(it.own QR b hb).2 h.1) (λi g e=>e) rfl (hH.trans k4) ?_) ⟨_,Wh⟩ rfl (λh=>h.2 rfl) (λh=>Hr _ (TK▸(it.own QR S h).1)) ?_ (λb hb=> ?_) (hH.trans k4) Xa (by simpa using Q7) λs' Qw ok' W' g0 g1 g2 g3 g4 g5 g6 g7 g8=> ?_⟩
 ·show s.heap.objs.size<=_
  rw [RP];exact LM _
 ·show S<_
  rw [RP,TK];exact HR _
 ·have hb:s.heap.objs.size+1<=b:=RP▸hb
  exact⟨ho b (Lm hb),λq=>Hr _ (Ha (HR _) (TK▸q▸hb))⟩
 ·refine⟨rfl,hQ s' Qw ok' W' (λb hb=>(g1 b hb).imp id λh=>Vw b (RP▸h:s.heap.objs.size+1<=b)) (λb o hb e=>g2 b o (λq=>by rw [q,Y0]at e;cases e) hb (k4 b o e)) (Vw _ (RP▸g3:s.heap.objs.size+1<=_)) (λi g hi e=>g4 i g hi e) g5 (λb hb=>(g6 b hb).1) g7 g8⟩
end
def ZH (h:IL) (z TI TO T:Hw) (b:Bool):Prop:=h.get? z=H7 {cls:= .type "zip",dict:=H9,data:= .fields #[N4 T,.bool b,.bool Hb,.ref TI,.ref TO],slots:= #[]}
variable {z TI TO T i1 i2 l1 l2:Hw} {k1 k:Nat} {ys:Array Hl}
section
theorem tB {k:Option Oh->J_ α} {Q:α->Hh->Prop} (ho:s.heap.get? a=H7 o) (h:Im (Hj prog w) A (k (H7 o)) Q E s):Im (Hj prog w) A (Nr a>>=k) Q E s:=λΓ p hΓ=>by show Kz _ Γ (k (s.heap.get? a)) _ _ p s;rw [ho];exact h Γ p hΓ
theorem qE {b:Bool} {Q:Bool->Hh->Prop} (hz:ZH s.heap z TI TO T b) (hT:s.heap.get? T=H7 o)
  (hQ: ∀h',ZH h' z TI TO T Hd->Iz z s.heap h'->Q Hb {s with heap:=h'}):Im (Hj prog w) A (Jw (.ref z)) Q E s:=by
 unfold Jw;refine He (MJ hz rfl (x:=N4 T) rfl ?_);show Im _ _ (Nr T>>=_) _ _ _;refine tB hT ?_;rw [if_neg (show¬(H7 o).isNone=Hd from J2)];refine He (MJ hz rfl (x:= .bool b) rfl ?_);cases b with
 |true=>
  rw [if_neg (by decide)]
  exact Hi (hQ s.heap hz ⟨rfl,λ_ _=>rfl⟩)
 |false=>
  rw [if_pos (by decide)]
  refine He (wpAny_setField_rec hz (by simp) λh₁ Su QA=> ?_)
  exact Hi (hQ h₁ Su QA)
theorem xA {b:Bool} {k2:Nat} {xs:Array Hl} {x y:Hl} (hz:ZH s.heap z TI TO T b) (hT:s.heap.get? T=H7 o) (T0:Pa s.heap TI (.ref i1) (.ref i2))
  (h1:s.heap.IsListIter i1 l1 k1) (h2:s.heap.IsListIter i2 l2 k2) (RM:s.heap.IsList l1 xs) (SE:s.heap.IsList l2 ys) (hx:xs[k1]? =H7 x) (hy:ys[k2]? =H7 y) (a1:TI≠z) (a2:i1≠z) (a3:i2≠z) (a4:l1≠z) (a5:l2≠z) (a6:i1≠i2) (a7:l1≠i1) (a8:l2≠i1)
  (hQ: ∀h',ZH h' z TI TO T Hd->h'.IsListIter i1 l1 (k1+1)->h'.IsListIter i2 l2 (k2+1)->h'.objs.size=s.heap.objs.size->(∀c o,c≠z->c≠i1->c≠i2->s.heap.get? c=H7 o->h'.get? c=H7 o)->
   Q (.ref h'.objs.size) {s with heap:=h'.push {cls:= .type "tuple",data:= .seq #[x,y]}}):
  Im (Hj prog w) A (MP.«zip.__next__» ⟨[.ref z],[]⟩) (λfin s'=> ∃v,fin= .done (.ret v)/\Q v s') E s:=by
 show Im _ _ (field (.ref z) 2>>=_) _ _ _;refine He (MJ hz rfl (x:= .bool Hb) rfl ?_);show Im _ _ (field (.ref z) 3>>=_) _ _ _;refine He (MJ hz rfl (x:= .ref TI) rfl ?_);refine He (Mr T0 rfl ?_);show Im _ _ (Jw (.ref z)>>=_) _ _ _;refine He (qE hz hT λh₁ Su QA=> ?_);rw [if_neg (by decide)]
 dsimp only;refine He ?_;simp only [PC,K3,M7];refine He (He (I_ ?_));show Im _ _ (Lk (.ref i1)>>=λx=>pure (H7 x)) _ _ _;refine He (PK (h1.extBut QA.extBut a2) (RM.extBut QA.extBut a4) hx λh₂ Wl QF=>Hi (Hi ?_));dsimp only;refine He (He (I_ ?_));show Im _ _ (Lk (.ref i2)>>=λx=>pure (H7 x)) _ _ _;refine He (PK ((h2.extBut QA.extBut a3).extBut QF.extBut (Kv a6)) ((SE.extBut QA.extBut a5).extBut QF.extBut a8) hy λh₃ Wk Sv=>Hi (Hi ?_));dsimp only;refine Hi ?_;dsimp only;refine He (wpAny_newTuple (hsz:=by simp [KV]) ?_)
 have sz:h₃.objs.size=s.heap.objs.size:=by rw [Sv.1,QF.1,QA.1]
 refine Hi ⟨_,rfl,hQ h₃ (Sv.extBut _ _ (Kv a3) (QF.extBut _ _ (Kv a2) Su)) (Wl.extBut Sv.extBut a6) Wk sz λc o c1 c2 c3 e=>Sv.extBut _ _ c3 (QF.extBut _ _ c2 (QA.extBut _ _ c1 e))⟩
theorem zM {b:Bool} {xs:Array Hl} {Q:Fin->Hh->Prop} (hh:A.handled=H9) (hz:ZH s.heap z TI TO T b) (hT:s.heap.get? T=H7 o) (T0:Pa s.heap TI (.ref i1) (.ref i2))
  (h1:s.heap.IsListIter i1 l1 k1) (RM:s.heap.IsList l1 xs) (hx:xs[k1]? =H9) (a2:i1≠z) (a4:l1≠z)
  (hE: ∀h' e,(∀c o,c≠z->c≠i1->s.heap.get? c=H7 o->h'.get? c=H7 o)->(∃o,h'.get? e=H7 o/\o.cls= .type "StopIteration")->E (.ref e) {s with heap:=h'}):
  Im (Hj prog w) A (MP.«zip.__next__» ⟨[.ref z],[]⟩) Q E s:=by
 show Im _ _ (field (.ref z) 2>>=_) _ _ _;refine He (MJ hz rfl (x:= .bool Hb) rfl ?_);show Im _ _ (field (.ref z) 3>>=_) _ _ _;refine He (MJ hz rfl (x:= .ref TI) rfl ?_);refine He (Mr T0 rfl ?_);show Im _ _ (Jw (.ref z)>>=_) _ _ _;refine He (qE hz hT λh₁ Su QA=> ?_);rw [if_neg (by decide)]
 dsimp only;refine He ?_;simp only [PC,K3,M7];refine He (He (I_ ?_));show Im _ _ (Lk (.ref i1)>>=λx=>pure (H7 x)) _ _ _;exact He (wpAny_nextOf_list_end hh (h1.extBut QA.extBut a2) (RM.extBut QA.extBut a4) hx λh₂ e QF he=>hE h₂ e (λc o c1 c2 x=>QF _ _ c2 (QA.extBut _ _ c1 x)) he)
def uY (ok:Hw->Prop) (h:IL) (z TI TO:Hw):Prop:=(IsZip h z TI TO .none/\Pa h TO .none .none)∨ ∃T b o,ZH h z TI TO T b/\vis h T=H7 o/\ok T
theorem uH (e:vis h a=H7 o): ∃o,h.get? a=H7 o:=by
 cases q:h.get? a with
 |none=>rw [xO q]at e;cases e
 |some o=>exact⟨o,rfl⟩
theorem xz {xs:Array Hl} {x y:Hl} {Q:Option Hl->Hh->Prop} (D:ZipApart z TI TO i1 i2 l1 l2) (Z:uY ok s.heap z TI TO) (T0:Pa s.heap TI (.ref i1) (.ref i2))
  (h1:s.heap.IsListIter i1 l1 k) (h2:s.heap.IsListIter i2 l2 k) (RM:s.heap.IsList l1 xs) (SE:s.heap.IsList l2 ys) (hx:xs[k]? =H7 x) (hy:ys[k]? =H7 y) (QI:ok s.heap.objs.size) (hz: ¬ok z) (hi1: ¬ok i1) (Vd: ¬ok i2) (X_: ¬ok TO) (hp: ∀b,b∈[z,TO,i1,i2]-> ∀o,s.heap.get? b=H7 o->aK o) (nTO: ∃o,s.heap.get? TO=H7 o/\bE o)
  (hQ: ∀h',uY ok h' z TI TO->h'.IsListIter i1 l1 (k+1)->h'.IsListIter i2 l2 (k+1)->Pa h' s.heap.objs.size x y->(∃o,h'.get? TO=H7 o/\bE o)->
   (∀c o,c∉[z,TO,i1,i2]->s.heap.get? c=H7 o->h'.get? c=H7 o)->Q (H7 (.ref s.heap.objs.size)) {s with heap:=h'}):Im (Hj prog w) A (Lb (.ref z)) Q E s:=by
 have RL: ∀{c:Hw},c∉[z,TO,i1,i2]->c≠z/\c≠TO/\c≠i1/\c≠i2:=λh=>by simpa using h
 rcases Z with⟨e,eT⟩|⟨T,b,o,e,hT,okT⟩
 ·exact wpAny_pyNext_zip_item D e T0 eT h1 h2 RM SE hx hy λh' a1 a2 a3 a4 a5 a6 a7=>
   hQ h' (.inr ⟨_,Hb,_,a1,(bZ (o:={cls:= .type "tuple",data:= .seq #[x,y]}) rfl).vis a5,QI⟩) a3 a4 a5 ⟨_,a2,bZ rfl⟩ λc o hc=>a7 c o (RL hc).1 (RL hc).2.1 (RL hc).2.2.1 (RL hc).2.2.2
 ·have Uv:s.TypeIs (.ref z) "zip" :=⟨_,e,rfl⟩
  obtain⟨o',g⟩:=uH hT;unfold Lb;refine He (wpAny_attempt (M' (name:=HH "__next__") Uv F.slot_zip_next
   (On F.slot_zip_next Uv F.entry_zip_next
    (xA (Q:=λv s'=>Im (Hj prog w) A (pure (H7 v)) Q E s') e g T0 h1 h2 RM SE hx hy D.TIz D.i1z D.i2z D.l1z D.l2z D.i12 D.l1i1 D.l2i1 λh' a1 a2 a3 a4 a5=> ?_) (F.args_zip_next_1 _))))
  have sz:=a4;rw [a4];refine Hi (hQ _ (.inr ⟨T,Hd,o,HV _ a1, ?_,okT⟩) (a2.at λo e=>HV _ e) (a3.at λo e=>HV _ e) (a4▸HL _ rfl) (nTO.elim λo h=>⟨o,HV _ (a5 _ _ D.TOz D.TOi1 D.TOi2 h.1),h.2⟩) λc o hc q=>HV _ (a5 c o (RL hc).1 (RL hc).2.2.1 (RL hc).2.2.2 q));exact qa (cy (W:=λb=>b∈[z,TO,i1,i2]) (λb o n e=>a5 b o (RL n).1 (RL n).2.2.1 (RL n).2.2.2 e) (λb o q e=>hp b q o e) (λq=>by simp only [Hp,IU,or_false]at q;rcases q with rfl|rfl|rfl|rfl<;>contradiction) hT)
end
theorem xB {xs:Array Hl} {Q:Option Hl->Hh->Prop} (hh:A.handled=H9) (D:ZipApart z TI TO i1 i2 l1 l2) (Z:uY ok s.heap z TI TO) (T0:Pa s.heap TI (.ref i1) (.ref i2))
  (h1:s.heap.IsListIter i1 l1 k) (h2:s.heap.IsListIter i2 l2 k) (RM:s.heap.IsList l1 xs) (SE:s.heap.IsList l2 ys) (TU:xs[k]? =H9)
  (hQ: ∀h',(∀c o,c∉[z,TO,i1,i2]->s.heap.get? c=H7 o->h'.get? c=H7 o)->Q H9 {s with heap:=h'}):Im (Hj prog w) A (Lb (.ref z)) Q E s:=by
 have RL: ∀{c:Hw},c∉[z,TO,i1,i2]->c≠z/\c≠TO/\c≠i1/\c≠i2:=λh=>by simpa using h
 rcases Z with⟨e,eT⟩|⟨T,b,o,e,hT,okT⟩
 ·exact wpAny_pyNext_zip_end hh D e T0 eT h1 h2 RM SE (.inl TU) λh' a7=>hQ h' λc o hc=>a7 c o (RL hc).1 (RL hc).2.1 (RL hc).2.2.1 (RL hc).2.2.2
 ·have Uv:s.TypeIs (.ref z) "zip" :=⟨_,e,rfl⟩
  obtain⟨o',g⟩:=uH hT;unfold Lb;refine He (wpAny_attempt (M' (name:=HH "__next__") Uv F.slot_zip_next
   (On F.slot_zip_next Uv F.entry_zip_next
    (zM hh e g T0 h1 RM TU D.i1z D.l1z λh' e' hk he=> ?_) (F.args_zip_next_1 _))))
  obtain⟨o,ho,hc⟩:=he;refine He (wpAny_isInstance (T:= "StopIteration") (b:=Hd) ⟨o,ho,hc⟩ isSubtype_stop ?_);exact Hi (hQ _ λc o hc=>hk c o (RL hc).1 (RL hc).2.2.1)
variable {us:List Hl}
section
theorem uY.nice (Z:uY ok h z TI TO): ∃o,h.get? z=H7 o/\bE o:=
 Z.elim (λh=>⟨_,h.1,cW rfl rfl λq t h=>by injection h with h;cases h⟩) fun⟨T,b,o,h,_⟩=>⟨_,h,cW rfl rfl λq t h=>by injection h with h;cases h⟩
def ZE (prog:IG) (w:J0) (vs us:List Hl) (ok:Hw->Prop) (h:IL) (i:Nat) (x:PV):Prop:= ∃a b x1 x2,vs[i]? =H7 a/\us[i]? =H7 b/\x= .tuple [x1,x2]/\Rep prog w ok h x1 a/\Rep prog w ok h x2 b
theorem ZE.mono {x:PV} (e:ZE prog w vs us ok h i x) (ho: ∀a,ok a->(∃o,vis h a=H7 o)->ok' a) (hk: ∀a,ok a-> ∀o,vis h a=H7 o->vis h' a=H7 o):ZE prog w vs us ok' h' i x:=by obtain⟨a,b,x1,x2,e1,e2,e3,r1,r2⟩:=e;exact⟨a,b,x1,x2,e1,e2,e3,r1.mono ho hk,r2.mono ho hk⟩
structure ZSt (prog:IG) (w:J0) (z TI TO i1 i2 l1 l2:Hw) (vs us:List Hl) (n:Nat) (ok:Hw->Prop) (xs:List PV) (W:List Hw) (s:Hh):Prop where
 W:W=[z,TO,i1,i2]
 own: ∀b∈[z,TO,i1,i2],¬ok b
 okT:ok TI
 ok1:ok l1
 ok2:ok l2
 now:uY ok s.heap z TI TO
 ti:Pa s.heap TI (.ref i1) (.ref i2)
 to: ∃o,s.heap.get? TO=H7 o/\bE o
 li1:IsL s.heap l1 vs
 li2:IsL s.heap l2 us
 k: ∃k,s.heap.IsListIter i1 l1 k/\s.heap.IsListIter i2 l2 k/\k+xs.length=n/\ ∀(j:Nat) x,xs[j]? =H7 x->ZE prog w vs us ok s.heap (k+j) x
theorem ED {p:Hw->Prop} {c d:Hw} (ha:p a) (hb:p b) (hc:p c) (hd:p d): ∀x∈[a,b,c,d],p x:=I5.mpr ⟨ha,I5.mpr ⟨hb,nT hc hd⟩⟩
theorem ZSt.ni {W:List Hw} (S:ZSt prog w z TI TO i1 i2 l1 l2 vs us n ok xs W s): ∀b∈[z,TO,i1,i2],∃o,s.heap.get? b=H7 o/\bE o:=
 S.k.elim λ_ h=>ED S.now.nice S.to (wz h.1) (wz h.2.1)
theorem ZSt.move {W:List Hw} (S:ZSt prog w z TI TO i1 i2 l1 l2 vs us n ok xs W s) (k1: ∀b o,ok b∨b∈[z,TO,i1,i2]->vis s.heap b=H7 o->vis s'.heap b=H7 o) (k2: ∀b o,ok b->vis s.heap b=H7 o->ok' b) (k3: ∀b∈[z,TO,i1,i2],¬ok' b):
  ZSt prog w z TI TO i1 i2 l1 l2 vs us n ok' xs W s':=by
 have kp: ∀b,ok b∨b∈[z,TO,i1,i2]-> ∀o,bE o->s.heap.get? b=H7 o->s'.heap.get? b=H7 o:=λb hb o hn=>hn.keep λo=>k1 b o hb;have m: ∀b∈[z,TO,i1,i2],∀o,s.heap.get? b=H7 o->s'.heap.get? b=H7 o:=λb hb o e=>kp b (.inr hb) o ((S.ni b hb).elim λo' h=>Hg (h.1.symm.trans e)▸h.2) e;have hz:=m z (Hs ..);obtain⟨k,h1,h2,h3,h4⟩:=S.k;refine⟨S.W,k3,k2 _ _ S.okT ((bZ rfl).vis S.ti),S.li1.has.elim λo e=>k2 _ _ S.ok1 e,S.li2.has.elim λo e=>k2 _ _ S.ok2 e, ?_,kp _ (.inl S.okT) _ (bZ rfl) S.ti,S.to.elim λo h=>⟨o,m TO (by simp) o h.1,h.2⟩,S.li1.mono λo=>k1 _ o (.inl S.ok1),S.li2.mono λo=>k1 _ o (.inl S.ok2),
  k,h1.at λo=>m i1 (by simp) o,h2.at λo=>m i2 (by simp) o,h3,λj x hx=>(h4 j x hx).mono (λa ha h=>h.elim λo e=>k2 a o ha e) λa ha o e=>k1 a o (.inl ha) e⟩
 ·rcases S.now with⟨a,b⟩|⟨T,b,o,a,c,d⟩
  ·exact .inl ⟨hz _ a,m TO (by simp) _ b⟩
  ·exact .inr ⟨T,b,o,hz _ a,k1 _ _ (.inl d) c,k2 _ _ d c⟩
theorem Ci (hA:A.handled=H9) (D:ZipApart z TI TO i1 i2 l1 l2) (hn:n=vs.length):jU prog w A H z [] (λt=> ∀a v,Iu t (.ref a) v=pure ()) (ZSt prog w z TI TO i1 i2 l1 l2 vs us n)where
 own:=λ{ok xs W s} S b hb=>by have hb:=S.W▸hb;exact⟨(S.ni b hb).elim λo h=>II h.1,S.own b hb⟩
 frame:=λ{ok ok' xs W s s'} S k1 k2 k3 _ _ _ _=>S.move (S.W▸k1) k2 (S.W▸k3)
 next:=λ{ok x xs W s tgt} hT ho Ro S=>by
  obtain⟨k,h1,h2,h3,h4⟩:=S.k;obtain⟨a,b,x1,x2,e1,e2,rfl,r1,r2⟩:=h4 0 x rfl;cases S.W;have hp: ∀b,b∈[z,TO,i1,i2]-> ∀o,s.heap.get? b=H7 o->aK o:=λb hb o e=>((S.ni b hb).elim λo' h=>Hg (h.1.symm.trans e)▸h.2:bE o).1;refine WP.size (xz (ok:=ok) D S.now S.ti h1 h2 S.li1.il S.li2.il (x:=a) (y:=b) (by simpa using e1) (by simpa using e2) (ho _ (Hm _)) (S.own _ (by simp)) (S.own _ (by simp)) (S.own _ (by simp)) (S.own _ (by simp)) hp S.to λh' g1 g2 g3 g4 g6 g5 sz=> ?_)
  have kv: ∀b o,b∉[z,TO,i1,i2]->vis s.heap b=H7 o->vis h' b=H7 o:=λb o hb e=>cy (W:=λb=>b∈[z,TO,i1,i2]) g5 (λb o h=>hp b h o) hb e;have kn: ∀b o,ok b->vis s.heap b=H7 o->vis h' b=H7 o:=λb o hb=>kv b o λh=>S.own b h hb;have kw: ∀a,ok a->a∉[z,TO,i1,i2]:=λa ha h=>S.own a h ha;have rr: ∀{x v},Rep prog w ok s.heap x v->Rep prog w (okW ok [z,TO,i1,i2]) h' x v:=λr=>r.mono (λa ha _=>⟨ha,kw a ha⟩) λa ha o e=>kn a o ha e;have gk: ∀b,ok b-> ∀o,s.heap.get? b=H7 o->h'.get? b=H7 o:=λb hb o=>g5 b o (kw b hb);refine⟨_,_,rfl,λ_ h=>h,λ_ h=> .inl h,⟨kv,λ_ _ _ e=>e,rfl,sz⟩,⟨s.heap.objs.size,[a,b],rfl,⟨ho _ (Hm _),kw _ (ho _ (Hm _))⟩,Ro.ne (bq (Hm _)),⟨_,g4,rfl,_,rfl⟩,a,_,rfl,rr r1,b,_,rfl,rr r2,rfl⟩, ?_⟩;rw [hT];refine Hi ⟨⟨λ_ _ _ e=>e,λ_ _ _ e=>e,rfl,Hm _⟩,rfl,λb hb h=>h.2 hb,⟨S.okT,kw _ S.okT⟩,⟨S.ok1,kw _ S.ok1⟩,⟨S.ok2,kw _ S.ok2⟩, ?_,gk _ S.okT _ S.ti,g6,S.li1.mono λo=>kn _ o S.ok1,S.li2.mono λo=>kn _ o S.ok2,k+1,g2,g3, ?_,λj x hx=> ?_⟩
  ·rcases g1 with h|⟨T,b,o,a,c,d⟩
   ·exact .inl h
   ·exact .inr ⟨T,b,o,a,c,d,kw _ d⟩
  ·rw [<-h3,Hv];lia
  ·exact HS k j 1▸(h4 (j+1) x hx).mono (λa ha _=>⟨ha,kw a ha⟩) λa ha o e=>kn a o ha e
 done:=λ{ok W s} S=>by obtain⟨k,h1,h2,h3,h4⟩:=S.k;cases S.W;have hp: ∀b,b∈[z,TO,i1,i2]-> ∀o,s.heap.get? b=H7 o->aK o:=λb hb o e=>((S.ni b hb).elim λo' h=>Hg (h.1.symm.trans e)▸h.2:bE o).1;refine WP.size (xB hA D S.now S.ti h1 h2 S.li1.il S.li2.il ?_ λh' g5 sz=>⟨rfl,λb o hb e=>cy (W:=λb=>b∈[z,TO,i1,i2]) g5 (λb o h=>hp b h o) hb e,λ_ _ _ e=>e,rfl,sz⟩);rw [Ju,Ou,<-hn,<-h3];exact Hm _
end
theorem su:K1 (.type "zip") "__len__" =pure H9:=by rw [Lh,K4];kernel_rfl
theorem qY:K1 (.type "zip") "__length_hint__" =pure H9:=by rw [Lh,K4];kernel_rfl
theorem yH {ys:List PV} {R:Hl->Hh->Prop} (RM:IsL s.heap l1 vs) (SE:IsL s.heap l2 us) (ho1:ok l1) (T_:ok l2)
  (q1:av prog w ok s.heap xs vs) (q2:av prog w ok s.heap ys us) (SX:xs.length=ys.length) (ho:bS ok s.heap)
  (hR: ∀(s':Hh) (I:Hw) (W:List Hw) (St:(Hw->Prop)->List PV->List Hw->Hh->Prop),Ext s s'->(∀(A:IZ),A.handled=H9->jU prog w A H I [] (λt=> ∀a v,Iu t (.ref a) v=pure ()) St)->St (okW ok W) (nN xs ys) W s'->(∀b∈W,s.heap.objs.size<=b)->
   (∃o,s'.heap.get? I=H7 o/\bE o/\o.cls= .type "zip")->(∀(Qj:Hh) (A:IZ) (Q:Hl->Hh->Prop) (E:Hl->Hh->Prop),(∀o,vis s'.heap I=H7 o->vis Qj.heap I=H7 o)->Q (.ref I) Qj->Im (Hj prog w) A (MQ (.ref I)) Q E Qj)->R (.ref I) s'):
  WP (Hj prog w) A (KG (.type "zip") [.ref l1,.ref l2]) R s:=by
 have h1:l1<s.heap.objs.size:=by obtain⟨o,e⟩:=RM.has;exact ao e
 have h2:l2<s.heap.objs.size:=by obtain⟨o,e⟩:=SE.has;exact ao e
 refine WP.size (call_zip_2 RM.il SE.il λh' hz T0 X_ hi1 Vd hsz hk sz=> ?_);have kv: ∀b o,vis s.heap b=H7 o->vis h' b=H7 o:=λb o e=>kC hk e;have D:ZipApart (s.heap.objs.size+4) (s.heap.objs.size+2) (s.heap.objs.size+3) s.heap.objs.size (s.heap.objs.size+1) l1 l2:=by constructor<;>lia
 have TB: ∀b o,vis s.heap b=H7 o->b∉[s.heap.objs.size+4,s.heap.objs.size+3,s.heap.objs.size,s.heap.objs.size+1]:=λb o e hb=>by have:=ao e;simp only [Hp,IU,or_false]at hb;lia
 have rr: ∀{x v},Rep prog w ok s.heap x v->Rep prog w (okW ok [s.heap.objs.size+4,s.heap.objs.size+3,s.heap.objs.size,s.heap.objs.size+1]) h' x v:=λr=>r.mono (λa ha h=>h.elim λo e=>⟨ha,TB a o e⟩) λa ha o e=>kv a o e;have no: ∀{l:Hw},l<s.heap.objs.size->l∉[s.heap.objs.size+4,s.heap.objs.size+3,s.heap.objs.size,s.heap.objs.size+1]:=λh hb=>by simp only [Hp,IU,or_false]at hb;lia
 have S:ZSt prog w (s.heap.objs.size+4) (s.heap.objs.size+2) (s.heap.objs.size+3) s.heap.objs.size (s.heap.objs.size+1) l1 l2 vs us vs.length (okW ok [s.heap.objs.size+4,s.heap.objs.size+3,s.heap.objs.size,s.heap.objs.size+1]) (nN xs ys) [s.heap.objs.size+4,s.heap.objs.size+3,s.heap.objs.size,s.heap.objs.size+1] {s with heap:=h'}:=
  ⟨rfl,λb hb h=>h.2 hb,⟨ho _ (by lia),by simp⟩,⟨ho1,no h1⟩,⟨T_,no h2⟩,.inl ⟨hz,X_⟩,T0,⟨_,X_,bZ rfl⟩,RM.mono λo=>kv _ o,SE.mono λo=>kv _ o,0,hi1,Vd,by rw [xC,<-SX,M1,IJ,q1.length],λj x hx=>by obtain⟨x1,x2,e1,e2,rfl⟩:=xD hx;have L1:=(K0.mp e1).1;have L2:=(K0.mp e2).1;rw [<-q1.length]at L1;rw [<-q2.length]at L2;have g1:=HB L1;have g2:=HB L2;exact⟨_,_,x1,x2,by rw [IJ];exact g1,by rw [IJ];exact g2,rfl,rr (q1.at2 e1 (by simpa using g1)),rr (q2.at2 e2 (by simpa using g2))⟩⟩
 refine hR _ _ _ _ ⟨kv,sz,λ_ _ e=>e,rfl⟩ (λA hA=>Ci hA D rfl) S (ED (by lia) (by lia) (by lia) (by lia)) ⟨_,hz,cW rfl rfl (λq t h=>by injection h with h;cases h),rfl⟩ λQj A Q E k hQ=> ?_
 exact wpAny_pyIter_zip ((show bE _ from cW rfl rfl λq t h=>by injection h with h;cases h).keep k hz) hQ
structure d0 (C:Cx) (Γ:Gam) (Q4:List HJ) (n:Nat):Prop where
 e: ∀ns e pe,sE C.gl Q4 n ns e=H7 pe->aI C Γ Q4 ns e pe
 o: ∀ns e pe,sO C.gl Q4 n ns e=H7 pe-> ∀A Q5 ρ ok s r,d5 C Q4 A Q5 ns ρ ok s->pev Γ pe ρ=H7 r->WP (Hj C.prog C.w) A (evalPart e Q5) (Ev C ok r s) s
 l: ∀ns es Qs,sL C.gl Q4 n ns es=H7 Qs-> ∀A Q5 ρ ok s rs,d5 C Q4 A Q5 ns ρ ok s->cE Γ Qs ρ=H7 rs->bU C A Q5 ok es rs s
 t: ∀ns e pe,sT C.gl Q4 n ns e=H7 pe->dB C Γ Q4 ns e pe
 ts: ∀ns es Qs,sTs C.gl Q4 n ns es=H7 Qs->cK C Γ Q4 ns es Qs
 i: ∀ns e pi,sI C.gl Q4 n ns e=H7 pi->mi C Γ Q4 ns e pi
variable {keys:List (Option Expr)} {Qs:List PE} {es:List Expr} {pe pl:PE}
section
theorem d5.less (G:d5 C Q4 A Q5 ns ρ ok s) (x:Ext s s') {D:Hw} (h1:s.heap.objs.size<=D) (h2:D<s'.heap.objs.size):d5 C Q4 A Q5 ns ρ (okW ok [D]) s' where
 a:=G.a
 e:=G.e
 h:=G.h.trans x.keep
 r:=λy pv hy hp=>by obtain⟨v,V,R⟩:=G.r y pv hy hp;refine⟨v,V.keep x.keep,R.mono (λb hb ⟨o,e⟩=>⟨hb,λq=> ?_⟩) λb _ o e=>x.keep b o e⟩;rw [Hx.mp q]at e;exact Hr _ (Ha (ao e) h1)
 o:=λb hb=>⟨G.o b (H8 x.size hb),λq=>Hr _ (Ha (Hx.mp q▸h2) hb)⟩
 m:=G.m.keep x.keep
 l:=G.l
 v:=λb hb=>by obtain⟨o,e⟩:=G.v b hb;exact⟨o,x.keep _ _ e⟩
theorem qN {e:Option Expr} {i:Int} (h:En e=H7 i): ∃k p,e=H7 (.Constant (.int i) k p):=by
 cases e with
 |none=>exact a9 h
 |some e=>
  cases e with
  |Constant c k p=>
   cases c with
   |int j=>obtain rfl:=Hg h;exact⟨k,p,rfl⟩
   |_=>exact a9 h
  |_=>exact a9 h
theorem yr {E:Expr->Option PE} (hE: ∀e pe,E e=H7 pe->aI C Γ Q4 ns e pe): ∀{vs:List Expr} {ks:List Int} {Qs:List PE} {us:List PV} {s:Hh} {Q:List (Hl×Hl)->Hh->Prop},iU keys=H7 ks->pY E vs=H7 Qs->cE Γ Qs ρ=H7 us->ks.length=us.length->d5 C Q4 A Q5 ns ρ ok s->
  (keys.all (·.isSome)=Hd->keys.length=vs.length->ks.length=keys.length-> ∀Qw ws s',Ext s s'->Carries (IM C.prog C.w) Qw (ks.zip ws)->ws.length=ks.length->av C.prog C.w ok s'.heap us ws->Q Qw s')->WP (Hj C.prog C.w) A (evalPairs (pairTrees keys vs Q5 pos)) Q s:=by
 induction keys with
 |nil=>
  intro vs ks Qs us s Q h1 h2 h3 h4 G hQ;cases h1;cases us with
  |cons=>exact nomatch h4
  |nil=>
   cases vs with
   |nil=>exact pairTrees_nil_walk (hQ rfl rfl rfl [] [] s (.refl s) trivial rfl rfl)
   |cons e es=>
    revert h3;exact bH (P:=λQs=>cE Γ Qs ρ=H7 []->_) h2 λa as _ _ h3=>ae h3 λv _ h3=>ae h3 λvs _ h3=>nomatch Hg h3
 |cons k keys ih=>
  intro vs ks Qs us s Q h1 h2 h3 h4 G hQ;revert h4 hQ;refine bH h1 λi ks hi Tw h4 hQ=> ?_;obtain⟨kd,kp,rfl⟩:=qN hi;cases vs with
  |nil=>cases h2;cases h3;exact nomatch h4
  |cons e es=>
   revert h3;refine bH (P:=λQs=>cE Γ Qs ρ=H7 us->_) h2 λa as ha has h3=>ae h3 λv hv h3=>ae h3 λXj TZ h3=> ?_;cases h3;refine pairTrees_cons_walk (NM ?_);refine(hE _ _ ha A Q5 ρ ok _ v (G.ext (.toks _ _)) hv).mono λw s₁ ⟨x₁,r⟩=> ?_;have x:Ext s s₁:=(Ext.toks _ _).trans x₁;exact ih Tw has TZ (Kf h4) (G.ext x) λe1 e2 e3 Qw ws s₂ x₂ hc hl q=>hQ (by simpa using e1) (congrArg L0 e2) (congrArg L0 e3) _ (w::ws) s₂ (x.trans x₂) ⟨Mt _ _ _ _,rfl,hc⟩ (congrArg L0 hl) ⟨w,ws,rfl,r.keep x₂.keep,q⟩
theorem Ay {E:Expr->Option PE} (hE: ∀e pe,E e=H7 pe->aI C Γ Q4 ns e pe) {vs:List Expr} {ks:List Int} (h1:iU keys=H7 ks) (h2:pY E vs=H7 Qs):
  aI C Γ Q4 ns (.Dict keys vs pos) (.dicI ks Qs):=λA Q5 ρ ok s r G hp=>ae hp λus TZ hp=>by
 obtain⟨⟨e1,e2,e3,e4⟩,rfl⟩:=ah hp;have x₀:Ext s {s with heap:=s.heap.push {cls:= .type "dict",data:= .dict #[]}}:= .pushed s _ s.toks
 have Sc: ∀{keys:List (Option Expr)} {ks:List Int},iU keys=H7 ks->keys.all (·.isSome)=Hd/\keys.length=ks.length:=by
  intro keys;induction keys with
  |nil=>intro ks h;cases h;exact⟨rfl,rfl⟩
  |cons k keys ih=>
   intro ks h;refine bH (P:=λks=>_/\_=ks.length) h λi ks hi Tw=> ?_;obtain⟨kd,kp,rfl⟩:=qN hi;exact⟨by simpa using(ih Tw).1,congrArg L0 (ih Tw).2⟩
 obtain⟨a1,a2⟩:=Sc h1;have Q7: ∀{vs:List Expr} {Qs:List PE} {us:List PV},pY E vs=H7 Qs->cE Γ Qs ρ=H7 us->vs.length=us.length:=by
  intro vs;induction vs with
  |nil=>intro Qs us h1 h2;cases h1;cases h2;rfl
  |cons e es ih=>
   intro Qs us h1 h2;revert h2;exact bH (P:=λQs=>cE Γ Qs ρ=H7 us->_) h1 λa as _ has h2=>ae h2 λv _ h2=>ae h2 λXj TZ h2=>by cases h2;exact congrArg L0 (ih has TZ)
 refine wpAny_Dict_walk (knd:=IM C.prog C.w) a1 (a2.trans (e1.trans (Q7 h2 TZ).symm)) (λe=>by rw [e]at a2;rw [<-a2]at e3;exact nomatch e3) (a2▸e4) ?_
 have G₀:=G.less x₀ (D:=s.heap.objs.size) (Hm _) (uz _ _);refine yr hE h1 h2 TZ e1 G₀ λ_ _ _ Qw ws s₁ x₁ hc hl q=> ?_;have WZ:s₁.heap.DictOf (IM C.prog C.w) s.heap.objs.size []:=rI (h:=s.heap.push {cls:= .type "dict",data:= .dict #[]}) (Lp _) λo e=>x₁.keep _ _ e;have Ql:=pM WZ;refine⟨_,hc,WZ,λh' hd hs=>⟨⟨λb o e=>ax hs Ql (λq=>Hr _ (q▸ao e)) (x₁.keep _ _ (x₀.keep _ _ e)),hs.1.symm▸H8 x₀.size x₁.size,λi g e=>x₁.gens i g e,x₁.os⟩,
  _,ws,rfl,G.o _ (Hm _),G.m.ne (ca _),⟨hl.symm, ?_⟩,q.mono (λ_ h _=>h.1) λb hb o e=>ax hs Ql (λq=>hb.2 (q▸Jf _)) e⟩⟩
 rwa [merged_nil_of_nodup _ (by rw [Mz (Hu hl.symm)];exact e2)]at hd
theorem gK {b:Bool} {Q:Bool->Hh->Prop} (h:Q b s):WP (Hj C.prog C.w) A (truthy (.bool b)) Q s:=wpAny_truthy_bool h
theorem DU {op:BoolOp} (h0:cK C Γ Q4 ns es Qs): ∀{s:Hh} {b:Bool},d5 C Q4 A Q5 ns ρ ok s->je Γ (op== .And) Qs ρ=H7 b->
  WP (Hj C.prog C.w) A (allTrue op es Q5) (λb' s'=>b'=b/\Ext s s') s:=by
 induction h0 with
 |nil=>exact λG h=>Hi ⟨Hg h,.refl _⟩
 |cons h1 h2 ih=>
  intro s b G h;refine ae h λv hv h=>ae h λb1 RY h=> ?_;have E:=h1 A Q5 ρ ok s v b1 G hv RY;have go: ∀{s1},Ext s s1->je Γ (op== .And) _ ρ=H7 b->WP (Hj C.prog C.w) A (allTrue op _ Q5) (λb' s'=>b'=b/\Ext s s') s1:=λx h=>(ih (G.ext x) h).mono λb' s' q=>⟨q.1,x.trans q.2⟩;cases op with
  |And=>
   refine wpAny_allTrue_And_cons (E.mono λb' s1 ⟨e,x⟩=> ?_);subst e;cases b' with
   |true=>exact go x h
   |false=>exact⟨Hg h,x⟩
  |Or=>
   refine wpAny_allTrue_Or_cons (E.mono λb' s1 ⟨e,x⟩=> ?_);subst e;cases b' with
   |true=>exact⟨Hg h,x⟩
   |false=>exact go x h
theorem s_ (h:aI C Γ Q4 ns e pe) (he: ∀(Q5:MY) (whole:J_ Hl),isTrue e Q5 whole=(do let v<-whole;Ji e.pos;KZ [v] (truthy v))):dB C Γ Q4 ns e pe:=by intro A Q5 ρ ok s v b G hv hb;refine isTrue_plain ?_ (he Q5 _);exact(h A Q5 ρ ok s v G hv).mono λu s₁ ⟨x₁,r₁⟩=>(Ak hb r₁).mono λb' s₂ ⟨e₂,x₂⟩=>⟨e₂,x₁.trans x₂⟩
theorem xW {l r r2:Expr} {op Xp:Ok} {pr pr2:PE} (hm:lastMarks [op,Xp] [r,r2]=Hb) (hl:aI C Γ Q4 ns l pl) (hr:aI C Γ Q4 ns r pr) (TF:aI C Γ Q4 ns r2 pr2):
  dB C Γ Q4 ns (.Compare l [op,Xp] [r,r2] pos) (.cmp2 op Xp pl pr pr2):=by
 intro A Q5 ρ ok s v b G hv hb;refine ae hv λa ha hv=>ae hv λc hc hv=>ae hv λt ht hv=> ?_;refine isTrue_chain ((hl A Q5 ρ ok s a G ha).mono λva s₁ ⟨x₁,ra⟩=> ?_) hm;refine test_link ((hr A Q5 ρ ok s₁ c (G.ext x₁) hc).mono λvc s₂ ⟨x₂,rc⟩=> ?_);refine(kH G.a.units ht (ra.keep x₂.keep) rc).mono λvt s₃ ⟨x₃,rt⟩=> ?_;replace rt:vt= .bool t:=rt;subst rt;have x:=(x₁.trans x₂).trans x₃;refine gK ?_;cases t with
 |false=>cases hv;cases hb;exact⟨rfl,x⟩
 |true=>
  refine ae hv λd hd hv=> ?_;obtain⟨t,ht,rfl⟩:=HG.mp hv;cases hb;refine test_last ((TF A Q5 ρ ok s₃ d (G.ext x) hd).mono λvd s₄ ⟨x₄,rd⟩=> ?_);refine(kH G.a.units ht ((rc.keep x₃.keep).keep x₄.keep) rd).mono λvt s₅ ⟨x₅,rt⟩=> ?_;replace rt:vt= .bool b:=rt;subst rt;exact gK ⟨rfl,(x.trans x₄).trans x₅⟩
theorem xX {l r:Expr} {op:Ok} {pr:PE} (hm:MR op r=Hb) (hl:aI C Γ Q4 ns l pl) (hr:aI C Γ Q4 ns r pr):
  dB C Γ Q4 ns (.Compare l [op] [r] pos) (.cmp op pl pr):=by
 intro A Q5 ρ ok s v b G hv hb;refine ae hv λa ha hv=>ae hv λc hc hv=> ?_;obtain⟨t,ht,rfl⟩:=HG.mp hv;cases hb;rw [isTrue_Compare1,markedBehindIn_of_false hm];refine WP.then (hl A Q5 ρ ok s a G ha) λva s₁ ⟨x₁,ra⟩=> ?_;refine WP.then (WP.hold (hr A Q5 ρ ok s₁ c (G.ext x₁) hc)) λvc s₂ ⟨x₂,rc⟩=>WP.at ?_;refine WP.then (WP.oper (kH G.a.units ht (ra.keep x₂.keep) rc)) λvt s₃ ⟨x₃,(rt:vt= .bool b)⟩=>WP.hold ?_;subst rt;exact gK ⟨rfl,(x₁.trans x₂).trans x₃⟩
end
abbrev Ch (C:Cx) (A:IZ) (Rn:Hw->Prop) (v:PV) (QD:Option (Hl->J_ Unit)) (Q:Hl->Hh->Prop) (s:Hh):Prop:=
 ∀D L s',Ext s s'->s.heap.objs.size<=D->s.heap.objs.size<=L->D≠L->(∃m,s'.heap.Ns L m)->Rep C.prog C.w (okW Rn [L]) s'.heap v (.ref D)->
  compPost (Hj C.prog C.w) A (λ_ _=>False) QD Q (.ref D) L (.ok .next) s'
def fR (C:Cx) (Γ:Gam) (Q4:List HJ) (ns:ay) (e:Expr) (pe:PE):Prop:=
 ∃(Tb:MY->Option (Hl->J_ Unit)->J_ Hl),(∀Q5,IY e Q5=Tb Q5 H9)/\(∀Q5 QD,MK e Q5 QD=(do let _<-Tb Q5 (H7 QD)))/\
  ∀A Q5 ρ Rn s v,d5 C Q4 A Q5 ns ρ Rn s->pev Γ pe ρ=H7 v-> ∀QD Q,Ch C A Rn v QD Q s->WP (Hj C.prog C.w) A (Tb Q5 QD) Q s
variable {Rn:Hw->Prop}
section
theorem uD {zs:List PV} (G:d5 C Q4 A Q5 ns ρ Rn s) (h:Ch C A Rn (.list zs) QD Q s):Cg C A Rn zs QD Q s:=
 λD L s' ok' vs x h1 h2 h3 h4 l q h6=>h D L s' x h1 h2 h3 h4 ⟨D,vs,rfl,⟨G.o D h1,by simpa using h3⟩,G.m.ne (bq h1),l,q.mono (λb hb _=>⟨(h6 b hb).1,by simpa using(h6 b hb).2.2⟩) λ_ _ _ e=>e⟩
theorem B4 {d:PV} (G:d5 C Q4 A Q5 ns ρ Rn s) (h:Ch C A Rn d QD Q s):EI C A Rn d QD Q s:=
 λD L s' ok' x h1 h2 h3 h4 q h6=>h D L s' x h1 h2 h3 h4 (Bp ⟨G.o D h1,by simpa using h3⟩ (G.m.ne (bq h1)) ((ARD.acc D).frame q (λ_ _ _ e=>e) λb o hb _=>⟨(h6 b hb).1,by simpa using(h6 b hb).2.2⟩))
theorem fR.ev (h:fR C Γ Q4 ns e pe):aI C Γ Q4 ns e pe:=by
 obtain⟨Tb,h1,_,h3⟩:=h;intro A Q5 ρ ok s v G hp;rw [h1];refine h3 A Q5 ρ ok s v G hp H9 _ λD L s' x h1 h2 h3 ⟨m,h4⟩ q=>⟨m,h4,λh' hs=> ?_⟩;have Ql:=lH h4;refine⟨⟨λb o e=>ax hs Ql (λq=> ?_) (x.keep b o e),by show _<=h'.objs.size;rw [hs.1];exact x.size,x.gens,x.os⟩,q.mono (λb hb _=>hb.1) λb hb o e=>ax hs Ql (λq=>hb.2 (q▸Jf _)) e⟩
 rw [q,bq h2]at e;cases e
end
variable {op:Lg} {pc pa pb:PE} {gs:List LW} {RH:List PE} {p2 SI:Jq}
section
theorem yy {c:Const} (h:sC c=H7 pe):aI C Γ Q4 ns (.Constant c k pos) pe:=by
 cases c with
 |int i=>cases h;exact λA Q5 ρ ok s r G hp=>by cases hp;exact Dx
 |str i=>cases h;exact λA Q5 ρ ok s r G hp=>by cases hp;exact Dw
 |bool i=>cases h;exact λA Q5 ρ ok s r G hp=>by cases hp;exact AX
 |none=>cases h;exact λA Q5 ρ ok s r G hp=>by cases hp;exact AV
 |_=>exact a9 h
theorem Av (GO:ai C Γ) (hx:aB x=Hd) (h:sN C.gl Q4 ns x=H7 pe):aI C Γ Q4 ns (.Name x pos) pe:=by
 refine ct h (λhk h=> ?_) λ_ h=>cX h λhk h=>ae h λg hg h=> ?_
 ·cases h
  intro A Q5 ρ ok s r G hp;obtain⟨v,V,R⟩:=G.r x r ((G.e.cls x).trans hk) hp;exact jo G.e hx V ⟨.refl _,R⟩
 ·cases g with
  |val k=>
   cases h;intro A Q5 ρ ok s r G hp;obtain⟨v,L,R⟩:=GO.val x k r hg hp;exact cD G.e hx (of_decide_eq_true hk) G.h L ⟨.refl _,R ok _⟩
  |_=>exact a9 h
theorem D4 {l r:Expr} {a b:PE} (ha:aI C Γ Q4 ns l a) (hb:aI C Γ Q4 ns r b):aI C Γ Q4 ns (.BinOp l op r pos) (.bin op a b):=
 λA Q5 ρ ok s c G hp=>ae hp λu hu hp=>ae hp λv hv hc=>
  sk (λs' x=>ha A Q5 ρ ok s' u (G.ext x) hu) (λs' x=>hb A Q5 ρ ok s' v (G.ext x) hv) λs' va vb x ra rb=>oH hc (G.ext x).o (G.ext x).m ra rb
theorem xd {f:Int->PV} {Q:Prop} (h:(match v with| .int i=>H7 (f i)|_=>H9)=H7 c) (k: ∀i,v= .int i->c=f i->Q):Q:=by
 cases v with
 |int i=>cases h;exact k i rfl rfl
 |_=>exact a9 h
theorem CY {x:Expr} {a:PE} (ha:aI C Γ Q4 ns x a):aI C Γ Q4 ns (.UnaryOp .USub x pos) (.neg a):=
 λA Q5 ρ ok s c G hp=>ae hp λu hu hc=>xd hc λi e1 e2=>by subst e1 e2;exact xj (ha A Q5 ρ ok s _ G hu) λs' va ⟨t,e⟩=>by subst e;exact neg_int bt
theorem CZ {x:Expr} {a:PE} (ha:aI C Γ Q4 ns x a):aI C Γ Q4 ns (.UnaryOp .Invert x pos) (.inv a):=
 λA Q5 ρ ok s c G hp=>ae hp λu hu hc=>xd hc λi e1 e2=>by subst e1 e2;exact xj (ha A Q5 ρ ok s _ G hu) λs' va ⟨t,e⟩=>by subst e;exact invert_int bt
theorem D1 {l r:Expr} {op:Ok} {a b:PE} (hm:(!MR op r)=Hd) (ha:aI C Γ Q4 ns l a) (hb:aI C Γ Q4 ns r b):aI C Γ Q4 ns (.Compare l [op] [r] pos) (.cmp op a b):=
 λA Q5 ρ ok s c G hp=>ae hp λu hu hp=>ae hp λv hv hc=>aL (P:=λc=>WP _ A (IY (.Compare l [op] [r] pos) Q5) (Ev C ok c s) s) hc λk hk=>
  Dy (by simpa using hm) (λs' x=>ha A Q5 ρ ok s' u (G.ext x) hu) (λs' x=>hb A Q5 ρ ok s' v (G.ext x) hv) λs' va vb x ra rb=>kH G.a.units hk ra rb
theorem C_ {c a b:Expr} (hc:dB C Γ Q4 ns c pc) (ha:aI C Γ Q4 ns a pa) (hb:aI C Γ Q4 ns b pb):aI C Γ Q4 ns (.IfExp c a b pos) (.ife pc pa pb):=
 λA Q5 ρ ok s r G hp=>ae hp λv hv hp=>ae hp λt ht hp=>by
  refine wpAny_IfExp ((hc A Q5 ρ ok s v t G hv ht).mono λb' s₁ ⟨e,x₁⟩=> ?_);subst e;cases b' with
  |true=>exact(ha A Q5 ρ ok s₁ r (G.ext x₁) hp).mono λv s₂ ⟨x₂,r₂⟩=>⟨x₁.trans x₂,r₂⟩
  |false=>exact(hb A Q5 ρ ok s₁ r (G.ext x₁) hp).mono λv s₂ ⟨x₂,r₂⟩=>⟨x₁.trans x₂,r₂⟩
theorem Ax (S:d0 C Γ Q4 n) (Rr:sL C.gl Q4 n ns es=H7 Qs):aI C Γ Q4 ns (.List es pos) (.list Qs):=
 λA Q5 ρ ok s r G hp=>ae hp λrs Un hp=>by obtain⟨Q7,rfl⟩:=ah hp;exact(kL (S.l _ _ _ Rr A Q5 ρ ok s rs G Un) Q7 G.m).mono λv s' ⟨x,a,vs,hv,ha,l,q,hs⟩=>⟨x,a,vs,hv,G.o a ha,hs,l,q.mono (λ_ h _=>h.1) λ_ _ _ e=>e⟩
theorem CX (S:d0 C Γ Q4 n) (Rr:sL C.gl Q4 n ns es=H7 Qs):aI C Γ Q4 ns (.Tuple es k pos) (.tup Qs):=
 λA Q5 ρ ok s r G hp=>ae hp λrs Un hp=>by obtain⟨Q7,rfl⟩:=ah hp;exact z4 (S.l _ _ _ Rr A Q5 ρ ok s rs G Un) Q7 G.o G.m
structure pZ (C:Cx) (Γ:Gam) (Q4:List HJ) (ns sn:ay) (g:LW) (p:PT×PI×List PE):Prop where
 mk'::
 ok: ∃t it ifs,g=⟨t,it,ifs,0⟩/\iK it=Hd/\sPT Q4 sn t=H7 p.1/\mi C Γ Q4 ns it p.2.1/\cK C Γ Q4 sn ifs p.2.2
theorem oh (S:d0 C Γ Q4 n) {sn:ay} {p:PT×PI×List PE} (h:sG (sE C.gl Q4 n) (sI C.gl Q4 n) (sTs C.gl Q4 n) Q4 ns sn g=H7 p):pZ C Γ Q4 ns sn g p:=
 cX h λhn h=>de hn λhn h0=>gW h λa b c ha hb hc=>by obtain⟨t,it,ifs,z⟩:=g;cases (eq_of_beq h0:z=0);exact⟨_,_,_,rfl,hn,ha,S.i _ _ _ hb,S.ts _ _ _ hc⟩
theorem yA (GO:ai C Γ) {p:PT×PI×List PE} (hs:bR ns sc=Hd) (hg:pZ C Γ Q4 ns sc.names g p) (he:aI C Γ Q4 sc.names Qv pe):
  fR C Γ Q4 ns (.ListComp Qv [g] sc pos) (.comp1 (cj Q4 sc) p.1 p.2.1 p.2.2 pe):=by
 obtain⟨t,it,ifs,rfl,h1,h2,h3,h5⟩:=hg.ok;exact⟨λQ5 QD=>Lf (.ListComp Qv [⟨t,it,ifs,0⟩] sc pos) sc Q5 (PO [⟨t,it,ifs,0⟩] pos) (newList []) Hb (IY it Q5) QD,λQ5=>rfl,λQ5 QD=>rfl,λA Q5 ρ Rn s v G hp QD Q QC=>
  zn GO.sy hs h1 h2 h3 h5 he G hp λzs e=>by subst e;exact uD G QC⟩
theorem yz (GO:ai C Γ) {g2:LW} {p p2:PT×PI×List PE} (hs:bR ns sc=Hd) (hg:pZ C Γ Q4 ns sc.names g p) (Tx:pZ C Γ Q4 sc.names sc.names g2 p2) (he:aI C Γ Q4 sc.names Qv pe):
  fR C Γ Q4 ns (.ListComp Qv [g,g2] sc pos) (.comp2 (cj Q4 sc) p.1 p.2.1 p.2.2 p2.1 p2.2.1 p2.2.2 pe):=by
 obtain⟨t,it,ifs,rfl,h1,h2,h3,h5⟩:=hg.ok;obtain⟨t',it',Vx,rfl,k1,k2,k3,k5⟩:=Tx.ok;exact⟨λQ5 QD=>Lf (.ListComp Qv [⟨t,it,ifs,0⟩,⟨t',it',Vx,0⟩] sc pos) sc Q5 (PO [⟨t,it,ifs,0⟩,⟨t',it',Vx,0⟩] pos) (newList []) Hb (IY it Q5) QD,λQ5=>rfl,λQ5 QD=>rfl,λA Q5 ρ Rn s v G hp QD Q QC=>
  zm GO.sy hs h1 h2 h3 h5 k1 k2 k3 k5 he G hp λzs e=>by subst e;exact uD G QC⟩
theorem yx (GO:ai C Γ) {k v:Expr} {p:PT×PI×List PE} {pv:PE} (hs:bR ns sc=Hd) (hg:pZ C Γ Q4 ns sc.names g p) (hk:aI C Γ Q4 sc.names k pk) (hv:aI C Γ Q4 sc.names v pv):
  fR C Γ Q4 ns (.DictComp k v [g] sc pos) (.dcomp (cj Q4 sc) p.1 p.2.1 p.2.2 pk pv):=by
 obtain⟨t,it,ifs,rfl,h1,h2,h3,h5⟩:=hg.ok;exact⟨λQ5 QD=>Lf (.DictComp k v [⟨t,it,ifs,0⟩] sc pos) sc Q5 (PO [⟨t,it,ifs,0⟩] pos) newDict Hb (IY it Q5) QD,λQ5=>rfl,λQ5 QD=>rfl,λA Q5 ρ Rn s v G hp QD Q QC=>
  zh GO.sy hs h1 h2 h3 h5 hk hv G hp (B4 G QC)⟩
theorem xm (GO:ai C Γ) (S:d0 C Γ Q4 n) (h:sE C.gl Q4 (n+1) ns (.ListComp Qv gs sc pos)=H7 pe):fR C Γ Q4 ns (.ListComp Qv gs sc pos) pe:=
 cX h λhs h=>ed h (λg e h=>db e▸bH h λ_ _ hg he=>yA GO hs (oh S hg) (S.e _ _ _ he)) λ_ h=>ae h λq e h=>
  gS e▸gW h λ_ _ _ hg Tx he=>yz GO hs (oh S hg) (oh S Tx) (S.e _ _ _ he)
theorem xn (GO:ai C Γ) (S:d0 C Γ Q4 n) {k v:Expr} (h:sE C.gl Q4 (n+1) ns (.DictComp k v gs sc pos)=H7 pe):fR C Γ Q4 ns (.DictComp k v gs sc pos) pe:=
 cX h λhs h=>ae h λg e h=>db e▸gW h λ_ _ _ hg hk hv=>yx GO hs (oh S hg) (S.e _ _ _ hk) (S.e _ _ _ hv)
theorem vk {l h st:PV} (hp:bz v l h st=H7 r): ∃id,K1 (.type (D_ v)) "__getitem__" =pure (H7 (.builtin id)):=by
 cases v with
 |list=>exact⟨_,slot_list_getitem.lookup⟩
 |str=>exact⟨_,Of.lookup⟩
 |_=>exact a9 hp
theorem yw (S:d0 C Γ Q4 n) {v:Expr} {lo hi st:Option Expr} {ph ps:PE} (ha:aI C Γ Q4 ns v pa) (hl:sO C.gl Q4 n ns lo=H7 pl) (hh:sO C.gl Q4 n ns hi=H7 ph) (hs:sO C.gl Q4 n ns st=H7 ps):
  aI C Γ Q4 ns (.Subscript v (.Slice lo hi st p) pos) (.slice pa pl ph ps):=
 λA Q5 ρ ok s r G hp=>ae hp λa Rz hp=>ae hp λl Ru hp=>ae hp λSR hh' hp=>ae hp λWy Yn hp=>by
  refine ja (P:=λ_ _ _=>True) ((ha A Q5 ρ ok s a G Rz).mono λva s₁ ⟨x₁,ra⟩=> ?_);refine wpAny_Slice ((S.o _ _ _ hl A Q5 ρ ok s₁ l (G.ext x₁) Ru).mono λvl s₂ ⟨x₂,rl⟩=> ?_);refine(S.o _ _ _ hh A Q5 ρ ok s₂ SR ((G.ext x₁).ext x₂) hh').mono λvh s₃ ⟨x₃,rh⟩=> ?_;refine(S.o _ _ _ hs A Q5 ρ ok s₃ Wy (((G.ext x₁).ext x₂).ext x₃) Yn).mono λvs s₄ ⟨x₄,rs⟩=> ?_;have x5:=(((x₁.trans x₂).trans x₃).trans x₄).trans (Ext.pushed s₄ {cls:= .type "slice",data:= .fields #[vl,vh,vs]} s₄.toks);have px:HK s₄.heap (s₄.heap.push {cls:= .type "slice",data:= .fields #[vl,vh,vs]}):=HK.push _ _;have ra5:=ra.keep (((x₂.trans x₃).trans x₄).keep.trans px);obtain⟨id,hid⟩:=vk hp;exact⟨_,id,hid,qo (s:={s₄ with heap:=s₄.heap.push {cls:= .type "slice",data:= .fields #[vl,vh,vs]}}) ra5,
   (vB hp (G.ext x5).o (G.ext x5).m ra5 (rl.keep ((x₃.trans x₄).keep.trans px)) (rh.keep (x₄.keep.trans px)) (rs.keep px) (HL _ rfl)).mono λv s₆ ⟨x₆,r₆⟩=>⟨x5.trans x₆,r₆⟩⟩
theorem C' {v i:Expr} {pi:PE} (ha:aI C Γ Q4 ns v pa) (hi:aI C Γ Q4 ns i pi):aI C Γ Q4 ns (.Subscript v i pos) (.idx pa pi):=
 λA Q5 ρ ok s r G hp=>ae hp λa Rz hp=>ae hp λb QP hp=>by refine ja (P:=λ_ _ _=>True) ((ha A Q5 ρ ok s a G Rz).mono λva s₁ ⟨x₁,ra⟩=> ?_);refine(hi A Q5 ρ ok s₁ b (G.ext x₁) QP).mono λvb s₂ ⟨x₂,rb⟩=> ?_;obtain⟨T,id,h1,h2⟩:=m9 (s:=s₂) hp (ra.keep x₂.keep);exact⟨T,id,h1,h2,(Ar hp (ra.keep x₂.keep) rb).mono λv s₃ ⟨x₃,r₃⟩=>⟨(x₁.trans x₂).trans x₃,r₃⟩⟩
abbrev EvS (C:Cx) (Γ:Gam) (Q4:List HJ) (ns:ay) (e:Expr) (pe:PE):Prop:=aI C Γ Q4 ns e pe/\o0 e=Hd
theorem c8 (h:o0 e=Hd): ∀x p,e≠ .Starred x p:=λx p q=>Bool.noConfusion (q▸h:o0 (.Starred x p)=Hd)
theorem dE {gl:HJ->Option aO} (h:sE gl Q4 n ns e=H7 pe):o0 e=Hd:=by
 cases n with
 |zero=>exact a9 h
 |succ n=>
  cases e with
  |Starred=>exact a9 h
  |_=>rfl
structure Nm (ns:ay) (f:HJ):Prop where
 p:aB f=Hd
 k:fw (ns.lookup f)=2
theorem BC (GO:ai C Γ) (S:d0 C Γ Q4 n) (hn:Nm ns f) (hg:C.gl f=H7 (.fn k)) (has:sL C.gl Q4 n ns args=H7 RH):
  aI C Γ Q4 ns (.Call (.Name f p) args [] pos) (.call k RH):=
 λA Q5 ρ ok s r G hp=>ae hp λvs QU hp=>by obtain⟨a,o,fd,L,ho,hd,XB⟩:=GO.fn f k hg;exact kM G.e hn.p hn.k G.h L (S.l _ _ _ has A Q5 ρ ok s vs G QU) (zq G.h ho hd) λs₁ us x q=>XB vs r hp A s₁ ok us G.a (G.h.trans x.keep) (G.ext x).o (G.ext x).m q
theorem BD (GO:ai C Γ) (S:d0 C Γ Q4 n) {k:BI} (hn:Nm ns f) (hg:C.gl f=H7 (.bi k)) (has:sL C.gl Q4 n ns args=H7 RH):
  aI C Γ Q4 ns (.Call (.Name f p) args [] pos) (.bi k RH):=
 λA Q5 ρ ok s r G hp=>ae hp λvs QU hp=>
  kM G.e hn.p hn.k G.h (GO.bi f k hg) (S.l _ _ _ has A Q5 ρ ok s vs G QU) (jN λa e=>nomatch e) λs₁ us x q=>CT G.a.1 hp (G.ext x).o (G.ext x).m q
theorem qD (GO:ai C Γ) (S:d0 C Γ Q4 n) (hn:Nm ns f) (hg:C.gl f=H7 (.ty "range")) (has:sL C.gl Q4 n ns args=H7 RH):
  aI C Γ Q4 ns (.Call (.Name f p) args [] pos) (.rng RH):=
 λA Q5 ρ ok s r G hp=>ae hp λvs QU hp=>
  kM G.e hn.p hn.k G.h (GO.ty f "range" hg) (S.l _ _ _ has A Q5 ρ ok s vs G QU) (jN λa e=>nomatch e) λs₁ us x q=>tw hp (G.ext x).o (G.ext x).m q
theorem oK {a:Expr} (ha:EvS C Γ Q4 ns a pa) (G:d5 C Q4 A Q5 ns ρ ok s) (hv:pev Γ pa ρ=H7 v):bU C A Q5 ok [a] [v] s:=
 bU.cons (c8 ha.2) (ha.1 A Q5 ρ ok s v G hv) λs' x=>bU.nil
theorem n5 (GO:ai C Γ) {a:Expr} (hn:Nm ns f) (hg:C.gl f=H7 (.ty "list")) (ha:EvS C Γ Q4 ns a pa):
  aI C Γ Q4 ns (.Call (.Name f p) [a] [] pos) (.listOf pa):=
 λA Q5 ρ ok s r G hp=>ae hp λv hv hp=>
  kM (rs:=[v]) G.e hn.p hn.k G.h (GO.ty f "list" hg) (oK ha G hv) (jN λa e=>nomatch e) λs₁ us x q=>by obtain⟨u,_,rfl,ru,rfl⟩:=q;exact wf G.a.1 hp (G.ext x).o (G.ext x).m ru
theorem qO (GO:ai C Γ) (S:d0 C Γ Q4 n) {vs:List PV} (tgt:Expr) (hn:Nm ns f) (hg:C.gl f=H7 (.gen k)) (has:sL C.gl Q4 n ns args=H7 RH) (G:d5 C Q4 A Q5 ns ρ ok s) (QU:cE Γ RH ρ=H7 vs) (RX:Γ.gn k vs=H7 xs):
  WP (Hj C.prog C.w) A (IY (.Call (.Name f p) args [] pos) Q5) (λv s₁=>Ext s s₁/\ ∃g,v= .ref g/\ ∀A' QX,A'=A∨A'=A.in1.in1->Ext s₁ QX->(∃i,QX.heap.IsGen g i)/\ItG C A' ok xs tgt s QX g) s:=by
 obtain⟨fo,o,fd,L,ho,hd,VY⟩:=GO.gn f k hg;have hE:=S.l _ _ _ has A Q5 ρ ok s vs G QU;refine N1 rfl (cD G.e hn.p hn.k G.h L ?_);refine Od (o:=o) (fd:=fd) ?_;refine bj (by rw [bX];exact hE.1) ((hE.2 pos).mono λus s₁ ⟨x,q⟩=>⟨⟨(cz hd).keep (x.keep _) ((cz hd).keep (G.h _) ho),hd⟩, ?_⟩)
 refine(VY vs xs RX A s₁ ok us tgt G.a (G.h.trans x.keep) (G.o.keep x.size) (G.m.keep x.keep) q).mono λv s₂ ⟨x₂,g,hv,h⟩=>⟨x.trans x₂,g,hv,λA' s' Y5 x'=> ?_⟩;obtain⟨h0,W,Wg,T,St,h1,h2,h3,h4,h5⟩:=h A' s' Y5 x';refine⟨h0,W,Wg,T,St,h1,h2,h3,λb hb=>H8 x.size (h4 b hb),λi hi=>H8 ?_ (h5 i hi)⟩;refine Ix λQp=> ?_;have:=x.gens s₁.gens.size _ (KQ Qp);rw [OM (Hm _)]at this;cases this
theorem yI {Q:List Hl->Hh->Prop} (he: ∀x p,e≠ .Starred x p) (h:WP (Hj C.prog C.w) A (IY e Q5) (λv s=>Q [v] s) s):WP (Hj C.prog C.w) A (Ob (Ot pos (Le [e] Q5))) Q s:=by rw [aQ he];exact Oa (h.mono λv s₁ h=>Nq h)
theorem D9:K1 (.type "generator") "__len__" =pure H9:=PySem.F.gen_no_len
theorem AB:K1 (.type "generator") "__length_hint__" =pure H9:=PySem.F.gen_no_hint
theorem nh (GO:ai C Γ) (hn:Nm ns f) (hg:C.gl f=H7 (.ty "list")) (G:d5 C Q4 A Q5 ns ρ ok s) (he: ∀x p,e≠ .Starred x p) (he': ∀x p,e≠ .Starred x p)
  (h:WP (Hj C.prog C.w) A (IY e Q5) (λv s₁=>WP (Hj C.prog C.w) A (KG (.type "list") [v]) Q s₁) s):WP (Hj C.prog C.w) A (IY (.Call (.Name f p) [e] [] pos) Q5) Q s:=by
 refine N1 rfl (cD G.e hn.p hn.k G.h (GO.ty f "list" hg) ?_);refine aU (λa e=>nomatch e) (by rw [eN,aQ he];rfl) ?_
 exact bj (by rw [bX,aQ he];rfl) (yI he h)
theorem ng (GO:ai C Γ) {W:List Hw} {T:Expr->Prop} {tgt:Expr} (G:d5 C Q4 A Q5 ns ρ ok s) (x:Ext s s₁) (it:jU C.prog C.w A.in1.in1 C.H I Wg T St) (hT:T tgt) (Up: ∀v,Iu tgt (.ref I) v=pure ()) (QR:St (okW ok W) xs W s₁) (hW: ∀b∈W,s.heap.objs.size<=b) (Vj: ∀i∈Wg,s.gens.size<=i)
  (TD: ∀s':Hh,(∀o,vis s₁.heap I=H7 o->vis s'.heap I=H7 o)->s'.TypeIs (.ref I) TN) (hI:I<s₁.heap.objs.size) (h2:(Ly TN==Ly "list")=Hb) (h3:(Ly TN==Ly "tuple")=Hb)
  (Te:K1 (.type TN) "__len__" =pure H9) (Se:K1 (.type TN) "__length_hint__" =pure H9)
  (Ri: ∀(s':Hh) (Q:Hl->Hh->Prop) (E:Hl->Hh->Prop),(∀o,vis s₁.heap I=H7 o->vis s'.heap I=H7 o)->Q (.ref I) s'->Im (Hj C.prog C.w) A.in1.in1 (MQ (.ref I)) Q E s') (Q7:xs.length<=Hz):
  WP (Hj C.prog C.w) A (KG (.type "list") [.ref I]) (Ev C ok (.list xs) s) s₁:=by
 have hH:=G.h.trans x.keep;refine AG it hT Up GO.sy QR TD hI h2 h3 Te Se Ri
  (λb hb=>⟨G.o b (H8 x.size hb),λh=>Hr _ (Ha (it.own QR b h).1 hb)⟩) hH (λb hb=>G.h.none (bq (hW b hb))) Q7 λs' Qw ok' W' g1 g2 g3 g4 g5 g6 g7 g8=> ?_
 have new: ∀b,b∈W'->s.heap.objs.size<=b:=λb hb=>(g1 b hb).elim (hW b) λh=>H8 x.size h;exact⟨⟨λb o e=>g2 b o (λh=>Hr _ (Ha (ao e) (new b h))) (x.keep b o e),H8 x.size g3,λi g e=>g4 i g (λh=>Hr _ (Ha (KH.mp e).1 (Vj i h))) (x.gens i g e),g5.trans x.os⟩,
  _,Qw,rfl,G.o _ x.size,G.m.ne (bq x.size),g7,g8.mono (λb hb _=>(g6 b hb).1) λ_ _ _ e=>e⟩
theorem tq (GO:ai C Γ) (S:d0 C Γ Q4 n) {g:HJ} (hn:Nm ns f) (hg:C.gl f=H7 (.ty "list")) (WM:Nm ns g) (XO:C.gl g=H7 (.gen k)) (has:sL C.gl Q4 n ns args=H7 RH):
  aI C Γ Q4 ns (.Call (.Name f p) [.Call (.Name g p2) args [] SI] [] pos) (.listGen k RH):=λA Q5 ρ ok s r G hp=>ae hp λvs QU hp=>ae hp λxs RX hp=>by
 obtain⟨Q7,rfl⟩:=ah hp;refine nh GO hn hg G (λ_ _ e=>nomatch e) (λ_ _ e=>nomatch e) ((qO GO S (.Name f p) WM XO has G QU RX).mono λv s₁ ⟨x,a,hv,h⟩=> ?_);subst hv;obtain⟨⟨i,hi⟩,W,Wg,T,St,it,hT,QR,hW,Vj⟩:=h A.in1.in1 s₁ (.inr rfl) (.refl _);exact ng GO G x it hT (λv=>rfl) QR hW Vj (λs' k=>(gG hi k).typeIs) (by obtain⟨o,_,_,e,_⟩:=hi;exact II e) (by decide) (by decide) D9 AB (λs' Q E k h=>wpAny_pyIter_gen (gG hi k) h) Q7
theorem tn (GO:ai C Γ) {g:HJ} {a b:Expr} (hn:Nm ns f) (hg:C.gl f=H7 (.ty "list")) (WM:Nm ns g) (XO:C.gl g=H7 (.ty "zip")) (ha:EvS C Γ Q4 ns a pa) (hb:EvS C Γ Q4 ns b pb):
  aI C Γ Q4 ns (.Call (.Name f p) [.Call (.Name g p2) [a,b] [] SI] [] pos) (.listZip pa pb):=λA Q5 ρ ok s r G hp=>ae hp λu hu hp=>ae hp λv hv hp=>by
 cases u with
 |list y=>
  cases v with
  |list z=>
   obtain⟨hyz,hp⟩:=cZ hp;obtain⟨Q7,rfl⟩:=ah hp;refine nh GO hn hg G (λ_ _ e=>nomatch e) (λ_ _ e=>nomatch e) ?_;refine N1 rfl (cD G.e WM.p WM.k G.h (GO.ty g "zip" XO) ?_);have Qm:bU C A Q5 ok [a,b] [.list y,.list z] s:=bU.cons (c8 ha.2) (ha.1 A Q5 ρ ok s _ G hu) λs' x=>oK hb (G.ext x) hv;refine aU (λa e=>nomatch e) (by rw [eN];exact fV Qm.1) ?_
   refine bj (by rw [bX];exact Qm.1) ((Qm.2 SI).mono λvs s₁ ⟨x,q⟩=> ?_)
   obtain⟨u',_,rfl,ru,v',_,rfl,rv,rfl⟩:=q;obtain⟨a,vs,rfl,QI,_,l,q⟩:=ru;obtain⟨a',Qw,rfl,VE,_,l',q'⟩:=rv;refine yH (H:=C.H) l l' QI VE q q' hyz (G.ext x).o λs₂ I W St x₂ it QR hW hI Ri=> ?_;obtain⟨o,e,n,hc⟩:=hI;exact ng GO G (x.trans x₂) (it _ G.a.1) (T:=λt=> ∀a v,Iu t (.ref a) v=pure ()) (tgt:= .Name f p) (λa v=>rfl) (λv=>rfl) QR (λb hb=>H8 x.size (hW b hb)) (λi hi=>nomatch hi) (λs' k=>⟨o,n.keep k e,hc⟩) (II e) (by decide) (by decide) su qY (λs' Q E k h=>Ri s' _ Q E k h) Q7
  |_=>exact a9 hp
 |_=>exact a9 hp
theorem g9 {q:HJ×List Expr} (h:jq ns e=H7 q): ∃p pos,e= .Call (.Name q.1 p) q.2 [] pos/\Nm ns q.1:=
 ae h λc hc h=>ae h λf hf h=>cX h λhg h=>by cases h;exact de hg λh _=>de h λh1 h2=>(lg hf).elim λp hp=>⟨p,c.2.2,hp▸jO hc,h1,eq_of_beq h2⟩
theorem Az (GO:ai C Γ) (S:d0 C Γ Q4 n) {g:Option aO} (hn:Nm ns f) (hg:C.gl f=g) (h:sF (sE C.gl Q4 n ns) (λa=>(jq ns a).bind λq=>(C.gl q.1).bind (sLA (sE C.gl Q4 n ns) (sL C.gl Q4 n ns) q.2)) (sL C.gl Q4 n ns args) args g=H7 pe):
  aI C Γ Q4 ns (.Call (.Name f p) args [] pos) pe:=by
 cases g with
 |none=>exact a9 h
 |some g=>
  cases g with
  |fn k=>exact aL h λRH has=>BC GO S hn hg has
  |bi k=>exact aL h λRH has=>BD GO S hn hg has
  |ty t=>
   refine ct h (λht h=> ?_) λ_ h=>ct h (λht h=> ?_) λ_ h=>a9 h
   ·subst ht
    refine ae h λa e h=>db e▸ed h (λpa ha h=>by cases h;exact n5 GO hn hg ⟨S.e _ _ _ ha,dE ha⟩) λ_ h=>ae h λq hq h=>ae h λg U1 h=> ?_
    obtain⟨p',Vt,rfl,Ra⟩:=g9 hq;cases g with
    |gen k=>exact aL h λRH has=>tq GO S hn hg Ra U1 has
    |ty t=>exact ct h (λht h=>ae h λq e h=>gS e▸bH h λ_ _ ha hb=>tn GO hn hg Ra (ht▸U1) ⟨S.e _ _ _ ha,dE ha⟩ ⟨S.e _ _ _ hb,dE hb⟩) λ_ h=>a9 h
    |_=>exact a9 h
   ·subst ht
    exact aL h λRH has=>qD GO S hn hg has
  |_=>exact a9 h
theorem Aw (S:d0 C Γ Q4 n) {q:ME×Expr×List Expr} (h:w_ e=H7 q) (ha:aI C Γ Q4 ns q.2.1 pa) (has:sL C.gl Q4 n ns q.2.2=H7 RH):
  aI C Γ Q4 ns e (.meth q.1 pa RH):=
 ae h λc hc h=>ae h λt ht h=>cX h λhg h=>by
  rw [jO hc,nH ht];revert ha has;exact aL h λk hk ha has A Q5 ρ ok s r G hp=>ae hp λa Rz hp=>ae hp λvs QU hp=>de hg λh1 h2=>de h1 λh1 h3=>
   AW hk h3 h1 h2 (ha A Q5 ρ ok s a G Rz) (λs₁ x=>S.l _ _ _ has A Q5 ρ ok s₁ vs (G.ext x) QU) hp G.o G.m
theorem rm {q:Option Expr×Option Expr×Option Expr} (h:uj e=H7 q): ∃p,e= .Slice q.1 q.2.1 q.2.2 p:=by
 cases e with
 |Slice a b c p=>cases h;exact⟨p,rfl⟩
 |_=>exact a9 h
theorem A2 (GO:ai C Γ) (S:d0 C Γ Q4 n) (h:sE C.gl Q4 (n+1) ns e=H7 pe):aI C Γ Q4 ns e pe:=by
 cases e with
 |Constant c _ _=>exact yy h
 |Name x _=>exact cX h λhx h=>Av GO hx h
 |BinOp l op r _=>exact bH h λa b ha hb=>D4 (S.e _ _ _ ha) (S.e _ _ _ hb)
 |UnaryOp op x _=>
  cases op with
  |USub=>exact aL h λa ha=>CY (S.e _ _ _ ha)
  |Invert=>exact aL h λa ha=>CZ (S.e _ _ _ ha)
  |_=>exact a9 h
 |Compare l UO rs _=>exact ae h λop e1 h=>ae h λr e2 h=>db e1▸db e2▸cX h λhm h=>bH h λa b ha hb=>D1 hm (S.e _ _ _ ha) (S.e _ _ _ hb)
 |IfExp c a b _=>exact gW h λ_ _ _ hc ha hb=>C_ (S.t _ _ _ hc) (S.e _ _ _ ha) (S.e _ _ _ hb)
 |List es _=>exact aL h λ_ Rr=>Ax S Rr
 |Tuple es _ _=>exact aL h λ_ Rr=>CX S Rr
 |ListComp Qv gs sc _=>exact(xm GO S h).ev
 |DictComp k v gs sc _=>exact(xn GO S h).ev
 |Subscript v i _=>
  refine ed h (λq e h=> ?_) λ_ h=>bH h λ_ _ ha hi=>C' (S.e _ _ _ ha) (S.e _ _ _ hi);obtain⟨p,rfl⟩:=rm e;exact bH h λa p ha hp=>gW (P:=λp=>aI C Γ Q4 ns _ (.slice a p.1 p.2.1 p.2.2)) hp λ_ _ _ hl hh hs=>yw S (S.e _ _ _ ha) hl hh hs
 |Call f args WD pos=>
  refine ed h (λq e h=> ?_) λ_ h=>ae h λq e h=>bH h λ_ _ ha has=>Aw S e (S.e _ _ _ ha) has;obtain⟨p,pos,e,hn⟩:=g9 e;exact e▸Az GO S hn rfl h
 |Dict keys vs pos=>exact ae h λks Tw h=>aL h λQs Ys=>Ay (S.e ns) Tw Ys
 |_=>exact a9 h
end
section
theorem pU (h:aI C Γ Q4 ns e pe):mi C Γ Q4 ns e (.ex pe):=
 λA Q5 ρ ok s xs G hp=>ae hp λv hv hp=>(h A Q5 ρ ok s v G hv).mono λu s₁ ⟨x,r⟩=>⟨x,pH x.size hp r⟩
theorem z5 (E:cx Q5 ns) (hn:Nm ns f) (hH:HK C.H s.heap) (L:cG C.H f fv)
  (hf: ∀a,fv≠ .ref a) (Qm:bU C A Q5 ok args rs s)
  (Us: ∀s₁ vs,Ext s s₁->av C.prog C.w ok s₁.heap rs vs->WP (Hj C.prog C.w) A (KG fv vs) Q s₁):
  WP (Hj C.prog C.w) A (IY (.Call (.Name f p) args [] pos) Q5) Q s:=by
 refine N1 rfl (cD E hn.p hn.k hH L ?_);refine aU hf (by rw [eN];exact fV Qm.1) ?_
 exact bj (by rw [bX];exact Qm.1) ((Qm.2 pos).mono λvs s₁ ⟨x,q⟩=>Us s₁ vs x q)
theorem xL (GO:ai C Γ) {a:Expr} (hn:Nm ns f) (hg:C.gl f=H7 (.ty "reversed")) (ha:EvS C Γ Q4 ns a pa):
  mi C Γ Q4 ns (.Call (.Name f p) [a] [] pos) (.rev pa):=λA Q5 ρ ok s xs G hp=>ae hp λv hv hp=>by
 refine z5 (rs:=[v]) G.e hn G.h (GO.ty f "reversed" hg) (λa e=>nomatch e) (oK ha G hv) λs₁ us x q=> ?_;obtain⟨u,_,rfl,ru,rfl⟩:=q;cases v with
 |list y=>
  cases hp;obtain⟨a,vs,rfl,QI,_,l,q⟩:=ru;exact(yd (s₀:=s) x.size l QI q).mono λr s₂ ⟨x₂,h⟩=>⟨x.trans x₂,h⟩
 |_=>exact a9 hp
theorem u_ (GO:ai C Γ) (S:d0 C Γ Q4 n) {g:Option aO} (hn:Nm ns f) (hg:C.gl f=g) (h:sW (sE C.gl Q4 n ns) (sL C.gl Q4 n ns args) args g=H7 pi):
  mi C Γ Q4 ns (.Call (.Name f p) args [] pos) pi:=by
 cases g with
 |none=>exact a9 h
 |some g=>
  cases g with
  |fn k=>exact aL h λ_ has=>pU (BC GO S hn hg has)
  |bi k=>exact aL h λ_ has=>pU (BD GO S hn hg has)
  |ty q=>
   refine ct h (λhq h=>aL h λ_ has=>pU (qD GO S hn (hq▸hg) has)) λ_ h=>ae h λa e h=>db e▸ct h (λhq h=> ?_) λ_ h=>ct h (λhq h=> ?_) λ_ h=>a9 h
   ·exact aL h λ_ ha=>pU (n5 GO hn (hq▸hg) ⟨S.e _ _ _ ha,dE ha⟩)
   ·exact aL h λ_ ha=>xL GO hn (hq▸hg) ⟨S.e _ _ _ ha,dE ha⟩
  |_=>exact a9 h
theorem A0 (GO:ai C Γ) (S:d0 C Γ Q4 n) (h:sI C.gl Q4 (n+1) ns e=H7 pi):mi C Γ Q4 ns e pi:=by refine ed h (λq e h=> ?_) λ_ h=>aL h λ_ he=>pU (S.e _ _ _ he);obtain⟨p,pos,e,hn⟩:=g9 e;exact e▸u_ GO S hn rfl h
theorem z' (GO:ai C Γ) (S:d0 C Γ Q4 n) (h:sT C.gl Q4 (n+1) ns e=H7 pe):dB C Γ Q4 ns e pe:=by
 cases e with
 |UnaryOp op x _=>
  cases op with
  |Not=>
   refine aL h λpa ha A Q5 ρ ok s v b G hv hb=>ae hv λu hu hv=>ae hv λc hc hv=> ?_;cases hv;cases hb;exact isTrue_not ((S.t _ _ _ ha A Q5 ρ ok s u c G hu hc).mono λb' s' ⟨e,x⟩=>⟨by rw [e],x⟩)
  |_=>exact a9 h
 |Compare l UO rs _=>
  refine ed h (λop e1 h=>ae h λr e2 h=>db e1▸db e2▸cX h λhm h=>bH h λa b ha hb=>xX (by simpa using hm) (S.e _ _ _ ha) (S.e _ _ _ hb)) λ_ h=>ae h λo e1 h=>ae h λr e2 h=> ?_
  exact gS e1▸gS e2▸cX h λhm h=>gW h λa b c ha hb hc=>xW (by simpa using hm) (S.e _ _ _ ha) (S.e _ _ _ hb) (S.e _ _ _ hc)
 |BoolOp op vs _=>
  refine aL h λRH has A Q5 ρ ok s v b G hv hb=> ?_;obtain⟨c,hc,rfl⟩:=HG.mp hv;cases hb;exact wpAny_isTrue_BoolOp (DU (S.ts _ _ _ has) G hc)
 |IfExp _ _ _ _=>exact a9 h
 |_=>exact s_ (S.e _ _ _ h) λQ5 whole=>rfl
end
theorem cP {Q4:List HJ} (GO:ai C Γ): ∀n,d0 C Γ Q4 n
 |0=>⟨λ_ _ _ h=>a9 h,λ_ _ _ h=>a9 h,λ_ _ _ h=>a9 h,λ_ _ _ h=>a9 h,λ_ _ _ h=>a9 h,λ_ _ _ h=>a9 h⟩
 |n+1=>by
  have S:=cP (Q4:=Q4) GO n;refine⟨λns e pe h=>A2 GO S h,λns e pe h=> ?_,λns es Qs h=> ?_,λns e pe h=>z' GO S h,λns es Qs h=> ?_,λns e pi h=>A0 GO S h⟩
  ·cases e with
   |none=>
    cases h;intro A Q5 ρ ok s r G hp;cases hp;exact Hi ⟨.refl _,rfl⟩
   |some e=>exact(S.e _ _ _ h)
  ·cases es with
   |nil=>
    cases h;intro A Q5 ρ ok s rs G hp;cases hp;exact bU.nil
   |cons e es=>
    intro A Q5 ρ ok s rs G;refine bH (P:=λQs=>cE Γ Qs ρ=H7 rs->bU C A Q5 ok (e::es) rs s) h λa as ha has hp=>ae hp λv hv hp=>ae hp λvs QU hp=> ?_;cases hp;exact bU.cons (c8 (dE ha)) ((S.e _ _ _ ha) A Q5 ρ ok s v G hv) λs' x=>S.l _ _ _ has A Q5 ρ ok s' vs (G.ext x) QU
  ·cases es with
   |nil=>cases h;exact .nil
   |cons e es=>exact bH (P:=cK C Γ Q4 ns _) h λa as ha has=> .cons (S.t _ _ _ ha) (S.ts _ _ _ has)
inductive PS where
 |set (x m:Nat) (e:PE)
 |own (x:Nat) (e:PE)
 |setT (xs:List Nat) (m:Nat) (e:PE)
 |swap (xs:List Nat) (es:List PE)
 |aug (x:Nat) (op:Lg) (m:Nat) (e:PE)
 |augL (x:Nat) (e:PE)
 |ret (e:PE)
 |ite (c:PE) (a b:List PS)
 |for_ (pt:PT) (it:PI) (body:List PS)
 |whl (c:PE) (body:List PS)
 |app (x m:Nat) (e:PE)
 |rev (x:Nat)
 |bad
inductive Out where
 |next (ρ:Ρ) (own:List Nat)
 |ret (v:PV)
def i9:PV->Bool
 | .none=>Hd| .bool _=>Hd| .int _=>Hd| .str _=>Hd|_=>Hb
def FS:Lg->Bool
 | .Add=>Hd
 | .Sub=>Hd
 | .Mult=>Hd
 | .LShift=>Hd
 | .RShift=>Hd
 |_=>Hb
def u0 (op:Lg):PV->PV->Bool
 | .int _,.int _=>FS op
 |_,_=>Hb
def ek (m:Nat) (ρ:Ρ) (own:List Nat):Ρ:=
 match m with
 |0=>aw ρ own
 |_=>ρ
def mOk (m:Nat) (v:PV):Bool:=
 match m with
 |0=>Hd
 |_=>i9 v
def mev (Γ:Gam) (m:Nat) (e:PE) (ρ:Ρ) (own:List Nat):Option PV:=(pev Γ e (ek m ρ own)).bind λv=>if mOk m v=Hd then H7 v else H9
def aR (own xs:List Nat):List Nat:=own.filter λi=> !xs.contains i
def eG (pt:PT) (body:Ρ->List Nat->Option Out):List PV->Ρ->List Nat->Option Out
 |[],ρ,own=>H7 (.next ρ own)
 |x::xs,ρ,own=>if(ptIdx pt).all (λi=> !own.contains i)=Hd then do
   let ρ'<-aX ρ pt x
   match<-body ρ' own with
   | .next QL Qb=>eG pt body xs QL Qb
   | .ret v=>H7 (.ret v)
  else H9
variable {own:List Nat}
theorem BM {pt:PT} {body:Ρ->List Nat->Option Out} {x:PV}:eG pt body (x::xs) ρ own=if(ptIdx pt).all (λi=> !own.contains i)=Hd then do
   let ρ'<-aX ρ pt x
   match<-body ρ' own with
   | .next QL Qb=>eG pt body xs QL Qb
   | .ret v=>H7 (.ret v)
  else H9:=rfl
def kO (test:Ρ->Option Bool) (body:Ρ->List Nat->Option Out):Nat->Ρ->List Nat->Option Out
 |0,_,_=>H9
 |n+1,ρ,own=>do
  match<-test ρ with
  |true=>do
   match<-body ρ own with
   | .next ρ' Qb=>kO test body n ρ' Qb
   | .ret v=>H7 (.ret v)
  |false=>H7 (.next ρ own)
theorem EJ {test:Ρ->Option Bool} {body:Ρ->List Nat->Option Out}:kO test body (n+1) ρ own=(do
  match<-test ρ with
  |true=>do
   match<-body ρ own with
   | .next ρ' Qb=>kO test body n ρ' Qb
   | .ret v=>H7 (.ret v)
  |false=>H7 (.next ρ own)):=rfl
mutual
noncomputable def az (Γ:Gam):PS->Ρ->List Nat->Option Out
 | .set x m e,ρ,own=>(mev Γ m e ρ own).map λv=> .next (ρ.set x (H7 v)) (aR own [x])
 | .own x e,ρ,own=>(mev Γ 0 e ρ own).bind λv=>if x<ρ.length then H7 (.next (ρ.set x (H7 v)) (x::aR own [x]))else H9
 | .setT xs m e,ρ,own=>do
  let v<-mev Γ m e ρ own;let ρ'<-aX ρ (.many xs) v
  H7 (.next ρ' (aR own xs))
 | .swap xs es,ρ,own=>do
  let vs<-cE Γ es (aw ρ own);let ρ'<-aW ρ xs vs
  H7 (.next ρ' (aR own xs))
 | .aug x op m e,ρ,own=>do
  let a<-ρ.get x;let b<-mev Γ m e ρ own;let c<-eg op a b
  if u0 op a b=Hd then H7 (.next (ρ.set x (H7 c)) (aR own [x]))else H9
 | .augL x e,ρ,own=>do
  match<-ρ.get x,<-mev Γ 0 e ρ own with
  | .list xs,.list ys=>if own.contains x=Hd/\xs.length+ys.length<=Hz then H7 (.next (ρ.set x (H7 (.list (xs++ys)))) (x::aR own [x]))else H9
  |_,_=>H9
 | .ret e,ρ,own=>(pev Γ e ρ).map .ret
 | .ite c a b,ρ,own=>do
  match<-aJ Γ c ρ with
  |true=>ag Γ a ρ own
  |false=>ag Γ b ρ own
 | .for_ pt it body,ρ,own=>do
  let xs<-pit Γ it (aw ρ own)
  eG pt (λρ own=>ag Γ body ρ own) xs ρ own
 | .whl c body,ρ,own=>kO (λρ=>aJ Γ c ρ) (λρ own=>ag Γ body ρ own) 16 ρ own
 | .app x m e,ρ,own=>do
  match<-ρ.get x with
  | .list xs=>do
   let v<-mev Γ m e ρ own
   if own.contains x=Hd/\xs.length<Hz then H7 (.next (ρ.set x (H7 (.list (xs++[v])))) own)else H9
  |_=>H9
 | .rev x,ρ,own=>do
  match<-ρ.get x with
  | .list xs=>if own.contains x=Hd/\xs.length<=Hz then H7 (.next (ρ.set x (H7 (.list xs.reverse))) own)else H9
  |_=>H9
 | .bad,_,_=>H9
noncomputable def ag (Γ:Gam):List PS->Ρ->List Nat->Option Out
 |[],ρ,own=>H7 (.next ρ own)
 |p::ps,ρ,own=>do
  match<-az Γ p ρ own with
  | .next ρ' Qb=>ag Γ ps ρ' Qb
  | .ret v=>H7 (.ret v)
end
variable {Qb:List Nat} {ps:List PS} {t:Bool} {m:Nat}
section
theorem zC {e:PE} (h:pev Γ e (ek 0 ρ own)=H7 v):mev Γ 0 e ρ own=H7 v:=aF h (if_pos rfl)
theorem af {l r:PE} {a b:PV} (hl:pev Γ l ρ=H7 a) (hr:pev Γ r ρ=H7 b) (h:eg op a b=H7 c):pev Γ (.bin op l r) ρ=H7 c:=aF hl (aF hr h)
theorem aa {p:PS} (h:az Γ p ρ own=H7 (.next ρ' Qb)):ag Γ (p::ps) ρ own=ag Γ ps ρ' Qb:=by show(az Γ p ρ own).bind _=_;rw [h];rfl
theorem ak {p:PS} (h:az Γ p ρ own=H7 (.ret v)):ag Γ (p::ps) ρ own=H7 (.ret v):=aF h rfl
theorem an {c:PE} {a b:List PS} {o:Option Out} (hc:aJ Γ c ρ=H7 t) (h:ag Γ (if t=Hd then a else b) ρ own=o):az Γ (.ite c a b) ρ own=o:=by show(aJ Γ c ρ).bind _=_;rw [hc];subst h;cases t<;>rfl
theorem dj {xs:List Nat} {e:PE} (h:pev Γ e ρ=H7 v) (hb:aX ρ (.many xs) v=H7 ρ'):az Γ (.setT xs 0 e) ρ []=H7 (.next ρ' []):=aF (zC (own:=[]) h) (aF hb rfl)
theorem lU {xs:List Nat} {es:List PE} {vs:List PV} (h:cE Γ es ρ=H7 vs) (hb:aW ρ xs vs=H7 ρ'):az Γ (.swap xs es) ρ []=H7 (.next ρ' []):=aF h (aF hb rfl)
theorem dq {x:Nat} {e:PE} {a b:PV} (hx:ρ.get x=H7 a) (h:pev Γ e ρ=H7 b) (hc:eg op a b=H7 c) (ho:u0 op a b=Hd):az Γ (.aug x op 0 e) ρ []=H7 (.next (ρ.set x (H7 c)) []):=
 aF hx (aF (zC (own:=[]) h) (aF hc (if_pos ho)))
theorem aC {e:PE} (h:pev Γ e ρ=H7 v):az Γ (.ret e) ρ own=H7 (.ret v):=congrArg (Lu Out.ret) h
theorem ac {e:PE} {es:List PE} {vs:List PV} (h:pev Γ e ρ=H7 v) (h2:cE Γ es ρ=H7 vs):cE Γ (e::es) ρ=H7 (v::vs):=aF h (aF h2 rfl)
theorem bY:cE Γ [] ρ=H7 []:=rfl
theorem aq {as:List PE} {vs:List PV} (h:cE Γ as ρ=H7 vs) (hf:Γ.fn k vs=H7 r):pev Γ (.call k as) ρ=H7 r:=aF h hf
theorem eE {pt:PT} {it:PI} {body:List PS} (h:pit Γ it (aw ρ own)=H7 xs):az Γ (.for_ pt it body) ρ own=eG pt (λρ own=>ag Γ body ρ own) xs ρ own:=by
 show(pit Γ it (aw ρ own)).bind (λxs=>eG pt (λρ own=>ag Γ body ρ own) xs ρ own)=_;rw [h]
 rfl
theorem cw {p:PS} (h:az Γ p ρ own=H7 (.next ρ' Qb)):ag Γ [p] ρ own=H7 (.next ρ' Qb):=(aa h).trans rfl
theorem e9 {x:Nat} {e:PE} (h:pev Γ e (ek m ρ own)=H7 v) (hm:mOk m v=Hd):az Γ (.set x m e) ρ own=H7 (.next (ρ.set x (H7 v)) (aR own [x])):=
 congrArg (Lu λv=>Out.next (ρ.set x (H7 v)) (aR own [x])) (aF h (if_pos hm))
theorem au {x:Nat} {e:PE} (h:pev Γ e ρ=H7 v):az Γ (.set x 0 e) ρ []=H7 (.next (ρ.set x (H7 v)) []):=e9 (own:=[]) h rfl
theorem c7 {op:Ok} {l r:PE} {a b:PV} (hl:pev Γ l ρ=H7 a) (hr:pev Γ r ρ=H7 b) (h:gp op a b=H7 t):aJ Γ (.cmp op l r) ρ=H7 t:=aF (aF hl (aF hr (congrArg (Lu PV.bool) h))) rfl
theorem fF {x:Nat} {e:PE} (hx:ρ.get x=H7 (.list xs)) (h:mev Γ m e ρ own=H7 v) (ho:own.contains x=Hd) (hl:xs.length<Hz):
  az Γ (.app x m e) ρ own=H7 (.next (ρ.set x (H7 (.list (xs++[v])))) own):=aF hx (aF h (if_pos ⟨ho,hl⟩))
end
def ez (C:Cx) (ok:Hw->Prop) (h:IL) (pv:PV) (a:Hw):Prop:=
 match pv with
 | .list xs=> ∃vs,h.PlainList a vs.toArray/\av C.prog C.w ok h xs vs
 |_=>False
structure FSt (C:Cx) (Q4:List HJ) (A:IZ) (Q5:MY) (ns:ay) (s₀:Hh) (Q6 W:Hw->Prop) (ok:Hw->Prop) (om:List (Nat×Hw)) (ρ:Ρ) (s:Hh):Prop where
 a:AOk C.d A
 e:cx Q5 ns
 x:Ext s₀ s
 h:HK C.H s₀.heap
 y:Sys C.H
 f:aG s.heap Q5 ns
 r:cU C.prog C.w Q4 ok s.heap Q5 (aw ρ (om.map (·.1)))
 l:ρ.length<=Q4.length
 v: ∀b,bF Q5 b-> ∃o,vis s.heap b=H7 o
 free:bS ok s.heap
 home: ∀b,bg Q5 ns b-> ¬ok b/\s₀.heap.objs.size<=b
 sub: ∀b,ok b->Q6 b
 free₀:bS Q6 s₀.heap
 ow: ∀p∈om,∃x pv,Q4.idxOf x=p.1/\x∈Q4/\ρ.get p.1=H7 pv/\aY s.heap Q5 x (.ref p.2)/\ez C ok s.heap pv p.2/\ ¬ok p.2/\ ¬bF Q5 p.2/\s₀.heap.objs.size<=p.2
 nd:(om.map (·.1)).Nodup/\(om.map (·.2)).Nodup
 w: ∀b,W b-> ¬ok b/\ ¬bF Q5 b/\b∉om.map (·.2)/\b<s.heap.objs.size
structure Tr (W ok ok':Hw->Prop) (s s':Hh):Prop where
 keep: ∀b o,ok b∨W b->vis s.heap b=H7 o->vis s'.heap b=H7 o
 sup: ∀b o,ok b->vis s.heap b=H7 o->ok' b
 gens: ∀(i:Nat) (g:M4),s.gens[i]? =H7 g->s'.gens[i]? =H7 g
 os:s'.os=s.os
theorem Tr.refl (W ok:Hw->Prop) (s:Hh):Tr W ok ok s s:=⟨λ_ _ _ e=>e,λ_ _ h _=>h,λ_ _ e=>e,rfl⟩
variable {W:Hw->Prop} {Qj:Hh}
theorem Tr.trans {TR:Hw->Prop} (x:Tr W ok ok' s s') (y:Tr W ok' TR s' Qj):Tr W ok TR s Qj:=
 ⟨λb o h e=>y.keep b o (h.imp (λh=>x.sup b o h e) id) (x.keep b o h e),λb o h e=>y.sup b o (x.sup b o h e) (x.keep b o (.inl h) e),λi g e=>y.gens i g (x.gens i g e),y.os.trans x.os⟩
variable {Q6:Hw->Prop} {om:List (Nat×Hw)} {L:List Hw}
section
abbrev okF (ok:Hw->Prop) (om:List (Nat×Hw)):Hw->Prop:=λb=>ok b∨b∈om.map (·.2)
@[elab_as_elim] theorem ez.two {Q:PV->Prop} (x:ez C ok h pv a) (k1: ∀xs vs,h.PlainList a vs.toArray->av C.prog C.w ok h xs vs->Q (.list xs)):Q pv:=by
 cases pv with
 |list xs=>exact KF x λvs h=>k1 xs vs h.1 h.2
 |_=>exact False.elim x
theorem ez.frame (x:ez C ok h pv a) (k: ∀b,ok b∨b=a-> ∀o,vis h b=H7 o->vis h' b=H7 o) (sup: ∀b o,ok b->vis h b=H7 o->ok' b):ez C ok' h' pv a:=
 x.two λxs vs l q=>⟨vs,Ao l λo e=>k a (.inr rfl) o e,q.mono (λb hb h=>h.elim λo e=>sup b o hb e) λb hb o e=>k b (.inl hb) o e⟩
theorem ez.has (x:ez C ok h pv a): ∃o,vis h a=H7 o:=x.two λxs vs l q=>CR l
theorem ez.plain (x:ez C ok h pv a): ∀o,h.get? a=H7 o->aK o:=x.two λxs vs l q=>gC l
theorem ez.rep (x:ez C ok h pv a) (hs:(a==IA)=Hb) (w: ∀b,ok b->ok' b) (ha:ok' a):Rep C.prog C.w ok' h pv (.ref a):=
 x.two λxs vs l q=>⟨a,vs,rfl,ha,hs,l,q.mono (λb hb _=>w b hb) λ_ _ _ e=>e⟩
theorem FSt.move (F:FSt C Q4 A Q5 ns s₀ Q6 W ok om ρ s) (x:Ext s₀ s') (sz:s.heap.objs.size<=s'.heap.objs.size)
  (kr: ∀b,bF Q5 b-> ∀o,vis s.heap b=H7 o->vis s'.heap b=H7 o) (ko: ∀b,ok b-> ∀o,vis s.heap b=H7 o->vis s'.heap b=H7 o)
  (kw: ∀b,b∈om.map (·.2)-> ∀o,vis s.heap b=H7 o->vis s'.heap b=H7 o) (kW: ∀b,W b-> ∀o,vis s.heap b=H7 o->vis s'.heap b=H7 o)
  (sup: ∀b o,ok b->vis s.heap b=H7 o->ok' b) (sub: ∀b,ok' b->ok b) (free:bS ok' s'.heap):FSt C Q4 A Q5 ns s₀ Q6 W ok' om ρ s' where
 a:=F.a
 e:=F.e
 x:=x
 h:=F.h
 y:=F.y
 f:=F.f.at λb hb o e=>kr b (hb.reads F.e) o e
 r:=F.r.at kr ko sup
 l:=F.l
 v:=λb hb=>by obtain⟨o,e⟩:=F.v b hb;exact⟨o,kr b hb o e⟩
 free:=free
 home:=λb hb=>⟨λh=>(F.home b hb).1 (sub b h),(F.home b hb).2⟩
 sub:=λb h=>F.sub b (sub b h)
 free₀:=F.free₀
 ow:=λp hp=>by obtain⟨x,pv,h1,h2,h3,V,O,h4,h5,h6⟩:=F.ow p hp;exact⟨x,pv,h1,h2,h3,V.at kr,O.frame (λb hb o e=>hb.elim (λhb=>ko b hb o e) λhb=>kw b (hb▸HT (f:=(·.2)) hp) o e) sup,λh=>h4 (sub _ h),h5,h6⟩
 nd:=F.nd
 w:=λb hb=>by obtain⟨h1,h2,h3,e⟩:=F.w b hb;exact⟨λh=>h1 (sub b h),h2,h3,Ha e sz⟩
theorem FSt.ext (F:FSt C Q4 A Q5 ns s₀ Q6 W ok om ρ s) (x:Ext s s'):FSt C Q4 A Q5 ns s₀ Q6 W ok om ρ s':=
 F.move (F.x.trans x) x.size (λb _ o e=>x.keep b o e) (λb _ o e=>x.keep b o e) (λb _ o e=>x.keep b o e) (λb _ o e=>x.keep b o e) (λ_ _ h _=>h) (λ_ h=>h) (F.free.keep x.size)
theorem FSt.hk (F:FSt C Q4 A Q5 ns s₀ Q6 W ok om ρ s):HK C.H s.heap:=F.h.trans F.x.keep
theorem FSt.sys (F:FSt C Q4 A Q5 ns s₀ Q6 W ok om ρ s):Sys s.heap:=F.y.keep F.hk
theorem Ext.tr (x:Ext s s'):Tr W ok ok s s':=⟨λb o _ e=>x.keep b o e,λ_ _ h _=>h,x.gens,x.os⟩
theorem FSt.less (F:FSt C Q4 A Q5 ns s₀ Q6 W ok om ρ s) (x:Ext s s') (hL: ∀b∈L,s.heap.objs.size<=b) (Ua: ∀b∈L,b<s'.heap.objs.size):FSt C Q4 A Q5 ns s₀ Q6 W (okW ok L) om ρ s':=
 F.move (F.x.trans x) x.size (λb _ o e=>x.keep b o e) (λb _ o e=>x.keep b o e) (λb _ o e=>x.keep b o e) (λb _ o e=>x.keep b o e)
  (λb o h e=>⟨h,λq=>Hr _ (Ha (ao e) (hL b q))⟩) (λ_ h=>h.1) λb hb=>⟨F.free b (H8 x.size hb),λq=>Hr _ (Ha (Ua b q) hb)⟩
theorem oQ (x:Ext s s') (hL: ∀b∈L,s.heap.objs.size<=b):Tr W ok (okW ok L) s s':=
 ⟨λb o _ e=>x.keep b o e,λb o h e=>⟨h,λq=>Hr _ (Ha (ao e) (hL b q))⟩,x.gens,x.os⟩
theorem FSt.same (F:FSt C Q4 A Q5 ns s₀ Q6 W ok om ρ s) {L:Hw} (hs:Iz L s.heap h') (Ql: ∀o,s.heap.get? L=H7 o->aK o) (h0:s₀.heap.objs.size<=L) (h1: ¬ok L) (h2: ¬bF Q5 L) (h3:L∉om.map (·.2)) (h4: ¬W L):
  FSt C Q4 A Q5 ns s₀ Q6 W ok om ρ {s with heap:=h'}:=
 F.move ⟨λb o e=>ax hs Ql (λq=>Hr _ (Ha (ao e) (q▸h0))) (F.x.keep b o e),by show _<=h'.objs.size;rw [hs.1];exact F.x.size,F.x.gens,F.x.os⟩ (Hu hs.1.symm)
  (λb hb o e=>ax hs Ql (λq=>h2 (q▸hb)) e) (λb hb o e=>ax hs Ql (λq=>h1 (q▸hb)) e) (λb hb o e=>ax hs Ql (λq=>h3 (q▸hb)) e) (λb hb o e=>ax hs Ql (λq=>h4 (q▸hb)) e)
  (λ_ _ h _=>h) (λ_ h=>h) λb hb=>F.free b (by have:=hs.1;exact this▸hb)
theorem bM: ∀{ms:List Nat} {ρ:Ρ} {i:Nat},i∉ms->Ρ.get (aw ρ ms) i=ρ.get i
 |[],ρ,i,_=>rfl
 |m::ms,ρ,i,h=>by rw [aw,bM (λq=>h (Hq _ q)),aD (λq=>h (by rw [q];exact Hs))]
theorem FSt.good0 (F:FSt C Q4 A Q5 ns s₀ Q6 W ok om ρ s):d5 C Q4 A Q5 ns (aw ρ (om.map (·.1))) ok s:=
 ⟨F.a,F.e,F.hk,F.r,F.free,F.sys,by rw [fE];exact F.l,F.v⟩
theorem FSt.goodF (F:FSt C Q4 A Q5 ns s₀ Q6 W ok om ρ s):d5 C Q4 A Q5 ns ρ (okF ok om) s:=by
 refine⟨F.a,F.e,F.hk,λx pv hx hp=> ?_,λb hb=> .inl (F.free b hb),F.sys,F.l,F.v⟩;by_cases hi:Q4.idxOf x∈om.map (·.1)
 ·obtain⟨p,UT,US⟩:=HC.mp hi
  obtain⟨x',R_,h1,h2,h3,V,O,h4,h5,h6⟩:=F.ow p UT;haveI hxx:x=x':=by
   by_cases q:x=x'
   ·exact q
   ·exact absurd (US.symm.trans h1.symm) (e_ h2 q)
  subst hxx;rw [h1]at hp;cases hp.symm.trans h3;exact⟨.ref p.2,V,O.rep (beq_eq_false_iff_ne.mpr λq=>by obtain⟨⟨o1,e1⟩,_⟩:=F.y;have:=ao (F.h _ _ e1);rw [<-q]at this;exact Hr _ (Ha this h6)) (λb h=> .inl h) (.inr (HT (f:=(·.2)) UT))⟩
 ·obtain⟨v,V,R⟩:=F.r x pv hx (by rw [bM hi];exact hp)
  exact⟨v,V,R.wide λb h=> .inl h⟩
theorem AA (F:FSt C Q4 A Q5 ns s₀ Q6 W ok om ρ s) (h:okF ok om b):Q6 b:=by
 rcases h with h|h
 ·exact F.sub b h
 ·obtain⟨p,hp,rfl⟩:=HC.mp h
  obtain⟨_,_,_,_,_,_,_,_,_,h6⟩:=F.ow p hp;exact F.free₀ _ h6
end
variable {Qt Qn:Ρ}
theorem jX {xs:List Nat} {vs:List PV} (h1:aW ρ₁ xs vs=H7 Qt):aW ρ₂ xs vs=H7 Qn->ρ₁.length=ρ₂.length->(∀i,i∈xs->Qt.get i=Qn.get i)/\(∀i,ρ₁.get i=ρ₂.get i->Qt.get i=Qn.get i):=by
 refine dT (P:=λρ₁ xs vs Qt=> ∀{ρ₂},aW ρ₂ xs vs=H7 Qn->ρ₁.length=ρ₂.length->(∀i,i∈xs->Qt.get i=Qn.get i)/\(∀i,ρ₁.get i=ρ₂.get i->Qt.get i=Qn.get i)) h1 (λρ ρ₂ h _=> ?_) λρ₁ x xs v vs Qt _ ih ρ₂ h2 hl=> ?_
 ·cases h;exact⟨λi hi=>(nomatch hi),λi h=>h⟩
 ·obtain⟨a,b⟩:=ih h2 (by rw [Kw,Kw];exact hl)
  haveI same:Ρ.get (ρ₁.set x (H7 v)) x=Ρ.get (ρ₂.set x (H7 v)) x:=by
   unfold Ρ.get;rw [Ki,Ki];by_cases hx:x<ρ₁.length
   ·rw [HB hx,HB (hl▸hx)];rfl
   ·have hx:=Ix hx
    rw [Ky hx,Ky (hl▸hx)]
  have key: ∀i,(i≠x->ρ₁.get i=ρ₂.get i)->Qt.get i=Qn.get i:=λi hi=>by
   by_cases e:i=x
   ·rw [e];exact b x same
   ·exact b i (by rw [aD e,aD e];exact hi e)
  exact⟨λi hi=>(Hp.mp hi).elim (λe=>key i λn=>absurd e n) (a i),λi hi=>key i λ_=>hi⟩
theorem tR {pt:PT} (h1:aX ρ₁ pt v=H7 Qt):aX ρ₂ pt v=H7 Qn->ρ₁.length=ρ₂.length->(∀i,i∈ptIdx pt->Qt.get i=Qn.get i)/\(∀i,ρ₁.get i=ρ₂.get i->Qt.get i=Qn.get i):=
 i8 h1 (λx h2 hl=>jX (xs:=[x]) (vs:=[v]) (ρ₁:=ρ₁) (ρ₂:=ρ₂) rfl h2 hl) λ_ _ h1 h2 hl=>jX h1 h2 hl
theorem rn {xs:List Nat} {vs:List PV} (h1:aW ρ₁ xs vs=H7 Qt): ∃Qn,aW ρ₂ xs vs=H7 Qn:=
 dT (P:=λ_ xs vs _=> ∀ρ₂,∃Qn,aW ρ₂ xs vs=H7 Qn) h1 (λ_ ρ₂=>⟨ρ₂,rfl⟩) (λ_ _ _ _ _ _ _ ih ρ₂=>ih _) ρ₂
theorem tQ {pt:PT} (h1:aX ρ₁ pt v=H7 Qt): ∃Qn,aX ρ₂ pt v=H7 Qn:=i8 h1 (λ_=>⟨_,rfl⟩) λ_ _ h=>rn h
section
theorem aT (om:List (Nat×Hw)) (xs:List Nat):(om.filter λp=> !xs.contains p.1).map (·.1)=aR (om.map (·.1)) xs:=by
 unfold aR;rw [O4]
 rfl
theorem gL {xs:List Nat}:i∈aR own xs↔i∈own/\i∉xs:=by simp [aR]
theorem FSt.bind (F:FSt C Q4 A Q5 ns s₀ Q6 W ok om ρ s) {tgt:Expr} {pt:PT} {v:Hl} (ht:sPT Q4 ns tgt=H7 pt) (hb:aX ρ pt pv=H7 ρ') (r:Rep C.prog C.w ok s.heap pv v):
  WP (Hj C.prog C.w) A (K9 tgt Q5 v) (λ_ s'=>FSt C Q4 A Q5 ns s₀ Q6 W ok (om.filter λp=> !(ptIdx pt).contains p.1) ρ' s'/\Tr W ok ok s s') s:=by
 obtain⟨ρ₂,Uc⟩:=tQ (ρ₂:=aw ρ (om.map (·.1))) hb
 refine(uN F.a.1 F.e F.f F.r (λb hb hh=>(F.home b hh).1 hb) (λb hb=>F.f.live hb) ht Uc r).mono λ_ s' ⟨B,Q7⟩=> ?_;have Sw:=tR hb Uc (by rw [fE])
 haveI W3:ρ'.length=ρ.length:=nD hb;have kp: ∀b o,¬bg Q5 ns b->vis s.heap b=H7 o->vis s'.heap b=H7 o:=B.keep;have U9: ∀b,bg Q5 ns b->bF Q5 b:=λb hb=>hb.reads F.e;refine⟨⟨F.a,F.e, ?_,F.h,F.y,B.frame, ?_,by rw [W3];exact F.l,λb hb=> ?_,λb hb=>F.free b (H8 B.size hb),F.home,F.sub,F.free₀,λp hp=> ?_, ?_,λb hb=> ?_⟩,⟨λb o h e=>kp b o (λq=> ?_) e,λ_ _ h _=>h,λi g e=>by rw [B.gens];exact e,B.os⟩⟩
 ·exact⟨λb o e=>kp b o (λq=>Hr _ (Ha (ao e) (F.home b q).2)) (F.x.keep b o e),H8 F.x.size B.size,λi g e=>by rw [B.gens];exact F.x.gens i g e,B.os.trans F.x.os⟩
 ·refine B.envr.less λi v hv=> ?_
  obtain⟨h1,h2⟩:=cY hv;rw [aT]at h1;by_cases hi:i∈ptIdx pt
  ·rw [<-Sw.1 i hi];exact h2
  ·haveI SR:i∉om.map (·.1):=λq=>h1 (gL.mpr ⟨q,hi⟩)
   rw [<-Sw.2 i (bM SR).symm];exact h2
 ·by_cases hh:bg Q5 ns b
  ·exact B.frame.live hh
  ·obtain⟨o,e⟩:=F.v b hb;exact⟨o,kp b o hh e⟩
 ·obtain⟨hp,S0⟩:=Iw.mp hp
  obtain⟨x,R_,h1,h2,h3,V,O,h4,h5,h6⟩:=F.ow p hp;have WL:p.1∉ptIdx pt:=by simpa using S0
  refine⟨x,R_,h1,h2, ?_,B.vars x _ (by rw [h1];exact WL) V,O.frame (λb hb o e=>kp b o (λq=> ?_) e) λ_ _ h _=>h,h4,h5,h6⟩
  ·exact jP hb WL h3
  ·rcases hb with hb|hb
   ·exact(F.home b q).1 hb
   ·exact h5 (hb▸U9 b q)
 ·refine⟨?_, ?_⟩
  ·exact(F.nd.1).sublist (Kx _ Kd)
  ·exact(F.nd.2).sublist (Kx _ Kd)
 ·obtain⟨h1,h2,h3,e⟩:=F.w b hb
  exact⟨h1,h2,λq=>h3 (by obtain⟨p,hp,e'⟩:=HC.mp q;exact e'▸HT (f:=(·.2)) (Iw.mp hp).1),Ha e B.size⟩
 ·rcases h with h|h
  ·exact(F.home b q).1 h
  ·exact(F.w b h).2.1 (U9 b q)
theorem iZ {x:PV} {v:Hl} (hs:i9 x=Hd) (r:Rep C.prog C.w ok' h x v):Rep C.prog C.w ok h' x v:=by cases x<;>first|exact r|cases hs
end
variable {line:Nat}
section
variable {W':Hw->Prop}
theorem FSt.setW (F:FSt C Q4 A Q5 ns s₀ Q6 W ok om ρ s) (h: ∀b,W' b-> ¬ok b/\ ¬bF Q5 b/\b∉om.map (·.2)/\b<s.heap.objs.size):FSt C Q4 A Q5 ns s₀ Q6 W' ok om ρ s:=
 {F with w:=h}
theorem FSt.own_live (F:FSt C Q4 A Q5 ns s₀ Q6 W ok om ρ s) (hb:b∈om.map (·.2)):b<s.heap.objs.size:=by obtain⟨p,hp,rfl⟩:=HC.mp hb;obtain⟨_,_,_,_,_,_,O,_⟩:=F.ow p hp;obtain⟨o,e⟩:=O.has;exact ao e
theorem FSt.reads_live (F:FSt C Q4 A Q5 ns s₀ Q6 W ok om ρ s) (hb:bF Q5 b):b<s.heap.objs.size:=by obtain⟨o,e⟩:=F.v b hb;exact ao e
theorem FSt.w_live (F:FSt C Q4 A Q5 ns s₀ Q6 W ok om ρ s) (hb:W b):b<s.heap.objs.size:=by obtain⟨_,_,_,e⟩:=F.w b hb;exact e
theorem fG (h:mev Γ m pe ρ own=H7 v):pev Γ pe (ek m ρ own)=H7 v/\mOk m v=Hd:=by unfold mev at h;simp only [Ho]at h;obtain⟨v',h1,h2⟩:=h;obtain⟨h3,rfl⟩:=ah h2;exact⟨h1,h3⟩
theorem lj (hE:aI C Γ Q4 ns e pe) (F:FSt C Q4 A Q5 ns s₀ Q6 W ok om ρ s) (hp:mev Γ m pe ρ (om.map (·.1))=H7 v):WP (Hj C.prog C.w) A (IY e Q5) (Ev C ok v s) s:=by
 obtain⟨h1,h2⟩:=fG hp;cases m with
 |zero=>exact hE A Q5 _ ok s v F.good0 h1
 |succ m=>exact(hE A Q5 _ _ s v F.goodF h1).mono λu s' h=>⟨h.1,iZ h2 h.2⟩
def fQ:Expr->Bool
 | .ListComp .. =>Hd
 | .SetComp .. =>Hd
 | .DictComp .. =>Hd
 |_=>Hb
theorem bo {t:Option Expr} (h:fQ Qf=Hb):Oo Qf t line Q5=pure Hb:=by cases Qf<;>first|rfl|cases h
theorem rJ {t:Expr}:LU [t] Qf line Q5=Oo Qf (H7 t) line Q5:=rfl
theorem cR:JD [.Name x p] Qf Q5=pure H9:=by cases Qf<;>rfl
abbrev cL (C:Cx) (Q4:List HJ) (A:IZ) (Q5:MY) (ns:ay) (s₀:Hh) (Q6 W ok:Hw->Prop) (s:Hh) (o:Out):LR->Hh->Prop:=λf s'=>match o with
 | .next ρ' Qb=>f= .next/\ ∃ok' Rf,FSt C Q4 A Q5 ns s₀ Q6 W ok' Rf ρ' s'/\Tr W ok ok' s s'/\Rf.map (·.1)=Qb
 | .ret v=> ∃u,f= .ret u/\Ext s₀ s'/\Rep C.prog C.w Q6 s'.heap v u
theorem cL.nx {c:J_ LR} (h: ∀K:Hh->Prop,(∀s' ok' Rf,FSt C Q4 A Q5 ns s₀ Q6 W ok' Rf ρ' s'->Tr W ok ok' s s'->Rf.map (·.1)=Qb->K s')->WP (Hj C.prog C.w) A c (λf s'=>f= .next/\K s') s):
  WP (Hj C.prog C.w) A c (cL C Q4 A Q5 ns s₀ Q6 W ok s (.next ρ' Qb)) s:=h (λs'=> ∃ok' Rf,FSt C Q4 A Q5 ns s₀ Q6 W ok' Rf ρ' s'/\Tr W ok ok' s s'/\Rf.map (·.1)=Qb) λs' ok' Rf a b c=>⟨ok',Rf,a,b,c⟩
theorem zI {tgt:Expr} {Q:LR->Hh->Prop} (h1:Oo Qf (H7 tgt) pos.line Q5=pure Hb) (h2:JD [tgt] Qf Q5=pure H9) (h3: ∀u,Mh Q5 u H9 ((Jm [tgt] Q5).map (·.2))=(K9 tgt Q5 u>>=λ_=>pure .next))
  (h:WP (Hj C.prog C.w) A (IY Qf Q5) (λu s=>WP (Hj C.prog C.w) A (K9 tgt Q5 u) (λ_ s=>Q .next s) s) s):WP (Hj C.prog C.w) A (LO (.Assign [tgt] Qf pos) Q5) Q s:=by
 show WP _ A (do
  Ji pos
  if<-LU [tgt] Qf pos.line Q5 then do
   MK Qf Q5 λv=>Py v ((Jm [tgt] Q5).map (·.2))
   pure .next
  else do
   let v<-IY Qf Q5
   Mh Q5 v (<-JD [tgt] Qf Q5) ((Jm [tgt] Q5).map (·.2))) _ s
 refine WP.at (He (Jx (a:=Hb) (rJ.trans h1) ?_));simp only [Ie,if_false];refine WP.then h λu s h=> ?_;rw [h2];refine He (Hi ?_);rw [h3];exact WP.then h λ_ s h=>Hi h
theorem vm {px:Jq} (hc:fQ e=Hb) (hE:aI C Γ Q4 ns e pe) (hx:a_ ns x=Hd) (hm:x∈Q4)
  (F:FSt C Q4 A Q5 ns s₀ Q6 W ok om ρ s) (hp:mev Γ m pe ρ (om.map (·.1))=H7 v):
  WP (Hj C.prog C.w) A (LO (.Assign [.Name x px] e pos) Q5) (cL C Q4 A Q5 ns s₀ Q6 W ok s (.next (ρ.set (Q4.idxOf x) (H7 v)) (aR (om.map (·.1)) [Q4.idxOf x]))) s:=by
 refine cL.nx λK hK=> ?_;haveI R9:sPT Q4 ns (.Name x px)=H7 (.one (Q4.idxOf x)):=oA hx hm;refine zI (bo hc) cR (λ_=>rfl) ((lj hE F hp).mono λu s₁ ⟨x,r⟩=>((F.ext x).bind R9 rfl r).mono λ_ s₂ ⟨F₂,T₂⟩=>⟨rfl,hK _ ok _ F₂ (x.tr.trans T₂) (aT _ _)⟩)
end
section
theorem w9 (GO:ai C Γ) (h:sE C.gl Q4 n ns e=H7 pe) (hc:fQ e=Hd):fR C Γ Q4 ns e pe:=by
 cases n with
 |zero=>exact a9 h
 |succ n=>
  cases e with
  |ListComp=>exact xm GO (cP GO n) h
  |DictComp=>exact xn GO (cP GO n) h
  |SetComp=>exact a9 h
  |_=>exact nomatch hc
theorem t6 {px:Jq}: ∃b,Oo e (H7 (.Name x px)) line Q5=pure b:=by cases e<;>exact⟨_,rfl⟩
theorem yb {px:Jq} (hE:aI C Γ Q4 ns e pe) (We:fR C Γ Q4 ns e pe) (hx:a_ ns x=Hd) (hm:x∈Q4)
  (F:FSt C Q4 A Q5 ns s₀ Q6 W ok om ρ s) (hp:mev Γ m pe ρ (om.map (·.1))=H7 v):
  WP (Hj C.prog C.w) A (LO (.Assign [.Name x px] e pos) Q5) (cL C Q4 A Q5 ns s₀ Q6 W ok s (.next (ρ.set (Q4.idxOf x) (H7 v)) (aR (om.map (·.1)) [Q4.idxOf x]))) s:=by
 refine cL.nx λK hK=> ?_;obtain⟨b,hb⟩:=t6 (e:=e) (x:=x) (px:=px) (line:=pos.line) (Q5:=Q5);have R9:sPT Q4 ns (.Name x px)=H7 (.one (Q4.idxOf x)):=oA hx hm;cases b with
 |false=>
  exact zI hb cR (λ_=>rfl) ((lj hE F hp).mono λu s₁ ⟨x,r⟩=>((F.ext x).bind R9 rfl r).mono λ_ s₂ ⟨F₂,T₂⟩=>⟨rfl,hK _ ok _ F₂ (x.tr.trans T₂) (aT _ _)⟩)
 |true=>
  show WP _ A (do
   Ji pos
   if<-LU [.Name x px] e pos.line Q5 then do
    MK e Q5 λv=>Py v ((Jm [.Name x px] Q5).map (·.2))
    pure .next
   else do
    let v<-IY e Q5
    Mh Q5 v (<-JD [.Name x px] e Q5) ((Jm [.Name x px] Q5).map (·.2))) _ s
  refine WP.at (He (Jx (a:=Hd) (rJ.trans hb) ?_));simp only [if_true];obtain⟨Tb,_,h2,h3⟩:=We;rw [h2];obtain⟨UT,US⟩:=fG hp;obtain⟨Rn,G,W0⟩: ∃Rn,d5 C Q4 A Q5 ns (ek m ρ (om.map (·.1))) Rn s/\ ∀{L h' u},Rep C.prog C.w (okW Rn [L]) h' v u->Rep C.prog C.w (okW ok [L]) h' v u:=by
   cases m with
   |zero=>exact⟨ok,F.good0,λr=>r⟩
   |succ m=>exact⟨_,F.goodF,λr=>iZ US r⟩
  refine WP.then (Q₁:=λ_ s'=>K s') (WP.then (h3 A Q5 _ Rn s v G UT _ (λ_ s'=>K s') ?_) λ_ s' h=>Hi h) λ_ s' h=>Hi ⟨rfl,h⟩;intro D L s' x' hD hL hDL ⟨mm,hN⟩ r;have VO:L<s'.heap.objs.size:=by obtain⟨o,_,_,e,_⟩:=hN;exact II e
  have hb: ∀b∈[L],s.heap.objs.size<=b/\b<s'.heap.objs.size:=λb hb=>by rw [Hx.mp hb];exact⟨hL,VO⟩
  have F₁:=F.less x' (λb h=>(hb b h).1) λb h=>(hb b h).2;have nL: ¬okW ok [L] L:=λh=>h.2 (Jf _);have nR: ¬bF Q5 L:=λq=>Hr _ (Ha (F.reads_live q) hL);have nO:L∉om.map (·.2):=λq=>Hr _ (Ha (F.own_live q) hL)
  have nW: ¬W L:=λq=>Hr _ (Ha (F.w_live q) hL);have F₂:FSt C Q4 A Q5 ns s₀ Q6 (λb=>W b∨b=L) (okW ok [L]) om ρ s':=F₁.setW λb hb=>by
   rcases hb with hb|rfl
   ·exact F₁.w b hb
   ·exact⟨nL,nR,nO,VO⟩
  show WP _ A (K9 (.Name x px) Q5 (.ref D)) _ s';refine(F₂.bind R9 rfl (W0 r)).mono λ_ Qj ⟨F₃,T₃⟩=> ?_;have hN':Qj.heap.Ns L mm:=dD hN λo e=>T₃.keep L o (.inr (.inr rfl)) e;have Ql:=lH hN';refine⟨mm,hN',λTA hs=>hK _ (okW ok [L]) (om.filter λp=> !(ptIdx (.one (Q4.idxOf x))).contains p.1) ?_ ?_ (aT _ _)⟩
  ·have F₄:FSt C Q4 A Q5 ns s₀ Q6 W (okW ok [L]) (om.filter λp=> !(ptIdx (.one (Q4.idxOf x))).contains p.1) (ρ.set (Q4.idxOf x) (H7 v)) Qj:=F₃.setW λb hb=>F₃.w b (.inl hb)
   refine F₄.same hs Ql (H8 F.x.size hL) nL nR (λq=>nO ?_) nW;obtain⟨p,hp,e⟩:=HC.mp q;exact e▸HT (f:=(·.2)) (Iw.mp hp).1
  ·refine(oQ x' λb h=>(hb b h).1).trans ⟨λb o h e=> ?_,λb o h e=>T₃.sup b o h e,λi g e=>T₃.gens i g e,T₃.os⟩
   refine ax hs Ql (λq=> ?_) (T₃.keep b o (h.imp id λh=> .inl h) e);rcases h with h|h
   ·exact nL (q▸h)
   ·exact nW (q▸h)
end
theorem eF {f:α->β}: ∀{l:List α},(l.map f).Nodup-> ∀{p q:α},p∈l->q∈l->f p=f q->p=q
 |[],_,p,q,h,_,_=>by cases h
 |x::l,hn,p,q,hp,hq,e=>by
  have Ra:=Jc.mp hn;rcases Hp.mp hp with h1|h1<;>rcases Hp.mp hq with h2|h2
  ·rw [h1,h2]
  ·exact absurd (by have:=HT (f:=f) h2;rw [<-e,h1]at this;exact this) Ra.1
  ·exact absurd (by have:=HT (f:=f) h1;rw [e,h2]at this;exact this) Ra.1
  ·exact eF Ra.2 h1 h2 e
section
theorem FSt.bindOwn (F:FSt C Q4 A Q5 ns s₀ Q6 W ok om ρ s) {px:Jq} (hx:a_ ns x=Hd) (hm:x∈Q4) (hl:Q4.idxOf x<ρ.length)
  (h1: ¬ok a) (h2: ¬bF Q5 a) (h3:a∉om.map (·.2)) (h4: ¬W a) (h5:s₀.heap.objs.size<=a) (O:ez C ok s.heap pv a):
  WP (Hj C.prog C.w) A (K9 (.Name x px) Q5 (.ref a)) (λ_ s'=>FSt C Q4 A Q5 ns s₀ Q6 W ok ((Q4.idxOf x,a)::om.filter λp=> ![Q4.idxOf x].contains p.1) (ρ.set (Q4.idxOf x) (H7 pv)) s'/\Tr W ok ok s s') s:=by
 refine lA F.e F.f hx λh' c tk hc hs Ql hF hV S'=> ?_;have XU:bF Q5 c:=hc.reads F.e;have kp: ∀b o,b≠c->vis s.heap b=H7 o->vis h' b=H7 o:=λb o hb e=>ax hs Ql (hb) e;have hca:a≠c:=λq=>h2 (q▸XU);have QI: ∀b,ok b->b≠c:=λb hb q=>(F.home c hc).1 (q▸hb);have SD: ∀p∈om,p.2≠c:=λp hp q=>by obtain⟨_,_,_,_,_,_,_,_,h,_⟩:=F.ow p hp;exact h (q▸XU)
 have WK: ∀b,bF Q5 b-> ∃o,vis h' b=H7 o:=λb hb=>by
  by_cases q:b=c
  ·subst q
   exact hF.live hc
  ·obtain⟨o,e⟩:=F.v b hb;exact⟨o,kp b o q e⟩
 refine⟨⟨F.a,F.e, ?_,F.h,F.y,hF, ?_,by simpa using F.l,WK,λb hb=>F.free b (by have:=hs.1;exact this▸hb),F.home,F.sub,F.free₀,λp hp=> ?_, ?_,λb hb=> ?_⟩,⟨λb o h e=>kp b o (λq=> ?_) e,λ_ _ h _=>h,λ_ _ e=>e,rfl⟩⟩
 ·refine⟨λb o e=>kp b o (λq=>Hr _ (Ha (ao e) (q▸(F.home c hc).2))) (F.x.keep b o e),by show _<=h'.objs.size;rw [hs.1];exact F.x.size,F.x.gens,F.x.os⟩
 ·intro y p hy hp
  obtain⟨V8,hp⟩:=cY hp;simp only [HI,Hp,not_or,aT]at V8;have SA:y≠x:=λq=>V8.1 (by rw [q])
  have WL:Q4.idxOf y∉om.map (·.1):=λq=>V8.2 (gL.mpr ⟨q,by simpa using V8.1⟩)
  rw [aD V8.1]at hp;obtain⟨v,V,R⟩:=F.r y p hy (by rw [bM WL];exact hp)
  exact⟨v,S' y v SA V,R.mono (λ_ h _=>h) λb hb o e=>kp b o (QI b hb) e⟩
 ·rcases Hp.mp hp with rfl|hp
  ·refine⟨x,pv,rfl,hm, ?_,hV,O.frame (λb hb o e=>kp b o (hb.elim (QI b) λq=>q▸hca) e) (λ_ _ h _=>h),h1,h2,h5⟩
   show Ρ.get (ρ.set (Q4.idxOf x) (H7 pv)) (Q4.idxOf x)=H7 pv;unfold Ρ.get;rw [MO hl]
   rfl
  ·obtain⟨hp,S0⟩:=Iw.mp hp
   have S0:p.1≠Q4.idxOf x:=by simpa using S0
   obtain⟨y,R_,g1,g2,g3,V,O',g4,g5,g6⟩:=F.ow p hp;refine⟨y,R_,g1,g2,by rw [aD S0];exact g3,S' y _ (λq=>S0 (by rw [<-g1,q])) V,O'.frame (λb hb o e=>kp b o (hb.elim (QI b) λq=>q▸SD p hp) e) (λ_ _ h _=>h),g4,g5,g6⟩
 ·refine⟨Jc.mpr ⟨λq=> ?_,(F.nd.1).sublist (Kx _ Kd)⟩,Jc.mpr ⟨λq=> ?_,(F.nd.2).sublist (Kx _ Kd)⟩⟩
  ·obtain⟨p,hp,e⟩:=HC.mp q
   have:=(Iw.mp hp).2;rw [e]at this;simp at this
  ·obtain⟨p,hp,e⟩:=HC.mp q
   exact h3 (by have:=HT (f:=(·.2)) (Iw.mp hp).1;rw [e]at this;exact this)
 ·obtain⟨g1,g2,g3,e⟩:=F.w b hb
  refine⟨g1,g2,λq=> ?_,by show b<h'.objs.size;rw [hs.1];exact e⟩
  rcases Hp.mp q with q|q
  ·exact h4 (by rw [<-show b=a from q];exact hb)
  ·obtain⟨p,hp,e'⟩:=HC.mp q
   exact g3 (e'▸HT (f:=(·.2)) (Iw.mp hp).1)
 ·rcases h with h|h
  ·exact QI b h q
  ·exact(F.w b h).2.1 (q▸XU)
theorem FSt.upOwn (F:FSt C Q4 A Q5 ns s₀ Q6 W ok om ρ s) (hp:(i,a)∈om) (hl:i<ρ.length) (hs:Iz a s.heap h') (O:ez C ok h' pv a):
  FSt C Q4 A Q5 ns s₀ Q6 W ok om (ρ.set i (H7 pv)) {s with heap:=h',toks:=tk}/\Tr W ok ok s {s with heap:=h',toks:=tk}:=by
 obtain⟨x,pv0,g1,g2,g3,V0,O0,g4,g5,g6⟩:=F.ow (i,a) hp;haveI Ql:=O0.plain;have kp: ∀b o,b≠a->vis s.heap b=H7 o->vis h' b=H7 o:=λb o hb e=>ax hs Ql (hb) e;have QI: ∀b,ok b->b≠a:=λb hb q=>g4 (q▸hb);have Uo: ∀b,bF Q5 b->b≠a:=λb hb q=>g5 (q▸hb);haveI QJ: ∀p∈om,p≠(i,a)->p.1≠i/\p.2≠a:=λp h1 h2=>⟨λq=>h2 (eF F.nd.1 h1 hp q),λq=>h2 (eF F.nd.2 h1 hp q)⟩;refine⟨⟨F.a,F.e,⟨λb o e=>kp b o (λq=>Hr _ (Ha (ao e) (q▸g6))) (F.x.keep b o e),by show _<=h'.objs.size;rw [hs.1];exact F.x.size,F.x.gens,F.x.os⟩,F.h,F.y,
  F.f.at λb hb o e=>kp b o (Uo b (hb.reads F.e)) e, ?_,by simpa using F.l,λb hb=>by obtain⟨o,e⟩:=F.v b hb;exact⟨o,kp b o (Uo b hb) e⟩,λb hb=>F.free b (by have:=hs.1;exact this▸hb),F.home,F.sub,F.free₀,λp h1=> ?_,F.nd,λb hb=> ?_⟩,
  ⟨λb o h e=>kp b o (λq=> ?_) e,λ_ _ h _=>h,λ_ _ e=>e,rfl⟩⟩
 ·refine(F.r.at (λb hb o e=>kp b o (Uo b hb) e) (λb hb o e=>kp b o (QI b hb) e) λ_ _ h _=>h).less λj v hj=> ?_
  obtain⟨h1,h2⟩:=cY hj;rw [bM h1];rw [aD λq=>h1 (by rw [q];exact HT (f:=(·.1)) hp)]at h2
  exact h2
 ·by_cases hpq:p=(i,a)
  ·subst hpq
   refine⟨x,pv,g1,g2, ?_,V0.at (λb hb o e=>kp b o (Uo b hb) e),O,g4,g5,g6⟩;show Ρ.get (ρ.set i (H7 pv)) i=H7 pv;unfold Ρ.get;rw [MO hl]
   rfl
  ·obtain⟨n1,n2⟩:=QJ p h1 hpq
   obtain⟨y,R_,k1,k2,k3,V,O',k4,k5,k6⟩:=F.ow p h1;exact⟨y,R_,k1,k2,by rw [aD n1];exact k3,V.at (λb hb o e=>kp b o (Uo b hb) e),O'.frame (λb hb o e=>kp b o (hb.elim (QI b) λq=>q▸n2) e) (λ_ _ h _=>h),k4,k5,k6⟩
 ·obtain⟨k1,k2,k3,e⟩:=F.w b hb
  exact⟨k1,k2,k3,by show b<h'.objs.size;rw [hs.1];exact e⟩
 ·rcases h with h|h
  ·exact QI b h q
  ·exact(F.w b h).2.2.1 (q▸HT (f:=(·.2)) hp)
end
variable {lp:Jq}
section
theorem yt {px:Jq} (F:FSt C Q4 A Q5 ns s₀ Q6 W ok om ρ s) (hE:bU C A Q5 ok es rs s) (Q7:rs.length<=Hz) (hx:a_ ns x=Hd) (hm:x∈Q4) (hl:Q4.idxOf x<ρ.length):
  WP (Hj C.prog C.w) A (LO (.Assign [.Name x px] (.List es lp) pos) Q5) (cL C Q4 A Q5 ns s₀ Q6 W ok s (.next (ρ.set (Q4.idxOf x) (H7 (.list rs))) (Q4.idxOf x::aR (om.map (·.1)) [Q4.idxOf x]))) s:=by
 refine cL.nx λK hK=> ?_;refine zI (bo rfl) cR (λ_=>rfl) ((kL hE Q7 F.sys).mono λv s₁ ⟨x₁,a,vs,hv,ha,l,q,hs⟩=> ?_);subst hv;haveI Qp:a<s₁.heap.objs.size:=by obtain⟨n,e⟩:=l;exact II e
 have V3: ∀b,b<s.heap.objs.size->b≠a:=λb hb q=>Hr _ (Ha hb (q▸ha));haveI F₁:=F.less x₁ (L:=[a]) (λb hb=>by rw [Hx.mp hb];exact ha) (λb hb=>by rw [Hx.mp hb];exact Qp)
 haveI hB:=F₁.bindOwn (px:=px) (pv:= .list rs) (a:=a) hx hm hl (λh=>h.2 (Jf _)) (λh=>V3 a (F.reads_live h) rfl) (λh=>V3 a (F.own_live h) rfl) (λh=>V3 a (F.w_live h) rfl) (H8 F.x.size ha)
  ⟨vs,l,q.mono (λb hb _=>⟨hb.1,by simpa using hb.2⟩) λ_ _ _ e=>e⟩
 refine hB.mono λ_ s₂ ⟨F₂,T₂⟩=> ?_;refine⟨rfl,hK _ _ _ F₂ ((oQ x₁ λb hb=>by rw [Hx.mp hb];exact ha).trans T₂) ?_⟩
 rw [HI,aT]
theorem FSt.goodT (F:FSt C Q4 A Q5 ns s₀ Q6 W ok om ρ s) {b:Bool} (h:dB C Γ Q4 ns e pe) (hp:aJ Γ pe ρ=H7 b):
  WP (Hj C.prog C.w) A (isTrue e Q5 (IY e Q5)) (λb' s'=>b'=b/\Ext s s') s:=by
 unfold aJ at hp;simp only [Ho]at hp;obtain⟨v,hv,hb⟩:=hp;exact h A Q5 ρ _ s v b F.goodF hv hb
theorem wU (hE:aI C Γ Q4 ns e pe) (F:FSt C Q4 A Q5 ns s₀ Q6 W ok om ρ s) (hp:pev Γ pe ρ=H7 v):
  WP (Hj C.prog C.w) A (LO (.Return (H7 e) pos) Q5) (cL C Q4 A Q5 ns s₀ Q6 W ok s (.ret v)) s:=by
 rw [LN];refine WP.at (WP.then (hE A Q5 ρ _ s v F.goodF hp) λu s₁ ⟨x,r⟩=>Hi ⟨u,rfl,F.x.trans x,r.wide λb h=>AA F h⟩)
theorem Df {c:Expr} {a b:List IR} {pa pb:List PS} {o:Out} (hc:dB C Γ Q4 ns c pc) (F:FSt C Q4 A Q5 ns s₀ Q6 W ok om ρ s) (ht:aJ Γ pc ρ=H7 t)
  (S6: ∀s',FSt C Q4 A Q5 ns s₀ Q6 W ok om ρ s'->WP (Hj C.prog C.w) A (JK (if t=Hd then a else b) Q5) (cL C Q4 A Q5 ns s₀ Q6 W ok s' o) s'):
  WP (Hj C.prog C.w) A (LO (.If c a b pos) Q5) (cL C Q4 A Q5 ns s₀ Q6 W ok s o) s:=by
 show WP _ A (do
  Ji pos
  if<-isTrue c Q5 (IY c Q5)then JK a Q5 else JK b Q5) _ s
 refine WP.at (WP.then (F.goodT hc ht) λt' s₁ ⟨TE,x⟩=> ?_);subst TE;have h:=S6 s₁ (F.ext x);have fin: ∀f s',cL C Q4 A Q5 ns s₀ Q6 W ok s₁ o f s'->cL C Q4 A Q5 ns s₀ Q6 W ok s o f s':=λf s' h=>by
  cases o with
  |next ρ' Qb=>obtain⟨h1,ok',Rf,h2,h3,h4⟩:=h;exact⟨h1,ok',Rf,h2,x.tr.trans h3,h4⟩
  |ret v=>exact h
 cases t' with
 |true=>exact h.mono fin
 |false=>exact h.mono fin
theorem cL.seq {o:Out} {f:LR} (T:Tr W ok ok' s s') (h:cL C Q4 A Q5 ns s₀ Q6 W ok' s' o f Qj):cL C Q4 A Q5 ns s₀ Q6 W ok s o f Qj:=by
 cases o with
 |next ρ' Qb=>obtain⟨h1,TR,Rf,h2,h3,h4⟩:=h;exact⟨h1,TR,Rf,h2,T.trans h3,h4⟩
 |ret v=>exact h
end
variable {xp ap cp:Jq}
section
theorem FSt.find (F:FSt C Q4 A Q5 ns s₀ Q6 W ok om ρ s) (hm:x∈Q4) (h:(om.map (·.1)).contains (Q4.idxOf x)=Hd) (hg:ρ.get (Q4.idxOf x)=H7 pv):
  ∃a,(Q4.idxOf x,a)∈om/\aY s.heap Q5 x (.ref a)/\ez C ok s.heap pv a/\ ¬ok a:=by
 have h':Q4.idxOf x∈om.map (·.1):=by simpa using h
 obtain⟨p,hp,e⟩:=HC.mp h';obtain⟨y,R_,g1,g2,g3,V,O,g4,_⟩:=F.ow p hp;have SA:y=x:=by
  by_cases q:y=x
  ·exact q
  ·exact absurd (g1.trans e) (e_ hm q)
 subst SA;have e':p.1=Q4.idxOf y:=e;rw [e',hg]at g3;cases g3;exact⟨p.2,by rw [<-e'];exact hp,V,O,g4⟩
theorem na {m:HJ} {id:String} {Q:LR->Hh->Prop} {items:Array Hl} (F:FSt C Q4 A Q5 ns s₀ Q6 W ok om ρ s) (hx:aB x=Hd)
  (V:aY s.heap Q5 x (.ref a)) (hl:s.heap.PlainList a items) (SY:Slot "list" m id) (TD:typeOf (.builtin id)=pure (.type "method_descriptor")) (UC:few args=Hd) (QG:(ap.endLine==cp.line)=Hd)
  (Qm:(Le args Q5).all (λa=> !a.1)=Hd)
  (h: ∀pos,WP (Hj C.prog C.w) A (Ob (Ot pos (Le args Q5))) (λvs s'=>WP (Hj C.prog C.w) A (KG (.builtin id) (.ref a::vs)) (λv Qj=>v= .none/\Q .next Qj) s') s):
  WP (Hj C.prog C.w) A (LO (.Expr (.Call (.Attribute (.Name x xp) m ap) args [] cp) pos) Q5) Q s:=by
 show WP _ A (do
  Ji pos
  if LX Q5 then printExpr (IY (.Call (.Attribute (.Name x xp) m ap) args [] cp) Q5)
  else if<-Oo (.Call (.Attribute (.Name x xp) m ap) args [] cp) H9 pos.line Q5 then do MK (.Call (.Attribute (.Name x xp) m ap) args [] cp) Q5 λ_=>point;pure .next
  else do dropValue (.Call (.Attribute (.Name x xp) m ap) args [] cp) pos (<-IY (.Call (.Attribute (.Name x xp) m ap) args [] cp) Q5)) Q s
 haveI hi:LX Q5=Hb:=by unfold LX;rw [F.e.kind];rfl
 rw [hi];refine WP.at ?_;simp only [Ie,if_false];refine He (Jx (a:=Hb) (bo rfl) ?_);simp only [Ie,if_false];haveI Ti:args.length<=10:=by simpa [few]using UC
 refine WP.then (Q₁:=λv Qj=>v= .none/\Q .next Qj) ?_ λv Qj ⟨hv,hq⟩=>by subst hv;exact Hi hq
 refine Lr rfl ?_ QG (jo F.e hx V ?_)
 ·rw [bX,Qm]
  exact decide_eq_true (Hk Ti (by decide):args.length<30)
 ·obtain⟨n,e⟩:=hl
  refine⟨"list",id,PySem.F.plainAttrs_list,SY,TD,⟨_,e,rfl⟩,λb hb=>⟨_,by cases hb;exact e,rfl⟩, ?_⟩
  refine aU (λb e=>by cases e) (by rw [eN];exact fV Qm) ?_
  exact bj (by rw [bX];exact Qm) ((h cp).mono λvs s₁ h₁=>h₁)
theorem DT (hx:aB x=Hd) (hm:x∈Q4) (hl:Q4.idxOf x<ρ.length) (QG:(ap.endLine==cp.line)=Hd)
  (hE:EvS C Γ Q4 ns e pe) (F:FSt C Q4 A Q5 ns s₀ Q6 W ok om ρ s) (hg:ρ.get (Q4.idxOf x)=H7 (.list xs)) (hp:mev Γ m pe ρ (om.map (·.1))=H7 v)
  (hc:(om.map (·.1)).contains (Q4.idxOf x)=Hd) (Q7:xs.length<Hz):
  WP (Hj C.prog C.w) A (LO (.Expr (.Call (.Attribute (.Name x xp) "append" ap) [e] [] cp) pos) Q5) (cL C Q4 A Q5 ns s₀ Q6 W ok s (.next (ρ.set (Q4.idxOf x) (H7 (.list (xs++[v])))) (om.map (·.1)))) s:=by
 refine cL.nx λK hK=> ?_;obtain⟨a,ha,V,⟨vs,l,q⟩,WO⟩:=F.find hm hc hg;refine na F hx V l PySem.F.slot_list_append PySem.F.type_list_append rfl QG ?_ λVt=> ?_
 ·rw [aQ (c8 hE.2)];rfl
 ·rw [aQ (c8 hE.2)]
  refine Oa ((lj hE.1 F hp).mono λu s₁ ⟨x₁,r⟩=>Nq ?_);have F₁:=F.ext x₁;obtain⟨a',Rz,V',⟨Qw,l',q'⟩,VG⟩:=F₁.find hm hc hg;haveI XX:(Q4.idxOf x,a')=(Q4.idxOf x,a):=eF (f:=(·.1)) F.nd.1 Rz ha rfl
  cases XX;haveI hsz:Qw.toArray.size<=Hz:=by rw [HO,q'.length];exact HP Q7
  refine Pw l' (λh' Ru hs=>⟨rfl, ?_⟩) hsz;haveI Ql:=gC l';have kp: ∀b,ok b-> ∀o,vis s₁.heap b=H7 o->vis h' b=H7 o:=λb hb o e=>ax hs Ql (λz=>VG (z▸hb)) e;obtain⟨F₂,T₂⟩:=F₁.upOwn (tk:=s₁.toks) Rz hl hs (pv:= .list (xs++[v])) ⟨Qw++[u],by simpa using Ru,(q'.mono (λ_ h _=>h) kp).snoc (r.mono (λ_ h _=>h) kp)⟩
  exact⟨rfl,hK _ ok om F₂ (x₁.tr.trans T₂) rfl⟩
theorem CB (hx:aB x=Hd) (hm:x∈Q4) (hl:Q4.idxOf x<ρ.length) (QG:(ap.endLine==cp.line)=Hd)
  (F:FSt C Q4 A Q5 ns s₀ Q6 W ok om ρ s) (hg:ρ.get (Q4.idxOf x)=H7 (.list xs)) (hc:(om.map (·.1)).contains (Q4.idxOf x)=Hd) (Q7:xs.length<=Hz):
  WP (Hj C.prog C.w) A (LO (.Expr (.Call (.Attribute (.Name x xp) "reverse" ap) [] [] cp) pos) Q5) (cL C Q4 A Q5 ns s₀ Q6 W ok s (.next (ρ.set (Q4.idxOf x) (H7 (.list xs.reverse))) (om.map (·.1)))) s:=by
 refine cL.nx λK hK=> ?_;obtain⟨a,ha,V,⟨vs,l,q⟩,WO⟩:=F.find hm hc hg;refine na F hx V l NY PySem.F.type_list_reverse rfl QG rfl λVt=>Nq ?_;obtain⟨n,e⟩:=l;refine LP NY ⟨_,e,rfl⟩ PySem.F.entry_list_reverse (PySem.F.args_list_reverse_1 _) (PySem.AutoListH.list_reverse_list_0 a vs.toArray n (by rw [HO,q.length];exact Q7)) ⟨e, ?_⟩
 have hs:Iz a s.heap (s.heap.update a (Ic λx=>x.reverse)):=JB ..
 haveI Ru:(s.heap.update a (Ic λx=>x.reverse)).PlainList a vs.reverse.toArray:=by
  haveI h1:=IX (Ic λx=>x.reverse) e rfl;obtain⟨n',h2⟩: ∃n',Ic (λx=>x.reverse) {cls:= .type "list",data:= .seq vs.toArray n}={cls:= .type "list",data:= .seq vs.reverse.toArray n'}:=by simp only [Ic,List.reverse_toArray];exact⟨_,rfl⟩
  exact⟨n',h1.trans (congrArg H7 h2)⟩
 haveI Ql: ∀o,s.heap.get? a=H7 o->aK o:=gC ⟨n,e⟩;haveI kp: ∀b,ok b-> ∀o,vis s.heap b=H7 o->vis (s.heap.update a (Ic λx=>x.reverse)) b=H7 o:=λb hb o e=>ax hs Ql (λz=>WO (z▸hb)) e;obtain⟨F₂,T₂⟩:=F.upOwn (tk:=s.toks) ha hl hs (pv:= .list xs.reverse) ⟨vs.reverse,Ru,(by
  have q':=q.mono (ok':=ok) (λ_ h _=>h) kp;refine kG (by simp [q'.length]) λi x v hx hv=> ?_
  have hi:i<xs.length:=by have:=(K0.mp hx).1;simpa using this
  rw [MX hi]at hx;rw [MX (by rw [q'.length];exact hi),q'.length]at hv
  obtain⟨v',e1,r⟩:=q'.get hx;rw [e1]at hv;cases hv;exact r)⟩
 exact⟨rfl,rfl,hK _ ok om F₂ T₂ rfl⟩
end
section
theorem qJ {v:Hl} (E:cx Q5 ns) (hx:aB x=Hd) (V:aY s.heap Q5 x v) (h:Q v s):
  WP (Hj C.prog C.w) A (loadName Q5 x) Q s:=by
 cases V with
 |loc m k n e=>exact wpAny_loadName_local E.kind k n e h
 |cel c k l e=>
  rcases k with k|k
  ·exact wpAny_loadName_cell E.kind k l e h
  ·exact wpAny_loadName_free E.kind k l e h (df hx).2
theorem jt (E:cx Q5 ns) (hx:a_ ns x=Hd):fw (Q5.kindOf x)=1/\aB x=Hd:=by simp only [a_,H_,L7,beq_iff_eq]at hx;refine⟨(E.cls x).trans ?_,hx.2⟩;rcases hx.1 with h|h<;>rw [h]<;>rfl
theorem tH {a b:PV} (ho:u0 op a b=Hd) (hp:eg op a b=H7 c) (ra:Rep C.prog C.w Rn s.heap a va) (rb:Rep C.prog C.w Rn s.heap b vb):
  WP (Hj C.prog C.w) A (inplaceOp op va vb) (λv s'=>(∃k,s'={s with toks:=k})/\Rep C.prog C.w ok s'.heap c v) s:=by
 cases a with
 |int a=>
  cases b with
  |int b=>
   obtain⟨t,rfl⟩:=ra;obtain⟨u,rfl⟩:=rb;cases op with
   |Add=>cases hp;exact iadd_int ⟨⟨_,rfl⟩,_,rfl⟩
   |Sub=>cases hp;exact PyProof.Rows.isub_int ⟨⟨_,rfl⟩,_,rfl⟩
   |Mult=>obtain⟨h1,rfl⟩:=ah hp;exact PyProof.Rows.imul_int (hm:=h1) ⟨⟨_,rfl⟩,_,rfl⟩
   |LShift=>obtain⟨h1,rfl⟩:=ah hp;exact ilshift_int h1.1 h1.2 ⟨⟨_,rfl⟩,_,rfl⟩
   |RShift=>obtain⟨h1,rfl⟩:=ah hp;exact irshift_int h1 ⟨⟨_,rfl⟩,_,rfl⟩
   |_=>exact absurd ho J2
  |_=>exact absurd ho J2
 |_=>exact absurd ho J2
theorem FSt.toks (F:FSt C Q4 A Q5 ns s₀ Q6 W ok om ρ s) (k:Nat):FSt C Q4 A Q5 ns s₀ Q6 W ok om ρ {s with toks:=k}:=F.ext (.toks s k)
theorem kJ {px:Jq} (hx:a_ ns x=Hd) (hm:x∈Q4):sPT Q4 ns (.Name x px)=H7 (.one (Q4.idxOf x)):=oA hx hm
theorem FSt.read (F:FSt C Q4 A Q5 ns s₀ Q6 W ok om ρ s) (hx:fw (Q5.kindOf x)=1) (h:ρ.get (Q4.idxOf x)=H7 pv):
  ∃v,aY s.heap Q5 x v/\Rep C.prog C.w (okF ok om) s.heap pv v:=F.goodF.r x pv hx h
theorem DR {px:Jq} {a b:PV} (hE:aI C Γ Q4 ns e pe) (hx:a_ ns x=Hd) (hm:x∈Q4)
  (F:FSt C Q4 A Q5 ns s₀ Q6 W ok om ρ s) (ha:ρ.get (Q4.idxOf x)=H7 a) (hb:mev Γ m pe ρ (om.map (·.1))=H7 b) (hc:eg op a b=H7 c) (S1:u0 op a b=Hd):
  WP (Hj C.prog C.w) A (LO (.AugAssign (.Name x px) op e pos) Q5) (cL C Q4 A Q5 ns s₀ Q6 W ok s (.next (ρ.set (Q4.idxOf x) (H7 c)) (aR (om.map (·.1)) [Q4.idxOf x]))) s:=by
 refine cL.nx λK hK=> ?_;obtain⟨hk,RI⟩:=jt F.e hx;obtain⟨va,V,ra⟩:=F.read hk ha;haveI hsa:i9 a=Hd:=by
  cases a with
  |int=>rfl
  |_=>exact absurd S1 J2
 rw [arm_exec_AugAssign];refine WP.at (WP.then (qJ (Q:=λv s'=>v=va/\s'=s) F.e RI V ⟨rfl,rfl⟩) λv s' ⟨h1,h2⟩=> ?_);subst h1 h2;refine WP.then (WP.hold (lj hE F hb)) λu s₁ ⟨x₁,r⟩=>WP.at ?_;refine WP.then (WP.oper (tH (ok:=ok) (Rn:=ok) S1 hc (iZ hsa ra) r)) λv s₂ ⟨⟨k,QF⟩,rc⟩=> ?_;subst QF;haveI hB:=((F.ext x₁).toks k).bind (tgt:= .Name x px) (ρ':=ρ.set (Q4.idxOf x) (H7 c)) (kJ hx hm) rfl rc;haveI e:(do Ji px;Mu Q5 x v;pure Flow.next)=(K9 (.Name x px) Q5 v>>=λ_=>(pure Flow.next:J_ LR)):=by
  show _=((do Ji px;Mu Q5 x v)>>=λ_=>(pure Flow.next:J_ LR))
  rw [bind_assoc]
 refine WP.eq e (WP.then hB λ_ s₃ ⟨F₃,T₃⟩=> ?_);refine Hi ⟨rfl,hK _ ok _ F₃ (x₁.tr.trans ((Ext.toks s₁ k).tr.trans T₃)) (aT _ _)⟩
end
section
variable {M:Oj}
theorem rE {a b:Hl} {T idi:String} (ha:s.TypeIs a T) (hb:s.TypeIs b T)
  (WT:Os (.type T) "add" Hd=pure Hb) (Wa:fillsNumberSlot (.type T) "add" =pure Hb) (hsi:seqSlot? (.type T) (dunderI "add")=pure (H7 (.builtin idi)))
  (hc:WP M A (KG (.builtin idi) [a,b]) Q s):WP M A (inplaceOp .Add a b) Q s:=by
 unfold inplaceOp;refine I_ ?_;refine He (wpAny_typeOf ha (He (Jx WT ?_)));show Im M A (if Hb=Hd then _ else _) Q _ s;rw [if_neg J2];refine He (wpAny_binaryOp1_none (nm:= "add") ha hb Wa ?_);refine He (Jx hsi ?_);exact He (Ms hc)
end
theorem AT:Os (.type "list") "add" Hd=pure Hb:=by
 unfold Os;show(K1 (.type "list") (dunderI "add")>>=λfi=>pure (fi.isSome&& !isSeqSlot fi))=pure Hb;rw [Mw.lookup];show(pure _:J_ Bool)=pure Hb
 congr 1
theorem A4:seqSlot? (.type "list") (dunderI "add")=pure (H7 (.builtin "list.__iadd__")):=PySem.seqSlot_of Mw.lookup (by decide+kernel)
section
theorem FSt.drop (F:FSt C Q4 A Q5 ns s₀ Q6 W ok om ρ s) (i:Nat):FSt C Q4 A Q5 ns s₀ Q6 W ok (om.filter λp=> ![i].contains p.1) (ρ.set i H9) s where
 a:=F.a
 e:=F.e
 x:=F.x
 h:=F.h
 y:=F.y
 f:=F.f
 r:=F.r.less λj v hj=>by
  obtain⟨h1,h2⟩:=cY hj;rw [aT]at h1;by_cases e:j=i
  ·subst e
   unfold Ρ.get at h2;rw [Ki]at h2;cases q:ρ[j]? with
   |none=>rw [q]at h2;cases h2
   |some z=>rw [q]at h2;cases h2
  ·rw [aD e]at h2
   rw [bM λq=>h1 (gL.mpr ⟨q,by simpa using e⟩)]
   exact h2
 l:=by simpa using F.l
 v:=F.v
 free:=F.free
 home:=F.home
 sub:=F.sub
 free₀:=F.free₀
 ow:=λp hp=>by
  obtain⟨hp,S0⟩:=Iw.mp hp;have S0:p.1≠i:=by simpa using S0
  obtain⟨y,R_,g1,g2,g3,V,O',g4,g5,g6⟩:=F.ow p hp;exact⟨y,R_,g1,g2,by rw [aD S0];exact g3,V,O',g4,g5,g6⟩
 nd:=⟨F.nd.1.sublist (Kx _ Kd),F.nd.2.sublist (Kx _ Kd)⟩
 w:=λb hb=>by obtain⟨g1,g2,g3,e⟩:=F.w b hb;refine⟨g1,g2,λq=>g3 ?_,e⟩;obtain⟨p,hp,e⟩:=HC.mp q;exact e▸HT (f:=(·.2)) (Iw.mp hp).1
theorem gh {xs ys:List Nat}:aR (aR own xs) ys=aR own (xs++ys):=by unfold aR;rw [List.filter_filter];refine Nw λi _=> ?_;simp [Bool.and_comm]
theorem Bn {px:Jq} {ys:List PV} (hE: ∀s',FSt C Q4 A Q5 ns s₀ Q6 W ok om ρ s'->bU C A Q5 ok es ys s') (hx:a_ ns x=Hd) (hm:x∈Q4) (hl:Q4.idxOf x<ρ.length)
  (F:FSt C Q4 A Q5 ns s₀ Q6 W ok om ρ s) (hg:ρ.get (Q4.idxOf x)=H7 (.list xs)) (hc:(om.map (·.1)).contains (Q4.idxOf x)=Hd) (Q7:xs.length+ys.length<=Hz):
  WP (Hj C.prog C.w) A (LO (.AugAssign (.Name x px) .Add (.List es lp) pos) Q5) (cL C Q4 A Q5 ns s₀ Q6 W ok s (.next (ρ.set (Q4.idxOf x) (H7 (.list (xs++ys)))) (Q4.idxOf x::aR (om.map (·.1)) [Q4.idxOf x]))) s:=by
 refine cL.nx λK hK=> ?_;obtain⟨hk,RI⟩:=jt F.e hx;obtain⟨a,ha,V,⟨vs,l,q⟩,WO⟩:=F.find hm hc hg;rw [arm_exec_AugAssign];refine WP.at (WP.then (qJ (Q:=λv s'=>v= .ref a/\s'=s) F.e RI V ⟨rfl,rfl⟩) λv s' ⟨h1,h2⟩=> ?_);subst h1 h2;refine WP.then (WP.hold (kL (hE _ F) (by exact Pg Q7) F.sys)) λu s₁ ⟨x₁,b,us,hu,hb,lb,qb,SB⟩=>WP.at ?_
 subst hu;have F₁:=F.ext x₁;obtain⟨a',Rz,V',⟨Qw,l',q'⟩,VG⟩:=F₁.find hm hc hg;haveI XX:(Q4.idxOf x,a')=(Q4.idxOf x,a):=eF (f:=(·.1)) F.nd.1 Rz ha rfl
 cases XX;obtain⟨n,e⟩:=id l';obtain⟨n2,e2⟩:=id lb;haveI S6:a≠b:=λz=>Hr _ (Ha (F.own_live (HT (f:=(·.2)) Rz)) (z▸hb))
 have Vy:Qw.toArray.size=xs.length:=by rw [HO,q'.length]
 haveI Yk:us.toArray.size=ys.length:=by rw [HO,qb.length]
 have hs:Iz a s₁.heap (s₁.heap.update a (Ic λx=>x++us.toArray)):=JB ..
 haveI Ru:(s₁.heap.update a (Ic λx=>x++us.toArray)).PlainList a (Qw++us).toArray:=by
  haveI h1:=IX (Ic λx=>x++us.toArray) e rfl;obtain⟨n',h2⟩: ∃n',Ic (λx=>x++us.toArray) {cls:= .type "list",data:= .seq Qw.toArray n}={cls:= .type "list",data:= .seq (Qw++us).toArray n'}:=by simp only [Ic,List.append_toArray];exact⟨_,rfl⟩
  exact⟨n',h1.trans (congrArg H7 h2)⟩
 haveI Ql:=gC l';have kp: ∀c,ok c-> ∀o,vis s₁.heap c=H7 o->vis (s₁.heap.update a (Ic λx=>x++us.toArray)) c=H7 o:=λc hc o e=>ax hs Ql (λz=>WO (z▸hc)) e;refine WP.then (Q₁:=λv s₂=>v= .ref a/\s₂={s₁ with heap:=s₁.heap.update a (Ic λx=>x++us.toArray),toks:=s₁.toks}) (WP.oper (rE (T:= "list") ⟨_,e,rfl⟩ ⟨_,e2,rfl⟩ AT noFill_list_add A4 ?_)) λv s₂ ⟨hv,QF⟩=> ?_
 ·refine LP Mw ⟨_,e,rfl⟩ PySem.F.entry_list_iadd (PySem.F.args_list_iadd_2 _ _) (PySem.AutoSeq1.list___iadd___list_list_0 a Qw.toArray n b us.toArray n2 ?_ (by exact H8 (Hu Vy) (Ii Q7)) (by lia)) ⟨e,e2,rfl,rfl⟩
  unfold Ny;simp [Vy,Yk];intro _;exact Q7
 ·subst hv QF
  obtain⟨F₂,T₂⟩:=F₁.upOwn (tk:=s₁.toks) Rz hl hs (pv:= .list (xs++ys)) ⟨Qw++us,Ru,(q'.mono (λ_ h _=>h) kp).append (qb.mono (λc h _=>h.1) λc h o e=>kp c h.1 o e)⟩;obtain⟨_,_,_,V₂,O₂,n₁,n₂,n₃⟩: ∃(_:True) (_:True) (_:True),aY (s₁.heap.update a (Ic λx=>x++us.toArray)) Q5 x (.ref a)/\ez C ok (s₁.heap.update a (Ic λx=>x++us.toArray)) (.list (xs++ys)) a/\ ¬ok a/\ ¬bF Q5 a/\s₀.heap.objs.size<=a:=by
   obtain⟨y,R_,g1,g2,g3,V,O',g4,g5,g6⟩:=F₂.ow _ Rz;haveI SA:y=x:=by
    by_cases q:y=x
    ·exact q
    ·exact absurd g1 (e_ hm q)
   subst SA;haveI:R_= .list (xs++ys):=by unfold Ρ.get at g3;rw [MO hl]at g3;cases g3;rfl
   subst this;exact⟨trivial,trivial,trivial,V,O',g4,g5,g6⟩
  haveI F₃:=F₂.drop (Q4.idxOf x);have e:(do Ji px;Mu Q5 x (.ref a);pure Flow.next)=(K9 (.Name x px) Q5 (.ref a)>>=λ_=>(pure Flow.next:J_ LR)):=by
   show _=((do Ji px;Mu Q5 x (.ref a))>>=λ_=>(pure Flow.next:J_ LR))
   rw [bind_assoc]
  haveI Up:a∉(om.filter λp=> ![Q4.idxOf x].contains p.1).map (·.2):=λq=>by
   obtain⟨p,hp,e⟩:=HC.mp q;obtain⟨hp,S0⟩:=Iw.mp hp;have:=eF (f:=(·.2)) F.nd.2 hp Rz e
   rw [this]at S0;simp at S0
  have hB:=F₃.bindOwn (px:=px) (pv:= .list (xs++ys)) (a:=a) hx hm (by simpa using hl) n₁ n₂ Up (λh=>(F₂.w a h).2.2.1 (HT (f:=(·.2)) Rz)) n₃ O₂
  rw [List.set_set,List.set_set]at hB;refine WP.eq e (WP.then hB λ_ s₃ ⟨F₄,T₄⟩=> ?_);refine Hi ⟨rfl,hK _ ok _ F₄ (x₁.tr.trans (T₂.trans T₄)) ?_⟩;rw [HI,aT,aT,gh]
  congr 1
  unfold aR;refine Nw λi _=> ?_;simp
end
section
theorem asg (targets Qf pos):LO (.Assign targets Qf pos) Q5=(do
  Ji pos
  if<-LU targets Qf pos.line Q5 then do
   MK Qf Q5 λv=>Py v ((Jm targets Q5).map (·.2))
   pure .next
  else do
   let v<-IY Qf Q5
   Mh Q5 v (<-JD targets Qf Q5) ((Jm targets Q5).map (·.2))):=rfl
def tW:Expr->Bool
 | .Tuple .. =>Hd
 |_=>Hb
theorem pj (h:tW Qf=Hb):JD [.Tuple es k p] Qf Q5=pure H9:=by
 cases Qf with
 |Tuple=>cases h
 |_=>rfl
theorem yF {tgt:Expr} {xs:List Nat} (h:sPT Q4 ns tgt=H7 (.many xs)): ∃es k p,tgt= .Tuple es k p:=
 oB (P:=λe pt=>pt= .many xs-> ∃es k p,e= .Tuple es k p) h (λ_ _ _ _ q=>nomatch q) (λes k p _ _ _ _=>⟨es,k,p,rfl⟩) rfl
theorem A5 {tgt:Expr} {xs:List Nat} (hc:fQ e=Hb) (ht:tW e=Hb) (hE:aI C Γ Q4 ns e pe) (hx:sPT Q4 ns tgt=H7 (.many xs))
  (F:FSt C Q4 A Q5 ns s₀ Q6 W ok om ρ s) (hp:mev Γ m pe ρ (om.map (·.1))=H7 v) (hb:aX ρ (.many xs) v=H7 ρ'):
  WP (Hj C.prog C.w) A (LO (.Assign [tgt] e pos) Q5) (cL C Q4 A Q5 ns s₀ Q6 W ok s (.next ρ' (aR (om.map (·.1)) xs))) s:=by
 refine cL.nx λK hK=> ?_;obtain⟨es,k,p,rfl⟩:=yF hx;refine zI (bo hc) (pj ht) (λ_=>rfl) ((lj hE F hp).mono λu s₁ ⟨x,r⟩=>((F.ext x).bind hx hb r).mono λ_ s₂ ⟨F₂,T₂⟩=>⟨rfl,hK _ ok _ F₂ (x.tr.trans T₂) (aT _ _)⟩)
end
variable {py tp vp:Jq} {k':Nat}
section
theorem kK {c:Prop} [Decidable c] {a b d:α} (h: ¬c->b=a∨b=d):(if c then a else b)=a∨(if c then a else b)=d:=by
 by_cases hc:c
 ·rw [if_pos hc];exact .inl rfl
 ·rw [if_neg hc];exact h hc
theorem AK {c:Prop} [Decidable c] {z:α}:(if c then H7 z else H9)=H9∨(if c then H7 z else H9)=H7 z:=by
 by_cases hc:c
 ·exact .inr (if_pos hc)
 ·exact .inl (if_neg hc)
theorem Da {px:Jq} {f:Expr->Option HJ} {b:Bool} (h: ¬((([Expr.Name x px,.Name y py].filterMap f).length !=2)||b)=Hd) (hf: ∀z p,f (.Name z p)=H9∨f (.Name z p)=H7 z):[Expr.Name x px,.Name y py].filterMap f=[x,y]:=by
 have e:[Expr.Name x px,.Name y py].filterMap f=(f (.Name x px)).toList++(f (.Name y py)).toList:=by rw [Jo,Jo];cases f (.Name x px)<;>cases f (.Name y py)<;>rfl
 rw [e]at h ⊢
 cases hf x px with
 |inl p=>rw [p]at h;exact absurd (by cases hf y py with|inl q=>rw [q];rfl|inr q=>rw [q];rfl) h
 |inr p=>cases hf y py with
  |inl q=>rw [p,q]at h;exact absurd rfl h
  |inr q=>rw [p,q];rfl
theorem xZ {px:Jq} {e1 e2:Expr} (SX:x≠y) (hc:[e1,e2].all (OU 8)=Hb):
  JD [.Tuple [.Name x px,.Name y py] k tp] (.Tuple [e1,e2] k' vp) Q5=pure H9∨JD [.Tuple [.Name x px,.Name y py] k tp] (.Tuple [e1,e2] k' vp) Q5=pure (H7 [x,y]):=by
 delta JD
 refine kK λ_=>kK λ_=>kK λh=>kK λ_=> .inr ?_;rw [hc];exact congrArg (λl=>(pure (H7 l):J_ (Option (List HJ)))) (Da h λz p=>AK)
theorem kb {v:Hl} {Q:Unit->Hh->Prop} (h: ∀px,WP (Hj C.prog C.w) A (K9 (.Name x px) Q5 v) Q s):WP (Hj C.prog C.w) A (Mu Q5 x v) Q s:=by
 intro Γ' p hΓ
 have:=h p Γ' p hΓ
 rw [arm_assign_Name]at this;simpa only [JL,Sem.wp_cmd_standAt]using this
theorem pJ {a b:Option PV} (h:i≠j):(ρ.set i a).set j b=(ρ.set j b).set i a:=List.set_comm a b h
theorem x_ {px:Jq} {e1 e2:Expr} {v1 v2:PV} (SX:Q4.idxOf x≠Q4.idxOf y) (hc:[e1,e2].all (OU 8)=Hb)
  (hE:aI C Γ Q4 ns (.Tuple [e1,e2] k' vp) (.tup Qs)) (hx:a_ ns x=Hd) (WQ:x∈Q4) (hy:a_ ns y=Hd) (hmy:y∈Q4)
  (F:FSt C Q4 A Q5 ns s₀ Q6 W ok om ρ s) (hp:cE Γ Qs (aw ρ (om.map (·.1)))=H7 [v1,v2]):
  WP (Hj C.prog C.w) A (LO (.Assign [.Tuple [.Name x px,.Name y py] k tp] (.Tuple [e1,e2] k' vp) pos) Q5)
   (cL C Q4 A Q5 ns s₀ Q6 W ok s (.next ((ρ.set (Q4.idxOf x) (H7 v1)).set (Q4.idxOf y) (H7 v2)) (aR (om.map (·.1)) [Q4.idxOf x,Q4.idxOf y]))) s:=by
 refine cL.nx λK hK=> ?_;rw [asg];refine WP.at ?_;refine He (Jx (a:=Hb) (rJ.trans (bo rfl)) ?_);simp only [Ie,if_false];haveI WJ:pev Γ (.tup Qs) (aw ρ (om.map (·.1)))=H7 (.tuple [v1,v2]):=by exact aF hp (if_pos (show 2<=Hz by rw [KV];decide))
 refine WP.then (hE A Q5 _ ok s _ F.good0 WJ) λu s₁ ⟨x₁,r⟩=> ?_;have F₁:=F.ext x₁;haveI R9:sPT Q4 ns (.Tuple [.Name x px,.Name y py] k tp)=H7 (.many [Q4.idxOf x,Q4.idxOf y]):=
  (congrArg (λo=>Option.bind o _) (show tgs Q4 ns [.Name x px,.Name y py]=H7 [Q4.idxOf x,Q4.idxOf y]by unfold tgs tgs tgs;rw [lx hx WQ,lx hy hmy];rfl)).trans rfl
 rcases xZ (Q5:=Q5) (px:=px) (py:=py) (tp:=tp) (vp:=vp) (k:=k) (k':=k') (x:=x) (y:=y) (λq=>SX (by rw [q])) hc with h|h
 ·rw [h]
  refine He (Hi ?_);show WP _ A (K9 (.Tuple [.Name x px,.Name y py] k tp) Q5 u>>=λ_=>(pure Flow.next:J_ LR)) _ s₁
  refine WP.then (F₁.bind R9 (ρ':=(ρ.set (Q4.idxOf x) (H7 v1)).set (Q4.idxOf y) (H7 v2)) rfl r) λ_ s₂ ⟨F₂,T₂⟩=> ?_;refine Hi ⟨rfl,hK _ ok _ F₂ (x₁.tr.trans T₂) ?_⟩;rw [aT]
  rfl
 ·rw [h]
  refine He (Hi ?_);obtain⟨a,vs,rfl,hoa,hsa,l,u1,r1,rfl,ru1,u2,r2,rfl,ru2,rfl⟩:=r;show WP _ A (do rule "assign.swapped-stores";let items<-unpackItems (.ref a) 2 H9;MS ([y,x].map λn=>Mu Q5 n) items.reverse;pure Flow.next) _ s₁
  refine He (Ms (WP.then (Q₁:=λitems s₂=>items=[u1,u2]/\Ext s₁ s₂) (WP.size (wpAny_unpackItems_tuple (items:= #[u1,u2]) F.a.1 l λh' hx sz=>⟨rfl,λb o e=>uf hx ka (λq=>by rw [q,ca]at e;cases e) e,sz,λ_ _ e=>e,rfl⟩)) λitems s₂ ⟨hi,x₂⟩=> ?_))
  subst hi;haveI F₂:=F₁.ext x₂;show WP _ A ((do KZ [u1] (Mu Q5 y u2);MS [Mu Q5 x] [u1])>>=λ_=>(pure Flow.next:J_ LR)) _ s₂
  refine WP.bind (WP.then (WP.hold (kb λpx=>F₂.bind (tgt:= .Name y px) (kJ hy hmy) rfl (ru2.keep x₂.keep))) λ_ s₃ ⟨F₃,T₃⟩=> ?_);haveI Yi:Rep C.prog C.w ok s₃.heap v1 u1:=(ru1.keep x₂.keep).mono (λ_ h _=>h) λb hb o e=>T₃.keep b o (.inl hb) e;show WP _ A (do KZ [] (Mu Q5 x u1);MS [] []) _ s₃
  refine WP.then (WP.hold (kb λpx=>F₃.bind (tgt:= .Name x px) (kJ hx WQ) rfl Yi)) λ_ s₄ ⟨F₄,T₄⟩=> ?_;rw [pJ (Kv SX)]at F₄;refine Hi (Hi ⟨rfl,hK _ ok _ F₄ ((x₁.trans x₂).tr.trans (T₃.trans T₄)) ?_⟩)
  ·rw [aT,aT,gh]
   unfold aR;refine Nw λi _=> ?_;simp [ptIdx,Bool.and_comm]
end
variable {den:Ρ->List Nat->Option Out}
section
theorem rF {xs:List Nat} (h:xs.all (λi=> !(om.map (·.1)).contains i)=Hd):(om.filter λp=> !xs.contains p.1)=om:=by
 refine Pt.mpr λp hp=> ?_;simp only [HX,Ll,Pj,decide_eq_false_iff_not]at h ⊢
 exact λq=>h p.1 q (HT (f:=(·.1)) hp)
theorem z0 {tgt:Expr} {body:List IR} {Q:LR->Hh->Prop} (Rp: ∀x,KO iter Q5 x=pure x)
  (h:WP (Hj C.prog C.w) A (IY iter Q5) (λv s₁=>WP (Hj C.prog C.w) A (MQ v) (λit s₂=> ∃(Inv:Nat->Hh->Prop) (n:Nat),Inv n s₂/\
   ∀n s,Inv n s-> ∀K:Option Hl->Hh->Prop,(∀s,Q .next s->K H9 s)->
    (∀v s,(∀B:LR->Hh->Prop,(∀m s,m<n->Inv m s->B .next s)->(∀v s,Q (.ret v) s->B (.ret v) s)->
     WP (Hj C.prog C.w) A (Iu tgt it v) (λ_ s=>WP (Hj C.prog C.w) A (K9 tgt Q5 v) (λ_ s=>WP (Hj C.prog C.w) A (JK body Q5) B s) s) s)->K (H7 v) s)->
    WP (Hj C.prog C.w) A (Lb it) K s) s₁) s):
  WP (Hj C.prog C.w) A (LO (.For tgt iter body [] pos) Q5) Q s:=by
 refine wpAny_For ?_ Rp;refine h.mono λv s₁ h₁=>h₁.mono λit s₂ h₂=> ?_;obtain⟨Inv,n,h0,h₂⟩:=h₂;refine codeAny_forLoop_any Inv (λn s hI=>WP.low (h₂ n s hI _ (λs hq=>Hi hq) λv s hb=> ?_)) n h0;refine WP.low ((hb (λf s=>match f with| .next| .cont=> ∃m,m<n/\Inv m s| .brk=>Q .next s| .ret v=>Q (.ret v) s) (λm s hm hi=>⟨m,hm,hi⟩) λv s h=>h).mono λ_ s h=>WP.low (h.mono λ_ s h=>WP.low ?_))
 exact h.mono λf s h=>by cases f<;>exact h
theorem Dt {tgt:Expr} {body:List IR} {pt:PT} {o:Out} (Rp: ∀x,KO iter Q5 x=pure x) (R9:sPT Q4 ns tgt=H7 pt)
  (F:FSt C Q4 A Q5 ns s₀ Q6 W ok om ρ s)
  (Qe:WP (Hj C.prog C.w) A (IY iter Q5) (λv s₁=>Ext s s₁/\WP (Hj C.prog C.w) A (MQ v) (λr s₂=>Ext s₁ s₂/\ ∃I,r= .ref I/\ItG C A ok xs tgt s s₂ I) s₁) s)
  (Rk: ∀(W:Hw->Prop) ok om ρ s o,FSt C Q4 A Q5 ns s₀ Q6 W ok om ρ s->den ρ (om.map (·.1))=H7 o->WP (Hj C.prog C.w) A (JK body Q5) (cL C Q4 A Q5 ns s₀ Q6 W ok s o) s)
  (hp:eG pt den xs ρ (om.map (·.1))=H7 o):
  WP (Hj C.prog C.w) A (LO (.For tgt iter body [] pos) Q5) (cL C Q4 A Q5 ns s₀ Q6 W ok s o) s:=by
 refine z0 Rp ?_;refine Qe.mono λv s₁ ⟨x₁,h₁⟩=>h₁.mono λr s₂ ⟨x₂,I,hr,W₀,Wg,T,St,it,hT,RN,hW₀,Vj⟩=> ?_;subst hr;have Xi:=x₁.trans x₂;haveI Qp: ∀b,W b->b<s.heap.objs.size:=λb hb=>F.w_live hb;haveI UJ: ∀b∈W₀,b<s₂.heap.objs.size:=λb hb=>(it.own RN b hb).1;have F₂:FSt C Q4 A Q5 ns s₀ Q6 W (okW ok W₀) om ρ s₂:=F.less Xi hW₀ UJ;haveI T₂:Tr W ok (okW ok W₀) s s₂:=oQ Xi hW₀;haveI hWW: ∀{W₁:List Hw},(∀b∈W₁,s.heap.objs.size<=b)-> ∀b,W b->b∉W₁:=λh b hb q=>Hr _ (Ha (Qp b hb) (h b q));haveI Wj:FSt C Q4 A Q5 ns s₀ Q6 (λb=>W b∨b∈W₀) (okW ok W₀) om ρ s₂:=F₂.setW λb hb=>by
  rcases hb with hb|hb
  ·exact F₂.w b hb
  ·refine⟨λh=>h.2 hb,λh=> ?_,λh=> ?_,(it.own RN b hb).1⟩
   ·exact Hr _ (Ha (F.reads_live h) (hW₀ b hb))
   ·exact Hr _ (Ha (F.own_live h) (hW₀ b hb))
 obtain⟨Inv,hv⟩: ∃Inv:Nat->Hh->Prop,∀n s₁,Inv n s₁↔ ∃xs Qc QB ρ₁ W₁,n=xs.length/\St Qc xs W₁ s₁/\FSt C Q4 A Q5 ns s₀ Q6 (λb=>W b∨b∈W₁) Qc QB ρ₁ s₁/\eG pt den xs ρ₁ (QB.map (·.1))=H7 o/\Tr W ok Qc s s₁/\(∀b∈W₁,s.heap.objs.size<=b)/\s.heap.objs.size<=s₁.heap.objs.size:=⟨_,λ_ _=>Iff.rfl⟩
 refine⟨Inv,xs.length,(hv _ _).mpr ⟨xs,okW ok W₀,om,ρ,W₀,rfl,RN,Wj,hp,T₂,hW₀,Xi.size⟩,λn s₁ hI K Vk Y3=> ?_⟩;obtain⟨xs,Qc,QB,ρ₁,W₁,rfl,RN,F₁,hz,T₁,R6,sz1⟩:=(hv _ _).mp hI;have RD: ∀{i:Nat} {g:M4},s.gens[i]? =H7 g->i∉Wg:=λ{i g} e q=>by have:=(KH.mp e).1;exact Hr _ (Ha this (Vj i q))
 have FW:FSt C Q4 A Q5 ns s₀ Q6 W Qc QB ρ₁ s₁:=F₁.setW λb hb=>F₁.w b (.inl hb);have Vv: ∀{W':List Hw},(∀b∈W',b∈W₁∨s₁.heap.objs.size<=b)->(∀b o,Qc b->vis s₁.heap b=H7 o->b∉W')/\(∀b,bF Q5 b->b∉W')/\(∀b,b∈QB.map (·.2)->b∉W')/\ ∀b,W b->b∉W':=λh=>by
  refine⟨λb o hb e q=> ?_,λb hb q=> ?_,λb hb q=> ?_,λb hb q=> ?_⟩
  ·rcases h b q with q|q
   ·exact(F₁.w b (.inr q)).1 hb
   ·exact Hr _ (Ha (ao e) q)
  ·rcases h b q with q|q
   ·exact(F₁.w b (.inr q)).2.1 hb
   ·exact Hr _ (Ha (F₁.reads_live hb) q)
  ·rcases h b q with q|q
   ·exact(F₁.w b (.inr q)).2.2.1 hb
   ·exact Hr _ (Ha (F₁.own_live hb) q)
  ·rcases h b q with q|q
   ·exact hWW R6 b hb q
   ·exact Hr _ (Ha (FW.w_live hb) q)
 have VP: ∀{s':Hh} {W':List Hw},(∀b∈W',s.heap.objs.size<=b)->(∀b o,b∉W'->vis s₁.heap b=H7 o->vis s'.heap b=H7 o)->s₁.heap.objs.size<=s'.heap.objs.size->
   (∀(i:Nat) g,i∉Wg->s₁.gens[i]? =H7 g->s'.gens[i]? =H7 g)->s'.os=s₁.os->Ext s₀ s':=λXb hk hsz hg ho=>
  ⟨λb o e=>hk b o (λq=>Hr _ (Ha (ao e) (H8 F.x.size (Xb b q)))) (F₁.x.keep b o e),H8 F₁.x.size hsz,λi g e=>hg i g (RD (F.x.gens i g e)) (F₁.x.gens i g e),ho.trans F₁.x.os⟩
 cases xs with
 |nil=>
  cases hz;refine(it.done RN).mono λr s₃ ⟨hr,S⟩=> ?_;subst hr;obtain⟨n1,n2,n3,n4⟩:=Vv (W':=W₁) λb hb=> .inl hb;refine Vk _ ⟨rfl,Qc,QB, ?_,⟨λb o h e=> ?_,T₁.sup,λi g e=>S.gens i g (RD e) (T₁.gens i g e),S.os.trans T₁.os⟩,rfl⟩
  ·exact FW.move (VP R6 S.keep S.size S.gens S.os) S.size (λb hb o e=>S.keep b o (n2 b hb) e) (λb hb o e=>S.keep b o (n1 b o hb e) e) (λb hb o e=>S.keep b o (n3 b hb) e) (λb hb o e=>S.keep b o (n4 b hb) e) (λ_ _ h _=>h) (λ_ h=>h) (F₁.free.keep S.size)
  ·have e1:=T₁.keep b o h e
   refine S.keep b o ?_ e1;rcases h with h|h
   ·exact n1 b o (T₁.sup b o h e) e1
   ·exact n4 b h
 |cons x xs=>
  rw [BM]at hz;obtain⟨Yt,hz⟩:=cZ hz;simp only [IT,Ho]at hz;obtain⟨ρ₂,hb,o',XV,hz⟩:=hz;refine(it.next hT F₁.free F₁.sys RN).mono λr s₂ ⟨v,W₂,hr,hW12,hW2,S₁,rv,hlet⟩=> ?_
  subst hr;obtain⟨n1,n2,n3,n4⟩:=Vv hW2;have Tn: ∀b∈W₂,s.heap.objs.size<=b:=λb hb=>(hW2 b hb).elim (R6 b) λq=>H8 sz1 q;refine Y3 _ _ λB Y4 Vl=>hlet.mono λ_ s₃ ⟨S₂,hSt₃⟩=> ?_;have Qr: ∀b o,b∉W₂->vis s₁.heap b=H7 o->vis s₃.heap b=H7 o:=λb o hb e=>S₂.keep b o hb (S₁.keep b o (λq=>hb (hW12 b q)) e);have Tp: ∀(i:Nat) g,i∉Wg->s₁.gens[i]? =H7 g->s₃.gens[i]? =H7 g:=λi g hi e=>S₂.gens i g hi (S₁.gens i g hi e);have Vu:s₃.os=s₁.os:=S₂.os.trans S₁.os;have TP:s₁.heap.objs.size<=s₃.heap.objs.size:=H8 S₁.size S₂.size;have R2: ∀b o,Qc b->vis s₁.heap b=H7 o->okW Qc W₂ b:=λb o hb e=>⟨hb,n1 b o hb e⟩;have F₃:FSt C Q4 A Q5 ns s₀ Q6 W (okW Qc W₂) QB ρ₁ s₃:=FW.move (VP Tn Qr TP Tp Vu) TP (λb hb o e=>Qr b o (n2 b hb) e) (λb hb o e=>Qr b o (n1 b o hb e) e) (λb hb o e=>Qr b o (n3 b hb) e) (λb hb o e=>Qr b o (n4 b hb) e) R2 (λ_ h=>h.1) λb e=>⟨F₁.free b (H8 TP e),λq=>by exact Hr _ (Ha (it.own hSt₃ b q).1 e)⟩
  haveI Wt:FSt C Q4 A Q5 ns s₀ Q6 (λb=>W b∨b∈W₂) (okW Qc W₂) QB ρ₁ s₃:=F₃.setW λb hb=>by
   rcases hb with hb|hb
   ·exact F₃.w b hb
   ·exact⟨λh=>h.2 hb,λh=>n2 b h hb,λh=>n3 b h hb,(it.own hSt₃ b hb).1⟩
  haveI T₃:Tr W ok (okW Qc W₂) s s₃:=⟨λb o h e=>by
    have e1:=T₁.keep b o h e;refine Qr b o ?_ e1;rcases h with h|h
    ·exact n1 b o (T₁.sup b o h e) e1
    ·exact n4 b h,λb o h e=>by
    haveI h1:=T₁.sup b o h e;exact R2 b o h1 (T₁.keep b o (.inl h) e),λi g e=>Tp i g (RD e) (T₁.gens i g e),Vu.trans T₁.os⟩
  refine WP.size ((Wt.bind R9 hb (rv.mono (λ_ h _=>h) λb hb o e=>S₂.keep b o hb.2 e)).mono λ_ s₄ ⟨F₄,T₄⟩ sz4=> ?_);rw [rF Yt]at F₄;haveI Si:St (okW Qc W₂) xs W₂ s₄:=it.frame hSt₃ (λb o hb e=>T₄.keep b o (hb.imp id .inr) e) (λb o h _=>h) (λb hb h=>h.2 hb) T₄.gens T₄.os F₄.hk sz4;refine WP.size ((Rk _ _ _ _ s₄ o' F₄ XV).mono λf s₅ hP Xk=> ?_);haveI Ws: ∀{ok':Hw->Prop} {s':Hh},Tr (λb=>W b∨b∈W₂) (okW Qc W₂) ok' s₃ s'->Tr W (okW Qc W₂) ok' s₃ s':=λT=>⟨λb o h e=>T.keep b o (h.imp id .inl) e,T.sup,T.gens,T.os⟩;cases o' with
  |next ρ₅ own₅=>
   obtain⟨hf,Sr,Td,F₅,T₅,SD⟩:=hP;subst hf;haveI Sh:St Sr xs W₂ s₅:=it.frame Si (λb o hb e=>T₅.keep b o (hb.imp id .inr) e) T₅.sup (λb hb h=>(F₅.w b (.inr hb)).1 h) T₅.gens T₅.os F₅.hk Xk;exact Y4 _ _ (HR xs.length) ((hv _ _).mpr ⟨xs,Sr,Td,ρ₅,W₂,rfl,Sh,F₅,by rw [SD];exact hz,T₃.trans (Ws (T₄.trans T₅)),Tn,by exact H8 (H8 (H8 sz1 TP) sz4) Xk⟩)
  |ret v=>
   cases hz;obtain⟨u,hf,hx,hr⟩:=hP;subst hf;exact Vl _ _ ⟨u,rfl,hx,hr⟩
end
section
theorem xK {c:Expr} {body:List IR} {Q:LR->Hh->Prop} (Inv:Nat->Hh->Prop) (n:Nat) (h0:Inv n s)
  (step: ∀n s,Inv n s-> ∀K:Bool->Hh->Prop,(∀s,Q .next s->K Hb s)->
   (∀s,(∀B:LR->Hh->Prop,(∀m s,m<n->Inv m s->B .next s)->(∀v s,Q (.ret v) s->B (.ret v) s)->WP (Hj C.prog C.w) A (JK body Q5) B s)->K Hd s)->
   WP (Hj C.prog C.w) A (isTrue c Q5 (IY c Q5)) K s):WP (Hj C.prog C.w) A (LO (.While c body [] pos) Q5) Q s:=by
 refine wpAny_While (codeAny_whileLoop Inv (λn s hI=>WP.low (step n s hI _ (λs hq=>Hi hq) λs hb=> ?_)) n h0);refine WP.low ((hb (λf s=>match f with| .next| .cont=> ∃m,m<n/\Inv m s| .brk=>Q .next s| .ret v=>Q (.ret v) s) (λm s hm hi=>⟨m,hm,hi⟩) λv s h=>h).mono λf s h=> ?_)
 cases f<;>exact h
theorem Ck {c:Expr} {body:List IR} {o:Out} (hc:dB C Γ Q4 ns c pc) (F:FSt C Q4 A Q5 ns s₀ Q6 W ok om ρ s)
  (Rk: ∀(W:Hw->Prop) ok om ρ s o,FSt C Q4 A Q5 ns s₀ Q6 W ok om ρ s->den ρ (om.map (·.1))=H7 o->WP (Hj C.prog C.w) A (JK body Q5) (cL C Q4 A Q5 ns s₀ Q6 W ok s o) s)
  (hp:kO (λρ=>aJ Γ pc ρ) den n ρ (om.map (·.1))=H7 o):
  WP (Hj C.prog C.w) A (LO (.While c body [] pos) Q5) (cL C Q4 A Q5 ns s₀ Q6 W ok s o) s:=by
 obtain⟨Inv,hv⟩: ∃Inv:Nat->Hh->Prop,∀n s₁,Inv n s₁↔ ∃Qc QB ρ₁,FSt C Q4 A Q5 ns s₀ Q6 W Qc QB ρ₁ s₁/\kO (λρ=>aJ Γ pc ρ) den n ρ₁ (QB.map (·.1))=H7 o/\Tr W ok Qc s s₁:=⟨_,λ_ _=>Iff.rfl⟩
 refine xK Inv n ((hv _ _).mpr ⟨ok,om,ρ,F,hp,.refl _ _ _⟩) λn s₁ hI K Vk Y3=> ?_;obtain⟨Qc,QB,ρ₁,F₁,hz,T₁⟩:=(hv _ _).mp hI;cases n with
 |zero=>cases hz
 |succ n=>
  rw [EJ]at hz;obtain⟨b,hb,hz⟩:=Ho.mp hz;refine(F₁.goodT hc hb).mono λb' s₂ ⟨QP,x₂⟩=> ?_;subst QP;cases b' with
  |false=>
   cases hz;exact Vk _ ⟨rfl,Qc,QB,F₁.ext x₂,T₁.trans x₂.tr,rfl⟩
  |true=>
   obtain⟨o',ho,hz⟩:=Ho.mp hz;refine Y3 _ λB Y4 Vl=>(Rk _ _ _ _ _ o' (F₁.ext x₂) ho).mono λf s₃ hP=> ?_;cases o' with
   |next ρ₅ own₅=>
    obtain⟨hf,Sr,Td,F₅,T₅,SD⟩:=hP;subst hf;exact Y4 _ _ (HR n) ((hv _ _).mpr ⟨Sr,Td,ρ₅,F₅,by rw [SD];exact hz,T₁.trans (x₂.tr.trans T₅)⟩)
   |ret v=>
    cases hz;obtain⟨u,hf,hx,hr⟩:=hP;subst hf;exact Vl _ _ ⟨u,rfl,hx,hr⟩
end
def cg (c:Bool) (p:PS):PS:=if c then p else .bad
def ob {α:Type} (x:Option α) (f:α->PS):PS:=match x with
 |some a=>f a
 |none=> .bad
def lst:Expr->Option (List Expr)
 | .List es _=>H7 es
 |_=>H9
def sA (Q4:List HJ) (Qq:HJ->Nat) (E:Expr->Option PE) (L:List Expr->Option (List PE)) (x:HJ) (e:Expr):PS:=
 if 9<=Qq x/\(lst e).isSome=Hd then ob (lst e) λes=>ob (L es) λQs=> .own (Q4.idxOf x) (.list Qs)
 else ob (E e) λpe=> .set (Q4.idxOf x) (Qq x) pe
def E0:PE->Option (List PE)
 | .tup vs=>H7 vs
 |_=>H9
def sP (Q4:List HJ) (ns:ay) (E:Expr->Option PE) (es:List Expr) (e:Expr):PS:=
 ob (zx e) λvs=>ob (two es) λp=>ob (nm1 p.1) λx=>ob (nm1 p.2) λy=>ob (two vs) λ_=>cg (a_ ns x&&Q4.contains x) (cg (a_ ns y&&Q4.contains y) (cg (Q4.idxOf x !=Q4.idxOf y&& !(vs.all (OU 8))) (ob (E e) λpe=>ob (E0 pe) λQs=> .swap [Q4.idxOf x,Q4.idxOf y] Qs)))
def x0:PT->Option (List Nat)
 | .many xs=>H7 xs
 |_=>H9
def sM (Q4:List HJ) (ns:ay) (E:Expr->Option PE) (t e:Expr):PS:=cg (!fQ e&& !tW e) (ob ((sPT Q4 ns t).bind x0) λxs=>ob (E e) λpe=> .setT xs 0 pe)
def Fq (gl:HJ->Option aO) (q:HJ×List Expr):Option (Nat×List Expr):=(gl q.1).bind λg=>match g with
 | .gen k=>H7 (k,q.2)
 |_=>H9
def sFI (gl:HJ->Option aO) (Q4:List HJ) (n:Nat) (ns:ay) (e:Expr):Option PI:=((jq ns e).bind (Fq gl)).elim (sI gl Q4 n ns e) λq=>(sL gl Q4 n ns q.2).map (.gen q.1)
def Eh (Q4:List HJ) (e:Expr):Option (HJ×HJ×List Expr):=(t_ e).bind λq=>(wH q.1).bind λa=>(nm1 a.1).bind λx=>grd (aB x&&Q4.contains x&&a.2.2.endLine==q.2.2.line) (H7 (x,a.2.1,q.2.1))
mutual
noncomputable def sS (gl:HJ->Option aO) (Q4:List HJ) (Qq:HJ->Nat) (ns:ay):Nat->IR->PS
 |0,_=> .bad
 |n+1,st=>match st with
  | .Assign ts e _=>ob (ib ts) λt=>(match t with
   | .Name x _=>cg (a_ ns x&&Q4.contains x) (sA Q4 Qq (sE gl Q4 n ns) (sL gl Q4 n ns) x e)
   | .Tuple es _ _=>if tW e then sP Q4 ns (sE gl Q4 n ns) es e else sM Q4 ns (sE gl Q4 n ns) t e
   |_=> .bad)
  | .AugAssign t op e _=>ob (nm1 t) λx=>cg (a_ ns x&&Q4.contains x) (if op= .Add/\(lst e).isSome=Hd then ob (lst e) λes=>ob (sL gl Q4 n ns es) λQs=> .augL (Q4.idxOf x) (.list Qs)
    else ob (sE gl Q4 n ns e) λpe=> .aug (Q4.idxOf x) op (Qq x) pe)
  | .Return e _=>ob e λe=>ob (sE gl Q4 n ns e) .ret
  | .If c a b _=>ob (sT gl Q4 n ns c) λpc=> .ite pc (sSs gl Q4 Qq ns n a) (sSs gl Q4 Qq ns n b)
  | .For t it body Vq _=>cg (iK it&&Vq.isEmpty) (ob (sPT Q4 ns t) λpt=>ob (sFI gl Q4 n ns it) λpi=> .for_ pt pi (sSs gl Q4 Qq ns n body))
  | .While c body Vq _=>cg Vq.isEmpty (ob (sT gl Q4 n ns c) λpc=> .whl pc (sSs gl Q4 Qq ns n body))
  | .Expr e _=>ob (Eh Q4 e) λq=>if q.2.1= "reverse" then cg q.2.2.isEmpty (.rev (Q4.idxOf q.1))else ob (ib q.2.2) λe=>
    if q.2.1= "append" then ob (sE gl Q4 n ns e) λpe=> .app (Q4.idxOf q.1) (Qq q.1-9) pe else .bad
  |_=> .bad
noncomputable def sSs (gl:HJ->Option aO) (Q4:List HJ) (Qq:HJ->Nat) (ns:ay):Nat->List IR->List PS
 |0,_=>[.bad]
 |_+1,[]=>[]
 |n+1,st::RV=>sS gl Q4 Qq ns n st::sSs gl Q4 Qq ns n RV
end
section
theorem Dg (GO:ai C Γ) {t:Expr} (h:sFI C.gl Q4 n ns e=H7 pi)
  (G:d5 C Q4 A Q5 ns ρ ok s) (hp:pit Γ pi ρ=H7 xs):
  WP (Hj C.prog C.w) A (IY e Q5) (λv s₁=>Ext s s₁/\WP (Hj C.prog C.w) A (MQ v) (λr s₂=>Ext s₁ s₂/\ ∃I,r= .ref I/\ItG C A ok xs t s s₂ I) s₁) s:=by
 have S:=cP (Q4:=Q4) GO n;refine ed h (λq hq h=> ?_) λ_ h=> ?_
 ·revert hp
  refine aL h λRH has hp=>ae hp λvs QU hp=>ae hq λc hc hq=>ae hq λg hg hq=> ?_;obtain⟨p,pos,rfl,hn⟩:=g9 hc;cases g with
  |gen k'=>
   cases hq;refine(qO GO S t hn hg has G QU hp).mono λv s₁ ⟨x,g,hv,h⟩=>⟨x, ?_⟩;subst hv;obtain⟨⟨i,hi⟩,h⟩:=h A s₁ (.inl rfl) (.refl _);exact wpAny_pyIter_gen hi ⟨.refl _,g,rfl,h⟩
  |_=>exact a9 hq
 ·exact(S.i _ _ _ h A Q5 ρ ok s xs G hp).mono λv s₁ ⟨x,h⟩=>⟨x,(h A G.a).mono λr s₂ ⟨x₂,I,hr,W,St,h1,h2,h3⟩=>⟨x₂,I,hr,W,[],_,St,h1.atA G.a,trivial,h2,h3,λi hi=>nomatch hi⟩⟩
end
theorem oW (h:ρ.get i=H7 v):i<ρ.length:=by
 unfold Ρ.get at h;rcases Kr i ρ.length with q|q
 ·exact q
 ·rw [Ky q]at h;cases h
section
def dN (C:Cx) (Γ:Gam) (Q4:List HJ) (ns:ay) (st:IR) (ps:PS):Prop:=
 ∀A Q5 s₀ Q6 W ok om ρ s o,FSt C Q4 A Q5 ns s₀ Q6 W ok om ρ s->az Γ ps ρ (om.map (·.1))=H7 o->WP (Hj C.prog C.w) A (LO st Q5) (cL C Q4 A Q5 ns s₀ Q6 W ok s o) s
def iN (C:Cx) (Γ:Gam) (Q4:List HJ) (ns:ay) (st:List IR) (ps:List PS):Prop:=
 ∀A Q5 s₀ Q6 W ok om ρ s o,FSt C Q4 A Q5 ns s₀ Q6 W ok om ρ s->ag Γ ps ρ (om.map (·.1))=H7 o->WP (Hj C.prog C.w) A (JK st Q5) (cL C Q4 A Q5 ns s₀ Q6 W ok s o) s
theorem jr {st:IR}:dN C Γ Q4 ns st .bad:=λA Q5 s₀ Q6 W ok om ρ s o F h=>a9 h
theorem oN {b:Bool} (h:(!b)=Hd):b=Hb:=by
 cases b with
 |false=>rfl
 |true=>cases h
theorem iM {st:IR} {c:Bool} {p:PS} (h:c=Hd->dN C Γ Q4 ns st p):dN C Γ Q4 ns st (cg c p):=by
 cases c with
 |false=>exact jr
 |true=>exact h rfl
theorem cn {st:IR} {x:Option α} {f:α->PS} (h: ∀a,x=H7 a->dN C Γ Q4 ns st (f a)):dN C Γ Q4 ns st (ob x f):=by
 cases x with
 |none=>exact jr
 |some a=>exact h a rfl
theorem pV {st:IR} {c:Prop} [Decidable c] {p q:PS} (h1:c->dN C Γ Q4 ns st p) (h2: ¬c->dN C Γ Q4 ns st q):dN C Γ Q4 ns st (if c then p else q):=by
 by_cases hc:c
 ·rw [if_pos hc];exact h1 hc
 ·rw [if_neg hc];exact h2 hc
structure Tg (Q4:List HJ) (ns:ay) (x:HJ):Prop where
 t:a_ ns x=Hd
 m:x∈Q4
theorem kX (h:(a_ ns x&&Q4.contains x)=Hd):Tg Q4 ns x:=de h λh1 h2=>⟨h1,by simpa using h2⟩
theorem Co (GO:ai C Γ) {px:Jq} (hx:Tg Q4 ns x) (Ry:sE C.gl Q4 n ns e=H7 pe):dN C Γ Q4 ns (.Assign [.Name x px] e pos) (.set (Q4.idxOf x) m pe):=by
 intro A Q5 s₀ Q6 W ok om ρ s o F h;refine aL (P:=λo=>WP _ A _ (cL C Q4 A Q5 ns s₀ Q6 W ok s o) s) h λv hv=> ?_;by_cases hc:fQ e=Hd
 ·exact yb ((cP GO n).e _ _ _ Ry) (w9 GO Ry hc) hx.t hx.m F hv
 ·exact vm (by simpa using hc) ((cP GO n).e _ _ _ Ry) hx.t hx.m F hv
theorem Cq (S:d0 C Γ Q4 n) {px:Jq} (hx:Tg Q4 ns x) (Rr:sL C.gl Q4 n ns es=H7 Qs):dN C Γ Q4 ns (.Assign [.Name x px] (.List es lp) pos) (.own (Q4.idxOf x) (.list Qs)):=
 λA Q5 s₀ Q6 W ok om ρ s o F h=>ae h λv hv h=>ae (fG hv).1 λrs Un hv=>by obtain⟨hl,rfl⟩:=ah h;obtain⟨Q7,rfl⟩:=ah hv;exact yt F (S.l _ _ _ Rr A Q5 _ ok s rs F.good0 Un) Q7 hx.t hx.m hl
theorem uA (h:lst e=H7 es): ∃p,e= .List es p:=by
 cases e with
 |List y p=>cases h;exact⟨p,rfl⟩
 |_=>exact a9 h
theorem Ct (GO:ai C Γ) {Qq:HJ->Nat} {px:Jq} (hx:Tg Q4 ns x):dN C Γ Q4 ns (.Assign [.Name x px] e pos) (sA Q4 Qq (sE C.gl Q4 n ns) (sL C.gl Q4 n ns) x e):=
 have S:=cP (Q4:=Q4) GO n
 pV (λ_=>cn λ_ h=>cn λ_ Rr=>(uA h).elim λ_ h=>h▸Cq S hx Rr) λ_=>cn λ_ Ry=>Co GO hx Ry
theorem xV {e:PE} {vs:List PE} (h:E0 e=H7 vs):e= .tup vs:=by
 cases e with
 |tup y=>cases h;rfl
 |_=>exact a9 h
theorem A6 {vs:List PV} (h:aW ρ [i,j] vs=H7 ρ'): ∃a b,vs=[a,b]/\ρ'=(ρ.set i (H7 a)).set j (H7 b):=by
 cases vs with
 |nil=>exact a9 h
 |cons a vs=>
  cases vs with
  |nil=>exact a9 h
  |cons b vs=>
   cases vs with
   |nil=>cases h;exact⟨a,b,rfl,rfl⟩
   |cons=>exact a9 h
theorem zY (GO:ai C Γ):dN C Γ Q4 ns (.Assign [.Tuple es k tp] e pos) (sP Q4 ns (sE C.gl Q4 n ns) es e):=by
 refine cn λvs h0=>cn λp h1=>cn λx h2=>cn λy h3=>cn λq h4=>iM λhx=>iM λhy=>iM λhc=>cn λpe Ry=>cn λQs h5=> ?_;obtain⟨k',vp,rfl⟩:=zT h0;cases xV h5;obtain⟨px,e2⟩:=lg h2;obtain⟨py,e3⟩:=lg h3;have h1:=gS h1;have h4:=gS h4;rw [e2,e3]at h1;subst h1 h4;intro A Q5 s₀ Q6 W ok om ρ s o F h;refine ae h λvs QU h=>ae h λρ' hρ h=> ?_;cases h;obtain⟨v1,v2,rfl,rfl⟩:=A6 hρ
 exact de hc λh1 h2=>x_ (by simpa using h1) (oN h2) ((cP GO n).e _ _ _ Ry) (kX hx).t (kX hx).m (kX hy).t (kX hy).m F QU
theorem tA {p:PT} {xs:List Nat} (h:x0 p=H7 xs):p= .many xs:=by
 cases p with
 |one=>exact a9 h
 |many=>cases h;rfl
theorem zZ (GO:ai C Γ) {t:Expr}:dN C Γ Q4 ns (.Assign [t] e pos) (sM Q4 ns (sE C.gl Q4 n ns) t e):=
 iM λhc=>cn λxs R9=>cn λpe Ry A Q5 s₀ Q6 W ok om ρ s o F h=>ae R9 λpt R9 hm=>ae h λv hv h=>ae h λρ' hρ h=>by cases tA hm;cases h;exact de hc λh1 h2=>A5 (oN h1) (oN h2) ((cP GO n).e _ _ _ Ry) R9 F hv hρ
theorem yC {q:HJ×HJ×List Expr} (h:Eh Q4 e=H7 q): ∃px ap cp,e= .Call (.Attribute (.Name q.1 px) q.2.1 ap) q.2.2 [] cp/\aB q.1=Hd/\q.1∈Q4/\(ap.endLine==cp.line)=Hd:=
 ae h λc hc h=>ae h λt ht h=>ae h λx hx h=>cX h λhg h=>by cases h;obtain⟨px,e1⟩:=lg hx;have e2:=nH ht;rw [e1]at e2;exact de hg λhg hl=>de hg λhp hm=>⟨px,t.2.2,c.2.2,e2▸jO hc,hp,by simpa using hm,hl⟩
theorem z_ (S:d0 C Γ Q4 n) {px:Jq} (hx:Tg Q4 ns x) (Rr:sL C.gl Q4 n ns es=H7 Qs):dN C Γ Q4 ns (.AugAssign (.Name x px) .Add (.List es lp) pos) (.augL (Q4.idxOf x) (.list Qs)):=
 λA Q5 s₀ Q6 W ok om ρ s o F h=>ae h λa ha h=>ae h λb hb h=>by
  cases a with
  |list xs=>
   cases b with
   |list ys=>
    obtain⟨hc,rfl⟩:=ah h;refine ae (fG hb).1 λrs Un hv=> ?_;obtain⟨Q7,he⟩:=ah hv;cases he;exact Bn (λs' F'=>S.l _ _ _ Rr A Q5 _ ok s' _ F'.good0 Un) hx.t hx.m (oW ha) F ha hc.1 hc.2
   |_=>exact a9 h
  |_=>exact a9 h
theorem Cs (S:d0 C Γ Q4 n) {px:Jq} (hx:Tg Q4 ns x) (Ry:sE C.gl Q4 n ns e=H7 pe):dN C Γ Q4 ns (.AugAssign (.Name x px) op e pos) (.aug (Q4.idxOf x) op m pe):=
 λA Q5 s₀ Q6 W ok om ρ s o F h=>ae h λa ha h=>ae h λb hb h=>ae h λc hc h=>by obtain⟨hh,rfl⟩:=ah h;exact DR (S.e _ _ _ Ry) hx.t hx.m F ha hb hc hh
theorem Cu (S:d0 C Γ Q4 n) {px:Jq} (hp:aB x=Hd) (hm:x∈Q4) (hl:(ap.endLine==cp.line)=Hd) (Ry:sE C.gl Q4 n ns e=H7 pe):
  dN C Γ Q4 ns (.Expr (.Call (.Attribute (.Name x px) "append" ap) [e] [] cp) pos) (.app (Q4.idxOf x) m pe):=
 λA Q5 s₀ Q6 W ok om ρ s o F h=>ae h λa ha h=>by
  cases a with
  |list xs=>
   refine ae h λv hv h=> ?_;obtain⟨hc,rfl⟩:=ah h;exact DT hp hm (oW ha) hl ⟨S.e _ _ _ Ry,dE Ry⟩ F ha hv hc.1 hc.2
  |_=>exact a9 h
theorem Cp {px:Jq} (hp:aB x=Hd) (hm:x∈Q4) (hl:(ap.endLine==cp.line)=Hd):
  dN C Γ Q4 ns (.Expr (.Call (.Attribute (.Name x px) "reverse" ap) [] [] cp) pos) (.rev (Q4.idxOf x)):=
 λA Q5 s₀ Q6 W ok om ρ s o F h=>ae h λa ha h=>by
  cases a with
  |list xs=>
   obtain⟨hc,rfl⟩:=ah h;exact CB hp hm (oW ha) hl F ha hc.1 hc.2
  |_=>exact a9 h
theorem y9 (GO:ai C Γ) (Qq:HJ->Nat) (ns:ay) (n:Nat) (Rt: ∀RV,iN C Γ Q4 ns RV (sSs C.gl Q4 Qq ns n RV)) (st:IR):dN C Γ Q4 ns st (sS C.gl Q4 Qq ns (n+1) st):=by
 have S:=cP (Q4:=Q4) GO n;cases st with
 |Assign ts e _=>
  refine cn λt ht=> ?_;cases db ht;cases t with
  |Name x _=>exact iM λhx=>Ct GO (kX hx)
  |Tuple es _ _=>exact pV (λ_=>zY GO) λ_=>zZ GO
  |_=>exact jr
 |AugAssign t op e _=>
  refine cn λx hx=> ?_;obtain⟨px,rfl⟩:=lg hx;refine iM λhx=>pV (λhc=>cn λes he=>cn λ_ Rr=> ?_) λ_=>cn λ_ Ry=>Cs S (kX hx) Ry;obtain⟨p,rfl⟩:=uA he;exact hc.1▸z_ S (kX hx) Rr
 |Return e _=>exact cn λe he=>cn λpe Ry A Q5 s₀ Q6 W ok om ρ s o F h=>he▸aL (P:=λo=>WP _ A _ (cL C Q4 A Q5 ns s₀ Q6 W ok s o) s) h λv hv=>wU (S.e _ _ _ Ry) F hv
 |If c a b _=>
  refine cn λpc XG A Q5 s₀ Q6 W ok om ρ s o F h=>ae h λt ht h=>Df (pa:=[]) (pb:=[]) (S.t _ _ _ XG) F ht λs' F'=> ?_;cases t with
  |true=>exact Rt a A Q5 s₀ Q6 W ok om ρ s' o F' h
  |false=>exact Rt b A Q5 s₀ Q6 W ok om ρ s' o F' h
 |For t it body Vq _=>
  exact iM λhc=>de hc λRp he=>NJ.mp he▸cn λpt R9=>cn λpi S0 A Q5 s₀ Q6 W ok om ρ s o F h=>ae h λxs RX h=>
    Dt (λx=>iD Rp Q5 x) R9 F (Dg GO S0 F.good0 RX) (λW ok om ρ s o F h=>Rt body A Q5 s₀ Q6 W ok om ρ s o F h) h
 |While c body Vq _=>
  exact iM λhe=>NJ.mp he▸cn λpc XG A Q5 s₀ Q6 W ok om ρ s o F h=>Ck (S.t _ _ _ XG) F (λW ok om ρ s o F h=>Rt body A Q5 s₀ Q6 W ok om ρ s o F h) h
 |Expr e _=>
  refine cn λq hq=> ?_;obtain⟨px,ap,cp,rfl,hp,hm,hl⟩:=yC hq;obtain⟨x,m,args⟩:=q;refine pV (λhe=>iM λha=> ?_) λ_=>cn λe h1=>pV (λhe=>cn λ_ Ry=> ?_) λ_=>jr
  ·cases NJ.mp ha;cases he;exact Cp hp hm hl
  ·cases db h1;cases he;exact Cu S hp hm hl Ry
 |_=>exact jr
theorem d9 (GO:ai C Γ) (Qq:HJ->Nat) (ns:ay): ∀n,(∀st,dN C Γ Q4 ns st (sS C.gl Q4 Qq ns n st))/\ ∀RV,iN C Γ Q4 ns RV (sSs C.gl Q4 Qq ns n RV)
 |0=>⟨λst=>jr,λRV A Q5 s₀ Q6 W ok om ρ s o F h=>a9 h⟩
 |n+1=>by
  obtain⟨Sz,Rt⟩:=d9 GO Qq ns n;refine⟨λst=>y9 GO Qq ns n Rt st,λRV=> ?_⟩;cases RV with
  |nil=>
   intro A Q5 s₀ Q6 W ok om ρ s o F h;cases h;exact Hi ⟨rfl,ok,om,F,.refl _ _ _,rfl⟩
  |cons st RV=>
   intro A Q5 s₀ Q6 W ok om ρ s o F h;obtain⟨o',ho,h⟩:=Ho.mp h;refine Ih ((Sz st A Q5 s₀ Q6 W ok om ρ s o' F ho).mono λf s₁ hP=> ?_);cases o' with
   |next ρ' Qb=>
    obtain⟨hf,ok',Rf,F',T,SD⟩:=hP;subst hf;haveI h':ag Γ (sSs C.gl Q4 Qq ns n RV) ρ' (Rf.map (·.1))=H7 o:=by rw [SD];exact h
    exact(Rt RV A Q5 s₀ Q6 W ok' Rf ρ' s₁ o F' h').mono λf s₂ h=>h.seq T
   |ret v=>
    cases h;obtain⟨u,hf,hx⟩:=hP;subst hf;exact⟨u,rfl,hx⟩
end
theorem kc {k:HJ->Option J1}: ∀{bs:List (HJ×Hl)} {m:HJ->Option Hl},x∉bs.map (·.1)->bindL k bs m x=m x
 |[],m,_=>rfl
 |(n,v)::r,m,h=>by
  simp only [HI,Hp,not_or]at h;rw [bindL,kc h.2];split
  ·simp [h.1]
  ·rfl
theorem nE {k:HJ->Option J1} {v:Hl} (hk:k x=H7 .local): ∀{bs:List (HJ×Hl)} {m:HJ->Option Hl},(bs.map (·.1)).Nodup->(x,v)∈bs->bindL k bs m x=H7 v
 |[],m,_,h=>by cases h
 |(n,u)::r,m,hn,h=>by
  have Ra:=Jc.mp hn;rw [bindL];rcases Hp.mp h with h|h
  ·cases h
   rw [kc Ra.1,if_pos hk,if_pos rfl]
  ·exact nE hk Ra.2 h
theorem kg {k:HJ->Option J1}: ∀{bs:List (HJ×Hl)} {m:HJ->Option Hl},x∉bs.map (·.1)->bindC k bs m x=m x
 |[],m,_=>rfl
 |(n,v)::r,m,h=>by
  simp only [HI,Hp,not_or]at h;rw [bindC,kg h.2];split
  ·rfl
  ·simp [h.1]
theorem nF {k:HJ->Option J1} {v:Hl} (hk:k x≠H7 .local): ∀{bs:List (HJ×Hl)} {m:HJ->Option Hl},(bs.map (·.1)).Nodup->(x,v)∈bs->bindC k bs m x=H7 v
 |[],m,_,h=>by cases h
 |(n,u)::r,m,hn,h=>by
  have Ra:=Jc.mp hn;rw [bindC];rcases Hp.mp h with h|h
  ·cases h
   rw [kg Ra.1,if_neg hk,if_pos rfl]
  ·exact nF hk Ra.2 h
theorem fu: ∀{ns:List (HJ×J1)} {n:Nat} {Q8:List (HJ×Hw)},(Q8.lookup x).isSome=Hd->((It n ns Q8).lookup x).isSome=Hd
 |[],n,Q8,h=>h
 |(y,k)::r,n,Q8,h=>by
  unfold It;split
  ·refine fu ?_
   rw [IV];cases (x==y)<;>simp [h]
  ·exact fu h
theorem dY: ∀{ns:List (HJ×J1)} {n:Nat} {Q8:List (HJ×Hw)},(x,Lo)∈ns->((It n ns Q8).lookup x).isSome=Hd
 |[],n,Q8,h=>by cases h
 |(y,k)::r,n,Q8,h=>by
  unfold It;rcases Hp.mp h with h|h
  ·cases h
   exact fu (by simp)
  ·split
   ·exact dY h
   ·exact dY h
def aE (Γ:Gam) (n:Nat) (params:List Nat) (ps:List PS) (args:List PV):Option PV:=do
 let ρ<-aW (Hy n H9) params args
 match<-ag Γ ps ρ []with
 | .ret v=>H7 v
 | .next _ _=>H7 .none
theorem lR {x:Nat} {vs:List PV} (h:aW ρ is vs=H7 ρ'):ρ'.get x=H7 pv->ρ.get x=H7 pv∨(x,pv)∈is.zip vs:=by
 refine dT h (λ_ h=> .inl h) λρ i is v vs ρ' _ ih hg=> ?_;refine(ih hg).elim (λq=> ?_) λq=> .inr (Hq _ q);by_cases e:x=i
 ·subst e
  exact .inr ((Hg (dM (pv:=pv) (o:=H7 v) q))▸Hs)
 ·exact .inl ((aD e).symm.trans q)
theorem mu:Ρ.get (Hy n H9) i=H9:=by unfold Ρ.get;rw [List.getElem?_replicate];split<;>rfl
theorem ue {γ:Type} {a:α} {b:β} {xs:List α}: ∀{ys:List β} {zs:List γ},zs.length=ys.length->(a,b)∈xs.zip ys-> ∃(c:γ) (i:Nat),xs[i]? =H7 a/\ys[i]? =H7 b/\zs[i]? =H7 c/\(a,c)∈xs.zip zs:=by
 induction xs with
 |nil=>exact λ_ h=>nomatch h
 |cons x xs ih=>
  intro ys zs hl h;cases ys with
  |nil=>exact nomatch h
  |cons y ys=>
   cases zs with
   |nil=>exact nomatch hl
   |cons z zs=>
    refine(Hp.mp h).elim (λh=> ?_) λh=> ?_
    ·cases h;exact⟨z,0,rfl,rfl,rfl,Hs⟩
    ·obtain⟨c,i,h1,h2,h3,h4⟩:=ih (Kf hl) h
     exact⟨c,i+1,h1,h2,h3,Hq _ h4⟩
structure bW (C:Cx) (f:Hw) (o:Oh) (fd:Ku) (body:List IR) (params:List HJ) (Q4:List HJ):Prop where
 ho:C.H.get? f=H7 o
 data:o.data= .func fd
 lim:C.H.NoLimit
 code:e7 C.H fd.code fd.qualname
 body:fd.body= .stmts body
 clo:fd.closure=[]
 glob:fd.globals=IE
 blt:fd.builtins=KW
 kind:fd.scope.kind= .function
 co:fd.scope.isCoroutine=Hb
 gen:fd.scope.isGenerator=Hb
 bind: ∀vs:List Hl,vs.length=params.length->OX fd ⟨vs,[]⟩=pure (params.zip vs)
 nd:params.Nodup
 pn: ∀x∈params,x∈Q4
 pk: ∀x∈params,fd.scope.names.lookup x=H7 .local∨fd.scope.names.lookup x=H7 .cell
 free: ∀p∈fd.scope.names,p.2≠ .free
theorem AOk.deeper (h:AOk (d+1) A):AOk d (A.deeper Q5):=
 ⟨h.1,by have:=h.2.1;show A.depth+1+d<950;exact Hk (Hu (HS _ _ _)) this,by have:=h.2.2;show A.units+3+10*d+60<9900;lia⟩
def ww:LR->Hl
 | .ret v=>v
 |_=> .none
variable {params:List HJ}
theorem jL {f:Hw} {body:List IR} (D:bW C f o fd body params Q4) (Ro:Sys C.H)
  {args:List PV} (hρ:aW (Hy Q4.length H9) (params.map Q4.idxOf) args=H7 ρ)
  (hA:AOk (C.d+1) A) (hH:HK C.H s.heap) (ho:bS ok s.heap) (q:av C.prog C.w ok s.heap args vs)
  (k: ∀s₁,FSt C Q4 (A.deeper (JR fd s.heap.objs.size f)) (JR fd s.heap.objs.size f) fd.scope.names s ok (λ_=>False) (λb=>ok b/\ ¬bg (JR fd s.heap.objs.size f) fd.scope.names b) [] ρ s₁->
   WP (Hj C.prog C.w) (A.deeper (JR fd s.heap.objs.size f)) (JK body (JR fd s.heap.objs.size f)) (λfl s'=>Q (ww fl) s') s₁):
  WP (Hj C.prog C.w) A (KG (.ref f) vs) Q s:=by
 have Q7:params.length=args.length:=by simpa using(dS hρ).1
 have Uk:vs.length=params.length:=by rw [q.length,Q7]
 have Sb:(params.zip vs).map (·.1)=params:=by rw [Mz];exact Hu (IW Uk)
 refine OQ ?_;haveI W5: ∀x∈params.zip vs,fd.scope.names.lookup x.1=H7 .local∨(fd.scope.names.lookup x.1=H7 .cell/\((It (s.heap.objs.size+1) fd.scope.names []).lookup x.1).isSome=Hd):=λx hx=>by
  have Tu:x.1∈params:=by rw [<-Sb];exact HT (f:=(·.1)) hx
  rcases D.pk _ Tu with h|h
  ·exact .inl h
  ·exact .inr ⟨h,dY (mem_of_lookup h)⟩
 refine codeAny_call_cells hA.room ((cz D.data).keep (hH _) D.ho) D.data (c_ D.lim hH) (D.code.keep hH).rec D.body (D.bind vs Uk) D.clo W5 (λs₁ X=> ?_) D.co D.gen D.kind;have E:cx (JR fd s.heap.objs.size f) fd.scope.names:=by
  refine⟨D.kind,D.glob,D.blt,λ_=>rfl,λ_=>rfl,λx hx=> ?_,λx y c hx hy h1 h2=> ?_,λ_ h=>h⟩
  ·haveI:fd.scope.names.lookup x=H7 .cell:=by
    have Tu:bv (fd.scope.names.lookup x)=Hd:=hx;cases h:fd.scope.names.lookup x with
    |none=>rw [h]at Tu;cases Tu
    |some k=>
     rw [h]at Tu;cases k<;>first|rfl|(exact absurd Tu (by decide))|(exact absurd rfl (D.free _ (mem_of_lookup h)))
   exact J7.mp (dY (mem_of_lookup this))
  ·exact name_of_addr X.apart (mem_of_lookup h1) (mem_of_lookup h2)
 have Tl: ∀b,bg (JR fd s.heap.objs.size f) fd.scope.names b->s.heap.objs.size<=b:=λb hb=>by
  rcases hb with rfl|⟨x,_,h⟩
  ·exact X.toInCall.fresh
  ·exact HP (Hk X.toInCall.fresh (X.above x b (mem_of_lookup h)))
 have FO:aG s₁.heap (JR fd s.heap.objs.size f) fd.scope.names:=⟨⟨_,X.toInCall.ns⟩,λx hx=>by
  obtain⟨c,hc⟩:=E.cells x (by show bv (fd.scope.names.lookup x)=Hd;rw [hx];rfl)
  exact⟨c,_,hc,X.cell x c hc⟩⟩
 haveI Sw:=X.toInCall.same;have hsz:s.heap.objs.size<=s₁.heap.objs.size:=by obtain⟨o,_,_,e,_⟩:=X.toInCall.ns;exact H8 X.toInCall.fresh (HP (II e))
 have xt:Ext s s₁:=by obtain⟨h,tk,rfl⟩:=Sw;exact⟨HK.of X.toInCall.keep,hsz,λ_ _ e=>e,rfl⟩
 haveI F:FSt C Q4 (A.deeper (JR fd s.heap.objs.size f)) (JR fd s.heap.objs.size f) fd.scope.names s ok (λ_=>False) (λb=>ok b/\ ¬bg (JR fd s.heap.objs.size f) fd.scope.names b) [] ρ s₁:=by
  refine⟨hA.deeper,E,xt,hH,Ro,FO, ?_,by rw [(dS hρ).2];simp,λb hb=> ?_,λb hb=>⟨ho b (H8 hsz hb),λhh=> ?_⟩,λb hb=>⟨λh=>h.2 hb,Tl b hb⟩,λb h=>h.1,ho,(λp hp=>absurd hp (by simp)),⟨Kg,Kg⟩,λb hb=>hb.elim⟩
  ·intro x pv hx hg
   have hg:ρ.get (Q4.idxOf x)=H7 pv:=hg;rcases lR hρ hg with h|h
   ·rw [mu]at h;cases h
   ·obtain⟨⟨y,v⟩,i,h1,h2,h3,h4⟩:=ue (zs:=params.zip vs) (by rw [O2,Uk,M1,Q7]) h
    obtain⟨y',SP,SA⟩: ∃y',params[i]? =H7 y'/\Q4.idxOf y'=Q4.idxOf x:=by rw [HQ]at h1;exact HG.mp h1
    have V5:y'∈params:=Ht SP;haveI SX:y'=x:=by
     by_cases e:y'=x
     ·exact e
     ·exact absurd SA.symm (e_ (D.pn y' V5) (Kv e))
    subst SX;obtain⟨v',Xy,rv⟩:=q.get h2;have RO:(y',v')∈params.zip vs:=by
     haveI:(params.zip vs)[i]? =H7 (y',v'):=by rw [Mg];exact⟨SP,Xy⟩
     exact Ht this
    have VF:((params.zip vs).map (·.1)).Nodup:=by rw [Sb];exact D.nd
    refine⟨v', ?_,rv.mono (λb hb ⟨o,e⟩=>⟨hb,λhh=>Hr _ (Ha (ao e) (Tl b hh))⟩) λb _ o e=>xt.keep b o e⟩;rcases D.pk y' V5 with hk|hk
    ·exact .loc _ hk X.toInCall.ns (nE hk VF RO)
    ·obtain⟨c,hc⟩:=E.cells y' (by show bv (fd.scope.names.lookup y')=Hd;rw [hk];rfl)
     refine .cel c (.inl hk) hc ?_;have:=X.cell y' c hc;rw [nF (by show fd.scope.names.lookup y'≠H7 .local;rw [hk];decide) VF RO]at this
     exact this
  ·rcases hb with rfl|⟨x,hx,h⟩
   ·exact n_ X.toInCall.ns
   ·exact lL (X.cell x b h)
  ·obtain⟨o,e⟩:=FO.live hh
   rw [bq hb]at e;cases e
 exact Jl (E:=λ_ _=>False) (k _ F) (λfl _ h=>by cases fl<;>exact h) λ_ _ h=>h.elim
theorem dJ {f:Hw} {body:List IR} (D:bW C f o fd body params Q4) (Ro:Sys C.H)
  (hS:iN C Γ Q4 fd.scope.names body ps) {args:List PV} (hp:aE Γ Q4.length (params.map Q4.idxOf) ps args=H7 r):aj C.prog C.w C.H (C.d+1) f args r:=by
 intro A s ok vs hA hH ho hs q;obtain⟨ρ,hρ,hp⟩:=Ho.mp hp;obtain⟨out,Yu,hp⟩:=Ho.mp hp;refine jL D Ro hρ hA hH ho q λs₁ F=>(hS _ _ s ok _ _ [] ρ s₁ out F Yu).mono λfl s₂ hP=> ?_;cases out with
 |ret v=>
  cases hp;obtain⟨u,hf,hx,hr⟩:=hP;subst hf;exact⟨hx,hr⟩
 |next ρ' Qb=>
  cases hp;obtain⟨hf,ok',Rf,F',_⟩:=hP;subst hf;exact⟨F'.x,rfl⟩
end Internal
namespace Internal
open PySem PySem.W PySem.Calls PyProof.Rows
def fx (g:Array M4):Prop:= ∀x∈g,x.bare=Hd
variable {s:Hh} {g:Nat}
theorem fx.set {x:M4} (h:fx s.gens) (hx:x.bare=Hd):fx (s.setGen g x).gens:=by
 intro y hy;have hy:y∈s.gens.setIfInBounds g x:=hy;obtain⟨i,hi,rfl⟩:=Array.mem_iff_getElem.mp hy;rw [Array.getElem_setIfInBounds (by simpa using hi)]
 split
 ·exact hx
 ·exact h _ (PJ (by simpa using hi))
theorem fx.push {a:Array M4} {x:M4} (h:fx a) (hx:x.bare=Hd):fx (a.push x):=by
 intro y hy;rcases Array.mem_push.mp hy with h'|h'
 ·exact h y h'
 ·rw [h'];exact hx
variable {M:Oj} {p:Jq} {fs:List Frame} {s':Hh}
theorem jy {Γ:Ctx} {t:J_ J'} {e:End} (h:Runs M Γ p t fs s e s'):fx s.gens->fx s'.gens:=by
 induction h with
 |done=>exact id
 |raise=>exact id
 |yield=>exact id
 |newGen _ ih=>intro hb;exact ih (hb.push rfl)
 |call _ _ Sz Rt=>exact λhb=>Rt (Sz hb)
 |callSusp _ ih=>exact ih
 |resumeFresh _ _ hq _ Sz Rt=>exact λhb=>Rt ((Sz (hb.set rfl)).set (Lq hq))
 |resumeSuspended _ _ hq _ Sz Rt=>exact λhb=>Rt ((Sz (hb.set rfl)).set (Lq hq))
 |resumeThrowFresh _ _ ih=>exact λhb=>ih (hb.set rfl)
 |segRet _ _ Sz Rt=>exact λhb=>Rt (Sz hb)
 |segGen _ _ Sz Rt=>exact λhb=>Rt ((Sz hb).set rfl)
 |segSuspOut _ _ ih=>exact ih
 |segSuspGen _ _ hq _ Sz Rt=>exact λhb=>Rt ((Sz hb).set (Lq hq))
 |_=>assumption
theorem sJ {Γ:Ctx} {r:Resume} {RW:GenResult} (h:Wakes M Γ p g r s RW s') (hb:fx s.gens):fx s'.gens:=by
 unfold Wakes at h;split at h
 ·exact h.elim
 ·split at h
  ·obtain⟨_,_,hr,hq,_,rfl⟩:=h;exact(jy hr (hb.set rfl)).set (Lq hq)
  ·rw [h.2];exact hb
  ·rw [h.2];exact hb.set rfl
 ·obtain⟨_,_,hr,hq,_,rfl⟩:=h;exact(jy hr (hb.set rfl)).set (Lq hq)
 ·rw [h.2];exact hb
 ·rw [h.2];exact hb
variable {α:Type}
theorem zP (M:Oj) (Γ:Ctx) (t:J_ α): ∀(Q:α->Jq->Hh->Prop) (E:Hl->Jq->Hh->Prop) (p:Jq) (s:Hh),fx s.gens->Kz M Γ t Q E p s->
  Kz M Γ t (λa p' s'=>fx s'.gens/\Q a p' s') (λe p' s'=>fx s'.gens/\E e p' s') p s:=by
 induction t with
 |pure a=>intro Q E p s hn h;exact⟨hn,h⟩
 |raise e=>intro Q E p s hn h;exact⟨hn,h⟩
 |unsupported _=>intro Q E p s _ h;exact h
 |finish _=>intro Q E p s _ h;exact h
 |rule _ k ih=>intro Q E p s hn h;exact ih () Q E p s hn h
 | «at» p' k ih=>intro Q E p s hn h;exact ih () Q E p' s hn h
 |load a _ k ih=>intro Q E p s hn ⟨o,ho,h⟩;exact⟨o,ho,ih o Q E p s hn h⟩
 |update a _ f k ih=>intro Q E p s hn h;exact⟨h.1,ih () Q E p _ hn h.2⟩
 |loadIfAlive a k ih=>intro Q E p s hn h;exact ih _ Q E p s hn h
 |point _ k ih=>intro Q E p s hn h;exact ih () Q E p s hn h
 |register _ _=>intro Q E p s _ h;exact h
 |alloc o k ih=>intro Q E p s hn h;exact ih _ Q E p _ hn h
 |fresh k ih=>intro Q E p s hn h;exact ih _ Q E p _ hn h
 |ask k ih=>intro Q E p s hn h;exact ih _ Q E p s hn h
 |choose src m k ih=>intro Q E p s hn h;exact⟨h.1,ih _ Q E p _ hn h.2⟩
 |os q _ k ih=>intro Q E p s hn h;exact ih _ Q E p _ hn h
 |call c hd _ _ k ih=>intro Q E p s hn ⟨r,s',hr,h⟩;exact⟨r,s',hr,ih r Q E p s' (jy hr hn) h⟩
 |handled own k ih=>intro Q E p s hn h;exact ih _ Q E p s hn h
 |genState g k ih=>intro Q E p s hn ⟨st,hs,h⟩;exact⟨st,hs,ih _ Q E p s hn h⟩
 |newGen c k ih=>intro Q E p s hn h;exact ih _ Q E p _ (hn.push rfl) h
 |resume g r _ k ih=>intro Q E p s hn ⟨RW,s',hw,h⟩;exact⟨RW,s',hw,ih RW Q E p s' (sJ hw hn) h⟩
 |yield _ _ _ _=>intro Q E p s _ h;exact h
 |stack k ih=>intro Q E p s hn h;exact ih _ Q E p s hn h
 |fork _ _=>intro Q E p s _ h;exact h
 |thread k ih=>intro Q E p s hn h;exact ih _ Q E p s hn h
 |await _ _ _ _ _=>intro Q E p s _ h;exact h
variable {A:IZ} {E:Hl->Hh->Prop}
theorem sB {t:J_ α} {Q:α->Hh->Prop} (hb:fx s.gens) (h:Im M A t (λa s'=>fx s'.gens->Q a s') E s):Im M A t Q E s:=
 Jl (λΓ p hΓ=>zP M Γ t _ _ p s hb (h Γ p hΓ):Im M A t (λa s'=>fx s'.gens/\(fx s'.gens->Q a s')) (λe s'=>fx s'.gens/\E e s') s) (λ_ _ x=>x.2 x.1) (λ_ _ x=>x.2)
variable {prog:IG} {w:J0} {Y:Protocol} {n:Nat} {s₀:Hh} {c:Code} {Q5:MY} {K:LR->J_ J'} {H:Hl->J_ J'} {lv:List Hl->List Hl} {target:Expr} {pos:Jq} {I:Hw}
section
variable {R:GenEnd}
 {gd:Bool->Bool}
theorem jx {m:J_ α} {K:α->J_ J'} {gd lv}
  (h:WP (Hj prog w) (A.over c fs) m (λa s'=>Pf (Hj prog w) A R Y n s₀ c (K a) fs s') s):Pf (Hj prog w) A R Y n s₀ c (m.wrap K H gd lv) fs s:=
 seg_wrap (Jl h (λ_ _ x=>x) λ_ _ x=>x.elim)
theorem c6 {β:Type} {m:J_ α} {F:α->J_ β} {K':β->J_ J'} {H':Hl->J_ J'} {gd lv}
  (h:WP (Hj prog w) (A.over c fs) m (λa s'=>Pf (Hj prog w) A R Y n s₀ c ((F a).wrap K' H' gd lv) fs s') s):Pf (Hj prog w) A R Y n s₀ c ((m>>=F).wrap K' H' gd lv) fs s:=
 seg_bind_wrap (Jl h (λ_ _ x=>x) λ_ _ x=>x.elim)
def forFrame (Q5:MY) (K:LR->J_ J') (H:Hl->J_ J') (gd:Bool->Bool) (lv:List Hl->List Hl) (c:Code) (p:Jq):Frame:=
 .ret (λr=>((match r with| .ok f=>(.pure f:J_ LR)| .error e=> .raise e).onRaise fun(x:Hl)=>do
    if(<-field x 1)==Nf then Np "frame.own-activation:exception-without-traceback"
    setFlight x Q5.frame).wrap K H gd lv) H9 (gd Hb) (lv []) c p []
theorem A7 {iter:Expr} {body:List IR} (hs: ∀x,KO iter Q5 x=pure x)
  (h:WP (Hj prog w) (A.over c fs) (IY iter Q5) (λx s₁=>WP (Hj prog w) (A.over c fs) (MQ x) (λit s₂=> ∀p,
   Pf (Hj prog w) A R Y n s₀ (.forLoop target it body [] Q5) ((Hj prog w).den (.forLoop target it body [] Q5)) (forFrame Q5 K H gd lv c p::fs) s₂) s₁) s):
  Pf (Hj prog w) A R Y n s₀ c ((LO (.For target iter body [] pos) Q5).wrap K H gd lv) fs s:=by
 rw [exec_For];refine c6 (KI ?_);refine c6 (h.mono λx s₁ h₁=> ?_);rw [hs];refine c6 (Hi ?_);refine c6 (KI ?_);refine c6 (WP.hold (h₁.mono λit s₂ h₂=> ?_));exact seg_call h₂
theorem jY {body:List IR}
  (h:WP (Hj prog w) (A.over (.forLoop target (.ref I) body [] Q5) fs) (Lb (.ref I)) (λr s₁=>match r with
   |none=>Pf (Hj prog w) A R Y n s₀ (.block [] Q5) (.pure (.done .next)) fs s₁
   |some v=>WP (Hj prog w) (A.over (.forLoop target (.ref I) body [] Q5) fs) (Iu target (.ref I) v) (λ_ s₂=>
     WP (Hj prog w) (A.over (.forLoop target (.ref I) body [] Q5) fs) (K9 target Q5 v) (λ_ s₃=>
      ∀H,Pf (Hj prog w) A R Y n s₀ (.forLoop target (.ref I) body [] Q5) ((JK body Q5).wrap (λf=>match f with
       | .next| .cont=> .pure (.again (.forLoop target (.ref I) body [] Q5))
       | .brk=> .pure (.done .next)
       | .ret v=> .pure (.done (.ret v))) H id id) fs s₃) s₂) s₁) s):
  Pf (Hj prog w) A R Y n s₀ (.forLoop target (.ref I) body [] Q5) ((Hj prog w).den (.forLoop target (.ref I) body [] Q5)) fs s:=by
 show Pf _ A R Y n s₀ _ ((forTurn target (.ref I) body [] Q5).onRaise (λx=>do Oq x Q5;OG x)) fs s
 unfold forTurn;rw [Sem.onRaise_eq_wrap];refine c6 (KI ?_);refine c6 ?_;haveI hn:WP (Hj prog w) (A.over (.forLoop target (.ref I) body [] Q5) fs) ((Lb (.ref I)).onRaise λ_=>Ji {target.pos with line:=0}) _ s:=
  wpAny_onRaise (Jl h (λ_ _ x=>x) λ_ _ x=>x.elim)
 refine hn.mono λr s₁ h₁=> ?_;cases r with
 |none=>
  show Pf _ A R Y n s₀ _ (.pure (.again (.block [] Q5))) fs s₁;refine Px rfl ?_;exact h₁
 |some v=>
  refine c6 (h₁.mono λ_ s₂ h₂=> ?_);refine c6 (h₂.mono λ_ s₃ h₃=> ?_);rw [Sem.bind_eq_wrap',Sem.wrap_wrap];refine Eq.mpr (congrArg (λt=>Pf (Hj prog w) A R Y n s₀ (.forLoop target (.ref I) body [] Q5) t fs s₃) (Sem.wrap_congr (JK body Q5) id id (λf=> ?_) λe=>rfl)) (h₃ _);cases f<;>rfl
end
structure GE (C:Cx) (Q5:MY) (ns:ay):Prop where
 e:cx Q5 ns
 y:Sys C.H
 nc: ∀x,bv (Q5.kindOf x)=Hb
 lo:C.H.objs.size<=Q5.locals
structure GI (C:Cx) (Q4:List HJ) (Q5:MY) (ns:ay) (ρ:Ρ) (s:Hh):Prop where
 h:HK C.H s.heap
 f:aG s.heap Q5 ns
 r:cU C.prog C.w Q4 (λ_=>False) s.heap Q5 ρ
 l:ρ.length<=Q4.length
 sc: ∀i v,ρ.get i=H7 v->i9 v=Hd
variable {C:Cx} {Γ:Gam} {Q4:List HJ} {ns:ay} {Qj:Hh} {ρ ρ':Ρ} {G:List Nat} {k:Nat} {Q6 ok W ok':Hw->Prop} {ps:PS} {e:Expr} {pe:PE} {pv:PV} {v:Hl} {x:HJ} {S:Nat->IL->Prop} {t:NX} {h':IL} {z:Hw}
section
theorem bw.refl (W:List Hw) (G:List Nat) (s:Hh):bw W G s s:=⟨λ_ _ _ e=>e,λ_ _ _ e=>e,rfl,Hm _⟩
theorem bw.trans {W:List Hw} (x:bw W G s s') (y:bw W G s' Qj):bw W G s Qj:=
 ⟨λb o h e=>y.keep b o h (x.keep b o h e),λi g h e=>y.gens i g h (x.gens i g h e),y.os.trans x.os,H8 x.size y.size⟩
theorem bw.wide {W W':List Hw} {G':List Nat} (x:bw W G s s') (h: ∀b∈W,b∈W') (h': ∀b∈G,b∈G'):bw W' G' s s':=
 ⟨λb o hb e=>x.keep b o (λq=>hb (h b q)) e,λi g hi e=>x.gens i g (λq=>hi (h' i q)) e,x.os,x.size⟩
theorem Ext.step {W:List Hw} (x:Ext s s'):bw W G s s':=⟨λb o _ e=>x.keep b o e,λi g _ e=>x.gens i g e,x.os,x.size⟩
theorem GE.reads (E:GE C Q5 ns) {b:Hw} (h:bF Q5 b):b=Q5.locals:=by
 rcases h with h|⟨x,h,_⟩
 ·exact h
 ·rw [E.nc x]at h;cases h
theorem GE.home (E:GE C Q5 ns) {b:Hw} (h:bg Q5 ns b):b=Q5.locals:=E.reads (h.reads E.e)
theorem GI.at (E:GE C Q5 ns) (G:GI C Q4 Q5 ns ρ s) (h:HK C.H s'.heap) (k: ∀o,vis s.heap Q5.locals=H7 o->vis s'.heap Q5.locals=H7 o):GI C Q4 Q5 ns ρ s':=
 ⟨h,G.f.at λb hb o e=>by rw [E.home hb]at e ⊢;exact k o e,G.r.at (λb hb o e=>by rw [E.reads hb]at e ⊢;exact k o e) (λ_ h=>h.elim) λ_ _ h _=>h,G.l,G.sc⟩
theorem GI.live (G:GI C Q4 Q5 ns ρ s): ∃o,vis s.heap Q5.locals=H7 o:=by obtain⟨m,n⟩:=G.f.L;exact n_ n
theorem GI.ext (E:GE C Q5 ns) (G:GI C Q4 Q5 ns ρ s) (x:Ext s s'):GI C Q4 Q5 ns ρ s':=G.at E (G.h.trans x.keep) λo e=>x.keep _ o e
abbrev uI (s:Hh):Hw->Prop:=λb=>s.heap.objs.size<=b
theorem GI.lo (E:GE C Q5 ns) (G:GI C Q4 Q5 ns ρ s):C.H.objs.size<=s.heap.objs.size:=by refine Ix λQp=> ?_;obtain⟨o,e⟩:=G.live;exact Hr _ (Ha (Ha (ao e) (HP Qp)) E.lo)
theorem GI.fstK (E:GE C Q5 ns) (G:GI C Q4 Q5 ns ρ s) (hA:AOk C.d A) (hk:Q5.locals<k) (Tw:k<=s.heap.objs.size):
  FSt C Q4 A Q5 ns {s with heap:=C.H,gens:= #[]} (λb=>C.H.objs.size<=b) (λb=>(∃o,vis s.heap b=H7 o)/\b≠Q5.locals/\b<k) (λb=>k<=b) [] ρ s where
 a:=hA
 e:=E.e
 x:=⟨G.h,G.lo E,λi g e=>by simp at e,rfl⟩
 h:=HK.refl _
 y:=E.y
 f:=G.f
 r:=G.r.wide λ_ h=>h.elim
 l:=G.l
 v:=λb hb=>by rw [E.reads hb];exact G.live
 free:=λb h=>H8 Tw h
 home:=λb hb=>⟨λh=>by rw [E.home hb]at h;exact Hr _ (Ha hk h),by rw [E.home hb];exact E.lo⟩
 sub:=λb h=>H8 (HP (Hk E.lo hk)) h
 free₀:=λb h=>h
 ow:=λp hp=>absurd hp (by simp)
 nd:=⟨Kg,Kg⟩
 w:=λb ⟨⟨o,e⟩,hb,hbk⟩=>⟨λh=>Hr _ (Ha hbk h),λh=>hb (E.reads h),by simp,ao e⟩
theorem GI.fst (E:GE C Q5 ns) (G:GI C Q4 Q5 ns ρ s) (hA:AOk C.d A):
  FSt C Q4 A Q5 ns {s with heap:=C.H,gens:= #[]} (λb=>C.H.objs.size<=b) (λb=>(∃o,vis s.heap b=H7 o)/\b≠Q5.locals) (uI s) [] ρ s:=
 (G.fstK E hA (by obtain⟨_,e⟩:=G.live;exact ao e) (Hm _)).setW λb ⟨⟨o,e⟩,hb⟩=>⟨λh=>Hr _ (Ha (ao e) h),λh=>hb (E.reads h),by simp,ao e⟩
theorem GI.of (E:GE C Q5 ns) (F:FSt C Q4 A Q5 ns s₀ Q6 W ok [] ρ s) (SQ: ∀i v,ρ.get i=H7 v->i9 v=Hd):GI C Q4 Q5 ns ρ s:=
 ⟨F.hk,F.f,λx pv hx hp=>by obtain⟨v,V,r⟩:=F.r x pv hx hp;exact⟨v,V,iZ (SQ _ _ hp) r⟩,F.l,SQ⟩
theorem GI.step (T:Tr (λb=>(∃o,vis s.heap b=H7 o)/\b≠Q5.locals) ok ok' s s') (sz:s.heap.objs.size<=s'.heap.objs.size):bw [Q5.locals] [] s s':=
 ⟨λb o hb e=>T.keep b o (.inr ⟨⟨o,e⟩,by simpa using hb⟩) e,λi g _ e=>T.gens i g e,T.os,sz⟩
theorem GI.run (E:GE C Q5 ns) (G:GI C Q4 Q5 ns ρ s) (hA:AOk C.d A) {st:IR} (hS:dN C Γ Q4 ns st ps) (hp:az Γ ps ρ []=H7 (.next ρ' [])) (SQ: ∀i v,ρ'.get i=H7 v->i9 v=Hd):
  WP (Hj C.prog C.w) A (LO st Q5) (λf s'=>f= .next/\GI C Q4 Q5 ns ρ' s'/\bw [Q5.locals] [] s s') s:=by
 refine WP.size ((hS A Q5 _ _ _ _ [] ρ s _ (G.fst E hA) hp).mono λf s' hP sz=> ?_);obtain⟨hf,ok',Rf,F',T,SD⟩:=hP;haveI:Rf=[]:=by simpa using SD
 subst this;exact⟨hf,GI.of E F' SQ,GI.step T sz⟩
theorem GI.test (E:GE C Q5 ns) (G:GI C Q4 Q5 ns ρ s) (hA:AOk C.d A) {b:Bool} (h:dB C Γ Q4 ns e pe) (hp:aJ Γ pe ρ=H7 b):
  WP (Hj C.prog C.w) A (isTrue e Q5 (IY e Q5)) (λb' s'=>b'=b/\Ext s s') s:=(G.fst E hA).goodT h hp
theorem GI.eval (E:GE C Q5 ns) (G:GI C Q4 Q5 ns ρ s) (hA:AOk C.d A) {v:PV} (h:aI C Γ Q4 ns e pe) (hp:pev Γ pe ρ=H7 v):
  WP (Hj C.prog C.w) A (Pm e Q5) (Ev C (uI s) v s) s:=h A Q5 ρ _ s v (G.fst E hA).good0 hp
theorem GI.bind (E:GE C Q5 ns) (G:GI C Q4 Q5 ns ρ s) (hA:AOk C.d A) {tgt:Expr} {pt:PT} (ht:sPT Q4 ns tgt=H7 pt) (hb:aX ρ pt pv=H7 ρ') (SQ: ∀i v,ρ'.get i=H7 v->i9 v=Hd)
 (hk:Q5.locals<k) (Tw:k<=s.heap.objs.size) (r:Rep C.prog C.w (λb=>k<=b) s.heap pv v):
  WP (Hj C.prog C.w) A (K9 tgt Q5 v) (λ_ s'=>GI C Q4 Q5 ns ρ' s'/\bw [Q5.locals] [] s s') s:=by
 refine WP.size (((G.fstK E hA hk Tw).bind ht hb r).mono λ_ s' ⟨F,T⟩ sz=>⟨GI.of E F SQ,λb o hb e=>T.keep b o ?_ e,λi g _ e=>T.gens i g e,T.os,sz⟩);rcases Kr b k with h|h
 ·exact .inr ⟨⟨o,e⟩,by simpa using hb,h⟩
 ·exact .inl h
theorem nI {px:Jq} (E:GE C Q5 ns) (G:GI C Q4 Q5 ns ρ s) (hx:a_ ns x=Hd) (hm:x∈Q4) (SQ:i9 pv=Hd) (hc:fQ e=Hb)
  (he:WP (Hj C.prog C.w) A (Pm e Q5) (λu s'=>(∀h,Rep C.prog C.w (λ_=>False) h pv u)/\ ∃k,s'={s with toks:=k}) s):
  WP (Hj C.prog C.w) A (LO (.Assign [.Name x px] e pos) Q5) (λf s'=>f= .next/\GI C Q4 Q5 ns (ρ.set (Q4.idxOf x) (H7 pv)) s'/\bw [Q5.locals] [] s s'/\s'.heap.objs.size=s.heap.objs.size) s:=by
 rw [asg];refine WP.at ?_;refine He (Jx (a:=Hb) (rJ.trans (bo hc)) ?_);simp only [Ie,if_false];refine WP.then he λu s₁ ⟨hu,k,QA⟩=> ?_;subst QA;rw [cR];refine He (Hi ?_);show WP _ A (K9 (.Name x px) Q5 u>>=λ_=>(pure Flow.next:J_ LR)) _ _
 refine WP.bind (lA (s:={s with toks:=k}) E.e G.f hx λh' a tk ha hs Ql hF hV S'=>Hi ⟨rfl, ?_, ?_,hs.1⟩)
 ·have UZ:a=Q5.locals:=E.home ha
  subst UZ;refine⟨λb o e=>ax hs Ql (λq=>Hr _ (Ha (ao e) (q▸E.lo))) (G.h b o e),hF, ?_,by simpa using G.l,λi v hv=> ?_⟩
  ·exact G.r.set hm hV S' (λ_ h=>h.elim) (hu _)
  ·by_cases q:i=Q4.idxOf x
   ·subst q;have:=dM hv;cases this;exact SQ
   ·rw [aD q]at hv;exact G.sc i v hv
 ·have UZ:a=Q5.locals:=E.home ha
  subst UZ;exact⟨λb o hb e=>ax hs Ql ((by simpa using hb)) e,λ_ _ _ e=>e,rfl,Hu hs.1.symm⟩
def EnW (prog:IG) (w:J0) (z:Hw) (x:HJ) (S:Nat->IL->Prop):Prop:=
 ∃M,(∀A:IZ,A.handled=H9->WalksT prog w A (z+1) [z+1,z] [z+1,z] x.cps.size (λi vals=> ∃t u c,x.cps[i]? =H7 c/\vals= #[.int i t,.str ⟨#[c]⟩ u]) S M)/\(∀i T h,M i T h-> ∀b∈[z+1,z],∀o,h.get? b=H7 o->aK o)/\ ∀i h,S i h->(∃o,h.get? z=H7 o/\bE o)/\ ∃o,h.get? (z+1)=H7 o/\bE o
theorem WalksT.conv {fp wr:List Hw} {P P':Nat->Array Hl->Prop} {M:Nat->Hw->IL->Prop} (h:WalksT prog w A I fp wr n P S M) (hp: ∀i v,P i v->P' i v):
  WalksT prog w A I fp wr n P' S M:=⟨h.sub,h.frame,λi s Q E hi hS hQ=>h.item i s Q E hi hS λT vals h' tk hP=>hQ T vals h' tk (hp _ _ hP),h.go,h.apart,h.done,h.self⟩
theorem zc (he:IsEnum h' (z+1) z 0 .none) (hi:h'.IsStrIter z (strIterType x) x t 0): ∃S,EnW C.prog C.w z x S/\S 0 h':=by
 have key: ∀ty,h'.IsStrIter z ty x t 0->(∀A:IZ,A.handled=H9->Draws C.prog C.w A z [z] x.cps.size (λi v=> ∃c u,x.cps[i]? =H7 c/\v= .str ⟨#[c]⟩ u) (λi h=>h.IsStrIter z ty x t i))-> ∃S,EnW C.prog C.w z x S/\S 0 h':=by
  intro ty hi hD;refine⟨_,⟨_,λA hA=>WalksT.conv (WalksT.enumerateD (hD A.in1 hA) (z+1) (NR _) (λhb=>NR _ (Hx.mp hb)) (by simp)) ?_, ?_, ?_⟩,⟨_,he⟩,hi⟩
  ·rintro i v ⟨t,y,⟨c,u,hc,rfl⟩,rfl⟩
   exact⟨t,u,c,hc,rfl⟩
  ·rintro i T h ⟨⟨x,h1⟩,⟨o2,h2,c2,d2⟩,_⟩ b hb o e
   rcases Hp.mp hb with rfl|hb
   ·rw [h1]at e;cases e
    exact(cW rfl rfl λq t h=>by injection h with h;cases h).1
   ·rw [Hx.mp hb,h2]at e;cases e
    exact(cW c2 d2 λq t=>by simp).1
  ·rintro i h ⟨⟨TB,h1⟩,o,h2,c,d⟩
   exact⟨⟨o,h2,cW c d λq t=>by simp⟩,_,h1,cW rfl rfl λq t h=>by injection h with h;cases h⟩
 unfold strIterType at hi;split at hi
 ·exact key _ hi λA hA=>Draws.strAscii hA _ x t
 ·exact key _ hi λA hA=>Draws.strWide hA _ x t
end
def am (p:Int) (esc:Bool):List Nat->List PV
 |[]=>if esc=Hd then [.tuple [.int (p-1),.str ⟨#[92]⟩]]else []
 |c::cs=>if esc=Hd then .tuple [.int p,.str ⟨#[92,c]⟩]::am (p+1) Hb cs
  else if c=92 then am (p+1) Hd cs else .tuple [.int p,.str ⟨#[c]⟩]::am (p+1) Hb cs
variable {esc:Bool}
theorem BR {p:Int}:am p esc []=if esc=Hd then [.tuple [.int (p-1),.str ⟨#[92]⟩]]else []:=rfl
theorem pX {p:Int} {c:Nat} {cs:List Nat}:am p esc (c::cs)=if esc=Hd then .tuple [.int p,.str ⟨#[92,c]⟩]::am (p+1) Hb cs
  else if c=92 then am (p+1) Hd cs else .tuple [.int p,.str ⟨#[c]⟩]::am (p+1) Hb cs:=rfl
structure fq (C:Cx) (Γ:Gam) (Q4:List HJ) (ns:ay)where
 st1:IR
 st2:IR
 st3:IR
 st4:IR
 iter:Expr
 c1:Expr
 c2:Expr
 c3:Expr
 y1:Expr
 y2:Expr
 y3:Expr
 te:List Expr
 tk:Nat
 tp:Jq
 p1:Jq
 p2:Jq
 p3:Jq
 p4:Jq
 p5:Jq
 p6:Jq
 p7:Jq
 p8:Jq
 p9:Jq
 p10:Jq
 x1: ∀A Q5 ρ s,GE C Q5 ns->GI C Q4 Q5 ns ρ s->WP (Hj C.prog C.w) A (LO st1 Q5) (λf s'=>f= .next/\GI C Q4 Q5 ns (ρ.set 1 (H7 (.int 0))) s'/\bw [Q5.locals] [] s s'/\s'.heap.objs.size=s.heap.objs.size) s
 x2: ∀A Q5 ρ s,GE C Q5 ns->GI C Q4 Q5 ns ρ s->WP (Hj C.prog C.w) A (LO st2 Q5) (λf s'=>f= .next/\GI C Q4 Q5 ns (ρ.set 2 (H7 (.bool Hb))) s'/\bw [Q5.locals] [] s s'/\s'.heap.objs.size=s.heap.objs.size) s
 x3:dN C Γ Q4 ns st3 (.set 2 0 (.cB Hb))
 x4:dN C Γ Q4 ns st4 (.set 2 0 (.cB Hd))
 t1:dB C Γ Q4 ns c1 (.var 2)
 t2:dB C Γ Q4 ns c2 (.cmp .Eq (.var 3) (.cS ⟨#[92]⟩))
 t3:dB C Γ Q4 ns c3 (.var 2)
 e1:aI C Γ Q4 ns y1 (.tup [.var 1,.bin .Add (.cS ⟨#[92]⟩) (.var 3)])
 e2:aI C Γ Q4 ns y2 (.tup [.var 1,.var 3])
 e3:aI C Γ Q4 ns y3 (.tup [.var 1,.cS ⟨#[92]⟩])
 tg:sPT Q4 ns (.Tuple te tk tp)=H7 (.many [1,3])
 it: ∀A Q5 ρ s x,GE C Q5 ns->GI C Q4 Q5 ns ρ s->ρ.get 0=H7 (.str x)->WP (Hj C.prog C.w) A (Pm iter Q5) (λr s'=> ∃t h',r= .ref (s.heap.objs.size+1)/\s'={s with heap:=h'}/\IsEnum h' (s.heap.objs.size+1) s.heap.objs.size 0 .none/\h'.IsStrIter s.heap.objs.size (strIterType x) x t 0/\HK s.heap h') s
 fs: ∀Q5 x,KO iter Q5 x=pure x
namespace fq
variable(G:fq C Γ Q4 ns)
def loopBody:List IR:=[.If G.c1 [.Expr (.Yield (H7 G.y1) G.p1) G.p2,G.st3] [.If G.c2 [G.st4] [.Expr (.Yield (H7 G.y2) G.p3) G.p4] G.p5] G.p6]
def tail:List IR:=[.If G.c3 [.Expr (.Yield (H7 G.y3) G.p7) G.p8] [] G.p9]
def body:List IR:=[G.st1,G.st2,.For (.Tuple G.te G.tk G.tp) G.iter G.loopBody [] G.p10]++G.tail
end fq
variable {items dn xs:List PV} {i d:Nat} {pp ch:Option PV} {h:IL}
section
abbrev zone (Q5:MY) (z:Hw):List Hw:=[Q5.locals,z,z+1]
def cQ (C:Cx) (Q5:MY) (z:Hw) (items:List PV):Protocol:=λm s₀ v s kap=>
 (∃pv,items[items.length-1-m]? =H7 pv/\Rep C.prog C.w (λb=>s₀.heap.objs.size<=b/\b∉zone Q5 z) s.heap pv v)/\bw (zone Q5 z) [] s₀ s/\(∀b∈zone Q5 z,b<s.heap.objs.size)/\
  ∀Qj:Hh,HK C.H Qj.heap->s.heap.objs.size<=Qj.heap.objs.size->(∀b∈zone Q5 z,∀o,vis s.heap b=H7 o->vis Qj.heap b=H7 o)->kap (.send .none) Qj
def eJ (Q5:MY) (z:Hw):GenEnd:=λn s₀ r s₁=>r= .ok (.ret .none)/\(n=0/\bw (zone Q5 z) [] s₀ s₁)
theorem j1 {x:PV} (h:items=dn++x::xs):items[items.length-1-xs.length]? =H7 x:=by
 subst h;haveI:(dn++x::xs).length-1-xs.length=dn.length:=by simp
 rw [this,List.getElem?_append_right (Hm _),MT];rfl
structure ig (C:Cx) (Q4:List HJ) (Q5:MY) (ns:ay) (z:Hw) (x:HJ) (S:Nat->IL->Prop) (i:Nat) (pp:Option PV) (esc:Bool) (ch:Option PV) (s:Hh):Prop where
 g:GI C Q4 Q5 ns [H7 (.str x),pp,H7 (.bool esc),ch] s
 st:S i s.heap
 hz:C.H.objs.size<=z
 ne:Q5.locals≠z/\Q5.locals≠z+1
theorem ig.live (W:EnW C.prog C.w z x S) (L:ig C Q4 Q5 ns z x S i pp esc ch s): ∀b∈zone Q5 z,b<s.heap.objs.size:=by
 intro b hb;obtain⟨M,_,_,hl⟩:=W;obtain⟨h1,h2⟩:=hl i _ L.st;simp only [Hp,IU,or_false]at hb;rcases hb with rfl|rfl|rfl
 ·obtain⟨o,e⟩:=L.g.live;exact ao e
 ·obtain⟨o,e,_⟩:=h1;exact II e
 ·obtain⟨o,e,_⟩:=h2;exact II e
theorem EnW.frame (W:EnW C.prog C.w z x S) (hS:S i h) (k: ∀b,b=z∨b=z+1-> ∀o,vis h b=H7 o->vis h' b=H7 o):S i h':=by
 obtain⟨M,hw,_,hl⟩:=W;obtain⟨⟨o1,e1,n1⟩,o2,e2,n2⟩:=hl i _ hS;refine(hw {} rfl).frame i h h' hS λb hb o e=> ?_;simp only [Hp,IU,or_false]at hb;rcases hb with rfl|rfl
 ·rw [e]at e2;cases e2;exact n2.keep (k _ (.inr rfl)) e
 ·rw [e]at e1;cases e1;exact n1.keep (k _ (.inl rfl)) e
theorem ig.keep (E:GE C Q5 ns) (W:EnW C.prog C.w z x S) (L:ig C Q4 Q5 ns z x S i pp esc ch s) (hk:HK C.H s'.heap)
  (k: ∀b∈zone Q5 z,∀o,vis s.heap b=H7 o->vis s'.heap b=H7 o):ig C Q4 Q5 ns z x S i pp esc ch s':=
 ⟨L.g.at E hk λo e=>k _ (by simp) o e,W.frame L.st λb hb o e=>k b (by rcases hb with rfl|rfl<;>simp) o e,L.hz,L.ne⟩
theorem ig.with {pp' ch':Option PV} {VQ:Bool} (W:EnW C.prog C.w z x S) (L:ig C Q4 Q5 ns z x S i pp esc ch s) (g:GI C Q4 Q5 ns [H7 (.str x),pp',H7 (.bool VQ),ch'] s')
  (T:bw [Q5.locals] [] s s'):ig C Q4 Q5 ns z x S i pp' VQ ch' s':=
 ⟨g,W.frame L.st λb hb o e=>T.keep b o (by rcases hb with rfl|rfl<;>simp [Kv L.ne.1,Kv L.ne.2]) e,L.hz,L.ne⟩
theorem sc4 (h1: ∀v,pp=H7 v->i9 v=Hd) (h2: ∀v,ch=H7 v->i9 v=Hd): ∀(i:Nat) v,Ρ.get [H7 (PV.str x),pp,H7 (.bool esc),ch] i=H7 v->i9 v=Hd:=by
 intro i v h
 match i,h with
 |0,h=>cases h;rfl
 |1,h=>exact h1 v h
 |2,h=>cases h;rfl
 |3,h=>exact h2 v h
 |n+4,h=>simp [Ρ.get]at h
theorem AOk.over1 {body:List IR} (h:AOk (d+1) A):AOk d (A.over (.func body Q5) []):=
 ⟨h.1,by have:=h.2.1;show A.depth+0+1+d<950;exact Hk (Hu (HS _ _ _)) this,by have:=h.2.2;show A.units+0+3+10*d+60<9900;lia⟩
theorem AOk.over2 {body b2:List IR} {YS:MY} {t:Expr} {K H gd lv p} (h:AOk (d+1) A):AOk d (A.over (.forLoop t v b2 [] YS) [forFrame Q5 K H gd lv (.func body Q5) p]):=
 ⟨h.1,by have:=h.2.1;show A.depth+(1+0)+0+d<950;exact Hk (Hu (NA _ _)) this,by have:=h.2.2;show A.units+(3+0)+0+10*d+60<9900;lia⟩
end
section
theorem jJ {y:Expr} {yp:Jq} {gd:Bool->Bool}
  (hfs:splitAtGen fs=H9) (XQ:gd Hb=Hb) (WU:fs.any Frame.guarded=Hb) (hA:AOk C.d (A.over c fs)) (E:GE C Q5 ns) (SV:Q5.scope.isCoroutine=Hb)
  (g:GI C Q4 Q5 ns ρ s) (hz: ∀b∈zone Q5 z,b<s.heap.objs.size) (hE:aI C Γ Q4 ns y pe) (hp:pev Γ pe ρ=H7 pv) (hs:bw (zone Q5 z) [] s₀ s) (hi:items[items.length-1-n]? =H7 pv)
  (next: ∀Qj:Hh,HK C.H Qj.heap->s.heap.objs.size<=Qj.heap.objs.size->(∀b∈zone Q5 z,∀o,vis s.heap b=H7 o->vis Qj.heap b=H7 o)->Pf (Hj C.prog C.w) A (eJ Q5 z) (cQ C Q5 z items) n Qj c (K .next) fs Qj):
  Pf (Hj C.prog C.w) A (eJ Q5 z) (cQ C Q5 z items) (n+1) s₀ c ((LO (.Expr (.Yield (H7 y) yp) pos) Q5).wrap K H gd lv) fs s:=by
 haveI RC:LX Q5=Hb:=by unfold LX;rw [E.e.kind];rfl
 refine seg_Expr_Yield hfs XQ WU (Jl (g.eval E hA hE hp) (λv s' ⟨xt,r⟩ kap hk=> ?_) λ_ _ h=>h.elim) SV RC;refine⟨⟨pv,hi,r.mono (λb hb _=>⟨H8 hs.size hb,λq=> ?_⟩) λ_ _ _ e=>e⟩,hs.trans xt.step,λb hb=>Ha (hz b hb) xt.size,λQj hH hsz hkp=>hk .none Qj (next Qj hH (H8 xt.size hsz) λb hb o e=>hkp b hb o (xt.keep _ _ e))⟩
 exact Hr _ (Ha (hz b q) hb)
theorem rS {R:GenEnd} {a b:List IR} {gd:Bool->Bool} {t:Bool}
  (hc:WP (Hj C.prog C.w) (A.over c fs) (isTrue e Q5 (IY e Q5)) (λb' s'=>b'=t/\Ext s s') s)
  (h: ∀s',Ext s s'->Pf (Hj C.prog C.w) A R Y n s₀ c ((if t=Hd then JK a Q5 else JK b Q5).wrap K H gd lv) fs s'):
  Pf (Hj C.prog C.w) A R Y n s₀ c ((LO (.If e a b pos) Q5).wrap K H gd lv) fs s:=by
 rw [exec_If];refine c6 (KI ?_);refine c6 (hc.mono λb' s' ⟨hb,x⟩=> ?_);subst hb;exact h s' x
theorem z6 (G:fq C Γ Q4 ns)
  (hA:AOk C.d (A.over c [])) (E:GE C Q5 ns) (SV:Q5.scope.isCoroutine=Hb) (hK:K .next= .pure (.done (.ret .none))) (g:GI C Q4 Q5 ns [H7 (.str x),pp,H7 (.bool esc),ch] s) (hz: ∀b∈zone Q5 z,b<s.heap.objs.size) (hs:bw (zone Q5 z) [] s₀ s)
  (hi:items=dn++am i esc []) (WH:esc=Hd->pp=H7 (.int (i-1))):
  Pf (Hj C.prog C.w) A (eJ Q5 z) (cQ C Q5 z items) (am i esc []).length s₀ c ((JK G.tail Q5).wrap K H id id) [] s:=by
 unfold fq.tail;refine JG ?_;refine rS (t:=esc) (g.test E hA G.t3 (by show aJ Γ (.var 2) _=H7 esc;rfl)) λs₁ x₁=> ?_
 have g₁:=g.ext E x₁;have fin: ∀{n:Nat} {s₀ s₁:Hh},n=0->bw (zone Q5 z) [] s₀ s₁->Pf (Hj C.prog C.w) A (eJ Q5 z) (cQ C Q5 z items) n s₀ c ((JK [] Q5).wrap K H id id) [] s₁:=by intro n s₀ s₁ hn QR;refine JE ?_;rw [hK];exact seg_end (.ok (.ret .none)) ⟨rfl,hn,QR⟩
 cases esc with
 |false=>
  simp only [Ie,if_false];refine JE ?_;exact fin rfl (hs.trans x₁.step)
 |true=>
  simp only [if_true];rw [WH rfl]at g₁;refine JG ?_;haveI Q7:(am i Hd []).length=0+1:=rfl;rw [Q7];refine jJ (pv:= .tuple [.int (i-1),.str ⟨#[92]⟩]) rfl rfl rfl hA E SV g₁ (λb hb=>Ha (hz b hb) x₁.size) G.e3 ?_ (hs.trans x₁.step) ?_ λs₂ _ _ _=> ?_
  ·show(H7 (PV.tuple [PV.int (i-1),PV.str ⟨#[92]⟩]))=_
   rfl
  ·exact j1 (xs:=[]) hi
  ·refine JE ?_
   exact fin rfl (bw.refl _ _ _)
end
variable {Qo:List IR} {o:Oh}
section
theorem wT {R:GenEnd} {st:IR} {gd:Bool->Bool}
  (E:GE C Q5 ns) (g:GI C Q4 Q5 ns ρ s) (hA:AOk C.d (A.over c fs)) (hS:dN C Γ Q4 ns st ps) (hp:az Γ ps ρ []=H7 (.next ρ' [])) (SQ: ∀i v,ρ'.get i=H7 v->i9 v=Hd)
  (h: ∀s',GI C Q4 Q5 ns ρ' s'->bw [Q5.locals] [] s s'->Pf (Hj C.prog C.w) A R Y n s₀ c ((JK Qo Q5).wrap K H gd lv) fs s'):
  Pf (Hj C.prog C.w) A R Y n s₀ c ((JK (st::Qo) Q5).wrap K H gd lv) fs s:=by
 refine JG (jx ((g.run E hA hS hp SQ).mono λf s' ⟨hf,g',T⟩=> ?_));subst hf;exact h s' g' T
theorem gf {x:PV} (h:i9 x=Hd): ∀v,H7 x=H7 v->i9 v=Hd:=λv e=>Hg e▸h
theorem se {a:Hw} (h1:a≠z+1) (h2:a≠z):a∉[z+1,z]:=λq=>(Hp.mp q).elim h1 λq=>h2 (Hx.mp q)
theorem EC {H:IL} (h:H.objs.size<=z) {b:Hw} (e:vis H b=H7 o):b∉[z+1,z]:=
 have l:b<z:=Ha (ao e) h
 se (IB (K8 l)) (IB l)
theorem uF {b:Hw} (q:b∈[z+1,z]):b∈zone Q5 z:=(Hp.mp q).elim (λq=>by rw [q];simp) λq=>by rw [Hx.mp q];simp
theorem gZ (T:bw [Q5.locals] [] s s'):bw (zone Q5 z) [] s s':=T.wide (λb hb=>by rw [Hx.mp hb];simp) λ_ h=>h
theorem z9 (G:fq C Γ Q4 ns) {b0:List IR} {gd:Bool->Bool}
  (hA:AOk (C.d+1) A) (E:GE C Q5 ns) (W:EnW C.prog C.w z x S) (SV:Q5.scope.isCoroutine=Hb) (XQ:gd Hb=Hb)
  (TU: ∀(i:Nat) (pp ch:Option PV) (esc:Bool) (s s₀:Hh) (dn:List PV),items=dn++am i esc []->(esc=Hd->pp=H7 (.int (i-1)))->GI C Q4 Q5 ns [H7 (.str x),pp,H7 (.bool esc),ch] s->(∀b∈zone Q5 z,b<s.heap.objs.size)->bw (zone Q5 z) [] s₀ s->
   Pf (Hj C.prog C.w) A (eJ Q5 z) (cQ C Q5 z items) (am i esc []).length s₀ (.func b0 Q5) (K .next) [] s):
  ∀(cs:List Nat) (i:Nat) (esc:Bool) (pp ch:Option PV) (s s₀:Hh) (dn:List PV),x.cps.toList.drop i=cs->i<=x.cps.size->(∀v,pp=H7 v->i9 v=Hd)->(∀v,ch=H7 v->i9 v=Hd)->items=dn++am i esc cs->(esc=Hd->pp=H7 (.int (i-1)))->
   ig C Q4 Q5 ns z x S i pp esc ch s->bw (zone Q5 z) [] s₀ s->
   Pf (Hj C.prog C.w) A (eJ Q5 z) (cQ C Q5 z items) (am i esc cs).length s₀ (.forLoop (.Tuple G.te G.tk G.tp) (.ref (z+1)) G.loopBody [] Q5)
    ((Hj C.prog C.w).den (.forLoop (.Tuple G.te G.tk G.tp) (.ref (z+1)) G.loopBody [] Q5)) [forFrame Q5 K H gd lv (.func b0 Q5) p] s:=by
 have T4:AOk C.d (A.over (.forLoop (.Tuple G.te G.tk G.tp) (.ref (z+1)) G.loopBody [] Q5) [forFrame Q5 K H gd lv (.func b0 Q5) p]):=hA.over2;have WU:[forFrame Q5 K H gd lv (.func b0 Q5) p].any Frame.guarded=Hb:=by show(gd Hb||false)=Hb;rw [XQ];rfl
 obtain⟨M,hw,hlM,Va⟩:=id W;have hW:=hw _ T4.1;have hpw: ∀{i:Nat} {h:IL},S i h-> ∀b∈[z+1,z],∀o,h.get? b=H7 o->aK o:=λhS b hb o e=>by
  obtain⟨⟨o1,e1,n1⟩,o2,e2,n2⟩:=Va _ _ hS;rcases Hp.mp hb with rfl|hb
  ·rw [e]at e2;cases e2;exact n2.1
  ·rw [Hx.mp hb]at e
   rw [e]at e1;cases e1;exact n1.1
 intro cs;induction cs with
 |nil=>
  intro i esc pp ch s s₀ dn Vi UW XB SQ hi WH L hs;have RC:i=x.cps.size:=by exact JH UW (Pi.mp Vi)
  have hz:=L.live W;refine jY (WP.size (hW.done s _ _ (RC▸L.st) λh' tk S_ sz=> ?_));have hk:=iS S_ (hpw (RC▸L.st));have T:bw (zone Q5 z) [] s {s with heap:=h',toks:=tk}:=⟨λb o hb e=>hk b o (λq=>hb (uF q)) e,λ_ _ _ e=>e,rfl,sz⟩
  show Pf _ A _ _ _ s₀ _ (leafOf (.ok .next)) _ _
  refine seg_leaf (.ok .next) ?_
  have hL:Q5.locals∉[z+1,z]:=se L.ne.2 L.ne.1;refine TU i pp ch esc _ s₀ dn hi WH (L.g.at E ?_ λo e=>hk _ o hL e) (λb hb=>Ha (hz b hb) sz) (hs.trans T);exact λb o e=>hk b o (EC L.hz e) (L.g.h b o e)
 |cons c cs ih=>
  intro i esc pp ch s s₀ dn Vi UW XB SQ hi WH L hs;have hz:=L.live W;have Qp:i<x.cps.size:=KS λq=>nomatch (Pi.mpr q).symm.trans Vi;have hc:x.cps[i]? =H7 c:=(OP ..).symm.trans ((PB (i:=i) (j:=0)).symm.trans (congrArg (λl:List Nat=>l[0]?) Vi));have UD:x.cps.toList.drop (i+1)=cs:=JU.symm.trans (congrArg (List.drop 1) Vi);refine jY (WP.size (hW.item i s _ _ Qp L.st λT vals h' tk hP hT Uv hM S_ sz=> ?_));have hk:=iS S_ (hpw L.st);obtain⟨t,u,c',Sm,rfl⟩:=hP;rw [hc]at Sm;cases Sm;refine WP.size (hW.go G.te G.tk G.tp i T {s with heap:=h',toks:=tk} _ _ hM λTA U4 VH sz'=> ?_)
  have QO:=iS VH (hlM _ _ _ hM);have hL:Q5.locals∉[z+1,z]:=se L.ne.2 L.ne.1;have T': ∀b o,b∉[z+1,z]->vis s.heap b=H7 o->vis TA b=H7 o:=λb o hb e=>QO b o hb (hk b o hb e);have sz2:s.heap.objs.size<=TA.objs.size:=H8 sz sz';have g2:GI C Q4 Q5 ns [H7 (.str x),pp,H7 (.bool esc),ch] {s with heap:=TA,toks:=tk}:=L.g.at E (λb o e=>T' b o (EC L.hz e) (L.g.h b o e)) λo e=>T' _ o hL e
  have T2:bw (zone Q5 z) [] s {s with heap:=TA,toks:=tk}:=⟨λb o hb e=>T' b o (λq=>hb (uF q)) e,λ_ _ _ e=>e,rfl,sz2⟩
  have hTt:TA.IsTuple T #[.int i t,.str ⟨#[c]⟩ u]:=by obtain⟨o,e,r⟩:=Uv;exact⟨o,VH T o (hW.apart _ _ _ hM) e,r⟩
  have hlL:Q5.locals<s.heap.objs.size:=by obtain⟨o,e⟩:=L.g.live;exact ao e
  have rT:Rep C.prog C.w (λb=>s.heap.objs.size<=b) TA (.tuple [.int i,.str ⟨#[c]⟩]) (.ref T):=⟨T,[.int i t,.str ⟨#[c]⟩ u],rfl,hT,by refine beq_eq_false_iff_ne.mpr λq=> ?_;obtain⟨⟨o,e⟩,_⟩:=E.y;have:=ao (L.g.h _ _ e);rw [<-q]at this;exact Hr _ (Ha this hT),hTt,_,_,rfl,⟨t,rfl⟩,_,_,rfl,⟨u,rfl⟩,rfl⟩
  refine(g2.bind E T4 (ρ':=[H7 (.str x),H7 (.int i),H7 (.bool esc),H7 (.str ⟨#[c]⟩)]) G.tg rfl (sc4 (gf rfl) (gf rfl)) hlL sz2 rT).mono λ_ s₃ ⟨g3,T3⟩ H0=> ?_;have L3:ig C Q4 Q5 ns z x S (i+1) (H7 (.int i)) esc (H7 (.str ⟨#[c]⟩)) s₃:=⟨g3,W.frame U4 λb hb o e=>T3.keep b o (by rcases hb with rfl|rfl<;>simp [Kv L.ne.1,Kv L.ne.2]) e,L.hz,L.ne⟩
  have XD:bw (zone Q5 z) [] s₀ s₃:=(hs.trans T2).trans (gZ T3);unfold fq.loopBody;refine JG (rS (t:=esc) (L3.g.test E T4 G.t1 (by show aJ Γ (.var 2) _=H7 esc;rfl)) λs₄ x₄=> ?_)
  have L4:=L3.keep E W (L3.g.h.trans x₄.keep) λb _ o e=>x₄.keep b o e;have WG:=XD.trans x₄.step;have cast:((i:Int)+1)=((i+1:Nat):Int):=rfl;cases esc with
  |true=>
   have Q7:(am i Hd (c::cs)).length=(am ((i+1:Nat):Int) Hb cs).length+1:=by rw [<-cast];rfl
   rw [Q7];refine JG ?_;refine jJ (pv:= .tuple [.int i,.str ⟨#[92,c]⟩]) rfl rfl WU T4 E SV L4.g (L4.live W) G.e1 ?_ WG ?_ λs₅ hH5 Xk hk5=> ?_
   ·show(H7 (PV.tuple [PV.int i,PV.str ⟨#[92,c]⟩]))=_
    rfl
   ·refine j1 (dn:=dn) ?_
    rw [hi,<-cast];rfl
   ·have L5:=L4.keep E W hH5 hk5
    refine wT E L5.g T4 G.x3 (ρ':=[H7 (.str x),H7 (.int i),H7 (.bool Hb),H7 (.str ⟨#[c]⟩)]) rfl (sc4 (gf rfl) (gf rfl)) λs₆ g6 T6=> ?_;refine JE (JE ?_);refine Px rfl ?_;refine ih (i+1) Hb _ _ s₆ s₅ (dn++[.tuple [.int i,.str ⟨#[92,c]⟩]]) UD (by exact Qp) (gf rfl) (gf rfl) ?_ (λh=>by cases h) (L5.with W g6 T6) (gZ T6)
    rw [hi,<-cast,HW];rfl
  |false=>
   refine JG (rS (t:=c==92) (L4.g.test E T4 G.t2 ?_) λs₅ x₅=> ?_)
   ·show(H7 ((⟨#[c]⟩:HJ)==⟨#[92]⟩))=H7 (c==92)
    congr 1
    by_cases h:c=92
    ·subst h;rfl
    ·rw [beq_eq_false_iff_ne.mpr h]
     exact beq_eq_false_iff_ne.mpr λq=>h (by cases q;rfl)
   ·have L5:=L4.keep E W (L4.g.h.trans x₅.keep) λb _ o e=>x₅.keep b o e
    have hs5:=WG.trans x₅.step;by_cases h92:c=92
    ·rw [beq_iff_eq.mpr h92]
     have Q7:am i Hb (c::cs)=am ((i+1:Nat):Int) Hd cs:=by rw [<-cast];exact(if_neg (by decide)).trans (if_pos h92)
     rw [Q7]at hi ⊢
     refine wT E L5.g T4 G.x4 (ρ':=[H7 (.str x),H7 (.int i),H7 (.bool Hd),H7 (.str ⟨#[c]⟩)]) rfl (sc4 (gf rfl) (gf rfl)) λs₆ g6 T6=> ?_;refine JE (JE (JE ?_));refine Px rfl ?_;exact ih (i+1) Hd _ _ s₆ s₀ dn UD (by exact Qp) (gf rfl) (gf rfl) hi (λ_=>by rw [<-cast];congr 2;exact IW (Me _ _)) (L5.with W g6 T6) (hs5.trans (gZ T6))
    ·rw [beq_eq_false_iff_ne.mpr h92]
     have Q7:am i Hb (c::cs)= .tuple [.int i,.str ⟨#[c]⟩]::am ((i+1:Nat):Int) Hb cs:=by rw [<-cast];exact(if_neg (by decide)).trans (if_neg h92)
     rw [Q7]at hi ⊢
     refine JG ?_;refine jJ (pv:= .tuple [.int i,.str ⟨#[c]⟩]) rfl rfl WU T4 E SV L5.g (L5.live W) G.e2 ?_ hs5 ?_ λs₆ hH6 sz6 hk6=> ?_
     ·show(H7 (PV.tuple [PV.int i,PV.str ⟨#[c]⟩]))=_
      rfl
     ·exact j1 hi
     ·have L6:=L5.keep E W hH6 hk6
      refine JE (JE (JE ?_));refine Px rfl ?_;refine ih (i+1) Hb _ _ s₆ s₆ (dn++[.tuple [.int i,.str ⟨#[c]⟩]]) UD (by exact Qp) (gf rfl) (gf rfl) ?_ (λh=>by cases h) L6 (bw.refl _ _ _)
      rw [hi,HW];rfl
end
section
theorem zb (G:fq C Γ Q4 ns) (hA:AOk (C.d+1) A) (E:GE C Q5 ns) (SV:Q5.scope.isCoroutine=Hb) (g:GI C Q4 Q5 ns [H7 (.str x),H9,H9,H9] s):
  Pf (Hj C.prog C.w) A (eJ Q5 s.heap.objs.size) (cQ C Q5 s.heap.objs.size (am 0 Hb x.cps.toList)) (am 0 Hb x.cps.toList).length s (.func G.body Q5) ((Hj C.prog C.w).den (.func G.body Q5)) [] s:=by
 have hA1:AOk C.d (A.over (.func G.body Q5) []):=hA.over1;refine seg_func ?_;refine JG (jx ((G.x1 _ Q5 _ s E g).mono λf s₁ ⟨hf,g1,T1,e1⟩=> ?_));subst hf;refine JG (jx ((G.x2 _ Q5 _ s₁ E g1).mono λf s₂ ⟨hf,g2,T2,e2⟩=> ?_));subst hf;have Xg:GI C Q4 Q5 ns [H7 (.str x),H7 (.int 0),H7 (.bool Hb),H9] s₂:=g2;have hsz:s₂.heap.objs.size=s.heap.objs.size:=e2.trans e1;refine JG (A7 (λv=>G.fs Q5 v) ((G.it _ Q5 _ s₂ x E Xg rfl).mono λr s₃ ⟨t,h',hr,XD,he,hi,hk⟩=> ?_));subst hr XD;rw [hsz]at he hi ⊢
 obtain⟨S,W,hS⟩:=zc (C:=C) he hi;obtain⟨M,hw,_,Va⟩:=id W;refine(hw _ hA1.1).self 0 _ _ _ hS λp=> ?_;have hL:Q5.locals<s.heap.objs.size:=by rw [<-hsz];obtain⟨o,e⟩:=Xg.live;exact ao e
 haveI g3:GI C Q4 Q5 ns [H7 (.str x),H7 (.int 0),H7 (.bool Hb),H9] {s₂ with heap:=h'}:=Xg.at E (Xg.h.trans hk) λo e=>hk _ o e
 haveI sz3:s₂.heap.objs.size<=h'.objs.size:=by obtain⟨_,o,e,_⟩:=Va 0 _ hS;have:=II e;rw [hsz];exact HP (Nat.lt_of_succ_lt this)
 haveI T3:bw (zone Q5 s.heap.objs.size) [] s {s₂ with heap:=h'}:=(gZ (T1.trans T2)).trans ⟨λb o _ e=>hk b o e,λ_ _ _ e=>e,rfl,sz3⟩
 refine z9 G (items:=am 0 Hb x.cps.toList) hA E W SV rfl (λi pp ch esc s s₀ dn h1 h2 h3 h4 h5=> ?_) x.cps.toList 0 Hb _ _ _ s [] (by simp) (IH _) (λv h=>by cases h;rfl) (λv h=>by cases h) rfl (λh=>by cases h)
  ⟨g3,hS,g.lo E,⟨IB hL,IB (K8 hL)⟩⟩ T3
 exact z6 G hA1 E SV rfl h3 h4 h5 h1 h2
end
variable {f:Hw} {fd:Ku}
section
def ub (C:Cx) (A:IZ) (Q5:MY) (a:Hw) (g:Nat) (items:List PV) (ok:Hw->Prop) (xs:List PV) (W:List Hw) (s:Hh):Prop:=
 s.heap.IsGen a g/\HK C.H s.heap/\(∀b∈W,b<s.heap.objs.size/\ ¬ok b)/\(∃dn,items=dn++xs)/\ ∃gs,s.gens[g]? =H7 gs/\
  ((W=[a,Q5.locals]/\a≠Q5.locals/\ ∀Qj:Hh,HK C.H Qj.heap->(∀o,vis s.heap Q5.locals=H7 o->vis Qj.heap Q5.locals=H7 o)->
    gs.Goes (Hj C.prog C.w) A.in1 (eJ Q5 Qj.heap.objs.size) (cQ C Q5 Qj.heap.objs.size items) xs.length (.send .none) Qj)∨
   ∃z,W=a::zone Q5 z/\a∉zone Q5 z/\(∀b∈zone Q5 z,C.H.objs.size<=b)/\ ∀Qj:Hh,HK C.H Qj.heap->s.heap.objs.size<=Qj.heap.objs.size->(∀b∈zone Q5 z,∀o,vis s.heap b=H7 o->vis Qj.heap b=H7 o)->
    gs.Goes (Hj C.prog C.w) A.in1 (eJ Q5 z) (cQ C Q5 z items) xs.length (.send .none) Qj)
theorem eC {x:M4} (h:i≠g):(s.setGen g x).gens[i]? =s.gens[i]? :=by show(s.gens.setIfInBounds g x)[i]? =_;rw [Array.getElem?_setIfInBounds_ne (Kv h)]
theorem lu {p:Hw->Prop} (h1:p Q5.locals) (h2:p z) (h3:p (z+1)): ∀b∈zone Q5 z,p b:=I5.mpr ⟨h1,nT h2 h3⟩
theorem z8 {a:Hw} {gs:M4} {W:List Hw} {y:PV} (hA:AOk (C.d+2) A) (TS:C.H.NoLimit) (ho:bS (λa=>ok a) s.heap)
  (hg:s.heap.IsGen a g) (hH:HK C.H s.heap) (hgs:s.gens[g]? =H7 gs) (Qe: ∃dn,items=dn++(y::xs)) (ha:a∉zone Q5 z) (Tt: ∀b∈zone Q5 z,C.H.objs.size<=b) (has:a<s.heap.objs.size) (WE: ∀b∈zone Q5 z,b∈W∨s.heap.objs.size<=b)
  (hW: ∀b∈W,b∈a::zone Q5 z) (hWo: ∀b∈W,¬ok b) (U3:a∈W)
  (Ve:gs.Goes (Hj C.prog C.w) A.in1 (eJ Q5 z) (cQ C Q5 z items) (y::xs).length (.send .none) (s.setGen g .running)) {tgt:Expr}:
  WP (Hj C.prog C.w) A (Lb (.ref a)) (λr s1=> ∃v W1,r=H7 v/\(∀b∈W,b∈W1)/\(∀b∈W1,b∈W∨s.heap.objs.size<=b)/\bw W [g] s s1/\
   Rep C.prog C.w (okW ok W1) s1.heap y v/\WP (Hj C.prog C.w) A (Iu tgt (.ref a) v) (λ_ s2=>bw W1 [g] s1 s2/\ub C A Q5 a g items (okW ok W1) xs W1 s2) s1) s:=by
 refine wpAny_pyNext_gen (P:=λn s₀ s₁=>n=0/\bw (zone Q5 z) [] s₀ s₁) hA.1 (c_ TS hH) hA.room hg hgs Ve (λv s₁ Vm hv=> ?_) (λs₁ hp h' hk=> ?_)
 ·obtain⟨⟨pv,hi,r⟩,T,hz,UA⟩:=hv
  haveI hn1:(y::xs).length-1=xs.length:=rfl;rw [hn1]at hi;obtain⟨dn,hdn⟩:=Qe;rw [j1 hdn]at hi;cases hi;haveI hg1:s₁.gens[g]? =H7 .running:=T.gens g _ (by simp) (setGen_self hgs)
  have Tx:(s₁.setGen g Vm).heap.IsGen a g:=gG hg λo e=>T.keep a o ha e;haveI hLg: ∀i gg,i∉[g]->s.gens[i]? =H7 gg->(s₁.setGen g Vm).gens[i]? =H7 gg:=λi gg SR e=>by
   have Vc:i≠g:=by simpa using SR
   rw [eC Vc];exact T.gens i gg (by simp) (by rw [eC Vc];exact e)
  haveI RS: ∀b o,b∉W->vis s.heap b=H7 o->vis (s₁.setGen g Vm).heap b=H7 o:=λb o hb e=>T.keep b o (λq=>(WE b q).elim hb λq=>Hr _ (Ha (ao e) q)) e;haveI hH1:HK C.H s₁.heap:=λb o e=>T.keep b o (λq=>Hr _ (Ha (ao e) (Tt b q))) (hH b o e);refine⟨v,a::zone Q5 z,rfl,hW,I5.mpr ⟨.inl U3,WE⟩,⟨RS,hLg,T.os,T.size⟩, ?_, ?_⟩
  ·exact r.mono (λb h _=>⟨ho b h.1,λq=>(Hp.mp q).elim (λq=>LC.mpr h.1 (q.symm▸has)) h.2⟩) λ_ _ _ e=>e
  ·obtain⟨o,nm,qn,e,S5,rr⟩:=id Tx
   refine k0 ⟨o,_,e,S5,by decide⟩ ⟨bw.refl _ _ _,Tx,hH1,λb hb=>⟨(I5.mpr ⟨Ha has T.size,hz⟩: ∀b∈a::zone Q5 z,b<s₁.heap.objs.size) b hb,λh=>h.2 hb⟩,⟨dn++[y],by rw [hdn,HW];rfl⟩,Vm,setGen_self hg1,.inr ⟨z,rfl,ha,Tt,λQj Xd Yl QO=> ?_⟩⟩
   exact UA Qj Xd Yl QO
 ·exact absurd hp.1 (by simp)
theorem BQ {a:Hw} {W:List Hw} (Uq:C.H.objs.size<=Q5.locals) (h:ub C A Q5 a g items ok xs W s): ∃gs z,s.gens[g]? =H7 gs/\a∉zone Q5 z/\(∀b∈zone Q5 z,C.H.objs.size<=b)/\
  (∀b∈zone Q5 z,b∈W∨s.heap.objs.size<=b)/\(∀b∈W,b∈a::zone Q5 z)/\a∈W/\gs.Goes (Hj C.prog C.w) A.in1 (eJ Q5 z) (cQ C Q5 z items) xs.length (.send .none) (s.setGen g .running):=by
 obtain⟨h1,h2,h3,h4,gs,h5,h6⟩:=h;refine h6.elim (λh6=> ?_) λh6=> ?_
 ·obtain⟨e,QJ,h6⟩:=h6
  have U3:a∈W:=e▸Hs;have hlW:Q5.locals∈W:=e▸Hq _ (Jf _);have Xc:=HP (Hk Uq (h3 _ hlW).1);refine⟨gs,s.heap.objs.size,h5,λq=> ?_,lu Uq Xc (NB Xc),lu (.inl hlW) (.inr (Hm _)) (.inr (LM _)),e▸nT Hs (Hq _ Hs),U3,h6 (s.setGen g .running) h2 λo e=>e⟩;exact(lu (p:=λb=>a≠b) QJ (IB (h3 a U3).1) (IB (K8 (h3 a U3).1)) a q) rfl
 ·obtain⟨z,e,QJ,Tt,h6⟩:=h6
  exact⟨gs,z,h5,QJ,Tt,λb hb=> .inl (e▸Hq _ hb),λb hb=>e▸hb,e▸Hs,h6 (s.setGen g .running) h2 (Hm _) λb _ o e=>e⟩
theorem za {a:Hw} (hA:AOk (C.d+2) A) (TS:C.H.NoLimit) (Uq:C.H.objs.size<=Q5.locals):
  jU C.prog C.w A C.H a [g] (λ_=>True) (ub C A Q5 a g items)where
 own:=λh=>h.2.2.1
 frame:=λ{ok ok' xs W s s'} h k1 k2 k3 k4 k5 k6 k7=>by
  obtain⟨h1,h2,h3,h4,gs,h5,h6⟩:=h;have own: ∀b∈W,b<s'.heap.objs.size/\ ¬ok' b:=λb hb=>⟨Ha (h3 b hb).1 k7,k3 b hb⟩;refine h6.elim (λh6=> ?_) λh6=> ?_
  ·obtain⟨e,QJ,h6⟩:=h6
   exact⟨gG h1 λo q=>k1 a o (.inr (e▸Hs)) q,k6,own,h4,gs,k4 g gs h5,.inl ⟨e,QJ,λQj hH hk=>h6 Qj hH λo q=>hk o (k1 _ o (.inr (e▸Hq _ (Jf _))) q)⟩⟩
  ·obtain⟨z,e,QJ,Tt,h6⟩:=h6
   exact⟨gG h1 λo q=>k1 a o (.inr (e▸Hs)) q,k6,own,h4,gs,k4 g gs h5,.inr ⟨z,e,QJ,Tt,λQj hH hsz hk=>h6 Qj hH (H8 k7 hsz) λb hb o q=>hk b hb o (k1 b o (.inr (e▸Hq _ hb)) q)⟩⟩
 next:=λ{ok x xs W s tgt} _ ho hs h=>by obtain⟨gs,z,h5,QJ,Tt,WE,hWz,U3,Ve⟩:=BQ Uq h;exact z8 hA TS ho h.1 h.2.1 h5 h.2.2.2.1 QJ Tt (h.2.2.1 a U3).1 WE hWz (λb hb=>(h.2.2.1 b hb).2) U3 Ve
 done:=λ{ok W s} h=>by
  obtain⟨gs,z,h5,QJ,Tt,hzW,_,_,Ve⟩:=BQ Uq h;refine WP.size (wpAny_pyNext_gen (P:=λn s₀ s₁=>n=0/\bw (zone Q5 z) [] s₀ s₁) hA.1 (c_ TS h.2.1) hA.room h.1 h5 Ve (λv s₁ Vm hv=> ?_) (λs₁ hp h' hk sz=> ?_))
  ·obtain⟨⟨pv,hi,r⟩,T,hz,UA⟩:=hv
   exact(UA s₁ (λb o e=>T.keep b o (λq=>Hr _ (Ha (ao e) (Tt b q))) (h.2.1 b o e)) (Hm _) λb _ o e=>e).elim
  ·obtain⟨_,T⟩:=hp
   refine⟨rfl,λb o hb e=>kC hk (T.keep b o (λq=>(hzW b q).elim hb λq=>Hr _ (Ha (ao e) q)) e),λi gg hi e=> ?_,T.os,sz⟩;have Vc:i≠g:=λq=>hi (Hx.mpr q);show(s₁.setGen g .finished).gens[i]? =H7 gg;rw [eC Vc];exact T.gens i gg (IU) (by rw [eC Vc];exact e)
structure xx (C:Cx) (f:Hw) (o:Oh) (fd:Ku) (body:List IR) (p:HJ):Prop where
 ho:C.H.get? f=H7 o
 data:o.data= .func fd
 lim:C.H.NoLimit
 last: ∃o,vis C.H (C.H.objs.size-1)=H7 o
 sy:Sys C.H
 code:e7 C.H fd.code fd.qualname
 body:fd.body= .stmts body
 clo:fd.closure=[]
 glob:fd.globals=IE
 blt:fd.builtins=KW
 kind:fd.scope.kind= .function
 co:fd.scope.isCoroutine=Hb
 gen:fd.scope.isGenerator=Hd
 bind: ∀v:Hl,OX fd ⟨[v],[]⟩=pure [(p,v)]
 pk:fd.scope.names.lookup p=H7 .local
 loc: ∀x∈fd.scope.names,x.2≠ .cell/\x.2≠ .free
theorem fY {l:List (HJ×J1)} (h: ∀x∈l,x.2≠ .cell/\x.2≠ .free) (x:HJ):bv (l.lookup x)=Hb:=by
 cases e:l.lookup x with
 |none=>rfl
 |some k=>
  have:=h _ (mem_of_lookup e);cases k<;>first|rfl|exact absurd rfl this.1|exact absurd rfl this.2
theorem z7 {p:HJ} (G:fq C Γ Q4 fd.scope.names) (D:xx C f o fd G.body p) (hp:Q4.idxOf p=0) (hpn:p∈Q4) (hn4:4<=Q4.length):iX {C with d:=C.d+3} f [.str x] (am 0 Hb x.cps.toList):=by
 intro A s ok vs tgt hA hH ho hs q;obtain⟨_,_,rfl,⟨t,rfl⟩,rfl⟩:=q;haveI Xc:C.H.objs.size<=s.heap.objs.size:=by obtain⟨o,e⟩:=D.last;exact aSz (ao (hH _ _ e))
 refine OQ (codeAny_call_generator hA.room ((cz D.data).keep (hH _) D.ho) D.data D.co D.gen D.body (D.code.keep hH).rec ?_);rw [D.bind,D.clo];refine Hi (wpAny_newFunctionEnv (λy hy=>(D.loc y hy).1) (λy hy=>by rw [Hx.mp hy];exact D.pk) (λh' hn QV=> ?_) D.kind)
 have WS:HK s.heap h':=HK.of λb o e=>QV.extBut b o (IB (II e)) (HV _ e);have hsz:h'.objs.size=s.heap.objs.size+1:=by rw [QV.1,I8]
 refine⟨c_ (c_ D.lim hH) WS, ?_⟩;generalize SL:newEnv fd.scope s.heap.objs.size fd.globals [] (fd.qualname++ ".<locals>.") (H7 f) fd.code H9 fd.builtins=Q5;have QN:Q5.locals=s.heap.objs.size:=by rw [<-SL];rfl
 have E:GE C Q5 fd.scope.names:=by subst SL;exact⟨⟨D.kind,D.glob,D.blt,λ_=>rfl,λ_=>rfl,λx hx=>(J2 ((fY D.loc x).symm.trans hx)).elim,λx y c hx _ _ _=>(J2 ((fY D.loc x).symm.trans hx)).elim,λ_ h=>h⟩,D.sy,λx=>fY D.loc x,Xc⟩
 haveI SV:Q5.scope.isCoroutine=Hb:=by subst SL;exact D.co
 haveI Rp:h'.Ns Q5.locals (λy=>[(p,L8 x t)].reverse.lookup y):=by rw [QN];exact hn
 haveI GI0: ∀Qj:Hh,HK C.H Qj.heap->(∀o,vis h' Q5.locals=H7 o->vis Qj.heap Q5.locals=H7 o)->GI C Q4 Q5 fd.scope.names [H7 (.str x),H9,H9,H9] Qj:=λQj UF hk=>by
  have hn2:Qj.heap.Ns Q5.locals (λy=>[(p,L8 x t)].reverse.lookup y):=dD Rp hk;refine⟨UF,⟨⟨_,hn2⟩,λy hy=> ?_⟩,λy pv hy hg=> ?_,hn4,λi v h=> ?_⟩
  ·have:=fY D.loc y
   rw [hy]at this;cases this
  ·have h0:Q4.idxOf y=0/\pv= .str x:=by
    have hg:Ρ.get [H7 (PV.str x),H9,H9,H9] (Q4.idxOf y)=H7 pv:=hg
    match e:Q4.idxOf y,hg with
    |0,hg=>cases hg;exact⟨rfl,rfl⟩
    |1,hg=>cases hg
    |2,hg=>cases hg
    |3,hg=>cases hg
    |n+4,hg=>simp [Ρ.get]at hg
   obtain⟨h0,rfl⟩:=h0;haveI hyp:y=p:=by
    by_cases e:y=p
    ·exact e
    ·exact absurd (h0.trans hp.symm) (e_ hpn e)
   subst hyp;exact⟨.str x t,.loc _ (by subst SL;exact D.pk) hn2 (by simp),t,rfl⟩
  ·match i,h with
   |0,h=>cases h;rfl
   |1,h=>cases h
   |2,h=>cases h
   |3,h=>cases h
   |n+4,h=>simp [Ρ.get]at h
 haveI hg: ∀i gg,s.gens[i]? =H7 gg->(s.gens.push (.fresh (.func G.body Q5)))[i]? =H7 gg:=λi gg e=>by have:=(KH.mp e).1;rw [Array.getElem?_push_lt this];haveI h2:=(KH.mp e).2;rw [h2]
 refine⟨⟨WS.trans (HK.push _ _),by show _<=(h'.push _).objs.size;rw [I8,hsz];exact HN (HD _ _),hg,rfl⟩, ?_⟩
 have RD:(h'.push {cls:= .type "generator",data:= .fields #[.int s.gens.size 0,.str fd.name (s.toks+1),.str fd.qualname (s.toks+1+1)]}).IsGen h'.objs.size s.gens.size:=⟨_,_,_,HL _ rfl,rfl,rfl,rfl⟩;refine⟨_,rfl,λA' QX Y5 x'=> ?_⟩;have T4:AOk (C.d+2) A':=by
  rcases Y5 with rfl|rfl
  ·exact hA.mono (LM _)
  ·exact hA.in2
 have it:=za (C:=C) (a:=h'.objs.size) (g:=s.gens.size) (items:=am 0 Hb x.cps.toList) T4 D.lim E.lo;have st:ub C A' Q5 h'.objs.size s.gens.size (am 0 Hb x.cps.toList) (okW ok [h'.objs.size,Q5.locals]) (am 0 Hb x.cps.toList) [h'.objs.size,Q5.locals] QX:=by
  refine it.frame ?_ (λb o _ e=>x'.keep b o e) (λb o h _=>h) (λb hb (h:okW ok [h'.objs.size,Q5.locals] b)=>h.2 hb) x'.gens x'.os (((hH.trans WS).trans (HK.push _ _)).trans x'.keep) x'.size;refine⟨RD,(hH.trans WS).trans (HK.push _ _),λb hb=>⟨?_,λh=>h.2 hb⟩,⟨[],rfl⟩,.fresh (.func G.body Q5),Array.getElem?_push_size ..,.inl ⟨rfl, ?_,λQj UF hk=>⟨rfl, ?_⟩⟩⟩
  ·show b<(h'.push _).objs.size
   rw [I8];simp only [Hp,IU,or_false]at hb;rcases hb with rfl|rfl
   ·exact HR _
   ·rw [QN,hsz];exact K8 (HR _)
  ·rw [QN,hsz];exact NR _
  ·exact zb G (A:=A'.in1) T4.in1 E SV (GI0 Qj UF λo e=>hk o (HK.push _ _ _ _ e))
 refine⟨⟨_,st.1⟩,_,[s.gens.size],λ_=>True,_,it,trivial,st,λb hb=> ?_,λi hi=> ?_⟩
 ·simp only [Hp,IU,or_false]at hb
  rcases hb with rfl|rfl
  ·rw [hsz];exact LM _
  ·rw [QN];exact Hm _
 ·rw [Hx.mp hi];exact Hm _
end
variable {rp:Jq}
section
theorem vW {px:Jq} {a:Hw} {S:Int->Bool} (hE:aI C Γ Q4 ns e pe) (hx:aB x=Hd) (hk:fw (ns.lookup x)=2) (L:cG C.H x (.ref a))
  (hS:C.H.SetOf (IM C.prog C.w) a S n) (Vg: ∀vs r,Γ.fn k vs=H7 r-> ∃i,vs=[.int i]/\r= .bool (S i)):
  dN C Γ Q4 ns (.Return (H7 (.Compare e [.In] [.Name x px] pos)) rp) (.ret (.call k [pe])):=by
 intro A Q5 s₀ Q6 W ok om ρ s o F h;obtain⟨v,hv,rfl⟩:=HG.mp h;obtain⟨vs,QU,hv⟩:=Ho.mp hv;obtain⟨i,rfl,rfl⟩:=Vg _ _ hv;obtain⟨u,hu,QU⟩:=Ho.mp QU;cases QU;rw [LN];refine WP.at (WP.then (Q₁:=λv s'=>v= .bool (S i)/\Ext s s') ?_ λv s' ⟨hv,x⟩=>Hi ⟨v,rfl,F.x.trans x,by subst hv;rfl⟩)
 refine wpAny_Compare1 ((hE A Q5 ρ _ s _ F.goodF hu).mono λu s₁ ⟨x₁,r⟩=> ?_) rfl;obtain⟨t,rfl⟩:=r;refine cD F.e hx hk (F.hk.trans x₁.keep) L ?_;haveI U4:s₁.heap.SetOf (IM C.prog C.w) a S n:=by obtain⟨o,es,ep,t,e,c,d,r⟩:=hS;exact⟨o,es,ep,t,(yB d).keep ((F.hk.trans x₁.keep) _) e,c,d,r⟩
 exact wpAny_inSet_of (Mt C.prog C.w i t) rfl U4 ⟨rfl,x₁.trans (.toks _ _)⟩
theorem Dm {r:HJ} {px ap cp:Jq} {d:Hw} {f:Int->Option Hl} {g:Int->Option HJ} (hE:EvS C Γ Q4 ns e pe) (hr:a_ ns r=Hd) (hm:r∈Q4) (hx:aB x=Hd) (hk:fw (ns.lookup x)=2) (L:cG C.H x (.ref d))
  (QG:(ap.endLine==cp.line)=Hd) (hd:C.H.MapOf (IM C.prog C.w) d f) (hds:(d==IA)=Hb) (hf: ∀i,match f i with|none=>g i=H9|some v=> ∃t u,v= .str t u/\g i=H7 t)
  (Vg: ∀vs r,Γ.fn k vs=H7 r-> ∃i,vs=[.int i]/\r=(match g i with|some t=> .str t|none=> .none)):
  dN C Γ Q4 ns (.Assign [.Name r rp] (.Call (.Attribute (.Name x px) "get" ap) [e] [] cp) pos) (.set (Q4.idxOf r) 0 (.call k [pe])):=by
 intro A Q5 s₀ Q6 W ok om ρ s o F h;obtain⟨v,hv,rfl⟩:=HG.mp h;obtain⟨hv,_⟩:=fG hv;obtain⟨vs,QU,hv⟩:=Ho.mp hv;obtain⟨i,rfl,rfl⟩:=Vg _ _ hv;obtain⟨u,hu,QU⟩:=Ho.mp QU;cases QU;rw [asg];refine WP.at ?_;refine He (Jx (a:=Hb) (rJ.trans (bo rfl)) ?_);simp only [Ie,if_false];refine WP.then (Q₁:=λw s'=>Ext s s'/\Rep C.prog C.w ok s'.heap (match g i with|some t=> .str t|none=> .none) w) ?_ λw s₁ ⟨x₁,rw₁⟩=> ?_
 ·refine Lr rfl ?_ QG (cD F.e hx hk F.hk L ?_)
  ·rw [bX,aQ (c8 hE.2)]
   rfl
  ·have R1:s.heap.MapOf (IM C.prog C.w) d f:=by obtain⟨o,es,ep,e,c,d,r⟩:=hd;exact⟨o,es,ep,(cC d).keep (F.hk _) e,c,d,r⟩
   refine⟨"dict","dict.get",PySem.F.plainAttrs_dict,PySem.F.slot_dict_get,PySem.F.type_dict_get,R1.typeIs,R1.noDict, ?_⟩;rw [aQ (c8 hE.2)];refine wpAny_dict_get1 (knd:=IM C.prog C.w) hds ?_;refine(hE.1 A Q5 _ ok s _ F.good0 hu).mono λkey s₁ ⟨x₁,rk⟩=> ?_;obtain⟨t,rfl⟩:=rk;refine⟨i,f,Mt C.prog C.w i t, ?_,x₁.trans (.toks _ _), ?_⟩
   ·obtain⟨o,es,ep,e,c,d,r⟩:=R1
    exact⟨o,es,ep,(cC d).keep (x₁.keep _) e,c,d,r⟩
   ·have:=hf i
    cases WT:f i with
    |none=>rw [WT]at this;rw [this];rfl
    |some v=>
     rw [WT]at this;obtain⟨t,u,rfl,hg⟩:=this;rw [hg];exact⟨u,rfl⟩
 ·rw [cR]
  refine He (Hi ?_);show WP _ A (K9 (.Name r rp) Q5 w>>=λ_=>(pure Flow.next:J_ LR)) _ s₁
  refine WP.then ((F.ext x₁).bind (kJ hr hm) rfl rw₁) λ_ s₂ ⟨F₂,T₂⟩=>Hi ⟨rfl,ok,_,F₂,x₁.tr.trans T₂, ?_⟩;rw [aT]
  rfl
end
variable {mg:HJ->Option Hl} {qual:HJ} {params:Lx} {scope:Mv} {P:Hw} {RB:Nat} {Qx:List (HJ×Hw)} {Q:Hl->Hh->Prop}
section
variable {name:HJ} {body:List IR} {c:Hw} {ps:Array Hl}
abbrev kR (name qual:HJ) (params:Lx) (body:List IR) (scope:Mv) (Qx:List (HJ×Hw)) (Qh pm Q_:Hl) (c':Hw):Ku:=fnX name qual params body scope Qx .none .none Qh pm H9 (.ref c') Q_
theorem rC (S5:N6 scope Q5=pure Qx) (h0:Qx≠[]) (YD:Q5.globals=IE) (hg:s.heap.Ns IE mg) (R4:Q5.code= .ref c) (C:Q2 s.heap c P) (hP:s.heap.get? P=H7 (NO ps)) (ht:Pz ps.toList)
  (hnf:codeAmong pos ps.toList=H9) (XR:IE≠P) (hb:s.heap.BuiltinsAt mg P)
  (h: ∀c' Q_ Qh h' tk,NU P s.heap h'->s.heap.objs.size<=c'->c'<h'.objs.size->e7 h' (.ref c') qual->h'.get? P=H7 (NO (ps++ #[N4 pos.line,N4 pos.col,.ref c']))->
   Q (.ref h'.objs.size) {s with heap:=h'.push {cls:= .type "function",data:= .func (kR name qual params body scope Qx Qh ((mg "__name__").getD .none) Q_ c')},toks:=tk}):
  Im M A (makeFunction name qual params (.stmts body) scope Q5 [] [] [] pos RB) Q E s:=by
 rw [makeFunction_eq];simp only [List.zip_nil_right,List.filterMap_nil,List.isEmpty_nil,if_true,Op];obtain⟨bm,ob,hbm,Yz,_,Yy,XV,YI,Wb,Wd⟩:=hb;unfold makeTail;rw [S5,YD];refine He (Hi ?_);cases Qx with
 |nil=>exact absurd rfl h0
 |cons q r=>
  simp only [List.isEmpty_cons,Ie,if_false];refine He (wpAny_newTextTuple ?_);try dsimp only
  refine He (wpAny_functionCodeX R4 ((C.keeps λb o e=>HV _ e).code (HV _ hP) ht) ((C.keeps λb o e=>HV _ e).tab (HV _ hP)) hnf λc' h' tk hx TJ Qp _ Yo htp XA=> ?_);have U1:=(hg.push _).extBut hx XR;have Tu:NU P s.heap h':=λb o QP e=>hx b o QP (HV _ e);have VJ:s.heap.objs.size<=c':=H8 (by rw [I8];exact HD _ _) TJ
  have hN:e7 h' (.ref c') qual:=by obtain⟨P',_,_,⟨o2,vs2,e2,c2,_⟩,_⟩:=XA;obtain⟨c₁,o,vs,t,e1,e,d,r⟩:=Yo;cases e1;haveI h12:=Hg (e.symm.trans e2);exact⟨_,o,vs,t,rfl,e,(by rw [h12,c2];intro q;cases q),d,r⟩
  have hPt:=htp.2;refine He (wpAny_builtinsFor U1 hbm Yz (Tu _ _ Yy XV) YI Wb Wd ?_);refine He (wpAny_nsGet U1 ?_);cases hdoc:docOf body with
  |none=>exact He (Hi (Ka (h c' _ .none h' tk Tu VJ Qp hN hPt) (by size_fits)))
  |some t=>exact He (wpAny_mkText (Ka (h c' _ _ h' _ Tu VJ Qp hN hPt) (by size_fits)))
theorem q_ {l:List Hl} (ht:Pz l): ∀q t,l[1]? ≠H7 (.str q t):=by
 intro q t e;cases l with
 |nil=>cases e
 |cons a l=>
  cases l with
  |nil=>cases e
  |cons b l=>
   cases Hg e;cases a<;>exact ht
end
set_option tactic.hygienic true in
theorem sK (hk: ∀b o,¬W b->h.get? b=H7 o->h'.get? b=H7 o) (hp: ∀c o vs q t,W c->h.get? c=H7 o->o.data= .fields vs->vs[1]? =H7 (.str q t)->False) {b:Hw} (hb: ¬W b) (e:vis h b=H7 o):vis h' b=H7 o:=by
 unfold vis at e;split at e
 ·cases e
 ·rename_i o' e'
  have e2:=hk b o' hb e';split at e
  ·rename_i RI
   split at e
   ·rename_i ht
    split at e
    ·rename_i hc
     cases e;exact oy RI λt h1 h2=>(hc t h1 h2).step (λo e=>hk b o hb e) λc o vs u e1 e2 e3=>hk c o (λq=>hp c o vs _ _ q e1 e2 e3) e1
    ·cases e
   ·rename_i ht
    split at e
    ·cases e
    ·rename_i hm
     cases e;exact jk e2 (by simpa using ht) hm
  ·rename_i RI
   cases e;rw [kz RI,e2]
section
theorem xY {ps:Array Hl} {t:Hw×Jq×HJ} (ht:t∈theTabs) (hu: ∀t'∈theTabs,t'.1=t.1->t'=t) (hP:h.get? t.1=H7 (NO ps)) (hT:Pz ps.toList) (hx:NU t.1 h h') (hn:ie h' t.1 t.2.1 t.2.2):HK h h':=by
 intro b o e;by_cases hb:b=t.1
 ·subst hb
  have e2:vis h' t.1=H7 cV:=oy ⟨t,ht,rfl⟩ λt' h1 h2=>by rw [hu t' h1 h2];exact hn
  have e3:o=cV:=by
   unfold vis at e;rw [hP]at e;simp only at e;rw [if_pos ⟨t,ht,rfl⟩,if_pos (show fP (NO ps)=Hd from rfl)]at e;split at e
   ·cases e;rfl
   ·cases e
  rw [e3];exact e2
 ·refine sK (W:=λb=>b=t.1) (λb o n e=>hx b o n e) (λc o vs q u hc e1 e2 e3=> ?_) hb e
  subst hc;rw [hP]at e1;cases e1;cases e2;exact q_ hT q u (by simpa using e3)
end
theorem Q2.keepV {c:Hw} (x:Q2 h c P) (k:HK h h'):Q2 h' c P:=
 by obtain⟨o,vs,YR,tf,Wp,tg,inF,text,tt,e,hc,hd,r⟩:=x;exact⟨o,vs,YR,tf,Wp,tg,inF,text,tt,dt (k c) e hd (by rw [hc];exact λq=>by cases q),hc,hd,r⟩
theorem wd (x:h.BuiltinsAt mg P) (k:HK h h'):h'.BuiltinsAt mg P:=
 by obtain⟨bm,o,h1,h2,h3,h4,e,hc,hd,ht⟩:=x;exact⟨bm,o,h1,h2,h3,h4,ot (k bm o (jk e (dU (λvs q=>by rw [ht]at q;cases q)).tab λq=>by rw [q]at hc;exact absurd hc (by decide))) (λq=>by rw [q]at hc;exact absurd hc (by decide)),hc,hd,ht⟩
structure iW (C:Cx) (Q5:MY) (pos:Jq) (qual:HJ):Prop where
 ex: ∃c P mg,(P,pos,qual)∈theTabs/\(∀t'∈theTabs,t'.1=P->t'=(P,pos,qual))/\Q2 C.H c P/\Q5.code= .ref c/\C.H.Ns IE mg/\C.H.BuiltinsAt mg P/\IE≠P
section
variable {name:HJ} {body:List IR}
theorem tv (X:iW C Q5 pos qual) (hk:HK C.H s.heap) (sy:Sys s.heap) (S5:N6 scope Q5=pure Qx) (h0:Qx≠[]) (TJ:Q5.globals=IE)
  (h: ∀c' Q_ Qh pm s',Ext s s'-> ∀f,s.heap.objs.size<=f->s'.heap.objs.size=f+1->s'.heap.get? f=H7 {cls:= .type "function",data:= .func (kR name qual params body scope Qx Qh pm Q_ c')}->e7 s'.heap (.ref c') qual->Q (.ref f) s'):
  WP M A (makeFunction name qual params (.stmts body) scope Q5 [] [] [] pos RB) Q s:=by
 obtain⟨c,P,mg,ht,hu,hd,R4,hg,hb,XR⟩:=X.ex;have R1:=Q2.keepV hd hk;have U1:=dD hg (hk _);have QP:=wd hb hk;haveI T:=sy.tab ht;obtain⟨ps,hP,hT,hc⟩:=T.ok;rcases hc with hc|⟨c',hc,hN⟩
 ·refine rC S5 h0 TJ U1 R4 R1 hP hT hc XR QP λc' Q_ Qh h' tk hx TJ Qp hN XA=> ?_
  haveI hn:ie h' P pos qual:=⟨_,XA,by rw [N9];exact TriplesOk_snoc _ _ _ _ hT,.inr ⟨c',by rw [N9];exact codeAmong_snoc _ hT hc,hN⟩⟩
  haveI T':HK s.heap h':=xY (t:=(P,pos,qual)) ht (λt' h1 h2=>hu t' h1 h2) hP hT hx hn;refine h c' Q_ Qh ((mg "__name__").getD .none) _ ?_ _ ?_ ?_ ?_ ?_
  ·refine⟨T'.trans (HK.push _ _), ?_,λ_ _ e=>e,rfl⟩
   show _<=(h'.push _).objs.size;rw [I8];exact HN (H8 TJ (HP Qp))
  ·exact HP (Hk TJ Qp)
  ·exact I8 ..
  ·exact HL _ rfl
  ·exact hN.keep (HK.push _ _)
 ·refine makeFunction_hit (E:=λ_ _=>False) S5 TJ U1 R4 R1 hP hT hc QP λQ_ Qh h' tk hx hsz=> ?_
  refine h c' Q_ Qh ((mg "__name__").getD .none) _ ?_ _ ?_ ?_ ?_ ?_
  ·refine⟨(HK.of hx).trans (HK.push _ _), ?_,λ_ _ e=>e,rfl⟩
   show _<=(h'.push _).objs.size;rw [I8];exact HN hsz
  ·exact hsz
  ·exact I8 ..
  rotate_left
  ·exact(hN.keep (HK.of hx)).keep (HK.push _ _)
  ·cases Qx with
   |nil=>exact absurd rfl h0
   |cons q r=>exact HL _ rfl
end
variable {om:List (Nat×Hw)}
section
theorem FSt.bindAny (F:FSt C Q4 A Q5 ns s₀ Q6 W ok om ρ s) (hx:a_ ns x=Hd) (hm:x∈Q4) (ho:Q4.idxOf x∉om.map (·.1)):
  WP (Hj C.prog C.w) A (storeName Q5 x v) (λ_ s'=>FSt C Q4 A Q5 ns s₀ Q6 W ok om (ρ.set (Q4.idxOf x) H9) s'/\Tr W ok ok s s'/\aY s'.heap Q5 x v/\(∀y u,y≠x->aY s.heap Q5 y u->aY s'.heap Q5 y u)/\(∀b o,¬bg Q5 ns b->vis s.heap b=H7 o->vis s'.heap b=H7 o)/\s'.heap.objs.size=s.heap.objs.size) s:=by
 refine lP F.e F.f hx λh' a tk ha hs hp hF hV S'=> ?_;have kp: ∀b o,¬bg Q5 ns b->vis s.heap b=H7 o->vis h' b=H7 o:=λb o hb e=>ax hs hp (λq=>hb (q▸ha)) e;have QI: ∀b,ok b-> ∀o,vis s.heap b=H7 o->vis h' b=H7 o:=λb hb o e=>kp b o (λq=>(F.home b q).1 hb) e;haveI hxa:s₀.heap.objs.size<=a:=(F.home a ha).2;haveI YQ: ∀i pv,Ρ.get (ρ.set (Q4.idxOf x) H9) i=H7 pv->i≠Q4.idxOf x/\ρ.get i=H7 pv:=λi pv hi=>by
  by_cases e:i=Q4.idxOf x
  ·subst e
   have:=dM hi;cases this
  ·exact⟨e,by rw [aD e]at hi;exact hi⟩
 refine⟨⟨F.a,F.e,⟨λb o e=> ?_,H8 F.x.size (Hu hs.1.symm),F.x.gens,F.x.os⟩,F.h,F.y,hF, ?_,by simp;exact F.l,λb hb=> ?_,λb hb=>F.free b (by rw [<-hs.1];exact hb),F.home,F.sub,F.free₀,λp WJ=> ?_,F.nd,λb hb=> ?_⟩,⟨λb o hb e=> ?_,λ_ _ h _=>h,λ_ _ e=>e,rfl⟩,hV,S',kp,hs.1⟩
 ·exact kp b o (λq=>Hr _ (Ha (ao e) (F.home b q).2)) (F.x.keep b o e)
 ·intro y pv hy hg
  obtain⟨h1,h2⟩:=cY hg;obtain⟨h3,h4⟩:=YQ _ _ h2;obtain⟨v',V,R⟩:=F.r y pv hy (by rw [bM h1];exact h4)
  exact⟨v',S' y v' (λq=>h3 (by rw [q])) V,R.mono (λ_ h _=>h) QI⟩
 ·by_cases hh:bg Q5 ns b
  ·exact hF.live hh
  ·obtain⟨o,e⟩:=F.v b hb;exact⟨o,kp b o hh e⟩
 ·obtain⟨y,R_,h1,h2,h3,V,O,h4,h5,h6⟩:=F.ow p WJ
  have QJ:y≠x:=λq=>ho (by rw [<-q,h1];exact HT (f:=(·.1)) WJ)
  refine⟨y,R_,h1,h2,by rw [aD (h1▸e_ hm QJ)];exact h3,S' y _ QJ V,O.frame (λb hb o e=>kp b o (λq=> ?_) e) λ_ _ h _=>h,h4,h5,h6⟩
  rcases hb with hb|hb
  ·exact(F.home b q).1 hb
  ·exact h5 (hb▸q.reads F.e)
 ·obtain⟨h1,h2,h3,e⟩:=F.w b hb
  exact⟨h1,h2,h3,by rw [show h'.objs.size=_ from hs.1];exact e⟩
 ·rcases hb with hb|hb
  ·exact QI b hb o e
  ·exact kp b o (λq=>(F.w b hb).2.1 (q.reads F.e)) e
end
section
theorem qP {name:HJ} {body:List IR} (X:iW C Q5 pos (N5 Q5 name name)) (F:FSt C Q4 A Q5 ns s₀ Q6 W ok om ρ s) (hx:a_ ns name=Hd) (hm:name∈Q4) (ho:Q4.idxOf name∉om.map (·.1))
  (Ut:params.defaults=[]) (S_:params.kw_defaults=[]) (ha:annTrees params H9 Q5=[]) (S5:N6 scope Q5=pure Qx) (h0:Qx≠[]):
  WP (Hj C.prog C.w) A (LO (.FunctionDef name params body [] H9 [] scope H9 name pos) Q5) (λfl s'=>fl= .next/\ ∃f c' Q_ Qh pm,FSt C Q4 A Q5 ns s₀ Q6 W ok om (ρ.set (Q4.idxOf name) H9) s'/\Tr W ok ok s s'/\
   aY s'.heap Q5 name (.ref f)/\(∀y u,y≠name->aY s.heap Q5 y u->aY s'.heap Q5 y u)/\s'.heap.get? f=H7 {cls:= .type "function",data:= .func (kR name (N5 Q5 name name) params body scope Qx Qh pm Q_ c')}/\
   e7 s'.heap (.ref c') (N5 Q5 name name)/\(∀b o,¬bg Q5 ns b->vis s.heap b=H7 o->vis s'.heap b=H7 o)) s:=by
 refine nestDef_K Ut S_ ha ?_;refine tv X F.hk F.sys S5 h0 F.e.glob λc' Q_ Qh pm s₁ x₁ f hf hsz Ur Uu=> ?_;have F₁:=F.ext x₁;refine(F₁.bindAny hx hm ho).mono λ_ s₂ ⟨F₂,T₂,V,V',kp,sz⟩=>⟨rfl,f,c',Q_,Qh,pm,F₂,x₁.tr.trans T₂,V,λy u hy q=>V' y u hy (q.keep x₁.keep), ?_, ?_,λb o hb e=>kp b o hb (x₁.keep b o e)⟩
 ·have n:bE {cls:= .type "function",data:= .func (kR name (N5 Q5 name name) params body scope Qx Qh pm Q_ c')}:=cz rfl
  refine n.keep (λo e=>kp f o (λhb=> ?_) e) Ur;obtain⟨o,e⟩:=F.f.live hb;exact absurd (ao e) (LC.mpr hf)
 ·obtain⟨c,o,vs,t,e,g,n,d,r⟩:=Uu
  refine⟨c,o,vs,t,e,dt (λo' e'=>kp c o' (λhb=> ?_) e') g d n,n,d,r⟩;rcases hb with hb|⟨y,hy,hb⟩
  ·obtain⟨m,o2,es,ep,e2,d2,_⟩:=F₁.f.L
   rw [<-hb,g]at e2;cases e2;rw [d]at d2;cases d2
  ·obtain⟨c2,v2,e2,o2,e3,d3⟩:=F₁.f.C y hy
   rw [hb]at e2;cases e2;rw [g]at e3;cases e3;rw [d]at d3;cases d3
end
structure gz (fd:Ku) (body:List IR) (params Q4:List HJ):Prop where
 body:fd.body= .stmts body
 glob:fd.globals=IE
 blt:fd.builtins=KW
 kind:fd.scope.kind= .function
 co:fd.scope.isCoroutine=Hb
 gen:fd.scope.isGenerator=Hb
 bind: ∀vs:List Hl,vs.length=params.length->OX fd ⟨vs,[]⟩=pure (params.zip vs)
 nd:params.Nodup
 pn: ∀x∈params,x∈Q4
 pk: ∀x∈params,fd.scope.names.lookup x=H7 .local
 cell: ∀p∈fd.scope.names,p.2≠ .cell
variable {vs:List Hl}
theorem m4 {params:List HJ} (WN:params.Nodup) (h:(x,v)∈params.zip vs):(params.zip vs).reverse.lookup x=H7 v:=by
 haveI key: ∀(l:List (HJ×Hl)),(l.map (·.1)).Nodup->(x,v)∈l->l.lookup x=H7 v:=by
  intro l;induction l with
  |nil=>intro _ h;cases h
  |cons p l ih=>
   intro hn h;obtain⟨y,u⟩:=p;simp only [HI,Jc]at hn;rcases Hp.mp h with h|h
   ·cases h;simp
   ·haveI:x≠y:=λq=>hn.1 (q▸HT (f:=(·.1)) h)
    rw [IV,show(x==y)=Hb by simpa using this]
    exact ih hn.2 h
 refine key _ ?_ (NH.mpr h);rw [NI];refine(List.pairwise_reverse.mpr ((WN.sublist ?_).imp λh=>Kv h));haveI: ∀(p:List HJ) (v:List Hl),List.Sublist ((p.zip v).map (·.1)) p:=by
  intro p;induction p with
  |nil=>intro v;simp
  |cons a p ih=>intro v;cases v with
   |nil=>simp
   |cons b v=>simpa using ih v
 exact this _ _
variable {ρ₀:Ρ} {args:List PV}
section
variable {body:List IR} {params:List HJ}
theorem wc (D:gz fd body params Q4) (hA:AOk (C.d+1) A) (hH:HK C.H s.heap) (lim:C.H.NoLimit) (y:Sys C.H) (hf:s.heap.get? f=H7 o) (data:o.data= .func fd) (code:e7 s.heap fd.code fd.qualname)
  (free: ∀x,fd.scope.names.lookup x=H7 .free-> ∃c o,fd.closure.lookup x=H7 c/\vis s.heap c=H7 o)
  (inj: ∀x y c,fd.scope.names.lookup x=H7 .free->fd.scope.names.lookup y=H7 .free->fd.closure.lookup x=H7 c->fd.closure.lookup y=H7 c->x=y)
  (ho:bS Q6 s.heap) (hρ:aW ρ₀ (params.map Q4.idxOf) args=H7 ρ) (hl:ρ₀.length<=Q4.length) (q:av C.prog C.w Q6 s.heap args vs)
  (Rj: ∀x pv,fd.scope.names.lookup x=H7 .free->ρ₀.get (Q4.idxOf x)=H7 pv-> ∃c v,fd.closure.lookup x=H7 c/\s.heap.IsCell c (H7 v)/\Rep C.prog C.w Q6 s.heap pv v)
  (QN: ∀x,fd.scope.names.lookup x=H7 .local->ρ₀.get (Q4.idxOf x)=H9)
  (k: ∀s₁,FSt C Q4 (A.deeper (JW fd s.heap.objs.size f)) (JW fd s.heap.objs.size f) fd.scope.names s Q6 (λ_=>False) (λb=>Q6 b/\b≠s.heap.objs.size) [] ρ s₁->
   WP (Hj C.prog C.w) (A.deeper (JW fd s.heap.objs.size f)) (JK body (JW fd s.heap.objs.size f)) (λfl s'=>Q (ww fl) s') s₁):
  WP (Hj C.prog C.w) A (KG (.ref f) vs) Q s:=by
 have Q7:params.length=args.length:=by simpa using(dS hρ).1
 have Uk:vs.length=params.length:=by rw [q.length,Q7]
 have RO: ∀p∈params.zip vs,p.1∈params:=λp hp=>(O1 hp).1;refine OQ ?_;refine codeAny_call_def hA.room hf data (c_ lim hH) code.rec D.body (.of_eq (D.bind vs Uk)) D.cell (λp hp=>D.pk _ (RO p hp)) (λh₁ Rp W4=> ?_) D.co D.gen D.kind;haveI kindOf: ∀x,(JW fd s.heap.objs.size f).kindOf x=fd.scope.names.lookup x:=λ_=>rfl;have WC: ∀x,fd.scope.names.lookup x≠H7 .cell:=λx hx=>D.cell _ (mem_of_lookup hx) rfl;have RE: ∀x,bv (fd.scope.names.lookup x)=Hd->fd.scope.names.lookup x=H7 .free:=λx hx=>by
  cases h:fd.scope.names.lookup x with
  |none=>rw [h]at hx;cases hx
  |some k=>
   rw [h]at hx;cases k<;>first|rfl|(exact absurd hx (by decide))|(exact absurd h (WC x))
 have E:cx (JW fd s.heap.objs.size f) fd.scope.names:=by refine⟨D.kind,D.glob,D.blt,λ_=>rfl,λ_=>rfl,λx hx=> ?_,λx y c hx hy h1 h2=>inj x y c (RE x hx) (RE y hy) h1 h2,λ_ h=>h⟩;obtain⟨c,_,h,_⟩:=free x (RE x hx);exact⟨c,h⟩
 have Tm: ∀b,bg (JW fd s.heap.objs.size f) fd.scope.names b->b=s.heap.objs.size:=λb hb=>by
  rcases hb with rfl|⟨x,hx,_⟩
  ·rfl
  ·exact absurd hx (WC x)
 haveI FO:aG h₁ (JW fd s.heap.objs.size f) fd.scope.names:=⟨⟨_,Rp⟩,λx hx=>absurd hx (WC x)⟩;have hsz:s.heap.objs.size<=h₁.objs.size:=by obtain⟨o,_,_,e,_⟩:=Rp;exact HP (II e)
 have xt:Ext s {s with heap:=h₁,toks:=s.toks+(params.zip vs).length}:=⟨HK.of W4,hsz,λ_ _ e=>e,rfl⟩
 have live: ∀b (o:Oh),vis s.heap b=H7 o->b≠s.heap.objs.size:=λb o e q=>Hr _ (q▸ao e);refine Jl (E:=λ_ _=>False) (k _ ⟨hA.deeper,E,xt,hH,y,FO, ?_,by rw [(dS hρ).2];exact hl,λb hb=> ?_,λb hb=>⟨ho b (H8 hsz hb),λq=> ?_⟩,λb hb=>⟨λh=>h.2 (Tm b hb),Hu (Tm b hb).symm⟩,λb h=>h.1,ho,(λp hp=>absurd hp (by simp)),⟨Kg,Kg⟩,λb hb=>hb.elim⟩) (λfl _ h=>by cases fl<;>exact h) λ_ _ h=>h.elim
 ·intro x pv hx hg
  have hg:ρ.get (Q4.idxOf x)=H7 pv:=hg;rcases lR hρ hg with h|h
  ·by_cases hc:fd.scope.names.lookup x=H7 .local
   ·rw [QN x hc]at h;cases h
   ·have UQ:fd.scope.names.lookup x=H7 .free:=by
     have h1:fw (fd.scope.names.lookup x)=1:=hx;cases hk:fd.scope.names.lookup x with
     |none=>rw [hk]at h1;cases h1
     |some k=>
      rw [hk]at h1;cases k<;>first|rfl|(exact absurd hk hc)|(exact absurd hk (WC x))|(exact absurd h1 (by decide))
    obtain⟨c,v,h1,h2,h3⟩:=Rj x pv UQ h;exact⟨v,.cel c (.inr UQ) h1 (aN h2 (xt.keep c)),h3.mono (λb hb ⟨o,e⟩=>⟨hb,live b o e⟩) λb _ o e=>xt.keep b o e⟩
  ·obtain⟨⟨y,v⟩,i,h1,h2,h3,h4⟩:=ue (zs:=params.zip vs) (by rw [O2,Uk,M1,Q7]) h
   obtain⟨y',SP,SA⟩: ∃y',params[i]? =H7 y'/\Q4.idxOf y'=Q4.idxOf x:=by rw [HQ]at h1;exact HG.mp h1
   have V5:y'∈params:=Ht SP;haveI SX:y'=x:=by
    by_cases e:y'=x
    ·exact e
    ·exact absurd SA.symm (e_ (D.pn y' V5) (Kv e))
   subst SX;obtain⟨v',Xy,rv⟩:=q.get h2;haveI RO:(y',v')∈params.zip vs:=by
    haveI:(params.zip vs)[i]? =H7 (y',v'):=by rw [Mg];exact⟨SP,Xy⟩
    exact Ht this
   exact⟨v',.loc _ (D.pk y' V5) Rp (m4 D.nd RO),rv.mono (λb hb ⟨o,e⟩=>⟨hb,live b o e⟩) λb _ o e=>xt.keep b o e⟩
 ·rcases hb with rfl|⟨x,hx,h⟩
  ·exact n_ Rp
  ·obtain⟨c,o,h1,h2⟩:=free x (RE x hx)
   have h:fd.closure.lookup x=H7 b:=h;rw [h1]at h;cases h;exact⟨o,xt.keep _ _ h2⟩
 ·obtain⟨o,_,_,e,_⟩:=Rp
  have:=II e;rw [q]at hb;exact absurd this (LC.mpr hb)
end
abbrev Cx.mute (C:Cx) (d:Nat):Cx:={C with gl:=λ_=>H9,d:=d}
def Γ0:Gam:=⟨λ_=>H9,λ_ _=>H9,λ_ _=>H9⟩
theorem BK (sy:Sys C.H) (d:Nat):ai (C.mute d) Γ0:=
 ⟨sy,λ_ _ _ h=>(by cases h),λ_ _ h=>(by cases h),λ_ _ h=>(by cases h),λ_ _ h=>(by cases h),λ_ _ h=>(by cases h)⟩
section
theorem f_ {args:List Expr} {rs:List PV} (E:cx Q5 ns) (hx:aB x=Hd) (V:aY s.heap Q5 x (.ref f)) (ho:s.heap.get? f=H7 o) (hd:o.data= .func fd) (ha:bU C A Q5 ok args rs s)
  (h: ∀us s₁,Ext s s₁->av C.prog C.w ok s₁.heap rs us->WP (Hj C.prog C.w) A (KG (.ref f) us) Q s₁):WP (Hj C.prog C.w) A (IY (.Call (.Name x p) args [] pos) Q5) Q s:=by
 refine N1 rfl (jo E hx V ?_);refine Od (o:=o) (fd:=fd) ?_;exact bj (by rw [bX];exact ha.1) ((ha.2 pos).mono λus s₁ ⟨x,q⟩=>⟨⟨(cz hd).keep (x.keep _) ho,hd⟩,h us s₁ x q⟩)
end
structure gj (C:Cx) (Q4:List HJ) (Q6:Hw->Prop) (f:Hw) (fd:Ku) (me:HJ) (ρ₀:Ρ) (s:Hh):Prop where
 h:HK C.H s.heap
 fo: ∃o,s.heap.get? f=H7 o/\o.data= .func fd
 code:e7 s.heap fd.code fd.qualname
 free: ∀x,fd.scope.names.lookup x=H7 .free-> ∃c v,fd.closure.lookup x=H7 c/\s.heap.IsCell c v
 self: ∃c,fd.closure.lookup me=H7 c/\s.heap.IsCell c (H7 (.ref f))
 vals: ∀x pv,fd.scope.names.lookup x=H7 .free->ρ₀.get (Q4.idxOf x)=H7 pv-> ∃c v,fd.closure.lookup x=H7 c/\s.heap.IsCell c (H7 v)/\Rep C.prog C.w Q6 s.heap pv v
 fr:bS Q6 s.heap
variable {me:HJ}
section
theorem gj.ext (x:gj C Q4 Q6 f fd me ρ₀ s) (e:Ext s s'):gj C Q4 Q6 f fd me ρ₀ s' where
 h:=x.h.trans e.keep
 fo:=by obtain⟨o,h1,h2⟩:=x.fo;exact⟨o,(cz h2).keep (e.keep f) h1,h2⟩
 code:=x.code.keep e.keep
 free:=λy hy=>by obtain⟨c,v,h1,h2⟩:=x.free y hy;exact⟨c,v,h1,aN h2 (e.keep c)⟩
 self:=by obtain⟨c,h1,h2⟩:=x.self;exact⟨c,h1,aN h2 (e.keep c)⟩
 vals:=λy pv hy hp=>by obtain⟨c,v,h1,h2,h3⟩:=x.vals y pv hy hp;exact⟨c,v,h1,aN h2 (e.keep c),h3.keep e.keep⟩
 fr:=x.fr.keep e.size
theorem gj.depth (x:gj C Q4 Q6 f fd me ρ₀ s) (d:Nat):gj (C.mute d) Q4 Q6 f fd me ρ₀ s:=⟨x.h,x.fo,x.code,x.free,x.self,x.vals,x.fr⟩
end
structure zK (fd:Ku):Prop where
 inj: ∀x y c,fd.scope.names.lookup x=H7 .free->fd.scope.names.lookup y=H7 .free->fd.closure.lookup x=H7 c->fd.closure.lookup y=H7 c->x=y
section
variable {body:List IR} {params:List HJ}
theorem l_ (D:gz fd body params Q4) (I:zK fd) (hA:AOk (C.d+1) A) (lim:C.H.NoLimit) (y:Sys C.H) (X:gj C Q4 Q6 f fd me ρ₀ s) (RJ:fd.scope.names.lookup me=H7 .free)
 (hρ:aW ρ₀ (params.map Q4.idxOf) args=H7 ρ) (hl:ρ₀.length<=Q4.length) (q:av C.prog C.w Q6 s.heap args vs)
  (QN: ∀x,fd.scope.names.lookup x=H7 .local->ρ₀.get (Q4.idxOf x)=H9)
  (k: ∀s₁,FSt C Q4 (A.deeper (JW fd s.heap.objs.size f)) (JW fd s.heap.objs.size f) fd.scope.names s Q6 (λ_=>False) (λb=>Q6 b/\b≠s.heap.objs.size) [] ρ s₁->aY s₁.heap (JW fd s.heap.objs.size f) me (.ref f)->
   WP (Hj C.prog C.w) (A.deeper (JW fd s.heap.objs.size f)) (JK body (JW fd s.heap.objs.size f)) (λfl s'=>Q (ww fl) s') s₁):
  WP (Hj C.prog C.w) A (KG (.ref f) vs) Q s:=by
 obtain⟨o,hf,data⟩:=X.fo;refine wc D hA X.h lim y hf data X.code (λx hx=> ?_) I.inj X.fr hρ hl q X.vals QN λs₁ F=>k s₁ F ?_
 ·obtain⟨c,v,h1,h2⟩:=X.free x hx
  obtain⟨o,e⟩:=lL h2;exact⟨c,o,h1,e⟩
 ·obtain⟨c,h1,h2⟩:=X.self
  exact .cel c (.inr RJ) h1 (aN h2 (F.x.keep c))
end
variable {sc:Mv}
section
def gw (ns:ay) (sc:Mv):Bool:=sc.names.all λp=>sc.names.lookup p.1==H7 p.2&&(p.2 != .free||ns.lookup p.1==H7 .cell)
theorem n7 (h:gw ns sc=Hd) (hx:(x,Ij)∈sc.names):sc.names.lookup x=H7 .free/\ns.lookup x=H7 .cell:=by have:=HX.mp h _ hx;simpa using this
theorem iE (E:cx Q5 ns) (h:gw ns sc=Hd) (hx:(x,Ij)∈sc.names): ∃c,Q5.cells.lookup x=H7 c:=by have:=(n7 h hx).2;exact E.cells x (by rw [E.own x this];rfl)
theorem jE (E:cx Q5 ns) (h:gw ns sc=Hd) (hx:sc.names.lookup x=H7 .free):(dg Q5 sc.names []).lookup x=Q5.cells.lookup x:=by rw [fe _ _ λn hn=>iE E h hn,if_pos (mem_of_lookup hx)]
theorem lw (E:cx Q5 ns) (hx:ns.lookup x=H7 .cell) (V:aY h Q5 x v): ∃c,Q5.cells.lookup x=H7 c/\h.IsCell c (H7 v):=by
 cases V with
 |loc m k n e=>rw [E.own x hx]at k;cases k
 |cel c k l e=>exact⟨c,l,e⟩
theorem qR {name:HJ} {body:List IR} {Qh pm Q_:Hl} {c':Hw} {RF:List HJ} (F:FSt C Q4 A Q5 ns s₀ Q6 W ok om ρ s) (hs:gw ns sc=Hd) (V:aY s.heap Q5 name (.ref f)) (RJ:sc.names.lookup name=H7 .free)
  (Ur:s.heap.get? f=H7 {cls:= .type "function",data:= .func (kR name qual params body sc (dg Q5 sc.names []) Qh pm Q_ c')}) (Uu:e7 s.heap (.ref c') qual)
  (hv: ∀x pv,sc.names.lookup x=H7 .free->ρ₀.get (RF.idxOf x)=H7 pv->(aw ρ (om.map (·.1))).get (Q4.idxOf x)=H7 pv):
  gj C RF ok f (kR name qual params body sc (dg Q5 sc.names []) Qh pm Q_ c') name ρ₀ s/\zK (kR name qual params body sc (dg Q5 sc.names []) Qh pm Q_ c'):=by
 have Rb: ∀{x},sc.names.lookup x=H7 .free->(dg Q5 sc.names []).lookup x=Q5.cells.lookup x:=λhx=>jE F.e hs hx;have own: ∀{x},sc.names.lookup x=H7 .free->ns.lookup x=H7 .cell:=λhx=>(n7 hs (mem_of_lookup hx)).2;refine⟨⟨F.hk,⟨_,Ur,rfl⟩,Uu,λx hx=> ?_, ?_,λx pv hx hp=> ?_,F.free⟩,⟨λx y c hx hy h1 h2=> ?_⟩⟩
 ·obtain⟨c,v,h1,h2⟩:=F.f.C x (own hx)
  exact⟨c,v,(Rb hx).trans h1,h2⟩
 ·obtain⟨c,h1,h2⟩:=lw F.e (own RJ) V
  exact⟨c,(Rb RJ).trans h1,h2⟩
 ·obtain⟨v,V',R⟩:=F.r x pv (by rw [F.e.own x (own hx)];rfl) (hv x pv hx hp)
  obtain⟨c,h1,h2⟩:=lw F.e (own hx) V';exact⟨c,v,(Rb hx).trans h1,h2,R⟩
 ·have h1:(dg Q5 sc.names []).lookup x=H7 c:=h1
  have h2:(dg Q5 sc.names []).lookup y=H7 c:=h2;rw [Rb hx]at h1;rw [Rb hy]at h2;exact F.e.inj x y c (by rw [F.e.own x (own hx)];rfl) (by rw [F.e.own y (own hy)];rfl) h1 h2
theorem j7 (E:cx Q5 ns) (h:gw ns sc=Hd):N6 sc Q5=pure (dg Q5 sc.names []):=im λn hn=>iE E h hn
theorem ux (E:cx Q5 ns) (h:gw ns sc=Hd) (hx:sc.names.lookup x=H7 .free):dg Q5 sc.names []≠[]:=λq=>by obtain⟨c,hc⟩:=iE E h (mem_of_lookup hx);have:=jE E h hx;rw [q,hc]at this;cases this
end
def hsum (n:Nat):List Int->Int
 |[]=>0
 |d::r=>d+hsum n r*2^n
theorem gM (n:Nat): ∀xs ys,hsum n (xs++ys)=hsum n xs+hsum n ys*2^(n*xs.length)
 |[],ys=>by simp [hsum]
 |d::r,ys=>by rw [J5,hsum,hsum,gM n r ys,Hv,K7,Int.pow_add,Int.add_mul,OK,LK]
theorem qT (n:Nat):Hc ((2:Int)^n)<=n+1:=by rw [Ia];rw [Int.natAbs_pow];exact Nat.pow_lt_pow_right (by decide) (HR n)
theorem fI (n B:Nat): ∀xs:List Int,(∀d∈xs,Hc d<=B)->Hc (hsum n xs)<=B+(n+2)*xs.length
 |[],_=>by simp [hsum,Hc]
 |d::r,h=>by haveI h1:=fI n B r λd hd=>h d (Hq _ hd);haveI h2:=O_ (h d Hs) (I4 h1 (qT n));rw [hsum];refine H8 h2 ?_;rw [Hv,K7];lia
def dgN:List HJ:=["digits","n","L","R","mid","shift"]
def C9:PS:= .ite (.cmp .Eq (.bin .Add (.var 2) (.cI 1)) (.var 3)) [.ret (.idx (.var 0) (.var 2))] []
def Ew:PS:= .set 4 0 (.bin .RShift (.bin .Add (.var 2) (.var 3)) (.cI 1))
def Eu:PS:= .set 5 0 (.bin .Mult (.bin .Sub (.var 4) (.var 2)) (.var 1))
abbrev g0:HJ->Option aO:=λ_=>H9
abbrev h0:HJ->Nat:=λ_=>0
inductive lr (ns:ay):List IR->Prop
 |mk (st1 st2 st3:IR) (e1 e2 e3 e4 e5:Expr) (p1 p2 p3 p4 p5 p6 p7:Jq)
  (h1:sS g0 dgN h0 ns 20 st1=C9) (h2:sS g0 dgN h0 ns 20 st2=Ew) (h3:sS g0 dgN h0 ns 20 st3=Eu)
  (a1:sL g0 dgN 20 ns [e1,e2]=H7 [.var 4,.var 3]) (a2:sE g0 dgN 20 ns e3=H7 (.var 5)) (a3:sL g0 dgN 20 ns [e4,e5]=H7 [.var 2,.var 4]):
  lr ns [st1,st2,st3,.Return (H7 (.BinOp (.BinOp (.Call (.Name "inner" p1) [e1,e2] [] p2) .LShift e3 p3) .Add (.Call (.Name "inner" p4) [e4,e5] [] p5) p6)) p7]
variable {L:Nat}
theorem n9 {w:Nat} (hw:0<w) (h1: ¬w=1) (h:2*w<=2^(k+1)): ∃p q,w=p+q/\0<p/\0<q/\(L+(L+w))/2=L+p/\2*p<=2^k/\2*q<=2^k:=by
 refine⟨w/2,w-w/2,by exact IW (I9 (Nat.div_le_self _ _)),by exact aW2 hw h1,by exact aW3 hw,by exact H2, ?_⟩
 cases k with
 |zero=>exact absurd (JH (Nat.le_of_mul_le_mul_left h (by decide)) hw) h1
 |succ k=>rw [L_,L_]at h;rw [L_];lia
variable {a:Nat}
theorem Ei (h:a<2^62): -(2^63:Int)<=(a:Int)/\(a:Int)<2^63:=by exact EG h
variable {b:Nat}
theorem Ek (h:a+b<=2^27):(a:Int)+(b:Int)<=2^27:=by lia
theorem Cb {w:Nat}:(((L:Int)+1)==((L+w:Nat):Int))=decide (w=1):=by
 by_cases h:w=1
 ·subst h;exact beq_self_eq_true _
 ·rw [decide_eq_false h];exact beq_eq_false_iff_ne.mpr λe=>h (Nat.add_left_cancel (PG e)).symm
section
theorem fS {st:IR} {Q:LR->Hh->Prop} (S:dN C Γ Q4 ns st ps) (F:FSt C Q4 A Q5 ns s₀ Q6 W ok [] ρ s) (hp:az Γ ps ρ []=H7 (.next ρ' []))
  (k: ∀ok' s',FSt C Q4 A Q5 ns s₀ Q6 W ok' [] ρ' s'->WP (Hj C.prog C.w) A (JK Qo Q5) Q s'):WP (Hj C.prog C.w) A (JK (st::Qo) Q5) Q s:=
 Ih ((S A Q5 s₀ Q6 W ok [] ρ s _ F hp).mono λfl s' hP=>by obtain⟨rfl,ok',Rf,F',_,SD⟩:=hP;cases List.map_eq_nil_iff.mp SD;exact k ok' s' F')
end
def cut (ds:List Int) (L w:Nat):List Int:=(ds.drop L).take w
variable {ds:List Int} {q:Nat}
theorem w8 {p:Nat}:cut ds L (p+q)=cut ds L p++cut ds (L+p) q:=by unfold cut;rw [List.take_add,JU]
theorem yW (h:L<ds.length):hsum n (cut ds L 1)=ds[L]:=by unfold cut;rw [Js h];show ds[L]+0*2^n=_;rw [Pb,NC]
theorem uL {w:Nat} (h:L+w<=ds.length):(cut ds L w).length=w:=by rw [cut,JP,Jy];exact MW (Pq (Iv L w▸h))
theorem Be {w:Nat} {d:Int} (h:d∈cut ds L w):d∈ds:=KL (LJ h)
def dg0 (ds:List Int) (n:Nat):Ρ:=[H7 (.list (ds.map .int)),H7 (.int n),H9,H9,H9,H9]
def dgR (ds:List Int) (n L R:Nat) (a b:Option PV):Ρ:=[H7 (.list (ds.map .int)),H7 (.int n),H7 (.int L),H7 (.int R),a,b]
theorem BP (a:Nat):Int.fdiv (a:Int) (2^(1:Int).toNat)=((a/2:Nat):Int):=by
 rw [IK _ (by decide)]
 simp
theorem pA (h:i<n):Ls (i:Int) n=H7 i:=by haveI h0: ¬(i:Int)<0:=Q1.mpr (HA i);rw [Ls,if_neg h0];exact if_pos (HZ.mpr ⟨decide_eq_true (HA i),decide_eq_true (Ks.mpr h)⟩)
theorem dK (a m:Nat) (h:a<2^m):Hc (a:Int)<=m:=by rw [Ia];simpa using h
theorem DI (hL:L<ds.length) (h62:ds.length<2^62):az Γ0 C9 (dgR ds n L (L+1) H9 H9) []=H7 (.ret (.int ds[L])):=by
 refine an (t:=Hd) (congrArg H7 Cb) (ak (aC ?_));show((Ls (L:Int) (ds.map PV.int).length).bind λk=>if-(2^63:Int)<=(L:Int)/\(L:Int)<2^63 then(ds.map PV.int)[k]? else H9)=_;rw [Hf];refine aF (pA hL) ((if_pos (Ei (J6 hL h62))).trans ?_);rw [HQ,HB hL]
 rfl
theorem DH {w:Nat} (h: ¬w=1):az Γ0 C9 (dgR ds n L (L+w) H9 H9) []=H7 (.next (dgR ds n L (L+w) H9 H9) []):=an (t:=Hb) (congrArg H7 (Cb.trans (decide_eq_false h))) rfl
variable {R:Nat}
theorem Fv:az Γ0 Ew (dgR ds n L R H9 H9) []=H7 (.next (dgR ds n L R (H7 (.int (((L+R)/2:Nat):Int))) H9) []):=
 au (congrArg (λi=>H7 (PV.int i)) (BP (L+R)))
theorem n8 {p:Nat} (hn:n<2^62):bB (Nu (((L+p:Nat):Int)-(L:Int)) (n:Int)) ((((L+p:Nat):Int)-(L:Int))*(n:Int))=H7 (.int ((n*p:Nat):Int)):=by
 haveI e:((L+p:Nat):Int)-(L:Int)=(p:Int):=by rw [Jr,M3,Me]
 rw [e,ID];exact if_pos (IntMulOk.of_right (H8 (dK n 62 hn) (by decide)))
theorem Fu {p:Nat} (hn:n<2^62):az Γ0 Eu (dgR ds n L R (H7 (.int ((L+p:Nat):Int))) H9) []=H7 (.next (dgR ds n L R (H7 (.int ((L+p:Nat):Int))) (H7 (.int ((n*p:Nat):Int)))) []):=
 au (n8 hn)
variable {B:Nat}
section
variable {body:List IR}
theorem w7 (D:gz fd body ["L","R"] dgN) (I:zK fd) (lim:C.H.NoLimit) (sy:Sys C.H) (F:lr fd.scope.names body) (RJ:fd.scope.names.lookup ("inner" :HJ)=H7 .free)
  (QN: ∀x,fd.scope.names.lookup x=H7 .local->x∈(["L","R","mid","shift"]:List HJ)) (hB: ∀d∈ds,Hc d<=B) (Q7:ds.length<2^60) (hn:n<2^62) (Rl:B+(n+2)*ds.length+n*ds.length<=2^27):
  ∀k A s L w R us,gj C dgN Q6 f fd "inner" (dg0 ds n) s->AOk k A->0<w->L+w=R->R<=ds.length->2*w<=2^k->av C.prog C.w Q6 s.heap [.int (L:Nat),.int (R:Nat)] us->
   WP (Hj C.prog C.w) A (KG (.ref f) us) (λv s'=>Ext s s'/\ ∃t,v= .int (hsum n (cut ds L w)) t) s:=by
 have UX: ∀x,fd.scope.names.lookup x=H7 .local->(dg0 ds n).get (dgN.idxOf x)=H9:=λx hx=>
  (I5.mpr ⟨rfl,I5.mpr ⟨rfl,nT rfl rfl⟩⟩: ∀i∈[2,3,4,5],(dg0 ds n).get i=H9) _ ((by decide: ∀x∈(["L","R","mid","shift"]:List HJ),dgN.idxOf x∈[2,3,4,5]) x (QN x hx))
 have Xv:(["L","R"]:List HJ).map dgN.idxOf=[2,3]:=by decide
 obtain⟨st1,st2,st3,e1,e2,e3,e4,e5,p1,p2,p3,p4,p5,p6,p7,g1,g2,g3,a1,a2,a3⟩:=F;intro k;induction k with
 |zero=>exact λA s L w R us _ _ h1 _ _ h3 _=>absurd (H8 (Ig 2 h1) h3) (by decide)
 |succ k ih=>
  intro A s L w R us X hA h1 hR h2 h3 q;subst hR;have hρ:aW (dg0 ds n) (((["L","R"]:List HJ)).map dgN.idxOf) [.int (L:Nat),.int (L+w:Nat)]=H7 (dgR ds n L (L+w) H9 H9):=by rw [Xv];rfl
  refine l_ (C:=C.mute k) D I hA lim sy (X.depth k) RJ hρ (Hm 6) q UX λs₁ F₁ V₁=> ?_;have GO:=BK (C:=C) sy k;have S:=cP (Q4:=dgN) GO 20;have SS:=(d9 (Q4:=dgN) GO h0 fd.scope.names 20).1;by_cases hone:w=1
  ·subst hone
   refine Ih ((SS st1 _ _ _ _ _ _ _ _ _ _ F₁ (g1.symm▸DI h2 (J6 Q7 (by decide)))).mono λfl s₂ hP=> ?_)
   obtain⟨u,rfl,hx,t,rfl⟩:=hP;exact⟨hx,t,congrArg (λi=>Kb i t) (yW h2).symm⟩
  ·obtain⟨p,q',rfl,hp,hq,eM,k1,k2⟩:=n9 (L:=L) h1 hone h3
   refine fS (SS st1) F₁ (g1.symm▸DH hone) λok2 s₂ F₂=>fS (SS st2) F₂ (g2.symm▸eM▸Fv) λok3 s₃ F₃=>fS (SS st3) F₃ (g3.symm▸Fu hn) λUP s₄ F₄=> ?_;have G₄:=F₄.good0;have Yg: ∀b,UP b->Q6 b:=F₄.sub;have X₄:gj C dgN Q6 f fd "inner" (dg0 ds n) s₄:=X.ext F₄.x;have Uh: ∀{e e':Expr} {P P':Jq} {a w b:Nat} {Qs:List PE} (s':Hh),Ext s₄ s'->0<w->a+w=b->b<=ds.length->2*w<=2^k->sL g0 dgN 20 fd.scope.names [e,e']=H7 Qs->cE Γ0 Qs (dgR ds n L (L+(p+q')) (H7 (.int ((L+p:Nat):Int))) (H7 (.int ((n*p:Nat):Int))))=H7 [.int (a:Nat),.int (b:Nat)]->
     WP (Hj C.prog C.w) (A.deeper (JW fd s.heap.objs.size f)) (IY (.Call (.Name "inner" P) [e,e'] [] P') (JW fd s.heap.objs.size f)) (Ev (C.mute k) UP (.int (hsum n (cut ds a w))) s') s':=by
    intro e e' P P' a w b Qs s' x hw S6 hb hk hs hp;have X':=X₄.ext x;obtain⟨c,X4,QK⟩:=X'.self;obtain⟨o,ho,hd⟩:=X'.fo;exact f_ (C:=C.mute k) F₄.e (by decide) (.cel c (.inr RJ) X4 QK) ho hd (S.l _ _ _ hs _ _ _ UP s' _ (G₄.ext x) hp) λus s₅ x₅ q₅=>
     (ih _ s₅ a w b us (X'.ext x₅) F₄.a hw S6 hb hk (q₅.mono (λb hb _=>Yg b hb) λ_ _ _ e=>e)).mono λv s₆ ⟨x₆,t,hv⟩=>⟨x₅.trans x₆,t,hv⟩
   show WP _ _ (JK [_] _) _ _;refine Ih ?_;rw [LN];have XF:L+p+q'<=ds.length:=I7 L p q'▸h2;have RI:L+p<=ds.length:=H8 (HD _ _) XF;refine WP.at (WP.then (Q₁:=Ev (C.mute k) UP (.int (hsum n (cut ds L (p+q')))) s₄) ?_ λv s₅ ⟨x₅,t,hv⟩=>Hi ⟨F₄.x.trans x₅,t,hv⟩);refine sk (C:=C.mute k) (a:= .int (hsum n (cut ds (L+p) q')*2^(n*p))) (b:= .int (hsum n (cut ds L p))) (λs' x'=> ?_) (λs' x'=>Uh s' x' hp rfl RI k1 a3 rfl) λs' va vb x' ra rb=> ?_
   ·refine sk (C:=C.mute k) (a:= .int (hsum n (cut ds (L+p) q'))) (b:= .int ((n*p:Nat):Int)) (λQj UL=>Uh Qj (x'.trans UL) hq (I7 L p q') h2 k2 a1 rfl) (λQj UL=>S.e _ _ _ a2 _ _ _ UP Qj _ (G₄.ext (x'.trans UL)) rfl) λQj va vb UL ra rb=> ?_
    refine oH ?_ (G₄.ext (x'.trans UL)).o (G₄.ext (x'.trans UL)).m ra rb;have RY:=fI n B (cut ds (L+p) q') λd hd=>hB d (Be hd);rw [uL XF]at RY;exact if_pos ⟨HA _,Ek (H8 (HE (H8 RY (Io (Ig _ (H8 (Iy _ _) XF)) B)) (Ig n (H8 (Iy _ _) RI))) Rl)⟩
   ·refine oH ?_ (G₄.ext x').o (G₄.ext x').m ra rb
    refine congrArg (λi=>H7 (PV.int i)) ?_;rw [w8,gM,uL RI,M3]
end
def dgO:List HJ:=["digits","n","inner"]
inductive uc (gl:HJ->Option aO) (ns:ay):Lx->List IR->Mv->Jq->List IR->Prop
 |mk (Qg:Lx) (Qy:List IR) (Rs:Mv) (Rw:Jq) (t e1 e2 e3:Expr) (p1 p2 p3 p4:Jq)
  (h1:sT gl dgO 20 ns t=H7 (.var 0)) (h2:sL gl dgO 20 ns [e1,e2]=H7 [.cI 0,.bi .len [.var 0]]) (h3:sE gl dgO 20 ns e3=H7 (.cI 0)):
  uc gl ns Qg Qy Rs Rw [.FunctionDef "inner" Qg Qy [] H9 [] Rs H9 "inner" Rw,.Return (H7 (.IfExp t (.Call (.Name "inner" p1) [e1,e2] [] p2) e3 p3)) p4]
theorem vA (h:xs.length<2^62):ff (.list xs)=H7 (!xs.isEmpty):=if_pos h
theorem dk (h:xs.length<2^62):pbi .len [.list xs]=H7 (.int xs.length):=if_pos h
variable {Qy:List IR} {Qg:Lx} {Rs:Mv} {Rw:Jq}
section
variable {body:List IR}
theorem zj (GO:ai C Γ) (D:bW C f o fd body ["digits","n"] dgO) (F:uc C.gl fd.scope.names Qg Qy Rs Rw body)
  (Ut:Qg.defaults=[]) (S_:Qg.kw_defaults=[]) (ha: ∀Q5,annTrees Qg H9 Q5=[])
  (Rp:gw fd.scope.names Rs=Hd) (RJ:Rs.names.lookup ("inner" :HJ)=H7 .free) (Vf: ∀x,Rs.names.lookup x=H7 .free->x∈(["digits","n","inner"]:List HJ)) (RC:fd.scope.names.lookup ("inner" :HJ)=H7 .cell)
  (hX: ∀L,iW C (JR fd L f) Rw (N5 (JR fd L f) "inner" "inner"))
  (W_: ∀Qx Qh pm Q_ c' qual,gz (kR "inner" qual Qg Qy Rs Qx Qh pm Q_ c') Qy ["L","R"] dgN)
  (XM:lr Rs.names Qy) (QN: ∀x,Rs.names.lookup x=H7 .local->x∈(["L","R","mid","shift"]:List HJ))
 (hB: ∀d∈ds,Hc d<=B) (Q7:2*ds.length<=2^C.d) (QZ:ds.length<2^60) (hn:n<2^62) (Rl:B+(n+2)*ds.length+n*ds.length<=2^27):
  aj C.prog C.w C.H (C.d+1) f [.list (ds.map .int),.int n] (.int (hsum n ds)):=by
 intro A s ok vs hA hH ho Ro q;haveI hρ:aW (Hy dgO.length H9) ((["digits","n"]:List HJ).map dgO.idxOf) [.list (ds.map .int),.int n]=H7 [H7 (.list (ds.map .int)),H7 (.int n),H9]:=by
  haveI:(["digits","n"]:List HJ).map dgO.idxOf=[0,1]:=by decide
  rw [this];rfl
 refine jL D GO.sy hρ hA hH ho q λs₁ F₁=> ?_;obtain⟨t,e1,e2,e3,p1,p2,p3,p4,h1,h2,h3⟩:=F;have S:=cP (Q4:=dgO) GO 20;haveI Vd:dgO.idxOf ("inner" :HJ)=2:=by decide
 refine Ih ((qP (hX _) F₁ (by simp [a_,RC];decide) (by decide) (by simp) Ut S_ (ha _) (j7 F₁.e Rp) (ux F₁.e Rp RJ)).mono λfl s₂ hP=> ?_)
 obtain⟨rfl,f',c',Q_,Qh,pm,F₂,T₂,V,_,Ur,Uu,_⟩:=hP;rw [Vd]at F₂;have F₂:FSt C dgO _ _ _ s ok _ _ [] [H7 (.list (ds.map .int)),H7 (.int n),H9] s₂:=F₂;obtain⟨X,I⟩:=qR (RF:=dgN) (ρ₀:=dg0 ds n) F₂ Rp V RJ Ur Uu (λx pv hx hp=>by
  have:=Vf x hx;simp only [Hp,IU,or_false]at this;rcases this with rfl|rfl|rfl
  ·have e1:dgN.idxOf ("digits" :HJ)=0:=by decide
   have e2:dgO.idxOf ("digits" :HJ)=0:=by decide
   rw [e1]at hp;rw [e2];exact hp
  ·have e1:dgN.idxOf ("n" :HJ)=1:=by decide
   haveI e2:dgO.idxOf ("n" :HJ)=1:=by decide
   rw [e1]at hp;rw [e2];exact hp
  ·haveI e1:dgN.idxOf ("inner" :HJ)=6:=by decide
   rw [e1]at hp;cases hp)
 refine Ih ?_;rw [LN];refine WP.at (WP.then (Q₁:=λv s'=>Ext s₂ s'/\ ∃t,v= .int (hsum n ds) t) ?_ λv s₃ ⟨x,t,hv⟩=>Hi ⟨F₂.x.trans x,t,hv⟩);have G:=F₂.good0;refine wpAny_IfExp ((S.t _ _ _ h1 _ _ _ _ s₂ (.list (ds.map .int)) (!(ds.map PV.int).isEmpty) G rfl (vA (by rw [Hf];exact Ha QZ (by decide)))).mono λb' s₃ ⟨e,x₃⟩=> ?_)
 subst e;cases ds with
 |nil=>exact((S.e _ _ _ h3) _ _ _ _ s₃ (.int 0) (G.ext x₃) rfl).mono λv s₄ ⟨x₄,r₄⟩=>⟨x₃.trans x₄,r₄⟩
 |cons d ds=>
  have X₃:=X.ext x₃;haveI V₃:=V.keep x₃.keep;obtain⟨ob,SZ,Vh⟩:=X₃.fo;refine f_ F₂.e (by decide) V₃ SZ Vh (S.l _ _ _ h2 _ _ _ _ s₃ [.int 0,.int ((d::ds).length:Nat)] (G.ext x₃) (by
   haveI:pbi .len [.list ((d::ds).map .int)]=H7 (.int ((d::ds).length:Nat)):=by rw [dk (by rw [Hf];exact Ha QZ (by decide)),Hf]
   show(do let v<-H7 (PV.int 0);let vs<-(do let v<-pbi .len [.list ((d::ds).map .int)];let vs<-H7 [];H7 (v::vs));H7 (v::vs))=_
   rw [this];rfl)) λus s₄ x₄ q₄=> ?_
  refine(w7 (C:=C) (W_ _ _ _ _ _ _) I D.lim GO.sy XM RJ QN hB QZ hn Rl C.d _ s₄ 0 (d::ds).length (d::ds).length us (X₃.ext x₄) F₂.a (LY _) (IJ _) (Hm _) Q7 q₄).mono λv s₅ ⟨x₅,t,hv⟩=>⟨(x₃.trans x₄).trans x₅,t, ?_⟩;rw [hv];rw [cut,KM,List.take_length]
end
def digs (n:Nat):Nat->Nat->List Int
 |0,_=>[]
 |m+1,x=>((x % 2^n:Nat):Int)::digs n m (x/2^n)
variable {m:Nat}
theorem lk {x:Nat}:digs n (m+1) x=((x % 2^n:Nat):Int)::digs n m (x/2^n):=rfl
theorem eO (n:Nat): ∀m x,(digs n m x).length=m
 |0,_=>rfl
 |m+1,x=>by rw [lk,Hv,eO n m]
theorem lZ (n:Nat): ∀a b x,digs n (a+b) x=digs n a (x % 2^(n*a))++digs n b (x/2^(n*a))
 |0,b,x=>by rw [IJ,Nat.mul_zero,P3,Nat.div_one];rfl
 |a+1,b,x=>by
  haveI e1:a+1+b=(a+b)+1:=by exact HS _ _ _
  rw [e1,lk,lk,lZ n a b,J5,K7,Kn];haveI h1:x % (2^(n*a)*2^n) % 2^n=x % 2^n:=Nat.mod_mul_left_mod x _ _;haveI h2:x % (2^(n*a)*2^n)/2^n=x/2^n % 2^(n*a):=by rw [ID,Nat.mod_mul_right_div_self]
  haveI h3:x/2^n/2^(n*a)=x/(2^(n*a)*2^n):=by rw [P4,ID]
  rw [h1,h2,h3]
theorem ze (n x:Nat) (h:x<2^n):digs n 1 x=[(x:Int)]:=by rw [lk,Nat.mod_eq_of_lt h];rfl
theorem ny (n:Nat): ∀m x,∀d∈digs n m x,Hc d<=n/\0<=d
 |0,_,d,h=>by cases h
 |m+1,x,d,h=>by
  rcases Hp.mp h with rfl|h
  ·exact⟨dK _ _ (Kq _ (Ib n)),by exact HA _⟩
  ·exact ny n m _ d h
theorem np (n:Nat): ∀m x,x<2^(n*m)->hsum n (digs n m x)=(x:Int)
 |0,x,h=>by simp at h;subst h;rfl
 |m+1,x,h=>by
  rw [lk,hsum,np n m]
  ·have:=Nat.mod_add_div x (2^n)
   rw [show(2:Int)^n=((2^n:Nat):Int)by simp]
   rw [<-K6,<-Jr,ID (x/2^n),this]
  ·rw [K7,Kn]at h
   exact N7 (by rw [ID];exact h)
theorem zu (x s:Nat):x&&&(x/2^s*2^s)=x/2^s*2^s:=by
 apply Pr;intro i;rw [Nat.testBit_and,ON];by_cases h:s<=i
 ·rw [Nat.testBit_div_two_pow]
  haveI:s+(i-s)=i:=by exact I9 h
  haveI h2:i-s+s=i:=by exact Kp h
  simp [h,this,h2]
 ·simp [h]
theorem xF (x s:Nat):NV (x:Int) ((x/2^s*2^s:Nat):Int)=((x % 2^s:Nat):Int):=by
 rw [PyProof.Rows.bitXor_and];haveI e:NW (x:Int) ((x/2^s*2^s:Nat):Int)=((x/2^s*2^s:Nat):Int):=by rw [bitAnd_pp (by exact HA _) (by exact HA _),I3,I3,zu]
 rw [e];have:=Nat.mod_add_div x (2^s);rw [ID]at this;lia
def put (xs:List Int) (L:Nat) (ys:List Int):List Int:=xs.take L++ys++xs.drop (L+ys.length)
variable {ys:List Int}
theorem Ai {xs:List Int} (h:L+ys.length<=xs.length):(put xs L ys).length=xs.length:=by unfold put;rw [Hn,Hn,JP,Jy];exact FV h
theorem Ag {xs zs:List Int} (h:L+ys.length<=xs.length):put (put xs L ys) (L+ys.length) zs=put xs L (ys++zs):=by
 have hl:(xs.take L++ys).length=L+ys.length:=by rw [Hn,JP];exact EE (IN (J8 (Jk (Nat.min_le_left _ _) _))) (KA (Jk (Hu (IW (MW (Ii h)))) _))
 unfold put;rw [LI (by exact Hu (IW hl)),Iq (by exact Hu hl),Hn]
 haveI:((xs.take L++ys)++xs.drop (L+ys.length)).drop (L+ys.length+zs.length)=xs.drop (L+(ys.length+zs.length)):=by
  rw [NK,OO (by exact HN (Hu hl)),Jd,JU]
  congr 1
  exact FU hl
 rw [this,HW (xs.take L)]
theorem Ah {xs:List Int} {x:Int} (h:L<xs.length):put xs L [x]=xs.set L x:=by unfold put;rw [List.set_eq_take_append_cons_drop];simp [h]
structure ji (D:Hw) (s s':Hh):Prop where
 keep: ∀b o,b≠D->vis s.heap b=H7 o->vis s'.heap b=H7 o
 size:s.heap.objs.size<=s'.heap.objs.size
 gens: ∀(i:Nat) (g:M4),s.gens[i]? =H7 g->s'.gens[i]? =H7 g
 os:s'.os=s.os
theorem Ext.toB (x:Ext s s') (D:Hw):ji D s s':=⟨λb o _ e=>x.keep b o e,x.size,x.gens,x.os⟩
theorem ji.trans {D:Hw} {a b c:Hh} (x:ji D a b) (y:ji D b c):ji D a c:=
 ⟨λd o h e=>y.keep d o h (x.keep d o h e),H8 x.size y.size,λi g e=>y.gens i g (x.gens i g e),y.os.trans x.os⟩
theorem ji.hk {D:Hw} {H:IL} (x:ji D s s') (h:HK H s.heap) (hD:vis H D=H9):HK H s'.heap:=
 λb o e=>x.keep b o (λq=>by rw [q,hD]at e;cases e) (h b o e)
theorem iT {D:Hw} (l:IsL h D vs): ∃o n,h.get? D=H7 o/\o.data= .seq vs.toArray n:=l.elim λn e=>⟨_,n,e,rfl⟩
theorem ya {l:Hw} {k:Int} {Q:Unit->Hh->Prop} (L:IsL s.heap l vs) (h0:0<=k) (VK:k<2^63) (hj:k<vs.length)
  (hQ: ∀h',IsL h' l (vs.set k.toNat v)->Iz l s.heap h'->Q () {s with heap:=h'}):WP (Hj prog w) A (setItem (.ref l) (.int k t) v) Q s:=by
 have hT:=L.il.typeIs;obtain⟨n,ho⟩:=id L;unfold setItem;refine I_ ?_;refine He (wpAny_sequenceKey hT (by decide) ?_)
 refine He (M' (name:=HH "__setitem__") hT OA
  (On OA hT PySem.entry_list_setitem ?_ (PySem.args_list_setitem _ _ _)))
 show Im _ _ (Builtin.List.listSubscript? (.int k t)>>=_) _ _ s;refine He (wpAny_listSubscript_int (fitsIndex_of h0 VK) ?_);clear VK;obtain⟨j,rfl⟩:=I' h0;have hj:j<vs.length:=Ks.mp hj;show Im _ _ ((seqItemAt l j>>=λr=>pure (r.map (j,·)))>>=_) _ _ s
 refine He (He (wpAny_seqItemAt ho rfl (Hi ?_)));rw [show vs.toArray[j]? =H7 vs[j]by simp [hj]]
 show Im _ _ (setSeqItemAt l j v>>=_) _ _ s;obtain⟨n',hd⟩:=Obj.data_mapSeq (o:={cls:= .type "list",data:= .seq vs.toArray n}) rfl (·.setIfInBounds j v)
 have e:(Ic (·.setIfInBounds j v) {cls:= .type "list",data:= .seq vs.toArray n}:Oh)={cls:= .type "list",data:= .seq (vs.set j v).toArray n'}:=by
  simp only [Ic,List.setIfInBounds_toArray]at hd ⊢
  rw [hd]
 refine He (wpAny_setSeqItemAt ho rfl ?_);have fin:=hQ _ ⟨n',(IX _ ho (by rw [e];rfl)).trans (congrArg H7 e)⟩ (JB ..)
 first
  |exact He (Hi (Hi ⟨.none,rfl,Hi fin⟩))
  |exact Hi ⟨.none,rfl,Hi fin⟩
section
variable {D:Hw}
theorem dz {D c:Hw} {v:Option Hl} (l:IsL h D vs) (x:h.IsCell c v):c≠D:=by intro q;obtain⟨o,n,e,d⟩:=iT l;obtain⟨o',e',d'⟩:=x;rw [q,e]at e';cases e';rw [d]at d';cases d'
theorem gj.but (x:gj C Q4 Q6 f fd me ρ₀ s) (l:IsL s.heap D vs) (hD:vis C.H D=H9) (hn: ¬Q6 D) (e:ji D s s'):gj C Q4 Q6 f fd me ρ₀ s' where
 h:=e.hk x.h hD
 fo:=by obtain⟨o,h1,h2⟩:=x.fo;exact⟨o,(cz h2).keep (λo'=>e.keep f o' λq=>by obtain⟨o3,n,e3,d3⟩:=iT l;rw [<-q,h1]at e3;cases e3;rw [h2]at d3;cases d3) h1,h2⟩
 code:=by obtain⟨c,o,us,t,e1,g,n,d,r⟩:=x.code;refine⟨c,o,us,t,e1,dt (λo'=>e.keep c o' λq=> ?_) g d n,n,d,r⟩;obtain⟨o3,n3,e3,d3⟩:=iT l;rw [<-q,g]at e3;cases e3;rw [d]at d3;cases d3
 free:=λy hy=>by obtain⟨c,v,h1,h2⟩:=x.free y hy;exact⟨c,v,h1,aN h2 λo=>e.keep c o (dz l h2)⟩
 self:=by obtain⟨c,h1,h2⟩:=x.self;exact⟨c,h1,aN h2 λo=>e.keep c o (dz l h2)⟩
 vals:=λy pv hy hp=>by obtain⟨c,v,h1,h2,h3⟩:=x.vals y pv hy hp;exact⟨c,v,h1,aN h2 λo=>e.keep c o (dz l h2),h3.mono (λ_ h _=>h) λb hb o=>e.keep b o λq=>hn (q▸hb)⟩
 fr:=x.fr.keep e.size
theorem yX (sy:Sys C.H) (G:d5 C Q4 A Q5 ns ρ ok s) (hR: ¬bF Q5 D) (hD:vis C.H D=H9) (hn: ¬ok D) (e:ji D s s'):d5 C Q4 A Q5 ns ρ ok s' where
 a:=G.a
 e:=G.e
 h:=e.hk G.h hD
 r:=G.r.at (λb hb o=>e.keep b o λq=>hR (q▸hb)) (λb hb o=>e.keep b o λq=>hn (q▸hb)) λ_ _ h _=>h
 o:=G.o.keep e.size
 m:=sy.keep (e.hk G.h hD)
 l:=G.l
 v:=λb hb=>by obtain⟨o,h⟩:=G.v b hb;exact⟨o,e.keep b o (λq=>hR (q▸hb)) h⟩
end
def i2N:List HJ:=["n","x","L","R","mid","shift","upper","lower"]
def i2T:PE:= .cmp .Eq (.bin .Add (.var 2) (.cI 1)) (.var 3)
def Es:PS:= .set 4 0 (.bin .RShift (.bin .Add (.var 2) (.var 3)) (.cI 1))
def Er:PS:= .set 5 0 (.bin .Mult (.bin .Sub (.var 4) (.var 2)) (.var 0))
def Ep:PS:= .set 6 0 (.bin .RShift (.var 1) (.var 5))
def Eo:PS:= .set 7 0 (.bin .BitXor (.var 1) (.bin .LShift (.var 6) (.var 5)))
inductive lq (ns:ay):List IR->Prop
 |mk (st2 st3 st4 Wx:IR) (t eL ex e1 e2 e3 e4 e5 e6:Expr) (q1 q2 q3 q4 q5 p1 p2 p3 p4 p5 p6:Jq)
  (ht:sT g0 i2N 20 ns t=H7 i2T) (h2:sS g0 i2N h0 ns 20 st2=Es) (h3:sS g0 i2N h0 ns 20 st3=Er) (h4:sS g0 i2N h0 ns 20 st4=Ep) (h5:sS g0 i2N h0 ns 20 Wx=Eo)
  (hL:sE g0 i2N 20 ns eL=H7 (.var 2)) (hx:sE g0 i2N 20 ns ex=H7 (.var 1)) (hc:fQ ex=Hb)
  (a1:sL g0 i2N 20 ns [e1,e2,e3]=H7 [.var 7,.var 2,.var 4]) (a2:sL g0 i2N 20 ns [e4,e5,e6]=H7 [.var 6,.var 4,.var 3]):
  lq ns [.If t [.Assign [.Subscript (.Name "a_digits" q1) eL q2] ex q3,.Return H9 q4] [] q5,st2,st3,st4,Wx,.Expr (.Call (.Name "inner" p1) [e1,e2,e3] [] p2) p3,.Expr (.Call (.Name "inner" p4) [e4,e5,e6] [] p5) p6]
def i20 (n:Nat):Ρ:=[H7 (.int n),H9,H9,H9,H9,H9,H9,H9]
def i2R (n x L R:Nat) (a b c d:Option PV):Ρ:=[H7 (.int n),H7 (.int x),H7 (.int L),H7 (.int R),a,b,c,d]
def fA (xs:List Int) (vs:List Hl):Prop:=vs.length=xs.length/\ ∀(i:Nat) x,xs[i]? =H7 x-> ∃t,vs[i]? =H7 (.int x t)
set_option tactic.hygienic true in
theorem fA.set {xs:List Int} (h:fA xs vs) (i:Nat) (x:Int) (t:NX):fA (xs.set i x) (vs.set i (.int x t)):=by
 refine⟨by rw [Kw,Kw];exact h.1,λj y hy=> ?_⟩
 rw [List.getElem?_set]at hy ⊢
 by_cases hij:i=j
 ·subst hij
  rw [if_pos rfl]at hy ⊢
  split at hy
  ·rename_i hl
   cases hy;exact⟨t,by rw [if_pos (by rw [h.1];exact hl)]⟩
  ·cases hy
 ·rw [if_neg hij]at hy ⊢
  exact h.2 j y hy
theorem fA.repL {xs:List Int} (x:fA xs vs):av prog w ok h (xs.map .int) vs:=by
 refine kG (by rw [Hf];exact x.1.symm) λi y v hy hv=> ?_
 rw [HQ]at hy;obtain⟨z,hz,rfl⟩:=HG.mp hy;obtain⟨t,ht⟩:=x.2 i z hz;rw [hv]at ht;exact⟨t,Hg ht⟩
theorem vu {xs:List Int} (q:av prog w ok h (xs.map .int) vs):fA xs vs:=by
 refine⟨by rw [q.length,Hf],λi x hx=> ?_⟩
 obtain⟨v,hv,r⟩:=q.get (i:=i) (x:= .int x) (by rw [HQ,hx];rfl)
 obtain⟨t,rfl⟩:=r;exact⟨t,hv⟩
theorem Fo {x:Nat}:az Γ0 Es (i2R n x L R H9 H9 H9 H9) []=H7 (.next (i2R n x L R (H7 (.int ((L+R)/2:Nat))) H9 H9 H9) []):=au (congrArg (λi=>H7 (PV.int i)) (BP (L+R)))
theorem Fn {x p:Nat} (hn:n<2^62):az Γ0 Er (i2R n x L R (H7 (.int (L+p:Nat))) H9 H9 H9) []=H7 (.next (i2R n x L R (H7 (.int (L+p:Nat))) (H7 (.int (n*p:Nat))) H9 H9) []):=au (n8 hn)
theorem BO (x s:Nat):Int.fdiv (x:Int) (2^(s:Int).toNat)=((x/2^s:Nat):Int):=by
 rw [I3,IK _ (by exact JN (Int.pow_pos (by decide)))]
 simp
theorem Fm {x M S:Nat}:az Γ0 Ep (i2R n x L R (H7 (.int M)) (H7 (.int S)) H9 H9) []=H7 (.next (i2R n x L R (H7 (.int M)) (H7 (.int S)) (H7 (.int (x/2^S:Nat))) H9) []):=by exact au ((if_pos (e:=H9) (HA S)).trans (congrArg (λi=>H7 (PV.int i)) (BO x S)))
theorem Fl {x M S:Nat} (hx:x<2^B) (hb:B+S<=2^27):az Γ0 Eo (i2R n x L R (H7 (.int M)) (H7 (.int S)) (H7 (.int (x/2^S:Nat))) H9) []=H7 (.next (i2R n x L R (H7 (.int M)) (H7 (.int S)) (H7 (.int (x/2^S:Nat))) (H7 (.int (x % 2^S:Nat)))) []):=by refine au (v:= .int (x % 2^S:Nat)) ?_;show((bB (0<=(S:Int)/\(Hc ((x/2^S:Nat):Int):Int)+(S:Int)<=2^27) (((x/2^S:Nat):Int)*2^(S:Int).toNat)).bind λb=>H7 (PV.bool Hd)|>.bind λ_=>eg .BitXor (.int x) b)=_;haveI h1:Hc ((x/2^S:Nat):Int)<=B:=dK _ _ (Hk (Nat.div_le_self _ _) hx);rw [bB,if_pos ⟨HA S,Ek (H8 (Jk h1 S) hb)⟩,I3];show H7 (PV.int (NV (x:Int) (((x/2^S:Nat):Int)*2^S)))=_;rw [show((x/2^S:Nat):Int)*2^S=((x/2^S*2^S:Nat):Int)by simp,xF]
section
theorem nv {Q:Hh->Prop} (hk:Q5.scope.kind= .function) (hc:fQ e=Hb) (h:WP (Hj C.prog C.w) A (IY e Q5) (λv s'=>v= .none/\Q s') s):
  WP (Hj C.prog C.w) A (LO (.Expr e pos) Q5) (λfl s'=>fl= .next/\Q s') s:=by
 haveI hi:LX Q5=Hb:=by unfold LX;rw [hk];rfl
 rw [exec_Expr Q5 e pos hi (bo hc)];refine WP.at (WP.then h λv s' ⟨hv,hq⟩=> ?_);subst hv;rw [dropValue_plain (λa q=>by cases q)]
 exact Hi ⟨rfl,hq⟩
end
section
variable {D:Hw} {body:List IR}
theorem vY (D0:gz fd body ["x","L","R"] i2N) (I:zK fd) (lim:C.H.NoLimit) (sy:Sys C.H) (F:lq fd.scope.names body) (RJ:fd.scope.names.lookup ("inner" :HJ)=H7 .free) (WY:fd.scope.names.lookup ("a_digits" :HJ)=H7 .free)
  (QN: ∀x,fd.scope.names.lookup x=H7 .local->x∈(["x","L","R","mid","shift","upper","lower"]:List HJ)) {len:Nat} (Xe:vis C.H D=H9) (hDo: ¬Q6 D) (Q7:len<2^60) (hn:n<2^62) (Rl:n*len+n*len<=2^27):
  ∀k A s L w R (x:Nat) us vs xs,gj C i2N Q6 f fd "inner" (i20 n) s->(∃c,fd.closure.lookup ("a_digits" :HJ)=H7 c/\s.heap.IsCell c (H7 (.ref D)))->AOk k A->0<w->L+w=R->R<=xs.length->xs.length<=len->2*w<=2^k->x<2^(n*w)->
   IsL s.heap D vs->fA xs vs->av C.prog C.w Q6 s.heap [.int (x:Nat),.int (L:Nat),.int (R:Nat)] us->
   WP (Hj C.prog C.w) A (KG (.ref f) us) (λv s'=>v= .none/\ji D s s'/\ ∃Qw,IsL s'.heap D Qw/\fA (put xs L (digs n w x)) Qw) s:=by
 have UX: ∀y,fd.scope.names.lookup y=H7 .local->(i20 n).get (i2N.idxOf y)=H9:=λy hy=>
  (I5.mpr ⟨rfl,I5.mpr ⟨rfl,I5.mpr ⟨rfl,I5.mpr ⟨rfl,I5.mpr ⟨rfl,nT rfl rfl⟩⟩⟩⟩⟩: ∀i∈[1,2,3,4,5,6,7],(i20 n).get i=H9) _
   ((by decide: ∀x∈(["x","L","R","mid","shift","upper","lower"]:List HJ),i2N.idxOf x∈[1,2,3,4,5,6,7]) y (QN y hy))
 have Xv:(["x","L","R"]:List HJ).map i2N.idxOf=[1,2,3]:=by decide
 obtain⟨st2,st3,st4,Wx,t,eL,ex,e1,e2,e3,e4,e5,e6,q1,q2,q3,q4,q5,p1,p2,p3,p4,p5,p6,ht,g2,g3,g4,g5,hL,hX,hc,a1,a2⟩:=F;intro k;induction k with
 |zero=>exact λA s L w R x us vs xs _ _ _ h1 _ _ _ h3 _ _ _ _=>absurd (H8 (Ig 2 h1) h3) (by decide)
 |succ k ih=>
  intro A s L w R x us vs xs X ⟨c,X4,QK⟩ hA h1 hR h2 hl h3 hx l iv q;subst hR;have hρ:aW (i20 n) ((["x","L","R"]:List HJ).map i2N.idxOf) [.int (x:Nat),.int (L:Nat),.int (L+w:Nat)]=H7 (i2R n x L (L+w) H9 H9 H9 H9):=by rw [Xv];rfl
  refine l_ (C:=C.mute k) D0 I hA lim sy (X.depth k) RJ hρ (Hm 8) q UX λs₁ F₁ V₁=>WP.gen λK hK=> ?_;have GO:=BK (C:=C) sy k;have S:=cP (Q4:=i2N) GO 20;have SS:=(d9 (Q4:=i2N) GO h0 fd.scope.names 20).1
  --the test
  refine Ih ?_;show WP _ _ (do
   Ji q5
   if<-isTrue t _ (IY t _)then JK _ _ else JK [] _) _ s₁
  refine WP.at (WP.then (F₁.goodT (S.t _ _ _ ht) (congrArg H7 Cb)) λb s₂ ⟨hb,xt₂⟩=> ?_);subst hb;have F₂:=F₁.ext xt₂;by_cases hone:w=1
  ·rw [decide_eq_true hone,if_pos rfl]
   subst hone;refine Ih ?_;rw [exec_Assign_Subscript _ _ _ _ _ (bo hc)];refine WP.at (WP.then ((S.e _ _ _ hX) _ _ _ _ s₂ (.int x) F₂.good0 rfl) λv s₃ ⟨Tc,t3,hv⟩=> ?_);subst hv;rw [assign_Subscript];have V:aY s₃.heap (JW fd s.heap.objs.size f) "a_digits" (.ref D):= .cel c (.inr WY) X4 (aN (aN QK λo=>F₂.x.keep _ o) λo=>Tc.keep _ o);refine WP.bind (WP.bind (WP.hold (jo (C:=C.mute k) F₁.e (by decide) V ?_)))
   refine WP.then (WP.hold ((S.e _ _ _ hL) _ _ _ _ s₃ (.int L) (F₂.good0.ext Tc) rfl)) λiv' s₄ ⟨VT,t4,hv4⟩=>WP.at ?_;subst hv4;have x14:=(F₂.x.trans Tc).trans VT;have l₄:IsL s₄.heap D vs:=l.mono λo e=>x14.keep _ _ e;refine WP.bind (WP.hold (ya l₄ (HA L) (Ei (J6 (Ha h2 hl) (J6 Q7 (by decide)))).2 (Ks.mpr (iv.1▸h2:L<vs.length)) λh' l' QV=> ?_))
   refine WP.rel (Hi ?_);refine Ih ?_;rw [exec_Return_none];refine WP.at (Hi (hK _ _ ⟨rfl,(x14.toB D).trans ⟨λb o hb e=>ax QV (jG l₄) hb e,Hu QV.1.symm,λ_ _ e=>e,rfl⟩,vs.set L (.int x t3),l', ?_⟩))
   ·rw [ze n x (Pp n▸hx),Ah h2]
    exact iv.set L x t3
  ·rw [decide_eq_false hone]
   refine Hi ?_;obtain⟨p,q',rfl,hp,hq,eM,k1,k2⟩:=n9 (L:=L) h1 hone h3;have XH:L+p<=xs.length:=H8 (Io (HD p q') L) h2;have hbb:n*(p+q')+n*p<=2^27:=H8 (HE (Ig n (H8 (H8 (Iy _ L) h2) hl)) (Ig n (H8 (H8 (Iy _ L) XH) hl))) Rl;refine fS (SS st2) F₂ (g2.symm▸eM▸Fo) λok3 s₃ F₃=>fS (SS st3) F₃ (g3.symm▸Fn hn) λUP s₄ F₄=>fS (SS st4) F₄ (g4.symm▸Fm) λok5 s₅ F₅=>fS (SS Wx) F₅ (g5.symm▸Fl hx hbb) λXq s₆ F₆=> ?_;have X₆:=X.ext F₆.x;have Sl:=aN QK λo=>F₆.x.keep _ o;have l₆:IsL s₆.heap D vs:=l.mono λo e=>F₆.x.keep _ _ e;have go: ∀{es:List Expr} {pp pq pr:Jq} {s₆:Hh} {y L' w' R':Nat} {Wv:List Int} {Qw:List Hl},bU (C.mute k) (A.deeper (JW fd s.heap.objs.size f)) (JW fd s.heap.objs.size f) Xq es [.int (y:Nat),.int (L':Nat),.int (R':Nat)] s₆->
     gj C i2N Q6 f fd "inner" (i20 n) s₆->s₆.heap.IsCell c (H7 (.ref D))->IsL s₆.heap D Qw->fA Wv Qw->0<w'->L'+w'=R'->R'<=Wv.length->Wv.length<=len->2*w'<=2^k->y<2^(n*w')->
     WP (Hj C.prog C.w) (A.deeper (JW fd s.heap.objs.size f)) (LO (.Expr (.Call (.Name "inner" pp) es [] pq) pr) (JW fd s.heap.objs.size f))
      (λfl s'=>fl= .next/\ji D s₆ s'/\ ∃Vr,IsL s'.heap D Vr/\fA (put Wv L' (digs n w' y)) Vr) s₆:=λea X₆ cel l₆ iv hw hR V9 hl h2 hy=>by
    obtain⟨cm,m1,m2⟩:=X₆.self;obtain⟨ob,SZ,Vh⟩:=X₆.fo;exact nv (C:=C.mute k) F₁.e.kind rfl (f_ (C:=C.mute k) F₁.e (by decide) (.cel cm (.inr RJ) m1 m2) SZ Vh ea λXj s₇ Sq q₇=>
     (ih _ s₇ _ _ _ _ Xj _ _ (X₆.ext Sq) ⟨c,X4,aN cel λo=>Sq.keep _ o⟩ F₁.a hw hR V9 hl h2 hy (l₆.mono λo e=>Sq.keep _ _ e) iv (q₇.mono (λb hb _=>F₆.sub b hb) λ_ _ _ e=>e)).mono λv s₈ ⟨h1,h2,h3⟩=>⟨h1,(Sq.toB D).trans h2,h3⟩)
   have hR6: ¬bF (JW fd s.heap.objs.size f) D:=by
    intro h;rcases h with h|⟨y,hy,h⟩
    ·obtain⟨o,m,e,_⟩:=iT l
     exact IB (II e) h
    ·have hyf:fd.scope.names.lookup y=H7 .free:=by
      have SP:bv (fd.scope.names.lookup y)=Hd:=hy;cases QO:fd.scope.names.lookup y with
      |none=>rw [QO]at SP;cases SP
      |some kk=>
       rw [QO]at SP;cases kk<;>first|rfl|(exact absurd SP (by decide))|(exact absurd rfl (D0.cell _ (mem_of_lookup QO)))
     obtain⟨c',v',Y6,h2'⟩:=X₆.free y hyf;exact dz l₆ h2' (Hg (Y6.symm.trans h))
   refine Ih ((go (S.l _ _ _ a1 _ _ _ Xq s₆ _ F₆.good0 rfl) X₆ Sl l₆ iv hp rfl XH hl k1 (Kq _ (Ib _))).mono λfl s₇ hP=> ?_);obtain⟨rfl,B₇,vs₇,l₇,VW⟩:=hP;have WI:L+(digs n p (x % 2^(n*p))).length<=xs.length:=(eO n p _).symm▸XH;have RI:=Ai WI;refine Ih ((go (S.l _ _ _ a2 _ _ _ Xq s₇ _ (yX (C:=C.mute k) sy F₆.good0 hR6 Xe (λh=>hDo (F₆.sub _ h)) B₇) rfl) (X₆.but l₆ Xe hDo B₇) (aN Sl λo=>B₇.keep c o (dz l₆ Sl)) l₇ VW hq (I7 L p q')
    (RI.symm▸h2) (RI.symm▸hl) k2 (N7 (by rw [<-Kn,<-Nat.mul_add];exact hx))).mono λfl s₈ hP=> ?_)
   obtain⟨rfl,B₈,VU,l₈,VV⟩:=hP;refine Hi (hK _ _ ⟨rfl,(F₆.x.toB D).trans (B₇.trans B₈),VU,l₈, ?_⟩);have e1:=Ag (zs:=digs n q' (x/2^(n*p))) WI;rw [eO,<-lZ]at e1;exact e1▸VV
end
def i2O:List HJ:=["a","n","a_digits","inner"]
inductive u9 (gl:HJ->Option aO) (ns:ay):Lx->List IR->Mv->Jq->List IR->Prop
 |mk (Qg:Lx) (Qy:List IR) (Rs:Mv) (Rw:Jq) (e0 eK t e1 e2 e3:Expr) (p0 lp bp ap p1 p2 p3 p4 r1 r2:Jq)
  (h0:sL gl i2O 20 ns [e0]=H7 [.cI 0]) (hK:sE gl i2O 20 ns eK=H7 (.bin .FloorDiv (.bin .Sub (.bin .Add (.meth .bitlen (.var 0) []) (.var 1)) (.cI 1)) (.var 1)))
  (ht:sT gl i2O 20 ns t=H7 (.var 0)) (ha:sL gl i2O 20 ns [e1,e2,e3]=H7 [.var 0,.cI 0,.bi .len [.var 2]]):
  u9 gl ns Qg Qy Rs Rw [.Assign [.Name "a_digits" p0] (.BinOp (.List [e0] lp) .Mult eK bp) ap,.FunctionDef "inner" Qg Qy [] H9 [] Rs H9 "inner" Rw,
   .If t [.Expr (.Call (.Name "inner" p1) [e1,e2,e3] [] p2) p3] [] p4,.Return (H7 (.Name "a_digits" r1)) r2]
theorem gj.shrink (x:gj C Q4 Q6 f fd me ρ₀ s) (fr:bS ok s.heap) (h: ∀i pv,ρ₀.get i=H7 pv-> ∃z,pv= .int z):gj C Q4 ok f fd me ρ₀ s:=
 ⟨x.h,x.fo,x.code,x.free,x.self,λy pv hy hp=>by obtain⟨c,v,h1,h2,h3⟩:=x.vals y pv hy hp;exact by obtain⟨z,hz⟩:=h _ _ hp;exact⟨c,v,h1,h2,by subst hz;exact h3⟩,fr⟩
theorem vw {a b c:Int} {us:List Hl} (q:av prog w ok h [.int a,.int b,.int c] us):av prog w ok' h' [.int a,.int b,.int c] us:=q
def kOf (a n:Nat):Nat:=(Hc (a:Int)+n-1)/n
theorem sf (hn:0<n):a<2^(n*kOf a n):=by
 haveI h1:a<2^Hc (a:Int):=by have:=(Ia (x:=(a:Int))).mp (Hm _);simpa using this
 refine Ha h1 (J4 (by decide) ?_)
 unfold kOf;haveI h2:=L9 (Hc (a:Int)+n-1) n;haveI h3:=Kq (Hc (a:Int)+n-1) hn;exact H3 hn h2 h3
theorem qm: ∀K:Nat,bh [PV.int 0] K=(Hy K (0:Int)).map PV.int
 |0=>rfl
 |K+1=>by rw [my,qm K];rfl
section
theorem FSt.fill (F:FSt C Q4 A Q5 ns s₀ Q6 W ok om ρ s) (hm:x∈Q4) (V:aY s.heap Q5 x v) (r:Rep C.prog C.w ok s.heap pv v) (ho:Q4.idxOf x∉om.map (·.1)):FSt C Q4 A Q5 ns s₀ Q6 W ok om (ρ.set (Q4.idxOf x) (H7 pv)) s:=
 {F with
  r:=(F.r.set hm V (λ_ _ _ V=>V) (λ_ _ _ e=>e) r).less λi v hv=>by
   obtain⟨h1,h2⟩:=cY hv;by_cases e:i=Q4.idxOf x
   ·subst e
    have h3:=h2;unfold Ρ.get at h3 ⊢
    rw [Ki]at h3 ⊢
    haveI Q7:(aw ρ (om.map (·.1))).length=ρ.length:=fE
    cases h4:ρ[Q4.idxOf x]? with
    |none=>rw [h4]at h3;cases h3
    |some q=>
     rw [h4]at h3;haveI Qp:Q4.idxOf x<ρ.length:=by
      rcases Kr (Q4.idxOf x) ρ.length with g|g
      ·exact g
      ·rw [Ky g]at h4;cases h4
     rw [HB (by rw [Q7];exact Qp)]
     exact h3
   ·rw [aD e]at h2 ⊢
    rw [bM h1];exact h2
  l:=by rw [Kw];exact F.l
  ow:=λp hp=>by
   obtain⟨y,R_,h1,h2,h3,h4⟩:=F.ow p hp;refine⟨y,R_,h1,h2, ?_,h4⟩;haveI QJ:p.1≠Q4.idxOf x:=λq=>ho (by rw [<-q];exact HT (f:=(·.1)) hp)
   rw [aD QJ];exact h3}
end
section
variable {body:List IR}
theorem Gy (UV:0<n) (hn:n<2^30):pev Γ (.bin .FloorDiv (.bin .Sub (.bin .Add (.meth .bitlen (.var 0) []) (.var 1)) (.cI 1)) (.var 1)) [H7 (.int a),H7 (.int n),H9,H9]=H7 (.int (kOf a n:Nat)):=by
 show bB ((n:Int)≠0/\J9 (((Hc (a:Int):Nat):Int)+(n:Int)-1) (n:Int)=Hb) ((((Hc (a:Int):Nat):Int)+(n:Int)-1).fdiv (n:Int))=_;unfold bB;rw [if_pos ⟨by lia,PyProof.noPylong_small (by simpa using hn)⟩]
 rw [show((Hc (a:Int):Nat):Int)+(n:Int)-1=((Hc (a:Int)+n-1:Nat):Int)from aCs UV,IK _ (by exact HA _),<-Int.natCast_ediv]
 rfl
theorem yU (GO:ai C Γ) (D:bW C f o fd body ["a","n"] i2O) (F:u9 C.gl fd.scope.names Qg Qy Rs Rw body)
  (Ut:Qg.defaults=[]) (S_:Qg.kw_defaults=[]) (ha: ∀Q5,annTrees Qg H9 Q5=[])
  (Rp:gw fd.scope.names Rs=Hd) (RJ:Rs.names.lookup ("inner" :HJ)=H7 .free) (WY:Rs.names.lookup ("a_digits" :HJ)=H7 .free) (Vf: ∀x,Rs.names.lookup x=H7 .free->x∈(["a_digits","n","inner"]:List HJ))
  (RC:fd.scope.names.lookup ("inner" :HJ)=H7 .cell) (XW:fd.scope.names.lookup ("a_digits" :HJ)=H7 .cell)
  (hX: ∀L,iW C (JR fd L f) Rw (N5 (JR fd L f) "inner" "inner"))
  (W_: ∀Qx Qh pm Q_ c' qual,gz (kR "inner" qual Qg Qy Rs Qx Qh pm Q_ c') Qy ["x","L","R"] i2N)
  (XM:lq Rs.names Qy) (QN: ∀x,Rs.names.lookup x=H7 .local->x∈(["x","L","R","mid","shift","upper","lower"]:List HJ))
 (UV:0<n) (hn:n<2^30) (Q7:2*kOf a n<=2^C.d) (QZ:kOf a n<=1000000) (Rl:n*kOf a n+n*kOf a n<=2^27):
  aj C.prog C.w C.H (C.d+1) f [.int a,.int n] (.list ((digs n (kOf a n) a).map .int)):=by
 intro A s ok vs hA hH ho Ro q;haveI hρ:aW (Hy i2O.length H9) ((["a","n"]:List HJ).map i2O.idxOf) [.int a,.int n]=H7 [H7 (.int a),H7 (.int n),H9,H9]:=by
  haveI:(["a","n"]:List HJ).map i2O.idxOf=[0,1]:=by decide
  rw [this];rfl
 refine jL D GO.sy hρ hA hH ho q λs₁ F₁=>WP.gen λZ hZ=> ?_;obtain⟨e0,eK,t,e1,e2,e3,p0,lp,bp,ap,p1,p2,p3,p4,r1,r2,h0,hK,ht,Qm⟩:=F;have S:=cP (Q4:=i2O) GO 20;haveI hi3:i2O.idxOf ("inner" :HJ)=3:=by decide
 haveI Vd:i2O.idxOf ("a_digits" :HJ)=2:=by decide
 generalize hKd:kOf a n=K at*
 --a_digits=[0]*k
 refine Ih ?_;show WP _ _ (do
  Ji ap
  if<-LU [.Name "a_digits" p0] (.BinOp (.List [e0] lp) .Mult eK bp) ap.line _ then do
   MK (.BinOp (.List [e0] lp) .Mult eK bp) _ λv=>Py v ((Jm [.Name "a_digits" p0] _).map (·.2))
   pure .next
  else do
   let v<-IY (.BinOp (.List [e0] lp) .Mult eK bp) _
   Mh _ v (<-JD [.Name "a_digits" p0] (.BinOp (.List [e0] lp) .Mult eK bp) _) ((Jm [.Name "a_digits" p0] _).map (·.2))) _ s₁
 refine WP.at ?_;refine He (Jx (a:=Hb) (rJ.trans (bo rfl)) ?_);simp only [Ie,if_false];refine WP.then (Q₁:=λv s'=>Ext s₁ s'/\ ∃D vs,v= .ref D/\s₁.heap.objs.size<=D/\D<s'.heap.objs.size/\IsL s'.heap D vs/\fA (Hy K 0) vs) ?_ λv s₂ ⟨x₂,D',vs0,hv,hD1,hD2,l₂,iv₂⟩=> ?_
 ·refine wpAny_BinOp ((kL (S.l _ _ _ h0 _ _ _ _ s₁ [.int 0] F₁.good0 rfl) (by decide) F₁.sys).mono λv s₂ ⟨x₂,a0,vs0,hv,ha0,l0,q0,hs0⟩=> ?_)
  subst hv;refine((S.e _ _ _ hK) _ _ _ _ s₂ (.int (K:Nat)) (F₁.ext x₂).good0 (by have h:=Gy (Γ:=Γ) (a:=a) UV hn;rw [hKd]at h;exact h)).mono λv s₃ ⟨x₃,t3,hv3⟩=> ?_
  subst hv3;haveI l3:IsL s₃.heap a0 vs0:=IsL.mono l0 λo e=>x₃.keep _ _ e;refine qK l3 (by exact HA _) (by rw [q0.length];decide) (by lia) ?_
  haveI Ux:s₁.heap.objs.size<=s₃.heap.objs.size:=H8 x₂.size x₃.size;refine⟨(x₂.trans x₃).trans (Ext.pushed _ _ _),_,bh vs0 ((K:Nat):Int).toNat,rfl,Ux,uz _ _,⟨_,HL _ rfl⟩, ?_⟩;have:=q0.rep K;rw [qm]at this;rw [I3];exact vu this
 subst hv;rw [cR];refine He (Hi ?_);show WP _ _ (K9 (.Name "a_digits" p0) _ (.ref D')>>=λ_=>(pure Flow.next:J_ LR)) _ s₂
 haveI htg:a_ fd.scope.names "a_digits" =Hd:=by simp [a_,XW];decide
 haveI F₂:=F₁.ext x₂;have Sf:vis s.heap D'=H9:=bq (H8 F₁.x.size hD1);have Tk:(D'==IA)=Hb:=(GO.sy.keep hH).ne Sf;have WB:=F₁.free D' hD1;refine WP.then (wpAny_assign_Name (F₂.bindAny htg (by decide) (by simp))) λ_ s₃ ⟨F₃,T₃,VA,_,kp₃,sz₃⟩=>Hi ?_
 haveI UH:ok D':=WB.1;have l₃:IsL s₃.heap D' vs0:=l₂.mono λo e=>T₃.keep _ o (.inl WB) e;have F₃:=F₃.fill (by decide) VA (pv:= .list ((Hy K 0).map .int)) ⟨D',vs0,rfl,WB,Tk,l₃,iv₂.repL⟩ (by simp)
 have F₃:FSt C i2O _ _ _ s ok _ _ [] [H7 (.int a),H7 (.int n),H7 (.list ((Hy K 0).map .int)),H9] s₃:=F₃
 --def inner
 refine Ih ((qP (hX _) F₃ (by simp [a_,RC];decide) (by decide) (by simp) Ut S_ (ha _) (j7 F₃.e Rp) (ux F₃.e Rp RJ)).mono λfl s₄ hP=> ?_)
 obtain⟨rfl,f',c',Q_,Qh,pm,F₄,T₄,V₄,Wq,Ur,Uu,kp₄⟩:=hP;rw [hi3]at F₄;have F₄:FSt C i2O _ _ _ s ok _ _ [] [H7 (.int a),H7 (.int n),H7 (.list ((Hy K 0).map .int)),H9] s₄:=F₄;haveI Wr:=Wq _ _ (by decide) VA
 haveI hsz4:s₃.heap.objs.size<=s₄.heap.objs.size∨True:= .inr trivial;have l₄:IsL s₄.heap D' vs0:=l₃.mono λo e=>T₄.keep _ o (.inl WB) e;haveI YM:D'<s₄.heap.objs.size:=by obtain⟨o,m,e,_⟩:=iT l₄;exact II e
 obtain⟨X,I⟩:=qR (RF:=i2N) (ρ₀:=i20 n) F₄ Rp V₄ RJ Ur Uu (λx pv hx hp=>by
  have:=Vf x hx;simp only [Hp,IU,or_false]at this;rcases this with rfl|rfl|rfl
  ·have e1:i2N.idxOf ("a_digits" :HJ)=8:=by decide
   rw [e1]at hp;cases hp
  ·have e1:i2N.idxOf ("n" :HJ)=0:=by decide
   haveI e2:i2O.idxOf ("n" :HJ)=1:=by decide
   rw [e1]at hp;rw [e2];exact hp
  ·haveI e1:i2N.idxOf ("inner" :HJ)=8:=by decide
   rw [e1]at hp;cases hp)
 haveI frI: ∀s':Hh,s₄.heap.objs.size<=s'.heap.objs.size->bS (λb=>ok b/\b≠D') s'.heap:=λs' h b hb=>⟨F₄.sub b (F₄.free b (H8 h hb)),λq=>Hr _ (Ha YM (H8 h (q▸hb)))⟩;haveI W7: ∀i pv,(i20 n).get i=H7 pv-> ∃z,pv= .int z:=λi pv h=>by
  match i,h with
  |0,h=>cases h;exact⟨_,rfl⟩
  |1,h|2,h|3,h|4,h|5,h|6,h|7,h=>cases h
  |i+8,h=>cases h
 obtain⟨cA,VM,UE⟩:=lw F₄.e XW Wr;haveI Xe:vis C.H D'=H9:=hH.none Sf
 --the end:return a_digits
 have fin: ∀(s₅:Hh) Ww,ji D' s₄ s₅->IsL s₅.heap D' Ww->fA (digs n K a) Ww->WP (Hj C.prog C.w) (A.deeper (JR fd s.heap.objs.size f)) (JK [.Return (H7 (.Name "a_digits" r1)) r2] (JR fd s.heap.objs.size f)) Z s₅:=λs₅ Ww B l5 iv5=>by
  refine Ih ?_;rw [LN];refine WP.at (WP.bind (jo (C:=C) F₄.e (by decide) (.cel cA (.inl (F₄.e.own _ XW)) VM (aN UE λo=>B.keep cA o (dz l₄ UE))) (Hi ?_)))
  refine hZ _ _ ⟨⟨λb o e=>B.keep b o (λq=> ?_) (F₄.x.keep b o e),H8 F₄.x.size B.size,λi g e=>B.gens i g (F₄.x.gens i g e),B.os.trans F₄.x.os⟩,D',Ww,rfl,UH,Tk,l5,iv5.repL⟩;rw [q,Sf]at e;cases e
 refine Ih ?_;show WP _ _ (do
  Ji p4
  if<-isTrue t _ (IY t _)then JK _ _ else JK [] _) _ s₄
 haveI hT:aJ Γ (.var 0) [H7 (.int a),H7 (.int n),H7 (.list ((Hy K 0).map .int)),H9]=H7 ((a:Int) !=0):=rfl;refine WP.at (WP.then (F₄.goodT (S.t _ _ _ ht) hT) λb s₅ ⟨hb,x₅⟩=> ?_);subst hb;by_cases h0a:a=0
 ·subst h0a
  haveI Vk:K=0:=by rw [<-hKd];unfold kOf;haveI:Hc ((0:Nat):Int)=0:=rfl;rw [this];exact Nat.div_eq_of_lt (by exact K2 (Ph UV) (N8 (by decide) _))
  subst Vk;refine Hi ?_;exact fin s₅ vs0 (x₅.toB D') (l₄.mono λo e=>x₅.keep _ _ e) iv₂
 ·haveI QJ:((a:Int) !=0)=Hd:=by rw [bne_iff_ne];lia
  rw [QJ,if_pos rfl];have F₅:=F₄.ext x₅;have X₅:=(X.ext x₅);obtain⟨ob,SZ,Vh⟩:=X₅.fo;have RR:(Hy K (0:Int)).length=K:=Jt;haveI Wi:0<K:=by
   rcases Nat.eq_zero_or_pos K with h|h
   ·have:=sf (a:=a) UV
    rw [hKd,h]at this;simp at this;exact Ha (Ha (PX h0a) (Hu this)) (Hu (IW h))
   ·exact h
  refine Ih ((nv (C:=C) F₅.e.kind rfl (Q:=λs'=>ji D' s₅ s'/\ ∃Qw,IsL s'.heap D' Qw/\fA (put (Hy K 0) 0 (digs n K a)) Qw) ?_).mono λfl s₆ hP=> ?_)
  ·refine f_ F₅.e (by decide) (V₄.keep x₅.keep) SZ Vh (S.l _ _ _ Qm _ _ _ _ s₅ [.int a,.int (0:Nat),.int (K:Nat)] F₅.good0 (by
    haveI:pbi .len [.list ((Hy K 0).map .int)]=H7 (.int (K:Nat)):=by rw [dk (by rw [Hf,RR];exact Hk QZ (by decide)),Hf,RR]
    show(do let v<-H7 (PV.int a);let vs<-(do let v<-H7 (PV.int 0);let vs<-(do let v<-pbi .len [.list ((Hy K 0).map .int)];let vs<-H7 [];H7 (v::vs));H7 (v::vs));H7 (v::vs))=_
    rw [this];rfl)) λus s₆ x₆ q₆=> ?_
   refine(vY (C:=C) (D:=D') (Q6:=λb=>ok b/\b≠D') (W_ _ _ _ _ _ _) I D.lim GO.sy XM RJ WY QN Xe (λh=>h.2 rfl) (len:=K) (by exact Hk QZ (by decide)) (by exact Ha hn (by decide)) Rl C.d _ s₆ 0 K K a us vs0 _ ((X₅.ext x₆).shrink (frI s₆ (H8 x₅.size x₆.size)) W7)
    ⟨cA,(jE F₄.e Rp WY).trans VM,aN (aN UE λo=>x₅.keep _ o) λo=>x₆.keep _ o⟩ F₄.a Wi (IJ K) (Hu RR.symm) (Hu RR) Q7 (by rw [<-hKd];exact sf UV)
    (IsL.mono (IsL.mono l₄ λo e=>x₅.keep _ _ e) λo e=>x₆.keep _ _ e) iv₂ (vw q₆)).mono λv s₇ ⟨h1,h2,h3⟩=>⟨h1,(x₆.toB D').trans h2,h3⟩
  ·obtain⟨rfl,B₆,vs6,l6,iv6⟩:=hP
   refine Hi ?_;refine fin s₆ vs6 ((x₅.toB D').trans B₆) l6 ?_;haveI:put (Hy K 0) 0 (digs n K a)=digs n K a:=by unfold put;rw [List.take_zero,Jd,eO,OO (by rw [RR];exact Iy _ _),IS]
   rw [this]at iv6;exact iv6
end
abbrev Cx.at (C:Cx) (d:Nat):Cx:={C with d:=d}
variable {r:PV}
theorem aj.mono {H:IL} {d':Nat} (x:aj prog w H d f args r) (h:d<=d'):aj prog w H d' f args r:=λA s ok vs hA=>x A s ok vs (hA.mono h)
theorem bW.at {body:List IR} {params:List HJ} (D:bW C f o fd body params Q4) (d:Nat):bW (C.at d) f o fd body params Q4:=
 ⟨D.ho,D.data,D.lim,D.code,D.body,D.clo,D.glob,D.blt,D.kind,D.co,D.gen,D.bind,D.nd,D.pn,D.pk,D.free⟩
theorem ai.at (G:ai C Γ) (h:C.d<=d):ai (C.at d) Γ:=
 ⟨G.sy,G.val,λx k hx=>by obtain⟨f,o,fd,h1,h2,h3,h4⟩:=G.fn x k hx;exact⟨f,o,fd,h1,h2,h3,λargs r hr=>(h4 args r hr).mono h⟩,G.bi,
  λx k hx=>by obtain⟨f,o,fd,h1,h2,h3,h4⟩:=G.gn x k hx;exact⟨f,o,fd,h1,h2,h3,λargs xs hr A s ok vs tgt hA=>h4 args xs hr A s ok vs tgt (hA.mono h)⟩,G.ty⟩
def Gam.put (Γ:Gam) (k:Nat) (F:List PV->Option PV):Gam:={Γ with fn:=λi args=>if i=k then F args else Γ.fn i args}
structure kt (C:Cx) (x:HJ) (k:Nat) (f:Hw) (o:Oh) (fd:Ku):Prop where
 only: ∀y,C.gl y=H7 (.fn k)->y=x
 loads:cG C.H x (.ref f)
 ho:C.H.get? f=H7 o
 hd:o.data= .func fd
theorem ai.put (G:ai C Γ) (X:kt C x k f o fd) {F:List PV->Option PV} (h: ∀args r,F args=H7 r->aj C.prog C.w C.H C.d f args r):ai C (Γ.put k F):=
 ⟨G.sy,G.val,λy i hy=>by
  by_cases hi:i=k
  ·subst hi
   have:=X.only y hy;subst this;refine⟨f,o,fd,X.loads,X.ho,X.hd,λargs r hr=> ?_⟩;have hr:(if i=i then F args else Γ.fn i args)=H7 r:=hr;rw [if_pos rfl]at hr;exact h args r hr
  ·obtain⟨f',o',Yc,h1,h2,h3,h4⟩:=G.fn y i hy
   refine⟨f',o',Yc,h1,h2,h3,λargs r hr=> ?_⟩;have hr:(if i=k then F args else Γ.fn i args)=H7 r:=hr;rw [if_neg hi]at hr;exact h4 args r hr,G.bi,G.gn,G.ty⟩
variable {y:Nat}
section
theorem uQ (a n:Nat):eg .RShift (.int a) (.int n)=H7 (.int (a/2^n:Nat)):=by show bB (0<=(n:Int)) (Int.fdiv (a:Int) (2^(n:Int).toNat))=_;unfold bB;rw [if_pos (by exact HA _),BO]
theorem rL (h:a<2^m) (hm:m+n<=2^27):eg .LShift (.int a) (.int n)=H7 (.int (a*2^n:Nat)):=by
 show bB (0<=(n:Int)/\(Hc (a:Int):Int)+(n:Int)<=2^27) ((a:Int)*2^(n:Int).toNat)=_;have:=dK a m h;unfold bB;rw [if_pos (by lia),I3]
 simp
theorem h_ (a h:Nat):eg .BitAnd (.int a) (.int (2^h-1:Nat))=H7 (.int (a % 2^h:Nat)):=by show H7 (PV.int (NW (a:Int) ((2^h-1:Nat):Int)))=_;rw [bitAnd_pp (by exact HA _) (by exact HA _),I3,I3,Nat.and_two_pow_sub_one_eq_mod]
theorem Bs {x s:Nat} (hy:y<2^s):(x*2^s)&&&y=0:=by
 apply Pr;intro i;rw [Nat.testBit_and,ON,Nat.zero_testBit];by_cases h:s<=i
 ·rw [Nat.testBit_lt_two_pow (Ha hy (J4 (by decide) h)),Bool.and_false]
 ·simp [h]
theorem por {x s:Nat} (hy:y<2^s):eg .BitOr (.int (x*2^s:Nat)) (.int y)=H7 (.int (x*2^s+y:Nat)):=by
 show H7 (PV.int (Builtin.bitOr ((x*2^s:Nat):Int) (y:Int)))=_;rw [bitOr_and,bitAnd_pp (by exact HA _) (by exact HA _),I3,I3,Bs hy]
 simp
theorem C2 (a b:Nat):eg .Add (.int a) (.int b)=H7 (.int (a+b:Nat)):=rfl
theorem C1 (h:b<=a):eg .Sub (.int a) (.int b)=H7 (.int (a-b:Nat)):=by show H7 (PV.int ((a:Int)-(b:Int)))=_;rw [Int.ofNat_sub h]
theorem ET (ha:a<2^m) (hb:b<2^n) (h:m+n<=2^27):eg .Mult (.int a) (.int b)=H7 (.int (a*b:Nat)):=by show bB (Nu (a:Int) (b:Int)) ((a:Int)*(b:Int))=_;unfold bB;rw [if_pos (PF (dK a m ha) (dK b n hb) h)];simp
end
def bz2 (l a b n:Nat):Prop:=0<n/\n<=4000*2^l/\n<=2^20/\2^(n-1)<=b/\b<2^n/\a<b*2^n
def bz3 (l Qd a3 b b1 b2 n:Nat):Prop:=0<n/\n<=4000*2^l/\n<=2^20/\2^(n-1)<=b1/\b1<2^n/\b2<2^n/\b=b1*2^n+b2/\a3<2^n/\Qd<b
def bx (a b:Nat):PV:= .tuple [.int (a/b:Nat),.int (a % b:Nat)]
def pN:List PS:=[
 .ite (.cmp .Eq (.bin .RShift (.var 0) (.var 5)) (.var 3)) [.swap [6,7] [(.bin .Sub (.bin .LShift (.cI 1) (.var 5)) (.cI 1)),(.bin .Add (.bin .Sub (.var 0) (.bin .LShift (.var 3) (.var 5))) (.var 3))]] [.setT [6,7] 0 (.call 3 [(.var 0),(.var 3),(.var 5)])],
 .set 7 0 (.bin .Sub (.bin .BitOr (.bin .LShift (.var 7) (.var 5)) (.var 1)) (.bin .Mult (.var 6) (.var 4))),
 .whl (.cmp .Lt (.var 7) (.cI 0)) [.aug 6 .Sub 0 (.cI 1),.aug 7 .Add 0 (.var 2)],
 .ret (.tup [(.var 6),(.var 7)])]
def d3R (Qd a3 b b1 b2 n:Nat) (q r:Option PV):Ρ:=[H7 (.int Qd),H7 (.int a3),H7 (.int b),H7 (.int b1),H7 (.int b2),H7 (.int n),q,r]
variable {Qd a3 b1 b2 N X:Nat} {test:Ρ->Option Bool} {own:List Nat}
section
theorem rG {A:Nat} {r:Int} {Q:Int} (hb:0<b) (e:(A:Int)=Q*b+r) (h0:0<=r) (h1:r<b):Q=((A/b:Nat):Int)/\r=((A % b:Nat):Int):=by haveI QP:(b:Int)≠0:=Int.ne_of_gt (Int.natCast_pos.mpr hb);rw [Int.natCast_ediv,Int.natCast_emod,e,M3,Pe _ _ QP,Pd h0 h1,Pc,Int.add_mul_emod_self_right,Int.emod_eq_of_lt h0 h1];exact⟨rfl,rfl⟩
theorem yq {params:List Nat} {ps:List PS} {v:PV} (hρ:aW (Hy m H9) params args=H7 ρ) (h:ag Γ ps ρ []=H7 (.ret v)):aE Γ m params ps args=H7 v:=by
 unfold aE;rw [hρ];show(ag Γ ps ρ []).bind _=_;rw [h]
 rfl
theorem xI {body:Ρ->List Nat->Option Out} (h:test ρ=H7 Hb):kO test body (m+1) ρ own=H7 (.next ρ own):=aF h rfl
theorem xJ {body:Ρ->List Nat->Option Out} {Qb:List Nat} {r:Option Out} (h:test ρ=H7 Hd) (hb:body ρ own=H7 (.next ρ' Qb)) (hr:kO test body m ρ' Qb=r):kO test body (m+1) ρ own=r:=by
 subst hr;show(test ρ).bind _=_;rw [h];show(body ρ own).bind _=_;rw [hb]
 rfl
theorem DJ {A:Nat} (hb:0<b) (m:Nat): ∀(Rd:Nat) (q r:Int),m<=Rd->0<=r+((m*b:Nat):Int)->r<b->(A:Int)=q*b+r->
  kO (λρ=>aJ Γ (.cmp .Lt (.var 7) (.cI 0)) ρ) (λρ own=>ag Γ [.aug 6 .Sub 0 (.cI 1),.aug 7 .Add 0 (.var 2)] ρ own) (Rd+1) (d3R Qd a3 b b1 b2 n (H7 (.int q)) (H7 (.int r))) []=
   H7 (.next (d3R Qd a3 b b1 b2 n (H7 (.int (A/b:Nat))) (H7 (.int (A % b:Nat)))) []):=by
 have Vs: ∀(Rd:Nat) (q r:Int),0<=r->r<b->(A:Int)=q*b+r->kO (λρ=>aJ Γ (.cmp .Lt (.var 7) (.cI 0)) ρ) (λρ own=>ag Γ [.aug 6 .Sub 0 (.cI 1),.aug 7 .Add 0 (.var 2)] ρ own) (Rd+1) (d3R Qd a3 b b1 b2 n (H7 (.int q)) (H7 (.int r))) []=
   H7 (.next (d3R Qd a3 b b1 b2 n (H7 (.int (A/b:Nat))) (H7 (.int (A % b:Nat)))) []):=λRd q r h0 h1 e=>by
  obtain⟨e1,e2⟩:=rG hb e h0 h1;rw [<-e1,<-e2];exact xI (congrArg H7 (decide_eq_false (Q1.mpr h0)))
 induction m with
 |zero=>exact λRd q r _ h0=>Vs Rd q r (by rw [Nat.zero_mul]at h0;exact NC r▸h0)
 |succ m ih=>
  intro Rd q r hm h0 h1 e;by_cases hr:0<=r
  ·exact Vs Rd q r hr h1 e
  ·cases Rd with
   |zero=>exact absurd hm (Nat.not_succ_le_zero m)
   |succ Rd=>
    have hr:=Int.not_le.mp hr;refine xJ (ρ':=d3R Qd a3 b b1 b2 n (H7 (.int (q-1))) (H7 (.int (r+b)))) (Qb:=[]) (congrArg H7 (decide_eq_true hr)) ?_ (ih Rd (q-1) (r+b) (JM hm) ?_ ?_ ?_)
    ·rw [aa (ρ':=d3R Qd a3 b b1 b2 n (H7 (.int (q-1))) (H7 (.int r))) (Qb:=[]) (dq (a:= .int q) (b:= .int 1) (c:= .int (q-1)) rfl rfl rfl rfl)]
     exact aa (ρ':=d3R Qd a3 b b1 b2 n (H7 (.int (q-1))) (H7 (.int (r+b)))) (Qb:=[]) (dq (a:= .int r) (b:= .int b) (c:= .int (r+b)) rfl rfl rfl rfl)
    ·rw [LZ,Jr,M3 ((m*b:Nat):Int),<-OK]at h0
     exact h0
    ·have:=Int.add_lt_add_right hr b
     rw [Pc]at this;exact this
    ·rw [e,Int.sub_mul,Mp]
     generalize q*(b:Int)=x;lia
theorem Fz (hN:0<N) (hc:Qd/N=b1) (ha:Qd<b1*N+b2) (h1:b1<N) (h2:b2<N) (h3:a3<N):
  b1*N<=Qd/\(N-1)*b1+(Qd-b1*N+b1)=Qd/\N-1<N/\Qd-b1*N+b1<N*2/\(Qd-b1*N+b1)*N+a3<b1*N+b2+(N-1)*b2:=by
 obtain⟨d,rfl⟩: ∃d,Qd=b1*N+d:=⟨Qd % N,by rw [<-hc,Nat.div_add_mod']⟩
 obtain⟨M,rfl⟩: ∃M,N=M+1:=⟨N-1,(Kp hN).symm⟩;have hd:=Nat.lt_of_add_lt_add_left ha;rw [Kj,Nt];refine⟨HD _ _, ?_,HR M, ?_, ?_⟩
 ·rw [K7,ID M,Iv d,I7]
 ·rw [Nat.mul_two];exact Nat.add_lt_add (J6 hd h2) h1
 ·haveI e:b2+M*b2=b2*(M+1):=by rw [K7,ID M,Iv]
  rw [I7,e,KN,HS,Iv (d*(M+1)+a3)];exact KX (Ha (KX h3 _) (LZ d (M+1)▸IC (M+1) hd)) _
theorem Fy (hp:0<b1) (hl:Qd<b1*N) (h1:b1<N) (h3:a3<N):Qd/b1*b1+Qd % b1=Qd/\Qd/b1<N/\Qd % b1<N*2/\Qd % b1*N+a3<b1*N+b2+Qd/b1*b2:=
 have hm:=Kq Qd hp
 ⟨Nat.div_add_mod' Qd b1,N7 hl,Ha (J6 hm h1) (Nat.le_mul_of_pos_right N (by decide)),
  Ha (Ha (KX h3 _) (LZ (Qd % b1) N▸IC N hm)) (H8 (HD _ _) (HD _ _))⟩
theorem Ba (h2: ∀a b n,bz2 l a b n->Γ.fn 3 [.int (a:Nat),.int (b:Nat),.int (n:Nat)]=H7 (bx a b)) (h:bz3 l Qd a3 b b1 b2 n):
  ∃q r:Nat,az Γ (pN.headD .bad) (d3R Qd a3 b b1 b2 n H9 H9) []=H7 (.next (d3R Qd a3 b b1 b2 n (H7 (.int q)) (H7 (.int r))) [])/\q*b1+r=Qd/\q<2^n/\r<2^n*2/\r*2^n+a3<b1*2^n+b2+q*b2:=by
 obtain⟨hn,hl,QS,RY,Ta,Sn,hb,X9,ha⟩:=h;have hN:0<2^n:=Ib n;have ht:aJ Γ (.cmp .Eq (.bin .RShift (.var 0) (.var 5)) (.var 3)) (d3R Qd a3 b b1 b2 n H9 H9)=H7 (((Qd/2^n:Nat):Int)==(b1:Int)):=by exact c7 (af (a:= .int Qd) (b:= .int n) rfl rfl (uQ Qd n)) rfl rfl
 have Rz:Qd<b1*2^n+b2:=hb▸ha;by_cases hc:Qd/2^n=b1
 ·obtain⟨TJ,k⟩:=Fz hN hc Rz Ta Sn X9
  refine⟨2^n-1,Qd-b1*2^n+b1, ?_,k⟩;refine an (t:=Hd) (ht.trans (congrArg H7 (beq_iff_eq.mpr (congrArg Int.ofNat hc)))) ?_;haveI e1:pev Γ (.bin .Sub (.bin .LShift (.cI 1) (.var 5)) (.cI 1)) (d3R Qd a3 b b1 b2 n H9 H9)=H7 (.int (2^n-1:Nat)):=by
   refine af (a:= .int (1*2^n:Nat)) (b:= .int (1:Nat)) (af (a:= .int (1:Nat)) (b:= .int n) rfl rfl (rL (m:=1) (by decide) (by exact H8 (HE (Hm _) QS) (by decide)))) rfl ?_
   rw [Mn];exact C1 hN
  haveI e2:pev Γ (.bin .Add (.bin .Sub (.var 0) (.bin .LShift (.var 3) (.var 5))) (.var 3)) (d3R Qd a3 b b1 b2 n H9 H9)=H7 (.int (Qd-b1*2^n+b1:Nat)):=
   af (a:= .int (Qd-b1*2^n:Nat)) (b:= .int b1) (af (a:= .int Qd) (b:= .int (b1*2^n:Nat)) rfl (af (a:= .int b1) (b:= .int n) rfl rfl (rL (m:=n) Ta (by exact H8 (HE QS QS) (by decide)))) (C1 TJ)) rfl (C2 _ _)
  exact aa (lU (ac e1 (ac e2 bY)) rfl)
 ·haveI UW:Qd/2^n<=b1:=IN ((Ja hN).mpr (Ha Rz (LZ b1 _▸Io (HP Sn) _)))
  have Qp:Qd<b1*2^n:=(Ja hN).mp (Md UW hc);refine⟨Qd/b1,Qd % b1, ?_,Fy (Ha (Ib (n-1)) RY) Qp Ta X9⟩;refine an (t:=Hb) (ht.trans (congrArg H7 (beq_eq_false_iff_ne.mpr λe=>hc (PG e)))) ?_;exact aa (dj (aq (ac (v:= .int Qd) rfl (ac (v:= .int b1) rfl (ac (v:= .int n) rfl bY))) (h2 Qd b1 n ⟨hn,hl,QS,RY,Ta,Qp⟩)) rfl)
theorem Gs {Y Z:Nat} (h:Y<=Z):0<=((X:Int)-(Y:Int))+(Z:Int):=by lia
theorem ltI {Y:Nat} (h:X<b+Y):(X:Int)-(Y:Int)<(b:Int):=by lia
theorem FG {A Y:Nat} (h:A+Y=q*b+X):(A:Int)=(q:Int)*(b:Int)+((X:Int)-(Y:Int)):=by rw [<-K6,<-Int.add_sub_assoc,<-Jr,<-h,Jr,Me]
theorem Bb (h2: ∀a b n,bz2 l a b n->Γ.fn 3 [.int (a:Nat),.int (b:Nat),.int (n:Nat)]=H7 (bx a b)) (h:bz3 l Qd a3 b b1 b2 n):
  aE Γ 8 [0,1,2,3,4,5] pN [.int Qd,.int a3,.int b,.int b1,.int b2,.int n]=H7 (bx (Qd*2^n+a3) b):=by
 obtain⟨q,r,h1,hq,hqn,hr,Qp⟩:=Ba h2 h;obtain⟨hn,hl,QS,RY,Ta,Sn,hb,X9,ha⟩:=h;haveI e2:az Γ (.set 7 0 (.bin .Sub (.bin .BitOr (.bin .LShift (.var 7) (.var 5)) (.var 1)) (.bin .Mult (.var 6) (.var 4)))) (d3R Qd a3 b b1 b2 n (H7 (.int q)) (H7 (.int r))) []=
   H7 (.next (d3R Qd a3 b b1 b2 n (H7 (.int q)) (H7 (.int (((r*2^n+a3:Nat):Int)-((q*b2:Nat):Int))))) []):=au (v:= .int (((r*2^n+a3:Nat):Int)-((q*b2:Nat):Int)))
  (af (a:= .int (r*2^n+a3:Nat)) (b:= .int (q*b2:Nat)) (af (a:= .int (r*2^n:Nat)) (b:= .int a3) (af (a:= .int r) (b:= .int n) rfl rfl (rL (L_ .. ▸hr) (by lia))) rfl (por X9)) (af (a:= .int q) (b:= .int b2) rfl rfl (ET hqn Sn (by exact H8 (HE QS QS) (by decide)))) rfl)
 --how often the remainder is mended
 haveI i2:2^n<=2*b1:=Nat.pow_pred_mul hn▸ID 2 b1▸IC 2 RY;haveI i3:q*b2<=2*b:=H8 (I6 (HP hqn) (HP Sn)) (H8 (IC _ i2) (LF 2 b1 _▸Ig 2 (hb▸HD _ _)));haveI hA:Qd*2^n+a3+q*b2=q*b+(r*2^n+a3):=by rw [hb,<-hq,KN,Nat.mul_add,LF,HS _ a3,HS _ (r*2^n),I7 (_+_)]
 haveI e3:az Γ (.whl (.cmp .Lt (.var 7) (.cI 0)) [.aug 6 .Sub 0 (.cI 1),.aug 7 .Add 0 (.var 2)]) (d3R Qd a3 b b1 b2 n (H7 (.int q)) (H7 (.int (((r*2^n+a3:Nat):Int)-((q*b2:Nat):Int))))) []=_:=DJ (Γ:=Γ) (Qd:=Qd) (a3:=a3) (b1:=b1) (b2:=b2) (n:=n) (A:=Qd*2^n+a3) (Hk (IH _) ha) 2 15 q _ (by decide) (Gs i3) (ltI (hb▸Qp)) (FG hA)
 exact yq (ρ:=d3R Qd a3 b b1 b2 n H9 H9) rfl<|(aa h1).trans ((aa e2).trans ((aa e3).trans (ak (aC (e:= .tup [.var 6,.var 7]) rfl))))
end
def nS:List PS:=[
 .ite (.cmp .LtE (.bin .Sub (.meth .bitlen (.var 0) []) (.var 2)) (.glo 0)) [.ret (.bi .divmod [(.var 0),(.var 1)])] [],
 .set 3 0 (.bin .BitAnd (.var 2) (.cI 1)),
 .ite (.var 3) [.aug 0 .LShift 0 (.cI 1),.aug 1 .LShift 0 (.cI 1),.aug 2 .Add 0 (.cI 1)] [],
 .set 4 0 (.bin .RShift (.var 2) (.cI 1)),
 .set 5 0 (.bin .Sub (.bin .LShift (.cI 1) (.var 4)) (.cI 1)),
 .swap [6,7] [(.bin .RShift (.var 1) (.var 4)),(.bin .BitAnd (.var 1) (.var 5))],
 .setT [8,9] 0 (.call 4 [(.bin .RShift (.var 0) (.var 2)),(.bin .BitAnd (.bin .RShift (.var 0) (.var 4)) (.var 5)),(.var 1),(.var 6),(.var 7),(.var 4)]),
 .setT [10,9] 0 (.call 4 [(.var 9),(.bin .BitAnd (.var 0) (.var 5)),(.var 1),(.var 6),(.var 7),(.var 4)]),
 .ite (.var 3) [.aug 9 .RShift 0 (.cI 1)] [],
 .ret (.tup [(.bin .BitOr (.bin .LShift (.var 8) (.var 4)) (.var 10)),(.var 9)])]
def d2R (a b n:Nat) (p h m b1 b2 q1 r q2:Option PV):Ρ:=[H7 (.int a),H7 (.int b),H7 (.int n),p,h,m,b1,b2,q1,r,q2]
theorem oP (a:Nat):a<2^Hc (a:Int):=by have:=(Ia (x:=(a:Int))).mp (Hm _);simpa using this
theorem uM (h:2^m<=a):m<Hc (a:Int):=by
 rcases Kr m (Hc (a:Int))with q|q
 ·exact q
 ·have:=(Ia (x:=(a:Int))).mp q
  simp at this;lia
theorem gY {x:Nat} (h:0<x):Hc (x:Int)=x.log2+1:=by
 unfold Hc;haveI:((x:Int)==0)=Hb:=by rw [beq_eq_false_iff_ne];lia
 rw [this];simp
theorem Au (hb:2^(n-1)<=b) (ha:Hc (a:Int)<=n+4000):pbi .divmod [.int a,.int b]=H7 (bx a b):=by
 haveI RK:0<b:=Ha (Ib _) hb;haveI hp:J9 (a:Int) (b:Int)=Hb:=by
  show(decide ((if(b:Int)==0 then 0 else(b:Int).natAbs.log2/30+1)>300)&&decide ((if(a:Int)==0 then 0 else(a:Int).natAbs.log2/30+1)>(if(b:Int)==0 then 0 else(b:Int).natAbs.log2/30+1)+150))=Hb;haveI e:decide ((if(a:Int)==0 then 0 else(a:Int).natAbs.log2/30+1)>(if(b:Int)==0 then 0 else(b:Int).natAbs.log2/30+1)+150)=Hb:=by
   refine decide_eq_false ?_;haveI hbz:((b:Int)==0)=Hb:=by rw [beq_eq_false_iff_ne];lia
   rw [hbz];haveI h1:n-1<b.log2+1:=by have:=uM hb;rw [gY RK]at this;exact this
   by_cases ha0:a=0
   ·subst ha0;simp
   ·haveI haz:((a:Int)==0)=Hb:=by rw [beq_eq_false_iff_ne];lia
    rw [haz];rw [gY (by exact PX ha0)]at ha
    simp only [Int.natAbs_natCast,Ie,if_false];exact GW ha h1
  rw [e,Bool.and_false]
 show(if(b:Int)≠0/\J9 (a:Int) (b:Int)=Hb then H7 (PV.tuple [.int ((a:Int).fdiv (b:Int)),.int ((a:Int).fmod (b:Int))])else H9)=_;rw [if_pos ⟨by lia,hp⟩]
 unfold bx;rw [IK _ (by exact HA _),Jp _ (by exact HA _)]
 simp
variable {l:Nat}
section
theorem Bc {h:Nat} (XN:0<h) (hh:h<=4000*2^m) (VI:h<=2^20) (hb:2^(2*h-1)<=b) (QP:b<2^(2*h)) (ha:a<b*2^(2*h)):
  bz3 m (a/2^(2*h)) (a/2^h % 2^h) b (b/2^h) (b % 2^h) h/\bz3 m (a/2^h % b) (a % 2^h) b (b/2^h) (b % 2^h) h/\
   a/2^(2*h)*2^h+a/2^h % 2^h=a/2^h/\a/2^h/b<2^h/\(a/2^h % b*2^h+a % 2^h)/b<2^h/\a/2^h/b*2^h+(a/2^h % b*2^h+a % 2^h)/b=a/b/\(a/2^h % b*2^h+a % 2^h) % b=a % b:=by
 have hN:0<2^h:=Ib h;have h2:2^(2*h)=2^h*2^h:=by rw [N_,Kn]
 have RK:0<b:=Ha (Ib _) hb;have b1:2^(h-1)<=b/2^h:=by
  rw [Nat.le_div_iff_mul_le hN,<-Kn];haveI:h-1+h=2*h-1:=by exact H4 XN
  rw [this];exact hb
 have b2:b/2^h<2^h:=by rw [Ja hN,<-h2];exact QP
 have b3:b=b/2^h*2^h+b % 2^h:=by have:=L9 b (2^h);rw [ID]at this;exact this.symm
 haveI a1:a/2^(2*h)<b:=by rw [Ja (Ib _)];exact ha
 haveI a2:a/2^(2*h)*2^h+a/2^h % 2^h=a/2^h:=by rw [h2,<-P4];have:=L9 (a/2^h) (2^h);rw [ID]at this;exact this
 haveI a3:a/2^h<b*2^h:=by rw [Ja hN,LF,<-h2];exact ha
 have r1:a/2^h % b<b:=Kq _ RK;haveI l1:a % 2^h<2^h:=Kq _ hN;haveI q2:a/2^h % b*2^h+a % 2^h<b*2^h:=by haveI:(a/2^h % b+1)*2^h<=b*2^h:=IC _ r1;rw [KN]at this;exact aLt l1 this
 have key:a=(a/2^h/b*2^h)*b+(a/2^h % b*2^h+a % 2^h):=by
  haveI e1:=L9 a (2^h);haveI e2:=L9 (a/2^h) b;haveI e3:(a/2^h)*2^h=(b*(a/2^h/b)+a/2^h % b)*2^h:=by rw [e2]
  rw [KN]at e3;rw [ID (2^h)]at e1;exact aD2 e1 e3
 refine⟨⟨XN,hh,VI,b1,b2,Kq _ hN,b3,Kq _ hN,a1⟩,⟨XN,hh,VI,b1,b2,Kq _ hN,b3,l1,r1⟩,a2, ?_, ?_, ?_, ?_⟩
 ·exact(Ja RK).mpr (by rw [ID];exact a3)
 ·exact(Ja RK).mpr (by rw [ID (2^h) b];exact q2)
 ·conv=>rhs;rw [key]
  rw [ID _ b,Oi RK]
 ·conv=>rhs;rw [key]
  rw [ID _ b,Nat.mul_add_mod]
theorem Bd (SU:Γ.gv 0=H7 (.int 4000)) (h3: ∀m,l=m+1-> ∀Qd a3 b b1 b2 n,bz3 m Qd a3 b b1 b2 n->Γ.fn 4 [.int (Qd:Nat),.int (a3:Nat),.int (b:Nat),.int (b1:Nat),.int (b2:Nat),.int (n:Nat)]=H7 (bx (Qd*2^n+a3) b))
  (h:bz2 l a b n):aE Γ 11 [0,1,2] nS [.int a,.int b,.int n]=H7 (bx a b):=by
 obtain⟨hn,hl,QS,hb,QP,ha⟩:=h;haveI RK:0<b:=Ha (Ib _) hb;haveI hρ:aW (Hy 11 H9) [0,1,2] [.int a,.int b,.int n]=H7 (d2R a b n H9 H9 H9 H9 H9 H9 H9 H9):=rfl;have ht:aJ Γ (.cmp .LtE (.bin .Sub (.meth .bitlen (.var 0) []) (.var 2)) (.glo 0)) (d2R a b n H9 H9 H9 H9 H9 H9 H9 H9)=H7 (decide ((Hc (a:Int):Int)-(n:Int)<=4000)):=by exact c7 (a:= .int ((Hc (a:Int):Int)-(n:Int))) (b:= .int 4000) rfl SU rfl
 unfold aE;rw [hρ]
 suffices hs:ag Γ nS (d2R a b n H9 H9 H9 H9 H9 H9 H9 H9) []=H7 (.ret (bx a b))by simp only [IT,Je,hs]
 unfold nS;by_cases hc:(Hc (a:Int):Int)-(n:Int)<=4000
 ·rw [decide_eq_true hc]at ht
  refine ak (an ht ?_);rw [if_pos rfl];refine ak (aC ?_);exact aF (x:=cE Γ [(.var 0),(.var 1)] (d2R a b n H9 H9 H9 H9 H9 H9 H9 H9)) (a:=[.int a,.int b]) rfl (Au hb (by lia))
 ·rw [decide_eq_false hc]at ht
  rw [aa (an (o:=H7 (.next (d2R a b n H9 H9 H9 H9 H9 H9 H9 H9) [])) ht rfl)]
  haveI YL:Hc (a:Int)<=2*n:=by refine dK _ _ (J6 ha ?_);rw [N_,Kn];exact M0 QP (Ib n)
  obtain⟨m,rfl⟩: ∃m,l=m+1:=by
   cases l with
   |zero=>simp at hl;lia
   |succ m=>exact⟨m,rfl⟩
  have h3:=h3 m rfl;rw [L_]at hl
  --pad
  haveI s2:az Γ (.set 3 0 (.bin .BitAnd (.var 2) (.cI 1))) (d2R a b n H9 H9 H9 H9 H9 H9 H9 H9) []=H7 (.next (d2R a b n (H7 (.int (n % 2:Nat))) H9 H9 H9 H9 H9 H9 H9) []):=
   au (v:= .int (n % 2:Nat)) (af (a:= .int n) (b:= .int (2^1-1:Nat)) rfl rfl (h_ n 1))
  rw [aa s2];have two: ∀x:Nat,x<2^(2*n+4)->eg .LShift (.int x) (.int (1:Nat))=H7 (.int (x*2^1:Nat)):=λx hx=>rL hx (by exact H8 (HE (HE (I6 (Hm _) QS) (Hm _)) (Hm _)) (by decide))
  haveI YT:a<2^(2*n):=Ha (oP a) (J4 (by decide) YL)
  have up: ∀{x i j:Nat},x<2^i->i<=j->x<2^j:=λh h'=>Ha h (J4 (by decide) h')
  haveI s3:az Γ (.ite (.var 3) [.aug 0 .LShift 0 (.cI 1),.aug 1 .LShift 0 (.cI 1),.aug 2 .Add 0 (.cI 1)] []) (d2R a b n (H7 (.int (n % 2:Nat))) H9 H9 H9 H9 H9 H9 H9) []=
    H7 (.next (d2R (a*2^(n % 2)) (b*2^(n % 2)) (n+n % 2) (H7 (.int (n % 2:Nat))) H9 H9 H9 H9 H9 H9 H9) []):=by
   rcases Mc n with e|e
   ·rw [e]
    simp only [P3,Pp,Nat.add_zero];exact an (t:=Hb) rfl rfl
   ·rw [e]
    refine an (t:=Hd) rfl ?_;rw [if_pos rfl];rw [aa (ρ':=d2R (a*2^1) b n (H7 (.int (1:Nat))) H9 H9 H9 H9 H9 H9 H9) (Qb:=[]) (dq (a:= .int a) (b:= .int (1:Nat)) rfl rfl (two a (up YT (by exact HD _ _))) rfl)]
    rw [aa (ρ':=d2R (a*2^1) (b*2^1) n (H7 (.int (1:Nat))) H9 H9 H9 H9 H9 H9 H9) (Qb:=[]) (dq (a:= .int b) (b:= .int (1:Nat)) rfl rfl (two b (up QP (by lia))) rfl)]
    rw [aa (ρ':=d2R (a*2^1) (b*2^1) (n+1) (H7 (.int (1:Nat))) H9 H9 H9 H9 H9 H9 H9) (Qb:=[]) (dq (a:= .int n) (b:= .int (1:Nat)) rfl rfl (C2 n 1) rfl)]
    rfl
  rw [aa s3];obtain⟨h,hh⟩: ∃h,n+n % 2=2*h:=⟨(n+n % 2)/2,aDv⟩;haveI US:n % 2<2:=Kq _ (by decide)
  haveI YF:a*2^(n % 2)/(b*2^(n % 2))=a/b:=Nat.mul_div_mul_right _ _ (Ib _);haveI Uz:a*2^(n % 2) % (b*2^(n % 2))=a % b*2^(n % 2):=Nat.mul_mod_mul_right _ _ _;haveI Vl:2^(2*h-1)<=b*2^(n % 2):=by
   haveI:2*h-1=n-1+n % 2:=by exact FY hn hh
   rw [this,Kn];exact IC _ hb
  haveI hB2:b*2^(n % 2)<2^(2*h):=by rw [<-hh,Kn];exact M0 QP (Ib _)
  haveI hA:a*2^(n % 2)<b*2^(n % 2)*2^(2*h):=by refine Ha (M0 ha (Ib _)) ?_;rw [LF,LF,ID (2^n)];exact Ig _ (Ig _ (J4 (by decide) (by exact H8 (HD _ _) (Hu hh))))
  obtain⟨z1,z2,e1,lq1,lq2,eq,er⟩:=Bc (m:=m) (by lia) (by lia) (by lia) Vl hB2 hA
  rw [YF]at eq;rw [Uz]at er;generalize a*2^(n % 2)=a' at*
  generalize b*2^(n % 2)=b' at*
  rw [hh];generalize hP:(H7 (PV.int ((n % 2:Nat):Int)))=P;haveI s4:az Γ (.set 4 0 (.bin .RShift (.var 2) (.cI 1))) (d2R a' b' (2*h) P H9 H9 H9 H9 H9 H9 H9) []=H7 (.next (d2R a' b' (2*h) P (H7 (.int h)) H9 H9 H9 H9 H9 H9) []):=by
   refine au (v:= .int h) (af (a:= .int (2*h:Nat)) (b:= .int (1:Nat)) rfl rfl ?_);rw [uQ]
   congr 2
   lia
  rw [aa s4];haveI s5:az Γ (.set 5 0 (.bin .Sub (.bin .LShift (.cI 1) (.var 4)) (.cI 1))) (d2R a' b' (2*h) P (H7 (.int h)) H9 H9 H9 H9 H9 H9) []=H7 (.next (d2R a' b' (2*h) P (H7 (.int h)) (H7 (.int (2^h-1:Nat))) H9 H9 H9 H9 H9) []):=by
   refine au (v:= .int (2^h-1:Nat)) (af (a:= .int (1*2^h:Nat)) (b:= .int (1:Nat)) (af (a:= .int (1:Nat)) (b:= .int h) rfl rfl (rL (m:=1) (by decide) (by lia))) rfl ?_)
   rw [Mn];exact C1 (Ib h)
  rw [aa s5];generalize hM:(H7 (PV.int ((2^h-1:Nat):Int)))=Mk;haveI s6:az Γ (.swap [6,7] [(.bin .RShift (.var 1) (.var 4)),(.bin .BitAnd (.var 1) (.var 5))]) (d2R a' b' (2*h) P (H7 (.int h)) Mk H9 H9 H9 H9 H9) []=
    H7 (.next (d2R a' b' (2*h) P (H7 (.int h)) Mk (H7 (.int (b'/2^h:Nat))) (H7 (.int (b' % 2^h:Nat))) H9 H9 H9) []):=
   lU (ac (v:= .int (b'/2^h:Nat)) (af (a:= .int b') (b:= .int h) rfl rfl (uQ b' h)) (ac (v:= .int (b' % 2^h:Nat)) (af (a:= .int b') (b:= .int (2^h-1:Nat)) rfl (by rw [<-hM];rfl) (h_ b' h)) bY)) rfl
  rw [aa s6];have c1:=h3 _ _ _ _ _ _ z1;rw [e1]at c1;haveI c2:=h3 _ _ _ _ _ _ z2;haveI s7:az Γ (.setT [8,9] 0 (.call 4 [(.bin .RShift (.var 0) (.var 2)),(.bin .BitAnd (.bin .RShift (.var 0) (.var 4)) (.var 5)),(.var 1),(.var 6),(.var 7),(.var 4)])) (d2R a' b' (2*h) P (H7 (.int h)) Mk (H7 (.int (b'/2^h:Nat))) (H7 (.int (b' % 2^h:Nat))) H9 H9 H9) []=
    H7 (.next (d2R a' b' (2*h) P (H7 (.int h)) Mk (H7 (.int (b'/2^h:Nat))) (H7 (.int (b' % 2^h:Nat))) (H7 (.int (a'/2^h/b':Nat))) (H7 (.int (a'/2^h % b':Nat))) H9) []):=by
   refine dj (aq (ac (v:= .int (a'/2^(2*h):Nat)) (af (a:= .int a') (b:= .int (2*h:Nat)) rfl rfl (uQ _ _))
    (ac (v:= .int (a'/2^h % 2^h:Nat)) (af (a:= .int (a'/2^h:Nat)) (b:= .int (2^h-1:Nat)) (af (a:= .int a') (b:= .int h) rfl rfl (uQ _ _)) (by rw [<-hM];rfl) (h_ _ _))
     (ac (v:= .int b') rfl (ac (v:= .int (b'/2^h:Nat)) rfl (ac (v:= .int (b' % 2^h:Nat)) rfl (ac (v:= .int h) rfl bY)))))) c1) rfl
  rw [aa s7];haveI s8:az Γ (.setT [10,9] 0 (.call 4 [(.var 9),(.bin .BitAnd (.var 0) (.var 5)),(.var 1),(.var 6),(.var 7),(.var 4)])) (d2R a' b' (2*h) P (H7 (.int h)) Mk (H7 (.int (b'/2^h:Nat))) (H7 (.int (b' % 2^h:Nat))) (H7 (.int (a'/2^h/b':Nat))) (H7 (.int (a'/2^h % b':Nat))) H9) []=
    H7 (.next (d2R a' b' (2*h) P (H7 (.int h)) Mk (H7 (.int (b'/2^h:Nat))) (H7 (.int (b' % 2^h:Nat))) (H7 (.int (a'/2^h/b':Nat))) (H7 (.int (a % b*2^(n % 2):Nat))) (H7 (.int ((a'/2^h % b'*2^h+a' % 2^h)/b':Nat)))) []):=by
   rw [<-er];exact dj (aq (ac (v:= .int (a'/2^h % b':Nat)) rfl
    (ac (v:= .int (a' % 2^h:Nat)) (af (a:= .int a') (b:= .int (2^h-1:Nat)) rfl (by rw [<-hM];rfl) (h_ _ _))
     (ac (v:= .int b') rfl (ac (v:= .int (b'/2^h:Nat)) rfl (ac (v:= .int (b' % 2^h:Nat)) rfl (ac (v:= .int h) rfl bY)))))) c2) rfl
  rw [aa s8];generalize hq2:(a'/2^h % b'*2^h+a' % 2^h)/b'=q2 at*
  generalize hq1:a'/2^h/b'=q1 at*
  generalize (H7 (PV.int ((b'/2^h:Nat):Int)))=X1;generalize (H7 (PV.int ((b' % 2^h:Nat):Int)))=X2;haveI s9:az Γ (.ite (.var 3) [.aug 9 .RShift 0 (.cI 1)] []) (d2R a' b' (2*h) P (H7 (.int h)) Mk X1 X2 (H7 (.int q1)) (H7 (.int (a % b*2^(n % 2):Nat))) (H7 (.int q2))) []=
    H7 (.next (d2R a' b' (2*h) P (H7 (.int h)) Mk X1 X2 (H7 (.int q1)) (H7 (.int (a % b:Nat))) (H7 (.int q2))) []):=by
   rw [<-hP];rcases Mc n with e|e
   ·rw [e,P3,Pp]
    exact an (t:=Hb) rfl rfl
   ·rw [e]
    refine an (t:=Hd) rfl ?_;rw [if_pos rfl];have:=uQ (a % b*2^1) 1;rw [Nat.mul_div_cancel _ (Ib 1)]at this;rw [aa (dq (a:= .int (a % b*2^1:Nat)) (b:= .int (1:Nat)) rfl rfl this rfl)]
    rfl
  rw [aa s9];refine ak (aC ?_);haveI e1:pev Γ (.bin .BitOr (.bin .LShift (.var 8) (.var 4)) (.var 10)) (d2R a' b' (2*h) P (H7 (.int h)) Mk X1 X2 (H7 (.int q1)) (H7 (.int (a % b:Nat))) (H7 (.int q2)))=H7 (.int (a/b:Nat)):=by rw [<-eq];exact af (a:= .int (q1*2^h:Nat)) (b:= .int q2) (af (a:= .int q1) (b:= .int h) rfl rfl (rL lq1 (by lia))) rfl (por lq2)
  exact aF (ac e1 (ac (v:= .int (a % b:Nat)) rfl bY)) rfl
end
def n2N:List HJ:=["a","b","n","pad","half_n","mask","b1","b2","q1","r","q2"]
def n3N:List HJ:=["a12","a3","b","b1","b2","n","q","r"]
def uX (args:List PV) (i:Nat):Nat:=((args[i]?).bind (oI H7)).elim 0 Int.toNat
open Classical in
def F2 (l:Nat) (args:List PV):Option PV:=giv (∃a b n:Nat,args=[.int a,.int b,.int n]/\bz2 l a b n) (bx (uX args 0) (uX args 1))
open Classical in
def F3 (l:Nat) (args:List PV):Option PV:=giv (∃Qd a3 b b1 b2 n:Nat,args=[.int Qd,.int a3,.int b,.int b1,.int b2,.int n]/\bz3 l Qd a3 b b1 b2 n) (bx (uX args 0*2^uX args 5+uX args 1) (uX args 2))
open Classical in
theorem BZ (h:bz2 l a b n):F2 l [.int (a:Nat),.int (b:Nat),.int (n:Nat)]=H7 (bx a b):=eA ⟨a,b,n,rfl,h⟩
open Classical in
theorem F_ (h:bz3 l Qd a3 b b1 b2 n):F3 l [.int (Qd:Nat),.int (a3:Nat),.int (b:Nat),.int (b1:Nat),.int (b2:Nat),.int (n:Nat)]=H7 (bx (Qd*2^n+a3) b):=eA ⟨Qd,a3,b,b1,b2,n,rfl,h⟩
open Classical in
theorem xy (h:F2 l args=H7 r): ∃a b n:Nat,args=[.int a,.int b,.int n]/\bz2 l a b n/\r=bx a b:=
 ba (P:=λr=> ∃a b n:Nat,args=[.int a,.int b,.int n]/\bz2 l a b n/\r=bx a b) h fun⟨a,b,n,e,h⟩=>⟨a,b,n,e,h,by rw [e];rfl⟩
open Classical in
theorem DX (h:F3 l args=H7 r): ∃Qd a3 b b1 b2 n:Nat,args=[.int Qd,.int a3,.int b,.int b1,.int b2,.int n]/\bz3 l Qd a3 b b1 b2 n/\r=bx (Qd*2^n+a3) b:=
 ba (P:=λr=> ∃Qd a3 b b1 b2 n:Nat,args=[.int Qd,.int a3,.int b,.int b1,.int b2,.int n]/\bz3 l Qd a3 b b1 b2 n/\r=bx (Qd*2^n+a3) b) h fun⟨Qd,a3,b,b1,b2,n,e,h⟩=>⟨Qd,a3,b,b1,b2,n,e,h,by rw [e];rfl⟩
variable {f2 f3:Hw} {o2 o3:Oh} {SG T5:Ku} {R8 R7:List IR}
section
theorem y8 (GO:ai C Γ) (X2:kt C "_div2n1n" 3 f2 o2 SG) (D3:bW C f3 o3 T5 R7 ["a12","a3","b","b1","b2","n"] n3N) (S3:sSs C.gl n3N h0 T5.scope.names 40 R7=pN) (hd:C.d<=d)
  (P: ∀a b n,bz2 l a b n->aj C.prog C.w C.H d f2 [.int (a:Nat),.int (b:Nat),.int (n:Nat)] (bx a b)) (h:bz3 l Qd a3 b b1 b2 n):
  aj C.prog C.w C.H (d+1) f3 [.int (Qd:Nat),.int (a3:Nat),.int (b:Nat),.int (b1:Nat),.int (b2:Nat),.int (n:Nat)] (bx (Qd*2^n+a3) b):=by
 haveI Yf:ai (C.at d) (Γ.put 3 (F2 l)):=(GO.at hd).put (C:=C.at d) ⟨X2.only,X2.loads,X2.ho,X2.hd⟩ λargs r hr=>by obtain⟨a,b,n,rfl,hb,rfl⟩:=xy hr;exact P a b n hb
 have hS:=(d9 (Q4:=n3N) Yf h0 T5.scope.names 40).2 R7;rw [show sSs (C.at d).gl n3N h0 T5.scope.names 40 R7=pN from S3]at hS;exact dJ (C:=C.at d) (D3.at d) GO.sy hS (by
  haveI e:(["a12","a3","b","b1","b2","n"]:List HJ).map n3N.idxOf=[0,1,2,3,4,5]:=by decide
  rw [e];exact Bb (l:=l) (λa b n h=>BZ h) h)
theorem qk (GO:ai C Γ) (SU:Γ.gv 0=H7 (.int 4000)) (X3:kt C "_div3n2n" 4 f3 o3 T5) (D2:bW C f2 o2 SG R8 ["a","b","n"] n2N) (S2:sSs C.gl n2N h0 SG.scope.names 40 R8=nS) (hd:C.d<=d)
  (P: ∀m,l=m+1-> ∀Qd a3 b b1 b2 n,bz3 m Qd a3 b b1 b2 n->aj C.prog C.w C.H d f3 [.int (Qd:Nat),.int (a3:Nat),.int (b:Nat),.int (b1:Nat),.int (b2:Nat),.int (n:Nat)] (bx (Qd*2^n+a3) b)) (h:bz2 l a b n):
  aj C.prog C.w C.H (d+1) f2 [.int (a:Nat),.int (b:Nat),.int (n:Nat)] (bx a b):=by
 have fin: ∀Γ':Gam,ai (C.at d) Γ'->Γ'.gv 0=H7 (.int 4000)->(∀m,l=m+1-> ∀Qd a3 b b1 b2 n,bz3 m Qd a3 b b1 b2 n->Γ'.fn 4 [.int (Qd:Nat),.int (a3:Nat),.int (b:Nat),.int (b1:Nat),.int (b2:Nat),.int (n:Nat)]=H7 (bx (Qd*2^n+a3) b))->
   aj C.prog C.w C.H (d+1) f2 [.int (a:Nat),.int (b:Nat),.int (n:Nat)] (bx a b):=λΓ' Yf hg h3=>by
  have hS:=(d9 (Q4:=n2N) Yf h0 SG.scope.names 40).2 R8;rw [show sSs (C.at d).gl n2N h0 SG.scope.names 40 R8=nS from S2]at hS;exact dJ (C:=C.at d) (D2.at d) GO.sy hS (by
   haveI e:(["a","b","n"]:List HJ).map n2N.idxOf=[0,1,2]:=by decide
   rw [e];exact Bd hg h3 h)
 cases l with
 |zero=>exact fin Γ (GO.at hd) SU λm hm=>by cases hm
 |succ m=>
  refine fin (Γ.put 4 (F3 m)) ((GO.at hd).put (C:=C.at d) ⟨X3.only,X3.loads,X3.ho,X3.hd⟩ λargs r hr=> ?_) SU λm' hm Qd a3 b b1 b2 n h=> ?_
  ·obtain⟨Qd,a3,b,b1,b2,n,rfl,hb,rfl⟩:=DX hr
   exact P m rfl Qd a3 b b1 b2 n hb
  ·cases hm
   exact F_ h
theorem jb (GO:ai C Γ) (SU:Γ.gv 0=H7 (.int 4000)) (X2:kt C "_div2n1n" 3 f2 o2 SG) (X3:kt C "_div3n2n" 4 f3 o3 T5) (D2:bW C f2 o2 SG R8 ["a","b","n"] n2N) (D3:bW C f3 o3 T5 R7 ["a12","a3","b","b1","b2","n"] n3N)
  (S2:sSs C.gl n2N h0 SG.scope.names 40 R8=nS) (S3:sSs C.gl n3N h0 T5.scope.names 40 R7=pN):
  ∀l a b n,bz2 l a b n->aj C.prog C.w C.H (C.d+2*l+1) f2 [.int (a:Nat),.int (b:Nat),.int (n:Nat)] (bx a b)
 |0,a,b,n,h=>qk GO SU X3 D2 S2 (d:=C.d+2*0) (by exact Hm _) (λm hm=>by cases hm) h
 |l+1,a,b,n,h=>by
  haveI ih:=jb GO SU X2 X3 D2 D3 S2 S3 l;refine qk GO SU X3 D2 S2 (d:=C.d+2*(l+1)) (by exact HD _ _) (λm hm Qd a3 b b1 b2 n h3=> ?_) h
  cases hm;exact y8 GO X2 D3 S3 (d:=C.d+2*l+1) (by exact HN (HD _ _)) ih h3
end
def jp:List PS:=[.setT [7,4] 0 (.call 3 [(.bin .Add (.bin .LShift (.var 4) (.var 2)) (.var 6)),(.var 1),(.var 2)]),.app 5 0 (.var 7)]
def rN:List PS:=[
 .set 2 0 (.meth .bitlen (.var 1) []),
 .set 3 0 (.call 5 [(.var 0),(.var 2)]),
 .set 4 0 (.cI 0),
 .own 5 (.list []),
 .for_ (.one 6) (.rev (.var 3)) jp,
 .rev 5,
 .set 8 2 (.call 6 [(.var 5),(.var 2)]),
 .ret (.tup [(.var 8),(.var 4)])]
def dpR (a b n:Nat) (ds:List Int) (r:Nat) (qs:List Int) (x6 x7 x8:Option PV):Ρ:=[H7 (.int a),H7 (.int b),H7 (.int n),H7 (.list (ds.map .int)),H7 (.int r),H7 (.list (qs.map .int)),x6,x7,x8]
section
theorem uJ (hn:0<n) (QS:n<=2^20) (hb:2^(n-1)<=b) (QP:b<2^n)
  (h3: ∀a',a'<b*2^n->Γ.fn 3 [.int (a':Nat),.int (b:Nat),.int (n:Nat)]=H7 (bx a' b)):
  ∀(xs:List Int) (V:Nat) (qs:List Int) (x6 x7:Option PV),(∀d∈xs,0<=d/\d<2^n)->(∀q∈qs,0<=q/\q<2^n)->hsum n qs.reverse=((V/b:Nat):Int)->qs.length+xs.length<2^24->
   ∃(V':Nat) (RZ:List Int) (y6 y7:Option PV),eG (.one 6) (λρ own=>ag Γ jp ρ own) (xs.map .int) (dpR a b n ds (V % b) qs x6 x7 H9) [5]=H7 (.next (dpR a b n ds (V' % b) RZ y6 y7 H9) [5])/\
    (V':Int)=V*2^(n*xs.length)+hsum n xs.reverse/\hsum n RZ.reverse=((V'/b:Nat):Int)/\RZ.length=qs.length+xs.length/\(∀q∈RZ,0<=q/\q<2^n)
 |[],V,qs,x6,x7,hx,hq,hs,hl=>⟨V,qs,x6,x7,rfl,by simp [hsum],hs,rfl,hq⟩
 |d::xs,V,qs,x6,x7,hx,hq,hs,hl=>by
  have RK:0<b:=Ha (Ib _) hb;obtain⟨Ut,WZ⟩:=hx d Hs;obtain⟨e,rfl⟩:=I' Ut;haveI he:e<2^n:=by
   haveI:((2^n:Nat):Int)=(2:Int)^n:=by simp
   exact EF WZ
  have hr:V % b<b:=Kq _ RK;have hA:V % b*2^n+e<b*2^n:=by haveI:(V % b+1)*2^n<=b*2^n:=IC _ hr;rw [KN]at this;exact aLt he this
  have hdm:V*2^n+e=b*(V/b*2^n)+(V % b*2^n+e):=by
   have:=L9 V b;haveI e2:V*2^n=(b*(V/b)+V % b)*2^n:=by rw [this]
   rw [e2,KN,LF];exact I7 _ _ _
  haveI hq1:(V*2^n+e)/b=V/b*2^n+(V % b*2^n+e)/b:=by rw [hdm,Oi RK]
  haveI hr1:(V*2^n+e) % b=(V % b*2^n+e) % b:=by rw [hdm,Nat.mul_add_mod]
  haveI hqd:(V % b*2^n+e)/b<2^n:=(Ja RK).mpr (by rw [ID (2^n) b];exact hA)
  haveI Rk:ag Γ jp ((dpR a b n ds (V % b) qs x6 x7 H9).set 6 (H7 (.int e))) [5]=
    H7 (.next (dpR a b n ds ((V*2^n+e) % b) (qs++[(((V % b*2^n+e)/b:Nat):Int)]) (H7 (.int e)) (H7 (.int ((V % b*2^n+e)/b:Nat))) H9) [5]):=by
   haveI s1:az Γ (.setT [7,4] 0 (.call 3 [(.bin .Add (.bin .LShift (.var 4) (.var 2)) (.var 6)),(.var 1),(.var 2)])) ((dpR a b n ds (V % b) qs x6 x7 H9).set 6 (H7 (.int e))) [5]=
     H7 (.next (dpR a b n ds ((V*2^n+e) % b) qs (H7 (.int e)) (H7 (.int ((V % b*2^n+e)/b:Nat))) H9) [5]):=by
    haveI ev:mev Γ 0 (.call 3 [(.bin .Add (.bin .LShift (.var 4) (.var 2)) (.var 6)),(.var 1),(.var 2)]) ((dpR a b n ds (V % b) qs x6 x7 H9).set 6 (H7 (.int e))) [5]=H7 (bx (V % b*2^n+e) b):=by
     haveI:pev Γ (.call 3 [(.bin .Add (.bin .LShift (.var 4) (.var 2)) (.var 6)),(.var 1),(.var 2)]) (ek 0 ((dpR a b n ds (V % b) qs x6 x7 H9).set 6 (H7 (.int e))) [5])=H7 (bx (V % b*2^n+e) b):=
      aq (ac (v:= .int (V % b*2^n+e:Nat)) (af (a:= .int (V % b*2^n:Nat)) (b:= .int e) (af (a:= .int (V % b:Nat)) (b:= .int n) rfl rfl (rL (J6 hr QP) (by exact H8 (HE QS QS) (by decide)))) rfl (C2 _ _))
       (ac (v:= .int b) rfl (ac (v:= .int n) rfl bY))) (h3 _ hA)
     exact zC this
    rw [hr1];exact aF ev rfl
   haveI s2:az Γ (.app 5 0 (.var 7)) (dpR a b n ds ((V*2^n+e) % b) qs (H7 (.int e)) (H7 (.int ((V % b*2^n+e)/b:Nat))) H9) [5]=
     H7 (.next (dpR a b n ds ((V*2^n+e) % b) (qs++[(((V % b*2^n+e)/b:Nat):Int)]) (H7 (.int e)) (H7 (.int ((V % b*2^n+e)/b:Nat))) H9) [5]):=by
    refine(fF (xs:=qs.map .int) (v:= .int ((V % b*2^n+e)/b:Nat)) rfl rfl rfl (by rw [Hf];simp only [Hv]at hl;unfold Hz;exact Hk (HD _ _) hl)).trans ?_
    unfold dpR;rw [HY]
    rfl
   unfold jp;rw [aa s1,aa s2]
   rfl
  obtain⟨V',RZ,y6,y7,i1,i2,i3,i4,i5⟩:=uJ hn QS hb QP h3 xs (V*2^n+e) (qs++[(((V % b*2^n+e)/b:Nat):Int)]) (H7 (.int e)) (H7 (.int ((V % b*2^n+e)/b:Nat))) (λd hd=>hx d (Hq _ hd)) (λq hq'=>by
   rcases Ik.mp hq' with h|h
   ·exact hq q h
   ·rw [Hx]at h
    subst h;refine⟨HA _, ?_⟩;haveI:((2^n:Nat):Int)=(2:Int)^n:=by simp
    exact aPw hqd) (by
   rw [List.reverse_append,List.reverse_singleton,P9,hsum,hs,hq1];simp only [Jr,K6,La];rw [M3];rfl) (by rw [Hn];simp only [Hv,I0]at hl ⊢;exact Hk (Hu (HS _ _ _)) hl)
  refine⟨V',RZ,y6,y7, ?_, ?_,i3,by rw [i4,Hn];simp only [Hv,I0];exact HS _ _ _,i5⟩
  ·rw [HI,BM]
   haveI:((ptIdx (.one 6)).all λi=> !([5]:List Nat).contains i)=Hd:=by decide
   rw [if_pos this];show((aX (dpR a b n ds (V % b) qs x6 x7 H9) (.one 6) (.int e)).bind λρ'=>_)=_;rw [aX,Je];show((ag Γ jp ((dpR a b n ds (V % b) qs x6 x7 H9).set 6 (H7 (.int e))) [5]).bind _)=_;rw [Rk,Je];exact i1
  ·rw [i2,List.reverse_cons,gM,Kc,Hv,hsum,hsum]
   simp only [Jr,K6,La,Pb,NC];rw [Int.add_mul,LK,show((2:Nat):Int)=2 from rfl,<-Int.pow_add,show n+n*xs.length=n*(xs.length+1)by rw [K7];exact Iv _ _]
   show _=_+(_+(e:Int)*_);lia
theorem B2 (hn:n=Hc (b:Int)) (RK:0<b) (QS:n<=2^20) {K:Nat} (hK:K<2^24) (haK:a<2^(n*K))
  (h5:Γ.fn 5 [.int a,.int n]=H7 (.list ((digs n K a).map .int)))
  (h3: ∀a',a'<b*2^n->Γ.fn 3 [.int (a':Nat),.int (b:Nat),.int (n:Nat)]=H7 (bx a' b))
  (h6: ∀qs:List Int,qs.length=K->(∀q∈qs,0<=q/\q<2^n)->Γ.fn 6 [.list (qs.map .int),.int n]=H7 (.int (hsum n qs))):
  aE Γ 9 [0,1] rN [.int a,.int b]=H7 (bx a b):=by
 haveI QP:b<2^n:=by rw [hn];exact oP b
 haveI UU:0<n:=by rw [hn,gY RK];exact LY _
 haveI hb:2^(n-1)<=b:=by rw [hn,gY RK,Nt];exact Nat.log2_self_le (by lia)
 haveI hρ:aW (Hy 9 H9) [0,1] [.int a,.int b]=H7 [H7 (.int a),H7 (.int b),H9,H9,H9,H9,H9,H9,H9]:=rfl;unfold aE;rw [hρ]
 suffices hs:ag Γ rN [H7 (.int a),H7 (.int b),H9,H9,H9,H9,H9,H9,H9] []=H7 (.ret (bx a b))by simp only [IT,Je,hs]
 unfold rN;rw [aa (au (v:= .int n) (by rw [hn];rfl))]
 rw [aa (au (v:= .list ((digs n K a).map .int)) (aq (ac (v:= .int a) rfl (ac (v:= .int n) rfl bY)) h5))];rw [aa (au (v:= .int (0:Nat)) rfl)];haveI s4:az Γ (.own 5 (.list [])) (((([H7 (PV.int (a:Nat)),H7 (.int (b:Nat)),H9,H9,H9,H9,H9,H9,H9]:Ρ).set 2 (H7 (.int n))).set 3 (H7 (.list ((digs n K a).map .int)))).set 4 (H7 (.int (0:Nat)))) []=
   H7 (.next (dpR a b n (digs n K a) 0 [] H9 H9 H9) [5]):=rfl
 rw [aa s4];obtain⟨V',RZ,y6,y7,i1,i2,i3,i4,i5⟩:=uJ (Γ:=Γ) (a:=a) (ds:=digs n K a) UU QS hb QP h3 (digs n K a).reverse 0 [] H9 H9 (λd hd=>by
  have hd:=NH.mp hd;obtain⟨h1,h2⟩:=ny n K a d hd;refine⟨h2, ?_⟩;have:=Ia.mp h1;haveI h3:((2^n:Nat):Int)=(2:Int)^n:=by simp
  exact aNp h2 this) (λq hq=>by cases hq) (by simp [hsum]) (by rw [Kc,eO];simpa using hK)
 rw [Nat.zero_mod]at i1;haveI s5:az Γ (.for_ (.one 6) (.rev (.var 3)) jp) (dpR a b n (digs n K a) 0 [] H9 H9 H9) [5]=H7 (.next (dpR a b n (digs n K a) (V' % b) RZ y6 y7 H9) [5]):=by
  haveI:pit Γ (.rev (.var 3)) (aw (dpR a b n (digs n K a) 0 [] H9 H9 H9) [5])=H7 (((digs n K a).reverse).map .int):=by rw [NI];rfl
  exact(eE this).trans i1
 rw [aa s5];haveI hV:V'=a:=by rw [List.reverse_reverse,np n K a haK]at i2;simp at i2;lia
 subst hV;haveI s6:az Γ (.rev 5) (dpR V' b n (digs n K V') (V' % b) RZ y6 y7 H9) [5]=H7 (.next (dpR V' b n (digs n K V') (V' % b) RZ.reverse y6 y7 H9) [5]):=by
  show(if([5]:List Nat).contains 5=Hd/\(RZ.map PV.int).length<=Hz then _ else H9)=_;rw [if_pos ⟨rfl,by rw [Hf,i4,Kc,eO];simp only [I0];unfold Hz;exact Ps (HP hK) (IH _)⟩]
  unfold dpR;rw [NI]
  rfl
 rw [aa s6];have hq:RZ.reverse.length=K:=by rw [Kc,i4,Kc,eO];simp
 haveI s7:az Γ (.set 8 2 (.call 6 [(.var 5),(.var 2)])) (dpR V' b n (digs n K V') (V' % b) RZ.reverse y6 y7 H9) [5]=H7 (.next (dpR V' b n (digs n K V') (V' % b) RZ.reverse y6 y7 (H7 (.int (V'/b:Nat)))) [5]):=by
  rw [e9 (v:= .int (V'/b:Nat)) (by rw [<-i3];exact aq (ac (v:= .list (RZ.reverse.map .int)) rfl (ac (v:= .int n) rfl bY)) (h6 _ hq λq hq=>i5 q (NH.mp hq))) rfl]
  rfl
 rw [aa s7];exact ak (aC (aF (ac (v:= .int (V'/b:Nat)) rfl (ac (v:= .int (V' % b:Nat)) rfl bY)) rfl))
end
def F5 (args:List PV):Option PV:=fII (λa n=>giv (0<=a/\0<n/\n<=500000/\Hc a<=500000) (.list ((digs n.toNat (kOf a.toNat n.toNat) a.toNat).map .int))) args
def F6 (args:List PV):Option PV:=a2 (λx y=>oL (λxs=>oI (λn=>(fz xs).bind λds=>giv ((∀d∈ds,Hc d<=500000)/\0<=n/\n<=500000/\ds.length<=500000/\n*ds.length<=2000000) (.int (hsum n.toNat ds))) y) x) args
def F7 (args:List PV):Option PV:=fII (λa b=>giv (0<=a/\0<b/\Hc a<=500000/\Hc b<=500000) (bx a.toNat b.toNat)) args
def cu (a b:Int):PV:= .tuple [.int (a.fdiv b),.int (a.fmod b)]
def F8 (args:List PV):Option PV:=fII (λa b=>giv (b≠0/\Hc a<=500000/\Hc b<=500000) (cu a b)) args
theorem j3 (xs:List Int):fz (xs.map .int)=H7 xs:=by
 induction xs with
 |nil=>rfl
 |cons x xs ih=>exact congrArg (Lu (x::·)) ih
theorem yS: ∀{l:List Int},fz xs=H7 l->xs=l.map .int:=by
 induction xs with
 |nil=>exact λh=>Hg h▸rfl
 |cons x xs ih=>
  cases x with
  |int i=>exact λh=>aL (P:=λl=>PV.int i::xs=l.map .int) h λl hl=>congrArg (PV.int i::·) (ih hl)
  |_=>exact λh=>a9 h
theorem BY (h1:0<n) (h2:n<=500000) (h3:Hc a<=500000):F5 [.int a,.int n]=H7 (.list ((digs n (kOf a n) a).map .int)):=
 eA ⟨HA _,Int.natCast_pos.mpr h1,M2.mpr h2,h3⟩
theorem wN (h1: ∀d∈ds,Hc d<=500000) (h2:n<=500000) (h3:ds.length<=500000) (h4:n*ds.length<=2000000):F6 [.list (ds.map .int),.int n]=H7 (.int (hsum n ds)):=
 aF (j3 ds) (eA ⟨h1,HA _,M2.mpr h2,h3,M2.mpr h4⟩)
theorem x9 (hn:0<n):kOf a n<=Hc a/\n*kOf a n<=Hc a+n:=by
 unfold kOf;haveI h1:n*((Hc a+n-1)/n)<=Hc a+n-1:=Nat.mul_div_le _ _;refine⟨?_,by exact H8 h1 (PW _ _)⟩
 rw [Nat.div_le_iff_le_mul_add_pred hn];exact aKl hn (Nat.le_mul_of_pos_left _ hn)
section
variable {f5 f6 f7 f8:Hw} {o5 o6 o7 o8:Oh} {fd5 fd6 Vp Vo:Ku} {Sy Sx:List IR}
def n7N:List HJ:=["a","b","n","a_digits","r","q_digits","a_digit","q_digit","q"]
def h7:HJ->Nat:=λx=>if x== "q_digits" then 9 else if x== "q" then 2 else 0
theorem EM (GO:ai C Γ) (SU:Γ.gv 0=H7 (.int 4000)) (X2:kt C "_div2n1n" 3 f2 o2 SG) (X3:kt C "_div3n2n" 4 f3 o3 T5) (X5:kt C "_int2digits" 5 f5 o5 fd5) (X6:kt C "_digits2int" 6 f6 o6 fd6)
  (D2:bW C f2 o2 SG R8 ["a","b","n"] n2N) (D3:bW C f3 o3 T5 R7 ["a12","a3","b","b1","b2","n"] n3N) (D7:bW C f7 o7 Vp Sy ["a","b"] n7N)
  (S2:sSs C.gl n2N h0 SG.scope.names 40 R8=nS) (S3:sSs C.gl n3N h0 T5.scope.names 40 R7=pN) (S7:sSs C.gl n7N h7 Vp.scope.names 40 Sy=rN)
  (P5: ∀args r,F5 args=H7 r->aj C.prog C.w C.H (C.d+1) f5 args r) (P6: ∀args r,F6 args=H7 r->aj C.prog C.w C.H (C.d+1) f6 args r):
  ∀args r,F7 args=H7 r->aj C.prog C.w C.H (C.d+20) f7 args r:=by
 intro args r hr;refine iV (Q:=λargs=>aj C.prog C.w C.H (C.d+20) f7 args r) hr λa b hr=>ba (P:=λr=>aj C.prog C.w C.H (C.d+20) f7 [.int a,.int b] r) hr fun⟨h1,h2,h3,h4⟩=> ?_;obtain⟨a,rfl⟩:=I' h1;obtain⟨b,rfl⟩:=I' (JN h2);have RK:0<b:=by exact aZp h2
 simp only [I3];haveI G1:ai (C.at (C.d+19)) (Γ.put 3 (F2 9)):=(GO.at (d:=C.d+19) (by exact HD _ _)).put (C:=C.at (C.d+19)) ⟨X2.only,X2.loads,X2.ho,X2.hd⟩ λargs r hr=>by obtain⟨a,b,n,rfl,hb,rfl⟩:=xy hr;exact jb GO SU X2 X3 D2 D3 S2 S3 9 a b n hb
 haveI G2:ai (C.at (C.d+19)) ((Γ.put 3 (F2 9)).put 5 F5):=G1.put (C:=C.at (C.d+19)) ⟨X5.only,X5.loads,X5.ho,X5.hd⟩ λargs r hr=>(P5 args r hr).mono (by show C.d+1<=C.d+19;exact Io (by decide) _)
 haveI G3:ai (C.at (C.d+19)) (((Γ.put 3 (F2 9)).put 5 F5).put 6 F6):=G2.put (C:=C.at (C.d+19)) ⟨X6.only,X6.loads,X6.ho,X6.hd⟩ λargs r hr=>(P6 args r hr).mono (by show C.d+1<=C.d+19;exact Io (by decide) _)
 have hS:=(d9 (Q4:=n7N) G3 h7 Vp.scope.names 40).2 Sy;rw [show sSs (C.at (C.d+19)).gl n7N h7 Vp.scope.names 40 Sy=rN from S7]at hS;refine dJ (C:=C.at (C.d+19)) (D7.at _) GO.sy hS ?_;haveI e:(["a","b"]:List HJ).map n7N.idxOf=[0,1]:=by decide
 rw [e];haveI QP:b<2^Hc b:=oP b;have UU:0<Hc b:=by rw [gY RK];exact LY _
 haveI hb:2^(Hc b-1)<=b:=by rw [gY RK,Nt];exact Nat.log2_self_le (by lia)
 obtain⟨k1,k2⟩:=x9 (a:=a) UU;refine B2 (K:=kOf a (Hc b)) rfl RK (by exact H8 h4 (by decide)) (by exact Hk k1 (Hk h3 (by decide))) (sf UU) ?_ (λa' Rz=> ?_) λqs hq hq2=> ?_
 ·exact BY UU h4 h3
 ·exact BZ ⟨UU,by exact H8 h4 (by decide),by exact H8 h4 (by decide),hb,QP,Rz⟩
 ·refine wN (λd hd=> ?_) h4 (by exact H8 (Hu hq) (H8 k1 h3)) (by rw [hq];exact H8 (H8 k2 (HE h3 h4)) (by decide))
  obtain⟨g1,g2⟩:=hq2 d hd;refine H8 ((Ia (m:=Hc b)).mpr ?_) h4;haveI:((2^Hc b:Nat):Int)=(2:Int)^Hc b:=by simp
  exact aPn g1 g2
def rM:List PS:=[.ite (.cmp .Eq (.var 1) (.cI 0)) [.bad] [.ite (.cmp .Lt (.var 1) (.cI 0)) [.setT [2,3] 0 (.call 8 [(.neg (.var 0)),(.neg (.var 1))]),.ret (.tup [(.var 2),(.neg (.var 3))])] [.ite (.cmp .Lt (.var 0) (.cI 0)) [.setT [2,3] 0 (.call 8 [(.inv (.var 0)),(.var 1)]),.ret (.tup [(.inv (.var 2)),(.bin .Add (.var 1) (.inv (.var 3)))])] [.ret (.call 7 [(.var 0),(.var 1)])]]]]
def n8N:List HJ:=["a","b","q","r"]
theorem AO {a b:Int} (hb:b≠0) (hp:0<=a->0<b->Γ.fn 7 [.int a,.int b]=H7 (cu a b)) (hn:a<0->0<b->Γ.fn 8 [.int (-a-1),.int b]=H7 (cu (-a-1) b)) (XK:b<0->Γ.fn 8 [.int (-a),.int (-b)]=H7 (cu (-a) (-b))):
  aE Γ 4 [0,1] rM [.int a,.int b]=H7 (cu a b):=by
 haveI hρ:aW (Hy 4 H9) [0,1] [.int a,.int b]=H7 [H7 (.int a),H7 (.int b),H9,H9]:=rfl;unfold aE;rw [hρ]
 suffices hs:ag Γ rM [H7 (.int a),H7 (.int b),H9,H9] []=H7 (.ret (cu a b))by simp only [IT,Je,hs]
 unfold rM;have t1:aJ Γ (.cmp .Eq (.var 1) (.cI 0)) [H7 (.int a),H7 (.int b),H9,H9]=H7 (b==0):=rfl;haveI Sn:(b==0)=Hb:=by rw [beq_eq_false_iff_ne];exact hb
 rw [Sn]at t1;refine ak (an t1 ?_);rw [if_neg (by decide)]
 haveI t2:aJ Γ (.cmp .Lt (.var 1) (.cI 0)) [H7 (.int a),H7 (.int b),H9,H9]=H7 (decide (b<0)):=rfl;refine ak (an t2 ?_);by_cases c1:b<0
 ·rw [decide_eq_true c1,if_pos rfl]
  rw [aa (dj (aq (ac (v:= .int (-a)) rfl (ac (v:= .int (-b)) rfl bY)) (XK c1)) rfl)];refine ak (aC ?_);show H7 (PV.tuple [.int ((-a).fdiv (-b)),.int (-((-a).fmod (-b)))])=_;unfold cu;rw [Int.neg_fdiv_neg,Int.neg_fmod_neg,Int.neg_neg]
 ·rw [decide_eq_false c1,if_neg (by decide)]
  have U2:0<b:=by lia
  haveI t3:aJ Γ (.cmp .Lt (.var 0) (.cI 0)) [H7 (.int a),H7 (.int b),H9,H9]=H7 (decide (a<0)):=rfl;refine ak (an t3 ?_);by_cases c2:a<0
  ·rw [decide_eq_true c2,if_pos rfl]
   rw [aa (dj (aq (ac (v:= .int (-a-1)) rfl (ac (v:= .int b) rfl bY)) (hn c2 U2)) rfl)];refine ak (aC ?_);show H7 (PV.tuple [.int (-((-a-1).fdiv b)-1),.int (b+(-((-a-1).fmod b)-1))])=_;unfold cu;rw [IK _ (JN U2),Jp _ (JN U2),IK _ (JN U2),Jp _ (JN U2)];haveI e1:=Int.mul_ediv_add_emod (-a-1) b;haveI e2:=Int.emod_nonneg (-a-1) (show b≠0 by lia)
   haveI e3:=Int.emod_lt_of_pos (-a-1) U2;haveI key:a=b*(-((-a-1)/b)-1)+(b+(-((-a-1) % b)-1)):=by rw [Int.mul_sub,Int.mul_neg,Pv];lia
   obtain⟨k1,k2⟩:=(Int.ediv_emod_unique (a:=a) (q:= -((-a-1)/b)-1) (r:=b+(-((-a-1) % b)-1)) U2).mpr ⟨by lia,by lia,by lia⟩
   rw [k1,k2]
  ·rw [decide_eq_false c2,if_neg (by decide)]
   exact ak (aC (aq (ac (v:= .int a) rfl (ac (v:= .int b) rfl bY)) (hp (by lia) U2)))
theorem B3:bx a b=cu a b:=by unfold bx cu;rw [IK _ (HA _),Jp _ (HA _)];simp
theorem EL (GO:ai C Γ) (X7:kt C "_divmod_pos" 7 f7 o7 Vp) (X8:kt C "int_divmod" 8 f8 o8 Vo) (D8:bW C f8 o8 Vo Sx ["a","b"] n8N) (S8:sSs C.gl n8N h0 Vo.scope.names 40 Sx=rM)
 (hd:C.d<=d) (P7: ∀args r,F7 args=H7 r->aj C.prog C.w C.H d f7 args r): ∀args r,F8 args=H7 r->aj C.prog C.w C.H (d+3) f8 args r:=by
 have step: ∀(d':Nat) (Γ':Gam) (a b:Int),C.d<=d'->ai (C.at d') Γ'->b≠0->(0<=a->0<b->Γ'.fn 7 [.int a,.int b]=H7 (cu a b))->(a<0->0<b->Γ'.fn 8 [.int (-a-1),.int b]=H7 (cu (-a-1) b))->
   (b<0->Γ'.fn 8 [.int (-a),.int (-b)]=H7 (cu (-a) (-b)))->aj C.prog C.w C.H (d'+1) f8 [.int a,.int b] (cu a b):=λd' Γ' a b R1 G hb hp hn XK=>by
  have hS:=(d9 (Q4:=n8N) G h0 Vo.scope.names 40).2 Sx;rw [show sSs (C.at d').gl n8N h0 Vo.scope.names 40 Sx=rM from S8]at hS;refine dJ (C:=C.at d') (D8.at _) GO.sy hS ?_;haveI e:(["a","b"]:List HJ).map n8N.idxOf=[0,1]:=by decide
  rw [e];exact AO hb hp hn XK
 have G7: ∀d',d<=d'->ai (C.at d') (Γ.put 7 F7):=λd' h=>(GO.at (d:=d') (by exact H8 hd h)).put (C:=C.at d') ⟨X7.only,X7.loads,X7.ho,X7.hd⟩ λargs r hr=>(P7 args r hr).mono h
 have UG: ∀{a b:Int},0<=a->0<b->Hc a<=500000->Hc b<=500000->F7 [.int a,.int b]=H7 (cu a b):=λ{a b} h1 h2 h3 h4=>by haveI:F7 [.int a,.int b]=H7 (bx a.toNat b.toNat):=eA ⟨h1,h2,h3,h4⟩;rw [this,B3,KY h1,KY (JN h2)]
 --both not negative
 haveI A: ∀a b:Int,0<=a->0<b->Hc a<=500000->Hc b<=500000->aj C.prog C.w C.H (d+1) f8 [.int a,.int b] (cu a b):=λa b h1 h2 h3 h4=>
  step d _ a b hd (G7 d (Hm _)) (by lia) (λ_ _=>UG h1 h2 h3 h4) (λh=>by lia) λh=>by lia
 let FA:List PV->Option PV:=λargs=>fII (λa b=>giv (0<=a/\0<b/\Hc a<=500000/\Hc b<=500000) (cu a b)) args;haveI GA:ai (C.at (d+1)) ((Γ.put 7 F7).put 8 FA):=(G7 (d+1) (by exact HD _ _)).put (C:=C.at (d+1)) ⟨X8.only,X8.loads,X8.ho,X8.hd⟩ λargs r hr=>
  iV (Q:=λargs=>aj C.prog C.w C.H (d+1) f8 args r) hr λa b hr=>ba (P:=aj C.prog C.w C.H (d+1) f8 [.int a,.int b]) hr λhc=>A _ _ hc.1 hc.2.1 hc.2.2.1 hc.2.2.2
 have VR: ∀{a:Int},Hc a<=500000->a<0->Hc (-a-1)<=500000:=λ{a} h hn=>PySem.intBits_le_of_natAbs (by exact G_ hn) h
 haveI B: ∀a b:Int,0<b->Hc a<=500000->Hc b<=500000->aj C.prog C.w C.H (d+2) f8 [.int a,.int b] (cu a b):=λa b h2 h3 h4=>
  step (d+1) _ a b (by exact HN hd) GA (by lia) (λh1 _=>UG h1 h2 h3 h4) (λh _=>if_pos ⟨by lia,h2,VR h3 h,h4⟩) λh=>by lia
 let FB:List PV->Option PV:=λargs=>fII (λa b=>giv (0<b/\Hc a<=500000/\Hc b<=500000) (cu a b)) args;haveI GB:ai (C.at (d+2)) ((Γ.put 7 F7).put 8 FB):=(G7 (d+2) (by exact HD _ _)).put (C:=C.at (d+2)) ⟨X8.only,X8.loads,X8.ho,X8.hd⟩ λargs r hr=>
  iV (Q:=λargs=>aj C.prog C.w C.H (d+2) f8 args r) hr λa b hr=>ba (P:=aj C.prog C.w C.H (d+2) f8 [.int a,.int b]) hr λhc=>B _ _ hc.1 hc.2.1 hc.2.2
 exact λargs r hr=>iV (Q:=λargs=>aj C.prog C.w C.H (d+3) f8 args r) hr λa b hr=>ba (P:=aj C.prog C.w C.H (d+3) f8 [.int a,.int b]) hr λhc=>
  step (d+2) _ a b (by exact HN hd) GB hc.1 (λh1 h2=>UG h1 h2 hc.2.1 hc.2.2) (λh h2=>if_pos ⟨h2,VR hc.2.1 h,hc.2.2⟩) λh=>eA ⟨by exact Int.neg_pos_of_neg h,OZ hc.2.1,OZ hc.2.2⟩
end
end Internal
namespace Internal
open PySem
def it:Nat->MA->MA
 |0,m=>m
 |n+1,m=>it n m.step
theorem oa (a b:Nat) (m:MA):it (a+b) m=it b (it a m):=by
 induction a generalizing m with
 |zero=>rw [IJ];rfl
 |succ a ih=>rw [NA];exact ih m.step
theorem qj {m:MA} (h:m.outcome.isSome=Hd):m.step=m:=by unfold Sre.M.step;rw [if_pos h]
theorem xa {m:MA} (h:m.outcome.isSome=Hd) (n:Nat):it n m=m:=by
 induction n with
 |zero=>rfl
 |succ n ih=>rw [it,qj h,ih]
set_option tactic.hygienic true in
theorem vq (n:Nat) (m:MA):m.runFor n=it n m:=by
 induction n generalizing m with
 |zero=>rfl
 |succ n ih=>
  rw [Sre.M.runFor,it];split
  ·rename_i h
   rw [qj h,xa h]
  ·exact ih _
theorem wB {m:MA} {a b:Nat} (h:(it a m).outcome.isSome=Hd) (hb:a<=b):it b m=it a m:=by obtain⟨c,rfl⟩:=Nat.exists_eq_add_of_le hb;rw [oa,xa h]
def P1:Array Nat:= #[14,4,0,1,1,6,1,16,46,1]
def P2:Array Nat:= #[14,9,4,1,2,16,10,16,13,0,7,7,16,13,16,10,15,18,5,16,10,15,13,11,16,13,5,5,0,16,10,1,15,2,0,1]
def ms (code t:Array Nat) (last start:Nat) (pc pos handed:Nat) (o:Bool) (fr:List M5) (wt:Nat) (Xh:Option Bool) (seen:J3):MA:=
 {code,text:=t,lim:=t.size,start,lastStart:=last,pc,pos,handed,outermost:=o,marks:= #[],frames:=fr,weight:=wt,answer:=Xh,seen}
variable {t:Array Nat} {last start s pc pos handed wt:Nat} {o:Bool} {fr:List M5} {Xh:Option Bool} {seen:J3}
def rf0 (s:Nat) (o:Bool):M5:={wait:= .nextStart,pc:=5,pos:=s,outermost:=o}
def bol (t:Array Nat) (s:Nat):Bool:=s==0||t.getD (s-1) 0==10
theorem wK:(ms P1 t last start 5 pos handed o fr wt H9 seen).step=
  if bol t pos=Hd then ms P1 t last start 7 pos handed o fr wt H9 ((seen.add 6).add 44)else ms P1 t last start 5 pos handed o fr wt (H7 Hb) ((seen.add 6).add 44):=rfl
theorem xv:(ms P1 t last start 7 pos handed o fr wt H9 seen).step=
  if pos>=t.size then ms P1 t last start 7 pos handed o fr wt (H7 Hb) (seen.add 16)else
   if(t.getD pos 0==46)=Hd then ms P1 t last start 9 (pos+1) handed o fr wt H9 (seen.add 16)else ms P1 t last start 7 pos handed o fr wt (H7 Hb) (seen.add 16):=by
 show(if pos>=t.size then _ else _)=_;split
 ·rfl
 ·show(match(Mq (t.getD pos 0==46,seen.add 16):Except String (Bool×J3))with| .error why=>_| .ok (Hb,seen)=>_| .ok (Hd,seen)=>_)=_
  cases h:t.getD pos 0==46<;>rfl
theorem DV:(ms P1 t last start 9 pos handed o fr wt H9 seen).step=ms P1 t last start 9 pos pos o fr wt (H7 Hd) (seen.add 1):=by cases o<;>rfl
variable {code:Array Nat}
theorem EQ:(ms code t last start pc pos handed o [rf0 s o'] 1 (H7 Hd) seen).step=ms code t last start 5 s handed o' [] 0 (H7 Hd) seen:=rfl
theorem wx:(ms P1 t last start pc pos handed o [rf0 s o'] 1 (H7 Hb) seen).step=
  if s<last then ms P1 t last (s+1) 5 (s+1) (s+1) Hb [rf0 (s+1) Hb] 1 H9 seen else ms P1 t last start 5 s handed o' [] 0 (H7 Hb) seen:=rfl
theorem done_step (b:Bool):(ms code t last start pc pos handed o [] wt (H7 b) seen).step={ms code t last start pc pos handed o [] wt (H7 b) seen with outcome:=H7 (if b then .matched else .failed)}:=rfl
end Internal
namespace Internal
open PySem
def find (Qe:Nat->Option Nat):Nat->Nat->Option (Nat×Nat)
 |0,s=>(Qe s).map (s,·)
 |k+1,s=>match Qe s with
  |some e=>H7 (s,e)
  |none=>find Qe k (s+1)
variable {Qe:Nat->Option Nat} {s:Nat}
theorem iw:find Qe 0 s=(Qe s).map λe=>(s,e):=rfl
theorem jn {k:Nat}:find Qe (k+1) s=(match Qe s with
  |some e=>H7 (s,e)
  |none=>find Qe k (s+1)):=rfl
def Res (m:MA):Option (Nat×Nat)->Prop
 |some (b,e)=>m.outcome=H7 .matched/\m.start=b/\m.handed=e
 |none=>m.outcome=H7 .failed
theorem Res.some' {m:MA} {r} (h:Res m r):m.outcome.isSome=Hd:=by
 cases r with
 |none=>rw [show m.outcome=_ from h];rfl
 |some p=>rw [show m.outcome=_ from h.1];rfl
variable {t:Array Nat} {last start pc pos handed wt:Nat} {o o':Bool} {fr:List M5} {Xh:Option Bool} {seen:J3}
theorem it_one {m:MA} (n:Nat):it (n+1) m=it n m.step:=rfl
def fN (t:Array Nat) (s:Nat):Option Nat:=if bol t s=Hd/\s<t.size/\t.getD s 0=46 then H7 (s+1)else H9
set_option tactic.hygienic true in
theorem qf (h:fN t s=H7 e):Res (it 5 (ms P1 t last s 5 s s o [rf0 s o] 1 H9 seen)) (H7 (s,e)):=by
 unfold fN at h;split at h
 ·rename_i hc
  cases h;rw [it_one,wK,if_pos hc.1,it_one,xv,if_neg (by exact Jj hc.2.1),if_pos (by simp [hc.2.2]),it_one,DV,it_one,EQ,it_one,done_step]
  exact⟨rfl,rfl,rfl⟩
 ·cases h
set_option tactic.hygienic true in
theorem ug (h:fN t s=H9): ∃n RQ,n<=3/\it n (ms P1 t last s 5 s s o [rf0 s o] 1 H9 seen)=
  if s<last then ms P1 t last (s+1) 5 (s+1) (s+1) Hb [rf0 (s+1) Hb] 1 H9 RQ else ms P1 t last s 5 s s o [] 0 (H7 Hb) RQ:=by
 unfold fN at h;split at h
 ·cases h
 ·rename_i hc
  by_cases hb:bol t s=Hd
  ·refine⟨3,((seen.add 6).add 44).add 16,Hm _, ?_⟩
   rw [it_one,wK,if_pos hb,it_one,xv];by_cases hs:s>=t.size
   ·rw [if_pos hs,it_one,wx];rfl
   ·rw [if_neg hs,if_neg (by simp only [beq_iff_eq];exact λe=>hc ⟨hb,by exact KS hs,e⟩),it_one,wx];rfl
  ·refine⟨2,(seen.add 6).add 44,by decide, ?_⟩
   rw [it_one,wK,if_neg hb,it_one,wx];rfl
theorem uk: ∀k s o seen,s+k=t.size-> ∃n,n<=3*k+5/\Res (it n (ms P1 t t.size s 5 s s o [rf0 s o] 1 H9 seen)) (find (fN t) k s)
 |0,s,o,seen,h=>by
  cases hh:fN t s with
  |some e=>exact⟨5,by decide,by rw [iw,hh];exact qf hh⟩
  |none=>
   obtain⟨n,RQ,hn,e⟩:=ug (last:=t.size) (o:=o) (seen:=seen) hh;refine⟨n+1,by exact HM (H8 hn (by decide)), ?_⟩
   rw [oa,e,if_neg (by exact JS (Hu (IW h))),it_one,done_step,iw,hh]
   rfl
 |k+1,s,o,seen,h=>by
  cases hh:fN t s with
  |some e=>exact⟨5,by exact Iy _ _,by rw [jn,hh];exact qf hh⟩
  |none=>
   obtain⟨n,RQ,hn,e⟩:=ug (last:=t.size) (o:=o) (seen:=seen) hh;obtain⟨n',Ra,r⟩:=uk k (s+1) Hb RQ (by exact PH (HS _ _ _) h)
   refine⟨n+n',by lia, ?_⟩
   rw [oa,e,if_pos (by exact Ha (J8 (HD _ _)) (Hu h)),jn,hh]
   exact r
theorem tL (s:Nat) (h:s<=t.size): ∃n,n<=3*t.size+5/\Res (it n (LD P1 t 0 s t.size Hb)) (find (fN t) (t.size-s) s):=by
 by_cases hs:s=t.size
 ·refine⟨1,by exact Iy _ _, ?_⟩
  have e:LD P1 t 0 s t.size Hb=if s>t.size∨t.size-s<1 then ms P1 t 0 s 5 s s Hd [] 0 (H7 Hb) (({}:J3).add 14)else(Mf (ms P1 t t.size s 5 s s Hd [] 0 H9 (({}:J3).add 14)) s Hd):=by
   show(if(decide (s>t.size)||decide (t.size-s<1))=Hd then _ else _)=_;by_cases hc:s>t.size∨t.size-s<1
   ·rw [if_pos hc,if_pos (by simpa using hc)];rfl
   ·rw [if_neg hc,if_neg (by simpa using hc)];rfl
  have hn:fN t s=H9:=by unfold fN;exact if_neg (by lia)
  rw [e,if_pos (by exact Or.inr (K2 h (Hk (Hu (IW hs)) (HR _)))),it_one,done_step,show t.size-s=0 by exact KA (Hu (IW hs)),iw,hn]
  rfl
 ·have e:LD P1 t 0 s t.size Hb=if s>t.size∨t.size-s<1 then ms P1 t 0 s 5 s s Hd [] 0 (H7 Hb) (({}:J3).add 14)else(Mf (ms P1 t t.size s 5 s s Hd [] 0 H9 (({}:J3).add 14)) s Hd):=by
   show(if(decide (s>t.size)||decide (t.size-s<1))=Hd then _ else _)=_;by_cases hc:s>t.size∨t.size-s<1
   ·rw [if_pos hc,if_pos (by simpa using hc)];rfl
   ·rw [if_neg hc,if_neg (by simpa using hc)];rfl
  obtain⟨n,hn,r⟩:=uk (t:=t) (t.size-s) s Hd (({}:J3).add 14) (by exact I9 h)
  refine⟨n,by exact aS5 hn, ?_⟩
  rw [e,if_neg (aNo h hs)];exact r
end Internal
namespace Internal
open PySem
variable {t:Array Nat} {last start s pc pos handed wt:Nat} {o o':Bool} {fr:List M5} {Xh:Option Bool} {seen:J3}
def rg0 (s:Nat) (o:Bool):M5:={wait:= .nextStart,pc:=10,pos:=s,outermost:=o}
def rgk:Sre.Kept:={lastmark:= -1,lastindex:= -1,whole:=Hb,marks:= #[]}
def rgb (s pc:Nat) (o:Bool):M5:={wait:= .nextBranch,pc,pos:=s,outermost:=o,kept:=rgk}
def rgn (s:Nat) (o:Bool):M5:={wait:= .lookNot,pc:=26,pos:=s,outermost:=o,kept:=rgk}
theorem lN:(ms P2 t last start 10 pos handed o fr 1 H9 seen).step=ms P2 t last start 12 pos pos o (rgb pos 11 o::fr) 2 H9 (seen.add 7):=rfl
theorem FQ:(ms P2 t last start 12 pos handed o fr wt H9 seen).step=
  if pos>=t.size then ms P2 t last start 12 pos handed o fr wt (H7 Hb) (seen.add 16)else
   if(t.getD pos 0==13)=Hd then ms P2 t last start 14 (pos+1) handed o fr wt H9 (seen.add 16)else ms P2 t last start 12 pos handed o fr wt (H7 Hb) (seen.add 16):=by
 show(if pos>=t.size then _ else _)=_;split
 ·rfl
 ·show(match(Mq (t.getD pos 0==13,seen.add 16):Except String (Bool×J3))with| .error why=>_| .ok (Hb,seen)=>_| .ok (Hd,seen)=>_)=_
  cases h:t.getD pos 0==13<;>rfl
theorem Cd:(ms P2 t last start 12 pos handed o fr wt H9 seen).step=
  if pos>=t.size then ms P2 t last start 12 pos handed o fr wt (H7 Hb) (seen.add 16)else
   if t.getD pos 0=13 then ms P2 t last start 14 (pos+1) handed o fr wt H9 (seen.add 16)else ms P2 t last start 12 pos handed o fr wt (H7 Hb) (seen.add 16):=by
 rw [FQ];simp only [beq_iff_eq]
theorem FP:(ms P2 t last start 14 pos handed o fr wt H9 seen).step=
  if pos>=t.size then ms P2 t last start 14 pos handed o fr wt (H7 Hb) (seen.add 16)else
   if(t.getD pos 0==10)=Hd then ms P2 t last start 16 (pos+1) handed o fr wt H9 (seen.add 16)else ms P2 t last start 14 pos handed o fr wt (H7 Hb) (seen.add 16):=by
 show(if pos>=t.size then _ else _)=_;split
 ·rfl
 ·show(match(Mq (t.getD pos 0==10,seen.add 16):Except String (Bool×J3))with| .error why=>_| .ok (Hb,seen)=>_| .ok (Hd,seen)=>_)=_
  cases h:t.getD pos 0==10<;>rfl
theorem EB:(ms P2 t last start 14 pos handed o fr wt H9 seen).step=
  if pos>=t.size then ms P2 t last start 14 pos handed o fr wt (H7 Hb) (seen.add 16)else
   if t.getD pos 0=10 then ms P2 t last start 16 (pos+1) handed o fr wt H9 (seen.add 16)else ms P2 t last start 14 pos handed o fr wt (H7 Hb) (seen.add 16):=by
 rw [FP];simp only [beq_iff_eq]
theorem FN:(ms P2 t last start 19 pos handed o fr wt H9 seen).step=
  if pos>=t.size then ms P2 t last start 19 pos handed o fr wt (H7 Hb) (seen.add 16)else
   if(t.getD pos 0==10)=Hd then ms P2 t last start 21 (pos+1) handed o fr wt H9 (seen.add 16)else ms P2 t last start 19 pos handed o fr wt (H7 Hb) (seen.add 16):=by
 show(if pos>=t.size then _ else _)=_;split
 ·rfl
 ·show(match(Mq (t.getD pos 0==10,seen.add 16):Except String (Bool×J3))with| .error why=>_| .ok (Hb,seen)=>_| .ok (Hd,seen)=>_)=_
  cases h:t.getD pos 0==10<;>rfl
theorem EA:(ms P2 t last start 19 pos handed o fr wt H9 seen).step=
  if pos>=t.size then ms P2 t last start 19 pos handed o fr wt (H7 Hb) (seen.add 16)else
   if t.getD pos 0=10 then ms P2 t last start 21 (pos+1) handed o fr wt H9 (seen.add 16)else ms P2 t last start 19 pos handed o fr wt (H7 Hb) (seen.add 16):=by
 rw [FN];simp only [beq_iff_eq]
theorem FM:(ms P2 t last start 24 pos handed o fr wt H9 seen).step=
  if pos>=t.size then ms P2 t last start 24 pos handed o fr wt (H7 Hb) (seen.add 16)else
   if(t.getD pos 0==13)=Hd then ms P2 t last start 26 (pos+1) handed o fr wt H9 (seen.add 16)else ms P2 t last start 24 pos handed o fr wt (H7 Hb) (seen.add 16):=by
 show(if pos>=t.size then _ else _)=_;split
 ·rfl
 ·show(match(Mq (t.getD pos 0==13,seen.add 16):Except String (Bool×J3))with| .error why=>_| .ok (Hb,seen)=>_| .ok (Hd,seen)=>_)=_
  cases h:t.getD pos 0==13<;>rfl
theorem GN:(ms P2 t last start 24 pos handed o fr wt H9 seen).step=
  if pos>=t.size then ms P2 t last start 24 pos handed o fr wt (H7 Hb) (seen.add 16)else
   if t.getD pos 0=13 then ms P2 t last start 26 (pos+1) handed o fr wt H9 (seen.add 16)else ms P2 t last start 24 pos handed o fr wt (H7 Hb) (seen.add 16):=by
 rw [FM];simp only [beq_iff_eq]
theorem FL:(ms P2 t last start 29 pos handed o fr wt H9 seen).step=
  if pos>=t.size then ms P2 t last start 29 pos handed o fr wt (H7 Hb) (seen.add 16)else
   if(t.getD pos 0==10)=Hd then ms P2 t last start 31 (pos+1) handed o fr wt H9 (seen.add 16)else ms P2 t last start 29 pos handed o fr wt (H7 Hb) (seen.add 16):=by
 show(if pos>=t.size then _ else _)=_;split
 ·rfl
 ·show(match(Mq (t.getD pos 0==10,seen.add 16):Except String (Bool×J3))with| .error why=>_| .ok (Hb,seen)=>_| .ok (Hd,seen)=>_)=_
  cases h:t.getD pos 0==10<;>rfl
theorem GL:(ms P2 t last start 29 pos handed o fr wt H9 seen).step=
  if pos>=t.size then ms P2 t last start 29 pos handed o fr wt (H7 Hb) (seen.add 16)else
   if t.getD pos 0=10 then ms P2 t last start 31 (pos+1) handed o fr wt H9 (seen.add 16)else ms P2 t last start 29 pos handed o fr wt (H7 Hb) (seen.add 16):=by
 rw [FL];simp only [beq_iff_eq]
theorem GR:(ms P2 t last start 16 pos handed o fr wt H9 seen).step=ms P2 t last start 35 pos handed o fr wt H9 (seen.add 15):=rfl
theorem GP:(ms P2 t last start 21 pos handed o fr wt H9 seen).step=ms P2 t last start 35 pos handed o fr wt H9 (seen.add 15):=rfl
theorem GK:(ms P2 t last start 32 pos handed o fr wt H9 seen).step=ms P2 t last start 35 pos handed o fr wt H9 (seen.add 15):=rfl
theorem GM:(ms P2 t last start 26 pos handed o fr 2 H9 seen).step=ms P2 t last start 29 pos pos Hb (rgn pos o::fr) 3 H9 (seen.add 5):=rfl
theorem Cc:(ms P2 t last start 35 pos handed o fr wt H9 seen).step=ms P2 t last start 35 pos pos o fr wt (H7 Hd) (seen.add 1):=by cases o<;>rfl
theorem rU:(ms P2 t last start pc pos handed o (rgb s k o'::fr) 2 (H7 Hd) seen).step=ms P2 t last start k s handed o' fr 1 (H7 Hd) seen:=rfl
theorem By:(ms P2 t last start pc pos handed o (rgb s 11 o'::fr) 2 (H7 Hb) seen).step=ms P2 t last start 19 s s o' (rgb s 18 o'::fr) 2 H9 seen:=rfl
theorem EP:(ms P2 t last start pc pos handed o (rgb s 18 o'::fr) 2 (H7 Hb) seen).step=ms P2 t last start 24 s s o' (rgb s 23 o'::fr) 2 H9 seen:=rfl
theorem EO:(ms P2 t last start pc pos handed o (rgn s o'::fr) 3 (H7 Hb) seen).step=ms P2 t last start 32 s handed o' fr 2 H9 seen:=rfl
theorem rV:(ms P2 t last start pc pos handed o [rg0 s o'] 1 (H7 Hd) seen).step=ms P2 t last start 10 s handed o' [] 0 (H7 Hd) seen:=rfl
def hit2 (t:Array Nat) (s:Nat):Option Nat:=
 if s<t.size then(if t.getD s 0=13 then(if s+1<t.size/\t.getD (s+1) 0=10 then H7 (s+2)else H7 (s+1))else if t.getD s 0=10 then H7 (s+1)else H9)else H9
theorem Gb (h:hit2 t s=H7 e): ∃n,n<=15/\Res (it n (ms P2 t last s 10 s s o [rg0 s o] 1 H9 seen)) (H7 (s,e)):=by
 unfold hit2 at h;by_cases hs:s<t.size
 ·rw [if_pos hs]at h
  by_cases hc:t.getD s 0=13
  ·rw [if_pos hc]at h
   by_cases QK:s+1<t.size/\t.getD (s+1) 0=10
   ·rw [if_pos QK]at h
    cases h;refine⟨8,by decide, ?_⟩
    rw [it_one,lN,it_one,Cd,if_neg (by exact Jj hs),if_pos hc,it_one,EB,if_neg (by exact Jj QK.1),if_pos QK.2,it_one,GR,it_one,Cc,it_one,rU,it_one,rV,it_one,done_step]
    exact⟨rfl,rfl,rfl⟩
   ·rw [if_neg QK]at h
    cases h;haveI a14: ∀sn hd fr wt,(ms P2 t last s 14 (s+1) hd o fr wt H9 sn).step=ms P2 t last s 14 (s+1) hd o fr wt (H7 Hb) (sn.add 16):=λsn hd fr wt=>by
     rw [EB];by_cases h1:s+1>=t.size
     ·rw [if_pos h1]
     ·rw [if_neg h1,if_neg λe=>QK ⟨by exact KS h1,e⟩]
    haveI a29: ∀sn hd fr wt o,(ms P2 t last s 29 (s+1) hd o fr wt H9 sn).step=ms P2 t last s 29 (s+1) hd o fr wt (H7 Hb) (sn.add 16):=λsn hd fr wt o=>by
     rw [GL];by_cases h1:s+1>=t.size
     ·rw [if_pos h1]
     ·rw [if_neg h1,if_neg λe=>QK ⟨by exact KS h1,e⟩]
    refine⟨15,by decide, ?_⟩
    rw [it_one,lN,it_one,Cd,if_neg (by exact Jj hs),if_pos hc,it_one,a14,it_one,By,it_one,EA,if_neg (by exact Jj hs),if_neg (by exact MU (Ha (by decide) (Hu (IW hc)))),it_one,EP,it_one,GN,if_neg (by exact Jj hs),if_pos hc,it_one,GM,it_one,a29,it_one,EO,it_one,GK,it_one,Cc,it_one,rU,it_one,rV,it_one,done_step]
    exact⟨rfl,rfl,rfl⟩
  ·rw [if_neg hc]at h
   by_cases QK:t.getD s 0=10
   ·rw [if_pos QK]at h
    cases h;refine⟨9,by decide, ?_⟩
    rw [it_one,lN,it_one,Cd,if_neg (by exact Jj hs),if_neg hc,it_one,By,it_one,EA,if_neg (by exact Jj hs),if_pos QK,it_one,GP,it_one,Cc,it_one,rU,it_one,rV,it_one,done_step]
    exact⟨rfl,rfl,rfl⟩
   ·rw [if_neg QK]at h
    cases h
 ·rw [if_neg hs]at h
  cases h
theorem Dj (c:Nat) (seen:J3): ∃sn,Sre.inSet P2 c 36 5 Hd seen= .ok (c==10||c==13,sn):=by
 haveI e:Sre.inSet P2 c 36 5 Hd seen=if(c==10)=Hd then .ok (Hd,seen.add 16)else if(c==13)=Hd then .ok (Hd,(seen.add 16).add 16)else .ok (Hb,((seen.add 16).add 16).add 0):=rfl;rw [e];cases h:c==10
 ·cases h2:c==13
  ·exact⟨_,rfl⟩
  ·exact⟨_,rfl⟩
 ·exact⟨_,rfl⟩
theorem vZ (h:t.getD s 0≠10) (h2:t.getD s 0≠13):hit2 t s=H9:=by unfold hit2;rw [if_neg h2,if_neg h];exact ite_self _
theorem jH (hs:s<t.size) (h:(t.getD s 0==10||t.getD s 0==13)=Hd): ∃e,hit2 t s=H7 e:=by
 unfold hit2;rw [if_pos hs];by_cases hc:t.getD s 0=13
 ·rw [if_pos hc]
  by_cases h3:s+1<t.size/\t.getD (s+1) 0=10
  ·exact⟨_,if_pos h3⟩
  ·exact⟨_,if_neg h3⟩
 ·rw [if_neg hc]
  haveI:t.getD s 0=10:=by
   rcases Nd.mp h with e|e
   ·exact beq_iff_eq.mp e
   ·exact absurd (beq_iff_eq.mp e) hc
  exact⟨_,if_pos this⟩
theorem nM {m:MA} (hc:m.code=P2) (ht:m.text=t) (hl:m.lim=t.size): ∀k s seen,s+k=t.size->
  ∃sn,(find (hit2 t) k s=H9/\m.admitted (k+1) s seen= .ok (H9,sn))∨(∃b e,find (hit2 t) k s=H7 (b,e)/\hit2 t b=H7 e/\m.admitted (k+1) s seen= .ok (H7 b,sn))
 |0,s,seen,h=>by
  refine⟨seen,.inl ⟨?_, ?_⟩⟩
  ·haveI:hit2 t s=H9:=by unfold hit2;exact if_neg (by exact JS (Hu (IW h)))
   rw [iw,this];rfl
  ·exact if_pos (by rw [hl];exact Hu (IW h))
 |k+1,s,seen,h=>by
  obtain⟨sn,e⟩:=Dj (t.getD s 0) seen;have e1:m.admitted (k+1+1) s seen=match(Mq (t.getD s 0==10||t.getD s 0==13,sn):Except String (Bool×J3))with
   | .ok (Hd,seen)=> .ok (H7 s,seen)| .ok (Hb,seen)=>m.admitted (k+1) (s+1) seen| .error why=> .error why:=by
   refine(if_neg (by rw [hl];exact Jj (Ha (J8 (HD _ _)) (Hu h)))).trans ?_
   rw [hc,ht,<-e]
   rfl
  cases hh:(t.getD s 0==10||t.getD s 0==13)with
  |true=>
   rw [hh]at e1;obtain⟨e',he⟩:=jH (by exact Ha (J8 (HD _ _)) (Hu h)) hh
   exact⟨sn,.inr ⟨s,e',by rw [jn,he],he,e1⟩⟩
  |false=>
   rw [hh]at e1;haveI hn:hit2 t s=H9:=by have:=Bool.or_eq_false_iff.mp hh;exact vZ (beq_eq_false_iff_ne.mp this.1) (beq_eq_false_iff_ne.mp this.2)
   obtain⟨sn',r⟩:=nM hc ht hl k (s+1) sn (by exact PH (HS _ _ _) h)
   refine⟨sn', ?_⟩;rw [jn,hn];rcases r with⟨a,b⟩|⟨b',e',a,h',b⟩
   ·exact .inl ⟨a,e1.trans b⟩
   ·exact .inr ⟨b',e',a,h',e1.trans b⟩
theorem tK (s:Nat) (h:s<=t.size): ∃n,n<=3*t.size+15/\Res (it n (LD P2 t 0 s t.size Hb)) (find (hit2 t) (t.size-s) s):=by
 have e:LD P2 t 0 s t.size Hb=if s>t.size∨t.size-s<1 then ms P2 t 0 s 10 s s Hd [] 0 (H7 Hb) (({}:J3).add 14)else(Mf (ms P2 t t.size s 10 s s Hd [] 0 H9 (({}:J3).add 14)) s Hd):=by
  show(if(decide (s>t.size)||decide (t.size-s<1))=Hd then _ else _)=_;by_cases hc:s>t.size∨t.size-s<1
  ·rw [if_pos hc,if_pos (by simpa using hc)];rfl
  ·rw [if_neg hc,if_neg (by simpa using hc)];rfl
 by_cases hs:s=t.size
 ·have hn:hit2 t s=H9:=by unfold hit2;exact if_neg (by exact JS (Hu (IW hs)))
  refine⟨1,by exact Iy _ _, ?_⟩
  rw [e,if_pos (by exact Or.inr (K2 h (Hk (Hu (IW hs)) (HR _)))),it_one,done_step,show t.size-s=0 by exact KA (Hu (IW hs)),iw,hn]
  rfl
 ·rw [e,if_neg (aNo h hs)]
  haveI ef:t.size+1-s=(t.size-s)+1:=by exact Nat.succ_sub h
  obtain⟨sn,r⟩:=nM (t:=t) (m:=ms P2 t t.size s 10 s s Hd [] 0 H9 (({}:J3).add 14)) rfl rfl rfl (t.size-s) s (({}:J3).add 14) (by exact I9 h)
  rw [<-ef]at r;have e2:(Mf (ms P2 t t.size s 10 s s Hd [] 0 H9 (({}:J3).add 14)) s Hd)=
    match(ms P2 t t.size s 10 s s Hd [] 0 H9 (({}:J3).add 14)).admitted (t.size+1-s) s (({}:J3).add 14)with
    | .ok (H7 b,sn)=>ms P2 t t.size b 10 b b Hd [rg0 b Hd] 1 H9 sn
    | .ok (H9,sn)=>ms P2 t t.size s 10 s s Hd [] 0 (H7 Hb) sn
    | .error why=>(ms P2 t t.size s 10 s s Hd [] 0 H9 (({}:J3).add 14)).stick why:=rfl
  rcases r with⟨a,b⟩|⟨b',e',a,h',b⟩
  ·refine⟨1,by exact Iy _ _, ?_⟩
   rw [e2,b,a,it_one,done_step]
   rfl
  ·rw [e2,b,a]
   obtain⟨n,hn,r⟩:=Gb (last:=t.size) (o:=Hd) (seen:=sn) h';exact⟨n,by exact Ph hn,r⟩
end Internal
namespace Internal
open PySem PySem.W PySem.Calls PyProof.Rows PySem.SeqAt
theorem EW:PlainAttrs "re.Pattern" :=
 ⟨⟨"object.__getattribute__",by rw [Lh,K4];kernel_rfl,by decide+kernel⟩,by rw [Lh,K4];kernel_rfl⟩
theorem rR:Slot "re.Pattern" "sub" "re.Pattern.sub" :=
 .of (owner:= "re.Pattern") (n:= "sub") (by rw [Lh,K4];kernel_rfl) (by decide+kernel) (by decide+kernel) (by decide+kernel)
  (by first|exact .inl (by decide+kernel)|exact .inr (by decide+kernel)) (by rw [isSubtype_type];kernel_rfl)
theorem Cm:typeOf (.builtin "re.Pattern.sub")=pure (.type "method_descriptor"):=by show builtinType _=_;rw [builtinType_eq_fast];kernel_rfl
theorem DA:entryFor NE "re.Pattern.sub" =H7 MP.«re.Pattern.sub» :=entryFor_of_tree (by kernel_rfl)
theorem AZ:entryFor NE "re.Pattern.sub.loop" =H7 MP.«re.Pattern.sub.loop» :=entryFor_of_tree (by kernel_rfl)
theorem oD:plainId "re.Pattern.sub.loop" =Hd:=by decide+kernel
theorem tu:K1 (.type "str") "__call__" =pure H9:=by rw [Lh,K4];kernel_rfl
theorem F4:Manifest.owners.lookup (String.ofList ['n','r','e','t','t','a','P','.','e','r'].reverse)=H7 Manifest.sig_re_Pattern:=by kernel_rfl
theorem DS (a b c:Hl):argsOk "re.Pattern.sub" ⟨[a,b,c],[]⟩:=by unfold argsOk;rw [signature?_of (id:= "re.Pattern.sub") (n:=['b','u','s']) (o:=['n','r','e','t','t','a','P','.','e','r']) (by kernel_rfl) F4];kernel_rfl
section
variable {M:Oj} {A:IZ} {E:Hl->Hh->Prop} {s:Hh}
theorem p_: ∀k m n {Q:MA->Hh->Prop},0<k->n<=4*k->(it n m).outcome.isSome=Hd->Q (it n m) s->Im M A (MZ k m) Q E s
 |0,m,n,Q,h,_,_,_=>absurd h (Hr _)
 |k+1,m,n,Q,_,hn,ho,hq=>by
  rw [MZ];show Im M A (if(m.runFor 4).outcome.isSome=Hd then pure (m.runFor 4)else do rule "sre.turn";MZ k (m.runFor 4)) Q E s
  rw [vq];by_cases h4:(it 4 m).outcome.isSome=Hd
  ·rw [if_pos h4]
   have e:it n m=it 4 m:=by
    rcases Nat.le_total n 4 with hc|hc
    ·exact(wB ho hc).symm
    ·exact wB h4 hc
   exact Hi (e▸hq)
  ·rw [if_neg h4]
   have hc:4<n:=by refine KS λhc=>h4 ?_;rw [wB ho hc];exact ho
   haveI e:it n m=it (n-4) (it 4 m):=by rw [<-oa];congr 1;exact IW (I9 (HP hc))
   rw [e]at ho hq;exact He (Ms (p_ k (it 4 m) (n-4) (by lia) (by exact Po hn) ho hq))
theorem xH {α β:Type} {f:α->β->J_ (ForInStep β)} (hf: ∀i u,Im M A (f i u) (λr s'=>s'=s/\ ∃u',r= .yield u') E s) (l:List α): ∀(u:β),Im M A (forIn l u f) (λ_ s'=>s'=s) E s:=by
 induction l with
 |nil=>intro u;rw [M7];exact Hi rfl
 |cons i l ih=>
  intro u;rw [K3];refine He (Jl (hf i u) (λr s' h=> ?_) λ_ _ e=>e);obtain⟨rfl,u',rfl⟩:=h;exact ih u'
theorem Cj {m:MA} {n:Nat} {r:Option (Nat×Nat)} {Q:Option MA->Hh->Prop} (hn:n<=4*2^64) (hr:Res (it n m) r)
  (hq: ∀m',(match r with|some (b,e)=> ∃Xt,m'=H7 Xt/\Xt.start=b/\Xt.handed=e|none=>m'=H9)->Q m' s):Im M A (Ol m) Q E s:=by
 unfold Ol;refine He (p_ _ _ n (Ib 64) hn hr.some' ?_);refine He (Jl (xH (λi u=> ?_) _ _) (λ_ s' h=> ?_) λ_ _ e=>e)
 ·by_cases hc:(it n m).seen.has i=Hd
  ·rw [if_pos hc]
   exact He (Ms (Hi ⟨rfl,_,rfl⟩))
  ·rw [if_neg hc]
   exact Hi ⟨rfl,_,rfl⟩
 ·subst h
  cases r with
  |none=>
   rw [show(it n m).outcome=H7 .failed from hr];exact Hi (hq _ rfl)
  |some p=>
   obtain⟨b,e⟩:=p;obtain⟨h1,h2,h3⟩:=hr;rw [h1];exact Hi (hq _ ⟨_,rfl,h2,h3⟩)
end
end Internal
namespace Internal
open PySem PySem.W PySem.Calls PyProof.Rows PySem.SeqAt
open Builtin Builtin.Re
structure gt (h:IL) (a:Hw) (code:Array Nat):Prop where
 o: ∃o fs c oc items n,h.get? a=H7 o/\o.cls= .type "re.Pattern" /\o.dict=H9/\o.data= .fields fs/\reRawNat (fs.getD 6 .none)=0/\reRawNat (fs.getD 2 .none)=0/\
  fs.getD 5 .none= .ref c/\h.get? c=H7 oc/\oc.data= .seq items n/\(items.map reRawOf).map (·.toNat)=code
theorem gt.keep {h h':IL} {a:Hw} {code} (x:gt h a code) (k:HK h h'):gt h' a code:=by obtain⟨o,fs,c,oc,items,n,e,hc,WW,hd,h6,h2,h5,ec,WX,R4⟩:=x.o;exact⟨o,fs,c,oc,items,n,dt (k _) e hd (by rw [hc];exact λq=>by cases q),hc,WW,hd,h6,h2,h5,(bZ WX).keep (k _) ec,WX,R4⟩
variable {A:IZ} {E:Hl->Hh->Prop} {s:Hh} {pa:Hw} {x:HJ} {t:NX} {code:Array Nat}
section
variable {M:Oj}
def tgt (pa:Hw) (x:HJ) (t:NX) (code:Array Nat):ReTarget:={pattern:= .ref pa,string:= .str x t,code,text:=x.cps,kind:=0,groups:=0,pos:=0,lim:=x.cps.size}
theorem mJ {Q:ReTarget->Hh->Prop} (P:gt s.heap pa code) (h:Q (tgt pa x t code) s):Im M A (reWholeTarget (.ref pa) (.str x t)) Q E s:=by obtain⟨o,fs,c,oc,items,n,e,hc,WW,hd,h6,h2,h5,ec,WX,R4⟩:=P.o;unfold reWholeTarget;refine He (wpAny_fieldsOf e hd ?_);refine He (Jx (show reTextOf (.str x t)=pure (x.cps,0)from rfl) ?_);dsimp only;rw [h6,h2,h5];show Im M A (reNoCollectionInside (.str x t) 0>>=λ_=>reRawItems (.ref c)>>=λl=>pure {pattern:= .ref pa,string:= .str x t,code:=l.map (λx=>x.toNat),text:=x.cps,kind:=0,groups:=0,pos:=0,lim:=x.cps.size}) Q E s;refine He (Jx (show reNoCollectionInside (.str x t) 0=pure ()from rfl) ?_);refine He ?_;unfold reRawItems;refine He (Mr ec WX ?_);refine Hi (Hi ?_);rw [show((H7 items).getD #[])=items from rfl,R4];exact h
def ua (code:Array Nat) (x:HJ) (Qe:Nat->Option Nat):Prop:=
 ∀s,s<=x.cps.size-> ∃n,n<=4*2^64/\Res (it n (LD code x.cps 0 s x.cps.size Hb)) (find Qe (x.cps.size-s) s)
theorem Dv (h:x.cps.size<=Hz):ua P1 x (fN x.cps):=λs hs=>by obtain⟨n,hn,r⟩:=tL s hs;refine⟨n, ?_,r⟩;haveI:Hz=2^24:=rfl;exact H8 (H8 hn (HE (I6 (Hm _) h) (Hm _))) (by decide)
theorem Du (h:x.cps.size<=Hz):ua P2 x (hit2 x.cps):=λs hs=>by obtain⟨n,hn,r⟩:=tK s hs;refine⟨n, ?_,r⟩;haveI:Hz=2^24:=rfl;exact H8 (H8 hn (HE (I6 (Hm _) h) (Hm _))) (by decide)
end
variable {Qe:Nat->Option Nat}
theorem j4: ∀{k s b e:Nat},find Qe k s=H7 (b,e)->s<=b/\Qe b=H7 e
 |0,s,b,e,h=>by
  rw [iw]at h;cases hh:Qe s with
  |none=>rw [hh]at h;cases h
  |some e'=>rw [hh]at h;cases h;exact⟨Hm _,hh⟩
 |k+1,s,b,e,h=>by
  rw [jn]at h;cases hh:Qe s with
  |none=>rw [hh]at h;have:=j4 h;exact⟨by exact Ii this.1,this.2⟩
  |some e'=>rw [hh]at h;cases h;exact⟨Hm _,hh⟩
def d7 (Qe:Nat->Option Nat) (x r:HJ):Nat->Nat->List HJ
 |0,_=>[]
 |f+1,done=>
  let sl (b:Nat):List HJ:=if done<b then [⟨x.cps.extract done b⟩]else []
  match find Qe (x.cps.size-done) done with
  |some (b,e)=>sl b++[r]++d7 Qe x r f e
  |none=>sl x.cps.size
variable {r:HJ} {f done:Nat}
theorem BU:d7 Qe x r (f+1) done=
  (match find Qe (x.cps.size-done) done with
  |some (b,e)=>(if done<b then [⟨x.cps.extract done b⟩]else [])++[r]++d7 Qe x r f e
  |none=>if done<x.cps.size then [⟨x.cps.extract done x.cps.size⟩]else []):=rfl
variable {prog:IG} {w:J0} {ok:Hw->Prop} {L:Hw} {h₀:IL} {l:List (HJ×NX)} {N:Nat} {X:J_ Fin} {K:Fin->Hh->Prop} {tr:NX}
section
theorem qh (hL:h₀.objs.size<=L) (p:HJ×NX) (hl:s.heap.get? L=H7 {cls:= .type "list",data:= .seq (JJ l).toArray N}) (hk:HK h₀ s.heap) (Tz:L<s.heap.objs.size) (h20:l.length<=2^20)

  (hX: ∀s' N',HK h₀ s'.heap->L<s'.heap.objs.size->s'.os=s.os->s'.gens=s.gens->s'.heap.get? L=H7 {cls:= .type "list",data:= .seq (JJ (l++[p])).toArray N'}->Im (Hj prog w) A X K E s'):
  Im (Hj prog w) A (N0 L (λx=>x.push (.str p.1 p.2))>>=λ_=>X) K E s:=by
 haveI zz:Hz=2^24:=rfl;refine He (Ma hl rfl ?_ ?_ ?_)
 ·have hs:Iz L s.heap (s.heap.update L (Ic (·.push (.str p.1 p.2)))):=JB ..
  haveI hp: ∀o,s.heap.get? L=H7 o->aK o:=λo e=>by rw [hl]at e;cases e;exact jB rfl
  refine hX _ (if((JJ l).toArray.push (.str p.1 p.2)).size==(JJ l).toArray.size then N else N+1) (λb o e=>ax hs hp (λq=>absurd (q▸ao e) (LC.mpr hL)) (hk b o e)) (by rw [hs.1];exact Tz) rfl rfl ((IX _ hl rfl).trans ?_)
  have e:(JJ l).toArray.push (.str p.1 p.2)=(JJ (l++[p])).toArray:=by simp [JJ]
  rw [<-e]
  rfl
 ·simp only [HO,JJ,Hf];exact H8 h20 (by decide)
 ·simp only [Array.size_push,HO,JJ,Hf];exact HM (H8 h20 (by decide))
theorem ui (hL:h₀.objs.size<=L) {e:Nat} {c:Prop} [Decidable c] (hc:c↔done<e) (hl:s.heap.get? L=H7 {cls:= .type "list",data:= .seq (JJ l).toArray N}) (hk:HK h₀ s.heap) (Tz:L<s.heap.objs.size) (h20:l.length<=2^20)
 {sl:J_ Hl} (SY: ∀Q:Hl->Hh->Prop,Q (.str ⟨x.cps.extract done e⟩ s.toks) {s with toks:=s.toks+1}->Im (Hj prog w) A sl Q E s)
  (hX: ∀s' l' N',HK h₀ s'.heap->L<s'.heap.objs.size->s'.os=s.os->s'.gens=s.gens->s'.heap.get? L=H7 {cls:= .type "list",data:= .seq (JJ l').toArray N'}->
   l'.map (·.1)=l.map (·.1)++(if done<e then [⟨x.cps.extract done e⟩]else [])->Im (Hj prog w) A X K E s'):
  Im (Hj prog w) A (if c then(sl>>=λv=>N0 L (λx=>x.push v)>>=λ_=>X)else X) K E s:=by
 by_cases hd:done<e
 ·rw [if_pos (hc.mpr hd)]
  exact He (SY _ (qh (s:={s with toks:=s.toks+1}) hL (⟨x.cps.extract done e⟩,s.toks) hl hk Tz h20 λs' N' h1 h2 h3 h4 h5=>hX s' _ N' h1 h2 h3 h4 h5 (by rw [if_pos hd];simp)))
 ·rw [if_neg λh=>hd (hc.mp h)]
  exact hX s l N hk Tz rfl rfl hl (by rw [if_neg hd];simp)
theorem zO (F:ua code x Qe) (hx:x.cps.size<=Hz)
  (UB: ∀s e,Qe s=H7 e->s<e/\e<=x.cps.size) {R:NQ->Hh->Prop} {s₀:Hh} (P:gt s₀.heap pa code) (hL:s₀.heap.objs.size<=L):
  ∀(f:Nat) (done:Nat) (cnt:Int) (s:Hh) (l:List (HJ×NX)) (N:Nat),done<=x.cps.size->x.cps.size-done<f->HK s₀.heap s.heap->L<s.heap.objs.size->s.os=s₀.os->s.gens=s₀.gens->
   s.heap.get? L=H7 {cls:= .type "list",data:= .seq (JJ l).toArray N}->l.length+(d7 Qe x r f done).length<=2^20->Q0 ⟨#[]⟩ (l.map (·.1)++d7 Qe x r f done)=Hd->
   (∀s' u,HK s₀.heap s'.heap->s'.os=s₀.os->s'.gens=s₀.gens->R (.ok (.ret (.str (LL ⟨#[]⟩ (l.map (·.1)++d7 Qe x r f done)) u))) s')->
   PU (Hj prog w) A (.builtin "re.Pattern.sub.loop" ⟨[.ref pa,.str x t,.str r tr,N4 0,N4 0,N4 cnt,N4 done,N4 done,.bool Hb,.ref L,.bool Hb],[]⟩) R s:=by
 intro f;induction f with
 |zero=>intro done cnt s l N hd hf;lia
 |succ f ih=>
  intro done cnt s l N hd hf hk Tz TG hg hl Q7 hj hR;refine OH AZ ?_;rw [M_ oD];refine uZ λK E hK=> ?_;unfold «re.Pattern.sub.loop»
  dsimp only [N4];refine He (mJ (P.keep hk) ?_);rw [if_pos (by decide)]
  refine He (Jx (show reLiteralCannotBeTurned (.str r tr)=pure ()from rfl) ?_);rw [if_neg (by simp)]
  obtain⟨n,hn,hr⟩:=F done hd;refine He (Cj (s:=s) hn hr λm' S4=> ?_);have UX:l.length<=2^20:=by exact Ii Q7
  revert S4 hj hR Q7;rw [BU];cases hfd:find Qe (x.cps.size-done) done with
  |none=>
   dsimp only;intro Q7 hj hR S4;subst S4;dsimp only;refine ui (x:=x) (done:=done) (e:=x.cps.size) hL Iff.rfl hl hk Tz UX (λQ q=>wpAny_mkStr q (by simp [JX,tgt];exact HN hx)) λs₂ l' N' hk Tz T_ Tx Ru he=> ?_
   replace TG:=T_.trans TG;replace hg:=Tx.trans hg;refine He (wpAny_mkStr ?_ (by simp [JX]))
   refine He (Mr Ru rfl ?_);have eR: ∀v s',(∃u,v= .str (LL ⟨#[]⟩ (l'.map (·.1))) u)->HK s₀.heap s'.heap->s'.os=s₀.os->s'.gens=s₀.gens->Im (Hj prog w) A.in1 (if Hb=Hd then KZ [v] (mkInt cnt>>=λ__do_lift=>newTuple [v,__do_lift])>>=λ__do_lift=>ret __do_lift else ret v)
     K E s':=by
    rintro v s' ⟨u,rfl⟩ h1 h2 h3;rw [if_neg (by decide)]
    refine Hi (hK _ _ ?_);have:=hR s' u h1 h2 h3;rw [<-he]at this;exact this
   cases l' with
   |nil=>
    rw [if_pos (show((H7 (JJ []).toArray).getD #[]).isEmpty=Hd from rfl)];refine He (Hi (eR _ _ ⟨s₂.toks, ?_⟩ hk TG hg));show L8 ⟨x.cps.extract 0 0⟩ s₂.toks=L8 ⟨#[]⟩ s₂.toks;rw [KU (Hm 0)]
   |cons q l'=>
    rw [if_neg (by simp [JJ])]
    refine He (SC.join (x:=⟨x.cps.extract 0 0⟩) (l:=q::l') ⟨_,Ru,rfl,_,rfl⟩ rfl ?_ λu k=> ?_)
    ·rw [he,KU (Hm 0)];exact hj
    ·refine eR _ _ ⟨u, ?_⟩ hk TG hg
     rw [KU (Hm 0)]
  |some p=>
   obtain⟨b,e⟩:=p;dsimp only;intro Q7 hj hR S4;obtain⟨m,rfl,rfl,rfl⟩:=S4;dsimp only;haveI hm:=j4 hfd;have hh:=UB _ _ hm.2;refine ui (x:=x) (done:=done) (e:=m.start) hL Iff.rfl hl hk Tz UX (λQ q=>wpAny_mkStr q (by simp [JX,tgt];exact H8 (MI _ _) (HN hx))) λs₂ l' N' hk Tz T_ Tx Ru he=> ?_
   replace TG:=T_.trans TG;replace hg:=Tx.trans hg;rw [if_pos (by decide)]
   refine He (Hi ?_);rw [if_pos (show(L8 r tr !=Nf)=Hd from rfl)];have RM:l'.length<=2^20:=by have:=congrArg Kl he;simp only [Hn,Hf]at this Q7;lia
   have el:(l'++[(r,tr)]).map (·.1)++d7 Qe x r f m.handed=l.map (·.1)++((if done<m.start then [⟨x.cps.extract done m.start⟩]else [])++[r]++d7 Qe x r f m.handed):=by rw [HY,he];simp
   refine qh hL (r,tr) Ru hk Tz RM λs₃ N2 p1 p2 ho3 hg3 p3=> ?_;refine Hi (hK _ _ ⟨NF oD _, ?_⟩);rw [show(m.handed==m.start)=Hb by simp;exact MU hh.1]
   refine ih m.handed (cnt+1) _ _ N2 hh.2 (by exact EH hf hm.1 hh.1 hh.2) p1 p2 (ho3.trans TG) (hg3.trans hg) p3 ?_ (by rw [el];exact hj) (by rw [el];exact hR)
   have:=congrArg Kl el;rw [Hn,Hn,Hf,Hf]at this;exact H8 (Hu this) Q7
end
theorem vN (r x:Hl):reNamed "re.Pattern.sub" "sub" ["repl","string","count"] 2 [r,x] []=pure [H7 r,H7 x,H9]:=rfl
section
theorem wR (F:ua code x Qe) (hx:x.cps.size<=Hz)
  (UB: ∀s e,Qe s=H7 e->s<e/\e<=x.cps.size) (P:gt s.heap pa code) (hr:r.cps.contains 92=Hb) (hf:x.cps.size<f)
  (Q7:(d7 Qe x r f 0).length<=2^20) (hj:Q0 ⟨#[]⟩ (d7 Qe x r f 0)=Hd):
  WP (Hj prog w) A (KG (.builtin "re.Pattern.sub") [.ref pa,.str r tr,.str x t]) (Ev' prog w ok (.str (LL ⟨#[]⟩ (d7 Qe x r f 0))) s) s:=by
 haveI hT:s.TypeIs (.ref pa) "re.Pattern" :=by obtain⟨o,fs,c,oc,items,n,e,hc,_⟩:=P.o;exact⟨o,e,hc⟩
 refine WP.size (OQ (codeAny_call_builtin rR.plain DA (rR.check _ _ _ _ _ _ _ _ hT (DS _ _ _) ?_)));unfold «re.Pattern.sub» reSubstitute;dsimp only;rw [vN];refine He (Hi ?_);dsimp only;refine He (Hi ?_);refine He (Mb (NN _ _ _) tu ?_);rw [if_neg (by simp)]
 refine He (Jx (show asStr? (.str r tr)=pure (H7 r)from rfl) ?_);dsimp only;refine He (Hi ?_);rw [if_neg (by simp),hr,if_pos (by decide)]
 refine He (Hi ?_);refine He (I_ (mJ P ?_));rw [if_neg (show¬((0:Int)==1)=Hd by decide)]
 refine He (wpAny_newList ?_);refine Hi ⟨NF oD _, ?_⟩;haveI hsz:(s.heap.push {cls:= .type "list",data:= .seq #[]}).objs.size=s.heap.objs.size+1:=I8 ..
 refine zO (s₀:=s) F hx UB P (Hm _) f 0 0 _ [] 0 (IH _) hf (HK.push _ _) (PY (HR _) hsz.symm) rfl rfl (HL _ rfl) (by simpa using Q7) hj ?_
 intro s' u h1 h2 h3 sz;exact⟨⟨h1,sz,λi g e=>by rw [h3];exact e,h2⟩,u,rfl⟩
end
end Internal
namespace Internal
open PySem PySem.W PySem.Calls PyProof.Rows
def nl:Bool->List Nat->List Nat
 |p,[]=>if p=Hd then [10]else []
 |p,c::t=>if c=10 then(if p=Hd then 10::nl Hb t else 13::10::nl Hb t)else(if p=Hd then [10]else [])++(if c=13 then 13::nl Hd t else c::nl Hb t)
def dd:Bool->List Nat->List Nat
 |_,[]=>[]
 |b,c::t=>if b=Hd/\c=46 then 46::46::dd Hb t else c::dd (c==10) t
def tx (l:List Nat):HJ:=⟨l.toArray⟩
theorem mU: ∀ls:List HJ,(Str.join ⟨#[]⟩ ls).cps.toList=(ls.map (·.cps.toList)).flatten
 |[]=>rfl
 |[x]=>by simp [Str.join]
 |x::y::r=>by
  have:=mU (y::r);rw [Str.join.eq_3 _ _ _ (by simp)]
  show(x.cps++ #[]++(Str.join ⟨#[]⟩ (y::r)).cps).toList=_;rw [Array.append_empty,N9,this]
  rfl
theorem lI (ls:List HJ):(LL ⟨#[]⟩ ls).cps.toList=(ls.map (·.cps.toList)).flatten:=by rw [LL,StrLaws.glued_eq_join,mU]
theorem iF (ls:List HJ) (h:(ls.map (·.cps.toList)).flatten.length<=Hz):Q0 ⟨#[]⟩ ls=Hd:=by
 haveI e: ∀(ls:List HJ) (a:Nat),ls.foldl (λa x=>a+x.length+(⟨#[]⟩:HJ).length) a=a+(ls.map (·.cps.toList)).flatten.length:=by
  intro ls;induction ls with
  |nil=>intro a;rfl
  |cons x r ih=>
   intro a;rw [List.foldl_cons,ih,HI,JF,Hn];simp [JX];exact I7 _ _ _
 unfold Q0 KD;rw [List.foldl_toArray',e]
 ·simp only [IJ,Ll,decide_eq_false_iff_not];exact JS h
 ·rfl
variable {x r:HJ}
section
variable {Qe:Nat->Option Nat} {g:Nat->List Nat}
theorem xi (h1: ∀i,i<x.cps.size->Qe i=H9->g i=x.cps.getD i 0::g (i+1)) (h3: ∀i e,Qe i=H7 e->i<x.cps.size): ∀(k s:Nat),s+k=x.cps.size->
  (match find Qe k s with|some (b,e)=>b<x.cps.size/\g s=(x.cps.toList.drop s).take (b-s)++g b|none=>g s=x.cps.toList.drop s++g x.cps.size)
 |0,s,hk=>by
  rw [iw];have hs:s=x.cps.size:=by exact hk
  cases hh:Qe s with
  |some e=>have:=h3 _ _ hh;lia
  |none=>
   show g s=_;rw [hs];simp
 |k+1,s,hk=>by
  have hs:s<x.cps.size:=by exact Ha (J8 (HD _ _)) (Hu hk)
  rw [jn];cases hh:Qe s with
  |some e=>exact⟨hs,by simp⟩
  |none=>
   have ih:=xi h1 h3 k (s+1) (by exact PH (HS _ _ _) hk)
   have hd:x.cps.toList.drop s=x.cps.getD s 0::x.cps.toList.drop (s+1):=by
    rw [Js (by simpa using hs)]
    simp [Array.getD,hs]
   show match find Qe k (s+1)with|some (b,e)=>_|none=>_
   cases hf:find Qe k (s+1)with
   |none=>
    rw [hf]at ih;show g s=_;rw [h1 s hs hh,ih,hd];rfl
   |some p=>
    obtain⟨b,e⟩:=p;rw [hf]at ih;haveI hb:=(j4 hf).1;refine⟨ih.1, ?_⟩;rw [h1 s hs hh,ih.2,hd,show b-s=(b-(s+1))+1 by exact wJ (Nat.lt_of_succ_lt_succ (J8 hb)),Nc]
    rfl
theorem o_ (h0:g x.cps.size=[]) (h1: ∀i,i<x.cps.size->Qe i=H9->g i=x.cps.getD i 0::g (i+1)) (h2: ∀i e,Qe i=H7 e->g i=r.cps.toList++g e) (h3: ∀i e,Qe i=H7 e->i<x.cps.size/\i<e/\e<=x.cps.size):
  ∀(f s:Nat),s<=x.cps.size->x.cps.size-s<f->((d7 Qe x r f s).map (·.cps.toList)).flatten=g s/\(d7 Qe x r f s).length<=2*(x.cps.size-s)+1
 |0,s,hs,hf=>by lia
 |f+1,s,hs,hf=>by
  have hg:=xi h1 (λi e h=>(h3 i e h).1) (x.cps.size-s) s (by exact I9 hs)
  rw [BU];cases hfd:find Qe (x.cps.size-s) s with
  |none=>
   rw [hfd]at hg;have hg:g s=_:=hg;rw [hg,h0];by_cases hl:s<x.cps.size
   ·dsimp only
    rw [if_pos hl];refine⟨?_,by simp⟩
    simp [Iq]
   ·dsimp only
    rw [if_neg hl];refine⟨?_,by simp⟩
    haveI:s=x.cps.size:=by exact JH hs (Ix hl)
    simp [this]
  |some p=>
   obtain⟨b,e⟩:=p;rw [hfd]at hg;obtain⟨hb,hg⟩:=hg;have hm:=j4 hfd;haveI SF:=h3 _ _ hm.2;have ih:=o_ h0 h1 h2 h3 f e (by exact SF.2.2) (by exact EH hf hm.1 SF.2.1 SF.2.2)
   dsimp only;rw [hg,h2 _ _ hm.2];by_cases hl:s<b
   ·rw [if_pos hl]
    refine⟨?_, ?_⟩
    ·rw [HY,Jn,ih.1]
     simp
    ·rw [Hn]
     simp only [P9,Hv,I0];exact aC2 ih.2 SF.2.1 SF.2.2 hl
   ·rw [if_neg hl]
    haveI:b=s:=by exact JH (Ix hl) hm.1
    subst this;refine⟨?_, ?_⟩
    ·rw [HY,Jn,ih.1]
     simp
    ·rw [Hn]
     simp only [Jd,Hv,I0];exact aC1 ih.2 SF.2.1 SF.2.2
end
theorem fD {s:Nat} (hs:s<x.cps.size):x.cps.toList.drop s=x.cps.getD s 0::x.cps.toList.drop (s+1):=by
 rw [Js (by simpa using hs)]
 simp [Array.getD,hs]
theorem lh: ∀(l:List Nat) (p:Bool),(nl p l).length<=2*l.length+(if p=Hd then 1 else 0)
 |[],p=>by cases p<;>simp [nl]
 |c::t,p=>by
  have h1:(nl Hb t).length<=2*t.length:=lh t Hb;have h2:(nl Hd t).length<=2*t.length+1:=lh t Hd;rw [nl];by_cases hc:c=10
  ·rw [if_pos hc]
   cases p
   ·show(nl Hb t).length+1+1<=2*(t.length+1)
    exact HM (HM h1)
   ·show(nl Hb t).length+1<=2*(t.length+1)+1
    exact HM (HN h1)
  ·rw [if_neg hc]
   by_cases hd:c=13
   ·rw [if_pos hd]
    cases p
    ·show(nl Hd t).length+1<=2*(t.length+1)
     exact HM h2
    ·show(nl Hd t).length+1+1<=2*(t.length+1)+1
     exact HM (HM h2)
   ·rw [if_neg hd]
    cases p
    ·show(nl Hb t).length+1<=2*(t.length+1)
     exact HE h1 (by decide)
    ·show(nl Hb t).length+1+1<=2*(t.length+1)+1
     exact HM (HE h1 (by decide))
theorem oi: ∀(l:List Nat) (p:Bool),(dd p l).length<=2*l.length
 |[],p=>by simp [dd]
 |c::t,p=>by haveI h1:=oi t Hb;haveI h2:=oi t (c==10);rw [dd];split<;>simp only [Hv]<;>lia
def kU:HJ:=⟨#[13,10]⟩
def nV:HJ:=⟨#[46,46]⟩
variable {t:Array Nat} {e:Nat}
theorem oU {s:Nat} (h:fN t s=H7 e):s<t.size/\s<e/\e<=t.size:=by
 unfold fN at h;by_cases hc:bol t s=Hd/\s<t.size/\t.getD s 0=46
 ·rw [if_pos hc]at h;cases h;exact⟨hc.2.1,⟨(HR _),hc.2.1⟩⟩
 ·rw [if_neg hc]at h;cases h
theorem oR {s:Nat} (h:hit2 t s=H7 e):s<t.size/\s<e/\e<=t.size:=by
 unfold hit2 at h;by_cases hs:s<t.size
 ·rw [if_pos hs]at h
  by_cases hc:t.getD s 0=13
  ·rw [if_pos hc]at h
   by_cases QK:s+1<t.size/\t.getD (s+1) 0=10
   ·rw [if_pos QK]at h;cases h;exact⟨hs,⟨(J8 (HD _ _)),QK.1⟩⟩
   ·rw [if_neg QK]at h;cases h;exact⟨hs,⟨(HR _),hs⟩⟩
  ·rw [if_neg hc]at h
   by_cases QK:t.getD s 0=10
   ·rw [if_pos QK]at h;cases h;exact⟨hs,⟨(HR _),hs⟩⟩
   ·rw [if_neg QK]at h;cases h
 ·rw [if_neg hs]at h;cases h
theorem GF (x:HJ) (f s:Nat) (hs:s<=x.cps.size) (hf:x.cps.size-s<f):((d7 (hit2 x.cps) x kU f s).map (·.cps.toList)).flatten=nl Hb (x.cps.toList.drop s)/\(d7 (hit2 x.cps) x kU f s).length<=2*(x.cps.size-s)+1:=by
 refine o_ (g:=λi=>nl Hb (x.cps.toList.drop i)) ?_ ?_ ?_ (λi e=>oR) f s hs hf
 ·show nl Hb (x.cps.toList.drop x.cps.size)=[]
  rw [IQ (by simp)];rfl
 ·intro i hi hh
  show nl Hb (x.cps.toList.drop i)=_::nl Hb (x.cps.toList.drop (i+1));rw [fD hi,nl];have:x.cps.getD i 0≠13/\x.cps.getD i 0≠10:=by
   refine⟨λe=> ?_,λe=> ?_⟩
   ·obtain⟨e',h⟩:=jH hi (by rw [e];rfl);rw [hh]at h;cases h
   ·obtain⟨e',h⟩:=jH hi (by rw [e];rfl);rw [hh]at h;cases h
  rw [if_neg this.2,if_neg this.1]
  rfl
 ·intro i e h
  have hi:=(oR h).1;show nl Hb (x.cps.toList.drop i)=kU.cps.toList++nl Hb (x.cps.toList.drop e);unfold hit2 at h;rw [if_pos hi]at h;rw [fD hi,nl];by_cases hc:x.cps.getD i 0=13
  ·rw [if_pos hc]at h
   rw [hc,if_neg (by decide),if_pos rfl]
   by_cases QK:i+1<x.cps.size/\x.cps.getD (i+1) 0=10
   ·rw [if_pos QK]at h;cases h
    rw [fD QK.1,QK.2,nl,if_pos rfl,if_pos rfl]
    rfl
   ·rw [if_neg QK]at h;cases h
    by_cases UR:i+1<x.cps.size
    ·rw [fD UR,nl,nl]
     rw [if_neg (λe=>QK ⟨UR,e⟩),if_neg (λe=>QK ⟨UR,e⟩)]
     rfl
    ·rw [IQ (by simp;exact Ix UR)]
     rfl
  ·rw [if_neg hc]at h
   by_cases QK:x.cps.getD i 0=10
   ·rw [if_pos QK]at h;cases h
    rw [QK,if_pos rfl]
    rfl
   ·rw [if_neg QK]at h;cases h
theorem GG (x:HJ) (f s:Nat) (hs:s<=x.cps.size) (hf:x.cps.size-s<f):((d7 (fN x.cps) x nV f s).map (·.cps.toList)).flatten=dd (bol x.cps s) (x.cps.toList.drop s)/\(d7 (fN x.cps) x nV f s).length<=2*(x.cps.size-s)+1:=by
 have hb: ∀i,bol x.cps (i+1)=(x.cps.getD i 0==10):=λi=>by unfold bol;simp
 refine o_ (g:=λi=>dd (bol x.cps i) (x.cps.toList.drop i)) ?_ ?_ ?_ (λi e=>oU) f s hs hf
 ·show dd (bol x.cps x.cps.size) (x.cps.toList.drop x.cps.size)=[]
  rw [IQ (by simp)];rfl
 ·intro i hi hh
  show dd (bol x.cps i) (x.cps.toList.drop i)=_::dd (bol x.cps (i+1)) (x.cps.toList.drop (i+1));rw [fD hi,dd,hb];refine if_neg λhc=> ?_;unfold fN at hh;rw [if_pos ⟨hc.1,hi,hc.2⟩]at hh;cases hh
 ·intro i e h
  haveI hi:=(oU h).1;show dd (bol x.cps i) (x.cps.toList.drop i)=nV.cps.toList++dd (bol x.cps e) (x.cps.toList.drop e);unfold fN at h;by_cases hc:bol x.cps i=Hd/\i<x.cps.size/\x.cps.getD i 0=46
  ·rw [if_pos hc]at h;cases h
   rw [fD hi,dd,if_pos ⟨hc.1,hc.2.2⟩,hb,hc.2.2]
   rfl
  ·rw [if_neg hc]at h;cases h
def mv (S:List Nat->List Nat) (vs:List PV):Option PV:=a1 (oS λx=>giv (x.cps.size<=100000) (.str (tx (S x.cps.toList)))) vs
variable {S:List Nat->List Nat}
theorem t7 {vs:List PV} {r:PV} (h:mv S vs=H7 r): ∃x,vs=[.str x]/\x.cps.size<=100000/\r= .str (tx (S x.cps.toList)):=
 gy (Q:=λvs=> ∃x,vs=[.str x]/\x.cps.size<=100000/\r= .str (tx (S x.cps.toList))) h λx h=>fO (Q:=λv=> ∃x,[v]=[.str x]/\x.cps.size<=100000/\r= .str (tx (S x.cps.toList))) h λx h=>
  ba (P:=λr=> ∃y,[PV.str x]=[.str y]/\y.cps.size<=100000/\r= .str (tx (S y.cps.toList))) h λhc=>⟨x,rfl,hc,rfl⟩
structure wM (code:Array Nat) (r:HJ) (S:List Nat->List Nat):Prop where
 go: ∀(prog:IG) (w:J0) (A:IZ) (ok:Hw->Prop) (s:Hh) (pa:Hw) (x:HJ) (t tr:NX),x.cps.size<=100000->gt s.heap pa code->
  WP (Hj prog w) A (KG (.builtin "re.Pattern.sub") [.ref pa,.str r tr,.str x t]) (Ev' prog w ok (.str (tx (S x.cps.toList))) s) s
theorem Gh:wM P2 kU (nl Hb):=⟨λprog w A ok s pa x t tr hx P=>by
 haveI hz:Hz=2^24:=rfl;have hc:=GF x (x.cps.size+1) 0 (IH _) (by exact HR _)
 rw [KM]at hc;have hl:=lh x.cps.toList Hb;rw [KT]at hl;have hl:(nl Hb x.cps.toList).length<=2*x.cps.size:=hl;have:=wR (prog:=prog) (w:=w) (A:=A) (s:=s) (ok:=ok) (t:=t) (tr:=tr) (r:=kU) (Du (x:=x) (by exact H8 hx (by decide))) (by exact H8 hx (by decide)) (λs e h=>(oR h).2) P (by decide+kernel) (f:=x.cps.size+1) (HR _) (by have:=hc.2;exact H8 (H8 this (HE (I6 (Hm _) hx) (Hm _))) (by decide)) (iF _ (by rw [hc.1];exact H8 (H8 hl (I6 (Hm _) hx)) (by decide)))
 rwa [show LL ⟨#[]⟩ (d7 (hit2 x.cps) x kU (x.cps.size+1) 0)=tx (nl Hb x.cps.toList)from(by have:=lI (d7 (hit2 x.cps) x kU (x.cps.size+1) 0);rw [hc.1]at this;show _=(⟨(nl Hb x.cps.toList).toArray⟩:HJ);rw [<-this])]at this⟩
theorem Gi:wM P1 nV (dd Hd):=⟨λprog w A ok s pa x t tr hx P=>by
 haveI hz:Hz=2^24:=rfl;have hc:=GG x (x.cps.size+1) 0 (IH _) (by exact HR _)
 rw [KM]at hc;haveI hl:=oi x.cps.toList Hd;have hs:x.cps.toList.length=x.cps.size:=rfl;rw [show bol x.cps 0=Hd from rfl]at hc;have:=wR (prog:=prog) (w:=w) (A:=A) (s:=s) (ok:=ok) (t:=t) (tr:=tr) (r:=nV) (Dv (x:=x) (by exact H8 hx (by decide))) (by exact H8 hx (by decide)) (λs e h=>(oU h).2) P (by decide+kernel) (f:=x.cps.size+1) (HR _) (by have:=hc.2;exact H8 (H8 this (HE (I6 (Hm _) (H8 (Hu hs) hx)) (Hm _))) (by decide)) (iF _ (by rw [hc.1];exact H8 (H8 hl (I6 (Hm _) (H8 (Hu hs) hx))) (by decide)))
 rwa [show LL ⟨#[]⟩ (d7 (fN x.cps) x nV (x.cps.size+1) 0)=tx (dd Hd x.cps.toList)from(by have:=lI (d7 (fN x.cps) x nV (x.cps.size+1) 0);rw [hc.1]at this;show _=(⟨(dd Hd x.cps.toList).toArray⟩:HJ);rw [<-this])]at this⟩
section
variable {C:Cx} {Γ:Gam} {Q4:List HJ} {ns:ay}
theorem wS {le e:Expr} {pl pe:PE} {px ap cp:Jq} {k:Nat} {pa:Hw} {code:Array Nat}
  (hl:aI C Γ Q4 ns le pl) (hls: ∀x p,le≠ .Starred x p) (Va: ∀ρ,pev Γ pl ρ=H7 (.str r)) (he:aI C Γ Q4 ns e pe) (Rr: ∀x p,e≠ .Starred x p)
  (hx:aB x=Hd) (hk:fw (ns.lookup x)=2) (L:cG C.H x (.ref pa)) (P:gt C.H pa code) (I:wM code r S) (QG:(ap.endLine==cp.line)=Hd) (Vg:Γ.fn k=mv S):
  aI C Γ Q4 ns (.Call (.Attribute (.Name x px) "sub" ap) [le,e] [] cp) (.call k [pe]):=by
 intro A Q5 ρ ok s v G h;obtain⟨vs,QU,h⟩:=Ho.mp h;rw [Vg]at h;obtain⟨xs,rfl,hsz,rfl⟩:=t7 h;obtain⟨u,hu,QU⟩:=Ho.mp QU;cases QU;refine Lr rfl ?_ QG (cD G.e hx hk G.h L ?_)
 ·rw [bX,aQ hls,aQ Rr]
  rfl
 ·have P':=P.keep G.h
  haveI hT:s.TypeIs (.ref pa) "re.Pattern" :=by obtain⟨o,fs,c,oc,items,n,e,hc,_⟩:=P'.o;exact⟨o,e,hc⟩
  refine⟨"re.Pattern","re.Pattern.sub",EW,rR,Cm,hT, ?_, ?_⟩
  ·intro a ha
   cases ha;obtain⟨o,fs,c,oc,items,n,e,hc,WW,_⟩:=P'.o;exact⟨o,e,WW⟩
  ·have H:bU C A Q5 ok [le,e] [.str r,.str xs] s:=bU.cons hls (hl A Q5 ρ ok s _ G (Va ρ)) λs' x=>bU.cons Rr (he A Q5 ρ ok s' _ (G.ext x) hu) λs' x=>bU.nil
   refine aU (λb e=>by cases e) (by rw [eN];exact fV H.1) ?_
   refine bj (by rw [bX];exact H.1) ((H.2 cp).mono λvs s₂ ⟨x₂,q⟩=> ?_)
   obtain⟨_,_,rfl,⟨tr,rfl⟩,_,_,rfl,⟨t,rfl⟩,rfl⟩:=q;exact(I.go C.prog C.w A ok s₂ pa xs t tr hsz (P'.keep x₂.keep)).mono λv s₃ ⟨x₃,r₃⟩=>⟨x₂.trans x₃,r₃⟩
end
def evT {α:Type} (cc:Ctx->Jq->Hh->Option (NQ×Hh)) (pr:IG) (P:Params) (Γ:Ctx):J_ α->Jq->Hh->Option (Except Hl α×Jq×Hh)
 | .pure a,p,s=>H7 (.ok a,p,s)
 | .raise e,p,s=>H7 (.error e,p,s)
 | .rule _ k,p,s=>evT cc pr P Γ (k ()) p s
 | .at p' k,_,s=>evT cc pr P Γ (k ()) p' s
 | .load a _ k,p,s=>(s.heap.get? a).bind λo=>evT cc pr P Γ (k o) p s
 | .update a _ f k,p,s=>(s.heap.get? a).bind λ_=>evT cc pr P Γ (k ()) p {s with heap:=s.heap.update a f}
 | .loadIfAlive a k,p,s=>evT cc pr P Γ (k (s.heap.get? a)) p s
 | .point _ k,p,s=>evT cc pr P Γ (k ()) p s
 | .alloc o k,p,s=>evT cc pr P Γ (k s.heap.objs.size) p {s with heap:=s.heap.push o}
 | .fresh k,p,s=>evT cc pr P Γ (k s.toks) p {s with toks:=s.toks+1}
 | .ask k,p,s=>evT cc pr P Γ (k ⟨pr,P⟩) p s
 | .call c h _ _ k,p,s=>(cc (Γ.enter c h p) p s).bind λy=>evT cc pr P Γ (k y.1) p y.2
 | .handled own k,p,s=>evT cc pr P Γ (k (if own then Γ.own else Γ.handled)) p s
 | .stack k,p,s=>evT cc pr P Γ (k ((Γ.code,p)::Γ.below)) p s
 | .thread k,p,s=>evT cc pr P Γ (k 0) p s
 |_,_,_=>H9
def evE (go:Ctx->Jq->Hh->Option (NQ×Hh)) (Γ:Ctx):Except Hl Fin×Jq×Hh->Option (NQ×Hh)
 |(.ok (.done f),_,s')=>H7 (.ok f,s')
 |(.ok (.again c),p',s')=>if c.quiet=Hd then go (Γ.goto c) p' s' else H9
 |(.error e,_,s')=>H7 (.error e,s')
def evC (den:Code->J_ Fin) (pr:IG) (P:Params):Nat->Ctx->Jq->Hh->Option (NQ×Hh)
 |0,_,_,_=>H9
 |n+1,Γ,p,s=>(evT (evC den pr P n) pr P Γ (den Γ.code) p s).bind (evE (evC den pr P n) Γ)
def E4 {α:Type} (Q:α->Jq->Hh->Prop) (E:Hl->Jq->Hh->Prop):Except Hl α×Jq×Hh->Prop
 |(.ok a,p,s)=>Q a p s
 |(.error e,p,s)=>E e p s
variable {M:Oj}
theorem xk {cc:Ctx->Jq->Hh->Option (NQ×Hh)} (X0: ∀Γ p s r s',cc Γ p s=H7 (r,s')->Returns M Γ p s r s') {Γ:Ctx} {α:Type} {Q:α->Jq->Hh->Prop} {E:Hl->Jq->Hh->Prop} (t:J_ α):
  ∀(p:Jq) (s:Hh) (x:Except Hl α×Jq×Hh),evT cc M.prog M.w.params Γ t p s=H7 x->E4 Q E x->Kz M Γ t Q E p s:=by
 induction t with
 |pure a=>intro p s x h q;cases h;exact q
 |raise e=>intro p s x h q;cases h;exact q
 |rule _ k ih=>intro p s x h q;exact ih _ _ _ _ h q
 | «at» _ k ih=>intro p s x h q;exact ih _ _ _ _ h q
 |load a _ k ih=>intro p s x h q;exact ae h λo e h=>⟨o,e,ih _ _ _ _ h q⟩
 |update a _ f k ih=>intro p s x h q;exact ae h λo e h=>⟨by rw [e];rfl,ih _ _ _ _ h q⟩
 |loadIfAlive a k ih=>intro p s x h q;exact ih _ _ _ _ h q
 |point _ k ih=>intro p s x h q;exact ih _ _ _ _ h q
 |alloc o k ih=>intro p s x h q;exact ih _ _ _ _ h q
 |fresh k ih=>intro p s x h q;exact ih _ _ _ _ h q
 |ask k ih=>intro p s x h q;exact ih _ _ _ _ h q
 |call c hh g l k ih=>intro p s x h q;exact ae h λy e h=>⟨y.1,y.2,X0 _ _ _ _ _ e,ih _ _ _ _ h q⟩
 |handled own k ih=>intro p s x h q;exact ih _ _ _ _ h q
 |stack k ih=>intro p s x h q;exact ih _ _ _ _ h q
 |thread k ih=>intro p s x h q;exact ih _ _ _ _ h q
 |unsupported|finish|register|choose|os|genState|newGen|resume|yield|fork|await=>intro p s x h q;exact a9 h
theorem gN: ∀(n:Nat) (Γ:Ctx) (p:Jq) (s:Hh) (r:NQ) (s':Hh),evC M.den M.prog M.w.params n Γ p s=H7 (r,s')->Returns M Γ p s r s'
 |0,Γ,p,s,r,s',h=>by cases h
 |n+1,Γ,p,s,r,s',h=>by
  haveI hw:wpCode M Γ (λr' Qj=>r'=r/\Qj=s') p s:=by
   rw [wpCode_iff_wp];refine ae h λx e h=>xk (gN n) _ _ _ x e ?_;obtain⟨y,p',Qj⟩:=x;cases y with
   |error v=>cases h;exact⟨rfl,rfl⟩
   |ok fin=>
    cases fin with
    |done f=>cases h;exact⟨rfl,rfl⟩
    |again c=>exact ct h (λhq h=>⟨hq,r,s',gN n _ _ _ _ _ h,rfl,rfl⟩) λ_ h=>a9 h
  obtain⟨_,_,hr,rfl,rfl⟩:=hw;exact hr
variable {prog:IG} {w:J0} {A:IZ} {E:Hl->Hh->Prop} {d:Hw} {Qu:List (Int×Hl)} {Q:Unit->Hh->Prop} {s:Hh} {ts:List (Int×HJ)}
section
theorem sw {k:Int} {key v:Hl} (SK:(IM prog w).is k key=Hd) (hm:s.heap.DictOf (IM prog w) d Qu)
  (Rx:k∉Qu.map (·.1)) (hsz:Qu.length<=Hz) (hQ: ∀h',h'.DictOf (IM prog w) d (Qu++[(k,v)])->Iz d s.heap h'->Q () {s with heap:=h'}):
  Im (Hj prog w) A (dictPut d ((IM prog w).hash k) key v) Q E s:=by
 obtain⟨o,es,ep,ho,hc,hd,hk,hp,hn⟩:=hm;have Rr:es.size<=Hz:=by
  have e1:=hp.length;have e2:es.toList.length=es.size:=by simp
  exact H8 (Hu e1) hsz
 unfold dictPut;refine He (wpAny_dictFind_of SK ho hd hk ?_);have YC:(es.findIdx? λe=>(IM prog w).is k e.key)=Qu.findIdx? λkv=>decide (kv.1=k):=by rw [<-hp.findIdx k];obtain⟨l⟩:=es;simp
 have V_:(es.findIdx? λe=>(IM prog w).is k e.key)=H9:=by rw [YC,List.findIdx?_eq_none_iff];intro kv TH;exact decide_eq_false λe=>Rx (HC.mpr ⟨kv,TH,e⟩)
 rw [V_];refine wpAny_updateDictKeys (hz:=Rr) ho hd (hQ _ ⟨_,_,ep+1,IX _ ho (PA (Pn hd _)),
   hc.mapDictKeys _,Pn hd _,hk.push SK _, ?_, ?_⟩ (JB ..))
 ·have:=hp.append SK ((IM prog w).hash k) v
  obtain⟨l⟩:=es;simpa using this
 ·rw [HY,KB]
  refine⟨hn,by simp, ?_⟩
  intro a ha b hb;simp only [HI,Ko,Hx]at hb;subst hb;exact λe=>Rx (e▸ha)
def kT:List (Int×Hl)->List (Int×HJ)->Prop
 |[],[]=>True
 |kv::r,t::ts=>kv.1=t.1/\(∃u,kv.2= .str t.2 u)/\kT r ts
 |_,_=>False
theorem kT.keys: ∀{Qu:List (Int×Hl)} {ts:List (Int×HJ)},kT Qu ts->Qu.map (·.1)=ts.map (·.1)
 |[],[],_=>rfl
 |kv::r,t::ts,h=>by rw [HI,HI,h.1,h.2.2.keys]
theorem kT.append: ∀{a:List (Int×Hl)} {x:List (Int×HJ)} {b y},kT a x->kT b y->kT (a++b) (x++y)
 |[],[],_,_,_,h=>h
 |kv::r,t::ts,_,_,h,h2=>⟨h.1,h.2.1,h.2.2.append h2⟩
def DD (prog:IG) (w:J0) (h:IL) (d:Hw) (ts:List (Int×HJ)):Prop:= ∃Qu,h.DictOf (IM prog w) d Qu/\kT Qu ts
structure Old (n:Nat) (s s':Hh):Prop where
 get: ∀b,b<n->s'.heap.get? b=s.heap.get? b
 gens:s'.gens=s.gens
 drawn:s'.drawn=s.drawn
 os:s'.os=s.os
theorem Old.refl (n:Nat) (s:Hh):Old n s s:=⟨λ_ _=>rfl,rfl,rfl,rfl⟩
theorem Old.trans {n:Nat} {a b c:Hh} (x:Old n a b) (y:Old n b c):Old n a c:=⟨λd h=>(y.get d h).trans (x.get d h),y.gens.trans x.gens,y.drawn.trans x.drawn,y.os.trans x.os⟩
def pr (pos:Jq) (t:Int×HJ):J_ Hl×J_ Hl:=(mkInt t.1,do let x<-mkText t.2;Ji pos;pure x)
theorem mP (pos:Jq) (n:Nat) (hn:n<=d): ∀(ts Q8:List (Int×HJ)) (s:Hh) (Q:PUnit->Hh->Prop),DD prog w s.heap d Q8->((Q8++ts).map (·.1)).Nodup->Q8.length+ts.length<=1000->
  (∀s',DD prog w s'.heap d (Q8++ts)->Old n s s'->s'.heap.objs.size=s.heap.objs.size->Iz d s.heap s'.heap->Q Og s')->
  Im (Hj prog w) A (forIn (ts.map (pr pos)) Og fun(x:J_ Hl×J_ Hl) (_:PUnit)=>(do let kv<-x.1;let vv<-KZ [kv] x.2;KZ [kv,vv] (PR d kv vv);pure (LA Og):J_ (ForInStep PUnit))) Q E s
 |[],Q8,s,Q,hd,Ra,hl,hQ=>by rw [Ko,M7];exact Hi (hQ s (by simpa using hd) (Old.refl _ _) rfl (Ox _ _))
 |t::ts,Q8,s,Q,hd,Ra,hl,hQ=>by
  rw [HI,K3];refine He ?_;show Im (Hj prog w) A (mkInt t.1>>=λkv=>KZ [kv] (do let x<-mkText t.2;Ji pos;pure x)>>=λvv=>KZ [kv,vv] (PR d kv vv)>>=λ_=>pure (LA Og)) _ E s
  refine He (He (Oz (Hi ?_)));refine He (I_ (He (He (Oz (Hi (He (KI (Hi ?_))))))));obtain⟨Qu,hm,hv⟩:=hd;have hk:=hv.keys;haveI Q7:Qu.length=Q8.length:=by simpa using congrArg Kl hk
  haveI hz:Hz=2^24:=rfl;refine He (I_ (wpAny_dictSet_pairs (knd:=IM prog w) (k:=t.1) (Mt prog w t.1 s.toks) hm (λh' S4 hs=>Hi ?_) (by exact H8 (H8 (Hu Q7) (Ii hl)) (by decide))))
  haveI Rx: ¬(Qu.any λkv=>decide (kv.1=t.1))=Hd:=by rw [List.any_eq_true];rintro⟨kv,TH,he⟩;rw [HY,HI,KB]at Ra;refine Ra.2.2 t.1 ?_ t.1 Hs rfl;rw [<-hk];exact HC.mpr ⟨kv,TH,of_decide_eq_true he⟩
  rw [OS,if_neg Rx]at S4;refine mP pos n hn ts (Q8++[t]) _ Q ⟨_,S4,hv.append ⟨rfl,⟨_,rfl⟩,trivial⟩⟩ (by simpa using Ra) (by simp at hl ⊢;exact H8 (Hu (HS _ _ _)) hl) λs' h1 h2 h3 h4=>hQ s' (by simpa using h1) ?_ ?_ ?_
  ·exact⟨λb hb=>(h2.get b hb).trans (hs.2 b (IB (Ha hb hn))),h2.gens,h2.drawn,h2.os⟩
  ·exact h3.trans hs.1
  ·exact hs.trans h4
theorem fJ (pos:Jq): ∀(ts:List (Int×HJ)) (s:Hh) (Q:List (Hl×Hl)->Hh->Prop),
  (∀vs k,(∀Qu:List (Int×Hl),True)->(∃Qu,Carries (IM prog w) vs Qu/\kT Qu ts)->Q vs {s with toks:=k})->Im (Hj prog w) A (evalPairs (ts.map (pr pos))) Q E s
 |[],s,Q,hQ=>evalPairs_nil (by have:=hQ [] s.toks (λ_=>trivial) ⟨[],trivial,trivial⟩;exact this)
 |t::ts,s,Q,hQ=>by
  rw [HI];show Im (Hj prog w) A (evalPairs ((mkInt t.1,do let x<-mkText t.2;Ji pos;pure x)::ts.map (pr pos))) Q E s
  refine evalPairs_cons (He (Oz (Hi (He (He (Oz (Hi (He (KI (Hi ?_))))))))));refine fJ pos ts _ _ λvs k _ ⟨Qu,hc,hv⟩=> ?_;exact hQ _ k (λ_=>trivial) ⟨(t.1,.str t.2 (s.toks+1))::Qu,⟨Mt prog w t.1 s.toks,rfl,hc⟩,rfl,⟨_,rfl⟩,hv⟩
theorem pK (h:IL) (o:Oh) {b:Hw} (hb:b<h.objs.size):(h.push o).get? b=h.get? b:=by
 cases e:h.get? b with
 |some o'=>exact HV o e
 |none=>
  cases e2:(h.push o).get? b with
  |none=>rfl
  |some o'=>
   rcases Heap.get?_push_cases e2 with⟨rfl,_⟩|q
   ·exact absurd hb (Hr _)
   ·rw [e]at q;cases q
theorem qi (pos:Jq) {Q:Hw->Hh->Prop} (hl:ts.length<=100) (hn:(ts.map (·.1)).Nodup)
  (hQ: ∀s',DD prog w s'.heap s.heap.objs.size ts->Old s.heap.objs.size s s'->s'.heap.objs.size=s.heap.objs.size+1->Q s.heap.objs.size s'):Im (Hj prog w) A (subDict (ts.map (pr pos))) Q E s:=by
 have hp: ∀b,b<s.heap.objs.size->(s.heap.push {cls:= .type "dict",data:= .dict #[]}).get? b=s.heap.get? b:=λb hb=>pK _ _ hb;have hsz:(s.heap.push {cls:= .type "dict",data:= .dict #[]}).objs.size=s.heap.objs.size+1:=I8 ..
 by_cases h15:ts.length<=15
 ·refine wpAny_subDict (knd:=IM prog w) (by simpa using h15) (fJ pos ts _ _ λvs k _ ⟨Qu,hc,hv⟩=>⟨Qu,hc,Lp s.heap,λh' hm hs=>hQ _ ⟨Qu, ?_,hv⟩ ?_ ?_⟩)
  ·have:=hv.keys
   rwa [merged_nil_of_nodup Qu (by rw [this];exact hn)]at hm
  ·exact⟨λb hb=>(hs.2 b (IB hb)).trans (hp b hb),rfl,rfl,rfl⟩
  ·exact hs.1.trans hsz
 ·unfold subDict
  refine He (wpAny_alloc ?_);refine He (I_ ?_);rw [if_neg (by simpa using h15)]
  refine He (Ms ?_);refine He (mP pos s.heap.objs.size (Hm _) ts [] _ _ ⟨[],Lp s.heap,trivial⟩ (by simpa using hn) (by simp;exact H8 hl (by decide)) λs' h1 h2 h3 h4=>Hi (Hi (hQ s' (by simpa using h1) ?_ (h3.trans hsz))))
  exact⟨λb hb=>(h2.get b hb).trans (hp b hb),h2.gens,h2.drawn,h2.os⟩
theorem xG {o:Hw} {QM:List (Int×Hl)} (Us:d≠o) (hoS:(o==IA)=Hb) (QJ:Qu≠[])
  (hd:s.heap.DictOf (IM prog w) d Qu) (ho:s.heap.DictOf (IM prog w) o QM) (WN:((Qu++QM).map (·.1)).Nodup) (hsz:Qu.length+QM.length<=1000)
  (hQ: ∀h',h'.DictOf (IM prog w) d (Qu++QM)->Iz d s.heap h'->Q () {s with heap:=h'}):Im (Hj prog w) A (PM d (.ref o) Hb) Q E s:=by
 obtain⟨od,Yd,epd,XJ,W_,hdd,hkd,WI,hnd'⟩:=id hd;obtain⟨oo,Sp,epo,XI,SV,TV,hko,hpo,Tv⟩:=id ho;haveI hz:Hz=2^24:=rfl;have Q7:QM.length=Sp.size:=by rw [<-hpo.length];simp
 have QZ:Qu.length=Yd.size:=by rw [<-WI.length];simp
 have hT:s.TypeIs (.ref o) "dict" :=ho.typeIs;unfold PM;refine He (wpAny_isInstance hT isSubtype_dict_dict ?_);rw [if_pos rfl];refine He (Mb hT PySem.F.slot_dict_iter.lookup ?_);rw [show((H7 (Value.builtin "dict.__iter__"):Option Hl)==H7 (.builtin "dict.__iter__"))=Hd by decide]
 refine He (Hi ?_);dsimp only;rw [hoS,if_neg (by simp)]
 refine He (O8 XJ hdd ?_);haveI YE:Yd.isEmpty=Hb:=by
  cases h:Yd.isEmpty with
  |false=>rfl
  |true=>
   have:=Array.isEmpty_iff.mp h;rw [this]at QZ;exact absurd (OJ.mp QZ) QJ
 rw [YE,if_neg (by simp)]
 refine He (O8 XI TV ?_);refine He (wpAny_dictEpoch XI TV ?_);refine He ?_;rw [List.range_eq_range'];refine wpAny_forIn_list _
  (λQo _ s'=> ∃h' i,s'={s with heap:=h'}/\Qo=Ir i (Sp.size-i)/\i<=Sp.size/\h'.DictOf (IM prog w) d (Qu++QM.take i)/\h'.get? o=H7 oo/\Iz d s.heap h')
  _ ?_ ?_ _ _ ⟨s.heap,0,rfl,by simp,IH _,by simpa using hd,XI,Ox _ _⟩
 ·rintro x Qo b s' ⟨h',i,rfl,hr,hi,R1,hoo',QV⟩
  have Qp:i<Sp.size:=by
   rcases Kr i Sp.size with h|h
   ·exact h
   ·rw [KA h]at hr;simp at hr
  obtain⟨rfl,VZ⟩:x=i/\Qo=Ir (i+1) (Sp.size-(i+1)):=by
   have e:Sp.size-i=(Sp.size-(i+1))+1:=by exact wJ Qp
   rw [e,My]at hr;injection hr with h1 h2
   exact⟨h1,h2⟩
  refine He (O8 hoo' TV ?_);rw [KQ Qp];have TY:x<QM.length:=by rw [Q7];exact Qp
  obtain⟨kv,TH⟩: ∃kv,QM[x]? =H7 kv:=⟨QM[x],HB TY⟩;obtain⟨k,v⟩:=kv;obtain⟨SK,Yj⟩:=hpo.get? (e:=Sp[x]) (by simp [Qp]) TH
  obtain⟨k',W6,W8⟩:=hko Sp[x] (PJ Qp);obtain rfl:k'=k:=(IM prog w).inj _ _ _ W6 SK;haveI Rx:k'∉(Qu++QM.take x).map (·.1):=by
   intro hm;rw [<-IF x QM,<-HW,HY,KB]at WN;refine WN.2.2 k' hm k' ?_ rfl;rw [Js TY,HI];haveI:QM[x]=(k',v):=by rw [HB TY]at TH;exact Hg TH
   rw [this];exact Hs
  haveI WQ:(Qu++QM.take x).length<=Hz:=by rw [Hn,JP];exact H8 (HE (Ii hsz) (H8 (Nat.min_le_left _ _) (H8 (HP TY) (Pg hsz)))) (by decide)
  dsimp only;rw [W8,Yj];refine He (I_ ?_);rw [if_neg (by simp)]
  refine sw SK R1 Rx WQ λTA YH VC=> ?_;have U8:TA.get? o=H7 oo:=(VC.2 o (Kv Us)).trans hoo';refine He (wpAny_dictEpoch U8 TV ?_);rw [if_neg (by simp)]
  refine Hi ⟨TA,x+1,rfl,VZ,Qp, ?_,U8,QV.trans VC⟩;rw [Li TY,<-HW];haveI:QM[x]=(k',v):=by rw [HB TY]at TH;exact Hg TH
  rw [this];exact YH
 ·rintro b s' ⟨h',i,rfl,hr,hi,R1,hoo',QV⟩
  haveI RC:i=Sp.size:=by
   rcases Kr i Sp.size with h|h
   ·haveI e:Sp.size-i=(Sp.size-(i+1))+1:=by exact wJ h
    rw [e,My]at hr;exact nomatch hr
   ·exact JH hi h
  refine Hi (hQ h' ?_ QV);rw [RC,<-Q7,List.take_length]at R1;exact R1
end
variable {n₀:Nat}
section
def fl (run:List (J_ Hl×J_ Hl)) (main:Option Hw):J_ (Option Hw):=
 if run.isEmpty=Hd then pure main else match main with
  |none=>(do let d<-subDict run;pure (H7 d))
  |some d=>(do
   let sub<-KZ [.ref d] (subDict run)
   (KZ [.ref d,.ref sub] (PM d (.ref sub) Hb)).onRaise λx=>do let _<-KZ [.ref d,x] (runValue (.builtin "proto.let_go" {}));pure ()
   pure (H7 d))
def ST (prog:IG) (w:J0) (n₀:Nat) (s:Hh):Option Hw->List (Int×HJ)->Prop
 |none,Q8=>Q8=[]/\s.heap.objs.size=n₀
 |some d,Q8=>d=n₀/\Q8≠[]/\n₀<s.heap.objs.size/\DD prog w s.heap d Q8
theorem BN (pos:Jq) (h0:IA<n₀) {run Q8:List (Int×HJ)} {main:Option Hw} {Q:Option Hw->Hh->Prop} (hs:ST prog w n₀ s main Q8) (hr:run≠[]) (hl:Q8.length+run.length<=1000) (SE:run.length<=100)
  (hn:((Q8++run).map (·.1)).Nodup) (hQ: ∀s',ST prog w n₀ s' (H7 n₀) (Q8++run)->Old n₀ s s'->s'.heap.objs.size=s.heap.objs.size+1->Q (H7 n₀) s'):Im (Hj prog w) A (fl (run.map (pr pos)) main) Q E s:=by
 unfold fl;rw [if_neg (by simpa using hr)]
 have WK:(run.map (·.1)).Nodup:=by rw [HY,KB]at hn;exact hn.2.1
 cases main with
 |none=>
  obtain⟨rfl,rfl⟩:=hs;exact He (qi pos SE WK λs' h1 h2 h3=>Hi (hQ s' ⟨rfl,by simpa using hr,PY (HR _) h3.symm,h1⟩ h2 h3))
 |some d=>
  obtain⟨rfl,ha,Qp,hd⟩:=hs;refine He (I_ (qi pos SE WK λs' h1 h2 h3=> ?_));haveI QJ:d≠s.heap.objs.size:=IB Qp;obtain⟨Qu,hm,hv⟩:=hd;obtain⟨QM,hm2,Xx⟩:=h1;haveI S4:s'.heap.DictOf (IM prog w) d Qu:=by obtain⟨o,es,ep,ho,r⟩:=hm;exact⟨o,es,ep,(h2.get d Qp).trans ho,r⟩
  have l1:Qu.length=Q8.length:=by simpa using congrArg Kl hv.keys
  haveI l2:QM.length=run.length:=by simpa using congrArg Kl Xx.keys
  refine He (wpAny_onRaise (I_ (xG QJ (beq_eq_false_iff_ne.mpr λe=> ?_) ?_ S4 hm2 ?_ (by exact IN (J8 (H8 (HE (Hu l1) (Hu l2)) hl))) λh' R1 QV=>Hi (hQ _ ⟨rfl,by simp [ha], ?_,⟨_,R1,hv.append Xx⟩⟩ ⟨λb hb=> ?_,h2.gens,h2.drawn,h2.os⟩ (QV.1.trans h3)))))
  ·rw [e]at Qp;exact absurd Qp (by haveI:IA<d:=h0;exact LC.mpr (HP this))
  ·intro e
   rw [e]at l1;exact ha (OJ.mp l1.symm)
  ·rw [HY,hv.keys,Xx.keys,<-HY];exact hn
  ·show d<h'.objs.size
   rw [QV.1,h3];exact K8 Qp
  ·exact(QV.2 b (IB hb)).trans (h2.get b (J6 hb Qp))
theorem jK (pos:Jq) (h0:IA<n₀) (f:(Option (J_ Hl)×J_ Hl)->(Option Hw×List (J_ Hl×J_ Hl))->J_ (ForInStep (Option Hw×List (J_ Hl×J_ Hl))))
  (hf: ∀(p:J_ Hl×J_ Hl) (main:Option Hw) (run:List (J_ Hl×J_ Hl)),f (H7 p.1,p.2) (main,run)=if((run++[p]).length==17)=Hd then(do let main<-fl (run++[p]) main;pure (.yield (main,[])))else pure (.yield (main,run++[p]))):
  ∀(Qo run Q8:List (Int×HJ)) (main:Option Hw) (s:Hh) (Q:Option Hw×List (J_ Hl×J_ Hl)->Hh->Prop),ST prog w n₀ s main Q8->run.length<17->Q8.length+run.length+Qo.length<=1000->((Q8++run++Qo).map (·.1)).Nodup->
   (∀s' U6 SO TQ,ST prog w n₀ s' U6 SO->TQ.length<17->SO++TQ=Q8++run++Qo->Old n₀ s s'->s'.heap.objs.size+(TQ.length+16)/17=s.heap.objs.size+(run.length+Qo.length+16)/17->Q (U6,TQ.map (pr pos)) s')->
   Im (Hj prog w) A (forIn ((Qo.map (pr pos)).map λp=>(H7 p.1,p.2)) (main,run.map (pr pos)) f) Q E s
 |[],run,Q8,main,s,Q,hs,hr,hl,hn,hQ=>by rw [Ko,Ko,M7];exact Hi (hQ s main Q8 run hs hr (by simp) (Old.refl _ _) (by simp))
 |t::Qo,run,Q8,main,s,Q,hs,hr,hl,hn,hQ=>by
  rw [HI,HI,K3,hf];haveI e1:run.map (pr pos)++[pr pos t]=(run++[t]).map (pr pos):=by simp
  rw [e1];have Ra:((Q8++(run++[t])++Qo).map (·.1)).Nodup:=by simpa using hn
  by_cases S9:run.length+1=17
  ·rw [if_pos (by simpa using S9)]
   refine He (He (BN pos h0 hs (by simp) (by simp at hl ⊢;exact HM (H8 (HD _ _) (JM hl))) (by simp;exact H8 (Hu (Kf S9)) (by decide)) (by rw [HY,KB]at Ra;exact Ra.1) λs' h1 h2 h3=>Hi ?_))
   refine jK pos h0 f hf Qo [] (Q8++(run++[t])) (H7 n₀) s' Q h1 (by decide) (by simp at hl ⊢;exact H8 (Hu (NA _ _)) hl) (by simpa using hn) λQj m' a' r' g1 g2 g3 g4 g5=>hQ Qj m' a' r' g1 g2 (by rw [g3];simp) (h2.trans g4) ?_
   rw [g5,h3];simp only [I0,Hv];exact FZ S9
  ·rw [if_neg (by simpa using S9)]
   refine He (Hi ?_);refine jK pos h0 f hf Qo (run++[t]) Q8 main s Q hs (by simp;exact Md hr S9) (by simp at hl ⊢;exact H8 (Hu (NA _ _)) hl) (by simpa using hn) λQj m' a' r' g1 g2 g3 g4 g5=>hQ Qj m' a' r' g1 g2 (by rw [g3];simp) g4 ?_
   rw [g5];simp only [Hn,Hv,I0];lia
theorem GD (pos:Jq) {Q:Hl->Hh->Prop} (h0:IA<s.heap.objs.size) (QJ:ts≠[]) (hl:ts.length<=1000) (hn:(ts.map (·.1)).Nodup)
  (hQ: ∀s',DD prog w s'.heap s.heap.objs.size ts->Old s.heap.objs.size s s'->s'.heap.objs.size=s.heap.objs.size+(ts.length+16)/17->Q (.ref s.heap.objs.size) s'):
  Im (Hj prog w) A (dictDisplay ((ts.map (pr pos)).map λp=>(H7 p.1,p.2))) Q E s:=by
 unfold dictDisplay;dsimp only;refine He (jK pos h0 _ (λp main run=>rfl) ts [] [] H9 s _ ⟨rfl,rfl⟩ (by decide) (by simpa using hl) (by simpa using hn) λs' main Q8 run h1 h2 h3 h4 h5=> ?_)
 show Im (Hj prog w) A (fl (run.map (pr pos)) main>>=λm=>match m with|some d=>pure (LV d)|none=>newDict) Q E s'
 have SF:Q8++run=ts:=by simpa using h3
 cases run with
 |nil=>
  rw [IS]at SF;subst SF;cases main with
  |none=>exact absurd h1.1 QJ
  |some d=>
   obtain⟨rfl,_,_,hd⟩:=h1;refine He (Hi (Hi (hQ s' hd h4 ?_)));simpa using h5
 |cons t r=>
  refine He (BN pos h0 h1 (by simp) (by rw [<-SF]at hl;simpa using hl) (by exact H8 (HP h2) (by decide)) (by rw [SF];exact hn) λQj g1 g2 g3=>Hi (hQ Qj ?_ (h4.trans g2) ?_))
  ·rw [<-SF];exact g1.2.2.2
  ·rw [g3]
   simp only [Hv,I0]at h5 h2 ⊢
   lia
end
variable {s':Hh} {o:Outcome} {P:Prop} {f:LR}
section
variable {p:IG}
theorem iH {t:Thread} (h:Step.go s t= .halt o s'):P:=nomatch h
theorem kl (n:(match o with| .done _=>False|_=>True)) (h:Step.halt o s= .halt (.done f) s'):P:=by cases h;exact n.elim
theorem Eg (h:PP o s= .halt (.done f) s'):o= .done f/\s'=s:=by
 unfold PP at h;split at h
 ·exact kl trivial h
 ·cases h;exact⟨rfl,rfl⟩
theorem pI {den:Code->J_ Fin} {t:Thread} (h:step den p w s t= .halt (.done f) s'):through t=Hd/\s'=s:=by
 obtain⟨heap,gens,drawn,toks,os⟩:=s;obtain⟨cur,code,pos,stack⟩:=t;cases cur with
 |pure a=>
  cases a with
  |again c=>exact iH h
  |done g=>match stack,h with
   |[],h=>exact⟨rfl,(Eg h).2⟩
   | .ret .. ::_,h=>exact iH h
   | .gen .. ::_,h=>exact iH h
 |raise e=>match stack,h with
  |[],h=>exact nomatch (Eg h).1
  | .ret .. ::_,h=>exact iH h
  | .gen .. ::_,h=>exact iH h
 |unsupported _=>exact kl trivial h
 |finish e=>
  revert h;delta step;dsimp only;cases Na gens<;>exact λh=>kl trivial h
 |load a _ k=>
  revert h;delta step;dsimp only;cases heap.get? a
  ·exact λh=>kl trivial h
  ·exact λh=>iH h
 |update a _ g k=>
  revert h;delta step;dsimp only;cases (heap.get? a).isSome
  ·exact λh=>kl trivial h
  ·exact λh=>iH h
 |choose src n k=>
  revert h;delta step;dsimp only;by_cases hn:n=0
  ·rw [if_pos hn];exact λh=>kl trivial h
  ·rw [if_neg hn];exact λh=>iH h
 |genState g k=>
  revert h;delta step;dsimp only;cases gens[g]?
  ·exact λh=>kl trivial h
  ·exact λh=>iH h
 |resume g r l k=>
  revert h;delta step;dsimp only;cases gens[g]? with
  |none=>exact λh=>kl trivial h
  |some x=>
   cases x with
   |fresh c=>
    match r with
    | .throw e=>exact λh=>iH h
    | .send v=>cases v<;>exact λh=>iH h
   |_=>exact λh=>iH h
 |yield v g0 l kk=>
  revert h;delta step;dsimp only;cases splitAtGen stack
  ·exact λh=>kl trivial h
  ·exact λh=>iH h
 |register _ _=>exact kl trivial h
 |fork _ _=>exact kl trivial h
 |await _ _=>exact kl trivial h
 |_=>exact iH h
theorem ii: ∀{n:Nat} {s s':Hh} {t:Thread} {f:LR},runN (NP NE) p w n s t= .halted (.done f) s'->(∀k s₁ t₁,runN (NP NE) p w k s t= .running s₁ t₁->t₁.calm=Hd)->s.asleep->
  ∃m t₁,schedN (NP NE) p w m (.single s t)= .running (.single s' t₁)/\through t₁=Hd
 |0,_,_,_,_,h,_,_=>by cases h
 |n+1,s,s',t,f,h,hc,hz=>by
  simp only [runN]at h;cases hs:step (NP NE) p w s t with
  |halt o s₂=>
   rw [hs]at h;cases h;obtain⟨h1,rfl⟩:=pI hs;exact⟨0,t,rfl,h1⟩
  |go s₂ t₂=>
   rw [hs]at h;have e:sstep (NP NE) p w (.single s t)= .go (.single s₂ t₂):=by
    rcases sstep_single (NP NE) p w s t (hc 0 s t rfl) hz with e|e
    ·rw [e,hs];rfl
    ·rw [hs]at e;cases e
   obtain⟨m,t₁,hm,ht⟩:=ii h (λk s₁ t₁ q=>hc (k+1) s₁ t₁ (by simp only [runN,hs];exact q)) (ML (step_life (NP NE) p w s s₂ t t₂ hs) hz)
   exact⟨m+1,t₁,by simp only [schedN,e];exact hm,ht⟩
def cF:Ctx:=⟨.builtin "claim.caller" {},H9,H9,[],H9⟩
theorem v8 {s₀:Hh} {t:J_ Fin} {R:Hh->Prop} (hz:s₀.asleep) (h:Kz (Hj p w) cF t (λfin _ s'=>(∃v,fin= .done (.ret v))/\R s'/\s'.gens= #[]) (λ_ _ _=>False) Ip s₀):
  ∃n t₁ s₁,schedN (NP NE) p w n (.single s₀ ⟨t,.builtin "claim.caller" {},Ip,[]⟩)= .running (.single s₁ t₁)/\through t₁=Hd/\s₁.heap.life=s₀.heap.life/\R s₁/\s₁.gens= #[]:=by
 have h':Kz (Hj p w) cF t (Sem.finPost (Hj p w) cF λr s'=>((∃v,r= .ok (.ret v))/\R s'/\s'.gens= #[])/\Na s'.gens=Hb)
   (λe _ s'=>((∃v,(.error e:NQ)= .ok (.ret v))/\R s'/\s'.gens= #[])/\Na s'.gens=Hb) Ip s₀:=by
  refine Ld (Hj p w) cF t (λfin p' s' h'=> ?_) (λ_ _ _ h'=>h'.elim) Ip s₀ h;obtain⟨⟨v,rfl⟩,hR,hg⟩:=h';exact⟨⟨⟨v,rfl⟩,hR,hg⟩,by rw [hg];simp [Na]⟩
 obtain⟨n,r,s₁,hn,⟨v,rfl⟩,hR,hg⟩:=(wp_iff_halts (M:=Hj p w) (R:=λr s'=>(∃v,r= .ok (.ret v))/\R s'/\s'.gens= #[]) ..).mp h';obtain⟨s₂,hr,hf,hc⟩:=runNI_real _ _ _ hn (outcomeOf_ends _);obtain rfl:s₂=s₁:=Shared.eq_of_forget_eq hf hg;obtain⟨m,t₁,hm,ht⟩:=ii hr hc hz;exact⟨m,t₁,s₂,hm,ht,runN_life _ _ _ hr,hR,hg⟩
end
end Internal
namespace Internal
open PySem PySem.W PySem.Calls PyProof.Rows PySem.Challenge
abbrev prg:IG:=pw_uk0023_01
def Ca:Code->J_ J':=PySem.W.Fast.tw11892475500146522536 MD
def mz (w:J0):Option Hh:=(PySem.W.Fast.tw10274390034422433532 MD (PL prg) w 20000 (MM (PL prg)).1 (MM (PL prg)).2).bind (PySem.W.Fast.tw14289696077712309145 prg)
def cJ:List IR:=IP prg
def kP:MY:={scope:=prg.main.scope,locals:=LB,globals:=LB,cells:=[],code:= .ref 30,frame:=H7 31}
def kY:Ctx:=cF.enter (.body cJ kP) H9 Ip
def ev2 {α:Type} (w:J0) (Γ:Ctx) (t:J_ α) (pos:Jq) (s:Hh):=evT (evC Ca prg w.params 5000) prg w.params Γ t pos s
def rfA:Hl->Option Hw
 | .ref a=>H7 a
 |_=>H9
variable {v:Hl} {a:Hw}
theorem Ab (h:rfA v=H7 a):v= .ref a:=by
 cases v with
 |ref=>exact congrArg LV (Hg h)
 |_=>exact nomatch h
def C5:LR->Bool
 | .next=>Hd
 |_=>Hb
theorem qL {f:LR} (h:C5 f=Hd):f= .next:=by
 cases f with
 |next=>rfl
 |_=>exact nomatch h
def okE {α β:Type} (r:Option (Except Hl α×β)):Option (α×β):=r.bind λy=>y.1.toOption.map λa=>(a,y.2)
variable {α:Type}
theorem oM {β:Type} {r:Option (Except Hl α×β)} {a:α} {b:β} (h:okE r=H7 (a,b)):r=H7 (.ok a,b):=by
 obtain⟨⟨y,b'⟩,e,h⟩:=Ho.mp h;rw [e];cases y with
 |ok a'=>cases h;rfl
 |error v=>exact nomatch h
def e1 (w:J0) (s:Hh):Option (Jq×Hh):=(okE (ev2 w cF (do let code<-MC prg.main;let fr<-MF code LB LB;pure (code,fr)) Ip s)).bind λy=>if(rfA y.1.1=H7 30/\y.1.2=31)/\y.2.1=⟨0,0,0,0⟩then H7 (⟨0,0,0,0⟩,y.2.2)else H9
def e2 (w:J0) (x:Jq×Hh):Option (Jq×Hh):=(okE (ev2 w kY (do MN cJ kP;JC (cJ.take 21) kP) x.1 x.2)).bind λy=>if C5 y.1=Hd then H7 y.2 else H9
def pP (G:Nat->Oh) (tk:Nat) (li:Life) (s:Hh):Hh:={s with heap:=⟨s.heap.objs++((M6 39).map G).toArray,li⟩,toks:=tk}
def mH:Expr:=match cJ[21]? with|some (N3 [t] _ _)=>t|_=> .Name ⟨#[]⟩ Ip
def e3 (w:J0) (pos:Jq) (s:Hh):Option (Jq×Hh):=(okE (ev2 w kY (do MB mH kP (.ref 137);JC (cJ.drop 22) kP) pos s)).bind λy=>if C5 y.1=Hd then H7 y.2 else H9
def nP (w:J0) (pos:Jq) (G:Nat->Oh) (tk:Nat) (li:Life):Option (Hh×Hh×Hh):=
 (mz w).bind λs0=>(e1 w s0).bind λx=>(e2 w x).bind λy=>(e3 w pos (pP G tk li y.2)).bind λz=>H7 (s0,y.2,z.2)
def qv:IG:=view prg ((M6 39).filter λi=> !([2,3,20,22].contains i))
def lse:List HJ:=["_twin_re_1","_twin_re_2","b1_set","b3_exceptions"]
def uT (h:IL):List (Option Oh):=((M6 28).filter λb=> !(b==LB||b==cStatics)).map h.get?
def wI (h:IL) (n:Nat):Bool:=(M6 n).all λb=>(h.get? b).isSome
def jS:Hl->Hl
 | .int i _=> .int i 0
 | .str s _=> .str s 0
 |v=>v
def dW:List (HJ×Hl):=("_iter_escaped_chars",.ref 97)::("_strip_quoted_realnames",.ref 104)::("_check_parenthesis",.ref 111)::("_pre_parse_validation",.ref 118)::("_DIV_LIMIT",.int 4000 0)::("_div2n1n",.ref 55)::[("_div3n2n",.ref 62),("_int2digits",.ref 69),("_digits2int",.ref 76),("_divmod_pos",.ref 83),("int_divmod",.ref 90),("_twin_re_1",.ref 36),("_twin_re_2",.ref 41),("CRLF",.str ⟨#[13,10]⟩ 0),("quotedata",.ref 48),("b1_set",.ref 126),("in_table_b1",.ref 136),("b3_exceptions",.ref 137),("map_table_b3",.ref 182),("_law_heap",.ref 189),("_law_rows",.ref 194),("_law_units",.ref 201),("_law_turned",.ref 206),("_law_depths",.ref 213),("_law_typed",.ref 220),("_law_lines",.ref 227),("_law_sent",.ref 232),("_law_prepared",.ref 237),("_law_below",.ref 242),("_law_mirror",.ref 247),("_law_product",.ref 254),("_law_left",.ref 261),("law",.ref 266)]
def dSq:Data->Option (Array Hl)
 | .seq vs _=>H7 vs
 |_=>H9
variable {d:Data}
theorem B8 {vs:Array Hl} (h:dSq d=H7 vs): ∃n,d= .seq vs n:=by
 cases d with
 |seq v n=>exact⟨n,congrArg (λv=>Data.seq v n) (Hg h)⟩
 |_=>exact nomatch h
def dFn:Data->Option Ku
 | .func fd=>H7 fd
 |_=>H9
theorem B9 {fd:Ku} (h:dFn d=H7 fd):d= .func fd:=by
 cases d with
 |func=>exact congrArg Data.func (Hg h)
 |_=>exact nomatch h
def Ex:Data->Option (Array (Int×Hl)×SetTable)
 | .set es _ t=>H7 (es,t)
 |_=>H9
theorem zi {y:Array (Int×Hl)×SetTable} (h:Ex d=H7 y): ∃ep,d= .set y.1 ep y.2:=by
 cases d with
 |set es ep t=>exact⟨ep,congrArg (λy:Array (Int×Hl)×SetTable=>Data.set y.1 ep y.2) (Hg h)⟩
 |_=>exact nomatch h
def wy (h:IL) (a c:Hw):Option (Hl×Option Hw×Nat×Nat×Hl×Option (Array Nat)):=
 (h.get? a).bind λo=>(dFi o.data).bind λfs=>H7 (o.cls,o.dict,Oy (fs.getD 6 .none),Oy (fs.getD 2 .none),fs.getD 5 .none,(h.get? c).bind λo=>(dSq o.data).bind λitems=>H7 ((items.map Builtin.Re.reRawOf).map (·.toNat)))
def Bx (h:IL) (a:Hw):Option (Hl×Option Hw×Nat×List (Int×Hl)×Bool):=
 (h.get? a).bind λo=>(Ex o.data).bind λy=>H7 (o.cls,o.dict,o.slots.size,y.1.toList.map (λe=>(e.1,jS e.2)),y.2.fits y.1.size)
def fU (h:IL) (a c:Hw):Option (Hl×Hl):=
 (h.get? a).bind λo=>(dFn o.data).bind λfd=>(h.get? c).bind λo2=>(dFi o2.data).bind λvs=>H7 (fd.code,vs.getD 11 .none)
def b1list:List Int:=[65024,65025,65026,65027,65028,65029,6150,65030,65031,65032,65033,6155,6156,6157,8203,8204,8205,65034,65035,65036,65037,65038,65039,173,847,8288,65279]
def obs (h:IL):=(dW.map (λx=>(h.nsMap IE x.1).map jS),wy h 36 35,wy h 41 40,fU h 69 68,fU h 76 75,Bx h 126,(h.get? 266).isSome&&(h.get? IA).isSome&&h.objs.size==267)
def C3:=(dW.map (λx=>H7 x.2),(H7 (.type "re.Pattern",H9,0,0,.ref 35,H7 P1):Option (Hl×Option Hw×Nat×Nat×Hl×Option (Array Nat))),(H7 (.type "re.Pattern",H9,0,0,.ref 40,H7 P2):Option (Hl×Option Hw×Nat×Nat×Hl×Option (Array Nat))),(H7 (.ref 68,.ref 64):Option (Hl×Hl)),(H7 (.ref 75,.ref 71):Option (Hl×Hl)),(H7 (.type "set",H9,0,b1list.map (λi=>(i,.int i 0)),Hd):Option (Hl×Option Hw×Nat×List (Int×Hl)×Bool)),Hd)
def tU (x:Hh×Hh×Hh):=
 ((x.2.1.heap.objs.size,wI x.2.1.heap 137,x.2.1.gens.size==0),uT x.2.2.heap,(staticsOk (Nb prg.main.body) x.1.heap x.2.2.heap&&namesBound prg x.2.2.heap&&gensDone x.2.2&&laidKept x.1.heap x.2.2.heap&&x.1.heap.isNs IE&&x.1.gens.size==0&&decide (x.1.heap.objs.size=28)),
  PySem.W.Fast.tw4187177175401517315 qv lse (Nb prg.main.body) (λ_=>Hd) Hd x.2.2,x.2.2.heap.objs[137]?,x.2.2.os,obs x.2.2.heap)
def tX (G:Nat->Oh) (x:Hh×Hh×Hh):=((137,Hd,Hd),uT x.1.heap,Hd,openGood qv lse,H7 (G 0),x.1.os,C3)
def Chk (w:J0):Prop:= ∀pos G tk li,(nP w pos G tk li).elim (0,H9) (λx=>(1,H7 (tU x)))=(nP w pos G tk li).elim (1,H9) (λx=>(1,H7 (tX G x)))
theorem FF: ∀w:J0,Chk ((w.withFollow "set-order" Hb).withFollow "special-get-raises" Hb):=λw pos G tk li=>by kernel_rfl
theorem FD: ∀w:J0,Chk ((w.withFollow "set-order" Hd).withFollow "special-get-raises" Hb):=λw pos G tk li=>by kernel_rfl
theorem FE: ∀w:J0,Chk ((w.withFollow "set-order" Hb).withFollow "special-get-raises" Hd):=λw pos G tk li=>by kernel_rfl
theorem FC: ∀w:J0,Chk ((w.withFollow "set-order" Hd).withFollow "special-get-raises" Hd):=λw pos G tk li=>by kernel_rfl
theorem chk (w:J0):Chk w:=byRow2 "special-get-raises" (P:=Chk) (byRow2 "set-order" (P:=λw=>Chk (w.withFollow "special-get-raises" Hb)) FF FD) (byRow2 "set-order" (P:=λw=>Chk (w.withFollow "special-get-raises" Hd)) FE FC) w
def El:Option Expr->Option Int
 |some (.Constant c _ _)=>(match c with
  | .int i=>H7 i
  |_=>H9)
 |_=>H9
def DZ:Expr->Option HJ
 | .Constant c _ _=>(match c with
  | .str s=>H7 s
  |_=>H9)
 |_=>H9
theorem yP {e:Option Expr} {i:Int} (h:El e=H7 i): ∃k p,e=H7 (.Constant (.int i) k p):=by
 cases e with
 |none=>exact a9 h
 |some e=>
  cases e with
  |Constant c k p=>
   cases c with
   |int j=>obtain rfl:=Hg h;exact⟨k,p,rfl⟩
   |_=>exact a9 h
  |_=>exact a9 h
theorem xQ {e:Expr} {s:HJ} (h:DZ e=H7 s): ∃k p,e= .Constant (.str s) k p:=by
 cases e with
 |Constant c k p=>
  cases c with
  |str j=>obtain rfl:=Hg h;exact⟨k,p,rfl⟩
  |_=>exact a9 h
 |_=>exact a9 h
def kvT:List (Option Expr)->List Expr->Option (List (Int×HJ))
 |k::ks,v::vs=>(El k).bind λi=>(DZ v).bind λs=>(kvT ks vs).map ((i,s)::·)
 |[],[]=>H7 []
 |_,_=>H9
variable {Q5:MY} {dp:Jq}
theorem shape: ∀{ks:List (Option Expr)} {vs:List Expr} {ts:List (Int×HJ)},kvT ks vs=H7 ts->
  (evalEachOpt ks Q5).zip ((evalEach vs Q5).map λv=>do let x<-v;Ji dp;pure x)=(ts.map (pr dp)).map λp=>(H7 p.1,p.2):=by
 intro ks;induction ks with
 |nil=>
  intro vs ts h;cases vs with
  |nil=>cases h;rfl
  |cons v vs=>exact a9 h
 |cons k ks ih=>
  intro vs ts h;cases vs with
  |nil=>exact a9 h
  |cons v vs=>
   refine ae h λi hi h=>ae h λs hs h=> ?_;obtain⟨k1,p1,rfl⟩:=yP hi;obtain⟨k2,p2,rfl⟩:=xQ hs;obtain⟨ts',h',rfl⟩:=HG.mp h;have:=ih h';show(H7 (IY (.Constant (.int i) k1 p1) Q5)::evalEachOpt ks Q5).zip ((do let x<-IY (.Constant (.str s) k2 p2) Q5;Ji dp;pure x)::(evalEach vs Q5).map λv=>do let x<-v;Ji dp;pure x)=_
   rw [Nl,this]
   rfl
def kq:List (Option Expr)×List Expr×Jq×Jq:=match cJ[21]? with|some (N3 _ (.Dict ks vs dp) ap)=>(ks,vs,dp,ap)|_=>([],[],Ip,Ip)
def iI:List (Int×HJ):=(kvT kq.1 kq.2.1).getD []
def b3x:HJ:=match mH with| .Name x _=>x|_=>⟨#[]⟩
def b3p:Jq:=match mH with| .Name _ p=>p|_=>Ip
def uW:List Int->Bool
 |a::b::r=>decide (a<b)&&uW (b::r)
 |_=>Hd
theorem xq: ∀{l:List Int} {a:Int},uW (a::l)=Hd-> ∀b∈l,a<b
 |[],_,_,_,h=>by cases h
 |c::r,a,h,b,hb=>by
  rw [uW,H_,decide_eq_true_eq]at h;rcases Hp.mp hb with rfl|hb
  ·exact h.1
  ·exact Int.lt_trans h.1 (xq h.2 b hb)
theorem nJ: ∀{l:List Int},uW l=Hd->l.Nodup
 |[],_=>Kg
 |a::l,h=>by
  refine Jc.mpr ⟨λhm=>Int.lt_irrefl _ (xq h a hm),nJ ?_⟩;cases l with
  |nil=>rfl
  |cons b r=>rw [uW,H_]at h;exact h.2
theorem xo:mH= .Name b3x b3p:=by kernel_rfl
theorem FR:kvT kq.1 kq.2.1=H7 iI:=by kernel_rfl
theorem sr:iI.length=650:=by kernel_rfl
theorem DQ:uW (iI.map (·.1))=Hd:=by kernel_rfl
theorem Bk:cJ=cJ.take 21++N3 [mH] (.Dict kq.1 kq.2.1 kq.2.2.1) kq.2.2.2::cJ.drop 22:=by kernel_rfl
theorem B6:Ca=NP NE:=by unfold Ca;rw [table_eq_tree,PySem.W.Fast.te11892475500146522536,MG]
theorem yu (w:J0):mz w=fencedOpening NE prg w 20000:=by unfold mz fencedOpening;rw [table_eq_tree,PySem.W.Fast.te10274390034422433532,MG,PySem.W.Fast.te1435165496053646825,PySem.W.Fast.te14289696077712309145]
variable {w:J0} {Γ:Ctx} {pos:Jq} {s:Hh} {E:Hl->Jq->Hh->Prop}
theorem sm {t:J_ α} {x:Except Hl α×Jq×Hh} {Q:α->Jq->Hh->Prop} (h:ev2 w Γ t pos s=H7 x) (q:E4 Q E x):
  Kz (Hj prg w) Γ t Q E pos s:=by
 unfold ev2 at h;rw [B6]at h;exact xk (M:=Hj prg w) (λΓ p s r s'=>gN (M:=Hj prg w) 5000 Γ p s r s') t pos s x h q
theorem j9 (Q5:MY) (b:List IR): ∀a:List IR,JK (a++b) Q5=(do match<-JK a Q5 with| .next=>JK b Q5|f=>pure f)
 |[]=>rfl
 |st::a=>by
  rw [J5,execs_cons,execs_cons,j9 Q5 b a];rw [bind_assoc]
  congr 1
  funext f;cases f<;>rfl
theorem Fp {s':Hh} (ha:wI s.heap 137=Hd) (hs:s.heap.objs.size=137) (o:Old 137 s s') (hz:s'.heap.objs.size=137+39): ∃G,s'=pP G s'.toks s'.heap.life s/\s'.heap.objs[137]? =H7 (G 0):=by
 refine⟨λi=>(s'.heap.objs[137+i]?).getD Ip, ?_, ?_⟩
 ·have e:s'.heap.objs=s.heap.objs++((M6 39).map λi=>(s'.heap.objs[137+i]?).getD Ip).toArray:=by
   apply Array.ext_getElem?;intro b;by_cases hb:b<137
   ·rw [Array.getElem?_append_left (by exact Ha hb (Hu (IW hs)))]
    have h1:=HX.mp ha b (List.mem_range.mpr hb);obtain⟨ob,h1⟩:=J7.mp h1;have h2:=o.get b hb;rw [h1]at h2;rw [(M9.mp h1).1,(M9.mp h2).1]
   ·rw [Array.getElem?_append_right (by exact H8 (Hu hs) (Ix hb)),hs]
    by_cases Sn:b<176
    ·haveI e1:b=137+(b-137):=by exact IW (I9 (Ix hb))
     simp only [Ju,HQ];rw [List.getElem?_range (by exact K2 (Ix hb) Sn)]
     simp only [NG];rw [<-e1];rw [KQ (by exact Ha Sn (Hu (IW hz)))]
     rfl
    ·rw [OM (by exact H8 (Hu hz) (Ix Sn))]
     simp only [Ju,HQ];rw [Ky (by simp;exact Pq (Ix Sn))]
     rfl
  obtain⟨⟨ob,li⟩,gs,dr,tk,os⟩:=s';haveI h1:gs=s.gens:=o.gens;haveI h2:dr=s.drawn:=o.drawn;haveI h3:os=s.os:=o.os;subst h1 h2 h3;unfold pP;simp only at e ⊢
  rw [<-e]
 ·simp only [Nat.add_zero]
  rw [KQ (by exact Ha (by decide) (Hu (IW hz)))]
  rfl
variable {xp ap:Jq} {ks:List (Option Expr)} {vs:List Expr} {ts:List (Int×HJ)} {Qo:List IR}
theorem w6 {M:Oj} (hM:M=Hj M.prog M.w) {A:IZ} (hΓ:Γ.In A) {x:HJ} {Q:LR->Jq->Hh->Prop}
  (hk:kvT ks vs=H7 ts) (h0:IA<s.heap.objs.size) (QJ:ts≠[]) (hl:ts.length<=1000) (hn:(ts.map (·.1)).Nodup)
  (h: ∀s' p',DD M.prog M.w s'.heap s.heap.objs.size ts->Old s.heap.objs.size s s'->s'.heap.objs.size=s.heap.objs.size+(ts.length+16)/17->Kz M Γ (do K9 (.Name x xp) Q5 (.ref s.heap.objs.size);JK Qo Q5) Q E p' s'):
  Kz M Γ (JK (N3 [.Name x xp] (.Dict ks vs dp) ap::Qo) Q5) Q E pos s:=by
 rw [execs_cons,JL];haveI A1:Im M A (IY (.Dict ks vs dp) Q5) (λv s'=>v= .ref s.heap.objs.size/\DD M.prog M.w s'.heap s.heap.objs.size ts/\Old s.heap.objs.size s s'/\s'.heap.objs.size=s.heap.objs.size+(ts.length+16)/17) (λ_ _=>False) s:=by rw [hM,arm_eval_Dict,shape hk];exact He (KI (GD _ h0 QJ hl hn λs' h1 h2 h3=>⟨rfl,h1,h2,h3⟩))
 rw [asg];haveI e1:LU [.Name x xp] (.Dict ks vs dp) ap.line Q5=pure Hb:=rJ.trans (bo rfl);rw [e1,Op];simp only [Ie,if_false];rw [JL];show Kz M Γ (IY (.Dict ks vs dp) Q5>>=λv=>JD [.Name x xp] (.Dict ks vs dp) Q5>>=λd=>Mh Q5 v d ((Jm [.Name x xp] Q5).map (·.2))) _ _ ap s
 rw [JL];refine Ld M Γ _ (λv p' s' hv=> ?_) (λ_ _ _ e=>e.elim) _ _ (A1 Γ ap hΓ);obtain⟨rfl,h1,h2,h3⟩:=hv;rw [cR,Op];show Kz M Γ (K9 (.Name x xp) Q5 (.ref s.heap.objs.size)>>=λ_=>(pure Flow.next:J_ LR)) _ _ p' s'
 have:=h s' p' h1 h2 h3;rw [JL]at this ⊢
 exact this
variable {s0:Hh}
theorem zV {p:IG} {code:Hl} {fr:Hw} {s1 s2:Hh} {T7 SI:Jq} {pre:List IR} {x:HJ} {R:Hh->Prop}
  (SL:Q5={scope:=p.main.scope,locals:=LB,globals:=LB,cells:=[],code,frame:=H7 fr})
  (Rk:IP p=pre++N3 [.Name x xp] (.Dict ks vs dp) ap::Qo)
  (h1:Kz (Hj p w) cF (do let code<-moduleCode p.main;let fr<-newBodyFrame code LB LB;pure (code,fr)) (λc p' s'=>c=(code,fr)/\p'=T7/\s'=s1) (λ_ _ _=>False) Ip s0)
  (h2:Kz (Hj p w) (cF.enter (.body (IP p) Q5) H9 T7) (do blockStart (IP p) Q5;JK pre Q5) (λf p' s'=>f= .next/\p'=SI/\s'=s2) (λ_ _ _=>False) T7 s1)
  (hk:kvT ks vs=H7 ts) (h0:IA<s2.heap.objs.size) (QJ:ts≠[]) (hl:ts.length<=1000) (hn:(ts.map (·.1)).Nodup)
  (h3: ∀s' p',DD p w s'.heap s2.heap.objs.size ts->Old s2.heap.objs.size s2 s'->s'.heap.objs.size=s2.heap.objs.size+(ts.length+16)/17->
   Kz (Hj p w) (cF.enter (.body (IP p) Q5) H9 T7) (do K9 (.Name x xp) Q5 (.ref s2.heap.objs.size);JK Qo Q5) (λf _ Qj=>f= .next/\R Qj) (λ_ _ _=>False) p' s'):
  Kz (Hj p w) cF (topStub p).cur (λfin _ s'=>(∃v,fin= .done (.ret v))/\R s') (λ_ _ _=>False) Ip s0:=by
 show Kz (Hj p w) cF (moduleCode p.main>>=λcode=>newBodyFrame code LB LB>>=λframe=>run (.body (IP p) {scope:=p.main.scope,locals:=LB,globals:=LB,cells:=[],code,frame:=H7 frame})>>=λ_=>ret .none) _ _ Ip s0;rw [JL]at h1 ⊢
 refine Ld _ cF _ (λc p' s' h=> ?_) (λ_ _ _ e=>e.elim) _ _ h1;rw [JL]at h ⊢
 refine Ld _ cF _ (λf p'' Qj h=> ?_) (λ_ _ _ e=>e.elim) _ _ h;rw [Sem.wp_pure']at h;obtain⟨h4,rfl,rfl⟩:=h;cases h4;rw [<-SL,JL];unfold run;rw [Sem.wp_call,wpCode_iff_wp];haveI eb:(Hj p w).den ((cF.enter (.body (IP p) Q5) H9 p'').code)=(do blockStart (IP p) Q5;let f<-(JK (IP p) Q5).onRaise (leaving Q5);pure (Fin.done f)):=rfl
 rw [eb];generalize cF.enter (.body (IP p) Q5) H9 p''=Γb at h2 h3 ⊢
 rw [JL]at h2 ⊢
 refine Ld _ Γb _ (λ_ p3 s3 h=> ?_) (λ_ _ _ e=>e.elim) _ _ h2;rw [JL,Sem.wp_onRaise];haveI:Kz (Hj p w) Γb (JK (IP p) Q5) (λf _ Qj=>f= .next/\R Qj) (λ_ _ _=>False) p3 s3:=by rw [Rk,j9,JL];refine Ld _ Γb _ (λf p4 s4 h=> ?_) (λ_ _ _ e=>e.elim) _ _ h;obtain⟨rfl,rfl,rfl⟩:=h;let A:IZ:={handled:=Γb.handled,depth:=frameCount Γb.below+Γb.code.weight,frames:=H9,guards:=H9,units:=Γb.units};exact w6 (A:=A) rfl ⟨rfl,Hm _,(λ_ h=>nomatch h),(λ_ h=>nomatch h),Hm _⟩ hk h0 QJ hl hn h3
 refine Ld _ Γb _ (λf p4 s4 h=> ?_) (λ_ _ _ e=>e.elim) _ _ this;obtain⟨rfl,hR⟩:=h;rw [Sem.wp_pure'];unfold Sem.finPost;simp only [Sem.wp_pure];exact⟨⟨_,rfl⟩,hR⟩
theorem yv {h h':IL} (e:uT h=uT h') {b:Hw} (hb:b<28) (h1:b≠LB) (h2:b≠cStatics):h.get? b=h'.get? b:=by refine KC.mp e b (Iw.mpr ⟨List.mem_range.mpr hb, ?_⟩);simp [h1,h2]
def DDo (w:J0) (o:Oh):Prop:= ∃es ep Qu,o.ExactDict/\o.data= .dict es ep/\KeysOf (IM prg w) es/\Pairs (IM prg w) es.toList Qu/\(Qu.map (·.1)).Nodup/\kT Qu iI
theorem DE {x:Jq×Hh} (h:e1 w s=H7 x):x.1=⟨0,0,0,0⟩/\ev2 w cF (do let code<-MC prg.main;let fr<-MF code LB LB;pure (code,fr)) Ip s=H7 (.ok (.ref 30,31),⟨0,0,0,0⟩,x.2):=
 ae h λy e h=>by obtain⟨⟨⟨h1,h2⟩,h3⟩,h⟩:=cZ h;obtain⟨⟨v,f⟩,p,s'⟩:=y;cases h;cases Ab h1;cases h2;cases h3;exact⟨rfl,oM e⟩
variable {y:Jq×Hh}
theorem DC {x:Jq×Hh} (h:e2 w x=H7 y):ev2 w kY (do MN cJ kP;JC (cJ.take 21) kP) x.1 x.2=H7 (.ok .next,y.1,y.2):=
 ae h λy e h=>by obtain⟨h1,h⟩:=cZ h;obtain⟨f,p,s'⟩:=y;cases h;cases qL h1;exact oM e
theorem DB (h:e3 w pos s=H7 y):ev2 w kY (do MB mH kP (.ref 137);JC (cJ.drop 22) kP) pos s=H7 (.ok .next,y.1,y.2):=
 ae h λy e h=>by obtain⟨h1,h⟩:=cZ h;obtain⟨f,p,s'⟩:=y;cases h;cases qL h1;exact oM e
theorem hJ (pos:Jq) (G:Nat->Oh) (tk:Nat) (li:Life): ∃x,nP w pos G tk li=H7 x/\tU x=tX G x:=by
 have h:=chk w pos G tk li;cases e:nP w pos G tk li with
 |none=>
  rw [e]at h;haveI h2:(0:Nat)=1:=congrArg Prod.fst h;cases h2
 |some x=>
  rw [e]at h;exact⟨x,rfl,Hg (congrArg Prod.snd h)⟩
variable {G:Nat->Oh} {tk:Nat} {li:Life} {x:Hh×Hh×Hh}
theorem lC (h:nP w pos G tk li=H7 x):
  ∃x1 x2 p3,mz w=H7 x.1/\e1 w x.1=H7 x1/\e2 w x1=H7 x2/\x.2.1=x2.2/\e3 w pos (pP G tk li x2.2)=H7 (p3,x.2.2):=by
 unfold nP at h;obtain⟨s0,h0,h⟩:=Ho.mp h;obtain⟨x1,h1,h⟩:=Ho.mp h;obtain⟨x2,h2,h⟩:=Ho.mp h;obtain⟨z,h3,h⟩:=Ho.mp h;cases h;exact⟨x1,x2,z.1,h0,h1,h2,rfl,h3⟩
theorem Aa {x1 x2 z:Jq×Hh} (h0:mz w=H7 s0) (h1:e1 w s0=H7 x1) (h2:e2 w x1=H7 x2) (h3:e3 w pos (pP G tk li x2.2)=H7 z):nP w pos G tk li=H7 (s0,x2.2,z.2):=by unfold nP;rw [h0,Je,h1,Je,h2,Je,h3,Je]
set_option maxHeartbeats 0 in
theorem nC:chainsOk qv=Hd:=by kernel_rfl
theorem mV (h:tU x=tX G x):openSeen qv lse (Nb prg.main.body) (λ_=>Hd) Hd x.2.2=openGood qv lse:=by have:=congrArg (λt=>t.2.2.2.1) h;rw [PySem.W.Fast.te4187177175401517315];exact this
theorem vo (h:tU x=tX G x) (w:J0):x.2.2.gens= #[]:=by have:=(ground_of_open (XP:=λ_ _=>True) (w:=w) (λ_ _=>trivial) nC (mV h)).2.1;exact Ke (by simpa using this)
theorem Bu:cF.enter (.body (IP prg) kP) H9 ⟨0,0,0,0⟩=kY:=rfl
structure xw (w:J0) (s₀ s₁:Hh):Prop where
 ex: ∃pos G tk li x,nP w pos G tk li=H7 (s₀,x,s₁)/\DDo w (G 0)
 gens:s₁.gens= #[]
theorem Cn {s₀:Hh} (h0:mz w=H7 s₀):Kz (Hj prg w) cF (topStub prg).cur (λfin _ s'=>(∃v,fin= .done (.ret v))/\xw w s₀ s') (λ_ _ _=>False) Ip s₀:=by
 obtain⟨x,hx,hs⟩:=hJ (w:=w) Ip (λ_=>Ip) 0 Ip;obtain⟨x1,x2,p3,a0,a1,a2,a4,a3⟩:=lC hx;have e0:x.1=s₀:=Hg (a0.symm.trans h0);rw [e0]at a1;obtain⟨UT,b1⟩:=DE a1;have b2:=DC a2;have sz:x2.2.heap.objs.size=137:=by rw [<-a4];exact congrArg (λt=>t.1.1) hs
 have al:wI x2.2.heap 137=Hd:=by rw [<-a4];exact congrArg (λt=>t.1.2.1) hs
 rw [UT]at b2;refine zV (Q5:=kP) (pre:=cJ.take 21) (Qo:=cJ.drop 22) (s1:=x1.2) (s2:=x2.2) (T7:=⟨0,0,0,0⟩) (SI:=x2.1) (x:=b3x) (xp:=b3p) (dp:=kq.2.2.1) (ap:=kq.2.2.2) (ks:=kq.1) (vs:=kq.2.1) (ts:=iI) rfl ?_ ?_ ?_ FR ?_ ?_ ?_ (nJ DQ) ?_
 ·have:=Bk
  rw [xo]at this;exact this
 ·rw [PySem.W.Fast.te17154629097778926822,PySem.W.Fast.te12822647523644345616]
  exact sm b1 ⟨rfl,rfl,rfl⟩
 ·rw [PySem.W.Fast.te1066825118222455980,MH]
  rw [Bu];exact sm b2 ⟨rfl,rfl,rfl⟩
 ·rw [sz];decide
 ·intro e
  have:=sr;rw [e]at this;cases this
 ·rw [sr];decide
 ·intro s' p' hd ho hz
  rw [sz]at hd ho hz ⊢
  rw [sr]at hz;obtain⟨G,hG,XS⟩:=Fp al sz ho hz;obtain⟨y,hy,hys⟩:=hJ (w:=w) p' G s'.toks s'.heap.life;obtain⟨y1,y2,q3,c0,c1,c2,c4,c3⟩:=lC hy;have f0:y.1=s₀:=Hg (c0.symm.trans h0);rw [f0]at c1;have f1:y1=x1:=Hg (c1.symm.trans a1);rw [f1]at c2;have f2:y2=x2:=Hg (c2.symm.trans a2);rw [f2]at c3 c4;have b3:=DB c3;rw [<-hG,xo,<-PySem.W.Fast.te17772580674575903948,<-MH]at b3;rw [Bu];refine sm b3 ⟨rfl,⟨p',G,s'.toks,s'.heap.life,x2.2,Aa h0 a1 a2 c3, ?_⟩, ?_⟩
  ·obtain⟨Qu,⟨o,es,ep,h1,h2,h3,h4,h5,h6⟩,hv⟩:=hd
   have:o=G 0:=by have:=(M9.mp h1).1;rw [XS]at this;exact(Hg this).symm
   rw [<-this];exact⟨es,ep,Qu,h2,h3,h4,h5,h6,hv⟩
  ·exact vo hys w
structure bk (w:J0) (h:IL):Prop where
 obs:obs h=C3
 dict: ∃o,h.get? 137=H7 o/\DDo w o
 top:Top qv (looseW qv lse) (ExcName.means h) (h.nsMap IE) (h.nsMap KW) h
theorem kh (w:J0):(∃s,AfterRun (PL prg) w s)/\ ∀s',AfterRun (PL prg) w s'-> ∃s₀,fenceModules? prg s'=H7 s₀/\s₀.gens= #[]/\ ∃s₁,TopRan prg w s₀ s₁/\s₁.asleep/\s₁.gens= #[]/\s₁.heap.isNs IE=Hd/\
  Ground qv lse [] (λ_ _=>True) w s₁ (s₁.heap.nsMap IE) (s₁.heap.nsMap KW) s₁.heap/\bk w s₁.heap:=by
 obtain⟨x,hx,hs⟩:=hJ (w:=w) Ip (λ_=>Ip) 0 Ip;obtain⟨x1,x2,p3,a0,_⟩:=lC hx;have h2:=a0;rw [yu]at h2;obtain⟨s,h4,h5⟩:=Ho.mp h2;have A:=AfterImport.of_importEnds h4;refine⟨⟨s,A⟩,λs' QV=> ?_⟩;obtain rfl:s'=s:=AfterImport.unique QV A;have z:x.1.asleep:=ML (fence_lifeW h5) A.life;obtain⟨n,t₁,s₁,hn,ht,hl,⟨⟨pos,G,tk,li,y,hy,hd⟩,hg⟩,_⟩:=v8 (p:=prg) (w:=w) (R:=xw w x.1) z (Ld _ _ _ (λ_ _ _ h=>⟨h.1,h.2,h.2.gens⟩) (λ_ _ _ h=>h) _ _ (Cn a0));obtain⟨y',SP,Ro⟩:=hJ (w:=w) pos G tk li;obtain rfl:y'=(x.1,y,s₁):=Hg (SP.symm.trans hy);obtain⟨Gr,g0,g1,g2,g3,g4,g5⟩:=ground_of_open (XP:=λ_ _=>True) (w:=w) (λ_ _=>trivial) nC (mV Ro);haveI hold:uT s₁.heap=uT x.1.heap:=congrArg (λt=>t.2.1) Ro;have hb:(staticsOk (Nb prg.main.body) x.1.heap s₁.heap&&namesBound prg s₁.heap&&gensDone s₁&&laidKept x.1.heap s₁.heap&&x.1.heap.isNs IE&&x.1.gens.size==0&&decide (x.1.heap.objs.size=28))=Hd:=congrArg (λt=>t.2.2.1) Ro;haveI YP:s₁.heap.objs[137]? =H7 (G 0):=congrArg (λt=>t.2.2.2.2.1) Ro;haveI TG:s₁.os=x.1.os:=congrArg (λt=>t.2.2.2.2.2.1) Ro;haveI Yw:obs s₁.heap=C3:=congrArg (λt=>t.2.2.2.2.2.2) Ro;obtain⟨hb,b7⟩:=HZ.mp hb;obtain⟨hb,b6⟩:=HZ.mp hb;obtain⟨hb,b5⟩:=HZ.mp hb;obtain⟨hb,b4⟩:=HZ.mp hb;obtain⟨hb,b3⟩:=HZ.mp hb;obtain⟨b1,b2⟩:=HZ.mp hb;haveI z28:=of_decide_eq_true b7;refine⟨x.1,h5,Ke (by simpa using b6),s₁,⟨⟨n,t₁,hn,ht⟩,hl,Shared.rest_eq TG,λb o hb hn=> ?_,g2,statics_of_ok b1,g3,g4,g5,gens_of_done b3,names_of_bound b2,laid_of_kept b4⟩,ML hl z,hg,g1,Gr,⟨Yw,⟨G 0, ?_,hd⟩,Gr.T⟩⟩
 ·haveI lt:b<28:=by rw [<-z28];exact II hb
  rw [yv hold lt (λq=>hn (.inl q)) (λq=>hn (.inr (.inl q)))];exact hb
 ·refine M9.mpr ⟨YP, ?_⟩
  obtain⟨es,ep,Qu,_,YG,_⟩:=hd;exact PA YG
def ar (i:Nat):HJ×Lx×List IR×Mv:=match(IP pw_uk0023_01)[i]? with
 |some (Stmt.FunctionDef n a b _ _ _ sc _ _ _)=>(n,a,b,sc)
 |_=>(⟨#[]⟩,Ip,[],Ip)
def hnt (l:List (HJ×Nat)) (x:HJ):Nat:=(l.lookup x).getD 0
def gtab:List (HJ×aO):=[(HH "_strip_quoted_realnames",aO.fn 0),(HH "_check_parenthesis",aO.fn 1),(HH "_pre_parse_validation",aO.fn 2),(HH "_div2n1n",aO.fn 3),(HH "_div3n2n",aO.fn 4),(HH "_int2digits",aO.fn 5),(HH "_digits2int",aO.fn 6),(HH "_divmod_pos",aO.fn 7),(HH "int_divmod",aO.fn 8),(HH "quotedata",aO.fn 9),(HH "in_table_b1",aO.fn 10),(HH "map_table_b3",aO.fn 11),(HH "_law_heap",aO.fn 12),(HH "_law_rows",aO.fn 13),(HH "_law_units",aO.fn 14),(HH "_law_turned",aO.fn 15),(HH "_law_depths",aO.fn 16),(HH "_law_typed",aO.fn 17),(HH "_law_lines",aO.fn 18),(HH "_law_sent",aO.fn 19),(HH "_law_prepared",aO.fn 20),(HH "_law_below",aO.fn 21),(HH "_law_mirror",aO.fn 22),(HH "_law_product",aO.fn 23),(HH "_law_left",aO.fn 24),(HH "_iter_escaped_chars",aO.gen 0),(HH "_DIV_LIMIT",aO.val 0),(HH "CRLF",aO.val 1),(HH "len",aO.bi .len),(HH "ord",aO.bi .ord),(HH "chr",aO.bi .chr),(HH "max",aO.bi .max),(HH "sum",aO.bi .sum),(HH "divmod",aO.bi .divmod),(HH "list",aO.ty "list"),(HH "range",aO.ty "range"),(HH "enumerate",aO.ty "enumerate"),(HH "reversed",aO.ty "reversed"),(HH "zip",aO.ty "zip")]
def gl2 (x:HJ):Option aO:=gtab.lookup x
def gm:List HJ:=["addr","pos","escape","ch"]
def eX:List HJ:=["addr","start","open_pos","result","pos","ch"]
def bJ:List PS:=[.ite (.cmp .NotIn (.cS ⟨#[34]⟩) (.var 0)) [.ret (.var 0)] [],.set 1 0 (.cI 0),.set 2 0 .cN,.own 3 (.list []),.for_ (.many [4,5]) (.gen 0 [(.var 0)]) [.ite (.cmp .Eq (.var 5) (.cS ⟨#[34]⟩)) [.ite (.cmp .Is (.var 2) .cN) [.set 2 0 (.var 4)] [.ite (.cmp .NotEq (.var 1) (.var 2)) [.app 3 0 (.slice (.var 0) (.var 1) (.var 2) .cN)] [],.set 1 0 (.bin .Add (.var 4) (.cI 1)),.set 2 0 .cN]] []],.ite (.cmp .Lt (.var 1) (.bi .len [(.var 0)])) [.app 3 0 (.slice (.var 0) (.var 1) .cN .cN)] [],.ret (.meth .join (.cS ⟨#[]⟩) [(.var 3)])]
theorem eW:sSs gl2 eX (hnt [("result",9)]) (ar 15).2.2.2.names 90 (ar 15).2.2.1=bJ:=by kernel_rfl
def gR:List HJ:=["addr","opens","pos","ch"]
def cT:List PS:=[.set 0 0 (.call 0 [(.var 0)]),.set 1 0 (.cI 0),.for_ (.many [2,3]) (.gen 0 [(.var 0)]) [.ite (.cmp .Eq (.var 3) (.cS ⟨#[40]⟩)) [.aug 1 .Add 0 (.cI 1)] [.ite (.cmp .Eq (.var 3) (.cS ⟨#[41]⟩)) [.aug 1 .Sub 0 (.cI 1),.ite (.cmp .Lt (.var 1) (.cI 0)) [.ret (.cB Hb)] []] []]],.ret (.cmp .Eq (.var 1) (.cI 0))]
theorem gQ:sSs gl2 gR (hnt []) (ar 16).2.2.2.names 90 (ar 16).2.2.1=cT:=by kernel_rfl
def fL:List HJ:=["email_header_fields","accepted_values","v"]
def ci:List PS:=[.own 1 (.list []),.for_ (.one 2) (.ex (.var 0)) [.ite (.not (.call 1 [(.var 2)])) [.set 2 0 (.cS ⟨#[40,39,39,44,32,39,39,41]⟩)] [],.app 1 0 (.var 2)],.ret (.var 1)]
theorem fK:sSs gl2 fL (hnt [("accepted_values",9)]) (ar 17).2.2.2.names 90 (ar 17).2.2.1=ci:=by kernel_rfl
def bO:List HJ:=["data"]
def ce:List HJ:=["code"]
def bf:List HJ:=["code","r"]
def rA:List HJ:=["script","place"]
def dw:List PS:=[.ret (.bin .Add (.idx (.list [(.cI 5),(.cI 96),(.cI 1396),(.bin .Pow (.cI 7) (.cI 40)),(.bin .Pow (.cI 3) (.cI 900))]) (.var 1)) (.bi .sum [(.slice (.var 0) (.var 1) .cN (.cI 5))]))]
theorem rj:sSs gl2 rA (hnt []) (ar 24).2.2.2.names 90 (ar 24).2.2.1=dw:=by kernel_rfl
def rq:List HJ:=["pairs","rows","far",".0","row","sign","most"]
def ee:List PS:=[.set 1 0 (.list [(.cS ⟨#[40]⟩)]),.for_ (.one 2) (.ex (.rng [(.bin .Sub (.bin .Mult (.cI 2) (.var 0)) (.cI 2))])) [.set 1 0 (.comp2 [3,4,5,6] (.one 4) (.ex (.var 1)) [] (.many [5,6]) (.ex (.list [(.tup [(.cS ⟨#[40]⟩),(.var 0)]),(.tup [(.cS ⟨#[41]⟩),(.bin .Sub (.var 0) (.cI 1))])])) [(.cmp .Lt (.meth .count (.var 4) [(.var 5)]) (.var 6))] (.bin .Add (.var 4) (.var 5)))],.ret (.comp1 [3,4] (.one 4) (.ex (.var 1)) [] (.bin .Add (.var 4) (.cS ⟨#[41]⟩)))]
theorem r6:sSs gl2 rq (hnt []) (ar 25).2.2.2.names 90 (ar 25).2.2.1=ee:=by kernel_rfl
def pC:List HJ:=["row","place","piece","cut","hidden"]
def j6:List PS:=[.set 3 0 (.bin .Add (.cI 1) (.bin .Mod (.var 1) (.bin .Sub (.bi .len [(.var 0)]) (.cI 1)))),.set 4 0 (.idx (.list [(.cS ⟨#[]⟩),(.cS ⟨#[92,41]⟩),(.cS ⟨#[34,40,34]⟩),(.cS ⟨#[34,92,34,41,34]⟩),(.cS ⟨#[92,92]⟩),(.cS ⟨#[97]⟩),(.cS ⟨#[92,34]⟩),(.cS ⟨#[34]⟩)]) (.bin .Mod (.var 2) (.cI 8))),.ret (.bin .Add (.bin .Add (.listOf (.slice (.var 0) .cN (.var 3) .cN)) (.list [(.var 4)])) (.listOf (.slice (.var 0) (.var 3) .cN .cN)))]
theorem po:sSs gl2 pC (hnt []) (ar 26).2.2.2.names 90 (ar 26).2.2.1=j6:=by kernel_rfl
def mo:List HJ:=["units","k","told","inner","outer",".0","unit"]
def ij:List PS:=[.for_ (.one 1) (.ex (.rng [(.cI 1),(.bi .len [(.var 0)])])) [.ite (.cmp .Eq (.idx (.var 0) (.var 1)) (.cS ⟨#[41]⟩)) [.set 2 0 (.call 1 [(.meth .join (.cS ⟨#[]⟩) [(.slice (.var 0) .cN (.bin .Add (.var 1) (.cI 1)) .cN)])]),.ite (.cmp .Is (.var 2) (.cB Hd)) [.set 3 0 (.comp1 [5,6] (.one 6) (.ex (.slice (.var 0) (.cI 1) (.var 1) .cN)) [(.cmp .In (.var 6) (.list [(.cS ⟨#[40]⟩),(.cS ⟨#[41]⟩)]))] (.var 6)),.set 4 0 (.comp1 [5,6] (.one 6) (.ex (.slice (.var 0) (.bin .Add (.var 1) (.cI 1)) .cN .cN)) [(.cmp .In (.var 6) (.list [(.cS ⟨#[40]⟩),(.cS ⟨#[41]⟩)]))] (.var 6)),.ret (.bin .Add (.bin .Add (.bin .Add (.meth .join (.cS ⟨#[]⟩) [(.var 3)]) (.cS ⟨#[40]⟩)) (.meth .join (.cS ⟨#[]⟩) [(.var 4)])) (.cS ⟨#[41]⟩))] [],.ite (.cmp .IsNot (.var 2) (.cB Hb)) [.ret (.cS ⟨#[]⟩)] []] []],.ret (.cS ⟨#[]⟩)]
theorem mj:sSs gl2 mo (hnt []) (ar 27).2.2.2.names 90 (ar 27).2.2.1=ij:=by kernel_rfl
def mr:List HJ:=["row","depths","depth","sign"]
def dX:List PS:=[.own 1 (.list []),.set 2 0 (.cI 0),.for_ (.one 3) (.ex (.var 0)) [.ite (.cmp .Eq (.var 3) (.cS ⟨#[40]⟩)) [.app 1 0 (.var 2),.aug 2 .Add 0 (.cI 1)] [.aug 2 .Sub 0 (.cI 1)]],.ret (.var 1)]
theorem mn:sSs gl2 mr (hnt [("depths",9)]) (ar 28).2.2.2.names 90 (ar 28).2.2.1=dX:=by kernel_rfl
def pD:List HJ:=["letter","way"]
def dL:List PS:=[.ite (.cmp .Eq (.bin .Mod (.var 1) (.cI 4)) (.cI 0)) [.ret (.bi .chr [(.bin .Sub (.bi .ord [(.var 0)]) (.cI 32))])] [],.ite (.cmp .Eq (.bin .Mod (.var 1) (.cI 4)) (.cI 1)) [.ret (.var 0)] [],.ret (.bi .chr [(.bin .Sub (.bin .Add (.bin .Add (.cI 119808) (.bin .Mult (.cI 52) (.idx (.list [(.cI 0),(.cI 1),(.cI 2),(.cI 4),(.cI 7),(.cI 8),(.cI 9),(.cI 10),(.cI 11),(.cI 12)]) (.bin .Mod (.bin .FloorDiv (.var 1) (.cI 4)) (.cI 10))))) (.bi .ord [(.var 0)])) (.cI 97))])]
theorem pu:sSs gl2 pD (hnt []) (ar 29).2.2.2.names 90 (ar 29).2.2.1=dL:=by kernel_rfl
def pE:List HJ:=["words","heap","veils","stays","lines","t","depths","j","way","letter","veil","stay","typed"]
def bC:List PS:=[.set 2 0 (.bin .Add (.list [(.cI 173),(.cI 847),(.cI 6150),(.cI 6155),(.cI 6156),(.cI 6157),(.cI 8203),(.cI 8204),(.cI 8205),(.cI 8288),(.cI 65279)]) (.listOf (.rng [(.cI 65024),(.cI 65040)]))),.own 3 (.list [(.cI 172),(.cI 174),(.cI 846),(.cI 848),(.cI 6149),(.cI 6151),(.cI 6154),(.cI 6158),(.cI 8202),(.cI 8206),(.cI 8287),(.cI 8289),(.cI 65023),(.cI 65040),(.cI 65278),(.cI 65280)]),.augL 3 (.list [(.cI 11),(.cI 28),(.cI 133),(.cI 8232)]),.own 4 (.list []),.for_ (.one 5) (.ex (.rng [(.bi .len [(.var 0)])])) [.set 6 0 (.call 16 [(.idx (.var 0) (.var 5))]),.for_ (.one 7) (.ex (.rng [(.cI 1),(.bi .len [(.var 6)])])) [.set 8 2 (.bin .Add (.var 1) (.bi .len [(.var 4)])),.set 9 2 (.idx (.cS ⟨#[102,103,104,105,106,107,108,109,110,111,112,113,114,115,116,117,118,119,120,121]⟩) (.var 5)),.set 10 0 (.ife (.cmp .LtE (.idx (.var 6) (.var 7)) (.idx (.var 6) (.bin .Sub (.var 7) (.cI 1)))) (.cS ⟨#[]⟩) (.bi .chr [(.idx (.var 2) (.bin .Mod (.var 8) (.cI 27)))])),.set 11 2 (.bi .chr [(.idx (.var 3) (.bin .Mod (.bin .Add (.bin .Add (.var 1) (.var 5)) (.bin .Mult (.cI 5) (.var 7))) (.cI 20)))]),.set 12 0 (.bin .Add (.bin .Add (.bin .Add (.var 10) (.bin .Mult (.cS ⟨#[46]⟩) (.bin .Add (.cI 1) (.idx (.var 6) (.var 7))))) (.call 17 [(.var 9),(.var 8)])) (.var 11)),.app 4 0 (.tup [(.idx (.var 6) (.var 7)),(.bin .Add (.var 9) (.var 11)),(.var 10),(.var 12)])]],.ret (.var 4)]
theorem pw:sSs gl2 pE (hnt [("lines",9),("stays",9),("way",2),("letter",2),("stay",2)]) (ar 30).2.2.2.names 90 (ar 30).2.2.1=bC:=by kernel_rfl
def ro:List HJ:=["lines","heap","first","order","ends","tail",".0","k"]
def du:List PS:=[.set 2 0 (.bin .Mod (.var 1) (.bi .len [(.var 0)])),.set 3 0 (.bin .Add (.slice (.var 0) (.var 2) .cN .cN) (.slice (.var 0) .cN (.var 2) .cN)),.set 4 0 (.list [(.cS ⟨#[10]⟩),(.cS ⟨#[13]⟩),(.cS ⟨#[13,10]⟩)]),.set 5 0 (.bin .Add (.cS ⟨#[13,13,10,46]⟩) (.idx (.list [(.cS ⟨#[]⟩),(.cS ⟨#[10]⟩)]) (.bin .Mod (.var 1) (.cI 2)))),.ret (.call 9 [(.bin .Add (.meth .join (.cS ⟨#[]⟩) [(.comp1 [6,7] (.one 7) (.ex (.rng [(.bi .len [(.var 3)])])) [] (.bin .Add (.idx (.idx (.var 3) (.var 7)) (.cI 3)) (.idx (.var 4) (.bin .Mod (.bin .Add (.var 1) (.var 7)) (.cI 3)))))]) (.var 5))])]
theorem r5:sSs gl2 ro (hnt []) (ar 31).2.2.2.names 90 (ar 31).2.2.1=du:=by kernel_rfl
def ky:List HJ:=["sent","signs",".0","sign"]
def bL:List PS:=[.set 1 0 (.comp1 [2,3] (.one 3) (.ex (.var 0)) [(.cmp .Is (.call 10 [(.var 3)]) (.cB Hb))] (.var 3)),.ret (.meth .join (.cS ⟨#[]⟩) [(.comp1 [2,3] (.one 3) (.ex (.var 1)) [] (.ife (.cmp .In (.var 3) (.cS ⟨#[46,13,10]⟩)) (.var 3) (.call 11 [(.var 3)])))])]
theorem ku:sSs gl2 ky (hnt []) (ar 32).2.2.2.names 90 (ar 32).2.2.1=bL:=by kernel_rfl
def pF:List HJ:=["pairs","rises","depths",".0","low","j","cells","k"]
def gb:List PS:=[.set 2 0 (.comp1 [3,4] (.one 4) (.ex (.rng [(.var 0)])) [] (.bi .max [(.bin .Add (.list [(.cI 0)]) (.comp1 [3,5,6] (.many [5,6]) (.ex (.var 1)) [(.cmp2 .Lt .LtE (.bin .Sub (.var 5) (.var 6)) (.var 4) (.var 5))] (.bin .Add (.bin .Sub (.var 4) (.var 5)) (.var 6))))])),.ret (.bin .Add (.bin .Add (.cS ⟨#[40]⟩) (.meth .join (.cS ⟨#[]⟩) [(.comp1 [3,7] (.one 7) (.ex (.rng [(.cI 1),(.var 0)])) [] (.bin .Add (.bin .Mult (.cS ⟨#[41]⟩) (.bin .Sub (.bin .Add (.idx (.var 2) (.bin .Sub (.var 7) (.cI 1))) (.cI 1)) (.idx (.var 2) (.var 7)))) (.cS ⟨#[40]⟩)))])) (.bin .Mult (.cS ⟨#[41]⟩) (.bin .Add (.idx (.var 2) (.neg (.cI 1))) (.cI 1))))]
theorem pz:sSs gl2 pF (hnt []) (ar 33).2.2.2.names 90 (ar 33).2.2.1=gb:=by kernel_rfl
def mq:List HJ:=["row",".0","sign"]
def ft:List PS:=[.ret (.meth .join (.cS ⟨#[]⟩) [(.comp1 [1,2] (.one 2) (.ex (.slice (.var 0) .cN .cN (.neg (.cI 1)))) [] (.ife (.cmp .Eq (.var 2) (.cS ⟨#[41]⟩)) (.cS ⟨#[40]⟩) (.cS ⟨#[41]⟩)))])]
theorem ml:sSs gl2 mq (hnt []) (ar 34).2.2.2.names 90 (ar 34).2.2.1=ft:=by kernel_rfl
def m8:List HJ:=["sizes","width","product","size"]
def cb:List PS:=[.set 2 0 (.cI 1),.for_ (.one 3) (.ex (.var 0)) [.aug 2 .Mult 0 (.call 6 [(.bin .Mult (.list [(.cI 1)]) (.var 3)),(.var 1)])],.ret (.var 2)]
theorem m7:sSs gl2 m8 (hnt []) (ar 35).2.2.2.names 90 (ar 35).2.2.1=cb:=by kernel_rfl
def rz:List HJ:=["number","order","width","side","shape","divisor","quotient","rest"]
def dv:List PS:=[.set 4 0 (.idx (.dicI [1,2,3,4,6,8] [(.list [(.neg (.cI 1)),(.cI 1)]),(.list [(.cI 1),(.cI 1)]),(.list [(.cI 1),(.cI 1),(.cI 1)]),(.list [(.cI 1),(.cI 0),(.cI 1)]),(.list [(.cI 1),(.neg (.cI 1)),(.cI 1)]),(.list [(.cI 1),(.cI 0),(.cI 0),(.cI 0),(.cI 1)])]) (.var 1)),.set 5 0 (.bin .Mult (.var 3) (.call 6 [(.var 4),(.var 2)])),.setT [6,7] 0 (.call 8 [(.bin .Mult (.var 3) (.var 0)),(.var 5)]),.ret (.ife (.cmp .Eq (.bin .Add (.bin .Mult (.var 6) (.var 5)) (.var 7)) (.bin .Mult (.var 3) (.var 0))) (.bin .Mult (.var 3) (.var 7)) (.neg (.cI 1)))]
theorem ri:sSs gl2 rz (hnt []) (ar 36).2.2.2.names 90 (ar 36).2.2.1=dv:=by kernel_rfl
def lf:List HJ:= "script" :: "total" :: "pairs" :: "ring" :: "rows" :: "heap" :: "units" :: "texts" :: "told" :: "kept" :: "one" :: "shown" :: "places" :: "seen" :: "words" :: "mail" :: "lines" :: "read" :: "dots" :: "grown" :: "far" :: "rises" :: "stepped" :: "turned" :: "steps" :: "turns" :: "width" :: "factor" :: "lead" ::["side","divisor","extra","dividend","quotient","rest","power","falls","homes","by_steps","by_turns","laid","hour","home",".0","t","row","unit","k","line","more","j","m","order","place"]
def b8:List PS:=[.set 1 0 (.bi .sum [(.var 0)]),.set 2 0 (.ife (.cmp .Eq (.bin .Mod (.var 1) (.cI 50)) (.cI 25)) (.cI 4) (.cI 3)),.set 3 0 (.bin .Mult (.cI 2) (.var 2)),.set 4 0 (.call 13 [(.var 2)]),.set 5 0 (.call 12 [(.var 0),(.cI 0)]),.set 6 0 (.comp1 [43,44] (.one 44) (.ex (.rng [(.bi .len [(.var 4)])])) [] (.call 14 [(.idx (.var 4) (.var 44)),(.bin .Add (.bin .FloorDiv (.var 5) (.cI 8)) (.var 44)),(.bin .Add (.var 5) (.var 44))])),.set 7 0 (.comp1 [43,45] (.one 45) (.ex (.var 6)) [] (.meth .join (.cS ⟨#[]⟩) [(.var 45)])),.set 8 0 (.call 2 [(.listOf (.var 7))]),.set 9 0 (.comp1 [43,44] (.one 44) (.ex (.rng [(.bi .len [(.var 4)])])) [(.cmp .Eq (.idx (.var 8) (.var 44)) (.idx (.var 7) (.var 44)))] (.var 44)),.ite (.boolop Hb [(.cmp .Eq (.var 9) (.list [])),(.cmp .NotEq (.var 8) (.comp1 [43,44] (.one 44) (.ex (.rng [(.bi .len [(.var 4)])])) [] (.ife (.cmp .In (.var 44) (.var 9)) (.idx (.var 7) (.var 44)) (.cS ⟨#[40,39,39,44,32,39,39,41]⟩))))]) [.ret (.cB Hb)] [],.set 10 0 (.idx (.var 9) (.bin .Mod (.bin .FloorDiv (.var 5) (.cI 40)) (.bi .len [(.var 9)]))),.set 11 0 (.bin .Add (.comp1 [43,46] (.one 46) (.ex (.idx (.var 6) (.var 10))) [(.cmp .NotIn (.var 46) (.list [(.cS ⟨#[]⟩),(.cS ⟨#[34,40,34]⟩),(.cS ⟨#[34,92,34,41,34]⟩)]))] (.var 46)) (.list [(.cS ⟨#[92]⟩)])),.set 12 0 (.comp1 [43,47] (.one 47) (.ex (.rng [(.bi .len [(.var 11)])])) [] (.bin .Sub (.bi .len [(.meth .join (.cS ⟨#[]⟩) [(.slice (.var 11) .cN (.bin .Add (.var 47) (.cI 1)) .cN)])]) (.cI 1))),.set 13 0 (.listGen 0 [(.bin .Add (.call 0 [(.idx (.var 7) (.var 10))]) (.cS ⟨#[92]⟩))]),.ite (.boolop Hb [(.cmp .NotEq (.var 13) (.listZip (.var 12) (.var 11))),(.cmp .IsNot (.call 1 [(.slice (.idx (.var 7) (.var 10)) (.cI 1) .cN .cN)]) (.cB Hb))]) [.ret (.cB Hb)] [],.set 14 0 (.comp1 [43,44] (.one 44) (.ex (.var 9)) [] (.idx (.var 4) (.var 44))),.set 15 0 (.call 12 [(.var 0),(.cI 1)]),.set 16 0 (.call 18 [(.var 14),(.var 15)]),.ite (.cmp .NotEq (.comp1 [43,48] (.one 48) (.ex (.var 16)) [(.boolop Hd [(.cmp .NotEq (.idx (.var 48) (.cI 2)) (.cS ⟨#[]⟩)),(.cmp .IsNot (.call 10 [(.idx (.var 48) (.cI 2))]) (.cB Hd))])] (.var 48)) (.list [])) [.ret (.cB Hb)] [],.set 17 0 (.meth .split (.call 20 [(.call 19 [(.var 16),(.var 15)])]) [(.cS ⟨#[13,10]⟩)]),.set 18 0 (.dcomp [43,45] (.one 45) (.ex (.slice (.var 17) .cN (.bi .len [(.var 16)]) .cN)) [] (.meth .lstrip (.var 45) [(.cS ⟨#[46]⟩)]) (.bin .Sub (.bi .len [(.var 45)]) (.bi .len [(.meth .lstrip (.var 45) [(.cS ⟨#[46]⟩)])]))),.ite (.boolop Hb [(.cmp .NotEq (.slice (.var 17) (.bi .len [(.var 16)]) .cN .cN) (.bin .Add (.list [(.cS ⟨#[]⟩),(.cS ⟨#[]⟩),(.cS ⟨#[46,46]⟩)]) (.bin .Mult (.list [(.cS ⟨#[]⟩)]) (.bin .Mod (.var 15) (.cI 2))))),(.cmp .NotEq (.comp1 [43,48] (.one 48) (.ex (.var 16)) [(.cmp .NotIn (.idx (.var 48) (.cI 1)) (.var 18))] (.var 48)) (.list []))]) [.ret (.cB Hb)] [],.set 19 0 (.comp1 [43,48] (.one 48) (.ex (.var 16)) [] (.bin .Sub (.idx (.var 18) (.idx (.var 48) (.cI 1))) (.idx (.var 48) (.cI 0)))),.ite (.cmp .NotEq (.comp1 [43,49] (.one 49) (.ex (.var 19)) [(.boolop Hd [(.cmp .NotEq (.var 49) (.cI 1)),(.cmp .NotEq (.var 49) (.cI 2))])] (.var 49)) (.list [])) [.ret (.cB Hb)] [],.set 20 0 (.bin .Sub (.var 2) (.cI 1)),.set 21 0 (.comp1 [43,44] (.one 44) (.ex (.rng [(.bi .len [(.var 14)])])) [] (.comp1 [43,50] (.one 50) (.ex (.rng [(.cI 1),(.var 2)])) [(.cmp .Eq (.idx (.var 19) (.bin .Sub (.bin .Add (.bin .Mult (.var 44) (.var 20)) (.var 50)) (.cI 1))) (.cI 2))] (.tup [(.var 50),(.bin .Add (.idx (.idx (.var 16) (.bin .Sub (.bin .Add (.bin .Mult (.var 44) (.var 20)) (.var 50)) (.cI 1))) (.cI 0)) (.cI 1))]))),.set 22 0 (.comp1 [43,45] (.one 45) (.ex (.var 21)) [] (.call 21 [(.var 2),(.var 45)])),.set 23 0 (.comp1 [43,44] (.one 44) (.ex (.var 9)) [] (.call 15 [(.idx (.var 6) (.var 44))])),.ite (.cmp .NotEq (.comp1 [43,45] (.one 45) (.ex (.bin .Add (.var 22) (.var 23))) [(.cmp .NotIn (.var 45) (.var 14))] (.var 45)) (.list [])) [.ret (.cB Hb)] [],.set 24 0 (.comp1 [43,45] (.one 45) (.ex (.var 22)) [] (.meth .index (.var 14) [(.var 45)])),.set 25 0 (.comp1 [43,45] (.one 45) (.ex (.var 23)) [] (.meth .index (.var 14) [(.var 45)])),.set 26 0 (.bin .Add (.cI 4) (.bin .Mod (.call 12 [(.var 0),(.cI 2)]) (.cI 1400))),.set 27 0 (.bin .Add (.cI 1) (.bin .Mod (.call 12 [(.var 0),(.cI 3)]) (.bin .Pow (.cI 2) (.cI 90)))),.set 28 0 (.bin .Sub (.cI 1) (.bin .Mult (.cI 2) (.bin .Mod (.bin .FloorDiv (.var 1) (.cI 4)) (.cI 2)))),.set 29 0 (.bin .Sub (.cI 1) (.bin .Mult (.cI 2) (.bin .Mod (.bin .FloorDiv (.var 1) (.cI 8)) (.cI 2)))),.set 30 0 (.bin .Mult (.call 23 [(.rng [(.cI 2),(.bin .Add (.var 2) (.cI 1))]),(.var 26)]) (.var 27)),.set 31 0 (.bin .Mod (.call 12 [(.var 0),(.cI 4)]) (.var 30)),.set 32 0 (.bin .Add (.bin .Mult (.bin .Mult (.var 28) (.call 23 [(.rng [(.bin .Add (.var 2) (.cI 2)),(.bin .Add (.var 3) (.cI 1))]),(.var 26)])) (.var 27)) (.var 31)),.setT [33,34] 0 (.call 8 [(.bin .Mult (.var 29) (.var 32)),(.bin .Mult (.var 29) (.var 30))]),.set 35 0 (.bin .Mult (.bin .Mult (.var 2) (.var 20)) (.var 26)),.ite (.cmp .NotEq (.call 8 [(.bin .Mult (.neg (.var 29)) (.bin .LShift (.var 30) (.var 35))),(.bin .Mult (.var 29) (.var 30))]) (.tup [(.neg (.bin .LShift (.cI 1) (.var 35))),(.cI 0)])) [.ret (.cB Hb)] [],.set 36 0 (.comp1 [43,45] (.one 45) (.ex (.var 14)) [] (.bi .sum [(.comp1 [43,47] (.one 47) (.ex (.rng [(.var 3)])) [(.cmp .Eq (.slice (.var 45) (.var 47) (.bin .Add (.var 47) (.cI 2)) .cN) (.cS ⟨#[41,40]⟩))] (.bin .Add (.var 47) (.cI 1)))])),.ite (.boolop Hb [(.cmp .NotEq (.var 34) (.bin .Mult (.var 29) (.var 31))),(.cmp .NotEq (.call 5 [(.bin .Mult (.var 28) (.var 33)),(.var 26)]) (.comp1 [43,51] (.one 51) (.ex (.rng [(.bin .Add (.bin .Mult (.var 2) (.var 20)) (.cI 1))])) [] (.meth .count (.var 36) [(.var 51)])))]) [.ret (.cB Hb)] [],.set 37 0 (.dcomp [43,52] (.one 52) (.ex (.rng [(.cI 1),(.bin .Add (.var 3) (.cI 1))])) [(.cmp .Eq (.bin .Mod (.var 3) (.var 52)) (.cI 0))] (.var 52) (.call 24 [(.bin .Mult (.var 28) (.var 33)),(.var 52),(.var 26),(.var 29)])),.set 38 0 (.listOf (.rng [(.bi .len [(.var 14)])])),.set 39 0 (.listOf (.rng [(.bi .len [(.var 14)])])),.set 40 0 (.bin .Mult (.list [(.cI 0)]) (.bi .len [(.var 14)])),.for_ (.one 41) (.ex (.rng [(.cI 1),(.bin .Add (.var 3) (.cI 1))])) [.set 40 0 (.comp1 [43,44] (.one 44) (.ex (.rng [(.bi .len [(.var 14)])])) [] (.bin .Add (.idx (.var 40) (.var 44)) (.bi .len [(.idx (.var 21) (.idx (.var 38) (.var 44)))]))),.set 38 0 (.comp1 [43,53] (.one 53) (.ex (.var 38)) [] (.idx (.var 24) (.var 53))),.set 39 0 (.comp1 [43,53] (.one 53) (.ex (.var 39)) [] (.idx (.var 25) (.var 53))),.ite (.boolop Hd [(.cmp .Eq (.var 41) (.var 2)),(.cmp .NotEq (.comp1 [43,53] (.one 53) (.ex (.var 38)) [] (.call 22 [(.idx (.var 14) (.var 53))])) (.var 14))]) [.ret (.cB Hb)] [],.set 42 0 (.idx (.comp1 [43,52] (.one 52) (.ex (.var 37)) [(.cmp .Eq (.bin .Mod (.bin .Mult (.var 41) (.var 52)) (.var 3)) (.cI 0))] (.idx (.var 37) (.var 52))) (.cI 0)),.ite (.cmp .NotEq (.bi .len [(.comp1 [43,44] (.one 44) (.ex (.rng [(.bi .len [(.var 14)])])) [(.cmp .Eq (.idx (.var 38) (.var 44)) (.var 44))] (.var 44))]) (.var 42)) [.ret (.cB Hb)] [],.ite (.cmp .NotEq (.bi .len [(.comp1 [43,44] (.one 44) (.ex (.rng [(.bi .len [(.var 14)])])) [(.cmp .Eq (.idx (.var 39) (.var 44)) (.var 44))] (.var 44))]) (.var 42)) [.ret (.cB Hb)] []],.ret (.cmp .Eq (.var 40) (.bin .Mult (.list [(.bin .Mult (.var 2) (.var 20))]) (.bi .len [(.var 14)])))]
theorem Cr:sSs gl2 lf (hnt []) (ar 37).2.2.2.names 90 (ar 37).2.2.1=b8:=by kernel_rfl
def wl:List Nat:=[4,7,8,9,10,11,12,14,15,16,17,20,22,24,25,26,27,28,29,30,31,32,33,34,35,36,37]
set_option maxHeartbeats 0 in
theorem Ad:(recsOf qv).map (λd=>(d.name,d.params,d.body,d.scope))=wl.map ar:=by kernel_rfl
variable {k:Nat}
theorem CM (hk:k∈wl): ∃d∈recsOf qv,(d.name,d.params,d.body,d.scope)=ar k:=by
 haveI:ar k∈(recsOf qv).map (λd=>(d.name,d.params,d.body,d.scope)):=by rw [Ad];exact HT hk
 obtain⟨d,hd,e⟩:=HC.mp this;exact⟨d,hd,e⟩
variable {n:HJ}
section
variable {H:IL}
theorem wC (X:bk w H) (h:(n,v)∈dW): ∃v',H.nsMap IE n=H7 v'/\jS v'=v:=by haveI e:dW.map (λx=>(H.nsMap IE x.1).map jS)=dW.map (λx=>H7 x.2):=congrArg Prod.fst X.obs;have:=KC.mp e (n,v) h;exact HG.mp this
theorem vL (h:jS v= .ref a):v= .ref a:=by cases v<;>first|exact h|cases h
theorem si (X:bk w H) (h:(n,LV a)∈dW):H.nsMap IE n=H7 (.ref a):=by obtain⟨v,h1,h2⟩:=wC X h;rw [h1,vL h2]
theorem gF (X:bk w H) (h:(n,LV a)∈dW):cG H n (.ref a):=⟨_,_,X.top.g,X.top.b,.inl (si X h)⟩
theorem Dp (X:bk w H) (hk:k∈wl) (hn:(ar k).1=n) (ha:(n,LV a)∈dW):
  ∃o pm cd Qh c P,H.get? a=H7 o/\o.data= .func (PQ n (ar k).2.1 (ar k).2.2.1 (ar k).2.2.2 pm cd Qh)/\e7 H cd n/\cd= .ref c/\H.IsCode c P #[]/\H.TableAt c P #[]:=by
 obtain⟨d,hd,e⟩:=CM hk;obtain⟨a1,o,pm,cd,Qh,h1,h2,h3,h4⟩:=X.top.fn d hd;obtain⟨a2,o2,fd,c,P,g1,g2,g3,g4,g5,g6⟩:=X.top.tab d hd;have en:d.name=n:=by rw [<-hn,<-e]
 rw [en,si X ha]at h1 g1;cases h1;cases g1;rw [h2]at g2;cases g2;rw [h3]at g3;have g3:_=fd:=Data.func.inj g3;subst g3;have Ye:cd= .ref c:=g4;refine⟨o,pm,cd,Qh,c,P,h2, ?_, ?_,Ye,g5,g6⟩
 ·rw [h3,<-en,<-e]
 ·obtain⟨c',o',vs,t,e1,e2,e3,e4⟩:=h4
  rw [Ye]at e1;cases e1;obtain⟨⟨o3,vs3,f1,f2,f3,f4⟩,_⟩:=g6;rw [e2]at f1;cases f1;exact⟨c,o',vs,t,Ye,e2,by rw [f2];exact λq=>(by cases q),e3,by rw [<-en];exact e4⟩
def zG (k:Nat) (params Q4:List HJ):Bool:=
 (ar k).2.2.2.kind== .function&& !(ar k).2.2.2.isCoroutine&& !(ar k).2.2.2.isGenerator&&decide params.Nodup&&params.all (λx=>Q4.contains x)&&
  params.all (λx=>(ar k).2.2.2.names.lookup x==H7 .local||(ar k).2.2.2.names.lookup x==H7 .cell)&&(ar k).2.2.2.names.all (λp=>p.2 != .free)
end
end Internal
namespace Internal
open PySem PySem.W PySem.Calls PyProof.Rows
open PySem.Builtin.Str (strSliceIndices)
theorem BG (a:Option Int) (n:Nat):strSliceIndices a H9 1 n=strSliceIndices a (H7 (n:Int)) 1 n:=by
 unfold strSliceIndices;simp only [show((1:Int)>0)=True from by simp,if_true]
 congr 1
 haveI: ¬((n:Int)<0):=by exact Kk (HA _)
 simp only [this,if_false];lia
theorem BF (b:Option Int) (n:Nat):strSliceIndices H9 b 1 n=strSliceIndices (H7 ((0:Nat):Int)) b 1 n:=by
 unfold strSliceIndices;simp only [show((1:Int)>0)=True from by simp,if_true]
 congr 1
variable {α:Type}
theorem gD (xs:List α) (lo hi:Option Int):eZ xs lo hi H9=(strSliceIndices lo hi 1 xs.length).filterMap (xs[·]?):=rfl
variable {a b:Nat}
theorem oF (xs:List α) (S6:a<=b) (hb:b<=xs.length):eZ xs (H7 a) (H7 b) H9=(xs.drop a).take (b-a):=by rw [gD,Mx S6 hb];exact PySem.StrLaws.picks xs (b-a) a (by exact H8 (Hu (I9 S6)) hb)
theorem rZ (xs:List α) (ha:a<=xs.length):eZ xs (H7 a) H9 H9=xs.drop a:=by rw [gD,BG,<-gD,oF xs ha (Hm _),Iq (by simp)]
theorem nZ (xs:List α) (hb:b<=xs.length):eZ xs H9 (H7 b) H9=xs.take b:=by rw [gD,BF,<-gD];exact oF xs (IH _) hb
variable {x:HJ}
theorem rX (S6:a<=b) (hb:b<=x.length) (hx:x.length<=Hz):bz (.str x) (.int a) (.int b) .none=H7 (.str ⟨((x.cps.toList.drop a).take (b-a)).toArray⟩):=by
 haveI e:=PySem.StrLaws.sliced_plain x S6 hb;have hl:(strSliceIndices (H7 (a:Int)) (H7 (b:Int)) 1 x.length).length=b-a:=by rw [Mx S6 hb];simp
 show(if(1:Int)=0∨Hz<(strSliceIndices (H7 (a:Int)) (H7 (b:Int)) 1 x.length).length then H9 else H7 (PV.str (if((1:Int)==1&&(strSliceIndices (H7 (a:Int)) (H7 (b:Int)) 1 x.length).length==x.length)=Hd then x else⟨((strSliceIndices (H7 (a:Int)) (H7 (b:Int)) 1 x.length).filterMap (x.cps[·]?)).toArray⟩)))=_
 rw [if_neg (by rw [hl];lia),e,hl]
 by_cases h:b-a=x.length
 ·rw [if_pos (by simp [h])]
  haveI h0:a=0:=aZ hb S6 h;haveI h1:b=x.length:=by exact JH hb (H8 (Hu (IW h)) (PW _ _))
  subst h0;rw [h1,KM,Nat.sub_zero,Iq (by simp [JX])]
 ·rw [if_neg (by simp [h])]
theorem Bz (ha:a<=x.length) (hx:x.length<=Hz):bz (.str x) (.int a) .none .none=H7 (.str ⟨(x.cps.toList.drop a).toArray⟩):=by
 have:=rX ha (Hm _) hx;rw [Iq (by simp [JX])]at this
 rw [<-this];show(if(1:Int)=0∨Hz<(strSliceIndices (H7 (a:Int)) H9 1 x.length).length then H9 else H7 (PV.str (if((1:Int)==1&&(strSliceIndices (H7 (a:Int)) H9 1 x.length).length==x.length)=Hd then x else⟨((strSliceIndices (H7 (a:Int)) H9 1 x.length).filterMap (x.cps[·]?)).toArray⟩)))=_
 rw [BG]
 rfl
structure SM where
 done:List Nat
 a:List Nat
 b:Option (List Nat)
 esc:Bool
def SM.put (m:SM) (c:Nat):SM:=match m.b with
 |none=>{m with a:=m.a++[c]}
 |some b=>{m with b:=H7 (b++[c])}
def SM.step (m:SM) (c:Nat):SM:=
 if m.esc=Hd then {m.put c with esc:=Hb}else if c=92 then {m.put c with esc:=Hd}else if c=34 then(match m.b with
  |none=>{m with b:=H7 [34]}
  |some _=>{m with done:=m.done++m.a,a:=[],b:=H9})else m.put c
def SM.fin (m:SM):List Nat:=m.done++m.a++(m.b.getD [])
def SM.run (m:SM) (l:List Nat):SM:=l.foldl SM.step m
def aH (l:List Nat):List Nat:=(SM.run ⟨[],[],H9,Hb⟩ l).fin
def l4:List PS:=[.ite (.cmp .Eq (.var 5) (.cS ⟨#[34]⟩)) [.ite (.cmp .Is (.var 2) .cN) [.set 2 0 (.var 4)] [.ite (.cmp .NotEq (.var 1) (.var 2)) [.app 3 0 (.slice (.var 0) (.var 1) (.var 2) .cN)] [],.set 1 0 (.bin .Add (.var 4) (.cI 1)),.set 2 0 .cN]] []]
def opV:Option Nat->PV
 |none=> .none
 |some p=> .int p
variable {a4:Option PV}
section
variable {Γ:Gam}
theorem ox {a b:HJ} (h:a≠b):H7 (a==b)=H7 Hb:=congrArg H7 (beq_eq_false_iff_ne.mpr h)
theorem lB {a1 a2 a3:Option PV} {op:PV} {y:HJ} (h:y≠⟨#[34]⟩):ag Γ l4 [a1,a2,a3,a4,H7 op,H7 (.str y)] [3]=H7 (.next [a1,a2,a3,a4,H7 op,H7 (.str y)] [3]):=
 cw (an (t:=Hb) (show aJ Γ (.cmp .Eq (.var 5) (.cS ⟨#[34]⟩)) [a1,a2,a3,a4,H7 op,H7 (.str y)]=H7 Hb from ox h) rfl)
theorem A8 {a1 a2:Option PV} {p:Int}:ag Γ l4 [a1,a2,H7 .none,a4,H7 (.int p),H7 (.str ⟨#[34]⟩)] [3]=H7 (.next [a1,a2,H7 (.int p),a4,H7 (.int p),H7 (.str ⟨#[34]⟩)] [3]):=by kernel_rfl
theorem yc {st q p:Nat} {RW:List PV} (h1:st<=q) (h2:q<=x.length) (hx:x.length<=Hz) (hr:RW.length<Hz):
  ag Γ l4 [H7 (.str x),H7 (.int st),H7 (.int q),H7 (.list RW),H7 (.int p),H7 (.str ⟨#[34]⟩)] [3]=
   H7 (.next [H7 (.str x),H7 (.int ((p+1:Nat):Int)),H7 .none,H7 (.list (if st=q then RW else RW++[.str ⟨((x.cps.toList.drop st).take (q-st)).toArray⟩])),H7 (.int p),H7 (.str ⟨#[34]⟩)] [3]):=by
 have hc: ∀b,((st:Int)==(q:Int))=b->aJ Γ (.cmp .NotEq (.var 1) (.var 2)) [H7 (.str x),H7 (.int st),H7 (.int q),H7 (.list RW),H7 (.int p),H7 (.str ⟨#[34]⟩)]=H7 !b:=λb e=>congrArg (λb=>H7 !b) e;refine cw (an (t:=Hd) rfl (cw (an (t:=Hb) rfl ?_)));by_cases h:st=q
 ·rw [if_pos h]
  exact(aa (an (t:=Hb) (hc Hd (by simp [h])) rfl)).trans rfl
 ·rw [if_neg h]
  exact(aa (an (t:=Hd) (hc Hb (by simp;lia)) (cw (fF (xs:=RW) rfl (by show(bz (.str x) (.int st) (.int q) .none).bind _=_;rw [rX h1 h2 hx];rfl) rfl hr)))).trans rfl
end
end Internal
namespace Internal
open PySem PySem.W PySem.Calls PyProof.Rows
def cM (rs:List (List Nat)):List PV:=rs.map λl=> .str ⟨l.toArray⟩
structure wq (x:HJ) (i:Nat) (m:SM) (st:Nat) (op:Option Nat) (rs:List (List Nat)):Prop where
 done:rs.flatten=m.done
 st_le:st<=i
 len:rs.length<=i
 ab:match op,m.b with
  |none,H9=>m.a=(x.cps.toList.drop st).take (i-st)
  |some q,H7 b=>st<=q/\q<i/\m.a=(x.cps.toList.drop st).take (q-st)/\b=(x.cps.toList.drop q).take (i-q)
  |_,_=>False
variable {f:Ρ->List Nat->Option Out} {a b:PV} {xs:List PV} {r0 r1:Option PV}
theorem wD {r2 r3 p4 p5:Option PV}:eG (.many [4,5]) f (.tuple [a,b]::xs) [r0,r1,r2,r3,p4,p5] [3]=
  (match f [r0,r1,r2,r3,H7 a,H7 b] [3]with|some (.next ρ own)=>eG (.many [4,5]) f xs ρ own|some (.ret v)=>H7 (.ret v)|none=>H9):=by
 show(if Hd=Hd then _ else H9)=_;rw [if_pos rfl];haveI e:aX [r0,r1,r2,r3,p4,p5] (.many [4,5]) (.tuple [a,b])=H7 [r0,r1,r2,r3,H7 a,H7 b]:=rfl;rw [e];show(f [r0,r1,r2,r3,H7 a,H7 b] [3]).bind _=_;cases f [r0,r1,r2,r3,H7 a,H7 b] [3]with
 |none=>rfl
 |some o=>cases o<;>rfl
variable {x:HJ} {i c:Nat} {l:List Nat}
theorem ju {st:Nat} (h:x.cps.toList.drop i=c::l) (hs:st<=i):(x.cps.toList.drop st).take (i+1-st)=(x.cps.toList.drop st).take (i-st)++[c]:=by
 have hi:i<x.cps.toList.length:=by
  rcases Kr i x.cps.toList.length with q|q
  ·exact q
  ·rw [IQ q]at h;cases h
 haveI hg:x.cps.toList[i]=c:=by have:=Js hi;rw [this]at h;exact(Lj h).1
 rw [show i+1-st=(i-st)+1 by exact Nat.succ_sub hs,List.take_add_one,PB,show st+(i-st)=i by exact I9 hs,HB hi,hg]
 rfl
variable {m:SM} {op:Option Nat} {rs:List (List Nat)}
theorem oC {st:Nat} (I:wq x i m st op rs) (h:x.cps.toList.drop i=c::l) (e:Bool):wq x (i+1) {m.put c with esc:=e} st op rs:=by
 obtain⟨h1,h2,h3,h4⟩:=I;refine⟨?_,by exact HN h2,by exact HN h3, ?_⟩
 ·unfold SM.put
  cases m.b<;>exact h1
 ·unfold SM.put
  cases op with
  |none=>
   cases hb:m.b with
   |none=>
    rw [hb]at h4;show m.a++[c]=_;rw [ju h h2,h4]
   |some b=>rw [hb]at h4;exact h4.elim
  |some q=>
   cases hb:m.b with
   |none=>rw [hb]at h4;exact h4.elim
   |some b=>
    rw [hb]at h4;obtain⟨a1,a2,a3,a4⟩:=h4;exact⟨a1,by exact Nat.lt_add_right _ a2,a3,by rw [ju h (by exact HP a2),a4]⟩
variable {Γ:Gam}
theorem t8 (hx:x.cps.size<=100000): ∀(l:List Nat) (i:Nat) (m:SM) (st:Nat) (op:Option Nat) (rs:List (List Nat)) (p4 p5:Option PV),wq x i m st op rs->x.cps.toList.drop i=l->i<=x.cps.size->
  ∃Wy op' rs' p4' p5',eG (.many [4,5]) (λρ own=>ag Γ l4 ρ own) (am i m.esc l) [H7 (.str x),H7 (.int st),H7 (opV op),H7 (.list (cM rs)),p4,p5] [3]=
   H7 (.next [H7 (.str x),H7 (.int (Wy:Nat)),H7 (opV op'),H7 (.list (cM rs')),p4',p5'] [3])/\wq x x.cps.size (m.run l) Wy op' rs':=by
 haveI hz:Hz=2^24:=rfl;intro l;induction l with
 |nil=>
  intro i m st op rs p4 p5 I hd hi;have ei:i=x.cps.size:=by have:=congrArg Kl hd;simp at this;exact EE hi this
  subst ei;rw [BR];cases he:m.esc with
  |false=>exact⟨st,op,rs,p4,p5,rfl,I⟩
  |true=>
   refine⟨st,op,rs,H7 (.int (x.cps.size-1)),H7 (.str ⟨#[92]⟩), ?_,I⟩;rw [if_pos rfl,wD];rw [lB (by decide)]
   rfl
 |cons c l ih=>
  intro i m st op rs p4 p5 I hd hi;have SR:i<x.cps.size:=by have:=congrArg Kl hd;simp at this;exact GU this
  have R1:x.cps.toList.drop (i+1)=l:=by
   have:=congrArg List.tail hd
   rwa [List.tail_drop]at this
  haveI er:m.run (c::l)=(m.step c).run l:=rfl;rw [er];rw [pX];haveI ei:((i:Int)+1)=((i+1:Nat):Int):=by push_cast;rfl
  rw [ei];cases he:m.esc with
  |true=>
   rw [if_pos rfl,wD,lB (by simp)]
   have es:m.step c={m.put c with esc:=Hb}:=by unfold SM.step;rw [if_pos he]
   rw [es];exact ih (i+1) {m.put c with esc:=Hb} st op rs _ _ (oC I hd Hb) R1 (by exact SR)
  |false=>
   rw [if_neg (by decide)]
   by_cases h92:c=92
   ·rw [if_pos h92]
    have es:m.step c={m.put c with esc:=Hd}:=by unfold SM.step;rw [if_neg (by rw [he];decide),if_pos h92]
    rw [es];exact ih (i+1) {m.put c with esc:=Hd} st op rs _ _ (oC I hd Hd) R1 (by exact SR)
   ·rw [if_neg h92,wD]
    by_cases h34:c=34
    ·subst h34
     obtain⟨h1,h2,h3,h4⟩:=I;cases op with
     |none=>
      cases hb:m.b with
      |some b=>rw [hb]at h4;exact h4.elim
      |none=>
       rw [hb]at h4;rw [show opV H9=PV.none from rfl];rw [A8];have es:m.step 34={m with b:=H7 [34]}:=by unfold SM.step;rw [if_neg (by rw [he];decide),if_neg (by decide),if_pos rfl,hb]
       rw [es];have:=ih (i+1) {m with b:=H7 [34]} st (H7 i) rs (H7 (.int i)) (H7 (.str ⟨#[34]⟩)) ⟨h1,by exact HN h2,by exact HN h3,⟨h2,by exact HR _,h4, ?_⟩⟩ R1 (by exact SR)
       ·rw [show({m with b:=H7 [34]}:SM).esc=Hb from he]at this
        rw [he];exact this
       ·have:=ju hd (Hm i)
        rw [this,MT];rfl
     |some q=>
      cases hb:m.b with
      |none=>rw [hb]at h4;exact h4.elim
      |some b=>
       rw [hb]at h4;obtain⟨a1,a2,a3,a4⟩:=h4;rw [show opV (H7 q)=PV.int q from rfl];rw [yc a1 (show q<=x.length from by show q<=x.cps.size;exact H8 (HP a2) hi) (show x.length<=Hz from by show x.cps.size<=Hz;exact H8 hx (by decide)) (by unfold cM;rw [Hf];exact Hk (H8 h3 (H8 (HP SR) hx)) (by decide))]
       have es:m.step 34={m with done:=m.done++m.a,a:=[],b:=H9}:=by unfold SM.step;rw [if_neg (by rw [he];decide),if_neg (by decide),if_pos rfl,hb]
       rw [es];haveI er2:(if st=q then cM rs else cM rs++[.str ⟨((x.cps.toList.drop st).take (q-st)).toArray⟩])=cM (if st=q then rs else rs++[(x.cps.toList.drop st).take (q-st)]):=by
        by_cases hq:st=q
        ·rw [if_pos hq,if_pos hq]
        ·rw [if_neg hq,if_neg hq];unfold cM;simp
       rw [er2];have:=ih (i+1) {m with done:=m.done++m.a,a:=[],b:=H9} (i+1) H9 (if st=q then rs else rs++[(x.cps.toList.drop st).take (q-st)]) (H7 (.int i)) (H7 (.str ⟨#[34]⟩)) ⟨?_,Hm _, ?_, ?_⟩ R1 (by exact SR)
       ·rw [show({m with done:=m.done++m.a,a:=[],b:=H9}:SM).esc=Hb from he]at this
        rw [he];exact this
       ·show _=m.done++m.a
        by_cases hq:st=q
        ·rw [if_pos hq,h1,a3,hq,MT];simp
        ·rw [if_neg hq,Jn,h1,a3];simp
       ·by_cases hq:st=q
        ·rw [if_pos hq];exact HN h3
        ·rw [if_neg hq];simp;exact h3
       ·show []=_
        rw [MT];rfl
    ·rw [lB (by simp [h34])]
     haveI es:m.step c={m.put c with esc:=Hb}:=by
      unfold SM.step;rw [if_neg (by rw [he];decide),if_neg h92,if_neg h34]
      unfold SM.put;cases m.b<;>simp [he]
     rw [es];exact ih (i+1) {m.put c with esc:=Hb} st op rs _ _ (oC I hd Hb) R1 (by exact SR)
theorem ul: ∀(l:List Nat) (a:List Nat) (e:Bool),34∉l-> ∃e',SM.run ⟨[],a,H9,e⟩ l=⟨[],a++l,H9,e'⟩
 |[],a,e,_=>⟨e,by simp [SM.run]⟩
 |c::l,a,e,h=>by
  haveI hc:c≠34:=λq=>h (q▸Hs);haveI hl:34∉l:=λq=>h (Hq _ q);haveI: ∃e1,SM.step ⟨[],a,H9,e⟩ c=⟨[],a++[c],H9,e1⟩:=by
   unfold SM.step SM.put;by_cases he:e=Hd
   ·exact⟨Hb,by simp [he]⟩
   ·by_cases h92:c=92
    ·exact⟨Hd,by simp [he,h92]⟩
    ·exact⟨e,by simp [he,h92,hc]⟩
  obtain⟨e1,h1⟩:=this;obtain⟨e',h2⟩:=ul l (a++[c]) e1 hl;refine⟨e', ?_⟩;show SM.run (SM.step ⟨[],a,H9,e⟩ c) l=_;rw [h1,h2,HW]
  rfl
theorem vg (h:34∉l):aH l=l:=by obtain⟨e',e⟩:=ul l [] Hb h;unfold aH;rw [e];simp [SM.fin]
theorem mQ: ∀rs:List (List Nat),jQ (cM rs)=H7 (rs.map λl=>⟨l.toArray⟩)
 |[]=>rfl
 |l::rs=>by show(jQ (cM rs)).map _=_;rw [mQ rs];rfl
theorem fH (h:rs.flatten.length<=Hz):pme .join (.str ⟨#[]⟩) [.list (cM rs)]=H7 (.str ⟨rs.flatten.toArray⟩):=by
 show(jQ (cM rs)).bind _=_;rw [mQ];have e:((rs.map λl=>(⟨l.toArray⟩:HJ)).map (·.cps.toList)).flatten=rs.flatten:=by
  haveI q:((λx:HJ=>x.cps.toList)∘λl:List Nat=>(⟨l.toArray⟩:HJ))=id:=by funext l;simp
  rw [HU,q,List.map_id]
 haveI hj:=iF (rs.map λl=>⟨l.toArray⟩) (by rw [e];exact h)
 show(if Q0 ⟨#[]⟩ (rs.map λl=>⟨l.toArray⟩)=Hd then H7 (PV.str (LL ⟨#[]⟩ (rs.map λl=>⟨l.toArray⟩)))else H9)=_;rw [if_pos hj];have:=lI (rs.map λl=>⟨l.toArray⟩);rw [e]at this;rw [show LL ⟨#[]⟩ (rs.map λl=>⟨l.toArray⟩)=⟨rs.flatten.toArray⟩from(by rw [<-this])]
def ir:List PS:=[.ite (.cmp .NotIn (.cS ⟨#[34]⟩) (.var 0)) [.ret (.var 0)] [],.set 1 0 (.cI 0),.set 2 0 .cN,.own 3 (.list []),.for_ (.many [4,5]) (.gen 0 [(.var 0)]) l4,.ite (.cmp .Lt (.var 1) (.bi .len [(.var 0)])) [.app 3 0 (.slice (.var 0) (.var 1) .cN .cN)] [],.ret (.meth .join (.cS ⟨#[]⟩) [(.var 3)])]
theorem yR {st:Nat} (I:wq x x.cps.size m st op rs):m.fin=rs.flatten++x.cps.toList.drop st:=by
 obtain⟨h1,h2,h3,h4⟩:=I;unfold SM.fin;cases op with
 |none=>
  cases hb:m.b with
  |some b=>rw [hb]at h4;exact h4.elim
  |none=>
   rw [hb]at h4;rw [h4,<-h1,Iq (by simp)]
   simp
 |some q=>
  cases hb:m.b with
  |none=>rw [hb]at h4;exact h4.elim
  |some b=>
   rw [hb]at h4;obtain⟨a1,a2,a3,a4⟩:=h4;rw [a3,a4,<-h1,HW]
   congr 1
   show(x.cps.toList.drop st).take (q-st)++(x.cps.toList.drop q).take (x.cps.size-q)=_;rw [Iq (l:=x.cps.toList.drop q) (by simp)]
   haveI:x.cps.toList.drop q=(x.cps.toList.drop st).drop (q-st):=by rw [JU];congr 1;exact IW (I9 a1)
   rw [this,IF]
theorem g_: ∀(l:List Nat) (m:SM),(m.run l).fin.length<=m.fin.length+l.length
 |[],m=>by simp [SM.run]
 |c::l,m=>by
  haveI h1:=g_ l (m.step c);haveI h2:(m.step c).fin.length<=m.fin.length+1:=by obtain⟨d,a,b,e⟩:=m;unfold SM.step SM.put SM.fin;cases b<;>(repeat' split)<;>simp_all<;>lia
  haveI:(m.run (c::l))=(m.step c).run l:=rfl;rw [this,Hv];lia
theorem gB (h:x.length<2^62):pbi .len [.str x]=H7 (.int x.length):=if_pos h
theorem ta (hx:x.cps.size<=100000) (hg:Γ.gn 0 [.str x]=H7 (am 0 Hb x.cps.toList)):aE Γ 6 [0] ir [.str x]=H7 (.str ⟨(aH x.cps.toList).toArray⟩):=by
 haveI hz:Hz=2^24:=rfl;have RC:=Nv x 34;by_cases hq:34∈x.cps.toList
 ·have RC:(Jz x ⟨#[34]⟩ 0 x.length 1).isEmpty=Hb:=by simpa [hq]using RC
  obtain⟨st,op,rs,p4,p5,hl,I⟩:=t8 (Γ:=Γ) hx x.cps.toList 0 ⟨[],[],H9,Hb⟩ 0 H9 [] H9 H9 ⟨rfl,Hm _,IH _,rfl⟩ rfl (IH _);have QC:=yR I;have QC:aH x.cps.toList=rs.flatten++x.cps.toList.drop st:=QC;have Q7:=g_ x.cps.toList ⟨[],[],H9,Hb⟩;have Q7:(aH x.cps.toList).length<=x.cps.size:=by haveI:(⟨[],[],H9,Hb⟩:SM).fin.length=0:=rfl;rw [this]at Q7;simpa [aH]using Q7
  haveI RD:pit Γ (.gen 0 [.var 0]) [H7 (.str x),H7 (.int 0),H7 .none,H9,H9,H9]=H7 (am 0 Hb x.cps.toList):=by show(Γ.gn 0 [.str x])=_;exact hg
  haveI hrl:rs.length<=x.cps.size:=I.len;haveI QR:st<=x.cps.size:=I.st_le;haveI hrf:rs.flatten.length<=x.cps.size:=by rw [QC,Hn]at Q7;exact Ii Q7
  haveI P:ag Γ ir [H7 (.str x),H9,H9,H9,H9,H9] []=H7 (.ret (.str ⟨(aH x.cps.toList).toArray⟩)):=by
   rw [ir,aa (ρ':=[H7 (.str x),H9,H9,H9,H9,H9]) (Qb:=[]) (an (t:=Hb) (show aJ Γ (.cmp .NotIn (.cS ⟨#[34]⟩) (.var 0)) [H7 (.str x),H9,H9,H9,H9,H9]=H7 _ from congrArg (λb=>H7 !!b) RC) rfl)];rw [aa (ρ':=[H7 (.str x),H7 (.int 0),H9,H9,H9,H9]) (Qb:=[]) rfl];rw [aa (ρ':=[H7 (.str x),H7 (.int 0),H7 .none,H9,H9,H9]) (Qb:=[]) rfl];rw [aa (ρ':=[H7 (.str x),H7 (.int 0),H7 .none,H7 (.list []),H9,H9]) (Qb:=[3]) rfl];rw [aa (ρ':=[H7 (.str x),H7 (.int st),H7 (opV op),H7 (.list (cM rs)),p4,p5]) (Qb:=[3]) (by show(pit Γ (.gen 0 [.var 0]) [H7 (.str x),H7 (.int 0),H7 .none,H9,H9,H9]).bind _=_;rw [RD];exact hl)]
   have V9:x.length=x.cps.size:=rfl;have hc:aJ Γ (.cmp .Lt (.var 1) (.bi .len [.var 0])) [H7 (.str x),H7 (.int st),H7 (opV op),H7 (.list (cM rs)),p4,p5]=H7 (decide ((st:Int)<(x.cps.size:Int))):=by
    show(((pbi .len [.str x]).bind λb=>(gp .Lt (.int st) b).map PV.bool)).bind ff=_;rw [gB (by rw [V9];exact Hk hx (by decide))]
    rfl
   by_cases Qp:st<x.cps.size
   ·haveI SY:=Bz (x:=x) (a:=st) (by rw [V9];exact QR) (by rw [V9];exact H8 hx (by decide))
    haveI ha:az Γ (.app 3 0 (.slice (.var 0) (.var 1) .cN .cN)) [H7 (.str x),H7 (.int st),H7 (opV op),H7 (.list (cM rs)),p4,p5] [3]=H7 (.next [H7 (.str x),H7 (.int st),H7 (opV op),H7 (.list (cM rs++[.str ⟨(x.cps.toList.drop st).toArray⟩])),p4,p5] [3]):=by
     refine fF rfl ?_ rfl (by unfold cM;rw [Hf];exact Hk hrl (Hk hx (by decide)))
     show(bz (.str x) (.int st) .none .none).bind _=_;rw [SY]
     rfl
    haveI er:cM rs++[.str ⟨(x.cps.toList.drop st).toArray⟩]=cM (rs++[x.cps.toList.drop st]):=by unfold cM;rw [HY];rfl
    rw [aa (ρ':=[H7 (.str x),H7 (.int st),H7 (opV op),H7 (.list (cM (rs++[x.cps.toList.drop st]))),p4,p5]) (Qb:=[3]) (an hc (by rw [if_pos (by simpa using Qp),aa ha,er];rfl))]
    refine ak (aC ?_);show(pme .join (.str ⟨#[]⟩) [.list (cM (rs++[x.cps.toList.drop st]))])=_;have e:(rs++[x.cps.toList.drop st]).flatten=aH x.cps.toList:=by rw [QC];simp
    rw [fH (by rw [e];exact H8 (H8 Q7 hx) (by decide)),e]
   ·rw [aa (ρ':=[H7 (.str x),H7 (.int st),H7 (opV op),H7 (.list (cM rs)),p4,p5]) (Qb:=[3]) (an hc (by rw [if_neg (by simpa using Qp)];rfl))]
    refine ak (aC ?_);show(pme .join (.str ⟨#[]⟩) [.list (cM rs)])=_;have e:rs.flatten=aH x.cps.toList:=by rw [QC,IQ (by simp;exact Ix Qp)];simp
    rw [fH (by rw [e];exact H8 (H8 Q7 hx) (by decide)),e]
  show((ag Γ ir [H7 (.str x),H9,H9,H9,H9,H9] []).bind _)=_;rw [P]
  rfl
 ·have RC:(Jz x ⟨#[34]⟩ 0 x.length 1).isEmpty=Hd:=by simpa [hq]using RC
  rw [vg hq];show((ag Γ ir [H7 (.str x),H9,H9,H9,H9,H9] []).bind _)=_;rw [ir,ak (an (t:=Hd) (show aJ Γ (.cmp .NotIn (.cS ⟨#[34]⟩) (.var 0)) [H7 (.str x),H9,H9,H9,H9,H9]=H7 _ from congrArg (λb=>H7 !!b) RC) (ak (aC rfl)))]
  rfl
def cnt:Bool->Nat->List Nat->Option Nat
 |_,n,[]=>H7 n
 |e,n,c::l=>if e=Hd then cnt Hb n l else if c=92 then cnt Hd n l else if c=40 then cnt Hb (n+1) l else if c=41 then(match n with
  |0=>H9
  |n+1=>cnt Hb n l)else cnt Hb n l
def dA (l:List Nat):Bool:=cnt Hb 0 (aH l)==H7 0
def ix:List PS:=[.ite (.cmp .Eq (.var 3) (.cS ⟨#[40]⟩)) [.aug 1 .Add 0 (.cI 1)] [.ite (.cmp .Eq (.var 3) (.cS ⟨#[41]⟩)) [.aug 1 .Sub 0 (.cI 1),.ite (.cmp .Lt (.var 1) (.cI 0)) [.ret (.cB Hb)] []] []]]
def ll:List PS:=[.set 0 0 (.call 0 [(.var 0)]),.set 1 0 (.cI 0),.for_ (.many [2,3]) (.gen 0 [(.var 0)]) ix,.ret (.cmp .Eq (.var 1) (.cI 0))]
variable {n:Nat} {p2:Option PV}
section
theorem lM {a0 a1 a2:Option PV} {y:HJ} (h:y≠⟨#[40]⟩) (h2:y≠⟨#[41]⟩):ag Γ ix [a0,a1,a2,H7 (.str y)] []=H7 (.next [a0,a1,a2,H7 (.str y)] []):=
 cw (an (t:=Hb) (show aJ Γ (.cmp .Eq (.var 3) (.cS ⟨#[40]⟩)) [a0,a1,a2,H7 (.str y)]=H7 Hb from ox h) (cw (an (t:=Hb) (show aJ Γ (.cmp .Eq (.var 3) (.cS ⟨#[41]⟩)) [a0,a1,a2,H7 (.str y)]=H7 Hb from ox h2) rfl)))
theorem Bj {a0 a2:Option PV}:ag Γ ix [a0,H7 (.int n),a2,H7 (.str ⟨#[40]⟩)] []=H7 (.next [a0,H7 (.int ((n+1:Nat):Int)),a2,H7 (.str ⟨#[40]⟩)] []):=by kernel_rfl
theorem zp {a0 a2:Option PV}:ag Γ ix [a0,H7 (.int ((n+1:Nat):Int)),a2,H7 (.str ⟨#[41]⟩)] []=H7 (.next [a0,H7 (.int n),a2,H7 (.str ⟨#[41]⟩)] []):=by
 haveI a:az Γ (.aug 1 .Sub 0 (.cI 1)) [a0,H7 (.int ((n+1:Nat):Int)),a2,H7 (.str ⟨#[41]⟩)] []=H7 (.next [a0,H7 (.int n),a2,H7 (.str ⟨#[41]⟩)] []):=
  dq (c:= .int n) rfl rfl (by
   show H7 (PV.int (((n+1:Nat):Int)-1))=_;haveI:((n+1:Nat):Int)-1=n:=by lia
   rw [this]) rfl
 haveI b:az Γ (.ite (.cmp .Lt (.var 1) (.cI 0)) [.ret (.cB Hb)] []) [a0,H7 (.int n),a2,H7 (.str ⟨#[41]⟩)] []=H7 (.next [a0,H7 (.int n),a2,H7 (.str ⟨#[41]⟩)] []):=
  an (t:=Hb) (by show H7 (decide ((n:Int)<0))=_;exact congrArg H7 (decide_eq_false (by exact Kk (HA _)))) rfl
 refine(aa (an (t:=Hb) rfl ?_)).trans rfl;refine(aa (an (t:=Hd) rfl ?_)).trans rfl;exact(aa a).trans ((aa b).trans rfl)
theorem Bi {a0 a2:Option PV}:ag Γ ix [a0,H7 (.int ((0:Nat):Int)),a2,H7 (.str ⟨#[41]⟩)] []=H7 (.ret (.bool Hb)):=rfl
theorem mB {p3:Option PV}:eG (.many [2,3]) f (.tuple [a,b]::xs) [r0,r1,p2,p3] []=
  (match f [r0,r1,H7 a,H7 b] []with|some (.next ρ own)=>eG (.many [2,3]) f xs ρ own|some (.ret v)=>H7 (.ret v)|none=>H9):=by
 show(if Hd=Hd then _ else H9)=_;rw [if_pos rfl];haveI e:aX [r0,r1,p2,p3] (.many [2,3]) (.tuple [a,b])=H7 [r0,r1,H7 a,H7 b]:=rfl;rw [e];show(f [r0,r1,H7 a,H7 b] []).bind _=_;cases f [r0,r1,H7 a,H7 b] []with
 |none=>rfl
 |some o=>cases o<;>rfl
theorem dV {a0:Option PV}: ∀(l:List Nat) (i:Int) (e:Bool) (n:Nat) (p2 p3:Option PV),∃Ui p3',eG (.many [2,3]) (λρ own=>ag Γ ix ρ own) (am i e l) [a0,H7 (.int n),p2,p3] []=
  (match cnt e n l with|some n'=>H7 (.next [a0,H7 (.int (n':Nat)),Ui,p3'] [])|none=>H7 (.ret (.bool Hb)))
 |[],i,e,n,p2,p3=>by
  rw [BR];unfold cnt;cases e with
  |false=>exact⟨p2,p3,rfl⟩
  |true=>
   refine⟨H7 (.int (i-1)),H7 (.str ⟨#[92]⟩), ?_⟩;rw [if_pos rfl,mB,lM (by decide) (by decide)]
   rfl
 |c::l,i,e,n,p2,p3=>by
  rw [pX];unfold cnt;cases e with
  |true=>
   obtain⟨q2,q3,h⟩:=dV l (i+1) Hb n (H7 (.int i)) (H7 (.str ⟨#[92,c]⟩));refine⟨q2,q3, ?_⟩;rw [if_pos rfl,if_pos rfl,mB,lM (by simp) (by simp)]
   exact h
  |false=>
   simp only [Ie,if_false];by_cases h92:c=92
   ·rw [if_pos h92,if_pos h92]
    exact dV l (i+1) Hd n p2 p3
   ·rw [if_neg h92,if_neg h92]
    by_cases h40:c=40
    ·subst h40
     obtain⟨q2,q3,h⟩:=dV l (i+1) Hb (n+1) (H7 (.int i)) (H7 (.str ⟨#[40]⟩));refine⟨q2,q3, ?_⟩;rw [if_pos rfl,mB,Bj];exact h
    ·rw [if_neg h40]
     by_cases h41:c=41
     ·subst h41
      rw [if_pos rfl];cases n with
      |zero=>
       refine⟨H9,H9, ?_⟩;rw [mB,Bi]
      |succ n=>
       obtain⟨q2,q3,h⟩:=dV l (i+1) Hb n (H7 (.int i)) (H7 (.str ⟨#[41]⟩));refine⟨q2,q3, ?_⟩;rw [mB,zp];exact h
     ·rw [if_neg h41]
      obtain⟨q2,q3,h⟩:=dV l (i+1) Hb n (H7 (.int i)) (H7 (.str ⟨#[c]⟩));refine⟨q2,q3, ?_⟩;rw [mB,lM (by simp [h40]) (by simp [h41])]
      exact h
theorem tO (hf:Γ.fn 0 [.str x]=H7 (.str ⟨(aH x.cps.toList).toArray⟩)) (hg: ∀y:HJ,y.cps.size<=x.cps.size->Γ.gn 0 [.str y]=H7 (am 0 Hb y.cps.toList)) (hl:(aH x.cps.toList).length<=x.cps.size):
  aE Γ 4 [0] ll [.str x]=H7 (.bool (dA x.cps.toList)):=by
 haveI P:ag Γ ll [H7 (.str x),H9,H9,H9] []=H7 (.ret (.bool (dA x.cps.toList))):=by
  rw [ll,aa (ρ':=[H7 (.str ⟨(aH x.cps.toList).toArray⟩),H9,H9,H9]) (Qb:=[]) (by show((Γ.fn 0 [.str x]).bind _).map _=_;rw [hf];rfl)]
  rw [aa (ρ':=[H7 (.str ⟨(aH x.cps.toList).toArray⟩),H7 (.int 0),H9,H9]) (Qb:=[]) rfl];obtain⟨p2,p3,h⟩:=dV (Γ:=Γ) (a0:=H7 (.str ⟨(aH x.cps.toList).toArray⟩)) (aH x.cps.toList) 0 Hb 0 H9 H9;haveI RD:pit Γ (.gen 0 [.var 0]) [H7 (.str ⟨(aH x.cps.toList).toArray⟩),H7 (.int 0),H9,H9]=H7 (am 0 Hb (aH x.cps.toList)):=hg ⟨(aH x.cps.toList).toArray⟩ (by simpa using hl)
  have TT:az Γ (.for_ (.many [2,3]) (.gen 0 [(.var 0)]) ix) [H7 (.str ⟨(aH x.cps.toList).toArray⟩),H7 (.int 0),H9,H9] []=(match cnt Hb 0 (aH x.cps.toList)with|some n'=>H7 (.next [H7 (.str ⟨(aH x.cps.toList).toArray⟩),H7 (.int (n':Nat)),p2,p3] [])|none=>H7 (.ret (.bool Hb))):=by show(pit Γ (.gen 0 [.var 0]) [H7 (.str ⟨(aH x.cps.toList).toArray⟩),H7 (.int 0),H9,H9]).bind _=_;rw [RD];exact h
  unfold dA;cases hc:cnt Hb 0 (aH x.cps.toList)with
  |none=>
   rw [hc]at TT;rw [ak TT]
   rfl
  |some n=>
   rw [hc]at TT;rw [aa TT];refine ak (aC ?_);show H7 (PV.bool (((n:Nat):Int)==0))=_
   congr 2
   cases n<;>rfl
 show((ag Γ ll [H7 (.str x),H9,H9,H9] []).bind _)=_;rw [P]
 rfl
end
abbrev sv (l:List Nat):PV:= .str ⟨l.toArray⟩
def pT:List Nat:=[40,39,39,44,32,39,39,41]
def uR:List PS:=[.ite (.not (.call 1 [(.var 2)])) [.set 2 0 (.cS ⟨#[40,39,39,44,32,39,39,41]⟩)] [],.app 1 0 (.var 2)]
def wh:List PS:=[.own 1 (.list []),.for_ (.one 2) (.ex (.var 0)) uR,.ret (.var 1)]
variable {ρ:Ρ} {ls:List (List Nat)}
section
theorem pW {x:Nat} {own:List Nat} (h:own.contains x=Hb):eG (.one x) f (a::xs) ρ own=
  (match f (ρ.set x (H7 a)) own with|some (.next ρ own)=>eG (.one x) f xs ρ own|some (.ret v)=>H7 (.ret v)|none=>H9):=by
 haveI e0:(ptIdx (.one x)).all (λi=> !own.contains i)=Hd:=by show(!own.contains x&&Hd)=Hd;rw [h];rfl
 show(if(ptIdx (.one x)).all (λi=> !own.contains i)=Hd then _ else H9)=_;rw [if_pos e0];show(f (ρ.set x (H7 a)) own).bind _=_;cases f (ρ.set x (H7 a)) own with
 |none=>rfl
 |some o=>cases o<;>rfl
def bT (l:List Nat):List Nat:=if dA l=Hd then l else pT
theorem qu {a0:Option PV}: ∀(ls:List (List Nat)) (Q8:List PV) (p2:Option PV),(∀l∈ls,Γ.fn 1 [sv l]=H7 (.bool (dA l)))->Q8.length+ls.length<1000->
  ∃Ui,eG (.one 2) (λρ own=>ag Γ uR ρ own) (ls.map sv) [a0,H7 (.list Q8),p2] [1]=H7 (.next [a0,H7 (.list (Q8++ls.map (λl=>sv (bT l)))),Ui] [1])
 |[],Q8,p2,_,_=>⟨p2,by rw [Ko,Ko,IS];rfl⟩
 |l::ls,Q8,p2,h,hl=>by
  haveI hz:Hz=2^24:=rfl;haveI hc:=h l Hs;have b:ag Γ uR [a0,H7 (.list Q8),H7 (sv l)] [1]=H7 (.next [a0,H7 (.list (Q8++[sv (bT l)])),H7 (sv (bT l))] [1]):=by
   haveI ht:aJ Γ (.not (.call 1 [(.var 2)])) [a0,H7 (.list Q8),H7 (sv l)]=H7 (!dA l):=by show(((Γ.fn 1 [sv l]).bind λv=>(ff v).bind λb=>H7 (PV.bool (!b)))).bind ff=_;rw [hc];rfl
   haveI s1:az Γ (.ite (.not (.call 1 [(.var 2)])) [.set 2 0 (.cS ⟨#[40,39,39,44,32,39,39,41]⟩)] []) [a0,H7 (.list Q8),H7 (sv l)] [1]=H7 (.next [a0,H7 (.list Q8),H7 (sv (bT l))] [1]):=by refine an ht ?_;unfold bT;cases dA l<;>rfl
   rw [uR,aa s1];haveI s2:az Γ (.app 1 0 (.var 2)) [a0,H7 (.list Q8),H7 (sv (bT l))] [1]=H7 (.next [a0,H7 (.list (Q8++[sv (bT l)])),H7 (sv (bT l))] [1]):=
    fF rfl rfl rfl (by simp at hl;lia)
   rw [aa s2]
   rfl
  obtain⟨Ui,ih⟩:=qu ls (Q8++[sv (bT l)]) (H7 (sv (bT l))) (λl' Ru=>h l' (Hq _ Ru)) (by simp at hl ⊢;exact Hk (Hu (HS _ _ _)) hl)
  refine⟨Ui, ?_⟩;rw [HI,pW rfl];show(match ag Γ uR [a0,H7 (.list Q8),H7 (sv l)] [1]with|some (.next ρ own)=>_|some (.ret v)=>_|none=>_)=_
  rw [b];show eG (.one 2) (λρ own=>ag Γ uR ρ own) (ls.map sv) [a0,H7 (.list (Q8++[sv (bT l)])),H7 (sv (bT l))] [1]=_;rw [ih,HI,HW]
  rfl
theorem yi (h: ∀l∈ls,Γ.fn 1 [sv l]=H7 (.bool (dA l))) (hl:ls.length<1000):aE Γ 3 [0] wh [.list (ls.map sv)]=H7 (.list (ls.map λl=>sv (bT l))):=by
 obtain⟨p2,hp⟩:=qu (Γ:=Γ) (a0:=H7 (.list (ls.map sv))) ls [] H9 h (by simpa using hl)
 haveI P:ag Γ wh [H7 (.list (ls.map sv)),H9,H9] []=H7 (.ret (.list (ls.map λl=>sv (bT l)))):=by
  rw [wh,aa (ρ':=[H7 (.list (ls.map sv)),H7 (.list []),H9]) (Qb:=[1]) rfl];rw [aa (ρ':=[H7 (.list (ls.map sv)),H7 (.list (ls.map λl=>sv (bT l))),p2]) (Qb:=[1]) ((eE rfl).trans hp)]
  rfl
 show((ag Γ wh [H7 (.list (ls.map sv)),H9,H9] []).bind _)=_;rw [P]
 rfl
end
def dP (l:List Nat):Prop:= ∀c∈l,c=40∨c=41
def dy:Nat->List Nat->Option Nat
 |n,[]=>H7 n
 |n,c::l=>if c=40 then dy (n+1) l else if c=41 then(match n with
  |0=>H9
  |n+1=>dy n l)else H9
theorem oX (n c:Nat) (l:List Nat):dy n (c::l)=if c=40 then dy (n+1) l else if c=41 then(match n with
  |0=>H9
  |n+1=>dy n l)else H9:=by cases n<;>rfl
theorem zo (e:Bool) (n c:Nat) (l:List Nat):cnt e n (c::l)=if e=Hd then cnt Hb n l else if c=92 then cnt Hd n l else if c=40 then cnt Hb (n+1) l else if c=41 then(match n with
  |0=>H9
  |n+1=>cnt Hb n l)else cnt Hb n l:=by cases n<;>rfl
theorem oj: ∀(A:List Nat) (n:Nat) (l:List Nat),dP A->cnt Hb n (A++l)=(dy n A).bind λn'=>cnt Hb n' l
 |[],n,l,_=>by cases l<;>rfl
 |c::A,n,l,h=>by
  have ih:=λn=>oj A n l (λx hx=>h x (Hq _ hx));rw [J5,zo,oX];rcases h c Hs with rfl|rfl
  ·simp only [Ie,if_false,if_true]
   rw [if_neg (by decide)]
   exact ih _
  ·simp only [Ie,if_false,if_true]
   rw [if_neg (by decide),if_neg (by decide),if_neg (by decide)]
   cases n with
   |zero=>rfl
   |succ n=>exact ih _
theorem jl: ∀(A:List Nat) (d a:List Nat) (b:Option (List Nat)),dP A->SM.run ⟨d,a,b,Hb⟩ A=(match b with|none=>⟨d,a++A,H9,Hb⟩|some b=>⟨d,a,H7 (b++A),Hb⟩)
 |[],d,a,b,_=>by cases b<;>simp [SM.run]
 |c::A,d,a,b,h=>by
  have hA:dP A:=λx hx=>h x (Hq _ hx);have hc:c≠92/\c≠34:=by rcases h c Hs with rfl|rfl<;>decide
  show SM.run (SM.step ⟨d,a,b,Hb⟩ c) A=_;cases b with
  |none=>
   have e:SM.step ⟨d,a,H9,Hb⟩ c=⟨d,a++[c],H9,Hb⟩:=by simp [SM.step,SM.put,hc]
   rw [e,jl A d (a++[c]) H9 hA];simp
  |some b=>
   haveI e:SM.step ⟨d,a,H7 b,Hb⟩ c=⟨d,a,H7 (b++[c]),Hb⟩:=by simp [SM.step,SM.put,hc]
   rw [e,jl A d a (H7 (b++[c])) hA];simp
theorem um (m:SM) (a b:List Nat):m.run (a++b)=(m.run a).run b:=by simp [SM.run]
def hiddenL:List (List Nat):=[[],[92,41],[34,40,34],[34,92,34,41,34],[92,92],[97],[92,34],[34]]
def gr (h:List Nat):List Nat:=if h=[34,40,34]∨h=[34,92,34,41,34]then []else h
variable {A:List Nat}
theorem Bh (hA:dP A):dA A=(dy 0 A==H7 0):=by
 unfold dA aH;rw [jl A [] [] H9 hA];show(cnt Hb 0 ([]++([]++A)++[])==H7 0)=_;have:=oj A 0 [] hA;simp only [IS,Jd]at this ⊢
 rw [this];cases dy 0 A<;>rfl
theorem sq: ∀(A B:List Nat) (n:Nat),dy n (A++B)=(dy n A).bind λn'=>dy n' B
 |[],B,n=>rfl
 |c::A,B,n=>by
  rw [J5,oX,oX];split
  ·exact sq A B _
  ·split
   ·cases n with
    |zero=>rfl
    |succ n=>exact sq A B _
   ·rfl
theorem Bg (n:Nat) (hA:dP A):cnt Hb n A=dy n A:=by have:=oj A n [] hA;rw [IS]at this;rw [this];cases dy n A<;>rfl
variable {h C:List Nat}
theorem mT (hA:dP A) (hh:h∈hiddenL) (hC:dP C):aH (A++h++C)=A++gr h++C:=by
 unfold aH;rw [um,um,jl A [] [] H9 hA];show(SM.run (SM.run ⟨[],[]++A,H9,Hb⟩ h) C).fin=_;have pl: ∀d a,(SM.run ⟨d,a,H9,Hb⟩ C).fin=d++(a++C):=λd a=>by rw [jl C d a H9 hC];exact IS _
 simp only [hiddenL,Hp,HF,or_false]at hh;rcases hh with rfl|rfl|rfl|rfl|rfl|rfl|rfl|rfl
 ·exact(pl [] A).trans (by simp [gr])
 ·exact(pl [] (A++[92]++[41])).trans (by simp [gr])
 ·exact(pl A []).trans (by simp [gr])
 ·exact(pl A []).trans (by simp [gr])
 ·exact(pl [] (A++[92]++[92])).trans (by simp [gr])
 ·exact(pl [] (A++[97])).trans (by simp [gr])
 ·exact(pl [] (A++[92]++[34])).trans (by simp [gr])
 ·show(SM.run ⟨[],A,H7 [34],Hb⟩ C).fin=_
  rw [jl C [] A (H7 [34]) hC];simp [SM.fin,gr]
theorem wb (hh:h∈hiddenL) (n:Nat) (l:List Nat):cnt Hb n (gr h++l)=cnt Hb n l:=by simp only [hiddenL,Hp,HF,or_false]at hh;rcases hh with rfl|rfl|rfl|rfl|rfl|rfl|rfl|rfl<;>rfl
theorem pg (hA:dP A) (hh:h∈hiddenL) (hC:dP C):dA (A++h++C)=(dy 0 (A++C)==H7 0):=by
 unfold dA;rw [mT hA hh hC,HW,oj A 0 _ hA,sq A C]
 congr 1
 cases dy 0 A with
 |none=>rfl
 |some n=>exact(wb hh n C).trans (Bg n hC)
variable {k:Nat} {v:PV}
section
theorem tV {a b:Int} (hb:b≠0) (h:b.natAbs.log2<9000):eg .FloorDiv (.int a) (.int b)=H7 (.int (a.fdiv b)):=if_pos ⟨hb,PyProof.noPylong_of_log2 h⟩
theorem jR {a b:Int} (hb:b≠0):eg .Mod (.int a) (.int b)=H7 (.int (a.fmod b)):=if_pos hb
def nX:List PS:=[.set 3 0 (.bin .Add (.cI 1) (.bin .Mod (.var 1) (.bin .Sub (.bi .len [(.var 0)]) (.cI 1)))),.set 4 0 (.idx (.list [(.cS ⟨#[]⟩),(.cS ⟨#[92,41]⟩),(.cS ⟨#[34,40,34]⟩),(.cS ⟨#[34,92,34,41,34]⟩),(.cS ⟨#[92,92]⟩),(.cS ⟨#[97]⟩),(.cS ⟨#[92,34]⟩),(.cS ⟨#[34]⟩)]) (.bin .Mod (.var 2) (.cI 8))),.ret (.bin .Add (.bin .Add (.listOf (.slice (.var 0) .cN (.var 3) .cN)) (.list [(.var 4)])) (.listOf (.slice (.var 0) (.var 3) .cN .cN)))]
def one (l:List Nat):List (List Nat):=l.map λc=>[c]
def aV (row:List Nat) (f:Nat) (h:List Nat):List (List Nat):=one (row.take f)++[h]++one (row.drop f)
theorem iR (l:List Nat):(one l).length=l.length:=by simp [one]
theorem m3 (l:List Nat) (h:l.length<=Hz):lm (sv l)=H7 (.list ((one l).map sv)):=by
 haveI e:(gq ⟨l.toArray⟩).map PV.str=(one l).map sv:=by unfold gq one;simp
 exact(eA h).trans (congrArg (λx=>H7 (PV.list x)) e)
theorem i0 {ys:List PV} (h:xs.length+ys.length<=Hz):eg .Add (.list xs) (.list ys)=H7 (.list (xs++ys)):=if_pos (by rw [Hn];exact h)
theorem Ea {a:Nat} (ha:a<=l.length) (hx:l.length<=Hz):bz (sv l) (.int a) .none .none=H7 (sv (l.drop a)):=Bz (x:=⟨l.toArray⟩) ha hx
theorem Gg {b:Nat} (hb:b<=l.length) (hx:l.length<=Hz):bz (sv l) .none (.int b) .none=H7 (sv (l.take b)):=by
 have:=rX (x:=⟨l.toArray⟩) (IH b) hb hx;rw [KM,Nat.sub_zero]at this;rw [<-this];show(if(1:Int)=0∨Hz<(Jb H9 (H7 (b:Int)) 1 l.length).length then H9 else H7 (PV.str (if((1:Int)==1&&(Jb H9 (H7 (b:Int)) 1 l.length).length==l.length)=Hd then⟨l.toArray⟩else⟨((Jb H9 (H7 (b:Int)) 1 l.length).filterMap ((⟨l.toArray⟩:HJ).cps[·]?)).toArray⟩)))=_
 rw [BF]
 rfl
theorem eD (h:xs[k]? =H7 v) (hl:xs.length<=1000000):gi (.list xs) (.int k)=H7 v:=by
 haveI hk:k<xs.length:=(K0.mp h).1;haveI e:Ls (k:Int) xs.length=H7 k:=by
  unfold Ls;simp only;rw [if_neg (show¬((k:Int)<0)by exact Kk (HA _))]
  simp;exact hk
 show(Ls (k:Int) xs.length).bind _=_;rw [e,Je,if_pos (by exact EG (Hk (H8 (HP hk) hl) (by decide))),h]
theorem EU {L:List (List Nat)} (hL:L.length<=1000000) (h:n<L.length): ∃c∈L,gi (.list (L.map sv)) (.int n)=H7 (sv c):=
 ⟨L[n],Kh h,eD (by rw [HQ,HB h];rfl) (by rw [Hf];exact hL)⟩
theorem EV {i:Int} (h0:0<=i) (h1:i<8): ∃c∈hiddenL,gi (.list (hiddenL.map sv)) (.int i)=H7 (sv c):=by obtain⟨n,rfl⟩:=I' h0;exact EU (by decide) (Ks.mp h1)
theorem sX {row:List Nat} (hr:2<=row.length) (TF:row.length<=1000) (pl pc:Int): ∃f h,1<=f/\f<row.length/\h∈hiddenL/\
  aE Γ 5 [0,1,2] nX [sv row,.int pl,.int pc]=H7 (.list ((aV row f h).map sv)):=by
 have Q7:pbi .len [sv row]=H7 (.int row.length):=gB (x:=⟨row.toArray⟩) (by show row.length<2^62;exact Hk TF (by decide))
 obtain⟨f,hf⟩: ∃f:Nat,(f:Int)=1+pl.fmod ((row.length:Int)-1):=⟨(1+pl.fmod ((row.length:Int)-1)).toNat,by have:=JO pl (b:=(row.length:Int)-1) (by lia);exact KY (Int.add_nonneg (by decide) this)⟩
 have WV:1<=f/\f<row.length:=by
  haveI h1:=JO pl (b:=(row.length:Int)-1) (by lia)
  haveI h2:=Lc pl (b:=(row.length:Int)-1) (by lia)
  lia
 obtain⟨h,hh,hph⟩:=EV (JO pc (b:=8) (by decide)) (Lc pc (by decide))
 refine⟨f,h,WV.1,WV.2,hh, ?_⟩;haveI P:ag Γ nX [H7 (sv row),H7 (.int pl),H7 (.int pc),H9,H9] []=H7 (.ret (.list ((aV row f h).map sv))):=by
  haveI L2:pev Γ (.bin .Add (.cI 1) (.bin .Mod (.var 1) (.bin .Sub (.bi .len [(.var 0)]) (.cI 1)))) [H7 (sv row),H7 (.int pl),H7 (.int pc),H9,H9]=H7 (.int f):=by rw [hf];exact af rfl (af rfl (af (show pev Γ (.bi .len [.var 0]) _=_ from Q7) rfl rfl) (jR (by lia))) rfl
  rw [nX,aa (au L2)];rw [aa (ρ':=[H7 (sv row),H7 (.int pl),H7 (.int pc),H7 (.int f),H7 (sv h)]) (Qb:=[]) (au (v:=sv h) (by
   show((eg .Mod (.int pc) (.int 8)).bind λi=>gi (.list (hiddenL.map sv)) i)=_;rw [jR (by decide)]
   exact hph))]
  refine ak (aC ?_);haveI A1:pev Γ (.listOf (.slice (.var 0) .cN (.var 3) .cN)) [H7 (sv row),H7 (.int pl),H7 (.int pc),H7 (.int f),H7 (sv h)]=H7 (.list ((one (row.take f)).map sv)):=by
   show(bz (sv row) .none (.int f) .none).bind lm=_;rw [Gg (by exact HP WV.2) (by exact H8 TF (by decide))]
   exact m3 _ (by simp;exact H8 (MI _ _) (H8 TF (by decide)))
  haveI A3:pev Γ (.listOf (.slice (.var 0) (.var 3) .cN .cN)) [H7 (sv row),H7 (.int pl),H7 (.int pc),H7 (.int f),H7 (sv h)]=H7 (.list ((one (row.drop f)).map sv)):=by
   show(bz (sv row) (.int f) .none .none).bind lm=_;rw [Ea (by exact HP WV.2) (by exact H8 TF (by decide))]
   exact m3 _ (by simp;exact HN (H8 TF (by decide)))
  have l1:(one (row.take f)).length<=1000:=by rw [iR];simp;exact H8 (MI _ _) TF
  haveI l3:(one (row.drop f)).length<=1000:=by rw [iR];simp;exact HN TF
  refine(af (af A1 (b:= .list [sv h]) rfl (i0 ?_)) A3 (i0 ?_)).trans ?_
  ·simp only [Hf,Hv,I0];exact HM (H8 l1 (by decide))
  ·simp only [Hn,Hf,Hv,I0];exact H8 (HE (HE l1 (Hm _)) l3) (by decide)
  ·simp [aV]
 show((ag Γ nX [H7 (sv row),H7 (.int pl),H7 (.int pc),H9,H9] []).bind _)=_;rw [P]
 rfl
end
variable {e Qv:PE} {G:PV->List PV} {Qi:List Nat} {us:List (List Nat)}
section
theorem fW {b:Bool} (h:pev Γ e ρ=H7 v) (ht:ff v=H7 b):cr Γ [e] ρ=H7 b:=by
 show(pev Γ e ρ).bind (λv=>(ff v).bind λt=>match t with|true=>H7 Hd|false=>H7 Hb)=_
 rw [h];show(ff v).bind _=_;rw [ht];cases b<;>rfl
theorem lY {F:List PV->PV->Option (List PV)}: ∀(xs Q8:List PV),(∀x∈xs,∀Q8,F Q8 x=H7 (Q8++G x))->xs.foldlM F Q8=H7 (Q8++xs.flatMap G)
 |[],Q8,_=>by simp
 |x::xs,Q8,h=>by rw [JQ,h x Hs];show xs.foldlM F (Q8++G x)=_;rw [lY xs _ λy hy=>h y (Hq _ hy)];simp
theorem jC {t:PT} {it:PI} {ifs:List PE} (h:pit Γ it ρ=H7 xs)
  (hs: ∀x∈xs,∃ρ',aX (aw ρ Qi) t x=H7 ρ'/\((cr Γ ifs ρ'=H7 Hd/\ ∃y,pev Γ Qv ρ'=H7 y/\G x=[y])∨(cr Γ ifs ρ'=H7 Hb/\G x=[])))
  (hl:(xs.flatMap G).length<=Hz):pev Γ (.comp1 Qi t it ifs Qv) ρ=H7 (.list (xs.flatMap G)):=by
 show(pit Γ it ρ).bind (λxs=>(xs.foldlM (λQ8 x=>do
   let ρ'<-aX (aw ρ Qi) t x
   match<-cr Γ ifs ρ' with
   |true=>do let y<-pev Γ Qv ρ';H7 (Q8++[y])
   |false=>H7 Q8) []).bind b_)=_
 rw [h];show Option.bind (xs.foldlM (m:=Option) _ []) b_=_;rw [lY (G:=G) xs [] (λx hx Q8=> ?_)]
 ·rw [Jd]
  exact if_pos hl
 ·obtain⟨ρ',hb,h1⟩:=hs x hx
  rw [hb];rcases h1 with⟨ht,y,hy,hG⟩|⟨ht,hG⟩
  ·show(cr Γ ifs ρ').bind _=_
   rw [ht];show(pev Γ Qv ρ').bind _=_;rw [hy,hG]
   rfl
  ·show(cr Γ ifs ρ').bind _=_
   rw [ht,hG,IS]
   rfl
def isB (u:List Nat):Bool:=u==[40]||u==[41]
def bd (us:List (List Nat)):List Nat:=(us.filter isB).flatten
theorem nY {a b:List Nat} (h:(⟨a.toArray⟩:HJ)=⟨b.toArray⟩):a=b:=by have:=congrArg (λx:HJ=>x.cps.toList) h;simpa using this
theorem gu (a b:List Nat):((⟨a.toArray⟩:HJ)==⟨b.toArray⟩)=(a==b):=by
 by_cases h:a=b
 ·rw [h];simp
 ·haveI: ¬((⟨a.toArray⟩:HJ)=⟨b.toArray⟩):=λq=>h (nY q)
  rw [beq_eq_false_iff_ne.mpr this,beq_eq_false_iff_ne.mpr h]
theorem tM (us:List (List Nat)) (p:List Nat->Bool):((us.map sv).flatMap λx=>match x with| .str y=>if p y.cps.toList=Hd then [.str y]else []|_=>[])=(us.filter p).map sv:=by
 induction us with
 |nil=>rfl
 |cons u us ih=>
  rw [HI,Mj,ih];show(if p u=Hd then [sv u]else [])++_=_;by_cases h:p u=Hd
  ·rw [if_pos h,Jg h];rfl
  ·rw [if_neg h,Jh h];rfl
theorem Fk {u:List Nat}:pin (sv u) (.list [sv [40],sv [41]])=H7 (isB u):=by
 show H7 ([(⟨#[40]⟩:HJ),⟨#[41]⟩].contains ⟨u.toArray⟩)=_;unfold isB
 congr 1
 simp only [M8,P_,Nj];rw [<-gu,<-gu]
theorem qV {l:List (List Nat)}:((l.filter isB).flatten).length<=l.length:=by
 induction l with
 |nil=>exact Hm _
 |cons u l ih=>
  by_cases h:isB u=Hd
  ·rw [Jg h,JF,Hn]
   have:u.length=1:=by rcases Nd.mp h with q|q<;>(rw [beq_iff_eq.mp q];rfl)
   simp only [Hv];lia
  ·rw [Jh h]
   exact NB ih
theorem nG {it:PI} {a b c d e f g:Option PV} (h:pit Γ it [a,b,c,d,e,f,g]=H7 (us.map sv)) (hl:us.length<=1000):
  pev Γ (.comp1 [5,6] (.one 6) it [(.cmp .In (.var 6) (.list [(.cS ⟨#[40]⟩),(.cS ⟨#[41]⟩)]))] (.var 6)) [a,b,c,d,e,f,g]=H7 (.list (cM (us.filter isB))):=by
 have e:=tM us isB;show _=H7 (PV.list ((us.filter isB).map sv));rw [<-e];refine jC (xs:=us.map sv) h (λx hx=> ?_) (by rw [e,Hf];exact H8 (H8 (Lz _ _) hl) (by decide))
 obtain⟨u,hu,rfl⟩:=HC.mp hx;refine⟨[a,b,c,d,_,H9,H7 (sv u)],rfl, ?_⟩;have ht: ∀e',cr Γ [(.cmp .In (.var 6) (.list [(.cS ⟨#[40]⟩),(.cS ⟨#[41]⟩)]))] [a,b,c,d,e',H9,H7 (sv u)]=H7 (isB u):=λe'=>by
  refine fW (v:= .bool (isB u)) ?_ rfl;show(pin (sv u) (.list [sv [40],sv [41]])).map PV.bool=_;rw [Fk]
  rfl
 cases hb:isB u with
 |true=>exact .inl ⟨by rw [ht,hb],sv u,rfl,by show(if isB u=Hd then _ else _)=_;rw [if_pos hb]⟩
 |false=>exact .inr ⟨by rw [ht,hb],by show(if isB u=Hd then _ else _)=_;rw [if_neg (by rw [hb];decide)]⟩
end
section
theorem e8 {l h:PV} {lo hi:Option Int} (hl:kj l=H7 lo) (hh:kj h=H7 hi) (hx:xs.length<=Hz):bz (.list xs) l h .none=H7 (.list (eZ xs lo hi H9)):=by show((kj l).bind λl=>(kj h).bind λh=>(kj .none).bind λs=>if s=H7 0∨Hz<xs.length then H9 else H7 (PV.list (eZ xs l h s)))=_;rw [hl,hh];show(if(H9:Option Int)=H7 0∨Hz<xs.length then H9 else H7 (PV.list (eZ xs lo hi H9)))=_;rw [if_neg (by simp;exact hx)]
theorem iy: ∀(n k:Nat),(fh (k:Int) n).map PV.int=(Ir k n).map λi=>PV.int (i:Nat)
 |0,k=>rfl
 |n+1,k=>by
  rw [fh,My,HI,HI];have:=iy n (k+1);rw [show((k+1:Nat):Int)=(k:Int)+1 by push_cast;rfl]at this
  rw [this]
theorem oE {a b:PE} {m:Nat} (ha:pev Γ a ρ=H7 (.int m)) (hb:pev Γ b ρ=H7 (.int n)) (hn:n<=1000000) (hm:m<=1000000):pit Γ (.ex (.rng [a,b])) ρ=H7 ((Ir m (n-m)).map λi=>PV.int (i:Nat)):=by
 haveI e:di (m:Int) (n:Int)=H7 ((Ir m (n-m)).map λi=>PV.int (i:Nat)):=by unfold di;rw [if_pos (by exact BW hm hn),show((n:Int)-(m:Int)).toNat=n-m by exact Int.toNat_sub _ _,iy]
 show((cE Γ [a,b] ρ).bind gX).bind bK=_;rw [ac ha (ac hb rfl)];exact e
def pR:List PS:=[.ite (.cmp .Eq (.idx (.var 0) (.var 1)) (.cS ⟨#[41]⟩)) [.set 2 0 (.call 1 [(.meth .join (.cS ⟨#[]⟩) [(.slice (.var 0) .cN (.bin .Add (.var 1) (.cI 1)) .cN)])]),.ite (.cmp .Is (.var 2) (.cB Hd)) [.set 3 0 (.comp1 [5,6] (.one 6) (.ex (.slice (.var 0) (.cI 1) (.var 1) .cN)) [(.cmp .In (.var 6) (.list [(.cS ⟨#[40]⟩),(.cS ⟨#[41]⟩)]))] (.var 6)),.set 4 0 (.comp1 [5,6] (.one 6) (.ex (.slice (.var 0) (.bin .Add (.var 1) (.cI 1)) .cN .cN)) [(.cmp .In (.var 6) (.list [(.cS ⟨#[40]⟩),(.cS ⟨#[41]⟩)]))] (.var 6)),.ret (.bin .Add (.bin .Add (.bin .Add (.meth .join (.cS ⟨#[]⟩) [(.var 3)]) (.cS ⟨#[40]⟩)) (.meth .join (.cS ⟨#[]⟩) [(.var 4)])) (.cS ⟨#[41]⟩))] [],.ite (.cmp .IsNot (.var 2) (.cB Hb)) [.ret (.cS ⟨#[]⟩)] []] []]
def tS:List PS:=[.for_ (.one 1) (.ex (.rng [(.cI 1),(.bi .len [(.var 0)])])) pR,.ret (.cS ⟨#[]⟩)]
def pf (us:List (List Nat)):List Nat->Option (List Nat×List Nat)
 |[]=>H9
 |k::ks=>if us[k]? =H7 [41]/\dA (us.take (k+1)).flatten=Hd then H7 (bd ((us.take k).drop 1),bd (us.drop (k+1)))else pf us ks
theorem Ee {ks:List Nat}:pf us (k::ks)=if us[k]? =H7 [41]/\dA (us.take (k+1)).flatten=Hd then H7 (bd ((us.take k).drop 1),bd (us.drop (k+1)))else pf us ks:=rfl
theorem uh (us:List (List Nat)) (k:Nat):(us.map sv).take k=(us.take k).map sv:=by rw [Mo]
theorem dC {a b:PE} {x y:List Nat} (ha:pev Γ a ρ=H7 (sv x)) (hb:pev Γ b ρ=H7 (sv y)) (h:x.length+y.length<=1000000):pev Γ (.bin .Add a b) ρ=H7 (sv (x++y)):=by
 haveI hz:Hz=2^24:=rfl;refine af ha hb ?_;show(if(⟨x.toArray⟩:HJ).length+(⟨y.toArray⟩:HJ).length<=Hz then H7 (PV.str (⟨x.toArray⟩++⟨y.toArray⟩))else H9)=_;rw [if_pos (by simp [JX];exact H8 h (by decide))]
 congr 2
 apply Str.ext';apply Q3.mp;show(x.toArray++y.toArray).toList=(x++y).toArray.toList;simp
theorem gE (h:pev Γ e ρ=H7 (.list (cM rs))) (hl:rs.flatten.length<=Hz):pev Γ (.meth .join (.cS ⟨#[]⟩) [e]) ρ=H7 (sv rs.flatten):=by show(cE Γ [e] ρ).bind (λvs=>pme .join (.str ⟨#[]⟩) vs)=_;rw [ac h rfl];exact fH hl
theorem v7 (h1: ∀l:List Nat,l.length<=2000->Γ.fn 1 [sv l]=H7 (.bool (dA l)))
  (hl:us.length<=1000) (Rq:us.flatten.length<=2000) (S_:1<=k) (hk:k<us.length): ∃Ui,ag Γ pR [H7 (.list (us.map sv)),H7 (.int k),p2,H9,H9,H9,H9] []=
   if us[k]? =H7 [41]/\dA (us.take (k+1)).flatten=Hd then H7 (.ret (sv (bd ((us.take k).drop 1)++[40]++bd (us.drop (k+1))++[41])))else H7 (.next [H7 (.list (us.map sv)),H7 (.int k),Ui,H9,H9,H9,H9] []):=by
 obtain⟨u,hu⟩: ∃u,us[k]? =H7 u:=⟨us[k],HB hk⟩;haveI hpx:gi (.list (us.map sv)) (.int k)=H7 (sv u):=eD (by rw [HQ,hu];rfl) (by rw [Hf];exact H8 hl (by decide))
 have ht:aJ Γ (.cmp .Eq (.idx (.var 0) (.var 1)) (.cS ⟨#[41]⟩)) [H7 (.list (us.map sv)),H7 (.int k),p2,H9,H9,H9,H9]=H7 (u==[41]):=by
  haveI:pev Γ (.cmp .Eq (.idx (.var 0) (.var 1)) (.cS ⟨#[41]⟩)) [H7 (.list (us.map sv)),H7 (.int k),p2,H9,H9,H9,H9]=H7 (.bool (u==[41])):=by show((gi (.list (us.map sv)) (.int k)).bind λa=>(gp .Eq a (sv [41])).map PV.bool)=_;rw [hpx];show H7 (PV.bool ((⟨u.toArray⟩:HJ)==⟨[41].toArray⟩))=_;rw [gu]
  show(pev Γ _ _).bind ff=_;rw [this];rfl
 by_cases h41:u=[41]
 ·subst h41
  have VB:(us.take (k+1)).flatten.length<=2000:=by
   haveI:us.flatten=(us.take (k+1)).flatten++(us.drop (k+1)).flatten:=by rw [<-Jn,IF]
   rw [this,Hn]at Rq;exact Ii Rq
  have SJ:az Γ (.set 2 0 (.call 1 [(.meth .join (.cS ⟨#[]⟩) [(.slice (.var 0) .cN (.bin .Add (.var 1) (.cI 1)) .cN)])])) [H7 (.list (us.map sv)),H7 (.int k),p2,H9,H9,H9,H9] []=H7 (.next [H7 (.list (us.map sv)),H7 (.int k),H7 (.bool (dA (us.take (k+1)).flatten)),H9,H9,H9,H9] []):=by
   refine au (aq (vs:=[sv (us.take (k+1)).flatten]) (ac ?_ rfl) (h1 _ VB));haveI hs:bz (.list (us.map sv)) .none (.int ((k+1:Nat):Int)) .none=H7 (.list (cM (us.take (k+1)))):=by
    rw [e8 (lo:=H9) (hi:=H7 ((k+1:Nat):Int)) rfl rfl (by rw [Hf];exact H8 hl (by decide)),nZ _ (by rw [Hf];exact hk),uh]
    rfl
   show((bz (.list (us.map sv)) .none (.int ((k+1:Nat):Int)) .none).bind λv=>H7 [v]).bind (λvs=>pme .join (.str ⟨#[]⟩) vs)=_;rw [hs];exact fH (by exact H8 VB (by decide))
  cases hc:dA (us.take (k+1)).flatten with
  |true=>
   rw [hc]at SJ;refine⟨H9, ?_⟩;rw [if_pos ⟨hu,rfl⟩];refine ak (an ht ?_);rw [if_pos (by simp),aa SJ]
   refine ak (an (t:=Hd) rfl ?_);rw [if_pos rfl];have UR:pit Γ (.ex (.slice (.var 0) (.cI 1) (.var 1) .cN)) [H7 (.list (us.map sv)),H7 (.int k),H7 (.bool Hd),H9,H9,H9,H9]=H7 (((us.take k).drop 1).map sv):=by
    show(bz (.list (us.map sv)) (.int ((1:Nat):Int)) (.int k) .none).bind bK=_;rw [e8 (lo:=H7 ((1:Nat):Int)) (hi:=H7 (k:Int)) rfl rfl (by rw [Hf];exact H8 hl (by decide)),oF _ S_ (by rw [Hf];exact HP hk)]
    show H7 _=_;rw [Nh,Mo,<-List.drop_take]
   rw [aa (ρ':=[H7 (.list (us.map sv)),H7 (.int k),H7 (.bool Hd),H7 (.list (cM (((us.take k).drop 1).filter isB))),H9,H9,H9]) (Qb:=[]) (au (nG UR (by simp;exact H8 (MI _ _) (H8 hl (by decide)))))]
   have XE: ∀q,pit Γ (.ex (.slice (.var 0) (.bin .Add (.var 1) (.cI 1)) .cN .cN)) [H7 (.list (us.map sv)),H7 (.int k),H7 (.bool Hd),q,H9,H9,H9]=H7 ((us.drop (k+1)).map sv):=λq=>by
    show(bz (.list (us.map sv)) (.int ((k+1:Nat):Int)) .none .none).bind bK=_;rw [e8 (lo:=H7 ((k+1:Nat):Int)) (hi:=H9) rfl rfl (by rw [Hf];exact H8 hl (by decide)),rZ _ (by rw [Hf];exact hk),Nh]
    rfl
   rw [aa (ρ':=[H7 (.list (us.map sv)),H7 (.int k),H7 (.bool Hd),H7 (.list (cM (((us.take k).drop 1).filter isB))),H7 (.list (cM ((us.drop (k+1)).filter isB))),H9,H9]) (Qb:=[]) (au (nG (XE _) (by simp;exact HN hl)))]
   have b1: ∀n,bd ((us.take k).drop 1)=n->n.length<=2000:=λn e=>by rw [<-e];exact H8 qV (by simp;lia)
   have b2: ∀n,bd (us.drop (k+1))=n->n.length<=2000:=λn e=>by rw [<-e];exact H8 qV (by simp;lia)
   have l1:=b1 _ rfl;have l2:=b2 _ rfl;refine ak (aC ?_);refine dC (y:=[41]) (dC (dC (y:=[40]) (gE rfl (by exact H8 l1 (by decide))) rfl (by simp only [Hv,I0];exact H8 (HM l1) (by decide))) (gE rfl (by exact H8 l2 (by decide))) ?_) rfl ?_
   ·simp only [Hn,Hv,I0]
    exact H8 (HE (HM l1) l2) (by decide)
   ·simp only [Hn,Hv,I0]
    exact H8 (HM (HE (HM l1) l2)) (by decide)
  |false=>
   rw [hc]at SJ;refine⟨H7 (.bool Hb), ?_⟩;rw [if_neg (by simp)]
   refine(aa (ρ':=[H7 (.list (us.map sv)),H7 (.int k),H7 (.bool Hb),H9,H9,H9,H9]) (Qb:=[]) (an ht ?_)).trans rfl;rw [if_pos (by simp),aa SJ]
   rfl
 ·refine⟨p2, ?_⟩
  rw [if_neg (by rw [hu];simp [h41])]
  refine(aa (ρ':=[H7 (.list (us.map sv)),H7 (.int k),p2,H9,H9,H9,H9]) (Qb:=[]) (an ht ?_)).trans rfl;rw [if_neg (by simpa using h41)]
  rfl
theorem mL (h1: ∀l:List Nat,l.length<=2000->Γ.fn 1 [sv l]=H7 (.bool (dA l)))
  (hl:us.length<=1000) (Rq:us.flatten.length<=2000): ∀(ks:List Nat) (p1 p2:Option PV),(∀k∈ks,1<=k/\k<us.length)-> ∃q1 q2,
   eG (.one 1) (λρ own=>ag Γ pR ρ own) (ks.map λi=>PV.int (i:Nat)) [H7 (.list (us.map sv)),p1,p2,H9,H9,H9,H9] []=
    (match pf us ks with|some (a,b)=>H7 (.ret (sv (a++[40]++b++[41])))|none=>H7 (.next [H7 (.list (us.map sv)),q1,q2,H9,H9,H9,H9] []))
 |[],p1,p2,_=>⟨p1,p2,rfl⟩
 |k::ks,p1,p2,hk=>by
  obtain⟨q,hb⟩:=v7 (p2:=p2) h1 hl Rq (hk k Hs).1 (hk k Hs).2;obtain⟨q1,q2,ih⟩:=mL h1 hl Rq ks (H7 (.int k)) q (λk' QO=>hk k' (Hq _ QO));refine⟨q1,q2, ?_⟩;rw [HI,pW rfl];show(match ag Γ pR [H7 (.list (us.map sv)),H7 (.int k),p2,H9,H9,H9,H9] []with|some (.next ρ own)=>_|some (.ret v)=>_|none=>_)=_
  rw [hb,Ee];by_cases hc:us[k]? =H7 [41]/\dA (us.take (k+1)).flatten=Hd
  ·rw [if_pos hc,if_pos hc]
  ·rw [if_neg hc,if_neg hc]
   exact ih
def kV (us:List (List Nat)):List Nat:=match pf us (Ir 1 (us.length-1))with
 |some (a,b)=>a++[40]++b++[41]
 |none=>[]
theorem v6 (h1: ∀l:List Nat,l.length<=2000->Γ.fn 1 [sv l]=H7 (.bool (dA l)))
  (hl:us.length<=1000) (Rq:us.flatten.length<=2000):aE Γ 7 [0] tS [.list (us.map sv)]=H7 (sv (kV us)):=by
 obtain⟨q1,q2,Vb⟩:=mL h1 hl Rq (Ir 1 (us.length-1)) H9 H9 (λk hk=>by rw [Mi]at hk;exact aRg hk)
 haveI hp:pit Γ (.ex (.rng [(.cI 1),(.bi .len [(.var 0)])])) [H7 (.list (us.map sv)),H9,H9,H9,H9,H9,H9]=H7 ((Ir 1 (us.length-1)).map λi=>PV.int (i:Nat)):=by
  refine oE (m:=1) (n:=us.length) rfl ?_ (by exact H8 hl (by decide)) (by decide)
  have:=dk (xs:=us.map sv) (by rw [Hf];exact Hk hl (by decide))
  rw [Hf]at this;exact this
 haveI P:ag Γ tS [H7 (.list (us.map sv)),H9,H9,H9,H9,H9,H9] []=H7 (.ret (sv (kV us))):=by
  have hf:=(eE (Γ:=Γ) (pt:= .one 1) (body:=pR) (own:=[]) (ρ:=[H7 (.list (us.map sv)),H9,H9,H9,H9,H9,H9]) hp).trans Vb;unfold kV;cases e:pf us (Ir 1 (us.length-1))with
  |none=>
   rw [e]at hf;rw [tS,aa hf]
   rfl
  |some x=>
   obtain⟨a,b⟩:=x;rw [e]at hf;exact ak hf
 show((ag Γ tS [H7 (.list (us.map sv)),H9,H9,H9,H9,H9,H9] []).bind _)=_;rw [P]
 rfl
end
def fb:List Nat->List Nat->Option (List Nat×List Nat)
 |_,[]=>H9
 |p,x::r=>if x=41/\(dy 0 (p++[x])==H7 0)=Hd then H7 (p.tail,r)else fb (p++[x]) r
theorem eP (a b:List (List Nat)):bd (a++b)=bd a++bd b:=by simp [bd]
theorem gI (h:dP A):bd (one A)=A:=by
 induction A with
 |nil=>rfl
 |cons c A ih=>
  haveI hc:isB [c]=Hd:=by rcases h c Hs with rfl|rfl<;>rfl
  show bd ([c]::one A)=_;unfold bd;rw [Jg hc,JF];have:=ih λx hx=>h x (Hq _ hx);unfold bd at this;rw [this]
  rfl
theorem gH (A:List Nat):(one A).flatten=A:=by
 induction A with
 |nil=>rfl
 |cons c A ih=>
  show([c]::one A).flatten=_;rw [JF,ih];rfl
theorem BB (h0:us[0]? =H7 [40]) (hp: ∀m,1<=m->m<=us.length->dA (us.take m).flatten=(dy 0 (bd (us.take m))==H7 0)): ∀(n k:Nat),1<=k->k+n=us.length->pf us (Ir k n)=fb (bd (us.take k)) (bd (us.drop k))
 |0,k,h1,h2=>by
  have:us.drop k=[]:=IQ (by exact Hu (IW h2))
  rw [this];rfl
 |n+1,k,h1,h2=>by
  have hk:k<us.length:=by exact Ha (J8 (HD _ _)) (Hu h2)
  have ih:=BB h0 hp n (k+1) (by exact Iy _ _) (by exact PH (HS _ _ _) h2)
  have hg:us[k]? =H7 us[k]:=HB hk;have ht:us.take (k+1)=us.take k++[us[k]]:=by rw [Li hk]
  have hd:us.drop k=us[k]::us.drop (k+1):=Js hk;have hb: ∀u,bd [u]=if isB u=Hd then u else []:=by
   intro u;unfold bd;by_cases h:isB u=Hd
   ·rw [if_pos h,Jg h];simp
   ·rw [if_neg h,Jh h];rfl
  have hd2:bd (us.drop k)=bd [us[k]]++bd (us.drop (k+1)):=by rw [hd,<-eP];rfl
  rw [My,Ee,hg,hp (k+1) (by exact Iy _ _) (by exact hk),ih,hd2,ht,eP,hb]
  generalize us[k]=u;by_cases h41:u=[41]
  ·subst h41
   rw [if_pos (show isB [41]=Hd from rfl)];show _=fb (bd (us.take k)) (41::bd (us.drop (k+1)));rw [fb];have h2:bd ((us.take k).drop 1)=(bd (us.take k)).tail:=by
    cases us with
    |nil=>cases h0
    |cons v us=>
     have hv:v=[40]:=Hg h0;subst hv;cases k with
     |zero=>exact rfl
     |succ k=>rfl
   by_cases hc:(dy 0 (bd (us.take k)++[41])==H7 0)=Hd
   ·rw [if_pos ⟨rfl,hc⟩,if_pos ⟨rfl,hc⟩,h2]
   ·rw [if_neg (λq=>hc q.2),if_neg (λq=>hc q.2)]
  ·rw [if_neg (λq=>h41 (Hg q.1))]
   by_cases h40:u=[40]
   ·subst h40
    rw [if_pos (show isB [40]=Hd from rfl)];show _=fb (bd (us.take k)) (40::bd (us.drop (k+1)));rw [fb,if_neg (λq=>by cases q.1)]
   ·have hn:isB u=Hb:=by simp [isB,h40,h41]
    rw [if_neg (by rw [hn];decide),IS,Jd]
theorem nq {c:List Nat} (h:c∈hiddenL):isB c=Hb:=by simp only [hiddenL,Hp,HF,or_false]at h;rcases h with rfl|rfl|rfl|rfl|rfl|rfl|rfl|rfl<;>rfl
theorem uO {c:List Nat} (h:isB c=Hb):bd [c]=[]:=by unfold bd;rw [Jh (by rw [h];decide)];rfl
theorem c9 (h:dP A) (n:Nat):dP (A.take n):=λc hc=>h c (LJ hc)
theorem dQ (h:dP A) (n:Nat):dP (A.drop n):=λc hc=>h c (KL hc)
theorem qB (A:List Nat) (n:Nat):(one A).take n=one (A.take n):=by unfold one;rw [Mo]
theorem vE (hA:dP A) (hh:h∈hiddenL) (hC:dP C) (m:Nat):
  dA (((one A++[h]++one C).take m).flatten)=(dy 0 (bd ((one A++[h]++one C).take m))==H7 0):=by
 rw [HW];by_cases h1:m<=A.length
 ·rw [LI (by rw [iR];exact h1),qB,gH,gI (c9 hA m),Bh (c9 hA m)]
 ·obtain⟨m1,rfl⟩: ∃m1,m=A.length+(1+m1):=⟨m-A.length-1,by exact GV h1⟩
  haveI t1:(one A++([h]++one C)).take (A.length+(1+m1))=one A++([h]++(one C).take m1):=by
   rw [<-iR A,List.take_length_add_append]
   congr 1
   rw [Iv]
   rfl
  rw [t1,qB];haveI f1:(one A++([h]++one (C.take m1))).flatten=A++h++C.take m1:=by simp [gH]
  haveI f2:bd (one A++([h]++one (C.take m1)))=A++C.take m1:=by rw [eP,eP,gI hA,gI (c9 hC m1),uO (nq hh)];rfl
  rw [f1,f2,pg hA hh (c9 hC m1)]
section
variable {r:List Nat} {f:Nat}
theorem sZ (hr:dP (40::r)) (hh:h∈hiddenL):bd (aV (40::r) f h)=40::r:=by unfold aV;rw [eP,eP,gI (c9 hr f),gI (dQ hr f),uO (nq hh),IS,IF]
theorem mK (hf:f<r.length+1):(aV (40::r) f h).length=r.length+2:=by unfold aV;simp only [Hn,iR,JP,Jy,Hv,I0];lia
theorem tJ (hh:h∈hiddenL):h.length<=5:=by simp only [hiddenL,Hp,HF,or_false]at hh;rcases hh with rfl|rfl|rfl|rfl|rfl|rfl|rfl|rfl<;>decide
theorem dR:(aV (40::r) f h).flatten=(40::r).take f++h++(40::r).drop f:=by unfold aV;simp [gH]
theorem sV (hf:f<r.length+1) (hh:h∈hiddenL):(aV (40::r) f h).flatten.length<=r.length+6:=by have:=tJ hh;rw [dR];simp only [Hn,JP,Jy,Hv,I0];lia
theorem v0 (hr:dP (40::r)) (hh:h∈hiddenL):dA (aV (40::r) f h).flatten=(dy 0 (40::r)==H7 0):=by rw [dR,pg (c9 hr f) hh (dQ hr f),IF]
theorem sY (hr:dP (40::r)) (h1:1<=f) (hh:h∈hiddenL):dA ((aV (40::r) f h).flatten.drop 1)=(dy 0 r==H7 0):=by
 haveI ht:dP r:=λx hx=>hr x (Hq _ hx);obtain⟨g,rfl⟩: ∃g,f=g+1:=⟨f-1,by exact IW (Kp h1)⟩
 haveI e:(aV (40::r) (g+1) h).flatten.drop 1=r.take g++h++r.drop g:=by rw [dR];rfl
 rw [e,pg (c9 ht g) hh (dQ ht g),IF]
theorem xR (hr:dP (40::r)) (hh:h∈hiddenL):39∉(aV (40::r) f h).flatten:=by
 intro q;have hh:39∉h:=by simp only [hiddenL,Hp,HF,or_false]at hh;rcases hh with rfl|rfl|rfl|rfl|rfl|rfl|rfl|rfl<;>decide
 have hb: ∀l,dP l->39∉l:=λl hl q=>by rcases hl 39 q with q|q<;>lia
 rw [dR]at q;rcases Ik.mp q with q|q
 ·rcases Ik.mp q with q|q
  ·exact hb _ (c9 hr f) q
  ·exact hh q
 ·exact hb _ (dQ hr f) q
theorem sU (hr:dP (40::r)) (hh:h∈hiddenL):pT≠(aV (40::r) f h).flatten:=λq=>xR hr hh (q▸(by decide:39∈pT))
def uP (r:List Nat):List Nat:=match fb [40] r with
 |some (a,b)=>a++[40]++b++[41]
 |none=>[]
theorem sQ (hr:dP (40::r)) (h1:1<=f) (hf:f<r.length+1) (hh:h∈hiddenL):kV (aV (40::r) f h)=uP r:=by
 obtain⟨g,rfl⟩: ∃g,f=g+1:=⟨f-1,by exact IW (Kp h1)⟩
 have e:aV (40::r) (g+1) h=[40]::(aV (40::r) (g+1) h).drop 1:=by unfold aV;rfl
 have hb:=sZ (r:=r) (f:=g+1) hr hh;haveI h0:(aV (40::r) (g+1) h)[0]? =H7 [40]:=by rw [e];rfl
 haveI Sn:bd ((aV (40::r) (g+1) h).drop 1)=r:=by rw [e]at hb;rw [show([40]::(aV (40::r) (g+1) h).drop 1)=[[40]]++(aV (40::r) (g+1) h).drop 1 from rfl,eP]at hb;exact(Lj hb).2
 haveI RY:bd ((aV (40::r) (g+1) h).take 1)=[40]:=by rw [e];rfl
 haveI hl:=mK (r:=r) (h:=h) hf;unfold kV uP;rw [BB h0 (λm _ _=>vE (c9 hr _) hh (dQ hr _) m) _ 1 (Hm _) (by exact Iv _ _),RY,Sn]
 all_goals(rcases fb [40] r with _|⟨a,b⟩<;>rfl)
end
def EN (n:Nat):List (List Nat):=match n with
 |3=>[[40,40,41,41,41],[40,41,40,41,41],[40,41,41,40,41],[41,40,40,41,41],[41,40,41,40,41],[41,41,40,40,41]]
 |4=>[[40,40,40,41,41,41,41],[40,40,41,40,41,41,41],[40,40,41,41,40,41,41],[40,40,41,41,41,40,41],[40,41,40,40,41,41,41],[40,41,40,41,40,41,41],[40,41,40,41,41,40,41],[40,41,41,40,40,41,41],[40,41,41,40,41,40,41],[40,41,41,41,40,40,41],[41,40,40,40,41,41,41],[41,40,40,41,40,41,41],[41,40,40,41,41,40,41],[41,40,41,40,40,41,41],[41,40,41,40,41,40,41],[41,40,41,41,40,40,41],[41,41,40,40,40,41,41],[41,41,40,40,41,40,41],[41,41,40,41,40,40,41],[41,41,41,40,40,40,41]]
 |_=>[]
section
def rowsN (n:Nat):List (List Nat):=(EN n).map (40::·)
theorem Cy:aE Γ 7 [0] ee [.int 3]=H7 (.list ((rowsN 3).map sv)):=by kernel_rfl
theorem Cw:aE Γ 7 [0] ee [.int 4]=H7 (.list ((rowsN 4).map sv)):=by kernel_rfl
theorem ym {xs:List Int} (is:List Nat):(is.filterMap λi=>(xs.map PV.int)[i]?)=(is.filterMap λi=>xs[i]?).map PV.int:=by
 induction is with
 |nil=>rfl
 |cons i is ih=>
  rw [Jo,Jo,HQ,ih];cases xs[i]? <;>rfl
theorem v_ {xs:List Int} (hl:xs.length<=1000) {p:Nat} (hp:p<5): ∃h:Int,aE Γ 2 [0,1] dw [.list (xs.map .int),.int p]=H7 (.int h):=by
 haveI hz:Hz=2^24:=rfl;obtain⟨c,hc⟩: ∃c:Int,pev Γ (.idx (.list [(.cI 5),(.cI 96),(.cI 1396),(.bin .Pow (.cI 7) (.cI 40)),(.bin .Pow (.cI 3) (.cI 900))]) (.var 1)) [H7 (.list (xs.map .int)),H7 (.int p)]=H7 (.int c):=by
  haveI:p=0∨p=1∨p=2∨p=3∨p=4:=by exact GX hp
  rcases this with rfl|rfl|rfl|rfl|rfl
  ·exact⟨5,by kernel_rfl⟩
  ·exact⟨96,by kernel_rfl⟩
  ·exact⟨1396,by kernel_rfl⟩
  ·exact⟨7^40,by kernel_rfl⟩
  ·exact⟨3^900,by kernel_rfl⟩
 have hs:pev Γ (.slice (.var 0) (.var 1) .cN (.cI 5)) [H7 (.list (xs.map .int)),H7 (.int p)]=H7 (.list (eZ (xs.map .int) (H7 p) H9 (H7 5))):=by show(if H7 (5:Int)=H7 0∨Hz<(xs.map PV.int).length then H9 else H7 (PV.list _))=_;rw [if_neg (by rw [Hf];simp;exact H8 hl (by decide))]
 haveI US: ∃ys:List Int,eZ (xs.map PV.int) (H7 p) H9 (H7 5)=ys.map PV.int:=by unfold eZ;exact⟨_,ym _⟩
 obtain⟨ys,hy⟩:=US;rw [hy]at hs;haveI hsum:pev Γ (.bi .sum [(.slice (.var 0) (.var 1) .cN (.cI 5))]) [H7 (.list (xs.map .int)),H7 (.int p)]=H7 (.int ys.sum):=by show(cE Γ [_] _).bind (λvs=>pbi .sum vs)=_;rw [ac hs rfl];show(fz (ys.map .int)).map _=_;rw [j3];rfl
 refine⟨c+ys.sum, ?_⟩;haveI:ag Γ dw [H7 (.list (xs.map .int)),H7 (.int p)] []=H7 (.ret (.int (c+ys.sum))):=ak (aC (af hc hsum rfl));show((ag Γ dw [H7 (.list (xs.map .int)),H7 (.int p)] []).bind _)=_;rw [this]
 rfl
end
variable {r:PV} {t:Nat}
section
theorem zB (h:n<=1000000):pbi .chr [.int n]=H7 (sv [n]):=by show(if(decide ((n:Int)<0)||decide ((n:Int)>0x10FFFF))=Hb then H7 (PV.str ⟨#[(n:Int).toNat]⟩)else H9)=_;rw [if_pos (by rw [decide_eq_false (by exact Kk (HA _)),decide_eq_false (by lia)];rfl),I3]
theorem dh {k:BI} (h:pev Γ e ρ=H7 v) (hk:pbi k [v]=H7 r):pev Γ (.bi k [e]) ρ=H7 r:=by show(cE Γ [e] ρ).bind _=_;rw [ac h rfl];exact hk
theorem aM {i:PE} (h:pev Γ e ρ=H7 a) (hi:pev Γ i ρ=H7 b) (hr:gi a b=H7 r):pev Γ (.idx e i) ρ=H7 r:=by show(pev Γ e ρ).bind (λa=>(pev Γ i ρ).bind λb=>gi a b)=_;rw [h];show(pev Γ i ρ).bind _=_;rw [hi];exact hr
theorem gU {c a b:PE} {t:Bool} (hc:aJ Γ c ρ=H7 t) (h:pev Γ (if t=Hd then a else b) ρ=H7 v):pev Γ (.ife c a b) ρ=H7 v:=by
 obtain⟨u,hu,ht⟩:=Ho.mp hc;show(pev Γ c ρ).bind (λv=>(ff v).bind λt=>match t with|true=>pev Γ a ρ|false=>pev Γ b ρ)=_
 rw [hu];show(ff u).bind _=_;rw [ht];cases t<;>exact h
def md (way:Int) (n:Nat):Nat:=(way.fmod n).toNat
theorem mA (way:Int) (h:0<n):way.fmod (n:Int)=(md way n:Nat):=by
 have:=JO way (b:=(n:Int)) (by exact aPz h)
 unfold md;exact IW (KY this)
theorem d_ (way:Int) (h:0<n):md way n<n:=by
 haveI h1:=mA way h;have:=Lc way (b:=(n:Int)) (by exact aPz h)
 exact aMd h1 this
theorem fm {a:PE} {way:Int} (h:pev Γ a ρ=H7 (.int way)) (hn:0<n):pev Γ (.bin .Mod a (.cI (n:Nat))) ρ=H7 (.int (md way n:Nat)):=by refine af h rfl ?_;rw [<-mA way hn];exact jR (by lia)
def aA (l:List Nat):PV:= .list (l.map λn:Nat=>PV.int (n:Nat))
theorem dm (hi:i<l.length) (hl:l.length<=1000):gi (aA l) (.int i)=H7 (.int (l.getD i 0:Nat)):=by
 refine eD ?_ (by rw [Hf];exact H8 hl (by decide))
 rw [HQ,HB hi];simp [KP,hi]
theorem lF {l:List (List Nat)} (hi:i<l.length) (hl:l.length<=1000):gi (.list (l.map sv)) (.int i)=H7 (sv (l.getD i [])):=by
 refine eD ?_ (by rw [Hf];exact H8 hl (by decide))
 rw [HQ,HB hi];simp [KP,hi]
theorem nt {g:PV->PV}: ∀xs:List PV,xs.flatMap (λx=>[g x])=xs.map g
 |[]=>rfl
 |x::xs=>by rw [Mj,HI,nt xs];rfl
theorem dH {it:PI} (g:PV->PV) (h:pit Γ it ρ=H7 xs) (hb: ∀x∈xs,pev Γ Qv ((aw ρ Qi).set i (H7 x))=H7 (g x)) (hl:xs.length<=1000000):pev Γ (.comp1 Qi (.one i) it [] Qv) ρ=H7 (.list (xs.map g)):=by haveI hz:Hz=2^24:=rfl;have e:xs.flatMap (λx=>[g x])=xs.map g:=nt xs;rw [<-e];exact jC h (λx hx=>⟨_,rfl,.inl ⟨rfl,g x,hb x hx,rfl⟩⟩) (by rw [e,Hf];exact H8 hl (by decide))
theorem dx {it:PI} {c:PE} (p:PV->Bool) (g:PV->PV) (h:pit Γ it ρ=H7 xs) (ht: ∀x∈xs,pev Γ c ((aw ρ Qi).set i (H7 x))=H7 (.bool (p x))) (hb: ∀x∈xs,p x=Hd->pev Γ Qv ((aw ρ Qi).set i (H7 x))=H7 (g x)) (hl:xs.length<=1000000):pev Γ (.comp1 Qi (.one i) it [c] Qv) ρ=H7 (.list ((xs.filter p).map g)):=by
 haveI hz:Hz=2^24:=rfl;have e: ∀xs:List PV,xs.flatMap (λx=>if p x=Hd then [g x]else [])=(xs.filter p).map g:=by
  intro xs;induction xs with
  |nil=>rfl
  |cons x xs ih=>
   rw [Mj,ih];by_cases hp:p x=Hd
   ·rw [if_pos hp,Jg hp];rfl
   ·rw [if_neg hp,Jh hp];rfl
 rw [<-e];haveI Rq:=Lz p xs;refine jC h (λx hx=>⟨_,rfl, ?_⟩) (by rw [e,Hf];exact H8 (H8 Rq hl) (by decide))
 cases hp:p x with
 |true=>exact .inl ⟨fW (ht x hx) (by rw [hp];rfl),g x,hb x hx hp,rfl⟩
 |false=>exact .inr ⟨fW (ht x hx) (by rw [hp];rfl),rfl⟩
abbrev rg (n:Nat):List Nat:=Ir 0 n
theorem fj:t∈rg n↔t<n:=by rw [Mi];lia
abbrev rgV (n:Nat):List PV:=(rg n).map λt=>PV.int (t:Nat)
theorem yk (h:pev Γ e ρ=H7 (.list xs)) (hl:xs.length<=100000):pit Γ (.ex (.rng [(.bi .len [e])])) ρ=H7 (rgV xs.length):=by
 haveI Q7:pev Γ (.bi .len [e]) ρ=H7 (.int (xs.length:Nat)):=dh h (dk (by exact Hk hl (by decide)))
 show((cE Γ [_] ρ).bind gX).bind bK=_;rw [ac Q7 rfl];show di 0 (xs.length:Nat)=_;unfold di;rw [if_pos (by exact BW (by decide) (H8 hl (by decide))),Int.sub_zero,I3]
 have:=iy xs.length 0;rw [show((0:Nat):Int)=0 from rfl]at this;rw [this]
theorem fC {α:Type} {ls:List α} {g:α->PV} (h:pev Γ e ρ=H7 (.list (ls.map g))) (hn:ls.length=n) (hl:n<=1000):pit Γ (.ex (.rng [(.bi .len [e])])) ρ=H7 (rgV n):=by
 have:=yk h (by rw [Hf];exact H8 (H8 (Hu hn) hl) (by decide))
 rw [Hf,hn]at this;exact this
theorem gT {g:Nat->PV} (hk:k<n) (hn:n<=1000):gi (.list ((rg n).map g)) (.int k)=H7 (g k):=by
 refine eD ?_ (by rw [Hf,Il];exact H8 hn (by decide))
 rw [HQ,HB (by rw [Il];exact hk),List.getElem_range']
 show H7 (g (0+1*k))=_;rw [IJ,Mn]
theorem lG (hk:k<ls.length) (hl:ls.length<=1000):gi (.list (ls.map sv)) (.int k)=H7 (sv (ls.getD k [])):=lF hk hl
theorem qw: ∀(n:Nat) (xs:List (List Nat)),fg (dZ (n+1)) (xs.map sv) (xs.map sv)=H7 Hd
 |_,[]=>rfl
 |n,x::xs=>by rw [HI,la];rw [show dZ (n+1) (sv x) (sv x)=H7 ((⟨x.toArray⟩:HJ)==⟨x.toArray⟩)from rfl];show(fg (dZ (n+1)) (xs.map sv) (xs.map sv)).bind _=_;rw [qw n xs];simp
theorem mY (xs:List (List Nat)):gp .NotEq (.list (xs.map sv)) (.list (xs.map sv))=H7 Hb:=by
 show(if(xs.map sv).length=(xs.map sv).length then fg (dZ 7) (xs.map sv) (xs.map sv)else H7 Hb).map not=_;rw [if_pos rfl,qw 6]
 rfl
theorem i6 {a b:PE} (h1:pev Γ a ρ=H7 (.bool Hb)) (h2:pev Γ b ρ=H7 (.bool Hb)):aJ Γ (.boolop Hb [a,b]) ρ=H7 Hb:=by
 show((je Γ Hb [a,b] ρ).map PV.bool).bind ff=_;haveI:je Γ Hb [a,b] ρ=H7 Hb:=by
  show(pev Γ a ρ).bind (λv=>(ff v).bind λt=>if t=Hb then je Γ Hb [b] ρ else H7 t)=_;rw [h1];show(pev Γ b ρ).bind (λv=>(ff v).bind λt=>if t=Hb then je Γ Hb [] ρ else H7 t)=_;rw [h2]
  rfl
 rw [this];rfl
theorem cv {op:Ok} {l r:PE} {t:Bool} (hl:pev Γ l ρ=H7 a) (hr:pev Γ r ρ=H7 b) (h:gp op a b=H7 t):pev Γ (.cmp op l r) ρ=H7 (.bool t):=by show(pev Γ l ρ).bind (λa=>(pev Γ r ρ).bind λb=>(gp op a b).map PV.bool)=_;rw [hl];show((pev Γ r ρ).bind λb=>(gp op a b).map PV.bool)=_;rw [hr];show(gp op a b).map PV.bool=_;rw [h];rfl
theorem vM (l:List Nat):fz (l.map λn:Nat=>PV.int (n:Nat))=H7 (l.map λn:Nat=>(n:Int)):=by have:=j3 (l.map λn:Nat=>(n:Int));rw [HU]at this;exact this
theorem yl (t:Nat) (l:List Nat):pin (.int (t:Nat)) (aA l)=H7 (decide (t∈l)):=by
 show(fz (l.map λn:Nat=>PV.int (n:Nat))).map (λz=>z.contains (t:Int))=_;rw [vM];show H7 ((l.map λn:Nat=>(n:Int)).contains (t:Int))=_
 congr 1
 rw [O6,Jv,decide_eq_true_eq,HC];exact⟨fun⟨a,h,e⟩=>(by lia:a=t)▸h,λh=>⟨t,h,rfl⟩⟩
theorem mZ (h:l.length<=1000):pbi .len [aA l]=H7 (.int (l.length:Nat)):=by unfold aA;rw [dk (by rw [Hf];exact Hk h (by decide)),Hf]
end
def lE (l:List PV):Ρ:=l.map H7++Hy (54-l.length) H9
abbrev ia (n t:Nat):List Nat:=(rowsN n).getD t []
def iL (n t:Nat):Bool:=dy 0 (ia n t)==H7 0
def keptR (n:Nat):List Nat:=(rg (rowsN n).length).filter (iL n)
theorem dI:t∈keptR n↔t<(rowsN n).length/\iL n t=Hd:=by unfold keptR;rw [Iw,fj]
theorem bc: ∀n∈[3,4],(∀r∈rowsN n,r.head? =H7 40/\(∀x∈r,x=40∨x=41)/\2<=r.length/\r.length<=8)/\(∀t∈keptR n,(dy 0 (ia n t).tail==H7 0)=Hb)/\(rowsN n).length<=20/\0<(keptR n).length/\(keptR n).length<=14:=by decide+kernel
theorem CA (hn:n∈[3,4]) (ht:t<(rowsN n).length): ∃r,ia n t=40::r/\dP (40::r)/\1<=r.length/\r.length<=7:=by
 have e:ia n t=(rowsN n)[t]:=by simp [KP,ht]
 obtain⟨h1,h2,h3,h4⟩:=(bc n hn).1 _ (Kh ht);rw [e];generalize (rowsN n)[t]=x at*
 cases x with
 |nil=>cases h1
 |cons c r=>
  have:c=40:=Hg h1;subst this;simp only [Hv]at h3 h4;exact⟨r,rfl,h2,by exact JM h3,by exact JM h4⟩
def aP (n t:Nat) (u:List (List Nat)):Prop:= ∃r f h,ia n t=40::r/\dP (40::r)/\1<=r.length/\r.length<=7/\1<=f/\f<r.length+1/\h∈hiddenL/\u=aV (40::r) f h
variable {u:List (List Nat)}
section
theorem aP.chk (x:aP n t u):dA u.flatten=iL n t:=by obtain⟨r,f,h,e,br,_,_,h1,h2,hh,rfl⟩:=x;unfold iL;rw [v0 br hh,e]
theorem aP.chk1 (x:aP n t u):dA (u.flatten.drop 1)=(dy 0 (ia n t).tail==H7 0):=by
 obtain⟨r,f,h,e,br,_,_,h1,h2,hh,rfl⟩:=x;rw [sY br h1 hh,e]
 rfl
theorem aP.none (x:aP n t u):pT≠u.flatten:=by obtain⟨r,f,h,e,br,_,_,h1,h2,hh,rfl⟩:=x;exact sU br hh
theorem aP.len (x:aP n t u):u.length<=100/\u.flatten.length<=100:=by obtain⟨r,f,h,e,br,_,_,h1,h2,hh,rfl⟩:=x;haveI a:=mK (r:=r) (h:=h) h2;haveI b:=sV (r:=r) h2 hh;lia
theorem aP.turn (x:aP n t u):kV u=uP (ia n t).tail:=by
 obtain⟨r,f,h,e,br,_,_,h1,h2,hh,rfl⟩:=x;rw [sQ br h1 h2 hh,e]
 rfl
theorem aP.kept (x:aP n t u):bT u.flatten=if iL n t=Hd then u.flatten else pT:=by unfold bT;rw [x.chk]
theorem aP.same (x:aP n t u):((⟨(bT u.flatten).toArray⟩:HJ)==⟨u.flatten.toArray⟩)=iL n t:=by
 rw [gu,x.kept];cases h:iL n t with
 |true=>simp
 |false=>
  rw [if_neg (by decide)]
  exact beq_eq_false_iff_ne.mpr x.none
theorem aP.pos (x:aP n t u):1<=u.flatten.length:=by obtain⟨r,f,h,e,br,_,_,h1,h2,hh,rfl⟩:=x;rw [dR];simp only [Hn,JP,Hv];lia
end
structure LG (Γ:Gam) (S:PV) (hf:Nat->Int):Prop where
 g0: ∀x:HJ,Γ.gn 0 [.str x]=H7 (am 0 Hb x.cps.toList)
 h0: ∀l:List Nat,l.length<=2000->Γ.fn 0 [sv l]=H7 (sv (aH l))
 h1: ∀l:List Nat,l.length<=2000->Γ.fn 1 [sv l]=H7 (.bool (dA l))
 h2: ∀ls:List (List Nat),ls.length<1000->(∀l∈ls,l.length<=2000)->Γ.fn 2 [.list (ls.map sv)]=H7 (.list (ls.map λl=>sv (bT l)))
 h12: ∀p<5,Γ.fn 12 [S,.int (p:Nat)]=H7 (.int (hf p))
 h13: ∀n∈[3,4],Γ.fn 13 [.int (n:Nat)]=H7 (.list ((rowsN n).map sv))
 h14: ∀(row:List Nat) (pl pc:Int),2<=row.length->row.length<=1000-> ∃f h,1<=f/\f<row.length/\h∈hiddenL/\Γ.fn 14 [sv row,.int pl,.int pc]=H7 (.list ((aV row f h).map sv))
 h15: ∀us:List (List Nat),us.length<=1000->us.flatten.length<=2000->Γ.fn 15 [.list (us.map sv)]=H7 (sv (kV us))
variable {S:PV} {hf:Nat->Int}
theorem v4 (G:LG Γ S hf) (hn:n∈[3,4]) (hp:Int): ∃u:Nat->List (List Nat),∀t,t<(rowsN n).length->aP n t (u t)/\Γ.fn 14 [sv (ia n t),.int (hp.fdiv 8+(t:Nat)),.int (hp+(t:Nat))]=H7 (.list ((u t).map sv)):=by
 have: ∀t,∃u,t<(rowsN n).length->aP n t u/\Γ.fn 14 [sv (ia n t),.int (hp.fdiv 8+(t:Nat)),.int (hp+(t:Nat))]=H7 (.list (u.map sv)):=by
  intro t;by_cases ht:t<(rowsN n).length
  ·obtain⟨r,e,br,l1,l2⟩:=CA hn ht
   obtain⟨f,h,a1,a3,a5,a6⟩:=G.h14 (40::r) (hp.fdiv 8+(t:Nat)) (hp+(t:Nat)) (by rw [Hv];exact HM l1) (by rw [Hv];exact HM (H8 l2 (by decide)))
   rw [Hv]at a3;exact⟨_,λ_=>⟨⟨r,f,h,e,br,l1,l2,a1,a3,a5,rfl⟩,by rw [e];exact a6⟩⟩
  ·exact⟨[],λq=>absurd q ht⟩
 exact⟨λt=>Classical.choose (this t),λt ht=>Classical.choose_spec (this t) ht⟩
variable {Qa hp:Int}
section
variable {u:Nat->List (List Nat)}
def mx (n:Nat):PV:= .list ((rowsN n).map sv)
def unitsV (n:Nat) (u:Nat->List (List Nat)):PV:= .list ((rg (rowsN n).length).map λt=> .list ((u t).map sv))
def eh (n:Nat) (u:Nat->List (List Nat)):PV:= .list ((rg (rowsN n).length).map λt=>sv (u t).flatten)
def iJ (n:Nat) (u:Nat->List (List Nat)):PV:= .list ((rg (rowsN n).length).map λt=>sv (bT (u t).flatten))
def q5 (S:PV) (Qa hp:Int) (n:Nat) (r:List PV):List PV:=S:: .int Qa:: .int (n:Nat):: .int (2*(n:Nat))::mx n:: .int hp::r
abbrev q9 (S:PV) (Qa hp:Int) (n:Nat) (u:Nat->List (List Nat)) (r:List PV):List PV:=q5 S Qa hp n (unitsV n u::eh n u::iJ n u::aA (keptR n)::r)
theorem l6 (hn:n∈[3,4]) (hu: ∀t,t<(rowsN n).length->aP n t (u t)/\Γ.fn 14 [sv (ia n t),.int (hp.fdiv 8+(t:Nat)),.int (hp+(t:Nat))]=H7 (.list ((u t).map sv))):
  pev Γ (.comp1 [43,44] (.one 44) (.ex (.rng [(.bi .len [(.var 4)])])) [] (.call 14 [(.idx (.var 4) (.var 44)),(.bin .Add (.bin .FloorDiv (.var 5) (.cI 8)) (.var 44)),(.bin .Add (.var 5) (.var 44))])) (lE (q5 S Qa hp n []))=H7 (unitsV n u):=by
 have hl:=(bc n hn).2.2.1;haveI Qe:=fC (Γ:=Γ) (e:= .var 4) (ρ:=lE (q5 S Qa hp n [])) (ls:=rowsN n) (g:=sv) rfl rfl (by exact H8 hl (by decide))
 rw [dH (λx=>match x with| .int i=> .list ((u i.toNat).map sv)|_=> .none) Qe (λx hx=> ?_) (by rw [Hf,Il];exact H8 hl (by decide))]
 ·unfold unitsV
  congr 2
  rw [HU]
  rfl
 ·obtain⟨t,ht,rfl⟩:=HC.mp hx
  have ht:=fj.mp ht;exact aq (vs:=[sv (ia n t),.int (hp.fdiv 8+(t:Nat)),.int (hp+(t:Nat))]) (ac (aM (a:=mx n) (b:= .int t) rfl rfl (lG ht (by exact H8 hl (by decide)))) (ac (af (a:= .int (hp.fdiv 8)) (b:= .int t) (af (a:= .int hp) (b:= .int 8) rfl rfl (tV (by decide) (by decide))) rfl rfl) (ac (af (a:= .int hp) (b:= .int t) rfl rfl rfl) rfl))) (hu t ht).2
theorem l7 (hn:n∈[3,4]) (hu: ∀t,t<(rowsN n).length->aP n t (u t)):pev Γ (.comp1 [43,45] (.one 45) (.ex (.var 6)) [] (.meth .join (.cS ⟨#[]⟩) [(.var 45)])) (lE (q5 S Qa hp n [unitsV n u]))=H7 (eh n u):=by
 haveI hl:=(bc n hn).2.2.1;have hj: ∀t,t<(rowsN n).length->pme .join (.str ⟨#[]⟩) [.list ((u t).map sv)]=H7 (sv (u t).flatten):=λt ht=>fH (by have:=(hu t ht).len;exact H8 this.2 (by decide))
 rw [dH (xs:=(rg (rowsN n).length).map λt=> .list ((u t).map sv)) (λx=>(pme .join (.str ⟨#[]⟩) [x]).getD .none) rfl (λx hx=> ?_) (by rw [Hf,Il];exact H8 hl (by decide))]
 ·unfold eh
  congr 2
  rw [HU];exact JI λt ht=>by show(pme .join (.str ⟨#[]⟩) [.list ((u t).map sv)]).getD .none=_;rw [hj t (fj.mp ht)];rfl
 ·obtain⟨t,ht,rfl⟩:=HC.mp hx
  show pme .join (.str ⟨#[]⟩) [.list ((u t).map sv)]=H7 ((pme .join (.str ⟨#[]⟩) [.list ((u t).map sv)]).getD .none);rw [hj t (fj.mp ht)];rfl
theorem l8 (G:LG Γ S hf) (hn:n∈[3,4]) (hu: ∀t,t<(rowsN n).length->aP n t (u t)):pev Γ (.call 2 [(.listOf (.var 7))]) (lE (q5 S Qa hp n [unitsV n u,eh n u]))=H7 (iJ n u):=by
 have hl:=(bc n hn).2.2.1;refine aq (vs:=[eh n u]) (ac ?_ rfl) ?_
 ·show b_ ((rg (rowsN n).length).map λt=>sv (u t).flatten)=_
  exact if_pos (by rw [Hf,Il];exact H8 hl (by decide))
 ·have:=G.h2 ((rg (rowsN n).length).map λt=>(u t).flatten) (by rw [Hf,Il];exact Hk hl (by decide)) (λl hl=>by obtain⟨t,ht,rfl⟩:=HC.mp hl;have:=(hu t (fj.mp ht)).len;exact H8 this.2 (by decide))
  rw [HU,HU]at this;exact this
theorem l9 (hn:n∈[3,4]) (hu: ∀t,t<(rowsN n).length->aP n t (u t)):pev Γ (.comp1 [43,44] (.one 44) (.ex (.rng [(.bi .len [(.var 4)])])) [(.cmp .Eq (.idx (.var 8) (.var 44)) (.idx (.var 7) (.var 44)))] (.var 44)) (lE (q5 S Qa hp n [unitsV n u,eh n u,iJ n u]))=H7 (aA (keptR n)):=by
 have hl:=(bc n hn).2.2.1;haveI Qe:=fC (Γ:=Γ) (e:= .var 4) (ρ:=lE (q5 S Qa hp n [unitsV n u,eh n u,iJ n u])) (ls:=rowsN n) (g:=sv) rfl rfl (by exact H8 hl (by decide))
 rw [dx (λx=>match x with| .int i=>iL n i.toNat|_=>Hb) (λx=>x) Qe (λx hx=> ?_) (λx hx _=>rfl) (by rw [Hf,Il];exact H8 hl (by decide))]
 ·unfold aA keptR
  congr 2
  rw [List.map_id',O4]
  rfl
 ·obtain⟨t,ht,rfl⟩:=HC.mp hx
  have ht:=fj.mp ht;refine cv (aM (a:=iJ n u) (b:= .int t) rfl rfl (gT ht (by exact H8 hl (by decide)))) (aM (a:=eh n u) (b:= .int t) rfl rfl (gT ht (by exact H8 hl (by decide)))) ?_
  show H7 ((⟨(bT (u t).flatten).toArray⟩:HJ)==⟨(u t).flatten.toArray⟩)=_;rw [(hu t ht).same]
  rfl
theorem t10 (hn:n∈[3,4]) (hu: ∀t,t<(rowsN n).length->aP n t (u t)):aJ Γ (.boolop Hb [(.cmp .Eq (.var 9) (.list [])),(.cmp .NotEq (.var 8) (.comp1 [43,44] (.one 44) (.ex (.rng [(.bi .len [(.var 4)])])) [] (.ife (.cmp .In (.var 44) (.var 9)) (.idx (.var 7) (.var 44)) (.cS ⟨#[40,39,39,44,32,39,39,41]⟩))))])
  (lE (q9 S Qa hp n u []))=H7 Hb:=by
 have hl:=(bc n hn).2.2.1;haveI hk:=(bc n hn).2.2.2.1;refine i6 (cv (a:=aA (keptR n)) (b:= .list []) rfl rfl ?_) ?_
 ·show(if((keptR n).map λn:Nat=>PV.int (n:Nat)).length=([]:List PV).length then _ else H7 Hb)=_
  rw [if_neg (by rw [Hf,I0];exact MU hk)]
 ·haveI Qe:=fC (Γ:=Γ) (e:= .var 4) (ρ:=lE (q9 S Qa hp n u [])) (ls:=rowsN n) (g:=sv) rfl rfl (by exact H8 hl (by decide))
  haveI hc:=dH (Γ:=Γ) (Qi:=[43,44]) (i:=44) (Qv:= .ife (.cmp .In (.var 44) (.var 9)) (.idx (.var 7) (.var 44)) (.cS ⟨#[40,39,39,44,32,39,39,41]⟩)) (λx=>match x with| .int i=>sv (bT (u i.toNat).flatten)|_=> .none) Qe (λx hx=>by
   obtain⟨t,ht,rfl⟩:=HC.mp hx;have ht:=fj.mp ht;refine gU (c7 (a:= .int t) (b:=aA (keptR n)) rfl rfl (yl t _)) ?_;show _=H7 (sv (bT (u t).flatten));rw [(hu t ht).kept];by_cases h:iL n t=Hd
   ·rw [if_pos (by rw [decide_eq_true_eq];exact dI.mpr ⟨ht,h⟩),if_pos h]
    exact aM (a:=eh n u) (b:= .int t) rfl rfl (gT ht (by exact H8 hl (by decide)))
   ·rw [if_neg (by rw [decide_eq_true_eq];exact λq=>h (dI.mp q).2),if_neg h]
    rfl) (by rw [Hf,Il];exact H8 hl (by decide))
  refine cv (a:=iJ n u) (t:=Hb) rfl hc ?_;haveI e:iJ n u= .list (((rg (rowsN n).length).map λt=>bT (u t).flatten).map sv):=by
   unfold iJ;rw [HU]
   rfl
  haveI e2:(rgV (rowsN n).length).map (λx=>match x with| .int i=>sv (bT (u i.toNat).flatten)|_=> .none)=((rg (rowsN n).length).map λt=>bT (u t).flatten).map sv:=by
   rw [HU,HU]
   rfl
  rw [e2,e];exact mY _
def oneR (n:Nat) (hp:Int):Nat:=(keptR n).getD (md (hp.fdiv 40) (keptR n).length) 0
theorem iP (hn:n∈[3,4]):oneR n hp∈keptR n:=by
 have hi:=d_ (hp.fdiv 40) (bc n hn).2.2.2.1;unfold oneR;haveI:(keptR n).getD (md (hp.fdiv 40) (keptR n).length) 0=(keptR n)[md (hp.fdiv 40) (keptR n).length]:=by simp [KP,hi]
 rw [this];exact Kh hi
theorem l10 (hn:n∈[3,4]):pev Γ (.idx (.var 9) (.bin .Mod (.bin .FloorDiv (.var 5) (.cI 40)) (.bi .len [(.var 9)]))) (lE (q9 S Qa hp n u []))=H7 (.int (oneR n hp:Nat)):=by
 obtain⟨_,_,_,hk,T'⟩:=bc n hn;haveI Q7:pev Γ (.bi .len [(.var 9)]) (lE (q9 S Qa hp n u []))=H7 (.int ((keptR n).length:Nat)):=dh (v:=aA (keptR n)) rfl (mZ (by exact H8 T' (by decide)))
 haveI Uz:pev Γ (.bin .Mod (.bin .FloorDiv (.var 5) (.cI 40)) (.bi .len [(.var 9)])) (lE (q9 S Qa hp n u []))=H7 (.int (md (hp.fdiv 40) (keptR n).length:Nat)):=by
  refine af (a:= .int (hp.fdiv 40)) (af (a:= .int hp) (b:= .int 40) rfl rfl (tV (by decide) (by decide))) Q7 ?_
  rw [<-mA _ hk];exact jR (by lia)
 exact aM (a:=aA (keptR n)) rfl Uz (dm (d_ _ hk) (by exact H8 T' (by decide)))
end
def aS:Int->List (List Nat)->List PV
 |_,[]=>[]
 |p,u::us=> .tuple [.int (p+(u.length:Nat)-1),sv u]::aS (p+(u.length:Nat)) us
def okU (u:List Nat):Prop:=(∃c,u=[c]/\c≠92)∨ ∃c,u=[92,c]
theorem vT (a b:List (List Nat)): ∀p,aS p (a++b)=aS p a++aS (p+(a.flatten.length:Nat)) b:=by
 induction a with
 |nil=>intro p;simp [aS]
 |cons u a ih=>
  intro p;rw [J5,aS,ih,aS,J5,JF,Hn,Jr,OK]
theorem w4 (r:List Nat): ∀(us:List (List Nat)) (p:Int),(∀u∈us,okU u)->am p Hb (us.flatten++r)=aS p us++am (p+(us.flatten.length:Nat)) Hb r:=by
 intro us;induction us with
 |nil=>intro p _;simp [aS]
 |cons u us ih=>
  intro p h;have ih:=λp=>ih p λv hv=>h v (Hq _ hv);rcases h u Hs with⟨c,rfl,hc⟩|⟨c,rfl⟩
  ·show am p Hb (c::(us.flatten++r))=_
   rw [pX,if_neg (by decide),if_neg hc,ih]
   show _= .tuple [.int (p+((1:Nat):Int)-1),sv [c]]::(aS (p+((1:Nat):Int)) us++_);rw [show p+((1:Nat):Int)-1=p by lia,show p+(([c]::us).flatten.length:Nat)=p+1+(us.flatten.length:Nat)by simp;lia]
   rfl
  ·show am p Hb (92::c::(us.flatten++r))=_
   rw [pX,if_neg (by decide),if_pos rfl,pX,if_pos rfl,ih]
   show _= .tuple [.int (p+((2:Nat):Int)-1),sv [92,c]]::(aS (p+((2:Nat):Int)) us++_);rw [show p+((2:Nat):Int)-1=p+1 by lia,show p+((2:Nat):Int)=p+1+1 by lia,show p+(([92,c]::us).flatten.length:Nat)=p+1+1+(us.flatten.length:Nat)by simp;lia]
theorem AY (p:Int):am p Hb [92]=aS p [[92]]:=by
 show [PV.tuple [.int (p+1-1),.str ⟨#[92]⟩]]=[PV.tuple [.int (p+((1:Nat):Int)-1),sv [92]]]
 rfl
def keepU (u:List Nat):Bool:= !(u==[]||u==[34,40,34]||u==[34,92,34,41,34])
def cq (us:List (List Nat)):List (List Nat):=us.filter keepU++[[92]]
theorem qC (A:List Nat):(one A).filter keepU=one A:=Pt.mpr λu hu=>by obtain⟨c,_,rfl⟩:=HC.mp hu;simp [keepU]
theorem vS (hh:h∈hiddenL):([h].filter keepU).flatten=gr h/\ ∀u∈[h].filter keepU,u=[34]∨okU u:=by
 simp only [hiddenL,Hp,HF,or_false]at hh;rcases hh with rfl|rfl|rfl|rfl|rfl|rfl|rfl|rfl
 all_goals refine⟨by decide,λu hu=> ?_⟩
 ·cases hu
 ·exact .inr (.inr ⟨41,Hx.mp hu⟩)
 ·cases hu
 ·cases hu
 ·exact .inr (.inr ⟨92,Hx.mp hu⟩)
 ·exact .inr (.inl ⟨97,Hx.mp hu,by decide⟩)
 ·exact .inr (.inr ⟨34,Hx.mp hu⟩)
 ·exact .inl (Hx.mp hu)
theorem aP.shown (x:aP n t u):aH u.flatten=(u.filter keepU).flatten/\(∀v∈u.filter keepU,okU v)/\(u.filter keepU).length<=100/\(u.filter keepU).flatten.length<=100:=by
 have hl:=x.len;have hs:=H8 (g_ u.flatten ⟨[],[],Option.none,Hb⟩) (show _<=100 by simp only [SM.fin];simpa using hl.2)
 obtain⟨r,f,h,e,br,_,_,h1,h2,hh,rfl⟩:=x;obtain⟨k1,k2⟩:=vS hh;have e1:(aV (40::r) f h).filter keepU=one ((40::r).take f)++[h].filter keepU++one ((40::r).drop f):=by unfold aV;rw [PD,PD,qC,qC]
 have e2:aH (aV (40::r) f h).flatten=((aV (40::r) f h).filter keepU).flatten:=by rw [e1,dR,mT (c9 br f) hh (dQ br f),Jn,Jn,gH,gH,k1]
 refine⟨e2,λv hv=> ?_,H8 (Lz _ _) hl.1,e2▸hs⟩;have ok1: ∀A,dP A-> ∀v∈one A,okU v:=λA hA v hv=>by obtain⟨c,hc,rfl⟩:=HC.mp hv;exact .inl ⟨c,rfl,by rcases hA c hc with rfl|rfl<;>decide⟩
 rw [e1]at hv;rcases Ik.mp hv with hv|hv
 ·rcases Ik.mp hv with hv|hv
  ·exact ok1 _ (c9 br f) v hv
  ·rcases k2 v hv with rfl|q
   ·exact .inl ⟨34,rfl,by decide⟩
   ·exact q
 ·exact ok1 _ (dQ br f) v hv
theorem w5 (x:aP n t u):am 0 Hb (aH u.flatten++[92])=aS 0 (cq u):=by obtain⟨e,h,_⟩:=x.shown;rw [e,w4 [92] _ 0 h,AY,cq,vT]
theorem mI: ∀(L:List (List Nat)) (p:Nat),nN ((rg L.length).map λk=> .int (((p+(L.take (k+1)).flatten.length:Nat):Int)-1)) (L.map sv)=aS p L
 |[],p=>rfl
 |u::L,p=>by
  have e:(rg (u::L).length).map (λk=>PV.int (((p+((u::L).take (k+1)).flatten.length:Nat):Int)-1))= .int (((p+u.length:Nat):Int)-1)::(rg L.length).map (λk=>PV.int (((p+u.length+(L.take (k+1)).flatten.length:Nat):Int)-1)):=by
   rw [Hv,show rg (L.length+1)=0::Ir 1 L.length from rfl,HI,Nc,List.take_zero,JF,List.flatten_nil,IS,show Ir 1 L.length=(rg L.length).map (1+·)from(List.map_add_range' (a:=1) 0 L.length 1).symm,HU]
   congr 1
   refine JI λk _=> ?_;show PV.int (((p+((u::L).take (1+k+1)).flatten.length:Nat):Int)-1)=_;rw [show 1+k+1=(k+1)+1 by lia,Nc,JF,Hn,I7]
  rw [e];show PV.tuple [_,sv u]::nN _ (L.map sv)= .tuple [.int ((p:Int)+(u.length:Nat)-1),sv u]::aS ((p:Int)+(u.length:Nat)) L;rw [mI L (p+u.length)]
  rfl
theorem jF: ∀(L:List (List Nat)) (p:Int),(aS p L).length=L.length
 |[],_=>rfl
 |u::L,p=>congrArg L0 (jF L _)
theorem m_: ∀(L:List (List Nat)) (p:Int),fg (dZ 7) (aS p L) (aS p L)=H7 Hd
 |[],_=>rfl
 |u::L,p=>by
  rw [aS,la];have e:dZ 7 (.tuple [.int (p+(u.length:Nat)-1),sv u]) (.tuple [.int (p+(u.length:Nat)-1),sv u])=H7 Hd:=by show fg (dZ 6) [.int (p+(u.length:Nat)-1),sv u] [.int (p+(u.length:Nat)-1),sv u]=_;rw [la,la];show H7 ((p+(u.length:Nat)-1==p+(u.length:Nat)-1)&&((⟨u.toArray⟩:HJ)==⟨u.toArray⟩&&Hd))=_;simp
  rw [e];show(fg (dZ 7) (aS _ L) (aS _ L)).bind _=_;rw [m_ L]
  rfl
section
variable {u:Nat->List (List Nat)}
abbrev q10 (S:PV) (Qa hp:Int) (n:Nat) (u:Nat->List (List Nat)) (r:List PV):List PV:=q9 S Qa hp n u (.int (oneR n hp:Nat)::r)
def d6 (us:List (List Nat)):PV:= .list ((cq us).map sv)
def da (us:List (List Nat)):PV:= .list ((rg (cq us).length).map λk=> .int ((((cq us).take (k+1)).flatten.length:Nat)-1:Int))
theorem vX (u:List Nat):pin (sv u) (.list [sv [],sv [34,40,34],sv [34,92,34,41,34]])=H7 (!keepU u):=by
 show H7 ([(⟨#[]⟩:HJ),⟨#[34,40,34]⟩,⟨#[34,92,34,41,34]⟩].contains ⟨u.toArray⟩)=_;unfold keepU
 congr 1
 simp only [M8,P_,Nj,Bool.not_not,Bool.or_assoc];rw [<-gu,<-gu,<-gu]
theorem pL (us:List (List Nat)):((us.map sv).filter λx=>match x with| .str y=>keepU y.cps.toList|_=>Hb)=(us.filter keepU).map sv:=by
 rw [O4]
 rfl
theorem l11 (hn:n∈[3,4]) (hu: ∀t,t<(rowsN n).length->aP n t (u t)):pev Γ (.bin .Add (.comp1 [43,46] (.one 46) (.ex (.idx (.var 6) (.var 10))) [(.cmp .NotIn (.var 46) (.list [(.cS ⟨#[]⟩),(.cS ⟨#[34,40,34]⟩),(.cS ⟨#[34,92,34,41,34]⟩)]))] (.var 46)) (.list [(.cS ⟨#[92]⟩)])) (lE (q10 S Qa hp n u []))=H7 (d6 (u (oneR n hp))):=by
 have hl:=(bc n hn).2.2.1;have ht:=(dI.mp (iP (hp:=hp) hn)).1;have hx:=(hu _ ht).shown;have RM:=(hu _ ht).len;unfold q10;generalize oneR n hp=t0 at*
 have Qe:pit Γ (.ex (.idx (.var 6) (.var 10))) (lE (q9 S Qa hp n u (.int (t0:Nat)::[])))=H7 ((u t0).map sv):=by
  show(pev Γ (.idx (.var 6) (.var 10)) (lE (q9 S Qa hp n u (.int (t0:Nat)::[])))).bind bK=_;rw [aM (a:=unitsV n u) (b:= .int t0) rfl rfl (gT ht (by exact H8 hl (by decide)))]
  rfl
 have hc:=dx (Γ:=Γ) (Qi:=[43,46]) (i:=46) (c:= .cmp .NotIn (.var 46) (.list [(.cS ⟨#[]⟩),(.cS ⟨#[34,40,34]⟩),(.cS ⟨#[34,92,34,41,34]⟩)])) (Qv:= .var 46) (λx=>match x with| .str y=>keepU y.cps.toList|_=>Hb) (λx=>x) Qe (λx hx=>by obtain⟨v,hv,rfl⟩:=HC.mp hx;refine cv (a:=sv v) (b:= .list [sv [],sv [34,40,34],sv [34,92,34,41,34]]) rfl rfl ?_;show(pin (sv v) (PV.list [sv [],sv [34,40,34],sv [34,92,34,41,34]])).map not=H7 (keepU v);rw [vX];exact congrArg H7 (Bool.not_not _)) (λx hx _=>rfl) (by rw [Hf];exact H8 RM.1 (by decide))
 rw [pL,List.map_id']at hc;refine(af (r:= .list [.cS ⟨#[92]⟩]) hc (b:= .list [sv [92]]) rfl (i0 ?_)).trans ?_
 ·rw [Hf];exact H8 (HE hx.2.2.1 (Hm _)) (by decide)
 ·unfold d6 cq
  rw [HY]
  rfl
theorem jw (x:aP n t us):(cq us).length<=101/\(cq us).flatten.length<=101:=by obtain⟨_,_,h1,h2⟩:=x.shown;unfold cq;rw [Jn,Hn,Hn];exact⟨HM h1,HM h2⟩
theorem l12 (hn:n∈[3,4]) (hu: ∀t,t<(rowsN n).length->aP n t (u t)):pev Γ (.comp1 [43,47] (.one 47) (.ex (.rng [(.bi .len [(.var 11)])])) [] (.bin .Sub (.bi .len [(.meth .join (.cS ⟨#[]⟩) [(.slice (.var 11) .cN (.bin .Add (.var 47) (.cI 1)) .cN)])]) (.cI 1))) (lE (q10 S Qa hp n u [d6 (u (oneR n hp))]))=H7 (da (u (oneR n hp))):=by
 have ht:=(dI.mp (iP (hp:=hp) hn)).1;obtain⟨l1,l2⟩:=jw (hu _ ht);unfold q10;generalize oneR n hp=t0 at*
 generalize eL:cq (u t0)=L at*
 have Qe:=fC (Γ:=Γ) (e:= .var 11) (ρ:=lE (q9 S Qa hp n u [.int (t0:Nat),d6 (u t0)])) (ls:=L) (g:=sv) (by rw [<-eL];rfl) rfl (by exact H8 l1 (by decide))
 rw [dH (λx=>match x with| .int i=> .int (((L.take (i.toNat+1)).flatten.length:Nat)-1:Int)|_=> .none) Qe (λx hx=> ?_) (by rw [Hf,Il];exact H8 l1 (by decide))]
 ·unfold da
  rw [eL]
  congr 2
  rw [HU]
  rfl
 ·obtain⟨k,hk,rfl⟩:=HC.mp hx
  have hk:=fj.mp hk;have hs:bz (.list (L.map sv)) .none (.int ((k+1:Nat):Int)) .none=H7 (.list (cM (L.take (k+1)))):=by
   rw [e8 (lo:=H9) (hi:=H7 ((k+1:Nat):Int)) rfl rfl (by rw [Hf];exact H8 l1 (by decide)),nZ _ (by rw [Hf];exact hk),uh]
   rfl
  have Rq:(L.take (k+1)).flatten.length<=101:=by
   have:L.flatten=(L.take (k+1)).flatten++(L.drop (k+1)).flatten:=by rw [<-Jn,IF]
   rw [this,Hn]at l2;exact Ii l2
  have SY:pev Γ (.slice (.var 11) .cN (.bin .Add (.var 47) (.cI 1)) .cN) ((aw (lE (q9 S Qa hp n u [.int (t0:Nat),d6 (u t0)])) [43,47]).set 47 (H7 (.int k)))=H7 (.list (cM (L.take (k+1)))):=by
   rw [<-eL]at hs ⊢
   exact hs
  exact af (b:= .int 1) (dh (gE SY (by exact H8 Rq (by decide))) (gB (x:=⟨(L.take (k+1)).flatten.toArray⟩) (by show(L.take (k+1)).flatten.length<2^62;exact Hk Rq (by decide)))) rfl rfl
theorem wQ (hn:n∈[3,4]) {r:List PV}:pev Γ (.idx (.var 7) (.var 10)) (lE (q10 S Qa hp n u r))=H7 (sv (u (oneR n hp)).flatten):=
 aM (a:=eh n u) (b:= .int (oneR n hp:Nat)) rfl rfl (gT (dI.mp (iP (hp:=hp) hn)).1 (by exact H8 (bc n hn).2.2.1 (by decide)))
theorem l13 (G:LG Γ S hf) (hn:n∈[3,4]) (hu: ∀t,t<(rowsN n).length->aP n t (u t)):pev Γ (.listGen 0 [(.bin .Add (.call 0 [(.idx (.var 7) (.var 10))]) (.cS ⟨#[92]⟩))]) (lE (q10 S Qa hp n u [d6 (u (oneR n hp)),da (u (oneR n hp))]))=H7 (.list (aS 0 (cq (u (oneR n hp))))):=by
 have ht:=(dI.mp (iP (hp:=hp) hn)).1;have hl:=(hu _ ht).len;have hs:(aH (u (oneR n hp)).flatten).length<=100:=by rw [(hu _ ht).shown.1];exact(hu _ ht).shown.2.2.2
 have e:pev Γ (.bin .Add (.call 0 [(.idx (.var 7) (.var 10))]) (.cS ⟨#[92]⟩)) (lE (q10 S Qa hp n u [d6 (u (oneR n hp)),da (u (oneR n hp))]))=H7 (sv (aH (u (oneR n hp)).flatten++[92])):=
  dC (y:=[92]) (aq (ac (wQ hn) rfl) (G.h0 _ (by exact H8 hl.2 (by decide)))) rfl (by exact H8 (HM hs) (by decide))
 show(cE Γ [_] _).bind (λvs=>(Γ.gn 0 vs).bind b_)=_;rw [ac e rfl];show(Γ.gn 0 [sv _]).bind b_=_;rw [G.g0];show b_ (am 0 Hb (aH (u (oneR n hp)).flatten++[92]))=_;rw [w5 (hu _ ht)];exact if_pos (by rw [jF];exact H8 (jw (hu _ ht)).1 (by decide))
theorem zL (L:List (List Nat)) (h:L.length<=Hz):(if((rg L.length).map λk=>PV.int (((L.take (k+1)).flatten.length:Nat)-1:Int)).length=(L.map sv).length then b_ (nN ((rg L.length).map λk=> .int (((L.take (k+1)).flatten.length:Nat)-1:Int)) (L.map sv))else H9)=H7 (.list (aS 0 L)):=by
 rw [if_pos (by rw [Hf,Hf,Il])]
 have:=mI L 0;simp only [IJ]at this;rw [this];exact if_pos (by rw [jF];exact h)
theorem t14 (G:LG Γ S hf) (hn:n∈[3,4]) (hu: ∀t,t<(rowsN n).length->aP n t (u t)):aJ Γ (.boolop Hb [(.cmp .NotEq (.var 13) (.listZip (.var 12) (.var 11))),(.cmp .IsNot (.call 1 [(.slice (.idx (.var 7) (.var 10)) (.cI 1) .cN .cN)]) (.cB Hb))])
  (lE (q10 S Qa hp n u [d6 (u (oneR n hp)),da (u (oneR n hp)),.list (aS 0 (cq (u (oneR n hp))))]))=H7 Hb:=by
 have hm:=iP (hp:=hp) hn;have ht:=(dI.mp hm).1;have hl:=(hu _ ht).len;have Yr:=(hu _ ht).pos;refine i6 (cv (a:= .list (aS 0 (cq (u (oneR n hp))))) (b:= .list (aS 0 (cq (u (oneR n hp))))) rfl ?_ ?_) ?_
 ·exact zL _ (H8 (jw (hu _ ht)).1 (by decide))
 ·show(if(aS 0 (cq (u (oneR n hp)))).length=(aS 0 (cq (u (oneR n hp)))).length then fg (dZ 7) (aS 0 (cq (u (oneR n hp)))) (aS 0 (cq (u (oneR n hp))))else H7 Hb).map not=_
  rw [if_pos rfl,m_]
  rfl
 ·have hc:=G.h1 ((u (oneR n hp)).flatten.drop 1) (by rw [Jy];exact Po (H8 hl.2 (by decide)))
  rw [(hu _ ht).chk1,(bc n hn).2.1 _ hm]at hc;refine cv (b:= .bool Hb) (aq (ac ?_ rfl) hc) rfl rfl;show(pev Γ (.idx (.var 7) (.var 10)) _).bind (λa=>bz a (.int ((1:Nat):Int)) .none .none)=_;rw [wQ hn];exact Ea Yr (by exact H8 hl.2 (by decide))
def wordsN (n:Nat):List (List Nat):=(keptR n).map (ia n)
theorem l14 (hn:n∈[3,4]) {c:PV}:pev Γ (.comp1 [43,44] (.one 44) (.ex (.var 9)) [] (.idx (.var 4) (.var 44))) (lE (q10 S Qa hp n u [a,b,c]))=H7 (.list ((wordsN n).map sv)):=by
 obtain⟨_,_,hl,_,hk⟩:=bc n hn;rw [dH (xs:=(keptR n).map λt:Nat=>PV.int (t:Nat)) (λx=>match x with| .int i=>sv (ia n i.toNat)|_=> .none) rfl (λx hx=> ?_) (by rw [Hf];exact H8 hk (by decide))]
 ·unfold wordsN
  rw [HU,HU]
  rfl
 ·obtain⟨t,ht,rfl⟩:=HC.mp hx
  exact aM (a:=mx n) (b:= .int t) rfl rfl (lG (dI.mp ht).1 (by exact H8 hl (by decide)))
end
end Internal
namespace Internal
open PySem PySem.W PySem.Calls PyProof.Rows
open PySem.StrLaws Builtin.Str
def bI (ls:List (List Nat)):List Nat:=(ls.map (· ++[13,10])).flatten
theorem ss (x:HJ) (i:Nat):At x ⟨#[13,10]⟩ x.length i↔i+2<=x.length/\(x.cps.toList.drop i).take 2=[13,10]:=by unfold At;rw [subAt_eq];show(i+2<=x.length/\((x.cps.toList.drop i).take 2==[13,10])=Hd)↔_;rw [beq_iff_eq]
variable {x:HJ}
theorem rQ {a b:Nat} {l:List Nat} (h:(x.cps.toList.drop a).take (b-a)=l):strSub x a b=tx l:=by
 apply Str.ext';apply Q3.mp;rw [strSub_toList,h]
 rfl
variable {last:List Nat}
theorem tm (h13:13∉last): ∀(ls:List (List Nat)) (a f:Nat) (SN:List Nat),a<=x.length->x.cps.toList.drop a=bI ls++last->(∀l∈ls,13∉l)->ChainG x ⟨#[13,10]⟩ x.length a SN f->(∀k,f<=k-> ¬At x ⟨#[13,10]⟩ x.length k)->
  partsFrom x 2 a SN=(ls++[last]).map tx:=by
 haveI hn:x.cps.toList.length=x.length:=by simp [JX]
 intro ls;induction ls with
 |nil=>
  intro a f SN ha hd _ hc hf;have hd:x.cps.toList.drop a=last:=hd;cases SN with
  |nil=>
   show [strSub x a x.length]=[tx last];rw [rQ (l:=last)];rw [hd];refine Iq ?_;rw [<-hd,Jy];exact Hm _
  |cons c r=>
   exfalso;obtain⟨h1,h2,_⟩:=hc;have h2:=(ss x c).mp h2;haveI:x.cps.toList.drop c=last.drop (c-a):=by rw [<-hd,JU];congr 1;exact IW (I9 h1)
   rw [this]at h2;refine h13 ?_;haveI:13∈(last.drop (c-a)).take 2:=by rw [h2.2];exact Hs
   exact KL (LJ this)
 |cons l ls ih=>
  intro a f SN ha hd hl hc hf;have hd:x.cps.toList.drop a=l++(13::10::(bI ls++last)):=by rw [hd];show(l++[13,10]++bI ls)++last=_;simp
  have Q7:a+l.length+2<=x.length:=by have:=congrArg Kl hd;rw [Jy,Hn,Hv,Hv]at this;exact aPl this
  have hA:At x ⟨#[13,10]⟩ x.length (a+l.length):=by
   refine(ss x _).mpr ⟨Q7, ?_⟩;rw [<-JU,hd,List.drop_left]
   rfl
  haveI YB:13∉l:=hl l Hs;cases SN with
  |nil=>
   exfalso;have e:f=a:=hc;exact hf _ (by exact HN (Hu e)) hA
  |cons c r=>
   obtain⟨h1,h2,h3,h4⟩:=hc;haveI UW:c<=a+l.length:=by
    rcases Kr (a+l.length) c with q|q
    ·exact absurd hA (h3 _ (by exact HD _ _) q)
    ·exact q
   haveI Sm:c=a+l.length:=by
    rcases Kr c (a+l.length)with q|q
    ·exfalso
     have h2:=(ss x c).mp h2;haveI e:x.cps.toList.drop c=l.drop (c-a)++(13::10::(bI ls++last)):=by rw [show c=a+(c-a)by exact IW (I9 h1),<-JU,hd,NS (by exact HP (K2 h1 q)),show a+(c-a)-a=c-a by exact Kj _ _]
     rw [e]at h2;haveI e2:l.drop (c-a)≠[]:=by intro q2;have:=congrArg Kl q2;rw [Jy,I0]at this;lia
     obtain⟨y,ys,e3⟩:=List.exists_cons_of_ne_nil e2;rw [e3]at h2;haveI:y=13:=(Lj h2.2).1;exact YB (KL (i:=c-a) (by rw [e3,this];exact Hs))
    ·exact JH UW q
   subst Sm;haveI hp:strSub x a (a+l.length)=tx l:=rQ (by rw [hd,show a+l.length-a=l.length by exact Kj _ _,List.take_left])
   show strSub x a (a+l.length)::partsFrom x 2 (a+l.length+2) r=_;rw [hp,ih (a+l.length+2) f r Q7 (by
    rw [show a+l.length+2=a+(l.length+2)by exact I7 _ _ _,<-JU,hd,NK,show l.length+2-l.length=2 by exact Kj _ _,IQ (by exact HD _ _)]
    rfl) (λl' h'=>hl l' (Hq _ h')) h4 hf]
   rfl
set_option tactic.hygienic true in
theorem tb {ls:List (List Nat)} (hl: ∀l∈ls,13∉l) (h13:13∉last):Txt.split (tx (bI ls++last)) ⟨#[13,10]⟩=(ls++[last]).map tx/\
  partsBetween (tx (bI ls++last)) (occurrences (tx (bI ls++last)) ⟨#[13,10]⟩ 0 (tx (bI ls++last)).length ((tx (bI ls++last)).length+1)) 2=(ls++[last]).map tx:=by
 generalize hx:tx (bI ls++last)=x;haveI TY:x.cps.toList=bI ls++last:=by rw [<-hx];simp [tx]
 obtain⟨f,hG,hn⟩:=occ_tight x ⟨#[13,10]⟩ (by decide)
 have key:=tm h13 ls 0 f _ (IH _) (by rw [KM,TY]) hl hG hn
 have k2:partsBetween x (occurrences x ⟨#[13,10]⟩ 0 x.length (x.length+1)) 2=(ls++[last]).map tx:=by rw [partsBetween_eq];exact key
 refine⟨?_,k2⟩;have whole:(occurrences x ⟨#[13,10]⟩ 0 x.length (x.length+1))=[]->[x]=(ls++[last]).map tx:=λh=>by rw [<-key,h];show [x]=[strSub x 0 x.length];rw [sub_whole]
 unfold Txt.split;split
 ·rename_i hc
  refine whole ?_;rw [L7,decide_eq_true_eq,decide_eq_true_eq]at hc;haveI k1:1<=Lv x:=by unfold Lv;split<;>(try split)<;>decide
  haveI k2:Lv ⟨#[13,10]⟩=1:=by simp [Lv]
  haveI hc:x.length<2:=by
   rcases hc with h|h
   ·exact h
   ·lia
  cases e:occurrences x ⟨#[13,10]⟩ 0 x.length (x.length+1)with
  |nil=>rfl
  |cons c r=>
   rw [e]at hG;have:=hG.2.1.1;haveI:c+2<=x.length:=this;lia
 ·split
  ·rename_i he
   exact whole (by simpa using he)
  ·exact k2
theorem rD (k:Nat) {m:List Nat} (hm: ∀c∈m.head?,c≠46):K5 (tx (Hy k 46++m)) ⟨#[46]⟩=tx m:=by
 haveI Uq:stripLo (⟨#[46]⟩:HJ).cps.contains Hd (tx (Hy k 46++m))=k:=by
  show((Hy k 46++m).takeWhile (#[46]:Array Nat).contains).length=k;haveI So:(#[46]:Array Nat).contains 46=Hd:=by simp
  haveI WR:m.takeWhile (#[46]:Array Nat).contains=[]:=by
   cases m with
   |nil=>rfl
   |cons c m=>
    haveI:c≠46:=hm c rfl;haveI hc:(#[46]:Array Nat).contains c=Hb:=by simpa using this
    rw [List.takeWhile_cons_of_neg (by rw [hc];decide)]
  induction k with
  |zero=>rw [List.replicate_zero,Jd,WR];rfl
  |succ k ih=>rw [LQ,J5,List.takeWhile_cons_of_pos So,Hv,ih]
 unfold K5;rw [PyProof.Rows.stripBy_eq,Uq];refine rQ ?_;show((Hy k 46++m).drop k).take ((tx (Hy k 46++m)).length-k)=m;haveI:(tx (Hy k 46++m)).length=k+m.length:=by simp [tx,JX]
 rw [this,NK,Jt,MT,IQ (by simp),Jd,KM]
 exact Iq (by exact Hu (Nat.eq_sub_of_add_eq (Iv _ _)))
end Internal
namespace Internal
open PySem PySem.W PySem.Calls PyProof.Rows
theorem qG: ∀(l r:List Nat),(∀c∈l,c≠10/\c≠13)->nl Hb (l++r)=l++nl Hb r
 |[],r,_=>rfl
 |c::l,r,h=>by
  have hc:=h c Hs;rw [J5,nl,if_neg hc.1,if_neg (by decide),if_neg hc.2,qG l r λx hx=>h x (Hq _ hx)]
  rfl
theorem AC (r:List Nat) (h:r.head? ≠H7 10):nl Hd r=10::nl Hb r:=by
 cases r with
 |nil=>rfl
 |cons c r=>
  have hc:c≠10:=λq=>h (by rw [q];rfl)
  rw [nl,nl,if_neg hc,if_neg hc]
  rfl
def em (ps:List (List Nat×List Nat)):List Nat:=ps.flatMap λp=>p.1++p.2
theorem oO {tail:List Nat} (ht:tail.head? ≠H7 10): ∀ps:List (List Nat×List Nat),(∀p∈ps,p.1≠[]/\(∀c∈p.1,c≠10/\c≠13)/\(p.2=[10]∨p.2=[13]∨p.2=[13,10]))->
  nl Hb (em ps++tail)=bI (ps.map (·.1))++nl Hb tail/\(em ps++tail).head? ≠H7 10
 |[],_=>⟨rfl,ht⟩
 |(l,e)::ps,h=>by
  obtain⟨h1,h2,h3⟩:=h _ Hs;obtain⟨i1,i2⟩:=oO ht ps λp hp=>h p (Hq _ hp);have e0:em ((l,e)::ps)++tail=l++(e++(em ps++tail)):=by show(l++e++em ps)++tail=_;simp
  have h2: ∀c∈l,c≠10/\c≠13:=h2;have h1:l≠[]:=h1;rw [e0];refine⟨?_, ?_⟩
  ·rw [qG l _ h2]
   have:nl Hb (e++(em ps++tail))=13::10::nl Hb (em ps++tail):=by
    rcases h3 with q|q|q
    ·rw [show e=[10]from q];rfl
    ·rw [show e=[13]from q]
     show 13::nl Hd (em ps++tail)=_;rw [AC _ i2]
    ·rw [show e=[13,10]from q];rfl
   rw [this,i1];show _=(l++[13,10]++bI (ps.map (·.1)))++nl Hb tail
   simp
  ·cases l with
   |nil=>exact absurd rfl h1
   |cons c l=>
    intro q;exact(h2 c Hs).1 (Hg q)
def mh (l:List Nat):List Nat:=if l.head? =H7 46 then 46::l else l
theorem qQ: ∀(l r:List Nat),(∀c∈l,c≠10)->dd Hb (l++13::10::r)=l++13::10::dd Hd r
 |[],r,_=>rfl
 |c::l,r,h=>by
  haveI hc:(c==10)=Hb:=by simpa using h c Hs
  rw [J5,dd,if_neg (by simp),hc,qQ l r λx hx=>h x (Hq _ hx)]
  rfl
theorem B7 (l r:List Nat) (h: ∀c∈l,c≠10):dd Hd (l++13::10::r)=mh l++13::10::dd Hd r:=by
 cases l with
 |nil=>rfl
 |cons c l=>
  haveI hl: ∀x∈l,x≠10:=λx hx=>h x (Hq _ hx);haveI hc:(c==10)=Hb:=by simpa using h c Hs
  rw [J5,dd,hc,qQ l r hl];unfold mh;by_cases So:c=46
  ·subst So;rw [if_pos ⟨rfl,rfl⟩];rfl
  ·rw [if_neg (λq=>So q.2),if_neg (show¬((c::l).head? =H7 46)from λq=>So (Hg q))];rfl
theorem oY (last:List Nat): ∀ls:List (List Nat),(∀l∈ls,∀c∈l,c≠10)->dd Hd (bI ls++last)=bI (ls.map mh)++dd Hd last
 |[],_=>rfl
 |l::ls,h=>by
  haveI e:bI (l::ls)++last=l++13::10::(bI ls++last):=by show(l++[13,10]++bI ls)++last=_;simp
  rw [e,B7 l _ (h l Hs),oY last ls λx hx=>h x (Hq _ hx)];show _=(mh l++[13,10]++bI (ls.map mh))++_;simp
def cO (b1:Nat->Bool) (Qk:Nat->List Nat) (l:List Nat):List Nat:=(l.filter λc=> !b1 c).flatMap λc=>if c=46∨c=13∨c=10 then [c]else Qk c
section
variable {b1:Nat->Bool} {Qk:Nat->List Nat}
theorem dG (a b:List Nat):cO b1 Qk (a++b)=cO b1 Qk a++cO b1 Qk b:=by simp [cO]
theorem jA (h13:b1 13=Hb) (h10:b1 10=Hb) (last:List Nat): ∀ls:List (List Nat),cO b1 Qk (bI ls++last)=bI (ls.map (cO b1 Qk))++cO b1 Qk last
 |[]=>rfl
 |l::ls=>by
  haveI e:bI (l::ls)++last=l++([13,10]++(bI ls++last)):=by show(l++[13,10]++bI ls)++last=_;simp
  haveI e2:cO b1 Qk [13,10]=[13,10]:=by simp [cO,h13,h10]
  rw [e,dG,dG,jA h13 h10 last ls,e2];show _=(cO b1 Qk l++[13,10]++bI (ls.map (cO b1 Qk)))++_;simp
structure Ln where
 d:Nat
 v:List Nat
 c:Nat
 s:Nat
 mp:Nat
def Ln.raw (l:Ln):List Nat:=l.v++Hy (l.d+1) 46++[l.c]++[l.s]
def Ln.D (l:Ln):Nat:=if l.v=[]then l.d+2 else l.d+1
def Ln.name (l:Ln):List Nat:=[l.mp]++[l.s]
def Ln.out (l:Ln):List Nat:=Hy l.D 46++l.name
def okc (x:Nat):Prop:=x≠10/\x≠13/\x≠46
structure jh (b1:Nat->Bool) (Qk:Nat->List Nat) (l:Ln):Prop where
 v:l.v=[]∨ ∃x,l.v=[x]/\b1 x=Hd/\okc x
 c:b1 l.c=Hb/\okc l.c/\Qk l.c=[l.mp]
 s:b1 l.s=Hb/\okc l.s/\Qk l.s=[l.s]
 mp:okc l.mp
theorem jh.plain {l:Ln} (h:jh b1 Qk l):l.raw≠[]/\ ∀c∈l.raw,c≠10/\c≠13:=by
 refine⟨by simp [Ln.raw],λc hc=> ?_⟩
 unfold Ln.raw at hc;simp only [Ik,Hx]at hc;rcases hc with((hc|hc)|rfl)|rfl
 ·rcases h.v with q|⟨x,q,_,hx⟩
  ·rw [q]at hc;cases hc
  ·rw [q]at hc;rw [Hx.mp hc];exact⟨hx.1,hx.2.1⟩
 ·rw [(Nn.mp hc).2];decide
 ·exact⟨h.c.2.1.1,h.c.2.1.2.1⟩
 ·exact⟨h.s.2.1.1,h.s.2.1.2.1⟩
theorem hY (So:b1 46=Hb): ∀k,cO b1 Qk (Hy k 46)=Hy k 46
 |0=>rfl
 |k+1=>by rw [LQ,show 46::Hy k 46=[46]++Hy k 46 from rfl,dG,hY So k];simp [cO,So]
theorem qt {c:Nat} (h1:b1 c=Hb) (h2:okc c):cO b1 Qk [c]=Qk c:=by obtain⟨a,b,d⟩:=h2;simp [cO,h1,a,b,d]
theorem jh.out (So:b1 46=Hb) {l:Ln} (h:jh b1 Qk l):cO b1 Qk (mh l.raw)=l.out:=by
 have tail:cO b1 Qk [l.c]++cO b1 Qk [l.s]=l.name:=by
  rw [qt h.c.1 h.c.2.1,qt h.s.1 h.s.2.1,h.c.2.2,h.s.2.2]
  rfl
 rcases h.v with q|⟨x,q,hx1,hx2⟩
 ·have e:mh l.raw=Hy (l.d+2) 46++[l.c]++[l.s]:=by
   have e0:l.raw=Hy (l.d+1) 46++[l.c]++[l.s]:=by unfold Ln.raw;rw [q];rfl
   rw [e0,LQ]
   rfl
  rw [e,dG,dG,hY So,HW,tail];unfold Ln.out Ln.D;rw [if_pos q]
 ·haveI e:mh l.raw=[x]++Hy (l.d+1) 46++[l.c]++[l.s]:=by
   haveI e0:l.raw=[x]++Hy (l.d+1) 46++[l.c]++[l.s]:=by unfold Ln.raw;rw [q]
   rw [e0];unfold mh;exact if_neg (show¬(([x]++Hy (l.d+1) 46++[l.c]++[l.s]).head? =H7 46)from λh=>hx2.2.2 (Hg h))
  haveI ex:cO b1 Qk [x]=[]:=by simp [cO,hx1]
  rw [e,dG,dG,dG,hY So,ex,Jd,HW,tail];unfold Ln.out Ln.D;rw [if_neg (by rw [q];simp)]
theorem jh.nameok {l:Ln} (h:jh b1 Qk l): ∀x∈l.name,okc x:=by
 intro x hx;unfold Ln.name at hx;simp only [Ik,Hx]at hx;rcases hx with rfl|rfl
 ·exact h.mp
 ·exact h.s.2.1
theorem jh.outok {l:Ln} (h:jh b1 Qk l):13∉l.out:=by
 intro q;unfold Ln.out at q;rcases Ik.mp q with q|q
 ·have:=(Nn.mp q).2;lia
 ·exact(h.nameok 13 q).2.1 rfl
theorem yG (So:b1 46=Hb) (h13:b1 13=Hb) (h10:b1 10=Hb) {ls:List Ln} (h: ∀l∈ls,jh b1 Qk l) {es:List (List Nat)} (Rr:es.length=ls.length) (he: ∀e∈es,e=[10]∨e=[13]∨e=[13,10]) (Xr:Bool):
  cO b1 Qk (dd Hd (nl Hb (em ((ls.map Ln.raw).zip es)++([13,13,10,46]++if Xr=Hd then [10]else []))))=
   if Xr=Hd then bI (ls.map Ln.out++[[],[],[46,46]])++[]else bI (ls.map Ln.out++[[],[]])++[46,46]:=by
 have hz:((ls.map Ln.raw).zip es).map (·.1)=ls.map Ln.raw:=by rw [Mz];rw [Hf];exact Hu (IW Rr)
 have hp: ∀p∈(ls.map Ln.raw).zip es,p.1≠[]/\(∀c∈p.1,c≠10/\c≠13)/\(p.2=[10]∨p.2=[13]∨p.2=[13,10]):=λp hp=>by obtain⟨l,hl,e⟩:=HC.mp (O1 hp).1;have:=(h l hl).plain;rw [e]at this;exact⟨this.1,this.2,he _ (O1 hp).2⟩
 have hr: ∀l∈ls.map Ln.raw,∀c∈l,c≠10:=λl hl c hc=>by obtain⟨x,hx,rfl⟩:=HC.mp hl;exact((h x hx).plain.2 c hc).1
 have Sb:((ls.map Ln.raw).map mh).map (cO b1 Qk)=ls.map Ln.out:=by rw [HU,HU];exact JI λl hl=>(h l hl).out So
 have RU: ∀a b,bI (a++b)=bI a++bI b:=λa b=>by simp [bI]
 have pd:cO b1 Qk [46,46]=[46,46]:=hY So 2;cases Xr with
 |true=>
  rw [(oO (tail:=[13,13,10,46]++if Hd=Hd then [10]else []) (by decide) _ hp).1,hz,if_pos rfl,if_pos rfl]
  have e1:nl Hb ([13,13,10,46]++[10])=bI [[],[],[46]]++[]:=rfl;rw [e1,<-HW,<-RU,oY [] _ (λl hl=>by
   rcases Ik.mp hl with q|q
   ·exact hr l q
   ·intro c hc
    simp only [Hp,HF,or_false]at q;rcases q with rfl|rfl|rfl
    ·cases hc
    ·cases hc
    ·rw [Hx.mp hc];decide),jA h13 h10,HY,HY,Sb]
  show bI (_++[[],[],cO b1 Qk [46,46]])++[]=_;rw [pd]
 |false=>
  rw [(oO (tail:=[13,13,10,46]++if Hb=Hd then [10]else []) (by decide) _ hp).1,hz,if_neg (by decide),if_neg (by decide)]
  have e1:nl Hb ([13,13,10,46]++[])=bI [[],[]]++[46]:=rfl;rw [e1,<-HW,<-RU,oY [46] _ (λl hl=>by
   rcases Ik.mp hl with q|q
   ·exact hr l q
   ·intro c hc
    simp only [Hp,HF,or_false]at q;rcases q with rfl|rfl
    ·cases hc
    ·cases hc),jA h13 h10,HY,HY,Sb]
  show bI (_++[[],[]])++cO b1 Qk [46,46]=_;rw [pd]
end
def veilsL:List Nat:=[173,847,6150,6155,6156,6157,8203,8204,8205,8288,65279,65024,65025,65026,65027,65028,65029,65030,65031,65032,65033,65034,65035,65036,65037,65038,65039]
def ej:List Nat:=[172,174,846,848,6149,6151,6154,6158,8202,8206,8287,8289,65023,65040,65278,65280,11,28,133,8232]
def jT:List Nat:=[0,1,2,4,7,8,9,10,11,12]
def d4 (c:Nat):Bool:=veilsL.contains c
def cH (c:Nat):List Nat:=match iI.lookup (c:Int)with
 |some s=>s.cps.toList
 |none=>(KR ⟨#[c]⟩).cps.toList
instance (x:Nat):Decidable (okc x):=by unfold okc;infer_instance
def pQ (t c:Nat):Bool:= !d4 c&&decide (okc c)&&(cH c==[102+t])
theorem wP: ∀t,t<14->pQ t (70+t)=Hd/\pQ t (102+t)=Hd/\okc (102+t)/\ ∀i,i<10->pQ t (119808+52*jT.getD i 0+(5+t))=Hd:=by decide+kernel
theorem y4: ∀i,i<20->d4 (ej.getD i 0)=Hb/\okc (ej.getD i 0)/\cH (ej.getD i 0)=[ej.getD i 0]:=by decide+kernel
theorem xP: ∀i,i<27->d4 (veilsL.getD i 0)=Hd/\okc (veilsL.getD i 0):=by decide+kernel
theorem wG:d4 46=Hb/\d4 13=Hb/\d4 10=Hb:=by decide+kernel
theorem vj: ∀i,i<20-> ∀j,j<20->ej.getD i 0=ej.getD j 0->i=j:=by decide+kernel
theorem iB:(∀i,i<27->veilsL.getD i 0<=70000)/\(∀i,i<20->ej.getD i 0<=70000)/\(∀i,i<10->jT.getD i 0<=12):=by decide+kernel
def io (t:Nat) (way:Int):Nat:=if md way 4=0 then 70+t else if md way 4=1 then 102+t else 119808+52*jT.getD (md (way.fdiv 4) 10) 0+(5+t)
variable {t:Nat}
theorem zS (ht:t<14) (way:Int):d4 (io t way)=Hb/\okc (io t way)/\cH (io t way)=[102+t]:=by
 have h:pQ t (io t way)=Hd:=by
  obtain⟨h1,h2,_,h3⟩:=wP t ht;unfold io;split
  ·exact h1
  ·split
   ·exact h2
   ·exact h3 _ (d_ _ (by decide))
 unfold pQ at h;simpa [and_assoc]using h
def mf (m way:Int) (e:Nat×Nat×Nat×Bool):Ln:=⟨e.2.2.1,if e.2.2.2=Hd then []else [veilsL.getD (md way 27) 0],io e.1 way,ej.getD (md (m+(e.1:Nat)+(5*e.2.1:Nat)) 20) 0,102+e.1⟩
theorem AE {e:Nat×Nat×Nat×Bool} (h:e.1<14) (m way:Int):jh d4 cH (mf m way e)where
 v:=by
  show(if e.2.2.2=Hd then []else [veilsL.getD (md way 27) 0])=[]∨ ∃x,(if e.2.2.2=Hd then []else [veilsL.getD (md way 27) 0])=[x]/\_;by_cases h:e.2.2.2=Hd
  ·exact .inl (if_pos h)
  ·exact .inr ⟨_,if_neg h,xP _ (d_ way (by decide))⟩
 c:=zS h way
 s:=y4 _ (d_ _ (by decide))
 mp:=(wP e.1 h).2.2.1
def lnV (l:Ln):PV:= .tuple [.int (l.d:Nat),sv l.name,sv l.v,sv l.raw]
def lnsFrom (m:Int):Nat->List (Nat×Nat×Nat×Bool)->List Ln
 |_,[]=>[]
 |i,e::r=>mf m (m+(i:Nat)) e::lnsFrom m (i+1) r
theorem iQ (m:Int): ∀(es:List (Nat×Nat×Nat×Bool)) (i:Nat),(lnsFrom m i es).length=es.length
 |[],_=>rfl
 |e::es,i=>congrArg L0 (iQ m es (i+1))
theorem uC (m:Int) (b:List (Nat×Nat×Nat×Bool)): ∀(a:List (Nat×Nat×Nat×Bool)) (i:Nat),lnsFrom m i (a++b)=lnsFrom m i a++lnsFrom m (i+a.length) b
 |[],_=>rfl
 |e::a,i=>by show mf m (m+(i:Nat)) e::lnsFrom m (i+1) (a++b)=mf m (m+(i:Nat)) e::(lnsFrom m (i+1) a++_);rw [uC m b a (i+1),Hv,I7,Iv 1]
theorem qq: ∀n,bh [46] n=Hy n 46
 |0=>rfl
 |n+1=>by rw [my,qq n];rfl
variable {n:Nat}
theorem vH (h:n<=1000000):eg .Mult (.str ⟨#[46]⟩) (.int n)=H7 (sv (Hy n 46)):=by show(if 0<=(n:Int)/\(⟨#[46]⟩:HJ).length<=1/\(n:Int)<=1000000 then H7 (PV.str ⟨(bh [46] (n:Int).toNat).toArray⟩)else H9)=_;rw [if_pos ⟨by exact HA _,by decide,by lia⟩,I3,qq]
def uV:List PS:=[.set 8 2 (.bin .Add (.var 1) (.bi .len [(.var 4)])),.set 9 2 (.idx (.cS ⟨#[102,103,104,105,106,107,108,109,110,111,112,113,114,115,116,117,118,119,120,121]⟩) (.var 5)),.set 10 0 (.ife (.cmp .LtE (.idx (.var 6) (.var 7)) (.idx (.var 6) (.bin .Sub (.var 7) (.cI 1)))) (.cS ⟨#[]⟩) (.bi .chr [(.idx (.var 2) (.bin .Mod (.var 8) (.cI 27)))])),.set 11 2 (.bi .chr [(.idx (.var 3) (.bin .Mod (.bin .Add (.bin .Add (.var 1) (.var 5)) (.bin .Mult (.cI 5) (.var 7))) (.cI 20)))]),.set 12 0 (.bin .Add (.bin .Add (.bin .Add (.var 10) (.bin .Mult (.cS ⟨#[46]⟩) (.bin .Add (.cI 1) (.idx (.var 6) (.var 7))))) (.call 17 [(.var 9),(.var 8)])) (.var 11)),.app 4 0 (.tup [(.idx (.var 6) (.var 7)),(.bin .Add (.var 9) (.var 11)),(.var 10),(.var 12)])]
def wj:List PS:=[.set 6 0 (.call 16 [(.idx (.var 0) (.var 5))]),.for_ (.one 7) (.ex (.rng [(.cI 1),(.bi .len [(.var 6)])])) uV]
def nR (W:PV) (m:Int) (ln:List Ln) (p5 p6 p7 p8 p9 p10 QT QH:Option PV):Ρ:=
 [H7 W,H7 (.int m),H7 (aA veilsL),H7 (aA ej),H7 (.list (ln.map lnV)),p5,p6,p7,p8,p9,p10,QT,QH]
variable {b:Nat}
theorem fB {a:Nat} (ha:a<=100):eg .Mult (.int (a:Nat)) (.int (b:Nat))=H7 (.int ((a*b:Nat):Int)):=by
 have h:Nu (a:Int) (b:Nat):=IntMulOk.of_left (by exact H8 (dK a 7 (by lia)) (by decide))
 show bB (Nu (a:Int) (b:Nat)) ((a:Int)*(b:Nat))=_;unfold bB;rw [if_pos h,K6]
variable {Γ:Gam} {W:PV} {m:Int} {j:Nat} {ds:List Nat}
section
theorem xT (ht:t<14) (way:Int):aE Γ 2 [0,1] dL [sv [102+t],.int way]=H7 (sv [io t way]):=by
 have TE:t<=14:=HP ht;have hm: ∀k:Nat,aJ Γ (.cmp .Eq (.bin .Mod (.var 1) (.cI 4)) (.cI (k:Nat))) [H7 (sv [102+t]),H7 (.int way)]=H7 (((md way 4:Nat):Int)==(k:Int)):=λk=>c7 (fm (n:=4) (a:= .var 1) (way:=way) rfl (by decide)) (b:= .int (k:Nat)) rfl rfl
 have P:ag Γ dL [H7 (sv [102+t]),H7 (.int way)] []=H7 (.ret (sv [io t way])):=by
  unfold io;by_cases h0:md way 4=0
  ·rw [if_pos h0]
   refine ak (an (hm 0) ?_);rw [if_pos (by simp [h0])]
   refine ak (aC (dh (v:= .int (70+t:Nat)) ?_ (zB (by lia))))
   show H7 (PV.int (((102+t:Nat):Int)-32))=_
   congr 2;lia
  ·rw [if_neg h0]
   refine(aa (ρ':=[H7 (sv [102+t]),H7 (.int way)]) (Qb:=[]) (an (hm 0) ?_)).trans ?_
   ·rw [if_neg (λq=>h0 (by have:=eq_of_beq q;lia))];rfl
   ·by_cases h1:md way 4=1
    ·rw [if_pos h1]
     refine ak (an (hm 1) ?_);rw [if_pos (by simp [h1])]
     rfl
    ·rw [if_neg h1]
     refine(aa (ρ':=[H7 (sv [102+t]),H7 (.int way)]) (Qb:=[]) (an (hm 1) ?_)).trans ?_
     ·rw [if_neg (λq=>h1 (by have:=eq_of_beq q;lia))];rfl
     ·have hi:=d_ (way.fdiv 4) (n:=10) (by decide)
      have ha:=iB.2.2 _ hi;refine ak (aC (dh (v:= .int (119808+52*jT.getD (md (way.fdiv 4) 10) 0+(5+t):Nat)) ?_ (zB (by lia))))
      have e1:pev Γ (.bin .Mod (.bin .FloorDiv (.var 1) (.cI 4)) (.cI 10)) [H7 (sv [102+t]),H7 (.int way)]=H7 (.int (md (way.fdiv 4) 10:Nat)):=fm (n:=10) (way:=way.fdiv 4) (af (a:= .int way) (b:= .int 4) rfl rfl (tV (by decide) (by decide))) (by decide)
      have e2:pev Γ (.idx (.list [(.cI 0),(.cI 1),(.cI 2),(.cI 4),(.cI 7),(.cI 8),(.cI 9),(.cI 10),(.cI 11),(.cI 12)]) (.bin .Mod (.bin .FloorDiv (.var 1) (.cI 4)) (.cI 10))) [H7 (sv [102+t]),H7 (.int way)]=H7 (.int (jT.getD (md (way.fdiv 4) 10) 0:Nat)):=aM (a:=aA jT) rfl e1 (dm hi (by decide))
      have e3:=fB (a:=52) (b:=jT.getD (md (way.fdiv 4) 10) 0) (by decide)
      refine af (b:= .int 97) (af (af rfl (af rfl e2 e3) rfl) (b:= .int (102+t:Nat)) rfl rfl) rfl ?_;show H7 (PV.int ((119808:Int)+((52*jT.getD (md (way.fdiv 4) 10) 0:Nat):Int)+((102+t:Nat):Int)-97))=_
      congr 2;lia
 show((ag Γ dL [H7 (sv [102+t]),H7 (.int way)] []).bind _)=_;rw [P]
 rfl
theorem Gv (ht:t<14):gi (.str ⟨#[102,103,104,105,106,107,108,109,110,111,112,113,114,115,116,117,118,119,120,121]⟩) (.int t)=H7 (sv [102+t]):=by
 have:t=0∨t=1∨t=2∨t=3∨t=4∨t=5∨t=6∨t=7∨t=8∨t=9∨t=10∨t=11∨t=12∨t=13:=by lia
 rcases this with rfl|rfl|rfl|rfl|rfl|rfl|rfl|rfl|rfl|rfl|rfl|rfl|rfl|rfl<;>kernel_rfl
theorem yK {ln:List Ln} {p8 p9 p10 QT QH:Option PV} (S9: ∀(t:Nat) (way:Int),t<14->Γ.fn 17 [sv [102+t],.int way]=H7 (sv [io t way]))
  (ht:t<14) (h1:1<=j) (hj:j<ds.length) (hd: ∀d∈ds,d<=100) (hl:ds.length<=100) (hn:ln.length<=1000): ∃q8 q9 q10 TX TW,
  ag Γ uV (nR W m ln (H7 (.int t)) (H7 (aA ds)) (H7 (.int j)) p8 p9 p10 QT QH) [4,3]=
   H7 (.next (nR W m (ln++[mf m (m+(ln.length:Nat)) (t,j,ds.getD j 0,decide (ds.getD j 0<=ds.getD (j-1) 0))]) (H7 (.int t)) (H7 (aA ds)) (H7 (.int j)) q8 q9 q10 TX TW) [4,3]):=by
 generalize hw:m+(ln.length:Int)=way;have l27:=d_ way (n:=27) (by decide)
 have l20:=d_ (m+(t:Nat)+(5*j:Nat)) (n:=20) (by decide)
 have v27:=iB.1 _ l27;have v20:=iB.2.1 _ l20;have hdj:ds.getD j 0<=100:=by
  have e:ds.getD j 0=ds[j]:=by simp [KP,hj]
  rw [e];exact hd _ (Kh hj)
 generalize QR:ej.getD (md (m+(t:Nat)+(5*j:Nat)) 20) 0=st at*
 generalize hve:(if decide (ds.getD j 0<=ds.getD (j-1) 0)=Hd then []else [veilsL.getD (md way 27) 0])=ve;have Uk:ve.length<=1:=by rw [<-hve];split<;>simp
 let raw:List Nat:=ve++Hy (ds.getD j 0+1) 46++[io t way]++[st];have s1:az Γ (.set 8 2 (.bin .Add (.var 1) (.bi .len [(.var 4)]))) (nR W m ln (H7 (.int t)) (H7 (aA ds)) (H7 (.int j)) p8 p9 p10 QT QH) [4,3]=H7 (.next (nR W m ln (H7 (.int t)) (H7 (aA ds)) (H7 (.int j)) (H7 (.int way)) p9 p10 QT QH) [4,3]):=by
  refine e9 (v:= .int way) (af (a:= .int m) rfl (dh (v:= .list (ln.map lnV)) rfl (dk (by rw [Hf];exact Hk hn (by decide)))) ?_) rfl
  rw [Hf,<-hw];rfl
 have s2:az Γ (.set 9 2 (.idx (.cS ⟨#[102,103,104,105,106,107,108,109,110,111,112,113,114,115,116,117,118,119,120,121]⟩) (.var 5))) (nR W m ln (H7 (.int t)) (H7 (aA ds)) (H7 (.int j)) (H7 (.int way)) p9 p10 QT QH) [4,3]=H7 (.next (nR W m ln (H7 (.int t)) (H7 (aA ds)) (H7 (.int j)) (H7 (.int way)) (H7 (sv [102+t])) p10 QT QH) [4,3]):=by exact e9 (aM (a:= .str ⟨#[102,103,104,105,106,107,108,109,110,111,112,113,114,115,116,117,118,119,120,121]⟩) (b:= .int t) rfl rfl (Gv ht)) rfl
 have s3:az Γ (.set 10 0 (.ife (.cmp .LtE (.idx (.var 6) (.var 7)) (.idx (.var 6) (.bin .Sub (.var 7) (.cI 1)))) (.cS ⟨#[]⟩) (.bi .chr [(.idx (.var 2) (.bin .Mod (.var 8) (.cI 27)))]))) (nR W m ln (H7 (.int t)) (H7 (aA ds)) (H7 (.int j)) (H7 (.int way)) (H7 (sv [102+t])) p10 QT QH) [4,3]=H7 (.next (nR W m ln (H7 (.int t)) (H7 (aA ds)) (H7 (.int j)) (H7 (.int way)) (H7 (sv [102+t])) (H7 (sv ve)) QT QH) [4,3]):=by
  refine e9 (v:=sv ve) ?_ rfl;have e1:pev Γ (.idx (.var 6) (.var 7)) (ek 0 (nR W m ln (H7 (.int t)) (H7 (aA ds)) (H7 (.int j)) (H7 (.int way)) (H7 (sv [102+t])) p10 QT QH) [4,3])=H7 (.int (ds.getD j 0:Nat)):=aM (a:=aA ds) (b:= .int j) rfl rfl (dm hj (by exact H8 hl (by decide)))
  have e2:pev Γ (.idx (.var 6) (.bin .Sub (.var 7) (.cI 1))) (ek 0 (nR W m ln (H7 (.int t)) (H7 (aA ds)) (H7 (.int j)) (H7 (.int way)) (H7 (sv [102+t])) p10 QT QH) [4,3])=H7 (.int (ds.getD (j-1) 0:Nat)):=by
   refine aM (a:=aA ds) (b:= .int (j-1:Nat)) rfl ?_ (dm (by lia) (by exact H8 hl (by decide)))
   show H7 (PV.int ((j:Int)-1))=_
   congr 2;lia
  refine gU (t:=decide (((ds.getD j 0:Nat):Int)<=((ds.getD (j-1) 0:Nat):Int))) (c7 e1 e2 rfl) ?_;by_cases h:ds.getD j 0<=ds.getD (j-1) 0
  ·rw [if_pos (decide_eq_true (M2.mpr h)),<-hve,if_pos (decide_eq_true h)];rfl
  ·rw [if_neg (by simpa using h),<-hve,if_neg (by simpa using h)]
   exact dh (aM (a:=aA veilsL) rfl (fm (n:=27) (a:= .var 8) (way:=way) rfl (by decide)) (dm l27 (by decide))) (zB (by exact H8 v27 (by decide)))
 have s4:az Γ (.set 11 2 (.bi .chr [(.idx (.var 3) (.bin .Mod (.bin .Add (.bin .Add (.var 1) (.var 5)) (.bin .Mult (.cI 5) (.var 7))) (.cI 20)))])) (nR W m ln (H7 (.int t)) (H7 (aA ds)) (H7 (.int j)) (H7 (.int way)) (H7 (sv [102+t])) (H7 (sv ve)) QT QH) [4,3]=H7 (.next (nR W m ln (H7 (.int t)) (H7 (aA ds)) (H7 (.int j)) (H7 (.int way)) (H7 (sv [102+t])) (H7 (sv ve)) (H7 (sv [st])) QH) [4,3]):=by
  refine e9 (v:=sv [st]) ?_ rfl;have e5:=fB (a:=5) (b:=j) (by decide)
  rw [<-QR]at v20 ⊢
  exact dh (aM (a:=aA ej) rfl (fm (n:=20) (way:=m+(t:Nat)+(5*j:Nat)) (af (af (a:= .int m) (b:= .int t) rfl rfl rfl) (af (a:= .int 5) (b:= .int j) rfl rfl e5) rfl) (by decide)) (dm l20 (by decide))) (zB (by exact H8 v20 (by decide)))
 have s5:az Γ (.set 12 0 (.bin .Add (.bin .Add (.bin .Add (.var 10) (.bin .Mult (.cS ⟨#[46]⟩) (.bin .Add (.cI 1) (.idx (.var 6) (.var 7))))) (.call 17 [(.var 9),(.var 8)])) (.var 11))) (nR W m ln (H7 (.int t)) (H7 (aA ds)) (H7 (.int j)) (H7 (.int way)) (H7 (sv [102+t])) (H7 (sv ve)) (H7 (sv [st])) QH) [4,3]=H7 (.next (nR W m ln (H7 (.int t)) (H7 (aA ds)) (H7 (.int j)) (H7 (.int way)) (H7 (sv [102+t])) (H7 (sv ve)) (H7 (sv [st])) (H7 (sv raw))) [4,3]):=by
  refine e9 (v:=sv raw) ?_ rfl;have e1:pev Γ (.idx (.var 6) (.var 7)) (ek 0 (nR W m ln (H7 (.int t)) (H7 (aA ds)) (H7 (.int j)) (H7 (.int way)) (H7 (sv [102+t])) (H7 (sv ve)) (H7 (sv [st])) QH) [4,3])=H7 (.int (ds.getD j 0:Nat)):=aM (a:=aA ds) (b:= .int j) rfl rfl (dm hj (by exact H8 hl (by decide)))
  have e2:pev Γ (.bin .Mult (.cS ⟨#[46]⟩) (.bin .Add (.cI 1) (.idx (.var 6) (.var 7)))) (ek 0 (nR W m ln (H7 (.int t)) (H7 (aA ds)) (H7 (.int j)) (H7 (.int way)) (H7 (sv [102+t])) (H7 (sv ve)) (H7 (sv [st])) QH) [4,3])=H7 (sv (Hy (ds.getD j 0+1) 46)):=by
   refine af rfl (af (c:= .int (ds.getD j 0+1:Nat)) rfl e1 ?_) (vH (by exact H8 (HM hdj) (by decide)))
   show H7 (PV.int (1+((ds.getD j 0:Nat):Int)))=_
   congr 2;lia
  refine dC (y:=[st]) (dC (dC (x:=ve) rfl e2 ?_) (aq (vs:=[sv [102+t],.int way]) (ac rfl (ac rfl rfl)) (S9 t way ht)) ?_) rfl ?_<;>simp only [Hn,Jt,Hv,I0]<;>lia
 have s6:az Γ (.app 4 0 (.tup [(.idx (.var 6) (.var 7)),(.bin .Add (.var 9) (.var 11)),(.var 10),(.var 12)])) (nR W m ln (H7 (.int t)) (H7 (aA ds)) (H7 (.int j)) (H7 (.int way)) (H7 (sv [102+t])) (H7 (sv ve)) (H7 (sv [st])) (H7 (sv raw))) [4,3]=H7 (.next (nR W m (ln++[mf m way (t,j,ds.getD j 0,decide (ds.getD j 0<=ds.getD (j-1) 0))]) (H7 (.int t)) (H7 (aA ds)) (H7 (.int j)) (H7 (.int way)) (H7 (sv [102+t])) (H7 (sv ve)) (H7 (sv [st])) (H7 (sv raw))) [4,3]):=by
  have e1:pev Γ (.idx (.var 6) (.var 7)) (ek 0 (nR W m ln (H7 (.int t)) (H7 (aA ds)) (H7 (.int j)) (H7 (.int way)) (H7 (sv [102+t])) (H7 (sv ve)) (H7 (sv [st])) (H7 (sv raw))) [4,3])=H7 (.int (ds.getD j 0:Nat)):=aM (a:=aA ds) (b:= .int j) rfl rfl (dm hj (by exact H8 hl (by decide)))
  have ev:pev Γ (.tup [(.idx (.var 6) (.var 7)),(.bin .Add (.var 9) (.var 11)),(.var 10),(.var 12)]) (ek 0 (nR W m ln (H7 (.int t)) (H7 (aA ds)) (H7 (.int j)) (H7 (.int way)) (H7 (sv [102+t])) (H7 (sv ve)) (H7 (sv [st])) (H7 (sv raw))) [4,3])=H7 (.tuple [.int (ds.getD j 0:Nat),sv ([102+t]++[st]),sv ve,sv raw]):=by
   show(cE Γ [_,_,_,_] _).bind ou=_;rw [ac e1 (ac (dC (x:=[102+t]) (y:=[st]) rfl rfl (by simp)) (ac rfl (ac rfl rfl)))]
   rfl
  have e:lnV (mf m way (t,j,ds.getD j 0,decide (ds.getD j 0<=ds.getD (j-1) 0)))= .tuple [.int (ds.getD j 0:Nat),sv ([102+t]++[st]),sv ve,sv raw]:=by unfold lnV mf Ln.raw Ln.name;rw [hve,QR]
  have ha:=fF (Γ:=Γ) (x:=4) (xs:=ln.map lnV) (ρ:=nR W m ln (H7 (.int t)) (H7 (aA ds)) (H7 (.int j)) (H7 (.int way)) (H7 (sv [102+t])) (H7 (sv ve)) (H7 (sv [st])) (H7 (sv raw))) (own:=[4,3]) rfl (zC ev) rfl (by rw [Hf];exact Hk hn (by decide))
  rw [ha,<-e];unfold nR;rw [HY]
  rfl
 exact⟨_,_,_,_,_,by rw [uV,aa s1,aa s2,aa s3,aa s4,aa s5,cw s6]⟩
end
def dps:Nat->List Nat->List Nat
 |_,[]=>[]
 |d,c::r=>if c=40 then d::dps (d+1) r else dps (d-1) r
abbrev depL (n t:Nat):List Nat:=dps 0 ((wordsN n).getD t [])
def B_ (t:Nat) (ds:List Nat) (j:Nat):Nat×Nat×Nat×Bool:=(t,j,ds.getD j 0,decide (ds.getD j 0<=ds.getD (j-1) 0))
def wg (n t:Nat):List (Nat×Nat×Nat×Bool):=(Ir 1 ((depL n t).length-1)).map (B_ t (depL n t))
def tabN (n:Nat):List (Nat×Nat×Nat×Bool):=(rg (wordsN n).length).flatMap (wg n)
def lnsN (m:Int) (n:Nat):List Ln:=lnsFrom m 0 (tabN n)
theorem gJ: ∀n∈[3,4],(wordsN n).length<=14/\0<(wordsN n).length/\(∀t,t<(wordsN n).length->(depL n t).length=n/\ ∀d∈depL n t,d<=100)/\(tabN n).length<=42/\0<(tabN n).length:=by decide+kernel
theorem mM: ∀n∈[3,4],(∀e∈tabN n,e.1<14/\e.2.1<4/\e.2.2.1<=100)/\((tabN n).map λe=>(e.1,e.2.1)).Nodup:=by decide+kernel
variable {k:Nat}
section
theorem B5: ∀n∈[3,4],(wordsN n).map (λw=>aE Γ 4 [0] dX [sv w])=(wordsN n).map λw=>H7 (aA (dps 0 w)):=by intro n hn;simp only [Hp,HF,or_false]at hn;rcases hn with rfl|rfl<;>kernel_rfl
theorem zg (hn:n∈[3,4]) {w:List Nat} (hw:w∈wordsN n):aE Γ 4 [0] dX [sv w]=H7 (aA (dps 0 w)):=KC.mp (B5 n hn) w hw
theorem nk (S9: ∀(t:Nat) (way:Int),t<14->Γ.fn 17 [sv [102+t],.int way]=H7 (sv [io t way])) (ht:t<14) (hd: ∀d∈ds,d<=100) (hl:ds.length<=100): ∀(js:List Nat) (ln:List Ln) (p7 p8 p9 p10 QT QH:Option PV),(∀j∈js,1<=j/\j<ds.length)->ln.length+js.length<=1000->
  ∃q7 q8 q9 q10 TX TW,eG (.one 7) (λρ own=>ag Γ uV ρ own) (js.map λj=>PV.int (j:Nat)) (nR W m ln (H7 (.int t)) (H7 (aA ds)) p7 p8 p9 p10 QT QH) [4,3]=
   H7 (.next (nR W m (ln++lnsFrom m ln.length (js.map (B_ t ds))) (H7 (.int t)) (H7 (aA ds)) q7 q8 q9 q10 TX TW) [4,3])
 |[],ln,p7,p8,p9,p10,QT,QH,_,_=>⟨p7,p8,p9,p10,QT,QH,by rw [Ko,Ko,lnsFrom,IS];rfl⟩
 |j::js,ln,p7,p8,p9,p10,QT,QH,hj,hln=>by
  have h0:=hj j Hs;simp only [Hv]at hln;obtain⟨q8,q9,q10,TX,TW,hb⟩:=yK (W:=W) (m:=m) (ln:=ln) (p8:=p8) (p9:=p9) (p10:=p10) (QT:=QT) (QH:=QH) S9 ht h0.1 h0.2 hd hl (by lia)
  obtain⟨r7,r8,r9,Xn,Xm,Xl,ih⟩:=nk S9 ht hd hl js (ln++[mf m (m+(ln.length:Nat)) (B_ t ds j)]) (H7 (.int j)) q8 q9 q10 TX TW (λk hk=>hj k (Hq _ hk)) (by rw [Hn,JY];lia)
  refine⟨r7,r8,r9,Xn,Xm,Xl, ?_⟩;rw [HI,pW (by decide)]
  show(match ag Γ uV (nR W m ln (H7 (.int t)) (H7 (aA ds)) (H7 (.int j)) p8 p9 p10 QT QH) [4,3]with|some (.next ρ own)=>_|some (.ret v)=>_|none=>_)=_
  rw [hb];refine ih.trans ?_;rw [Hn,JY,HI,lnsFrom,HW]
  rfl
theorem nj (hn:n∈[3,4]) (U': ∀w∈wordsN n,Γ.fn 16 [sv w]=H7 (aA (dps 0 w))) (S9: ∀(t:Nat) (way:Int),t<14->Γ.fn 17 [sv [102+t],.int way]=H7 (sv [io t way])): ∀(ts:List Nat) (ln:List Ln) (p5 p6 p7 p8 p9 p10 QT QH:Option PV),(∀t∈ts,t<(wordsN n).length)->ln.length+10*ts.length<=1000->
  ∃q5 q6 q7 q8 q9 q10 TX TW,eG (.one 5) (λρ own=>ag Γ wj ρ own) (ts.map λt=>PV.int (t:Nat)) (nR (.list ((wordsN n).map sv)) m ln p5 p6 p7 p8 p9 p10 QT QH) [4,3]=
   H7 (.next (nR (.list ((wordsN n).map sv)) m (ln++lnsFrom m ln.length (ts.flatMap (wg n))) q5 q6 q7 q8 q9 q10 TX TW) [4,3])
 |[],ln,p5,p6,p7,p8,p9,p10,QT,QH,_,_=>⟨p5,p6,p7,p8,p9,p10,QT,QH,by rw [Ko,List.flatMap_nil,lnsFrom,IS];rfl⟩
 |t::ts,ln,p5,p6,p7,p8,p9,p10,QT,QH,ht,hln=>by
  obtain⟨w1,_,w2,_⟩:=gJ n hn;have WF:=ht t Hs;obtain⟨d1,d2⟩:=w2 t WF;have hn4:n<=4:=by simp only [Hp,HF,or_false]at hn;lia
  simp only [Hv]at hln;have hw:(wordsN n).getD t []∈wordsN n:=by
   have e:(wordsN n).getD t []=(wordsN n)[t]:=by simp [KP,WF]
   rw [e];exact Kh WF
  have hjs: ∀j∈Ir 1 ((depL n t).length-1),1<=j/\j<(depL n t).length:=λj hj=>by rw [Mi]at hj;lia
  have Xz:(wg n t).length<=4:=by unfold wg;rw [Hf,Il,d1];lia
  obtain⟨r7,r8,r9,Xn,Xm,Xl,hi⟩:=nk (W:= .list ((wordsN n).map sv)) (m:=m) (t:=t) (ds:=depL n t) S9 (by lia) d2 (by lia) (Ir 1 ((depL n t).length-1)) ln p7 p8 p9 p10 QT QH hjs (by rw [Il];lia)
  obtain⟨s5,s6,s7,s8,s9,s10,s11,s12,ih⟩:=nj hn U' S9 ts (ln++lnsFrom m ln.length (wg n t)) (H7 (.int t)) (H7 (aA (depL n t))) r7 r8 r9 Xn Xm Xl (λk hk=>ht k (Hq _ hk)) (by rw [Hn,iQ];lia)
  refine⟨s5,s6,s7,s8,s9,s10,s11,s12, ?_⟩;rw [HI,pW (by decide)]
  have a1:az Γ (.set 6 0 (.call 16 [(.idx (.var 0) (.var 5))])) (nR (.list ((wordsN n).map sv)) m ln (H7 (.int t)) p6 p7 p8 p9 p10 QT QH) [4,3]=H7 (.next (nR (.list ((wordsN n).map sv)) m ln (H7 (.int t)) (H7 (aA (depL n t))) p7 p8 p9 p10 QT QH) [4,3]):=
   e9 (v:=aA (depL n t)) (aq (ac (aM (a:= .list ((wordsN n).map sv)) (b:= .int t) rfl rfl (lG WF (by lia))) rfl) (U' _ hw)) rfl
  have Qe:pit Γ (.ex (.rng [(.cI 1),(.bi .len [(.var 6)])])) (aw (nR (.list ((wordsN n).map sv)) m ln (H7 (.int t)) (H7 (aA (depL n t))) p7 p8 p9 p10 QT QH) [4,3])=H7 ((Ir 1 ((depL n t).length-1)).map λi=>PV.int (i:Nat)):=
   oE (m:=1) (n:=(depL n t).length) rfl (dh (v:=aA (depL n t)) rfl (mZ (by lia))) (by lia) (by decide)
  have a2:=(eE (Γ:=Γ) (pt:= .one 7) (body:=uV) (own:=[4,3]) Qe).trans hi;show(match ag Γ wj (nR (.list ((wordsN n).map sv)) m ln (H7 (.int t)) p6 p7 p8 p9 p10 QT QH) [4,3]with|some (.next ρ own)=>_|some (.ret v)=>_|none=>_)=_
  rw [wj,aa a1,cw a2];refine ih.trans ?_;rw [Hn,iQ,Mj,uC,HW]
theorem tC:ag Γ bC [H7 W,H7 (.int m),H9,H9,H9,H9,H9,H9,H9,H9,H9,H9,H9] []=ag Γ (bC.drop 4) (nR W m [] H9 H9 H9 H9 H9 H9 H9 H9) [4,3]:=by kernel_rfl
theorem tD (hn:n∈[3,4]) (U': ∀w∈wordsN n,Γ.fn 16 [sv w]=H7 (aA (dps 0 w))) (S9: ∀(t:Nat) (way:Int),t<14->Γ.fn 17 [sv [102+t],.int way]=H7 (sv [io t way])):
  aE Γ 13 [0,1] bC [.list ((wordsN n).map sv),.int m]=H7 (.list ((lnsN m n).map lnV)):=by
 obtain⟨w1,_,w2,_⟩:=gJ n hn;obtain⟨q5,q6,q7,q8,q9,q10,TX,TW,Vb⟩:=nj hn (m:=m) U' S9 (rg (wordsN n).length) [] H9 H9 H9 H9 H9 H9 H9 H9 (λt ht=>fj.mp ht) (by rw [Il,I0];lia)
 have Qe:=fC (Γ:=Γ) (e:= .var 0) (ρ:=aw (nR (.list ((wordsN n).map sv)) m [] H9 H9 H9 H9 H9 H9 H9 H9) [4,3]) (ls:=wordsN n) (g:=sv) rfl rfl (by lia)
 have hf:=(eE (Γ:=Γ) (pt:= .one 5) (body:=wj) (own:=[4,3]) Qe).trans Vb;have P:ag Γ bC [H7 (.list ((wordsN n).map sv)),H7 (.int m),H9,H9,H9,H9,H9,H9,H9,H9,H9,H9,H9] []=H7 (.ret (.list ((lnsN m n).map lnV))):=by
  rw [tC,show bC.drop 4= .for_ (.one 5) (.ex (.rng [(.bi .len [(.var 0)])])) wj::bC.drop 5 from rfl,aa hf,Jd]
  rfl
 show((ag Γ bC [H7 (.list ((wordsN n).map sv)),H7 (.int m),H9,H9,H9,H9,H9,H9,H9,H9,H9,H9,H9] []).bind _)=_;rw [P]
 rfl
theorem uB (m:Int): ∀(es:List (Nat×Nat×Nat×Bool)) (i:Nat),∀l∈lnsFrom m i es,∃k e,e∈es/\l=mf m (m+((k:Nat):Int)) e
 |[],_,_,h=>by cases h
 |e::r,i,l,h=>by
  rcases Hp.mp h with rfl|h
  ·exact⟨i,e,Hs,rfl⟩
  ·obtain⟨k,e',he,q⟩:=uB m r (i+1) l h
   exact⟨k,e',Hq _ he,q⟩
theorem Dd (hn:n∈[3,4]) (m:Int): ∀l∈lnsN m n,jh d4 cH l/\l.d<=100/\l.v.length<=1:=λl hl=>by obtain⟨k,e,he,rfl⟩:=uB m _ 0 l hl;have h:=(mM n hn).1 e he;exact⟨AE h.1 m _,h.2.2,by show(if e.2.2.2=Hd then []else [_]).length<=1;split<;>simp⟩
theorem nf (m:Int): ∀(es:List (Nat×Nat×Nat×Bool)) (i:Nat),(lnsFrom m i es).map Ln.name=es.map λe=>[102+e.1,ej.getD (md (m+(e.1:Nat)+(5*e.2.1:Nat)) 20) 0]
 |[],_=>rfl
 |e::r,i=>by
  show _::(lnsFrom m (i+1) r).map Ln.name=_;rw [nf m r (i+1)]
  rfl
theorem Db {x:Int} {a:Nat} (hk:0<k) (h:md (x+(a:Nat)) k=md (x+(b:Nat)) k):((a:Int)-b) % k=0:=by
 have h1:=mA (x+(a:Nat)) hk;have h2:=mA (x+(b:Nat)) hk;rw [h]at h1;rw [<-h2]at h1;have QO:(0:Int)<=k:=HA _;rw [Jp _ QO,Jp _ QO]at h1;have:=Int.emod_emod_of_dvd;have e:=Int.emod_eq_emod_iff_emod_sub_eq_zero.mp h1
 rwa [show x+(a:Nat)-(x+(b:Nat))=(a:Int)-b by lia]at e
theorem rB (hn:n∈[3,4]) (m:Int):((lnsN m n).map Ln.name).Nodup:=by
 obtain⟨h1,h2⟩:=mM n hn;unfold lnsN;rw [nf];refine(PZ.mpr ?_);have h2:=PZ.mp h2;refine h2.imp_of_mem λ{a b} ha hb QJ q=>QJ ?_;have q1:102+a.1=102+b.1:=(Lj q).1;have q2:=(Lj (Lj q).2).1;have e1:a.1=b.1:=by lia
 rw [e1]at q2;have q3:=vj _ (d_ _ (by decide)) _ (d_ _ (by decide)) q2
 have q4:=Db (by decide) q3
 have b1:=(h1 a ha).2.1;have b2:=(h1 b hb).2.1;exact Prod.ext e1 (by show a.2.1=b.2.1;lia)
end
variable {v:PV} {ks:List HJ} {Qi:List Nat} {i:Nat} {ke ve:PE} {ρ:Ρ} {xs:List PV} {α:Type}
section
theorem yg {k:HJ}: ∀{vs:List PV},ks.length=vs.length->k∉ks->eV k v ks vs=(ks++[k],vs++[v]):=by
 induction ks with
 |nil=>
  intro vs h _;cases vs with
  |nil=>rfl
  |cons=>exact nomatch h
 |cons k' ks ih=>
  intro vs h hn;cases vs with
  |nil=>exact nomatch h
  |cons v' vs=>
   show(if k'=k then _ else(k'::(eV k v ks vs).1,v'::(eV k v ks vs).2))=_;rw [if_neg λq=>hn (Hp.mpr (.inl q.symm)),ih (Kf h) λq=>hn (Hq _ q)]
   rfl
theorem Ap {k:HJ}: ∀{vs:List PV} {i:Nat},ks.Nodup->ks[i]? =H7 k->vs[i]? =H7 v->uS k ks vs=H7 v:=by
 induction ks with
 |nil=>exact λ_ h _=>nomatch h
 |cons k' ks ih=>
  intro vs i hn h1 h2;cases vs with
  |nil=>exact nomatch h2
  |cons v' vs=>
   cases i with
   |zero=>exact(if_pos (Hg h1).symm).trans h2
   |succ i=>exact(if_neg λq:k=k'=>(Jc.mp hn).1 (q▸Ht (i:=i) h1)).trans (ih (Jc.mp hn).2 h1 h2)
theorem nz {F:Option PV->PV->Option (Option PV)} {kf:PV->HJ} {vf:PV->PV} (hF: ∀Q8 x,F Q8 x=(kQ Q8 (.str (kf x)) (vf x)).map H7): ∀(xs:List PV) (ks:List HJ) (vs:List PV),ks.length=vs.length->(ks++xs.map kf).Nodup->ks.length+xs.length<=1000->
  xs.foldlM F (H7 (.dictS ks vs))=H7 (H7 (.dictS (ks++xs.map kf) (vs++xs.map vf)))
 |[],ks,vs,_,_,_=>by simp
 |x::xs,ks,vs,h,hn,hl=>by
  haveI hnk:kf x∉ks:=by intro q;have:=KB.mp hn;exact this.2.2 _ q _ (by rw [HI];exact Hs) rfl
  rw [Hv]at hl;haveI e:F (H7 (.dictS ks vs)) x=H7 (H7 (.dictS (ks++[kf x]) (vs++[vf x]))):=by rw [hF];show(giv ((eV (kf x) (vf x) ks vs).1.length<=1000) (PV.dictS (eV (kf x) (vf x) ks vs).1 (eV (kf x) (vf x) ks vs).2)).map H7=_;rw [yg h hnk];exact congrArg (Lu H7) (eA (by rw [Hn,JY];exact HM (H8 (HD _ _) (JM hl))))
  rw [JQ,e];show xs.foldlM F (H7 (.dictS (ks++[kf x]) (vs++[vf x])))=_;rw [nz hF xs _ _ (by rw [Hn,Hn,h];rfl) (by rw [HI]at hn;simpa using hn) (by rw [Hn,JY];exact H8 (Hu (HS _ _ _)) hl)]
  simp
theorem vJ {it:PI} {x:PV} (kf:PV->HJ) (vf:PV->PV) (h:pit Γ it ρ=H7 (x::xs)) (hk: ∀y∈x::xs,pev Γ ke ((aw ρ Qi).set i (H7 y))=H7 (.str (kf y))) (hv: ∀y∈x::xs,pev Γ ve ((aw ρ Qi).set i (H7 y))=H7 (vf y))
  (hn:((x::xs).map kf).Nodup) (hl:(x::xs).length<=1000):pev Γ (.dcomp Qi (.one i) it [] ke ve) ρ=H7 (.dictS ((x::xs).map kf) ((x::xs).map vf)):=by
 let F:Option PV->PV->Option (Option PV):=λQ8 y=>do
   let ρ'<-aX (aw ρ Qi) (.one i) y
   match<-cr Γ [] ρ' with
   |true=>do
    let a<-pev Γ ke ρ';let b<-pev Γ ve ρ'
    (kQ Q8 a b).map H7
   |false=>H7 Q8
 haveI hF: ∀Q8 y,y∈x::xs->F Q8 y=(kQ Q8 (.str (kf y)) (vf y)).map H7:=λQ8 y hy=>by
  show(pev Γ ke ((aw ρ Qi).set i (H7 y))).bind (λa=>(pev Γ ve ((aw ρ Qi).set i (H7 y))).bind λb=>(kQ Q8 a b).map H7)=_;rw [hk y hy];show(pev Γ ve ((aw ρ Qi).set i (H7 y))).bind _=_;rw [hv y hy]
  rfl
 let G:Option PV->PV->Option (Option PV):=λQ8 y=>(kQ Q8 (.str (kf y)) (vf y)).map H7;haveI hFG: ∀(l:List PV) (Q8:Option PV),(∀y∈l,y∈x::xs)->l.foldlM F Q8=l.foldlM G Q8:=by
  intro l;induction l with
  |nil=>intro Q8 _;rfl
  |cons y l ih=>
   intro Q8 hl;rw [JQ,JQ,hF Q8 y (hl y Hs)];show(G Q8 y).bind _=(G Q8 y).bind _;cases G Q8 y with
   |none=>rfl
   |some o=>exact ih o λz hz=>hl z (Hq _ hz)
 show(pit Γ it ρ).bind (λxs=>(xs.foldlM F H9).bind λd=>d)=_;rw [h];show((x::xs).foldlM F H9).bind (λd=>d)=_;rw [hFG _ _ λ_ h=>h,JQ];haveI e0:G H9 x=H7 (H7 (.dictS [kf x] [vf x])):=rfl;rw [e0];show(xs.foldlM G (H7 (.dictS [kf x] [vf x]))).bind _=_;rw [nz (λ_ _=>rfl) xs [kf x] [vf x] rfl (by simpa using hn) (by simp at hl ⊢;exact H8 (HE (Hm _) hl) (by decide))]
 rfl
theorem vK {L:List α} (h:L.Nodup) (f:Nat):(L.drop f++L.take f).Nodup:=by
 haveI:(L.take f++L.drop f).Nodup:=by rw [IF];exact h
 exact(List.perm_append_comm.nodup_iff).mp this
end
theorem zt:(iI.all λp=>decide (p.2.cps.size<=5))=Hd:=by decide+kernel
variable {β:Type}
theorem nb [BEq α] [LawfulBEq α] {k:α} {v:β}: ∀{l:List (α×β)},l.lookup k=H7 v->(k,v)∈l
 |[],h=>by cases h
 |(a,b)::l,h=>by
  rw [IV]at h;by_cases e:(k==a)=Hd
  ·rw [e]at h
   cases h;rw [eq_of_beq e];exact Hs
  ·simp only [Bool.not_eq_true]at e
   rw [e]at h;exact Hq _ (nb h)
theorem lJ (c:Nat):(cH c).length<=5:=by
 unfold cH;cases e:iI.lookup (c:Int)with
 |some s=>
  have:=HX.mp zt _ (nb e);simpa using this
 |none=>
  have:=len_lower ⟨#[c]⟩;haveI h1:(⟨#[c]⟩:HJ).length=1:=rfl;show(KR ⟨#[c]⟩).cps.toList.length<=5;rw [KT];haveI h2:(KR ⟨#[c]⟩).length=(KR ⟨#[c]⟩).cps.size:=rfl;lia
theorem lD (b1:Nat->Bool) (Qk:Nat->List Nat) (hf: ∀c,(Qk c).length<=5): ∀l:List Nat,(cO b1 Qk l).length<=5*l.length
 |[]=>by simp [cO]
 |c::l=>by
  haveI ih:=lD b1 Qk hf l;haveI h1:(cO b1 Qk [c]).length<=5:=by
   unfold cO;have:=hf c;by_cases h:b1 c=Hd
   ·simp [h]
   ·by_cases h2:c=46∨c=13∨c=10
    ·simp [h,h2]
    ·simp [h,h2];exact this
  rw [show c::l=[c]++l from rfl,dG,Hn,Hn,JY];lia
section
theorem qx: ∀xs:List Int,fg (dZ 7) (xs.map .int) (xs.map .int)=H7 Hd
 |[]=>rfl
 |x::xs=>by rw [HI,la];show(dZ 7 (.int x) (.int x)).bind _=_;rw [show dZ 7 (.int x) (.int x)=H7 (x==x)from rfl];show(fg (dZ 7) (xs.map .int) (xs.map .int)).bind _=_;rw [qx xs];simp
theorem vG (xs:List Int):gp .NotEq (.list (xs.map .int)) (.list (xs.map .int))=H7 Hb:=by
 show(if(xs.map PV.int).length=(xs.map PV.int).length then fg (dZ 7) (xs.map .int) (xs.map .int)else H7 Hb).map not=_;rw [if_pos rfl,qx]
 rfl
def mG:List (List Nat):=[[10],[13],[13,10]]
def eo (hp:Int) (k:Nat):List Nat:=mG.getD (md (hp+(k:Nat)) 3) []
theorem wF (hp:Int) (k:Nat):eo hp k=[10]∨eo hp k=[13]∨eo hp k=[13,10]:=by
 have:=d_ (hp+(k:Nat)) (n:=3) (by decide)
 unfold eo;have h:md (hp+(k:Nat)) 3=0∨md (hp+(k:Nat)) 3=1∨md (hp+(k:Nat)) 3=2:=by exact GY this
 rcases h with h|h|h<;>rw [h]
 ·exact .inl rfl
 ·exact .inr (.inl rfl)
 ·exact .inr (.inr rfl)
def bG (hp:Int) (ord:List Ln):List (List Nat):=(Ir 0 ord.length).map λk=>((ord.map Ln.raw).getD k [])++eo hp k
theorem vO (hp:Int) (ord:List Ln):(bG hp ord).flatten=em ((ord.map Ln.raw).zip ((Ir 0 ord.length).map (eo hp))):=by
 haveI:bG hp ord=((ord.map Ln.raw).zip ((Ir 0 ord.length).map (eo hp))).map λp=>p.1++p.2:=by
  apply List.ext_getElem
  ·simp [bG]
  ·intro i h1 h2
   haveI hi:i<ord.length:=by simpa [bG]using h1
   simp [bG,KP,hi]
 rw [this,em,List.flatMap_def]
structure Way (Γ:Gam):Prop where
 h9: ∀x:List Nat,x.length<=20000->Γ.fn 9 [sv x]=H7 (sv (dd Hd (nl Hb x)))
 h10: ∀c:Nat,Γ.fn 10 [sv [c]]=H7 (.bool (d4 c))
 h11: ∀c:Nat,Γ.fn 11 [sv [c]]=H7 (sv (cH c))
def ordL (hp:Int) (L:List Ln):List Ln:=L.drop (md hp L.length)++L.take (md hp L.length)
theorem kI (hp:Int) (L:List Ln):(ordL hp L).length=L.length:=by simp [ordL];exact H1
def ma (hp:Int):Bool:=md hp 2==1
theorem i7 (hp:Int):(md hp 2=0/\ma hp=Hb)∨(md hp 2=1/\ma hp=Hd):=by
 have:=d_ hp (n:=2) (by decide)
 have h:md hp 2=0∨md hp 2=1:=by exact GZ this
 rcases h with h|h
 ·exact .inl ⟨h,by unfold ma;rw [h];rfl⟩
 ·exact .inr ⟨h,by unfold ma;rw [h];rfl⟩
def dO (hp:Int):List Nat:=[13,13,10,46]++if ma hp=Hd then [10]else []
end
def sR (m:Int) (L:List Ln) (p2 p3 p4 p5:Option PV):Ρ:=[H7 (.list (L.map lnV)),H7 (.int m),p2,p3,p4,p5,H9,H9]
variable {L:List Ln}
section
theorem lW (h1:L.length<=64) (hB: ∀l∈L,l.raw.length<=200):(bG m L).flatten.length<=14000:=by
 have: ∀ls:List (List Nat),(∀l∈ls,l.length<=202)->ls.flatten.length<=ls.length*202:=by
  intro ls;induction ls with
  |nil=>intro _;simp
  |cons l ls ih=>
   intro h;have:=ih λx hx=>h x (Hq _ hx);have:=h l Hs;rw [JF,Hn,show(l::ls).length=ls.length+1 from rfl,LZ];lia
 have h2:=this (bG m L) λl hl=>by
  obtain⟨k,hk,rfl⟩:=HC.mp hl;have hk:k<L.length:=by simpa using hk
  have e1:(L.map Ln.raw).getD k []=L[k].raw:=by simp [KP,hk]
  have:=hB L[k] (Kh hk);haveI:(eo m k).length<=2:=by rcases wF m k with h|h|h<;>rw [h]<;>decide
  rw [e1,Hn];lia
 haveI h3:(bG m L).length=L.length:=by simp [bG]
 rw [h3]at h2;haveI:L.length*202<=64*202:=IC _ h1;exact H8 (H8 h2 this) (by decide)
theorem qg:(dO m).length<=5:=by unfold dO;rcases i7 m with⟨h,h2⟩|⟨h,h2⟩<;>rw [h2]<;>decide
theorem vn (W:Way Γ) (h0:0<L.length) (h1:L.length<=64) (hB: ∀l∈L,l.raw.length<=200):
  aE Γ 8 [0,1] du [.list (L.map lnV),.int m]=H7 (sv (dd Hd (nl Hb ((bG m (ordL m L)).flatten++dO m)))):=by
 have hm:=d_ m h0;have hol:=kI m L;have hBo: ∀l∈ordL m L,l.raw.length<=200:=λl hl=>hB l ((Ik.mp hl).elim KL LJ);have v2:pev Γ (.bin .Mod (.var 1) (.bi .len [(.var 0)])) (sR m L H9 H9 H9 H9)=H7 (.int (md m L.length:Nat)):=by
  refine af (a:= .int m) (b:= .int (L.length:Nat)) rfl (dh (v:= .list (L.map lnV)) rfl ?_) ?_
  ·rw [dk (by rw [Hf];exact Hk h1 (by decide)),Hf]
  ·rw [<-mA m h0]
   exact jR (by lia)
 have v3:pev Γ (.bin .Add (.slice (.var 0) (.var 2) .cN .cN) (.slice (.var 0) .cN (.var 2) .cN)) (sR m L (H7 (.int (md m L.length:Nat))) H9 H9 H9)=H7 (.list ((ordL m L).map lnV)):=by
  haveI e:(ordL m L).map lnV=(L.map lnV).drop (md m L.length)++(L.map lnV).take (md m L.length):=by unfold ordL;rw [HY,Nh,Mo]
  rw [e];refine af (a:= .list ((L.map lnV).drop (md m L.length))) (b:= .list ((L.map lnV).take (md m L.length))) ?_ ?_ (i0 (by simp only [Jy,JP,Hf,KV];lia))
  ·show bz (.list (L.map lnV)) (.int (md m L.length:Nat)) .none .none=_
   rw [e8 (lo:=H7 ((md m L.length:Nat):Int)) (hi:=H9) rfl rfl (by rw [Hf];exact H8 h1 (by decide)),rZ _ (by rw [Hf];exact HP hm)]
  ·show bz (.list (L.map lnV)) .none (.int (md m L.length:Nat)) .none=_
   rw [e8 (lo:=H9) (hi:=H7 ((md m L.length:Nat):Int)) rfl rfl (by rw [Hf];exact H8 h1 (by decide)),nZ _ (by rw [Hf];exact HP hm)]
 have v5: ∀a b c,pev Γ (.bin .Add (.cS ⟨#[13,13,10,46]⟩) (.idx (.list [(.cS ⟨#[]⟩),(.cS ⟨#[10]⟩)]) (.bin .Mod (.var 1) (.cI 2)))) (sR m L a b c H9)=H7 (sv (dO m)):=λa b c=>by
  haveI e:dO m=[13,13,10,46]++([[],[10]]:List (List Nat)).getD (md m 2) []:=by unfold dO;rcases i7 m with⟨h,h2⟩|⟨h,h2⟩<;>rw [h,h2]<;>rfl
  rw [e];refine dC (x:=[13,13,10,46]) rfl (aM (a:= .list (([[],[10]]:List (List Nat)).map sv)) rfl (fm (n:=2) (a:= .var 1) (way:=m) rfl (by decide)) (lF (d_ m (by decide)) (by decide))) ?_
  rcases i7 m with⟨h,h2⟩|⟨h,h2⟩<;>rw [h]<;>decide
 generalize hO:ordL m L=O at*
 let ρ:=sR m L (H7 (.int (md m L.length:Nat))) (H7 (.list (O.map lnV))) (H7 (.list (mG.map sv))) (H7 (sv (dO m)));have hc:pev Γ (.comp1 [6,7] (.one 7) (.ex (.rng [(.bi .len [(.var 3)])])) [] (.bin .Add (.idx (.idx (.var 3) (.var 7)) (.cI 3)) (.idx (.var 4) (.bin .Mod (.bin .Add (.var 1) (.var 7)) (.cI 3))))) ρ=H7 (.list (cM (bG m O))):=by
  have Qe:=fC (Γ:=Γ) (e:= .var 3) (ρ:=ρ) (ls:=O) (g:=lnV) rfl rfl (by lia)
  rw [dH (λx=>match x with| .int i=>sv ((O.map Ln.raw).getD i.toNat []++eo m i.toNat)|_=> .none) Qe (λx hx=> ?_) (by rw [Hf,Il];lia)]
  ·congr 2
   unfold cM bG;rw [HU,HU]
   rfl
  ·obtain⟨k,hk,rfl⟩:=HC.mp hx
   have hk:=fj.mp hk;have e1:(O.map Ln.raw).getD k []=O[k].raw:=by simp [KP,hk]
   haveI hb:=hBo O[k] (Kh hk);haveI hi:gi (.list (O.map lnV)) (.int k)=H7 (lnV O[k]):=eD (by rw [HQ,HB hk];rfl) (by rw [Hf];lia)
   show _=H7 (sv ((O.map Ln.raw).getD k []++eo m k));rw [e1];refine dC (aM (a:=lnV O[k]) (b:= .int 3) (aM (a:= .list (O.map lnV)) (b:= .int k) rfl rfl hi) rfl rfl) (aM (a:= .list (mG.map sv)) rfl (fm (n:=3) (way:=m+(k:Nat)) (af (a:= .int m) (b:= .int k) rfl rfl rfl) (by decide)) (lF (d_ _ (by decide)) (by decide))) ?_
   haveI:(mG.getD (md (m+(k:Nat)) 3) []).length<=2:=by rcases wF m k with h|h|h<;>(unfold eo at h;rw [h];decide)
   exact H8 (HE hb this) (by decide)
 have Rq:=lW (m:=m) (L:=O) (by lia) hBo
 have Xz:=qg (m:=m);have YJ:pev Γ (.bin .Add (.meth .join (.cS ⟨#[]⟩) [(.comp1 [6,7] (.one 7) (.ex (.rng [(.bi .len [(.var 3)])])) [] (.bin .Add (.idx (.idx (.var 3) (.var 7)) (.cI 3)) (.idx (.var 4) (.bin .Mod (.bin .Add (.var 1) (.var 7)) (.cI 3)))))]) (.var 5)) ρ=H7 (sv ((bG m O).flatten++dO m)):=
  dC (gE hc (by exact H8 Rq (by decide))) rfl (by exact H8 (HE Rq Xz) (by decide))
 have P:ag Γ du (sR m L H9 H9 H9 H9) []=H7 (.ret (sv (dd Hd (nl Hb ((bG m O).flatten++dO m))))):=by
  unfold du;rw [aa (ρ':=sR m L (H7 (.int (md m L.length:Nat))) H9 H9 H9) (Qb:=[]) (au v2),aa (ρ':=sR m L (H7 (.int (md m L.length:Nat))) (H7 (.list (O.map lnV))) H9 H9) (Qb:=[]) (au v3),
   aa (ρ':=sR m L (H7 (.int (md m L.length:Nat))) (H7 (.list (O.map lnV))) (H7 (.list (mG.map sv))) H9) (Qb:=[]) (au (v:= .list (mG.map sv)) rfl),aa (ρ':=ρ) (Qb:=[]) (au (v5 _ _ _))]
  exact ak (aC (aq (ac YJ rfl) (W.h9 _ (by rw [Hn];exact H8 (HE Rq Xz) (by decide)))))
 show((ag Γ du (sR m L H9 H9 H9 H9) []).bind _)=_;rw [P]
 rfl
def wn:PV->Nat
 | .str y=>y.cps.getD 0 0
 |_=>0
def sgs (T:List Nat):List PV:=T.map λc=>sv [c]
theorem lQ (q:Nat->Bool): ∀T:List Nat,((sgs T).filter λx=>q (wn x)).map (λx=>x)=sgs (T.filter q)
 |[]=>rfl
 |c::T=>by
  have ih:=lQ q T;have e:q (wn (sv [c]))=q c:=rfl;show(((sv [c])::sgs T).filter λx=>q (wn x)).map (λx=>x)=_;by_cases h:q c=Hd
  ·rw [Jg (by rw [e];exact h),Jg h,HI,ih];rfl
  ·rw [Jh (by rw [e];exact h),Jh h,ih]
def mE (c:Nat):List Nat:=if c=46∨c=13∨c=10 then [c]else cH c
theorem yT (c:Nat):pin (sv [c]) (.str ⟨#[46,13,10]⟩)=H7 (decide (c=46∨c=13∨c=10)):=by have:=Nv ⟨#[46,13,10]⟩ c;show H7 (!(Jz ⟨#[46,13,10]⟩ ⟨#[c]⟩ 0 (⟨#[46,13,10]⟩:HJ).length 1).isEmpty)=_;rw [this];simp
theorem vD (W:Way Γ) {T:List Nat} (hT:T.length<=100000):aE Γ 4 [0] bL [sv T]=H7 (sv (cO d4 cH T)):=by
 have hx:pit Γ (.ex (.var 0)) [H7 (sv T),H9,H9,H9]=H7 (sgs T):=by show H7 ((gq ⟨T.toArray⟩).map PV.str)=_;unfold gq sgs;simp
 have v1:pev Γ (.comp1 [2,3] (.one 3) (.ex (.var 0)) [(.cmp .Is (.call 10 [(.var 3)]) (.cB Hb))] (.var 3)) [H7 (sv T),H9,H9,H9]=H7 (.list (sgs (T.filter λc=> !d4 c))):=by
  rw [dx (λx=> !d4 (wn x)) (λx=>x) hx (λx hx=> ?_) (λx hx _=>rfl) (by unfold sgs;rw [Hf];exact H8 hT (by decide))]
  ·exact congrArg (λl=>H7 (PV.list l)) (lQ (λc=> !d4 c) T)
  ·obtain⟨c,hc,rfl⟩:=HC.mp hx
   show((Γ.fn 10 [sv [c]]).bind λa=>(gp .Is a (.bool Hb)).map PV.bool)=_;rw [W.h10 c];show H7 (PV.bool (d4 c==Hb))=H7 (PV.bool (!d4 c));cases d4 c<;>rfl
 have hS:(T.filter λc=> !d4 c).length<=100000:=H8 (Lz _ _) hT;have hp:cO d4 cH T=((T.filter λc=> !d4 c).map mE).flatten:=List.flatMap_def ..
 have Rq:=lD d4 cH lJ T;rw [hp]at Rq ⊢
 generalize (T.filter λc=> !d4 c)=S at*
 have v2:pev Γ (.comp1 [2,3] (.one 3) (.ex (.var 1)) [] (.ife (.cmp .In (.var 3) (.cS ⟨#[46,13,10]⟩)) (.var 3) (.call 11 [(.var 3)]))) [H7 (sv T),H7 (.list (sgs S)),H9,H9]=H7 (.list (cM (S.map mE))):=by
  rw [dH (xs:=sgs S) (λx=>sv (mE (wn x))) rfl (λx hx=> ?_) (by unfold sgs;rw [Hf];exact H8 hS (by decide))]
  ·congr 2
   unfold cM sgs;rw [HU,HU]
   rfl
  ·obtain⟨c,hc,rfl⟩:=HC.mp hx
   haveI ht:aJ Γ (.cmp .In (.var 3) (.cS ⟨#[46,13,10]⟩)) ((aw [H7 (sv T),H7 (.list (sgs S)),H9,H9] [2,3]).set 3 (H7 (sv [c])))=H7 (decide (c=46∨c=13∨c=10)):=c7 (a:=sv [c]) (b:= .str ⟨#[46,13,10]⟩) rfl rfl (yT c);refine gU ht ?_;show _=H7 (sv (mE c));unfold mE;by_cases h:c=46∨c=13∨c=10
   ·rw [if_pos (by simpa using h),if_pos h];rfl
   ·rw [if_neg (by simpa using h),if_neg h]
    exact aq (vs:=[sv [c]]) (ac rfl rfl) (W.h11 c)
 have P:ag Γ bL [H7 (sv T),H9,H9,H9] []=H7 (.ret (sv (S.map mE).flatten)):=by unfold bL;rw [aa (ρ':=[H7 (sv T),H7 (.list (sgs S)),H9,H9]) (Qb:=[]) (au v1)];exact ak (aC (gE v2 (by exact H8 (H8 Rq (I6 (Hm _) hT)) (by decide))))
 show((ag Γ bL [H7 (sv T),H9,H9,H9] []).bind _)=_;rw [P]
 rfl
end
def mw (us:List (List Nat)):PV:= .list (aS 0 (cq us))
def jj (n:Nat):PV:= .list ((wordsN n).map sv)
def q15 (S:PV) (Qa hp:Int) (n:Nat) (u:Nat->List (List Nat)) (m:Int) (r:List PV):List PV:=
 q10 S Qa hp n u (d6 (u (oneR n hp))::da (u (oneR n hp))::mw (u (oneR n hp))::jj n:: .int m::r)
theorem xU (hn:(L.map Ln.name).Nodup):(L.map λl=>tx l.name).Nodup:=by
 haveI e:(L.map λl=>tx l.name)=(L.map Ln.name).map tx:=by rw [HU];rfl
 rw [e];exact Om _ (λa b h q=>h (nY q)) hn
variable {l:Ln}
theorem qI (hn:(L.map Ln.name).Nodup) (hl:l∈L):uS (tx l.name) (L.map λl=>tx l.name) (L.map λl=> .int (l.D:Nat))=H7 (.int (l.D:Nat))/\(L.map λl=>tx l.name).contains (tx l.name)=Hd:=by
 refine⟨?_, ?_⟩
 ·obtain⟨i,hi,e⟩:=List.getElem_of_mem hl
  refine Ap (i:=i) (xU hn) ?_ ?_
  ·rw [HQ,HB hi,e];rfl
  ·rw [HQ,HB hi,e];rfl
 ·rw [Jv]
  exact HC.mpr ⟨l,hl,rfl⟩
def fy (hp:Int):List (List Nat):=if ma hp=Hd then [[],[],[46,46],[]]else [[],[],[46,46]]
def rK:PV->HJ
 | .str y=>K5 y ⟨#[46]⟩
 |_=>⟨#[]⟩
def C0:PV->PV
 | .str y=> .int ((y.length:Int)-(K5 y ⟨#[46]⟩).length)
 |_=> .none
theorem kF (h:jh d4 cH l):rK (sv l.out)=tx l.name/\C0 (sv l.out)= .int (l.D:Nat):=by
 haveI hm: ∀c∈l.name.head?,c≠46:=λc hc=>(h.nameok c (List.mem_of_mem_head? hc)).2.2;have e:=rD l.D hm;have e:K5 ⟨l.out.toArray⟩ ⟨#[46]⟩=tx l.name:=e;refine⟨e, ?_⟩;show PV.int (((⟨l.out.toArray⟩:HJ).length:Int)-(K5 ⟨l.out.toArray⟩ ⟨#[46]⟩).length)=_;rw [e]
 congr 1
 haveI h1:(⟨l.out.toArray⟩:HJ).length=l.D+l.name.length:=by simp [JX,Ln.out]
 haveI h2:(tx l.name).length=l.name.length:=by simp [JX,tx]
 rw [h1,h2];lia
structure Lns (L:List Ln):Prop where
 pos:0<L.length
 len:L.length<=64
 ok: ∀l∈L,jh d4 cH l/\l.d<=100/\l.v.length<=1
 nodup:(L.map Ln.name).Nodup
theorem Lns.raw (h:Lns L): ∀l∈L,l.raw.length<=200/\l.out.length<=200:=λl hl=>by obtain⟨_,h1,h2⟩:=h.ok l hl;unfold Ln.raw Ln.out Ln.name Ln.D;simp only [Hn,Jt,Hv,I0];split<;>lia
theorem Lns.ord (h:Lns L) (m:Int):Lns (ordL m L)/\ ∀l,l∈ordL m L↔l∈L:=by
 have hm: ∀l,l∈ordL m L↔l∈L:=λl=>by show l∈L.drop _++L.take _↔_;rw [Ik,or_comm,<-Ik,IF]
 refine⟨⟨(kI m L).symm▸h.pos,(kI m L).symm▸h.len,λl hl=>h.ok l ((hm l).mp hl), ?_⟩,hm⟩;have:=vK h.nodup (md m L.length)
 rwa [<-Nh,<-Mo,<-HY]at this
theorem AF (hn:n∈[3,4]) (m:Int):Lns (lnsN m n):=by obtain⟨_,_,_,h1,h2⟩:=gJ n hn;exact⟨by unfold lnsN;rw [iQ];exact h2,by unfold lnsN;rw [iQ];lia,Dd hn m,rB hn m⟩
theorem vP (h:Lns L) (m:Int):cO d4 cH (dd Hd (nl Hb ((bG m (ordL m L)).flatten++dO m)))=(if ma m=Hd then bI ((ordL m L).map Ln.out++[[],[],[46,46]])++[]else bI ((ordL m L).map Ln.out++[[],[]])++[46,46])/\(dd Hd (nl Hb ((bG m (ordL m L)).flatten++dO m))).length<=100000:=by
 obtain⟨ho,hm⟩:=h.ord m;refine⟨?_, ?_⟩
 ·rw [show(bG m (ordL m L)).flatten++dO m=em (((ordL m L).map Ln.raw).zip ((Ir 0 (ordL m L).length).map (eo m)))++([13,13,10,46]++if ma m=Hd then [10]else [])from by rw [vO];rfl]
  exact yG wG.1 wG.2.1 wG.2.2 (λl hl=>(ho.ok l hl).1) (by simp) (λe he=>by obtain⟨k,_,rfl⟩:=HC.mp he;exact wF m k) (ma m)
 ·have h1:=oi (nl Hb ((bG m (ordL m L)).flatten++dO m)) Hd
  have h2:=lh ((bG m (ordL m L)).flatten++dO m) Hb;have h3:=lW (m:=m) ho.len λl hl=>(ho.raw l hl).1;have h4:=qg (m:=m);rw [if_neg (by decide),Hn]at h2
  exact H8 (H8 h1 (I6 (Hm _) (H8 h2 (HE (I6 (Hm _) (HE h3 h4)) (Hm _))))) (by decide)
theorem oG (h:xs=[]):gp .NotEq (.list xs) (.list [])=H7 Hb:=by rw [h];rfl
variable {S:PV} {Qa hp:Int} {u:Nat->List (List Nat)}
section
theorem t17 (W:Way Γ) (h:Lns L):aJ Γ (.cmp .NotEq (.comp1 [43,48] (.one 48) (.ex (.var 16)) [(.boolop Hd [(.cmp .NotEq (.idx (.var 48) (.cI 2)) (.cS ⟨#[]⟩)),(.cmp .IsNot (.call 10 [(.idx (.var 48) (.cI 2))]) (.cB Hd))])] (.var 48)) (.list [])) (lE (q15 S Qa hp n u m [.list (L.map lnV)]))=H7 Hb:=by
 have hc:=dx (Γ:=Γ) (Qi:=[43,48]) (i:=48) (it:= .ex (.var 16)) (c:= .boolop Hd [(.cmp .NotEq (.idx (.var 48) (.cI 2)) (.cS ⟨#[]⟩)),(.cmp .IsNot (.call 10 [(.idx (.var 48) (.cI 2))]) (.cB Hd))]) (Qv:= .var 48) (ρ:=lE (q15 S Qa hp n u m [.list (L.map lnV)])) (xs:=L.map lnV) (λ_=>Hb) (λx=>x) rfl (λx hx=>by
  obtain⟨l,hl,rfl⟩:=HC.mp hx;generalize hρ:(aw (lE (q15 S Qa hp n u m [.list (L.map lnV)])) [43,48]).set 48 (H7 (lnV l))=ρ
  have hg:pev Γ (.var 48) ρ=H7 (lnV l):=by rw [<-hρ];rfl
  have hv:pev Γ (.idx (.var 48) (.cI 2)) ρ=H7 (sv l.v):=aM hg rfl rfl;rcases(h.ok l hl).1.v with q|⟨x,q,hx,_⟩
  ·rw [q]at hv
   show(je Γ Hd [_,_] ρ).map PV.bool=_;have:je Γ Hd [(.cmp .NotEq (.idx (.var 48) (.cI 2)) (.cS ⟨#[]⟩)),(.cmp .IsNot (.call 10 [(.idx (.var 48) (.cI 2))]) (.cB Hd))] ρ=H7 Hb:=by
    show(pev Γ (.cmp .NotEq (.idx (.var 48) (.cI 2)) (.cS ⟨#[]⟩)) ρ).bind _=_;rw [cv (t:=Hb) (b:=sv []) hv rfl rfl]
    rfl
   rw [this];rfl
  ·rw [q]at hv
   have hw:=W.h10 x;rw [hx]at hw;have hc:pev Γ (.cmp .IsNot (.call 10 [(.idx (.var 48) (.cI 2))]) (.cB Hd)) ρ=H7 (.bool Hb):=cv (b:= .bool Hd) (aq (ac hv rfl) hw) rfl rfl;have hd:pev Γ (.cmp .NotEq (.idx (.var 48) (.cI 2)) (.cS ⟨#[]⟩)) ρ=H7 (.bool Hd):=cv (b:=sv []) hv rfl (by show H7 (!((⟨[x].toArray⟩:HJ)==⟨([]:List Nat).toArray⟩))=_;rw [gu];rfl)
   show(je Γ Hd [_,_] ρ).map PV.bool=_;have:je Γ Hd [(.cmp .NotEq (.idx (.var 48) (.cI 2)) (.cS ⟨#[]⟩)),(.cmp .IsNot (.call 10 [(.idx (.var 48) (.cI 2))]) (.cB Hd))] ρ=H7 Hb:=by
    show(pev Γ (.cmp .NotEq (.idx (.var 48) (.cI 2)) (.cS ⟨#[]⟩)) ρ).bind (λv=>(ff v).bind λt=>if t=Hd then je Γ Hd [(.cmp .IsNot (.call 10 [(.idx (.var 48) (.cI 2))]) (.cB Hd))] ρ else H7 t)=_;rw [hd];show(pev Γ (.cmp .IsNot (.call 10 [(.idx (.var 48) (.cI 2))]) (.cB Hd)) ρ).bind _=_;rw [hc]
    rfl
   rw [this];rfl) (λx _ q=>by cases q) (by rw [Hf];exact H8 h.len (by decide))
 exact c7 hc (b:= .list []) rfl (oG (by simp))
theorem l17 (W:Way Γ) (h:Lns L) (h19:Γ.fn 19 [.list (L.map lnV),.int m]=H7 (sv (dd Hd (nl Hb ((bG m (ordL m L)).flatten++dO m))))) (h20: ∀T:List Nat,T.length<=100000->Γ.fn 20 [sv T]=H7 (sv (cO d4 cH T))):
  pev Γ (.meth .split (.call 20 [(.call 19 [(.var 16),(.var 15)])]) [(.cS ⟨#[13,10]⟩)]) (lE (q15 S Qa hp n u m [.list (L.map lnV)]))=H7 (.list (((ordL m L).map Ln.out++fy m).map sv)):=by
 obtain⟨hb,hl⟩:=vP h m;obtain⟨ho,_⟩:=h.ord m;have Rq:=lD d4 cH lJ (dd Hd (nl Hb ((bG m (ordL m L)).flatten++dO m)));have key: ∀ls last,cO d4 cH (dd Hd (nl Hb ((bG m (ordL m L)).flatten++dO m)))=bI ls++last->ls.length<=1000->(∀l∈ls,13∉l)->13∉last->pev Γ (.meth .split (.call 20 [(.call 19 [(.var 16),(.var 15)])]) [(.cS ⟨#[13,10]⟩)]) (lE (q15 S Qa hp n u m [.list (L.map lnV)]))=H7 (.list ((ls++[last]).map sv)):=by
  intro ls last e h1 h2 h3;rw [e]at Rq;have hv:pev Γ (.call 20 [(.call 19 [(.var 16),(.var 15)])]) (lE (q15 S Qa hp n u m [.list (L.map lnV)]))=H7 (sv (bI ls++last)):=by rw [<-e];exact aq (ac (aq (vs:=[.list (L.map lnV),.int m]) (ac rfl (ac rfl rfl)) h19) rfl) (h20 _ hl)
  show(pev Γ (.call 20 [(.call 19 [(.var 16),(.var 15)])]) (lE (q15 S Qa hp n u m [.list (L.map lnV)]))).bind (λa=>pme .split a [.str ⟨#[13,10]⟩])=_;rw [hv];have hs:=tb (ls:=ls) (last:=last) h2 h3;show(if((⟨#[13,10]⟩:HJ).length==0)=Hb/\(tx (bI ls++last)).length<=Hz/\(ND (tx (bI ls++last)) (Jz (tx (bI ls++last)) ⟨#[13,10]⟩ 0 (tx (bI ls++last)).length ((tx (bI ls++last)).length+1)) 2).length<=Hz then H7 (PV.list ((Txt.split (tx (bI ls++last)) ⟨#[13,10]⟩).map .str))else H9)=_;rw [hs.1,hs.2,if_pos ⟨by decide,by show(bI ls++last).toArray.size<=_;rw [HO];exact H8 (H8 Rq (I6 (Hm _) hl)) (by decide),by rw [Hf,Hn,JY];exact HM (H8 h1 (by decide))⟩,HU]
  rfl
 have U5: ∀l∈(ordL m L).map Ln.out,13∉l:=λl hl=>by obtain⟨x,hx,rfl⟩:=HC.mp hl;exact(ho.ok x hx).1.outok
 have Q7:=ho.len;unfold fy;cases q:ma m with
 |true=>
  rw [q,if_pos rfl]at hb;refine(key _ _ hb (by simp;lia) (λl hl=> ?_) (by decide)).trans ?_
  ·rcases Ik.mp hl with r|r
   ·exact U5 l r
   ·simp only [Hp,HF,or_false]at r
    rcases r with rfl|rfl|rfl<;>decide
  ·rw [if_pos rfl,HW];rfl
 |false=>
  rw [q,if_neg (by decide)]at hb
  refine(key _ _ hb (by simp;lia) (λl hl=> ?_) (by decide)).trans ?_
  ·rcases Ik.mp hl with r|r
   ·exact U5 l r
   ·simp only [Hp,HF,or_false]at r
    rcases r with rfl|rfl<;>decide
  ·rw [if_neg (by decide),HW];rfl
end
theorem Fw (d:Nat):((d+2:Nat):Int)-d=2:=by lia
theorem Fx (d:Nat):((d+1:Nat):Int)-d=1:=by lia
def dotsV (O:List Ln):PV:= .dictS (O.map λl=>tx l.name) (O.map λl=> .int (l.D:Nat))
variable {O:List Ln}
section
def q17 (S:PV) (Qa hp:Int) (n:Nat) (u:Nat->List (List Nat)) (m:Int) (L O:List Ln) (r:List PV):List PV:=q15 S Qa hp n u m (.list (L.map lnV):: .list ((O.map Ln.out++fy m).map sv)::r)
theorem ql:(fy m).length<=4:=by unfold fy;split<;>decide
theorem BE (h1:L.length<=64):pbi .len [.list (L.map lnV)]=H7 (.int (L.length:Nat)):=by rw [dk (by rw [Hf];exact Hk h1 (by decide)),Hf]
theorem l18 (h:Lns O) (hl:L.length=O.length):pev Γ (.dcomp [43,45] (.one 45) (.ex (.slice (.var 17) .cN (.bi .len [(.var 16)]) .cN)) [] (.meth .lstrip (.var 45) [(.cS ⟨#[46]⟩)]) (.bin .Sub (.bi .len [(.var 45)]) (.bi .len [(.meth .lstrip (.var 45) [(.cS ⟨#[46]⟩)])]))) (lE (q17 S Qa hp n u m L O []))=H7 (dotsV O):=by
 generalize hρ:lE (q17 S Qa hp n u m L O [])=ρ
 have V2:pev Γ (.var 16) ρ=H7 (.list (L.map lnV)):=by rw [<-hρ];rfl
 have Yb:pev Γ (.var 17) ρ=H7 (.list ((O.map Ln.out++fy m).map sv)):=by rw [<-hρ];rfl
 have h1:=h.len;have hr:=ql (m:=m);have Q7:pev Γ (.bi .len [(.var 16)]) ρ=H7 (.int (O.length:Nat)):=hl▸dh V2 (BE (by lia))
 have Qe:pit Γ (.ex (.slice (.var 17) .cN (.bi .len [(.var 16)]) .cN)) ρ=H7 (O.map λl=>sv l.out):=by
  have SY:pev Γ (.slice (.var 17) .cN (.bi .len [(.var 16)]) .cN) ρ=H7 (.list (O.map λl=>sv l.out)):=by
   show(pev Γ (.var 17) ρ).bind (λa=>(pev Γ (.bi .len [(.var 16)]) ρ).bind λh=>bz a .none h .none)=_;rw [Yb,Q7];show bz (.list ((O.map Ln.out++fy m).map sv)) .none (.int (O.length:Nat)) .none=_;rw [e8 (lo:=H9) (hi:=H7 ((O.length:Nat):Int)) rfl rfl (by simp only [Hf,Hn,KV];lia),nZ _ (by simp)]
   congr 2
   rw [HY,LI (by simp),Iq (by simp),HU]
   rfl
  show(pev Γ (.slice (.var 17) .cN (.bi .len [(.var 16)]) .cN) ρ).bind bK=_;rw [SY];rfl
 obtain⟨l,ls,rfl⟩: ∃l ls,O=l::ls:=by
  cases O with
  |nil=>exact absurd h.pos (by decide)
  |cons l ls=>exact⟨l,ls,rfl⟩
 have QR: ∀y∈(l::ls).map (λl=>sv l.out),∀ρ',pev Γ (.var 45) ρ'=H7 y->pev Γ (.meth .lstrip (.var 45) [(.cS ⟨#[46]⟩)]) ρ'=H7 (.str (rK y))/\ ∃x∈l::ls,y=sv x.out:=λy hy ρ' hg=>by
  obtain⟨x,hx,rfl⟩:=HC.mp hy;have:=(h.raw x hx).2;refine⟨?_,x,hx,rfl⟩;show(pev Γ (.var 45) ρ').bind (λa=>pme .lstrip a [.str ⟨#[46]⟩])=_;rw [hg];show(if(⟨x.out.toArray⟩:HJ).length<=Hz then H7 (PV.str (K5 ⟨x.out.toArray⟩ ⟨#[46]⟩))else H9)=_;rw [if_pos (by show x.out.toArray.size<=_;rw [HO];exact H8 this (by decide))]
  rfl
 have key:=vJ (Γ:=Γ) (Qi:=[43,45]) (i:=45) (ke:= .meth .lstrip (.var 45) [(.cS ⟨#[46]⟩)]) (ve:= .bin .Sub (.bi .len [(.var 45)]) (.bi .len [(.meth .lstrip (.var 45) [(.cS ⟨#[46]⟩)])])) rK C0 Qe (λy hy=>(QR y hy _ (by rw [<-hρ];rfl)).1) (λy hy=>by
  have hg:pev Γ (.var 45) ((aw ρ [43,45]).set 45 (H7 y))=H7 y:=by rw [<-hρ];rfl
  obtain⟨e,x,hx,rfl⟩:=QR y hy _ hg;have:=(h.raw x hx).2;have hk:=(kF (h.ok x hx).1).1;refine af (a:= .int ((⟨x.out.toArray⟩:HJ).length:Nat)) (b:= .int ((rK (sv x.out)).length:Nat)) (dh hg (gB (by show x.out.toArray.size<_;rw [HO];exact Hk this (by decide)))) (dh e (gB ?_)) rfl
  rw [hk];have:x.name.length<=x.out.length:=by unfold Ln.out;rw [Hn];exact Iy _ _
  show x.name.toArray.size<_;rw [HO];lia) ?_ (by simp only [Hv,Hf]at h1 ⊢;lia)
 ·refine key.trans ?_
  unfold dotsV
  congr 2
  ·show((l::ls).map λl=>sv l.out).map rK=_
   rw [HU];exact JI λx hx=>(kF (h.ok x hx).1).1
  ·show((l::ls).map λl=>sv l.out).map C0=_
   rw [HU];exact JI λx hx=>(kF (h.ok x hx).1).2
 ·have e:((l::ls).map λl=>sv l.out).map rK=((l::ls).map Ln.name).map tx:=by rw [HU,HU];exact JI λx hx=>(kF (h.ok x hx).1).1
  show(((l::ls).map λl=>sv l.out).map rK).Nodup;rw [e];exact Om _ (λa b h q=>h (nY q)) h.nodup
theorem t19 (h:Lns O) (hl:L.length=O.length) (U_: ∀l∈L,l∈O):aJ Γ (.boolop Hb [(.cmp .NotEq (.slice (.var 17) (.bi .len [(.var 16)]) .cN .cN) (.bin .Add (.list [(.cS ⟨#[]⟩),(.cS ⟨#[]⟩),(.cS ⟨#[46,46]⟩)]) (.bin .Mult (.list [(.cS ⟨#[]⟩)]) (.bin .Mod (.var 15) (.cI 2))))),(.cmp .NotEq (.comp1 [43,48] (.one 48) (.ex (.var 16)) [(.cmp .NotIn (.idx (.var 48) (.cI 1)) (.var 18))] (.var 48)) (.list []))])
  (lE (q17 S Qa hp n u m L O [dotsV O]))=H7 Hb:=by
 generalize hρ:lE (q17 S Qa hp n u m L O [dotsV O])=ρ
 have V2:pev Γ (.var 16) ρ=H7 (.list (L.map lnV)):=by rw [<-hρ];rfl
 have Yb:pev Γ (.var 17) ρ=H7 (.list ((O.map Ln.out++fy m).map sv)):=by rw [<-hρ];rfl
 have g15:pev Γ (.var 15) ρ=H7 (.int m):=by rw [<-hρ];rfl
 have h1:=h.len;have hr:=ql (m:=m);have Q7:pev Γ (.bi .len [(.var 16)]) ρ=H7 (.int (O.length:Nat)):=hl▸dh V2 (BE (by lia))
 have SY:pev Γ (.slice (.var 17) (.bi .len [(.var 16)]) .cN .cN) ρ=H7 (.list ((fy m).map sv)):=by
  show(pev Γ (.var 17) ρ).bind (λa=>(pev Γ (.bi .len [(.var 16)]) ρ).bind λh=>bz a h .none .none)=_;rw [Yb,Q7];show bz (.list ((O.map Ln.out++fy m).map sv)) (.int (O.length:Nat)) .none .none=_;rw [e8 (lo:=H7 ((O.length:Nat):Int)) (hi:=H9) rfl rfl (by simp only [Hf,Hn,KV];lia),rZ _ (by simp)]
  congr 2
  rw [HY,NS (by simp),IQ (by simp),Jd]
 have hrh:pev Γ (.bin .Add (.list [(.cS ⟨#[]⟩),(.cS ⟨#[]⟩),(.cS ⟨#[46,46]⟩)]) (.bin .Mult (.list [(.cS ⟨#[]⟩)]) (.bin .Mod (.var 15) (.cI 2)))) ρ=H7 (.list ((fy m).map sv)):=by
  have hm:=fm (Γ:=Γ) (n:=2) (a:= .var 15) (ρ:=ρ) (way:=m) g15 (by decide)
  unfold fy;rcases i7 m with⟨h,h2⟩|⟨h,h2⟩
  ·rw [h]at hm
   rw [h2];exact af rfl (af rfl hm (c:= .list []) rfl) rfl
  ·rw [h]at hm
   rw [h2];exact af rfl (af rfl hm (c:= .list [sv []]) rfl) rfl
 refine i6 (cv SY hrh (mY _)) ?_;have hc:=dx (Γ:=Γ) (Qi:=[43,48]) (i:=48) (it:= .ex (.var 16)) (c:= .cmp .NotIn (.idx (.var 48) (.cI 1)) (.var 18)) (Qv:= .var 48) (ρ:=ρ) (xs:=L.map lnV) (λ_=>Hb) (λx=>x) (by show(pev Γ (.var 16) ρ).bind bK=_;rw [V2];rfl) (λx hx=>by
  obtain⟨l,hl,rfl⟩:=HC.mp hx;have Xf:pev Γ (.var 48) ((aw ρ [43,48]).set 48 (H7 (lnV l)))=H7 (lnV l):=by rw [<-hρ];rfl
  have Ya:pev Γ (.var 18) ((aw ρ [43,48]).set 48 (H7 (lnV l)))=H7 (dotsV O):=by rw [<-hρ];rfl
  refine cv (a:=sv l.name) (aM Xf rfl rfl) Ya ?_;show(H7 ((O.map λl=>tx l.name).contains (tx l.name))).map not=_;rw [(qI h.nodup (U_ l hl)).2]
  rfl) (λx _ q=>by cases q) (by rw [Hf];lia)
 exact cv hc (b:= .list []) rfl (oG (by simp))
def grV (L:List Ln):PV:= .list (L.map λl=> .int (if l.v=[]then 2 else 1))
theorem l19 (h:Lns O) (hl:L.length=O.length) (U_: ∀l∈L,l∈O):pev Γ (.comp1 [43,48] (.one 48) (.ex (.var 16)) [] (.bin .Sub (.idx (.var 18) (.idx (.var 48) (.cI 1))) (.idx (.var 48) (.cI 0)))) (lE (q17 S Qa hp n u m L O [dotsV O]))=H7 (grV L):=by
 generalize hρ:lE (q17 S Qa hp n u m L O [dotsV O])=ρ
 have V2:pev Γ (.var 16) ρ=H7 (.list (L.map lnV)):=by rw [<-hρ];rfl
 have h1:=h.len;let g:PV->PV:=λx=>match x with
  | .tuple [_,_,.str v,_]=> .int (if v=⟨#[]⟩then 2 else 1)
  |_=> .none
 have gl: ∀l:Ln,g (lnV l)= .int (if l.v=[]then 2 else 1):=λl=>by
  show PV.int (if(⟨l.v.toArray⟩:HJ)=⟨([]:List Nat).toArray⟩then 2 else 1)=_;by_cases q:l.v=[]
  ·rw [if_pos q,if_pos (by rw [q])]
  ·rw [if_neg q,if_neg λe=>q (nY e)]
 rw [dH (xs:=L.map lnV) g (by show(pev Γ (.var 16) ρ).bind bK=_;rw [V2];rfl) (λx hx=> ?_) (by rw [Hf,hl];exact H8 h1 (by decide))]
 ·unfold grV
  congr 2
  rw [HU];exact JI λl _=>gl l
 ·obtain⟨l,hl,rfl⟩:=HC.mp hx
  have Xf:pev Γ (.var 48) ((aw ρ [43,48]).set 48 (H7 (lnV l)))=H7 (lnV l):=by rw [<-hρ];rfl
  have Ya:pev Γ (.var 18) ((aw ρ [43,48]).set 48 (H7 (lnV l)))=H7 (dotsV O):=by rw [<-hρ];rfl
  rw [gl];refine af (b:= .int (l.d:Nat)) (aM (b:=sv l.name) Ya (aM Xf rfl rfl) (qI h.nodup (U_ l hl)).1) (aM Xf rfl rfl) ?_;show H7 (PV.int (((l.D:Nat):Int)-(l.d:Nat)))=_;unfold Ln.D;by_cases q:l.v=[]
  ·rw [if_pos q,if_pos q,Fw]
  ·rw [if_neg q,if_neg q,Fx]
theorem t20 (h1:L.length<=64):aJ Γ (.cmp .NotEq (.comp1 [43,49] (.one 49) (.ex (.var 19)) [(.boolop Hd [(.cmp .NotEq (.var 49) (.cI 1)),(.cmp .NotEq (.var 49) (.cI 2))])] (.var 49)) (.list [])) (lE (q17 S Qa hp n u m L O [dotsV O,grV L]))=H7 Hb:=by
 generalize hρ:lE (q17 S Qa hp n u m L O [dotsV O,grV L])=ρ
 have g19:pev Γ (.var 19) ρ=H7 (grV L):=by rw [<-hρ];rfl
 have hc:=dx (Γ:=Γ) (Qi:=[43,49]) (i:=49) (it:= .ex (.var 19)) (c:= .boolop Hd [(.cmp .NotEq (.var 49) (.cI 1)),(.cmp .NotEq (.var 49) (.cI 2))]) (Qv:= .var 49) (ρ:=ρ) (xs:=L.map λl=> .int (if l.v=[]then 2 else 1)) (λ_=>Hb) (λx=>x) (by show(pev Γ (.var 19) ρ).bind bK=_;rw [g19];rfl) (λx hx=>by
  obtain⟨l,hl,rfl⟩:=HC.mp hx;rw [<-hρ];by_cases q:l.v=[]
  ·rw [if_pos q];rfl
  ·rw [if_neg q];rfl) (λx _ q=>by cases q) (by rw [Hf];lia)
 exact c7 hc (b:= .list []) rfl (oG (by simp))
theorem xh (m:Int): ∀(es:List (Nat×Nat×Nat×Bool)) (i:Nat),(lnsFrom m i es).map (λl=>PV.int (if l.v=[]then 2 else 1))=es.map λe=> .int (if e.2.2.2=Hd then 2 else 1)
 |[],_=>rfl
 |e::r,i=>by
  show _::(lnsFrom m (i+1) r).map _=_;rw [xh m r (i+1),HI]
  congr 1
  show PV.int (if(if e.2.2.2=Hd then []else [veilsL.getD (md (m+(i:Nat)) 27) 0])=[]then 2 else 1)=_;by_cases q:e.2.2.2=Hd
  ·rw [if_pos q,if_pos q,if_pos rfl]
  ·rw [if_neg q,if_neg q,if_neg (by simp)]
end
def jd (Γ Γ' Γ₂:Gam):Gam:=⟨Γ.gv,λk args=>if k=21 then aE Γ' 8 [0,1] gb args else if k=22 then aE Γ₂ 3 [0] ft args else Γ.fn k args,Γ.gn⟩
def Gf:List (Nat×Nat×Nat×Bool):=[(0,1,1,Hb),(0,2,2,Hb),(1,1,1,Hb),(1,2,1,Hd),(2,1,1,Hb),(2,2,0,Hd),(3,1,0,Hd),(3,2,1,Hb),(4,1,0,Hd),(4,2,0,Hd)]
def Ga:List (List Nat):=[[40,40,40,41,41,41],[40,40,41,40,41,41],[40,40,41,41,40,41],[40,41,40,40,41,41],[40,41,40,41,40,41]]
def Gq:PV:= .list [.list [],.list [.tuple [.int 2,.int 2]],.list [.tuple [.int 2,.int 1]],.list [.tuple [.int 1,.int 1]],.list [.tuple [.int 1,.int 1],.tuple [.int 2,.int 1]]]
def Gk:List Nat:=[4,0,3,2,1]
def Gd:List Nat:=[2,4,3,0,1]
def Ge:List (Nat×Nat×Nat×Bool):=[(0,1,1,Hb),(0,2,2,Hb),(0,3,3,Hb),(1,1,1,Hb),(1,2,2,Hb),(1,3,2,Hd),(2,1,1,Hb),(2,2,2,Hb),(2,3,1,Hd),(3,1,1,Hb),(3,2,2,Hb),(3,3,0,Hd),(4,1,1,Hb),(4,2,1,Hd),(4,3,2,Hb),(5,1,1,Hb),(5,2,1,Hd),(5,3,1,Hd),(6,1,1,Hb),(6,2,1,Hd),(6,3,0,Hd),(7,1,1,Hb),(7,2,0,Hd),(7,3,1,Hb),(8,1,1,Hb),(8,2,0,Hd),(8,3,0,Hd),(9,1,0,Hd),(9,2,1,Hb),(9,3,2,Hb),(10,1,0,Hd),(10,2,1,Hb),(10,3,1,Hd),(11,1,0,Hd),(11,2,1,Hb),(11,3,0,Hd),(12,1,0,Hd),(12,2,0,Hd),(12,3,1,Hb),(13,1,0,Hd),(13,2,0,Hd),(13,3,0,Hd)]
def G4:List (List Nat):=[[40,40,40,40,41,41,41,41],[40,40,40,41,40,41,41,41],[40,40,40,41,41,40,41,41],[40,40,40,41,41,41,40,41],[40,40,41,40,40,41,41,41],[40,40,41,40,41,40,41,41],[40,40,41,40,41,41,40,41],[40,40,41,41,40,40,41,41],[40,40,41,41,40,41,40,41],[40,41,40,40,40,41,41,41],[40,41,40,40,41,40,41,41],[40,41,40,40,41,41,40,41],[40,41,40,41,40,40,41,41],[40,41,40,41,40,41,40,41]]
def Gp:PV:= .list [.list [],.list [.tuple [.int 3,.int 3]],.list [.tuple [.int 3,.int 2]],.list [.tuple [.int 3,.int 1]],.list [.tuple [.int 2,.int 2]],.list [.tuple [.int 2,.int 2],.tuple [.int 3,.int 2]],.list [.tuple [.int 2,.int 2],.tuple [.int 3,.int 1]],.list [.tuple [.int 2,.int 1]],.list [.tuple [.int 2,.int 1],.tuple [.int 3,.int 1]],.list [.tuple [.int 1,.int 1]],.list [.tuple [.int 1,.int 1],.tuple [.int 3,.int 2]],.list [.tuple [.int 1,.int 1],.tuple [.int 3,.int 1]],.list [.tuple [.int 1,.int 1],.tuple [.int 2,.int 1]],.list [.tuple [.int 1,.int 1],.tuple [.int 2,.int 1],.tuple [.int 3,.int 1]]]
def Gj:List Nat:=[13,0,9,12,3,1,2,11,10,8,4,7,6,5]
def Gc:List Nat:=[3,6,8,7,11,13,12,9,10,0,1,2,4,5]
def B' (n:Nat):List (Nat×Nat×Nat×Bool):=if n=3 then Gf else Ge
def zv (n:Nat):List (List Nat):=if n=3 then Ga else G4
def ki (n:Nat):PV:=if n=3 then Gq else Gp
def ip (n:Nat):List Nat:=if n=3 then Gk else Gj
def jc (n:Nat):List Nat:=if n=3 then Gd else Gc
theorem xl: ∀n∈[3,4],tabN n=B' n/\wordsN n=zv n/\(keptR n).map (λt=>uP (ia n t).tail)=(jc n).map λt=>(zv n).getD t []:=by decide+kernel
def grC (n:Nat):PV:= .list ((B' n).map λe=> .int (if e.2.2.2=Hd then 2 else 1))
def q19 (S:PV) (Qa hp:Int) (n:Nat) (u:Nat->List (List Nat)) (m:Int) (O:List Ln) (r:List PV):List PV:=
 q10 S Qa hp n u (d6 (u (oneR n hp))::da (u (oneR n hp))::mw (u (oneR n hp)):: .list ((zv n).map sv):: .int m:: .list ((lnsFrom m 0 (B' n)).map lnV):: .list ((O.map Ln.out++fy m).map sv)::dotsV O::grC n::r)
theorem CN {r:List PV} (hn:n∈[3,4]):q17 S Qa hp n u m (lnsN m n) O (dotsV O::grV (lnsN m n)::r)=q19 S Qa hp n u m O r:=by obtain⟨h1,h2,_⟩:=xl n hn;unfold q17 q15 q19 jj lnsN grV grC;rw [xh,h1,h2]
def eU (n:Nat) (ts:List Nat):PV:= .list (ts.map λt=>sv ((zv n).getD t []))
variable {Γ' Γ₂:Gam}
section
theorem F0:ag (jd Γ Γ' Γ₂) ((b8.drop 24).take 3) (lE (q19 S Qa hp 3 u m O [])) []=H7 (.next (lE (q19 S Qa hp 3 u m O [.int 2,ki 3,eU 3 (ip 3)])) []):=by kernel_rfl
theorem E_:ag (jd Γ Γ' Γ₂) ((b8.drop 28).take 3) (lE (q19 S Qa hp 3 u m O [.int 2,ki 3,eU 3 (ip 3),eU 3 (jc 3)])) []=H7 (.next (lE (q19 S Qa hp 3 u m O [.int 2,ki 3,eU 3 (ip 3),eU 3 (jc 3),aA (ip 3),aA (jc 3)])) []):=by kernel_rfl
theorem E':ag (jd Γ Γ' Γ₂) ((b8.drop 24).take 3) (lE (q19 S Qa hp 4 u m O [])) []=H7 (.next (lE (q19 S Qa hp 4 u m O [.int 3,ki 4,eU 4 (ip 4)])) []):=by kernel_rfl
theorem EZ:ag (jd Γ Γ' Γ₂) ((b8.drop 28).take 3) (lE (q19 S Qa hp 4 u m O [.int 3,ki 4,eU 4 (ip 4),eU 4 (jc 4)])) []=H7 (.next (lE (q19 S Qa hp 4 u m O [.int 3,ki 4,eU 4 (ip 4),eU 4 (jc 4),aA (ip 4),aA (jc 4)])) []):=by kernel_rfl
end
def hs (n:Nat):List Nat->Nat
 |[]=>0
 |d::r=>d+hs n r*2^n
theorem uK (n:Nat): ∀ds:List Nat,(∀d∈ds,d<2^n)->digs n ds.length (hs n ds)=ds.map λd:Nat=>(d:Int)
 |[],_=>rfl
 |d::r,h=>by
  have hd:=h d Hs;haveI e1:(d+hs n r*2^n) % 2^n=d:=by rw [Nat.add_mul_mod_self_right,Nat.mod_eq_of_lt hd]
  haveI e2:(d+hs n r*2^n)/2^n=hs n r:=by rw [Nat.add_mul_div_right _ _ (Ib n),Nat.div_eq_of_lt hd,IJ]
  show(((d+hs n r*2^n) % 2^n:Nat):Int)::digs n r.length ((d+hs n r*2^n)/2^n)=_;rw [e1,e2,uK n r λx hx=>h x (Hq _ hx)]
  rfl
theorem BJ (n:Nat): ∀ds:List Nat,(∀d∈ds,d<2^n)->hs n ds<2^(n*ds.length)
 |[],_=>by simp [hs]
 |d::r,h=>by
  haveI hd:=h d Hs;haveI ih:=BJ n r λx hx=>h x (Hq _ hx);show d+hs n r*2^n<_;rw [Hv,K7,Kn]
  calc d+hs n r*2^n<2^n+hs n r*2^n:=by exact N8 hd _
   _=(hs n r+1)*2^n:=by rw [KN,Mn,Iv]
   _<=2^(n*r.length)*2^n:=IC _ ih
theorem xe (n:Nat): ∀ds:List Nat,(∀d∈ds,d<2^n)->hs n (ds++[1])=hs n ds+2^(n*ds.length)
 |[],_=>by simp [hs]
 |d::r,h=>by haveI ih:=xe n r λx hx=>h x (Hq _ hx);show d+hs n (r++[1])*2^n=d+hs n r*2^n+_;rw [ih,Hv,K7,Kn,KN,I7]
theorem AJ (hn:0<n) (ds:List Nat) (h: ∀d∈ds,d<2^n):kOf (hs n (ds++[1])) n=ds.length+1:=by
 haveI h1:=BJ n ds h;have h2:=xe n ds h;haveI hp:0<hs n (ds++[1]):=by have:=Ib (n*ds.length);exact Ha (Nat.lt_add_left _ this) (Hu (IW h2))
 haveI hb:Hc (hs n (ds++[1]):Int)=n*ds.length+1:=by
  have a:=uM (a:=hs n (ds++[1])) (m:=n*ds.length) (by exact H8 (Iy _ _) (Hu (IW h2)))
  haveI b:=dK (hs n (ds++[1])) (n*ds.length+1) (by rw [L_];exact Hk (Hu h2) (N8 (Nat.lt_add_left _ h1) _))
  exact JH b a
 unfold kOf;rw [hb,show n*ds.length+1+n-1=n*(ds.length+1)by rw [K7];exact Nat.sub_eq_of_eq_add (HS _ _ _),Nat.mul_div_cancel_left _ hn]
theorem zd (hn:0<n) (ds:List Nat) (h: ∀d∈ds,d<2^n):digs n (kOf (hs n (ds++[1])) n) (hs n (ds++[1]))=(ds++[1]).map λd:Nat=>(d:Int):=by
 rw [AJ hn ds h];have:=uK n (ds++[1]) (λd hd=>by
  rcases Ik.mp hd with q|q
  ·exact h d q
  ·rw [Hx.mp q];exact Nat.one_lt_two_pow (by lia))
 rw [Hn]at this;exact this
variable {V:Int}
theorem uy {P:Int} (hV:V≠0):(-(V*P)).fdiv V= -P/\(-(V*P)).fmod V=0:=by
 haveI e: -(V*P)= -P*V:=by rw [O5,Int.mul_comm P V]
 rw [e];exact⟨Int.mul_fdiv_cancel _ hV,Int.mul_fmod_left _ _⟩
variable {a:Int}
section
theorem eI {b:Int} {m:Nat} (ha:Hc a<=m) (hb:Hc b<=n) (h:m+n<=134217728):eg .Mult (.int a) (.int b)=H7 (.int (a*b)):=if_pos (PF ha hb h)
theorem BA {m:Nat} (ha:Hc a<=m) (h:m+n<=134217728):eg .LShift (.int a) (.int (n:Nat))=H7 (.int (a*2^n)):=by show(if 0<=(n:Int)/\(Hc a:Int)+(n:Int)<=2^27 then H7 (PV.int (a*2^(n:Int).toNat))else H9)=_;rw [if_pos ⟨by exact HA _,by lia⟩,I3]
theorem yj (a:Int):gp .NotEq (.int a) (.int a)=H7 Hb:=by show H7 (!(a==a))=_;simp
theorem vF (a b:Int):gp .NotEq (.tuple [.int a,.int b]) (.tuple [.int a,.int b])=H7 Hb:=by show H7 (!((a==a)&&((b==b)&&Hd)))=_;simp
theorem ur {e:PE} {i:Int} (h:pev Γ e ρ=H7 (.int i)):pev Γ (.neg e) ρ=H7 (.int (-i)):=by show(pev Γ e ρ).bind _=_;rw [h];rfl
end
theorem dF (w:Nat): ∀l:List Nat,((hs w l:Nat):Int)=hsum w (l.map λd:Nat=>(d:Int))
 |[]=>rfl
 |d::r=>by
  rw [hs,HI,hsum,<-dF w r,Jr,K6,La]
  rfl
variable {e sd:Int}
theorem BS {A:Int} (he:0<=e) (hV:e<V) (Um:sd=1∨sd= -1):(sd*(A*V+e)).fdiv (sd*V)=A/\(sd*(A*V+e)).fmod (sd*V)=sd*e:=by
 have h0:0<V:=JA he hV;have key:(A*V+e).fdiv V=A:=by rw [M3,IK _ (JN h0),Pe _ _ (by lia),Pd he hV,Pc]
 have k2:(sd*(A*V+e)).fdiv (sd*V)=A:=by
  rcases Um with rfl|rfl
  ·rw [Mp,Mp];exact key
  ·rw [O5,Mp,O5,Mp,Int.neg_fdiv_neg]
   exact key
 refine⟨k2, ?_⟩;rw [Int.fmod_def,k2,Int.mul_add,Int.mul_comm A V,<-LK];lia
def fM (k:Nat):List Int:=Hy k 1
def eH (w:Nat) (ks:List Nat) (a:Int):Int:=ks.foldl (λa k=>a*hsum w (fM k)) a
def GJ:List Nat:=[1,0,1,1,1,0,1]
def GH:List Nat:=[1,0,1,1,2,1,2,1,2,1,1,0,1]
def wo (n:Nat):List Nat:=if n=3 then GJ else GH
def wi (n:Nat):List Nat:=if n=3 then [2,3]else [2,3,4]
def zw (n:Nat):List Nat:=if n=3 then [5,6]else [6,7,8]
def Qz (n w:Nat):Int:=(hs w (wo n):Nat)
theorem ES (X:Int):(1*(1+(1+(1+(1+(1+0*X)*X)*X)*X)*X))*(1+(1+(1+(1+(1+(1+0*X)*X)*X)*X)*X)*X)=(1+(0+(1+(1+(1+(0+(1+0*X)*X)*X)*X)*X)*X)*X)*((1*(1+(1+0*X)*X))*(1+(1+(1+0*X)*X)*X)):=by grind
theorem ER (X:Int):((1*(1+(1+(1+(1+(1+(1+0*X)*X)*X)*X)*X)*X))*(1+(1+(1+(1+(1+(1+(1+0*X)*X)*X)*X)*X)*X)*X))*(1+(1+(1+(1+(1+(1+(1+(1+0*X)*X)*X)*X)*X)*X)*X)*X)=
  (1+(0+(1+(1+(2+(1+(2+(1+(2+(1+(1+(0+(1+0*X)*X)*X)*X)*X)*X)*X)*X)*X)*X)*X)*X)*X)*(((1*(1+(1+0*X)*X))*(1+(1+(1+0*X)*X)*X))*(1+(1+(1+(1+0*X)*X)*X)*X)):=by grind
theorem Ae (w:Nat): ∀n∈[3,4],eH w (zw n) 1=Qz n w*eH w (wi n) 1:=by
 intro n hn;simp only [Hp,HF,or_false]at hn;unfold Qz;rw [dF];rcases hn with rfl|rfl
 ·exact ES (2^w)
 ·exact ER (2^w)
variable {w:Nat}
section
theorem uu {B:Nat} {d:Int} (h:d∈fM k) (hB:Hc 1<=B):Hc d<=B:=(Nn.mp h).2▸hB
theorem n0 (w k:Nat) (hw:w<=1403) (hk:k<=8):Hc (hsum w (fM k))<=12000:=by
 have h:=fI w 1 (fM k) λd hd=>uu hd (by decide)
 rw [show(fM k).length=k from Jt ..]at h;exact H8 h (H8 (HE (Hm _) (I6 (HE hw (Hm _)) hk)) (by decide))
theorem CV (h6: ∀args r,F6 args=H7 r->Γ.fn 6 args=H7 r) (hw:w<=1403) (hk:k<=8):Γ.fn 6 [.list ((fM k).map .int),.int (w:Nat)]=H7 (.int (hsum w (fM k))):=
 h6 _ _ (wN (λd hd=>uu hd (by decide)) (by lia) (by rw [show(fM k).length=k from Jt ..];lia) (by rw [show(fM k).length=k from Jt ..];exact H8 (I6 hw hk) (by decide)))
theorem ye (h1:1<=k) (hk:k<=8):eg .Mult (.list [.int 1]) (.int (k:Nat))=H7 (.list ((fM k).map .int)):=by
 have:k=1∨k=2∨k=3∨k=4∨k=5∨k=6∨k=7∨k=8:=by lia
 rcases this with rfl|rfl|rfl|rfl|rfl|rfl|rfl|rfl<;>kernel_rfl
def prB:List PS:=[.aug 2 .Mult 0 (.call 6 [(.bin .Mult (.list [(.cI 1)]) (.var 3)),(.var 1)])]
theorem mX (h6: ∀args r,F6 args=H7 r->Γ.fn 6 args=H7 r) (hw:w<=1403) {R:PV}: ∀(ks:List Nat) (a:Int) (B:Nat) (p3:Option PV),(∀k∈ks,1<=k/\k<=8)->Hc a<=B->B+12000*ks.length<=100000->
  ∃q3,eG (.one 3) (λρ own=>ag Γ prB ρ own) (ks.map λk=>PV.int (k:Nat)) [H7 R,H7 (.int (w:Nat)),H7 (.int a),p3] []=H7 (.next [H7 R,H7 (.int (w:Nat)),H7 (.int (eH w ks a)),q3] [])
 |[],a,B,p3,_,_,_=>⟨p3,rfl⟩
 |k::ks,a,B,p3,hk,ha,hB=>by
  obtain⟨k1,k2⟩:=hk k Hs;simp only [Hv]at hB;have hb:=n0 w k hw k2;obtain⟨q3,ih⟩:=mX h6 hw ks (a*hsum w (fM k)) (B+12000) (H7 (.int k)) (λj hj=>hk j (Hq _ hj)) (I4 ha hb) (by lia)
  refine⟨q3, ?_⟩;rw [HI,pW rfl];have hs:az Γ (.aug 2 .Mult 0 (.call 6 [(.bin .Mult (.list [(.cI 1)]) (.var 3)),(.var 1)])) [H7 R,H7 (.int (w:Nat)),H7 (.int a),H7 (.int k)] []=H7 (.next [H7 R,H7 (.int (w:Nat)),H7 (.int (a*hsum w (fM k))),H7 (.int k)] []):=
   dq (a:= .int a) (b:= .int (hsum w (fM k))) rfl (aq (ac (af (a:= .list [.int 1]) (b:= .int k) rfl rfl (ye k1 k2)) (ac rfl rfl)) (CV h6 hw k2)) (eI ha hb (by lia)) rfl
  show(match ag Γ prB [H7 R,H7 (.int (w:Nat)),H7 (.int a),H7 (.int k)] []with|some (.next ρ own)=>_|some (.ret v)=>_|none=>_)=_
  rw [prB,cw hs];exact ih
theorem hU (h6: ∀args r,F6 args=H7 r->Γ.fn 6 args=H7 r) (hw:w<=1403) {b:Int} {ks:List Nat} (hr:bK (.range a b)=H7 (ks.map λk=>PV.int (k:Nat))) (hk: ∀k∈ks,1<=k/\k<=8) (hl:ks.length<=3):
  aE Γ 4 [0,1] cb [.range a b,.int (w:Nat)]=H7 (.int (eH w ks 1)):=by
 obtain⟨q3,Vb⟩:=mX h6 hw (R:= .range a b) ks 1 1 H9 hk (by decide) (by lia)
 have P:ag Γ cb [H7 (.range a b),H7 (.int (w:Nat)),H9,H9] []=H7 (.ret (.int (eH w ks 1))):=by
  rw [show cb=[.set 2 0 (.cI 1),.for_ (.one 3) (.ex (.var 0)) prB,.ret (.var 2)]from rfl,aa (ρ':=[H7 (.range a b),H7 (.int (w:Nat)),H7 (.int 1),H9]) (Qb:=[]) rfl,aa ((eE (Γ:=Γ) (pt:= .one 3) (body:=prB) (own:=[]) (ρ:=[H7 (.range a b),H7 (.int (w:Nat)),H7 (.int 1),H9]) (show pit Γ (.ex (.var 0)) _=_ from hr)).trans Vb)]
  rfl
 show((ag Γ cb [H7 (.range a b),H7 (.int (w:Nat)),H9,H9] []).bind _)=_;rw [P]
 rfl
theorem jz (hw:w<=1403): ∀(ks:List Nat) (a:Int) (B:Nat),(∀k∈ks,k<=8)->Hc a<=B->Hc (eH w ks a)<=B+12000*ks.length
 |[],a,B,_,ha=>ha
 |k::ks,a,B,hk,ha=>by have h:=jz hw ks (a*hsum w (fM k)) (B+12000) (λj hj=>hk j (Hq _ hj)) (I4 ha (n0 w k hw (hk k Hs)));show Hc (eH w ks (a*hsum w (fM k)))<=_;rw [Hv];lia
theorem qA (w:Nat): ∀k,1<=k->0<hsum w (fM k)
 |k+1,_=>by
  show 0<1+hsum w (fM k)*2^w;have h2:(0:Int)<=2^w:=Ov (by decide)
  have h1:0<=hsum w (fM k):=by
   cases k with
   |zero=>exact Int.le_refl _
   |succ k=>exact JN (qA w (k+1) (HM (IH _)))
  have:=Ow h1 h2;lia
theorem qr: ∀(ks:List Nat) (a:Int),(∀k∈ks,1<=k)->0<a->0<eH w ks a
 |[],a,_,h=>h
 |k::ks,a,hk,h=>qr ks (a*hsum w (fM k)) (λj hj=>hk j (Hq _ hj)) (Int.mul_pos h (qA w k (hk k Hs)))
structure Rem (n o:Nat) (shape qs:List Int) (r:Int):Prop where
 sh: ∀(Γ:Gam) a b c,pev Γ (.idx (.dicI [1,2,3,4,6,8] [(.list [(.neg (.cI 1)),(.cI 1)]),(.list [(.cI 1),(.cI 1)]),(.list [(.cI 1),(.cI 1),(.cI 1)]),(.list [(.cI 1),(.cI 0),(.cI 1)]),(.list [(.cI 1),(.neg (.cI 1)),(.cI 1)]),(.list [(.cI 1),(.cI 0),(.cI 0),(.cI 0),(.cI 1)])]) (.var 1)) [a,H7 (.int (o:Nat)),b,c,H9,H9,H9,H9]=H7 (.list (shape.map .int))
 bits:shape.length<=5/\ ∀d∈shape,Hc d<=1
 id: ∀w,Qz n w=hsum w qs*hsum w shape+r
 lt: ∀w,4<=w->0<=r/\r<hsum w shape
theorem kN (hn:n∈[3,4]) (hw:w<=1403):Hc (Qz n w)<=20000:=by
 unfold Qz;rw [dF];simp only [Hp,HF,or_false]at hn;have h:=fI w 2 ((wo n).map λd:Nat=>(d:Int)) (by rcases hn with rfl|rfl<;>decide)
 have hl:((wo n).map λd:Nat=>(d:Int)).length<=13:=by rcases hn with rfl|rfl<;>decide
 exact H8 h (H8 (HE (Hm _) (I6 (HE hw (Hm _)) hl)) (by decide))
theorem vQ (h6: ∀args r,F6 args=H7 r->Γ.fn 6 args=H7 r) (h8: ∀args r,F8 args=H7 r->Γ.fn 8 args=H7 r) {o:Nat} {shape qs:List Int} {r:Int} (hn:n∈[3,4]) (h:Rem n o shape qs r) (Uj:4<=w) (hw:w<=1403) (Um:sd=1∨sd= -1):
  aE Γ 8 [0,1,2,3] dv [.int (Qz n w),.int (o:Nat),.int (w:Nat),.int sd]=H7 (.int r):=by
 obtain⟨r0,r1⟩:=h.lt w Uj;have hq:=h.id w;have bN:=kN hn hw;have bP:Hc (hsum w shape)<=8000:=by have:=fI w 1 shape h.bits.2;exact H8 this (H8 (HE (Hm _) (I6 (HE hw (Hm _)) h.bits.1)) (by decide))
 have bs:Hc sd<=1:=by rcases Um with rfl|rfl<;>decide
 have a6:Γ.fn 6 [.list (shape.map .int),.int (w:Nat)]=H7 (.int (hsum w shape)):=h6 _ _ (wN (λd hd=>H8 (h.bits.2 d hd) (by decide)) (by lia) (by have:=h.bits.1;lia) (H8 (I6 hw h.bits.1) (by decide)))
 generalize Qz n w=N at*
 generalize hsum w shape=P at*
 generalize hsum w qs=A at*
 have b1:Hc (sd*N)<=20001:=H8 (I4 bs bN) (by decide)
 have b2:Hc (sd*P)<=8001:=H8 (I4 bs bP) (by decide)
 have hP0:0<P:=JA r0 r1;have hV:sd*P≠0:=by rcases Um with rfl|rfl<;>lia
 obtain⟨e1,e2⟩:=BS (A:=A) r0 r1 Um;rw [<-hq]at e1 e2;have a8:Γ.fn 8 [.int (sd*N),.int (sd*P)]=H7 (.tuple [.int A,.int (sd*r)]):=by
  have:=h8 [.int (sd*N),.int (sd*P)] (.tuple [.int ((sd*N).fdiv (sd*P)),.int ((sd*N).fmod (sd*P))]) (if_pos ⟨hV,H8 b1 (by decide),H8 b2 (by decide)⟩)
  rw [e1,e2]at this;exact this
 have bA:Hc A<=20001:=by rw [<-e1];exact PySem.intBits_fdiv_le b1
 have br:Hc (sd*r)<=20001:=by
  have:(sd*r).natAbs<=P.natAbs:=by rcases Um with rfl|rfl<;>lia
  exact H8 (Ia.mpr (Hk this (Ia.mp bP))) (by decide)
 have hsum:A*(sd*P)+sd*r=sd*N:=by rw [hq,Int.mul_add,Int.mul_left_comm]
 have hrr:sd*(sd*r)=r:=by rcases Um with rfl|rfl<;>lia
 have P1:ag Γ dv [H7 (.int N),H7 (.int (o:Nat)),H7 (.int (w:Nat)),H7 (.int sd),H9,H9,H9,H9] []=H7 (.ret (.int r)):=by
  unfold dv;rw [aa (ρ':=[H7 (.int N),H7 (.int (o:Nat)),H7 (.int (w:Nat)),H7 (.int sd),H7 (.list (shape.map .int)),H9,H9,H9]) (Qb:=[]) (au (h.sh Γ _ _ _)),
   aa (ρ':=[H7 (.int N),H7 (.int (o:Nat)),H7 (.int (w:Nat)),H7 (.int sd),H7 (.list (shape.map .int)),H7 (.int (sd*P)),H9,H9]) (Qb:=[]) (au (af (a:= .int sd) rfl (aq (vs:=[.list (shape.map .int),.int (w:Nat)]) (ac rfl (ac rfl rfl)) a6) (eI bs bP (by decide)))),
   aa (ρ':=[H7 (.int N),H7 (.int (o:Nat)),H7 (.int (w:Nat)),H7 (.int sd),H7 (.list (shape.map .int)),H7 (.int (sd*P)),H7 (.int A),H7 (.int (sd*r))]) (Qb:=[]) (dj (aq (vs:=[.int (sd*N),.int (sd*P)]) (ac (af (a:= .int sd) (b:= .int N) rfl rfl (eI bs bN (by decide))) (ac rfl rfl)) a8) rfl)]
  refine ak (aC (gU (t:=Hd) (c7 (a:= .int (A*(sd*P)+sd*r)) (b:= .int (sd*N)) (af (a:= .int (A*(sd*P))) (b:= .int (sd*r)) (af (a:= .int A) (b:= .int (sd*P)) rfl rfl (eI bA b2 (by decide))) rfl rfl) (af (a:= .int sd) (b:= .int N) rfl rfl (eI bs bN (by decide))) ?_) ?_))
  ·rw [hsum]
   show H7 (sd*N==sd*N)=_;simp
  ·rw [if_pos rfl,<-hrr]
   refine af (a:= .int sd) (b:= .int (sd*r)) rfl ?_ (eI bs br (by decide))
   rw [hrr];rfl
 show((ag Γ dv [H7 (.int N),H7 (.int (o:Nat)),H7 (.int (w:Nat)),H7 (.int sd),H9,H9,H9,H9] []).bind _)=_;rw [P1]
 rfl
end
def ordC (n:Nat):List Nat:=if n=3 then [1,2,3,6]else [1,2,4,8]
def zy (n o:Nat):Int:=if o=1 then(if n=3 then 5 else 14)else if o=2 then(if n=3 then 3 else 6)else if o=3 then 2 else if o=4 then 2 else 0
theorem rP (hw:4<=w):(16:Int)<=2^w:=by
 haveI:(2:Nat)^4<=2^w:=J4 (by decide) hw
 haveI:(16:Nat)<=2^w:=this;have:((16:Nat):Int)<=((2^w:Nat):Int):=M2.mpr this;rw [La]at this;exact this
theorem wv {X:Int} (h:16<=X):16*X<=X*X:=Int.mul_le_mul_of_nonneg_right h (Kt (by decide) h)
theorem CL:Rem 3 1 [-1,1] [4,4,3,2,1,1] 5 where
 sh:=λ_ _ _ _=>by kernel_rfl
 bits:=by decide
 id:=λw=>by
  unfold Qz;rw [dF];show hsum w [1,0,1,1,1,0,1]=_;simp only [hsum];generalize (2:Int)^w=X
  grind
 lt:=λw hw=>⟨by decide,by have h:=rP hw;simp only [hsum];lia⟩
theorem CK:Rem 3 2 [1,1] [-2,2,-1,2,-1,1] 3 where
 sh:=λ_ _ _ _=>by kernel_rfl
 bits:=by decide
 id:=λw=>by
  unfold Qz;rw [dF];show hsum w [1,0,1,1,1,0,1]=_;simp only [hsum];generalize (2:Int)^w=X
  grind
 lt:=λw hw=>⟨by decide,by have h:=rP hw;simp only [hsum];lia⟩
theorem CJ:Rem 3 3 [1,1,1] [-1,1,1,-1,1] 2 where
 sh:=λ_ _ _ _=>by kernel_rfl
 bits:=by decide
 id:=λw=>by
  unfold Qz;rw [dF];show hsum w [1,0,1,1,1,0,1]=_;simp only [hsum];generalize (2:Int)^w=X
  grind
 lt:=λw hw=>⟨by decide,by
  have h:=rP hw;have h2:=wv h;rw [show hsum w [1,1,1]=1+2^w+2^w*2^w by simp only [hsum];generalize (2:Int)^w=X;grind]
  generalize (2:Int)^w=X at*
  lia⟩
theorem CI:Rem 3 6 [1,-1,1] [1,1,1,1,1] 0 where
 sh:=λ_ _ _ _=>by kernel_rfl
 bits:=by decide
 id:=λw=>by
  unfold Qz;rw [dF];show hsum w [1,0,1,1,1,0,1]=_;simp only [hsum];generalize (2:Int)^w=X
  grind
 lt:=λw hw=>⟨by decide,by
  have h:=rP hw;have h2:=wv h;rw [show hsum w [1,-1,1]=1-2^w+2^w*2^w by simp only [hsum];generalize (2:Int)^w=X;grind]
  generalize (2:Int)^w=X at*
  lia⟩
theorem CH:Rem 4 1 [-1,1] [13,13,12,11,9,8,6,5,3,2,1,1] 14 where
 sh:=λ_ _ _ _=>by kernel_rfl
 bits:=by decide
 id:=λw=>by
  unfold Qz;rw [dF];show hsum w [1,0,1,1,2,1,2,1,2,1,1,0,1]=_;simp only [hsum];generalize (2:Int)^w=X
  grind
 lt:=λw hw=>⟨by decide,by have h:=rP hw;simp only [hsum];lia⟩
theorem CG:Rem 4 2 [1,1] [-5,5,-4,5,-3,4,-2,3,-1,2,-1,1] 6 where
 sh:=λ_ _ _ _=>by kernel_rfl
 bits:=by decide
 id:=λw=>by
  unfold Qz;rw [dF];show hsum w [1,0,1,1,2,1,2,1,2,1,1,0,1]=_;simp only [hsum];generalize (2:Int)^w=X
  grind
 lt:=λw hw=>⟨by decide,by have h:=rP hw;simp only [hsum];lia⟩
theorem CF:Rem 4 4 [1,0,1] [-1,0,2,1,0,0,2,1,0,0,1] 2 where
 sh:=λ_ _ _ _=>by kernel_rfl
 bits:=by decide
 id:=λw=>by
  unfold Qz;rw [dF];show hsum w [1,0,1,1,2,1,2,1,2,1,1,0,1]=_;simp only [hsum];generalize (2:Int)^w=X
  grind
 lt:=λw hw=>⟨by decide,by
  have h:=rP hw;have h2:=wv h;rw [show hsum w [1,0,1]=1+2^w*2^w by simp only [hsum];generalize (2:Int)^w=X;grind]
  generalize (2:Int)^w=X at*
  lia⟩
theorem CD:Rem 4 8 [1,0,0,0,1] [1,0,1,1,1,1,1,0,1] 0 where
 sh:=λ_ _ _ _=>by kernel_rfl
 bits:=by decide
 id:=λw=>by
  unfold Qz;rw [dF];show hsum w [1,0,1,1,2,1,2,1,2,1,1,0,1]=_;simp only [hsum];generalize (2:Int)^w=X
  grind
 lt:=λw hw=>⟨by decide,by
  have h:(0:Int)<=2^w*2^w:=Ow (Ov (by decide)) (Ov (by decide))
  have h2:=Ow h h;rw [show hsum w [1,0,0,0,1]=1+(2^w*2^w)*(2^w*2^w)by simp only [hsum];generalize (2:Int)^w=X;grind]
  lia⟩
theorem Ac: ∀n∈[3,4],∀o∈ordC n,∃shape qs,Rem n o shape qs (zy n o):=by
 intro n hn o ho;simp only [Hp,HF,or_false]at hn;rcases hn with rfl|rfl
 ·have ho:o=1∨o=2∨o=3∨o=6:=by simpa [ordC]using ho
  rcases ho with rfl|rfl|rfl|rfl
  ·exact⟨_,_,CL⟩
  ·exact⟨_,_,CK⟩
  ·exact⟨_,_,CJ⟩
  ·exact⟨_,_,CI⟩
 ·have ho:o=1∨o=2∨o=4∨o=8:=by simpa [ordC]using ho
  rcases ho with rfl|rfl|rfl|rfl
  ·exact⟨_,_,CH⟩
  ·exact⟨_,_,CG⟩
  ·exact⟨_,_,CF⟩
  ·exact⟨_,_,CD⟩
structure LH (Γ:Gam) (S:PV) (hf:Nat->Int):Prop where
 g:LG Γ S hf
 way:Way Γ
 h5: ∀args r,F5 args=H7 r->Γ.fn 5 args=H7 r
 h8: ∀args r,F8 args=H7 r->Γ.fn 8 args=H7 r
 h18: ∀n∈[3,4],∀m:Int,Γ.fn 18 [jj n,.int m]=H7 (.list ((lnsN m n).map lnV))
 h19: ∀(L:List Ln) (m:Int),Lns L->Γ.fn 19 [.list (L.map lnV),.int m]=H7 (sv (dd Hd (nl Hb ((bG m (ordL m L)).flatten++dO m))))
 h20: ∀T:List Nat,T.length<=100000->Γ.fn 20 [sv T]=H7 (sv (cO d4 cH T))
 h23: ∀n:Nat,n∈[3,4]-> ∀w:Nat,w<=1403->Γ.fn 23 [.range 2 (n+1),.int (w:Nat)]=H7 (.int (eH w (wi n) 1))/\Γ.fn 23 [.range (n+2) (2*n+1),.int (w:Nat)]=H7 (.int (eH w (zw n) 1))
 h24: ∀n∈[3,4],∀o∈ordC n,∀w:Nat,4<=w->w<=1403-> ∀sd:Int,(sd=1∨sd= -1)->Γ.fn 24 [.int (Qz n w),.int (o:Nat),.int (w:Nat),.int sd]=H7 (.int (zy n o))
 st: ∃Γ' Γ₂,Γ=jd Γ Γ' Γ₂
def sg (x:Int):Int:=1-(2*md x 2:Nat)
theorem Bw (x:Int):sg x=1∨sg x= -1:=by
 have:=d_ x (n:=2) (by decide)
 unfold sg;lia
variable {hf:Nat->Int} {ld:Int}
section
variable {f:Int}
theorem n26 (G:LG Γ S hf) (g0:pev Γ (.var 0) ρ=H7 S):pev Γ (.bin .Add (.cI 4) (.bin .Mod (.call 12 [(.var 0),(.cI 2)]) (.cI 1400))) ρ=H7 (.int (4+md (hf 2) 1400:Nat)):=by
 refine af (a:= .int 4) rfl (fm (n:=1400) (way:=hf 2) (aq (vs:=[S,.int ((2:Nat):Int)]) (ac g0 (ac rfl rfl)) (G.h12 2 (by decide))) (by decide)) ?_
 show H7 (PV.int (4+((md (hf 2) 1400:Nat):Int)))=_;rw [Jr];rfl
theorem n27 (G:LG Γ S hf) (g0:pev Γ (.var 0) ρ=H7 S):pev Γ (.bin .Add (.cI 1) (.bin .Mod (.call 12 [(.var 0),(.cI 3)]) (.bin .Pow (.cI 2) (.cI 90)))) ρ=H7 (.int (1+(hf 3).fmod (2^90))):=
 af (a:= .int 1) (b:= .int ((hf 3).fmod (2^90))) rfl (af (a:= .int (hf 3)) (b:= .int (2^90)) (aq (vs:=[S,.int ((3:Nat):Int)]) (ac g0 (ac rfl rfl)) (G.h12 3 (by decide))) (by kernel_rfl) (jR (by decide))) rfl
theorem n28 (hk:k=4∨k=8) (g1:pev Γ (.var 1) ρ=H7 (.int Qa)):pev Γ (.bin .Sub (.cI 1) (.bin .Mult (.cI 2) (.bin .Mod (.bin .FloorDiv (.var 1) (.cI (k:Nat))) (.cI 2)))) ρ=H7 (.int (sg (Qa.fdiv k))):=
 af (a:= .int 1) rfl (af (a:= .int (2:Nat)) rfl (fm (n:=2) (af (a:= .int Qa) (b:= .int k) g1 rfl (tV (by rcases hk with rfl|rfl<;>decide) (by rcases hk with rfl|rfl<;>decide))) (by decide)) (fB (by decide))) rfl
def Vz (n w:Nat) (f:Int):Int:=eH w (wi n) 1*f
theorem sj (h1:1<=f) (h2:f<=2^90):Hc f<=91:=Ia.mpr (by lia)
theorem i_ (hn:n∈[3,4]) (hw:w<=1403):Hc (eH w (wi n) 1)<=40000/\Hc (eH w (zw n) 1)<=40000/\0<eH w (wi n) 1:=by
 simp only [Hp,HF,or_false]at hn;rcases hn with rfl|rfl
 all_goals refine⟨H8 (jz hw _ 1 1 (by decide) (by decide)) (by decide),H8 (jz hw _ 1 1 (by decide) (by decide)) (by decide),qr _ 1 (by decide) (by decide)⟩
theorem wL (hn:n∈[3,4]) (hw:w<=1403) (h1:1<=f):0<Vz n w f:=Int.mul_pos (i_ hn hw).2.2 (by lia)
theorem oq (hn:n∈[3,4]) (hw:w<=1403) (h1:1<=f) (h2:f<=2^90):Hc (Vz n w f)<=41000:=H8 (I4 (i_ hn hw).1 (sj h1 h2)) (by decide)
theorem n30 (G:LH Γ S hf) (hn:n∈[3,4]) (hw:w<=1403) (h1:1<=f) (h2:f<=2^90) (g2:pev Γ (.var 2) ρ=H7 (.int (n:Nat))) (TM:pev Γ (.var 26) ρ=H7 (.int (w:Nat))) (Y9:pev Γ (.var 27) ρ=H7 (.int f)):
  pev Γ (.bin .Mult (.call 23 [(.rng [(.cI 2),(.bin .Add (.var 2) (.cI 1))]),(.var 26)]) (.var 27)) ρ=H7 (.int (Vz n w f)):=by
 have hr:pev Γ (.rng [(.cI 2),(.bin .Add (.var 2) (.cI 1))]) ρ=H7 (.range 2 (n+1)):=by
  show(cE Γ [_,_] ρ).bind gX=_;rw [ac rfl (ac (af g2 rfl rfl) rfl)]
  rfl
 exact af (aq (ac hr (ac TM rfl)) (G.h23 n hn w hw).1) Y9 (eI (i_ hn hw).1 (sj h1 h2) (by decide))
theorem n31 (G:LG Γ S hf) (hV:0<e) (g0:pev Γ (.var 0) ρ=H7 S) (V1:pev Γ (.var 30) ρ=H7 (.int e)):pev Γ (.bin .Mod (.call 12 [(.var 0),(.cI 4)]) (.var 30)) ρ=H7 (.int ((hf 4).fmod e)):=
 af (a:= .int (hf 4)) (b:= .int e) (aq (vs:=[S,.int ((4:Nat):Int)]) (ac g0 (ac rfl rfl)) (G.h12 4 (by decide))) V1 (jR (by lia))
def Dz (n w:Nat) (f e ld:Int):Int:=ld*Qz n w*Vz n w f+e
theorem n32 (G:LH Γ S hf) (hn:n∈[3,4]) (hw:w<=1403) (h1:1<=f) (h2:f<=2^90) (hl:ld=1∨ld= -1) (g2:pev Γ (.var 2) ρ=H7 (.int (n:Nat))) (g3:pev Γ (.var 3) ρ=H7 (.int (2*(n:Nat)))) (TM:pev Γ (.var 26) ρ=H7 (.int (w:Nat))) (Y9:pev Γ (.var 27) ρ=H7 (.int f)) (Uw:pev Γ (.var 28) ρ=H7 (.int ld)) (Y8:pev Γ (.var 31) ρ=H7 (.int e)):
  pev Γ (.bin .Add (.bin .Mult (.bin .Mult (.var 28) (.call 23 [(.rng [(.bin .Add (.var 2) (.cI 2)),(.bin .Add (.var 3) (.cI 1))]),(.var 26)])) (.var 27)) (.var 31)) ρ=H7 (.int (Dz n w f e ld)):=by
 have hr:pev Γ (.rng [(.bin .Add (.var 2) (.cI 2)),(.bin .Add (.var 3) (.cI 1))]) ρ=H7 (.range (n+2) (2*n+1)):=by
  show(cE Γ [_,_] ρ).bind gX=_;rw [ac (af g2 rfl rfl) (ac (af g3 rfl rfl) rfl)]
  rfl
 have bl:Hc ld<=1:=by rcases hl with rfl|rfl<;>decide
 have bu:=(i_ hn hw).2.1;have e1:ld*eH w (zw n) 1*f+e=Dz n w f e ld:=by unfold Dz Vz;rw [Ae w n hn,<-LK,<-LK]
 rw [<-e1];exact af (af (af Uw (aq (ac hr (ac TM rfl)) (G.h23 n hn w hw).2) (eI bl bu (by decide))) Y9 (eI (I4 bl bu) (sj h1 h2) (by decide))) Y8 rfl
theorem DY (hn:n∈[3,4]) (hw:w<=1403) (h1:1<=f) (h2:f<=2^90) (hl:ld=1∨ld= -1) (he:0<=e) (XT:e<Vz n w f):Hc (Dz n w f e ld)<=70000:=by
 have bl:Hc ld<=1:=by rcases hl with rfl|rfl<;>decide
 have bV:=oq hn hw h1 h2;have be:Hc e<=41000:=Ia.mpr (Hk (by lia) (Ia.mp bV))
 exact H8 (O_ (I4 (I4 bl (kN hn hw)) bV) (H8 be (show 41000<=1+20000+41000 by decide))) (by decide)
theorem n33 (G:LH Γ S hf) (hn:n∈[3,4]) (hw:w<=1403) (h1:1<=f) (h2:f<=2^90) (hl:ld=1∨ld= -1) (hs:sd=1∨sd= -1) (he:0<=e) (XT:e<Vz n w f) (TL:pev Γ (.var 29) ρ=H7 (.int sd)) (V1:pev Γ (.var 30) ρ=H7 (.int (Vz n w f))) (g32:pev Γ (.var 32) ρ=H7 (.int (Dz n w f e ld))):
  pev Γ (.call 8 [(.bin .Mult (.var 29) (.var 32)),(.bin .Mult (.var 29) (.var 30))]) ρ=H7 (.tuple [.int (ld*Qz n w),.int (sd*e)]):=by
 have bs:Hc sd<=1:=by rcases hs with rfl|rfl<;>decide
 have bV:=oq hn hw h1 h2;have bD:=DY hn hw h1 h2 hl he XT;have hV:=wL hn hw h1;obtain⟨e1,e2⟩:=BS (A:=ld*Qz n w) he XT hs;have:=G.h8 [.int (sd*Dz n w f e ld),.int (sd*Vz n w f)] (.tuple [.int ((sd*Dz n w f e ld).fdiv (sd*Vz n w f)),.int ((sd*Dz n w f e ld).fmod (sd*Vz n w f))]) (if_pos ⟨by rcases hs with rfl|rfl<;>lia,H8 (I4 bs bD) (by decide),H8 (I4 bs bV) (by decide)⟩)
 rw [show(sd*Dz n w f e ld).fdiv (sd*Vz n w f)=_ from e1,show(sd*Dz n w f e ld).fmod (sd*Vz n w f)=_ from e2]at this;exact aq (vs:=[.int (sd*Dz n w f e ld),.int (sd*Vz n w f)]) (ac (af TL g32 (eI bs bD (by decide))) (ac (af TL V1 (eI bs bV (by decide))) rfl)) this
theorem n35 (hn:n∈[3,4]) (hw:w<=1403) (g2:pev Γ (.var 2) ρ=H7 (.int (n:Nat))) (g20:pev Γ (.var 20) ρ=H7 (.int ((n-1:Nat):Int))) (TM:pev Γ (.var 26) ρ=H7 (.int (w:Nat))):pev Γ (.bin .Mult (.bin .Mult (.var 2) (.var 20)) (.var 26)) ρ=H7 (.int (n*(n-1)*w:Nat)):=by
 have h4:n<=4:=by simp only [Hp,HF,or_false]at hn;lia
 have h5:n*(n-1)<=4*3:=I6 h4 (by lia)
 exact af (af g2 g20 (fB (by lia))) TM (fB (by lia))
theorem t36 (G:LH Γ S hf) (hn:n∈[3,4]) (hw:w<=1403) (h1:1<=f) (h2:f<=2^90) (hs:sd=1∨sd= -1) (hk:k<=20000) (TL:pev Γ (.var 29) ρ=H7 (.int sd)) (V1:pev Γ (.var 30) ρ=H7 (.int (Vz n w f))) (g35:pev Γ (.var 35) ρ=H7 (.int (k:Nat))):
  aJ Γ (.cmp .NotEq (.call 8 [(.bin .Mult (.neg (.var 29)) (.bin .LShift (.var 30) (.var 35))),(.bin .Mult (.var 29) (.var 30))]) (.tup [(.neg (.bin .LShift (.cI 1) (.var 35))),(.cI 0)])) ρ=H7 Hb:=by
 have bs:Hc sd<=1:=by rcases hs with rfl|rfl<;>decide
 have bn:Hc (-sd)<=1:=by rcases hs with rfl|rfl<;>decide
 have bV:=oq hn hw h1 h2;have hV:=wL hn hw h1;have bp:Hc ((2:Int)^k)<=20001:=H8 (qT k) (HM hk);have bVp:Hc (Vz n w f*2^k)<=61001:=I4 bV bp;have e: -sd*(Vz n w f*2^k)= -(sd*Vz n w f*2^k):=by rw [O5,LK]
 have XZ:sd*Vz n w f≠0:=by rcases hs with rfl|rfl<;>lia
 have h:=G.h8 [.int (-sd*(Vz n w f*2^k)),.int (sd*Vz n w f)] (.tuple [.int ((-sd*(Vz n w f*2^k)).fdiv (sd*Vz n w f)),.int ((-sd*(Vz n w f*2^k)).fmod (sd*Vz n w f))]) (if_pos ⟨XZ,H8 (I4 bn bVp) (by decide),H8 (I4 bs bV) (by decide)⟩)
 rw [e,(uy XZ).1,(uy XZ).2,<-e]at h;refine c7 (a:= .tuple [.int (-(2^k)),.int 0]) (b:= .tuple [.int (-(2^k)),.int 0]) ?_ ?_ (vF _ _)
 ·exact aq (vs:=[.int (-sd*(Vz n w f*2^k)),.int (sd*Vz n w f)]) (ac (af (ur TL) (af V1 g35 (BA bV (by lia))) (eI bn bVp (by decide))) (ac (af TL V1 (eI bs bV (by decide))) rfl)) h
 ·show(cE Γ _ _).bind ou=_
  rw [ac (ur (af (a:= .int 1) (b:= .int (k:Nat)) rfl g35 (BA (m:=1) (by decide) (by lia)))) (ac rfl rfl),Mp]
  rfl
def rO (n:Nat):PV:= .list (((wo n).map λd:Nat=>(d:Int)).map .int)
theorem Bf: ∀n∈[3,4],∃ds,wo n=ds++[1]/\ ∀d∈ds,d<2^4:=by
 intro n hn;simp only [Hp,HF,or_false]at hn;rcases hn with rfl|rfl
 ·exact⟨[1,0,1,1,1,0],rfl,by decide⟩
 ·exact⟨[1,0,1,1,2,1,2,1,2,1,1,0],rfl,by decide⟩
theorem Fd (h:ld=1∨ld= -1) (x:Int):ld*(ld*x)=x:=by rcases h with rfl|rfl<;>lia
theorem ldQ (hn:n∈[3,4]) (hw:w<=1403) (hl:ld=1∨ld= -1) (Uw:pev Γ (.var 28) ρ=H7 (.int ld)) (Vn:pev Γ (.var 33) ρ=H7 (.int (ld*Qz n w))):pev Γ (.bin .Mult (.var 28) (.var 33)) ρ=H7 (.int (Qz n w)):=by
 have bl:Hc ld<=1:=by rcases hl with rfl|rfl<;>decide
 rw [<-Fd hl (Qz n w)];exact af Uw Vn (eI bl (I4 bl (kN hn hw)) (by decide))
theorem n37 (G:LH Γ S hf) (hn:n∈[3,4]) (Uj:4<=w) (hw:w<=1403) (hl:ld=1∨ld= -1) (TM:pev Γ (.var 26) ρ=H7 (.int (w:Nat))) (Uw:pev Γ (.var 28) ρ=H7 (.int ld)) (Vn:pev Γ (.var 33) ρ=H7 (.int (ld*Qz n w))):pev Γ (.call 5 [(.bin .Mult (.var 28) (.var 33)),(.var 26)]) ρ=H7 (rO n):=by
 obtain⟨ds,e,hd⟩:=Bf n hn;have U':2^4<=2^w:=J4 (by decide) Uj
 refine aq (vs:=[.int (Qz n w),.int (w:Nat)]) (ac (ldQ hn hw hl Uw Vn) (ac TM rfl)) (G.h5 _ _ ?_);have bQ:=kN hn hw;unfold Qz rO at*
 rw [BY (by lia) (by lia) (H8 bQ (by decide)),e,zd (by lia) ds λd hx=>Ha (hd d hx) U']
end
variable {c:PE} {d f g h:PV}
section
theorem nr {γ:Type} {f:α->β} {g:γ->β->Option γ} {g':γ->α->Option γ}: ∀(l:List α) (c:γ),(∀x∈l,∀c,g c (f x)=g' c x)->(l.map f).foldlM g c=l.foldlM g' c
 |[],c,_=>rfl
 |x::l,c,h=>by
  rw [HI,JQ,JQ,h x Hs];show(g' c x).bind _=(g' c x).bind _;cases g' c x with
  |none=>rfl
  |some c'=>exact nr l c' λy hy=>h y (Hq _ hy)
theorem vI {it:PI} {xs:List Nat} (p:Nat->Bool) (vf:Nat->Int) (h:pit Γ it ρ=H7 (xs.map λk:Nat=>PV.int (k:Nat))) (ht: ∀x∈xs,pev Γ c ((aw ρ Qi).set i (H7 (.int (x:Nat))))=H7 (.bool (p x))) (hk: ∀x∈xs,pev Γ ke ((aw ρ Qi).set i (H7 (.int (x:Nat))))=H7 (.int (x:Nat))) (hv: ∀x∈xs,p x=Hd->pev Γ ve ((aw ρ Qi).set i (H7 (.int (x:Nat))))=H7 (.int (vf x))):
  pev Γ (.dcomp Qi (.one i) it [c] ke ve) ρ=(xs.foldlM (λQ8 (x:Nat)=>if p x=Hd then(kQ Q8 (.int (x:Nat)) (.int (vf x))).map H7 else H7 Q8) (H9:Option PV)).bind λd=>d:=by
 show(pit Γ it ρ).bind (λxs=>(xs.foldlM (fun(Q8:Option PV) x=>do
   let ρ'<-aX (aw ρ Qi) (.one i) x
   match<-cr Γ [c] ρ' with
   |true=>do
    let a<-pev Γ ke ρ';let b<-pev Γ ve ρ'
    (kQ Q8 a b).map H7
   |false=>H7 Q8) H9).bind λd=>d)=_
 rw [h];refine congrArg (λx:Option (Option PV)=>x.bind λd=>d) (nr xs H9 λx hx Q8=> ?_);show(cr Γ [c] ((aw ρ Qi).set i (H7 (.int (x:Nat))))).bind _=_;rw [fW (ht x hx) rfl];cases hp:p x with
 |true=>
  show(pev Γ ke ((aw ρ Qi).set i (H7 (.int (x:Nat))))).bind (λa=>(pev Γ ve ((aw ρ Qi).set i (H7 (.int (x:Nat))))).bind λb=>(kQ Q8 a b).map H7)=_;rw [hk x hx,hv x hx hp]
  rfl
 |false=>rfl
def wm (n:Nat):PV:= .dictI ((ordC n).map λo:Nat=>(o:Int)) ((ordC n).map λo=> .int (zy n o))
theorem Fa (G:LH Γ S hf) (hn:n∈[3,4]) (Uj:4<=w) (hw:w<=1403) (hl:ld=1∨ld= -1) (hs:sd=1∨sd= -1) (g3: ∀x,pev Γ (.var 3) ((aw ρ [43,52]).set 52 (H7 x))=H7 (.int (2*(n:Nat)))) (h3:pev Γ (.var 3) ρ=H7 (.int (2*(n:Nat)))) (TM: ∀x,pev Γ (.var 26) ((aw ρ [43,52]).set 52 (H7 x))=H7 (.int (w:Nat))) (Uw: ∀x,pev Γ (.var 28) ((aw ρ [43,52]).set 52 (H7 x))=H7 (.int ld)) (TL: ∀x,pev Γ (.var 29) ((aw ρ [43,52]).set 52 (H7 x))=H7 (.int sd)) (Vn: ∀x,pev Γ (.var 33) ((aw ρ [43,52]).set 52 (H7 x))=H7 (.int (ld*Qz n w))) (Y7: ∀x,pev Γ (.var 52) ((aw ρ [43,52]).set 52 (H7 x))=H7 x):
  pev Γ (.dcomp [43,52] (.one 52) (.ex (.rng [(.cI 1),(.bin .Add (.var 3) (.cI 1))])) [(.cmp .Eq (.bin .Mod (.var 3) (.var 52)) (.cI 0))] (.var 52) (.call 24 [(.bin .Mult (.var 28) (.var 33)),(.var 52),(.var 26),(.var 29)])) ρ=H7 (wm n):=by
 have h4:n<=4:=by simp only [Hp,HF,or_false]at hn;lia
 have Qe:pit Γ (.ex (.rng [(.cI 1),(.bin .Add (.var 3) (.cI 1))])) ρ=H7 ((Ir 1 (2*n+1-1)).map λi=>PV.int (i:Nat)):=
  oE (m:=1) (n:=2*n+1) rfl (af h3 rfl (by show H7 (PV.int (2*(n:Int)+1))=_;congr 2)) (by lia) (by decide)
 have Yv: ∀o∈Ir 1 (2*n+1-1),decide ((2*(n:Int)).fmod (o:Nat)=0)=Hd->o∈ordC n:=by simp only [Hp,HF,or_false]at hn;rcases hn with rfl|rfl<;>decide
 rw [vI (λo=>decide ((2*(n:Int)).fmod (o:Nat)=0)) (zy n) Qe (λo ho=> ?_) (λo ho=>Y7 _) (λo ho hp=> ?_)]
 ·simp only [Hp,HF,or_false]at hn
  rcases hn with rfl|rfl<;>kernel_rfl
 ·have ho:=Mi.mp ho
  refine cv (a:= .int ((2*(n:Int)).fmod (o:Nat))) (b:= .int 0) (af (g3 _) (Y7 _) (jR (by lia))) rfl ?_
  show H7 ((2*(n:Int)).fmod (o:Nat)==0)=_
  congr 1
 ·exact aq (ac (ldQ hn hw hl (Uw _) (Vn _)) (ac (Y7 _) (ac (TM _) (ac (TL _) rfl)))) (G.h24 n hn o (Yv o ho hp) w Uj hw sd hs)
theorem t37 {a b:PE} (hs:sd=1∨sd= -1) (he:Hc e<=41000) (TL:pev Γ (.var 29) ρ=H7 (.int sd)) (Y8:pev Γ (.var 31) ρ=H7 (.int e)) (g34:pev Γ (.var 34) ρ=H7 (.int (sd*e))) (ha:pev Γ a ρ=H7 (rO n)) (hb:pev Γ b ρ=H7 (rO n)):
  aJ Γ (.boolop Hb [(.cmp .NotEq (.var 34) (.bin .Mult (.var 29) (.var 31))),(.cmp .NotEq a b)]) ρ=H7 Hb:=
 i6 (cv g34 (af TL Y8 (eI (m:=1) (by rcases hs with rfl|rfl<;>decide) he (by decide))) (yj _)) (cv ha hb (vG _))
def q25 (S:PV) (Qa hp:Int) (n:Nat) (u:Nat->List (List Nat)) (m:Int) (O:List Ln) (r:List PV):List PV:=
 q19 S Qa hp n u m O (.int ((n-1:Nat):Int)::ki n::eU n (ip n)::eU n (jc n)::aA (ip n)::aA (jc n)::r)
def jg (n:Nat):PV:=aA (if n=3 then [0,3,4,2,6]else [0,4,5,6,3,8,9,4,10,2,7,8,6,12])
def C7:PE:= .comp1 [43,45] (.one 45) (.ex (.var 14)) [] (.bi .sum [(.comp1 [43,47] (.one 47) (.ex (.rng [(.var 3)])) [(.cmp .Eq (.slice (.var 45) (.var 47) (.bin .Add (.var 47) (.cI 2)) .cN) (.cS ⟨#[41,40]⟩))] (.bin .Add (.var 47) (.cI 1)))])
def C8:PE:= .comp1 [43,51] (.one 51) (.ex (.rng [(.bin .Add (.bin .Mult (.var 2) (.var 20)) (.cI 1))])) [] (.meth .count (.var 36) [(.var 51)])
variable {a b c i j k:PV}
theorem Fj:pev Γ C7 (lE (q25 S Qa hp 3 u m O [a,b,c,d,f,g,h,i,j,k]))=H7 (jg 3):=by kernel_rfl
theorem Fi:pev Γ C7 (lE (q25 S Qa hp 4 u m O [a,b,c,d,f,g,h,i,j,k]))=H7 (jg 4):=by kernel_rfl
theorem Fh:pev Γ C8 (lE (q25 S Qa hp 3 u m O [a,b,c,d,f,g,h,i,j,k,jg 3]))=H7 (rO 3):=by kernel_rfl
theorem Ff:pev Γ C8 (lE (q25 S Qa hp 4 u m O [a,b,c,d,f,g,h,i,j,k,jg 4]))=H7 (rO 4):=by kernel_rfl
theorem EY:ag (jd Γ Γ' Γ₂) (b8.drop 44) (lE (q25 S Qa hp 3 u m O [a,b,c,d,f,g,h,i,j,k,jg 3,wm 3])) []=H7 (.ret (.bool Hd)):=by kernel_rfl
theorem EX:ag (jd Γ Γ' Γ₂) (b8.drop 44) (lE (q25 S Qa hp 4 u m O [a,b,c,d,f,g,h,i,j,k,jg 4,wm 4])) []=H7 (.ret (.bool Hd)):=by kernel_rfl
theorem n23 (G:LG Γ S hf) (hn:n∈[3,4]) (hu: ∀t,t<(rowsN n).length->aP n t (u t)):pev Γ (.comp1 [43,44] (.one 44) (.ex (.var 9)) [] (.call 15 [(.idx (.var 6) (.var 44))])) (lE (q19 S Qa hp n u m O [a,b,c]))=H7 (eU n (jc n)):=by
 obtain⟨_,_,hl,_,hk⟩:=bc n hn;rw [dH (xs:=(keptR n).map λt:Nat=>PV.int (t:Nat)) (λx=>match x with| .int i=>sv (uP (ia n i.toNat).tail)|_=> .none) rfl (λx hx=> ?_) (by rw [Hf];exact H8 hk (by decide))]
 ·have e:=(xl n hn).2.2
  unfold eU;rw [HU];have e2:=congrArg (λl=>H7 (PV.list (l.map sv))) e;simp only [HU]at e2;exact e2
 ·obtain⟨t,ht,rfl⟩:=HC.mp hx
  have TE:=(dI.mp ht).1;have hx:=(hu t TE).len;show _=H7 (sv (uP (ia n t).tail));rw [<-(hu t TE).turn];exact aq (ac (aM (a:=unitsV n u) (b:= .int t) rfl rfl (gT TE (by lia))) rfl) (G.h15 _ (by lia) (by lia))
end
section
variable {ρ':Ρ}
theorem stp {x:Nat} {e:PE} {l l':List PV} (hd:b8.drop k= .set x 0 e::b8.drop (k+1)) (h:pev Γ e (lE l)=H7 v) (hx:(lE l).set x (H7 v)=lE l'):ag Γ (b8.drop k) (lE l) []=ag Γ (b8.drop (k+1)) (lE l') []:=by rw [hd,aa (au h),hx]
theorem itp (hd:b8.drop k= .ite c [.ret (.cB Hb)] []::b8.drop (k+1)) (h:aJ Γ c ρ=H7 Hb):ag Γ (b8.drop k) ρ []=ag Γ (b8.drop (k+1)) ρ []:=by rw [hd,aa (an (t:=Hb) h rfl)]
def okN:Out->Bool
 | .next _ _=>Hd
 |_=>Hb
theorem nw {Qb:List Nat}: ∀(a b:List PS) {ρ:Ρ} {own:List Nat},ag Γ a ρ own=H7 (.next ρ' Qb)->ag Γ (a++b) ρ own=ag Γ b ρ' Qb
 |[],b,ρ,own,h=>by cases h;rfl
 |p::a,b,ρ,own,h=>by
  have h:(az Γ p ρ own).bind (λo=>match o with| .next ρ' Qb=>ag Γ a ρ' Qb| .ret v=>H7 (.ret v))=H7 (.next ρ' Qb):=h
  show(az Γ p ρ own).bind (λo=>match o with| .next ρ' Qb=>ag Γ (a++b) ρ' Qb| .ret v=>H7 (.ret v))=_
  cases hp:az Γ p ρ own with
  |none=>rw [hp]at h;cases h
  |some o=>
   rw [hp]at h;cases o with
   |next ρ₁ own₁=>exact nw a b h
   |ret v=>exact nomatch (congrArg (Lu okN) h:H7 Hb=H7 Hd)
theorem Ez (h:ag Γ ((b8.drop k).take j) ρ []=H7 (.next ρ' [])):ag Γ (b8.drop k) ρ []=ag Γ (b8.drop (k+j)) ρ' []:=by
 have:=nw ((b8.drop k).take j) ((b8.drop k).drop j) h
 rwa [IF,JU]at this
theorem p21 (hn:n∈[3,4]):ag (jd Γ Γ' Γ₂) ((b8.drop 24).take 3) (lE (q19 S Qa hp n u m O [])) []=H7 (.next (lE (q19 S Qa hp n u m O [.int ((n-1:Nat):Int),ki n,eU n (ip n)])) []):=by
 simp only [Hp,HF,or_false]at hn;rcases hn with rfl|rfl
 ·exact F0
 ·exact E'
theorem p24 (hn:n∈[3,4]):ag (jd Γ Γ' Γ₂) ((b8.drop 28).take 3) (lE (q19 S Qa hp n u m O [.int ((n-1:Nat):Int),ki n,eU n (ip n),eU n (jc n)])) []=H7 (.next (lE (q25 S Qa hp n u m O [])) []):=by
 simp only [Hp,HF,or_false]at hn;rcases hn with rfl|rfl
 ·exact E_
 ·exact EZ
variable {a b c i j k:PV}
theorem k36 (hn:n∈[3,4]):pev Γ C7 (lE (q25 S Qa hp n u m O [a,b,c,d,f,g,h,i,j,k]))=H7 (jg n):=by
 simp only [Hp,HF,or_false]at hn;rcases hn with rfl|rfl
 ·exact Fj
 ·exact Fi
theorem k37 (hn:n∈[3,4]):pev Γ C8 (lE (q25 S Qa hp n u m O [a,b,c,d,f,g,h,i,j,k,jg n]))=H7 (rO n):=by
 simp only [Hp,HF,or_false]at hn;rcases hn with rfl|rfl
 ·exact Fh
 ·exact Ff
theorem p44 (hn:n∈[3,4]):ag (jd Γ Γ' Γ₂) (b8.drop 44) (lE (q25 S Qa hp n u m O [a,b,c,d,f,g,h,i,j,k,jg n,wm n])) []=H7 (.ret (.bool Hd)):=by
 simp only [Hp,HF,or_false]at hn;rcases hn with rfl|rfl
 ·exact EY
 ·exact EX
end
section
theorem yM (G:LH Γ S hf) (hn:n∈[3,4]):ag Γ (b8.drop 31) (lE (q25 S Qa hp n u m O [])) []=H7 (.ret (.bool Hd)):=by
 obtain⟨w,hw⟩: ∃w:Nat,w=4+md (hf 2) 1400:=⟨_,rfl⟩;obtain⟨f,hf'⟩: ∃f:Int,f=1+(hf 3).fmod (2^90):=⟨_,rfl⟩;have w0:4<=w:=by rw [hw];exact HD _ _
 have w1:w<=1403:=by have:=d_ (hf 2) (n:=1400) (by decide);lia
 have f1:1<=f:=by have:=JO (hf 3) (b:=2^90) (by decide);lia
 have f2:f<=2^90:=by have:=Lc (hf 3) (b:=2^90) (by decide);lia
 have hl:=Bw (Qa.fdiv (4:Nat));have hs:=Bw (Qa.fdiv (8:Nat));have hV:=wL (w:=w) hn w1 f1;obtain⟨e,he⟩: ∃e:Int,e=(hf 4).fmod (Vz n w f):=⟨_,rfl⟩;have e0:0<=e:=by rw [he];exact JO _ hV
 have e1:e<Vz n w f:=by rw [he];exact Lc _ hV
 have be:Hc e<=41000:=Ia.mpr (Hk (by lia) (Ia.mp (oq hn w1 f1 f2)))
 have s26:pev Γ _ (lE (q25 S Qa hp n u m O []))=_:=n26 G.g rfl;rw [<-hw]at s26;have s27:pev Γ _ (lE (q25 S Qa hp n u m O [.int (w:Nat)]))=_:=n27 G.g rfl;rw [<-hf']at s27;have s28:pev Γ _ (lE (q25 S Qa hp n u m O [.int (w:Nat),.int f]))=_:=n28 (k:=4) (.inl rfl) (Qa:=Qa) rfl;have s29:pev Γ _ (lE (q25 S Qa hp n u m O [.int (w:Nat),.int f,.int (sg (Qa.fdiv (4:Nat)))]))=_:=n28 (k:=8) (.inr rfl) (Qa:=Qa) rfl;generalize sg (Qa.fdiv (4:Nat))=ld at*
 generalize sg (Qa.fdiv (8:Nat))=sd at*
 have s30:pev Γ _ (lE (q25 S Qa hp n u m O [.int (w:Nat),.int f,.int ld,.int sd]))=_:=n30 G hn w1 f1 f2 rfl rfl rfl;have s31:pev Γ _ (lE (q25 S Qa hp n u m O [.int (w:Nat),.int f,.int ld,.int sd,.int (Vz n w f)]))=_:=n31 G.g hV rfl rfl;rw [<-he]at s31;have s32:pev Γ _ (lE (q25 S Qa hp n u m O [.int (w:Nat),.int f,.int ld,.int sd,.int (Vz n w f),.int e]))=_:=n32 G hn w1 f1 f2 hl rfl rfl rfl rfl rfl rfl;have s33:pev Γ _ (lE (q25 S Qa hp n u m O [.int (w:Nat),.int f,.int ld,.int sd,.int (Vz n w f),.int e,.int (Dz n w f e ld)]))=_:=n33 G hn w1 f1 f2 hl hs e0 e1 rfl rfl rfl;have s35:pev Γ _ (lE (q25 S Qa hp n u m O [.int (w:Nat),.int f,.int ld,.int sd,.int (Vz n w f),.int e,.int (Dz n w f e ld),.int (ld*Qz n w),.int (sd*e)]))=_:=n35 hn w1 rfl rfl rfl;have h4:n<=4:=by simp only [Hp,HF,or_false]at hn;lia
 have hk:n*(n-1)*w<=20000:=H8 (I6 (I6 h4 (show n-1<=3 by lia)) w1) (by decide)
 generalize n*(n-1)*w=p at*
 have s36:aJ Γ _ (lE (q25 S Qa hp n u m O [.int (w:Nat),.int f,.int ld,.int sd,.int (Vz n w f),.int e,.int (Dz n w f e ld),.int (ld*Qz n w),.int (sd*e),.int (p:Nat)]))=_:=t36 G hn w1 f1 f2 hs hk rfl rfl rfl;have s37:aJ Γ _ (lE (q25 S Qa hp n u m O [.int (w:Nat),.int f,.int ld,.int sd,.int (Vz n w f),.int e,.int (Dz n w f e ld),.int (ld*Qz n w),.int (sd*e),.int (p:Nat),jg n]))=_:=t37 (n:=n) hs be rfl rfl rfl (n37 G hn w0 w1 hl rfl rfl rfl) (k37 hn);have s38:pev Γ _ (lE (q25 S Qa hp n u m O [.int (w:Nat),.int f,.int ld,.int sd,.int (Vz n w f),.int e,.int (Dz n w f e ld),.int (ld*Qz n w),.int (sd*e),.int (p:Nat),jg n]))=_:=Fa G hn w0 w1 hl hs (λ_=>rfl) rfl (λ_=>rfl) (λ_=>rfl) (λ_=>rfl) (λ_=>rfl) (λ_=>rfl);rw [stp rfl s26 (l':=q25 S Qa hp n u m O [.int (w:Nat)]) rfl,stp rfl s27 (l':=q25 S Qa hp n u m O [.int (w:Nat),.int f]) rfl,stp rfl s28 (l':=q25 S Qa hp n u m O [.int (w:Nat),.int f,.int ld]) rfl,stp rfl s29 (l':=q25 S Qa hp n u m O [.int (w:Nat),.int f,.int ld,.int sd]) rfl,
  stp rfl s30 (l':=q25 S Qa hp n u m O [.int (w:Nat),.int f,.int ld,.int sd,.int (Vz n w f)]) rfl,stp rfl s31 (l':=q25 S Qa hp n u m O [.int (w:Nat),.int f,.int ld,.int sd,.int (Vz n w f),.int e]) rfl,stp rfl s32 (l':=q25 S Qa hp n u m O [.int (w:Nat),.int f,.int ld,.int sd,.int (Vz n w f),.int e,.int (Dz n w f e ld)]) rfl]
 refine(aa (dj (ρ':=lE (q25 S Qa hp n u m O [.int (w:Nat),.int f,.int ld,.int sd,.int (Vz n w f),.int e,.int (Dz n w f e ld),.int (ld*Qz n w),.int (sd*e)])) s33 rfl)).trans ?_;refine(stp (k:=39) rfl s35 (l':=q25 S Qa hp n u m O [.int (w:Nat),.int f,.int ld,.int sd,.int (Vz n w f),.int e,.int (Dz n w f e ld),.int (ld*Qz n w),.int (sd*e),.int (p:Nat)]) rfl).trans ?_;rw [itp rfl s36,stp rfl (k36 hn) (l':=q25 S Qa hp n u m O [.int (w:Nat),.int f,.int ld,.int sd,.int (Vz n w f),.int e,.int (Dz n w f e ld),.int (ld*Qz n w),.int (sd*e),.int (p:Nat),jg n]) rfl,itp rfl s37,
  stp rfl s38 (l':=q25 S Qa hp n u m O [.int (w:Nat),.int f,.int ld,.int sd,.int (Vz n w f),.int e,.int (Dz n w f e ld),.int (ld*Qz n w),.int (sd*e),.int (p:Nat),jg n,wm n]) rfl]
 obtain⟨Γ',Γ₂,hΓ⟩:=G.st;rw [hΓ];exact p44 hn
theorem yN {xs:List Int} (G:LH Γ (.list (xs.map .int)) hf):aE Γ 54 [0] b8 [.list (xs.map .int)]=H7 (.bool Hd):=by
 generalize hS:PV.list (xs.map .int)=S at G ⊢
 generalize htot:xs.sum=Qa;generalize hhp:hf 0=hp;generalize hm:hf 1=m;have s1:pev Γ (.bi .sum [(.var 0)]) (lE [S])=H7 (.int Qa):=by refine dh (v:=S) rfl ?_;rw [<-hS,<-htot];show(fz (xs.map .int)).map _=_;rw [j3];rfl
 obtain⟨n,hn,s2⟩: ∃n:Nat,n∈[3,4]/\pev Γ (.ife (.cmp .Eq (.bin .Mod (.var 1) (.cI 50)) (.cI 25)) (.cI 4) (.cI 3)) (lE [S,.int Qa])=H7 (.int (n:Nat)):=by
  have ht:aJ Γ (.cmp .Eq (.bin .Mod (.var 1) (.cI 50)) (.cI 25)) (lE [S,.int Qa])=H7 (((md Qa 50:Nat):Int)==25):=
   c7 (a:= .int (md Qa 50:Nat)) (b:= .int 25) (fm (n:=50) (way:=Qa) rfl (by decide)) rfl rfl
  by_cases h:(((md Qa 50:Nat):Int)==25)=Hd
  ·exact⟨4,by decide,gU ht (by rw [if_pos h];rfl)⟩
  ·exact⟨3,by decide,gU ht (by rw [if_neg h];rfl)⟩
 have s3:pev Γ (.bin .Mult (.cI 2) (.var 2)) (lE [S,.int Qa,.int (n:Nat)])=H7 (.int (2*(n:Nat))):=by
  refine(af (a:= .int (2:Nat)) (b:= .int (n:Nat)) rfl rfl (fB (by decide))).trans ?_
  rw [K6];rfl
 have s4:pev Γ (.call 13 [(.var 2)]) (lE [S,.int Qa,.int (n:Nat),.int (2*(n:Nat))])=H7 (mx n):=aq (ac rfl rfl) (G.g.h13 n hn);have s5:pev Γ (.call 12 [(.var 0),(.cI 0)]) (lE [S,.int Qa,.int (n:Nat),.int (2*(n:Nat)),mx n])=H7 (.int hp):=by rw [<-hhp];exact aq (vs:=[S,.int ((0:Nat):Int)]) (ac rfl (ac rfl rfl)) (G.g.h12 0 (by decide))
 obtain⟨u,hu⟩:=v4 G.g hn hp;have TC:=λt ht=>(hu t ht).1;have s15:pev Γ (.call 12 [(.var 0),(.cI 1)]) (lE (q10 S Qa hp n u [d6 (u (oneR n hp)),da (u (oneR n hp)),mw (u (oneR n hp)),jj n]))=H7 (.int m):=by rw [<-hm];exact aq (vs:=[S,.int ((1:Nat):Int)]) (ac rfl (ac rfl rfl)) (G.g.h12 1 (by decide))
 have s16:pev Γ (.call 18 [(.var 14),(.var 15)]) (lE (q15 S Qa hp n u m []))=H7 (.list ((lnsN m n).map lnV)):=aq (vs:=[jj n,.int m]) (ac rfl (ac rfl rfl)) (G.h18 n hn m);have hL:=AF hn m;obtain⟨hO,RO⟩:=hL.ord m;have Q7:(lnsN m n).length=(ordL m (lnsN m n)).length:=(kI m _).symm;have U_: ∀l∈lnsN m n,l∈ordL m (lnsN m n):=λl hl=>(RO l).mpr hl;show((ag Γ (b8.drop 0) (lE [S]) []).bind _)=_;rw [stp rfl s1 (l':=[S,.int Qa]) rfl,stp rfl s2 (l':=[S,.int Qa,.int (n:Nat)]) rfl,stp rfl s3 (l':=[S,.int Qa,.int (n:Nat),.int (2*(n:Nat))]) rfl,stp rfl s4 (l':=[S,.int Qa,.int (n:Nat),.int (2*(n:Nat)),mx n]) rfl,stp rfl s5 (l':=q5 S Qa hp n []) rfl,
  stp rfl (l6 hn hu) (l':=q5 S Qa hp n [unitsV n u]) rfl,stp rfl (l7 hn TC) (l':=q5 S Qa hp n [unitsV n u,eh n u]) rfl,stp rfl (l8 G.g hn TC) (l':=q5 S Qa hp n [unitsV n u,eh n u,iJ n u]) rfl,stp rfl (l9 hn TC) (l':=q9 S Qa hp n u []) rfl,itp rfl (t10 hn TC),
  stp rfl (l10 hn) (l':=q10 S Qa hp n u []) rfl,stp rfl (l11 hn TC) (l':=q10 S Qa hp n u [d6 (u (oneR n hp))]) rfl,stp rfl (l12 hn TC) (l':=q10 S Qa hp n u [d6 (u (oneR n hp)),da (u (oneR n hp))]) rfl,
  stp rfl (l13 G.g hn TC) (l':=q10 S Qa hp n u [d6 (u (oneR n hp)),da (u (oneR n hp)),mw (u (oneR n hp))]) rfl,itp rfl (show aJ Γ _ (lE (q10 S Qa hp n u [d6 (u (oneR n hp)),da (u (oneR n hp)),mw (u (oneR n hp))]))=_ from t14 G.g hn TC),stp rfl (l14 hn) (l':=q10 S Qa hp n u [d6 (u (oneR n hp)),da (u (oneR n hp)),mw (u (oneR n hp)),jj n]) rfl,
  stp rfl s15 (l':=q15 S Qa hp n u m []) rfl,stp rfl s16 (l':=q15 S Qa hp n u m [.list ((lnsN m n).map lnV)]) rfl,itp rfl (t17 G.way hL),stp rfl (l17 G.way hL (G.h19 _ m hL) G.h20) (l':=q17 S Qa hp n u m (lnsN m n) (ordL m (lnsN m n)) []) rfl,
  stp rfl (l18 hO Q7) (l':=q17 S Qa hp n u m (lnsN m n) (ordL m (lnsN m n)) [dotsV (ordL m (lnsN m n))]) rfl,itp rfl (t19 hO Q7 U_),stp rfl (l19 hO Q7 U_) (l':=q17 S Qa hp n u m (lnsN m n) (ordL m (lnsN m n)) [dotsV (ordL m (lnsN m n)),grV (lnsN m n)]) rfl,itp rfl (t20 hL.len),CN hn]
 generalize ordL m (lnsN m n)=O;obtain⟨Γ',Γ₂,hΓ⟩:=G.st;have c1:ag Γ ((b8.drop 24).take 3) (lE (q19 S Qa hp n u m O [])) []=H7 (.next (lE (q19 S Qa hp n u m O [.int ((n-1:Nat):Int),ki n,eU n (ip n)])) []):=by rw [hΓ];exact p21 hn
 have c2:ag Γ ((b8.drop 28).take 3) (lE (q19 S Qa hp n u m O [.int ((n-1:Nat):Int),ki n,eU n (ip n),eU n (jc n)])) []=H7 (.next (lE (q25 S Qa hp n u m O [])) []):=by rw [hΓ];exact p24 hn
 rw [Ez c1,stp rfl (n23 G.g hn TC) (l':=q19 S Qa hp n u m O [.int ((n-1:Nat):Int),ki n,eU n (ip n),eU n (jc n)]) rfl,Ez c2,yM G hn]
 rfl
end
end Internal
namespace Internal
open PySem PySem.W PySem.Calls PyProof.Rows PySem.Challenge
abbrev xE:Expr:= .Name ⟨#[]⟩ Ip
abbrev xS:IR:= .Pass Ip
def kE:Expr->List Expr
 | .BinOp l _ r _=>[l,r]
 | .Call f as _ _=>f::as
 | .IfExp t a b _=>[t,a,b]
 | .Subscript a b _=>[a,b]
 | .Compare l _ rs _=>l::rs
 | .List es _=>es
 | .Tuple es _ _=>es
 | .Attribute o _ _=>[o]
 | .Yield (H7 e) _=>[e]
 |_=>[]
def kA:IR->List Expr×List IR×Lx×Mv
 | .Assign ts e _=>(e::ts,[],Ip,Ip)
 | .If t a b _=>([t],a++b,Ip,Ip)
 | .Expr e _=>([e],[],Ip,Ip)
 | .Return (H7 e) _=>([e],[],Ip,Ip)
 | .For t i b _ _=>([t,i],b,Ip,Ip)
 | .FunctionDef _ a b _ _ _ c _ _ _=>([],b,a,c)
 |_=>([],[],Ip,Ip)
def kS (s:IR):List Expr:=(kA s).1
def kB (s:IR):List IR:=(kA s).2.1
def fdA (s:IR):Lx:=(kA s).2.2.1
def fdC (s:IR):Mv:=(kA s).2.2.2
def st (k:Nat) (p:List Nat):IR:=p.foldl (λs i=>(kB s).getD i xS) (.If xE (ar k).2.2.1 [] Ip)
def ex (k:Nat) (p q:List Nat):Expr:=q.foldl (λe i=>(kE e).getD i xE) (.List (kS (st k p)) Ip)
def px (k:Nat) (p q:List Nat):Jq:=(ex k p q).pos
def pt (k:Nat) (p:List Nat):Jq:=(st k p).pos
def EK:aO->Option Hl
 | .bi k=>H7 (.builtin (zH k))
 | .ty t=>H7 (.type t)
 |_=>H9
def Gx:aO->Bool
 | .bi _=>Hd
 | .ty _=>Hd
 |_=>Hb
theorem xg: ∀e∈gtab,(if Gx e.2=Hd then bootBuiltins e.1 else H9)=EK e.2:=KC.mp (by kernel_rfl)
def tZ (x:HJ):Bool:= !startupNames.contains x&& !(looseW qv lse).contains x&& !((recsOf qv).map (·.name)).contains x&& !((litsOf qv).map (·.1)).contains x&& !((clssOf qv (looseW qv lse)).map (·.name)).contains x&& !(x==("__name__" :HJ))
theorem xf:(gtab.all λe=>match e.2 with| .bi _=>tZ e.1| .ty _=>tZ e.1|_=>Hd)=Hd:=by kernel_rfl
variable {x:HJ}
theorem gx {g:aO} (h:gl2 x=H7 g):(x,g)∈gtab:=mem_of_lookup h
variable {w:J0} {H:IL} {k i j:Nat} {y n:HJ} {a:Hw} {vs:List Hl} {C:Cx} {o:Oh} {fd:Ku} {params Q4:List HJ}
section
theorem m0 (X:bk w H) {v:Hl} (hf:tZ x=Hd) (hb:bootBuiltins x=H7 v):cG H x v:=by unfold tZ at hf;simp only [H_,Ll,Pj,decide_eq_false_iff_not,beq_eq_false_iff_ne]at hf;obtain⟨⟨⟨⟨⟨h1,h2⟩,h3⟩,h4⟩,h5⟩,h6⟩:=hf;exact⟨_,_,X.top.g,X.top.b,.inr ⟨X.top.free x h1 h2 h3 h4 h5,by rw [X.top.builtins x h6];exact hb⟩⟩
theorem zr (X:bk w H) {k:BI} (h:gl2 x=H7 (.bi k)):cG H x (.builtin (zH k)):=by have hm:=gx h;exact m0 X (HX.mp xf _ hm) ((if_pos rfl).symm.trans (xg _ hm))
theorem qd (X:bk w H) {t:String} (h:gl2 x=H7 (.ty t)):cG H x (.type t):=by have hm:=gx h;exact m0 X (HX.mp xf _ hm) ((if_pos rfl).symm.trans (xg _ hm))
def ftab:List (HJ×Nat×Nat×Hw×Nat):=[("_strip_quoted_realnames",0,15,104,1),("_check_parenthesis",1,16,111,2),("_pre_parse_validation",2,17,118,3),("_div2n1n",3,7,55,5),("_div3n2n",4,8,62,6),("_int2digits",5,9,69,7),("_digits2int",6,10,76,8),("_divmod_pos",7,11,83,9),("int_divmod",8,12,90,10),("quotedata",9,4,48,14),("in_table_b1",10,20,136,16),("map_table_b3",11,22,182,18),("_law_heap",12,24,189,19),("_law_rows",13,25,194,20),("_law_units",14,26,201,21),("_law_turned",15,27,206,22),("_law_depths",16,28,213,23),("_law_typed",17,29,220,24),("_law_lines",18,30,227,25),("_law_sent",19,31,232,26),("_law_prepared",20,32,237,27),("_law_below",21,33,242,28),("_law_mirror",22,34,247,29),("_law_product",23,35,254,30),("_law_left",24,36,261,31),("_iter_escaped_chars",100,14,97,0),("law",101,37,266,32)]
theorem Dr:(ftab.all λe=>wl.contains e.2.2.1)=Hd:=by kernel_rfl
theorem Dq: ∀e∈ftab,(ar e.2.2.1).1=e.1:=KC.mp (by kernel_rfl)
theorem Ds: ∀e∈ftab,dW[e.2.2.2.2]? =H7 (e.1,LV e.2.2.2.1):=KC.mp (by kernel_rfl)
theorem AS (e:HJ×Nat×Nat×Hw×Nat) (he:e∈ftab):e.2.2.1∈wl/\(ar e.2.2.1).1=e.1/\dW[e.2.2.2.2]? =H7 (e.1,LV e.2.2.2.1):=
 ⟨Jv.mp (HX.mp Dr e he),Dq e he,Ds e he⟩
theorem AP:(gtab.all λe=>match e.2 with| .fn k=>ftab.any (λg=>g.1==e.1&&g.2.1==k)|_=>Hd)=Hd:=by kernel_rfl
theorem w3:(gtab.all λe=>match e.2 with| .fn k=>gtab.all (λg=>match g.2 with| .fn j=> !(j==k)||g.1==e.1|_=>Hd)|_=>Hd)=Hd:=by kernel_rfl
theorem BL (h:gl2 x=H7 (.fn k)): ∃e∈ftab,e.1=x/\e.2.1=k:=by have:=HX.mp AP _ (gx h);obtain⟨g,hg,h2⟩:=List.any_eq_true.mp this;rw [H_,beq_iff_eq,beq_iff_eq]at h2;exact⟨g,hg,h2.1,h2.2⟩
theorem uG (h:gl2 x=H7 (.fn k)) (h2:gl2 y=H7 (.fn k)):y=x:=by have:=HX.mp (HX.mp w3 _ (gx h)) _ (gx h2);simpa using this
structure FnH (H:IL) (n:HJ) (k:Nat) (a:Hw) (o:Oh) (fd:Ku):Prop where
 ho:H.get? a=H7 o
 hd:o.data= .func fd
 loads:cG H n (.ref a)
 code:e7 H fd.code fd.qualname
 ex: ∃pm cd Qh,fd=PQ n (ar k).2.1 (ar k).2.2.1 (ar k).2.2.2 pm cd Qh
 tab: ∃c P,fd.code= .ref c/\H.IsCode c P #[]/\H.TableAt c P #[]
theorem fnH (X:bk w H) (h:(n,i,k,a,j)∈ftab): ∃o fd,FnH H n k a o fd:=by obtain⟨h1,h2,h3⟩:=AS _ h;have h3:=Ht h3;obtain⟨o,pm,cd,Qh,c,P,e1,e2,e3,e4,e5,e6⟩:=Dp X h1 h2 h3;exact⟨o,_,e1,e2,gF X h3,e3,⟨pm,cd,Qh,rfl⟩,⟨c,P,e4,e5,e6⟩⟩
theorem wk {α:Type} {n:Nat} {vs:List α} (h:vs.length=n+1): ∃a r,vs=a::r/\r.length=n:=by
 cases vs with
 |nil=>cases h
 |cons a r=>exact⟨a,r,rfl,Kf h⟩
theorem jf (h:vs.length=1): ∃a,vs=[a]:=List.length_eq_one_iff.mp h
theorem km (h:vs.length=2): ∃a b,vs=[a,b]:=by obtain⟨a,r,rfl,k⟩:=wk h;obtain⟨b,rfl⟩:=jf k;exact⟨a,b,rfl⟩
theorem zE (h:vs.length=3): ∃a b c,vs=[a,b,c]:=by obtain⟨a,r,rfl,k⟩:=wk h;obtain⟨b,c,rfl⟩:=km k;exact⟨a,b,c,rfl⟩
theorem Ej (h:vs.length=4): ∃a b c d,vs=[a,b,c,d]:=by obtain⟨a,r,rfl,k⟩:=wk h;obtain⟨b,c,d,rfl⟩:=zE k;exact⟨a,b,c,d,rfl⟩
theorem Gw (h:vs.length=6): ∃a b c d e f,vs=[a,b,c,d,e,f]:=by obtain⟨a,r,rfl,k⟩:=wk h;obtain⟨b,r,rfl,k'⟩:=wk k;obtain⟨c,d,e,f,rfl⟩:=Ej k';exact⟨a,b,c,d,e,f,rfl⟩
abbrev Bnd (n:HJ) (k:Nat) (params:List HJ):Prop:= ∀pm cd Qh (vs:List Hl),vs.length=params.length->OX (PQ n (ar k).2.1 (ar k).2.2.1 (ar k).2.2.2 pm cd Qh) ⟨vs,[]⟩=pure (params.zip vs)
theorem FnH.ok (F:FnH C.H n k a o fd) (lim:C.H.NoLimit) (hb:zG k params Q4=Hd) (RT:Bnd n k params):bW C a o fd (ar k).2.2.1 params Q4:=by obtain⟨pm,cd,Qh,rfl⟩:=F.ex;unfold zG at hb;simp only [H_,decide_eq_true_eq,HX,Ll,beq_iff_eq,L7,bne_iff_ne,Jv]at hb;obtain⟨⟨⟨⟨⟨⟨b1,b2⟩,b3⟩,b4⟩,b5⟩,b6⟩,b7⟩:=hb;exact⟨F.ho,F.hd,lim,F.code,rfl,rfl,rfl,rfl,b1,b2,b3,λvs h=>RT pm cd Qh vs h,b4,b5,b6,b7⟩
end
variable {c0 P0:Hw} {h:IL}
section
theorem wa (SZ:fU H a c0=H7 (.ref c0,.ref P0)): ∃o fd o2 vs,H.get? a=H7 o/\o.data= .func fd/\H.get? c0=H7 o2/\o2.data= .fields vs/\fd.code= .ref c0/\vs.getD 11 .none= .ref P0:=
 ae SZ λo e h=>ae h λfd hf h=>ae h λo2 e2 h=>ae h λvs hv h=>⟨o,fd,o2,vs,e,B9 hf,e2,oZ hv,congrArg (·.1) (Hg h),congrArg (·.2) (Hg h)⟩
theorem kZ (SZ:fU H a c0=H7 (.ref c0,.ref P0)) (F:FnH H n k a o fd):fd.code= .ref c0/\H.IsCode c0 P0 #[]/\H.TableAt c0 P0 #[]:=by
 obtain⟨c,P,e1,e2,e3⟩:=F.tab;obtain⟨o1,fd1,o2,vs,g1,g2,g3,g4,g5,g6⟩:=wa SZ;rw [F.ho]at g1;cases g1;rw [F.hd]at g2;cases g2;rw [e1]at g5;cases g5;have e3':=e3;obtain⟨⟨o3,vs3,f1,f2,f3,f4⟩,f5⟩:=e3;rw [g3]at f1;cases f1;rw [g4]at f3;cases f3;have:vs.getD 11 .none= .ref P:=by rw [Array.getD_eq_getD_getElem?,f4];rfl
 rw [this]at g6;cases g6;exact⟨e1,e2,e3'⟩
theorem sa (X:bk w H):fU H 69 68=H7 (.ref 68,.ref 64):=congrArg (λt=>t.2.2.2.1) X.obs
theorem r_ (X:bk w H):fU H 76 75=H7 (.ref 75,.ref 71):=congrArg (λt=>t.2.2.2.2.1) X.obs
theorem uv (X:bk w H):(H.get? 266).isSome=Hd/\(H.get? IA).isSome=Hd/\H.objs.size=267:=by have h:((H.get? 266).isSome&&(H.get? IA).isSome&&H.objs.size==267)=Hd:=congrArg (λt=>t.2.2.2.2.2.2) X.obs;rw [H_,H_,beq_iff_eq]at h;exact⟨h.1.1,h.1.2,h.2⟩
theorem qc {b:Hw} (e:h.get? b=H7 o) (hb: ∀t∈theTabs,t.1≠b):vis h b=H7 o:=by unfold vis;rw [e];exact if_neg fun⟨t,ht,q⟩=>hb t ht q
open Classical in
theorem xM {t:Hw×Jq×HJ} (ht:t∈theTabs) (e:h.get? t.1=H7 (NO #[])):vis h t.1=H7 cV:=by unfold vis;rw [e];show(if∃t'∈theTabs,t'.1=t.1 then(if fP (NO #[])=Hd then(if∀t'∈theTabs,t'.1=t.1->ie h t.1 t'.2.1 t'.2.2 then H7 cV else H9)else _)else _)=_;rw [if_pos ⟨t,ht,rfl⟩,if_pos (show fP (NO #[])=Hd from rfl),if_pos (λt' _ _=>⟨#[],e,trivial,.inl rfl⟩)]
theorem k_ (X:bk w H):Sys H:=by
 obtain⟨_,h2,_⟩:=uv X;obtain⟨o,e⟩:=J7.mp h2;obtain⟨o1,fd1,F1⟩:=fnH X (n:= "_int2digits") (i:=5) (k:=9) (a:=69) (j:=7) (Ht (i:=5) rfl);obtain⟨o2,SG,F2⟩:=fnH X (n:= "_digits2int") (i:=6) (k:=10) (a:=76) (j:=8) (Ht (i:=6) rfl);haveI t1:=(kZ (sa X) F1).2.2.2;haveI t2:=(kZ (r_ X) F2).2.2.2;refine⟨⟨o,qc e (by decide)⟩,λt ht=>xM ht ?_⟩
 have TE:=ht;simp only [theTabs,Hp,HF,or_false]at TE;rcases TE with rfl|rfl
 ·exact t1
 ·exact t2
theorem AI (X:bk w H): ∃o,vis H (H.objs.size-1)=H7 o:=by obtain⟨h1,_,h3⟩:=uv X;obtain⟨o,e⟩:=J7.mp h1;rw [h3];exact⟨o,qc e (by decide)⟩
abbrev Cz (w:J0) (H:IL) (d:Nat):Cx:=⟨prg,w,H,gl2,d⟩
def gv0:Nat->Option PV:=λk=>if k=0 then H7 (.int 4000)else if k=1 then H7 (.str kU)else H9
def Γp:Gam:=⟨gv0,λ_ _=>H9,λ_ _=>H9⟩
theorem oV:(gtab.all λe=>match e.2 with| .val k=>(k==0&&e.1==("_DIV_LIMIT" :HJ))||(k==1&&e.1==("CRLF" :HJ))| .gen k=>k==0&&e.1==("_iter_escaped_chars" :HJ)|_=>Hd)=Hd:=by kernel_rfl
theorem Dl (X:bk w H) (h:gl2 x=H7 (.val k)): ∃v r,gv0 k=H7 r/\cG H x v/\ ∀ok h,Rep prg w ok h r v:=by
 have hm:=HX.mp oV _ (gx h);have hm:((k==0&&x==("_DIV_LIMIT" :HJ))||(k==1&&x==("CRLF" :HJ)))=Hd:=hm;rw [L7,H_,H_,beq_iff_eq,beq_iff_eq,beq_iff_eq,beq_iff_eq]at hm;rcases hm with⟨rfl,rfl⟩|⟨rfl,rfl⟩
 ·obtain⟨v,h1,h2⟩:=wC X (n:= "_DIV_LIMIT") (v:= .int 4000 0) (Ht (i:=4) rfl)
  refine⟨v,.int 4000,rfl,⟨_,_,X.top.g,X.top.b,.inl h1⟩,λok h=> ?_⟩;cases v<;>first|(cases h2;exact⟨_,rfl⟩)|cases h2
 ·obtain⟨v,h1,h2⟩:=wC X (n:= "CRLF") (v:= .str ⟨#[13,10]⟩ 0) (Ht (i:=13) rfl)
  refine⟨v,.str kU,rfl,⟨_,_,X.top.g,X.top.b,.inl h1⟩,λok h=> ?_⟩;cases v<;>first|(cases h2;exact⟨_,rfl⟩)|cases h2
theorem et (X:bk w H) (d:Nat):ai (Cz w H d) Γp where
 sy:=k_ X
 val:=λx k r hx hr=>by obtain⟨v,r',h1,h2,h3⟩:=Dl X hx;have:gv0 k=H7 r:=hr;rw [h1]at this;cases this;exact⟨v,h2,h3⟩
 fn:=λx k hx=>by obtain⟨⟨n,i,kk,a,j⟩,he,h1,h2⟩:=BL hx;obtain⟨o,fd,F⟩:=fnH X he;have h1:n=x:=h1;subst h1;exact⟨a,o,fd,F.loads,F.ho,F.hd,λargs r h=>by cases h⟩
 bi:=λx k hx=>zr X hx
 gn:=λx k hx=>by have hm:=HX.mp oV _ (gx hx);have hm:(k==0&&x==("_iter_escaped_chars" :HJ))=Hd:=hm;rw [H_,beq_iff_eq,beq_iff_eq]at hm;obtain⟨o,fd,F⟩:=fnH X (n:= "_iter_escaped_chars") (i:=100) (k:=14) (a:=97) (j:=0) (Ht (i:=25) rfl);rw [hm.2];exact⟨_,o,fd,F.loads,F.ho,F.hd,λargs xs h=>by cases h⟩
 ty:=λx t hx=>qd X hx
end
abbrev gns:ay:=(ar 14).2.2.2.names
abbrev gnm:List HJ:=gm
theorem og:a_ gns "pos" =Hd/\a_ gns "escape" =Hd/\fw (gns.lookup ("enumerate" :HJ))=2/\a_ gns "addr" =Hd:=by refine⟨by kernel_rfl,by kernel_rfl,by kernel_rfl,by kernel_rfl⟩
variable {Γ:Gam} {d:Nat} {Qq:HJ->Nat} {ps:List PS}
section
def sp (X:bk w H) (d:Nat):fq (Cz w H d) Γp gnm gns where
 st1:= .Assign [.Name "pos" (px 14 [0] [1])] (.Constant (.int 0) 0 (px 14 [0] [0])) (pt 14 [0])
 st2:= .Assign [.Name "escape" (px 14 [1] [1])] (.Constant (.bool Hb) 0 (px 14 [1] [0])) (pt 14 [1])
 st3:=st 14 [2,0,1]
 st4:=st 14 [2,0,2,0]
 iter:= .Call (.Name "enumerate" (px 14 [2] [1,0])) [.Name "addr" (px 14 [2] [1,1])] [] (px 14 [2] [1])
 c1:=ex 14 [2,0] [0]
 c2:=ex 14 [2,0,2] [0]
 c3:=ex 14 [3] [0]
 y1:=ex 14 [2,0,0] [0,0]
 y2:=ex 14 [2,0,2,1] [0,0]
 y3:=ex 14 [3,0] [0,0]
 te:=kE (ex 14 [2] [0])
 tk:=0
 tp:=px 14 [2] [0]
 p1:=px 14 [2,0,0] [0]
 p2:=pt 14 [2,0,0]
 p3:=px 14 [2,0,2,1] [0]
 p4:=pt 14 [2,0,2,1]
 p5:=pt 14 [2,0,2]
 p6:=pt 14 [2,0]
 p7:=px 14 [3,0] [0]
 p8:=pt 14 [3,0]
 p9:=pt 14 [3]
 p10:=pt 14 [2]
 x1:=λA Q5 ρ s E G=>by exact nI (pv:= .int 0) E G og.1 (by decide) rfl rfl (NM ⟨λh=>⟨_,rfl⟩,_,rfl⟩)
 x2:=λA Q5 ρ s E G=>by exact nI (pv:= .bool Hb) E G og.2.1 (by decide) rfl rfl (Constant_bool ⟨λh=>rfl,_,rfl⟩)
 x3:=by
  have:=(d9 (Q4:=gnm) (et X d) (hnt []) gns 20).1 (st 14 [2,0,1]);rw [show sS (Cz w H d).gl gnm (hnt []) gns 20 (st 14 [2,0,1])= .set 2 0 (.cB Hb)from by kernel_rfl]at this
  exact this
 x4:=by
  have:=(d9 (Q4:=gnm) (et X d) (hnt []) gns 20).1 (st 14 [2,0,2,0]);rw [show sS (Cz w H d).gl gnm (hnt []) gns 20 (st 14 [2,0,2,0])= .set 2 0 (.cB Hd)from by kernel_rfl]at this
  exact this
 t1:=(cP (Q4:=gnm) (et X d) 20).t _ _ _ (by kernel_rfl)
 t2:=(cP (Q4:=gnm) (et X d) 20).t _ _ _ (by kernel_rfl)
 t3:=(cP (Q4:=gnm) (et X d) 20).t _ _ _ (by kernel_rfl)
 e1:=((cP (Q4:=gnm) (et X d) 20).e _ _ _ (by kernel_rfl))
 e2:=((cP (Q4:=gnm) (et X d) 20).e _ _ _ (by kernel_rfl))
 e3:=((cP (Q4:=gnm) (et X d) 20).e _ _ _ (by kernel_rfl))
 tg:=by kernel_rfl
 it:=λA Q5 ρ s x E G hx=>by
  haveI hv: ∃v,aY s.heap Q5 "addr" v/\Rep prg w (λ_=>False) s.heap (.str x) v:=G.r "addr" _ (jt E.e og.2.2.2).1 (by show ρ.get (gnm.idxOf ("addr" :HJ))=_;rw [show gnm.idxOf ("addr" :HJ)=0 from by decide];exact hx)
  obtain⟨v,V,t,rfl⟩:=hv;refine N1 rfl (cD E.e (by decide) og.2.2.1 G.h (qd X (x:= "enumerate") (t:= "enumerate") (by kernel_rfl)) ?_)
  refine aU (λa e=>by cases e) rfl ?_
  refine bj rfl ?_;refine Oa ?_;refine jo (C:=Cz w H d) (pos:=px 14 [2] [1,1]) E.e (by decide) V ?_
  refine Nq ?_;exact call_enumerate_str λh' e1 e2 e3 e4=>⟨t,h',rfl,rfl,e1,e2,HK.of e4⟩
 fs:=λQ5 x=>rfl
theorem AQ:(gns.all λx=>x.2 != .cell&&x.2 != .free)=Hd:=by kernel_rfl
theorem oe:(ar 14).2.2.2.kind= .function/\(ar 14).2.2.2.isCoroutine=Hb/\(ar 14).2.2.2.isGenerator=Hd/\gns.lookup ("addr" :HJ)=H7 .local:=⟨by kernel_rfl,by kernel_rfl,by kernel_rfl,by kernel_rfl⟩
theorem yZ (pm cd Qh v:Hl):OX (PQ "_iter_escaped_chars" (ar 14).2.1 (ar 14).2.2.1 (ar 14).2.2.2 pm cd Qh) ⟨[v],[]⟩=pure [(("addr" :HJ),v)]:=by kernel_rfl
theorem yY (X:bk w H) (d:Nat) (F:FnH H "_iter_escaped_chars" 14 97 o fd) (x:HJ):iX (Cz w H (d+3)) 97 [.str x] (am 0 Hb x.cps.toList):=by
 obtain⟨pm,cd,Qh,rfl⟩:=F.ex;haveI hD:xx (Cz w H d) 97 o (PQ "_iter_escaped_chars" (ar 14).2.1 (ar 14).2.2.1 (ar 14).2.2.2 pm cd Qh) (sp X d).body "addr" :=
  ⟨F.ho,F.hd,X.top.nolimit,AI X,k_ X,F.code,congrArg FuncBody.stmts (show(ar 14).2.2.1=(sp X d).body from by kernel_rfl),rfl,rfl,rfl,oe.1,oe.2.1,oe.2.2.1,λv=>yZ pm cd Qh v,oe.2.2.2,λy hy=>by have:=HX.mp AQ y hy;simpa using this⟩
 exact z7 (C:=Cz w H d) (Q4:=gnm) (fd:=PQ "_iter_escaped_chars" (ar 14).2.1 (ar 14).2.2.1 (ar 14).2.2.2 pm cd Qh) (p:= "addr") (sp X d) hD (by decide) (by decide) (by decide)
def gn0 (k:Nat) (args:List PV):Option (List PV):=if k=0 then a1 (oS λx=>H7 (am 0 Hb x.cps.toList)) args else H9
def Γb:Gam:=⟨gv0,λ_ _=>H9,gn0⟩
theorem Dk (X:bk w H) (d:Nat):ai (Cz w H (d+3)) Γb where
 sy:=k_ X
 val:=(et X (d+3)).val
 fn:=(et X (d+3)).fn
 bi:=(et X (d+3)).bi
 gn:=λx k hx=>by have hm:=HX.mp oV _ (gx hx);have hm:(k==0&&x==("_iter_escaped_chars" :HJ))=Hd:=hm;rw [H_,beq_iff_eq,beq_iff_eq]at hm;obtain⟨o,fd,F⟩:=fnH X (n:= "_iter_escaped_chars") (i:=100) (k:=14) (a:=97) (j:=0) (Ht (i:=25) rfl);rw [hm.2];refine⟨_,o,fd,F.loads,F.ho,F.hd,λargs xs h=> ?_⟩;have h:gn0 k args=H7 xs:=h;unfold gn0 at h;rw [if_pos hm.1]at h;exact gy (Q:=λargs=>iX (Cz w H (d+3)) 97 args xs) h λx h=>fO (Q:=λx=>iX (Cz w H (d+3)) 97 [x] xs) h λx h=>Hg h▸yY X d F _
 ty:=(et X (d+3)).ty
theorem yf (X:bk w H) (G:ai (Cz w H d) Γ) (hm:(n,i,k,a,j)∈ftab) (hg:gl2 n=H7 (.fn i)) (hb:zG k params Q4=Hd) (RT:Bnd n k params)
  (QR:sSs gl2 Q4 Qq (ar k).2.2.2.names 90 (ar k).2.2.1=ps):ai (Cz w H (d+1)) (Γ.put i (aE Γ Q4.length (params.map Q4.idxOf) ps)):=by
 obtain⟨o,fd,F⟩:=fnH X hm;have D:bW (Cz w H d) a o fd (ar k).2.2.1 params Q4:=F.ok (C:=Cz w H d) X.top.nolimit hb RT;have hS:=(d9 (Q4:=Q4) G Qq fd.scope.names 90).2 (ar k).2.2.1;have e:fd.scope.names=(ar k).2.2.2.names:=by obtain⟨pm,cd,Qh,rfl⟩:=F.ex;rfl
 rw [show sSs (Cz w H d).gl Q4 Qq fd.scope.names 90 (ar k).2.2.1=ps from by rw [e];exact QR]at hS
 exact(G.at (d:=d+1) (LM _)).put (C:=Cz w H (d+1)) (x:=n) (f:=a) (o:=o) (fd:=fd) ⟨λy hy=>uG hg hy,F.loads,F.ho,F.hd⟩ λargs r hr=>dJ D G.sy hS hr
end
variable {l:List (HJ×J1)}
theorem i' {xs:List HJ} {k:J1} (h:(l.all λp=>p.2 !=k||xs.contains p.1)=Hd): ∀x,l.lookup x=H7 k->x∈xs:=λx hx=>by have:=HX.mp h _ (mem_of_lookup hx);simpa using this
theorem qS (h:(l.all λp=>p.2 != .cell)=Hd): ∀p∈l,p.2≠ .cell:=λp hp=>by have:=HX.mp h p hp;simpa using this
abbrev dpS:IR:=st 10 [0]
abbrev dpB:List IR:=kB dpS
abbrev Ef:ay:=(ar 10).2.2.2.names
theorem DF:uc gl2 Ef (fdA dpS) dpB (fdC dpS) ⟨54,4,59,55⟩ (ar 10).2.2.1:=
 rwE (uc.mk (gl:=gl2) (ns:=Ef) (fdA dpS) dpB (fdC dpS) ⟨54,4,59,55⟩ (ex 10 [1] [0,0]) (ex 10 [1] [0,1,1]) (ex 10 [1] [0,1,2]) (ex 10 [1] [0,2]) (px 10 [1] [0,1,0]) (px 10 [1] [0,1]) (px 10 [1] [0]) (pt 10 [1]) (by kernel_rfl) (by kernel_rfl) (by kernel_rfl)) (show(ar 10).2.2.1=_ from by kernel_rfl)
theorem B1:lr (fdC dpS).names dpB:=
 rwE (lr.mk (ns:=(fdC dpS).names) (st 10 [0,0]) (st 10 [0,1]) (st 10 [0,2]) (ex 10 [0,3] [0,0,0,1]) (ex 10 [0,3] [0,0,0,2]) (ex 10 [0,3] [0,0,1]) (ex 10 [0,3] [0,1,1]) (ex 10 [0,3] [0,1,2]) (px 10 [0,3] [0,0,0,0]) (px 10 [0,3] [0,0,0]) (px 10 [0,3] [0,0]) (px 10 [0,3] [0,1,0]) (px 10 [0,3] [0,1]) (px 10 [0,3] [0]) (pt 10 [0,3]) (by kernel_rfl) (by kernel_rfl) (by kernel_rfl) (by kernel_rfl) (by kernel_rfl) (by kernel_rfl)) (show dpB=_ from by kernel_rfl)
theorem DG (Qx:List (HJ×Hw)) (Qh pm Q_:Hl) (c':Hw) (qual:HJ):gz (kR "inner" qual (fdA dpS) dpB (fdC dpS) Qx Qh pm Q_ c') dpB ["L","R"] dgN where
 body:=rfl
 glob:=rfl
 blt:=rfl
 kind:=by kernel_rfl
 co:=by kernel_rfl
 gen:=by kernel_rfl
 bind:=λvs h=>by
  obtain⟨a,b,rfl⟩:=km h
  kernel_rfl
 nd:=by decide
 pn:=by decide
 pk:=λx hx=>by simp only [Hp,HF,or_false]at hx;rcases hx with rfl|rfl<;>kernel_rfl
 cell:=qS (by kernel_rfl)
abbrev iqS:IR:=st 9 [1]
abbrev iqB:List IR:=kB iqS
abbrev ns9:ay:=(ar 9).2.2.2.names
theorem Dh:u9 gl2 ns9 (fdA iqS) iqB (fdC iqS) ⟨39,4,48,28⟩ (ar 9).2.2.1:=
 rwE (u9.mk (gl:=gl2) (ns:=ns9) (fdA iqS) iqB (fdC iqS) ⟨39,4,48,28⟩ (ex 9 [0] [0,0,0]) (ex 9 [0] [0,1]) (ex 9 [2] [0]) (ex 9 [2,0] [0,1]) (ex 9 [2,0] [0,2]) (ex 9 [2,0] [0,3]) (px 9 [0] [1]) (px 9 [0] [0,0]) (px 9 [0] [0]) (pt 9 [0]) (px 9 [2,0] [0,0]) (px 9 [2,0] [0]) (pt 9 [2,0]) (pt 9 [2]) (px 9 [3] [0]) (pt 9 [3]) (by kernel_rfl) (by kernel_rfl) (by kernel_rfl) (by kernel_rfl)) (show(ar 9).2.2.1=_ from by kernel_rfl)
theorem AN:lq (fdC iqS).names iqB:=
 rwE (lq.mk (ns:=(fdC iqS).names) (st 9 [1,1]) (st 9 [1,2]) (st 9 [1,3]) (st 9 [1,4]) (ex 9 [1,0] [0]) (ex 9 [1,0,0] [1,1]) (ex 9 [1,0,0] [0]) (ex 9 [1,5] [0,1]) (ex 9 [1,5] [0,2]) (ex 9 [1,5] [0,3]) (ex 9 [1,6] [0,1]) (ex 9 [1,6] [0,2]) (ex 9 [1,6] [0,3]) (px 9 [1,0,0] [1,0]) (px 9 [1,0,0] [1]) (pt 9 [1,0,0]) (pt 9 [1,0,1]) (pt 9 [1,0]) (px 9 [1,5] [0,0]) (px 9 [1,5] [0]) (pt 9 [1,5]) (px 9 [1,6] [0,0]) (px 9 [1,6] [0]) (pt 9 [1,6]) (by kernel_rfl) (by kernel_rfl) (by kernel_rfl) (by kernel_rfl) (by kernel_rfl) (by kernel_rfl) (by kernel_rfl) (by kernel_rfl) (by kernel_rfl) (by kernel_rfl)) (show iqB=_ from by kernel_rfl)
theorem Di (Qx:List (HJ×Hw)) (Qh pm Q_:Hl) (c':Hw) (qual:HJ):gz (kR "inner" qual (fdA iqS) iqB (fdC iqS) Qx Qh pm Q_ c') iqB ["x","L","R"] i2N where
 body:=rfl
 glob:=rfl
 blt:=rfl
 kind:=by kernel_rfl
 co:=by kernel_rfl
 gen:=by kernel_rfl
 bind:=λvs h=>by
  obtain⟨a,b,c,rfl⟩:=zE h
  kernel_rfl
 nd:=by decide
 pn:=by decide
 pk:=λx hx=>by simp only [Hp,HF,or_false]at hx;rcases hx with rfl|rfl|rfl<;>kernel_rfl
 cell:=qS (by kernel_rfl)
variable {pos:Jq}
section
theorem qH (X:bk w H) (d:Nat) {q:HJ} (SZ:fU H a c0=H7 (.ref c0,.ref P0)) (F:FnH H n k a o fd) (ht:(P0,pos,q)∈theTabs) (hu: ∀t'∈theTabs,t'.1=P0->t'=(P0,pos,q)) (L:Nat):
  iW (Cz w H d) (JR fd L a) pos q:=by
 obtain⟨e1,e2,e3⟩:=kZ SZ F;obtain⟨bm,ob,h1,h2,h3,h4,h5,h6⟩:=X.top.bmain;have hP:=e3.2;have hg:=X.top.g;refine⟨c0,P0,_,ht,hu,CodeHd.of e2 e3,e1,hg,⟨bm,ob,h1,h2, ?_, ?_,h3,h4,h5,h6⟩, ?_⟩
 ·rintro rfl
  obtain⟨o,es,ep,g1,g2,_⟩:=hg;rw [h3]at g1;cases g1;rw [h6]at g2;cases g2
 ·rintro rfl
  rw [h3]at hP;cases hP;cases h6
 ·intro q
  obtain⟨o,es,ep,g1,g2,_⟩:=hg;rw [q,hP]at g1;cases g1;cases g2
theorem DP:Bnd "_digits2int" 10 ["digits","n"]:=λpm cd Qh vs h=>by
 obtain⟨a,b,rfl⟩:=km h
 kernel_rfl
theorem zk (X:bk w H) (hd:20<=d) (G:ai (Cz w H d) Γ) (F:FnH H "_digits2int" 10 76 o fd): ∀args r,F6 args=H7 r->aj prg w H (d+1) 76 args r:=by
 haveI D:bW (Cz w H d) 76 o fd (ar 10).2.2.1 ["digits","n"] dgO:=F.ok (C:=Cz w H d) X.top.nolimit (by kernel_rfl) DP
 obtain⟨pm,cd,Qh,rfl⟩:=F.ex;intro args r hr;refine xu (Q:=λargs=>aj prg w H (d+1) 76 args r) hr λx y h=>wZ (Q:=λx=>aj prg w H (d+1) 76 [x,y] r) h λxs h=>jm (Q:=λy=>aj prg w H (d+1) 76 [.list xs,y] r) h λn h=>ae h λds h1 h2=>
  ba (P:=aj prg w H (d+1) 76 [.list xs,.int n]) h2 fun⟨c1,c2,c3,c4,c5⟩=> ?_
 ·rw [yS h1]
  obtain⟨m,rfl⟩:=I' c2;have c5:((m*ds.length:Nat):Int)<=2000000:=by rw [K6];exact c5
  have c5:m*ds.length<=2000000:=by lia
  haveI hp:2^20<=2^d:=J4 (by decide) hd
  haveI e:(m+2)*ds.length=m*ds.length+2*ds.length:=KN _ _ _;rw [I3];exact zj (C:=Cz w H d) G D DF (by kernel_rfl) (by kernel_rfl) (λQ5=>by kernel_rfl) (by kernel_rfl) (by kernel_rfl) (i' (by kernel_rfl)) (by kernel_rfl) (λL=>by
   have:=qH X d (r_ X) F (pos:=⟨54,4,59,55⟩) (q:= "_digits2int.<locals>.inner") (by decide) (by decide) L
   exact this) DG B1 (i' (by kernel_rfl)) (B:=500000) c1 (by show 2*ds.length<=2^d;lia) (by exact Hk c4 (by decide)) (by lia) (by exact H8 (HE (HE (Hm _) (H8 (Hu e) (HE c5 (I6 (Hm _) c4)))) c5) (by decide))
theorem FH:Bnd "_int2digits" 9 ["a","n"]:=λpm cd Qh vs h=>by
 obtain⟨a,b,rfl⟩:=km h
 kernel_rfl
theorem yV (X:bk w H) (hd:20<=d) (G:ai (Cz w H d) Γ) (F:FnH H "_int2digits" 9 69 o fd): ∀args r,F5 args=H7 r->aj prg w H (d+1) 69 args r:=by
 haveI D:bW (Cz w H d) 69 o fd (ar 9).2.2.1 ["a","n"] i2O:=F.ok (C:=Cz w H d) X.top.nolimit (by kernel_rfl) FH
 obtain⟨pm,cd,Qh,rfl⟩:=F.ex;intro args r hr;refine iV (Q:=λargs=>aj prg w H (d+1) 69 args r) hr λa n h=>ba (P:=aj prg w H (d+1) 69 [.int a,.int n]) h fun⟨c1,c2,c3,c4⟩=> ?_
 ·obtain⟨x,rfl⟩:=I' c1
  obtain⟨m,rfl⟩:=I' (JN c2);have WR:0<m:=by exact aZp c2
  haveI hk:=x9 (a:=x) (n:=m) WR;haveI hp:2^20<=2^d:=J4 (by decide) hd
  rw [I3,I3];exact yU (C:=Cz w H d) G D Dh (by kernel_rfl) (by kernel_rfl) (λQ5=>by kernel_rfl) (by kernel_rfl) (by kernel_rfl) (by kernel_rfl) (i' (by kernel_rfl)) (by kernel_rfl) (by kernel_rfl) (λL=>by
   have:=qH X d (sa X) F (pos:=⟨39,4,48,28⟩) (q:= "_int2digits.<locals>.inner") (by decide) (by decide) L
   exact this) Di AN (i' (by kernel_rfl)) WR (by lia) (by show 2*kOf x m<=2^d;lia) (by exact H8 (H8 hk.1 c4) (by decide)) (by lia)
end
section
variable {ns:ay}
theorem gA {st:IR} {RV:List IR} {p:PS} (h1:dN C Γ Q4 ns st p) (h2:iN C Γ Q4 ns RV ps):iN C Γ Q4 ns (st::RV) (p::ps):=by
 intro A Q5 s₀ Q6 W ok om ρ s o F h;obtain⟨o',ho,h⟩:=Ho.mp h;refine Ih ((h1 A Q5 s₀ Q6 W ok om ρ s o' F ho).mono λf s₁ hP=> ?_);cases o' with
 |next ρ' Qb=>
  obtain⟨hf,ok',Rf,F',T,SD⟩:=hP;subst hf;haveI h':ag Γ ps ρ' (Rf.map (·.1))=H7 o:=by rw [SD];exact h
  exact(h2 A Q5 s₀ Q6 W ok' Rf ρ' s₁ o F' h').mono λf s₂ h=>h.seq T
 |ret v=>
  cases h;obtain⟨u,hf,hx⟩:=hP;subst hf;exact⟨u,rfl,hx⟩
theorem oz:iN C Γ Q4 ns [] []:=by intro A Q5 s₀ Q6 W ok om ρ s o F h;cases h;exact Hi ⟨rfl,ok,om,F,.refl _ _ _,rfl⟩
theorem CC {e:Expr} {pe:PE} (hE:aI C Γ Q4 ns e pe):dN C Γ Q4 ns (.Return (H7 e) pos) (.ret pe):=by intro A Q5 s₀ Q6 W ok om ρ s o F h;obtain⟨v,hv,rfl⟩:=HG.mp h;exact wU hE F hv
theorem ai.putX (G:ai C Γ) (hk: ∀x,C.gl x≠H7 (.fn k)) (F:List PV->Option PV):ai C (Γ.put k F):=
 ⟨G.sy,G.val,λy i hy=>by haveI hi:i≠k:=λq=>hk y (q▸hy);obtain⟨f',o',Yc,h1,h2,h3,h4⟩:=G.fn y i hy;refine⟨f',o',Yc,h1,h2,h3,λargs r hr=> ?_⟩;have hr:(if i=k then F args else Γ.fn i args)=H7 r:=hr;rw [if_neg hi]at hr;exact h4 args r hr,G.bi,G.gn,G.ty⟩
end
theorem tY (h:(ftab.all λe=>e.2.1 !=k)=Hd): ∀x,gl2 x≠H7 (.fn k):=λx hx=>by obtain⟨e,he,_,h2⟩:=BL hx;have:=HX.mp h e he;rw [h2]at this;simp at this
abbrev ns4:ay:=(ar 4).2.2.2.names
theorem Af:(ar 4).2.2.1=[.Return (H7 (.Call (.Attribute (.Name "_twin_re_1" (px 4 [0] [0,0,0])) "sub" (px 4 [0] [0,0])) [ex 4 [0] [0,1],.Call (.Attribute (.Name "_twin_re_2" (px 4 [0] [0,2,0,0])) "sub" (px 4 [0] [0,2,0])) [ex 4 [0] [0,2,1],ex 4 [0] [0,2,2]] [] (px 4 [0] [0,2])] [] (px 4 [0] [0]))) (pt 4 [0])]:=by kernel_rfl
section
theorem wX {c:Hw} {code:Array Nat} (h:wy H a c=H7 (.type "re.Pattern",H9,0,0,.ref c,H7 code)):gt H a code:=
 ae h λo e h=>ae h λfs hf h=>by
  have h:=Hg h;refine ae (congrArg (·.2.2.2.2.2) h:_=H7 code) λoc e2 h6=>ae h6 λitems hi h6=> ?_
  obtain⟨n,hn⟩:=B8 hi;exact⟨o,fs,c,oc,items,n,e,congrArg (·.1) h,congrArg (·.2.1) h,oZ hf,congrArg (·.2.2.1) h,congrArg (·.2.2.2.1) h,congrArg (·.2.2.2.2.1) h,e2,hn,Hg h6⟩
theorem D6 (X:bk w H):gt H 36 P1:=wX (c:=35) (congrArg (λt=>t.2.1) X.obs)
theorem D5 (X:bk w H):gt H 41 P2:=wX (c:=40) (congrArg (λt=>t.2.2.1) X.obs)
def Γq (Γ:Gam):Gam:=(Γ.put 40 (mv (dd Hd))).put 41 (mv (nl Hb))
theorem FK:Bnd "quotedata" 4 ["data"]:=λpm cd Qh vs h=>by
 obtain⟨a,rfl⟩:=jf h
 kernel_rfl
theorem th (X:bk w H) (G:ai (Cz w H d) Γ) (SU:Γ.gv 1=H7 (.str kU)) (F:FnH H "quotedata" 4 48 o fd) (x:List Nat) (hx:x.length<=20000):aj prg w H (d+1) 48 [sv x] (sv (dd Hd (nl Hb x))):=by
 haveI D:bW (Cz w H d) 48 o fd (ar 4).2.2.1 ["data"] bO:=F.ok (C:=Cz w H d) X.top.nolimit (by kernel_rfl) FK
 haveI e:fd.scope.names=ns4:=by obtain⟨pm,cd,Qh,rfl⟩:=F.ex;rfl
 have GQ:ai (Cz w H d) (Γq Γ):=(G.putX (tY (by decide+kernel)) _).putX (tY (by decide+kernel)) _
 have Sd:=cP (Q4:=bO) GQ 20;have g1:sE gl2 bO 20 ns4 (ex 4 [0] [0,1])=H7 (.cS nV):=by kernel_rfl
 have g2:sE gl2 bO 20 ns4 (ex 4 [0] [0,2,1])=H7 (.glo 1):=by kernel_rfl
 have g3:sE gl2 bO 20 ns4 (ex 4 [0] [0,2,2])=H7 (.var 0):=by kernel_rfl
 haveI E2:=Sd.e ns4 (ex 4 [0] [0,2,2]) _ g3;haveI L2:=Sd.e ns4 (ex 4 [0] [0,2,1]) _ g2;haveI L1:=Sd.e ns4 (ex 4 [0] [0,1]) _ g1;haveI I2:=wS (C:=Cz w H d) (Γ:=Γq Γ) (Q4:=bO) (ns:=ns4) (px:=px 4 [0] [0,2,0,0]) (ap:=px 4 [0] [0,2,0]) (cp:=px 4 [0] [0,2]) (x:= "_twin_re_2") L2 (c8 (dE g2)) (r:=kU) (λρ=>SU) E2 (c8 (dE g3)) (by decide) (by kernel_rfl) (gF X (n:= "_twin_re_2") (a:=41) (Ht (i:=12) rfl)) (D5 X) Gh (by kernel_rfl) (k:=41) rfl
 haveI I1:=wS (C:=Cz w H d) (Γ:=Γq Γ) (Q4:=bO) (ns:=ns4) (px:=px 4 [0] [0,0,0]) (ap:=px 4 [0] [0,0]) (cp:=px 4 [0] [0]) (x:= "_twin_re_1") L1 (c8 (dE g1)) (r:=nV) (λρ=>rfl) I2 (c8 rfl) (by decide) (by kernel_rfl) (gF X (n:= "_twin_re_1") (a:=36) (Ht (i:=11) rfl)) (D6 X) Gi (by kernel_rfl) (k:=40) rfl
 haveI hS:iN (Cz w H d) (Γq Γ) bO fd.scope.names (ar 4).2.2.1 [.ret (.call 40 [.call 41 [.var 0]])]:=by rw [e,Af];exact gA (CC I1) oz
 refine dJ D GQ.sy hS ?_;have hl:=lh x Hb;rw [if_neg (by decide)]at hl
 haveI e1:mv (nl Hb) [sv x]=H7 (sv (nl Hb x)):=by
  show(if x.toArray.size<=100000 then H7 (PV.str (tx (nl Hb x.toArray.toList)))else H9)=_;rw [HO,if_pos (by exact H8 hx (by decide))]
  rfl
 haveI e2:mv (dd Hd) [sv (nl Hb x)]=H7 (sv (dd Hd (nl Hb x))):=by
  show(if(nl Hb x).toArray.size<=100000 then H7 (PV.str (tx (dd Hd (nl Hb x).toArray.toList)))else H9)=_;rw [HO,if_pos (by exact H8 (H8 hl (HE (I6 (Hm _) hx) (Hm _))) (by decide))]
  rfl
 haveI hp:pev (Γq Γ) (.call 40 [.call 41 [.var 0]]) [H7 (sv x)]=H7 (sv (dd Hd (nl Hb x))):=aq (ac (aq (ac (v:=sv x) rfl rfl) e1) rfl) e2;show((ag (Γq Γ) [.ret (.call 40 [.call 41 [.var 0]])] [H7 (sv x)] []).bind _)=_;rw [ak (aC hp)]
 rfl
end
abbrev C4:ay:=(ar 20).2.2.2.names
theorem zU:(ar 20).2.2.1=[.Return (H7 (.Compare (ex 20 [0] [0,0]) [.In] [.Name "b1_set" (px 20 [0] [0,1])] (px 20 [0] [0]))) (pt 20 [0])]:=by kernel_rfl
theorem Bm: ∀i∈b1list,hashInt i=i:=by decide+kernel
theorem Bl: ∀c:Nat,b1list.contains (c:Int)=d4 c:=λc=>by
 rw [O6,Jv];unfold d4;rw [Jv];haveI h1: ∀i∈b1list,i.toNat∈veilsL/\0<=i:=by decide+kernel
 haveI h2: ∀n∈veilsL,(n:Int)∈b1list:=by decide+kernel
 exact⟨λh=>by have:=(h1 _ h).1;simpa using this,h2 c⟩
section
theorem Cv (h:Bx H a=H7 (.type "set",H9,0,b1list.map (λi=>(i,.int i 0)),Hd)):H.SetOf (IM prg w) a (λi=>b1list.contains i) 27:=by
 refine ae h λo e h=>ae h λy hy h=> ?_
 ·obtain⟨ep,hd⟩:=zi hy
  obtain⟨es,t⟩:=y;have h:=Hg h;haveI h1:o.cls= .type "set" :=congrArg (·.1) h
  haveI h2:o.dict=H9:=congrArg (·.2.1) h
  haveI h3:o.slots.size=0:=congrArg (·.2.2.1) h
  have h4:es.toList.map (λe=>(e.1,jS e.2))=b1list.map (λi=>(i,.int i 0)):=congrArg (·.2.2.2.1) h
  haveI h5:t.fits es.size=Hd:=congrArg (·.2.2.2.2) h
  have hl:es.toList.length=27:=by have:=congrArg Kl h4;rw [Hf,Hf]at this;rw [this];rfl
  have hl:es.size=27:=by rw [<-hl,KT]
  have Xs: ∀e∈es.toList,∃i∈b1list,e.1=i/\ ∃t,e.2= .int i t:=λx hx=>by
   haveI:(x.1,jS x.2)∈b1list.map (λi=>(i,Kb i 0)):=by rw [<-h4];exact HC.mpr ⟨x,hx,rfl⟩
   obtain⟨i,hi,q⟩:=HC.mp this;simp only [Prod.mk.injEq]at q;refine⟨i,hi,q.1.symm, ?_⟩;have q2:=q.2.symm;cases hv:x.2<;>rw [hv]at q2<;>first|(cases q2;exact⟨_,rfl⟩)|cases q2
  refine⟨o,es,ep,t,e,⟨h1,h2,Ke h3⟩,hd,λx hx=> ?_,λk=> ?_,by rw [hl];decide,h5,hl⟩
  ·obtain⟨i,hi,q1,t,q2⟩:=Xs x hx
   refine⟨⟨i, ?_, ?_⟩, ?_⟩
   ·rw [q2];simp [IM,OY]
   ·rw [q1];exact(Bm i hi).symm
   ·rw [q2];rfl
  ·rw [Jv]
   constructor
   ·intro hk
    haveI:(k,Kb k 0)∈es.toList.map (λe=>(e.1,jS e.2)):=by rw [h4];exact HC.mpr ⟨k,hk,rfl⟩
    obtain⟨x,hx,q⟩:=HC.mp this;simp only [Prod.mk.injEq]at q;obtain⟨i,hi,q1,t,q2⟩:=Xs x hx;haveI:i=k:=by rw [<-q1];exact q.1
    subst this;exact⟨x,hx,by rw [q2];simp [IM,OY]⟩
   ·rintro⟨x,hx,hk⟩
    obtain⟨i,hi,q1,t,q2⟩:=Xs x hx;rw [q2]at hk;haveI:i=k:=by simpa [IM,OY]using hk
    rw [<-this];exact hi
theorem DM:Bnd "in_table_b1" 20 ["code"]:=λpm cd Qh vs h=>by
 obtain⟨a,rfl⟩:=jf h
 kernel_rfl
def Ft (vs:List PV):Option PV:=a1 (oI λi=>H7 (.bool (b1list.contains i))) vs
theorem t5 (X:bk w H) (G:ai (Cz w H d) Γ) (F:FnH H "in_table_b1" 20 136 o fd) (c:Nat):aj prg w H (d+1) 136 [sv [c]] (.bool (d4 c)):=by
 haveI D:bW (Cz w H d) 136 o fd (ar 20).2.2.1 ["code"] ce:=F.ok (C:=Cz w H d) X.top.nolimit (by kernel_rfl) DM
 haveI e:fd.scope.names=C4:=by obtain⟨pm,cd,Qh,rfl⟩:=F.ex;rfl
 have GQ:ai (Cz w H d) (Γ.put 42 Ft):=G.putX (tY (by decide+kernel)) _
 haveI Sd:=cP (Q4:=ce) GQ 20;haveI g1:sE gl2 ce 20 C4 (ex 20 [0] [0,0])=H7 (.bi .ord [.var 0]):=by kernel_rfl
 haveI E1:=Sd.e C4 (ex 20 [0] [0,0]) _ g1;haveI SJ:H.SetOf (IM prg w) 126 (λi=>b1list.contains i) 27:=Cv (congrArg (λt=>t.2.2.2.2.2.1) X.obs);haveI hS:iN (Cz w H d) (Γ.put 42 Ft) ce fd.scope.names (ar 20).2.2.1 [.ret (.call 42 [.bi .ord [.var 0]])]:=by
  rw [e,zU];refine gA (vW (C:=Cz w H d) (k:=42) E1 (by decide) (by kernel_rfl) (gF X (n:= "b1_set") (a:=126) (Ht (i:=15) rfl)) SJ λvs r h=> ?_) oz
  exact gy (Q:=λvs=> ∃i,vs=[PV.int i]/\r= .bool (b1list.contains i)) h λx h=>jm (Q:=λx=> ∃i,[x]=[PV.int i]/\r= .bool (b1list.contains i)) h λi h=>⟨i,rfl,(Hg h).symm⟩
 refine dJ D GQ.sy hS ?_;haveI e0:(["code"]:List HJ).map ce.idxOf=[0]:=by decide
 rw [e0];haveI:aE (Γ.put 42 Ft) ce.length [0] [.ret (.call 42 [.bi .ord [.var 0]])] [sv [c]]=H7 (.bool (b1list.contains (c:Int))):=rfl;rw [this,Bl]
end
abbrev uU:ay:=(ar 22).2.2.2.names
theorem AD:(ar 22).2.2.1=[.Assign [.Name "r" (px 22 [0] [1])] (.Call (.Attribute (.Name "b3_exceptions" (px 22 [0] [0,0,0])) "get" (px 22 [0] [0,0])) [ex 22 [0] [0,1]] [] (px 22 [0] [0])) (pt 22 [0]),st 22 [1],st 22 [2]]:=by kernel_rfl
def mps:List PS:=[.set 1 0 (.call 43 [.bi .ord [.var 0]]),.ite (.cmp .IsNot (.var 1) .cN) [.ret (.var 1)] [],.ret (.meth .lower (.var 0) [])]
def Fg (vs:List PV):Option PV:=a1 (oI λi=>H7 (match iI.lookup i with|some t=> .str t|none=> .none)) vs
theorem nu: ∀{Qu:List (Int×Hl)} {ts:List (Int×HJ)},kT Qu ts-> ∀i,(match O9 Qu i with|none=>ts.lookup i=H9|some v=> ∃t u,v= .str t u/\ts.lookup i=H7 t)
 |[],[],_,i=>rfl
 |kv::r,t::ts,h,i=>by
  obtain⟨h1,⟨u,h2⟩,h3⟩:=h;have ih:=nu h3 i;unfold O9 at ih ⊢
  rw [O3];obtain⟨t1,t2⟩:=t;have h1:kv.1=t1:=h1;by_cases hk:kv.1=i
  ·rw [decide_eq_true hk]
   refine⟨t2,u,h2, ?_⟩;rw [IV,show(i==t1)=Hd from by rw [beq_iff_eq,<-h1,hk]]
  ·rw [decide_eq_false hk]
   haveI:(i==t1)=Hb:=by rw [beq_eq_false_iff_ne,<-h1];exact λe=>hk e.symm
   rw [IV,this];exact ih
section
theorem DK:Bnd "map_table_b3" 22 ["code"]:=λpm cd Qh vs h=>by
 obtain⟨a,rfl⟩:=jf h
 kernel_rfl
theorem Dc (c:Nat):aE (Γ.put 43 Fg) 2 [0] mps [sv [c]]=H7 (sv (cH c)):=by
 have h0:pev (Γ.put 43 Fg) (.call 43 [.bi .ord [.var 0]]) [H7 (sv [c]),H9]=H7 (match iI.lookup (c:Int)with|some t=> .str t|none=> .none):=rfl
 unfold cH;cases h:iI.lookup (c:Int)with
 |some t=>
  rw [h]at h0;show((ag (Γ.put 43 Fg) mps [H7 (sv [c]),H9] []).bind _)=_;unfold mps;rw [aa (au h0)]
  rfl
 |none=>
  rw [h]at h0;have hl:=lJ c;unfold cH at hl;rw [h]at hl;haveI hq:KD (KR ⟨#[c]⟩).length=Hb:=by haveI h2:(KR ⟨#[c]⟩).length=(KR ⟨#[c]⟩).cps.size:=rfl;have hl:(KR ⟨#[c]⟩).cps.toList.length<=5:=hl;rw [KT]at hl;rw [h2];unfold KD;simp only [decide_eq_false_iff_not];haveI:Hz=2^24:=rfl;exact JS (H8 hl (by decide))
  haveI e1:pev (Γ.put 43 Fg) (.meth .lower (.var 0) []) [H7 (sv [c]),H7 .none]=H7 (.str (KR ⟨#[c]⟩)):=by exact eA hq
  show((ag (Γ.put 43 Fg) mps [H7 (sv [c]),H9] []).bind _)=_;unfold mps;rw [aa (au h0)];rw [aa (ρ':=[H7 (sv [c]),H7 .none]) (Qb:=[]) rfl,ak (aC e1)]
  rfl
theorem yE (X:bk w H) (G:ai (Cz w H d) Γ) (F:FnH H "map_table_b3" 22 182 o fd) (c:Nat):aj prg w H (d+1) 182 [sv [c]] (sv (cH c)):=by
 haveI D:bW (Cz w H d) 182 o fd (ar 22).2.2.1 ["code"] bf:=F.ok (C:=Cz w H d) X.top.nolimit (by kernel_rfl) DK
 haveI e:fd.scope.names=uU:=by obtain⟨pm,cd,Qh,rfl⟩:=F.ex;rfl
 have GQ:ai (Cz w H d) (Γ.put 43 Fg):=G.putX (tY (by decide+kernel)) _
 haveI Sd:=cP (Q4:=bf) GQ 20;have SS:=d9 (Q4:=bf) GQ (hnt []) uU 20;have g1:sE gl2 bf 20 uU (ex 22 [0] [0,1])=H7 (.bi .ord [.var 0]):=by kernel_rfl
 haveI E1:=Sd.e uU (ex 22 [0] [0,1]) _ g1;obtain⟨od,XJ,es,ep,Qu,q1,q2,q3,q4,q5,q6⟩:=X.dict;haveI Sb:H.MapOf (IM prg w) 137 (O9 Qu):=JT ⟨od,es,ep,XJ,q1,q2,q3,q4,q5⟩;have S2:=SS.1 (st 22 [1]);have S3:=SS.1 (st 22 [2]);rw [show sS (Cz w H d).gl bf (hnt []) uU 20 (st 22 [1])= .ite (.cmp .IsNot (.var 1) .cN) [.ret (.var 1)] []from by kernel_rfl]at S2
 rw [show sS (Cz w H d).gl bf (hnt []) uU 20 (st 22 [2])= .ret (.meth .lower (.var 0) [])from by kernel_rfl]at S3
 haveI hS:iN (Cz w H d) (Γ.put 43 Fg) bf fd.scope.names (ar 22).2.2.1 mps:=by
  rw [e,AD];refine gA (Dm (C:=Cz w H d) (k:=43) (g:=λi=>iI.lookup i) ⟨E1,dE g1⟩ (by kernel_rfl) (by decide) (by decide) (by kernel_rfl) (gF X (n:= "b3_exceptions") (a:=137) (Ht (i:=17) rfl)) (by kernel_rfl) Sb (by decide) (nu q6) λvs r h=> ?_) (gA S2 (gA S3 oz))
  exact gy (Q:=λvs=> ∃i,vs=[PV.int i]/\r=(match iI.lookup i with|some t=> .str t|none=> .none)) h λx h=>jm (Q:=λx=> ∃i,[x]=[PV.int i]/\r=(match iI.lookup i with|some t=> .str t|none=> .none)) h λi h=>⟨i,rfl,(Hg h).symm⟩
 refine dJ D GQ.sy hS ?_;haveI e0:(["code"]:List HJ).map bf.idxOf=[0]:=by decide
 rw [e0];exact Dc c
end
theorem t9 (l:List Nat):(aH l).length<=l.length:=by have h:=g_ l ⟨[],[],H9,Hb⟩;haveI e:(⟨[],[],H9,Hb⟩:SM).fin.length=0:=rfl;rw [e]at h;simpa [aH]using h
def G0:Gam:=Γb.put 0 (aE Γb 6 [0] bJ)
def G1:Gam:=G0.put 1 (aE G0 4 [0] cT)
def G2:Gam:=G1.put 2 (aE G1 3 [0] ci)
def G5:Gam:=G2.put 5 F5
def G6:Gam:=G5.put 6 F6
def G8:Gam:=G6.put 8 F8
def F9 (vs:List PV):Option PV:=a1 (oS λx=>giv (x.cps.size<=20000) (sv (dd Hd (nl Hb x.cps.toList)))) vs
def F10 (vs:List PV):Option PV:=a1 (oS λx=>(ib x.cps.toList).map λc=> .bool (d4 c)) vs
def F11 (vs:List PV):Option PV:=a1 (oS λx=>(ib x.cps.toList).map λc=>sv (cH c)) vs
theorem ch1 {c:Nat} (h:ib x.cps.toList=H7 c):PV.str x=sv [c]:=congrArg (λl:List Nat=>PV.str ⟨l.toArray⟩) (db h)
def G9:Gam:=G8.put 9 F9
def G10:Gam:=G9.put 10 F10
def G11:Gam:=G10.put 11 F11
def G12:Gam:=G11.put 12 (aE G11 2 [0,1] dw)
def G13:Gam:=G12.put 13 (aE G12 7 [0] ee)
def G14:Gam:=G13.put 14 (aE G13 5 [0,1,2] j6)
def G15:Gam:=G14.put 15 (aE G14 7 [0] ij)
def G16:Gam:=G15.put 16 (aE G15 4 [0] dX)
def G17:Gam:=G16.put 17 (aE G16 2 [0,1] dL)
def G18:Gam:=G17.put 18 (aE G17 13 [0,1] bC)
def G19:Gam:=G18.put 19 (aE G18 8 [0,1] du)
def G20:Gam:=G19.put 20 (aE G19 4 [0] bL)
def G21:Gam:=G20.put 21 (aE G20 8 [0,1] gb)
def G22:Gam:=G21.put 22 (aE G21 3 [0] ft)
def G23:Gam:=G22.put 23 (aE G22 4 [0,1] cb)
def G24:Gam:=G23.put 24 (aE G23 8 [0,1,2,3] dv)
theorem rW {F:List PV->Option PV} (args:List PV):(Γ.put k F).fn k args=F args:=if_pos rfl
theorem A_:bJ=ir:=rfl
theorem B0:cT=ll:=rfl
theorem Fs:ci=wh:=rfl
theorem Et (h:y.cps.size<=100000):G0.fn 0 [.str y]=H7 (.str ⟨(aH y.cps.toList).toArray⟩):=by rw [G0,rW,A_];exact ta h rfl
theorem C6 (l:List Nat) (h:l.length<=2000):G1.fn 1 [sv l]=H7 (.bool (dA l)):=by rw [G1,rW,B0];exact tO (x:=⟨l.toArray⟩) (Et (y:=⟨l.toArray⟩) (by show l.toArray.size<=_;rw [HO];exact H8 h (by decide))) (λy _=>rfl) (t9 l)
theorem GC (ls:List (List Nat)) (h:ls.length<1000) (h2: ∀l∈ls,l.length<=2000):G2.fn 2 [.list (ls.map sv)]=H7 (.list (ls.map λl=>sv (bT l))):=by rw [G2,rW,Fs];exact yi (λl hl=>C6 l (h2 l hl)) h
theorem Do (t:Nat) (way:Int) (h:t<14):G17.fn 17 [sv [102+t],.int way]=H7 (sv [io t way]):=xT h way
theorem eB:Way G11 where
 h9:=λx h=>if_pos (show x.toArray.size<=20000 by rw [HO];exact h)
 h10:=λc=>rfl
 h11:=λc=>rfl
theorem y_:G24=jd G24 G20 G21:=by
 have e:G24.fn=(jd G24 G20 G21).fn:=funext λk=>funext λargs=>by
  show _=if k=21 then _ else if k=22 then _ else G24.fn k args;by_cases h:k=21
  ·subst h;rfl
  ·rw [if_neg h]
   by_cases h2:k=22
   ·subst h2;rfl
   ·rw [if_neg h2]
 show G24=⟨G24.gv,(jd G24 G20 G21).fn,G24.gn⟩;rw [<-e]
variable {xs:List Int}
theorem Dn (hl:xs.length<=1000): ∃hf,LH G24 (.list (xs.map .int)) hf:=by
 haveI H: ∀p:Nat,∃h:Int,p<5->aE G11 2 [0,1] dw [.list (xs.map .int),.int p]=H7 (.int h):=λp=>by
  by_cases hp:p<5
  ·obtain⟨h,e⟩:=v_ (Γ:=G11) hl hp
   exact⟨h,λ_=>e⟩
  ·exact⟨0,λq=>absurd q hp⟩
 obtain⟨hf,hH⟩:=Classical.axiomOfChoice H;have f5: ∀args r,F5 args=H7 r->G23.fn 5 args=H7 r:=λargs r h=>h;have f6: ∀args r,F6 args=H7 r->G23.fn 6 args=H7 r:=λargs r h=>h;have f8: ∀args r,F8 args=H7 r->G23.fn 8 args=H7 r:=λargs r h=>h;refine⟨hf,⟨λx=>rfl,λl h=> ?_,C6,GC,hH,λn hn=> ?_,λrow pl pc h1 h2=> ?_,λus h1 h2=> ?_⟩,⟨eB.h9,eB.h10,eB.h11⟩,λargs r h=>h,λargs r h=>h,λn hn m=> ?_,λL m h=> ?_,λT hT=> ?_,λn hn w hw=> ?_,λn hn o ho w Uj hw sd hs=> ?_,⟨G20,G21,y_⟩⟩
 ·exact Et (y:=⟨l.toArray⟩) (by show l.toArray.size<=_;rw [HO];exact H8 h (by decide))
 ·show aE G12 7 [0] ee [.int (n:Nat)]=_
  simp only [Hp,HF,or_false]at hn;rcases hn with rfl|rfl
  ·exact Cy
  ·exact Cw
 ·exact sX (Γ:=G13) h1 h2 pl pc
 ·exact v6 (Γ:=G14) C6 h1 h2
 ·exact tD (Γ:=G17) hn (λw hw=>zg (Γ:=G15) hn hw) Do
 ·exact vn (Γ:=G18) ⟨eB.h9,eB.h10,eB.h11⟩ h.pos h.len λl hl=>(h.raw l hl).1
 ·exact vD (Γ:=G19) ⟨eB.h9,eB.h10,eB.h11⟩ hT
 ·simp only [Hp,HF,or_false]at hn
  rcases hn with rfl|rfl
  ·exact⟨hU (Γ:=G22) f6 hw (ks:=[2,3]) rfl (by decide) (by decide),hU (Γ:=G22) f6 hw (ks:=[5,6]) rfl (by decide) (by decide)⟩
  ·exact⟨hU (Γ:=G22) f6 hw (ks:=[2,3,4]) rfl (by decide) (by decide),hU (Γ:=G22) f6 hw (ks:=[6,7,8]) rfl (by decide) (by decide)⟩
 ·obtain⟨shape,qs,hR⟩:=Ac n hn o ho
  exact vQ (Γ:=G23) f6 f8 hn hR Uj hw hs
section
theorem ew (X:bk w H) (G:ai (Cz w H d) Γ) {l:Nat} {is:List Nat} (hm:(n,i,k,a,j)∈ftab) (hg:gl2 n=H7 (.fn i)) (hb:zG k params Q4=Hd) (RT:Bnd n k params)
  (QR:sSs gl2 Q4 Qq (ar k).2.2.2.names 90 (ar k).2.2.1=ps) (hl:Q4.length=l) (U0:params.map Q4.idxOf=is):ai (Cz w H (d+1)) (Γ.put i (aE Γ l is ps)):=by
 subst hl U0;exact yf X G hm hg hb RT QR
theorem Gu (X:bk w H):ai (Cz w H 33) G2:=by
 haveI g:=Dk X 27;haveI a0:=ew X g (n:= "_strip_quoted_realnames") (i:=0) (k:=15) (a:=104) (j:=1) (params:=["addr"]) (Ht (i:=0) rfl) (by kernel_rfl) (by kernel_rfl) (λpm cd Qh vs h=>by
  obtain⟨a,rfl⟩:=jf h
  kernel_rfl) eW (l:=6) rfl (is:=[0]) (by decide)
 haveI a1:=ew X a0 (n:= "_check_parenthesis") (i:=1) (k:=16) (a:=111) (j:=2) (params:=["addr"]) (Ht (i:=1) rfl) (by kernel_rfl) (by kernel_rfl) (λpm cd Qh vs h=>by
  obtain⟨a,rfl⟩:=jf h
  kernel_rfl) gQ (l:=4) rfl (is:=[0]) (by decide)
 exact ew X a1 (n:= "_pre_parse_validation") (i:=2) (k:=17) (a:=118) (j:=3) (params:=["email_header_fields"]) (Ht (i:=2) rfl) (by kernel_rfl) (by kernel_rfl) (λpm cd Qh vs h=>by
  obtain⟨a,rfl⟩:=jf h
  kernel_rfl) fK (l:=3) rfl (is:=[0]) (by decide)
end
section
theorem dc (hg:gl2 n=H7 (.fn i)) (F:FnH H n k a o fd):kt (Cz w H d) n i a o fd:=⟨λy hy=>uG hg hy,F.loads,F.ho,F.hd⟩
theorem FJ:Bnd "_div2n1n" 7 ["a","b","n"]:=λpm cd Qh vs h=>by
 obtain⟨a,b,c,rfl⟩:=zE h
 kernel_rfl
theorem FI:Bnd "_div3n2n" 8 ["a12","a3","b","b1","b2","n"]:=λpm cd Qh vs h=>by
 obtain⟨a,b,c,d,e,f,rfl⟩:=Gw h
 kernel_rfl
theorem DO:Bnd "_divmod_pos" 11 ["a","b"]:=λpm cd Qh vs h=>by
 obtain⟨a,b,rfl⟩:=km h
 kernel_rfl
theorem DN:Bnd "int_divmod" 12 ["a","b"]:=λpm cd Qh vs h=>by
 obtain⟨a,b,rfl⟩:=km h
 kernel_rfl
theorem Go:sSs gl2 n2N h0 (ar 7).2.2.2.names 40 (ar 7).2.2.1=nS:=by kernel_rfl
theorem Gn:sSs gl2 n3N h0 (ar 8).2.2.2.names 40 (ar 8).2.2.1=pN:=by kernel_rfl
theorem Gm:sSs gl2 n7N h7 (ar 11).2.2.2.names 40 (ar 11).2.2.1=rN:=by kernel_rfl
theorem Gl:sSs gl2 n8N h0 (ar 12).2.2.2.names 40 (ar 12).2.2.1=rM:=by kernel_rfl
theorem Gt (X:bk w H):ai (Cz w H 60) G8:=by
 have a2:=Gu X;obtain⟨o2,f2,E2⟩:=fnH X (n:= "_div2n1n") (i:=3) (k:=7) (a:=55) (j:=5) (Ht (i:=3) rfl);obtain⟨o3,f3,E3⟩:=fnH X (n:= "_div3n2n") (i:=4) (k:=8) (a:=62) (j:=6) (Ht (i:=4) rfl);obtain⟨o5,f5,E5⟩:=fnH X (n:= "_int2digits") (i:=5) (k:=9) (a:=69) (j:=7) (Ht (i:=5) rfl);obtain⟨o6,f6,E6⟩:=fnH X (n:= "_digits2int") (i:=6) (k:=10) (a:=76) (j:=8) (Ht (i:=6) rfl);obtain⟨o7,f7,E7⟩:=fnH X (n:= "_divmod_pos") (i:=7) (k:=11) (a:=83) (j:=9) (Ht (i:=7) rfl);obtain⟨o8,f8,E8⟩:=fnH X (n:= "int_divmod") (i:=8) (k:=12) (a:=90) (j:=10) (Ht (i:=8) rfl);have P5:=yV X (by decide) a2 E5
 have P6:=zk X (by decide) a2 E6
 haveI D2:bW (Cz w H 33) 55 o2 f2 (ar 7).2.2.1 ["a","b","n"] n2N:=E2.ok (C:=Cz w H 33) X.top.nolimit (by kernel_rfl) FJ
 haveI D3:bW (Cz w H 33) 62 o3 f3 (ar 8).2.2.1 ["a12","a3","b","b1","b2","n"] n3N:=E3.ok (C:=Cz w H 33) X.top.nolimit (by kernel_rfl) FI
 haveI D7:bW (Cz w H 33) 83 o7 f7 (ar 11).2.2.1 ["a","b"] n7N:=E7.ok (C:=Cz w H 33) X.top.nolimit (by kernel_rfl) DO
 haveI D8:bW (Cz w H 33) 90 o8 f8 (ar 12).2.2.1 ["a","b"] n8N:=E8.ok (C:=Cz w H 33) X.top.nolimit (by kernel_rfl) DN
 haveI s2:sSs (Cz w H 33).gl n2N h0 f2.scope.names 40 (ar 7).2.2.1=nS:=by obtain⟨pm,cd,Qh,rfl⟩:=E2.ex;exact Go
 haveI s3:sSs (Cz w H 33).gl n3N h0 f3.scope.names 40 (ar 8).2.2.1=pN:=by obtain⟨pm,cd,Qh,rfl⟩:=E3.ex;exact Gn
 haveI s7:sSs (Cz w H 33).gl n7N h7 f7.scope.names 40 (ar 11).2.2.1=rN:=by obtain⟨pm,cd,Qh,rfl⟩:=E7.ex;exact Gm
 haveI s8:sSs (Cz w H 33).gl n8N h0 f8.scope.names 40 (ar 12).2.2.1=rM:=by obtain⟨pm,cd,Qh,rfl⟩:=E8.ex;exact Gl
 haveI k3:gl2 "_div2n1n" =H7 (.fn 3):=by kernel_rfl
 haveI k4:gl2 "_div3n2n" =H7 (.fn 4):=by kernel_rfl
 have k5:gl2 "_int2digits" =H7 (.fn 5):=by kernel_rfl
 have k6:gl2 "_digits2int" =H7 (.fn 6):=by kernel_rfl
 haveI k7:gl2 "_divmod_pos" =H7 (.fn 7):=by kernel_rfl
 have k8:gl2 "int_divmod" =H7 (.fn 8):=by kernel_rfl
 haveI P7:=EM (C:=Cz w H 33) a2 rfl (dc k3 E2) (dc k4 E3) (dc k5 E5) (dc k6 E6) D2 D3 D7 s2 s3 s7 P5 P6;haveI P8:=EL (C:=Cz w H 33) (d:=53) a2 (dc k7 E7) (dc k8 E8) D8 s8 (JZ rfl) P7;haveI b5:ai (Cz w H 60) G5:=(a2.at (d:=60) (JZ rfl)).put (C:=Cz w H 60) (dc k5 E5) λargs r hr=>(P5 args r hr).mono (JZ rfl);haveI b6:ai (Cz w H 60) G6:=b5.put (C:=Cz w H 60) (dc k6 E6) λargs r hr=>(P6 args r hr).mono (JZ rfl);exact b6.put (C:=Cz w H 60) (dc k8 E8) λargs r hr=>(P8 args r hr).mono (JZ rfl)
theorem Fc (X:bk w H):ai (Cz w H 61) G11:=by
 have a:=Gt X;obtain⟨o9,f9,E9⟩:=fnH X (n:= "quotedata") (i:=9) (k:=4) (a:=48) (j:=14) (Ht (i:=9) rfl);obtain⟨o10,f10,E10⟩:=fnH X (n:= "in_table_b1") (i:=10) (k:=20) (a:=136) (j:=16) (Ht (i:=10) rfl);obtain⟨o11,f11,E11⟩:=fnH X (n:= "map_table_b3") (i:=11) (k:=22) (a:=182) (j:=18) (Ht (i:=11) rfl);haveI k9:gl2 "quotedata" =H7 (.fn 9):=by kernel_rfl
 haveI k10:gl2 "in_table_b1" =H7 (.fn 10):=by kernel_rfl
 haveI k11:gl2 "map_table_b3" =H7 (.fn 11):=by kernel_rfl
 haveI b9:ai (Cz w H 61) G9:=(a.at (d:=61) (JZ rfl)).put (C:=Cz w H 61) (dc k9 E9) λargs r hr=>by exact gy (Q:=λargs=>aj prg w H 61 48 args r) hr λv h=>fO (Q:=λv=>aj prg w H 61 48 [v] r) h λx h=>ba (P:=aj prg w H 61 48 [.str x]) h λhx=>th X a rfl E9 x.cps.toList (by rw [KT];exact hx)
 haveI b10:ai (Cz w H 61) G10:=b9.put (C:=Cz w H 61) (dc k10 E10) λargs r hr=>by exact gy (Q:=λargs=>aj prg w H 61 136 args r) hr λv h=>fO (Q:=λv=>aj prg w H 61 136 [v] r) h λx h=>aL (P:=aj prg w H 61 136 [.str x]) h λc hc=>ch1 hc▸t5 X a E10 c
 exact b10.put (C:=Cz w H 61) (dc k11 E11) λargs r hr=>by exact gy (Q:=λargs=>aj prg w H 61 182 args r) hr λv h=>fO (Q:=λv=>aj prg w H 61 182 [v] r) h λx h=>aL (P:=aj prg w H 61 182 [.str x]) h λc hc=>ch1 hc▸yE X a E11 c
theorem Fb (X:bk w H):ai (Cz w H 74) G24:=by
 have a:=Fc X;have a:=ew X a (n:= "_law_heap") (i:=12) (k:=24) (a:=189) (j:=19) (params:=["script","place"]) (Ht (i:=12) rfl) (by kernel_rfl) (by kernel_rfl) (λpm cd Qh vs h=>by
  obtain⟨a,b,rfl⟩:=km h
  kernel_rfl) rj (l:=2) rfl (is:=[0,1]) (by decide)
 have a:=ew X a (n:= "_law_rows") (i:=13) (k:=25) (a:=194) (j:=20) (params:=["pairs"]) (Ht (i:=13) rfl) (by kernel_rfl) (by kernel_rfl) (λpm cd Qh vs h=>by
  obtain⟨a,rfl⟩:=jf h
  kernel_rfl) r6 (l:=7) rfl (is:=[0]) (by decide)
 have a:=ew X a (n:= "_law_units") (i:=14) (k:=26) (a:=201) (j:=21) (params:=["row","place","piece"]) (Ht (i:=14) rfl) (by kernel_rfl) (by kernel_rfl) (λpm cd Qh vs h=>by
  obtain⟨a,b,c,rfl⟩:=zE h
  kernel_rfl) po (l:=5) rfl (is:=[0,1,2]) (by decide)
 have a:=ew X a (n:= "_law_turned") (i:=15) (k:=27) (a:=206) (j:=22) (params:=["units"]) (Ht (i:=15) rfl) (by kernel_rfl) (by kernel_rfl) (λpm cd Qh vs h=>by
  obtain⟨a,rfl⟩:=jf h
  kernel_rfl) mj (l:=7) rfl (is:=[0]) (by decide)
 have a:=ew X a (n:= "_law_depths") (i:=16) (k:=28) (a:=213) (j:=23) (params:=["row"]) (Ht (i:=16) rfl) (by kernel_rfl) (by kernel_rfl) (λpm cd Qh vs h=>by
  obtain⟨a,rfl⟩:=jf h
  kernel_rfl) mn (l:=4) rfl (is:=[0]) (by decide)
 have a:=ew X a (n:= "_law_typed") (i:=17) (k:=29) (a:=220) (j:=24) (params:=["letter","way"]) (Ht (i:=17) rfl) (by kernel_rfl) (by kernel_rfl) (λpm cd Qh vs h=>by
  obtain⟨a,b,rfl⟩:=km h
  kernel_rfl) pu (l:=2) rfl (is:=[0,1]) (by decide)
 have a:=ew X a (n:= "_law_lines") (i:=18) (k:=30) (a:=227) (j:=25) (params:=["words","heap"]) (Ht (i:=18) rfl) (by kernel_rfl) (by kernel_rfl) (λpm cd Qh vs h=>by
  obtain⟨a,b,rfl⟩:=km h
  kernel_rfl) pw (l:=13) rfl (is:=[0,1]) (by decide)
 have a:=ew X a (n:= "_law_sent") (i:=19) (k:=31) (a:=232) (j:=26) (params:=["lines","heap"]) (Ht (i:=19) rfl) (by kernel_rfl) (by kernel_rfl) (λpm cd Qh vs h=>by
  obtain⟨a,b,rfl⟩:=km h
  kernel_rfl) r5 (l:=8) rfl (is:=[0,1]) (by decide)
 have a:=ew X a (n:= "_law_prepared") (i:=20) (k:=32) (a:=237) (j:=27) (params:=["sent"]) (Ht (i:=20) rfl) (by kernel_rfl) (by kernel_rfl) (λpm cd Qh vs h=>by
  obtain⟨a,rfl⟩:=jf h
  kernel_rfl) ku (l:=4) rfl (is:=[0]) (by decide)
 have a:=ew X a (n:= "_law_below") (i:=21) (k:=33) (a:=242) (j:=28) (params:=["pairs","rises"]) (Ht (i:=21) rfl) (by kernel_rfl) (by kernel_rfl) (λpm cd Qh vs h=>by
  obtain⟨a,b,rfl⟩:=km h
  kernel_rfl) pz (l:=8) rfl (is:=[0,1]) (by decide)
 have a:=ew X a (n:= "_law_mirror") (i:=22) (k:=34) (a:=247) (j:=29) (params:=["row"]) (Ht (i:=22) rfl) (by kernel_rfl) (by kernel_rfl) (λpm cd Qh vs h=>by
  obtain⟨a,rfl⟩:=jf h
  kernel_rfl) ml (l:=3) rfl (is:=[0]) (by decide)
 have a:=ew X a (n:= "_law_product") (i:=23) (k:=35) (a:=254) (j:=30) (params:=["sizes","width"]) (Ht (i:=23) rfl) (by kernel_rfl) (by kernel_rfl) (λpm cd Qh vs h=>by
  obtain⟨a,b,rfl⟩:=km h
  kernel_rfl) m7 (l:=4) rfl (is:=[0,1]) (by decide)
 exact ew X a (n:= "_law_left") (i:=24) (k:=36) (a:=261) (j:=31) (params:=["number","order","width","side"]) (Ht (i:=24) rfl) (by kernel_rfl) (by kernel_rfl) (λpm cd Qh vs h=>by
  obtain⟨a,b,c,d,rfl⟩:=Ej h
  kernel_rfl) ri (l:=8) rfl (is:=[0,1,2,3]) (by decide)
theorem yO (X:bk w H) (F:FnH H "law" 37 266 o fd) (hl:xs.length<=1000):aj prg w H 75 266 [.list (xs.map .int)] (.bool Hd):=by
 have G:=Fb X;haveI D:bW (Cz w H 74) 266 o fd (ar 37).2.2.1 ["script"] lf:=F.ok (C:=Cz w H 74) X.top.nolimit (by kernel_rfl) λpm cd Qh vs h=>by
  obtain⟨a,rfl⟩:=jf h
  kernel_rfl
 have hS:=(d9 (Q4:=lf) G (hnt []) fd.scope.names 90).2 (ar 37).2.2.1;haveI e:fd.scope.names=(ar 37).2.2.2.names:=by obtain⟨pm,cd,Qh,rfl⟩:=F.ex;rfl
 rw [show sSs (Cz w H 74).gl lf (hnt []) fd.scope.names 90 (ar 37).2.2.1=b8 from by rw [e];exact Cr]at hS
 refine dJ D G.sy hS ?_;haveI e0:(["script"]:List HJ).map lf.idxOf=[0]:=by decide
 rw [e0];obtain⟨hf,L⟩:=Dn hl;exact yN L
end
theorem uE: ∀{ds:List WData},WShape.hasItems [] ds .int=Hd-> ∃xs:List Int,ds=xs.map .int
 |[],_=>⟨[],rfl⟩
 |d::ds,h=>by
  obtain⟨i,rfl⟩:=hasW_int (hasItemsW_at h d Hs);rw [hasItems_all]at h;obtain⟨xs,e⟩:=uE (ds:=ds) (by rw [hasItems_all];exact(HZ.mp (by simpa using h)).2)
  exact⟨i::xs,by rw [e];rfl⟩
theorem Bo {args:List WData} (h:WShape.hasAll [] args [.list .int]=Hd): ∃xs:List Int,args=[.list (xs.map .int)]:=by obtain⟨d,r,rfl,h1,h2⟩:=hasAllW_cons h;obtain rfl:=hasAllW_nil h2;obtain⟨ds,rfl,h3⟩:=hasW_list h1;obtain⟨xs,rfl⟩:=uE h3;exact⟨xs,rfl⟩
theorem De (h:JV.pre.holds [] {args:=[.list (xs.map .int)]}=Hd):xs.length<=63:=by
 have h:WTm.holds [] (.and (.not (.lit (.bool (decide ((63:Int)<(xs.map WData.int).length))))) (.lit (.bool Hd))) {args:=[.list (xs.map .int)]}=Hd:=h;rw [Hf]at h;by_cases hc:(63:Int)<(xs.length:Nat)
 ·rw [decide_eq_true hc]at h
  cases h
 ·lia
theorem Al (args ds:List WData):JV.row.toRowW.claim.post args (.bool Hd) ds=Hd:=by
 have e:same (.bool Hd) (.bool Hd)=Hd:=by rw [same];rfl
 refine HZ.mpr ⟨rfl, ?_⟩;show WTm.holds [] (.lit (.bool (same (.bool Hd) (.bool Hd)))) {args:=args}=Hd;rw [e]
 rfl
variable {P:Params} {ord:List DictEntry->List DictEntry}
section
variable {cl:HJ->Option Hw}
theorem yL {ok:Hw->Prop}: ∀{s:Hh} {q:List Hl×Hh},layAllW [] cl P ord (xs.map .int) s=H7 q->av prg w ok h (xs.map .int) q.1:=by
 induction xs with
 |nil=>intro s q e;cases e;exact rfl
 |cons x xs ih=>
  intro s q e;obtain⟨a,q,ha,hq,rfl⟩:=layAllW_cons e;obtain rfl:=Hg (show H7 (Kb x s.toks,{s with toks:=s.toks+1})=H7 a from ha)
  exact⟨_,_,rfl,⟨_,rfl⟩,ih hq⟩
theorem zR {s:Hh} {r:List Hl×Hh} (e:layAllW [] cl P ord [.list (xs.map .int)] s=H7 r) (hS:Sys s.heap):av prg w (λ_=>True) r.2.heap [.list (xs.map .int)] r.1:=by obtain⟨a,q,ha,hq,rfl⟩:=layAllW_cons e;obtain⟨p,hp,rfl⟩:=layW_list ha;cases hq;exact⟨_,_,rfl,⟨_,p.1,rfl,trivial,(hS.keep (HK.of (layAllW_keeps _ _ _ hp))).ne (ca _),⟨_,HL _ rfl⟩,yL hp⟩,rfl⟩
theorem CW {s s':IL} (hk:HK s s') (hT: ∀t∈theTabs,∃c,s.IsCode c t.1 #[]/\s.TableAt c t.1 #[]) (hS:Sys s):OldK s s':=by
 have key: ∀b o,s.get? b=H7 o->asItWas s s' b o/\ ∃o',s'.get? b=H7 o':=λb o e=>by
  by_cases hb: ∃t∈theTabs,t.1=b
  ·obtain⟨t,ht,rfl⟩:=hb
   obtain⟨c,_,⟨oc,vs,f1,f2,f3,f4⟩,f5⟩:=hT t ht;rw [f5]at e;cases e;obtain⟨ps,e',_⟩:=((hS.keep hk).tab ht).ok;exact⟨.inr (.inl ⟨⟨c,oc,vs,f1,f2,f3,f4⟩,rfl, #[],ps,rfl,by rw [e',Array.empty_append]⟩),_,e'⟩
  ·haveI e1:vis s b=H7 o:=by rw [kz hb];exact e
   have e2:=hk b o e1;rw [kz hb]at e2;exact⟨.inl e2,_,e2⟩
 exact⟨λb o e=>(key b o e).1,λb o e=>(key b o e).2⟩
end
theorem AH: ∃d Xu,defOf qv "law" =H7 (d,Xu)/\prg.theDef "law" =H7 (d.params,d.body,d.scope)/\kwWritten? d.params.kwonlyargs d.params.kw_defaults=H7 Xu:=by
 haveI h:(defOf qv "law").isSome=Hd:=by kernel_rfl
 obtain⟨x,e⟩:=J7.mp h;refine⟨x.1,x.2,e, ?_, ?_⟩
 ·have:(defOf qv "law").map (λx=>H7 (x.1.params,x.1.body,x.1.scope))=H7 (prg.theDef "law"):=by kernel_rfl
  rw [e]at this;exact(Hg this).symm
 ·have:(defOf qv "law").map (λx=>kwWritten? x.1.params.kwonlyargs x.1.params.kw_defaults)=(defOf qv "law").map (λx=>H7 x.2):=by kernel_rfl
  rw [e]at this;exact Hg this
theorem yh:prg.bare:=⟨rfl,rfl,rfl,rfl,rfl,by decide+kernel⟩
theorem vC:opensWell prg=Hd:=by decide+kernel
theorem j8:JV.row.toRowW.promised:=⟨[.list [.int 1,.int 2]],by decide+kernel,by decide+kernel⟩
theorem zW (X:bk w H): ∀t∈theTabs,∃c,H.IsCode c t.1 #[]/\H.TableAt c t.1 #[]:=by
 obtain⟨o1,fd1,F1⟩:=fnH X (n:= "_int2digits") (i:=5) (k:=9) (a:=69) (j:=7) (Ht (i:=5) rfl);obtain⟨o2,SG,F2⟩:=fnH X (n:= "_digits2int") (i:=6) (k:=10) (a:=76) (j:=8) (Ht (i:=6) rfl);haveI t1:=kZ (sa X) F1;haveI t2:=kZ (r_ X) F2;intro t ht;simp only [theTabs,Hp,HF,or_false]at ht;rcases ht with rfl|rfl
 ·exact⟨_,t1.2⟩
 ·exact⟨_,t2.2⟩
theorem vR {h':IL} (k: ∀b o,h.get? b=H7 o->h'.get? b=H7 o) (x: ∀t∈theTabs,∃c,h.IsCode c t.1 #[]/\h.TableAt c t.1 #[]): ∀t∈theTabs,∃c,h'.IsCode c t.1 #[]/\h'.TableAt c t.1 #[]:=λt ht=>by obtain⟨c,a,⟨o,vs,f1,f2,f3,f4⟩,f5⟩:=x t ht;exact⟨c,a.keeps k,⟨o,vs,k _ _ f1,f2,f3,f4⟩,k _ _ f5⟩
theorem holds_row (Yh:JV.row.wellSaid=Hd):JV.row.Holds:=by
 refine⟨Yh,j8,⟨⟨yh,vC,rfl⟩,j8.witness,λw=>⟨(kh w).1,λs' QV=> ?_⟩⟩⟩;obtain⟨s₀,hf,XS,s,hT,hz,Ub,hg,G,X⟩:=(kh w).2 s' QV;refine⟨s₀,hf,XS,s,hT,λn hn=> ?_,λx hx=>(nomatch hx),λx hx=>(nomatch hx), ?_⟩
 ·obtain rfl:n=("law" :HJ):=Hx.mp hn
  obtain⟨d,Xu,e1,e2,e3⟩:=AH;exact pinned_of_view hg G e1 e2 e3
 ·refine ClaimW.callFrom_of_specG (c:=JV.row.toRowW.claim) hz Ub λargs Yq YA ord VD=> ?_
  obtain⟨hsh,Q7⟩:=pre_splitW (r:=JV.row.toRowW) Yq;obtain⟨xs,rfl⟩:=Bo hsh;have Q7:=De Q7;obtain⟨⟨vs,s₁⟩,RA⟩:=J7.mp (layAllW_isSome (P:=w.params) (ord:=ord) G.has _ _ s hsh);have keeps:=layAllW_keeps _ _ _ RA;have UZ:=layAllW_rest _ _ _ RA;obtain⟨as,Uo,RC,hold⟩:=reads_layAllW VD _ _ _ RA YA s₁.heap (λ_ _ e=>e);have L:Laid [] w s s₁ [.list (xs.map .int)] vs as:=⟨⟨ord,VD,RA⟩,Uo,RC,hold,keeps,UZ.1.trans Ub,UZ.2.2.1⟩;haveI Qm:=zR (w:=w) RA (k_ X);obtain⟨o,fd,F⟩:=fnH X (n:= "law") (i:=101) (k:=37) (a:=266) (j:=32) (Ht (i:=26) rfl);have hk:HK s.heap s₁.heap:=HK.of keeps;have hS:=(k_ X).keep hk;have run:=yO X F (xs:=xs) (by exact H8 Q7 (by decide)) callerA s₁ (λ_=>True) vs ⟨rfl,by decide,by decide⟩ hk (λ_ _=>trivial) hS Qm
  have run:=sB (show fx s₁.gens from λx hx=>by rw [L.gens]at hx;simp at hx) (run.mono λv s₂ h hb=>(⟨h.1,h.2,hb⟩:Ext s₁ s₂/\Rep prg w (λ_=>True) s₂.heap (.bool Hd) v/\fx s₂.gens))
  refine⟨vs,s₁,RA,He (wpAny_nsGet (dD X.top.g (hk _)) ?_)⟩;rw [show s.heap.nsMap IE JV.row.toRowW.name=H7 (.ref 266)from si X (n:= "law") (Ht (i:=32) rfl)];refine He (Jl run (λv s₂ h=>Hi ⟨_,rfl, ?_⟩) λ_ _ h=>h.elim);obtain⟨x,rfl,hb⟩:=h;haveI g:GoodWG JV.row.toRowW.claim (classAt s.heap) (ExcName.means s.heap) [.list (xs.map .int)] s₁ (.ok (.ret (.bool Hd))) s₂:=
   ⟨.inl ⟨_,.bool Hd,[],rfl,λ_=>rfl,.bool Hd,Al _ _,λ_=>⟨Kg,λa ha=>(nomatch ha)⟩⟩,CW x.keep (vR keeps (zW X)) hS,x.os,hb⟩
  have z:=g.laid (c:=JV.row.toRowW.claim) rfl rfl (ident_freeW rfl rfl rfl) L;exact⟨z.1,z.2.1,z.2.2,λq=>nomatch q⟩
theorem GS: ∀{a b:Bool},a=Hd->b=Hd->(a&&b)=Hd:=λh g=>by rw [h,g];rfl
theorem law_said:JV.wellSaid=Hd:=by
 unfold OpenLaw.wellSaid OpenRow.wellSaid OpenRow.partSaid looksOpen;repeat' with_reducible refine GS ?_ ?_
 all_goals decide+kernel
end Internal
open PySem PySem.W PyProof.Rows
theorem PySem.Challenge.cw_uk0023_01_holds : PySem.Challenge.rw_uk0023_01.Holds :=
 holds_law Internal.law_said Internal.holds_row
