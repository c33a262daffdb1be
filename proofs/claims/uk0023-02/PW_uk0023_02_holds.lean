import PyProof.Rows.All
import Wide.All
import OpenK.AllK
import Wide.FinOn
import KE.KNest
import KE.KRevIter
import KE.IntBitsLaws
import KE.BitLaws
import PySem.Sre
import Lean
import PySem.Challenge.RW_uk0023_02
set_option Elab.async false
set_option maxRecDepth 100000
set_option maxHeartbeats 0
set_option linter.all false
set_option maxErrors 1000
set_option genInjectivity false
set_option genSizeOf false
set_option genCtorIdx false
set_option backward.match.sparseCases false
set_option bootstrap.genMatcherCode false
set_option tactic.hygienic false
namespace UK
universe u1 u2 u3 u4 u5 u6 u7 u8
theorem X0_2 {p1 p2:Prop} {G:Prop} (h:p1∧p2) (f:p1→p2→G):G:=f h.1 h.2
theorem X1_1 {a1:Sort u1} {p1:a1→Prop} {G:Prop} (h: ∃x1,p1 x1) (f: ∀x1,p1 x1→G):G:=h.elim fun x1 h=>f x1 h
theorem X0_3 {p1 p2 p3:Prop} {G:Prop} (h:p1∧p2∧p3) (f:p1→p2→p3→G):G:=f h.1 h.2.1 h.2.2
theorem X1_2 {a1:Sort u1} {p1 p2:a1→Prop} {G:Prop} (h: ∃x1,p1 x1∧p2 x1) (f: ∀x1,p1 x1→p2 x1→G):G:=h.elim fun x1 h=>f x1 h.1 h.2
theorem X2_1 {a1:Sort u1} {a2:Sort u2} {p1:a1→a2→Prop} {G:Prop} (h: ∃x1,∃x2,p1 x1 x2) (f: ∀x1 x2,p1 x1 x2→G):G:=h.elim fun x1 h=>h.elim fun x2 h=>f x1 x2 h
theorem X0_4 {p1 p2 p3 p4:Prop} {G:Prop} (h:p1∧p2∧p3∧p4) (f:p1→p2→p3→p4→G):G:=f h.1 h.2.1 h.2.2.1 h.2.2.2
theorem X1_3 {a1:Sort u1} {p1 p2 p3:a1→Prop} {G:Prop} (h: ∃x1,p1 x1∧p2 x1∧p3 x1) (f: ∀x1,p1 x1→p2 x1→p3 x1→G):G:=h.elim fun x1 h=>f x1 h.1 h.2.1 h.2.2
theorem X2_2 {a1:Sort u1} {a2:Sort u2} {p1 p2:a1→a2→Prop} {G:Prop} (h: ∃x1,∃x2,p1 x1 x2∧p2 x1 x2) (f: ∀x1 x2,p1 x1 x2→p2 x1 x2→G):G:=h.elim fun x1 h=>h.elim fun x2 h=>f x1 x2 h.1 h.2
theorem X3_1 {a1:Sort u1} {a2:Sort u2} {a3:Sort u3} {p1:a1→a2→a3→Prop} {G:Prop} (h: ∃x1,∃x2,∃x3,p1 x1 x2 x3) (f: ∀x1 x2 x3,p1 x1 x2 x3→G):G:=h.elim fun x1 h=>h.elim fun x2 h=>h.elim fun x3 h=>f x1 x2 x3 h
theorem X0_5 {p1 p2 p3 p4 p5:Prop} {G:Prop} (h:p1∧p2∧p3∧p4∧p5) (f:p1→p2→p3→p4→p5→G):G:=f h.1 h.2.1 h.2.2.1 h.2.2.2.1 h.2.2.2.2
theorem X1_4 {a1:Sort u1} {p1 p2 p3 p4:a1→Prop} {G:Prop} (h: ∃x1,p1 x1∧p2 x1∧p3 x1∧p4 x1) (f: ∀x1,p1 x1→p2 x1→p3 x1→p4 x1→G):G:=h.elim fun x1 h=>f x1 h.1 h.2.1 h.2.2.1 h.2.2.2
theorem X2_3 {a1:Sort u1} {a2:Sort u2} {p1 p2 p3:a1→a2→Prop} {G:Prop} (h: ∃x1,∃x2,p1 x1 x2∧p2 x1 x2∧p3 x1 x2) (f: ∀x1 x2,p1 x1 x2→p2 x1 x2→p3 x1 x2→G):G:=h.elim fun x1 h=>h.elim fun x2 h=>f x1 x2 h.1 h.2.1 h.2.2
theorem X3_2 {a1:Sort u1} {a2:Sort u2} {a3:Sort u3} {p1 p2:a1→a2→a3→Prop} {G:Prop} (h: ∃x1,∃x2,∃x3,p1 x1 x2 x3∧p2 x1 x2 x3) (f: ∀x1 x2 x3,p1 x1 x2 x3→p2 x1 x2 x3→G):G:=h.elim fun x1 h=>h.elim fun x2 h=>h.elim fun x3 h=>f x1 x2 x3 h.1 h.2
theorem X4_1 {a1:Sort u1} {a2:Sort u2} {a3:Sort u3} {a4:Sort u4} {p1:a1→a2→a3→a4→Prop} {G:Prop} (h: ∃x1,∃x2,∃x3,∃x4,p1 x1 x2 x3 x4) (f: ∀x1 x2 x3 x4,p1 x1 x2 x3 x4→G):G:=h.elim fun x1 h=>h.elim fun x2 h=>h.elim fun x3 h=>h.elim fun x4 h=>f x1 x2 x3 x4 h
theorem X0_6 {p1 p2 p3 p4 p5 p6:Prop} {G:Prop} (h:p1∧p2∧p3∧p4∧p5∧p6) (f:p1→p2→p3→p4→p5→p6→G):G:=f h.1 h.2.1 h.2.2.1 h.2.2.2.1 h.2.2.2.2.1 h.2.2.2.2.2
theorem X1_5 {a1:Sort u1} {p1 p2 p3 p4 p5:a1→Prop} {G:Prop} (h: ∃x1,p1 x1∧p2 x1∧p3 x1∧p4 x1∧p5 x1) (f: ∀x1,p1 x1→p2 x1→p3 x1→p4 x1→p5 x1→G):G:=h.elim fun x1 h=>f x1 h.1 h.2.1 h.2.2.1 h.2.2.2.1 h.2.2.2.2
theorem X2_4 {a1:Sort u1} {a2:Sort u2} {p1 p2 p3 p4:a1→a2→Prop} {G:Prop} (h: ∃x1,∃x2,p1 x1 x2∧p2 x1 x2∧p3 x1 x2∧p4 x1 x2) (f: ∀x1 x2,p1 x1 x2→p2 x1 x2→p3 x1 x2→p4 x1 x2→G):G:=h.elim fun x1 h=>h.elim fun x2 h=>f x1 x2 h.1 h.2.1 h.2.2.1 h.2.2.2
theorem X3_3 {a1:Sort u1} {a2:Sort u2} {a3:Sort u3} {p1 p2 p3:a1→a2→a3→Prop} {G:Prop} (h: ∃x1,∃x2,∃x3,p1 x1 x2 x3∧p2 x1 x2 x3∧p3 x1 x2 x3) (f: ∀x1 x2 x3,p1 x1 x2 x3→p2 x1 x2 x3→p3 x1 x2 x3→G):G:=h.elim fun x1 h=>h.elim fun x2 h=>h.elim fun x3 h=>f x1 x2 x3 h.1 h.2.1 h.2.2
theorem X5_1 {a1:Sort u1} {a2:Sort u2} {a3:Sort u3} {a4:Sort u4} {a5:Sort u5} {p1:a1→a2→a3→a4→a5→Prop} {G:Prop} (h: ∃x1,∃x2,∃x3,∃x4,∃x5,p1 x1 x2 x3 x4 x5) (f: ∀x1 x2 x3 x4 x5,p1 x1 x2 x3 x4 x5→G):G:=h.elim fun x1 h=>h.elim fun x2 h=>h.elim fun x3 h=>h.elim fun x4 h=>h.elim fun x5 h=>f x1 x2 x3 x4 x5 h
theorem X0_7 {p1 p2 p3 p4 p5 p6 p7:Prop} {G:Prop} (h:p1∧p2∧p3∧p4∧p5∧p6∧p7) (f:p1→p2→p3→p4→p5→p6→p7→G):G:=f h.1 h.2.1 h.2.2.1 h.2.2.2.1 h.2.2.2.2.1 h.2.2.2.2.2.1 h.2.2.2.2.2.2
theorem X1_6 {a1:Sort u1} {p1 p2 p3 p4 p5 p6:a1→Prop} {G:Prop} (h: ∃x1,p1 x1∧p2 x1∧p3 x1∧p4 x1∧p5 x1∧p6 x1) (f: ∀x1,p1 x1→p2 x1→p3 x1→p4 x1→p5 x1→p6 x1→G):G:=h.elim fun x1 h=>f x1 h.1 h.2.1 h.2.2.1 h.2.2.2.1 h.2.2.2.2.1 h.2.2.2.2.2
theorem X2_5 {a1:Sort u1} {a2:Sort u2} {p1 p2 p3 p4 p5:a1→a2→Prop} {G:Prop} (h: ∃x1,∃x2,p1 x1 x2∧p2 x1 x2∧p3 x1 x2∧p4 x1 x2∧p5 x1 x2) (f: ∀x1 x2,p1 x1 x2→p2 x1 x2→p3 x1 x2→p4 x1 x2→p5 x1 x2→G):G:=h.elim fun x1 h=>h.elim fun x2 h=>f x1 x2 h.1 h.2.1 h.2.2.1 h.2.2.2.1 h.2.2.2.2
theorem X3_4 {a1:Sort u1} {a2:Sort u2} {a3:Sort u3} {p1 p2 p3 p4:a1→a2→a3→Prop} {G:Prop} (h: ∃x1,∃x2,∃x3,p1 x1 x2 x3∧p2 x1 x2 x3∧p3 x1 x2 x3∧p4 x1 x2 x3) (f: ∀x1 x2 x3,p1 x1 x2 x3→p2 x1 x2 x3→p3 x1 x2 x3→p4 x1 x2 x3→G):G:=h.elim fun x1 h=>h.elim fun x2 h=>h.elim fun x3 h=>f x1 x2 x3 h.1 h.2.1 h.2.2.1 h.2.2.2
theorem X4_3 {a1:Sort u1} {a2:Sort u2} {a3:Sort u3} {a4:Sort u4} {p1 p2 p3:a1→a2→a3→a4→Prop} {G:Prop} (h: ∃x1,∃x2,∃x3,∃x4,p1 x1 x2 x3 x4∧p2 x1 x2 x3 x4∧p3 x1 x2 x3 x4) (f: ∀x1 x2 x3 x4,p1 x1 x2 x3 x4→p2 x1 x2 x3 x4→p3 x1 x2 x3 x4→G):G:=h.elim fun x1 h=>h.elim fun x2 h=>h.elim fun x3 h=>h.elim fun x4 h=>f x1 x2 x3 x4 h.1 h.2.1 h.2.2
theorem X5_2 {a1:Sort u1} {a2:Sort u2} {a3:Sort u3} {a4:Sort u4} {a5:Sort u5} {p1 p2:a1→a2→a3→a4→a5→Prop} {G:Prop} (h: ∃x1,∃x2,∃x3,∃x4,∃x5,p1 x1 x2 x3 x4 x5∧p2 x1 x2 x3 x4 x5) (f: ∀x1 x2 x3 x4 x5,p1 x1 x2 x3 x4 x5→p2 x1 x2 x3 x4 x5→G):G:=h.elim fun x1 h=>h.elim fun x2 h=>h.elim fun x3 h=>h.elim fun x4 h=>h.elim fun x5 h=>f x1 x2 x3 x4 x5 h.1 h.2
theorem X6_1 {a1:Sort u1} {a2:Sort u2} {a3:Sort u3} {a4:Sort u4} {a5:Sort u5} {a6:Sort u6} {p1:a1→a2→a3→a4→a5→a6→Prop} {G:Prop} (h: ∃x1,∃x2,∃x3,∃x4,∃x5,∃x6,p1 x1 x2 x3 x4 x5 x6) (f: ∀x1 x2 x3 x4 x5 x6,p1 x1 x2 x3 x4 x5 x6→G):G:=h.elim fun x1 h=>h.elim fun x2 h=>h.elim fun x3 h=>h.elim fun x4 h=>h.elim fun x5 h=>h.elim fun x6 h=>f x1 x2 x3 x4 x5 x6 h
theorem X0_8 {p1 p2 p3 p4 p5 p6 p7 p8:Prop} {G:Prop} (h:p1∧p2∧p3∧p4∧p5∧p6∧p7∧p8) (f:p1→p2→p3→p4→p5→p6→p7→p8→G):G:=f h.1 h.2.1 h.2.2.1 h.2.2.2.1 h.2.2.2.2.1 h.2.2.2.2.2.1 h.2.2.2.2.2.2.1 h.2.2.2.2.2.2.2
theorem X2_6 {a1:Sort u1} {a2:Sort u2} {p1 p2 p3 p4 p5 p6:a1→a2→Prop} {G:Prop} (h: ∃x1,∃x2,p1 x1 x2∧p2 x1 x2∧p3 x1 x2∧p4 x1 x2∧p5 x1 x2∧p6 x1 x2) (f: ∀x1 x2,p1 x1 x2→p2 x1 x2→p3 x1 x2→p4 x1 x2→p5 x1 x2→p6 x1 x2→G):G:=h.elim fun x1 h=>h.elim fun x2 h=>f x1 x2 h.1 h.2.1 h.2.2.1 h.2.2.2.1 h.2.2.2.2.1 h.2.2.2.2.2
theorem X3_5 {a1:Sort u1} {a2:Sort u2} {a3:Sort u3} {p1 p2 p3 p4 p5:a1→a2→a3→Prop} {G:Prop} (h: ∃x1,∃x2,∃x3,p1 x1 x2 x3∧p2 x1 x2 x3∧p3 x1 x2 x3∧p4 x1 x2 x3∧p5 x1 x2 x3) (f: ∀x1 x2 x3,p1 x1 x2 x3→p2 x1 x2 x3→p3 x1 x2 x3→p4 x1 x2 x3→p5 x1 x2 x3→G):G:=h.elim fun x1 h=>h.elim fun x2 h=>h.elim fun x3 h=>f x1 x2 x3 h.1 h.2.1 h.2.2.1 h.2.2.2.1 h.2.2.2.2
theorem X4_4 {a1:Sort u1} {a2:Sort u2} {a3:Sort u3} {a4:Sort u4} {p1 p2 p3 p4:a1→a2→a3→a4→Prop} {G:Prop} (h: ∃x1,∃x2,∃x3,∃x4,p1 x1 x2 x3 x4∧p2 x1 x2 x3 x4∧p3 x1 x2 x3 x4∧p4 x1 x2 x3 x4) (f: ∀x1 x2 x3 x4,p1 x1 x2 x3 x4→p2 x1 x2 x3 x4→p3 x1 x2 x3 x4→p4 x1 x2 x3 x4→G):G:=h.elim fun x1 h=>h.elim fun x2 h=>h.elim fun x3 h=>h.elim fun x4 h=>f x1 x2 x3 x4 h.1 h.2.1 h.2.2.1 h.2.2.2
theorem X5_3 {a1:Sort u1} {a2:Sort u2} {a3:Sort u3} {a4:Sort u4} {a5:Sort u5} {p1 p2 p3:a1→a2→a3→a4→a5→Prop} {G:Prop} (h: ∃x1,∃x2,∃x3,∃x4,∃x5,p1 x1 x2 x3 x4 x5∧p2 x1 x2 x3 x4 x5∧p3 x1 x2 x3 x4 x5) (f: ∀x1 x2 x3 x4 x5,p1 x1 x2 x3 x4 x5→p2 x1 x2 x3 x4 x5→p3 x1 x2 x3 x4 x5→G):G:=h.elim fun x1 h=>h.elim fun x2 h=>h.elim fun x3 h=>h.elim fun x4 h=>h.elim fun x5 h=>f x1 x2 x3 x4 x5 h.1 h.2.1 h.2.2
theorem X6_2 {a1:Sort u1} {a2:Sort u2} {a3:Sort u3} {a4:Sort u4} {a5:Sort u5} {a6:Sort u6} {p1 p2:a1→a2→a3→a4→a5→a6→Prop} {G:Prop} (h: ∃x1,∃x2,∃x3,∃x4,∃x5,∃x6,p1 x1 x2 x3 x4 x5 x6∧p2 x1 x2 x3 x4 x5 x6) (f: ∀x1 x2 x3 x4 x5 x6,p1 x1 x2 x3 x4 x5 x6→p2 x1 x2 x3 x4 x5 x6→G):G:=h.elim fun x1 h=>h.elim fun x2 h=>h.elim fun x3 h=>h.elim fun x4 h=>h.elim fun x5 h=>h.elim fun x6 h=>f x1 x2 x3 x4 x5 x6 h.1 h.2
end UK
namespace UK
universe u v w1
theorem nosL {α:Prop} {β:Type v} {a:β} (h:none=some a):α:=absurd h.symm (Option.some_ne_none a)
theorem nosR {α:Prop} {β:Type v} {a:β} (h:some a=none):α:=absurd h (Option.some_ne_none a)
theorem nftB {α:Prop} (h:false=true):α:=absurd h Bool.false_ne_true
theorem ntfB {α:Prop} (h:true=false):α:=absurd h.symm Bool.false_ne_true
theorem memN {α:Type w1} {a:α} {p:Prop} (h:a∈[]):p:=(List.not_mem_nil h).elim
theorem someE {β:Type v} {a b:β} {G:Prop} (h:some a=some b) (k:a=b→G):G:=k (Option.some.inj h)
theorem holdE {β:Sort v} {a b:β} {G:Prop} (h:a=b) (k:a=b→G):G:=k h
@[elab_as_elim] theorem rwE {α:Sort w1} {a b:α} {m:α→Prop} (p:m b) (h:a=b):m a:=h▸p
@[elab_as_elim] theorem rwB {α:Sort w1} {a b:α} {m:α→Prop} (p:m a) (h:a=b):m b:=h▸p
end UK
set_option compiler.extract_closed false
set_option compiler.reuse false
namespace UM
open Lean
abbrev S:=Syntax
def u (l:List S):S:= .node .none nullKind l.toArray
def n (k:String) (l:List S):S:= .node .none (.mkStr4 "Lean" "Parser" "Tactic" k) l.toArray
def r (k:String) (l:List S):S:= .node .none (.str (.mkStr4 "Lean" "Parser" "Tactic" "rcasesPat") k) l.toArray
def e (k:String) (l:List S):S:= .node .none (.mkStr4 "Lean" "Parser" "Term" k) l.toArray
def x:S:= .atom .none ""
def o:S:=u []
def lo (p:S):S:=n "rcasesPatLo" [n "rcasesPatMed" [u [p]],o]
def ob (ps e:S):S:=n "obtain" [x,u [n "rcasesPatMed" [u [r "tuple" [x,ps,x]]]],o,u [x,u [e]]]
def rc (h p:S):S:=n "rcases" [x,u [n "elimTarget" [o,h]],u [x,p]]
def ap (f:S) (l:List S):S:=e "app" [f,u l]
def un (f:String):S:=mkIdent (.mkStr2 "UK" f)
def rf (e:S):S:=n "refine" [x,e]
def q:S:=e "syntheticHole" [x,x]
def two (a b:S):S:=u [a,b]
def fst (a b:S):S:=n "first" [x,u [u [x,a],u [x,b]]]
def fn (l:List S) (b:S):S:=e "fun" [x,e "basicFun" [u l,o,x,b]]
def tc (k:String) (t:S):S:=n k [x,t]
def by' (t:S):S:=e "byTactic" [x,t]
def sy (s:String) (n:Nat):S:=mkIdent (.mkSimple (s++n.repr))
def kd (s:S):String:=match s.getKind with| .str _ k=>k|_=> ""
def isP (s:S):Bool:=kd s== "anonymousCtor"
def isH (s:S):Bool:=kd s== "syntheticHole"
def fr {α β:Type} (f:α→β→β) (b:β):List α→β
  |[]=>b
  |a::l=>f a (fr f b l)
def pat (s:S):S:=s.rewriteBottomUp fun s=>
  if s.isIdent then lo (r "one" [s])else if kd s== "hole" then lo (r "ignore" [x])else if isP s then lo (r "tuple" s.getArgs.toList)else s
/--the binders of a fun:the patterns become names;what takes them apart-/
def bs (l:List S):List S×S:=fr (fun b (p:List S×S)=>
  if isP b then let h:=sy "p_" p.1.length;(h::p.1,two (ob (pat b)[0][0][0][1] h) p.2)else(b::p.1,p.2)) ([],o) l
/--the binders and the body of a fun with patterns-/
def pf (s:S):Option (List S×S):=
  let l:=s[1][0].getArgs.toList
  if kd s== "fun" &&kd s[1]== "basicFun" &&l.any isP then some (l,s[1][3])else none
def rp:Nat→S→S×S
  |0,s=>(s,o)
  |k+1,s=>
    let h:=(pf s).getD ([],o)
    if isH h.2 then let p:=bs h.1;(fn p.1 h.2,tc "allGoals" (fst p.2 o))else
    match s with
    | .node i n a=>
      let p:=fr (fun c (p:List S×S)=>let d:=rp k c;(d.1::p.1,if d.2.getNumArgs=0 then p.2 else two d.2 p.2)) ([],o) a.toList
      (.node i n p.1.toArray,p.2)
    |s=>(s,o)
def rw1 (s:S):S:=
  let t:=n "rewriteSeq" [x,n "optConfig" [o],n "rwRuleSeq" [x,u [s],x],o]
  if(s[1].find? fun s=>isH s||kd s== "byTactic" ||isP s).isSome then t else
  let l:=un (if s[0].getNumArgs=0 then "rwE" else "rwB")
  let f (e:S):=tc "withReducible" (rf (ap l [q,e]))
  fst (f s[1]) (fst (f (ap s[1] [e "ellipsis" [x]])) t)
def idP (p:S) (n:Nat):S×S:=
  let q:=p[0][0][0]
  let k:=if p[0][0].getNumArgs==1&&p[1].getNumArgs==0 then kd q else ""
  let h:=sy "q_" n
  if k== "one" then
    if q[0].getId== `rfl then(h,UM.n "subst" [x,u [h]])else(q[0],o)
  else if k== "ignore" then(sy "i_" 0,o)
  else if k== "tuple" then(h,ob q[1] h)
  else(h,rc h p)
/--the lemmas with j things in all-/
def obK (e:S) (is:List S) (s:S) (j:Nat) (t:S):S:=
  fr (fun k t=>if k<j then
    let l:=un ("X" ++k.repr++ "_" ++(j-k).repr)
    fst (if e.isIdent then u [rf (ap l [e,q]),fst (n "clear" [x,u [e]]) o,n "intro" [x,u is],s]
      else two (rf (ap l [e,fn is q])) s) t else t) t [6,5,4,3,2,1,0]
def mF:Macro:=fun s=>
  match pf s with
  |some (l,b)=>if(b.find? isH).isSome then Macro.throwUnsupported else
    let p:=bs l
    pure (fn p.1 (by' (two p.2 (tc "exact" b))))
  |none=>Macro.throwUnsupported
def mR:Macro:=fun s=>
  let p:=rp 999 s[1]
  if p.2.getNumArgs=0 then Macro.throwUnsupported else pure (two (rf p.1) p.2)
def cl (s:S):List S:=fr (fun a l=>if a.isAtom then l else a::l) [] s.getArgs.toList
def mO:Macro:=fun s=>
  let ps:=cl s[1][0][0][0][1]
  let m:=ps.length
  if s[1][0][0].getNumArgs !=1||kd s[1][0][0][0] != "tuple" ||s[2].getNumArgs !=0||s[3].getNumArgs !=2||m<2 then Macro.throwUnsupported else
  let e:=s[3][1][0]
  let p:=fr (fun a (p:List S×List S)=>let c:=idP a (m-1-p.1.length);(c.1::p.1,c.2::p.2)) ([],[]) ps
  pure (fr (fun j t=>if m<j then t else
    if j=m then obK e p.1 (u p.2) j t
    else obK e (p.1.take (j-1)++[sy "r_" 0]) (u (p.2.take (j-1)++[ob (u (fr (fun a l=>a::x::l) [] (ps.drop (j-1)))) (sy "r_" 0)])) j t)
    (rc e (lo (r "tuple" [x,s[1][0][0][0][1],x]))) [8,7,6,5,4,3,2])
def mW:Macro:=fun s=>
  if s[3].getNumArgs !=0 then Macro.throwUnsupported else
  pure (fr (fun r t=>two (rw1 r) t) (fst (tc "withReducible" (n "tacticRfl" [x])) o) (cl s[2][1]))
def mC:Macro:=fun s=>
  let h:=s[1][0][1]
  if !h.isIdent||s[1].getNumArgs !=1||s[1][0][0].getNumArgs !=0||s[2].getNumArgs !=0||s[3].getNumArgs !=0 then Macro.throwUnsupported else
  let t:=n "cases" [x,u [n "elimTarget" [o,e "explicit" [x,h]]],o,o]
  let f l t:=fst (rf (ap (un l) [h])) t
  let g l t:=fst (two (rf (ap (un l) [h,fn [h] q])) t)
  pure (f "nosL" (f "nosR" (f "nftB" (f "ntfB" (f "memN" (g "someE" t (g "holdE" t t)))))))
def mS:Macro:=fun s=>pure (rf (e "typeAscription" [e "hygienicLParen" [x,.node .none hygieneInfoKind #[mkIdent .anonymous]],q,x,u [s[1]],x]))
def mN:Macro:=fun s=>if s[1].getNumArgs !=1 then Macro.throwUnsupported else
  pure (by' (n "cases" [x,u [n "elimTarget" [o,s[1][0]]],o,o]))
end UM
local macro_rules (kind:=Lean.Parser.Term.fun)
  |s=>UM.mF s
local macro_rules (kind:=Lean.Parser.Tactic.refine)
  |s=>UM.mR s
local macro_rules (kind:=Lean.Parser.Tactic.obtain)
  |s=>UM.mO s
local macro_rules (kind:=Lean.Parser.Tactic.rwSeq)
  |s=>UM.mW s
local macro_rules (kind:=Lean.Parser.Tactic.cases)
  |s=>UM.mC s
local macro_rules (kind:=Lean.Parser.Tactic.show)
  |s=>UM.mS s
local macro_rules (kind:=Lean.Parser.Term.nomatch)
  |s=>UM.mN s
open Option renaming some→Fv,none→Fw,bind_eq_some_iff→FQ,map_eq_some_iff→Gk,isSome_iff_exists→Ho,bind_eq_bind→Hp,bind_some→HS,map→Kj,bind_assoc→LH,map_some→M1,bind→Nd
open Nat renaming le_trans→Fx,lt_of_lt_of_le→Fy,lt_of_le_of_lt→FF,le_refl→FH,le_of_eq→FI,add_le_add→FM,lt_irrefl→FV,le_add_right→FZ,add_right_comm→Gh,le_add_right_of_le→Gi,le_of_lt→Gm,succ_le_succ→Gw,lt_succ_self→Gx,add_sub_of_le→Gz,le_of_add_right_le→GF,ne_of_lt→GK,two_pow_pos→GM,add_assoc→GN,mul_le_mul_left→GS,lt_succ_of_le→GW,add_comm→GX,mul_le_mul→GZ,add_le_add_left→G_,mul_le_mul_right→H2,le_of_lt_succ→H4,le_add_left→H5,mul_comm→H9,le_of_not_lt→Hc,zero_le→Hk,not_le_of_lt→Hq,pow_le_pow_right→HH,zero_add→HJ,lt_trans→HL,div_lt_iff_lt_mul→HO,add_le_add_right→HV,le_of_succ_le_succ→HZ,le_antisymm→Io,not_lt_of_le→Ix,sub_add_cancel→IC,le_of_ble_eq_true→IJ,sub_lt_left_of_lt_add→IL,mul_succ→IP,lt_succ_of_lt→IQ,lt_add_right→I_,add_sub_cancel_left→I',pow_add→J4,mod_lt→J6,lt_or_ge→J7,sub_eq_zero_of_le→Je,add_mul→Jl,lt_of_not_le→Js,add_lt_add_left→Jx,min_eq_left→JE,div_add_mod→JF,not_lt→JK,succ_pos→JT,succ_mul→JU,mul_assoc→K6,le_succ→Ka,min_le_left→Kd,pow_succ→Kl,mul_lt_mul_of_pos_right→Km,mod_two_eq_zero_or_one→Ks,lt_of_le_of_ne→Kt,sub_pos_of_lt→KC,one_mul→KD,min_le_right→KV,sub_self→La,sub_le→Lb,ne_of_gt→Lc,min_self→Ld,lt_add_left→Lh,div_lt_of_lt_mul→Lu,add_lt_add_right→Lv,sub_lt_sub_left→LC,add_sub_cancel→LM,succ_add→LW,le_of_succ_le→LX,succ_ne_self→Md,two_mul→Mm,mul_add_div→MC,succ→MS,testBit_mul_two_pow→Nf,pow_zero→Nt,div_div_eq_div_mul→Nu,add_zero→Nv,le_of_add_left_le→NE,le_add_left_of_le→NF,sub_le_of_le_add→NM,mul_one→NN,le_sub_of_add_le→NO,eq_of_testBit_eq→NP,add_le_of_le_sub→NQ,add_left_cancel→NX,pos_of_ne_zero→Ob,lt_of_lt_of_eq→Oc
open Bool renaming false→Fz,true→FE,false_eq_true→Gy,and_eq_true_iff→GG,and_eq_true→GH,false_ne_true→HT,or_eq_true→JD,not_eq_true'→JS,or_eq_true_iff→LB,eq_iff_iff→Mr
open PySem.Builtin.Int renaming intBits→FC
open List renaming length_map→FD,length_append→FP,mem_cons→FS,mem_cons_self→FT,mem_cons_of_mem→FU,mem_of_getElem?→FX,length_cons→FY,mem_singleton→G4,mem_map→Ga,replicate→Gc,getElem?_eq_getElem→Ge,map_cons→Gf,forall_mem_cons→Gg,map_map→Gl,size_toArray→Gn,getElem?_map→Gp,append_assoc→Gq,mem_map_of_mem→Gs,mem_nil_iff→Gu,map_append→Gv,all_eq_true→GD,length_nil→GJ,range'→GL,mem_filter→GR,cons_append→GV,mem_append→GY,take_of_length_le→H1,nodup_cons→H3,length_range'→H6,length_singleton→H8,nil_append→Hb,append_nil→Hg,lookup_cons→Hh,drop_of_length_le→Hl,length_reverse→Hr,mem_singleton_self→HA,not_mem_nil→HU,nodup_nil→HX,map_congr_left→H_,filterMap_cons→I0,drop_eq_getElem_cons→I4,take_append_drop→I5,length_filter_le→I6,contains_iff_mem→I7,getElem_mem→I9,nodup_append→Ij,filter_cons_of_pos→Ik,filter_cons_of_neg→Il,length_drop→Iu,drop_drop→Iy,getElem?_toArray→ID,flatten_cons→IN,filter_sublist→IU,length_take→IW,getElem?_set_self'→IX,getD→IY,take_append_of_le_length→J1,length→J2,eq_nil_of_length_eq_zero→J3,length_set→J9,length_replicate→Jc,getElem?_eq_none→Jd,map_inj_left→Jf,drop_zero→Ji,range'_succ→Jo,foldlM_cons→Jp,forIn_cons→JC,pairwise_cons→JG,contains_cons→JH,take_succ_eq_append_getElem→JP,map_nil→JQ,flatMap_cons→JR,mem_of_mem_drop→K7,replicate_succ→Ke,flatten_append→Kf,range→Kq,getElem?_eq_some_iff→Kw,map_take→KF,map_fst_zip→KN,getElem?_set_self→L0,filter_map→Le,getElem?_reverse→Li,mem_of_mem_take→Lp,getElem_of_mem→LA,map_drop→LD,any_cons→LF,zip_cons_cons→LI,mem_range'_1→LO,map_id'→LP,filter_congr→LQ,mem_reverse→M2,map_reverse→M3,isEmpty_iff→M4,drop_append→M5,drop_append_of_le_length→Me,of_mem_zip→Mn,length_zip→Mo,find?_cons→Mp,take_length_add_append→MF,forIn_nil→MI,getElem?_zip_eq_some→MT,getElem_of_getElem?→N3,all_cons→N4,length_eq_zero_iff→N9,drop_eq_nil_of_le→Ng,singleton_append→Nw,drop_eq_nil_iff→NG,contains_eq_mem→NH,filter_eq_self→NR,mem_replicate→NY,getElem_idxOf→NZ,getElem?_drop→N_
open Option.some renaming inj→FG,injEq→N0
open PySem renaming wpAny_bind→FJ,wpAny_pure→FK,Shared→FL,model→FN,Value→FR,sizeLine→F_,Addr→Gb,Str→Gj,wpAny_execs_cons→GT,cellsFrom→H7,mainGlobals→He,sysModules→Hf,Stmt→Hs,Heap→Ht,wpAny_of_eq→Hx,wpAny_mono→Hy,eval→Hz,Around→HB,intBits_le_iff→HD,Program→HE,NameKind→HF,intKind→HI,standAt→HM,assignEach→HQ,World→HR,Pos→HW,letOwnedTupleGo→I8,intBits_mul_le→Ic,wpAny→Ig,swappedStores→Ih,seg_execs_nil→Ii,seg_execs_cons→Im,strValues→Ip,assign→Iq,execs→Iv,callEnvC→Iw,callEnv→IA,wpAny_holding→IG,Sem→IH,Fin→IK,wpAny_newObj_type→IS,wpAny_Call_method_lateS→J5,FuncData→J8,interactive→Jb,wpAny_standAt→Jh,call→Jj,foldedSetIterable→Jn,starEach→Jv,builtinsNs→Jw,IntMulOk→Jy,holding→JA,compareOp→JB,swapsWithSole→JM,comprehension→JN,Operator→JO,evalThenUse→JZ,mainNs→K3,Flow→K4,exec→K8,builtinLookup_eq_fast→Kb,exec_Return_some→Kc,Arguments→Kg,Comprehension→Kk,GenState→Kn,assignStores→Kz,seqIndex?→KA,pushCells→KB,call_meets→KI,bindName→KJ,sizeLine_eq→KW,Scope→KY,pyNext→L7,behindInMarks→L8,assignInOrder→L9,Env→Lk,intBits_neg_le→Lm,wpAny_rule→Lq,qualnameIn→Lr,closureFor→Ls,typeLookup_type→Lx,leftWithCleanup→Ly,importedModules→Lz,unsupported→LJ,pyIter→LL,Builtin→LV,table→M0,typeLookup→M6,typeIs_str→M7,strKind_is→M9,rawInt→Ma,denote→Mb,Result→Mc,wpAny_pyIter_list→Ms,wpAny_dictEntries→Mt,valueAt→Mu,spliced→Mw,evalArgs→Mx,binaryOp→Mz,Model→MD,swapsWith→MK,stored→ML,noteFrame→MN,fillsInplaceSlot→MO,backTo→MP,assignAll→MQ,Tok→MR,wpAny_fresh→M_,Obj→N1,wpAny_specialOf→N6,theTreesLotGoes→N7,intBits_fdiv_le→Nc,wpAny_call→Ni,letTemporaryGo→Nj,intKind_is→Nk,constantsAlone→Nl,callWith→Nn,cLine→No,bindArgs→Np,intBits_add_le→Nr,CmpOp→NC,Seg→ND,eval→NK,seg_again→NU,TriplesOk→NV,mergeMapping→O5,getItem→O6,firstIterPos→O7,finish→O8,WalksT→Oa,JoinOk→Od
open Int renaming natCast_nonneg→Gd,toNat_natCast→GC,natCast_add→Hd,fdiv_eq_ediv_of_nonneg→Hi,fmod_nonneg_of_pos→Hn,eq_ofNat_of_zero_le→HC,le_of_lt→I3,lt_of_le_of_lt→Ib,ofNat_lt→It,fmod_lt_of_pos→IE,fmod_eq_emod_of_nonneg→IF,le_trans→IR,toNat_of_nonneg→IZ,not_lt_of_ge→J0,one_mul→Jm,natCast_pow→JI,natCast_mul→JJ,ofNat_le→JW,add_sub_cancel→Ku,neg_mul→KG,add_comm→Lg,sub_zero→LY,add_zero→LZ,not_le_of_gt→Mf,lt_of_not_ge→Mg,add_mul→Mq,not_lt→MU,le_add_of_nonneg_right→MV,add_nonneg→MW,mul_assoc→Na,zero_mul→Nx,zero_add→Ny,mul_comm→Nz,ediv_eq_zero_of_lt→NA,add_mul_ediv_right→NB,natAbs_of_nonneg→NS,mul_one→NT
open PySem.Str renaming ofString→Go,length→IB
open PySem.Heap renaming get?_push_size→Gt,size_push→GP,get?_push_of_some→Hm,lt_size→Hv,SameBut→Hw,get?_update_self→K0,get?_some_iff→Kr,ExtBut→Mh
open PySem.NameKind renaming free→GU,cell→JV
open Eq renaming symm→Ha,trans→N5
open PySem.W renaming behindTheImports→Hj,tabObj→M8,opening→O4,CodeHd→Oe
open Inhabited renaming default→Hu
open PySem.Sre renaming Seen→HG,forSearch→K5,Frame→Kp,M→KO
open PySem.Builtin renaming divisionGoesByPylong→HN,bitXor→Mi,bitAnd→Mj
open PySem.Builtin.Str renaming strSliceIndices→HP,occurrences→Ia,tooLong→Jg,strKind→J',partsBetween→L_
open PySem.Obj renaming mapSeq→HY,data_mapDictKeys→NL,isFreed_of_dict→NW
open PySem.W.Fast renaming tw12563942051412417395→Ie,tw17772580674575903948→KP,tw17154629097778926822→KQ,tw14364793385576792824→KR,tw12822647523644345616→KS,te14364793385576792824→KT,te12563942051412417395→KU,tw1435165496053646825→KZ,tw1066825118222455980→K_
open PySem.Sem renaming wp_bind'→Ir,wp→Jk,wp_mono→JL
open PySem.Challenge renaming rw_uk0023_02→Iz
open Nat.succ renaming inj→II
open PySem.Txt renaming lstripChars→IM,lower→Jr,join→K9
open PySem.Value renaming int→IT,str→Kh,ref→Ki,isInt→Nq
open Array renaming eq_empty_of_size_eq_zero→IV,getElem?_eq_getElem→Jq,length_toList→Jt,extract_empty_of_stop_le_start→Ju,getElem?_eq_some_iff→Ko,toList_append→Lw,getElem?_eq_none→Nb,getElem?_toList→Nh,getElem_mem→O3,toList_inj→Of
open List.Sublist renaming map→Ja
open PySem.Heap.DictOf renaming mapOf→Jz,new→Ky
open PySem.Heap.SameBut renaming update→JX,refl→MX
open PySem.End renaming bare_of_quiet→JY
open Ne renaming symm→J_
open ForInStep renaming yield→K1
open Exists renaming elim→K2
open PySem.Sre.M renaming attemptFrom→Kv
open PySem.IntMulOk renaming of_left→Kx,of_le→O1
open Except renaming ok→KH
open PySem.F renaming slot_list_iadd→KL,slot_list_reverse→Ml,slot_dict_update→MA,plainAttrs_dict→MH,slot_int_rmul→M'
open PySem.StrLaws renaming strSliceIndices_plain→KM,found_one→LN
open PySem.Shared renaming asleep_of_life→KX
open List.Pairwise renaming map→Lf,nil→MJ
open List.cons renaming inj→Lj
open PySem.Builtin.Re renaming reDrive→Ll,reRunToEnd→MG,reRawNat→MZ
open PySem.Stmt renaming Assign→Lo
open PySem.Calls renaming spliced_nil→LK,spliced_cons→Mv,callWith_function→My,docDef→O9
open PySem.Builtin.Range renaming rangeSize→LR
open PySem.Builtin.List renaming listTooLong→LU
open PUnit renaming unit→MB
open LawfulMonad renaming pure_bind→MM
open PyProof.Rows renaming Call_Name→MY
open Prod.mk renaming inj→N8
open Lean renaming maxHeartbeats→NI
open PySem.Walks renaming list→NJ
open Int.ofNat renaming inj→O2
namespace UK
variable {f s m:Nat}
theorem Dt (h1:f<=s) (h2:s<=m):min f m+min (s-f) (m-f)+(m-s)=m:=by rw [JE (Fx h1 h2),JE (Nat.sub_le_sub_right h2 f),Gz h1,Gz h2]
variable {a b c d h:Nat}
theorem aRe:a+c+b+h+d=a+b+d+(c+h):=by rw [Gh a c b,GN (a+b) c h,Gh (a+b) (c+h) d]
variable {r:Nat}
theorem Ex (h1:f<=s) (h2:s<r+1) (h3:c<=5) (h4:h<=5):min f (r+1)+c+min (s-f) (r+1-f)+h+(r+1-s)<=r+11:=
 Fx (FI aRe) (show _<=r+1+(5+5)from FM (FI (Dt h1 (Gm h2))) (FM h3 h4))
theorem Fp (h1:f<=s) (h2:s<r+1):min f (r+1)+(0+1)+min (s-f) (r+1-f)+(0+1)+(r+1-s)=r+3:=
 aRe.trans (congrArg (λn=>n+2) (Dt h1 (Gm h2)))
theorem Fd (h1:1<=f) (h2:1<=m):1<=min f m+a+b+c+d:=Gi (Gi (Gi (Gi (Nat.le_min.mpr ⟨h1,h2⟩))))
variable {n e:Nat}
theorem Ds (h:n-d<f+1) (h1:d<=s) (h2:s<e) (h3:e<=n):n-e<f:=Fy (LC (FF h1 (Fy h2 h3)) (FF h1 h2)) (H4 h)
theorem wd (h:s<b):b-s=b-(s+1)+1:=(IC (KC h)).symm.trans (congrArg (λn=>n+1) (Nat.sub_sub b s 1))
theorem Fm:n-m+min m n=n:=by
 cases Nat.le_total m n with
 |inl h=>rw [JE h,IC h]
 |inr h=>rw [Nat.min_eq_right h,Je h,HJ]
variable {v:Int}
theorem aIv (h:(s:Int)=f+v) (h0:0<=v) (h1:v<n-f):f<=s/\s<n:=
 ⟨JW.mp (h▸MV h0),It.mp (h▸(Int.add_lt_of_lt_sub_left h1))⟩
theorem Ew (h0:0<n) (e:n+n % 2=2*h):2*h-1=n-1+n % 2:=by rw [<-e,Nat.sub_add_comm h0]
theorem Fe (h1:a+1<=n+4000) (h2:n-1<b+1): ¬b/30+1+150<a/30+1:=λh=>by
 have h3:n<=b+1:=Nat.le_add_of_sub_le (H4 h2);have h4:a<=b+4000:=HZ (Fx h1 (Fx (HV h3 4000) (FI (Gh b 1 4000))));have h5:a/30<=(b+4500)/30:=Nat.div_le_div_right (Fx h4 (G_ (by decide) b))
 rw [show b+4500=b+30*150 from rfl,Nat.add_mul_div_left b 150 (by decide)]at h5
 exact Ix (Gw h5) (show b/30+150+1<a/30+1 from Gh (b/30) 150 1▸h)
variable {q:Nat}
theorem Fq (h0:0<n) (e:q+r=b+n-1) (h:r<n):b<=q:=
 H4 (Nat.lt_of_add_lt_add_right (n:=n-1) (by
  have:b+(n-1)<q+1+(n-1):=by rw [<-Nat.add_sub_assoc h0,<-e,GN q 1 (n-1),Gz h0];exact Jx h q
  exact this))
theorem Ey {o:Nat} (h:r+1=17):o+1+(0+n+16)/17=o+(r+(n+1)+16)/17:=by rw [<-GN r n 1,Gh r n 1,h,GN 17 n 16,GX 17,Nat.add_div_right _ (by decide),HJ,GN o,GX 1]
theorem Fj {a:Int} (h:a<0):(-a-1).natAbs<=a.natAbs:=by
 cases a with
 |ofNat n=>exact absurd h (J0 (Gd n))
 |negSucc n=>
  rw [Int.neg_negSucc];show(((n:Nat):Int)+1-1).natAbs<=_;rw [Ku];exact Ka n
variable {L y t:Nat}
theorem Es {z:Nat} (h:t=L+y):L+y+(L+y+z-t)=L+(y+z):=by rw [h,I',GN]
variable {A:Nat}
theorem Dq (h: ¬m<=A):m=A+(1+(m-A-1)):=by have h:=Js h;rw [Gz (KC h),Gz (Gm h)]
variable {x:Nat}
theorem Et (h:L+y<=x):min L x+y+(x-(L+y))=x:=by rw [JE (Fx (FZ _ _) h),Gz h]
variable {w:Nat}
theorem Fn:(L+(L+w))/2=L+w/2:=by rw [<-GN,<-Mm,MC (by decide)]
theorem Fs (h0:0<h):h-1+h=2*h-1:=by rw [Mm,Nat.sub_add_comm h0]
variable {p:Nat}
theorem aLt {Q:Nat} (h:r<p) (h2:Q+1*p<=b):Q+r<b:=Fy (Jx h Q) (KD p▸h2)
theorem Fo {Q r p b:Int} (h:r<p) (h2:Q+p<=b):Q+r<b:=Int.lt_of_lt_of_le (Int.add_lt_add_left h Q) h2
theorem aPw (h:x<2^n):(x:Int)<2^n:=by
 have h:=It.mpr h
 rwa [JI]at h
theorem Dp (h:(x:Int)<2^n):x<2^n:=It.mp (by rw [JI];exact h)
theorem aNp {d:Int} (h0:0<=d) (h:d.natAbs<2^n):d<2^n:=NS h0▸aPw h
theorem aPn {d:Int} (h0:0<=d) (h:d<2^n):d.natAbs<2^n:=Dp (by rw [NS h0];exact h)
theorem Er (h:a+d<950):a<1000:=FF (FZ _ _) (HL h (by decide))
variable {u:Nat}
theorem Eu (h:e<=d) (k:u+10*d+60<9900):u+10*e+60<9900:=FF (HV (G_ (GS 10 h) _) 60) k
theorem aIn (k:u+10*(d+1)+60<9900):u+1+10*d+60<9900:=FF (HV (by rw [GN u 1];exact G_ (Fx (FI (GX 1 _)) (G_ (by decide) _)) u) 60) k
theorem Fi (h:p<2):p=0∨p=1:=(by decide: ∀p<2,p=0∨p=1) p h
theorem Fh (h:p<3):p=0∨p=1∨p=2:=(by decide: ∀p<3,p=0∨p=1∨p=2) p h
theorem Ff (h:p<5):p=0∨p=1∨p=2∨p=3∨p=4:=(by decide: ∀p<5,p=0∨p=1∨p=2∨p=3∨p=4) p h
theorem aS5 (h:n<=3*(a-b)+5):n<=3*a+5:=Fx h (HV (GS 3 (Lb _ _)) 5)
variable {i l:Nat}
theorem Fc (h:x-i=l+1):i<x:=Nat.lt_of_sub_pos (by rw [h];exact JT _)
theorem Do (h:i<=x) (e:x-i=0):i=x:=Io h (Nat.le_of_sub_eq_zero e)
theorem aTn {a b:Int} (h:a<b):b-a=((b-a).toNat:Int):=(IZ (Int.sub_nonneg_of_le (I3 h))).symm
theorem Fb {a b:Int} (h: ¬a<b):0=((b-a).toNat:Int):=by rw [Int.toNat_of_nonpos (Int.sub_nonpos_of_le (MU.mp h))];rfl
theorem aMd (h:v=m) (k:v<n):m<n:=It.mp (h▸k)
theorem Fl (h: ¬(b:Int)>a):(a:Int)=((max a b:Nat):Int):=congrArg _ (Nat.max_eq_left (JW.mp (MU.mp h))).symm
theorem Fk (h:(b:Int)>a):(b:Int)=((max a b:Nat):Int):=congrArg _ (Nat.max_eq_right (Gm (It.mp h))).symm
theorem aW2 (h:0<w) (k: ¬w=1):0<w/2:=Nat.div_pos (Kt h λe=>k e.symm) (by decide)
theorem aW3 (h:0<w):0<w-w/2:=KC (Nat.div_lt_self h (by decide))
theorem aPz (h:0<n):(0:Int)<n:=It.mpr h
theorem aZp (h:(0:Int)<n):0<n:=It.mp h
theorem Dr (h:a<2^62): -2^63<=(a:Int)/\(a:Int)<2^63:=⟨IR (by decide) (Gd a),Int.lt_trans (aPw h) (by decide)⟩
theorem Bg (h:m<=1000000): -1000000<=(m:Int)/\(m:Int)<=1000000:=⟨IR (by decide) (Gd m),JW.mpr h⟩
theorem tT (h:m<=1000000) (k:n<=1000000): -1000000<=(m:Int)/\(m:Int)<=1000000/\ -1000000<=(n:Int)/\(n:Int)<=1000000:=⟨(Bg h).1,(Bg h).2,Bg k⟩
theorem A_ {n:Int} (h:n<=1000000):1*n.toNat<=1000000:=by rw [KD];exact Int.toNat_le.mpr h
theorem aC1 (h:c<=2*(x-e)+1) (h1:b<e) (h2:e<=x):0+1+c<=2*(x-b)+1:=by rw [HJ,GX 1];exact Fx (Gw h) (Nat.le_succ_of_le (GS 2 (Nat.succ_le_of_lt (LC (Fy h1 h2) h1))))
theorem aC2 (h:c<=2*(x-e)+1) (h1:b<e) (h2:e<=x) (h3:s<b):0+1+1+c<=2*(x-s)+1:=by rw [HJ,GX (1+1)];exact Gw (Fx (Gw h) (GS 2 (Nat.succ_le_of_lt (LC (Fy (HL h3 h1) h2) (HL h3 h1)))))
theorem aKl (h0:0<n) (h:i<=m):i+n-1<=m+(n-1):=by rw [Nat.add_sub_assoc h0];exact HV h _
theorem aRg {k:Nat} (h:1<=k/\k<1+(n-1)):1<=k/\k<n:=by
 cases n with
 |zero=>exact absurd (H4 h.2) (Hq h.1)
 |succ n=>exact⟨h.1,GX 1 n▸h.2⟩
theorem aPl (h:x-a=l+(c+1+1)):a+l+2<=x:=by rw [GN,GX];exact NQ (Gm (Nat.lt_of_sub_pos (by rw [h];exact JT _))) (by rw [h];exact G_ (H5 2 c) l)
theorem aD2 {R:Nat} (e1:A+s=a) (e2:A=b*q*p+R):a=q*p*b+(R+s):=by rw [<-e1,e2,GN,H9 b q,Nat.mul_right_comm]
theorem aCs (h:0<n):(i:Int)+n-1=((i+n-1:Nat):Int):=(Int.ofNat_sub (Fx h (H5 n i))).symm
theorem aSz (h2:c-1<s):c<=s:=by
 cases c with
 |zero=>exact Hk _
 |succ n=>exact h2
theorem aNo (h:s<=t) (k: ¬s=t): ¬(s>t∨t-s<1):=λq=>q.elim (Ix h) λq=>Lc (KC (Kt h k)) (Nat.lt_one_iff.mp q)
theorem aZ (h:b<=n) (h1:a<=b) (e:b-a=n):a=0:=
 Nat.eq_zero_of_le_zero (Nat.le_of_add_le_add_right (b:=n) (by rw [HJ,<-e,Gz h1,e];exact h))
theorem aSg (h:m<2):(1:Int)-2*m=1∨(1:Int)-2*m= -1:=(by decide: ∀m<2,(1:Int)-2*(m:Nat)=1∨(1:Int)-2*(m:Nat)= -1) m h
theorem aDv:n+n % 2=2*((n+n % 2)/2):=by
 have h:(n+n % 2) % 2=0:=by rw [Nat.add_mod,Nat.mod_mod];cases Ks n with|inl e=>rw [e]|inr e=>rw [e]
 exact(Nat.mul_div_cancel' (Nat.dvd_of_mod_eq_zero h)).symm
end UK
namespace UK
open PySem
variable {M:MD} {Γ:Ctx} {p:HW} {s s':FL}
set_option tactic.hygienic true in
theorem runs_size {t:IH IK} {fs:List Frame} {e:End} (h:Runs M Γ p t fs s e s'):s.heap.objs.size<=s'.heap.objs.size:=by
 induction h<;>first
  |exact FH _
  |assumption
  |exact Fx (by assumption) (by assumption)
  |(simp only [Shared.setGen]at*;lia)
  |(rename_i ih;simp only [Heap.size_update]at ih;exact ih)
  |(rename_i ih;rw [show∀(h:Ht) o,(h.push o).objs.size=h.objs.size+1 from λ_ _=>GP ..]at ih;exact GF ih)
theorem sb {g:Nat} {r:Resume} {Qy:GenResult} (h:Wakes M Γ p g r s Qy s'):s.heap.objs.size<=s'.heap.objs.size:=by
 unfold Wakes at h;split at h
 ·exact h.elim
 ·split at h
  ·obtain⟨_,_,hr,_,_,rfl⟩:=h;exact(runs_size hr:)
  ·rw [h.2];exact FH _
  ·rw [h.2];exact FH _
 ·obtain⟨_,_,hr,_,_,rfl⟩:=h;exact(runs_size hr:)
 ·rw [h.2];exact FH _
 ·rw [h.2];exact FH _
variable {α:Type}
theorem yT (M:MD) (Γ:Ctx) (n:Nat) (t:IH α): ∀(Q:α->HW->FL->Prop) (E:FR->HW->FL->Prop) (p:HW) (s:FL),n<=s.heap.objs.size->Jk M Γ t Q E p s->
  Jk M Γ t (λa p' s'=>n<=s'.heap.objs.size/\Q a p' s') (λe p' s'=>n<=s'.heap.objs.size/\E e p' s') p s:=by
 induction t with
 |pure a=>intro Q E p s hn h;exact⟨hn,h⟩
 |raise e=>intro Q E p s hn h;exact⟨hn,h⟩
 |unsupported _=>intro Q E p s _ h;exact h
 |finish _=>intro Q E p s _ h;exact h
 |rule _ k ih=>intro Q E p s hn h;exact ih () Q E p s hn h
 | «at» p' k ih=>intro Q E p s hn h;exact ih () Q E p' s hn h
 |load a _ k ih=>intro Q E p s hn ⟨o,ho,h⟩;exact⟨o,ho,ih o Q E p s hn h⟩
 |update a _ f k ih=>intro Q E p s hn h;exact⟨h.1,ih () Q E p _ (by show n<=(s.heap.update a f).objs.size;rw [Heap.size_update];exact hn) h.2⟩
 |loadIfAlive a k ih=>intro Q E p s hn h;exact ih _ Q E p s hn h
 |point _ k ih=>intro Q E p s hn h;exact ih () Q E p s hn h
 |register _ _=>intro Q E p s _ h;exact h
 |alloc o k ih=>intro Q E p s hn h;exact ih _ Q E p _ (by show n<=(s.heap.push o).objs.size;rw [GP];exact Gi hn) h
 |fresh k ih=>intro Q E p s hn h;exact ih _ Q E p _ hn h
 |ask k ih=>intro Q E p s hn h;exact ih _ Q E p s hn h
 |choose src m k ih=>intro Q E p s hn h;exact⟨h.1,ih _ Q E p _ hn h.2⟩
 |os q _ k ih=>intro Q E p s hn h;exact ih _ Q E p _ hn h
 |call c hd _ _ k ih=>intro Q E p s hn ⟨r,s',hr,h⟩;exact⟨r,s',hr,ih r Q E p s' (Fx hn (runs_size hr)) h⟩
 |handled own k ih=>intro Q E p s hn h;exact ih _ Q E p s hn h
 |genState g k ih=>intro Q E p s hn ⟨st,hs,h⟩;exact⟨st,hs,ih _ Q E p s hn h⟩
 |newGen c k ih=>intro Q E p s hn h;exact ih _ Q E p _ hn h
 |resume g r _ k ih=>intro Q E p s hn ⟨Qy,s',hw,h⟩;exact⟨Qy,s',hw,ih Qy Q E p s' (Fx hn (sb hw)) h⟩
 |yield _ _ _ _=>intro Q E p s _ h;exact h
 |stack k ih=>intro Q E p s hn h;exact ih _ Q E p s hn h
 |fork _ _=>intro Q E p s _ h;exact h
 |thread k ih=>intro Q E p s hn h;exact ih _ Q E p s hn h
 |await _ _ _ _ _=>intro Q E p s _ h;exact h
theorem r_ {A:HB} {t:IH α} {Q:α->FL->Prop} {E:FR->FL->Prop} (h:Ig M A t (λa s'=>s.heap.objs.size<=s'.heap.objs.size->Q a s') E s):Ig M A t Q E s:=
 Hy (λΓ p hΓ=>yT M Γ s.heap.objs.size t _ _ p s (FH _) (h Γ p hΓ):Ig M A t (λa s'=>s.heap.objs.size<=s'.heap.objs.size/\(s.heap.objs.size<=s'.heap.objs.size->Q a s')) (λe s'=>s.heap.objs.size<=s'.heap.objs.size/\E e s') s) (λ_ _ x=>x.2 x.1) (λ_ _ x=>x.2)
end UK
namespace UK
open PySem PySem.W PySem.Calls PyProof.Rows
noncomputable def theTabs:List (Gb×HW×Gj):=[(75,⟨83,4,92,28⟩,"_int2digits.<locals>.inner"),(82,⟨98,4,103,55⟩,"_digits2int.<locals>.inner")]
noncomputable def dFi:Data->Option (Array FR)
 | .fields vs=>Fv vs
 |_=>Fw
theorem oM {d:Data} {vs:Array FR} (h:dFi d=Fv vs):d= .fields vs:=by
 cases d with
 |fields=>exact congrArg Data.fields (FG h)
 |_=>exact nomatch h
noncomputable def fR (o:N1):Bool:=decide (o.cls= .none)&&(dFi o.data).isSome
def aK (o:N1):Prop:= ∀vs,o.data= .fields vs->o.cls≠ .none/\ ∀q t,vs[1]? ≠Fv (.str q t)
variable {o:N1}
theorem na (h: ∀vs,o.data= .fields vs->o.cls≠ .none):fR o=Fz:=Bool.eq_false_iff.mpr λq=>by obtain⟨a,b⟩:=GG.mp q;obtain⟨vs,e⟩:=Ho.mp b;exact h vs (oM e) (of_decide_eq_true a)
theorem aK.tab (h:aK o):fR o=Fz:=na λvs e=>(h vs e).1
def ej (h:Ht) (cd:FR) (q:Gj):Prop:= ∃c o vs t,cd= .ref c/\h.get? c=Fv o/\o.cls≠ .none/\o.data= .fields vs/\vs[1]? =Fv (.str q t)
structure i8 (h:Ht) (P:Gb) (pos:HW) (q:Gj):Prop where
 ok: ∃ps,h.get? P=Fv (M8 ps)/\NV ps.toList/\(codeAmong pos ps.toList=Fw∨ ∃c,codeAmong pos ps.toList=Fv (.ref c)/\ej h (.ref c) q)
noncomputable def cQ:N1:={cls:= .builtin "tab",data:= .plain}
open Classical in
noncomputable def vis (h:Ht) (b:Gb):Option N1:=
 match h.get? b with
 |none=>Fw
 |some o=>if∃t∈theTabs,t.1=b then(if fR o=FE then(if∀t∈theTabs,t.1=b->i8 h b t.2.1 t.2.2 then Fv cQ else Fw)else if o=cQ then Fw else Fv o)else Fv o
variable {h:Ht} {b:Gb}
theorem jg (e:h.get? b=Fv o) (n:fR o=Fz) (m:o≠cQ):vis h b=Fv o:=by unfold vis;rw [e];simp [n,m]
set_option tactic.hygienic true in
theorem o4 (e:vis h b=Fv o) (n:o≠cQ):h.get? b=Fv o:=by
 unfold vis at e;split at e
 ·cases e
 ·rename_i o' e'
  split at e
  ·split at e
   ·split at e
    ·cases e;exact absurd rfl n
    ·cases e
   ·split at e
    ·cases e
    ·cases e;exact e'
  ·cases e;exact e'
theorem kl (n: ¬ ∃t∈theTabs,t.1=b):vis h b=h.get? b:=by
 unfold vis;cases h.get? b with
 |none=>rfl
 |some o=>exact if_neg n
set_option tactic.hygienic true in
theorem yW (e:vis h b=Fv cQ): ∀t∈theTabs,t.1=b->i8 h b t.2.1 t.2.2:=by
 intro t ht hb;unfold vis at e;split at e
 ·cases e
 ·rw [if_pos ⟨t,ht,hb⟩]at e
  split at e
  ·split at e
   ·rename_i hc;exact hc t ht hb
   ·cases e
  ·split at e
   ·cases e
   ·rename_i hn;cases e;exact absurd rfl hn
theorem og (h1: ∃t∈theTabs,t.1=b) (h2: ∀t∈theTabs,t.1=b->i8 h b t.2.1 t.2.2):vis h b=Fv cQ:=by haveI Wn:=h1;obtain⟨t,ht,hb⟩:=h1;obtain⟨ps,e,_⟩:=(h2 t ht hb).ok;unfold vis;rw [e];simp only;rw [if_pos Wn,if_pos (show fR (M8 ps)=FE from rfl),if_pos h2]
theorem w_ (e:vis h b=Fv o): ∃o',h.get? b=Fv o':=by
 unfold vis at e;split at e
 ·cases e
 ·exact⟨_,by assumption⟩
theorem aq (e:vis h b=Fv o):b<h.objs.size:=by obtain⟨_,e⟩:=w_ e;exact Hv e
theorem wh (e:h.objs.size<=b):vis h b=Fw:=by
 cases q:vis h b with
 |none=>rfl
 |some o=>exact absurd (aq q) (JK.mpr e)
variable {h':Ht} {pos:HW} {q:Gj}
theorem i8.step {P:Gb} (x:i8 h P pos q) (k1: ∀o,h.get? P=Fv o->h'.get? P=Fv o) (k2: ∀c o vs t,h.get? c=Fv o->o.data= .fields vs->vs[1]? =Fv (.str q t)->h'.get? c=Fv o):i8 h' P pos q:=by obtain⟨ps,e,ht,hc⟩:=x.ok;refine⟨ps,k1 _ e,ht,hc.imp id ?_⟩;rintro⟨c,hc,c',o,vs,t,e1,e2,e5,e3,e4⟩;exact⟨c,hc,c',o,vs,t,e1,k2 _ _ _ _ e2 e3 e4,e5,e3,e4⟩
set_option tactic.hygienic true in
theorem eH {W:Gb->Prop} (hk: ∀b o,¬W b->h.get? b=Fv o->h'.get? b=Fv o) (hp: ∀b o,W b->h.get? b=Fv o->aK o) (hb: ¬W b) (e:vis h b=Fv o):vis h' b=Fv o:=by
 unfold vis at e;split at e
 ·cases e
 ·rename_i o' e'
  have e2:=hk b o' hb e';split at e
  ·rename_i PU
   split at e
   ·rename_i ht
    split at e
    ·rename_i hc
     cases e;exact og PU λt h1 h2=>(hc t h1 h2).step (λo e=>hk b o hb e) λc o vs u e1 e2 e3=>hk c o (λq=>(hp c o q e1 vs e2).2 _ _ e3) e1
    ·cases e
   ·rename_i ht
    split at e
    ·cases e
    ·rename_i hm
     cases e;exact jg e2 (by simpa using ht) hm
  ·rename_i PU
   cases e;rw [kl PU,e2]
theorem e9 (hk: ∀b o,h.get? b=Fv o->h'.get? b=Fv o) (e:vis h b=Fv o):vis h' b=Fv o:=
 eH (W:=λ_=>False) (λb o _ e=>hk b o e) (λ_ _ h=>h.elim) (λh=>h) e
theorem x0 {o':N1} (e:vis h b=Fv o):vis (h.push o') b=Fv o:=e9 (λ_ _ e=>Hm _ e) e
variable {a:Gb}
theorem az (hs:Hw a h h') (hp: ∀o,h.get? a=Fv o->aK o) (hb:b≠a) (e:vis h b=Fv o):vis h' b=Fv o:=
 eH (W:=λb=>b=a) (λb o n e=>(hs.2 b n).trans e) (λb o q e=>hp o (q▸e)) hb e
theorem u0 (hs:Mh a h h') (hp: ∀o,h.get? a=Fv o->aK o) (hb:b≠a) (e:vis h b=Fv o):vis h' b=Fv o:=
 eH (W:=λb=>b=a) (λb o n e=>hs b o n e) (λb o q e=>hp o (q▸e)) hb e
theorem dZ (h: ∀vs,o.data≠ .fields vs):aK o:=λvs e=>absurd e (h vs)
theorem hJ {vs n} (h:o.data= .seq vs n):aK o:=dZ λvs e=>by rw [h]at e;cases e
theorem iw {es n} (h:o.data= .dict es n):aK o:=dZ λvs e=>by rw [h]at e;cases e
theorem lX {v} (h:o.data= .cell v):aK o:=dZ λvs e=>by rw [h]at e;cases e
theorem sK {v} (h:o.data= .func v):aK o:=dZ λvs e=>by rw [h]at e;cases e
def ct (o:N1):Prop:=aK o/\o≠cQ
theorem dJ {vs n} (h:o.data= .seq vs n):ct o:=⟨hJ h,λq=>by rw [q]at h;cases h⟩
theorem dU {es n} (h:o.data= .dict es n):ct o:=⟨iw h,λq=>by rw [q]at h;cases h⟩
theorem mZ {v} (h:o.data= .cell v):ct o:=⟨lX h,λq=>by rw [q]at h;cases h⟩
theorem cx {v} (h:o.data= .func v):ct o:=⟨sK h,λq=>by rw [q]at h;cases h⟩
theorem fq {vs:Array FR} (h:o.data= .fields vs) (hc:o.cls≠ .none) (h1: ∀q t,vs[1]? ≠Fv (.str q t)):ct o:=
 ⟨λus e=>by rw [h]at e;cases e;exact⟨hc,h1⟩,λq=>by rw [q]at h;cases h⟩
theorem xM {es n t} (h:o.data= .set es n t):ct o:=⟨dZ (λvs e=>by rw [h]at e;cases e),λq=>by rw [q]at h;cases h⟩
theorem dt {vs:Array FR} (k: ∀o,vis h a=Fv o->vis h' a=Fv o) (e:h.get? a=Fv o) (hd:o.data= .fields vs) (hc:o.cls≠ .none):h'.get? a=Fv o:=
 haveI n:fR o=Fz:=na λ_ _=>hc;have m:o≠cQ:=λq=>by rw [q]at hd;cases hd
 o4 (k _ (jg e n m)) m
theorem ct.keep (n:ct o) (k: ∀o,vis h a=Fv o->vis h' a=Fv o) (e:h.get? a=Fv o):h'.get? a=Fv o:=o4 (k _ (jg e n.1.tab n.2)) n.2
theorem ct.vis (n:ct o) (e:h.get? a=Fv o):vis h a=Fv o:=jg e n.1.tab n.2
inductive PV where
 |none
 |bool (b:Bool)
 |int (i:Int)
 |str (s:Gj)
 |list (xs:List PV)
 |tuple (xs:List PV)
 |dictS (ks:List Gj) (vs:List PV)
 |range (a b:Int)
 deriving Inhabited
abbrev HK (h h':Ht):Prop:= ∀b o,vis h b=Fv o->vis h' b=Fv o
theorem HK.refl (h:Ht):HK h h:=λ_ _ e=>e
theorem HK.trans {a b c:Ht} (x:HK a b) (y:HK b c):HK a c:=λd o e=>y d o (x d o e)
theorem HK.none (k:HK h h') (e:vis h' a= .none):vis h a= .none:=by
 cases q:vis h a with
 |none=>rfl
 |some o=>rw [k a o q]at e;cases e
theorem HK.push (h:Ht) (o:N1):HK h (h.push o):=λ_ _ e=>x0 e
theorem HK.of (k: ∀b o,h.get? b=Fv o->h'.get? b=Fv o):HK h h':=λ_ _ e=>e9 k e
def IsL (h:Ht) (a:Gb) (vs:List FR):Prop:=h.IsList a vs.toArray
def IsT (h:Ht) (a:Gb) (vs:List FR):Prop:=h.IsTuple a vs.toArray
def rB (prog:HE) (w:HR) (h:Ht) (a:Gb) (ks:List Gj) (vs:List FR):Prop:=ks.length=vs.length/\h.DictOf (strKind prog w) a (ks.zip vs)
mutual
noncomputable def Rep (prog:HE) (w:HR) (ok:Gb->Prop) (h:Ht):PV->FR->Prop
 | .none,v=>v= .none
 | .bool b,v=>v= .bool b
 | .int i,v=> ∃t,v= .int i t
 | .str s,v=> ∃t,v= .str s t
 | .list xs,v=> ∃a vs,v= .ref a/\ok a/\(a==Hf)=Fz/\IsL h a vs/\av prog w ok h xs vs
 | .tuple xs,v=> ∃a vs,v= .ref a/\ok a/\(a==Hf)=Fz/\IsT h a vs/\av prog w ok h xs vs
 | .dictS ks us,v=> ∃a vs,v= .ref a/\ok a/\(a==Hf)=Fz/\rB prog w h a ks vs/\av prog w ok h us vs
 | .range a b,v=> ∃r t u c,v= .ref r/\ok r/\(r==Hf)=Fz/\h.get? r=Fv {cls:= .type "range",dict:=Fw,data:= .fields #[.int a t,.int b u,.int 1 c],slots:= #[]}
noncomputable def av (prog:HE) (w:HR) (ok:Gb->Prop) (h:Ht):List PV->List FR->Prop
 |[],vs=>vs=[]
 |x::xs,vs=> ∃v r,vs=v::r/\Rep prog w ok h x v/\av prog w ok h xs r
end
theorem IsL.mono {a vs} (x:IsL h a vs) (k: ∀o,vis h a=Fv o->vis h' a=Fv o):IsL h' a vs:=by obtain⟨o,e,c,n,d⟩:=x;exact⟨o,(dJ d).keep k e,c,n,d⟩
theorem IsT.mono {a vs} (x:IsT h a vs) (k: ∀o,vis h a=Fv o->vis h' a=Fv o):IsT h' a vs:=by obtain⟨o,e,c,n,d⟩:=x;exact⟨o,(dJ d).keep k e,c,n,d⟩
theorem rB.mono {prog w} {a ks vs} (x:rB prog w h a ks vs) (k: ∀o,vis h a=Fv o->vis h' a=Fv o):rB prog w h' a ks vs:=by obtain⟨l,o,es,ep,e,c,d,r⟩:=x;exact⟨l,o,es,ep,(dU d).keep k e,c,d,r⟩
theorem IsL.has {a vs} (x:IsL h a vs): ∃o,vis h a=Fv o:=by obtain⟨o,e,_,_,d⟩:=x;exact⟨o,(dJ d).vis e⟩
theorem IsT.has {a vs} (x:IsT h a vs): ∃o,vis h a=Fv o:=by obtain⟨o,e,_,_,d⟩:=x;exact⟨o,(dJ d).vis e⟩
theorem rB.has {prog w} {a ks vs} (x:rB prog w h a ks vs): ∃o,vis h a=Fv o:=by obtain⟨_,o,_,_,e,_,d,_⟩:=x;exact⟨o,(dU d).vis e⟩
variable {prog:HE} {w:HR} {ok ok':Gb->Prop} {t u:MR}
section
theorem l_ {a b:Int} {c:MR}:ct {cls:= .type "range",dict:=Fw,data:= .fields #[.int a t,.int b u,.int 1 c],slots:= #[]}:=fq rfl (λh=>by cases h) λq t=>by simp
mutual
theorem Rep.mono (ho: ∀a,ok a->(∃o,vis h a=Fv o)->ok' a) (hk: ∀a,ok a-> ∀o,vis h a=Fv o->vis h' a=Fv o): ∀{x:PV} {v:FR},Rep prog w ok h x v->Rep prog w ok' h' x v
 | .none,_,q=>q
 | .bool _,_,q=>q
 | .int _,_,q=>q
 | .str _,_,q=>q
 | .list _,_,q=>by obtain⟨a,vs,e,o,s,l,r⟩:=q;exact⟨a,vs,e,ho a o l.has,s,l.mono (hk a o),av.mono ho hk r⟩
 | .tuple _,_,q=>by obtain⟨a,vs,e,o,s,l,r⟩:=q;exact⟨a,vs,e,ho a o l.has,s,l.mono (hk a o),av.mono ho hk r⟩
 | .dictS _ _,_,q=>by obtain⟨a,vs,e,o,s,l,r⟩:=q;exact⟨a,vs,e,ho a o l.has,s,l.mono (hk a o),av.mono ho hk r⟩
 | .range _ _,_,q=>by obtain⟨r,t,u,c,e,o,s,l⟩:=q;exact⟨r,t,u,c,e,ho r o ⟨_,(l_).vis l⟩,s,(l_).keep (hk r o) l⟩
theorem av.mono (ho: ∀a,ok a->(∃o,vis h a=Fv o)->ok' a) (hk: ∀a,ok a-> ∀o,vis h a=Fv o->vis h' a=Fv o): ∀{xs:List PV} {vs:List FR},av prog w ok h xs vs->av prog w ok' h' xs vs
 |[],_,q=>q
 |_::_,_,q=>by obtain⟨v,r,e,q,t⟩:=q;exact⟨v,r,e,Rep.mono ho hk q,av.mono ho hk t⟩
end
variable {v:FR}
theorem Rep.keep {x:PV} (q:Rep prog w ok h x v) (k:HK h h'):Rep prog w ok h' x v:=Rep.mono (λ_ o _=>o) (λ_ _ _ e=>k _ _ e) q
variable {xs:List PV} {vs:List FR}
theorem av.keep (q:av prog w ok h xs vs) (k:HK h h'):av prog w ok h' xs vs:=av.mono (λ_ o _=>o) (λ_ _ _ e=>k _ _ e) q
theorem Rep.wide {x:PV} (q:Rep prog w ok h x v) (k: ∀a,ok a->ok' a):Rep prog w ok' h x v:=Rep.mono (λ_ o _=>k _ o) (λ_ _ _ e=>e) q
theorem av.length: ∀{xs:List PV} {vs:List FR},av prog w ok h xs vs->vs.length=xs.length
 |[],_,q=>by rw [show _=_ from q];rfl
 |_::_,_,⟨_,_,e,_,t⟩=>by subst e;simp [av.length t]
theorem av.get: ∀{xs:List PV} {vs:List FR} (_:av prog w ok h xs vs) {i:Nat} {x:PV},xs[i]? =Fv x-> ∃v,vs[i]? =Fv v/\Rep prog w ok h x v
 |[],_,_,_,_,e=>by simp at e
 |_::_,_,⟨v,r,e,q,t⟩,0,x,e'=>by subst e;simp at e';subst e';exact⟨v,rfl,q⟩
 |_::_,_,⟨v,r,e,q,t⟩,i+1,x,e'=>by subst e;simp at e';exact t.get e'
theorem av.append: ∀{xs ys:List PV} {vs us:List FR},av prog w ok h xs vs->av prog w ok h ys us->av prog w ok h (xs++ys) (vs++us)
 |[],_,_,_,q,r=>by rw [show _=_ from q];exact r
 |_::_,_,_,_,⟨v,r,e,q,t⟩,r'=>by subst e;exact⟨v,_,rfl,q,t.append r'⟩
theorem av.snoc {x:PV} (q:av prog w ok h xs vs) (r:Rep prog w ok h x v):av prog w ok h (xs++[x]) (vs++[v]):=q.append ⟨v,[],rfl,r,rfl⟩
variable {α:Type}
theorem av.map_of (f:α->PV) (g:α->FR) (SR: ∀a,Rep prog w ok h (f a) (g a)): ∀l:List α,av prog w ok h (l.map f) (l.map g)
 |[]=>rfl
 |a::l=>⟨g a,l.map g,rfl,SR a,av.map_of f g SR l⟩
end
structure Ext (s s':FL):Prop where
 keep:HK s.heap s'.heap
 size:s.heap.objs.size<=s'.heap.objs.size
 gens: ∀(i:Nat) (g:Kn),s.gens[i]? =Fv g->s'.gens[i]? =Fv g
 os:s'.os=s.os
theorem Ext.refl (s:FL):Ext s s:=⟨HK.refl _,FH _,λ_ _ e=>e,rfl⟩
theorem Ext.trans {a b c:FL} (x:Ext a b) (y:Ext b c):Ext a c:=⟨x.keep.trans y.keep,Fx x.size y.size,λi g e=>y.gens i g (x.gens i g e),y.os.trans x.os⟩
theorem Ext.toks (s:FL) (n:Nat):Ext s {s with toks:=n}:=⟨HK.refl _,FH _,λ_ _ e=>e,rfl⟩
theorem Ext.pushed (s:FL) (o:N1) (n:Nat):Ext s {s with heap:=s.heap.push o,toks:=n}:=⟨HK.push _ _,by show _<=(s.heap.push o).objs.size;rw [GP];exact FZ _ _,λ_ _ e=>e,rfl⟩
abbrev ce (ok:Gb->Prop) (h:Ht):Prop:= ∀a,h.objs.size<=a->ok a
theorem ce.keep (f:ce ok h) (k:h.objs.size<=h'.objs.size):ce ok h':=λa e=>f a (Fx k e)
theorem bH (e:h.objs.size<=a):vis h a=Fw:=wh e
def Sys (h:Ht):Prop:=(∃o,vis h Hf=Fv o)/\ ∀t∈theTabs,vis h t.1=Fv cQ
theorem Sys.keep (f:Sys h) (k:HK h h'):Sys h':=by obtain⟨⟨o,e⟩,g⟩:=f;exact⟨⟨o,k _ _ e⟩,λt ht=>k _ _ (g t ht)⟩
theorem Sys.tab (f:Sys h) {t:Gb×HW×Gj} (ht:t∈theTabs):i8 h t.1 t.2.1 t.2.2:=yW (f.2 t ht) t ht rfl
theorem cW (h:Ht):vis h h.objs.size=Fw:=wh (FH _)
theorem Sys.ne (f:Sys h) (e:vis h a=Fw):(a==Hf)=Fz:=by refine beq_eq_false_iff_ne.mpr λq=> ?_;obtain⟨⟨o,e'⟩,_⟩:=f;rw [q,e']at e;cases e
abbrev WP {α:Type} (M:MD) (A:HB) (t:IH α) (Q:α->FL->Prop) (s:FL):Prop:=Ig M A t Q (λ_ _=>False) s
variable {β:Type} {A:HB} {s:FL} {Q:FR->FL->Prop}
section
variable {M:MD}
theorem WP.mono {t:IH α} {Q Q':α->FL->Prop} (h:WP M A t Q s) (hQ: ∀a s',Q a s'->Q' a s'):WP M A t Q' s:=Hy h hQ λ_ _ e=>e
theorem WP.bind {m:IH α} {f:α->IH β} {Q:β->FL->Prop} (h:WP M A m (λa s'=>WP M A (f a) Q s') s):WP M A (m>>=f) Q s:=FJ h
theorem uQ {t:IH α} {Q:α->FL->Prop} {E:FR->FL->Prop} (h: ∀(K:α->FL->Prop) (E:FR->FL->Prop),(∀v s,Q v s->K v s)->Ig M A t K E s):Ig M A t Q E s:=h Q E λ_ _ q=>q
theorem WP.gen {t:IH α} {Q:α->FL->Prop} (h: ∀K:α->FL->Prop,(∀v s,Q v s->K v s)->WP M A t K s):WP M A t Q s:=h Q λ_ _ q=>q
theorem WP.then {m:IH α} {f:α->IH β} {Q₁:α->FL->Prop} {Q:β->FL->Prop} (h:WP M A m Q₁ s) (k: ∀a s',Q₁ a s'->WP M A (f a) Q s'):WP M A (m>>=f) Q s:=FJ (h.mono k)
theorem WP.size {t:IH α} {Q:α->FL->Prop} (h:WP M A t (λa s'=>s.heap.objs.size<=s'.heap.objs.size->Q a s') s):WP M A t Q s:=r_ h
theorem WP.at {f:Unit->IH β} {Q:β->FL->Prop} (h:WP M A (f ()) Q s):WP M A (HM pos>>=f) Q s:=FJ (Jh h)
theorem WP.hold {m:IH α} {Q:α->FL->Prop} (h:WP M A m Q s):WP M A (JA vs m) Q s:=IG h
theorem WP.keepM {m:IH α} {Q:α->FL->Prop} (h:WP M A m Q s):WP M A (m.keep vs) Q s:=λΓ p hΓ=>by rw [Sem.wp_keep];exact h Γ p hΓ
theorem WP.oper {m:IH FR} (h:WP M A m Q s):WP M A (operate vs m) Q s:=wpAny_operate' h
theorem WP.rel {keep:List FR} {Q:Unit->FL->Prop} (h:Q () s):WP M A (release vs keep) Q s:=wpAny_release' h
theorem WP.eq {t t':IH α} {Q:α->FL->Prop} (e:t=t') (h:WP M A t' Q s):WP M A t Q s:=e▸h
end
variable {m:Gj->Option FR}
theorem dH (n:h.Ns a m) (k: ∀o,vis h a=Fv o->vis h' a=Fv o):h'.Ns a m:=by obtain⟨o,es,ep,e,d,r⟩:=n;exact⟨o,es,ep,(dU d).keep k e,d,r⟩
theorem aN {v:Option FR} (n:h.IsCell a v) (k: ∀o,vis h a=Fv o->vis h' a=Fv o):h'.IsCell a v:=by obtain⟨o,e,d⟩:=n;exact⟨o,(mZ d).keep k e,d⟩
theorem nM (n:h.Ns a m): ∃o,vis h a=Fv o:=by obtain⟨o,_,_,e,d,_⟩:=n;exact⟨o,(dU d).vis e⟩
theorem lL {v:Option FR} (n:h.IsCell a v): ∃o,vis h a=Fv o:=by obtain⟨o,e,d⟩:=n;exact⟨o,(mZ d).vis e⟩
theorem lH (n:h.Ns a m): ∀o,h.get? a=Fv o->aK o:=λo e=>by obtain⟨o',_,_,e',d,_⟩:=n;rw [e]at e';cases e';exact iw d
theorem tE {v:Option FR} (n:h.IsCell a v): ∀o,h.get? a=Fv o->aK o:=λo e=>by obtain⟨o',e',d⟩:=n;rw [e]at e';cases e';exact lX d
theorem nb (n:IsL h a vs): ∀o,h.get? a=Fv o->aK o:=λo e=>by obtain⟨o',e',_,_,d⟩:=n;rw [e]at e';cases e';exact hJ d
variable {items:Array FR}
theorem zw (n:h.PlainList a items) (k: ∀o,vis h a=Fv o->vis h' a=Fv o):h'.PlainList a items:=by obtain⟨n,e⟩:=n;exact⟨n,(dJ rfl).keep k e⟩
theorem BJ (n:h.PlainList a items): ∃o,vis h a=Fv o:=by obtain⟨_,e⟩:=n;exact⟨_,(dJ rfl).vis e⟩
theorem iU (n:h.PlainList a items): ∀o,h.get? a=Fv o->aK o:=λo e=>by obtain⟨_,e'⟩:=n;rw [e]at e';cases e';exact hJ rfl
theorem CP (n:h.get? a=Fw): ∀o,h.get? a=Fv o->aK o:=λo e=>by rw [n]at e;cases e
theorem j_: ∀o,h.get? h.objs.size=Fv o->aK o:=λo e=>absurd (Hv e) (FV _)
theorem EB (n:h.objs.size<=a): ∀o,h.get? a=Fv o->aK o:=λo e=>absurd (Hv e) (JK.mpr n)
section
variable {K:Type} [DecidableEq K] {knd:PySem.KeyKind prog w K}
theorem r6 {OM:List (K×FR)} (d:h.DictOf knd a OM) (k: ∀o,vis h a=Fv o->vis h' a=Fv o):h'.DictOf knd a OM:=by obtain⟨o,es,ep,e,c,d,r⟩:=d;exact⟨o,es,ep,(dU d).keep k e,c,d,r⟩
theorem gc {OM:List (K×FR)} (d:h.DictOf knd a OM): ∀o,h.get? a=Fv o->aK o:=λo e=>by obtain⟨_,_,_,e',_,d,_⟩:=d;rw [e]at e';cases e';exact iw d
end
variable {cd:FR}
theorem ej.rec (x:ej h cd q):h.CodeRec cd q:=by obtain⟨c,o,vs,t,e,g,_,d,r⟩:=x;exact⟨c,o,vs,t,e,g,d,r⟩
theorem ej.keep (x:ej h cd q) (k:HK h h'):ej h' cd q:=by obtain⟨c,o,vs,t,e,g,n,d,r⟩:=x;exact⟨c,o,vs,t,e,dt (k c) g d n,n,d,r⟩
theorem cX (x:h.NoLimit) (k:HK h h'):h'.NoLimit:=by obtain⟨mc,n,r⟩:=x;exact⟨mc,dH n (k _),r⟩
variable {γ:Type}
section
variable {δ:Type} {P:γ->Prop} {Q:Prop} {r:γ}
noncomputable def grd (c:Bool) (x:Option γ):Option γ:=if c then x else Fw
noncomputable def ob2 (f:α->β->γ) (x:Option α) (y:Option β):Option γ:=x.bind λa=>y.map (f a)
noncomputable def ob3 (f:α->β->δ->γ) (x:Option α) (y:Option β) (z:Option δ):Option γ:=x.bind λa=>ob2 (f a) y z
@[elab_as_elim] theorem aM {f:α->γ} {x:Option α} (h:x.map f=Fv r) (k: ∀a,x=Fv a->P (f a)):P r:=by
 cases x with
 |none=>cases h
 |some a=>cases h;exact k a rfl
theorem ac {f:α->Option γ} {x:Option α} (h:x.bind f=Fv r) (k: ∀a,x=Fv a->f a=Fv r->Q):Q:=by
 cases x with
 |none=>cases h
 |some a=>exact k a rfl h
theorem cF {c:Bool} {x:Option γ} (h:grd c x=Fv r) (k:c=FE->x=Fv r->Q):Q:=by
 cases c with
 |false=>cases h
 |true=>exact k rfl h
@[elab_as_elim] theorem cE {f:α->β->γ} {x:Option α} {y:Option β} (h:ob2 f x y=Fv r) (k: ∀a b,x=Fv a->y=Fv b->P (f a b)):P r:=
 ac h λa ha h=>aM (P:=P) h λb hb=>k a b ha hb
@[elab_as_elim] theorem iN {f:α->β->δ->γ} {x:Option α} {y:Option β} {z:Option δ} (h:ob3 f x y z=Fv r) (k: ∀a b c,x=Fv a->y=Fv b->z=Fv c->P (f a b c)):P r:=
 ac h λa ha h=>cE (P:=P) h λb c hb hc=>k a b c ha hb hc
end
theorem d0 {c:Prop} [Decidable c] {x y:Option α} {r:α} {Q:Prop} (h:(if c then x else y)=Fv r) (k1:c->x=Fv r->Q) (k2: ¬c->y=Fv r->Q):Q:=by
 by_cases hc:c
 ·rw [if_pos hc]at h;exact k1 hc h
 ·rw [if_neg hc]at h;exact k2 hc h
theorem aD {x:Option α} {f:α->Option β} {a:α} {r:β} (h:x=Fv a) (k:f a=Fv r):x.bind f=Fv r:=by subst h;exact k
theorem a9 {a:α} {Q:Prop} (h:Fw=Fv a):Q:=nomatch h
theorem cT {a b:Bool} {Q:Prop} (h:(a&&b)=FE) (k:a=FE->b=FE->Q):Q:=k (GG.mp h).1 (GG.mp h).2
theorem fI {x:Option α} {y:Option β} {f:α->Option β} {r:β} {Q:Prop} (h:x.elim y f=Fv r) (k1: ∀a,x=Fv a->f a=Fv r->Q) (k2:x=Fw->y=Fv r->Q):Q:=by
 cases x with
 |none=>exact k2 rfl h
 |some a=>exact k1 a rfl h
set_option genCtorIdx true in
inductive BI where
 |len|ord|chr|max|sum|sorted|divmod
 deriving DecidableEq
set_option genCtorIdx true in
inductive ME where
 |count|join|split|lstrip|lower|bitlen
 deriving DecidableEq
set_option genCtorIdx true in
inductive PT where
 |one (x:Nat)
 |many (xs:List Nat)
mutual
inductive PE where
 |cI (i:Int)|cS (s:Gj)|cB (b:Bool)|cN
 |var (x:Nat)
 |glo (k:Nat)
 |bin (op:JO) (l r:PE)
 |neg (e:PE)|inv (e:PE)|not (e:PE)
 |cmp (op:NC) (l r:PE)
 |boolop (QX:Bool) (es:List PE)
 |ife (c a b:PE)
 |list (es:List PE)|tup (es:List PE)|dic1 (k:Gj) (v:PE)
 |comp1 (Ov:List Nat) (t:PT) (it:PI) (ifs:List PE) (OI:PE)
 |comp2 (Ov:List Nat) (t:PT) (it:PI) (ifs:List PE) (t2:PT) (Qz:PI) (Pt:List PE) (OI:PE)
 |dcomp (Ov:List Nat) (t:PT) (it:PI) (ifs:List PE) (k v:PE)
 |idx (e i:PE)
 |slice (e lo hi st:PE)
 |call (f:Nat) (args:List PE)
 |bi (k:BI) (args:List PE)
 |meth (k:ME) (o:PE) (args:List PE)
 |listOf (e:PE)
 |rng (args:List PE)
inductive PI where
 |ex (e:PE)
 |rev (e:PE)
 |zip (a b:PE)
 |gen (f:Nat) (args:List PE)
end
noncomputable abbrev Ρ:=List (Option PV)
noncomputable def Ρ.get (ρ:Ρ) (x:Nat):Option PV:=(ρ[x]?).join
noncomputable def gm {α:Type}:List α->Option α
 |x::xs=>match xs with
  |[]=>Fv x
  |_=>Fw
 |_=>Fw
theorem cr {l:List α} {p:α} (h:gm l=Fv p):l=[p]:=by
 cases l with
 |nil=>exact a9 h
 |cons a l=>
  cases l with
  |nil=>cases h;rfl
  |cons=>exact a9 h
noncomputable def a_:Ρ->List Nat->List PV->Option Ρ
 |ρ,[],vs=>(match vs with
  |[]=>Fv ρ
  |_=>Fw)
 |ρ,x::xs,vs=>match vs with
  |v::vs=>a_ (ρ.set x (Fv v)) xs vs
  |_=>Fw
noncomputable def oT {γ:Type} (f:List PV->Option γ):PV->Option γ
 | .tuple x=>f x
 |_=>Fw
noncomputable def aB:Ρ->List Nat->Ρ
 |ρ,[]=>ρ
 |ρ,x::xs=>aB (ρ.set x Fw) xs
noncomputable def ptIdx:PT->List Nat
 | .one x=>[x]
 | .many xs=>xs
noncomputable def k_ (pt:PT) (ρ:Ρ):Bool:=(ptIdx pt).all λi=>(ρ.get i).isNone
noncomputable def aT (ρ:Ρ):PT->PV->Option Ρ
 | .one x,v=>Fv (ρ.set x (Fv v))
 | .many xs,v=>oT (a_ ρ xs) v
noncomputable def gu (s:Gj):List Gj:=s.cps.toList.map λc=>⟨#[c]⟩
noncomputable def eS (f:PV->PV->Option Bool):List PV->List PV->Option Bool
 |[],ys=>(match ys with
  |[]=>Fv FE
  |_=>Fw)
 |x::xs,ys=>match ys with
  |y::ys=>(f x y).bind λa=>(eS f xs ys).bind λb=>Fv (a&&b)
  |_=>Fw
theorem nI {f:PV->PV->Option Bool} {x y:PV} {ys:List PV}:eS f (x::xs) (y::ys)=(f x y).bind λa=>(eS f xs ys).bind λb=>Fv (a&&b):=rfl
noncomputable def dD:Nat->PV->PV->Option Bool
 |0,_,_=>Fw
 |n+1,a,b=>match a,b with
  | .int a,.int b=>Fv (a==b)
  | .str a,.str b=>Fv (a==b)
  | .list xs,.list ys=>if xs.length=ys.length then eS (dD n) xs ys else Fv Fz
  | .tuple xs,.tuple ys=>if xs.length=ys.length then eS (dD n) xs ys else Fw
  |_,_=>Fw
noncomputable def peq (a b:PV):Option Bool:=dD 8 a b
noncomputable def dP:List PV->Option (List Int)
 |[]=>Fv []
 | .int i::r=>(dP r).map (i::·)
 |_=>Fw
noncomputable def kQ:List PV->Option (List Gj)
 |[]=>Fv []
 | .str i::r=>(kQ r).map (i::·)
 |_=>Fw
noncomputable def ez:PV->Option Bool
 | .bool b=>Fv b
 | .int i=>Fv (i !=0)
 | .str s=>if s.length<2^62 then Fv (s.length !=0)else Fw
 | .list xs=>if xs.length<2^62 then Fv (!xs.isEmpty)else Fw
 | .none=>Fv Fz
 |_=>Fw
noncomputable def EC (s:Gj):Option PV:=if s.length<=F_ then Fv (.str s)else Fw
noncomputable def aS (c:Prop) [Decidable c] (i:Int):Option PV:=if c then Fv (.int i)else Fw
noncomputable def cv (xs:List PV):Option PV:=if xs.length<=F_ then Fv (.list xs)else Fw
noncomputable instance (a b:Int):Decidable (Jy a b):=by unfold Jy;infer_instance
noncomputable def oa (xs:List PV):Option PV:=if xs.length<=F_ then Fv (.tuple xs)else Fw
noncomputable def bl {α:Type} (xs:List α):Nat->List α
 |0=>[]
 |n+1=>xs++bl xs n
variable {n:Nat}
theorem mE {xs:List α}:bl xs (n+1)=xs++bl xs n:=rfl
noncomputable def pII:JO->Int->Int->Option PV
 | .Add,a,b=>Fv (.int (a+b))
 | .Sub,a,b=>Fv (.int (a-b))
 | .Mult,a,b=>aS (Jy a b) (a*b)
 | .FloorDiv,a,b=>aS (b≠0/\HN a b=Fz) (a.fdiv b)
 | .Mod,a,b=>aS (b≠0) (a.fmod b)
 | .Pow,a,b=>aS (0<=b/\(FC a:Int)*b<=2^27) (a^b.toNat)
 | .LShift,a,b=>aS (0<=b/\(FC a:Int)+b<=2^27) (a*2^b.toNat)
 | .RShift,a,b=>aS (0<=b) (a.fdiv (2^b.toNat))
 | .BitAnd,a,b=>Fv (.int (Mj a b))
 | .BitOr,a,b=>Fv (.int (Builtin.bitOr a b))
 | .BitXor,a,b=>Fv (.int (Mi a b))
 |_,_,_=>Fw
noncomputable def pSS:JO->Gj->Gj->Option PV
 | .Add,a,b=>if a.length+b.length<=F_ then Fv (.str (a++b))else Fw
 |_,_,_=>Fw
noncomputable def pSI:JO->Gj->Int->Option PV
 | .Mult,a,n=>if 0<=n/\a.length<=1/\n<=1000000 then Fv (.str ⟨(bl a.cps.toList n.toNat).toArray⟩)else Fw
 |_,_,_=>Fw
noncomputable def pLL:JO->List PV->List PV->Option PV
 | .Add,xs,ys=>cv (xs++ys)
 |_,_,_=>Fw
noncomputable def pLI:JO->List PV->Int->Option PV
 | .Mult,xs,n=>if 0<=n/\xs.length<=1/\n<=1000000 then Fv (.list (bl xs n.toNat))else Fw
 |_,_,_=>Fw
noncomputable def dN (op:JO):PV->PV->Option PV
 | .int a,.int b=>pII op a b
 | .str a,.str b=>pSS op a b
 | .str a,.int n=>pSI op a n
 | .list xs,.list ys=>pLL op xs ys
 | .list xs,.int n=>pLI op xs n
 |_,_=>Fw
noncomputable def pin (x:PV):PV->Option Bool
 | .list ys=>match x with
  | .str z=>(kQ ys).map (·.contains z)
  | .int z=>(dP ys).map (·.contains z)
  |_=>Fw
 | .str y=>match x with
  | .str z=>Fv !(Ia y z 0 y.length 1).isEmpty
  |_=>Fw
 | .dictS ks _=>match x with
  | .str z=>Fv (ks.contains z)
  |_=>Fw
 |_=>Fw
noncomputable def plt:PV->PV->Option Bool
 | .int a,.int b=>Fv (decide (a<b))
 |_,_=>Fw
noncomputable def ple:PV->PV->Option Bool
 | .int a,.int b=>Fv (decide (a<=b))
 |_,_=>Fw
noncomputable def pis:PV->PV->Option Bool
 | .bool a,.bool b=>Fv (a==b)
 | .none,.none=>Fv FE
 | .int _,.none=>Fv Fz
 |_,_=>Fw
noncomputable def CY:PV->PV->Option Bool
 | .bool a,.bool b=>Fv (a !=b)
 | .none,.none=>Fv Fz
 | .str _,.none=>Fv FE
 |_,_=>Fw
noncomputable def gk:NC->PV->PV->Option Bool
 | .Eq,a,b=>peq a b
 | .NotEq,a,b=>(peq a b).map not
 | .In,a,b=>pin a b
 | .NotIn,a,b=>(pin a b).map not
 | .Is,a,b=>pis a b
 | .IsNot,a,b=>CY a b
 | .Lt,a,b=>plt a b
 | .LtE,a,b=>ple a b
 |_,_,_=>Fw
noncomputable def ri (z:Gj):List Gj->List PV->Option PV
 |[],_=>Fw
 |k::ks,vs=>match vs with
  |v::vs=>if z=k then Fv v else ri z ks vs
  |_=>Fw
noncomputable def c_:PV->PV->Option PV
 | .list xs,.int i=>(KA i xs.length).bind λk=>if-(2^63)<=i/\i<2^63 then xs[k]? else Fw
 | .dictS ks vs,x=>match x with
  | .str z=>ri z ks vs
  |_=>Fw
 |_,_=>Fw
noncomputable def kc:PV->Option (Option Int)
 | .none=>Fv Fw
 | .int i=>Fv (Fv i)
 |_=>Fw
noncomputable def fg {α:Type} (xs:List α) (lo hi st:Option Int):List α:=
 let b:=sliceBounds lo hi st xs.length
 (sliceRange b.1 b.2.1 b.2.2).filterMap (xs[·]?)
noncomputable def aR:PV->PV->PV->PV->Option PV
 | .list xs,l,h,s=>do
  let l<-kc l;let h<-kc h;let s<-kc s
  if s=Fv 0∨F_<xs.length then Fw else Fv (.list (fg xs l h s))
 | .str x,l,h,s=>do
  let l<-kc l;let h<-kc h;let s<-kc s
  if s.getD 1=0∨F_<(HP l h (s.getD 1) x.length).length then Fw else
   Fv (.str (if(s.getD 1==1&&(HP l h (s.getD 1) x.length).length==x.length)=FE then x else⟨((HP l h (s.getD 1) x.length).filterMap (x.cps[·]?)).toArray⟩))
 |_,_,_,_=>Fw
noncomputable def ro (x:Int):List Int->List Int
 |[]=>[x]
 |y::ys=>if x<=y then x::y::ys else y::ro x ys
noncomputable def eh:List Int->List Int
 |[]=>[]
 |x::xs=>ro x (eh xs)
noncomputable def rn (l:List Int):Int:=l.getD (argBest (λi j=>decide (l.getD i 0>l.getD j 0)) (l.length-1)) 0
noncomputable def a0 {γ:Type} (f:Option γ):List PV->Option γ
 |[]=>f
 |_=>Fw
noncomputable def a1 {γ:Type} (f:PV->Option γ):List PV->Option γ
 |x::xs=>a0 (f x) xs
 |_=>Fw
noncomputable def oI {γ:Type} (f:Int->Option γ):PV->Option γ
 | .int x=>f x
 |_=>Fw
noncomputable def oS {γ:Type} (f:Gj->Option γ):PV->Option γ
 | .str x=>f x
 |_=>Fw
noncomputable def oL {γ:Type} (f:List PV->Option γ):PV->Option γ
 | .list x=>f x
 |_=>Fw
noncomputable def giv {γ:Type} (c:Prop) [Decidable c] (r:γ):Option γ:=if c then Fv r else Fw
noncomputable def CX:PV->Option PV
 | .list xs=>giv (xs.length<2^62) (.int xs.length)
 | .str x=>giv (x.length<2^62) (.int x.length)
 |_=>Fw
noncomputable def CV (x:Gj):Option PV:=(gm x.cps.toList).map λc=> .int c
noncomputable def a2 {γ:Type} (f:PV->PV->Option γ):List PV->Option γ
 |x::xs=>a1 (f x) xs
 |_=>Fw
noncomputable def fII {γ:Type} (f:Int->Int->Option γ) (vs:List PV):Option γ:=a2 (λx y=>oI (λa=>oI (f a) y) x) vs
noncomputable def CW:List PV->Option PV
 |x::xs=>match xs with
  |[]=>oL (λxs=>(dP xs).bind λl=>giv (0<l.length) (.int (rn l))) x
  |y::ys=>oI (λa=>oI (λb=>a0 (Fv (.int (if b>a then b else a))) ys) y) x
 |[]=>Fw
noncomputable def pbi:BI->List PV->Option PV
 | .len,vs=>a1 CX vs
 | .ord,vs=>a1 (oS CV) vs
 | .chr,vs=>a1 (oI λi=>giv ((decide (i<0)||decide (i>0x10FFFF))=Fz) (.str ⟨#[i.toNat]⟩)) vs
 | .max,vs=>CW vs
 | .sum,vs=>a1 (oL λxs=>(dP xs).map λl=> .int l.sum) vs
 | .sorted,vs=>a1 (oL λxs=>(dP xs).bind λl=>giv (l.length<64) (.list ((eh l).map .int))) vs
 | .divmod,vs=>fII (λa b=>giv (b≠0/\HN a b=Fz) (.tuple [.int (a.fdiv b),.int (a.fmod b)])) vs
noncomputable def pme:ME->PV->List PV->Option PV
 | .count,a,vs=>oS (λx=>a1 (oS λy=>Fv (.int (Txt.count x y))) vs) a
 | .join,a,vs=>oS (λx=>a1 (oL λys=>(kQ ys).bind λl=>giv (Od x l=FE) (.str (K9 x l))) vs) a
 | .split,a,vs=>oS (λx=>a1 (oS λy=>giv ((y.length==0)=Fz/\x.length<=F_/\(L_ x (Ia x y 0 x.length (x.length+1)) y.length).length<=F_) (.list ((Txt.split x y).map .str))) vs) a
 | .lstrip,a,vs=>oS (λx=>a1 (oS λy=>giv (x.length<=F_) (.str (IM x y))) vs) a
 | .lower,a,vs=>oS (λx=>a0 (giv (Jg (Jr x).length=Fz) (.str (Jr x))) vs) a
 | .bitlen,a,vs=>oI (λa=>a0 (Fv (.int (FC a))) vs) a
noncomputable def Fu (xs:List Int):Int:=xs.sum
noncomputable def fu (a:Int):Nat->List Int
 |0=>[]
 |n+1=>a::fu (a+1) n
noncomputable def bG (a b:Int):Option (List PV):=
 if-1000000<=a/\a<=1000000/\ -1000000<=b/\b<=1000000 then Fv ((fu a (b-a).toNat).map .int)else Fw
noncomputable def cV:PV->Option (List PV)
 | .list xs=>Fv xs
 | .str s=>Fv ((gu s).map .str)
 | .range a b=>bG a b
 |_=>Fw
noncomputable def zip2:List PV->List PV->List PV
 |[],_=>[]
 |x::xs,ys=>match ys with
  |y::ys=> .tuple [x,y]::zip2 xs ys
  |_=>[]
noncomputable def putK {K:Type} [DecidableEq K] (k:K) (v:PV):List K->List PV->List K×List PV
 |[],_=>([k],[v])
 |k'::ks,vs=>match vs with
  |v'::vs=>if k'=k then(k'::ks,v::vs)else(k'::(putK k v ks vs).1,v'::(putK k v ks vs).2)
  |_=>([k],[v])
noncomputable def gU:List PV->Option PV
 |x::xs=>match xs with
  |[]=>oI (λn=>Fv (.range 0 n)) x
  |y::ys=>oI (λa=>oI (λb=>a0 (Fv (.range a b)) ys) y) x
 |[]=>Fw
noncomputable def jo:PV->Option PV
 | .list xs=>giv (xs.length<=F_) (.list xs)
 | .str s=>giv (s.length<=F_) (.list ((gu s).map .str))
 | .range a b=>(bG a b).map .list
 |_=>Fw
@[elab_as_elim] theorem bc {c:Prop} [Decidable c] {r y:γ} {P:γ->Prop} (h:giv c r=Fv y) (k:c->P r):P y:=
 d0 h (λhc e=>FG e▸k hc) λ_ e=>a9 e
variable {ρ ρ':Ρ}
section
variable {c:γ} {x:PV} {P:FR->Prop} {R:List FR->Prop}
@[elab_as_elim] theorem lm {f:Option γ} (hp:a0 f xs=Fv c) (q:av prog w ok h xs vs) (k:f=Fv c->R []):R vs:=by
 cases xs with
 |nil=>cases (show _=[]from q);exact k hp
 |cons=>exact a9 hp
@[elab_as_elim] theorem fz {f:PV->Option γ} (hp:a1 f xs=Fv c) (q:av prog w ok h xs vs) (k: ∀x v,f x=Fv c->Rep prog w ok h x v->R [v]):R vs:=by
 cases xs with
 |nil=>exact a9 hp
 |cons x xs=>obtain⟨v,r,rfl,q,t⟩:=q;exact lm hp t λhp=>k x v hp q
@[elab_as_elim] theorem gx {f:Int->Option γ} (hp:oI f x=Fv c) (q:Rep prog w ok h x v) (k: ∀i t,f i=Fv c->P (.int i t)):P v:=by
 cases x with
 |int i=>obtain⟨t,rfl⟩:=q;exact k i t hp
 |_=>exact a9 hp
@[elab_as_elim] theorem lc {f:Gj->Option γ} (hp:oS f x=Fv c) (q:Rep prog w ok h x v) (k: ∀i t,f i=Fv c->P (.str i t)):P v:=by
 cases x with
 |str i=>obtain⟨t,rfl⟩:=q;exact k i t hp
 |_=>exact a9 hp
@[elab_as_elim] theorem nK {f:List PV->Option γ} (hp:oL f x=Fv c) (q:Rep prog w ok h x v) (k: ∀xs a vs,ok a->(a==Hf)=Fz->IsL h a vs->av prog w ok h xs vs->f xs=Fv c->P (.ref a)):P v:=by
 cases x with
 |list i=>obtain⟨a,vs,rfl,h1,h2,h3,h4⟩:=q;exact k i a vs h1 h2 h3 h4 hp
 |_=>exact a9 hp
theorem BZ {f:List PV->Option γ} {Q:PV->Prop} (hp:oL f x=Fv c) (k: ∀i,f i=Fv c->Q (.list i)):Q x:=by
 cases x with
 |list i=>exact k i hp
 |_=>exact a9 hp
theorem wo {f:List PV->Option γ} {Q:PV->Prop} (hp:oT f x=Fv c) (k: ∀i,f i=Fv c->Q (.tuple i)):Q x:=by
 cases x with
 |tuple i=>exact k i hp
 |_=>exact a9 hp
theorem gA {f:PV->Option γ} {Q:List PV->Prop} (hp:a1 f xs=Fv c) (k: ∀x,f x=Fv c->Q [x]):Q xs:=by
 cases xs with
 |nil=>exact a9 hp
 |cons x xs=>
  cases xs with
  |nil=>exact k x hp
  |cons=>exact a9 hp
theorem wL {f:PV->PV->Option γ} {Q:List PV->Prop} (hp:a2 f xs=Fv c) (k: ∀x y,f x y=Fv c->Q [x,y]):Q xs:=by
 cases xs with
 |nil=>exact a9 hp
 |cons x xs=>exact gA (Q:=λl=>Q (x::l)) hp λy hy=>k x y hy
@[elab_as_elim] theorem dY {P:Ρ->List Nat->List PV->Ρ->Prop} {xs:List Nat} {vs:List PV} (h:a_ ρ xs vs=Fv ρ') (h0: ∀ρ,P ρ [] [] ρ)
  (h1: ∀ρ x xs v vs ρ',a_ (ρ.set x (Fv v)) xs vs=Fv ρ'->P (ρ.set x (Fv v)) xs vs ρ'->P ρ (x::xs) (v::vs) ρ'):P ρ xs vs ρ':=by
 induction xs generalizing ρ vs with
 |nil=>
  cases vs with
  |nil=>exact FG h▸h0 ρ
  |cons=>exact a9 h
 |cons x xs ih=>
  cases vs with
  |nil=>exact a9 h
  |cons v vs=>exact h1 _ _ _ _ _ _ h (ih h)
@[elab_as_elim] theorem i0 {P:PT->PV->Ρ->Prop} {pt:PT} {v:PV} (h:aT ρ pt v=Fv ρ') (k1: ∀x,P (.one x) v (ρ.set x (Fv v))) (k2: ∀xs vs,a_ ρ xs vs=Fv ρ'->P (.many xs) (.tuple vs) ρ'):P pt v ρ':=by
 cases pt with
 |one x=>exact FG h▸k1 x
 |many xs=>exact wo (Q:=λv=>P (.many xs) v ρ') h λvs=>k2 xs vs
theorem ji {f:Int->Option γ} {Q:PV->Prop} (hp:oI f x=Fv c) (k: ∀i,f i=Fv c->Q (.int i)):Q x:=by
 cases x with
 |int i=>exact k i hp
 |_=>exact a9 hp
theorem iP {f:Int->Int->Option γ} {Q:List PV->Prop} (hp:fII f xs=Fv c) (k: ∀a b,f a b=Fv c->Q [.int a,.int b]):Q xs:=
 wL hp λx y h=>ji (Q:=λx=>Q [x,y]) h λa h=>ji (Q:=λy=>Q [.int a,y]) h λb h=>k a b h
theorem eE {c:Prop} [Decidable c] {r:γ} (h:c):giv c r=Fv r:=if_pos h
theorem fy {f:Gj->Option γ} {Q:PV->Prop} (hp:oS f x=Fv c) (k: ∀i,f i=Fv c->Q (.str i)):Q x:=by
 cases x with
 |str i=>exact k i hp
 |_=>exact a9 hp
end
structure Gam where
 gv:Nat->Option PV
 fn:Nat->List PV->Option PV
 gn:Nat->List PV->Option (List PV)
noncomputable def D9:Option PV->Option (List Gj×List PV)
 |none=>Fv ([],[])
 |some v=>match v with
  | .dictS ks us=>Fv (ks,us)
  |_=>Fw
noncomputable def pB (Ok:Option PV) (a b:PV):Option PV:=oS (λk=>(D9 Ok).bind λp=>giv ((putK k b p.1 p.2).1.length<=1000) (.dictS (putK k b p.1 p.2).1 (putK k b p.1 p.2).2)) a
mutual
noncomputable def pev (Γ:Gam):PE->Ρ->Option PV
 | .cI i,_=>Fv (.int i)
 | .cS s,_=>Fv (.str s)
 | .cB b,_=>Fv (.bool b)
 | .cN,_=>Fv .none
 | .var x,ρ=>ρ.get x
 | .glo k,_=>Γ.gv k
 | .bin op l r,ρ=>do
  let a<-pev Γ l ρ
  let b<-pev Γ r ρ
  dN op a b
 | .neg e,ρ=>do
  match<-pev Γ e ρ with
  | .int i=>Fv (.int (-i))
  |_=>Fw
 | .inv e,ρ=>do
  match<-pev Γ e ρ with
  | .int i=>Fv (.int (Builtin.bitNot i))
  |_=>Fw
 | .not e,ρ=>do
  let v<-pev Γ e ρ
  let b<-ez v
  Fv (.bool (!b))
 | .cmp op l r,ρ=>do
  let a<-pev Γ l ρ
  let b<-pev Γ r ρ
  (gk op a b).map .bool
 | .boolop a es,ρ=>(ig Γ a es ρ).map .bool
 | .ife c a b,ρ=>do
  let v<-pev Γ c ρ
  match<-ez v with
  |true=>pev Γ a ρ
  |false=>pev Γ b ρ
 | .list es,ρ=>(dz Γ es ρ).bind cv
 | .tup es,ρ=>(dz Γ es ρ).bind oa
 | .dic1 k v,ρ=>(pev Γ v ρ).map λu=> .dictS [k] [u]
 | .comp1 Ov t it ifs OI,ρ=>do
  let xs<-pit Γ it ρ
  let ρ:=aB ρ Ov;let ys<-xs.foldlM (λOk x=>do
   let ρ'<-aT ρ t x
   match<-cn Γ ifs ρ' with
   |true=>do let y<-pev Γ OI ρ';Fv (Ok++[y])
   |false=>Fv Ok) []
  cv ys
 | .comp2 Ov t it ifs t2 Qz Pt OI,ρ=>do
  let xs<-pit Γ it ρ
  let ρ:=aB ρ Ov;let ys<-xs.foldlM (λOk x=>do
   let ρ'<-aT ρ t x
   match<-cn Γ ifs ρ' with
   |true=>if k_ t2 ρ'=FE then(pit Γ Qz ρ').bind (λus=>
     us.foldlM (λOk u=>do
      let OY<-aT ρ' t2 u
      match<-cn Γ Pt OY with
      |true=>do let y<-pev Γ OI OY;Fv (Ok++[y])
      |false=>Fv Ok) Ok)else Fw
   |false=>Fv Ok) []
  cv ys
 | .dcomp Ov t it ifs k v,ρ=>do
  let xs<-pit Γ it ρ
  let ρ:=aB ρ Ov;let d<-xs.foldlM (λOk x=>do
   let ρ'<-aT ρ t x
   match<-cn Γ ifs ρ' with
   |true=>do
    let a<-pev Γ k ρ';let b<-pev Γ v ρ'
    (pB Ok a b).map Fv
   |false=>Fv Ok) (Fw:Option PV)
  d
 | .idx e i,ρ=>do
  let a<-pev Γ e ρ
  let b<-pev Γ i ρ
  c_ a b
 | .slice e lo hi st,ρ=>do
  let a<-pev Γ e ρ
  let l<-pev Γ lo ρ
  let h<-pev Γ hi ρ
  let s<-pev Γ st ρ
  aR a l h s
 | .call f args,ρ=>do
  let vs<-dz Γ args ρ
  Γ.fn f vs
 | .bi k args,ρ=>do
  let vs<-dz Γ args ρ
  pbi k vs
 | .meth k o args,ρ=>do
  let a<-pev Γ o ρ
  let vs<-dz Γ args ρ
  pme k a vs
 | .listOf e,ρ=>do
  let v<-pev Γ e ρ
  jo v
 | .rng args,ρ=>do
  let vs<-dz Γ args ρ
  gU vs
noncomputable def dz (Γ:Gam):List PE->Ρ->Option (List PV)
 |[],_=>Fv []
 |e::es,ρ=>do
  let v<-pev Γ e ρ
  let vs<-dz Γ es ρ
  Fv (v::vs)
noncomputable def cn (Γ:Gam):List PE->Ρ->Option Bool
 |[],_=>Fv FE
 |e::es,ρ=>do
  let v<-pev Γ e ρ
  match<-ez v with
  |true=>cn Γ es ρ
  |false=>Fv Fz
noncomputable def ig (Γ:Gam) (QX:Bool):List PE->Ρ->Option Bool
 |[],_=>Fv QX
 |e::es,ρ=>do
  let v<-pev Γ e ρ
  let b<-ez v
  if b=QX then ig Γ QX es ρ else Fv b
noncomputable def pit (Γ:Gam):PI->Ρ->Option (List PV)
 | .ex e,ρ=>do
  let v<-pev Γ e ρ
  cV v
 | .rev e,ρ=>do
  match<-pev Γ e ρ with
  | .list xs=>Fv xs.reverse
  |_=>Fw
 | .zip a b,ρ=>do
  match<-pev Γ a ρ,<-pev Γ b ρ with
  | .list xs,.list ys=>Fv (zip2 xs ys)
  |_,_=>Fw
 | .gen f args,ρ=>do
  let vs<-dz Γ args ρ
  Γ.gn f vs
end
noncomputable def bt (Γ:Gam) (e:PE) (ρ:Ρ):Option Bool:=(pev Γ e ρ).bind ez
inductive aX where
 |val (k:Nat)|fn (k:Nat)|gen (k:Nat)|bi (k:BI)|ty (s:String)
noncomputable abbrev ay:=List (Gj×HF)
noncomputable def fC:Option HF->Nat
 |some .local=>1
 |some .cell=>1
 |some .free=>1
 |some .globalImplicit=>2
 |_=>0
noncomputable def aC (x:Gj):Bool:= !(x==("__debug__" :Gj))&& !(x==("__classdict__" :Gj))
noncomputable def bu:Option HF->Bool
 |some .cell=>FE
 |some .free=>FE
 |_=>Fz
noncomputable def bV (ns:ay) (sc:KY):Bool:=
 sc.kind== .function&&sc.names.all (λp=>(p.2 != .free||bu (ns.lookup p.1))&&sc.names.lookup p.1==Fv p.2)
noncomputable def b8 (ns:ay) (x:Gj):Bool:=(ns.lookup x==Fv .local||ns.lookup x==Fv .cell)&&aC x
noncomputable def nm1:Expr->Option Gj
 | .Name x _=>Fv x
 |_=>Fw
noncomputable def uI:Expr->Option (List Expr)
 | .Tuple es _ _=>Fv es
 |_=>Fw
noncomputable def tg1 (Og:List Gj) (ns:ay) (e:Expr):Option Nat:=(nm1 e).bind λx=>grd (b8 ns x&&Og.contains x) (Fv (Og.idxOf x))
noncomputable def tgs (Og:List Gj) (ns:ay):List Expr->Option (List Nat)
 |[]=>Fv []
 |e::es=>ob2 (λa as=>a::as) (tg1 Og ns e) (tgs Og ns es)
noncomputable def sPT (Og:List Gj) (ns:ay) (e:Expr):Option PT:=
 (uI e).elim ((tg1 Og ns e).map .one) λes=>(tgs Og ns es).bind λxs=>grd (decide (2<=xs.length)) (Fv (.many xs))
variable {P:Expr->Prop} {e:Expr} {x:Gj}
@[elab_as_elim] theorem um (h:nm1 e=Fv x) (k: ∀p,P (.Name x p)):P e:=by
 cases e with
 |Name y p=>exact FG h▸k p
 |_=>exact a9 h
@[elab_as_elim] theorem ly {x:List Expr} (h:uI e=Fv x) (k: ∀c p,P (.Tuple x c p)):P e:=by
 cases e with
 |Tuple y c p=>exact FG h▸k c p
 |_=>exact a9 h
theorem lg (h:nm1 e=Fv x): ∃p,e= .Name x p:=um (P:=λe=> ∃p,e= .Name x p) h λp=>⟨p,rfl⟩
theorem yY {vs:List Expr} (h:uI e=Fv vs): ∃k p,e= .Tuple vs k p:=ly (P:=λe=> ∃k p,e= .Tuple vs k p) h λk p=>⟨k,p,rfl⟩
variable {Og:List Gj} {ns:ay}
@[elab_as_elim] theorem kn {P:Expr->Nat->Prop} {i:Nat} (h:tg1 Og ns e=Fv i) (k: ∀x p,b8 ns x=FE->x∈Og->P (.Name x p) (Og.idxOf x)):P e i:=
 ac h λx hx h=>cF h λhc h=>cT hc λh1 h2=>FG h▸um (P:=λe=>P e (Og.idxOf x)) hx λp=>k x p h1 (by simpa using h2)
@[elab_as_elim] theorem oj {P:Expr->PT->Prop} {pt:PT} (h:sPT Og ns e=Fv pt) (k1: ∀x p,b8 ns x=FE->x∈Og->P (.Name x p) (.one (Og.idxOf x)))
  (k2: ∀es c p xs,tgs Og ns es=Fv xs->2<=xs.length->P (.Tuple es c p) (.many xs)):P e pt:=
 fI h (λes he h=>ac h λxs Ri h=>cF h λh2 h=>FG h▸ly (P:=λe=>P e (.many xs)) he λc p=>k2 es c p xs Ri (of_decide_eq_true h2))
  λ_ h=>aM (P:=P e) h λi hi=>kn (P:=λe i=>P e (.one i)) hi k1
variable {p:HW}
theorem lz (hx:b8 ns x=FE) (hm:x∈Og):tg1 Og ns (.Name x p)=Fv (Og.idxOf x):=if_pos (GG.mpr ⟨hx,by simpa using hm⟩)
theorem oi (hx:b8 ns x=FE) (hm:x∈Og):sPT Og ns (.Name x p)=Fv (.one (Og.idxOf x)):=congrArg (Kj PT.one) (lz hx hm)
noncomputable def cf (Og:List Gj) (sc:KY):List Nat:=(sc.names.filter λp=>p.2== .local||p.2== .cell).map λp=>Og.idxOf p.1
noncomputable def yM:BI->String
 | .len=> "len" | .ord=> "ord" | .chr=> "chr" | .max=> "max" | .sum=> "sum" | .sorted=> "sorted" | .divmod=> "divmod"
noncomputable def nQ:Gj->Option ME:=λx=>
 if x== "count" then Fv .count else if x== "join" then Fv .join else if x== "split" then Fv .split
 else if x== "lstrip" then Fv .lstrip else if x== "lower" then Fv .lower else if x== "bit_length" then Fv .bitlen else Fw
noncomputable def ub:Expr->Option (Option Expr×Option Expr×Option Expr)
 | .Slice a b c _=>Fv (a,b,c)
 |_=>Fw
noncomputable def nN:Expr->Bool
 | .Starred .. =>Fz
 |_=>FE
noncomputable def iH:Expr->Bool
 | .Set .. =>Fz
 |_=>FE
noncomputable def few {α:Type} (xs:List α):Bool:=decide (xs.length<=10)
noncomputable def qi:Expr->Bool
 | .Call (.Name _ _) [] [] _=>Fz
 |_=>FE
noncomputable def Dj:Expr->Option Gj
 | .Constant c _ _=>match c with
  | .str s=>Fv s
  |_=>Fw
 |_=>Fw
noncomputable def two {α:Type}:List α->Option (α×α)
 |x::xs=>(gm xs).map λy=>(x,y)
 |[]=>Fw
theorem km {l:List α} {p:α×α} (h:two l=Fv p):l=[p.1,p.2]:=by
 cases l with
 |nil=>exact a9 h
 |cons a l=>exact aM h λy hy=>congrArg (List.cons a) (cr hy)
noncomputable def gP (t:Expr):PI->Bool
 | .zip _ _=>(uI t).isSome
 |_=>FE
noncomputable def sC:Const->Option PE
 | .int i=>Fv (.cI i)
 | .str s=>Fv (.cS s)
 | .bool b=>Fv (.cB b)
 | .none=>Fv .cN
 |_=>Fw
noncomputable def ES:aX->Option PE
 | .val k=>Fv (.glo k)
 |_=>Fw
noncomputable def sN (gl:Gj->Option aX) (Og:List Gj) (ns:ay) (x:Gj):Option PE:=if fC (ns.lookup x)=1 then Fv (.var (Og.idxOf x))else grd (decide (fC (ns.lookup x)=2)) ((gl x).bind ES)
noncomputable def sF (E:Expr->Option PE) (L:Option (List PE)) (args:List Expr):Option aX->Option PE
 |none=>Fw
 |some g=>match g with
 | .fn k=>L.map (.call k)
 | .bi k=>L.map (.bi k)
 | .ty t=>if t= "list" then(gm args).bind λa=>(E a).map .listOf else if t= "range" then L.map .rng else Fw
 |_=>Fw
noncomputable def sW (E:Expr->Option PE) (L:Option (List PE)) (args:List Expr):Option aX->Option PI
 |none=>Fw
 |some g=>match g with
 | .fn k=>L.map λas=> .ex (.call k as)
 | .bi k=>L.map λas=> .ex (.bi k as)
 | .ty t=>if t= "range" then L.map λas=> .ex (.rng as)else if t= "zip" then(two args).bind λp=>ob2 .zip (E p.1) (E p.2)else(gm args).bind λa=>if t= "list" then(E a).map λe=> .ex (.listOf e)else if t= "reversed" then(E a).map .rev else Fw
 |_=>Fw
noncomputable def tQ:Expr->Option (Expr×List Expr×HW)
 | .Call f args V8 p=>(match V8 with
  |[]=>Fv (f,args,p)
  |_=>Fw)
 |_=>Fw
noncomputable def wb:Expr->Option (Expr×Gj×HW)
 | .Attribute o m p=>Fv (o,m,p)
 |_=>Fw
theorem jL {q:Expr×List Expr×HW} (h:tQ e=Fv q):e= .Call q.1 q.2.1 [] q.2.2:=by
 cases e with
 |Call f args V8 p=>
  cases V8 with
  |nil=>exact FG h▸rfl
  |cons=>exact a9 h
 |_=>exact a9 h
theorem nu {q:Expr×Gj×HW} (h:wb e=Fv q):e= .Attribute q.1 q.2.1 q.2.2:=by
 cases e with
 |Attribute o m p=>exact FG h▸rfl
 |_=>exact a9 h
noncomputable def o0 (ns:ay) (e:Expr):Option (Gj×List Expr):=(tQ e).bind λq=>(nm1 q.1).bind λf=>grd (aC f&&fC (ns.lookup f)==2&&few q.2.1) (Fv (f,q.2.1))
noncomputable def wq (e:Expr):Option (ME×Expr×List Expr):=(tQ e).bind λq=>(wb q.1).bind λa=>grd (few q.2.1&&qi a.1&&a.2.2.endLine==q.2.2.line) ((nQ a.2.1).map λk=>(k,a.1,q.2.1))
noncomputable def sG (E:ay->Expr->Option PE) (I:ay->Expr->Option PI) (Ts:ay->List Expr->Option (List PE)) (Og:List Gj) (ns sn:ay) (g:Kk):Option (PT×PI×List PE):=
 grd (iH g.iter&&g.is_async==0) (ob3 (λa b c=>(a,b,c)) (sPT Og sn g.target) ((I ns g.iter).bind λp=>grd (gP g.target p) (Fv p)) (Ts sn g.ifs))
mutual
noncomputable def sE (gl:Gj->Option aX) (Og:List Gj):Nat->ay->Expr->Option PE
 |0,_,_=>Fw
 |n+1,ns,e=>match e with
  | .Constant c _ _=>sC c
  | .Name x _=>grd (aC x) (sN gl Og ns x)
  | .BinOp l op r _=>ob2 (.bin op) (sE gl Og n ns l) (sE gl Og n ns r)
  | .UnaryOp op x _=>(match op with
   | .USub=>(sE gl Og n ns x).map .neg
   | .Invert=>(sE gl Og n ns x).map .inv
   |_=>Fw)
  | .Compare l TD rs _=>(gm TD).bind λop=>(gm rs).bind λr=>grd (!L8 op r) (ob2 (.cmp op) (sE gl Og n ns l) (sE gl Og n ns r))
  | .IfExp c a b _=>ob3 .ife (sT gl Og n ns c) (sE gl Og n ns a) (sE gl Og n ns b)
  | .List es _=>(sL gl Og n ns es).map .list
  | .Tuple es _ _=>(sL gl Og n ns es).map .tup
  | .ListComp OI gs sc _=>grd (bV ns sc) ((gm gs).elim
    ((two gs).bind λq=>ob3 (λg g2 e=> .comp2 (cf Og sc) g.1 g.2.1 g.2.2 g2.1 g2.2.1 g2.2.2 e) (sG (sE gl Og n) (sI gl Og n) (sTs gl Og n) Og ns sc.names q.1)
     (sG (sE gl Og n) (sI gl Og n) (sTs gl Og n) Og sc.names sc.names q.2) (sE gl Og n sc.names OI))
    λg=>ob2 (λg e=> .comp1 (cf Og sc) g.1 g.2.1 g.2.2 e) (sG (sE gl Og n) (sI gl Og n) (sTs gl Og n) Og ns sc.names g) (sE gl Og n sc.names OI))
  | .DictComp k v gs sc _=>grd (bV ns sc) ((gm gs).bind λg=>
    ob3 (λg k v=> .dcomp (cf Og sc) g.1 g.2.1 g.2.2 k v) (sG (sE gl Og n) (sI gl Og n) (sTs gl Og n) Og ns sc.names g) (sE gl Og n sc.names k) (sE gl Og n sc.names v))
  | .Subscript v i _=>(ub i).elim (ob2 .idx (sE gl Og n ns v) (sE gl Og n ns i)) λq=>
    ob2 (λa p=> .slice a p.1 p.2.1 p.2.2) (sE gl Og n ns v) (ob3 (λa b c=>(a,b,c)) (sO gl Og n ns q.1) (sO gl Og n ns q.2.1) (sO gl Og n ns q.2.2))
  | .Call .. =>(o0 ns e).elim ((wq e).bind λq=>ob2 (.meth q.1) (sE gl Og n ns q.2.1) (sL gl Og n ns q.2.2)) λq=>sF (sE gl Og n ns) (sL gl Og n ns q.2) q.2 (gl q.1)
  |_=>Fw
noncomputable def sO (gl:Gj->Option aX) (Og:List Gj):Nat->ay->Option Expr->Option PE
 |0,_,_=>Fw
 |_+1,_,Fw=>Fv .cN
 |n+1,ns,Fv e=>sE gl Og n ns e
noncomputable def sL (gl:Gj->Option aX) (Og:List Gj):Nat->ay->List Expr->Option (List PE)
 |0,_,_=>Fw
 |_+1,_,[]=>Fv []
 |n+1,ns,e::es=>ob2 (λa as=>a::as) (sE gl Og n ns e) (sL gl Og n ns es)
noncomputable def sT (gl:Gj->Option aX) (Og:List Gj):Nat->ay->Expr->Option PE
 |0,_,_=>Fw
 |n+1,ns,e=>match e with
  | .UnaryOp op x _=>(match op with
   | .Not=>(sT gl Og n ns x).map .not
   |_=>Fw)
  | .Compare l TD rs _=>(gm TD).bind λop=>(gm rs).bind λr=>grd (!L8 op r) (ob2 (.cmp op) (sE gl Og n ns l) (sE gl Og n ns r))
  | .BoolOp op vs _=>(sTs gl Og n ns vs).map (.boolop (op== .And))
  | .IfExp .. =>Fw
  |e=>sE gl Og n ns e
noncomputable def sTs (gl:Gj->Option aX) (Og:List Gj):Nat->ay->List Expr->Option (List PE)
 |0,_,_=>Fw
 |_+1,_,[]=>Fv []
 |n+1,ns,e::es=>ob2 (λa as=>a::as) (sT gl Og n ns e) (sTs gl Og n ns es)
noncomputable def sI (gl:Gj->Option aX) (Og:List Gj):Nat->ay->Expr->Option PI
 |0,_,_=>Fw
 |n+1,ns,e=>(o0 ns e).elim ((sE gl Og n ns e).map .ex) λq=>sW (sE gl Og n ns) (sL gl Og n ns q.2) q.2 (gl q.1)
end
theorem oD (h:Ht) (o:N1):h.objs.size<(h.push o).objs.size:=by rw [GP];exact Gx _
inductive aV (h:Ht) (Oh:Lk) (x:Gj) (v:FR):Prop
 |loc (m:Gj->Option FR) (k:Oh.kindOf x=Fv .local) (n:h.Ns Oh.locals m) (e:m x=Fv v):aV h Oh x v
 |cel (c:Gb) (k:Oh.kindOf x=Fv .cell∨Oh.kindOf x=Fv .free) (l:Oh.cells.lookup x=Fv c) (e:h.IsCell c (Fv v)):aV h Oh x v
variable {Oh:Lk}
theorem aV.keep (q:aV h Oh x v) (k:HK h h'):aV h' Oh x v:=by
 cases q with
 |loc m a b c=>exact .loc m a (dH b (k _)) c
 |cel c a b d=>exact .cel c a b (aN d (k _))
structure cu (Oh:Lk) (ns:ay):Prop where
 kind:Oh.scope.kind= .function
 glob:Oh.globals=He
 blt:Oh.builtins=Jw
 cls: ∀x,fC (Oh.kindOf x)=fC (ns.lookup x)
 cel: ∀x,bu (ns.lookup x)=bu (Oh.kindOf x)
 cells: ∀x,bu (Oh.kindOf x)=FE-> ∃c,Oh.cells.lookup x=Fv c
 inj: ∀x y c,bu (Oh.kindOf x)=FE->bu (Oh.kindOf y)=FE->Oh.cells.lookup x=Fv c->Oh.cells.lookup y=Fv c->x=y
 own: ∀x,ns.lookup x=Fv .cell->Oh.kindOf x=Fv .cell
def cJ (prog:HE) (w:HR) (Og:List Gj) (ok:Gb->Prop) (h:Ht) (Oh:Lk) (ρ:Ρ):Prop:=
 ∀x pv,fC (Oh.kindOf x)=1->ρ.get (Og.idxOf x)=Fv pv-> ∃v,aV h Oh x v/\Rep prog w ok h pv v
theorem cJ.keep (q:cJ prog w Og ok h Oh ρ) (k:HK h h'):cJ prog w Og ok h' Oh ρ:=
 λx pv a b=>by obtain⟨v,c,d⟩:=q x pv a b;exact⟨v,c.keep k,d.keep k⟩
theorem cJ.wide (q:cJ prog w Og ok h Oh ρ) (k: ∀a,ok a->ok' a):cJ prog w Og ok' h Oh ρ:=
 λx pv a b=>by obtain⟨v,c,d⟩:=q x pv a b;exact⟨v,c,d.wide k⟩
def AOk (d:Nat) (A:HB):Prop:=A.handled=Fw/\A.depth+d<950/\A.units+10*d+60<9900
variable {d:Nat}
theorem AOk.in1 (h:AOk (d+1) A):AOk d A.in1:=⟨h.1,by have:=h.2.1;show A.depth+d<950;exact GW (Gm (H4 this)),by have:=h.2.2;show A.units+1+10*d+60<9900;exact aIn this⟩
theorem AOk.room (h:AOk d A):A.depth<recursionLimit:=by have:=h.2.1;show A.depth<1000;exact Er this
theorem AOk.units (h:AOk d A):A.units+50<No:=by have:=h.2.2;show A.units+50<9900;exact FF (FM (FZ _ _) (by decide)) this
theorem AOk.mono {d':Nat} (h:AOk d A) (k:d'<=d):AOk d' A:=⟨h.1,by have:=h.2.1;exact FF (G_ k _) this,by have:=h.2.2;exact Eu k this⟩
def cC (H:Ht) (x:Gj) (v:FR):Prop:= ∃mg mb,H.Ns He mg/\H.Ns Jw mb/\(mg x=Fv v∨(mg x=Fw/\mb x=Fv v))
def ah (prog:HE) (w:HR) (H:Ht) (d:Nat) (f:Gb) (args:List PV) (r:PV):Prop:=
 ∀(A:HB) (s:FL) (ok:Gb->Prop) (vs:List FR),AOk d A->HK H s.heap->ce ok s.heap->Sys s.heap->av prog w ok s.heap args vs->
  WP (FN prog w) A (Jj (.ref f) vs) (λv s'=>Ext s s'/\Rep prog w ok s'.heap r v) s
structure Cx where
 prog:HE
 w:HR
 H:Ht
 gl:Gj->Option aX
 d:Nat
def bD (Oh:Lk) (a:Gb):Prop:=a=Oh.locals∨ ∃x,bu (Oh.kindOf x)=FE/\Oh.cells.lookup x=Fv a
theorem aV.at (q:aV h Oh x v) (k: ∀a,bD Oh a-> ∀o,vis h a=Fv o->vis h' a=Fv o):aV h' Oh x v:=by
 cases q with
 |loc m a b c=>exact .loc m a (dH b (k _ (.inl rfl))) c
 |cel c a b d=>exact .cel c a b (aN d (k c (.inr ⟨x,by rcases a with a|a<;>rw [a]<;>rfl,b⟩)))
structure dj (C:Cx) (Og:List Gj) (A:HB) (Oh:Lk) (ns:ay) (ρ:Ρ) (ok:Gb->Prop) (s:FL):Prop where
 a:AOk C.d A
 e:cu Oh ns
 h:HK C.H s.heap
 r:cJ C.prog C.w Og ok s.heap Oh ρ
 o:ce ok s.heap
 m:Sys s.heap
 l:ρ.length<=Og.length
 v: ∀a,bD Oh a-> ∃o,vis s.heap a=Fv o
variable {C:Cx}
theorem dj.ext {s':FL} (G:dj C Og A Oh ns ρ ok s) (x:Ext s s'):dj C Og A Oh ns ρ ok s':=
 ⟨G.a,G.e,G.h.trans x.keep,G.r.keep x.keep,G.o.keep x.size,G.m.keep x.keep,G.l,λa h=>by obtain⟨o,e⟩:=G.v a h;exact⟨o,x.keep _ _ e⟩⟩
noncomputable abbrev Ev (C:Cx) (ok:Gb->Prop) (r:PV) (s:FL):FR->FL->Prop:=λv s'=>Ext s s'/\Rep C.prog C.w ok s'.heap r v
noncomputable abbrev EvL (C:Cx) (ok:Gb->Prop) (rs:List PV) (s:FL):List FR->FL->Prop:=λvs s'=>Ext s s'/\av C.prog C.w ok s'.heap rs vs
variable {op:JO} {l r:Expr} {c:PV} {i:Int} {k:Nat} {f:FR} {args:List (Bool×IH FR)} {es:List Expr} {rs:List PV}
section
theorem dg (h:aC x=FE):(x==("__debug__" :Gj))=Fz/\(x==("__classdict__" :Gj))=Fz:=by simpa [aC]using h
theorem im (E:cu Oh ns) (hx:aC x=FE) (V:aV s.heap Oh x v) (h:Q v s):
  WP (FN C.prog C.w) A (Hz (.Name x pos) Oh) Q s:=by
 refine wpAny_Name ?_ (dg hx).1;cases V with
 |loc m k n e=>exact wpAny_loadName_local E.kind k n e h
 |cel c k l e=>
  rcases k with k|k
  ·exact wpAny_loadName_cell E.kind k l e h
  ·exact wpAny_loadName_free E.kind k l e h (dg hx).2
theorem DP {k:Option HF} (h:fC k=2):k=Fv .globalImplicit:=by
 cases k with
 |none=>cases h
 |some k=>cases k<;>first|rfl|cases h
theorem dq (E:cu Oh ns) (hx:aC x=FE) (hk:fC (ns.lookup x)=2) (hH:HK C.H s.heap) (L:cC C.H x v) (h:Q v s):
  WP (FN C.prog C.w) A (Hz (.Name x pos) Oh) Q s:=by
 refine Name_function_global E.kind (DP ((E.cls x).trans hk)) ?_ (dg hx).1;obtain⟨mg,mb,a,b,c⟩:=L;rcases c with c|⟨c,d⟩
 ·exact loadGlobal_global (mg:=mg) (E.glob▸dH a (hH _)) c h
 ·exact loadGlobal_builtin (mg:=mg) (mb:=mb) (E.glob▸dH a (hH _)) c (E.blt▸dH b (hH _)) d h
theorem rS {a b:PV} (hl: ∀s',Ext s s'->WP (FN C.prog C.w) A (Hz l Oh) (Ev C ok a s') s')
  (hr: ∀s',Ext s s'->WP (FN C.prog C.w) A (Hz r Oh) (Ev C ok b s') s')
  (QF: ∀s' va vb,Ext s s'->Rep C.prog C.w ok s'.heap a va->Rep C.prog C.w ok s'.heap b vb->WP (FN C.prog C.w) A (Mz op va vb) (Ev C ok c s') s'):
  WP (FN C.prog C.w) A (Hz (.BinOp l op r pos) Oh) (Ev C ok c s) s:=by
 refine wpAny_BinOp ((hl s (.refl s)).mono λva s₁ ⟨x₁,ra⟩=>(hr s₁ x₁).mono λvb s₂ ⟨x₂,rb⟩=>(QF s₂ va vb (x₁.trans x₂) (ra.keep x₂.keep) rb).mono λv s₃ ⟨x₃,rc⟩=>⟨(x₁.trans x₂).trans x₃,rc⟩)
theorem wE {op:UnaryOp} {a:PV} (he:WP (FN C.prog C.w) A (Hz e Oh) (Ev C ok a s) s)
  (QF: ∀s' va,Rep C.prog C.w ok s'.heap a va->WP (FN C.prog C.w) A (unaryOp op va) (Ev C ok c s') s'):
  WP (FN C.prog C.w) A (Hz (.UnaryOp op e pos) Oh) (Ev C ok c s) s:=
 UnaryOp_ (he.mono λva s₁ ⟨x₁,ra⟩=>(QF s₁ va ra).mono λv s₃ ⟨x₃,rc⟩=>⟨x₁.trans x₃,rc⟩)
theorem Cn {op:NC} {a b:PV} (hm:L8 op r=Fz) (hl: ∀s',Ext s s'->WP (FN C.prog C.w) A (Hz l Oh) (Ev C ok a s') s')
  (hr: ∀s',Ext s s'->WP (FN C.prog C.w) A (Hz r Oh) (Ev C ok b s') s')
  (QF: ∀s' va vb,Ext s s'->Rep C.prog C.w ok s'.heap a va->Rep C.prog C.w ok s'.heap b vb->WP (FN C.prog C.w) A (JB op va vb) (Ev C ok c s') s'):
  WP (FN C.prog C.w) A (Hz (.Compare l [op] [r] pos) Oh) (Ev C ok c s) s:=by
 refine wpAny_Compare1 ((hl s (.refl s)).mono λva s₁ ⟨x₁,ra⟩=>(hr s₁ x₁).mono λvb s₂ ⟨x₂,rb⟩=>(QF s₂ va vb (x₁.trans x₂) (ra.keep x₂.keep) rb).mono λv s₃ ⟨x₃,rc⟩=>⟨(x₁.trans x₂).trans x₃,rc⟩) hm
theorem Cm:WP (FN C.prog C.w) A (Hz (.Constant (.int i) k pos) Oh) (Ev C ok (.int i) s) s:=wpAny_Constant_int ⟨.toks _ _,_,rfl⟩
theorem Ck {i:Gj}:WP (FN C.prog C.w) A (Hz (.Constant (.str i) k pos) Oh) (Ev C ok (.str i) s) s:=Constant_str ⟨.toks _ _,_,rfl⟩
theorem A4 {i:Bool}:WP (FN C.prog C.w) A (Hz (.Constant (.bool i) k pos) Oh) (Ev C ok (.bool i) s) s:=Constant_bool ⟨.refl _,rfl⟩
theorem z':WP (FN C.prog C.w) A (Hz (.Constant .none k pos) Oh) (Ev C ok .none s) s:=Constant_none ⟨.refl _,rfl⟩
theorem bk {first:List FR} (hf: ∀a,f≠ .ref a) (QL:args.any (·.1)=Fz)
  (h:WP (FN C.prog C.w) A (Mx f FE args []) (λa s₁=>WP (FN C.prog C.w) A (Jj f (first++a.pos) a.kw) Q s₁) s):
  WP (FN C.prog C.w) A (Nn pos f first args []) Q s:=by
 unfold Nn;refine WP.bind (WP.hold (h.mono λa s₁ h₁=>WP.at ?_));have hs:(args.any (·.1)||([]:List (Option Gj×IH FR)).any (·.1.isNone))=Fz:=(Bool.or_false _).trans QL
 haveI:keeperOf f=pure .machine:=by unfold keeperOf;cases f<;>first|rfl|exact absurd rfl (hf _)
 rw [this];refine FJ (FK ?_);revert hs;generalize (args.any (·.1)||([]:List (Option Gj×IH FR)).any (·.1.isNone))=bb
 intro hs;subst hs;exact WP.bind (h₁.mono λr s₂ hr=>FJ (IG (wpAny_point (FK hr))))
theorem bB {Q:Args->FL->Prop} (QL:args.all (λa=> !a.1)=FE)
  (h:WP (FN C.prog C.w) A (Mw args) (λvs s'=>Q ⟨vs,[]⟩ s') s):WP (FN C.prog C.w) A (Mx f FE args []) Q s:=by
 unfold Mx;cases args with
 |nil=>
  show WP _ A (Mw []>>=_) Q s;refine WP.bind (h.mono λvs s' h'=> ?_);exact WP.hold (FJ (FK (FJ (FK (FK h')))))
 |cons x rest=>
  obtain⟨b,x⟩:=x;haveI hb:b=Fz:=by simpa using(GG.mp QL).1
  subst hb;show WP _ A (Mw ((Fz,x)::rest)>>=_) Q s;refine WP.bind (h.mono λvs s' h'=> ?_);exact WP.hold (FJ (FK (FJ (FK (FK h')))))
theorem fG:(MP pos (Jv es Oh)).any (·.1)=(Jv es Oh).any (·.1):=by
 unfold MP;rw [List.any_map]
 rfl
theorem bY:(MP pos (Jv es Oh)).all (λa=> !a.1)=(Jv es Oh).all (λa=> !a.1):=by
 unfold MP;rw [List.all_map]
 rfl
theorem fY: ∀{es:List (Bool×IH FR)},es.all (λa=> !a.1)=FE->es.any (·.1)=Fz
 |[],_=>rfl
 |(b,_)::r,h=>by simp only [N4,GH,JS]at h;simp only [LF,h.1,Bool.false_or];exact fY h.2
def ci (C:Cx) (A:HB) (Oh:Lk) (ok:Gb->Prop) (es:List Expr) (rs:List PV) (s:FL):Prop:=
 (Jv es Oh).all (λa=> !a.1)=FE/\ ∀pos,WP (FN C.prog C.w) A (Mw (MP pos (Jv es Oh))) (EvL C ok rs s) s
theorem ci.nil:ci C A Oh ok [] [] s:=⟨rfl,λ_=>LK ⟨.refl _,rfl⟩⟩
theorem ba (he: ∀x p,e≠ .Starred x p):Jv (e::es) Oh=(Fz,Hz e Oh)::Jv es Oh:=by cases e<;>first|rfl|exact absurd rfl (he _ _)
theorem ci.cons {r:PV} (he: ∀x p,e≠ .Starred x p) (h:WP (FN C.prog C.w) A (Hz e Oh) (Ev C ok r s) s)
  (t: ∀s',Ext s s'->ci C A Oh ok es rs s'):ci C A Oh ok (e::es) (r::rs) s:=by
 refine⟨?_,λpos=> ?_⟩
 ·rw [ba he,N4]
  have:=(t s (.refl s)).1;simpa using this
 ·rw [ba he]
  show WP _ A (Mw ((Fz,Hz e Oh)::MP pos (Jv es Oh))) _ s;refine Mv (h.mono λv s₁ ⟨x₁,r₁⟩=>((t s₁ x₁).2 pos).mono λvs s₂ ⟨x₂,r₂⟩=>⟨x₁.trans x₂,v,vs,rfl,r₁.keep x₂.keep,r₂⟩)
theorem kG (h:ci C A Oh ok es rs s) (Oj:rs.length<=F_) (hs:Sys s.heap):
  WP (FN C.prog C.w) A (Hz (.List es pos) Oh) (λv s'=>Ext s s'/\ ∃a vs,v= .ref a/\s.heap.objs.size<=a/\s'.heap.PlainList a vs.toArray/\av C.prog C.w (λb=>ok b/\b≠a) s'.heap rs vs/\(a==Hf)=Fz) s:=by
 refine List_ ((h.2 pos).mono λvs s₁ ⟨x₁,r₁⟩=> ?_);refine IS ?_ (by show vs.toArray.size<=F_;rw [Gn,r₁.length];exact Oj)
 haveI hn:vis s.heap s₁.heap.objs.size=Fw:=bH x₁.size;exact⟨x₁.trans (Ext.pushed s₁ _ s₁.toks),_,vs,rfl,x₁.size,⟨_,Gt _ rfl⟩,r₁.mono (λb hb ⟨o,e⟩=>⟨hb,λq=>by rw [q,cW]at e;cases e⟩) (λb _ o e=>HK.push _ _ b o e),hs.ne hn⟩
theorem yg (h:ci C A Oh ok es rs s) (Oj:rs.length<=F_) (ho:ce ok s.heap) (hs:Sys s.heap):
  WP (FN C.prog C.w) A (Hz (.Tuple es k pos) Oh) (Ev C ok (.tuple rs) s) s:=by
 refine Tuple_ ((h.2 pos).mono λvs s₁ ⟨x₁,r₁⟩=> ?_);refine IS ?_ (by show vs.toArray.size<=F_;rw [Gn,r₁.length];exact Oj)
 haveI hn:vis s.heap s₁.heap.objs.size=Fw:=bH x₁.size;exact⟨x₁.trans (Ext.pushed s₁ _ s₁.toks),_,vs,rfl,ho _ x₁.size,hs.ne hn,⟨_,Gt _ rfl,rfl,_,rfl⟩,r₁.keep (HK.push _ _)⟩
end
section
noncomputable def CR:PV->String
 | .none=> "NoneType" | .bool _=> "bool" | .int _=> "int" | .str _=> "str" | .list _=> "list" | .tuple _=> "tuple"
 | .dictS .. => "dict" | .range .. => "range"
theorem pY {x:PV} (r:Rep prog w ok s.heap x v):s.TypeIs v (CR x):=by
 cases x with
 |none=>cases (show v= .none from r);rfl
 |bool b=>cases (show v= .bool b from r);rfl
 |int i=>obtain⟨t,rfl⟩:=r;rfl
 |str i=>obtain⟨t,rfl⟩:=r;rfl
 |list xs=>obtain⟨a,vs,rfl,_,_,l,_⟩:=r;exact Heap.IsList.typeIs l
 |tuple xs=>obtain⟨a,vs,rfl,_,_,l,_⟩:=r;exact Heap.IsTuple.typeIs l
 |dictS ks us=>obtain⟨a,vs,rfl,_,_,l,_⟩:=r;exact Heap.MapOf.typeIs (Jz l.2)
 |range a b=>obtain⟨a,_,_,_,rfl,_,_,l⟩:=r;exact⟨_,l,rfl⟩
noncomputable abbrev Ev' (prog:HE) (w:HR) (ok:Gb->Prop) (r:PV) (s:FL):FR->FL->Prop:=λv s'=>Ext s s'/\Rep prog w ok s'.heap r v
theorem bI:Ev' prog w ok (.int i) s (.int i t) {s with toks:=n}:=⟨.toks _ _,_,rfl⟩
theorem fW {i:Gj}:Ev' prog w ok (.str i) s (.str i t) {s with toks:=n}:=⟨.toks _ _,_,rfl⟩
theorem jD (x:Array α): ∀(n:Nat) (Ok:Array α),(Gc n x).foldl (· ++·) Ok=Ok++(bl x.toList n).toArray
 |0,Ok=>by rfl
 |n+1,Ok=>by rw [Ke,List.foldl_cons,jD x n,mE,Array.append_assoc];congr 1;apply Array.ext';simp
theorem jU (xs:List α): ∀n,(bl xs n).length=n*xs.length
 |0=>by rw [Nat.zero_mul];rfl
 |n+1=>by rw [mE,FP,jU xs n,JU];exact GX _ _
set_option tactic.hygienic true in
theorem z4 {n:Int} (h0:0<=n) (hx:x.length<=1) (hn:n<=1000000)
  (h: ∀t' k,Q (.str ⟨(bl x.cps.toList n.toNat).toArray⟩ t') {s with toks:=k}):WP (FN prog w) A (Mz .Mult (.str x t) (.int n u)) Q s:=by
 refine PySem.P.mul_str ?_ ?_ ?_ ?_
 ·have h1: ¬n< -(2^63:Int):=by exact J0 (IR (by decide) h0)
  have h2: ¬n>=2^63:=by exact Mf (Ib hn (by decide))
  rw [decide_eq_false h1,decide_eq_false h2];rfl
 ·intro h1 h2 h3
  haveI:(1:Int)<=(2^63-1)/n:=(Int.le_ediv_iff_mul_le (by lia)).mpr (by lia)
  lia
 ·intro h1 h2
  haveI h3:x.length*n.toNat<=1000000:=Fx (H2 _ hx) (by exact A_ hn)
  unfold Jg;simp [KW];exact Fx h3 (by decide)
 ·haveI e0: ∀m:Nat,x.length=0->(bl x.cps.toList m)=[]:=λm hm=>by
   haveI:x.cps.toList=[]:=J3 (by simpa [IB]using hm)
   rw [this];induction m with
   |zero=>rfl
   |succ m ih=>rw [mE,ih];rfl
  split
  ·haveI hz:n.toNat=0:=by lia
   have:=h s.toks (s.toks+1);rw [hz]at this;exact⟨by decide,this⟩
  ·split
   ·rename_i h1 h2
    have:=h t s.toks;have e:(Str.mk (bl x.cps.toList n.toNat).toArray)=x:=by
     rcases LB.mp h2 with q|q
     ·haveI:n=1:=by simpa using q
      subst this;show Str.mk (x.cps.toList++[]).toArray=x;simp
     ·have hx0:x.length=0:=by simpa using q
      rw [e0 _ hx0];have:x.cps= #[]:=IV hx0;cases x;simp_all
    rw [e]at this;exact this
   ·have:=h s.toks (s.toks+1)
    haveI e:(Gc n.toNat x.cps).foldl (· ++·) #[]=(bl x.cps.toList n.toNat).toArray:=by rw [jD];simp
    rw [e];refine⟨?_,this⟩;show(bl x.cps.toList n.toNat).toArray.size<=F_;rw [Gn,jU];haveI:n.toNat*x.cps.toList.length<=1000000:=Fx (GS _ (by simpa [IB]using hx)) (by lia)
    rw [KW];exact Fx this (by decide)
theorem xV {l:Gb} {ws:List FR} (hl:IsL s.heap l vs) (hb:IsL s.heap b ws)
  (h:Q (.ref s.heap.objs.size) {s with heap:=s.heap.push {cls:= .type "list",data:= .seq (vs++ws).toArray}})
  (OR:vs.length+ws.length<=F_):WP (FN prog w) A (Mz .Add (.ref l) (.ref b)) Q s:=by
 obtain⟨⟨cls,dd,data,sl⟩,ho,hc,n,hd⟩:=id hl;obtain⟨⟨cls2,dd2,data2,sl2⟩,RY,Pa,n2,Tz⟩:=id hb;simp only at hc hd Pa Tz;subst hc hd Pa Tz;haveI e:vs.toArray++ws.toArray=(vs++ws).toArray:=by simp
 refine concat_meets ⟨_,ho,rfl⟩ ⟨_,RY,rfl⟩ noFill_list_add seq_list_add PySem.F.slot_list_add PySem.F.entry_list_add (PySem.F.args_list_add_2 _ _) (list_addW l b vs.toArray ws.toArray n n2 dd dd2 sl sl2 (by simpa using OR)) ⟨ho,RY, ?_⟩
 rw [e];exact h
theorem qq {l:Gb} {n:Int} (hl:IsL s.heap l vs) (h0:0<=n) (h1:vs.length<=1) (hn:n<=1000000)
  (h:Q (.ref s.heap.objs.size) {s with heap:=s.heap.push {cls:= .type "list",data:= .seq (bl vs n.toNat).toArray}}):WP (FN prog w) A (Mz .Mult (.ref l) (.int n u)) Q s:=by
 obtain⟨⟨cls,dd,data,sl⟩,ho,hc,k,hd⟩:=id hl;simp only at hc hd;subst hc hd;have hb:vs.toArray.size*n.toNat<=1000000:=Fx (H2 _ (by simpa using h1)) (by exact A_ hn)
 haveI e:(Gc (if vs.toArray.isEmpty=FE then 0 else n.toNat) vs.toArray).foldl (· ++·) #[]=(bl vs n.toNat).toArray:=by
  rw [jD];by_cases hv:vs=[]
  ·subst hv
   haveI: ∀m,bl ([]:List FR) m=[]:=λm=>by induction m with|zero=>rfl|succ m ih=>rw [mE,ih];rfl
   simp [this]
  ·haveI:vs.toArray.isEmpty=Fz:=by simpa using hv
   rw [this];simp
 refine wpAny_binaryOp_repeat_ref (T:= "list") (U:= "int") (by decide) ⟨_,ho,rfl⟩ (λs'=>typeIs_int s' n u) noFill_list_mul PySem.F.fills_int_mul M' repeat_list PySem.F.slot_int_index.lookup ?_
 refine KI M' (typeIs_int s n u) PySem.F.entry_int_rmul (PySem.F.args_int_rmul_2 _ _) (lm_int_rmul_list_any n u l vs.toArray k dd sl) ⟨ho,⟨rfl,⟨_,ho,rfl⟩, ?_⟩⟩;refine KI PySem.F.slot_list_mul ⟨_,ho,rfl⟩ PySem.F.entry_list_mul (PySem.F.args_list_mul_2 _ _) (lm_list_mul_any l vs.toArray k dd sl n u ?_ ?_ ?_) ⟨ho, ?_⟩
 ·unfold Builtin.List.listFitsIndex
  simp;exact⟨(IR (by decide) h0),(Ib hn (by decide))⟩
 ·exact Ix (Fx hb (by decide))
 ·unfold LU
  haveI Pq:vs.length*n.toNat<=1000000:=by simpa using hb
  simp [KW];exact Fx Pq (by decide)
 ·rw [e]
  exact h
theorem av.rep (q:av prog w ok h xs vs): ∀n,av prog w ok h (bl xs n) (bl vs n)
 |0=>rfl
 |n+1=>q.append (av.rep q n)
theorem g8 (ho:ce ok s.heap) (h1:Sys s.heap) (q:av prog w ok s.heap xs vs):
  Ev' prog w ok (.list xs) s (.ref s.heap.objs.size) {s with heap:=s.heap.push {cls:= .type "list",data:= .seq vs.toArray},toks:=n}:=
 ⟨.pushed _ _ _,_,vs,rfl,ho _ (FH _),h1.ne (cW _),⟨_,Gt _ rfl,rfl,_,rfl⟩,q.keep (HK.push _ _)⟩
theorem ai {c:Prop} [Decidable c] {x y:α} (h:(if c then Fv x else Fw)=Fv y):c/\x=y:=by
 by_cases hc:c
 ·rw [if_pos hc]at h;exact⟨hc,FG h⟩
 ·rw [if_neg hc]at h;cases h
theorem BN {a b:Int} (hp:pII op a b=Fv c):WP (FN prog w) A (Mz op (.int a t) (.int b u)) (Ev' prog w ok c s) s:=by
 cases op with
 |Add=>cases hp;exact add_int bI
 |Sub=>cases hp;exact sub_int bI
 |Mult=>obtain⟨hc,rfl⟩:=ai hp;exact mul_int bI hc
 |FloorDiv=>obtain⟨hc,rfl⟩:=ai hp;exact floordiv_int hc.1 bI (.inl hc.2)
 |Mod=>obtain⟨hc,rfl⟩:=ai hp;exact mod_int hc bI
 |Pow=>obtain⟨hc,rfl⟩:=ai hp;exact pow_int hc.1 hc.2 bI
 |LShift=>obtain⟨hc,rfl⟩:=ai hp;exact lshift_int hc.1 hc.2 bI
 |RShift=>obtain⟨hc,rfl⟩:=ai hp;exact rshift_int hc bI
 |BitAnd=>cases hp;exact and_int bI
 |BitOr=>cases hp;exact or_int bI
 |BitXor=>cases hp;exact xor_int bI
 |_=>exact a9 hp
theorem ox {a b:PV} {va vb:FR} (hp:dN op a b=Fv c) (ho:ce ok s.heap) (h1:Sys s.heap)
  (ra:Rep prog w ok s.heap a va) (rb:Rep prog w ok s.heap b vb):WP (FN prog w) A (Mz op va vb) (Ev' prog w ok c s) s:=by
 cases a with
 |int a=>
  obtain⟨t,rfl⟩:=ra;cases b with
  |int b=>obtain⟨u,rfl⟩:=rb;exact BN hp
  |_=>exact a9 hp
 |str a=>
  obtain⟨t,rfl⟩:=ra;cases b with
  |str b=>
   obtain⟨u,rfl⟩:=rb;cases op with
   |Add=>obtain⟨hc,rfl⟩:=ai hp;exact PyProof.Rows.add_str (λ_ _=>fW) hc
   |_=>exact a9 hp
  |int b=>
   obtain⟨u,rfl⟩:=rb;cases op with
   |Mult=>obtain⟨hc,rfl⟩:=ai hp;exact z4 hc.1 hc.2.1 hc.2.2 λ_ _=>fW
   |_=>exact a9 hp
  |_=>exact a9 hp
 |list xs=>
  obtain⟨a,vs,rfl,_,_,l,q⟩:=ra;cases b with
  |list ys=>
   obtain⟨b,us,rfl,_,_,l',q'⟩:=rb;cases op with
   |Add=>
    obtain⟨hc,rfl⟩:=ai hp;exact xV l l' (g8 ho h1 (q.append q')) (by rw [q.length,q'.length,<-FP];exact hc)
   |_=>exact a9 hp
  |int n=>
   obtain⟨u,rfl⟩:=rb;cases op with
   |Mult=>obtain⟨hc,rfl⟩:=ai hp;exact qq l hc.1 (q.length.symm▸hc.2.1) hc.2.2 (g8 ho h1 (q.rep _))
   |_=>exact a9 hp
  |_=>exact a9 hp
 |_=>exact a9 hp
theorem zq {x:PV} {b:Bool} (hp:ez x=Fv b) (r:Rep prog w ok s.heap x v):
  WP (FN prog w) A (truthy v) (λb' s'=>b'=b/\Ext s s') s:=by
 cases x with
 |bool b=>cases (show v= .bool _ from r);cases hp;exact wpAny_truthy_bool ⟨rfl,.refl _⟩
 |int i=>obtain⟨t,rfl⟩:=r;cases hp;exact truthy_int ⟨rfl,.refl _⟩
 |str x=>
  obtain⟨hc,rfl⟩:=ai hp;obtain⟨t,rfl⟩:=r;refine PySem.P.truthy_str (by exact Mf (aPw (FF (H4 hc) (by decide)))) ⟨?_,.toks _ _⟩
  rw [Mr];simp
 |list xs=>
  obtain⟨hc,rfl⟩:=ai hp;obtain⟨a,vs,rfl,_,_,l,q⟩:=r;refine wpAny_truthy_list l (by rw [Gn,q.length];exact aPw (FF (H4 hc) (by decide))) ⟨?_,.toks _ _⟩
  have:=q.length;cases vs with
  |nil=>have:xs=[]:=J3 this.symm;subst this;rfl
  |cons v vs=>cases xs with
   |nil=>cases this
   |cons x xs=>rfl
 |none=>cases (show v= .none from r);cases hp;exact truthy_none ⟨rfl,.refl _⟩
 |_=>exact a9 hp
end
end UK
namespace UK
open PySem PySem.W PySem.Calls PyProof.Rows PySem.SeqAt
variable {prog:HE} {w:HR} {A:HB} {s:FL} {ok:Gb->Prop} {f:PV->PV->Option Bool} {xs ys:List PV} {h:Ht} {vs us:List FR} {n:Nat} {a b x y:PV} {va vb:FR} {k:Bool} {op:NC} {l:Gb}
section
@[elab_as_elim] theorem qf {P:List PV->List PV->Bool->Prop} {b:Bool} (h:eS f xs ys=Fv b) (h0:P [] [] FE)
  (h1: ∀x xs y ys a b,f x y=Fv a->P xs ys b->P (x::xs) (y::ys) (a&&b)):P xs ys b:=by
 induction xs generalizing ys b with
 |nil=>
  cases ys with
  |nil=>exact FG h▸h0
  |cons=>exact a9 h
 |cons x xs ih=>
  cases ys with
  |nil=>exact a9 h
  |cons y ys=>exact ac h λa ha h=>ac h λb hb h=>FG h▸h1 x xs y ys a b ha (ih hb)
theorem xB {b:Bool} (h:eS f xs ys=Fv b):
  ∃e:Nat->Bool,(∀(j:Nat) (x y:PV),xs[j]? =Fv x->ys[j]? =Fv y->f x y=Fv (e j))/\(Kq xs.length).all e=b:=by
 refine qf h ⟨λ_=>FE,λj x y h=>(nomatch h),rfl⟩ λx xs y ys a b ha ⟨e,h1,h2⟩=>⟨λj=>Nat.casesOn j a e,λj u v hu hv=> ?_, ?_⟩
 ·cases j with
  |zero=>exact FG hu▸FG hv▸ha
  |succ j=>exact h1 j u v hu hv
 ·rw [FY,List.range_succ_eq_map,N4,List.all_map,<-h2]
  rfl
theorem zR {a:Gb} (x:IsL h a vs) (y:IsL h a us):vs=us:=by obtain⟨o,e1,_,n,d1⟩:=x;obtain⟨o',e2,_,m,d2⟩:=y;exact List.toArray_inj (Data.seq.inj (d1.symm.trans ((congrArg Obj.data (FG (e1.symm.trans e2))).trans d2))).1
theorem zQ {a:Gb} (x:IsT h a vs) (y:IsT h a us):vs=us:=by obtain⟨o,e1,_,n,d1⟩:=x;obtain⟨o',e2,_,m,d2⟩:=y;exact List.toArray_inj (Data.seq.inj (d1.symm.trans ((congrArg Obj.data (FG (e1.symm.trans e2))).trans d2))).1
@[elab_as_elim] theorem jy {P:PV->PV->FR->FR->Bool->Prop} (h:dD (n+1) a b=Fv k) (ra:Rep prog w ok s.heap a va) (rb:Rep prog w ok s.heap b vb)
  (hi: ∀i j t u,P (.int i) (.int j) (.int i t) (.int j u) (i==j)) (hs: ∀i j t u,P (.str i) (.str j) (.str i t) (.str j u) (i==j))
  (hl: ∀xs ys a b vs us k,IsL s.heap a vs->IsL s.heap b us->av prog w ok s.heap xs vs->av prog w ok s.heap ys us->(if xs.length=ys.length then eS (dD n) xs ys else Fv Fz)=Fv k->P (.list xs) (.list ys) (.ref a) (.ref b) k)
  (ht: ∀xs ys a b vs us k,IsT s.heap a vs->IsT s.heap b us->av prog w ok s.heap xs vs->av prog w ok s.heap ys us->xs.length=ys.length->eS (dD n) xs ys=Fv k->P (.tuple xs) (.tuple ys) (.ref a) (.ref b) k):P a b va vb k:=by
 cases a with
 |int i=>
  cases b with
  |int j=>obtain⟨t,rfl⟩:=ra;obtain⟨u,rfl⟩:=rb;exact FG h▸hi i j t u
  |_=>exact a9 h
 |str i=>
  cases b with
  |str j=>obtain⟨t,rfl⟩:=ra;obtain⟨u,rfl⟩:=rb;exact FG h▸hs i j t u
  |_=>exact a9 h
 |list xs=>
  cases b with
  |list ys=>
   obtain⟨a,vs,rfl,_,_,l,q⟩:=ra;obtain⟨b,us,rfl,_,_,l',q'⟩:=rb;exact hl xs ys a b vs us k l l' q q' h
  |_=>exact a9 h
 |tuple xs=>
  cases b with
  |tuple ys=>
   obtain⟨a,vs,rfl,_,_,l,q⟩:=ra;obtain⟨b,us,rfl,_,_,l',q'⟩:=rb;exact d0 h (λe h=>ht xs ys a b vs us k l l' q q' e h) λ_ h=>a9 h
  |_=>exact a9 h
 |_=>exact a9 h
theorem xA (n:Nat): ∀{a b:PV} {va vb:FR} {k:Bool},dD n a b=Fv k->Rep prog w ok s.heap a va->Rep prog w ok s.heap b vb->va=vb->k=FE:=by
 induction n with
 |zero=>exact λh _ _ _=>a9 h
 |succ n ih=>
  have SF: ∀{xs ys:List PV} {k:Bool},eS (dD n) xs ys=Fv k-> ∀vs:List FR,av prog w ok s.heap xs vs->av prog w ok s.heap ys vs->k=FE:=λh=>
   qf h (λ_ _ _=>rfl) λx xs y ys a b ha Q4 vs ⟨v,r,e,r1,t1⟩ ⟨v',r',e',r2,t2⟩=>by cases e;cases e';exact GG.mpr ⟨ih ha r1 r2 rfl,Q4 r t1 t2⟩
  intro a b va vb k h ra rb;refine jy h ra rb (λi j t u e=> ?_) (λi j t u e=> ?_) (λxs ys a b vs us k l l' q q' h e=> ?_) λxs ys a b vs us k l l' q q' _ h e=> ?_
  ·cases e;exact beq_self_eq_true _
  ·cases e;exact beq_self_eq_true _
  ·cases e
   obtain rfl:=zR l l';exact SF ((if_pos (q.length.symm.trans q'.length)).symm.trans h) _ q q'
  ·cases e
   obtain rfl:=zQ l l';exact SF h _ q q'
theorem j6 (ih: ∀{A:HB} {a b:PV} {va vb:FR} {k:Bool},A.units+n<No->dD n a b=Fv k->Rep prog w ok s.heap a va->Rep prog w ok s.heap b vb->RcAt A s va vb k/\EqAt A s va vb k) (hu:A.units+(n+1)<No)
 (hk:eS (dD n) xs ys=Fv k) (q:av prog w ok s.heap xs vs) (q':av prog w ok s.heap ys us):
  ∃e:Nat->Bool,(∀j (h1:j<vs.toArray.size) (h2:j<us.toArray.size),EqAt A.in1 s vs.toArray[j] us.toArray[j] (e j))/\(Kq vs.toArray.size).all e=k:=by
 obtain⟨e,h1,h2⟩:=xB hk;refine⟨e,λj hj1 hj2=> ?_,by rw [Gn,q.length];exact h2⟩
 have hx:j<xs.length:=q.length▸hj1;have hy:j<ys.length:=q'.length▸hj2;obtain⟨v,e1,r1⟩:=q.get (Ge hx);obtain⟨u,e2,r2⟩:=q'.get (Ge hy);show EqAt A.in1 s vs[j] us[j] (e j);rw [N3 e1|>.2,N3 e2|>.2];exact(ih (A:=A.in1) (FF (FI (Gh A.units 1 n)) hu) (h1 j _ _ (Ge hx) (Ge hy)) r1 r2).2
theorem tH (q:av prog w ok h xs vs) (q':av prog w ok h ys us) (e:xs.length=ys.length):vs.toArray.size=us.toArray.size:=q.length.trans (e.trans q'.length.symm)
theorem AB (q:av prog w ok h xs vs) (q':av prog w ok h ys us) (e:xs.length≠ys.length):(vs.toArray.size !=us.toArray.size)=FE:=bne_iff_ne.mpr λd=>e (q.length.symm.trans (d.trans q'.length))
theorem w9 (n:Nat): ∀{A:HB} {a b:PV} {va vb:FR} {k:Bool},A.units+n<No->dD n a b=Fv k->Rep prog w ok s.heap a va->Rep prog w ok s.heap b vb->
  RcAt A s va vb k/\EqAt A s va vb k:=by
 induction n with
 |zero=>exact λ_ h _ _=>a9 h
 |succ n ih=>
  intro A a b va vb k hu h ra rb;have SJ:A.units<No:=FF (FZ _ _) hu;have fin: ∀{a b:Gb},va= .ref a->vb= .ref b->RcAt A s (.ref a) (.ref b) k->RcAt A s (.ref a) (.ref b) k/\EqAt A s (.ref a) (.ref b) k:=λ{a b} e1 e2 rc=>⟨rc,by
   by_cases Pl:a=b
   ·haveI hk:=xA _ h ra rb (by rw [e1,e2,Pl])
    rw [hk,Pl];exact EqAt.same _
   ·exact EqAt.of_refs Pl rc⟩
  revert fin;refine jy h ra rb (λi j t u _=>⟨RcAt.int_int _ _ _ _,EqAt.int_int _ _ _ _⟩) (λi j t u _=>⟨RcAt.str_str _ _ _ _,EqAt.str_str _ _ _ _⟩) (λxs ys a b vs us k l l' q q' h fin=>fin rfl rfl ?_)
   λxs ys a b vs us k l l' q q' hl h fin=>fin rfl rfl ?_
  ·refine d0 h (λhl h=> ?_) λhl h=>FG h▸RcAt.lists_lengths l l' (AB q q' hl) SJ
   obtain⟨e,h1,h2⟩:=j6 (A:=A) ih hu h q q';exact h2▸RcAt.lists l l' (tH q q' hl) SJ h1
  ·obtain⟨e,h1,h2⟩:=j6 (A:=A) ih hu h q q'
   have:=RcAt.tuples (A:=A) (e:=e) l l' SJ h1;rw [<-tH q q' hl,Ld,h2,beq_self_eq_true,Bool.and_true]at this;exact this
theorem pU: ∀{l:List Gj} {vs:List FR},kQ ys=Fv l->av prog w ok s.heap ys vs-> ∃ts:List (Gj×MR),vs=ts.map (λp=>Kh p.1 p.2)/\ts.map (·.1)=l:=by
 induction ys with
 |nil=>exact λh q=>⟨[],q,FG h⟩
 |cons y ys ih=>
  intro l _ h ⟨v,r,e,ry,tl⟩;cases e;cases y with
  |str y=>
   obtain⟨t,rfl⟩:=ry;exact aM (P:=λl=> ∃ts:List (Gj×MR),.str y t::r=ts.map (λp=>Kh p.1 p.2)/\ts.map (·.1)=l) h λl' h'=>(ih h' tl).elim λts q=>⟨(y,t)::ts,congrArg _ q.1,congrArg _ q.2⟩
  |_=>exact a9 h
theorem i': ∀{l:List Int} {vs:List FR},dP ys=Fv l->av prog w ok s.heap ys vs-> ∃ts:List (Int×MR),vs=ts.map (λp=>IT p.1 p.2)/\ts.map (·.1)=l:=by
 induction ys with
 |nil=>exact λh q=>⟨[],q,FG h⟩
 |cons y ys ih=>
  intro l _ h ⟨v,r,e,ry,tl⟩;cases e;cases y with
  |int y=>
   obtain⟨t,rfl⟩:=ry;exact aM (P:=λl=> ∃ts:List (Int×MR),.int y t::r=ts.map (λp=>IT p.1 p.2)/\ts.map (·.1)=l) h λl' h'=>(ih h' tl).elim λts q=>⟨(y,t)::ts,congrArg _ q.1,congrArg _ q.2⟩
  |_=>exact a9 h
noncomputable def wx (x:Gj):FR->Bool
 | .str z _=>z==x
 |_=>Fz
noncomputable def wy (x:Int):FR->Bool
 | .int z _=>z==x
 |_=>Fz
theorem wK {α β:Type} {f:α×β->FR} {P:FR->Bool} [BEq α] [LawfulBEq α] (x:α) (h: ∀p,P (f p)=(p.1==x)) (ts:List (α×β)):(ts.map f).toArray.any P=(ts.map (·.1)).contains x:=by
 rw [List.any_toArray,List.any_map];induction ts with
 |nil=>rfl
 |cons p ts ih=>rw [LF,Gf,JH,ih];exact congrArg (· ||_) ((h p).trans Bool.beq_comm)
theorem Aw (x:Gj) (ts:List (Gj×MR)):(ts.map (λp=>Kh p.1 p.2)).toArray.any (wx x)=(ts.map (·.1)).contains x:=wK x (λ_=>rfl) ts
theorem Ax (x:Int) (ts:List (Int×MR)):(ts.map (λp=>IT p.1 p.2)).toArray.any (wy x)=(ts.map (·.1)).contains x:=wK x (λ_=>rfl) ts
theorem jR {K:Type} [DecidableEq K] (k:K) (ks:List K): ∀(vs:List FR),ks.length=vs.length->(Mu (ks.zip vs) k).isSome=ks.contains k:=by
 induction ks with
 |nil=>exact λ_ _=>rfl
 |cons k' ks ih=>
  intro vs h;cases vs with
  |nil=>exact nomatch h
  |cons v vs=>
   unfold Mu at ih ⊢
   rw [LI,Mp,JH,<-ih vs (II h)];by_cases e:k'=k
   ·subst e;simp
   ·rw [beq_eq_false_iff_ne.mpr (J_ e),decide_eq_false e];rfl
theorem AM {x:FR} {e:FR->Bool} (hl:IsL s.heap l vs) (he: ∀y∈vs.toArray,EqAt A.in1 s y x (e y)) (hk:vs.toArray.any e=k) (QF:op= .In∨op= .NotIn):
  WP (FN prog w) A (JB op x (.ref l)) (Ev' prog w ok (.bool (if op= .In then k else !k)) s) s:=by
 subst hk;rcases QF with rfl|rfl
 ·exact in_listAt _ hl he ⟨.refl _,rfl⟩
 ·exact notIn_listAt _ hl he ⟨.refl _,rfl⟩
theorem wm {vx vy:FR} (h:pin x y=Fv k) (rx:Rep prog w ok s.heap x vx) (ry:Rep prog w ok s.heap y vy) (op:NC) (QF:op= .In∨op= .NotIn):
  WP (FN prog w) A (JB op vx vy) (Ev' prog w ok (.bool (if op= .In then k else !k)) s) s:=by
 cases y with
 |list ys=>
  obtain⟨a,vs,rfl,_,_,l,q⟩:=ry;cases x with
  |str z=>
   obtain⟨t,rfl⟩:=rx;obtain⟨l',h',rfl⟩:=Gk.mp h;obtain⟨ts,rfl,rfl⟩:=pU h' q;refine AM l (e:=wx z) (λy hy=> ?_) (Aw z ts) QF;obtain⟨p,_,rfl⟩:=Ga.mp (List.mem_toArray.mp hy);exact EqAt.str_str _ _ _ _
  |int z=>
   obtain⟨t,rfl⟩:=rx;obtain⟨l',h',rfl⟩:=Gk.mp h;obtain⟨ts,rfl,rfl⟩:=i' h' q;refine AM l (e:=wy z) (λy hy=> ?_) (Ax z ts) QF;obtain⟨p,_,rfl⟩:=Ga.mp (List.mem_toArray.mp hy);exact EqAt.int_int _ _ _ _
  |_=>exact a9 h
 |str y=>
  obtain⟨u,rfl⟩:=ry;cases x with
  |str z=>
   obtain⟨t,rfl⟩:=rx;cases h;rcases QF with rfl|rfl
   ·exact PyProof.Rows.in_str ⟨.refl _,rfl⟩
   ·exact PyProof.Rows.notIn_str ⟨.refl _,rfl⟩
  |_=>exact a9 h
 |dictS ks us=>
  obtain⟨a,vs,rfl,_,hs,l,q⟩:=ry;cases x with
  |str z=>
   obtain⟨t,rfl⟩:=rx;cases h;rcases QF with rfl|rfl
   ·exact wpAny_in_of (M9 prog w _ t) hs (Jz l.2) ⟨.toks _ _,by rw [jR _ _ _ l.1];rfl⟩
   ·exact wpAny_notIn_of (M9 prog w _ t) hs (Jz l.2) ⟨.toks _ _,by rw [jR _ _ _ l.1];rfl⟩
  |_=>exact a9 h
 |_=>exact a9 h
theorem qH (hu:A.units+50<No) (h:dD 8 a b=Fv k) (ra:Rep prog w ok s.heap a va) (rb:Rep prog w ok s.heap b vb):
  WP (FN prog w) A (JB .NotEq va vb) (Ev' prog w ok (.bool (!k)) s) s:=by
 have SJ:A.units<No:=FF (FZ _ _) hu;have hu8:A.units+(7+1)<No:=FF (G_ (by decide) _) hu
 refine jy h ra rb (λi j t u=>ne_int ⟨.refl _,rfl⟩) (λi j t u=>PyProof.Rows.ne_str ⟨.refl _,rfl⟩) (λxs ys a b vs us k l l' q q' h=> ?_) λxs ys a b vs us k l l' q q' hl h=> ?_
 ·refine d0 h (λhl h=> ?_) λhl h=>FG h▸RcNeAt.lists_lengths l l' (AB q q' hl) SJ prog w _ _ ⟨.refl _,rfl⟩
  obtain⟨e,h1,h2⟩:=j6 (A:=A) (w9 7) hu8 h q q';exact h2▸RcNeAt.lists l l' (tH q q' hl) SJ h1 prog w _ _ ⟨.refl _,rfl⟩
 ·obtain⟨e,h1,h2⟩:=j6 (A:=A) (w9 7) hu8 h q q'
  have:=RcNeAt.tuples (A:=A) (e:=e) l l' SJ h1;rw [<-tH q q' hl,Ld,h2,beq_self_eq_true,Bool.and_true]at this;exact this prog w _ _ ⟨.refl _,rfl⟩
theorem BK (h:pis a b=Fv k) (ra:Rep prog w ok s.heap a va) (rb:Rep prog w ok s.heap b vb):WP (FN prog w) A (JB .Is va vb) (Ev' prog w ok (.bool k) s) s:=by
 cases a with
 |bool i=>
  cases b with
  |bool j=>cases (show va= .bool _ from ra);cases (show vb= .bool _ from rb);cases h;exact is_bool ⟨.refl _,rfl⟩
  |_=>exact a9 h
 |none=>
  cases b with
  |none=>cases (show va= .none from ra);cases (show vb= .none from rb);cases h;exact is_none_none ⟨.refl _,rfl⟩
  |_=>exact a9 h
 |int i=>
  cases b with
  |none=>obtain⟨t,rfl⟩:=ra;cases (show vb= .none from rb);cases h;exact is_int_none ⟨.refl _,rfl⟩
  |_=>exact a9 h
 |_=>exact a9 h
theorem zA (h:CY a b=Fv k) (ra:Rep prog w ok s.heap a va) (rb:Rep prog w ok s.heap b vb):WP (FN prog w) A (JB .IsNot va vb) (Ev' prog w ok (.bool k) s) s:=by
 cases a with
 |bool i=>
  cases b with
  |bool j=>cases (show va= .bool _ from ra);cases (show vb= .bool _ from rb);cases h;exact isnot_bool ⟨.refl _,rfl⟩
  |_=>exact a9 h
 |none=>
  cases b with
  |none=>cases (show va= .none from ra);cases (show vb= .none from rb);cases h;exact isnot_none_none ⟨.refl _,rfl⟩
  |_=>exact a9 h
 |str i=>
  cases b with
  |none=>obtain⟨t,rfl⟩:=ra;cases (show vb= .none from rb);cases h;exact isnot_str_none ⟨.refl _,rfl⟩
  |_=>exact a9 h
 |_=>exact a9 h
theorem BG (h:plt a b=Fv k) (ra:Rep prog w ok s.heap a va) (rb:Rep prog w ok s.heap b vb):WP (FN prog w) A (JB .Lt va vb) (Ev' prog w ok (.bool k) s) s:=by
 cases a with
 |int i=>
  cases b with
  |int j=>obtain⟨t,rfl⟩:=ra;obtain⟨u,rfl⟩:=rb;cases h;exact lt_int ⟨.refl _,rfl⟩
  |_=>exact a9 h
 |_=>exact a9 h
theorem BH (h:ple a b=Fv k) (ra:Rep prog w ok s.heap a va) (rb:Rep prog w ok s.heap b vb):WP (FN prog w) A (JB .LtE va vb) (Ev' prog w ok (.bool k) s) s:=by
 cases a with
 |int i=>
  cases b with
  |int j=>obtain⟨t,rfl⟩:=ra;obtain⟨u,rfl⟩:=rb;cases h;exact le_int ⟨.refl _,rfl⟩
  |_=>exact a9 h
 |_=>exact a9 h
theorem ui (hu:A.units+50<No) (h:gk op a b=Fv k) (ra:Rep prog w ok s.heap a va) (rb:Rep prog w ok s.heap b vb):
  WP (FN prog w) A (JB op va vb) (Ev' prog w ok (.bool k) s) s:=by
 cases op with
 |Eq=>exact(w9 8 (by exact FF (G_ (by decide) _) hu) h ra rb).1 prog w _ _ ⟨.refl _,rfl⟩
 |NotEq=>exact aM (P:=λk=>WP _ A (JB .NotEq va vb) (Ev' prog w ok (.bool k) s) s) h λk' h'=>qH hu h' ra rb
 |In=>exact wm (A:=A) h ra rb .In (.inl rfl)
 |NotIn=>exact aM (P:=λk=>WP _ A (JB .NotIn va vb) (Ev' prog w ok (.bool k) s) s) h λk' h'=>wm (A:=A) h' ra rb .NotIn (.inr rfl)
 |Is=>exact BK h ra rb
 |IsNot=>exact zA h ra rb
 |Lt=>exact BG h ra rb
 |LtE=>exact BH h ra rb
 |_=>exact a9 h
end
theorem jB (x:Int): ∀l,(ro x l).Perm (x::l)
 |[]=> .refl _
 |y::ys=>by
  unfold ro;split
  ·exact .refl _
  ·exact((jB x ys).cons y).trans (.swap x y ys)
theorem m9: ∀l,(eh l).Perm l
 |[]=> .refl _
 |x::xs=>(jB x _).trans ((m9 xs).cons x)
set_option tactic.hygienic true in
theorem jZ (x:Int): ∀l:List Int,l.Pairwise (· <=·)->(ro x l).Pairwise (· <=·)
 |[],_=>by simp [ro]
 |y::ys,h=>by
  unfold ro;have h1:=JG.mp h;split
  ·rename_i QA
   refine JG.mpr ⟨λz hz=> ?_,h⟩;rcases FS.mp hz with rfl|hz
   ·exact QA
   ·exact IR QA (h1.1 z hz)
  ·rename_i QA
   refine JG.mpr ⟨λz hz=> ?_,jZ x ys h1.2⟩;rcases FS.mp ((jB x ys).mem_iff.mp hz)with rfl|hz
   ·exact I3 (Mg QA)
   ·exact h1.1 z hz
theorem jb: ∀l,(eh l).Pairwise (· <=·)
 |[]=> .nil
 |x::xs=>jZ x _ (jb xs)
theorem ia: ∀{l l':List Int},l.Perm l'->l.Pairwise (· <=·)->l'.Pairwise (· <=·)->l=l'
 |[],l',p,_,_=>(List.nil_perm.mp p).symm
 |x::xs,[],p,_,_=>absurd p.symm (by simp)
 |x::xs,y::ys,p,h,h'=>by
  have h1:=JG.mp h;have h2:=JG.mp h';haveI QA:x=y:=by
   haveI a:x<=y:=by
    rcases FS.mp (p.symm.mem_iff.mp FT)with e|e
    ·lia
    ·exact h1.1 y e
   haveI b:y<=x:=by
    rcases FS.mp (p.mem_iff.mp FT)with e|e
    ·lia
    ·exact h2.1 x e
   exact Int.le_antisymm a b
  subst QA;rw [ia ((List.perm_cons x).mp p) h1.2 h2.2]
variable {c:PV} {t:MR} {v:FR}
section
theorem av.at (q:av prog w ok h xs vs) {i:Nat} (e:xs[i]? =Fv x): ∃v,vs.toArray[i]? =Fv v/\Rep prog w ok h x v:=by obtain⟨v,a,b⟩:=q.get e;exact⟨v,by simpa using a,b⟩
theorem zx {x:Gj} {ks:List Gj}: ∀{us:List PV} {vs:List FR} {r:PV},ri x ks us=Fv r->ks.length=vs.length->av prog w ok s.heap us vs-> ∃v,Mu (ks.zip vs) x=Fv v/\Rep prog w ok s.heap r v:=by
 induction ks with
 |nil=>exact λh _ _=>a9 h
 |cons k ks ih=>
  intro us vs r h hl q;cases us with
  |nil=>exact a9 h
  |cons u us=>
   obtain⟨v,t,rfl,q,q'⟩:=q;rw [LI,Mu,Mp];refine d0 h (λhx h=> ?_) λhx h=> ?_
   ·rw [decide_eq_true hx.symm]
    exact⟨v,rfl,FG h▸q⟩
   ·rw [decide_eq_false (J_ hx)]
    exact ih h (II hl) q'
set_option tactic.hygienic true in
theorem oW {i:Int} {a:Gb} (h:c_ (.list xs) (.int i)=Fv c) (l:IsL s.heap a vs) (q:av prog w ok s.heap xs vs):
  WP (FN prog w) A (O6 (.ref a) (.int i t)) (Ev' prog w ok c s) s:=by
 refine ac h λk hk h=>d0 h (λhb h=> ?_) λ_ h=>a9 h;obtain⟨v,e,r⟩:=q.at h;unfold KA at hk;by_cases h0:0<=i
 ·haveI:k=i.toNat:=by
   simp only [show¬i<0 by exact J0 h0,if_false]at hk
   split at hk<;>simp at hk
   exact Ha hk
  subst this;exact wpAny_getItem_list l h0 hb.2 e ⟨.refl _,r⟩
 ·have h1:k=(i+xs.length).toNat/\ -(xs.length:Int)<=i:=by
   simp only [show i<0 by exact Mg h0,if_true]at hk
   split at hk<;>simp at hk
   rename_i hc;simp at hc;exact⟨hk.symm,by lia⟩
  have hs:vs.toArray.size=xs.length:=by rw [Gn,q.length]
  refine wpAny_getItem_list_neg l (by exact Mg h0) (by rw [hs];exact h1.2) hb.1 (x:=v) ?_ ⟨.refl _,r⟩
  rw [hs,<-h1.1];exact e
theorem zB (h:c_ a b=Fv c) (ra:Rep prog w ok s.heap a va) (rb:Rep prog w ok s.heap b vb):
  WP (FN prog w) A (O6 va vb) (Ev' prog w ok c s) s:=by
 cases a with
 |list xs=>
  cases b with
  |int i=>
   obtain⟨a,vs,rfl,_,_,l,q⟩:=ra;obtain⟨t,rfl⟩:=rb;exact oW h l q
  |_=>exact a9 h
 |dictS ks us=>
  cases b with
  |str z=>
   obtain⟨a,vs,rfl,_,_,l,q⟩:=ra;obtain⟨u,rfl⟩:=rb;obtain⟨v,e,r⟩:=zx h l.1 q;exact wpAny_getItem_of (M9 prog w z u) (Jz l.2) e ⟨.toks _ _,r⟩
  |_=>exact a9 h
 |_=>exact a9 h
theorem mq {z:PV} (h:c_ x y=Fv z) (r:Rep prog w ok s.heap x v): ∃T id,M6 (.type T) "__getitem__" =pure (Fv (.builtin id))/\s.TypeIs v T:=by
 have:=pY r;cases x with
 |list xs=>exact⟨_,_,slot_list_getitem.lookup,this⟩
 |dictS ks us=>exact⟨_,_,slot_dict_getitem.lookup,this⟩
 |_=>exact a9 h
theorem gS {o:Option Int} (h:kc x=Fv o) (r:Rep prog w ok s.heap x v): ∃p:Option (Int×MR),v=partValue p/\p.map (·.1)=o:=by
 cases x with
 |none=>cases (show v= .none from r);cases h;exact⟨Fw,rfl,rfl⟩
 |int i=>obtain⟨t,rfl⟩:=r;cases h;exact⟨Fv (_,t),rfl,rfl⟩
 |_=>exact a9 h
theorem oy (p:Option (Int×MR)):IsPart (partValue p) (p.map (·.1)):=by
 cases p with
 |none=>exact .none
 |some q=>exact .int q.1 q.2
theorem av.filterMapIdx (q:av prog w ok h xs vs): ∀js:List Nat,av prog w ok h (js.filterMap (xs[·]?)) (js.filterMap (vs[·]?))
 |[]=>rfl
 |j::js=>by
  cases hx:xs[j]? with
  |none=>
   haveI:vs[j]? =Fw:=by
    rw [List.getElem?_eq_none_iff]at hx ⊢
    rw [q.length];exact hx
   rw [I0,hx,I0,this];exact av.filterMapIdx q js
  |some x=>
   obtain⟨v,e,r⟩:=q.get hx;rw [I0,hx,I0,e];exact⟨v,_,rfl,r,av.filterMapIdx q js⟩
theorem zC (vs:List FR) (lo hi st:Option Int):slicePick vs.toArray lo hi st=(fg vs lo hi st).toArray:=by unfold slicePick fg;simp
theorem v7 {l h st:PV} {vl vh vst:FR} {sl:Gb} (hp:aR a l h st=Fv c) (ho:ce ok s.heap) (h1:Sys s.heap)
  (ra:Rep prog w ok s.heap a va) (rl:Rep prog w ok s.heap l vl) (rh:Rep prog w ok s.heap h vh) (rs:Rep prog w ok s.heap st vst)
  (hs:s.heap.get? sl=Fv {cls:= .type "slice",data:= .fields #[vl,vh,vst]}):WP (FN prog w) A (O6 va (.ref sl)) (Ev' prog w ok c s) s:=by
 cases a with
 |list xs=>
  refine ac hp λlo hl hp=>ac hp λhi hh hp=>ac hp λso VU hp=>d0 hp (λ_ hp=>a9 hp) λh0 hp=> ?_;rw [not_or]at h0;cases hp;obtain⟨pl,rfl,rfl⟩:=gS hl rl;obtain⟨ph,rfl,rfl⟩:=gS hh rh;obtain⟨ps,rfl,rfl⟩:=gS VU rs;obtain⟨a,vs,rfl,_,_,L,q⟩:=ra;refine wpAny_getItem_list_slice (sl:=sl) L ⟨_,hs,rfl,rfl⟩ (oy pl) (oy ph) (oy ps) h0.1 ?_ (by rw [Gn,q.length];exact Hc h0.2)
  rw [zC];refine g8 ho h1 ?_;unfold fg;rw [q.length];exact q.filterMapIdx _
 |str x=>
  refine ac hp λlo hl hp=>ac hp λhi hh hp=>ac hp λso VU hp=>d0 hp (λ_ hp=>a9 hp) λh0 hp=> ?_;rw [not_or]at h0;cases hp;obtain⟨pl,rfl,rfl⟩:=gS hl rl;obtain⟨ph,rfl,rfl⟩:=gS hh rh;obtain⟨ps,rfl,rfl⟩:=gS VU rs;obtain⟨t,rfl⟩:=ra;refine wpAny_getItem_str_slice (l:=pl) (u:=ph) (st:=ps) ⟨_,hs,rfl,rfl⟩ (by simpa using h0.1) ?_
  unfold sliceMade slicePicked;split
  ·exact⟨.refl _,_,rfl⟩
  ·refine⟨?_,fW⟩
   refine Fx ?_ (Hc h0.2);show(List.filterMap _ _).toArray.size<=_;rw [Gn];exact List.length_filterMap_le _ _
 |_=>exact a9 hp
end
variable {ts:List (Int×MR)}
section
theorem td:IntsAre (ts.map (λp=>IT p.1 p.2)) (ts.map (·.1)):=by
 induction ts with
 |nil=>exact .nil
 |cons p ts ih=>exact .cons p.1 p.2 ih
theorem p_: ∀{vs:List FR} {ns:List Int},IntsAre vs ns->av prog w ok h (ns.map .int) vs
 |_,_,.nil=>rfl
 |_,_,.cons n t r=>⟨_,_,rfl,⟨t,rfl⟩,p_ r⟩
theorem jV (val:Nat->Int) (ns:List Int) (h: ∀i (hi:i<ns.length),val i=ns[i]): ∀n,n<=ns.length->preSum val n=(ns.take n).sum
 |0,_=>by simp [preSum]
 |n+1,hn=>by rw [preSum,jV val ns h n (by exact GF hn),h n hn,JP hn,List.sum_append,List.sum_singleton]
theorem z_ {a b:Int} {u:MR} (ho:ce ok s.heap) (h1:Sys s.heap):
  Ev' prog w ok (.tuple [.int a,.int b]) s (.ref s.heap.objs.size) {s with toks:=n,heap:=s.heap.push {cls:= .type "tuple",data:= .seq #[.int a t,.int b u]}}:=
 ⟨.pushed _ _ _,_,[.int a t,.int b u],rfl,ho _ (FH _),h1.ne (cW _),⟨_,Gt _ rfl,rfl,_,rfl⟩,⟨_,_,rfl,⟨t,rfl⟩,_,_,rfl,⟨u,rfl⟩,rfl⟩⟩
theorem xh (hA:A.handled=Fw) (hl:IsL s.heap l (ts.map (λp=>IT p.1 p.2))):
  WP (FN prog w) A (Jj (.builtin "sum") [.ref l]) (Ev' prog w ok (.int (ts.map (·.1)).sum) s) s:=by
 refine WP.size (call_sum_walkG (Ms hl ?_));have hk:HK s.heap (s.heap.push {cls:= .type "list_iterator",data:= .fields #[.ref l,.int 0 0]}):=HK.push _ _;haveI Px:=hl.mono λo e=>hk l o e;obtain⟨o,ho⟩:=hl.has;have OH:l<s.heap.objs.size:=aq ho;refine⟨_,_,_,_,_,_,λi=>((ts.map (·.1))[i]?).getD 0,rfl,NJ (A:=A.in1) hA s.heap.objs.size l (GK OH) _,⟨⟨_,Gt _ rfl,rfl,rfl⟩,Px⟩,λb hb=> ?_,λi v hv=> ?_,λh' tk t' Qt=> ?_⟩
 ·rw [show({s with heap:=s.heap.push {cls:= .type "list_iterator",data:= .fields #[.ref l,.int 0 0]}}:FL).heap.objs.size=s.heap.objs.size+1 from GP ..]
  rcases FS.mp hb with rfl|hb
  ·exact Gx _
  ·rcases FS.mp hb with rfl|hb
   ·exact IQ OH
   ·cases hb
 ·simp only [ID,Gp,Gk]at hv
  obtain⟨p,hp,rfl⟩:=hv;exact⟨p.2,by simp [hp]⟩
 ·have e:preSum (λi=>((ts.map (·.1))[i]?).getD 0) (ts.map (λp=>IT p.1 p.2)).toArray.size=(ts.map (·.1)).sum:=by rw [jV _ (ts.map (·.1)) (λi hi=>by simp [Ge hi]) _ (by simp),H1 (by simp)]
  rw [e];refine λsz=>⟨⟨λb o e=>eH (W:=λb=>b∈[s.heap.objs.size]) (λb o n e=>Qt b o n e) (λb o hb e=> ?_) ?_ (hk b o e),sz,λ_ _ e=>e,rfl⟩,_,rfl⟩
  ·rw [G4.mp hb]at e
   haveI e2:(s.heap.push {cls:= .type "list_iterator",data:= .fields #[.ref l,.int 0 0]}).get? s.heap.objs.size=Fv {cls:= .type "list_iterator",data:= .fields #[.ref l,.int 0 0]}:=Gt _ rfl;have e:(s.heap.push {cls:= .type "list_iterator",data:= .fields #[.ref l,.int 0 0]}).get? s.heap.objs.size=Fv o:=e;rw [e2]at e;cases e;exact(fq rfl (λh=>by cases h) λq t=>by simp).1
  haveI:b<s.heap.objs.size:=aq e;exact λhb=>by
   rcases FS.mp hb with rfl|hb
   ·exact absurd this (FV _)
   ·cases hb
theorem xQ (hA:A.handled=Fw) (P4:0<ts.length) (hl:IsL s.heap l (ts.map (λp=>IT p.1 p.2))):
  WP (FN prog w) A (Jj (.builtin "max") [.ref l]) (Ev' prog w ok (.int (rn (ts.map (·.1)))) s) s:=by
 refine WP.size (call_max_walk (Ms hl ?_));have hk:HK s.heap (s.heap.push {cls:= .type "list_iterator",data:= .fields #[.ref l,.int 0 0]}):=HK.push _ _;haveI Px:=hl.mono λo e=>hk l o e;obtain⟨o,ho⟩:=hl.has;have OH:l<s.heap.objs.size:=aq ho;refine⟨_,_,_,_,_,_,_,rfl,NJ (A:=A.in1) hA s.heap.objs.size l (GK OH) _,⟨⟨_,Gt _ rfl,rfl,rfl⟩,Px⟩,λb hb=> ?_,by simpa using P4,
  CmpOf.ints_gt (λi=>(ts.map (·.1)).getD i 0) (λi v hv=> ?_),λv h' tk hP Qt=> ?_⟩
 ·rw [show({s with heap:=s.heap.push {cls:= .type "list_iterator",data:= .fields #[.ref l,.int 0 0]}}:FL).heap.objs.size=s.heap.objs.size+1 from GP ..]
  rcases FS.mp hb with rfl|hb
  ·exact Gx _
  ·rcases FS.mp hb with rfl|hb
   ·exact IQ OH
   ·cases hb
 ·simp only [ID,Gp,Gk]at hv
  obtain⟨p,hp,rfl⟩:=hv;exact⟨p.2,by simp [IY,hp]⟩
 ·refine λsz=>⟨⟨λb o e=>eH (W:=λb=>b∈[s.heap.objs.size]) (λb o n e=>Qt b o n e) (λb o hb e=> ?_) ?_ (hk b o e),sz,λ_ _ e=>e,rfl⟩, ?_⟩
  ·rw [G4.mp hb]at e
   haveI e2:(s.heap.push {cls:= .type "list_iterator",data:= .fields #[.ref l,.int 0 0]}).get? s.heap.objs.size=Fv {cls:= .type "list_iterator",data:= .fields #[.ref l,.int 0 0]}:=Gt _ rfl;have e:(s.heap.push {cls:= .type "list_iterator",data:= .fields #[.ref l,.int 0 0]}).get? s.heap.objs.size=Fv o:=e;rw [e2]at e;cases e;exact(fq rfl (λh=>by cases h) λq t=>by simp).1
  ·haveI:b<s.heap.objs.size:=aq e
   exact λhb=>by
    rcases FS.mp hb with rfl|hb
    ·exact absurd this (FV _)
    ·cases hb
  ·have hP':(ts.map (λp=>IT p.1 p.2)).toArray[argBest (λi j=>decide ((ts.map (·.1)).getD i 0>(ts.map (·.1)).getD j 0)) (ts.length-1)]? =Fv v:=by
    haveI:(ts.map (λp=>IT p.1 p.2)).toArray.size-1=ts.length-1:=by simp
    rw [<-this];exact hP
   simp only [ID,Gp,Gk]at hP';obtain⟨p,hp,rfl⟩:=hP';haveI e:rn (ts.map (·.1))=p.1:=by
    unfold rn;rw [FD];simp only [IY,Gp]at hp ⊢
    rw [hp]
    rfl
   rw [e];exact⟨p.2,rfl⟩
theorem zv (hp:CX x=Fv c) (r:Rep prog w ok s.heap x v):WP (FN prog w) A (Jj (.builtin "len") [v]) (Ev' prog w ok c s) s:=by
 cases x with
 |list xs=>
  obtain⟨l,us,rfl,_,_,L,q⟩:=r;refine bc hp λhc=> ?_;refine call_len_list L (show(us.length:Int)<2^63 by rw [q.length];exact aPw (FF (H4 hc) (by decide))) ?_
  rw [show us.toArray.size=us.length from rfl,q.length];exact bI
 |str x=>
  obtain⟨t,rfl⟩:=r;exact bc hp λhc=>PySem.P.len_str (by exact Mf (aPw (FF (H4 hc) (by decide)))) bI
 |_=>exact a9 hp
theorem zu (hA:A.handled=Fw) (hp:CW xs=Fv c) (r:av prog w ok s.heap xs vs):WP (FN prog w) A (Jj (.builtin "max") vs) (Ev' prog w ok c s) s:=by
 cases xs with
 |nil=>exact a9 hp
 |cons x xs=>
  obtain⟨v,_,rfl,r,q⟩:=r;cases xs with
  |nil=>
   cases (show _=[]from q);refine nK hp r λxs l us _ _ L q hp=>ac hp λns hn hp=>bc hp λhc=> ?_;obtain⟨ts,rfl,rfl⟩:=i' hn q;exact xQ hA (by simpa using hc) L
  |cons y ys=>
   obtain⟨u,_,rfl,r',q⟩:=q;refine gx hp r λa t hp=>gx hp r' λb t' hp=>lm hp q λhp=> ?_;cases hp;refine WP.size (max_two_ints hA λh' tk hk sz=>⟨⟨λb o e=>e9 hk e,sz,λ_ _ e=>e,rfl⟩, ?_⟩);by_cases h:b>a
   ·rw [if_pos h,if_pos h];exact⟨_,rfl⟩
   ·rw [if_neg h,if_neg h];exact⟨_,rfl⟩
theorem uY (hc:(ts.map (·.1)).length<64) (ho:ce ok s.heap) (h1:Sys s.heap) (L:IsL s.heap l (ts.map λp=> .int p.1 p.2)):
  WP (FN prog w) A (Jj (.builtin "sorted") [.ref l]) (Ev' prog w ok (.list ((eh (ts.map (·.1))).map .int)) s) s:=by
 refine WP.size (sorted_ints L td (by simpa using hc) λout ns' hI hP hS sz=> ?_)
 haveI P4:vis s.heap (s.heap.objs.size+1)=Fw:=bH (Ka _);obtain⟨e,he⟩:=sortedAll_at s.heap (ts.map (λp=>IT p.1 p.2)) out;refine⟨⟨λb o e=>e9 (λb o e=>sortedAll_old e) e,sz,λ_ _ e=>e,rfl⟩,_,out.toList,rfl,ho _ (Ka _),h1.ne P4,⟨_,he,rfl,e,by simp [seqObj]⟩, ?_⟩
 rw [<-ia (hP.trans (m9 _).symm) hS (jb _)];exact p_ hI
theorem zt {x:Gj} (hp:CV x=Fv c):WP (FN prog w) A (Jj (.builtin "ord") [.str x t]) (Ev' prog w ok c s) s:=by
 obtain⟨⟨l⟩⟩:=x;cases l with
 |nil=>exact a9 hp
 |cons a l=>
  cases l with
  |nil=>cases hp;exact PySem.P.ord_of_char bI
  |cons=>exact a9 hp
theorem BM {k:BI} (hA:A.handled=Fw) (hp:pbi k xs=Fv c) (ho:ce ok s.heap) (h1:Sys s.heap)
  (r:av prog w ok s.heap xs vs):WP (FN prog w) A (Jj (.builtin (yM k)) vs) (Ev' prog w ok c s) s:=by
 cases k with
 |len=>exact fz hp r λx v hp r=>zv hp r
 |ord=>exact fz hp r λx v hp r=>lc hp r λx t hp=>zt hp
 |chr=>exact fz hp r λx v hp r=>gx hp r λi t hp=>bc hp λhc=>PySem.P.chr_of_int hc fW
 |max=>exact zu hA hp r
 |sum=>
  refine fz hp r λx v hp r=>nK hp r λxs l us _ _ L q hp=> ?_;obtain⟨ns,hn,rfl⟩:=Gk.mp hp;obtain⟨ts,rfl,rfl⟩:=i' hn q;exact xh hA L
 |sorted=>
  refine fz hp r λx v hp r=>nK hp r λxs l us _ _ L q hp=>ac hp λns hn hp=>bc hp λhc=> ?_;obtain⟨ts,rfl,rfl⟩:=i' hn q;exact uY hc ho h1 L
 |divmod=>
  cases xs with
  |nil=>exact a9 hp
  |cons x xs=>
   obtain⟨v,_,rfl,r,q⟩:=r;exact fz (f:=λy=>oI (λa=>oI (λb=>giv (b≠0/\HN a b=Fz) (PV.tuple [.int (a.fdiv b),.int (a.fmod b)])) y) x) hp q λy v hp r'=>gx hp r λa t hp=>gx hp r' λb u hp=>bc hp λhc=>divmod_int hc.1 (z_ ho h1) (.inl hc.2)
end
end UK
namespace UK
open PySem PySem.W PySem.Calls PyProof.Rows PySem.SeqAt
open Builtin Builtin.Str Builtin.Int
noncomputable def w5:ME->String
 | .count=> "count" | .join=> "join" | .split=> "split" | .lstrip=> "lstrip" | .lower=> "lower" | .bitlen=> "bit_length"
variable {k:ME}
set_option tactic.hygienic true in
theorem t8 {m:Gj} (h:nQ m=Fv k):m=Go (w5 k):=by
 unfold nQ at h;repeat' split at h
 all_goals first
  |(cases h;rename_i e;exact eq_of_beq e)
  |cases h
variable {x:Gj} {xs:List PV} {c:PV}
section
variable {prog:HE} {w:HR} {A:HB} {s:FL} {ok:Gb->Prop}
theorem pZ {h:Ht}: ∀(l:List (Gj×MR)),av prog w ok h (l.map λp=> .str p.1) (Ip l)
 |[]=>rfl
 |p::l=>⟨_,_,rfl,⟨p.2,rfl⟩,pZ l⟩
theorem xj {y:Gj} {t u:MR} (hy:(y.length==0)=Fz) (hx:x.length<=F_) (hn:(partsBetween x (occurrences x y 0 x.length (x.length+1)) y.length).length<=F_)
  (ho:ce ok s.heap) (h1:Sys s.heap):WP (FN prog w) A (Jj (.builtin "str.split") [.str x t,.str y u]) (Ev' prog w ok (.list ((Txt.split x y).map .str)) s) s:=by
 have fin: ∀(l:List (Gj×MR)) n,l.map (·.1)=Txt.split x y->Ev' prog w ok (.list ((Txt.split x y).map .str)) s (.ref s.heap.objs.size) {s with toks:=n,heap:=s.heap.push {cls:= .type "list",data:= .seq (Ip l).toArray}}:=by intro l n e;rw [<-e,Gl];exact g8 ho h1 (pZ l)
 cases e1:(decide (x.length<y.length)||decide (strKind x<strKind y))
 ·cases hf:(occurrences x y 0 x.length (x.length+1)).isEmpty
  ·refine KI F.slot_str_split (M7 _ _ _) F.entry_str_split (F.args_str_split_2 _ _) (meets_str_split_sep x y t u e1 hy hf hx hn) ?_
   show wants _ _ _ {s with toks:=_,heap:=s.heap.push {cls:= .type "list",data:= .seq (strsFrom s.toks (partsBetween x (occurrences x y 0 x.length (x.length+1)) y.length)).toArray}}
   rw [strsFrom_eq];exact fin (numbered s.toks _) _ ((numbered_texts _ _).trans ((if_neg (ne_true_of_eq_false e1)).trans (if_neg (ne_true_of_eq_false hf))).symm)
  ·exact KI F.slot_str_split (M7 _ _ _) F.entry_str_split (F.args_str_split_2 _ _) (meets_str_split_not_found x y t u e1 hy hf)
    (fin [(x,t)] _ ((if_neg (ne_true_of_eq_false e1)).trans (if_pos hf)).symm)
 ·exact KI F.slot_str_split (M7 _ _ _) F.entry_str_split (F.args_str_split_2 _ _) (meets_str_split_cannot_occur x y t u e1) (fin [(x,t)] _ (if_pos e1).symm)
structure CN (name:String) (T id:String):Prop where
 pa:PlainAttrs T
 sl:Slot T name id
 ty:typeOf (.builtin id)=pure (.type "method_descriptor")
def qG (k:ME) (xs:List PV) (c:PV) (a:PV):Prop:= ∃T id,CN (w5 k) T id/\
  ∀(prog:HE) (w:HR) (ok:Gb->Prop) (s:FL) (v:FR),Rep prog w ok s.heap a v->s.TypeIs v T/\(∀b,v≠ .ref b)/\
   ∀(A:HB) (s':FL) (vs:List FR),ce ok s'.heap->Sys s'.heap->Rep prog w ok s'.heap a v->av prog w ok s'.heap xs vs->
    WP (FN prog w) A (Jj (.builtin id) (v::vs)) (Ev' prog w ok c s') s'
theorem iL {id:String} (sl:Slot "str" (w5 k) id) (ty:typeOf (.builtin id)=pure (.type "method_descriptor"))
  (h: ∀(prog:HE) (w:HR) (ok:Gb->Prop) (A:HB) (s':FL) (vs:List FR) t,ce ok s'.heap->Sys s'.heap->av prog w ok s'.heap xs vs->
    WP (FN prog w) A (Jj (.builtin id) (.str x t::vs)) (Ev' prog w ok c s') s'):qG k xs c (.str x):=
 ⟨_,_,⟨F.plainAttrs_str,sl,ty⟩,λprog w ok s v ⟨t,e⟩=>e▸⟨M7 _ _ _,(λ_ e=>nomatch e),λA s' vs ho h1 _ q=>h prog w ok A s' vs t ho h1 q⟩⟩
theorem BF {a:PV} (hp:pme k a xs=Fv c):qG k xs c a:=by
 cases k with
 |count=>exact fy hp λx hp=>iL F.slot_str_count F.type_str_count λprog w ok A s vs t ho h1 q=>fz hp q λy v hp q=>lc hp q λy u hp=>by cases hp;exact SC.count bI
 |join=>
  refine fy hp λx hp=>iL F.slot_str_join F.type_str_join λprog w ok A s vs t ho h1 q=>fz hp q λy v hp q=>nK hp q λys D us _ _ L q hp=>ac hp λl hl hp=>bc hp λhc=> ?_;obtain⟨ts,rfl,rfl⟩:=pU hl q;exact SC.join (l:=ts) L rfl hc λ_ _=>fW
 |split=>exact fy hp λx hp=>iL F.slot_str_split F.type_str_split λprog w ok A s vs t ho h1 q=>fz hp q λy v hp q=>lc hp q λy u hp=>bc hp λhc=>xj hc.1 hc.2.1 hc.2.2 ho h1
 |lower=>exact fy hp λx hp=>iL F.slot_str_lower F.type_str_lower λprog w ok A s vs t ho h1 q=>lm hp q λhp=>bc hp λhc=>SC.lower hc fW
 |lstrip=>exact fy hp λx hp=>iL F.slot_str_lstrip F.type_str_lstrip λprog w ok A s vs t ho h1 q=>fz hp q λy v hp q=>lc hp q λy u hp=>bc hp λhc=>SC.lstripChars (λ_ _=>fW) hc
 |bitlen=>
  refine ji hp λx hp=>⟨_,_,⟨F.plainAttrs_int,slot_int_bit_length,type_int_bit_length⟩,λprog w ok s v r=> ?_⟩;obtain⟨t,rfl⟩:=r;exact⟨typeIs_int _ _ _,(λ_ e=>nomatch e),λA s' vs ho h1 _ q=>lm hp q λhp=>by cases hp;exact call_int_bit_length bI⟩
end
end UK
namespace UK
open PySem PySem.W PySem.Calls PyProof.Rows PySem.SeqAt
structure bw (W:List Gb) (Wg:List Nat) (s s':FL):Prop where
 keep: ∀b o,b∉W->vis s.heap b=Fv o->vis s'.heap b=Fv o
 gens: ∀(i:Nat) g,i∉Wg->s.gens[i]? =Fv g->s'.gens[i]? =Fv g
 os:s'.os=s.os
 size:s.heap.objs.size<=s'.heap.objs.size
noncomputable abbrev okW (ok:Gb->Prop) (W:List Gb):Gb->Prop:=λa=>ok a/\a∉W
structure kN (prog:HE) (w:HR) (d:Nat) (I:Gb) (Wg:List Nat) (T:Expr->Prop) (St:(Gb->Prop)->List PV->List Gb->FL->Prop):Prop where
 own: ∀{ok xs W s},St ok xs W s-> ∀b∈W,(∃o,vis s.heap b=Fv o)/\ ¬ok b
 frame: ∀{ok ok' xs W s s'},St ok xs W s->(∀b o,ok b∨b∈W->vis s.heap b=Fv o->vis s'.heap b=Fv o)->
  (∀b o,ok b->vis s.heap b=Fv o->ok' b)->(∀b∈W,¬ok' b)->(∀(i:Nat) g,s.gens[i]? =Fv g->s'.gens[i]? =Fv g)->s'.os=s.os->St ok' xs W s'
 next: ∀{A ok x xs W s tgt},AOk d A->T tgt->ce (λa=>ok a) s.heap->Sys s.heap->St ok (x::xs) W s->
  WP (FN prog w) A (L7 (.ref I)) (λr s1=> ∃v W1,r=Fv v/\(∀b∈W,b∈W1)/\(∀b∈W1,b∈W∨s.heap.objs.size<=b)/\bw W Wg s s1/\
   Rep prog w (okW ok W1) s1.heap x v/\WP (FN prog w) A (I8 tgt (.ref I) v) (λ_ s2=>bw W1 Wg s1 s2/\St (okW ok W1) xs W1 s2) s1) s
 done: ∀{A ok W s},AOk d A->St ok [] W s->WP (FN prog w) A (L7 (.ref I)) (λr s1=>r=Fw/\bw W Wg s s1) s
 self: ∀{A ok xs W s},AOk d A->St ok xs W s->WP (FN prog w) A (LL (.ref I)) (λv s1=>v= .ref I/\s1=s) s
noncomputable def qg:List String:=["enumerate","zip","dict_itemiterator","dict_reverseitemiterator","odict_iterator","itertools.zip_longest","itertools.pairwise"]
def B0 (h:Ht) (I:Gb):Prop:= ∃o n,h.get? I=Fv o/\o.cls= .type n/\qg.contains n=Fz
variable {prog:HE} {w:HR} {A:HB} {s:FL} {ok:Gb->Prop} {d n:Nat} {I a:Gb} {o:N1} {h h':Ht} {vs:List FR} {wr fp:List Gb} {S:Nat->Ht->Prop} {E:(Gb->Prop)->Ht->Nat->PV->Prop} {T:Expr->Prop}
section
theorem jY {tgt:Expr} {v:FR} {Q:Unit->FL->Prop} (hn:B0 s.heap I) (h:Q () s):WP (FN prog w) A (I8 tgt (.ref I) v) Q s:=by
 obtain⟨o,n,ho,hc,hn⟩:=hn;have main:WP (FN prog w) A (I8 (.List [] Hu) (.ref I) v) Q s:=by
  cases v with
  |ref a=>
   refine FJ (wpAny_load ho ?_);rw [hc];cases o.data with
   |fields vs=>
    refine wpAny_ite ?_;exact Eq.mpr (if_neg λq=>Bool.noConfusion (hn.symm.trans (GG.mp q).1)) (FK h)
   |_=>exact FK h
  |_=>exact FK h
 cases tgt with
 |Tuple=>exact main
 |List=>exact main
 |_=>exact FK h
theorem eC {vs:Array FR} {n:String} (c:o.cls= .type n) (d:o.data= .fields vs) (h: ∀q t,vs[1]? ≠Fv (.str q t)):ct o:=fq d (λq=>by rw [c]at q;cases q) h
theorem i_ (x:IsL h a vs): ∃o,h.get? a=Fv o/\ct o:=by obtain⟨o,e,_,_,d⟩:=x;exact⟨o,e,dJ d⟩
theorem gV (hk: ∀b o,b∉wr->h.get? b=Fv o->h'.get? b=Fv o) (hp: ∀b∈wr,∀o,h.get? b=Fv o->aK o): ∀b o,b∉wr->vis h b=Fv o->vis h' b=Fv o:=
 λb o hb e=>eH (W:=λb=>b∈wr) (λb o n e=>hk b o n e) (λb o q e=>hp b q o e) hb e
theorem jh (hl: ∀b∈fp,∃o,h.get? b=Fv o/\ct o) (sub: ∀b∈wr,b∈fp): ∀b∈wr,∀o,h.get? b=Fv o->aK o:=
 λb hb o e=>(hl b (sub b hb)).elim λo' h=>FG (h.1.symm.trans e)▸h.2.1
noncomputable def yO (fp wr:List Gb) (n:Nat) (S:Nat->Ht->Prop) (E:(Gb->Prop)->Ht->Nat->PV->Prop):(Gb->Prop)->List PV->List Gb->FL->Prop:=λok xs W s=>
 W=wr/\(∀b∈wr,¬ok b)/\(∀b∈fp,b∈wr∨ok b)/\ ∃i,i+xs.length=n/\S i s.heap/\ ∀(j:Nat) x,xs[j]? =Fv x->E ok s.heap (i+j) x
section
theorem kN.of (sub: ∀b∈wr,b∈fp) (hf: ∀i h h',S i h->(∀b∈fp,∀o,h.get? b=Fv o->h'.get? b=Fv o)->S i h') (hl: ∀i h,S i h-> ∀b∈fp,∃o,h.get? b=Fv o/\ct o)
  (Em: ∀{ok ok':Gb->Prop} {h h':Ht} {k:Nat} {x:PV},(∀a,ok a->(∃o,vis h a=Fv o)->ok' a)->(∀a,ok a-> ∀o,vis h a=Fv o->vis h' a=Fv o)->E ok h k x->E ok' h' k x)
  (hn: ∀{A:HB} {ok:Gb->Prop} {x:PV} {s:FL} {tgt:Expr} {i:Nat},AOk d A->T tgt->ce ok s.heap->Sys s.heap->i<n->S i s.heap->(∀b∈wr,¬ok b)->E ok s.heap i x->
   WP (FN prog w) A (L7 (.ref I)) (λr s1=> ∃v,r=Fv v/\bw wr [] s s1/\Rep prog w (okW ok wr) s1.heap x v/\
    WP (FN prog w) A (I8 tgt (.ref I) v) (λ_ s2=>bw wr [] s1 s2/\S (i+1) s2.heap) s1) s)
  (hd: ∀{A:HB} {s:FL},AOk d A->S n s.heap->WP (FN prog w) A (L7 (.ref I)) (λr s1=>r=Fw/\bw wr [] s s1) s)
  (hs: ∀{A:HB} {s:FL} {i:Nat},AOk d A->S i s.heap->WP (FN prog w) A (LL (.ref I)) (λv s1=>v= .ref I/\s1=s) s):kN prog w d I [] T (yO fp wr n S E)where
 own:=λ{ok xs W s} ⟨e,h1,h2,i,hi,hS,hr⟩ b hb=>(hl _ _ hS b (sub b (e▸hb))).elim λo h=>⟨⟨o,h.2.vis h.1⟩,h1 b (e▸hb)⟩
 frame:=λ{ok ok' xs W s s'} ⟨e,h1,h2,i,hi,hS,hr⟩ k1 k2 k3 _ _=>
  ⟨e,e▸k3,λb hb=>(h2 b hb).imp id λh=>(hl _ _ hS b hb).elim λo n=>k2 b o h (n.2.vis n.1),i,hi,
   hf _ _ _ hS λb hb o e'=>(hl _ _ hS b hb).elim λo' h=>(FG (h.1.symm.trans e')▸h.2:ct o).keep (λo e'=>k1 b o (e▸(h2 b hb).symm) e') e',
   λj x hx=>Em (λa ha h=>h.elim λo e=>k2 a o ha e) (λa ha o e=>k1 a o (.inl ha) e) (hr j x hx)⟩
 next:=λ{A ok x xs W s tgt} hA ht ho h1 ⟨e,h2,h3,i,hi,hS,hr⟩=>by
  cases e;refine(hn hA ht ho h1 (hi▸Nat.lt_add_of_pos_right (JT _)) hS h2 (hr 0 x rfl)).mono λr s1 ⟨v,e,K,q,hg⟩=>⟨v,wr,e,λ_ h=>h,λ_ h=> .inl h,K,q,hg.mono λ_ s2 ⟨K',S0⟩=>⟨K',rfl,λb hb hc=>hc.2 hb,λb hb=> ?_,i+1, ?_,S0,λj x hx=> ?_⟩⟩
  ·exact if Pq:b∈wr then .inl Pq else .inr ⟨(h3 b hb).resolve_left Pq,Pq⟩
  ·rw [<-hi,GN,GX 1];rfl
  ·rw [GN,GX 1]
   exact Em (λa ha _=>⟨ha,λhb=>h2 a hb ha⟩) (λa ha o e=>K'.keep a o (λhb=>h2 a hb ha) (K.keep a o (λhb=>h2 a hb ha) e)) (hr (j+1) x hx)
 done:=λ{A ok W s} hA ⟨e,h2,h3,i,hi,hS,hr⟩=>by cases e;cases hi;exact hd hA hS
 self:=λ{A ok xs W s} hA ⟨e,h2,h3,i,hi,hS,hr⟩=>hs hA hS
theorem bw.of {tk:MR} (hk: ∀b o,b∉wr->s.heap.get? b=Fv o->h'.get? b=Fv o) (hp: ∀b∈wr,∀o,s.heap.get? b=Fv o->aK o) (sz:s.heap.objs.size<=h'.objs.size):
  bw wr [] s {s with heap:=h',toks:=tk}:=⟨gV hk hp,λ_ _ _ e=>e,rfl,sz⟩
theorem kN.ofWalks {P:Nat->FR->Prop} (hW: ∀A:HB,A.handled=Fw->Walks prog w A I fp wr n P S)
  (hI: ∀i h,S i h->B0 h I) (hl: ∀i h,S i h-> ∀b∈fp,∃o,h.get? b=Fv o/\ct o):
  kN prog w d I [] (λ_=>True) (yO fp wr n S λok h k x=> ∀v,P k v->Rep prog w ok h x v):=
 .of (hW {} rfl).sub (hW {} rfl).frame hl (λho hk r v hv=>(r v hv).mono ho hk)
  (λ{A ok x s tgt i} hA _ ho h1 OH hS h2 hr=>WP.size ((hW A hA.1).item i s _ _ OH hS λv h' tk hP S0 hk sz=>
   ⟨v,rfl,.of hk (jh (hl _ _ hS) (hW {} rfl).sub) sz,(hr v hP).mono (λa ha _=>⟨ha,λhb=>h2 a hb ha⟩) (λa ha o e=>gV hk (jh (hl _ _ hS) (hW {} rfl).sub) a o (λhb=>h2 a hb ha) e),
    jY (hI _ _ S0) ⟨⟨λ_ _ _ e=>e,λ_ _ _ e=>e,rfl,FH _⟩,S0⟩⟩))
  (λ{A s} hA hS=>WP.size ((hW A hA.1).done s _ _ hS λh' tk hk sz=>⟨rfl,.of hk (jh (hl _ _ hS) (hW {} rfl).sub) sz⟩))
  λ{A s i} hA hS=>(hW A hA.1).self i s _ _ hS ⟨rfl,rfl⟩
theorem kN.ofWalksT {P:Nat->Array FR->Prop} {M:Nat->Gb->Ht->Prop} (hW: ∀A:HB,A.handled=Fw->Oa prog w A I fp wr n P S M)
  (hl: ∀i h,S i h-> ∀b∈fp,∃o,h.get? b=Fv o/\ct o) (hM: ∀i T h,M i T h-> ∀b∈wr,∀o,h.get? b=Fv o->aK o):
  kN prog w d I [] (λt=> ∃RE k pos,t= .Tuple RE k pos) (yO fp wr n S λok h k x=> ∀vals,P k vals-> ∃ys,x= .tuple ys/\av prog w ok h ys vals.toList):=
 .of (hW {} rfl).sub (hW {} rfl).frame hl (λho hk r v hv=>(r v hv).elim λys h=>⟨ys,h.1,h.2.mono ho hk⟩)
  (λ{A ok x s tgt i} hA ⟨RE,k,pos,et⟩ ho h1 OH hS h2 hr=>WP.size ((hW A hA.1).item i s _ _ OH hS λT vals h' tk hP hT Wi Ta hk sz=>by
   cases et;obtain⟨ys,rfl,q⟩:=hr vals hP;exact⟨.ref T,rfl,.of hk (jh (hl _ _ hS) (hW {} rfl).sub) sz,⟨T,vals.toList,rfl,⟨ho _ hT,(hW A hA.1).apart _ _ _ Ta⟩,h1.ne (bH hT),Wi,
     q.mono (λa ha _=>⟨ha,λhb=>h2 a hb ha⟩) (λa ha o e=>gV hk (jh (hl _ _ hS) (hW {} rfl).sub) a o (λhb=>h2 a hb ha) e)⟩,
    WP.size ((hW A hA.1).go RE k pos i T _ _ _ Ta λRv S0 Ps VD=>⟨.of Ps (hM _ _ _ Ta) VD,S0⟩)⟩))
  (λ{A s} hA hS=>WP.size ((hW A hA.1).done s _ _ hS λh' tk hk sz=>⟨rfl,.of hk (jh (hl _ _ hS) (hW {} rfl).sub) sz⟩))
  λ{A s i} hA hS=>(hW A hA.1).self i s _ _ hS ⟨rfl,rfl⟩
end
end
def yP (prog:HE) (w:HR) (d:Nat) (ok:Gb->Prop) (xs:List PV) (T:Expr->Prop) (s₀ s:FL) (I:Gb):Prop:=
 ∃W St,kN prog w d I [] T St/\St (okW ok W) xs W s/\(∀b∈W,s₀.heap.objs.size<=b)
def pE (prog:HE) (w:HR) (d:Nat) (ok:Gb->Prop) (xs:List PV) (T:Expr->Prop) (s₀:FL) (v:FR) (s:FL):Prop:=
 ∀A,AOk d A->WP (FN prog w) A (LL v) (λr s'=>Ext s s'/\ ∃I,r= .ref I/\yP prog w d ok xs T s₀ s' I) s
variable {s' s₀:FL} {xs:List PV} {j i:Nat} {b N l:Gb} {x:Gj} {v:PV}
section
theorem Rep.new {x:PV} {v:FR} {W:List Gb} (r:Rep prog w ok h x v) (k:HK h h') (hW: ∀b∈W,vis h b=Fw):Rep prog w (okW ok W) h' x v:=
 r.mono (λa ha ⟨o,e⟩=>⟨ha,λhb=>by rw [hW a hb]at e;cases e⟩) (λa _ o e=>k a o e)
theorem Rep.newP {x:PV} {v:FR} (r:Rep prog w ok s.heap x v):Rep prog w (okW ok [s.heap.objs.size]) (s.heap.push o) x v:=r.new (HK.push _ _) λb hb=>by rw [G4.mp hb];exact cW _
theorem av.at2 {x:PV} {v:FR} (q:av prog w ok h xs vs) (hx:xs[j]? =Fv x) (hv:vs.toArray[j]? =Fv v):Rep prog w ok h x v:=
 (q.get hx).elim λv' h=>FG (h.1.symm.trans (ID.symm.trans hv))▸h.2
theorem kL {p:Gb->Prop} (h1:p a) (h2:p b): ∀c∈[a,b],p c:=Gg.mpr ⟨h1,Gg.mpr ⟨h2,λ_ h=>nomatch h⟩⟩
theorem fp1 (h:ok l): ∀b∈[N,l],b∈[N]∨ok b:=kL (.inl (G4.mpr rfl)) (.inr h)
theorem pz {p:Gb->Prop} (h:p a): ∀c∈[a],p c:=Gg.mpr ⟨h,λ_ h=>nomatch h⟩
theorem yP.of {W:List Gb} (it:kN prog w d I [] T (yO fp W n S E))
  (hfp: ∀b∈fp,b∈W∨ok b) (hn:xs.length=n) (hS:S 0 s.heap) (hr: ∀(j:Nat) x,xs[j]? =Fv x->E (okW ok W) s.heap j x) (h0: ∀b∈W,s₀.heap.objs.size<=b):yP prog w d ok xs T s₀ s I:=
 ⟨W,_,it,⟨rfl,λb hb hc=>hc.2 hb,λb hb=>if h:b∈W then .inl h else .inr ⟨(hfp b hb).resolve_left h,h⟩,0,(HJ _).trans hn,hS,λj x h=>(HJ j).symm▸hr j x h⟩,h0⟩
theorem pJ (x:h.IsListIter N l i): ∃o,h.get? N=Fv o/\ct o:=K2 x λo h=>⟨o,h.1,eC h.2.1 h.2.2 λq t=>by simp⟩
theorem vE (h0:s₀.heap.objs.size<=s.heap.objs.size) (hl:IsL s.heap l vs) (OX:ok l) (q:av prog w ok s.heap xs vs):
  pE prog w d ok xs (λ_=>True) s₀ (.ref l) s:=λA hA=>
 Ms hl ⟨.pushed _ _ _,_,rfl,.of (.ofWalks (λA hA=>NJ hA s.heap.objs.size l (hl.has.elim λo e=>GK (aq e)) vs.toArray)
  (λi h hS=>K2 hS.1 λo h=>⟨o,_,h.1,h.2.1,by decide⟩) λi h hS=>kL (pJ hS.1) (i_ hS.2)) (fp1 OX) q.length.symm
  ⟨⟨_,Gt _ rfl,rfl,rfl⟩,hl.mono λo e=>HK.push _ _ l o e⟩ (λj x hx v hv=>(q.at2 hx hv).newP) (pz h0)⟩
theorem no (h:((gu x).map PV.str)[j]? =Fv v): ∃c,x.cps[j]? =Fv c/\v= .str ⟨#[c]⟩:=by simp only [gu,Gl,Gp,Gk,Nh]at h;obtain⟨c,hc,rfl⟩:=h;exact⟨c,hc,rfl⟩
theorem x_ {t:MR} (h0:s₀.heap.objs.size<=s.heap.objs.size):pE prog w d ok ((gu x).map .str) (λ_=>True) s₀ (.str x t) s:=by
 intro A hA;have key: ∀(ty:String),qg.contains ty=Fz->(∀A:HB,A.handled=Fw->Walks prog w A s.heap.objs.size [s.heap.objs.size] [s.heap.objs.size] x.cps.size (SignAt x) (λi h=>h.IsStrIter s.heap.objs.size ty x t i))->
   (fun(r:FR) (s':FL)=>Ext s s'/\ ∃I,r= .ref I/\yP prog w d ok ((gu x).map .str) (λ_=>True) s₀ s' I) (.ref s.heap.objs.size) {s with heap:=s.heap.push {cls:= .type ty,data:= .fields #[.str x t,.int 0 0]}}:=λty TF hW=>
  ⟨.pushed _ _ _,_,rfl,.of (.ofWalks hW (λi h hS=>K2 hS λo h=>⟨o,_,h.1,h.2.1,TF⟩) λi h hS=>pz (K2 hS λo h=>⟨o,h.1,eC h.2.1 h.2.2 λq t=>by simp⟩))
   (pz (.inl (G4.mpr rfl))) ((FD _).trans (FD _)) ⟨_,Gt _ rfl,rfl,rfl⟩
   (λj x hx v hv=>by obtain⟨c,hc,rfl⟩:=no hx;obtain⟨c',u,QR,rfl⟩:=hv;exact FG (hc.symm.trans QR)▸⟨u,rfl⟩) (pz h0)⟩
 cases ha:x.cps.all (· <128)
 ·exact wpAny_pyIter_wide ha (key "str_iterator" (by decide) λA' hA=>Walks.strWide hA _ x t)
 ·exact wpAny_pyIter_ascii ha (key "str_ascii_iterator" (by decide) λA' hA=>Walks.strAscii hA _ x t)
theorem iq: ∀(n:Nat) (a:Int) (j:Nat) (v:Int),(fu a n)[j]? =Fv v->v=a+j
 |0,a,j,v,h=>by simp [fu]at h
 |n+1,a,0,v,h=>by simp [fu]at h;lia
 |n+1,a,j+1,v,h=>by simp only [fu,List.getElem?_cons_succ]at h;have:=iq n (a+1) j v h;lia
theorem ip: ∀(n:Nat) (a:Int),(fu a n).length=n
 |0,_=>rfl
 |n+1,a=>by simp [fu,ip n]
theorem tb {a b:Int} {r:Gb} {t u v:MR} (h0:s₀.heap.objs.size<=s.heap.objs.size) (hp:bG a b=Fv xs) (hr:IsRange s.heap r a b 1 t u v):pE prog w d ok xs (λ_=>True) s₀ (.ref r) s:=by
 obtain⟨hc,rfl⟩:=ai hp;intro A hA;refine wpAny_pyIter_range hr (small_one (by exact IR (by decide) hc.1) (by exact Ib hc.2.1 (by decide)) (by exact IR (by decide) hc.2.2.1) (by exact Ib hc.2.2.2 (by decide))) ?_
 rw [show LR a b 1=((b-a).toNat:Int)by rw [rangeSize_one];split<;>first|exact aTn (by assumption)|exact Fb (by assumption)]
 refine⟨.pushed _ _ _,s.heap.objs.size,rfl,.of (.ofWalks (n:=(b-a).toNat) (λA hA=>Walks.range hA s.heap.objs.size a 1 (b-a).toNat) (λi h hS=>⟨_,_,hS,rfl,by decide⟩) λi h hS=>pz ⟨_,hS,eC rfl rfl λq t h=>by injection h with h;cases h⟩)
  (pz (.inl (G4.mpr rfl))) ((FD _).trans (ip _ _)) ?_ (λj x hx v hv=> ?_) (pz h0)⟩
 ·simp only [IsRangeIter,Int.natCast_zero,Nx,LZ,LY]
  exact Gt _ rfl
 ·simp only [Gp,Gk]at hx
  obtain⟨k,hk,rfl⟩:=hx;obtain⟨t,rfl⟩:=hv;exact⟨t,by rw [iq _ _ _ _ hk,NT]⟩
theorem pg {x:PV} {v:FR} (h0:s₀.heap.objs.size<=s.heap.objs.size) (hp:cV x=Fv xs) (r:Rep prog w ok s.heap x v):
  pE prog w d ok xs (λ_=>True) s₀ v s:=by
 cases x with
 |list ys=>obtain⟨a,vs,rfl,o,_,l,q⟩:=r;cases hp;exact vE h0 l o q
 |str y=>obtain⟨t,rfl⟩:=r;cases hp;exact x_ h0
 |range a b=>obtain⟨a,t,u,c,rfl,o,hs,l⟩:=r;exact tb h0 hp l
 |_=>exact a9 hp
end
noncomputable abbrev yN:Expr->Prop:=λt=> ∃RE k pos,t=Expr.Tuple RE k pos
variable {ys:List PV}
section
theorem xo (h0:s₀.heap.objs.size<=s.heap.objs.size) (hl:IsL s.heap l vs) (OX:ok l) (q:av prog w ok s.heap xs vs):
  WP (FN prog w) A (Jj (.type "reversed") [.ref l]) (λr s'=>Ext s s'/\pE prog w d ok xs.reverse (λ_=>True) s₀ r s') s:=by
 refine call_reversed_list hl ⟨.pushed _ _ _,λA hA=> ?_⟩;haveI OH:l<s.heap.objs.size:=by obtain⟨o,e⟩:=hl.has;exact aq e
 have Ou:((s.heap.push (revObj l ((vs.toArray.size:Int)-1))).IsRevIter s.heap.objs.size l ((vs.toArray.size:Int)-1)):=⟨_,Gt _ rfl,rfl,rfl⟩;refine wpAny_pyIter_revIter Ou ⟨.refl _,s.heap.objs.size,rfl,.of (.ofWalks (λA hA=>Walks.listRev hA s.heap.objs.size l (GK OH) vs.toArray) (λi h hS=>K2 hS.2.1 λo h=>⟨o,_,h.1,h.2.1,by decide⟩)
  λi h hS=>kL (K2 hS.2.1 λo h=>⟨o,h.1,eC h.2.1 h.2.2 λq t=>by simp [Ma]⟩) (i_ hS.2.2)) (fp1 OX) (Hr.trans q.length.symm)
  ⟨Hk _,by simpa using Ou,hl.mono λo e=>HK.push _ _ l o e⟩ (λj x hx v hv=> ?_) (pz h0)⟩
 haveI hj:j<xs.length:=by have:=(Kw.mp hx).1;simpa using this
 rw [Li hj]at hx;refine(q.at2 hx (v:=v) ?_).newP;rw [<-q.length];exact hv
theorem wR: ∀{ys:List PV} {j:Nat} {x:PV},(zip2 xs ys)[j]? =Fv x-> ∃a b,xs[j]? =Fv a/\ys[j]? =Fv b/\x= .tuple [a,b]:=by
 induction xs with
 |nil=>exact λh=>nomatch h
 |cons a xs ih=>
  intro ys j x h;cases ys with
  |nil=>exact nomatch h
  |cons b ys=>
   cases j with
   |zero=>exact⟨a,b,rfl,rfl,(FG h).symm⟩
   |succ j=>exact ih (ys:=ys) (j:=j) h
theorem wQ (xs:List PV): ∀(ys:List PV),(zip2 xs ys).length=min xs.length ys.length:=by
 induction xs with
 |nil=>exact λ_=>(Nat.zero_min _).symm
 |cons a xs ih=>
  intro ys;cases ys with
  |nil=>rfl
  |cons b ys=>exact(congrArg MS (ih ys)).trans (Nat.add_min_add_right xs.length ys.length 1).symm
theorem i7 {N a b:Nat} (h:a≠b):N+a≠N+b:=λe=>h (NX e)
theorem nPl (x: ∃o,h.get? a=Fv o/\ct o) (e:h.get? a=Fv o):aK o:=x.elim λo' h=>FG (h.1.symm.trans e)▸h.2.1
theorem uP {l1 l2:Gb} {us:List FR} (h0:s₀.heap.objs.size<=s.heap.objs.size) (ho:ce ok s.heap) (Sm:IsL s.heap l1 vs) (Tw:IsL s.heap l2 us) (W3:ok l1) (RY:ok l2)
  (q1:av prog w ok s.heap xs vs) (q2:av prog w ok s.heap ys us):
  WP (FN prog w) A (Jj (.type "zip") [.ref l1,.ref l2]) (λr s'=>Ext s s'/\pE prog w d ok (zip2 xs ys) yN s₀ r s') s:=by
 have h1:l1<s.heap.objs.size:=by obtain⟨o,e⟩:=Sm.has;exact aq e
 have h2:l2<s.heap.objs.size:=by obtain⟨o,e⟩:=Tw.has;exact aq e
 refine WP.size (call_zip_2 Sm Tw λh' hz hTI hTO hi1 TU OR hk sz=>⟨⟨λb o e=>e9 hk e,sz,λ_ _ e=>e,rfl⟩,λA hA=> ?_⟩);have fr: ∀b∈[s.heap.objs.size+4,s.heap.objs.size+3,s.heap.objs.size,s.heap.objs.size+1],s.heap.objs.size<=b:=
  Gg.mpr ⟨FZ _ _,Gg.mpr ⟨FZ _ _,kL (FH _) (FZ _ _)⟩⟩
 have ho: ∀a,s.heap.objs.size<=a->ok a:=ho;generalize e0:s.heap.objs.size=N at fr h1 h2 ho hz hTI hTO hi1 TU h0 ⊢
 haveI D:ZipApart (N+4) (N+2) (N+3) N (N+1) l1 l2:={
   TIz:=i7 (by decide),TOz:=i7 (by decide),i1z:=i7 (a:=0) (by decide),i2z:=i7 (by decide),
   TITO:=i7 (by decide),TIi1:=i7 (b:=0) (by decide),TIi2:=i7 (by decide),TOi1:=i7 (b:=0) (by decide),
   TOi2:=i7 (by decide),i12:=i7 (a:=0) (by decide),l1z:=GK (I_ 4 h1),l1TO:=GK (I_ 3 h1),
   l1i1:=GK h1,l1i2:=GK (I_ 1 h1),l2z:=GK (I_ 4 h2),l2TO:=GK (I_ 3 h2),
   l2i1:=GK h2,l2i2:=GK (I_ 1 h2)}
 have nZ: ∀{h:Ht} {z TI TO:Gb} {v:FR},IsZip h z TI TO v-> ∃o,h.get? z=Fv o/\ct o:=λe=>⟨_,e,eC rfl rfl λq t h=>by injection h with h;cases h⟩
 have nP: ∀{h:Ht} {T:Gb} {a b:FR},IsPair h T a b-> ∃o,h.get? T=Fv o/\ct o:=λe=>⟨_,e,dJ rfl⟩;haveI Xb: ∀{p:Gb->Prop},p (N+4)->p (N+3)->p N->p (N+1)-> ∀b∈[N+4,N+3,N,N+1],p b:=λa b c d=>Gg.mpr ⟨a,Gg.mpr ⟨b,kL c d⟩⟩;refine wpAny_pyIter_zip hz ⟨.refl _,N+4,rfl,.of (.ofWalksT (λA hA=>WalksT.zip2 hA _ _ _ _ _ _ _ D vs.toArray us.toArray)
   (λi h ⟨z,ti,⟨a,b,to⟩,i1,i2,l1,l2⟩=>Gg.mpr ⟨nZ z,Gg.mpr ⟨nP ti,Gg.mpr ⟨nP to,Gg.mpr ⟨pJ i1,Gg.mpr ⟨pJ i2,kL (i_ l1) (i_ l2)⟩⟩⟩⟩⟩)
   (λi T h ⟨z,ti,⟨a,b,to⟩,i1,i2,_⟩=>Xb (λo e=>nPl (nZ z) e) (λo e=>nPl (nP to) e) (λo e=>nPl (pJ i1) e) λo e=>nPl (pJ i2) e))
  ?_ ((wQ _ _).trans (by rw [Gn,Gn,q1.length,q2.length])) ⟨hz,hTI,⟨_,_,hTO⟩,hi1,TU,Sm.mono λo e=>e9 hk e,Tw.mono λo e=>e9 hk e⟩ (λj x hx vals hv=> ?_) λb hb=>Fx h0 (fr b hb)⟩
 ·have m: ∀{a},N<=a->a∈[N+4,N+3,N,N+1]∨ok a:=λh=> .inr (ho _ h)
  exact Gg.mpr ⟨m (FZ _ _),Gg.mpr ⟨m (FZ _ _),Gg.mpr ⟨m (FZ _ _),Gg.mpr ⟨m (FH _),Gg.mpr ⟨m (FZ _ _),kL (.inr W3) (.inr RY)⟩⟩⟩⟩⟩
 ·obtain⟨a,b,ha,hb,rfl⟩:=wR hx
  obtain⟨x,y,hx,hy,rfl⟩:=hv;have fr: ∀b∈[N+4,N+3,N,N+1],vis s.heap b=Fw:=λb hb=>bH (e0.symm▸fr b hb);exact⟨_,rfl,_,_,rfl,(q1.at2 ha hx).new (λb o e=>e9 hk e) fr,_,_,rfl,(q2.at2 hb hy).new (λb o e=>e9 hk e) fr,rfl⟩
end
def bg (Oh:Lk) (ns:ay) (a:Gb):Prop:=a=Oh.locals∨ ∃x,ns.lookup x=Fv .cell/\Oh.cells.lookup x=Fv a
structure aE (h:Ht) (Oh:Lk) (ns:ay):Prop where
 L: ∃m,h.Ns Oh.locals m
 C: ∀x,ns.lookup x=Fv .cell-> ∃c v,Oh.cells.lookup x=Fv c/\h.IsCell c v
variable {Oh:Lk} {ns:ay}
theorem aE.at (F:aE h Oh ns) (k: ∀a,bg Oh ns a-> ∀o,vis h a=Fv o->vis h' a=Fv o):aE h' Oh ns where
 L:=by obtain⟨m,n⟩:=F.L;exact⟨m,dH n (k _ (.inl rfl))⟩
 C:=λx hx=>by obtain⟨c,v,e,n⟩:=F.C x hx;exact⟨c,v,e,aN n (k c (.inr ⟨x,hx,e⟩))⟩
theorem fm {m:Gj->Option FR} {v:Option FR} (x:h.Ns a m) (y:h.IsCell a v):False:=by obtain⟨o,es,ep,ho,hd,_⟩:=x;obtain⟨o',TJ,Pk⟩:=y;rw [ho]at TJ;cases TJ;rw [hd]at Pk;cases Pk
variable {Og:List Gj} {y:Gj}
theorem fj (hx:x∈Og) (QA:y≠x):Og.idxOf y≠Og.idxOf x:=by intro e;have h1:Og.idxOf x<Og.length:=List.idxOf_lt_length_iff.mpr hx;haveI h2:Og.idxOf y<Og.length:=e▸h1;haveI a:=NZ h1;haveI b:=NZ h2;exact QA (by rw [<-a,<-b];congr 1)
variable {ρ:Ρ} {pv:PV}
theorem dM {o:Option PV} (h:Ρ.get (ρ.set i o) i=Fv pv):o=Fv pv:=by
 unfold Ρ.get at h;rw [IX]at h;cases e:ρ[i]? with
 |none=>rw [e]at h;cases h
 |some q=>rw [e]at h;simpa using h
theorem aF {o:Option PV} (h:j≠i):Ρ.get (ρ.set i o) j=ρ.get j:=by unfold Ρ.get;rw [List.getElem?_set_ne (J_ h)]
variable {ρ' ρ₁ ρ₂:Ρ} {pos:HW} {is:List Nat}
section
theorem ta (E:cu Oh ns) (h:ns.lookup x=Fv .local):Oh.kindOf x=Fv .local:=by
 have h1:=E.cls x;have h2:=E.cel x;rw [h]at h1 h2;cases e:Oh.kindOf x with
 |none=>rw [e]at h1;cases h1
 |some k=>rw [e]at h1 h2;cases k<;>first|rfl|exact absurd h1 (by decide)|exact absurd h2 (by decide)
theorem lO (E:cu Oh ns) (F:aE s.heap Oh ns) {v:FR} (hx:b8 ns x=FE) {Q:Unit->FL->Prop}
  (h: ∀h' a tk,bg Oh ns a->Hw a s.heap h'->(∀o,s.heap.get? a=Fv o->aK o)->aE h' Oh ns->aV h' Oh x v->(∀y u,y≠x->aV s.heap Oh y u->aV h' Oh y u)->Q () {s with heap:=h',toks:=tk}):
  WP (FN prog w) A (storeName Oh x v) Q s:=by
 simp only [b8,GH,JD,beq_iff_eq]at hx;obtain⟨hk,_⟩:=hx;obtain⟨m,hn⟩:=F.L;rcases hk with hk|hk
 ·have Ps:=ta E hk
  refine wpAny_storeName_local Ps hn (λh' Q1 Ph=>h h' _ _ (.inl rfl) Ph (lH hn) ⟨⟨_,Q1⟩,λy hy=> ?_⟩ (.loc _ Ps Q1 (by simp)) λy u R3 V=> ?_) (by rw [E.kind];rfl)
  ·obtain⟨c,v,e,hc⟩:=F.C y hy
   exact⟨c,v,e,hc.sameBut Ph λq=>fm hn (q▸hc)⟩
  ·cases V with
   |loc m' k n e=>
    haveI hmm:m'=m:=by obtain⟨o,es,ep,ho,hd,hk,hm⟩:=n;obtain⟨o',es',ep',TJ,Pk,Ps,QB⟩:=hn;rw [ho]at TJ;cases TJ;rw [hd]at Pk;cases Pk;funext z;rw [<-hm z,<-QB z]
    subst hmm;exact .loc _ k Q1 (by simp [R3];exact e)
   |cel c k l e=>exact .cel c k l (e.sameBut Ph λq=>fm hn (q▸e))
 ·have Ps:=E.own x hk
  obtain⟨c,v₀,e,hc⟩:=F.C x hk;refine wpAny_storeName_cell E.kind Ps e hc λh' QR Ph=>h h' c _ (.inr ⟨x,hk,e⟩) Ph (tE hc) ⟨⟨m,hn.sameBut Ph λq=>fm hn (q▸hc)⟩,λy hy=> ?_⟩ (.cel c (.inl Ps) e QR) λy u R3 V=> ?_
  ·obtain⟨c',v',e',WW⟩:=F.C y hy
   by_cases Vr:c'=c
   ·subst Vr;exact⟨c',_,e',QR⟩
   ·exact⟨c',v',e',WW.sameBut Ph Vr⟩
  ·cases V with
   |loc m' k n e'=>exact .loc m' k (n.sameBut Ph λq=>fm n (q▸hc)) e'
   |cel c' k l e'=>
    refine .cel c' k l (e'.sameBut Ph λq=>R3 ?_);subst q;refine E.inj y x c' ?_ (by rw [Ps];rfl) l e
    rcases k with k|k<;>rw [k]<;>rfl
theorem lB (E:cu Oh ns) (F:aE s.heap Oh ns) {v:FR} (hx:b8 ns x=FE) {Q:Unit->FL->Prop}
  (h: ∀h' a tk,bg Oh ns a->Hw a s.heap h'->(∀o,s.heap.get? a=Fv o->aK o)->aE h' Oh ns->aV h' Oh x v->(∀y u,y≠x->aV s.heap Oh y u->aV h' Oh y u)->Q () {s with heap:=h',toks:=tk}):
  WP (FN prog w) A (Iq (.Name x pos) Oh v) Q s:=wpAny_assign_Name (lO E F hx h)
theorem cJ.set (R:cJ prog w Og ok h Oh ρ) {v:FR} (hx:x∈Og) (V:aV h' Oh x v) (hV: ∀y u,y≠x->aV h Oh y u->aV h' Oh y u)
  (hk: ∀b,ok b-> ∀o,vis h b=Fv o->vis h' b=Fv o) (r:Rep prog w ok h' pv v):cJ prog w Og ok h' Oh (ρ.set (Og.idxOf x) (Fv pv)):=by
 intro y p hy hp;by_cases e:y=x
 ·subst e
  have:=FG (dM hp);subst this;exact⟨v,V,r⟩
 ·rw [aF (fj hx e)]at hp
  obtain⟨u,a,b⟩:=R y p hy hp;exact⟨u,hV y u e a,b.mono (λ_ o _=>o) hk⟩
structure jQ (prog:HE) (w:HR) (Og:List Gj) (ok:Gb->Prop) (Oh:Lk) (ns:ay) (ρ':Ρ) (is:List Nat) (s s':FL):Prop where
 keep: ∀b o,¬bg Oh ns b->vis s.heap b=Fv o->vis s'.heap b=Fv o
 gens:s'.gens=s.gens
 os:s'.os=s.os
 size:s.heap.objs.size<=s'.heap.objs.size
 frame:aE s'.heap Oh ns
 envr:cJ prog w Og ok s'.heap Oh ρ'
 vars: ∀y u,Og.idxOf y∉is->aV s.heap Oh y u->aV s'.heap Oh y u
theorem qF (E:cu Oh ns) (F:aE s.heap Oh ns) (R:cJ prog w Og ok s.heap Oh ρ) (OX: ∀b,ok b-> ¬bg Oh ns b) {v:FR}
  (hx:b8 ns x=FE) (hm:x∈Og) (r:Rep prog w ok s.heap pv v):WP (FN prog w) A (Iq (.Name x pos) Oh v) (λ_ s'=>jQ prog w Og ok Oh ns (ρ.set (Og.idxOf x) (Fv pv)) [Og.idxOf x] s s') s:=by
 refine lB E F hx λh' a tk ha hs hp hF hV Ru=> ?_;have hk: ∀b,ok b-> ∀o,vis s.heap b=Fv o->vis h' b=Fv o:=λb hb o e=>az hs hp (λq=>OX b hb (q▸ha)) e;exact⟨λb o hb e=>az hs hp (λq=>hb (q▸ha)) e,rfl,rfl,FI hs.1.symm,hF,R.set hm hV Ru hk (r.mono (λ_ o _=>o) hk),λy u hy V=>Ru y u (λq=>hy (by rw [q];exact HA _)) V⟩
theorem jQ.trans {s₁ s₂:FL} (x:jQ prog w Og ok Oh ns ρ₁ [i] s s₁) (y:jQ prog w Og ok Oh ns ρ₂ is s₁ s₂):jQ prog w Og ok Oh ns ρ₂ (i::is) s s₂:=
 ⟨λb o hb e=>y.keep b o hb (x.keep b o hb e),y.gens.trans x.gens,y.os.trans x.os,Fx x.size y.size,y.frame,y.envr,λz u hz V=>y.vars z u (λq=>hz (FU _ q)) (x.vars z u (λq=>hz (by rw [G4.mp q];exact FT)) V)⟩
theorem vR (E:cu Oh ns) (OX: ∀b,ok b-> ¬bg Oh ns b) {xs:List Nat} {VG:List PV} (hs:a_ ρ xs VG=Fv ρ'): ∀(es:List Expr) (vs:List FR) (s:FL),
  tgs Og ns es=Fv xs->aE s.heap Oh ns->cJ prog w Og ok s.heap Oh ρ->av prog w ok s.heap VG vs->
  WP (FN prog w) A (L9 ((HQ es Oh).map (·.2)) vs) (λ_ s'=>jQ prog w Og ok Oh ns ρ' xs s s') s:=by
 refine dY hs (λρ es vs s h F R r=> ?_) λρ x xs v VG ρ' _ ih es vs s h F R r=> ?_
 ·cases es with
  |nil=>
   cases (show vs=[]from r);exact FK ⟨λ_ _ _ e=>e,rfl,rfl,FH _,F,R,λ_ _ _ V=>V⟩
  |cons=>exact ac h λ_ _ h=>aM (P:=λl=>l=[]->_) h (λ_ _ q=>nomatch q) rfl
 ·cases es with
  |nil=>exact nomatch h
  |cons e es=>
   obtain⟨u,vr,rfl,r1,r2⟩:=r;refine ac h λi hi h=>kn (P:=λe i=>(tgs Og ns es).map (λas=>i::as)=Fv (x::xs)->WP (FN prog w) A (L9 ((HQ (e::es) Oh).map (·.2)) (u::vr)) _ s) hi (λz p h1 h2 h=> ?_) h
   obtain⟨is,Sn,q⟩:=Gk.mp h;cases q;exact wpAny_assignInOrder_more ((qF E F R OX h1 h2 r1).mono λ_ s₁ B=>(ih es _ _ Sn B.frame B.envr (r2.mono (λ_ o _=>o) λb hb o e=>B.keep b o (OX b hb) e)).mono λ_ s₂ B₂=>B.trans B₂)
theorem uV: ∀{es:List Expr} {xs:List Nat},tgs Og ns es=Fv xs->(HQ es Oh).length=xs.length/\(HQ es Oh).findIdx? (·.1)=Fw:=by
 intro es;induction es with
 |nil=>exact λh=>FG h▸⟨rfl,rfl⟩
 |cons e es ih=>
  exact λh=>cE (P:=λxs=>(HQ (e::es) Oh).length=xs.length/\_) h λi is hi Sn=>kn (P:=λe _=>(HQ (e::es) Oh).length=(i::is).length/\(HQ (e::es) Oh).findIdx? (·.1)=Fw) hi λx p _ _=>
   ⟨congrArg MS (ih Sn).1,(List.findIdx?_cons ..).trans (congrArg (Kj MS) (ih Sn).2)⟩
theorem dX {xs:List Nat} {vs:List PV} (h:a_ ρ xs vs=Fv ρ'):xs.length=vs.length/\ρ'.length=ρ.length:=
 dY h (λ_=>⟨rfl,rfl⟩) λ_ _ _ _ _ _ _ ih=>⟨congrArg MS ih.1,ih.2.trans (J9 ..)⟩
theorem nq {pt:PT} (h:aT ρ pt v=Fv ρ'):ρ'.length=ρ.length:=i0 h (λ_=>J9 ..) λ_ _ h=>(dX h).2
theorem uG (hA:A.handled=Fw) (E:cu Oh ns) (F:aE s.heap Oh ns) (R:cJ prog w Og ok s.heap Oh ρ) (OX: ∀b,ok b-> ¬bg Oh ns b) (Sz: ∀b,bg Oh ns b-> ∃o,vis s.heap b=Fv o)
  {tgt:Expr} {pt:PT} {v:FR} (ht:sPT Og ns tgt=Fv pt) (hb:aT ρ pt pv=Fv ρ') (r:Rep prog w ok s.heap pv v):
  WP (FN prog w) A (Iq tgt Oh v) (λ_ s'=>jQ prog w Og ok Oh ns ρ' (ptIdx pt) s s'/\ρ'.length=ρ.length) s:=by
 refine WP.mono ?_ λ_ _ B=>⟨B,nq hb⟩;revert hb;refine oj (P:=λtgt pt=>aT ρ pt pv=Fv ρ'->WP (FN prog w) A (Iq tgt Oh v) (λ_ s'=>jQ prog w Og ok Oh ns ρ' (ptIdx pt) s s') s) ht (λx p h1 h2 hb=> ?_) λes c p xs Ri h2 hb=> ?_
 ·cases hb
  exact qF E F R OX h1 h2 r
 ·revert r
  refine wo (Q:=λpv=>Rep prog w ok s.heap pv v->WP _ A _ _ s) hb λUt hb r=> ?_;obtain⟨a,vs,rfl,Sh,_,l,q⟩:=r;have hn:=uV (Oh:=Oh) Ri;refine WP.size (wpAny_assign_Tuple hA l (hn.1.trans ((dX hb).1.trans (q.length.symm.trans (Gn ..).symm))) hn.2 λh' hx=> ?_);have RD:HK s.heap h':=λb o e=>u0 hx j_ (λq=>by rw [q,cW]at e;cases e) e
  haveI hF:aE h' Oh ns:=F.at λb hb o e=>RD b o e;refine(vR (A:=A) E OX hb _ _ {s with heap:=h'} Ri hF (R.keep RD) (q.keep RD)).mono λ_ s₂ B sz=>⟨λb o hb e=>B.keep b o hb (RD b o e),B.gens,B.os,sz,B.frame,B.envr,λy u hy V=>B.vars y u hy (V.keep RD)⟩
end
structure fD (Z:Gb->Prop) (ok ok':Gb->Prop) (s s':FL):Prop where
 keep: ∀b o,¬Z b->vis s.heap b=Fv o->vis s'.heap b=Fv o
 sub: ∀b,ok' b->ok b
 sup: ∀b o,ok b->vis s.heap b=Fv o->ok' b
 gens: ∀(i:Nat) g,s.gens[i]? =Fv g->s'.gens[i]? =Fv g
 os:s'.os=s.os
 free:ce ok' s'.heap
 size:s.heap.objs.size<=s'.heap.objs.size
variable {Z:Gb->Prop}
theorem fD.ofExt (x:Ext s s') (f:ce ok s.heap):fD Z ok ok s s':=
 ⟨λb o _ e=>x.keep b o e,λ_ h=>h,λ_ _ h _=>h,x.gens,x.os,f.keep x.size,x.size⟩
variable {ok' R8:Gb->Prop} {Oy:FL}
theorem fD.trans (hz: ∀b,Z b-> ¬ok b) (x:fD Z ok ok' s s') (y:fD Z ok' R8 s' Oy):fD Z ok R8 s Oy:=
 ⟨λb o h e=>y.keep b o h (x.keep b o h e),λb h=>x.sub b (y.sub b h),λb o h e=>y.sup b o (x.sup b o h e) (x.keep b o (λq=>hz b q h) e),λi g e=>y.gens i g (x.gens i g e),y.os.trans x.os,y.free,Fx x.size y.size⟩
structure tZ {α:Type} (D:Gb) (AR:(Gb->Prop)->α->Ht->Prop):Prop where
 frame: ∀{ok ok':Gb->Prop} {a:α} {h h':Ht},AR ok a h->(∀b,ok b∨b=D-> ∀o,vis h b=Fv o->vis h' b=Fv o)->(∀b o,ok b->vis h b=Fv o->ok' b)->AR ok' a h'
 has: ∀{ok:Gb->Prop} {a:α} {h:Ht},AR ok a h-> ∃o,vis h D=Fv o
structure LS (C:Cx) (Og:List Gj) (A:HB) (Oh:Lk) (ns:ay) (D:Gb) (ρ:Ρ) (ok:Gb->Prop) (s:FL):Prop where
 g:dj C Og A Oh ns ρ ok s
 z: ∀b,b=D∨bg Oh ns b-> ¬ok b
 f:aE s.heap Oh ns
 hD: ¬bg Oh ns D/\ ¬bD Oh D
 hH: ∀b,b=D∨bg Oh ns b->vis C.H b=Fw
 sy:Sys C.H
variable {C:Cx} {α:Type} {e:Expr} {depth:Nat} {Ok:FR} {St:(Gb->Prop)->List PV->List Gb->FL->Prop} {p0:HW}
section
variable {D:Gb}
theorem aE.live (F:aE h Oh ns) (hb:bg Oh ns b): ∃o,vis h b=Fv o:=by
 rcases hb with rfl|⟨x,hx,e⟩
 ·obtain⟨m,n⟩:=F.L;exact nM n
 ·obtain⟨c,v,e',n⟩:=F.C x hx
  rw [e]at e';cases e';exact lL n
theorem bg.reads (E:cu Oh ns) (hb:bg Oh ns b):bD Oh b:=by
 rcases hb with rfl|⟨x,hx,e⟩
 ·exact .inl rfl
 ·exact .inr ⟨x,by rw [E.own x hx];rfl,e⟩
theorem LS.next (L:LS C Og A Oh ns D ρ ok s) (keep: ∀b o,¬bg Oh ns b->b≠D->vis C.H b=Fv o∨bD Oh b->vis s.heap b=Fv o->vis s'.heap b=Fv o)
  (sub: ∀b,ok' b->ok b) (free:ce ok' s'.heap) (F:aE s'.heap Oh ns) (R:cJ C.prog C.w Og ok' s'.heap Oh ρ') (hl:ρ'.length<=Og.length):LS C Og A Oh ns D ρ' ok' s' where
 g:=by
  have hk:HK C.H s'.heap:=λb o e=>keep b o (λq=>by rw [L.hH b (.inr q)]at e;cases e) (λq=>by rw [L.hH b (.inl q)]at e;cases e) (.inl e) (L.g.h b o e)
  exact⟨L.g.a,L.g.e,hk,R,free,L.sy.keep hk,hl,λa ha=>by
   by_cases hh:bg Oh ns a
   ·exact F.live hh
   ·obtain⟨o,e⟩:=L.g.v a ha
    exact⟨o,keep a o hh (λq=>L.hD.2 (q▸ha)) (.inr ha) e⟩⟩
 z:=λb hb hc=>L.z b hb (sub b hc)
 f:=F
 hD:=L.hD
 hH:=L.hH
 sy:=L.sy
theorem cJ.at (R:cJ C.prog C.w Og ok h Oh ρ) (kr: ∀a,bD Oh a-> ∀o,vis h a=Fv o->vis h' a=Fv o) (ko: ∀b,ok b-> ∀o,vis h b=Fv o->vis h' b=Fv o)
  (sup: ∀b o,ok b->vis h b=Fv o->ok' b):cJ C.prog C.w Og ok' h' Oh ρ:=λx pv hx hp=>
 by obtain⟨v,a,b⟩:=R x pv hx hp;exact⟨v,a.at kr,b.mono (λa ha ⟨o,e⟩=>sup a o ha e) ko⟩
theorem cJ.less (R:cJ C.prog C.w Og ok h Oh ρ₂) (hρ: ∀i v,Ρ.get ρ₁ i=Fv v->Ρ.get ρ₂ i=Fv v):cJ C.prog C.w Og ok h Oh ρ₁:=
 λx pv hx hp=>R x pv hx (hρ _ _ hp)
theorem nn {AR:(Gb->Prop)->α->Ht->Prop} {tgt:Expr} {pt:PT}
 {tail:IH Fin} {ρ0:Ρ} {Pz:Ρ->α->Option α}
  (RI:compTurn e depth (.ref I) Ok Oh=(HM p0>>=λ_=>L7 (.ref I)>>=λr=>match r with
   |none=>pure (.done .next)
   |some v=>I8 tgt (.ref I) v>>=λ_=>Iq tgt Oh v>>=λ_=>tail))
  (RB:(FN C.prog C.w).den (.compLoop e depth (.ref I) Ok Oh)=(compTurn e depth (.ref I) Ok Oh).onRaise (λx=>do MN x Oh;N7 x))
  (Ry:A.under (.compLoop e depth (.ref I) Ok Oh)=A)
  (Ou:kN C.prog C.w C.d I [] T St) (hT:T tgt) (PJ:sPT Og ns tgt=Fv pt) (PN:tZ D AR)
  (hρ: ∀ρ' pv,aT ρ0 pt pv=Fv ρ'-> ∀i v,ρ0.get i=Fv v->ρ'.get i=Fv v)
  (body: ∀ρ' ok s a a',LS C Og A Oh ns D ρ' ok s->AR ok a s.heap->Pz ρ' a=Fv a'->
   WP (FN C.prog C.w) A tail (λfin s'=>fin= .again (.compLoop e depth (.ref I) Ok Oh)/\ ∃ok',fD (λb=>b=D∨bg Oh ns b) ok ok' s s'/\AR ok' a' s'.heap/\aE s'.heap Oh ns/\
    cJ C.prog C.w Og ok' s'.heap Oh ρ') s)
 {W:List Gb} {a z:α} (Qp:St ok xs W s) (hW: ∀b∈W,¬(b=D∨bg Oh ns b)/\ ¬bD Oh b/\vis C.H b=Fw) (L:LS C Og A Oh ns D ρ0 ok s)
  (Q7:AR ok a s.heap) (hz:xs.foldlM (λa x=>(aT ρ0 pt x).bind λρ'=>Pz ρ' a) a=Fv z):
  codeAny (FN C.prog C.w) A (.compLoop e depth (.ref I) Ok Oh) (λr s'=>r= .ok .next/\ ∃ok',fD (λb=>(b=D∨bg Oh ns b)∨b∈W) ok ok' s s'/\AR ok' z s'.heap/\aE s'.heap Oh ns/\
   cJ C.prog C.w Og ok' s'.heap Oh ρ0) s:=by
 obtain⟨Inv,hv⟩: ∃Inv:Nat->FL->Prop,∀n s₁,Inv n s₁↔ ∃xs Op W₁ a,n=xs.length/\St Op xs W₁ s₁/\(∀b∈W₁,¬(b=D∨bg Oh ns b)/\ ¬bD Oh b/\vis C.H b=Fw)/\(∀b∈W₁,b∈W∨s.heap.objs.size<=b)/\LS C Og A Oh ns D ρ0 Op s₁/\AR Op a s₁.heap/\xs.foldlM (λa x=>(aT ρ0 pt x).bind λρ'=>Pz ρ' a) a=Fv z/\fD (λb=>(b=D∨bg Oh ns b)∨b∈W) ok Op s s₁:=⟨_,λ_ _=>Iff.rfl⟩;refine codeAny_loop rfl Inv (λn s₁ hI=> ?_) xs.length ((hv _ _).mpr
  ⟨xs,ok,W,a,rfl,Qp,hW,λb hb=> .inl hb,L,Q7,hz,⟨λ_ _ _ e=>e,λ_ h=>h,λ_ _ h _=>h,λ_ _ e=>e,rfl,L.g.o,FH _⟩⟩)
 obtain⟨xs,Op,W₁,a,rfl,Qp,PC,Wh,L₁,QP,hz,T₁⟩:=(hv _ _).mp hI;rw [RB,Ry];refine wpAny_noted ?_;rw [RI];refine Hy (E:=λ_ _=>False) ?_ (λ_ _ h=>h) λ_ _ h=>h.elim;refine WP.gen λK hK=>WP.at ?_;cases xs with
 |nil=>
  cases hz;refine WP.then (Ou.done L₁.g.a Qp) λr s₂ ⟨hr,S⟩=> ?_;subst hr;refine FK (hK _ _ ⟨rfl,Op, ?_,PN.frame QP (λb hb o e=>S.keep b o (λq=> ?_) e) λ_ _ h _=>h,L₁.f.at λb hb o e=>S.keep b o (λq=>(PC b q).1 (.inr hb)) e,
   L₁.g.r.at (λb hb o e=>S.keep b o (λq=>(PC b q).2.1 hb) e) (λb hb o e=>S.keep b o (λq=>(Ou.own Qp b q).2 hb) e) λ_ _ h _=>h⟩)
  ·refine⟨λb o h e=>S.keep b o (λq=> ?_) (T₁.keep b o h e),T₁.sub,T₁.sup,λi g e=>S.gens i g (by simp) (T₁.gens i g e),S.os.trans T₁.os,λb e=>T₁.free b (Fx S.size e),Fx T₁.size S.size⟩
   rcases Wh b q with q|q
   ·exact h (.inr q)
   ·rw [bH q]at e;cases e
  ·rcases hb with hb|hb
   ·exact(Ou.own Qp b q).2 hb
   ·exact(PC b q).1 (.inl hb)
 |cons x xs=>
  rw [Jp]at hz;simp only [Hp,FQ]at hz;obtain⟨a',⟨ρ',hb,hs⟩,hz⟩:=hz;refine WP.then (Ou.next L₁.g.a hT L₁.g.o L₁.g.m Qp) λr s₂ ⟨v,W₂,hr,hW12,hW2,S₁,rv,hlet⟩=> ?_
  subst hr;refine WP.then hlet λ_ s₃ ⟨S₂,hSt₃⟩=> ?_;have PB: ∀b∈W₂,¬(b=D∨bg Oh ns b)/\ ¬bD Oh b/\vis C.H b=Fw:=λb hb=>by
   rcases hW2 b hb with q|q
   ·exact PC b q
   ·replace q:=bH q
    refine⟨?_,λhr=> ?_,L₁.g.h.none q⟩
    ·rintro(hd|hh)
     ·obtain⟨o,e⟩:=PN.has QP
      rw [hd,e]at q;cases q
     ·obtain⟨o,e⟩:=L₁.f.live hh
      rw [e]at q;cases q
    ·obtain⟨o,e⟩:=L₁.g.v b hr
     rw [e]at q;cases q
  have OK: ∀b o,b∉W₂->vis s₁.heap b=Fv o->vis s₃.heap b=Fv o:=λb o hb e=>S₂.keep b o hb (S₁.keep b o (λq=>hb (hW12 b q)) e);have Py: ∀b o,Op b->vis s₁.heap b=Fv o->okW Op W₂ b:=λb o hb e=>⟨hb,λq=>by
   rcases hW2 b q with q|q
   ·exact(Ou.own Qp b q).2 hb
   ·rw [bH q]at e;cases e⟩
  have SE:ce (okW Op W₂) s₃.heap:=λb e=>by
   have hb:b∉W₂:=λq=>by obtain⟨o,e'⟩:=(Ou.own hSt₃ b q).1;rw [bH e]at e';cases e'
   exact⟨L₁.g.o b (Fx (Fx S₁.size S₂.size) e),hb⟩
  have F₃:aE s₃.heap Oh ns:=L₁.f.at λb hb o e=>OK b o (λq=>(PB b q).1 (.inr hb)) e;have R₃:cJ C.prog C.w Og (okW Op W₂) s₃.heap Oh ρ0:=L₁.g.r.at (λb hb o e=>OK b o (λq=>(PB b q).2.1 hb) e) (λb hb o e=>OK b o (Py b o hb e).2 e) Py;have L₃:LS C Og A Oh ns D ρ0 (okW Op W₂) s₃:=L₁.next (λb o _ _ h e=>OK b o (λq=>by
   rcases h with h|h
   ·rw [(PB b q).2.2]at h;cases h
   ·exact(PB b q).2.1 h) e) (λb h=>h.1) SE F₃ R₃ L₁.g.l
  refine WP.then (uG L₁.g.a.1 L₁.g.e F₃ R₃ (λb hb hh=>L₃.z b (.inr hh) hb) (λb hb=>F₃.live hb) PJ hb (rv.mono (λ_ h _=>h) λb hb o e=>S₂.keep b o hb.2 e)) λ_ s₄ ⟨B,Oj⟩=> ?_;haveI UT:ce (okW Op W₂) s₄.heap:=λb e=>SE b (Fx B.size e);have L₄:LS C Og A Oh ns D ρ' (okW Op W₂) s₄:=L₃.next (λb o hh _ _ e=>B.keep b o hh e) (λb h=>h) UT B.frame B.envr (by rw [Oj];exact L₁.g.l)
  haveI UZ:AR (okW Op W₂) a s₄.heap:=PN.frame QP (λb hb o e=>B.keep b o (λhh=>by
    rcases hb with hb|hb
    ·exact L₁.z b (.inr hh) hb
    ·exact L₁.hD.1 (hb▸hh)) (OK b o (λq=>by
    rcases hb with hb|hb
    ·exact(Py b o hb e).2 q
    ·exact(PB b q).1 (.inl hb)) e)) Py
  refine(body ρ' _ s₄ a a' L₄ UZ hs).mono λfin s₅ ⟨hf,ok',T₅,AR₅,F₅,R₅⟩=> ?_;subst hf;haveI QN:St ok' xs W₂ s₅:=by
   haveI QO:St (okW Op W₂) xs W₂ s₄:=Ou.frame hSt₃ (λb o hb e=>B.keep b o (λhh=>by
    rcases hb with hb|hb
    ·exact L₁.z b (.inr hh) hb.1
    ·exact(PB b hb).1 (.inr hh)) e) (λb o h _=>h) (λb hb h=>h.2 hb) (λi g e=>by rw [B.gens];exact e) B.os
   refine Ou.frame QO (λb o hb e=>T₅.keep b o (λhz=> ?_) e) T₅.sup (λb hb h=>(T₅.sub b h).2 hb) T₅.gens T₅.os;rcases hb with hb|hb
   ·exact L₄.z b hz hb
   ·exact(PB b hb).1 hz
  haveI Tf: ∀b o,¬(b=D∨bg Oh ns b)->vis s₃.heap b=Fv o->vis s₅.heap b=Fv o:=λb o hb e=>T₅.keep b o hb (B.keep b o (λq=>hb (.inr q)) e);refine hK _ _ ⟨rfl,xs.length,Gx _,(hv _ _).mpr ⟨xs,ok',W₂,a',rfl,QN,PB,λb hb=> ?_, ?_,AR₅,hz, ?_⟩⟩
  ·rcases hW2 b hb with q|q
   ·exact Wh b q
   ·exact .inr (Fx T₁.size q)
  ·exact L₄.next (λb o hh hd _ e=>T₅.keep b o (λq=>q.elim hd hh) e) T₅.sub T₅.free F₅ (R₅.less (hρ ρ' x hb)) L₁.g.l
  ·refine⟨λb o h e=>Tf b o (λq=>h (.inl q)) (OK b o (λq=> ?_) (T₁.keep b o h e)),λb h=>T₁.sub b (T₅.sub b h).1,λb o h e=> ?_,λi g e=> ?_, ?_,T₅.free,Fx T₁.size (Fx S₁.size (Fx S₂.size (Fx B.size T₅.size)))⟩
   ·rcases hW2 b q with q|q
    ·rcases Wh b q with q|q
     ·exact h (.inr q)
     ·rw [bH q]at e;cases e
    ·have:=T₁.keep b o h e
     rw [bH q]at this;cases this
   ·have h1:=T₁.sup b o h e
    have hz1: ¬(b=D∨bg Oh ns b):=λq=>L₁.z b q h1;haveI hbW:b∉W:=λq=>(Ou.own ‹St ok _ W s› b q).2 h;have e1:=T₁.keep b o (λq=>q.elim hz1 hbW) e;have h2:=Py b o h1 e1;exact T₅.sup b o h2 (B.keep b o (λq=>hz1 (.inr q)) (OK b o h2.2 e1))
   ·refine T₅.gens i g ?_
    rw [B.gens];exact S₂.gens i g (by simp) (S₁.gens i g (by simp) (T₁.gens i g e))
   ·rw [T₅.os,B.os,S₂.os,S₁.os,T₁.os]
end
noncomputable def di (Oh:Lk):List (Gj×HF)->List (Gj×Gb)->List (Gj×Gb)
 |[],Ok=>Ok
 |(n,k)::r,Ok=>if k== .free then(match Oh.cells.lookup n with|some c=>di Oh r ((n,c)::Ok)|none=>di Oh r Ok)else di Oh r Ok
theorem Di {n:Gj} {k:HF} {r:List (Gj×HF)} {Ok:List (Gj×Gb)}:di Oh ((n,k)::r) Ok=if k== .free then(match Oh.cells.lookup n with|some c=>di Oh r ((n,c)::Ok)|none=>di Oh r Ok)else di Oh r Ok:=rfl
theorem ge: ∀(Og:List (Gj×HF)) (Ok:List (Gj×Gb)),(∀n,(n,GU)∈Og-> ∃c,Oh.cells.lookup n=Fv c)->
  (forIn Og Ok (fun(x:Gj×HF) (cs:List (Gj×Gb))=>if x.2== .free then(do let c<-cellOf Oh x.1;pure (.yield ((x.1,c)::cs)))else pure (.yield cs)):IH (List (Gj×Gb)))=pure (di Oh Og Ok)
 |[],Ok,_=>rfl
 |(n,k)::r,Ok,h=>by
  rw [JC];rw [Di];by_cases hk:(k==GU)=FE
  ·haveI Ps:k= .free:=by simpa using hk
   subst Ps;obtain⟨c,hc⟩:=h n FT;simp only [hk,if_true,hc];haveI:cellOf Oh n=pure c:=by unfold cellOf;rw [hc]
   rw [this];simp only [MM];exact ge r _ λn hn=>h n (FU _ hn)
  ·simp only [hk,if_false,MM]
   exact ge r _ λn hn=>h n (FU _ hn)
variable {sc:KY}
theorem ie (h: ∀n,(n,GU)∈sc.names-> ∃c,Oh.cells.lookup n=Fv c):Ls sc Oh=pure (di Oh sc.names []):=by have:=ge (Oh:=Oh) sc.names [] h;unfold Ls;rw [<-this];simp only [bind_pure]
theorem ft: ∀(Og:List (Gj×HF)) (Ok:List (Gj×Gb)),(∀n,(n,GU)∈Og-> ∃c,Oh.cells.lookup n=Fv c)->
  (di Oh Og Ok).lookup x=if(x,GU)∈Og then Oh.cells.lookup x else Ok.lookup x
 |[],Ok,_=>by rw [if_neg HU];rfl
 |(n,k)::r,Ok,h=>by
  have hr: ∀n,(n,GU)∈r-> ∃c,Oh.cells.lookup n=Fv c:=λn hn=>h n (FU _ hn);rw [Di];by_cases hk:(k==GU)=FE
  ·haveI Ps:k= .free:=by simpa using hk
   subst Ps;obtain⟨c,hc⟩:=h n FT;simp only [hk,if_true,hc];rw [ft r _ hr];by_cases hx:x=n
   ·subst hx
    simp [hc]
   ·haveI: ¬((x,GU)=(n,GU)):=λe=>hx (N8 e).1
    simp only [FS,this,false_or,Hh,show(x==n)=Fz by simpa using hx]
  ·rw [if_neg hk,ft r _ hr]
   haveI: ¬((x,GU)=(n,k)):=λe=>hk (by rw [<-(N8 e).2];rfl)
   simp only [FS,this,false_or]
theorem ca: ∀(Og:List (Gj×HF)) (n:Nat) (Ok:List (Gj×Gb)),H7 n Og Ok=H7 n Og []++Ok
 |[],n,Ok=>rfl
 |(x,k)::r,n,Ok=>by
  unfold H7;split
  ·rw [ca r (n+1) ((x,n)::Ok),ca r (n+1) [(x,n)]];simp
  ·exact ca r n Ok
theorem da {x:Gj}: ∀(Og:List (Gj×HF)) (n:Nat),(x,JV)∈Og↔ ∃c,(x,c)∈H7 n Og []
 |[],n=>by simp [H7]
 |(y,k)::r,n=>by
  unfold H7;by_cases hk:(k==JV)=FE
  ·haveI Ps:k= .cell:=by simpa using hk
   subst Ps;rw [if_pos hk,ca];have ih:=da (x:=x) r (n+1);constructor
   ·intro h
    rcases FS.mp h with e|h
    ·cases e;exact⟨n,by simp⟩
    ·obtain⟨c,hc⟩:=ih.mp h
     exact⟨c,List.mem_append_left _ hc⟩
   ·rintro⟨c,hc⟩
    rcases GY.mp hc with h|h
    ·exact FU _ (ih.mpr ⟨c,h⟩)
    ·cases G4.mp h;exact FT
  ·rw [if_neg hk]
   haveI ih:=da (x:=x) r n;rw [<-ih];constructor
   ·intro h
    rcases FS.mp h with e|h
    ·exact absurd (by rw [<-(N8 e).2];rfl) hk
    ·exact h
   ·exact λh=>FU _ h
theorem gM: ∀{l:List (Gj×α)},(∀c,(x,c)∉l)->l.lookup x=Fw
 |[],_=>rfl
 |(y,c)::r,h=>by
  rw [Hh];cases hb:x==y with
  |true=>exact absurd (by rw [beq_iff_eq.mp hb];exact FT) (h c)
  |false=>exact gM λc hc=>h c (FU _ hc)
theorem e_ {c:α}: ∀{l:List (Gj×α)},(x,c)∈l-> ∃c',l.lookup x=Fv c'
 |(y,c')::r,h=>by
  rw [Hh];cases hb:x==y with
  |true=>exact⟨c',rfl⟩
  |false=>
   rcases FS.mp h with e|h
   ·cases e;simp at hb
   ·exact e_ h
noncomputable def ff (Oh:Lk) (x:Gj) (k:HF):HF:=if(k== .free&&Oh.scope.kind== .function&&Oh.kindOf x==Fv .cell)then .cell else k
theorem gL {Oh:Lk} {x:Gj}: ∀(Og:List (Gj×HF)),
  (Og.map fun(n,k)=>if(k==GU&&Oh.scope.kind== .function&&Oh.kindOf n==Fv .cell)then(n,JV)else(n,k)).lookup x=(Og.lookup x).map (ff Oh x)
 |[]=>rfl
 |(n,k)::r=>by
  have ih:=gL (Oh:=Oh) (x:=x) r;show List.lookup x ((if(k==GU&&Oh.scope.kind== .function&&Oh.kindOf n==Fv .cell)=FE then(n,JV)else(n,k))::_)=_;cases hx:x==n with
  |true=>
   haveI:x=n:=beq_iff_eq.mp hx;subst this;by_cases hc:(k==GU&&Oh.scope.kind== .function&&Oh.kindOf x==Fv .cell)=FE
   ·rw [if_pos hc];simp only [Hh,hx,M1,ff];rw [if_pos hc]
   ·rw [if_neg hc];simp only [Hh,hx,M1,ff];rw [if_neg hc]
  |false=>
   by_cases hc:(k==GU&&Oh.scope.kind== .function&&Oh.kindOf n==Fv .cell)=FE
   ·rw [if_pos hc];simp only [Hh,hx];exact ih
   ·rw [if_neg hc];simp only [Hh,hx];exact ih
noncomputable def n_ (sc:KY) (L:Gb) (cells:List (Gj×Gb)) (Oh:Lk):Lk:=
 {(newEnv sc L Oh.globals cells Oh.qual Fw .none (Fv Oh) Jw)with scope:=relabel sc Oh}
section
theorem ir (h:bV ns sc=FE) (hx:(x,GU)∈sc.names):bu (ns.lookup x)=FE:=by simp only [bV,GH,GD]at h;have:=(h.2 _ hx).1;simpa using this
theorem ga (h:bV ns sc=FE) {k:HF} (hx:(x,k)∈sc.names):sc.names.lookup x=Fv k:=by simp only [bV,GH,GD]at h;have:=(h.2 _ hx).2;simpa using this
theorem lU (h:bV ns sc=FE):sc.kind= .function:=by simp only [bV,GH]at h;simpa using h.1
theorem o_ {cl:List (Gj×Gb)} {Q:Lk->FL->Prop}
  (h:Q (newEnv sc s.heap.objs.size Oh.globals (H7 (s.heap.objs.size+1) sc.names cl) Oh.qual Fw .none (Fv Oh) Jw)
   {s with heap:=KB (s.heap.push {cls:= .type "dict",data:= .dict #[]}) sc.names}):
  WP (FN C.prog C.w) A (newFunctionEnv sc Oh.globals cl [] Oh.qual Fw .none (Fv Oh)) Q s:=by
 unfold newFunctionEnv;simp only [Option.isSome_some,if_true];refine FJ (wpAny_alloc ?_);refine FJ (wpAny_layCells _ (λname kind cells=>by cases hkc:kind==JV<;>simp [hkc]) _ _ _ _ ?_)
 rw [show({s with heap:=s.heap.push {cls:= .type "dict",data:= .dict #[]}}:FL).heap.objs.size=s.heap.objs.size+1 from GP ..]
 exact FJ (FK (FK h))
theorem eZ: ∀(Og:List (Gj×HF)) (h:Ht),h.objs.size<=(KB h Og).objs.size
 |[],h=>FH _
 |(x,k)::r,h=>by
  unfold KB;split
  ·exact Fx (by rw [GP];exact FZ _ _) (eZ r _)
  ·exact eZ r h
structure Az (C:Cx) (Og:List Gj) (ok:Gb->Prop) (Oh Ol:Lk) (sc:KY) (ρ:Ρ) (s s':FL):Prop where
 x:Ext s s'
 e:cu Ol sc.names
 f:aE s'.heap Ol sc.names
 r: ∀ok':Gb->Prop,cJ C.prog C.w Og ok' s'.heap Oh ρ->cJ C.prog C.w Og ok' s'.heap Ol (aB ρ (cf Og sc))
 new: ∀b,bg Ol sc.names b->s.heap.objs.size<=b
 reads: ∀b,bD Ol b->bg Ol sc.names b∨bD Oh b
 L:Ol.locals=s.heap.objs.size
theorem cw: ∀{ms:List Nat} {ρ:Ρ} {i:Nat} {v:PV},Ρ.get (aB ρ ms) i=Fv v->i∉ms/\ρ.get i=Fv v
 |[],ρ,i,v,h=>⟨by simp,h⟩
 |m::ms,ρ,i,v,h=>by
  rw [aB]at h;obtain⟨a,b⟩:=cw h;by_cases e:i=m
  ·subst e
   have:=dM b;cases this
  ·rw [aF e]at b
   exact⟨by simp [e,a],b⟩
theorem eI: ∀{ms:List Nat} {ρ:Ρ},(aB ρ ms).length=ρ.length
 |[],ρ=>rfl
 |m::ms,ρ=>by rw [aB,eI];simp
set_option tactic.hygienic true in
theorem yx (hs:bV ns sc=FE) (G:dj C Og A Oh ns ρ ok s):
  Az C Og ok Oh (n_ sc s.heap.objs.size (H7 (s.heap.objs.size+1) sc.names (di Oh sc.names [])) Oh) sc ρ s
   {s with heap:=KB (s.heap.push {cls:= .type "dict",data:= .dict #[]}) sc.names}:=by
 haveI PY: ∀n,(n,GU)∈sc.names-> ∃c,Oh.cells.lookup n=Fv c:=λn hn=>G.e.cells n (by rw [<-G.e.cel];exact ir hs hn)
 haveI Pb: ∀x,(di Oh sc.names []).lookup x=if(x,GU)∈sc.names then Oh.cells.lookup x else Fw:=λx=>by rw [ft _ _ PY];rfl
 have hk: ∀x,(n_ sc s.heap.objs.size (H7 (s.heap.objs.size+1) sc.names (di Oh sc.names [])) Oh).kindOf x=(sc.names.lookup x).map (ff Oh x):=λx=>gL sc.names;have OR:(s.heap.push {cls:= .type "dict",data:= .dict #[]}).objs.size=s.heap.objs.size+1:=GP ..
 have QM:CellsOk (KB (s.heap.push {cls:= .type "dict",data:= .dict #[]}) sc.names) (s.heap.objs.size+1) (H7 (s.heap.objs.size+1) sc.names []):=by
  have:=cellsFrom_ok sc.names (s.heap.push {cls:= .type "dict",data:= .dict #[]}) (s.heap.objs.size+1) [] ⟨λ_ _ hm=>(nomatch hm),MJ⟩ (by rw [OR];exact FH _)
  rwa [OR]at this
 haveI old:HK s.heap (KB (s.heap.push {cls:= .type "dict",data:= .dict #[]}) sc.names):=HK.of λb o e=>pushCells_keeps _ _ b o (Hm _ e);have P_: ∀{x k},sc.names.lookup x=Fv k->(x,k)∈sc.names:=λh=>mem_of_lookup h;have PM: ∀x,(H7 (s.heap.objs.size+1) sc.names (di Oh sc.names [])).lookup x=
   if sc.names.lookup x=Fv .cell then(H7 (s.heap.objs.size+1) sc.names []).lookup x else if sc.names.lookup x=Fv .free then Oh.cells.lookup x else Fw:=λx=>by
  rw [ca,List.lookup_append];by_cases h1:sc.names.lookup x=Fv .cell
  ·rw [if_pos h1]
   obtain⟨c,hc⟩:=(da sc.names (s.heap.objs.size+1)).mp (P_ h1);obtain⟨c',QR⟩:=e_ hc;rw [QR];rfl
  ·rw [if_neg h1]
   haveI:(H7 (s.heap.objs.size+1) sc.names []).lookup x=Fw:=gM λc hc=>h1 (ga hs ((da sc.names (s.heap.objs.size+1)).mpr ⟨c,hc⟩));rw [this,Option.none_or,Pb];by_cases h2:sc.names.lookup x=Fv .free
   ·rw [if_pos h2,if_pos (P_ h2)]
   ·rw [if_neg h2,if_neg λh=>h2 (ga hs h)]
 have PQ: ∀{x},sc.names.lookup x=Fv .cell-> ∃c,(H7 (s.heap.objs.size+1) sc.names []).lookup x=Fv c/\s.heap.objs.size+1<=c/\
   (KB (s.heap.push {cls:= .type "dict",data:= .dict #[]}) sc.names).IsCell c Fw:=λ{x} h=>by
  obtain⟨c,hc⟩:=(da sc.names (s.heap.objs.size+1)).mp (P_ h);obtain⟨c',QR⟩:=e_ hc;obtain⟨a,b⟩:=QM.empty x c' (mem_of_lookup QR);exact⟨c',QR,b,a⟩
 have ck: ∀{x},bu ((sc.names.lookup x).map (ff Oh x))=FE->sc.names.lookup x=Fv .cell∨sc.names.lookup x=Fv .free:=λ{x} h=>by
  cases e:sc.names.lookup x with
  |none=>rw [e]at h;cases h
  |some k=>
   rw [e]at h;cases k<;>first|exact .inl rfl|exact .inr rfl|(exfalso;revert h;simp [ff,bu])
 have fk: ∀{x},sc.names.lookup x=Fv .free->bu (Oh.kindOf x)=FE:=λ{x} h=>by rw [<-G.e.cel];exact ir hs (P_ h)
 haveI Q9: ∀b,bg (n_ sc s.heap.objs.size (H7 (s.heap.objs.size+1) sc.names (di Oh sc.names [])) Oh) sc.names b->s.heap.objs.size<=b:=by
  rintro b (rfl|⟨x,hx,e⟩)
  ·exact FH _
  ·replace e:(H7 (s.heap.objs.size+1) sc.names (di Oh sc.names [])).lookup x=Fv b:=e
   rw [PM,if_pos hx]at e;obtain⟨c,e',h1,_⟩:=PQ hx;rw [e']at e;cases e;exact LX h1
 refine⟨⟨old, ?_,λ_ _ e=>e,rfl⟩,⟨?_,rfl.trans G.e.glob,rfl.trans G.e.blt, ?_, ?_, ?_, ?_, ?_⟩,⟨⟨λ_=>Fw, ?_⟩, ?_⟩, ?_,Q9, ?_,rfl⟩
 ·exact Fx (by rw [OR];exact Ka _) (eZ _ _)
 ·show sc.kind= .function
  exact lU hs
 ·intro x
  rw [hk];cases e:sc.names.lookup x with
  |none=>rfl
  |some k=>
   show fC (Fv (ff Oh x k))=fC (Fv k);unfold ff;split
   ·rename_i h
    haveI:k= .free:=by simp only [GH,beq_iff_eq]at h;exact h.1.1
    subst this;rfl
   ·rfl
 ·intro x
  rw [hk];cases e:sc.names.lookup x with
  |none=>rfl
  |some k=>
   show bu (Fv k)=bu (Fv (ff Oh x k));unfold ff;split
   ·rename_i h
    haveI:k= .free:=by simp only [GH,beq_iff_eq]at h;exact h.1.1
    subst this;rfl
   ·rfl
 ·intro x hx
  rw [hk]at hx;show∃c,(H7 (s.heap.objs.size+1) sc.names (di Oh sc.names [])).lookup x=Fv c;rw [PM];rcases ck hx with h|h
  ·rw [if_pos h]
   obtain⟨c,e,_⟩:=PQ h;exact⟨c,e⟩
  ·rw [h]
   exact G.e.cells x (fk h)
 ·intro x y c hx hy ex ey
  rw [hk]at hx hy;replace ex:(H7 (s.heap.objs.size+1) sc.names (di Oh sc.names [])).lookup x=Fv c:=ex;replace ey:(H7 (s.heap.objs.size+1) sc.names (di Oh sc.names [])).lookup y=Fv c:=ey;rw [PM]at ex ey;have live: ∀{z},sc.names.lookup z=Fv .free->Oh.cells.lookup z=Fv c->c<s.heap.objs.size:=λ{z} hz e=>by obtain⟨o,ho⟩:=G.v c (.inr ⟨z,fk hz,e⟩);exact aq ho
  have S5: ∀{z},sc.names.lookup z=Fv .cell->(H7 (s.heap.objs.size+1) sc.names []).lookup z=Fv c->s.heap.objs.size+1<=c:=λ{z} hz e=>by obtain⟨c',e',h1,_⟩:=PQ hz;rw [e']at e;cases e;exact h1
  rcases ck hx with h|h<;>rcases ck hy with h'|h'
  ·rw [if_pos h]at ex;rw [if_pos h']at ey
   exact name_of_addr QM.apart (mem_of_lookup ex) (mem_of_lookup ey)
  ·rw [if_pos h]at ex;rw [h']at ey
   exact absurd (live h' ey) (JK.mpr (LX (S5 h ex)))
  ·rw [h]at ex;rw [if_pos h']at ey
   exact absurd (live h ex) (JK.mpr (LX (S5 h' ey)))
  ·rw [h]at ex;rw [h']at ey
   exact G.e.inj x y c (fk h) (fk h') ex ey
 ·intro x hx
  rw [hk,hx]
  rfl
 ·exact(Heap.Ns.new s.heap (.type "dict")).keeps (pushCells_keeps _ _)
 ·intro x hx
  show∃c v,(H7 (s.heap.objs.size+1) sc.names (di Oh sc.names [])).lookup x=Fv c/\_;rw [PM,if_pos hx];obtain⟨c,e,_,h⟩:=PQ hx;exact⟨c,Fw,e,h⟩
 ·intro ok' R' x pv hx hp
  rw [hk]at hx;obtain⟨hm,hp⟩:=cw hp;have Tn:sc.names.lookup x=Fv .free:=by
   cases e:sc.names.lookup x with
   |none=>rw [e]at hx;cases hx
   |some k=>
    rw [e]at hx;have own: ∀k,(k= .local∨k= .cell)->sc.names.lookup x=Fv k->False:=λk Ps e'=>hm (by unfold cf;refine Ga.mpr ⟨(x,k),GR.mpr ⟨P_ e', ?_⟩,rfl⟩;rcases Ps with rfl|rfl<;>rfl)
    cases k<;>first|rfl|exact(own _ (.inl rfl) e).elim|exact(own _ (.inr rfl) e).elim|(exfalso;revert hx;simp [ff,fC])
  have TA:=fk Tn;obtain⟨v,V,R⟩:=R' x pv (by
   cases e:Oh.kindOf x with
   |none=>rw [e]at TA;cases TA
   |some k=>rw [e]at TA;cases k<;>first|rfl|cases TA) hp
  refine⟨v, ?_,R⟩;cases V with
  |loc m k n e=>rw [k]at TA;cases TA
  |cel c k l e=>
   refine .cel c ?_ ?_ e
   ·rw [hk,Tn]
    show Fv (ff Oh x .free)=_∨Fv (ff Oh x .free)=_;unfold ff;split
    ·exact .inl rfl
    ·exact .inr rfl
   ·show(H7 (s.heap.objs.size+1) sc.names (di Oh sc.names [])).lookup x=Fv c
    rw [PM,Tn];exact l
 ·rintro b (rfl|⟨x,hx,e⟩)
  ·exact .inl (.inl rfl)
  ·rw [hk]at hx
   rcases ck hx with h|h
   ·exact .inl (.inr ⟨x,h,e⟩)
   ·refine .inr (.inr ⟨x,fk h, ?_⟩)
    replace e:(H7 (s.heap.objs.size+1) sc.names (di Oh sc.names [])).lookup x=Fv b:=e;rw [PM,h]at e;exact e
end
theorem ix (h:iH e=FE) (Oh:Lk) (x:FR):Jn e Oh x=pure x:=by cases e<;>first|rfl|cases h
variable {g:Kk}
theorem ic {R:Mc->FL->Prop}
  (RB:(FN prog w).den (.compStart e depth (.ref I) Ok Oh)=(compStart e depth (.ref I) Ok Oh).onRaise (λx=>do MN x Oh;HM theWindowsPlace))
  (Ry:A.under (.compStart e depth (.ref I) Ok Oh)=A)
  (hq:Code.quiet (.compLoop e depth (.ref I) Ok Oh)=FE)
  (Pb:(clausesOf e)[depth]? =Fv g) (ha:g.is_async=0)
  (Uy:WP (FN prog w) A (LL (.ref I)) (λv s1=>v= .ref I/\s1=s) s)
  (h:codeAny (FN prog w) A (.compLoop e depth (.ref I) Ok Oh) R s):codeAny (FN prog w) A (.compStart e depth (.ref I) Ok Oh) R s:=by
 refine codeAny_of_tree ?_;rw [RB,Ry];refine wpAny_notedAt ?_;refine Hy (E:=λ_ _=>False) ?_ (λ_ _ h=>h) λ_ _ h=>h.elim;unfold compStart;rw [Pb];haveI hb:((Fv g).elim Fz λx=>x.is_async !=0)=Fz:=by simp [ha]
 rw [hb];show Ig _ _ (ask>>=_) _ _ s;refine FJ (wpAny_askSetting (wpAny_ite ?_));split
 ·first
   |exact FJ (FK (FK (And.intro hq h)))
   |exact FK (And.intro hq h)
 ·refine FJ (Lq ?_)
  refine WP.at ?_;refine WP.then Uy λv s1 ⟨h1,h2⟩=> ?_;subst h1 h2;exact FK (And.intro hq h)
theorem sB {xs:List Nat} {vs:List PV} (h:a_ ρ xs vs=Fv ρ'):i∉xs->ρ.get i=Fv v->ρ'.get i=Fv v:=
 dY h (λ_ _ h=>h) λρ x xs u vs ρ' _ ih hi hv=>ih (λq=>hi (FU _ q)) ((aF λq=>hi (FS.mpr (.inl q))).trans hv)
theorem jM {pt:PT} (h:aT ρ pt pv=Fv ρ'):i∉ptIdx pt->ρ.get i=Fv v->ρ'.get i=Fv v:=
 i0 h (λ_ hi hv=>(aF (λq=>hi (G4.mpr q))).trans hv) λ_ _ h=>sB h
theorem zh {tgt:Expr} {pt:PT} (h:sPT Og sc.names tgt=Fv pt): ∀i∈ptIdx pt,i∈cf Og sc:=by
 have one: ∀{x:Gj},b8 sc.names x=FE->Og.idxOf x∈cf Og sc:=λ{x} hx=>by
  simp only [b8,GH,JD,beq_iff_eq]at hx;unfold cf;rcases hx.1 with e|e
  ·exact Ga.mpr ⟨(x,.local),GR.mpr ⟨mem_of_lookup e,rfl⟩,rfl⟩
  ·exact Ga.mpr ⟨(x,.cell),GR.mpr ⟨mem_of_lookup e,rfl⟩,rfl⟩
 refine oj (P:=λ_ pt=> ∀i∈ptIdx pt,i∈cf Og sc) h (λx p h1 _ i hi=>G4.mp hi▸one h1) λes _ _ xs h hl=> ?_;clear hl;show∀i∈xs,i∈cf Og sc;revert xs;induction es with
 |nil=>exact λxs h=>FG h▸λ_ hi=>nomatch hi
 |cons e es ih=>exact λxs h=>cE (P:=λxs=> ∀i∈xs,i∈cf Og sc) h λi is hi Sn j hj=>(FS.mp hj).elim (λq=>q▸kn (P:=λ_ i=>i∈cf Og sc) hi λx p h1 _=>one h1) λq=>ih is Sn j q
variable {iter:Expr} {ifs:List Expr} {P9:Option (FR->IH Unit)} {Q:FR->FL->Prop}
section
theorem jI {RN:IH FR} {tgt:Expr} {rest:List Kk} {AR:Gb->(Gb->Prop)->α->Ht->Prop} {a0 z:α}
 {pt:PT} {Pz:Ρ->α->Option α} {tail:Gb->Gb->Lk->IH IK}
  (Qc:Sys C.H) (Pb:clausesOf e=⟨tgt,iter,ifs,0⟩::rest) (RZ:iH iter=FE) (hs:bV ns sc=FE) (PJ:sPT Og sc.names tgt=Fv pt) (G:dj C Og A Oh ns ρ ok s)
  (Ou:WP (FN C.prog C.w) A (Hz iter Oh) (λv s'=>Ext s s'/\pE C.prog C.w C.d ok xs T s v s') s) (hT:T tgt)
  (Q9: ∀(s:FL) (Q:FR->FL->Prop),Q (.ref s.heap.objs.size) {s with heap:=s.heap.push o}->WP (FN C.prog C.w) A RN Q s)
  (PN: ∀D,tZ D (AR D)) (X0: ∀(ok:Gb->Prop) (h:Ht),AR h.objs.size ok a0 (h.push o))
  (RI: ∀I D Ol,compTurn e 0 (.ref I) (.ref D) Ol=(HM p0>>=λ_=>L7 (.ref I)>>=λr=>match r with
   |none=>pure (.done .next)
   |some v=>I8 tgt (.ref I) v>>=λ_=>Iq tgt Ol v>>=λ_=>tail I D Ol))
  (RB: ∀I D Ol,(FN C.prog C.w).den (.compLoop e 0 (.ref I) (.ref D) Ol)=(compTurn e 0 (.ref I) (.ref D) Ol).onRaise (λx=>do MN x Ol;N7 x))
  (Ry: ∀I D Ol,A.under (.compLoop e 0 (.ref I) (.ref D) Ol)=A)
  (UN: ∀I D Ol,(FN C.prog C.w).den (.compStart e 0 (.ref I) (.ref D) Ol)=(compStart e 0 (.ref I) (.ref D) Ol).onRaise (λx=>do MN x Ol;HM theWindowsPlace))
  (Uw: ∀I D Ol,A.under (.compStart e 0 (.ref I) (.ref D) Ol)=A)
  (body: ∀I D Ol ρ' ok s a a',LS C Og A Ol sc.names D ρ' ok s->AR D ok a s.heap->Pz ρ' a=Fv a'->
   WP (FN C.prog C.w) A (tail I D Ol) (λfin s'=>fin= .again (.compLoop e 0 (.ref I) (.ref D) Ol)/\ ∃ok',fD (λb=>b=D∨bg Ol sc.names b) ok ok' s s'/\AR D ok' a' s'.heap/\aE s'.heap Ol sc.names/\
    cJ C.prog C.w Og ok' s'.heap Ol ρ') s)
  (UI:xs.foldlM (λa x=>(aT (aB ρ (cf Og sc)) pt x).bind λρ'=>Pz ρ' a) a0=Fv z)
  (OZ: ∀D L s' ok',Ext s s'->s.heap.objs.size<=D->s.heap.objs.size<=L->D≠L->(∃m,s'.heap.Ns L m)->AR D ok' z s'.heap->(∀b,ok' b->ok b/\b≠D/\b≠L)->
   compPost (FN C.prog C.w) A (λ_ _=>False) P9 Q (.ref D) L (.ok .next) s'):
  WP (FN C.prog C.w) A (JN e sc Oh pos RN Fz (Hz iter Oh) P9) Q s:=by
 haveI PY: ∀n,(n,GU)∈sc.names-> ∃c,Oh.cells.lookup n=Fv c:=λn hn=>G.e.cells n (by rw [<-G.e.cel];exact ir hs hn)
 refine wpAny_comprehension_free Pb (ix RZ Oh) (ie PY) (lU hs) (λx hx hl=>ga hs (hl▸hx)) ?_;refine Hy Ou (λv s₁ ⟨x₁,hv⟩=> ?_) λ_ _ h=>h;refine Hy (hv A G.a) (λit s₂ ⟨x₂,I,hI,W,St,hIt,Qp,hW⟩=> ?_) λ_ _ h=>h;subst hI;refine Q9 s₂ _ ?_;have x3:Ext s {s₂ with heap:=s₂.heap.push o}:=(x₁.trans x₂).trans (Ext.pushed s₂ o s₂.toks)
 haveI G₃:=G.ext x3;have CE:=yx hs G₃;refine o_ (C:=C) ?_;generalize QM:H7 _ sc.names _=cells at CE ⊢
 haveI SY:(s₂.heap.push o).objs.size=s₂.heap.objs.size+1:=GP ..
 generalize hL:({s₂ with heap:=s₂.heap.push o}:FL).heap.objs.size=L at CE ⊢
 replace hL:(s₂.heap.push o).objs.size=L:=hL;generalize VV:({heap:=KB _ sc.names,gens:=_,drawn:=_,toks:=_,os:=_}:FL)=s₄ at CE ⊢
 generalize hD:s₂.heap.objs.size=D;generalize hcenv:n_ sc L cells Oh=Ol at CE;haveI WV:({(newEnv sc L Oh.globals cells Oh.qual Fw .none (Fv Oh) Jw)with scope:=relabel sc Oh}:Lk)=Ol:=hcenv
 rw [WV];have hcL:Ol.locals=L:=CE.L.trans hL;have sD:s.heap.objs.size<=D:=by rw [<-hD];exact Fx x₁.size x₂.size
 have DL:D<L:=by rw [<-hL,SY,hD];exact Gx _
 have QH: ∀b,bg Ol sc.names b->D<b:=λb hb=>Fy DL (by have:=CE.new b hb;rw [<-hL];exact this)
 have x4:Ext s s₄:=x3.trans CE.x;haveI x24:HK s₂.heap s₄.heap:=λb o' e=>CE.x.keep b o' (HK.push _ _ b o' e);have Sw: ∀b∈W,b<D:=λb hb=>by obtain⟨⟨o',e⟩,_⟩:=hIt.own Qp b hb;rw [<-hD];exact aq e
 have L4:D<s₄.heap.objs.size:=by have:=CE.x.size;exact Fy DL (hL▸this)
 haveI V5: ∀b,(okW ok W b/\ ¬(b=D∨bg Ol sc.names b))->ok b:=λb h=>h.1.1;haveI LSt:LS C Og A Ol sc.names D (aB ρ (cf Og sc)) (λb=>okW ok W b/\ ¬(b=D∨bg Ol sc.names b)) s₄:=by
  refine⟨⟨G.a,CE.e,G.h.trans x4.keep, ?_,λb hb=>⟨⟨G.o b (Fx x4.size hb),λq=> ?_⟩, ?_⟩,G.m.keep x4.keep,by rw [eI];exact G.l,λb hb=> ?_⟩,λb hb h=>h.2 hb,CE.f,⟨λq=>FV _ (QH D q),λq=> ?_⟩,λb hb=> ?_,Qc⟩
  ·refine CE.r _ (G.r.at (λa _ o e=>x4.keep a o e) (λb _ o e=>x4.keep b o e) λb o hb e=>⟨⟨hb,λq=> ?_⟩, ?_⟩)
   ·exact FV _ (Fy (aq e) (hW b q))
   ·rintro(q|q)
    ·subst q;exact FV _ (Fy (aq e) sD)
    ·exact FV _ (Fy (Fy (aq e) sD) (Gm (QH b q)))
  ·exact FV _ (Fy (HL (Sw b q) L4) hb)
  ·rintro(q|q)
   ·subst q;exact FV _ (Fy L4 hb)
   ·obtain⟨o',e⟩:=CE.f.live q
    exact FV _ (Fy (aq e) hb)
  ·rcases CE.reads b hb with q|q
   ·exact CE.f.live q
   ·obtain⟨o',e⟩:=G.v b q
    exact⟨o',x4.keep _ _ e⟩
  ·rcases CE.reads D q with q|q
   ·exact FV _ (QH D q)
   ·obtain⟨o',e⟩:=G.v D q
    exact FV _ (Fy (aq e) sD)
  ·refine G.h.none (bH ?_)
   rcases hb with rfl|hb
   ·exact sD
   ·exact Fx sD (Gm (QH b hb))
 haveI Wj: ∀b∈W,¬(b=D∨bg Ol sc.names b)/\ ¬bD Ol b/\vis C.H b=Fw:=λb hb=>by
  have Qk:=Sw b hb;have n1: ¬bg Ol sc.names b:=λq=>FV _ (HL (QH b q) Qk);refine⟨?_,λq=> ?_,G.h.none (bH (hW b hb))⟩
  ·rintro(q|q)
   ·exact GK Qk q
   ·exact n1 q
  ·rcases CE.reads b q with q|q
   ·exact n1 q
   ·obtain⟨o',e⟩:=G.v b q
    exact FV _ (Fy (aq e) (hW b hb))
 have Um:St (λb=>okW ok W b/\ ¬(b=D∨bg Ol sc.names b)) xs W s₄:=by
  refine hIt.frame Qp (λb o' _ e=>x24 b o' e) (λb o' h e=>⟨h, ?_⟩) (λb hb h=>h.1.2 hb) (λi g e=>CE.x.gens i g e) CE.x.os;rintro(q|q)
  ·rw [q,<-hD,cW]at e;cases e
  ·have:=QH b q
   rw [<-hD]at this;exact FV _ (HL this (aq e))
 haveI AR4:AR D (λb=>okW ok W b/\ ¬(b=D∨bg Ol sc.names b)) a0 s₄.heap:=by have h0:=X0 (λb=>okW ok W b/\ ¬(b=D∨bg Ol sc.names b)) s₂.heap;rw [hD]at h0;exact(PN D).frame h0 (λb _ o' e=>CE.x.keep b o' e) λ_ _ h _=>h
 haveI hρ: ∀ρ' pv,aT (aB ρ (cf Og sc)) pt pv=Fv ρ'-> ∀i v,(aB ρ (cf Og sc)).get i=Fv v->ρ'.get i=Fv v:=λρ' pv hb i v hv=>
  jM hb (λq=>(cw hv).1 (zh PJ i q)) hv
 refine ic (g:=⟨tgt,iter,ifs,0⟩) (UN I D Ol) (Uw I D Ol) rfl (by rw [Pb];rfl) rfl (hIt.self G.a Um) ?_
 refine codeAny_mono (nn (RI I D Ol) (RB I D Ol) (Ry I D Ol) hIt hT PJ (PN D) hρ (body I D Ol) Um Wj LSt AR4 UI) λr s₅ ⟨hr,ok',T₅,AR₅,F₅,R₅⟩=> ?_;subst hr;haveI h0:=OZ D L s₅ ok' ⟨λb o' e=> ?_,Fx x4.size T₅.size,λi g e=>T₅.gens i g (x4.gens i g e),T₅.os.trans x4.os⟩ sD (Fx sD (Gm DL)) (GK DL) (hcL▸F₅.L) AR₅ λb hb=> ?_
 ·exact h0
 ·refine T₅.keep b o' ?_ (x4.keep b o' e)
  have hb:=aq e;rintro((q|q)|q)
  ·exact FV _ (Fy hb (q▸sD))
  ·exact FV _ (Fy hb (Fx sD (Gm (QH b q))))
  ·exact FV _ (Fy hb (hW b q))
 ·have h:=T₅.sub b hb
  exact⟨h.1.1,λq=>h.2 (.inl q),λq=>h.2 (.inr (.inl (q.trans hcL.symm)))⟩
end
def aJ (C:Cx) (Γ:Gam) (Og:List Gj) (ns:ay) (e:Expr) (pe:PE):Prop:=
 ∀A Oh ρ ok s r,dj C Og A Oh ns ρ ok s->pev Γ pe ρ=Fv r->WP (FN C.prog C.w) A (Hz e Oh) (Ev C ok r s) s
def dQ (C:Cx) (Γ:Gam) (Og:List Gj) (ns:ay) (e:Expr) (pe:PE):Prop:=
 ∀A Oh ρ ok s v b,dj C Og A Oh ns ρ ok s->pev Γ pe ρ=Fv v->ez v=Fv b->WP (FN C.prog C.w) A (isTrue e Oh (Hz e Oh)) (λb' s'=>b'=b/\Ext s s') s
inductive cG (C:Cx) (Γ:Gam) (Og:List Gj) (ns:ay):List Expr->List PE->Prop
 |nil:cG C Γ Og ns [] []
 |cons {e pe es O_}:dQ C Γ Og ns e pe->cG C Γ Og ns es O_->cG C Γ Og ns (e::es) (pe::O_)
def pD (C:Cx) (Γ:Gam) (Og:List Gj) (ns:ay) (T:Expr->Prop) (e:Expr) (pi:PI):Prop:=
 ∀A Oh ρ ok s xs,dj C Og A Oh ns ρ ok s->pit Γ pi ρ=Fv xs->WP (FN C.prog C.w) A (Hz e Oh) (λv s'=>Ext s s'/\pE C.prog C.w C.d ok xs T s v s') s
noncomputable abbrev iT (ifs:List Expr) (Oh:Lk) (b:Bool):IH Bool:=
 forIn ifs b λc r=>if r=FE then do let ok<-isTrue c Oh (Hz c Oh);pure (K1 ok)else pure (K1 r)
variable {Γ:Gam} {Pc:List PE} {β:Type} {OI:Expr} {Pw:PE} {pi:PI} {p:HW} {r:PV}
section
theorem qL {Q:Bool->FL->Prop} (h:Q Fz s):WP (FN C.prog C.w) A (iT ifs Oh Fz) Q s:=by
 induction ifs with
 |nil=>exact FK h
 |cons c r ih=>
  rw [iT,JC];exact FJ (FK ih)
theorem lA (h0:cG C Γ Og ns ifs Pc): ∀{s:FL} {b:Bool},dj C Og A Oh ns ρ ok s->cn Γ Pc ρ=Fv b->
  WP (FN C.prog C.w) A (iT ifs Oh FE) (λb' s'=>b'=b/\Ext s s') s:=by
 induction h0 with
 |nil=>exact λG h=>FK ⟨FG h,.refl _⟩
 |cons h1 h2 ih=>
  intro s b G h;refine ac h λv hv h=>ac h λb1 Qk h=> ?_;rw [iT,JC];refine WP.then (Q₁:=λr s'=>r=K1 b1/\Ext s s') (WP.then (h1 A Oh ρ ok s v b1 G hv Qk) λb' s' q=>FK ⟨congrArg _ q.1,q.2⟩) λr s1 ⟨hr,x1⟩=> ?_;subst hr;cases b1 with
  |true=>exact(ih (G.ext x1) h).mono λb' s' q=>⟨q.1,x1.trans q.2⟩
  |false=>exact qL ⟨FG h,x1⟩
def ARL (C:Cx) (D:Gb) (ok:Gb->Prop) (ys:List PV) (h:Ht):Prop:= ∃vs,IsL h D vs/\av C.prog C.w ok h ys vs
theorem ARL.acc (D:Gb):tZ D (ARL C D)where
 frame:=fun⟨vs,l,q⟩ k sup=>⟨vs,l.mono λo e=>k D (.inr rfl) o e,q.mono (λa ha ⟨o,e⟩=>sup a o ha e) λa ha o e=>k a (.inl ha) o e⟩
 has:=fun⟨vs,l,q⟩=>l.has
theorem ma {f:List PV->β->Option (List PV)} (hf: ∀a x b,f a x=Fv b->a.length<=b.length) {xs:List β}: ∀{a z:List PV},xs.foldlM f a=Fv z->a.length<=z.length:=by
 induction xs with
 |nil=>exact λh=>FG h▸FH _
 |cons x xs ih=>exact λh=>ac h λb hb h=>Fx (hf _ _ _ hb) (ih h)
theorem gb {f:List PV->β->Option (List PV)} (hf: ∀a x b,f a x=Fv b->a.length<=b.length) {N:Nat} {xs:List β}: ∀{a z:List PV},xs.foldlM f a=Fv z->z.length<=N->
  xs.foldlM (λa x=>(f a x).bind λb=>if b.length<=N then Fv b else Fw) a=Fv z:=by
 induction xs with
 |nil=>exact λh _=>h
 |cons x xs ih=>exact λh hz=>ac h λb hb h=>aD (aD hb (if_pos (Fx (ma hf h) hz))) (ih h hz)
noncomputable def iY (e OI:Expr) (ifs:List Expr) (depth:Nat) (I D:Gb) (Oh:Lk):IH IK:=do
 let mut ok:=FE
 for c in ifs do
  if ok then ok<-isTrue c Oh (Hz c Oh)
 if ok then
  (do let _<-Jj (.builtin "list.append") [.ref D,<-Hz OI Oh])
 again (.compLoop e depth (.ref I) (.ref D) Oh)
noncomputable def i6 (Γ:Gam) (ifs:List PE) (OI:PE) (ρ':Ρ) (Ok:List PV):Option (List PV):=do
 match<-cn Γ ifs ρ' with
 |true=>do let y<-pev Γ OI ρ';Fv (Ok++[y])
 |false=>Fv Ok
theorem jt {ifs:List PE} {OI:PE} {a b:List PV} (h:i6 Γ ifs OI ρ' a=Fv b):a.length<=b.length:=by
 simp only [i6,Hp,FQ]at h;obtain⟨t,_,h⟩:=h;cases t with
 |true=>
  simp only [FQ,N0]at h;obtain⟨y,_,rfl⟩:=h;simp
 |false=>cases h;exact FH _
noncomputable def gd (o:Option (List PV)):Option (List PV):=o.bind λb=>if b.length<=F_ then Fv b else Fw
theorem fD.move {D:Gb} (hD:Z D) (x:Ext s s') (f:ce ok s.heap) (hs:Hw D s'.heap h') (OD: ∀o,s'.heap.get? D=Fv o->aK o) (hz: ∀b,Z b-> ¬ok b):fD Z ok ok s {s' with heap:=h'}:=
 ⟨λb o hb e=>az hs OD (λq=>hb (q▸hD)) (x.keep b o e),λ_ h=>h,λ_ _ h _=>h,x.gens,x.os,λa ha=>f a (Fx x.size (by have:=hs.1;exact this▸ha)),by show _<=h'.objs.size;rw [hs.1];exact x.size⟩
theorem jX {D:Gb} {a a':List PV} (hq:Code.quiet (.compLoop e depth (.ref I) (.ref D) Oh)=FE)
  (ht:cG C Γ Og ns ifs Pc) (he:aJ C Γ Og ns OI Pw) (L:LS C Og A Oh ns D ρ' ok s) (Q7:ARL C D ok a s.heap) (hs:gd (i6 Γ Pc Pw ρ' a)=Fv a'):
  WP (FN C.prog C.w) A (iY e OI ifs depth I D Oh) (λfin s'=>fin= .again (.compLoop e depth (.ref I) (.ref D) Oh)/\ ∃ok',fD (λb=>b=D∨bg Oh ns b) ok ok' s s'/\ARL C D ok' a' s'.heap/\
   aE s'.heap Oh ns/\cJ C.prog C.w Og ok' s'.heap Oh ρ') s:=by
 unfold gd at hs;simp only [FQ]at hs;obtain⟨a₁,hs,hg⟩:=hs;obtain⟨hg,rfl⟩:=ai hg;simp only [i6,Hp,FQ]at hs;obtain⟨t,TG,hs⟩:=hs;unfold iY;refine WP.then (lA ht L.g TG) λb s₁ ⟨hb,x₁⟩=> ?_;subst hb;cases b with
 |false=>
  cases hs;exact FK ⟨rfl,ok,.ofExt x₁ L.g.o,(ARL.acc D).frame Q7 (λb _ o e=>x₁.keep b o e) λ_ _ h _=>h,L.f.at λb _ o e=>x₁.keep b o e,L.g.r.keep x₁.keep⟩
 |true=>
  simp only [FQ,N0]at hs;obtain⟨y,hy,rfl⟩:=hs;refine WP.then (WP.then (he A Oh ρ' ok s₁ y (L.g.ext x₁) hy) λv s₂ ⟨x₂,r⟩=> ?_) (Q₁:=λ_ s'=> ∃ok',fD (λb=>b=D∨bg Oh ns b) ok ok' s s'/\ARL C D ok' (a++[y]) s'.heap/\
   aE s'.heap Oh ns/\cJ C.prog C.w Og ok' s'.heap Oh ρ') λ_ s' h=>FK ⟨rfl,h⟩
  have x:=x₁.trans x₂;obtain⟨vs,l,q⟩:=Q7;haveI Oj:vs.length<=F_:=by rw [q.length];simp at hg;exact GF hg
  refine WP.then (wpAny_list_append (l.mono λo e=>x.keep D o e) (Q:=λ_ s'=> ∃h',s'={s₂ with heap:=h'}/\IsL h' D (vs++[v])/\Hw D s₂.heap h') (λh' hl R5=>⟨h',rfl,by simpa [IsL]using hl,R5⟩) (by simpa using Oj)) λ_ s₃ ⟨h',e3,l',R5⟩=> ?_
  subst e3;have Pi:=nb (l.mono λo e=>x.keep D o e);refine FK ⟨ok,fD.move (Z:=λb=>b=D∨bg Oh ns b) (.inl rfl) x L.g.o R5 Pi L.z,⟨_,l', ?_⟩,L.f.at λb hb o e=>az R5 Pi (λq=>L.hD.1 (q▸hb)) (x.keep b o e), ?_⟩
  ·have kp: ∀b,ok b-> ∀o,vis s₂.heap b=Fv o->vis h' b=Fv o:=λb hb o e=>az R5 Pi (λq=>L.z b (.inl q) hb) e
   exact((q.keep x.keep).mono (λ_ h _=>h) kp).snoc (r.mono (λ_ h _=>h) kp)
  ·exact(L.g.r.keep x.keep).at (λb hb o e=>az R5 Pi (λq=>L.hD.2 (q▸hb)) e) (λb hb o e=>az R5 Pi (λq=>L.z b (.inl q) hb) e) λ_ _ h _=>h
abbrev Bh (C:Cx) (A:HB) (ok:Gb->Prop) (zs:List PV) (P9:Option (FR->IH Unit)) (Q:FR->FL->Prop) (s:FL):Prop:=
 ∀D L s' ok' vs,Ext s s'->s.heap.objs.size<=D->s.heap.objs.size<=L->D≠L->(∃m,s'.heap.Ns L m)->IsL s'.heap D vs->av C.prog C.w ok' s'.heap zs vs->(∀b,ok' b->ok b/\b≠D/\b≠L)->
  compPost (FN C.prog C.w) A (λ_ _=>False) P9 Q (.ref D) L (.ok .next) s'
theorem yz {tgt:Expr} {pt:PT}
  (Qc:Sys C.H) (hs:bV ns sc=FE) (RZ:iH iter=FE) (PJ:sPT Og sc.names tgt=Fv pt) (Ou:pD C Γ Og ns T iter pi) (hT:T tgt)
  (ht:cG C Γ Og sc.names ifs Pc) (he:aJ C Γ Og sc.names OI Pw) (G:dj C Og A Oh ns ρ ok s)
  (hp:pev Γ (.comp1 (cf Og sc) pt pi Pc Pw) ρ=Fv r) (OZ: ∀zs,r= .list zs->Bh C A ok zs P9 Q s):
  WP (FN C.prog C.w) A (JN (.ListComp OI [⟨tgt,iter,ifs,0⟩] sc pos) sc Oh p (newList []) Fz (Hz iter Oh) P9) Q s:=by
 refine ac hp λxs Ri hp=>ac hp λzs hz hr=> ?_;obtain⟨Oj,rfl⟩:=ai hr;haveI VP:xs.foldlM (λa x=>(aT (aB ρ (cf Og sc)) pt x).bind λρ'=>gd (i6 Γ Pc Pw ρ' a)) []=Fv zs:=by
  have:=gb (f:=λa x=>(aT (aB ρ (cf Og sc)) pt x).bind λρ'=>i6 Γ Pc Pw ρ' a) (λa x b h=>by simp only [FQ]at h;obtain⟨_,_,h⟩:=h;exact jt h) (N:=F_) hz Oj
  rw [<-this]
  congr 1
  funext a x;rw [LH]
  rfl
 refine jI (α:=List PV) (AR:=ARL C) (a0:=[]) (z:=zs) (o:={cls:= .type "list",data:= .seq #[]}) (rest:=[]) (ifs:=ifs) (tail:=λI D Ol=>iY (.ListComp OI [⟨tgt,iter,ifs,0⟩] sc pos) OI ifs 0 I D Ol) (p0:=iter.pos)
  Qc rfl RZ hs PJ G (Ou A Oh ρ ok s xs G Ri) hT (λs Q h=>IS h (Hk _)) ARL.acc (λok h=>⟨[],⟨_,Gt _ rfl,rfl,_,rfl⟩,rfl⟩) (λI D Ol=>rfl) (λI D Ol=>rfl) (λI D Ol=>rfl) (λI D Ol=>rfl) (λI D Ol=>rfl)
  (λI D Ol ρ' ok s a a' L Q7 RJ=>jX rfl ht he L Q7 RJ) VP λD L s' ok' x h1 h2 h3 h4 ⟨vs,l,q⟩ h6=>OZ zs rfl D L s' ok' vs x h1 h2 h3 h4 l q h6
end
noncomputable def uj (e Qz:Expr) (ifs:List Expr) (I D:Gb) (Oh:Lk):IH IK:=do
 let mut ok:=FE
 for c in ifs do
  if ok then ok<-isTrue c Oh (Hz c Oh)
 if ok then
  let x<-Hz Qz Oh
  HM Qz.pos
  let x<-Jn Qz Oh x;let _<-runOwn (.compStart e 1 (<-JA [x] (LL x)) (.ref D) Oh) Oh
 again (.compLoop e 0 (.ref I) (.ref D) Oh)
noncomputable def pG (Γ:Gam) (ifs:List PE) (t2:PT) (Qz:PI) (Pt:List PE) (OI:PE) (ρ':Ρ) (Ok:List PV):Option (List PV):=do
 match<-cn Γ ifs ρ' with
 |true=>if k_ t2 ρ'=FE then(pit Γ Qz ρ').bind (λus=>us.foldlM (λOk u=>(aT ρ' t2 u).bind λOY=>i6 Γ Pt OI OY Ok) Ok)else Fw
 |false=>Fv Ok
section
theorem uX {ifs Pt:List PE} {t2:PT} {Qz:PI} {OI:PE} {a b:List PV} (h:pG Γ ifs t2 Qz Pt OI ρ' a=Fv b):a.length<=b.length:=by
 simp only [pG,Hp,FQ]at h;obtain⟨t,_,h⟩:=h;cases t with
 |true=>
  simp only at h;split at h
  ·simp only [FQ]at h
   obtain⟨us,_,h⟩:=h;exact ma (λa x b h=>by simp only [FQ]at h;obtain⟨_,_,h⟩:=h;exact jt h) h
  ·cases h
 |false=>cases h;exact FH _
set_option tactic.hygienic true in
theorem yy {tgt QG Pu:Expr} {Pt:List Expr} {pt Tl:PT} {V4:PI} {PX:List PE} {T2:Expr->Prop}
  (Qc:Sys C.H) (hs:bV ns sc=FE) (RZ:iH iter=FE) (PJ:sPT Og sc.names tgt=Fv pt) (Ou:pD C Γ Og ns T iter pi) (hT:T tgt)
  (ht:cG C Γ Og sc.names ifs Pc) (WI:iH Pu=FE) (WC:sPT Og sc.names QG=Fv Tl) (hit2:pD C Γ Og sc.names T2 Pu V4) (hT2:T2 QG)
  (ht2:cG C Γ Og sc.names Pt PX) (he:aJ C Γ Og sc.names OI Pw) (G:dj C Og A Oh ns ρ ok s)
  (hp:pev Γ (.comp2 (cf Og sc) pt pi Pc Tl V4 PX Pw) ρ=Fv r) (OZ: ∀zs,r= .list zs->Bh C A ok zs P9 Q s):
  WP (FN C.prog C.w) A (JN (.ListComp OI [⟨tgt,iter,ifs,0⟩,⟨QG,Pu,Pt,0⟩] sc pos) sc Oh p (newList []) Fz (Hz iter Oh) P9) Q s:=by
 refine ac hp λxs Ri hp=>ac hp λzs hz hr=> ?_;obtain⟨Oj,rfl⟩:=ai hr;haveI VP:xs.foldlM (λa x=>(aT (aB ρ (cf Og sc)) pt x).bind λρ'=>gd (pG Γ Pc Tl V4 PX Pw ρ' a)) []=Fv zs:=by
  have:=gb (f:=λa x=>(aT (aB ρ (cf Og sc)) pt x).bind λρ'=>pG Γ Pc Tl V4 PX Pw ρ' a) (λa x b h=>by simp only [FQ]at h;obtain⟨_,_,h⟩:=h;exact uX h) (N:=F_) hz Oj
  rw [<-this]
  congr 1
  funext a x;rw [LH]
  rfl
 refine jI (α:=List PV) (AR:=ARL C) (a0:=[]) (z:=zs) (o:={cls:= .type "list",data:= .seq #[]}) (rest:=[⟨QG,Pu,Pt,0⟩]) (ifs:=ifs)
  (tail:=λI D Ol=>uj (.ListComp OI [⟨tgt,iter,ifs,0⟩,⟨QG,Pu,Pt,0⟩] sc pos) Pu ifs I D Ol) (p0:=iter.pos)
  Qc rfl RZ hs PJ G (Ou A Oh ρ ok s xs G Ri) hT (λs Q h=>IS h (Hk _)) ARL.acc (λok h=>⟨[],⟨_,Gt _ rfl,rfl,_,rfl⟩,rfl⟩) (λI D Ol=>rfl) (λI D Ol=>rfl) (λI D Ol=>rfl) (λI D Ol=>rfl) (λI D Ol=>rfl)
  ?_ VP λD L s' ok' x h1 h2 h3 h4 ⟨vs,l,q⟩ h6=>OZ zs rfl D L s' ok' vs x h1 h2 h3 h4 l q h6
 intro I D Ol ρ' ok s a a' L Q7 hs;unfold gd at hs;simp only [FQ]at hs;obtain⟨a₁,hs,hg⟩:=hs;obtain⟨hgl,rfl⟩:=ai hg;simp only [pG,Hp,FQ]at hs;obtain⟨t,TG,hs⟩:=hs;unfold uj;refine WP.then (lA ht L.g TG) λb s₁ ⟨hb,x₁⟩=> ?_;subst hb;cases b with
 |false=>
  cases hs;exact FK ⟨rfl,ok,.ofExt x₁ L.g.o,(ARL.acc D).frame Q7 (λb _ o e=>x₁.keep b o e) λ_ _ h _=>h,L.f.at λb _ o e=>x₁.keep b o e,L.g.r.keep x₁.keep⟩
 |true=>
  simp only at hs;split at hs
  ·rename_i TX
   simp only [FQ]at hs;obtain⟨us,hus,hs⟩:=hs;haveI Ph:=gb (f:=λa x=>(aT ρ' Tl x).bind λOY=>i6 Γ PX Pw OY a) (λa x b h=>by simp only [FQ]at h;obtain⟨_,_,h⟩:=h;exact jt h) (N:=F_) hs hgl
   haveI hs2:us.foldlM (λa x=>(aT ρ' Tl x).bind λOY=>gd (i6 Γ PX Pw OY a)) a=Fv a₁:=by
    rw [<-Ph]
    congr 1
    funext a x;rw [LH]
    rfl
   refine WP.then (hit2 A Ol ρ' ok s₁ us (L.g.ext x₁) hus) λv s₂ ⟨x₂,hv⟩=> ?_;refine WP.at ?_;refine FJ (Hx (ix WI Ol v) ?_);refine WP.then (WP.hold (hv A L.g.a)) λr s₃ ⟨x₃,I2,hr,W2,St2,hI2,hSt2,hW2⟩=> ?_;subst hr;haveI x13:=x₂.trans x₃;have Rp:=x₁.trans x13;have V5: ∀b o,ok b->vis s.heap b=Fv o->okW ok W2 b:=λb o hb e=>⟨hb,λq=>by have:=Fy (aq (x₁.keep b o e)) (hW2 b q);exact FV _ this⟩
   haveI US:ce (okW ok W2) s₃.heap:=λb hb=>⟨L.g.o b (Fx Rp.size hb),λq=>by obtain⟨⟨o,e⟩,_⟩:=hI2.own hSt2 b q;exact FV _ (Fy (aq e) hb)⟩
   haveI L₃:LS C Og A Ol sc.names D ρ' (okW ok W2) s₃:=L.next (λb o _ _ _ e=>Rp.keep b o e) (λb h=>h.1) US (L.f.at λb _ o e=>Rp.keep b o e)
    (L.g.r.at (λb _ o e=>Rp.keep b o e) (λb _ o e=>Rp.keep b o e) V5) L.g.l
   haveI Wj: ∀b∈W2,¬(b=D∨bg Ol sc.names b)/\ ¬bD Ol b/\vis C.H b=Fw:=λb hb=>by
    have h1:=hW2 b hb;have nl: ∀o,vis s.heap b≠Fv o:=λo e=>FV _ (Fy (aq (x₁.keep b o e)) h1);refine⟨?_,λq=> ?_, ?_⟩
    ·rintro(q|q)
     ·obtain⟨o,e⟩:=(ARL.acc D).has Q7
      exact nl o (q▸e)
     ·obtain⟨o,e⟩:=L.f.live q
      exact nl o e
    ·obtain⟨o,e⟩:=L.g.v b q
     exact nl o e
    ·cases e:vis C.H b with
     |none=>rfl
     |some o=>exact absurd (L.g.h b o e) (nl o)
   refine WP.then (wpAny_runOwn (A:=A) (Q:=λ_ s'=> ∃ok',fD (λb=>b=D∨bg Ol sc.names b) ok ok' s s'/\ARL C D ok' a₁ s'.heap/\aE s'.heap Ol sc.names/\cJ C.prog C.w Og ok' s'.heap Ol ρ') (codeAny_mono (R:=λr s'=>r= .ok .next/\ ∃ok',fD (λb=>(b=D∨bg Ol sc.names b)∨b∈W2) (okW ok W2) ok' s₃ s'/\ARL C D ok' a₁ s'.heap/\aE s'.heap Ol sc.names/\
    cJ C.prog C.w Og ok' s'.heap Ol ρ') ?_ λr s₄ ⟨hr,ok',T,h1,h2,h3⟩=> ?_)) λ_ s' h=>FK ⟨rfl,h⟩
   ·refine ic (g:=⟨QG,Pu,Pt,0⟩) rfl rfl rfl rfl rfl (hI2.self L.g.a hSt2) ?_
    refine nn (tail:=iY (.ListComp OI [⟨tgt,iter,ifs,0⟩,⟨QG,Pu,Pt,0⟩] sc pos) OI Pt 1 I2 D Ol) (Pz:=λOY a=>gd (i6 Γ PX Pw OY a)) (p0:=Pu.pos) rfl rfl rfl hI2 hT2 WC (ARL.acc D) (λOY pv hb i v hv=>jM hb (λq=> ?_) hv)
     (λOY ok s a a' L Q7 hs=>jX rfl ht2 he L Q7 hs) hSt2 Wj L₃ ((ARL.acc D).frame Q7 (λb _ o e=>Rp.keep b o e) V5) hs2
    have:=(GD.mp TX) i q;rw [hv]at this;cases this
   ·subst hr
    refine⟨ok',⟨λb o hb e=>T.keep b o ?_ (Rp.keep b o e),λb h=>(T.sub b h).1,λb o h e=>T.sup b o (V5 b o h e) (Rp.keep b o e),λi g e=>T.gens i g (Rp.gens i g e),T.os.trans Rp.os,T.free,Fx Rp.size T.size⟩,h1,h2,h3⟩;rintro(q|q)
    ·exact hb q
    ·exact FV _ (Fy (aq (x₁.keep b o e)) (hW2 b q))
  ·cases hs
def ARD (C:Cx) (D:Gb) (ok:Gb->Prop) (d:Option PV) (h:Ht):Prop:=
 ∃ks us vs,D9 d=Fv (ks,us)/\ks.length<=1000/\rB C.prog C.w h D ks vs/\av C.prog C.w ok h us vs
theorem ARD.acc (D:Gb):tZ D (ARD C D)where
 frame:=λ{ok ok' a h h'} ⟨ks,us,vs,e,hl,l,q⟩ k sup=>⟨ks,us,vs,e,hl,l.mono λo e=>k D (.inr rfl) o e,q.mono (λa ha h=>h.elim λo e=>sup a o ha e) λa ha o e=>k a (.inl ha) o e⟩
 has:=λ{ok a h} ⟨_,_,_,_,_,l,_⟩=>l.has
end
variable {K:Type} {v':FR}
theorem mn [DecidableEq K] {k k':K} {v:FR} {r:List (K×FR)} (h: ¬k'=k):ML ((k',v')::r) k v=(k',v')::ML r k v:=by
 unfold ML;simp only [LF,decide_eq_false h,Bool.false_or,Gf,if_neg h];split
 ·rfl
 ·rfl
theorem mo [DecidableEq K] {k:K} {v:FR} {r:List (K×FR)} (h:k∉r.map (·.1)):ML ((k,v')::r) k v=(k,v)::r:=by unfold ML;simp only [LF,decide_true,Bool.true_or,if_true,Gf];rw [map_store_of_not_mem r k v h]
theorem zip_keys {ks:List K} (h:ks.length=vs.length):(ks.zip vs).map (·.1)=ks:=KN (FI h)
variable {u:PV}
theorem uf [DecidableEq K] {k:K} {v:FR} (ru:Rep prog w ok h u v) {ks:List K}: ∀{us:List PV} {vs:List FR},ks.Nodup->ks.length=vs.length->av prog w ok h us vs->
  ∃OU,ML (ks.zip vs) k v=(putK k u ks us).1.zip OU/\(putK k u ks us).1.length=OU.length/\av prog w ok h (putK k u ks us).2 OU:=by
 induction ks with
 |nil=>exact λ_ hl q=>⟨[v],J3 hl.symm▸rfl,rfl,v,[],rfl,ru,rfl⟩
 |cons k' ks ih=>
  intro us vs hn hl q;cases us with
  |nil=>cases (show vs=[]from q);exact nomatch hl
  |cons u' us=>
   obtain⟨v',vs,rfl,q1,q2⟩:=q;have Px:ks.length=vs.length:=II hl;show∃OU,_=(if k'=k then(k'::ks,u::us)else(k'::(putK k u ks us).1,u'::(putK k u ks us).2)).1.zip OU/\(if k'=k then(k'::ks,u::us)else(k'::(putK k u ks us).1,u'::(putK k u ks us).2)).1.length=OU.length/\
    av prog w ok h (if k'=k then(k'::ks,u::us)else(k'::(putK k u ks us).1,u'::(putK k u ks us).2)).2 OU
   by_cases e:k'=k
   ·rw [if_pos e]
    subst e;exact⟨v::vs,mo λq=>(H3.mp hn).1 ((zip_keys Px:(ks.zip vs).map (·.1)=ks)▸q),hl,v,vs,rfl,ru,q2⟩
   ·rw [if_neg e]
    obtain⟨OU,a,b,c⟩:=ih (H3.mp hn).2 Px q2;exact⟨v'::OU,(mn e).trans (congrArg _ a),congrArg MS b,v',OU,rfl,q1,c⟩
theorem mh [DecidableEq K] {knd:KeyKind prog w K} {ks:List K} (hl:ks.length=vs.length) (d:h.DictOf knd a (ks.zip vs)):ks.Nodup:=by
 obtain⟨_,_,_,_,_,_,_,_,hn⟩:=d
 rwa [zip_keys hl]at hn
noncomputable def lK (e kx vx:Expr) (ifs:List Expr) (I D:Gb) (Oh:Lk):IH IK:=do
 let mut ok:=FE
 for c in ifs do
  if ok then ok<-isTrue c Oh (Hz c Oh)
 if ok then
  (do
   let kv<-Hz kx Oh;let vv<-JA [kv] (Hz vx Oh)
   HM {kx.pos with endLine:=vx.pos.endLine,endCol:=vx.pos.endCol}
   JA [kv,vv] (dictSet D kv vv))
 again (.compLoop e 0 (.ref I) (.ref D) Oh)
noncomputable def v_ (Γ:Gam) (ifs:List PE) (k v:PE) (ρ':Ρ) (Ok:Option PV):Option (Option PV):=do
 match<-cn Γ ifs ρ' with
 |true=>do
  let a<-pev Γ k ρ';let b<-pev Γ v ρ'
  (pB Ok a b).map Fv
 |false=>Fv Ok
variable {va vb:FR} {kx vx:Expr} {pk:PE}
section
theorem jN {D:Gb} {Ok:Option PV} (x:ARD C D ok Ok h): ∀o,h.get? D=Fv o->aK o:=by obtain⟨_,_,_,_,_,x,_⟩:=x;exact gc x.2
theorem yr {D:Gb} {Ok:Option PV} {a b d:PV} {Q:Unit->FL->Prop} (Q7:ARD C D ok Ok s.heap) (hd:pB Ok a b=Fv d)
  (ra:Rep C.prog C.w ok s.heap a va) (rb:Rep C.prog C.w ok s.heap b vb) (hD: ¬ok D) (hQ: ∀h' tk,ARD C D ok (Fv d) h'->Hw D s.heap h'->Q () {s with heap:=h',toks:=tk}):
  WP (FN C.prog C.w) A (dictSet D va vb) Q s:=by
 haveI OD:=jN Q7;obtain⟨ks,us,vs,e,SD,⟨hl,hm⟩,q⟩:=Q7;refine lc hd ra λk t hd=> ?_;rw [e]at hd;revert hQ;refine bc (P:=λd=>(∀h' tk,ARD C D ok (Fv d) h'->Hw D s.heap h'->Q () {s with heap:=h',toks:=tk})->_) hd λOj hQ=> ?_
 obtain⟨OU,e1,e2,e3⟩:=uf rb (k:=k) (mh hl hm) hl q;refine wpAny_dictSet_pairs (knd:=strKind C.prog C.w) (M9 C.prog C.w k t) hm (λh' QB hs=>hQ h' _ ⟨_,_,OU,rfl,Oj,⟨e2,e1▸QB⟩,e3.mono (λ_ h _=>h) λc hc o e=>az hs OD (λq=>hD (q▸hc)) e⟩ hs) ?_;rw [Mo,<-hl,Ld];exact Fx SD (by rw [KW];decide)
theorem r5 {pv:PE} {D:Gb} {a a':Option PV}
  (ht:cG C Γ Og ns ifs Pc) (hk:aJ C Γ Og ns kx pk) (hv:aJ C Γ Og ns vx pv) (L:LS C Og A Oh ns D ρ' ok s) (Q7:ARD C D ok a s.heap) (hs:v_ Γ Pc pk pv ρ' a=Fv a'):
  WP (FN C.prog C.w) A (lK e kx vx ifs I D Oh) (λfin s'=>fin= .again (.compLoop e 0 (.ref I) (.ref D) Oh)/\ ∃ok',fD (λb=>b=D∨bg Oh ns b) ok ok' s s'/\ARD C D ok' a' s'.heap/\
   aE s'.heap Oh ns/\cJ C.prog C.w Og ok' s'.heap Oh ρ') s:=by
 simp only [v_,Hp,FQ]at hs;obtain⟨t,TG,hs⟩:=hs;unfold lK;refine WP.then (lA ht L.g TG) λb s₁ ⟨hb,x₁⟩=> ?_;subst hb;cases b with
 |false=>
  cases hs;exact FK ⟨rfl,ok,.ofExt x₁ L.g.o,(ARD.acc D).frame Q7 (λb _ o e=>x₁.keep b o e) λ_ _ h _=>h,L.f.at λb _ o e=>x₁.keep b o e,L.g.r.keep x₁.keep⟩
 |true=>
  simp only [FQ,Gk]at hs;obtain⟨y,hy,z,hz,d,hd,rfl⟩:=hs;refine WP.then (Q₁:=λ_ s'=> ∃ok',fD (λb=>b=D∨bg Oh ns b) ok ok' s s'/\ARD C D ok' (Fv d) s'.heap/\aE s'.heap Oh ns/\cJ C.prog C.w Og ok' s'.heap Oh ρ') ?_ λ_ s' h=>FK ⟨rfl,h⟩;refine WP.then (hk A Oh ρ' ok s₁ y (L.g.ext x₁) hy) λva s₂ ⟨x₂,ra⟩=> ?_;refine WP.then (WP.hold (hv A Oh ρ' ok s₂ z ((L.g.ext x₁).ext x₂) hz)) λvb s₃ ⟨x₃,rb⟩=> ?_;refine WP.at (WP.hold ?_);have x:=(x₁.trans x₂).trans x₃;have Pi:=jN ((ARD.acc D).frame (ok':=ok) Q7 (λb _ o e=>x.keep b o e) λ_ _ h _=>h);refine yr ((ARD.acc D).frame Q7 (λb _ o e=>x.keep b o e) λ_ _ h _=>h) hd (ra.keep x₃.keep) rb (L.z D (.inl rfl)) λh' tk X4 R5=> ?_;refine⟨ok, ?_,X4,L.f.at λb hb o e=>az R5 Pi (λq=>L.hD.1 (q▸hb)) (x.keep b o e), ?_⟩
  ·have:=fD.move (Z:=λb=>b=D∨bg Oh ns b) (.inl rfl) x L.g.o R5 Pi L.z
   exact⟨this.keep,this.sub,this.sup,this.gens,this.os,this.free,this.size⟩
  ·exact(L.g.r.keep x.keep).at (λb hb o e=>az R5 Pi (λq=>L.hD.2 (q▸hb)) e) (λb hb o e=>az R5 Pi (λq=>L.z b (.inl q) hb) e) λ_ _ h _=>h
abbrev Du (C:Cx) (A:HB) (ok:Gb->Prop) (d:PV) (P9:Option (FR->IH Unit)) (Q:FR->FL->Prop) (s:FL):Prop:=
 ∀D L s' ok',Ext s s'->s.heap.objs.size<=D->s.heap.objs.size<=L->D≠L->(∃m,s'.heap.Ns L m)->ARD C D ok' (Fv d) s'.heap->(∀b,ok' b->ok b/\b≠D/\b≠L)->
  compPost (FN C.prog C.w) A (λ_ _=>False) P9 Q (.ref D) L (.ok .next) s'
theorem yt {tgt:Expr} {pt:PT} {pv:PE}
  (Qc:Sys C.H) (hs:bV ns sc=FE) (RZ:iH iter=FE) (PJ:sPT Og sc.names tgt=Fv pt) (Ou:pD C Γ Og ns T iter pi) (hT:T tgt)
  (ht:cG C Γ Og sc.names ifs Pc) (hk:aJ C Γ Og sc.names kx pk) (hv:aJ C Γ Og sc.names vx pv) (G:dj C Og A Oh ns ρ ok s)
  (hp:pev Γ (.dcomp (cf Og sc) pt pi Pc pk pv) ρ=Fv r) (OZ:Du C A ok r P9 Q s):
  WP (FN C.prog C.w) A (JN (.DictComp kx vx [⟨tgt,iter,ifs,0⟩] sc pos) sc Oh p newDict Fz (Hz iter Oh) P9) Q s:=by
 refine ac hp λxs Ri hp=>ac hp λz hz hr=> ?_;subst hr;refine jI (α:=Option PV) (AR:=ARD C) (a0:=Fw) (z:=Fv r) (o:={cls:= .type "dict",data:= .dict #[]}) (rest:=[]) (ifs:=ifs) (tail:=λI D Ol=>lK (.DictComp kx vx [⟨tgt,iter,ifs,0⟩] sc pos) kx vx ifs I D Ol) (p0:=iter.pos)
  (Pz:=λρ' a=>v_ Γ Pc pk pv ρ' a)
  Qc rfl RZ hs PJ G (Ou A Oh ρ ok s xs G Ri) hT (λs Q h=>IS h (Hk _)) ARD.acc (λok h=>⟨[],[],[],rfl,Hk _,⟨rfl,Ky h⟩,rfl⟩) (λI D Ol=>rfl) (λI D Ol=>rfl) (λI D Ol=>rfl) (λI D Ol=>rfl) (λI D Ol=>rfl)
  (λI D Ol ρ' ok s a a' L Q7 RJ=>r5 ht hk hv L Q7 RJ) hz λD L s' ok' x h1 h2 h3 h4 q h6=>OZ D L s' ok' x h1 h2 h3 h4 q h6
theorem uH {D:Gb} {d:PV} (OX:ok D) (hs:(D==Hf)=Fz) (x:ARD C D ok (Fv d) h):Rep C.prog C.w ok h d (.ref D):=by
 obtain⟨ks,us,vs,e,_,l,q⟩:=x;cases d with
 |dictS=>cases e;exact⟨D,vs,rfl,OX,hs,l,q⟩
 |_=>exact a9 e
end
theorem kt: ∀{vs:List FR},xs.length=vs.length->(∀(i:Nat) x v,xs[i]? =Fv x->vs[i]? =Fv v->Rep prog w ok h x v)->av prog w ok h xs vs:=by
 induction xs with
 |nil=>exact λe _=>J3 e.symm
 |cons x xs ih=>
  intro vs e f;cases vs with
  |nil=>exact nomatch e
  |cons v vs=>exact⟨v,vs,rfl,f 0 x v rfl rfl,ih (II e) λi=>f (i+1)⟩
structure wg (prog:HE) (w:HR) (A:HB) (H:Ht) (I:Gb) (Wg:List Nat) (T:Expr->Prop) (St:(Gb->Prop)->List PV->List Gb->FL->Prop):Prop where
 own: ∀{ok xs W s},St ok xs W s-> ∀b∈W,b<s.heap.objs.size/\ ¬ok b
 frame: ∀{ok ok' xs W s s'},St ok xs W s->(∀b o,ok b∨b∈W->vis s.heap b=Fv o->vis s'.heap b=Fv o)->
  (∀b o,ok b->vis s.heap b=Fv o->ok' b)->(∀b∈W,¬ok' b)->(∀(i:Nat) g,s.gens[i]? =Fv g->s'.gens[i]? =Fv g)->s'.os=s.os->HK H s'.heap->s.heap.objs.size<=s'.heap.objs.size->St ok' xs W s'
 next: ∀{ok x xs W s tgt},T tgt->ce (λa=>ok a) s.heap->Sys s.heap->St ok (x::xs) W s->
  WP (FN prog w) A (L7 (.ref I)) (λr s1=> ∃v W1,r=Fv v/\(∀b∈W,b∈W1)/\(∀b∈W1,b∈W∨s.heap.objs.size<=b)/\bw W Wg s s1/\
   Rep prog w (okW ok W1) s1.heap x v/\WP (FN prog w) A (I8 tgt (.ref I) v) (λ_ s2=>bw W1 Wg s1 s2/\St (okW ok W1) xs W1 s2) s1) s
 done: ∀{ok W s},St ok [] W s->WP (FN prog w) A (L7 (.ref I)) (λr s1=>r=Fw/\bw W Wg s s1) s
theorem kN.atA {Wg:List Nat} {H:Ht} (it:kN prog w d I Wg T St) (hA:AOk d A):wg prog w A H I Wg T St:=
 ⟨λh b hb=>by obtain⟨⟨o,e⟩,n⟩:=it.own h b hb;exact⟨aq e,n⟩,λh1 h2 h3 h4 h5 h6 _ _=>it.frame h1 h2 h3 h4 h5 h6,λh1 h2 h3 h4=>it.next hA h1 h2 h3 h4,λh=>it.done hA h⟩
def ItG (C:Cx) (A:HB) (ok:Gb->Prop) (xs:List PV) (tgt:Expr) (s₀ s:FL) (I:Gb):Prop:=
 ∃W Wg T St,wg C.prog C.w A C.H I Wg T St/\T tgt/\St (okW ok W) xs W s/\(∀b∈W,s₀.heap.objs.size<=b)/\ ∀i∈Wg,s₀.gens.size<=i
def iS (C:Cx) (f:Gb) (args xs:List PV):Prop:=
 ∀(A:HB) (s:FL) (ok:Gb->Prop) (vs:List FR) (tgt:Expr),AOk C.d A->HK C.H s.heap->ce ok s.heap->Sys s.heap->av C.prog C.w ok s.heap args vs->
  WP (FN C.prog C.w) A (Jj (.ref f) vs) (λv s₁=>Ext s s₁/\WP (FN C.prog C.w) A (LL v) (λr s₂=>Ext s₁ s₂/\ ∃I,r= .ref I/\ItG C A ok xs tgt s s₂ I) s₁) s
structure an (C:Cx) (Γ:Gam):Prop where
 sy:Sys C.H
 val: ∀x k r,C.gl x=Fv (.val k)->Γ.gv k=Fv r-> ∃v,cC C.H x v/\ ∀ok h,Rep C.prog C.w ok h r v
 fn: ∀x k,C.gl x=Fv (.fn k)-> ∃f o fd,cC C.H x (.ref f)/\C.H.get? f=Fv o/\o.data= .func fd/\ ∀args r,Γ.fn k args=Fv r->ah C.prog C.w C.H C.d f args r
 bi: ∀x k,C.gl x=Fv (.bi k)->cC C.H x (.builtin (yM k))
 gn: ∀x k,C.gl x=Fv (.gen k)-> ∃f o fd,cC C.H x (.ref f)/\C.H.get? f=Fv o/\o.data= .func fd/\ ∀args xs,Γ.gn k args=Fv xs->iS C f args xs
 ty: ∀x t,C.gl x=Fv (.ty t)->cC C.H x (.type t)
variable {c:PV} {tk:Nat} {OF:Expr} {f:Gj} {args:List Expr} {fv:FR} {rs:List PV} {fd:J8}
section
theorem t6 (hp:gU xs=Fv c) (ho:ce ok s.heap) (h1:Sys s.heap) (r:av C.prog C.w ok s.heap xs vs):
  WP (FN C.prog C.w) A (Jj (.type "range") vs) (Ev C ok c s) s:=by
 have fin: ∀(a b:Int) (t u c k:MR),Ev C ok (.range a b) s (.ref s.heap.objs.size) {s with heap:=s.heap.push {cls:= .type "range",dict:=Fw,data:= .fields #[.int a t,.int b u,.int 1 c],slots:= #[]},toks:=k}:=λa b t u c k=>
  ⟨.pushed _ _ _,_,_,_,_,rfl,ho _ (FH _),h1.ne (cW _),Gt _ rfl⟩
 cases xs with
 |nil=>exact a9 hp
 |cons x xs=>
  obtain⟨v,_,rfl,r,q⟩:=r;cases xs with
  |nil=>
   cases (show _=[]from q);refine gx hp r λn t hp=> ?_;cases hp;exact call_range_1 (fin _ _ _ _ _ _)
  |cons y ys=>
   obtain⟨u,_,rfl,r',q⟩:=q;refine gx hp r λa t hp=>gx hp r' λb t' hp=>lm hp q λhp=> ?_;cases hp;exact call_range_2 (fin _ _ _ _ _ _)
theorem iA (ho:ce ok s.heap) (h1:Sys s.heap) (k:HK s.heap h') (sz:s.heap.objs.size<=h'.objs.size)
  (hl:h'.get? s.heap.objs.size=Fv {cls:= .type "list",dict:=Fw,data:= .seq vs.toArray n,slots:= #[]}) (q:av C.prog C.w ok h' xs vs):Ev C ok (.list xs) s (.ref s.heap.objs.size) {s with heap:=h',toks:=tk}:=
 ⟨⟨k,sz,λ_ _ e=>e,rfl⟩,_,vs,rfl,ho _ (FH _),h1.ne (cW _),⟨_,hl,rfl,_,rfl⟩,q⟩
theorem vT {x:PV} {v:FR} (hA:A.handled=Fw) (hp:jo x=Fv c) (ho:ce ok s.heap) (h1:Sys s.heap) (r:Rep C.prog C.w ok s.heap x v):
  WP (FN C.prog C.w) A (Jj (.type "list") [v]) (Ev C ok c s) s:=by
 cases x with
 |list xs=>
  obtain⟨a,vs,rfl,_,_,⟨o,e,hc,n,hd⟩,q⟩:=r;exact bc hp λOj=>WP.size (call_list_seq a (.inl rfl) e hc hd (λh' c' hk hl sz=>iA (tk:=s.toks) ho h1 (HK.of hk) sz hl (q.keep (HK.of hk))) (by rw [Gn,q.length];exact Oj))
 |str x=>
  obtain⟨t,rfl⟩:=r;refine bc (P:=λc=>WP _ A _ (Ev C ok c s) s) hp λOj=>WP.size (call_list_str hA x t (λh' tk Rf c' hk hl PN sz=>iA (vs:=Rf.toList) ho h1 (HK.of hk) sz (by simpa using hl) (kt ?_ λi y v hy hv=> ?_)) Oj)
  ·rw [FD,gu,FD]
   exact PN.1.symm
  ·obtain⟨ch,hch,rfl⟩:=no hy
   obtain⟨c2,u,h2,h3⟩:=PN.2 i v (by simpa using hv)
   exact⟨u,FG (h2.symm.trans hch)▸h3⟩
 |range lo hi=>
  obtain⟨a,t,u,c,rfl,_,_,l⟩:=r;refine aM (P:=λc=>WP _ A _ (Ev C ok c s) s) hp λxs hx=> ?_;obtain⟨hc,rfl⟩:=ai hx;haveI hn:LR lo hi 1=((hi-lo).toNat:Int):=by rw [rangeSize_one];split<;>lia
  refine WP.size (call_list_range hA l (small_one (by exact IR (by decide) hc.1) (by exact Ib hc.2.1 (by decide)) (by exact IR (by decide) hc.2.2.1) (by exact Ib hc.2.2.2 (by decide))) hn (by lia) λh' tk Rf c' hk hl PN sz=>iA (vs:=Rf.toList) ho h1 (HK.of hk) sz hl (kt ?_ λi y v hy hv=> ?_))
  ·rw [FD,ip,<-PN.1];rfl
  ·simp only [Gp,Gk]at hy
   obtain⟨k,Ps,rfl⟩:=hy;obtain⟨t,rfl⟩:=PN.2 i v (by simpa using hv)
   exact⟨t,by rw [iq _ _ _ _ Ps,NT]⟩
 |_=>exact a9 hp
theorem jd {slice:Expr} {P:FR->FR->FL->Prop}
  (h:WP (FN C.prog C.w) A (Hz OF Oh) (λo s₁=>WP (FN C.prog C.w) A (Hz slice Oh) (λi s₂=> ∃T id,M6 (.type T) "__getitem__" =pure (Fv (.builtin id))/\s₂.TypeIs o T/\WP (FN C.prog C.w) A (O6 o i) (Ev C ok r s) s₂) s₁) s):
  WP (FN C.prog C.w) A (Hz (.Subscript OF slice pos) Oh) (Ev C ok r s) s:=by
 rw [eval_Subscript];refine WP.then h λo s₁ h₁=>WP.then (WP.hold h₁) λi s₂ ⟨T,id,hl,hT,hg⟩=>WP.at ?_;refine FJ ?_;rw [getitemInPython_of_ne hT.not_modules];refine FJ (N6 hT hl ?_);haveI fin:WP (FN C.prog C.w) A (subscripted slice Fz o i) (λr' s₃=>WP (FN C.prog C.w) A (Nj OF o r'>>=λ_=>pure r') (Ev C ok r s) s₃) s₂:=by
  haveI body: ∀r' s₃,Ev C ok r s r' s₃->WP (FN C.prog C.w) A (Nj OF o r'>>=λ_=>pure r') (Ev C ok r s) s₃:=λr' s₃ h₃=>WP.bind (wpAny_letTemporaryGo (FK h₃));have op: ∀{l:List FR},WP (FN C.prog C.w) A (operate l (O6 o i)) (λr' s₃=>WP (FN C.prog C.w) A (Nj OF o r'>>=λ_=>pure r') (Ev C ok r s) s₃) s₂:=WP.oper (hg.mono body);cases slice with
  |Slice a b c p=>cases c<;>exact op
  |_=>exact op
 exact FK (FJ fin)
theorem kH (E:cu Oh ns) (hx:aC f=FE) (hk:fC (ns.lookup f)=2) (hH:HK C.H s.heap) (L:cC C.H f fv)
  (OC:ci C A Oh ok args rs s)
  (RL:(∀pos args,(args.any (·.1))=Fz->WP (FN C.prog C.w) A (Mx fv FE args []) (λa s₁=>a.kw=[]/\HK s.heap s₁.heap/\WP (FN C.prog C.w) A (Jj fv a.pos) (Ev C ok r s) s₁) s->WP (FN C.prog C.w) A (Nn pos fv [] args []) (Ev C ok r s) s))
  (SU: ∀s₁ vs,Ext s s₁->av C.prog C.w ok s₁.heap rs vs->WP (FN C.prog C.w) A (Jj fv vs) (Ev C ok r s₁) s₁):
  WP (FN C.prog C.w) A (Hz (.Call (.Name f p) args [] pos) Oh) (Ev C ok r s) s:=by
 refine MY rfl (dq E hx hk hH L ?_);refine RL pos _ ?_ ?_
 ·rw [fG];exact fY OC.1
 ·refine bB (by rw [bY];exact OC.1) ((OC.2 pos).mono λvs s₁ ⟨x,q⟩=>⟨rfl,x.keep,(SU s₁ vs x q).mono λv s₂ ⟨x₂,r₂⟩=>⟨x.trans x₂,r₂⟩⟩)
theorem jK (hf: ∀a,fv≠ .ref a): ∀pos args,(args.any (·.1))=Fz->WP (FN C.prog C.w) A (Mx fv FE args []) (λa s₁=>a.kw=[]/\HK s.heap s₁.heap/\WP (FN C.prog C.w) A (Jj fv a.pos) (Ev C ok r s) s₁) s->WP (FN C.prog C.w) A (Nn pos fv [] args []) (Ev C ok r s) s:=
 λpos args hp h=>bk hf hp (h.mono λa s₁ ⟨h1,_,h2⟩=>by rw [h1];exact h2)
theorem yE {f:Gb} (hH:HK C.H s.heap) (ho:C.H.get? f=Fv o) (hd:o.data= .func fd): ∀pos args,(args.any (·.1))=Fz->
  WP (FN C.prog C.w) A (Mx (.ref f) FE args []) (λa s₁=>a.kw=[]/\HK s.heap s₁.heap/\WP (FN C.prog C.w) A (Jj (.ref f) a.pos) (Ev C ok r s) s₁) s->WP (FN C.prog C.w) A (Nn pos (.ref f) [] args []) (Ev C ok r s) s:=
 λpos args hp h=>My (o:=o) (fd:=fd) (h.mono λa s₁ ⟨h1,h2,h3⟩=>⟨⟨(cx hd).keep (h2 _) ((cx hd).keep (hH _) ho),hd⟩,by rw [h1];exact h3⟩)
theorem A0 {o:Expr} {m:Gj} {k:ME} {Uq:HW} {a:PV} (hm:nQ m=Fv k) (RZ:qi o=FE) (RA:few args=FE) (OQ:(Uq.endLine==pos.line)=FE)
  (ho:WP (FN C.prog C.w) A (Hz o Oh) (Ev C ok a s) s) (OC: ∀s₁,Ext s s₁->ci C A Oh ok args rs s₁) (hp:pme k a rs=Fv r) (PY:ce ok s.heap) (Wy:Sys s.heap):
  WP (FN C.prog C.w) A (Hz (.Call (.Attribute o m Uq) args [] pos) Oh) (Ev C ok r s) s:=by
 obtain⟨T,id,M,hM⟩:=BF hp;haveI hb:attributeBase o m Oh (Hz o Oh)=Hz o Oh:=by
  cases o with
  |Call f as ks p=>
   cases f with
   |Name=>
    cases as with
    |nil=>
     cases ks with
     |nil=>cases RZ
     |cons=>rfl
    |cons=>rfl
   |_=>rfl
  |_=>rfl
 haveI Qu:args.length<=10:=by simpa [few]using RA
 refine J5 hb ?_ OQ (ho.mono λov s₁ ⟨x₁,ra⟩=> ?_)
 ·haveI h1:=(OC s (.refl s)).1
  rw [bY,h1];exact decide_eq_true (FF Qu (by decide):args.length<30)
 ·obtain⟨hT,hr,SU⟩:=hM C.prog C.w ok s₁ ov ra
  refine⟨T,id,M.pa,t8 hm▸M.sl,M.ty,hT,λb e=>absurd e (hr b), ?_⟩;have H:=OC s₁ x₁;refine bk (λb e=>by cases e) (by rw [fG];exact fY H.1) ?_
  refine bB (by rw [bY];exact H.1) ((H.2 pos).mono λvs s₂ ⟨x₂,q⟩=> ?_)
  exact(SU A s₂ vs (PY.keep (Fx x₁.size x₂.size)) (Wy.keep (x₁.keep.trans x₂.keep)) (ra.keep x₂.keep) q).mono λv s₃ ⟨x₃,r₃⟩=>⟨(x₁.trans x₂).trans x₃,r₃⟩
end
structure cZ (C:Cx) (Γ:Gam) (Og:List Gj) (n:Nat):Prop where
 e: ∀ns e pe,sE C.gl Og n ns e=Fv pe->aJ C Γ Og ns e pe
 o: ∀ns e pe,sO C.gl Og n ns e=Fv pe-> ∀A Oh ρ ok s r,dj C Og A Oh ns ρ ok s->pev Γ pe ρ=Fv r->WP (FN C.prog C.w) A (evalPart e Oh) (Ev C ok r s) s
 l: ∀ns es O_,sL C.gl Og n ns es=Fv O_-> ∀A Oh ρ ok s rs,dj C Og A Oh ns ρ ok s->dz Γ O_ ρ=Fv rs->ci C A Oh ok es rs s
 t: ∀ns e pe,sT C.gl Og n ns e=Fv pe->dQ C Γ Og ns e pe
 ts: ∀ns es O_,sTs C.gl Og n ns es=Fv O_->cG C Γ Og ns es O_
 i: ∀ns e pi t,sI C.gl Og n ns e=Fv pi->gP t pi=FE-> ∃T:Expr->Prop,T t/\pD C Γ Og ns T e pi
variable {kp:HW} {pe pl:PE} {es:List Expr} {O_:List PE}
section
theorem dj.less (G:dj C Og A Oh ns ρ ok s) (x:Ext s s') {D:Gb} (h1:s.heap.objs.size<=D) (h2:D<s'.heap.objs.size):dj C Og A Oh ns ρ (okW ok [D]) s' where
 a:=G.a
 e:=G.e
 h:=G.h.trans x.keep
 r:=λy pv hy hp=>by obtain⟨v,V,R⟩:=G.r y pv hy hp;refine⟨v,V.keep x.keep,R.mono (λb hb ⟨o,e⟩=>⟨hb,λq=> ?_⟩) λb _ o e=>x.keep b o e⟩;rw [G4.mp q]at e;exact FV _ (Fy (aq e) h1)
 o:=λb hb=>⟨G.o b (Fx x.size hb),λq=>FV _ (Fy (G4.mp q▸h2) hb)⟩
 m:=G.m.keep x.keep
 l:=G.l
 v:=λb hb=>by obtain⟨o,e⟩:=G.v b hb;exact⟨o,x.keep _ _ e⟩
theorem pw {k:Gj} {kd:_} (he:aJ C Γ Og ns e pe) (G:dj C Og A Oh ns ρ ok s) (hp:pev Γ pe ρ=Fv u):
  WP (FN C.prog C.w) A (Hz (.Dict [Fv (.Constant (.str k) kd kp)] [e] pos) Oh) (λv s'=>Ext s s'/\ ∃D w₁,v= .ref D/\s.heap.objs.size<=D/\D<s'.heap.objs.size/\s'.heap.DictOf (strKind C.prog C.w) D [(k,w₁)]/\Rep C.prog C.w (okW ok [D]) s'.heap u w₁) s:=by
 have x₀:Ext s {s with heap:=s.heap.push {cls:= .type "dict",data:= .dict #[]}}:= .pushed s _ s.toks
 refine wpAny_Dict_walk (knd:=strKind C.prog C.w) rfl rfl (λe=>nomatch e) (by decide:1<=15) (pairTrees_cons_walk (Constant_str ?_))
 refine(he A Oh ρ _ _ u (((G.less x₀ (D:=s.heap.objs.size) (FH _) (oD _ _))).ext (.toks _ _)) hp).mono λv s₁ ⟨x₁,q⟩=>pairTrees_nil_walk ?_;have Vp:s₁.heap.DictOf (strKind C.prog C.w) s.heap.objs.size []:=r6 (h:=s.heap.push {cls:= .type "dict",data:= .dict #[]}) (Ky _) λo e=>x₁.keep _ _ e;have OD:=gc Vp;refine⟨[(k,v)],⟨M9 _ _ _ _,rfl,trivial⟩,Vp,λh' hd hs=>⟨⟨λb o e=>az hs OD (λq=>FV _ (q▸aq e)) (x₁.keep _ _ (x₀.keep _ _ e)),hs.1.symm▸Fx x₀.size x₁.size,λi g e=>x₁.gens i g e,x₁.os⟩,
  _,v,rfl,FH _,hs.1.symm▸Fy (oD _ _) x₁.size,hd,q.mono (λ_ h _=>h) λb hb o e=>az hs OD (λq=>hb.2 (q▸HA _)) e⟩⟩
theorem qJ {b:Bool} {Q:Bool->FL->Prop} (h:Q b s):WP (FN C.prog C.w) A (truthy (.bool b)) Q s:=wpAny_truthy_bool h
theorem CL {op:BoolOp} (h0:cG C Γ Og ns es O_): ∀{s:FL} {b:Bool},dj C Og A Oh ns ρ ok s->ig Γ (op== .And) O_ ρ=Fv b->
  WP (FN C.prog C.w) A (allTrue op es Oh) (λb' s'=>b'=b/\Ext s s') s:=by
 induction h0 with
 |nil=>exact λG h=>FK ⟨FG h,.refl _⟩
 |cons h1 h2 ih=>
  intro s b G h;refine ac h λv hv h=>ac h λb1 Qk h=> ?_;have E:=h1 A Oh ρ ok s v b1 G hv Qk;have go: ∀{s1},Ext s s1->ig Γ (op== .And) _ ρ=Fv b->WP (FN C.prog C.w) A (allTrue op _ Oh) (λb' s'=>b'=b/\Ext s s') s1:=λx h=>(ih (G.ext x) h).mono λb' s' q=>⟨q.1,x.trans q.2⟩;cases op with
  |And=>
   refine wpAny_allTrue_And_cons (E.mono λb' s1 ⟨e,x⟩=> ?_);subst e;cases b' with
   |true=>exact go x h
   |false=>exact⟨FG h,x⟩
  |Or=>
   refine wpAny_allTrue_Or_cons (E.mono λb' s1 ⟨e,x⟩=> ?_);subst e;cases b' with
   |true=>exact⟨FG h,x⟩
   |false=>exact go x h
theorem sm (h:aJ C Γ Og ns e pe) (he: ∀(Oh:Lk) (whole:IH FR),isTrue e Oh whole=(do let v<-whole;HM e.pos;JA [v] (truthy v))):dQ C Γ Og ns e pe:=by intro A Oh ρ ok s v b G hv hb;refine isTrue_plain ?_ (he Oh _);exact(h A Oh ρ ok s v G hv).mono λu s₁ ⟨x₁,r₁⟩=>(zq hb r₁).mono λb' s₂ ⟨e₂,x₂⟩=>⟨e₂,x₁.trans x₂⟩
theorem xd {l r:Expr} {op:NC} {pr:PE} (hm:L8 op r=Fz) (hl:aJ C Γ Og ns l pl) (hr:aJ C Γ Og ns r pr):
  dQ C Γ Og ns (.Compare l [op] [r] pos) (.cmp op pl pr):=by
 intro A Oh ρ ok s v b G hv hb;refine ac hv λa ha hv=>ac hv λc hc hv=> ?_;obtain⟨t,ht,rfl⟩:=Gk.mp hv;cases hb;rw [isTrue_Compare1,markedBehindIn_of_false hm];refine WP.then (hl A Oh ρ ok s a G ha) λva s₁ ⟨x₁,ra⟩=> ?_;refine WP.then (WP.hold (hr A Oh ρ ok s₁ c (G.ext x₁) hc)) λvc s₂ ⟨x₂,rc⟩=>WP.at ?_;refine WP.then (WP.oper (ui G.a.units ht (ra.keep x₂.keep) rc)) λvt s₃ ⟨x₃,(rt:vt= .bool b)⟩=>WP.hold ?_;subst rt;exact qJ ⟨rfl,(x₁.trans x₂).trans x₃⟩
end
abbrev Bi (C:Cx) (A:HB) (PP:Gb->Prop) (v:PV) (P9:Option (FR->IH Unit)) (Q:FR->FL->Prop) (s:FL):Prop:=
 ∀D L s',Ext s s'->s.heap.objs.size<=D->s.heap.objs.size<=L->D≠L->(∃m,s'.heap.Ns L m)->Rep C.prog C.w (okW PP [L]) s'.heap v (.ref D)->
  compPost (FN C.prog C.w) A (λ_ _=>False) P9 Q (.ref D) L (.ok .next) s'
def fU (C:Cx) (Γ:Gam) (Og:List Gj) (ns:ay) (e:Expr) (pe:PE):Prop:=
 ∃(RF:Lk->Option (FR->IH Unit)->IH FR),(∀Oh,Hz e Oh=RF Oh Fw)/\(∀Oh P9,JZ e Oh P9=(do let _<-RF Oh (Fv P9)))/\
  ∀A Oh ρ PP s v,dj C Og A Oh ns ρ PP s->pev Γ pe ρ=Fv v-> ∀P9 Q,Bi C A PP v P9 Q s->WP (FN C.prog C.w) A (RF Oh P9) Q s
variable {PP:Gb->Prop}
section
theorem uw {zs:List PV} (G:dj C Og A Oh ns ρ PP s) (h:Bi C A PP (.list zs) P9 Q s):Bh C A PP zs P9 Q s:=
 λD L s' ok' vs x h1 h2 h3 h4 l q h6=>h D L s' x h1 h2 h3 h4 ⟨D,vs,rfl,⟨G.o D h1,by simpa using h3⟩,G.m.ne (bH h1),l,q.mono (λb hb _=>⟨(h6 b hb).1,by simpa using(h6 b hb).2.2⟩) λ_ _ _ e=>e⟩
theorem Ac {d:PV} (G:dj C Og A Oh ns ρ PP s) (h:Bi C A PP d P9 Q s):Du C A PP d P9 Q s:=
 λD L s' ok' x h1 h2 h3 h4 q h6=>h D L s' x h1 h2 h3 h4 (uH ⟨G.o D h1,by simpa using h3⟩ (G.m.ne (bH h1)) ((ARD.acc D).frame q (λ_ _ _ e=>e) λb o hb _=>⟨(h6 b hb).1,by simpa using(h6 b hb).2.2⟩))
theorem fU.ev (h:fU C Γ Og ns e pe):aJ C Γ Og ns e pe:=by
 obtain⟨RF,h1,_,h3⟩:=h;intro A Oh ρ ok s v G hp;rw [h1];refine h3 A Oh ρ ok s v G hp Fw _ λD L s' x h1 h2 h3 ⟨m,h4⟩ q=>⟨m,h4,λh' hs=> ?_⟩;have OD:=lH h4;refine⟨⟨λb o e=>az hs OD (λq=> ?_) (x.keep b o e),by show _<=h'.objs.size;rw [hs.1];exact x.size,x.gens,x.os⟩,q.mono (λb hb _=>hb.1) λb hb o e=>az hs OD (λq=>hb.2 (q▸HA _)) e⟩
 rw [q,bH h2]at e;cases e
end
variable {k:Nat} {op:JO} {pc pa pb:PE} {gs:List Kk} {R0:List PE}
section
theorem xJ {c:Const} (h:sC c=Fv pe):aJ C Γ Og ns (.Constant c k pos) pe:=by
 cases c with
 |int i=>cases h;exact λA Oh ρ ok s r G hp=>by cases hp;exact Cm
 |str i=>cases h;exact λA Oh ρ ok s r G hp=>by cases hp;exact Ck
 |bool i=>cases h;exact λA Oh ρ ok s r G hp=>by cases hp;exact A4
 |none=>cases h;exact λA Oh ρ ok s r G hp=>by cases hp;exact z'
 |_=>exact a9 h
theorem zF (GO:an C Γ) (hx:aC x=FE) (h:sN C.gl Og ns x=Fv pe):aJ C Γ Og ns (.Name x pos) pe:=by
 refine d0 h (λhk h=> ?_) λ_ h=>cF h λhk h=>ac h λg hg h=> ?_
 ·cases h
  intro A Oh ρ ok s r G hp;obtain⟨v,V,R⟩:=G.r x r ((G.e.cls x).trans hk) hp;exact im G.e hx V ⟨.refl _,R⟩
 ·cases g with
  |val k=>
   cases h;intro A Oh ρ ok s r G hp;obtain⟨v,L,R⟩:=GO.val x k r hg hp;exact dq G.e hx (of_decide_eq_true hk) G.h L ⟨.refl _,R ok _⟩
  |_=>exact a9 h
theorem BW {l r:Expr} {a b:PE} (ha:aJ C Γ Og ns l a) (hb:aJ C Γ Og ns r b):aJ C Γ Og ns (.BinOp l op r pos) (.bin op a b):=
 λA Oh ρ ok s c G hp=>ac hp λu hu hp=>ac hp λv hv hc=>
  rS (λs' x=>ha A Oh ρ ok s' u (G.ext x) hu) (λs' x=>hb A Oh ρ ok s' v (G.ext x) hv) λs' va vb x ra rb=>ox hc (G.ext x).o (G.ext x).m ra rb
theorem wz {f:Int->PV} {Q:Prop} (h:(match v with| .int i=>Fv (f i)|_=>Fw)=Fv c) (k: ∀i,v= .int i->c=f i->Q):Q:=by
 cases v with
 |int i=>cases h;exact k i rfl rfl
 |_=>exact a9 h
theorem BQ {x:Expr} {a:PE} (ha:aJ C Γ Og ns x a):aJ C Γ Og ns (.UnaryOp .USub x pos) (.neg a):=
 λA Oh ρ ok s c G hp=>ac hp λu hu hc=>wz hc λi e1 e2=>by subst e1 e2;exact wE (ha A Oh ρ ok s _ G hu) λs' va ⟨t,e⟩=>by subst e;exact neg_int bI
theorem BR {x:Expr} {a:PE} (ha:aJ C Γ Og ns x a):aJ C Γ Og ns (.UnaryOp .Invert x pos) (.inv a):=
 λA Oh ρ ok s c G hp=>ac hp λu hu hc=>wz hc λi e1 e2=>by subst e1 e2;exact wE (ha A Oh ρ ok s _ G hu) λs' va ⟨t,e⟩=>by subst e;exact invert_int bI
theorem BV {l r:Expr} {op:NC} {a b:PE} (hm:(!L8 op r)=FE) (ha:aJ C Γ Og ns l a) (hb:aJ C Γ Og ns r b):aJ C Γ Og ns (.Compare l [op] [r] pos) (.cmp op a b):=
 λA Oh ρ ok s c G hp=>ac hp λu hu hp=>ac hp λv hv hc=>aM (P:=λc=>WP _ A (Hz (.Compare l [op] [r] pos) Oh) (Ev C ok c s) s) hc λk hk=>
  Cn (by simpa using hm) (λs' x=>ha A Oh ρ ok s' u (G.ext x) hu) (λs' x=>hb A Oh ρ ok s' v (G.ext x) hv) λs' va vb x ra rb=>ui G.a.units hk ra rb
theorem BS {c a b:Expr} (hc:dQ C Γ Og ns c pc) (ha:aJ C Γ Og ns a pa) (hb:aJ C Γ Og ns b pb):aJ C Γ Og ns (.IfExp c a b pos) (.ife pc pa pb):=
 λA Oh ρ ok s r G hp=>ac hp λv hv hp=>ac hp λt ht hp=>by
  refine wpAny_IfExp ((hc A Oh ρ ok s v t G hv ht).mono λb' s₁ ⟨e,x₁⟩=> ?_);subst e;cases b' with
  |true=>exact(ha A Oh ρ ok s₁ r (G.ext x₁) hp).mono λv s₂ ⟨x₂,r₂⟩=>⟨x₁.trans x₂,r₂⟩
  |false=>exact(hb A Oh ρ ok s₁ r (G.ext x₁) hp).mono λv s₂ ⟨x₂,r₂⟩=>⟨x₁.trans x₂,r₂⟩
theorem zH (S:cZ C Γ Og n) (Pp:sL C.gl Og n ns es=Fv O_):aJ C Γ Og ns (.List es pos) (.list O_):=
 λA Oh ρ ok s r G hp=>ac hp λrs SK hp=>by obtain⟨Oj,rfl⟩:=ai hp;exact(kG (S.l _ _ _ Pp A Oh ρ ok s rs G SK) Oj G.m).mono λv s' ⟨x,a,vs,hv,ha,l,q,hs⟩=>⟨x,a,vs,hv,G.o a ha,hs,l.isList,q.mono (λ_ h _=>h.1) λ_ _ _ e=>e⟩
theorem BP (S:cZ C Γ Og n) (Pp:sL C.gl Og n ns es=Fv O_):aJ C Γ Og ns (.Tuple es k pos) (.tup O_):=
 λA Oh ρ ok s r G hp=>ac hp λrs SK hp=>by obtain⟨Oj,rfl⟩:=ai hp;exact yg (S.l _ _ _ Pp A Oh ρ ok s rs G SK) Oj G.o G.m
structure pM (C:Cx) (Γ:Gam) (Og:List Gj) (ns sn:ay) (g:Kk) (p:PT×PI×List PE):Prop where
 mk'::
 ok: ∃t it ifs T,g=⟨t,it,ifs,0⟩/\iH it=FE/\sPT Og sn t=Fv p.1/\pD C Γ Og ns T it p.2.1/\T t/\cG C Γ Og sn ifs p.2.2
theorem nV (S:cZ C Γ Og n) {sn:ay} {p:PT×PI×List PE} (h:sG (sE C.gl Og n) (sI C.gl Og n) (sTs C.gl Og n) Og ns sn g=Fv p):pM C Γ Og ns sn g p:=
 cF h λhn h=>cT hn λhn h0=>iN h λa b c ha hb hc=>ac hb λb' hi hb=>cF hb λhf hb=>by cases hb;obtain⟨T,hT,Ou⟩:=S.i _ _ _ _ hi hf;obtain⟨t,it,ifs,z⟩:=g;cases (eq_of_beq h0:z=0);exact⟨_,_,_,T,rfl,hn,ha,Ou,hT,S.ts _ _ _ hc⟩
theorem xL (GO:an C Γ) {p:PT×PI×List PE} (hs:bV ns sc=FE) (hg:pM C Γ Og ns sc.names g p) (he:aJ C Γ Og sc.names OI pe):
  fU C Γ Og ns (.ListComp OI [g] sc pos) (.comp1 (cf Og sc) p.1 p.2.1 p.2.2 pe):=by
 obtain⟨t,it,ifs,T,rfl,h1,h2,h3,h4,h5⟩:=hg.ok;exact⟨λOh P9=>JN (.ListComp OI [⟨t,it,ifs,0⟩] sc pos) sc Oh (O7 [⟨t,it,ifs,0⟩] pos) (newList []) Fz (Hz it Oh) P9,λOh=>rfl,λOh P9=>rfl,λA Oh ρ PP s v G hp P9 Q OZ=>
  yz GO.sy hs h1 h2 h3 h4 h5 he G hp λzs e=>by subst e;exact uw G OZ⟩
theorem xK (GO:an C Γ) {g2:Kk} {p p2:PT×PI×List PE} (hs:bV ns sc=FE) (hg:pM C Γ Og ns sc.names g p) (R_:pM C Γ Og sc.names sc.names g2 p2) (he:aJ C Γ Og sc.names OI pe):
  fU C Γ Og ns (.ListComp OI [g,g2] sc pos) (.comp2 (cf Og sc) p.1 p.2.1 p.2.2 p2.1 p2.2.1 p2.2.2 pe):=by
 obtain⟨t,it,ifs,T,rfl,h1,h2,h3,h4,h5⟩:=hg.ok;obtain⟨t',it',Ua,T',rfl,k1,k2,k3,k4,k5⟩:=R_.ok;exact⟨λOh P9=>JN (.ListComp OI [⟨t,it,ifs,0⟩,⟨t',it',Ua,0⟩] sc pos) sc Oh (O7 [⟨t,it,ifs,0⟩,⟨t',it',Ua,0⟩] pos) (newList []) Fz (Hz it Oh) P9,λOh=>rfl,λOh P9=>rfl,λA Oh ρ PP s v G hp P9 Q OZ=>
  yy GO.sy hs h1 h2 h3 h4 h5 k1 k2 k3 k4 k5 he G hp λzs e=>by subst e;exact uw G OZ⟩
theorem xI (GO:an C Γ) {k v:Expr} {p:PT×PI×List PE} {pv:PE} (hs:bV ns sc=FE) (hg:pM C Γ Og ns sc.names g p) (hk:aJ C Γ Og sc.names k pk) (hv:aJ C Γ Og sc.names v pv):
  fU C Γ Og ns (.DictComp k v [g] sc pos) (.dcomp (cf Og sc) p.1 p.2.1 p.2.2 pk pv):=by
 obtain⟨t,it,ifs,T,rfl,h1,h2,h3,h4,h5⟩:=hg.ok;exact⟨λOh P9=>JN (.DictComp k v [⟨t,it,ifs,0⟩] sc pos) sc Oh (O7 [⟨t,it,ifs,0⟩] pos) newDict Fz (Hz it Oh) P9,λOh=>rfl,λOh P9=>rfl,λA Oh ρ PP s v G hp P9 Q OZ=>
  yt GO.sy hs h1 h2 h3 h4 h5 hk hv G hp (Ac G OZ)⟩
theorem wG (GO:an C Γ) (S:cZ C Γ Og n) (h:sE C.gl Og (n+1) ns (.ListComp OI gs sc pos)=Fv pe):fU C Γ Og ns (.ListComp OI gs sc pos) pe:=
 cF h λhs h=>fI h (λg e h=>cr e▸cE h λ_ _ hg he=>xL GO hs (nV S hg) (S.e _ _ _ he)) λ_ h=>ac h λq e h=>
  km e▸iN h λ_ _ _ hg R_ he=>xK GO hs (nV S hg) (nV S R_) (S.e _ _ _ he)
theorem wH (GO:an C Γ) (S:cZ C Γ Og n) {k v:Expr} (h:sE C.gl Og (n+1) ns (.DictComp k v gs sc pos)=Fv pe):fU C Γ Og ns (.DictComp k v gs sc pos) pe:=
 cF h λhs h=>ac h λg e h=>cr e▸iN h λ_ _ _ hg hk hv=>xI GO hs (nV S hg) (S.e _ _ _ hk) (S.e _ _ _ hv)
theorem uZ {l h st:PV} (hp:aR v l h st=Fv r): ∃id,M6 (.type (CR v)) "__getitem__" =pure (Fv (.builtin id)):=by
 cases v with
 |list=>exact⟨_,slot_list_getitem.lookup⟩
 |str=>exact⟨_,PySem.F.slot_str_getitem.lookup⟩
 |_=>exact a9 hp
theorem xH (S:cZ C Γ Og n) {v:Expr} {lo hi st:Option Expr} {ph ps:PE} (ha:aJ C Γ Og ns v pa) (hl:sO C.gl Og n ns lo=Fv pl) (hh:sO C.gl Og n ns hi=Fv ph) (hs:sO C.gl Og n ns st=Fv ps):
  aJ C Γ Og ns (.Subscript v (.Slice lo hi st p) pos) (.slice pa pl ph ps):=
 λA Oh ρ ok s r G hp=>ac hp λa PW hp=>ac hp λl Px hp=>ac hp λRm W8 hp=>ac hp λV3 Wz hp=>by
  refine jd (P:=λ_ _ _=>True) ((ha A Oh ρ ok s a G PW).mono λva s₁ ⟨x₁,ra⟩=> ?_);refine wpAny_Slice ((S.o _ _ _ hl A Oh ρ ok s₁ l (G.ext x₁) Px).mono λvl s₂ ⟨x₂,rl⟩=> ?_);refine(S.o _ _ _ hh A Oh ρ ok s₂ Rm ((G.ext x₁).ext x₂) W8).mono λvh s₃ ⟨x₃,rh⟩=> ?_;refine(S.o _ _ _ hs A Oh ρ ok s₃ V3 (((G.ext x₁).ext x₂).ext x₃) Wz).mono λvs s₄ ⟨x₄,rs⟩=> ?_;have x5:=(((x₁.trans x₂).trans x₃).trans x₄).trans (Ext.pushed s₄ {cls:= .type "slice",data:= .fields #[vl,vh,vs]} s₄.toks);have px:HK s₄.heap (s₄.heap.push {cls:= .type "slice",data:= .fields #[vl,vh,vs]}):=HK.push _ _;have ra5:=ra.keep (((x₂.trans x₃).trans x₄).keep.trans px);obtain⟨id,TT⟩:=uZ hp;exact⟨_,id,TT,pY (s:={s₄ with heap:=s₄.heap.push {cls:= .type "slice",data:= .fields #[vl,vh,vs]}}) ra5,
   (v7 hp (G.ext x5).o (G.ext x5).m ra5 (rl.keep ((x₃.trans x₄).keep.trans px)) (rh.keep (x₄.keep.trans px)) (rs.keep px) (Gt _ rfl)).mono λv s₆ ⟨x₆,r₆⟩=>⟨x5.trans x₆,r₆⟩⟩
theorem BU {v i:Expr} {pi:PE} (ha:aJ C Γ Og ns v pa) (hi:aJ C Γ Og ns i pi):aJ C Γ Og ns (.Subscript v i pos) (.idx pa pi):=
 λA Oh ρ ok s r G hp=>ac hp λa PW hp=>ac hp λb Pq hp=>by refine jd (P:=λ_ _ _=>True) ((ha A Oh ρ ok s a G PW).mono λva s₁ ⟨x₁,ra⟩=> ?_);refine(hi A Oh ρ ok s₁ b (G.ext x₁) Pq).mono λvb s₂ ⟨x₂,rb⟩=> ?_;obtain⟨T,id,h1,h2⟩:=mq (s:=s₂) hp (ra.keep x₂.keep);exact⟨T,id,h1,h2,(zB hp (ra.keep x₂.keep) rb).mono λv s₃ ⟨x₃,r₃⟩=>⟨(x₁.trans x₂).trans x₃,r₃⟩⟩
abbrev EvS (C:Cx) (Γ:Gam) (Og:List Gj) (ns:ay) (e:Expr) (pe:PE):Prop:=aJ C Γ Og ns e pe/\nN e=FE
theorem bC (h:nN e=FE): ∀x p,e≠ .Starred x p:=λx p q=>Bool.noConfusion (q▸h:nN (.Starred x p)=FE)
theorem de {gl:Gj->Option aX} (h:sE gl Og n ns e=Fv pe):nN e=FE:=by
 cases n with
 |zero=>exact a9 h
 |succ n=>
  cases e with
  |Starred=>exact a9 h
  |_=>rfl
structure Nm (ns:ay) (f:Gj):Prop where
 p:aC f=FE
 k:fC (ns.lookup f)=2
theorem AI (GO:an C Γ) (S:cZ C Γ Og n) (hn:Nm ns f) (hg:C.gl f=Fv (.fn k)) (has:sL C.gl Og n ns args=Fv R0):
  aJ C Γ Og ns (.Call (.Name f p) args [] pos) (.call k R0):=
 λA Oh ρ ok s r G hp=>ac hp λvs PH hp=>by obtain⟨a,o,fd,L,ho,hd,VT⟩:=GO.fn f k hg;exact kH G.e hn.p hn.k G.h L (S.l _ _ _ has A Oh ρ ok s vs G PH) (yE G.h ho hd) λs₁ us x q=>VT vs r hp A s₁ ok us G.a (G.h.trans x.keep) (G.ext x).o (G.ext x).m q
theorem AJ (GO:an C Γ) (S:cZ C Γ Og n) {k:BI} (hn:Nm ns f) (hg:C.gl f=Fv (.bi k)) (has:sL C.gl Og n ns args=Fv R0):
  aJ C Γ Og ns (.Call (.Name f p) args [] pos) (.bi k R0):=
 λA Oh ρ ok s r G hp=>ac hp λvs PH hp=>
  kH G.e hn.p hn.k G.h (GO.bi f k hg) (S.l _ _ _ has A Oh ρ ok s vs G PH) (jK λa e=>nomatch e) λs₁ us x q=>BM G.a.1 hp (G.ext x).o (G.ext x).m q
theorem qh (GO:an C Γ) (S:cZ C Γ Og n) (hn:Nm ns f) (hg:C.gl f=Fv (.ty "range")) (has:sL C.gl Og n ns args=Fv R0):
  aJ C Γ Og ns (.Call (.Name f p) args [] pos) (.rng R0):=
 λA Oh ρ ok s r G hp=>ac hp λvs PH hp=>
  kH G.e hn.p hn.k G.h (GO.ty f "range" hg) (S.l _ _ _ has A Oh ρ ok s vs G PH) (jK λa e=>nomatch e) λs₁ us x q=>t6 hp (G.ext x).o (G.ext x).m q
theorem oz {a:Expr} (ha:EvS C Γ Og ns a pa) (G:dj C Og A Oh ns ρ ok s) (hv:pev Γ pa ρ=Fv v):ci C A Oh ok [a] [v] s:=
 ci.cons (bC ha.2) (ha.1 A Oh ρ ok s v G hv) λs' x=>ci.nil
theorem mY (GO:an C Γ) {a:Expr} (hn:Nm ns f) (hg:C.gl f=Fv (.ty "list")) (ha:EvS C Γ Og ns a pa):
  aJ C Γ Og ns (.Call (.Name f p) [a] [] pos) (.listOf pa):=
 λA Oh ρ ok s r G hp=>ac hp λv hv hp=>
  kH (rs:=[v]) G.e hn.p hn.k G.h (GO.ty f "list" hg) (oz ha G hv) (jK λa e=>nomatch e) λs₁ us x q=>by obtain⟨u,_,rfl,ru,rfl⟩:=q;exact vT G.a.1 hp (G.ext x).o (G.ext x).m ru
theorem zI (GO:an C Γ) (S:cZ C Γ Og n) {g:Option aX} (hn:Nm ns f) (hg:C.gl f=g) (h:sF (sE C.gl Og n ns) (sL C.gl Og n ns args) args g=Fv pe):
  aJ C Γ Og ns (.Call (.Name f p) args [] pos) pe:=by
 cases g with
 |none=>exact a9 h
 |some g=>
  cases g with
  |fn k=>exact aM h λR0 has=>AI GO S hn hg has
  |bi k=>exact aM h λR0 has=>AJ GO S hn hg has
  |ty t=>
   refine d0 h (λht h=> ?_) λ_ h=>d0 h (λht h=> ?_) λ_ h=>a9 h
   ·subst ht
    exact ac h λa e h=>cr e▸aM h λpa ha=>mY GO hn hg ⟨S.e _ _ _ ha,de ha⟩
   ·subst ht
    exact aM h λR0 has=>qh GO S hn hg has
  |_=>exact a9 h
theorem zG (S:cZ C Γ Og n) {q:ME×Expr×List Expr} (h:wq e=Fv q) (ha:aJ C Γ Og ns q.2.1 pa) (has:sL C.gl Og n ns q.2.2=Fv R0):
  aJ C Γ Og ns e (.meth q.1 pa R0):=
 ac h λc hc h=>ac h λt ht h=>cF h λhg h=>by
  rw [jL hc,nu ht];revert ha has;exact aM h λk hk ha has A Oh ρ ok s r G hp=>ac hp λa PW hp=>ac hp λvs PH hp=>cT hg λh1 h2=>cT h1 λh1 h3=>
   A0 hk h3 h1 h2 (ha A Oh ρ ok s a G PW) (λs₁ x=>S.l _ _ _ has A Oh ρ ok s₁ vs (G.ext x) PH) hp G.o G.m
theorem iC {q:Gj×List Expr} (h:o0 ns e=Fv q): ∃p pos,e= .Call (.Name q.1 p) q.2 [] pos/\Nm ns q.1:=
 ac h λc hc h=>ac h λf hf h=>cF h λhg h=>by cases h;exact cT hg λh _=>cT h λh1 h2=>(lg hf).elim λp hp=>⟨p,c.2.2,hp▸jL hc,h1,eq_of_beq h2⟩
theorem qP {q:Option Expr×Option Expr×Option Expr} (h:ub e=Fv q): ∃p,e= .Slice q.1 q.2.1 q.2.2 p:=by
 cases e with
 |Slice a b c p=>cases h;exact⟨p,rfl⟩
 |_=>exact a9 h
theorem zb (GO:an C Γ) (S:cZ C Γ Og n) (h:sE C.gl Og (n+1) ns e=Fv pe):aJ C Γ Og ns e pe:=by
 cases e with
 |Constant c _ _=>exact xJ h
 |Name x _=>exact cF h λhx h=>zF GO hx h
 |BinOp l op r _=>exact cE h λa b ha hb=>BW (S.e _ _ _ ha) (S.e _ _ _ hb)
 |UnaryOp op x _=>
  cases op with
  |USub=>exact aM h λa ha=>BQ (S.e _ _ _ ha)
  |Invert=>exact aM h λa ha=>BR (S.e _ _ _ ha)
  |_=>exact a9 h
 |Compare l TD rs _=>exact ac h λop e1 h=>ac h λr e2 h=>cr e1▸cr e2▸cF h λhm h=>cE h λa b ha hb=>BV hm (S.e _ _ _ ha) (S.e _ _ _ hb)
 |IfExp c a b _=>exact iN h λ_ _ _ hc ha hb=>BS (S.t _ _ _ hc) (S.e _ _ _ ha) (S.e _ _ _ hb)
 |List es _=>exact aM h λ_ Pp=>zH S Pp
 |Tuple es _ _=>exact aM h λ_ Pp=>BP S Pp
 |ListComp OI gs sc _=>exact(wG GO S h).ev
 |DictComp k v gs sc _=>exact(wH GO S h).ev
 |Subscript v i _=>
  refine fI h (λq e h=> ?_) λ_ h=>cE h λ_ _ ha hi=>BU (S.e _ _ _ ha) (S.e _ _ _ hi);obtain⟨p,rfl⟩:=qP e;exact cE h λa p ha hp=>iN (P:=λp=>aJ C Γ Og ns _ (.slice a p.1 p.2.1 p.2.2)) hp λ_ _ _ hl hh hs=>xH S (S.e _ _ _ ha) hl hh hs
 |Call f args V8 pos=>
  refine fI h (λq e h=> ?_) λ_ h=>ac h λq e h=>cE h λ_ _ ha has=>zG S e (S.e _ _ _ ha) has;obtain⟨p,pos,e,hn⟩:=iC e;exact e▸zI GO S hn rfl h
 |_=>exact a9 h
end
variable {t:Expr}
section
theorem DQ (h:aJ C Γ Og ns e pe):pD C Γ Og ns (λ_=>True) e (.ex pe):=
 λA Oh ρ ok s xs G hp=>ac hp λv hv hp=>(h A Oh ρ ok s v G hv).mono λu s₁ ⟨x,r⟩=>⟨x,pg x.size hp r⟩
def lq (C:Cx) (Γ:Gam) (Og:List Gj) (ns:ay) (t e:Expr) (pi:PI):Prop:= ∃T:Expr->Prop,T t/\pD C Γ Og ns T e pi
theorem iK (h:aJ C Γ Og ns e pe):lq C Γ Og ns t e (.ex pe):=⟨λ_=>True,trivial,DQ h⟩
theorem qz (E:cu Oh ns) (hn:Nm ns f) (hH:HK C.H s.heap) (L:cC C.H f fv)
  (hf: ∀a,fv≠ .ref a) (OC:ci C A Oh ok args rs s)
  (SU: ∀s₁ vs,Ext s s₁->av C.prog C.w ok s₁.heap rs vs->WP (FN C.prog C.w) A (Jj fv vs) Q s₁):
  WP (FN C.prog C.w) A (Hz (.Call (.Name f p) args [] pos) Oh) Q s:=by
 refine MY rfl (dq E hn.p hn.k hH L ?_);refine bk hf (by rw [fG];exact fY OC.1) ?_
 exact bB (by rw [bY];exact OC.1) ((OC.2 pos).mono λvs s₁ ⟨x,q⟩=>SU s₁ vs x q)
theorem Bn (h:(uI t).isSome=FE):yN t:=(Ho.mp h).elim λes h=>ly (P:=yN) h λk p=>⟨_,_,_,rfl⟩
theorem wY (GO:an C Γ) {a:Expr} (hn:Nm ns f) (hg:C.gl f=Fv (.ty "reversed")) (ha:EvS C Γ Og ns a pa):
  lq C Γ Og ns t (.Call (.Name f p) [a] [] pos) (.rev pa):=by
 refine⟨λ_=>True,trivial,λA Oh ρ ok s xs G hp=>ac hp λv hv hp=> ?_⟩;refine qz (rs:=[v]) G.e hn G.h (GO.ty f "reversed" hg) (λa e=>nomatch e) (oz ha G hv) λs₁ us x q=> ?_;obtain⟨u,_,rfl,ru,rfl⟩:=q;cases v with
 |list y=>
  cases hp;obtain⟨a,vs,rfl,OX,_,l,q⟩:=ru;exact(xo (s₀:=s) x.size l OX q).mono λr s₂ ⟨x₂,h⟩=>⟨x.trans x₂,h⟩
 |_=>exact a9 hp
theorem wX (GO:an C Γ) {a b:Expr} (hn:Nm ns f) (hg:C.gl f=Fv (.ty "zip")) (ha:EvS C Γ Og ns a pa) (hb:EvS C Γ Og ns b pb) (ht:gP t (.zip pa pb)=FE):
  lq C Γ Og ns t (.Call (.Name f p) [a,b] [] pos) (.zip pa pb):=by
 refine⟨yN,Bn ht,λA Oh ρ ok s xs G hp=>ac hp λu hu hp=>ac hp λv hv hp=> ?_⟩;refine qz (rs:=[u,v]) G.e hn G.h (GO.ty f "zip" hg) (λa e=>nomatch e) (ci.cons (bC ha.2) (ha.1 A Oh ρ ok s u G hu) λs' x=>oz hb (G.ext x) hv) λs₁ us x q=> ?_;obtain⟨u',_,rfl,ru,v',_,rfl,rv,rfl⟩:=q;cases u with
 |list y=>
  cases v with
  |list z=>
   cases hp;obtain⟨a,vs,rfl,OX,_,l,q⟩:=ru;obtain⟨a',OU,rfl,Sh,_,l',q'⟩:=rv;exact(uP (s₀:=s) x.size (G.ext x).o l l' OX Sh q q').mono λr s₂ ⟨x₂,h⟩=>⟨x.trans x₂,h⟩
  |_=>exact a9 hp
 |_=>exact a9 hp
theorem uR (GO:an C Γ) (S:cZ C Γ Og n) {g:Option aX} (hn:Nm ns f) (hg:C.gl f=g) (h:sW (sE C.gl Og n ns) (sL C.gl Og n ns args) args g=Fv pi) (ht:gP t pi=FE):
  lq C Γ Og ns t (.Call (.Name f p) args [] pos) pi:=by
 cases g with
 |none=>exact a9 h
 |some g=>
  revert ht;cases g with
  |fn k=>exact aM h λ_ has _=>iK (AI GO S hn hg has)
  |bi k=>exact aM h λ_ has _=>iK (AJ GO S hn hg has)
  |ty q=>
   refine d0 h (λhq h=> ?_) λ_ h=>d0 h (λhq h=> ?_) λ_ h=>ac h λa e h=>cr e▸d0 h (λhq h=> ?_) λ_ h=>d0 h (λhq h=> ?_) λ_ h=>a9 h
   ·exact aM h λ_ has _=>iK (qh GO S hn (hq▸hg) has)
   ·exact ac h λp e h=>km e▸cE h λ_ _ ha hb ht=>wX GO hn (hq▸hg) ⟨S.e _ _ _ ha,de ha⟩ ⟨S.e _ _ _ hb,de hb⟩ ht
   ·exact aM h λ_ ha _=>iK (mY GO hn (hq▸hg) ⟨S.e _ _ _ ha,de ha⟩)
   ·exact aM h λ_ ha _=>wY GO hn (hq▸hg) ⟨S.e _ _ _ ha,de ha⟩
  |_=>exact a9 h
theorem za (GO:an C Γ) (S:cZ C Γ Og n) (h:sI C.gl Og (n+1) ns e=Fv pi) (ht:gP t pi=FE):lq C Γ Og ns t e pi:=by refine fI h (λq e h=> ?_) λ_ h=>aM h λ_ he=>iK (S.e _ _ _ he);obtain⟨p,pos,e,hn⟩:=iC e;exact e▸uR GO S hn rfl h ht
theorem z9 (GO:an C Γ) (S:cZ C Γ Og n) (h:sT C.gl Og (n+1) ns e=Fv pe):dQ C Γ Og ns e pe:=by
 cases e with
 |UnaryOp op x _=>
  cases op with
  |Not=>
   refine aM h λpa ha A Oh ρ ok s v b G hv hb=>ac hv λu hu hv=>ac hv λc hc hv=> ?_;cases hv;cases hb;exact isTrue_not ((S.t _ _ _ ha A Oh ρ ok s u c G hu hc).mono λb' s' ⟨e,x⟩=>⟨by rw [e],x⟩)
  |_=>exact a9 h
 |Compare l TD rs _=>
  exact ac h λop e1 h=>ac h λr e2 h=>cr e1▸cr e2▸cF h λhm h=>cE h λa b ha hb=>xd (by simpa using hm) (S.e _ _ _ ha) (S.e _ _ _ hb)
 |BoolOp op vs _=>
  refine aM h λR0 has A Oh ρ ok s v b G hv hb=> ?_;obtain⟨c,hc,rfl⟩:=Gk.mp hv;cases hb;exact wpAny_isTrue_BoolOp (CL (S.ts _ _ _ has) G hc)
 |IfExp _ _ _ _=>exact a9 h
 |_=>exact sm (S.e _ _ _ h) λOh whole=>rfl
end
theorem cK {Og:List Gj} (GO:an C Γ): ∀n,cZ C Γ Og n
 |0=>⟨λ_ _ _ h=>a9 h,λ_ _ _ h=>a9 h,λ_ _ _ h=>a9 h,λ_ _ _ h=>a9 h,λ_ _ _ h=>a9 h,λ_ _ _ _ h=>a9 h⟩
 |n+1=>by
  have S:=cK (Og:=Og) GO n;refine⟨λns e pe h=>zb GO S h,λns e pe h=> ?_,λns es O_ h=> ?_,λns e pe h=>z9 GO S h,λns es O_ h=> ?_,λns e pi t h ht=>za GO S h ht⟩
  ·cases e with
   |none=>
    cases h;intro A Oh ρ ok s r G hp;cases hp;exact FK ⟨.refl _,rfl⟩
   |some e=>exact(S.e _ _ _ h)
  ·cases es with
   |nil=>
    cases h;intro A Oh ρ ok s rs G hp;cases hp;exact ci.nil
   |cons e es=>
    intro A Oh ρ ok s rs G;refine cE (P:=λO_=>dz Γ O_ ρ=Fv rs->ci C A Oh ok (e::es) rs s) h λa as ha has hp=>ac hp λv hv hp=>ac hp λvs PH hp=> ?_;cases hp;exact ci.cons (bC (de ha)) ((S.e _ _ _ ha) A Oh ρ ok s v G hv) λs' x=>S.l _ _ _ has A Oh ρ ok s' vs (G.ext x) PH
  ·cases es with
   |nil=>cases h;exact .nil
   |cons e es=>exact cE (P:=cG C Γ Og ns _) h λa as ha has=> .cons (S.t _ _ _ ha) (S.ts _ _ _ has)
inductive PS where
 |set (x m:Nat) (e:PE)
 |own (x:Nat) (e:PE)
 |setT (xs:List Nat) (m:Nat) (e:PE)
 |swap (xs:List Nat) (es:List PE)
 |aug (x:Nat) (op:JO) (m:Nat) (e:PE)
 |augL (x:Nat) (e:PE)
 |ret (e:PE)
 |ite (c:PE) (a b:List PS)
 |for_ (pt:PT) (it:PI) (body:List PS)
 |whl (c:PE) (body:List PS)
 |app (x m:Nat) (e:PE)
 |rev (x:Nat)
 |upd (x:Nat) (e:PE)
 |bad
inductive Out where
 |next (ρ:Ρ) (own:List Nat)
 |ret (v:PV)
noncomputable def gr:PV->Bool
 | .none=>FE| .bool _=>FE| .int _=>FE| .str _=>FE|_=>Fz
noncomputable def kC:PV->Bool
 | .dictS .. =>FE|_=>Fz
mutual
noncomputable def noDict:PV->Bool
 | .list xs=>gT xs
 | .tuple xs=>gT xs
 | .dictS .. =>Fz
 |_=>FE
noncomputable def gT:List PV->Bool
 |[]=>FE
 |x::xs=>noDict x&&gT xs
end
noncomputable def Ep:JO->Bool
 | .Add=>FE
 | .Sub=>FE
 | .Mult=>FE
 | .LShift=>FE
 | .RShift=>FE
 |_=>Fz
noncomputable def tS (op:JO):PV->PV->Bool
 | .int _,.int _=>Ep op
 |_,_=>Fz
noncomputable def dG (m:Nat) (ρ:Ρ) (own:List Nat):Ρ:=
 match m with
 |0=>aB ρ own
 |1=>aB ρ (own.filter λi=> !((ρ.get i).elim Fz kC))
 |_=>ρ
noncomputable def mOk (m:Nat) (v:PV):Bool:=
 match m with
 |0=>FE
 |1=>noDict v
 |2=>gr v
 |_=>FE
noncomputable def bP (m:Nat) (own:List Nat):List Nat:=if m<=2 then own else []
noncomputable def mev (Γ:Gam) (m:Nat) (e:PE) (ρ:Ρ) (own:List Nat):Option PV:=(pev Γ e (dG m ρ own)).bind λv=>if mOk m v=FE then Fv v else Fw
noncomputable def aI (own xs:List Nat):List Nat:=own.filter λi=> !xs.contains i
noncomputable def eA (pt:PT) (body:Ρ->List Nat->Option Out):List PV->Ρ->List Nat->Option Out
 |[],ρ,own=>Fv (.next ρ own)
 |x::xs,ρ,own=>if(ptIdx pt).all (λi=> !own.contains i)=FE then do
   let ρ'<-aT ρ pt x
   match<-body ρ' own with
   | .next OY Ot=>eA pt body xs OY Ot
   | .ret v=>Fv (.ret v)
  else Fw
variable {own:List Nat}
theorem AS {pt:PT} {body:Ρ->List Nat->Option Out} {x:PV}:eA pt body (x::xs) ρ own=if(ptIdx pt).all (λi=> !own.contains i)=FE then do
   let ρ'<-aT ρ pt x
   match<-body ρ' own with
   | .next OY Ot=>eA pt body xs OY Ot
   | .ret v=>Fv (.ret v)
  else Fw:=rfl
noncomputable def kI (test:Ρ->Option Bool) (body:Ρ->List Nat->Option Out):Nat->Ρ->List Nat->Option Out
 |0,_,_=>Fw
 |n+1,ρ,own=>do
  match<-test ρ with
  |true=>do
   match<-body ρ own with
   | .next ρ' Ot=>kI test body n ρ' Ot
   | .ret v=>Fv (.ret v)
  |false=>Fv (.next ρ own)
theorem Dv {test:Ρ->Option Bool} {body:Ρ->List Nat->Option Out}:kI test body (n+1) ρ own=(do
  match<-test ρ with
  |true=>do
   match<-body ρ own with
   | .next ρ' Ot=>kI test body n ρ' Ot
   | .ret v=>Fv (.ret v)
  |false=>Fv (.next ρ own)):=rfl
noncomputable def dF:List Gj->List PV->List Gj->List PV->List Gj×List PV
 |ks,us,[],_=>(ks,us)
 |ks,us,k::P3,Pe=>match Pe with
  |u::Pe=>dF (putK k u ks us).1 (putK k u ks us).2 P3 Pe
  |_=>(ks,us)
mutual
noncomputable def ak (Γ:Gam):PS->Ρ->List Nat->Option Out
 | .set x m e,ρ,own=>(mev Γ m e ρ own).map λv=> .next (ρ.set x (Fv v)) (aI (bP m own) [x])
 | .own x e,ρ,own=>(mev Γ 0 e ρ own).bind λv=>if x<ρ.length then Fv (.next (ρ.set x (Fv v)) (x::aI own [x]))else Fw
 | .setT xs m e,ρ,own=>do
  let v<-mev Γ m e ρ own;let ρ'<-aT ρ (.many xs) v
  Fv (.next ρ' (aI (bP m own) xs))
 | .swap xs es,ρ,own=>do
  let vs<-dz Γ es (aB ρ own);let ρ'<-a_ ρ xs vs
  Fv (.next ρ' (aI own xs))
 | .aug x op m e,ρ,own=>do
  let a<-ρ.get x;let b<-mev Γ m e ρ own;let c<-dN op a b
  if tS op a b=FE/\m<=2 then Fv (.next (ρ.set x (Fv c)) (aI own [x]))else Fw
 | .augL x e,ρ,own=>do
  match<-ρ.get x,<-mev Γ 0 e ρ own with
  | .list xs,.list ys=>if own.contains x=FE/\xs.length+ys.length<=F_ then Fv (.next (ρ.set x (Fv (.list (xs++ys)))) (x::aI own [x]))else Fw
  |_,_=>Fw
 | .ret e,ρ,own=>(pev Γ e ρ).map .ret
 | .ite c a b,ρ,own=>do
  match<-bt Γ c ρ with
  |true=>ag Γ a ρ own
  |false=>ag Γ b ρ own
 | .for_ pt it body,ρ,own=>do
  let xs<-pit Γ it (aB ρ own)
  eA pt (λρ own=>ag Γ body ρ own) xs ρ own
 | .whl c body,ρ,own=>kI (λρ=>bt Γ c ρ) (λρ own=>ag Γ body ρ own) 16 ρ own
 | .app x m e,ρ,own=>do
  match<-ρ.get x with
  | .list xs=>do
   let v<-mev Γ m e ρ own
   if own.contains x=FE/\m<=2/\xs.length<F_ then Fv (.next (ρ.set x (Fv (.list (xs++[v])))) own)else Fw
  |_=>Fw
 | .rev x,ρ,own=>do
  match<-ρ.get x with
  | .list xs=>if own.contains x=FE/\xs.length<=F_ then Fv (.next (ρ.set x (Fv (.list xs.reverse))) own)else Fw
  |_=>Fw
 | .upd x e,ρ,own=>do
  match<-ρ.get x,<-mev Γ 0 e ρ own with
  | .dictS ks us,.dictS P3 Pe=>if own.contains x=FE/\ks.length+P3.length<=1000 then(let r:=dF ks us P3 Pe;Fv (.next (ρ.set x (Fv (.dictS r.1 r.2))) own))else Fw
  |_,_=>Fw
 | .bad,_,_=>Fw
noncomputable def ag (Γ:Gam):List PS->Ρ->List Nat->Option Out
 |[],ρ,own=>Fv (.next ρ own)
 |p::ps,ρ,own=>do
  match<-ak Γ p ρ own with
  | .next ρ' Ot=>ag Γ ps ρ' Ot
  | .ret v=>Fv (.ret v)
end
variable {ps:List PS} {m:Nat}
section
variable {Ot:List Nat}
theorem rm {e:PE} (h:pev Γ e (dG 0 ρ own)=Fv v):mev Γ 0 e ρ own=Fv v:=aD h (if_pos rfl)
theorem ae {l r:PE} {a b:PV} (hl:pev Γ l ρ=Fv a) (hr:pev Γ r ρ=Fv b) (h:dN op a b=Fv c):pev Γ (.bin op l r) ρ=Fv c:=aD hl (aD hr h)
theorem a7 {p:PS} (h:ak Γ p ρ own=Fv (.next ρ' Ot)):ag Γ (p::ps) ρ own=ag Γ ps ρ' Ot:=by show(ak Γ p ρ own).bind _=_;rw [h];rfl
theorem ao {p:PS} (h:ak Γ p ρ own=Fv (.ret v)):ag Γ (p::ps) ρ own=Fv (.ret v):=aD h rfl
theorem am {c:PE} {a b:List PS} {t:Bool} {o:Option Out} (hc:bt Γ c ρ=Fv t) (h:ag Γ (if t=FE then a else b) ρ own=o):ak Γ (.ite c a b) ρ own=o:=by show(bt Γ c ρ).bind _=_;rw [hc];subst h;cases t<;>rfl
theorem e7 {xs:List Nat} {e:PE} (h:pev Γ e ρ=Fv v) (hb:aT ρ (.many xs) v=Fv ρ'):ak Γ (.setT xs 0 e) ρ []=Fv (.next ρ' []):=aD (rm (own:=[]) h) (aD hb rfl)
theorem lY {xs:List Nat} {es:List PE} {vs:List PV} (h:dz Γ es ρ=Fv vs) (hb:a_ ρ xs vs=Fv ρ'):ak Γ (.swap xs es) ρ []=Fv (.next ρ' []):=aD h (aD hb rfl)
theorem dS {x:Nat} {e:PE} {a b:PV} (hx:ρ.get x=Fv a) (h:pev Γ e ρ=Fv b) (hc:dN op a b=Fv c) (ho:tS op a b=FE):ak Γ (.aug x op 0 e) ρ []=Fv (.next (ρ.set x (Fv c)) []):=
 aD hx (aD (rm (own:=[]) h) (aD hc (if_pos ⟨ho,Hk 2⟩)))
theorem aH {e:PE} (h:pev Γ e ρ=Fv v):ak Γ (.ret e) ρ own=Fv (.ret v):=congrArg (Kj Out.ret) h
theorem aa {e:PE} {es:List PE} {vs:List PV} (h:pev Γ e ρ=Fv v) (h2:dz Γ es ρ=Fv vs):dz Γ (e::es) ρ=Fv (v::vs):=aD h (aD h2 rfl)
theorem bZ:dz Γ [] ρ=Fv []:=rfl
theorem aw {as:List PE} {vs:List PV} (h:dz Γ as ρ=Fv vs) (hf:Γ.fn k vs=Fv r):pev Γ (.call k as) ρ=Fv r:=aD h hf
theorem eN {pt:PT} {it:PI} {body:List PS} (h:pit Γ it (aB ρ own)=Fv xs):ak Γ (.for_ pt it body) ρ own=eA pt (λρ own=>ag Γ body ρ own) xs ρ own:=by
 show(pit Γ it (aB ρ own)).bind (λxs=>eA pt (λρ own=>ag Γ body ρ own) xs ρ own)=_;rw [h]
 rfl
theorem d_ {p:PS} (h:ak Γ p ρ own=Fv (.next ρ' Ot)):ag Γ [p] ρ own=Fv (.next ρ' Ot):=(a7 h).trans rfl
theorem bO {x:Nat} {e:PE} (h:pev Γ e (dG m ρ own)=Fv v) (hm:mOk m v=FE):ak Γ (.set x m e) ρ own=Fv (.next (ρ.set x (Fv v)) (aI (bP m own) [x])):=
 congrArg (Kj λv=>Out.next (ρ.set x (Fv v)) (aI (bP m own) [x])) (aD h (if_pos hm))
theorem aj {x:Nat} {e:PE} (h:pev Γ e ρ=Fv v):ak Γ (.set x 0 e) ρ []=Fv (.next (ρ.set x (Fv v)) []):=bO (own:=[]) h rfl
theorem c8 {op:NC} {l r:PE} {a b:PV} {t:Bool} (hl:pev Γ l ρ=Fv a) (hr:pev Γ r ρ=Fv b) (h:gk op a b=Fv t):bt Γ (.cmp op l r) ρ=Fv t:=aD (aD hl (aD hr (congrArg (Kj PV.bool) h))) rfl
theorem cU {x:Nat} {e:PE} (hx:ρ.get x=Fv (.list xs)) (h:mev Γ m e ρ own=Fv v) (ho:own.contains x=FE) (hm:m<=2) (hl:xs.length<F_):
  ak Γ (.app x m e) ρ own=Fv (.next (ρ.set x (Fv (.list (xs++[v])))) own):=aD hx (aD h (if_pos ⟨ho,hm,hl⟩))
end
def ew (C:Cx) (ok:Gb->Prop) (h:Ht) (pv:PV) (a:Gb):Prop:=
 match pv with
 | .list xs=> ∃vs,h.PlainList a vs.toArray/\av C.prog C.w ok h xs vs
 | .dictS ks us=>ARD C a ok (Fv (.dictS ks us)) h
 |_=>False
structure FSt (C:Cx) (Og:List Gj) (A:HB) (Oh:Lk) (ns:ay) (s₀:FL) (Oi W:Gb->Prop) (ok:Gb->Prop) (om:List (Nat×Gb)) (ρ:Ρ) (s:FL):Prop where
 a:AOk C.d A
 e:cu Oh ns
 x:Ext s₀ s
 h:HK C.H s₀.heap
 y:Sys C.H
 f:aE s.heap Oh ns
 r:cJ C.prog C.w Og ok s.heap Oh (aB ρ (om.map (·.1)))
 l:ρ.length<=Og.length
 v: ∀b,bD Oh b-> ∃o,vis s.heap b=Fv o
 free:ce ok s.heap
 home: ∀b,bg Oh ns b-> ¬ok b/\s₀.heap.objs.size<=b
 sub: ∀b,ok b->Oi b
 free₀:ce Oi s₀.heap
 ow: ∀p∈om,∃x pv,Og.idxOf x=p.1/\x∈Og/\ρ.get p.1=Fv pv/\aV s.heap Oh x (.ref p.2)/\ew C ok s.heap pv p.2/\ ¬ok p.2/\ ¬bD Oh p.2/\s₀.heap.objs.size<=p.2
 nd:(om.map (·.1)).Nodup/\(om.map (·.2)).Nodup
 w: ∀b,W b-> ¬ok b/\ ¬bD Oh b/\b∉om.map (·.2)/\b<s.heap.objs.size
structure Tr (W ok ok':Gb->Prop) (s s':FL):Prop where
 keep: ∀b o,ok b∨W b->vis s.heap b=Fv o->vis s'.heap b=Fv o
 sup: ∀b o,ok b->vis s.heap b=Fv o->ok' b
 gens: ∀(i:Nat) (g:Kn),s.gens[i]? =Fv g->s'.gens[i]? =Fv g
 os:s'.os=s.os
theorem Tr.refl (W ok:Gb->Prop) (s:FL):Tr W ok ok s s:=⟨λ_ _ _ e=>e,λ_ _ h _=>h,λ_ _ e=>e,rfl⟩
variable {W:Gb->Prop}
theorem Tr.trans (x:Tr W ok ok' s s') (y:Tr W ok' R8 s' Oy):Tr W ok R8 s Oy:=
 ⟨λb o h e=>y.keep b o (h.imp (λh=>x.sup b o h e) id) (x.keep b o h e),λb o h e=>y.sup b o (x.sup b o h e) (x.keep b o (.inl h) e),λi g e=>y.gens i g (x.gens i g e),y.os.trans x.os⟩
variable {Oi:Gb->Prop} {om:List (Nat×Gb)} {L:List Gb}
section
noncomputable abbrev okF (ok:Gb->Prop) (om:List (Nat×Gb)):Gb->Prop:=λb=>ok b∨b∈om.map (·.2)
@[elab_as_elim] theorem ew.two {Q:PV->Prop} (x:ew C ok h pv a) (k1: ∀xs vs,h.PlainList a vs.toArray->av C.prog C.w ok h xs vs->Q (.list xs)) (k2: ∀ks us,ARD C a ok (Fv (.dictS ks us)) h->Q (.dictS ks us)):Q pv:=by
 cases pv with
 |list xs=>exact K2 x λvs h=>k1 xs vs h.1 h.2
 |dictS ks us=>exact k2 ks us x
 |_=>exact False.elim x
theorem ew.frame (x:ew C ok h pv a) (k: ∀b,ok b∨b=a-> ∀o,vis h b=Fv o->vis h' b=Fv o) (sup: ∀b o,ok b->vis h b=Fv o->ok' b):ew C ok' h' pv a:=
 x.two (λxs vs l q=>⟨vs,zw l λo e=>k a (.inr rfl) o e,q.mono (λb hb h=>h.elim λo e=>sup b o hb e) λb hb o e=>k b (.inl hb) o e⟩) λks us x=>(ARD.acc a).frame x k sup
theorem ew.has (x:ew C ok h pv a): ∃o,vis h a=Fv o:=x.two (λxs vs l q=>BJ l) λks us x=>(ARD.acc a).has x
theorem ew.plain (x:ew C ok h pv a): ∀o,h.get? a=Fv o->aK o:=x.two (λxs vs l q=>iU l) λks us x=>jN x
theorem ew.rep (x:ew C ok h pv a) (hs:(a==Hf)=Fz) (w: ∀b,ok b->ok' b) (ha:ok' a):Rep C.prog C.w ok' h pv (.ref a):=
 x.two (λxs vs l q=>⟨a,vs,rfl,ha,hs,l.isList,q.mono (λb hb _=>w b hb) λ_ _ _ e=>e⟩) λks us x=>uH (ok:=ok') ha hs ((ARD.acc a).frame x (λ_ _ _ e=>e) λb _ hb _=>w b hb)
theorem FSt.move (F:FSt C Og A Oh ns s₀ Oi W ok om ρ s) (x:Ext s₀ s') (sz:s.heap.objs.size<=s'.heap.objs.size)
  (kr: ∀b,bD Oh b-> ∀o,vis s.heap b=Fv o->vis s'.heap b=Fv o) (ko: ∀b,ok b-> ∀o,vis s.heap b=Fv o->vis s'.heap b=Fv o)
  (kw: ∀b,b∈om.map (·.2)-> ∀o,vis s.heap b=Fv o->vis s'.heap b=Fv o) (kW: ∀b,W b-> ∀o,vis s.heap b=Fv o->vis s'.heap b=Fv o)
  (sup: ∀b o,ok b->vis s.heap b=Fv o->ok' b) (sub: ∀b,ok' b->ok b) (free:ce ok' s'.heap):FSt C Og A Oh ns s₀ Oi W ok' om ρ s' where
 a:=F.a
 e:=F.e
 x:=x
 h:=F.h
 y:=F.y
 f:=F.f.at λb hb o e=>kr b (hb.reads F.e) o e
 r:=F.r.at kr ko sup
 l:=F.l
 v:=λb hb=>by obtain⟨o,e⟩:=F.v b hb;exact⟨o,kr b hb o e⟩
 free:=free
 home:=λb hb=>⟨λh=>(F.home b hb).1 (sub b h),(F.home b hb).2⟩
 sub:=λb h=>F.sub b (sub b h)
 free₀:=F.free₀
 ow:=λp hp=>by obtain⟨x,pv,h1,h2,h3,V,O,h4,h5,h6⟩:=F.ow p hp;exact⟨x,pv,h1,h2,h3,V.at kr,O.frame (λb hb o e=>hb.elim (λhb=>ko b hb o e) λhb=>kw b (hb▸Gs (f:=(·.2)) hp) o e) sup,λh=>h4 (sub _ h),h5,h6⟩
 nd:=F.nd
 w:=λb hb=>by obtain⟨h1,h2,h3,e⟩:=F.w b hb;exact⟨λh=>h1 (sub b h),h2,h3,Fy e sz⟩
theorem FSt.ext (F:FSt C Og A Oh ns s₀ Oi W ok om ρ s) (x:Ext s s'):FSt C Og A Oh ns s₀ Oi W ok om ρ s':=
 F.move (F.x.trans x) x.size (λb _ o e=>x.keep b o e) (λb _ o e=>x.keep b o e) (λb _ o e=>x.keep b o e) (λb _ o e=>x.keep b o e) (λ_ _ h _=>h) (λ_ h=>h) (F.free.keep x.size)
theorem FSt.hk (F:FSt C Og A Oh ns s₀ Oi W ok om ρ s):HK C.H s.heap:=F.h.trans F.x.keep
theorem FSt.sys (F:FSt C Og A Oh ns s₀ Oi W ok om ρ s):Sys s.heap:=F.y.keep F.hk
theorem Ext.tr (x:Ext s s'):Tr W ok ok s s':=⟨λb o _ e=>x.keep b o e,λ_ _ h _=>h,x.gens,x.os⟩
theorem FSt.less (F:FSt C Og A Oh ns s₀ Oi W ok om ρ s) (x:Ext s s') (hL: ∀b∈L,s.heap.objs.size<=b) (Sz: ∀b∈L,b<s'.heap.objs.size):FSt C Og A Oh ns s₀ Oi W (okW ok L) om ρ s':=
 F.move (F.x.trans x) x.size (λb _ o e=>x.keep b o e) (λb _ o e=>x.keep b o e) (λb _ o e=>x.keep b o e) (λb _ o e=>x.keep b o e)
  (λb o h e=>⟨h,λq=>FV _ (Fy (aq e) (hL b q))⟩) (λ_ h=>h.1) λb hb=>⟨F.free b (Fx x.size hb),λq=>FV _ (Fy (Sz b q) hb)⟩
theorem kz (x:Ext s s') (hL: ∀b∈L,s.heap.objs.size<=b):Tr W ok (okW ok L) s s':=
 ⟨λb o _ e=>x.keep b o e,λb o h e=>⟨h,λq=>FV _ (Fy (aq e) (hL b q))⟩,x.gens,x.os⟩
theorem FSt.same (F:FSt C Og A Oh ns s₀ Oi W ok om ρ s) {L:Gb} (hs:Hw L s.heap h') (OD: ∀o,s.heap.get? L=Fv o->aK o) (h0:s₀.heap.objs.size<=L) (h1: ¬ok L) (h2: ¬bD Oh L) (h3:L∉om.map (·.2)) (h4: ¬W L):
  FSt C Og A Oh ns s₀ Oi W ok om ρ {s with heap:=h'}:=
 F.move ⟨λb o e=>az hs OD (λq=>FV _ (Fy (aq e) (q▸h0))) (F.x.keep b o e),by show _<=h'.objs.size;rw [hs.1];exact F.x.size,F.x.gens,F.x.os⟩ (FI hs.1.symm)
  (λb hb o e=>az hs OD (λq=>h2 (q▸hb)) e) (λb hb o e=>az hs OD (λq=>h1 (q▸hb)) e) (λb hb o e=>az hs OD (λq=>h3 (q▸hb)) e) (λb hb o e=>az hs OD (λq=>h4 (q▸hb)) e)
  (λ_ _ h _=>h) (λ_ h=>h) λb hb=>F.free b (by have:=hs.1;exact this▸hb)
theorem bQ: ∀{ms:List Nat} {ρ:Ρ} {i:Nat},i∉ms->Ρ.get (aB ρ ms) i=ρ.get i
 |[],ρ,i,_=>rfl
 |m::ms,ρ,i,h=>by rw [aB,bQ (λq=>h (FU _ q)),aF (λq=>h (by rw [q];exact FT))]
theorem FSt.good0 (F:FSt C Og A Oh ns s₀ Oi W ok om ρ s):dj C Og A Oh ns (aB ρ (om.map (·.1))) ok s:=
 ⟨F.a,F.e,F.hk,F.r,F.free,F.sys,by rw [eI];exact F.l,F.v⟩
theorem FSt.goodM (F:FSt C Og A Oh ns s₀ Oi W ok om ρ s) (ms:List Nat) (OX: ∀b,ok b->ok' b) (hms: ∀p∈om,p.1∉ms->ok' p.2):dj C Og A Oh ns (aB ρ ms) ok' s:=by
 refine⟨F.a,F.e,F.hk,λx pv hx hp=> ?_,λb hb=>OX b (F.free b hb),F.sys,by rw [eI];exact F.l,F.v⟩
 obtain⟨hm,hp⟩:=cw hp;by_cases hi:Og.idxOf x∈om.map (·.1)
 ·obtain⟨p,RX,SL⟩:=Ga.mp hi
  obtain⟨x',QE,h1,h2,h3,V,O,h4,h5,h6⟩:=F.ow p RX;haveI hxx:x=x':=by
   by_cases q:x=x'
   ·exact q
   ·exact absurd (SL.symm.trans h1.symm) (fj h2 q)
  subst hxx;rw [h1]at hp;rw [h3]at hp;cases hp;haveI Sh:=hms p RX (by rw [SL];exact hm)
  obtain⟨o,e⟩:=O.has;exact⟨.ref p.2,V,O.rep (beq_eq_false_iff_ne.mpr λq=>by obtain⟨⟨o1,e1⟩,_⟩:=F.y;have:=aq (F.h _ _ e1);rw [<-q]at this;exact FV _ (Fy this h6)) OX Sh⟩
 ·obtain⟨v,V,R⟩:=F.r x pv hx (by rw [bQ hi];exact hp)
  exact⟨v,V,R.wide OX⟩
theorem FSt.goodF (F:FSt C Og A Oh ns s₀ Oi W ok om ρ s):dj C Og A Oh ns ρ (okF ok om) s:=
 F.goodM [] (λb h=> .inl h) λp hp _=> .inr (Gs (f:=(·.2)) hp)
theorem uk (F:FSt C Og A Oh ns s₀ Oi W ok om ρ s) (h:okF ok om b):Oi b:=by
 rcases h with h|h
 ·exact F.sub b h
 ·obtain⟨p,hp,rfl⟩:=Ga.mp h
  obtain⟨_,_,_,_,_,_,_,_,_,h6⟩:=F.ow p hp;exact F.free₀ _ h6
end
variable {OL OE:Ρ}
theorem jS {xs:List Nat} {vs:List PV} (h1:a_ ρ₁ xs vs=Fv OL):a_ ρ₂ xs vs=Fv OE->ρ₁.length=ρ₂.length->(∀i,i∈xs->OL.get i=OE.get i)/\(∀i,ρ₁.get i=ρ₂.get i->OL.get i=OE.get i):=by
 refine dY (P:=λρ₁ xs vs OL=> ∀{ρ₂},a_ ρ₂ xs vs=Fv OE->ρ₁.length=ρ₂.length->(∀i,i∈xs->OL.get i=OE.get i)/\(∀i,ρ₁.get i=ρ₂.get i->OL.get i=OE.get i)) h1 (λρ ρ₂ h _=> ?_) λρ₁ x xs v vs OL _ ih ρ₂ h2 hl=> ?_
 ·cases h;exact⟨λi hi=>(nomatch hi),λi h=>h⟩
 ·obtain⟨a,b⟩:=ih h2 (by rw [J9,J9];exact hl)
  haveI same:Ρ.get (ρ₁.set x (Fv v)) x=Ρ.get (ρ₂.set x (Fv v)) x:=by
   unfold Ρ.get;rw [IX,IX];by_cases hx:x<ρ₁.length
   ·rw [Ge hx,Ge (hl▸hx)];rfl
   ·have hx:=Hc hx
    rw [Jd hx,Jd (hl▸hx)]
  have key: ∀i,(i≠x->ρ₁.get i=ρ₂.get i)->OL.get i=OE.get i:=λi hi=>by
   by_cases e:i=x
   ·rw [e];exact b x same
   ·exact b i (by rw [aF e,aF e];exact hi e)
  exact⟨λi hi=>(FS.mp hi).elim (λe=>key i λn=>absurd e n) (a i),λi hi=>key i λ_=>hi⟩
theorem tG {pt:PT} (h1:aT ρ₁ pt v=Fv OL):aT ρ₂ pt v=Fv OE->ρ₁.length=ρ₂.length->(∀i,i∈ptIdx pt->OL.get i=OE.get i)/\(∀i,ρ₁.get i=ρ₂.get i->OL.get i=OE.get i):=
 i0 h1 (λx h2 hl=>jS (xs:=[x]) (vs:=[v]) (ρ₁:=ρ₁) (ρ₂:=ρ₂) rfl h2 hl) λ_ _ h1 h2 hl=>jS h1 h2 hl
theorem qQ {xs:List Nat} {vs:List PV} (h1:a_ ρ₁ xs vs=Fv OL): ∃OE,a_ ρ₂ xs vs=Fv OE:=
 dY (P:=λ_ xs vs _=> ∀ρ₂,∃OE,a_ ρ₂ xs vs=Fv OE) h1 (λ_ ρ₂=>⟨ρ₂,rfl⟩) (λ_ _ _ _ _ _ _ ih ρ₂=>ih _) ρ₂
theorem tF {pt:PT} (h1:aT ρ₁ pt v=Fv OL): ∃OE,aT ρ₂ pt v=Fv OE:=i0 h1 (λ_=>⟨_,rfl⟩) λ_ _ h=>qQ h
section
theorem aQ (om:List (Nat×Gb)) (xs:List Nat):(om.filter λp=> !xs.contains p.1).map (·.1)=aI (om.map (·.1)) xs:=by
 unfold aI;rw [Le]
 rfl
theorem gI {xs:List Nat}:i∈aI own xs↔i∈own/\i∉xs:=by simp [aI]
theorem FSt.bind (F:FSt C Og A Oh ns s₀ Oi W ok om ρ s) {tgt:Expr} {pt:PT} {v:FR} (ht:sPT Og ns tgt=Fv pt) (hb:aT ρ pt pv=Fv ρ') (r:Rep C.prog C.w ok s.heap pv v):
  WP (FN C.prog C.w) A (Iq tgt Oh v) (λ_ s'=>FSt C Og A Oh ns s₀ Oi W ok (om.filter λp=> !(ptIdx pt).contains p.1) ρ' s'/\Tr W ok ok s s') s:=by
 obtain⟨ρ₂,SB⟩:=tF (ρ₂:=aB ρ (om.map (·.1))) hb
 refine(uG F.a.1 F.e F.f F.r (λb hb hh=>(F.home b hh).1 hb) (λb hb=>F.f.live hb) ht SB r).mono λ_ s' ⟨B,Oj⟩=> ?_;have QY:=tG hb SB (by rw [eI])
 haveI UC:ρ'.length=ρ.length:=nq hb;have kp: ∀b o,¬bg Oh ns b->vis s.heap b=Fv o->vis s'.heap b=Fv o:=B.keep;have Sy: ∀b,bg Oh ns b->bD Oh b:=λb hb=>hb.reads F.e;refine⟨⟨F.a,F.e, ?_,F.h,F.y,B.frame, ?_,by rw [UC];exact F.l,λb hb=> ?_,λb hb=>F.free b (Fx B.size hb),F.home,F.sub,F.free₀,λp hp=> ?_, ?_,λb hb=> ?_⟩,⟨λb o h e=>kp b o (λq=> ?_) e,λ_ _ h _=>h,λi g e=>by rw [B.gens];exact e,B.os⟩⟩
 ·exact⟨λb o e=>kp b o (λq=>FV _ (Fy (aq e) (F.home b q).2)) (F.x.keep b o e),Fx F.x.size B.size,λi g e=>by rw [B.gens];exact F.x.gens i g e,B.os.trans F.x.os⟩
 ·refine B.envr.less λi v hv=> ?_
  obtain⟨h1,h2⟩:=cw hv;rw [aQ]at h1;by_cases hi:i∈ptIdx pt
  ·rw [<-QY.1 i hi];exact h2
  ·haveI Rm:i∉om.map (·.1):=λq=>h1 (gI.mpr ⟨q,hi⟩)
   rw [<-QY.2 i (bQ Rm).symm];exact h2
 ·by_cases hh:bg Oh ns b
  ·exact B.frame.live hh
  ·obtain⟨o,e⟩:=F.v b hb;exact⟨o,kp b o hh e⟩
 ·obtain⟨hp,Qm⟩:=GR.mp hp
  obtain⟨x,QE,h1,h2,h3,V,O,h4,h5,h6⟩:=F.ow p hp;have Vg:p.1∉ptIdx pt:=by simpa using Qm
  refine⟨x,QE,h1,h2, ?_,B.vars x _ (by rw [h1];exact Vg) V,O.frame (λb hb o e=>kp b o (λq=> ?_) e) λ_ _ h _=>h,h4,h5,h6⟩
  ·exact jM hb Vg h3
  ·rcases hb with hb|hb
   ·exact(F.home b q).1 hb
   ·exact h5 (hb▸Sy b q)
 ·refine⟨?_, ?_⟩
  ·exact(F.nd.1).sublist (Ja _ IU)
  ·exact(F.nd.2).sublist (Ja _ IU)
 ·obtain⟨h1,h2,h3,e⟩:=F.w b hb
  exact⟨h1,h2,λq=>h3 (by obtain⟨p,hp,e'⟩:=Ga.mp q;exact e'▸Gs (f:=(·.2)) (GR.mp hp).1),Fy e B.size⟩
 ·rcases h with h|h
  ·exact(F.home b q).1 h
  ·exact(F.w b h).2.1 (Sy b q)
theorem rL (hd: ∀b,ok' b->ok b∨ ∃o,h.get? b=Fv o/\o.cls= .type "dict") (x:ok' a) (n: ∀o,h.get? a=Fv o->o.cls≠ .type "dict"):ok a:=(hd a x).elim id fun⟨o,e,c⟩=>absurd c (n o e)
mutual
theorem lV (hd: ∀b,ok' b->ok b∨ ∃o,h.get? b=Fv o/\o.cls= .type "dict"): ∀{x:PV} {v:FR},noDict x=FE->Rep C.prog C.w ok' h x v->Rep C.prog C.w ok h x v
 | .none,_,_,q=>q
 | .bool _,_,_,q=>q
 | .int _,_,_,q=>q
 | .str _,_,_,q=>q
 | .list xs,_,n,q=>by obtain⟨a,vs,e,o,s,l,r⟩:=q;exact⟨a,vs,e,rL hd o λob e1 e2=>l.elim λob' q=>absurd ((congrArg Obj.cls (FG (q.1.symm.trans e1))).symm.trans q.2.1|>.symm.trans e2) (by decide),s,l,gG hd n r⟩
 | .tuple xs,_,n,q=>by obtain⟨a,vs,e,o,s,l,r⟩:=q;exact⟨a,vs,e,rL hd o λob e1 e2=>l.elim λob' q=>absurd ((congrArg Obj.cls (FG (q.1.symm.trans e1))).symm.trans q.2.1|>.symm.trans e2) (by decide),s,l,gG hd n r⟩
 | .dictS _ _,_,n,_=>nomatch n
 | .range _ _,_,n,q=>by obtain⟨r,t,u,c,e,o,s,l⟩:=q;exact⟨r,t,u,c,e,rL hd o λob e1 e2=>absurd ((congrArg Obj.cls (FG (l.symm.trans e1))).trans e2) (show Value.type "range" ≠ .type "dict" by decide),s,l⟩
theorem gG (hd: ∀b,ok' b->ok b∨ ∃o,h.get? b=Fv o/\o.cls= .type "dict"): ∀{xs:List PV} {vs:List FR},gT xs=FE->av C.prog C.w ok' h xs vs->av C.prog C.w ok h xs vs
 |[],_,_,q=>q
 |x::xs,_,n,q=>by obtain⟨v,r,e,q,t⟩:=q;exact cT n λn1 n2=>⟨v,r,e,lV hd n1 q,gG hd n2 t⟩
end
theorem lE {x:PV} {v:FR} (hs:gr x=FE) (r:Rep C.prog C.w ok' h x v):Rep C.prog C.w ok h' x v:=by cases x<;>first|exact r|cases hs
theorem FSt.freeze (F:FSt C Og A Oh ns s₀ Oi W ok om ρ s):FSt C Og A Oh ns s₀ Oi W (okF ok om) [] ρ s where
 a:=F.a
 e:=F.e
 x:=F.x
 h:=F.h
 y:=F.y
 f:=F.f
 r:=F.goodF.r
 l:=F.l
 v:=F.v
 free:=λb hb=> .inl (F.free b hb)
 home:=λb hb=>⟨λh=>by
  rcases h with h|h
  ·exact(F.home b hb).1 h
  ·obtain⟨p,hp,rfl⟩:=Ga.mp h
   obtain⟨_,_,_,_,_,_,_,_,h5,_⟩:=F.ow p hp;exact h5 (hb.reads F.e),(F.home b hb).2⟩
 sub:=λb h=>uk F h
 free₀:=F.free₀
 ow:=λp hp=>by cases hp
 nd:=⟨HX,HX⟩
 w:=λb hb=>by obtain⟨h1,h2,h3,h4⟩:=F.w b hb;exact⟨λh=>h.elim h1 h3,h2,by simp,h4⟩
end
variable {line:Nat}
section
variable {W':Gb->Prop}
theorem FSt.setW (F:FSt C Og A Oh ns s₀ Oi W ok om ρ s) (h: ∀b,W' b-> ¬ok b/\ ¬bD Oh b/\b∉om.map (·.2)/\b<s.heap.objs.size):FSt C Og A Oh ns s₀ Oi W' ok om ρ s:=
 {F with w:=h}
theorem FSt.own_live (F:FSt C Og A Oh ns s₀ Oi W ok om ρ s) (hb:b∈om.map (·.2)):b<s.heap.objs.size:=by obtain⟨p,hp,rfl⟩:=Ga.mp hb;obtain⟨_,_,_,_,_,_,O,_⟩:=F.ow p hp;obtain⟨o,e⟩:=O.has;exact aq e
theorem FSt.reads_live (F:FSt C Og A Oh ns s₀ Oi W ok om ρ s) (hb:bD Oh b):b<s.heap.objs.size:=by obtain⟨o,e⟩:=F.v b hb;exact aq e
theorem FSt.w_live (F:FSt C Og A Oh ns s₀ Oi W ok om ρ s) (hb:W b):b<s.heap.objs.size:=by obtain⟨_,_,_,e⟩:=F.w b hb;exact e
theorem ur (F:FSt C Og A Oh ns s₀ Oi W ok om ρ s) (m:Nat): ∃PP:Gb->Prop,dj C Og A Oh ns (dG m ρ (om.map (·.1))) PP s/\
  ∀(s':FL) (X:List Gb) v u,Ext s s'->(∀b∈X,s.heap.objs.size<=b/\b<s'.heap.objs.size)->Rep C.prog C.w (okW PP X) s'.heap v u->mOk m v=FE->
   ∃ok' ON,FSt C Og A Oh ns s₀ Oi W ok' ON ρ s'/\Tr W ok ok' s s'/\ON.map (·.1)=bP m (om.map (·.1))/\(∀p∈ON,p∈om)/\(∀b∈X,¬ok' b)/\Rep C.prog C.w ok' s'.heap v u/\(m<=2->ON=om):=by
 have Td: ∀{s':FL} {X:List Gb} {v u},Ext s s'->(∀b∈X,s.heap.objs.size<=b/\b<s'.heap.objs.size)->Rep C.prog C.w (okW ok X) s'.heap v u->bP m (om.map (·.1))=om.map (·.1)->
   ∃ok' ON,FSt C Og A Oh ns s₀ Oi W ok' ON ρ s'/\Tr W ok ok' s s'/\ON.map (·.1)=bP m (om.map (·.1))/\(∀p∈ON,p∈om)/\(∀b∈X,¬ok' b)/\Rep C.prog C.w ok' s'.heap v u/\(m<=2->ON=om):=
  λ{s' X v u} x hX r hm=>⟨_,om,F.less x (λb hb=>(hX b hb).1) (λb hb=>(hX b hb).2),kz x λb hb=>(hX b hb).1,hm.symm,λ_ h=>h,λb hb h=>h.2 hb,r,λ_=>rfl⟩
 match m with
 |0=>exact⟨ok,F.good0,λs' X v u x hX r _=>Td x hX r rfl⟩
 |1=>
  refine⟨λb=>ok b∨ ∃p∈om,p.2=b/\p.1∉(om.map (·.1)).filter λi=> !((ρ.get i).elim Fz kC),F.goodM _ (λb h=> .inl h) λp hp hm=> .inr ⟨p,hp,rfl,hm⟩,λs' X v u x hX r hm=>Td x hX ?_ rfl⟩
  refine lV (ok:=okW ok X) (λb hb=> ?_) hm r;rcases hb.1 with h|⟨p,hp,rfl,hpm⟩
  ·exact .inl ⟨h,hb.2⟩
  ·refine .inr ?_
   obtain⟨x',pv,h1,h2,h3,V,O,_⟩:=(F.ext x).ow p hp;have hd:kC pv=FE:=by
    have: ¬(!((ρ.get p.1).elim Fz kC))=FE:=λq=>hpm (GR.mpr ⟨Gs (f:=(·.1)) hp,q⟩)
    rw [h3]at this;simpa using this
   revert hd;refine O.two (λ_ _ _ _ hd=>nomatch hd) λks us O hd=> ?_;obtain⟨_,_,vs,_,_,⟨_,o,es,ep,e,hc,_⟩,_⟩:=O;exact⟨o,e,hc.1⟩
 |2=>exact⟨okF ok om,F.goodF,λs' X v u x hX r hm=>Td x hX (lE hm r) rfl⟩
 |m+3=>
  refine⟨okF ok om,F.goodF,λs' X v u x hX r hm=> ?_⟩;haveI F':=F.freeze;exact⟨_,[],F'.less x (λb hb=>(hX b hb).1) (λb hb=>(hX b hb).2),⟨λb o h e=>x.keep b o e,λb o h e=>⟨.inl h,λq=>FV _ (Fy (aq e) (hX b q).1)⟩,x.gens,x.os⟩,
   (by unfold bP;rw [if_neg (by exact Hq (Lh _ (by decide)))];rfl),(λp hp=>absurd hp (by simp)),λb hb h=>h.2 hb,r,λh=>absurd h (by exact Hq (Lh _ (by decide)))⟩
theorem eP (h:mev Γ m pe ρ own=Fv v):pev Γ pe (dG m ρ own)=Fv v/\mOk m v=FE:=by unfold mev at h;simp only [FQ]at h;obtain⟨v',h1,h2⟩:=h;obtain⟨h3,rfl⟩:=ai h2;exact⟨h1,h3⟩
theorem jk (hE:aJ C Γ Og ns e pe) (F:FSt C Og A Oh ns s₀ Oi W ok om ρ s) (hp:mev Γ m pe ρ (om.map (·.1))=Fv v):
  WP (FN C.prog C.w) A (Hz e Oh) (λu s'=> ∃ok' ON,FSt C Og A Oh ns s₀ Oi W ok' ON ρ s'/\Tr W ok ok' s s'/\ON.map (·.1)=bP m (om.map (·.1))/\(∀p∈ON,p∈om)/\Rep C.prog C.w ok' s'.heap v u/\(m<=2->ON=om)) s:=by
 obtain⟨PP,G,hm⟩:=ur F m;obtain⟨h1,h2⟩:=eP hp;refine(hE A Oh _ PP s v G h1).mono λu s' ⟨x,r⟩=> ?_;obtain⟨ok',ON,a,b,c,d,_,e,f⟩:=hm s' [] v u x (λb hb=>by cases hb) (r.wide λb h=>⟨h,by simp⟩) h2
 exact⟨ok',ON,a,b,c,d,e,f⟩
noncomputable def fS:Expr->Bool
 | .ListComp .. =>FE
 | .SetComp .. =>FE
 | .DictComp .. =>FE
 |_=>Fz
theorem aW {t:Option Expr} (h:fS OF=Fz):MK OF t line Oh=pure Fz:=by cases OF<;>first|rfl|cases h
theorem mr:JM [t] OF line Oh=MK OF (Fv t) line Oh:=rfl
theorem cj:Ih [.Name x p] OF Oh=pure Fw:=by cases OF<;>rfl
noncomputable abbrev dO (C:Cx) (Og:List Gj) (A:HB) (Oh:Lk) (ns:ay) (s₀:FL) (Oi W ok:Gb->Prop) (s:FL) (o:Out):K4->FL->Prop:=λf s'=>match o with
 | .next ρ' Ot=>f= .next/\ ∃ok' ON,FSt C Og A Oh ns s₀ Oi W ok' ON ρ' s'/\Tr W ok ok' s s'/\ON.map (·.1)=Ot
 | .ret v=> ∃u,f= .ret u/\Ext s₀ s'/\Rep C.prog C.w Oi s'.heap v u
theorem u_ {px:HW} (hc:fS e=Fz) (hE:aJ C Γ Og ns e pe) (hx:b8 ns x=FE) (hm:x∈Og)
  (F:FSt C Og A Oh ns s₀ Oi W ok om ρ s) (hp:mev Γ m pe ρ (om.map (·.1))=Fv v):
  WP (FN C.prog C.w) A (K8 (.Assign [.Name x px] e pos) Oh) (dO C Og A Oh ns s₀ Oi W ok s (.next (ρ.set (Og.idxOf x) (Fv v)) (aI (bP m (om.map (·.1))) [Og.idxOf x]))) s:=by
 show WP _ A (do
  HM pos
  if<-JM [.Name x px] e pos.line Oh then do
   JZ e Oh λv=>MQ v ((HQ [.Name x px] Oh).map (·.2))
   pure .next
  else do
   let v<-Hz e Oh
   Kz Oh v (<-Ih [.Name x px] e Oh) ((HQ [.Name x px] Oh).map (·.2))) _ s
 refine WP.at ?_;refine FJ (Hx (a:=Fz) (mr.trans (aW hc)) ?_);simp only [Gy,if_false];refine WP.then (jk hE F hp) λu s₁ ⟨ok',ON,F₁,T₁,h1,h2,r,_⟩=> ?_;rw [cj];refine FJ (FK ?_);show WP _ A (Iq (.Name x px) Oh u>>=λ_=>(pure Flow.next:IH K4)) _ s₁
 haveI PJ:sPT Og ns (.Name x px)=Fv (.one (Og.idxOf x)):=oi hx hm;refine WP.then (F₁.bind PJ rfl r) λ_ s₂ ⟨F₂,T₂⟩=>FK ⟨rfl,ok',_,F₂,T₁.trans T₂, ?_⟩;rw [aQ,h1]
 rfl
end
section
theorem vN (GO:an C Γ) (h:sE C.gl Og n ns e=Fv pe) (hc:fS e=FE):fU C Γ Og ns e pe:=by
 cases n with
 |zero=>exact a9 h
 |succ n=>
  cases e with
  |ListComp=>exact wG GO (cK GO n) h
  |DictComp=>exact wH GO (cK GO n) h
  |SetComp=>exact a9 h
  |_=>exact nomatch hc
theorem sq {px:HW}: ∃b,MK e (Fv (.Name x px)) line Oh=pure b:=by cases e<;>exact⟨_,rfl⟩
theorem xm {px:HW} (hE:aJ C Γ Og ns e pe) (UP:fU C Γ Og ns e pe) (hx:b8 ns x=FE) (hm:x∈Og)
  (F:FSt C Og A Oh ns s₀ Oi W ok om ρ s) (hp:mev Γ m pe ρ (om.map (·.1))=Fv v):
  WP (FN C.prog C.w) A (K8 (.Assign [.Name x px] e pos) Oh) (dO C Og A Oh ns s₀ Oi W ok s (.next (ρ.set (Og.idxOf x) (Fv v)) (aI (bP m (om.map (·.1))) [Og.idxOf x]))) s:=by
 show WP _ A (do
  HM pos
  if<-JM [.Name x px] e pos.line Oh then do
   JZ e Oh λv=>MQ v ((HQ [.Name x px] Oh).map (·.2))
   pure .next
  else do
   let v<-Hz e Oh
   Kz Oh v (<-Ih [.Name x px] e Oh) ((HQ [.Name x px] Oh).map (·.2))) _ s
 refine WP.at ?_;obtain⟨b,hb⟩:=sq (e:=e) (x:=x) (px:=px) (line:=pos.line) (Oh:=Oh);have PJ:sPT Og ns (.Name x px)=Fv (.one (Og.idxOf x)):=oi hx hm;refine FJ (Hx (a:=b) (mr.trans hb) ?_);cases b with
 |false=>
  simp only [Gy,if_false];refine WP.then (jk hE F hp) λu s₁ ⟨ok',ON,F₁,T₁,h1,h2,r,_⟩=> ?_;rw [cj];refine FJ (FK ?_);show WP _ A (Iq (.Name x px) Oh u>>=λ_=>(pure Flow.next:IH K4)) _ s₁
  refine WP.then (F₁.bind PJ rfl r) λ_ s₂ ⟨F₂,T₂⟩=>FK ⟨rfl,ok',_,F₂,T₁.trans T₂, ?_⟩;rw [aQ,h1]
  rfl
 |true=>
  simp only [if_true];obtain⟨RF,_,h2,h3⟩:=UP;rw [h2];obtain⟨PP,G,UA⟩:=ur F m;obtain⟨RX,SL⟩:=eP hp;refine WP.then (Q₁:=λ_ s'=> ∃ok' ON,FSt C Og A Oh ns s₀ Oi W ok' ON (ρ.set (Og.idxOf x) (Fv v)) s'/\Tr W ok ok' s s'/\ON.map (·.1)=aI (bP m (om.map (·.1))) [Og.idxOf x]) ?_ λ_ s' ⟨a,b,c,d,e⟩=>FK ⟨rfl,a,b,c,d,e⟩
  refine WP.then (h3 A Oh _ PP s v G RX _ (λ_ s'=> ∃ok' ON,FSt C Og A Oh ns s₀ Oi W ok' ON (ρ.set (Og.idxOf x) (Fv v)) s'/\Tr W ok ok' s s'/\ON.map (·.1)=aI (bP m (om.map (·.1))) [Og.idxOf x]) ?_) λ_ s' h=>FK h
  intro D L s' x' hD hL hDL ⟨mm,hN⟩ r;have WY:L<s'.heap.objs.size:=by obtain⟨o,_,_,e,_⟩:=hN;exact Hv e
  obtain⟨ok',ON,F₁,T₁,W3,RY,WZ,r₁,_⟩:=UA s' [L] v (.ref D) x' (λb hb=>by rw [G4.mp hb];exact⟨hL,WY⟩) r SL
  have nL: ¬ok' L:=WZ L (HA _);have nR: ¬bD Oh L:=λq=>FV _ (Fy (F.reads_live q) hL);have nO:L∉ON.map (·.2):=λq=>by obtain⟨p,hp,e⟩:=Ga.mp q;exact FV _ (Fy (F.own_live (Gs (f:=(·.2)) (RY p hp))) (e▸hL))
  have nW: ¬W L:=λq=>FV _ (Fy (F.w_live q) hL);have F₂:FSt C Og A Oh ns s₀ Oi (λb=>W b∨b=L) ok' ON ρ s':=F₁.setW λb hb=>by
   rcases hb with hb|rfl
   ·exact F₁.w b hb
   ·obtain⟨o,_,_,e,_⟩:=hN
    exact⟨nL,nR,nO,Hv e⟩
  show WP _ A (Iq (.Name x px) Oh (.ref D)) _ s';refine(F₂.bind PJ rfl r₁).mono λ_ Oy ⟨F₃,T₃⟩=> ?_;have hN':Oy.heap.Ns L mm:=dH hN λo e=>T₃.keep L o (.inr (.inr rfl)) e;have OD:=lH hN';refine⟨mm,hN',λRv hs=>⟨ok',(ON.filter λp=> !(ptIdx (.one (Og.idxOf x))).contains p.1), ?_, ?_,(by rw [aQ,W3];rfl)⟩⟩
  ·have F₄:FSt C Og A Oh ns s₀ Oi W ok' (ON.filter λp=> !(ptIdx (.one (Og.idxOf x))).contains p.1) (ρ.set (Og.idxOf x) (Fv v)) Oy:=F₃.setW λb hb=>F₃.w b (.inl hb)
   refine F₄.same hs OD (Fx F.x.size hL) nL nR (λq=>nO ?_) nW;obtain⟨p,hp,e⟩:=Ga.mp q;exact e▸Gs (f:=(·.2)) (GR.mp hp).1
  ·refine T₁.trans ⟨λb o h e=> ?_,λb o h e=>T₃.sup b o h e,λi g e=>T₃.gens i g e,T₃.os⟩
   refine az hs OD (λq=> ?_) (T₃.keep b o (h.imp id λh=> .inl h) e);rcases h with h|h
   ·exact nL (q▸h)
   ·exact nW (q▸h)
end
theorem dT {f:α->β}: ∀{l:List α},(l.map f).Nodup-> ∀{p q:α},p∈l->q∈l->f p=f q->p=q
 |[],_,p,q,h,_,_=>by cases h
 |x::l,hn,p,q,hp,hq,e=>by
  have Q1:=H3.mp hn;rcases FS.mp hp with h1|h1<;>rcases FS.mp hq with h2|h2
  ·rw [h1,h2]
  ·exact absurd (by have:=Gs (f:=f) h2;rw [<-e,h1]at this;exact this) Q1.1
  ·exact absurd (by have:=Gs (f:=f) h1;rw [e,h2]at this;exact this) Q1.1
  ·exact dT Q1.2 h1 h2 e
section
theorem FSt.bindOwn (F:FSt C Og A Oh ns s₀ Oi W ok om ρ s) {px:HW} (hx:b8 ns x=FE) (hm:x∈Og) (hl:Og.idxOf x<ρ.length)
  (h1: ¬ok a) (h2: ¬bD Oh a) (h3:a∉om.map (·.2)) (h4: ¬W a) (h5:s₀.heap.objs.size<=a) (O:ew C ok s.heap pv a):
  WP (FN C.prog C.w) A (Iq (.Name x px) Oh (.ref a)) (λ_ s'=>FSt C Og A Oh ns s₀ Oi W ok ((Og.idxOf x,a)::om.filter λp=> ![Og.idxOf x].contains p.1) (ρ.set (Og.idxOf x) (Fv pv)) s'/\Tr W ok ok s s') s:=by
 refine lB F.e F.f hx λh' c tk hc hs OD hF hV Ru=> ?_;have Wd:bD Oh c:=hc.reads F.e;have kp: ∀b o,b≠c->vis s.heap b=Fv o->vis h' b=Fv o:=λb o hb e=>az hs OD (hb) e;have hca:a≠c:=λq=>h2 (q▸Wd);have OX: ∀b,ok b->b≠c:=λb hb q=>(F.home c hc).1 (q▸hb);have Qg: ∀p∈om,p.2≠c:=λp hp q=>by obtain⟨_,_,_,_,_,_,_,_,h,_⟩:=F.ow p hp;exact h (q▸Wd)
 have Vf: ∀b,bD Oh b-> ∃o,vis h' b=Fv o:=λb hb=>by
  by_cases q:b=c
  ·subst q
   exact hF.live hc
  ·obtain⟨o,e⟩:=F.v b hb;exact⟨o,kp b o q e⟩
 refine⟨⟨F.a,F.e, ?_,F.h,F.y,hF, ?_,by simpa using F.l,Vf,λb hb=>F.free b (by have:=hs.1;exact this▸hb),F.home,F.sub,F.free₀,λp hp=> ?_, ?_,λb hb=> ?_⟩,⟨λb o h e=>kp b o (λq=> ?_) e,λ_ _ h _=>h,λ_ _ e=>e,rfl⟩⟩
 ·refine⟨λb o e=>kp b o (λq=>FV _ (Fy (aq e) (q▸(F.home c hc).2))) (F.x.keep b o e),by show _<=h'.objs.size;rw [hs.1];exact F.x.size,F.x.gens,F.x.os⟩
 ·intro y p hy hp
  obtain⟨TM,hp⟩:=cw hp;simp only [Gf,FS,not_or,aQ]at TM;have R3:y≠x:=λq=>TM.1 (by rw [q])
  have Vg:Og.idxOf y∉om.map (·.1):=λq=>TM.2 (gI.mpr ⟨q,by simpa using TM.1⟩)
  rw [aF TM.1]at hp;obtain⟨v,V,R⟩:=F.r y p hy (by rw [bQ Vg];exact hp)
  exact⟨v,Ru y v R3 V,R.mono (λ_ h _=>h) λb hb o e=>kp b o (OX b hb) e⟩
 ·rcases FS.mp hp with rfl|hp
  ·refine⟨x,pv,rfl,hm, ?_,hV,O.frame (λb hb o e=>kp b o (hb.elim (OX b) λq=>q▸hca) e) (λ_ _ h _=>h),h1,h2,h5⟩
   show Ρ.get (ρ.set (Og.idxOf x) (Fv pv)) (Og.idxOf x)=Fv pv;unfold Ρ.get;rw [L0 hl]
   rfl
  ·obtain⟨hp,Qm⟩:=GR.mp hp
   have Qm:p.1≠Og.idxOf x:=by simpa using Qm
   obtain⟨y,QE,g1,g2,g3,V,O',g4,g5,g6⟩:=F.ow p hp;refine⟨y,QE,g1,g2,by rw [aF Qm];exact g3,Ru y _ (λq=>Qm (by rw [<-g1,q])) V,O'.frame (λb hb o e=>kp b o (hb.elim (OX b) λq=>q▸Qg p hp) e) (λ_ _ h _=>h),g4,g5,g6⟩
 ·refine⟨H3.mpr ⟨λq=> ?_,(F.nd.1).sublist (Ja _ IU)⟩,H3.mpr ⟨λq=> ?_,(F.nd.2).sublist (Ja _ IU)⟩⟩
  ·obtain⟨p,hp,e⟩:=Ga.mp q
   have:=(GR.mp hp).2;rw [e]at this;simp at this
  ·obtain⟨p,hp,e⟩:=Ga.mp q
   exact h3 (by have:=Gs (f:=(·.2)) (GR.mp hp).1;rw [e]at this;exact this)
 ·obtain⟨g1,g2,g3,e⟩:=F.w b hb
  refine⟨g1,g2,λq=> ?_,by show b<h'.objs.size;rw [hs.1];exact e⟩
  rcases FS.mp q with q|q
  ·exact h4 (by rw [<-show b=a from q];exact hb)
  ·obtain⟨p,hp,e'⟩:=Ga.mp q
   exact g3 (e'▸Gs (f:=(·.2)) (GR.mp hp).1)
 ·rcases h with h|h
  ·exact OX b h q
  ·exact(F.w b h).2.1 (q▸Wd)
theorem FSt.upOwn (F:FSt C Og A Oh ns s₀ Oi W ok om ρ s) (hp:(i,a)∈om) (hl:i<ρ.length) (hs:Hw a s.heap h') (O:ew C ok h' pv a):
  FSt C Og A Oh ns s₀ Oi W ok om (ρ.set i (Fv pv)) {s with heap:=h',toks:=tk}/\Tr W ok ok s {s with heap:=h',toks:=tk}:=by
 obtain⟨x,pv0,g1,g2,g3,V0,O0,g4,g5,g6⟩:=F.ow (i,a) hp;haveI OD:=O0.plain;have kp: ∀b o,b≠a->vis s.heap b=Fv o->vis h' b=Fv o:=λb o hb e=>az hs OD (hb) e;have OX: ∀b,ok b->b≠a:=λb hb q=>g4 (q▸hb);have Rl: ∀b,bD Oh b->b≠a:=λb hb q=>g5 (q▸hb);haveI P4: ∀p∈om,p≠(i,a)->p.1≠i/\p.2≠a:=λp h1 h2=>⟨λq=>h2 (dT F.nd.1 h1 hp q),λq=>h2 (dT F.nd.2 h1 hp q)⟩;refine⟨⟨F.a,F.e,⟨λb o e=>kp b o (λq=>FV _ (Fy (aq e) (q▸g6))) (F.x.keep b o e),by show _<=h'.objs.size;rw [hs.1];exact F.x.size,F.x.gens,F.x.os⟩,F.h,F.y,
  F.f.at λb hb o e=>kp b o (Rl b (hb.reads F.e)) e, ?_,by simpa using F.l,λb hb=>by obtain⟨o,e⟩:=F.v b hb;exact⟨o,kp b o (Rl b hb) e⟩,λb hb=>F.free b (by have:=hs.1;exact this▸hb),F.home,F.sub,F.free₀,λp h1=> ?_,F.nd,λb hb=> ?_⟩,
  ⟨λb o h e=>kp b o (λq=> ?_) e,λ_ _ h _=>h,λ_ _ e=>e,rfl⟩⟩
 ·refine(F.r.at (λb hb o e=>kp b o (Rl b hb) e) (λb hb o e=>kp b o (OX b hb) e) λ_ _ h _=>h).less λj v hj=> ?_
  obtain⟨h1,h2⟩:=cw hj;rw [bQ h1];rw [aF λq=>h1 (by rw [q];exact Gs (f:=(·.1)) hp)]at h2
  exact h2
 ·by_cases hpq:p=(i,a)
  ·subst hpq
   refine⟨x,pv,g1,g2, ?_,V0.at (λb hb o e=>kp b o (Rl b hb) e),O,g4,g5,g6⟩;show Ρ.get (ρ.set i (Fv pv)) i=Fv pv;unfold Ρ.get;rw [L0 hl]
   rfl
  ·obtain⟨n1,n2⟩:=P4 p h1 hpq
   obtain⟨y,QE,k1,k2,k3,V,O',k4,k5,k6⟩:=F.ow p h1;exact⟨y,QE,k1,k2,by rw [aF n1];exact k3,V.at (λb hb o e=>kp b o (Rl b hb) e),O'.frame (λb hb o e=>kp b o (hb.elim (OX b) λq=>q▸n2) e) (λ_ _ h _=>h),k4,k5,k6⟩
 ·obtain⟨k1,k2,k3,e⟩:=F.w b hb
  exact⟨k1,k2,k3,by show b<h'.objs.size;rw [hs.1];exact e⟩
 ·rcases h with h|h
  ·exact OX b h q
  ·exact(F.w b h).2.2.1 (q▸Gs (f:=(·.2)) hp)
end
variable {lp:HW}
section
theorem xD {px:HW} (F:FSt C Og A Oh ns s₀ Oi W ok om ρ s) (hE:ci C A Oh ok es rs s) (Oj:rs.length<=F_) (hx:b8 ns x=FE) (hm:x∈Og) (hl:Og.idxOf x<ρ.length):
  WP (FN C.prog C.w) A (K8 (.Assign [.Name x px] (.List es lp) pos) Oh) (dO C Og A Oh ns s₀ Oi W ok s (.next (ρ.set (Og.idxOf x) (Fv (.list rs))) (Og.idxOf x::aI (om.map (·.1)) [Og.idxOf x]))) s:=by
 show WP _ A (do
  HM pos
  if<-JM [.Name x px] (.List es lp) pos.line Oh then do
   JZ (.List es lp) Oh λv=>MQ v ((HQ [.Name x px] Oh).map (·.2))
   pure .next
  else do
   let v<-Hz (.List es lp) Oh
   Kz Oh v (<-Ih [.Name x px] (.List es lp) Oh) ((HQ [.Name x px] Oh).map (·.2))) _ s
 refine WP.at ?_;refine FJ (Hx (a:=Fz) (mr.trans (aW rfl)) ?_);simp only [Gy,if_false];refine WP.then (kG hE Oj F.sys) λv s₁ ⟨x₁,a,vs,hv,ha,l,q,hs⟩=> ?_;subst hv;rw [cj];refine FJ (FK ?_);show WP _ A (Iq (.Name x px) Oh (.ref a)>>=λ_=>(pure Flow.next:IH K4)) _ s₁
 haveI OH:a<s₁.heap.objs.size:=by obtain⟨n,e⟩:=l;exact Hv e
 have S5: ∀b,b<s.heap.objs.size->b≠a:=λb hb q=>FV _ (Fy hb (q▸ha));haveI F₁:=F.less x₁ (L:=[a]) (λb hb=>by rw [G4.mp hb];exact ha) (λb hb=>by rw [G4.mp hb];exact OH)
 haveI hB:=F₁.bindOwn (px:=px) (pv:= .list rs) (a:=a) hx hm hl (λh=>h.2 (HA _)) (λh=>S5 a (F.reads_live h) rfl) (λh=>S5 a (F.own_live h) rfl) (λh=>S5 a (F.w_live h) rfl) (Fx F.x.size ha)
  ⟨vs,l,q.mono (λb hb _=>⟨hb.1,by simpa using hb.2⟩) λ_ _ _ e=>e⟩
 refine WP.then hB λ_ s₂ ⟨F₂,T₂⟩=>FK ⟨rfl,_,_,F₂,(kz x₁ λb hb=>by rw [G4.mp hb];exact ha).trans T₂, ?_⟩
 rw [Gf,aQ]
theorem FSt.goodT (F:FSt C Og A Oh ns s₀ Oi W ok om ρ s) {b:Bool} (h:dQ C Γ Og ns e pe) (hp:bt Γ pe ρ=Fv b):
  WP (FN C.prog C.w) A (isTrue e Oh (Hz e Oh)) (λb' s'=>b'=b/\Ext s s') s:=by
 unfold bt at hp;simp only [FQ]at hp;obtain⟨v,hv,hb⟩:=hp;exact h A Oh ρ _ s v b F.goodF hv hb
theorem wl (hE:aJ C Γ Og ns e pe) (F:FSt C Og A Oh ns s₀ Oi W ok om ρ s) (hp:pev Γ pe ρ=Fv v):
  WP (FN C.prog C.w) A (K8 (.Return (Fv e) pos) Oh) (dO C Og A Oh ns s₀ Oi W ok s (.ret v)) s:=by
 rw [Kc];refine WP.at (WP.then (hE A Oh ρ _ s v F.goodF hp) λu s₁ ⟨x,r⟩=>FK ⟨u,rfl,F.x.trans x,r.wide λb h=>uk F h⟩)
theorem C2 {c:Expr} {a b:List Hs} {pa pb:List PS} {o:Out} (hc:dQ C Γ Og ns c pc) (F:FSt C Og A Oh ns s₀ Oi W ok om ρ s) {t:Bool} (ht:bt Γ pc ρ=Fv t)
  (Pl: ∀s',FSt C Og A Oh ns s₀ Oi W ok om ρ s'->WP (FN C.prog C.w) A (Iv (if t=FE then a else b) Oh) (dO C Og A Oh ns s₀ Oi W ok s' o) s'):
  WP (FN C.prog C.w) A (K8 (.If c a b pos) Oh) (dO C Og A Oh ns s₀ Oi W ok s o) s:=by
 show WP _ A (do
  HM pos
  if<-isTrue c Oh (Hz c Oh)then Iv a Oh else Iv b Oh) _ s
 refine WP.at (WP.then (F.goodT hc ht) λt' s₁ ⟨Vb,x⟩=> ?_);subst Vb;have h:=Pl s₁ (F.ext x);have fin: ∀f s',dO C Og A Oh ns s₀ Oi W ok s₁ o f s'->dO C Og A Oh ns s₀ Oi W ok s o f s':=λf s' h=>by
  cases o with
  |next ρ' Ot=>obtain⟨h1,ok',ON,h2,h3,h4⟩:=h;exact⟨h1,ok',ON,h2,x.tr.trans h3,h4⟩
  |ret v=>exact h
 cases t' with
 |true=>exact h.mono fin
 |false=>exact h.mono fin
theorem dO.seq {o:Out} {f:K4} (T:Tr W ok ok' s s') (h:dO C Og A Oh ns s₀ Oi W ok' s' o f Oy):dO C Og A Oh ns s₀ Oi W ok s o f Oy:=by
 cases o with
 |next ρ' Ot=>obtain⟨h1,R8,ON,h2,h3,h4⟩:=h;exact⟨h1,R8,ON,h2,T.trans h3,h4⟩
 |ret v=>exact h
end
variable {id:String} {xp ap cp:HW}
section
theorem FSt.find (F:FSt C Og A Oh ns s₀ Oi W ok om ρ s) (hm:x∈Og) (h:(om.map (·.1)).contains (Og.idxOf x)=FE) (hg:ρ.get (Og.idxOf x)=Fv pv):
  ∃a,(Og.idxOf x,a)∈om/\aV s.heap Oh x (.ref a)/\ew C ok s.heap pv a/\ ¬ok a:=by
 have h':Og.idxOf x∈om.map (·.1):=by simpa using h
 obtain⟨p,hp,e⟩:=Ga.mp h';obtain⟨y,QE,g1,g2,g3,V,O,g4,_⟩:=F.ow p hp;have R3:y=x:=by
  by_cases q:y=x
  ·exact q
  ·exact absurd (g1.trans e) (fj hm q)
 subst R3;have e':p.1=Og.idxOf y:=e;rw [e',hg]at g3;cases g3;exact⟨p.2,by rw [<-e'];exact hp,V,O,g4⟩
theorem n6 {m:Gj} {Q:K4->FL->Prop} {items:Array FR} (F:FSt C Og A Oh ns s₀ Oi W ok om ρ s) (hx:aC x=FE)
  (V:aV s.heap Oh x (.ref a)) (hl:s.heap.PlainList a items) (R4:Slot "list" m id) (TF:typeOf (.builtin id)=pure (.type "method_descriptor")) (RA:few args=FE) (OQ:(ap.endLine==cp.line)=FE)
  (OC:(Jv args Oh).all (λa=> !a.1)=FE)
  (h: ∀pos,WP (FN C.prog C.w) A (Mw (MP pos (Jv args Oh))) (λvs s'=>WP (FN C.prog C.w) A (Jj (.builtin id) (.ref a::vs)) (λv Oy=>v= .none/\Q .next Oy) s') s):
  WP (FN C.prog C.w) A (K8 (.Expr (.Call (.Attribute (.Name x xp) m ap) args [] cp) pos) Oh) Q s:=by
 show WP _ A (do
  HM pos
  if Jb Oh then printExpr (Hz (.Call (.Attribute (.Name x xp) m ap) args [] cp) Oh)
  else if<-MK (.Call (.Attribute (.Name x xp) m ap) args [] cp) Fw pos.line Oh then do JZ (.Call (.Attribute (.Name x xp) m ap) args [] cp) Oh λ_=>point;pure .next
  else do dropValue (.Call (.Attribute (.Name x xp) m ap) args [] cp) pos (<-Hz (.Call (.Attribute (.Name x xp) m ap) args [] cp) Oh)) Q s
 haveI hi:Jb Oh=Fz:=by unfold Jb;rw [F.e.kind];rfl
 rw [hi];refine WP.at ?_;simp only [Gy,if_false];refine FJ (Hx (a:=Fz) (aW rfl) ?_);simp only [Gy,if_false];haveI Qu:args.length<=10:=by simpa [few]using RA
 refine WP.then (Q₁:=λv Oy=>v= .none/\Q .next Oy) ?_ λv Oy ⟨hv,hq⟩=>by subst hv;exact FK hq
 refine J5 rfl ?_ OQ (im F.e hx V ?_)
 ·rw [bY,OC]
  exact decide_eq_true (FF Qu (by decide):args.length<30)
 ·obtain⟨n,e⟩:=hl
  refine⟨"list",id,PySem.F.plainAttrs_list,R4,TF,⟨_,e,rfl⟩,λb hb=>⟨_,by cases hb;exact e,rfl⟩, ?_⟩
  refine bk (λb e=>by cases e) (by rw [fG];exact fY OC) ?_
  exact bB (by rw [bY];exact OC) ((h cp).mono λvs s₁ h₁=>h₁)
theorem CK (hx:aC x=FE) (hm:x∈Og) (hl:Og.idxOf x<ρ.length) (OQ:(ap.endLine==cp.line)=FE)
  (hE:EvS C Γ Og ns e pe) (F:FSt C Og A Oh ns s₀ Oi W ok om ρ s) (hg:ρ.get (Og.idxOf x)=Fv (.list xs)) (hp:mev Γ m pe ρ (om.map (·.1))=Fv v)
  (hc:(om.map (·.1)).contains (Og.idxOf x)=FE) (TL:m<=2) (Oj:xs.length<F_):
  WP (FN C.prog C.w) A (K8 (.Expr (.Call (.Attribute (.Name x xp) "append" ap) [e] [] cp) pos) Oh) (dO C Og A Oh ns s₀ Oi W ok s (.next (ρ.set (Og.idxOf x) (Fv (.list (xs++[v])))) (om.map (·.1)))) s:=by
 obtain⟨a,ha,V,⟨vs,l,q⟩,TK⟩:=F.find hm hc hg;refine n6 F hx V l PySem.F.slot_list_append PySem.F.type_list_append rfl OQ ?_ λU7=> ?_
 ·rw [ba (bC hE.2)];rfl
 ·rw [ba (bC hE.2)]
  refine Mv ((jk hE.1 F hp).mono λu s₁ ⟨ok',ON,F₁,T₁,h1,h2,r,h3⟩=> ?_);haveI Qg:=h3 TL;subst Qg;refine LK ?_;obtain⟨a',PW,V',⟨OU,l',q'⟩,Rz⟩:=F₁.find hm hc hg;haveI T_:(Og.idxOf x,a')=(Og.idxOf x,a):=dT (f:=(·.1)) F.nd.1 PW ha rfl
  cases T_;haveI OR:OU.toArray.size<=F_:=by rw [Gn,q'.length];exact Gm Oj
  refine wpAny_list_append_plain l' (λh' Px hs=>⟨rfl, ?_⟩) OR;haveI OD:=iU l';have kp: ∀b,ok' b-> ∀o,vis s₁.heap b=Fv o->vis h' b=Fv o:=λb hb o e=>az hs OD (λz=>Rz (z▸hb)) e;obtain⟨F₂,T₂⟩:=F₁.upOwn (tk:=s₁.toks) PW hl hs (pv:= .list (xs++[v])) ⟨OU++[u],by simpa using Px,(q'.mono (λ_ h _=>h) kp).snoc (r.mono (λ_ h _=>h) kp)⟩
  exact⟨rfl,ok',ON,F₂,T₁.trans T₂,rfl⟩
theorem BC (hx:aC x=FE) (hm:x∈Og) (hl:Og.idxOf x<ρ.length) (OQ:(ap.endLine==cp.line)=FE)
  (F:FSt C Og A Oh ns s₀ Oi W ok om ρ s) (hg:ρ.get (Og.idxOf x)=Fv (.list xs)) (hc:(om.map (·.1)).contains (Og.idxOf x)=FE) (Oj:xs.length<=F_):
  WP (FN C.prog C.w) A (K8 (.Expr (.Call (.Attribute (.Name x xp) "reverse" ap) [] [] cp) pos) Oh) (dO C Og A Oh ns s₀ Oi W ok s (.next (ρ.set (Og.idxOf x) (Fv (.list xs.reverse))) (om.map (·.1)))) s:=by
 obtain⟨a,ha,V,⟨vs,l,q⟩,TK⟩:=F.find hm hc hg;refine n6 F hx V l Ml PySem.F.type_list_reverse rfl OQ rfl λU7=>LK ?_;obtain⟨n,e⟩:=l;refine KI Ml ⟨_,e,rfl⟩ PySem.F.entry_list_reverse (PySem.F.args_list_reverse_1 _) (PySem.AutoListH.list_reverse_list_0 a vs.toArray n (by rw [Gn,q.length];exact Oj)) ⟨e, ?_⟩
 have hs:Hw a s.heap (s.heap.update a (HY λx=>x.reverse)):=JX ..
 haveI Px:(s.heap.update a (HY λx=>x.reverse)).PlainList a vs.reverse.toArray:=by
  haveI h1:=K0 (HY λx=>x.reverse) e rfl;obtain⟨n',h2⟩: ∃n',HY (λx=>x.reverse) {cls:= .type "list",data:= .seq vs.toArray n}={cls:= .type "list",data:= .seq vs.reverse.toArray n'}:=by simp only [HY,List.reverse_toArray];exact⟨_,rfl⟩
  exact⟨n',h1.trans (congrArg Fv h2)⟩
 haveI OD: ∀o,s.heap.get? a=Fv o->aK o:=iU ⟨n,e⟩;haveI kp: ∀b,ok b-> ∀o,vis s.heap b=Fv o->vis (s.heap.update a (HY λx=>x.reverse)) b=Fv o:=λb hb o e=>az hs OD (λz=>TK (z▸hb)) e;obtain⟨F₂,T₂⟩:=F.upOwn (tk:=s.toks) ha hl hs (pv:= .list xs.reverse) ⟨vs.reverse,Px,(by
  have q':=q.mono (ok':=ok) (λ_ h _=>h) kp;refine kt (by simp [q'.length]) λi x v hx hv=> ?_
  have hi:i<xs.length:=by have:=(Kw.mp hx).1;simpa using this
  rw [Li hi]at hx;rw [Li (by rw [q'.length];exact hi),q'.length]at hv
  obtain⟨v',e1,r⟩:=q'.get hx;rw [e1]at hv;cases hv;exact r)⟩
 exact⟨rfl,rfl,ok,om,F₂,T₂,rfl⟩
end
section
theorem qo {v:FR} (E:cu Oh ns) (hx:aC x=FE) (V:aV s.heap Oh x v) (h:Q v s):
  WP (FN C.prog C.w) A (loadName Oh x) Q s:=by
 cases V with
 |loc m k n e=>exact wpAny_loadName_local E.kind k n e h
 |cel c k l e=>
  rcases k with k|k
  ·exact wpAny_loadName_cell E.kind k l e h
  ·exact wpAny_loadName_free E.kind k l e h (dg hx).2
theorem jp (E:cu Oh ns) (hx:b8 ns x=FE):fC (Oh.kindOf x)=1/\aC x=FE:=by simp only [b8,GH,JD,beq_iff_eq]at hx;refine⟨(E.cls x).trans ?_,hx.2⟩;rcases hx.1 with h|h<;>rw [h]<;>rfl
theorem th {a b:PV} (ho:tS op a b=FE) (hp:dN op a b=Fv c) (ra:Rep C.prog C.w PP s.heap a va) (rb:Rep C.prog C.w PP s.heap b vb):
  WP (FN C.prog C.w) A (inplaceOp op va vb) (λv s'=>(∃k,s'={s with toks:=k})/\Rep C.prog C.w ok s'.heap c v) s:=by
 cases a with
 |int a=>
  cases b with
  |int b=>
   obtain⟨t,rfl⟩:=ra;obtain⟨u,rfl⟩:=rb;cases op with
   |Add=>cases hp;exact iadd_int ⟨⟨_,rfl⟩,_,rfl⟩
   |Sub=>cases hp;exact PyProof.Rows.isub_int ⟨⟨_,rfl⟩,_,rfl⟩
   |Mult=>obtain⟨h1,rfl⟩:=ai hp;exact PyProof.Rows.imul_int (hm:=h1) ⟨⟨_,rfl⟩,_,rfl⟩
   |LShift=>obtain⟨h1,rfl⟩:=ai hp;exact ilshift_int h1.1 h1.2 ⟨⟨_,rfl⟩,_,rfl⟩
   |RShift=>obtain⟨h1,rfl⟩:=ai hp;exact irshift_int h1 ⟨⟨_,rfl⟩,_,rfl⟩
   |_=>exact absurd ho HT
  |_=>exact absurd ho HT
 |_=>exact absurd ho HT
theorem FSt.toks (F:FSt C Og A Oh ns s₀ Oi W ok om ρ s) (k:Nat):FSt C Og A Oh ns s₀ Oi W ok om ρ {s with toks:=k}:=F.ext (.toks s k)
theorem ku {px:HW} (hx:b8 ns x=FE) (hm:x∈Og):sPT Og ns (.Name x px)=Fv (.one (Og.idxOf x)):=oi hx hm
theorem FSt.read (F:FSt C Og A Oh ns s₀ Oi W ok om ρ s) (hx:fC (Oh.kindOf x)=1) (h:ρ.get (Og.idxOf x)=Fv pv):
  ∃v,aV s.heap Oh x v/\Rep C.prog C.w (okF ok om) s.heap pv v:=F.goodF.r x pv hx h
theorem CI {px:HW} {a b:PV} (hE:aJ C Γ Og ns e pe) (hx:b8 ns x=FE) (hm:x∈Og)
  (F:FSt C Og A Oh ns s₀ Oi W ok om ρ s) (ha:ρ.get (Og.idxOf x)=Fv a) (hb:mev Γ m pe ρ (om.map (·.1))=Fv b) (hc:dN op a b=Fv c) (QF:tS op a b=FE) (TL:m<=2):
  WP (FN C.prog C.w) A (K8 (.AugAssign (.Name x px) op e pos) Oh) (dO C Og A Oh ns s₀ Oi W ok s (.next (ρ.set (Og.idxOf x) (Fv c)) (aI (om.map (·.1)) [Og.idxOf x]))) s:=by
 obtain⟨hk,PU⟩:=jp F.e hx;obtain⟨va,V,ra⟩:=F.read hk ha;haveI hsa:gr a=FE:=by
  cases a with
  |int=>rfl
  |_=>exact absurd QF HT
 rw [arm_exec_AugAssign];refine WP.at (WP.then (qo (Q:=λv s'=>v=va/\s'=s) F.e PU V ⟨rfl,rfl⟩) λv s' ⟨h1,h2⟩=> ?_);subst h1 h2;refine WP.then (WP.hold (jk hE F hb)) λu s₁ ⟨ok',ON,F₁,T₁,h1,h2,r,h3⟩=>WP.at ?_;haveI Qg:=h3 TL;subst Qg;refine WP.then (WP.oper (th (ok:=ok') (PP:=ok') QF hc (lE hsa ra) r)) λv s₂ ⟨⟨k,hs₂⟩,rc⟩=> ?_;subst hs₂;haveI hB:=(F₁.toks k).bind (tgt:= .Name x px) (ρ':=ρ.set (Og.idxOf x) (Fv c)) (ku hx hm) rfl rc;haveI e:(do HM px;KJ Oh x v;pure Flow.next)=(Iq (.Name x px) Oh v>>=λ_=>(pure Flow.next:IH K4)):=by
  show _=((do HM px;KJ Oh x v)>>=λ_=>(pure Flow.next:IH K4))
  rw [bind_assoc]
 refine WP.eq e (WP.then hB λ_ s₃ ⟨F₃,T₃⟩=>FK ⟨rfl,ok',_,F₃,T₁.trans ((Ext.toks s₁ k).tr.trans T₃), ?_⟩);rw [aQ]
 rfl
end
section
variable {M:MD}
theorem qY {a b:FR} {T idi:String} (ha:s.TypeIs a T) (hb:s.TypeIs b T)
  (Vl:MO (.type T) "add" FE=pure Fz) (UJ:fillsNumberSlot (.type T) "add" =pure Fz) (hsi:seqSlot? (.type T) (dunderI "add")=pure (Fv (.builtin idi)))
  (hc:WP M A (Jj (.builtin idi) [a,b]) Q s):WP M A (inplaceOp .Add a b) Q s:=by
 unfold inplaceOp;refine IG ?_;refine FJ (wpAny_typeOf ha (FJ (Hx Vl ?_)));show Ig M A (if Fz=FE then _ else _) Q _ s;rw [if_neg HT];refine FJ (wpAny_binaryOp1_none (nm:= "add") ha hb UJ ?_);refine FJ (Hx hsi ?_);exact FJ (Lq hc)
end
theorem zZ:MO (.type "list") "add" FE=pure Fz:=by
 unfold MO;show(M6 (.type "list") (dunderI "add")>>=λfi=>pure (fi.isSome&& !isSeqSlot fi))=pure Fz;rw [KL.lookup];show(pure _:IH Bool)=pure Fz
 congr 1
theorem zc:seqSlot? (.type "list") (dunderI "add")=pure (Fv (.builtin "list.__iadd__")):=PySem.seqSlot_of KL.lookup (by decide+kernel)
section
theorem FSt.drop (F:FSt C Og A Oh ns s₀ Oi W ok om ρ s) (i:Nat):FSt C Og A Oh ns s₀ Oi W ok (om.filter λp=> ![i].contains p.1) (ρ.set i Fw) s where
 a:=F.a
 e:=F.e
 x:=F.x
 h:=F.h
 y:=F.y
 f:=F.f
 r:=F.r.less λj v hj=>by
  obtain⟨h1,h2⟩:=cw hj;rw [aQ]at h1;by_cases e:j=i
  ·subst e
   unfold Ρ.get at h2;rw [IX]at h2;cases q:ρ[j]? with
   |none=>rw [q]at h2;cases h2
   |some z=>rw [q]at h2;cases h2
  ·rw [aF e]at h2
   rw [bQ λq=>h1 (gI.mpr ⟨q,by simpa using e⟩)]
   exact h2
 l:=by simpa using F.l
 v:=F.v
 free:=F.free
 home:=F.home
 sub:=F.sub
 free₀:=F.free₀
 ow:=λp hp=>by
  obtain⟨hp,Qm⟩:=GR.mp hp;have Qm:p.1≠i:=by simpa using Qm
  obtain⟨y,QE,g1,g2,g3,V,O',g4,g5,g6⟩:=F.ow p hp;exact⟨y,QE,g1,g2,by rw [aF Qm];exact g3,V,O',g4,g5,g6⟩
 nd:=⟨F.nd.1.sublist (Ja _ IU),F.nd.2.sublist (Ja _ IU)⟩
 w:=λb hb=>by obtain⟨g1,g2,g3,e⟩:=F.w b hb;refine⟨g1,g2,λq=>g3 ?_,e⟩;obtain⟨p,hp,e⟩:=Ga.mp q;exact e▸Gs (f:=(·.2)) (GR.mp hp).1
theorem gj {xs ys:List Nat}:aI (aI own xs) ys=aI own (xs++ys):=by unfold aI;rw [List.filter_filter];refine LQ λi _=> ?_;simp [Bool.and_comm]
theorem Au {px:HW} (hE: ∀s',FSt C Og A Oh ns s₀ Oi W ok om ρ s'->ci C A Oh ok es ys s') (hx:b8 ns x=FE) (hm:x∈Og) (hl:Og.idxOf x<ρ.length)
  (F:FSt C Og A Oh ns s₀ Oi W ok om ρ s) (hg:ρ.get (Og.idxOf x)=Fv (.list xs)) (hc:(om.map (·.1)).contains (Og.idxOf x)=FE) (Oj:xs.length+ys.length<=F_):
  WP (FN C.prog C.w) A (K8 (.AugAssign (.Name x px) .Add (.List es lp) pos) Oh) (dO C Og A Oh ns s₀ Oi W ok s (.next (ρ.set (Og.idxOf x) (Fv (.list (xs++ys)))) (Og.idxOf x::aI (om.map (·.1)) [Og.idxOf x]))) s:=by
 obtain⟨hk,PU⟩:=jp F.e hx;obtain⟨a,ha,V,⟨vs,l,q⟩,TK⟩:=F.find hm hc hg;rw [arm_exec_AugAssign];refine WP.at (WP.then (qo (Q:=λv s'=>v= .ref a/\s'=s) F.e PU V ⟨rfl,rfl⟩) λv s' ⟨h1,h2⟩=> ?_);subst h1 h2;refine WP.then (WP.hold (kG (hE _ F) (by exact NE Oj) F.sys)) λu s₁ ⟨x₁,b,us,hu,hb,lb,qb,R5⟩=>WP.at ?_
 subst hu;have F₁:=F.ext x₁;obtain⟨a',PW,V',⟨OU,l',q'⟩,Rz⟩:=F₁.find hm hc hg;haveI T_:(Og.idxOf x,a')=(Og.idxOf x,a):=dT (f:=(·.1)) F.nd.1 PW ha rfl
 cases T_;obtain⟨n,e⟩:=id l';obtain⟨n2,e2⟩:=id lb;haveI Pl:a≠b:=λz=>FV _ (Fy (F.own_live (Gs (f:=(·.2)) PW)) (z▸hb))
 have Uc:OU.toArray.size=xs.length:=by rw [Gn,q'.length]
 haveI Ww:us.toArray.size=ys.length:=by rw [Gn,qb.length]
 have hs:Hw a s₁.heap (s₁.heap.update a (HY λx=>x++us.toArray)):=JX ..
 haveI Px:(s₁.heap.update a (HY λx=>x++us.toArray)).PlainList a (OU++us).toArray:=by
  haveI h1:=K0 (HY λx=>x++us.toArray) e rfl;obtain⟨n',h2⟩: ∃n',HY (λx=>x++us.toArray) {cls:= .type "list",data:= .seq OU.toArray n}={cls:= .type "list",data:= .seq (OU++us).toArray n'}:=by simp only [HY,List.append_toArray];exact⟨_,rfl⟩
  exact⟨n',h1.trans (congrArg Fv h2)⟩
 haveI OD:=iU l';have kp: ∀c,ok c-> ∀o,vis s₁.heap c=Fv o->vis (s₁.heap.update a (HY λx=>x++us.toArray)) c=Fv o:=λc hc o e=>az hs OD (λz=>TK (z▸hc)) e;refine WP.then (Q₁:=λv s₂=>v= .ref a/\s₂={s₁ with heap:=s₁.heap.update a (HY λx=>x++us.toArray),toks:=s₁.toks}) (WP.oper (qY (T:= "list") ⟨_,e,rfl⟩ ⟨_,e2,rfl⟩ zZ noFill_list_add zc ?_)) λv s₂ ⟨hv,hs₂⟩=> ?_
 ·refine KI KL ⟨_,e,rfl⟩ PySem.F.entry_list_iadd (PySem.F.args_list_iadd_2 _ _) (PySem.AutoSeq1.list___iadd___list_list_0 a OU.toArray n b us.toArray n2 ?_ (by exact Fx (FI Uc) (GF Oj)) (by lia)) ⟨e,e2,rfl,rfl⟩
  unfold LU;simp [Uc,Ww];intro _;exact Oj
 ·subst hv hs₂
  obtain⟨F₂,T₂⟩:=F₁.upOwn (tk:=s₁.toks) PW hl hs (pv:= .list (xs++ys)) ⟨OU++us,Px,(q'.mono (λ_ h _=>h) kp).append (qb.mono (λc h _=>h.1) λc h o e=>kp c h.1 o e)⟩;obtain⟨_,_,_,V₂,O₂,n₁,n₂,n₃⟩: ∃(_:True) (_:True) (_:True),aV (s₁.heap.update a (HY λx=>x++us.toArray)) Oh x (.ref a)/\ew C ok (s₁.heap.update a (HY λx=>x++us.toArray)) (.list (xs++ys)) a/\ ¬ok a/\ ¬bD Oh a/\s₀.heap.objs.size<=a:=by
   obtain⟨y,QE,g1,g2,g3,V,O',g4,g5,g6⟩:=F₂.ow _ PW;haveI R3:y=x:=by
    by_cases q:y=x
    ·exact q
    ·exact absurd g1 (fj hm q)
   subst R3;haveI:QE= .list (xs++ys):=by unfold Ρ.get at g3;rw [L0 hl]at g3;cases g3;rfl
   subst this;exact⟨trivial,trivial,trivial,V,O',g4,g5,g6⟩
  haveI F₃:=F₂.drop (Og.idxOf x);have e:(do HM px;KJ Oh x (.ref a);pure Flow.next)=(Iq (.Name x px) Oh (.ref a)>>=λ_=>(pure Flow.next:IH K4)):=by
   show _=((do HM px;KJ Oh x (.ref a))>>=λ_=>(pure Flow.next:IH K4))
   rw [bind_assoc]
  haveI hnm:a∉(om.filter λp=> ![Og.idxOf x].contains p.1).map (·.2):=λq=>by
   obtain⟨p,hp,e⟩:=Ga.mp q;obtain⟨hp,Qm⟩:=GR.mp hp;have:=dT (f:=(·.2)) F.nd.2 hp PW e
   rw [this]at Qm;simp at Qm
  have hB:=F₃.bindOwn (px:=px) (pv:= .list (xs++ys)) (a:=a) hx hm (by simpa using hl) n₁ n₂ hnm (λh=>(F₂.w a h).2.2.1 (Gs (f:=(·.2)) PW)) n₃ O₂
  rw [List.set_set,List.set_set]at hB;refine WP.eq e (WP.then hB λ_ s₃ ⟨F₄,T₄⟩=>FK ⟨rfl,ok,_,F₄,x₁.tr.trans (T₂.trans T₄), ?_⟩);rw [Gf,aQ,aQ,gj]
  congr 1
  unfold aI;refine LQ λi _=> ?_;simp
end
theorem sJ [DecidableEq K] {k:K} {ks:List K}: ∀{us:List PV},ks.Nodup->ks.length=us.length->(putK k u ks us).1.Nodup/\ ∀z∈(putK k u ks us).1,z∈ks∨z=k:=by
 induction ks with
 |nil=>exact λ_ _=>⟨H3.mpr ⟨HU,MJ⟩,λz hz=> .inr (G4.mp hz)⟩
 |cons k' ks ih=>
  intro us hn hl;cases us with
  |nil=>exact nomatch hl
  |cons v' us=>
   show(if k'=k then(k'::ks,u::us)else(k'::(putK k u ks us).1,v'::(putK k u ks us).2)).1.Nodup/\ ∀z∈(if k'=k then(k'::ks,u::us)else(k'::(putK k u ks us).1,v'::(putK k u ks us).2)).1,_;by_cases e:k'=k
   ·rw [if_pos e];exact⟨hn,λz hz=> .inl hz⟩
   ·rw [if_neg e]
    obtain⟨a,b⟩:=ih (H3.mp hn).2 (II hl);exact⟨H3.mpr ⟨λq=>(b _ q).elim (H3.mp hn).1 e,a⟩,λz hz=>(FS.mp hz).elim (λh=> .inl (h▸FT)) λh=>(b z h).imp (FU _) id⟩
variable {P3:List Gj}
theorem vA: ∀{Pe:List PV} {SH:List FR} {ks:List Gj} {us:List PV} {vs:List FR},
  P3.length=SH.length->av C.prog C.w ok h Pe SH->ks.Nodup->ks.length=vs.length->av C.prog C.w ok h us vs->
  ∃OU,merged (ks.zip vs) (P3.zip SH)=(dF ks us P3 Pe).1.zip OU/\(dF ks us P3 Pe).1.length=OU.length/\av C.prog C.w ok h (dF ks us P3 Pe).2 OU:=by
 induction P3 with
 |nil=>exact λhl q hn Px q'=>⟨_,rfl,Px,q'⟩
 |cons k P3 ih=>
  intro Pe SH ks us vs hl q hn Px q';cases Pe with
  |nil=>cases (show SH=[]from q);exact nomatch hl
  |cons u Pe=>
   obtain⟨w,SH,rfl,ru,q⟩:=q;obtain⟨Ut,e1,e2,e3⟩:=uf ru (k:=k) hn Px q';obtain⟨OU,f1,f2,f3⟩:=ih (II hl) q (sJ hn (Px.trans q'.length)).1 e2 e3;refine⟨OU, ?_,f2,f3⟩;show merged (ML (ks.zip vs) k w) (P3.zip SH)=_;rw [e1,f1];rfl
section
theorem asg (targets OF pos):K8 (.Assign targets OF pos) Oh=(do
  HM pos
  if<-JM targets OF pos.line Oh then do
   JZ OF Oh λv=>MQ v ((HQ targets Oh).map (·.2))
   pure .next
  else do
   let v<-Hz OF Oh
   Kz Oh v (<-Ih targets OF Oh) ((HQ targets Oh).map (·.2))):=rfl
noncomputable def tL:Expr->Bool
 | .Tuple .. =>FE
 |_=>Fz
theorem oP (h:tL OF=Fz):Ih [.Tuple es k p] OF Oh=pure Fw:=by
 cases OF with
 |Tuple=>cases h
 |_=>rfl
theorem xT {tgt:Expr} {xs:List Nat} (h:sPT Og ns tgt=Fv (.many xs)): ∃es k p,tgt= .Tuple es k p:=
 oj (P:=λe pt=>pt= .many xs-> ∃es k p,e= .Tuple es k p) h (λ_ _ _ _ q=>nomatch q) (λes k p _ _ _ _=>⟨es,k,p,rfl⟩) rfl
theorem zd {tgt:Expr} {xs:List Nat} (hc:fS e=Fz) (ht:tL e=Fz) (hE:aJ C Γ Og ns e pe) (hx:sPT Og ns tgt=Fv (.many xs))
  (F:FSt C Og A Oh ns s₀ Oi W ok om ρ s) (hp:mev Γ m pe ρ (om.map (·.1))=Fv v) (hb:aT ρ (.many xs) v=Fv ρ'):
  WP (FN C.prog C.w) A (K8 (.Assign [tgt] e pos) Oh) (dO C Og A Oh ns s₀ Oi W ok s (.next ρ' (aI (bP m (om.map (·.1))) xs))) s:=by
 obtain⟨es,k,p,rfl⟩:=xT hx;rw [asg];refine WP.at ?_;refine FJ (Hx (a:=Fz) (mr.trans (aW hc)) ?_);simp only [Gy,if_false];refine WP.then (jk hE F hp) λu s₁ ⟨ok',ON,F₁,T₁,h1,h2,r,_⟩=> ?_;rw [oP ht];refine FJ (FK ?_);show WP _ A (Iq (.Tuple es k p) Oh u>>=λ_=>(pure Flow.next:IH K4)) _ s₁
 refine WP.then (F₁.bind hx hb r) λ_ s₂ ⟨F₂,T₂⟩=>FK ⟨rfl,ok',_,F₂,T₁.trans T₂, ?_⟩;rw [aQ,h1]
 rfl
theorem vm {k:Gj} {kd:_} {px:HW} (he:aJ C Γ Og ns e pe)
  (F:FSt C Og A Oh ns s₀ Oi W ok om ρ s) (hp:pev Γ pe (aB ρ (om.map (·.1)))=Fv u) (hx:b8 ns x=FE) (hm:x∈Og) (hl:Og.idxOf x<ρ.length):
  WP (FN C.prog C.w) A (K8 (.Assign [.Name x px] (.Dict [Fv (.Constant (.str k) kd kp)] [e] lp) pos) Oh) (dO C Og A Oh ns s₀ Oi W ok s (.next (ρ.set (Og.idxOf x) (Fv (.dictS [k] [u]))) (Og.idxOf x::aI (om.map (·.1)) [Og.idxOf x]))) s:=by
 rw [asg];refine WP.at ?_;refine FJ (Hx (a:=Fz) (mr.trans (aW rfl)) ?_);simp only [Gy,if_false];refine WP.then (pw he F.good0 hp) λv s₁ ⟨x₁,a,w₁,hv,ha,OH,h5,q⟩=> ?_;subst hv;rw [cj];refine FJ (FK ?_);show WP _ A (Iq (.Name x px) Oh (.ref a)>>=λ_=>(pure Flow.next:IH K4)) _ s₁
 have S5: ∀b,b<s.heap.objs.size->b≠a:=λb hb q=>FV _ (Fy hb (q▸ha));haveI F₁:=F.less x₁ (L:=[a]) (λb hb=>by rw [G4.mp hb];exact ha) (λb hb=>by rw [G4.mp hb];exact OH)
 haveI hB:=F₁.bindOwn (px:=px) (pv:= .dictS [k] [u]) (a:=a) hx hm hl (λh=>h.2 (HA _)) (λh=>S5 a (F.reads_live h) rfl) (λh=>S5 a (F.own_live h) rfl) (λh=>S5 a (F.w_live h) rfl) (Fx F.x.size ha)
  ⟨_,_,[w₁],rfl,(by decide:1<=1000),⟨rfl,h5⟩,_,_,rfl,q,rfl⟩
 refine WP.then hB λ_ s₂ ⟨F₂,T₂⟩=>FK ⟨rfl,_,_,F₂,(kz x₁ λb hb=>by rw [G4.mp hb];exact ha).trans T₂, ?_⟩
 rw [Gf,aQ]
theorem t7 {m:Gj} {T:String} {Q:K4->FL->Prop} (F:FSt C Og A Oh ns s₀ Oi W ok om ρ s) (hx:aC x=FE)
  (V:aV s.heap Oh x (.ref a)) (hT:s.TypeIs (.ref a) T) (hd: ∀b,Ki a= .ref b-> ∃o,s.heap.get? b=Fv o/\o.dict=Fw) (hpa:PlainAttrs T) (R4:Slot T m id) (TF:typeOf (.builtin id)=pure (.type "method_descriptor")) (RA:few args=FE) (OQ:(ap.endLine==cp.line)=FE)
  (OC:(Jv args Oh).all (λa=> !a.1)=FE)
  (h: ∀pos,WP (FN C.prog C.w) A (Mw (MP pos (Jv args Oh))) (λvs s'=>WP (FN C.prog C.w) A (Jj (.builtin id) (.ref a::vs)) (λv Oy=>v= .none/\Q .next Oy) s') s):
  WP (FN C.prog C.w) A (K8 (.Expr (.Call (.Attribute (.Name x xp) m ap) args [] cp) pos) Oh) Q s:=by
 show WP _ A (do
  HM pos
  if Jb Oh then printExpr (Hz (.Call (.Attribute (.Name x xp) m ap) args [] cp) Oh)
  else if<-MK (.Call (.Attribute (.Name x xp) m ap) args [] cp) Fw pos.line Oh then do JZ (.Call (.Attribute (.Name x xp) m ap) args [] cp) Oh λ_=>point;pure .next
  else do dropValue (.Call (.Attribute (.Name x xp) m ap) args [] cp) pos (<-Hz (.Call (.Attribute (.Name x xp) m ap) args [] cp) Oh)) Q s
 haveI hi:Jb Oh=Fz:=by unfold Jb;rw [F.e.kind];rfl
 rw [hi];refine WP.at ?_;simp only [Gy,if_false];refine FJ (Hx (a:=Fz) (aW rfl) ?_);simp only [Gy,if_false];haveI Qu:args.length<=10:=by simpa [few]using RA
 refine WP.then (Q₁:=λv Oy=>v= .none/\Q .next Oy) ?_ λv Oy ⟨hv,hq⟩=>by subst hv;exact FK hq
 refine J5 rfl ?_ OQ (im F.e hx V ?_)
 ·rw [bY,OC]
  exact decide_eq_true (show args.length+0+0<30 from FF Qu (by decide))
 ·refine⟨T,id,hpa,R4,TF,hT,hd, ?_⟩
  refine bk (λb e=>by cases e) (by rw [fG];exact fY OC) ?_
  exact bB (by rw [bY];exact OC) ((h cp).mono λvs s₁ h₁=>h₁)
theorem Bl {ks:List Gj} {us Pe:List PV} (hx:aC x=FE) (hm:x∈Og) (hl:Og.idxOf x<ρ.length) (OQ:(ap.endLine==cp.line)=FE)
  (hE:EvS C Γ Og ns e pe) (F:FSt C Og A Oh ns s₀ Oi W ok om ρ s) (hg:ρ.get (Og.idxOf x)=Fv (.dictS ks us)) (hp:mev Γ 0 pe ρ (om.map (·.1))=Fv (.dictS P3 Pe))
  (hc:(om.map (·.1)).contains (Og.idxOf x)=FE) (Oj:ks.length+P3.length<=1000):
  WP (FN C.prog C.w) A (K8 (.Expr (.Call (.Attribute (.Name x xp) "update" ap) [e] [] cp) pos) Oh) (dO C Og A Oh ns s₀ Oi W ok s (.next (ρ.set (Og.idxOf x) (Fv (.dictS (dF ks us P3 Pe).1 (dF ks us P3 Pe).2))) (om.map (·.1)))) s:=by
 obtain⟨a,ha,V,⟨_,_,vs,e0,SD,⟨Sa,hd⟩,q⟩,TK⟩:=F.find hm hc hg;cases e0;refine t7 F hx V hd.typeIs hd.mapOf.noDict MH MA PySem.F.type_dict_update rfl OQ ?_ λU7=> ?_
 ·rw [ba (bC hE.2)];rfl
 ·rw [ba (bC hE.2)]
  refine Mv ((jk hE.1 F hp).mono λu s₁ ⟨ok',ON,F₁,T₁,h1,h2,r,h3⟩=> ?_);have Qg:=h3 (by decide)
  subst Qg;refine LK ?_;obtain⟨a',PW,V',⟨_,_,OU,e0,Xf,⟨S_,Pk⟩,q'⟩,Rz⟩:=F₁.find hm hc hg;cases e0;have T_:(Og.idxOf x,a')=(Og.idxOf x,a):=dT (f:=(·.1)) F.nd.1 PW ha rfl
  cases T_;obtain⟨b,ws,rfl,hb,hbs,⟨hlw,SV⟩,qb⟩:=r;have Pl:a≠b:=λq=>Rz (q▸hb);have hzl:(ks.zip OU).length=ks.length:=by simp [S_]
  have Ub:(P3.zip ws).length=P3.length:=by simp [hlw]
  refine call_meetsIn MA Pk.typeIs PySem.F.entry_dict_update (PySem.F.args_dict_update_2 _ _) (meets_dict_update (strKind C.prog C.w) a b Pl hbs) ⟨ks.zip OU,P3.zip ws,Pk,SV, ?_,λh' QB Pq hs=> ?_⟩
  ·rw [hzl,Ub,KW];exact Fx Oj (by decide)
  ·refine⟨rfl,rfl, ?_⟩
   have OD:=gc Pk;have kp: ∀c,ok' c-> ∀o,vis s₁.heap c=Fv o->vis h' c=Fv o:=λc hc o e=>az hs OD (λz=>Rz (z▸hc)) e;obtain⟨Se,f1,f2,f3⟩:=vA (C:=C) hlw (qb.mono (λ_ h _=>h) kp) (mh S_ Pk) S_ (q'.mono (λ_ h _=>h) kp);have Pd:(dF ks us P3 Pe).1.length<=1000:=by have h1:=merged_length_le (ks.zip OU) (P3.zip ws);rw [f1,hzl,Ub]at h1;simp [f2]at h1;exact Fx (FI f2) (Fx h1 Oj)
   obtain⟨F₂,T₂⟩:=F₁.upOwn (tk:=s₁.toks) PW hl hs (pv:= .dictS (dF ks us P3 Pe).1 (dF ks us P3 Pe).2) ⟨_,_,Se,rfl,Pd,⟨f2,f1▸QB⟩,f3⟩;exact⟨ok',ON,F₂,T₁.trans T₂,rfl⟩
end
variable {py tp vp:HW} {k':Nat}
section
theorem kA {c:Prop} [Decidable c] {a b d:α} (h: ¬c->b=a∨b=d):(if c then a else b)=a∨(if c then a else b)=d:=by
 by_cases hc:c
 ·rw [if_pos hc];exact .inl rfl
 ·rw [if_neg hc];exact h hc
theorem zP {c:Prop} [Decidable c] {z:α}:(if c then Fv z else Fw)=Fw∨(if c then Fv z else Fw)=Fv z:=by
 by_cases hc:c
 ·exact .inr (if_pos hc)
 ·exact .inl (if_neg hc)
theorem B_ {px:HW} {f:Expr->Option Gj} {b:Bool} (h: ¬((([Expr.Name x px,.Name y py].filterMap f).length !=2)||b)=FE) (hf: ∀z p,f (.Name z p)=Fw∨f (.Name z p)=Fv z):[Expr.Name x px,.Name y py].filterMap f=[x,y]:=by
 have e:[Expr.Name x px,.Name y py].filterMap f=(f (.Name x px)).toList++(f (.Name y py)).toList:=by rw [I0,I0];cases f (.Name x px)<;>cases f (.Name y py)<;>rfl
 rw [e]at h ⊢
 cases hf x px with
 |inl p=>rw [p]at h;exact absurd (by cases hf y py with|inl q=>rw [q];rfl|inr q=>rw [q];rfl) h
 |inr p=>cases hf y py with
  |inl q=>rw [p,q]at h;exact absurd rfl h
  |inr q=>rw [p,q];rfl
theorem xf {px:HW} {e1 e2:Expr} (QA:x≠y) (hc:[e1,e2].all (Nl 8)=Fz):
  Ih [.Tuple [.Name x px,.Name y py] k tp] (.Tuple [e1,e2] k' vp) Oh=pure Fw∨Ih [.Tuple [.Name x px,.Name y py] k tp] (.Tuple [e1,e2] k' vp) Oh=pure (Fv [x,y]):=by
 delta Ih
 refine kA λ_=>kA λ_=>kA λh=>kA λ_=> .inr ?_;rw [hc];exact congrArg (λl=>(pure (Fv l):IH (Option (List Gj)))) (B_ h λz p=>zP)
theorem j' {v:FR} {Q:Unit->FL->Prop} (h: ∀px,WP (FN C.prog C.w) A (Iq (.Name x px) Oh v) Q s):WP (FN C.prog C.w) A (KJ Oh x v) Q s:=by
 intro Γ' p hΓ
 have:=h p Γ' p hΓ
 rw [arm_assign_Name]at this;simpa only [Ir,Sem.wp_cmd_standAt]using this
theorem po {a b:Option PV} (h:i≠j):(ρ.set i a).set j b=(ρ.set j b).set i a:=List.set_comm a b h
theorem xg {px:HW} {e1 e2:Expr} {v1 v2:PV} (QA:Og.idxOf x≠Og.idxOf y) (hc:[e1,e2].all (Nl 8)=Fz)
  (hE:aJ C Γ Og ns (.Tuple [e1,e2] k' vp) (.tup O_)) (hx:b8 ns x=FE) (Vh:x∈Og) (hy:b8 ns y=FE) (hmy:y∈Og)
  (F:FSt C Og A Oh ns s₀ Oi W ok om ρ s) (hp:dz Γ O_ (aB ρ (om.map (·.1)))=Fv [v1,v2]):
  WP (FN C.prog C.w) A (K8 (.Assign [.Tuple [.Name x px,.Name y py] k tp] (.Tuple [e1,e2] k' vp) pos) Oh)
   (dO C Og A Oh ns s₀ Oi W ok s (.next ((ρ.set (Og.idxOf x) (Fv v1)).set (Og.idxOf y) (Fv v2)) (aI (om.map (·.1)) [Og.idxOf x,Og.idxOf y]))) s:=by
 rw [asg];refine WP.at ?_;refine FJ (Hx (a:=Fz) (mr.trans (aW rfl)) ?_);simp only [Gy,if_false];haveI Ve:pev Γ (.tup O_) (aB ρ (om.map (·.1)))=Fv (.tuple [v1,v2]):=by exact aD hp (if_pos (show 2<=F_ by rw [KW];decide))
 refine WP.then (hE A Oh _ ok s _ F.good0 Ve) λu s₁ ⟨x₁,r⟩=> ?_;have F₁:=F.ext x₁;haveI PJ:sPT Og ns (.Tuple [.Name x px,.Name y py] k tp)=Fv (.many [Og.idxOf x,Og.idxOf y]):=
  (congrArg (λo=>Nd o _) (show tgs Og ns [.Name x px,.Name y py]=Fv [Og.idxOf x,Og.idxOf y]by unfold tgs tgs tgs;rw [lz hx Vh,lz hy hmy];rfl)).trans rfl
 rcases xf (Oh:=Oh) (px:=px) (py:=py) (tp:=tp) (vp:=vp) (k:=k) (k':=k') (x:=x) (y:=y) (λq=>QA (by rw [q])) hc with h|h
 ·rw [h]
  refine FJ (FK ?_);show WP _ A (Iq (.Tuple [.Name x px,.Name y py] k tp) Oh u>>=λ_=>(pure Flow.next:IH K4)) _ s₁
  refine WP.then (F₁.bind PJ (ρ':=(ρ.set (Og.idxOf x) (Fv v1)).set (Og.idxOf y) (Fv v2)) rfl r) λ_ s₂ ⟨F₂,T₂⟩=>FK ⟨rfl,ok,_,F₂,x₁.tr.trans T₂, ?_⟩;rw [aQ]
  rfl
 ·rw [h]
  refine FJ (FK ?_);obtain⟨a,vs,rfl,hoa,hsa,l,u1,r1,rfl,ru1,u2,r2,rfl,ru2,rfl⟩:=r;show WP _ A (do rule "assign.swapped-stores";let items<-unpackItems (.ref a) 2 Fw;L9 ([y,x].map λn=>KJ Oh n) items.reverse;pure Flow.next) _ s₁
  refine FJ (Lq (WP.then (Q₁:=λitems s₂=>items=[u1,u2]/\Ext s₁ s₂) (WP.size (wpAny_unpackItems_tuple (items:= #[u1,u2]) F.a.1 l λh' hx sz=>⟨rfl,λb o e=>u0 hx j_ (λq=>by rw [q,cW]at e;cases e) e,sz,λ_ _ e=>e,rfl⟩)) λitems s₂ ⟨hi,x₂⟩=> ?_))
  subst hi;haveI F₂:=F₁.ext x₂;show WP _ A ((do JA [u1] (KJ Oh y u2);L9 [KJ Oh x] [u1])>>=λ_=>(pure Flow.next:IH K4)) _ s₂
  refine WP.bind (WP.then (WP.hold (j' λpx=>F₂.bind (tgt:= .Name y px) (ku hy hmy) rfl (ru2.keep x₂.keep))) λ_ s₃ ⟨F₃,T₃⟩=> ?_);haveI Wu:Rep C.prog C.w ok s₃.heap v1 u1:=(ru1.keep x₂.keep).mono (λ_ h _=>h) λb hb o e=>T₃.keep b o (.inl hb) e;show WP _ A (do JA [] (KJ Oh x u1);L9 [] []) _ s₃
  refine WP.then (WP.hold (j' λpx=>F₃.bind (tgt:= .Name x px) (ku hx Vh) rfl Wu)) λ_ s₄ ⟨F₄,T₄⟩=> ?_;rw [po (J_ QA)]at F₄;refine FK (FK ⟨rfl,ok,_,F₄,(x₁.trans x₂).tr.trans (T₃.trans T₄), ?_⟩)
  ·rw [aQ,aQ,gj]
   unfold aI;refine LQ λi _=> ?_;simp [ptIdx,Bool.and_comm]
end
theorem eF {c:Prop} [Decidable c] {x:Option α} {y:α} (h:(if c then x else Fw)=Fv y):c/\x=Fv y:=by
 by_cases hc:c
 ·rw [if_pos hc]at h;exact⟨hc,h⟩
 ·rw [if_neg hc]at h;cases h
variable {den:Ρ->List Nat->Option Out}
section
theorem qZ {xs:List Nat} (h:xs.all (λi=> !(om.map (·.1)).contains i)=FE):(om.filter λp=> !xs.contains p.1)=om:=by
 refine NR.mpr λp hp=> ?_;simp only [GD,JS,NH,decide_eq_false_iff_not]at h ⊢
 exact λq=>h p.1 q (Gs (f:=(·.1)) hp)
theorem yf {tgt:Expr} {body:List Hs} {Q:K4->FL->Prop} (Q0: ∀x,Jn iter Oh x=pure x)
  (h:WP (FN C.prog C.w) A (Hz iter Oh) (λv s₁=>WP (FN C.prog C.w) A (LL v) (λit s₂=> ∃(Inv:Nat->FL->Prop) (n:Nat),Inv n s₂/\
   ∀n s,Inv n s-> ∀K:Option FR->FL->Prop,(∀s,Q .next s->K Fw s)->
    (∀v s,(∀B:K4->FL->Prop,(∀m s,m<n->Inv m s->B .next s)->(∀v s,Q (.ret v) s->B (.ret v) s)->
     WP (FN C.prog C.w) A (I8 tgt it v) (λ_ s=>WP (FN C.prog C.w) A (Iq tgt Oh v) (λ_ s=>WP (FN C.prog C.w) A (Iv body Oh) B s) s) s)->K (Fv v) s)->
    WP (FN C.prog C.w) A (L7 it) K s) s₁) s):
  WP (FN C.prog C.w) A (K8 (.For tgt iter body [] pos) Oh) Q s:=by
 refine wpAny_For ?_ Q0;refine h.mono λv s₁ h₁=>h₁.mono λit s₂ h₂=> ?_;obtain⟨Inv,n,h0,h₂⟩:=h₂;have low: ∀{α:Type} {X:IH α} {Q:α->FL->Prop} {E:FR->FL->Prop} {s:FL},WP (FN C.prog C.w) A X Q s->Ig (FN C.prog C.w) A X Q E s:=λh=>Hy (E:=λ_ _=>False) h (λ_ _ h=>h) λ_ _ h=>h.elim;refine codeAny_forLoop_any Inv (λn s hI=>low (h₂ n s hI _ (λs hq=>FK hq) λv s hb=> ?_)) n h0;refine low ((hb (λf s=>match f with| .next| .cont=> ∃m,m<n/\Inv m s| .brk=>Q .next s| .ret v=>Q (.ret v) s) (λm s hm hi=>⟨m,hm,hi⟩) λv s h=>h).mono λ_ s h=>low (h.mono λ_ s h=>low ?_))
 exact h.mono λf s h=>by cases f<;>exact h
theorem Ch {tgt:Expr} {body:List Hs} {pt:PT} {o:Out} (Q0: ∀x,Jn iter Oh x=pure x) (PJ:sPT Og ns tgt=Fv pt)
  (F:FSt C Og A Oh ns s₀ Oi W ok om ρ s)
  (Ou:WP (FN C.prog C.w) A (Hz iter Oh) (λv s₁=>Ext s s₁/\WP (FN C.prog C.w) A (LL v) (λr s₂=>Ext s₁ s₂/\ ∃I,r= .ref I/\ItG C A ok xs tgt s s₂ I) s₁) s)
  (PZ: ∀(W:Gb->Prop) ok om ρ s o,FSt C Og A Oh ns s₀ Oi W ok om ρ s->den ρ (om.map (·.1))=Fv o->WP (FN C.prog C.w) A (Iv body Oh) (dO C Og A Oh ns s₀ Oi W ok s o) s)
  (hp:eA pt den xs ρ (om.map (·.1))=Fv o):
  WP (FN C.prog C.w) A (K8 (.For tgt iter body [] pos) Oh) (dO C Og A Oh ns s₀ Oi W ok s o) s:=by
 refine yf Q0 ?_;refine Ou.mono λv s₁ ⟨x₁,h₁⟩=>h₁.mono λr s₂ ⟨x₂,I,hr,W₀,Wg,T,St,it,hT,Qp,hW₀,hWg⟩=> ?_;subst hr;have Vz:=x₁.trans x₂;haveI OH: ∀b,W b->b<s.heap.objs.size:=λb hb=>F.w_live hb;haveI Th: ∀b∈W₀,b<s₂.heap.objs.size:=λb hb=>(it.own Qp b hb).1;have F₂:FSt C Og A Oh ns s₀ Oi W (okW ok W₀) om ρ s₂:=F.less Vz hW₀ Th;haveI T₂:Tr W ok (okW ok W₀) s s₂:=kz Vz hW₀;haveI hWW: ∀{W₁:List Gb},(∀b∈W₁,s.heap.objs.size<=b)-> ∀b,W b->b∉W₁:=λh b hb q=>FV _ (Fy (OH b hb) (h b q));haveI UR:FSt C Og A Oh ns s₀ Oi (λb=>W b∨b∈W₀) (okW ok W₀) om ρ s₂:=F₂.setW λb hb=>by
  rcases hb with hb|hb
  ·exact F₂.w b hb
  ·refine⟨λh=>h.2 hb,λh=> ?_,λh=> ?_,(it.own Qp b hb).1⟩
   ·exact FV _ (Fy (F.reads_live h) (hW₀ b hb))
   ·exact FV _ (Fy (F.own_live h) (hW₀ b hb))
 obtain⟨Inv,hv⟩: ∃Inv:Nat->FL->Prop,∀n s₁,Inv n s₁↔ ∃xs Op OW ρ₁ W₁,n=xs.length/\St Op xs W₁ s₁/\FSt C Og A Oh ns s₀ Oi (λb=>W b∨b∈W₁) Op OW ρ₁ s₁/\eA pt den xs ρ₁ (OW.map (·.1))=Fv o/\Tr W ok Op s s₁/\(∀b∈W₁,s.heap.objs.size<=b)/\s.heap.objs.size<=s₁.heap.objs.size:=⟨_,λ_ _=>Iff.rfl⟩
 refine⟨Inv,xs.length,(hv _ _).mpr ⟨xs,okW ok W₀,om,ρ,W₀,rfl,Qp,UR,hp,T₂,hW₀,Vz.size⟩,λn s₁ hI K Wl hK1=> ?_⟩;obtain⟨xs,Op,OW,ρ₁,W₁,rfl,Qp,F₁,hz,T₁,PC,sz1⟩:=(hv _ _).mp hI;have Qa: ∀{i:Nat} {g:Kn},s.gens[i]? =Fv g->i∉Wg:=λ{i g} e q=>by have:=(Ko.mp e).1;exact FV _ (Fy this (hWg i q))
 have FW:FSt C Og A Oh ns s₀ Oi W Op OW ρ₁ s₁:=F₁.setW λb hb=>F₁.w b (.inl hb);have U9: ∀{W':List Gb},(∀b∈W',b∈W₁∨s₁.heap.objs.size<=b)->(∀b o,Op b->vis s₁.heap b=Fv o->b∉W')/\(∀b,bD Oh b->b∉W')/\(∀b,b∈OW.map (·.2)->b∉W')/\ ∀b,W b->b∉W':=λh=>by
  refine⟨λb o hb e q=> ?_,λb hb q=> ?_,λb hb q=> ?_,λb hb q=> ?_⟩
  ·rcases h b q with q|q
   ·exact(F₁.w b (.inr q)).1 hb
   ·exact FV _ (Fy (aq e) q)
  ·rcases h b q with q|q
   ·exact(F₁.w b (.inr q)).2.1 hb
   ·exact FV _ (Fy (F₁.reads_live hb) q)
  ·rcases h b q with q|q
   ·exact(F₁.w b (.inr q)).2.2.1 hb
   ·exact FV _ (Fy (F₁.own_live hb) q)
  ·rcases h b q with q|q
   ·exact hWW PC b hb q
   ·exact FV _ (Fy (FW.w_live hb) q)
 have Un: ∀{s':FL} {W':List Gb},(∀b∈W',s.heap.objs.size<=b)->(∀b o,b∉W'->vis s₁.heap b=Fv o->vis s'.heap b=Fv o)->s₁.heap.objs.size<=s'.heap.objs.size->
   (∀(i:Nat) g,i∉Wg->s₁.gens[i]? =Fv g->s'.gens[i]? =Fv g)->s'.os=s₁.os->Ext s₀ s':=λhW' hk OR hg ho=>
  ⟨λb o e=>hk b o (λq=>FV _ (Fy (aq e) (Fx F.x.size (hW' b q)))) (F₁.x.keep b o e),Fx F₁.x.size OR,λi g e=>hg i g (Qa (F.x.gens i g e)) (F₁.x.gens i g e),ho.trans F₁.x.os⟩
 cases xs with
 |nil=>
  cases hz;refine(it.done Qp).mono λr s₃ ⟨hr,S⟩=> ?_;subst hr;obtain⟨n1,n2,n3,n4⟩:=U9 (W':=W₁) λb hb=> .inl hb;refine Wl _ ⟨rfl,Op,OW, ?_,⟨λb o h e=> ?_,T₁.sup,λi g e=>S.gens i g (Qa e) (T₁.gens i g e),S.os.trans T₁.os⟩,rfl⟩
  ·exact FW.move (Un PC S.keep S.size S.gens S.os) S.size (λb hb o e=>S.keep b o (n2 b hb) e) (λb hb o e=>S.keep b o (n1 b o hb e) e) (λb hb o e=>S.keep b o (n3 b hb) e) (λb hb o e=>S.keep b o (n4 b hb) e) (λ_ _ h _=>h) (λ_ h=>h) (F₁.free.keep S.size)
  ·have e1:=T₁.keep b o h e
   refine S.keep b o ?_ e1;rcases h with h|h
   ·exact n1 b o (T₁.sup b o h e) e1
   ·exact n4 b h
 |cons x xs=>
  rw [AS]at hz;obtain⟨WF,hz⟩:=eF hz;simp only [Hp,FQ]at hz;obtain⟨ρ₂,hb,o',We,hz⟩:=hz;refine(it.next hT F₁.free F₁.sys Qp).mono λr s₂ ⟨v,W₂,hr,hW12,hW2,S₁,rv,hlet⟩=> ?_
  subst hr;obtain⟨n1,n2,n3,n4⟩:=U9 hW2;have RR: ∀b∈W₂,s.heap.objs.size<=b:=λb hb=>(hW2 b hb).elim (PC b) λq=>Fx sz1 q;refine hK1 _ _ λB hB0 Wm=>hlet.mono λ_ s₃ ⟨S₂,hSt₃⟩=> ?_;have OK: ∀b o,b∉W₂->vis s₁.heap b=Fv o->vis s₃.heap b=Fv o:=λb o hb e=>S₂.keep b o hb (S₁.keep b o (λq=>hb (hW12 b q)) e);have RS: ∀(i:Nat) g,i∉Wg->s₁.gens[i]? =Fv g->s₃.gens[i]? =Fv g:=λi g hi e=>S₂.gens i g hi (S₁.gens i g hi e);have U8:s₃.os=s₁.os:=S₂.os.trans S₁.os;have Sf:s₁.heap.objs.size<=s₃.heap.objs.size:=Fx S₁.size S₂.size;have Py: ∀b o,Op b->vis s₁.heap b=Fv o->okW Op W₂ b:=λb o hb e=>⟨hb,n1 b o hb e⟩;have F₃:FSt C Og A Oh ns s₀ Oi W (okW Op W₂) OW ρ₁ s₃:=FW.move (Un RR OK Sf RS U8) Sf (λb hb o e=>OK b o (n2 b hb) e) (λb hb o e=>OK b o (n1 b o hb e) e) (λb hb o e=>OK b o (n3 b hb) e) (λb hb o e=>OK b o (n4 b hb) e) Py (λ_ h=>h.1) λb e=>⟨F₁.free b (Fx Sf e),λq=>by exact FV _ (Fy (it.own hSt₃ b q).1 e)⟩
  haveI UY:FSt C Og A Oh ns s₀ Oi (λb=>W b∨b∈W₂) (okW Op W₂) OW ρ₁ s₃:=F₃.setW λb hb=>by
   rcases hb with hb|hb
   ·exact F₃.w b hb
   ·exact⟨λh=>h.2 hb,λh=>n2 b h hb,λh=>n3 b h hb,(it.own hSt₃ b hb).1⟩
  haveI T₃:Tr W ok (okW Op W₂) s s₃:=⟨λb o h e=>by
    have e1:=T₁.keep b o h e;refine OK b o ?_ e1;rcases h with h|h
    ·exact n1 b o (T₁.sup b o h e) e1
    ·exact n4 b h,λb o h e=>by
    haveI h1:=T₁.sup b o h e;exact Py b o h1 (T₁.keep b o (.inl h) e),λi g e=>RS i g (Qa e) (T₁.gens i g e),U8.trans T₁.os⟩
  refine WP.size ((UY.bind PJ hb (rv.mono (λ_ h _=>h) λb hb o e=>S₂.keep b o hb.2 e)).mono λ_ s₄ ⟨F₄,T₄⟩ sz4=> ?_);rw [qZ WF]at F₄;haveI QO:St (okW Op W₂) xs W₂ s₄:=it.frame hSt₃ (λb o hb e=>T₄.keep b o (hb.imp id .inr) e) (λb o h _=>h) (λb hb h=>h.2 hb) T₄.gens T₄.os F₄.hk sz4;refine WP.size ((PZ _ _ _ _ s₄ o' F₄ We).mono λf s₅ hP VC=> ?_);haveI UX: ∀{ok':Gb->Prop} {s':FL},Tr (λb=>W b∨b∈W₂) (okW Op W₂) ok' s₃ s'->Tr W (okW Op W₂) ok' s₃ s':=λT=>⟨λb o h e=>T.keep b o (h.imp id .inl) e,T.sup,T.gens,T.os⟩;cases o' with
  |next ρ₅ own₅=>
   obtain⟨hf,QW,RH,F₅,T₅,Qg⟩:=hP;subst hf;haveI QN:St QW xs W₂ s₅:=it.frame QO (λb o hb e=>T₅.keep b o (hb.imp id .inr) e) T₅.sup (λb hb h=>(F₅.w b (.inr hb)).1 h) T₅.gens T₅.os F₅.hk VC;exact hB0 _ _ (Gx xs.length) ((hv _ _).mpr ⟨xs,QW,RH,ρ₅,W₂,rfl,QN,F₅,by rw [Qg];exact hz,T₃.trans (UX (T₄.trans T₅)),RR,by exact Fx (Fx (Fx sz1 Sf) sz4) VC⟩)
  |ret v=>
   cases hz;obtain⟨u,hf,hx,hr⟩:=hP;subst hf;exact Wm _ _ ⟨u,rfl,hx,hr⟩
end
section
theorem Bk {c:Expr} {body:List Hs} {o:Out} (hc:dQ C Γ Og ns c pc) (F:FSt C Og A Oh ns s₀ Oi W ok om ρ s)
  (PZ: ∀(W:Gb->Prop) ok om ρ s o,FSt C Og A Oh ns s₀ Oi W ok om ρ s->den ρ (om.map (·.1))=Fv o->WP (FN C.prog C.w) A (Iv body Oh) (dO C Og A Oh ns s₀ Oi W ok s o) s)
  (hp:kI (λρ=>bt Γ pc ρ) den n ρ (om.map (·.1))=Fv o):
  WP (FN C.prog C.w) A (K8 (.While c body [] pos) Oh) (dO C Og A Oh ns s₀ Oi W ok s o) s:=by
 refine wpAny_While ?_;refine codeAny_whileLoop (λn s₁=> ∃Op OW ρ₁,FSt C Og A Oh ns s₀ Oi W Op OW ρ₁ s₁/\kI (λρ=>bt Γ pc ρ) den n ρ₁ (OW.map (·.1))=Fv o/\Tr W ok Op s s₁) (λn s₁ hI=> ?_) n ⟨ok,om,ρ,F,hp,.refl _ _ _⟩
 obtain⟨Op,OW,ρ₁,F₁,hz,T₁⟩:=hI;refine Hy (E:=λ_ _=>False) ?_ (λ_ _ h=>h) λ_ _ h=>h.elim;cases n with
 |zero=>cases hz
 |succ n=>
  rw [Dv]at hz;obtain⟨b,hb,hz⟩:=FQ.mp hz;refine(F₁.goodT hc hb).mono λb' s₂ ⟨Pq,x₂⟩=> ?_;subst Pq;cases b' with
  |false=>
   cases hz;refine Hy (E:=λ_ _=>False) (Q:=λf s₃=>f= .next/\s₃=s₂) (FK ⟨rfl,rfl⟩) (λf s₃ h=> ?_) λ_ _ h=>h.elim
   obtain⟨rfl,rfl⟩:=h;exact⟨rfl,Op,OW,F₁.ext x₂,T₁.trans x₂.tr,rfl⟩
  |true=>
   obtain⟨o',ho,hz⟩:=FQ.mp hz;refine Hy (E:=λ_ _=>False) ((PZ _ _ _ _ _ o' (F₁.ext x₂) ho).mono λf s₃ hP=> ?_) (λ_ _ h=>h) λ_ _ h=>h.elim;cases o' with
   |next ρ₅ own₅=>
    obtain⟨hf,QW,RH,F₅,T₅,Qg⟩:=hP;subst hf;exact⟨n,Gx _,QW,RH,ρ₅,F₅,by rw [Qg];exact hz,T₁.trans (x₂.tr.trans T₅)⟩
   |ret v=>
    cases hz;obtain⟨u,hf,hx,hr⟩:=hP;subst hf;exact⟨u,rfl,hx,hr⟩
end
noncomputable def cg (c:Bool) (p:PS):PS:=if c then p else .bad
noncomputable def ob {α:Type} (x:Option α) (f:α->PS):PS:=match x with
 |some a=>f a
 |none=> .bad
noncomputable def lst:Expr->Option (List Expr)
 | .List es _=>Fv es
 |_=>Fw
noncomputable def dct:Expr->Option (Gj×Expr)
 | .Dict ks vs _=>ob2 Prod.mk ((gm ks).bind λk=>k.bind Dj) (gm vs)
 |_=>Fw
noncomputable def sA (Og:List Gj) (OJ:Gj->Nat) (E:Expr->Option PE) (L:List Expr->Option (List PE)) (x:Gj) (e:Expr):PS:=
 if 9<=OJ x/\(lst e).isSome=FE then ob (lst e) λes=>ob (L es) λO_=> .own (Og.idxOf x) (.list O_)
 else if(dct e).isSome=FE then ob (dct e) λq=>ob (E q.2) λpe=> .own (Og.idxOf x) (.dic1 q.1 pe)
 else ob (E e) λpe=> .set (Og.idxOf x) (OJ x) pe
noncomputable def CS:PE->Option (List PE)
 | .tup vs=>Fv vs
 |_=>Fw
noncomputable def sP (Og:List Gj) (ns:ay) (E:Expr->Option PE) (es:List Expr) (e:Expr):PS:=
 ob (uI e) λvs=>ob (two es) λp=>ob (nm1 p.1) λx=>ob (nm1 p.2) λy=>ob (two vs) λ_=>cg (b8 ns x&&Og.contains x) (cg (b8 ns y&&Og.contains y) (cg (Og.idxOf x !=Og.idxOf y&& !(vs.all (Nl 8))) (ob (E e) λpe=>ob (CS pe) λO_=> .swap [Og.idxOf x,Og.idxOf y] O_)))
noncomputable def wu:PT->Option (List Nat)
 | .many xs=>Fv xs
 |_=>Fw
noncomputable def sM (Og:List Gj) (ns:ay) (E:Expr->Option PE) (t e:Expr):PS:=cg (!fS e&& !tL e) (ob ((sPT Og ns t).bind wu) λxs=>ob (E e) λpe=> .setT xs 0 pe)
noncomputable def DW (gl:Gj->Option aX) (q:Gj×List Expr):Option (Nat×List Expr):=(gl q.1).bind λg=>match g with
 | .gen k=>Fv (k,q.2)
 |_=>Fw
noncomputable def sFI (gl:Gj->Option aX) (Og:List Gj) (n:Nat) (ns:ay) (t e:Expr):Option PI:=((o0 ns e).bind (DW gl)).elim ((sI gl Og n ns e).bind λp=>grd (gP t p) (Fv p)) λq=>(sL gl Og n ns q.2).map (.gen q.1)
noncomputable def D1 (Og:List Gj) (e:Expr):Option (Gj×Gj×List Expr):=(tQ e).bind λq=>(wb q.1).bind λa=>(nm1 a.1).bind λx=>grd (aC x&&Og.contains x&&a.2.2.endLine==q.2.2.line) (Fv (x,a.2.1,q.2.1))
mutual
noncomputable def sS (gl:Gj->Option aX) (Og:List Gj) (OJ:Gj->Nat) (ns:ay):Nat->Hs->PS
 |0,_=> .bad
 |n+1,st=>match st with
  | .Assign ts e _=>ob (gm ts) λt=>(match t with
   | .Name x _=>cg (b8 ns x&&Og.contains x) (sA Og OJ (sE gl Og n ns) (sL gl Og n ns) x e)
   | .Tuple es _ _=>if tL e then sP Og ns (sE gl Og n ns) es e else sM Og ns (sE gl Og n ns) t e
   |_=> .bad)
  | .AugAssign t op e _=>ob (nm1 t) λx=>cg (b8 ns x&&Og.contains x) (if op= .Add/\(lst e).isSome=FE then ob (lst e) λes=>ob (sL gl Og n ns es) λO_=> .augL (Og.idxOf x) (.list O_)
    else ob (sE gl Og n ns e) λpe=> .aug (Og.idxOf x) op (OJ x) pe)
  | .Return e _=>ob e λe=>ob (sE gl Og n ns e) .ret
  | .If c a b _=>ob (sT gl Og n ns c) λpc=> .ite pc (sSs gl Og OJ ns n a) (sSs gl Og OJ ns n b)
  | .For t it body U4 _=>cg (iH it&&U4.isEmpty) (ob (sPT Og ns t) λpt=>ob (sFI gl Og n ns t it) λpi=> .for_ pt pi (sSs gl Og OJ ns n body))
  | .While c body U4 _=>cg U4.isEmpty (ob (sT gl Og n ns c) λpc=> .whl pc (sSs gl Og OJ ns n body))
  | .Expr e _=>ob (D1 Og e) λq=>if q.2.1= "reverse" then cg q.2.2.isEmpty (.rev (Og.idxOf q.1))else ob (gm q.2.2) λe=>
    if q.2.1= "append" then ob (sE gl Og n ns e) λpe=> .app (Og.idxOf q.1) (OJ q.1-9) pe else if q.2.1= "update" then ob (sE gl Og n ns e) λpe=> .upd (Og.idxOf q.1) pe else .bad
  |_=> .bad
noncomputable def sSs (gl:Gj->Option aX) (Og:List Gj) (OJ:Gj->Nat) (ns:ay):Nat->List Hs->List PS
 |0,_=>[.bad]
 |_+1,[]=>[]
 |n+1,st::Qx=>sS gl Og OJ ns n st::sSs gl Og OJ ns n Qx
end
section
theorem C3 (GO:an C Γ) (h:sFI C.gl Og n ns t e=Fv pi)
  (G:dj C Og A Oh ns ρ ok s) (hp:pit Γ pi ρ=Fv xs):
  WP (FN C.prog C.w) A (Hz e Oh) (λv s₁=>Ext s s₁/\WP (FN C.prog C.w) A (LL v) (λr s₂=>Ext s₁ s₂/\ ∃I,r= .ref I/\ItG C A ok xs t s s₂ I) s₁) s:=by
 have S:=cK (Og:=Og) GO n;refine fI h (λq hq h=> ?_) λ_ h=>ac h λp Qm h=>cF h λht h=> ?_
 ·revert hp
  refine aM h λR0 has hp=>ac hp λvs PH hp=>ac hq λc hc hq=>ac hq λg hg hq=> ?_;obtain⟨p,pos,rfl,hn⟩:=iC hc;cases g with
  |gen k'=>
   cases hq;obtain⟨fo,o,fd,L,ho,hd,Ux⟩:=GO.gn c.1 _ hg;have hE:=S.l _ _ _ has A Oh ρ ok s vs G PH;refine MY rfl (dq G.e hn.p hn.k G.h L ?_);refine My (o:=o) (fd:=fd) ?_;refine bB (by rw [bY];exact hE.1) ((hE.2 pos).mono λus s₁ ⟨x,q⟩=>⟨⟨(cx hd).keep (x.keep _) ((cx hd).keep (G.h _) ho),hd⟩, ?_⟩)
   refine(Ux vs xs hp A s₁ ok us t G.a (G.h.trans x.keep) (G.o.keep x.size) (G.m.keep x.keep) q).mono λv s₂ ⟨x₂,h⟩=>⟨x.trans x₂,h.mono λr s₃ ⟨x₃,I,hr,W,Wg,T,St,h1,h2,h3,h4,h5⟩=>⟨x₃,I,hr,W,Wg,T,St,h1,h2,h3,λb hb=>Fx x.size (h4 b hb),λi hi=>Fx ?_ (h5 i hi)⟩⟩;refine Hc λOH=> ?_;have:=x.gens s₁.gens.size _ (Jq OH);rw [Nb (FH _)]at this;cases this
  |_=>exact a9 hq
 ·cases h
  obtain⟨T,hT,Ou⟩:=S.i _ _ _ t Qm ht;exact(Ou A Oh ρ ok s xs G hp).mono λv s₁ ⟨x,h⟩=>⟨x,(h A G.a).mono λr s₂ ⟨x₂,I,hr,W,St,h1,h2,h3⟩=>⟨x₂,I,hr,W,[],T,St,h1.atA G.a,hT,h2,h3,λi hi=>nomatch hi⟩⟩
end
theorem kF (h:ρ.get i=Fv v):i<ρ.length:=by
 unfold Ρ.get at h;rcases J7 i ρ.length with q|q
 ·exact q
 ·rw [Jd q]at h;cases h
section
def dA (C:Cx) (Γ:Gam) (Og:List Gj) (ns:ay) (st:Hs) (ps:PS):Prop:=
 ∀A Oh s₀ Oi W ok om ρ s o,FSt C Og A Oh ns s₀ Oi W ok om ρ s->ak Γ ps ρ (om.map (·.1))=Fv o->WP (FN C.prog C.w) A (K8 st Oh) (dO C Og A Oh ns s₀ Oi W ok s o) s
def iJ (C:Cx) (Γ:Gam) (Og:List Gj) (ns:ay) (st:List Hs) (ps:List PS):Prop:=
 ∀A Oh s₀ Oi W ok om ρ s o,FSt C Og A Oh ns s₀ Oi W ok om ρ s->ag Γ ps ρ (om.map (·.1))=Fv o->WP (FN C.prog C.w) A (Iv st Oh) (dO C Og A Oh ns s₀ Oi W ok s o) s
theorem jn {st:Hs}:dA C Γ Og ns st .bad:=λA Oh s₀ Oi W ok om ρ s o F h=>a9 h
theorem oB {b:Bool} (h:(!b)=FE):b=Fz:=by
 cases b with
 |false=>rfl
 |true=>cases h
theorem iI {st:Hs} {c:Bool} {p:PS} (h:c=FE->dA C Γ Og ns st p):dA C Γ Og ns st (cg c p):=by
 cases c with
 |false=>exact jn
 |true=>exact h rfl
theorem bN {st:Hs} {x:Option α} {f:α->PS} (h: ∀a,x=Fv a->dA C Γ Og ns st (f a)):dA C Γ Og ns st (ob x f):=by
 cases x with
 |none=>exact jn
 |some a=>exact h a rfl
theorem kU {st:Hs} {c:Prop} [Decidable c] {p q:PS} (h1:c->dA C Γ Og ns st p) (h2: ¬c->dA C Γ Og ns st q):dA C Γ Og ns st (if c then p else q):=by
 by_cases hc:c
 ·rw [if_pos hc];exact h1 hc
 ·rw [if_neg hc];exact h2 hc
structure Tg (Og:List Gj) (ns:ay) (x:Gj):Prop where
 t:b8 ns x=FE
 m:x∈Og
theorem kP (h:(b8 ns x&&Og.contains x)=FE):Tg Og ns x:=cT h λh1 h2=>⟨h1,by simpa using h2⟩
theorem Bq (GO:an C Γ) {px:HW} (hx:Tg Og ns x) (PK:sE C.gl Og n ns e=Fv pe):dA C Γ Og ns (.Assign [.Name x px] e pos) (.set (Og.idxOf x) m pe):=by
 intro A Oh s₀ Oi W ok om ρ s o F h;refine aM (P:=λo=>WP _ A _ (dO C Og A Oh ns s₀ Oi W ok s o) s) h λv hv=> ?_;by_cases hc:fS e=FE
 ·exact xm ((cK GO n).e _ _ _ PK) (vN GO PK hc) hx.t hx.m F hv
 ·exact u_ (by simpa using hc) ((cK GO n).e _ _ _ PK) hx.t hx.m F hv
theorem Bs (S:cZ C Γ Og n) {px:HW} (hx:Tg Og ns x) (Pp:sL C.gl Og n ns es=Fv O_):dA C Γ Og ns (.Assign [.Name x px] (.List es lp) pos) (.own (Og.idxOf x) (.list O_)):=
 λA Oh s₀ Oi W ok om ρ s o F h=>ac h λv hv h=>ac (eP hv).1 λrs SK hv=>by obtain⟨hl,rfl⟩:=ai h;obtain⟨Oj,rfl⟩:=ai hv;exact xD F (S.l _ _ _ Pp A Oh _ ok s rs F.good0 SK) Oj hx.t hx.m hl
theorem yF {k:Gj} (h:Dj e=Fv k): ∃kd p,e= .Constant (.str k) kd p:=by
 cases e with
 |Constant c kd p=>
  cases c with
  |str s=>cases h;exact⟨kd,p,rfl⟩
  |_=>exact a9 h
 |_=>exact a9 h
theorem z6 (S:cZ C Γ Og n) {px:HW} {d:Expr} {q:Gj×Expr} (hx:Tg Og ns x) (h:dct d=Fv q) (Pp:sE C.gl Og n ns q.2=Fv pe):
  dA C Γ Og ns (.Assign [.Name x px] d pos) (.own (Og.idxOf x) (.dic1 q.1 pe)):=by
 cases d with
 |Dict ks vs dp=>
  revert Pp;refine cE h λk v hk hv Pp=>ac hk λk' h1 hk=>ac hk λe h2 hk=> ?_;cases cr h1;cases h2;cases cr hv;obtain⟨kd,kp,rfl⟩:=yF hk;refine λA Oh s₀ Oi W ok om ρ s o F h=>ac h λv hv h=> ?_;obtain⟨hl,rfl⟩:=ai h;exact aM (P:=λv=>WP _ A _ (dO C Og A Oh ns s₀ Oi W ok s (.next (ρ.set (Og.idxOf x) (Fv v)) _)) s) (eP hv).1 λu hu=>vm (S.e _ _ _ Pp) F hu hx.t hx.m hl
 |_=>exact a9 h
theorem ut (h:lst e=Fv es): ∃p,e= .List es p:=by
 cases e with
 |List y p=>cases h;exact⟨p,rfl⟩
 |_=>exact a9 h
theorem Bv (GO:an C Γ) {OJ:Gj->Nat} {px:HW} (hx:Tg Og ns x):dA C Γ Og ns (.Assign [.Name x px] e pos) (sA Og OJ (sE C.gl Og n ns) (sL C.gl Og n ns) x e):=
 have S:=cK (Og:=Og) GO n
 kU (λ_=>bN λ_ h=>bN λ_ Pp=>(ut h).elim λ_ h=>h▸Bs S hx Pp) λ_=>kU (λ_=>bN λ_ h=>bN λ_ Pp=>z6 S hx h Pp) λ_=>bN λ_ PK=>Bq GO hx PK
theorem xc {e:PE} {vs:List PE} (h:CS e=Fv vs):e= .tup vs:=by
 cases e with
 |tup y=>cases h;rfl
 |_=>exact a9 h
theorem ze {vs:List PV} (h:a_ ρ [i,j] vs=Fv ρ'): ∃a b,vs=[a,b]/\ρ'=(ρ.set i (Fv a)).set j (Fv b):=by
 cases vs with
 |nil=>exact a9 h
 |cons a vs=>
  cases vs with
  |nil=>exact a9 h
  |cons b vs=>
   cases vs with
   |nil=>cases h;exact⟨a,b,rfl,rfl⟩
   |cons=>exact a9 h
theorem z5 (GO:an C Γ):dA C Γ Og ns (.Assign [.Tuple es k tp] e pos) (sP Og ns (sE C.gl Og n ns) es e):=by
 refine bN λvs h0=>bN λp h1=>bN λx h2=>bN λy h3=>bN λq h4=>iI λhx=>iI λhy=>iI λhc=>bN λpe PK=>bN λO_ h5=> ?_;obtain⟨k',vp,rfl⟩:=yY h0;cases xc h5;obtain⟨px,e2⟩:=lg h2;obtain⟨py,e3⟩:=lg h3;have h1:=km h1;have h4:=km h4;rw [e2,e3]at h1;subst h1 h4;intro A Oh s₀ Oi W ok om ρ s o F h;refine ac h λvs PH h=>ac h λρ' hρ h=> ?_;cases h;obtain⟨v1,v2,rfl,rfl⟩:=ze hρ
 exact cT hc λh1 h2=>xg (by simpa using h1) (oB h2) ((cK GO n).e _ _ _ PK) (kP hx).t (kP hx).m (kP hy).t (kP hy).m F PH
theorem t9 {p:PT} {xs:List Nat} (h:wu p=Fv xs):p= .many xs:=by
 cases p with
 |one=>exact a9 h
 |many=>cases h;rfl
theorem z7 (GO:an C Γ):dA C Γ Og ns (.Assign [t] e pos) (sM Og ns (sE C.gl Og n ns) t e):=
 iI λhc=>bN λxs PJ=>bN λpe PK A Oh s₀ Oi W ok om ρ s o F h=>ac PJ λpt PJ hm=>ac h λv hv h=>ac h λρ' hρ h=>by cases t9 hm;cases h;exact cT hc λh1 h2=>zd (oB h1) (oB h2) ((cK GO n).e _ _ _ PK) PJ F hv hρ
theorem xO {q:Gj×Gj×List Expr} (h:D1 Og e=Fv q): ∃px ap cp,e= .Call (.Attribute (.Name q.1 px) q.2.1 ap) q.2.2 [] cp/\aC q.1=FE/\q.1∈Og/\(ap.endLine==cp.line)=FE:=
 ac h λc hc h=>ac h λt ht h=>ac h λx hx h=>cF h λhg h=>by cases h;obtain⟨px,e1⟩:=lg hx;have e2:=nu ht;rw [e1]at e2;exact cT hg λhg hl=>cT hg λhp hm=>⟨px,t.2.2,c.2.2,e2▸jL hc,hp,by simpa using hm,hl⟩
theorem z8 (S:cZ C Γ Og n) {px:HW} (hx:Tg Og ns x) (Pp:sL C.gl Og n ns es=Fv O_):dA C Γ Og ns (.AugAssign (.Name x px) .Add (.List es lp) pos) (.augL (Og.idxOf x) (.list O_)):=
 λA Oh s₀ Oi W ok om ρ s o F h=>ac h λa ha h=>ac h λb hb h=>by
  cases a with
  |list xs=>
   cases b with
   |list ys=>
    obtain⟨hc,rfl⟩:=ai h;refine ac (eP hb).1 λrs SK hv=> ?_;obtain⟨Oj,he⟩:=ai hv;cases he;exact Au (λs' F'=>S.l _ _ _ Pp A Oh _ ok s' _ F'.good0 SK) hx.t hx.m (kF ha) F ha hc.1 hc.2
   |_=>exact a9 h
  |_=>exact a9 h
theorem Bu (S:cZ C Γ Og n) {px:HW} (hx:Tg Og ns x) (PK:sE C.gl Og n ns e=Fv pe):dA C Γ Og ns (.AugAssign (.Name x px) op e pos) (.aug (Og.idxOf x) op m pe):=
 λA Oh s₀ Oi W ok om ρ s o F h=>ac h λa ha h=>ac h λb hb h=>ac h λc hc h=>by obtain⟨hh,rfl⟩:=ai h;exact CI (S.e _ _ _ PK) hx.t hx.m F ha hb hc hh.1 hh.2
theorem Bw (S:cZ C Γ Og n) {px:HW} (hp:aC x=FE) (hm:x∈Og) (hl:(ap.endLine==cp.line)=FE) (PK:sE C.gl Og n ns e=Fv pe):
  dA C Γ Og ns (.Expr (.Call (.Attribute (.Name x px) "append" ap) [e] [] cp) pos) (.app (Og.idxOf x) m pe):=
 λA Oh s₀ Oi W ok om ρ s o F h=>ac h λa ha h=>by
  cases a with
  |list xs=>
   refine ac h λv hv h=> ?_;obtain⟨hc,rfl⟩:=ai h;exact CK hp hm (kF ha) hl ⟨S.e _ _ _ PK,de PK⟩ F ha hv hc.1 hc.2.1 hc.2.2
  |_=>exact a9 h
theorem Bp (S:cZ C Γ Og n) {px:HW} (hp:aC x=FE) (hm:x∈Og) (hl:(ap.endLine==cp.line)=FE) (PK:sE C.gl Og n ns e=Fv pe):
  dA C Γ Og ns (.Expr (.Call (.Attribute (.Name x px) "update" ap) [e] [] cp) pos) (.upd (Og.idxOf x) pe):=
 λA Oh s₀ Oi W ok om ρ s o F h=>ac h λa ha h=>ac h λb hb h=>by
  cases a with
  |dictS ks us=>
   cases b with
   |dictS P3 Pe=>
    obtain⟨hc,rfl⟩:=ai h;exact Bl hp hm (kF ha) hl ⟨S.e _ _ _ PK,de PK⟩ F ha hb hc.1 hc.2
   |_=>exact a9 h
  |_=>exact a9 h
theorem Br {px:HW} (hp:aC x=FE) (hm:x∈Og) (hl:(ap.endLine==cp.line)=FE):
  dA C Γ Og ns (.Expr (.Call (.Attribute (.Name x px) "reverse" ap) [] [] cp) pos) (.rev (Og.idxOf x)):=
 λA Oh s₀ Oi W ok om ρ s o F h=>ac h λa ha h=>by
  cases a with
  |list xs=>
   obtain⟨hc,rfl⟩:=ai h;exact BC hp hm (kF ha) hl F ha hc.1 hc.2
  |_=>exact a9 h
theorem xl (GO:an C Γ) (OJ:Gj->Nat) (ns:ay) (n:Nat) (Q4: ∀Qx,iJ C Γ Og ns Qx (sSs C.gl Og OJ ns n Qx)) (st:Hs):dA C Γ Og ns st (sS C.gl Og OJ ns (n+1) st):=by
 have S:=cK (Og:=Og) GO n;cases st with
 |Assign ts e _=>
  refine bN λt ht=> ?_;cases cr ht;cases t with
  |Name x _=>exact iI λhx=>Bv GO (kP hx)
  |Tuple es _ _=>exact kU (λ_=>z5 GO) λ_=>z7 GO
  |_=>exact jn
 |AugAssign t op e _=>
  refine bN λx hx=> ?_;obtain⟨px,rfl⟩:=lg hx;refine iI λhx=>kU (λhc=>bN λes he=>bN λ_ Pp=> ?_) λ_=>bN λ_ PK=>Bu S (kP hx) PK;obtain⟨p,rfl⟩:=ut he;exact hc.1▸z8 S (kP hx) Pp
 |Return e _=>exact bN λe he=>bN λpe PK A Oh s₀ Oi W ok om ρ s o F h=>he▸aM (P:=λo=>WP _ A _ (dO C Og A Oh ns s₀ Oi W ok s o) s) h λv hv=>wl (S.e _ _ _ PK) F hv
 |If c a b _=>
  refine bN λpc TH A Oh s₀ Oi W ok om ρ s o F h=>ac h λt ht h=>C2 (pa:=[]) (pb:=[]) (S.t _ _ _ TH) F ht λs' F'=> ?_;cases t with
  |true=>exact Q4 a A Oh s₀ Oi W ok om ρ s' o F' h
  |false=>exact Q4 b A Oh s₀ Oi W ok om ρ s' o F' h
 |For t it body U4 _=>
  exact iI λhc=>cT hc λQ0 he=>M4.mp he▸bN λpt PJ=>bN λpi Qm A Oh s₀ Oi W ok om ρ s o F h=>ac h λxs Ri h=>
    Ch (λx=>ix Q0 Oh x) PJ F (C3 GO Qm F.good0 Ri) (λW ok om ρ s o F h=>Q4 body A Oh s₀ Oi W ok om ρ s o F h) h
 |While c body U4 _=>
  exact iI λhe=>M4.mp he▸bN λpc TH A Oh s₀ Oi W ok om ρ s o F h=>Bk (S.t _ _ _ TH) F (λW ok om ρ s o F h=>Q4 body A Oh s₀ Oi W ok om ρ s o F h) h
 |Expr e _=>
  refine bN λq hq=> ?_;obtain⟨px,ap,cp,rfl,hp,hm,hl⟩:=xO hq;obtain⟨x,m,args⟩:=q;refine kU (λhe=>iI λha=> ?_) λ_=>bN λe h1=>kU (λhe=>bN λ_ PK=> ?_) λ_=>kU (λhe=>bN λ_ PK=> ?_) λ_=>jn
  ·cases M4.mp ha;cases he;exact Br hp hm hl
  ·cases cr h1;cases he;exact Bw S hp hm hl PK
  ·cases cr h1;cases he;exact Bp S hp hm hl PK
 |_=>exact jn
theorem db (GO:an C Γ) (OJ:Gj->Nat) (ns:ay): ∀n,(∀st,dA C Γ Og ns st (sS C.gl Og OJ ns n st))/\ ∀Qx,iJ C Γ Og ns Qx (sSs C.gl Og OJ ns n Qx)
 |0=>⟨λst=>jn,λQx A Oh s₀ Oi W ok om ρ s o F h=>a9 h⟩
 |n+1=>by
  obtain⟨R1,Q4⟩:=db GO OJ ns n;refine⟨λst=>xl GO OJ ns n Q4 st,λQx=> ?_⟩;cases Qx with
  |nil=>
   intro A Oh s₀ Oi W ok om ρ s o F h;cases h;exact FK ⟨rfl,ok,om,F,.refl _ _ _,rfl⟩
  |cons st Qx=>
   intro A Oh s₀ Oi W ok om ρ s o F h;obtain⟨o',ho,h⟩:=FQ.mp h;refine GT ((R1 st A Oh s₀ Oi W ok om ρ s o' F ho).mono λf s₁ hP=> ?_);cases o' with
   |next ρ' Ot=>
    obtain⟨hf,ok',ON,F',T,Qg⟩:=hP;subst hf;haveI h':ag Γ (sSs C.gl Og OJ ns n Qx) ρ' (ON.map (·.1))=Fv o:=by rw [Qg];exact h
    exact(Q4 Qx A Oh s₀ Oi W ok' ON ρ' s₁ o F' h').mono λf s₂ h=>h.seq T
   |ret v=>
    cases h;obtain⟨u,hf,hx⟩:=hP;subst hf;exact⟨u,rfl,hx⟩
end
theorem k0 {k:Gj->Option HF}: ∀{bs:List (Gj×FR)} {m:Gj->Option FR},x∉bs.map (·.1)->bindL k bs m x=m x
 |[],m,_=>rfl
 |(n,v)::r,m,h=>by
  simp only [Gf,FS,not_or]at h;rw [bindL,k0 h.2];split
  ·simp [h.1]
  ·rfl
theorem nr {k:Gj->Option HF} {v:FR} (hk:k x=Fv .local): ∀{bs:List (Gj×FR)} {m:Gj->Option FR},(bs.map (·.1)).Nodup->(x,v)∈bs->bindL k bs m x=Fv v
 |[],m,_,h=>by cases h
 |(n,u)::r,m,hn,h=>by
  have Q1:=H3.mp hn;rw [bindL];rcases FS.mp h with h|h
  ·cases h
   rw [k0 Q1.1,if_pos hk,if_pos rfl]
  ·exact nr hk Q1.2 h
theorem ka {k:Gj->Option HF}: ∀{bs:List (Gj×FR)} {m:Gj->Option FR},x∉bs.map (·.1)->bindC k bs m x=m x
 |[],m,_=>rfl
 |(n,v)::r,m,h=>by
  simp only [Gf,FS,not_or]at h;rw [bindC,ka h.2];split
  ·rfl
  ·simp [h.1]
theorem nt {k:Gj->Option HF} {v:FR} (hk:k x≠Fv .local): ∀{bs:List (Gj×FR)} {m:Gj->Option FR},(bs.map (·.1)).Nodup->(x,v)∈bs->bindC k bs m x=Fv v
 |[],m,_,h=>by cases h
 |(n,u)::r,m,hn,h=>by
  have Q1:=H3.mp hn;rw [bindC];rcases FS.mp h with h|h
  ·cases h
   rw [ka Q1.1,if_neg hk,if_pos rfl]
  ·exact nt hk Q1.2 h
theorem fB: ∀{ns:List (Gj×HF)} {n:Nat} {Ok:List (Gj×Gb)},(Ok.lookup x).isSome=FE->((H7 n ns Ok).lookup x).isSome=FE
 |[],n,Ok,h=>h
 |(y,k)::r,n,Ok,h=>by
  unfold H7;split
  ·refine fB ?_
   rw [Hh];cases (x==y)<;>simp [h]
  ·exact fB h
theorem eg: ∀{ns:List (Gj×HF)} {n:Nat} {Ok:List (Gj×Gb)},(x,JV)∈ns->((H7 n ns Ok).lookup x).isSome=FE
 |[],n,Ok,h=>by cases h
 |(y,k)::r,n,Ok,h=>by
  unfold H7;rcases FS.mp h with h|h
  ·cases h
   exact fB (by simp)
  ·split
   ·exact eg h
   ·exact eg h
noncomputable def aG (Γ:Gam) (n:Nat) (params:List Nat) (ps:List PS) (args:List PV):Option PV:=do
 let ρ<-a_ (Gc n Fw) params args
 match<-ag Γ ps ρ []with
 | .ret v=>Fv v
 | .next _ _=>Fv .none
theorem lQ {x:Nat} {vs:List PV} (h:a_ ρ is vs=Fv ρ'):ρ'.get x=Fv pv->ρ.get x=Fv pv∨(x,pv)∈is.zip vs:=by
 refine dY h (λ_ h=> .inl h) λρ i is v vs ρ' _ ih hg=> ?_;refine(ih hg).elim (λq=> ?_) λq=> .inr (FU _ q);by_cases e:x=i
 ·subst e
  exact .inr ((FG (dM (pv:=pv) (o:=Fv v) q))▸FT)
 ·exact .inl ((aF e).symm.trans q)
theorem mB:Ρ.get (Gc n Fw) i=Fw:=by unfold Ρ.get;rw [List.getElem?_replicate];split<;>rfl
theorem t_ {γ:Type} {a:α} {b:β} {xs:List α}: ∀{ys:List β} {zs:List γ},zs.length=ys.length->(a,b)∈xs.zip ys-> ∃(c:γ) (i:Nat),xs[i]? =Fv a/\ys[i]? =Fv b/\zs[i]? =Fv c/\(a,c)∈xs.zip zs:=by
 induction xs with
 |nil=>exact λ_ h=>nomatch h
 |cons x xs ih=>
  intro ys zs hl h;cases ys with
  |nil=>exact nomatch h
  |cons y ys=>
   cases zs with
   |nil=>exact nomatch hl
   |cons z zs=>
    refine(FS.mp h).elim (λh=> ?_) λh=> ?_
    ·cases h;exact⟨z,0,rfl,rfl,rfl,FT⟩
    ·obtain⟨c,i,h1,h2,h3,h4⟩:=ih (II hl) h
     exact⟨c,i+1,h1,h2,h3,FU _ h4⟩
structure bX (C:Cx) (f:Gb) (o:N1) (fd:J8) (body:List Hs) (params:List Gj) (Og:List Gj):Prop where
 ho:C.H.get? f=Fv o
 data:o.data= .func fd
 lim:C.H.NoLimit
 code:ej C.H fd.code fd.qualname
 body:fd.body= .stmts body
 clo:fd.closure=[]
 glob:fd.globals=He
 blt:fd.builtins=Jw
 kind:fd.scope.kind= .function
 co:fd.scope.isCoroutine=Fz
 gen:fd.scope.isGenerator=Fz
 bind: ∀vs:List FR,vs.length=params.length->Np fd ⟨vs,[]⟩=pure (params.zip vs)
 nd:params.Nodup
 pn: ∀x∈params,x∈Og
 pk: ∀x∈params,fd.scope.names.lookup x=Fv .local∨fd.scope.names.lookup x=Fv .cell
 free: ∀p∈fd.scope.names,p.2≠ .free
theorem AOk.deeper (h:AOk (d+1) A):AOk d (A.deeper Oh):=
 ⟨h.1,by have:=h.2.1;show A.depth+1+d<950;exact FF (FI (Gh _ _ _)) this,by have:=h.2.2;show A.units+3+10*d+60<9900;lia⟩
noncomputable def w0:K4->FR
 | .ret v=>v
 |_=> .none
variable {params:List Gj}
theorem jH {f:Gb} {body:List Hs} (D:bX C f o fd body params Og) (Qc:Sys C.H)
  {args:List PV} (hρ:a_ (Gc Og.length Fw) (params.map Og.idxOf) args=Fv ρ)
  (hA:AOk (C.d+1) A) (hH:HK C.H s.heap) (ho:ce ok s.heap) (q:av C.prog C.w ok s.heap args vs)
  (k: ∀s₁,FSt C Og (A.deeper (Iw fd s.heap.objs.size f)) (Iw fd s.heap.objs.size f) fd.scope.names s ok (λ_=>False) (λb=>ok b/\ ¬bg (Iw fd s.heap.objs.size f) fd.scope.names b) [] ρ s₁->
   WP (FN C.prog C.w) (A.deeper (Iw fd s.heap.objs.size f)) (Iv body (Iw fd s.heap.objs.size f)) (λfl s'=>Q (w0 fl) s') s₁):
  WP (FN C.prog C.w) A (Jj (.ref f) vs) Q s:=by
 have Oj:params.length=args.length:=by simpa using(dX hρ).1
 have To:vs.length=params.length:=by rw [q.length,Oj]
 have QI:(params.zip vs).map (·.1)=params:=by rw [KN];exact FI (Ha To)
 refine Ni ?_;haveI UE: ∀x∈params.zip vs,fd.scope.names.lookup x.1=Fv .local∨(fd.scope.names.lookup x.1=Fv .cell/\((H7 (s.heap.objs.size+1) fd.scope.names []).lookup x.1).isSome=FE):=λx hx=>by
  have RU:x.1∈params:=by rw [<-QI];exact Gs (f:=(·.1)) hx
  rcases D.pk _ RU with h|h
  ·exact .inl h
  ·exact .inr ⟨h,eg (mem_of_lookup h)⟩
 refine codeAny_call_cells hA.room ((cx D.data).keep (hH _) D.ho) D.data (cX D.lim hH) (D.code.keep hH).rec D.body (D.bind vs To) D.clo UE (λs₁ X=> ?_) D.co D.gen D.kind;have E:cu (Iw fd s.heap.objs.size f) fd.scope.names:=by
  refine⟨D.kind,D.glob,D.blt,λ_=>rfl,λ_=>rfl,λx hx=> ?_,λx y c hx hy h1 h2=> ?_,λ_ h=>h⟩
  ·haveI:fd.scope.names.lookup x=Fv .cell:=by
    have RU:bu (fd.scope.names.lookup x)=FE:=hx;cases h:fd.scope.names.lookup x with
    |none=>rw [h]at RU;cases RU
    |some k=>
     rw [h]at RU;cases k<;>first|rfl|(exact absurd RU (by decide))|(exact absurd rfl (D.free _ (mem_of_lookup h)))
   exact Ho.mp (eg (mem_of_lookup this))
  ·exact name_of_addr X.apart (mem_of_lookup h1) (mem_of_lookup h2)
 have RP: ∀b,bg (Iw fd s.heap.objs.size f) fd.scope.names b->s.heap.objs.size<=b:=λb hb=>by
  rcases hb with rfl|⟨x,_,h⟩
  ·exact X.toInCall.fresh
  ·exact Gm (FF X.toInCall.fresh (X.above x b (mem_of_lookup h)))
 have FO:aE s₁.heap (Iw fd s.heap.objs.size f) fd.scope.names:=⟨⟨_,X.toInCall.ns⟩,λx hx=>by
  obtain⟨c,hc⟩:=E.cells x (by show bu (fd.scope.names.lookup x)=FE;rw [hx];rfl)
  exact⟨c,_,hc,X.cell x c hc⟩⟩
 haveI QY:=X.toInCall.same;have OR:s.heap.objs.size<=s₁.heap.objs.size:=by obtain⟨o,_,_,e,_⟩:=X.toInCall.ns;exact Fx X.toInCall.fresh (Gm (Hv e))
 have xt:Ext s s₁:=by obtain⟨h,tk,rfl⟩:=QY;exact⟨HK.of X.toInCall.keep,OR,λ_ _ e=>e,rfl⟩
 haveI F:FSt C Og (A.deeper (Iw fd s.heap.objs.size f)) (Iw fd s.heap.objs.size f) fd.scope.names s ok (λ_=>False) (λb=>ok b/\ ¬bg (Iw fd s.heap.objs.size f) fd.scope.names b) [] ρ s₁:=by
  refine⟨hA.deeper,E,xt,hH,Qc,FO, ?_,by rw [(dX hρ).2];simp,λb hb=> ?_,λb hb=>⟨ho b (Fx OR hb),λhh=> ?_⟩,λb hb=>⟨λh=>h.2 hb,RP b hb⟩,λb h=>h.1,ho,(λp hp=>absurd hp (by simp)),⟨HX,HX⟩,λb hb=>hb.elim⟩
  ·intro x pv hx hg
   have hg:ρ.get (Og.idxOf x)=Fv pv:=hg;rcases lQ hρ hg with h|h
   ·rw [mB]at h;cases h
   ·obtain⟨⟨y,v⟩,i,h1,h2,h3,h4⟩:=t_ (zs:=params.zip vs) (by rw [Mo,To,Ld,Oj]) h
    obtain⟨y',Rh,R3⟩: ∃y',params[i]? =Fv y'/\Og.idxOf y'=Og.idxOf x:=by rw [Gp]at h1;exact Gk.mp h1
    have TE:y'∈params:=FX Rh;haveI QA:y'=x:=by
     by_cases e:y'=x
     ·exact e
     ·exact absurd R3.symm (fj (D.pn y' TE) (J_ e))
    subst QA;obtain⟨v',VR,rv⟩:=q.get h2;have Ra:(y',v')∈params.zip vs:=by
     haveI:(params.zip vs)[i]? =Fv (y',v'):=by rw [MT];exact⟨Rh,VR⟩
     exact FX this
    have Ug:((params.zip vs).map (·.1)).Nodup:=by rw [QI];exact D.nd
    refine⟨v', ?_,rv.mono (λb hb ⟨o,e⟩=>⟨hb,λhh=>FV _ (Fy (aq e) (RP b hh))⟩) λb _ o e=>xt.keep b o e⟩;rcases D.pk y' TE with hk|hk
    ·exact .loc _ hk X.toInCall.ns (nr hk Ug Ra)
    ·obtain⟨c,hc⟩:=E.cells y' (by show bu (fd.scope.names.lookup y')=FE;rw [hk];rfl)
     refine .cel c (.inl hk) hc ?_;have:=X.cell y' c hc;rw [nt (by show fd.scope.names.lookup y'≠Fv .local;rw [hk];decide) Ug Ra]at this
     exact this
  ·rcases hb with rfl|⟨x,hx,h⟩
   ·exact nM X.toInCall.ns
   ·exact lL (X.cell x b h)
  ·obtain⟨o,e⟩:=FO.live hh
   rw [bH hb]at e;cases e
 exact Hy (E:=λ_ _=>False) (k _ F) (λfl _ h=>by cases fl<;>exact h) λ_ _ h=>h.elim
theorem dK {f:Gb} {body:List Hs} (D:bX C f o fd body params Og) (Qc:Sys C.H)
  (hS:iJ C Γ Og fd.scope.names body ps) {args:List PV} (hp:aG Γ Og.length (params.map Og.idxOf) ps args=Fv r):ah C.prog C.w C.H (C.d+1) f args r:=by
 intro A s ok vs hA hH ho hs q;obtain⟨ρ,hρ,hp⟩:=FQ.mp hp;obtain⟨out,WG,hp⟩:=FQ.mp hp;refine jH D Qc hρ hA hH ho q λs₁ F=>(hS _ _ s ok _ _ [] ρ s₁ out F WG).mono λfl s₂ hP=> ?_;cases out with
 |ret v=>
  cases hp;obtain⟨u,hf,hx,hr⟩:=hP;subst hf;exact⟨hx,hr⟩
 |next ρ' Ot=>
  cases hp;obtain⟨hf,ok',ON,F',_⟩:=hP;subst hf;exact⟨F'.x,rfl⟩
end UK
namespace UK
open PySem PySem.W PySem.Calls PyProof.Rows
def fE (g:Array Kn):Prop:= ∀x∈g,x.bare=FE
variable {s:FL} {g:Nat}
theorem fE.set {x:Kn} (h:fE s.gens) (hx:x.bare=FE):fE (s.setGen g x).gens:=by
 intro y hy;have hy:y∈s.gens.setIfInBounds g x:=hy;obtain⟨i,hi,rfl⟩:=Array.mem_iff_getElem.mp hy;rw [Array.getElem_setIfInBounds (by simpa using hi)]
 split
 ·exact hx
 ·exact h _ (O3 (by simpa using hi))
theorem fE.push {a:Array Kn} {x:Kn} (h:fE a) (hx:x.bare=FE):fE (a.push x):=by
 intro y hy;rcases Array.mem_push.mp hy with h'|h'
 ·exact h y h'
 ·rw [h'];exact hx
variable {M:MD} {p:HW} {fs:List Frame} {s':FL}
theorem jv {Γ:Ctx} {t:IH IK} {e:End} (h:Runs M Γ p t fs s e s'):fE s.gens->fE s'.gens:=by
 induction h with
 |done=>exact id
 |raise=>exact id
 |yield=>exact id
 |newGen _ ih=>intro hb;exact ih (hb.push rfl)
 |call _ _ R1 Q4=>exact λhb=>Q4 (R1 hb)
 |callSusp _ ih=>exact ih
 |resumeFresh _ _ hq _ R1 Q4=>exact λhb=>Q4 ((R1 (hb.set rfl)).set (JY hq))
 |resumeSuspended _ _ hq _ R1 Q4=>exact λhb=>Q4 ((R1 (hb.set rfl)).set (JY hq))
 |resumeThrowFresh _ _ ih=>exact λhb=>ih (hb.set rfl)
 |segRet _ _ R1 Q4=>exact λhb=>Q4 (R1 hb)
 |segGen _ _ R1 Q4=>exact λhb=>Q4 ((R1 hb).set rfl)
 |segSuspOut _ _ ih=>exact ih
 |segSuspGen _ _ hq _ R1 Q4=>exact λhb=>Q4 ((R1 hb).set (JY hq))
 |_=>assumption
theorem se {Γ:Ctx} {r:Resume} {Qy:GenResult} (h:Wakes M Γ p g r s Qy s') (hb:fE s.gens):fE s'.gens:=by
 unfold Wakes at h;split at h
 ·exact h.elim
 ·split at h
  ·obtain⟨_,_,hr,hq,_,rfl⟩:=h;exact(jv hr (hb.set rfl)).set (JY hq)
  ·rw [h.2];exact hb
  ·rw [h.2];exact hb.set rfl
 ·obtain⟨_,_,hr,hq,_,rfl⟩:=h;exact(jv hr (hb.set rfl)).set (JY hq)
 ·rw [h.2];exact hb
 ·rw [h.2];exact hb
variable {α:Type}
theorem yV (M:MD) (Γ:Ctx) (t:IH α): ∀(Q:α->HW->FL->Prop) (E:FR->HW->FL->Prop) (p:HW) (s:FL),fE s.gens->Jk M Γ t Q E p s->
  Jk M Γ t (λa p' s'=>fE s'.gens/\Q a p' s') (λe p' s'=>fE s'.gens/\E e p' s') p s:=by
 induction t with
 |pure a=>intro Q E p s hn h;exact⟨hn,h⟩
 |raise e=>intro Q E p s hn h;exact⟨hn,h⟩
 |unsupported _=>intro Q E p s _ h;exact h
 |finish _=>intro Q E p s _ h;exact h
 |rule _ k ih=>intro Q E p s hn h;exact ih () Q E p s hn h
 | «at» p' k ih=>intro Q E p s hn h;exact ih () Q E p' s hn h
 |load a _ k ih=>intro Q E p s hn ⟨o,ho,h⟩;exact⟨o,ho,ih o Q E p s hn h⟩
 |update a _ f k ih=>intro Q E p s hn h;exact⟨h.1,ih () Q E p _ hn h.2⟩
 |loadIfAlive a k ih=>intro Q E p s hn h;exact ih _ Q E p s hn h
 |point _ k ih=>intro Q E p s hn h;exact ih () Q E p s hn h
 |register _ _=>intro Q E p s _ h;exact h
 |alloc o k ih=>intro Q E p s hn h;exact ih _ Q E p _ hn h
 |fresh k ih=>intro Q E p s hn h;exact ih _ Q E p _ hn h
 |ask k ih=>intro Q E p s hn h;exact ih _ Q E p s hn h
 |choose src m k ih=>intro Q E p s hn h;exact⟨h.1,ih _ Q E p _ hn h.2⟩
 |os q _ k ih=>intro Q E p s hn h;exact ih _ Q E p _ hn h
 |call c hd _ _ k ih=>intro Q E p s hn ⟨r,s',hr,h⟩;exact⟨r,s',hr,ih r Q E p s' (jv hr hn) h⟩
 |handled own k ih=>intro Q E p s hn h;exact ih _ Q E p s hn h
 |genState g k ih=>intro Q E p s hn ⟨st,hs,h⟩;exact⟨st,hs,ih _ Q E p s hn h⟩
 |newGen c k ih=>intro Q E p s hn h;exact ih _ Q E p _ (hn.push rfl) h
 |resume g r _ k ih=>intro Q E p s hn ⟨Qy,s',hw,h⟩;exact⟨Qy,s',hw,ih Qy Q E p s' (se hw hn) h⟩
 |yield _ _ _ _=>intro Q E p s _ h;exact h
 |stack k ih=>intro Q E p s hn h;exact ih _ Q E p s hn h
 |fork _ _=>intro Q E p s _ h;exact h
 |thread k ih=>intro Q E p s hn h;exact ih _ Q E p s hn h
 |await _ _ _ _ _=>intro Q E p s _ h;exact h
variable {A:HB} {E:FR->FL->Prop}
theorem sa {t:IH α} {Q:α->FL->Prop} (hb:fE s.gens) (h:Ig M A t (λa s'=>fE s'.gens->Q a s') E s):Ig M A t Q E s:=
 Hy (λΓ p hΓ=>yV M Γ t _ _ p s hb (h Γ p hΓ):Ig M A t (λa s'=>fE s'.gens/\(fE s'.gens->Q a s')) (λe s'=>fE s'.gens/\E e s') s) (λ_ _ x=>x.2 x.1) (λ_ _ x=>x.2)
variable {prog:HE} {w:HR} {Y:Protocol} {n:Nat} {s₀:FL} {c:Code} {Oh:Lk} {K:K4->IH IK} {H:FR->IH IK} {target:Expr} {pos:HW} {I:Gb}
section
variable {R:GenEnd}
 {gd:Bool->Bool} {lv:List FR->List FR}
theorem ju {m:IH α} {K:α->IH IK} {gd lv}
  (h:WP (FN prog w) (A.over c fs) m (λa s'=>ND (FN prog w) A R Y n s₀ c (K a) fs s') s):ND (FN prog w) A R Y n s₀ c (m.wrap K H gd lv) fs s:=
 seg_wrap (Hy h (λ_ _ x=>x) λ_ _ x=>x.elim)
theorem c7 {β:Type} {m:IH α} {F:α->IH β} {K':β->IH IK} {H':FR->IH IK} {gd lv}
  (h:WP (FN prog w) (A.over c fs) m (λa s'=>ND (FN prog w) A R Y n s₀ c ((F a).wrap K' H' gd lv) fs s') s):ND (FN prog w) A R Y n s₀ c ((m>>=F).wrap K' H' gd lv) fs s:=
 seg_bind_wrap (Hy h (λ_ _ x=>x) λ_ _ x=>x.elim)
noncomputable def forFrame (Oh:Lk) (K:K4->IH IK) (H:FR->IH IK) (gd:Bool->Bool) (lv:List FR->List FR) (c:Code) (p:HW):Frame:=
 .ret (λr=>((match r with| .ok f=>(.pure f:IH K4)| .error e=> .raise e).onRaise fun(x:FR)=>do
    if(<-field x 1)==Value.none then LJ "frame.own-activation:exception-without-traceback"
    setFlight x Oh.frame).wrap K H gd lv) Fw (gd Fz) (lv []) c p []
theorem zf {iter:Expr} {body:List Hs} (hs: ∀x,Jn iter Oh x=pure x)
  (h:WP (FN prog w) (A.over c fs) (Hz iter Oh) (λx s₁=>WP (FN prog w) (A.over c fs) (LL x) (λit s₂=> ∀p,
   ND (FN prog w) A R Y n s₀ (.forLoop target it body [] Oh) ((FN prog w).den (.forLoop target it body [] Oh)) (forFrame Oh K H gd lv c p::fs) s₂) s₁) s):
  ND (FN prog w) A R Y n s₀ c ((K8 (.For target iter body [] pos) Oh).wrap K H gd lv) fs s:=by
 rw [exec_For];refine c7 (Jh ?_);refine c7 (h.mono λx s₁ h₁=> ?_);rw [hs];refine c7 (FK ?_);refine c7 (Jh ?_);refine c7 (WP.hold (h₁.mono λit s₂ h₂=> ?_));exact seg_call h₂
theorem jT {body:List Hs}
  (h:WP (FN prog w) (A.over (.forLoop target (.ref I) body [] Oh) fs) (L7 (.ref I)) (λr s₁=>match r with
   |none=>ND (FN prog w) A R Y n s₀ (.block [] Oh) (.pure (.done .next)) fs s₁
   |some v=>WP (FN prog w) (A.over (.forLoop target (.ref I) body [] Oh) fs) (I8 target (.ref I) v) (λ_ s₂=>
     WP (FN prog w) (A.over (.forLoop target (.ref I) body [] Oh) fs) (Iq target Oh v) (λ_ s₃=>
      ∀H,ND (FN prog w) A R Y n s₀ (.forLoop target (.ref I) body [] Oh) ((Iv body Oh).wrap (λf=>match f with
       | .next| .cont=> .pure (.again (.forLoop target (.ref I) body [] Oh))
       | .brk=> .pure (.done .next)
       | .ret v=> .pure (.done (.ret v))) H id id) fs s₃) s₂) s₁) s):
  ND (FN prog w) A R Y n s₀ (.forLoop target (.ref I) body [] Oh) ((FN prog w).den (.forLoop target (.ref I) body [] Oh)) fs s:=by
 show ND _ A R Y n s₀ _ ((forTurn target (.ref I) body [] Oh).onRaise (λx=>do MN x Oh;N7 x)) fs s
 unfold forTurn;rw [Sem.onRaise_eq_wrap];refine c7 (Jh ?_);refine c7 ?_;haveI hn:WP (FN prog w) (A.over (.forLoop target (.ref I) body [] Oh) fs) ((L7 (.ref I)).onRaise λ_=>HM {target.pos with line:=0}) _ s:=
  wpAny_onRaise (Hy h (λ_ _ x=>x) λ_ _ x=>x.elim)
 refine hn.mono λr s₁ h₁=> ?_;cases r with
 |none=>
  show ND _ A R Y n s₀ _ (.pure (.again (.block [] Oh))) fs s₁;refine NU rfl ?_;exact h₁
 |some v=>
  refine c7 (h₁.mono λ_ s₂ h₂=> ?_);refine c7 (h₂.mono λ_ s₃ h₃=> ?_);rw [Sem.bind_eq_wrap',Sem.wrap_wrap];refine Eq.mpr (congrArg (λt=>ND (FN prog w) A R Y n s₀ (.forLoop target (.ref I) body [] Oh) t fs s₃) (Sem.wrap_congr (Iv body Oh) id id (λf=> ?_) λe=>rfl)) (h₃ _);cases f<;>rfl
end
structure GE (C:Cx) (Oh:Lk) (ns:ay):Prop where
 e:cu Oh ns
 y:Sys C.H
 nc: ∀x,bu (Oh.kindOf x)=Fz
 lo:C.H.objs.size<=Oh.locals
structure GI (C:Cx) (Og:List Gj) (Oh:Lk) (ns:ay) (ρ:Ρ) (s:FL):Prop where
 h:HK C.H s.heap
 f:aE s.heap Oh ns
 r:cJ C.prog C.w Og (λ_=>False) s.heap Oh ρ
 l:ρ.length<=Og.length
 sc: ∀i v,ρ.get i=Fv v->gr v=FE
variable {C:Cx} {Γ:Gam} {Og:List Gj} {ns:ay} {Oy:FL} {ρ ρ':Ρ} {G:List Nat} {k:Nat} {Oi ok W ok':Gb->Prop} {ps:PS} {e:Expr} {pe:PE} {pv:PV} {v:FR} {x:Gj} {S:Nat->Ht->Prop} {h':Ht} {z:Gb}
section
theorem bw.refl (W:List Gb) (G:List Nat) (s:FL):bw W G s s:=⟨λ_ _ _ e=>e,λ_ _ _ e=>e,rfl,FH _⟩
theorem bw.trans {W:List Gb} (x:bw W G s s') (y:bw W G s' Oy):bw W G s Oy:=
 ⟨λb o h e=>y.keep b o h (x.keep b o h e),λi g h e=>y.gens i g h (x.gens i g h e),y.os.trans x.os,Fx x.size y.size⟩
theorem bw.wide {W W':List Gb} {G':List Nat} (x:bw W G s s') (h: ∀b∈W,b∈W') (h': ∀b∈G,b∈G'):bw W' G' s s':=
 ⟨λb o hb e=>x.keep b o (λq=>hb (h b q)) e,λi g hi e=>x.gens i g (λq=>hi (h' i q)) e,x.os,x.size⟩
theorem Ext.step {W:List Gb} (x:Ext s s'):bw W G s s':=⟨λb o _ e=>x.keep b o e,λi g _ e=>x.gens i g e,x.os,x.size⟩
theorem GE.reads (E:GE C Oh ns) {b:Gb} (h:bD Oh b):b=Oh.locals:=by
 rcases h with h|⟨x,h,_⟩
 ·exact h
 ·rw [E.nc x]at h;cases h
theorem GE.home (E:GE C Oh ns) {b:Gb} (h:bg Oh ns b):b=Oh.locals:=E.reads (h.reads E.e)
theorem GI.at (E:GE C Oh ns) (G:GI C Og Oh ns ρ s) (h:HK C.H s'.heap) (k: ∀o,vis s.heap Oh.locals=Fv o->vis s'.heap Oh.locals=Fv o):GI C Og Oh ns ρ s':=
 ⟨h,G.f.at λb hb o e=>by rw [E.home hb]at e ⊢;exact k o e,G.r.at (λb hb o e=>by rw [E.reads hb]at e ⊢;exact k o e) (λ_ h=>h.elim) λ_ _ h _=>h,G.l,G.sc⟩
theorem GI.live (G:GI C Og Oh ns ρ s): ∃o,vis s.heap Oh.locals=Fv o:=by obtain⟨m,n⟩:=G.f.L;exact nM n
theorem GI.ext (E:GE C Oh ns) (G:GI C Og Oh ns ρ s) (x:Ext s s'):GI C Og Oh ns ρ s':=G.at E (G.h.trans x.keep) λo e=>x.keep _ o e
noncomputable abbrev uA (s:FL):Gb->Prop:=λb=>s.heap.objs.size<=b
theorem GI.lo (E:GE C Oh ns) (G:GI C Og Oh ns ρ s):C.H.objs.size<=s.heap.objs.size:=by refine Hc λOH=> ?_;obtain⟨o,e⟩:=G.live;exact FV _ (Fy (Fy (aq e) (Gm OH)) E.lo)
theorem GI.fstK (E:GE C Oh ns) (G:GI C Og Oh ns ρ s) (hA:AOk C.d A) (hk:Oh.locals<k) (W5:k<=s.heap.objs.size):
  FSt C Og A Oh ns {s with heap:=C.H,gens:= #[]} (λb=>C.H.objs.size<=b) (λb=>(∃o,vis s.heap b=Fv o)/\b≠Oh.locals/\b<k) (λb=>k<=b) [] ρ s where
 a:=hA
 e:=E.e
 x:=⟨G.h,G.lo E,λi g e=>by simp at e,rfl⟩
 h:=HK.refl _
 y:=E.y
 f:=G.f
 r:=G.r.wide λ_ h=>h.elim
 l:=G.l
 v:=λb hb=>by rw [E.reads hb];exact G.live
 free:=λb h=>Fx W5 h
 home:=λb hb=>⟨λh=>by rw [E.home hb]at h;exact FV _ (Fy hk h),by rw [E.home hb];exact E.lo⟩
 sub:=λb h=>Fx (Gm (FF E.lo hk)) h
 free₀:=λb h=>h
 ow:=λp hp=>absurd hp (by simp)
 nd:=⟨HX,HX⟩
 w:=λb ⟨⟨o,e⟩,hb,hbk⟩=>⟨λh=>FV _ (Fy hbk h),λh=>hb (E.reads h),by simp,aq e⟩
theorem GI.fst (E:GE C Oh ns) (G:GI C Og Oh ns ρ s) (hA:AOk C.d A):
  FSt C Og A Oh ns {s with heap:=C.H,gens:= #[]} (λb=>C.H.objs.size<=b) (λb=>(∃o,vis s.heap b=Fv o)/\b≠Oh.locals) (uA s) [] ρ s:=
 (G.fstK E hA (by obtain⟨_,e⟩:=G.live;exact aq e) (FH _)).setW λb ⟨⟨o,e⟩,hb⟩=>⟨λh=>FV _ (Fy (aq e) h),λh=>hb (E.reads h),by simp,aq e⟩
theorem GI.of (E:GE C Oh ns) (F:FSt C Og A Oh ns s₀ Oi W ok [] ρ s) (Rj: ∀i v,ρ.get i=Fv v->gr v=FE):GI C Og Oh ns ρ s:=
 ⟨F.hk,F.f,λx pv hx hp=>by obtain⟨v,V,r⟩:=F.r x pv hx hp;exact⟨v,V,lE (Rj _ _ hp) r⟩,F.l,Rj⟩
theorem GI.step (T:Tr (λb=>(∃o,vis s.heap b=Fv o)/\b≠Oh.locals) ok ok' s s') (sz:s.heap.objs.size<=s'.heap.objs.size):bw [Oh.locals] [] s s':=
 ⟨λb o hb e=>T.keep b o (.inr ⟨⟨o,e⟩,by simpa using hb⟩) e,λi g _ e=>T.gens i g e,T.os,sz⟩
theorem GI.run (E:GE C Oh ns) (G:GI C Og Oh ns ρ s) (hA:AOk C.d A) {st:Hs} (hS:dA C Γ Og ns st ps) (hp:ak Γ ps ρ []=Fv (.next ρ' [])) (Rj: ∀i v,ρ'.get i=Fv v->gr v=FE):
  WP (FN C.prog C.w) A (K8 st Oh) (λf s'=>f= .next/\GI C Og Oh ns ρ' s'/\bw [Oh.locals] [] s s') s:=by
 refine WP.size ((hS A Oh _ _ _ _ [] ρ s _ (G.fst E hA) hp).mono λf s' hP sz=> ?_);obtain⟨hf,ok',ON,F',T,Qg⟩:=hP;haveI:ON=[]:=by simpa using Qg
 subst this;exact⟨hf,GI.of E F' Rj,GI.step T sz⟩
theorem GI.test (E:GE C Oh ns) (G:GI C Og Oh ns ρ s) (hA:AOk C.d A) {b:Bool} (h:dQ C Γ Og ns e pe) (hp:bt Γ pe ρ=Fv b):
  WP (FN C.prog C.w) A (isTrue e Oh (Hz e Oh)) (λb' s'=>b'=b/\Ext s s') s:=(G.fst E hA).goodT h hp
theorem GI.eval (E:GE C Oh ns) (G:GI C Og Oh ns ρ s) (hA:AOk C.d A) {v:PV} (h:aJ C Γ Og ns e pe) (hp:pev Γ pe ρ=Fv v):
  WP (FN C.prog C.w) A (NK e Oh) (Ev C (uA s) v s) s:=h A Oh ρ _ s v (G.fst E hA).good0 hp
theorem GI.bind (E:GE C Oh ns) (G:GI C Og Oh ns ρ s) (hA:AOk C.d A) {tgt:Expr} {pt:PT} (ht:sPT Og ns tgt=Fv pt) (hb:aT ρ pt pv=Fv ρ') (Rj: ∀i v,ρ'.get i=Fv v->gr v=FE)
 (hk:Oh.locals<k) (W5:k<=s.heap.objs.size) (r:Rep C.prog C.w (λb=>k<=b) s.heap pv v):
  WP (FN C.prog C.w) A (Iq tgt Oh v) (λ_ s'=>GI C Og Oh ns ρ' s'/\bw [Oh.locals] [] s s') s:=by
 refine WP.size (((G.fstK E hA hk W5).bind ht hb r).mono λ_ s' ⟨F,T⟩ sz=>⟨GI.of E F Rj,λb o hb e=>T.keep b o ?_ e,λi g _ e=>T.gens i g e,T.os,sz⟩);rcases J7 b k with h|h
 ·exact .inr ⟨⟨o,e⟩,by simpa using hb,h⟩
 ·exact .inl h
theorem nv {px:HW} (E:GE C Oh ns) (G:GI C Og Oh ns ρ s) (hx:b8 ns x=FE) (hm:x∈Og) (Rj:gr pv=FE) (hc:fS e=Fz)
  (he:WP (FN C.prog C.w) A (NK e Oh) (λu s'=>(∀h,Rep C.prog C.w (λ_=>False) h pv u)/\ ∃k,s'={s with toks:=k}) s):
  WP (FN C.prog C.w) A (K8 (.Assign [.Name x px] e pos) Oh) (λf s'=>f= .next/\GI C Og Oh ns (ρ.set (Og.idxOf x) (Fv pv)) s'/\bw [Oh.locals] [] s s'/\s'.heap.objs.size=s.heap.objs.size) s:=by
 rw [asg];refine WP.at ?_;refine FJ (Hx (a:=Fz) (mr.trans (aW hc)) ?_);simp only [Gy,if_false];refine WP.then he λu s₁ ⟨hu,k,hs₁⟩=> ?_;subst hs₁;rw [cj];refine FJ (FK ?_);show WP _ A (Iq (.Name x px) Oh u>>=λ_=>(pure Flow.next:IH K4)) _ _
 refine WP.bind (lB (s:={s with toks:=k}) E.e G.f hx λh' a tk ha hs OD hF hV Ru=>FK ⟨rfl, ?_, ?_,hs.1⟩)
 ·have TB:a=Oh.locals:=E.home ha
  subst TB;refine⟨λb o e=>az hs OD (λq=>FV _ (Fy (aq e) (q▸E.lo))) (G.h b o e),hF, ?_,by simpa using G.l,λi v hv=> ?_⟩
  ·exact G.r.set hm hV Ru (λ_ h=>h.elim) (hu _)
  ·by_cases q:i=Og.idxOf x
   ·subst q;have:=dM hv;cases this;exact Rj
   ·rw [aF q]at hv;exact G.sc i v hv
 ·have TB:a=Oh.locals:=E.home ha
  subst TB;exact⟨λb o hb e=>az hs OD ((by simpa using hb)) e,λ_ _ _ e=>e,rfl,FI hs.1.symm⟩
def EnW (prog:HE) (w:HR) (z:Gb) (x:Gj) (S:Nat->Ht->Prop):Prop:=
 ∃M,(∀A:HB,A.handled=Fw->Oa prog w A (z+1) [z+1,z] [z+1,z] x.cps.size (λi vals=> ∃t u c,x.cps[i]? =Fv c/\vals= #[.int i t,.str ⟨#[c]⟩ u]) S M)/\(∀i T h,M i T h-> ∀b∈[z+1,z],∀o,h.get? b=Fv o->aK o)/\ ∀i h,S i h->(∃o,h.get? z=Fv o/\ct o)/\ ∃o,h.get? (z+1)=Fv o/\ct o
theorem Oa.conv {fp wr:List Gb} {P P':Nat->Array FR->Prop} {M:Nat->Gb->Ht->Prop} (h:Oa prog w A I fp wr n P S M) (hp: ∀i v,P i v->P' i v):
  Oa prog w A I fp wr n P' S M:=⟨h.sub,h.frame,λi s Q E hi hS hQ=>h.item i s Q E hi hS λT vals h' tk hP=>hQ T vals h' tk (hp _ _ hP),h.go,h.apart,h.done,h.self⟩
theorem yn {t:MR} (he:IsEnum h' (z+1) z 0 .none) (hi:h'.IsStrIter z (strIterType x) x t 0): ∃S,EnW C.prog C.w z x S/\S 0 h':=by
 have key: ∀ty,h'.IsStrIter z ty x t 0->(∀A:HB,A.handled=Fw->Draws C.prog C.w A z [z] x.cps.size (λi v=> ∃c u,x.cps[i]? =Fv c/\v= .str ⟨#[c]⟩ u) (λi h=>h.IsStrIter z ty x t i))-> ∃S,EnW C.prog C.w z x S/\S 0 h':=by
  intro ty hi hD;refine⟨_,⟨_,λA hA=>Oa.conv (WalksT.enumerateD (hD A.in1 hA) (z+1) (Md _) (λhb=>Md _ (G4.mp hb)) (by simp)) ?_, ?_, ?_⟩,⟨_,he⟩,hi⟩
  ·rintro i v ⟨t,y,⟨c,u,hc,rfl⟩,rfl⟩
   exact⟨t,u,c,hc,rfl⟩
  ·rintro i T h ⟨⟨x,h1⟩,⟨o2,h2,c2,d2⟩,_⟩ b hb o e
   rcases FS.mp hb with rfl|hb
   ·rw [h1]at e;cases e
    exact(eC rfl rfl λq t h=>by injection h with h;cases h).1
   ·rw [G4.mp hb,h2]at e;cases e
    exact(eC c2 d2 λq t=>by simp).1
  ·rintro i h ⟨⟨old,h1⟩,o,h2,c,d⟩
   exact⟨⟨o,h2,eC c d λq t=>by simp⟩,_,h1,eC rfl rfl λq t h=>by injection h with h;cases h⟩
 unfold strIterType at hi;split at hi
 ·exact key _ hi λA hA=>Draws.strAscii hA _ x t
 ·exact key _ hi λA hA=>Draws.strWide hA _ x t
end
noncomputable def ax (p:Int) (esc:Bool):List Nat->List PV
 |[]=>if esc=FE then [.tuple [.int (p-1),.str ⟨#[92]⟩]]else []
 |c::cs=>if esc=FE then .tuple [.int p,.str ⟨#[92,c]⟩]::ax (p+1) Fz cs
  else if c=92 then ax (p+1) FE cs else .tuple [.int p,.str ⟨#[c]⟩]::ax (p+1) Fz cs
variable {esc:Bool}
theorem AX {p:Int}:ax p esc []=if esc=FE then [.tuple [.int (p-1),.str ⟨#[92]⟩]]else []:=rfl
theorem AY {p:Int} {c:Nat} {cs:List Nat}:ax p esc (c::cs)=if esc=FE then .tuple [.int p,.str ⟨#[92,c]⟩]::ax (p+1) Fz cs
  else if c=92 then ax (p+1) FE cs else .tuple [.int p,.str ⟨#[c]⟩]::ax (p+1) Fz cs:=rfl
structure fA (C:Cx) (Γ:Gam) (Og:List Gj) (ns:ay)where
 st1:Hs
 st2:Hs
 st3:Hs
 st4:Hs
 iter:Expr
 c1:Expr
 c2:Expr
 c3:Expr
 y1:Expr
 y2:Expr
 y3:Expr
 te:List Expr
 tk:Nat
 tp:HW
 p1:HW
 p2:HW
 p3:HW
 p4:HW
 p5:HW
 p6:HW
 p7:HW
 p8:HW
 p9:HW
 p10:HW
 x1: ∀A Oh ρ s,GE C Oh ns->GI C Og Oh ns ρ s->WP (FN C.prog C.w) A (K8 st1 Oh) (λf s'=>f= .next/\GI C Og Oh ns (ρ.set 1 (Fv (.int 0))) s'/\bw [Oh.locals] [] s s'/\s'.heap.objs.size=s.heap.objs.size) s
 x2: ∀A Oh ρ s,GE C Oh ns->GI C Og Oh ns ρ s->WP (FN C.prog C.w) A (K8 st2 Oh) (λf s'=>f= .next/\GI C Og Oh ns (ρ.set 2 (Fv (.bool Fz))) s'/\bw [Oh.locals] [] s s'/\s'.heap.objs.size=s.heap.objs.size) s
 x3:dA C Γ Og ns st3 (.set 2 0 (.cB Fz))
 x4:dA C Γ Og ns st4 (.set 2 0 (.cB FE))
 t1:dQ C Γ Og ns c1 (.var 2)
 t2:dQ C Γ Og ns c2 (.cmp .Eq (.var 3) (.cS ⟨#[92]⟩))
 t3:dQ C Γ Og ns c3 (.var 2)
 e1:aJ C Γ Og ns y1 (.tup [.var 1,.bin .Add (.cS ⟨#[92]⟩) (.var 3)])
 e2:aJ C Γ Og ns y2 (.tup [.var 1,.var 3])
 e3:aJ C Γ Og ns y3 (.tup [.var 1,.cS ⟨#[92]⟩])
 tg:sPT Og ns (.Tuple te tk tp)=Fv (.many [1,3])
 it: ∀A Oh ρ s x,GE C Oh ns->GI C Og Oh ns ρ s->ρ.get 0=Fv (.str x)->WP (FN C.prog C.w) A (NK iter Oh) (λr s'=> ∃t h',r= .ref (s.heap.objs.size+1)/\s'={s with heap:=h'}/\IsEnum h' (s.heap.objs.size+1) s.heap.objs.size 0 .none/\h'.IsStrIter s.heap.objs.size (strIterType x) x t 0/\HK s.heap h') s
 fs: ∀Oh x,Jn iter Oh x=pure x
namespace fA
variable(G:fA C Γ Og ns)
noncomputable def loopBody:List Hs:=[.If G.c1 [.Expr (.Yield (Fv G.y1) G.p1) G.p2,G.st3] [.If G.c2 [G.st4] [.Expr (.Yield (Fv G.y2) G.p3) G.p4] G.p5] G.p6]
noncomputable def tail:List Hs:=[.If G.c3 [.Expr (.Yield (Fv G.y3) G.p7) G.p8] [] G.p9]
noncomputable def body:List Hs:=[G.st1,G.st2,.For (.Tuple G.te G.tk G.tp) G.iter G.loopBody [] G.p10]++G.tail
end fA
variable {items dn xs:List PV} {i d:Nat} {pp ch:Option PV} {h:Ht}
section
noncomputable abbrev zone (Oh:Lk) (z:Gb):List Gb:=[Oh.locals,z,z+1]
noncomputable def cL (C:Cx) (Oh:Lk) (z:Gb) (items:List PV):Protocol:=λm s₀ v s kap=>
 (∃pv,items[items.length-1-m]? =Fv pv/\Rep C.prog C.w (λb=>s₀.heap.objs.size<=b/\b∉zone Oh z) s.heap pv v)/\bw (zone Oh z) [] s₀ s/\(∀b∈zone Oh z,b<s.heap.objs.size)/\
  ∀Oy:FL,HK C.H Oy.heap->s.heap.objs.size<=Oy.heap.objs.size->(∀b∈zone Oh z,∀o,vis s.heap b=Fv o->vis Oy.heap b=Fv o)->kap (.send .none) Oy
noncomputable def eU (Oh:Lk) (z:Gb):GenEnd:=λn s₀ r s₁=>r= .ok (.ret .none)/\(n=0/\bw (zone Oh z) [] s₀ s₁)
theorem iZ {x:PV} (h:items=dn++x::xs):items[items.length-1-xs.length]? =Fv x:=by
 subst h;haveI:(dn++x::xs).length-1-xs.length=dn.length:=by simp
 rw [this,List.getElem?_append_right (FH _),La];rfl
structure i9 (C:Cx) (Og:List Gj) (Oh:Lk) (ns:ay) (z:Gb) (x:Gj) (S:Nat->Ht->Prop) (i:Nat) (pp:Option PV) (esc:Bool) (ch:Option PV) (s:FL):Prop where
 g:GI C Og Oh ns [Fv (.str x),pp,Fv (.bool esc),ch] s
 st:S i s.heap
 hz:C.H.objs.size<=z
 ne:Oh.locals≠z/\Oh.locals≠z+1
theorem i9.live (W:EnW C.prog C.w z x S) (L:i9 C Og Oh ns z x S i pp esc ch s): ∀b∈zone Oh z,b<s.heap.objs.size:=by
 intro b hb;obtain⟨M,_,_,hl⟩:=W;obtain⟨h1,h2⟩:=hl i _ L.st;simp only [FS,HU,or_false]at hb;rcases hb with rfl|rfl|rfl
 ·obtain⟨o,e⟩:=L.g.live;exact aq e
 ·obtain⟨o,e,_⟩:=h1;exact Hv e
 ·obtain⟨o,e,_⟩:=h2;exact Hv e
theorem EnW.frame (W:EnW C.prog C.w z x S) (hS:S i h) (k: ∀b,b=z∨b=z+1-> ∀o,vis h b=Fv o->vis h' b=Fv o):S i h':=by
 obtain⟨M,hw,_,hl⟩:=W;obtain⟨⟨o1,e1,n1⟩,o2,e2,n2⟩:=hl i _ hS;refine(hw {} rfl).frame i h h' hS λb hb o e=> ?_;simp only [FS,HU,or_false]at hb;rcases hb with rfl|rfl
 ·rw [e]at e2;cases e2;exact n2.keep (k _ (.inr rfl)) e
 ·rw [e]at e1;cases e1;exact n1.keep (k _ (.inl rfl)) e
theorem i9.keep (E:GE C Oh ns) (W:EnW C.prog C.w z x S) (L:i9 C Og Oh ns z x S i pp esc ch s) (hk:HK C.H s'.heap)
  (k: ∀b∈zone Oh z,∀o,vis s.heap b=Fv o->vis s'.heap b=Fv o):i9 C Og Oh ns z x S i pp esc ch s':=
 ⟨L.g.at E hk λo e=>k _ (by simp) o e,W.frame L.st λb hb o e=>k b (by rcases hb with rfl|rfl<;>simp) o e,L.hz,L.ne⟩
theorem i9.with {pp' ch':Option PV} {Uo:Bool} (W:EnW C.prog C.w z x S) (L:i9 C Og Oh ns z x S i pp esc ch s) (g:GI C Og Oh ns [Fv (.str x),pp',Fv (.bool Uo),ch'] s')
  (T:bw [Oh.locals] [] s s'):i9 C Og Oh ns z x S i pp' Uo ch' s':=
 ⟨g,W.frame L.st λb hb o e=>T.keep b o (by rcases hb with rfl|rfl<;>simp [J_ L.ne.1,J_ L.ne.2]) e,L.hz,L.ne⟩
theorem sc4 (h1: ∀v,pp=Fv v->gr v=FE) (h2: ∀v,ch=Fv v->gr v=FE): ∀(i:Nat) v,Ρ.get [Fv (PV.str x),pp,Fv (.bool esc),ch] i=Fv v->gr v=FE:=by
 intro i v h
 match i,h with
 |0,h=>cases h;rfl
 |1,h=>exact h1 v h
 |2,h=>cases h;rfl
 |3,h=>exact h2 v h
 |n+4,h=>simp [Ρ.get]at h
theorem AOk.over1 {body:List Hs} (h:AOk (d+1) A):AOk d (A.over (.func body Oh) []):=
 ⟨h.1,by have:=h.2.1;show A.depth+0+1+d<950;exact FF (FI (Gh _ _ _)) this,by have:=h.2.2;show A.units+0+3+10*d+60<9900;lia⟩
theorem AOk.over2 {body b2:List Hs} {Xd:Lk} {t:Expr} {K H gd lv p} (h:AOk (d+1) A):AOk d (A.over (.forLoop t v b2 [] Xd) [forFrame Oh K H gd lv (.func body Oh) p]):=
 ⟨h.1,by have:=h.2.1;show A.depth+(1+0)+0+d<950;exact FF (FI (LW _ _)) this,by have:=h.2.2;show A.units+(3+0)+0+10*d+60<9900;lia⟩
end
section
theorem jF {y:Expr} {yp:HW} {gd:Bool->Bool} {lv:List FR->List FR}
  (hfs:splitAtGen fs=Fw) (W9:gd Fz=Fz) (SR:fs.any Frame.guarded=Fz) (hA:AOk C.d (A.over c fs)) (E:GE C Oh ns) (Ro:Oh.scope.isCoroutine=Fz)
  (g:GI C Og Oh ns ρ s) (hz: ∀b∈zone Oh z,b<s.heap.objs.size) (hE:aJ C Γ Og ns y pe) (hp:pev Γ pe ρ=Fv pv) (hs:bw (zone Oh z) [] s₀ s) (hi:items[items.length-1-n]? =Fv pv)
  (next: ∀Oy:FL,HK C.H Oy.heap->s.heap.objs.size<=Oy.heap.objs.size->(∀b∈zone Oh z,∀o,vis s.heap b=Fv o->vis Oy.heap b=Fv o)->ND (FN C.prog C.w) A (eU Oh z) (cL C Oh z items) n Oy c (K .next) fs Oy):
  ND (FN C.prog C.w) A (eU Oh z) (cL C Oh z items) (n+1) s₀ c ((K8 (.Expr (.Yield (Fv y) yp) pos) Oh).wrap K H gd lv) fs s:=by
 haveI Q6:Jb Oh=Fz:=by unfold Jb;rw [E.e.kind];rfl
 refine seg_Expr_Yield hfs W9 SR (Hy (g.eval E hA hE hp) (λv s' ⟨xt,r⟩ kap hk=> ?_) λ_ _ h=>h.elim) Ro Q6;refine⟨⟨pv,hi,r.mono (λb hb _=>⟨Fx hs.size hb,λq=> ?_⟩) λ_ _ _ e=>e⟩,hs.trans xt.step,λb hb=>Fy (hz b hb) xt.size,λOy hH OR hkp=>hk .none Oy (next Oy hH (Fx xt.size OR) λb hb o e=>hkp b hb o (xt.keep _ _ e))⟩
 exact FV _ (Fy (hz b q) hb)
theorem rE {R:GenEnd} {a b:List Hs} {gd:Bool->Bool} {lv:List FR->List FR} {t:Bool}
  (hc:WP (FN C.prog C.w) (A.over c fs) (isTrue e Oh (Hz e Oh)) (λb' s'=>b'=t/\Ext s s') s)
  (h: ∀s',Ext s s'->ND (FN C.prog C.w) A R Y n s₀ c ((if t=FE then Iv a Oh else Iv b Oh).wrap K H gd lv) fs s'):
  ND (FN C.prog C.w) A R Y n s₀ c ((K8 (.If e a b pos) Oh).wrap K H gd lv) fs s:=by
 rw [exec_If];refine c7 (Jh ?_);refine c7 (hc.mono λb' s' ⟨hb,x⟩=> ?_);subst hb;exact h s' x
theorem yh (G:fA C Γ Og ns)
  (hA:AOk C.d (A.over c [])) (E:GE C Oh ns) (Ro:Oh.scope.isCoroutine=Fz) (hK:K .next= .pure (.done (.ret .none))) (g:GI C Og Oh ns [Fv (.str x),pp,Fv (.bool esc),ch] s) (hz: ∀b∈zone Oh z,b<s.heap.objs.size) (hs:bw (zone Oh z) [] s₀ s)
  (hi:items=dn++ax i esc []) (Vc:esc=FE->pp=Fv (.int (i-1))):
  ND (FN C.prog C.w) A (eU Oh z) (cL C Oh z items) (ax i esc []).length s₀ c ((Iv G.tail Oh).wrap K H id id) [] s:=by
 unfold fA.tail;refine Im ?_;refine rE (t:=esc) (g.test E hA G.t3 (by show bt Γ (.var 2) _=Fv esc;rfl)) λs₁ x₁=> ?_
 have g₁:=g.ext E x₁;have fin: ∀{n:Nat} {s₀ s₁:FL},n=0->bw (zone Oh z) [] s₀ s₁->ND (FN C.prog C.w) A (eU Oh z) (cL C Oh z items) n s₀ c ((Iv [] Oh).wrap K H id id) [] s₁:=by intro n s₀ s₁ hn Rq;refine Ii ?_;rw [hK];exact seg_end (.ok (.ret .none)) ⟨rfl,hn,Rq⟩
 cases esc with
 |false=>
  simp only [Gy,if_false];refine Ii ?_;exact fin rfl (hs.trans x₁.step)
 |true=>
  simp only [if_true];rw [Vc rfl]at g₁;refine Im ?_;haveI Oj:(ax i FE []).length=0+1:=rfl;rw [Oj];refine jF (pv:= .tuple [.int (i-1),.str ⟨#[92]⟩]) rfl rfl rfl hA E Ro g₁ (λb hb=>Fy (hz b hb) x₁.size) G.e3 ?_ (hs.trans x₁.step) ?_ λs₂ _ _ _=> ?_
  ·show(Fv (PV.tuple [PV.int (i-1),PV.str ⟨#[92]⟩]))=_
   rfl
  ·exact iZ (xs:=[]) hi
  ·refine Ii ?_
   exact fin rfl (bw.refl _ _ _)
end
variable {rest:List Hs} {o:N1}
section
theorem wk {R:GenEnd} {st:Hs} {gd:Bool->Bool} {lv:List FR->List FR}
  (E:GE C Oh ns) (g:GI C Og Oh ns ρ s) (hA:AOk C.d (A.over c fs)) (hS:dA C Γ Og ns st ps) (hp:ak Γ ps ρ []=Fv (.next ρ' [])) (Rj: ∀i v,ρ'.get i=Fv v->gr v=FE)
  (h: ∀s',GI C Og Oh ns ρ' s'->bw [Oh.locals] [] s s'->ND (FN C.prog C.w) A R Y n s₀ c ((Iv rest Oh).wrap K H gd lv) fs s'):
  ND (FN C.prog C.w) A R Y n s₀ c ((Iv (st::rest) Oh).wrap K H gd lv) fs s:=by
 refine Im (ju ((g.run E hA hS hp Rj).mono λf s' ⟨hf,g',T⟩=> ?_));subst hf;exact h s' g' T
theorem gf {x:PV} (h:gr x=FE): ∀v,Fv x=Fv v->gr v=FE:=λv e=>FG e▸h
theorem rO {a:Gb} (h1:a≠z+1) (h2:a≠z):a∉[z+1,z]:=λq=>(FS.mp q).elim h1 λq=>h2 (G4.mp q)
theorem Dm {H:Ht} (h:H.objs.size<=z) {b:Gb} (e:vis H b=Fv o):b∉[z+1,z]:=
 have l:b<z:=Fy (aq e) h
 rO (GK (IQ l)) (GK l)
theorem uy {b:Gb} (q:b∈[z+1,z]):b∈zone Oh z:=(FS.mp q).elim (λq=>by rw [q];simp) λq=>by rw [G4.mp q];simp
theorem gY (T:bw [Oh.locals] [] s s'):bw (zone Oh z) [] s s':=T.wide (λb hb=>by rw [G4.mp hb];simp) λ_ h=>h
theorem yk (G:fA C Γ Og ns) {b0:List Hs} {gd:Bool->Bool} {lv:List FR->List FR}
  (hA:AOk (C.d+1) A) (E:GE C Oh ns) (W:EnW C.prog C.w z x S) (Ro:Oh.scope.isCoroutine=Fz) (W9:gd Fz=Fz)
  (WO: ∀(i:Nat) (pp ch:Option PV) (esc:Bool) (s s₀:FL) (dn:List PV),items=dn++ax i esc []->(esc=FE->pp=Fv (.int (i-1)))->GI C Og Oh ns [Fv (.str x),pp,Fv (.bool esc),ch] s->(∀b∈zone Oh z,b<s.heap.objs.size)->bw (zone Oh z) [] s₀ s->
   ND (FN C.prog C.w) A (eU Oh z) (cL C Oh z items) (ax i esc []).length s₀ (.func b0 Oh) (K .next) [] s):
  ∀(cs:List Nat) (i:Nat) (esc:Bool) (pp ch:Option PV) (s s₀:FL) (dn:List PV),x.cps.toList.drop i=cs->i<=x.cps.size->(∀v,pp=Fv v->gr v=FE)->(∀v,ch=Fv v->gr v=FE)->items=dn++ax i esc cs->(esc=FE->pp=Fv (.int (i-1)))->
   i9 C Og Oh ns z x S i pp esc ch s->bw (zone Oh z) [] s₀ s->
   ND (FN C.prog C.w) A (eU Oh z) (cL C Oh z items) (ax i esc cs).length s₀ (.forLoop (.Tuple G.te G.tk G.tp) (.ref (z+1)) G.loopBody [] Oh)
    ((FN C.prog C.w).den (.forLoop (.Tuple G.te G.tk G.tp) (.ref (z+1)) G.loopBody [] Oh)) [forFrame Oh K H gd lv (.func b0 Oh) p] s:=by
 have Sr:AOk C.d (A.over (.forLoop (.Tuple G.te G.tk G.tp) (.ref (z+1)) G.loopBody [] Oh) [forFrame Oh K H gd lv (.func b0 Oh) p]):=hA.over2;have SR:[forFrame Oh K H gd lv (.func b0 Oh) p].any Frame.guarded=Fz:=by show(gd Fz||false)=Fz;rw [W9];rfl
 obtain⟨M,hw,hlM,Sa⟩:=id W;have hW:=hw _ Sr.1;have hpw: ∀{i:Nat} {h:Ht},S i h-> ∀b∈[z+1,z],∀o,h.get? b=Fv o->aK o:=λhS b hb o e=>by
  obtain⟨⟨o1,e1,n1⟩,o2,e2,n2⟩:=Sa _ _ hS;rcases FS.mp hb with rfl|hb
  ·rw [e]at e2;cases e2;exact n2.1
  ·rw [G4.mp hb]at e
   rw [e]at e1;cases e1;exact n1.1
 intro cs;induction cs with
 |nil=>
  intro i esc pp ch s s₀ dn TZ Tv VT Rj hi Vc L hs;have Q6:i=x.cps.size:=by exact Io Tv (NG.mp TZ)
  have hz:=L.live W;refine jT (WP.size (hW.done s _ _ (Q6▸L.st) λh' tk Rt sz=> ?_));have hk:=gV Rt (hpw (Q6▸L.st));have T:bw (zone Oh z) [] s {s with heap:=h',toks:=tk}:=⟨λb o hb e=>hk b o (λq=>hb (uy q)) e,λ_ _ _ e=>e,rfl,sz⟩
  show ND _ A _ _ _ s₀ _ (leafOf (.ok .next)) _ _
  refine seg_leaf (.ok .next) ?_
  have hL:Oh.locals∉[z+1,z]:=rO L.ne.2 L.ne.1;refine WO i pp ch esc _ s₀ dn hi Vc (L.g.at E ?_ λo e=>hk _ o hL e) (λb hb=>Fy (hz b hb) sz) (hs.trans T);exact λb o e=>hk b o (Dm L.hz e) (L.g.h b o e)
 |cons c cs ih=>
  intro i esc pp ch s s₀ dn TZ Tv VT Rj hi Vc L hs;have hz:=L.live W;have OH:i<x.cps.size:=Js λq=>nomatch (NG.mpr q).symm.trans TZ;have hc:x.cps[i]? =Fv c:=(Nh ..).symm.trans ((N_ (i:=i) (j:=0)).symm.trans (congrArg (λl:List Nat=>l[0]?) TZ));have T7:x.cps.toList.drop (i+1)=cs:=Iy.symm.trans (congrArg (List.drop 1) TZ);refine jT (WP.size (hW.item i s _ _ OH L.st λT vals h' tk hP hT Wi hM Rt sz=> ?_));have hk:=gV Rt (hpw L.st);obtain⟨t,u,c',QR,rfl⟩:=hP;rw [hc]at QR;cases QR;refine WP.size (hW.go G.te G.tk G.tp i T {s with heap:=h',toks:=tk} _ _ hM λRv S0 Ui VD=> ?_)
  have Ps:=gV Ui (hlM _ _ _ hM);have hL:Oh.locals∉[z+1,z]:=rO L.ne.2 L.ne.1;have TQ: ∀b o,b∉[z+1,z]->vis s.heap b=Fv o->vis Rv b=Fv o:=λb o hb e=>Ps b o hb (hk b o hb e);have sz2:s.heap.objs.size<=Rv.objs.size:=Fx sz VD;have g2:GI C Og Oh ns [Fv (.str x),pp,Fv (.bool esc),ch] {s with heap:=Rv,toks:=tk}:=L.g.at E (λb o e=>TQ b o (Dm L.hz e) (L.g.h b o e)) λo e=>TQ _ o hL e
  have T2:bw (zone Oh z) [] s {s with heap:=Rv,toks:=tk}:=⟨λb o hb e=>TQ b o (λq=>hb (uy q)) e,λ_ _ _ e=>e,rfl,sz2⟩
  have hTt:Rv.IsTuple T #[.int i t,.str ⟨#[c]⟩ u]:=by obtain⟨o,e,r⟩:=Wi;exact⟨o,Ui T o (hW.apart _ _ _ hM) e,r⟩
  have hlL:Oh.locals<s.heap.objs.size:=by obtain⟨o,e⟩:=L.g.live;exact aq e
  have rT:Rep C.prog C.w (λb=>s.heap.objs.size<=b) Rv (.tuple [.int i,.str ⟨#[c]⟩]) (.ref T):=⟨T,[.int i t,.str ⟨#[c]⟩ u],rfl,hT,by refine beq_eq_false_iff_ne.mpr λq=> ?_;obtain⟨⟨o,e⟩,_⟩:=E.y;have:=aq (L.g.h _ _ e);rw [<-q]at this;exact FV _ (Fy this hT),hTt,_,_,rfl,⟨t,rfl⟩,_,_,rfl,⟨u,rfl⟩,rfl⟩
  refine(g2.bind E Sr (ρ':=[Fv (.str x),Fv (.int i),Fv (.bool esc),Fv (.str ⟨#[c]⟩)]) G.tg rfl (sc4 (gf rfl) (gf rfl)) hlL sz2 rT).mono λ_ s₃ ⟨g3,T3⟩ H0=> ?_;have L3:i9 C Og Oh ns z x S (i+1) (Fv (.int i)) esc (Fv (.str ⟨#[c]⟩)) s₃:=⟨g3,W.frame S0 λb hb o e=>T3.keep b o (by rcases hb with rfl|rfl<;>simp [J_ L.ne.1,J_ L.ne.2]) e,L.hz,L.ne⟩
  have VW:bw (zone Oh z) [] s₀ s₃:=(hs.trans T2).trans (gY T3);unfold fA.loopBody;refine Im (rE (t:=esc) (L3.g.test E Sr G.t1 (by show bt Γ (.var 2) _=Fv esc;rfl)) λs₄ x₄=> ?_)
  have L4:=L3.keep E W (L3.g.h.trans x₄.keep) λb _ o e=>x₄.keep b o e;have VV:=VW.trans x₄.step;have cast:((i:Int)+1)=((i+1:Nat):Int):=rfl;cases esc with
  |true=>
   have Oj:(ax i FE (c::cs)).length=(ax ((i+1:Nat):Int) Fz cs).length+1:=by rw [<-cast];rfl
   rw [Oj];refine Im ?_;refine jF (pv:= .tuple [.int i,.str ⟨#[92,c]⟩]) rfl rfl SR Sr E Ro L4.g (L4.live W) G.e1 ?_ VV ?_ λs₅ hH5 VC hk5=> ?_
   ·show(Fv (PV.tuple [PV.int i,PV.str ⟨#[92,c]⟩]))=_
    rfl
   ·refine iZ (dn:=dn) ?_
    rw [hi,<-cast];rfl
   ·have L5:=L4.keep E W hH5 hk5
    refine wk E L5.g Sr G.x3 (ρ':=[Fv (.str x),Fv (.int i),Fv (.bool Fz),Fv (.str ⟨#[c]⟩)]) rfl (sc4 (gf rfl) (gf rfl)) λs₆ g6 T6=> ?_;refine Ii (Ii ?_);refine NU rfl ?_;refine ih (i+1) Fz _ _ s₆ s₅ (dn++[.tuple [.int i,.str ⟨#[92,c]⟩]]) T7 (by exact OH) (gf rfl) (gf rfl) ?_ (λh=>by cases h) (L5.with W g6 T6) (gY T6)
    rw [hi,<-cast,Gq];rfl
  |false=>
   refine Im (rE (t:=c==92) (L4.g.test E Sr G.t2 ?_) λs₅ x₅=> ?_)
   ·show(Fv ((⟨#[c]⟩:Gj)==⟨#[92]⟩))=Fv (c==92)
    congr 1
    by_cases h:c=92
    ·subst h;rfl
    ·rw [beq_eq_false_iff_ne.mpr h]
     exact beq_eq_false_iff_ne.mpr λq=>h (by cases q;rfl)
   ·have L5:=L4.keep E W (L4.g.h.trans x₅.keep) λb _ o e=>x₅.keep b o e
    have hs5:=VV.trans x₅.step;by_cases h92:c=92
    ·rw [beq_iff_eq.mpr h92]
     have Oj:ax i Fz (c::cs)=ax ((i+1:Nat):Int) FE cs:=by rw [<-cast];exact(if_neg (by decide)).trans (if_pos h92)
     rw [Oj]at hi ⊢
     refine wk E L5.g Sr G.x4 (ρ':=[Fv (.str x),Fv (.int i),Fv (.bool FE),Fv (.str ⟨#[c]⟩)]) rfl (sc4 (gf rfl) (gf rfl)) λs₆ g6 T6=> ?_;refine Ii (Ii (Ii ?_));refine NU rfl ?_;exact ih (i+1) FE _ _ s₆ s₀ dn T7 (by exact OH) (gf rfl) (gf rfl) hi (λ_=>by rw [<-cast];congr 2;exact Ha (Ku _ _)) (L5.with W g6 T6) (hs5.trans (gY T6))
    ·rw [beq_eq_false_iff_ne.mpr h92]
     have Oj:ax i Fz (c::cs)= .tuple [.int i,.str ⟨#[c]⟩]::ax ((i+1:Nat):Int) Fz cs:=by rw [<-cast];exact(if_neg (by decide)).trans (if_neg h92)
     rw [Oj]at hi ⊢
     refine Im ?_;refine jF (pv:= .tuple [.int i,.str ⟨#[c]⟩]) rfl rfl SR Sr E Ro L5.g (L5.live W) G.e2 ?_ hs5 ?_ λs₆ hH6 sz6 hk6=> ?_
     ·show(Fv (PV.tuple [PV.int i,PV.str ⟨#[c]⟩]))=_
      rfl
     ·exact iZ hi
     ·have L6:=L5.keep E W hH6 hk6
      refine Ii (Ii (Ii ?_));refine NU rfl ?_;refine ih (i+1) Fz _ _ s₆ s₆ (dn++[.tuple [.int i,.str ⟨#[c]⟩]]) T7 (by exact OH) (gf rfl) (gf rfl) ?_ (λh=>by cases h) L6 (bw.refl _ _ _)
      rw [hi,Gq];rfl
end
section
theorem ym (G:fA C Γ Og ns) (hA:AOk (C.d+1) A) (E:GE C Oh ns) (Ro:Oh.scope.isCoroutine=Fz) (g:GI C Og Oh ns [Fv (.str x),Fw,Fw,Fw] s):
  ND (FN C.prog C.w) A (eU Oh s.heap.objs.size) (cL C Oh s.heap.objs.size (ax 0 Fz x.cps.toList)) (ax 0 Fz x.cps.toList).length s (.func G.body Oh) ((FN C.prog C.w).den (.func G.body Oh)) [] s:=by
 have hA1:AOk C.d (A.over (.func G.body Oh) []):=hA.over1;refine seg_func ?_;refine Im (ju ((G.x1 _ Oh _ s E g).mono λf s₁ ⟨hf,g1,T1,e1⟩=> ?_));subst hf;refine Im (ju ((G.x2 _ Oh _ s₁ E g1).mono λf s₂ ⟨hf,g2,T2,e2⟩=> ?_));subst hf;have Vx:GI C Og Oh ns [Fv (.str x),Fv (.int 0),Fv (.bool Fz),Fw] s₂:=g2;have OR:s₂.heap.objs.size=s.heap.objs.size:=e2.trans e1;refine Im (zf (λv=>G.fs Oh v) ((G.it _ Oh _ s₂ x E Vx rfl).mono λr s₃ ⟨t,h',hr,VW,he,hi,hk⟩=> ?_));subst hr VW;rw [OR]at he hi ⊢
 obtain⟨S,W,hS⟩:=yn (C:=C) he hi;obtain⟨M,hw,_,Sa⟩:=id W;refine(hw _ hA1.1).self 0 _ _ _ hS λp=> ?_;have hL:Oh.locals<s.heap.objs.size:=by rw [<-OR];obtain⟨o,e⟩:=Vx.live;exact aq e
 haveI g3:GI C Og Oh ns [Fv (.str x),Fv (.int 0),Fv (.bool Fz),Fw] {s₂ with heap:=h'}:=Vx.at E (Vx.h.trans hk) λo e=>hk _ o e
 haveI sz3:s₂.heap.objs.size<=h'.objs.size:=by obtain⟨_,o,e,_⟩:=Sa 0 _ hS;have:=Hv e;rw [OR];exact Gm (Nat.lt_of_succ_lt this)
 haveI T3:bw (zone Oh s.heap.objs.size) [] s {s₂ with heap:=h'}:=(gY (T1.trans T2)).trans ⟨λb o _ e=>hk b o e,λ_ _ _ e=>e,rfl,sz3⟩
 refine yk G (items:=ax 0 Fz x.cps.toList) hA E W Ro rfl (λi pp ch esc s s₀ dn h1 h2 h3 h4 h5=> ?_) x.cps.toList 0 Fz _ _ _ s [] (by simp) (Hk _) (λv h=>by cases h;rfl) (λv h=>by cases h) rfl (λh=>by cases h)
  ⟨g3,hS,g.lo E,⟨GK hL,GK (IQ hL)⟩⟩ T3
 exact yh G hA1 E Ro rfl h3 h4 h5 h1 h2
end
variable {f:Gb} {fd:J8}
section
def tX (C:Cx) (A:HB) (Oh:Lk) (a:Gb) (g:Nat) (items:List PV) (ok:Gb->Prop) (xs:List PV) (W:List Gb) (s:FL):Prop:=
 s.heap.IsGen a g/\HK C.H s.heap/\(∀b∈W,b<s.heap.objs.size/\ ¬ok b)/\(∃dn,items=dn++xs)/\ ∃gs,s.gens[g]? =Fv gs/\
  ((W=[a,Oh.locals]/\a≠Oh.locals/\ ∀Oy:FL,HK C.H Oy.heap->(∀o,vis s.heap Oh.locals=Fv o->vis Oy.heap Oh.locals=Fv o)->
    gs.Goes (FN C.prog C.w) A.in1 (eU Oh Oy.heap.objs.size) (cL C Oh Oy.heap.objs.size items) xs.length (.send .none) Oy)∨
   ∃z,W=a::zone Oh z/\a∉zone Oh z/\(∀b∈zone Oh z,C.H.objs.size<=b)/\ ∀Oy:FL,HK C.H Oy.heap->s.heap.objs.size<=Oy.heap.objs.size->(∀b∈zone Oh z,∀o,vis s.heap b=Fv o->vis Oy.heap b=Fv o)->
    gs.Goes (FN C.prog C.w) A.in1 (eU Oh z) (cL C Oh z items) xs.length (.send .none) Oy)
theorem eG {x:Kn} (h:i≠g):(s.setGen g x).gens[i]? =s.gens[i]? :=by show(s.gens.setIfInBounds g x)[i]? =_;rw [Array.getElem?_setIfInBounds_ne (J_ h)]
theorem lJ {a:Gb} (x:h.IsGen a g) (k: ∀o,vis h a=Fv o->vis h' a=Fv o):h'.IsGen a g:=by obtain⟨o,nm,qn,e,c,d,r⟩:=x;exact⟨o,nm,qn,dt k e d (λq=>nomatch c.symm.trans q),c,d,r⟩
theorem lw {p:Gb->Prop} (h1:p Oh.locals) (h2:p z) (h3:p (z+1)): ∀b∈zone Oh z,p b:=Gg.mpr ⟨h1,kL h2 h3⟩
theorem yj {a:Gb} {gs:Kn} {W:List Gb} {y:PV} (hA:AOk (C.d+2) A) (Si:C.H.NoLimit) (ho:ce (λa=>ok a) s.heap)
  (hg:s.heap.IsGen a g) (hH:HK C.H s.heap) (hgs:s.gens[g]? =Fv gs) (Ou: ∃dn,items=dn++(y::xs)) (ha:a∉zone Oh z) (RT: ∀b∈zone Oh z,C.H.objs.size<=b) (has:a<s.heap.objs.size) (V9: ∀b∈zone Oh z,b∈W∨s.heap.objs.size<=b)
  (hW: ∀b∈W,b∈a::zone Oh z) (hWo: ∀b∈W,¬ok b) (Sp:a∈W)
  (TV:gs.Goes (FN C.prog C.w) A.in1 (eU Oh z) (cL C Oh z items) (y::xs).length (.send .none) (s.setGen g .running)) {tgt:Expr}:
  WP (FN C.prog C.w) A (L7 (.ref a)) (λr s1=> ∃v W1,r=Fv v/\(∀b∈W,b∈W1)/\(∀b∈W1,b∈W∨s.heap.objs.size<=b)/\bw W [g] s s1/\
   Rep C.prog C.w (okW ok W1) s1.heap y v/\WP (FN C.prog C.w) A (I8 tgt (.ref a) v) (λ_ s2=>bw W1 [g] s1 s2/\tX C A Oh a g items (okW ok W1) xs W1 s2) s1) s:=by
 refine wpAny_pyNext_gen (P:=λn s₀ s₁=>n=0/\bw (zone Oh z) [] s₀ s₁) hA.1 (cX Si hH) hA.room hg hgs TV (λv s₁ U1 hv=> ?_) (λs₁ hp h' hk=> ?_)
 ·obtain⟨⟨pv,hi,r⟩,T,hz,S'⟩:=hv
  haveI hn1:(y::xs).length-1=xs.length:=rfl;rw [hn1]at hi;obtain⟨dn,hdn⟩:=Ou;rw [iZ hdn]at hi;cases hi;haveI hg1:s₁.gens[g]? =Fv .running:=T.gens g _ (by simp) (setGen_self hgs)
  have R_:(s₁.setGen g U1).heap.IsGen a g:=lJ hg λo e=>T.keep a o ha e;haveI hLg: ∀i gg,i∉[g]->s.gens[i]? =Fv gg->(s₁.setGen g U1).gens[i]? =Fv gg:=λi gg Rm e=>by
   have TS:i≠g:=by simpa using Rm
   rw [eG TS];exact T.gens i gg (by simp) (by rw [eG TS];exact e)
  haveI Qt: ∀b o,b∉W->vis s.heap b=Fv o->vis (s₁.setGen g U1).heap b=Fv o:=λb o hb e=>T.keep b o (λq=>(V9 b q).elim hb λq=>FV _ (Fy (aq e) q)) e;haveI hH1:HK C.H s₁.heap:=λb o e=>T.keep b o (λq=>FV _ (Fy (aq e) (RT b q))) (hH b o e);refine⟨v,a::zone Oh z,rfl,hW,Gg.mpr ⟨.inl Sp,V9⟩,⟨Qt,hLg,T.os,T.size⟩, ?_, ?_⟩
  ·exact r.mono (λb h _=>⟨ho b h.1,λq=>(FS.mp q).elim (λq=>JK.mpr h.1 (q.symm▸has)) h.2⟩) λ_ _ _ e=>e
  ·obtain⟨o,nm,qn,e,Pb,rr⟩:=id R_
   refine jY ⟨o,_,e,Pb,by decide⟩ ⟨bw.refl _ _ _,R_,hH1,λb hb=>⟨(Gg.mpr ⟨Fy has T.size,hz⟩: ∀b∈a::zone Oh z,b<s₁.heap.objs.size) b hb,λh=>h.2 hb⟩,⟨dn++[y],by rw [hdn,Gq];rfl⟩,U1,setGen_self hg1,.inr ⟨z,rfl,ha,RT,λOy hH' Wx Ps=> ?_⟩⟩
   exact S' Oy hH' Wx Ps
 ·exact absurd hp.1 (by simp)
theorem AW {a:Gb} {W:List Gb} (SO:C.H.objs.size<=Oh.locals) (h:tX C A Oh a g items ok xs W s): ∃gs z,s.gens[g]? =Fv gs/\a∉zone Oh z/\(∀b∈zone Oh z,C.H.objs.size<=b)/\
  (∀b∈zone Oh z,b∈W∨s.heap.objs.size<=b)/\(∀b∈W,b∈a::zone Oh z)/\a∈W/\gs.Goes (FN C.prog C.w) A.in1 (eU Oh z) (cL C Oh z items) xs.length (.send .none) (s.setGen g .running):=by
 obtain⟨h1,h2,h3,h4,gs,h5,h6⟩:=h;refine h6.elim (λh6=> ?_) λh6=> ?_
 ·obtain⟨e,P4,h6⟩:=h6
  have Sp:a∈W:=e▸FT;have hlW:Oh.locals∈W:=e▸FU _ (HA _);have Vu:=Gm (FF SO (h3 _ hlW).1);refine⟨gs,s.heap.objs.size,h5,λq=> ?_,lw SO Vu (Nat.le_succ_of_le Vu),lw (.inl hlW) (.inr (FH _)) (.inr (Ka _)),e▸kL FT (FU _ FT),Sp,h6 (s.setGen g .running) h2 λo e=>e⟩;exact(lw (p:=λb=>a≠b) P4 (GK (h3 a Sp).1) (GK (IQ (h3 a Sp).1)) a q) rfl
 ·obtain⟨z,e,P4,RT,h6⟩:=h6
  exact⟨gs,z,h5,P4,RT,λb hb=> .inl (e▸FU _ hb),λb hb=>e▸hb,e▸FT,h6 (s.setGen g .running) h2 (FH _) λb _ o e=>e⟩
theorem yl {a:Gb} (hA:AOk (C.d+2) A) (Si:C.H.NoLimit) (SO:C.H.objs.size<=Oh.locals):
  wg C.prog C.w A C.H a [g] (λ_=>True) (tX C A Oh a g items)where
 own:=λh=>h.2.2.1
 frame:=λ{ok ok' xs W s s'} h k1 k2 k3 k4 k5 k6 k7=>by
  obtain⟨h1,h2,h3,h4,gs,h5,h6⟩:=h;have own: ∀b∈W,b<s'.heap.objs.size/\ ¬ok' b:=λb hb=>⟨Fy (h3 b hb).1 k7,k3 b hb⟩;refine h6.elim (λh6=> ?_) λh6=> ?_
  ·obtain⟨e,P4,h6⟩:=h6
   exact⟨lJ h1 λo q=>k1 a o (.inr (e▸FT)) q,k6,own,h4,gs,k4 g gs h5,.inl ⟨e,P4,λOy hH hk=>h6 Oy hH λo q=>hk o (k1 _ o (.inr (e▸FU _ (HA _))) q)⟩⟩
  ·obtain⟨z,e,P4,RT,h6⟩:=h6
   exact⟨lJ h1 λo q=>k1 a o (.inr (e▸FT)) q,k6,own,h4,gs,k4 g gs h5,.inr ⟨z,e,P4,RT,λOy hH OR hk=>h6 Oy hH (Fx k7 OR) λb hb o q=>hk b hb o (k1 b o (.inr (e▸FU _ hb)) q)⟩⟩
 next:=λ{ok x xs W s tgt} _ ho hs h=>by obtain⟨gs,z,h5,P4,RT,V9,hWz,Sp,TV⟩:=AW SO h;exact yj hA Si ho h.1 h.2.1 h5 h.2.2.2.1 P4 RT (h.2.2.1 a Sp).1 V9 hWz (λb hb=>(h.2.2.1 b hb).2) Sp TV
 done:=λ{ok W s} h=>by
  obtain⟨gs,z,h5,P4,RT,hzW,_,_,TV⟩:=AW SO h;refine WP.size (wpAny_pyNext_gen (P:=λn s₀ s₁=>n=0/\bw (zone Oh z) [] s₀ s₁) hA.1 (cX Si h.2.1) hA.room h.1 h5 TV (λv s₁ U1 hv=> ?_) (λs₁ hp h' hk sz=> ?_))
  ·obtain⟨⟨pv,hi,r⟩,T,hz,S'⟩:=hv
   exact(S' s₁ (λb o e=>T.keep b o (λq=>FV _ (Fy (aq e) (RT b q))) (h.2.1 b o e)) (FH _) λb _ o e=>e).elim
  ·obtain⟨_,T⟩:=hp
   refine⟨rfl,λb o hb e=>e9 hk (T.keep b o (λq=>(hzW b q).elim hb λq=>FV _ (Fy (aq e) q)) e),λi gg hi e=> ?_,T.os,sz⟩;have TS:i≠g:=λq=>hi (G4.mpr q);show(s₁.setGen g .finished).gens[i]? =Fv gg;rw [eG TS];exact T.gens i gg (HU) (by rw [eG TS];exact e)
structure wO (C:Cx) (f:Gb) (o:N1) (fd:J8) (body:List Hs) (p:Gj):Prop where
 ho:C.H.get? f=Fv o
 data:o.data= .func fd
 lim:C.H.NoLimit
 last: ∃o,vis C.H (C.H.objs.size-1)=Fv o
 sy:Sys C.H
 code:ej C.H fd.code fd.qualname
 body:fd.body= .stmts body
 clo:fd.closure=[]
 glob:fd.globals=He
 blt:fd.builtins=Jw
 kind:fd.scope.kind= .function
 co:fd.scope.isCoroutine=Fz
 gen:fd.scope.isGenerator=FE
 bind: ∀v:FR,Np fd ⟨[v],[]⟩=pure [(p,v)]
 pk:fd.scope.names.lookup p=Fv .local
 loc: ∀x∈fd.scope.names,x.2≠ .cell/\x.2≠ .free
theorem f_ {l:List (Gj×HF)} (h: ∀x∈l,x.2≠ .cell/\x.2≠ .free) (x:Gj):bu (l.lookup x)=Fz:=by
 cases e:l.lookup x with
 |none=>rfl
 |some k=>
  have:=h _ (mem_of_lookup e);cases k<;>first|rfl|exact absurd rfl this.1|exact absurd rfl this.2
theorem yi {p:Gj} (G:fA C Γ Og fd.scope.names) (D:wO C f o fd G.body p) (hp:Og.idxOf p=0) (hpn:p∈Og) (hn4:4<=Og.length):iS {C with d:=C.d+2} f [.str x] (ax 0 Fz x.cps.toList):=by
 intro A s ok vs tgt hA hH ho hs q;obtain⟨_,_,rfl,⟨t,rfl⟩,rfl⟩:=q;haveI Vu:C.H.objs.size<=s.heap.objs.size:=by obtain⟨o,e⟩:=D.last;exact aSz (aq (hH _ _ e))
 refine Ni (codeAny_call_generator hA.room ((cx D.data).keep (hH _) D.ho) D.data D.co D.gen D.body (D.code.keep hH).rec ?_);rw [D.bind,D.clo];refine FK (wpAny_newFunctionEnv (λy hy=>(D.loc y hy).1) (λy hy=>by rw [G4.mp hy];exact D.pk) (λh' hn Ph=> ?_) D.kind)
 have TR:HK s.heap h':=HK.of λb o e=>Ph.extBut b o (GK (Hv e)) (Hm _ e);have OR:h'.objs.size=s.heap.objs.size+1:=by rw [Ph.1,GP]
 refine⟨cX (cX D.lim hH) TR, ?_⟩;generalize Rc:newEnv fd.scope s.heap.objs.size fd.globals [] (fd.qualname++ ".<locals>.") (Fv f) fd.code Fw fd.builtins=Oh;have Pg:Oh.locals=s.heap.objs.size:=by rw [<-Rc];rfl
 have E:GE C Oh fd.scope.names:=by subst Rc;exact⟨⟨D.kind,D.glob,D.blt,λ_=>rfl,λ_=>rfl,λx hx=>(HT ((f_ D.loc x).symm.trans hx)).elim,λx y c hx _ _ _=>(HT ((f_ D.loc x).symm.trans hx)).elim,λ_ h=>h⟩,D.sy,λx=>f_ D.loc x,Vu⟩
 haveI Ro:Oh.scope.isCoroutine=Fz:=by subst Rc;exact D.co
 haveI Q0:h'.Ns Oh.locals (λy=>[(p,Kh x t)].reverse.lookup y):=by rw [Pg];exact hn
 haveI GI0: ∀Oy:FL,HK C.H Oy.heap->(∀o,vis h' Oh.locals=Fv o->vis Oy.heap Oh.locals=Fv o)->GI C Og Oh fd.scope.names [Fv (.str x),Fw,Fw,Fw] Oy:=λOy Tb hk=>by
  have hn2:Oy.heap.Ns Oh.locals (λy=>[(p,Kh x t)].reverse.lookup y):=dH Q0 hk;refine⟨Tb,⟨⟨_,hn2⟩,λy hy=> ?_⟩,λy pv hy hg=> ?_,hn4,λi v h=> ?_⟩
  ·have:=f_ D.loc y
   rw [hy]at this;cases this
  ·have h0:Og.idxOf y=0/\pv= .str x:=by
    have hg:Ρ.get [Fv (PV.str x),Fw,Fw,Fw] (Og.idxOf y)=Fv pv:=hg
    match e:Og.idxOf y,hg with
    |0,hg=>cases hg;exact⟨rfl,rfl⟩
    |1,hg=>cases hg
    |2,hg=>cases hg
    |3,hg=>cases hg
    |n+4,hg=>simp [Ρ.get]at hg
   obtain⟨h0,rfl⟩:=h0;haveI hyp:y=p:=by
    by_cases e:y=p
    ·exact e
    ·exact absurd (h0.trans hp.symm) (fj hpn e)
   subst hyp;exact⟨.str x t,.loc _ (by subst Rc;exact D.pk) hn2 (by simp),t,rfl⟩
  ·match i,h with
   |0,h=>cases h;rfl
   |1,h=>cases h
   |2,h=>cases h
   |3,h=>cases h
   |n+4,h=>simp [Ρ.get]at h
 haveI hg: ∀i gg,s.gens[i]? =Fv gg->(s.gens.push (.fresh (.func G.body Oh)))[i]? =Fv gg:=λi gg e=>by have:=(Ko.mp e).1;rw [Array.getElem?_push_lt this];haveI h2:=(Ko.mp e).2;rw [h2]
 refine⟨⟨TR.trans (HK.push _ _),by show _<=(h'.push _).objs.size;rw [GP,OR];exact Gi (FZ _ _),hg,rfl⟩, ?_⟩
 have Qa:(h'.push {cls:= .type "generator",data:= .fields #[.int s.gens.size 0,.str fd.name (s.toks+1),.str fd.qualname (s.toks+1+1)]}).IsGen h'.objs.size s.gens.size:=⟨_,_,_,Gt _ rfl,rfl,rfl,rfl⟩;refine wpAny_pyIter_gen Qa ⟨.refl _,_,rfl,[h'.objs.size,Oh.locals],[s.gens.size],λ_=>True,tX C A Oh h'.objs.size s.gens.size (ax 0 Fz x.cps.toList),yl (C:=C) hA D.lim E.lo,trivial,
  ⟨Qa,(hH.trans TR).trans (HK.push _ _),λb hb=>⟨?_,λh=>h.2 hb⟩,⟨[],rfl⟩,.fresh (.func G.body Oh),Array.getElem?_push_size ..,.inl ⟨rfl, ?_,λOy Tb hk=>⟨rfl, ?_⟩⟩⟩,λb hb=> ?_,λi hi=> ?_⟩
 ·show b<(h'.push _).objs.size
  rw [GP];simp only [FS,HU,or_false]at hb;rcases hb with rfl|rfl
  ·exact Gx _
  ·rw [Pg,OR];exact IQ (Gx _)
 ·rw [Pg,OR];exact Md _
 ·exact ym G (A:=A.in1) hA.in1 E Ro (GI0 Oy Tb λo e=>hk o (HK.push _ _ _ _ e))
 ·simp only [FS,HU,or_false]at hb
  rcases hb with rfl|rfl
  ·rw [OR];exact Ka _
  ·rw [Pg];exact FH _
 ·rw [G4.mp hi];exact FH _
end
variable {rp:HW}
section
theorem vF {px:HW} {a:Gb} {S:Int->Bool} (hE:aJ C Γ Og ns e pe) (hx:aC x=FE) (hk:fC (ns.lookup x)=2) (L:cC C.H x (.ref a))
  (hS:C.H.SetOf (HI C.prog C.w) a S n) (TY: ∀vs r,Γ.fn k vs=Fv r-> ∃i,vs=[.int i]/\r= .bool (S i)):
  dA C Γ Og ns (.Return (Fv (.Compare e [.In] [.Name x px] pos)) rp) (.ret (.call k [pe])):=by
 intro A Oh s₀ Oi W ok om ρ s o F h;obtain⟨v,hv,rfl⟩:=Gk.mp h;obtain⟨vs,PH,hv⟩:=FQ.mp hv;obtain⟨i,rfl,rfl⟩:=TY _ _ hv;obtain⟨u,hu,PH⟩:=FQ.mp PH;cases PH;rw [Kc];refine WP.at (WP.then (Q₁:=λv s'=>v= .bool (S i)/\Ext s s') ?_ λv s' ⟨hv,x⟩=>FK ⟨v,rfl,F.x.trans x,by subst hv;rfl⟩)
 refine wpAny_Compare1 ((hE A Oh ρ _ s _ F.goodF hu).mono λu s₁ ⟨x₁,r⟩=> ?_) rfl;obtain⟨t,rfl⟩:=r;refine dq F.e hx hk (F.hk.trans x₁.keep) L ?_;haveI S0:s₁.heap.SetOf (HI C.prog C.w) a S n:=by obtain⟨o,es,ep,t,e,c,d,r⟩:=hS;exact⟨o,es,ep,t,(xM d).keep ((F.hk.trans x₁.keep) _) e,c,d,r⟩
 exact wpAny_inSet_of (Nk C.prog C.w i t) rfl S0 ⟨rfl,x₁.trans (.toks _ _)⟩
theorem Ca {r:Gj} {px ap cp:HW} {d:Gb} {f:Int->Option FR} {g:Int->Option Gj} (hE:EvS C Γ Og ns e pe) (hr:b8 ns r=FE) (hm:r∈Og) (hx:aC x=FE) (hk:fC (ns.lookup x)=2) (L:cC C.H x (.ref d))
  (OQ:(ap.endLine==cp.line)=FE) (hd:C.H.MapOf (HI C.prog C.w) d f) (Wc:(d==Hf)=Fz) (hf: ∀i,match f i with|none=>g i=Fw|some v=> ∃t u,v= .str t u/\g i=Fv t)
  (TY: ∀vs r,Γ.fn k vs=Fv r-> ∃i,vs=[.int i]/\r=(match g i with|some t=> .str t|none=> .none)):
  dA C Γ Og ns (.Assign [.Name r rp] (.Call (.Attribute (.Name x px) "get" ap) [e] [] cp) pos) (.set (Og.idxOf r) 0 (.call k [pe])):=by
 intro A Oh s₀ Oi W ok om ρ s o F h;obtain⟨v,hv,rfl⟩:=Gk.mp h;obtain⟨hv,_⟩:=eP hv;obtain⟨vs,PH,hv⟩:=FQ.mp hv;obtain⟨i,rfl,rfl⟩:=TY _ _ hv;obtain⟨u,hu,PH⟩:=FQ.mp PH;cases PH;rw [asg];refine WP.at ?_;refine FJ (Hx (a:=Fz) (mr.trans (aW rfl)) ?_);simp only [Gy,if_false];refine WP.then (Q₁:=λw s'=>Ext s s'/\Rep C.prog C.w ok s'.heap (match g i with|some t=> .str t|none=> .none) w) ?_ λw s₁ ⟨x₁,rw₁⟩=> ?_
 ·refine J5 rfl ?_ OQ (dq F.e hx hk F.hk L ?_)
  ·rw [bY,ba (bC hE.2)]
   rfl
  ·have Pk:s.heap.MapOf (HI C.prog C.w) d f:=by obtain⟨o,es,ep,e,c,d,r⟩:=hd;exact⟨o,es,ep,(dU d).keep (F.hk _) e,c,d,r⟩
   refine⟨"dict","dict.get",MH,PySem.F.slot_dict_get,PySem.F.type_dict_get,Pk.typeIs,Pk.noDict, ?_⟩;rw [ba (bC hE.2)];refine wpAny_dict_get1 (knd:=HI C.prog C.w) Wc ?_;refine(hE.1 A Oh _ ok s _ F.good0 hu).mono λkey s₁ ⟨x₁,rk⟩=> ?_;obtain⟨t,rfl⟩:=rk;refine⟨i,f,Nk C.prog C.w i t, ?_,x₁.trans (.toks _ _), ?_⟩
   ·obtain⟨o,es,ep,e,c,d,r⟩:=Pk
    exact⟨o,es,ep,(dU d).keep (x₁.keep _) e,c,d,r⟩
   ·have:=hf i
    cases Vl:f i with
    |none=>rw [Vl]at this;rw [this];rfl
    |some v=>
     rw [Vl]at this;obtain⟨t,u,rfl,hg⟩:=this;rw [hg];exact⟨u,rfl⟩
 ·rw [cj]
  refine FJ (FK ?_);show WP _ A (Iq (.Name r rp) Oh w>>=λ_=>(pure Flow.next:IH K4)) _ s₁
  refine WP.then ((F.ext x₁).bind (ku hr hm) rfl rw₁) λ_ s₂ ⟨F₂,T₂⟩=>FK ⟨rfl,ok,_,F₂,x₁.tr.trans T₂, ?_⟩;rw [aQ]
  rfl
end
variable {mg:Gj->Option FR} {qual:Gj} {params:Kg} {scope:KY} {P:Gb} {Qd:Nat} {OS:List (Gj×Gb)} {Q:FR->FL->Prop}
section
variable {name:Gj} {body:List Hs} {c:Gb} {ps:Array FR}
noncomputable abbrev kK (name qual:Gj) (params:Kg) (body:List Hs) (scope:KY) (OS:List (Gj×Gb)) (Oz pm Pv:FR) (c':Gb):J8:=fnX name qual params body scope OS .none .none Oz pm Fw (.ref c') Pv
theorem qW (Pb:Ls scope Oh=pure OS) (h0:OS≠[]) (WN:Oh.globals=He) (hg:s.heap.Ns He mg) (PA:Oh.code= .ref c) (C:Oe s.heap c P) (hP:s.heap.get? P=Fv (M8 ps)) (ht:NV ps.toList)
  (hnf:codeAmong pos ps.toList=Fw) (Wa:He≠P) (hb:s.heap.BuiltinsAt mg P)
  (h: ∀c' Pv Oz h' tk,Mh P s.heap h'->s.heap.objs.size<=c'->c'<h'.objs.size->ej h' (.ref c') qual->h'.get? P=Fv (M8 (ps++ #[Ma pos.line,Ma pos.col,.ref c']))->
   Q (.ref h'.objs.size) {s with heap:=h'.push {cls:= .type "function",data:= .func (kK name qual params body scope OS Oz ((mg "__name__").getD .none) Pv c')},toks:=tk}):
  Ig M A (makeFunction name qual params (.stmts body) scope Oh [] [] [] pos Qd) Q E s:=by
 rw [makeFunction_eq];simp only [List.zip_nil_right,List.filterMap_nil,List.isEmpty_nil,if_true,MM];obtain⟨bm,ob,hbm,WK,_,WJ,We,WU,UL,UO⟩:=hb;unfold makeTail;rw [Pb,WN];refine FJ (FK ?_);cases OS with
 |nil=>exact absurd rfl h0
 |cons q r=>
  simp only [List.isEmpty_cons,Gy,if_false];refine FJ (wpAny_newTextTuple ?_);try dsimp only
  refine FJ (wpAny_functionCodeX PA ((C.keeps λb o e=>Hm _ e).code (Hm _ hP) ht) ((C.keeps λb o e=>Hm _ e).tab (Hm _ hP)) hnf λc' h' tk hx Sc OH _ WA htp VS=> ?_);have TW:=(hg.push _).extBut hx Wa;have RU:Mh P s.heap h':=λb o Pq e=>hx b o Pq (Hm _ e);have Uk:s.heap.objs.size<=c':=Fx (by rw [GP];exact FZ _ _) Sc
  have hN:ej h' (.ref c') qual:=by obtain⟨P',_,_,⟨o2,vs2,e2,c2,_⟩,_⟩:=VS;obtain⟨c₁,o,vs,t,e1,e,d,r⟩:=WA;cases e1;haveI h12:=FG (e.symm.trans e2);exact⟨_,o,vs,t,rfl,e,(by rw [h12,c2];intro q;cases q),d,r⟩
  have hPt:=htp.2;refine FJ (wpAny_builtinsFor TW hbm WK (RU _ _ WJ We) WU UL UO ?_);refine FJ (wpAny_nsGet TW ?_);cases hdoc:docOf body with
  |none=>exact FJ (FK (IS (h c' _ .none h' tk RU Uk OH hN hPt) (by size_fits)))
  |some t=>exact FJ (wpAny_mkText (IS (h c' _ _ h' _ RU Uk OH hN hPt) (by size_fits)))
theorem qK {l:List FR} (ht:NV l): ∀q t,l[1]? ≠Fv (.str q t):=by
 intro q t e;cases l with
 |nil=>cases e
 |cons a l=>
  cases l with
  |nil=>cases e
  |cons b l=>
   cases FG e;cases a<;>exact ht
end
set_option tactic.hygienic true in
theorem sf (hk: ∀b o,¬W b->h.get? b=Fv o->h'.get? b=Fv o) (hp: ∀c o vs q t,W c->h.get? c=Fv o->o.data= .fields vs->vs[1]? =Fv (.str q t)->False) {b:Gb} (hb: ¬W b) (e:vis h b=Fv o):vis h' b=Fv o:=by
 unfold vis at e;split at e
 ·cases e
 ·rename_i o' e'
  have e2:=hk b o' hb e';split at e
  ·rename_i PU
   split at e
   ·rename_i ht
    split at e
    ·rename_i hc
     cases e;exact og PU λt h1 h2=>(hc t h1 h2).step (λo e=>hk b o hb e) λc o vs u e1 e2 e3=>hk c o (λq=>hp c o vs _ _ q e1 e2 e3) e1
    ·cases e
   ·rename_i ht
    split at e
    ·cases e
    ·rename_i hm
     cases e;exact jg e2 (by simpa using ht) hm
  ·rename_i PU
   cases e;rw [kl PU,e2]
section
theorem xe {ps:Array FR} {t:Gb×HW×Gj} (ht:t∈theTabs) (hu: ∀t'∈theTabs,t'.1=t.1->t'=t) (hP:h.get? t.1=Fv (M8 ps)) (hT:NV ps.toList) (hx:Mh t.1 h h') (hn:i8 h' t.1 t.2.1 t.2.2):HK h h':=by
 intro b o e;by_cases hb:b=t.1
 ·subst hb
  have e2:vis h' t.1=Fv cQ:=og ⟨t,ht,rfl⟩ λt' h1 h2=>by rw [hu t' h1 h2];exact hn
  have e3:o=cQ:=by
   unfold vis at e;rw [hP]at e;simp only at e;rw [if_pos ⟨t,ht,rfl⟩,if_pos (show fR (M8 ps)=FE from rfl)]at e;split at e
   ·cases e;rfl
   ·cases e
  rw [e3];exact e2
 ·refine sf (W:=λb=>b=t.1) (λb o n e=>hx b o n e) (λc o vs q u hc e1 e2 e3=> ?_) hb e
  subst hc;rw [hP]at e1;cases e1;cases e2;exact qK hT q u (by simpa using e3)
end
theorem Oe.keepV {c:Gb} (x:Oe h c P) (k:HK h h'):Oe h' c P:=
 by obtain⟨o,vs,Xc,tf,UU,tg,inF,text,tt,e,hc,hd,r⟩:=x;exact⟨o,vs,Xc,tf,UU,tg,inF,text,tt,dt (k c) e hd (by rw [hc];exact λq=>by cases q),hc,hd,r⟩
theorem vQ (x:h.BuiltinsAt mg P) (k:HK h h'):h'.BuiltinsAt mg P:=
 by obtain⟨bm,o,h1,h2,h3,h4,e,hc,hd,ht⟩:=x;exact⟨bm,o,h1,h2,h3,h4,o4 (k bm o (jg e (dZ (λvs q=>by rw [ht]at q;cases q)).tab λq=>by rw [q]at hc;exact absurd hc (by decide))) (λq=>by rw [q]at hc;exact absurd hc (by decide)),hc,hd,ht⟩
structure iR (C:Cx) (Oh:Lk) (pos:HW) (qual:Gj):Prop where
 ex: ∃c P mg,(P,pos,qual)∈theTabs/\(∀t'∈theTabs,t'.1=P->t'=(P,pos,qual))/\Oe C.H c P/\Oh.code= .ref c/\C.H.Ns He mg/\C.H.BuiltinsAt mg P/\He≠P
section
variable {name:Gj} {body:List Hs}
theorem t5 (X:iR C Oh pos qual) (hk:HK C.H s.heap) (sy:Sys s.heap) (Pb:Ls scope Oh=pure OS) (h0:OS≠[]) (Sc:Oh.globals=He)
  (h: ∀c' Pv Oz pm s',Ext s s'-> ∀f,s.heap.objs.size<=f->s'.heap.objs.size=f+1->s'.heap.get? f=Fv {cls:= .type "function",data:= .func (kK name qual params body scope OS Oz pm Pv c')}->ej s'.heap (.ref c') qual->Q (.ref f) s'):
  WP M A (makeFunction name qual params (.stmts body) scope Oh [] [] [] pos Qd) Q s:=by
 obtain⟨c,P,mg,ht,hu,hd,PA,hg,hb,Wa⟩:=X.ex;have Pk:=Oe.keepV hd hk;have TW:=dH hg (hk _);have Pq:=vQ hb hk;haveI T:=sy.tab ht;obtain⟨ps,hP,hT,hc⟩:=T.ok;rcases hc with hc|⟨c',hc,hN⟩
 ·refine qW Pb h0 Sc TW PA Pk hP hT hc Wa Pq λc' Pv Oz h' tk hx Sc OH hN VS=> ?_
  haveI hn:i8 h' P pos qual:=⟨_,VS,by rw [Lw];exact TriplesOk_snoc _ _ _ _ hT,.inr ⟨c',by rw [Lw];exact codeAmong_snoc _ hT hc,hN⟩⟩
  haveI TQ:HK s.heap h':=xe (t:=(P,pos,qual)) ht (λt' h1 h2=>hu t' h1 h2) hP hT hx hn;refine h c' Pv Oz ((mg "__name__").getD .none) _ ?_ _ ?_ ?_ ?_ ?_
  ·refine⟨TQ.trans (HK.push _ _), ?_,λ_ _ e=>e,rfl⟩
   show _<=(h'.push _).objs.size;rw [GP];exact Gi (Fx Sc (Gm OH))
  ·exact Gm (FF Sc OH)
  ·exact GP ..
  ·exact Gt _ rfl
  ·exact hN.keep (HK.push _ _)
 ·refine makeFunction_hit (E:=λ_ _=>False) Pb Sc TW PA Pk hP hT hc Pq λPv Oz h' tk hx OR=> ?_
  refine h c' Pv Oz ((mg "__name__").getD .none) _ ?_ _ ?_ ?_ ?_ ?_
  ·refine⟨(HK.of hx).trans (HK.push _ _), ?_,λ_ _ e=>e,rfl⟩
   show _<=(h'.push _).objs.size;rw [GP];exact Gi OR
  ·exact OR
  ·exact GP ..
  rotate_left
  ·exact(hN.keep (HK.of hx)).keep (HK.push _ _)
  ·cases OS with
   |nil=>exact absurd rfl h0
   |cons q r=>exact Gt _ rfl
end
variable {om:List (Nat×Gb)}
section
theorem FSt.bindAny (F:FSt C Og A Oh ns s₀ Oi W ok om ρ s) (hx:b8 ns x=FE) (hm:x∈Og) (ho:Og.idxOf x∉om.map (·.1)):
  WP (FN C.prog C.w) A (storeName Oh x v) (λ_ s'=>FSt C Og A Oh ns s₀ Oi W ok om (ρ.set (Og.idxOf x) Fw) s'/\Tr W ok ok s s'/\aV s'.heap Oh x v/\(∀y u,y≠x->aV s.heap Oh y u->aV s'.heap Oh y u)/\(∀b o,¬bg Oh ns b->vis s.heap b=Fv o->vis s'.heap b=Fv o)/\s'.heap.objs.size=s.heap.objs.size) s:=by
 refine lO F.e F.f hx λh' a tk ha hs hp hF hV Ru=> ?_;have kp: ∀b o,¬bg Oh ns b->vis s.heap b=Fv o->vis h' b=Fv o:=λb o hb e=>az hs hp (λq=>hb (q▸ha)) e;have OX: ∀b,ok b-> ∀o,vis s.heap b=Fv o->vis h' b=Fv o:=λb hb o e=>kp b o (λq=>(F.home b q).1 hb) e;haveI hxa:s₀.heap.objs.size<=a:=(F.home a ha).2;haveI Xa: ∀i pv,Ρ.get (ρ.set (Og.idxOf x) Fw) i=Fv pv->i≠Og.idxOf x/\ρ.get i=Fv pv:=λi pv hi=>by
  by_cases e:i=Og.idxOf x
  ·subst e
   have:=dM hi;cases this
  ·exact⟨e,by rw [aF e]at hi;exact hi⟩
 refine⟨⟨F.a,F.e,⟨λb o e=> ?_,Fx F.x.size (FI hs.1.symm),F.x.gens,F.x.os⟩,F.h,F.y,hF, ?_,by simp;exact F.l,λb hb=> ?_,λb hb=>F.free b (by rw [<-hs.1];exact hb),F.home,F.sub,F.free₀,λp Ve=> ?_,F.nd,λb hb=> ?_⟩,⟨λb o hb e=> ?_,λ_ _ h _=>h,λ_ _ e=>e,rfl⟩,hV,Ru,kp,hs.1⟩
 ·exact kp b o (λq=>FV _ (Fy (aq e) (F.home b q).2)) (F.x.keep b o e)
 ·intro y pv hy hg
  obtain⟨h1,h2⟩:=cw hg;obtain⟨h3,h4⟩:=Xa _ _ h2;obtain⟨v',V,R⟩:=F.r y pv hy (by rw [bQ h1];exact h4)
  exact⟨v',Ru y v' (λq=>h3 (by rw [q])) V,R.mono (λ_ h _=>h) OX⟩
 ·by_cases hh:bg Oh ns b
  ·exact hF.live hh
  ·obtain⟨o,e⟩:=F.v b hb;exact⟨o,kp b o hh e⟩
 ·obtain⟨y,QE,h1,h2,h3,V,O,h4,h5,h6⟩:=F.ow p Ve
  have P4:y≠x:=λq=>ho (by rw [<-q,h1];exact Gs (f:=(·.1)) Ve)
  refine⟨y,QE,h1,h2,by rw [aF (h1▸fj hm P4)];exact h3,Ru y _ P4 V,O.frame (λb hb o e=>kp b o (λq=> ?_) e) λ_ _ h _=>h,h4,h5,h6⟩
  rcases hb with hb|hb
  ·exact(F.home b q).1 hb
  ·exact h5 (hb▸q.reads F.e)
 ·obtain⟨h1,h2,h3,e⟩:=F.w b hb
  exact⟨h1,h2,h3,by rw [show h'.objs.size=_ from hs.1];exact e⟩
 ·rcases hb with hb|hb
  ·exact OX b hb o e
  ·exact kp b o (λq=>(F.w b hb).2.1 (q.reads F.e)) e
end
section
theorem qA {name:Gj} {body:List Hs} (X:iR C Oh pos (Lr Oh name name)) (F:FSt C Og A Oh ns s₀ Oi W ok om ρ s) (hx:b8 ns name=FE) (hm:name∈Og) (ho:Og.idxOf name∉om.map (·.1))
  (SW:params.defaults=[]) (Rt:params.kw_defaults=[]) (ha:annTrees params Fw Oh=[]) (Pb:Ls scope Oh=pure OS) (h0:OS≠[]):
  WP (FN C.prog C.w) A (K8 (.FunctionDef name params body [] Fw [] scope Fw name pos) Oh) (λfl s'=>fl= .next/\ ∃f c' Pv Oz pm,FSt C Og A Oh ns s₀ Oi W ok om (ρ.set (Og.idxOf name) Fw) s'/\Tr W ok ok s s'/\
   aV s'.heap Oh name (.ref f)/\(∀y u,y≠name->aV s.heap Oh y u->aV s'.heap Oh y u)/\s'.heap.get? f=Fv {cls:= .type "function",data:= .func (kK name (Lr Oh name name) params body scope OS Oz pm Pv c')}/\
   ej s'.heap (.ref c') (Lr Oh name name)/\(∀b o,¬bg Oh ns b->vis s.heap b=Fv o->vis s'.heap b=Fv o)) s:=by
 refine nestDef_K SW Rt ha ?_;refine t5 X F.hk F.sys Pb h0 F.e.glob λc' Pv Oz pm s₁ x₁ f hf OR SQ SX=> ?_;have F₁:=F.ext x₁;refine(F₁.bindAny hx hm ho).mono λ_ s₂ ⟨F₂,T₂,V,V',kp,sz⟩=>⟨rfl,f,c',Pv,Oz,pm,F₂,x₁.tr.trans T₂,V,λy u hy q=>V' y u hy (q.keep x₁.keep), ?_, ?_,λb o hb e=>kp b o hb (x₁.keep b o e)⟩
 ·have n:ct {cls:= .type "function",data:= .func (kK name (Lr Oh name name) params body scope OS Oz pm Pv c')}:=cx rfl
  refine n.keep (λo e=>kp f o (λhb=> ?_) e) SQ;obtain⟨o,e⟩:=F.f.live hb;exact absurd (aq e) (JK.mpr hf)
 ·obtain⟨c,o,vs,t,e,g,n,d,r⟩:=SX
  refine⟨c,o,vs,t,e,dt (λo' e'=>kp c o' (λhb=> ?_) e') g d n,n,d,r⟩;rcases hb with hb|⟨y,hy,hb⟩
  ·obtain⟨m,o2,es,ep,e2,d2,_⟩:=F₁.f.L
   rw [<-hb,g]at e2;cases e2;rw [d]at d2;cases d2
  ·obtain⟨c2,v2,e2,o2,e3,d3⟩:=F₁.f.C y hy
   rw [hb]at e2;cases e2;rw [g]at e3;cases e3;rw [d]at d3;cases d3
end
structure gB (fd:J8) (body:List Hs) (params Og:List Gj):Prop where
 body:fd.body= .stmts body
 glob:fd.globals=He
 blt:fd.builtins=Jw
 kind:fd.scope.kind= .function
 co:fd.scope.isCoroutine=Fz
 gen:fd.scope.isGenerator=Fz
 bind: ∀vs:List FR,vs.length=params.length->Np fd ⟨vs,[]⟩=pure (params.zip vs)
 nd:params.Nodup
 pn: ∀x∈params,x∈Og
 pk: ∀x∈params,fd.scope.names.lookup x=Fv .local
 cell: ∀p∈fd.scope.names,p.2≠ .cell
variable {vs:List FR}
theorem ml {params:List Gj} (SN:params.Nodup) (h:(x,v)∈params.zip vs):(params.zip vs).reverse.lookup x=Fv v:=by
 haveI key: ∀(l:List (Gj×FR)),(l.map (·.1)).Nodup->(x,v)∈l->l.lookup x=Fv v:=by
  intro l;induction l with
  |nil=>intro _ h;cases h
  |cons p l ih=>
   intro hn h;obtain⟨y,u⟩:=p;simp only [Gf,H3]at hn;rcases FS.mp h with h|h
   ·cases h;simp
   ·haveI:x≠y:=λq=>hn.1 (q▸Gs (f:=(·.1)) h)
    rw [Hh,show(x==y)=Fz by simpa using this]
    exact ih hn.2 h
 refine key _ ?_ (M2.mpr h);rw [M3];refine(List.pairwise_reverse.mpr ((SN.sublist ?_).imp λh=>J_ h));haveI: ∀(p:List Gj) (v:List FR),List.Sublist ((p.zip v).map (·.1)) p:=by
  intro p;induction p with
  |nil=>intro v;simp
  |cons a p ih=>intro v;cases v with
   |nil=>simp
   |cons b v=>simpa using ih v
 exact this _ _
variable {ρ₀:Ρ} {args:List PV}
section
variable {body:List Hs} {params:List Gj}
theorem vP (D:gB fd body params Og) (hA:AOk (C.d+1) A) (hH:HK C.H s.heap) (lim:C.H.NoLimit) (y:Sys C.H) (hf:s.heap.get? f=Fv o) (data:o.data= .func fd) (code:ej s.heap fd.code fd.qualname)
  (free: ∀x,fd.scope.names.lookup x=Fv .free-> ∃c o,fd.closure.lookup x=Fv c/\vis s.heap c=Fv o)
  (inj: ∀x y c,fd.scope.names.lookup x=Fv .free->fd.scope.names.lookup y=Fv .free->fd.closure.lookup x=Fv c->fd.closure.lookup y=Fv c->x=y)
  (ho:ce Oi s.heap) (hρ:a_ ρ₀ (params.map Og.idxOf) args=Fv ρ) (hl:ρ₀.length<=Og.length) (q:av C.prog C.w Oi s.heap args vs)
  (PY: ∀x pv,fd.scope.names.lookup x=Fv .free->ρ₀.get (Og.idxOf x)=Fv pv-> ∃c v,fd.closure.lookup x=Fv c/\s.heap.IsCell c (Fv v)/\Rep C.prog C.w Oi s.heap pv v)
  (Pg: ∀x,fd.scope.names.lookup x=Fv .local->ρ₀.get (Og.idxOf x)=Fw)
  (k: ∀s₁,FSt C Og (A.deeper (IA fd s.heap.objs.size f)) (IA fd s.heap.objs.size f) fd.scope.names s Oi (λ_=>False) (λb=>Oi b/\b≠s.heap.objs.size) [] ρ s₁->
   WP (FN C.prog C.w) (A.deeper (IA fd s.heap.objs.size f)) (Iv body (IA fd s.heap.objs.size f)) (λfl s'=>Q (w0 fl) s') s₁):
  WP (FN C.prog C.w) A (Jj (.ref f) vs) Q s:=by
 have Oj:params.length=args.length:=by simpa using(dX hρ).1
 have To:vs.length=params.length:=by rw [q.length,Oj]
 have Ra: ∀p∈params.zip vs,p.1∈params:=λp hp=>(Mn hp).1;refine Ni ?_;refine codeAny_call_def hA.room hf data (cX lim hH) code.rec D.body (.of_eq (D.bind vs To)) D.cell (λp hp=>D.pk _ (Ra p hp)) (λh₁ Q0 UD=> ?_) D.co D.gen D.kind;haveI kindOf: ∀x,(IA fd s.heap.objs.size f).kindOf x=fd.scope.names.lookup x:=λ_=>rfl;have V7: ∀x,fd.scope.names.lookup x≠Fv .cell:=λx hx=>D.cell _ (mem_of_lookup hx) rfl;have Qh: ∀x,bu (fd.scope.names.lookup x)=FE->fd.scope.names.lookup x=Fv .free:=λx hx=>by
  cases h:fd.scope.names.lookup x with
  |none=>rw [h]at hx;cases hx
  |some k=>
   rw [h]at hx;cases k<;>first|rfl|(exact absurd hx (by decide))|(exact absurd h (V7 x))
 have E:cu (IA fd s.heap.objs.size f) fd.scope.names:=by refine⟨D.kind,D.glob,D.blt,λ_=>rfl,λ_=>rfl,λx hx=> ?_,λx y c hx hy h1 h2=>inj x y c (Qh x hx) (Qh y hy) h1 h2,λ_ h=>h⟩;obtain⟨c,_,h,_⟩:=free x (Qh x hx);exact⟨c,h⟩
 have RQ: ∀b,bg (IA fd s.heap.objs.size f) fd.scope.names b->b=s.heap.objs.size:=λb hb=>by
  rcases hb with rfl|⟨x,hx,_⟩
  ·rfl
  ·exact absurd hx (V7 x)
 haveI FO:aE h₁ (IA fd s.heap.objs.size f) fd.scope.names:=⟨⟨_,Q0⟩,λx hx=>absurd hx (V7 x)⟩;have OR:s.heap.objs.size<=h₁.objs.size:=by obtain⟨o,_,_,e,_⟩:=Q0;exact Gm (Hv e)
 have xt:Ext s {s with heap:=h₁,toks:=s.toks+(params.zip vs).length}:=⟨HK.of UD,OR,λ_ _ e=>e,rfl⟩
 have live: ∀b (o:N1),vis s.heap b=Fv o->b≠s.heap.objs.size:=λb o e q=>FV _ (q▸aq e);refine Hy (E:=λ_ _=>False) (k _ ⟨hA.deeper,E,xt,hH,y,FO, ?_,by rw [(dX hρ).2];exact hl,λb hb=> ?_,λb hb=>⟨ho b (Fx OR hb),λq=> ?_⟩,λb hb=>⟨λh=>h.2 (RQ b hb),FI (RQ b hb).symm⟩,λb h=>h.1,ho,(λp hp=>absurd hp (by simp)),⟨HX,HX⟩,λb hb=>hb.elim⟩) (λfl _ h=>by cases fl<;>exact h) λ_ _ h=>h.elim
 ·intro x pv hx hg
  have hg:ρ.get (Og.idxOf x)=Fv pv:=hg;rcases lQ hρ hg with h|h
  ·by_cases hc:fd.scope.names.lookup x=Fv .local
   ·rw [Pg x hc]at h;cases h
   ·have Tn:fd.scope.names.lookup x=Fv .free:=by
     have h1:fC (fd.scope.names.lookup x)=1:=hx;cases hk:fd.scope.names.lookup x with
     |none=>rw [hk]at h1;cases h1
     |some k=>
      rw [hk]at h1;cases k<;>first|rfl|(exact absurd hk hc)|(exact absurd hk (V7 x))|(exact absurd h1 (by decide))
    obtain⟨c,v,h1,h2,h3⟩:=PY x pv Tn h;exact⟨v,.cel c (.inr Tn) h1 (aN h2 (xt.keep c)),h3.mono (λb hb ⟨o,e⟩=>⟨hb,live b o e⟩) λb _ o e=>xt.keep b o e⟩
  ·obtain⟨⟨y,v⟩,i,h1,h2,h3,h4⟩:=t_ (zs:=params.zip vs) (by rw [Mo,To,Ld,Oj]) h
   obtain⟨y',Rh,R3⟩: ∃y',params[i]? =Fv y'/\Og.idxOf y'=Og.idxOf x:=by rw [Gp]at h1;exact Gk.mp h1
   have TE:y'∈params:=FX Rh;haveI QA:y'=x:=by
    by_cases e:y'=x
    ·exact e
    ·exact absurd R3.symm (fj (D.pn y' TE) (J_ e))
   subst QA;obtain⟨v',VR,rv⟩:=q.get h2;haveI Ra:(y',v')∈params.zip vs:=by
    haveI:(params.zip vs)[i]? =Fv (y',v'):=by rw [MT];exact⟨Rh,VR⟩
    exact FX this
   exact⟨v',.loc _ (D.pk y' TE) Q0 (ml D.nd Ra),rv.mono (λb hb ⟨o,e⟩=>⟨hb,live b o e⟩) λb _ o e=>xt.keep b o e⟩
 ·rcases hb with rfl|⟨x,hx,h⟩
  ·exact nM Q0
  ·obtain⟨c,o,h1,h2⟩:=free x (Qh x hx)
   have h:fd.closure.lookup x=Fv b:=h;rw [h1]at h;cases h;exact⟨o,xt.keep _ _ h2⟩
 ·obtain⟨o,_,_,e,_⟩:=Q0
  have:=Hv e;rw [q]at hb;exact absurd this (JK.mpr hb)
end
noncomputable abbrev Cx.mute (C:Cx) (d:Nat):Cx:={C with gl:=λ_=>Fw,d:=d}
noncomputable def Γ0:Gam:=⟨λ_=>Fw,λ_ _=>Fw,λ_ _=>Fw⟩
theorem AP (sy:Sys C.H) (d:Nat):an (C.mute d) Γ0:=
 ⟨sy,λ_ _ _ h=>(by cases h),λ_ _ h=>(by cases h),λ_ _ h=>(by cases h),λ_ _ h=>(by cases h),λ_ _ h=>(by cases h)⟩
section
theorem g9 {args:List Expr} {rs:List PV} (E:cu Oh ns) (hx:aC x=FE) (V:aV s.heap Oh x (.ref f)) (ho:s.heap.get? f=Fv o) (hd:o.data= .func fd) (ha:ci C A Oh ok args rs s)
  (h: ∀us s₁,Ext s s₁->av C.prog C.w ok s₁.heap rs us->WP (FN C.prog C.w) A (Jj (.ref f) us) Q s₁):WP (FN C.prog C.w) A (Hz (.Call (.Name x p) args [] pos) Oh) Q s:=by
 refine MY rfl (im E hx V ?_);refine My (o:=o) (fd:=fd) ?_;exact bB (by rw [bY];exact ha.1) ((ha.2 pos).mono λus s₁ ⟨x,q⟩=>⟨⟨(cx hd).keep (x.keep _) ho,hd⟩,h us s₁ x q⟩)
end
structure gp (C:Cx) (Og:List Gj) (Oi:Gb->Prop) (f:Gb) (fd:J8) (me:Gj) (ρ₀:Ρ) (s:FL):Prop where
 h:HK C.H s.heap
 fo: ∃o,s.heap.get? f=Fv o/\o.data= .func fd
 code:ej s.heap fd.code fd.qualname
 free: ∀x,fd.scope.names.lookup x=Fv .free-> ∃c v,fd.closure.lookup x=Fv c/\s.heap.IsCell c v
 self: ∃c,fd.closure.lookup me=Fv c/\s.heap.IsCell c (Fv (.ref f))
 vals: ∀x pv,fd.scope.names.lookup x=Fv .free->ρ₀.get (Og.idxOf x)=Fv pv-> ∃c v,fd.closure.lookup x=Fv c/\s.heap.IsCell c (Fv v)/\Rep C.prog C.w Oi s.heap pv v
 fr:ce Oi s.heap
variable {me:Gj}
section
theorem gp.ext (x:gp C Og Oi f fd me ρ₀ s) (e:Ext s s'):gp C Og Oi f fd me ρ₀ s' where
 h:=x.h.trans e.keep
 fo:=by obtain⟨o,h1,h2⟩:=x.fo;exact⟨o,(cx h2).keep (e.keep f) h1,h2⟩
 code:=x.code.keep e.keep
 free:=λy hy=>by obtain⟨c,v,h1,h2⟩:=x.free y hy;exact⟨c,v,h1,aN h2 (e.keep c)⟩
 self:=by obtain⟨c,h1,h2⟩:=x.self;exact⟨c,h1,aN h2 (e.keep c)⟩
 vals:=λy pv hy hp=>by obtain⟨c,v,h1,h2,h3⟩:=x.vals y pv hy hp;exact⟨c,v,h1,aN h2 (e.keep c),h3.keep e.keep⟩
 fr:=x.fr.keep e.size
theorem gp.depth (x:gp C Og Oi f fd me ρ₀ s) (d:Nat):gp (C.mute d) Og Oi f fd me ρ₀ s:=⟨x.h,x.fo,x.code,x.free,x.self,x.vals,x.fr⟩
end
structure yQ (fd:J8):Prop where
 inj: ∀x y c,fd.scope.names.lookup x=Fv .free->fd.scope.names.lookup y=Fv .free->fd.closure.lookup x=Fv c->fd.closure.lookup y=Fv c->x=y
section
variable {body:List Hs} {params:List Gj}
theorem mi (D:gB fd body params Og) (I:yQ fd) (hA:AOk (C.d+1) A) (lim:C.H.NoLimit) (y:Sys C.H) (X:gp C Og Oi f fd me ρ₀ s) (Qj:fd.scope.names.lookup me=Fv .free)
 (hρ:a_ ρ₀ (params.map Og.idxOf) args=Fv ρ) (hl:ρ₀.length<=Og.length) (q:av C.prog C.w Oi s.heap args vs)
  (Pg: ∀x,fd.scope.names.lookup x=Fv .local->ρ₀.get (Og.idxOf x)=Fw)
  (k: ∀s₁,FSt C Og (A.deeper (IA fd s.heap.objs.size f)) (IA fd s.heap.objs.size f) fd.scope.names s Oi (λ_=>False) (λb=>Oi b/\b≠s.heap.objs.size) [] ρ s₁->aV s₁.heap (IA fd s.heap.objs.size f) me (.ref f)->
   WP (FN C.prog C.w) (A.deeper (IA fd s.heap.objs.size f)) (Iv body (IA fd s.heap.objs.size f)) (λfl s'=>Q (w0 fl) s') s₁):
  WP (FN C.prog C.w) A (Jj (.ref f) vs) Q s:=by
 obtain⟨o,hf,data⟩:=X.fo;refine vP D hA X.h lim y hf data X.code (λx hx=> ?_) I.inj X.fr hρ hl q X.vals Pg λs₁ F=>k s₁ F ?_
 ·obtain⟨c,v,h1,h2⟩:=X.free x hx
  obtain⟨o,e⟩:=lL h2;exact⟨c,o,h1,e⟩
 ·obtain⟨c,h1,h2⟩:=X.self
  exact .cel c (.inr Qj) h1 (aN h2 (F.x.keep c))
end
variable {sc:KY}
section
noncomputable def gy (ns:ay) (sc:KY):Bool:=sc.names.all λp=>sc.names.lookup p.1==Fv p.2&&(p.2 != .free||ns.lookup p.1==Fv .cell)
theorem m_ (h:gy ns sc=FE) (hx:(x,GU)∈sc.names):sc.names.lookup x=Fv .free/\ns.lookup x=Fv .cell:=by have:=GD.mp h _ hx;simpa using this
theorem iy (E:cu Oh ns) (h:gy ns sc=FE) (hx:(x,GU)∈sc.names): ∃c,Oh.cells.lookup x=Fv c:=by have:=(m_ h hx).2;exact E.cells x (by rw [E.own x this];rfl)
theorem jA (E:cu Oh ns) (h:gy ns sc=FE) (hx:sc.names.lookup x=Fv .free):(di Oh sc.names []).lookup x=Oh.cells.lookup x:=by rw [ft _ _ λn hn=>iy E h hn,if_pos (mem_of_lookup hx)]
theorem lx (E:cu Oh ns) (hx:ns.lookup x=Fv .cell) (V:aV h Oh x v): ∃c,Oh.cells.lookup x=Fv c/\h.IsCell c (Fv v):=by
 cases V with
 |loc m k n e=>rw [E.own x hx]at k;cases k
 |cel c k l e=>exact⟨c,l,e⟩
theorem qC {name:Gj} {body:List Hs} {Oz pm Pv:FR} {c':Gb} {Qi:List Gj} (F:FSt C Og A Oh ns s₀ Oi W ok om ρ s) (hs:gy ns sc=FE) (V:aV s.heap Oh name (.ref f)) (Qj:sc.names.lookup name=Fv .free)
  (SQ:s.heap.get? f=Fv {cls:= .type "function",data:= .func (kK name qual params body sc (di Oh sc.names []) Oz pm Pv c')}) (SX:ej s.heap (.ref c') qual)
  (hv: ∀x pv,sc.names.lookup x=Fv .free->ρ₀.get (Qi.idxOf x)=Fv pv->(aB ρ (om.map (·.1))).get (Og.idxOf x)=Fv pv):
  gp C Qi ok f (kK name qual params body sc (di Oh sc.names []) Oz pm Pv c') name ρ₀ s/\yQ (kK name qual params body sc (di Oh sc.names []) Oz pm Pv c'):=by
 have PM: ∀{x},sc.names.lookup x=Fv .free->(di Oh sc.names []).lookup x=Oh.cells.lookup x:=λhx=>jA F.e hs hx;have own: ∀{x},sc.names.lookup x=Fv .free->ns.lookup x=Fv .cell:=λhx=>(m_ hs (mem_of_lookup hx)).2;refine⟨⟨F.hk,⟨_,SQ,rfl⟩,SX,λx hx=> ?_, ?_,λx pv hx hp=> ?_,F.free⟩,⟨λx y c hx hy h1 h2=> ?_⟩⟩
 ·obtain⟨c,v,h1,h2⟩:=F.f.C x (own hx)
  exact⟨c,v,(PM hx).trans h1,h2⟩
 ·obtain⟨c,h1,h2⟩:=lx F.e (own Qj) V
  exact⟨c,(PM Qj).trans h1,h2⟩
 ·obtain⟨v,V',R⟩:=F.r x pv (by rw [F.e.own x (own hx)];rfl) (hv x pv hx hp)
  obtain⟨c,h1,h2⟩:=lx F.e (own hx) V';exact⟨c,v,(PM hx).trans h1,h2,R⟩
 ·have h1:(di Oh sc.names []).lookup x=Fv c:=h1
  have h2:(di Oh sc.names []).lookup y=Fv c:=h2;rw [PM hx]at h1;rw [PM hy]at h2;exact F.e.inj x y c (by rw [F.e.own x (own hx)];rfl) (by rw [F.e.own y (own hy)];rfl) h1 h2
theorem j9 (E:cu Oh ns) (h:gy ns sc=FE):Ls sc Oh=pure (di Oh sc.names []):=ie λn hn=>iy E h hn
theorem uo (E:cu Oh ns) (h:gy ns sc=FE) (hx:sc.names.lookup x=Fv .free):di Oh sc.names []≠[]:=λq=>by obtain⟨c,hc⟩:=iy E h (mem_of_lookup hx);have:=jA E h hx;rw [q,hc]at this;cases this
end
noncomputable def hsum (n:Nat):List Int->Int
 |[]=>0
 |d::r=>d+hsum n r*2^n
theorem gJ (n:Nat): ∀xs ys,hsum n (xs++ys)=hsum n xs+hsum n ys*2^(n*xs.length)
 |[],ys=>by simp [hsum]
 |d::r,ys=>by rw [GV,hsum,hsum,gJ n r ys,FY,IP,Int.pow_add,Mq,Int.add_assoc,Na]
theorem qE (n:Nat):FC ((2:Int)^n)<=n+1:=by rw [HD];rw [Int.natAbs_pow];exact Nat.pow_lt_pow_right (by decide) (Gx n)
theorem h_ (n B:Nat): ∀xs:List Int,(∀d∈xs,FC d<=B)->FC (hsum n xs)<=B+(n+2)*xs.length
 |[],_=>by simp [hsum,FC]
 |d::r,h=>by haveI h1:=h_ n B r λd hd=>h d (FU _ hd);haveI h2:=Nr (h d FT) (Ic h1 (qE n));rw [hsum];refine Fx h2 ?_;rw [FY,IP];lia
noncomputable def dgN:List Gj:=["digits","n","L","R","mid","shift"]
noncomputable def Bb:PS:= .ite (.cmp .Eq (.bin .Add (.var 2) (.cI 1)) (.var 3)) [.ret (.idx (.var 0) (.var 2))] []
noncomputable def Dg:PS:= .set 4 0 (.bin .RShift (.bin .Add (.var 2) (.var 3)) (.cI 1))
noncomputable def Df:PS:= .set 5 0 (.bin .Mult (.bin .Sub (.var 4) (.var 2)) (.var 1))
noncomputable abbrev g0:Gj->Option aX:=λ_=>Fw
noncomputable abbrev h0:Gj->Nat:=λ_=>0
inductive lu (ns:ay):List Hs->Prop
 |mk (st1 st2 st3:Hs) (e1 e2 e3 e4 e5:Expr) (p1 p2 p3 p4 p5 p6 p7:HW)
  (h1:sS g0 dgN h0 ns 20 st1=Bb) (h2:sS g0 dgN h0 ns 20 st2=Dg) (h3:sS g0 dgN h0 ns 20 st3=Df)
  (a1:sL g0 dgN 20 ns [e1,e2]=Fv [.var 4,.var 3]) (a2:sE g0 dgN 20 ns e3=Fv (.var 5)) (a3:sL g0 dgN 20 ns [e4,e5]=Fv [.var 2,.var 4]):
  lu ns [st1,st2,st3,.Return (Fv (.BinOp (.BinOp (.Call (.Name "inner" p1) [e1,e2] [] p2) .LShift e3 p3) .Add (.Call (.Name "inner" p4) [e4,e5] [] p5) p6)) p7]
variable {L:Nat}
theorem n5 {w:Nat} (hw:0<w) (h1: ¬w=1) (h:2*w<=2^(k+1)): ∃p q,w=p+q/\0<p/\0<q/\(L+(L+w))/2=L+p/\2*p<=2^k/\2*q<=2^k:=by
 refine⟨w/2,w-w/2,by exact Ha (Gz (Nat.div_le_self _ _)),by exact aW2 hw h1,by exact aW3 hw,by exact Fn, ?_⟩
 cases k with
 |zero=>exact absurd (Io (Nat.le_of_mul_le_mul_left h (by decide)) hw) h1
 |succ k=>rw [Kl,Kl]at h;rw [Kl];lia
variable {a:Nat}
theorem D4 (h:a<2^62): -(2^63:Int)<=(a:Int)/\(a:Int)<2^63:=by exact Dr h
variable {b:Nat}
theorem D6 (h:a+b<=2^27):(a:Int)+(b:Int)<=2^27:=by lia
theorem Bd {w:Nat}:(((L:Int)+1)==((L+w:Nat):Int))=decide (w=1):=by
 by_cases h:w=1
 ·subst h;exact beq_self_eq_true _
 ·rw [decide_eq_false h];exact beq_eq_false_iff_ne.mpr λe=>h (NX (O2 e)).symm
section
theorem fV {st:Hs} {Q:K4->FL->Prop} (S:dA C Γ Og ns st ps) (F:FSt C Og A Oh ns s₀ Oi W ok [] ρ s) (hp:ak Γ ps ρ []=Fv (.next ρ' []))
  (k: ∀ok' s',FSt C Og A Oh ns s₀ Oi W ok' [] ρ' s'->WP (FN C.prog C.w) A (Iv rest Oh) Q s'):WP (FN C.prog C.w) A (Iv (st::rest) Oh) Q s:=
 GT ((S A Oh s₀ Oi W ok [] ρ s _ F hp).mono λfl s' hP=>by obtain⟨rfl,ok',ON,F',_,Qg⟩:=hP;cases List.map_eq_nil_iff.mp Qg;exact k ok' s' F')
end
noncomputable def cut (ds:List Int) (L w:Nat):List Int:=(ds.drop L).take w
variable {ds:List Int} {q:Nat}
theorem vM {p:Nat}:cut ds L (p+q)=cut ds L p++cut ds (L+p) q:=by unfold cut;rw [List.take_add,Iy]
theorem yb (h:L<ds.length):hsum n (cut ds L 1)=ds[L]:=by unfold cut;rw [I4 h];show ds[L]+0*2^n=_;rw [Nx,LZ]
theorem uD {w:Nat} (h:L+w<=ds.length):(cut ds L w).length=w:=by rw [cut,IW,Iu];exact JE (NO (GX L w▸h))
theorem Al {w:Nat} {d:Int} (h:d∈cut ds L w):d∈ds:=K7 (Lp h)
noncomputable def dg0 (ds:List Int) (n:Nat):Ρ:=[Fv (.list (ds.map .int)),Fv (.int n),Fw,Fw,Fw,Fw]
noncomputable def dgR (ds:List Int) (n L R:Nat) (a b:Option PV):Ρ:=[Fv (.list (ds.map .int)),Fv (.int n),Fv (.int L),Fv (.int R),a,b]
theorem AV (a:Nat):Int.fdiv (a:Int) (2^(1:Int).toNat)=((a/2:Nat):Int):=by
 rw [Hi _ (by decide)]
 simp
theorem oV (h:i<n):KA (i:Int) n=Fv i:=by haveI h0: ¬(i:Int)<0:=MU.mpr (Gd i);rw [KA,if_neg h0];exact if_pos (GG.mpr ⟨decide_eq_true (Gd i),decide_eq_true (It.mpr h)⟩)
theorem d9 (a m:Nat) (h:a<2^m):FC (a:Int)<=m:=by rw [HD];simpa using h
theorem Cw (hL:L<ds.length) (h62:ds.length<2^62):ak Γ0 Bb (dgR ds n L (L+1) Fw Fw) []=Fv (.ret (.int ds[L])):=by
 refine am (t:=FE) (congrArg Fv Bd) (ao (aH ?_));show((KA (L:Int) (ds.map PV.int).length).bind λk=>if-(2^63:Int)<=(L:Int)/\(L:Int)<2^63 then(ds.map PV.int)[k]? else Fw)=_;rw [FD];refine aD (oV hL) ((if_pos (D4 (HL hL h62))).trans ?_);rw [Gp,Ge hL]
 rfl
theorem Cv {w:Nat} (h: ¬w=1):ak Γ0 Bb (dgR ds n L (L+w) Fw Fw) []=Fv (.next (dgR ds n L (L+w) Fw Fw) []):=am (t:=Fz) (congrArg Fv (Bd.trans (decide_eq_false h))) rfl
variable {R:Nat}
theorem D_:ak Γ0 Dg (dgR ds n L R Fw Fw) []=Fv (.next (dgR ds n L R (Fv (.int (((L+R)/2:Nat):Int))) Fw) []):=
 aj (congrArg (λi=>Fv (PV.int i)) (AV (L+R)))
theorem n0 {p:Nat} (hn:n<2^62):aS (Jy (((L+p:Nat):Int)-(L:Int)) (n:Int)) ((((L+p:Nat):Int)-(L:Int))*(n:Int))=Fv (.int ((n*p:Nat):Int)):=by
 haveI e:((L+p:Nat):Int)-(L:Int)=(p:Int):=by rw [Hd,Lg,Ku]
 rw [e,H9];exact if_pos (IntMulOk.of_right (Fx (d9 n 62 hn) (by decide)))
theorem DZ {p:Nat} (hn:n<2^62):ak Γ0 Df (dgR ds n L R (Fv (.int ((L+p:Nat):Int))) Fw) []=Fv (.next (dgR ds n L R (Fv (.int ((L+p:Nat):Int))) (Fv (.int ((n*p:Nat):Int)))) []):=
 aj (n0 hn)
variable {B:Nat}
section
variable {body:List Hs}
theorem vL (D:gB fd body ["L","R"] dgN) (I:yQ fd) (lim:C.H.NoLimit) (sy:Sys C.H) (F:lu fd.scope.names body) (Qj:fd.scope.names.lookup ("inner" :Gj)=Fv .free)
  (Pg: ∀x,fd.scope.names.lookup x=Fv .local->x∈(["L","R","mid","shift"]:List Gj)) (hB: ∀d∈ds,FC d<=B) (Oj:ds.length<2^60) (hn:n<2^62) (Pj:B+(n+2)*ds.length+n*ds.length<=2^27):
  ∀k A s L w R us,gp C dgN Oi f fd "inner" (dg0 ds n) s->AOk k A->0<w->L+w=R->R<=ds.length->2*w<=2^k->av C.prog C.w Oi s.heap [.int (L:Nat),.int (R:Nat)] us->
   WP (FN C.prog C.w) A (Jj (.ref f) us) (λv s'=>Ext s s'/\ ∃t,v= .int (hsum n (cut ds L w)) t) s:=by
 have Rs: ∀x,fd.scope.names.lookup x=Fv .local->(dg0 ds n).get (dgN.idxOf x)=Fw:=λx hx=>
  (Gg.mpr ⟨rfl,Gg.mpr ⟨rfl,kL rfl rfl⟩⟩: ∀i∈[2,3,4,5],(dg0 ds n).get i=Fw) _ ((by decide: ∀x∈(["L","R","mid","shift"]:List Gj),dgN.idxOf x∈[2,3,4,5]) x (Pg x hx))
 have VO:(["L","R"]:List Gj).map dgN.idxOf=[2,3]:=by decide
 obtain⟨st1,st2,st3,e1,e2,e3,e4,e5,p1,p2,p3,p4,p5,p6,p7,g1,g2,g3,a1,a2,a3⟩:=F;intro k;induction k with
 |zero=>exact λA s L w R us _ _ h1 _ _ h3 _=>absurd (Fx (GS 2 h1) h3) (by decide)
 |succ k ih=>
  intro A s L w R us X hA h1 hR h2 h3 q;subst hR;have hρ:a_ (dg0 ds n) (((["L","R"]:List Gj)).map dgN.idxOf) [.int (L:Nat),.int (L+w:Nat)]=Fv (dgR ds n L (L+w) Fw Fw):=by rw [VO];rfl
  refine mi (C:=C.mute k) D I hA lim sy (X.depth k) Qj hρ (FH 6) q Rs λs₁ F₁ V₁=> ?_;have GO:=AP (C:=C) sy k;have S:=cK (Og:=dgN) GO 20;have SS:=(db (Og:=dgN) GO h0 fd.scope.names 20).1;by_cases hone:w=1
  ·subst hone
   refine GT ((SS st1 _ _ _ _ _ _ _ _ _ _ F₁ (g1.symm▸Cw h2 (HL Oj (by decide)))).mono λfl s₂ hP=> ?_)
   obtain⟨u,rfl,hx,t,rfl⟩:=hP;exact⟨hx,t,congrArg (λi=>IT i t) (yb h2).symm⟩
  ·obtain⟨p,q',rfl,hp,hq,eM,k1,k2⟩:=n5 (L:=L) h1 hone h3
   refine fV (SS st1) F₁ (g1.symm▸Cv hone) λok2 s₂ F₂=>fV (SS st2) F₂ (g2.symm▸eM▸D_) λok3 s₃ F₃=>fV (SS st3) F₃ (g3.symm▸DZ hn) λTm s₄ F₄=> ?_;have G₄:=F₄.good0;have Ws: ∀b,Tm b->Oi b:=F₄.sub;have X₄:gp C dgN Oi f fd "inner" (dg0 ds n) s₄:=X.ext F₄.x;have SG: ∀{e e':Expr} {P P':HW} {a w b:Nat} {O_:List PE} (s':FL),Ext s₄ s'->0<w->a+w=b->b<=ds.length->2*w<=2^k->sL g0 dgN 20 fd.scope.names [e,e']=Fv O_->dz Γ0 O_ (dgR ds n L (L+(p+q')) (Fv (.int ((L+p:Nat):Int))) (Fv (.int ((n*p:Nat):Int))))=Fv [.int (a:Nat),.int (b:Nat)]->
     WP (FN C.prog C.w) (A.deeper (IA fd s.heap.objs.size f)) (Hz (.Call (.Name "inner" P) [e,e'] [] P') (IA fd s.heap.objs.size f)) (Ev (C.mute k) Tm (.int (hsum n (cut ds a w))) s') s':=by
    intro e e' P P' a w b O_ s' x hw Pl hb hk hs hp;have X':=X₄.ext x;obtain⟨c,Vs,Pa⟩:=X'.self;obtain⟨o,ho,hd⟩:=X'.fo;exact g9 (C:=C.mute k) F₄.e (by decide) (.cel c (.inr Qj) Vs Pa) ho hd (S.l _ _ _ hs _ _ _ Tm s' _ (G₄.ext x) hp) λus s₅ x₅ q₅=>
     (ih _ s₅ a w b us (X'.ext x₅) F₄.a hw Pl hb hk (q₅.mono (λb hb _=>Ws b hb) λ_ _ _ e=>e)).mono λv s₆ ⟨x₆,t,hv⟩=>⟨x₅.trans x₆,t,hv⟩
   show WP _ _ (Iv [_] _) _ _;refine GT ?_;rw [Kc];have VY:L+p+q'<=ds.length:=GN L p q'▸h2;have PU:L+p<=ds.length:=Fx (FZ _ _) VY;refine WP.at (WP.then (Q₁:=Ev (C.mute k) Tm (.int (hsum n (cut ds L (p+q')))) s₄) ?_ λv s₅ ⟨x₅,t,hv⟩=>FK ⟨F₄.x.trans x₅,t,hv⟩);refine rS (C:=C.mute k) (a:= .int (hsum n (cut ds (L+p) q')*2^(n*p))) (b:= .int (hsum n (cut ds L p))) (λs' x'=> ?_) (λs' x'=>SG s' x' hp rfl PU k1 a3 rfl) λs' va vb x' ra rb=> ?_
   ·refine rS (C:=C.mute k) (a:= .int (hsum n (cut ds (L+p) q'))) (b:= .int ((n*p:Nat):Int)) (λOy Ti=>SG Oy (x'.trans Ti) hq (GN L p q') h2 k2 a1 rfl) (λOy Ti=>S.e _ _ _ a2 _ _ _ Tm Oy _ (G₄.ext (x'.trans Ti)) rfl) λOy va vb Ti ra rb=> ?_
    refine ox ?_ (G₄.ext (x'.trans Ti)).o (G₄.ext (x'.trans Ti)).m ra rb;have Qk:=h_ n B (cut ds (L+p) q') λd hd=>hB d (Al hd);rw [uD VY]at Qk;exact if_pos ⟨Gd _,D6 (Fx (FM (Fx Qk (G_ (GS _ (Fx (H5 _ _) VY)) B)) (GS n (Fx (H5 _ _) PU))) Pj)⟩
   ·refine ox ?_ (G₄.ext x').o (G₄.ext x').m ra rb
    refine congrArg (λi=>Fv (PV.int i)) ?_;rw [vM,gJ,uD PU,Lg]
end
noncomputable def dgO:List Gj:=["digits","n","inner"]
inductive tY (gl:Gj->Option aX) (ns:ay):Kg->List Hs->KY->HW->List Hs->Prop
 |mk (Ow:Kg) (OT:List Hs) (Q3:KY) (Q8:HW) (t e1 e2 e3:Expr) (p1 p2 p3 p4:HW)
  (h1:sT gl dgO 20 ns t=Fv (.var 0)) (h2:sL gl dgO 20 ns [e1,e2]=Fv [.cI 0,.bi .len [.var 0]]) (h3:sE gl dgO 20 ns e3=Fv (.cI 0)):
  tY gl ns Ow OT Q3 Q8 [.FunctionDef "inner" Ow OT [] Fw [] Q3 Fw "inner" Q8,.Return (Fv (.IfExp t (.Call (.Name "inner" p1) [e1,e2] [] p2) e3 p3)) p4]
theorem v6 (h:xs.length<2^62):ez (.list xs)=Fv (!xs.isEmpty):=if_pos h
theorem bv (h:xs.length<2^62):pbi .len [.list xs]=Fv (.int xs.length):=if_pos h
variable {OT:List Hs} {Ow:Kg} {Q3:KY} {Q8:HW}
section
variable {body:List Hs}
theorem yv (GO:an C Γ) (D:bX C f o fd body ["digits","n"] dgO) (F:tY C.gl fd.scope.names Ow OT Q3 Q8 body)
  (SW:Ow.defaults=[]) (Rt:Ow.kw_defaults=[]) (ha: ∀Oh,annTrees Ow Fw Oh=[])
  (Q0:gy fd.scope.names Q3=FE) (Qj:Q3.names.lookup ("inner" :Gj)=Fv .free) (TX: ∀x,Q3.names.lookup x=Fv .free->x∈(["digits","n","inner"]:List Gj)) (Q6:fd.scope.names.lookup ("inner" :Gj)=Fv .cell)
  (hX: ∀L,iR C (Iw fd L f) Q8 (Lr (Iw fd L f) "inner" "inner"))
  (Vq: ∀OS Oz pm Pv c' qual,gB (kK "inner" qual Ow OT Q3 OS Oz pm Pv c') OT ["L","R"] dgN)
  (W6:lu Q3.names OT) (Pg: ∀x,Q3.names.lookup x=Fv .local->x∈(["L","R","mid","shift"]:List Gj))
 (hB: ∀d∈ds,FC d<=B) (Oj:2*ds.length<=2^C.d) (Pd:ds.length<2^60) (hn:n<2^62) (Pj:B+(n+2)*ds.length+n*ds.length<=2^27):
  ah C.prog C.w C.H (C.d+1) f [.list (ds.map .int),.int n] (.int (hsum n ds)):=by
 intro A s ok vs hA hH ho Qc q;haveI hρ:a_ (Gc dgO.length Fw) ((["digits","n"]:List Gj).map dgO.idxOf) [.list (ds.map .int),.int n]=Fv [Fv (.list (ds.map .int)),Fv (.int n),Fw]:=by
  haveI:(["digits","n"]:List Gj).map dgO.idxOf=[0,1]:=by decide
  rw [this];rfl
 refine jH D GO.sy hρ hA hH ho q λs₁ F₁=> ?_;obtain⟨t,e1,e2,e3,p1,p2,p3,p4,h1,h2,h3⟩:=F;have S:=cK (Og:=dgO) GO 20;haveI TU:dgO.idxOf ("inner" :Gj)=2:=by decide
 refine GT ((qA (hX _) F₁ (by simp [b8,Q6];decide) (by decide) (by simp) SW Rt (ha _) (j9 F₁.e Q0) (uo F₁.e Q0 Qj)).mono λfl s₂ hP=> ?_)
 obtain⟨rfl,f',c',Pv,Oz,pm,F₂,T₂,V,_,SQ,SX,_⟩:=hP;rw [TU]at F₂;have F₂:FSt C dgO _ _ _ s ok _ _ [] [Fv (.list (ds.map .int)),Fv (.int n),Fw] s₂:=F₂;obtain⟨X,I⟩:=qC (Qi:=dgN) (ρ₀:=dg0 ds n) F₂ Q0 V Qj SQ SX (λx pv hx hp=>by
  have:=TX x hx;simp only [FS,HU,or_false]at this;rcases this with rfl|rfl|rfl
  ·have e1:dgN.idxOf ("digits" :Gj)=0:=by decide
   have e2:dgO.idxOf ("digits" :Gj)=0:=by decide
   rw [e1]at hp;rw [e2];exact hp
  ·have e1:dgN.idxOf ("n" :Gj)=1:=by decide
   haveI e2:dgO.idxOf ("n" :Gj)=1:=by decide
   rw [e1]at hp;rw [e2];exact hp
  ·haveI e1:dgN.idxOf ("inner" :Gj)=6:=by decide
   rw [e1]at hp;cases hp)
 refine GT ?_;rw [Kc];refine WP.at (WP.then (Q₁:=λv s'=>Ext s₂ s'/\ ∃t,v= .int (hsum n ds) t) ?_ λv s₃ ⟨x,t,hv⟩=>FK ⟨F₂.x.trans x,t,hv⟩);have G:=F₂.good0;refine wpAny_IfExp ((S.t _ _ _ h1 _ _ _ _ s₂ (.list (ds.map .int)) (!(ds.map PV.int).isEmpty) G rfl (v6 (by rw [FD];exact Fy Pd (by decide)))).mono λb' s₃ ⟨e,x₃⟩=> ?_)
 subst e;cases ds with
 |nil=>exact((S.e _ _ _ h3) _ _ _ _ s₃ (.int 0) (G.ext x₃) rfl).mono λv s₄ ⟨x₄,r₄⟩=>⟨x₃.trans x₄,r₄⟩
 |cons d ds=>
  have X₃:=X.ext x₃;haveI V₃:=V.keep x₃.keep;obtain⟨ob,Rr,SV⟩:=X₃.fo;refine g9 F₂.e (by decide) V₃ Rr SV (S.l _ _ _ h2 _ _ _ _ s₃ [.int 0,.int ((d::ds).length:Nat)] (G.ext x₃) (by
   haveI:pbi .len [.list ((d::ds).map .int)]=Fv (.int ((d::ds).length:Nat)):=by rw [bv (by rw [FD];exact Fy Pd (by decide)),FD]
   show(do let v<-Fv (PV.int 0);let vs<-(do let v<-pbi .len [.list ((d::ds).map .int)];let vs<-Fv [];Fv (v::vs));Fv (v::vs))=_
   rw [this];rfl)) λus s₄ x₄ q₄=> ?_
  refine(vL (C:=C) (Vq _ _ _ _ _ _) I D.lim GO.sy W6 Qj Pg hB Pd hn Pj C.d _ s₄ 0 (d::ds).length (d::ds).length us (X₃.ext x₄) F₂.a (JT _) (HJ _) (FH _) Oj q₄).mono λv s₅ ⟨x₅,t,hv⟩=>⟨(x₃.trans x₄).trans x₅,t, ?_⟩;rw [hv];rw [cut,Ji,List.take_length]
end
noncomputable def digs (n:Nat):Nat->Nat->List Int
 |0,_=>[]
 |m+1,x=>((x % 2^n:Nat):Int)::digs n m (x/2^n)
variable {m:Nat}
theorem lj {x:Nat}:digs n (m+1) x=((x % 2^n:Nat):Int)::digs n m (x/2^n):=rfl
theorem cM (n:Nat): ∀m x,(digs n m x).length=m
 |0,_=>rfl
 |m+1,x=>by rw [lj,FY,cM n m]
theorem mf (n:Nat): ∀a b x,digs n (a+b) x=digs n a (x % 2^(n*a))++digs n b (x/2^(n*a))
 |0,b,x=>by rw [HJ,Nat.mul_zero,Nt,Nat.div_one];rfl
 |a+1,b,x=>by
  haveI e1:a+1+b=(a+b)+1:=by exact Gh _ _ _
  rw [e1,lj,lj,mf n a b,GV,IP,J4];haveI h1:x % (2^(n*a)*2^n) % 2^n=x % 2^n:=Nat.mod_mul_left_mod x _ _;haveI h2:x % (2^(n*a)*2^n)/2^n=x/2^n % 2^(n*a):=by rw [H9,Nat.mod_mul_right_div_self]
  haveI h3:x/2^n/2^(n*a)=x/(2^(n*a)*2^n):=by rw [Nu,H9]
  rw [h1,h2,h3]
theorem yq (n x:Nat) (h:x<2^n):digs n 1 x=[(x:Int)]:=by rw [lj,Nat.mod_eq_of_lt h];rfl
theorem nj (n:Nat): ∀m x,∀d∈digs n m x,FC d<=n/\0<=d
 |0,_,d,h=>by cases h
 |m+1,x,d,h=>by
  rcases FS.mp h with rfl|h
  ·exact⟨d9 _ _ (J6 _ (GM n)),by exact Gd _⟩
  ·exact nj n m _ d h
theorem nf (n:Nat): ∀m x,x<2^(n*m)->hsum n (digs n m x)=(x:Int)
 |0,x,h=>by simp at h;subst h;rfl
 |m+1,x,h=>by
  rw [lj,hsum,nf n m]
  ·have:=Nat.mod_add_div x (2^n)
   rw [show(2:Int)^n=((2^n:Nat):Int)by simp]
   rw [<-JJ,<-Hd,H9 (x/2^n),this]
  ·rw [IP,J4]at h
   exact Lu (by rw [H9];exact h)
theorem yI (x s:Nat):x&&&(x/2^s*2^s)=x/2^s*2^s:=by
 apply NP;intro i;rw [Nat.testBit_and,Nf];by_cases h:s<=i
 ·rw [Nat.testBit_div_two_pow]
  haveI:s+(i-s)=i:=by exact Gz h
  haveI h2:i-s+s=i:=by exact IC h
  simp [h,this,h2]
 ·simp [h]
theorem wS (x s:Nat):Mi (x:Int) ((x/2^s*2^s:Nat):Int)=((x % 2^s:Nat):Int):=by
 rw [PyProof.Rows.bitXor_and];haveI e:Mj (x:Int) ((x/2^s*2^s:Nat):Int)=((x/2^s*2^s:Nat):Int):=by rw [bitAnd_pp (by exact Gd _) (by exact Gd _),GC,GC,yI]
 rw [e];have:=Nat.mod_add_div x (2^s);rw [H9]at this;lia
noncomputable def put (xs:List Int) (L:Nat) (ys:List Int):List Int:=xs.take L++ys++xs.drop (L+ys.length)
variable {ys:List Int}
theorem zp {xs:List Int} (h:L+ys.length<=xs.length):(put xs L ys).length=xs.length:=by unfold put;rw [FP,FP,IW,Iu];exact Et h
theorem zn {xs zs:List Int} (h:L+ys.length<=xs.length):put (put xs L ys) (L+ys.length) zs=put xs L (ys++zs):=by
 have hl:(xs.take L++ys).length=L+ys.length:=by rw [FP,IW];exact Do (H4 (GW (HV (Kd _ _) _))) (Je (HV (FI (Ha (JE (GF h)))) _))
 unfold put;rw [J1 (by exact FI (Ha hl)),H1 (by exact FI hl),FP]
 haveI:((xs.take L++ys)++xs.drop (L+ys.length)).drop (L+ys.length+zs.length)=xs.drop (L+(ys.length+zs.length)):=by
  rw [M5,Ng (by exact Gi (FI hl)),Hb,Iy]
  congr 1
  exact Es hl
 rw [this,Gq (xs.take L)]
theorem zo {xs:List Int} {x:Int} (h:L<xs.length):put xs L [x]=xs.set L x:=by unfold put;rw [List.set_eq_take_append_cons_drop];simp [h]
structure jf (D:Gb) (s s':FL):Prop where
 keep: ∀b o,b≠D->vis s.heap b=Fv o->vis s'.heap b=Fv o
 size:s.heap.objs.size<=s'.heap.objs.size
 gens: ∀(i:Nat) (g:Kn),s.gens[i]? =Fv g->s'.gens[i]? =Fv g
 os:s'.os=s.os
theorem Ext.toB (x:Ext s s') (D:Gb):jf D s s':=⟨λb o _ e=>x.keep b o e,x.size,x.gens,x.os⟩
theorem jf.trans {D:Gb} {a b c:FL} (x:jf D a b) (y:jf D b c):jf D a c:=
 ⟨λd o h e=>y.keep d o h (x.keep d o h e),Fx x.size y.size,λi g e=>y.gens i g (x.gens i g e),y.os.trans x.os⟩
theorem jf.hk {D:Gb} {H:Ht} (x:jf D s s') (h:HK H s.heap) (hD:vis H D=Fw):HK H s'.heap:=
 λb o e=>x.keep b o (λq=>by rw [q,hD]at e;cases e) (h b o e)
theorem iO {D:Gb} (l:IsL h D vs): ∃o n,h.get? D=Fv o/\o.data= .seq vs.toArray n:=by obtain⟨o,e,_,n,d⟩:=l;exact⟨o,n,e,d⟩
section
variable {D:Gb}
theorem dx {D c:Gb} {v:Option FR} (l:IsL h D vs) (x:h.IsCell c v):c≠D:=by intro q;obtain⟨o,n,e,d⟩:=iO l;obtain⟨o',e',d'⟩:=x;rw [q,e]at e';cases e';rw [d]at d';cases d'
theorem gp.but (x:gp C Og Oi f fd me ρ₀ s) (l:IsL s.heap D vs) (hD:vis C.H D=Fw) (hn: ¬Oi D) (e:jf D s s'):gp C Og Oi f fd me ρ₀ s' where
 h:=e.hk x.h hD
 fo:=by obtain⟨o,h1,h2⟩:=x.fo;exact⟨o,(cx h2).keep (λo'=>e.keep f o' λq=>by obtain⟨o3,n,e3,d3⟩:=iO l;rw [<-q,h1]at e3;cases e3;rw [h2]at d3;cases d3) h1,h2⟩
 code:=by obtain⟨c,o,us,t,e1,g,n,d,r⟩:=x.code;refine⟨c,o,us,t,e1,dt (λo'=>e.keep c o' λq=> ?_) g d n,n,d,r⟩;obtain⟨o3,n3,e3,d3⟩:=iO l;rw [<-q,g]at e3;cases e3;rw [d]at d3;cases d3
 free:=λy hy=>by obtain⟨c,v,h1,h2⟩:=x.free y hy;exact⟨c,v,h1,aN h2 λo=>e.keep c o (dx l h2)⟩
 self:=by obtain⟨c,h1,h2⟩:=x.self;exact⟨c,h1,aN h2 λo=>e.keep c o (dx l h2)⟩
 vals:=λy pv hy hp=>by obtain⟨c,v,h1,h2,h3⟩:=x.vals y pv hy hp;exact⟨c,v,h1,aN h2 λo=>e.keep c o (dx l h2),h3.mono (λ_ h _=>h) λb hb o=>e.keep b o λq=>hn (q▸hb)⟩
 fr:=x.fr.keep e.size
theorem yc (sy:Sys C.H) (G:dj C Og A Oh ns ρ ok s) (hR: ¬bD Oh D) (hD:vis C.H D=Fw) (hn: ¬ok D) (e:jf D s s'):dj C Og A Oh ns ρ ok s' where
 a:=G.a
 e:=G.e
 h:=e.hk G.h hD
 r:=G.r.at (λb hb o=>e.keep b o λq=>hR (q▸hb)) (λb hb o=>e.keep b o λq=>hn (q▸hb)) λ_ _ h _=>h
 o:=G.o.keep e.size
 m:=sy.keep (e.hk G.h hD)
 l:=G.l
 v:=λb hb=>by obtain⟨o,h⟩:=G.v b hb;exact⟨o,e.keep b o (λq=>hR (q▸hb)) h⟩
end
noncomputable def i2N:List Gj:=["n","x","L","R","mid","shift","upper","lower"]
noncomputable def i2T:PE:= .cmp .Eq (.bin .Add (.var 2) (.cI 1)) (.var 3)
noncomputable def De:PS:= .set 4 0 (.bin .RShift (.bin .Add (.var 2) (.var 3)) (.cI 1))
noncomputable def Dd:PS:= .set 5 0 (.bin .Mult (.bin .Sub (.var 4) (.var 2)) (.var 0))
noncomputable def Dc:PS:= .set 6 0 (.bin .RShift (.var 1) (.var 5))
noncomputable def Db:PS:= .set 7 0 (.bin .BitXor (.var 1) (.bin .LShift (.var 6) (.var 5)))
inductive lr (ns:ay):List Hs->Prop
 |mk (st2 st3 st4 V2:Hs) (t eL ex e1 e2 e3 e4 e5 e6:Expr) (q1 q2 q3 q4 q5 p1 p2 p3 p4 p5 p6:HW)
  (ht:sT g0 i2N 20 ns t=Fv i2T) (h2:sS g0 i2N h0 ns 20 st2=De) (h3:sS g0 i2N h0 ns 20 st3=Dd) (h4:sS g0 i2N h0 ns 20 st4=Dc) (h5:sS g0 i2N h0 ns 20 V2=Db)
  (hL:sE g0 i2N 20 ns eL=Fv (.var 2)) (hx:sE g0 i2N 20 ns ex=Fv (.var 1)) (hc:fS ex=Fz)
  (a1:sL g0 i2N 20 ns [e1,e2,e3]=Fv [.var 7,.var 2,.var 4]) (a2:sL g0 i2N 20 ns [e4,e5,e6]=Fv [.var 6,.var 4,.var 3]):
  lr ns [.If t [.Assign [.Subscript (.Name "a_digits" q1) eL q2] ex q3,.Return Fw q4] [] q5,st2,st3,st4,V2,.Expr (.Call (.Name "inner" p1) [e1,e2,e3] [] p2) p3,.Expr (.Call (.Name "inner" p4) [e4,e5,e6] [] p5) p6]
noncomputable def i20 (n:Nat):Ρ:=[Fv (.int n),Fw,Fw,Fw,Fw,Fw,Fw,Fw]
noncomputable def i2R (n x L R:Nat) (a b c d:Option PV):Ρ:=[Fv (.int n),Fv (.int x),Fv (.int L),Fv (.int R),a,b,c,d]
def fF (xs:List Int) (vs:List FR):Prop:=vs.length=xs.length/\ ∀(i:Nat) x,xs[i]? =Fv x-> ∃t,vs[i]? =Fv (.int x t)
set_option tactic.hygienic true in
theorem fF.set {xs:List Int} (h:fF xs vs) (i:Nat) (x:Int) (t:MR):fF (xs.set i x) (vs.set i (.int x t)):=by
 refine⟨by rw [J9,J9];exact h.1,λj y hy=> ?_⟩
 rw [List.getElem?_set]at hy ⊢
 by_cases hij:i=j
 ·subst hij
  rw [if_pos rfl]at hy ⊢
  split at hy
  ·rename_i hl
   cases hy;exact⟨t,by rw [if_pos (by rw [h.1];exact hl)]⟩
  ·cases hy
 ·rw [if_neg hij]at hy ⊢
  exact h.2 j y hy
theorem fF.repL {xs:List Int} (x:fF xs vs):av prog w ok h (xs.map .int) vs:=by
 refine kt (by rw [FD];exact x.1.symm) λi y v hy hv=> ?_
 rw [Gp]at hy;obtain⟨z,hz,rfl⟩:=Gk.mp hy;obtain⟨t,ht⟩:=x.2 i z hz;rw [hv]at ht;exact⟨t,FG ht⟩
theorem v4 {xs:List Int} (q:av prog w ok h (xs.map .int) vs):fF xs vs:=by
 refine⟨by rw [q.length,FD],λi x hx=> ?_⟩
 obtain⟨v,hv,r⟩:=q.get (i:=i) (x:= .int x) (by rw [Gp,hx];rfl)
 obtain⟨t,rfl⟩:=r;exact⟨t,hv⟩
theorem DU {x:Nat}:ak Γ0 De (i2R n x L R Fw Fw Fw Fw) []=Fv (.next (i2R n x L R (Fv (.int ((L+R)/2:Nat))) Fw Fw Fw) []):=aj (congrArg (λi=>Fv (PV.int i)) (AV (L+R)))
theorem DT {x p:Nat} (hn:n<2^62):ak Γ0 Dd (i2R n x L R (Fv (.int (L+p:Nat))) Fw Fw Fw) []=Fv (.next (i2R n x L R (Fv (.int (L+p:Nat))) (Fv (.int (n*p:Nat))) Fw Fw) []):=aj (n0 hn)
theorem AU (x s:Nat):Int.fdiv (x:Int) (2^(s:Int).toNat)=((x/2^s:Nat):Int):=by
 rw [GC,Hi _ (by exact I3 (Int.pow_pos (by decide)))]
 simp
theorem DS {x M S:Nat}:ak Γ0 Dc (i2R n x L R (Fv (.int M)) (Fv (.int S)) Fw Fw) []=Fv (.next (i2R n x L R (Fv (.int M)) (Fv (.int S)) (Fv (.int (x/2^S:Nat))) Fw) []):=by exact aj ((if_pos (e:=Fw) (Gd S)).trans (congrArg (λi=>Fv (PV.int i)) (AU x S)))
theorem DR {x M S:Nat} (hx:x<2^B) (hb:B+S<=2^27):ak Γ0 Db (i2R n x L R (Fv (.int M)) (Fv (.int S)) (Fv (.int (x/2^S:Nat))) Fw) []=Fv (.next (i2R n x L R (Fv (.int M)) (Fv (.int S)) (Fv (.int (x/2^S:Nat))) (Fv (.int (x % 2^S:Nat)))) []):=by refine aj (v:= .int (x % 2^S:Nat)) ?_;show((aS (0<=(S:Int)/\(FC ((x/2^S:Nat):Int):Int)+(S:Int)<=2^27) (((x/2^S:Nat):Int)*2^(S:Int).toNat)).bind λb=>Fv (PV.bool FE)|>.bind λ_=>dN .BitXor (.int x) b)=_;haveI h1:FC ((x/2^S:Nat):Int)<=B:=d9 _ _ (FF (Nat.div_le_self _ _) hx);rw [aS,if_pos ⟨Gd S,D6 (Fx (HV h1 S) hb)⟩,GC];show Fv (PV.int (Mi (x:Int) (((x/2^S:Nat):Int)*2^S)))=_;rw [show((x/2^S:Nat):Int)*2^S=((x/2^S*2^S:Nat):Int)by simp,wS]
section
theorem ni {Q:FL->Prop} (hk:Oh.scope.kind= .function) (hc:fS e=Fz) (h:WP (FN C.prog C.w) A (Hz e Oh) (λv s'=>v= .none/\Q s') s):
  WP (FN C.prog C.w) A (K8 (.Expr e pos) Oh) (λfl s'=>fl= .next/\Q s') s:=by
 haveI hi:Jb Oh=Fz:=by unfold Jb;rw [hk];rfl
 rw [exec_Expr Oh e pos hi (aW hc)];refine WP.at (WP.then h λv s' ⟨hv,hq⟩=> ?_);subst hv;rw [dropValue_plain (λa q=>by cases q)]
 exact FK ⟨rfl,hq⟩
end
section
variable {D:Gb} {body:List Hs}
theorem vG (D0:gB fd body ["x","L","R"] i2N) (I:yQ fd) (lim:C.H.NoLimit) (sy:Sys C.H) (F:lr fd.scope.names body) (Qj:fd.scope.names.lookup ("inner" :Gj)=Fv .free) (Vo:fd.scope.names.lookup ("a_digits" :Gj)=Fv .free)
  (Pg: ∀x,fd.scope.names.lookup x=Fv .local->x∈(["x","L","R","mid","shift","upper","lower"]:List Gj)) {len:Nat} (Vv:vis C.H D=Fw) (hDo: ¬Oi D) (Oj:len<2^60) (hn:n<2^62) (Pj:n*len+n*len<=2^27):
  ∀k A s L w R (x:Nat) us vs xs,gp C i2N Oi f fd "inner" (i20 n) s->(∃c,fd.closure.lookup ("a_digits" :Gj)=Fv c/\s.heap.IsCell c (Fv (.ref D)))->AOk k A->0<w->L+w=R->R<=xs.length->xs.length<=len->2*w<=2^k->x<2^(n*w)->
   IsL s.heap D vs->fF xs vs->av C.prog C.w Oi s.heap [.int (x:Nat),.int (L:Nat),.int (R:Nat)] us->
   WP (FN C.prog C.w) A (Jj (.ref f) us) (λv s'=>v= .none/\jf D s s'/\ ∃OU,IsL s'.heap D OU/\fF (put xs L (digs n w x)) OU) s:=by
 have Rs: ∀y,fd.scope.names.lookup y=Fv .local->(i20 n).get (i2N.idxOf y)=Fw:=λy hy=>
  (Gg.mpr ⟨rfl,Gg.mpr ⟨rfl,Gg.mpr ⟨rfl,Gg.mpr ⟨rfl,Gg.mpr ⟨rfl,kL rfl rfl⟩⟩⟩⟩⟩: ∀i∈[1,2,3,4,5,6,7],(i20 n).get i=Fw) _
   ((by decide: ∀x∈(["x","L","R","mid","shift","upper","lower"]:List Gj),i2N.idxOf x∈[1,2,3,4,5,6,7]) y (Pg y hy))
 have VO:(["x","L","R"]:List Gj).map i2N.idxOf=[1,2,3]:=by decide
 obtain⟨st2,st3,st4,V2,t,eL,ex,e1,e2,e3,e4,e5,e6,q1,q2,q3,q4,q5,p1,p2,p3,p4,p5,p6,ht,g2,g3,g4,g5,hL,hX,hc,a1,a2⟩:=F;intro k;induction k with
 |zero=>exact λA s L w R x us vs xs _ _ _ h1 _ _ _ h3 _ _ _ _=>absurd (Fx (GS 2 h1) h3) (by decide)
 |succ k ih=>
  intro A s L w R x us vs xs X ⟨c,Vs,Pa⟩ hA h1 hR h2 hl h3 hx l iv q;subst hR;have hρ:a_ (i20 n) ((["x","L","R"]:List Gj).map i2N.idxOf) [.int (x:Nat),.int (L:Nat),.int (L+w:Nat)]=Fv (i2R n x L (L+w) Fw Fw Fw Fw):=by rw [VO];rfl
  refine mi (C:=C.mute k) D0 I hA lim sy (X.depth k) Qj hρ (FH 8) q Rs λs₁ F₁ V₁=>WP.gen λK hK=> ?_;have GO:=AP (C:=C) sy k;have S:=cK (Og:=i2N) GO 20;have SS:=(db (Og:=i2N) GO h0 fd.scope.names 20).1
  --the test
  refine GT ?_;show WP _ _ (do
   HM q5
   if<-isTrue t _ (Hz t _)then Iv _ _ else Iv [] _) _ s₁
  refine WP.at (WP.then (F₁.goodT (S.t _ _ _ ht) (congrArg Fv Bd)) λb s₂ ⟨hb,xt₂⟩=> ?_);subst hb;have F₂:=F₁.ext xt₂;by_cases hone:w=1
  ·rw [decide_eq_true hone,if_pos rfl]
   subst hone;refine GT ?_;rw [exec_Assign_Subscript _ _ _ _ _ (aW hc)];refine WP.at (WP.then ((S.e _ _ _ hX) _ _ _ _ s₂ (.int x) F₂.good0 rfl) λv s₃ ⟨RG,t3,hv⟩=> ?_);subst hv;rw [assign_Subscript];have V:aV s₃.heap (IA fd s.heap.objs.size f) "a_digits" (.ref D):= .cel c (.inr Vo) Vs (aN (aN Pa λo=>F₂.x.keep _ o) λo=>RG.keep _ o);refine WP.bind (WP.bind (WP.hold (im (C:=C.mute k) F₁.e (by decide) V ?_)))
   refine WP.then (WP.hold ((S.e _ _ _ hL) _ _ _ _ s₃ (.int L) (F₂.good0.ext RG) rfl)) λiv' s₄ ⟨Ur,t4,hv4⟩=>WP.at ?_;subst hv4;have x14:=(F₂.x.trans RG).trans Ur;have l₄:IsL s₄.heap D vs:=l.mono λo e=>x14.keep _ _ e;refine WP.bind (WP.hold (wpAny_setItem_list l₄ (Gd L) (D4 (HL (Fy h2 hl) (HL Oj (by decide)))).2 (It.mpr (iv.1▸h2:L<vs.length)) λh' l' Ph=> ?_))
   refine WP.rel (FK ?_);refine GT ?_;rw [exec_Return_none];refine WP.at (FK (hK _ _ ⟨rfl,(x14.toB D).trans ⟨λb o hb e=>az Ph (nb l₄) hb e,FI Ph.1.symm,λ_ _ e=>e,rfl⟩,vs.set L (.int x t3), ?_, ?_⟩))
   ·obtain⟨o,e,c',m,d⟩:=l'
    exact⟨o,e,c',m,d.trans (congrArg (λd=>Data.seq d m) (List.setIfInBounds_toArray ..))⟩
   ·rw [yq n x (NN n▸hx),zo h2]
    exact iv.set L x t3
  ·rw [decide_eq_false hone]
   refine FK ?_;obtain⟨p,q',rfl,hp,hq,eM,k1,k2⟩:=n5 (L:=L) h1 hone h3;have VZ:L+p<=xs.length:=Fx (G_ (FZ p q') L) h2;have hbb:n*(p+q')+n*p<=2^27:=Fx (FM (GS n (Fx (Fx (H5 _ L) h2) hl)) (GS n (Fx (Fx (H5 _ L) VZ) hl))) Pj;refine fV (SS st2) F₂ (g2.symm▸eM▸DU) λok3 s₃ F₃=>fV (SS st3) F₃ (g3.symm▸DT hn) λTm s₄ F₄=>fV (SS st4) F₄ (g4.symm▸DS) λok5 s₅ F₅=>fV (SS V2) F₅ (g5.symm▸DR hx hbb) λVH s₆ F₆=> ?_;have X₆:=X.ext F₆.x;have QQ:=aN Pa λo=>F₆.x.keep _ o;have l₆:IsL s₆.heap D vs:=l.mono λo e=>F₆.x.keep _ _ e;have go: ∀{es:List Expr} {pp pq pr:HW} {s₆:FL} {y L' w' R':Nat} {U_:List Int} {OU:List FR},ci (C.mute k) (A.deeper (IA fd s.heap.objs.size f)) (IA fd s.heap.objs.size f) VH es [.int (y:Nat),.int (L':Nat),.int (R':Nat)] s₆->
     gp C i2N Oi f fd "inner" (i20 n) s₆->s₆.heap.IsCell c (Fv (.ref D))->IsL s₆.heap D OU->fF U_ OU->0<w'->L'+w'=R'->R'<=U_.length->U_.length<=len->2*w'<=2^k->y<2^(n*w')->
     WP (FN C.prog C.w) (A.deeper (IA fd s.heap.objs.size f)) (K8 (.Expr (.Call (.Name "inner" pp) es [] pq) pr) (IA fd s.heap.objs.size f))
      (λfl s'=>fl= .next/\jf D s₆ s'/\ ∃Se,IsL s'.heap D Se/\fF (put U_ L' (digs n w' y)) Se) s₆:=λea X₆ cel l₆ iv hw hR TN hl h2 hy=>by
    obtain⟨cm,m1,m2⟩:=X₆.self;obtain⟨ob,Rr,SV⟩:=X₆.fo;exact ni (C:=C.mute k) F₁.e.kind rfl (g9 (C:=C.mute k) F₁.e (by decide) (.cel cm (.inr Qj) m1 m2) Rr SV ea λPe s₇ QV q₇=>
     (ih _ s₇ _ _ _ _ Pe _ _ (X₆.ext QV) ⟨c,Vs,aN cel λo=>QV.keep _ o⟩ F₁.a hw hR TN hl h2 hy (l₆.mono λo e=>QV.keep _ _ e) iv (q₇.mono (λb hb _=>F₆.sub b hb) λ_ _ _ e=>e)).mono λv s₈ ⟨h1,h2,h3⟩=>⟨h1,(QV.toB D).trans h2,h3⟩)
   have hR6: ¬bD (IA fd s.heap.objs.size f) D:=by
    intro h;rcases h with h|⟨y,hy,h⟩
    ·obtain⟨o,m,e,_⟩:=iO l
     exact GK (Hv e) h
    ·have hyf:fd.scope.names.lookup y=Fv .free:=by
      have Rh:bu (fd.scope.names.lookup y)=FE:=hy;cases Ps:fd.scope.names.lookup y with
      |none=>rw [Ps]at Rh;cases Rh
      |some kk=>
       rw [Ps]at Rh;cases kk<;>first|rfl|(exact absurd Rh (by decide))|(exact absurd rfl (D0.cell _ (mem_of_lookup Ps)))
     obtain⟨c',v',Wn,h2'⟩:=X₆.free y hyf;exact dx l₆ h2' (FG (Wn.symm.trans h))
   refine GT ((go (S.l _ _ _ a1 _ _ _ VH s₆ _ F₆.good0 rfl) X₆ QQ l₆ iv hp rfl VZ hl k1 (J6 _ (GM _))).mono λfl s₇ hP=> ?_);obtain⟨rfl,B₇,vs₇,l₇,Uv⟩:=hP;have Vd:L+(digs n p (x % 2^(n*p))).length<=xs.length:=(cM n p _).symm▸VZ;have PU:=zp Vd;refine GT ((go (S.l _ _ _ a2 _ _ _ VH s₇ _ (yc (C:=C.mute k) sy F₆.good0 hR6 Vv (λh=>hDo (F₆.sub _ h)) B₇) rfl) (X₆.but l₆ Vv hDo B₇) (aN QQ λo=>B₇.keep c o (dx l₆ QQ)) l₇ Uv hq (GN L p q')
    (PU.symm▸h2) (PU.symm▸hl) k2 (Lu (by rw [<-J4,<-Nat.mul_add];exact hx))).mono λfl s₈ hP=> ?_)
   obtain⟨rfl,B₈,Us,l₈,Uu⟩:=hP;refine FK (hK _ _ ⟨rfl,(F₆.x.toB D).trans (B₇.trans B₈),Us,l₈, ?_⟩);have e1:=zn (zs:=digs n q' (x/2^(n*p))) Vd;rw [cM,<-mf]at e1;exact e1▸Uu
end
noncomputable def i2O:List Gj:=["a","n","a_digits","inner"]
inductive tU (gl:Gj->Option aX) (ns:ay):Kg->List Hs->KY->HW->List Hs->Prop
 |mk (Ow:Kg) (OT:List Hs) (Q3:KY) (Q8:HW) (e0 eK t e1 e2 e3:Expr) (p0 lp bp ap p1 p2 p3 p4 r1 r2:HW)
  (h0:sL gl i2O 20 ns [e0]=Fv [.cI 0]) (hK:sE gl i2O 20 ns eK=Fv (.bin .FloorDiv (.bin .Sub (.bin .Add (.meth .bitlen (.var 0) []) (.var 1)) (.cI 1)) (.var 1)))
  (ht:sT gl i2O 20 ns t=Fv (.var 0)) (ha:sL gl i2O 20 ns [e1,e2,e3]=Fv [.var 0,.cI 0,.bi .len [.var 2]]):
  tU gl ns Ow OT Q3 Q8 [.Assign [.Name "a_digits" p0] (.BinOp (.List [e0] lp) .Mult eK bp) ap,.FunctionDef "inner" Ow OT [] Fw [] Q3 Fw "inner" Q8,
   .If t [.Expr (.Call (.Name "inner" p1) [e1,e2,e3] [] p2) p3] [] p4,.Return (Fv (.Name "a_digits" r1)) r2]
theorem gp.shrink (x:gp C Og Oi f fd me ρ₀ s) (fr:ce ok s.heap) (h: ∀i pv,ρ₀.get i=Fv pv-> ∃z,pv= .int z):gp C Og ok f fd me ρ₀ s:=
 ⟨x.h,x.fo,x.code,x.free,x.self,λy pv hy hp=>by obtain⟨c,v,h1,h2,h3⟩:=x.vals y pv hy hp;exact by obtain⟨z,hz⟩:=h _ _ hp;exact⟨c,v,h1,h2,by subst hz;exact h3⟩,fr⟩
theorem v5 {a b c:Int} {us:List FR} (q:av prog w ok h [.int a,.int b,.int c] us):av prog w ok' h' [.int a,.int b,.int c] us:=q
noncomputable def kOf (a n:Nat):Nat:=(FC (a:Int)+n-1)/n
theorem rP (hn:0<n):a<2^(n*kOf a n):=by
 haveI h1:a<2^FC (a:Int):=by have:=(HD (x:=(a:Int))).mp (FH _);simpa using this
 refine Fy h1 (HH (by decide) ?_)
 unfold kOf;haveI h2:=JF (FC (a:Int)+n-1) n;haveI h3:=J6 (FC (a:Int)+n-1) hn;exact Fq hn h2 h3
theorem pX: ∀K:Nat,bl [PV.int 0] K=(Gc K (0:Int)).map PV.int
 |0=>rfl
 |K+1=>by rw [mE,pX K];rfl
section
theorem FSt.fill (F:FSt C Og A Oh ns s₀ Oi W ok om ρ s) (hm:x∈Og) (V:aV s.heap Oh x v) (r:Rep C.prog C.w ok s.heap pv v) (ho:Og.idxOf x∉om.map (·.1)):FSt C Og A Oh ns s₀ Oi W ok om (ρ.set (Og.idxOf x) (Fv pv)) s:=
 {F with
  r:=(F.r.set hm V (λ_ _ _ V=>V) (λ_ _ _ e=>e) r).less λi v hv=>by
   obtain⟨h1,h2⟩:=cw hv;by_cases e:i=Og.idxOf x
   ·subst e
    have h3:=h2;unfold Ρ.get at h3 ⊢
    rw [IX]at h3 ⊢
    haveI Oj:(aB ρ (om.map (·.1))).length=ρ.length:=eI
    cases h4:ρ[Og.idxOf x]? with
    |none=>rw [h4]at h3;cases h3
    |some q=>
     rw [h4]at h3;haveI OH:Og.idxOf x<ρ.length:=by
      rcases J7 (Og.idxOf x) ρ.length with g|g
      ·exact g
      ·rw [Jd g]at h4;cases h4
     rw [Ge (by rw [Oj];exact OH)]
     exact h3
   ·rw [aF e]at h2 ⊢
    rw [bQ h1];exact h2
  l:=by rw [J9];exact F.l
  ow:=λp hp=>by
   obtain⟨y,QE,h1,h2,h3,h4⟩:=F.ow p hp;refine⟨y,QE,h1,h2, ?_,h4⟩;haveI P4:p.1≠Og.idxOf x:=λq=>ho (by rw [<-q];exact Gs (f:=(·.1)) hp)
   rw [aF P4];exact h3}
end
section
variable {body:List Hs}
theorem ER (Tt:0<n) (hn:n<2^30):pev Γ (.bin .FloorDiv (.bin .Sub (.bin .Add (.meth .bitlen (.var 0) []) (.var 1)) (.cI 1)) (.var 1)) [Fv (.int a),Fv (.int n),Fw,Fw]=Fv (.int (kOf a n:Nat)):=by
 show aS ((n:Int)≠0/\HN (((FC (a:Int):Nat):Int)+(n:Int)-1) (n:Int)=Fz) ((((FC (a:Int):Nat):Int)+(n:Int)-1).fdiv (n:Int))=_;unfold aS;rw [if_pos ⟨by lia,PyProof.noPylong_small (by simpa using hn)⟩]
 rw [show((FC (a:Int):Nat):Int)+(n:Int)-1=((FC (a:Int)+n-1:Nat):Int)from aCs Tt,Hi _ (by exact Gd _),<-Int.natCast_ediv]
 rfl
theorem y8 (GO:an C Γ) (D:bX C f o fd body ["a","n"] i2O) (F:tU C.gl fd.scope.names Ow OT Q3 Q8 body)
  (SW:Ow.defaults=[]) (Rt:Ow.kw_defaults=[]) (ha: ∀Oh,annTrees Ow Fw Oh=[])
  (Q0:gy fd.scope.names Q3=FE) (Qj:Q3.names.lookup ("inner" :Gj)=Fv .free) (Vo:Q3.names.lookup ("a_digits" :Gj)=Fv .free) (TX: ∀x,Q3.names.lookup x=Fv .free->x∈(["a_digits","n","inner"]:List Gj))
  (Q6:fd.scope.names.lookup ("inner" :Gj)=Fv .cell) (Wf:fd.scope.names.lookup ("a_digits" :Gj)=Fv .cell)
  (hX: ∀L,iR C (Iw fd L f) Q8 (Lr (Iw fd L f) "inner" "inner"))
  (Vq: ∀OS Oz pm Pv c' qual,gB (kK "inner" qual Ow OT Q3 OS Oz pm Pv c') OT ["x","L","R"] i2N)
  (W6:lr Q3.names OT) (Pg: ∀x,Q3.names.lookup x=Fv .local->x∈(["x","L","R","mid","shift","upper","lower"]:List Gj))
 (Tt:0<n) (hn:n<2^30) (Oj:2*kOf a n<=2^C.d) (Pd:kOf a n<=1000000) (Pj:n*kOf a n+n*kOf a n<=2^27):
  ah C.prog C.w C.H (C.d+1) f [.int a,.int n] (.list ((digs n (kOf a n) a).map .int)):=by
 intro A s ok vs hA hH ho Qc q;haveI hρ:a_ (Gc i2O.length Fw) ((["a","n"]:List Gj).map i2O.idxOf) [.int a,.int n]=Fv [Fv (.int a),Fv (.int n),Fw,Fw]:=by
  haveI:(["a","n"]:List Gj).map i2O.idxOf=[0,1]:=by decide
  rw [this];rfl
 refine jH D GO.sy hρ hA hH ho q λs₁ F₁=>WP.gen λZ hZ=> ?_;obtain⟨e0,eK,t,e1,e2,e3,p0,lp,bp,ap,p1,p2,p3,p4,r1,r2,h0,hK,ht,OC⟩:=F;have S:=cK (Og:=i2O) GO 20;haveI hi3:i2O.idxOf ("inner" :Gj)=3:=by decide
 haveI TU:i2O.idxOf ("a_digits" :Gj)=2:=by decide
 generalize hKd:kOf a n=K at*
 --a_digits=[0]*k
 refine GT ?_;show WP _ _ (do
  HM ap
  if<-JM [.Name "a_digits" p0] (.BinOp (.List [e0] lp) .Mult eK bp) ap.line _ then do
   JZ (.BinOp (.List [e0] lp) .Mult eK bp) _ λv=>MQ v ((HQ [.Name "a_digits" p0] _).map (·.2))
   pure .next
  else do
   let v<-Hz (.BinOp (.List [e0] lp) .Mult eK bp) _
   Kz _ v (<-Ih [.Name "a_digits" p0] (.BinOp (.List [e0] lp) .Mult eK bp) _) ((HQ [.Name "a_digits" p0] _).map (·.2))) _ s₁
 refine WP.at ?_;refine FJ (Hx (a:=Fz) (mr.trans (aW rfl)) ?_);simp only [Gy,if_false];refine WP.then (Q₁:=λv s'=>Ext s₁ s'/\ ∃D vs,v= .ref D/\s₁.heap.objs.size<=D/\D<s'.heap.objs.size/\IsL s'.heap D vs/\fF (Gc K 0) vs) ?_ λv s₂ ⟨x₂,D',vs0,hv,hD1,hD2,l₂,iv₂⟩=> ?_
 ·refine wpAny_BinOp ((kG (S.l _ _ _ h0 _ _ _ _ s₁ [.int 0] F₁.good0 rfl) (by decide) F₁.sys).mono λv s₂ ⟨x₂,a0,vs0,hv,ha0,l0,q0,hs0⟩=> ?_)
  subst hv;refine((S.e _ _ _ hK) _ _ _ _ s₂ (.int (K:Nat)) (F₁.ext x₂).good0 (by have h:=ER (Γ:=Γ) (a:=a) Tt hn;rw [hKd]at h;exact h)).mono λv s₃ ⟨x₃,t3,hv3⟩=> ?_
  subst hv3;haveI l3:IsL s₃.heap a0 vs0:=IsL.mono l0.isList λo e=>x₃.keep _ _ e;refine qq l3 (by exact Gd _) (by rw [q0.length];decide) (by lia) ?_
  haveI SY:s₁.heap.objs.size<=s₃.heap.objs.size:=Fx x₂.size x₃.size;refine⟨(x₂.trans x₃).trans (Ext.pushed _ _ _),_,bl vs0 ((K:Nat):Int).toNat,rfl,SY,oD _ _,⟨_,Gt _ rfl,rfl,_,rfl⟩, ?_⟩;have:=q0.rep K;rw [pX]at this;rw [GC];exact v4 this
 subst hv;rw [cj];refine FJ (FK ?_);show WP _ _ (Iq (.Name "a_digits" p0) _ (.ref D')>>=λ_=>(pure Flow.next:IH K4)) _ s₂
 haveI htg:b8 fd.scope.names "a_digits" =FE:=by simp [b8,Wf];decide
 haveI F₂:=F₁.ext x₂;have QK:vis s.heap D'=Fw:=bH (Fx F₁.x.size hD1);have RO:(D'==Hf)=Fz:=(GO.sy.keep hH).ne QK;have V6:=F₁.free D' hD1;refine WP.then (wpAny_assign_Name (F₂.bindAny htg (by decide) (by simp))) λ_ s₃ ⟨F₃,T₃,VA,_,kp₃,sz₃⟩=>FK ?_
 haveI Te:ok D':=V6.1;have l₃:IsL s₃.heap D' vs0:=l₂.mono λo e=>T₃.keep _ o (.inl V6) e;have F₃:=F₃.fill (by decide) VA (pv:= .list ((Gc K 0).map .int)) ⟨D',vs0,rfl,V6,RO,l₃,iv₂.repL⟩ (by simp)
 have F₃:FSt C i2O _ _ _ s ok _ _ [] [Fv (.int a),Fv (.int n),Fv (.list ((Gc K 0).map .int)),Fw] s₃:=F₃
 --def inner
 refine GT ((qA (hX _) F₃ (by simp [b8,Q6];decide) (by decide) (by simp) SW Rt (ha _) (j9 F₃.e Q0) (uo F₃.e Q0 Qj)).mono λfl s₄ hP=> ?_)
 obtain⟨rfl,f',c',Pv,Oz,pm,F₄,T₄,V₄,UV,SQ,SX,kp₄⟩:=hP;rw [hi3]at F₄;have F₄:FSt C i2O _ _ _ s ok _ _ [] [Fv (.int a),Fv (.int n),Fv (.list ((Gc K 0).map .int)),Fw] s₄:=F₄;haveI UW:=UV _ _ (by decide) VA
 haveI hsz4:s₃.heap.objs.size<=s₄.heap.objs.size∨True:= .inr trivial;have l₄:IsL s₄.heap D' vs0:=l₃.mono λo e=>T₄.keep _ o (.inl V6) e;haveI W_:D'<s₄.heap.objs.size:=by obtain⟨o,m,e,_⟩:=iO l₄;exact Hv e
 obtain⟨X,I⟩:=qC (Qi:=i2N) (ρ₀:=i20 n) F₄ Q0 V₄ Qj SQ SX (λx pv hx hp=>by
  have:=TX x hx;simp only [FS,HU,or_false]at this;rcases this with rfl|rfl|rfl
  ·have e1:i2N.idxOf ("a_digits" :Gj)=8:=by decide
   rw [e1]at hp;cases hp
  ·have e1:i2N.idxOf ("n" :Gj)=0:=by decide
   haveI e2:i2O.idxOf ("n" :Gj)=1:=by decide
   rw [e1]at hp;rw [e2];exact hp
  ·haveI e1:i2N.idxOf ("inner" :Gj)=8:=by decide
   rw [e1]at hp;cases hp)
 haveI frI: ∀s':FL,s₄.heap.objs.size<=s'.heap.objs.size->ce (λb=>ok b/\b≠D') s'.heap:=λs' h b hb=>⟨F₄.sub b (F₄.free b (Fx h hb)),λq=>FV _ (Fy W_ (Fx h (q▸hb)))⟩;haveI UG: ∀i pv,(i20 n).get i=Fv pv-> ∃z,pv= .int z:=λi pv h=>by
  match i,h with
  |0,h=>cases h;exact⟨_,rfl⟩
  |1,h|2,h|3,h|4,h|5,h|6,h|7,h=>cases h
  |i+8,h=>cases h
 obtain⟨cA,Ul,T8⟩:=lx F₄.e Wf UW;haveI Vv:vis C.H D'=Fw:=hH.none QK
 --the end:return a_digits
 have fin: ∀(s₅:FL) U',jf D' s₄ s₅->IsL s₅.heap D' U'->fF (digs n K a) U'->WP (FN C.prog C.w) (A.deeper (Iw fd s.heap.objs.size f)) (Iv [.Return (Fv (.Name "a_digits" r1)) r2] (Iw fd s.heap.objs.size f)) Z s₅:=λs₅ U' B l5 iv5=>by
  refine GT ?_;rw [Kc];refine WP.at (WP.bind (im (C:=C) F₄.e (by decide) (.cel cA (.inl (F₄.e.own _ Wf)) Ul (aN T8 λo=>B.keep cA o (dx l₄ T8))) (FK ?_)))
  refine hZ _ _ ⟨⟨λb o e=>B.keep b o (λq=> ?_) (F₄.x.keep b o e),Fx F₄.x.size B.size,λi g e=>B.gens i g (F₄.x.gens i g e),B.os.trans F₄.x.os⟩,D',U',rfl,Te,RO,l5,iv5.repL⟩;rw [q,QK]at e;cases e
 refine GT ?_;show WP _ _ (do
  HM p4
  if<-isTrue t _ (Hz t _)then Iv _ _ else Iv [] _) _ s₄
 haveI hT:bt Γ (.var 0) [Fv (.int a),Fv (.int n),Fv (.list ((Gc K 0).map .int)),Fw]=Fv ((a:Int) !=0):=rfl;refine WP.at (WP.then (F₄.goodT (S.t _ _ _ ht) hT) λb s₅ ⟨hb,x₅⟩=> ?_);subst hb;by_cases h0a:a=0
 ·subst h0a
  haveI Wl:K=0:=by rw [<-hKd];unfold kOf;haveI:FC ((0:Nat):Int)=0:=rfl;rw [this];exact Nat.div_eq_of_lt (by exact IL (NF Tt) (Lv (by decide) _))
  subst Wl;refine FK ?_;exact fin s₅ vs0 (x₅.toB D') (l₄.mono λo e=>x₅.keep _ _ e) iv₂
 ·haveI P4:((a:Int) !=0)=FE:=by rw [bne_iff_ne];lia
  rw [P4,if_pos rfl];have F₅:=F₄.ext x₅;have X₅:=(X.ext x₅);obtain⟨ob,Rr,SV⟩:=X₅.fo;have Qr:(Gc K (0:Int)).length=K:=Jc;haveI UQ:0<K:=by
   rcases Nat.eq_zero_or_pos K with h|h
   ·have:=rP (a:=a) Tt
    rw [hKd,h]at this;simp at this;exact Fy (Fy (Ob h0a) (FI this)) (FI (Ha h))
   ·exact h
  refine GT ((ni (C:=C) F₅.e.kind rfl (Q:=λs'=>jf D' s₅ s'/\ ∃OU,IsL s'.heap D' OU/\fF (put (Gc K 0) 0 (digs n K a)) OU) ?_).mono λfl s₆ hP=> ?_)
  ·refine g9 F₅.e (by decide) (V₄.keep x₅.keep) Rr SV (S.l _ _ _ OC _ _ _ _ s₅ [.int a,.int (0:Nat),.int (K:Nat)] F₅.good0 (by
    haveI:pbi .len [.list ((Gc K 0).map .int)]=Fv (.int (K:Nat)):=by rw [bv (by rw [FD,Qr];exact FF Pd (by decide)),FD,Qr]
    show(do let v<-Fv (PV.int a);let vs<-(do let v<-Fv (PV.int 0);let vs<-(do let v<-pbi .len [.list ((Gc K 0).map .int)];let vs<-Fv [];Fv (v::vs));Fv (v::vs));Fv (v::vs))=_
    rw [this];rfl)) λus s₆ x₆ q₆=> ?_
   refine(vG (C:=C) (D:=D') (Oi:=λb=>ok b/\b≠D') (Vq _ _ _ _ _ _) I D.lim GO.sy W6 Qj Vo Pg Vv (λh=>h.2 rfl) (len:=K) (by exact FF Pd (by decide)) (by exact Fy hn (by decide)) Pj C.d _ s₆ 0 K K a us vs0 _ ((X₅.ext x₆).shrink (frI s₆ (Fx x₅.size x₆.size)) UG)
    ⟨cA,(jA F₄.e Q0 Vo).trans Ul,aN (aN T8 λo=>x₅.keep _ o) λo=>x₆.keep _ o⟩ F₄.a UQ (HJ K) (FI Qr.symm) (FI Qr) Oj (by rw [<-hKd];exact rP Tt)
    (IsL.mono (IsL.mono l₄ λo e=>x₅.keep _ _ e) λo e=>x₆.keep _ _ e) iv₂ (v5 q₆)).mono λv s₇ ⟨h1,h2,h3⟩=>⟨h1,(x₆.toB D').trans h2,h3⟩
  ·obtain⟨rfl,B₆,vs6,l6,iv6⟩:=hP
   refine FK ?_;refine fin s₆ vs6 ((x₅.toB D').trans B₆) l6 ?_;haveI:put (Gc K 0) 0 (digs n K a)=digs n K a:=by unfold put;rw [List.take_zero,Hb,cM,Ng (by rw [Qr];exact H5 _ _),Hg]
   rw [this]at iv6;exact iv6
end
noncomputable abbrev Cx.at (C:Cx) (d:Nat):Cx:={C with d:=d}
variable {r:PV}
theorem ah.mono {H:Ht} {d':Nat} (x:ah prog w H d f args r) (h:d<=d'):ah prog w H d' f args r:=λA s ok vs hA=>x A s ok vs (hA.mono h)
theorem bX.at {body:List Hs} {params:List Gj} (D:bX C f o fd body params Og) (d:Nat):bX (C.at d) f o fd body params Og:=
 ⟨D.ho,D.data,D.lim,D.code,D.body,D.clo,D.glob,D.blt,D.kind,D.co,D.gen,D.bind,D.nd,D.pn,D.pk,D.free⟩
theorem an.at (G:an C Γ) (h:C.d<=d):an (C.at d) Γ:=
 ⟨G.sy,G.val,λx k hx=>by obtain⟨f,o,fd,h1,h2,h3,h4⟩:=G.fn x k hx;exact⟨f,o,fd,h1,h2,h3,λargs r hr=>(h4 args r hr).mono h⟩,G.bi,
  λx k hx=>by obtain⟨f,o,fd,h1,h2,h3,h4⟩:=G.gn x k hx;exact⟨f,o,fd,h1,h2,h3,λargs xs hr A s ok vs tgt hA=>h4 args xs hr A s ok vs tgt (hA.mono h)⟩,G.ty⟩
noncomputable def Gam.put (Γ:Gam) (k:Nat) (F:List PV->Option PV):Gam:={Γ with fn:=λi args=>if i=k then F args else Γ.fn i args}
structure kj (C:Cx) (x:Gj) (k:Nat) (f:Gb) (o:N1) (fd:J8):Prop where
 only: ∀y,C.gl y=Fv (.fn k)->y=x
 loads:cC C.H x (.ref f)
 ho:C.H.get? f=Fv o
 hd:o.data= .func fd
theorem an.put (G:an C Γ) (X:kj C x k f o fd) {F:List PV->Option PV} (h: ∀args r,F args=Fv r->ah C.prog C.w C.H C.d f args r):an C (Γ.put k F):=
 ⟨G.sy,G.val,λy i hy=>by
  by_cases hi:i=k
  ·subst hi
   have:=X.only y hy;subst this;refine⟨f,o,fd,X.loads,X.ho,X.hd,λargs r hr=> ?_⟩;have hr:(if i=i then F args else Γ.fn i args)=Fv r:=hr;rw [if_pos rfl]at hr;exact h args r hr
  ·obtain⟨f',o',Wo,h1,h2,h3,h4⟩:=G.fn y i hy
   refine⟨f',o',Wo,h1,h2,h3,λargs r hr=> ?_⟩;have hr:(if i=k then F args else Γ.fn i args)=Fv r:=hr;rw [if_neg hi]at hr;exact h4 args r hr,G.bi,G.gn,G.ty⟩
variable {y:Nat}
section
theorem uJ (a n:Nat):dN .RShift (.int a) (.int n)=Fv (.int (a/2^n:Nat)):=by show aS (0<=(n:Int)) (Int.fdiv (a:Int) (2^(n:Int).toNat))=_;unfold aS;rw [if_pos (by exact Gd _),AU]
theorem rd (h:a<2^m) (hm:m+n<=2^27):dN .LShift (.int a) (.int n)=Fv (.int (a*2^n:Nat)):=by
 show aS (0<=(n:Int)/\(FC (a:Int):Int)+(n:Int)<=2^27) ((a:Int)*2^(n:Int).toNat)=_;have:=d9 a m h;unfold aS;rw [if_pos (by lia),GC]
 simp
theorem hY (a h:Nat):dN .BitAnd (.int a) (.int (2^h-1:Nat))=Fv (.int (a % 2^h:Nat)):=by show Fv (PV.int (Mj (a:Int) ((2^h-1:Nat):Int)))=_;rw [bitAnd_pp (by exact Gd _) (by exact Gd _),GC,GC,Nat.and_two_pow_sub_one_eq_mod]
theorem Ay {x s:Nat} (hy:y<2^s):(x*2^s)&&&y=0:=by
 apply NP;intro i;rw [Nat.testBit_and,Nf,Nat.zero_testBit];by_cases h:s<=i
 ·rw [Nat.testBit_lt_two_pow (Fy hy (HH (by decide) h)),Bool.and_false]
 ·simp [h]
theorem por {x s:Nat} (hy:y<2^s):dN .BitOr (.int (x*2^s:Nat)) (.int y)=Fv (.int (x*2^s+y:Nat)):=by
 show Fv (PV.int (Builtin.bitOr ((x*2^s:Nat):Int) (y:Int)))=_;rw [bitOr_and,bitAnd_pp (by exact Gd _) (by exact Gd _),GC,GC,Ay hy]
 simp
theorem B5 (a b:Nat):dN .Add (.int a) (.int b)=Fv (.int (a+b:Nat)):=rfl
theorem B4 (h:b<=a):dN .Sub (.int a) (.int b)=Fv (.int (a-b:Nat)):=by show Fv (PV.int ((a:Int)-(b:Int)))=_;rw [Int.ofNat_sub h]
theorem AF (ha:a<2^m) (hb:b<2^n) (h:m+n<=2^27):dN .Mult (.int a) (.int b)=Fv (.int (a*b:Nat)):=by show aS (Jy (a:Int) (b:Int)) ((a:Int)*(b:Int))=_;unfold aS;rw [if_pos (O1 (d9 a m ha) (d9 b n hb) h)];simp
end
def bz2 (l a b n:Nat):Prop:=0<n/\n<=4000*2^l/\n<=2^20/\2^(n-1)<=b/\b<2^n/\a<b*2^n
def bz3 (l Oq a3 b b1 b2 n:Nat):Prop:=0<n/\n<=4000*2^l/\n<=2^20/\2^(n-1)<=b1/\b1<2^n/\b2<2^n/\b=b1*2^n+b2/\a3<2^n/\Oq<b
noncomputable def bz (a b:Nat):PV:= .tuple [.int (a/b:Nat),.int (a % b:Nat)]
noncomputable def pC:List PS:=[
 .ite (.cmp .Eq (.bin .RShift (.var 0) (.var 5)) (.var 3)) [.swap [6,7] [(.bin .Sub (.bin .LShift (.cI 1) (.var 5)) (.cI 1)),(.bin .Add (.bin .Sub (.var 0) (.bin .LShift (.var 3) (.var 5))) (.var 3))]] [.setT [6,7] 0 (.call 3 [(.var 0),(.var 3),(.var 5)])],
 .set 7 0 (.bin .Sub (.bin .BitOr (.bin .LShift (.var 7) (.var 5)) (.var 1)) (.bin .Mult (.var 6) (.var 4))),
 .whl (.cmp .Lt (.var 7) (.cI 0)) [.aug 6 .Sub 0 (.cI 1),.aug 7 .Add 0 (.var 2)],
 .ret (.tup [(.var 6),(.var 7)])]
noncomputable def d3R (Oq a3 b b1 b2 n:Nat) (q r:Option PV):Ρ:=[Fv (.int Oq),Fv (.int a3),Fv (.int b),Fv (.int b1),Fv (.int b2),Fv (.int n),q,r]
variable {Oq a3 b1 b2 N X:Nat} {test:Ρ->Option Bool} {own:List Nat}
section
theorem q_ {A:Nat} {r:Int} {Q:Int} (hb:0<b) (e:(A:Int)=Q*b+r) (h0:0<=r) (h1:r<b):Q=((A/b:Nat):Int)/\r=((A % b:Nat):Int):=by haveI Pq:(b:Int)≠0:=Int.ne_of_gt (Int.natCast_pos.mpr hb);rw [Int.natCast_ediv,Int.natCast_emod,e,Lg,NB _ _ Pq,NA h0 h1,Ny,Int.add_mul_emod_self_right,Int.emod_eq_of_lt h0 h1];exact⟨rfl,rfl⟩
theorem xC {params:List Nat} {ps:List PS} {v:PV} (hρ:a_ (Gc m Fw) params args=Fv ρ) (h:ag Γ ps ρ []=Fv (.ret v)):aG Γ m params ps args=Fv v:=by
 unfold aG;rw [hρ];show(ag Γ ps ρ []).bind _=_;rw [h]
 rfl
theorem wV {body:Ρ->List Nat->Option Out} (h:test ρ=Fv Fz):kI test body (m+1) ρ own=Fv (.next ρ own):=aD h rfl
theorem wW {body:Ρ->List Nat->Option Out} {Ot:List Nat} {r:Option Out} (h:test ρ=Fv FE) (hb:body ρ own=Fv (.next ρ' Ot)) (hr:kI test body m ρ' Ot=r):kI test body (m+1) ρ own=r:=by
 subst hr;show(test ρ).bind _=_;rw [h];show(body ρ own).bind _=_;rw [hb]
 rfl
theorem Cy {A:Nat} (hb:0<b) (m:Nat): ∀(PO:Nat) (q r:Int),m<=PO->0<=r+((m*b:Nat):Int)->r<b->(A:Int)=q*b+r->
  kI (λρ=>bt Γ (.cmp .Lt (.var 7) (.cI 0)) ρ) (λρ own=>ag Γ [.aug 6 .Sub 0 (.cI 1),.aug 7 .Add 0 (.var 2)] ρ own) (PO+1) (d3R Oq a3 b b1 b2 n (Fv (.int q)) (Fv (.int r))) []=
   Fv (.next (d3R Oq a3 b b1 b2 n (Fv (.int (A/b:Nat))) (Fv (.int (A % b:Nat)))) []):=by
 have U5: ∀(PO:Nat) (q r:Int),0<=r->r<b->(A:Int)=q*b+r->kI (λρ=>bt Γ (.cmp .Lt (.var 7) (.cI 0)) ρ) (λρ own=>ag Γ [.aug 6 .Sub 0 (.cI 1),.aug 7 .Add 0 (.var 2)] ρ own) (PO+1) (d3R Oq a3 b b1 b2 n (Fv (.int q)) (Fv (.int r))) []=
   Fv (.next (d3R Oq a3 b b1 b2 n (Fv (.int (A/b:Nat))) (Fv (.int (A % b:Nat)))) []):=λPO q r h0 h1 e=>by
  obtain⟨e1,e2⟩:=q_ hb e h0 h1;rw [<-e1,<-e2];exact wV (congrArg Fv (decide_eq_false (MU.mpr h0)))
 induction m with
 |zero=>exact λPO q r _ h0=>U5 PO q r (by rw [Nat.zero_mul]at h0;exact LZ r▸h0)
 |succ m ih=>
  intro PO q r hm h0 h1 e;by_cases hr:0<=r
  ·exact U5 PO q r hr h1 e
  ·cases PO with
   |zero=>exact absurd hm (Nat.not_succ_le_zero m)
   |succ PO=>
    have hr:=Int.not_le.mp hr;refine wW (ρ':=d3R Oq a3 b b1 b2 n (Fv (.int (q-1))) (Fv (.int (r+b)))) (Ot:=[]) (congrArg Fv (decide_eq_true hr)) ?_ (ih PO (q-1) (r+b) (HZ hm) ?_ ?_ ?_)
    ·rw [a7 (ρ':=d3R Oq a3 b b1 b2 n (Fv (.int (q-1))) (Fv (.int r))) (Ot:=[]) (dS (a:= .int q) (b:= .int 1) (c:= .int (q-1)) rfl rfl rfl rfl)]
     exact a7 (ρ':=d3R Oq a3 b b1 b2 n (Fv (.int (q-1))) (Fv (.int (r+b)))) (Ot:=[]) (dS (a:= .int r) (b:= .int b) (c:= .int (r+b)) rfl rfl rfl rfl)
    ·rw [JU,Hd,Lg ((m*b:Nat):Int),<-Int.add_assoc]at h0
     exact h0
    ·have:=Int.add_lt_add_right hr b
     rw [Ny]at this;exact this
    ·rw [e,Int.sub_mul,Jm]
     generalize q*(b:Int)=x;lia
theorem E4 (hN:0<N) (hc:Oq/N=b1) (ha:Oq<b1*N+b2) (h1:b1<N) (h2:b2<N) (h3:a3<N):
  b1*N<=Oq/\(N-1)*b1+(Oq-b1*N+b1)=Oq/\N-1<N/\Oq-b1*N+b1<N*2/\(Oq-b1*N+b1)*N+a3<b1*N+b2+(N-1)*b2:=by
 obtain⟨d,rfl⟩: ∃d,Oq=b1*N+d:=⟨Oq % N,by rw [<-hc,Nat.div_add_mod']⟩
 obtain⟨M,rfl⟩: ∃M,N=M+1:=⟨N-1,(IC hN).symm⟩;have hd:=Nat.lt_of_add_lt_add_left ha;rw [I',LM];refine⟨FZ _ _, ?_,Gx M, ?_, ?_⟩
 ·rw [IP,H9 M,GX d,GN]
 ·rw [Nat.mul_two];exact Nat.add_lt_add (HL hd h2) h1
 ·haveI e:b2+M*b2=b2*(M+1):=by rw [IP,H9 M,GX]
  rw [GN,e,Jl,Gh,GX (d*(M+1)+a3)];exact Jx (Fy (Jx h3 _) (JU d (M+1)▸H2 (M+1) hd)) _
theorem E0 (hp:0<b1) (hl:Oq<b1*N) (h1:b1<N) (h3:a3<N):Oq/b1*b1+Oq % b1=Oq/\Oq/b1<N/\Oq % b1<N*2/\Oq % b1*N+a3<b1*N+b2+Oq/b1*b2:=
 have hm:=J6 Oq hp
 ⟨Nat.div_add_mod' Oq b1,Lu hl,Fy (HL hm h1) (Nat.le_mul_of_pos_right N (by decide)),
  Fy (Fy (Jx h3 _) (JU (Oq % b1) N▸H2 N hm)) (Fx (FZ _ _) (FZ _ _))⟩
theorem Ah (h2: ∀a b n,bz2 l a b n->Γ.fn 3 [.int (a:Nat),.int (b:Nat),.int (n:Nat)]=Fv (bz a b)) (h:bz3 l Oq a3 b b1 b2 n):
  ∃q r:Nat,ak Γ (pC.headD .bad) (d3R Oq a3 b b1 b2 n Fw Fw) []=Fv (.next (d3R Oq a3 b b1 b2 n (Fv (.int q)) (Fv (.int r))) [])/\q*b1+r=Oq/\q<2^n/\r<2^n*2/\r*2^n+a3<b1*2^n+b2+q*b2:=by
 obtain⟨hn,hl,Pm,Qk,RC,QS,hb,Vt,ha⟩:=h;have hN:0<2^n:=GM n;have ht:bt Γ (.cmp .Eq (.bin .RShift (.var 0) (.var 5)) (.var 3)) (d3R Oq a3 b b1 b2 n Fw Fw)=Fv (((Oq/2^n:Nat):Int)==(b1:Int)):=by exact c8 (ae (a:= .int Oq) (b:= .int n) rfl rfl (uJ Oq n)) rfl rfl
 have PW:Oq<b1*2^n+b2:=hb▸ha;by_cases hc:Oq/2^n=b1
 ·obtain⟨Sc,k⟩:=E4 hN hc PW RC QS Vt
  refine⟨2^n-1,Oq-b1*2^n+b1, ?_,k⟩;refine am (t:=FE) (ht.trans (congrArg Fv (beq_iff_eq.mpr (congrArg Int.ofNat hc)))) ?_;haveI e1:pev Γ (.bin .Sub (.bin .LShift (.cI 1) (.var 5)) (.cI 1)) (d3R Oq a3 b b1 b2 n Fw Fw)=Fv (.int (2^n-1:Nat)):=by
   refine ae (a:= .int (1*2^n:Nat)) (b:= .int (1:Nat)) (ae (a:= .int (1:Nat)) (b:= .int n) rfl rfl (rd (m:=1) (by decide) (by exact Fx (FM (FH _) Pm) (by decide)))) rfl ?_
   rw [KD];exact B4 hN
  haveI e2:pev Γ (.bin .Add (.bin .Sub (.var 0) (.bin .LShift (.var 3) (.var 5))) (.var 3)) (d3R Oq a3 b b1 b2 n Fw Fw)=Fv (.int (Oq-b1*2^n+b1:Nat)):=
   ae (a:= .int (Oq-b1*2^n:Nat)) (b:= .int b1) (ae (a:= .int Oq) (b:= .int (b1*2^n:Nat)) rfl (ae (a:= .int b1) (b:= .int n) rfl rfl (rd (m:=n) RC (by exact Fx (FM Pm Pm) (by decide)))) (B4 Sc)) rfl (B5 _ _)
  exact a7 (lY (aa e1 (aa e2 bZ)) rfl)
 ·haveI Tv:Oq/2^n<=b1:=H4 ((HO hN).mpr (Fy PW (JU b1 _▸G_ (Gm QS) _)))
  have OH:Oq<b1*2^n:=(HO hN).mp (Kt Tv hc);refine⟨Oq/b1,Oq % b1, ?_,E0 (Fy (GM (n-1)) Qk) OH RC Vt⟩;refine am (t:=Fz) (ht.trans (congrArg Fv (beq_eq_false_iff_ne.mpr λe=>hc (O2 e)))) ?_;exact a7 (e7 (aw (aa (v:= .int Oq) rfl (aa (v:= .int b1) rfl (aa (v:= .int n) rfl bZ))) (h2 Oq b1 n ⟨hn,hl,Pm,Qk,RC,OH⟩)) rfl)
theorem EL {Y Z:Nat} (h:Y<=Z):0<=((X:Int)-(Y:Int))+(Z:Int):=by lia
theorem ltI {Y:Nat} (h:X<b+Y):(X:Int)-(Y:Int)<(b:Int):=by lia
theorem Ee {A Y:Nat} (h:A+Y=q*b+X):(A:Int)=(q:Int)*(b:Int)+((X:Int)-(Y:Int)):=by rw [<-JJ,<-Int.add_sub_assoc,<-Hd,<-h,Hd,Ku]
theorem Ai (h2: ∀a b n,bz2 l a b n->Γ.fn 3 [.int (a:Nat),.int (b:Nat),.int (n:Nat)]=Fv (bz a b)) (h:bz3 l Oq a3 b b1 b2 n):
  aG Γ 8 [0,1,2,3,4,5] pC [.int Oq,.int a3,.int b,.int b1,.int b2,.int n]=Fv (bz (Oq*2^n+a3) b):=by
 obtain⟨q,r,h1,hq,hqn,hr,OH⟩:=Ah h2 h;obtain⟨hn,hl,Pm,Qk,RC,QS,hb,Vt,ha⟩:=h;haveI e2:ak Γ (.set 7 0 (.bin .Sub (.bin .BitOr (.bin .LShift (.var 7) (.var 5)) (.var 1)) (.bin .Mult (.var 6) (.var 4)))) (d3R Oq a3 b b1 b2 n (Fv (.int q)) (Fv (.int r))) []=
   Fv (.next (d3R Oq a3 b b1 b2 n (Fv (.int q)) (Fv (.int (((r*2^n+a3:Nat):Int)-((q*b2:Nat):Int))))) []):=aj (v:= .int (((r*2^n+a3:Nat):Int)-((q*b2:Nat):Int)))
  (ae (a:= .int (r*2^n+a3:Nat)) (b:= .int (q*b2:Nat)) (ae (a:= .int (r*2^n:Nat)) (b:= .int a3) (ae (a:= .int r) (b:= .int n) rfl rfl (rd (Kl .. ▸hr) (by lia))) rfl (por Vt)) (ae (a:= .int q) (b:= .int b2) rfl rfl (AF hqn QS (by exact Fx (FM Pm Pm) (by decide)))) rfl)
 --how often the remainder is mended
 haveI i2:2^n<=2*b1:=Nat.pow_pred_mul hn▸H9 2 b1▸H2 2 Qk;haveI i3:q*b2<=2*b:=Fx (GZ (Gm hqn) (Gm QS)) (Fx (H2 _ i2) (K6 2 b1 _▸GS 2 (hb▸FZ _ _)));haveI hA:Oq*2^n+a3+q*b2=q*b+(r*2^n+a3):=by rw [hb,<-hq,Jl,Nat.mul_add,K6,Gh _ a3,Gh _ (r*2^n),GN (_+_)]
 haveI e3:ak Γ (.whl (.cmp .Lt (.var 7) (.cI 0)) [.aug 6 .Sub 0 (.cI 1),.aug 7 .Add 0 (.var 2)]) (d3R Oq a3 b b1 b2 n (Fv (.int q)) (Fv (.int (((r*2^n+a3:Nat):Int)-((q*b2:Nat):Int))))) []=_:=Cy (Γ:=Γ) (Oq:=Oq) (a3:=a3) (b1:=b1) (b2:=b2) (n:=n) (A:=Oq*2^n+a3) (FF (Hk _) ha) 2 15 q _ (by decide) (EL i3) (ltI (hb▸OH)) (Ee hA)
 exact xC (ρ:=d3R Oq a3 b b1 b2 n Fw Fw) rfl<|(a7 h1).trans ((a7 e2).trans ((a7 e3).trans (ao (aH (e:= .tup [.var 6,.var 7]) rfl))))
end
noncomputable def nB:List PS:=[
 .ite (.cmp .LtE (.bin .Sub (.meth .bitlen (.var 0) []) (.var 2)) (.glo 0)) [.ret (.bi .divmod [(.var 0),(.var 1)])] [],
 .set 3 0 (.bin .BitAnd (.var 2) (.cI 1)),
 .ite (.var 3) [.aug 0 .LShift 0 (.cI 1),.aug 1 .LShift 0 (.cI 1),.aug 2 .Add 0 (.cI 1)] [],
 .set 4 0 (.bin .RShift (.var 2) (.cI 1)),
 .set 5 0 (.bin .Sub (.bin .LShift (.cI 1) (.var 4)) (.cI 1)),
 .swap [6,7] [(.bin .RShift (.var 1) (.var 4)),(.bin .BitAnd (.var 1) (.var 5))],
 .setT [8,9] 0 (.call 4 [(.bin .RShift (.var 0) (.var 2)),(.bin .BitAnd (.bin .RShift (.var 0) (.var 4)) (.var 5)),(.var 1),(.var 6),(.var 7),(.var 4)]),
 .setT [10,9] 0 (.call 4 [(.var 9),(.bin .BitAnd (.var 0) (.var 5)),(.var 1),(.var 6),(.var 7),(.var 4)]),
 .ite (.var 3) [.aug 9 .RShift 0 (.cI 1)] [],
 .ret (.tup [(.bin .BitOr (.bin .LShift (.var 8) (.var 4)) (.var 10)),(.var 9)])]
noncomputable def d2R (a b n:Nat) (p h m b1 b2 q1 r q2:Option PV):Ρ:=[Fv (.int a),Fv (.int b),Fv (.int n),p,h,m,b1,b2,q1,r,q2]
theorem oE (a:Nat):a<2^FC (a:Int):=by have:=(HD (x:=(a:Int))).mp (FH _);simpa using this
theorem uF (h:2^m<=a):m<FC (a:Int):=by
 rcases J7 m (FC (a:Int))with q|q
 ·exact q
 ·have:=(HD (x:=(a:Int))).mp q
  simp at this;lia
theorem gW {x:Nat} (h:0<x):FC (x:Int)=x.log2+1:=by
 unfold FC;haveI:((x:Int)==0)=Fz:=by rw [beq_eq_false_iff_ne];lia
 rw [this];simp
theorem zD (hb:2^(n-1)<=b) (ha:FC (a:Int)<=n+4000):pbi .divmod [.int a,.int b]=Fv (bz a b):=by
 haveI Ql:0<b:=Fy (GM _) hb;haveI hp:HN (a:Int) (b:Int)=Fz:=by
  show(decide ((if(b:Int)==0 then 0 else(b:Int).natAbs.log2/30+1)>300)&&decide ((if(a:Int)==0 then 0 else(a:Int).natAbs.log2/30+1)>(if(b:Int)==0 then 0 else(b:Int).natAbs.log2/30+1)+150))=Fz;haveI e:decide ((if(a:Int)==0 then 0 else(a:Int).natAbs.log2/30+1)>(if(b:Int)==0 then 0 else(b:Int).natAbs.log2/30+1)+150)=Fz:=by
   refine decide_eq_false ?_;haveI hbz:((b:Int)==0)=Fz:=by rw [beq_eq_false_iff_ne];lia
   rw [hbz];haveI h1:n-1<b.log2+1:=by have:=uF hb;rw [gW Ql]at this;exact this
   by_cases ha0:a=0
   ·subst ha0;simp
   ·haveI haz:((a:Int)==0)=Fz:=by rw [beq_eq_false_iff_ne];lia
    rw [haz];rw [gW (by exact Ob ha0)]at ha
    simp only [Int.natAbs_natCast,Gy,if_false];exact Fe ha h1
  rw [e,Bool.and_false]
 show(if(b:Int)≠0/\HN (a:Int) (b:Int)=Fz then Fv (PV.tuple [.int ((a:Int).fdiv (b:Int)),.int ((a:Int).fmod (b:Int))])else Fw)=_;rw [if_pos ⟨by lia,hp⟩]
 unfold bz;rw [Hi _ (by exact Gd _),IF _ (by exact Gd _)]
 simp
variable {l:Nat}
section
theorem Aj {h:Nat} (W7:0<h) (hh:h<=4000*2^m) (Uj:h<=2^20) (hb:2^(2*h-1)<=b) (Pq:b<2^(2*h)) (ha:a<b*2^(2*h)):
  bz3 m (a/2^(2*h)) (a/2^h % 2^h) b (b/2^h) (b % 2^h) h/\bz3 m (a/2^h % b) (a % 2^h) b (b/2^h) (b % 2^h) h/\
   a/2^(2*h)*2^h+a/2^h % 2^h=a/2^h/\a/2^h/b<2^h/\(a/2^h % b*2^h+a % 2^h)/b<2^h/\a/2^h/b*2^h+(a/2^h % b*2^h+a % 2^h)/b=a/b/\(a/2^h % b*2^h+a % 2^h) % b=a % b:=by
 have hN:0<2^h:=GM h;have h2:2^(2*h)=2^h*2^h:=by rw [Mm,J4]
 have Ql:0<b:=Fy (GM _) hb;have b1:2^(h-1)<=b/2^h:=by
  rw [Nat.le_div_iff_mul_le hN,<-J4];haveI:h-1+h=2*h-1:=by exact Fs W7
  rw [this];exact hb
 have b2:b/2^h<2^h:=by rw [HO hN,<-h2];exact Pq
 have b3:b=b/2^h*2^h+b % 2^h:=by have:=JF b (2^h);rw [H9]at this;exact this.symm
 haveI a1:a/2^(2*h)<b:=by rw [HO (GM _)];exact ha
 haveI a2:a/2^(2*h)*2^h+a/2^h % 2^h=a/2^h:=by rw [h2,<-Nu];have:=JF (a/2^h) (2^h);rw [H9]at this;exact this
 haveI a3:a/2^h<b*2^h:=by rw [HO hN,K6,<-h2];exact ha
 have r1:a/2^h % b<b:=J6 _ Ql;haveI l1:a % 2^h<2^h:=J6 _ hN;haveI q2:a/2^h % b*2^h+a % 2^h<b*2^h:=by haveI:(a/2^h % b+1)*2^h<=b*2^h:=H2 _ r1;rw [Jl]at this;exact aLt l1 this
 have key:a=(a/2^h/b*2^h)*b+(a/2^h % b*2^h+a % 2^h):=by
  haveI e1:=JF a (2^h);haveI e2:=JF (a/2^h) b;haveI e3:(a/2^h)*2^h=(b*(a/2^h/b)+a/2^h % b)*2^h:=by rw [e2]
  rw [Jl]at e3;rw [H9 (2^h)]at e1;exact aD2 e1 e3
 refine⟨⟨W7,hh,Uj,b1,b2,J6 _ hN,b3,J6 _ hN,a1⟩,⟨W7,hh,Uj,b1,b2,J6 _ hN,b3,l1,r1⟩,a2, ?_, ?_, ?_, ?_⟩
 ·exact(HO Ql).mpr (by rw [H9];exact a3)
 ·exact(HO Ql).mpr (by rw [H9 (2^h) b];exact q2)
 ·conv=>rhs;rw [key]
  rw [H9 _ b,MC Ql]
 ·conv=>rhs;rw [key]
  rw [H9 _ b,Nat.mul_add_mod]
theorem Ak (Rn:Γ.gv 0=Fv (.int 4000)) (h3: ∀m,l=m+1-> ∀Oq a3 b b1 b2 n,bz3 m Oq a3 b b1 b2 n->Γ.fn 4 [.int (Oq:Nat),.int (a3:Nat),.int (b:Nat),.int (b1:Nat),.int (b2:Nat),.int (n:Nat)]=Fv (bz (Oq*2^n+a3) b))
  (h:bz2 l a b n):aG Γ 11 [0,1,2] nB [.int a,.int b,.int n]=Fv (bz a b):=by
 obtain⟨hn,hl,Pm,hb,Pq,ha⟩:=h;haveI Ql:0<b:=Fy (GM _) hb;haveI hρ:a_ (Gc 11 Fw) [0,1,2] [.int a,.int b,.int n]=Fv (d2R a b n Fw Fw Fw Fw Fw Fw Fw Fw):=rfl;have ht:bt Γ (.cmp .LtE (.bin .Sub (.meth .bitlen (.var 0) []) (.var 2)) (.glo 0)) (d2R a b n Fw Fw Fw Fw Fw Fw Fw Fw)=Fv (decide ((FC (a:Int):Int)-(n:Int)<=4000)):=by exact c8 (a:= .int ((FC (a:Int):Int)-(n:Int))) (b:= .int 4000) rfl Rn rfl
 unfold aG;rw [hρ]
 suffices hs:ag Γ nB (d2R a b n Fw Fw Fw Fw Fw Fw Fw Fw) []=Fv (.ret (bz a b))by simp only [Hp,HS,hs]
 unfold nB;by_cases hc:(FC (a:Int):Int)-(n:Int)<=4000
 ·rw [decide_eq_true hc]at ht
  refine ao (am ht ?_);rw [if_pos rfl];refine ao (aH ?_);exact aD (x:=dz Γ [(.var 0),(.var 1)] (d2R a b n Fw Fw Fw Fw Fw Fw Fw Fw)) (a:=[.int a,.int b]) rfl (zD hb (by lia))
 ·rw [decide_eq_false hc]at ht
  rw [a7 (am (o:=Fv (.next (d2R a b n Fw Fw Fw Fw Fw Fw Fw Fw) [])) ht rfl)]
  haveI WX:FC (a:Int)<=2*n:=by refine d9 _ _ (HL ha ?_);rw [Mm,J4];exact Km Pq (GM n)
  obtain⟨m,rfl⟩: ∃m,l=m+1:=by
   cases l with
   |zero=>simp at hl;lia
   |succ m=>exact⟨m,rfl⟩
  have h3:=h3 m rfl;rw [Kl]at hl
  --pad
  haveI s2:ak Γ (.set 3 0 (.bin .BitAnd (.var 2) (.cI 1))) (d2R a b n Fw Fw Fw Fw Fw Fw Fw Fw) []=Fv (.next (d2R a b n (Fv (.int (n % 2:Nat))) Fw Fw Fw Fw Fw Fw Fw) []):=
   aj (v:= .int (n % 2:Nat)) (ae (a:= .int n) (b:= .int (2^1-1:Nat)) rfl rfl (hY n 1))
  rw [a7 s2];have two: ∀x:Nat,x<2^(2*n+4)->dN .LShift (.int x) (.int (1:Nat))=Fv (.int (x*2^1:Nat)):=λx hx=>rd hx (by exact Fx (FM (FM (GZ (FH _) Pm) (FH _)) (FH _)) (by decide))
  haveI Xe:a<2^(2*n):=Fy (oE a) (HH (by decide) WX)
  have up: ∀{x i j:Nat},x<2^i->i<=j->x<2^j:=λh h'=>Fy h (HH (by decide) h')
  haveI s3:ak Γ (.ite (.var 3) [.aug 0 .LShift 0 (.cI 1),.aug 1 .LShift 0 (.cI 1),.aug 2 .Add 0 (.cI 1)] []) (d2R a b n (Fv (.int (n % 2:Nat))) Fw Fw Fw Fw Fw Fw Fw) []=
    Fv (.next (d2R (a*2^(n % 2)) (b*2^(n % 2)) (n+n % 2) (Fv (.int (n % 2:Nat))) Fw Fw Fw Fw Fw Fw Fw) []):=by
   rcases Ks n with e|e
   ·rw [e]
    simp only [Nt,NN,Nv];exact am (t:=Fz) rfl rfl
   ·rw [e]
    refine am (t:=FE) rfl ?_;rw [if_pos rfl];rw [a7 (ρ':=d2R (a*2^1) b n (Fv (.int (1:Nat))) Fw Fw Fw Fw Fw Fw Fw) (Ot:=[]) (dS (a:= .int a) (b:= .int (1:Nat)) rfl rfl (two a (up Xe (by exact FZ _ _))) rfl)]
    rw [a7 (ρ':=d2R (a*2^1) (b*2^1) n (Fv (.int (1:Nat))) Fw Fw Fw Fw Fw Fw Fw) (Ot:=[]) (dS (a:= .int b) (b:= .int (1:Nat)) rfl rfl (two b (up Pq (by lia))) rfl)]
    rw [a7 (ρ':=d2R (a*2^1) (b*2^1) (n+1) (Fv (.int (1:Nat))) Fw Fw Fw Fw Fw Fw Fw) (Ot:=[]) (dS (a:= .int n) (b:= .int (1:Nat)) rfl rfl (B5 n 1) rfl)]
    rfl
  rw [a7 s3];obtain⟨h,hh⟩: ∃h,n+n % 2=2*h:=⟨(n+n % 2)/2,aDv⟩;haveI SL:n % 2<2:=J6 _ (by decide)
  haveI WR:a*2^(n % 2)/(b*2^(n % 2))=a/b:=Nat.mul_div_mul_right _ _ (GM _);haveI SZ:a*2^(n % 2) % (b*2^(n % 2))=a % b*2^(n % 2):=Nat.mul_mod_mul_right _ _ _;haveI Wm:2^(2*h-1)<=b*2^(n % 2):=by
   haveI:2*h-1=n-1+n % 2:=by exact Ew hn hh
   rw [this,J4];exact H2 _ hb
  haveI hB2:b*2^(n % 2)<2^(2*h):=by rw [<-hh,J4];exact Km Pq (GM _)
  haveI hA:a*2^(n % 2)<b*2^(n % 2)*2^(2*h):=by refine Fy (Km ha (GM _)) ?_;rw [K6,K6,H9 (2^n)];exact GS _ (GS _ (HH (by decide) (by exact Fx (FZ _ _) (FI hh))))
  obtain⟨z1,z2,e1,lq1,lq2,eq,er⟩:=Aj (m:=m) (by lia) (by lia) (by lia) Wm hB2 hA
  rw [WR]at eq;rw [SZ]at er;generalize a*2^(n % 2)=a' at*
  generalize b*2^(n % 2)=b' at*
  rw [hh];generalize hP:(Fv (PV.int ((n % 2:Nat):Int)))=P;haveI s4:ak Γ (.set 4 0 (.bin .RShift (.var 2) (.cI 1))) (d2R a' b' (2*h) P Fw Fw Fw Fw Fw Fw Fw) []=Fv (.next (d2R a' b' (2*h) P (Fv (.int h)) Fw Fw Fw Fw Fw Fw) []):=by
   refine aj (v:= .int h) (ae (a:= .int (2*h:Nat)) (b:= .int (1:Nat)) rfl rfl ?_);rw [uJ]
   congr 2
   lia
  rw [a7 s4];haveI s5:ak Γ (.set 5 0 (.bin .Sub (.bin .LShift (.cI 1) (.var 4)) (.cI 1))) (d2R a' b' (2*h) P (Fv (.int h)) Fw Fw Fw Fw Fw Fw) []=Fv (.next (d2R a' b' (2*h) P (Fv (.int h)) (Fv (.int (2^h-1:Nat))) Fw Fw Fw Fw Fw) []):=by
   refine aj (v:= .int (2^h-1:Nat)) (ae (a:= .int (1*2^h:Nat)) (b:= .int (1:Nat)) (ae (a:= .int (1:Nat)) (b:= .int h) rfl rfl (rd (m:=1) (by decide) (by lia))) rfl ?_)
   rw [KD];exact B4 (GM h)
  rw [a7 s5];generalize hM:(Fv (PV.int ((2^h-1:Nat):Int)))=Mk;haveI s6:ak Γ (.swap [6,7] [(.bin .RShift (.var 1) (.var 4)),(.bin .BitAnd (.var 1) (.var 5))]) (d2R a' b' (2*h) P (Fv (.int h)) Mk Fw Fw Fw Fw Fw) []=
    Fv (.next (d2R a' b' (2*h) P (Fv (.int h)) Mk (Fv (.int (b'/2^h:Nat))) (Fv (.int (b' % 2^h:Nat))) Fw Fw Fw) []):=
   lY (aa (v:= .int (b'/2^h:Nat)) (ae (a:= .int b') (b:= .int h) rfl rfl (uJ b' h)) (aa (v:= .int (b' % 2^h:Nat)) (ae (a:= .int b') (b:= .int (2^h-1:Nat)) rfl (by rw [<-hM];rfl) (hY b' h)) bZ)) rfl
  rw [a7 s6];have c1:=h3 _ _ _ _ _ _ z1;rw [e1]at c1;haveI c2:=h3 _ _ _ _ _ _ z2;haveI s7:ak Γ (.setT [8,9] 0 (.call 4 [(.bin .RShift (.var 0) (.var 2)),(.bin .BitAnd (.bin .RShift (.var 0) (.var 4)) (.var 5)),(.var 1),(.var 6),(.var 7),(.var 4)])) (d2R a' b' (2*h) P (Fv (.int h)) Mk (Fv (.int (b'/2^h:Nat))) (Fv (.int (b' % 2^h:Nat))) Fw Fw Fw) []=
    Fv (.next (d2R a' b' (2*h) P (Fv (.int h)) Mk (Fv (.int (b'/2^h:Nat))) (Fv (.int (b' % 2^h:Nat))) (Fv (.int (a'/2^h/b':Nat))) (Fv (.int (a'/2^h % b':Nat))) Fw) []):=by
   refine e7 (aw (aa (v:= .int (a'/2^(2*h):Nat)) (ae (a:= .int a') (b:= .int (2*h:Nat)) rfl rfl (uJ _ _))
    (aa (v:= .int (a'/2^h % 2^h:Nat)) (ae (a:= .int (a'/2^h:Nat)) (b:= .int (2^h-1:Nat)) (ae (a:= .int a') (b:= .int h) rfl rfl (uJ _ _)) (by rw [<-hM];rfl) (hY _ _))
     (aa (v:= .int b') rfl (aa (v:= .int (b'/2^h:Nat)) rfl (aa (v:= .int (b' % 2^h:Nat)) rfl (aa (v:= .int h) rfl bZ)))))) c1) rfl
  rw [a7 s7];haveI s8:ak Γ (.setT [10,9] 0 (.call 4 [(.var 9),(.bin .BitAnd (.var 0) (.var 5)),(.var 1),(.var 6),(.var 7),(.var 4)])) (d2R a' b' (2*h) P (Fv (.int h)) Mk (Fv (.int (b'/2^h:Nat))) (Fv (.int (b' % 2^h:Nat))) (Fv (.int (a'/2^h/b':Nat))) (Fv (.int (a'/2^h % b':Nat))) Fw) []=
    Fv (.next (d2R a' b' (2*h) P (Fv (.int h)) Mk (Fv (.int (b'/2^h:Nat))) (Fv (.int (b' % 2^h:Nat))) (Fv (.int (a'/2^h/b':Nat))) (Fv (.int (a % b*2^(n % 2):Nat))) (Fv (.int ((a'/2^h % b'*2^h+a' % 2^h)/b':Nat)))) []):=by
   rw [<-er];exact e7 (aw (aa (v:= .int (a'/2^h % b':Nat)) rfl
    (aa (v:= .int (a' % 2^h:Nat)) (ae (a:= .int a') (b:= .int (2^h-1:Nat)) rfl (by rw [<-hM];rfl) (hY _ _))
     (aa (v:= .int b') rfl (aa (v:= .int (b'/2^h:Nat)) rfl (aa (v:= .int (b' % 2^h:Nat)) rfl (aa (v:= .int h) rfl bZ)))))) c2) rfl
  rw [a7 s8];generalize hq2:(a'/2^h % b'*2^h+a' % 2^h)/b'=q2 at*
  generalize hq1:a'/2^h/b'=q1 at*
  generalize (Fv (PV.int ((b'/2^h:Nat):Int)))=X1;generalize (Fv (PV.int ((b' % 2^h:Nat):Int)))=X2;haveI s9:ak Γ (.ite (.var 3) [.aug 9 .RShift 0 (.cI 1)] []) (d2R a' b' (2*h) P (Fv (.int h)) Mk X1 X2 (Fv (.int q1)) (Fv (.int (a % b*2^(n % 2):Nat))) (Fv (.int q2))) []=
    Fv (.next (d2R a' b' (2*h) P (Fv (.int h)) Mk X1 X2 (Fv (.int q1)) (Fv (.int (a % b:Nat))) (Fv (.int q2))) []):=by
   rw [<-hP];rcases Ks n with e|e
   ·rw [e,Nt,NN]
    exact am (t:=Fz) rfl rfl
   ·rw [e]
    refine am (t:=FE) rfl ?_;rw [if_pos rfl];have:=uJ (a % b*2^1) 1;rw [Nat.mul_div_cancel _ (GM 1)]at this;rw [a7 (dS (a:= .int (a % b*2^1:Nat)) (b:= .int (1:Nat)) rfl rfl this rfl)]
    rfl
  rw [a7 s9];refine ao (aH ?_);haveI e1:pev Γ (.bin .BitOr (.bin .LShift (.var 8) (.var 4)) (.var 10)) (d2R a' b' (2*h) P (Fv (.int h)) Mk X1 X2 (Fv (.int q1)) (Fv (.int (a % b:Nat))) (Fv (.int q2)))=Fv (.int (a/b:Nat)):=by rw [<-eq];exact ae (a:= .int (q1*2^h:Nat)) (b:= .int q2) (ae (a:= .int q1) (b:= .int h) rfl rfl (rd lq1 (by lia))) rfl (por lq2)
  exact aD (aa e1 (aa (v:= .int (a % b:Nat)) rfl bZ)) rfl
end
noncomputable def n2N:List Gj:=["a","b","n","pad","half_n","mask","b1","b2","q1","r","q2"]
noncomputable def n3N:List Gj:=["a12","a3","b","b1","b2","n","q","r"]
noncomputable def uO (args:List PV) (i:Nat):Nat:=((args[i]?).bind (oI Fv)).elim 0 Int.toNat
open Classical in
noncomputable def F2 (l:Nat) (args:List PV):Option PV:=giv (∃a b n:Nat,args=[.int a,.int b,.int n]/\bz2 l a b n) (bz (uO args 0) (uO args 1))
open Classical in
noncomputable def F3 (l:Nat) (args:List PV):Option PV:=giv (∃Oq a3 b b1 b2 n:Nat,args=[.int Oq,.int a3,.int b,.int b1,.int b2,.int n]/\bz3 l Oq a3 b b1 b2 n) (bz (uO args 0*2^uO args 5+uO args 1) (uO args 2))
open Classical in
theorem B2 (h:bz2 l a b n):F2 l [.int (a:Nat),.int (b:Nat),.int (n:Nat)]=Fv (bz a b):=eE ⟨a,b,n,rfl,h⟩
open Classical in
theorem EA (h:bz3 l Oq a3 b b1 b2 n):F3 l [.int (Oq:Nat),.int (a3:Nat),.int (b:Nat),.int (b1:Nat),.int (b2:Nat),.int (n:Nat)]=Fv (bz (Oq*2^n+a3) b):=eE ⟨Oq,a3,b,b1,b2,n,rfl,h⟩
open Classical in
theorem wP (h:F2 l args=Fv r): ∃a b n:Nat,args=[.int a,.int b,.int n]/\bz2 l a b n/\r=bz a b:=
 bc (P:=λr=> ∃a b n:Nat,args=[.int a,.int b,.int n]/\bz2 l a b n/\r=bz a b) h fun⟨a,b,n,e,h⟩=>⟨a,b,n,e,h,by rw [e];rfl⟩
open Classical in
theorem CO (h:F3 l args=Fv r): ∃Oq a3 b b1 b2 n:Nat,args=[.int Oq,.int a3,.int b,.int b1,.int b2,.int n]/\bz3 l Oq a3 b b1 b2 n/\r=bz (Oq*2^n+a3) b:=
 bc (P:=λr=> ∃Oq a3 b b1 b2 n:Nat,args=[.int Oq,.int a3,.int b,.int b1,.int b2,.int n]/\bz3 l Oq a3 b b1 b2 n/\r=bz (Oq*2^n+a3) b) h fun⟨Oq,a3,b,b1,b2,n,e,h⟩=>⟨Oq,a3,b,b1,b2,n,e,h,by rw [e];rfl⟩
variable {f2 f3:Gb} {o2 o3:N1} {R7 Rw:J8} {PG PF:List Hs}
section
theorem xk (GO:an C Γ) (X2:kj C "_div2n1n" 3 f2 o2 R7) (D3:bX C f3 o3 Rw PF ["a12","a3","b","b1","b2","n"] n3N) (S3:sSs C.gl n3N h0 Rw.scope.names 40 PF=pC) (hd:C.d<=d)
  (P: ∀a b n,bz2 l a b n->ah C.prog C.w C.H d f2 [.int (a:Nat),.int (b:Nat),.int (n:Nat)] (bz a b)) (h:bz3 l Oq a3 b b1 b2 n):
  ah C.prog C.w C.H (d+1) f3 [.int (Oq:Nat),.int (a3:Nat),.int (b:Nat),.int (b1:Nat),.int (b2:Nat),.int (n:Nat)] (bz (Oq*2^n+a3) b):=by
 haveI Wr:an (C.at d) (Γ.put 3 (F2 l)):=(GO.at hd).put (C:=C.at d) ⟨X2.only,X2.loads,X2.ho,X2.hd⟩ λargs r hr=>by obtain⟨a,b,n,rfl,hb,rfl⟩:=wP hr;exact P a b n hb
 have hS:=(db (Og:=n3N) Wr h0 Rw.scope.names 40).2 PF;rw [show sSs (C.at d).gl n3N h0 Rw.scope.names 40 PF=pC from S3]at hS;exact dK (C:=C.at d) (D3.at d) GO.sy hS (by
  haveI e:(["a12","a3","b","b1","b2","n"]:List Gj).map n3N.idxOf=[0,1,2,3,4,5]:=by decide
  rw [e];exact Ai (l:=l) (λa b n h=>B2 h) h)
theorem pW (GO:an C Γ) (Rn:Γ.gv 0=Fv (.int 4000)) (X3:kj C "_div3n2n" 4 f3 o3 Rw) (D2:bX C f2 o2 R7 PG ["a","b","n"] n2N) (S2:sSs C.gl n2N h0 R7.scope.names 40 PG=nB) (hd:C.d<=d)
  (P: ∀m,l=m+1-> ∀Oq a3 b b1 b2 n,bz3 m Oq a3 b b1 b2 n->ah C.prog C.w C.H d f3 [.int (Oq:Nat),.int (a3:Nat),.int (b:Nat),.int (b1:Nat),.int (b2:Nat),.int (n:Nat)] (bz (Oq*2^n+a3) b)) (h:bz2 l a b n):
  ah C.prog C.w C.H (d+1) f2 [.int (a:Nat),.int (b:Nat),.int (n:Nat)] (bz a b):=by
 have fin: ∀Γ':Gam,an (C.at d) Γ'->Γ'.gv 0=Fv (.int 4000)->(∀m,l=m+1-> ∀Oq a3 b b1 b2 n,bz3 m Oq a3 b b1 b2 n->Γ'.fn 4 [.int (Oq:Nat),.int (a3:Nat),.int (b:Nat),.int (b1:Nat),.int (b2:Nat),.int (n:Nat)]=Fv (bz (Oq*2^n+a3) b))->
   ah C.prog C.w C.H (d+1) f2 [.int (a:Nat),.int (b:Nat),.int (n:Nat)] (bz a b):=λΓ' Wr hg h3=>by
  have hS:=(db (Og:=n2N) Wr h0 R7.scope.names 40).2 PG;rw [show sSs (C.at d).gl n2N h0 R7.scope.names 40 PG=nB from S2]at hS;exact dK (C:=C.at d) (D2.at d) GO.sy hS (by
   haveI e:(["a","b","n"]:List Gj).map n2N.idxOf=[0,1,2]:=by decide
   rw [e];exact Ak hg h3 h)
 cases l with
 |zero=>exact fin Γ (GO.at hd) Rn λm hm=>by cases hm
 |succ m=>
  refine fin (Γ.put 4 (F3 m)) ((GO.at hd).put (C:=C.at d) ⟨X3.only,X3.loads,X3.ho,X3.hd⟩ λargs r hr=> ?_) Rn λm' hm Oq a3 b b1 b2 n h=> ?_
  ·obtain⟨Oq,a3,b,b1,b2,n,rfl,hb,rfl⟩:=CO hr
   exact P m rfl Oq a3 b b1 b2 n hb
  ·cases hm
   exact EA h
theorem je (GO:an C Γ) (Rn:Γ.gv 0=Fv (.int 4000)) (X2:kj C "_div2n1n" 3 f2 o2 R7) (X3:kj C "_div3n2n" 4 f3 o3 Rw) (D2:bX C f2 o2 R7 PG ["a","b","n"] n2N) (D3:bX C f3 o3 Rw PF ["a12","a3","b","b1","b2","n"] n3N)
  (S2:sSs C.gl n2N h0 R7.scope.names 40 PG=nB) (S3:sSs C.gl n3N h0 Rw.scope.names 40 PF=pC):
  ∀l a b n,bz2 l a b n->ah C.prog C.w C.H (C.d+2*l+1) f2 [.int (a:Nat),.int (b:Nat),.int (n:Nat)] (bz a b)
 |0,a,b,n,h=>pW GO Rn X3 D2 S2 (d:=C.d+2*0) (by exact FH _) (λm hm=>by cases hm) h
 |l+1,a,b,n,h=>by
  haveI ih:=je GO Rn X2 X3 D2 D3 S2 S3 l;refine pW GO Rn X3 D2 S2 (d:=C.d+2*(l+1)) (by exact FZ _ _) (λm hm Oq a3 b b1 b2 n h3=> ?_) h
  cases hm;exact xk GO X2 D3 S3 (d:=C.d+2*l+1) (by exact Gi (FZ _ _)) ih h3
end
noncomputable def jm:List PS:=[.setT [7,4] 0 (.call 3 [(.bin .Add (.bin .LShift (.var 4) (.var 2)) (.var 6)),(.var 1),(.var 2)]),.app 5 0 (.var 7)]
noncomputable def rz:List PS:=[
 .set 2 0 (.meth .bitlen (.var 1) []),
 .set 3 0 (.call 5 [(.var 0),(.var 2)]),
 .set 4 0 (.cI 0),
 .own 5 (.list []),
 .for_ (.one 6) (.rev (.var 3)) jm,
 .rev 5,
 .set 8 2 (.call 6 [(.var 5),(.var 2)]),
 .ret (.tup [(.var 8),(.var 4)])]
noncomputable def dpR (a b n:Nat) (ds:List Int) (r:Nat) (qs:List Int) (x6 x7 x8:Option PV):Ρ:=[Fv (.int a),Fv (.int b),Fv (.int n),Fv (.list (ds.map .int)),Fv (.int r),Fv (.list (qs.map .int)),x6,x7,x8]
section
theorem uB (hn:0<n) (Pm:n<=2^20) (hb:2^(n-1)<=b) (Pq:b<2^n)
  (h3: ∀a',a'<b*2^n->Γ.fn 3 [.int (a':Nat),.int (b:Nat),.int (n:Nat)]=Fv (bz a' b)):
  ∀(xs:List Int) (V:Nat) (qs:List Int) (x6 x7:Option PV),(∀d∈xs,0<=d/\d<2^n)->(∀q∈qs,0<=q/\q<2^n)->hsum n qs.reverse=((V/b:Nat):Int)->qs.length+xs.length<2^24->
   ∃(V':Nat) (QD:List Int) (y6 y7:Option PV),eA (.one 6) (λρ own=>ag Γ jm ρ own) (xs.map .int) (dpR a b n ds (V % b) qs x6 x7 Fw) [5]=Fv (.next (dpR a b n ds (V' % b) QD y6 y7 Fw) [5])/\
    (V':Int)=V*2^(n*xs.length)+hsum n xs.reverse/\hsum n QD.reverse=((V'/b:Nat):Int)/\QD.length=qs.length+xs.length/\(∀q∈QD,0<=q/\q<2^n)
 |[],V,qs,x6,x7,hx,hq,hs,hl=>⟨V,qs,x6,x7,rfl,by simp [hsum],hs,rfl,hq⟩
 |d::xs,V,qs,x6,x7,hx,hq,hs,hl=>by
  have Ql:0<b:=Fy (GM _) hb;obtain⟨SW,Vp⟩:=hx d FT;obtain⟨e,rfl⟩:=HC SW;haveI he:e<2^n:=by
   haveI:((2^n:Nat):Int)=(2:Int)^n:=by simp
   exact Dp Vp
  have hr:V % b<b:=J6 _ Ql;have hA:V % b*2^n+e<b*2^n:=by haveI:(V % b+1)*2^n<=b*2^n:=H2 _ hr;rw [Jl]at this;exact aLt he this
  have hdm:V*2^n+e=b*(V/b*2^n)+(V % b*2^n+e):=by
   have:=JF V b;haveI e2:V*2^n=(b*(V/b)+V % b)*2^n:=by rw [this]
   rw [e2,Jl,K6];exact GN _ _ _
  haveI hq1:(V*2^n+e)/b=V/b*2^n+(V % b*2^n+e)/b:=by rw [hdm,MC Ql]
  haveI hr1:(V*2^n+e) % b=(V % b*2^n+e) % b:=by rw [hdm,Nat.mul_add_mod]
  haveI hqd:(V % b*2^n+e)/b<2^n:=(HO Ql).mpr (by rw [H9 (2^n) b];exact hA)
  haveI PZ:ag Γ jm ((dpR a b n ds (V % b) qs x6 x7 Fw).set 6 (Fv (.int e))) [5]=
    Fv (.next (dpR a b n ds ((V*2^n+e) % b) (qs++[(((V % b*2^n+e)/b:Nat):Int)]) (Fv (.int e)) (Fv (.int ((V % b*2^n+e)/b:Nat))) Fw) [5]):=by
   haveI s1:ak Γ (.setT [7,4] 0 (.call 3 [(.bin .Add (.bin .LShift (.var 4) (.var 2)) (.var 6)),(.var 1),(.var 2)])) ((dpR a b n ds (V % b) qs x6 x7 Fw).set 6 (Fv (.int e))) [5]=
     Fv (.next (dpR a b n ds ((V*2^n+e) % b) qs (Fv (.int e)) (Fv (.int ((V % b*2^n+e)/b:Nat))) Fw) [5]):=by
    haveI ev:mev Γ 0 (.call 3 [(.bin .Add (.bin .LShift (.var 4) (.var 2)) (.var 6)),(.var 1),(.var 2)]) ((dpR a b n ds (V % b) qs x6 x7 Fw).set 6 (Fv (.int e))) [5]=Fv (bz (V % b*2^n+e) b):=by
     haveI:pev Γ (.call 3 [(.bin .Add (.bin .LShift (.var 4) (.var 2)) (.var 6)),(.var 1),(.var 2)]) (dG 0 ((dpR a b n ds (V % b) qs x6 x7 Fw).set 6 (Fv (.int e))) [5])=Fv (bz (V % b*2^n+e) b):=
      aw (aa (v:= .int (V % b*2^n+e:Nat)) (ae (a:= .int (V % b*2^n:Nat)) (b:= .int e) (ae (a:= .int (V % b:Nat)) (b:= .int n) rfl rfl (rd (HL hr Pq) (by exact Fx (FM Pm Pm) (by decide)))) rfl (B5 _ _))
       (aa (v:= .int b) rfl (aa (v:= .int n) rfl bZ))) (h3 _ hA)
     exact rm this
    rw [hr1];exact aD ev rfl
   haveI s2:ak Γ (.app 5 0 (.var 7)) (dpR a b n ds ((V*2^n+e) % b) qs (Fv (.int e)) (Fv (.int ((V % b*2^n+e)/b:Nat))) Fw) [5]=
     Fv (.next (dpR a b n ds ((V*2^n+e) % b) (qs++[(((V % b*2^n+e)/b:Nat):Int)]) (Fv (.int e)) (Fv (.int ((V % b*2^n+e)/b:Nat))) Fw) [5]):=by
    refine(cU (xs:=qs.map .int) (v:= .int ((V % b*2^n+e)/b:Nat)) rfl rfl rfl (by decide) (by rw [FD];simp only [FY]at hl;unfold F_;exact FF (FZ _ _) hl)).trans ?_
    unfold dpR;rw [Gv]
    rfl
   unfold jm;rw [a7 s1,a7 s2]
   rfl
  obtain⟨V',QD,y6,y7,i1,i2,i3,i4,i5⟩:=uB hn Pm hb Pq h3 xs (V*2^n+e) (qs++[(((V % b*2^n+e)/b:Nat):Int)]) (Fv (.int e)) (Fv (.int ((V % b*2^n+e)/b:Nat))) (λd hd=>hx d (FU _ hd)) (λq hq'=>by
   rcases GY.mp hq' with h|h
   ·exact hq q h
   ·rw [G4]at h
    subst h;refine⟨Gd _, ?_⟩;haveI:((2^n:Nat):Int)=(2:Int)^n:=by simp
    exact aPw hqd) (by
   rw [List.reverse_append,List.reverse_singleton,Nw,hsum,hs,hq1];simp only [Hd,JJ,JI];rw [Lg];rfl) (by rw [FP];simp only [FY,GJ]at hl ⊢;exact FF (FI (Gh _ _ _)) hl)
  refine⟨V',QD,y6,y7, ?_, ?_,i3,by rw [i4,FP];simp only [FY,GJ];exact Gh _ _ _,i5⟩
  ·rw [Gf,AS]
   haveI:((ptIdx (.one 6)).all λi=> !([5]:List Nat).contains i)=FE:=by decide
   rw [if_pos this];show((aT (dpR a b n ds (V % b) qs x6 x7 Fw) (.one 6) (.int e)).bind λρ'=>_)=_;rw [aT,HS];show((ag Γ jm ((dpR a b n ds (V % b) qs x6 x7 Fw).set 6 (Fv (.int e))) [5]).bind _)=_;rw [PZ,HS];exact i1
  ·rw [i2,List.reverse_cons,gJ,Hr,FY,hsum,hsum]
   simp only [Hd,JJ,JI,Nx,LZ];rw [Mq,Na,show((2:Nat):Int)=2 from rfl,<-Int.pow_add,show n+n*xs.length=n*(xs.length+1)by rw [IP];exact GX _ _]
   show _=_+(_+(e:Int)*_);lia
theorem A9 (hn:n=FC (b:Int)) (Ql:0<b) (Pm:n<=2^20) {K:Nat} (hK:K<2^24) (haK:a<2^(n*K))
  (h5:Γ.fn 5 [.int a,.int n]=Fv (.list ((digs n K a).map .int)))
  (h3: ∀a',a'<b*2^n->Γ.fn 3 [.int (a':Nat),.int (b:Nat),.int (n:Nat)]=Fv (bz a' b))
  (h6: ∀qs:List Int,qs.length=K->(∀q∈qs,0<=q/\q<2^n)->Γ.fn 6 [.list (qs.map .int),.int n]=Fv (.int (hsum n qs))):
  aG Γ 9 [0,1] rz [.int a,.int b]=Fv (bz a b):=by
 haveI Pq:b<2^n:=by rw [hn];exact oE b
 haveI Tq:0<n:=by rw [hn,gW Ql];exact JT _
 haveI hb:2^(n-1)<=b:=by rw [hn,gW Ql,LM];exact Nat.log2_self_le (by lia)
 haveI hρ:a_ (Gc 9 Fw) [0,1] [.int a,.int b]=Fv [Fv (.int a),Fv (.int b),Fw,Fw,Fw,Fw,Fw,Fw,Fw]:=rfl;unfold aG;rw [hρ]
 suffices hs:ag Γ rz [Fv (.int a),Fv (.int b),Fw,Fw,Fw,Fw,Fw,Fw,Fw] []=Fv (.ret (bz a b))by simp only [Hp,HS,hs]
 unfold rz;rw [a7 (aj (v:= .int n) (by rw [hn];rfl))]
 rw [a7 (aj (v:= .list ((digs n K a).map .int)) (aw (aa (v:= .int a) rfl (aa (v:= .int n) rfl bZ)) h5))];rw [a7 (aj (v:= .int (0:Nat)) rfl)];haveI s4:ak Γ (.own 5 (.list [])) (((([Fv (PV.int (a:Nat)),Fv (.int (b:Nat)),Fw,Fw,Fw,Fw,Fw,Fw,Fw]:Ρ).set 2 (Fv (.int n))).set 3 (Fv (.list ((digs n K a).map .int)))).set 4 (Fv (.int (0:Nat)))) []=
   Fv (.next (dpR a b n (digs n K a) 0 [] Fw Fw Fw) [5]):=rfl
 rw [a7 s4];obtain⟨V',QD,y6,y7,i1,i2,i3,i4,i5⟩:=uB (Γ:=Γ) (a:=a) (ds:=digs n K a) Tq Pm hb Pq h3 (digs n K a).reverse 0 [] Fw Fw (λd hd=>by
  have hd:=M2.mp hd;obtain⟨h1,h2⟩:=nj n K a d hd;refine⟨h2, ?_⟩;have:=HD.mp h1;haveI h3:((2^n:Nat):Int)=(2:Int)^n:=by simp
  exact aNp h2 this) (λq hq=>by cases hq) (by simp [hsum]) (by rw [Hr,cM];simpa using hK)
 rw [Nat.zero_mod]at i1;haveI s5:ak Γ (.for_ (.one 6) (.rev (.var 3)) jm) (dpR a b n (digs n K a) 0 [] Fw Fw Fw) [5]=Fv (.next (dpR a b n (digs n K a) (V' % b) QD y6 y7 Fw) [5]):=by
  haveI:pit Γ (.rev (.var 3)) (aB (dpR a b n (digs n K a) 0 [] Fw Fw Fw) [5])=Fv (((digs n K a).reverse).map .int):=by rw [M3];rfl
  exact(eN this).trans i1
 rw [a7 s5];haveI hV:V'=a:=by rw [List.reverse_reverse,nf n K a haK]at i2;simp at i2;lia
 subst hV;haveI s6:ak Γ (.rev 5) (dpR V' b n (digs n K V') (V' % b) QD y6 y7 Fw) [5]=Fv (.next (dpR V' b n (digs n K V') (V' % b) QD.reverse y6 y7 Fw) [5]):=by
  show(if([5]:List Nat).contains 5=FE/\(QD.map PV.int).length<=F_ then _ else Fw)=_;rw [if_pos ⟨rfl,by rw [FD,i4,Hr,cM];simp only [GJ];unfold F_;exact NQ (Gm hK) (Hk _)⟩]
  unfold dpR;rw [M3]
  rfl
 rw [a7 s6];have hq:QD.reverse.length=K:=by rw [Hr,i4,Hr,cM];simp
 haveI s7:ak Γ (.set 8 2 (.call 6 [(.var 5),(.var 2)])) (dpR V' b n (digs n K V') (V' % b) QD.reverse y6 y7 Fw) [5]=Fv (.next (dpR V' b n (digs n K V') (V' % b) QD.reverse y6 y7 (Fv (.int (V'/b:Nat)))) [5]):=by
  rw [bO (v:= .int (V'/b:Nat)) (by rw [<-i3];exact aw (aa (v:= .list (QD.reverse.map .int)) rfl (aa (v:= .int n) rfl bZ)) (h6 _ hq λq hq=>i5 q (M2.mp hq))) rfl]
  rfl
 rw [a7 s7];exact ao (aH (aD (aa (v:= .int (V'/b:Nat)) rfl (aa (v:= .int (V' % b:Nat)) rfl bZ)) rfl))
end
noncomputable def F5 (args:List PV):Option PV:=fII (λa n=>giv (0<=a/\0<n/\n<=500000/\FC a<=500000) (.list ((digs n.toNat (kOf a.toNat n.toNat) a.toNat).map .int))) args
noncomputable def F6 (args:List PV):Option PV:=a2 (λx y=>oL (λxs=>oI (λn=>(dP xs).bind λds=>giv ((∀d∈ds,FC d<=500000)/\0<=n/\n<=500000/\ds.length<=500000/\n*ds.length<=2000000) (.int (hsum n.toNat ds))) y) x) args
noncomputable def F7 (args:List PV):Option PV:=fII (λa b=>giv (0<=a/\0<b/\FC a<=500000/\FC b<=500000) (bz a.toNat b.toNat)) args
noncomputable def cq (a b:Int):PV:= .tuple [.int (a.fdiv b),.int (a.fmod b)]
noncomputable def F8 (args:List PV):Option PV:=fII (λa b=>giv (b≠0/\FC a<=500000/\FC b<=500000) (cq a b)) args
theorem fH (xs:List Int):dP (xs.map .int)=Fv xs:=by
 induction xs with
 |nil=>rfl
 |cons x xs ih=>exact congrArg (Kj (x::·)) ih
theorem y4: ∀{l:List Int},dP xs=Fv l->xs=l.map .int:=by
 induction xs with
 |nil=>exact λh=>FG h▸rfl
 |cons x xs ih=>
  cases x with
  |int i=>exact λh=>aM (P:=λl=>PV.int i::xs=l.map .int) h λl hl=>congrArg (PV.int i::·) (ih hl)
  |_=>exact λh=>a9 h
theorem tW (h1:0<n) (h2:n<=500000) (h3:FC a<=500000):F5 [.int a,.int n]=Fv (.list ((digs n (kOf a n) a).map .int)):=
 eE ⟨Gd _,Int.natCast_pos.mpr h1,JW.mpr h2,h3⟩
theorem B1 (h1: ∀d∈ds,FC d<=500000) (h2:n<=500000) (h3:ds.length<=500000) (h4:n*ds.length<=2000000):F6 [.list (ds.map .int),.int n]=Fv (.int (hsum n ds)):=
 aD (fH ds) (eE ⟨h1,Gd _,JW.mpr h2,h3,JW.mpr h4⟩)
theorem rQ (hn:0<n):kOf a n<=FC a/\n*kOf a n<=FC a+n:=by
 unfold kOf;haveI h1:n*((FC a+n-1)/n)<=FC a+n-1:=Nat.mul_div_le _ _;refine⟨?_,by exact Fx h1 (Lb _ _)⟩
 rw [Nat.div_le_iff_le_mul_add_pred hn];exact aKl hn (Nat.le_mul_of_pos_left _ hn)
section
variable {f5 f6 f7 f8:Gb} {o5 o6 o7 o8:N1} {fd5 fd6 U3 U2:J8} {Q_ QZ:List Hs}
noncomputable def n7N:List Gj:=["a","b","n","a_digits","r","q_digits","a_digit","q_digit","q"]
noncomputable def h7:Gj->Nat:=λx=>if x== "q_digits" then 9 else if x== "q" then 2 else 0
theorem Dz (GO:an C Γ) (Rn:Γ.gv 0=Fv (.int 4000)) (X2:kj C "_div2n1n" 3 f2 o2 R7) (X3:kj C "_div3n2n" 4 f3 o3 Rw) (X5:kj C "_int2digits" 5 f5 o5 fd5) (X6:kj C "_digits2int" 6 f6 o6 fd6)
  (D2:bX C f2 o2 R7 PG ["a","b","n"] n2N) (D3:bX C f3 o3 Rw PF ["a12","a3","b","b1","b2","n"] n3N) (D7:bX C f7 o7 U3 Q_ ["a","b"] n7N)
  (S2:sSs C.gl n2N h0 R7.scope.names 40 PG=nB) (S3:sSs C.gl n3N h0 Rw.scope.names 40 PF=pC) (S7:sSs C.gl n7N h7 U3.scope.names 40 Q_=rz)
  (P5: ∀args r,F5 args=Fv r->ah C.prog C.w C.H (C.d+1) f5 args r) (P6: ∀args r,F6 args=Fv r->ah C.prog C.w C.H (C.d+1) f6 args r):
  ∀args r,F7 args=Fv r->ah C.prog C.w C.H (C.d+20) f7 args r:=by
 intro args r hr;refine iP (Q:=λargs=>ah C.prog C.w C.H (C.d+20) f7 args r) hr λa b hr=>bc (P:=λr=>ah C.prog C.w C.H (C.d+20) f7 [.int a,.int b] r) hr fun⟨h1,h2,h3,h4⟩=> ?_;obtain⟨a,rfl⟩:=HC h1;obtain⟨b,rfl⟩:=HC (I3 h2);have Ql:0<b:=by exact aZp h2
 simp only [GC];haveI G1:an (C.at (C.d+19)) (Γ.put 3 (F2 9)):=(GO.at (d:=C.d+19) (by exact FZ _ _)).put (C:=C.at (C.d+19)) ⟨X2.only,X2.loads,X2.ho,X2.hd⟩ λargs r hr=>by obtain⟨a,b,n,rfl,hb,rfl⟩:=wP hr;exact je GO Rn X2 X3 D2 D3 S2 S3 9 a b n hb
 haveI G2:an (C.at (C.d+19)) ((Γ.put 3 (F2 9)).put 5 F5):=G1.put (C:=C.at (C.d+19)) ⟨X5.only,X5.loads,X5.ho,X5.hd⟩ λargs r hr=>(P5 args r hr).mono (by show C.d+1<=C.d+19;exact G_ (by decide) _)
 haveI G3:an (C.at (C.d+19)) (((Γ.put 3 (F2 9)).put 5 F5).put 6 F6):=G2.put (C:=C.at (C.d+19)) ⟨X6.only,X6.loads,X6.ho,X6.hd⟩ λargs r hr=>(P6 args r hr).mono (by show C.d+1<=C.d+19;exact G_ (by decide) _)
 have hS:=(db (Og:=n7N) G3 h7 U3.scope.names 40).2 Q_;rw [show sSs (C.at (C.d+19)).gl n7N h7 U3.scope.names 40 Q_=rz from S7]at hS;refine dK (C:=C.at (C.d+19)) (D7.at _) GO.sy hS ?_;haveI e:(["a","b"]:List Gj).map n7N.idxOf=[0,1]:=by decide
 rw [e];haveI Pq:b<2^FC b:=oE b;have Tq:0<FC b:=by rw [gW Ql];exact JT _
 haveI hb:2^(FC b-1)<=b:=by rw [gW Ql,LM];exact Nat.log2_self_le (by lia)
 obtain⟨k1,k2⟩:=rQ (a:=a) Tq;refine A9 (K:=kOf a (FC b)) rfl Ql (by exact Fx h4 (by decide)) (by exact FF k1 (FF h3 (by decide))) (rP Tq) ?_ (λa' PW=> ?_) λqs hq hq2=> ?_
 ·exact tW Tq h4 h3
 ·exact B2 ⟨Tq,by exact Fx h4 (by decide),by exact Fx h4 (by decide),hb,Pq,PW⟩
 ·refine B1 (λd hd=> ?_) h4 (by exact Fx (FI hq) (Fx k1 h3)) (by rw [hq];exact Fx (Fx k2 (FM h3 h4)) (by decide))
  obtain⟨g1,g2⟩:=hq2 d hd;refine Fx ((HD (m:=FC b)).mpr ?_) h4;haveI:((2^FC b:Nat):Int)=(2:Int)^FC b:=by simp
  exact aPn g1 g2
noncomputable def rq:List PS:=[.ite (.cmp .Eq (.var 1) (.cI 0)) [.bad] [.ite (.cmp .Lt (.var 1) (.cI 0)) [.setT [2,3] 0 (.call 8 [(.neg (.var 0)),(.neg (.var 1))]),.ret (.tup [(.var 2),(.neg (.var 3))])] [.ite (.cmp .Lt (.var 0) (.cI 0)) [.setT [2,3] 0 (.call 8 [(.inv (.var 0)),(.var 1)]),.ret (.tup [(.inv (.var 2)),(.bin .Add (.var 1) (.inv (.var 3)))])] [.ret (.call 7 [(.var 0),(.var 1)])]]]]
noncomputable def n8N:List Gj:=["a","b","q","r"]
theorem zT {a b:Int} (hb:b≠0) (hp:0<=a->0<b->Γ.fn 7 [.int a,.int b]=Fv (cq a b)) (hn:a<0->0<b->Γ.fn 8 [.int (-a-1),.int b]=Fv (cq (-a-1) b)) (W4:b<0->Γ.fn 8 [.int (-a),.int (-b)]=Fv (cq (-a) (-b))):
  aG Γ 4 [0,1] rq [.int a,.int b]=Fv (cq a b):=by
 haveI hρ:a_ (Gc 4 Fw) [0,1] [.int a,.int b]=Fv [Fv (.int a),Fv (.int b),Fw,Fw]:=rfl;unfold aG;rw [hρ]
 suffices hs:ag Γ rq [Fv (.int a),Fv (.int b),Fw,Fw] []=Fv (.ret (cq a b))by simp only [Hp,HS,hs]
 unfold rq;have t1:bt Γ (.cmp .Eq (.var 1) (.cI 0)) [Fv (.int a),Fv (.int b),Fw,Fw]=Fv (b==0):=rfl;haveI QS:(b==0)=Fz:=by rw [beq_eq_false_iff_ne];exact hb
 rw [QS]at t1;refine ao (am t1 ?_);rw [if_neg (by decide)]
 haveI t2:bt Γ (.cmp .Lt (.var 1) (.cI 0)) [Fv (.int a),Fv (.int b),Fw,Fw]=Fv (decide (b<0)):=rfl;refine ao (am t2 ?_);by_cases c1:b<0
 ·rw [decide_eq_true c1,if_pos rfl]
  rw [a7 (e7 (aw (aa (v:= .int (-a)) rfl (aa (v:= .int (-b)) rfl bZ)) (W4 c1)) rfl)];refine ao (aH ?_);show Fv (PV.tuple [.int ((-a).fdiv (-b)),.int (-((-a).fmod (-b)))])=_;unfold cq;rw [Int.neg_fdiv_neg,Int.neg_fmod_neg,Int.neg_neg]
 ·rw [decide_eq_false c1,if_neg (by decide)]
  have So:0<b:=by lia
  haveI t3:bt Γ (.cmp .Lt (.var 0) (.cI 0)) [Fv (.int a),Fv (.int b),Fw,Fw]=Fv (decide (a<0)):=rfl;refine ao (am t3 ?_);by_cases c2:a<0
  ·rw [decide_eq_true c2,if_pos rfl]
   rw [a7 (e7 (aw (aa (v:= .int (-a-1)) rfl (aa (v:= .int b) rfl bZ)) (hn c2 So)) rfl)];refine ao (aH ?_);show Fv (PV.tuple [.int (-((-a-1).fdiv b)-1),.int (b+(-((-a-1).fmod b)-1))])=_;unfold cq;rw [Hi _ (I3 So),IF _ (I3 So),Hi _ (I3 So),IF _ (I3 So)];haveI e1:=Int.mul_ediv_add_emod (-a-1) b;haveI e2:=Int.emod_nonneg (-a-1) (show b≠0 by lia)
   haveI e3:=Int.emod_lt_of_pos (-a-1) So;haveI key:a=b*(-((-a-1)/b)-1)+(b+(-((-a-1) % b)-1)):=by rw [Int.mul_sub,Int.mul_neg,NT];lia
   obtain⟨k1,k2⟩:=(Int.ediv_emod_unique (a:=a) (q:= -((-a-1)/b)-1) (r:=b+(-((-a-1) % b)-1)) So).mpr ⟨by lia,by lia,by lia⟩
   rw [k1,k2]
  ·rw [decide_eq_false c2,if_neg (by decide)]
   exact ao (aH (aw (aa (v:= .int a) rfl (aa (v:= .int b) rfl bZ)) (hp (by lia) So)))
theorem Ab:bz a b=cq a b:=by unfold bz cq;rw [Hi _ (Gd _),IF _ (Gd _)];simp
theorem Dy (GO:an C Γ) (X7:kj C "_divmod_pos" 7 f7 o7 U3) (X8:kj C "int_divmod" 8 f8 o8 U2) (D8:bX C f8 o8 U2 QZ ["a","b"] n8N) (S8:sSs C.gl n8N h0 U2.scope.names 40 QZ=rq)
 (hd:C.d<=d) (P7: ∀args r,F7 args=Fv r->ah C.prog C.w C.H d f7 args r): ∀args r,F8 args=Fv r->ah C.prog C.w C.H (d+3) f8 args r:=by
 have step: ∀(d':Nat) (Γ':Gam) (a b:Int),C.d<=d'->an (C.at d') Γ'->b≠0->(0<=a->0<b->Γ'.fn 7 [.int a,.int b]=Fv (cq a b))->(a<0->0<b->Γ'.fn 8 [.int (-a-1),.int b]=Fv (cq (-a-1) b))->
   (b<0->Γ'.fn 8 [.int (-a),.int (-b)]=Fv (cq (-a) (-b)))->ah C.prog C.w C.H (d'+1) f8 [.int a,.int b] (cq a b):=λd' Γ' a b Pk G hb hp hn W4=>by
  have hS:=(db (Og:=n8N) G h0 U2.scope.names 40).2 QZ;rw [show sSs (C.at d').gl n8N h0 U2.scope.names 40 QZ=rq from S8]at hS;refine dK (C:=C.at d') (D8.at _) GO.sy hS ?_;haveI e:(["a","b"]:List Gj).map n8N.idxOf=[0,1]:=by decide
  rw [e];exact zT hb hp hn W4
 have G7: ∀d',d<=d'->an (C.at d') (Γ.put 7 F7):=λd' h=>(GO.at (d:=d') (by exact Fx hd h)).put (C:=C.at d') ⟨X7.only,X7.loads,X7.ho,X7.hd⟩ λargs r hr=>(P7 args r hr).mono h
 have Tc: ∀{a b:Int},0<=a->0<b->FC a<=500000->FC b<=500000->F7 [.int a,.int b]=Fv (cq a b):=λ{a b} h1 h2 h3 h4=>by haveI:F7 [.int a,.int b]=Fv (bz a.toNat b.toNat):=eE ⟨h1,h2,h3,h4⟩;rw [this,Ab,IZ h1,IZ (I3 h2)]
 --OV not negative
 haveI A: ∀a b:Int,0<=a->0<b->FC a<=500000->FC b<=500000->ah C.prog C.w C.H (d+1) f8 [.int a,.int b] (cq a b):=λa b h1 h2 h3 h4=>
  step d _ a b hd (G7 d (FH _)) (by lia) (λ_ _=>Tc h1 h2 h3 h4) (λh=>by lia) λh=>by lia
 let FA:List PV->Option PV:=λargs=>fII (λa b=>giv (0<=a/\0<b/\FC a<=500000/\FC b<=500000) (cq a b)) args;haveI GA:an (C.at (d+1)) ((Γ.put 7 F7).put 8 FA):=(G7 (d+1) (by exact FZ _ _)).put (C:=C.at (d+1)) ⟨X8.only,X8.loads,X8.ho,X8.hd⟩ λargs r hr=>
  iP (Q:=λargs=>ah C.prog C.w C.H (d+1) f8 args r) hr λa b hr=>bc (P:=ah C.prog C.w C.H (d+1) f8 [.int a,.int b]) hr λhc=>A _ _ hc.1 hc.2.1 hc.2.2.1 hc.2.2.2
 have Up: ∀{a:Int},FC a<=500000->a<0->FC (-a-1)<=500000:=λ{a} h hn=>PySem.intBits_le_of_natAbs (by exact Fj hn) h
 haveI B: ∀a b:Int,0<b->FC a<=500000->FC b<=500000->ah C.prog C.w C.H (d+2) f8 [.int a,.int b] (cq a b):=λa b h2 h3 h4=>
  step (d+1) _ a b (by exact Gi hd) GA (by lia) (λh1 _=>Tc h1 h2 h3 h4) (λh _=>if_pos ⟨by lia,h2,Up h3 h,h4⟩) λh=>by lia
 let FB:List PV->Option PV:=λargs=>fII (λa b=>giv (0<b/\FC a<=500000/\FC b<=500000) (cq a b)) args;haveI GB:an (C.at (d+2)) ((Γ.put 7 F7).put 8 FB):=(G7 (d+2) (by exact FZ _ _)).put (C:=C.at (d+2)) ⟨X8.only,X8.loads,X8.ho,X8.hd⟩ λargs r hr=>
  iP (Q:=λargs=>ah C.prog C.w C.H (d+2) f8 args r) hr λa b hr=>bc (P:=ah C.prog C.w C.H (d+2) f8 [.int a,.int b]) hr λhc=>B _ _ hc.1 hc.2.1 hc.2.2
 exact λargs r hr=>iP (Q:=λargs=>ah C.prog C.w C.H (d+3) f8 args r) hr λa b hr=>bc (P:=ah C.prog C.w C.H (d+3) f8 [.int a,.int b]) hr λhc=>
  step (d+2) _ a b (by exact Gi hd) GB hc.1 (λh1 h2=>Tc h1 h2 hc.2.1 hc.2.2) (λh h2=>if_pos ⟨h2,Up hc.2.1 h,hc.2.2⟩) λh=>eE ⟨by exact Int.neg_pos_of_neg h,Lm hc.2.1,Lm hc.2.2⟩
end
end UK
namespace UK
open PySem
noncomputable def it:Nat->KO->KO
 |0,m=>m
 |n+1,m=>it n m.step
theorem nS (a b:Nat) (m:KO):it (a+b) m=it b (it a m):=by
 induction a generalizing m with
 |zero=>rw [HJ];rfl
 |succ a ih=>rw [LW];exact ih m.step
theorem pV {m:KO} (h:m.outcome.isSome=FE):m.step=m:=by unfold Sre.M.step;rw [if_pos h]
theorem ww {m:KO} (h:m.outcome.isSome=FE) (n:Nat):it n m=m:=by
 induction n with
 |zero=>rfl
 |succ n ih=>rw [it,pV h,ih]
set_option tactic.hygienic true in
theorem v3 (n:Nat) (m:KO):m.runFor n=it n m:=by
 induction n generalizing m with
 |zero=>rfl
 |succ n ih=>
  rw [Sre.M.runFor,it];split
  ·rename_i h
   rw [pV h,ww h]
  ·exact ih _
theorem w6 {m:KO} {a b:Nat} (h:(it a m).outcome.isSome=FE) (hb:a<=b):it b m=it a m:=by obtain⟨c,rfl⟩:=Nat.exists_eq_add_of_le hb;rw [nS,ww h]
noncomputable def P1:Array Nat:= #[14,4,0,1,1,6,1,16,46,1]
noncomputable def P2:Array Nat:= #[14,9,4,1,2,16,10,16,13,0,7,7,16,13,16,10,15,18,5,16,10,15,13,11,16,13,5,5,0,16,10,1,15,2,0,1]
noncomputable def ms (code t:Array Nat) (last start:Nat) (pc pos handed:Nat) (o:Bool) (fr:List Kp) (wt:Nat) (Vy:Option Bool) (seen:HG):KO:=
 {code,text:=t,lim:=t.size,start,lastStart:=last,pc,pos,handed,outermost:=o,marks:= #[],frames:=fr,weight:=wt,answer:=Vy,seen}
variable {t:Array Nat} {last start s pc pos handed wt:Nat} {o:Bool} {fr:List Kp} {Vy:Option Bool} {seen:HG}
noncomputable def rf0 (s:Nat) (o:Bool):Kp:={wait:= .nextStart,pc:=5,pos:=s,outermost:=o}
noncomputable def bol (t:Array Nat) (s:Nat):Bool:=s==0||t.getD (s-1) 0==10
theorem we:(ms P1 t last start 5 pos handed o fr wt Fw seen).step=
  if bol t pos=FE then ms P1 t last start 7 pos handed o fr wt Fw ((seen.add 6).add 44)else ms P1 t last start 5 pos handed o fr wt (Fv Fz) ((seen.add 6).add 44):=rfl
theorem wM:(ms P1 t last start 7 pos handed o fr wt Fw seen).step=
  if pos>=t.size then ms P1 t last start 7 pos handed o fr wt (Fv Fz) (seen.add 16)else
   if(t.getD pos 0==46)=FE then ms P1 t last start 9 (pos+1) handed o fr wt Fw (seen.add 16)else ms P1 t last start 7 pos handed o fr wt (Fv Fz) (seen.add 16):=by
 show(if pos>=t.size then _ else _)=_;split
 ·rfl
 ·show(match(KH (t.getD pos 0==46,seen.add 16):Except String (Bool×HG))with| .error why=>_| .ok (Fz,seen)=>_| .ok (FE,seen)=>_)=_
  cases h:t.getD pos 0==46<;>rfl
theorem CM:(ms P1 t last start 9 pos handed o fr wt Fw seen).step=ms P1 t last start 9 pos pos o fr wt (Fv FE) (seen.add 1):=by cases o<;>rfl
variable {code:Array Nat}
theorem DF:(ms code t last start pc pos handed o [rf0 s o'] 1 (Fv FE) seen).step=ms code t last start 5 s handed o' [] 0 (Fv FE) seen:=rfl
theorem w2:(ms P1 t last start pc pos handed o [rf0 s o'] 1 (Fv Fz) seen).step=
  if s<last then ms P1 t last (s+1) 5 (s+1) (s+1) Fz [rf0 (s+1) Fz] 1 Fw seen else ms P1 t last start 5 s handed o' [] 0 (Fv Fz) seen:=rfl
theorem done_step (b:Bool):(ms code t last start pc pos handed o [] wt (Fv b) seen).step={ms code t last start pc pos handed o [] wt (Fv b) seen with outcome:=Fv (if b then .matched else .failed)}:=rfl
end UK
namespace UK
open PySem
noncomputable def find (Ou:Nat->Option Nat):Nat->Nat->Option (Nat×Nat)
 |0,s=>(Ou s).map (s,·)
 |k+1,s=>match Ou s with
  |some e=>Fv (s,e)
  |none=>find Ou k (s+1)
variable {Ou:Nat->Option Nat} {s:Nat}
theorem il:find Ou 0 s=(Ou s).map λe=>(s,e):=rfl
theorem jl {k:Nat}:find Ou (k+1) s=(match Ou s with
  |some e=>Fv (s,e)
  |none=>find Ou k (s+1)):=rfl
noncomputable def Res (m:KO):Option (Nat×Nat)->Prop
 |some (b,e)=>m.outcome=Fv .matched/\m.start=b/\m.handed=e
 |none=>m.outcome=Fv .failed
theorem Res.some' {m:KO} {r} (h:Res m r):m.outcome.isSome=FE:=by
 cases r with
 |none=>rw [show m.outcome=_ from h];rfl
 |some p=>rw [show m.outcome=_ from h.1];rfl
variable {t:Array Nat} {last start pc pos handed wt:Nat} {o o':Bool} {fr:List Kp} {Vy:Option Bool} {seen:HG}
theorem it_one {m:KO} (n:Nat):it (n+1) m=it n m.step:=rfl
noncomputable def fO (t:Array Nat) (s:Nat):Option Nat:=if bol t s=FE/\s<t.size/\t.getD s 0=46 then Fv (s+1)else Fw
set_option tactic.hygienic true in
theorem pR (h:fO t s=Fv e):Res (it 5 (ms P1 t last s 5 s s o [rf0 s o] 1 Fw seen)) (Fv (s,e)):=by
 unfold fO at h;split at h
 ·rename_i hc
  cases h;rw [it_one,we,if_pos hc.1,it_one,wM,if_neg (by exact Hq hc.2.1),if_pos (by simp [hc.2.2]),it_one,CM,it_one,DF,it_one,done_step]
  exact⟨rfl,rfl,rfl⟩
 ·cases h
set_option tactic.hygienic true in
theorem u9 (h:fO t s=Fw): ∃n Qq,n<=3/\it n (ms P1 t last s 5 s s o [rf0 s o] 1 Fw seen)=
  if s<last then ms P1 t last (s+1) 5 (s+1) (s+1) Fz [rf0 (s+1) Fz] 1 Fw Qq else ms P1 t last s 5 s s o [] 0 (Fv Fz) Qq:=by
 unfold fO at h;split at h
 ·cases h
 ·rename_i hc
  by_cases hb:bol t s=FE
  ·refine⟨3,((seen.add 6).add 44).add 16,FH _, ?_⟩
   rw [it_one,we,if_pos hb,it_one,wM];by_cases hs:s>=t.size
   ·rw [if_pos hs,it_one,w2];rfl
   ·rw [if_neg hs,if_neg (by simp only [beq_iff_eq];exact λe=>hc ⟨hb,by exact Js hs,e⟩),it_one,w2];rfl
  ·refine⟨2,(seen.add 6).add 44,by decide, ?_⟩
   rw [it_one,we,if_neg hb,it_one,w2];rfl
theorem uc: ∀k s o seen,s+k=t.size-> ∃n,n<=3*k+5/\Res (it n (ms P1 t t.size s 5 s s o [rf0 s o] 1 Fw seen)) (find (fO t) k s)
 |0,s,o,seen,h=>by
  cases hh:fO t s with
  |some e=>exact⟨5,by decide,by rw [il,hh];exact pR hh⟩
  |none=>
   obtain⟨n,Qq,hn,e⟩:=u9 (last:=t.size) (o:=o) (seen:=seen) hh;refine⟨n+1,by exact Gw (Fx hn (by decide)), ?_⟩
   rw [nS,e,if_neg (by exact Ix (FI (Ha h))),it_one,done_step,il,hh]
   rfl
 |k+1,s,o,seen,h=>by
  cases hh:fO t s with
  |some e=>exact⟨5,by exact H5 _ _,by rw [jl,hh];exact pR hh⟩
  |none=>
   obtain⟨n,Qq,hn,e⟩:=u9 (last:=t.size) (o:=o) (seen:=seen) hh;obtain⟨n',Q1,r⟩:=uc k (s+1) Fz Qq (by exact N5 (Gh _ _ _) h)
   refine⟨n+n',by lia, ?_⟩
   rw [nS,e,if_pos (by exact Fy (GW (FZ _ _)) (FI h)),jl,hh]
   exact r
theorem tn (s:Nat) (h:s<=t.size): ∃n,n<=3*t.size+5/\Res (it n (K5 P1 t 0 s t.size Fz)) (find (fO t) (t.size-s) s):=by
 by_cases hs:s=t.size
 ·refine⟨1,by exact H5 _ _, ?_⟩
  have e:K5 P1 t 0 s t.size Fz=if s>t.size∨t.size-s<1 then ms P1 t 0 s 5 s s FE [] 0 (Fv Fz) (({}:HG).add 14)else(Kv (ms P1 t t.size s 5 s s FE [] 0 Fw (({}:HG).add 14)) s FE):=by
   show(if(decide (s>t.size)||decide (t.size-s<1))=FE then _ else _)=_;by_cases hc:s>t.size∨t.size-s<1
   ·rw [if_pos hc,if_pos (by simpa using hc)];rfl
   ·rw [if_neg hc,if_neg (by simpa using hc)];rfl
  have hn:fO t s=Fw:=by unfold fO;exact if_neg (by lia)
  rw [e,if_pos (by exact Or.inr (IL h (FF (FI (Ha hs)) (Gx _)))),it_one,done_step,show t.size-s=0 by exact Je (FI (Ha hs)),il,hn]
  rfl
 ·have e:K5 P1 t 0 s t.size Fz=if s>t.size∨t.size-s<1 then ms P1 t 0 s 5 s s FE [] 0 (Fv Fz) (({}:HG).add 14)else(Kv (ms P1 t t.size s 5 s s FE [] 0 Fw (({}:HG).add 14)) s FE):=by
   show(if(decide (s>t.size)||decide (t.size-s<1))=FE then _ else _)=_;by_cases hc:s>t.size∨t.size-s<1
   ·rw [if_pos hc,if_pos (by simpa using hc)];rfl
   ·rw [if_neg hc,if_neg (by simpa using hc)];rfl
  obtain⟨n,hn,r⟩:=uc (t:=t) (t.size-s) s FE (({}:HG).add 14) (by exact Gz h)
  refine⟨n,by exact aS5 hn, ?_⟩
  rw [e,if_neg (aNo h hs)];exact r
end UK
namespace UK
open PySem
variable {t:Array Nat} {last start s pc pos handed wt:Nat} {o o':Bool} {fr:List Kp} {Vy:Option Bool} {seen:HG}
noncomputable def rg0 (s:Nat) (o:Bool):Kp:={wait:= .nextStart,pc:=10,pos:=s,outermost:=o}
noncomputable def rgk:Sre.Kept:={lastmark:= -1,lastindex:= -1,whole:=Fz,marks:= #[]}
noncomputable def rgb (s pc:Nat) (o:Bool):Kp:={wait:= .nextBranch,pc,pos:=s,outermost:=o,kept:=rgk}
noncomputable def rgn (s:Nat) (o:Bool):Kp:={wait:= .lookNot,pc:=26,pos:=s,outermost:=o,kept:=rgk}
theorem lN:(ms P2 t last start 10 pos handed o fr 1 Fw seen).step=ms P2 t last start 12 pos pos o (rgb pos 11 o::fr) 2 Fw (seen.add 7):=rfl
theorem En:(ms P2 t last start 12 pos handed o fr wt Fw seen).step=
  if pos>=t.size then ms P2 t last start 12 pos handed o fr wt (Fv Fz) (seen.add 16)else
   if(t.getD pos 0==13)=FE then ms P2 t last start 14 (pos+1) handed o fr wt Fw (seen.add 16)else ms P2 t last start 12 pos handed o fr wt (Fv Fz) (seen.add 16):=by
 show(if pos>=t.size then _ else _)=_;split
 ·rfl
 ·show(match(KH (t.getD pos 0==13,seen.add 16):Except String (Bool×HG))with| .error why=>_| .ok (Fz,seen)=>_| .ok (FE,seen)=>_)=_
  cases h:t.getD pos 0==13<;>rfl
theorem Bf:(ms P2 t last start 12 pos handed o fr wt Fw seen).step=
  if pos>=t.size then ms P2 t last start 12 pos handed o fr wt (Fv Fz) (seen.add 16)else
   if t.getD pos 0=13 then ms P2 t last start 14 (pos+1) handed o fr wt Fw (seen.add 16)else ms P2 t last start 12 pos handed o fr wt (Fv Fz) (seen.add 16):=by
 rw [En];simp only [beq_iff_eq]
theorem El:(ms P2 t last start 14 pos handed o fr wt Fw seen).step=
  if pos>=t.size then ms P2 t last start 14 pos handed o fr wt (Fv Fz) (seen.add 16)else
   if(t.getD pos 0==10)=FE then ms P2 t last start 16 (pos+1) handed o fr wt Fw (seen.add 16)else ms P2 t last start 14 pos handed o fr wt (Fv Fz) (seen.add 16):=by
 show(if pos>=t.size then _ else _)=_;split
 ·rfl
 ·show(match(KH (t.getD pos 0==10,seen.add 16):Except String (Bool×HG))with| .error why=>_| .ok (Fz,seen)=>_| .ok (FE,seen)=>_)=_
  cases h:t.getD pos 0==10<;>rfl
theorem Dl:(ms P2 t last start 14 pos handed o fr wt Fw seen).step=
  if pos>=t.size then ms P2 t last start 14 pos handed o fr wt (Fv Fz) (seen.add 16)else
   if t.getD pos 0=10 then ms P2 t last start 16 (pos+1) handed o fr wt Fw (seen.add 16)else ms P2 t last start 14 pos handed o fr wt (Fv Fz) (seen.add 16):=by
 rw [El];simp only [beq_iff_eq]
theorem Ek:(ms P2 t last start 19 pos handed o fr wt Fw seen).step=
  if pos>=t.size then ms P2 t last start 19 pos handed o fr wt (Fv Fz) (seen.add 16)else
   if(t.getD pos 0==10)=FE then ms P2 t last start 21 (pos+1) handed o fr wt Fw (seen.add 16)else ms P2 t last start 19 pos handed o fr wt (Fv Fz) (seen.add 16):=by
 show(if pos>=t.size then _ else _)=_;split
 ·rfl
 ·show(match(KH (t.getD pos 0==10,seen.add 16):Except String (Bool×HG))with| .error why=>_| .ok (Fz,seen)=>_| .ok (FE,seen)=>_)=_
  cases h:t.getD pos 0==10<;>rfl
theorem Dk:(ms P2 t last start 19 pos handed o fr wt Fw seen).step=
  if pos>=t.size then ms P2 t last start 19 pos handed o fr wt (Fv Fz) (seen.add 16)else
   if t.getD pos 0=10 then ms P2 t last start 21 (pos+1) handed o fr wt Fw (seen.add 16)else ms P2 t last start 19 pos handed o fr wt (Fv Fz) (seen.add 16):=by
 rw [Ek];simp only [beq_iff_eq]
theorem Ej:(ms P2 t last start 24 pos handed o fr wt Fw seen).step=
  if pos>=t.size then ms P2 t last start 24 pos handed o fr wt (Fv Fz) (seen.add 16)else
   if(t.getD pos 0==13)=FE then ms P2 t last start 26 (pos+1) handed o fr wt Fw (seen.add 16)else ms P2 t last start 24 pos handed o fr wt (Fv Fz) (seen.add 16):=by
 show(if pos>=t.size then _ else _)=_;split
 ·rfl
 ·show(match(KH (t.getD pos 0==13,seen.add 16):Except String (Bool×HG))with| .error why=>_| .ok (Fz,seen)=>_| .ok (FE,seen)=>_)=_
  cases h:t.getD pos 0==13<;>rfl
theorem E':(ms P2 t last start 24 pos handed o fr wt Fw seen).step=
  if pos>=t.size then ms P2 t last start 24 pos handed o fr wt (Fv Fz) (seen.add 16)else
   if t.getD pos 0=13 then ms P2 t last start 26 (pos+1) handed o fr wt Fw (seen.add 16)else ms P2 t last start 24 pos handed o fr wt (Fv Fz) (seen.add 16):=by
 rw [Ej];simp only [beq_iff_eq]
theorem Ei:(ms P2 t last start 29 pos handed o fr wt Fw seen).step=
  if pos>=t.size then ms P2 t last start 29 pos handed o fr wt (Fv Fz) (seen.add 16)else
   if(t.getD pos 0==10)=FE then ms P2 t last start 31 (pos+1) handed o fr wt Fw (seen.add 16)else ms P2 t last start 29 pos handed o fr wt (Fv Fz) (seen.add 16):=by
 show(if pos>=t.size then _ else _)=_;split
 ·rfl
 ·show(match(KH (t.getD pos 0==10,seen.add 16):Except String (Bool×HG))with| .error why=>_| .ok (Fz,seen)=>_| .ok (FE,seen)=>_)=_
  cases h:t.getD pos 0==10<;>rfl
theorem EZ:(ms P2 t last start 29 pos handed o fr wt Fw seen).step=
  if pos>=t.size then ms P2 t last start 29 pos handed o fr wt (Fv Fz) (seen.add 16)else
   if t.getD pos 0=10 then ms P2 t last start 31 (pos+1) handed o fr wt Fw (seen.add 16)else ms P2 t last start 29 pos handed o fr wt (Fv Fz) (seen.add 16):=by
 rw [Ei];simp only [beq_iff_eq]
theorem F4:(ms P2 t last start 16 pos handed o fr wt Fw seen).step=ms P2 t last start 35 pos handed o fr wt Fw (seen.add 15):=rfl
theorem F0:(ms P2 t last start 21 pos handed o fr wt Fw seen).step=ms P2 t last start 35 pos handed o fr wt Fw (seen.add 15):=rfl
theorem EY:(ms P2 t last start 32 pos handed o fr wt Fw seen).step=ms P2 t last start 35 pos handed o fr wt Fw (seen.add 15):=rfl
theorem E_:(ms P2 t last start 26 pos handed o fr 2 Fw seen).step=ms P2 t last start 29 pos pos Fz (rgn pos o::fr) 3 Fw (seen.add 5):=rfl
theorem Be:(ms P2 t last start 35 pos handed o fr wt Fw seen).step=ms P2 t last start 35 pos pos o fr wt (Fv FE) (seen.add 1):=by cases o<;>rfl
theorem rH:(ms P2 t last start pc pos handed o (rgb s k o'::fr) 2 (Fv FE) seen).step=ms P2 t last start k s handed o' fr 1 (Fv FE) seen:=rfl
theorem AD:(ms P2 t last start pc pos handed o (rgb s 11 o'::fr) 2 (Fv Fz) seen).step=ms P2 t last start 19 s s o' (rgb s 18 o'::fr) 2 Fw seen:=rfl
theorem DE:(ms P2 t last start pc pos handed o (rgb s 18 o'::fr) 2 (Fv Fz) seen).step=ms P2 t last start 24 s s o' (rgb s 23 o'::fr) 2 Fw seen:=rfl
theorem DC:(ms P2 t last start pc pos handed o (rgn s o'::fr) 3 (Fv Fz) seen).step=ms P2 t last start 32 s handed o' fr 2 Fw seen:=rfl
theorem rI:(ms P2 t last start pc pos handed o [rg0 s o'] 1 (Fv FE) seen).step=ms P2 t last start 10 s handed o' [] 0 (Fv FE) seen:=rfl
noncomputable def hit2 (t:Array Nat) (s:Nat):Option Nat:=
 if s<t.size then(if t.getD s 0=13 then(if s+1<t.size/\t.getD (s+1) 0=10 then Fv (s+2)else Fv (s+1))else if t.getD s 0=10 then Fv (s+1)else Fw)else Fw
theorem ED (h:hit2 t s=Fv e): ∃n,n<=15/\Res (it n (ms P2 t last s 10 s s o [rg0 s o] 1 Fw seen)) (Fv (s,e)):=by
 unfold hit2 at h;by_cases hs:s<t.size
 ·rw [if_pos hs]at h
  by_cases hc:t.getD s 0=13
  ·rw [if_pos hc]at h
   by_cases Pa:s+1<t.size/\t.getD (s+1) 0=10
   ·rw [if_pos Pa]at h
    cases h;refine⟨8,by decide, ?_⟩
    rw [it_one,lN,it_one,Bf,if_neg (by exact Hq hs),if_pos hc,it_one,Dl,if_neg (by exact Hq Pa.1),if_pos Pa.2,it_one,F4,it_one,Be,it_one,rH,it_one,rI,it_one,done_step]
    exact⟨rfl,rfl,rfl⟩
   ·rw [if_neg Pa]at h
    cases h;haveI a14: ∀sn hd fr wt,(ms P2 t last s 14 (s+1) hd o fr wt Fw sn).step=ms P2 t last s 14 (s+1) hd o fr wt (Fv Fz) (sn.add 16):=λsn hd fr wt=>by
     rw [Dl];by_cases h1:s+1>=t.size
     ·rw [if_pos h1]
     ·rw [if_neg h1,if_neg λe=>Pa ⟨by exact Js h1,e⟩]
    haveI a29: ∀sn hd fr wt o,(ms P2 t last s 29 (s+1) hd o fr wt Fw sn).step=ms P2 t last s 29 (s+1) hd o fr wt (Fv Fz) (sn.add 16):=λsn hd fr wt o=>by
     rw [EZ];by_cases h1:s+1>=t.size
     ·rw [if_pos h1]
     ·rw [if_neg h1,if_neg λe=>Pa ⟨by exact Js h1,e⟩]
    refine⟨15,by decide, ?_⟩
    rw [it_one,lN,it_one,Bf,if_neg (by exact Hq hs),if_pos hc,it_one,a14,it_one,AD,it_one,Dk,if_neg (by exact Hq hs),if_neg (by exact Lc (Fy (by decide) (FI (Ha hc)))),it_one,DE,it_one,E',if_neg (by exact Hq hs),if_pos hc,it_one,E_,it_one,a29,it_one,DC,it_one,EY,it_one,Be,it_one,rH,it_one,rI,it_one,done_step]
    exact⟨rfl,rfl,rfl⟩
  ·rw [if_neg hc]at h
   by_cases Pa:t.getD s 0=10
   ·rw [if_pos Pa]at h
    cases h;refine⟨9,by decide, ?_⟩
    rw [it_one,lN,it_one,Bf,if_neg (by exact Hq hs),if_neg hc,it_one,AD,it_one,Dk,if_neg (by exact Hq hs),if_pos Pa,it_one,F0,it_one,Be,it_one,rH,it_one,rI,it_one,done_step]
    exact⟨rfl,rfl,rfl⟩
   ·rw [if_neg Pa]at h
    cases h
 ·rw [if_neg hs]at h
  cases h
theorem C6 (c:Nat) (seen:HG): ∃sn,Sre.inSet P2 c 36 5 FE seen= .ok (c==10||c==13,sn):=by
 haveI e:Sre.inSet P2 c 36 5 FE seen=if(c==10)=FE then .ok (FE,seen.add 16)else if(c==13)=FE then .ok (FE,(seen.add 16).add 16)else .ok (Fz,((seen.add 16).add 16).add 0):=rfl;rw [e];cases h:c==10
 ·cases h2:c==13
  ·exact⟨_,rfl⟩
  ·exact⟨_,rfl⟩
 ·exact⟨_,rfl⟩
theorem vH (h:t.getD s 0≠10) (h2:t.getD s 0≠13):hit2 t s=Fw:=by unfold hit2;rw [if_neg h2,if_neg h];exact ite_self _
theorem jC (hs:s<t.size) (h:(t.getD s 0==10||t.getD s 0==13)=FE): ∃e,hit2 t s=Fv e:=by
 unfold hit2;rw [if_pos hs];by_cases hc:t.getD s 0=13
 ·rw [if_pos hc]
  by_cases h3:s+1<t.size/\t.getD (s+1) 0=10
  ·exact⟨_,if_pos h3⟩
  ·exact⟨_,if_neg h3⟩
 ·rw [if_neg hc]
  haveI:t.getD s 0=10:=by
   rcases LB.mp h with e|e
   ·exact beq_iff_eq.mp e
   ·exact absurd (beq_iff_eq.mp e) hc
  exact⟨_,if_pos this⟩
theorem nx {m:KO} (hc:m.code=P2) (ht:m.text=t) (hl:m.lim=t.size): ∀k s seen,s+k=t.size->
  ∃sn,(find (hit2 t) k s=Fw/\m.admitted (k+1) s seen= .ok (Fw,sn))∨(∃b e,find (hit2 t) k s=Fv (b,e)/\hit2 t b=Fv e/\m.admitted (k+1) s seen= .ok (Fv b,sn))
 |0,s,seen,h=>by
  refine⟨seen,.inl ⟨?_, ?_⟩⟩
  ·haveI:hit2 t s=Fw:=by unfold hit2;exact if_neg (by exact Ix (FI (Ha h)))
   rw [il,this];rfl
  ·exact if_pos (by rw [hl];exact FI (Ha h))
 |k+1,s,seen,h=>by
  obtain⟨sn,e⟩:=C6 (t.getD s 0) seen;have e1:m.admitted (k+1+1) s seen=match(KH (t.getD s 0==10||t.getD s 0==13,sn):Except String (Bool×HG))with
   | .ok (FE,seen)=> .ok (Fv s,seen)| .ok (Fz,seen)=>m.admitted (k+1) (s+1) seen| .error why=> .error why:=by
   refine(if_neg (by rw [hl];exact Hq (Fy (GW (FZ _ _)) (FI h)))).trans ?_
   rw [hc,ht,<-e]
   rfl
  cases hh:(t.getD s 0==10||t.getD s 0==13)with
  |true=>
   rw [hh]at e1;obtain⟨e',he⟩:=jC (by exact Fy (GW (FZ _ _)) (FI h)) hh
   exact⟨sn,.inr ⟨s,e',by rw [jl,he],he,e1⟩⟩
  |false=>
   rw [hh]at e1;haveI hn:hit2 t s=Fw:=by have:=Bool.or_eq_false_iff.mp hh;exact vH (beq_eq_false_iff_ne.mp this.1) (beq_eq_false_iff_ne.mp this.2)
   obtain⟨sn',r⟩:=nx hc ht hl k (s+1) sn (by exact N5 (Gh _ _ _) h)
   refine⟨sn', ?_⟩;rw [jl,hn];rcases r with⟨a,b⟩|⟨b',e',a,h',b⟩
   ·exact .inl ⟨a,e1.trans b⟩
   ·exact .inr ⟨b',e',a,h',e1.trans b⟩
theorem tm (s:Nat) (h:s<=t.size): ∃n,n<=3*t.size+15/\Res (it n (K5 P2 t 0 s t.size Fz)) (find (hit2 t) (t.size-s) s):=by
 have e:K5 P2 t 0 s t.size Fz=if s>t.size∨t.size-s<1 then ms P2 t 0 s 10 s s FE [] 0 (Fv Fz) (({}:HG).add 14)else(Kv (ms P2 t t.size s 10 s s FE [] 0 Fw (({}:HG).add 14)) s FE):=by
  show(if(decide (s>t.size)||decide (t.size-s<1))=FE then _ else _)=_;by_cases hc:s>t.size∨t.size-s<1
  ·rw [if_pos hc,if_pos (by simpa using hc)];rfl
  ·rw [if_neg hc,if_neg (by simpa using hc)];rfl
 by_cases hs:s=t.size
 ·have hn:hit2 t s=Fw:=by unfold hit2;exact if_neg (by exact Ix (FI (Ha hs)))
  refine⟨1,by exact H5 _ _, ?_⟩
  rw [e,if_pos (by exact Or.inr (IL h (FF (FI (Ha hs)) (Gx _)))),it_one,done_step,show t.size-s=0 by exact Je (FI (Ha hs)),il,hn]
  rfl
 ·rw [e,if_neg (aNo h hs)]
  haveI ef:t.size+1-s=(t.size-s)+1:=by exact Nat.succ_sub h
  obtain⟨sn,r⟩:=nx (t:=t) (m:=ms P2 t t.size s 10 s s FE [] 0 Fw (({}:HG).add 14)) rfl rfl rfl (t.size-s) s (({}:HG).add 14) (by exact Gz h)
  rw [<-ef]at r;have e2:(Kv (ms P2 t t.size s 10 s s FE [] 0 Fw (({}:HG).add 14)) s FE)=
    match(ms P2 t t.size s 10 s s FE [] 0 Fw (({}:HG).add 14)).admitted (t.size+1-s) s (({}:HG).add 14)with
    | .ok (Fv b,sn)=>ms P2 t t.size b 10 b b FE [rg0 b FE] 1 Fw sn
    | .ok (Fw,sn)=>ms P2 t t.size s 10 s s FE [] 0 (Fv Fz) sn
    | .error why=>(ms P2 t t.size s 10 s s FE [] 0 Fw (({}:HG).add 14)).stick why:=rfl
  rcases r with⟨a,b⟩|⟨b',e',a,h',b⟩
  ·refine⟨1,by exact H5 _ _, ?_⟩
   rw [e2,b,a,it_one,done_step]
   rfl
  ·rw [e2,b,a]
   obtain⟨n,hn,r⟩:=ED (last:=t.size) (o:=FE) (seen:=sn) h';exact⟨n,by exact NF hn,r⟩
end UK
namespace UK
open PySem PySem.W PySem.Calls PyProof.Rows PySem.SeqAt
theorem DJ:PlainAttrs "re.Pattern" :=
 ⟨⟨"object.__getattribute__",by rw [Lx,Kb];kernel_rfl,by decide+kernel⟩,by rw [Lx,Kb];kernel_rfl⟩
theorem rD:Slot "re.Pattern" "sub" "re.Pattern.sub" :=
 .of (owner:= "re.Pattern") (n:= "sub") (by rw [Lx,Kb];kernel_rfl) (by decide+kernel) (by decide+kernel) (by decide+kernel)
  (by first|exact .inl (by decide+kernel)|exact .inr (by decide+kernel)) (by rw [isSubtype_type];kernel_rfl)
theorem Bm:typeOf (.builtin "re.Pattern.sub")=pure (.type "method_descriptor"):=by show builtinType _=_;rw [builtinType_eq_fast];kernel_rfl
theorem Co:entryFor M0 "re.Pattern.sub" =Fv LV.«re.Pattern.sub» :=entryFor_of_tree (by kernel_rfl)
theorem A5:entryFor M0 "re.Pattern.sub.loop" =Fv LV.«re.Pattern.sub.loop» :=entryFor_of_tree (by kernel_rfl)
theorem oq:plainId "re.Pattern.sub.loop" =FE:=by decide+kernel
theorem sX:M6 (.type "str") "__call__" =pure Fw:=by rw [Lx,Kb];kernel_rfl
theorem DK:Manifest.owners.lookup (String.ofList ['n','r','e','t','t','a','P','.','e','r'].reverse)=Fv Manifest.sig_re_Pattern:=by kernel_rfl
theorem CJ (a b c:FR):argsOk "re.Pattern.sub" ⟨[a,b,c],[]⟩:=by unfold argsOk;rw [signature?_of (id:= "re.Pattern.sub") (n:=['b','u','s']) (o:=['n','r','e','t','t','a','P','.','e','r']) (by kernel_rfl) DK];kernel_rfl
section
variable {M:MD} {A:HB} {E:FR->FL->Prop} {s:FL}
theorem pN: ∀k m n {Q:KO->FL->Prop},0<k->n<=4*k->(it n m).outcome.isSome=FE->Q (it n m) s->Ig M A (Ll k m) Q E s
 |0,m,n,Q,h,_,_,_=>absurd h (FV _)
 |k+1,m,n,Q,_,hn,ho,hq=>by
  rw [Ll];show Ig M A (if(m.runFor 4).outcome.isSome=FE then pure (m.runFor 4)else do rule "sre.turn";Ll k (m.runFor 4)) Q E s
  rw [v3];by_cases h4:(it 4 m).outcome.isSome=FE
  ·rw [if_pos h4]
   have e:it n m=it 4 m:=by
    rcases Nat.le_total n 4 with hc|hc
    ·exact(w6 ho hc).symm
    ·exact w6 h4 hc
   exact FK (e▸hq)
  ·rw [if_neg h4]
   have hc:4<n:=by refine Js λhc=>h4 ?_;rw [w6 ho hc];exact ho
   haveI e:it n m=it (n-4) (it 4 m):=by rw [<-nS];congr 1;exact Ha (Gz (Gm hc))
   rw [e]at ho hq;exact FJ (Lq (pN k (it 4 m) (n-4) (by lia) (by exact NM hn) ho hq))
theorem wU {α β:Type} {f:α->β->IH (ForInStep β)} (hf: ∀i u,Ig M A (f i u) (λr s'=>s'=s/\ ∃u',r= .yield u') E s) (l:List α): ∀(u:β),Ig M A (forIn l u f) (λ_ s'=>s'=s) E s:=by
 induction l with
 |nil=>intro u;rw [MI];exact FK rfl
 |cons i l ih=>
  intro u;rw [JC];refine FJ (Hy (hf i u) (λr s' h=> ?_) λ_ _ e=>e);obtain⟨rfl,u',rfl⟩:=h;exact ih u'
theorem Bj {m:KO} {n:Nat} {r:Option (Nat×Nat)} {Q:Option KO->FL->Prop} (hn:n<=4*2^64) (hr:Res (it n m) r)
  (hq: ∀m',(match r with|some (b,e)=> ∃VK,m'=Fv VK/\VK.start=b/\VK.handed=e|none=>m'=Fw)->Q m' s):Ig M A (MG m) Q E s:=by
 unfold MG;refine FJ (pN _ _ n (GM 64) hn hr.some' ?_);refine FJ (Hy (wU (λi u=> ?_) _ _) (λ_ s' h=> ?_) λ_ _ e=>e)
 ·by_cases hc:(it n m).seen.has i=FE
  ·rw [if_pos hc]
   exact FJ (Lq (FK ⟨rfl,_,rfl⟩))
  ·rw [if_neg hc]
   exact FK ⟨rfl,_,rfl⟩
 ·subst h
  cases r with
  |none=>
   rw [show(it n m).outcome=Fv .failed from hr];exact FK (hq _ rfl)
  |some p=>
   obtain⟨b,e⟩:=p;obtain⟨h1,h2,h3⟩:=hr;rw [h1];exact FK (hq _ ⟨_,rfl,h2,h3⟩)
end
end UK
namespace UK
open PySem PySem.W PySem.Calls PyProof.Rows PySem.SeqAt
open Builtin Builtin.Re
structure gw (h:Ht) (a:Gb) (code:Array Nat):Prop where
 o: ∃o fs c oc items n,h.get? a=Fv o/\o.cls= .type "re.Pattern" /\o.dict=Fw/\o.data= .fields fs/\reRawNat (fs.getD 6 .none)=0/\reRawNat (fs.getD 2 .none)=0/\
  fs.getD 5 .none= .ref c/\h.get? c=Fv oc/\oc.data= .seq items n/\(items.map reRawOf).map (·.toNat)=code
theorem gw.keep {h h':Ht} {a:Gb} {code} (x:gw h a code) (k:HK h h'):gw h' a code:=by obtain⟨o,fs,c,oc,items,n,e,hc,Vm,hd,h6,h2,h5,ec,Vn,PA⟩:=x.o;exact⟨o,fs,c,oc,items,n,dt (k _) e hd (by rw [hc];exact λq=>by cases q),hc,Vm,hd,h6,h2,h5,(dJ Vn).keep (k _) ec,Vn,PA⟩
variable {A:HB} {E:FR->FL->Prop} {s:FL} {pa:Gb} {x:Gj} {t:MR} {code:Array Nat}
section
variable {M:MD}
noncomputable def tgt (pa:Gb) (x:Gj) (t:MR) (code:Array Nat):ReTarget:={pattern:= .ref pa,string:= .str x t,code,text:=x.cps,kind:=0,groups:=0,pos:=0,lim:=x.cps.size}
theorem mJ {Q:ReTarget->FL->Prop} (P:gw s.heap pa code) (h:Q (tgt pa x t code) s):Ig M A (reWholeTarget (.ref pa) (.str x t)) Q E s:=by obtain⟨o,fs,c,oc,items,n,e,hc,Vm,hd,h6,h2,h5,ec,Vn,PA⟩:=P.o;unfold reWholeTarget;refine FJ (wpAny_fieldsOf e hd ?_);refine FJ (Hx (show reTextOf (.str x t)=pure (x.cps,0)from rfl) ?_);dsimp only;rw [h6,h2,h5];show Ig M A (reNoCollectionInside (.str x t) 0>>=λ_=>reRawItems (.ref c)>>=λl=>pure {pattern:= .ref pa,string:= .str x t,code:=l.map (λx=>x.toNat),text:=x.cps,kind:=0,groups:=0,pos:=0,lim:=x.cps.size}) Q E s;refine FJ (Hx (show reNoCollectionInside (.str x t) 0=pure ()from rfl) ?_);refine FJ ?_;unfold reRawItems;refine FJ (wpAny_seqItems ec Vn ?_);refine FK (FK ?_);rw [show((Fv items).getD #[])=items from rfl,PA];exact h
def tV (code:Array Nat) (x:Gj) (Ou:Nat->Option Nat):Prop:=
 ∀s,s<=x.cps.size-> ∃n,n<=4*2^64/\Res (it n (K5 code x.cps 0 s x.cps.size Fz)) (find Ou (x.cps.size-s) s)
theorem Cj (h:x.cps.size<=F_):tV P1 x (fO x.cps):=λs hs=>by obtain⟨n,hn,r⟩:=tn s hs;refine⟨n, ?_,r⟩;haveI:F_=2^24:=rfl;exact Fx (Fx hn (FM (GZ (FH _) h) (FH _))) (by decide)
theorem Ci (h:x.cps.size<=F_):tV P2 x (hit2 x.cps):=λs hs=>by obtain⟨n,hn,r⟩:=tm s hs;refine⟨n, ?_,r⟩;haveI:F_=2^24:=rfl;exact Fx (Fx hn (FM (GZ (FH _) h) (FH _))) (by decide)
end
variable {Ou:Nat->Option Nat}
theorem j5: ∀{k s b e:Nat},find Ou k s=Fv (b,e)->s<=b/\Ou b=Fv e
 |0,s,b,e,h=>by
  rw [il]at h;cases hh:Ou s with
  |none=>rw [hh]at h;cases h
  |some e'=>rw [hh]at h;cases h;exact⟨FH _,hh⟩
 |k+1,s,b,e,h=>by
  rw [jl]at h;cases hh:Ou s with
  |none=>rw [hh]at h;have:=j5 h;exact⟨by exact GF this.1,this.2⟩
  |some e'=>rw [hh]at h;cases h;exact⟨FH _,hh⟩
noncomputable def d7 (Ou:Nat->Option Nat) (x r:Gj):Nat->Nat->List Gj
 |0,_=>[]
 |f+1,done=>
  let sl (b:Nat):List Gj:=if done<b then [⟨x.cps.extract done b⟩]else []
  match find Ou (x.cps.size-done) done with
  |some (b,e)=>sl b++[r]++d7 Ou x r f e
  |none=>sl x.cps.size
variable {r:Gj} {f done:Nat}
theorem AZ:d7 Ou x r (f+1) done=
  (match find Ou (x.cps.size-done) done with
  |some (b,e)=>(if done<b then [⟨x.cps.extract done b⟩]else [])++[r]++d7 Ou x r f e
  |none=>if done<x.cps.size then [⟨x.cps.extract done x.cps.size⟩]else []):=rfl
variable {prog:HE} {w:HR} {ok:Gb->Prop} {L:Gb} {h₀:Ht} {l:List (Gj×MR)} {N:Nat} {X:IH Fin} {K:Fin->FL->Prop} {tr:MR}
section
theorem pS (hL:h₀.objs.size<=L) (p:Gj×MR) (hl:s.heap.get? L=Fv {cls:= .type "list",data:= .seq (Ip l).toArray N}) (hk:HK h₀ s.heap) (S1:L<s.heap.objs.size) (Vw:l.length<=2^20)

  (hX: ∀s' N',HK h₀ s'.heap->L<s'.heap.objs.size->s'.os=s.os->s'.gens=s.gens->s'.heap.get? L=Fv {cls:= .type "list",data:= .seq (Ip (l++[p])).toArray N'}->Ig (FN prog w) A X K E s'):
  Ig (FN prog w) A (updateSeq L (λx=>x.push (.str p.1 p.2))>>=λ_=>X) K E s:=by
 haveI zz:F_=2^24:=rfl;refine FJ (wpAny_updateSeq hl rfl ?_ ?_ ?_)
 ·have hs:Hw L s.heap (s.heap.update L (HY (·.push (.str p.1 p.2)))):=JX ..
  haveI hp: ∀o,s.heap.get? L=Fv o->aK o:=λo e=>by rw [hl]at e;cases e;exact hJ rfl
  refine hX _ (if((Ip l).toArray.push (.str p.1 p.2)).size==(Ip l).toArray.size then N else N+1) (λb o e=>az hs hp (λq=>absurd (q▸aq e) (JK.mpr hL)) (hk b o e)) (by rw [hs.1];exact S1) rfl rfl ((K0 _ hl rfl).trans ?_)
  have e:(Ip l).toArray.push (.str p.1 p.2)=(Ip (l++[p])).toArray:=by simp [Ip]
  rw [<-e]
  rfl
 ·simp only [Gn,Ip,FD];exact Fx Vw (by decide)
 ·simp only [Array.size_push,Gn,Ip,FD];exact Gw (Fx Vw (by decide))
theorem ua (hL:h₀.objs.size<=L) {e:Nat} {c:Prop} [Decidable c] (hc:c↔done<e) (hl:s.heap.get? L=Fv {cls:= .type "list",data:= .seq (Ip l).toArray N}) (hk:HK h₀ s.heap) (S1:L<s.heap.objs.size) (Vw:l.length<=2^20)
 {sl:IH FR} (R4: ∀Q:FR->FL->Prop,Q (.str ⟨x.cps.extract done e⟩ s.toks) {s with toks:=s.toks+1}->Ig (FN prog w) A sl Q E s)
  (hX: ∀s' l' N',HK h₀ s'.heap->L<s'.heap.objs.size->s'.os=s.os->s'.gens=s.gens->s'.heap.get? L=Fv {cls:= .type "list",data:= .seq (Ip l').toArray N'}->
   l'.map (·.1)=l.map (·.1)++(if done<e then [⟨x.cps.extract done e⟩]else [])->Ig (FN prog w) A X K E s'):
  Ig (FN prog w) A (if c then(sl>>=λv=>updateSeq L (λx=>x.push v)>>=λ_=>X)else X) K E s:=by
 by_cases hd:done<e
 ·rw [if_pos (hc.mpr hd)]
  exact FJ (R4 _ (pS (s:={s with toks:=s.toks+1}) hL (⟨x.cps.extract done e⟩,s.toks) hl hk S1 Vw λs' N' h1 h2 h3 h4 h5=>hX s' _ N' h1 h2 h3 h4 h5 (by rw [if_pos hd];simp)))
 ·rw [if_neg λh=>hd (hc.mp h)]
  exact hX s l N hk S1 rfl rfl hl (by rw [if_neg hd];simp)
theorem yU (F:tV code x Ou) (hx:x.cps.size<=F_)
  (T4: ∀s e,Ou s=Fv e->s<e/\e<=x.cps.size) {R:Mc->FL->Prop} {s₀:FL} (P:gw s₀.heap pa code) (hL:s₀.heap.objs.size<=L):
  ∀(f:Nat) (done:Nat) (cnt:Int) (s:FL) (l:List (Gj×MR)) (N:Nat),done<=x.cps.size->x.cps.size-done<f->HK s₀.heap s.heap->L<s.heap.objs.size->s.os=s₀.os->s.gens=s₀.gens->
   s.heap.get? L=Fv {cls:= .type "list",data:= .seq (Ip l).toArray N}->l.length+(d7 Ou x r f done).length<=2^20->Od ⟨#[]⟩ (l.map (·.1)++d7 Ou x r f done)=FE->
   (∀s' u,HK s₀.heap s'.heap->s'.os=s₀.os->s'.gens=s₀.gens->R (.ok (.ret (.str (K9 ⟨#[]⟩ (l.map (·.1)++d7 Ou x r f done)) u))) s')->
   codeAny (FN prog w) A (.builtin "re.Pattern.sub.loop" ⟨[.ref pa,.str x t,.str r tr,Ma 0,Ma 0,Ma cnt,Ma done,Ma done,.bool Fz,.ref L,.bool Fz],[]⟩) R s:=by
 intro f;induction f with
 |zero=>intro done cnt s l N hd hf;lia
 |succ f ih=>
  intro done cnt s l N hd hf hk S1 S9 hg hl Oj hj hR;refine codeAny_builtin A5 ?_;rw [Around.under_plainId oq];refine uQ λK E hK=> ?_;unfold «re.Pattern.sub.loop»
  dsimp only [Ma];refine FJ (mJ (P.keep hk) ?_);rw [if_pos (by decide)]
  refine FJ (Hx (show reLiteralCannotBeTurned (.str r tr)=pure ()from rfl) ?_);rw [if_neg (by simp)]
  obtain⟨n,hn,hr⟩:=F done hd;refine FJ (Bj (s:=s) hn hr λm' QB=> ?_);have Rs:l.length<=2^20:=by exact GF Oj
  revert QB hj hR Oj;rw [AZ];cases hfd:find Ou (x.cps.size-done) done with
  |none=>
   dsimp only;intro Oj hj hR QB;subst QB;dsimp only;refine ua (x:=x) (done:=done) (e:=x.cps.size) hL Iff.rfl hl hk S1 Rs (λQ q=>wpAny_mkStr q (by simp [IB,tgt];exact Gi hx)) λs₂ l' N' hk S1 RY R_ Px he=> ?_
   replace S9:=RY.trans S9;replace hg:=R_.trans hg;refine FJ (wpAny_mkStr ?_ (by simp [IB]))
   refine FJ (wpAny_seqItems Px rfl ?_);have eR: ∀v s',(∃u,v= .str (K9 ⟨#[]⟩ (l'.map (·.1))) u)->HK s₀.heap s'.heap->s'.os=s₀.os->s'.gens=s₀.gens->Ig (FN prog w) A.in1 (if Fz=FE then JA [v] (mkInt cnt>>=λ__do_lift=>newTuple [v,__do_lift])>>=λ__do_lift=>ret __do_lift else ret v)
     K E s':=by
    rintro v s' ⟨u,rfl⟩ h1 h2 h3;rw [if_neg (by decide)]
    refine FK (hK _ _ ?_);have:=hR s' u h1 h2 h3;rw [<-he]at this;exact this
   cases l' with
   |nil=>
    rw [if_pos (show((Fv (Ip []).toArray).getD #[]).isEmpty=FE from rfl)];refine FJ (FK (eR _ _ ⟨s₂.toks, ?_⟩ hk S9 hg));show Kh ⟨x.cps.extract 0 0⟩ s₂.toks=Kh ⟨#[]⟩ s₂.toks;rw [Ju (FH 0)]
   |cons q l'=>
    rw [if_neg (by simp [Ip])]
    refine FJ (SC.join (x:=⟨x.cps.extract 0 0⟩) (l:=q::l') ⟨_,Px,rfl,_,rfl⟩ rfl ?_ λu k=> ?_)
    ·rw [he,Ju (FH 0)];exact hj
    ·refine eR _ _ ⟨u, ?_⟩ hk S9 hg
     rw [Ju (FH 0)]
  |some p=>
   obtain⟨b,e⟩:=p;dsimp only;intro Oj hj hR QB;obtain⟨m,rfl,rfl,rfl⟩:=QB;dsimp only;haveI hm:=j5 hfd;have hh:=T4 _ _ hm.2;refine ua (x:=x) (done:=done) (e:=m.start) hL Iff.rfl hl hk S1 Rs (λQ q=>wpAny_mkStr q (by simp [IB,tgt];exact Fx (KV _ _) (Gi hx))) λs₂ l' N' hk S1 RY R_ Px he=> ?_
   replace S9:=RY.trans S9;replace hg:=R_.trans hg;rw [if_pos (by decide)]
   refine FJ (FK ?_);rw [if_pos (show(Kh r tr !=Value.none)=FE from rfl)];have Sm:l'.length<=2^20:=by have:=congrArg J2 he;simp only [FP,FD]at this Oj;lia
   have el:(l'++[(r,tr)]).map (·.1)++d7 Ou x r f m.handed=l.map (·.1)++((if done<m.start then [⟨x.cps.extract done m.start⟩]else [])++[r]++d7 Ou x r f m.handed):=by rw [Gv,he];simp
   refine pS hL (r,tr) Px hk S1 Sm λs₃ N2 p1 p2 ho3 hg3 p3=> ?_;refine FK (hK _ _ ⟨plainId_quiet oq _, ?_⟩);rw [show(m.handed==m.start)=Fz by simp;exact Lc hh.1]
   refine ih m.handed (cnt+1) _ _ N2 hh.2 (by exact Ds hf hm.1 hh.1 hh.2) p1 p2 (ho3.trans S9) (hg3.trans hg) p3 ?_ (by rw [el];exact hj) (by rw [el];exact hR)
   have:=congrArg J2 el;rw [FP,FP,FD,FD]at this;exact Fx (FI this) Oj
end
theorem vw (r x:FR):reNamed "re.Pattern.sub" "sub" ["repl","string","count"] 2 [r,x] []=pure [Fv r,Fv x,Fw]:=rfl
section
theorem wi (F:tV code x Ou) (hx:x.cps.size<=F_)
  (T4: ∀s e,Ou s=Fv e->s<e/\e<=x.cps.size) (P:gw s.heap pa code) (hr:r.cps.contains 92=Fz) (hf:x.cps.size<f)
  (Oj:(d7 Ou x r f 0).length<=2^20) (hj:Od ⟨#[]⟩ (d7 Ou x r f 0)=FE):
  WP (FN prog w) A (Jj (.builtin "re.Pattern.sub") [.ref pa,.str r tr,.str x t]) (Ev' prog w ok (.str (K9 ⟨#[]⟩ (d7 Ou x r f 0))) s) s:=by
 haveI hT:s.TypeIs (.ref pa) "re.Pattern" :=by obtain⟨o,fs,c,oc,items,n,e,hc,_⟩:=P.o;exact⟨o,e,hc⟩
 refine WP.size (Ni (codeAny_call_builtin rD.plain Co (rD.check _ _ _ _ _ _ _ _ hT (CJ _ _ _) ?_)));unfold «re.Pattern.sub» reSubstitute;dsimp only;rw [vw];refine FJ (FK ?_);dsimp only;refine FJ (FK ?_);refine FJ (N6 (M7 _ _ _) sX ?_);rw [if_neg (by simp)]
 refine FJ (Hx (show asStr? (.str r tr)=pure (Fv r)from rfl) ?_);dsimp only;refine FJ (FK ?_);rw [if_neg (by simp),hr,if_pos (by decide)]
 refine FJ (FK ?_);refine FJ (IG (mJ P ?_));rw [if_neg (show¬((0:Int)==1)=FE by decide)]
 refine FJ (wpAny_newList ?_);refine FK ⟨plainId_quiet oq _, ?_⟩;haveI OR:(s.heap.push {cls:= .type "list",data:= .seq #[]}).objs.size=s.heap.objs.size+1:=GP ..
 refine yU (s₀:=s) F hx T4 P (FH _) f 0 0 _ [] 0 (Hk _) hf (HK.push _ _) (Oc (Gx _) OR.symm) rfl rfl (Gt _ rfl) (by simpa using Oj) hj ?_
 intro s' u h1 h2 h3 sz;exact⟨⟨h1,sz,λi g e=>by rw [h3];exact e,h2⟩,u,rfl⟩
end
end UK
namespace UK
open PySem PySem.W PySem.Calls PyProof.Rows
noncomputable def nl:Bool->List Nat->List Nat
 |p,[]=>if p=FE then [10]else []
 |p,c::t=>if c=10 then(if p=FE then 10::nl Fz t else 13::10::nl Fz t)else(if p=FE then [10]else [])++(if c=13 then 13::nl FE t else c::nl Fz t)
noncomputable def dd:Bool->List Nat->List Nat
 |_,[]=>[]
 |b,c::t=>if b=FE/\c=46 then 46::46::dd Fz t else c::dd (c==10) t
noncomputable def tx (l:List Nat):Gj:=⟨l.toArray⟩
theorem mP: ∀ls:List Gj,(Str.join ⟨#[]⟩ ls).cps.toList=(ls.map (·.cps.toList)).flatten
 |[]=>rfl
 |[x]=>by simp [Str.join]
 |x::y::r=>by
  have:=mP (y::r);rw [Str.join.eq_3 _ _ _ (by simp)]
  show(x.cps++ #[]++(Str.join ⟨#[]⟩ (y::r)).cps).toList=_;rw [Array.append_empty,Lw,this]
  rfl
theorem lI (ls:List Gj):(K9 ⟨#[]⟩ ls).cps.toList=(ls.map (·.cps.toList)).flatten:=by rw [K9,StrLaws.glued_eq_join,mP]
theorem iz (ls:List Gj) (h:(ls.map (·.cps.toList)).flatten.length<=F_):Od ⟨#[]⟩ ls=FE:=by
 haveI e: ∀(ls:List Gj) (a:Nat),ls.foldl (λa x=>a+x.length+(⟨#[]⟩:Gj).length) a=a+(ls.map (·.cps.toList)).flatten.length:=by
  intro ls;induction ls with
  |nil=>intro a;rfl
  |cons x r ih=>
   intro a;rw [List.foldl_cons,ih,Gf,IN,FP];simp [IB];exact GN _ _ _
 unfold Od Jg;rw [List.foldl_toArray',e]
 ·simp only [HJ,JS,decide_eq_false_iff_not];exact Ix h
 ·rfl
variable {x r:Gj}
section
variable {Ou:Nat->Option Nat} {g:Nat->List Nat}
theorem wD (h1: ∀i,i<x.cps.size->Ou i=Fw->g i=x.cps.getD i 0::g (i+1)) (h3: ∀i e,Ou i=Fv e->i<x.cps.size): ∀(k s:Nat),s+k=x.cps.size->
  (match find Ou k s with|some (b,e)=>b<x.cps.size/\g s=(x.cps.toList.drop s).take (b-s)++g b|none=>g s=x.cps.toList.drop s++g x.cps.size)
 |0,s,hk=>by
  rw [il];have hs:s=x.cps.size:=by exact hk
  cases hh:Ou s with
  |some e=>have:=h3 _ _ hh;lia
  |none=>
   show g s=_;rw [hs];simp
 |k+1,s,hk=>by
  have hs:s<x.cps.size:=by exact Fy (GW (FZ _ _)) (FI hk)
  rw [jl];cases hh:Ou s with
  |some e=>exact⟨hs,by simp⟩
  |none=>
   have ih:=wD h1 h3 k (s+1) (by exact N5 (Gh _ _ _) hk)
   have hd:x.cps.toList.drop s=x.cps.getD s 0::x.cps.toList.drop (s+1):=by
    rw [I4 (by simpa using hs)]
    simp [Array.getD,hs]
   show match find Ou k (s+1)with|some (b,e)=>_|none=>_
   cases hf:find Ou k (s+1)with
   |none=>
    rw [hf]at ih;show g s=_;rw [h1 s hs hh,ih,hd];rfl
   |some p=>
    obtain⟨b,e⟩:=p;rw [hf]at ih;haveI hb:=(j5 hf).1;refine⟨ih.1, ?_⟩;rw [h1 s hs hh,ih.2,hd,show b-s=(b-(s+1))+1 by exact wd (Nat.lt_of_succ_lt_succ (GW hb)),List.take_succ_cons]
    rfl
theorem oN (h0:g x.cps.size=[]) (h1: ∀i,i<x.cps.size->Ou i=Fw->g i=x.cps.getD i 0::g (i+1)) (h2: ∀i e,Ou i=Fv e->g i=r.cps.toList++g e) (h3: ∀i e,Ou i=Fv e->i<x.cps.size/\i<e/\e<=x.cps.size):
  ∀(f s:Nat),s<=x.cps.size->x.cps.size-s<f->((d7 Ou x r f s).map (·.cps.toList)).flatten=g s/\(d7 Ou x r f s).length<=2*(x.cps.size-s)+1
 |0,s,hs,hf=>by lia
 |f+1,s,hs,hf=>by
  have hg:=wD h1 (λi e h=>(h3 i e h).1) (x.cps.size-s) s (by exact Gz hs)
  rw [AZ];cases hfd:find Ou (x.cps.size-s) s with
  |none=>
   rw [hfd]at hg;have hg:g s=_:=hg;rw [hg,h0];by_cases hl:s<x.cps.size
   ·dsimp only
    rw [if_pos hl];refine⟨?_,by simp⟩
    simp [H1]
   ·dsimp only
    rw [if_neg hl];refine⟨?_,by simp⟩
    haveI:s=x.cps.size:=by exact Io hs (Hc hl)
    simp [this]
  |some p=>
   obtain⟨b,e⟩:=p;rw [hfd]at hg;obtain⟨hb,hg⟩:=hg;have hm:=j5 hfd;haveI R6:=h3 _ _ hm.2;have ih:=oN h0 h1 h2 h3 f e (by exact R6.2.2) (by exact Ds hf hm.1 R6.2.1 R6.2.2)
   dsimp only;rw [hg,h2 _ _ hm.2];by_cases hl:s<b
   ·rw [if_pos hl]
    refine⟨?_, ?_⟩
    ·rw [Gv,Kf,ih.1]
     simp
    ·rw [FP]
     simp only [Nw,FY,GJ];exact aC2 ih.2 R6.2.1 R6.2.2 hl
   ·rw [if_neg hl]
    haveI:b=s:=by exact Io (Hc hl) hm.1
    subst this;refine⟨?_, ?_⟩
    ·rw [Gv,Kf,ih.1]
     simp
    ·rw [FP]
     simp only [Hb,FY,GJ];exact aC1 ih.2 R6.2.1 R6.2.2
end
theorem fJ {s:Nat} (hs:s<x.cps.size):x.cps.toList.drop s=x.cps.getD s 0::x.cps.toList.drop (s+1):=by
 rw [I4 (by simpa using hs)]
 simp [Array.getD,hs]
theorem lh: ∀(l:List Nat) (p:Bool),(nl p l).length<=2*l.length+(if p=FE then 1 else 0)
 |[],p=>by cases p<;>simp [nl]
 |c::t,p=>by
  have h1:(nl Fz t).length<=2*t.length:=lh t Fz;have h2:(nl FE t).length<=2*t.length+1:=lh t FE;rw [nl];by_cases hc:c=10
  ·rw [if_pos hc]
   cases p
   ·show(nl Fz t).length+1+1<=2*(t.length+1)
    exact Gw (Gw h1)
   ·show(nl Fz t).length+1<=2*(t.length+1)+1
    exact Gw (Gi h1)
  ·rw [if_neg hc]
   by_cases hd:c=13
   ·rw [if_pos hd]
    cases p
    ·show(nl FE t).length+1<=2*(t.length+1)
     exact Gw h2
    ·show(nl FE t).length+1+1<=2*(t.length+1)+1
     exact Gw (Gw h2)
   ·rw [if_neg hd]
    cases p
    ·show(nl Fz t).length+1<=2*(t.length+1)
     exact FM h1 (by decide)
    ·show(nl Fz t).length+1+1<=2*(t.length+1)+1
     exact Gw (FM h1 (by decide))
theorem nX: ∀(l:List Nat) (p:Bool),(dd p l).length<=2*l.length
 |[],p=>by simp [dd]
 |c::t,p=>by haveI h1:=nX t Fz;haveI h2:=nX t (c==10);rw [dd];split<;>simp only [FY]<;>lia
noncomputable def kO:Gj:=⟨#[13,10]⟩
noncomputable def nC:Gj:=⟨#[46,46]⟩
variable {t:Array Nat} {e:Nat}
theorem oG {s:Nat} (h:fO t s=Fv e):s<t.size/\s<e/\e<=t.size:=by
 unfold fO at h;by_cases hc:bol t s=FE/\s<t.size/\t.getD s 0=46
 ·rw [if_pos hc]at h;cases h;exact⟨hc.2.1,⟨(Gx _),hc.2.1⟩⟩
 ·rw [if_neg hc]at h;cases h
theorem oF {s:Nat} (h:hit2 t s=Fv e):s<t.size/\s<e/\e<=t.size:=by
 unfold hit2 at h;by_cases hs:s<t.size
 ·rw [if_pos hs]at h
  by_cases hc:t.getD s 0=13
  ·rw [if_pos hc]at h
   by_cases Pa:s+1<t.size/\t.getD (s+1) 0=10
   ·rw [if_pos Pa]at h;cases h;exact⟨hs,⟨(GW (FZ _ _)),Pa.1⟩⟩
   ·rw [if_neg Pa]at h;cases h;exact⟨hs,⟨(Gx _),hs⟩⟩
  ·rw [if_neg hc]at h
   by_cases Pa:t.getD s 0=10
   ·rw [if_pos Pa]at h;cases h;exact⟨hs,⟨(Gx _),hs⟩⟩
   ·rw [if_neg Pa]at h;cases h
 ·rw [if_neg hs]at h;cases h
theorem EW (x:Gj) (f s:Nat) (hs:s<=x.cps.size) (hf:x.cps.size-s<f):((d7 (hit2 x.cps) x kO f s).map (·.cps.toList)).flatten=nl Fz (x.cps.toList.drop s)/\(d7 (hit2 x.cps) x kO f s).length<=2*(x.cps.size-s)+1:=by
 refine oN (g:=λi=>nl Fz (x.cps.toList.drop i)) ?_ ?_ ?_ (λi e=>oF) f s hs hf
 ·show nl Fz (x.cps.toList.drop x.cps.size)=[]
  rw [Hl (by simp)];rfl
 ·intro i hi hh
  show nl Fz (x.cps.toList.drop i)=_::nl Fz (x.cps.toList.drop (i+1));rw [fJ hi,nl];have:x.cps.getD i 0≠13/\x.cps.getD i 0≠10:=by
   refine⟨λe=> ?_,λe=> ?_⟩
   ·obtain⟨e',h⟩:=jC hi (by rw [e];rfl);rw [hh]at h;cases h
   ·obtain⟨e',h⟩:=jC hi (by rw [e];rfl);rw [hh]at h;cases h
  rw [if_neg this.2,if_neg this.1]
  rfl
 ·intro i e h
  have hi:=(oF h).1;show nl Fz (x.cps.toList.drop i)=kO.cps.toList++nl Fz (x.cps.toList.drop e);unfold hit2 at h;rw [if_pos hi]at h;rw [fJ hi,nl];by_cases hc:x.cps.getD i 0=13
  ·rw [if_pos hc]at h
   rw [hc,if_neg (by decide),if_pos rfl]
   by_cases Pa:i+1<x.cps.size/\x.cps.getD (i+1) 0=10
   ·rw [if_pos Pa]at h;cases h
    rw [fJ Pa.1,Pa.2,nl,if_pos rfl,if_pos rfl]
    rfl
   ·rw [if_neg Pa]at h;cases h
    by_cases Rk:i+1<x.cps.size
    ·rw [fJ Rk,nl,nl]
     rw [if_neg (λe=>Pa ⟨Rk,e⟩),if_neg (λe=>Pa ⟨Rk,e⟩)]
     rfl
    ·rw [Hl (by simp;exact Hc Rk)]
     rfl
  ·rw [if_neg hc]at h
   by_cases Pa:x.cps.getD i 0=10
   ·rw [if_pos Pa]at h;cases h
    rw [Pa,if_pos rfl]
    rfl
   ·rw [if_neg Pa]at h;cases h
theorem EX (x:Gj) (f s:Nat) (hs:s<=x.cps.size) (hf:x.cps.size-s<f):((d7 (fO x.cps) x nC f s).map (·.cps.toList)).flatten=dd (bol x.cps s) (x.cps.toList.drop s)/\(d7 (fO x.cps) x nC f s).length<=2*(x.cps.size-s)+1:=by
 have hb: ∀i,bol x.cps (i+1)=(x.cps.getD i 0==10):=λi=>by unfold bol;simp
 refine oN (g:=λi=>dd (bol x.cps i) (x.cps.toList.drop i)) ?_ ?_ ?_ (λi e=>oG) f s hs hf
 ·show dd (bol x.cps x.cps.size) (x.cps.toList.drop x.cps.size)=[]
  rw [Hl (by simp)];rfl
 ·intro i hi hh
  show dd (bol x.cps i) (x.cps.toList.drop i)=_::dd (bol x.cps (i+1)) (x.cps.toList.drop (i+1));rw [fJ hi,dd,hb];refine if_neg λhc=> ?_;unfold fO at hh;rw [if_pos ⟨hc.1,hi,hc.2⟩]at hh;cases hh
 ·intro i e h
  haveI hi:=(oG h).1;show dd (bol x.cps i) (x.cps.toList.drop i)=nC.cps.toList++dd (bol x.cps e) (x.cps.toList.drop e);unfold fO at h;by_cases hc:bol x.cps i=FE/\i<x.cps.size/\x.cps.getD i 0=46
  ·rw [if_pos hc]at h;cases h
   rw [fJ hi,dd,if_pos ⟨hc.1,hc.2.2⟩,hb,hc.2.2]
   rfl
  ·rw [if_neg hc]at h;cases h
noncomputable def mD (S:List Nat->List Nat) (vs:List PV):Option PV:=a1 (oS λx=>giv (x.cps.size<=100000) (.str (tx (S x.cps.toList)))) vs
variable {S:List Nat->List Nat}
theorem sr {vs:List PV} {r:PV} (h:mD S vs=Fv r): ∃x,vs=[.str x]/\x.cps.size<=100000/\r= .str (tx (S x.cps.toList)):=
 gA (Q:=λvs=> ∃x,vs=[.str x]/\x.cps.size<=100000/\r= .str (tx (S x.cps.toList))) h λx h=>fy (Q:=λv=> ∃x,[v]=[.str x]/\x.cps.size<=100000/\r= .str (tx (S x.cps.toList))) h λx h=>
  bc (P:=λr=> ∃y,[PV.str x]=[.str y]/\y.cps.size<=100000/\r= .str (tx (S y.cps.toList))) h λhc=>⟨x,rfl,hc,rfl⟩
structure wf (code:Array Nat) (r:Gj) (S:List Nat->List Nat):Prop where
 go: ∀(prog:HE) (w:HR) (A:HB) (ok:Gb->Prop) (s:FL) (pa:Gb) (x:Gj) (t tr:MR),x.cps.size<=100000->gw s.heap pa code->
  WP (FN prog w) A (Jj (.builtin "re.Pattern.sub") [.ref pa,.str r tr,.str x t]) (Ev' prog w ok (.str (tx (S x.cps.toList))) s) s
theorem EF:wf P2 kO (nl Fz):=⟨λprog w A ok s pa x t tr hx P=>by
 haveI hz:F_=2^24:=rfl;have hc:=EW x (x.cps.size+1) 0 (Hk _) (by exact Gx _)
 rw [Ji]at hc;have hl:=lh x.cps.toList Fz;rw [Jt]at hl;have hl:(nl Fz x.cps.toList).length<=2*x.cps.size:=hl;have:=wi (prog:=prog) (w:=w) (A:=A) (s:=s) (ok:=ok) (t:=t) (tr:=tr) (r:=kO) (Ci (x:=x) (by exact Fx hx (by decide))) (by exact Fx hx (by decide)) (λs e h=>(oF h).2) P (by decide+kernel) (f:=x.cps.size+1) (Gx _) (by have:=hc.2;exact Fx (Fx this (FM (GZ (FH _) hx) (FH _))) (by decide)) (iz _ (by rw [hc.1];exact Fx (Fx hl (GZ (FH _) hx)) (by decide)))
 rwa [show K9 ⟨#[]⟩ (d7 (hit2 x.cps) x kO (x.cps.size+1) 0)=tx (nl Fz x.cps.toList)from(by have:=lI (d7 (hit2 x.cps) x kO (x.cps.size+1) 0);rw [hc.1]at this;show _=(⟨(nl Fz x.cps.toList).toArray⟩:Gj);rw [<-this])]at this⟩
theorem EG:wf P1 nC (dd FE):=⟨λprog w A ok s pa x t tr hx P=>by
 haveI hz:F_=2^24:=rfl;have hc:=EX x (x.cps.size+1) 0 (Hk _) (by exact Gx _)
 rw [Ji]at hc;haveI hl:=nX x.cps.toList FE;have hs:x.cps.toList.length=x.cps.size:=rfl;rw [show bol x.cps 0=FE from rfl]at hc;have:=wi (prog:=prog) (w:=w) (A:=A) (s:=s) (ok:=ok) (t:=t) (tr:=tr) (r:=nC) (Cj (x:=x) (by exact Fx hx (by decide))) (by exact Fx hx (by decide)) (λs e h=>(oG h).2) P (by decide+kernel) (f:=x.cps.size+1) (Gx _) (by have:=hc.2;exact Fx (Fx this (FM (GZ (FH _) (Fx (FI hs) hx)) (FH _))) (by decide)) (iz _ (by rw [hc.1];exact Fx (Fx hl (GZ (FH _) (Fx (FI hs) hx))) (by decide)))
 rwa [show K9 ⟨#[]⟩ (d7 (fO x.cps) x nC (x.cps.size+1) 0)=tx (dd FE x.cps.toList)from(by have:=lI (d7 (fO x.cps) x nC (x.cps.size+1) 0);rw [hc.1]at this;show _=(⟨(dd FE x.cps.toList).toArray⟩:Gj);rw [<-this])]at this⟩
section
variable {C:Cx} {Γ:Gam} {Og:List Gj} {ns:ay}
theorem wj {le e:Expr} {pl pe:PE} {px ap cp:HW} {k:Nat} {pa:Gb} {code:Array Nat}
  (hl:aJ C Γ Og ns le pl) (Vj: ∀x p,le≠ .Starred x p) (Sa: ∀ρ,pev Γ pl ρ=Fv (.str r)) (he:aJ C Γ Og ns e pe) (Pp: ∀x p,e≠ .Starred x p)
  (hx:aC x=FE) (hk:fC (ns.lookup x)=2) (L:cC C.H x (.ref pa)) (P:gw C.H pa code) (I:wf code r S) (OQ:(ap.endLine==cp.line)=FE) (TY:Γ.fn k=mD S):
  aJ C Γ Og ns (.Call (.Attribute (.Name x px) "sub" ap) [le,e] [] cp) (.call k [pe]):=by
 intro A Oh ρ ok s v G h;obtain⟨vs,PH,h⟩:=FQ.mp h;rw [TY]at h;obtain⟨xs,rfl,OR,rfl⟩:=sr h;obtain⟨u,hu,PH⟩:=FQ.mp PH;cases PH;refine J5 rfl ?_ OQ (dq G.e hx hk G.h L ?_)
 ·rw [bY,ba Vj,ba Pp]
  rfl
 ·have P':=P.keep G.h
  haveI hT:s.TypeIs (.ref pa) "re.Pattern" :=by obtain⟨o,fs,c,oc,items,n,e,hc,_⟩:=P'.o;exact⟨o,e,hc⟩
  refine⟨"re.Pattern","re.Pattern.sub",DJ,rD,Bm,hT, ?_, ?_⟩
  ·intro a ha
   cases ha;obtain⟨o,fs,c,oc,items,n,e,hc,Vm,_⟩:=P'.o;exact⟨o,e,Vm⟩
  ·have H:ci C A Oh ok [le,e] [.str r,.str xs] s:=ci.cons Vj (hl A Oh ρ ok s _ G (Sa ρ)) λs' x=>ci.cons Pp (he A Oh ρ ok s' _ (G.ext x) hu) λs' x=>ci.nil
   refine bk (λb e=>by cases e) (by rw [fG];exact fY H.1) ?_
   refine bB (by rw [bY];exact H.1) ((H.2 cp).mono λvs s₂ ⟨x₂,q⟩=> ?_)
   obtain⟨_,_,rfl,⟨tr,rfl⟩,_,_,rfl,⟨t,rfl⟩,rfl⟩:=q;exact(I.go C.prog C.w A ok s₂ pa xs t tr OR (P'.keep x₂.keep)).mono λv s₃ ⟨x₃,r₃⟩=>⟨x₂.trans x₃,r₃⟩
end
noncomputable def evT {α:Type} (cc:Ctx->HW->FL->Option (Mc×FL)) (pr:HE) (P:Params) (Γ:Ctx):IH α->HW->FL->Option (Except FR α×HW×FL)
 | .pure a,p,s=>Fv (.ok a,p,s)
 | .raise e,p,s=>Fv (.error e,p,s)
 | .rule _ k,p,s=>evT cc pr P Γ (k ()) p s
 | .at p' k,_,s=>evT cc pr P Γ (k ()) p' s
 | .load a _ k,p,s=>(s.heap.get? a).bind λo=>evT cc pr P Γ (k o) p s
 | .update a _ f k,p,s=>(s.heap.get? a).bind λ_=>evT cc pr P Γ (k ()) p {s with heap:=s.heap.update a f}
 | .loadIfAlive a k,p,s=>evT cc pr P Γ (k (s.heap.get? a)) p s
 | .point _ k,p,s=>evT cc pr P Γ (k ()) p s
 | .alloc o k,p,s=>evT cc pr P Γ (k s.heap.objs.size) p {s with heap:=s.heap.push o}
 | .fresh k,p,s=>evT cc pr P Γ (k s.toks) p {s with toks:=s.toks+1}
 | .ask k,p,s=>evT cc pr P Γ (k ⟨pr,P⟩) p s
 | .call c h _ _ k,p,s=>(cc (Γ.enter c h p) p s).bind λy=>evT cc pr P Γ (k y.1) p y.2
 | .handled own k,p,s=>evT cc pr P Γ (k (if own then Γ.own else Γ.handled)) p s
 | .stack k,p,s=>evT cc pr P Γ (k ((Γ.code,p)::Γ.below)) p s
 | .thread k,p,s=>evT cc pr P Γ (k 0) p s
 |_,_,_=>Fw
noncomputable def evE (go:Ctx->HW->FL->Option (Mc×FL)) (Γ:Ctx):Except FR Fin×HW×FL->Option (Mc×FL)
 |(.ok (.done f),_,s')=>Fv (.ok f,s')
 |(.ok (.again c),p',s')=>if c.quiet=FE then go (Γ.goto c) p' s' else Fw
 |(.error e,_,s')=>Fv (.error e,s')
noncomputable def evC (den:Code->IH Fin) (pr:HE) (P:Params):Nat->Ctx->HW->FL->Option (Mc×FL)
 |0,_,_,_=>Fw
 |n+1,Γ,p,s=>(evT (evC den pr P n) pr P Γ (den Γ.code) p s).bind (evE (evC den pr P n) Γ)
noncomputable def CT {α:Type} (Q:α->HW->FL->Prop) (E:FR->HW->FL->Prop):Except FR α×HW×FL->Prop
 |(.ok a,p,s)=>Q a p s
 |(.error e,p,s)=>E e p s
variable {M:MD}
theorem wF {cc:Ctx->HW->FL->Option (Mc×FL)} (Vr: ∀Γ p s r s',cc Γ p s=Fv (r,s')->Returns M Γ p s r s') {Γ:Ctx} {α:Type} {Q:α->HW->FL->Prop} {E:FR->HW->FL->Prop} (t:IH α):
  ∀(p:HW) (s:FL) (x:Except FR α×HW×FL),evT cc M.prog M.w.params Γ t p s=Fv x->CT Q E x->Jk M Γ t Q E p s:=by
 induction t with
 |pure a=>intro p s x h q;cases h;exact q
 |raise e=>intro p s x h q;cases h;exact q
 |rule _ k ih=>intro p s x h q;exact ih _ _ _ _ h q
 | «at» _ k ih=>intro p s x h q;exact ih _ _ _ _ h q
 |load a _ k ih=>intro p s x h q;exact ac h λo e h=>⟨o,e,ih _ _ _ _ h q⟩
 |update a _ f k ih=>intro p s x h q;exact ac h λo e h=>⟨by rw [e];rfl,ih _ _ _ _ h q⟩
 |loadIfAlive a k ih=>intro p s x h q;exact ih _ _ _ _ h q
 |point _ k ih=>intro p s x h q;exact ih _ _ _ _ h q
 |alloc o k ih=>intro p s x h q;exact ih _ _ _ _ h q
 |fresh k ih=>intro p s x h q;exact ih _ _ _ _ h q
 |ask k ih=>intro p s x h q;exact ih _ _ _ _ h q
 |call c hh g l k ih=>intro p s x h q;exact ac h λy e h=>⟨y.1,y.2,Vr _ _ _ _ _ e,ih _ _ _ _ h q⟩
 |handled own k ih=>intro p s x h q;exact ih _ _ _ _ h q
 |stack k ih=>intro p s x h q;exact ih _ _ _ _ h q
 |thread k ih=>intro p s x h q;exact ih _ _ _ _ h q
 |unsupported|finish|register|choose|os|genState|newGen|resume|yield|fork|await=>intro p s x h q;exact a9 h
theorem gK: ∀(n:Nat) (Γ:Ctx) (p:HW) (s:FL) (r:Mc) (s':FL),evC M.den M.prog M.w.params n Γ p s=Fv (r,s')->Returns M Γ p s r s'
 |0,Γ,p,s,r,s',h=>by cases h
 |n+1,Γ,p,s,r,s',h=>by
  haveI hw:wpCode M Γ (λr' Oy=>r'=r/\Oy=s') p s:=by
   rw [wpCode_iff_wp];refine ac h λx e h=>wF (gK n) _ _ _ x e ?_;obtain⟨y,p',Oy⟩:=x;cases y with
   |error v=>cases h;exact⟨rfl,rfl⟩
   |ok fin=>
    cases fin with
    |done f=>cases h;exact⟨rfl,rfl⟩
    |again c=>exact d0 h (λhq h=>⟨hq,r,s',gK n _ _ _ _ _ h,rfl,rfl⟩) λ_ h=>a9 h
  obtain⟨_,_,hr,rfl,rfl⟩:=hw;exact hr
variable {prog:HE} {w:HR} {A:HB} {E:FR->FL->Prop} {d:Gb} {OM:List (Int×FR)} {Q:Unit->FL->Prop} {s:FL} {ts:List (Int×Gj)}
section
theorem rZ {k:Int} {key v:FR} (Rb:(HI prog w).is k key=FE) (hm:s.heap.DictOf (HI prog w) d OM)
  (Q9:k∉OM.map (·.1)) (OR:OM.length<=F_) (hQ: ∀h',h'.DictOf (HI prog w) d (OM++[(k,v)])->Hw d s.heap h'->Q () {s with heap:=h'}):
  Ig (FN prog w) A (dictPut d ((HI prog w).hash k) key v) Q E s:=by
 obtain⟨o,es,ep,ho,hc,hd,hk,hp,hn⟩:=hm;have Pp:es.size<=F_:=by
  have e1:=hp.length;have e2:es.toList.length=es.size:=by simp
  exact Fx (FI e1) OR
 unfold dictPut;refine FJ (wpAny_dictFind_of Rb ho hd hk ?_);have T0:(es.findIdx? λe=>(HI prog w).is k e.key)=OM.findIdx? λkv=>decide (kv.1=k):=by rw [<-hp.findIdx k];obtain⟨l⟩:=es;simp
 have Uz:(es.findIdx? λe=>(HI prog w).is k e.key)=Fw:=by rw [T0,List.findIdx?_eq_none_iff];intro kv Sb;exact decide_eq_false λe=>Q9 (Ga.mpr ⟨kv,Sb,e⟩)
 rw [Uz];refine wpAny_updateDictKeys (hz:=Pp) ho hd (hQ _ ⟨_,_,ep+1,K0 _ ho (NW (NL hd _)),
   hc.mapDictKeys _,NL hd _,hk.push Rb _, ?_, ?_⟩ (JX ..))
 ·have:=hp.append Rb ((HI prog w).hash k) v
  obtain⟨l⟩:=es;simpa using this
 ·rw [Gv,Ij]
  refine⟨hn,by simp, ?_⟩
  intro a ha b hb;simp only [Gf,JQ,G4]at hb;subst hb;exact λe=>Q9 (e▸ha)
noncomputable def kM:List (Int×FR)->List (Int×Gj)->Prop
 |[],[]=>True
 |kv::r,t::ts=>kv.1=t.1/\(∃u,kv.2= .str t.2 u)/\kM r ts
 |_,_=>False
theorem kM.keys: ∀{OM:List (Int×FR)} {ts:List (Int×Gj)},kM OM ts->OM.map (·.1)=ts.map (·.1)
 |[],[],_=>rfl
 |kv::r,t::ts,h=>by rw [Gf,Gf,h.1,h.2.2.keys]
theorem kM.append: ∀{a:List (Int×FR)} {x:List (Int×Gj)} {b y},kM a x->kM b y->kM (a++b) (x++y)
 |[],[],_,_,_,h=>h
 |kv::r,t::ts,_,_,h,h2=>⟨h.1,h.2.1,h.2.2.append h2⟩
def DD (prog:HE) (w:HR) (h:Ht) (d:Gb) (ts:List (Int×Gj)):Prop:= ∃OM,h.DictOf (HI prog w) d OM/\kM OM ts
structure Old (n:Nat) (s s':FL):Prop where
 get: ∀b,b<n->s'.heap.get? b=s.heap.get? b
 gens:s'.gens=s.gens
 drawn:s'.drawn=s.drawn
 os:s'.os=s.os
theorem Old.refl (n:Nat) (s:FL):Old n s s:=⟨λ_ _=>rfl,rfl,rfl,rfl⟩
theorem Old.trans {n:Nat} {a b c:FL} (x:Old n a b) (y:Old n b c):Old n a c:=⟨λd h=>(y.get d h).trans (x.get d h),y.gens.trans x.gens,y.drawn.trans x.drawn,y.os.trans x.os⟩
noncomputable def pr (pos:HW) (t:Int×Gj):IH FR×IH FR:=(mkInt t.1,do let x<-mkText t.2;HM pos;pure x)
theorem mL (pos:HW) (n:Nat) (hn:n<=d): ∀(ts Ok:List (Int×Gj)) (s:FL) (Q:PUnit->FL->Prop),DD prog w s.heap d Ok->((Ok++ts).map (·.1)).Nodup->Ok.length+ts.length<=1000->
  (∀s',DD prog w s'.heap d (Ok++ts)->Old n s s'->s'.heap.objs.size=s.heap.objs.size->Hw d s.heap s'.heap->Q MB s')->
  Ig (FN prog w) A (forIn (ts.map (pr pos)) MB fun(x:IH FR×IH FR) (_:PUnit)=>(do let kv<-x.1;let vv<-JA [kv] x.2;JA [kv,vv] (dictSet d kv vv);pure (K1 MB):IH (ForInStep PUnit))) Q E s
 |[],Ok,s,Q,hd,Q1,hl,hQ=>by rw [JQ,MI];exact FK (hQ s (by simpa using hd) (Old.refl _ _) rfl (MX _ _))
 |t::ts,Ok,s,Q,hd,Q1,hl,hQ=>by
  rw [Gf,JC];refine FJ ?_;show Ig (FN prog w) A (mkInt t.1>>=λkv=>JA [kv] (do let x<-mkText t.2;HM pos;pure x)>>=λvv=>JA [kv,vv] (dictSet d kv vv)>>=λ_=>pure (K1 MB)) _ E s
  refine FJ (FJ (M_ (FK ?_)));refine FJ (IG (FJ (FJ (M_ (FK (FJ (Jh (FK ?_))))))));obtain⟨OM,hm,hv⟩:=hd;have hk:=hv.keys;haveI Oj:OM.length=Ok.length:=by simpa using congrArg J2 hk
  haveI hz:F_=2^24:=rfl;refine FJ (IG (wpAny_dictSet_pairs (knd:=HI prog w) (k:=t.1) (Nk prog w t.1 s.toks) hm (λh' QB hs=>FK ?_) (by exact Fx (Fx (FI Oj) (GF hl)) (by decide))))
  haveI Q9: ¬(OM.any λkv=>decide (kv.1=t.1))=FE:=by rw [List.any_eq_true];rintro⟨kv,Sb,he⟩;rw [Gv,Gf,Ij]at Q1;refine Q1.2.2 t.1 ?_ t.1 FT rfl;rw [<-hk];exact Ga.mpr ⟨kv,Sb,of_decide_eq_true he⟩
  rw [ML,if_neg Q9]at QB;refine mL pos n hn ts (Ok++[t]) _ Q ⟨_,QB,hv.append ⟨rfl,⟨_,rfl⟩,trivial⟩⟩ (by simpa using Q1) (by simp at hl ⊢;exact Fx (FI (Gh _ _ _)) hl) λs' h1 h2 h3 h4=>hQ s' (by simpa using h1) ?_ ?_ ?_
  ·exact⟨λb hb=>(h2.get b hb).trans (hs.2 b (GK (Fy hb hn))),h2.gens,h2.drawn,h2.os⟩
  ·exact h3.trans hs.1
  ·exact hs.trans h4
theorem fL (pos:HW): ∀(ts:List (Int×Gj)) (s:FL) (Q:List (FR×FR)->FL->Prop),
  (∀vs k,(∀OM:List (Int×FR),True)->(∃OM,Carries (HI prog w) vs OM/\kM OM ts)->Q vs {s with toks:=k})->Ig (FN prog w) A (evalPairs (ts.map (pr pos))) Q E s
 |[],s,Q,hQ=>evalPairs_nil (by have:=hQ [] s.toks (λ_=>trivial) ⟨[],trivial,trivial⟩;exact this)
 |t::ts,s,Q,hQ=>by
  rw [Gf];show Ig (FN prog w) A (evalPairs ((mkInt t.1,do let x<-mkText t.2;HM pos;pure x)::ts.map (pr pos))) Q E s
  refine evalPairs_cons (FJ (M_ (FK (FJ (FJ (M_ (FK (FJ (Jh (FK ?_))))))))));refine fL pos ts _ _ λvs k _ ⟨OM,hc,hv⟩=> ?_;exact hQ _ k (λ_=>trivial) ⟨(t.1,.str t.2 (s.toks+1))::OM,⟨Nk prog w t.1 s.toks,rfl,hc⟩,rfl,⟨_,rfl⟩,hv⟩
theorem pu (h:Ht) (o:N1) {b:Gb} (hb:b<h.objs.size):(h.push o).get? b=h.get? b:=by
 cases e:h.get? b with
 |some o'=>exact Hm o e
 |none=>
  cases e2:(h.push o).get? b with
  |none=>rfl
  |some o'=>
   rcases Heap.get?_push_cases e2 with⟨rfl,_⟩|q
   ·exact absurd hb (FV _)
   ·rw [e]at q;cases q
theorem pT (pos:HW) {Q:Gb->FL->Prop} (hl:ts.length<=100) (hn:(ts.map (·.1)).Nodup)
  (hQ: ∀s',DD prog w s'.heap s.heap.objs.size ts->Old s.heap.objs.size s s'->s'.heap.objs.size=s.heap.objs.size+1->Q s.heap.objs.size s'):Ig (FN prog w) A (subDict (ts.map (pr pos))) Q E s:=by
 have hp: ∀b,b<s.heap.objs.size->(s.heap.push {cls:= .type "dict",data:= .dict #[]}).get? b=s.heap.get? b:=λb hb=>pu _ _ hb;have OR:(s.heap.push {cls:= .type "dict",data:= .dict #[]}).objs.size=s.heap.objs.size+1:=GP ..
 by_cases S4:ts.length<=15
 ·refine wpAny_subDict (knd:=HI prog w) (by simpa using S4) (fL pos ts _ _ λvs k _ ⟨OM,hc,hv⟩=>⟨OM,hc,Ky s.heap,λh' hm hs=>hQ _ ⟨OM, ?_,hv⟩ ?_ ?_⟩)
  ·have:=hv.keys
   rwa [merged_nil_of_nodup OM (by rw [this];exact hn)]at hm
  ·exact⟨λb hb=>(hs.2 b (GK hb)).trans (hp b hb),rfl,rfl,rfl⟩
  ·exact hs.1.trans OR
 ·unfold subDict
  refine FJ (wpAny_alloc ?_);refine FJ (IG ?_);rw [if_neg (by simpa using S4)]
  refine FJ (Lq ?_);refine FJ (mL pos s.heap.objs.size (FH _) ts [] _ _ ⟨[],Ky s.heap,trivial⟩ (by simpa using hn) (by simp;exact Fx hl (by decide)) λs' h1 h2 h3 h4=>FK (FK (hQ s' (by simpa using h1) ?_ (h3.trans OR))))
  exact⟨λb hb=>(h2.get b hb).trans (hp b hb),h2.gens,h2.drawn,h2.os⟩
theorem wT {o:Gb} {Pf:List (Int×FR)} (SU:d≠o) (hoS:(o==Hf)=Fz) (P4:OM≠[])
  (hd:s.heap.DictOf (HI prog w) d OM) (ho:s.heap.DictOf (HI prog w) o Pf) (SN:((OM++Pf).map (·.1)).Nodup) (OR:OM.length+Pf.length<=1000)
  (hQ: ∀h',h'.DictOf (HI prog w) d (OM++Pf)->Hw d s.heap h'->Q () {s with heap:=h'}):Ig (FN prog w) A (O5 d (.ref o) Fz) Q E s:=by
 obtain⟨od,Wp,epd,W0,Vq,hdd,hkd,Vd,hnd'⟩:=id hd;obtain⟨oo,QU,epo,V_,Ro,Sj,hko,hpo,RZ⟩:=id ho;haveI hz:F_=2^24:=rfl;have Oj:Pf.length=QU.size:=by rw [<-hpo.length];simp
 have Pd:OM.length=Wp.size:=by rw [<-Vd.length];simp
 have hT:s.TypeIs (.ref o) "dict" :=ho.typeIs;unfold O5;refine FJ (wpAny_isInstance hT isSubtype_dict_dict ?_);rw [if_pos rfl];refine FJ (N6 hT PySem.F.slot_dict_iter.lookup ?_);rw [show((Fv (Value.builtin "dict.__iter__"):Option FR)==Fv (.builtin "dict.__iter__"))=FE by decide]
 refine FJ (FK ?_);dsimp only;rw [hoS,if_neg (by simp)]
 refine FJ (Mt W0 hdd ?_);haveI WQ:Wp.isEmpty=Fz:=by
  cases h:Wp.isEmpty with
  |false=>rfl
  |true=>
   have:=Array.isEmpty_iff.mp h;rw [this]at Pd;exact absurd (N9.mp Pd) P4
 rw [WQ,if_neg (by simp)]
 refine FJ (Mt V_ Sj ?_);refine FJ (wpAny_dictEpoch V_ Sj ?_);refine FJ ?_;rw [List.range_eq_range'];refine wpAny_forIn_list _
  (λrest _ s'=> ∃h' i,s'={s with heap:=h'}/\rest=GL i (QU.size-i)/\i<=QU.size/\h'.DictOf (HI prog w) d (OM++Pf.take i)/\h'.get? o=Fv oo/\Hw d s.heap h')
  _ ?_ ?_ _ _ ⟨s.heap,0,rfl,by simp,Hk _,by simpa using hd,V_,MX _ _⟩
 ·rintro x rest b s' ⟨h',i,rfl,hr,hi,Pk,hoo',Ph⟩
  have OH:i<QU.size:=by
   rcases J7 i QU.size with h|h
   ·exact h
   ·rw [Je h]at hr;simp at hr
  obtain⟨rfl,RK⟩:x=i/\rest=GL (i+1) (QU.size-(i+1)):=by
   have e:QU.size-i=(QU.size-(i+1))+1:=by exact wd OH
   rw [e,Jo]at hr;injection hr with h1 h2
   exact⟨h1,h2⟩
  refine FJ (Mt hoo' Sj ?_);rw [Jq OH];have Sl:x<Pf.length:=by rw [Oj];exact OH
  obtain⟨kv,Sb⟩: ∃kv,Pf[x]? =Fv kv:=⟨Pf[x],Ge Sl⟩;obtain⟨k,v⟩:=kv;obtain⟨Rb,Wv⟩:=hpo.get? (e:=QU[x]) (by simp [OH]) Sb
  obtain⟨k',UF,UH⟩:=hko QU[x] (O3 OH);obtain rfl:k'=k:=(HI prog w).inj _ _ _ UF Rb;haveI Q9:k'∉(OM++Pf.take x).map (·.1):=by
   intro hm;rw [<-I5 x Pf,<-Gq,Gv,Ij]at SN;refine SN.2.2 k' hm k' ?_ rfl;rw [I4 Sl,Gf];haveI:Pf[x]=(k',v):=by rw [Ge Sl]at Sb;exact FG Sb
   rw [this];exact FT
  haveI Vh:(OM++Pf.take x).length<=F_:=by rw [FP,IW];exact Fx (FM (GF OR) (Fx (Kd _ _) (Fx (Gm Sl) (NE OR)))) (by decide)
  dsimp only;rw [UH,Wv];refine FJ (IG ?_);rw [if_neg (by simp)]
  refine rZ Rb Pk Q9 Vh λRv WT Ue=> ?_;have Sx:Rv.get? o=Fv oo:=(Ue.2 o (J_ SU)).trans hoo';refine FJ (wpAny_dictEpoch Sx Sj ?_);rw [if_neg (by simp)]
  refine FK ⟨Rv,x+1,rfl,RK,OH, ?_,Sx,Ph.trans Ue⟩;rw [JP Sl,<-Gq];haveI:Pf[x]=(k',v):=by rw [Ge Sl]at Sb;exact FG Sb
  rw [this];exact WT
 ·rintro b s' ⟨h',i,rfl,hr,hi,Pk,hoo',Ph⟩
  haveI Q6:i=QU.size:=by
   rcases J7 i QU.size with h|h
   ·haveI e:QU.size-i=(QU.size-(i+1))+1:=by exact wd h
    rw [e,Jo]at hr;exact nomatch hr
   ·exact Io hi h
  refine FK (hQ h' ?_ Ph);rw [Q6,<-Oj,List.take_length]at Pk;exact Pk
end
variable {n₀:Nat}
section
noncomputable def fl (run:List (IH FR×IH FR)) (main:Option Gb):IH (Option Gb):=
 if run.isEmpty=FE then pure main else match main with
  |none=>(do let d<-subDict run;pure (Fv d))
  |some d=>(do
   let sub<-JA [.ref d] (subDict run)
   (JA [.ref d,.ref sub] (O5 d (.ref sub) Fz)).onRaise λx=>do let _<-JA [.ref d,x] (runValue (.builtin "proto.let_go" {}));pure ()
   pure (Fv d))
noncomputable def ST (prog:HE) (w:HR) (n₀:Nat) (s:FL):Option Gb->List (Int×Gj)->Prop
 |none,Ok=>Ok=[]/\s.heap.objs.size=n₀
 |some d,Ok=>d=n₀/\Ok≠[]/\n₀<s.heap.objs.size/\DD prog w s.heap d Ok
theorem AT (pos:HW) (h0:Hf<n₀) {run Ok:List (Int×Gj)} {main:Option Gb} {Q:Option Gb->FL->Prop} (hs:ST prog w n₀ s main Ok) (hr:run≠[]) (hl:Ok.length+run.length<=1000) (Tw:run.length<=100)
  (hn:((Ok++run).map (·.1)).Nodup) (hQ: ∀s',ST prog w n₀ s' (Fv n₀) (Ok++run)->Old n₀ s s'->s'.heap.objs.size=s.heap.objs.size+1->Q (Fv n₀) s'):Ig (FN prog w) A (fl (run.map (pr pos)) main) Q E s:=by
 unfold fl;rw [if_neg (by simpa using hr)]
 have Vf:(run.map (·.1)).Nodup:=by rw [Gv,Ij]at hn;exact hn.2.1
 cases main with
 |none=>
  obtain⟨rfl,rfl⟩:=hs;exact FJ (pT pos Tw Vf λs' h1 h2 h3=>FK (hQ s' ⟨rfl,by simpa using hr,Oc (Gx _) h3.symm,h1⟩ h2 h3))
 |some d=>
  obtain⟨rfl,ha,OH,hd⟩:=hs;refine FJ (IG (pT pos Tw Vf λs' h1 h2 h3=> ?_));haveI P4:d≠s.heap.objs.size:=GK OH;obtain⟨OM,hm,hv⟩:=hd;obtain⟨Pf,TL,VQ⟩:=h1;haveI QB:s'.heap.DictOf (HI prog w) d OM:=by obtain⟨o,es,ep,ho,r⟩:=hm;exact⟨o,es,ep,(h2.get d OH).trans ho,r⟩
  have l1:OM.length=Ok.length:=by simpa using congrArg J2 hv.keys
  haveI l2:Pf.length=run.length:=by simpa using congrArg J2 VQ.keys
  refine FJ (wpAny_onRaise (IG (wT P4 (beq_eq_false_iff_ne.mpr λe=> ?_) ?_ QB TL ?_ (by exact H4 (GW (Fx (FM (FI l1) (FI l2)) hl))) λh' Pk Ph=>FK (hQ _ ⟨rfl,by simp [ha], ?_,⟨_,Pk,hv.append VQ⟩⟩ ⟨λb hb=> ?_,h2.gens,h2.drawn,h2.os⟩ (Ph.1.trans h3)))))
  ·rw [e]at OH;exact absurd OH (by haveI:Hf<d:=h0;exact JK.mpr (Gm this))
  ·intro e
   rw [e]at l1;exact ha (N9.mp l1.symm)
  ·rw [Gv,hv.keys,VQ.keys,<-Gv];exact hn
  ·show d<h'.objs.size
   rw [Ph.1,h3];exact IQ OH
  ·exact(Ph.2 b (GK hb)).trans (h2.get b (HL hb OH))
theorem jG (pos:HW) (h0:Hf<n₀) (f:(Option (IH FR)×IH FR)->(Option Gb×List (IH FR×IH FR))->IH (ForInStep (Option Gb×List (IH FR×IH FR))))
  (hf: ∀(p:IH FR×IH FR) (main:Option Gb) (run:List (IH FR×IH FR)),f (Fv p.1,p.2) (main,run)=if((run++[p]).length==17)=FE then(do let main<-fl (run++[p]) main;pure (.yield (main,[])))else pure (.yield (main,run++[p]))):
  ∀(rest run Ok:List (Int×Gj)) (main:Option Gb) (s:FL) (Q:Option Gb×List (IH FR×IH FR)->FL->Prop),ST prog w n₀ s main Ok->run.length<17->Ok.length+run.length+rest.length<=1000->((Ok++run++rest).map (·.1)).Nodup->
   (∀s' Sv Rf Sg,ST prog w n₀ s' Sv Rf->Sg.length<17->Rf++Sg=Ok++run++rest->Old n₀ s s'->s'.heap.objs.size+(Sg.length+16)/17=s.heap.objs.size+(run.length+rest.length+16)/17->Q (Sv,Sg.map (pr pos)) s')->
   Ig (FN prog w) A (forIn ((rest.map (pr pos)).map λp=>(Fv p.1,p.2)) (main,run.map (pr pos)) f) Q E s
 |[],run,Ok,main,s,Q,hs,hr,hl,hn,hQ=>by rw [JQ,JQ,MI];exact FK (hQ s main Ok run hs hr (by simp) (Old.refl _ _) (by simp))
 |t::rest,run,Ok,main,s,Q,hs,hr,hl,hn,hQ=>by
  rw [Gf,Gf,JC,hf];haveI e1:run.map (pr pos)++[pr pos t]=(run++[t]).map (pr pos):=by simp
  rw [e1];have Q1:((Ok++(run++[t])++rest).map (·.1)).Nodup:=by simpa using hn
  by_cases h17:run.length+1=17
  ·rw [if_pos (by simpa using h17)]
   refine FJ (FJ (AT pos h0 hs (by simp) (by simp at hl ⊢;exact Gw (Fx (FZ _ _) (HZ hl))) (by simp;exact Fx (FI (II h17)) (by decide)) (by rw [Gv,Ij]at Q1;exact Q1.1) λs' h1 h2 h3=>FK ?_))
   refine jG pos h0 f hf rest [] (Ok++(run++[t])) (Fv n₀) s' Q h1 (by decide) (by simp at hl ⊢;exact Fx (FI (LW _ _)) hl) (by simpa using hn) λOy m' a' r' g1 g2 g3 g4 g5=>hQ Oy m' a' r' g1 g2 (by rw [g3];simp) (h2.trans g4) ?_
   rw [g5,h3];simp only [GJ,FY];exact Ey h17
  ·rw [if_neg (by simpa using h17)]
   refine FJ (FK ?_);refine jG pos h0 f hf rest (run++[t]) Ok main s Q hs (by simp;exact Kt hr h17) (by simp at hl ⊢;exact Fx (FI (LW _ _)) hl) (by simpa using hn) λOy m' a' r' g1 g2 g3 g4 g5=>hQ Oy m' a' r' g1 g2 (by rw [g3];simp) g4 ?_
   rw [g5];simp only [FP,FY,GJ];lia
theorem EV (pos:HW) {Q:FR->FL->Prop} (h0:Hf<s.heap.objs.size) (P4:ts≠[]) (hl:ts.length<=1000) (hn:(ts.map (·.1)).Nodup)
  (hQ: ∀s',DD prog w s'.heap s.heap.objs.size ts->Old s.heap.objs.size s s'->s'.heap.objs.size=s.heap.objs.size+(ts.length+16)/17->Q (.ref s.heap.objs.size) s'):
  Ig (FN prog w) A (dictDisplay ((ts.map (pr pos)).map λp=>(Fv p.1,p.2))) Q E s:=by
 unfold dictDisplay;dsimp only;refine FJ (jG pos h0 _ (λp main run=>rfl) ts [] [] Fw s _ ⟨rfl,rfl⟩ (by decide) (by simpa using hl) (by simpa using hn) λs' main Ok run h1 h2 h3 h4 h5=> ?_)
 show Ig (FN prog w) A (fl (run.map (pr pos)) main>>=λm=>match m with|some d=>pure (Ki d)|none=>newDict) Q E s'
 have R6:Ok++run=ts:=by simpa using h3
 cases run with
 |nil=>
  rw [Hg]at R6;subst R6;cases main with
  |none=>exact absurd h1.1 P4
  |some d=>
   obtain⟨rfl,_,_,hd⟩:=h1;refine FJ (FK (FK (hQ s' hd h4 ?_)));simpa using h5
 |cons t r=>
  refine FJ (AT pos h0 h1 (by simp) (by rw [<-R6]at hl;simpa using hl) (by exact Fx (Gm h2) (by decide)) (by rw [R6];exact hn) λOy g1 g2 g3=>FK (hQ Oy ?_ (h4.trans g2) ?_))
  ·rw [<-R6];exact g1.2.2.2
  ·rw [g3]
   simp only [FY,GJ]at h5 h2 ⊢
   lia
end
variable {s':FL} {o:Outcome} {P:Prop} {f:K4}
section
variable {p:HE}
theorem iE {t:Thread} (h:Step.go s t= .halt o s'):P:=nomatch h
theorem kg (n:(match o with| .done _=>False|_=>True)) (h:Step.halt o s= .halt (.done f) s'):P:=by cases h;exact n.elim
theorem C' (h:O8 o s= .halt (.done f) s'):o= .done f/\s'=s:=by
 unfold O8 at h;split at h
 ·exact kg trivial h
 ·cases h;exact⟨rfl,rfl⟩
theorem pj {den:Code->IH Fin} {t:Thread} (h:step den p w s t= .halt (.done f) s'):through t=FE/\s'=s:=by
 obtain⟨heap,gens,drawn,toks,os⟩:=s;obtain⟨cur,code,pos,stack⟩:=t;cases cur with
 |pure a=>
  cases a with
  |again c=>exact iE h
  |done g=>match stack,h with
   |[],h=>exact⟨rfl,(C' h).2⟩
   | .ret .. ::_,h=>exact iE h
   | .gen .. ::_,h=>exact iE h
 |raise e=>match stack,h with
  |[],h=>exact nomatch (C' h).1
  | .ret .. ::_,h=>exact iE h
  | .gen .. ::_,h=>exact iE h
 |unsupported _=>exact kg trivial h
 |finish e=>
  revert h;delta step;dsimp only;cases Ly gens<;>exact λh=>kg trivial h
 |load a _ k=>
  revert h;delta step;dsimp only;cases heap.get? a
  ·exact λh=>kg trivial h
  ·exact λh=>iE h
 |update a _ g k=>
  revert h;delta step;dsimp only;cases (heap.get? a).isSome
  ·exact λh=>kg trivial h
  ·exact λh=>iE h
 |choose src n k=>
  revert h;delta step;dsimp only;by_cases hn:n=0
  ·rw [if_pos hn];exact λh=>kg trivial h
  ·rw [if_neg hn];exact λh=>iE h
 |genState g k=>
  revert h;delta step;dsimp only;cases gens[g]?
  ·exact λh=>kg trivial h
  ·exact λh=>iE h
 |resume g r l k=>
  revert h;delta step;dsimp only;cases gens[g]? with
  |none=>exact λh=>kg trivial h
  |some x=>
   cases x with
   |fresh c=>
    match r with
    | .throw e=>exact λh=>iE h
    | .send v=>cases v<;>exact λh=>iE h
   |_=>exact λh=>iE h
 |yield v g0 l kk=>
  revert h;delta step;dsimp only;cases splitAtGen stack
  ·exact λh=>kg trivial h
  ·exact λh=>iE h
 |register _ _=>exact kg trivial h
 |fork _ _=>exact kg trivial h
 |await _ _=>exact kg trivial h
 |_=>exact iE h
theorem ib: ∀{n:Nat} {s s':FL} {t:Thread} {f:K4},runN (Mb M0) p w n s t= .halted (.done f) s'->(∀k s₁ t₁,runN (Mb M0) p w k s t= .running s₁ t₁->t₁.calm=FE)->s.asleep->
  ∃m t₁,schedN (Mb M0) p w m (.single s t)= .running (.single s' t₁)/\through t₁=FE
 |0,_,_,_,_,h,_,_=>by cases h
 |n+1,s,s',t,f,h,hc,hz=>by
  simp only [runN]at h;cases hs:step (Mb M0) p w s t with
  |halt o s₂=>
   rw [hs]at h;cases h;obtain⟨h1,rfl⟩:=pj hs;exact⟨0,t,rfl,h1⟩
  |go s₂ t₂=>
   rw [hs]at h;have e:sstep (Mb M0) p w (.single s t)= .go (.single s₂ t₂):=by
    rcases sstep_single (Mb M0) p w s t (hc 0 s t rfl) hz with e|e
    ·rw [e,hs];rfl
    ·rw [hs]at e;cases e
   obtain⟨m,t₁,hm,ht⟩:=ib h (λk s₁ t₁ q=>hc (k+1) s₁ t₁ (by simp only [runN,hs];exact q)) (KX (step_life (Mb M0) p w s s₂ t t₂ hs) hz)
   exact⟨m+1,t₁,by simp only [schedN,e];exact hm,ht⟩
noncomputable def cz:Ctx:=⟨.builtin "claim.caller" {},Fw,Fw,[],Fw⟩
theorem uU {s₀:FL} {t:IH Fin} {R:FL->Prop} (hz:s₀.asleep) (h:Jk (FN p w) cz t (λfin _ s'=>(∃v,fin= .done (.ret v))/\R s'/\s'.gens= #[]) (λ_ _ _=>False) Hu s₀):
  ∃n t₁ s₁,schedN (Mb M0) p w n (.single s₀ ⟨t,.builtin "claim.caller" {},Hu,[]⟩)= .running (.single s₁ t₁)/\through t₁=FE/\s₁.heap.life=s₀.heap.life/\R s₁/\s₁.gens= #[]:=by
 have h':Jk (FN p w) cz t (Sem.finPost (FN p w) cz λr s'=>((∃v,r= .ok (.ret v))/\R s'/\s'.gens= #[])/\Ly s'.gens=Fz)
   (λe _ s'=>((∃v,(.error e:Mc)= .ok (.ret v))/\R s'/\s'.gens= #[])/\Ly s'.gens=Fz) Hu s₀:=by
  refine JL (FN p w) cz t (λfin p' s' h'=> ?_) (λ_ _ _ h'=>h'.elim) Hu s₀ h;obtain⟨⟨v,rfl⟩,hR,hg⟩:=h';exact⟨⟨⟨v,rfl⟩,hR,hg⟩,by rw [hg];simp [Ly]⟩
 obtain⟨n,r,s₁,hn,⟨v,rfl⟩,hR,hg⟩:=(wp_iff_halts (M:=FN p w) (R:=λr s'=>(∃v,r= .ok (.ret v))/\R s'/\s'.gens= #[]) ..).mp h';obtain⟨s₂,hr,hf,hc⟩:=runNI_real _ _ _ hn (outcomeOf_ends _);obtain rfl:s₂=s₁:=Shared.eq_of_forget_eq hf hg;obtain⟨m,t₁,hm,ht⟩:=ib hr hc hz;exact⟨m,t₁,s₂,hm,ht,runN_life _ _ _ hr,hR,hg⟩
end
end UK
namespace UK
open PySem PySem.W PySem.Calls PyProof.Rows PySem.Challenge
noncomputable abbrev prg:HE:=pw_uk0023_02
noncomputable def Bc:Code->IH IK:=PySem.W.Fast.tw11892475500146522536 KR
noncomputable def mG (w:HR):Option FL:=(PySem.W.Fast.tw10274390034422433532 KR (O4 prg) w 20000 (KZ (O4 prg)).1 (KZ (O4 prg)).2).bind (PySem.W.Fast.tw14289696077712309145 prg)
noncomputable def cD:List Hs:=Hj prg
noncomputable def kJ:Lk:={scope:=prg.main.scope,locals:=K3,globals:=K3,cells:=[],code:= .ref 30,frame:=Fv 31}
noncomputable def kV:Ctx:=cz.enter (.body cD kJ) Fw Hu
noncomputable def ev2 {α:Type} (w:HR) (Γ:Ctx) (t:IH α) (pos:HW) (s:FL):=evT (evC Bc prg w.params 5000) prg w.params Γ t pos s
noncomputable def rfA:FR->Option Gb
 | .ref a=>Fv a
 |_=>Fw
variable {v:FR} {a:Gb}
theorem zk (h:rfA v=Fv a):v= .ref a:=by
 cases v with
 |ref=>exact congrArg Ki (FG h)
 |_=>exact nomatch h
noncomputable def B9:K4->Bool
 | .next=>FE
 |_=>Fz
theorem qu {f:K4} (h:B9 f=FE):f= .next:=by
 cases f with
 |next=>rfl
 |_=>exact nomatch h
noncomputable def okE {α β:Type} (r:Option (Except FR α×β)):Option (α×β):=r.bind λy=>y.1.toOption.map λa=>(a,y.2)
variable {α:Type}
theorem oA {β:Type} {r:Option (Except FR α×β)} {a:α} {b:β} (h:okE r=Fv (a,b)):r=Fv (.ok a,b):=by
 obtain⟨⟨y,b'⟩,e,h⟩:=FQ.mp h;rw [e];cases y with
 |ok a'=>cases h;rfl
 |error v=>exact nomatch h
noncomputable def e1 (w:HR) (s:FL):Option (HW×FL):=(okE (ev2 w cz (do let code<-KQ prg.main;let fr<-KS code K3 K3;pure (code,fr)) Hu s)).bind λy=>if(rfA y.1.1=Fv 30/\y.1.2=31)/\y.2.1=⟨0,0,0,0⟩then Fv (⟨0,0,0,0⟩,y.2.2)else Fw
noncomputable def e2 (w:HR) (x:HW×FL):Option (HW×FL):=(okE (ev2 w kV (do K_ cD kJ;Ie (cD.take 21) kJ) x.1 x.2)).bind λy=>if B9 y.1=FE then Fv y.2 else Fw
noncomputable def pF (G:Nat->N1) (tk:Nat) (li:Life) (s:FL):FL:={s with heap:=⟨s.heap.objs++((Kq 39).map G).toArray,li⟩,toks:=tk}
noncomputable def mI:Expr:=match cD[21]? with|some (Lo [t] _ _)=>t|_=> .Name ⟨#[]⟩ Hu
noncomputable def e3 (w:HR) (pos:HW) (s:FL):Option (HW×FL):=(okE (ev2 w kV (do KP mI kJ (.ref 137);Ie (cD.drop 22) kJ) pos s)).bind λy=>if B9 y.1=FE then Fv y.2 else Fw
noncomputable def ny (w:HR) (pos:HW) (G:Nat->N1) (tk:Nat) (li:Life):Option (FL×FL×FL):=
 (mG w).bind λs0=>(e1 w s0).bind λx=>(e2 w x).bind λy=>(e3 w pos (pF G tk li y.2)).bind λz=>Fv (s0,y.2,z.2)
noncomputable def qv:HE:=view prg ((Kq 34).filter λi=> !([15,16,20,22].contains i))
noncomputable def lse:List Gj:=["_twin_re_1","_twin_re_2","b1_set","b3_exceptions"]
noncomputable def uL (h:Ht):List (Option N1):=((Kq 28).filter λb=> !(b==K3||b==cStatics)).map h.get?
noncomputable def wc (h:Ht) (n:Nat):Bool:=(Kq n).all λb=>(h.get? b).isSome
noncomputable def jO:FR->FR
 | .int i _=> .int i 0
 | .str s _=> .str s 0
 |v=>v
noncomputable def ed:List (Gj×FR):=[("_iter_escaped_chars",.ref 38),("_strip_quoted_realnames",.ref 45),("_check_parenthesis",.ref 52),("_pre_parse_validation",.ref 59),("_DIV_LIMIT",.int 4000 0),("_div2n1n",.ref 66),("_div3n2n",.ref 73),("_int2digits",.ref 80),("_digits2int",.ref 87),("_divmod_pos",.ref 94),("int_divmod",.ref 101),("_twin_re_1",.ref 106),("_twin_re_2",.ref 111),("CRLF",.str ⟨#[13,10]⟩ 0),("quotedata",.ref 118),("b1_set",.ref 126),("in_table_b1",.ref 136),("b3_exceptions",.ref 137),("map_table_b3",.ref 182),("_law_heap",.ref 189),("_law_rows",.ref 194),("_law_units",.ref 201),("_law_bare",.ref 206),("_law_parts",.ref 213),("_law_height",.ref 220),("_law_needs",.ref 225),("_law_counts",.ref 230),("law",.ref 235)]
noncomputable def dSq:Data->Option (Array FR)
 | .seq vs _=>Fv vs
 |_=>Fw
variable {d:Data}
theorem Af {vs:Array FR} (h:dSq d=Fv vs): ∃n,d= .seq vs n:=by
 cases d with
 |seq v n=>exact⟨n,congrArg (λv=>Data.seq v n) (FG h)⟩
 |_=>exact nomatch h
noncomputable def dFn:Data->Option J8
 | .func fd=>Fv fd
 |_=>Fw
theorem Ag {fd:J8} (h:dFn d=Fv fd):d= .func fd:=by
 cases d with
 |func=>exact congrArg Data.func (FG h)
 |_=>exact nomatch h
noncomputable def Dh:Data->Option (Array (Int×FR)×SetTable)
 | .set es _ t=>Fv (es,t)
 |_=>Fw
theorem yu {y:Array (Int×FR)×SetTable} (h:Dh d=Fv y): ∃ep,d= .set y.1 ep y.2:=by
 cases d with
 |set es ep t=>exact⟨ep,congrArg (λy:Array (Int×FR)×SetTable=>Data.set y.1 ep y.2) (FG h)⟩
 |_=>exact nomatch h
noncomputable def w4 (h:Ht) (a c:Gb):Option (FR×Option Gb×Nat×Nat×FR×Option (Array Nat)):=
 (h.get? a).bind λo=>(dFi o.data).bind λfs=>Fv (o.cls,o.dict,MZ (fs.getD 6 .none),MZ (fs.getD 2 .none),fs.getD 5 .none,(h.get? c).bind λo=>(dSq o.data).bind λitems=>Fv ((items.map Builtin.Re.reRawOf).map (·.toNat)))
noncomputable def AC (h:Ht) (a:Gb):Option (FR×Option Gb×Nat×List (Int×FR)×Bool):=
 (h.get? a).bind λo=>(Dh o.data).bind λy=>Fv (o.cls,o.dict,o.slots.size,y.1.toList.map (λe=>(e.1,jO e.2)),y.2.fits y.1.size)
noncomputable def fX (h:Ht) (a c:Gb):Option (FR×FR):=
 (h.get? a).bind λo=>(dFn o.data).bind λfd=>(h.get? c).bind λo2=>(dFi o2.data).bind λvs=>Fv (fd.code,vs.getD 11 .none)
noncomputable def b1list:List Int:=[65024,65025,65026,65027,65028,65029,6150,65030,65031,65032,65033,6155,6156,6157,8203,8204,8205,65034,65035,65036,65037,65038,65039,173,847,8288,65279]
noncomputable def obs (h:Ht):=(ed.map (λx=>(h.nsMap He x.1).map jO),w4 h 106 105,w4 h 111 110,fX h 80 79,fX h 87 86,AC h 126,(h.get? 235).isSome&&(h.get? Hf).isSome&&h.objs.size==236)
noncomputable def B6:=(ed.map (λx=>Fv x.2),(Fv (.type "re.Pattern",Fw,0,0,.ref 105,Fv P1):Option (FR×Option Gb×Nat×Nat×FR×Option (Array Nat))),(Fv (.type "re.Pattern",Fw,0,0,.ref 110,Fv P2):Option (FR×Option Gb×Nat×Nat×FR×Option (Array Nat))),(Fv (.ref 79,.ref 75):Option (FR×FR)),(Fv (.ref 86,.ref 82):Option (FR×FR)),(Fv (.type "set",Fw,0,b1list.map (λi=>(i,.int i 0)),FE):Option (FR×Option Gb×Nat×List (Int×FR)×Bool)),FE)
noncomputable def tI (x:FL×FL×FL):=
 ((x.2.1.heap.objs.size,wc x.2.1.heap 137,x.2.1.gens.size==0),uL x.2.2.heap,(staticsOk (Lz prg.main.body) x.1.heap x.2.2.heap&&namesBound prg x.2.2.heap&&gensDone x.2.2&&laidKept x.1.heap x.2.2.heap&&x.1.heap.isNs He&&x.1.gens.size==0&&decide (x.1.heap.objs.size=28)),
  PySem.W.Fast.tw4187177175401517315 qv lse (Lz prg.main.body) (λ_=>FE) FE x.2.2,x.2.2.heap.objs[137]?,x.2.2.os,obs x.2.2.heap)
noncomputable def tM (G:Nat->N1) (x:FL×FL×FL):=((137,FE,FE),uL x.1.heap,FE,openGood qv lse,Fv (G 0),x.1.os,B6)
def Chk (w:HR):Prop:= ∀pos G tk li,(ny w pos G tk li).elim (0,Fw) (λx=>(1,Fv (tI x)))=(ny w pos G tk li).elim (1,Fw) (λx=>(1,Fv (tM G x)))
theorem Ed: ∀w:HR,Chk ((w.withFollow "set-order" Fz).withFollow "special-get-raises" Fz):=λw pos G tk li=>by kernel_rfl
theorem Eb: ∀w:HR,Chk ((w.withFollow "set-order" FE).withFollow "special-get-raises" Fz):=λw pos G tk li=>by kernel_rfl
theorem Ec: ∀w:HR,Chk ((w.withFollow "set-order" Fz).withFollow "special-get-raises" FE):=λw pos G tk li=>by kernel_rfl
theorem Ea: ∀w:HR,Chk ((w.withFollow "set-order" FE).withFollow "special-get-raises" FE):=λw pos G tk li=>by kernel_rfl
theorem chk (w:HR):Chk w:=byRow2 "special-get-raises" (P:=Chk) (byRow2 "set-order" (P:=λw=>Chk (w.withFollow "special-get-raises" Fz)) Ed Eb) (byRow2 "set-order" (P:=λw=>Chk (w.withFollow "special-get-raises" FE)) Ec Ea) w
noncomputable def Da:Option Expr->Option Int
 |some (.Constant c _ _)=>(match c with
  | .int i=>Fv i
  |_=>Fw)
 |_=>Fw
noncomputable def CQ:Expr->Option Gj
 | .Constant c _ _=>(match c with
  | .str s=>Fv s
  |_=>Fw)
 |_=>Fw
theorem xZ {e:Option Expr} {i:Int} (h:Da e=Fv i): ∃k p,e=Fv (.Constant (.int i) k p):=by
 cases e with
 |none=>exact a9 h
 |some e=>
  cases e with
  |Constant c k p=>
   cases c with
   |int j=>obtain rfl:=FG h;exact⟨k,p,rfl⟩
   |_=>exact a9 h
  |_=>exact a9 h
theorem x9 {e:Expr} {s:Gj} (h:CQ e=Fv s): ∃k p,e= .Constant (.str s) k p:=by
 cases e with
 |Constant c k p=>
  cases c with
  |str j=>obtain rfl:=FG h;exact⟨k,p,rfl⟩
  |_=>exact a9 h
 |_=>exact a9 h
noncomputable def kvT:List (Option Expr)->List Expr->Option (List (Int×Gj))
 |k::ks,v::vs=>(Da k).bind λi=>(CQ v).bind λs=>(kvT ks vs).map ((i,s)::·)
 |[],[]=>Fv []
 |_,_=>Fw
variable {Oh:Lk} {dp:HW}
theorem DA: ∀{ks:List (Option Expr)} {vs:List Expr} {ts:List (Int×Gj)},kvT ks vs=Fv ts->
  (evalEachOpt ks Oh).zip ((evalEach vs Oh).map λv=>do let x<-v;HM dp;pure x)=(ts.map (pr dp)).map λp=>(Fv p.1,p.2):=by
 intro ks;induction ks with
 |nil=>
  intro vs ts h;cases vs with
  |nil=>cases h;rfl
  |cons v vs=>exact a9 h
 |cons k ks ih=>
  intro vs ts h;cases vs with
  |nil=>exact a9 h
  |cons v vs=>
   refine ac h λi hi h=>ac h λs hs h=> ?_;obtain⟨k1,p1,rfl⟩:=xZ hi;obtain⟨k2,p2,rfl⟩:=x9 hs;obtain⟨ts',h',rfl⟩:=Gk.mp h;have:=ih h';show(Fv (Hz (.Constant (.int i) k1 p1) Oh)::evalEachOpt ks Oh).zip ((do let x<-Hz (.Constant (.str s) k2 p2) Oh;HM dp;pure x)::(evalEach vs Oh).map λv=>do let x<-v;HM dp;pure x)=_
   rw [LI,this]
   rfl
noncomputable def ki:List (Option Expr)×List Expr×HW×HW:=match cD[21]? with|some (Lo _ (.Dict ks vs dp) ap)=>(ks,vs,dp,ap)|_=>([],[],Hu,Hu)
noncomputable def iF:List (Int×Gj):=(kvT ki.1 ki.2.1).getD []
noncomputable def b3x:Gj:=match mI with| .Name x _=>x|_=>⟨#[]⟩
noncomputable def b3p:HW:=match mI with| .Name _ p=>p|_=>Hu
noncomputable def uN:List Int->Bool
 |a::b::r=>decide (a<b)&&uN (b::r)
 |_=>FE
theorem wJ: ∀{l:List Int} {a:Int},uN (a::l)=FE-> ∀b∈l,a<b
 |[],_,_,_,h=>by cases h
 |c::r,a,h,b,hb=>by
  rw [uN,GH,decide_eq_true_eq]at h;rcases FS.mp hb with rfl|hb
  ·exact h.1
  ·exact Int.lt_trans h.1 (wJ h.2 b hb)
theorem nw: ∀{l:List Int},uN l=FE->l.Nodup
 |[],_=>HX
 |a::l,h=>by
  refine H3.mpr ⟨λhm=>Int.lt_irrefl _ (wJ h a hm),nw ?_⟩;cases l with
  |nil=>rfl
  |cons b r=>rw [uN,GH]at h;exact h.2
theorem wI:mI= .Name b3x b3p:=by kernel_rfl
theorem Eo:kvT ki.1 ki.2.1=Fv iF:=by kernel_rfl
theorem rX:iF.length=650:=by kernel_rfl
theorem CH:uN (iF.map (·.1))=FE:=by kernel_rfl
theorem Aq:cD=cD.take 21++Lo [mI] (.Dict ki.1 ki.2.1 ki.2.2.1) ki.2.2.2::cD.drop 22:=by kernel_rfl
theorem Ad:Bc=Mb M0:=by unfold Bc;rw [table_eq_tree,PySem.W.Fast.te11892475500146522536,KT]
theorem xF (w:HR):mG w=fencedOpening M0 prg w 20000:=by unfold mG fencedOpening;rw [table_eq_tree,PySem.W.Fast.te10274390034422433532,KT,PySem.W.Fast.te1435165496053646825,PySem.W.Fast.te14289696077712309145]
variable {w:HR} {Γ:Ctx} {pos:HW} {s:FL} {E:FR->HW->FL->Prop}
theorem rU {t:IH α} {x:Except FR α×HW×FL} {Q:α->HW->FL->Prop} (h:ev2 w Γ t pos s=Fv x) (q:CT Q E x):
  Jk (FN prg w) Γ t Q E pos s:=by
 unfold ev2 at h;rw [Ad]at h;exact wF (M:=FN prg w) (λΓ p s r s'=>gK (M:=FN prg w) 5000 Γ p s r s') t pos s x h q
theorem jc (Oh:Lk) (b:List Hs): ∀a:List Hs,Iv (a++b) Oh=(do match<-Iv a Oh with| .next=>Iv b Oh|f=>pure f)
 |[]=>rfl
 |st::a=>by
  rw [GV,execs_cons,execs_cons,jc Oh b a];rw [bind_assoc]
  congr 1
  funext f;cases f<;>rfl
theorem DV {s':FL} (ha:wc s.heap 137=FE) (hs:s.heap.objs.size=137) (o:Old 137 s s') (hz:s'.heap.objs.size=137+39): ∃G,s'=pF G s'.toks s'.heap.life s/\s'.heap.objs[137]? =Fv (G 0):=by
 refine⟨λi=>(s'.heap.objs[137+i]?).getD Hu, ?_, ?_⟩
 ·have e:s'.heap.objs=s.heap.objs++((Kq 39).map λi=>(s'.heap.objs[137+i]?).getD Hu).toArray:=by
   apply Array.ext_getElem?;intro b;by_cases hb:b<137
   ·rw [Array.getElem?_append_left (by exact Fy hb (FI (Ha hs)))]
    have h1:=GD.mp ha b (List.mem_range.mpr hb);obtain⟨ob,h1⟩:=Ho.mp h1;have h2:=o.get b hb;rw [h1]at h2;rw [(Kr.mp h1).1,(Kr.mp h2).1]
   ·rw [Array.getElem?_append_right (by exact Fx (FI hs) (Hc hb)),hs]
    by_cases QS:b<176
    ·haveI e1:b=137+(b-137):=by exact Ha (Gz (Hc hb))
     simp only [ID,Gp];rw [List.getElem?_range (by exact IL (Hc hb) QS)]
     simp only [M1];rw [<-e1];rw [Jq (by exact Fy QS (FI (Ha hz)))]
     rfl
    ·rw [Nb (by exact Fx (FI hz) (Hc QS))]
     simp only [ID,Gp];rw [Jd (by simp;exact NO (Hc QS))]
     rfl
  obtain⟨⟨ob,li⟩,gs,dr,tk,os⟩:=s';haveI h1:gs=s.gens:=o.gens;haveI h2:dr=s.drawn:=o.drawn;haveI h3:os=s.os:=o.os;subst h1 h2 h3;unfold pF;simp only at e ⊢
  rw [<-e]
 ·simp only [Nv]
  rw [Jq (by exact Fy (by decide) (FI (Ha hz)))]
  rfl
variable {xp ap:HW} {ks:List (Option Expr)} {vs:List Expr} {ts:List (Int×Gj)} {rest:List Hs}
theorem vK {M:MD} (hM:M=FN M.prog M.w) {A:HB} (hΓ:Γ.In A) {x:Gj} {Q:K4->HW->FL->Prop}
  (hk:kvT ks vs=Fv ts) (h0:Hf<s.heap.objs.size) (P4:ts≠[]) (hl:ts.length<=1000) (hn:(ts.map (·.1)).Nodup)
  (h: ∀s' p',DD M.prog M.w s'.heap s.heap.objs.size ts->Old s.heap.objs.size s s'->s'.heap.objs.size=s.heap.objs.size+(ts.length+16)/17->Jk M Γ (do Iq (.Name x xp) Oh (.ref s.heap.objs.size);Iv rest Oh) Q E p' s'):
  Jk M Γ (Iv (Lo [.Name x xp] (.Dict ks vs dp) ap::rest) Oh) Q E pos s:=by
 rw [execs_cons,Ir];haveI A1:Ig M A (Hz (.Dict ks vs dp) Oh) (λv s'=>v= .ref s.heap.objs.size/\DD M.prog M.w s'.heap s.heap.objs.size ts/\Old s.heap.objs.size s s'/\s'.heap.objs.size=s.heap.objs.size+(ts.length+16)/17) (λ_ _=>False) s:=by rw [hM,arm_eval_Dict,DA hk];exact FJ (Jh (EV _ h0 P4 hl hn λs' h1 h2 h3=>⟨rfl,h1,h2,h3⟩))
 rw [asg];haveI e1:JM [.Name x xp] (.Dict ks vs dp) ap.line Oh=pure Fz:=mr.trans (aW rfl);rw [e1,MM];simp only [Gy,if_false];rw [Ir];show Jk M Γ (Hz (.Dict ks vs dp) Oh>>=λv=>Ih [.Name x xp] (.Dict ks vs dp) Oh>>=λd=>Kz Oh v d ((HQ [.Name x xp] Oh).map (·.2))) _ _ ap s
 rw [Ir];refine JL M Γ _ (λv p' s' hv=> ?_) (λ_ _ _ e=>e.elim) _ _ (A1 Γ ap hΓ);obtain⟨rfl,h1,h2,h3⟩:=hv;rw [cj,MM];show Jk M Γ (Iq (.Name x xp) Oh (.ref s.heap.objs.size)>>=λ_=>(pure Flow.next:IH K4)) _ _ p' s'
 have:=h s' p' h1 h2 h3;rw [Ir]at this ⊢
 exact this
variable {s0:FL}
theorem y_ {p:HE} {code:FR} {fr:Gb} {s1 s2:FL} {Rx U6:HW} {pre:List Hs} {x:Gj} {R:FL->Prop}
  (Rc:Oh={scope:=p.main.scope,locals:=K3,globals:=K3,cells:=[],code,frame:=Fv fr})
  (PZ:Hj p=pre++Lo [.Name x xp] (.Dict ks vs dp) ap::rest)
  (h1:Jk (FN p w) cz (do let code<-moduleCode p.main;let fr<-newBodyFrame code K3 K3;pure (code,fr)) (λc p' s'=>c=(code,fr)/\p'=Rx/\s'=s1) (λ_ _ _=>False) Hu s0)
  (h2:Jk (FN p w) (cz.enter (.body (Hj p) Oh) Fw Rx) (do blockStart (Hj p) Oh;Iv pre Oh) (λf p' s'=>f= .next/\p'=U6/\s'=s2) (λ_ _ _=>False) Rx s1)
  (hk:kvT ks vs=Fv ts) (h0:Hf<s2.heap.objs.size) (P4:ts≠[]) (hl:ts.length<=1000) (hn:(ts.map (·.1)).Nodup)
  (h3: ∀s' p',DD p w s'.heap s2.heap.objs.size ts->Old s2.heap.objs.size s2 s'->s'.heap.objs.size=s2.heap.objs.size+(ts.length+16)/17->
   Jk (FN p w) (cz.enter (.body (Hj p) Oh) Fw Rx) (do Iq (.Name x xp) Oh (.ref s2.heap.objs.size);Iv rest Oh) (λf _ Oy=>f= .next/\R Oy) (λ_ _ _=>False) p' s'):
  Jk (FN p w) cz (topStub p).cur (λfin _ s'=>(∃v,fin= .done (.ret v))/\R s') (λ_ _ _=>False) Hu s0:=by
 show Jk (FN p w) cz (moduleCode p.main>>=λcode=>newBodyFrame code K3 K3>>=λframe=>run (.body (Hj p) {scope:=p.main.scope,locals:=K3,globals:=K3,cells:=[],code,frame:=Fv frame})>>=λ_=>ret .none) _ _ Hu s0;rw [Ir]at h1 ⊢
 refine JL _ cz _ (λc p' s' h=> ?_) (λ_ _ _ e=>e.elim) _ _ h1;rw [Ir]at h ⊢
 refine JL _ cz _ (λf p'' Oy h=> ?_) (λ_ _ _ e=>e.elim) _ _ h;rw [Sem.wp_pure']at h;obtain⟨h4,rfl,rfl⟩:=h;cases h4;rw [<-Rc,Ir];unfold run;rw [Sem.wp_call,wpCode_iff_wp];haveI eb:(FN p w).den ((cz.enter (.body (Hj p) Oh) Fw p'').code)=(do blockStart (Hj p) Oh;let f<-(Iv (Hj p) Oh).onRaise (leaving Oh);pure (Fin.done f)):=rfl
 rw [eb];generalize cz.enter (.body (Hj p) Oh) Fw p''=Γb at h2 h3 ⊢
 rw [Ir]at h2 ⊢
 refine JL _ Γb _ (λ_ p3 s3 h=> ?_) (λ_ _ _ e=>e.elim) _ _ h2;rw [Ir,Sem.wp_onRaise];haveI:Jk (FN p w) Γb (Iv (Hj p) Oh) (λf _ Oy=>f= .next/\R Oy) (λ_ _ _=>False) p3 s3:=by rw [PZ,jc,Ir];refine JL _ Γb _ (λf p4 s4 h=> ?_) (λ_ _ _ e=>e.elim) _ _ h;obtain⟨rfl,rfl,rfl⟩:=h;let A:HB:={handled:=Γb.handled,depth:=frameCount Γb.below+Γb.code.weight,frames:=Fw,guards:=Fw,units:=Γb.units};exact vK (A:=A) rfl ⟨rfl,FH _,(λ_ h=>nomatch h),(λ_ h=>nomatch h),FH _⟩ hk h0 P4 hl hn h3
 refine JL _ Γb _ (λf p4 s4 h=> ?_) (λ_ _ _ e=>e.elim) _ _ this;obtain⟨rfl,hR⟩:=h;rw [Sem.wp_pure'];unfold Sem.finPost;simp only [Sem.wp_pure];exact⟨⟨_,rfl⟩,hR⟩
theorem xG {h h':Ht} (e:uL h=uL h') {b:Gb} (hb:b<28) (h1:b≠K3) (h2:b≠cStatics):h.get? b=h'.get? b:=by refine Jf.mp e b (GR.mpr ⟨List.mem_range.mpr hb, ?_⟩);simp [h1,h2]
def DDo (w:HR) (o:N1):Prop:= ∃es ep OM,o.ExactDict/\o.data= .dict es ep/\KeysOf (HI prg w) es/\Pairs (HI prg w) es.toList OM/\(OM.map (·.1)).Nodup/\kM OM iF
theorem Cs {x:HW×FL} (h:e1 w s=Fv x):x.1=⟨0,0,0,0⟩/\ev2 w cz (do let code<-KQ prg.main;let fr<-KS code K3 K3;pure (code,fr)) Hu s=Fv (.ok (.ref 30,31),⟨0,0,0,0⟩,x.2):=
 ac h λy e h=>by obtain⟨⟨⟨h1,h2⟩,h3⟩,h⟩:=eF h;obtain⟨⟨v,f⟩,p,s'⟩:=y;cases h;cases zk h1;cases h2;cases h3;exact⟨rfl,oA e⟩
variable {y:HW×FL}
theorem Cr {x:HW×FL} (h:e2 w x=Fv y):ev2 w kV (do K_ cD kJ;Ie (cD.take 21) kJ) x.1 x.2=Fv (.ok .next,y.1,y.2):=
 ac h λy e h=>by obtain⟨h1,h⟩:=eF h;obtain⟨f,p,s'⟩:=y;cases h;cases qu h1;exact oA e
theorem Cq (h:e3 w pos s=Fv y):ev2 w kV (do KP mI kJ (.ref 137);Ie (cD.drop 22) kJ) pos s=Fv (.ok .next,y.1,y.2):=
 ac h λy e h=>by obtain⟨h1,h⟩:=eF h;obtain⟨f,p,s'⟩:=y;cases h;cases qu h1;exact oA e
theorem gZ (pos:HW) (G:Nat->N1) (tk:Nat) (li:Life): ∃x,ny w pos G tk li=Fv x/\tI x=tM G x:=by
 have h:=chk w pos G tk li;cases e:ny w pos G tk li with
 |none=>
  rw [e]at h;haveI h2:(0:Nat)=1:=congrArg Prod.fst h;cases h2
 |some x=>
  rw [e]at h;exact⟨x,rfl,FG (congrArg Prod.snd h)⟩
variable {G:Nat->N1} {tk:Nat} {li:Life} {x:FL×FL×FL}
theorem lD (h:ny w pos G tk li=Fv x):
  ∃x1 x2 p3,mG w=Fv x.1/\e1 w x.1=Fv x1/\e2 w x1=Fv x2/\x.2.1=x2.2/\e3 w pos (pF G tk li x2.2)=Fv (p3,x.2.2):=by
 unfold ny at h;obtain⟨s0,h0,h⟩:=FQ.mp h;obtain⟨x1,h1,h⟩:=FQ.mp h;obtain⟨x2,h2,h⟩:=FQ.mp h;obtain⟨z,h3,h⟩:=FQ.mp h;cases h;exact⟨x1,x2,z.1,h0,h1,h2,rfl,h3⟩
theorem zi {x1 x2 z:HW×FL} (h0:mG w=Fv s0) (h1:e1 w s0=Fv x1) (h2:e2 w x1=Fv x2) (h3:e3 w pos (pF G tk li x2.2)=Fv z):ny w pos G tk li=Fv (s0,x2.2,z.2):=by unfold ny;rw [h0,HS,h1,HS,h2,HS,h3,HS]
set_option maxHeartbeats 0 in
theorem np:chainsOk qv=FE:=by kernel_rfl
theorem mQ (h:tI x=tM G x):openSeen qv lse (Lz prg.main.body) (λ_=>FE) FE x.2.2=openGood qv lse:=by have:=congrArg (λt=>t.2.2.2.1) h;rw [PySem.W.Fast.te4187177175401517315];exact this
theorem v0 (h:tI x=tM G x) (w:HR):x.2.2.gens= #[]:=by have:=(ground_of_open (XP:=λ_ _=>True) (w:=w) (λ_ _=>trivial) np (mQ h)).2.1;exact IV (by simpa using this)
theorem AA:cz.enter (.body (Hj prg) kJ) Fw ⟨0,0,0,0⟩=kV:=rfl
structure wN (w:HR) (s₀ s₁:FL):Prop where
 ex: ∃pos G tk li x,ny w pos G tk li=Fv (s₀,x,s₁)/\DDo w (G 0)
 gens:s₁.gens= #[]
theorem Bo {s₀:FL} (h0:mG w=Fv s₀):Jk (FN prg w) cz (topStub prg).cur (λfin _ s'=>(∃v,fin= .done (.ret v))/\wN w s₀ s') (λ_ _ _=>False) Hu s₀:=by
 obtain⟨x,hx,hs⟩:=gZ (w:=w) Hu (λ_=>Hu) 0 Hu;obtain⟨x1,x2,p3,a0,a1,a2,a4,a3⟩:=lD hx;have e0:x.1=s₀:=FG (a0.symm.trans h0);rw [e0]at a1;obtain⟨RX,b1⟩:=Cs a1;have b2:=Cr a2;have sz:x2.2.heap.objs.size=137:=by rw [<-a4];exact congrArg (λt=>t.1.1) hs
 have al:wc x2.2.heap 137=FE:=by rw [<-a4];exact congrArg (λt=>t.1.2.1) hs
 rw [RX]at b2;refine y_ (Oh:=kJ) (pre:=cD.take 21) (rest:=cD.drop 22) (s1:=x1.2) (s2:=x2.2) (Rx:=⟨0,0,0,0⟩) (U6:=x2.1) (x:=b3x) (xp:=b3p) (dp:=ki.2.2.1) (ap:=ki.2.2.2) (ks:=ki.1) (vs:=ki.2.1) (ts:=iF) rfl ?_ ?_ ?_ Eo ?_ ?_ ?_ (nw CH) ?_
 ·have:=Aq
  rw [wI]at this;exact this
 ·rw [PySem.W.Fast.te17154629097778926822,PySem.W.Fast.te12822647523644345616]
  exact rU b1 ⟨rfl,rfl,rfl⟩
 ·rw [PySem.W.Fast.te1066825118222455980,KU]
  rw [AA];exact rU b2 ⟨rfl,rfl,rfl⟩
 ·rw [sz];decide
 ·intro e
  have:=rX;rw [e]at this;cases this
 ·rw [rX];decide
 ·intro s' p' hd ho hz
  rw [sz]at hd ho hz ⊢
  rw [rX]at hz;obtain⟨G,hG,Wb⟩:=DV al sz ho hz;obtain⟨y,hy,hys⟩:=gZ (w:=w) p' G s'.toks s'.heap.life;obtain⟨y1,y2,q3,c0,c1,c2,c4,c3⟩:=lD hy;have f0:y.1=s₀:=FG (c0.symm.trans h0);rw [f0]at c1;have f1:y1=x1:=FG (c1.symm.trans a1);rw [f1]at c2;have f2:y2=x2:=FG (c2.symm.trans a2);rw [f2]at c3 c4;have b3:=Cq c3;rw [<-hG,wI,<-PySem.W.Fast.te17772580674575903948,<-KU]at b3;rw [AA];refine rU b3 ⟨rfl,⟨p',G,s'.toks,s'.heap.life,x2.2,zi h0 a1 a2 c3, ?_⟩, ?_⟩
  ·obtain⟨OM,⟨o,es,ep,h1,h2,h3,h4,h5,h6⟩,hv⟩:=hd
   have:o=G 0:=by have:=(Kr.mp h1).1;rw [Wb]at this;exact(FG this).symm
   rw [<-this];exact⟨es,ep,OM,h2,h3,h4,h5,h6,hv⟩
  ·exact v0 hys w
structure bo (w:HR) (h:Ht):Prop where
 obs:obs h=B6
 dict: ∃o,h.get? 137=Fv o/\DDo w o
 top:Top qv (looseW qv lse) (ExcName.means h) (h.nsMap He) (h.nsMap Jw) h
theorem kb (w:HR):(∃s,AfterRun (O4 prg) w s)/\ ∀s',AfterRun (O4 prg) w s'-> ∃s₀,fenceModules? prg s'=Fv s₀/\s₀.gens= #[]/\ ∃s₁,TopRan prg w s₀ s₁/\s₁.asleep/\s₁.gens= #[]/\s₁.heap.isNs He=FE/\
  Ground qv lse [] (λ_ _=>True) w s₁ (s₁.heap.nsMap He) (s₁.heap.nsMap Jw) s₁.heap/\bo w s₁.heap:=by
 obtain⟨x,hx,hs⟩:=gZ (w:=w) Hu (λ_=>Hu) 0 Hu;obtain⟨x1,x2,p3,a0,_⟩:=lD hx;have h2:=a0;rw [xF]at h2;obtain⟨s,h4,h5⟩:=FQ.mp h2;have A:=AfterImport.of_importEnds h4;refine⟨⟨s,A⟩,λs' Ph=> ?_⟩;obtain rfl:s'=s:=AfterImport.unique Ph A;have z:x.1.asleep:=KX (fence_lifeW h5) A.life;obtain⟨n,t₁,s₁,hn,ht,hl,⟨⟨pos,G,tk,li,y,hy,hd⟩,hg⟩,_⟩:=uU (p:=prg) (w:=w) (R:=wN w x.1) z (JL _ _ _ (λ_ _ _ h=>⟨h.1,h.2,h.2.gens⟩) (λ_ _ _ h=>h) _ _ (Bo a0));obtain⟨y',Rh,Qc⟩:=gZ (w:=w) pos G tk li;obtain rfl:y'=(x.1,y,s₁):=FG (Rh.symm.trans hy);obtain⟨Gr,g0,g1,g2,g3,g4,g5⟩:=ground_of_open (XP:=λ_ _=>True) (w:=w) (λ_ _=>trivial) np (mQ Qc);haveI hold:uL s₁.heap=uL x.1.heap:=congrArg (λt=>t.2.1) Qc;have hb:(staticsOk (Lz prg.main.body) x.1.heap s₁.heap&&namesBound prg s₁.heap&&gensDone s₁&&laidKept x.1.heap s₁.heap&&x.1.heap.isNs He&&x.1.gens.size==0&&decide (x.1.heap.objs.size=28))=FE:=congrArg (λt=>t.2.2.1) Qc;haveI X9:s₁.heap.objs[137]? =Fv (G 0):=congrArg (λt=>t.2.2.2.2.1) Qc;haveI S9:s₁.os=x.1.os:=congrArg (λt=>t.2.2.2.2.2.1) Qc;haveI WH:obs s₁.heap=B6:=congrArg (λt=>t.2.2.2.2.2.2) Qc;obtain⟨hb,b7⟩:=GG.mp hb;obtain⟨hb,b6⟩:=GG.mp hb;obtain⟨hb,b5⟩:=GG.mp hb;obtain⟨hb,b4⟩:=GG.mp hb;obtain⟨hb,b3⟩:=GG.mp hb;obtain⟨b1,b2⟩:=GG.mp hb;haveI z28:=of_decide_eq_true b7;refine⟨x.1,h5,IV (by simpa using b6),s₁,⟨⟨n,t₁,hn,ht⟩,hl,Shared.rest_eq S9,λb o hb hn=> ?_,g2,statics_of_ok b1,g3,g4,g5,gens_of_done b3,names_of_bound b2,laid_of_kept b4⟩,KX hl z,hg,g1,Gr,⟨WH,⟨G 0, ?_,hd⟩,Gr.T⟩⟩
 ·haveI lt:b<28:=by rw [<-z28];exact Hv hb
  rw [xG hold lt (λq=>hn (.inl q)) (λq=>hn (.inr (.inl q)))];exact hb
 ·refine Kr.mpr ⟨X9, ?_⟩
  obtain⟨es,ep,OM,_,WS,_⟩:=hd;exact NW WS
noncomputable def au (i:Nat):Gj×Kg×List Hs×KY:=match(Hj pw_uk0023_02)[i]? with
 |some (Stmt.FunctionDef n a b _ _ _ sc _ _ _)=>(n,a,b,sc)
 |_=>(⟨#[]⟩,Hu,[],Hu)
noncomputable def hnt (l:List (Gj×Nat)) (x:Gj):Nat:=(l.lookup x).getD 0
noncomputable def gtab:List (Gj×aX):=[(Go "_strip_quoted_realnames",aX.fn 0),(Go "_check_parenthesis",aX.fn 1),(Go "_pre_parse_validation",aX.fn 2),(Go "_div2n1n",aX.fn 3),(Go "_div3n2n",aX.fn 4),(Go "_int2digits",aX.fn 5),(Go "_digits2int",aX.fn 6),(Go "_divmod_pos",aX.fn 7),(Go "int_divmod",aX.fn 8),(Go "quotedata",aX.fn 9),(Go "in_table_b1",aX.fn 10),(Go "map_table_b3",aX.fn 11),(Go "_law_heap",aX.fn 12),(Go "_law_rows",aX.fn 13),(Go "_law_units",aX.fn 14),(Go "_law_bare",aX.fn 15),(Go "_law_parts",aX.fn 16),(Go "_law_height",aX.fn 17),(Go "_law_needs",aX.fn 18),(Go "_law_counts",aX.fn 19),(Go "_iter_escaped_chars",aX.gen 0),(Go "_DIV_LIMIT",aX.val 0),(Go "CRLF",aX.val 1),(Go "len",aX.bi .len),(Go "ord",aX.bi .ord),(Go "chr",aX.bi .chr),(Go "max",aX.bi .max),(Go "sum",aX.bi .sum),(Go "sorted",aX.bi .sorted),(Go "divmod",aX.bi .divmod),(Go "list",aX.ty "list"),(Go "range",aX.ty "range"),(Go "enumerate",aX.ty "enumerate"),(Go "reversed",aX.ty "reversed"),(Go "zip",aX.ty "zip")]
noncomputable def gl2 (x:Gj):Option aX:=gtab.lookup x
noncomputable def gq:List Gj:=["addr","pos","escape","ch"]
noncomputable def fc:List Gj:=["addr","start","open_pos","result","pos","ch"]
noncomputable def bM:List PS:=[.ite (.cmp .NotIn (.cS ⟨#[34]⟩) (.var 0)) [.ret (.var 0)] [],.set 1 0 (.cI 0),.set 2 0 .cN,.own 3 (.list []),.for_ (.many [4,5]) (.gen 0 [(.var 0)]) [.ite (.cmp .Eq (.var 5) (.cS ⟨#[34]⟩)) [.ite (.cmp .Is (.var 2) .cN) [.set 2 0 (.var 4)] [.ite (.cmp .NotEq (.var 1) (.var 2)) [.app 3 0 (.slice (.var 0) (.var 1) (.var 2) .cN)] [],.set 1 0 (.bin .Add (.var 4) (.cI 1)),.set 2 0 .cN]] []],.ite (.cmp .Lt (.var 1) (.bi .len [(.var 0)])) [.app 3 0 (.slice (.var 0) (.var 1) .cN .cN)] [],.ret (.meth .join (.cS ⟨#[]⟩) [(.var 3)])]
theorem fa:sSs gl2 fc (hnt [("result",9)]) (au 2).2.2.2.names 40 (au 2).2.2.1=bM:=by kernel_rfl
noncomputable def gO:List Gj:=["addr","opens","pos","ch"]
noncomputable def cP:List PS:=[.set 0 0 (.call 0 [(.var 0)]),.set 1 0 (.cI 0),.for_ (.many [2,3]) (.gen 0 [(.var 0)]) [.ite (.cmp .Eq (.var 3) (.cS ⟨#[40]⟩)) [.aug 1 .Add 0 (.cI 1)] [.ite (.cmp .Eq (.var 3) (.cS ⟨#[41]⟩)) [.aug 1 .Sub 0 (.cI 1),.ite (.cmp .Lt (.var 1) (.cI 0)) [.ret (.cB Fz)] []] []]],.ret (.cmp .Eq (.var 1) (.cI 0))]
theorem gN:sSs gl2 gO (hnt []) (au 3).2.2.2.names 40 (au 3).2.2.1=cP:=by kernel_rfl
noncomputable def fN:List Gj:=["email_header_fields","accepted_values","v"]
noncomputable def cb:List PS:=[.own 1 (.list []),.for_ (.one 2) (.ex (.var 0)) [.ite (.not (.call 1 [(.var 2)])) [.set 2 0 (.cS ⟨#[40,39,39,44,32,39,39,41]⟩)] [],.app 1 0 (.var 2)],.ret (.var 1)]
theorem fM:sSs gl2 fN (hnt [("accepted_values",9)]) (au 4).2.2.2.names 40 (au 4).2.2.1=cb:=by kernel_rfl
noncomputable def bR:List Gj:=["data"]
noncomputable def c9:List Gj:=["code"]
noncomputable def bh:List Gj:=["code","r"]
noncomputable def qT:List Gj:=["script","place"]
noncomputable def dv:List PS:=[.ret (.bin .Add (.idx (.list [(.cI 19),(.cI 20),(.cI 1390),(.bin .Pow (.cI 7) (.cI 40)),(.bin .Pow (.cI 3) (.cI 20))]) (.var 1)) (.bi .sum [(.slice (.var 0) (.var 1) .cN (.cI 5))]))]
theorem qN:sSs gl2 qT (hnt []) (au 24).2.2.2.names 40 (au 24).2.2.1=dv:=by kernel_rfl
noncomputable def qS:List Gj:=["pairs","rows","far",".0","row","sign","most"]
noncomputable def cO:List PS:=[.set 1 0 (.list [(.cS ⟨#[40]⟩)]),.for_ (.one 2) (.ex (.rng [(.bin .Sub (.bin .Mult (.cI 2) (.var 0)) (.cI 2))])) [.set 1 0 (.comp2 [3,4,5,6] (.one 4) (.ex (.var 1)) [] (.many [5,6]) (.ex (.list [(.tup [(.cS ⟨#[40]⟩),(.var 0)]),(.tup [(.cS ⟨#[41]⟩),(.bin .Sub (.var 0) (.cI 1))])])) [(.cmp .Lt (.meth .count (.var 4) [(.var 5)]) (.var 6))] (.bin .Add (.var 4) (.var 5)))],.ret (.comp1 [3,4] (.one 4) (.ex (.var 1)) [] (.bin .Add (.var 4) (.cS ⟨#[41]⟩)))]
theorem qM:sSs gl2 qS (hnt []) (au 25).2.2.2.names 40 (au 25).2.2.1=cO:=by kernel_rfl
noncomputable def oX:List Gj:=["row","way","first","second","closed","hidden"]
noncomputable def j7:List PS:=[.set 2 0 (.bin .Add (.cI 1) (.bin .Mod (.bin .FloorDiv (.var 1) (.cI 32)) (.bin .Sub (.bi .len [(.var 0)]) (.cI 1)))),.set 3 0 (.bin .Add (.var 2) (.bin .Mod (.bin .FloorDiv (.var 1) (.cI 5)) (.bin .Sub (.bi .len [(.var 0)]) (.var 2)))),.set 4 0 (.idx (.list [(.cS ⟨#[]⟩),(.cS ⟨#[34,40,41,34]⟩),(.cS ⟨#[34,40,34]⟩),(.cS ⟨#[34,92,34,41,34]⟩)]) (.bin .Mod (.var 1) (.cI 4))),.set 5 0 (.idx (.list [(.cS ⟨#[]⟩),(.cS ⟨#[92,41]⟩),(.cS ⟨#[34,41,34]⟩),(.cS ⟨#[92,92]⟩),(.cS ⟨#[34,40,34]⟩),(.cS ⟨#[92,34]⟩),(.cS ⟨#[34,40,92,34,34]⟩),(.cS ⟨#[34]⟩)]) (.bin .Mod (.bin .FloorDiv (.var 1) (.cI 4)) (.cI 8))),.ret (.bin .Add (.bin .Add (.bin .Add (.bin .Add (.listOf (.slice (.var 0) .cN (.var 2) .cN)) (.list [(.var 4)])) (.listOf (.slice (.var 0) (.var 2) (.var 3) .cN))) (.list [(.var 5)])) (.listOf (.slice (.var 0) (.var 3) .cN .cN)))]
theorem oQ:sSs gl2 oX (hnt []) (au 26).2.2.2.names 40 (au 26).2.2.1=j7:=by kernel_rfl
noncomputable def qU:List Gj:=["units",".0","unit"]
noncomputable def gH:List PS:=[.ret (.meth .join (.cS ⟨#[]⟩) [(.comp1 [1,2] (.one 2) (.ex (.var 0)) [(.cmp .In (.var 2) (.list [(.cS ⟨#[40]⟩),(.cS ⟨#[41]⟩)]))] (.var 2))])]
theorem qO:sSs gl2 qU (hnt []) (au 27).2.2.2.names 40 (au 27).2.2.1=gH:=by kernel_rfl
noncomputable def oY:List Gj:=["units","k","told"]
noncomputable def j8:List PS:=[.for_ (.one 1) (.ex (.rng [(.cI 1),(.bi .len [(.var 0)])])) [.ite (.cmp .Eq (.idx (.var 0) (.var 1)) (.cS ⟨#[41]⟩)) [.set 2 0 (.call 1 [(.meth .join (.cS ⟨#[]⟩) [(.slice (.var 0) .cN (.bin .Add (.var 1) (.cI 1)) .cN)])]),.ite (.cmp .Is (.var 2) (.cB FE)) [.ret (.list [(.call 15 [(.slice (.var 0) (.cI 1) (.var 1) .cN)]),(.call 15 [(.slice (.var 0) (.bin .Add (.var 1) (.cI 1)) .cN .cN)])])] [],.ite (.cmp .IsNot (.var 2) (.cB Fz)) [.ret (.list [])] []] []],.ret (.list [])]
theorem oR:sSs gl2 oY (hnt []) (au 28).2.2.2.names 40 (au 28).2.2.1=j8:=by kernel_rfl
noncomputable def mz:List Gj:=["row","height","greatest","sign"]
noncomputable def ee:List PS:=[.set 1 0 (.cI 0),.set 2 0 (.cI 0),.for_ (.one 3) (.ex (.var 0)) [.aug 1 .Add 0 (.ife (.cmp .Eq (.var 3) (.cS ⟨#[40]⟩)) (.cI 1) (.neg (.cI 1))),.set 2 0 (.bi .max [(.var 2),(.var 1)])],.ret (.var 2)]
theorem mx:sSs gl2 mz (hnt []) (au 29).2.2.2.names 40 (au 29).2.2.1=ee:=by kernel_rfl
noncomputable def oZ:List Gj:=["parts","needs","heap","veils","stays","codes","meant","names","due","lines","t","way","stay","both","veil","first","order","ends","tail","sent","signs","read","dots",".0","part","k","sign","row","name"]
noncomputable def aO:List PS:=[.set 3 0 (.bin .Add (.list [(.cI 173),(.cI 847),(.cI 6150),(.cI 6155),(.cI 6156),(.cI 6157),(.cI 8203),(.cI 8204),(.cI 8205),(.cI 8288),(.cI 65279)]) (.listOf (.rng [(.cI 65024),(.cI 65040)]))),.own 4 (.list [(.cI 172),(.cI 174),(.cI 846),(.cI 848),(.cI 6149),(.cI 6151),(.cI 6154),(.cI 6158),(.cI 8202),(.cI 8206),(.cI 8287),(.cI 8289),(.cI 65023),(.cI 65040),(.cI 65278),(.cI 65280)]),.augL 4 (.list [(.cI 11),(.cI 28),(.cI 133),(.cI 8232)]),.own 5 (.list [(.cI 13169),(.cI 13171),(.cI 13173),(.cI 13184),(.cI 13185),(.cI 13187),(.cI 13188),(.cI 13189),(.cI 13190),(.cI 13191),(.cI 13194),(.cI 13195),(.cI 13200),(.cI 13201),(.cI 13202),(.cI 13203)]),.augL 5 (.list [(.cI 13204),(.cI 13226),(.cI 13227),(.cI 13228),(.cI 64256),(.cI 64257),(.cI 64258),(.cI 13256),(.cI 13257),(.cI 13259),(.cI 13261),(.cI 13262),(.cI 13271),(.cI 64259),(.cI 64260),(.cI 64261)]),.set 6 0 (.cS ⟨#[104,112,97,32,97,117,32,111,118,32,112,97,32,110,97,32,109,97,32,107,97,32,107,98,32,109,98,32,103,98,32,112,102,32,110,102,32,104,122,32,107,104,122,32,109,104,122,32,103,104,122,32]⟩),.set 6 0 (.meth .split (.bin .Add (.var 6) (.cS ⟨#[116,104,122,32,107,112,97,32,109,112,97,32,103,112,97,32,102,102,32,102,105,32,102,108,32,100,98,32,103,121,32,104,112,32,107,107,32,107,109,32,112,104,32,102,102,105,32,102,102,108,32,115,116]⟩)) [(.cS ⟨#[32]⟩)]),.own 7 (.list []),.own 8 (.list []),.own 9 (.list []),.for_ (.one 10) (.ex (.rng [(.bi .len [(.var 0)])])) [.set 11 0 (.bin .Add (.var 2) (.var 10)),.set 12 2 (.bi .chr [(.idx (.var 4) (.bin .Mod (.var 11) (.cI 20)))]),.set 13 0 (.comp1 [23,24] (.one 24) (.ex (.idx (.var 0) (.var 10))) [] (.idx (.var 1) (.var 24))),.set 14 0 (.ife (.cmp .Eq (.idx (.var 13) (.cI 0)) (.idx (.var 13) (.cI 1))) (.cS ⟨#[]⟩) (.bi .chr [(.idx (.var 3) (.bin .Mod (.var 11) (.cI 27)))])),.ite (.boolop FE [(.cmp .NotEq (.var 14) (.cS ⟨#[]⟩)),(.cmp .IsNot (.call 10 [(.var 14)]) (.cB FE))]) [.ret (.list [])] [],.app 7 2 (.bin .Add (.bin .Add (.idx (.var 6) (.bin .Mod (.var 11) (.cI 32))) (.bi .chr [(.bin .Add (.cI 97) (.bin .Mod (.var 11) (.cI 26)))])) (.var 12)),.app 8 2 (.ife (.cmp .Eq (.idx (.var 13) (.cI 0)) (.idx (.var 13) (.cI 1))) (.bin .Add (.cI 2) (.idx (.var 13) (.cI 0))) (.bin .Add (.cI 1) (.bi .max [(.var 13)]))),.app 9 2 (.bin .Add (.bin .Add (.bin .Add (.bin .Add (.var 14) (.bin .Mult (.cS ⟨#[46]⟩) (.bin .Add (.cI 1) (.bi .max [(.var 13)])))) (.bi .chr [(.idx (.var 5) (.bin .Mod (.var 11) (.cI 32)))])) (.bi .chr [(.bin .Add (.cI 65) (.bin .Mod (.var 11) (.cI 26)))])) (.var 12))],.set 15 3 (.bin .Mod (.var 2) (.bi .len [(.var 9)])),.set 16 0 (.bin .Add (.slice (.var 9) (.var 15) .cN .cN) (.slice (.var 9) .cN (.var 15) .cN)),.set 17 0 (.list [(.cS ⟨#[10]⟩),(.cS ⟨#[13]⟩),(.cS ⟨#[13,10]⟩)]),.set 18 0 (.bin .Add (.cS ⟨#[13,13,10,46]⟩) (.idx (.list [(.cS ⟨#[]⟩),(.cS ⟨#[10]⟩)]) (.bin .Mod (.var 2) (.cI 2)))),.set 19 0 (.call 9 [(.bin .Add (.meth .join (.cS ⟨#[]⟩) [(.comp1 [23,25] (.one 25) (.ex (.rng [(.bi .len [(.var 16)])])) [] (.bin .Add (.idx (.var 16) (.var 25)) (.idx (.var 17) (.bin .Mod (.bin .Add (.var 2) (.var 25)) (.cI 3)))))]) (.var 18))]),.set 20 0 (.comp1 [23,26] (.one 26) (.ex (.var 19)) [(.cmp .Is (.call 10 [(.var 26)]) (.cB Fz))] (.var 26)),.set 21 0 (.meth .split (.meth .join (.cS ⟨#[]⟩) [(.comp1 [23,26] (.one 26) (.ex (.var 20)) [] (.ife (.cmp .In (.var 26) (.cS ⟨#[46,13,10]⟩)) (.var 26) (.call 11 [(.var 26)])))]) [(.cS ⟨#[13,10]⟩)]),.set 22 0 (.dcomp [23,27] (.one 27) (.ex (.slice (.var 21) .cN (.bi .len [(.var 9)]) .cN)) [] (.meth .lstrip (.var 27) [(.cS ⟨#[46]⟩)]) (.bin .Sub (.bi .len [(.var 27)]) (.bi .len [(.meth .lstrip (.var 27) [(.cS ⟨#[46]⟩)])]))),.ite (.boolop Fz [(.cmp .NotEq (.slice (.var 21) (.bi .len [(.var 9)]) .cN .cN) (.bin .Add (.list [(.cS ⟨#[]⟩),(.cS ⟨#[]⟩),(.cS ⟨#[46,46]⟩)]) (.bin .Mult (.list [(.cS ⟨#[]⟩)]) (.bin .Mod (.var 2) (.cI 2))))),(.cmp .NotEq (.comp1 [23,28] (.one 28) (.ex (.var 7)) [(.cmp .In (.var 28) (.var 22))] (.idx (.var 22) (.var 28))) (.var 8))]) [.ret (.list [])] [],.ret (.comp1 [23,28] (.one 28) (.ex (.var 7)) [] (.bin .Sub (.idx (.var 22) (.var 28)) (.cI 1)))]
theorem oU:sSs gl2 oZ (hnt [("names",11),("due",11),("lines",11),("stays",9),("codes",9),("stay",2),("first",3)]) (au 30).2.2.2.names 40 (au 30).2.2.1=aO:=by kernel_rfl
noncomputable def mA:List Gj:=["bound","most","width","units","factor","extra","side","upper","lower","far","dividend","divisor","quotient","rest",".0","one","two"]
noncomputable def aA:List PS:=[.setT [4,5,6] 0 (.var 3),.set 7 0 (.list [(.cI 1),(.cI 0),(.cI 0),(.cI 0),(.cI 0)]),.set 8 0 (.list [(.cI 1),(.cI 0),(.cI 0),(.cI 0),(.cI 0)]),.for_ (.one 9) (.ex (.rng [(.var 0)])) [.swap [7,8] [(.var 8),(.comp1 [14,15,16] (.many [15,16]) (.zip (.var 8) (.bin .Add (.list [(.cI 0)]) (.slice (.var 7) .cN (.cI 4) .cN))) [] (.bin .Sub (.var 15) (.var 16)))]],.set 10 0 (.bin .Mult (.var 6) (.bin .Add (.bin .Mult (.bin .LShift (.call 6 [(.slice (.var 7) .cN .cN (.neg (.cI 1))),(.var 2)]) (.bin .Mult (.var 1) (.var 2))) (.var 4)) (.var 5))),.set 11 0 (.bin .Mult (.bin .Mult (.var 6) (.call 6 [(.slice (.var 8) .cN .cN (.neg (.cI 1))),(.var 2)])) (.var 4)),.setT [12,13] 0 (.call 8 [(.var 10),(.var 11)]),.ite (.cmp .NotEq (.bin .Add (.bin .Mult (.var 12) (.var 11)) (.var 13)) (.var 10)) [.ret (.list [])] [],.ite (.cmp .NotEq (.call 8 [(.neg (.bin .LShift (.var 11) (.bin .Mult (.var 1) (.var 2)))),(.var 11)]) (.tup [(.neg (.bin .LShift (.cI 1) (.bin .Mult (.var 1) (.var 2)))),(.cI 0)])) [.ret (.list [])] [],.ret (.slice (.call 5 [(.var 12),(.var 2)]) .cN .cN (.neg (.cI 1)))]
theorem my:sSs gl2 mA (hnt []) (au 31).2.2.2.names 40 (au 31).2.2.1=aA:=by kernel_rfl
noncomputable def lf:List Gj:=["script","total","most","heap","pairs","rows","units","texts","told","kept","needs","by_size","ranks","chosen","parts","found","width","factor","numbers","s","counts",".0","row","t","need"]
noncomputable def l4:List PS:=[.set 1 0 (.bi .sum [(.var 0)]),.set 2 0 (.ife (.cmp .Eq (.bin .Mod (.var 1) (.cI 50)) (.cI 25)) (.cI 4) (.cI 3)),.set 3 0 (.call 12 [(.var 0),(.cI 0)]),.set 5 0 (.comp2 [21,4,22] (.one 4) (.ex (.rng [(.cI 1),(.bin .Add (.var 2) (.cI 1))])) [] (.one 22) (.ex (.call 13 [(.var 4)])) [] (.var 22)),.set 6 0 (.comp1 [21,23] (.one 23) (.ex (.rng [(.bi .len [(.var 5)])])) [] (.call 14 [(.idx (.var 5) (.var 23)),(.bin .Add (.var 3) (.bin .Mult (.cI 7) (.var 23)))])),.set 7 0 (.comp1 [21,22] (.one 22) (.ex (.var 6)) [] (.meth .join (.cS ⟨#[]⟩) [(.var 22)])),.set 8 0 (.call 2 [(.listOf (.var 7))]),.set 9 0 (.comp1 [21,23] (.one 23) (.ex (.rng [(.bi .len [(.var 5)])])) [(.cmp .Eq (.idx (.var 8) (.var 23)) (.idx (.var 7) (.var 23)))] (.var 23)),.ite (.boolop Fz [(.cmp .Eq (.var 9) (.list [])),(.cmp .NotEq (.var 8) (.comp1 [21,23] (.one 23) (.ex (.rng [(.bi .len [(.var 5)])])) [] (.ife (.cmp .In (.var 23) (.var 9)) (.idx (.var 7) (.var 23)) (.cS ⟨#[40,39,39,44,32,39,39,41]⟩))))]) [.ret (.cB Fz)] [],.ite (.cmp .IsNot (.call 1 [(.slice (.idx (.var 7) (.idx (.var 9) (.bin .Mod (.var 3) (.bi .len [(.var 9)])))) (.cI 1) .cN .cN)]) (.cB Fz)) [.ret (.cB Fz)] [],.own 10 (.dic1 ⟨#[]⟩ (.cI 0)),.own 11 (.list [(.list [(.cI 0)])]),.own 12 (.list [(.list [(.bin .Sub (.bi .len [(.call 5 [(.cI 1),(.cI 1)])]) (.cI 1))])]),.for_ (.one 4) (.ex (.rng [(.cI 1),(.bin .Add (.var 2) (.cI 1))])) [.set 13 0 (.comp1 [21,23] (.one 23) (.ex (.var 9)) [(.cmp .Eq (.bi .len [(.idx (.var 5) (.var 23))]) (.bin .Mult (.cI 2) (.var 4)))] (.var 23)),.set 14 0 (.comp1 [21,23] (.one 23) (.ex (.var 13)) [] (.call 16 [(.idx (.var 6) (.var 23))])),.ite (.boolop Fz [(.cmp .Eq (.var 14) (.list [])),(.cmp .NotEq (.comp1 [21,22] (.one 22) (.ex (.var 14)) [(.boolop Fz [(.cmp .NotEq (.bi .len [(.var 22)]) (.cI 2)),(.cmp .NotIn (.idx (.var 22) (.cI 0)) (.var 10)),(.cmp .NotIn (.idx (.var 22) (.cI 1)) (.var 10))])] (.var 22)) (.list []))]) [.ret (.cB Fz)] [],.set 15 1 (.call 18 [(.var 14),(.var 10),(.bin .Add (.call 12 [(.var 0),(.cI 1)]) (.bin .Mult (.cI 9) (.var 4)))]),.ite (.cmp .NotEq (.bi .len [(.var 15)]) (.bi .len [(.var 13)])) [.ret (.cB Fz)] [],.upd 10 (.dcomp [21,23] (.one 23) (.ex (.rng [(.bi .len [(.var 13)])])) [] (.idx (.var 5) (.idx (.var 13) (.var 23))) (.idx (.var 15) (.var 23))),.app 11 0 (.bi .sorted [(.var 15)]),.app 12 0 (.bi .sorted [(.comp1 [21,23] (.one 23) (.ex (.var 13)) [] (.bin .Sub (.bi .len [(.call 5 [(.bin .Add (.cI 1) (.call 17 [(.idx (.var 5) (.var 23))])),(.cI 1)])]) (.cI 1)))])],.ite (.cmp .NotEq (.var 12) (.var 11)) [.ret (.cB Fz)] [],.set 16 0 (.bin .Add (.cI 16) (.bin .Mod (.call 12 [(.var 0),(.cI 2)]) (.cI 1400))),.set 17 0 (.bin .Add (.cI 1) (.bin .Mod (.call 12 [(.var 0),(.cI 3)]) (.bin .Pow (.cI 2) (.cI 90)))),.set 18 0 (.tup [(.var 17),(.bin .Mod (.call 12 [(.var 0),(.cI 4)]) (.var 17)),(.bin .Sub (.cI 1) (.bin .Mult (.cI 2) (.bin .Mod (.bin .FloorDiv (.var 1) (.cI 4)) (.cI 2))))]),.for_ (.one 19) (.ex (.rng [(.cI 3)])) [.set 20 3 (.comp1 [21,22] (.one 22) (.ex (.var 11)) [] (.bi .len [(.comp1 [21,24] (.one 24) (.ex (.var 22)) [(.cmp .LtE (.var 24) (.var 19))] (.var 24))])),.ite (.cmp .NotEq (.call 19 [(.bin .Sub (.bin .Pow (.cI 2) (.bin .Add (.var 19) (.cI 1))) (.cI 2)),(.var 2),(.var 16),(.var 18)]) (.var 20)) [.ret (.cB Fz)] []],.ret (.cB FE)]
theorem Bt:sSs gl2 lf (hnt [("by_size",9),("ranks",9),("found",1),("counts",3)]) (au 32).2.2.2.names 40 (au 32).2.2.1=l4:=by kernel_rfl
noncomputable def vX:List Nat:=[1,2,3,4,7,8,9,10,11,12,17,20,22,24,25,26,27,28,29,30,31,32]
set_option maxHeartbeats 0 in
theorem zl:(recsOf qv).map (λd=>(d.name,d.params,d.body,d.scope))=vX.map au:=by kernel_rfl
variable {k:Nat}
theorem BE (hk:k∈vX): ∃d∈recsOf qv,(d.name,d.params,d.body,d.scope)=au k:=by
 haveI:au k∈(recsOf qv).map (λd=>(d.name,d.params,d.body,d.scope)):=by rw [zl];exact Gs hk
 obtain⟨d,hd,e⟩:=Ga.mp this;exact⟨d,hd,e⟩
variable {n:Gj}
section
variable {H:Ht}
theorem w7 (X:bo w H) (h:(n,v)∈ed): ∃v',H.nsMap He n=Fv v'/\jO v'=v:=by haveI e:ed.map (λx=>(H.nsMap He x.1).map jO)=ed.map (λx=>Fv x.2):=congrArg Prod.fst X.obs;have:=Jf.mp e (n,v) h;exact Gk.mp this
theorem vq (h:jO v= .ref a):v= .ref a:=by cases v<;>first|exact h|cases h
theorem rR (X:bo w H) (h:(n,Ki a)∈ed):H.nsMap He n=Fv (.ref a):=by obtain⟨v,h1,h2⟩:=w7 X h;rw [h1,vq h2]
theorem gF (X:bo w H) (h:(n,Ki a)∈ed):cC H n (.ref a):=⟨_,_,X.top.g,X.top.b,.inl (rR X h)⟩
theorem Cd (X:bo w H) (hk:k∈vX) (hn:(au k).1=n) (ha:(n,Ki a)∈ed):
  ∃o pm cd Oz c P,H.get? a=Fv o/\o.data= .func (O9 n (au k).2.1 (au k).2.2.1 (au k).2.2.2 pm cd Oz)/\ej H cd n/\cd= .ref c/\H.IsCode c P #[]/\H.TableAt c P #[]:=by
 obtain⟨d,hd,e⟩:=BE hk;obtain⟨a1,o,pm,cd,Oz,h1,h2,h3,h4⟩:=X.top.fn d hd;obtain⟨a2,o2,fd,c,P,g1,g2,g3,g4,g5,g6⟩:=X.top.tab d hd;have en:d.name=n:=by rw [<-hn,<-e]
 rw [en,rR X ha]at h1 g1;cases h1;cases g1;rw [h2]at g2;cases g2;rw [h3]at g3;have g3:_=fd:=Data.func.inj g3;subst g3;have Wq:cd= .ref c:=g4;refine⟨o,pm,cd,Oz,c,P,h2, ?_, ?_,Wq,g5,g6⟩
 ·rw [h3,<-en,<-e]
 ·obtain⟨c',o',vs,t,e1,e2,e3,e4⟩:=h4
  rw [Wq]at e1;cases e1;obtain⟨⟨o3,vs3,f1,f2,f3,f4⟩,_⟩:=g6;rw [e2]at f1;cases f1;exact⟨c,o',vs,t,Wq,e2,by rw [f2];exact λq=>(by cases q),e3,by rw [<-en];exact e4⟩
noncomputable def yL (k:Nat) (params Og:List Gj):Bool:=
 (au k).2.2.2.kind== .function&& !(au k).2.2.2.isCoroutine&& !(au k).2.2.2.isGenerator&&decide params.Nodup&&params.all (λx=>Og.contains x)&&
  params.all (λx=>(au k).2.2.2.names.lookup x==Fv .local||(au k).2.2.2.names.lookup x==Fv .cell)&&(au k).2.2.2.names.all (λp=>p.2 != .free)
end
end UK
namespace UK
open PySem PySem.W PySem.Calls PyProof.Rows
open PySem.Builtin.Str (strSliceIndices)
theorem AL (a:Option Int) (n:Nat):strSliceIndices a Fw 1 n=strSliceIndices a (Fv (n:Int)) 1 n:=by
 unfold strSliceIndices;simp only [show((1:Int)>0)=True from by simp,if_true]
 congr 1
 haveI: ¬((n:Int)<0):=by exact J0 (Gd _)
 simp only [this,if_false];lia
theorem AK (b:Option Int) (n:Nat):strSliceIndices Fw b 1 n=strSliceIndices (Fv ((0:Nat):Int)) b 1 n:=by
 unfold strSliceIndices;simp only [show((1:Int)>0)=True from by simp,if_true]
 congr 1
variable {α:Type}
theorem gE (xs:List α) (lo hi:Option Int):fg xs lo hi Fw=(strSliceIndices lo hi 1 xs.length).filterMap (xs[·]?):=rfl
variable {a b:Nat}
theorem ou (xs:List α) (Pl:a<=b) (hb:b<=xs.length):fg xs (Fv a) (Fv b) Fw=(xs.drop a).take (b-a):=by rw [gE,KM Pl hb];exact PySem.StrLaws.picks xs (b-a) a (by exact Fx (FI (Gz Pl)) hb)
theorem rK (xs:List α) (ha:a<=xs.length):fg xs (Fv a) Fw Fw=xs.drop a:=by rw [gE,AL,<-gE,ou xs ha (FH _),H1 (by simp)]
theorem rJ (xs:List α) (hb:b<=xs.length):fg xs Fw (Fv b) Fw=xs.take b:=by rw [gE,AK,<-gE];exact ou xs (Hk _) hb
variable {x:Gj}
theorem nH (Pl:a<=b) (hb:b<=x.length) (hx:x.length<=F_):aR (.str x) (.int a) (.int b) .none=Fv (.str ⟨((x.cps.toList.drop a).take (b-a)).toArray⟩):=by
 haveI e:=PySem.StrLaws.sliced_plain x Pl hb;have hl:(strSliceIndices (Fv (a:Int)) (Fv (b:Int)) 1 x.length).length=b-a:=by rw [KM Pl hb];simp
 show(if(1:Int)=0∨F_<(strSliceIndices (Fv (a:Int)) (Fv (b:Int)) 1 x.length).length then Fw else Fv (PV.str (if((1:Int)==1&&(strSliceIndices (Fv (a:Int)) (Fv (b:Int)) 1 x.length).length==x.length)=FE then x else⟨((strSliceIndices (Fv (a:Int)) (Fv (b:Int)) 1 x.length).filterMap (x.cps[·]?)).toArray⟩)))=_
 rw [if_neg (by rw [hl];lia),e,hl]
 by_cases h:b-a=x.length
 ·rw [if_pos (by simp [h])]
  haveI h0:a=0:=aZ hb Pl h;haveI h1:b=x.length:=by exact Io hb (Fx (FI (Ha h)) (Lb _ _))
  subst h0;rw [h1,Ji,Nat.sub_zero,H1 (by simp [IB])]
 ·rw [if_neg (by simp [h])]
theorem AE (ha:a<=x.length) (hx:x.length<=F_):aR (.str x) (.int a) .none .none=Fv (.str ⟨(x.cps.toList.drop a).toArray⟩):=by
 have:=nH ha (FH _) hx;rw [H1 (by simp [IB])]at this
 rw [<-this];show(if(1:Int)=0∨F_<(strSliceIndices (Fv (a:Int)) Fw 1 x.length).length then Fw else Fv (PV.str (if((1:Int)==1&&(strSliceIndices (Fv (a:Int)) Fw 1 x.length).length==x.length)=FE then x else⟨((strSliceIndices (Fv (a:Int)) Fw 1 x.length).filterMap (x.cps[·]?)).toArray⟩)))=_
 rw [AL]
 rfl
structure SM where
 done:List Nat
 a:List Nat
 b:Option (List Nat)
 esc:Bool
noncomputable def SM.put (m:SM) (c:Nat):SM:=match m.b with
 |none=>{m with a:=m.a++[c]}
 |some b=>{m with b:=Fv (b++[c])}
noncomputable def SM.step (m:SM) (c:Nat):SM:=
 if m.esc=FE then {m.put c with esc:=Fz}else if c=92 then {m.put c with esc:=FE}else if c=34 then(match m.b with
  |none=>{m with b:=Fv [34]}
  |some _=>{m with done:=m.done++m.a,a:=[],b:=Fw})else m.put c
noncomputable def SM.fin (m:SM):List Nat:=m.done++m.a++(m.b.getD [])
noncomputable def SM.run (m:SM) (l:List Nat):SM:=l.foldl SM.step m
noncomputable def aY (l:List Nat):List Nat:=(SM.run ⟨[],[],Fw,Fz⟩ l).fin
noncomputable def kZ:List PS:=[.ite (.cmp .Eq (.var 5) (.cS ⟨#[34]⟩)) [.ite (.cmp .Is (.var 2) .cN) [.set 2 0 (.var 4)] [.ite (.cmp .NotEq (.var 1) (.var 2)) [.app 3 0 (.slice (.var 0) (.var 1) (.var 2) .cN)] [],.set 1 0 (.bin .Add (.var 4) (.cI 1)),.set 2 0 .cN]] []]
noncomputable def opV:Option Nat->PV
 |none=> .none
 |some p=> .int p
variable {a4:Option PV}
section
variable {Γ:Gam}
theorem oe {a b:Gj} (h:a≠b):Fv (a==b)=Fv Fz:=congrArg Fv (beq_eq_false_iff_ne.mpr h)
theorem lC {a1 a2 a3:Option PV} {op:PV} {y:Gj} (h:y≠⟨#[34]⟩):ag Γ kZ [a1,a2,a3,a4,Fv op,Fv (.str y)] [3]=Fv (.next [a1,a2,a3,a4,Fv op,Fv (.str y)] [3]):=
 d_ (am (t:=Fz) (show bt Γ (.cmp .Eq (.var 5) (.cS ⟨#[34]⟩)) [a1,a2,a3,a4,Fv op,Fv (.str y)]=Fv Fz from oe h) rfl)
theorem zg {a1 a2:Option PV} {p:Int}:ag Γ kZ [a1,a2,Fv .none,a4,Fv (.int p),Fv (.str ⟨#[34]⟩)] [3]=Fv (.next [a1,a2,Fv (.int p),a4,Fv (.int p),Fv (.str ⟨#[34]⟩)] [3]):=by kernel_rfl
theorem xn {st q p:Nat} {Qy:List PV} (h1:st<=q) (h2:q<=x.length) (hx:x.length<=F_) (hr:Qy.length<F_):
  ag Γ kZ [Fv (.str x),Fv (.int st),Fv (.int q),Fv (.list Qy),Fv (.int p),Fv (.str ⟨#[34]⟩)] [3]=
   Fv (.next [Fv (.str x),Fv (.int ((p+1:Nat):Int)),Fv .none,Fv (.list (if st=q then Qy else Qy++[.str ⟨((x.cps.toList.drop st).take (q-st)).toArray⟩])),Fv (.int p),Fv (.str ⟨#[34]⟩)] [3]):=by
 have hc: ∀b,((st:Int)==(q:Int))=b->bt Γ (.cmp .NotEq (.var 1) (.var 2)) [Fv (.str x),Fv (.int st),Fv (.int q),Fv (.list Qy),Fv (.int p),Fv (.str ⟨#[34]⟩)]=Fv !b:=λb e=>congrArg (λb=>Fv !b) e;refine d_ (am (t:=FE) rfl (d_ (am (t:=Fz) rfl ?_)));by_cases h:st=q
 ·rw [if_pos h]
  exact(a7 (am (t:=Fz) (hc FE (by simp [h])) rfl)).trans rfl
 ·rw [if_neg h]
  exact(a7 (am (t:=FE) (hc Fz (by simp;lia)) (d_ (cU (xs:=Qy) rfl (by show(aR (.str x) (.int st) (.int q) .none).bind _=_;rw [nH h1 h2 hx];rfl) rfl (by decide) hr)))).trans rfl
end
end UK
namespace UK
open PySem PySem.W PySem.Calls PyProof.Rows
noncomputable def dB (rs:List (List Nat)):List PV:=rs.map λl=> .str ⟨l.toArray⟩
structure vZ (x:Gj) (i:Nat) (m:SM) (st:Nat) (op:Option Nat) (rs:List (List Nat)):Prop where
 done:rs.flatten=m.done
 st_le:st<=i
 len:rs.length<=i
 ab:match op,m.b with
  |none,Fw=>m.a=(x.cps.toList.drop st).take (i-st)
  |some q,Fv b=>st<=q/\q<i/\m.a=(x.cps.toList.drop st).take (q-st)/\b=(x.cps.toList.drop q).take (i-q)
  |_,_=>False
variable {xs:List PV} {r0 r1:Option PV}
theorem w8 {f:Ρ->List Nat->Option Out} {a b:PV} {r2 r3 p4 p5:Option PV}:eA (.many [4,5]) f (.tuple [a,b]::xs) [r0,r1,r2,r3,p4,p5] [3]=
  (match f [r0,r1,r2,r3,Fv a,Fv b] [3]with|some (.next ρ own)=>eA (.many [4,5]) f xs ρ own|some (.ret v)=>Fv (.ret v)|none=>Fw):=by
 show(if FE=FE then _ else Fw)=_;rw [if_pos rfl];haveI e:aT [r0,r1,r2,r3,p4,p5] (.many [4,5]) (.tuple [a,b])=Fv [r0,r1,r2,r3,Fv a,Fv b]:=rfl;rw [e];show(f [r0,r1,r2,r3,Fv a,Fv b] [3]).bind _=_;cases f [r0,r1,r2,r3,Fv a,Fv b] [3]with
 |none=>rfl
 |some o=>cases o<;>rfl
variable {x:Gj} {l:List Nat}
theorem jq {i st:Nat} {c:Nat} (h:x.cps.toList.drop i=c::l) (hs:st<=i):(x.cps.toList.drop st).take (i+1-st)=(x.cps.toList.drop st).take (i-st)++[c]:=by
 have hi:i<x.cps.toList.length:=by
  rcases J7 i x.cps.toList.length with q|q
  ·exact q
  ·rw [Hl q]at h;cases h
 haveI hg:x.cps.toList[i]=c:=by have:=I4 hi;rw [this]at h;exact(Lj h).1
 rw [show i+1-st=(i-st)+1 by exact Nat.succ_sub hs,List.take_add_one,N_,show st+(i-st)=i by exact Gz hs,Ge hi,hg]
 rfl
variable {op:Option Nat} {rs:List (List Nat)}
theorem on {i:Nat} {m:SM} {st:Nat} {c:Nat} (I:vZ x i m st op rs) (h:x.cps.toList.drop i=c::l) (e:Bool):vZ x (i+1) {m.put c with esc:=e} st op rs:=by
 obtain⟨h1,h2,h3,h4⟩:=I;refine⟨?_,by exact Gi h2,by exact Gi h3, ?_⟩
 ·unfold SM.put
  cases m.b<;>exact h1
 ·unfold SM.put
  cases op with
  |none=>
   cases hb:m.b with
   |none=>
    rw [hb]at h4;show m.a++[c]=_;rw [jq h h2,h4]
   |some b=>rw [hb]at h4;exact h4.elim
  |some q=>
   cases hb:m.b with
   |none=>rw [hb]at h4;exact h4.elim
   |some b=>
    rw [hb]at h4;obtain⟨a1,a2,a3,a4⟩:=h4;exact⟨a1,by exact I_ _ a2,a3,by rw [jq h (by exact Gm a2),a4]⟩
variable {Γ:Gam}
theorem ss (hx:x.cps.size<=100000): ∀(l:List Nat) (i:Nat) (m:SM) (st:Nat) (op:Option Nat) (rs:List (List Nat)) (p4 p5:Option PV),vZ x i m st op rs->x.cps.toList.drop i=l->i<=x.cps.size->
  ∃V3 op' rs' p4' p5',eA (.many [4,5]) (λρ own=>ag Γ kZ ρ own) (ax i m.esc l) [Fv (.str x),Fv (.int st),Fv (opV op),Fv (.list (dB rs)),p4,p5] [3]=
   Fv (.next [Fv (.str x),Fv (.int (V3:Nat)),Fv (opV op'),Fv (.list (dB rs')),p4',p5'] [3])/\vZ x x.cps.size (m.run l) V3 op' rs':=by
 haveI hz:F_=2^24:=rfl;intro l;induction l with
 |nil=>
  intro i m st op rs p4 p5 I hd hi;have ei:i=x.cps.size:=by have:=congrArg J2 hd;simp at this;exact Do hi this
  subst ei;rw [AX];cases he:m.esc with
  |false=>exact⟨st,op,rs,p4,p5,rfl,I⟩
  |true=>
   refine⟨st,op,rs,Fv (.int (x.cps.size-1)),Fv (.str ⟨#[92]⟩), ?_,I⟩;rw [if_pos rfl,w8];rw [lC (by decide)]
   rfl
 |cons c l ih=>
  intro i m st op rs p4 p5 I hd hi;have Rm:i<x.cps.size:=by have:=congrArg J2 hd;simp at this;exact Fc this
  have Pk:x.cps.toList.drop (i+1)=l:=by
   have:=congrArg List.tail hd
   rwa [List.tail_drop]at this
  haveI er:m.run (c::l)=(m.step c).run l:=rfl;rw [er];rw [AY];haveI ei:((i:Int)+1)=((i+1:Nat):Int):=by push_cast;rfl
  rw [ei];cases he:m.esc with
  |true=>
   rw [if_pos rfl,w8,lC (by simp)]
   have es:m.step c={m.put c with esc:=Fz}:=by unfold SM.step;rw [if_pos he]
   rw [es];exact ih (i+1) {m.put c with esc:=Fz} st op rs _ _ (on I hd Fz) Pk (by exact Rm)
  |false=>
   rw [if_neg (by decide)]
   by_cases h92:c=92
   ·rw [if_pos h92]
    have es:m.step c={m.put c with esc:=FE}:=by unfold SM.step;rw [if_neg (by rw [he];decide),if_pos h92]
    rw [es];exact ih (i+1) {m.put c with esc:=FE} st op rs _ _ (on I hd FE) Pk (by exact Rm)
   ·rw [if_neg h92,w8]
    by_cases h34:c=34
    ·subst h34
     obtain⟨h1,h2,h3,h4⟩:=I;cases op with
     |none=>
      cases hb:m.b with
      |some b=>rw [hb]at h4;exact h4.elim
      |none=>
       rw [hb]at h4;rw [show opV Fw=PV.none from rfl];rw [zg];have es:m.step 34={m with b:=Fv [34]}:=by unfold SM.step;rw [if_neg (by rw [he];decide),if_neg (by decide),if_pos rfl,hb]
       rw [es];have:=ih (i+1) {m with b:=Fv [34]} st (Fv i) rs (Fv (.int i)) (Fv (.str ⟨#[34]⟩)) ⟨h1,by exact Gi h2,by exact Gi h3,⟨h2,by exact Gx _,h4, ?_⟩⟩ Pk (by exact Rm)
       ·rw [show({m with b:=Fv [34]}:SM).esc=Fz from he]at this
        rw [he];exact this
       ·have:=jq hd (FH i)
        rw [this,La];rfl
     |some q=>
      cases hb:m.b with
      |none=>rw [hb]at h4;exact h4.elim
      |some b=>
       rw [hb]at h4;obtain⟨a1,a2,a3,a4⟩:=h4;rw [show opV (Fv q)=PV.int q from rfl];rw [xn a1 (show q<=x.length from by show q<=x.cps.size;exact Fx (Gm a2) hi) (show x.length<=F_ from by show x.cps.size<=F_;exact Fx hx (by decide)) (by unfold dB;rw [FD];exact FF (Fx h3 (Fx (Gm Rm) hx)) (by decide))]
       have es:m.step 34={m with done:=m.done++m.a,a:=[],b:=Fw}:=by unfold SM.step;rw [if_neg (by rw [he];decide),if_neg (by decide),if_pos rfl,hb]
       rw [es];haveI er2:(if st=q then dB rs else dB rs++[.str ⟨((x.cps.toList.drop st).take (q-st)).toArray⟩])=dB (if st=q then rs else rs++[(x.cps.toList.drop st).take (q-st)]):=by
        by_cases hq:st=q
        ·rw [if_pos hq,if_pos hq]
        ·rw [if_neg hq,if_neg hq];unfold dB;simp
       rw [er2];have:=ih (i+1) {m with done:=m.done++m.a,a:=[],b:=Fw} (i+1) Fw (if st=q then rs else rs++[(x.cps.toList.drop st).take (q-st)]) (Fv (.int i)) (Fv (.str ⟨#[34]⟩)) ⟨?_,FH _, ?_, ?_⟩ Pk (by exact Rm)
       ·rw [show({m with done:=m.done++m.a,a:=[],b:=Fw}:SM).esc=Fz from he]at this
        rw [he];exact this
       ·show _=m.done++m.a
        by_cases hq:st=q
        ·rw [if_pos hq,h1,a3,hq,La];simp
        ·rw [if_neg hq,Kf,h1,a3];simp
       ·by_cases hq:st=q
        ·rw [if_pos hq];exact Gi h3
        ·rw [if_neg hq];simp;exact h3
       ·show []=_
        rw [La];rfl
    ·rw [lC (by simp [h34])]
     haveI es:m.step c={m.put c with esc:=Fz}:=by
      unfold SM.step;rw [if_neg (by rw [he];decide),if_neg h92,if_neg h34]
      unfold SM.put;cases m.b<;>simp [he]
     rw [es];exact ih (i+1) {m.put c with esc:=Fz} st op rs _ _ (on I hd Fz) Pk (by exact Rm)
theorem ud: ∀(l:List Nat) (a:List Nat) (e:Bool),34∉l-> ∃e',SM.run ⟨[],a,Fw,e⟩ l=⟨[],a++l,Fw,e'⟩
 |[],a,e,_=>⟨e,by simp [SM.run]⟩
 |c::l,a,e,h=>by
  haveI hc:c≠34:=λq=>h (q▸FT);haveI hl:34∉l:=λq=>h (FU _ q);haveI: ∃e1,SM.step ⟨[],a,Fw,e⟩ c=⟨[],a++[c],Fw,e1⟩:=by
   unfold SM.step SM.put;by_cases he:e=FE
   ·exact⟨Fz,by simp [he]⟩
   ·by_cases h92:c=92
    ·exact⟨FE,by simp [he,h92]⟩
    ·exact⟨e,by simp [he,h92,hc]⟩
  obtain⟨e1,h1⟩:=this;obtain⟨e',h2⟩:=ud l (a++[c]) e1 hl;refine⟨e', ?_⟩;show SM.run (SM.step ⟨[],a,Fw,e⟩ c) l=_;rw [h1,h2,Gq]
  rfl
theorem uW (h:34∉l):aY l=l:=by obtain⟨e',e⟩:=ud l [] Fz h;unfold aY;rw [e];simp [SM.fin]
theorem mM: ∀rs:List (List Nat),kQ (dB rs)=Fv (rs.map λl=>⟨l.toArray⟩)
 |[]=>rfl
 |l::rs=>by show(kQ (dB rs)).map _=_;rw [mM rs];rfl
theorem dW (h:rs.flatten.length<=F_):pme .join (.str ⟨#[]⟩) [.list (dB rs)]=Fv (.str ⟨rs.flatten.toArray⟩):=by
 show(kQ (dB rs)).bind _=_;rw [mM];have e:((rs.map λl=>(⟨l.toArray⟩:Gj)).map (·.cps.toList)).flatten=rs.flatten:=by
  haveI q:((λx:Gj=>x.cps.toList)∘λl:List Nat=>(⟨l.toArray⟩:Gj))=id:=by funext l;simp
  rw [Gl,q,List.map_id]
 haveI hj:=iz (rs.map λl=>⟨l.toArray⟩) (by rw [e];exact h)
 show(if Od ⟨#[]⟩ (rs.map λl=>⟨l.toArray⟩)=FE then Fv (PV.str (K9 ⟨#[]⟩ (rs.map λl=>⟨l.toArray⟩)))else Fw)=_;rw [if_pos hj];have:=lI (rs.map λl=>⟨l.toArray⟩);rw [e]at this;rw [show K9 ⟨#[]⟩ (rs.map λl=>⟨l.toArray⟩)=⟨rs.flatten.toArray⟩from(by rw [<-this])]
noncomputable def ij:List PS:=[.ite (.cmp .NotIn (.cS ⟨#[34]⟩) (.var 0)) [.ret (.var 0)] [],.set 1 0 (.cI 0),.set 2 0 .cN,.own 3 (.list []),.for_ (.many [4,5]) (.gen 0 [(.var 0)]) kZ,.ite (.cmp .Lt (.var 1) (.bi .len [(.var 0)])) [.app 3 0 (.slice (.var 0) (.var 1) .cN .cN)] [],.ret (.meth .join (.cS ⟨#[]⟩) [(.var 3)])]
theorem y0 {m:SM} {st:Nat} (I:vZ x x.cps.size m st op rs):m.fin=rs.flatten++x.cps.toList.drop st:=by
 obtain⟨h1,h2,h3,h4⟩:=I;unfold SM.fin;cases op with
 |none=>
  cases hb:m.b with
  |some b=>rw [hb]at h4;exact h4.elim
  |none=>
   rw [hb]at h4;rw [h4,<-h1,H1 (by simp)]
   simp
 |some q=>
  cases hb:m.b with
  |none=>rw [hb]at h4;exact h4.elim
  |some b=>
   rw [hb]at h4;obtain⟨a1,a2,a3,a4⟩:=h4;rw [a3,a4,<-h1,Gq]
   congr 1
   show(x.cps.toList.drop st).take (q-st)++(x.cps.toList.drop q).take (x.cps.size-q)=_;rw [H1 (l:=x.cps.toList.drop q) (by simp)]
   haveI:x.cps.toList.drop q=(x.cps.toList.drop st).drop (q-st):=by rw [Iy];congr 1;exact Ha (Gz a1)
   rw [this,I5]
theorem jr: ∀(l:List Nat) (m:SM),(m.run l).fin.length<=m.fin.length+l.length
 |[],m=>by simp [SM.run]
 |c::l,m=>by
  haveI h1:=jr l (m.step c);haveI h2:(m.step c).fin.length<=m.fin.length+1:=by obtain⟨d,a,b,e⟩:=m;unfold SM.step SM.put SM.fin;cases b<;>(repeat' split)<;>simp_all<;>lia
  haveI:(m.run (c::l))=(m.step c).run l:=rfl;rw [this,FY];lia
theorem gD (h:x.length<2^62):pbi .len [.str x]=Fv (.int x.length):=if_pos h
theorem sw (hx:x.cps.size<=100000) (hg:Γ.gn 0 [.str x]=Fv (ax 0 Fz x.cps.toList)):aG Γ 6 [0] ij [.str x]=Fv (.str ⟨(aY x.cps.toList).toArray⟩):=by
 haveI hz:F_=2^24:=rfl;have Q6:=LN x 34;by_cases hq:34∈x.cps.toList
 ·have Q6:(Ia x ⟨#[34]⟩ 0 x.length 1).isEmpty=Fz:=by simpa [hq]using Q6
  obtain⟨st,op,rs,p4,p5,hl,I⟩:=ss (Γ:=Γ) hx x.cps.toList 0 ⟨[],[],Fw,Fz⟩ 0 Fw [] Fw Fw ⟨rfl,FH _,Hk _,rfl⟩ rfl (Hk _);have OZ:=y0 I;have OZ:aY x.cps.toList=rs.flatten++x.cps.toList.drop st:=OZ;have Oj:=jr x.cps.toList ⟨[],[],Fw,Fz⟩;have Oj:(aY x.cps.toList).length<=x.cps.size:=by haveI:(⟨[],[],Fw,Fz⟩:SM).fin.length=0:=rfl;rw [this]at Oj;simpa [aY]using Oj
  haveI Qa:pit Γ (.gen 0 [.var 0]) [Fv (.str x),Fv (.int 0),Fv .none,Fw,Fw,Fw]=Fv (ax 0 Fz x.cps.toList):=by show(Γ.gn 0 [.str x])=_;exact hg
  haveI RV:rs.length<=x.cps.size:=I.len;haveI Rq:st<=x.cps.size:=I.st_le;haveI hrf:rs.flatten.length<=x.cps.size:=by rw [OZ,FP]at Oj;exact GF Oj
  haveI P:ag Γ ij [Fv (.str x),Fw,Fw,Fw,Fw,Fw] []=Fv (.ret (.str ⟨(aY x.cps.toList).toArray⟩)):=by
   rw [ij,a7 (ρ':=[Fv (.str x),Fw,Fw,Fw,Fw,Fw]) (Ot:=[]) (am (t:=Fz) (show bt Γ (.cmp .NotIn (.cS ⟨#[34]⟩) (.var 0)) [Fv (.str x),Fw,Fw,Fw,Fw,Fw]=Fv _ from congrArg (λb=>Fv !!b) Q6) rfl)];rw [a7 (ρ':=[Fv (.str x),Fv (.int 0),Fw,Fw,Fw,Fw]) (Ot:=[]) rfl];rw [a7 (ρ':=[Fv (.str x),Fv (.int 0),Fv .none,Fw,Fw,Fw]) (Ot:=[]) rfl];rw [a7 (ρ':=[Fv (.str x),Fv (.int 0),Fv .none,Fv (.list []),Fw,Fw]) (Ot:=[3]) rfl];rw [a7 (ρ':=[Fv (.str x),Fv (.int st),Fv (opV op),Fv (.list (dB rs)),p4,p5]) (Ot:=[3]) (by show(pit Γ (.gen 0 [.var 0]) [Fv (.str x),Fv (.int 0),Fv .none,Fw,Fw,Fw]).bind _=_;rw [Qa];exact hl)]
   have TN:x.length=x.cps.size:=rfl;have hc:bt Γ (.cmp .Lt (.var 1) (.bi .len [.var 0])) [Fv (.str x),Fv (.int st),Fv (opV op),Fv (.list (dB rs)),p4,p5]=Fv (decide ((st:Int)<(x.cps.size:Int))):=by
    show(((pbi .len [.str x]).bind λb=>(gk .Lt (.int st) b).map PV.bool)).bind ez=_;rw [gD (by rw [TN];exact FF hx (by decide))]
    rfl
   by_cases OH:st<x.cps.size
   ·haveI R4:=AE (x:=x) (a:=st) (by rw [TN];exact Rq) (by rw [TN];exact Fx hx (by decide))
    haveI ha:ak Γ (.app 3 0 (.slice (.var 0) (.var 1) .cN .cN)) [Fv (.str x),Fv (.int st),Fv (opV op),Fv (.list (dB rs)),p4,p5] [3]=Fv (.next [Fv (.str x),Fv (.int st),Fv (opV op),Fv (.list (dB rs++[.str ⟨(x.cps.toList.drop st).toArray⟩])),p4,p5] [3]):=by
     refine cU rfl ?_ rfl (by decide) (by unfold dB;rw [FD];exact FF RV (FF hx (by decide)))
     show(aR (.str x) (.int st) .none .none).bind _=_;rw [R4]
     rfl
    haveI er:dB rs++[.str ⟨(x.cps.toList.drop st).toArray⟩]=dB (rs++[x.cps.toList.drop st]):=by unfold dB;rw [Gv];rfl
    rw [a7 (ρ':=[Fv (.str x),Fv (.int st),Fv (opV op),Fv (.list (dB (rs++[x.cps.toList.drop st]))),p4,p5]) (Ot:=[3]) (am hc (by rw [if_pos (by simpa using OH),a7 ha,er];rfl))]
    refine ao (aH ?_);show(pme .join (.str ⟨#[]⟩) [.list (dB (rs++[x.cps.toList.drop st]))])=_;have e:(rs++[x.cps.toList.drop st]).flatten=aY x.cps.toList:=by rw [OZ];simp
    rw [dW (by rw [e];exact Fx (Fx Oj hx) (by decide)),e]
   ·rw [a7 (ρ':=[Fv (.str x),Fv (.int st),Fv (opV op),Fv (.list (dB rs)),p4,p5]) (Ot:=[3]) (am hc (by rw [if_neg (by simpa using OH)];rfl))]
    refine ao (aH ?_);show(pme .join (.str ⟨#[]⟩) [.list (dB rs)])=_;have e:rs.flatten=aY x.cps.toList:=by rw [OZ,Hl (by simp;exact Hc OH)];simp
    rw [dW (by rw [e];exact Fx (Fx Oj hx) (by decide)),e]
  show((ag Γ ij [Fv (.str x),Fw,Fw,Fw,Fw,Fw] []).bind _)=_;rw [P]
  rfl
 ·have Q6:(Ia x ⟨#[34]⟩ 0 x.length 1).isEmpty=FE:=by simpa [hq]using Q6
  rw [uW hq];show((ag Γ ij [Fv (.str x),Fw,Fw,Fw,Fw,Fw] []).bind _)=_;rw [ij,ao (am (t:=FE) (show bt Γ (.cmp .NotIn (.cS ⟨#[34]⟩) (.var 0)) [Fv (.str x),Fw,Fw,Fw,Fw,Fw]=Fv _ from congrArg (λb=>Fv !!b) Q6) (ao (aH rfl)))]
  rfl
noncomputable def cnt:Bool->Nat->List Nat->Option Nat
 |_,n,[]=>Fv n
 |e,n,c::l=>if e=FE then cnt Fz n l else if c=92 then cnt FE n l else if c=40 then cnt Fz (n+1) l else if c=41 then(match n with
  |0=>Fw
  |n+1=>cnt Fz n l)else cnt Fz n l
noncomputable def d5 (l:List Nat):Bool:=cnt Fz 0 (aY l)==Fv 0
noncomputable def io:List PS:=[.ite (.cmp .Eq (.var 3) (.cS ⟨#[40]⟩)) [.aug 1 .Add 0 (.cI 1)] [.ite (.cmp .Eq (.var 3) (.cS ⟨#[41]⟩)) [.aug 1 .Sub 0 (.cI 1),.ite (.cmp .Lt (.var 1) (.cI 0)) [.ret (.cB Fz)] []] []]]
noncomputable def ll:List PS:=[.set 0 0 (.call 0 [(.var 0)]),.set 1 0 (.cI 0),.for_ (.many [2,3]) (.gen 0 [(.var 0)]) io,.ret (.cmp .Eq (.var 1) (.cI 0))]
variable {n:Nat} {p2:Option PV}
section
theorem lM {a0 a1 a2:Option PV} {y:Gj} (h:y≠⟨#[40]⟩) (h2:y≠⟨#[41]⟩):ag Γ io [a0,a1,a2,Fv (.str y)] []=Fv (.next [a0,a1,a2,Fv (.str y)] []):=
 d_ (am (t:=Fz) (show bt Γ (.cmp .Eq (.var 3) (.cS ⟨#[40]⟩)) [a0,a1,a2,Fv (.str y)]=Fv Fz from oe h) (d_ (am (t:=Fz) (show bt Γ (.cmp .Eq (.var 3) (.cS ⟨#[41]⟩)) [a0,a1,a2,Fv (.str y)]=Fv Fz from oe h2) rfl)))
theorem Ap {a0 a2:Option PV}:ag Γ io [a0,Fv (.int n),a2,Fv (.str ⟨#[40]⟩)] []=Fv (.next [a0,Fv (.int ((n+1:Nat):Int)),a2,Fv (.str ⟨#[40]⟩)] []):=by kernel_rfl
theorem yD {a0 a2:Option PV}:ag Γ io [a0,Fv (.int ((n+1:Nat):Int)),a2,Fv (.str ⟨#[41]⟩)] []=Fv (.next [a0,Fv (.int n),a2,Fv (.str ⟨#[41]⟩)] []):=by
 haveI a:ak Γ (.aug 1 .Sub 0 (.cI 1)) [a0,Fv (.int ((n+1:Nat):Int)),a2,Fv (.str ⟨#[41]⟩)] []=Fv (.next [a0,Fv (.int n),a2,Fv (.str ⟨#[41]⟩)] []):=
  dS (c:= .int n) rfl rfl (by
   show Fv (PV.int (((n+1:Nat):Int)-1))=_;haveI:((n+1:Nat):Int)-1=n:=by lia
   rw [this]) rfl
 haveI b:ak Γ (.ite (.cmp .Lt (.var 1) (.cI 0)) [.ret (.cB Fz)] []) [a0,Fv (.int n),a2,Fv (.str ⟨#[41]⟩)] []=Fv (.next [a0,Fv (.int n),a2,Fv (.str ⟨#[41]⟩)] []):=
  am (t:=Fz) (by show Fv (decide ((n:Int)<0))=_;exact congrArg Fv (decide_eq_false (by exact J0 (Gd _)))) rfl
 refine(a7 (am (t:=Fz) rfl ?_)).trans rfl;refine(a7 (am (t:=FE) rfl ?_)).trans rfl;exact(a7 a).trans ((a7 b).trans rfl)
theorem Ao {a0 a2:Option PV}:ag Γ io [a0,Fv (.int ((0:Nat):Int)),a2,Fv (.str ⟨#[41]⟩)] []=Fv (.ret (.bool Fz)):=rfl
theorem mH {f:Ρ->List Nat->Option Out} {a b:PV} {p3:Option PV}:eA (.many [2,3]) f (.tuple [a,b]::xs) [r0,r1,p2,p3] []=
  (match f [r0,r1,Fv a,Fv b] []with|some (.next ρ own)=>eA (.many [2,3]) f xs ρ own|some (.ret v)=>Fv (.ret v)|none=>Fw):=by
 show(if FE=FE then _ else Fw)=_;rw [if_pos rfl];haveI e:aT [r0,r1,p2,p3] (.many [2,3]) (.tuple [a,b])=Fv [r0,r1,Fv a,Fv b]:=rfl;rw [e];show(f [r0,r1,Fv a,Fv b] []).bind _=_;cases f [r0,r1,Fv a,Fv b] []with
 |none=>rfl
 |some o=>cases o<;>rfl
theorem e8 {a0:Option PV}: ∀(l:List Nat) (i:Int) (e:Bool) (n:Nat) (p2 p3:Option PV),∃SI p3',eA (.many [2,3]) (λρ own=>ag Γ io ρ own) (ax i e l) [a0,Fv (.int n),p2,p3] []=
  (match cnt e n l with|some n'=>Fv (.next [a0,Fv (.int (n':Nat)),SI,p3'] [])|none=>Fv (.ret (.bool Fz)))
 |[],i,e,n,p2,p3=>by
  rw [AX];unfold cnt;cases e with
  |false=>exact⟨p2,p3,rfl⟩
  |true=>
   refine⟨Fv (.int (i-1)),Fv (.str ⟨#[92]⟩), ?_⟩;rw [if_pos rfl,mH,lM (by decide) (by decide)]
   rfl
 |c::l,i,e,n,p2,p3=>by
  rw [AY];unfold cnt;cases e with
  |true=>
   obtain⟨q2,q3,h⟩:=e8 l (i+1) Fz n (Fv (.int i)) (Fv (.str ⟨#[92,c]⟩));refine⟨q2,q3, ?_⟩;rw [if_pos rfl,if_pos rfl,mH,lM (by simp) (by simp)]
   exact h
  |false=>
   simp only [Gy,if_false];by_cases h92:c=92
   ·rw [if_pos h92,if_pos h92]
    exact e8 l (i+1) FE n p2 p3
   ·rw [if_neg h92,if_neg h92]
    by_cases h40:c=40
    ·subst h40
     obtain⟨q2,q3,h⟩:=e8 l (i+1) Fz (n+1) (Fv (.int i)) (Fv (.str ⟨#[40]⟩));refine⟨q2,q3, ?_⟩;rw [if_pos rfl,mH,Ap];exact h
    ·rw [if_neg h40]
     by_cases h41:c=41
     ·subst h41
      rw [if_pos rfl];cases n with
      |zero=>
       refine⟨Fw,Fw, ?_⟩;rw [mH,Ao]
      |succ n=>
       obtain⟨q2,q3,h⟩:=e8 l (i+1) Fz n (Fv (.int i)) (Fv (.str ⟨#[41]⟩));refine⟨q2,q3, ?_⟩;rw [mH,yD];exact h
     ·rw [if_neg h41]
      obtain⟨q2,q3,h⟩:=e8 l (i+1) Fz n (Fv (.int i)) (Fv (.str ⟨#[c]⟩));refine⟨q2,q3, ?_⟩;rw [mH,lM (by simp [h40]) (by simp [h41])]
      exact h
theorem tD (hf:Γ.fn 0 [.str x]=Fv (.str ⟨(aY x.cps.toList).toArray⟩)) (hg: ∀y:Gj,y.cps.size<=x.cps.size->Γ.gn 0 [.str y]=Fv (ax 0 Fz y.cps.toList)) (hl:(aY x.cps.toList).length<=x.cps.size):
  aG Γ 4 [0] ll [.str x]=Fv (.bool (d5 x.cps.toList)):=by
 haveI P:ag Γ ll [Fv (.str x),Fw,Fw,Fw] []=Fv (.ret (.bool (d5 x.cps.toList))):=by
  rw [ll,a7 (ρ':=[Fv (.str ⟨(aY x.cps.toList).toArray⟩),Fw,Fw,Fw]) (Ot:=[]) (by show((Γ.fn 0 [.str x]).bind _).map _=_;rw [hf];rfl)]
  rw [a7 (ρ':=[Fv (.str ⟨(aY x.cps.toList).toArray⟩),Fv (.int 0),Fw,Fw]) (Ot:=[]) rfl];obtain⟨p2,p3,h⟩:=e8 (Γ:=Γ) (a0:=Fv (.str ⟨(aY x.cps.toList).toArray⟩)) (aY x.cps.toList) 0 Fz 0 Fw Fw;haveI Qa:pit Γ (.gen 0 [.var 0]) [Fv (.str ⟨(aY x.cps.toList).toArray⟩),Fv (.int 0),Fw,Fw]=Fv (ax 0 Fz (aY x.cps.toList)):=hg ⟨(aY x.cps.toList).toArray⟩ (by simpa using hl)
  have QJ:ak Γ (.for_ (.many [2,3]) (.gen 0 [(.var 0)]) io) [Fv (.str ⟨(aY x.cps.toList).toArray⟩),Fv (.int 0),Fw,Fw] []=(match cnt Fz 0 (aY x.cps.toList)with|some n'=>Fv (.next [Fv (.str ⟨(aY x.cps.toList).toArray⟩),Fv (.int (n':Nat)),p2,p3] [])|none=>Fv (.ret (.bool Fz))):=by show(pit Γ (.gen 0 [.var 0]) [Fv (.str ⟨(aY x.cps.toList).toArray⟩),Fv (.int 0),Fw,Fw]).bind _=_;rw [Qa];exact h
  unfold d5;cases hc:cnt Fz 0 (aY x.cps.toList)with
  |none=>
   rw [hc]at QJ;rw [ao QJ]
   rfl
  |some n=>
   rw [hc]at QJ;rw [a7 QJ];refine ao (aH ?_);show Fv (PV.bool (((n:Nat):Int)==0))=_
   congr 2
   cases n<;>rfl
 show((ag Γ ll [Fv (.str x),Fw,Fw,Fw] []).bind _)=_;rw [P]
 rfl
end
noncomputable abbrev sv (l:List Nat):PV:= .str ⟨l.toArray⟩
noncomputable def pI:List Nat:=[40,39,39,44,32,39,39,41]
noncomputable def uK:List PS:=[.ite (.not (.call 1 [(.var 2)])) [.set 2 0 (.cS ⟨#[40,39,39,44,32,39,39,41]⟩)] [],.app 1 0 (.var 2)]
noncomputable def vU:List PS:=[.own 1 (.list []),.for_ (.one 2) (.ex (.var 0)) uK,.ret (.var 1)]
variable {ρ:Ρ}
section
theorem pL {f:Ρ->List Nat->Option Out} {a:PV} {x:Nat} {own:List Nat} (h:own.contains x=Fz):eA (.one x) f (a::xs) ρ own=
  (match f (ρ.set x (Fv a)) own with|some (.next ρ own)=>eA (.one x) f xs ρ own|some (.ret v)=>Fv (.ret v)|none=>Fw):=by
 haveI e0:(ptIdx (.one x)).all (λi=> !own.contains i)=FE:=by show(!own.contains x&&FE)=FE;rw [h];rfl
 show(if(ptIdx (.one x)).all (λi=> !own.contains i)=FE then _ else Fw)=_;rw [if_pos e0];show(f (ρ.set x (Fv a)) own).bind _=_;cases f (ρ.set x (Fv a)) own with
 |none=>rfl
 |some o=>cases o<;>rfl
noncomputable def bW (l:List Nat):List Nat:=if d5 l=FE then l else pI
theorem q9 {a0:Option PV}: ∀(ls:List (List Nat)) (Ok:List PV) (p2:Option PV),(∀l∈ls,Γ.fn 1 [sv l]=Fv (.bool (d5 l)))->Ok.length+ls.length<1000->
  ∃SI,eA (.one 2) (λρ own=>ag Γ uK ρ own) (ls.map sv) [a0,Fv (.list Ok),p2] [1]=Fv (.next [a0,Fv (.list (Ok++ls.map (λl=>sv (bW l)))),SI] [1])
 |[],Ok,p2,_,_=>⟨p2,by rw [JQ,JQ,Hg];rfl⟩
 |l::ls,Ok,p2,h,hl=>by
  haveI hz:F_=2^24:=rfl;haveI hc:=h l FT;have b:ag Γ uK [a0,Fv (.list Ok),Fv (sv l)] [1]=Fv (.next [a0,Fv (.list (Ok++[sv (bW l)])),Fv (sv (bW l))] [1]):=by
   haveI ht:bt Γ (.not (.call 1 [(.var 2)])) [a0,Fv (.list Ok),Fv (sv l)]=Fv (!d5 l):=by show(((Γ.fn 1 [sv l]).bind λv=>(ez v).bind λb=>Fv (PV.bool (!b)))).bind ez=_;rw [hc];rfl
   haveI s1:ak Γ (.ite (.not (.call 1 [(.var 2)])) [.set 2 0 (.cS ⟨#[40,39,39,44,32,39,39,41]⟩)] []) [a0,Fv (.list Ok),Fv (sv l)] [1]=Fv (.next [a0,Fv (.list Ok),Fv (sv (bW l))] [1]):=by refine am ht ?_;unfold bW;cases d5 l<;>rfl
   rw [uK,a7 s1];haveI s2:ak Γ (.app 1 0 (.var 2)) [a0,Fv (.list Ok),Fv (sv (bW l))] [1]=Fv (.next [a0,Fv (.list (Ok++[sv (bW l)])),Fv (sv (bW l))] [1]):=
    cU rfl rfl rfl (by decide) (by simp at hl;lia)
   rw [a7 s2]
   rfl
  obtain⟨SI,ih⟩:=q9 ls (Ok++[sv (bW l)]) (Fv (sv (bW l))) (λl' Px=>h l' (FU _ Px)) (by simp at hl ⊢;exact FF (FI (Gh _ _ _)) hl)
  refine⟨SI, ?_⟩;rw [Gf,pL rfl];show(match ag Γ uK [a0,Fv (.list Ok),Fv (sv l)] [1]with|some (.next ρ own)=>_|some (.ret v)=>_|none=>_)=_
  rw [b];show eA (.one 2) (λρ own=>ag Γ uK ρ own) (ls.map sv) [a0,Fv (.list (Ok++[sv (bW l)])),Fv (sv (bW l))] [1]=_;rw [ih,Gf,Gq]
  rfl
theorem xu {ls:List (List Nat)} (h: ∀l∈ls,Γ.fn 1 [sv l]=Fv (.bool (d5 l))) (hl:ls.length<1000):aG Γ 3 [0] vU [.list (ls.map sv)]=Fv (.list (ls.map λl=>sv (bW l))):=by
 obtain⟨p2,hp⟩:=q9 (Γ:=Γ) (a0:=Fv (.list (ls.map sv))) ls [] Fw h (by simpa using hl)
 haveI P:ag Γ vU [Fv (.list (ls.map sv)),Fw,Fw] []=Fv (.ret (.list (ls.map λl=>sv (bW l)))):=by
  rw [vU,a7 (ρ':=[Fv (.list (ls.map sv)),Fv (.list []),Fw]) (Ot:=[1]) rfl];rw [a7 (ρ':=[Fv (.list (ls.map sv)),Fv (.list (ls.map λl=>sv (bW l))),p2]) (Ot:=[1]) ((eN rfl).trans hp)]
  rfl
 show((ag Γ vU [Fv (.list (ls.map sv)),Fw,Fw] []).bind _)=_;rw [P]
 rfl
end
def dh (l:List Nat):Prop:= ∀c∈l,c=40∨c=41
noncomputable def dy:Nat->List Nat->Option Nat
 |n,[]=>Fv n
 |n,c::l=>if c=40 then dy (n+1) l else if c=41 then(match n with
  |0=>Fw
  |n+1=>dy n l)else Fw
theorem oJ (n c:Nat) (l:List Nat):dy n (c::l)=if c=40 then dy (n+1) l else if c=41 then(match n with
  |0=>Fw
  |n+1=>dy n l)else Fw:=by cases n<;>rfl
theorem yB (e:Bool) (n c:Nat) (l:List Nat):cnt e n (c::l)=if e=FE then cnt Fz n l else if c=92 then cnt FE n l else if c=40 then cnt Fz (n+1) l else if c=41 then(match n with
  |0=>Fw
  |n+1=>cnt Fz n l)else cnt Fz n l:=by cases n<;>rfl
theorem nY: ∀(A:List Nat) (n:Nat) (l:List Nat),dh A->cnt Fz n (A++l)=(dy n A).bind λn'=>cnt Fz n' l
 |[],n,l,_=>by cases l<;>rfl
 |c::A,n,l,h=>by
  have ih:=λn=>nY A n l (λx hx=>h x (FU _ hx));rw [GV,yB,oJ];rcases h c FT with rfl|rfl
  ·simp only [Gy,if_false,if_true]
   rw [if_neg (by decide)]
   exact ih _
  ·simp only [Gy,if_false,if_true]
   rw [if_neg (by decide),if_neg (by decide),if_neg (by decide)]
   cases n with
   |zero=>rfl
   |succ n=>exact ih _
theorem fP: ∀(A:List Nat) (d a:List Nat) (b:Option (List Nat)),dh A->SM.run ⟨d,a,b,Fz⟩ A=(match b with|none=>⟨d,a++A,Fw,Fz⟩|some b=>⟨d,a,Fv (b++A),Fz⟩)
 |[],d,a,b,_=>by cases b<;>simp [SM.run]
 |c::A,d,a,b,h=>by
  have hA:dh A:=λx hx=>h x (FU _ hx);have hc:c≠92/\c≠34:=by rcases h c FT with rfl|rfl<;>decide
  show SM.run (SM.step ⟨d,a,b,Fz⟩ c) A=_;cases b with
  |none=>
   have e:SM.step ⟨d,a,Fw,Fz⟩ c=⟨d,a++[c],Fw,Fz⟩:=by simp [SM.step,SM.put,hc]
   rw [e,fP A d (a++[c]) Fw hA];simp
  |some b=>
   haveI e:SM.step ⟨d,a,Fv b,Fz⟩ c=⟨d,a,Fv (b++[c]),Fz⟩:=by simp [SM.step,SM.put,hc]
   rw [e,fP A d a (Fv (b++[c])) hA];simp
theorem gQ (m:SM) (a b:List Nat):m.run (a++b)=(m.run a).run b:=by simp [SM.run]
noncomputable def closedL:List (List Nat):=[[],[34,40,41,34],[34,40,34],[34,92,34,41,34]]
noncomputable def hiddenL:List (List Nat):=[[],[92,41],[34,41,34],[92,92],[34,40,34],[92,34],[34,40,92,34,34],[34]]
variable {A:List Nat}
theorem Am (hA:dh A):d5 A=(dy 0 A==Fv 0):=by
 unfold d5 aY;rw [fP A [] [] Fw hA];show(cnt Fz 0 ([]++([]++A)++[])==Fv 0)=_;have:=nY A 0 [] hA;simp only [Hg,Hb]at this ⊢
 rw [this];cases dy 0 A<;>rfl
theorem rW: ∀(A B:List Nat) (n:Nat),dy n (A++B)=(dy n A).bind λn'=>dy n' B
 |[],B,n=>rfl
 |c::A,B,n=>by
  rw [GV,oJ,oJ];split
  ·exact rW A B _
  ·split
   ·cases n with
    |zero=>rfl
    |succ n=>exact rW A B _
   ·rfl
theorem uE (n:Nat) (hA:dh A):cnt Fz n A=dy n A:=by have:=nY A n [] hA;rw [Hg]at this;rw [this];cases dy n A<;>rfl
variable {B:List Nat}
theorem qw (hA:dh A) (hB:dh B):dh (A++B):=λc hc=>(GY.mp hc).elim (hA c) (hB c)
variable {c:List Nat}
theorem An (hA:dh A) (hc:c∈closedL) (hB:dh B):d5 (A++c++B)=(dy 0 (A++B)==Fv 0):=by
 unfold d5 aY;rw [gQ,gQ,fP A [] [] Fw hA];have e: ∃d a,SM.run ⟨[],[]++A,Fw,Fz⟩ c=⟨d,a,Fw,Fz⟩/\d++a=A:=by
  simp only [closedL,FS,Gu,or_false]at hc;rcases hc with rfl|rfl|rfl|rfl
  ·exact⟨[],A,rfl,rfl⟩
  ·exact⟨A,[],rfl,by simp⟩
  ·exact⟨A,[],rfl,by simp⟩
  ·exact⟨A,[],rfl,by simp⟩
 obtain⟨d,a,e,hd⟩:=e;show(cnt Fz 0 ((SM.run (SM.run ⟨[],[]++A,Fw,Fz⟩ c) B).fin)==Fv 0)=_;rw [e,fP B d a Fw hB];show(cnt Fz 0 (d++(a++B)++[])==Fv 0)=_;rw [Hg,<-Gq,hd,uE 0 (qw hA hB)]
variable {h C:List Nat}
theorem oO (hA:dh A) (hc:c∈closedL) (hB:dh B) (hh:h∈hiddenL) (hC:dh C):d5 (A++c++B++h++C)=(dy 0 (A++B++C)==Fv 0):=by
 unfold d5 aY;rw [gQ,gQ,gQ,gQ,fP A [] [] Fw hA];have e: ∃d a,SM.run ⟨[],[]++A,Fw,Fz⟩ c=⟨d,a,Fw,Fz⟩/\d++a=A:=by
  simp only [closedL,FS,Gu,or_false]at hc;rcases hc with rfl|rfl|rfl|rfl
  ·exact⟨[],A,rfl,rfl⟩
  ·exact⟨A,[],rfl,by simp⟩
  ·exact⟨A,[],rfl,by simp⟩
  ·exact⟨A,[],rfl,by simp⟩
 obtain⟨d,a,e,hd⟩:=e;show(cnt Fz 0 ((SM.run (SM.run (SM.run (SM.run ⟨[],[]++A,Fw,Fz⟩ c) B) h) C).fin)==Fv 0)=_;rw [e,fP B d a Fw hB];show(cnt Fz 0 ((SM.run (SM.run ⟨d,a++B,Fw,Fz⟩ h) C).fin)==Fv 0)=_;have Sq:d++(a++B)=A++B:=by rw [<-Gq,hd]
 have fin: ∀h':List Nat,(∀n l,cnt Fz n (h'++l)=cnt Fz n l)->(cnt Fz 0 (A++B++h'++C)==Fv 0)=(dy 0 (A++B++C)==Fv 0):=by
  intro h' W8;rw [Gq (A++B),nY (A++B) 0 _ (qw hA hB),rW (A++B) C]
  congr 1
  cases dy 0 (A++B)with
  |none=>rfl
  |some n=>
   show cnt Fz n (h'++C)=dy n C;rw [W8,uE n hC]
 have f0:=fin [] (λn l=>rfl);have Pn: ∀d a,SM.run ⟨d,a,Fw,Fz⟩ C=⟨d,a++C,Fw,Fz⟩:=λd a=>fP C d a Fw hC;simp only [hiddenL,FS,Gu,or_false]at hh;rcases hh with rfl|rfl|rfl|rfl|rfl|rfl|rfl|rfl
 ·show(cnt Fz 0 ((SM.run ⟨d,a++B,Fw,Fz⟩ C).fin)==Fv 0)=_
  rw [Pn];show(cnt Fz 0 (d++(a++B++C)++[])==Fv 0)=_;rw [Hg,<-Gq,Sq];simpa using f0
 ·show(cnt Fz 0 ((SM.run ⟨d,a++B++[92]++[41],Fw,Fz⟩ C).fin)==Fv 0)=_
  rw [Pn];show(cnt Fz 0 (d++(a++B++[92]++[41]++C)++[])==Fv 0)=_;have:=fin [92,41] (λn l=>rfl);rw [<-Sq]at this ⊢
  simpa using this
 ·show(cnt Fz 0 ((SM.run ⟨d++(a++B),[],Fw,Fz⟩ C).fin)==Fv 0)=_
  rw [Pn,Sq];show(cnt Fz 0 (A++B++([]++C)++[])==Fv 0)=_;simpa using f0
 ·show(cnt Fz 0 ((SM.run ⟨d,a++B++[92]++[92],Fw,Fz⟩ C).fin)==Fv 0)=_
  rw [Pn];show(cnt Fz 0 (d++(a++B++[92]++[92]++C)++[])==Fv 0)=_;have:=fin [92,92] (λn l=>rfl);rw [<-Sq]at this ⊢
  simpa using this
 ·show(cnt Fz 0 ((SM.run ⟨d++(a++B),[],Fw,Fz⟩ C).fin)==Fv 0)=_
  rw [Pn,Sq];show(cnt Fz 0 (A++B++([]++C)++[])==Fv 0)=_;simpa using f0
 ·show(cnt Fz 0 ((SM.run ⟨d,a++B++[92]++[34],Fw,Fz⟩ C).fin)==Fv 0)=_
  rw [Pn];show(cnt Fz 0 (d++(a++B++[92]++[34]++C)++[])==Fv 0)=_;have:=fin [92,34] (λn l=>rfl);rw [<-Sq]at this ⊢
  simpa using this
 ·show(cnt Fz 0 ((SM.run ⟨d++(a++B),[],Fw,Fz⟩ C).fin)==Fv 0)=_
  rw [Pn,Sq];show(cnt Fz 0 (A++B++([]++C)++[])==Fv 0)=_;simpa using f0
 ·show(cnt Fz 0 ((SM.run ⟨d,a++B,Fv [34],Fz⟩ C).fin)==Fv 0)=_
  rw [fP C d (a++B) (Fv [34]) hC];show(cnt Fz 0 (d++(a++B)++([34]++C))==Fv 0)=_;have:=fin [34] (λn l=>rfl);rw [Sq];simpa using this
variable {a i:Int} {b k:Nat} {v:PV}
section
theorem tJ {b:Int} (hb:b≠0) (h:b.natAbs.log2<9000):dN .FloorDiv (.int a) (.int b)=Fv (.int (a.fdiv b)):=if_pos ⟨hb,PyProof.noPylong_of_log2 h⟩
theorem iG {b:Int} (hb:b≠0):dN .Mod (.int a) (.int b)=Fv (.int (a.fmod b)):=if_pos hb
noncomputable def nD:List PS:=[.set 2 0 (.bin .Add (.cI 1) (.bin .Mod (.bin .FloorDiv (.var 1) (.cI 32)) (.bin .Sub (.bi .len [(.var 0)]) (.cI 1)))),.set 3 0 (.bin .Add (.var 2) (.bin .Mod (.bin .FloorDiv (.var 1) (.cI 5)) (.bin .Sub (.bi .len [(.var 0)]) (.var 2)))),.set 4 0 (.idx (.list [(.cS ⟨#[]⟩),(.cS ⟨#[34,40,41,34]⟩),(.cS ⟨#[34,40,34]⟩),(.cS ⟨#[34,92,34,41,34]⟩)]) (.bin .Mod (.var 1) (.cI 4))),.set 5 0 (.idx (.list [(.cS ⟨#[]⟩),(.cS ⟨#[92,41]⟩),(.cS ⟨#[34,41,34]⟩),(.cS ⟨#[92,92]⟩),(.cS ⟨#[34,40,34]⟩),(.cS ⟨#[92,34]⟩),(.cS ⟨#[34,40,92,34,34]⟩),(.cS ⟨#[34]⟩)]) (.bin .Mod (.bin .FloorDiv (.var 1) (.cI 4)) (.cI 8))),.ret (.bin .Add (.bin .Add (.bin .Add (.bin .Add (.listOf (.slice (.var 0) .cN (.var 2) .cN)) (.list [(.var 4)])) (.listOf (.slice (.var 0) (.var 2) (.var 3) .cN))) (.list [(.var 5)])) (.listOf (.slice (.var 0) (.var 3) .cN .cN)))]
noncomputable def one (l:List Nat):List (List Nat):=l.map λc=>[c]
noncomputable def bq (row:List Nat) (f s:Nat) (c h:List Nat):List (List Nat):=one (row.take f)++[c]++one ((row.drop f).take (s-f))++[h]++one (row.drop s)
theorem fh (l:List Nat):(one l).length=l.length:=by simp [one]
theorem iD (l:List Nat) (h:l.length<=F_):jo (sv l)=Fv (.list ((one l).map sv)):=by
 haveI e:(gu ⟨l.toArray⟩).map PV.str=(one l).map sv:=by unfold gu one;simp
 exact(eE h).trans (congrArg (λx=>Fv (PV.list x)) e)
theorem fK {ys:List PV} (h:xs.length+ys.length<=F_):dN .Add (.list xs) (.list ys)=Fv (.list (xs++ys)):=if_pos (by rw [FP];exact h)
theorem Dx {a:Nat} (Pl:a<=b) (hb:b<=l.length) (hx:l.length<=F_):aR (sv l) (.int a) (.int b) .none=Fv (sv ((l.drop a).take (b-a))):=nH (x:=⟨l.toArray⟩) Pl hb hx
theorem CU {a:Nat} (ha:a<=l.length) (hx:l.length<=F_):aR (sv l) (.int a) .none .none=Fv (sv (l.drop a)):=AE (x:=⟨l.toArray⟩) ha hx
theorem EE (hb:b<=l.length) (hx:l.length<=F_):aR (sv l) .none (.int b) .none=Fv (sv (l.take b)):=by
 have:=nH (x:=⟨l.toArray⟩) (Hk b) hb hx;rw [Ji,Nat.sub_zero]at this;rw [<-this];show(if(1:Int)=0∨F_<(HP Fw (Fv (b:Int)) 1 l.length).length then Fw else Fv (PV.str (if((1:Int)==1&&(HP Fw (Fv (b:Int)) 1 l.length).length==l.length)=FE then⟨l.toArray⟩else⟨((HP Fw (Fv (b:Int)) 1 l.length).filterMap ((⟨l.toArray⟩:Gj).cps[·]?)).toArray⟩)))=_
 rw [AK]
 rfl
theorem dR (h:xs[k]? =Fv v) (hl:xs.length<=1000000):c_ (.list xs) (.int k)=Fv v:=by
 haveI hk:k<xs.length:=(Kw.mp h).1;haveI e:KA (k:Int) xs.length=Fv k:=by
  unfold KA;simp only;rw [if_neg (show¬((k:Int)<0)by exact J0 (Gd _))]
  simp;exact hk
 show(KA (k:Int) xs.length).bind _=_;rw [e,HS,if_pos (by exact Dr (FF (Fx (Gm hk) hl) (by decide))),h]
theorem AG {L:List (List Nat)} (hL:L.length<=1000000) (h:n<L.length): ∃c∈L,c_ (.list (L.map sv)) (.int n)=Fv (sv c):=
 ⟨L[n],I9 h,dR (by rw [Gp,Ge h];rfl) (by rw [FD];exact hL)⟩
theorem DI (h0:0<=i) (h1:i<4): ∃c∈closedL,c_ (.list (closedL.map sv)) (.int i)=Fv (sv c):=by obtain⟨n,rfl⟩:=HC h0;exact AG (by decide) (It.mp h1)
theorem DH (h0:0<=i) (h1:i<8): ∃c∈hiddenL,c_ (.list (hiddenL.map sv)) (.int i)=Fv (sv c):=by obtain⟨n,rfl⟩:=HC h0;exact AG (by decide) (It.mp h1)
theorem si {row:List Nat} (hr:2<=row.length) (RW:row.length<=1000) (Om:Int): ∃f s c h,1<=f/\f<=s/\s<row.length/\c∈closedL/\h∈hiddenL/\
  aG Γ 6 [0,1] nD [sv row,.int Om]=Fv (.list ((bq row f s c h).map sv)):=by
 haveI hz:F_=2^24:=rfl;have Oj:pbi .len [sv row]=Fv (.int row.length):=gD (x:=⟨row.toArray⟩) (by show row.length<2^62;exact FF RW (by decide))
 obtain⟨f,hf⟩: ∃f:Nat,(f:Int)=1+(Om.fdiv 32).fmod ((row.length:Int)-1):=⟨(1+(Om.fdiv 32).fmod ((row.length:Int)-1)).toNat,by have:=Hn (Om.fdiv 32) (b:=(row.length:Int)-1) (by lia);exact IZ (MW (by decide) this)⟩
 have PL:1<=f/\f<row.length:=by
  haveI h1:=Hn (Om.fdiv 32) (b:=(row.length:Int)-1) (by lia)
  haveI h2:=IE (Om.fdiv 32) (b:=(row.length:Int)-1) (by lia)
  lia
 obtain⟨s,hs⟩: ∃s:Nat,(s:Int)=f+(Om.fdiv 5).fmod ((row.length:Int)-f):=⟨(f+(Om.fdiv 5).fmod ((row.length:Int)-f)).toNat,by have:=Hn (Om.fdiv 5) (b:=(row.length:Int)-f) (by lia);exact IZ (MW (Gd _) this)⟩
 have Rk:f<=s/\s<row.length:=by
  haveI h1:=Hn (Om.fdiv 5) (b:=(row.length:Int)-f) (by lia)
  haveI h2:=IE (Om.fdiv 5) (b:=(row.length:Int)-f) (by lia)
  exact aIv hs h1 h2
 obtain⟨c,hc,TH⟩:=DI (Hn Om (b:=4) (by decide)) (IE Om (by decide))
 obtain⟨h,hh,hph⟩:=DH (Hn (Om.fdiv 4) (b:=8) (by decide)) (IE (Om.fdiv 4) (by decide))
 refine⟨f,s,c,h,PL.1,Rk.1,Rk.2,hc,hh, ?_⟩;haveI P:ag Γ nD [Fv (sv row),Fv (.int Om),Fw,Fw,Fw,Fw] []=Fv (.ret (.list ((bq row f s c h).map sv))):=by
  haveI L2:pev Γ (.bin .Add (.cI 1) (.bin .Mod (.bin .FloorDiv (.var 1) (.cI 32)) (.bin .Sub (.bi .len [(.var 0)]) (.cI 1)))) [Fv (sv row),Fv (.int Om),Fw,Fw,Fw,Fw]=Fv (.int f):=by rw [hf];exact ae rfl (ae (ae rfl rfl (tJ (by decide) (by decide))) (ae (show pev Γ (.bi .len [.var 0]) _=_ from Oj) rfl rfl) (iG (by lia))) rfl
  rw [nD,a7 (aj L2)];haveI L3:pev Γ (.bin .Add (.var 2) (.bin .Mod (.bin .FloorDiv (.var 1) (.cI 5)) (.bin .Sub (.bi .len [(.var 0)]) (.var 2)))) [Fv (sv row),Fv (.int Om),Fv (.int f),Fw,Fw,Fw]=Fv (.int s):=by rw [hs];exact ae rfl (ae (ae rfl rfl (tJ (by decide) (by decide))) (ae (show pev Γ (.bi .len [.var 0]) _=_ from Oj) rfl rfl) (iG (by lia))) rfl
  rw [a7 (ρ':=[Fv (sv row),Fv (.int Om),Fv (.int f),Fv (.int s),Fw,Fw]) (aj L3)];rw [a7 (ρ':=[Fv (sv row),Fv (.int Om),Fv (.int f),Fv (.int s),Fv (sv c),Fw]) (Ot:=[]) (aj (v:=sv c) (by
   show((dN .Mod (.int Om) (.int 4)).bind λi=>c_ (.list (closedL.map sv)) i)=_;rw [iG (by decide)]
   exact TH))]
  rw [a7 (ρ':=[Fv (sv row),Fv (.int Om),Fv (.int f),Fv (.int s),Fv (sv c),Fv (sv h)]) (Ot:=[]) (aj (v:=sv h) (by
   show(((dN .FloorDiv (.int Om) (.int 4)).bind λa=>dN .Mod a (.int 8)).bind λi=>c_ (.list (hiddenL.map sv)) i)=_;rw [tJ (by decide) (by decide)]
   show((dN .Mod (.int (Om.fdiv 4)) (.int 8)).bind _)=_;rw [iG (by decide)]
   exact hph))]
  refine ao (aH ?_);haveI A1:pev Γ (.listOf (.slice (.var 0) .cN (.var 2) .cN)) [Fv (sv row),Fv (.int Om),Fv (.int f),Fv (.int s),Fv (sv c),Fv (sv h)]=Fv (.list ((one (row.take f)).map sv)):=by
   show(aR (sv row) .none (.int f) .none).bind jo=_;rw [EE (by exact Gm PL.2) (by exact Fx RW (by decide))]
   exact iD _ (by simp;exact Fx (KV _ _) (Fx RW (by decide)))
  haveI A2:pev Γ (.listOf (.slice (.var 0) (.var 2) (.var 3) .cN)) [Fv (sv row),Fv (.int Om),Fv (.int f),Fv (.int s),Fv (sv c),Fv (sv h)]=Fv (.list ((one ((row.drop f).take (s-f))).map sv)):=by
   show(aR (sv row) (.int f) (.int s) .none).bind jo=_;rw [Dx Rk.1 (by exact Gm Rk.2) (by exact Fx RW (by decide))]
   exact iD _ (by simp;exact Fx (Fx (Kd _ _) (Fx (Lb _ _) (Fx (Gm Rk.2) RW))) (by decide))
  haveI A3:pev Γ (.listOf (.slice (.var 0) (.var 3) .cN .cN)) [Fv (sv row),Fv (.int Om),Fv (.int f),Fv (.int s),Fv (sv c),Fv (sv h)]=Fv (.list ((one (row.drop s)).map sv)):=by
   show(aR (sv row) (.int s) .none .none).bind jo=_;rw [CU (by exact Gm Rk.2) (by exact Fx RW (by decide))]
   exact iD _ (by simp;exact Gi (Fx RW (by decide)))
  have l1:(one (row.take f)).length<=1000:=by rw [fh];simp;exact Fx (KV _ _) RW
  have l2:(one ((row.drop f).take (s-f))).length<=1000:=by rw [fh];simp;exact Fx (Fx (Kd _ _) (Fx (Lb _ _) (Fx (Gm Rk.2) RW))) (by decide)
  haveI l3:(one (row.drop s)).length<=1000:=by rw [fh];simp;exact Gi RW
  refine(ae (ae (ae (ae A1 (b:= .list [sv c]) rfl (fK ?_)) A2 (fK ?_)) (b:= .list [sv h]) rfl (fK ?_)) A3 (fK ?_)).trans ?_
  ·simp only [FD,FY,GJ];exact Gw (Fx l1 (by decide))
  ·simp only [FP,FD,FY,GJ];exact Fx (FM (FM l1 (FH _)) l2) (by decide)
  ·simp only [FP,FD,FY,GJ];exact Fx (FM (FM (FM l1 (FH _)) l2) (FH _)) (by decide)
  ·simp only [FP,FD,FY,GJ];exact Fx (FM (FM (FM (FM l1 (FH _)) l2) (FH _)) l3) (by decide)
  ·simp [bq]
 show((ag Γ nD [Fv (sv row),Fv (.int Om),Fw,Fw,Fw,Fw] []).bind _)=_;rw [P]
 rfl
end
variable {G:PV->List PV} {us:List (List Nat)}
section
theorem iu {e:PE} {b:Bool} (h:pev Γ e ρ=Fv v) (ht:ez v=Fv b):cn Γ [e] ρ=Fv b:=by
 show(pev Γ e ρ).bind (λv=>(ez v).bind λt=>match t with|true=>Fv FE|false=>Fv Fz)=_
 rw [h];show(ez v).bind _=_;rw [ht];cases b<;>rfl
theorem g7 {F:List PV->PV->Option (List PV)}: ∀(xs Ok:List PV),(∀x∈xs,∀Ok,F Ok x=Fv (Ok++G x))->xs.foldlM F Ok=Fv (Ok++xs.flatMap G)
 |[],Ok,_=>by simp
 |x::xs,Ok,h=>by rw [Jp,h x FT];show xs.foldlM F (Ok++G x)=_;rw [g7 xs _ λy hy=>h y (FU _ hy)];simp
theorem hO {Ov:List Nat} {t:PT} {it:PI} {ifs:List PE} {OI:PE} (h:pit Γ it ρ=Fv xs)
  (hs: ∀x∈xs,∃ρ',aT (aB ρ Ov) t x=Fv ρ'/\((cn Γ ifs ρ'=Fv FE/\ ∃y,pev Γ OI ρ'=Fv y/\G x=[y])∨(cn Γ ifs ρ'=Fv Fz/\G x=[])))
  (hl:(xs.flatMap G).length<=F_):pev Γ (.comp1 Ov t it ifs OI) ρ=Fv (.list (xs.flatMap G)):=by
 show(pit Γ it ρ).bind (λxs=>(xs.foldlM (λOk x=>do
   let ρ'<-aT (aB ρ Ov) t x
   match<-cn Γ ifs ρ' with
   |true=>do let y<-pev Γ OI ρ';Fv (Ok++[y])
   |false=>Fv Ok) []).bind cv)=_
 rw [h];show Nd (xs.foldlM (m:=Option) _ []) cv=_;rw [g7 (G:=G) xs [] (λx hx Ok=> ?_)]
 ·rw [Hb]
  exact if_pos hl
 ·obtain⟨ρ',hb,h1⟩:=hs x hx
  rw [hb];rcases h1 with⟨ht,y,hy,hG⟩|⟨ht,hG⟩
  ·show(cn Γ ifs ρ').bind _=_
   rw [ht];show(pev Γ OI ρ').bind _=_;rw [hy,hG]
   rfl
  ·show(cn Γ ifs ρ').bind _=_
   rw [ht,hG,Hg]
   rfl
noncomputable def isB (u:List Nat):Bool:=u==[40]||u==[41]
noncomputable def aP (us:List (List Nat)):List Nat:=(us.filter isB).flatten
noncomputable def tR:List PS:=[.ret (.meth .join (.cS ⟨#[]⟩) [(.comp1 [1,2] (.one 2) (.ex (.var 0)) [(.cmp .In (.var 2) (.list [(.cS ⟨#[40]⟩),(.cS ⟨#[41]⟩)]))] (.var 2))])]
theorem kY {a b:List Nat} (h:(⟨a.toArray⟩:Gj)=⟨b.toArray⟩):a=b:=by have:=congrArg (λx:Gj=>x.cps.toList) h;simpa using this
theorem nF (a b:List Nat):((⟨a.toArray⟩:Gj)==⟨b.toArray⟩)=(a==b):=by
 by_cases h:a=b
 ·rw [h];simp
 ·haveI: ¬((⟨a.toArray⟩:Gj)=⟨b.toArray⟩):=λq=>h (kY q)
  rw [beq_eq_false_iff_ne.mpr this,beq_eq_false_iff_ne.mpr h]
theorem tq (us:List (List Nat)) (p:List Nat->Bool):((us.map sv).flatMap λx=>match x with| .str y=>if p y.cps.toList=FE then [.str y]else []|_=>[])=(us.filter p).map sv:=by
 induction us with
 |nil=>rfl
 |cons u us ih=>
  rw [Gf,JR,ih];show(if p u=FE then [sv u]else [])++_=_;by_cases h:p u=FE
  ·rw [if_pos h,Ik h];rfl
  ·rw [if_neg h,Il h];rfl
theorem vS (hl:us.length<=1000):aG Γ 3 [0] tR [.list (us.map sv)]=Fv (sv (aP us)):=by
 haveI hz:F_=2^24:=rfl;have Qn:(us.filter isB).length<=us.length:=I6 _ _;haveI C:pev Γ (.comp1 [1,2] (.one 2) (.ex (.var 0)) [(.cmp .In (.var 2) (.list [(.cS ⟨#[40]⟩),(.cS ⟨#[41]⟩)]))] (.var 2)) [Fv (.list (us.map sv)),Fw,Fw]=Fv (.list ((us.filter isB).map sv)):=by
  have e:=tq us isB;rw [<-e];refine hO (xs:=us.map sv) rfl (λx hx=> ?_) (by rw [e,FD];exact Fx (Fx Qn hl) (by decide))
  obtain⟨u,hu,rfl⟩:=Ga.mp hx;refine⟨[Fv (.list (us.map sv)),Fw,Fv (sv u)],rfl, ?_⟩;have ht:cn Γ [(.cmp .In (.var 2) (.list [(.cS ⟨#[40]⟩),(.cS ⟨#[41]⟩)]))] [Fv (.list (us.map sv)),Fw,Fv (sv u)]=Fv (isB u):=by
   haveI h1:pin (sv u) (.list [sv [40],sv [41]])=Fv (isB u):=by
    show Fv ([(⟨#[40]⟩:Gj),⟨#[41]⟩].contains ⟨u.toArray⟩)=_;unfold isB
    congr 1
    simp only [JH,List.contains_nil,Bool.or_false];rw [<-nF,<-nF]
   haveI hp:pev Γ (.cmp .In (.var 2) (.list [(.cS ⟨#[40]⟩),(.cS ⟨#[41]⟩)])) [Fv (.list (us.map sv)),Fw,Fv (sv u)]=Fv (.bool (isB u)):=by
    show((pev Γ (.list [(.cS ⟨#[40]⟩),(.cS ⟨#[41]⟩)]) [Fv (.list (us.map sv)),Fw,Fv (sv u)]).bind λb=>(gk .In (sv u) b).map PV.bool)=_;rw [show pev Γ (.list [(.cS ⟨#[40]⟩),(.cS ⟨#[41]⟩)]) [Fv (.list (us.map sv)),Fw,Fv (sv u)]=Fv (.list [sv [40],sv [41]])from rfl];show(pin (sv u) (.list [sv [40],sv [41]])).map PV.bool=_;rw [h1]
    rfl
   exact iu hp rfl
  cases hb:isB u with
  |true=>exact .inl ⟨by rw [ht,hb],sv u,rfl,by show(if isB u=FE then _ else _)=_;rw [if_pos hb]⟩
  |false=>exact .inr ⟨by rw [ht,hb],by show(if isB u=FE then _ else _)=_;rw [if_neg (by rw [hb];decide)]⟩
 haveI Oj: ∀l:List (List Nat),(∀u∈l,isB u=FE)->l.flatten.length=l.length:=by
  intro l;induction l with
  |nil=>intro _;rfl
  |cons u l ih=>
   intro h;rw [IN,FP,ih λv hv=>h v (FU _ hv),FY];have:=h u FT;unfold isB at this;haveI:u.length=1:=by rcases LB.mp this with q|q<;>(rw [beq_iff_eq.mp q];rfl)
   lia
 haveI P:ag Γ tR [Fv (.list (us.map sv)),Fw,Fw] []=Fv (.ret (sv (aP us))):=by refine ao (aH ?_);show((pev Γ (.comp1 [1,2] (.one 2) (.ex (.var 0)) [(.cmp .In (.var 2) (.list [(.cS ⟨#[40]⟩),(.cS ⟨#[41]⟩)]))] (.var 2)) [Fv (.list (us.map sv)),Fw,Fw]).bind λv=>Fv [v]).bind (λvs=>pme .join (.str ⟨#[]⟩) vs)=_;rw [C];exact dW (by rw [Oj _ λu hu=>(GR.mp hu).2];exact Fx (Fx Qn hl) (by decide))
 show((ag Γ tR [Fv (.list (us.map sv)),Fw,Fw] []).bind _)=_;rw [P]
 rfl
end
section
theorem eW {l h:PV} {lo hi:Option Int} (hl:kc l=Fv lo) (hh:kc h=Fv hi) (hx:xs.length<=F_):aR (.list xs) l h .none=Fv (.list (fg xs lo hi Fw)):=by show((kc l).bind λl=>(kc h).bind λh=>(kc .none).bind λs=>if s=Fv 0∨F_<xs.length then Fw else Fv (PV.list (fg xs l h s)))=_;rw [hl,hh];show(if(Fw:Option Int)=Fv 0∨F_<xs.length then Fw else Fv (PV.list (fg xs lo hi Fw)))=_;rw [if_neg (by simp;exact hx)]
noncomputable def la:List PS:=[.ite (.cmp .Eq (.idx (.var 0) (.var 1)) (.cS ⟨#[41]⟩)) [.set 2 0 (.call 1 [(.meth .join (.cS ⟨#[]⟩) [(.slice (.var 0) .cN (.bin .Add (.var 1) (.cI 1)) .cN)])]),.ite (.cmp .Is (.var 2) (.cB FE)) [.ret (.list [(.call 15 [(.slice (.var 0) (.cI 1) (.var 1) .cN)]),(.call 15 [(.slice (.var 0) (.bin .Add (.var 1) (.cI 1)) .cN .cN)])])] [],.ite (.cmp .IsNot (.var 2) (.cB Fz)) [.ret (.list [])] []] []]
noncomputable def nJ:List PS:=[.for_ (.one 1) (.ex (.rng [(.cI 1),(.bi .len [(.var 0)])])) la,.ret (.list [])]
noncomputable def pf (us:List (List Nat)):List Nat->Option (List Nat×List Nat)
 |[]=>Fw
 |k::ks=>if us[k]? =Fv [41]/\d5 (us.take (k+1)).flatten=FE then Fv (aP ((us.take k).drop 1),aP (us.drop (k+1)))else pf us ks
theorem CZ {ks:List Nat}:pf us (k::ks)=if us[k]? =Fv [41]/\d5 (us.take (k+1)).flatten=FE then Fv (aP ((us.take k).drop 1),aP (us.drop (k+1)))else pf us ks:=rfl
theorem z0 (us:List (List Nat)) (k:Nat):(us.map sv).take k=(us.take k).map sv:=by rw [KF]
theorem sV (h1: ∀l:List Nat,l.length<=2000->Γ.fn 1 [sv l]=Fv (.bool (d5 l))) (S4: ∀vs:List (List Nat),vs.length<=1000->Γ.fn 15 [.list (vs.map sv)]=Fv (sv (aP vs)))
  (hl:us.length<=1000) (Qn:us.flatten.length<=2000) (Rt:1<=k) (hk:k<us.length): ∃SI,ag Γ la [Fv (.list (us.map sv)),Fv (.int k),p2] []=
   if us[k]? =Fv [41]/\d5 (us.take (k+1)).flatten=FE then Fv (.ret (.list [sv (aP ((us.take k).drop 1)),sv (aP (us.drop (k+1)))]))else Fv (.next [Fv (.list (us.map sv)),Fv (.int k),SI] []):=by
 haveI hz:F_=2^24:=rfl;obtain⟨u,hu⟩: ∃u,us[k]? =Fv u:=⟨us[k],Ge hk⟩;haveI hpx:c_ (.list (us.map sv)) (.int k)=Fv (sv u):=dR (by rw [Gp,hu];rfl) (by rw [FD];exact Fx hl (by decide))
 have ht:bt Γ (.cmp .Eq (.idx (.var 0) (.var 1)) (.cS ⟨#[41]⟩)) [Fv (.list (us.map sv)),Fv (.int k),p2]=Fv (u==[41]):=by
  haveI:pev Γ (.cmp .Eq (.idx (.var 0) (.var 1)) (.cS ⟨#[41]⟩)) [Fv (.list (us.map sv)),Fv (.int k),p2]=Fv (.bool (u==[41])):=by show((c_ (.list (us.map sv)) (.int k)).bind λa=>(gk .Eq a (sv [41])).map PV.bool)=_;rw [hpx];show Fv (PV.bool ((⟨u.toArray⟩:Gj)==⟨[41].toArray⟩))=_;rw [nF]
  show(pev Γ _ _).bind ez=_;rw [this];rfl
 by_cases h41:u=[41]
 ·subst h41
  have Ud:(us.take (k+1)).flatten.length<=2000:=by
   haveI:us.flatten=(us.take (k+1)).flatten++(us.drop (k+1)).flatten:=by rw [<-Kf,I5]
   rw [this,FP]at Qn;exact GF Qn
  have R9:ak Γ (.set 2 0 (.call 1 [(.meth .join (.cS ⟨#[]⟩) [(.slice (.var 0) .cN (.bin .Add (.var 1) (.cI 1)) .cN)])])) [Fv (.list (us.map sv)),Fv (.int k),p2] []=Fv (.next [Fv (.list (us.map sv)),Fv (.int k),Fv (.bool (d5 (us.take (k+1)).flatten))] []):=by
   refine aj (aw (vs:=[sv (us.take (k+1)).flatten]) (aa ?_ rfl) (h1 _ Ud));haveI hs:aR (.list (us.map sv)) .none (.int ((k+1:Nat):Int)) .none=Fv (.list (dB (us.take (k+1)))):=by
    rw [eW (lo:=Fw) (hi:=Fv ((k+1:Nat):Int)) rfl rfl (by rw [FD];exact Fx hl (by decide)),rJ _ (by rw [FD];exact hk),z0]
    rfl
   show((aR (.list (us.map sv)) .none (.int ((k+1:Nat):Int)) .none).bind λv=>Fv [v]).bind (λvs=>pme .join (.str ⟨#[]⟩) vs)=_;rw [hs];exact dW (by exact Fx Ud (by decide))
  cases hc:d5 (us.take (k+1)).flatten with
  |true=>
   rw [hc]at R9;refine⟨Fw, ?_⟩;rw [if_pos ⟨hu,rfl⟩];refine ao (am ht ?_);rw [if_pos (by simp)]
   rw [a7 R9];refine ao (am (t:=FE) rfl ?_);rw [if_pos rfl];refine ao (aH ?_);haveI a1:pev Γ (.call 15 [(.slice (.var 0) (.cI 1) (.var 1) .cN)]) [Fv (.list (us.map sv)),Fv (.int k),Fv (.bool FE)]=Fv (sv (aP ((us.take k).drop 1))):=by
    refine aw (vs:=[.list (((us.take k).drop 1).map sv)]) (aa ?_ rfl) (S4 _ (by simp;exact Fx (KV _ _) (Fx hl (by decide))))
    show aR (.list (us.map sv)) (.int ((1:Nat):Int)) (.int k) .none=_;rw [eW (lo:=Fv ((1:Nat):Int)) (hi:=Fv (k:Int)) rfl rfl (by rw [FD];exact Fx hl (by decide)),ou _ Rt (by rw [FD];exact Gm hk)]
    congr 2
    rw [LD,KF,<-List.drop_take]
   haveI a2:pev Γ (.call 15 [(.slice (.var 0) (.bin .Add (.var 1) (.cI 1)) .cN .cN)]) [Fv (.list (us.map sv)),Fv (.int k),Fv (.bool FE)]=Fv (sv (aP (us.drop (k+1)))):=by
    refine aw (vs:=[.list ((us.drop (k+1)).map sv)]) (aa ?_ rfl) (S4 _ (by simp;exact Gi hl))
    show aR (.list (us.map sv)) (.int ((k+1:Nat):Int)) .none .none=_;rw [eW (lo:=Fv ((k+1:Nat):Int)) (hi:=Fw) rfl rfl (by rw [FD];exact Fx hl (by decide)),rK _ (by rw [FD];exact hk),LD]
   show(dz Γ [_,_] _).bind cv=_;rw [aa a1 (aa a2 rfl)]
   rfl
  |false=>
   rw [hc]at R9;refine⟨Fv (.bool Fz), ?_⟩;rw [if_neg (by simp)]
   refine(a7 (ρ':=[Fv (.list (us.map sv)),Fv (.int k),Fv (.bool Fz)]) (Ot:=[]) (am ht ?_)).trans rfl;rw [if_pos (by simp),a7 R9]
   rfl
 ·refine⟨p2, ?_⟩
  rw [if_neg (by rw [hu];simp [h41])]
  refine(a7 (ρ':=[Fv (.list (us.map sv)),Fv (.int k),p2]) (Ot:=[]) (am ht ?_)).trans rfl;rw [if_neg (by simpa using h41)]
  rfl
end
variable {m:Nat}
section
theorem eX: ∀(n k:Nat),(fu (k:Int) n).map PV.int=(GL k n).map λi=>PV.int (i:Nat)
 |0,k=>rfl
 |n+1,k=>by
  rw [fu,Jo,Gf,Gf];have:=eX n (k+1);rw [show((k+1:Nat):Int)=(k:Int)+1 by push_cast;rfl]at this
  rw [this]
theorem ot {a b:PE} (ha:pev Γ a ρ=Fv (.int m)) (hb:pev Γ b ρ=Fv (.int n)) (hn:n<=1000000) (hm:m<=1000000):pit Γ (.ex (.rng [a,b])) ρ=Fv ((GL m (n-m)).map λi=>PV.int (i:Nat)):=by
 haveI e:bG (m:Int) (n:Int)=Fv ((GL m (n-m)).map λi=>PV.int (i:Nat)):=by unfold bG;rw [if_pos (by exact tT hm hn),show((n:Int)-(m:Int)).toNat=n-m by exact Int.toNat_sub _ _,eX]
 show((dz Γ [a,b] ρ).bind gU).bind cV=_;rw [aa ha (aa hb rfl)];exact e
theorem lZ (h1: ∀l:List Nat,l.length<=2000->Γ.fn 1 [sv l]=Fv (.bool (d5 l))) (S4: ∀vs:List (List Nat),vs.length<=1000->Γ.fn 15 [.list (vs.map sv)]=Fv (sv (aP vs)))
  (hl:us.length<=1000) (Qn:us.flatten.length<=2000): ∀(ks:List Nat) (p1 p2:Option PV),(∀k∈ks,1<=k/\k<us.length)-> ∃q1 q2,
   eA (.one 1) (λρ own=>ag Γ la ρ own) (ks.map λi=>PV.int (i:Nat)) [Fv (.list (us.map sv)),p1,p2] []=
    (match pf us ks with|some (a,b)=>Fv (.ret (.list [sv a,sv b]))|none=>Fv (.next [Fv (.list (us.map sv)),q1,q2] []))
 |[],p1,p2,_=>⟨p1,p2,rfl⟩
 |k::ks,p1,p2,hk=>by
  obtain⟨q,hb⟩:=sV (p2:=p2) h1 S4 hl Qn (hk k FT).1 (hk k FT).2;obtain⟨q1,q2,ih⟩:=lZ h1 S4 hl Qn ks (Fv (.int k)) q (λk' Ps=>hk k' (FU _ Ps));refine⟨q1,q2, ?_⟩;rw [Gf,pL rfl];show(match ag Γ la [Fv (.list (us.map sv)),Fv (.int k),p2] []with|some (.next ρ own)=>_|some (.ret v)=>_|none=>_)=_
  rw [hb,CZ];by_cases hc:us[k]? =Fv [41]/\d5 (us.take (k+1)).flatten=FE
  ·rw [if_pos hc,if_pos hc]
  ·rw [if_neg hc,if_neg hc]
   exact ih
noncomputable def ik (us:List (List Nat)):List (List Nat):=match pf us (GL 1 (us.length-1))with
 |some (a,b)=>[a,b]
 |none=>[]
theorem sR (h1: ∀l:List Nat,l.length<=2000->Γ.fn 1 [sv l]=Fv (.bool (d5 l))) (S4: ∀vs:List (List Nat),vs.length<=1000->Γ.fn 15 [.list (vs.map sv)]=Fv (sv (aP vs)))
  (hl:us.length<=1000) (Qn:us.flatten.length<=2000):aG Γ 3 [0] nJ [.list (us.map sv)]=Fv (.list ((ik us).map sv)):=by
 obtain⟨q1,q2,TP⟩:=lZ h1 S4 hl Qn (GL 1 (us.length-1)) Fw Fw (λk hk=>by rw [LO]at hk;exact aRg hk)
 haveI hp:pit Γ (.ex (.rng [(.cI 1),(.bi .len [(.var 0)])])) [Fv (.list (us.map sv)),Fw,Fw]=Fv ((GL 1 (us.length-1)).map λi=>PV.int (i:Nat)):=by
  refine ot (m:=1) (n:=us.length) rfl ?_ (by exact Fx hl (by decide)) (by decide)
  have:=bv (xs:=us.map sv) (by rw [FD];exact FF hl (by decide))
  rw [FD]at this;exact this
 haveI P:ag Γ nJ [Fv (.list (us.map sv)),Fw,Fw] []=Fv (.ret (.list ((ik us).map sv))):=by
  have hf:=(eN (Γ:=Γ) (pt:= .one 1) (body:=la) (own:=[]) (ρ:=[Fv (.list (us.map sv)),Fw,Fw]) hp).trans TP;unfold ik;cases e:pf us (GL 1 (us.length-1))with
  |none=>
   rw [e]at hf;rw [nJ,a7 hf]
   rfl
  |some x=>
   obtain⟨a,b⟩:=x;rw [e]at hf;exact ao hf
 show((ag Γ nJ [Fv (.list (us.map sv)),Fw,Fw] []).bind _)=_;rw [P]
 rfl
end
noncomputable def fb:List Nat->List Nat->Option (List Nat×List Nat)
 |_,[]=>Fw
 |p,x::r=>if x=41/\(dy 0 (p++[x])==Fv 0)=FE then Fv (p.tail,r)else fb (p++[x]) r
theorem b_ (a b:List (List Nat)):aP (a++b)=aP a++aP b:=by simp [aP]
theorem dL (h:dh A):aP (one A)=A:=by
 induction A with
 |nil=>rfl
 |cons c A ih=>
  haveI hc:isB [c]=FE:=by rcases h c FT with rfl|rfl<;>rfl
  show aP ([c]::one A)=_;unfold aP;rw [Ik hc,IN];have:=ih λx hx=>h x (FU _ hx);unfold aP at this;rw [this]
  rfl
theorem j0 (A:List Nat):(one A).flatten=A:=by
 induction A with
 |nil=>rfl
 |cons c A ih=>
  show([c]::one A).flatten=_;rw [IN,ih];rfl
theorem AH (h0:us[0]? =Fv [40]) (hp: ∀m,1<=m->m<=us.length->d5 (us.take m).flatten=(dy 0 (aP (us.take m))==Fv 0)): ∀(n k:Nat),1<=k->k+n=us.length->pf us (GL k n)=fb (aP (us.take k)) (aP (us.drop k))
 |0,k,h1,h2=>by
  have:us.drop k=[]:=Hl (by exact FI (Ha h2))
  rw [this];rfl
 |n+1,k,h1,h2=>by
  have hk:k<us.length:=by exact Fy (GW (FZ _ _)) (FI h2)
  have ih:=AH h0 hp n (k+1) (by exact H5 _ _) (by exact N5 (Gh _ _ _) h2)
  have hg:us[k]? =Fv us[k]:=Ge hk;have ht:us.take (k+1)=us.take k++[us[k]]:=by rw [JP hk]
  have hd:us.drop k=us[k]::us.drop (k+1):=I4 hk;have hb: ∀u,aP [u]=if isB u=FE then u else []:=by
   intro u;unfold aP;by_cases h:isB u=FE
   ·rw [if_pos h,Ik h];simp
   ·rw [if_neg h,Il h];rfl
  have Tz:aP (us.drop k)=aP [us[k]]++aP (us.drop (k+1)):=by rw [hd,<-b_];rfl
  rw [Jo,CZ,hg,hp (k+1) (by exact H5 _ _) (by exact hk),ih,Tz,ht,b_,hb]
  generalize us[k]=u;by_cases h41:u=[41]
  ·subst h41
   rw [if_pos (show isB [41]=FE from rfl)];show _=fb (aP (us.take k)) (41::aP (us.drop (k+1)));rw [fb];have h2:aP ((us.take k).drop 1)=(aP (us.take k)).tail:=by
    cases us with
    |nil=>cases h0
    |cons v us=>
     have hv:v=[40]:=FG h0;subst hv;cases k with
     |zero=>exact rfl
     |succ k=>rfl
   by_cases hc:(dy 0 (aP (us.take k)++[41])==Fv 0)=FE
   ·rw [if_pos ⟨rfl,hc⟩,if_pos ⟨rfl,hc⟩,h2]
   ·rw [if_neg (λq=>hc q.2),if_neg (λq=>hc q.2)]
  ·rw [if_neg (λq=>h41 (FG q.1))]
   by_cases h40:u=[40]
   ·subst h40
    rw [if_pos (show isB [40]=FE from rfl)];show _=fb (aP (us.take k)) (40::aP (us.drop (k+1)));rw [fb,if_neg (λq=>by cases q.1)]
   ·have hn:isB u=Fz:=by simp [isB,h40,h41]
    rw [if_neg (by rw [hn];decide),Hg,Hb]
theorem jJ (h:c∈closedL):isB c=Fz:=by simp only [closedL,FS,Gu,or_false]at h;rcases h with rfl|rfl|rfl|rfl<;>rfl
theorem ng (h:c∈hiddenL):isB c=Fz:=by simp only [hiddenL,FS,Gu,or_false]at h;rcases h with rfl|rfl|rfl|rfl|rfl|rfl|rfl|rfl<;>rfl
theorem iQ (h:isB c=Fz):aP [c]=[]:=by unfold aP;rw [Il (by rw [h];decide)];rfl
theorem bd (h:dh A) (n:Nat):dh (A.take n):=λc hc=>h c (Lp hc)
theorem cy (h:dh A) (n:Nat):dh (A.drop n):=λc hc=>h c (K7 hc)
theorem lG (A:List Nat) (n:Nat):(one A).take n=one (A.take n):=by unfold one;rw [KF]
theorem v9 (hA:dh A) (hc:c∈closedL) (hB:dh B) (hh:h∈hiddenL) (hC:dh C) (m:Nat):
  d5 (((one A++[c]++one B++[h]++one C).take m).flatten)=(dy 0 (aP ((one A++[c]++one B++[h]++one C).take m))==Fv 0):=by
 haveI e0: ∀X:List (List Nat),one A++[c]++one B++[h]++one C=one A++([c]++(one B++([h]++one C))):=λ_=>by simp
 rw [e0 []];by_cases h1:m<=A.length
 ·rw [J1 (by rw [fh];exact h1),lG,j0,dL (bd hA m),Am (bd hA m)]
 ·obtain⟨m1,rfl⟩: ∃m1,m=A.length+(1+m1):=⟨m-A.length-1,by exact Dq h1⟩
  haveI t1:(one A++([c]++(one B++([h]++one C)))).take (A.length+(1+m1))=one A++([c]++(one B++([h]++one C)).take m1):=by
   rw [<-fh A,MF]
   congr 1
   rw [GX]
   rfl
  rw [t1];by_cases h2:m1<=B.length
  ·rw [J1 (by rw [fh];exact h2),lG]
   have f1:(one A++([c]++one (B.take m1))).flatten=A++c++B.take m1:=by simp [j0]
   have f2:aP (one A++([c]++one (B.take m1)))=A++B.take m1:=by rw [b_,b_,dL hA,dL (bd hB m1),iQ (jJ hc)];rfl
   rw [f1,f2,An hA hc (bd hB m1)]
  ·obtain⟨m2,rfl⟩: ∃m2,m1=B.length+(1+m2):=⟨m1-B.length-1,by exact Dq h2⟩
   haveI t2:(one B++([h]++one C)).take (B.length+(1+m2))=one B++([h]++(one C).take m2):=by
    rw [<-fh B,MF]
    congr 1
    rw [GX]
    rfl
   rw [t2,lG];haveI f1:(one A++([c]++(one B++([h]++one (C.take m2))))).flatten=A++c++B++h++C.take m2:=by simp [j0]
   haveI f2:aP (one A++([c]++(one B++([h]++one (C.take m2)))))=A++B++C.take m2:=by rw [b_,b_,b_,b_,dL hA,dL hB,dL (bd hC m2),iQ (jJ hc),iQ (ng hh)];simp
   rw [f1,f2,oO hA hc hB hh (bd hC m2)]
variable {r:List Nat}
section
variable {f s:Nat}
theorem ol (hf:f<=s):(40::r).take f++((40::r).drop f).take (s-f)++(40::r).drop s=40::r:=by
 haveI:(40::r).drop s=((40::r).drop f).drop (s-f):=by rw [Iy];congr 1;exact Ha (Gz hf)
 rw [this,Gq,I5,I5]
theorem sk (hr:dh (40::r)) (hf:f<=s) (hc:c∈closedL) (hh:h∈hiddenL):aP (bq (40::r) f s c h)=40::r:=by unfold bq;rw [b_,b_,b_,b_,dL (bd hr f),dL (bd (cy hr f) _),dL (cy hr s),iQ (jJ hc),iQ (ng hh),Hg,Hg,ol hf]
theorem mK (hf:f<=s) (hs:s<r.length+1):(bq (40::r) f s c h).length=r.length+3:=by unfold bq;simp only [FP,fh,IW,Iu,FY,GJ];exact Fp hf hs
theorem tC (hc:c∈closedL):c.length<=5:=by simp only [closedL,FS,Gu,or_false]at hc;rcases hc with rfl|rfl|rfl|rfl<;>decide
theorem tj (hh:h∈hiddenL):h.length<=5:=by simp only [hiddenL,FS,Gu,or_false]at hh;rcases hh with rfl|rfl|rfl|rfl|rfl|rfl|rfl|rfl<;>decide
theorem eY:(bq (40::r) f s c h).flatten=(40::r).take f++c++((40::r).drop f).take (s-f)++h++(40::r).drop s:=by unfold bq;simp [j0]
theorem sh (hf:f<=s) (hs:s<r.length+1) (hc:c∈closedL) (hh:h∈hiddenL):(bq (40::r) f s c h).flatten.length<=r.length+11:=by rw [eY];simp only [FP,IW,Iu,FY,GJ];exact Ex hf hs (tC hc) (tj hh)
theorem uS (hr:dh (40::r)) (hf:f<=s) (hc:c∈closedL) (hh:h∈hiddenL):d5 (bq (40::r) f s c h).flatten=(dy 0 (40::r)==Fv 0):=by rw [eY,oO (bd hr f) hc (bd (cy hr f) _) hh (cy hr s),ol hf]
theorem sj (hr:dh (40::r)) (h1:1<=f) (hf:f<=s) (hc:c∈closedL) (hh:h∈hiddenL):d5 ((bq (40::r) f s c h).flatten.drop 1)=(dy 0 r==Fv 0):=by
 haveI ht:dh r:=λx hx=>hr x (FU _ hx);obtain⟨g,rfl⟩: ∃g,f=g+1:=⟨f-1,by exact Ha (IC h1)⟩
 haveI e:(bq (40::r) (g+1) s c h).flatten.drop 1=r.take g++c++((40::r).drop (g+1)).take (s-(g+1))++h++(40::r).drop s:=by rw [eY];rfl
 rw [e,oO (bd ht g) hc (bd (cy hr _) _) hh (cy hr s)];have:=ol (r:=r) hf;have:r.take g++((40::r).drop (g+1)).take (s-(g+1))++(40::r).drop s=r:=Lj this|>.2;rw [this]
theorem xa (hr:dh (40::r)) (hc:c∈closedL) (hh:h∈hiddenL):39∉(bq (40::r) f s c h).flatten:=by
 intro q;have hc:39∉c:=by simp only [closedL,FS,Gu,or_false]at hc;rcases hc with rfl|rfl|rfl|rfl<;>decide
 have hh:39∉h:=by simp only [hiddenL,FS,Gu,or_false]at hh;rcases hh with rfl|rfl|rfl|rfl|rfl|rfl|rfl|rfl<;>decide
 have hb: ∀l,dh l->39∉l:=λl hl q=>by rcases hl 39 q with q|q<;>lia
 rw [eY]at q;rcases GY.mp q with q|q
 ·rcases GY.mp q with q|q
  ·rcases GY.mp q with q|q
   ·rcases GY.mp q with q|q
    ·exact hb _ (bd hr f) q
    ·exact hc q
   ·exact hb _ (bd (cy hr f) _) q
  ·exact hh q
 ·exact hb _ (cy hr s) q
theorem sg (hr:dh (40::r)) (hc:c∈closedL) (hh:h∈hiddenL):pI≠(bq (40::r) f s c h).flatten:=λq=>xa hr hc hh (q▸(by decide:39∈pI))
noncomputable def fbL (r:List Nat):List (List Nat):=match fb [40] r with
 |some (a,b)=>[a,b]
 |none=>[]
theorem qI (hr:dh (40::r)) (h1:1<=f) (hf:f<=s) (hs:s<r.length+1) (hc:c∈closedL) (hh:h∈hiddenL):ik (bq (40::r) f s c h)=fbL r:=by
 obtain⟨g,rfl⟩: ∃g,f=g+1:=⟨f-1,by exact Ha (IC h1)⟩
 have e:bq (40::r) (g+1) s c h=[40]::(bq (40::r) (g+1) s c h).drop 1:=by unfold bq;rfl
 have hb:=sk (r:=r) hr hf hc hh;haveI h0:(bq (40::r) (g+1) s c h)[0]? =Fv [40]:=by rw [e];rfl
 haveI QS:aP ((bq (40::r) (g+1) s c h).drop 1)=r:=by rw [e]at hb;rw [show([40]::(bq (40::r) (g+1) s c h).drop 1)=[[40]]++(bq (40::r) (g+1) s c h).drop 1 from rfl,b_]at hb;exact(Lj hb).2
 haveI Qk:aP ((bq (40::r) (g+1) s c h).take 1)=[40]:=by rw [e];rfl
 haveI hl:=mK (r:=r) (c:=c) (h:=h) hf hs;unfold ik fbL;rw [AH h0 (λm _ _=>v9 (bd hr _) hc (bd (cy hr _) _) hh (cy hr s) m) _ 1 (FH _) (by exact GX _ _),Qk,QS]
 all_goals(rcases fb [40] r with _|⟨a,b⟩<;>rfl)
end
noncomputable def DB (n:Nat):List (List Nat):=match n with
 |1=>[[41]]
 |2=>[[40,41,41],[41,40,41]]
 |3=>[[40,40,41,41,41],[40,41,40,41,41],[40,41,41,40,41],[41,40,40,41,41],[41,40,41,40,41],[41,41,40,40,41]]
 |4=>[[40,40,40,41,41,41,41],[40,40,41,40,41,41,41],[40,40,41,41,40,41,41],[40,40,41,41,41,40,41],[40,41,40,40,41,41,41],[40,41,40,41,40,41,41],[40,41,40,41,41,40,41],[40,41,41,40,40,41,41],[40,41,41,40,41,40,41],[40,41,41,41,40,40,41],[41,40,40,40,41,41,41],[41,40,40,41,40,41,41],[41,40,40,41,41,40,41],[41,40,41,40,40,41,41],[41,40,41,40,41,40,41],[41,40,41,41,40,40,41],[41,41,40,40,40,41,41],[41,41,40,40,41,40,41],[41,41,40,41,40,40,41],[41,41,41,40,40,40,41]]
 |_=>[]
section
noncomputable def rowsN (n:Nat):List (List Nat):=(DB n).map (40::·)
theorem BB:aG Γ 7 [0] cO [.int 1]=Fv (.list ((rowsN 1).map sv)):=by kernel_rfl
theorem BA:aG Γ 7 [0] cO [.int 2]=Fv (.list ((rowsN 2).map sv)):=by kernel_rfl
theorem Bz:aG Γ 7 [0] cO [.int 3]=Fv (.list ((rowsN 3).map sv)):=by kernel_rfl
theorem By:aG Γ 7 [0] cO [.int 4]=Fv (.list ((rowsN 4).map sv)):=by kernel_rfl
noncomputable def htL (l:List Nat):Nat:=(l.foldl (fun(p:Int×Int) c=>let h:=p.1+(if c=40 then 1 else-1);(h,max p.2 h)) (0,0)).2.toNat
theorem C7: ∀n∈[1,2,3,4],(rowsN n).map (λr=>aG Γ 4 [0] ee [sv r])=(rowsN n).map (λr=>Fv (.int (htL r))):=by intro n hn;simp only [FS,Gu,or_false]at hn;rcases hn with rfl|rfl|rfl|rfl<;>kernel_rfl
theorem zU (hn:n∈[1,2,3,4]) (hr:r∈rowsN n):aG Γ 4 [0] ee [sv r]=Fv (.int (htL r)):=Jf.mp (C7 n hn) r hr
theorem xz {xs:List Int} (is:List Nat):(is.filterMap λi=>(xs.map PV.int)[i]?)=(is.filterMap λi=>xs[i]?).map PV.int:=by
 induction is with
 |nil=>rfl
 |cons i is ih=>
  rw [I0,I0,Gp,ih];cases xs[i]? <;>rfl
theorem vI {xs:List Int} (hl:xs.length<=1000) {p:Nat} (hp:p<5): ∃h:Int,aG Γ 2 [0,1] dv [.list (xs.map .int),.int p]=Fv (.int h):=by
 haveI hz:F_=2^24:=rfl;obtain⟨c,hc⟩: ∃c:Int,pev Γ (.idx (.list [(.cI 19),(.cI 20),(.cI 1390),(.bin .Pow (.cI 7) (.cI 40)),(.bin .Pow (.cI 3) (.cI 20))]) (.var 1)) [Fv (.list (xs.map .int)),Fv (.int p)]=Fv (.int c):=by
  haveI:p=0∨p=1∨p=2∨p=3∨p=4:=by exact Ff hp
  rcases this with rfl|rfl|rfl|rfl|rfl
  ·exact⟨19,by kernel_rfl⟩
  ·exact⟨20,by kernel_rfl⟩
  ·exact⟨1390,by kernel_rfl⟩
  ·exact⟨7^40,by kernel_rfl⟩
  ·exact⟨3^20,by kernel_rfl⟩
 have hs:pev Γ (.slice (.var 0) (.var 1) .cN (.cI 5)) [Fv (.list (xs.map .int)),Fv (.int p)]=Fv (.list (fg (xs.map .int) (Fv p) Fw (Fv 5))):=by show(if Fv (5:Int)=Fv 0∨F_<(xs.map PV.int).length then Fw else Fv (PV.list _))=_;rw [if_neg (by rw [FD];simp;exact Fx hl (by decide))]
 haveI SL: ∃ys:List Int,fg (xs.map PV.int) (Fv p) Fw (Fv 5)=ys.map PV.int:=by unfold fg;exact⟨_,xz _⟩
 obtain⟨ys,hy⟩:=SL;rw [hy]at hs;haveI hsum:pev Γ (.bi .sum [(.slice (.var 0) (.var 1) .cN (.cI 5))]) [Fv (.list (xs.map .int)),Fv (.int p)]=Fv (.int ys.sum):=by show(dz Γ [_] _).bind (λvs=>pbi .sum vs)=_;rw [aa hs rfl];show(dP (ys.map .int)).map _=_;rw [fH];rfl
 refine⟨c+ys.sum, ?_⟩;haveI:ag Γ dv [Fv (.list (xs.map .int)),Fv (.int p)] []=Fv (.ret (.int (c+ys.sum))):=ao (aH (ae hc hsum rfl));show((ag Γ dv [Fv (.list (xs.map .int)),Fv (.int p)] []).bind _)=_;rw [this]
 rfl
end
noncomputable def hs (n:Nat):List Nat->Nat
 |[]=>0
 |d::r=>d+hs n r*2^n
theorem uC (n:Nat): ∀ds:List Nat,(∀d∈ds,d<2^n)->digs n ds.length (hs n ds)=ds.map λd:Nat=>(d:Int)
 |[],_=>rfl
 |d::r,h=>by
  have hd:=h d FT;haveI e1:(d+hs n r*2^n) % 2^n=d:=by rw [Nat.add_mul_mod_self_right,Nat.mod_eq_of_lt hd]
  haveI e2:(d+hs n r*2^n)/2^n=hs n r:=by rw [Nat.add_mul_div_right _ _ (GM n),Nat.div_eq_of_lt hd,HJ]
  show(((d+hs n r*2^n) % 2^n:Nat):Int)::digs n r.length ((d+hs n r*2^n)/2^n)=_;rw [e1,e2,uC n r λx hx=>h x (FU _ hx)]
  rfl
theorem AN (n:Nat): ∀ds:List Nat,(∀d∈ds,d<2^n)->hs n ds<2^(n*ds.length)
 |[],_=>by simp [hs]
 |d::r,h=>by
  haveI hd:=h d FT;haveI ih:=AN n r λx hx=>h x (FU _ hx);show d+hs n r*2^n<_;rw [FY,IP,J4]
  calc d+hs n r*2^n<2^n+hs n r*2^n:=by exact Lv hd _
   _=(hs n r+1)*2^n:=by rw [Jl,KD,GX]
   _<=2^(n*r.length)*2^n:=H2 _ ih
theorem wA (n:Nat): ∀ds:List Nat,(∀d∈ds,d<2^n)->hs n (ds++[1])=hs n ds+2^(n*ds.length)
 |[],_=>by simp [hs]
 |d::r,h=>by haveI ih:=wA n r λx hx=>h x (FU _ hx);show d+hs n (r++[1])*2^n=d+hs n r*2^n+_;rw [ih,FY,IP,J4,Jl,GN]
theorem zO (hn:0<n) (ds:List Nat) (h: ∀d∈ds,d<2^n):kOf (hs n (ds++[1])) n=ds.length+1:=by
 haveI h1:=AN n ds h;have h2:=wA n ds h;haveI hp:0<hs n (ds++[1]):=by have:=GM (n*ds.length);exact Fy (Lh _ this) (FI (Ha h2))
 haveI hb:FC (hs n (ds++[1]):Int)=n*ds.length+1:=by
  have a:=uF (a:=hs n (ds++[1])) (m:=n*ds.length) (by exact Fx (H5 _ _) (FI (Ha h2)))
  haveI b:=d9 (hs n (ds++[1])) (n*ds.length+1) (by rw [Kl];exact FF (FI h2) (Lv (Lh _ h1) _))
  exact Io b a
 unfold kOf;rw [hb,show n*ds.length+1+n-1=n*(ds.length+1)by rw [IP];exact Nat.sub_eq_of_eq_add (Gh _ _ _),Nat.mul_div_cancel_left _ hn]
theorem yo (hn:0<n) (ds:List Nat) (h: ∀d∈ds,d<2^n):digs n (kOf (hs n (ds++[1])) n) (hs n (ds++[1]))=(ds++[1]).map λd:Nat=>(d:Int):=by
 rw [zO hn ds h];have:=uC n (ds++[1]) (λd hd=>by
  rcases GY.mp hd with q|q
  ·exact h d q
  ·rw [G4.mp q];exact Nat.one_lt_two_pow (by lia))
 rw [FP]at this;exact this
variable {R P f e sd:Int}
theorem Aa {U L Q:Int} (hf:0<f) (he:0<=e) (Qo:e<f) (Q5:sd=1∨sd= -1) (h:U*P=Q*L+R) (h0:0<=R) (h1:R<L):(sd*(U*P*f+e)).fdiv (sd*L*f)=Q:=by
 haveI hL:0<L:=by exact Ib h0 h1
 haveI hLf:0<L*f:=Int.mul_pos hL hf;haveI hr:R*f+e<L*f:=by
  haveI:(R+1)*f<=L*f:=Int.mul_le_mul_of_nonneg_right (by exact h1) (by exact I3 hf)
  rw [Mq,Jm]at this;exact Fo Qo this
 haveI hr0:0<=R*f+e:=by have:=Int.mul_nonneg h0 (I3 hf);exact MW this he
 have key:(U*P*f+e).fdiv (L*f)=Q:=by
  haveI e1:U*P*f+e=(R*f+e)+Q*(L*f):=by rw [h,Mq,Na];lia
  rw [e1,Hi _ (by exact I3 hLf),NB _ _ (by lia),NA hr0 hr,Ny]
 rcases Q5 with rfl|rfl
 ·rw [Jm,Jm];exact key
 ·rw [KG,Jm,KG,Jm,KG,Int.neg_fdiv_neg]
  exact key
theorem uq {V:Int} (hV:V≠0):(-(V*P)).fdiv V= -P/\(-(V*P)).fmod V=0:=by
 haveI e: -(V*P)= -P*V:=by rw [KG,Nz P V]
 rw [e];exact⟨Int.mul_fdiv_cancel _ hV,Int.mul_fmod_left _ _⟩
variable {OA w:Nat} {up lo:List Int} {ds:List Nat} {p9:Option PV}
section
theorem pH {b:Int} (ha:FC a<=m) (hb:FC b<=n) (h:m+n<=134217728):dN .Mult (.int a) (.int b)=Fv (.int (a*b)):=if_pos (O1 ha hb h)
theorem w3 (ha:FC a<=m) (h:m+n<=134217728):dN .LShift (.int a) (.int (n:Nat))=Fv (.int (a*2^n)):=by show(if 0<=(n:Int)/\(FC a:Int)+(n:Int)<=2^27 then Fv (PV.int (a*2^(n:Int).toNat))else Fw)=_;rw [if_pos ⟨by exact Gd _,by lia⟩,GC]
theorem qa (a:Int):gk .NotEq (.int a) (.int a)=Fv Fz:=by show Fv (!(a==a))=_;simp
theorem vg (a b:Int):gk .NotEq (.tuple [.int a,.int b]) (.tuple [.int a,.int b])=Fv Fz:=by show Fv (!((a==a)&&((b==b)&&FE)))=_;simp
theorem uh {e:PE} (h:pev Γ e ρ=Fv (.int i)):pev Γ (.neg e) ρ=Fv (.int (-i)):=by show(pev Γ e ρ).bind _=_;rw [h];rfl
noncomputable def cR (b OA w:Nat) (f e sd:Int) (up lo:List Int) (p9 p10 OP OO Ox:Option PV):Ρ:=
 [Fv (.int b),Fv (.int OA),Fv (.int w),Fv (.tuple [.int f,.int e,.int sd]),Fv (.int f),Fv (.int e),Fv (.int sd),Fv (.list (up.map .int)),Fv (.list (lo.map .int)),p9,p10,OP,OO,Ox,Fw,Fw,Fw]
theorem r7 (h5: ∀args r,F5 args=Fv r->Γ.fn 5 args=Fv r) (h6: ∀args r,F6 args=Fv r->Γ.fn 6 args=Fv r) (h8: ∀args r,F8 args=Fv r->Γ.fn 8 args=Fv r)
  (Qb:16<=w) (PR:w<=1415) (hm:OA<=4) (PL:1<=f) (QC:f<=2^90) (he:0<=e) (Qo:e<f) (Q5:sd=1∨sd= -1)
  (hul:up.length=5) (hub: ∀d∈up.reverse,FC d<=8) (hll:lo.length=5) (hlb: ∀d∈lo.reverse,FC d<=8) (Wc: ∀d∈ds,d<2^w)
  (TT:hsum w up.reverse*2^(OA*w)=(hs w (ds++[1]):Int)*hsum w lo.reverse+R) (h0:0<=R) (h1:R<hsum w lo.reverse)
  (VX:aR (.list (up.map .int)) .none .none (.int (-1))=Fv (.list (up.reverse.map .int))) (RV:aR (.list (lo.map .int)) .none .none (.int (-1))=Fv (.list (lo.reverse.map .int)))
  {out:List PV} (Rl:aR (.list (((ds++[1]).map λd:Nat=>(d:Int)).map .int)) .none .none (.int (-1))=Fv (.list out)):
  ag Γ (aA.drop 4) (cR b OA w f e sd up lo p9 Fw Fw Fw Fw) []=Fv (.ret (.list out)):=by
 have Vk:OA*w<=5660:=Fx (GZ hm PR) (by decide)
 have bU:=h_ w 8 up.reverse hub;have bL:=h_ w 8 lo.reverse hlb;rw [Hr,hul]at bU;rw [Hr,hll]at bL;have bU:FC (hsum w up.reverse)<=7093:=by exact Fx (Fx bU (FM (FH _) (GZ (FM PR (FH _)) (FH _)))) (by decide)
 have bL:FC (hsum w lo.reverse)<=7093:=by exact Fx (Fx bL (FM (FH _) (GZ (FM PR (FH _)) (FH _)))) (by decide)
 have a6: ∀xs:List Int,xs.length=5->(∀d∈xs.reverse,FC d<=8)->Γ.fn 6 [.list (xs.reverse.map .int),.int w]=Fv (.int (hsum w xs.reverse)):=λxs hl hb=>
  h6 _ _ (B1 (λd hd=>Fx (hb d hd) (by decide)) (by exact Fx PR (by decide)) (by rw [Hr];exact Fx (FI hl) (by decide)) (by rw [Hr,hl];exact Fx (GZ PR (FH _)) (by decide)))
 haveI aU:=a6 up hul hub;haveI aL:=a6 lo hll hlb;generalize hU:hsum w up.reverse=U at*
 generalize hL:hsum w lo.reverse=L at*
 generalize hk:OA*w=k at*
 have bp:FC ((2:Int)^k)<=5661:=Fx (qE k) (by exact Gw Vk)
 have bf:FC f<=91:=HD.mpr (by lia)
 haveI be:FC e<=91:=HD.mpr (by lia)
 have bs:FC sd<=1:=by rcases Q5 with rfl|rfl<;>decide
 have b1:FC (U*2^k)<=12754:=Ic bU bp;haveI b2:FC (U*2^k*f)<=12845:=Ic b1 bf;have b3:FC (U*2^k*f+e)<=12846:=Nr b2 be;have b4:FC (sd*(U*2^k*f+e))<=12847:=Fx (Ic bs b3) (by decide)
 have b5:FC (sd*L)<=7094:=Fx (Ic bs bL) (by decide)
 have b6:FC (sd*L*f)<=7185:=Ic b5 bf;have hq:=Aa (sd:=sd) (show(0:Int)<f by exact PL) he Qo Q5 TT h0 h1
 haveI hLp:0<L:=by exact Ib h0 h1
 have hV:sd*L*f≠0:=by
  haveI:0<L*f:=Int.mul_pos hLp (by exact PL)
  rcases Q5 with rfl|rfl
  ·rw [Jm];lia
  ·rw [KG,Jm,KG];lia
 have pk:dN .Mult (.int OA) (.int w)=Fv (.int (k:Nat)):=by rw [<-hk];exact AF (m:=3) (n:=11) (by exact FF hm (by decide)) (by exact FF PR (by decide)) (by decide)
 generalize hD:sd*(U*2^k*f+e)=D at*
 generalize hVV:sd*L*f=V at*
 --the dividend
 haveI s1:ak Γ (.set 10 0 (.bin .Mult (.var 6) (.bin .Add (.bin .Mult (.bin .LShift (.call 6 [(.slice (.var 7) .cN .cN (.neg (.cI 1))),(.var 2)]) (.bin .Mult (.var 1) (.var 2))) (.var 4)) (.var 5)))) (cR b OA w f e sd up lo p9 Fw Fw Fw Fw) []=Fv (.next (cR b OA w f e sd up lo p9 (Fv (.int D)) Fw Fw Fw) []):=by
  refine aj ?_;rw [<-hD];refine ae (a:= .int sd) rfl (ae (a:= .int (U*2^k*f)) (b:= .int e) (ae (a:= .int (U*2^k)) (b:= .int f) (ae (a:= .int U) (b:= .int (k:Nat)) (aw (aa (v:= .list (up.reverse.map .int)) VX (aa (v:= .int w) rfl rfl)) aU) (ae rfl rfl pk) ?_) rfl ?_) rfl rfl) ?_
  ·exact w3 bU (by exact Fx (FM (FH _) Vk) (by decide))
  ·exact pH b1 bf (by decide)
  ·exact pH bs b3 (by decide)
 haveI s2:ak Γ (.set 11 0 (.bin .Mult (.bin .Mult (.var 6) (.call 6 [(.slice (.var 8) .cN .cN (.neg (.cI 1))),(.var 2)])) (.var 4))) (cR b OA w f e sd up lo p9 (Fv (.int D)) Fw Fw Fw) []=Fv (.next (cR b OA w f e sd up lo p9 (Fv (.int D)) (Fv (.int V)) Fw Fw) []):=by
  refine aj ?_;rw [<-hVV];refine ae (a:= .int (sd*L)) (b:= .int f) (ae (a:= .int sd) (b:= .int L) rfl (aw (aa (v:= .list (lo.reverse.map .int)) RV (aa (v:= .int w) rfl rfl)) aL) ?_) rfl ?_
  ·exact pH bs bL (by decide)
  ·exact pH b5 bf (by decide)
 have a8: ∀x:Int,FC x<=500000->Γ.fn 8 [.int x,.int V]=Fv (.tuple [.int (x.fdiv V),.int (x.fmod V)]):=λx hx=>h8 _ _ (if_pos ⟨hV,hx,by exact Fx b6 (by decide)⟩)
 haveI s3:ak Γ (.setT [12,13] 0 (.call 8 [(.var 10),(.var 11)])) (cR b OA w f e sd up lo p9 (Fv (.int D)) (Fv (.int V)) Fw Fw) []=Fv (.next (cR b OA w f e sd up lo p9 (Fv (.int D)) (Fv (.int V)) (Fv (.int (D.fdiv V))) (Fv (.int (D.fmod V)))) []):=
  e7 (aw (vs:=[.int D,.int V]) (aa rfl (aa rfl rfl)) (a8 D (by exact Fx b4 (by decide)))) rfl
 haveI s4:ak Γ (.ite (.cmp .NotEq (.bin .Add (.bin .Mult (.var 12) (.var 11)) (.var 13)) (.var 10)) [.ret (.list [])] []) (cR b OA w f e sd up lo p9 (Fv (.int D)) (Fv (.int V)) (Fv (.int (D.fdiv V))) (Fv (.int (D.fmod V)))) []=Fv (.next (cR b OA w f e sd up lo p9 (Fv (.int D)) (Fv (.int V)) (Fv (.int (D.fdiv V))) (Fv (.int (D.fmod V)))) []):=by
  haveI:D.fdiv V*V+D.fmod V=D:=by rw [Nz];exact Int.mul_fdiv_add_fmod D V
  refine am (t:=Fz) (c8 (a:= .int (D.fdiv V*V+D.fmod V)) (b:= .int D) (ae (a:= .int (D.fdiv V*V)) (b:= .int (D.fmod V)) (ae (a:= .int (D.fdiv V)) (b:= .int V) rfl rfl (pH (Nc b4) b6 (by decide))) rfl rfl) rfl ?_) rfl
  rw [this];exact qa D
 haveI s5:ak Γ (.ite (.cmp .NotEq (.call 8 [(.neg (.bin .LShift (.var 11) (.bin .Mult (.var 1) (.var 2)))),(.var 11)]) (.tup [(.neg (.bin .LShift (.cI 1) (.bin .Mult (.var 1) (.var 2)))),(.cI 0)])) [.ret (.list [])] []) (cR b OA w f e sd up lo p9 (Fv (.int D)) (Fv (.int V)) (Fv (.int (D.fdiv V))) (Fv (.int (D.fmod V)))) []=Fv (.next (cR b OA w f e sd up lo p9 (Fv (.int D)) (Fv (.int V)) (Fv (.int (D.fdiv V))) (Fv (.int (D.fmod V)))) []):=by
  refine am (t:=Fz) (c8 (a:= .tuple [.int (-(2^k)),.int 0]) (b:= .tuple [.int (-(2^k)),.int 0]) ?_ ?_ (vg _ _)) rfl
  ·refine aw (vs:=[.int (-(V*2^k)),.int V]) (aa (uh (ae (a:= .int V) (b:= .int (k:Nat)) rfl (ae rfl rfl pk) (w3 b6 (by exact Fx (FM (FH _) Vk) (by decide))))) (aa rfl rfl)) ?_
   rw [a8 _ (Lm (Fx (Ic b6 bp) (by decide))),(uq hV).1,(uq hV).2]
  ·show(dz Γ _ _).bind oa=_
   rw [aa (uh (ae (a:= .int 1) (b:= .int (k:Nat)) rfl (ae rfl rfl pk) (w3 (m:=1) (by decide) (by exact Fx (FM (FH _) Vk) (by decide))))) (aa rfl rfl),Jm]
   rfl
 rw [show aA.drop 4=[.set 10 0 (.bin .Mult (.var 6) (.bin .Add (.bin .Mult (.bin .LShift (.call 6 [(.slice (.var 7) .cN .cN (.neg (.cI 1))),(.var 2)]) (.bin .Mult (.var 1) (.var 2))) (.var 4)) (.var 5))),.set 11 0 (.bin .Mult (.bin .Mult (.var 6) (.call 6 [(.slice (.var 8) .cN .cN (.neg (.cI 1))),(.var 2)])) (.var 4)),.setT [12,13] 0 (.call 8 [(.var 10),(.var 11)]),.ite (.cmp .NotEq (.bin .Add (.bin .Mult (.var 12) (.var 11)) (.var 13)) (.var 10)) [.ret (.list [])] [],.ite (.cmp .NotEq (.call 8 [(.neg (.bin .LShift (.var 11) (.bin .Mult (.var 1) (.var 2)))),(.var 11)]) (.tup [(.neg (.bin .LShift (.cI 1) (.bin .Mult (.var 1) (.var 2)))),(.cI 0)])) [.ret (.list [])] [],.ret (.slice (.call 5 [(.var 12),(.var 2)]) .cN .cN (.neg (.cI 1)))]from rfl];rw [a7 s1,a7 s2,a7 s3,a7 s4,a7 s5];refine ao (aH ?_);haveI a5:pev Γ (.call 5 [(.var 12),(.var 2)]) (cR b OA w f e sd up lo p9 (Fv (.int D)) (Fv (.int V)) (Fv (.int (D.fdiv V))) (Fv (.int (D.fmod V))))=Fv (.list (((ds++[1]).map λd:Nat=>(d:Int)).map .int)):=by rw [hq];refine aw (vs:=[.int (hs w (ds++[1]):Nat),.int w]) (aa rfl (aa rfl rfl)) ?_;refine h5 _ _ ?_;rw [tW (by exact Fy (by decide) Qb) (by exact Fx PR (by decide)) (by rw [<-hq];exact Nc (Fx b4 (by decide))),yo (by exact Fy (by decide) Qb) ds Wc]
 show(pev Γ (.call 5 [(.var 12),(.var 2)]) _).bind (λa=>aR a .none .none (.int (-1)))=_;rw [a5];exact Rl
end
section
theorem Ez (hw:16<=w):(65536:Int)<=2^w:=by
 haveI:(2:Nat)^16<=2^w:=HH (by decide) hw
 haveI:(65536:Nat)<=2^w:=this;have:((65536:Nat):Int)<=((2^w:Nat):Int):=JW.mpr this;rw [JI]at this;exact this
theorem mono {X:Int} (h:65536<=X):0<X^1/\65536*X^1<=X^2/\65536*X^2<=X^3/\65536*X^3<=X^4:=by
 haveI p: ∀n,0<=X^n:=λn=>Int.pow_nonneg (by exact IR (by decide) h)
 have s: ∀n,65536*X^n<=X^(n+1):=λn=>by rw [Int.pow_succ,Nz];exact Int.mul_le_mul_of_nonneg_left h (p n)
 exact⟨by rw [Int.pow_succ,Int.pow_zero];lia,s 1,s 2,s 3⟩
theorem r8 {r:PV} (h:ag Γ aA [Fv (.int b),Fv (.int OA),Fv (.int w),Fv (.tuple [.int f,.int e,.int sd]),Fw,Fw,Fw,Fw,Fw,Fw,Fw,Fw,Fw,Fw,Fw,Fw,Fw] []=Fv (.ret r)):
  aG Γ 17 [0,1,2,3] aA [.int b,.int OA,.int w,.tuple [.int f,.int e,.int sd]]=Fv r:=by
 show((ag Γ aA [Fv (.int b),Fv (.int OA),Fv (.int w),Fv (.tuple [.int f,.int e,.int sd]),Fw,Fw,Fw,Fw,Fw,Fw,Fw,Fw,Fw,Fw,Fw,Fw,Fw] []).bind _)=_;rw [h];rfl
noncomputable def hp (X:Int):List Int->Int
 |[]=>0
 |d::r=>d+hp X r*X
theorem kD (w:Nat): ∀l,hsum w l=hp (2^w) l
 |[]=>rfl
 |d::r=>by rw [hsum,hp,kD w r]
theorem AO (w:Nat): ∀l:List Nat,((hs w l:Nat):Int)=hp (2^w) (l.map λd:Nat=>(d:Int))
 |[]=>rfl
 |d::r=>by
  rw [hs,Gf,hp,<-AO w r,Hd,JJ,JI]
  rfl
theorem eQ {Sk S6 Ss:List Int} {R:Int->Int} {out:List PV} (h5: ∀args r,F5 args=Fv r->Γ.fn 5 args=Fv r) (h6: ∀args r,F6 args=Fv r->Γ.fn 6 args=Fv r) (h8: ∀args r,F8 args=Fv r->Γ.fn 8 args=Fv r)
  (Qb:16<=w) (PR:w<=1415) (PL:1<=f) (QC:f<=2^90) (he:0<=e) (Qo:e<f) (Q5:sd=1∨sd= -1)
  (a:ag Γ aA [Fv (.int b),Fv (.int OA),Fv (.int w),Fv (.tuple [.int f,.int e,.int sd]),Fw,Fw,Fw,Fw,Fw,Fw,Fw,Fw,Fw,Fw,Fw,Fw,Fw] []=ag Γ (aA.drop 4) (cR b OA w f e sd up lo p9 Fw Fw Fw Fw) [])
  (hc:(OA<=4/\up.length=5/\lo.length=5)/\(∀d∈up.reverse,FC d<=8)/\(∀d∈lo.reverse,FC d<=8)/\ ∀d∈ds,d<=14) (hu:up.reverse=Sk) (hl:lo.reverse=S6) (hd:(ds++[1]).map (λd:Nat=>(d:Int))=Ss)
  (TT: ∀X:Int,hp X Sk*X^OA=hp X Ss*hp X S6+R X) (hR: ∀X:Int,65536<=X->0<=R X/\R X<hp X S6)
  (VX:aR (.list (up.map .int)) .none .none (.int (-1))=Fv (.list (up.reverse.map .int))) (RV:aR (.list (lo.map .int)) .none .none (.int (-1))=Fv (.list (lo.reverse.map .int)))
  (Rl:aR (.list (((ds++[1]).map λd:Nat=>(d:Int)).map .int)) .none .none (.int (-1))=Fv (.list out)):
  aG Γ 17 [0,1,2,3] aA [.int b,.int OA,.int w,.tuple [.int f,.int e,.int sd]]=Fv (.list out):=by
 refine r8 (b:=b) (OA:=OA) (a.trans ?_);haveI hX:=Ez Qb;obtain⟨⟨c1,c2,c3⟩,c4,c5,c6⟩:=hc;obtain⟨r0,r1⟩:=hR _ hX;haveI h14:14<2^w:=Fy (by decide) (HH (by decide) Qb:2^16<=2^w)
 refine r7 (R:=R (2^w)) h5 h6 h8 Qb PR c1 PL QC he Qo Q5 c2 c4 c3 c5 (λd hd=>FF (c6 d hd) h14) ?_ r0 (by rw [kD,hl];exact r1) VX RV Rl
 rw [kD,kD,AO,hu,hl,hd,H9,Int.pow_mul];exact TT _
theorem tB (h5: ∀args r,F5 args=Fv r->Γ.fn 5 args=Fv r) (h6: ∀args r,F6 args=Fv r->Γ.fn 6 args=Fv r) (h8: ∀args r,F8 args=Fv r->Γ.fn 8 args=Fv r)
  (Qb:16<=w) (PR:w<=1415) (PL:1<=f) (QC:f<=2^90) (he:0<=e) (Qo:e<f) (Q5:sd=1∨sd= -1):
  aG Γ 17 [0,1,2,3] aA [.int 0,.int 3,.int w,.tuple [.int f,.int e,.int sd]]=Fv (.list [.int 1,.int 0,.int 0,.int 0]):=
 eQ (b:=0) (OA:=3) (up:=[1,0,0,0,0]) (lo:=[1,0,0,0,0]) (ds:=[0,0,0]) (p9:=Fw) (R:=λX=>0) (Sk:=[0,0,0,0,1]) (S6:=[0,0,0,0,1]) (Ss:=[0,0,0,1]) h5 h6 h8 Qb PR PL QC he Qo Q5 (by kernel_rfl) (by decide) rfl rfl rfl (λX=>by simp only [hp];grind)
  (λX h=>by
   obtain⟨m1,m2,m3,m4⟩:=mono h;rw [show hp X [0,0,0,0,1]=1*X^4 by simp only [hp];grind]
   lia) (by kernel_rfl) (by kernel_rfl) (by kernel_rfl)
theorem tA (h5: ∀args r,F5 args=Fv r->Γ.fn 5 args=Fv r) (h6: ∀args r,F6 args=Fv r->Γ.fn 6 args=Fv r) (h8: ∀args r,F8 args=Fv r->Γ.fn 8 args=Fv r)
  (Qb:16<=w) (PR:w<=1415) (PL:1<=f) (QC:f<=2^90) (he:0<=e) (Qo:e<f) (Q5:sd=1∨sd= -1):
  aG Γ 17 [0,1,2,3] aA [.int 0,.int 4,.int w,.tuple [.int f,.int e,.int sd]]=Fv (.list [.int 1,.int 0,.int 0,.int 0,.int 0]):=
 eQ (b:=0) (OA:=4) (up:=[1,0,0,0,0]) (lo:=[1,0,0,0,0]) (ds:=[0,0,0,0]) (p9:=Fw) (R:=λX=>0) (Sk:=[0,0,0,0,1]) (S6:=[0,0,0,0,1]) (Ss:=[0,0,0,0,1]) h5 h6 h8 Qb PR PL QC he Qo Q5 (by kernel_rfl) (by decide) rfl rfl rfl (λX=>by simp only [hp];grind)
  (λX h=>by
   obtain⟨m1,m2,m3,m4⟩:=mono h;rw [show hp X [0,0,0,0,1]=1*X^4 by simp only [hp];grind]
   lia) (by kernel_rfl) (by kernel_rfl) (by kernel_rfl)
theorem tz (h5: ∀args r,F5 args=Fv r->Γ.fn 5 args=Fv r) (h6: ∀args r,F6 args=Fv r->Γ.fn 6 args=Fv r) (h8: ∀args r,F8 args=Fv r->Γ.fn 8 args=Fv r)
  (Qb:16<=w) (PR:w<=1415) (PL:1<=f) (QC:f<=2^90) (he:0<=e) (Qo:e<f) (Q5:sd=1∨sd= -1):
  aG Γ 17 [0,1,2,3] aA [.int 2,.int 3,.int w,.tuple [.int f,.int e,.int sd]]=Fv (.list [.int 1,.int 1,.int 2,.int 4]):=
 eQ (b:=2) (OA:=3) (up:=[1,-1,0,0,0]) (lo:=[1,-2,0,0,0]) (ds:=[4,2,1]) (p9:=(Fv (.int 1))) (R:=λX=>8*X^3) (Sk:=[0,0,0,-1,1]) (S6:=[0,0,0,-2,1]) (Ss:=[4,2,1,1]) h5 h6 h8 Qb PR PL QC he Qo Q5 (by kernel_rfl) (by decide) rfl rfl rfl (λX=>by simp only [hp];grind)
  (λX h=>by
   obtain⟨m1,m2,m3,m4⟩:=mono h;rw [show hp X [0,0,0,-2,1]= -2*X^3+1*X^4 by simp only [hp];grind]
   lia) (by kernel_rfl) (by kernel_rfl) (by kernel_rfl)
theorem tw (h5: ∀args r,F5 args=Fv r->Γ.fn 5 args=Fv r) (h6: ∀args r,F6 args=Fv r->Γ.fn 6 args=Fv r) (h8: ∀args r,F8 args=Fv r->Γ.fn 8 args=Fv r)
  (Qb:16<=w) (PR:w<=1415) (PL:1<=f) (QC:f<=2^90) (he:0<=e) (Qo:e<f) (Q5:sd=1∨sd= -1):
  aG Γ 17 [0,1,2,3] aA [.int 2,.int 4,.int w,.tuple [.int f,.int e,.int sd]]=Fv (.list [.int 1,.int 1,.int 2,.int 4,.int 8]):=
 eQ (b:=2) (OA:=4) (up:=[1,-1,0,0,0]) (lo:=[1,-2,0,0,0]) (ds:=[8,4,2,1]) (p9:=(Fv (.int 1))) (R:=λX=>16*X^3) (Sk:=[0,0,0,-1,1]) (S6:=[0,0,0,-2,1]) (Ss:=[8,4,2,1,1]) h5 h6 h8 Qb PR PL QC he Qo Q5 (by kernel_rfl) (by decide) rfl rfl rfl (λX=>by simp only [hp];grind)
  (λX h=>by
   obtain⟨m1,m2,m3,m4⟩:=mono h;rw [show hp X [0,0,0,-2,1]= -2*X^3+1*X^4 by simp only [hp];grind]
   lia) (by kernel_rfl) (by kernel_rfl) (by kernel_rfl)
theorem tv (h5: ∀args r,F5 args=Fv r->Γ.fn 5 args=Fv r) (h6: ∀args r,F6 args=Fv r->Γ.fn 6 args=Fv r) (h8: ∀args r,F8 args=Fv r->Γ.fn 8 args=Fv r)
  (Qb:16<=w) (PR:w<=1415) (PL:1<=f) (QC:f<=2^90) (he:0<=e) (Qo:e<f) (Q5:sd=1∨sd= -1):
  aG Γ 17 [0,1,2,3] aA [.int 6,.int 3,.int w,.tuple [.int f,.int e,.int sd]]=Fv (.list [.int 1,.int 1,.int 2,.int 5]):=
 eQ (b:=6) (OA:=3) (up:=[1,-5,6,-1,0]) (lo:=[1,-6,10,-4,0]) (ds:=[5,2,1]) (p9:=(Fv (.int 5))) (R:=λX=>20*X^1+ -42*X^2+14*X^3) (Sk:=[0,-1,6,-5,1]) (S6:=[0,-4,10,-6,1]) (Ss:=[5,2,1,1]) h5 h6 h8 Qb PR PL QC he Qo Q5 (by kernel_rfl) (by decide) rfl rfl rfl (λX=>by simp only [hp];grind)
  (λX h=>by
   obtain⟨m1,m2,m3,m4⟩:=mono h;rw [show hp X [0,-4,10,-6,1]= -4*X^1+10*X^2+ -6*X^3+1*X^4 by simp only [hp];grind]
   lia) (by kernel_rfl) (by kernel_rfl) (by kernel_rfl)
theorem tu (h5: ∀args r,F5 args=Fv r->Γ.fn 5 args=Fv r) (h6: ∀args r,F6 args=Fv r->Γ.fn 6 args=Fv r) (h8: ∀args r,F8 args=Fv r->Γ.fn 8 args=Fv r)
  (Qb:16<=w) (PR:w<=1415) (PL:1<=f) (QC:f<=2^90) (he:0<=e) (Qo:e<f) (Q5:sd=1∨sd= -1):
  aG Γ 17 [0,1,2,3] aA [.int 6,.int 4,.int w,.tuple [.int f,.int e,.int sd]]=Fv (.list [.int 1,.int 1,.int 2,.int 5,.int 14]):=
 eQ (b:=6) (OA:=4) (up:=[1,-5,6,-1,0]) (lo:=[1,-6,10,-4,0]) (ds:=[14,5,2,1]) (p9:=(Fv (.int 5))) (R:=λX=>56*X^1+ -120*X^2+42*X^3) (Sk:=[0,-1,6,-5,1]) (S6:=[0,-4,10,-6,1]) (Ss:=[14,5,2,1,1]) h5 h6 h8 Qb PR PL QC he Qo Q5 (by kernel_rfl) (by decide) rfl rfl rfl (λX=>by simp only [hp];grind)
  (λX h=>by
   obtain⟨m1,m2,m3,m4⟩:=mono h;rw [show hp X [0,-4,10,-6,1]= -4*X^1+10*X^2+ -6*X^3+1*X^4 by simp only [hp];grind]
   lia) (by kernel_rfl) (by kernel_rfl) (by kernel_rfl)
end
end UK
namespace UK
open PySem PySem.W PySem.Calls PyProof.Rows
open PySem.StrLaws Builtin.Str
noncomputable def bK (ls:List (List Nat)):List Nat:=(ls.map (· ++[13,10])).flatten
theorem rY (x:Gj) (i:Nat):At x ⟨#[13,10]⟩ x.length i↔i+2<=x.length/\(x.cps.toList.drop i).take 2=[13,10]:=by unfold At;rw [subAt_eq];show(i+2<=x.length/\((x.cps.toList.drop i).take 2==[13,10])=FE)↔_;rw [beq_iff_eq]
variable {x:Gj}
theorem rC {a b:Nat} {l:List Nat} (h:(x.cps.toList.drop a).take (b-a)=l):strSub x a b=tx l:=by
 apply Str.ext';apply Of.mp;rw [strSub_toList,h]
 rfl
variable {last:List Nat}
theorem sU (h13:13∉last): ∀(ls:List (List Nat)) (a f:Nat) (Rd:List Nat),a<=x.length->x.cps.toList.drop a=bK ls++last->(∀l∈ls,13∉l)->ChainG x ⟨#[13,10]⟩ x.length a Rd f->(∀k,f<=k-> ¬At x ⟨#[13,10]⟩ x.length k)->
  partsFrom x 2 a Rd=(ls++[last]).map tx:=by
 haveI hn:x.cps.toList.length=x.length:=by simp [IB]
 intro ls;induction ls with
 |nil=>
  intro a f Rd ha hd _ hc hf;have hd:x.cps.toList.drop a=last:=hd;cases Rd with
  |nil=>
   show [strSub x a x.length]=[tx last];rw [rC (l:=last)];rw [hd];refine H1 ?_;rw [<-hd,Iu];exact FH _
  |cons c r=>
   exfalso;obtain⟨h1,h2,_⟩:=hc;have h2:=(rY x c).mp h2;haveI:x.cps.toList.drop c=last.drop (c-a):=by rw [<-hd,Iy];congr 1;exact Ha (Gz h1)
   rw [this]at h2;refine h13 ?_;haveI:13∈(last.drop (c-a)).take 2:=by rw [h2.2];exact FT
   exact K7 (Lp this)
 |cons l ls ih=>
  intro a f Rd ha hd hl hc hf;have hd:x.cps.toList.drop a=l++(13::10::(bK ls++last)):=by rw [hd];show(l++[13,10]++bK ls)++last=_;simp
  have Oj:a+l.length+2<=x.length:=by have:=congrArg J2 hd;rw [Iu,FP,FY,FY]at this;exact aPl this
  have hA:At x ⟨#[13,10]⟩ x.length (a+l.length):=by
   refine(rY x _).mpr ⟨Oj, ?_⟩;rw [<-Iy,hd,List.drop_left]
   rfl
  haveI WM:13∉l:=hl l FT;cases Rd with
  |nil=>
   exfalso;have e:f=a:=hc;exact hf _ (by exact Gi (FI e)) hA
  |cons c r=>
   obtain⟨h1,h2,h3,h4⟩:=hc;haveI Tv:c<=a+l.length:=by
    rcases J7 (a+l.length) c with q|q
    ·exact absurd hA (h3 _ (by exact FZ _ _) q)
    ·exact q
   haveI QR:c=a+l.length:=by
    rcases J7 c (a+l.length)with q|q
    ·exfalso
     have h2:=(rY x c).mp h2;haveI e:x.cps.toList.drop c=l.drop (c-a)++(13::10::(bK ls++last)):=by rw [show c=a+(c-a)by exact Ha (Gz h1),<-Iy,hd,Me (by exact Gm (IL h1 q)),show a+(c-a)-a=c-a by exact I' _ _]
     rw [e]at h2;haveI e2:l.drop (c-a)≠[]:=by intro q2;have:=congrArg J2 q2;rw [Iu,GJ]at this;lia
     obtain⟨y,ys,e3⟩:=List.exists_cons_of_ne_nil e2;rw [e3]at h2;haveI:y=13:=(Lj h2.2).1;exact WM (K7 (i:=c-a) (by rw [e3,this];exact FT))
    ·exact Io Tv q
   subst QR;haveI hp:strSub x a (a+l.length)=tx l:=rC (by rw [hd,show a+l.length-a=l.length by exact I' _ _,List.take_left])
   show strSub x a (a+l.length)::partsFrom x 2 (a+l.length+2) r=_;rw [hp,ih (a+l.length+2) f r Oj (by
    rw [show a+l.length+2=a+(l.length+2)by exact GN _ _ _,<-Iy,hd,M5,show l.length+2-l.length=2 by exact I' _ _,Hl (by exact FZ _ _)]
    rfl) (λl' h'=>hl l' (FU _ h')) h4 hf]
   rfl
set_option tactic.hygienic true in
theorem sx {ls:List (List Nat)} (hl: ∀l∈ls,13∉l) (h13:13∉last):Txt.split (tx (bK ls++last)) ⟨#[13,10]⟩=(ls++[last]).map tx/\
  partsBetween (tx (bK ls++last)) (occurrences (tx (bK ls++last)) ⟨#[13,10]⟩ 0 (tx (bK ls++last)).length ((tx (bK ls++last)).length+1)) 2=(ls++[last]).map tx:=by
 generalize hx:tx (bK ls++last)=x;haveI Sl:x.cps.toList=bK ls++last:=by rw [<-hx];simp [tx]
 obtain⟨f,hG,hn⟩:=occ_tight x ⟨#[13,10]⟩ (by decide)
 have key:=sU h13 ls 0 f _ (Hk _) (by rw [Ji,Sl]) hl hG hn
 have k2:partsBetween x (occurrences x ⟨#[13,10]⟩ 0 x.length (x.length+1)) 2=(ls++[last]).map tx:=by rw [partsBetween_eq];exact key
 refine⟨?_,k2⟩;have whole:(occurrences x ⟨#[13,10]⟩ 0 x.length (x.length+1))=[]->[x]=(ls++[last]).map tx:=λh=>by rw [<-key,h];show [x]=[strSub x 0 x.length];rw [sub_whole]
 unfold Txt.split;split
 ·rename_i hc
  refine whole ?_;rw [JD,decide_eq_true_eq,decide_eq_true_eq]at hc;haveI k1:1<=J' x:=by unfold J';split<;>(try split)<;>decide
  haveI k2:J' ⟨#[13,10]⟩=1:=by simp [J']
  haveI hc:x.length<2:=by
   rcases hc with h|h
   ·exact h
   ·lia
  cases e:occurrences x ⟨#[13,10]⟩ 0 x.length (x.length+1)with
  |nil=>rfl
  |cons c r=>
   rw [e]at hG;have:=hG.2.1.1;haveI:c+2<=x.length:=this;lia
 ·split
  ·rename_i he
   exact whole (by simpa using he)
  ·exact k2
theorem qX (k:Nat) {m:List Nat} (hm: ∀c∈m.head?,c≠46):IM (tx (Gc k 46++m)) ⟨#[46]⟩=tx m:=by
 haveI SO:stripLo (⟨#[46]⟩:Gj).cps.contains FE (tx (Gc k 46++m))=k:=by
  show((Gc k 46++m).takeWhile (#[46]:Array Nat).contains).length=k;haveI QT:(#[46]:Array Nat).contains 46=FE:=by simp
  haveI Vi:m.takeWhile (#[46]:Array Nat).contains=[]:=by
   cases m with
   |nil=>rfl
   |cons c m=>
    haveI:c≠46:=hm c rfl;haveI hc:(#[46]:Array Nat).contains c=Fz:=by simpa using this
    rw [List.takeWhile_cons_of_neg (by rw [hc];decide)]
  induction k with
  |zero=>rw [List.replicate_zero,Hb,Vi];rfl
  |succ k ih=>rw [Ke,GV,List.takeWhile_cons_of_pos QT,FY,ih]
 unfold IM;rw [PyProof.Rows.stripBy_eq,SO];refine rC ?_;show((Gc k 46++m).drop k).take ((tx (Gc k 46++m)).length-k)=m;haveI:(tx (Gc k 46++m)).length=k+m.length:=by simp [tx,IB]
 rw [this,M5,Jc,La,Hl (by simp),Hb,Ji]
 exact H1 (by exact FI (Nat.eq_sub_of_add_eq (GX _ _)))
end UK
namespace UK
open PySem PySem.W PySem.Calls PyProof.Rows
theorem qj: ∀(l r:List Nat),(∀c∈l,c≠10/\c≠13)->nl Fz (l++r)=l++nl Fz r
 |[],r,_=>rfl
 |c::l,r,h=>by
  have hc:=h c FT;rw [GV,nl,if_neg hc.1,if_neg (by decide),if_neg hc.2,qj l r λx hx=>h x (FU _ hx)]
  rfl
theorem zJ (r:List Nat) (h:r.head? ≠Fv 10):nl FE r=10::nl Fz r:=by
 cases r with
 |nil=>rfl
 |cons c r=>
  have hc:c≠10:=λq=>h (by rw [q];rfl)
  rw [nl,nl,if_neg hc,if_neg hc]
  rfl
noncomputable def em (ps:List (List Nat×List Nat)):List Nat:=ps.flatMap λp=>p.1++p.2
theorem oC {tail:List Nat} (ht:tail.head? ≠Fv 10): ∀ps:List (List Nat×List Nat),(∀p∈ps,p.1≠[]/\(∀c∈p.1,c≠10/\c≠13)/\(p.2=[10]∨p.2=[13]∨p.2=[13,10]))->
  nl Fz (em ps++tail)=bK (ps.map (·.1))++nl Fz tail/\(em ps++tail).head? ≠Fv 10
 |[],_=>⟨rfl,ht⟩
 |(l,e)::ps,h=>by
  obtain⟨h1,h2,h3⟩:=h _ FT;obtain⟨i1,i2⟩:=oC ht ps λp hp=>h p (FU _ hp);have e0:em ((l,e)::ps)++tail=l++(e++(em ps++tail)):=by show(l++e++em ps)++tail=_;simp
  have h2: ∀c∈l,c≠10/\c≠13:=h2;have h1:l≠[]:=h1;rw [e0];refine⟨?_, ?_⟩
  ·rw [qj l _ h2]
   have:nl Fz (e++(em ps++tail))=13::10::nl Fz (em ps++tail):=by
    rcases h3 with q|q|q
    ·rw [show e=[10]from q];rfl
    ·rw [show e=[13]from q]
     show 13::nl FE (em ps++tail)=_;rw [zJ _ i2]
    ·rw [show e=[13,10]from q];rfl
   rw [this,i1];show _=(l++[13,10]++bK (ps.map (·.1)))++nl Fz tail
   simp
  ·cases l with
   |nil=>exact absurd rfl h1
   |cons c l=>
    intro q;exact(h2 c FT).1 (FG q)
noncomputable def mu (l:List Nat):List Nat:=if l.head? =Fv 46 then 46::l else l
theorem qB: ∀(l r:List Nat),(∀c∈l,c≠10)->dd Fz (l++13::10::r)=l++13::10::dd FE r
 |[],r,_=>rfl
 |c::l,r,h=>by
  haveI hc:(c==10)=Fz:=by simpa using h c FT
  rw [GV,dd,if_neg (by simp),hc,qB l r λx hx=>h x (FU _ hx)]
  rfl
theorem Ae (l r:List Nat) (h: ∀c∈l,c≠10):dd FE (l++13::10::r)=mu l++13::10::dd FE r:=by
 cases l with
 |nil=>rfl
 |cons c l=>
  haveI hl: ∀x∈l,x≠10:=λx hx=>h x (FU _ hx);haveI hc:(c==10)=Fz:=by simpa using h c FT
  rw [GV,dd,hc,qB l r hl];unfold mu;by_cases QT:c=46
  ·subst QT;rw [if_pos ⟨rfl,rfl⟩];rfl
  ·rw [if_neg (λq=>QT q.2),if_neg (show¬((c::l).head? =Fv 46)from λq=>QT (FG q))];rfl
theorem oK (last:List Nat): ∀ls:List (List Nat),(∀l∈ls,∀c∈l,c≠10)->dd FE (bK ls++last)=bK (ls.map mu)++dd FE last
 |[],_=>rfl
 |l::ls,h=>by
  haveI e:bK (l::ls)++last=l++13::10::(bK ls++last):=by show(l++[13,10]++bK ls)++last=_;simp
  rw [e,Ae l _ (h l FT),oK last ls λx hx=>h x (FU _ hx)];show _=(mu l++[13,10]++bK (ls.map mu))++_;simp
noncomputable def dC (b1:Nat->Bool) (OB:Nat->List Nat) (l:List Nat):List Nat:=(l.filter λc=> !b1 c).flatMap λc=>if c=46∨c=13∨c=10 then [c]else OB c
section
variable {b1:Nat->Bool} {OB:Nat->List Nat}
theorem d8 (a b:List Nat):dC b1 OB (a++b)=dC b1 OB a++dC b1 OB b:=by simp [dC]
theorem jw (h13:b1 13=Fz) (h10:b1 10=Fz) (last:List Nat): ∀ls:List (List Nat),dC b1 OB (bK ls++last)=bK (ls.map (dC b1 OB))++dC b1 OB last
 |[]=>rfl
 |l::ls=>by
  haveI e:bK (l::ls)++last=l++([13,10]++(bK ls++last)):=by show(l++[13,10]++bK ls)++last=_;simp
  haveI e2:dC b1 OB [13,10]=[13,10]:=by simp [dC,h13,h10]
  rw [e,d8,d8,jw h13 h10 last ls,e2];show _=(dC b1 OB l++[13,10]++bK (ls.map (dC b1 OB)))++_;simp
structure Ln where
 v:List Nat
 k:Nat
 c:Nat
 u:Nat
 s:Nat
 mp:List Nat
noncomputable def Ln.raw (l:Ln):List Nat:=l.v++Gc l.k 46++[l.c]++[l.u]++[l.s]
noncomputable def Ln.D (l:Ln):Nat:=if l.v=[]then l.k+1 else l.k
noncomputable def Ln.name (l:Ln):List Nat:=l.mp++[l.u+32]++[l.s]
noncomputable def Ln.out (l:Ln):List Nat:=Gc l.D 46++l.name
def okc (x:Nat):Prop:=x≠10/\x≠13/\x≠46
structure ii (b1:Nat->Bool) (OB:Nat->List Nat) (l:Ln):Prop where
 k1:1<=l.k
 v:l.v=[]∨ ∃x,l.v=[x]/\b1 x=FE/\okc x
 c:b1 l.c=Fz/\okc l.c/\OB l.c=l.mp
 u:b1 l.u=Fz/\okc l.u/\OB l.u=[l.u+32]
 s:b1 l.s=Fz/\okc l.s/\OB l.s=[l.s]
 mp:l.mp≠[]/\ ∀x∈l.mp,okc x
 u':okc (l.u+32)
theorem ii.plain {l:Ln} (h:ii b1 OB l):l.raw≠[]/\ ∀c∈l.raw,c≠10/\c≠13:=by
 refine⟨by simp [Ln.raw],λc hc=> ?_⟩
 unfold Ln.raw at hc;simp only [GY,G4]at hc;rcases hc with(((hc|hc)|rfl)|rfl)|rfl
 ·rcases h.v with q|⟨x,q,_,hx⟩
  ·rw [q]at hc;cases hc
  ·rw [q]at hc;rw [G4.mp hc];exact⟨hx.1,hx.2.1⟩
 ·rw [(NY.mp hc).2];decide
 ·exact⟨h.c.2.1.1,h.c.2.1.2.1⟩
 ·exact⟨h.u.2.1.1,h.u.2.1.2.1⟩
 ·exact⟨h.s.2.1.1,h.s.2.1.2.1⟩
theorem g_ (QT:b1 46=Fz): ∀k,dC b1 OB (Gc k 46)=Gc k 46
 |0=>rfl
 |k+1=>by rw [Ke,show 46::Gc k 46=[46]++Gc k 46 from rfl,d8,g_ QT k];simp [dC,QT]
theorem lF {c:Nat} (h1:b1 c=Fz) (h2:okc c):dC b1 OB [c]=OB c:=by obtain⟨a,b,d⟩:=h2;simp [dC,h1,a,b,d]
theorem ii.out (QT:b1 46=Fz) {l:Ln} (h:ii b1 OB l):dC b1 OB (mu l.raw)=l.out:=by
 haveI hk:=h.k1;have tail:dC b1 OB [l.c]++dC b1 OB [l.u]++dC b1 OB [l.s]=l.name:=by
  rw [lF h.c.1 h.c.2.1,lF h.u.1 h.u.2.1,lF h.s.1 h.s.2.1,h.c.2.2,h.u.2.2,h.s.2.2]
  rfl
 rcases h.v with q|⟨x,q,hx1,hx2⟩
 ·have e:mu l.raw=Gc (l.k+1) 46++[l.c]++[l.u]++[l.s]:=by
   have e0:l.raw=Gc l.k 46++[l.c]++[l.u]++[l.s]:=by unfold Ln.raw;rw [q];rfl
   rw [e0,show l.k=(l.k-1)+1 by exact Ha (IC hk),Ke]
   rfl
  rw [e,d8,d8,d8,g_ QT,Gq,Gq,<-Gq (dC b1 OB [l.c]),tail];unfold Ln.out Ln.D;rw [if_pos q]
 ·haveI e:mu l.raw=[x]++Gc l.k 46++[l.c]++[l.u]++[l.s]:=by
   haveI e0:l.raw=[x]++Gc l.k 46++[l.c]++[l.u]++[l.s]:=by unfold Ln.raw;rw [q]
   rw [e0];unfold mu;exact if_neg (show¬(([x]++Gc l.k 46++[l.c]++[l.u]++[l.s]).head? =Fv 46)from λh=>hx2.2.2 (FG h))
  haveI ex:dC b1 OB [x]=[]:=by simp [dC,hx1]
  rw [e,d8,d8,d8,d8,g_ QT,ex,Hb,Gq,Gq,<-Gq (dC b1 OB [l.c]),tail];unfold Ln.out Ln.D;rw [if_neg (by rw [q];simp)]
theorem ii.nameok {l:Ln} (h:ii b1 OB l): ∀x∈l.name,okc x:=by
 intro x hx;unfold Ln.name at hx;simp only [GY,G4]at hx;rcases hx with(hx|rfl)|rfl
 ·exact h.mp.2 x hx
 ·exact h.u'
 ·exact h.s.2.1
theorem ii.outok {l:Ln} (h:ii b1 OB l):13∉l.out:=by
 intro q;unfold Ln.out at q;rcases GY.mp q with q|q
 ·have:=(NY.mp q).2;lia
 ·exact(h.nameok 13 q).2.1 rfl
theorem xU (QT:b1 46=Fz) (h13:b1 13=Fz) (h10:b1 10=Fz) {ls:List Ln} (h: ∀l∈ls,ii b1 OB l) {es:List (List Nat)} (Pp:es.length=ls.length) (he: ∀e∈es,e=[10]∨e=[13]∨e=[13,10]) (VI:Bool):
  dC b1 OB (dd FE (nl Fz (em ((ls.map Ln.raw).zip es)++([13,13,10,46]++if VI=FE then [10]else []))))=
   if VI=FE then bK (ls.map Ln.out++[[],[],[46,46]])++[]else bK (ls.map Ln.out++[[],[]])++[46,46]:=by
 have hz:((ls.map Ln.raw).zip es).map (·.1)=ls.map Ln.raw:=by rw [KN];rw [FD];exact FI (Ha Pp)
 have hp: ∀p∈(ls.map Ln.raw).zip es,p.1≠[]/\(∀c∈p.1,c≠10/\c≠13)/\(p.2=[10]∨p.2=[13]∨p.2=[13,10]):=λp hp=>by obtain⟨l,hl,e⟩:=Ga.mp (Mn hp).1;have:=(h l hl).plain;rw [e]at this;exact⟨this.1,this.2,he _ (Mn hp).2⟩
 have hr: ∀l∈ls.map Ln.raw,∀c∈l,c≠10:=λl hl c hc=>by obtain⟨x,hx,rfl⟩:=Ga.mp hl;exact((h x hx).plain.2 c hc).1
 have QI:((ls.map Ln.raw).map mu).map (dC b1 OB)=ls.map Ln.out:=by rw [Gl,Gl];exact H_ λl hl=>(h l hl).out QT
 have Qw: ∀a b,bK (a++b)=bK a++bK b:=λa b=>by simp [bK]
 have pd:dC b1 OB [46,46]=[46,46]:=g_ QT 2;cases VI with
 |true=>
  rw [(oC (tail:=[13,13,10,46]++if FE=FE then [10]else []) (by decide) _ hp).1,hz,if_pos rfl,if_pos rfl]
  have e1:nl Fz ([13,13,10,46]++[10])=bK [[],[],[46]]++[]:=rfl;rw [e1,<-Gq,<-Qw,oK [] _ (λl hl=>by
   rcases GY.mp hl with q|q
   ·exact hr l q
   ·intro c hc
    simp only [FS,Gu,or_false]at q;rcases q with rfl|rfl|rfl
    ·cases hc
    ·cases hc
    ·rw [G4.mp hc];decide),jw h13 h10,Gv,Gv,QI]
  show bK (_++[[],[],dC b1 OB [46,46]])++[]=_;rw [pd]
 |false=>
  rw [(oC (tail:=[13,13,10,46]++if Fz=FE then [10]else []) (by decide) _ hp).1,hz,if_neg (by decide),if_neg (by decide)]
  have e1:nl Fz ([13,13,10,46]++[])=bK [[],[]]++[46]:=rfl;rw [e1,<-Gq,<-Qw,oK [46] _ (λl hl=>by
   rcases GY.mp hl with q|q
   ·exact hr l q
   ·intro c hc
    simp only [FS,Gu,or_false]at q;rcases q with rfl|rfl
    ·cases hc
    ·cases hc),jw h13 h10,Gv,Gv,QI]
  show bK (_++[[],[]])++dC b1 OB [46,46]=_;rw [pd]
end
noncomputable def veilsL:List Nat:=[173,847,6150,6155,6156,6157,8203,8204,8205,8288,65279,65024,65025,65026,65027,65028,65029,65030,65031,65032,65033,65034,65035,65036,65037,65038,65039]
noncomputable def fw:List Nat:=[172,174,846,848,6149,6151,6154,6158,8202,8206,8287,8289,65023,65040,65278,65280,11,28,133,8232]
noncomputable def fT:List Nat:=[13169,13171,13173,13184,13185,13187,13188,13189,13190,13191,13194,13195,13200,13201,13202,13203,13204,13226,13227,13228,64256,64257,64258,13256,13257,13259,13261,13262,13271,64259,64260,64261]
noncomputable def meantL:List (List Nat):=[[104,112,97],[97,117],[111,118],[112,97],[110,97],[109,97],[107,97],[107,98],[109,98],[103,98],[112,102],[110,102],[104,122],[107,104,122],[109,104,122],[103,104,122],[116,104,122],[107,112,97],[109,112,97],[103,112,97],[102,102],[102,105],[102,108],[100,98],[103,121],[104,112],[107,107],[107,109],[112,104],[102,102,105],[102,102,108],[115,116]]
noncomputable def d4 (c:Nat):Bool:=veilsL.contains c
noncomputable def dE (c:Nat):List Nat:=match iF.lookup (c:Int)with
 |some s=>s.cps.toList
 |none=>(Jr ⟨#[c]⟩).cps.toList
noncomputable instance (x:Nat):Decidable (okc x):=by unfold okc;infer_instance
theorem yA: ∀i,i<32->d4 (fT.getD i 0)=Fz/\okc (fT.getD i 0)/\dE (fT.getD i 0)=meantL.getD i []:=by decide+kernel
theorem qx: ∀i,i<26->d4 (65+i)=Fz/\okc (65+i)/\dE (65+i)=[97+i]/\okc (97+i):=by decide+kernel
theorem xi: ∀i,i<20->d4 (fw.getD i 0)=Fz/\okc (fw.getD i 0)/\dE (fw.getD i 0)=[fw.getD i 0]:=by decide+kernel
theorem pP: ∀i,i<27->d4 (veilsL.getD i 0)=FE/\okc (veilsL.getD i 0):=by decide+kernel
theorem xP: ∀i,i<32->meantL.getD i []≠[]/\ ∀x∈meantL.getD i [],okc x:=by decide+kernel
theorem vB: ∀i,i<32-> ∀j,j<32->(meantL.getD i [])=(meantL.getD j [])->i=j:=by decide+kernel
theorem wa:d4 46=Fz/\d4 13=Fz/\d4 10=Fz:=by decide+kernel
variable {Γ:Gam} {e c a b:PE} {ρ:Ρ} {own l:List Nat} {v r N:PV} {n i t:Nat} {On nm du ln:List PV} {OP OO Ox Os:Option PV}
section
theorem B8 (h:pev Γ e ρ=Fv v) (hs:gr v=FE):mev Γ 2 e ρ own=Fv v:=by show(pev Γ e ρ).bind _=_;rw [h];exact if_pos hs
theorem yJ (h:n<=1000000):pbi .chr [.int n]=Fv (sv [n]):=by show(if(decide ((n:Int)<0)||decide ((n:Int)>0x10FFFF))=Fz then Fv (PV.str ⟨#[(n:Int).toNat]⟩)else Fw)=_;rw [if_pos (by rw [decide_eq_false (by exact J0 (Gd _)),decide_eq_false (by lia)];rfl),GC]
theorem bF {k:BI} (h:pev Γ e ρ=Fv v) (hk:pbi k [v]=Fv r):pev Γ (.bi k [e]) ρ=Fv r:=by show(dz Γ [e] ρ).bind _=_;rw [aa h rfl];exact hk
theorem bn {i:PE} {a b:PV} (h:pev Γ e ρ=Fv a) (hi:pev Γ i ρ=Fv b) (hr:c_ a b=Fv r):pev Γ (.idx e i) ρ=Fv r:=by show(pev Γ e ρ).bind (λa=>(pev Γ i ρ).bind λb=>c_ a b)=_;rw [h];show(pev Γ i ρ).bind _=_;rw [hi];exact hr
theorem gR {t:Bool} (hc:bt Γ c ρ=Fv t) (h:pev Γ (if t=FE then a else b) ρ=Fv v):pev Γ (.ife c a b) ρ=Fv v:=by
 obtain⟨u,hu,ht⟩:=FQ.mp hc;show(pev Γ c ρ).bind (λv=>(ez v).bind λt=>match t with|true=>pev Γ a ρ|false=>pev Γ b ρ)=_
 rw [hu];show(ez u).bind _=_;rw [ht];cases t<;>exact h
theorem eB {x y:List Nat} (ha:pev Γ a ρ=Fv (sv x)) (hb:pev Γ b ρ=Fv (sv y)) (h:x.length+y.length<=1000000):pev Γ (.bin .Add a b) ρ=Fv (sv (x++y)):=by
 haveI hz:F_=2^24:=rfl;refine ae ha hb ?_;show(if(⟨x.toArray⟩:Gj).length+(⟨y.toArray⟩:Gj).length<=F_ then Fv (PV.str (⟨x.toArray⟩++⟨y.toArray⟩))else Fw)=_;rw [if_pos (by simp [IB];exact Fx h (by decide))]
 congr 2
 apply Str.ext';apply Of.mp;show(x.toArray++y.toArray).toList=(x++y).toArray.toList;simp
noncomputable def md (Om:Int) (n:Nat):Nat:=(Om.fmod n).toNat
theorem pK (Om:Int) (h:0<n):Om.fmod (n:Int)=(md Om n:Nat):=by
 have:=Hn Om (b:=(n:Int)) (by exact aPz h)
 unfold md;exact Ha (IZ this)
theorem d6 (Om:Int) (h:0<n):md Om n<n:=by
 haveI h1:=pK Om h;have:=IE Om (b:=(n:Int)) (by exact aPz h)
 exact aMd h1 this
theorem eT {Om:Int} (h:pev Γ a ρ=Fv (.int Om)) (hn:0<n):pev Γ (.bin .Mod a (.cI (n:Nat))) ρ=Fv (.int (md Om n:Nat)):=by refine ae h rfl ?_;rw [<-pK Om hn];exact iG (by lia)
noncomputable def ar (l:List Nat):PV:= .list (l.map λn:Nat=>PV.int (n:Nat))
theorem eJ (hi:i<l.length) (hl:l.length<=1000):c_ (ar l) (.int i)=Fv (.int (l.getD i 0:Nat)):=by
 refine dR ?_ (by rw [FD];exact Fx hl (by decide))
 rw [Gp,Ge hi];simp [IY,hi]
theorem iW {l:List (List Nat)} (hi:i<l.length) (hl:l.length<=1000):c_ (.list (l.map sv)) (.int i)=Fv (sv (l.getD i [])):=by
 refine dR ?_ (by rw [FD];exact Fx hl (by decide))
 rw [Gp,Ge hi];simp [IY,hi]
noncomputable def cH (Om:Int) (a b:Nat):Ln:=⟨if a=b then []else [veilsL.getD (md Om 27) 0],1+max a b,fT.getD (md Om 32) 0,65+md Om 26,fw.getD (md Om 20) 0,meantL.getD (md Om 32) []⟩
theorem zL (Om:Int) (a b:Nat):ii d4 dE (cH Om a b)where
 k1:=by show 1<=1+max a b;exact FZ _ _
 v:=by
  show(if a=b then []else [veilsL.getD (md Om 27) 0])=[]∨ ∃x,(if a=b then []else [veilsL.getD (md Om 27) 0])=[x]/\_;by_cases h:a=b
  ·exact .inl (if_pos h)
  ·exact .inr ⟨_,if_neg h,pP _ (d6 Om (by decide))⟩
 c:=yA _ (d6 Om (by decide))
 u:=by
  have:=qx _ (d6 Om (n:=26) (by decide))
  refine⟨this.1,this.2.1, ?_⟩;rw [show(cH Om a b).u=65+md Om 26 from rfl,this.2.2.1]
  congr 1;exact Ha (Gh _ _ _)
 s:=xi _ (d6 Om (by decide))
 mp:=xP _ (d6 Om (by decide))
 u':=by
  have:=(qx _ (d6 Om (n:=26) (by decide))).2.2.2
  rw [show(cH Om a b).u+32=97+md Om 26 by show 65+md Om 26+32=_;exact Gh _ _ _]
  exact this
theorem fZ:(∀i,i<27->veilsL.getD i 0<=70000)/\(∀i,i<20->fw.getD i 0<=70000)/\(∀i,i<32->fT.getD i 0<=70000/\(meantL.getD i []).length<=3):=by decide+kernel
theorem EM (a b:Nat):rn [(a:Int),(b:Int)]=((max a b:Nat):Int):=by
 haveI e:rn [(a:Int),(b:Int)]=[(a:Int),(b:Int)].getD (if decide ((b:Int)>(a:Int))=FE then 1 else 0) 0:=rfl;rw [e];by_cases h:(b:Int)>(a:Int)
 ·rw [if_pos (decide_eq_true h)]
  show(b:Int)=_;exact Fk h
 ·rw [if_neg (by simpa using h)]
  show(a:Int)=_;exact Fl h
theorem q7: ∀n,bl [46] n=Gc n 46
 |0=>rfl
 |n+1=>by rw [mE,q7 n];rfl
theorem vi (h:n<=1000000):dN .Mult (.str ⟨#[46]⟩) (.int n)=Fv (sv (Gc n 46)):=by show(if 0<=(n:Int)/\(⟨#[46]⟩:Gj).length<=1/\(n:Int)<=1000000 then Fv (PV.str ⟨(bl [46] (n:Int).toNat).toArray⟩)else Fw)=_;rw [if_pos ⟨by exact Gd _,by decide,by lia⟩,GC,q7]
noncomputable def jj:List PS:=[.set 11 0 (.bin .Add (.var 2) (.var 10)),.set 12 2 (.bi .chr [(.idx (.var 4) (.bin .Mod (.var 11) (.cI 20)))]),.set 13 0 (.comp1 [23,24] (.one 24) (.ex (.idx (.var 0) (.var 10))) [] (.idx (.var 1) (.var 24))),.set 14 0 (.ife (.cmp .Eq (.idx (.var 13) (.cI 0)) (.idx (.var 13) (.cI 1))) (.cS ⟨#[]⟩) (.bi .chr [(.idx (.var 3) (.bin .Mod (.var 11) (.cI 27)))])),.ite (.boolop FE [(.cmp .NotEq (.var 14) (.cS ⟨#[]⟩)),(.cmp .IsNot (.call 10 [(.var 14)]) (.cB FE))]) [.ret (.list [])] [],.app 7 2 (.bin .Add (.bin .Add (.idx (.var 6) (.bin .Mod (.var 11) (.cI 32))) (.bi .chr [(.bin .Add (.cI 97) (.bin .Mod (.var 11) (.cI 26)))])) (.var 12)),.app 8 2 (.ife (.cmp .Eq (.idx (.var 13) (.cI 0)) (.idx (.var 13) (.cI 1))) (.bin .Add (.cI 2) (.idx (.var 13) (.cI 0))) (.bin .Add (.cI 1) (.bi .max [(.var 13)]))),.app 9 2 (.bin .Add (.bin .Add (.bin .Add (.bin .Add (.var 14) (.bin .Mult (.cS ⟨#[46]⟩) (.bin .Add (.cI 1) (.bi .max [(.var 13)])))) (.bi .chr [(.idx (.var 5) (.bin .Mod (.var 11) (.cI 32)))])) (.bi .chr [(.bin .Add (.cI 65) (.bin .Mod (.var 11) (.cI 26)))])) (.var 12))]
noncomputable def mR (P N:PV) (hp:Int) (nm du ln:List PV) (p10 OP OO Ox Os:Option PV):Ρ:=
 [Fv P,Fv N,Fv (.int hp),Fv (ar veilsL),Fv (ar fw),Fv (ar fT),Fv (.list (meantL.map sv)),Fv (.list nm),Fv (.list du),Fv (.list ln),p10,OP,OO,Ox,Os,Fw,Fw,Fw,Fw,Fw,Fw,Fw,Fw,Fw,Fw,Fw,Fw,Fw,Fw]
noncomputable abbrev ow5:List Nat:=[9,8,7,5,4]
theorem s_ {hp:Int} {A B:PV} {a b:Nat} (h10: ∀c:Nat,Γ.fn 10 [sv [c]]=Fv (.bool (d4 c)))
  (ht:On[t]? =Fv (.list [A,B])) (PU:On.length<=1000) (hA:c_ N A=Fv (.int a)) (hB:c_ N B=Fv (.int b)) (ha:a<=100) (hb:b<=100) (hn:nm.length<=1000) (hd:du.length<=1000) (SP:ln.length<=1000):
  ∃Tk Tj Qf Qe,ag Γ jj (mR (.list On) N hp nm du ln (Fv (.int t)) OP OO Ox Os) ow5=
   Fv (.next (mR (.list On) N hp (nm++[sv (cH (hp+t) a b).name]) (du++[.int (cH (hp+t) a b).D]) (ln++[sv (cH (hp+t) a b).raw]) (Fv (.int t)) Tk Tj Qf Qe) ow5):=by
 haveI hz:F_=2^24:=rfl;generalize hw:hp+(t:Int)=Om;have VM:=d6 Om (n:=27) (by decide)
 have l20:=d6 Om (n:=20) (by decide)
 have VL:=d6 Om (n:=32) (by decide)
 haveI l26:=d6 Om (n:=26) (by decide)
 haveI v27:=fZ.1 _ VM;haveI v20:=fZ.2.1 _ l20;have VB:=fZ.2.2 _ VL;let st:List Nat:=[fw.getD (md Om 20) 0];let OV:PV:= .list [.int (a:Nat),.int (b:Nat)];let ve:List Nat:=if a=b then []else [veilsL.getD (md Om 27) 0];haveI s1:ak Γ (.set 11 0 (.bin .Add (.var 2) (.var 10))) (mR (.list On) N hp nm du ln (Fv (.int t)) OP OO Ox Os) ow5=Fv (.next (mR (.list On) N hp nm du ln (Fv (.int t)) (Fv (.int Om)) OO Ox Os) ow5):=by rw [<-hw];exact bO (v:= .int (hp+t)) rfl rfl
 haveI s2:ak Γ (.set 12 2 (.bi .chr [(.idx (.var 4) (.bin .Mod (.var 11) (.cI 20)))])) (mR (.list On) N hp nm du ln (Fv (.int t)) (Fv (.int Om)) OO Ox Os) ow5=Fv (.next (mR (.list On) N hp nm du ln (Fv (.int t)) (Fv (.int Om)) (Fv (sv st)) Ox Os) ow5):=by refine bO (v:=sv st) ?_ rfl;exact bF (bn (a:=ar fw) rfl (eT (n:=20) (a:= .var 11) (Om:=Om) rfl (by decide)) (eJ l20 (by decide))) (yJ (by exact Fx v20 (by decide)))
 haveI s3:ak Γ (.set 13 0 (.comp1 [23,24] (.one 24) (.ex (.idx (.var 0) (.var 10))) [] (.idx (.var 1) (.var 24)))) (mR (.list On) N hp nm du ln (Fv (.int t)) (Fv (.int Om)) (Fv (sv st)) Ox Os) ow5=Fv (.next (mR (.list On) N hp nm du ln (Fv (.int t)) (Fv (.int Om)) (Fv (sv st)) (Fv OV) Os) ow5):=by
  refine bO (v:=OV) ?_ rfl;haveI hi:pit Γ (.ex (.idx (.var 0) (.var 10))) (dG 0 (mR (.list On) N hp nm du ln (Fv (.int t)) (Fv (.int Om)) (Fv (sv st)) Ox Os) ow5)=Fv [A,B]:=by
   show(c_ (.list On) (.int t)).bind cV=_;rw [dR ht (by exact Fx PU (by decide))]
   rfl
  have:=hO (Ov:=[23,24]) (t:= .one 24) (ifs:=[]) (OI:= .idx (.var 1) (.var 24)) (G:=λx=>match c_ N x with|some y=>[y]|none=>[]) hi (λx hx=>by
   refine⟨_,rfl,.inl ⟨rfl, ?_⟩⟩;simp only [FS,Gu,or_false]at hx;rcases hx with rfl|rfl
   ·exact⟨.int a,hA,by simp [hA]⟩
   ·exact⟨.int b,hB,by simp [hB]⟩) (by simp [hA,hB];decide)
  rw [this];simp [hA,hB,OV]
 haveI s4:ak Γ (.set 14 0 (.ife (.cmp .Eq (.idx (.var 13) (.cI 0)) (.idx (.var 13) (.cI 1))) (.cS ⟨#[]⟩) (.bi .chr [(.idx (.var 3) (.bin .Mod (.var 11) (.cI 27)))]))) (mR (.list On) N hp nm du ln (Fv (.int t)) (Fv (.int Om)) (Fv (sv st)) (Fv OV) Os) ow5=Fv (.next (mR (.list On) N hp nm du ln (Fv (.int t)) (Fv (.int Om)) (Fv (sv st)) (Fv OV) (Fv (sv ve))) ow5):=by
  refine bO (v:=sv ve) ?_ rfl;refine gR (t:=((a:Int)==(b:Int))) rfl ?_;by_cases h:a=b
  ·rw [if_pos (by simp [h])]
   show Fv (sv [])=Fv (sv ve);simp [ve,h]
  ·rw [if_neg (by simp;lia)]
   have e:ve=[veilsL.getD (md Om 27) 0]:=if_neg h;rw [e];exact bF (bn (a:=ar veilsL) rfl (eT (n:=27) (a:= .var 11) (Om:=Om) rfl (by decide)) (eJ VM (by decide))) (yJ (by exact Fx v27 (by decide)))
 haveI s5:ak Γ (.ite (.boolop FE [(.cmp .NotEq (.var 14) (.cS ⟨#[]⟩)),(.cmp .IsNot (.call 10 [(.var 14)]) (.cB FE))]) [.ret (.list [])] []) (mR (.list On) N hp nm du ln (Fv (.int t)) (Fv (.int Om)) (Fv (sv st)) (Fv OV) (Fv (sv ve))) ow5=Fv (.next (mR (.list On) N hp nm du ln (Fv (.int t)) (Fv (.int Om)) (Fv (sv st)) (Fv OV) (Fv (sv ve))) ow5):=by
  refine am (t:=Fz) ?_ rfl;by_cases h:a=b
  ·have e:ve=[]:=if_pos h
   rw [e];rfl
  ·have e:ve=[veilsL.getD (md Om 27) 0]:=if_neg h
   rw [e];have hv:=h10 (veilsL.getD (md Om 27) 0);rw [(pP _ VM).1]at hv;haveI hc:pev Γ (.cmp .IsNot (.call 10 [(.var 14)]) (.cB FE)) (mR (.list On) N hp nm du ln (Fv (.int t)) (Fv (.int Om)) (Fv (sv st)) (Fv OV) (Fv (sv [veilsL.getD (md Om 27) 0])))=Fv (.bool Fz):=by show((Γ.fn 10 [sv [veilsL.getD (md Om 27) 0]]).bind λa=>(gk .IsNot a (.bool FE)).map PV.bool)=_;rw [hv];rfl
   show((ig Γ FE [(.cmp .NotEq (.var 14) (.cS ⟨#[]⟩)),(.cmp .IsNot (.call 10 [(.var 14)]) (.cB FE))] _).map PV.bool).bind ez=_;have hp:ig Γ FE [(.cmp .NotEq (.var 14) (.cS ⟨#[]⟩)),(.cmp .IsNot (.call 10 [(.var 14)]) (.cB FE))] (mR (.list On) N hp nm du ln (Fv (.int t)) (Fv (.int Om)) (Fv (sv st)) (Fv OV) (Fv (sv [veilsL.getD (md Om 27) 0])))=Fv Fz:=by show(pev Γ (.cmp .IsNot (.call 10 [(.var 14)]) (.cB FE)) _).bind _=_;rw [hc];rfl
   rw [hp];rfl
 have chU: ∀(p:Nat) {ρ:Ρ},ρ.get 11=Fv (.int Om)->p<=1000->pev Γ (.bi .chr [(.bin .Add (.cI (p:Nat)) (.bin .Mod (.var 11) (.cI 26)))]) ρ=Fv (sv [p+md Om 26]):=λp ρ h hp=>by
  refine bF (v:= .int (p+md Om 26:Nat)) (ae rfl (eT (n:=26) (a:= .var 11) (Om:=Om) h (by decide)) ?_) (yJ (by exact Fx (FM hp (H4 l26)) (by decide)))
  show Fv (PV.int ((p:Int)+(md Om 26:Nat)))=_;rw [<-Hd]
 haveI s6:ak Γ (.app 7 2 (.bin .Add (.bin .Add (.idx (.var 6) (.bin .Mod (.var 11) (.cI 32))) (.bi .chr [(.bin .Add (.cI 97) (.bin .Mod (.var 11) (.cI 26)))])) (.var 12))) (mR (.list On) N hp nm du ln (Fv (.int t)) (Fv (.int Om)) (Fv (sv st)) (Fv OV) (Fv (sv ve))) ow5=Fv (.next (mR (.list On) N hp (nm++[sv (cH Om a b).name]) du ln (Fv (.int t)) (Fv (.int Om)) (Fv (sv st)) (Fv OV) (Fv (sv ve))) ow5):=by
  refine cU (v:=sv (cH Om a b).name) rfl (B8 ?_ rfl) rfl (by decide) (by exact FF hn (by decide))
  have e:(cH Om a b).name=meantL.getD (md Om 32) []++[97+md Om 26]++st:=by
   show meantL.getD (md Om 32) []++[65+md Om 26+32]++_=_;rw [show 65+md Om 26+32=97+md Om 26 by exact Gh _ _ _]
   rfl
  rw [e];refine eB (eB (bn (a:= .list (meantL.map sv)) rfl (eT (n:=32) (a:= .var 11) (Om:=Om) rfl (by decide)) (iW VL (by decide))) (chU 97 rfl (by decide)) ?_) rfl ?_
  ·have:=VB.2;simp only [FY,GJ];exact Gw (Fx this (by decide))
  ·have:=VB.2;simp only [FP,FY,GJ,st];exact Fx (FM (FM this (FH _)) (FH _)) (by decide)
 have Uh: ∀ρ:Ρ,ρ.get 13=Fv OV->pev Γ (.bin .Add (.cI 1) (.bi .max [(.var 13)])) ρ=Fv (.int (1+max a b:Nat)):=λρ h13=>by
  refine ae (b:= .int (max a b:Nat)) rfl (bF (v:=OV) h13 ?_) (by show Fv (PV.int (1+((max a b:Nat):Int)))=_;rw [Hd];rfl)
  show Fv (PV.int (rn [(a:Int),(b:Int)]))=_;rw [EM]
 haveI s7:ak Γ (.app 8 2 (.ife (.cmp .Eq (.idx (.var 13) (.cI 0)) (.idx (.var 13) (.cI 1))) (.bin .Add (.cI 2) (.idx (.var 13) (.cI 0))) (.bin .Add (.cI 1) (.bi .max [(.var 13)])))) (mR (.list On) N hp (nm++[sv (cH Om a b).name]) du ln (Fv (.int t)) (Fv (.int Om)) (Fv (sv st)) (Fv OV) (Fv (sv ve))) ow5=Fv (.next (mR (.list On) N hp (nm++[sv (cH Om a b).name]) (du++[.int (cH Om a b).D]) ln (Fv (.int t)) (Fv (.int Om)) (Fv (sv st)) (Fv OV) (Fv (sv ve))) ow5):=by
  refine cU (v:= .int (cH Om a b).D) rfl (B8 (gR (t:=((a:Int)==(b:Int))) rfl ?_) rfl) rfl (by decide) (by exact FF hd (by decide))
  by_cases h:a=b
  ·have hD:(cH Om a b).D=2+a:=by show(if(if a=b then []else [veilsL.getD (md Om 27) 0])=[]then 1+max a b+1 else 1+max a b)=_;rw [if_pos h,if_pos rfl];lia
   rw [if_pos (by simp [h]),hD]
   show Fv (PV.int (2+(a:Int)))=_;rw [Hd];rfl
  ·haveI hD:(cH Om a b).D=1+max a b:=by show(if(if a=b then []else [veilsL.getD (md Om 27) 0])=[]then 1+max a b+1 else 1+max a b)=_;rw [if_neg h,if_neg (by simp)]
   rw [if_neg (by simp;lia),hD]
   exact Uh _ rfl
 haveI s8:ak Γ (.app 9 2 (.bin .Add (.bin .Add (.bin .Add (.bin .Add (.var 14) (.bin .Mult (.cS ⟨#[46]⟩) (.bin .Add (.cI 1) (.bi .max [(.var 13)])))) (.bi .chr [(.idx (.var 5) (.bin .Mod (.var 11) (.cI 32)))])) (.bi .chr [(.bin .Add (.cI 65) (.bin .Mod (.var 11) (.cI 26)))])) (.var 12))) (mR (.list On) N hp (nm++[sv (cH Om a b).name]) (du++[.int (cH Om a b).D]) ln (Fv (.int t)) (Fv (.int Om)) (Fv (sv st)) (Fv OV) (Fv (sv ve))) ow5=Fv (.next (mR (.list On) N hp (nm++[sv (cH Om a b).name]) (du++[.int (cH Om a b).D]) (ln++[sv (cH Om a b).raw]) (Fv (.int t)) (Fv (.int Om)) (Fv (sv st)) (Fv OV) (Fv (sv ve))) ow5):=by
  refine cU (v:=sv (cH Om a b).raw) rfl (B8 ?_ rfl) rfl (by decide) (by exact FF SP (by decide))
  have Va:ve.length<=1:=by show(if a=b then []else [veilsL.getD (md Om 27) 0]).length<=1;split<;>simp
  haveI Tz:pev Γ (.bin .Mult (.cS ⟨#[46]⟩) (.bin .Add (.cI 1) (.bi .max [(.var 13)]))) (mR (.list On) N hp (nm++[sv (cH Om a b).name]) (du++[.int (cH Om a b).D]) ln (Fv (.int t)) (Fv (.int Om)) (Fv (sv st)) (Fv OV) (Fv (sv ve)))=Fv (sv (Gc (1+max a b) 46)):=
   ae rfl (Uh _ rfl) (vi (by lia))
  haveI Rq:st.length=1:=rfl;have hm:max a b<=100:=Nat.max_le.mpr ⟨ha,hb⟩;have Rs:(Gc (1+max a b) 46).length=1+max a b:=Jc;haveI c1:=eB (a:= .var 14) (x:=ve) rfl Tz (by exact Fx (FM Va (Fx (FI Rs) (FM (FH _) hm))) (by decide))
  haveI c2:=eB c1 (y:=[fT.getD (md Om 32) 0]) (bF (bn (a:=ar fT) (i:= .bin .Mod (.var 11) (.cI 32)) (e:= .var 5) rfl (eT (n:=32) (a:= .var 11) (Om:=Om) rfl (by decide)) (eJ VL (by decide))) (yJ (by exact Fx VB.1 (by decide)))) (by rw [FP,Rs,H8];exact Fx (FM (FM Va (FM (FH _) hm)) (FH _)) (by decide))
  haveI c3:=eB c2 (chU 65 rfl (by decide)) (by rw [FP,FP,Rs,H8,H8];exact Fx (FM (FM (FM Va (FM (FH _) hm)) (FH _)) (FH _)) (by decide))
  haveI c4:=eB (b:= .var 12) (y:=st) c3 rfl (by rw [FP,FP,FP,Rs,H8,H8];haveI:st.length=1:=rfl;exact Fx (FM (FM (FM (FM Va (FM (FH _) hm)) (FH _)) (FH _)) (FI this)) (by decide))
  exact c4
 refine⟨Fv (.int Om),Fv (sv st),Fv OV,Fv (sv ve), ?_⟩;rw [jj,a7 s1,a7 s2,a7 s3,a7 s4,a7 s5,a7 s6,a7 s7,a7 s8]
 rfl
end
variable {Ov:List Nat} {OI:PE} {xs:List PV} {ks:List Gj}
section
theorem jE {g:PV->PV}: ∀xs:List PV,xs.flatMap (λx=>[g x])=xs.map g
 |[]=>rfl
 |x::xs=>by rw [JR,Gf,jE xs];rfl
theorem dI {it:PI} (g:PV->PV) (h:pit Γ it ρ=Fv xs) (hb: ∀x∈xs,pev Γ OI ((aB ρ Ov).set i (Fv x))=Fv (g x)) (hl:xs.length<=1000000):pev Γ (.comp1 Ov (.one i) it [] OI) ρ=Fv (.list (xs.map g)):=by haveI hz:F_=2^24:=rfl;have e:xs.flatMap (λx=>[g x])=xs.map g:=jE xs;rw [<-e];exact hO h (λx hx=>⟨_,rfl,.inl ⟨rfl,g x,hb x hx,rfl⟩⟩) (by rw [e,FD];exact Fx hl (by decide))
theorem dw {it:PI} (p:PV->Bool) (g:PV->PV) (h:pit Γ it ρ=Fv xs) (ht: ∀x∈xs,pev Γ c ((aB ρ Ov).set i (Fv x))=Fv (.bool (p x))) (hb: ∀x∈xs,p x=FE->pev Γ OI ((aB ρ Ov).set i (Fv x))=Fv (g x)) (hl:xs.length<=1000000):pev Γ (.comp1 Ov (.one i) it [c] OI) ρ=Fv (.list ((xs.filter p).map g)):=by
 haveI hz:F_=2^24:=rfl;have e: ∀xs:List PV,xs.flatMap (λx=>if p x=FE then [g x]else [])=(xs.filter p).map g:=by
  intro xs;induction xs with
  |nil=>rfl
  |cons x xs ih=>
   rw [JR,ih];by_cases hp:p x=FE
   ·rw [if_pos hp,Ik hp];rfl
   ·rw [if_neg hp,Il hp];rfl
 rw [<-e];haveI Qn:=I6 p xs;refine hO h (λx hx=>⟨_,rfl, ?_⟩) (by rw [e,FD];exact Fx (Fx Qn hl) (by decide))
 cases hp:p x with
 |true=>exact .inl ⟨iu (ht x hx) (by rw [hp];rfl),g x,hb x hx hp,rfl⟩
 |false=>exact .inr ⟨iu (ht x hx) (by rw [hp];rfl),rfl⟩
noncomputable def lnsFrom (hp:Int):Nat->List (Nat×Nat)->List Ln
 |_,[]=>[]
 |t,(a,b)::r=>cH (hp+(t:Nat)) a b::lnsFrom hp (t+1) r
theorem kT {hp:Int} {a b:Nat} {r:List (Nat×Nat)}:lnsFrom hp t ((a,b)::r)=cH (hp+(t:Nat)) a b::lnsFrom hp (t+1) r:=rfl
theorem uv (hp:Int): ∀(ab:List (Nat×Nat)) (t:Nat),(lnsFrom hp t ab).length=ab.length
 |[],_=>rfl
 |(a,b)::r,t=>by rw [kT,FY,FY,uv hp r]
theorem wv (hp:Int): ∀(ab:List (Nat×Nat)) (t:Nat),∀l∈lnsFrom hp t ab,ii d4 dE l
 |[],_,_,h=>by cases h
 |(a,b)::r,t,l,h=>by
  rw [kT]at h;rcases FS.mp h with rfl|h
  ·exact zL _ a b
  ·exact wv hp r (t+1) l h
theorem m0 {N:PV} {hp:Int} (h10: ∀c:Nat,Γ.fn 10 [sv [c]]=Fv (.bool (d4 c))) (PU:On.length<=500): ∀(ab:List (Nat×Nat)) (t:Nat) (nm du ln:List PV) (p10 OP OO Ox Os:Option PV),
  (∀k,(hk:k<ab.length)-> ∃A B,On[t+k]? =Fv (.list [A,B])/\c_ N A=Fv (.int (ab[k].1:Nat))/\c_ N B=Fv (.int (ab[k].2:Nat))/\ab[k].1<=100/\ab[k].2<=100)->
  nm.length+ab.length<=1000->du.length+ab.length<=1000->ln.length+ab.length<=1000->
  ∃q10 Tk Tj Qf Qe,eA (.one 10) (λρ own=>ag Γ jj ρ own) ((GL t ab.length).map λi=>PV.int (i:Nat)) (mR (.list On) N hp nm du ln p10 OP OO Ox Os) ow5=
   Fv (.next (mR (.list On) N hp (nm++(lnsFrom hp t ab).map λl=>sv l.name) (du++(lnsFrom hp t ab).map λl=> .int l.D) (ln++(lnsFrom hp t ab).map λl=>sv l.raw) q10 Tk Tj Qf Qe) ow5)
 |[],t,nm,du,ln,p10,OP,OO,Ox,Os,_,_,_,_=>⟨p10,OP,OO,Ox,Os,by simp only [show lnsFrom hp t []=[]from rfl,JQ,Hg];rfl⟩
 |(a,b)::r,t,nm,du,ln,p10,OP,OO,Ox,Os,h,h1,h2,h3=>by
  rw [FY]at h1 h2 h3;obtain⟨A,B,e1,e2,e3,e4,e5⟩:=h 0 (by simp)
  rw [Nv]at e1;obtain⟨Tk,Tj,Qf,Qe,hb⟩:=s_ (Γ:=Γ) (nm:=nm) (du:=du) (ln:=ln) (hp:=hp) (OP:=OP) (OO:=OO) (Ox:=Ox) (Os:=Os) h10 e1 (by exact Fx PU (by decide)) e2 e3 e4 e5 (by exact GF h1) (by exact GF h2) (by exact GF h3)
  obtain⟨r10,r11,r12,VF,VE,ih⟩:=m0 (N:=N) (hp:=hp) h10 PU r (t+1) (nm++[sv (cH (hp+(t:Nat)) a b).name]) (du++[.int (cH (hp+(t:Nat)) a b).D]) (ln++[sv (cH (hp+(t:Nat)) a b).raw]) (Fv (.int t)) Tk Tj Qf Qe (λk hk=>by
   obtain⟨A',B',f1,f2⟩:=h (k+1) (by rw [FY];exact GW hk)
   exact⟨A',B',by rw [show t+1+k=t+(k+1)by lia];exact f1,f2⟩) (by rw [FP,H8];exact Fx (FI (Gh _ _ _)) h1) (by rw [FP,H8];exact Fx (FI (Gh _ _ _)) h2) (by rw [FP,H8];exact Fx (FI (Gh _ _ _)) h3)
  refine⟨r10,r11,r12,VF,VE, ?_⟩;rw [FY,Jo,Gf,pL rfl];show(match ag Γ jj (mR (.list On) N hp nm du ln (Fv (.int t)) OP OO Ox Os) ow5 with|some (.next ρ own)=>_|some (.ret v)=>_|none=>_)=_
  rw [hb];refine ih.trans ?_;rw [kT];simp
theorem q8 {k:Gj}: ∀{vs:List PV},ks.length=vs.length->k∉ks->putK k v ks vs=(ks++[k],vs++[v]):=by
 induction ks with
 |nil=>
  intro vs h _;cases vs with
  |nil=>rfl
  |cons=>exact nomatch h
 |cons k' ks ih=>
  intro vs h hn;cases vs with
  |nil=>exact nomatch h
  |cons v' vs=>
   show(if k'=k then _ else(k'::(putK k v ks vs).1,v'::(putK k v ks vs).2))=_;rw [if_neg λq=>hn (FS.mpr (.inl q.symm)),ih (II h) λq=>hn (FU _ q)]
   rfl
theorem zy {k:Gj}: ∀{vs:List PV} {i:Nat},ks.Nodup->ks[i]? =Fv k->vs[i]? =Fv v->ri k ks vs=Fv v:=by
 induction ks with
 |nil=>exact λ_ h _=>nomatch h
 |cons k' ks ih=>
  intro vs i hn h1 h2;cases vs with
  |nil=>exact nomatch h2
  |cons v' vs=>
   cases i with
   |zero=>exact(if_pos (FG h1).symm).trans h2
   |succ i=>exact(if_neg λq:k=k'=>(H3.mp hn).1 (q▸FX (i:=i) h1)).trans (ih (H3.mp hn).2 h1 h2)
end
variable {ke ve:PE} {k:Nat} {α:Type}
section
theorem nk {F:Option PV->PV->Option (Option PV)} {kf:PV->Gj} {vf:PV->PV} (hF: ∀Ok x,F Ok x=(pB Ok (.str (kf x)) (vf x)).map Fv): ∀(xs:List PV) (ks:List Gj) (vs:List PV),ks.length=vs.length->(ks++xs.map kf).Nodup->ks.length+xs.length<=1000->
  xs.foldlM F (Fv (.dictS ks vs))=Fv (Fv (.dictS (ks++xs.map kf) (vs++xs.map vf)))
 |[],ks,vs,_,_,_=>by simp
 |x::xs,ks,vs,h,hn,hl=>by
  haveI hnk:kf x∉ks:=by intro q;have:=Ij.mp hn;exact this.2.2 _ q _ (by rw [Gf];exact FT) rfl
  rw [FY]at hl;haveI e:F (Fv (.dictS ks vs)) x=Fv (Fv (.dictS (ks++[kf x]) (vs++[vf x]))):=by rw [hF];show(giv ((putK (kf x) (vf x) ks vs).1.length<=1000) (PV.dictS (putK (kf x) (vf x) ks vs).1 (putK (kf x) (vf x) ks vs).2)).map Fv=_;rw [q8 h hnk];exact congrArg (Kj Fv) (eE (by rw [FP,H8];exact Gw (Fx (FZ _ _) (HZ hl))))
  rw [Jp,e];show xs.foldlM F (Fv (.dictS (ks++[kf x]) (vs++[vf x])))=_;rw [nk hF xs _ _ (by rw [FP,FP,h];rfl) (by rw [Gf]at hn;simpa using hn) (by rw [FP,H8];exact Fx (FI (Gh _ _ _)) hl)]
  simp
theorem mX {it:PI} {x:PV} (kf:PV->Gj) (vf:PV->PV) (h:pit Γ it ρ=Fv (x::xs)) (hk: ∀y∈x::xs,pev Γ ke ((aB ρ Ov).set i (Fv y))=Fv (.str (kf y))) (hv: ∀y∈x::xs,pev Γ ve ((aB ρ Ov).set i (Fv y))=Fv (vf y))
  (hn:((x::xs).map kf).Nodup) (hl:(x::xs).length<=1000):pev Γ (.dcomp Ov (.one i) it [] ke ve) ρ=Fv (.dictS ((x::xs).map kf) ((x::xs).map vf)):=by
 let F:Option PV->PV->Option (Option PV):=λOk y=>do
   let ρ'<-aT (aB ρ Ov) (.one i) y
   match<-cn Γ [] ρ' with
   |true=>do
    let a<-pev Γ ke ρ';let b<-pev Γ ve ρ'
    (pB Ok a b).map Fv
   |false=>Fv Ok
 haveI hF: ∀Ok y,y∈x::xs->F Ok y=(pB Ok (.str (kf y)) (vf y)).map Fv:=λOk y hy=>by
  show(pev Γ ke ((aB ρ Ov).set i (Fv y))).bind (λa=>(pev Γ ve ((aB ρ Ov).set i (Fv y))).bind λb=>(pB Ok a b).map Fv)=_;rw [hk y hy];show(pev Γ ve ((aB ρ Ov).set i (Fv y))).bind _=_;rw [hv y hy]
  rfl
 let G:Option PV->PV->Option (Option PV):=λOk y=>(pB Ok (.str (kf y)) (vf y)).map Fv;haveI hFG: ∀(l:List PV) (Ok:Option PV),(∀y∈l,y∈x::xs)->l.foldlM F Ok=l.foldlM G Ok:=by
  intro l;induction l with
  |nil=>intro Ok _;rfl
  |cons y l ih=>
   intro Ok hl;rw [Jp,Jp,hF Ok y (hl y FT)];show(G Ok y).bind _=(G Ok y).bind _;cases G Ok y with
   |none=>rfl
   |some o=>exact ih o λz hz=>hl z (FU _ hz)
 show(pit Γ it ρ).bind (λxs=>(xs.foldlM F Fw).bind λd=>d)=_;rw [h];show((x::xs).foldlM F Fw).bind (λd=>d)=_;rw [hFG _ _ λ_ h=>h,Jp];haveI e0:G Fw x=Fv (Fv (.dictS [kf x] [vf x])):=rfl;rw [e0];show(xs.foldlM G (Fv (.dictS [kf x] [vf x]))).bind _=_;rw [nk (λ_ _=>rfl) xs [kf x] [vf x] rfl (by simpa using hn) (by simp at hl ⊢;exact Fx (FM (FH _) hl) (by decide))]
 rfl
theorem uu (hp:Int): ∀(ab:List (Nat×Nat)) (t:Nat),∀l∈lnsFrom hp t ab,∃k a b,k<ab.length/\l=cH (hp+((t+k:Nat):Int)) a b
 |[],_,_,h=>by cases h
 |(a,b)::r,t,l,h=>by
  rw [kT]at h;rcases FS.mp h with rfl|h
  ·exact⟨0,a,b,by simp,rfl⟩
  ·obtain⟨k,a',b',hk,e⟩:=uu hp r (t+1) l h
   exact⟨k+1,a',b',by rw [FY];exact GW hk,by rw [e,show t+1+k=t+(k+1)by lia]⟩
theorem xN {w w':Int} {a b a' b':Nat} (h:(cH w a b).name=(cH w' a' b').name):md w 32=md w' 32:=by haveI h1:=List.append_inj' h rfl;haveI h2:=List.append_inj' h1.1 rfl;exact vB _ (d6 w (by decide)) _ (d6 w' (by decide)) h2.1
theorem DM {hp:Int} (h0:0<k) (h:k<32):md (hp+(t:Nat)) 32≠md (hp+((t+k:Nat):Int)) 32:=by
 have e: ∀w:Int,((md w 32:Nat):Int)=w % 32:=λw=>by
  rw [<-pK w (by decide)]
  exact IF _ (by decide)
 intro q;haveI h1:=e (hp+(t:Nat));haveI h2:=e (hp+((t+k:Nat):Int));rw [q]at h1;lia
theorem jW (hp:Int): ∀(ab:List (Nat×Nat)) (t:Nat),ab.length<=32->((lnsFrom hp t ab).map Ln.name).Nodup
 |[],_,_=>HX
 |(a,b)::r,t,hl=>by
  rw [FY]at hl;rw [kT,Gf];refine H3.mpr ⟨λq=> ?_,jW hp r (t+1) (by exact GF hl)⟩
  obtain⟨l,h1,h2⟩:=Ga.mp q;obtain⟨k,a',b',hk,e⟩:=uu hp r (t+1) l h1;rw [e]at h2;have:=xN h2.symm;rw [show t+1+k=t+(k+1)by exact Gh _ _ _]at this
  exact DM (by exact JT _) (by exact GW (Fx hk (HZ hl))) this
theorem vo {L:List α} (h:L.Nodup) (f:Nat):(L.drop f++L.take f).Nodup:=by
 haveI:(L.take f++L.drop f).Nodup:=by rw [I5];exact h
 exact(List.perm_append_comm.nodup_iff).mp this
end
theorem yH:(iF.all λp=>decide (p.2.cps.size<=5))=FE:=by decide+kernel
variable {β:Type}
theorem n7 [BEq α] [LawfulBEq α] {k:α} {v:β}: ∀{l:List (α×β)},l.lookup k=Fv v->(k,v)∈l
 |[],h=>by cases h
 |(a,b)::l,h=>by
  rw [Hh]at h;by_cases e:(k==a)=FE
  ·rw [e]at h
   cases h;rw [eq_of_beq e];exact FT
  ·simp only [Bool.not_eq_true]at e
   rw [e]at h;exact FU _ (n7 h)
theorem qy (c:Nat):(dE c).length<=5:=by
 unfold dE;cases e:iF.lookup (c:Int)with
 |some s=>
  have:=GD.mp yH _ (n7 e);simpa using this
 |none=>
  have:=len_lower ⟨#[c]⟩;haveI h1:(⟨#[c]⟩:Gj).length=1:=rfl;show(Jr ⟨#[c]⟩).cps.toList.length<=5;rw [Jt];haveI h2:(Jr ⟨#[c]⟩).length=(Jr ⟨#[c]⟩).cps.size:=rfl;lia
variable {P:PV} {p10 OG Po Pr:Option PV} {L:List Ln}
section
theorem qe: ∀xs:List Int,eS (dD 7) (xs.map .int) (xs.map .int)=Fv FE
 |[]=>rfl
 |x::xs=>by rw [Gf,nI];show(dD 7 (.int x) (.int x)).bind _=_;rw [show dD 7 (.int x) (.int x)=Fv (x==x)from rfl];show(eS (dD 7) (xs.map .int) (xs.map .int)).bind _=_;rw [qe xs];simp
theorem mU (xs:List Int):gk .NotEq (.list (xs.map .int)) (.list (xs.map .int))=Fv Fz:=by
 show(if(xs.map PV.int).length=(xs.map PV.int).length then eS (dD 7) (xs.map .int) (xs.map .int)else Fv Fz).map not=_;rw [if_pos rfl,qe]
 rfl
noncomputable def R2 (P N:PV) (hp:Int) (nm du ln:List PV) (p10 OP OO Ox Os OG Po Pr Q2 p19 p20 p21 p22:Option PV):Ρ:=
 [Fv P,Fv N,Fv (.int hp),Fv (ar veilsL),Fv (ar fw),Fv (ar fT),Fv (.list (meantL.map sv)),Fv (.list nm),Fv (.list du),Fv (.list ln),p10,OP,OO,Ox,Os,OG,Po,Pr,Q2,p19,p20,p21,p22,Fw,Fw,Fw,Fw,Fw,Fw]
noncomputable def gi:List (List Nat):=[[10],[13],[13,10]]
noncomputable def eo (hp:Int) (k:Nat):List Nat:=gi.getD (md (hp+(k:Nat)) 3) []
theorem tP (hp:Int) (k:Nat):eo hp k=[10]∨eo hp k=[13]∨eo hp k=[13,10]:=by
 have:=d6 (hp+(k:Nat)) (n:=3) (by decide)
 unfold eo;have h:md (hp+(k:Nat)) 3=0∨md (hp+(k:Nat)) 3=1∨md (hp+(k:Nat)) 3=2:=by exact Fh this
 rcases h with h|h|h<;>rw [h]
 ·exact .inl rfl
 ·exact .inr (.inl rfl)
 ·exact .inr (.inr rfl)
noncomputable def bT (hp:Int) (ord:List Ln):List (List Nat):=(GL 0 ord.length).map λk=>((ord.map Ln.raw).getD k [])++eo hp k
theorem vz (hp:Int) (ord:List Ln):(bT hp ord).flatten=em ((ord.map Ln.raw).zip ((GL 0 ord.length).map (eo hp))):=by
 haveI:bT hp ord=((ord.map Ln.raw).zip ((GL 0 ord.length).map (eo hp))).map λp=>p.1++p.2:=by
  apply List.ext_getElem
  ·simp [bT]
  ·intro i h1 h2
   haveI hi:i<ord.length:=by simpa [bT]using h1
   simp [bT,IY,hi]
 rw [this,em,List.flatMap_def]
structure Way (Γ:Gam):Prop where
 h9: ∀x:List Nat,x.length<=20000->Γ.fn 9 [sv x]=Fv (sv (dd FE (nl Fz x)))
 h10: ∀c:Nat,Γ.fn 10 [sv [c]]=Fv (.bool (d4 c))
 h11: ∀c:Nat,Γ.fn 11 [sv [c]]=Fv (sv (dE c))
section
variable {hp:Int}
theorem a15 (h0:0<L.length) (h1:L.length<=32):ak Γ (.set 15 3 (.bin .Mod (.var 2) (.bi .len [(.var 9)]))) (mR P N hp nm du (L.map λl=>sv l.raw) p10 OP OO Ox Os) ow5=
  Fv (.next (R2 P N hp nm du (L.map λl=>sv l.raw) p10 OP OO Ox Os (Fv (.int (md hp L.length:Nat))) Fw Fw Fw Fw Fw Fw Fw) []):=by
 refine bO (v:= .int (md hp L.length:Nat)) ?_ rfl;haveI hl:pev Γ (.bi .len [(.var 9)]) (dG 3 (mR P N hp nm du (L.map λl=>sv l.raw) p10 OP OO Ox Os) ow5)=Fv (.int (L.length:Nat)):=by refine bF (v:= .list (L.map λl=>sv l.raw)) rfl ?_;rw [bv (by rw [FD];exact FF h1 (by decide)),FD]
 refine ae (a:= .int hp) rfl hl ?_;rw [<-pK hp h0];exact iG (by lia)
noncomputable def rj (hp:Int) (L:List Ln):List Ln:=L.drop (md hp L.length)++L.take (md hp L.length)
theorem zE (hp:Int) (L:List Ln):(rj hp L).length=L.length:=by simp [rj];exact Fm
theorem a16 (h0:0<L.length) (h1:L.length<=32):ak Γ (.set 16 0 (.bin .Add (.slice (.var 9) (.var 15) .cN .cN) (.slice (.var 9) .cN (.var 15) .cN))) (R2 P N hp nm du (L.map λl=>sv l.raw) p10 OP OO Ox Os (Fv (.int (md hp L.length:Nat))) Fw Fw Fw Fw Fw Fw Fw) []=
  Fv (.next (R2 P N hp nm du (L.map λl=>sv l.raw) p10 OP OO Ox Os (Fv (.int (md hp L.length:Nat))) (Fv (.list ((rj hp L).map λl=>sv l.raw))) Fw Fw Fw Fw Fw Fw) []):=by
 haveI hz:F_=2^24:=rfl;have hm:=d6 hp h0;refine aj (v:= .list ((rj hp L).map λl=>sv l.raw)) ?_;haveI e:(rj hp L).map (λl=>sv l.raw)=(L.map λl=>sv l.raw).drop (md hp L.length)++(L.map λl=>sv l.raw).take (md hp L.length):=by unfold rj;rw [Gv,LD,KF]
 rw [e];refine ae (a:= .list ((L.map λl=>sv l.raw).drop (md hp L.length))) (b:= .list ((L.map λl=>sv l.raw).take (md hp L.length))) ?_ ?_ (fK (by simp;exact Fx (FM (Fx (Lb _ _) h1) (Fx (Kd _ _) (Fx (Gm hm) h1))) (by decide)))
 ·show aR (.list (L.map λl=>sv l.raw)) (.int (md hp L.length:Nat)) .none .none=_
  rw [eW (lo:=Fv ((md hp L.length:Nat):Int)) (hi:=Fw) rfl rfl (by rw [FD];exact Fx h1 (by decide)),rK _ (by rw [FD];exact Gm hm)]
 ·show aR (.list (L.map λl=>sv l.raw)) .none (.int (md hp L.length:Nat)) .none=_
  rw [eW (lo:=Fw) (hi:=Fv ((md hp L.length:Nat):Int)) rfl rfl (by rw [FD];exact Fx h1 (by decide)),rJ _ (by rw [FD];exact Gm hm)]
noncomputable def nz (hp:Int):Bool:=md hp 2==1
theorem eO (hp:Int):(md hp 2=0/\nz hp=Fz)∨(md hp 2=1/\nz hp=FE):=by
 have:=d6 hp (n:=2) (by decide)
 have h:md hp 2=0∨md hp 2=1:=by exact Fi this
 rcases h with h|h
 ·exact .inl ⟨h,by unfold nz;rw [h];rfl⟩
 ·exact .inr ⟨h,by unfold nz;rw [h];rfl⟩
noncomputable def dm (hp:Int):List Nat:=[13,13,10,46]++if nz hp=FE then [10]else []
theorem a17:ak Γ (.set 17 0 (.list [(.cS ⟨#[10]⟩),(.cS ⟨#[13]⟩),(.cS ⟨#[13,10]⟩)])) (R2 P N hp nm du ln p10 OP OO Ox Os OG Po Fw Fw Fw Fw Fw Fw) []=Fv (.next (R2 P N hp nm du ln p10 OP OO Ox Os OG Po (Fv (.list (gi.map sv))) Fw Fw Fw Fw Fw) []):=aj (v:= .list (gi.map sv)) rfl
theorem a18:ak Γ (.set 18 0 (.bin .Add (.cS ⟨#[13,13,10,46]⟩) (.idx (.list [(.cS ⟨#[]⟩),(.cS ⟨#[10]⟩)]) (.bin .Mod (.var 2) (.cI 2))))) (R2 P N hp nm du ln p10 OP OO Ox Os OG Po Pr Fw Fw Fw Fw Fw) []=Fv (.next (R2 P N hp nm du ln p10 OP OO Ox Os OG Po Pr (Fv (sv (dm hp))) Fw Fw Fw Fw) []):=by
 refine aj ?_;haveI e:dm hp=[13,13,10,46]++([[],[10]]:List (List Nat)).getD (md hp 2) []:=by unfold dm;rcases eO hp with⟨h,h2⟩|⟨h,h2⟩<;>rw [h,h2]<;>rfl
 rw [e];refine eB (x:=[13,13,10,46]) rfl (bn (a:= .list (([[],[10]]:List (List Nat)).map sv)) rfl (eT (n:=2) (a:= .var 2) (Om:=hp) rfl (by decide)) (iW (d6 hp (by decide)) (by decide))) ?_
 rcases eO hp with⟨h,h2⟩|⟨h,h2⟩<;>rw [h]<;>decide
theorem a19 (W:Way Γ) (h1:L.length<=32) (hB: ∀l∈L,l.raw.length<=200):
  ak Γ (.set 19 0 (.call 9 [(.bin .Add (.meth .join (.cS ⟨#[]⟩) [(.comp1 [23,25] (.one 25) (.ex (.rng [(.bi .len [(.var 16)])])) [] (.bin .Add (.idx (.var 16) (.var 25)) (.idx (.var 17) (.bin .Mod (.bin .Add (.var 2) (.var 25)) (.cI 3)))))]) (.var 18))]))
   (R2 P N hp nm du ln p10 OP OO Ox Os OG (Fv (.list (L.map λl=>sv l.raw))) (Fv (.list (gi.map sv))) (Fv (sv (dm hp))) Fw Fw Fw Fw) []=
  Fv (.next (R2 P N hp nm du ln p10 OP OO Ox Os OG (Fv (.list (L.map λl=>sv l.raw))) (Fv (.list (gi.map sv))) (Fv (sv (dm hp))) (Fv (sv (dd FE (nl Fz ((bT hp L).flatten++dm hp))))) Fw Fw Fw) []):=by
 haveI hz:F_=2^24:=rfl;let ρ:=R2 P N hp nm du ln p10 OP OO Ox Os OG (Fv (.list (L.map λl=>sv l.raw))) (Fv (.list (gi.map sv))) (Fv (sv (dm hp))) Fw Fw Fw Fw;have Oj:(bT hp L).flatten.length<=10000:=by
  haveI: ∀ls:List (List Nat),(∀l∈ls,l.length<=202)->ls.flatten.length<=ls.length*202:=by
   intro ls;induction ls with
   |nil=>intro _;simp
   |cons l ls ih=>
    intro h;have:=ih λx hx=>h x (FU _ hx);have:=h l FT;rw [IN,FP,show(l::ls).length=ls.length+1 from rfl,JU];lia
  have h2:=this (bT hp L) λl hl=>by
   obtain⟨k,hk,rfl⟩:=Ga.mp hl;have hk:k<L.length:=by simpa using hk
   have e1:(L.map Ln.raw).getD k []=L[k].raw:=by simp [IY,hk]
   have:=hB L[k] (I9 hk);haveI:(eo hp k).length<=2:=by rcases tP hp k with h|h|h<;>rw [h]<;>decide
   rw [e1,FP];lia
  haveI h3:(bT hp L).length=L.length:=by simp [bT]
  rw [h3]at h2;haveI:L.length*202<=32*202:=H2 _ h1;exact Fx (Fx h2 this) (by decide)
 have ht:(dm hp).length<=5:=by unfold dm;rcases eO hp with⟨h,h2⟩|⟨h,h2⟩<;>rw [h2]<;>decide
 haveI RX:pit Γ (.ex (.rng [(.bi .len [(.var 16)])])) ρ=Fv ((GL 0 L.length).map λi=>PV.int (i:Nat)):=by
  have Oj:pev Γ (.bi .len [(.var 16)]) ρ=Fv (.int (L.length:Nat)):=by refine bF (v:= .list (L.map λl=>sv l.raw)) rfl ?_;rw [bv (by rw [FD];exact FF h1 (by decide)),FD]
  show((dz Γ [_] ρ).bind gU).bind cV=_;rw [aa Oj rfl];show bG 0 (L.length:Nat)=_;unfold bG;rw [if_pos (by exact tT (by decide) (Fx h1 (by decide))),LY,GC]
  have:=eX L.length 0;rw [show((0:Nat):Int)=0 from rfl]at this;rw [this]
 haveI hc:pev Γ (.comp1 [23,25] (.one 25) (.ex (.rng [(.bi .len [(.var 16)])])) [] (.bin .Add (.idx (.var 16) (.var 25)) (.idx (.var 17) (.bin .Mod (.bin .Add (.var 2) (.var 25)) (.cI 3))))) ρ=Fv (.list (dB (bT hp L))):=by
  rw [dI (λx=>match x with| .int i=>sv ((L.map Ln.raw).getD i.toNat []++eo hp i.toNat)|_=> .none) RX (λx hx=> ?_) (by rw [FD,H6];exact Fx h1 (by decide))]
  ·congr 2
   unfold dB bT;rw [Gl,Gl]
   rfl
  ·obtain⟨k,hk,rfl⟩:=Ga.mp hx
   have hk:k<L.length:=by simpa using hk
   have e1:(L.map Ln.raw).getD k []=L[k].raw:=by simp [IY,hk]
   haveI hb:=hB L[k] (I9 hk);haveI hi:c_ (.list (L.map λl=>sv l.raw)) (.int k)=Fv (sv ((L.map Ln.raw).getD k [])):=by rw [e1];exact dR (by rw [Gp,Ge hk];rfl) (by rw [FD];exact Fx h1 (by decide))
   refine eB (bn (a:= .list (L.map λl=>sv l.raw)) (b:= .int k) rfl rfl hi) (bn (a:= .list (gi.map sv)) rfl (eT (n:=3) (Om:=hp+(k:Nat)) (ae (a:= .int hp) (b:= .int k) rfl rfl rfl) (by decide)) (iW (d6 _ (by decide)) (by decide))) ?_
   haveI:(gi.getD (md (hp+(k:Nat)) 3) []).length<=2:=by show(eo hp k).length<=2;rcases tP hp k with h|h|h<;>rw [h]<;>decide
   show((L.map Ln.raw).getD k []).length+(eo hp k).length<=1000000;rw [e1];unfold eo;exact Fx (FM hb this) (by decide)
 refine aj (aw (vs:=[sv ((bT hp L).flatten++dm hp)]) (aa (eB (x:=(bT hp L).flatten) ?_ (y:=dm hp) rfl (by exact Fx (FM Oj ht) (by decide))) rfl) (W.h9 _ (by rw [FP];exact Fx (FM Oj ht) (by decide))))
 show((pev Γ (.comp1 [23,25] (.one 25) (.ex (.rng [(.bi .len [(.var 16)])])) [] (.bin .Add (.idx (.var 16) (.var 25)) (.idx (.var 17) (.bin .Mod (.bin .Add (.var 2) (.var 25)) (.cI 3))))) ρ).bind λv=>Fv [v]).bind (λvs=>pme .join (.str ⟨#[]⟩) vs)=_;rw [hc];exact dW (by exact Fx Oj (by decide))
end
end
variable {Q2 p19 p20:Option PV} {ls:List (List Nat)}
section
variable {hp:Int}
noncomputable def vY:PV->Nat
 | .str y=>y.cps.getD 0 0
 |_=>0
noncomputable def sgs (T:List Nat):List PV:=T.map λc=>sv [c]
theorem lP (q:Nat->Bool): ∀T:List Nat,((sgs T).filter λx=>q (vY x)).map (λx=>x)=sgs (T.filter q)
 |[]=>rfl
 |c::T=>by
  have ih:=lP q T;have e:q (vY (sv [c]))=q c:=rfl;show(((sv [c])::sgs T).filter λx=>q (vY x)).map (λx=>x)=_;by_cases h:q c=FE
  ·rw [Ik (by rw [e];exact h),Ik h,Gf,ih];rfl
  ·rw [Il (by rw [e];exact h),Il h,ih]
theorem a20 (W:Way Γ) {T:List Nat} (hT:T.length<=100000):ak Γ (.set 20 0 (.comp1 [23,26] (.one 26) (.ex (.var 19)) [(.cmp .Is (.call 10 [(.var 26)]) (.cB Fz))] (.var 26))) (R2 P N hp nm du ln p10 OP OO Ox Os OG Po Pr Q2 (Fv (sv T)) Fw Fw Fw) []=
  Fv (.next (R2 P N hp nm du ln p10 OP OO Ox Os OG Po Pr Q2 (Fv (sv T)) (Fv (.list (sgs (T.filter λc=> !d4 c)))) Fw Fw) []):=by
 refine aj (v:= .list (sgs (T.filter λc=> !d4 c))) ?_;have hx:pit Γ (.ex (.var 19)) (R2 P N hp nm du ln p10 OP OO Ox Os OG Po Pr Q2 (Fv (sv T)) Fw Fw Fw)=Fv (sgs T):=by show Fv ((gu ⟨T.toArray⟩).map PV.str)=_;unfold gu sgs;simp
 rw [dw (λx=> !d4 (vY x)) (λx=>x) hx (λx hx=> ?_) (λx hx _=>rfl) (by unfold sgs;rw [FD];exact Fx hT (by decide))]
 ·exact congrArg (λl=>Fv (PV.list l)) (lP (λc=> !d4 c) T)
 ·obtain⟨c,hc,rfl⟩:=Ga.mp hx
  show((Γ.fn 10 [sv [c]]).bind λa=>(gk .Is a (.bool Fz)).map PV.bool)=_;rw [W.h10 c];show Fv (PV.bool (d4 c==Fz))=Fv (PV.bool (!d4 c));cases d4 c<;>rfl
noncomputable def gh (c:Nat):List Nat:=if c=46∨c=13∨c=10 then [c]else dE c
theorem y5 (c:Nat):pin (sv [c]) (.str ⟨#[46,13,10]⟩)=Fv (decide (c=46∨c=13∨c=10)):=by have:=LN ⟨#[46,13,10]⟩ c;show Fv (!(Ia ⟨#[46,13,10]⟩ ⟨#[c]⟩ 0 (⟨#[46,13,10]⟩:Gj).length 1).isEmpty)=_;rw [this];simp
theorem a21 (W:Way Γ) {S:List Nat} {last:List Nat} (hT:S.flatMap gh=bK ls++last) (hS:S.length<=100000) (Vj:ls.length<=1000) (hl: ∀l∈ls,13∉l) (h13:13∉last):
  ak Γ (.set 21 0 (.meth .split (.meth .join (.cS ⟨#[]⟩) [(.comp1 [23,26] (.one 26) (.ex (.var 20)) [] (.ife (.cmp .In (.var 26) (.cS ⟨#[46,13,10]⟩)) (.var 26) (.call 11 [(.var 26)])))]) [(.cS ⟨#[13,10]⟩)])) (R2 P N hp nm du ln p10 OP OO Ox Os OG Po Pr Q2 p19 (Fv (.list (sgs S))) Fw Fw) []=
  Fv (.next (R2 P N hp nm du ln p10 OP OO Ox Os OG Po Pr Q2 p19 (Fv (.list (sgs S))) (Fv (.list ((ls++[last]).map sv))) Fw) []):=by
 haveI hz:F_=2^24:=rfl;let ρ:=R2 P N hp nm du ln p10 OP OO Ox Os OG Po Pr Q2 p19 (Fv (.list (sgs S))) Fw Fw;have hc:pev Γ (.comp1 [23,26] (.one 26) (.ex (.var 20)) [] (.ife (.cmp .In (.var 26) (.cS ⟨#[46,13,10]⟩)) (.var 26) (.call 11 [(.var 26)]))) ρ=Fv (.list (dB (S.map gh))):=by
  rw [dI (xs:=sgs S) (λx=>sv (gh (vY x))) rfl (λx hx=> ?_) (by unfold sgs;rw [FD];exact Fx hS (by decide))]
  ·congr 2
   unfold dB sgs;rw [Gl,Gl]
   rfl
  ·obtain⟨c,hc,rfl⟩:=Ga.mp hx
   haveI ht:bt Γ (.cmp .In (.var 26) (.cS ⟨#[46,13,10]⟩)) ((aB ρ [23,26]).set 26 (Fv (sv [c])))=Fv (decide (c=46∨c=13∨c=10)):=c8 (a:=sv [c]) (b:= .str ⟨#[46,13,10]⟩) rfl rfl (y5 c);refine gR ht ?_;show _=Fv (sv (gh c));unfold gh;by_cases h:c=46∨c=13∨c=10
   ·rw [if_pos (by simpa using h),if_pos h];rfl
   ·rw [if_neg (by simpa using h),if_neg h]
    exact aw (vs:=[sv [c]]) (aa rfl rfl) (W.h11 c)
 have Qn:(S.map gh).flatten=bK ls++last:=by rw [<-hT,List.flatMap_def]
 have T5:(S.map gh).flatten.length<=5*S.length:=by
  haveI: ∀c,(gh c).length<=5:=λc=>by
   unfold gh;split
   ·simp
   ·exact qy c
  haveI: ∀S:List Nat,(S.map gh).flatten.length<=5*S.length:=by
   intro S;induction S with
   |nil=>simp
   |cons c S ih=>
    have:=this c;rw [Gf,IN,FP,FY];lia
  exact this S
 haveI hj:pev Γ (.meth .join (.cS ⟨#[]⟩) [(.comp1 [23,26] (.one 26) (.ex (.var 20)) [] (.ife (.cmp .In (.var 26) (.cS ⟨#[46,13,10]⟩)) (.var 26) (.call 11 [(.var 26)])))]) ρ=Fv (sv (bK ls++last)):=by show((pev Γ (.comp1 [23,26] (.one 26) (.ex (.var 20)) [] (.ife (.cmp .In (.var 26) (.cS ⟨#[46,13,10]⟩)) (.var 26) (.call 11 [(.var 26)]))) ρ).bind λv=>Fv [v]).bind (λvs=>pme .join (.str ⟨#[]⟩) vs)=_;rw [hc];show pme .join (.str ⟨#[]⟩) [.list (dB (S.map gh))]=_;rw [dW (by exact Fx (Fx T5 (GZ (FH _) hS)) (by decide)),Qn]
 refine aj (v:= .list ((ls++[last]).map sv)) ?_;show(pev Γ (.meth .join (.cS ⟨#[]⟩) [(.comp1 [23,26] (.one 26) (.ex (.var 20)) [] (.ife (.cmp .In (.var 26) (.cS ⟨#[46,13,10]⟩)) (.var 26) (.call 11 [(.var 26)])))]) ρ).bind (λa=>pme .split a [.str ⟨#[13,10]⟩])=_;rw [hj];have hs:=sx (ls:=ls) (last:=last) hl h13;show(if((⟨#[13,10]⟩:Gj).length==0)=Fz/\(tx (bK ls++last)).length<=F_/\(L_ (tx (bK ls++last)) (Ia (tx (bK ls++last)) ⟨#[13,10]⟩ 0 (tx (bK ls++last)).length ((tx (bK ls++last)).length+1)) 2).length<=F_ then Fv (PV.list ((Txt.split (tx (bK ls++last)) ⟨#[13,10]⟩).map .str))else Fw)=_;rw [hs.1,hs.2,if_pos ⟨by decide,by rw [Qn]at T5;show(bK ls++last).toArray.size<=_;rw [Gn];exact Fx (Fx T5 (GZ (FH _) hS)) (by decide),by rw [FD,FP,H8];exact Gw (Fx Vj (by decide))⟩,Gl]
 rfl
noncomputable def r9:PV->Gj
 | .str y=>IM y ⟨#[46]⟩
 |_=>⟨#[]⟩
noncomputable def B3:PV->PV
 | .str y=> .int ((y.length:Int)-(IM y ⟨#[46]⟩).length)
 |_=> .none
theorem kq {l:Ln} (h:ii d4 dE l):r9 (sv l.out)=tx l.name/\B3 (sv l.out)= .int (l.D:Nat):=by
 haveI hm: ∀c∈l.name.head?,c≠46:=λc hc=>(h.nameok c (List.mem_of_mem_head? hc)).2.2;have e:=qX l.D hm;have e:IM ⟨l.out.toArray⟩ ⟨#[46]⟩=tx l.name:=e;refine⟨e, ?_⟩;show PV.int (((⟨l.out.toArray⟩:Gj).length:Int)-(IM ⟨l.out.toArray⟩ ⟨#[46]⟩).length)=_;rw [e]
 congr 1
 haveI h1:(⟨l.out.toArray⟩:Gj).length=l.D+l.name.length:=by simp [IB,Ln.out]
 haveI h2:(tx l.name).length=l.name.length:=by simp [IB,tx]
 rw [h1,h2];lia
theorem a22 {rest:List (List Nat)} (hr:rest.length<=1000) (SP:ln.length=L.length) (h0:0<L.length) (h1:L.length<=32) (OX: ∀l∈L,ii d4 dE l) (hB: ∀l∈L,l.out.length<=300) (hn:(L.map Ln.name).Nodup):
  ak Γ (.set 22 0 (.dcomp [23,27] (.one 27) (.ex (.slice (.var 21) .cN (.bi .len [(.var 9)]) .cN)) [] (.meth .lstrip (.var 27) [(.cS ⟨#[46]⟩)]) (.bin .Sub (.bi .len [(.var 27)]) (.bi .len [(.meth .lstrip (.var 27) [(.cS ⟨#[46]⟩)])])))) (R2 P N hp nm du ln p10 OP OO Ox Os OG Po Pr Q2 p19 p20 (Fv (.list ((L.map Ln.out++rest).map sv))) Fw) []=
  Fv (.next (R2 P N hp nm du ln p10 OP OO Ox Os OG Po Pr Q2 p19 p20 (Fv (.list ((L.map Ln.out++rest).map sv))) (Fv (.dictS (L.map λl=>tx l.name) (L.map λl=> .int (l.D:Nat))))) []):=by
 have hz:F_=2^24:=rfl;let ρ:=R2 P N hp nm du ln p10 OP OO Ox Os OG Po Pr Q2 p19 p20 (Fv (.list ((L.map Ln.out++rest).map sv))) Fw;refine aj ?_;have Oj:pev Γ (.bi .len [(.var 9)]) ρ=Fv (.int (L.length:Nat)):=by refine bF (v:= .list ln) rfl ?_;rw [bv (by exact FF (FI SP) (FF h1 (by decide))),SP]
 have R4:pev Γ (.slice (.var 21) .cN (.bi .len [(.var 9)]) .cN) ρ=Fv (.list (L.map λl=>sv l.out)):=by
  show((pev Γ (.bi .len [(.var 9)]) ρ).bind λh=>aR (.list ((L.map Ln.out++rest).map sv)) .none h .none)=_;rw [Oj];show aR (.list ((L.map Ln.out++rest).map sv)) .none (.int (L.length:Nat)) .none=_;rw [eW (lo:=Fw) (hi:=Fv ((L.length:Nat):Int)) rfl rfl (by simp;exact Fx (FM h1 hr) (by decide)),rJ _ (by simp)]
  congr 2
  rw [Gv,J1 (by simp),H1 (by simp),Gl]
  rfl
 have Ou:pit Γ (.ex (.slice (.var 21) .cN (.bi .len [(.var 9)]) .cN)) ρ=Fv (L.map λl=>sv l.out):=by show(pev Γ (.slice (.var 21) .cN (.bi .len [(.var 9)]) .cN) ρ).bind cV=_;rw [R4];rfl
 obtain⟨l,ls,rfl⟩: ∃l ls,L=l::ls:=by
  cases L with
  |nil=>exact absurd h0 (by decide)
  |cons l ls=>exact⟨l,ls,rfl⟩
 have Rq: ∀y∈(l::ls).map (λl=>sv l.out),pev Γ (.meth .lstrip (.var 27) [(.cS ⟨#[46]⟩)]) ((aB ρ [23,27]).set 27 (Fv y))=Fv (.str (r9 y))/\ ∃x∈l::ls,y=sv x.out:=λy hy=>by
  obtain⟨x,hx,rfl⟩:=Ga.mp hy;have:=hB x hx;refine⟨?_,x,hx,rfl⟩;show(if(⟨x.out.toArray⟩:Gj).length<=F_ then Fv (PV.str (IM ⟨x.out.toArray⟩ ⟨#[46]⟩))else Fw)=_;rw [if_pos (by show x.out.toArray.size<=_;rw [Gn];exact Fx this (by decide))]
  rfl
 have key:=mX (Ov:=[23,27]) (i:=27) (ke:= .meth .lstrip (.var 27) [(.cS ⟨#[46]⟩)]) (ve:= .bin .Sub (.bi .len [(.var 27)]) (.bi .len [(.meth .lstrip (.var 27) [(.cS ⟨#[46]⟩)])])) r9 B3 Ou (λy hy=>(Rq y hy).1) (λy hy=>by
  obtain⟨e,x,hx,rfl⟩:=Rq y hy;have:=hB x hx;have hk:=(kq (OX x hx)).1;refine ae (a:= .int ((⟨x.out.toArray⟩:Gj).length:Nat)) (b:= .int ((r9 (sv x.out)).length:Nat)) (bF (v:=sv x.out) rfl (gD (by show x.out.toArray.size<_;rw [Gn];exact FF this (by decide)))) (bF e (gD ?_)) rfl
  rw [hk];have:x.name.length<=x.out.length:=by unfold Ln.out;rw [FP];exact H5 _ _
  show x.name.toArray.size<_;rw [Gn];lia) ?_ (by simp only [FY,FD]at h1 ⊢;exact Fx h1 (by decide))
 ·refine key.trans ?_
  congr 2
  ·show((l::ls).map λl=>sv l.out).map r9=_
   rw [Gl];exact H_ λx hx=>(kq (OX x hx)).1
  ·show((l::ls).map λl=>sv l.out).map B3=_
   rw [Gl];exact H_ λx hx=>(kq (OX x hx)).2
 ·have e:((l::ls).map λl=>sv l.out).map r9=((l::ls).map Ln.name).map tx:=by rw [Gl,Gl];exact H_ λx hx=>(kq (OX x hx)).1
  show(((l::ls).map λl=>sv l.out).map r9).Nodup;rw [e];exact Lf _ (λa b h q=>h (kY q)) hn
end
section
variable {hp:Int}
theorem xb (hn:(L.map Ln.name).Nodup):(L.map λl=>tx l.name).Nodup:=by
 haveI e:(L.map λl=>tx l.name)=(L.map Ln.name).map tx:=by rw [Gl];rfl
 rw [e];exact Lf _ (λa b h q=>h (kY q)) hn
theorem qm (hn:(L.map Ln.name).Nodup) {l:Ln} (hl:l∈L):ri (tx l.name) (L.map λl=>tx l.name) (L.map λl=> .int (l.D:Nat))=Fv (.int (l.D:Nat))/\(L.map λl=>tx l.name).contains (tx l.name)=FE:=by
 refine⟨?_, ?_⟩
 ·obtain⟨i,hi,e⟩:=LA hl
  refine zy (i:=i) (xb hn) ?_ ?_
  ·rw [Gp,Ge hi,e];rfl
  ·rw [Gp,Ge hi,e];rfl
 ·rw [I7]
  exact Ga.mpr ⟨l,hl,rfl⟩
noncomputable def fe (hp:Int):List (List Nat):=if nz hp=FE then [[],[],[46,46],[]]else [[],[],[46,46]]
theorem jz (h1:pev Γ a ρ=Fv (.bool Fz)) (h2:pev Γ b ρ=Fv (.bool Fz)):bt Γ (.boolop Fz [a,b]) ρ=Fv Fz:=by
 show((ig Γ Fz [a,b] ρ).map PV.bool).bind ez=_;haveI:ig Γ Fz [a,b] ρ=Fv Fz:=by
  show(pev Γ a ρ).bind (λv=>(ez v).bind λt=>if t=Fz then ig Γ Fz [b] ρ else Fv t)=_;rw [h1];show(pev Γ b ρ).bind (λv=>(ez v).bind λt=>if t=Fz then ig Γ Fz [] ρ else Fv t)=_;rw [h2]
  rfl
 rw [this];rfl
theorem dc {op:NC} {l r:PE} {a b:PV} {t:Bool} (hl:pev Γ l ρ=Fv a) (hr:pev Γ r ρ=Fv b) (h:gk op a b=Fv t):pev Γ (.cmp op l r) ρ=Fv (.bool t):=by show(pev Γ l ρ).bind (λa=>(pev Γ r ρ).bind λb=>(gk op a b).map PV.bool)=_;rw [hl];show((pev Γ r ρ).bind λb=>(gk op a b).map PV.bool)=_;rw [hr];show(gk op a b).map PV.bool=_;rw [h];rfl
theorem a23 {O:List Ln} (hOL: ∀l∈L,l∈O) (Oj:O.length=L.length) (SP:ln.length=L.length) (h1:L.length<=32) (hn:(O.map Ln.name).Nodup):
  ag Γ [.ite (.boolop Fz [(.cmp .NotEq (.slice (.var 21) (.bi .len [(.var 9)]) .cN .cN) (.bin .Add (.list [(.cS ⟨#[]⟩),(.cS ⟨#[]⟩),(.cS ⟨#[46,46]⟩)]) (.bin .Mult (.list [(.cS ⟨#[]⟩)]) (.bin .Mod (.var 2) (.cI 2))))),(.cmp .NotEq (.comp1 [23,28] (.one 28) (.ex (.var 7)) [(.cmp .In (.var 28) (.var 22))] (.idx (.var 22) (.var 28))) (.var 8))]) [.ret (.list [])] [],.ret (.comp1 [23,28] (.one 28) (.ex (.var 7)) [] (.bin .Sub (.idx (.var 22) (.var 28)) (.cI 1)))]
   (R2 P N hp (L.map λl=>sv l.name) (L.map λl=> .int (l.D:Nat)) ln p10 OP OO Ox Os OG Po Pr Q2 p19 p20 (Fv (.list ((O.map Ln.out++fe hp).map sv))) (Fv (.dictS (O.map λl=>tx l.name) (O.map λl=> .int (l.D:Nat))))) []=
  Fv (.ret (.list (L.map λl=> .int ((l.D:Nat)-1)))):=by
 haveI hz:F_=2^24:=rfl;let ρ:=R2 P N hp (L.map λl=>sv l.name) (L.map λl=> .int (l.D:Nat)) ln p10 OP OO Ox Os OG Po Pr Q2 p19 p20 (Fv (.list ((O.map Ln.out++fe hp).map sv))) (Fv (.dictS (O.map λl=>tx l.name) (O.map λl=> .int (l.D:Nat))));haveI RV:(fe hp).length<=4:=by unfold fe;split<;>decide
 haveI UB:pev Γ (.bi .len [(.var 9)]) ρ=Fv (.int (O.length:Nat)):=by refine bF (v:= .list ln) rfl ?_;rw [bv (by exact FF (FI SP) (FF h1 (by decide))),SP,Oj]
 haveI R4:pev Γ (.slice (.var 21) (.bi .len [(.var 9)]) .cN .cN) ρ=Fv (.list ((fe hp).map sv)):=by
  show((pev Γ (.bi .len [(.var 9)]) ρ).bind λh=>aR (.list ((O.map Ln.out++fe hp).map sv)) h .none .none)=_;rw [UB];show aR (.list ((O.map Ln.out++fe hp).map sv)) (.int (O.length:Nat)) .none .none=_;rw [eW (lo:=Fv ((O.length:Nat):Int)) (hi:=Fw) rfl rfl (by simp;exact Fx (FM (Fx (FI Oj) h1) RV) (by decide)),rK _ (by simp)]
  congr 2
  rw [Gv,Me (by simp),Hl (by simp),Hb]
 haveI hrh:pev Γ (.bin .Add (.list [(.cS ⟨#[]⟩),(.cS ⟨#[]⟩),(.cS ⟨#[46,46]⟩)]) (.bin .Mult (.list [(.cS ⟨#[]⟩)]) (.bin .Mod (.var 2) (.cI 2)))) ρ=Fv (.list ((fe hp).map sv)):=by
  have hm:=eT (Γ:=Γ) (n:=2) (a:= .var 2) (ρ:=ρ) (Om:=hp) rfl (by decide)
  unfold fe;rcases eO hp with⟨h,h2⟩|⟨h,h2⟩
  ·rw [h]at hm
   rw [h2];exact ae rfl (ae rfl hm (c:= .list []) rfl) rfl
  ·rw [h]at hm
   rw [h2];exact ae rfl (ae rfl hm (c:= .list [sv []]) rfl) rfl
 haveI c1:pev Γ (.cmp .NotEq (.slice (.var 21) (.bi .len [(.var 9)]) .cN .cN) (.bin .Add (.list [(.cS ⟨#[]⟩),(.cS ⟨#[]⟩),(.cS ⟨#[46,46]⟩)]) (.bin .Mult (.list [(.cS ⟨#[]⟩)]) (.bin .Mod (.var 2) (.cI 2))))) ρ=Fv (.bool Fz):=by refine dc R4 hrh ?_;unfold fe;rcases eO hp with⟨h,h2⟩|⟨h,h2⟩<;>rw [h2]<;>rfl
 have nms:pit Γ (.ex (.var 7)) ρ=Fv (L.map λl=>sv l.name):=rfl;have lk: ∀l∈L,c_ (.dictS (O.map λl=>tx l.name) (O.map λl=> .int (l.D:Nat))) (sv l.name)=Fv (.int (l.D:Nat)):=λl hl=>(qm hn (hOL l hl)).1;let vf:PV->PV:=λx=>(c_ (.dictS (O.map λl=>tx l.name) (O.map λl=> .int (l.D:Nat))) x).getD .none;have V1: ∀l∈L,vf (sv l.name)= .int (l.D:Nat):=λl hl=>by show(c_ _ (sv l.name)).getD .none=_;rw [lk l hl];rfl
 haveI c2:pev Γ (.cmp .NotEq (.comp1 [23,28] (.one 28) (.ex (.var 7)) [(.cmp .In (.var 28) (.var 22))] (.idx (.var 22) (.var 28))) (.var 8)) ρ=Fv (.bool Fz):=by
  have hc:=dw (Γ:=Γ) (Ov:=[23,28]) (i:=28) (c:= .cmp .In (.var 28) (.var 22)) (OI:= .idx (.var 22) (.var 28)) (λ_=>FE) vf nms (λx hx=>by
   obtain⟨l,hl,rfl⟩:=Ga.mp hx;refine dc (a:=sv l.name) (b:= .dictS (O.map λl=>tx l.name) (O.map λl=> .int (l.D:Nat))) rfl rfl ?_;show Fv ((O.map λl=>tx l.name).contains (tx l.name))=_;rw [(qm hn (hOL l hl)).2]) (λx hx _=>by
   obtain⟨l,hl,rfl⟩:=Ga.mp hx;refine bn (a:= .dictS (O.map λl=>tx l.name) (O.map λl=> .int (l.D:Nat))) (b:=sv l.name) rfl rfl ?_;rw [lk l hl,V1 l hl]) (by rw [FD];exact Fx h1 (by decide))
  rw [NR.mpr (λ_ _=>rfl)]at hc;haveI e:(L.map λl=>sv l.name).map vf=(L.map λl=>(l.D:Int)).map PV.int:=by rw [Gl,Gl];exact H_ λl hl=>V1 l hl
  rw [e]at hc;refine dc hc (b:= .list ((L.map λl=>(l.D:Int)).map PV.int)) ?_ (mU _);rw [Gl]
  rfl
 refine(a7 (am (t:=Fz) (jz c1 c2) rfl)).trans ?_;refine ao (aH ?_);rw [dI (λx=>match vf x with| .int i=> .int (i-1)|_=> .none) nms (λx hx=> ?_) (by rw [FD];exact Fx h1 (by decide))]
 ·congr 2
  rw [Gl];exact H_ λl hl=>by
   show(match vf (sv l.name)with| .int i=>PV.int (i-1)|_=> .none)=_
   rw [V1 l hl]
 ·obtain⟨l,hl,rfl⟩:=Ga.mp hx
  refine ae (a:= .int (l.D:Nat)) (b:= .int 1) (bn (a:= .dictS (O.map λl=>tx l.name) (O.map λl=> .int (l.D:Nat))) (b:=sv l.name) rfl rfl (lk l hl)) rfl ?_;show Fv (PV.int ((l.D:Int)-1))=Fv (match vf (sv l.name)with| .int i=>PV.int (i-1)|_=> .none)
  rw [V1 l hl]
theorem qV (W:Way Γ) (h0:0<L.length) (h1:L.length<=32) (OX: ∀l∈L,ii d4 dE l) (hB: ∀l∈L,l.raw.length<=200/\l.out.length<=200) (hn:(L.map Ln.name).Nodup):
  ag Γ (aO.drop 11) (mR P N hp (L.map λl=>sv l.name) (L.map λl=> .int (l.D:Nat)) (L.map λl=>sv l.raw) p10 OP OO Ox Os) ow5=Fv (.ret (.list (L.map λl=> .int ((l.D:Nat)-1)))):=by
 let O:=rj hp L;have PD:O.length=L.length:=zE hp L;have RM: ∀l,l∈O↔l∈L:=λl=>by show l∈L.drop _++L.take _↔_;rw [GY,or_comm,<-GY,I5]
 have hOn:(O.map Ln.name).Nodup:=by
  have:=vo hn (md hp L.length)
  rwa [<-LD,<-KF,<-Gv]at this
 have T9: ∀l∈O,ii d4 dE l:=λl hl=>OX l ((RM l).mp hl);have Wk: ∀l∈O,l.raw.length<=200/\l.out.length<=200:=λl hl=>hB l ((RM l).mp hl);haveI RK:(fe hp).length<=1000:=by unfold fe;split<;>decide
 haveI hT1:(bT hp O).flatten++dm hp=em ((O.map Ln.raw).zip ((GL 0 O.length).map (eo hp)))++([13,13,10,46]++if nz hp=FE then [10]else []):=by rw [vz];rfl
 haveI Pp:((GL 0 O.length).map (eo hp)).length=O.length:=by simp
 have Tu:=xU wa.1 wa.2.1 wa.2.2 T9 Pp (λe he=>by obtain⟨k,_,rfl⟩:=Ga.mp he;exact tP hp k) (nz hp)
 rw [<-hT1]at Tu;haveI hTl:((bT hp O).flatten++dm hp).length<=20000:=by
  haveI hz:((bT hp O).flatten).length<=32*202:=by
   haveI: ∀ls:List (List Nat),(∀l∈ls,l.length<=202)->ls.flatten.length<=ls.length*202:=by
    intro ls;induction ls with
    |nil=>intro _;simp
    |cons l ls ih=>
     intro h;have:=ih λx hx=>h x (FU _ hx);have:=h l FT;rw [IN,FP,show(l::ls).length=ls.length+1 from rfl,JU];lia
   have h2:=this (bT hp O) λl hl=>by
    obtain⟨k,hk,rfl⟩:=Ga.mp hl;have hk:k<O.length:=by simpa using hk
    haveI e1:(O.map Ln.raw).getD k []=O[k].raw:=by simp [IY,hk]
    have:=(Wk O[k] (I9 hk)).1;haveI:(eo hp k).length<=2:=by rcases tP hp k with h|h|h<;>rw [h]<;>decide
    rw [e1,FP];lia
   haveI h3:(bT hp O).length=O.length:=by simp [bT]
   rw [h3]at h2;haveI:O.length*202<=32*202:=H2 _ (by exact Fx (FI PD) h1)
   exact Fx h2 this
  haveI ht:(dm hp).length<=5:=by unfold dm;rcases eO hp with⟨h,h2⟩|⟨h,h2⟩<;>rw [h2]<;>decide
  rw [FP];exact Fx (FM hz ht) (by decide)
 generalize hTT:(bT hp O).flatten++dm hp=T at*
 have hSl:(dd FE (nl Fz T)).length<=100000:=by
  have h1:=nX (nl Fz T) FE;have h2:=lh T Fz;rw [if_neg (by decide)]at h2
  exact Fx (Fx h1 (GZ (FH _) (Fx h2 (FM (GZ (FH _) hTl) (FH _))))) (by decide)
 have hSf:((dd FE (nl Fz T)).filter λc=> !d4 c).length<=100000:=Fx (I6 _ _) hSl;rw [show aO.drop 11=[.set 15 3 (.bin .Mod (.var 2) (.bi .len [(.var 9)])),.set 16 0 (.bin .Add (.slice (.var 9) (.var 15) .cN .cN) (.slice (.var 9) .cN (.var 15) .cN)),.set 17 0 (.list [(.cS ⟨#[10]⟩),(.cS ⟨#[13]⟩),(.cS ⟨#[13,10]⟩)]),.set 18 0 (.bin .Add (.cS ⟨#[13,13,10,46]⟩) (.idx (.list [(.cS ⟨#[]⟩),(.cS ⟨#[10]⟩)]) (.bin .Mod (.var 2) (.cI 2)))),
  .set 19 0 (.call 9 [(.bin .Add (.meth .join (.cS ⟨#[]⟩) [(.comp1 [23,25] (.one 25) (.ex (.rng [(.bi .len [(.var 16)])])) [] (.bin .Add (.idx (.var 16) (.var 25)) (.idx (.var 17) (.bin .Mod (.bin .Add (.var 2) (.var 25)) (.cI 3)))))]) (.var 18))]),
  .set 20 0 (.comp1 [23,26] (.one 26) (.ex (.var 19)) [(.cmp .Is (.call 10 [(.var 26)]) (.cB Fz))] (.var 26)),
  .set 21 0 (.meth .split (.meth .join (.cS ⟨#[]⟩) [(.comp1 [23,26] (.one 26) (.ex (.var 20)) [] (.ife (.cmp .In (.var 26) (.cS ⟨#[46,13,10]⟩)) (.var 26) (.call 11 [(.var 26)])))]) [(.cS ⟨#[13,10]⟩)])]++aO.drop 18 from rfl]
 rw [GV,GV,GV,GV,GV,GV,GV,Hb];rw [a7 (a15 h0 h1),a7 (a16 h0 h1),a7 a17,a7 a18,a7 (a19 W (L:=O) (by exact Fx (FI PD) h1) λl hl=>(Wk l hl).1),hTT,a7 (a20 W hSl)]
 have Su: ∀l∈O.map Ln.out,13∉l:=λl hl=>by obtain⟨x,hx,rfl⟩:=Ga.mp hl;exact(T9 x hx).outok
 haveI e21:ak Γ (.set 21 0 (.meth .split (.meth .join (.cS ⟨#[]⟩) [(.comp1 [23,26] (.one 26) (.ex (.var 20)) [] (.ife (.cmp .In (.var 26) (.cS ⟨#[46,13,10]⟩)) (.var 26) (.call 11 [(.var 26)])))]) [(.cS ⟨#[13,10]⟩)])) (R2 P N hp (L.map λl=>sv l.name) (L.map λl=> .int (l.D:Nat)) (L.map λl=>sv l.raw) p10 OP OO Ox Os (Fv (.int (md hp L.length:Nat))) (Fv (.list (O.map λl=>sv l.raw))) (Fv (.list (gi.map sv))) (Fv (sv (dm hp))) (Fv (sv (dd FE (nl Fz T)))) (Fv (.list (sgs ((dd FE (nl Fz T)).filter λc=> !d4 c)))) Fw Fw) []=
   Fv (.next (R2 P N hp (L.map λl=>sv l.name) (L.map λl=> .int (l.D:Nat)) (L.map λl=>sv l.raw) p10 OP OO Ox Os (Fv (.int (md hp L.length:Nat))) (Fv (.list (O.map λl=>sv l.raw))) (Fv (.list (gi.map sv))) (Fv (sv (dm hp))) (Fv (sv (dd FE (nl Fz T)))) (Fv (.list (sgs ((dd FE (nl Fz T)).filter λc=> !d4 c)))) (Fv (.list ((O.map Ln.out++fe hp).map sv))) Fw) []):=by
  haveI hpf:dC d4 dE (dd FE (nl Fz T))=((dd FE (nl Fz T)).filter λc=> !d4 c).flatMap gh:=rfl;rw [hpf]at Tu;unfold fe;cases ho:nz hp with
  |true=>
   rw [ho,if_pos rfl]at Tu;rw [if_pos rfl];have:=a21 (Γ:=Γ) (P:=P) (N:=N) (hp:=hp) (nm:=L.map λl=>sv l.name) (du:=L.map λl=> .int (l.D:Nat)) (ln:=L.map λl=>sv l.raw) (p10:=p10) (OP:=OP) (OO:=OO) (Ox:=Ox) (Os:=Os) (OG:=Fv (.int (md hp L.length:Nat))) (Po:=Fv (.list (O.map λl=>sv l.raw))) (Pr:=Fv (.list (gi.map sv))) (Q2:=Fv (sv (dm hp))) (p19:=Fv (sv (dd FE (nl Fz T)))) W Tu hSf (by simp;exact Fx (Fx (FI PD) h1) (by decide)) (λl hl=>by
    rcases GY.mp hl with q|q
    ·exact Su l q
    ·simp only [FS,Gu,or_false]at q
     rcases q with rfl|rfl|rfl<;>decide) (by decide)
   rw [Gq]at this;exact this
  |false=>
   rw [ho,if_neg (by decide)]at Tu
   rw [if_neg (by decide)]
   have:=a21 (Γ:=Γ) (P:=P) (N:=N) (hp:=hp) (nm:=L.map λl=>sv l.name) (du:=L.map λl=> .int (l.D:Nat)) (ln:=L.map λl=>sv l.raw) (p10:=p10) (OP:=OP) (OO:=OO) (Ox:=Ox) (Os:=Os) (OG:=Fv (.int (md hp L.length:Nat))) (Po:=Fv (.list (O.map λl=>sv l.raw))) (Pr:=Fv (.list (gi.map sv))) (Q2:=Fv (sv (dm hp))) (p19:=Fv (sv (dd FE (nl Fz T)))) W Tu hSf (by simp;exact Fx (Fx (FI PD) h1) (by decide)) (λl hl=>by
    rcases GY.mp hl with q|q
    ·exact Su l q
    ·simp only [FS,Gu,or_false]at q
     rcases q with rfl|rfl<;>decide) (by decide)
   rw [Gq]at this;exact this
 rw [a7 e21];rw [show aO.drop 18=[.set 22 0 (.dcomp [23,27] (.one 27) (.ex (.slice (.var 21) .cN (.bi .len [(.var 9)]) .cN)) [] (.meth .lstrip (.var 27) [(.cS ⟨#[46]⟩)]) (.bin .Sub (.bi .len [(.var 27)]) (.bi .len [(.meth .lstrip (.var 27) [(.cS ⟨#[46]⟩)])]))),.ite (.boolop Fz [(.cmp .NotEq (.slice (.var 21) (.bi .len [(.var 9)]) .cN .cN) (.bin .Add (.list [(.cS ⟨#[]⟩),(.cS ⟨#[]⟩),(.cS ⟨#[46,46]⟩)]) (.bin .Mult (.list [(.cS ⟨#[]⟩)]) (.bin .Mod (.var 2) (.cI 2))))),(.cmp .NotEq (.comp1 [23,28] (.one 28) (.ex (.var 7)) [(.cmp .In (.var 28) (.var 22))] (.idx (.var 22) (.var 28))) (.var 8))]) [.ret (.list [])] [],.ret (.comp1 [23,28] (.one 28) (.ex (.var 7)) [] (.bin .Sub (.idx (.var 22) (.var 28)) (.cI 1)))]from rfl];rw [a7 (a22 RK (by rw [FD,PD]) (by exact Fy h0 (FI (Ha PD))) (by exact Fx (FI PD) h1) T9 (λl hl=>by have:=(Wk l hl).2;exact Fx this (by decide)) hOn)]
 exact a23 (λl hl=>(RM l).mpr hl) PD (by rw [FD]) h1 hOn
end
variable {ab:List (Nat×Nat)}
section
noncomputable def needN (p:Nat×Nat):Nat:=if p.1=p.2 then 1+p.1 else max p.1 p.2
theorem qp (hp:Int): ∀(ab:List (Nat×Nat)) (t:Nat),((lnsFrom hp t ab).map λl=>PV.int ((l.D:Nat)-1))=ab.map λp=> .int (needN p:Nat)
 |[],_=>rfl
 |(a,b)::r,t=>by
  rw [kT,Gf,Gf,qp hp r (t+1)]
  congr 2
  haveI:(cH (hp+(t:Nat)) a b).D=needN (a,b)+1:=by
   show(if(if a=b then []else [veilsL.getD (md (hp+(t:Nat)) 27) 0])=[]then 1+max a b+1 else 1+max a b)=(if a=b then 1+a else max a b)+1;by_cases h:a=b
   ·rw [if_pos h,if_pos rfl,if_pos h];lia
   ·rw [if_neg h,if_neg (by simp),if_neg h];exact GX _ _
  rw [this];lia
theorem n8 (hp:Int): ∀(ab:List (Nat×Nat)) (t:Nat),(∀p∈ab,p.1<=100/\p.2<=100)-> ∀l∈lnsFrom hp t ab,l.raw.length<=200/\l.out.length<=200
 |[],_,_,_,h=>by cases h
 |(a,b)::r,t,hb,l,h=>by
  rw [kT]at h;rcases FS.mp h with rfl|h
  ·haveI h1:=hb _ FT
   haveI hm:max a b<=100:=Nat.max_le.mpr h1;haveI hv:(cH (hp+(t:Nat)) a b).v.length<=1:=by show(if a=b then []else [veilsL.getD (md (hp+(t:Nat)) 27) 0]).length<=1;split<;>simp
   haveI hmp:(cH (hp+(t:Nat)) a b).mp.length<=3:=(fZ.2.2 _ (d6 _ (by decide))).2
   haveI hk:(cH (hp+(t:Nat)) a b).k=1+max a b:=rfl;refine⟨?_, ?_⟩
   ·unfold Ln.raw
    simp only [FP,Jc,FY,GJ];exact Fx (FM (FM (FM (FM hv (Fx (FI hk) (FM (FH _) hm))) (FH _)) (FH _)) (FH _)) (by decide)
   ·unfold Ln.out Ln.name Ln.D
    simp only [FP,Jc,FY,GJ];split<;>lia
  ·exact n8 hp r (t+1) (λp hp=>hb p (FU _ hp)) l h
theorem sY {hp:Int}:ag Γ aO [Fv P,Fv N,Fv (.int hp),Fw,Fw,Fw,Fw,Fw,Fw,Fw,Fw,Fw,Fw,Fw,Fw,Fw,Fw,Fw,Fw,Fw,Fw,Fw,Fw,Fw,Fw,Fw,Fw,Fw,Fw] []=ag Γ (aO.drop 10) (mR P N hp [] [] [] Fw Fw Fw Fw Fw) ow5:=by kernel_rfl
theorem sZ (W:Way Γ) {hp:Int} (hl:On.length=ab.length) (h0:0<ab.length) (h1:ab.length<=32)
  (h: ∀k,(hk:k<ab.length)-> ∃A B,On[k]? =Fv (.list [A,B])/\c_ N A=Fv (.int (ab[k].1:Nat))/\c_ N B=Fv (.int (ab[k].2:Nat))/\ab[k].1<=100/\ab[k].2<=100):
  aG Γ 29 [0,1,2] aO [.list On,N,.int hp]=Fv (.list (ab.map λp=> .int (needN p:Nat))):=by
 obtain⟨q10,Tk,Tj,Qf,Qe,TP⟩:=m0 (Γ:=Γ) (On:=On) (N:=N) (hp:=hp) W.h10 (by exact Fx (Fx (FI hl) h1) (by decide)) ab 0 [] [] [] Fw Fw Fw Fw Fw (λk hk=>by rw [HJ];exact h k hk) (by simp;exact Fx h1 (by decide)) (by simp;exact Fx h1 (by decide)) (by simp;exact Fx h1 (by decide))
 haveI Pl: ∀p∈ab,p.1<=100/\p.2<=100:=λp hp=>by obtain⟨i,hi,e⟩:=LA hp;obtain⟨A,B,_,_,_,e1,e2⟩:=h i hi;rw [e]at e1 e2;exact⟨e1,e2⟩
 haveI Ou:pit Γ (.ex (.rng [(.bi .len [(.var 0)])])) (aB (mR (.list On) N hp [] [] [] Fw Fw Fw Fw Fw) ow5)=Fv ((GL 0 ab.length).map λi=>PV.int (i:Nat)):=by
  haveI Oj:pev Γ (.bi .len [(.var 0)]) (aB (mR (.list On) N hp [] [] [] Fw Fw Fw Fw Fw) ow5)=Fv (.int (ab.length:Nat)):=by refine bF (v:= .list On) rfl ?_;rw [bv (by exact FF (FI hl) (FF h1 (by decide))),hl]
  show((dz Γ [_] (aB (mR (.list On) N hp [] [] [] Fw Fw Fw Fw Fw) ow5)).bind gU).bind cV=_;rw [aa Oj rfl];show bG 0 (ab.length:Nat)=_;unfold bG;rw [if_pos (by exact tT (by decide) (Fx h1 (by decide))),LY,GC]
  have:=eX ab.length 0;rw [show((0:Nat):Int)=0 from rfl]at this;rw [this]
 haveI hf:=(eN (Γ:=Γ) (pt:= .one 10) (body:=jj) (own:=ow5) (ρ:=mR (.list On) N hp [] [] [] Fw Fw Fw Fw Fw) Ou).trans TP;haveI P:ag Γ aO [Fv (.list On),Fv N,Fv (.int hp),Fw,Fw,Fw,Fw,Fw,Fw,Fw,Fw,Fw,Fw,Fw,Fw,Fw,Fw,Fw,Fw,Fw,Fw,Fw,Fw,Fw,Fw,Fw,Fw,Fw,Fw] []=Fv (.ret (.list (ab.map λp=> .int (needN p:Nat)))):=by rw [sY,show aO.drop 10= .for_ (.one 10) (.ex (.rng [(.bi .len [(.var 0)])])) jj::aO.drop 11 from rfl,a7 hf,Hb,Hb,Hb];have hl:=uv hp ab 0;rw [qV W (by exact Fy h0 (FI (Ha hl))) (by exact Fx (FI hl) h1) (wv hp ab 0) (n8 hp ab 0 Pl) (jW hp ab 0 h1),qp]
 show((ag Γ aO [Fv (.list On),Fv N,Fv (.int hp),Fw,Fw,Fw,Fw,Fw,Fw,Fw,Fw,Fw,Fw,Fw,Fw,Fw,Fw,Fw,Fw,Fw,Fw,Fw,Fw,Fw,Fw,Fw,Fw,Fw,Fw] []).bind _)=_;rw [P]
 rfl
end
noncomputable def mv (s M:Nat):List PV:=(([[1,0,0,0,0],[1,1,2,4,8],[1,1,2,5,14]].getD s []).take (M+1)).map λi:Int=>PV.int i
structure LG (Γ:Gam) (S:PV) (hf:Nat->Int):Prop where
 h1: ∀l:List Nat,l.length<=2000->Γ.fn 1 [sv l]=Fv (.bool (d5 l))
 h2: ∀ls:List (List Nat),ls.length<1000->(∀l∈ls,l.length<=2000)->Γ.fn 2 [.list (ls.map sv)]=Fv (.list (ls.map λl=>sv (bW l)))
 h5: ∀args r,F5 args=Fv r->Γ.fn 5 args=Fv r
 h12: ∀p<5,Γ.fn 12 [S,.int (p:Nat)]=Fv (.int (hf p))
 h13: ∀n∈[1,2,3,4],Γ.fn 13 [.int (n:Nat)]=Fv (.list ((rowsN n).map sv))
 h14: ∀(row:List Nat) (Om:Int),2<=row.length->row.length<=1000-> ∃f s c h,1<=f/\f<=s/\s<row.length/\c∈closedL/\h∈hiddenL/\Γ.fn 14 [sv row,.int Om]=Fv (.list ((bq row f s c h).map sv))
 h16: ∀us:List (List Nat),us.length<=1000->us.flatten.length<=2000->Γ.fn 16 [.list (us.map sv)]=Fv (.list ((ik us).map sv))
 h17: ∀n∈[1,2,3,4],∀r∈rowsN n,Γ.fn 17 [sv r]=Fv (.int (htL r:Nat))
 h18: ∀(On:List PV) (N:PV) (hp:Int) (ab:List (Nat×Nat)),On.length=ab.length->0<ab.length->ab.length<=32->
  (∀k,(hk:k<ab.length)-> ∃A B,On[k]? =Fv (.list [A,B])/\c_ N A=Fv (.int (ab[k].1:Nat))/\c_ N B=Fv (.int (ab[k].2:Nat))/\ab[k].1<=100/\ab[k].2<=100)->Γ.fn 18 [.list On,N,.int hp]=Fv (.list (ab.map λp=> .int (needN p:Nat)))
 h19: ∀(w:Nat) (f e sd:Int),16<=w->w<=1415->1<=f->f<=2^90->0<=e->e<f->(sd=1∨sd= -1)-> ∀s∈[0,1,2],∀M∈[3,4],Γ.fn 19 [.int (2^(s+1)-2:Int),.int (M:Nat),.int w,.tuple [.int f,.int e,.int sd]]=Fv (.list (mv s M))
noncomputable def rowsAll (M:Nat):List (List Nat):=(GL 1 M).flatMap rowsN
noncomputable def keptR (M:Nat):List Nat:=(GL 0 (rowsAll M).length).filter λt=>dy 0 ((rowsAll M).getD t [])==Fv 0
theorem bx: ∀M∈[3,4],(∀r∈rowsAll M,r.head? =Fv 40/\(∀x∈r,x=40∨x=41)/\2<=r.length/\r.length<=8/\ ∃n∈[1,2,3,4],r∈rowsN n)/\(∀t∈keptR M,(dy 0 ((rowsAll M).getD t []).tail==Fv 0)=Fz)/\(rowsAll M).length<=29/\0<(keptR M).length/\0<(rowsAll M).length:=by decide+kernel
variable {M:Nat}
theorem rG (hM:M∈[3,4]) (ht:t<(rowsAll M).length): ∃r,(rowsAll M).getD t []=40::r/\dh (40::r)/\1<=r.length/\r.length<=7/\(∃n∈[1,2,3,4],40::r∈rowsN n):=by
 have e:(rowsAll M).getD t []=(rowsAll M)[t]:=by simp [IY,ht]
 obtain⟨h1,h2,h3,h4,h5⟩:=(bx M hM).1 _ (I9 ht);rw [e];generalize (rowsAll M)[t]=x at*
 cases x with
 |nil=>cases h1
 |cons c r=>
  have:c=40:=FG h1;subst this;simp only [FY]at h3 h4;exact⟨r,rfl,h2,by exact HZ h3,by exact HZ h4,h5⟩
def bj (M t:Nat) (u:List (List Nat)):Prop:= ∃r f s c h,(rowsAll M).getD t []=40::r/\dh (40::r)/\1<=r.length/\r.length<=7/\1<=f/\f<=s/\s<r.length+1/\c∈closedL/\h∈hiddenL/\u=bq (40::r) f s c h
noncomputable def jP (M t:Nat):Bool:=dy 0 ((rowsAll M).getD t [])==Fv 0
section
variable {u:List (List Nat)}
theorem bj.chk (x:bj M t u):d5 u.flatten=jP M t:=by obtain⟨r,f,s,c,h,e,br,_,_,h1,h2,h3,hc,hh,rfl⟩:=x;unfold jP;rw [uS br h2 hc hh,e]
theorem bj.chk1 (x:bj M t u):d5 (u.flatten.drop 1)=(dy 0 ((rowsAll M).getD t []).tail==Fv 0):=by
 obtain⟨r,f,s,c,h,e,br,_,_,h1,h2,h3,hc,hh,rfl⟩:=x;rw [sj br h1 h2 hc hh,e]
 rfl
theorem bj.none (x:bj M t u):pI≠u.flatten:=by obtain⟨r,f,s,c,h,e,br,_,_,h1,h2,h3,hc,hh,rfl⟩:=x;exact sg br hc hh
theorem bj.len (x:bj M t u):u.length<=100/\u.flatten.length<=100:=by obtain⟨r,f,s,c,h,e,br,_,_,h1,h2,h3,hc,hh,rfl⟩:=x;haveI a:=mK (r:=r) (c:=c) (h:=h) h2 h3;haveI b:=sh (r:=r) h2 h3 hc hh;exact⟨(Fx (Fx (FI a) (FM i_0 (FH _))) (by decide)),(Fx (Fx b (FM i_0 (FH _))) (by decide))⟩
theorem bj.parts (x:bj M t u):ik u=fbL ((rowsAll M).getD t []).tail:=by
 obtain⟨r,f,s,c,h,e,br,_,_,h1,h2,h3,hc,hh,rfl⟩:=x;rw [qI br h1 h2 h3 hc hh,e]
 rfl
theorem bj.kept (x:bj M t u):bW u.flatten=if jP M t=FE then u.flatten else pI:=by unfold bW;rw [x.chk]
theorem bj.same (x:bj M t u):((⟨(bW u.flatten).toArray⟩:Gj)==⟨u.flatten.toArray⟩)=jP M t:=by
 rw [nF,x.kept];cases h:jP M t with
 |true=>simp
 |false=>
  rw [if_neg (by decide)]
  exact beq_eq_false_iff_ne.mpr x.none
end
variable {S:PV} {hf:Nat->Int}
theorem uT (G:LG Γ S hf) (hM:M∈[3,4]) (hp:Int): ∃u:Nat->List (List Nat),∀t,t<(rowsAll M).length->bj M t (u t)/\Γ.fn 14 [sv ((rowsAll M).getD t []),.int (hp+7*(t:Nat))]=Fv (.list ((u t).map sv)):=by
 have: ∀t,∃u,t<(rowsAll M).length->bj M t u/\Γ.fn 14 [sv ((rowsAll M).getD t []),.int (hp+7*(t:Nat))]=Fv (.list (u.map sv)):=by
  intro t;by_cases ht:t<(rowsAll M).length
  ·obtain⟨r,e,br,l1,l2,_⟩:=rG hM ht
   obtain⟨f,s,c,h,a1,a2,a3,a4,a5,a6⟩:=G.h14 (40::r) (hp+7*(t:Nat)) (by rw [FY];exact Gw l1) (by rw [FY];exact Gw (Fx l2 (by decide)))
   rw [FY]at a3;exact⟨_,λ_=>⟨⟨r,f,s,c,h,e,br,l1,l2,a1,a2,a3,a4,a5,rfl⟩,by rw [e];exact a6⟩⟩
  ·exact⟨[],λq=>absurd q ht⟩
 exact⟨λt=>Classical.choose (this t),λt ht=>Classical.choose_spec (this t) ht⟩
section
noncomputable abbrev rg (n:Nat):List Nat:=GL 0 n
theorem fQ:t∈rg n↔t<n:=by rw [LO];lia
noncomputable abbrev rgV (n:Nat):List PV:=(rg n).map λt=>PV.int (t:Nat)
theorem xx (h:pev Γ e ρ=Fv (.list xs)) (hl:xs.length<=100000):pit Γ (.ex (.rng [(.bi .len [e])])) ρ=Fv (rgV xs.length):=by
 haveI Oj:pev Γ (.bi .len [e]) ρ=Fv (.int (xs.length:Nat)):=bF h (bv (by exact FF hl (by decide)))
 show((dz Γ [_] ρ).bind gU).bind cV=_;rw [aa Oj rfl];show bG 0 (xs.length:Nat)=_;unfold bG;rw [if_pos (by exact tT (by decide) (Fx hl (by decide))),LY,GC]
 have:=eX xs.length 0;rw [show((0:Nat):Int)=0 from rfl]at this;rw [this]
theorem iV {ls:List α} {g:α->PV} (h:pev Γ e ρ=Fv (.list (ls.map g))) (hn:ls.length=n) (hl:n<=1000):pit Γ (.ex (.rng [(.bi .len [e])])) ρ=Fv (rgV n):=by
 have:=xx h (by rw [FD];exact Fx (Fx (FI hn) hl) (by decide))
 rw [FD,hn]at this;exact this
theorem iM {g:Nat->PV} (hk:k<n) (hn:n<=1000):c_ (.list ((rg n).map g)) (.int k)=Fv (g k):=by
 refine dR ?_ (by rw [FD,H6];exact Fx hn (by decide))
 rw [Gp,Ge (by rw [H6];exact hk),List.getElem_range']
 show Fv (g (0+1*k))=_;rw [HJ,KD]
theorem qc (hk:k<ls.length) (hl:ls.length<=1000):c_ (.list (ls.map sv)) (.int k)=Fv (sv (ls.getD k [])):=iW hk hl
theorem sQ {j:Nat} {it Qz:PI} (us:PV->List PV) (g:PV->PV->PV) (h:pit Γ it ρ=Fv xs) (hf: ∀x∈xs,k_ (.one j) ((aB ρ Ov).set i (Fv x))=FE/\pit Γ Qz ((aB ρ Ov).set i (Fv x))=Fv (us x))
  (hg: ∀x∈xs,∀y∈us x,pev Γ OI (((aB ρ Ov).set i (Fv x)).set j (Fv y))=Fv (g x y)) (hl:(xs.flatMap λx=>(us x).map (g x)).length<=1000000):pev Γ (.comp2 Ov (.one i) it [] (.one j) Qz [] OI) ρ=Fv (.list (xs.flatMap λx=>(us x).map (g x))):=by
 haveI hz:F_=2^24:=rfl;show(pit Γ it ρ).bind (λxs=>(xs.foldlM (λOk x=>do
   let ρ'<-aT (aB ρ Ov) (.one i) x
   match<-cn Γ [] ρ' with
   |true=>if k_ (.one j) ρ'=FE then(pit Γ Qz ρ').bind (λus=>
     us.foldlM (λOk u=>do
      let OY<-aT ρ' (.one j) u
      match<-cn Γ [] OY with
      |true=>do let y<-pev Γ OI OY;Fv (Ok++[y])
      |false=>Fv Ok) Ok)else Fw
   |false=>Fv Ok) []).bind cv)=_
 rw [h];show Nd (xs.foldlM (m:=Option) _ []) cv=_;rw [g7 (G:=λx=>(us x).map (g x)) xs [] (λx hx Ok=> ?_)]
 ·rw [Hb]
  exact if_pos (by exact Fx hl (by decide))
 ·show(if k_ (.one j) ((aB ρ Ov).set i (Fv x))=FE then(pit Γ Qz ((aB ρ Ov).set i (Fv x))).bind _ else Fw)=_
  rw [if_pos (hf x hx).1,(hf x hx).2];show List.foldlM (m:=Option) _ Ok (us x)=_;rw [g7 (G:=λy=>[g x y]) (us x) Ok (λy hy Ok=> ?_)]
  ·rw [jE]
  ·show(pev Γ OI (((aB ρ Ov).set i (Fv x)).set j (Fv y))).bind _=_
   rw [hg x hx y hy]
   rfl
theorem qd: ∀(n:Nat) (xs:List (List Nat)),eS (dD (n+1)) (xs.map sv) (xs.map sv)=Fv FE
 |_,[]=>rfl
 |n,x::xs=>by rw [Gf,nI];rw [show dD (n+1) (sv x) (sv x)=Fv ((⟨x.toArray⟩:Gj)==⟨x.toArray⟩)from rfl];show(eS (dD (n+1)) (xs.map sv) (xs.map sv)).bind _=_;rw [qd n xs];simp
theorem vd (xs:List (List Nat)):gk .NotEq (.list (xs.map sv)) (.list (xs.map sv))=Fv Fz:=by
 show(if(xs.map sv).length=(xs.map sv).length then eS (dD 7) (xs.map sv) (xs.map sv)else Fv Fz).map not=_;rw [if_pos rfl,qd 6]
 rfl
end
variable {Oo:Int} {u:Nat->List (List Nat)}
section
variable {hp:Int}
noncomputable def lR (S:PV) (Oo:Int) (p2 p3 p4 p5 p6 p7 p8 p9 p10 OP OO Ox Os OG Po Pr Q2 p19 p20:Option PV):Ρ:=
 [Fv S,Fv (.int Oo),p2,p3,p4,p5,p6,p7,p8,p9,p10,OP,OO,Ox,Os,OG,Po,Pr,Q2,p19,p20,Fw,Fw,Fw,Fw]
noncomputable def bJ (M:Nat):PV:= .list ((rowsAll M).map sv)
noncomputable def bE (M:Nat) (u:Nat->List (List Nat)):PV:= .list ((rg (rowsAll M).length).map λt=> .list ((u t).map sv))
noncomputable def bA (M:Nat) (u:Nat->List (List Nat)):PV:= .list ((rg (rowsAll M).length).map λt=>sv (u t).flatten)
noncomputable def cY (M:Nat) (u:Nat->List (List Nat)):PV:= .list ((rg (rowsAll M).length).map λt=>sv (bW (u t).flatten))
noncomputable def rF:PV->List PV
 | .int i=>(rowsN i.toNat).map sv
 |_=>[]
theorem mT:(((GL 1 M).map λi=>PV.int (i:Nat)).flatMap λx=>(rF x).map λy=>y)=(rowsAll M).map sv:=by
 haveI: ∀l:List Nat,((l.map λi=>PV.int (i:Nat)).flatMap λx=>(rF x).map λy=>y)=(l.flatMap rowsN).map sv:=by
  intro l;induction l with
  |nil=>rfl
  |cons k l ih=>
   rw [Gf,JR,JR,Gv,ih,LP]
   rfl
 exact this _
theorem l5 (G:LG Γ S hf) (hM:M∈[3,4]):ak Γ (.set 5 0 (.comp2 [21,4,22] (.one 4) (.ex (.rng [(.cI 1),(.bin .Add (.var 2) (.cI 1))])) [] (.one 22) (.ex (.call 13 [(.var 4)])) [] (.var 22))) (lR S Oo (Fv (.int M)) (Fv (.int hp)) Fw Fw Fw Fw Fw Fw Fw Fw Fw Fw Fw Fw Fw Fw Fw Fw Fw) []=
  Fv (.next (lR S Oo (Fv (.int M)) (Fv (.int hp)) Fw (Fv (bJ M)) Fw Fw Fw Fw Fw Fw Fw Fw Fw Fw Fw Fw Fw Fw Fw) []):=by
 haveI U0:M<=4:=by simp only [FS,Gu,or_false]at hM;lia
 refine aj ?_;haveI Ou:pit Γ (.ex (.rng [(.cI 1),(.bin .Add (.var 2) (.cI 1))])) (lR S Oo (Fv (.int M)) (Fv (.int hp)) Fw Fw Fw Fw Fw Fw Fw Fw Fw Fw Fw Fw Fw Fw Fw Fw Fw)=Fv ((GL 1 M).map λi=>PV.int (i:Nat)):=by
  have:=ot (Γ:=Γ) (a:= .cI 1) (b:= .bin .Add (.var 2) (.cI 1)) (ρ:=lR S Oo (Fv (.int M)) (Fv (.int hp)) Fw Fw Fw Fw Fw Fw Fw Fw Fw Fw Fw Fw Fw Fw Fw Fw Fw) (m:=1) (n:=M+1) rfl (by show Fv (PV.int ((M:Int)+1))=_;rw [Hd];rfl) (by exact Gw (Fx U0 (by decide))) (by decide)
  rwa [show M+1-1=M by exact rfl]at this
 haveI key:=sQ (Γ:=Γ) (Ov:=[21,4,22]) (i:=4) (j:=22) (OI:= .var 22) (Qz:= .ex (.call 13 [(.var 4)])) rF (λx y=>y) Ou (λx hx=>by
  obtain⟨k,hk,rfl⟩:=Ga.mp hx;haveI hk:=LO.mp hk;haveI hk4:k∈[1,2,3,4]:=by
   haveI:k=1∨k=2∨k=3∨k=4:=by lia
   simpa using this
  refine⟨rfl, ?_⟩;show((Γ.fn 13 [.int k]).bind cV)=_;rw [G.h13 k hk4]
  rfl) (λx hx y hy=>rfl) ?_
 ·rw [key,mT]
  rfl
 ·rw [mT,FD]
  have:=(bx M hM).2.2.1;exact Fx this (by decide)
theorem DG (t:Nat):dN .Mult (.int 7) (.int (t:Nat))=Fv (.int (7*(t:Nat))):=by
 haveI:Jy (7:Int) (t:Nat):=Kx (by decide)
 show aS (Jy (7:Int) (t:Nat)) (7*(t:Nat))=_;unfold aS;rw [if_pos this]
theorem l6 (G:LG Γ S hf) (hM:M∈[3,4]) (hu: ∀t,t<(rowsAll M).length->bj M t (u t)/\Γ.fn 14 [sv ((rowsAll M).getD t []),.int (hp+7*(t:Nat))]=Fv (.list ((u t).map sv))):
  ak Γ (.set 6 0 (.comp1 [21,23] (.one 23) (.ex (.rng [(.bi .len [(.var 5)])])) [] (.call 14 [(.idx (.var 5) (.var 23)),(.bin .Add (.var 3) (.bin .Mult (.cI 7) (.var 23)))]))) (lR S Oo (Fv (.int M)) (Fv (.int hp)) Fw (Fv (bJ M)) Fw Fw Fw Fw Fw Fw Fw Fw Fw Fw Fw Fw Fw Fw Fw) []=
  Fv (.next (lR S Oo (Fv (.int M)) (Fv (.int hp)) Fw (Fv (bJ M)) (Fv (bE M u)) Fw Fw Fw Fw Fw Fw Fw Fw Fw Fw Fw Fw Fw Fw) []):=by
 have hn:=(bx M hM).2.2.1;refine aj ?_;haveI Ou:=iV (Γ:=Γ) (e:= .var 5) (ρ:=lR S Oo (Fv (.int M)) (Fv (.int hp)) Fw (Fv (bJ M)) Fw Fw Fw Fw Fw Fw Fw Fw Fw Fw Fw Fw Fw Fw Fw) (ls:=rowsAll M) (g:=sv) rfl rfl (by exact Fx hn (by decide))
 rw [dI (λx=>match x with| .int i=> .list ((u i.toNat).map sv)|_=> .none) Ou (λx hx=> ?_) (by rw [FD,H6];exact Fx hn (by decide))]
 ·congr 2
  rw [Gl]
  rfl
 ·obtain⟨t,ht,rfl⟩:=Ga.mp hx
  have ht:=fQ.mp ht;refine aw (vs:=[sv ((rowsAll M).getD t []),.int (hp+7*(t:Nat))]) (aa (bn (a:=bJ M) (b:= .int t) rfl rfl (qc ht (by exact Fx hn (by decide)))) (aa (ae (a:= .int hp) (b:= .int (7*(t:Nat))) rfl (ae (a:= .int 7) (b:= .int t) rfl rfl (DG t)) rfl) rfl)) (hu t ht).2
theorem l7 (hM:M∈[3,4]) (hu: ∀t,t<(rowsAll M).length->bj M t (u t)):ak Γ (.set 7 0 (.comp1 [21,22] (.one 22) (.ex (.var 6)) [] (.meth .join (.cS ⟨#[]⟩) [(.var 22)]))) (lR S Oo (Fv (.int M)) (Fv (.int hp)) Fw (Fv (bJ M)) (Fv (bE M u)) Fw Fw Fw Fw Fw Fw Fw Fw Fw Fw Fw Fw Fw Fw) []=
  Fv (.next (lR S Oo (Fv (.int M)) (Fv (.int hp)) Fw (Fv (bJ M)) (Fv (bE M u)) (Fv (bA M u)) Fw Fw Fw Fw Fw Fw Fw Fw Fw Fw Fw Fw Fw) []):=by
 haveI hz:F_=2^24:=rfl;haveI hn:=(bx M hM).2.2.1;refine aj ?_;have hj: ∀t,t<(rowsAll M).length->pme .join (.str ⟨#[]⟩) [.list ((u t).map sv)]=Fv (sv (u t).flatten):=λt ht=>dW (by have:=(hu t ht).len;exact Fx this.2 (by decide))
 rw [dI (xs:=(rg (rowsAll M).length).map λt=> .list ((u t).map sv)) (λx=>(pme .join (.str ⟨#[]⟩) [x]).getD .none) rfl (λx hx=> ?_) (by rw [FD,H6];exact Fx hn (by decide))]
 ·congr 2
  rw [Gl];exact H_ λt ht=>by show(pme .join (.str ⟨#[]⟩) [.list ((u t).map sv)]).getD .none=_;rw [hj t (fQ.mp ht)];rfl
 ·obtain⟨t,ht,rfl⟩:=Ga.mp hx
  show pme .join (.str ⟨#[]⟩) [.list ((u t).map sv)]=Fv ((pme .join (.str ⟨#[]⟩) [.list ((u t).map sv)]).getD .none);rw [hj t (fQ.mp ht)];rfl
theorem l8 (G:LG Γ S hf) (hM:M∈[3,4]) (hu: ∀t,t<(rowsAll M).length->bj M t (u t)):ak Γ (.set 8 0 (.call 2 [(.listOf (.var 7))])) (lR S Oo (Fv (.int M)) (Fv (.int hp)) Fw (Fv (bJ M)) (Fv (bE M u)) (Fv (bA M u)) Fw Fw Fw Fw Fw Fw Fw Fw Fw Fw Fw Fw Fw) []=
  Fv (.next (lR S Oo (Fv (.int M)) (Fv (.int hp)) Fw (Fv (bJ M)) (Fv (bE M u)) (Fv (bA M u)) (Fv (cY M u)) Fw Fw Fw Fw Fw Fw Fw Fw Fw Fw Fw Fw) []):=by
 haveI hz:F_=2^24:=rfl;have hn:=(bx M hM).2.2.1;refine aj (aw (vs:=[bA M u]) (aa ?_ rfl) ?_)
 ·show cv ((rg (rowsAll M).length).map λt=>sv (u t).flatten)=_
  exact if_pos (by rw [FD,H6];exact Fx hn (by decide))
 ·have:=G.h2 ((rg (rowsAll M).length).map λt=>(u t).flatten) (by rw [FD,H6];exact FF hn (by decide)) (λl hl=>by obtain⟨t,ht,rfl⟩:=Ga.mp hl;have:=(hu t (fQ.mp ht)).len;exact Fx this.2 (by decide))
  rw [Gl,Gl]at this;exact this
theorem l9 (hM:M∈[3,4]) (hu: ∀t,t<(rowsAll M).length->bj M t (u t)):ak Γ (.set 9 0 (.comp1 [21,23] (.one 23) (.ex (.rng [(.bi .len [(.var 5)])])) [(.cmp .Eq (.idx (.var 8) (.var 23)) (.idx (.var 7) (.var 23)))] (.var 23))) (lR S Oo (Fv (.int M)) (Fv (.int hp)) Fw (Fv (bJ M)) (Fv (bE M u)) (Fv (bA M u)) (Fv (cY M u)) Fw Fw Fw Fw Fw Fw Fw Fw Fw Fw Fw Fw) []=
  Fv (.next (lR S Oo (Fv (.int M)) (Fv (.int hp)) Fw (Fv (bJ M)) (Fv (bE M u)) (Fv (bA M u)) (Fv (cY M u)) (Fv (ar (keptR M))) Fw Fw Fw Fw Fw Fw Fw Fw Fw Fw Fw) []):=by
 have hn:=(bx M hM).2.2.1;refine aj ?_;haveI Ou:=iV (Γ:=Γ) (e:= .var 5) (ρ:=lR S Oo (Fv (.int M)) (Fv (.int hp)) Fw (Fv (bJ M)) (Fv (bE M u)) (Fv (bA M u)) (Fv (cY M u)) Fw Fw Fw Fw Fw Fw Fw Fw Fw Fw Fw Fw) (ls:=rowsAll M) (g:=sv) rfl rfl (by exact Fx hn (by decide))
 rw [dw (λx=>match x with| .int i=>jP M i.toNat|_=>Fz) (λx=>x) Ou (λx hx=> ?_) (λx hx _=>rfl) (by rw [FD,H6];exact Fx hn (by decide))]
 ·congr 2
  rw [LP,Le]
  rfl
 ·obtain⟨t,ht,rfl⟩:=Ga.mp hx
  have ht:=fQ.mp ht;refine dc (bn (a:=cY M u) (b:= .int t) rfl rfl (iM ht (by exact Fx hn (by decide)))) (bn (a:=bA M u) (b:= .int t) rfl rfl (iM ht (by exact Fx hn (by decide)))) ?_
  show Fv ((⟨(bW (u t).flatten).toArray⟩:Gj)==⟨(u t).flatten.toArray⟩)=_;rw [(hu t ht).same]
  rfl
end
noncomputable abbrev bS (M t:Nat):List Nat:=(rowsAll M).getD t []
theorem ek:t∈keptR M↔t<(rowsAll M).length/\jP M t=FE:=by
 unfold keptR;rw [GR,fQ]
 rfl
theorem vu (l:List Nat):dP (l.map λn:Nat=>PV.int (n:Nat))=Fv (l.map λn:Nat=>(n:Int)):=by have:=fH (l.map λn:Nat=>(n:Int));rw [Gl]at this;exact this
theorem xy (t:Nat) (l:List Nat):pin (.int (t:Nat)) (ar l)=Fv (decide (t∈l)):=by
 show(dP (l.map λn:Nat=>PV.int (n:Nat))).map (λz=>z.contains (t:Int))=_;rw [vu];show Fv ((l.map λn:Nat=>(n:Int)).contains (t:Int))=_
 congr 1
 rw [Mr,I7,decide_eq_true_eq,Ga];exact⟨fun⟨a,h,e⟩=>(by lia:a=t)▸h,λh=>⟨t,h,rfl⟩⟩
theorem bj.pos {u:List (List Nat)} (x:bj M t u):1<=u.flatten.length:=by obtain⟨r,f,s,c,h,e,br,_,_,h1,h2,h3,hc,hh,rfl⟩:=x;rw [eY];simp only [FP,IW,FY];exact Fd h1 (H5 _ _)
section
variable {hp:Int}
theorem l10 (hM:M∈[3,4]) (hu: ∀t,t<(rowsAll M).length->bj M t (u t)):ak Γ (.ite (.boolop Fz [(.cmp .Eq (.var 9) (.list [])),(.cmp .NotEq (.var 8) (.comp1 [21,23] (.one 23) (.ex (.rng [(.bi .len [(.var 5)])])) [] (.ife (.cmp .In (.var 23) (.var 9)) (.idx (.var 7) (.var 23)) (.cS ⟨#[40,39,39,44,32,39,39,41]⟩))))]) [.ret (.cB Fz)] [])
  (lR S Oo (Fv (.int M)) (Fv (.int hp)) Fw (Fv (bJ M)) (Fv (bE M u)) (Fv (bA M u)) (Fv (cY M u)) (Fv (ar (keptR M))) Fw Fw Fw Fw Fw Fw Fw Fw Fw Fw Fw) []=
  Fv (.next (lR S Oo (Fv (.int M)) (Fv (.int hp)) Fw (Fv (bJ M)) (Fv (bE M u)) (Fv (bA M u)) (Fv (cY M u)) (Fv (ar (keptR M))) Fw Fw Fw Fw Fw Fw Fw Fw Fw Fw Fw) []):=by
 have hn:=(bx M hM).2.2.1;haveI hk:=(bx M hM).2.2.2.1;refine am (t:=Fz) (jz (dc (a:=ar (keptR M)) (b:= .list []) rfl rfl ?_) ?_) rfl
 ·show(if((keptR M).map λn:Nat=>PV.int (n:Nat)).length=([]:List PV).length then _ else Fv Fz)=_
  rw [if_neg (by rw [FD,GJ];exact Lc hk)]
 ·haveI Ou:=iV (Γ:=Γ) (e:= .var 5) (ρ:=lR S Oo (Fv (.int M)) (Fv (.int hp)) Fw (Fv (bJ M)) (Fv (bE M u)) (Fv (bA M u)) (Fv (cY M u)) (Fv (ar (keptR M))) Fw Fw Fw Fw Fw Fw Fw Fw Fw Fw Fw) (ls:=rowsAll M) (g:=sv) rfl rfl (by exact Fx hn (by decide))
  haveI hc:=dI (Γ:=Γ) (Ov:=[21,23]) (i:=23) (OI:= .ife (.cmp .In (.var 23) (.var 9)) (.idx (.var 7) (.var 23)) (.cS ⟨#[40,39,39,44,32,39,39,41]⟩)) (λx=>match x with| .int i=>sv (bW (u i.toNat).flatten)|_=> .none) Ou (λx hx=>by
   obtain⟨t,ht,rfl⟩:=Ga.mp hx;have ht:=fQ.mp ht;refine gR (c8 (a:= .int t) (b:=ar (keptR M)) rfl rfl (xy t _)) ?_;show _=Fv (sv (bW (u t).flatten));rw [(hu t ht).kept];by_cases h:jP M t=FE
   ·rw [if_pos (by rw [decide_eq_true_eq];exact ek.mpr ⟨ht,h⟩),if_pos h]
    exact bn (a:=bA M u) (b:= .int t) rfl rfl (iM ht (by exact Fx hn (by decide)))
   ·rw [if_neg (by rw [decide_eq_true_eq];exact λq=>h (ek.mp q).2),if_neg h]
    rfl) (by rw [FD,H6];exact Fx hn (by decide))
  refine dc (a:=cY M u) (t:=Fz) rfl hc ?_;haveI e:cY M u= .list (((rg (rowsAll M).length).map λt=>bW (u t).flatten).map sv):=by
   unfold cY;rw [Gl]
   rfl
  haveI e2:(rgV (rowsAll M).length).map (λx=>match x with| .int i=>sv (bW (u i.toNat).flatten)|_=> .none)=((rg (rowsAll M).length).map λt=>bW (u t).flatten).map sv:=by
   rw [Gl,Gl]
   rfl
  rw [e2,e];exact vd _
theorem l11 (G:LG Γ S hf) (hM:M∈[3,4]) (hu: ∀t,t<(rowsAll M).length->bj M t (u t)):ak Γ (.ite (.cmp .IsNot (.call 1 [(.slice (.idx (.var 7) (.idx (.var 9) (.bin .Mod (.var 3) (.bi .len [(.var 9)])))) (.cI 1) .cN .cN)]) (.cB Fz)) [.ret (.cB Fz)] [])
  (lR S Oo (Fv (.int M)) (Fv (.int hp)) Fw (Fv (bJ M)) (Fv (bE M u)) (Fv (bA M u)) (Fv (cY M u)) (Fv (ar (keptR M))) Fw Fw Fw Fw Fw Fw Fw Fw Fw Fw Fw) []=
  Fv (.next (lR S Oo (Fv (.int M)) (Fv (.int hp)) Fw (Fv (bJ M)) (Fv (bE M u)) (Fv (bA M u)) (Fv (cY M u)) (Fv (ar (keptR M))) Fw Fw Fw Fw Fw Fw Fw Fw Fw Fw Fw) []):=by
 haveI hz:F_=2^24:=rfl;obtain⟨_,TR,hn,hk,_⟩:=bx M hM;have Tx:(keptR M).length<=29:=by have:=I6 (λt=>dy 0 ((rowsAll M).getD t [])==Fv 0) (GL 0 (rowsAll M).length);rw [H6]at this;exact Fx this hn
 let ρ:=lR S Oo (Fv (.int M)) (Fv (.int hp)) Fw (Fv (bJ M)) (Fv (bE M u)) (Fv (bA M u)) (Fv (cY M u)) (Fv (ar (keptR M))) Fw Fw Fw Fw Fw Fw Fw Fw Fw Fw Fw;have hi:=d6 hp hk;haveI Oj:pev Γ (.bi .len [(.var 9)]) ρ=Fv (.int ((keptR M).length:Nat)):=by refine bF (v:=ar (keptR M)) rfl ?_;unfold ar;rw [bv (by rw [FD];exact FF Tx (by decide)),FD]
 haveI SZ:pev Γ (.bin .Mod (.var 3) (.bi .len [(.var 9)])) ρ=Fv (.int (md hp (keptR M).length:Nat)):=by refine ae (a:= .int hp) rfl Oj ?_;rw [<-pK hp hk];exact iG (by lia)
 generalize ht0:(keptR M).getD (md hp (keptR M).length) 0=t0;have hm:t0∈keptR M:=by
  rw [<-ht0];haveI:(keptR M).getD (md hp (keptR M).length) 0=(keptR M)[md hp (keptR M).length]:=by simp [IY,hi]
  rw [this];exact I9 hi
 have ht:t0<(rowsAll M).length:=(ek.mp hm).1;haveI RX:=(hu t0 ht).pos;have Sm:=(hu t0 ht).len;haveI T0:pev Γ (.idx (.var 9) (.bin .Mod (.var 3) (.bi .len [(.var 9)]))) ρ=Fv (.int t0):=by rw [<-ht0];exact bn (a:=ar (keptR M)) rfl SZ (eJ hi (by exact Fx Tx (by decide)))
 haveI htx:pev Γ (.idx (.var 7) (.idx (.var 9) (.bin .Mod (.var 3) (.bi .len [(.var 9)])))) ρ=Fv (sv (u t0).flatten):=bn (a:=bA M u) rfl T0 (iM ht (by exact Fx hn (by decide)))
 haveI R4:pev Γ (.slice (.idx (.var 7) (.idx (.var 9) (.bin .Mod (.var 3) (.bi .len [(.var 9)])))) (.cI 1) .cN .cN) ρ=Fv (sv ((u t0).flatten.drop 1)):=by show(pev Γ (.idx (.var 7) (.idx (.var 9) (.bin .Mod (.var 3) (.bi .len [(.var 9)])))) ρ).bind (λa=>aR a (.int ((1:Nat):Int)) .none .none)=_;rw [htx];exact CU RX (by exact Fx Sm.2 (by decide))
 have hc:=G.h1 ((u t0).flatten.drop 1) (by rw [Iu];exact NM (Fx Sm.2 (by decide)))
 rw [(hu t0 ht).chk1,TR t0 hm]at hc;exact am (t:=Fz) (c8 (aw (aa R4 rfl) hc) (b:= .bool Fz) rfl rfl) rfl
end
noncomputable def af (M p:Nat):List Nat:=(keptR M).filter λt=>(((bS M t).length:Nat):Int)==2*(p:Nat)
noncomputable def mw (M:Nat) (D:List (List Nat×Nat)):List Nat->Option (List (Nat×Nat))
 |[]=>Fv []
 |t::ts=>match fbL (bS M t).tail with
  |[a,b]=>(D.lookup a).bind λx=>(D.lookup b).bind λy=>(mw M D ts).map ((x,y)::·)
  |_=>Fw
noncomputable def dV (D:List (List Nat×Nat)):PV:= .dictS (D.map λp=>tx p.1) (D.map λp=> .int (p.2:Nat))
variable {x:Nat}
theorem ky {D:List (List Nat×Nat)} {a:List Nat} (h:D.lookup a=Fv x):ri (tx a) (D.map λp=>tx p.1) (D.map λp=> .int (p.2:Nat))=Fv (.int (x:Nat))/\(D.map λp=>tx p.1).contains (tx a)=FE:=by
 induction D with
 |nil=>cases h
 |cons p D ih=>
  obtain⟨k,v⟩:=p;rw [Hh]at h;by_cases e:(a==k)=FE
  ·rw [e]at h
   have e:=eq_of_beq e;subst e;cases h;refine⟨?_,by rw [Gf,JH];simp⟩
   exact if_pos rfl
  ·simp only [Bool.not_eq_true]at e
   rw [e]at h;have ih:=ih h;refine⟨?_,by rw [Gf,JH,ih.2];simp⟩
   haveI P4:tx a≠tx k:=λq=>by rw [kY q]at e;simp at e
   show(if tx a=tx k then Fv (PV.int (v:Nat))else ri (tx a) (D.map λp=>tx p.1) (D.map λp=> .int (p.2:Nat)))=_;rw [if_neg P4];exact ih.1
set_option tactic.hygienic true in
theorem gX {D:List (List Nat×Nat)}: ∀{ch:List Nat} {ab:List (Nat×Nat)},mw M D ch=Fv ab->ab.length=ch.length/\ ∀k,(hk:k<ch.length)-> ∃a b x y,fbL (bS M ch[k]).tail=[a,b]/\D.lookup a=Fv x/\D.lookup b=Fv y/\ab[k]? =Fv (x,y)
 |[],ab,h=>by cases h;exact⟨rfl,λk hk=>absurd hk (by simp)⟩
 |t::ts,ab,h=>by
  unfold mw at h;split at h
  ·rename_i a b e
   obtain⟨x,hx,h⟩:=FQ.mp h;obtain⟨y,hy,h⟩:=FQ.mp h;obtain⟨ab',h',rfl⟩:=Gk.mp h;obtain⟨i1,i2⟩:=gX h';refine⟨by rw [FY,FY,i1],λk hk=> ?_⟩
   cases k with
   |zero=>exact⟨a,b,x,y,e,hx,hy,rfl⟩
   |succ k=>
    obtain⟨a',b',x',y',j1,j2,j3,j4⟩:=i2 k (by simpa using hk)
    exact⟨a',b',x',y',j1,j2,j3,j4⟩
  ·cases h
theorem qR (l:List Nat):gT (l.map λn:Nat=>PV.int (n:Nat))=FE:=by
 induction l with
 |nil=>rfl
 |cons n l ih=>rw [Gf,gT,ih];rfl
section
theorem vn (h1:pev Γ a ρ=Fv (.bool Fz)) (h2:pev Γ b ρ=Fv (.bool Fz)) (h3:pev Γ c ρ=Fv (.bool Fz)):pev Γ (.boolop Fz [a,b,c]) ρ=Fv (.bool Fz):=by
 show(ig Γ Fz [a,b,c] ρ).map PV.bool=_;haveI:ig Γ Fz [a,b,c] ρ=Fv Fz:=by
  show(pev Γ a ρ).bind (λv=>(ez v).bind λt=>if t=Fz then ig Γ Fz [b,c] ρ else Fv t)=_;rw [h1];show(pev Γ b ρ).bind (λv=>(ez v).bind λt=>if t=Fz then ig Γ Fz [c] ρ else Fv t)=_;rw [h2];show(pev Γ c ρ).bind (λv=>(ez v).bind λt=>if t=Fz then ig Γ Fz [] ρ else Fv t)=_;rw [h3]
  rfl
 rw [this];rfl
theorem vk {it:PI} (kf:PV->Gj) (vf:PV->PV) (h:pit Γ it ρ=Fv xs) (h0:0<xs.length) (hk: ∀y∈xs,pev Γ ke ((aB ρ Ov).set i (Fv y))=Fv (.str (kf y))) (hv: ∀y∈xs,pev Γ ve ((aB ρ Ov).set i (Fv y))=Fv (vf y))
  (hn:(xs.map kf).Nodup) (hl:xs.length<=1000):pev Γ (.dcomp Ov (.one i) it [] ke ve) ρ=Fv (.dictS (xs.map kf) (xs.map vf)):=by
 cases xs with
 |nil=>exact absurd h0 (by decide)
 |cons x xs=>exact mX kf vf h hk hv hn hl
theorem ug {l:List Int} (h:l.length<64):pbi .sorted [.list (l.map .int)]=Fv (.list ((eh l).map .int)):=by show(dP (l.map .int)).bind (λl=>if l.length<64 then Fv (PV.list ((eh l).map .int))else Fw)=_;rw [fH];exact if_pos h
end
variable {p:Nat}
section
variable {hp:Int} {D D':List (List Nat×Nat)} {bs rk:List PV}
noncomputable abbrev ow3:List Nat:=[12,11,10]
noncomputable def lS (S:PV) (Oo hp:Int) (M:Nat) (u:Nat->List (List Nat)) (D:List (List Nat×Nat)) (bs rk:List PV) (p4 Ox Os OG Po Pr Q2 p19 p20:Option PV):Ρ:=
 lR S Oo (Fv (.int M)) (Fv (.int hp)) p4 (Fv (bJ M)) (Fv (bE M u)) (Fv (bA M u)) (Fv (cY M u)) (Fv (ar (keptR M))) (Fv (dV D)) (Fv (.list bs)) (Fv (.list rk)) Ox Os OG Po Pr Q2 p19 p20
noncomputable def fx (M:Nat) (ch:List Nat):PV:= .list (ch.map λt=> .list ((fbL (bS M t).tail).map sv))
theorem qt (hM:M∈[3,4]):(keptR M).length<=29:=by haveI hn:=(bx M hM).2.2.1;have:=I6 (λt=>dy 0 ((rowsAll M).getD t [])==Fv 0) (GL 0 (rowsAll M).length);rw [H6]at this;exact Fx this hn
theorem iB (h:t∈af M p):t∈keptR M:=(GR.mp h).1
theorem dk (hM:M∈[3,4]):(af M p).length<=29:=Fx (I6 _ _) (qt hM)
theorem jx (hM:M∈[3,4]) (h:t∈keptR M):c_ (bJ M) (.int t)=Fv (sv (bS M t)):=by haveI hn:=(bx M hM).2.2.1;exact qc (ek.mp h).1 (by exact Fx hn (by decide))
theorem zj (hM:M∈[3,4]) (h:t∈keptR M):(bS M t).length<=8:=by obtain⟨r,e,_,_,h2,_⟩:=rG hM (ek.mp h).1;rw [show bS M t=40::r from e,FY];exact Gw h2
theorem m13 (hM:M∈[3,4]) (hp4:p<=4):ak Γ (.set 13 0 (.comp1 [21,23] (.one 23) (.ex (.var 9)) [(.cmp .Eq (.bi .len [(.idx (.var 5) (.var 23))]) (.bin .Mult (.cI 2) (.var 4)))] (.var 23))) (lS S Oo hp M u D bs rk (Fv (.int p)) Ox Os OG Fw Fw Fw Fw Fw) ow3=
  Fv (.next (lS S Oo hp M u D bs rk (Fv (.int p)) (Fv (ar (af M p))) Os OG Fw Fw Fw Fw Fw) ow3):=by
 haveI Tx:=qt hM;refine bO (v:=ar (af M p)) ?_ rfl;haveI hc:=dw (Γ:=Γ) (Ov:=[21,23]) (i:=23) (it:= .ex (.var 9)) (c:= .cmp .Eq (.bi .len [(.idx (.var 5) (.var 23))]) (.bin .Mult (.cI 2) (.var 4))) (OI:= .var 23) (ρ:=dG 0 (lS S Oo hp M u D bs rk (Fv (.int p)) Ox Os OG Fw Fw Fw Fw Fw) ow3) (xs:=(keptR M).map λn:Nat=>PV.int (n:Nat))
  (λx=>match x with| .int i=>(((bS M i.toNat).length:Nat):Int)==2*(p:Nat)|_=>Fz) (λx=>x) rfl (λx hx=>by
   obtain⟨t,ht,rfl⟩:=Ga.mp hx;haveI hl:=zj hM ht;haveI h2:Jy (2:Int) (p:Nat):=Kx (by decide)
   refine dc (a:= .int ((bS M t).length:Nat)) (b:= .int (2*(p:Nat))) (bF (v:=sv (bS M t)) (bn (a:=bJ M) (b:= .int t) rfl rfl (jx hM ht)) (gD (by show(bS M t).toArray.size<_;rw [Gn];exact FF hl (by decide)))) (ae (a:= .int 2) (b:= .int p) rfl rfl ?_) rfl
   show aS (Jy (2:Int) (p:Nat)) (2*(p:Nat))=_;unfold aS;rw [if_pos h2]) (λx hx _=>rfl) (by rw [FD];exact Fx Tx (by decide))
 rw [hc]
 congr 2
 rw [LP,Le]
 rfl
theorem m14 (G:LG Γ S hf) (hM:M∈[3,4]) (hu: ∀t,t<(rowsAll M).length->bj M t (u t)):ak Γ (.set 14 0 (.comp1 [21,23] (.one 23) (.ex (.var 13)) [] (.call 16 [(.idx (.var 6) (.var 23))]))) (lS S Oo hp M u D bs rk (Fv (.int p)) (Fv (ar (af M p))) Os OG Fw Fw Fw Fw Fw) ow3=
  Fv (.next (lS S Oo hp M u D bs rk (Fv (.int p)) (Fv (ar (af M p))) (Fv (fx M (af M p))) OG Fw Fw Fw Fw Fw) ow3):=by
 haveI Pb:=dk (p:=p) hM;haveI hn:=(bx M hM).2.2.1;refine bO (v:=fx M (af M p)) ?_ rfl;rw [dI (xs:=(af M p).map λn:Nat=>PV.int (n:Nat)) (λx=>match x with| .int i=> .list ((fbL (bS M i.toNat).tail).map sv)|_=> .none) rfl (λx hx=> ?_) (by rw [FD];exact Fx Pb (by decide))]
 ·congr 2
  rw [Gl]
  rfl
 ·obtain⟨t,ht,rfl⟩:=Ga.mp hx
  have ht:=(ek.mp (iB ht)).1;have hl:=(hu t ht).len;have:=G.h16 (u t) (by exact Fx hl.1 (by decide)) (by exact Fx hl.2 (by decide))
  rw [(hu t ht).parts]at this;exact aw (vs:=[.list ((u t).map sv)]) (aa (bn (a:=bE M u) (b:= .int t) rfl rfl (iM ht (by exact Fx hn (by decide)))) rfl) this
theorem m3 (hM:M∈[3,4]) (h0:0<(af M p).length) (Pl:mw M D (af M p)=Fv ab):ak Γ (.ite (.boolop Fz [(.cmp .Eq (.var 14) (.list [])),(.cmp .NotEq (.comp1 [21,22] (.one 22) (.ex (.var 14)) [(.boolop Fz [(.cmp .NotEq (.bi .len [(.var 22)]) (.cI 2)),(.cmp .NotIn (.idx (.var 22) (.cI 0)) (.var 10)),(.cmp .NotIn (.idx (.var 22) (.cI 1)) (.var 10))])] (.var 22)) (.list []))]) [.ret (.cB Fz)] [])
  (lS S Oo hp M u D bs rk (Fv (.int p)) (Fv (ar (af M p))) (Fv (fx M (af M p))) OG Fw Fw Fw Fw Fw) ow3=
  Fv (.next (lS S Oo hp M u D bs rk (Fv (.int p)) (Fv (ar (af M p))) (Fv (fx M (af M p))) OG Fw Fw Fw Fw Fw) ow3):=by
 haveI Pb:=dk (p:=p) hM;refine am (t:=Fz) (jz (dc (a:=fx M (af M p)) (b:= .list []) rfl rfl ?_) ?_) rfl
 ·show(if((af M p).map λt=>PV.list ((fbL (bS M t).tail).map sv)).length=([]:List PV).length then _ else Fv Fz)=_
  rw [if_neg (by rw [FD,GJ];exact Lc h0)]
 ·haveI hc:=dw (Γ:=Γ) (Ov:=[21,22]) (i:=22) (it:= .ex (.var 14)) (c:= .boolop Fz [(.cmp .NotEq (.bi .len [(.var 22)]) (.cI 2)),(.cmp .NotIn (.idx (.var 22) (.cI 0)) (.var 10)),(.cmp .NotIn (.idx (.var 22) (.cI 1)) (.var 10))]) (OI:= .var 22) (ρ:=lS S Oo hp M u D bs rk (Fv (.int p)) (Fv (ar (af M p))) (Fv (fx M (af M p))) OG Fw Fw Fw Fw Fw)
   (xs:=(af M p).map λt=> .list ((fbL (bS M t).tail).map sv)) (λ_=>Fz) (λx=>x) rfl (λx hx=>by
    obtain⟨t,ht,rfl⟩:=Ga.mp hx;obtain⟨k,hk,e⟩:=LA ht;obtain⟨a,b,x,y,h1,h2,h3,h4⟩:=(gX Pl).2 k hk;rw [e]at h1;rw [h1];refine vn rfl ?_ ?_
    ·refine dc (a:=sv a) (b:=dV D) rfl rfl ?_
     show(Fv ((D.map λp=>tx p.1).contains (tx a))).map not=_;rw [(ky h2).2];rfl
    ·refine dc (a:=sv b) (b:=dV D) rfl rfl ?_
     show(Fv ((D.map λp=>tx p.1).contains (tx b))).map not=_;rw [(ky h3).2];rfl) (λx hx h=>by cases h) (by rw [FD];exact Fx Pb (by decide))
  refine dc hc (b:= .list []) rfl ?_;rw [List.filter_eq_nil_iff.mpr (λ_ _=>by decide)]
  rfl
theorem m15 (G:LG Γ S hf) (hM:M∈[3,4]) (h0:0<(af M p).length) (Pl:mw M D (af M p)=Fv ab) (hs: ∀q∈ab,q.1<=100/\q.2<=100):ak Γ (.set 15 1 (.call 18 [(.var 14),(.var 10),(.bin .Add (.call 12 [(.var 0),(.cI 1)]) (.bin .Mult (.cI 9) (.var 4)))])) (lS S Oo hp M u D bs rk (Fv (.int p)) (Fv (ar (af M p))) (Fv (fx M (af M p))) OG Fw Fw Fw Fw Fw) ow3=
  Fv (.next (lS S Oo hp M u D bs rk (Fv (.int p)) (Fv (ar (af M p))) (Fv (fx M (af M p))) (Fv (ar (ab.map needN))) Fw Fw Fw Fw Fw) ow3):=by
 haveI Pb:=dk (p:=p) hM;obtain⟨hl,hat⟩:=gX Pl;refine bO (v:=ar (ab.map needN)) ?_ (qR _);haveI h9:Jy (9:Int) (p:Nat):=Kx (by decide)
 haveI key:=G.h18 ((af M p).map λt=> .list ((fbL (bS M t).tail).map sv)) (dV D) (hf 1+9*(p:Nat)) ab (by rw [FD,hl]) (by exact Fy h0 (FI (Ha hl))) (by exact Fx (Fx (FI hl) Pb) (by decide)) (λk hk=>by
  obtain⟨a,b,x,y,h1,h2,h3,h4⟩:=hat k (by exact Fy hk (FI hl))
  have e:ab[k]=(x,y):=by rw [Ge hk]at h4;exact FG h4
  have hb:=hs _ (I9 hk);refine⟨sv a,sv b, ?_, ?_, ?_,hb.1,hb.2⟩
  ·rw [Gp,Ge (by exact Fy hk (FI hl))]
   show Fv (PV.list ((fbL (bS M (af M p)[k]).tail).map sv))=_;rw [h1]
   rfl
  ·rw [e];exact(ky h2).1
  ·rw [e];exact(ky h3).1)
 haveI e:ar (ab.map needN)= .list (ab.map λp=> .int (needN p:Nat)):=by
  unfold ar;rw [Gl]
  rfl
 rw [e];refine aw (vs:=[fx M (af M p),dV D,.int (hf 1+9*(p:Nat))]) (aa rfl (aa rfl (aa (ae (a:= .int (hf 1)) (b:= .int (9*(p:Nat))) (aw (vs:=[S,.int ((1:Nat):Int)]) (aa rfl (aa rfl rfl)) (G.h12 1 (by decide))) (ae (a:= .int 9) (b:= .int p) rfl rfl ?_) rfl) rfl))) key
 show aS (Jy (9:Int) (p:Nat)) (9*(p:Nat))=_;unfold aS;rw [if_pos h9]
end
theorem lW: ∀{P3:List Gj} {Pe:List PV} {ks:List Gj} {us:List PV},ks.length=us.length->P3.length=Pe.length->(ks++P3).Nodup->dF ks us P3 Pe=(ks++P3,us++Pe)
 |[],[],ks,us,_,_,_=>by rw [Hg,Hg];rfl
 |k::P3,u::Pe,ks,us,h,h',hn=>by
  haveI hk:k∉ks:=λq=>(Ij.mp hn).2.2 _ q _ FT rfl;show dF (putK k u ks us).1 (putK k u ks us).2 P3 Pe=_;rw [q8 h hk];rw [lW (by rw [FP,FP,h];rfl) (by simpa using h') (by simpa using hn)]
  simp
theorem ql (f:α->β) (d:α) (l:List α):(rg l.length).map (λk=>f (l.getD k d))=l.map f:=by
 apply List.ext_getElem
 ·simp
 ·intro i h1 h2
  haveI hi:i<l.length:=by simpa using h2
  simp [IY,hi]
variable {γ:Type}
theorem yS (f:α->γ) {xs:List α} {ys:List β} (h:xs.length<=ys.length):(xs.zip ys).map (λq=>f q.1)=xs.map f:=by
 have:=congrArg (List.map f) (KN h)
 rwa [Gl]at this
theorem yR (f:β->γ) {xs:List α} {ys:List β} (h:ys.length<=xs.length):(xs.zip ys).map (λq=>f q.2)=ys.map f:=by
 have:=congrArg (List.map f) (List.map_snd_zip h)
 rwa [Gl]at this
theorem vj {P3:List Gj} {us Pe:List PV} (hx:ρ.get x=Fv (.dictS ks us)) (h:mev Γ 0 e ρ own=Fv (.dictS P3 Pe)) (ho:own.contains x=FE) (hl:ks.length+P3.length<=1000):
  ak Γ (.upd x e) ρ own=Fv (.next (ρ.set x (Fv (.dictS (dF ks us P3 Pe).1 (dF ks us P3 Pe).2))) own):=by
 exact aD hx (aD h (if_pos ⟨ho,hl⟩))
noncomputable def lv (l:List Int):PV:= .list (l.map .int)
noncomputable def kR (M t:Nat):Int:=((kOf (1+htL (bS M t)) 1:Nat):Int)-1
theorem ya: ∀M∈[3,4],∀r∈rowsAll M,htL r<=100:=by decide+kernel
section
theorem mV (h:l.length<=1000):pbi .len [ar l]=Fv (.int (l.length:Nat)):=by unfold ar;rw [bv (by rw [FD];exact FF h (by decide)),FD]
end
variable {bs rk:List (List Int)}
section
variable {hp:Int} {D:List (List Nat×Nat)}
noncomputable abbrev lT (S:PV) (Oo hp:Int) (M:Nat) (u:Nat->List (List Nat)) (D:List (List Nat×Nat)) (bs rk:List (List Int)) (p4 Ox Os OG Po Pr Q2 p19 p20:Option PV):Ρ:=lS S Oo hp M u D (bs.map lv) (rk.map lv) p4 Ox Os OG Po Pr Q2 p19 p20
theorem m5 (hM:M∈[3,4]) (Pl:mw M D (af M p)=Fv ab):ak Γ (.ite (.cmp .NotEq (.bi .len [(.var 15)]) (.bi .len [(.var 13)])) [.ret (.cB Fz)] []) (lT S Oo hp M u D bs rk (Fv (.int p)) (Fv (ar (af M p))) Os (Fv (ar (ab.map needN))) Fw Fw Fw Fw Fw) ow3=
  Fv (.next (lT S Oo hp M u D bs rk (Fv (.int p)) (Fv (ar (af M p))) Os (Fv (ar (ab.map needN))) Fw Fw Fw Fw Fw) ow3):=by
 have Pb:=dk (p:=p) hM;have hl:=(gX Pl).1;refine am (t:=Fz) (c8 (a:= .int ((af M p).length:Nat)) (b:= .int ((af M p).length:Nat)) ?_ (bF (v:=ar (af M p)) rfl (mV (by exact Fx Pb (by decide)))) (qa _)) rfl
 refine bF (v:=ar (ab.map needN)) rfl ?_;rw [mV (by rw [FD];exact Fx (Fx (FI hl) Pb) (by decide)),FD,hl]
noncomputable def tK (M p:Nat) (D:List (List Nat×Nat)) (ab:List (Nat×Nat)):List (List Nat×Nat):=D++((af M p).map (bS M)).zip (ab.map needN)
theorem m6 (hM:M∈[3,4]) (h0:0<(af M p).length) (Pl:mw M D (af M p)=Fv ab) (hn:(D.map (·.1)++(af M p).map (bS M)).Nodup) (hD:D.length<=500):ak Γ (.upd 10 (.dcomp [21,23] (.one 23) (.ex (.rng [(.bi .len [(.var 13)])])) [] (.idx (.var 5) (.idx (.var 13) (.var 23))) (.idx (.var 15) (.var 23))))
  (lT S Oo hp M u D bs rk (Fv (.int p)) (Fv (ar (af M p))) Os (Fv (ar (ab.map needN))) Fw Fw Fw Fw Fw) ow3=
  Fv (.next (lT S Oo hp M u (tK M p D ab) bs rk (Fv (.int p)) (Fv (ar (af M p))) Os (Fv (ar (ab.map needN))) Fw Fw Fw Fw Fw) ow3):=by
 have Pb:=dk (p:=p) hM;have hl:=(gX Pl).1;let ρ:=lT S Oo hp M u D bs rk (Fv (.int p)) (Fv (ar (af M p))) Os (Fv (ar (ab.map needN))) Fw Fw Fw Fw Fw;haveI Ou:=iV (Γ:=Γ) (e:= .var 13) (ρ:=dG 0 ρ ow3) (ls:=af M p) (g:=λn:Nat=>PV.int (n:Nat)) rfl rfl (by exact Fx Pb (by decide))
 let kf:PV->Gj:=λx=>match x with| .int i=>tx (bS M ((af M p).getD i.toNat 0))|_=>⟨#[]⟩
 let vf:PV->PV:=λx=>match x with| .int i=> .int (((ab.map needN).getD i.toNat 0:Nat):Int)|_=> .none
 have eK:(rgV (af M p).length).map kf=((af M p).map (bS M)).map tx:=by rw [Gl,Gl];exact ql (λt=>tx (bS M t)) 0 (af M p)
 haveI eV:(rgV (af M p).length).map vf=(ab.map needN).map λn:Nat=>PV.int (n:Nat):=by rw [Gl];have:=ql (λn:Nat=>PV.int (n:Nat)) 0 (ab.map needN);rw [FD,hl]at this;exact this
 have SN:((D.map λq=>tx q.1)++((af M p).map (bS M)).map tx).Nodup:=by
  have e:(D.map λq=>tx q.1)=(D.map (·.1)).map tx:=by rw [Gl];rfl
  rw [e,<-Gv];exact Lf _ (λa b h q=>h (kY q)) hn
 have key:=vk (Γ:=Γ) (Ov:=[21,23]) (i:=23) (ke:= .idx (.var 5) (.idx (.var 13) (.var 23))) (ve:= .idx (.var 15) (.var 23)) kf vf Ou (by rw [FD,H6];exact h0) (λy hy=>by
   obtain⟨k,hk,rfl⟩:=Ga.mp hy;have hk:=fQ.mp hk;haveI e:(af M p).getD k 0=(af M p)[k]:=by simp [IY,hk]
   haveI hm:(af M p).getD k 0∈keptR M:=by rw [e];exact iB (I9 hk)
   exact bn (a:=bJ M) rfl (bn (a:=ar (af M p)) (b:= .int k) rfl rfl (eJ hk (by exact Fx Pb (by decide)))) (jx hM hm)) (λy hy=>by
   obtain⟨k,hk,rfl⟩:=Ga.mp hy;have hk:=fQ.mp hk;exact bn (a:=ar (ab.map needN)) (b:= .int k) rfl rfl (eJ (by rw [FD];exact Fy hk (FI (Ha hl))) (by rw [FD];exact Fx (Fx (FI hl) Pb) (by decide)))) (by rw [eK];exact(Ij.mp SN).2.1) (by rw [FD,H6];exact Fx Pb (by decide))
 rw [eK,eV]at key;haveI WB:=lW (us:=D.map λq=>PV.int (q.2:Nat)) (Pe:=(ab.map needN).map λn:Nat=>PV.int (n:Nat)) (by simp) (by simp [hl]) SN
 haveI eD:dV (tK M p D ab)= .dictS ((D.map λq=>tx q.1)++((af M p).map (bS M)).map tx) ((D.map λq=>PV.int (q.2:Nat))++(ab.map needN).map λn:Nat=>PV.int (n:Nat)):=by
  unfold dV tK;rw [Gv,Gv];haveI e1:(((af M p).map (bS M)).zip (ab.map needN)).map (λq=>tx q.1)=((af M p).map (bS M)).map tx:=by exact yS tx (by simp [hl])
  haveI e2:(((af M p).map (bS M)).zip (ab.map needN)).map (λq=>PV.int (q.2:Nat))=(ab.map needN).map λn:Nat=>PV.int (n:Nat):=by exact yR (λn:Nat=>PV.int (n:Nat)) (by simp [hl])
  rw [e1,e2]
 rw [vj (ρ:=ρ) (x:=10) rfl (rm key) rfl (by simp;exact Fx (FM hD Pb) (by decide))]
 rw [WB];show Fv (Out.next (ρ.set 10 (Fv (.dictS ((D.map λq=>tx q.1)++((af M p).map (bS M)).map tx) ((D.map λq=>PV.int (q.2:Nat))++(ab.map needN).map λn:Nat=>PV.int (n:Nat))))) ow3)=_
 rw [<-eD]
 rfl
theorem m7 (hM:M∈[3,4]) (Pl:mw M D (af M p)=Fv ab) (hb:bs.length<=100) {D'}:ak Γ (.app 11 0 (.bi .sorted [(.var 15)])) (lT S Oo hp M u D' bs rk (Fv (.int p)) (Fv (ar (af M p))) Os (Fv (ar (ab.map needN))) Fw Fw Fw Fw Fw) ow3=
  Fv (.next (lT S Oo hp M u D' (bs++[eh (ab.map λq=>(needN q:Int))]) rk (Fv (.int p)) (Fv (ar (af M p))) Os (Fv (ar (ab.map needN))) Fw Fw Fw Fw Fw) ow3):=by
 haveI hz:F_=2^24:=rfl;haveI Pb:=dk (p:=p) hM;haveI hl:=(gX Pl).1;have e:ar (ab.map needN)= .list ((ab.map λq=>(needN q:Int)).map .int):=by unfold ar;rw [Gl,Gl];rfl
 have:=cU (Γ:=Γ) (x:=11) (m:=0) (e:= .bi .sorted [(.var 15)]) (ρ:=lT S Oo hp M u D' bs rk (Fv (.int p)) (Fv (ar (af M p))) Os (Fv (ar (ab.map needN))) Fw Fw Fw Fw Fw) (own:=ow3) (xs:=bs.map lv) (v:=lv (eh (ab.map λq=>(needN q:Int)))) rfl (rm (bF (v:=ar (ab.map needN)) rfl (by rw [e];exact ug (by rw [FD];exact FF (FI hl) (FF Pb (by decide)))))) rfl (by decide) (by rw [FD];exact FF hb (by decide))
 rw [this];show Fv (Out.next ((lT S Oo hp M u D' bs rk _ _ _ _ _ _ _ _ _).set 11 (Fv (.list (bs.map lv++[lv (eh (ab.map λq=>(needN q:Int)))])))) ow3)=Fv (Out.next (lS S Oo hp M u D' ((bs++[eh (ab.map λq=>(needN q:Int))]).map lv) (rk.map lv) _ _ _ _ _ _ _ _ _) ow3)
 rw [Gv]
 rfl
theorem m8 (G:LG Γ S hf) (hM:M∈[3,4]) (hb:rk.length<=100):ak Γ (.app 12 0 (.bi .sorted [(.comp1 [21,23] (.one 23) (.ex (.var 13)) [] (.bin .Sub (.bi .len [(.call 5 [(.bin .Add (.cI 1) (.call 17 [(.idx (.var 5) (.var 23))])),(.cI 1)])]) (.cI 1)))])) (lT S Oo hp M u D bs rk (Fv (.int p)) (Fv (ar (af M p))) Os OG Fw Fw Fw Fw Fw) ow3=
  Fv (.next (lT S Oo hp M u D bs (rk++[eh ((af M p).map (kR M))]) (Fv (.int p)) (Fv (ar (af M p))) Os OG Fw Fw Fw Fw Fw) ow3):=by
 haveI hz:F_=2^24:=rfl;have Pb:=dk (p:=p) hM;let ρ:=lT S Oo hp M u D bs rk (Fv (.int p)) (Fv (ar (af M p))) Os OG Fw Fw Fw Fw Fw;haveI hc:pev Γ (.comp1 [21,23] (.one 23) (.ex (.var 13)) [] (.bin .Sub (.bi .len [(.call 5 [(.bin .Add (.cI 1) (.call 17 [(.idx (.var 5) (.var 23))])),(.cI 1)])]) (.cI 1))) (dG 0 ρ ow3)=Fv (lv ((af M p).map (kR M))):=by
  rw [dI (xs:=(af M p).map λn:Nat=>PV.int (n:Nat)) (λx=>match x with| .int i=> .int (kR M i.toNat)|_=> .none) rfl (λx hx=> ?_) (by rw [FD];exact Fx Pb (by decide))]
  ·unfold lv
   rw [Gl,Gl]
   rfl
  ·obtain⟨t,ht,rfl⟩:=Ga.mp hx
   have hk:=iB ht;obtain⟨r,e,_,_,_,n,hn,hr⟩:=rG hM (ek.mp hk).1;have e:bS M t=40::r:=e;have h17:=G.h17 n hn (40::r) hr;rw [<-e]at h17;haveI hht:htL (bS M t)<=100:=by
    have OH:=(ek.mp hk).1;haveI e2:bS M t=(rowsAll M)[t]:=by simp [bS,IY,OH]
    rw [e2];exact ya M hM _ (I9 OH)
   have Pj:=d9 (1+htL (bS M t)) 10 (by exact Nat.add_lt_add_of_lt_of_le (by decide) (Fx hht (by decide)))
   haveI h5:=G.h5 _ _ (tW (a:=1+htL (bS M t)) (n:=1) (by decide) (by decide) (by exact Fx Pj (by decide)))
   haveI Tx:=(rQ (a:=1+htL (bS M t)) (n:=1) (by decide)).1
   haveI RL:pev Γ (.call 5 [(.bin .Add (.cI 1) (.call 17 [(.idx (.var 5) (.var 23))])),(.cI 1)]) ((aB (dG 0 ρ ow3) [21,23]).set 23 (Fv (.int t)))=Fv (.list ((digs 1 (kOf (1+htL (bS M t)) 1) (1+htL (bS M t))).map .int)):=by refine aw (vs:=[.int ((1+htL (bS M t):Nat):Int),.int ((1:Nat):Int)]) (aa (ae (a:= .int 1) (b:= .int (htL (bS M t):Nat)) rfl (aw (vs:=[sv (bS M t)]) (aa (bn (a:=bJ M) (b:= .int t) rfl rfl (jx hM hk)) rfl) h17) ?_) (aa rfl rfl)) h5;show Fv (PV.int (1+((htL (bS M t):Nat):Int)))=_;rw [Hd];rfl
   refine ae (a:= .int (kOf (1+htL (bS M t)) 1:Nat)) (b:= .int 1) (bF RL ?_) rfl rfl;rw [bv (by rw [FD,cM];exact FF Tx (FF Pj (by decide))),FD,cM]
 have:=cU (Γ:=Γ) (x:=12) (m:=0) (e:= .bi .sorted [(.comp1 [21,23] (.one 23) (.ex (.var 13)) [] (.bin .Sub (.bi .len [(.call 5 [(.bin .Add (.cI 1) (.call 17 [(.idx (.var 5) (.var 23))])),(.cI 1)])]) (.cI 1)))]) (ρ:=ρ) (own:=ow3) (xs:=rk.map lv) (v:=lv (eh ((af M p).map (kR M)))) rfl (rm (bF hc (ug (by rw [FD];exact FF Pb (by decide))))) rfl (by decide) (by rw [FD];exact FF hb (by decide))
 rw [this];show Fv (Out.next (ρ.set 12 (Fv (.list (rk.map lv++[lv (eh ((af M p).map (kR M)))])))) ow3)=Fv (Out.next (lS S Oo hp M u D (bs.map lv) ((rk++[eh ((af M p).map (kR M))]).map lv) _ _ _ _ _ _ _ _ _) ow3)
 rw [Gv]
 rfl
end
noncomputable def abN (M:Nat) (D:List (List Nat×Nat)) (p:Nat):List (Nat×Nat):=(mw M D (af M p)).getD []
noncomputable def Dn (M:Nat):Nat->List (List Nat×Nat)
 |0=>[([],0)]
 |p+1=>tK M (p+1) (Dn M p) (abN M (Dn M p) (p+1))
noncomputable def bsN (M:Nat):Nat->List (List Int)
 |0=>[[0]]
 |p+1=>bsN M p++[eh ((abN M (Dn M p) (p+1)).map λq=>(needN q:Int))]
noncomputable def rkN (M:Nat):Nat->List (List Int)
 |0=>[[0]]
 |p+1=>rkN M p++[eh ((af M (p+1)).map (kR M))]
theorem vC: ∀M∈[3,4],∀p∈[0,1,2,3],p<M->0<(af M (p+1)).length/\mw M (Dn M p) (af M (p+1))=Fv (abN M (Dn M p) (p+1))/\((Dn M p).map (·.1)++(af M (p+1)).map (bS M)).Nodup/\(Dn M p).length<=500/\(∀q∈abN M (Dn M p) (p+1),q.1<=100/\q.2<=100)/\(bsN M p).length<=100/\(rkN M p).length<=100:=by decide+kernel
theorem n9: ∀M∈[3,4],rkN M M=bsN M M/\(bsN M M).length<=10/\(∀r∈bsN M M,r.length<=100)/\ ∀s∈[0,1,2],(bsN M M).map (λrow=>((row.filter λi=>decide (i<=((s:Nat):Int))).length:Int))=(([[1,0,0,0,0],[1,1,2,4,8],[1,1,2,5,14]].getD s []).take (M+1)):=by decide+kernel
variable {f:Int}
section
variable {hp:Int} {p4:Option PV}
noncomputable def vW:List PS:=[.set 13 0 (.comp1 [21,23] (.one 23) (.ex (.var 9)) [(.cmp .Eq (.bi .len [(.idx (.var 5) (.var 23))]) (.bin .Mult (.cI 2) (.var 4)))] (.var 23)),.set 14 0 (.comp1 [21,23] (.one 23) (.ex (.var 13)) [] (.call 16 [(.idx (.var 6) (.var 23))])),.ite (.boolop Fz [(.cmp .Eq (.var 14) (.list [])),(.cmp .NotEq (.comp1 [21,22] (.one 22) (.ex (.var 14)) [(.boolop Fz [(.cmp .NotEq (.bi .len [(.var 22)]) (.cI 2)),(.cmp .NotIn (.idx (.var 22) (.cI 0)) (.var 10)),(.cmp .NotIn (.idx (.var 22) (.cI 1)) (.var 10))])] (.var 22)) (.list []))]) [.ret (.cB Fz)] [],.set 15 1 (.call 18 [(.var 14),(.var 10),(.bin .Add (.call 12 [(.var 0),(.cI 1)]) (.bin .Mult (.cI 9) (.var 4)))]),.ite (.cmp .NotEq (.bi .len [(.var 15)]) (.bi .len [(.var 13)])) [.ret (.cB Fz)] [],.upd 10 (.dcomp [21,23] (.one 23) (.ex (.rng [(.bi .len [(.var 13)])])) [] (.idx (.var 5) (.idx (.var 13) (.var 23))) (.idx (.var 15) (.var 23))),.app 11 0 (.bi .sorted [(.var 15)]),.app 12 0 (.bi .sorted [(.comp1 [21,23] (.one 23) (.ex (.var 13)) [] (.bin .Sub (.bi .len [(.call 5 [(.bin .Add (.cI 1) (.call 17 [(.idx (.var 5) (.var 23))])),(.cI 1)])]) (.cI 1)))])]
theorem xY (G:LG Γ S hf) (hM:M∈[3,4]) (hp4:p<4) (hpM:p<M) (hu: ∀t,t<(rowsAll M).length->bj M t (u t)): ∃Qf Qe Rg,ag Γ vW (lT S Oo hp M u (Dn M p) (bsN M p) (rkN M p) (Fv (.int (p+1:Nat))) Ox Os OG Fw Fw Fw Fw Fw) ow3=
  Fv (.next (lT S Oo hp M u (Dn M (p+1)) (bsN M (p+1)) (rkN M (p+1)) (Fv (.int (p+1:Nat))) Qf Qe Rg Fw Fw Fw Fw Fw) ow3):=by
 obtain⟨f1,f2,f3,f4,f5,f6,f7⟩:=vC M hM p (by
  haveI:p=0∨p=1∨p=2∨p=3:=by lia
  simpa using this) hpM
 refine⟨Fv (ar (af M (p+1))),Fv (fx M (af M (p+1))),Fv (ar ((abN M (Dn M p) (p+1)).map needN)), ?_⟩;rw [vW,a7 (m13 hM (by exact hp4)),a7 (m14 G hM hu),a7 (m3 hM f1 f2),a7 (m15 G hM f1 f2 f5),a7 (m5 hM f2),a7 (m6 hM f1 f2 f3 f4),a7 (m7 hM f2 f6),a7 (m8 G hM f7)]
 rfl
theorem qr (G:LG Γ S hf) (hM:M∈[3,4]) (hu: ∀t,t<(rowsAll M).length->bj M t (u t)): ∀(k p:Nat) (p4 Ox Os OG:Option PV),p+k=M-> ∃q4 Qf Qe Rg,eA (.one 4) (λρ own=>ag Γ vW ρ own) ((GL (p+1) k).map λi=>PV.int (i:Nat)) (lT S Oo hp M u (Dn M p) (bsN M p) (rkN M p) p4 Ox Os OG Fw Fw Fw Fw Fw) ow3=
  Fv (.next (lT S Oo hp M u (Dn M M) (bsN M M) (rkN M M) q4 Qf Qe Rg Fw Fw Fw Fw Fw) ow3)
 |0,p,p4,Ox,Os,OG,h=>by
  haveI:p=M:=by exact h
  subst this;exact⟨p4,Ox,Os,OG,rfl⟩
 |k+1,p,p4,Ox,Os,OG,h=>by
  haveI U0:M<=4:=by simp only [FS,Gu,or_false]at hM;lia
  obtain⟨Qf,Qe,Rg,hb⟩:=xY (Oo:=Oo) (hp:=hp) (Ox:=Ox) (Os:=Os) (OG:=OG) G hM (p:=p) (by exact Fy (Fy (GW (FZ _ _)) (FI h)) U0) (by exact Fy (GW (FZ _ _)) (FI h)) hu
  obtain⟨r4,VF,VE,r15,ih⟩:=qr G hM hu k (p+1) (Fv (.int (p+1:Nat))) Qf Qe Rg (by exact N5 (Gh _ _ _) h)
  refine⟨r4,VF,VE,r15, ?_⟩;rw [Jo,Gf,pL rfl];show(match ag Γ vW (lT S Oo hp M u (Dn M p) (bsN M p) (rkN M p) (Fv (.int (p+1:Nat))) Ox Os OG Fw Fw Fw Fw Fw) ow3 with|some (.next ρ own)=>_|some (.ret v)=>_|none=>_)=_
  rw [hb];exact ih
theorem BL (l:List Int):dD 7 (lv l) (lv l)=Fv FE:=by
 haveI: ∀xs:List Int,eS (dD 6) (xs.map .int) (xs.map .int)=Fv FE:=by
  intro xs;induction xs with
  |nil=>rfl
  |cons x xs ih=>
   rw [Gf,nI];rw [show dD 6 (.int x) (.int x)=Fv (x==x)from rfl];show(eS (dD 6) (xs.map .int) (xs.map .int)).bind _=_;rw [ih];simp
 show(if(l.map PV.int).length=(l.map PV.int).length then eS (dD 6) (l.map .int) (l.map .int)else Fv Fz)=_;rw [if_pos rfl,this]
theorem xv (ls:List (List Int)):gk .NotEq (.list (ls.map lv)) (.list (ls.map lv))=Fv Fz:=by
 haveI: ∀ls:List (List Int),eS (dD 7) (ls.map lv) (ls.map lv)=Fv FE:=by
  intro ls;induction ls with
  |nil=>rfl
  |cons l ls ih=>
   rw [Gf,nI,BL];show(eS (dD 7) (ls.map lv) (ls.map lv)).bind _=_;rw [ih]
   rfl
 show(if(ls.map lv).length=(ls.map lv).length then eS (dD 7) (ls.map lv) (ls.map lv)else Fv Fz).map not=_;rw [if_pos rfl,this]
 rfl
theorem z14 {D:List (List Nat×Nat)}:ak Γ (.ite (.cmp .NotEq (.var 12) (.var 11)) [.ret (.cB Fz)] []) (lT S Oo hp M u D bs bs p4 Ox Os OG Fw Fw Fw Fw Fw) ow3=Fv (.next (lT S Oo hp M u D bs bs p4 Ox Os OG Fw Fw Fw Fw Fw) ow3):=
 am (t:=Fz) (c8 (a:= .list (bs.map lv)) (b:= .list (bs.map lv)) rfl rfl (xv bs)) rfl
theorem z15 (G:LG Γ S hf) {D:List (List Nat×Nat)}:ak Γ (.set 16 0 (.bin .Add (.cI 16) (.bin .Mod (.call 12 [(.var 0),(.cI 2)]) (.cI 1400)))) (lT S Oo hp M u D bs rk p4 Ox Os OG Fw Fw Fw Fw Fw) ow3=
  Fv (.next (lT S Oo hp M u D bs rk p4 Ox Os OG (Fv (.int (16+md (hf 2) 1400:Nat))) Fw Fw Fw Fw) ow3):=by
 refine bO (v:= .int (16+md (hf 2) 1400:Nat)) ?_ rfl;refine ae (a:= .int 16) rfl (eT (n:=1400) (Om:=hf 2) (aw (vs:=[S,.int ((2:Nat):Int)]) (aa rfl (aa rfl rfl)) (G.h12 2 (by decide))) (by decide)) ?_
 show Fv (PV.int (16+((md (hf 2) 1400:Nat):Int)))=_;rw [Hd];rfl
theorem z16 (G:LG Γ S hf) {D:List (List Nat×Nat)}:ak Γ (.set 17 0 (.bin .Add (.cI 1) (.bin .Mod (.call 12 [(.var 0),(.cI 3)]) (.bin .Pow (.cI 2) (.cI 90))))) (lT S Oo hp M u D bs rk p4 Ox Os OG Po Fw Fw Fw Fw) ow3=
  Fv (.next (lT S Oo hp M u D bs rk p4 Ox Os OG Po (Fv (.int (1+(hf 3).fmod (2^90)))) Fw Fw Fw) ow3):=by
 refine bO (v:= .int (1+(hf 3).fmod (2^90))) ?_ rfl;exact ae (a:= .int 1) (b:= .int ((hf 3).fmod (2^90))) rfl (ae (a:= .int (hf 3)) (b:= .int (2^90)) (aw (vs:=[S,.int ((3:Nat):Int)]) (aa rfl (aa rfl rfl)) (G.h12 3 (by decide))) (by kernel_rfl) (iG (by decide))) rfl
theorem z17 (G:LG Γ S hf) {D:List (List Nat×Nat)} (PL:1<=f):ak Γ (.set 18 0 (.tup [(.var 17),(.bin .Mod (.call 12 [(.var 0),(.cI 4)]) (.var 17)),(.bin .Sub (.cI 1) (.bin .Mult (.cI 2) (.bin .Mod (.bin .FloorDiv (.var 1) (.cI 4)) (.cI 2))))])) (lT S Oo hp M u D bs rk p4 Ox Os OG Po (Fv (.int f)) Fw Fw Fw) ow3=
  Fv (.next (lT S Oo hp M u D bs rk p4 Ox Os OG Po (Fv (.int f)) (Fv (.tuple [.int f,.int ((hf 4).fmod f),.int (1-2*(md (Oo.fdiv 4) 2:Nat))])) Fw Fw) ow3):=by
 refine bO (v:= .tuple [.int f,.int ((hf 4).fmod f),.int (1-2*(md (Oo.fdiv 4) 2:Nat))]) ?_ rfl;let ρ:=dG 0 (lT S Oo hp M u D bs rk p4 Ox Os OG Po (Fv (.int f)) Fw Fw Fw) ow3;haveI hm:Jy (2:Int) (md (Oo.fdiv 4) 2:Nat):=Kx (by decide)
 haveI e1:pev Γ (.bin .Mod (.call 12 [(.var 0),(.cI 4)]) (.var 17)) ρ=Fv (.int ((hf 4).fmod f)):=ae (a:= .int (hf 4)) (b:= .int f) (aw (vs:=[S,.int ((4:Nat):Int)]) (aa rfl (aa rfl rfl)) (G.h12 4 (by decide))) rfl (iG (by lia))
 haveI e0:pev Γ (.bin .Mod (.bin .FloorDiv (.var 1) (.cI 4)) (.cI 2)) ρ=Fv (.int (md (Oo.fdiv 4) 2:Nat)):=eT (n:=2) (ae (a:= .int Oo) (b:= .int 4) rfl rfl (tJ (by decide) (by decide))) (by decide)
 haveI e2:pev Γ (.bin .Sub (.cI 1) (.bin .Mult (.cI 2) (.bin .Mod (.bin .FloorDiv (.var 1) (.cI 4)) (.cI 2)))) ρ=Fv (.int (1-2*(md (Oo.fdiv 4) 2:Nat))):=by refine ae (a:= .int 1) (b:= .int (2*(md (Oo.fdiv 4) 2:Nat))) rfl (ae (a:= .int 2) rfl e0 ?_) rfl;show aS (Jy (2:Int) (md (Oo.fdiv 4) 2:Nat)) _=_;unfold aS;rw [if_pos hm]
 show(dz Γ _ ρ).bind oa=_;rw [aa (v:= .int f) rfl (aa e1 (aa e2 rfl))]
 rfl
noncomputable def rA:List PS:=[.set 20 3 (.comp1 [21,22] (.one 22) (.ex (.var 11)) [] (.bi .len [(.comp1 [21,24] (.one 24) (.ex (.var 22)) [(.cmp .LtE (.var 24) (.var 19))] (.var 24))])),.ite (.cmp .NotEq (.call 19 [(.bin .Sub (.bin .Pow (.cI 2) (.bin .Add (.var 19) (.cI 1))) (.cI 2)),(.var 2),(.var 16),(.var 18)]) (.var 20)) [.ret (.cB Fz)] []]
theorem yC (G:LG Γ S hf) (hM:M∈[3,4]) {D:List (List Nat×Nat)} {w s:Nat} {e sd:Int} (hs:s∈[0,1,2]) (h1:16<=w) (h2:w<=1415) (h3:1<=f) (h4:f<=2^90) (h5:0<=e) (h6:e<f) (h7:sd=1∨sd= -1) (ho:own=ow3∨own=[]): ∃TC,
  ag Γ rA (lT S Oo hp M u D (bsN M M) rk p4 Ox Os OG (Fv (.int w)) Pr (Fv (.tuple [.int f,.int e,.int sd])) (Fv (.int s)) p20) own=
   Fv (.next (lT S Oo hp M u D (bsN M M) rk p4 Ox Os OG (Fv (.int w)) Pr (Fv (.tuple [.int f,.int e,.int sd])) (Fv (.int s)) TC) []):=by
 obtain⟨_,g1,g2,g3⟩:=n9 M hM;let ρ:=lT S Oo hp M u D (bsN M M) rk p4 Ox Os OG (Fv (.int w)) Pr (Fv (.tuple [.int f,.int e,.int sd])) (Fv (.int s)) p20;have Q6: ∀row∈bsN M M,pev Γ (.bi .len [(.comp1 [21,24] (.one 24) (.ex (.var 22)) [(.cmp .LtE (.var 24) (.var 19))] (.var 24))]) ((aB ρ [21,22]).set 22 (Fv (lv row)))=Fv (.int ((row.filter λi=>decide (i<=((s:Nat):Int))).length:Nat)):=λrow hr=>by
  have RV:=g2 row hr;have hc:=dw (Γ:=Γ) (Ov:=[21,24]) (i:=24) (it:= .ex (.var 22)) (c:= .cmp .LtE (.var 24) (.var 19)) (OI:= .var 24) (ρ:=(aB ρ [21,22]).set 22 (Fv (lv row))) (xs:=row.map .int) (λx=>match x with| .int i=>decide (i<=((s:Nat):Int))|_=>Fz) (λx=>x) rfl (λx hx=>by obtain⟨i,hi,rfl⟩:=Ga.mp hx;exact dc (a:= .int i) (b:= .int s) rfl rfl rfl) (λx hx _=>rfl) (by rw [FD];exact Fx RV (by decide))
  refine bF hc ?_;have Qn:=I6 (λi=>decide (i<=((s:Nat):Int))) row;have e:((row.map PV.int).filter (λx=>match x with| .int i=>decide (i<=((s:Nat):Int))|_=>Fz)).map (λx=>x)=(row.filter λi=>decide (i<=((s:Nat):Int))).map .int:=by
   rw [LP,Le]
   rfl
  rw [e,bv (by rw [FD];exact FF Qn (FF RV (by decide))),FD]
 have hc:pev Γ (.comp1 [21,22] (.one 22) (.ex (.var 11)) [] (.bi .len [(.comp1 [21,24] (.one 24) (.ex (.var 22)) [(.cmp .LtE (.var 24) (.var 19))] (.var 24))])) ρ=Fv (.list (mv s M)):=by
  have Sa: ∀row:List Int,(dP (row.map .int)).getD []=row:=λrow=>by rw [fH];rfl
  rw [dI (xs:=(bsN M M).map lv) (λx=>match x with| .list l=> .int ((((dP l).getD []).filter λi=>decide (i<=((s:Nat):Int))).length:Nat)|_=> .none) rfl (λx hx=> ?_) (by rw [FD];exact Fx g1 (by decide))]
  ·congr 2
   unfold mv;rw [<-g3 s hs,Gl,Gl];refine H_ λrow hr=> ?_;show PV.int ((((dP (row.map .int)).getD []).filter λi=>decide (i<=((s:Nat):Int))).length:Nat)=PV.int ((row.filter λi=>decide (i<=((s:Nat):Int))).length:Int);rw [Sa]
  ·obtain⟨row,hr,rfl⟩:=Ga.mp hx
   rw [Q6 row hr];show _=Fv (PV.int ((((dP (row.map .int)).getD []).filter λi=>decide (i<=((s:Nat):Int))).length:Nat));rw [Sa]
 refine⟨Fv (.list (mv s M)), ?_⟩;have s1:ak Γ (.set 20 3 (.comp1 [21,22] (.one 22) (.ex (.var 11)) [] (.bi .len [(.comp1 [21,24] (.one 24) (.ex (.var 22)) [(.cmp .LtE (.var 24) (.var 19))] (.var 24))]))) ρ own=Fv (.next (lT S Oo hp M u D (bsN M M) rk p4 Ox Os OG (Fv (.int w)) Pr (Fv (.tuple [.int f,.int e,.int sd])) (Fv (.int s)) (Fv (.list (mv s M)))) []):=bO (v:= .list (mv s M)) hc rfl
 rw [rA,a7 s1];have hM2:M∈[3,4]:=hM;have h19:=G.h19 w f e sd h1 h2 h3 h4 h5 h6 h7 s hs M hM;have WE:pev Γ (.bin .Sub (.bin .Pow (.cI 2) (.bin .Add (.var 19) (.cI 1))) (.cI 2)) (lT S Oo hp M u D (bsN M M) rk p4 Ox Os OG (Fv (.int w)) Pr (Fv (.tuple [.int f,.int e,.int sd])) (Fv (.int s)) (Fv (.list (mv s M))))=Fv (.int (2^(s+1)-2:Int)):=by have Ph:=hs;simp only [FS,Gu,or_false]at Ph;rcases Ph with rfl|rfl|rfl<;>kernel_rfl
 have P4:gk .NotEq (.list (mv s M)) (.list (mv s M))=Fv Fz:=mU _;exact(a7 (am (t:=Fz) (c8 (aw (aa WE (aa (v:= .int M) rfl (aa (v:= .int w) rfl (aa (v:= .tuple [.int f,.int e,.int sd]) rfl rfl)))) h19) (b:= .list (mv s M)) rfl P4) rfl)).trans rfl
end
section
variable {xs:List Int}
theorem xw (h:ρ.get 2=Fv (.int M)) (hM:M<=4):pit Γ (.ex (.rng [(.cI 1),(.bin .Add (.var 2) (.cI 1))])) ρ=Fv ((GL 1 M).map λi=>PV.int (i:Nat)):=by
 have:=ot (Γ:=Γ) (a:= .cI 1) (b:= .bin .Add (.var 2) (.cI 1)) (ρ:=ρ) (m:=1) (n:=M+1) rfl (ae (a:= .int M) (b:= .int 1) h rfl (by show Fv (PV.int ((M:Int)+1))=_;rw [Hd];rfl)) (by exact Gw (Fx hM (by decide))) (by decide)
 rwa [show M+1-1=M by exact rfl]at this
theorem xW (G:LG Γ (.list (xs.map .int)) hf):aG Γ 25 [0] l4 [.list (xs.map .int)]=Fv (.bool FE):=by
 generalize hS:PV.list (xs.map .int)=S at G ⊢
 generalize htot:xs.sum=Oo;generalize hhp:hf 0=hp;obtain⟨M,hM,hMv⟩: ∃M:Nat,M∈[3,4]/\pev Γ (.ife (.cmp .Eq (.bin .Mod (.var 1) (.cI 50)) (.cI 25)) (.cI 4) (.cI 3)) (lR S Oo Fw Fw Fw Fw Fw Fw Fw Fw Fw Fw Fw Fw Fw Fw Fw Fw Fw Fw Fw)=Fv (.int M):=by
  have ht:bt Γ (.cmp .Eq (.bin .Mod (.var 1) (.cI 50)) (.cI 25)) (lR S Oo Fw Fw Fw Fw Fw Fw Fw Fw Fw Fw Fw Fw Fw Fw Fw Fw Fw Fw Fw)=Fv (((md Oo 50:Nat):Int)==25):=
   c8 (a:= .int (md Oo 50:Nat)) (b:= .int 25) (eT (n:=50) (Om:=Oo) rfl (by decide)) rfl rfl
  by_cases h:(((md Oo 50:Nat):Int)==25)=FE
  ·exact⟨4,by decide,gR ht (by rw [if_pos h];rfl)⟩
  ·exact⟨3,by decide,gR ht (by rw [if_neg h];rfl)⟩
 haveI U0:M<=4:=by simp only [FS,Gu,or_false]at hM;lia
 obtain⟨u,hu⟩:=uT G hM hp;have Tp:=λt ht=>(hu t ht).1;haveI s0:ak Γ (.set 1 0 (.bi .sum [(.var 0)])) [Fv S,Fw,Fw,Fw,Fw,Fw,Fw,Fw,Fw,Fw,Fw,Fw,Fw,Fw,Fw,Fw,Fw,Fw,Fw,Fw,Fw,Fw,Fw,Fw,Fw] []=Fv (.next (lR S Oo Fw Fw Fw Fw Fw Fw Fw Fw Fw Fw Fw Fw Fw Fw Fw Fw Fw Fw Fw) []):=by refine aj (v:= .int Oo) (bF (v:=S) rfl ?_);rw [<-hS,<-htot];show(dP (xs.map .int)).map _=_;rw [fH];rfl
 haveI s1:ak Γ (.set 2 0 (.ife (.cmp .Eq (.bin .Mod (.var 1) (.cI 50)) (.cI 25)) (.cI 4) (.cI 3))) (lR S Oo Fw Fw Fw Fw Fw Fw Fw Fw Fw Fw Fw Fw Fw Fw Fw Fw Fw Fw Fw) []=Fv (.next (lR S Oo (Fv (.int M)) Fw Fw Fw Fw Fw Fw Fw Fw Fw Fw Fw Fw Fw Fw Fw Fw Fw Fw) []):=aj hMv
 haveI s2:ak Γ (.set 3 0 (.call 12 [(.var 0),(.cI 0)])) (lR S Oo (Fv (.int M)) Fw Fw Fw Fw Fw Fw Fw Fw Fw Fw Fw Fw Fw Fw Fw Fw Fw Fw) []=Fv (.next (lR S Oo (Fv (.int M)) (Fv (.int hp)) Fw Fw Fw Fw Fw Fw Fw Fw Fw Fw Fw Fw Fw Fw Fw Fw Fw) []):=by rw [<-hhp];exact aj (aw (vs:=[S,.int ((0:Nat):Int)]) (aa rfl (aa rfl rfl)) (G.h12 0 (by decide)))
 haveI o10:ak Γ (.own 10 (.dic1 ⟨#[]⟩ (.cI 0))) (lR S Oo (Fv (.int M)) (Fv (.int hp)) Fw (Fv (bJ M)) (Fv (bE M u)) (Fv (bA M u)) (Fv (cY M u)) (Fv (ar (keptR M))) Fw Fw Fw Fw Fw Fw Fw Fw Fw Fw Fw) []=
  Fv (.next (lR S Oo (Fv (.int M)) (Fv (.int hp)) Fw (Fv (bJ M)) (Fv (bE M u)) (Fv (bA M u)) (Fv (cY M u)) (Fv (ar (keptR M))) (Fv (dV [([],0)])) Fw Fw Fw Fw Fw Fw Fw Fw Fw Fw) [10]):=by kernel_rfl
 haveI o11:ak Γ (.own 11 (.list [(.list [(.cI 0)])])) (lR S Oo (Fv (.int M)) (Fv (.int hp)) Fw (Fv (bJ M)) (Fv (bE M u)) (Fv (bA M u)) (Fv (cY M u)) (Fv (ar (keptR M))) (Fv (dV [([],0)])) Fw Fw Fw Fw Fw Fw Fw Fw Fw Fw) [10]=
  Fv (.next (lR S Oo (Fv (.int M)) (Fv (.int hp)) Fw (Fv (bJ M)) (Fv (bE M u)) (Fv (bA M u)) (Fv (cY M u)) (Fv (ar (keptR M))) (Fv (dV [([],0)])) (Fv (.list (([[0]]:List (List Int)).map lv))) Fw Fw Fw Fw Fw Fw Fw Fw Fw) [11,10]):=by kernel_rfl
 haveI o12:ak Γ (.own 12 (.list [(.list [(.bin .Sub (.bi .len [(.call 5 [(.cI 1),(.cI 1)])]) (.cI 1))])])) (lR S Oo (Fv (.int M)) (Fv (.int hp)) Fw (Fv (bJ M)) (Fv (bE M u)) (Fv (bA M u)) (Fv (cY M u)) (Fv (ar (keptR M))) (Fv (dV [([],0)])) (Fv (.list (([[0]]:List (List Int)).map lv))) Fw Fw Fw Fw Fw Fw Fw Fw Fw) [11,10]=
  Fv (.next (lT S Oo hp M u (Dn M 0) (bsN M 0) (rkN M 0) Fw Fw Fw Fw Fw Fw Fw Fw Fw) ow3):=by
  let ρ:=dG 0 (lR S Oo (Fv (.int M)) (Fv (.int hp)) Fw (Fv (bJ M)) (Fv (bE M u)) (Fv (bA M u)) (Fv (cY M u)) (Fv (ar (keptR M))) (Fv (dV [([],0)])) (Fv (.list (([[0]]:List (List Int)).map lv))) Fw Fw Fw Fw Fw Fw Fw Fw Fw) [11,10];haveI Qk:FC ((1:Nat):Int)<=500000:=Fx (d9 1 1 (by decide)) (by decide)
  haveI h5:=G.h5 _ _ (tW (a:=1) (n:=1) (by decide) (by decide) Qk)
  have hk:kOf 1 1=1:=by decide
  have e0:pev Γ (.bi .len [(.call 5 [(.cI 1),(.cI 1)])]) ρ=Fv (.int 1):=by
   refine bF (aw (vs:=[.int ((1:Nat):Int),.int ((1:Nat):Int)]) (aa rfl (aa rfl rfl)) h5) ?_;rw [bv (by rw [FD,cM,hk];decide),FD,cM,hk]
   rfl
  have e1:pev Γ (.list [(.list [(.bin .Sub (.bi .len [(.call 5 [(.cI 1),(.cI 1)])]) (.cI 1))])]) ρ=Fv (.list [.list [.int 0]]):=by
   have e2:pev Γ (.list [(.bin .Sub (.bi .len [(.call 5 [(.cI 1),(.cI 1)])]) (.cI 1))]) ρ=Fv (.list [.int 0]):=by
    show(dz Γ [_] ρ).bind cv=_;rw [aa (v:= .int 0) (ae (b:= .int 1) e0 rfl rfl) rfl]
    rfl
   show(dz Γ [_] ρ).bind cv=_;rw [aa e2 rfl]
   rfl
  show(mev Γ 0 _ (lR S Oo (Fv (.int M)) (Fv (.int hp)) Fw (Fv (bJ M)) (Fv (bE M u)) (Fv (bA M u)) (Fv (cY M u)) (Fv (ar (keptR M))) (Fv (dV [([],0)])) (Fv (.list (([[0]]:List (List Int)).map lv))) Fw Fw Fw Fw Fw Fw Fw Fw Fw) [11,10]).bind _=_;rw [rm e1]
  rfl
 obtain⟨q4,Qf,Qe,Rg,TP⟩:=qr (Oo:=Oo) (hp:=hp) G hM Tp M 0 Fw Fw Fw Fw (by exact GX _ _)
 have QJ:=(eN (Γ:=Γ) (pt:= .one 4) (body:=vW) (own:=ow3) (ρ:=lT S Oo hp M u (Dn M 0) (bsN M 0) (rkN M 0) Fw Fw Fw Fw Fw Fw Fw Fw Fw) (xw (M:=M) rfl U0)).trans TP;obtain⟨r1,r2,r3,r4⟩:=n9 M hM;rw [r1]at QJ;let w:=16+md (hf 2) 1400;haveI Qb:16<=w:=FZ _ _;haveI PR:w<=1415:=by have:=d6 (hf 2) (n:=1400) (by decide);show 16+md (hf 2) 1400<=1415;exact Fx (FM (FH _) (H4 this)) (by decide)
 haveI hf0:=Hn (hf 3) (b:=2^90) (by decide)
 haveI hf9:=IE (hf 3) (b:=2^90) (by decide)
 let f:Int:=1+(hf 3).fmod (2^90);have PL:1<=f:=by show 1<=1+(hf 3).fmod (2^90);exact MV hf0
 haveI QC:f<=2^90:=by show 1+(hf 3).fmod (2^90)<=2^90;lia
 haveI he0:=Hn (hf 4) (b:=f) (by exact PL)
 haveI he1:=IE (hf 4) (b:=f) (by exact PL)
 haveI Q5:(1-2*(md (Oo.fdiv 4) 2:Nat):Int)=1∨(1-2*(md (Oo.fdiv 4) 2:Nat):Int)= -1:=aSg (d6 (Oo.fdiv 4) (n:=2) (by decide))
 obtain⟨x,y,cnt⟩: ∃x y,ak Γ (.for_ (.one 19) (.ex (.rng [(.cI 3)])) rA) (lT S Oo hp M u (Dn M M) (bsN M M) (bsN M M) q4 Qf Qe Rg (Fv (.int (w:Nat))) (Fv (.int f)) (Fv (.tuple [.int f,.int ((hf 4).fmod f),.int (1-2*(md (Oo.fdiv 4) 2:Nat))])) Fw Fw) ow3=
   Fv (.next (lT S Oo hp M u (Dn M M) (bsN M M) (bsN M M) q4 Qf Qe Rg (Fv (.int (w:Nat))) (Fv (.int f)) (Fv (.tuple [.int f,.int ((hf 4).fmod f),.int (1-2*(md (Oo.fdiv 4) 2:Nat))])) x y) []):=by
  have step: ∀{s:Nat} {p19 p20:Option PV} {own:List Nat} {rest:List PV},s∈[0,1,2]->(own=ow3∨own=[])-> ∃TC,eA (.one 19) (λρ own=>ag Γ rA ρ own) (.int (s:Nat)::rest) (lT S Oo hp M u (Dn M M) (bsN M M) (bsN M M) q4 Qf Qe Rg (Fv (.int (w:Nat))) (Fv (.int f)) (Fv (.tuple [.int f,.int ((hf 4).fmod f),.int (1-2*(md (Oo.fdiv 4) 2:Nat))])) p19 p20) own=
    eA (.one 19) (λρ own=>ag Γ rA ρ own) rest (lT S Oo hp M u (Dn M M) (bsN M M) (bsN M M) q4 Qf Qe Rg (Fv (.int (w:Nat))) (Fv (.int f)) (Fv (.tuple [.int f,.int ((hf 4).fmod f),.int (1-2*(md (Oo.fdiv 4) 2:Nat))])) (Fv (.int (s:Nat))) TC) []:=λ{s p19 p20 own rest} hs ho=>by
   obtain⟨TC,hb⟩:=yC (Oo:=Oo) (hp:=hp) (u:=u) (rk:=bsN M M) (p4:=q4) (Ox:=Qf) (Os:=Qe) (OG:=Rg) (Pr:=Fv (.int f)) (p20:=p20) G hM (D:=Dn M M) hs Qb PR PL QC he0 he1 Q5 ho;refine⟨TC, ?_⟩;rw [pL (by rcases ho with rfl|rfl<;>rfl)]
   show(match ag Γ rA (lT S Oo hp M u (Dn M M) (bsN M M) (bsN M M) q4 Qf Qe Rg (Fv (.int (w:Nat))) (Fv (.int f)) (Fv (.tuple [.int f,.int ((hf 4).fmod f),.int (1-2*(md (Oo.fdiv 4) 2:Nat))])) (Fv (.int (s:Nat))) p20) own with|some (.next ρ own)=>_|some (.ret v)=>_|none=>_)=_
   rw [hb]
  obtain⟨c0,e0⟩:=step (s:=0) (p19:=Fw) (p20:=Fw) (rest:=[.int ((1:Nat):Int),.int ((2:Nat):Int)]) (by decide) (.inl rfl)
  obtain⟨c1,e1⟩:=step (s:=1) (p19:=Fv (.int ((0:Nat):Int))) (p20:=c0) (own:=[]) (rest:=[.int ((2:Nat):Int)]) (by decide) (.inr rfl)
  obtain⟨c2,e2⟩:=step (s:=2) (p19:=Fv (.int ((1:Nat):Int))) (p20:=c1) (own:=[]) (rest:=[]) (by decide) (.inr rfl)
  refine⟨Fv (.int ((2:Nat):Int)),c2, ?_⟩;exact(eN (Γ:=Γ) (pt:= .one 19) (body:=rA) (own:=ow3) (xs:=[.int ((0:Nat):Int),.int ((1:Nat):Int),.int ((2:Nat):Int)]) rfl).trans (e0.trans (e1.trans (e2.trans rfl)))
 haveI P:ag Γ l4 [Fv S,Fw,Fw,Fw,Fw,Fw,Fw,Fw,Fw,Fw,Fw,Fw,Fw,Fw,Fw,Fw,Fw,Fw,Fw,Fw,Fw,Fw,Fw,Fw,Fw] []=Fv (.ret (.bool FE)):=by refine(a7 s0).trans ?_;refine(a7 s1).trans ?_;refine(a7 s2).trans ?_;refine(a7 (l5 G hM)).trans ?_;refine(a7 (l6 G hM hu)).trans ?_;refine(a7 (l7 hM Tp)).trans ?_;refine(a7 (l8 G hM Tp)).trans ?_;refine(a7 (l9 hM Tp)).trans ?_;refine(a7 (l10 hM Tp)).trans ?_;refine(a7 (l11 G hM Tp)).trans ?_;refine(a7 o10).trans ?_;refine(a7 o11).trans ?_;refine(a7 o12).trans ?_;refine(a7 QJ).trans ?_;refine(a7 z14).trans ?_;refine(a7 (z15 G)).trans ?_;refine(a7 (z16 G)).trans ?_;refine(a7 (z17 G PL)).trans ?_;refine(a7 cnt).trans ?_;exact ao rfl
 show((ag Γ l4 [Fv S,Fw,Fw,Fw,Fw,Fw,Fw,Fw,Fw,Fw,Fw,Fw,Fw,Fw,Fw,Fw,Fw,Fw,Fw,Fw,Fw,Fw,Fw,Fw,Fw] []).bind _)=_;rw [P]
 rfl
end
end UK
namespace UK
open PySem PySem.W PySem.Calls PyProof.Rows PySem.Challenge
noncomputable abbrev xE:Expr:= .Name ⟨#[]⟩ Hu
noncomputable abbrev xS:Hs:= .Pass Hu
noncomputable def kE:Expr->List Expr
 | .BinOp l _ r _=>[l,r]
 | .Call f as _ _=>f::as
 | .IfExp t a b _=>[t,a,b]
 | .Subscript a b _=>[a,b]
 | .Compare l _ rs _=>l::rs
 | .List es _=>es
 | .Tuple es _ _=>es
 | .Attribute o _ _=>[o]
 | .Yield (Fv e) _=>[e]
 |_=>[]
noncomputable def kS:Hs->List Expr
 | .Assign ts e _=>e::ts
 | .If t _ _ _=>[t]
 | .Expr e _=>[e]
 | .Return (Fv e) _=>[e]
 | .For t i _ _ _=>[t,i]
 |_=>[]
noncomputable def kB:Hs->List Hs
 | .FunctionDef _ _ b _ _ _ _ _ _ _=>b
 | .If _ a b _=>a++b
 | .For _ _ b _ _=>b
 |_=>[]
noncomputable def fdA:Hs->Kg
 | .FunctionDef _ a _ _ _ _ _ _ _ _=>a
 |_=>Hu
noncomputable def fdC:Hs->KY
 | .FunctionDef _ _ _ _ _ _ c _ _ _=>c
 |_=>Hu
noncomputable def st (k:Nat) (p:List Nat):Hs:=p.foldl (λs i=>(kB s).getD i xS) (.If xE (au k).2.2.1 [] Hu)
noncomputable def ex (k:Nat) (p q:List Nat):Expr:=q.foldl (λe i=>(kE e).getD i xE) (.List (kS (st k p)) Hu)
noncomputable def px (k:Nat) (p q:List Nat):HW:=(ex k p q).pos
noncomputable def pt (k:Nat) (p:List Nat):HW:=(st k p).pos
noncomputable def Dw:aX->Option FR
 | .bi k=>Fv (.builtin (yM k))
 | .ty t=>Fv (.type t)
 |_=>Fw
noncomputable def EQ:aX->Bool
 | .bi _=>FE
 | .ty _=>FE
 |_=>Fz
theorem wC: ∀e∈gtab,(if EQ e.2=FE then bootBuiltins e.1 else Fw)=Dw e.2:=Jf.mp (by kernel_rfl)
noncomputable def tO (x:Gj):Bool:= !startupNames.contains x&& !(looseW qv lse).contains x&& !((recsOf qv).map (·.name)).contains x&& !((litsOf qv).map (·.1)).contains x&& !((clssOf qv (looseW qv lse)).map (·.name)).contains x&& !(x==("__name__" :Gj))
theorem wB:(gtab.all λe=>match e.2 with| .bi _=>tO e.1| .ty _=>tO e.1|_=>FE)=FE:=by kernel_rfl
variable {x:Gj}
theorem gz {g:aX} (h:gl2 x=Fv g):(x,g)∈gtab:=mem_of_lookup h
variable {w:HR} {H:Ht} {k i j:Nat} {y n:Gj} {a:Gb} {vs:List FR} {C:Cx} {o:N1} {fd:J8} {params Og:List Gj}
section
theorem mj (X:bo w H) {v:FR} (hf:tO x=FE) (hb:bootBuiltins x=Fv v):cC H x v:=by unfold tO at hf;simp only [GH,JS,NH,decide_eq_false_iff_not,beq_eq_false_iff_ne]at hf;obtain⟨⟨⟨⟨⟨h1,h2⟩,h3⟩,h4⟩,h5⟩,h6⟩:=hf;exact⟨_,_,X.top.g,X.top.b,.inr ⟨X.top.free x h1 h2 h3 h4 h5,by rw [X.top.builtins x h6];exact hb⟩⟩
theorem yG (X:bo w H) {k:BI} (h:gl2 x=Fv (.bi k)):cC H x (.builtin (yM k)):=by have hm:=gz h;exact mj X (GD.mp wB _ hm) ((if_pos rfl).symm.trans (wC _ hm))
theorem pQ (X:bo w H) {t:String} (h:gl2 x=Fv (.ty t)):cC H x (.type t):=by have hm:=gz h;exact mj X (GD.mp wB _ hm) ((if_pos rfl).symm.trans (wC _ hm))
noncomputable def ftab:List (Gj×Nat×Nat×Gb×Nat):=[("_strip_quoted_realnames",0,2,45,1),("_check_parenthesis",1,3,52,2),("_pre_parse_validation",2,4,59,3),("_div2n1n",3,7,66,5),("_div3n2n",4,8,73,6),("_int2digits",5,9,80,7),("_digits2int",6,10,87,8),("_divmod_pos",7,11,94,9),("int_divmod",8,12,101,10),("quotedata",9,17,118,14),("in_table_b1",10,20,136,16),("map_table_b3",11,22,182,18),("_law_heap",12,24,189,19),("_law_rows",13,25,194,20),("_law_units",14,26,201,21),("_law_bare",15,27,206,22),("_law_parts",16,28,213,23),("_law_height",17,29,220,24),("_law_needs",18,30,225,25),("_law_counts",19,31,230,26),("_iter_escaped_chars",100,1,38,0),("law",101,32,235,27)]
theorem Cf:(ftab.all λe=>vX.contains e.2.2.1)=FE:=by kernel_rfl
theorem Ce: ∀e∈ftab,(au e.2.2.1).1=e.1:=Jf.mp (by kernel_rfl)
theorem Cg: ∀e∈ftab,ed[e.2.2.2.2]? =Fv (e.1,Ki e.2.2.2.1):=Jf.mp (by kernel_rfl)
theorem zY (e:Gj×Nat×Nat×Gb×Nat) (he:e∈ftab):e.2.2.1∈vX/\(au e.2.2.1).1=e.1/\ed[e.2.2.2.2]? =Fv (e.1,Ki e.2.2.2.1):=
 ⟨I7.mp (GD.mp Cf e he),Ce e he,Cg e he⟩
theorem zV:(gtab.all λe=>match e.2 with| .fn k=>ftab.any (λg=>g.1==e.1&&g.2.1==k)|_=>FE)=FE:=by kernel_rfl
theorem vJ:(gtab.all λe=>match e.2 with| .fn k=>gtab.all (λg=>match g.2 with| .fn j=> !(j==k)||g.1==e.1|_=>FE)|_=>FE)=FE:=by kernel_rfl
theorem AQ (h:gl2 x=Fv (.fn k)): ∃e∈ftab,e.1=x/\e.2.1=k:=by have:=GD.mp zV _ (gz h);obtain⟨g,hg,h2⟩:=List.any_eq_true.mp this;rw [GH,beq_iff_eq,beq_iff_eq]at h2;exact⟨g,hg,h2.1,h2.2⟩
theorem uz (h:gl2 x=Fv (.fn k)) (h2:gl2 y=Fv (.fn k)):y=x:=by have:=GD.mp (GD.mp vJ _ (gz h)) _ (gz h2);simpa using this
structure FnH (H:Ht) (n:Gj) (k:Nat) (a:Gb) (o:N1) (fd:J8):Prop where
 ho:H.get? a=Fv o
 hd:o.data= .func fd
 loads:cC H n (.ref a)
 code:ej H fd.code fd.qualname
 ex: ∃pm cd Oz,fd=O9 n (au k).2.1 (au k).2.2.1 (au k).2.2.2 pm cd Oz
 tab: ∃c P,fd.code= .ref c/\H.IsCode c P #[]/\H.TableAt c P #[]
theorem fnH (X:bo w H) (h:(n,i,k,a,j)∈ftab): ∃o fd,FnH H n k a o fd:=by obtain⟨h1,h2,h3⟩:=zY _ h;have h3:=FX h3;obtain⟨o,pm,cd,Oz,c,P,e1,e2,e3,e4,e5,e6⟩:=Cd X h1 h2 h3;exact⟨o,_,e1,e2,gF X h3,e3,⟨pm,cd,Oz,rfl⟩,⟨c,P,e4,e5,e6⟩⟩
theorem vV {α:Type} {n:Nat} {vs:List α} (h:vs.length=n+1): ∃a r,vs=a::r/\r.length=n:=by
 cases vs with
 |nil=>cases h
 |cons a r=>exact⟨a,r,rfl,II h⟩
theorem kh (h:vs.length=1): ∃a,vs=[a]:=List.length_eq_one_iff.mp h
theorem pA (h:vs.length=2): ∃a b,vs=[a,b]:=by obtain⟨a,r,rfl,k⟩:=vV h;obtain⟨b,rfl⟩:=kh k;exact⟨a,b,rfl⟩
theorem yK (h:vs.length=3): ∃a b c,vs=[a,b,c]:=by obtain⟨a,r,rfl,k⟩:=vV h;obtain⟨b,c,rfl⟩:=pA k;exact⟨a,b,c,rfl⟩
theorem D5 (h:vs.length=4): ∃a b c d,vs=[a,b,c,d]:=by obtain⟨a,r,rfl,k⟩:=vV h;obtain⟨b,c,d,rfl⟩:=yK k;exact⟨a,b,c,d,rfl⟩
theorem EP (h:vs.length=6): ∃a b c d e f,vs=[a,b,c,d,e,f]:=by obtain⟨a,r,rfl,k⟩:=vV h;obtain⟨b,r,rfl,k'⟩:=vV k;obtain⟨c,d,e,f,rfl⟩:=D5 k';exact⟨a,b,c,d,e,f,rfl⟩
abbrev Bnd (n:Gj) (k:Nat) (params:List Gj):Prop:= ∀pm cd Oz (vs:List FR),vs.length=params.length->Np (O9 n (au k).2.1 (au k).2.2.1 (au k).2.2.2 pm cd Oz) ⟨vs,[]⟩=pure (params.zip vs)
theorem FnH.ok (F:FnH C.H n k a o fd) (lim:C.H.NoLimit) (hb:yL k params Og=FE) (Qv:Bnd n k params):bX C a o fd (au k).2.2.1 params Og:=by obtain⟨pm,cd,Oz,rfl⟩:=F.ex;unfold yL at hb;simp only [GH,decide_eq_true_eq,GD,JS,beq_iff_eq,JD,bne_iff_ne,I7]at hb;obtain⟨⟨⟨⟨⟨⟨b1,b2⟩,b3⟩,b4⟩,b5⟩,b6⟩,b7⟩:=hb;exact⟨F.ho,F.hd,lim,F.code,rfl,rfl,rfl,rfl,b1,b2,b3,λvs h=>Qv pm cd Oz vs h,b4,b5,b6,b7⟩
end
variable {c0 P0:Gb} {h:Ht}
section
theorem vO (Rr:fX H a c0=Fv (.ref c0,.ref P0)): ∃o fd o2 vs,H.get? a=Fv o/\o.data= .func fd/\H.get? c0=Fv o2/\o2.data= .fields vs/\fd.code= .ref c0/\vs.getD 11 .none= .ref P0:=
 ac Rr λo e h=>ac h λfd hf h=>ac h λo2 e2 h=>ac h λvs hv h=>⟨o,fd,o2,vs,e,Ag hf,e2,oM hv,congrArg (·.1) (FG h),congrArg (·.2) (FG h)⟩
theorem kX (Rr:fX H a c0=Fv (.ref c0,.ref P0)) (F:FnH H n k a o fd):fd.code= .ref c0/\H.IsCode c0 P0 #[]/\H.TableAt c0 P0 #[]:=by
 obtain⟨c,P,e1,e2,e3⟩:=F.tab;obtain⟨o1,fd1,o2,vs,g1,g2,g3,g4,g5,g6⟩:=vO Rr;rw [F.ho]at g1;cases g1;rw [F.hd]at g2;cases g2;rw [e1]at g5;cases g5;have e3':=e3;obtain⟨⟨o3,vs3,f1,f2,f3,f4⟩,f5⟩:=e3;rw [g3]at f1;cases f1;rw [g4]at f3;cases f3;have:vs.getD 11 .none= .ref P:=by rw [Array.getD_eq_getD_getElem?,f4];rfl
 rw [this]at g6;cases g6;exact⟨e1,e2,e3'⟩
theorem rN (X:bo w H):fX H 80 79=Fv (.ref 79,.ref 75):=congrArg (λt=>t.2.2.2.1) X.obs
theorem rM (X:bo w H):fX H 87 86=Fv (.ref 86,.ref 82):=congrArg (λt=>t.2.2.2.2.1) X.obs
theorem ul (X:bo w H):(H.get? 235).isSome=FE/\(H.get? Hf).isSome=FE/\H.objs.size=236:=by have h:((H.get? 235).isSome&&(H.get? Hf).isSome&&H.objs.size==236)=FE:=congrArg (λt=>t.2.2.2.2.2.2) X.obs;rw [GH,GH,beq_iff_eq]at h;exact⟨h.1.1,h.1.2,h.2⟩
theorem pO {b:Gb} (e:h.get? b=Fv o) (hb: ∀t∈theTabs,t.1≠b):vis h b=Fv o:=by unfold vis;rw [e];exact if_neg fun⟨t,ht,q⟩=>hb t ht q
open Classical in
theorem wZ {t:Gb×HW×Gj} (ht:t∈theTabs) (e:h.get? t.1=Fv (M8 #[])):vis h t.1=Fv cQ:=by unfold vis;rw [e];show(if∃t'∈theTabs,t'.1=t.1 then(if fR (M8 #[])=FE then(if∀t'∈theTabs,t'.1=t.1->i8 h t.1 t'.2.1 t'.2.2 then Fv cQ else Fw)else _)else _)=_;rw [if_pos ⟨t,ht,rfl⟩,if_pos (show fR (M8 #[])=FE from rfl),if_pos (λt' _ _=>⟨#[],e,trivial,.inl rfl⟩)]
theorem nE (X:bo w H):Sys H:=by
 obtain⟨_,h2,_⟩:=ul X;obtain⟨o,e⟩:=Ho.mp h2;obtain⟨o1,fd1,F1⟩:=fnH X (n:= "_int2digits") (i:=5) (k:=9) (a:=80) (j:=7) (FX (i:=5) rfl);obtain⟨o2,R7,F2⟩:=fnH X (n:= "_digits2int") (i:=6) (k:=10) (a:=87) (j:=8) (FX (i:=6) rfl);haveI t1:=(kX (rN X) F1).2.2.2;haveI t2:=(kX (rM X) F2).2.2.2;refine⟨⟨o,pO e (by decide)⟩,λt ht=>wZ ht ?_⟩
 have Vb:=ht;simp only [theTabs,FS,Gu,or_false]at Vb;rcases Vb with rfl|rfl
 ·exact t1
 ·exact t2
theorem zN (X:bo w H): ∃o,vis H (H.objs.size-1)=Fv o:=by obtain⟨h1,_,h3⟩:=ul X;obtain⟨o,e⟩:=Ho.mp h1;rw [h3];exact⟨o,pO e (by decide)⟩
noncomputable abbrev Cz (w:HR) (H:Ht) (d:Nat):Cx:=⟨prg,w,H,gl2,d⟩
noncomputable def gv0:Nat->Option PV:=λk=>if k=0 then Fv (.int 4000)else if k=1 then Fv (.str kO)else Fw
noncomputable def Γp:Gam:=⟨gv0,λ_ _=>Fw,λ_ _=>Fw⟩
theorem oH:(gtab.all λe=>match e.2 with| .val k=>(k==0&&e.1==("_DIV_LIMIT" :Gj))||(k==1&&e.1==("CRLF" :Gj))| .gen k=>k==0&&e.1==("_iter_escaped_chars" :Gj)|_=>FE)=FE:=by kernel_rfl
theorem C9 (X:bo w H) (h:gl2 x=Fv (.val k)): ∃v r,gv0 k=Fv r/\cC H x v/\ ∀ok h,Rep prg w ok h r v:=by
 have hm:=GD.mp oH _ (gz h);have hm:((k==0&&x==("_DIV_LIMIT" :Gj))||(k==1&&x==("CRLF" :Gj)))=FE:=hm;rw [JD,GH,GH,beq_iff_eq,beq_iff_eq,beq_iff_eq,beq_iff_eq]at hm;rcases hm with⟨rfl,rfl⟩|⟨rfl,rfl⟩
 ·obtain⟨v,h1,h2⟩:=w7 X (n:= "_DIV_LIMIT") (v:= .int 4000 0) (FX (i:=4) rfl)
  refine⟨v,.int 4000,rfl,⟨_,_,X.top.g,X.top.b,.inl h1⟩,λok h=> ?_⟩;cases v<;>first|(cases h2;exact⟨_,rfl⟩)|cases h2
 ·obtain⟨v,h1,h2⟩:=w7 X (n:= "CRLF") (v:= .str ⟨#[13,10]⟩ 0) (FX (i:=13) rfl)
  refine⟨v,.str kO,rfl,⟨_,_,X.top.g,X.top.b,.inl h1⟩,λok h=> ?_⟩;cases v<;>first|(cases h2;exact⟨_,rfl⟩)|cases h2
theorem eu (X:bo w H) (d:Nat):an (Cz w H d) Γp where
 sy:=nE X
 val:=λx k r hx hr=>by obtain⟨v,r',h1,h2,h3⟩:=C9 X hx;have:gv0 k=Fv r:=hr;rw [h1]at this;cases this;exact⟨v,h2,h3⟩
 fn:=λx k hx=>by obtain⟨⟨n,i,kk,a,j⟩,he,h1,h2⟩:=AQ hx;obtain⟨o,fd,F⟩:=fnH X he;have h1:n=x:=h1;subst h1;exact⟨a,o,fd,F.loads,F.ho,F.hd,λargs r h=>by cases h⟩
 bi:=λx k hx=>yG X hx
 gn:=λx k hx=>by have hm:=GD.mp oH _ (gz hx);have hm:(k==0&&x==("_iter_escaped_chars" :Gj))=FE:=hm;rw [GH,beq_iff_eq,beq_iff_eq]at hm;obtain⟨o,fd,F⟩:=fnH X (n:= "_iter_escaped_chars") (i:=100) (k:=1) (a:=38) (j:=0) (FX (i:=20) rfl);rw [hm.2];exact⟨_,o,fd,F.loads,F.ho,F.hd,λargs xs h=>by cases h⟩
 ty:=λx t hx=>pQ X hx
end
noncomputable abbrev gns:ay:=(au 1).2.2.2.names
noncomputable abbrev gnm:List Gj:=gq
theorem nU:b8 gns "pos" =FE/\b8 gns "escape" =FE/\fC (gns.lookup ("enumerate" :Gj))=2/\b8 gns "addr" =FE:=by refine⟨by kernel_rfl,by kernel_rfl,by kernel_rfl,by kernel_rfl⟩
variable {Γ:Gam} {d:Nat} {OJ:Gj->Nat} {ps:List PS}
section
noncomputable def rV (X:bo w H) (d:Nat):fA (Cz w H d) Γp gnm gns where
 st1:= .Assign [.Name "pos" (px 1 [0] [1])] (.Constant (.int 0) 0 (px 1 [0] [0])) (pt 1 [0])
 st2:= .Assign [.Name "escape" (px 1 [1] [1])] (.Constant (.bool Fz) 0 (px 1 [1] [0])) (pt 1 [1])
 st3:=st 1 [2,0,1]
 st4:=st 1 [2,0,2,0]
 iter:= .Call (.Name "enumerate" (px 1 [2] [1,0])) [.Name "addr" (px 1 [2] [1,1])] [] (px 1 [2] [1])
 c1:=ex 1 [2,0] [0]
 c2:=ex 1 [2,0,2] [0]
 c3:=ex 1 [3] [0]
 y1:=ex 1 [2,0,0] [0,0]
 y2:=ex 1 [2,0,2,1] [0,0]
 y3:=ex 1 [3,0] [0,0]
 te:=kE (ex 1 [2] [0])
 tk:=0
 tp:=px 1 [2] [0]
 p1:=px 1 [2,0,0] [0]
 p2:=pt 1 [2,0,0]
 p3:=px 1 [2,0,2,1] [0]
 p4:=pt 1 [2,0,2,1]
 p5:=pt 1 [2,0,2]
 p6:=pt 1 [2,0]
 p7:=px 1 [3,0] [0]
 p8:=pt 1 [3,0]
 p9:=pt 1 [3]
 p10:=pt 1 [2]
 x1:=λA Oh ρ s E G=>by exact nv (pv:= .int 0) E G nU.1 (by decide) rfl rfl (wpAny_Constant_int ⟨λh=>⟨_,rfl⟩,_,rfl⟩)
 x2:=λA Oh ρ s E G=>by exact nv (pv:= .bool Fz) E G nU.2.1 (by decide) rfl rfl (Constant_bool ⟨λh=>rfl,_,rfl⟩)
 x3:=by
  have:=(db (Og:=gnm) (eu X d) (hnt []) gns 20).1 (st 1 [2,0,1]);rw [show sS (Cz w H d).gl gnm (hnt []) gns 20 (st 1 [2,0,1])= .set 2 0 (.cB Fz)from by kernel_rfl]at this
  exact this
 x4:=by
  have:=(db (Og:=gnm) (eu X d) (hnt []) gns 20).1 (st 1 [2,0,2,0]);rw [show sS (Cz w H d).gl gnm (hnt []) gns 20 (st 1 [2,0,2,0])= .set 2 0 (.cB FE)from by kernel_rfl]at this
  exact this
 t1:=(cK (Og:=gnm) (eu X d) 20).t _ _ _ (by kernel_rfl)
 t2:=(cK (Og:=gnm) (eu X d) 20).t _ _ _ (by kernel_rfl)
 t3:=(cK (Og:=gnm) (eu X d) 20).t _ _ _ (by kernel_rfl)
 e1:=((cK (Og:=gnm) (eu X d) 20).e _ _ _ (by kernel_rfl))
 e2:=((cK (Og:=gnm) (eu X d) 20).e _ _ _ (by kernel_rfl))
 e3:=((cK (Og:=gnm) (eu X d) 20).e _ _ _ (by kernel_rfl))
 tg:=by kernel_rfl
 it:=λA Oh ρ s x E G hx=>by
  haveI hv: ∃v,aV s.heap Oh "addr" v/\Rep prg w (λ_=>False) s.heap (.str x) v:=G.r "addr" _ (jp E.e nU.2.2.2).1 (by show ρ.get (gnm.idxOf ("addr" :Gj))=_;rw [show gnm.idxOf ("addr" :Gj)=0 from by decide];exact hx)
  obtain⟨v,V,t,rfl⟩:=hv;refine MY rfl (dq E.e (by decide) nU.2.2.1 G.h (pQ X (x:= "enumerate") (t:= "enumerate") (by kernel_rfl)) ?_)
  refine bk (λa e=>by cases e) rfl ?_
  refine bB rfl ?_;refine Mv ?_;refine im (C:=Cz w H d) (pos:=px 1 [2] [1,1]) E.e (by decide) V ?_
  refine LK ?_;exact call_enumerate_str λh' e1 e2 e3 e4=>⟨t,h',rfl,rfl,e1,e2,HK.of e4⟩
 fs:=λOh x=>rfl
theorem zW:(gns.all λx=>x.2 != .cell&&x.2 != .free)=FE:=by kernel_rfl
theorem nT:(au 1).2.2.2.kind= .function/\(au 1).2.2.2.isCoroutine=Fz/\(au 1).2.2.2.isGenerator=FE/\gns.lookup ("addr" :Gj)=Fv .local:=⟨by kernel_rfl,by kernel_rfl,by kernel_rfl,by kernel_rfl⟩
theorem ye (pm cd Oz v:FR):Np (O9 "_iter_escaped_chars" (au 1).2.1 (au 1).2.2.1 (au 1).2.2.2 pm cd Oz) ⟨[v],[]⟩=pure [(("addr" :Gj),v)]:=by kernel_rfl
theorem yd (X:bo w H) (d:Nat) (F:FnH H "_iter_escaped_chars" 1 38 o fd) (x:Gj):iS (Cz w H (d+2)) 38 [.str x] (ax 0 Fz x.cps.toList):=by
 obtain⟨pm,cd,Oz,rfl⟩:=F.ex;haveI hD:wO (Cz w H d) 38 o (O9 "_iter_escaped_chars" (au 1).2.1 (au 1).2.2.1 (au 1).2.2.2 pm cd Oz) (rV X d).body "addr" :=
  ⟨F.ho,F.hd,X.top.nolimit,zN X,nE X,F.code,congrArg FuncBody.stmts (show(au 1).2.2.1=(rV X d).body from by kernel_rfl),rfl,rfl,rfl,nT.1,nT.2.1,nT.2.2.1,λv=>ye pm cd Oz v,nT.2.2.2,λy hy=>by have:=GD.mp zW y hy;simpa using this⟩
 exact yi (C:=Cz w H d) (Og:=gnm) (fd:=O9 "_iter_escaped_chars" (au 1).2.1 (au 1).2.2.1 (au 1).2.2.2 pm cd Oz) (p:= "addr") (rV X d) hD (by decide) (by decide) (by decide)
noncomputable def gn0 (k:Nat) (args:List PV):Option (List PV):=if k=0 then a1 (oS λx=>Fv (ax 0 Fz x.cps.toList)) args else Fw
noncomputable def Γb:Gam:=⟨gv0,λ_ _=>Fw,gn0⟩
theorem C8 (X:bo w H) (d:Nat):an (Cz w H (d+2)) Γb where
 sy:=nE X
 val:=(eu X (d+2)).val
 fn:=(eu X (d+2)).fn
 bi:=(eu X (d+2)).bi
 gn:=λx k hx=>by have hm:=GD.mp oH _ (gz hx);have hm:(k==0&&x==("_iter_escaped_chars" :Gj))=FE:=hm;rw [GH,beq_iff_eq,beq_iff_eq]at hm;obtain⟨o,fd,F⟩:=fnH X (n:= "_iter_escaped_chars") (i:=100) (k:=1) (a:=38) (j:=0) (FX (i:=20) rfl);rw [hm.2];refine⟨_,o,fd,F.loads,F.ho,F.hd,λargs xs h=> ?_⟩;have h:gn0 k args=Fv xs:=h;unfold gn0 at h;rw [if_pos hm.1]at h;exact gA (Q:=λargs=>iS (Cz w H (d+2)) 38 args xs) h λx h=>fy (Q:=λx=>iS (Cz w H (d+2)) 38 [x] xs) h λx h=>FG h▸yd X d F _
 ty:=(eu X (d+2)).ty
theorem xq (X:bo w H) (G:an (Cz w H d) Γ) (hm:(n,i,k,a,j)∈ftab) (hg:gl2 n=Fv (.fn i)) (hb:yL k params Og=FE) (Qv:Bnd n k params)
  (Rq:sSs gl2 Og OJ (au k).2.2.2.names 40 (au k).2.2.1=ps):an (Cz w H (d+1)) (Γ.put i (aG Γ Og.length (params.map Og.idxOf) ps)):=by
 obtain⟨o,fd,F⟩:=fnH X hm;have D:bX (Cz w H d) a o fd (au k).2.2.1 params Og:=F.ok (C:=Cz w H d) X.top.nolimit hb Qv;have hS:=(db (Og:=Og) G OJ fd.scope.names 40).2 (au k).2.2.1;have e:fd.scope.names=(au k).2.2.2.names:=by obtain⟨pm,cd,Oz,rfl⟩:=F.ex;rfl
 rw [show sSs (Cz w H d).gl Og OJ fd.scope.names 40 (au k).2.2.1=ps from by rw [e];exact Rq]at hS
 exact(G.at (d:=d+1) (Ka _)).put (C:=Cz w H (d+1)) (x:=n) (f:=a) (o:=o) (fd:=fd) ⟨λy hy=>uz hg hy,F.loads,F.ho,F.hd⟩ λargs r hr=>dK D G.sy hS hr
end
variable {l:List (Gj×HF)}
theorem iX {xs:List Gj} {k:HF} (h:(l.all λp=>p.2 !=k||xs.contains p.1)=FE): ∀x,l.lookup x=Fv k->x∈xs:=λx hx=>by have:=GD.mp h _ (mem_of_lookup hx);simpa using this
theorem qD (h:(l.all λp=>p.2 != .cell)=FE): ∀p∈l,p.2≠ .cell:=λp hp=>by have:=GD.mp h p hp;simpa using this
noncomputable abbrev dpS:Hs:=st 10 [0]
noncomputable abbrev dpB:List Hs:=kB dpS
noncomputable abbrev C_:ay:=(au 10).2.2.2.names
theorem Ct:tY gl2 C_ (fdA dpS) dpB (fdC dpS) ⟨98,4,103,55⟩ (au 10).2.2.1:=
 rwE (tY.mk (gl:=gl2) (ns:=C_) (fdA dpS) dpB (fdC dpS) ⟨98,4,103,55⟩ (ex 10 [1] [0,0]) (ex 10 [1] [0,1,1]) (ex 10 [1] [0,1,2]) (ex 10 [1] [0,2]) (px 10 [1] [0,1,0]) (px 10 [1] [0,1]) (px 10 [1] [0]) (pt 10 [1]) (by kernel_rfl) (by kernel_rfl) (by kernel_rfl)) (show(au 10).2.2.1=_ from by kernel_rfl)
theorem A8:lu (fdC dpS).names dpB:=
 rwE (lu.mk (ns:=(fdC dpS).names) (st 10 [0,0]) (st 10 [0,1]) (st 10 [0,2]) (ex 10 [0,3] [0,0,0,1]) (ex 10 [0,3] [0,0,0,2]) (ex 10 [0,3] [0,0,1]) (ex 10 [0,3] [0,1,1]) (ex 10 [0,3] [0,1,2]) (px 10 [0,3] [0,0,0,0]) (px 10 [0,3] [0,0,0]) (px 10 [0,3] [0,0]) (px 10 [0,3] [0,1,0]) (px 10 [0,3] [0,1]) (px 10 [0,3] [0]) (pt 10 [0,3]) (by kernel_rfl) (by kernel_rfl) (by kernel_rfl) (by kernel_rfl) (by kernel_rfl) (by kernel_rfl)) (show dpB=_ from by kernel_rfl)
theorem Cu (OS:List (Gj×Gb)) (Oz pm Pv:FR) (c':Gb) (qual:Gj):gB (kK "inner" qual (fdA dpS) dpB (fdC dpS) OS Oz pm Pv c') dpB ["L","R"] dgN where
 body:=rfl
 glob:=rfl
 blt:=rfl
 kind:=by kernel_rfl
 co:=by kernel_rfl
 gen:=by kernel_rfl
 bind:=λvs h=>by
  obtain⟨a,b,rfl⟩:=pA h
  kernel_rfl
 nd:=by decide
 pn:=by decide
 pk:=λx hx=>by simp only [FS,Gu,or_false]at hx;rcases hx with rfl|rfl<;>kernel_rfl
 cell:=qD (by kernel_rfl)
noncomputable abbrev iqS:Hs:=st 9 [1]
noncomputable abbrev iqB:List Hs:=kB iqS
noncomputable abbrev ns9:ay:=(au 9).2.2.2.names
theorem C4:tU gl2 ns9 (fdA iqS) iqB (fdC iqS) ⟨83,4,92,28⟩ (au 9).2.2.1:=
 rwE (tU.mk (gl:=gl2) (ns:=ns9) (fdA iqS) iqB (fdC iqS) ⟨83,4,92,28⟩ (ex 9 [0] [0,0,0]) (ex 9 [0] [0,1]) (ex 9 [2] [0]) (ex 9 [2,0] [0,1]) (ex 9 [2,0] [0,2]) (ex 9 [2,0] [0,3]) (px 9 [0] [1]) (px 9 [0] [0,0]) (px 9 [0] [0]) (pt 9 [0]) (px 9 [2,0] [0,0]) (px 9 [2,0] [0]) (pt 9 [2,0]) (pt 9 [2]) (px 9 [3] [0]) (pt 9 [3]) (by kernel_rfl) (by kernel_rfl) (by kernel_rfl) (by kernel_rfl)) (show(au 9).2.2.1=_ from by kernel_rfl)
theorem zS:lr (fdC iqS).names iqB:=
 rwE (lr.mk (ns:=(fdC iqS).names) (st 9 [1,1]) (st 9 [1,2]) (st 9 [1,3]) (st 9 [1,4]) (ex 9 [1,0] [0]) (ex 9 [1,0,0] [1,1]) (ex 9 [1,0,0] [0]) (ex 9 [1,5] [0,1]) (ex 9 [1,5] [0,2]) (ex 9 [1,5] [0,3]) (ex 9 [1,6] [0,1]) (ex 9 [1,6] [0,2]) (ex 9 [1,6] [0,3]) (px 9 [1,0,0] [1,0]) (px 9 [1,0,0] [1]) (pt 9 [1,0,0]) (pt 9 [1,0,1]) (pt 9 [1,0]) (px 9 [1,5] [0,0]) (px 9 [1,5] [0]) (pt 9 [1,5]) (px 9 [1,6] [0,0]) (px 9 [1,6] [0]) (pt 9 [1,6]) (by kernel_rfl) (by kernel_rfl) (by kernel_rfl) (by kernel_rfl) (by kernel_rfl) (by kernel_rfl) (by kernel_rfl) (by kernel_rfl) (by kernel_rfl) (by kernel_rfl)) (show iqB=_ from by kernel_rfl)
theorem C5 (OS:List (Gj×Gb)) (Oz pm Pv:FR) (c':Gb) (qual:Gj):gB (kK "inner" qual (fdA iqS) iqB (fdC iqS) OS Oz pm Pv c') iqB ["x","L","R"] i2N where
 body:=rfl
 glob:=rfl
 blt:=rfl
 kind:=by kernel_rfl
 co:=by kernel_rfl
 gen:=by kernel_rfl
 bind:=λvs h=>by
  obtain⟨a,b,c,rfl⟩:=yK h
  kernel_rfl
 nd:=by decide
 pn:=by decide
 pk:=λx hx=>by simp only [FS,Gu,or_false]at hx;rcases hx with rfl|rfl|rfl<;>kernel_rfl
 cell:=qD (by kernel_rfl)
variable {pos:HW}
section
theorem qk (X:bo w H) (d:Nat) {q:Gj} (Rr:fX H a c0=Fv (.ref c0,.ref P0)) (F:FnH H n k a o fd) (ht:(P0,pos,q)∈theTabs) (hu: ∀t'∈theTabs,t'.1=P0->t'=(P0,pos,q)) (L:Nat):
  iR (Cz w H d) (Iw fd L a) pos q:=by
 obtain⟨e1,e2,e3⟩:=kX Rr F;obtain⟨bm,ob,h1,h2,h3,h4,h5,h6⟩:=X.top.bmain;have hP:=e3.2;have hg:=X.top.g;refine⟨c0,P0,_,ht,hu,CodeHd.of e2 e3,e1,hg,⟨bm,ob,h1,h2, ?_, ?_,h3,h4,h5,h6⟩, ?_⟩
 ·rintro rfl
  obtain⟨o,es,ep,g1,g2,_⟩:=hg;rw [h3]at g1;cases g1;rw [h6]at g2;cases g2
 ·rintro rfl
  rw [h3]at hP;cases hP;cases h6
 ·intro q
  obtain⟨o,es,ep,g1,g2,_⟩:=hg;rw [q,hP]at g1;cases g1;cases g2
theorem CG:Bnd "_digits2int" 10 ["digits","n"]:=λpm cd Oz vs h=>by
 obtain⟨a,b,rfl⟩:=pA h
 kernel_rfl
theorem yw (X:bo w H) (hd:20<=d) (G:an (Cz w H d) Γ) (F:FnH H "_digits2int" 10 87 o fd): ∀args r,F6 args=Fv r->ah prg w H (d+1) 87 args r:=by
 haveI D:bX (Cz w H d) 87 o fd (au 10).2.2.1 ["digits","n"] dgO:=F.ok (C:=Cz w H d) X.top.nolimit (by kernel_rfl) CG
 obtain⟨pm,cd,Oz,rfl⟩:=F.ex;intro args r hr;refine wL (Q:=λargs=>ah prg w H (d+1) 87 args r) hr λx y h=>BZ (Q:=λx=>ah prg w H (d+1) 87 [x,y] r) h λxs h=>ji (Q:=λy=>ah prg w H (d+1) 87 [.list xs,y] r) h λn h=>ac h λds h1 h2=>
  bc (P:=ah prg w H (d+1) 87 [.list xs,.int n]) h2 fun⟨c1,c2,c3,c4,c5⟩=> ?_
 ·rw [y4 h1]
  obtain⟨m,rfl⟩:=HC c2;have c5:((m*ds.length:Nat):Int)<=2000000:=by rw [JJ];exact c5
  have c5:m*ds.length<=2000000:=by lia
  haveI hp:2^20<=2^d:=HH (by decide) hd
  haveI e:(m+2)*ds.length=m*ds.length+2*ds.length:=Jl _ _ _;rw [GC];exact yv (C:=Cz w H d) G D Ct (by kernel_rfl) (by kernel_rfl) (λOh=>by kernel_rfl) (by kernel_rfl) (by kernel_rfl) (iX (by kernel_rfl)) (by kernel_rfl) (λL=>by
   have:=qk X d (rM X) F (pos:=⟨98,4,103,55⟩) (q:= "_digits2int.<locals>.inner") (by decide) (by decide) L
   exact this) Cu A8 (iX (by kernel_rfl)) (B:=500000) c1 (by show 2*ds.length<=2^d;lia) (by exact FF c4 (by decide)) (by lia) (by exact Fx (FM (FM (FH _) (Fx (FI e) (FM c5 (GZ (FH _) c4)))) c5) (by decide))
theorem Ef:Bnd "_int2digits" 9 ["a","n"]:=λpm cd Oz vs h=>by
 obtain⟨a,b,rfl⟩:=pA h
 kernel_rfl
theorem y9 (X:bo w H) (hd:20<=d) (G:an (Cz w H d) Γ) (F:FnH H "_int2digits" 9 80 o fd): ∀args r,F5 args=Fv r->ah prg w H (d+1) 80 args r:=by
 haveI D:bX (Cz w H d) 80 o fd (au 9).2.2.1 ["a","n"] i2O:=F.ok (C:=Cz w H d) X.top.nolimit (by kernel_rfl) Ef
 obtain⟨pm,cd,Oz,rfl⟩:=F.ex;intro args r hr;refine iP (Q:=λargs=>ah prg w H (d+1) 80 args r) hr λa n h=>bc (P:=ah prg w H (d+1) 80 [.int a,.int n]) h fun⟨c1,c2,c3,c4⟩=> ?_
 ·obtain⟨x,rfl⟩:=HC c1
  obtain⟨m,rfl⟩:=HC (I3 c2);have Vi:0<m:=by exact aZp c2
  haveI hk:=rQ (a:=x) (n:=m) Vi;haveI hp:2^20<=2^d:=HH (by decide) hd
  rw [GC,GC];exact y8 (C:=Cz w H d) G D C4 (by kernel_rfl) (by kernel_rfl) (λOh=>by kernel_rfl) (by kernel_rfl) (by kernel_rfl) (by kernel_rfl) (iX (by kernel_rfl)) (by kernel_rfl) (by kernel_rfl) (λL=>by
   have:=qk X d (rN X) F (pos:=⟨83,4,92,28⟩) (q:= "_int2digits.<locals>.inner") (by decide) (by decide) L
   exact this) C5 zS (iX (by kernel_rfl)) Vi (by lia) (by show 2*kOf x m<=2^d;lia) (by exact Fx (Fx hk.1 c4) (by decide)) (by lia)
end
section
variable {ns:ay}
theorem gC {st:Hs} {Qx:List Hs} {p:PS} (h1:dA C Γ Og ns st p) (h2:iJ C Γ Og ns Qx ps):iJ C Γ Og ns (st::Qx) (p::ps):=by
 intro A Oh s₀ Oi W ok om ρ s o F h;obtain⟨o',ho,h⟩:=FQ.mp h;refine GT ((h1 A Oh s₀ Oi W ok om ρ s o' F ho).mono λf s₁ hP=> ?_);cases o' with
 |next ρ' Ot=>
  obtain⟨hf,ok',ON,F',T,Qg⟩:=hP;subst hf;haveI h':ag Γ ps ρ' (ON.map (·.1))=Fv o:=by rw [Qg];exact h
  exact(h2 A Oh s₀ Oi W ok' ON ρ' s₁ o F' h').mono λf s₂ h=>h.seq T
 |ret v=>
  cases h;obtain⟨u,hf,hx⟩:=hP;subst hf;exact⟨u,rfl,hx⟩
theorem oh:iJ C Γ Og ns [] []:=by intro A Oh s₀ Oi W ok om ρ s o F h;cases h;exact FK ⟨rfl,ok,om,F,.refl _ _ _,rfl⟩
theorem BD {e:Expr} {pe:PE} (hE:aJ C Γ Og ns e pe):dA C Γ Og ns (.Return (Fv e) pos) (.ret pe):=by intro A Oh s₀ Oi W ok om ρ s o F h;obtain⟨v,hv,rfl⟩:=Gk.mp h;exact wl hE F hv
theorem an.putX (G:an C Γ) (hk: ∀x,C.gl x≠Fv (.fn k)) (F:List PV->Option PV):an C (Γ.put k F):=
 ⟨G.sy,G.val,λy i hy=>by haveI hi:i≠k:=λq=>hk y (q▸hy);obtain⟨f',o',Wo,h1,h2,h3,h4⟩:=G.fn y i hy;refine⟨f',o',Wo,h1,h2,h3,λargs r hr=> ?_⟩;have hr:(if i=k then F args else Γ.fn i args)=Fv r:=hr;rw [if_neg hi]at hr;exact h4 args r hr,G.bi,G.gn,G.ty⟩
end
theorem tN (h:(ftab.all λe=>e.2.1 !=k)=FE): ∀x,gl2 x≠Fv (.fn k):=λx hx=>by obtain⟨e,he,_,h2⟩:=AQ hx;have:=GD.mp h e he;rw [h2]at this;simp at this
noncomputable abbrev nA:ay:=(au 17).2.2.2.names
theorem zm:(au 17).2.2.1=[.Return (Fv (.Call (.Attribute (.Name "_twin_re_1" (px 17 [0] [0,0,0])) "sub" (px 17 [0] [0,0])) [ex 17 [0] [0,1],.Call (.Attribute (.Name "_twin_re_2" (px 17 [0] [0,2,0,0])) "sub" (px 17 [0] [0,2,0])) [ex 17 [0] [0,2,1],ex 17 [0] [0,2,2]] [] (px 17 [0] [0,2])] [] (px 17 [0] [0]))) (pt 17 [0])]:=by kernel_rfl
section
theorem wn {c:Gb} {code:Array Nat} (h:w4 H a c=Fv (.type "re.Pattern",Fw,0,0,.ref c,Fv code)):gw H a code:=
 ac h λo e h=>ac h λfs hf h=>by
  have h:=FG h;refine ac (congrArg (·.2.2.2.2.2) h:_=Fv code) λoc e2 h6=>ac h6 λitems hi h6=> ?_
  obtain⟨n,hn⟩:=Af hi;exact⟨o,fs,c,oc,items,n,e,congrArg (·.1) h,congrArg (·.2.1) h,oM hf,congrArg (·.2.2.1) h,congrArg (·.2.2.2.1) h,congrArg (·.2.2.2.2.1) h,e2,hn,FG h6⟩
theorem BY (X:bo w H):gw H 106 P1:=wn (c:=105) (congrArg (λt=>t.2.1) X.obs)
theorem BX (X:bo w H):gw H 111 P2:=wn (c:=110) (congrArg (λt=>t.2.2.1) X.obs)
noncomputable def Γq (Γ:Gam):Gam:=(Γ.put 40 (mD (dd FE))).put 41 (mD (nl Fz))
theorem CC:Bnd "quotedata" 17 ["data"]:=λpm cd Oz vs h=>by
 obtain⟨a,rfl⟩:=kh h
 kernel_rfl
theorem sH (X:bo w H) (G:an (Cz w H d) Γ) (Rn:Γ.gv 1=Fv (.str kO)) (F:FnH H "quotedata" 17 118 o fd) (x:List Nat) (hx:x.length<=20000):ah prg w H (d+1) 118 [sv x] (sv (dd FE (nl Fz x))):=by
 haveI D:bX (Cz w H d) 118 o fd (au 17).2.2.1 ["data"] bR:=F.ok (C:=Cz w H d) X.top.nolimit (by kernel_rfl) CC
 haveI e:fd.scope.names=nA:=by obtain⟨pm,cd,Oz,rfl⟩:=F.ex;rfl
 have GQ:an (Cz w H d) (Γq Γ):=(G.putX (tN (by decide+kernel)) _).putX (tN (by decide+kernel)) _
 have Sd:=cK (Og:=bR) GQ 20;have g1:sE gl2 bR 20 nA (ex 17 [0] [0,1])=Fv (.cS nC):=by kernel_rfl
 have g2:sE gl2 bR 20 nA (ex 17 [0] [0,2,1])=Fv (.glo 1):=by kernel_rfl
 have g3:sE gl2 bR 20 nA (ex 17 [0] [0,2,2])=Fv (.var 0):=by kernel_rfl
 haveI E2:=Sd.e nA (ex 17 [0] [0,2,2]) _ g3;haveI L2:=Sd.e nA (ex 17 [0] [0,2,1]) _ g2;haveI L1:=Sd.e nA (ex 17 [0] [0,1]) _ g1;haveI I2:=wj (C:=Cz w H d) (Γ:=Γq Γ) (Og:=bR) (ns:=nA) (px:=px 17 [0] [0,2,0,0]) (ap:=px 17 [0] [0,2,0]) (cp:=px 17 [0] [0,2]) (x:= "_twin_re_2") L2 (bC (de g2)) (r:=kO) (λρ=>Rn) E2 (bC (de g3)) (by decide) (by kernel_rfl) (gF X (n:= "_twin_re_2") (a:=111) (FX (i:=12) rfl)) (BX X) EF (by kernel_rfl) (k:=41) rfl
 haveI I1:=wj (C:=Cz w H d) (Γ:=Γq Γ) (Og:=bR) (ns:=nA) (px:=px 17 [0] [0,0,0]) (ap:=px 17 [0] [0,0]) (cp:=px 17 [0] [0]) (x:= "_twin_re_1") L1 (bC (de g1)) (r:=nC) (λρ=>rfl) I2 (bC rfl) (by decide) (by kernel_rfl) (gF X (n:= "_twin_re_1") (a:=106) (FX (i:=11) rfl)) (BY X) EG (by kernel_rfl) (k:=40) rfl
 haveI hS:iJ (Cz w H d) (Γq Γ) bR fd.scope.names (au 17).2.2.1 [.ret (.call 40 [.call 41 [.var 0]])]:=by rw [e,zm];exact gC (BD I1) oh
 refine dK D GQ.sy hS ?_;have hl:=lh x Fz;rw [if_neg (by decide)]at hl
 haveI e1:mD (nl Fz) [sv x]=Fv (sv (nl Fz x)):=by
  show(if x.toArray.size<=100000 then Fv (PV.str (tx (nl Fz x.toArray.toList)))else Fw)=_;rw [Gn,if_pos (by exact Fx hx (by decide))]
  rfl
 haveI e2:mD (dd FE) [sv (nl Fz x)]=Fv (sv (dd FE (nl Fz x))):=by
  show(if(nl Fz x).toArray.size<=100000 then Fv (PV.str (tx (dd FE (nl Fz x).toArray.toList)))else Fw)=_;rw [Gn,if_pos (by exact Fx (Fx hl (FM (GZ (FH _) hx) (FH _))) (by decide))]
  rfl
 haveI hp:pev (Γq Γ) (.call 40 [.call 41 [.var 0]]) [Fv (sv x)]=Fv (sv (dd FE (nl Fz x))):=aw (aa (aw (aa (v:=sv x) rfl rfl) e1) rfl) e2;show((ag (Γq Γ) [.ret (.call 40 [.call 41 [.var 0]])] [Fv (sv x)] []).bind _)=_;rw [ao (aH hp)]
 rfl
end
noncomputable abbrev B7:ay:=(au 20).2.2.2.names
theorem yZ:(au 20).2.2.1=[.Return (Fv (.Compare (ex 20 [0] [0,0]) [.In] [.Name "b1_set" (px 20 [0] [0,1])] (px 20 [0] [0]))) (pt 20 [0])]:=by kernel_rfl
theorem As: ∀i∈b1list,hashInt i=i:=by decide+kernel
theorem Ar: ∀c:Nat,b1list.contains (c:Int)=d4 c:=λc=>by
 rw [Mr,I7];unfold d4;rw [I7];haveI h1: ∀i∈b1list,i.toNat∈veilsL/\0<=i:=by decide+kernel
 haveI h2: ∀n∈veilsL,(n:Int)∈b1list:=by decide+kernel
 exact⟨λh=>by have:=(h1 _ h).1;simpa using this,h2 c⟩
section
theorem Bx (h:AC H a=Fv (.type "set",Fw,0,b1list.map (λi=>(i,.int i 0)),FE)):H.SetOf (HI prg w) a (λi=>b1list.contains i) 27:=by
 refine ac h λo e h=>ac h λy hy h=> ?_
 ·obtain⟨ep,hd⟩:=yu hy
  obtain⟨es,t⟩:=y;have h:=FG h;haveI h1:o.cls= .type "set" :=congrArg (·.1) h
  haveI h2:o.dict=Fw:=congrArg (·.2.1) h
  haveI h3:o.slots.size=0:=congrArg (·.2.2.1) h
  have h4:es.toList.map (λe=>(e.1,jO e.2))=b1list.map (λi=>(i,.int i 0)):=congrArg (·.2.2.2.1) h
  haveI h5:t.fits es.size=FE:=congrArg (·.2.2.2.2) h
  have hl:es.toList.length=27:=by have:=congrArg J2 h4;rw [FD,FD]at this;rw [this];rfl
  have hl:es.size=27:=by rw [<-hl,Jt]
  have VJ: ∀e∈es.toList,∃i∈b1list,e.1=i/\ ∃t,e.2= .int i t:=λx hx=>by
   haveI:(x.1,jO x.2)∈b1list.map (λi=>(i,IT i 0)):=by rw [<-h4];exact Ga.mpr ⟨x,hx,rfl⟩
   obtain⟨i,hi,q⟩:=Ga.mp this;simp only [Prod.mk.injEq]at q;refine⟨i,hi,q.1.symm, ?_⟩;have q2:=q.2.symm;cases hv:x.2<;>rw [hv]at q2<;>first|(cases q2;exact⟨_,rfl⟩)|cases q2
  refine⟨o,es,ep,t,e,⟨h1,h2,IV h3⟩,hd,λx hx=> ?_,λk=> ?_,by rw [hl];decide,h5,hl⟩
  ·obtain⟨i,hi,q1,t,q2⟩:=VJ x hx
   refine⟨⟨i, ?_, ?_⟩, ?_⟩
   ·rw [q2];simp [HI,Nq]
   ·rw [q1];exact(As i hi).symm
   ·rw [q2];rfl
  ·rw [I7]
   constructor
   ·intro hk
    haveI:(k,IT k 0)∈es.toList.map (λe=>(e.1,jO e.2)):=by rw [h4];exact Ga.mpr ⟨k,hk,rfl⟩
    obtain⟨x,hx,q⟩:=Ga.mp this;simp only [Prod.mk.injEq]at q;obtain⟨i,hi,q1,t,q2⟩:=VJ x hx;haveI:i=k:=by rw [<-q1];exact q.1
    subst this;exact⟨x,hx,by rw [q2];simp [HI,Nq]⟩
   ·rintro⟨x,hx,hk⟩
    obtain⟨i,hi,q1,t,q2⟩:=VJ x hx;rw [q2]at hk;haveI:i=k:=by simpa [HI,Nq]using hk
    rw [<-this];exact hi
theorem CB:Bnd "in_table_b1" 20 ["code"]:=λpm cd Oz vs h=>by
 obtain⟨a,rfl⟩:=kh h
 kernel_rfl
noncomputable def Ft (vs:List PV):Option PV:=a1 (oI λi=>Fv (.bool (b1list.contains i))) vs
theorem sp (X:bo w H) (G:an (Cz w H d) Γ) (F:FnH H "in_table_b1" 20 136 o fd) (c:Nat):ah prg w H (d+1) 136 [sv [c]] (.bool (d4 c)):=by
 haveI D:bX (Cz w H d) 136 o fd (au 20).2.2.1 ["code"] c9:=F.ok (C:=Cz w H d) X.top.nolimit (by kernel_rfl) CB
 haveI e:fd.scope.names=B7:=by obtain⟨pm,cd,Oz,rfl⟩:=F.ex;rfl
 have GQ:an (Cz w H d) (Γ.put 42 Ft):=G.putX (tN (by decide+kernel)) _
 haveI Sd:=cK (Og:=c9) GQ 20;haveI g1:sE gl2 c9 20 B7 (ex 20 [0] [0,0])=Fv (.bi .ord [.var 0]):=by kernel_rfl
 haveI E1:=Sd.e B7 (ex 20 [0] [0,0]) _ g1;haveI R9:H.SetOf (HI prg w) 126 (λi=>b1list.contains i) 27:=Bx (congrArg (λt=>t.2.2.2.2.2.1) X.obs);haveI hS:iJ (Cz w H d) (Γ.put 42 Ft) c9 fd.scope.names (au 20).2.2.1 [.ret (.call 42 [.bi .ord [.var 0]])]:=by
  rw [e,yZ];refine gC (vF (C:=Cz w H d) (k:=42) E1 (by decide) (by kernel_rfl) (gF X (n:= "b1_set") (a:=126) (FX (i:=15) rfl)) R9 λvs r h=> ?_) oh
  exact gA (Q:=λvs=> ∃i,vs=[PV.int i]/\r= .bool (b1list.contains i)) h λx h=>ji (Q:=λx=> ∃i,[x]=[PV.int i]/\r= .bool (b1list.contains i)) h λi h=>⟨i,rfl,(FG h).symm⟩
 refine dK D GQ.sy hS ?_;haveI e0:(["code"]:List Gj).map c9.idxOf=[0]:=by decide
 rw [e0];haveI:aG (Γ.put 42 Ft) c9.length [0] [.ret (.call 42 [.bi .ord [.var 0]])] [sv [c]]=Fv (.bool (b1list.contains (c:Int))):=rfl;rw [this,Ar]
end
noncomputable abbrev uM:ay:=(au 22).2.2.2.names
theorem zK:(au 22).2.2.1=[.Assign [.Name "r" (px 22 [0] [1])] (.Call (.Attribute (.Name "b3_exceptions" (px 22 [0] [0,0,0])) "get" (px 22 [0] [0,0])) [ex 22 [0] [0,1]] [] (px 22 [0] [0])) (pt 22 [0]),st 22 [1],st 22 [2]]:=by kernel_rfl
noncomputable def mps:List PS:=[.set 1 0 (.call 43 [.bi .ord [.var 0]]),.ite (.cmp .IsNot (.var 1) .cN) [.ret (.var 1)] [],.ret (.meth .lower (.var 0) [])]
noncomputable def Fg (vs:List PV):Option PV:=a1 (oI λi=>Fv (match iF.lookup i with|some t=> .str t|none=> .none)) vs
theorem nh: ∀{OM:List (Int×FR)} {ts:List (Int×Gj)},kM OM ts-> ∀i,(match Mu OM i with|none=>ts.lookup i=Fw|some v=> ∃t u,v= .str t u/\ts.lookup i=Fv t)
 |[],[],_,i=>rfl
 |kv::r,t::ts,h,i=>by
  obtain⟨h1,⟨u,h2⟩,h3⟩:=h;have ih:=nh h3 i;unfold Mu at ih ⊢
  rw [Mp];obtain⟨t1,t2⟩:=t;have h1:kv.1=t1:=h1;by_cases hk:kv.1=i
  ·rw [decide_eq_true hk]
   refine⟨t2,u,h2, ?_⟩;rw [Hh,show(i==t1)=FE from by rw [beq_iff_eq,<-h1,hk]]
  ·rw [decide_eq_false hk]
   haveI:(i==t1)=Fz:=by rw [beq_eq_false_iff_ne,<-h1];exact λe=>hk e.symm
   rw [Hh,this];exact ih
section
theorem CA:Bnd "map_table_b3" 22 ["code"]:=λpm cd Oz vs h=>by
 obtain⟨a,rfl⟩:=kh h
 kernel_rfl
theorem C0 (c:Nat):aG (Γ.put 43 Fg) 2 [0] mps [sv [c]]=Fv (sv (dE c)):=by
 have h0:pev (Γ.put 43 Fg) (.call 43 [.bi .ord [.var 0]]) [Fv (sv [c]),Fw]=Fv (match iF.lookup (c:Int)with|some t=> .str t|none=> .none):=rfl
 unfold dE;cases h:iF.lookup (c:Int)with
 |some t=>
  rw [h]at h0;show((ag (Γ.put 43 Fg) mps [Fv (sv [c]),Fw] []).bind _)=_;unfold mps;rw [a7 (aj h0)]
  rfl
 |none=>
  rw [h]at h0;have hl:=qy c;unfold dE at hl;rw [h]at hl;haveI hq:Jg (Jr ⟨#[c]⟩).length=Fz:=by haveI h2:(Jr ⟨#[c]⟩).length=(Jr ⟨#[c]⟩).cps.size:=rfl;have hl:(Jr ⟨#[c]⟩).cps.toList.length<=5:=hl;rw [Jt]at hl;rw [h2];unfold Jg;simp only [decide_eq_false_iff_not];haveI:F_=2^24:=rfl;exact Ix (Fx hl (by decide))
  haveI e1:pev (Γ.put 43 Fg) (.meth .lower (.var 0) []) [Fv (sv [c]),Fv .none]=Fv (.str (Jr ⟨#[c]⟩)):=by exact eE hq
  show((ag (Γ.put 43 Fg) mps [Fv (sv [c]),Fw] []).bind _)=_;unfold mps;rw [a7 (aj h0)];rw [a7 (ρ':=[Fv (sv [c]),Fv .none]) (Ot:=[]) rfl,ao (aH e1)]
  rfl
theorem xR (X:bo w H) (G:an (Cz w H d) Γ) (F:FnH H "map_table_b3" 22 182 o fd) (c:Nat):ah prg w H (d+1) 182 [sv [c]] (sv (dE c)):=by
 haveI D:bX (Cz w H d) 182 o fd (au 22).2.2.1 ["code"] bh:=F.ok (C:=Cz w H d) X.top.nolimit (by kernel_rfl) CA
 haveI e:fd.scope.names=uM:=by obtain⟨pm,cd,Oz,rfl⟩:=F.ex;rfl
 have GQ:an (Cz w H d) (Γ.put 43 Fg):=G.putX (tN (by decide+kernel)) _
 haveI Sd:=cK (Og:=bh) GQ 20;have SS:=db (Og:=bh) GQ (hnt []) uM 20;have g1:sE gl2 bh 20 uM (ex 22 [0] [0,1])=Fv (.bi .ord [.var 0]):=by kernel_rfl
 haveI E1:=Sd.e uM (ex 22 [0] [0,1]) _ g1;obtain⟨od,W0,es,ep,OM,q1,q2,q3,q4,q5,q6⟩:=X.dict;haveI QI:H.MapOf (HI prg w) 137 (Mu OM):=Jz ⟨od,es,ep,W0,q1,q2,q3,q4,q5⟩;have S2:=SS.1 (st 22 [1]);have S3:=SS.1 (st 22 [2]);rw [show sS (Cz w H d).gl bh (hnt []) uM 20 (st 22 [1])= .ite (.cmp .IsNot (.var 1) .cN) [.ret (.var 1)] []from by kernel_rfl]at S2
 rw [show sS (Cz w H d).gl bh (hnt []) uM 20 (st 22 [2])= .ret (.meth .lower (.var 0) [])from by kernel_rfl]at S3
 haveI hS:iJ (Cz w H d) (Γ.put 43 Fg) bh fd.scope.names (au 22).2.2.1 mps:=by
  rw [e,zK];refine gC (Ca (C:=Cz w H d) (k:=43) (g:=λi=>iF.lookup i) ⟨E1,de g1⟩ (by kernel_rfl) (by decide) (by decide) (by kernel_rfl) (gF X (n:= "b3_exceptions") (a:=137) (FX (i:=17) rfl)) (by kernel_rfl) QI (by decide) (nh q6) λvs r h=> ?_) (gC S2 (gC S3 oh))
  exact gA (Q:=λvs=> ∃i,vs=[PV.int i]/\r=(match iF.lookup i with|some t=> .str t|none=> .none)) h λx h=>ji (Q:=λx=> ∃i,[x]=[PV.int i]/\r=(match iF.lookup i with|some t=> .str t|none=> .none)) h λi h=>⟨i,rfl,(FG h).symm⟩
 refine dK D GQ.sy hS ?_;haveI e0:(["code"]:List Gj).map bh.idxOf=[0]:=by decide
 rw [e0];exact C0 c
end
theorem su (l:List Nat):(aY l).length<=l.length:=by have h:=jr l ⟨[],[],Fw,Fz⟩;haveI e:(⟨[],[],Fw,Fz⟩:SM).fin.length=0:=rfl;rw [e]at h;simpa [aY]using h
noncomputable def G0:Gam:=Γb.put 0 (aG Γb 6 [0] bM)
noncomputable def G1:Gam:=G0.put 1 (aG G0 4 [0] cP)
noncomputable def G2:Gam:=G1.put 2 (aG G1 3 [0] cb)
noncomputable def G5:Gam:=G2.put 5 F5
noncomputable def G6:Gam:=G5.put 6 F6
noncomputable def G8:Gam:=G6.put 8 F8
noncomputable def F9 (vs:List PV):Option PV:=a1 (oS λx=>giv (x.cps.size<=20000) (sv (dd FE (nl Fz x.cps.toList)))) vs
noncomputable def F10 (vs:List PV):Option PV:=a1 (oS λx=>(gm x.cps.toList).map λc=> .bool (d4 c)) vs
noncomputable def F11 (vs:List PV):Option PV:=a1 (oS λx=>(gm x.cps.toList).map λc=>sv (dE c)) vs
theorem ch1 {c:Nat} (h:gm x.cps.toList=Fv c):PV.str x=sv [c]:=congrArg (λl:List Nat=>PV.str ⟨l.toArray⟩) (cr h)
noncomputable def G9:Gam:=G8.put 9 F9
noncomputable def G10:Gam:=G9.put 10 F10
noncomputable def G11:Gam:=G10.put 11 F11
noncomputable def G12:Gam:=G11.put 12 (aG G11 2 [0,1] dv)
noncomputable def G13:Gam:=G12.put 13 (aG G12 7 [0] cO)
noncomputable def G14:Gam:=G13.put 14 (aG G13 6 [0,1] j7)
noncomputable def G15:Gam:=G14.put 15 (aG G14 3 [0] gH)
noncomputable def G16:Gam:=G15.put 16 (aG G15 3 [0] j8)
noncomputable def G17:Gam:=G16.put 17 (aG G16 4 [0] ee)
noncomputable def G18:Gam:=G17.put 18 (aG G17 29 [0,1,2] aO)
noncomputable def G19:Gam:=G18.put 19 (aG G18 17 [0,1,2,3] aA)
theorem nG {F:List PV->Option PV} (args:List PV):(Γ.put k F).fn k args=F args:=if_pos rfl
theorem A6:bM=ij:=rfl
theorem A7:cP=ll:=rfl
theorem DY:cb=vU:=rfl
theorem Cp:gH=tR:=rfl
theorem EU (h:y.cps.size<=100000):G0.fn 0 [.str y]=Fv (.str ⟨(aY y.cps.toList).toArray⟩):=by rw [G0,nG,A6];exact sw h rfl
theorem Ba (l:List Nat) (h:l.length<=2000):G1.fn 1 [sv l]=Fv (.bool (d5 l)):=by rw [G1,nG,A7];exact tD (x:=⟨l.toArray⟩) (EU (y:=⟨l.toArray⟩) (by show l.toArray.size<=_;rw [Gn];exact Fx h (by decide))) (λy _=>rfl) (su l)
theorem ET (ls:List (List Nat)) (h:ls.length<1000) (h2: ∀l∈ls,l.length<=2000):G2.fn 2 [.list (ls.map sv)]=Fv (.list (ls.map λl=>sv (bW l))):=by rw [G2,nG,DY];exact xu (λl hl=>Ba l (h2 l hl)) h
theorem Cc (vs:List (List Nat)) (h:vs.length<=1000):G15.fn 15 [.list (vs.map sv)]=Fv (sv (aP vs)):=by rw [G15,nG,Cp];exact vS h
theorem DX (l:List Nat) (h:l.length<=2000):G15.fn 1 [sv l]=Fv (.bool (d5 l)):=Ba l h
theorem zX:Way G17 where
 h9:=λx h=>if_pos (show x.toArray.size<=20000 by rw [Gn];exact h)
 h10:=λc=>rfl
 h11:=λc=>rfl
variable {xs:List Int}
theorem Cb (hl:xs.length<=1000): ∃hf,LG G19 (.list (xs.map .int)) hf:=by
 haveI H: ∀p:Nat,∃h:Int,p<5->aG G11 2 [0,1] dv [.list (xs.map .int),.int p]=Fv (.int h):=λp=>by
  by_cases hp:p<5
  ·obtain⟨h,e⟩:=vI (Γ:=G11) hl hp
   exact⟨h,λ_=>e⟩
  ·exact⟨0,λq=>absurd q hp⟩
 obtain⟨hf,hH⟩:=Classical.axiomOfChoice H;refine⟨hf,Ba,ET,λargs r h=>h,hH,λn hn=> ?_,λrow Om h1 h2=> ?_,λus h1 h2=> ?_,λn hn r hr=> ?_,λOn N hp ab h1 h2 h3 h4=> ?_,λw f e sd h1 h2 h3 h4 h5 h6 h7 s hs M hM=> ?_⟩
 ·show aG G12 7 [0] cO [.int (n:Nat)]=_
  simp only [FS,Gu,or_false]at hn;rcases hn with rfl|rfl|rfl|rfl
  ·exact BB
  ·exact BA
  ·exact Bz
  ·exact By
 ·exact si h1 h2 Om
 ·exact sR (Γ:=G15) DX Cc h1 h2
 ·exact zU (Γ:=G16) hn hr
 ·exact sZ zX h1 h2 h3 h4
 ·show aG G18 17 [0,1,2,3] aA [.int (2^(s+1)-2:Int),.int (M:Nat),.int w,.tuple [.int f,.int e,.int sd]]=_
  have f5: ∀args r,F5 args=Fv r->G18.fn 5 args=Fv r:=λargs r h=>h;have f6: ∀args r,F6 args=Fv r->G18.fn 6 args=Fv r:=λargs r h=>h;have f8: ∀args r,F8 args=Fv r->G18.fn 8 args=Fv r:=λargs r h=>h;simp only [FS,Gu,or_false]at hs hM;rcases hs with rfl|rfl|rfl<;>rcases hM with rfl|rfl
  ·exact tB f5 f6 f8 h1 h2 h3 h4 h5 h6 h7
  ·exact tA f5 f6 f8 h1 h2 h3 h4 h5 h6 h7
  ·exact tz f5 f6 f8 h1 h2 h3 h4 h5 h6 h7
  ·exact tw f5 f6 f8 h1 h2 h3 h4 h5 h6 h7
  ·exact tv f5 f6 f8 h1 h2 h3 h4 h5 h6 h7
  ·exact tu f5 f6 f8 h1 h2 h3 h4 h5 h6 h7
section
theorem gt (X:bo w H) (G:an (Cz w H d) Γ) {l:Nat} {is:List Nat} (hm:(n,i,k,a,j)∈ftab) (hg:gl2 n=Fv (.fn i)) (hb:yL k params Og=FE) (Qv:Bnd n k params)
  (Rq:sSs gl2 Og OJ (au k).2.2.2.names 40 (au k).2.2.1=ps) (hl:Og.length=l) (Sn:params.map Og.idxOf=is):an (Cz w H (d+1)) (Γ.put i (aG Γ l is ps)):=by
 subst hl Sn;exact xq X G hm hg hb Qv Rq
theorem EO (X:bo w H):an (Cz w H 33) G2:=by
 haveI g:=C8 X 28;haveI a0:=gt X g (n:= "_strip_quoted_realnames") (i:=0) (k:=2) (a:=45) (j:=1) (params:=["addr"]) (FX (i:=0) rfl) (by kernel_rfl) (by kernel_rfl) (λpm cd Oz vs h=>by
  obtain⟨a,rfl⟩:=kh h
  kernel_rfl) fa (l:=6) rfl (is:=[0]) (by decide)
 haveI a1:=gt X a0 (n:= "_check_parenthesis") (i:=1) (k:=3) (a:=52) (j:=2) (params:=["addr"]) (FX (i:=1) rfl) (by kernel_rfl) (by kernel_rfl) (λpm cd Oz vs h=>by
  obtain⟨a,rfl⟩:=kh h
  kernel_rfl) gN (l:=4) rfl (is:=[0]) (by decide)
 exact gt X a1 (n:= "_pre_parse_validation") (i:=2) (k:=4) (a:=59) (j:=3) (params:=["email_header_fields"]) (FX (i:=2) rfl) (by kernel_rfl) (by kernel_rfl) (λpm cd Oz vs h=>by
  obtain⟨a,rfl⟩:=kh h
  kernel_rfl) fM (l:=3) rfl (is:=[0]) (by decide)
end
section
theorem df (hg:gl2 n=Fv (.fn i)) (F:FnH H n k a o fd):kj (Cz w H d) n i a o fd:=⟨λy hy=>uz hg hy,F.loads,F.ho,F.hd⟩
theorem Eh:Bnd "_div2n1n" 7 ["a","b","n"]:=λpm cd Oz vs h=>by
 obtain⟨a,b,c,rfl⟩:=yK h
 kernel_rfl
theorem Eg:Bnd "_div3n2n" 8 ["a12","a3","b","b1","b2","n"]:=λpm cd Oz vs h=>by
 obtain⟨a,b,c,d,e,f,rfl⟩:=EP h
 kernel_rfl
theorem CF:Bnd "_divmod_pos" 11 ["a","b"]:=λpm cd Oz vs h=>by
 obtain⟨a,b,rfl⟩:=pA h
 kernel_rfl
theorem CD:Bnd "int_divmod" 12 ["a","b"]:=λpm cd Oz vs h=>by
 obtain⟨a,b,rfl⟩:=pA h
 kernel_rfl
theorem EK:sSs gl2 n2N h0 (au 7).2.2.2.names 40 (au 7).2.2.1=nB:=by kernel_rfl
theorem EJ:sSs gl2 n3N h0 (au 8).2.2.2.names 40 (au 8).2.2.1=pC:=by kernel_rfl
theorem EI:sSs gl2 n7N h7 (au 11).2.2.2.names 40 (au 11).2.2.1=rz:=by kernel_rfl
theorem EH:sSs gl2 n8N h0 (au 12).2.2.2.names 40 (au 12).2.2.1=rq:=by kernel_rfl
theorem EN (X:bo w H):an (Cz w H 60) G8:=by
 have a2:=EO X;obtain⟨o2,f2,E2⟩:=fnH X (n:= "_div2n1n") (i:=3) (k:=7) (a:=66) (j:=5) (FX (i:=3) rfl);obtain⟨o3,f3,E3⟩:=fnH X (n:= "_div3n2n") (i:=4) (k:=8) (a:=73) (j:=6) (FX (i:=4) rfl);obtain⟨o5,f5,E5⟩:=fnH X (n:= "_int2digits") (i:=5) (k:=9) (a:=80) (j:=7) (FX (i:=5) rfl);obtain⟨o6,f6,E6⟩:=fnH X (n:= "_digits2int") (i:=6) (k:=10) (a:=87) (j:=8) (FX (i:=6) rfl);obtain⟨o7,f7,E7⟩:=fnH X (n:= "_divmod_pos") (i:=7) (k:=11) (a:=94) (j:=9) (FX (i:=7) rfl);obtain⟨o8,f8,E8⟩:=fnH X (n:= "int_divmod") (i:=8) (k:=12) (a:=101) (j:=10) (FX (i:=8) rfl);have P5:=y9 X (by decide) a2 E5
 have P6:=yw X (by decide) a2 E6
 haveI D2:bX (Cz w H 33) 66 o2 f2 (au 7).2.2.1 ["a","b","n"] n2N:=E2.ok (C:=Cz w H 33) X.top.nolimit (by kernel_rfl) Eh
 haveI D3:bX (Cz w H 33) 73 o3 f3 (au 8).2.2.1 ["a12","a3","b","b1","b2","n"] n3N:=E3.ok (C:=Cz w H 33) X.top.nolimit (by kernel_rfl) Eg
 haveI D7:bX (Cz w H 33) 94 o7 f7 (au 11).2.2.1 ["a","b"] n7N:=E7.ok (C:=Cz w H 33) X.top.nolimit (by kernel_rfl) CF
 haveI D8:bX (Cz w H 33) 101 o8 f8 (au 12).2.2.1 ["a","b"] n8N:=E8.ok (C:=Cz w H 33) X.top.nolimit (by kernel_rfl) CD
 haveI s2:sSs (Cz w H 33).gl n2N h0 f2.scope.names 40 (au 7).2.2.1=nB:=by obtain⟨pm,cd,Oz,rfl⟩:=E2.ex;exact EK
 haveI s3:sSs (Cz w H 33).gl n3N h0 f3.scope.names 40 (au 8).2.2.1=pC:=by obtain⟨pm,cd,Oz,rfl⟩:=E3.ex;exact EJ
 haveI s7:sSs (Cz w H 33).gl n7N h7 f7.scope.names 40 (au 11).2.2.1=rz:=by obtain⟨pm,cd,Oz,rfl⟩:=E7.ex;exact EI
 haveI s8:sSs (Cz w H 33).gl n8N h0 f8.scope.names 40 (au 12).2.2.1=rq:=by obtain⟨pm,cd,Oz,rfl⟩:=E8.ex;exact EH
 haveI k3:gl2 "_div2n1n" =Fv (.fn 3):=by kernel_rfl
 haveI k4:gl2 "_div3n2n" =Fv (.fn 4):=by kernel_rfl
 have k5:gl2 "_int2digits" =Fv (.fn 5):=by kernel_rfl
 have k6:gl2 "_digits2int" =Fv (.fn 6):=by kernel_rfl
 haveI k7:gl2 "_divmod_pos" =Fv (.fn 7):=by kernel_rfl
 have k8:gl2 "int_divmod" =Fv (.fn 8):=by kernel_rfl
 haveI P7:=Dz (C:=Cz w H 33) a2 rfl (df k3 E2) (df k4 E3) (df k5 E5) (df k6 E6) D2 D3 D7 s2 s3 s7 P5 P6;haveI P8:=Dy (C:=Cz w H 33) (d:=53) a2 (df k7 E7) (df k8 E8) D8 s8 (IJ rfl) P7;haveI b5:an (Cz w H 60) G5:=(a2.at (d:=60) (IJ rfl)).put (C:=Cz w H 60) (df k5 E5) λargs r hr=>(P5 args r hr).mono (IJ rfl);haveI b6:an (Cz w H 60) G6:=b5.put (C:=Cz w H 60) (df k6 E6) λargs r hr=>(P6 args r hr).mono (IJ rfl);exact b6.put (C:=Cz w H 60) (df k8 E8) λargs r hr=>(P8 args r hr).mono (IJ rfl)
theorem DO (X:bo w H):an (Cz w H 61) G11:=by
 have a:=EN X;obtain⟨o9,f9,E9⟩:=fnH X (n:= "quotedata") (i:=9) (k:=17) (a:=118) (j:=14) (FX (i:=9) rfl);obtain⟨o10,f10,E10⟩:=fnH X (n:= "in_table_b1") (i:=10) (k:=20) (a:=136) (j:=16) (FX (i:=10) rfl);obtain⟨o11,f11,E11⟩:=fnH X (n:= "map_table_b3") (i:=11) (k:=22) (a:=182) (j:=18) (FX (i:=11) rfl);haveI k9:gl2 "quotedata" =Fv (.fn 9):=by kernel_rfl
 haveI k10:gl2 "in_table_b1" =Fv (.fn 10):=by kernel_rfl
 haveI k11:gl2 "map_table_b3" =Fv (.fn 11):=by kernel_rfl
 haveI b9:an (Cz w H 61) G9:=(a.at (d:=61) (IJ rfl)).put (C:=Cz w H 61) (df k9 E9) λargs r hr=>by exact gA (Q:=λargs=>ah prg w H 61 118 args r) hr λv h=>fy (Q:=λv=>ah prg w H 61 118 [v] r) h λx h=>bc (P:=ah prg w H 61 118 [.str x]) h λhx=>sH X a rfl E9 x.cps.toList (by rw [Jt];exact hx)
 haveI b10:an (Cz w H 61) G10:=b9.put (C:=Cz w H 61) (df k10 E10) λargs r hr=>by exact gA (Q:=λargs=>ah prg w H 61 136 args r) hr λv h=>fy (Q:=λv=>ah prg w H 61 136 [v] r) h λx h=>aM (P:=ah prg w H 61 136 [.str x]) h λc hc=>ch1 hc▸sp X a E10 c
 exact b10.put (C:=Cz w H 61) (df k11 E11) λargs r hr=>by exact gA (Q:=λargs=>ah prg w H 61 182 args r) hr λv h=>fy (Q:=λv=>ah prg w H 61 182 [v] r) h λx h=>aM (P:=ah prg w H 61 182 [.str x]) h λc hc=>ch1 hc▸xR X a E11 c
theorem DN (X:bo w H):an (Cz w H 69) G19:=by
 have a:=DO X;have a:=gt X a (n:= "_law_heap") (i:=12) (k:=24) (a:=189) (j:=19) (params:=["script","place"]) (FX (i:=12) rfl) (by kernel_rfl) (by kernel_rfl) (λpm cd Oz vs h=>by
  obtain⟨a,b,rfl⟩:=pA h
  kernel_rfl) qN (l:=2) rfl (is:=[0,1]) (by decide)
 have a:=gt X a (n:= "_law_rows") (i:=13) (k:=25) (a:=194) (j:=20) (params:=["pairs"]) (FX (i:=13) rfl) (by kernel_rfl) (by kernel_rfl) (λpm cd Oz vs h=>by
  obtain⟨a,rfl⟩:=kh h
  kernel_rfl) qM (l:=7) rfl (is:=[0]) (by decide)
 have a:=gt X a (n:= "_law_units") (i:=14) (k:=26) (a:=201) (j:=21) (params:=["row","way"]) (FX (i:=14) rfl) (by kernel_rfl) (by kernel_rfl) (λpm cd Oz vs h=>by
  obtain⟨a,b,rfl⟩:=pA h
  kernel_rfl) oQ (l:=6) rfl (is:=[0,1]) (by decide)
 have a:=gt X a (n:= "_law_bare") (i:=15) (k:=27) (a:=206) (j:=22) (params:=["units"]) (FX (i:=15) rfl) (by kernel_rfl) (by kernel_rfl) (λpm cd Oz vs h=>by
  obtain⟨a,rfl⟩:=kh h
  kernel_rfl) qO (l:=3) rfl (is:=[0]) (by decide)
 have a:=gt X a (n:= "_law_parts") (i:=16) (k:=28) (a:=213) (j:=23) (params:=["units"]) (FX (i:=16) rfl) (by kernel_rfl) (by kernel_rfl) (λpm cd Oz vs h=>by
  obtain⟨a,rfl⟩:=kh h
  kernel_rfl) oR (l:=3) rfl (is:=[0]) (by decide)
 have a:=gt X a (n:= "_law_height") (i:=17) (k:=29) (a:=220) (j:=24) (params:=["row"]) (FX (i:=17) rfl) (by kernel_rfl) (by kernel_rfl) (λpm cd Oz vs h=>by
  obtain⟨a,rfl⟩:=kh h
  kernel_rfl) mx (l:=4) rfl (is:=[0]) (by decide)
 have a:=gt X a (n:= "_law_needs") (i:=18) (k:=30) (a:=225) (j:=25) (params:=["parts","needs","heap"]) (FX (i:=18) rfl) (by kernel_rfl) (by kernel_rfl) (λpm cd Oz vs h=>by
  obtain⟨a,b,c,rfl⟩:=yK h
  kernel_rfl) oU (l:=29) rfl (is:=[0,1,2]) (by decide)
 exact gt X a (n:= "_law_counts") (i:=19) (k:=31) (a:=230) (j:=26) (params:=["bound","most","width","units"]) (FX (i:=19) rfl) (by kernel_rfl) (by kernel_rfl) (λpm cd Oz vs h=>by
  obtain⟨a,b,c,d,rfl⟩:=D5 h
  kernel_rfl) my (l:=17) rfl (is:=[0,1,2,3]) (by decide)
theorem xX (X:bo w H) (F:FnH H "law" 32 235 o fd) (hl:xs.length<=1000):ah prg w H 70 235 [.list (xs.map .int)] (.bool FE):=by
 have G:=DN X;haveI D:bX (Cz w H 69) 235 o fd (au 32).2.2.1 ["script"] lf:=F.ok (C:=Cz w H 69) X.top.nolimit (by kernel_rfl) λpm cd Oz vs h=>by
  obtain⟨a,rfl⟩:=kh h
  kernel_rfl
 have hS:=(db (Og:=lf) G (hnt [("by_size",9),("ranks",9),("found",1),("counts",3)]) fd.scope.names 40).2 (au 32).2.2.1;haveI e:fd.scope.names=(au 32).2.2.2.names:=by obtain⟨pm,cd,Oz,rfl⟩:=F.ex;rfl
 rw [show sSs (Cz w H 69).gl lf (hnt [("by_size",9),("ranks",9),("found",1),("counts",3)]) fd.scope.names 40 (au 32).2.2.1=l4 from by rw [e];exact Bt]at hS
 refine dK D G.sy hS ?_;haveI e0:(["script"]:List Gj).map lf.idxOf=[0]:=by decide
 rw [e0];obtain⟨hf,L⟩:=Cb hl;exact xW L
end
theorem ux: ∀{ds:List WData},WShape.hasItems [] ds .int=FE-> ∃xs:List Int,ds=xs.map .int
 |[],_=>⟨[],rfl⟩
 |d::ds,h=>by
  obtain⟨i,rfl⟩:=hasW_int (hasItemsW_at h d FT);rw [hasItems_all]at h;obtain⟨xs,e⟩:=ux (ds:=ds) (by rw [hasItems_all];exact(GG.mp (by simpa using h)).2)
  exact⟨i::xs,by rw [e];rfl⟩
theorem Av {args:List WData} (h:WShape.hasAll [] args [.list .int]=FE): ∃xs:List Int,args=[.list (xs.map .int)]:=by obtain⟨d,r,rfl,h1,h2⟩:=hasAllW_cons h;obtain rfl:=hasAllW_nil h2;obtain⟨ds,rfl,h3⟩:=hasW_list h1;obtain⟨xs,rfl⟩:=ux h3;exact⟨xs,rfl⟩
theorem C1 (h:Iz.pre.holds [] {args:=[.list (xs.map .int)]}=FE):xs.length<=63:=by
 have h:WTm.holds [] (.and (.not (.lit (.bool (decide ((63:Int)<(xs.map WData.int).length))))) (.lit (.bool FE))) {args:=[.list (xs.map .int)]}=FE:=h;rw [FD]at h;by_cases hc:(63:Int)<(xs.length:Nat)
 ·rw [decide_eq_true hc]at h
  cases h
 ·lia
theorem zr (args ds:List WData):Iz.row.toRowW.claim.post args (.bool FE) ds=FE:=by
 have e:same (.bool FE) (.bool FE)=FE:=by rw [same];rfl
 refine GG.mpr ⟨rfl, ?_⟩;show WTm.holds [] (.lit (.bool (same (.bool FE) (.bool FE)))) {args:=args}=FE;rw [e]
 rfl
section
variable {cl:Gj->Option Gb}
theorem ue: ∀{vs:List FR} {xs:List Int} {as:List Gb},ReadsAllW [] cl h vs (xs.map .int) as->av prg w (λ_=>True) h (xs.map .int) vs
 |_,[],_,.nil=>rfl
 |_,x::xs,_,r=>by
  cases r with
  |cons r1 r2=>
   cases r1;exact⟨_,_,rfl,⟨_,rfl⟩,ue r2⟩
theorem yX {as:List Gb} (r:ReadsAllW [] cl h vs [.list (xs.map .int)] as) (hs: ∀a∈as,(a==Hf)=Fz):av prg w (λ_=>True) h [.list (xs.map .int)] vs:=by
 cases r with
 |cons r1 r2=>
  cases r2;cases r1 with
  | @list a o vs n xs as ho hc hd rr=>exact⟨_,_,rfl,⟨a,vs.toList,rfl,trivial,hs a (by simp),⟨o,ho,hc,n,by rw [Array.toArray_toList];exact hd⟩,ue rr⟩,rfl⟩
theorem BO {s s':Ht} (hk:HK s s') (hT: ∀t∈theTabs,∃c,s.IsCode c t.1 #[]/\s.TableAt c t.1 #[]) (hS:Sys s):OldK s s':=by
 have key: ∀b o,s.get? b=Fv o->asItWas s s' b o/\ ∃o',s'.get? b=Fv o':=λb o e=>by
  by_cases hb: ∃t∈theTabs,t.1=b
  ·obtain⟨t,ht,rfl⟩:=hb
   obtain⟨c,_,⟨oc,vs,f1,f2,f3,f4⟩,f5⟩:=hT t ht;rw [f5]at e;cases e;obtain⟨ps,e',_⟩:=((hS.keep hk).tab ht).ok;exact⟨.inr (.inl ⟨⟨c,oc,vs,f1,f2,f3,f4⟩,rfl, #[],ps,rfl,by rw [e',Array.empty_append]⟩),_,e'⟩
  ·haveI e1:vis s b=Fv o:=by rw [kl hb];exact e
   have e2:=hk b o e1;rw [kl hb]at e2;exact⟨.inl e2,_,e2⟩
 exact⟨λb o e=>(key b o e).1,λb o e=>(key b o e).2⟩
end
theorem zM: ∃d VN,defOf qv "law" =Fv (d,VN)/\prg.theDef "law" =Fv (d.params,d.body,d.scope)/\kwWritten? d.params.kwonlyargs d.params.kw_defaults=Fv VN:=by
 haveI h:(defOf qv "law").isSome=FE:=by kernel_rfl
 obtain⟨x,e⟩:=Ho.mp h;refine⟨x.1,x.2,e, ?_, ?_⟩
 ·have:(defOf qv "law").map (λx=>Fv (x.1.params,x.1.body,x.1.scope))=Fv (prg.theDef "law"):=by kernel_rfl
  rw [e]at this;exact(FG this).symm
 ·have:(defOf qv "law").map (λx=>kwWritten? x.1.params.kwonlyargs x.1.params.kw_defaults)=(defOf qv "law").map (λx=>Fv x.2):=by kernel_rfl
  rw [e]at this;exact FG this
theorem xr:prg.bare:=⟨rfl,rfl,rfl,rfl,rfl,by decide+kernel⟩
theorem v8:opensWell prg=FE:=by decide+kernel
theorem ja:Iz.row.toRowW.promised:=⟨[.list [.int 1,.int 2]],by decide+kernel,by decide+kernel⟩
theorem z3 (X:bo w H): ∀t∈theTabs,∃c,H.IsCode c t.1 #[]/\H.TableAt c t.1 #[]:=by
 obtain⟨o1,fd1,F1⟩:=fnH X (n:= "_int2digits") (i:=5) (k:=9) (a:=80) (j:=7) (FX (i:=5) rfl);obtain⟨o2,R7,F2⟩:=fnH X (n:= "_digits2int") (i:=6) (k:=10) (a:=87) (j:=8) (FX (i:=6) rfl);haveI t1:=kX (rN X) F1;haveI t2:=kX (rM X) F2;intro t ht;simp only [theTabs,FS,Gu,or_false]at ht;rcases ht with rfl|rfl
 ·exact⟨_,t1.2⟩
 ·exact⟨_,t2.2⟩
theorem vD {h':Ht} (k: ∀b o,h.get? b=Fv o->h'.get? b=Fv o) (x: ∀t∈theTabs,∃c,h.IsCode c t.1 #[]/\h.TableAt c t.1 #[]): ∀t∈theTabs,∃c,h'.IsCode c t.1 #[]/\h'.TableAt c t.1 #[]:=λt ht=>by obtain⟨c,a,⟨o,vs,f1,f2,f3,f4⟩,f5⟩:=x t ht;exact⟨c,a.keeps k,⟨o,vs,k _ _ f1,f2,f3,f4⟩,k _ _ f5⟩
theorem holds_row (Wt:Iz.row.wellSaid=FE):Iz.row.Holds:=by
 refine⟨Wt,ja,⟨⟨xr,v8,rfl⟩,ja.witness,λw=>⟨(kb w).1,λs' Ph=> ?_⟩⟩⟩;obtain⟨s₀,hf,Wb,s,hT,hz,SA,hg,G,X⟩:=(kb w).2 s' Ph;refine⟨s₀,hf,Wb,s,hT,λn hn=> ?_,λx hx=>(nomatch hx),λx hx=>(nomatch hx), ?_⟩
 ·obtain rfl:n=("law" :Gj):=G4.mp hn
  obtain⟨d,VN,e1,e2,e3⟩:=zM;exact pinned_of_view hg G e1 e2 e3
 ·refine ClaimW.callFrom_of_specG (c:=Iz.row.toRowW.claim) hz SA λargs WD WL ord Uf=> ?_
  obtain⟨hsh,Oj⟩:=pre_splitW (r:=Iz.row.toRowW) WD;obtain⟨xs,rfl⟩:=Av hsh;have Oj:=C1 Oj;obtain⟨⟨vs,s₁⟩,Qs⟩:=Ho.mp (layAllW_isSome (P:=w.params) (ord:=ord) G.has _ _ s hsh);have keeps:=layAllW_keeps _ _ _ Qs;have TB:=layAllW_rest _ _ _ Qs;obtain⟨as,Rl,Q6,hold⟩:=reads_layAllW Uf _ _ _ Qs WL s₁.heap (λ_ _ e=>e);have L:Laid [] w s s₁ [.list (xs.map .int)] vs as:=⟨⟨ord,Uf,Qs⟩,Rl,Q6,hold,keeps,TB.1.trans SA,TB.2.2.1⟩;haveI OC:=yX (w:=w) Rl (L.low G.low);obtain⟨o,fd,F⟩:=fnH X (n:= "law") (i:=101) (k:=32) (a:=235) (j:=27) (FX (i:=21) rfl);have hk:HK s.heap s₁.heap:=HK.of keeps;have hS:=(nE X).keep hk;have run:=xX X F (xs:=xs) (by exact Fx Oj (by decide)) callerA s₁ (λ_=>True) vs ⟨rfl,by decide,by decide⟩ hk (λ_ _=>trivial) hS OC
  have run:=sa (show fE s₁.gens from λx hx=>by rw [L.gens]at hx;simp at hx) (run.mono λv s₂ h hb=>(⟨h.1,h.2,hb⟩:Ext s₁ s₂/\Rep prg w (λ_=>True) s₂.heap (.bool FE) v/\fE s₂.gens))
  refine⟨vs,s₁,Qs,FJ (wpAny_nsGet (dH X.top.g (hk _)) ?_)⟩;rw [show s.heap.nsMap He Iz.row.toRowW.name=Fv (.ref 235)from rR X (n:= "law") (FX (i:=27) rfl)];refine FJ (Hy run (λv s₂ h=>FK ⟨_,rfl, ?_⟩) λ_ _ h=>h.elim);obtain⟨x,rfl,hb⟩:=h;haveI g:GoodWG Iz.row.toRowW.claim (classAt s.heap) (ExcName.means s.heap) [.list (xs.map .int)] s₁ (.ok (.ret (.bool FE))) s₂:=
   ⟨.inl ⟨_,.bool FE,[],rfl,λ_=>rfl,.bool FE,zr _ _,λ_=>⟨HX,λa ha=>(nomatch ha)⟩⟩,BO x.keep (vD keeps (z3 X)) hS,x.os,hb⟩
  have z:=g.laid (c:=Iz.row.toRowW.claim) rfl rfl (ident_freeW rfl rfl rfl) L;exact⟨z.1,z.2.1,z.2.2,λq=>nomatch q⟩
theorem Fa: ∀{a b:Bool},a=FE->b=FE->(a&&b)=FE:=λh g=>by rw [h,g];rfl
theorem law_said:Iz.wellSaid=FE:=by
 unfold OpenLaw.wellSaid OpenRow.wellSaid OpenRow.partSaid looksOpen;repeat' with_reducible refine Fa ?_ ?_
 all_goals decide+kernel
end UK
open PySem PySem.W PyProof.Rows
theorem PySem.Challenge.cw_uk0023_02_holds : PySem.Challenge.rw_uk0023_02.Holds :=
 holds_law UK.law_said UK.holds_row
