import PyProof.Rows.All
import PyProof.FactsAll.tuple_2
import PyProof.NoPylong
import PyProof.CallStr
import PyProof.Conv_int
import PyProof.Rows.EqNone
import PyProof.SliceStr2
import PyProof.StrBlock
import PyProof.StrBlockI
import PyProof.StrBlockL
import PyProof.IsiStr
import PyProof.IsiPairs
import PyProof.ListNew
import PyProof.Rows.StrInSeq
import PyProof.StrCalls2
import PyProof.Rows.Catch
import PyProof.RulesAssignMore
import PyProof.TypeOfCall
import PyProof.TupleOfSeq
import PyProof.Rows.RaiseClass
import KE.KUnpack
import KE.KPop
import KE.KEqSeq
import KE.KIntText
import KE.KSliceW
import KE.KOwnIter
import KE.KRevSl
import KE.KSortAsk
import KE.KSortTup
import KE.KStopIter
import Wide.FinOn
import OpenK.AllK
import Wide.All
import Lean
import PySem.Challenge.RW_ij0145_02
set_option compiler.extract_closed false
set_option genSizeOf false
set_option genInjectivity false
set_option linter.all false
set_option Elab.async false
set_option maxRecDepth 100000
set_option maxHeartbeats 4000000
set_option linter.unusedVariables false
set_option linter.unusedSectionVars false
namespace Mine
theorem x0_2 {P1 P2:Prop} {c:Prop} (h:P1∧P2) (k:P1→P2→c):c:=k h.1 h.2
theorem x0_3 {P1 P2 P3:Prop} {c:Prop} (h:P1∧P2∧P3) (k:P1→P2→P3→c):c:=k h.1 h.2.1 h.2.2
theorem x0_4 {P1 P2 P3 P4:Prop} {c:Prop} (h:P1∧P2∧P3∧P4) (k:P1→P2→P3→P4→c):c:=k h.1 h.2.1 h.2.2.1 h.2.2.2
theorem x0_5 {P1 P2 P3 P4 P5:Prop} {c:Prop} (h:P1∧P2∧P3∧P4∧P5) (k:P1→P2→P3→P4→P5→c):c:=k h.1 h.2.1 h.2.2.1 h.2.2.2.1 h.2.2.2.2
theorem x0_6 {P1 P2 P3 P4 P5 P6:Prop} {c:Prop} (h:P1∧P2∧P3∧P4∧P5∧P6) (k:P1→P2→P3→P4→P5→P6→c):c:=k h.1 h.2.1 h.2.2.1 h.2.2.2.1 h.2.2.2.2.1 h.2.2.2.2.2
theorem x1_1 {α1:Sort _} {P1:α1→Prop} {c:Prop} (h:∃ x1,P1 x1) (k:∀ x1,P1 x1→c):c:=h.elim fun x1 h=>k x1 h
theorem x1_2 {α1:Sort _} {P1 P2:α1→Prop} {c:Prop} (h:∃ x1,P1 x1∧P2 x1) (k:∀ x1,P1 x1→P2 x1→c):c:=h.elim fun x1 h=>k x1 h.1 h.2
theorem x1_3 {α1:Sort _} {P1 P2 P3:α1→Prop} {c:Prop} (h:∃ x1,P1 x1∧P2 x1∧P3 x1) (k:∀ x1,P1 x1→P2 x1→P3 x1→c):c:=h.elim fun x1 h=>k x1 h.1 h.2.1 h.2.2
theorem x1_4 {α1:Sort _} {P1 P2 P3 P4:α1→Prop} {c:Prop} (h:∃ x1,P1 x1∧P2 x1∧P3 x1∧P4 x1) (k:∀ x1,P1 x1→P2 x1→P3 x1→P4 x1→c):c:=h.elim fun x1 h=>k x1 h.1 h.2.1 h.2.2.1 h.2.2.2
theorem x1_5 {α1:Sort _} {P1 P2 P3 P4 P5:α1→Prop} {c:Prop} (h:∃ x1,P1 x1∧P2 x1∧P3 x1∧P4 x1∧P5 x1) (k:∀ x1,P1 x1→P2 x1→P3 x1→P4 x1→P5 x1→c):c:=h.elim fun x1 h=>k x1 h.1 h.2.1 h.2.2.1 h.2.2.2.1 h.2.2.2.2
theorem x1_7 {α1:Sort _} {P1 P2 P3 P4 P5 P6 P7:α1→Prop} {c:Prop} (h:∃ x1,P1 x1∧P2 x1∧P3 x1∧P4 x1∧P5 x1∧P6 x1∧P7 x1) (k:∀ x1,P1 x1→P2 x1→P3 x1→P4 x1→P5 x1→P6 x1→P7 x1→c):c:=h.elim fun x1 h=>k x1 h.1 h.2.1 h.2.2.1 h.2.2.2.1 h.2.2.2.2.1 h.2.2.2.2.2.1 h.2.2.2.2.2.2
theorem x2_1 {α1:Sort _} {α2:Sort _} {P1:α1→α2→Prop} {c:Prop} (h:∃ x1 x2,P1 x1 x2) (k:∀ x1 x2,P1 x1 x2→c):c:=h.elim fun x1 h=>h.elim fun x2 h=>k x1 x2 h
theorem x2_2 {α1:Sort _} {α2:Sort _} {P1 P2:α1→α2→Prop} {c:Prop} (h:∃ x1 x2,P1 x1 x2∧P2 x1 x2) (k:∀ x1 x2,P1 x1 x2→P2 x1 x2→c):c:=h.elim fun x1 h=>h.elim fun x2 h=>k x1 x2 h.1 h.2
theorem x2_3 {α1:Sort _} {α2:Sort _} {P1 P2 P3:α1→α2→Prop} {c:Prop} (h:∃ x1 x2,P1 x1 x2∧P2 x1 x2∧P3 x1 x2) (k:∀ x1 x2,P1 x1 x2→P2 x1 x2→P3 x1 x2→c):c:=h.elim fun x1 h=>h.elim fun x2 h=>k x1 x2 h.1 h.2.1 h.2.2
theorem x2_4 {α1:Sort _} {α2:Sort _} {P1 P2 P3 P4:α1→α2→Prop} {c:Prop} (h:∃ x1 x2,P1 x1 x2∧P2 x1 x2∧P3 x1 x2∧P4 x1 x2) (k:∀ x1 x2,P1 x1 x2→P2 x1 x2→P3 x1 x2→P4 x1 x2→c):c:=h.elim fun x1 h=>h.elim fun x2 h=>k x1 x2 h.1 h.2.1 h.2.2.1 h.2.2.2
theorem x2_5 {α1:Sort _} {α2:Sort _} {P1 P2 P3 P4 P5:α1→α2→Prop} {c:Prop} (h:∃ x1 x2,P1 x1 x2∧P2 x1 x2∧P3 x1 x2∧P4 x1 x2∧P5 x1 x2) (k:∀ x1 x2,P1 x1 x2→P2 x1 x2→P3 x1 x2→P4 x1 x2→P5 x1 x2→c):c:=h.elim fun x1 h=>h.elim fun x2 h=>k x1 x2 h.1 h.2.1 h.2.2.1 h.2.2.2.1 h.2.2.2.2
theorem x3_1 {α1:Sort _} {α2:Sort _} {α3:Sort _} {P1:α1→α2→α3→Prop} {c:Prop} (h:∃ x1 x2 x3,P1 x1 x2 x3) (k:∀ x1 x2 x3,P1 x1 x2 x3→c):c:=h.elim fun x1 h=>h.elim fun x2 h=>h.elim fun x3 h=>k x1 x2 x3 h
theorem x3_3 {α1:Sort _} {α2:Sort _} {α3:Sort _} {P1 P2 P3:α1→α2→α3→Prop} {c:Prop} (h:∃ x1 x2 x3,P1 x1 x2 x3∧P2 x1 x2 x3∧P3 x1 x2 x3) (k:∀ x1 x2 x3,P1 x1 x2 x3→P2 x1 x2 x3→P3 x1 x2 x3→c):c:=h.elim fun x1 h=>h.elim fun x2 h=>h.elim fun x3 h=>k x1 x2 x3 h.1 h.2.1 h.2.2
theorem x3_4 {α1:Sort _} {α2:Sort _} {α3:Sort _} {P1 P2 P3 P4:α1→α2→α3→Prop} {c:Prop} (h:∃ x1 x2 x3,P1 x1 x2 x3∧P2 x1 x2 x3∧P3 x1 x2 x3∧P4 x1 x2 x3) (k:∀ x1 x2 x3,P1 x1 x2 x3→P2 x1 x2 x3→P3 x1 x2 x3→P4 x1 x2 x3→c):c:=h.elim fun x1 h=>h.elim fun x2 h=>h.elim fun x3 h=>k x1 x2 x3 h.1 h.2.1 h.2.2.1 h.2.2.2
theorem x3_5 {α1:Sort _} {α2:Sort _} {α3:Sort _} {P1 P2 P3 P4 P5:α1→α2→α3→Prop} {c:Prop} (h:∃ x1 x2 x3,P1 x1 x2 x3∧P2 x1 x2 x3∧P3 x1 x2 x3∧P4 x1 x2 x3∧P5 x1 x2 x3) (k:∀ x1 x2 x3,P1 x1 x2 x3→P2 x1 x2 x3→P3 x1 x2 x3→P4 x1 x2 x3→P5 x1 x2 x3→c):c:=h.elim fun x1 h=>h.elim fun x2 h=>h.elim fun x3 h=>k x1 x2 x3 h.1 h.2.1 h.2.2.1 h.2.2.2.1 h.2.2.2.2
theorem x4_3 {α1:Sort _} {α2:Sort _} {α3:Sort _} {α4:Sort _} {P1 P2 P3:α1→α2→α3→α4→Prop} {c:Prop} (h:∃ x1 x2 x3 x4,P1 x1 x2 x3 x4∧P2 x1 x2 x3 x4∧P3 x1 x2 x3 x4) (k:∀ x1 x2 x3 x4,P1 x1 x2 x3 x4→P2 x1 x2 x3 x4→P3 x1 x2 x3 x4→c):c:=h.elim fun x1 h=>h.elim fun x2 h=>h.elim fun x3 h=>h.elim fun x4 h=>k x1 x2 x3 x4 h.1 h.2.1 h.2.2
theorem x4_6 {α1:Sort _} {α2:Sort _} {α3:Sort _} {α4:Sort _} {P1 P2 P3 P4 P5 P6:α1→α2→α3→α4→Prop} {c:Prop} (h:∃ x1 x2 x3 x4,P1 x1 x2 x3 x4∧P2 x1 x2 x3 x4∧P3 x1 x2 x3 x4∧P4 x1 x2 x3 x4∧P5 x1 x2 x3 x4∧P6 x1 x2 x3 x4) (k:∀ x1 x2 x3 x4,P1 x1 x2 x3 x4→P2 x1 x2 x3 x4→P3 x1 x2 x3 x4→P4 x1 x2 x3 x4→P5 x1 x2 x3 x4→P6 x1 x2 x3 x4→c):c:=h.elim fun x1 h=>h.elim fun x2 h=>h.elim fun x3 h=>h.elim fun x4 h=>k x1 x2 x3 x4 h.1 h.2.1 h.2.2.1 h.2.2.2.1 h.2.2.2.2.1 h.2.2.2.2.2
theorem x4_7 {α1:Sort _} {α2:Sort _} {α3:Sort _} {α4:Sort _} {P1 P2 P3 P4 P5 P6 P7:α1→α2→α3→α4→Prop} {c:Prop} (h:∃ x1 x2 x3 x4,P1 x1 x2 x3 x4∧P2 x1 x2 x3 x4∧P3 x1 x2 x3 x4∧P4 x1 x2 x3 x4∧P5 x1 x2 x3 x4∧P6 x1 x2 x3 x4∧P7 x1 x2 x3 x4) (k:∀ x1 x2 x3 x4,P1 x1 x2 x3 x4→P2 x1 x2 x3 x4→P3 x1 x2 x3 x4→P4 x1 x2 x3 x4→P5 x1 x2 x3 x4→P6 x1 x2 x3 x4→P7 x1 x2 x3 x4→c):c:=h.elim fun x1 h=>h.elim fun x2 h=>h.elim fun x3 h=>h.elim fun x4 h=>k x1 x2 x3 x4 h.1 h.2.1 h.2.2.1 h.2.2.2.1 h.2.2.2.2.1 h.2.2.2.2.2.1 h.2.2.2.2.2.2
theorem x4_8 {α1:Sort _} {α2:Sort _} {α3:Sort _} {α4:Sort _} {P1 P2 P3 P4 P5 P6 P7 P8:α1→α2→α3→α4→Prop} {c:Prop} (h:∃ x1 x2 x3 x4,P1 x1 x2 x3 x4∧P2 x1 x2 x3 x4∧P3 x1 x2 x3 x4∧P4 x1 x2 x3 x4∧P5 x1 x2 x3 x4∧P6 x1 x2 x3 x4∧P7 x1 x2 x3 x4∧P8 x1 x2 x3 x4) (k:∀ x1 x2 x3 x4,P1 x1 x2 x3 x4→P2 x1 x2 x3 x4→P3 x1 x2 x3 x4→P4 x1 x2 x3 x4→P5 x1 x2 x3 x4→P6 x1 x2 x3 x4→P7 x1 x2 x3 x4→P8 x1 x2 x3 x4→c):c:=h.elim fun x1 h=>h.elim fun x2 h=>h.elim fun x3 h=>h.elim fun x4 h=>k x1 x2 x3 x4 h.1 h.2.1 h.2.2.1 h.2.2.2.1 h.2.2.2.2.1 h.2.2.2.2.2.1 h.2.2.2.2.2.2.1 h.2.2.2.2.2.2.2
theorem x5_8 {α1:Sort _} {α2:Sort _} {α3:Sort _} {α4:Sort _} {α5:Sort _} {P1 P2 P3 P4 P5 P6 P7 P8:α1→α2→α3→α4→α5→Prop} {c:Prop} (h:∃ x1 x2 x3 x4 x5,P1 x1 x2 x3 x4 x5∧P2 x1 x2 x3 x4 x5∧P3 x1 x2 x3 x4 x5∧P4 x1 x2 x3 x4 x5∧P5 x1 x2 x3 x4 x5∧P6 x1 x2 x3 x4 x5∧P7 x1 x2 x3 x4 x5∧P8 x1 x2 x3 x4 x5) (k:∀ x1 x2 x3 x4 x5,P1 x1 x2 x3 x4 x5→P2 x1 x2 x3 x4 x5→P3 x1 x2 x3 x4 x5→P4 x1 x2 x3 x4 x5→P5 x1 x2 x3 x4 x5→P6 x1 x2 x3 x4 x5→P7 x1 x2 x3 x4 x5→P8 x1 x2 x3 x4 x5→c):c:=h.elim fun x1 h=>h.elim fun x2 h=>h.elim fun x3 h=>h.elim fun x4 h=>h.elim fun x5 h=>k x1 x2 x3 x4 x5 h.1 h.2.1 h.2.2.1 h.2.2.2.1 h.2.2.2.2.1 h.2.2.2.2.2.1 h.2.2.2.2.2.2.1 h.2.2.2.2.2.2.2
theorem on1 {α:Type u} {a:α} {c:Prop} (h:none=some a):c:=nomatch h
theorem on2 {α:Type u} {a:α} {c:Prop} (h:some a=none):c:=nomatch h
theorem osI {α:Type u} {a b:α} {c:Prop} (h:some a=some b) (k:a=b→c):c:=k (Option.some.inj h)
theorem obF {c:Prop} (h:false=true):c:=nomatch h
theorem obT {c:Prop} (h:true=false):c:=nomatch h
@[elab_as_elim] theorem rwF {α:Sort u} {a b:α} {m:α→Prop} (h:a=b) (k:m b):m a:=h▸k
open Lean
abbrev AS:=Array Syntax
def aKc:List (String×AS)→List (String×AS)
 | (k,a)::(k2,b)::r=>(k2,b.push (.node .none (match k.toList with | 'T'::'.'::q=>("Lean.Parser.Tactic." ++ String.ofList q).toName | 'E'::'.'::q=>("Lean.Parser.Term." ++ String.ofList q).toName | _=>k.toName) a))::r
 | l=>l
def aZe (A:Array AS) (st:List (String×AS)) (t:String):List (String×AS):=match t.toList,st with
 | [')'],_=>aKc st
 | ['}'],_=>aKc (aKc (aKc st))
 | ['{'],_=>("null", #[])::("T.tacticSeq1Indented", #[])::("T.tacticSeq", #[])::st
 | '('::r,_=>(String.ofList r,#[])::st
 | c::r,(k,a)::q =>
  let s:=String.ofList r
  (k,if c=='%' then a++A[s.toNat!]! else a.push (if c=='$' then (mkIdent s.toName).raw else if c=='~' then (Syntax.mkStrLit s).raw else mkAtom s))::q
 | _,_=>st
def dec (s:String) (A:Array AS):Syntax:=match (s.splitOn " ").foldl (aZe A) [("", #[])] with
 | (_,a)::_=>a[0]!
 | _=>.missing
def aFb (a:AS):Syntax:=dec "(T.paren '( { %0 } ') )" #[a]
def mSm (t:Syntax) (a:AS):AS:=(if a.isEmpty then a else a.push (mkAtom ";")).push t
def mGo:Option Syntax→MacroM Syntax
 | some t=>pure t
 | none=>Macro.throwUnsupported
def aKd (l:List Syntax):Syntax:=dec "(T.first 'first (null %0 ) )" #[l.foldl (fun a t=>a.push (dec "(group '| { %0 } )" #[#[t]])) #[]]
def mRl (a:AS) (r:Syntax):AS:=mSm (if r[0].getNumArgs==0 then dec "(T.first 'first (null (group '| { (T.refine 'refine (E.app $Mine.rwF (null %0 (E.syntheticHole '? '_ ) ) ) ) } ) (group '| { (T.refine 'refine (E.app $Mine.rwF (null (E.app $propext (null %0 ) ) (E.syntheticHole '? '_ ) ) ) ) } ) (group '| { (T.rewriteSeq 'rewrite (T.optConfig (null ) ) (T.rwRuleSeq '[ (null %1 ) '] ) (null ) ) } ) ) )" #[#[r[1]],#[r]]
  else dec "(T.first 'first (null (group '| { (T.refine 'refine (E.app $Mine.rwF (null (E.app $Eq.symm (null %0 ) ) (E.syntheticHole '? '_ ) ) ) ) } ) (group '| { (T.rewriteSeq 'rewrite (T.optConfig (null ) ) (T.rwRuleSeq '[ (null %1 ) '] ) (null ) ) } ) ) )" #[#[r[1]],#[r]]) a
def mRw (s:Syntax):Option Syntax :=
 if s[3].getNumArgs==0 then some (aFb (mSm (dec "(T.tacticTry_ 'try { (T.withReducible 'with_reducible { (T.tacticRfl 'rfl ) } ) } )" #[]) (s[2][1].getSepArgs.toList.foldl mRl #[]))) else none
def mSh (s:Syntax):Option Syntax:=some (dec "(T.refine 'refine (E.typeAscription (E.hygienicLParen '( (hygieneInfo $ ) ) (E.syntheticHole '? '_ ) ': (null %0 ) ') ) )" #[#[s[1]]])
def mNm (p:Syntax):Name:=if p[0][0][0].getKind==`Lean.Parser.Tactic.rcasesPat.one then p[0][0][0][0].getId else .anonymous
def mXs (hn:Name) (c:Bool) (x:AS×AS) (p:Syntax):AS×AS :=
  let s:=mNm p
  let u:=s==.anonymous
  let n:=if s==`rfl||u then (mkIdent (.mkSimple ("r" ++ toString x.1.size ++ "I"))).raw else p[0][0][0][0]
  let b:=x.2
  (x.1.push (if (if c then s==hn else u) then dec "(E.hole '_ )" #[] else n),
   if s==`rfl then (b.push (mkAtom ";")).push (dec "(T.first 'first (null (group '| { (T.subst 'subst (null %0 ) ) } ) (group '| { (T.cases 'cases (null (T.elimTarget (null ) %0 ) ) (null ) (null ) ) } ) ) )" #[#[n]]) else b)
def mOb (ps:List Syntax) (n:Nat) (h:Syntax):Syntax :=
 let hn:=h.getId
 let c:=h.isIdent&&ps.any fun p=>mNm p==hn
 let xs:=ps.foldl (mXs hn c) (#[],#[])
 let fn:=#[dec "(E.fun 'fun (E.basicFun (null %0 ) (null ) '=> (E.syntheticHole '? '_ ) ) )" #[xs.1]]
 aFb ((if n==100 then #[dec "(T.refine 'refine (E.app (E.proj (E.paren (E.hygienicLParen '( (hygieneInfo $ ) ) %0 ') ) '. $elim ) (null %1 ) ) )" #[#[h],fn]]
 else mSm (dec (if c then "(T.paren '( { (T.tacticTry_ 'try { (T.clear 'clear (null %0 ) ) } ) '; (T.renameI 'rename_i (null (Lean.binderIdent %0 ) ) ) } ') )" else if h.isIdent then "(T.tacticTry_ 'try { (T.clear 'clear (null %0 ) ) } )" else "(T.skip 'skip )") #[#[h]])
  #[dec "(T.refine 'refine (E.app %0 (null %1 %2 ) ) )" #[#[mkIdent (.str `Mine ("x" ++ toString n ++ "_" ++ toString (ps.length - n)))],#[h],fn]])++xs.2)
def aSq (s:Syntax):Syntax:=s.setArg 1 (s[1].setArg 0 (s[1][0].setArg 1 (dec "(E.paren (E.hygienicLParen '( (hygieneInfo $ ) ) %0 ') )" #[#[s[1][0][1]]])))
def mCs (s:Syntax):Option Syntax :=
 let h:=s[1][0][1]
 let e:=#[#[h]]
 if !(s[1].getNumArgs==1&&h.isIdent&&!h.getId.hasMacroScopes&&s[2].getNumArgs==0) then none
 else if s[3].getNumArgs==0 then
  some (aKd [dec "(T.withReducible 'with_reducible { (T.first 'first (null (group '| { (T.exact 'exact (E.app $Mine.on1 (null %0 ) ) ) } ) (group '| { (T.exact 'exact (E.app $Mine.on2 (null %0 ) ) ) } ) (group '| { (T.exact 'exact (E.app $Mine.obF (null %0 ) ) ) } ) (group '| { (T.exact 'exact (E.app $Mine.obT (null %0 ) ) ) } ) ) ) } )" e,
   dec "(T.paren '( { (T.withReducible 'with_reducible { (T.refine 'refine (E.app $Mine.osI (null %0 (E.fun 'fun (E.basicFun (null $hhI ) (null ) '=> (E.syntheticHole '? '_ ) ) ) ) ) ) } ) '; (T.clear 'clear (null %0 ) ) '; (T.first 'first (null (group '| { (T.subst 'subst (null $hhI ) ) } ) (group '| { (T.cases 'cases (null (T.elimTarget (null ) (E.paren (E.hygienicLParen '( (hygieneInfo $ ) ) $hhI ') ) ) ) (null ) (null ) ) } ) ) ) } ') )" e,aSq s])
 else if s[3][0][2].getNumArgs==1&&!["cons", "succ", "there"].contains s[3][0][2][0][0][0][1].getArgs.back!.getId.toString then
  some (aKd [.node .none ``Lean.Parser.Tactic.induction #[mkAtom "induction", s[1],s[2],s[2],s[3]],aSq s])
 else none
def mOk (p:Syntax):Bool:=p[1].getNumArgs==0&&p[0][0].getNumArgs==1&&[`Lean.Parser.Tactic.rcasesPat.one,`Lean.Parser.Tactic.rcasesPat.ignore,`Lean.Parser.Tactic.rcasesPat.clear].contains p[0][0][0].getKind&&!(mNm p).hasMacroScopes
def mOc (s:Syntax):Option Syntax :=
 let p:=s[1][0][0][0]
 let l:=p[1].getSepArgs.toList
 let h:=s[3][1][0]
 if !(s[1].getNumArgs==1&&p.getKind==`Lean.Parser.Tactic.rcasesPat.tuple&&l.all mOk&&s[3].getNumArgs==2&&s[3][1].getNumArgs==1) then none
 else if s[2].getNumArgs==2 then match s[2][1].isNatLit? with
  | some n=>some (mOb l n h)
  | none=>none
 else some (aKd ([5,4,3,2,1,0].foldr (fun k r=>if k < l.length then mOb l k h::r else r) [(dec "(T.rcases 'rcases (null (T.elimTarget (null ) %0 ) ) (null 'with (T.rcasesPatLo (T.rcasesPatMed (null %1 ) ) (null ) ) ) )" #[#[h],#[p]])]))
def mRs (x:Option AS) (p:Syntax):Option AS:=match x with
 | none=>none
 | some a =>
  let q:=p[0]
  let k:=q.getKind
  let z:Syntax:=(mkIdent (.mkSimple ("rz" ++ toString a.size ++ "I"))).raw
  let t (x:Syntax):=dec "(T.intro 'intro (null %0 ) )" #[#[x]]
  if p.getKind != `Lean.Parser.Tactic.rintroPat.one then none
  else if k==`Lean.Parser.Tactic.rcasesPat.ignore then some (mSm (t (dec "(E.hole '_ )" #[])) a)
  else if k==`Lean.Parser.Tactic.rcasesPat.tuple then some (mSm (dec "(T.obtain 'obtain (null (T.rcasesPatMed (null %0 ) ) ) (null ) (null ':= (null %1 ) ) )" #[#[q],#[z]]) (mSm (t z) a))
  else if k==`Lean.Parser.Tactic.rcasesPat.one&&q[0].getId != `rfl&&!q[0].getId.hasMacroScopes then some (mSm (t q[0]) a)
  else none
def mRi (s:Syntax):Option Syntax :=
 if s[2].getNumArgs != 0 then none else match s[1].getArgs.toList.foldl mRs (some #[]) with
 | some a=>some (aFb a)
 | none=>none
end Mine
set_option genSizeOf false
set_option genInjectivity false
set_option compiler.extract_closed false
set_option bootstrap.genMatcherCode false
local macro_rules (kind:=Lean.Parser.Tactic.rwSeq) | s=>Mine.mGo (Mine.mRw s)
local macro_rules (kind:=Lean.Parser.Tactic.show) | s=>Mine.mGo (Mine.mSh s)
local macro_rules (kind:=Lean.Parser.Tactic.obtain) | s=>Mine.mGo (Mine.mOc s)
local macro_rules (kind:=Lean.Parser.Tactic.cases) | s=>Mine.mGo (Mine.mCs s)
local macro_rules (kind:=Lean.Parser.Tactic.rintro) | s=>Mine.mGo (Mine.mRi s)
noncomputable section
open PySem PySem.W PyProof.Rows PyProof.V PySem.Spec PySem.Calls
open PySem.Sem (wp)
namespace Mine
theorem Ta {a b c:Nat} (h:a≤b) (k:b≤c):a≤c:=Nat.le_trans h k
theorem Tb {a b:Nat} (h:Nat.ble a b=true):a≤b:=Nat.le_of_ble_eq_true h
theorem Tc {a b c:Nat} (h:a < b) (k:b≤c):a < c:=Nat.lt_of_lt_of_le h k
theorem Td {a b c:Nat} (h:a≤b) (k:b < c):a < c:=Nat.lt_of_le_of_lt h k
theorem Te (n:Nat):n≤n:=Nat.le_refl n
theorem Tf {α:Type u} {a b:α} {l:List α} (h:a∈b::l):a=b∨a∈l:=List.mem_cons.mp h
theorem Tg {α:Type u} {a b:α} (h:a∈[b]):a=b:=List.mem_singleton.mp h
theorem Th {α:Type u} {a:α} {l:List α} (r:List α) (h:a∈l):a∈l++r:=List.mem_append_left r h
theorem Ti {α:Type u} {a:α} (l:List α) {r:List α} (h:a∈r):a∈l++r:=List.mem_append_right l h
theorem hid {G:Prop} (h:∀ K:Prop,(G→K)→K):G:=h G fun x=>x
section
variable {a b c d e k n x y:Nat}
theorem dQ (h:0 < a):a - 1 < a:=Nat.sub_lt h Nat.one_pos
theorem fL (h:0 < a) (h2:a≤b):a - 1 < b:=Tc (dQ h) h2
theorem aZf (h:0 < a):a - 1+1=a:=Nat.sub_add_cancel h
theorem aNi (h:0 < a):a=a - 1+1:=(Nat.sub_add_cancel h).symm
theorem yA (h:a < b):b - a=b - (a+1)+1:=by rw [← Nat.sub_sub,Nat.sub_add_cancel (Nat.sub_pos_of_lt h)]
theorem mR (h:a < b):b - (a+1) < b - a:=Nat.sub_succ_lt_self b a h
theorem aCc (h:a < b):b+1 - (a+1) < b+1 - a:=mR (Nat.lt_succ_of_lt h)
theorem aCd (h:a+(b+1)≤c):a < c:=Tc (Nat.lt_add_of_pos_right (Nat.succ_pos b)) h
theorem iC (h:a+(b+1)=c):a < c:=aCd (Nat.le_of_eq h)
theorem vF (h:a+k < c):a < c:=Td (Nat.le_add_right a k) h
theorem aAq (h:k+a < c):a < c:=Td (Nat.le_add_left a k) h
theorem aOr (h:a+k≤c):a≤c:=Ta (Nat.le_add_right a k) h
theorem aSr (h:a+(b+k) < c):a+k < c:=Td (Nat.add_le_add_left (Nat.le_add_left k b) a) h
theorem aCe (h:a+(b+k)=c):a+k+b=c:=(Nat.add_right_comm a k b).trans ((Nat.add_assoc a b k).trans h)
theorem aFc (h:a+(b+k)≤c):a+k+b≤c:=Ta (Nat.le_of_eq (aCe rfl)) h
theorem lF (h:a+(b+k) < c):a+k+b < c:=Td (Nat.le_of_eq (aCe rfl)) h
theorem aFd:a+k+b=a+(b+k):=aCe rfl
theorem yB:a+k+b≤a+(b+k):=Nat.le_of_eq aFd
theorem aOs (h:k≤e):a+k+b≤a+(b+e):=Ta yB (Nat.add_le_add_left (Nat.add_le_add_left h b) a)
theorem aSs (h:a≤b) (h2:x+b < c):x+a < c:=Td (Nat.add_le_add_left h x) h2
theorem aSt (h:a≤b) (h2:x+b≤c):x+a≤c:=Ta (Nat.add_le_add_left h x) h2
theorem aOt (h:a - b=n+1):b < a:=Nat.lt_of_sub_pos (h▸Nat.succ_pos n)
theorem aSu (h:a - b=0) (h2:b≤a):b=a:=Nat.le_antisymm h2 (Nat.le_of_sub_eq_zero h)
theorem aKe (h:a - b=n+1):a - (b+1)=n:=by rw [← Nat.sub_sub,h];rfl
theorem aKf (h:a - b≤n+1) (h2:¬ k=0) (h3:b≤c):a - (c+k)≤n:=by
 refine Ta (Nat.sub_le_sub_left (Nat.add_le_add h3 (Nat.pos_of_ne_zero h2)) a) ?_
 rw [← Nat.sub_sub];exact Nat.sub_le_sub_right h 1
theorem aOu (h:a - b≤n+1) (h2:¬ k=0) (h3:c+k≤a):c - b≤n:=by
 have p:=Nat.pos_of_ne_zero h2
 have q:c+1 - b≤n+1:=Ta (Nat.sub_le_sub_right (Ta (Nat.add_le_add_left p c) h3) b) h
 rcases Nat.lt_or_ge c b with z | z
 ·rw [Nat.sub_eq_zero_of_le (Nat.le_of_lt z)];exact Nat.zero_le n
 ·rw [Nat.succ_sub z] at q;exact Nat.le_of_succ_le_succ q
theorem aFe (h:a < b+1) (h2:¬ a=b):a < b:=Nat.lt_of_le_of_ne (Nat.le_of_lt_succ h) h2
theorem aOv (h:a≤b) (h2:¬ b=a):a < b:=Nat.lt_of_le_of_ne h fun z=>h2 z.symm
theorem aKg (h:a≤b) (h2:¬ a < b):a=b:=Nat.le_antisymm h (Nat.le_of_not_lt h2)
theorem aNj (h:a≤b) (h2:¬ a < b):b=a:=(aKg h h2).symm
theorem aKh (h:a < 1):a=0:=Nat.lt_one_iff.mp h
theorem aOw (h:a≤x) (h2:x < b):x - a < b - a:=Nat.sub_lt_sub_right h h2
theorem aZg (h:x < b - a):a+x < b:=Nat.add_lt_of_lt_sub' h
theorem aSv (h:a+x≤b):x≤b - a:=Nat.le_sub_of_add_le (Nat.add_comm a x▸h)
theorem aZh (h:a+x≤b) (h2:¬ a+x < b):b - (a+x)=0:=Nat.sub_eq_zero_of_le (Nat.le_of_not_lt h2)
theorem aSw (h:a≤c):min a b≤c:=Ta (Nat.min_le_left a b) h
theorem aSx (h:b < c):min a b < c:=Td (Nat.min_le_right a b) h
theorem iD (h:a < c):a - b < c:=Td (Nat.sub_le a b) h
theorem aFf (h:b=a) (h2:b < c):a < c:=h▸h2
theorem kL (h:b=c) (h2:a < b):a < c:=h▸h2
theorem sL (h:c=b) (h2:a < b):a < c:=h.symm▸h2
theorem aNk (h:a=b) (h2:b≤c):a≤c:=h.symm▸h2
theorem yC (h:b=a) (h2:b≤c):a≤c:=h▸h2
theorem oY (h:c=b) (h2:a≤b):a≤c:=h.symm▸h2
theorem aSy (h1:a+k≤c) (h2:c≤a):k=0:=Nat.eq_zero_of_le_zero (Nat.le_of_add_le_add_left (c:=0) (Ta h1 h2))
theorem aKi (h1:a≤b) (h2:b+k≤c) (hk:0 < k):(2 * (b - a)+1)+(2 * (c - (b+k))+1) < 2 * (c - a)+1:=by
 obtain ⟨p,rfl⟩:1:=Nat.le.dest h1
 obtain ⟨q,rfl⟩:1:=Nat.le.dest h2
 rw [Nat.add_sub_cancel_left,Nat.add_sub_cancel_left,show a+p+k+q - a=p+k+q by rw [Nat.add_assoc,Nat.add_assoc,Nat.add_sub_cancel_left,Nat.add_assoc]]
 omega
theorem aKj (h:b < a):a - 1+(k+1)=a+k:=by
 cases a with
 | zero=>exact absurd h (Nat.not_lt_zero b)
 | succ a=>show a+k+1=a+1+k;exact Nat.add_right_comm a k 1
theorem aSz (h:a < c+k∨a=c+k∧b < d+k) (hl:k≤a):a - k < c∨a - k=c∧b - k≤d:=by
 rcases h with h | ⟨h,g⟩
 ·exact .inl (Nat.sub_lt_left_of_lt_add hl (Nat.add_comm c k▸h))
 ·exact .inr ⟨by rw [h,Nat.add_sub_cancel],Nat.sub_le_of_le_add (Nat.le_of_lt g)⟩
end
theorem rK {a b:Nat} (h:a < b):(a:Int) < b:=Int.ofNat_lt.mpr h
theorem aOx {a b:Nat} (h:a≤b):(a:Int)≤b:=Int.ofNat_le.mpr h
theorem jS {a b:Nat} (h:¬ a < b):¬ (a:Int) < b:=fun z=>h (Int.ofNat_lt.mp z)
theorem aNl {a b:Nat} (h:¬ a≤b):¬ (a:Int)≤b:=fun z=>h (Int.ofNat_le.mp z)
theorem aKk {a b:Int} (h:¬ a < b) (h2:¬ a=b):b < a:=Int.lt_iff_le_and_ne.mpr ⟨Int.not_lt.mp h,fun z=>h2 z.symm⟩
theorem aTa {i j:Nat} (h:i < j) (h2:¬ i=j - 1):i < j - 1:=Nat.lt_of_le_of_ne (Nat.le_sub_one_of_lt h) h2
theorem aTb {i j m:Nat} (h:i < j) (h2:j < m):0+m - 1 - j < 0+m - 1 - i:=by rw [Nat.zero_add];exact Nat.sub_lt_sub_left (Tc h (Nat.le_sub_one_of_lt h2)) h
theorem aOy {i m:Nat} (h:0 < m):0+m - 1 - i < m:=by rw [Nat.zero_add];exact Td (Nat.sub_le _ _) (Nat.sub_lt h Nat.one_pos)
theorem aTc {l r:Nat} (h:l < r):l≤(l+r) / 2:=(Nat.le_div_iff_mul_le Nat.two_pos).mpr (Nat.mul_two l▸Nat.add_le_add_left (Nat.le_of_lt h) l)
theorem aTd {l r:Nat} (h:l < r):(l+r) / 2 < r:=Nat.div_lt_of_lt_mul (Nat.two_mul r▸Nat.add_lt_add_right h r)
theorem aNm {m l:Nat} (h:l≤m+1):(m:Int) - l+1=((m+1 - l:Nat):Int):=by rw [Int.ofNat_sub h,Int.natCast_add,Int.sub_eq_add_neg,Int.sub_eq_add_neg,Int.add_right_comm];rfl
theorem aKl {a b:Nat} (h:b < a):(a:Int) - 1=((a - 1:Nat):Int):=(Int.ofNat_sub (Td (Nat.zero_le b) h)).symm
theorem aNn {i n:Nat} (h:i < n):n - 1 - (n - (i+1))=i:=by rw [Nat.add_comm i 1,← Nat.sub_sub,Nat.sub_sub_self (Nat.le_sub_one_of_lt h)]
theorem i_0 {a:Nat}:(0:Int)≤a:=Int.natCast_nonneg a
section
open PySem.Builtin PySem.Builtin.ObjectAttr
theorem jT:typeLookup (.type "method_descriptor") "__get__" = pure (some (.builtin "method_descriptor.__get__")):=by rw [typeLookup_type,builtinLookup_eq_fast];kernel_rfl
theorem jU:typeLookup (.type "method_descriptor") "__set__" = pure none:=by rw [typeLookup_type,builtinLookup_eq_fast];kernel_rfl
theorem jV:typeLookup (.type "method_descriptor") "__delete__" = pure none:=by rw [typeLookup_type,builtinLookup_eq_fast];kernel_rfl
theorem cO {id:String} {n:Str} {r:Option Value} (h:typeOf (.builtin id)=pure (.type "method_descriptor")) (e:typeLookup (.type "method_descriptor") n=pure r):specialOf (.builtin id) n=pure r:=by
 unfold specialOf;rw [h];exact e
theorem md_slot_get:Slot "method_descriptor" "__get__" "method_descriptor.__get__" :=
 .of (owner := "method_descriptor") (n := "__get__") (by rw [typeLookup_type,builtinLookup_eq_fast];kernel_rfl) (by decide +kernel) (by decide +kernel) (by decide +kernel)
  (by first | exact .inl (by decide +kernel) | exact .inr (by decide +kernel)) (by rw [isSubtype_type];kernel_rfl)
theorem lG:entryFor table "method_descriptor.__get__" = some Builtin.«method_descriptor.__get__» := entryFor_of_tree (by kernel_rfl)
theorem nI (a b c:Value):argsOk "method_descriptor.__get__" ⟨[a,b,c],[]⟩:=by unfold argsOk;kernel_rfl
theorem nT {M:Model} {A:Around} {E:Value→Shared→Prop} {s:Shared} {a:Addr} {Q:Fin→Shared→Prop} (hT:s.TypeIs (.ref a) "dict") (hs:isSubtype (.type "dict") (.type "dict")=pure true)
  (h:Q (.done (.ret (.ref s.heap.objs.size))) { s with heap:=s.heap.push { cls:=.type "builtin_function_or_method", data:=.fields #[.builtin "dict.get", .ref a] } }) :
  wpAny M A (Builtin.«method_descriptor.__get__» ⟨[.builtin "dict.get", .ref a,.type "dict"],[]⟩) Q E s:=by
 unfold Builtin.«method_descriptor.__get__»
 refine wpAny_bind (wpAny_of_eq (a:=(.builtin "dict.get", some (.ref a),some (.type "dict"))) (by first | rfl | kernel_rfl) ?_)
 dsimp only
 rw [if_neg (show ¬ (Manifest.toldItsClass.contains "dict.get" = true) by decide +kernel)]
 refine wpAny_bind (wpAny_bind ?_)
 refine wpAny_of_eq (a:=(("get" : Str),Value.type "dict")) (by kernel_rfl) ?_
 dsimp only
 refine wpAny_bind (wpAny_isInstance hT hs ?_)
 exact wpAny_pure (wpAny_bind (wpAny_newObj_type (wpAny_pure h)))
theorem lH:isSubtype (.type "dict") (.type "dict")=pure true:=by rw [isSubtype_type];kernel_rfl
theorem lI (a:Addr) (es:Array DictEntry) (k:Nat) (u:Tok) :
  Meets (Builtin.«object.__getattribute__» ⟨[.ref a,.str "get" u],[]⟩) (fun A R s=>s.heap.get? a=some ({ cls:=.type "dict", data:=.dict es k }:Obj) ∧
   R (.ok (.ret (.ref s.heap.objs.size))) { s with heap:=s.heap.push { cls:=.type "builtin_function_or_method", data:=.fields #[.builtin "dict.get", .ref a] } }) :=
 Meets.of_wp fun prog w A R s hs=>by
  obtain ⟨hp,g,d,tk,os⟩:=s
  obtain ⟨hx,hs⟩:0:=hs
  haveI hT:(⟨hp,g,d,tk,os⟩:Shared).TypeIs (.ref a) "dict" := ⟨_,hx,rfl⟩
  haveI f4:=PySem.F.slot_dict_get.lookup
  haveI f5:=PySem.F.type_dict_get
  haveI e1:=cO f5 jT
  haveI e2:=cO f5 jU
  haveI e3:=cO f5 jV
  unfold Builtin.«object.__getattribute__»
  refine wpAny_bind (wpAny_of_eq (a:=(.ref a,[.str "get" u])) (by rfl) ?_)
  refine wpAny_bind (wpAny_of_eq (a:=("get" : Str)) (by rfl) ?_)
  refine wpAny_bind (wpAny_typeOf hT (wpAny_bind ?_))
  unfold find
  refine wpAny_bind (wpAny_of_eq f4 (wpAny_bind (wpAny_of_eq e1 (wpAny_bind ?_))))
  refine wpAny_bind (wpAny_bind (wpAny_of_eq e2 ?_))
  rw [if_neg (by decide)]
  refine wpAny_bind (wpAny_of_eq e3 (wpAny_pure ?_))
  rw [if_neg (by decide)]
  refine wpAny_pure ?_
  unfold ownThenClass
  refine wpAny_bind (wpAny_bind (wpAny_bind (wpAny_loadPart hx ?_)))
  refine wpAny_bind (wpAny_loadPart hx ?_)
  refine wpAny_pure (wpAny_pure ?_)
  refine wpAny_bind (wpAny_of_eq (a:=()) (by kernel_rfl) ?_)
  refine wpAny_bind (wpAny_rule (wpAny_pure ?_))
  unfold bindTo
  refine wpAny_bind (wpAny_holding (wpAny_call ?_))
  refine codeAny_call_builtin md_slot_get.plain lG (md_slot_get.check _ _ _ _ _ _ _ _ (show typeOf (.builtin "dict.get")=_ from f5) (nI _ _ _) ?_)
  refine nT hT lH ?_
  show wpAny _ _ (ret _) _ _ _
  exact wpAny_pure ⟨_,rfl,hs⟩
theorem mS {prog:Program} {w:World} {A:Around} {E:Value→Shared→Prop} {s:Shared} {a:Addr} {es:Array DictEntry} {k:Nat} {Q:Value→Shared→Prop}
  (hx:s.heap.get? a=some ({ cls:=.type "dict", data:=.dict es k }:Obj))
  (h:∀ t,Q (.ref s.heap.objs.size) { s with heap:=s.heap.push { cls:=.type "builtin_function_or_method", data:=.fields #[.builtin "dict.get", .ref a] },toks:=t }) :
  wpAny (model prog w) A (getAttr (.ref a) "get" true) Q E s:=by
 obtain ⟨hp,g,d,tk,os⟩:=s
 have hT:∀ tk',(⟨hp,g,d,tk',os⟩:Shared).TypeIs (.ref a) "dict" := fun _=>⟨_,hx,rfl⟩
 haveI f3:=PySem.F.slot_dict_getattribute.lookup
 haveI f4:=PySem.F.slot_dict_getattribute.bind (.ref a)
 unfold getAttr getAttrBy
 refine wpAny_bind (wpAny_mkText (wpAny_holding (wpAny_bind (wpAny_typeOf (hT _) (wpAny_bind (wpAny_of_eq f3 ?_))))))
 dsimp only
 rw [if_neg (by decide)]
 unfold getAttrByItsOwn
 refine wpAny_bind (wpAny_of_eq (a:=none) (by rfl) (wpAny_bind (wpAny_attempt (wpAny_holding ?_))))
 unfold callGetattribute
 rw [if_neg (by decide)]
 unfold boundAndCalled
 refine wpAny_bind (wpAny_of_eq f4 ?_)
 refine call_meets PySem.F.slot_dict_getattribute (hT _) am_entry_dict_getattribute (PySem.F.args_dict_getattribute_2 _ _) (lI _ _ _ _) ⟨hx,?_⟩
 show wpAny _ _ (handedOut _) _ _ _
 exact wpAny_pure (h _)
theorem jL {M:Model} {A:Around} {E:Value→Shared→Prop} {s:Shared} {a:Addr} {Q:Fin→Shared→Prop} (hT:s.TypeIs (.ref a) "set") (hs:isSubtype (.type "set") (.type "set")=pure true)
  (h:Q (.done (.ret (.ref s.heap.objs.size))) { s with heap:=s.heap.push { cls:=.type "builtin_function_or_method", data:=.fields #[.builtin "set.__contains__", .ref a] } }) :
  wpAny M A (Builtin.«method_descriptor.__get__» ⟨[.builtin "set.__contains__", .ref a,.type "set"],[]⟩) Q E s:=by
 unfold Builtin.«method_descriptor.__get__»
 refine wpAny_bind (wpAny_of_eq (a:=(.builtin "set.__contains__", some (.ref a),some (.type "set"))) (by first | rfl | kernel_rfl) ?_)
 dsimp only
 rw [if_neg (show ¬ (Manifest.toldItsClass.contains "set.__contains__" = true) by decide +kernel)]
 refine wpAny_bind (wpAny_bind ?_)
 refine wpAny_of_eq (a:=(("__contains__" : Str),Value.type "set")) (by kernel_rfl) ?_
 dsimp only
 refine wpAny_bind (wpAny_isInstance hT hs ?_)
 exact wpAny_pure (wpAny_bind (wpAny_newObj_type (wpAny_pure h)))
theorem hM:isSubtype (.type "set") (.type "set")=pure true:=by rw [isSubtype_type];kernel_rfl
theorem hV (a:Addr) (es:Array (Int×Value)) (k:Nat) (t:SetTable) (u:Tok) :
  Meets (Builtin.«object.__getattribute__» ⟨[.ref a,.str "__contains__" u],[]⟩) (fun A R s=>s.heap.get? a=some ({ cls:=.type "set", data:=.set es k t }:Obj) ∧
   R (.ok (.ret (.ref s.heap.objs.size))) { s with heap:=s.heap.push { cls:=.type "builtin_function_or_method", data:=.fields #[.builtin "set.__contains__", .ref a] } }) :=
 Meets.of_wp fun prog w A R s hs=>by
  obtain ⟨hp,g,d,tk,os⟩:=s
  obtain ⟨hx,hs⟩:0:=hs
  haveI hT:(⟨hp,g,d,tk,os⟩:Shared).TypeIs (.ref a) "set" := ⟨_,hx,rfl⟩
  haveI f4:=PySem.F.slot_set_contains.lookup
  haveI f5:=PySem.F.type_set_contains
  haveI e1:=cO f5 jT
  haveI e2:=cO f5 jU
  haveI e3:=cO f5 jV
  unfold Builtin.«object.__getattribute__»
  refine wpAny_bind (wpAny_of_eq (a:=(.ref a,[.str "__contains__" u])) (by rfl) ?_)
  refine wpAny_bind (wpAny_of_eq (a:=("__contains__" : Str)) (by rfl) ?_)
  refine wpAny_bind (wpAny_typeOf hT (wpAny_bind ?_))
  unfold find
  refine wpAny_bind (wpAny_of_eq f4 (wpAny_bind (wpAny_of_eq e1 (wpAny_bind ?_))))
  refine wpAny_bind (wpAny_bind (wpAny_of_eq e2 ?_))
  rw [if_neg (by decide)]
  refine wpAny_bind (wpAny_of_eq e3 (wpAny_pure ?_))
  rw [if_neg (by decide)]
  refine wpAny_pure ?_
  unfold ownThenClass
  refine wpAny_bind (wpAny_bind (wpAny_bind (wpAny_loadPart hx ?_)))
  refine wpAny_bind (wpAny_loadPart hx ?_)
  refine wpAny_pure (wpAny_pure ?_)
  refine wpAny_bind (wpAny_of_eq (a:=()) (by kernel_rfl) ?_)
  refine wpAny_bind (wpAny_rule (wpAny_pure ?_))
  unfold bindTo
  refine wpAny_bind (wpAny_holding (wpAny_call ?_))
  refine codeAny_call_builtin md_slot_get.plain lG (md_slot_get.check _ _ _ _ _ _ _ _ (show typeOf (.builtin "set.__contains__")=_ from f5) (nI _ _ _) ?_)
  refine jL hT hM ?_
  show wpAny _ _ (ret _) _ _ _
  exact wpAny_pure ⟨_,rfl,hs⟩
theorem iE {prog:Program} {w:World} {A:Around} {E:Value→Shared→Prop} {s:Shared} {a:Addr} {es:Array (Int×Value)} {k:Nat} {t:SetTable} {Q:Value→Shared→Prop}
  (hx:s.heap.get? a=some ({ cls:=.type "set", data:=.set es k t }:Obj))
  (h:∀ t,Q (.ref s.heap.objs.size) { s with heap:=s.heap.push { cls:=.type "builtin_function_or_method", data:=.fields #[.builtin "set.__contains__", .ref a] },toks:=t }) :
  wpAny (model prog w) A (getAttr (.ref a) "__contains__" true) Q E s:=by
 obtain ⟨hp,g,d,tk,os⟩:=s
 have hT:∀ tk',(⟨hp,g,d,tk',os⟩:Shared).TypeIs (.ref a) "set" := fun _=>⟨_,hx,rfl⟩
 haveI f3:=PySem.F.slot_set_getattribute.lookup
 haveI f4:=PySem.F.slot_set_getattribute.bind (.ref a)
 unfold getAttr getAttrBy
 refine wpAny_bind (wpAny_mkText (wpAny_holding (wpAny_bind (wpAny_typeOf (hT _) (wpAny_bind (wpAny_of_eq f3 ?_))))))
 dsimp only
 rw [if_neg (by decide)]
 unfold getAttrByItsOwn
 refine wpAny_bind (wpAny_of_eq (a:=none) (by rfl) (wpAny_bind (wpAny_attempt (wpAny_holding ?_))))
 unfold callGetattribute
 rw [if_neg (by decide)]
 unfold boundAndCalled
 refine wpAny_bind (wpAny_of_eq f4 ?_)
 refine call_meets PySem.F.slot_set_getattribute (hT _) PySem.F.entry_set_ga (PySem.F.args_set_getattribute_2 _ _) (hV _ _ _ _ _) ⟨hx,?_⟩
 show wpAny _ _ (handedOut _) _ _ _
 exact wpAny_pure (h _)
theorem lJ {prog:Program} {w:World} {A:Around} {E:Value→Shared→Prop} {s:Shared} {x:Addr} {id:String} {self:Value} {args:List Value} {b:Builtin} {Q:Value→Shared→Prop} (ho:s.heap.get? x=some { cls:=.type "builtin_function_or_method", data:=.fields #[.builtin id,self] })
  (hc:wpAny (model prog w) A.in1 (checkBoundCall id ⟨self::args,[]⟩) (fun _ s'=>s'=s) (fun _ _=>False) s) (hq:(Code.builtin id ⟨self::args,[]⟩).quiet=true) (entry:entryFor table id=some b)
  (tree:wpAny (model prog w) (A.under (.builtin id ⟨self::args,[]⟩)) (b ⟨self::args,[]⟩) (fun fin s'=>∃ v,fin=.done (.ret v)∧Q v s') E s):wpAny (model prog w) A (call (.ref x) args) Q E s:=by
 refine wpAny_call (codeAny_of_tree ?_)
 show wpAny _ A.in1 (callAny (.ref x) ⟨args,[]⟩) _ _ s
 refine nd_load ho ?_
 show wpAny _ _ (if (Value.type "builtin_function_or_method" == .type "method" || Value.type "builtin_function_or_method" == .type "builtin_function_or_method" || Value.type "builtin_function_or_method" == .type "method-wrapper")=true then _ else callAny.viaDunder (.ref x) ⟨args,[]⟩) _ _ _
 refine KFB.if_so (by decide) ?_
 show wpAny _ _ (checkBoundCall id _ >>= _) _ _ _
 refine wpAny_bind (wpAny_mono hc (fun _ s' e=>?_) fun _ _ e=>e.elim)
 subst e
 refine wpAny_bind (wpAny_pure (wpAny_pure ?_))
 refine ⟨hq,codeAny_builtin entry (wpAny_mono tree (fun fin s' z=>?_) fun _ _ z=>z)⟩
 obtain ⟨v,rfl,hv⟩:1:=z
 exact hv
theorem kO {M:Model} {A:Around} {s:Shared} {d:Addr} {a b:Value} {es:Array DictEntry} {k:Nat} (hx:s.heap.get? d=some ({ cls:=.type "dict", data:=.dict es k }:Obj)):wpAny M A (checkBoundCall "dict.get" ⟨[.ref d,a,b],[]⟩) (fun _ s'=>s'=s) (fun _ _=>False) s:=by
 haveI hT:s.TypeIs (.ref d) "dict" := ⟨_,hx,rfl⟩
 haveI f1:isSubtype (.type "dict") (.type "module")=pure false:=by rw [isSubtype_type];kernel_rfl
 refine wpAny_bind (m:=isInstance (.ref d) (.type "module")) (wpAny_isInstance hT f1 ?_)
 refine wpAny_bind (wpAny_bind (wpAny_loadPart hx (wpAny_pure ?_)))
 dsimp only
 refine wpAny_bind (wpAny_typeOf hT ?_)
 dsimp only
 exact wpAny_of_eq (a:=()) (by kernel_rfl) rfl
theorem cI {M:Model} {A:Around} {s:Shared} {d:Addr} {a:Value} {es:Array (Int×Value)} {k:Nat} {t:SetTable} (hx:s.heap.get? d=some ({ cls:=.type "set", data:=.set es k t }:Obj)):wpAny M A (checkBoundCall "set.__contains__" ⟨[.ref d,a],[]⟩) (fun _ s'=>s'=s) (fun _ _=>False) s:=by
 haveI hT:s.TypeIs (.ref d) "set" := ⟨_,hx,rfl⟩
 haveI f1:isSubtype (.type "set") (.type "module")=pure false:=by rw [isSubtype_type];kernel_rfl
 refine wpAny_bind (m:=isInstance (.ref d) (.type "module")) (wpAny_isInstance hT f1 ?_)
 refine wpAny_bind (wpAny_bind (wpAny_loadPart hx (wpAny_pure ?_)))
 dsimp only
 refine wpAny_bind (wpAny_typeOf hT ?_)
 dsimp only
 exact wpAny_of_eq (a:=()) (by kernel_rfl) rfl
end
theorem dE {α:Type} {M:Model} {A:Around} {c:Prop} [Decidable c] {x y:Sem α} {Q:α→Shared→Prop} {E:Value→Shared→Prop} {s:Shared} (h:¬ c) (k:wpAny M A y Q E s):wpAny M A (if c then x else y) Q E s:=by rw [if_neg h];exact k
inductive All2 {α β:Type} (R:α→β→Prop):List α→List β→Prop
 | nil:All2 R [] []
 | cons {a b l r}:R a b→All2 R l r→All2 R (a::l) (b::r)
inductive AV where
 | none | bool (b:Bool) | int (i:Int) | str (x:Str) | ref (k:Nat) | glob (a:Addr) | bi (id:String) | ty (n:String)
inductive VNone:Value→Prop
 | none:VNone .none
inductive VBool (b:Bool):Value→Prop
 | bool:VBool b (.bool b)
inductive VInt (i:Int):Value→Prop
 | int (t:Tok):VInt i (.int i t)
inductive VStr (x:Str):Value→Prop
 | str (t:Tok):VStr x (.str x t)
inductive VRef (ρ:Nat→Addr) (n k:Nat):Value→Prop
 | ref (h:k < n):VRef ρ n k (.ref (ρ k))
inductive VGlob (a:Addr):Value→Prop
 | glob:VGlob a (.ref a)
inductive VBi (id:String):Value→Prop
 | bi:VBi id (.builtin id)
inductive VTy (m:String):Value→Prop
 | ty:VTy m (.type m)
noncomputable def VR (ρ:Nat→Addr) (n:Nat):AV→Value→Prop
 | .none=>VNone
 | .bool b=>VBool b
 | .int i=>VInt i
 | .str x=>VStr x
 | .ref k=>VRef ρ n k
 | .glob a=>VGlob a
 | .bi id=>VBi id
 | .ty m=>VTy m
section
variable {ρ:Nat→Addr} {n:Nat}
theorem VR.none:VR ρ n .none .none:=VNone.none
theorem VR.bool (b:Bool):VR ρ n (.bool b) (.bool b):=VBool.bool
theorem VR.int (i:Int) (t:Tok):VR ρ n (.int i) (.int i t):=VInt.int t
theorem VR.str (x:Str) (t:Tok):VR ρ n (.str x) (.str x t):=VStr.str t
theorem VR.ref (k:Nat) (h:k < n):VR ρ n (.ref k) (.ref (ρ k)):=VRef.ref h
theorem VR.glob (a:Addr):VR ρ n (.glob a) (.ref a):=VGlob.glob
theorem VR.bi (id:String):VR ρ n (.bi id) (.builtin id):=VBi.bi
theorem VR.ty (m:String):VR ρ n (.ty m) (.type m):=VTy.ty
end
def Agree (ρ ρ':Nat→Addr) (n:Nat):Prop:=∀ k,k < n→ρ' k=ρ k
theorem VR.mono {ρ ρ':Nat→Addr} {n n':Nat} (hn:n≤n') (hr:Agree ρ ρ' n) {a:AV} {v:Value} (h:VR ρ n a v):VR ρ' n' a v:=by
 cases a with
 | ref k=>cases h with | ref hk=>rw [← hr k hk];exact .ref k (Tc hk hn)
 | _=>exact h
abbrev VRs (ρ:Nat→Addr) (n:Nat) (xs:List AV) (vs:List Value):Prop:=All2 (VR ρ n) xs vs
inductive AO where
 | list (xs:List AV)
 | tup (xs:List AV)
 | inst (C:Addr) (d:Nat)
 | idict (kvs:List (Str×AV))
 | mtup (C:Addr) (xs:List AV)
 | ndict (kvs:List (Int×AV))
 | flds (cls:String) (xs:List AV)
 | raw (o:Obj)
 | eset
 | tdict (kvs:List (Nat×List Str×AV))
 | plc (a:Addr)
 | frm (a:Addr) (j:Nat) (o:Obj)
 | cell (a:Addr) (j:Nat) (v:Option AV)
inductive NR (ρ:Nat→Addr) (n:Nat):Int×AV→DictEntry→Prop
 | mk (k:Int) (t:Tok) (a:AV) (v:Value) (h:VR ρ n a v):NR ρ n (k,a) ⟨hashInt k,.int k t,v⟩
inductive ER (P:Params) (ρ:Nat→Addr) (n:Nat):Str×AV→DictEntry→Prop
 | mk (x:Str) (t:Tok) (a:AV) (v:Value) (h:VR ρ n a v):ER P ρ n (x,a) ⟨PyData.keyHash P x,.str x t,v⟩
noncomputable def aNo (P:Params) (ws:List Str):Int:=reduceHash (Builtin.Tuple.tupleHashOf (ws.map (PyData.keyHash P)))
inductive TR (P:Params) (ρ:Nat→Addr) (n:Nat):Nat×List Str×AV→DictEntry→Prop
 | mk (k:Nat) (ws:List Str) (a:AV) (v:Value) (hk:k < n) (h:VR ρ n a v):TR P ρ n (k,ws,a) ⟨aNo P ws,.ref (ρ k),v⟩
section
variable (P:Params) (ρ:Nat→Addr) (n:Nat)
inductive OTdict (kvs:List (Nat×List Str×AV)):Obj→Prop
 | tdict (es:List DictEntry) (e:Nat) (h:All2 (TR P ρ n) kvs es):OTdict kvs (dictOf es e)
inductive OList (xs:List AV):Obj→Prop
 | list (vs:List Value) (e:Nat) (h:VRs ρ n xs vs):OList xs (listOf vs.toArray e)
inductive OTup (xs:List AV):Obj→Prop
 | tup (vs:List Value) (e:Nat) (h:VRs ρ n xs vs):OTup xs { cls:=.type "tuple", data:=.seq vs.toArray e }
inductive OInst (C:Addr) (d:Nat):Obj→Prop
 | inst (h:d < n):OInst C d (instObj C (ρ d))
inductive OIdict (kvs:List (Str×AV)):Obj→Prop
 | idict (es:List DictEntry) (e:Nat) (h:All2 (ER P ρ n) kvs es):OIdict kvs (dictOf es e)
inductive OMtup (C:Addr) (xs:List AV):Obj→Prop
 | mtup (vs:List Value) (e:Nat) (d:Option Addr) (sl:Array (Option Value)) (h:VRs ρ n xs vs):OMtup C xs ⟨.ref C,d,.seq vs.toArray e,sl⟩
inductive ONdict (kvs:List (Int×AV)):Obj→Prop
 | ndict (es:List DictEntry) (e:Nat) (h:All2 (NR ρ n) kvs es):ONdict kvs (dictOf es e)
inductive OFlds (cls:String) (xs:List AV):Obj→Prop
 | flds (vs:List Value) (h:VRs ρ n xs vs):OFlds cls xs { cls:=.type cls,data:=.fields vs.toArray }
inductive ORaw (o:Obj):Obj→Prop
 | raw:ORaw o o
inductive OEset:Obj→Prop
 | eset (led:Bool):OEset { cls:=.type "set", dict:=none,data:=.set #[] 0 (.fresh 0 0 led) }
inductive OPlc (a:Addr):Obj→Prop
 | plc (ps:Array Value) (ht:TriplesOk ps.toList) (h0:0 < n) (h:ρ 0=a):OPlc a { cls:=.none,data:=.fields ps }
inductive OFrm (a:Addr) (j:Nat) (o:Obj):Obj→Prop
 | frm (sl:Array (Option Value)) (hj:j < n) (h:ρ j=a):OFrm a j o { o with slots:=sl }
inductive OCell0 (a:Addr) (j:Nat):Obj→Prop
 | cell0 (o:Obj) (hd:o.data=.cell none) (hj:j < n) (h:ρ j=a):OCell0 a j o
inductive OCell1 (a:Addr) (j:Nat) (v:AV):Obj→Prop
 | cell1 (o:Obj) (u:Value) (hd:o.data=.cell (some u)) (hj:j < n) (h:ρ j=a) (hv:VR ρ n v u):OCell1 a j v o
noncomputable def OR:AO→Obj→Prop
 | .list xs=>OList ρ n xs
 | .tup xs=>OTup ρ n xs
 | .inst C d=>OInst ρ n C d
 | .idict kvs=>OIdict P ρ n kvs
 | .mtup C xs=>OMtup ρ n C xs
 | .ndict kvs=>ONdict ρ n kvs
 | .flds cls xs=>OFlds ρ n cls xs
 | .raw o=>ORaw o
 | .eset=>OEset
 | .tdict kvs=>OTdict P ρ n kvs
 | .plc a=>OPlc ρ n a
 | .frm a j o=>OFrm ρ n a j o
 | .cell a j none=>OCell0 ρ n a j
 | .cell a j (some v)=>OCell1 ρ n a j v
end
section
variable {P:Params} {ρ:Nat→Addr} {n:Nat}
theorem OR.list (xs:List AV) (vs:List Value) (e:Nat) (h:VRs ρ n xs vs):OR P ρ n (.list xs) (listOf vs.toArray e):=OList.list vs e h
theorem OR.tup (xs:List AV) (vs:List Value) (e:Nat) (h:VRs ρ n xs vs):OR P ρ n (.tup xs) { cls:=.type "tuple", data:=.seq vs.toArray e }:=OTup.tup vs e h
theorem OR.inst (C:Addr) (d:Nat) (h:d < n):OR P ρ n (.inst C d) (instObj C (ρ d)):=OInst.inst h
theorem OR.idict (kvs:List (Str×AV)) (es:List DictEntry) (e:Nat) (h:All2 (ER P ρ n) kvs es):OR P ρ n (.idict kvs) (dictOf es e):=OIdict.idict es e h
theorem OR.mtup (C:Addr) (xs:List AV) (vs:List Value) (e:Nat) (d:Option Addr) (sl:Array (Option Value)) (h:VRs ρ n xs vs):OR P ρ n (.mtup C xs) ⟨.ref C,d,.seq vs.toArray e,sl⟩:=OMtup.mtup vs e d sl h
theorem OR.ndict (kvs:List (Int×AV)) (es:List DictEntry) (e:Nat) (h:All2 (NR ρ n) kvs es):OR P ρ n (.ndict kvs) (dictOf es e):=ONdict.ndict es e h
theorem OR.flds (cls:String) (xs:List AV) (vs:List Value) (h:VRs ρ n xs vs):OR P ρ n (.flds cls xs) { cls:=.type cls,data:=.fields vs.toArray }:=OFlds.flds vs h
theorem OR.raw (o:Obj):OR P ρ n (.raw o) o:=ORaw.raw
theorem OR.eset (led:Bool):OR P ρ n .eset { cls:=.type "set", dict:=none,data:=.set #[] 0 (.fresh 0 0 led) }:=OEset.eset led
theorem OR.tdict (kvs:List (Nat×List Str×AV)) (es:List DictEntry) (e:Nat) (h:All2 (TR P ρ n) kvs es):OR P ρ n (.tdict kvs) (dictOf es e):=OTdict.tdict es e h
theorem OR.plc (a:Addr) (ps:Array Value) (ht:TriplesOk ps.toList) (h0:0 < n) (h:ρ 0=a):OR P ρ n (.plc a) { cls:=.none,data:=.fields ps }:=OPlc.plc ps ht h0 h
theorem OR.frm (a:Addr) (j:Nat) (o:Obj) (sl:Array (Option Value)) (hj:j < n) (h:ρ j=a):OR P ρ n (.frm a j o) { o with slots:=sl }:=OFrm.frm sl hj h
theorem OR.cell0 (a:Addr) (j:Nat) (o:Obj) (hd:o.data=.cell none) (hj:j < n) (h:ρ j=a):OR P ρ n (.cell a j none) o:=OCell0.cell0 o hd hj h
theorem OR.cell1 (a:Addr) (j:Nat) (v:AV) (u:Value) (o:Obj) (hd:o.data=.cell (some u)) (hj:j < n) (h:ρ j=a) (hv:VR ρ n v u):OR P ρ n (.cell a j (some v)) o:=OCell1.cell1 o u hd hj h hv
end
theorem All2.mono {α β:Type} {R S:α→β→Prop} (h:∀ a b,R a b→S a b) {l:List α} {r:List β} (x:All2 R l r):All2 S l r:=by
 induction x with
 | nil=>exact .nil
 | cons a _ ih=>exact .cons (h _ _ a) ih
theorem OR.mono {P:Params} {ρ ρ':Nat→Addr} {n n':Nat} (hn:n≤n') (hr:Agree ρ ρ' n) {a:AO} {o:Obj} (h:OR P ρ n a o):OR P ρ' n' a o:=by
 cases a with
 | list xs=>cases h with | list vs e h=>exact .list _ _ _ (All2.mono (fun _ _ x=>x.mono hn hr) h)
 | tup xs=>cases h with | tup vs e h=>exact .tup _ _ _ (All2.mono (fun _ _ x=>x.mono hn hr) h)
 | inst C d=>cases h with | inst h=>rw [← hr d h];exact .inst _ _ (Tc h hn)
 | idict kvs=>cases h with | idict es e h=>exact .idict _ _ _ (All2.mono (fun _ _ x=>by cases x with | mk x t a v h=>exact .mk _ _ _ _ (h.mono hn hr)) h)
 | mtup C xs=>cases h with | mtup vs e d sl h=>exact .mtup _ _ _ _ _ _ (All2.mono (fun _ _ x=>x.mono hn hr) h)
 | ndict kvs=>cases h with | ndict es e h=>exact .ndict _ _ _ (All2.mono (fun _ _ x=>by cases x with | mk k t a v h=>exact .mk _ _ _ _ (h.mono hn hr)) h)
 | flds cls xs=>cases h with | flds vs h=>exact .flds _ _ _ (All2.mono (fun _ _ x=>x.mono hn hr) h)
 | raw o=>exact h
 | eset=>exact h
 | tdict kvs=>cases h with | tdict es e h=>exact .tdict _ _ _ (All2.mono (fun _ _ x=>by cases x with | mk k ws a v hk h=>rw [← hr k hk];exact .mk _ _ _ _ (Tc hk hn) (h.mono hn hr)) h)
 | plc a=>cases h with | plc ps ht h0 h=>exact .plc _ _ ht (Tc h0 hn) ((hr 0 h0).trans h)
 | frm a j o=>cases h with | frm sl hj h=>exact .frm _ _ _ _ (Tc hj hn) ((hr j hj).trans h)
 | cell a j v=>cases v with
  | none=>cases h with | cell0 hd hj h=>exact .cell0 _ _ _ hd (Tc hj hn) ((hr j hj).trans h)
  | some v=>cases h with | cell1 u hd hj h hv=>exact .cell1 _ _ _ _ _ hd (Tc hj hn) ((hr j hj).trans h) (hv.mono hn hr)
structure AH where
 nx:Nat
 objs:List (Nat×AO)
def HR (P:Params) (ρ:Nat→Addr) (σ:AH) (news:List (Addr×Obj)):Prop :=
 All2 (fun p q=>p.1 < σ.nx∧q.1=ρ p.1∧OR P ρ σ.nx p.2 q.2) σ.objs news
noncomputable abbrev Loc:=List (Str×AV)
def LR (ρ:Nat→Addr) (n:Nat) (loc:Loc) (m:Str→Option Value):Prop:=∀ x a,loc.lookup x=some a→∃ v,m x=some v∧VR ρ n a v
noncomputable abbrev FL:=Option (Option (List Addr)×List (Str×Addr))
structure Cx where
 prog:Program
 w:World
 K:Frag
 p:Program
 loose:List Str
 mg:Str→Option Value
 mb:Str→Option Value
 pl:Addr
 fl:FL
 cf:Option (List Addr)
noncomputable abbrev cP (qual:Str) (scope:Scope) (L:Addr) (a:Option Addr) (cd:Value) (cells:List (Str×Addr)) (fr:Option Addr):Env :=
 { scope:=scope,locals:=L,globals:=mainGlobals,cells:=cells,qual:=qual,func:=a,code:=cd,frame:=fr,builtins:=builtinsNs }
def FrO (l:List Addr) (outer:List Env):Prop:=All2 (fun (a:Addr) (e:Env)=>e.frame=some a∧e.scope.kind≠.module) l outer
inductive FmEx (c:Cx) (sc:Scope) (env:Env) (L:Addr):Prop
 | mk (cn:Str) (a:Option Addr) (ccd:Value) (cl:List (Str×Addr)) (fr:Option Addr) (e:env=cP cn sc L a ccd cl fr) (h:∀ l ce,c.fl=some (l,ce)→cl=ce∧(l≠none→fr=some L))
theorem FmEx.elim {c:Cx} {sc:Scope} {env:Env} {L:Addr} {Q:Prop} (x:FmEx c sc env L) (k:∀ (cn:Str) (a:Option Addr) (ccd:Value) (cl:List (Str×Addr)) (fr:Option Addr),env=cP cn sc L a ccd cl fr→(∀ l ce,c.fl=some (l,ce)→cl=ce∧(l≠none→fr=some L))→Q):Q:=by cases x with | mk a b c d e f g=>exact k a b c d e f g
structure Fm (c:Cx) (sc:Scope) (A:Around) (env:Env) (L:Addr) (h₀:Heap) (U D:Nat):Prop where
 ex:FmEx c sc env L
 bel:∀ l ce,c.fl=some (some l,ce)→∃ outer,A.frames=some (env::outer)∧FrO l outer
 X:c.K.In h₀
 T:TopRead c.p c.loose c.mg c.mb h₀
 hk:sc.kind=.function
 hu:A.units+U < cLine
 hd:A.depth+D < recursionLimit
 hh:A.handled=none
 sm:∃ o,h₀.get? sysModules=some o
 cfr:∀ l,c.cf=some l→∃ outer,A.frames=some outer∧FrO l outer
inductive StEx (P:Params) (h₀:Heap) (L:Addr) (ρ:Nat→Addr) (σ:AH) (loc:Loc) (X:List (Addr×Obj)) (h:Heap):Prop
 | mk (m:Str→Option Value) (news:List (Addr×Obj)) (F:Fr h₀ L h m) (hm:LR ρ σ.nx loc m) (H:HR P ρ σ news) (N:News h₀ L h (news++X)) (nd:((news++X).map (·.1)).Nodup)
theorem StEx.elim {P:Params} {h₀:Heap} {L:Addr} {ρ:Nat→Addr} {σ:AH} {loc:Loc} {X:List (Addr×Obj)} {h:Heap} {Q:Prop} (x:StEx P h₀ L ρ σ loc X h) (k:∀ (m:Str→Option Value) (news:List (Addr×Obj)),Fr h₀ L h m→LR ρ σ.nx loc m→HR P ρ σ news→News h₀ L h (news++X)→((news++X).map (·.1)).Nodup→Q):Q:=by cases x with | mk a b c d e f g=>exact k a b c d e f g
structure St (P:Params) (h₀:Heap) (L:Addr) (ρ:Nat→Addr) (σ:AH) (loc:Loc) (X:List (Addr×Obj)) (s:Shared):Prop where
 ex:StEx P h₀ L ρ σ loc X s.heap
structure GenLe (a b:Array GenState):Prop where
 bare:AllBare a→AllBare b
 keep:∀ (g:Nat) (x:GenState),a[g]? = some x→b[g]? = some x
theorem GenLe.refl (a:Array GenState):GenLe a a:=⟨id,fun _ _=>id⟩
theorem GenLe.trans {a b c:Array GenState} (x:GenLe a b) (y:GenLe b c):GenLe a c:=⟨fun h=>y.bare (x.bare h),fun g z h=>y.keep g z (x.keep g z h)⟩
structure Rest (s s':Shared):Prop where
 os:s'.os=s.os
 gens:GenLe s.gens s'.gens
 dr:s'.drawn=s.drawn
theorem Rest.refl (s:Shared):Rest s s:=⟨rfl,.refl _,rfl⟩
theorem Rest.trans {a b c:Shared} (x:Rest a b) (y:Rest b c):Rest a c:=⟨y.os.trans x.os,x.gens.trans y.gens,y.dr.trans x.dr⟩
inductive InL (x:Str) (a:AV):List (Str×AV)→Prop
 | here (r:List (Str×AV)):InL x a ((x,a)::r)
 | there (p:Str×AV) (r:List (Str×AV)) (h:InL x a r):InL x a (p::r)
def aZi (c:Cx) (h₀:Heap) (L:Addr) (ρ:Nat→Addr) (σ:AH) (X:List (Addr×Obj)) (s:Shared) {α:Type} (Q:α→Shared→Prop) (ok:(Nat→Addr)→AH→Loc→α→Prop):Prop :=
 ∀ ρ' σ' loc' v s',ok ρ' σ' loc' v→σ.nx≤σ'.nx→Agree ρ ρ' σ.nx→St c.w.params h₀ L ρ' σ' loc' X s'→Rest s s'→Q v s'
inductive AF where
 | next | brk | cont | ret (a:AV)
inductive FR (ρ:Nat→Addr) (n:Nat):AF→Flow→Prop
 | next:FR ρ n .next .next
 | brk:FR ρ n .brk .brk
 | cont:FR ρ n .cont .cont
 | ret (a:AV) (v:Value) (h:VR ρ n a v):FR ρ n (.ret a) (.ret v)
def BackV (c:Cx) (h₀:Heap) (L:Addr) (ρ:Nat→Addr) (σ:AH) (loc:Loc) (X:List (Addr×Obj)) (s:Shared) (Q:Value→Shared→Prop) (R:AV→AH→Prop):Prop :=
 ∀ ρ' σ' a v s',R a σ'→VR ρ' σ'.nx a v→σ.nx≤σ'.nx→Agree ρ ρ' σ.nx→St c.w.params h₀ L ρ' σ' loc X s'→Rest s s'→Q v s'
def BackL (c:Cx) (h₀:Heap) (L:Addr) (ρ:Nat→Addr) (σ:AH) (loc:Loc) (X:List (Addr×Obj)) (s:Shared) (Q:List Value→Shared→Prop) (R:List AV→AH→Prop):Prop :=
 ∀ ρ' σ' as vs s',R as σ'→VRs ρ' σ'.nx as vs→σ.nx≤σ'.nx→Agree ρ ρ' σ.nx→St c.w.params h₀ L ρ' σ' loc X s'→Rest s s'→Q vs s'
def BackB (c:Cx) (h₀:Heap) (L:Addr) (ρ:Nat→Addr) (σ:AH) (loc:Loc) (X:List (Addr×Obj)) (s:Shared) (Q:Bool→Shared→Prop) (R:Bool→AH→Prop):Prop :=
 ∀ ρ' σ' b s',R b σ'→σ.nx≤σ'.nx→Agree ρ ρ' σ.nx→St c.w.params h₀ L ρ' σ' loc X s'→Rest s s'→Q b s'
def BackU (c:Cx) (h₀:Heap) (L:Addr) (ρ:Nat→Addr) (σ:AH) (X:List (Addr×Obj)) (s:Shared) (Q:Unit→Shared→Prop) (R:Loc→AH→Prop):Prop :=
 ∀ ρ' σ' loc' s',R loc' σ'→σ.nx≤σ'.nx→Agree ρ ρ' σ.nx→St c.w.params h₀ L ρ' σ' loc' X s'→Rest s s'→Q () s'
def BackF (c:Cx) (h₀:Heap) (L:Addr) (ρ:Nat→Addr) (σ:AH) (X:List (Addr×Obj)) (s:Shared) (Q:Flow→Shared→Prop) (R:AF→Loc→AH→Prop):Prop :=
 ∀ ρ' σ' loc' a f s',R a loc' σ'→FR ρ' σ'.nx a f→σ.nx≤σ'.nx→Agree ρ ρ' σ.nx→St c.w.params h₀ L ρ' σ' loc' X s'→Rest s s'→Q f s'
def BackS (c:Cx) (h₀:Heap) (L:Addr) (ρ:Nat→Addr) (σ:AH) (loc:Loc) (X:List (Addr×Obj)) (s:Shared) {α:Type} (Q:α→Shared→Prop) (R:AH→Prop):Prop :=
 ∀ ρ' σ' (v:α) s',R σ'→σ.nx≤σ'.nx→Agree ρ ρ' σ.nx→St c.w.params h₀ L ρ' σ' loc X s'→Rest s s'→Q v s'
def aTe (c:Cx) (h₀:Heap) (L:Addr) (ρ:Nat→Addr) (σ:AH) (loc:Loc) (X:List (Addr×Obj)) (s:Shared) (Q:Option Value→Shared→Prop) (R:Option AV→AH→Prop):Prop :=
 BackS c h₀ L ρ σ loc X s (fun (_:Unit) s'=>Q none s') (fun σ'=>R none σ')∧BackV c h₀ L ρ σ loc X s (fun v s'=>Q (some v) s') (fun a σ'=>R (some a) σ')
def EvE (c:Cx) (sc:Scope) (U D:Nat) (e:Expr) (loc:Loc) (σ:AH) (R:AV→AH→Prop):Prop :=
 ∀ A env L h₀,Fm c sc A env L h₀ U D→∀ ρ X s Q E,St c.w.params h₀ L ρ σ loc X s →
  BackV c h₀ L ρ σ loc X s Q R→wpAny (model c.prog c.w) A (eval e env) Q E s
theorem Agree.trans {ρ ρ₁ ρ₂:Nat→Addr} {n n₁:Nat} (a:Agree ρ ρ₁ n) (h:n≤n₁) (b:Agree ρ₁ ρ₂ n₁):Agree ρ ρ₂ n:=fun k hk=>(b k (Tc hk h)).trans (a k hk)
theorem Agree.refl (ρ:Nat→Addr) (n:Nat):Agree ρ ρ n:=fun _ _=>rfl
section
variable {c:Cx} {h₀:Heap} {L:Addr} {ρ ρ₁:Nat→Addr} {σ σ₁:AH} {loc:Loc} {X:List (Addr×Obj)} {s s₁:Shared}
theorem BackV.after {Q:Value→Shared→Prop} {R:AV→AH→Prop} (K:BackV c h₀ L ρ σ loc X s Q R) (n:σ.nx≤σ₁.nx) (g:Agree ρ ρ₁ σ.nx) (r:Rest s s₁):BackV c h₀ L ρ₁ σ₁ loc X s₁ Q R :=
 fun ρ' σ' a v s' o h n' g' S' r'=>K ρ' σ' a v s' o h (Ta n n') (g.trans n g') S' (r.trans r')
theorem BackL.after {Q:List Value→Shared→Prop} {R:List AV→AH→Prop} (K:BackL c h₀ L ρ σ loc X s Q R) (n:σ.nx≤σ₁.nx) (g:Agree ρ ρ₁ σ.nx) (r:Rest s s₁):BackL c h₀ L ρ₁ σ₁ loc X s₁ Q R :=
 fun ρ' σ' a v s' o h n' g' S' r'=>K ρ' σ' a v s' o h (Ta n n') (g.trans n g') S' (r.trans r')
theorem BackB.after {Q:Bool→Shared→Prop} {R:Bool→AH→Prop} (K:BackB c h₀ L ρ σ loc X s Q R) (n:σ.nx≤σ₁.nx) (g:Agree ρ ρ₁ σ.nx) (r:Rest s s₁):BackB c h₀ L ρ₁ σ₁ loc X s₁ Q R :=
 fun ρ' σ' b s' o n' g' S' r'=>K ρ' σ' b s' o (Ta n n') (g.trans n g') S' (r.trans r')
theorem BackU.after {Q:Unit→Shared→Prop} {R:Loc→AH→Prop} (K:BackU c h₀ L ρ σ X s Q R) (n:σ.nx≤σ₁.nx) (g:Agree ρ ρ₁ σ.nx) (r:Rest s s₁):BackU c h₀ L ρ₁ σ₁ X s₁ Q R :=
 fun ρ' σ' l s' o n' g' S' r'=>K ρ' σ' l s' o (Ta n n') (g.trans n g') S' (r.trans r')
theorem BackF.after {Q:Flow→Shared→Prop} {R:AF→Loc→AH→Prop} (K:BackF c h₀ L ρ σ X s Q R) (n:σ.nx≤σ₁.nx) (g:Agree ρ ρ₁ σ.nx) (r:Rest s s₁):BackF c h₀ L ρ₁ σ₁ X s₁ Q R :=
 fun ρ' σ' l a f s' o h n' g' S' r'=>K ρ' σ' l a f s' o h (Ta n n') (g.trans n g') S' (r.trans r')
theorem BackS.after {α:Type} {Q:α→Shared→Prop} {R:AH→Prop} (K:BackS c h₀ L ρ σ loc X s Q R) (n:σ.nx≤σ₁.nx) (g:Agree ρ ρ₁ σ.nx) (r:Rest s s₁):BackS c h₀ L ρ₁ σ₁ loc X s₁ Q R :=
 fun ρ' σ' v s' o n' g' S' r'=>K ρ' σ' v s' o (Ta n n') (g.trans n g') S' (r.trans r')
theorem BackL.now {Q:List Value→Shared→Prop} {R:List AV→AH→Prop} (K:BackL c h₀ L ρ σ loc X s Q R) {a:List AV} {v:List Value} (h:R a σ) (hv:VRs ρ σ.nx a v) (S:St c.w.params h₀ L ρ σ loc X s):Q v s:=K ρ σ a v s h hv (Te _) (Agree.refl _ _) S (Rest.refl _)
theorem BackU.now {Q:Unit→Shared→Prop} {R:Loc→AH→Prop} (K:BackU c h₀ L ρ σ X s Q R) (h:R loc σ) (S:St c.w.params h₀ L ρ σ loc X s):Q () s:=K ρ σ loc s h (Te _) (Agree.refl _ _) S (Rest.refl _)
theorem BackV.now {Q:Value→Shared→Prop} {R:AV→AH→Prop} (K:BackV c h₀ L ρ σ loc X s Q R) {a:AV} {v:Value} (h:R a σ) (hv:VR ρ σ.nx a v) (S:St c.w.params h₀ L ρ σ loc X s):Q v s:=K ρ σ a v s h hv (Te _) (Agree.refl _ _) S (Rest.refl _)
theorem BackV.tok {Q:Value→Shared→Prop} {R:AV→AH→Prop} (K:BackV c h₀ L ρ σ loc X s Q R) {a:AV} {v:Value} (h:R a σ) (hv:VR ρ σ.nx a v) (S:St c.w.params h₀ L ρ σ loc X s) {t:Nat}:Q v { s with toks:=t }:=K ρ σ a v _ h hv (Te _) (Agree.refl _ _) ⟨S.ex⟩ ⟨rfl,.refl _,rfl⟩
theorem BackB.now {Q:Bool→Shared→Prop} {R:Bool→AH→Prop} (K:BackB c h₀ L ρ σ loc X s Q R) {b:Bool} (h:R b σ) (S:St c.w.params h₀ L ρ σ loc X s):Q b s:=K ρ σ b s h (Te _) (Agree.refl _ _) S (Rest.refl _)
theorem BackF.now {Q:Flow→Shared→Prop} {R:AF→Loc→AH→Prop} (K:BackF c h₀ L ρ σ X s Q R) {a:AF} {f:Flow} (h:R a loc σ) (hv:FR ρ σ.nx a f) (S:St c.w.params h₀ L ρ σ loc X s):Q f s:=K ρ σ loc a f s h hv (Te _) (Agree.refl _ _) S (Rest.refl _)
end
def EvT (c:Cx) (sc:Scope) (U D:Nat) (e:Expr) (loc:Loc) (σ:AH) (R:Bool→AH→Prop):Prop :=
 ∀ A env L h₀,Fm c sc A env L h₀ U D→∀ ρ X s Q E,St c.w.params h₀ L ρ σ loc X s→BackB c h₀ L ρ σ loc X s Q R→wpAny (model c.prog c.w) A (isTrue e env (eval e env)) Q E s
def TrV (c:Cx) (sc:Scope) (U D:Nat) (a:AV) (loc:Loc) (σ:AH) (R:Bool→AH→Prop):Prop :=
 ∀ A env L h₀,Fm c sc A env L h₀ U D→∀ ρ X s Q E v,St c.w.params h₀ L ρ σ loc X s→VR ρ σ.nx a v→BackB c h₀ L ρ σ loc X s Q R→wpAny (model c.prog c.w) A (truthy v) Q E s
def OpB (c:Cx) (sc:Scope) (U D:Nat) (op:Operator) (a b:AV) (loc:Loc) (σ:AH) (R:AV→AH→Prop):Prop :=
 ∀ A env L h₀,Fm c sc A env L h₀ U D→∀ ρ X s Q E v w,St c.w.params h₀ L ρ σ loc X s→VR ρ σ.nx a v→VR ρ σ.nx b w→BackV c h₀ L ρ σ loc X s Q R→wpAny (model c.prog c.w) A (binaryOp op v w) Q E s
def OpC (c:Cx) (sc:Scope) (U D:Nat) (op:CmpOp) (a b:AV) (loc:Loc) (σ:AH) (R:AV→AH→Prop):Prop :=
 ∀ A env L h₀,Fm c sc A env L h₀ U D→∀ ρ X s Q E v w,St c.w.params h₀ L ρ σ loc X s→VR ρ σ.nx a v→VR ρ σ.nx b w→BackV c h₀ L ρ σ loc X s Q R→wpAny (model c.prog c.w) A (compareOp op v w) Q E s
def ExS (c:Cx) (sc:Scope) (U D:Nat) (l:List Stmt) (loc:Loc) (σ:AH) (R:AF→Loc→AH→Prop):Prop :=
 ∀ A env L h₀,Fm c sc A env L h₀ U D→∀ ρ X s Q E,St c.w.params h₀ L ρ σ loc X s→BackF c h₀ L ρ σ X s Q R→wpAny (model c.prog c.w) A (execs l env) Q E s
def Ex1 (c:Cx) (sc:Scope) (U D:Nat) (l:Stmt) (loc:Loc) (σ:AH) (R:AF→Loc→AH→Prop):Prop :=
 ∀ A env L h₀,Fm c sc A env L h₀ U D→∀ ρ X s Q E,St c.w.params h₀ L ρ σ loc X s→BackF c h₀ L ρ σ X s Q R→wpAny (model c.prog c.w) A (exec l env) Q E s
def As1 (c:Cx) (sc:Scope) (U D:Nat) (t:Expr) (a:AV) (loc:Loc) (σ:AH) (R:Loc→AH→Prop):Prop :=
 ∀ A env L h₀,Fm c sc A env L h₀ U D→∀ ρ X s Q E v,St c.w.params h₀ L ρ σ loc X s→VR ρ σ.nx a v→BackU c h₀ L ρ σ X s Q R→wpAny (model c.prog c.w) A (assign t env v) Q E s
theorem St.toks {P:Params} {h₀:Heap} {L:Addr} {ρ:Nat→Addr} {σ:AH} {loc:Loc} {X:List (Addr×Obj)} {s:Shared} (h:St P h₀ L ρ σ loc X s) (t:Nat):St P h₀ L ρ σ loc X { s with toks:=t }:=⟨h.ex⟩
section
variable {M:Model} {A:Around} {E:Value→Shared→Prop} {s:Shared} {K:Frag} {h₀:Heap} {L:Addr} {a fr:Option Addr} {m mg mb:Str→Option Value} {cn:Str} {cs:Scope} {ccd:Value} {cl:List (Str×Addr)} {p:Program} {loose:List Str} {x:Str} {pos:Pos} {v:Value} {Q:Value→Shared→Prop} {news:List (Addr×Obj)}
theorem aKm (F:Fr h₀ L s.heap m) (X:K.In h₀) (T:TopRead p loose mg mb h₀) (e:nsIn K mainGlobals x=some (some v)) (h:Q v s) (hk:cs.kind=.function) (hx:cs.names.lookup x=some .globalImplicit) (hd:(x==("__debug__" : Str))=false) :
  wpAny M A (eval (.Name x pos) (cP cn cs L a ccd cl fr)) Q E s:=Name_function_global hk hx (loadGlobal_global (env:=cP cn cs L a ccd cl fr) (T.g.keeps F.keep) (mg_of X T.g e) h) hd
theorem aAr (F:Fr h₀ L s.heap m) (X:K.In h₀) (T:TopRead p loose mg mb h₀) (e:nsIn K mainGlobals x=some none) (hv:bootBuiltins x=some v) (hn:x ≠ "__name__") (h:Q v s) (hk:cs.kind=.function) (hx:cs.names.lookup x=some .globalImplicit) (hd:(x==("__debug__" : Str))=false) :
  wpAny M A (eval (.Name x pos) (cP cn cs L a ccd cl fr)) Q E s :=
 Name_function_global hk hx (loadGlobal_builtin (env:=cP cn cs L a ccd cl fr) (T.g.keeps F.keep) (mg_none_of X T.g e) (T.b.keeps F.keep) ((T.builtins x hn).trans hv) h) hd
theorem tM (F:Fr h₀ L s.heap m) (hv:m x=some v) (h:Q v s) (hk:cs.kind=.function) (hx:cs.names.lookup x=some .local) (hd:(x==("__debug__" : Str))=false) :
  wpAny M A (eval (.Name x pos) (cP cn cs L a ccd cl fr)) Q E s:=wpAny_Name (wpAny_loadName_local hk hx F.ns hv h) hd
theorem aFg {Q:Unit→Shared→Prop} (F:Fr h₀ L s.heap m) (N:News h₀ L s.heap news)
  (h:∀ h',Fr h₀ L h' (fun y=>if y=x then some v else m y)→News h₀ L h' news→Q () { s with heap:=h',toks:=s.toks+1 })
  (hk:cs.kind=.function) (hx:cs.names.lookup x=some .local):wpAny M A (storeName (cP cn cs L a ccd cl fr) x v) Q E s :=
 wpAny_storeName_local hx F.ns (fun h' hn hs=>h h' (F.set hn hs) (N.set hs)) (by show (cs.kind==.class||(cs.kind==.module&&L != mainGlobals))=false;rw [hk];rfl)
end
theorem aKn {c:Cx} {sc:Scope} {U D:Nat} {i:Int} {k:Nat} {pos:Pos} {loc:Loc} {σ:AH} {R:AV→AH→Prop} (h:R (.int i) σ):EvE c sc U D (.Constant (.int i) k pos) loc σ R :=
 fun _ _ _ _ _ ρ _ s _ _ S K=>wpAny_Constant_int (K ρ σ _ _ _ h (.int _ _) (Te _) (fun _ _=>rfl) (S.toks _) ⟨rfl,.refl _,rfl⟩)
theorem cA {c:Cx} {sc:Scope} {U D:Nat} {x:Str} {pos:Pos} {loc:Loc} {σ:AH} {R:AV→AH→Prop} {a:AV} (hk:sc.names.lookup x=some .local) (hd:(x==("__debug__" : Str))=false) (hi:InL x a loc) (hl:loc.lookup x=some a) (h:R a σ) :
  EvE c sc U D (.Name x pos) loc σ R:=fun A env L h₀ fm ρ X s Q E S K=>by
 obtain ⟨cn,b,ccd,cl,fr,rfl,_⟩:100:=fm.ex
 obtain ⟨m,news,F,hm,H,N,nd⟩:100:=S.ex
 obtain ⟨v,hv,hr⟩:1:=hm x a hl
 exact tM F hv (K ρ σ _ _ _ h hr (Te _) (fun _ _=>rfl) ⟨m,news,F,hm,H,N,nd⟩ (Rest.refl _)) fm.hk hk hd
section
variable {c:Cx} {sc:Scope} {U D:Nat} {loc:Loc} {σ:AH}
theorem aFh {k:Nat} {pos:Pos} {R:AV→AH→Prop} (h:R .none σ):EvE c sc U D (.Constant .none k pos) loc σ R :=
 fun _ _ _ _ _ ρ _ _ _ _ S K=>wpAny_Constant_none (K.now h .none S)
theorem aFi {b:Bool} {k:Nat} {pos:Pos} {R:AV→AH→Prop} (h:R (.bool b) σ):EvE c sc U D (.Constant (.bool b) k pos) loc σ R :=
 fun _ _ _ _ _ ρ _ _ _ _ S K=>wpAny_Constant_bool (K.now h (.bool _) S)
theorem aKo {x:Str} {k:Nat} {pos:Pos} {R:AV→AH→Prop} (h:R (.str x) σ):EvE c sc U D (.Constant (.str x) k pos) loc σ R :=
 fun _ _ _ _ _ ρ _ _ _ _ S K=>wpAny_Constant_str (K.tok h (.str _ _) S)
theorem jF {l r:Expr} {op:Operator} {pos:Pos} {R:AV→AH→Prop} (h:EvE c sc U D l loc σ fun a σ₁=>EvE c sc U D r loc σ₁ fun b σ₂=>OpB c sc U D op a b loc σ₂ R) :
  EvE c sc U D (.BinOp l op r pos) loc σ R:=fun A env L h₀ fm ρ X s Q E S K =>
 wpAny_BinOp (h A env L h₀ fm ρ X s _ E S fun ρ₁ σ₁ a v₁ s₁ ha va n₁ g₁ S₁ r₁=>by
  exact ha A env L h₀ fm ρ₁ X s₁ _ E S₁ fun ρ₂ σ₂ b v₂ s₂ hb vb n₂ g₂ S₂ r₂=>by
   exact hb A env L h₀ fm ρ₂ X s₂ Q E v₁ v₂ S₂ (va.mono n₂ g₂) vb ((K.after n₁ g₁ r₁).after n₂ g₂ r₂))
theorem vG {l r:Expr} {op:CmpOp} {pos:Pos} {R:AV→AH→Prop} (hm:behindInMarks op r=false) (h:EvE c sc U D l loc σ fun a σ₁=>EvE c sc U D r loc σ₁ fun b σ₂=>OpC c sc U D op a b loc σ₂ R) :
  EvE c sc U D (.Compare l [op] [r] pos) loc σ R:=fun A env L h₀ fm ρ X s Q E S K =>
 wpAny_Compare1 (h A env L h₀ fm ρ X s _ E S fun ρ₁ σ₁ a v₁ s₁ ha va n₁ g₁ S₁ r₁=>by
  exact ha A env L h₀ fm ρ₁ X s₁ _ E S₁ fun ρ₂ σ₂ b v₂ s₂ hb vb n₂ g₂ S₂ r₂=>by
   exact hb A env L h₀ fm ρ₂ X s₂ Q E v₁ v₂ S₂ (va.mono n₂ g₂) vb ((K.after n₁ g₁ r₁).after n₂ g₂ r₂)) hm
theorem cU {l r:Expr} {op:CmpOp} {pos:Pos} {R:Bool→AH→Prop} (hm:behindInMarks op r=false)
  (h:EvE c sc U D l loc σ fun a σ₁=>EvE c sc U D r loc σ₁ fun b σ₂=>OpC c sc U D op a b loc σ₂ fun d σ₃=>TrV c sc U D d loc σ₃ R) :
  EvT c sc U D (.Compare l [op] [r] pos) loc σ R:=fun A env L h₀ fm ρ X s Q E S K =>
 wpAny_isTrue_Compare1 (h A env L h₀ fm ρ X s _ E S fun ρ₁ σ₁ a v₁ s₁ ha va n₁ g₁ S₁ r₁=>by
  exact ha A env L h₀ fm ρ₁ X s₁ _ E S₁ fun ρ₂ σ₂ b v₂ s₂ hb vb n₂ g₂ S₂ r₂=>by
   exact hb A env L h₀ fm ρ₂ X s₂ _ E v₁ v₂ S₂ (va.mono n₂ g₂) vb fun ρ₃ σ₃ d v₃ s₃ hd vd n₃ g₃ S₃ r₃=>by
    exact hd A env L h₀ fm ρ₃ X s₃ Q E v₃ S₃ vd (((K.after n₁ g₁ r₁).after n₂ g₂ r₂).after n₃ g₃ r₃)) hm
theorem vH {b:Bool} {R:Bool→AH→Prop} (h:R b σ):TrV c sc U D (.bool b) loc σ R:=fun A env L h₀ fm ρ X s Q E v S hv K=>by
 cases hv
 exact wpAny_truthy_bool (K.now h S)
theorem oO {R:AF→Loc→AH→Prop} (h:R .next loc σ):ExS c sc U D [] loc σ R:=fun A env L h₀ fm ρ X s Q E S K =>
 wpAny_execs_nil (K.now h .next S)
noncomputable def thenS (c:Cx) (sc:Scope) (U D:Nat) (l:List Stmt) (R:AF→Loc→AH→Prop):AF→Loc→AH→Prop
 | .next,loc,σ=>ExS c sc U D l loc σ R
 | .brk,loc,σ=>R .brk loc σ
 | .cont,loc,σ=>R .cont loc σ
 | .ret a,loc,σ=>R (.ret a) loc σ
theorem dR {l:List Stmt} {R:AF→Loc→AH→Prop} (h:ExS c sc U D l loc σ R):thenS c sc U D l R .next loc σ:=h
theorem aCf {l:List Stmt} {R:AF→Loc→AH→Prop} (h:R .brk loc σ):thenS c sc U D l R .brk loc σ:=h
theorem yD {l:List Stmt} {R:AF→Loc→AH→Prop} (h:R .cont loc σ):thenS c sc U D l R .cont loc σ:=h
theorem aCg {l:List Stmt} {R:AF→Loc→AH→Prop} {a:AV} (h:R (.ret a) loc σ):thenS c sc U D l R (.ret a) loc σ:=h
theorem aH {st:Stmt} {l:List Stmt} {R:AF→Loc→AH→Prop}
  (h:Ex1 c sc U D st loc σ (thenS c sc U D l R)):ExS c sc U D (st::l) loc σ R:=fun A env L h₀ fm ρ X s Q E S K =>
 wpAny_execs_cons (h A env L h₀ fm ρ X s _ E S fun ρ₁ σ₁ loc₁ af f s₁ hf fr n₁ g₁ S₁ r₁=>by
  cases fr with
  | next=>exact hf A env L h₀ fm ρ₁ X s₁ Q E S₁ (K.after n₁ g₁ r₁)
  | brk=>exact K ρ₁ σ₁ loc₁ _ _ s₁ hf .brk n₁ g₁ S₁ r₁
  | cont=>exact K ρ₁ σ₁ loc₁ _ _ s₁ hf .cont n₁ g₁ S₁ r₁
  | ret a v hv=>exact K ρ₁ σ₁ loc₁ _ _ s₁ hf (.ret _ _ hv) n₁ g₁ S₁ r₁)
theorem fZ {test:Expr} {body orelse:List Stmt} {pos:Pos} {R:AF→Loc→AH→Prop}
  (h:EvT c sc U D test loc σ fun b σ₁=>(b=true→ExS c sc U D body loc σ₁ R)∧(b=false→ExS c sc U D orelse loc σ₁ R)):Ex1 c sc U D (.If test body orelse pos) loc σ R:=fun A env L h₀ fm ρ X s Q E S K =>
 wpAny_If (h A env L h₀ fm ρ X s _ E S fun ρ₁ σ₁ b s₁ hb n₁ g₁ S₁ r₁=>by
  cases b with
  | true=>exact hb.1 rfl A env L h₀ fm ρ₁ X s₁ Q E S₁ (K.after n₁ g₁ r₁)
  | false=>exact hb.2 rfl A env L h₀ fm ρ₁ X s₁ Q E S₁ (K.after n₁ g₁ r₁))
theorem gD {e:Expr} {pos:Pos} {R:AF→Loc→AH→Prop} (h:EvE c sc U D e loc σ fun a σ₁=>R (.ret a) loc σ₁):Ex1 c sc U D (.Return (some e) pos) loc σ R:=fun A env L h₀ fm ρ X s Q E S K =>
 wpAny_Return_some (h A env L h₀ fm ρ X s _ E S fun ρ₁ σ₁ a v s₁ ha va n₁ g₁ S₁ r₁=>by
  exact K ρ₁ σ₁ _ _ _ s₁ ha (.ret _ _ va) n₁ g₁ S₁ r₁)
end
noncomputable def put {κ:Type} [DecidableEq κ] (x:κ) (a:AV):List (κ×AV)→List (κ×AV)
 | []=>[(x,a)]
 | (y,b)::r=>if x=y then (x,a)::r else (y,b)::put x a r
theorem dS {κ:Type} [DecidableEq κ] {x y:κ} {a b:AV} {r:List (κ×AV)}:put x a ((y,b)::r)=if x=y then (x,a)::r else (y,b)::put x a r:=rfl
theorem cB {x y:Str} {b:AV} {r:Loc} (h:y≠x):List.lookup y ((x,b)::r)=List.lookup y r:=by
 rw [List.lookup_cons,beq_false_of_ne h]
theorem cC {x:Str} {b:AV} {r:Loc}:List.lookup x ((x,b)::r)=some b:=by
 rw [List.lookup_cons,beq_self_eq_true]
theorem vI (x:Str) (a:AV) (y:Str):∀ loc:Loc,(put x a loc).lookup y=if y=x then some a else loc.lookup y
 | []=>by
  show List.lookup y [(x,a)]=_
  by_cases h:y=x
  ·rw [if_pos h,h,cC]
  ·rw [if_neg h,cB h]
 | (z,b)::r=>by
  rw [dS]
  by_cases h:x=z
  ·rw [if_pos h]
   by_cases q:y=x
   ·rw [if_pos q,q,cC]
   ·rw [if_neg q,cB q,cB (h▸q)]
  ·rw [if_neg h]
   by_cases q:y=z
   ·haveI:y≠x:=fun e=>h (e.symm.trans q)
    rw [if_neg this,q,cC,cC]
   ·rw [cB q,cB q,vI x a y r]
inductive PtL (x:Str) (a:AV):List (Str×AV)→List (Str×AV)→Prop
 | here (b:AV) (r:List (Str×AV)):PtL x a ((x,b)::r) ((x,a)::r)
 | there (p:Str×AV) (r r':List (Str×AV)) (h:PtL x a r r'):PtL x a (p::r) (p::r')
 | new:PtL x a [] [(x,a)]
def PutTo (x:Str) (a:AV) (l:List (Str×AV)) (P:List (Str×AV)→Prop):Prop:=P (put x a l)
theorem aNp {x:Str} {a:AV} {l l':List (Str×AV)} {P:List (Str×AV)→Prop} (hp:PtL x a l l') (e:put x a l=l') (h:P l'):PutTo x a l P:=by
 unfold PutTo;rw [e];exact h
section
variable {c:Cx} {sc:Scope} {U D:Nat} {loc:Loc} {σ:AH}
def NmS (c:Cx) (sc:Scope) (U D:Nat) (x:Str) (a:AV) (loc:Loc) (σ:AH) (R:Loc→AH→Prop):Prop :=
 ∀ A env L h₀,Fm c sc A env L h₀ U D→∀ ρ X s Q E v,St c.w.params h₀ L ρ σ loc X s→VR ρ σ.nx a v→BackU c h₀ L ρ σ X s Q R→wpAny (model c.prog c.w) A (storeName env x v) Q E s
theorem nmS {x:Str} {a:AV} {R:Loc→AH→Prop} (hk:sc.names.lookup x=some .local) (h:R (put x a loc) σ):NmS c sc U D x a loc σ R:=fun A env L h₀ fm ρ X s Q E v S hv K=>by
 obtain ⟨cn,b,ccd,cl,fr,rfl,_⟩:100:=fm.ex
 obtain ⟨m,news,F,hm,H,N,nd⟩:100:=S.ex
 refine aFg F N (fun h' F' N'=>K ρ σ _ _ h (Te _) (Agree.refl _ _) ⟨_,news,F',?_,H,N',nd⟩ ⟨rfl,.refl _,rfl⟩) fm.hk hk
 intro y b hy
 rw [vI] at hy
 by_cases q:y=x
 ·rw [if_pos q] at hy
  cases hy
  exact ⟨v,by simp [q],hv⟩
 ·rw [if_neg q] at hy
  obtain ⟨u,hu,ru⟩:1:=hm y b hy
  exact ⟨u,by simp [q,hu],ru⟩
theorem lK {x:Str} {pos:Pos} {a:AV} {R:Loc→AH→Prop} (hk:sc.names.lookup x=some .local) (h:PutTo x a loc fun l=>R l σ):As1 c sc U D (.Name x pos) a loc σ R:=fun A env L h₀ fm ρ X s Q E v S hv K=>by
 show wpAny _ A (do standAt pos;bindName env x v) Q E s
 exact wpAny_bind (wpAny_standAt (wpAny_bindName (nmS hk h A env L h₀ fm ρ X s Q E v S hv K)))
theorem cQ {x:Str} {xp pos:Pos} {value:Expr} {R:AF→Loc→AH→Prop} (hs:∀ env,swapsWith value (some (.Name x xp)) pos.line env=pure false) (hk:sc.names.lookup x=some .local)
  (h:EvE c sc U D value loc σ fun a σ₁=>PutTo x a loc fun l=>R .next l σ₁):Ex1 c sc U D (.Assign [.Name x xp] value pos) loc σ R:=fun A env L h₀ fm ρ X s Q E S K =>
 wpAny_Assign_Name (h A env L h₀ fm ρ X s _ E S fun ρ₁ σ₁ a v s₁ ha va n₁ g₁ S₁ r₁=>by
  exact nmS (R:=fun loc' σ'=>R .next loc' σ') hk ha A env L h₀ fm ρ₁ X s₁ _ E v S₁ va fun ρ₂ σ₂ loc₂ s₂ h₂ n₂ g₂ S₂ r₂ =>
   (K.after n₁ g₁ r₁) ρ₂ σ₂ loc₂ _ .next s₂ h₂ .next n₂ g₂ S₂ r₂) (hs env)
theorem aP {x:Str} {pos:Pos} {R:AV→AH→Prop} {v:Value} {a:AV} (hk:sc.names.lookup x=some .globalImplicit) (hd:(x==("__debug__" : Str))=false) (e:nsIn c.K mainGlobals x=some (some v)) (ha:∀ ρ n,VR ρ n a v) (h:R a σ) :
  EvE c sc U D (.Name x pos) loc σ R:=fun A env L h₀ fm ρ X s Q E S K=>by
 obtain ⟨cn,b,ccd,cl,fr,rfl,_⟩:100:=fm.ex
 obtain ⟨m,news,F,hm,H,N,nd⟩:100:=S.ex
 exact aKm F fm.X fm.T e (K ρ σ _ _ _ h (ha _ _) (Te _) (Agree.refl _ _) ⟨m,news,F,hm,H,N,nd⟩ (Rest.refl _)) fm.hk hk hd
theorem aQ {x:Str} {pos:Pos} {R:AV→AH→Prop} {v:Value} {a:AV} (hk:sc.names.lookup x=some .globalImplicit) (hd:(x==("__debug__" : Str))=false) (e:nsIn c.K mainGlobals x=some none) (hv:bootBuiltins x=some v) (hn:x ≠ "__name__")
  (ha:∀ ρ n,VR ρ n a v) (h:R a σ):EvE c sc U D (.Name x pos) loc σ R:=fun A env L h₀ fm ρ X s Q E S K=>by
 obtain ⟨cn,b,ccd,cl,fr,rfl,_⟩:100:=fm.ex
 obtain ⟨m,news,F,hm,H,N,nd⟩:100:=S.ex
 exact aAr F fm.X fm.T e hv hn (K ρ σ _ _ _ h (ha _ _) (Te _) (Agree.refl _ _) ⟨m,news,F,hm,H,N,nd⟩ (Rest.refl _)) fm.hk hk hd
section
variable {i j:Int} {R:AV→AH→Prop}
theorem yE (h:R (.int (i+j)) σ):OpB c sc U D .Add (.int i) (.int j) loc σ R:=fun A env L h₀ fm ρ X s Q E v w S hv hw K=>by
 cases hv;cases hw
 exact add_int (K.tok h (.int _ _) S)
theorem yF (h:R (.int (i - j)) σ):OpB c sc U D .Sub (.int i) (.int j) loc σ R:=fun A env L h₀ fm ρ X s Q E v w S hv hw K=>by
 cases hv;cases hw
 exact sub_int (K.tok h (.int _ _) S)
theorem oZ (h:R (.bool (i==j)) σ):OpC c sc U D .Eq (.int i) (.int j) loc σ R:=fun A env L h₀ fm ρ X s Q E v w S hv hw K=>by
 cases hv;cases hw
 exact eq_int (K.now h (.bool _) S)
theorem yG (h:R (.bool (i != j)) σ):OpC c sc U D .NotEq (.int i) (.int j) loc σ R:=fun A env L h₀ fm ρ X s Q E v w S hv hw K=>by
 cases hv;cases hw
 exact ne_int (K.now h (.bool _) S)
theorem yH (h:R (.bool (decide (i < j))) σ):OpC c sc U D .Lt (.int i) (.int j) loc σ R:=fun A env L h₀ fm ρ X s Q E v w S hv hw K=>by
 cases hv;cases hw
 exact lt_int (K.now h (.bool _) S)
theorem yI (h:R (.bool (decide (i > j))) σ):OpC c sc U D .Gt (.int i) (.int j) loc σ R:=fun A env L h₀ fm ρ X s Q E v w S hv hw K=>by
 cases hv;cases hw
 exact gt_int (K.now h (.bool _) S)
theorem yJ (h:R (.bool (decide (i≥j))) σ):OpC c sc U D .GtE (.int i) (.int j) loc σ R:=fun A env L h₀ fm ρ X s Q E v w S hv hw K=>by
 cases hv;cases hw
 exact ge_int (K.now h (.bool _) S)
end
theorem pA {x y:Str} {R:AV→AH→Prop} (h:R (.bool (x==y)) σ):OpC c sc U D .Eq (.str x) (.str y) loc σ R:=fun A env L h₀ fm ρ X s Q E v w S hv hw K=>by
 cases hv;cases hw
 exact eq_str (K.now h (.bool _) S)
theorem yK {x y:Str} {R:AV→AH→Prop} (h:R (.bool (x != y)) σ):OpC c sc U D .NotEq (.str x) (.str y) loc σ R:=fun A env L h₀ fm ρ X s Q E v w S hv hw K=>by
 cases hv;cases hw
 exact ne_str (K.now h (.bool _) S)
theorem vJ {a:AV} {R:AV→AH→Prop} (h:∀ ρ n v,VR ρ n a v→R (.bool (v==.none)) σ):OpC c sc U D .Is a .none loc σ R:=fun A env L h₀ fm ρ X s Q E v w S hv hw K=>by
 cases hw
 exact is_none (K.now (h _ _ _ hv) (.bool _) S)
theorem pB {a:AV} {R:AV→AH→Prop} (h:∀ ρ n v,VR ρ n a v→R (.bool (!(v==.none))) σ):OpC c sc U D .IsNot a .none loc σ R:=fun A env L h₀ fm ρ X s Q E v w S hv hw K=>by
 cases hw
 exact isNot_none (K.now (h _ _ _ hv) (.bool _) S)
end
noncomputable def AH.get (σ:AH) (k:Nat):Option AO:=if k < σ.nx then σ.objs.lookup k else none
theorem AH.get_look {σ:AH} {k:Nat} {o:AO} (h:σ.get k=some o):k < σ.nx∧σ.objs.lookup k=some o:=by
 unfold AH.get at h
 split at h
 ·exact ⟨‹_›,h⟩
 ·cases h
noncomputable def AH.new (σ:AH) (o:AO):AH:=⟨σ.nx+1,(σ.nx,o)::σ.objs⟩
noncomputable def hW (k:Nat) (o:AO):List (Nat×AO)→List (Nat×AO)
 | []=>[]
 | (j,p)::r=>if k=j then (j,o)::r else (j,p)::hW k o r
theorem sM {k j:Nat} {o p:AO} {r:List (Nat×AO)}:hW k o ((j,p)::r)=if k=j then (j,o)::r else (j,p)::hW k o r:=rfl
noncomputable def AH.set (σ:AH) (k:Nat) (o:AO):AH:=⟨σ.nx,hW k o σ.objs⟩
theorem All2.mem {α β:Type} {R:α→β→Prop} {l:List α} {r:List β} (x:All2 R l r):∀ a∈l,∃ b∈r,R a b:=by
 induction x with
 | nil=>intro a h;cases h
 | cons h _ ih =>
  intro a ha
  rcases Tf ha with rfl | ha
  ·exact ⟨_,.head _,h⟩
  ·refine hid ?_;intro ZZ zz
   obtain ⟨b,hb,hr⟩:1:=ih a ha
   refine zz ?_;clear zz
   exact ⟨b,.tail _ hb,hr⟩
theorem cS {k:Nat} {o:AO}:∀ {l:List (Nat×AO)},l.lookup k=some o→(k,o)∈l
 | [],h=>by cases h
 | (j,p)::r,h=>by
  by_cases q:k=j
  ·subst q
   rw [List.lookup_cons,beq_self_eq_true] at h
   cases h
   exact .head _
  ·rw [List.lookup_cons,beq_false_of_ne q] at h
   exact .tail _ (cS h)
inductive HgEx (P:Params) (ρ:Nat→Addr) (n:Nat) (news:List (Addr×Obj)) (k:Nat) (a:AO):Prop
 | mk (o:Obj) (h1:(ρ k,o)∈news) (h2:k < n) (h3:OR P ρ n a o)
theorem HgEx.elim {P:Params} {ρ:Nat→Addr} {n:Nat} {news:List (Addr×Obj)} {k:Nat} {a:AO} {Q:Prop} (x:HgEx P ρ n news k a) (y:∀ o,(ρ k,o)∈news→k < n→OR P ρ n a o→Q):Q:=by cases x with | mk a b c d=>exact y a b c d
theorem HR.get {P:Params} {ρ:Nat→Addr} {σ:AH} {news:List (Addr×Obj)} (H:HR P ρ σ news) {k:Nat} {a:AO} (h:σ.get k=some a):HgEx P ρ σ.nx news k a:=by
 refine hid ?_;intro ZZ zz
 obtain ⟨⟨b,o⟩,hb,h1,h2,h3⟩:=All2.mem H (k,a) (cS (AH.get_look h).2)
 refine zz ?_;clear zz
 dsimp only at h1 h2 h3
 subst h2
 exact ⟨o,hb,h1,h3⟩
theorem HR.setAux {P:Params} {ρ:Nat→Addr} {n:Nat} {k:Nat} {a a':AO} {X:List (Addr×Obj)} (f:Obj→Obj) (hf:∀ o,OR P ρ n a o→OR P ρ n a' (f o)) :
  ∀ {l:List (Nat×AO)} {news:List (Addr×Obj)},All2 (fun (p:Nat×AO) (q:Addr×Obj)=>p.1 < n∧q.1=ρ p.1∧OR P ρ n p.2 q.2) l news→l.lookup k=some a→((news++X).map (·.1)).Nodup →
   ∃ o news',OR P ρ n a o∧(ρ k,o)∈news∧All2 (fun (p:Nat×AO) (q:Addr×Obj)=>p.1 < n∧q.1=ρ p.1∧OR P ρ n p.2 q.2) (hW k a' l) news'∧Upd (ρ k) o (f o) (news++X) (news'++X)∧(news'++X).map (·.1)=(news++X).map (·.1):=by
 intro l news hA
 induction hA with
 | nil=>intro h;cases h
 | @cons jp q r ns hh t ih =>
  intro h nd
  obtain ⟨j,p⟩:=jp
  obtain ⟨h1,h2,h3⟩:0:=hh
  haveI nd':q.1∉(ns++X).map (·.1)∧((ns++X).map (·.1)).Nodup:=by
   haveI:=nd
   rw [List.cons_append,List.map_cons,List.nodup_cons] at this
   exact this
  rw [sM]
  by_cases e:k=j
  ·subst e
   rw [List.lookup_cons,beq_self_eq_true] at h
   cases h
   rw [if_pos rfl]
   obtain ⟨qa,qo⟩:=q
   dsimp only at h2 h3 nd' h1
   subst h2
   refine ⟨qo,(ρ k,f qo)::ns,h3,.head _,.cons ⟨h1,rfl,hf _ h3⟩ t,?_,rfl⟩
   exact Upd.head fun x hx e=>nd'.1 (List.mem_map.mpr ⟨x,hx,e⟩)
  ·rw [List.lookup_cons,beq_false_of_ne e] at h
   rw [if_neg e]
   obtain ⟨o,news',c1,c2,c3,c4,c5⟩:2:=ih h nd'.2
   refine ⟨o,q::news',c1,.tail _ c2,.cons ⟨h1,h2,h3⟩ c3,?_,?_⟩
   ·refine Upd.tail (fun z=>nd'.1 ?_) c4
    rw [z]
    exact List.mem_map.mpr ⟨(ρ k,o),Th _ c2,rfl⟩
   ·show q.1::(news'++X).map (·.1)=q.1::(ns++X).map (·.1)
    rw [c5]
inductive HsEx (P:Params) (ρ:Nat→Addr) (σ:AH) (news X:List (Addr×Obj)) (k:Nat) (a a':AO) (f:Obj→Obj):Prop
 | mk (o:Obj) (news':List (Addr×Obj)) (h1:OR P ρ σ.nx a o) (h2:(ρ k,o)∈news) (h3:HR P ρ (σ.set k a') news') (h4:Upd (ρ k) o (f o) (news++X) (news'++X)) (h5:((news'++X).map (·.1)).Nodup)
theorem HsEx.elim {P:Params} {ρ:Nat→Addr} {σ:AH} {news X:List (Addr×Obj)} {k:Nat} {a a':AO} {f:Obj→Obj} {Q:Prop} (x:HsEx P ρ σ news X k a a' f) (y:∀ (o:Obj) (news':List (Addr×Obj)),OR P ρ σ.nx a o→(ρ k,o)∈news→HR P ρ (σ.set k a') news'→Upd (ρ k) o (f o) (news++X) (news'++X)→((news'++X).map (·.1)).Nodup→Q):Q:=by cases x with | mk a b c d e f g=>exact y a b c d e f g
theorem HR.set {P:Params} {ρ:Nat→Addr} {σ:AH} {news X:List (Addr×Obj)} {k:Nat} {a a':AO} (f:Obj→Obj) (H:HR P ρ σ news) (h:σ.get k=some a) (nd:((news++X).map (·.1)).Nodup) (hf:∀ o,OR P ρ σ.nx a o→OR P ρ σ.nx a' (f o)) :
  HsEx P ρ σ news X k a a' f:=by
 obtain ⟨o,news',c1,c2,c3,c4,c5⟩:2:=HR.setAux f hf H (AH.get_look h).2 nd
 exact ⟨o,news',c1,c2,c3,c4,c5▸nd⟩
noncomputable def ext (ρ:Nat→Addr) (n:Nat) (l:Addr):Nat→Addr:=fun k=>if k=n then l else ρ k
theorem aK (ρ:Nat→Addr) (n:Nat) (l:Addr):Agree ρ (ext ρ n l) n:=fun k hk=>if_neg (Nat.ne_of_lt hk)
theorem aS (ρ:Nat→Addr) (n:Nat) (l:Addr):ext ρ n l n=l:=if_pos rfl
theorem LR.mono {ρ ρ':Nat→Addr} {n n':Nat} {loc:Loc} {m:Str→Option Value} (hn:n≤n') (g:Agree ρ ρ' n) (h:LR ρ n loc m):LR ρ' n' loc m:=fun x a e=>let ⟨v,h1,h2⟩:=h x a e;⟨v,h1,h2.mono hn g⟩
theorem HR.mono {P:Params} {ρ ρ':Nat→Addr} {n n':Nat} {l:List (Nat×AO)} {news:List (Addr×Obj)} (hn:n≤n') (g:Agree ρ ρ' n) (h:HR P ρ ⟨n,l⟩ news):HR P ρ' ⟨n',l⟩ news :=
 All2.mono (fun _ _ ⟨h1,h2,h3⟩=>⟨Tc h1 hn,h2.trans (g _ h1).symm,h3.mono hn g⟩) h
theorem St.alloc {P:Params} {h₀ h':Heap} {L l:Addr} {ρ:Nat→Addr} {σ:AH} {loc:Loc} {X news:List (Addr×Obj)} {m:Str→Option Value} {s':Shared} {a:AO} {o:Obj} (hs:s'.heap=h') (F:Fr h₀ L h' m) (M:LR ρ σ.nx loc m) (H:HR P ρ σ news)
  (N:News h₀ L h' ((l,o)::(news++X))) (nd:((news++X).map (·.1)).Nodup) (hl:∀ p∈news++X,p.1 < l) (ho:OR P ρ σ.nx a o):St P h₀ L (ext ρ σ.nx l) (σ.new a) loc X s':=by
 subst hs
 haveI g:=aK ρ σ.nx l
 refine ⟨m,(l,o)::news,F,M.mono (Nat.le_succ _) g,.cons ⟨Nat.lt_succ_self _,(aS _ _ _).symm,ho.mono (Nat.le_succ _) g⟩ (HR.mono (Nat.le_succ _) g H),N,?_⟩
 rw [List.cons_append,List.map_cons,List.nodup_cons]
 exact ⟨fun q=>by obtain ⟨p,hp,e⟩:1:=List.mem_map.mp q;exact Nat.lt_irrefl _ (e▸hl p hp),nd⟩
section
variable {c:Cx} {sc:Scope} {U D:Nat} {loc:Loc} {σ:AH}
def EvL (c:Cx) (sc:Scope) (U D:Nat) (es:List Expr) (loc:Loc) (σ:AH) (R:List AV→AH→Prop):Prop :=
 ∀ A env L h₀,Fm c sc A env L h₀ U D→∀ pos ρ X s Q E,St c.w.params h₀ L ρ σ loc X s →
  BackL c h₀ L ρ σ loc X s Q R→wpAny (model c.prog c.w) A (spliced (backTo pos (starEach es env))) Q E s
theorem eT {R:List AV→AH→Prop} (h:R [] σ):EvL c sc U D [] loc σ R:=fun A env L h₀ fm pos ρ X s Q E S K =>
 wpAny_items_nil (K.now h .nil S)
theorem bD {e:Expr} {es:List Expr} {R:List AV→AH→Prop} (he:∀ env,starEach (e::es) env=(false,eval e env)::starEach es env)
  (h:EvE c sc U D e loc σ fun a σ₁=>EvL c sc U D es loc σ₁ fun as σ₂=>R (a::as) σ₂):EvL c sc U D (e::es) loc σ R:=fun A env L h₀ fm pos ρ X s Q E S K =>
 wpAny_items_cons (h A env L h₀ fm ρ X s _ E S fun ρ₁ σ₁ a v s₁ ha va n₁ g₁ S₁ r₁=>by
  exact ha A env L h₀ fm pos ρ₁ X s₁ _ E S₁ fun ρ₂ σ₂ as vs s₂ has vas n₂ g₂ S₂ r₂=>by
   exact (K.after n₁ g₁ r₁) ρ₂ σ₂ _ _ s₂ has (.cons (va.mono n₂ g₂) vas) n₂ g₂ S₂ r₂) (he env)
end
theorem All2.length {α β:Type} {R:α→β→Prop} {l:List α} {r:List β} (x:All2 R l r):l.length=r.length:=by
 induction x with
 | nil=>rfl
 | cons _ _ ih=>rw [List.length_cons,List.length_cons,ih]
theorem All2.at {α β:Type} {R:α→β→Prop} {l:List α} {r:List β} (x:All2 R l r):∀ {i:Nat} {a:α},l[i]? = some a→∃ b,r[i]? = some b∧R a b:=by
 induction x with
 | nil=>intro i a h;simp at h
 | cons h _ ih =>
  intro i a e
  cases i with
  | zero =>
   rw [List.getElem?_cons_zero] at e
   cases e
   exact ⟨_,rfl,h⟩
  | succ i =>
   rw [List.getElem?_cons_succ] at e
   obtain ⟨b,hb,hr⟩:1:=ih e
   exact ⟨b,by rw [List.getElem?_cons_succ];exact hb,hr⟩
theorem All2.append {α β:Type} {R:α→β→Prop} {l l':List α} {r r':List β} (x:All2 R l r) (y:All2 R l' r'):All2 R (l++l') (r++r'):=by
 induction x with
 | nil=>exact y
 | cons h _ ih=>exact .cons h ih
section
variable {c:Cx} {sc:Scope} {U D:Nat} {loc:Loc} {σ:AH}
theorem iG {es:List Expr} {pos:Pos} {R:AV→AH→Prop} (h:EvL c sc U D es loc σ fun as σ₁=>as.length≤sizeLine∧R (.ref σ₁.nx) (σ₁.new (.list as))):EvE c sc U D (.List es pos) loc σ R:=fun A env L h₀ fm ρ X s Q E S K =>
 List_ (h A env L h₀ fm pos ρ X s _ E S fun ρ₁ σ₁ as vs s₁ ⟨hz,ha⟩ va n₁ g₁ S₁ r₁=>by
  obtain ⟨m,news,F,hm,H,N,nd⟩:100:=S₁.ex
  refine newList_K F N (fun l h' F' N' hl=>?_) (by rw [← va.length];exact hz)
  exact (K.after n₁ g₁ r₁) _ _ _ _ _ ha (by haveI:=VR.ref (ρ:=ext ρ₁ σ₁.nx l) (n:=σ₁.nx+1) σ₁.nx (Nat.lt_succ_self _);rw [aS] at this;exact this) (Nat.le_succ _) (aK _ _ _)
   (St.alloc rfl F' hm H N' nd hl (.list _ _ _ va)) ⟨rfl,.refl _,rfl⟩)
theorem sN {es:List Expr} {k:Nat} {pos:Pos} {R:AV→AH→Prop} (h:EvL c sc U D es loc σ fun as σ₁=>as.length≤sizeLine∧R (.ref σ₁.nx) (σ₁.new (.tup as))):EvE c sc U D (.Tuple es k pos) loc σ R:=fun A env L h₀ fm ρ X s Q E S K =>
 Tuple_ (h A env L h₀ fm pos ρ X s _ E S fun ρ₁ σ₁ as vs s₁ ⟨hz,ha⟩ va n₁ g₁ S₁ r₁=>by
  obtain ⟨m,news,F,hm,H,N,nd⟩:100:=S₁.ex
  refine newTuple_N F N (fun h' F' N'=>?_) (by rw [← va.length];exact hz)
  exact (K.after n₁ g₁ r₁) _ _ _ _ _ ha (by haveI:=VR.ref (ρ:=ext ρ₁ σ₁.nx s₁.heap.objs.size) (n:=σ₁.nx+1) σ₁.nx (Nat.lt_succ_self _);rw [aS] at this;exact this) (Nat.le_succ _) (aK _ _ _)
   (St.alloc rfl F' hm H N' nd (fun p hp=>Heap.lt_size (N p hp).1) (.tup _ _ _ va)) ⟨rfl,.refl _,rfl⟩)
inductive LaEx (ρ:Nat→Addr) (nx:Nat) (h:Heap) (k:Nat) (xs:List AV):Prop
 | mk (vs:List Value) (hl:h.IsList (ρ k) vs.toArray) (hv:VRs ρ nx xs vs)
theorem LaEx.elim {ρ:Nat→Addr} {nx:Nat} {h:Heap} {k:Nat} {xs:List AV} {Q:Prop} (x:LaEx ρ nx h k xs) (y:∀ vs:List Value,h.IsList (ρ k) vs.toArray→VRs ρ nx xs vs→Q):Q:=by cases x with | mk a b c=>exact y a b c
inductive TaEx (ρ:Nat→Addr) (nx:Nat) (h:Heap) (k:Nat) (xs:List AV):Prop
 | mk (vs:List Value) (hl:IsTup h (ρ k) vs.toArray) (hv:VRs ρ nx xs vs)
theorem TaEx.elim {ρ:Nat→Addr} {nx:Nat} {h:Heap} {k:Nat} {xs:List AV} {Q:Prop} (x:TaEx ρ nx h k xs) (y:∀ vs:List Value,IsTup h (ρ k) vs.toArray→VRs ρ nx xs vs→Q):Q:=by cases x with | mk a b c=>exact y a b c
theorem St.isList {P:Params} {h₀:Heap} {L:Addr} {ρ:Nat→Addr} {X:List (Addr×Obj)} {s:Shared} (S:St P h₀ L ρ σ loc X s) {k:Nat} {xs:List AV} (e:σ.get k=some (.list xs)):LaEx ρ σ.nx s.heap k xs:=by
 obtain ⟨m,news,F,hm,H,N,nd⟩:100:=S.ex
 obtain ⟨o,ho,hk,hr⟩:100:=H.get e
 cases hr with
 | list vs n h=>exact ⟨vs,⟨_,(N _ (Th _ ho)).1,rfl,n,rfl⟩,h⟩
theorem St.isTup {P:Params} {h₀:Heap} {L:Addr} {ρ:Nat→Addr} {X:List (Addr×Obj)} {s:Shared} (S:St P h₀ L ρ σ loc X s) {k:Nat} {xs:List AV} (e:σ.get k=some (.tup xs)):TaEx ρ σ.nx s.heap k xs:=by
 obtain ⟨m,news,F,hm,H,N,nd⟩:100:=S.ex
 obtain ⟨o,ho,hk,hr⟩:100:=H.get e
 cases hr with
 | tup vs n h=>exact ⟨vs,⟨_,(N _ (Th _ ho)).1,rfl,n,rfl⟩,h⟩
def SbT (c:Cx) (sc:Scope) (U D:Nat) (value slice:Expr) (a b:AV) (loc:Loc) (σ:AH) (R:AV→AH→Prop):Prop :=
 ∀ A env L h₀,Fm c sc A env L h₀ U D→∀ ρ X s Q E v w,St c.w.params h₀ L ρ σ loc X s→VR ρ σ.nx a v→VR ρ σ.nx b w→BackV c h₀ L ρ σ loc X s Q R→wpAny (model c.prog c.w) A (subscriptTail value slice v w) Q E s
theorem oQ {value slice:Expr} {pos:Pos} {R:AV→AH→Prop} (h:EvE c sc U D value loc σ fun a σ₁=>EvE c sc U D slice loc σ₁ fun b σ₂=>SbT c sc U D value slice a b loc σ₂ R):EvE c sc U D (.Subscript value slice pos) loc σ R:=fun A env L h₀ fm ρ X s Q E S K =>
 Subscript_ (h A env L h₀ fm ρ X s _ E S fun ρ₁ σ₁ a v₁ s₁ ha va n₁ g₁ S₁ r₁=>by
  exact ha A env L h₀ fm ρ₁ X s₁ _ E S₁ fun ρ₂ σ₂ b v₂ s₂ hb vb n₂ g₂ S₂ r₂=>by
   exact hb A env L h₀ fm ρ₂ X s₂ Q E v₁ v₂ S₂ (va.mono n₂ g₂) vb ((K.after n₁ g₁ r₁).after n₂ g₂ r₂))
theorem aKp {value slice:Expr} {k:Nat} {xs:List AV} {i:Int} {a:AV} {R:AV→AH→Prop} (e:σ.get k=some (.list xs)) (h0:0≤i) (h1:i < 2 ^ 63) (hx:xs[i.toNat]? = some a) (h:R a σ)
  (hs:∀ l u,subscripted slice false (.ref l) (.int i u)=operate [.ref l,.int i u] (getItem (.ref l) (.int i u))):SbT c sc U D value slice (.ref k) (.int i) loc σ R:=fun A env L h₀ fm ρ X s Q E v w S hv hw K=>by
 cases hv;cases hw
 obtain ⟨vs,hl,hr⟩:100:=S.isList e
 obtain ⟨b,hb,rb⟩:1:=hr.at hx
 exact tail_any hl.typeIs slot_list_getitem.lookup (wpAny_getItem_list hl h0 h1 (by simpa using hb) (K.now h rb S)) (hs _ _)
end
theorem yL {P:Params} {ρ:Nat→Addr} {n:Nat} {x:Str} {kvs:List (Str×AV)} {es:List DictEntry} (h:All2 (ER P ρ n) kvs es) :
  (∀ a,kvs.lookup x=some a→∃ v,getL x es=some (some v)∧VR ρ n a v)∧(kvs.lookup x=none→getL x es=some none):=by
 induction h with
 | nil=>exact ⟨fun a e=>(by cases e),fun _=>rfl⟩
 | @cons p e l r hd tl ih =>
  cases hd with
  | mk y t a v hv =>
   by_cases q:x=y
   ·subst q
    refine ⟨fun b e=>⟨v,?_,?_⟩,fun e=>?_⟩
    ·unfold getL
     rw [List.find?_cons_of_pos (by simp [Value.isStr])]
    ·rw [cC] at e
     cases e
     exact hv
    ·rw [cC] at e
     cases e
   ·haveI k:getL x (⟨PyData.keyHash P y,.str y t,v⟩::r)=getL x r:=by
     unfold getL
     rw [List.find?_cons_of_neg (by simp [Value.isStr,Ne.symm q])]
     haveI:(DictEntry.mk (PyData.keyHash P y) (.str y t) v).refKey=false:=rfl
     rw [List.any_cons,this,Bool.false_or]
    rw [k,cB q]
    exact ih
section
variable {c:Cx} {sc:Scope} {U D:Nat} {loc:Loc} {σ:AH}
inductive InEx (P:Params) (ρ:Nat→Addr) (nx:Nat) (h:Heap) (k d:Nat) (C:Addr) (kvs:List (Str×AV)):Prop
 | mk (es:List DictEntry) (n:Nat) (I:InstAt h (ρ k) (instObj C (ρ d)) C (some (dictOf es n))) (hr:All2 (ER P ρ nx) kvs es)
theorem InEx.elim {P:Params} {ρ:Nat→Addr} {nx:Nat} {h:Heap} {k d:Nat} {C:Addr} {kvs:List (Str×AV)} {Q:Prop} (x:InEx P ρ nx h k d C kvs) (y:∀ (es:List DictEntry) (n:Nat),InstAt h (ρ k) (instObj C (ρ d)) C (some (dictOf es n))→All2 (ER P ρ nx) kvs es→Q):Q:=by cases x with | mk a b c d=>exact y a b c d
theorem St.inst {P:Params} {h₀:Heap} {L:Addr} {ρ:Nat→Addr} {X:List (Addr×Obj)} {s:Shared} (S:St P h₀ L ρ σ loc X s) {k d:Nat} {C:Addr} {kvs:List (Str×AV)} (e:σ.get k=some (.inst C d)) (e':σ.get d=some (.idict kvs)) :
  InEx P ρ σ.nx s.heap k d C kvs:=by
 obtain ⟨m,news,F,hm,H,N,nd⟩:100:=S.ex
 obtain ⟨o,ho,hk,hr⟩:100:=H.get e
 obtain ⟨o',ho',hk',hr'⟩:100:=H.get e'
 cases hr with
 | inst hd =>
  cases hr' with
  | idict es n h=>exact ⟨es,n,⟨(N _ (Th _ ho)).1,rfl,rfl,(N _ (Th _ ho')).1⟩,h⟩
def GtA (c:Cx) (sc:Scope) (U D:Nat) (a:AV) (name:Str) (loc:Loc) (σ:AH) (R:AV→AH→Prop):Prop :=
 ∀ A env L h₀,Fm c sc A env L h₀ U D→∀ ρ X s Q E v,St c.w.params h₀ L ρ σ loc X s→VR ρ σ.nx a v→BackV c h₀ L ρ σ loc X s Q R→wpAny (model c.prog c.w) A (getAttr v name true) Q E s
theorem vK {value:Expr} {name:Str} {pos:Pos} {R:AV→AH→Prop}
  (he:∀ env,eval (.Attribute value name pos) env=(do
   let o ← eval value env
   standAt pos.atName
   let r ← holding [o] (getAttr o name true)
   letTemporaryGo value o r
   pure r))
  (h:EvE c sc U D value loc σ fun a σ₁=>GtA c sc U D a name loc σ₁ R):EvE c sc U D (.Attribute value name pos) loc σ R:=fun A env L h₀ fm ρ X s Q E S K =>
 Attribute_any_ (h A env L h₀ fm ρ X s _ E S fun ρ₁ σ₁ a v₁ s₁ ha va n₁ g₁ S₁ r₁=>by
  exact ha A env L h₀ fm ρ₁ X s₁ Q E v₁ S₁ va (K.after n₁ g₁ r₁)) (he env)
noncomputable def lL:AV→Bool
 | .bi i=>(withoutEnding? i "#data").isNone
 | _=>true
theorem pC {ρ:Nat→Addr} {n:Nat} {a:AV} {v:Value} (h:VR ρ n a v) (e:lL a=true):handedIn v=true:=by
 cases a <;> cases h <;> first | rfl | exact e
theorem aFj {k d:Nat} {C:Addr} {kvs:List (Str×AV)} {name:Str} {a:AV} {attr:Option Value} {R:AV→AH→Prop} (e:σ.get k=some (.inst C d)) (e':σ.get d=some (.idict kvs)) (hi:InL name a kvs) (hl:kvs.lookup name=some a)
  (hg:plainGet c.K C name=true) (hh:hasDictIn c.K C=true) (hf:findIn c.K (.ref C) name=some attr) (hn:noGet c.K attr=true) (hd:lL a=true) (h:R a σ):GtA c sc U D (.ref k) name loc σ R:=fun A env L h₀ fm ρ X s Q E v S hv K=>by
 cases hv
 obtain ⟨es,n,I,hr⟩:100:=S.inst e e'
 obtain ⟨m,news,F,hm,H,N,nd⟩:100:=S.ex
 obtain ⟨v,g,rv⟩:1:=(yL hr).1 a hl
 exact get_own F fm.X I hg hh hf hn g (pC rv hd) (K.tok h rv S)
end
theorem aFk {P:Params} {ρ:Nat→Addr} {n:Nat} {x:Str} {a:AV} {t:Tok} {v:Value} (hv:VR ρ n a v) {kvs:List (Str×AV)} {es:List DictEntry} (h:All2 (ER P ρ n) kvs es) :
  All2 (ER P ρ n) (put x a kvs) (putL x (PyData.keyHash P x) (.str x t) v es):=by
 induction h with
 | nil=>exact .cons (.mk _ _ _ _ hv) .nil
 | @cons p e l r hd tl ih =>
  cases hd with
  | mk y u b w hw =>
   rw [dS]
   unfold putL
   by_cases q:x=y
   ·subst q
    rw [if_pos rfl,if_pos (by simp [Value.isStr])]
    exact .cons (.mk _ _ _ _ hv) tl
   ·rw [if_neg q,if_neg (by simp [Value.isStr,Ne.symm q])]
    exact .cons (.mk _ _ _ _ hw) ih
section
variable {c:Cx} {sc:Scope} {U D:Nat} {loc:Loc} {σ:AH}
def SaA (c:Cx) (sc:Scope) (U D:Nat) (o:AV) (name:Str) (a:AV) (loc:Loc) (σ:AH) (R:AH→Prop):Prop :=
 ∀ A env L h₀,Fm c sc A env L h₀ U D→∀ ρ X s Q E ov v,St c.w.params h₀ L ρ σ loc X s→VR ρ σ.nx o ov→VR ρ σ.nx a v→BackS c h₀ L ρ σ loc X s Q R→wpAny (model c.prog c.w) A (setAttr ov name v) Q E s
theorem aFl {k d:Nat} {C:Addr} {kvs:List (Str×AV)} {name:Str} {a:AV} {R:AH→Prop} (e:σ.get k=some (.inst C d)) (e':σ.get d=some (.idict kvs))
  (hs:findIn c.K (.ref C) "__setattr__" = some (some (.builtin "object.__setattr__"))) (hp:plainOver c.K C=true) (ht:takerIn c.K C name=some none) (hh:hasDictIn c.K C=true) (hz:(put name a kvs).length≤1000)
  (h:PutTo name a kvs fun l=>R (σ.set d (.idict l))):SaA c sc U D (.ref k) name a loc σ R:=fun A env L h₀ fm ρ X s Q E ov v S ho hv K=>by
 cases ho
 obtain ⟨es,n,I,hr⟩:100:=S.inst e e'
 obtain ⟨m,news,F,hm,H,N,nd⟩:100:=S.ex
 haveI X':=fm.X.keeps F.keep
 refine set_plain X' I hs ?_
 refine hid ?_;intro ZZ zz
 obtain ⟨o,news',c1,c2,c3,c4,c5⟩:100:=HR.set (a':=.idict (put name a kvs)) (Obj.putName name (PyData.keyHash c.w.params name) (.str name (s.toks+1)) v) H e' nd fun o ho=>by
  cases ho with
  | idict es n hr=>rw [putName_dict];exact .idict _ _ _ (aFk hv hr)
 obtain ⟨pre,post,q1,q2,a1,a2⟩:2:=c4.split
 refine zz ?_;clear zz
 haveI hod:s.heap.get? (ρ d)=some o:=(N _ (Th _ c2)).1
 haveI ho':o=dictOf es n:=Option.some.inj (hod.symm.trans (by simpa using I.dict))
 subst ho'
 haveI N1:News h₀ L s.heap (pre++(ρ d,dictOf es n)::post):=q1▸N
 refine osa_dict (s:={ s with toks:=s.toks+1 }) F N1 X' I rfl hp ht hh ?_ a1 a2 (putName_dict ..) rfl ?_ fun h' F' N'=>?_
 ·haveI:=(yL (x:=name) hr)
  rw [lookIn_dict]
  cases q:kvs.lookup name with
  | none=>rw [this.2 q];rfl
  | some b=>obtain ⟨u,hu,_⟩:1:=this.1 b q;rw [hu];rfl
 ·rw [← (aFk (t:=s.toks+1) hv hr).length];exact hz
 ·refine K ρ _ () _ h (Te _) (Agree.refl _ _) ⟨m,news',F',hm,c3,?_,c5⟩ ⟨rfl,.refl _,rfl⟩
  rw [q2,putName_dict]
  exact N'
end
def ClV (c:Cx) (sc:Scope) (U D:Nat) (f:AV) (args:List AV) (loc:Loc) (σ:AH) (R:AV→AH→Prop):Prop :=
 ∀ A env L h₀,Fm c sc A env L h₀ U D→∀ ρ X s Q E fv vs,St c.w.params h₀ L ρ σ loc X s→VR ρ σ.nx f fv→VRs ρ σ.nx args vs→BackV c h₀ L ρ σ loc X s Q R→wpAny (model c.prog c.w) A (call fv vs) Q E s
noncomputable def fM:AF→AV
 | .ret a=>a
 | _=>.none
theorem iH {ρ:Nat→Addr} {n:Nat} {af:AF} {fl:Flow} (h:FR ρ n af fl):VR ρ n (fM af) (match (generalizing:=false) fl with | .ret v=>v | _=>.none):=by
 cases h <;> first | exact .none | assumption
def lM (c:Cx) (fd:FuncData) (sc:Scope) (args:List AV) (kw:List (Str×AV)) (loc₀:Loc):Prop :=
 ∀ (ρ:Nat→Addr) (n:Nat) (vs:List Value) (kvs:List Value) (s:Shared),c.K.In s.heap→VRs ρ n args vs→VRs ρ n (kw.map (·.2)) kvs →
  ∃ binds,BindsTo s fd ⟨vs,(kw.map (·.1)).zip kvs⟩ binds∧(∀ y∈binds,sc.names.lookup y.1=some .local)∧LR ρ n loc₀ (fun y=>binds.reverse.lookup y)
section
variable {c:Cx} {sc:Scope} {U D:Nat} {loc:Loc} {σ:AH}
structure aZj (h₀:Heap) (L:Addr) (m:Str→Option Value) (h:Heap) (news:List (Addr×Obj)) (R:Result→Shared→Prop):Prop where
 fr:Fr h₀ L (hideAll h (news.map (·.1))) m
 st:h₀.StaysIn (hideAll h (news.map (·.1)))
 lv:∀ v s',LeaveK h₀ L m (hideAll h (news.map (·.1))) R v s'→R (.ok (.ret v)) s'
theorem eU {s:Shared} {h₀:Heap} {L:Addr} {m:Str→Option Value} {news:List (Addr×Obj)} {R:Result→Shared→Prop} (F:Fr h₀ L s.heap m) (N:News h₀ L s.heap news) :
  aZj h₀ L m s.heap news R:=by
 have nm:∀ b o,h₀.get? b=some o→b∉news.map (·.1):=fun b o e q=>by
  obtain ⟨p,hp,rfl⟩:1:=List.mem_map.mp q
  rw [(N p hp).2.2] at e;cases e
 haveI st:h₀.StaysIn (hideAll s.heap (news.map (·.1))):=fun b o e=>hideAll_get _ (F.keep b o e) (nm b o e)
 refine hid ?_;intro ZZ zz
 obtain ⟨oL,es,ep,hL,hLd,hLk,hLf⟩:=F.ns
 refine zz ?_;clear zz
 haveI nL:L∉news.map (·.1):=fun q=>by
  obtain ⟨p,hp,e⟩:1:=List.mem_map.mp q
  exact (N p hp).2.1 e
 haveI hLg:=hideAll_get (news.map (·.1)) hL nL
 refine ⟨⟨⟨oL,es,ep,hLg,hLd,hLk,hLf⟩,st,F.above⟩,st,fun v s' hl=>?_⟩
 refine hid ?_;intro ZZ zz
 obtain ⟨L',m',news',F',N',k⟩:=hl
 refine zz ?_;clear zz
 refine k ⟨⟨oL,es,ep,F'.keep L oL hLg,hLd,hLk,hLf⟩,fun b o e=>F'.keep b o (st b o e),F.above⟩ fun p hp=>⟨(N' p hp).1,fun q=>?_,?_⟩
 ·haveI:=(N' p hp).2.2;rw [q,hLg] at this;cases this
 ·cases q:h₀.get? p.1 with
  | none=>rfl
  | some o=>haveI:=(N' p hp).2.2;rw [st _ _ q] at this;cases this
theorem vL {scope:Scope} {f:Addr} {name qual:Str} {params:Arguments} {body:List Stmt} {dV kV doc pm cdv ct oc:Value} {od an:Option Addr} {osl:Array (Option Value)} {args:List AV} {kw:List (Str×AV)} {loc₀:Loc} {R:AV→AH→Prop}
  (ho:c.K.lookup f=some ⟨oc,od,.func (fnOf name qual params body scope dV kV doc pm an cdv ct),osl⟩) (hcd:codeIn c.K cdv qual=true)
  (hb:lM c (fnOf name qual params body scope dV kV doc pm an cdv ct) scope args kw loc₀)
  (h:ExS c scope U D body loc₀ σ fun fl _ σ'=>R (fM fl) σ') (hco:scope.isCoroutine=false) (hgen:scope.isGenerator=false) (hk:scope.kind=.function) (hcell:∀ x∈scope.names,x.2≠.cell) (hfl:c.fl=none∧c.cf=none)
  {A:Around} {env:Env} {L:Addr} {h₀:Heap} (fm:Fm c sc A env L h₀ (U+3) (D+1)) {ρ:Nat→Addr} {X:List (Addr×Obj)} {s:Shared} {Rr:Result→Shared→Prop} {vs kvs:List Value} (S:St c.w.params h₀ L ρ σ loc X s)
  (va:VRs ρ σ.nx args vs) (vk:VRs ρ σ.nx (kw.map (·.2)) kvs)
  (K:BackV c h₀ L ρ σ loc X s (fun v s'=>Rr (.ok (.ret v)) s') R):codeAny (model c.prog c.w) A (.call (.ref f) ⟨vs,(kw.map (·.1)).zip kvs⟩) Rr s:=by
 refine hid ?_;intro ZZ zz
 obtain ⟨cn,b,ccd,cl,fr0,he,_⟩:100:=fm.ex
 obtain ⟨m,news,F,hm,H,N,nd⟩:100:=S.ex
 haveI XK:=fm.X.keeps F.keep
 obtain ⟨binds,h1,h2,h3⟩:1:=hb ρ σ.nx vs kvs s XK va vk
 haveI hu:=fm.hu
 haveI hd:=fm.hd
 obtain ⟨FG,st,lv⟩:=eU (R:=Rr) F N
 refine zz ?_;clear zz
 have BG:∀ l ce,c.fl=some (some l,ce)→∃ outer,(A.deeper (envX qual scope s.heap.objs.size f cdv [])).frames=some (envX qual scope s.heap.objs.size f cdv []::outer)∧FrO l outer:=fun l ce q=>by rw [hfl.1] at q;cases q
 refine codeAny_call_def (fd:=fnX name qual params body scope [] dV kV doc pm an cdv ct) (body:=body) (binds:=binds) (by exact (vF hd)) (XK _ _ ho) rfl (fm.T.nolimit.keeps F.keep) (codeRec_of XK hcd) rfl h1 hcell h2 (fun h₁ hns hk₁=>?_) hco hgen hk
 haveI F':Fr (hideAll s.heap ((news++X).map (·.1))) s.heap.objs.size h₁ (fun y=>binds.reverse.lookup y):=⟨hns,fun b o e=>hk₁ b o (of_hideAll _ e),Nat.le_of_eq (hideAll_size _ _)⟩
 haveI N':News (hideAll s.heap ((news++X).map (·.1))) s.heap.objs.size h₁ (news++X):=fun p hp=>⟨hk₁ _ _ (N p hp).1,Nat.ne_of_lt (Heap.lt_size (N p hp).1),hideAll_none _ (List.mem_map_of_mem hp)⟩
 haveI fm':Fm c scope (A.deeper (envX qual scope s.heap.objs.size f cdv [])) (envX qual scope s.heap.objs.size f cdv []) s.heap.objs.size (hideAll s.heap ((news++X).map (·.1))) U D:=by
  refine ⟨⟨_,_,_,_,_,rfl,fun l ce q=>by rw [hfl.1] at q;cases q⟩,BG,fm.X.keeps st,fm.T.keeps st,hk,?_,?_,fm.hh,fm.sm.imp fun o e=>st _ _ e,fun l q=>by rw [hfl.2] at q;cases q⟩
  ·show A.units+3+U < cLine;exact (lF hu)
  ·show A.depth+1+D < recursionLimit;exact (lF hd)
 refine h _ _ _ _ fm' ρ X _ _ _ ⟨_,news,F',h3,H,N',nd⟩ fun ρ₁ σ₁ loc₁ af fl s₁ hf fr n₁ g₁ S₁ r₁=>?_
 obtain ⟨m₁,news₁,F₁,hm₁,H₁,N₁,nd₁⟩:100:=S₁.ex
 refine lv _ _ (leaveK_ F₁ N₁ fun F₂ N₂=>?_)
 exact K ρ₁ σ₁ _ _ s₁ hf (iH fr) n₁ g₁ ⟨m,news₁,F₂,hm.mono n₁ g₁,H₁,N₂,nd₁⟩ ⟨r₁.os,r₁.gens,r₁.dr⟩
theorem aKq {scope:Scope} {f:Addr} {name qual:Str} {params:Arguments} {body:List Stmt} {dV kV doc pm cdv ct oc:Value} {od an:Option Addr} {osl:Array (Option Value)} {args:List AV} {loc₀:Loc} {R:AV→AH→Prop}
  (ho:c.K.lookup f=some ⟨oc,od,.func (fnOf name qual params body scope dV kV doc pm an cdv ct),osl⟩) (hcd:codeIn c.K cdv qual=true)
  (hb:lM c (fnOf name qual params body scope dV kV doc pm an cdv ct) scope args [] loc₀)
  (h:ExS c scope U D body loc₀ σ fun fl _ σ'=>R (fM fl) σ') (hco:scope.isCoroutine=false) (hgen:scope.isGenerator=false) (hk:scope.kind=.function) (hcell:∀ x∈scope.names,x.2≠.cell) (hfl:c.fl=none∧c.cf=none) :
  ClV c sc (U+3) (D+1) (.glob f) args loc σ R:=fun A env L h₀ fm ρ X s Q E fv vs S hf hv K=>by
 cases hf
 exact wpAny_call (vL ho hcd hb h hco hgen hk hcell hfl fm (kvs:=[]) (Rr:=fun r s'=>match r with | .ok (.ret v)=>Q v s' | .ok _=>False | .error e=>E e s') S hv .nil K)
end
section
variable {c:Cx} {sc:Scope} {U D:Nat} {loc:Loc} {σ:AH}
variable {P:Params} {h₀:Heap} {L it:Addr} {ρ:Nat→Addr} {X:List (Addr×Obj)} {s:Shared} {o o':Obj} {h':Heap}
theorem Fr.other {m:Str→Option Value} (F:Fr h₀ L s.heap m) (hk:∀ b ob,b≠it→s.heap.get? b=some ob→h'.get? b=some ob) (h1:it≠L) (h2:h₀.get? it=none):Fr h₀ L h' m:=by
 refine hid ?_;intro ZZ zz
 obtain ⟨oL,es,ep,hL,r⟩:=F.ns
 refine zz ?_;clear zz
 refine ⟨⟨oL,es,ep,hk L oL (Ne.symm h1) hL,r⟩,fun b ob e=>hk b ob (fun q=>?_) (F.keep b ob e),F.above⟩
 rw [q,h2] at e;cases e
end
theorem St.isListAt {P:Params} {h₀:Heap} {L:Addr} {ρ:Nat→Addr} {σ:AH} {loc:Loc} {X:List (Addr×Obj)} {s:Shared} (S:St P h₀ L ρ σ loc X s) {k:Nat} {xs:List AV} (e:σ.get k=some (.list xs)) :
  LaEx ρ σ.nx s.heap k xs:=by
 obtain ⟨m,news,F,hm,H,N,nd⟩:100:=S.ex
 obtain ⟨o,h1,h2,h3⟩:100:=H.get e
 cases h3 with
 | list vs n hv=>exact ⟨vs,⟨_,(N _ (Th _ h1)).1,rfl,n,rfl⟩,hv⟩
theorem St.pushX {P:Params} {h₀:Heap} {L:Addr} {ρ:Nat→Addr} {σ:AH} {loc:Loc} {X:List (Addr×Obj)} {s:Shared} (S:St P h₀ L ρ σ loc X s) (o:Obj) (hf:o.isFreed=false:=by rfl) :
  St P h₀ L ρ σ loc ((s.heap.objs.size,o)::X) { s with heap:=s.heap.push o }:=by
 obtain ⟨m,news,F,hm,H,N,nd⟩:100:=S.ex
 haveI N':=N.push F o hf
 haveI ap:=N.apart
 refine ⟨m,news,F.push o,hm,H,fun p hp=>N' p ?_,?_⟩
 ·rcases List.mem_append.mp hp with q | q
  ·exact .tail _ (Th _ q)
  ·rcases Tf q with rfl | q
   ·exact .head _
   ·exact .tail _ (Ti _ q)
 ·haveI nd':=nd
  rw [List.map_append,List.nodup_append] at nd'
  rw [List.map_append,List.map_cons,List.nodup_append]
  refine ⟨nd'.1,List.nodup_cons.mpr ⟨fun q=>?_,nd'.2.1⟩,fun a ha b hb=>?_⟩
  ·refine hid ?_;intro ZZ zz
   obtain ⟨p,hp,e⟩:1:=List.mem_map.mp q
   refine zz ?_;clear zz
   exact ap p (Ti _ hp) e
  ·rcases Tf hb with rfl | hb
   ·refine hid ?_;intro ZZ zz
    obtain ⟨p,hp,e⟩:1:=List.mem_map.mp ha
    refine zz ?_;clear zz
    exact fun q=>ap p (Th _ hp) (e.trans q)
   ·exact nd'.2.2 a ha b hb
section
variable {c:Cx} {sc:Scope} {U D:Nat} {loc:Loc} {σ:AH}
noncomputable def goesTo (R:AF→Loc→AH→Prop) (I:Loc→AH→Prop):AF→Loc→AH→Prop
 | .next,l,s=>I l s
 | .cont,l,s=>I l s
 | .brk,l,s=>R .next l s
 | .ret a,l,s=>R (.ret a) l s
end
section
variable {c:Cx} {sc:Scope} {U D:Nat} {loc:Loc} {σ:AH}
theorem aCh {pos:Pos} {R:AF→Loc→AH→Prop} (h:R .brk loc σ):Ex1 c sc U D (.Break pos) loc σ R:=fun A env L h₀ fm ρ X s Q E S K =>
 wpAny_Break (K.now h .brk S)
theorem tN {pos:Pos} {R:AF→Loc→AH→Prop} (h:R .cont loc σ):Ex1 c sc U D (.Continue pos) loc σ R:=fun A env L h₀ fm ρ X s Q E S K =>
 wpAny_Continue (K.now h .cont S)
theorem aKr {e:Expr} {pos:Pos} {R:Bool→AH→Prop} (h:EvT c sc U D e loc σ fun b σ₁=>R (!b) σ₁):EvT c sc U D (.UnaryOp .Not e pos) loc σ R:=fun A env L h₀ fm ρ X s Q E S K =>
 wpAny_isTrue_Not (h A env L h₀ fm ρ X s _ E S fun ρ₁ σ₁ b s₁ hb n₁ g₁ S₁ r₁=>by
  exact K ρ₁ σ₁ _ s₁ hb n₁ g₁ S₁ r₁)
theorem aCi {test body orelse:Expr} {pos:Pos} {R:AV→AH→Prop}
  (h:EvT c sc U D test loc σ fun b σ₁=>(b=true→EvE c sc U D body loc σ₁ R)∧(b=false→EvE c sc U D orelse loc σ₁ R)):EvE c sc U D (.IfExp test body orelse pos) loc σ R:=fun A env L h₀ fm ρ X s Q E S K =>
 wpAny_IfExp (h A env L h₀ fm ρ X s _ E S fun ρ₁ σ₁ b s₁ hb n₁ g₁ S₁ r₁=>by
  cases b with
  | true=>exact hb.1 rfl A env L h₀ fm ρ₁ X s₁ Q E S₁ (K.after n₁ g₁ r₁)
  | false=>exact hb.2 rfl A env L h₀ fm ρ₁ X s₁ Q E S₁ (K.after n₁ g₁ r₁))
end
section
variable {c:Cx} {sc:Scope} {U D:Nat} {loc:Loc} {σ:AH}
theorem vM {pos:Pos} {R:Bool→AH→Prop} (h:R true σ):EvT c sc U D (.BoolOp .And [] pos) loc σ R:=fun A env L h₀ fm ρ X s Q E S K =>
 isTrue_and_nil (K.now h S)
theorem yM {pos:Pos} {R:Bool→AH→Prop} (h:R false σ):EvT c sc U D (.BoolOp .Or [] pos) loc σ R:=fun A env L h₀ fm ρ X s Q E S K =>
 isTrue_or_nil (K.now h S)
theorem lN {M:Model} {A:Around} {env:Env} {op:BoolOp} {l:List Expr} {pos:Pos} {whole whole':Sem Value} {Q:Bool→Shared→Prop} {E:Value→Shared→Prop} {s:Shared}
  (h:wpAny M A (isTrue (.BoolOp op l pos) env whole) Q E s):wpAny M A (isTrue (.BoolOp op l pos) env whole') Q E s:=h
theorem aKs {x:Expr} {rest:List Expr} {pos:Pos} {R:Bool→AH→Prop}
  (h:EvT c sc U D x loc σ fun b σ₁=>(b=true→EvT c sc U D (.BoolOp .And rest pos) loc σ₁ R)∧(b=false→R false σ₁)):EvT c sc U D (.BoolOp .And (x::rest) pos) loc σ R:=fun A env L h₀ fm ρ X s Q E S K =>
 isTrue_and (h A env L h₀ fm ρ X s _ E S fun ρ₁ σ₁ b s₁ hb n₁ g₁ S₁ r₁=>by
  cases b with
  | true=>exact lN (hb.1 rfl A env L h₀ fm ρ₁ X s₁ Q E S₁ (K.after n₁ g₁ r₁))
  | false=>exact K ρ₁ σ₁ _ s₁ (hb.2 rfl) n₁ g₁ S₁ r₁)
theorem aOz {x:Expr} {rest:List Expr} {pos:Pos} {R:Bool→AH→Prop}
  (h:EvT c sc U D x loc σ fun b σ₁=>(b=true→R true σ₁)∧(b=false→EvT c sc U D (.BoolOp .Or rest pos) loc σ₁ R)):EvT c sc U D (.BoolOp .Or (x::rest) pos) loc σ R:=fun A env L h₀ fm ρ X s Q E S K =>
 isTrue_or (h A env L h₀ fm ρ X s _ E S fun ρ₁ σ₁ b s₁ hb n₁ g₁ S₁ r₁=>by
  cases b with
  | true=>exact K ρ₁ σ₁ _ s₁ (hb.1 rfl) n₁ g₁ S₁ r₁
  | false=>exact lN (hb.2 rfl A env L h₀ fm ρ₁ X s₁ Q E S₁ (K.after n₁ g₁ r₁)))
theorem sO {e:Expr} {R:Bool→AH→Prop} (he:∀ env whole,isTrue e env whole=(do let v ← whole;standAt e.pos;holding [v] (truthy v)))
  (h:EvE c sc U D e loc σ fun a σ₁=>TrV c sc U D a loc σ₁ R):EvT c sc U D e loc σ R:=fun A env L h₀ fm ρ X s Q E S K =>
 isTrue_plain (h A env L h₀ fm ρ X s _ E S fun ρ₁ σ₁ a v s₁ ha va n₁ g₁ S₁ r₁=>by
  exact ha A env L h₀ fm ρ₁ X s₁ Q E v S₁ va (K.after n₁ g₁ r₁)) (he env _)
theorem aFm {R:Bool→AH→Prop} (h:R false σ):TrV c sc U D .none loc σ R:=fun A env L h₀ fm ρ X s Q E v S hv K=>by
 cases hv
 exact truthy_none (K.now h S)
end
section
variable {c:Cx} {sc:Scope} {U D:Nat} {loc:Loc} {σ:AH}
theorem aKt {i:Int} {R:Bool→AH→Prop} (h:R (i != 0) σ):TrV c sc U D (.int i) loc σ R:=fun A env L h₀ fm ρ X s Q E v S hv K=>by
 cases hv
 exact truthy_int (K.now h S)
theorem aKu {x:Str} {R:Bool→AH→Prop} (hf:x.length < 2 ^ 20) (h:R ((x.length:Int) != 0) σ):TrV c sc U D (.str x) loc σ R:=fun A env L h₀ fm ρ X s Q E v S hv K=>by
 cases hv
 exact PySem.P.truthy_str (by lia) (K ρ σ _ _ h (Te _) (Agree.refl _ _) (S.toks _) ⟨rfl,.refl _,rfl⟩)
theorem aFn {k:Nat} {xs:List AV} {R:Bool→AH→Prop} (e:σ.get k=some (.list xs)) (hf:xs.length < 2 ^ 20) (h:R (!xs.isEmpty) σ):TrV c sc U D (.ref k) loc σ R:=fun A env L h₀ fm ρ X s Q E v S hv K=>by
 cases hv
 obtain ⟨vs,hl,hv⟩:100:=S.isListAt e
 haveI q:(!vs.toArray.isEmpty)=!xs.isEmpty:=by cases hv <;> simp
 haveI hn:=hv.length
 refine wpAny_truthy_list hl (by simp;lia) ?_
 rw [q]
 exact K ρ σ _ _ h (Te _) (Agree.refl _ _) (S.toks _) ⟨rfl,.refl _,rfl⟩
theorem aFo {e:Expr} {pos:Pos} {R:AF→Loc→AH→Prop} (hi:∀ cn L a ccd cl fr,interactive (cP cn sc L a ccd cl fr)=false) (hs:∀ env,swapsWith e none pos.line env=pure false)
  (h:EvE c sc U D e loc σ fun _ σ₁=>R .next loc σ₁):Ex1 c sc U D (.Expr e pos) loc σ R:=fun A env L h₀ fm ρ X s Q E S K=>by
 obtain ⟨cn,b,ccd,cl,fr0,he,_⟩:100:=fm.ex
 refine wpAny_Expr_any (h A env L h₀ fm ρ X s _ E S fun ρ₁ σ₁ a v s₁ ha va n₁ g₁ S₁ r₁=>by
  exact K ρ₁ σ₁ _ _ _ s₁ ha .next n₁ g₁ S₁ r₁) (by rw [he];exact hi ..) (hs env)
end
section
variable {c:Cx} {sc:Scope} {U D:Nat} {loc:Loc} {σ:AH}
def CwA (c:Cx) (sc:Scope) (U D:Nat) (pos:Pos) (f:AV) (first:List AV) (args:List Expr) (loc:Loc) (σ:AH) (R:AV→AH→Prop):Prop :=
 ∀ A env L h₀,Fm c sc A env L h₀ U D→∀ ρ X s Q E fv vs,St c.w.params h₀ L ρ σ loc X s→VR ρ σ.nx f fv→VRs ρ σ.nx first vs→BackV c h₀ L ρ σ loc X s Q R→wpAny (model c.prog c.w) A (callWith pos fv vs (backTo pos (starEach args env)) []) Q E s
theorem St.kin {h₀:Heap} {L:Addr} {ρ:Nat→Addr} {X:List (Addr×Obj)} {s:Shared} {P:Params} {K:Frag} (S:St P h₀ L ρ σ loc X s) (x:K.In h₀):K.In s.heap:=by
 obtain ⟨m,news,F,_,_,_,_⟩:100:=S.ex
 exact x.keeps F.keep
theorem fO {func:Expr} {args:List Expr} {pos:Pos} {R:AV→AH→Prop}
  (he:∀ env,eval (.Call func args [] pos) env=(do callWith pos (← eval func env) [] (backTo pos (starEach args env)) (backToKw pos (keywordEach [] env))))
  (h:EvE c sc U D func loc σ fun f σ₁=>CwA c sc U D pos f [] args loc σ₁ R):EvE c sc U D (.Call func args [] pos) loc σ R:=fun A env L h₀ fm ρ X s Q E S K =>
 Call_ (h A env L h₀ fm ρ X s _ E S fun ρ₁ σ₁ a v s₁ ha va n₁ g₁ S₁ r₁=>by
  exact ha A env L h₀ fm ρ₁ X s₁ Q E v [] S₁ va .nil (K.after n₁ g₁ r₁)) (he env)
theorem tP {k:Nat} {xs:List AV} {R:AV→AH→Prop} (e:σ.get k=some (.list xs)) (hf:xs.length < 2 ^ 20) (h:R (.int xs.length) σ):ClV c sc U D (.bi "len") [.ref k] loc σ R:=fun A env L h₀ fm ρ X s Q E fv vs S hfv hv K=>by
 cases hfv
 cases hv with
 | cons hv t =>
 cases t
 cases hv
 obtain ⟨vs,hl,hr⟩:100:=S.isListAt e
 haveI hn:=hr.length
 refine PySem.Calls.call_len_list hl (by simp;lia) ?_
 refine K.tok h ?_ S
 rw [show (vs.toArray.size:Int)=xs.length by simp [hn]]
 exact .int _ _
end
noncomputable def aFp (x:Value) (o:Obj):Obj:=match o.data with | .seq its n=>listOf (its.push x) (n+1) | _=>o
section
variable {c:Cx} {sc:Scope} {U D:Nat} {loc:Loc} {σ:AH}
theorem kP {k:Nat} {xs:List AV} {a:AV} {R:AV→AH→Prop} (e:σ.get k=some (.list xs)) (hf:xs.length < 2 ^ 20) (h:R .none (σ.set k (.list (xs++[a])))):ClV c sc U D (.bi "list.append") [.ref k,a] loc σ R:=fun A env L h₀ fm ρ X s Q E fv vs S hfv hv K=>by
 cases hfv
 cases hv with
 | cons hv t =>
 cases t with
 | cons hx t =>
 cases t
 cases hv
 obtain ⟨m,news,F,hm,H,N,nd⟩:100:=S.ex
 rename_i x _
 refine hid ?_;intro ZZ zz
 obtain ⟨o,news',c1,c2,c3,c4,c5⟩:100:=HR.set (a':=.list (xs++[a])) (aFp x) H e nd fun o ho=>by
  cases ho with
  | list vs n hr =>
   haveI:aFp x (listOf vs.toArray n)=listOf (vs++[x]).toArray (n+1):=by simp [aFp,W.listOf]
   rw [this]
   exact .list _ _ _ (All2.append hr (.cons hx .nil))
 refine zz ?_;clear zz
 cases c1 with
 | list vs n hr =>
 haveI hn:=hr.length
 refine append_K F N c4 (fun h' F' N'=>?_) (by simp [sizeLine];lia)
 exact K ρ _ _ _ _ h .none (Te _) (Agree.refl _ _) ⟨m,news',F',hm,c3,N',c5⟩ ⟨rfl,.refl _,rfl⟩
end
section
variable {c:Cx} {sc:Scope} {U D:Nat} {loc:Loc} {σ:AH}
def GmV (c:Cx) (sc:Scope) (U D:Nat) (o:AV) (name:Str) (loc:Loc) (σ:AH) (R:AV→List AV→AH→Prop):Prop :=
 ∀ A env L h₀,Fm c sc A env L h₀ U D→∀ ρ X s (Q:Value×List Value→Shared→Prop) E ov pl,St c.w.params h₀ L ρ σ loc X s→VR ρ σ.nx o ov →
  aZi c h₀ L ρ σ X s Q (fun ρ' σ' loc' v=>loc'=loc∧∃ f first,R f first σ'∧VR ρ' σ'.nx f v.1∧VRs ρ' σ'.nx first v.2)→wpAny (model c.prog c.w) A (getMethod ov name pl) Q E s
theorem yN {o:Expr} {name:Str} {apos:Pos} {args:List Expr} {pos:Pos} {pl:Env→Sem Bool} {R:AV→AH→Prop}
  (he:∀ env,eval (.Call (.Attribute o name apos) args [] pos) env=(do
   let ov ← eval o env
   standAt apos.atName
   let (f,first) ← holding [ov] (getMethod ov name (pl env))
   callWith pos f first (backTo pos (starEach args env)) []))
  (h:EvE c sc U D o loc σ fun a σ₁=>GmV c sc U D a name loc σ₁ fun f first σ₂=>CwA c sc U D pos f first args loc σ₂ R):EvE c sc U D (.Call (.Attribute o name apos) args [] pos) loc σ R:=fun A env L h₀ fm ρ X s Q E S K =>
 MethodCall_ (h A env L h₀ fm ρ X s _ E S fun ρ₁ σ₁ a v s₁ ha va n₁ g₁ S₁ r₁=>by
  exact ha A env L h₀ fm ρ₁ X s₁ _ E v _ S₁ va fun ρ₂ σ₂ _ fx s₂ ⟨e₂,f,first,hc,hf,hv⟩ n₂ g₂ S₂ r₂=>by
   subst e₂
   exact hc A env L h₀ fm ρ₂ X s₂ Q E fx.1 fx.2 S₂ hf hv ((K.after n₁ g₁ r₁).after n₂ g₂ r₂)) (he env)
theorem St.noDict {P:Params} {h₀:Heap} {L:Addr} {ρ:Nat→Addr} {X:List (Addr×Obj)} {s:Shared} (S:St P h₀ L ρ σ loc X s) {k:Nat} {xs:List AV} (e:σ.get k=some (.list xs)):∃ o,s.heap.get? (ρ k)=some o∧o.dict=none:=by
 obtain ⟨m,news,F,hm,H,N,nd⟩:100:=S.ex
 obtain ⟨o,h1,h2,h3⟩:100:=H.get e
 cases h3 with
 | list vs n hv=>exact ⟨_,(N _ (Th _ h1)).1,rfl⟩
theorem tQ {k:Nat} {xs:List AV} {name:Str} {id:String} {R:AV→List AV→AH→Prop} (e:σ.get k=some (.list xs)) (slot:Slot "list" name id) (hty:typeOf (.builtin id)=pure (.type "method_descriptor"))
  (h:R (.bi id) [.ref k] σ):GmV c sc U D (.ref k) name loc σ R:=fun A env L h₀ fm ρ X s Q E ov pl S hv K=>by
 cases hv with
 | ref hk =>
 obtain ⟨vs,hl,hr⟩:100:=S.isListAt e
 refine getMethod_builtin hl.typeIs PySem.F.plainAttrs_list slot hty (fun a q=>by cases q;exact S.noDict e) ?_
 exact K ρ σ loc _ _ ⟨rfl,_,_,h,.bi _,.cons (.ref k hk) .nil⟩ (Te _) (Agree.refl _ _) S (Rest.refl _)
end
section
variable {c:Cx} {sc:Scope} {U D:Nat} {loc:Loc} {σ:AH}
def OpI (c:Cx) (sc:Scope) (U D:Nat) (op:Operator) (a b:AV) (loc:Loc) (σ:AH) (R:AV→AH→Prop):Prop :=
 ∀ A env L h₀,Fm c sc A env L h₀ U D→∀ ρ X s Q E v w,St c.w.params h₀ L ρ σ loc X s→VR ρ σ.nx a v→VR ρ σ.nx b w→BackV c h₀ L ρ σ loc X s Q R→wpAny (model c.prog c.w) A (inplaceOp op v w) Q E s
theorem aAs {x:Str} {xp pos:Pos} {op:Operator} {value:Expr} {a:AV} {R:AF→Loc→AH→Prop} (hk:sc.names.lookup x=some .local) (hi:InL x a loc) (hl:loc.lookup x=some a)
  (h:EvE c sc U D value loc σ fun b σ₁=>OpI c sc U D op a b loc σ₁ fun d σ₂=>PutTo x d loc fun l=>R .next l σ₂):Ex1 c sc U D (.AugAssign (.Name x xp) op value pos) loc σ R:=fun A env L h₀ fm ρ X s Q E S K=>by
 refine wpAny_AugAssign_Name ?_
 obtain ⟨cn,b,ccd,cl,fr0,he,_⟩:100:=fm.ex
 obtain ⟨m,news,F,hm,H,N,nd⟩:100:=S.ex
 obtain ⟨v,hv,hr⟩:1:=hm x a hl
 haveI hx:env.kindOf x=some .local:=by rw [he];exact hk
 refine wpAny_loadName_local (by rw [he];exact fm.hk) hx (by rw [he];exact F.ns) hv ?_
 refine h A env L h₀ fm ρ X s _ E S fun ρ₁ σ₁ b w s₁ hb vb n₁ g₁ S₁ r₁=>?_
 refine hb A env L h₀ fm ρ₁ X s₁ _ E v w S₁ (hr.mono n₁ g₁) vb fun ρ₂ σ₂ d u s₂ hd vd n₂ g₂ S₂ r₂=>?_
 exact nmS (R:=fun loc' σ'=>R .next loc' σ') hk hd A env L h₀ fm ρ₂ X s₂ _ E u S₂ vd fun ρ₃ σ₃ loc₃ s₃ h₃ n₃ g₃ S₃ r₃ =>
  ((K.after n₁ g₁ r₁).after n₂ g₂ r₂) ρ₃ σ₃ loc₃ _ .next s₃ h₃ .next n₃ g₃ S₃ r₃
theorem aKv {i j:Int} {R:AV→AH→Prop} (h:R (.int (i+j)) σ):OpI c sc U D .Add (.int i) (.int j) loc σ R:=fun A env L h₀ fm ρ X s Q E v w S hv hw K=>by
 cases hv;cases hw
 exact PyProof.Rows.iadd_int (K.tok h (.int _ _) S)
end
section
variable {c:Cx} {sc:Scope} {U D:Nat} {loc:Loc} {σ:AH}
theorem vN {t₁ t₂ value:Expr} {pos:Pos} {R:AF→Loc→AH→Prop}
  (he:∀ env,(assignEach [t₁,t₂] env).map (·.2)=[assign t₁ env,assign t₂ env]) (hw:∀ env,swappedStores [t₁,t₂] value env=pure none)
  (h:EvE c sc U D value loc σ fun a σ₁=>As1 c sc U D t₁ a loc σ₁ fun loc₂ σ₂=>As1 c sc U D t₂ a loc₂ σ₂ fun loc₃ σ₃=>R .next loc₃ σ₃):Ex1 c sc U D (.Assign [t₁,t₂] value pos) loc σ R:=fun A env L h₀ fm ρ X s Q E S K=>by
 refine wpAny_Assign_two ?_ (he env) (hw env)
 refine h A env L h₀ fm ρ X s _ E S fun ρ₁ σ₁ a v s₁ ha va n₁ g₁ S₁ r₁=>?_
 refine ha A env L h₀ fm ρ₁ X s₁ _ E v S₁ va fun ρ₂ σ₂ loc₂ s₂ h₂ n₂ g₂ S₂ r₂=>?_
 refine h₂ A env L h₀ fm ρ₂ X s₂ _ E v S₂ (va.mono n₂ g₂) fun ρ₃ σ₃ loc₃ s₃ h₃ n₃ g₃ S₃ r₃=>?_
 exact ((K.after n₁ g₁ r₁).after n₂ g₂ r₂) ρ₃ σ₃ loc₃ _ .next s₃ h₃ .next n₃ g₃ S₃ r₃
theorem vO {t₁ t₂ t₃ value:Expr} {pos:Pos} {R:AF→Loc→AH→Prop}
  (he:∀ env,(assignEach [t₁,t₂,t₃] env).map (·.2)=[assign t₁ env,assign t₂ env,assign t₃ env]) (hw:∀ env,swappedStores [t₁,t₂,t₃] value env=pure none)
  (h:EvE c sc U D value loc σ fun a σ₁=>As1 c sc U D t₁ a loc σ₁ fun loc₂ σ₂=>As1 c sc U D t₂ a loc₂ σ₂ fun loc₃ σ₃=>As1 c sc U D t₃ a loc₃ σ₃ fun loc₄ σ₄=>R .next loc₄ σ₄):Ex1 c sc U D (.Assign [t₁,t₂,t₃] value pos) loc σ R:=fun A env L h₀ fm ρ X s Q E S K=>by
 refine wpAny_Assign_three ?_ (he env) (hw env)
 refine h A env L h₀ fm ρ X s _ E S fun ρ₁ σ₁ a v s₁ ha va n₁ g₁ S₁ r₁=>?_
 refine ha A env L h₀ fm ρ₁ X s₁ _ E v S₁ va fun ρ₂ σ₂ loc₂ s₂ h₂ n₂ g₂ S₂ r₂=>?_
 refine h₂ A env L h₀ fm ρ₂ X s₂ _ E v S₂ (va.mono n₂ g₂) fun ρ₃ σ₃ loc₃ s₃ h₃ n₃ g₃ S₃ r₃=>?_
 refine h₃ A env L h₀ fm ρ₃ X s₃ _ E v S₃ ((va.mono n₂ g₂).mono n₃ g₃) fun ρ₄ σ₄ loc₄ s₄ h₄ n₄ g₄ S₄ r₄=>?_
 exact (((K.after n₁ g₁ r₁).after n₂ g₂ r₂).after n₃ g₃ r₃) ρ₄ σ₄ loc₄ _ .next s₄ h₄ .next n₄ g₄ S₄ r₄
end
section
variable {c:Cx} {sc:Scope} {U D:Nat} {loc:Loc} {σ:AH}
def AsL (c:Cx) (sc:Scope) (U D:Nat) (ts:List Expr) (as:List AV) (loc:Loc) (σ:AH) (R:Loc→AH→Prop):Prop :=
 ∀ A env L h₀,Fm c sc A env L h₀ U D→∀ ρ X s Q E vs,St c.w.params h₀ L ρ σ loc X s→VRs ρ σ.nx as vs→BackU c h₀ L ρ σ X s Q R→wpAny (model c.prog c.w) A (assignInOrder (ts.map fun t=>assign t env) vs) Q E s
theorem aKw {as:List AV} {R:Loc→AH→Prop} (h:R loc σ):AsL c sc U D [] as loc σ R:=fun A env L h₀ fm ρ X s Q E vs S hv K =>
 assignInOrder_nil (K.now h S)
theorem aFq {t:Expr} {ts:List Expr} {a:AV} {as:List AV} {R:Loc→AH→Prop} (h:As1 c sc U D t a loc σ fun loc₁ σ₁=>AsL c sc U D ts as loc₁ σ₁ R):AsL c sc U D (t::ts) (a::as) loc σ R:=fun A env L h₀ fm ρ X s Q E vs S hv K=>by
 cases hv with
 | cons h1 h2 =>
 refine assignInOrder_cons (h A env L h₀ fm ρ X s _ E _ S h1 fun ρ₁ σ₁ loc₁ s₁ hr n₁ g₁ S₁ r₁=>?_)
 exact hr A env L h₀ fm ρ₁ X s₁ Q E _ S₁ (All2.mono (fun _ _ x=>x.mono n₁ g₁) h2) (K.after n₁ g₁ r₁)
theorem aCj {elts:List Expr} {k:Nat} {pos:Pos} {j:Nat} {as:List AV} {R:Loc→AH→Prop} (e:σ.get j=some (.tup as))
  (he:∀ env,(assignEach elts env).map (·.2)=elts.map fun t=>assign t env) (hl:∀ env,(assignEach elts env).length=elts.length) (hn:elts.length=as.length) (hstar:∀ env,(assignEach elts env).findIdx? (·.1)=none)
  (h:AsL c sc U D elts as loc σ R):As1 c sc U D (.Tuple elts k pos) (.ref j) loc σ R:=fun A env L h₀ fm ρ X s Q E v S hv K=>by
 cases hv
 obtain ⟨vs,ht,hr⟩:100:=S.isTup e
 obtain ⟨m,news,F,hm,H,N,nd⟩:100:=S.ex
 haveI hlen:=hr.length
 refine unpackN_ F N ht fm.hh (by rw [hl,hn];simp [hlen]) (hstar env) fun h' F' N'=>?_
 rw [he]
 exact h A env L h₀ fm ρ X _ Q E _ ⟨m,news,F',hm,H,N',nd⟩ hr fun ρ' σ' loc' s' o n' g' S' r'=>K ρ' σ' loc' s' o n' g' S' ⟨r'.os,r'.gens,r'.dr⟩
end
section
variable {c:Cx} {sc:Scope} {U D:Nat} {loc:Loc} {σ:AH}
theorem gT {o value:Expr} {attr:Str} {ap pos:Pos} {R:AF→Loc→AH→Prop} (hs:∀ env,swapsWith value (some (.Attribute o attr ap)) pos.line env=pure false)
  (h:EvE c sc U D value loc σ fun a σ₁=>EvE c sc U D o loc σ₁ fun b σ₂=>SaA c sc U D b attr a loc σ₂ fun σ₃=>R .next loc σ₃):Ex1 c sc U D (.Assign [.Attribute o attr ap] value pos) loc σ R:=fun A env L h₀ fm ρ X s Q E S K=>by
 refine plainObj_wpAny_Assign_Attribute ?_ (hs env)
 refine h A env L h₀ fm ρ X s _ E S fun ρ₁ σ₁ a v s₁ ha va n₁ g₁ S₁ r₁=>?_
 refine ha A env L h₀ fm ρ₁ X s₁ _ E S₁ fun ρ₂ σ₂ b ov s₂ hb vb n₂ g₂ S₂ r₂=>?_
 refine hb A env L h₀ fm ρ₂ X s₂ _ E ov v S₂ vb (va.mono n₂ g₂) fun ρ₃ σ₃ _ s₃ h₃ n₃ g₃ S₃ r₃=>((K.after n₁ g₁ r₁).after n₂ g₂ r₂) ρ₃ σ₃ loc _ .next s₃ h₃ .next n₃ g₃ S₃ r₃
end
theorem pD {M:Model} {A:Around} {E:Value→Shared→Prop} {s:Shared} {env:Env} {o:Expr} {attr:Str} {pos:Pos} {v:Value} {Q:Unit→Shared→Prop}
  (h:wpAny M A (eval o env) (fun ov s₁=>wpAny M A (setAttr ov attr v) (fun _=>Q ()) E s₁) E s):wpAny M A (assign (.Attribute o attr pos) env v) Q E s:=fun Γ p hΓ=>by
 simp only [assign_Attribute,Sem.wp_bind',Sem.wp_holding,Sem.wp_cmd_standAt,Sem.wp_release]
 exact Sem.wp_mono M Γ _ (fun ov _ s₁ h₁=>h₁ Γ _ hΓ) (fun _ _ _ h'=>h') _ _ (h Γ p hΓ)
section
variable {c:Cx} {sc:Scope} {U D:Nat} {loc:Loc} {σ:AH}
theorem aFr {o:Expr} {attr:Str} {pos:Pos} {a:AV} {R:Loc→AH→Prop}
  (h:EvE c sc U D o loc σ fun b σ₁=>SaA c sc U D b attr a loc σ₁ fun σ₂=>R loc σ₂):As1 c sc U D (.Attribute o attr pos) a loc σ R:=fun A env L h₀ fm ρ X s Q E v S hv K=>by
 refine pD ?_
 refine h A env L h₀ fm ρ X s _ E S fun ρ₁ σ₁ b ov s₁ hb vb n₁ g₁ S₁ r₁=>?_
 refine hb A env L h₀ fm ρ₁ X s₁ _ E ov v S₁ vb (hv.mono n₁ g₁) fun ρ₃ σ₃ _ s₃ h₃ n₃ g₃ S₃ r₃=>(K.after n₁ g₁ r₁) ρ₃ σ₃ _ s₃ h₃ n₃ g₃ S₃ r₃
end
theorem AH.get_lt {σ:AH} {k:Nat} {o:AO} (h:σ.get k=some o):k < σ.nx:=(AH.get_look h).1
theorem jG {k j:Nat} {o:AO}:∀ {l:List (Nat×AO)},(hW k o l).lookup j=if j=k then (l.lookup k).map fun _=>o else l.lookup j
 | []=>by
  show none=_
  by_cases h:j=k
  ·rw [if_pos h];rfl
  ·rw [if_neg h];rfl
 | (i,p)::r=>by
  rw [sM]
  by_cases e:k=i
  ·subst e
   rw [if_pos rfl]
   by_cases q:j=k
   ·subst q;rw [if_pos rfl,List.lookup_cons,List.lookup_cons,beq_self_eq_true];rfl
   ·rw [if_neg q,List.lookup_cons,List.lookup_cons,beq_false_of_ne q]
  ·rw [if_neg e]
   by_cases q:j=k
   ·subst q;rw [if_pos rfl,List.lookup_cons,List.lookup_cons,beq_false_of_ne e];haveI:=@jG j j o r;rw [if_pos rfl] at this;exact this
   ·rw [if_neg q]
    by_cases z:j=i
    ·subst z;rw [List.lookup_cons,List.lookup_cons,beq_self_eq_true]
    ·rw [List.lookup_cons,List.lookup_cons,beq_false_of_ne z];haveI:=@jG k j o r;rw [if_neg q] at this;exact this
theorem aF {σ:AH} {k:Nat} {o p:AO} (h:σ.get k=some p):(σ.set k o).get k=some o:=by
 obtain ⟨h1,h2⟩:0:=AH.get_look h
 unfold AH.get AH.set
 rw [if_pos h1]
 show (hW k o σ.objs).lookup k=_
 rw [jG,if_pos rfl,h2];rfl
theorem aC {σ:AH} {k j:Nat} {o p:AO} (n:j≠k) (h:σ.get j=some p):(σ.set k o).get j=some p:=by
 obtain ⟨h1,h2⟩:0:=AH.get_look h
 unfold AH.get AH.set
 rw [if_pos h1]
 show (hW k o σ.objs).lookup j=_
 rw [jG,if_neg n,h2]
theorem aB {σ:AH} {o:AO}:(σ.new o).get σ.nx=some o:=by
 unfold AH.get AH.new
 rw [if_pos (Nat.lt_succ_self _),List.lookup_cons,beq_self_eq_true]
theorem aA {σ:AH} {o p:AO} {j:Nat} (h:σ.get j=some p):(σ.new o).get j=some p:=by
 obtain ⟨h1,h2⟩:0:=AH.get_look h
 unfold AH.get AH.new
 rw [if_pos (Nat.lt_succ_of_lt h1),List.lookup_cons,beq_false_of_ne (Nat.ne_of_lt h1)]
 exact h2
theorem aE {σ:AH} {k j:Nat} {o p:AO} (h:σ.get k=some o) (h':σ.get j=some p) (n:o≠p):k≠j:=fun e=>by
 subst e;rw [h] at h';exact n (Option.some.inj h')
structure Ext (ch:List Nat) (σ σ':AH):Prop where
 nx:σ.nx≤σ'.nx
 old:∀ j o,j∉ch→σ.get j=some o→σ'.get j=some o
theorem Ext.refl {ch:List Nat} (σ:AH):Ext ch σ σ:=⟨Te _,fun _ _ _ e=>e⟩
theorem Ext.trans {ch:List Nat} {a b c:AH} (x:Ext ch a b) (y:Ext ch b c):Ext ch a c:=⟨Ta x.nx y.nx,fun j o n e=>y.old j o n (x.old j o n e)⟩
theorem Ext.new {ch:List Nat} {a b:AH} {o:AO} (x:Ext ch a b):Ext ch a (b.new o):=⟨Nat.le_succ_of_le x.nx,fun j p n e=>aA (x.old j p n e)⟩
theorem Ext.set {ch:List Nat} {a b:AH} {k:Nat} {o:AO} (x:Ext ch a b) (h:k∈ch∨a.nx≤k):Ext ch a (b.set k o) :=
 ⟨x.nx,fun j p n e=>aC (fun q=>by subst q;exact h.elim n fun l=>Nat.lt_irrefl _ (Tc (AH.get_lt e) l)) (x.old j p n e)⟩
theorem Ext.mono {ch ch':List Nat} {a b:AH} (x:Ext ch a b) (h:∀ j∈ch,j∈ch'∨a.nx≤j):Ext ch' a b :=
 ⟨x.nx,fun j o n e=>x.old j o (fun m=>(h j m).elim n fun l=>Nat.lt_irrefl _ (Tc (AH.get_lt e) l)) e⟩
theorem Ext.keep {ch:List Nat} {a b:AH} (x:Ext ch a b) {j:Nat} {o:AO} (h:a.get j=some o) (n:j∉ch):b.get j=some o:=x.old j o n h
theorem dT:∀ {xs:List Str} {vs:List Value},xs.Nodup→xs.length=vs.length→∀ y,(xs.zip vs).reverse.lookup y=(xs.zip vs).lookup y
 | [],_,_,_,_=>rfl
 | x::xs,[],_,h,_=>by cases h
 | x::xs,v::vs,nd,h,y=>by
  obtain ⟨n1,n2⟩:0:=List.nodup_cons.mp nd
  haveI ih:=dT n2 (Nat.succ.inj h) y
  rw [List.zip_cons_cons,List.reverse_cons]
  have ap:∀ (l:List (Str×Value)) (r:List (Str×Value)),(l++r).lookup y=(l.lookup y).or (r.lookup y):=fun l r=>by
   induction l with
   | nil=>rfl
   | cons p l ih=>obtain ⟨a,b⟩:=p;rw [List.cons_append,List.lookup_cons,List.lookup_cons];cases q:(y==a) <;> simp [ih]
  rw [ap,ih]
  by_cases e:y=x
  ·subst e
   have:∀ {xs:List Str} {vs:List Value},y∉xs→(xs.zip vs).lookup y=none:=by
    intro xs
    induction xs with
    | nil=>intro vs _;rfl
    | cons a xs ih =>
     intro vs hn
     cases vs with
     | nil=>rfl
     | cons b vs =>
      rw [List.zip_cons_cons,List.lookup_cons,beq_false_of_ne fun q=>hn (by rw [q];exact List.mem_cons_self)]
      exact ih fun q=>hn (List.mem_cons_of_mem _ q)
   rw [this n1]
   simp
  ·rw [List.lookup_cons,List.lookup_cons,beq_false_of_ne e]
   simp
theorem aFs {ρ:Nat→Addr} {n:Nat}:∀ {xs:List Str} {as:List AV} {vs:List Value},xs.Nodup→xs.length=as.length→VRs ρ n as vs→LR ρ n (xs.zip as) (fun y=>(xs.zip vs).lookup y):=by
 intro xs
 induction xs with
 | nil=>intro as vs _ _ _ x a e;simp at e
 | cons x xs ih =>
  intro as vs nd h hv y b e
  cases hv with
  | nil=>cases h
  | @cons a v as vs hv ht =>
   rw [List.zip_cons_cons,List.lookup_cons] at e
   rw [List.zip_cons_cons]
   dsimp only
   rw [List.lookup_cons]
   cases q:(y==x) with
   | true=>rw [q] at e;cases e;exact ⟨v,rfl,hv⟩
   | false=>rw [q] at e;exact ih (List.nodup_cons.mp nd).2 (Nat.succ.inj h) ht y b e
theorem bG {c:Cx} {fd:FuncData} {sc:Scope} {args:List AV} (xs:List Str) (dvs:List AV) (dval:List Value) (hd:∀ ρ n,VRs ρ n dvs dval)
  (hb:∀ (vs:List Value) (s:Shared),c.K.In s.heap→vs.length=args.length→BindsTo s fd ⟨vs,[]⟩ (xs.zip (vs++dval)))
  (hl:(xs.all fun y=>sc.names.lookup y==some .local)=true) (hn:xs.length=args.length+dvs.length) (nd:decide xs.Nodup=true):lM c fd sc args [] (xs.zip (args++dvs)):=by
 intro ρ n vs kvs s hX hv hk
 haveI he:=hv.length
 refine ⟨xs.zip (vs++dval),?_,fun y hy=>?_,?_⟩
 ·exact hb vs s hX he.symm
 ·obtain ⟨a,b⟩:=y
  exact beq_iff_eq.mp (List.all_eq_true.mp hl a (List.of_mem_zip hy).1)
 ·haveI nd:=of_decide_eq_true nd
  haveI hv':VRs ρ n (args++dvs) (vs++dval):=hv.append (hd ρ n)
  haveI hle:xs.length=(args++dvs).length:=by rw [List.length_append];exact hn
  haveI:=aFs nd hle hv'
  intro x a e
  obtain ⟨v,h1,h2⟩:1:=this x a e
  exact ⟨v,(dT nd (hle.trans hv'.length) x).trans h1,h2⟩
inductive Vs1:List Value→Prop
 | mk (a:Value):Vs1 [a]
inductive Vs2:List Value→Prop
 | mk (a b:Value):Vs2 [a,b]
inductive Vs3:List Value→Prop
 | mk (a b d:Value):Vs3 [a,b,d]
inductive Vs4:List Value→Prop
 | mk (a b d e:Value):Vs4 [a,b,d,e]
noncomputable def aPa (n:Nat) (P:List Value→Prop):Prop:=match n with
 | 0=>P []
 | n+1=>∀ a,aPa n fun l=>P (a::l)
theorem lO (n:Nat):∀ {P:List Value→Prop},aPa n P→∀ vs:List Value,vs.length=n→P vs:=by
 induction n with
 | zero=>intro P h vs e;rw [List.eq_nil_of_length_eq_zero e];exact h
 | succ n ih =>
  intro P h vs e
  cases vs with
  | nil=>cases e
  | cons a r=>exact ih (h a) r (Nat.succ.inj e)
theorem vs1 {vs:List Value} (h:vs.length=1):Vs1 vs:=lO 1 (P:=Vs1) (fun a=>.mk a) vs h
theorem vs2 {vs:List Value} (h:vs.length=2):Vs2 vs:=lO 2 (P:=Vs2) (fun a b=>.mk a b) vs h
theorem vs3 {vs:List Value} (h:vs.length=3):Vs3 vs:=lO 3 (P:=Vs3) (fun a b d=>.mk a b d) vs h
theorem vs4 {vs:List Value} (h:vs.length=4):Vs4 vs:=lO 4 (P:=Vs4) (fun a b d e=>.mk a b d e) vs h
theorem eV (ρ:Nat→Addr) (n:Nat):VRs ρ n [] []:=.nil
theorem fP {sc:Scope} (h:(sc.names.all fun x=>x.2 != .cell)=true):∀ x∈sc.names,x.2≠.cell:=fun x hx=>by
 haveI:=List.all_eq_true.mp h x hx
 intro e;rw [e] at this;cases this
theorem sP {a b:Nat} (h:decide (a≤b)=true):a≤b:=of_decide_eq_true h
section
variable {c:Cx} {sc:Scope} {U D:Nat} {loc:Loc} {σ:AH}
theorem aFt {scope:Scope} {f:Addr} {name qual:Str} {params:Arguments} {body:List Stmt} {dV kV doc pm cdv ct oc:Value} {od an:Option Addr} {osl:Array (Option Value)} {args:List AV} {loc₀:Loc} {R:AV→AH→Prop}
  (ho:c.K.lookup f=some ⟨oc,od,.func (fnOf name qual params body scope dV kV doc pm an cdv ct),osl⟩) (hcd:codeIn c.K cdv qual=true)
  (hb:lM c (fnOf name qual params body scope dV kV doc pm an cdv ct) scope args [] loc₀)
  (hs:(scope.isCoroutine||scope.isGenerator||scope.kind != .function||!(scope.names.all fun x=>x.2 != .cell))=false)
  (h:ExS c scope U D body loc₀ σ fun fl _ σ'=>R (fM fl) σ') (hfl:c.fl=none∧c.cf=none:=by exact ⟨rfl,rfl⟩):ClV c sc (U+3) (D+1) (.glob f) args loc σ R:=by
 simp only [Bool.or_eq_false_iff,Bool.not_eq_false',bne_eq_false_iff_eq] at hs
 refine hid ?_;intro ZZ zz
 obtain ⟨⟨⟨h1,h2⟩,h3⟩,h4⟩:=hs
 refine zz ?_;clear zz
 exact aKq ho hcd hb h h1 h2 h3 (fP h4) hfl
theorem en {scope:Scope} {f:Addr} {name qual:Str} {params:Arguments} {body:List Stmt} {dV kV doc pm cdv ct oc:Value} {od an:Option Addr} {osl:Array (Option Value)} {args:List AV} {loc₀:Loc} {R:AV→AH→Prop} (xs:List Str)
  (ho:c.K.lookup f=some ⟨oc,od,.func (fnOf name qual params body scope dV kV doc pm an cdv ct),osl⟩)
  (hc:(codeIn c.K cdv qual&&(xs.all fun y=>scope.names.lookup y==some .local)&&decide (xs.length=args.length)&&decide xs.Nodup&&!(scope.isCoroutine||scope.isGenerator||scope.kind != .function||!(scope.names.all fun x=>x.2 != .cell)))=true)
  (hb:∀ S,aPa xs.length fun vs=>peek c.K S (bindArgs (fnOf name qual params body scope dV kV doc pm an cdv ct) ⟨vs,[]⟩)=some (xs.zip vs))
  (h:ExS c scope U D body loc₀ σ fun fl _ σ'=>R (fM fl) σ') (h0:xs.zip args=loc₀:=by rfl) (hfl:c.fl=none∧c.cf=none:=by exact ⟨rfl,rfl⟩):ClV c sc (U+3) (D+1) (.glob f) args loc σ R:=by
 simp only [Bool.and_eq_true,Bool.not_eq_true'] at hc
 refine hid ?_;intro ZZ zz
 obtain ⟨⟨⟨⟨h1,h2⟩,h3⟩,h4⟩,h5⟩:=hc
 refine zz ?_;clear zz
 have hn:=of_decide_eq_true h3
 have B:=bG (c:=c) (fd:=fnOf name qual params body scope dV kV doc pm an cdv ct) (sc:=scope) (args:=args) xs [] [] eV (fun vs s hX hl=>by rw [List.append_nil];exact kp_binds hX fun S=>lO _ (hb S) vs (hl.trans hn.symm)) h2 hn h4
 rw [List.append_nil,h0] at B
 exact aFt ho h1 B h5 h hfl
end
section
variable {prog:Program} {w:World} {κ:Type} [DecidableEq κ] {knd:KeyKind prog w κ} {ρ:Nat→Addr} {n:Nat}
def GER (knd:KeyKind prog w κ) (ρ:Nat→Addr) (n:Nat) (p:κ×AV) (e:DictEntry):Prop:=knd.is p.1 e.key=true∧e.hash=knd.hash p.1∧VR ρ n p.2 e.val
theorem pE {k:κ} {kvs:List (κ×AV)} {es:List DictEntry} (H:All2 (GER knd ρ n) kvs es) :
  (∀ a,kvs.lookup k=some a→∃ i e,(es.findIdx? fun e=>knd.is k e.key)=some i∧es[i]? = some e∧VR ρ n a e.val∧∀ v a',VR ρ n a' v→All2 (GER knd ρ n) (put k a' kvs) (es.modify i fun e=>{ e with val:=v })) ∧
  (kvs.lookup k=none→(es.findIdx? fun e=>knd.is k e.key)=none∧∀ a',put k a' kvs=kvs++[(k,a')]):=by
 induction H with
 | nil=>exact ⟨fun a e=>(by cases e),fun _=>⟨rfl,fun _=>rfl⟩⟩
 | @cons p e l r hd tl ih =>
  refine hid ?_;intro ZZ zz
  obtain ⟨y,b⟩:=p
  obtain ⟨h1,h2,h3⟩:=hd
  refine zz ?_;clear zz
  dsimp only at h1 h2 h3
  haveI hk:=KeyKind.is_eq_decide h1 k
  by_cases q:k=y
  ·subst q
   refine ⟨fun a e'=>?_,fun e'=>?_⟩
   ·rw [List.lookup_cons,beq_self_eq_true] at e'
    cases e'
    refine ⟨0,e,?_,rfl,h3,fun v a' hv=>?_⟩
    ·rw [List.findIdx?_cons,h1];rfl
    ·rw [List.modify_zero_cons]
     rw [dS]
     rw [if_pos rfl]
     exact .cons ⟨h1,h2,hv⟩ tl
   ·rw [List.lookup_cons,beq_self_eq_true] at e';cases e'
  ·rw [List.lookup_cons,beq_false_of_ne q]
   rw [decide_eq_false q] at hk
   refine ⟨fun a e'=>?_,fun e'=>?_⟩
   ·refine hid ?_;intro ZZ zz
    obtain ⟨i,en,i1,i2,i3,i4⟩:2:=ih.1 a e'
    refine zz ?_;clear zz
    refine ⟨i+1,en,?_,i2,i3,fun v a' hv=>?_⟩
    ·rw [List.findIdx?_cons,hk,i1];rfl
    ·rw [List.modify_succ_cons]
     rw [dS]
     rw [if_neg q]
     exact .cons ⟨h1,h2,h3⟩ (i4 v a' hv)
   ·obtain ⟨i1,i2⟩:0:=ih.2 e'
    refine ⟨by rw [List.findIdx?_cons,hk,i1];rfl,fun a'=>?_⟩
    rw [dS]
    rw [if_neg q,i2];rfl
theorem pF {kvs:List (κ×AV)} {es:List DictEntry} (H:All2 (GER knd ρ n) kvs es):KeysOf knd es.toArray:=by
 intro e he
 replace he:=Array.mem_toList_iff.mpr he
 dsimp only at he
 induction H with
 | nil=>cases he
 | cons h _ ih =>
  rcases Tf he with rfl | he
  ·exact ⟨_,h.1,h.2.1⟩
  ·exact ih he
theorem sQ {kvs:List (κ×AV)} {es:List DictEntry} {e:Nat} {h:Heap} {d:Addr} (H:All2 (GER knd ρ n) kvs es) (hd:h.get? d=some (dictOf es e)):h.MapOf knd d (fun k=>findBy knd.is es.toArray k) :=
 ⟨_,_,e,hd,⟨rfl,rfl,rfl⟩,rfl,pF H,fun _=>rfl⟩
theorem vP {k:κ} {kvs:List (κ×AV)} {es:List DictEntry} (H:All2 (GER knd ρ n) kvs es):(∀ a,kvs.lookup k=some a→∃ v,findBy knd.is es.toArray k=some v∧VR ρ n a v)∧(kvs.lookup k=none→findBy knd.is es.toArray k=none):=by
 obtain ⟨h1,h2⟩:0:=pE (k:=k) H
 refine ⟨fun a e=>?_,fun e=>?_⟩
 ·refine hid ?_;intro ZZ zz
  obtain ⟨i,en,i1,i2,i3,_⟩:2:=h1 a e
  refine zz ?_;clear zz
  refine ⟨en.val,?_,i3⟩
  rw [findBy_of_findIdx?,List.findIdx?_toArray,i1]
  simp [i2]
 ·rw [findBy_of_findIdx?,List.findIdx?_toArray,(h2 e).1]
theorem aCk {A:Around} {E:Value→Shared→Prop} {s:Shared} {d:Addr} {k:κ} {key v:Value} {a:AV} {kvs:List (κ×AV)} {es:List DictEntry} {e:Nat} {Q:Unit→Shared→Prop} (hkey:knd.is k key=true) (hd:s.heap.get? d=some (dictOf es e)) (H:All2 (GER knd ρ n) kvs es) (hv:VR ρ n a v) (hz:es.length≤sizeLine)
  (hQ:∀ h' es' e',Heap.SameBut d s.heap h'→h'.get? d=some (dictOf es' e')→All2 (GER knd ρ n) (put k a kvs) es'→Q () { s with heap:=h',toks:=s.toks+1 }):wpAny (model prog w) A (dictSet d key v) Q E s:=by
 obtain ⟨h1,h2⟩:0:=pE (k:=k) H
 unfold dictSet
 try with_reducible refine wpAny_holding ?_
 refine wpAny_bind (knd.pyHash hkey ?_)
 unfold dictSetHashed
 try with_reducible refine wpAny_holding ?_
 refine wpAny_bind (wpAny_dictFind_of (s:={ s with toks:=s.toks+1 }) hkey hd rfl (pF H) ?_)
 rw [List.findIdx?_toArray]
 cases q:kvs.lookup k with
 | some b =>
  obtain ⟨i,en,i1,i2,i3,i4⟩:2:=h1 b q
  rw [i1]
  refine wpAny_bind (wpAny_rule (wpAny_bind (wpAny_updateDict (s:={ s with toks:=s.toks+1 }) hd rfl (wpAny_point ?_))))
  refine hQ _ (es.modify i fun e=>{ e with val:=v }) e (Heap.SameBut.update ..) ?_ (i4 v a hv)
  rw [Heap.get?_update_self _ hd (by rfl)]
  simp [Obj.mapDict,dictOf]
 | none =>
  obtain ⟨i1,i2⟩:0:=h2 q
  rw [i1]
  refine wpAny_bind (wpAny_rule (wpAny_updateDictKeys (s:={ s with toks:=s.toks+1 }) hd rfl ?_ (by simpa using hz)))
  refine hQ _ (es++[⟨knd.hash k,key,v⟩]) (e+1) (Heap.SameBut.update ..) ?_ ?_
  ·rw [Heap.get?_update_self _ hd (by rfl)]
   simp [Obj.mapDictKeys,dictOf]
  ·rw [i2]
   exact H.append (.cons ⟨hkey,rfl,hv⟩ .nil)
theorem mT {A:Around} {E:Value→Shared→Prop} {s:Shared} {d:Addr} {k:κ} {key v:Value} {a:AV} {kvs:List (κ×AV)} {es:List DictEntry} {e:Nat} {Q:Value→Shared→Prop} (hkey:knd.is k key=true) (hd:s.heap.get? d=some (dictOf es e)) (H:All2 (GER knd ρ n) kvs es) (hv:VR ρ n a v) (hz:es.length≤sizeLine)
  (hold:∀ b u,kvs.lookup k=some b→VR ρ n b u→Q u { s with toks:=s.toks+1 })
  (hnew:kvs.lookup k=none→∀ h' es' e',Heap.SameBut d s.heap h'→h'.get? d=some (dictOf es' e')→All2 (GER knd ρ n) (put k a kvs) es'→Q v { s with heap:=h',toks:=s.toks+1 }):wpAny (model prog w) A (dictSetDefault d key v) Q E s:=by
 obtain ⟨h1,h2⟩:0:=pE (k:=k) H
 unfold dictSetDefault
 try with_reducible refine wpAny_holding ?_
 refine wpAny_bind (knd.pyHash hkey ?_)
 refine wpAny_bind (wpAny_dictFind_of (s:={ s with toks:=s.toks+1 }) hkey hd rfl (pF H) ?_)
 rw [List.findIdx?_toArray]
 cases q:kvs.lookup k with
 | some b =>
  obtain ⟨i,en,i1,i2,i3,i4⟩:2:=h1 b q
  rw [i1]
  refine wpAny_bind (wpAny_dictEntries (s:={ s with toks:=s.toks+1 }) hd rfl ?_)
  rw [show es.toArray[i]? = some en by simpa using i2]
  exact wpAny_bind (wpAny_rule (wpAny_pure (hold b _ q i3)))
 | none =>
  obtain ⟨i1,i2⟩:0:=h2 q
  rw [i1]
  refine wpAny_bind (wpAny_rule (wpAny_bind (wpAny_updateDictKeys (s:={ s with toks:=s.toks+1 }) hd rfl (wpAny_pure ?_) (by simpa using hz))))
  refine hnew q _ (es++[⟨knd.hash k,key,v⟩]) (e+1) (Heap.SameBut.update ..) ?_ ?_
  ·rw [Heap.get?_update_self _ hd (by rfl)]
   simp [Obj.mapDictKeys,dictOf]
  ·rw [i2]
   exact H.append (.cons ⟨hkey,rfl,hv⟩ .nil)
end
theorem aFu {prog:Program} {w:World} {ρ:Nat→Addr} {n:Nat} {kvs:List (Str×AV)} {es:List DictEntry} (H:All2 (ER w.params ρ n) kvs es):All2 (GER (strKind prog w) ρ n) kvs es :=
 All2.mono (fun _ _ x=>by cases x with | mk x t a v h=>exact ⟨strKind_is prog w x t,rfl,h⟩) H
theorem aPb {prog:Program} {w:World} {ρ:Nat→Addr} {n:Nat} {kvs:List (Str×AV)} {es:List DictEntry} (H:All2 (GER (strKind prog w) ρ n) kvs es):All2 (ER w.params ρ n) kvs es :=
 All2.mono (fun p e ⟨h1,h2,h3⟩=>by
  refine hid ?_;intro ZZ zz
  obtain ⟨x,a⟩:=p
  obtain ⟨hh,key,v⟩:=e
  obtain ⟨t,ht⟩:1:=Value.isStrOf_shape h1
  refine zz ?_;clear zz
  dsimp only at ht h2 h3
  subst ht
  rw [show hh=PyData.keyHash w.params x from h2]
  exact .mk _ _ _ _ h3) H
theorem aFv {prog:Program} {w:World} {ρ:Nat→Addr} {n:Nat} {kvs:List (Int×AV)} {es:List DictEntry} (H:All2 (NR ρ n) kvs es):All2 (GER (intKind prog w) ρ n) kvs es :=
 All2.mono (fun _ _ x=>by cases x with | mk x t a v h=>exact ⟨by simp [intKind,Value.isInt],rfl,h⟩) H
theorem aPc {prog:Program} {w:World} {ρ:Nat→Addr} {n:Nat} {kvs:List (Int×AV)} {es:List DictEntry} (H:All2 (GER (intKind prog w) ρ n) kvs es):All2 (NR ρ n) kvs es :=
 All2.mono (fun p e ⟨h1,h2,h3⟩=>by
  refine hid ?_;intro ZZ zz
  obtain ⟨x,a⟩:=p
  obtain ⟨hh,key,v⟩:=e
  obtain ⟨t,ht⟩:1:=Value.isInt_shape h1
  refine zz ?_;clear zz
  dsimp only at ht h2 h3
  subst ht
  rw [show hh=hashInt x from h2]
  exact .mk _ _ _ _ h3) H
theorem St.setB {P:Params} {h₀:Heap} {L:Addr} {ρ:Nat→Addr} {σ:AH} {loc:Loc} {X:List (Addr×Obj)} {s:Shared} {k:Nat} {a a':AO} {o':Obj} {h':Heap} (S:St P h₀ L ρ σ loc X s) (e:σ.get k=some a)
  (hs:Heap.SameBut (ρ k) s.heap h') (ho:h'.get? (ρ k)=some o') (hr:OR P ρ σ.nx a' o') (t:Nat):St P h₀ L ρ (σ.set k a') loc X { s with heap:=h',toks:=t }:=by
 obtain ⟨m,news,F,hm,H,N,nd⟩:100:=S.ex
 obtain ⟨o,news',c1,c2,c3,c4,c5⟩:100:=HR.set (fun _=>o') H e nd (fun _ _=>hr)
 obtain ⟨pre,post,q1,q2,a1,a2⟩:2:=c4.split
 haveI hi:=N _ (Th _ c2)
 refine ⟨m,news',Fr.other F (fun b ob hb e=>(hs.2 b hb).trans e) hi.2.1 hi.2.2,hm,c3,?_,c5⟩
 rw [q2]
 exact news_set (q1▸N) a1 a2 hs ho
inductive AtEx (P:Params) (ρ:Nat→Addr) (n:Nat) (h:Heap) (k:Nat) (a:AO):Prop
 | mk (o:Obj) (h1:h.get? (ρ k)=some o) (h2:k < n) (h3:OR P ρ n a o)
theorem AtEx.elim {P:Params} {ρ:Nat→Addr} {n:Nat} {h:Heap} {k:Nat} {a:AO} {Q:Prop} (x:AtEx P ρ n h k a) (y:∀ o,h.get? (ρ k)=some o→k < n→OR P ρ n a o→Q):Q:=by cases x with | mk a b c d=>exact y a b c d
theorem St.at {P:Params} {h₀:Heap} {L:Addr} {ρ:Nat→Addr} {σ:AH} {loc:Loc} {X:List (Addr×Obj)} {s:Shared} {k:Nat} {a:AO} (S:St P h₀ L ρ σ loc X s) (e:σ.get k=some a):AtEx P ρ σ.nx s.heap k a:=by
 obtain ⟨m,news,F,hm,H,N,nd⟩:100:=S.ex
 obtain ⟨o,h1,h2,h3⟩:100:=H.get e
 exact ⟨o,(N _ (Th _ h1)).1,h2,h3⟩
section
variable {c:Cx} {sc:Scope} {U D:Nat} {loc:Loc} {σ:AH}
theorem St.notMod {A:Around} {env:Env} {L:Addr} {h₀:Heap} {ρ:Nat→Addr} {X:List (Addr×Obj)} {s:Shared} {k:Nat} {a:AO} (fm:Fm c sc A env L h₀ U D) (S:St c.w.params h₀ L ρ σ loc X s) (e:σ.get k=some a):(ρ k==sysModules)=false:=by
 obtain ⟨o₁,h₁⟩:1:=fm.sm
 obtain ⟨m,news,F,hm,H,N,nd⟩:100:=S.ex
 obtain ⟨o,h1,h2,h3⟩:100:=H.get e
 refine beq_false_of_ne fun q=>?_
 haveI:=(N _ (Th _ h1)).2.2
 dsimp only at this
 rw [q,h₁] at this
 cases this
theorem St.allocN {P:Params} {h₀:Heap} {L:Addr} {ρ:Nat→Addr} {X:List (Addr×Obj)} {s:Shared} {a:AO} {o:Obj} (S:St P h₀ L ρ σ loc X s) (ho:OR P ρ σ.nx a o) (hf:o.isFreed=false) (t:Tok) :
  St P h₀ L (ext ρ σ.nx s.heap.objs.size) (σ.new a) loc X { s with heap:=s.heap.push o,toks:=t }:=by
 obtain ⟨m,news,F,hm,H,N,nd⟩:100:=S.ex
 exact St.alloc rfl (F.push o) hm H (N.push F o hf) nd (fun p hp=>Heap.lt_size (N p hp).1) ho
theorem bA {ρ:Nat→Addr} {n:Nat} {l:Addr}:VR (ext ρ n l) (n+1) (.ref n) (.ref l):=by
 haveI:=VR.ref (ρ:=ext ρ n l) (n:=n+1) n (Nat.lt_succ_self _)
 rw [aS] at this;exact this
inductive cV (c:Cx) (σ:AH):AV→Prop
 | glob (a:Addr) (h:keepIn c.K (.ref a)=true):cV c σ (.glob a)
 | bi (id:String):cV c σ (.bi id)
 | ty (n:String):cV c σ (.ty n)
 | bnd (k:Nat) (xs:List AV) (h:σ.get k=some (.flds "builtin_function_or_method" xs)):cV c σ (.ref k)
theorem nJ {M:Model} {A:Around} {env:Env} {L:Addr} {h₀:Heap} {ρ:Nat→Addr} {X:List (Addr×Obj)} {s:Shared} {f:AV} {fv:Value} (fm:Fm c sc A env L h₀ U D) (S:St c.w.params h₀ L ρ σ loc X s) (hf:cV c σ f) (hv:VR ρ σ.nx f fv) :
  ∃ k,(k=Keeper.frame∨k=Keeper.machine∨k=Keeper.boundFrame)∧Looks M s.heap (keeperOf fv) k:=by
 cases hf with
 | glob a h=>cases hv;exact keeps_K h _ (S.kin fm.X)
 | bi id=>cases hv;exact ⟨.machine,.inr (.inl rfl),.now⟩
 | ty n=>cases hv;exact ⟨.machine,.inr (.inl rfl),.now⟩
 | bnd k xs h =>
  cases hv
  obtain ⟨o,ho,hk,hr⟩:100:=S.at h
  cases hr
  exact ⟨.machine,.inr (.inl rfl),(Looks.ld (part:=none) ho).andThen .now⟩
theorem cw {pos:Pos} {f:AV} {first:List AV} {e:Expr} {rest:List Expr} {R:AV→AH→Prop}
  (he:∀ env,starEach (e::rest) env=(false,eval e env)::starEach rest env) (hp:∀ env,(backTo pos (starEach rest env)).any (·.1)=false)
  (h:EvL c sc U D (e::rest) loc σ fun as σ₁=>cV c σ₁ f∧ClV c sc U D f (first++as) loc σ₁ R):CwA c sc U D pos f first (e::rest) loc σ R:=fun A env L h₀ fm ρ X s Q E fv vs S hf' hv K=>by
 rw [he]
 refine callWith_of (P:=fun hh=>∃ k,(k=Keeper.frame∨k=Keeper.machine∨k=Keeper.boundFrame)∧Looks (model c.prog c.w) hh (keeperOf fv) k) (by show ((false||(backTo pos (starEach rest env)).any (·.1))||false)=false;rw [hp];rfl) (fun _ h=>h) (evalArgs_plain ?_)
 haveI:=h A env L h₀ fm pos ρ X s (fun ws s₁=>(∃ k,(k=Keeper.frame∨k=Keeper.machine∨k=Keeper.boundFrame)∧Looks (model c.prog c.w) s₁.heap (keeperOf fv) k)∧wpAny (model c.prog c.w) A (call fv (vs++ws)) Q E s₁) E S fun ρ₁ σ₁ as ws s₁ ⟨hk,ha⟩ va n₁ g₁ S₁ r₁=>by
  exact ⟨nJ fm S₁ hk (hf'.mono n₁ g₁),ha A env L h₀ fm ρ₁ X s₁ Q E _ _ S₁ (hf'.mono n₁ g₁) (All2.append (All2.mono (fun _ _ x=>x.mono n₁ g₁) hv) va) (K.after n₁ g₁ r₁)⟩
 rw [he] at this
 exact this
theorem cw0 {pos:Pos} {f:AV} {first:List AV} {R:AV→AH→Prop} (h:cV c σ f∧ClV c sc U D f (first++[]) loc σ R):CwA c sc U D pos f first [] loc σ R:=fun A env L h₀ fm ρ X s Q E fv' vs S hf' hv K =>
 callWith_of (P:=fun hh=>∃ k,(k=Keeper.frame∨k=Keeper.machine∨k=Keeper.boundFrame)∧Looks (model c.prog c.w) hh (keeperOf fv') k) rfl (fun _ h=>h) (evalArgs_nil3 ⟨nJ fm S h.1 hf',h.2 A env L h₀ fm ρ X s Q E _ _ S hf' (All2.append hv .nil) K⟩)
theorem aKx {k d:Nat} {C f:Addr} {kvs:List (Str×AV)} {name:Str} {R:AV→List AV→AH→Prop} (e:σ.get k=some (.inst C d)) (e':σ.get d=some (.idict kvs)) (hg:plainGet c.K C name=true) (hf:findIn c.K (.ref C) name=some (some (.ref f))) (ht:isFn c.K (.ref f)=true)
  (hl:(kvs.lookup name).isNone=true) (h:R (.glob f) [.ref k] σ):GmV c sc U D (.ref k) name loc σ R:=fun A env L h₀ fm ρ X s Q E ov pl S hv K=>by
 cases hv with
 | ref hk =>
 obtain ⟨es,n,I,hr⟩:100:=S.inst e e'
 obtain ⟨m,news,F,hm,H,N,nd⟩:100:=S.ex
 refine method_inst F fm.X I hg hf ht ((yL hr).2 (Option.isNone_iff_eq_none.mp hl)) ?_
 exact K ρ σ loc _ _ ⟨rfl,_,_,h,.glob _,.cons (.ref k hk) .nil⟩ (Te _) (Agree.refl _ _) S (Rest.refl _)
theorem aNq {T:String} {v:AV} {name:Str} {id:String} {R:AV→List AV→AH→Prop} (hT:∀ (P:Params) (h₀:Heap) (L:Addr) (ρ:Nat→Addr) (X:List (Addr×Obj)) (s:Shared) (u:Value),St P h₀ L ρ σ loc X s→VR ρ σ.nx v u→s.TypeIs u T∧∀ a,u=.ref a→∃ o,s.heap.get? a=some o∧o.dict=none)
  (pa:PlainAttrs T) (slot:Slot T name id) (hty:typeOf (.builtin id)=pure (.type "method_descriptor")) (h:R (.bi id) [v] σ):GmV c sc U D v name loc σ R:=fun A env L h₀ fm ρ X s Q E ov pl S hv K=>by
 obtain ⟨h1,h2⟩:0:=hT _ _ _ _ _ _ _ S hv
 refine getMethod_builtin h1 pa slot hty h2 ?_
 exact K ρ σ loc _ _ ⟨rfl,_,_,h,.bi _,.cons hv .nil⟩ (Te _) (Agree.refl _ _) S (Rest.refl _)
theorem vQ {k:Nat} {kvs:List (Str×AV)} {name:Str} {id:String} {R:AV→List AV→AH→Prop} (e:σ.get k=some (.idict kvs)) (slot:Slot "dict" name id) (hty:typeOf (.builtin id)=pure (.type "method_descriptor")) (h:R (.bi id) [.ref k] σ):GmV c sc U D (.ref k) name loc σ R :=
 aNq (fun P h₀ L ρ X s u S hv=>by
  cases hv
  obtain ⟨o,ho,hk,hr⟩:100:=S.at e
  cases hr
  exact ⟨⟨_,ho,rfl⟩,fun a q=>by cases q;exact ⟨_,ho,rfl⟩⟩) PySem.F.plainAttrs_dict slot hty h
theorem tR {k:Nat} {kvs:List (Int×AV)} {R:AV→AH→Prop} (e:σ.get k=some (.ndict kvs)) (h:R (.ref σ.nx) (σ.new (.flds "builtin_function_or_method" [.bi "dict.get", .ref k]))):GtA c sc U D (.ref k) "get" loc σ R:=fun A env L h₀ fm ρ X s Q E v S hv K=>by
 cases hv with
 | ref hk =>
 obtain ⟨o,ho,_,hr⟩:100:=S.at e
 cases hr with
 | ndict es n h' =>
 refine mS ho fun t=>?_
 exact K _ _ _ _ _ h bA (Nat.le_succ _) (aK _ _ _) (S.allocN (.flds _ _ [.builtin "dict.get", .ref (ρ k)] (.cons (.bi _) (.cons (.ref k hk) .nil))) rfl t) ⟨rfl,.refl _,rfl⟩
theorem mU {k:Nat} {R:AV→AH→Prop} (e:σ.get k=some .eset) (h:R (.ref σ.nx) (σ.new (.flds "builtin_function_or_method" [.bi "set.__contains__", .ref k]))):GtA c sc U D (.ref k) "__contains__" loc σ R:=fun A env L h₀ fm ρ X s Q E v S hv K=>by
 cases hv with
 | ref hk =>
 obtain ⟨o,ho,_,hr⟩:100:=S.at e
 cases hr with
 | eset led =>
 refine iE ho fun t=>?_
 exact K _ _ _ _ _ h bA (Nat.le_succ _) (aK _ _ _) (S.allocN (.flds _ _ [.builtin "set.__contains__", .ref (ρ k)] (.cons (.bi _) (.cons (.ref k hk) .nil))) rfl t) ⟨rfl,.refl _,rfl⟩
theorem Fm.at {A A':Around} {env:Env} {L:Addr} {h₀:Heap} {U' D':Nat} (fm:Fm c sc A env L h₀ U D) (hf:A'.frames=A.frames) (hu:A'.units+U'≤A.units+U) (hd:A'.depth+D'≤A.depth+D) (hh:A'.handled=A.handled):Fm c sc A' env L h₀ U' D' :=
 ⟨fm.ex,fun l ce q=>by obtain ⟨o,e,z⟩:1:=fm.bel l ce q;exact ⟨o,hf.trans e,z⟩,fm.X,fm.T,fm.hk,Td hu fm.hu,Td hd fm.hd,hh.trans fm.hh,fm.sm,fun l q=>let ⟨o,e,z⟩:=fm.cfr l q;⟨o,hf.trans e,z⟩⟩
theorem Fm.in1 {A:Around} {env:Env} {L:Addr} {h₀:Heap} (fm:Fm c sc A env L h₀ (U+1) D):Fm c sc A.in1 env L h₀ U D:=fm.at rfl (by show A.units+1+U≤_;exact yB) (Te _) rfl
def CdV (c:Cx) (sc:Scope) (U D:Nat) (f:AV) (args:List AV) (kw:List (Str×AV)) (loc:Loc) (σ:AH) (R:AV→AH→Prop):Prop :=
 ∀ A env L h₀,Fm c sc A env L h₀ U D→∀ ρ X s (Rr:Result→Shared→Prop) fv vs kvs,St c.w.params h₀ L ρ σ loc X s→VR ρ σ.nx f fv→VRs ρ σ.nx args vs→VRs ρ σ.nx (kw.map (·.2)) kvs→BackV c h₀ L ρ σ loc X s (fun v s'=>Rr (.ok (.ret v)) s') R→codeAny (model c.prog c.w) A (.call fv ⟨vs,(kw.map (·.1)).zip kvs⟩) Rr s
theorem yO {f:AV} {args:List AV} {R:AV→AH→Prop} (h:CdV c sc U D f args [] loc σ R):ClV c sc U D f args loc σ R:=fun A env L h₀ fm ρ X s Q E fv vs S hf hv K =>
 wpAny_call (h A env L h₀ fm ρ X s (fun r s'=>match r with | .ok (.ret v)=>Q v s' | .ok _=>False | .error e=>E e s') fv vs [] S hf hv .nil K)
theorem eW {scope:Scope} {f:Addr} {name qual:Str} {params:Arguments} {body:List Stmt} {dV kV doc pm cdv ct oc:Value} {od an:Option Addr} {osl:Array (Option Value)} {args:List AV} {kw:List (Str×AV)} {loc₀:Loc} {R:AV→AH→Prop}
  (ho:c.K.lookup f=some ⟨oc,od,.func (fnOf name qual params body scope dV kV doc pm an cdv ct),osl⟩) (hcd:codeIn c.K cdv qual=true)
  (hb:lM c (fnOf name qual params body scope dV kV doc pm an cdv ct) scope args kw loc₀)
  (hs:(scope.isCoroutine||scope.isGenerator||scope.kind != .function||!(scope.names.all fun x=>x.2 != .cell))=false)
  (h:ExS c scope U D body loc₀ σ fun fl _ σ'=>R (fM fl) σ') (hfl:c.fl=none∧c.cf=none:=by exact ⟨rfl,rfl⟩):CdV c sc (U+3) (D+1) (.glob f) args kw loc σ R:=fun A env L h₀ fm ρ X s Rr fv vs kvs S hf hv hk K=>by
 cases hf
 simp only [Bool.or_eq_false_iff,Bool.not_eq_false',bne_eq_false_iff_eq] at hs
 refine hid ?_;intro ZZ zz
 obtain ⟨⟨⟨h1,h2⟩,h3⟩,h4⟩:=hs
 refine zz ?_;clear zz
 exact vL ho hcd hb h h1 h2 h3 (fP h4) hfl fm S hv hk K
theorem sR {C fI:Addr} {args:List AV} {kw:List (Str×AV)} {R:AV→AH→Prop} (hm:makesIn c.K C=true) (hi:findIn c.K (.ref C) "__init__" = some (some (.ref fI))) (hf:typeIn c.K (.ref fI)=some (.type "function"))
  (h:CdV c sc U D (.glob fI) (.ref (σ.nx+1)::args) kw loc ((σ.new (.idict [])).new (.inst C σ.nx)) fun a σ'=>a=.none∧R (.ref (σ.nx+1)) σ'):CdV c sc (U+3) (D+1) (.glob C) args kw loc σ R:=fun A env L h₀ fm ρ X s Rr fv vs kvs S hfv hv hk K=>by
 cases hfv
 obtain ⟨m,news,F,hm',H,N,nd⟩:100:=S.ex
 refine make_K F N (fm.X.keeps F.keep) hm hi hf fun x dx h' F' N' l1 l2=>?_
 haveI fm':Fm c sc (A.under (.builtin "type.__call__" ⟨.ref C::vs,(kw.map (·.1)).zip kvs⟩)) env L h₀ U D:=fm.at rfl (by show A.units+1+U≤_;exact (aOs (Tb rfl))) (by show A.depth+1+D≤_;exact yB) rfl
 haveI g1:Agree ρ (ext ρ σ.nx dx) σ.nx:=aK _ _ _
 haveI g2:Agree (ext ρ σ.nx dx) (ext (ext ρ σ.nx dx) (σ.nx+1) x) (σ.nx+1):=aK _ _ _
 haveI S':St c.w.params h₀ L (ext (ext ρ σ.nx dx) (σ.nx+1) x) ((σ.new (.idict [])).new (.inst C σ.nx)) loc X { s with heap:=h' }:=by
  refine ⟨m,(x,instObj C dx)::(dx,emptyDict)::news,F',?_,?_,N',?_⟩
  ·exact (hm'.mono (Nat.le_succ _) g1).mono (Nat.le_succ _) g2
  ·refine .cons ⟨Nat.lt_succ_self _,(aS _ _ _).symm,?_⟩ (HR.mono (Nat.le_succ _) g2 (.cons ⟨Nat.lt_succ_self _,(aS _ _ _).symm,?_⟩ (HR.mono (Nat.le_succ _) g1 H)))
   ·haveI:=OR.inst (P:=c.w.params) (ρ:=ext (ext ρ σ.nx dx) (σ.nx+1) x) (n:=σ.nx+1+1) C σ.nx (by lia)
    rw [g2 σ.nx (Nat.lt_succ_self _),aS] at this
    exact this
   ·exact .idict [] [] 0 .nil
  ·show (x::dx::(news++X).map (·.1)).Nodup
   refine List.nodup_cons.mpr ⟨fun q=>?_,List.nodup_cons.mpr ⟨fun q=>?_,nd⟩⟩
   ·rcases Tf q with e | q
    ·exact Nat.lt_irrefl _ (e▸l2)
    ·refine hid ?_;intro ZZ zz
     obtain ⟨p,hp,e⟩:1:=List.mem_map.mp q
     refine zz ?_;clear zz
     exact Nat.lt_irrefl _ (Nat.lt_trans (e▸l1 p hp) l2)
   ·refine hid ?_;intro ZZ zz
    obtain ⟨p,hp,e⟩:1:=List.mem_map.mp q
    refine zz ?_;clear zz
    exact Nat.lt_irrefl _ (e▸l1 p hp)
 haveI G:Agree ρ (ext (ext ρ σ.nx dx) (σ.nx+1) x) σ.nx:=g1.trans (Nat.le_succ _) g2
 haveI vx:VR (ext (ext ρ σ.nx dx) (σ.nx+1) x) (σ.nx+1+1) (.ref (σ.nx+1)) (.ref x):=bA
 refine h _ env L h₀ fm' _ X _ _ _ (.ref x::vs) kvs S' (.glob _) (.cons vx (All2.mono (fun _ _ y=>y.mono (by show σ.nx≤σ.nx+1+1;lia) G) hv)) (All2.mono (fun _ _ y=>y.mono (by show σ.nx≤σ.nx+1+1;lia) G) hk)
  fun ρ₁ σ₁ a v s₁ ⟨ea,ha⟩ va n₁ g₁ S₁ r₁=>?_
 subst ea
 cases va
 refine And.intro rfl ?_
 exact K ρ₁ σ₁ _ _ s₁ ha (vx.mono n₁ g₁) (Ta (by show σ.nx≤σ.nx+1+1;lia) n₁) (G.trans (by show σ.nx≤σ.nx+1+1;lia) g₁) S₁ ⟨r₁.os,r₁.gens,r₁.dr⟩
theorem sS {pos:Pos} {R:AV→AH→Prop} (h:R (.ref σ.nx) (σ.new (.ndict []))):EvE c sc U D (.Dict [] [] pos) loc σ R:=fun A env L h₀ fm ρ X s Q E S K =>
 wpAny_Dict_empty (K _ _ _ _ _ h bA (Nat.le_succ _) (aK _ _ _) (S.allocN (.ndict [] [] 0 .nil) rfl s.toks) ⟨rfl,.refl _,rfl⟩)
theorem yP {pos:Pos} {R:AV→AH→Prop} (h:R (.ref σ.nx) (σ.new (.idict []))):EvE c sc U D (.Dict [] [] pos) loc σ R:=fun A env L h₀ fm ρ X s Q E S K =>
 wpAny_Dict_empty (K _ _ _ _ _ h bA (Nat.le_succ _) (aK _ _ _) (S.allocN (.idict [] [] 0 .nil) rfl s.toks) ⟨rfl,.refl _,rfl⟩)
theorem aFw {R:AV→AH→Prop} (h:R (.ref σ.nx) (σ.new .eset)):ClV c sc U D (.ty "set") [] loc σ R:=fun A env L h₀ fm ρ X s Q E fv vs S hf hv K=>by
 cases hf;cases hv
 exact call_set_0 fun led=>K _ _ _ _ _ h bA (Nat.le_succ _) (aK _ _ _) (S.allocN (.eset led) rfl s.toks) ⟨rfl,.refl _,rfl⟩
inductive Vr1 (ρ:Nat→Addr) (n:Nat) (a:AV):List Value→Prop
 | mk (v:Value) (h:VR ρ n a v):Vr1 ρ n a [v]
inductive Vr2 (ρ:Nat→Addr) (n:Nat) (a b:AV):List Value→Prop
 | mk (v w:Value) (h:VR ρ n a v) (h2:VR ρ n b w):Vr2 ρ n a b [v,w]
inductive Vr3 (ρ:Nat→Addr) (n:Nat) (a b d:AV):List Value→Prop
 | mk (v w u:Value) (h:VR ρ n a v) (h2:VR ρ n b w) (h3:VR ρ n d u):Vr3 ρ n a b d [v,w,u]
theorem hY {ρ:Nat→Addr} {n:Nat} {a:AV} {vs:List Value} (h:VRs ρ n [a] vs):Vr1 ρ n a vs:=by
 cases h with | cons h t=>cases t;exact ⟨_,h⟩
theorem fE {ρ:Nat→Addr} {n:Nat} {a b:AV} {vs:List Value} (h:VRs ρ n [a,b] vs):Vr2 ρ n a b vs:=by
 cases h with | cons h t=>obtain ⟨_,h'⟩:=hY t;exact ⟨_,_,h,h'⟩
theorem vR {ρ:Nat→Addr} {n:Nat} {a b d:AV} {vs:List Value} (h:VRs ρ n [a,b,d] vs):Vr3 ρ n a b d vs:=by
 cases h with | cons h t=>obtain ⟨_,_,h',h''⟩:=fE t;exact ⟨_,_,_,h,h',h''⟩
theorem tS {k:Nat} {kvs:List (Str×AV)} {x:Str} {d:AV} {R:AV→AH→Prop} (e:σ.get k=some (.idict kvs)) (h:R ((kvs.lookup x).getD d) σ):ClV c sc U D (.bi "dict.get") [.ref k,.str x,d] loc σ R:=fun A env L h₀ fm ρ X s Q E fv vs S hf hv K=>by
 cases hf
 obtain ⟨v,w,u,h1,h2,h3⟩:=vR hv
 cases h1;cases h2
 obtain ⟨o,ho,_,hr⟩:100:=S.at e
 cases hr with
 | idict es n hr =>
 rename_i t hk
 haveI G:=aFu (prog:=c.prog) (w:=c.w) hr
 haveI hm:=S.notMod fm e
 refine call_meetsIn PySem.F.slot_dict_get ⟨_,ho,rfl⟩ PySem.F.entry_dict_get (PySem.F.args_dict_get_3 _ _ _) (meets_dict_get_default (strKind c.prog c.w) (ρ k) (strKind_is c.prog c.w x t) hm u) ⟨_,sQ G ho,?_⟩
 obtain ⟨g1,g2⟩:0:=vP (k:=x) G
 refine K.tok h ?_ S
 cases q:kvs.lookup x with
 | none=>rw [g2 q];exact h3
 | some b=>obtain ⟨u',hu,hv'⟩:1:=g1 b q;rw [hu];exact hv'
theorem pG {k:Nat} {kvs:List (Str×AV)} {x:Str} {d:AV} {R:AV→AH→Prop} (e:σ.get k=some (.idict kvs)) (hz:kvs.length≤1000) (h:match kvs.lookup x with | some a=>R a σ | none=>R d (σ.set k (.idict (put x d kvs)))) :
  ClV c sc U D (.bi "dict.setdefault") [.ref k,.str x,d] loc σ R:=fun A env L h₀ fm ρ X s Q E fv vs S hf hv K=>by
 cases hf
 obtain ⟨v,w,u,h1,h2,h3⟩:=vR hv
 cases h1;cases h2
 obtain ⟨o,ho,_,hr⟩:100:=S.at e
 cases hr with
 | idict es n hr =>
 rename_i t hk
 haveI G:=aFu (prog:=c.prog) (w:=c.w) hr
 haveI hm:=S.notMod fm e
 refine wpAny_call_entry PySem.F.slot_dict_setdefault ⟨_,ho,rfl⟩ PySem.F.entry_dict_setdefault ?_ (PySem.F.args_dict_setdefault_3 _ _ _)
 unfold Builtin.«dict.setdefault»
 refine wpAny_bind ?_
 unfold Builtin.Dict.keyAndDefault
 refine wpAny_bind (wpAny_notOrdered_dict ⟨_,ho,rfl⟩ ?_)
 show wpAny _ _ (pure (ρ k,Value.str x t,some u)) _ _ s
 refine wpAny_pure ?_
 show wpAny _ _ (if (ρ k==sysModules)=true then _ else (dictSetDefault (ρ k) (.str x t) u >>= _)) _ _ s
 rw [if_neg (by rw [hm];exact Bool.false_ne_true)]
 refine wpAny_bind (mT (strKind_is c.prog c.w x t) ho G h3 (by rw [← G.length];unfold sizeLine;exact (Ta hz (Tb rfl))) (fun b u' q hb=>wpAny_pure ⟨_,rfl,?_⟩) fun q h' es' e' hs ho' G'=>wpAny_pure ⟨_,rfl,?_⟩)
 ·rw [q] at h
  exact K.tok h hb S
 ·rw [q] at h
  exact K ρ _ _ _ _ h h3 (Te _) (Agree.refl _ _) (S.setB e hs ho' (.idict _ _ _ (aPb G')) _) ⟨rfl,.refl _,rfl⟩
theorem lP {j k:Nat} {kvs:List (Int×AV)} {i:Int} {d:AV} {R:AV→AH→Prop} (e:σ.get j=some (.flds "builtin_function_or_method" [.bi "dict.get", .ref k])) (e':σ.get k=some (.ndict kvs)) (h:R ((kvs.lookup i).getD d) σ):ClV c sc U D (.ref j) [.int i,d] loc σ R:=fun A env L h₀ fm ρ X s Q E fv vs S hf hv K=>by
 cases hf
 refine hid ?_;intro ZZ zz
 obtain ⟨v,u,h1,h3⟩:=fE hv
 refine zz ?_;clear zz
 cases h1
 obtain ⟨o,ho,_,hr⟩:100:=S.at e
 obtain ⟨o',ho',_,hr'⟩:100:=S.at e'
 cases hr with
 | flds ws hw =>
 refine hid ?_;intro ZZ zz
 obtain ⟨w1,w2,hw1,hw2⟩:=fE hw
 refine zz ?_;clear zz
 cases hw1;cases hw2
 cases hr' with
 | ndict es n hr =>
 haveI G:=aFv (prog:=c.prog) (w:=c.w) hr
 haveI hm:=S.notMod fm e'
 refine lJ ho (kO ho') (plainId_quiet PySem.F.slot_dict_get.plain _) PySem.F.entry_dict_get ?_
 rw [Around.under_plainId PySem.F.slot_dict_get.plain]
 have hkey:∀ t,(intKind c.prog c.w).is i (.int i t)=true:=fun t=>by simp [intKind,Value.isInt]
 obtain ⟨g1,g2⟩:0:=vP (k:=i) G
 show wpAny _ _ (dictGet (ρ k) _ >>= _) _ _ s
 refine wpAny_bind (wpAny_dictGet_of (hkey _) (sQ G ho') ?_)
 cases q:kvs.lookup i with
 | none =>
  rw [q] at h
  rw [g2 q]
  show wpAny _ _ (Builtin.Dict.missed (ρ k) _ >>= _) _ _ _
  exact wpAny_bind (wpAny_missed_other hm (wpAny_pure ⟨_,rfl,K.tok h h3 S⟩))
 | some b =>
  rw [q] at h
  obtain ⟨u',hu,hv'⟩:1:=g1 b q
  rw [hu]
  exact wpAny_pure ⟨_,rfl,K.tok h hv' S⟩
theorem tT {j k:Nat} {x:Str} {R:AV→AH→Prop} (e:σ.get j=some (.flds "builtin_function_or_method" [.bi "set.__contains__", .ref k])) (e':σ.get k=some .eset) (h:R (.bool false) σ):ClV c sc U D (.ref j) [.str x] loc σ R:=fun A env L h₀ fm ρ X s Q E fv vs S hf hv K=>by
 cases hf
 obtain ⟨v,h1⟩:=hY hv
 cases h1
 rename_i t
 obtain ⟨o,ho,_,hr⟩:100:=S.at e
 obtain ⟨o',ho',_,hr'⟩:100:=S.at e'
 cases hr with
 | flds ws hw =>
 refine hid ?_;intro ZZ zz
 obtain ⟨w1,w2,hw1,hw2⟩:=fE hw
 refine zz ?_;clear zz
 cases hw1;cases hw2
 cases hr' with
 | eset led =>
 refine lJ ho (cI ho') (plainId_quiet PySem.F.slot_set_contains.plain _) entry_set_contains ?_
 haveI hS:=(PyProof.Rows.setObjOf_fresh (knd:=strKind c.prog c.w) led).setOf ho' (by decide)
 unfold Builtin.«frozenset.__contains__» Builtin.Frozenset.oneOther
 simp only [List.isEmpty_nil,bind_assoc]
 unfold Builtin.Frozenset.addrOf Builtin.Frozenset.withSetAsKey setContains
 refine wpAny_bind (wpAny_pure ?_)
 try dsimp only
 refine wpAny_bind (wpAny_pure ?_)
 try dsimp only
 refine wpAny_bind (wpAny_tryCatch ?_)
 refine wpAny_holding ?_
 refine wpAny_bind ((strKind c.prog c.w).pyHash (strKind_is c.prog c.w x t) ?_)
 refine wpAny_bind (wpAny_setFind_of (s:={ s with toks:=s.toks+1 }) (strKind_is c.prog c.w x t) rfl hS fun r hr=>?_)
 refine wpAny_pure ?_
 show wpAny _ _ (ret (Value.bool r.isSome)) _ _ _
 rw [hr]
 exact wpAny_pure ⟨_,rfl,K.tok h (.bool _) S⟩
end
section
variable {P:Params} {h₀:Heap} {L:Addr} {ρ:Nat→Addr} {σ:AH} {loc:Loc} {X xs xs':List (Addr×Obj)} {s:Shared} {h':Heap}
theorem St.step (S:St P h₀ L ρ σ loc (xs++X) s) (hk:∀ b o,b∉xs.map (·.1)→s.heap.get? b=some o→h'.get? b=some o) (hx:∀ p∈xs',h'.get? p.1=some p.2) (hn:xs'.map (·.1)=xs.map (·.1)) (t:Tok) :
  St P h₀ L ρ σ loc (xs'++X) { s with heap:=h',toks:=t }:=by
 obtain ⟨m,news,F,hm,H,N,nd⟩:100:=S.ex
 haveI nd':((xs++X).map (·.1)).Nodup:=by rw [List.map_append] at nd;exact (List.nodup_append.mp nd).2.1
 have inx:∀ p∈xs,p∈news++(xs++X):=fun p hp=>Ti _ (Th _ hp)
 haveI nL:L∉xs.map (·.1):=fun q=>by obtain ⟨p,hp,e⟩:1:=List.mem_map.mp q;exact (N p (inx p hp)).2.1 e
 have nn:∀ p∈news,p.1∉xs.map (·.1):=fun p hp q=>by
  rw [List.map_append] at nd
  exact (List.nodup_append.mp nd).2.2 p.1 (List.mem_map.mpr ⟨p,hp,rfl⟩) p.1 (by rw [List.map_append];exact Th _ q) rfl
 have nX:∀ p∈X,p.1∉xs.map (·.1):=fun p hp q=>by
  rw [List.map_append] at nd'
  exact (List.nodup_append.mp nd').2.2 p.1 q p.1 (List.mem_map.mpr ⟨p,hp,rfl⟩) rfl
 refine ⟨m,news,?_,hm,H,fun p hp=>?_,?_⟩
 ·refine hid ?_;intro ZZ zz
  obtain ⟨oL,es,ep,hL,r⟩:=F.ns
  refine zz ?_;clear zz
  refine ⟨⟨oL,es,ep,hk L oL nL hL,r⟩,fun b ob e=>hk b ob (fun q=>?_) (F.keep b ob e),F.above⟩
  obtain ⟨p,hp,e'⟩:1:=List.mem_map.mp q
  haveI:=(N p (inx p hp)).2.2
  rw [e',e] at this;cases this
 ·rcases List.mem_append.mp hp with q | q
  ·exact ⟨hk _ _ (nn p q) (N p (Th _ q)).1,(N p (Th _ q)).2⟩
  ·rcases List.mem_append.mp q with q | q
   ·refine ⟨hx p q,?_⟩
    haveI:p.1∈xs.map (·.1):=hn▸List.mem_map.mpr ⟨p,q,rfl⟩
    obtain ⟨p',hp',e⟩:1:=List.mem_map.mp this
    rw [← e];exact (N p' (inx p' hp')).2
   ·haveI:=N p (Ti _ (Ti _ q))
    exact ⟨hk _ _ (nX p q) this.1,this.2⟩
 ·rw [List.map_append,List.map_append,hn,← List.map_append,← List.map_append];exact nd
theorem St.drop (S:St P h₀ L ρ σ loc (xs++X) s):St P h₀ L ρ σ loc X s:=by
 obtain ⟨m,news,F,hm,H,N,nd⟩:100:=S.ex
 refine ⟨m,news,F,hm,H,fun p hp=>N p ?_,?_⟩
 ·rcases List.mem_append.mp hp with q | q
  ·exact Th _ q
  ·exact Ti _ (Ti _ q)
 ·rw [List.map_append,List.map_append] at nd
  rw [List.map_append]
  obtain ⟨n1,n2,n3⟩:0:=List.nodup_append.mp nd
  exact List.nodup_append.mpr ⟨n1,(List.nodup_append.mp n2).2.1,fun a ha b hb=>n3 a ha b (Ti _ hb)⟩
theorem St.stop (S:St P h₀ L ρ σ loc (xs++X) s) (hk:∀ b o,b∉xs.map (·.1)→s.heap.get? b=some o→h'.get? b=some o) (t:Tok):St P h₀ L ρ σ loc X { s with heap:=h',toks:=t }:=by
 refine hid ?_;intro ZZ zz
 obtain ⟨m,news,F,hm,H,N,nd⟩:100:=S.ex
 haveI nd':((xs++X).map (·.1)).Nodup:=by rw [List.map_append] at nd;exact (List.nodup_append.mp nd).2.1
 have inx:∀ p∈xs,p∈news++(xs++X):=fun p hp=>Ti _ (Th _ hp)
 haveI nL:L∉xs.map (·.1):=fun q=>by obtain ⟨p,hp,e⟩:1:=List.mem_map.mp q;exact (N p (inx p hp)).2.1 e
 have nn:∀ p∈news++X,p.1∉xs.map (·.1):=fun p hp q=>by
  rcases List.mem_append.mp hp with hp | hp
  ·rw [List.map_append] at nd
   exact (List.nodup_append.mp nd).2.2 p.1 (List.mem_map.mpr ⟨p,hp,rfl⟩) p.1 (by rw [List.map_append];exact Th _ q) rfl
  ·rw [List.map_append] at nd'
   exact (List.nodup_append.mp nd').2.2 p.1 q p.1 (List.mem_map.mpr ⟨p,hp,rfl⟩) rfl
 haveI S':=S.drop
 obtain ⟨m₁,news₁,F₁,hm₁,H₁,N₁,nd₁⟩:100:=S'.ex
 refine zz ?_;clear zz
 refine ⟨m,news,?_,hm,H,fun p hp=>?_,?_⟩
 ·refine hid ?_;intro ZZ zz
  obtain ⟨oL,es,ep,hL,r⟩:=F.ns
  refine zz ?_;clear zz
  refine ⟨⟨oL,es,ep,hk L oL nL hL,r⟩,fun b ob e=>hk b ob (fun q=>?_) (F.keep b ob e),F.above⟩
  obtain ⟨p,hp,e'⟩:1:=List.mem_map.mp q
  haveI:=(N p (inx p hp)).2.2
  rw [e',e] at this;cases this
 ·haveI hp':p∈news++(xs++X):=by
   rcases List.mem_append.mp hp with q | q
   ·exact Th _ q
   ·exact Ti _ (Ti _ q)
  exact ⟨hk _ _ (nn p hp) (N p hp').1,(N p hp').2⟩
 ·rw [List.map_append,List.map_append] at nd
  rw [List.map_append]
  obtain ⟨n1,n2,n3⟩:0:=List.nodup_append.mp nd
  exact List.nodup_append.mpr ⟨n1,(List.nodup_append.mp n2).2.1,fun a ha b hb=>n3 a ha b (Ti _ hb)⟩
theorem St.adopt {l:Addr} {a:AO} {o':Obj} {X₀:List (Addr×Obj)} {t:Tok} (S:St P h₀ L ρ σ loc X { s with heap:=h',toks:=t }) (S₀:St P h₀ L ρ σ loc X₀ s) (hX:X₀.map (·.1)=X.map (·.1)) (hl:s.heap.objs.size≤l) (ho:h'.get? l=some o') (hr:OR P ρ σ.nx a o'):St P h₀ L (ext ρ σ.nx l) (σ.new a) loc X { s with heap:=h',toks:=t }:=by
 obtain ⟨m₀,news₀,F₀,hm₀,H₀,N₀,nd₀⟩:100:=S₀.ex
 obtain ⟨m,news,F,hm,H,N,nd⟩:100:=S.ex
 haveI hLl:l≠L:=fun e=>by
  obtain ⟨oL,es,ep,hL,r⟩:=F₀.ns
  exact Nat.lt_irrefl _ (Tc (Heap.lt_size hL) (e▸hl))
 haveI h0l:h₀.get? l=none:=by
  cases q:h₀.get? l with
  | none=>rfl
  | some o=>exact absurd (Tc (Heap.lt_size (F₀.keep l o q)) hl) (Nat.lt_irrefl _)
 haveI g:=aK ρ σ.nx l
 have names:∀ {σo:List (Nat×AO)} {n₁ n₂:List (Addr×Obj)},All2 (fun (p:Nat×AO) (q:Addr×Obj)=>p.1 < σ.nx∧q.1=ρ p.1∧OR P ρ σ.nx p.2 q.2) σo n₁→All2 (fun (p:Nat×AO) (q:Addr×Obj)=>p.1 < σ.nx∧q.1=ρ p.1∧OR P ρ σ.nx p.2 q.2) σo n₂→n₁.map (·.1)=n₂.map (·.1):=by
  intro σo n₁ n₂ x y
  induction x generalizing n₂ with
  | nil=>cases y;rfl
  | cons h _ ih=>cases y with | cons h' t=>rw [List.map_cons,List.map_cons,h.2.1,h'.2.1,ih t]
 have hne:∀ p∈news++X,p.1≠l:=fun p hp e=>by
  haveI hmem:p.1∈(news₀++X₀).map (·.1):=by
   rw [List.map_append,hX,names H₀ H,← List.map_append]
   exact List.mem_map.mpr ⟨p,hp,rfl⟩
  obtain ⟨p',hp',e'⟩:1:=List.mem_map.mp hmem
  exact Nat.lt_irrefl _ (Tc (Heap.lt_size (N₀ p' hp').1) ((e'.trans e)▸hl))
 refine ⟨m,(l,o')::news,F,hm.mono (Nat.le_succ _) g,.cons ⟨Nat.lt_succ_self _,(aS _ _ _).symm,hr.mono (Nat.le_succ _) g⟩ (HR.mono (Nat.le_succ _) g H),?_,?_⟩
 ·intro p hp
  rcases Tf hp with rfl | hp
  ·exact ⟨ho,hLl,h0l⟩
  ·exact N p hp
 ·refine List.nodup_cons.mpr ⟨fun q=>?_,nd⟩
  obtain ⟨p,hp,e⟩:1:=List.mem_map.mp q
  exact hne p hp e
end
structure ItD where
 n:Nat
 item:Nat→AH→AV→AH→Prop
 ok:AH→Prop
def aPd (c:Cx) (d:ItD) (Pv:Nat→List (Addr×Obj)→Prop) (h₀:Heap) (L:Addr) (ρ:Nat→Addr) (X:List (Addr×Obj)) (σ:AH) (loc:Loc) (s:Shared) (i:Nat) (v:Value) (s':Shared):Prop :=
 ∃ ρ' σ' a xs',d.item i σ a σ'∧VR ρ' σ'.nx a v∧σ.nx≤σ'.nx∧Agree ρ ρ' σ.nx∧Pv (i+1) xs'∧St c.w.params h₀ L ρ' σ' loc (xs'++X) s'∧Rest s s'
structure ItK (c:Cx) (target:Expr) (I:Addr) (d:ItD) (Pv:Nat→List (Addr×Obj)→Prop) (ρ₁:Nat→Addr) (n₁:Nat):Prop where
 next:∀ (A:Around) (h₀:Heap) (L:Addr) (ρ:Nat→Addr) (X xs:List (Addr×Obj)) (σ:AH) (loc:Loc) (s:Shared) (E:Value→Shared→Prop) (i:Nat),Agree ρ₁ ρ n₁→i < d.n→Pv i xs→d.ok σ→St c.w.params h₀ L ρ σ loc (xs++X) s →
  wpAny (model c.prog c.w) A (pyNext (.ref I)) (fun r s'=>∃ v,r=some v∧∀ E',wpAny (model c.prog c.w) A (letOwnedTupleGo target (.ref I) v) (fun _ s''=>aPd c d Pv h₀ L ρ X σ loc s i v s'') E' s') E s
 stop:∀ (A:Around) (h₀:Heap) (L:Addr) (ρ:Nat→Addr) (X xs:List (Addr×Obj)) (σ:AH) (loc:Loc) (s:Shared) (Q:Option Value→Shared→Prop) (E:Value→Shared→Prop),Agree ρ₁ ρ n₁→A.handled=none→Pv d.n xs→d.ok σ→St c.w.params h₀ L ρ σ loc (xs++X) s →
  (∀ s',St c.w.params h₀ L ρ σ loc X s'→Rest s s'→Q none s')→wpAny (model c.prog c.w) A (pyNext (.ref I)) Q E s
 self:∀ (A:Around) (h₀:Heap) (L:Addr) (ρ:Nat→Addr) (X xs:List (Addr×Obj)) (σ:AH) (loc:Loc) (s:Shared) (Q:Value→Shared→Prop) (E:Value→Shared→Prop) (i:Nat),Pv i xs→St c.w.params h₀ L ρ σ loc (xs++X) s→Q (.ref I) s→wpAny (model c.prog c.w) A (pyIter (.ref I)) Q E s
def ItE (c:Cx) (sc:Scope) (U D:Nat) (iter target:Expr) (loc:Loc) (σ:AH) (R:ItD→AH→Prop):Prop :=
 ∀ A env L h₀,Fm c sc A env L h₀ U D→∀ ρ X s Q E,St c.w.params h₀ L ρ σ loc X s →
  (∀ ρ' σ' d I Pv xs s',R d σ'→ItK c target I d Pv ρ' σ'.nx→Pv 0 xs→σ.nx≤σ'.nx→Agree ρ ρ' σ.nx→St c.w.params h₀ L ρ' σ' loc (xs++X) s'→Rest s s'→Q (.ref I) s') →
  wpAny (model c.prog c.w) A (eval iter env) (fun xv s₁=>wpAny (model c.prog c.w) A (pyIter xv) Q E s₁) E s
section
variable {c:Cx} {sc:Scope} {U D:Nat} {loc:Loc} {σ:AH}
theorem gE {target iter:Expr} {body orelse:List Stmt} {pos:Pos} {R:AF→Loc→AH→Prop} (hs:∀ env x,foldedSetIterable iter env x=pure x)
  (h:ItE c sc U D iter target loc σ fun d σ₁=>∃ I:Nat→Loc→AH→Prop,I 0 loc σ₁∧(∀ i l s,I i l s→d.ok s) ∧
   (∀ i a l s s',i < d.n→I i l s→d.item i s a s'→As1 c sc U D target a l s' fun l₁ s₁=>ExS c sc U D body l₁ s₁ (goesTo R (I (i+1)))) ∧
   (∀ l s,I d.n l s→ExS c sc U D orelse l s R)):Ex1 c sc U D (.For target iter body orelse pos) loc σ R:=fun A env L h₀ fm ρ X s Q E S K=>by
 refine wpAny_For (h A env L h₀ fm ρ X s _ _ S fun ρ₁ σ₁ d it Pv xs₁ s₁ hy1 W hP n₁ g₁ S₁ r₁=>?_) (hs env)
 obtain ⟨I,hI,hok,hst,hen⟩:1:=hy1
 refine codeAny_forLoop_any (fun n s'=>∃ i ρ' σ' loc' xs',I i loc' σ'∧i≤d.n∧n=d.n+1 - i∧Pv i xs'∧σ₁.nx≤σ'.nx∧Agree ρ₁ ρ' σ₁.nx∧St c.w.params h₀ L ρ' σ' loc' (xs'++X) s'∧Rest s₁ s')
  (fun n s' hJ=>?_) (d.n+1) ⟨0,ρ₁,σ₁,_,xs₁,hI,Nat.zero_le _,rfl,hP,Te _,Agree.refl _ _,S₁,Rest.refl _⟩
 obtain ⟨i,ρ',σ',loc',xs',hI,hi,eI,hP',n',g',S',r'⟩:5:=hJ
 by_cases hlt:i < d.n
 ·refine wpAny_mono (W.next A h₀ L ρ' X xs' σ' loc' s' _ i g' hlt hP' (hok i _ _ hI) S') (fun r s'' z=>?_) (fun _ _ z=>z)
  obtain ⟨v,rfl,z⟩:1:=z
  refine wpAny_mono (z _) (fun _ s₂ z=>?_) fun _ _ z=>z
  refine hid ?_;intro ZZ zz
  obtain ⟨ρ₂,σ₂,a,xs₂,hit,hv,n₂,g₂,hP₂,S₂,r₂⟩:=z
  refine zz ?_;clear zz
  refine hst i a _ _ _ hlt hI hit A env L h₀ fm ρ₂ (xs₂++X) _ _ _ v S₂ hv fun ρ₄ σ₄ loc₄ s₄ h₄ n₄ g₄ S₄ r₄=>?_
  refine h₄ A env L h₀ fm ρ₄ _ _ _ _ S₄ fun ρ₅ σ₅ loc₅ af f s₅ hf fr n₅ g₅ S₅ r₅=>?_
  haveI N:=Ta n' (Ta n₂ (Ta n₄ n₅))
  haveI G:Agree ρ₁ ρ₅ σ₁.nx:=g'.trans n' (g₂.trans n₂ (g₄.trans n₄ g₅))
  haveI RR:Rest s₁ s₅:=r'.trans (r₂.trans (r₄.trans r₅))
  cases fr with
  | next=>exact ⟨d.n+1 - (i+1),by rw [eI];exact (aCc hlt),i+1,ρ₅,σ₅,loc₅,xs₂,hf,hlt,rfl,hP₂,N,G,S₅,RR⟩
  | cont=>exact ⟨d.n+1 - (i+1),by rw [eI];exact (aCc hlt),i+1,ρ₅,σ₅,loc₅,xs₂,hf,hlt,rfl,hP₂,N,G,S₅,RR⟩
  | brk=>exact (K.after n₁ g₁ r₁) ρ₅ σ₅ loc₅ _ _ s₅ hf .next N G S₅.drop RR
  | ret a v hv=>exact (K.after n₁ g₁ r₁) ρ₅ σ₅ loc₅ _ _ s₅ hf (.ret _ _ hv) N G S₅.drop RR
 ·haveI hie:i=d.n:=by exact (aKg hi hlt)
  subst hie
  refine W.stop A h₀ L ρ' X xs' σ' loc' s' _ _ g' fm.hh hP' (hok _ _ _ hI) S' fun s₃ S₃ r₃=>?_
  refine hen _ _ hI A env L h₀ fm ρ' X _ _ _ S₃ fun ρ₅ σ₅ loc₅ af f s₅ hf fr n₅ g₅ S₅ r₅=>?_
  exact (K.after n₁ g₁ r₁) ρ₅ σ₅ loc₅ af _ s₅ hf fr (Ta n' n₅) (g'.trans n' g₅) S₅ (r'.trans (r₃.trans r₅))
end
section
variable {M:Model} {A:Around} {E:Value→Shared→Prop} {s:Shared} {target:Expr} {I:Addr} {v:Value} {Q:Unit→Shared→Prop} {o:Obj}
theorem sU {T:String} (ho:s.heap.get? I=some o) (hc:o.cls=.type T) (hT:["enumerate", "zip", "dict_itemiterator", "dict_reverseitemiterator", "odict_iterator", "itertools.zip_longest", "itertools.pairwise"].contains T=false) (h:Q () s) :
  wpAny M A (letOwnedTupleGo target (.ref I) v) Q E s:=by
 cases target
 all_goals first | exact wpAny_pure h | (cases v <;> first | exact wpAny_pure h | (refine wpAny_bind (wpAny_load ho ?_);rw [hc];cases o.data <;> first | exact wpAny_pure h | (dsimp only;rw [hT,Bool.false_and,if_neg Bool.false_ne_true];exact wpAny_pure h)))
end
noncomputable def fQ (k:Nat) (xs:List AV):ItD:=⟨xs.length,fun i σ a σ'=>xs[i]? = some a∧σ'=σ,fun σ=>σ.get k=some (.list xs)⟩
noncomputable def sV (k:Nat) (xs:List AV):ItD:=⟨xs.length,fun i σ a σ'=>∃ x,xs[i]? = some x∧a=.ref σ.nx∧σ'=σ.new (.tup [.int i,x]),fun σ=>σ.get k=some (.list xs)⟩
noncomputable def pH (a:Int) (n:Nat):ItD:=⟨n,fun i σ v σ'=>v=.int (a+i)∧σ'=σ,fun _=>True⟩
section
variable {c:Cx} {sc:Scope} {U D:Nat} {loc:Loc} {σ:AH}
theorem gF {iter target:Expr} {R:ItD→AH→Prop} (h:EvE c sc U D iter loc σ fun a σ₁=>∃ k xs,a=.ref k∧σ₁.get k=some (.list xs)∧R (fQ k xs) σ₁):ItE c sc U D iter target loc σ R:=fun A env L h₀ fm ρ X s Q E S K=>by
 refine h A env L h₀ fm ρ X s _ E S fun ρ₁ σ₁ a v₁ s₁ hy1 va n₁ g₁ S₁ r₁=>?_
 obtain ⟨k,xs,ea,hL,hR⟩:2:=hy1
 subst ea
 cases va with
 | ref hk =>
 obtain ⟨vs,hl,hv⟩:100:=S₁.isListAt hL
 refine wpAny_pyIter_list hl ?_
 generalize hit:s₁.heap.objs.size=it
 haveI S₂:=S₁.pushX { cls:=.type "list_iterator", data:=.fields #[.ref (ρ₁ k),.int 0 0] }
 rw [hit] at S₂
 refine K ρ₁ σ₁ (fQ k xs) it (fun i ps=>∃ o,ps=[(it,o)]∧o.cls=.type "list_iterator" ∧ o.data=.fields #[.ref (ρ₁ k),.int i 0]) _ _ hR ⟨?_,?_,?_⟩ ⟨_,rfl,rfl,rfl⟩ n₁ g₁ S₂ ⟨r₁.os,r₁.gens,r₁.dr⟩
 ·intro A' h₀' L' ρ' X' ps σ' loc' s' E' i hA hi ⟨o,hps,oc,od⟩ hok S'
  subst hps
  haveI hok:σ'.get k=some (.list xs):=hok
  obtain ⟨vs',hl',hv'⟩:100:=S'.isListAt hok
  rw [hA k hk] at hl'
  haveI hio:s'.heap.get? it=some o:=by
   obtain ⟨m,news,F,hm,H,N,nd⟩:100:=S'.ex
   exact (N (it,o) (Ti _ (.head _))).1
  obtain ⟨x,hx⟩:∃ x,xs[i]? = some x:=⟨_,List.getElem?_eq_getElem hi⟩
  obtain ⟨v,hxv,hvr⟩:1:=hv'.at hx
  refine wpAny_pyNext_list_item ⟨o,hio,oc,od⟩ hl' (x:=v) (by simpa using hxv) fun h' hit₂ hs₂=>⟨v,rfl,fun E''=>?_⟩
  obtain ⟨o₂,ho₂,oc₂,od₂⟩:=id hit₂
  refine sU ho₂ oc₂ (by decide) ?_
  refine ⟨ρ',σ',x,[(it,o₂)],⟨hx,rfl⟩,hvr,Te _,Agree.refl _ _,⟨o₂,rfl,oc₂,od₂⟩,?_,⟨rfl,.refl _,rfl⟩⟩
  exact S'.step (xs':=[(it,o₂)]) (fun b ob hb e=>(hs₂.2 b (by simpa using hb)).trans e) (fun p hp=>by rcases Tg hp with rfl;exact ho₂) rfl s'.toks
 ·intro A' h₀' L' ρ' X' ps σ' loc' s' Q' E' hA hh ⟨o,hps,oc,od⟩ hok S' K'
  subst hps
  haveI hok:σ'.get k=some (.list xs):=hok
  obtain ⟨vs',hl',hv'⟩:100:=S'.isListAt hok
  rw [hA k hk] at hl'
  haveI hio:s'.heap.get? it=some o:=by
   obtain ⟨m,news,F,hm,H,N,nd⟩:100:=S'.ex
   exact (N (it,o) (Ti _ (.head _))).1
  haveI hlen:=hv'.length
  refine wpAny_pyNext_list_end hh ⟨o,hio,oc,od⟩ hl' (by simp [hlen,fQ]) fun h' hs₂=>?_
  exact K' _ (S'.stop (fun b ob hb e=>hs₂ b ob (by simpa using hb) e) s'.toks) ⟨rfl,.refl _,rfl⟩
 ·intro A' h₀' L' ρ' X' ps σ' loc' s' Q' E' i ⟨o,hps,oc,od⟩ S' hQ
  subst hps
  haveI hio:s'.heap.get? it=some o:=by
   obtain ⟨m,news,F,hm,H,N,nd⟩:100:=S'.ex
   exact (N (it,o) (Ti _ (.head _))).1
  exact wpAny_pyIter_listiter ⟨o,hio,oc,od⟩ hQ
theorem pI {iter target:Expr} {R:ItD→AH→Prop} (h:EvE c sc U D iter loc σ fun v σ₁=>∃ k a b,v=.ref k∧σ₁.get k=some (.flds "range" [.int a,.int b,.int 1])∧Builtin.Range.small a b 1=true∧R (pH a (b - a).toNat) σ₁):ItE c sc U D iter target loc σ R:=fun A env L h₀ fm ρ X s Q E S K=>by
 refine h A env L h₀ fm ρ X s _ E S fun ρ₁ σ₁ v v₁ s₁ hy1 va n₁ g₁ S₁ r₁=>?_
 obtain ⟨k,a,b,ea,hL,hsm,hR⟩:3:=hy1
 subst ea
 cases va with
 | ref hk =>
 obtain ⟨o,ho,_,hr⟩:100:=S₁.at hL
 cases hr with
 | flds ws hw =>
 obtain ⟨w1,w2,w3,hw1,hw2,hw3⟩:=vR hw
 cases hw1;cases hw2;cases hw3
 haveI hn:Builtin.Range.rangeSize a b 1=((b - a).toNat:Int):=by unfold Builtin.Range.rangeSize;split <;> split <;> lia
 refine wpAny_pyIter_range ho hsm ?_
 rw [hn]
 generalize hit:s₁.heap.objs.size=it
 haveI S₂:=S₁.pushX { cls:=.type "range_iterator", data:=.fields #[rawInt a,rawInt ((b - a).toNat:Int),rawInt 1] }
 rw [hit] at S₂
 refine K ρ₁ σ₁ (pH a (b - a).toNat) it (fun i ps=>ps=[(it,{ cls:=.type "range_iterator", data:=.fields #[rawInt (a+i),rawInt (((b - a).toNat:Int) - i),rawInt 1] })]) [(it,{ cls:=.type "range_iterator", data:=.fields #[rawInt a,rawInt ((b - a).toNat:Int),rawInt 1] })] _ hR ⟨?_,?_,?_⟩ (by simp) n₁ g₁ S₂ ⟨r₁.os,r₁.gens,r₁.dr⟩
 ·intro A' h₀' L' ρ' X' ps σ' loc' s' E' i hA hi hps hok S'
  subst hps
  haveI hi:i < (b - a).toNat:=hi
  haveI hio:IsRangeIter s'.heap it (a+i) (((b - a).toNat:Int) - i) 1:=by
   obtain ⟨m,news,F,hm,H,N,nd⟩:100:=S'.ex
   exact (N _ (Ti _ (.head _))).1
  refine wpAny_pyNext_range_item hio (by lia) fun h' hit₂ hs₂=>⟨_,rfl,fun E''=>?_⟩
  refine sU hit₂ rfl (by decide) ?_
  refine ⟨ρ',σ',.int (a+i),_,⟨rfl,rfl⟩,.int _ _,Te _,Agree.refl _ _,rfl,?_,⟨rfl,.refl _,rfl⟩⟩
  refine S'.step (xs':=[(it,{ cls:=.type "range_iterator", data:=.fields #[rawInt (a+((i+1:Nat):Int)),rawInt (((b - a).toNat:Int) - ((i+1:Nat):Int)),rawInt 1] })]) (fun b ob hb e=>(hs₂.2 b (by simpa using hb)).trans e) (fun p hp=>?_) rfl _
  rcases Tg hp with rfl
  haveI e1:a+(i:Int)+1=a+((i+1:Nat):Int):=by push_cast;lia
  haveI e2:((b - a).toNat:Int) - i - 1=((b - a).toNat:Int) - ((i+1:Nat):Int):=by push_cast;lia
  rw [← e1,← e2]
  exact hit₂
 ·intro A' h₀' L' ρ' X' ps σ' loc' s' Q' E' hA hh hps hok S' K'
  subst hps
  haveI hio:IsRangeIter s'.heap it (a+((b - a).toNat:Nat)) (((b - a).toNat:Int) - ((b - a).toNat:Nat)) 1:=by
   obtain ⟨m,news,F,hm,H,N,nd⟩:100:=S'.ex
   exact (N _ (Ti _ (.head _))).1
  refine wpAny_pyNext_range_end hh hio (by lia) fun h' hs₂=>?_
  exact K' _ (S'.stop (fun b ob hb e=>hs₂ b ob (by simpa using hb) e) s'.toks) ⟨rfl,.refl _,rfl⟩
 ·intro A' h₀' L' ρ' X' ps σ' loc' s' Q' E' i hps S' hQ
  subst hps
  haveI hio:IsRangeIter s'.heap it (a+i) (((b - a).toNat:Int) - i) 1:=by
   obtain ⟨m,news,F,hm,H,N,nd⟩:100:=S'.ex
   exact (N _ (Ti _ (.head _))).1
  exact wpAny_pyIter_rangeiter hio hQ
theorem yQ {a b:Int} {R:AV→AH→Prop} (h:R (.ref σ.nx) (σ.new (.flds "range" [.int a,.int b,.int 1]))):ClV c sc U D (.ty "range") [.int a,.int b] loc σ R:=fun A env L h₀ fm ρ X s Q E fv vs S hf hv K=>by
 cases hf
 obtain ⟨v,w,h1,h2⟩:=fE hv
 cases h1;cases h2
 exact call_range_2 (K _ _ _ _ _ h bA (Nat.le_succ _) (aK _ _ _) (S.allocN (.flds _ _ [.int a _,.int b _,.int 1 _] (.cons (.int _ _) (.cons (.int _ _) (.cons (.int _ _) .nil)))) rfl _) ⟨rfl,.refl _,rfl⟩)
theorem aKy {func e:Expr} {pos:Pos} {target:Expr} {R:ItD→AH→Prop} (hc:∀ env,eval (.Call func [e] [] pos) env=(do callWith pos (← eval func env) [] (backTo pos (starEach [e] env)) (backToKw pos (keywordEach [] env)))) (he:∀ env,starEach [e] env=(false,eval e env)::starEach [] env)
  (ht:∃ elts k p,target=.Tuple elts k p)
  (h:EvE c sc U D func loc σ fun f σ₁=>f=.ty "enumerate" ∧ EvE c sc U D e loc σ₁ fun a σ₂=>∃ k xs,a=.ref k∧σ₂.get k=some (.list xs)∧R (sV k xs) σ₂):ItE c sc U D (.Call func [e] [] pos) target loc σ R:=fun A env L h₀ fm ρ X s Q E S K=>by
 obtain ⟨elts,tk,tp,rfl⟩:3:=ht
 refine Call_ (h A env L h₀ fm ρ X s _ E S fun ρ₁ σ₁ f fv s₁ ⟨ef,hf⟩ vf n₁ g₁ S₁ r₁=>?_) (hc env)
 subst ef
 cases vf
 rw [he]
 refine callWith_of (P:=fun _=>True) rfl (fun _ _=>⟨.machine,.inr (.inl rfl),.now⟩) (evalArgs_plain ?_)
 suffices Z:wpAny (model c.prog c.w) A (spliced (backTo pos (starEach [e] env))) (fun vs s'=>True∧wpAny (model c.prog c.w) A (call (.type "enumerate") ([]++vs) []) (fun xv s₁=>wpAny (model c.prog c.w) A (pyIter xv) Q E s₁) E s') E s₁ by
  rw [he] at Z;exact Z
 refine args_cons (hf A env L h₀ fm ρ₁ X s₁ _ E S₁ fun ρ₂ σ₂ a av s₂ hy1 va n₂ g₂ S₂ r₂=>?_) (he env)
 obtain ⟨k,xs,ea,hL,hR⟩:2:=hy1
 subst ea
 refine args_nil ⟨trivial,?_⟩
 cases va with
 | ref hk =>
 obtain ⟨vs,hl,hv⟩:100:=S₂.isListAt hL
 refine call_enumerate_list hl fun h' hE hI hz hk'=>?_
 refine wpAny_pyIter_enum hE ?_
 haveI hei:s₂.heap.objs.size+1≠s₂.heap.objs.size:=Nat.succ_ne_self _
 obtain ⟨oi,hoi,oic,oid⟩:=hI
 haveI S₃:St c.w.params h₀ L ρ₂ σ₂ loc ([(s₂.heap.objs.size+1,{ cls:=.type "enumerate", dict:=none,data:=.fields #[.none,.bool false,.ref s₂.heap.objs.size,rawInt 0,.none,.none],slots:=#[] }),(s₂.heap.objs.size,oi)]++X) { s₂ with heap:=h' }:=by
  obtain ⟨m,news,F,hm,H,N,nd⟩:100:=S₂.ex
  have hlt:∀ p∈news++X,p.1 < s₂.heap.objs.size:=fun p hp=>Heap.lt_size (N p hp).1
  haveI hLs:L < s₂.heap.objs.size:=by obtain ⟨oL,es,ep,hL',r⟩:=F.ns;exact Heap.lt_size hL'
  have h0n:∀ b,s₂.heap.objs.size≤b→h₀.get? b=none:=fun b hb=>by
   cases q:h₀.get? b with
   | none=>rfl
   | some o=>exact absurd (Tc (Heap.lt_size (F.keep b o q)) hb) (Nat.lt_irrefl _)
  refine ⟨m,news,F.keeps hk',hm,H,fun p hp=>?_,?_⟩
  ·haveI:p∈[(s₂.heap.objs.size+1,({ cls:=.type "enumerate", dict:=none,data:=.fields #[.none,.bool false,.ref s₂.heap.objs.size,rawInt 0,.none,.none],slots:=#[] }:Obj)),(s₂.heap.objs.size,oi)]∨p∈news++X:=by
    rcases List.mem_append.mp hp with q | q
    ·exact .inr (Th _ q)
    ·rcases List.mem_append.mp q with q | q
     ·exact .inl q
     ·exact .inr (Ti _ q)
   rcases this with q | q
   ·rcases Tf q with rfl | q
    ·exact ⟨hE,Nat.ne_of_gt (Nat.lt_succ_of_lt hLs),h0n _ (Nat.le_succ _)⟩
    ·rcases Tg q with rfl
     exact ⟨hoi,Nat.ne_of_gt hLs,h0n _ (Te _)⟩
   ·exact ⟨hk' _ _ (N p q).1,(N p q).2⟩
  ·rw [List.map_append] at nd ⊢
   obtain ⟨d1,d2,d3⟩:0:=List.nodup_append.mp nd
   refine List.nodup_append.mpr ⟨d1,?_,fun a ha b hb=>?_⟩
   ·show (List.cons (s₂.heap.objs.size+1) (List.cons s₂.heap.objs.size (X.map (fun p=>p.1)))).Nodup
    refine List.nodup_cons.mpr ⟨fun q=>?_,List.nodup_cons.mpr ⟨fun q=>?_,d2⟩⟩
    ·rcases Tf q with e | q
     ·exact hei e
     ·obtain ⟨p,hp,e⟩:1:=List.mem_map.mp q
      exact Nat.lt_irrefl _ (Nat.lt_trans (e▸hlt p (Ti _ hp)) (Nat.lt_succ_self _))
    ·obtain ⟨p,hp,e⟩:1:=List.mem_map.mp q
     exact Nat.lt_irrefl _ (e▸hlt p (Ti _ hp))
   ·obtain ⟨p,hp,ea⟩:1:=List.mem_map.mp ha
    haveI hpl:=hlt p (Th _ hp)
    rcases Tf hb with rfl | hb
    ·exact fun q=>Nat.lt_irrefl _ (Nat.lt_trans ((ea.trans q)▸hpl) (Nat.lt_succ_self _))
    ·rcases Tf hb with rfl | hb
     ·exact fun q=>Nat.lt_irrefl _ ((ea.trans q)▸hpl)
     ·exact d3 a ha b hb
 generalize s₂.heap.objs.size+1=ea at hei S₃ ⊢
 generalize s₂.heap.objs.size=ia at hei S₃
 refine K ρ₂ σ₂ (sV k xs) ea (fun i ps=>∃ old o,ps=[(ea,{ cls:=.type "enumerate", dict:=none,data:=.fields #[.none,.bool false,.ref ia,rawInt i,.none,old],slots:=#[] }),(ia,o)]∧o.cls=.type "list_iterator" ∧ o.data=.fields #[.ref (ρ₂ k),.int i 0]) _ _ hR ⟨?_,?_,?_⟩ ⟨_,_,rfl,oic,oid⟩ (Ta n₁ n₂) (g₁.trans n₁ g₂) S₃ ((r₁.trans r₂).trans ⟨rfl,.refl _,rfl⟩)
 ·intro A' h₀' L' ρ' X' ps σ' loc' s' E' i hA hi ⟨old,o,hps,oc,od⟩ hok S'
  subst hps
  haveI hok:σ'.get k=some (.list xs):=hok
  obtain ⟨vs',hl',hv'⟩:100:=S'.isListAt hok
  rw [hA k hk] at hl'
  haveI hio:s'.heap.get? ia=some o∧IsEnum s'.heap ea ia i old:=by
   obtain ⟨m,news,F,hm,H,N,nd⟩:100:=S'.ex
   exact ⟨(N (ia,o) (Ti _ (.tail _ (.head _)))).1,(N _ (Ti _ (.head _))).1⟩
  obtain ⟨x,hx⟩:∃ x,xs[i]? = some x:=⟨_,List.getElem?_eq_getElem hi⟩
  obtain ⟨v,hxv,hvr⟩:1:=hv'.at hx
  refine wpAny_pyNext_enum_item hio.2 ⟨o,hio.1,oc,od⟩ hl' (x:=v) (by simpa using hxv) hei fun h₁ heo hit₁ ht₁ hz₁ hk₁=>⟨_,rfl,fun E''=>?_⟩
  refine wpAny_letOwnedTupleGo_enum heo fun h₂ he₂ hs₂=>?_
  obtain ⟨o₂,ho₂,oc₂,od₂⟩:=id hit₁
  haveI hso:s'.heap.objs.size≠ea:=fun q=>Nat.lt_irrefl _ (q▸Heap.lt_size hio.2)
  haveI St1:St c.w.params h₀' L' ρ' σ' loc' ([(ea,{ cls:=.type "enumerate", dict:=none,data:=.fields #[.none,.bool false,.ref ia,rawInt ((i:Int)+1),.none,v],slots:=#[] }),(ia,o₂)]++X') { s' with heap:=h₂,toks:=s'.toks+1 }:=by
   refine S'.step (xs':=[(ea,{ cls:=.type "enumerate", dict:=none,data:=.fields #[.none,.bool false,.ref ia,rawInt ((i:Int)+1),.none,v],slots:=#[] }),(ia,o₂)]) (fun b ob hb e=>?_) (fun p hp=>?_) rfl _
   ·haveI hb':b≠ea∧b≠ia:=by simpa using hb
    exact (hs₂.2 b hb'.1).trans (hk₁ b ob hb'.1 hb'.2 e)
   ·rcases Tf hp with rfl | hp
    ·exact he₂
    ·rcases Tg hp with rfl
     exact (hs₂.2 ia (Ne.symm hei)).trans ho₂
  haveI St2:=St1.adopt (a:=.tup [.int i,x]) S' rfl (Te _) ((hs₂.2 _ hso).trans ht₁) (.tup _ [.int i s'.toks,v] 0 (.cons (.int _ _) (.cons hvr .nil)))
  refine ⟨_,_,.ref σ'.nx,_,⟨x,hx,rfl,rfl⟩,bA,Nat.le_succ _,aK _ _ _,⟨v,o₂,?_,oc₂,od₂⟩,St2,⟨rfl,.refl _,rfl⟩⟩
  haveI:((i+1:Nat):Int)=(i:Int)+1:=by push_cast;rfl
  rw [this]
 ·intro A' h₀' L' ρ' X' ps σ' loc' s' Q' E' hA hh ⟨old,o,hps,oc,od⟩ hok S' K'
  subst hps
  haveI hok:σ'.get k=some (.list xs):=hok
  obtain ⟨vs',hl',hv'⟩:100:=S'.isListAt hok
  rw [hA k hk] at hl'
  haveI hio:s'.heap.get? ia=some o∧IsEnum s'.heap ea ia ((sV k xs).n:Nat) old:=by
   obtain ⟨m,news,F,hm,H,N,nd⟩:100:=S'.ex
   exact ⟨(N (ia,o) (Ti _ (.tail _ (.head _)))).1,(N _ (Ti _ (.head _))).1⟩
  haveI hlen:=hv'.length
  refine wpAny_pyNext_enum_end hh hio.2 ⟨o,hio.1,oc,od⟩ hl' (by simp [hlen,sV]) fun h' hs₂=>?_
  refine K' _ (S'.stop (fun b ob hb e=>hs₂ b ob ?_ e) s'.toks) ⟨rfl,.refl _,rfl⟩
  haveI hb':b≠ea∧b≠ia:=by simpa using hb
  exact hb'.2
 ·intro A' h₀' L' ρ' X' ps σ' loc' s' Q' E' i ⟨old,o,hps,oc,od⟩ S' hQ
  subst hps
  haveI hio:IsEnum s'.heap ea ia i old:=by
   obtain ⟨m,news,F,hm,H,N,nd⟩:100:=S'.ex
   exact (N _ (Ti _ (.head _))).1
  exact wpAny_pyIter_enum hio hQ
end
theorem ifT {A B:Prop} (h:A):((true:Bool)=true→A)∧((true:Bool)=false→B):=⟨fun _=>h,fun h=>(by cases h)⟩
theorem ifF {A B:Prop} (h:B):((false:Bool)=true→A)∧((false:Bool)=false→B):=⟨fun h=>(by cases h),fun _=>h⟩
noncomputable def AV.isN:AV→Bool
 | .none=>true
 | _=>false
theorem aFx {ρ:Nat→Addr} {n:Nat} {a:AV} {v:Value} (h:VR ρ n a v):(v==.none)=a.isN:=by cases a <;> cases h <;> rfl
section
variable {c:Cx} {sc:Scope} {U D:Nat} {loc:Loc} {σ:AH}
theorem aKz {a:AV} {b:Bool} {R:AV→AH→Prop} (hb:a.isN=b) (h:R (.bool b) σ):OpC c sc U D .Is a .none loc σ R:=vJ fun ρ n v hv=>by rw [aFx hv,hb];exact h
theorem yR {a:AV} {b:Bool} {R:AV→AH→Prop} (hb:(!a.isN)=b) (h:R (.bool b) σ):OpC c sc U D .IsNot a .none loc σ R:=pB fun ρ n v hv=>by rw [aFx hv,hb];exact h
def Sub (l' l:Loc):Prop:=∀ x a,l'.lookup x=some a→l.lookup x=some a
theorem Sub.refl (l:Loc):Sub l l:=fun _ _ h=>h
theorem Sub.app (l e:Loc):Sub l (l++e):=fun x a h=>by
 induction l with
 | nil=>cases h
 | cons p r ih =>
  obtain ⟨y,b⟩:=p
  rw [List.cons_append,List.lookup_cons]
  rw [List.lookup_cons] at h
  split <;> rename_i q <;> rw [q] at h
  ·exact h
  ·exact ih h
theorem St.sub {P:Params} {h₀:Heap} {L:Addr} {ρ:Nat→Addr} {l l':Loc} {X:List (Addr×Obj)} {s:Shared} (S:St P h₀ L ρ σ l X s) (h:Sub l' l):St P h₀ L ρ σ l' X s:=by
 obtain ⟨m,news,F,hm,H,N,nd⟩:100:=S.ex
 exact ⟨m,news,F,fun x a e=>hm x a (h x a e),H,N,nd⟩
theorem gH {t:Expr} {a:AV} {l l':Loc} {R:Loc→AH→Prop} (hs:Sub l' l) (h:As1 c sc U D t a l' σ R):As1 c sc U D t a l σ R:=fun A env L h₀ fm ρ X s Q E v S hv K=>h A env L h₀ fm ρ X s Q E v (S.sub hs) hv K
theorem bE {b:List Stmt} {l l':Loc} {R:AF→Loc→AH→Prop} (hs:Sub l' l) (h:ExS c sc U D b l' σ R):ExS c sc U D b l σ R:=fun A env L h₀ fm ρ X s Q E S K=>h A env L h₀ fm ρ X s Q E (S.sub hs) K
theorem cR {test:Expr} {body orelse:List Stmt} {pos:Pos} {R:AF→Loc→AH→Prop} (I:Nat→Loc→AH→Prop) (n:Nat) (h0:I n loc σ)
  (turn:∀ n l s,I n l s→∃ l',Sub l' l∧EvT c sc U D test l' s fun b s₁=>(b=true→ExS c sc U D body l' s₁ (goesTo R fun l₂ s₂=>∃ m,m < n∧I m l₂ s₂))∧(b=false→ExS c sc U D orelse l' s₁ R)) :
  Ex1 c sc U D (.While test body orelse pos) loc σ R:=fun A env L h₀ fm ρ X s Q E S K=>by
 refine wpAny_While (codeAny_whileLoop (fun n s'=>∃ ρ' σ' loc',I n loc' σ'∧σ.nx≤σ'.nx∧Agree ρ ρ' σ.nx∧St c.w.params h₀ L ρ' σ' loc' X s'∧Rest s s') (fun n s' hJ=>?_) n ⟨ρ,σ,loc,h0,Te _,Agree.refl _ _,S,Rest.refl _⟩)
 obtain ⟨ρ',σ',loc',hI,n',g',S',r'⟩:3:=hJ
 obtain ⟨l',hs,T⟩:1:=turn n loc' σ' hI
 refine T A env L h₀ fm ρ' X s' _ _ (S'.sub hs) fun ρ₁ σ₁ b s₁ hb n₁ g₁ S₁ r₁=>?_
 haveI N₁:=Ta n' n₁
 haveI G₁:Agree ρ ρ₁ σ.nx:=g'.trans n' g₁
 haveI K₁:=K.after N₁ G₁ (r'.trans r₁)
 cases b with
 | false =>
  rw [if_neg Bool.false_ne_true]
  exact hb.2 rfl A env L h₀ fm ρ₁ X s₁ _ _ S₁ K₁
 | true =>
  rw [if_pos rfl]
  refine hb.1 rfl A env L h₀ fm ρ₁ X s₁ _ _ S₁ fun ρ₅ σ₅ loc₅ af f s₅ hf fr n₅ g₅ S₅ r₅=>?_
  cases fr with
  | next=>obtain ⟨m,hm,hi⟩:=hf;exact ⟨m,hm,ρ₅,σ₅,loc₅,hi,Ta N₁ n₅,G₁.trans N₁ g₅,S₅,(r'.trans r₁).trans r₅⟩
  | cont=>obtain ⟨m,hm,hi⟩:=hf;exact ⟨m,hm,ρ₅,σ₅,loc₅,hi,Ta N₁ n₅,G₁.trans N₁ g₅,S₅,(r'.trans r₁).trans r₅⟩
  | brk=>exact K₁ ρ₅ σ₅ loc₅ _ _ s₅ hf .next n₅ g₅ S₅ r₅
  | ret a v hv=>exact K₁ ρ₅ σ₅ loc₅ _ _ s₅ hf (.ret _ _ hv) n₅ g₅ S₅ r₅
theorem aCl {R:AF→Loc→AH→Prop} {I:Loc→AH→Prop} {l:Loc} (h:I l σ):goesTo R I .next l σ:=h
theorem aCm {R:AF→Loc→AH→Prop} {I:Loc→AH→Prop} {l:Loc} (h:I l σ):goesTo R I .cont l σ:=h
theorem aFy {R:AF→Loc→AH→Prop} {I:Loc→AH→Prop} {l:Loc} (h:R .next l σ):goesTo R I .brk l σ:=h
theorem aFz {R:AF→Loc→AH→Prop} {I:Loc→AH→Prop} {l:Loc} {a:AV} (h:R (.ret a) l σ):goesTo R I (.ret a) l σ:=h
theorem vS {t value:Expr} {pos:Pos} {R:AF→Loc→AH→Prop} (hs:∀ env,swapsWithSole [t] value pos.line env=pure false) (he:∀ env,(assignEach [t] env).map (·.2)=[assign t env]) (hw:∀ env,swappedStores [t] value env=pure none)
  (h:EvE c sc U D value loc σ fun a σ₁=>As1 c sc U D t a loc σ₁ fun loc₂ σ₂=>R .next loc₂ σ₂):Ex1 c sc U D (.Assign [t] value pos) loc σ R:=fun A env L h₀ fm ρ X s Q E S K=>by
 show wpAny (model c.prog c.w) A (do
  standAt pos
  if ← swapsWithSole [t] value pos.line env then do
   evalThenUse value env fun v=>assignAll v ((assignEach [t] env).map (·.2))
   pure .next
  else do
   let v ← eval value env
   assignStores env v (← swappedStores [t] value env) ((assignEach [t] env).map (·.2))) Q E s
 rw [hs,he,hw]
 refine wpAny_bind (wpAny_standAt (wpAny_bind (wpAny_pure ?_)))
 rw [if_neg Bool.false_ne_true]
 refine wpAny_bind (h A env L h₀ fm ρ X s _ E S fun ρ₁ σ₁ a v s₁ ha va n₁ g₁ S₁ r₁=>?_)
 refine wpAny_bind (wpAny_pure ?_)
 show wpAny (model c.prog c.w) A (do assign t env v;pure .next) Q E s₁
 refine wpAny_bind (ha A env L h₀ fm ρ₁ X s₁ _ E v S₁ va fun ρ₂ σ₂ loc₂ s₂ h₂ n₂ g₂ S₂ r₂=>?_)
 exact wpAny_pure ((K.after n₁ g₁ r₁) ρ₂ σ₂ loc₂ _ .next s₂ h₂ .next n₂ g₂ S₂ r₂)
def AsN (c:Cx) (sc:Scope) (U D:Nat) (ns:List Str) (as:List AV) (loc:Loc) (σ:AH) (R:Loc→AH→Prop):Prop :=
 ∀ A env L h₀,Fm c sc A env L h₀ U D→∀ ρ X s Q E vs,St c.w.params h₀ L ρ σ loc X s→VRs ρ σ.nx as vs→BackU c h₀ L ρ σ X s Q R→wpAny (model c.prog c.w) A (assignInOrder (ns.map fun n=>bindName env n) vs) Q E s
theorem aLa {as:List AV} {R:Loc→AH→Prop} (h:R loc σ):AsN c sc U D [] as loc σ R:=fun A env L h₀ fm ρ X s Q E vs S hv K =>
 assignInOrder_nil (K ρ σ loc s h (Te _) (Agree.refl _ _) S (Rest.refl _))
theorem aGa {x:Str} {ns:List Str} {a:AV} {as:List AV} {R:Loc→AH→Prop} (hk:sc.names.lookup x=some .local) (h:PutTo x a loc fun l=>AsN c sc U D ns as l σ R):AsN c sc U D (x::ns) (a::as) loc σ R:=fun A env L h₀ fm ρ X s Q E vs S hv K=>by
 cases hv with
 | cons h1 h2 =>
 refine assignInOrder_cons (wpAny_bindName (nmS (R:=fun l s'=>s'=σ∧AsN c sc U D ns as l σ R) hk ⟨rfl,h⟩ A env L h₀ fm ρ X s _ E _ S h1 fun ρ₁ σ₁ loc₁ s₁ ⟨e,hr⟩ n₁ g₁ S₁ r₁=>?_))
 subst e
 exact hr A env L h₀ fm ρ₁ X s₁ Q E _ S₁ (All2.mono (fun _ _ x=>x.mono n₁ g₁) h2) (K.after n₁ g₁ r₁)
theorem gU {t value:Expr} {pos:Pos} {names:List Str} {R:AF→Loc→AH→Prop} (hs:∀ env,swapsWithSole [t] value pos.line env=pure false) (hw:∀ cn L a ccd cl fr,swappedStores [t] value (cP cn sc L a ccd cl fr)=pure (some names))
  (h:EvE c sc U D value loc σ fun a σ₁=>∃ j as,a=.ref j∧σ₁.get j=some (.tup as)∧names.length=as.length∧AsN c sc U D names.reverse as.reverse loc σ₁ fun loc₂ σ₂=>R .next loc₂ σ₂):Ex1 c sc U D (.Assign [t] value pos) loc σ R:=fun A env L h₀ fm ρ X s Q E S K=>by
 show wpAny (model c.prog c.w) A (do
  standAt pos
  if ← swapsWithSole [t] value pos.line env then do
   evalThenUse value env fun v=>assignAll v ((assignEach [t] env).map (·.2))
   pure .next
  else do
   let v ← eval value env
   assignStores env v (← swappedStores [t] value env) ((assignEach [t] env).map (·.2))) Q E s
 obtain ⟨cn,b,ccd,cl,fr0,he,_⟩:100:=fm.ex
 haveI hw':swappedStores [t] value env=pure (some names):=by rw [he];exact hw ..
 rw [hs,hw']
 refine wpAny_bind (wpAny_standAt (wpAny_bind (wpAny_pure ?_)))
 rw [if_neg Bool.false_ne_true]
 refine wpAny_bind (h A env L h₀ fm ρ X s _ E S fun ρ₁ σ₁ a v s₁ hy1 va n₁ g₁ S₁ r₁=>?_)
 obtain ⟨j,as,ea,hg,hl,ha⟩:2:=hy1
 subst ea
 cases va with
 | ref hj =>
 refine wpAny_bind (wpAny_pure ?_)
 obtain ⟨vs,ht,hr⟩:100:=S₁.isTup hg
 obtain ⟨m,news,F,hm,H,N,nd⟩:100:=S₁.ex
 refine wpAny_bind (wpAny_rule (wpAny_bind (unpackItemsN_ F N ht fm.hh (by rw [hl];simp [hr.length]) fun h' F' N'=>?_)))
 haveI hrev:VRs ρ₁ σ₁.nx as.reverse vs.reverse:=by
  have:∀ {l:List AV} {r:List Value},VRs ρ₁ σ₁.nx l r→VRs ρ₁ σ₁.nx l.reverse r.reverse:=by
   intro l r x
   induction x with
   | nil=>exact .nil
   | cons h _ ih=>rw [List.reverse_cons,List.reverse_cons];exact ih.append (.cons h .nil)
  exact this hr
 refine wpAny_bind (ha A env L h₀ fm ρ₁ X _ _ E _ ⟨m,news,F',hm,H,N',nd⟩ hrev fun ρ₂ σ₂ loc₂ s₂ h₂ n₂ g₂ S₂ r₂=>?_)
 exact wpAny_pure ((K.after n₁ g₁ r₁) ρ₂ σ₂ loc₂ _ .next s₂ h₂ .next n₂ g₂ S₂ ⟨r₂.os,r₂.gens,r₂.dr⟩)
theorem pJ {o:Expr} {name:Str} {apos:Pos} {args:List Expr} {pos:Pos} {R:AV→AH→Prop}
  (he:∀ env,eval (.Call (.Attribute o name apos) args [] pos) env=(do
   let ov ← eval o env
   standAt apos.atName
   let (f,first) ← holding [ov] (getMethod ov name (do return (← importBound o env).getD true))
   callWith pos f first (backTo pos (starEach args env)) []))
  (h:EvE c sc U D o loc σ fun a σ₁=>GmV c sc U D a name loc σ₁ fun f first σ₂=>CwA c sc U D pos f first args loc σ₂ R):EvE c sc U D (.Call (.Attribute o name apos) args [] pos) loc σ R:=yN (pl:=fun env=>do return (← importBound o env).getD true) he h
section
variable {pos:Pos} {f x:AV} {e:Expr} {rest:List Expr} {R:AV→AH→Prop}
theorem aCn (he:∀ env,starEach (e::rest) env=(false,eval e env)::starEach rest env) (hp:∀ env,(backTo pos (starEach rest env)).any (·.1)=false)
  (h:EvL c sc U D (e::rest) loc σ fun as σ₁=>cV c σ₁ f∧ClV c sc U D f as loc σ₁ R):CwA c sc U D pos f [] (e::rest) loc σ R:=cw he hp h
theorem aTf (he:∀ env,starEach (e::rest) env=(false,eval e env)::starEach rest env) (hp:∀ env,(backTo pos (starEach rest env)).any (·.1)=false)
  (h:EvL c sc U D (e::rest) loc σ fun as σ₁=>cV c σ₁ f∧ClV c sc U D f (x::as) loc σ₁ R):CwA c sc U D pos f [x] (e::rest) loc σ R:=cw he hp h
theorem aTg (h:cV c σ f∧ClV c sc U D f [] loc σ R):CwA c sc U D pos f [] [] loc σ R:=cw0 h
theorem aTh (h:cV c σ f∧ClV c sc U D f [x] loc σ R):CwA c sc U D pos f [x] [] loc σ R:=cw0 h
end
end
theorem rM {M:Model} {A:Around} {E:Value→Shared→Prop} {s:Shared} {env:Env} {o i:Expr} {pos:Pos} {v:Value} {Q:Unit→Shared→Prop}
  (h:wpAny M A (eval o env) (fun ov s₁=>wpAny M A (eval i env) (fun iv s₂=>wpAny M A (setItem ov iv v) (fun _=>Q ()) E s₂) E s₁) E s):wpAny M A (assign (.Subscript o i pos) env v) Q E s:=by
 rw [arm_assign_Subscript]
 exact wpAny_bind (wpAny_holding (wpAny_mono h (fun _ _ h=>wpAny_bind (wpAny_holding (wpAny_mono h (fun _ _ h=>wpAny_bind (wpAny_standAt (wpAny_bind (wpAny_holding (wpAny_mono h (fun _ _ h=>wpAny_release h) fun _ _ z=>z))))) fun _ _ z=>z))) fun _ _ z=>z))
section
variable {c:Cx} {sc:Scope} {U D:Nat} {loc:Loc} {σ:AH}
def SiA (c:Cx) (sc:Scope) (U D:Nat) (o i a:AV) (loc:Loc) (σ:AH) (R:AH→Prop):Prop :=
 ∀ A env L h₀,Fm c sc A env L h₀ U D→∀ ρ X s Q E ov iv v,St c.w.params h₀ L ρ σ loc X s→VR ρ σ.nx o ov→VR ρ σ.nx i iv→VR ρ σ.nx a v→BackS c h₀ L ρ σ loc X s Q R→wpAny (model c.prog c.w) A (setItem ov iv v) Q E s
theorem vT {o i:Expr} {pos:Pos} {a:AV} {R:Loc→AH→Prop} (h:EvE c sc U D o loc σ fun b σ₁=>EvE c sc U D i loc σ₁ fun d σ₂=>SiA c sc U D b d a loc σ₂ fun σ₃=>R loc σ₃):As1 c sc U D (.Subscript o i pos) a loc σ R:=fun A env L h₀ fm ρ X s Q E v S hv K=>by
 refine rM ?_
 refine h A env L h₀ fm ρ X s _ E S fun ρ₁ σ₁ b ov s₁ hb vb n₁ g₁ S₁ r₁=>?_
 refine hb A env L h₀ fm ρ₁ X s₁ _ E S₁ fun ρ₂ σ₂ d iv s₂ hd vd n₂ g₂ S₂ r₂=>?_
 refine hd A env L h₀ fm ρ₂ X s₂ _ E ov iv v S₂ (vb.mono n₂ g₂) vd ((hv.mono n₁ g₁).mono n₂ g₂) fun ρ₃ σ₃ _ s₃ h₃ n₃ g₃ S₃ r₃=>?_
 exact ((K.after n₁ g₁ r₁).after n₂ g₂ r₂) ρ₃ σ₃ _ s₃ h₃ n₃ g₃ S₃ r₃
theorem aGb {k:Nat} {kvs:List (Int×AV)} {i:Int} {a:AV} {R:AH→Prop} (e:σ.get k=some (.ndict kvs)) (hz:kvs.length≤1000) (h:R (σ.set k (.ndict (put i a kvs)))):SiA c sc U D (.ref k) (.int i) a loc σ R:=fun A env L h₀ fm ρ X s Q E ov iv v S ho hi hv K=>by
 cases ho;cases hi
 obtain ⟨o,ho,_,hr⟩:100:=S.at e
 cases hr with
 | ndict es n hr =>
 haveI G:=aFv (prog:=c.prog) (w:=c.w) hr
 haveI hT:s.TypeIs (.ref (ρ k)) "dict" := ⟨_,ho,rfl⟩
 have hkey:∀ t,(intKind c.prog c.w).is i (.int i t)=true:=fun t=>by simp [intKind,Value.isInt]
 unfold setItem
 try with_reducible refine wpAny_holding ?_
 first | refine wpAny_bind (wpAny_pure ?_) | skip
 refine wpAny_bind (wpAny_sequenceKey hT (by decide) ?_)
 refine wpAny_bind (wpAny_callSpecial?_slot (name:=Str.ofString "__setitem__") hT slot_dict_setitem
  (wpAny_call_entry slot_dict_setitem hT entry_dict_setitem ?_ (args_dict_setitem _ _ _)))
 show wpAny _ _ (Builtin.Dict.notOrdered "__setitem__" ⟨[.ref (ρ k),.int i _,v],[]⟩ >>= _) _ _ s
 refine wpAny_bind (wpAny_notOrdered_dict hT ?_)
 show wpAny _ _ (dictSet (ρ k) (.int i _) v >>= _) _ _ s
 refine wpAny_bind (aCk (hkey _) ho G hv (by rw [← G.length];unfold sizeLine;exact (Ta hz (Tb rfl))) fun h' es' e' hs ho' G'=>wpAny_pure ⟨.none,rfl,wpAny_pure ?_⟩)
 exact K ρ _ () _ h (Te _) (Agree.refl _ _) (S.setB e hs ho' (.ndict _ _ _ (aPc G')) _) ⟨rfl,.refl _,rfl⟩
theorem aCo {x y:Str} {px py p pos:Pos} {k:Nat} {value:Expr} {R:AF→Loc→AH→Prop} (hs:∀ env,swapsWithSole [.Tuple [.Name x px,.Name y py] k p] value pos.line env=pure false) (hw:∀ cn L a ccd cl fr,swappedStores [.Tuple [.Name x px,.Name y py] k p] value (cP cn sc L a ccd cl fr)=pure (some [x,y]))
  (h:EvE c sc U D value loc σ fun a σ₁=>∃ j a1 a2,a=.ref j∧σ₁.get j=some (.tup [a1,a2])∧AsN c sc U D [y,x] [a2,a1] loc σ₁ fun loc₂ σ₂=>R .next loc₂ σ₂):Ex1 c sc U D (.Assign [.Tuple [.Name x px,.Name y py] k p] value pos) loc σ R :=
 gU hs hw fun A env L h₀ fm ρ X s Q E S K=>h A env L h₀ fm ρ X s Q E S fun ρ' σ' a v s' ⟨j,a1,a2,ea,hg,hr⟩ va=>K ρ' σ' a v s' ⟨j,_,ea,hg,rfl,hr⟩ va
theorem aCp {x y z:Str} {px py pz p pos:Pos} {k:Nat} {value:Expr} {R:AF→Loc→AH→Prop} (hs:∀ env,swapsWithSole [.Tuple [.Name x px,.Name y py,.Name z pz] k p] value pos.line env=pure false) (hw:∀ cn L a ccd cl fr,swappedStores [.Tuple [.Name x px,.Name y py,.Name z pz] k p] value (cP cn sc L a ccd cl fr)=pure (some [x,y,z]))
  (h:EvE c sc U D value loc σ fun a σ₁=>∃ j a1 a2 a3,a=.ref j∧σ₁.get j=some (.tup [a1,a2,a3])∧AsN c sc U D [z,y,x] [a3,a2,a1] loc σ₁ fun loc₂ σ₂=>R .next loc₂ σ₂):Ex1 c sc U D (.Assign [.Tuple [.Name x px,.Name y py,.Name z pz] k p] value pos) loc σ R :=
 gU hs hw fun A env L h₀ fm ρ X s Q E S K=>h A env L h₀ fm ρ X s Q E S fun ρ' σ' a v s' hh va=>by obtain ⟨j,a1,a2,a3,ea,hg,hr⟩:4:=hh;exact K ρ' σ' a v s' ⟨j,_,ea,hg,rfl,hr⟩ va
theorem aZk {j:Nat} {a1 a2:AV} {P:AV→AV→Prop} (e:σ.get j=some (.tup [a1,a2])) (h:P a1 a2):∃ j' b1 b2,AV.ref j=.ref j'∧σ.get j'=some (.tup [b1,b2])∧P b1 b2:=⟨j,a1,a2,rfl,e,h⟩
theorem aZl {j:Nat} {a1 a2 a3:AV} {P:AV→AV→AV→Prop} (e:σ.get j=some (.tup [a1,a2,a3])) (h:P a1 a2 a3):∃ j' b1 b2 b3,AV.ref j=.ref j'∧σ.get j'=some (.tup [b1,b2,b3])∧P b1 b2 b3:=⟨j,a1,a2,a3,rfl,e,h⟩
theorem aM {value slice:Expr} {k:Nat} {xs:List AV} {i:Int} {n:Nat} {a:AV} {R:AV→AH→Prop} (e:σ.get k=some (.list xs)) (hi:i=(n:Int)) (hn:n < 2 ^ 20) (hx:xs[n]? = some a) (h:R a σ)
  (hs:∀ l u,subscripted slice false (.ref l) (.int i u)=operate [.ref l,.int i u] (getItem (.ref l) (.int i u))):SbT c sc U D value slice (.ref k) (.int i) loc σ R:=by
 subst hi
 exact aKp e (by exact i_0) (by lia) (by simpa using hx) h hs
end
noncomputable def vU (K:Frag) (C:Addr) (f:ClassData→Array (Option Value)→Bool):Bool:=match K.lookup C with
 | some o=>match o.data with
  | .cls cd=>f cd o.slots
  | _=>false
 | none=>false
theorem pK {K:Frag} {C:Addr} {f:ClassData→Array (Option Value)→Bool} {c:Prop} (e:vU K C f=true) (k:∀ oc od cd sl,K.lookup C=some ⟨oc,od,.cls cd,sl⟩→f cd sl=true→c):c:=by
 unfold vU at e
 revert e k
 cases K.lookup C with
 | none=>exact fun e=>Bool.noConfusion e
 | some o =>
  cases o with
  | mk oc od d sl =>
  cases d <;> first | exact fun e k=>k _ _ _ _ rfl e | exact fun e=>Bool.noConfusion e
noncomputable def yS (K:Frag) (C:Addr):Bool:=vU K C fun cd sl=>(sl.toList[4]?).join==some .none&&!cd.mro.isEmpty&&cd.mro.contains (.ref C) &&
   specialIn K (.ref C) "__call__" == some (some (.builtin "type.__call__"))&&instIn K (.ref C) (.type "type")==some true
structure aGc (M:Model) (h:Heap) (C:Addr):Prop where
 obj:∃ oc od cd sl,h.get? C=some ⟨oc,od,.cls cd,sl⟩∧cd.mro.isEmpty=false
 made:Looks M h (Bind.madeBy (.ref C)) none
 self:Looks M h (isSubtype (.ref C) (.ref C)) true
 call:Looks M h (specialOf (.ref C) "__call__") (some (.builtin "type.__call__"))
 typ:Looks M h (isInstance (.ref C) (.type "type")) true
theorem mV {K:Frag} {M:Model} {h:Heap} (X:K.In h) {C:Addr} (e:yS K C=true):aGc M h C:=by
 refine pK e fun oc od cd sl ho e=>?_
 ·simp only [Bool.and_eq_true,Bool.not_eq_true',beq_iff_eq] at e
  refine hid ?_;intro ZZ zz
  obtain ⟨⟨⟨⟨e3,e4⟩,e5⟩,e7⟩,e8⟩:=e
  haveI hc:clsIn K C=some cd:=by unfold clsIn;rw [ho]
  haveI hm:Looks M h (mroOf (.ref C)) cd.mro:=(looks_clsIn X hc).andThen .now
  obtain ⟨c,l,hl⟩:∃ c l,cd.mro=c::l:=by cases q:cd.mro with | nil=>rw [q] at e4;cases e4 | cons c l=>exact ⟨c,l,rfl⟩
  refine zz ?_;clear zz
  haveI made:Looks M h (Bind.madeBy (.ref C)) none:=by
   intro A Q E s k q
   unfold Bind.madeBy
   refine wpAny_bind (hm A _ E s k ?_)
   rw [hl,List.forIn_cons]
   refine wpAny_bind (wpAny_bind (wpAny_bind (wpAny_bind (wpAny_loadPart (k _ _ (X _ _ ho)) (wpAny_pure ?_)))))
   dsimp only
   rw [← Array.getElem?_toList,e3]
   exact wpAny_pure (wpAny_pure (wpAny_pure q))
  refine ⟨⟨oc,od,cd,sl,X _ _ ho,e4⟩,made,looks_mroIn X ?_,looks_specialIn X e7,looks_instIn X e8⟩
  unfold mroIn;rw [hc,Option.bind_some,if_neg (by rw [e4];decide),e5]
section
variable {prog:Program} {w:World} {A:Around} {C:Addr} {R:Result→Shared→Prop} {s:Shared}
theorem pL {rest:List Value} {kw:List (Str×Value)} (Y:aGc (model prog w) s.heap C)
  (h:wpAny (model prog w) (A.under (.builtin "type.__call__" ⟨.ref C::rest,kw⟩)) (getAttr (.ref C) "__new__") (fun new s₁ =>
   wpAny (model prog w) (A.under (.builtin "type.__call__" ⟨.ref C::rest,kw⟩)) (call new (.ref C::rest) kw) (fun obj s₂ =>
    wpAny (model prog w) (A.under (.builtin "type.__call__" ⟨.ref C::rest,kw⟩)) (isInstance obj (.ref C)) (fun b s₃=>b=true ∧
     wpAny (model prog w) (A.under (.builtin "type.__call__" ⟨.ref C::rest,kw⟩)) (callSpecial? obj "__init__" rest kw) (fun r s₄=>r=some .none∧R (.ok (.ret obj)) s₄) (fun e s'=>R (.error e) s') s₃) (fun e s'=>R (.error e) s') s₂) (fun e s'=>R (.error e) s') s₁) (fun e s'=>R (.error e) s') s) :
  codeAny (model prog w) A (.call (.ref C) ⟨rest,kw⟩) R s:=by
 refine hid ?_;intro ZZ zz
 obtain ⟨⟨oc,od,cd,sl,hC,e4⟩,made,self,call',typ⟩:=Y
 refine zz ?_;clear zz
 refine codeAny_of_tree ?_
 show wpAny _ _ (callAny (.ref C) _) _ _ _
 refine nd_load hC ?_
 show wpAny _ _ (callAny.viaDunder (.ref C) _) _ _ _
 unfold callAny.viaDunder
 refine wpAny_bind (call'.at ?_)
 dsimp only
 rw [tc_bind]
 refine wpAny_bind (wpAny_pure (wpAny_bind (wpAny_pure ?_)))
 refine wpAny_pure (a:=Fin.again (.call (.builtin "type.__call__") ⟨.ref C::rest,kw⟩)) (And.intro rfl ?_)
 refine codeAny_call_builtin_at (Code.quiet_builtin _ (by decide +kernel)) entry_typeCall ?_
 refine' check_slot ?ka ?kb ?kc ?kd ?_
 case ka=>exact tc_kind
 case kb=>exact tc_split
 case kc=>exact typ
 case kd=>exact tc_args _ _ _
 unfold Builtin.«type.__call__»
 generalize hga:getAttr (.ref C) "__new__" = ga at h ⊢
 haveI hm:Looks (model prog w) s.heap (mroOf (.ref C)) cd.mro:=((Looks.ld (part:=none) hC).andThen .now).andThen .now
 iterate 3 lk
 refine hm.at ?_
 rw [if_neg (by rw [e4];decide)]
 refine wpAny_bind (made.at ?_)
 dsimp only
 rw [hga]
 refine wpAny_bind ?_
 refine wpAny_mono h (fun new s₁ z=>?_) fun _ _ z=>z
 refine wpAny_bind (wpAny_holding (wpAny_mono z (fun obj s₂ z=>?_) fun _ _ z=>z))
 refine wpAny_bind (wpAny_mono z (fun b s₃ z=>?_) fun _ _ z=>z)
 obtain ⟨rfl,z⟩:0:=z
 simp only [Bool.not_true,Bool.false_eq_true,if_false]
 refine wpAny_bind (wpAny_holding (wpAny_mono z (fun r s₄ z=>?_) fun _ _ z=>z))
 obtain ⟨rfl,z⟩:0:=z
 exact wpAny_pure z
end
noncomputable def aGd (K:Frag) (C:Addr):Bool:=vU K C fun cd sl=>(sl.toList[4]?).join==some .none&&!cd.mro.isEmpty&&cd.mro.contains (.ref C)&&cd.mro.contains (.type "tuple")&&cd.bases==[.type "tuple"]&&!cd.hasDel&&decide (2≤cd.mro.length) &&
   findIn K (.ref C) "__init__" == some (some (.builtin "object.__init__"))
structure aTi (M:Model) (h:Heap) (C:Addr):Prop where
 obj:∃ oc od cd sl,h.get? C=some ⟨oc,od,.cls cd,sl⟩∧cd.hasDel=false
 base:Looks M h (Bind.staticBase (.ref C)) (.type "tuple")
 made:Looks M h (Bind.madeBy (.ref C)) none
 self:Looks M h (isSubtype (.ref C) (.ref C)) true
 sub:Looks M h (isSubtype (.ref C) (.type "tuple")) true
 init:Looks M h (typeLookup (.ref C) "__init__") (some (.builtin "object.__init__"))
theorem yT:Builtin.Slots.bestBase [.type "tuple"]=pure (.type "tuple"):=by kernel_rfl
theorem aAt {K:Frag} {M:Model} {h:Heap} (X:K.In h) {C:Addr} (e:aGd K C=true):aTi M h C:=by
 refine pK e fun oc od cd sl ho e=>?_
 ·simp only [Bool.and_eq_true,Bool.not_eq_true',beq_iff_eq,decide_eq_true_eq] at e
  refine hid ?_;intro ZZ zz
  obtain ⟨⟨⟨⟨⟨⟨⟨e3,e4⟩,e5⟩,e6⟩,e7⟩,e8⟩,e9⟩,e10⟩:=e
  haveI hc:clsIn K C=some cd:=by unfold clsIn;rw [ho]
  haveI hm:Looks M h (mroOf (.ref C)) cd.mro:=(looks_clsIn X hc).andThen .now
  obtain ⟨c,c2,l,hl⟩:∃ c c2 l,cd.mro=c::c2::l:=by
   cases q:cd.mro with
   | nil=>rw [q] at e4;cases e4
   | cons c l=>cases q2:l with
    | nil=>rw [q,q2] at e9;simp at e9
    | cons c2 l=>exact ⟨c,c2,l,rfl⟩
  refine zz ?_;clear zz
  haveI made:Looks M h (Bind.madeBy (.ref C)) none:=by
   intro A Q E s k q
   unfold Bind.madeBy
   refine wpAny_bind (hm A _ E s k ?_)
   rw [hl,List.forIn_cons]
   refine wpAny_bind (wpAny_bind (wpAny_bind (wpAny_bind (wpAny_loadPart (k _ _ (X _ _ ho)) (wpAny_pure ?_)))))
   dsimp only
   rw [← Array.getElem?_toList,e3]
   exact wpAny_pure (wpAny_pure (wpAny_pure q))
  refine ⟨⟨oc,od,cd,sl,X _ _ ho,e8⟩,?_,made,looks_mroIn X ?_,looks_mroIn X ?_,looks_findIn X e10⟩
  ·intro A Q E s k q
   unfold Bind.staticBase
   refine wpAny_bind (hm A _ E s k ?_)
   rw [hl,List.forIn_cons]
   refine wpAny_bind (wpAny_bind (wpAny_bind (made A _ E s k ?_)))
   dsimp only [Option.isSome]
   rw [if_neg (by decide)]
   refine wpAny_bind (wpAny_bind (wpAny_bind (wpAny_load (k _ _ (X _ _ ho)) (wpAny_pure ?_))))
   refine wpAny_pure (a:=cd) (wpAny_bind ?_)
   rw [e7,yT]
   refine wpAny_pure (wpAny_pure ?_)
   dsimp only
   rw [List.forIn_cons]
   refine wpAny_bind (wpAny_bind ?_)
   dsimp only
   rw [PySem.F.called_tuple.made]
   exact wpAny_pure (wpAny_pure (wpAny_pure (wpAny_pure q)))
  ·unfold mroIn;rw [hc,Option.bind_some,if_neg (by rw [e4];decide),e5]
  ·unfold mroIn;rw [hc,Option.bind_some,if_neg (by rw [e4];decide),e6]
section
variable {prog:Program} {w:World} {A:Around} {C:Addr} {R:Result→Shared→Prop} {s:Shared} {E:Value→Shared→Prop}
theorem aGe {α:Type} {M:Model} {A:Around} {c:Prop} [Decidable c] {x y:Sem α} {Q:α→Shared→Prop} {E:Value→Shared→Prop} {s:Shared} (h:c) (k:wpAny M A x Q E s):wpAny M A (if c then x else y) Q E s:=by rw [if_pos h];exact k
theorem aAu {id owner b m:String} {rest:List Value} {kw:List (Str×Value)} {Q:Unit→Shared→Prop} {E:Value→Shared→Prop} (hk:builtinKind id=some .builtinFn) (hs:splitId id=some (owner, "__new__"))
  (isT:Looks (model prog w) s.heap (isType (.ref C)) true) (sub:Looks (model prog w) s.heap (isSubtype (.ref C) (.type owner)) true) (base:Looks (model prog w) s.heap (Bind.staticBase (.ref C)) (.type b))
  (made:Looks (model prog w) s.heap (Bind.madeBy (.type b)) (some m)) (hm:(Manifest.canonical m != Manifest.canonical id)=false)
  (ck:wpAny (model prog w) A (match Manifest.signature? id with | some sig=>Bind.checkArgs id sig ⟨.ref C::rest,kw⟩ | x=>pure ()) Q E s):wpAny (model prog w) A (checkBuiltinCall id ⟨.ref C::rest,kw⟩) Q E s:=by
 unfold checkBuiltinCall
 rw [hk,hs]
 refine aGe (by decide) ?_
 refine wpAny_bind (isT.at ?_)
 refine dE Bool.false_ne_true ?_
 refine wpAny_bind (sub.at ?_)
 refine dE Bool.false_ne_true ?_
 refine wpAny_bind (base.at ?_)
 refine wpAny_bind (made.at ?_)
 refine dE (by rw [hm];exact Bool.false_ne_true) ?_
 exact ck
theorem yU {t:Addr} {items:Array Value} (Y:aTi (model prog w) s.heap C) (ht:s.heap.IsTuple t items) (hz:items.size≤1000)
  (h:∀ h' l d,(∀ b o,s.heap.get? b=some o→h'.get? b=some o)→s.heap.get? l=none→h'.get? l=some ⟨.ref C,some d,.seq items 0,#[]⟩→R (.ok (.ret (.ref l))) { s with heap:=h' }) :
  codeAny (model prog w) A (.call (.builtin "tuple.__new__") ⟨[.ref C,.ref t],[]⟩) R s:=by
 refine hid ?_;intro ZZ zz
 obtain ⟨⟨oc,od,cd,sl,hC,e8⟩,base,made,self,sub,init⟩:=Y
 refine zz ?_;clear zz
 haveI mt:=Looks.of_pure (M:=model prog w) (h:=s.heap) PySem.F.called_tuple.made
 refine codeAny_call_builtin PySem.F.plain_tuple_new PySem.F.entry_tuple_new ?_
 haveI isT:Looks (model prog w) s.heap (isType (.ref C)) true:=(Looks.ld (part:=none) hC).andThen .now
 refine' aAu (id := "tuple.__new__") ?ka ?kb ?kc ?kd ?ke ?kf ?kg ?_
 case kc=>exact isT
 case kd=>exact sub
 case ke=>exact base
 case kf=>exact mt
 case ka=>decide +kernel
 case kb=>decide +kernel
 case kg=>kernel_rfl
 haveI ck:∀ (x:Option _),Manifest.signature? "tuple.__new__" = x→∀ A' (Q:Unit→Shared→Prop) E',Q () s→wpAny (model prog w) A' (match x with | some sig=>Bind.checkArgs "tuple.__new__" sig ⟨[.ref C,.ref t],[]⟩ | x=>pure ()) Q E' s:=fun x hx A' Q E' q=>by
  haveI ha:argsOk "tuple.__new__" ⟨[.ref C,.ref t],[]⟩:=by unfold argsOk;kernel_rfl
  unfold argsOk at ha
  rw [hx] at ha
  cases x with
  | none=>exact wpAny_pure q
  | some sig =>
   haveI h2:Bind.checkArgs "tuple.__new__" sig ⟨[.ref C,.ref t],[]⟩=pure ():=ha
   dsimp only
   rw [h2];exact wpAny_pure q
 refine ck _ rfl _ _ _ ?_
 refine hid ?_;intro ZZ zz
 obtain ⟨o,ho,hcl,n,hda⟩:=ht
 refine zz ?_;clear zz
 repeat (first | (with_reducible refine wpAny_collect_seq t (.inr rfl) ho hcl hda (fun h1 hk1=>?_) (by rw [sizeLine_eq];lia)) | ((with_reducible refine dE ?hc ?_);(case hc=>first | exact Bool.eq_false_iff.mp (by kernel_rfl!) | (simp only [bne_self_eq_false,Bool.false_eq_true,not_false_eq_true];done))) | lk)
 refine dE (by simp only [List.size_toArray,Array.length_toList];rw [sizeLine_eq];exact (Nat.not_lt_of_le (Ta hz (Tb rfl)))) ?_
 haveI hC1:=hk1 _ _ hC
 unfold newObjAsIs classHasDel
 refine wpAny_bind (wpAny_alloc (wpAny_bind (wpAny_bind (wpAny_load (Heap.get?_push_of_some _ (Heap.get?_push_of_some _ hC1)) (wpAny_pure ?_)))))
 rw [e8]
 refine wpAny_pure (wpAny_pure ?_)
 refine h _ _ _ (fun b o' hb=>Heap.get?_push_of_some _ (Heap.get?_push_of_some _ (hk1 _ _ hb))) ?_ (by first | heap_get | (rw [Array.toArray_toList];heap_get))
 show s.heap.get? (h1.push { cls:=.type "dict", data:=.dict #[] }).objs.size=none
 cases q:s.heap.get? (h1.push { cls:=.type "dict", data:=.dict #[] }).objs.size with
 | none=>rfl
 | some o =>
  haveI z:=Heap.lt_size (hk1 _ _ q)
  rw [Heap.size_push] at z
  exact absurd z (Nat.not_lt.mpr (Nat.le_succ _))
end
section
variable {P:Params} {h₀ h':Heap} {L:Addr} {ρ:Nat→Addr} {σ:AH} {loc:Loc} {X:List (Addr×Obj)} {s:Shared}
theorem St.adoptN {l:Addr} {a:AO} {o':Obj} {X₀:List (Addr×Obj)} {t:Tok} (S:St P h₀ L ρ σ loc X { s with heap:=h',toks:=t }) (S₀:St P h₀ L ρ σ loc X₀ s) (hX:X₀.map (·.1)=X.map (·.1)) (hl:s.heap.get? l=none) (ho:h'.get? l=some o') (hr:OR P ρ σ.nx a o'):St P h₀ L (ext ρ σ.nx l) (σ.new a) loc X { s with heap:=h',toks:=t }:=by
 obtain ⟨m₀,news₀,F₀,hm₀,H₀,N₀,nd₀⟩:100:=S₀.ex
 obtain ⟨m,news,F,hm,H,N,nd⟩:100:=S.ex
 haveI hLl:l≠L:=fun e=>by
  refine hid ?_;intro ZZ zz
  obtain ⟨oL,es,ep,hL,r⟩:=F₀.ns
  refine zz ?_;clear zz
  rw [← e,hl] at hL;cases hL
 haveI h0l:h₀.get? l=none:=by
  cases q:h₀.get? l with
  | none=>rfl
  | some o=>haveI:=F₀.keep l o q;rw [hl] at this;cases this
 haveI g:=aK ρ σ.nx l
 have names:∀ {σo:List (Nat×AO)} {n₁ n₂:List (Addr×Obj)},All2 (fun (p:Nat×AO) (q:Addr×Obj)=>p.1 < σ.nx∧q.1=ρ p.1∧OR P ρ σ.nx p.2 q.2) σo n₁→All2 (fun (p:Nat×AO) (q:Addr×Obj)=>p.1 < σ.nx∧q.1=ρ p.1∧OR P ρ σ.nx p.2 q.2) σo n₂→n₁.map (·.1)=n₂.map (·.1):=by
  intro σo n₁ n₂ x y
  induction x generalizing n₂ with
  | nil=>cases y;rfl
  | cons h _ ih=>cases y with | cons h' t=>rw [List.map_cons,List.map_cons,h.2.1,h'.2.1,ih t]
 have hne:∀ p∈news++X,p.1≠l:=fun p hp e=>by
  haveI hmem:p.1∈(news₀++X₀).map (·.1):=by
   rw [List.map_append,hX,names H₀ H,← List.map_append]
   exact List.mem_map.mpr ⟨p,hp,rfl⟩
  obtain ⟨p',hp',e'⟩:1:=List.mem_map.mp hmem
  haveI:=(N₀ p' hp').1
  rw [e'.trans e,hl] at this;cases this
 refine ⟨m,(l,o')::news,F,hm.mono (Nat.le_succ _) g,.cons ⟨Nat.lt_succ_self _,(aS _ _ _).symm,hr.mono (Nat.le_succ _) g⟩ (HR.mono (Nat.le_succ _) g H),?_,?_⟩
 ·intro p hp
  rcases Tf hp with rfl | hp
  ·exact ⟨ho,hLl,h0l⟩
  ·exact N p hp
 ·refine List.nodup_cons.mpr ⟨fun q=>?_,nd⟩
  obtain ⟨p,hp,e⟩:1:=List.mem_map.mp q
  exact hne p hp e
end
section
variable {c:Cx} {sc:Scope} {U D:Nat} {loc:Loc} {σ:AH}
theorem pM {C:Addr} {t:Nat} {xs:List AV} {R:AV→AH→Prop} (hC:aGd c.K C=true) (e:σ.get t=some (.tup xs)) (hz:xs.length≤1000) (h:R (.ref σ.nx) (σ.new (.mtup C xs))):ClV c sc U D (.bi "tuple.__new__") [.glob C,.ref t] loc σ R:=fun A env L h₀ fm ρ X s Q E fv vs S hfv hv K=>by
 cases hfv
 refine hid ?_;intro ZZ zz
 obtain ⟨v1,v2,hv1,hv2⟩:=fE hv
 refine zz ?_;clear zz
 cases hv1
 cases hv2
 obtain ⟨o,ho,hlt,hr⟩:100:=S.at e
 obtain ⟨m,news,F,_,_,_,_⟩:100:=S.ex
 cases hr with
 | tup ws n hw =>
 refine wpAny_call (yU (items:=ws.toArray) (aAt (fm.X.keeps F.keep) hC) ⟨_,ho,rfl,n,rfl⟩ (by rw [List.size_toArray,← hw.length];exact hz) fun h' l d hk hl hg=>?_)
 haveI S1:St c.w.params h₀ L ρ σ loc X { s with heap:=h',toks:=s.toks }:=St.stop (xs:=[]) S (fun b o _ hb=>hk b o hb) s.toks
 haveI S2:=St.adoptN S1 S rfl hl hg (.mtup C xs ws 0 (some d) #[] hw)
 exact K _ _ _ (.ref l) _ h bA (Nat.le_succ _) (aK _ _ _) S2 ⟨rfl,.refl _,rfl⟩
end
theorem aPe {C:Addr} {a b:Value} {rest:List Value} {M:Model} {h:Heap} (ht:Looks M h (typeOf a) (.ref C)) (hi:Looks M h (typeLookup (.ref C) "__init__") (some (.builtin "object.__init__"))) (hm:Looks M h (Bind.madeBy (.ref C)) none) {A:Around} {Q:PySem.Fin→Shared→Prop} {E:Value→Shared→Prop} {s:Shared} (hs:s.heap=h)
  (q:Q (.done (.ret .none)) s):wpAny M A (Builtin.«object.__init__» ⟨a::b::rest,[]⟩) Q E s:=by
 subst hs
 unfold Builtin.«object.__init__»
 repeat (first | ((with_reducible refine dE ?hc ?_);(case hc=>first | exact Bool.false_ne_true | (simp only [bne_self_eq_false,Bool.false_eq_true,not_false_eq_true];done))) | lk)
 exact q
section
variable {c:Cx} {sc:Scope} {U D:Nat} {loc:Loc} {σ:AH}
theorem yV {C fN p:Addr} {mc:Value} {rest:List Value} {a1 a2 a3:AV} {R:AV→AH→Prop} (hm:yS c.K C=true) (hc:aGd c.K C=true) (ht:typeIn c.K (.ref C)=some mc) (hr:readsIn c.K C mc=true)
  (hob:subIn c.K (.ref C) (.type "object")=some true)
  (he:findCls c.K (.ref C) mc "__new__" = some (.get (.builtin "staticmethod.__get__") (.ref p) .none (.ref C))) (hp:recIn c.K p "staticmethod" = some (.ref fN::rest))
  (h:CdV c sc U D (.glob fN) [.glob C,a1,a2,a3] [] loc σ fun a σ'=>∃ m xs,a=.ref m∧σ'.get m=some (.mtup C xs)∧R a σ'):CdV c sc (U+3) (D+1) (.glob C) [a1,a2,a3] [] loc σ R:=fun A env L h₀ fm ρ X s Rr fv vs kvs S hfv hv hk K=>by
 cases hfv
 cases hk
 haveI hv':=hv
 refine hid ?_;intro ZZ zz
 obtain ⟨v1,v2,v3,hv1,hv2,hv3⟩:=vR hv
 obtain ⟨m,news,F,hm',H,N,nd⟩:100:=S.ex
 refine zz ?_;clear zz
 refine pL (mV (fm.X.keeps F.keep) hm) ?_
 refine cls_sm F fm.X ht hr he hp rfl ?_
 haveI fm':Fm c sc (A.under (.builtin "type.__call__" ⟨[.ref C,v1,v2,v3],[]⟩)) env L h₀ U D:=fm.at rfl (by show A.units+1+U≤_;exact (aOs (Tb rfl))) (by show A.depth+1+D≤_;exact yB) rfl
 haveI S1:St c.w.params h₀ L ρ σ loc X { s with toks:=s.toks+1 }:=St.stop (xs:=[]) S (fun b o _ hb=>hb) (s.toks+1)
 refine wpAny_call (h _ env L h₀ fm' ρ X _ (fun r s'=>match r with | .ok (.ret v)=>_ | .ok _=>False | .error e=>_) (.ref fN) [.ref C,v1,v2,v3] [] S1 (.glob _) (.cons (.glob _) hv') .nil fun ρ' σ' a obj s' hy1 va n' g' S' r'=>?_)
 obtain ⟨m',xs,e2,hg,hR⟩:2:=hy1
 subst e2
 cases va
 obtain ⟨o,ho,hlt,hor⟩:100:=S'.at hg
 obtain ⟨m2,news2,F2,_,_,_,_⟩:100:=S'.ex
 haveI X2:=fm.X.keeps F2.keep
 haveI Y2:=aAt (M:=model c.prog c.w) X2 hc
 cases hor with
 | mtup ws ep dd sl hw =>
 haveI T2:Looks (model c.prog c.w) s'.heap (typeOf (.ref (ρ' m'))) (.ref C):=(Looks.ld (part:=none) ho).andThen .now
 haveI I2:Looks (model c.prog c.w) s'.heap (isInstance (.ref (ρ' m')) (.ref C)) true:=T2.andThen Y2.self
 refine I2.here ?_
 refine And.intro rfl ?_
 haveI Tob:Looks (model c.prog c.w) s'.heap (isInstance (.ref (ρ' m')) (.type "object")) true:=T2.andThen (looks_subIn X2 hob)
 refine wpAny_bind (wpAny_bind (T2.here (Y2.init.here (wpAny_holding (wpAny_bind ?_)))))
 rw [oi_bind]
 refine wpAny_pure (wpAny_bind (wpAny_call ?_))
 refine codeAny_call_builtin oi_plain entry_oi (@check_slot (model c.prog c.w) _ _ _ "object.__init__" "object" "__init__" (.ref (ρ' m')) [v1,v2,v3] [] _ oi_kind oi_split Tob (by unfold argsOk;kernel_rfl) ?_)
 refine aPe T2 Y2.init Y2.made rfl ?_
 refine wpAny_pure ⟨rfl,?_⟩
 exact K ρ' σ' _ _ s' hR (.ref _ hlt) n' g' S' ⟨r'.os,r'.gens,r'.dr⟩
theorem tU {T id:String} {name:Str} {R:AV→List AV→AH→Prop} (ht:typeOf (.type T)=pure (.type "type")) (hs:Manifest.isStub T=false) (e:findCls c.K (.type T) (.type "type") name=some (.val (.builtin id))) (hh:handedIn (.builtin id)=true) (h:R (.bi id) [] σ):GmV c sc U D (.ty T) name loc σ R:=fun A env L h₀ fm ρ X s Q E ov pl S hv K=>by
 cases hv
 obtain ⟨m,news,F,_,_,_,_⟩:100:=S.ex
 refine method_type F fm.X ht hs e hh ?_
 haveI S1:St c.w.params h₀ L ρ σ loc X { s with toks:=s.toks+1 }:=St.stop (xs:=[]) S (fun b o _ hb=>hb) (s.toks+1)
 exact K ρ σ loc _ _ ⟨rfl,_,_,h,.bi _,.nil⟩ (Te _) (Agree.refl _ _) S1 ⟨rfl,.refl _,rfl⟩
end
def IsSq (h:Heap) (t:Addr) (items:Array Value):Prop:=∃ o,h.get? t=some o∧∃ n,o.data=.seq items n
theorem IsSq.extBut {h h':Heap} {a b items} (x:IsSq h a items) (hs:Heap.ExtBut b h h') (hab:a≠b):IsSq h' a items:=let ⟨o,ho,r⟩:=x;⟨o,hs a o hab ho,r⟩
theorem IsSq.push {h:Heap} {a items} (x:IsSq h a items) (o:Obj):IsSq (h.push o) a items:=let ⟨p,hp,r⟩:=x;⟨p,Heap.get?_push_of_some _ hp,r⟩
structure SqC (M:Model) (h:Heap) (v:Value):Prop where
 iter:Looks M h (specialOf v "__iter__") (some (.builtin "tuple.__iter__"))
 isT:Looks M h (isInstance v (.type "tuple")) true
section
variable {prog:Program} {w:World} {A:Around} {E:Value→Shared→Prop} {s:Shared}
theorem aLb {it t:Addr} {i:Nat} {items:Array Value} {x:Value} {Q:Option Value→Shared→Prop} (hit:IsTupIter s.heap it t i) (ht:IsSq s.heap t items) (hx:items[i]? = some x)
  (hQ:∀ h',IsTupIter h' it t (i+1)→Heap.SameBut it s.heap h'→Q (some x) { s with heap:=h' }):wpAny (model prog w) A (pyNext (.ref it)) Q E s:=by
 refine hid ?_;intro ZZ zz
 obtain ⟨o,ho,hc,hd⟩:=id hit
 obtain ⟨ol,hol,nl,hdl⟩:=ht
 refine zz ?_;clear zz
 unfold pyNext
 refine wpAny_bind (wpAny_attempt (wpAny_callSpecial?_slot (name:=Str.ofString "__next__") hit.typeIs slot_tupleiter_next
  (wpAny_call_entry slot_tupleiter_next hit.typeIs entry_tupleiter_next ?_ (args_tupleiter_next _))))
 show wpAny _ _ (field (.ref it) 0 >>= _) _ _ s
 refine wpAny_bind (wpAny_field ho hd (x:=.ref t) rfl ?_)
 show wpAny _ _ (if (Value.ref t==Value.none)=true then _ else _) _ _ s
 rw [if_neg (show ¬ ((Value.ref t==Value.none)=true) from Bool.false_ne_true)]
 show wpAny _ _ (field (.ref it) 1 >>= _) _ _ s
 refine wpAny_bind (wpAny_field ho hd (x:=.int i 0) rfl ?_)
 show wpAny _ _ (seqItems? (.ref t) >>= _) _ _ s
 refine wpAny_bind (wpAny_seqItems hol hdl ?_)
 simp only [Int.toNat_natCast,hx]
 refine wpAny_bind (wpAny_setField ho hd (by simp) (wpAny_pure ⟨x,rfl,wpAny_pure (hQ _ ?_ (Heap.SameBut.update ..))⟩))
 exact ⟨_,Heap.get?_update_self _ ho (Obj.isFreed_of_fields (Obj.data_mapFields hd _)),(Obj.cls_mapFields ..).trans hc,by
  rw [Obj.data_mapFields hd];simp [rawInt]⟩
theorem tV {α:Type} {Q:α→Shared→Prop} (hh:A.handled=none) (k:∀ o1 o2,o2.isFreed=false→o2.cls=.type "StopIteration" → E (.ref (s.heap.push o1).objs.size) { s with heap:=(s.heap.push o1).push o2 }):wpAny (model prog w) A (newExc (.type "StopIteration") [] >>= fun e=>raiseNew e) Q E s:=by
 refine wpAny_bind ?_
 unfold newExc newTuple
 refine wpAny_bind (wpAny_newObj_type ?_ (by size_fits))
 refine wpAny_bind (m:=firstArgMember _ _) (wpAny_of_eq (a:=Value.none) (by first | rfl | (simp only [firstArgMember];rfl)) ?_)
 refine wpAny_newObj_type ?_ (by size_fits)
 unfold raiseNew
 refine wpAny_bind (wpAny_handled ?_)
 rw [hh]
 exact wpAny_bind (wpAny_pure (wpAny_throw (k _ _ rfl rfl)))
theorem aPf {it t:Addr} {i:Nat} {items:Array Value} {Q:Option Value→Shared→Prop} (hh:A.handled=none) (hit:IsTupIter s.heap it t i) (ht:IsSq s.heap t items) (hx:items[i]? = none)
  (hQ:∀ h',Heap.ExtBut it s.heap h'→Q none { s with heap:=h' }):wpAny (model prog w) A (pyNext (.ref it)) Q E s:=by
 refine hid ?_;intro ZZ zz
 obtain ⟨o,ho,hc,hd⟩:=id hit
 obtain ⟨ol,hol,nl,hdl⟩:=ht
 refine zz ?_;clear zz
 unfold pyNext
 refine wpAny_bind (wpAny_attempt (wpAny_callSpecial?_slot (name:=Str.ofString "__next__") hit.typeIs slot_tupleiter_next
  (wpAny_call_entry slot_tupleiter_next hit.typeIs entry_tupleiter_next ?_ (args_tupleiter_next _))))
 show wpAny _ _ (field (.ref it) 0 >>= _) _ _ s
 refine wpAny_bind (wpAny_field ho hd (x:=.ref t) rfl ?_)
 show wpAny _ _ (if (Value.ref t==Value.none)=true then _ else _) _ _ s
 rw [if_neg (show ¬ ((Value.ref t==Value.none)=true) from Bool.false_ne_true)]
 show wpAny _ _ (field (.ref it) 1 >>= _) _ _ s
 refine wpAny_bind (wpAny_field ho hd (x:=.int i 0) rfl ?_)
 show wpAny _ _ (seqItems? (.ref t) >>= _) _ _ s
 refine wpAny_bind (wpAny_seqItems hol hdl ?_)
 simp only [Int.toNat_natCast,hx]
 refine wpAny_bind (wpAny_rule (wpAny_bind (wpAny_setField ho hd (by simp) ?_)))
 refine tV hh fun o1 o2 hf2 ho2=>?_
 refine wpAny_bind (wpAny_isInstance (T := "StopIteration") (b:=true) ⟨_,Heap.get?_push_size _ hf2,ho2⟩ isSubtype_stop ?_)
 exact wpAny_pure (hQ _ (((Heap.SameBut.update ..).extBut.push _).push _))
theorem aAv {it t:Addr} {items:Array Value} (hne:t≠it):∀ (n i:Nat) (s:Shared) (Q:List Value→Shared→Prop),IsTupIter s.heap it t i→IsSq s.heap t items→i+n≤items.size →
  (∀ h',IsTupIter h' it t (i+n)→Heap.SameBut it s.heap h'→Q ((items.toList.drop i).take n) { s with heap:=h' })→wpAny (model prog w) A (draw (.ref it) n) Q E s
 | 0,i,s,Q,hit,_,_,hQ=>by
  show wpAny _ _ (pure []) Q E s
  exact wpAny_pure (by simpa using hQ s.heap hit (Heap.SameBut.refl ..))
 | n+1,i,s,Q,hit,ht,hle,hQ=>by
  haveI hlt:i < items.size:=by exact (aCd hle)
  show wpAny _ _ (pyNext (.ref it) >>= _) Q E s
  refine wpAny_bind (aLb hit ht (x:=items[i]) (by simp [hlt]) fun h₁ hit₁ hs₁=>?_)
  refine wpAny_bind (wpAny_holding (aAv hne n (i+1) _ _ hit₁ (ht.extBut hs₁.extBut hne) (by exact (aFc hle)) fun h₂ hit₂ hs₂=>wpAny_pure ?_))
  haveI hd:items.toList.drop i=items[i]::items.toList.drop (i+1):=by simp [List.drop_eq_getElem_cons,hlt]
  haveI:=hQ h₂ (by rw [show i+(n+1)=i+1+n by lia];exact hit₂) (hs₁.trans hs₂)
  rw [hd,List.take_succ_cons] at this
  exact this
theorem aAw {t:Addr} {Q:Value→Shared→Prop} (Y:SqC (model prog w) s.heap (.ref t))
  (hQ:Q (.ref s.heap.objs.size) { s with heap:=s.heap.push { cls:=.type "tuple_iterator", data:=.fields #[.ref t,.int 0 0] } }) :
  wpAny (model prog w) A (pyIter (.ref t)) Q E s:=by
 unfold pyIter
 refine wpAny_bind (Y.iter.here ?_)
 show wpAny _ _ (callSpecialIfBoundUnlessNone? (.ref t) "__iter__" _ >>= _) Q E s
 simp only [callSpecialIfBoundUnlessNone?,bindSpecialIfBound?]
 refine wpAny_bind (wpAny_holding (wpAny_bind (wpAny_bind (Y.iter.here ?_))))
 simp only [slot_tuple_iter.bind]
 refine wpAny_bind (wpAny_askSetting (wpAny_ite ?_))
 have fin:∀ (Z:Option Value→Shared→Prop),(Z (some (.ref s.heap.objs.size)) { s with heap:=s.heap.push { cls:=.type "tuple_iterator", data:=.fields #[.ref t,.int 0 0] } })→∀ refuse:Sem Value,
   wpAny (model prog w) A (if (Value.builtin "tuple.__iter__" == Value.none)=true then (refuse >>= fun v=>pure (some v)) else (call (.builtin "tuple.__iter__") [.ref t] >>= fun v=>pure (some v))) Z E s:=fun Z hz refuse=>by
  simp only [builtin_beq_none,Bool.false_eq_true,if_false]
  refine wpAny_bind (wpAny_call ?_)
  refine codeAny_call_builtin (by decide +kernel) entry_tuple_iter (@check_slot (model prog w) _ _ _ "tuple.__iter__" "tuple" "__iter__" (.ref t) [] [] _ (by decide +kernel) (by decide +kernel) Y.isT (args_tuple_iter _) ?_)
  show wpAny _ _ (do ret (← newFields "tuple_iterator" [.ref t,rawInt 0])) _ _ s
  exact wpAny_bind (wpAny_newObj_type (wpAny_pure (wpAny_pure hz)))
 haveI fin2:wpAny (model prog w) A (match some (Value.ref s.heap.objs.size) with
   | some it=>specialOf it "__next__" >>= fun r=>match r with
    | none=>(rule "iter.non-iterator" >>= fun _=>typeNameOf it >>= fun n=>raiseError "TypeError" s!"iter() returned non-iterator of type '{n}'")
    | some _=>pure it
   | none=>pure Value.none) Q E { s with heap:=s.heap.push { cls:=.type "tuple_iterator", data:=.fields #[.ref t,.int 0 0] } }:=by
  refine wpAny_bind (wpAny_specialOf (T := "tuple_iterator") ⟨_,Heap.get?_push_size _ rfl,rfl⟩ slot_tupleiter_next.lookup (wpAny_pure hQ))
 haveI nx:wpAny (model prog w) A (specialOf (.ref s.heap.objs.size) "__next__") (fun r s'=>r.isSome=true∧s'={ s with heap:=s.heap.push { cls:=.type "tuple_iterator", data:=.fields #[.ref t,.int 0 0] } }) E { s with heap:=s.heap.push { cls:=.type "tuple_iterator", data:=.fields #[.ref t,.int 0 0] } } :=
  wpAny_specialOf (T := "tuple_iterator") ⟨_,Heap.get?_push_size _ rfl,rfl⟩ slot_tupleiter_next.lookup ⟨rfl,rfl⟩
 split
 ·refine wpAny_bind (wpAny_pure (wpAny_pure (fin _ ?_ _)))
  refine wpAny_bind (wpAny_mono nx (fun r s' z=>?_) fun _ _ z=>z)
  obtain ⟨z,rfl⟩:0:=z
  cases r with
  | none=>cases z
  | some r=>exact wpAny_pure hQ
 ·refine wpAny_tryCatch (wpAny_bind (wpAny_pure (wpAny_pure (fin _ ?_ _))))
  refine wpAny_bind (wpAny_mono nx (fun r s' z=>?_) fun _ _ z=>z)
  obtain ⟨z,rfl⟩:0:=z
  cases r with
  | none=>cases z
  | some r=>exact wpAny_pure hQ
theorem pN {t:Addr} {items:Array Value} {Q:List Value→Shared→Prop} (hh:A.handled=none) (Y:SqC (model prog w) s.heap (.ref t)) (ht:IsSq s.heap t items)
  (hQ:∀ h',Heap.ExtBut s.heap.objs.size s.heap h'→Q items.toList { s with heap:=h' }):wpAny (model prog w) A (unpackItems (.ref t) items.size none) Q E s:=by
 haveI hlt:t≠s.heap.objs.size:=by obtain ⟨o,ho,_⟩:=ht;exact Nat.ne_of_lt (Heap.lt_size ho)
 unfold unpackItems
 refine wpAny_bind ?_
 ·unfold notIterableAtAll
  refine wpAny_bind (Y.iter.here ?_)
  refine wpAny_pure ?_
  simp only [Bool.false_eq_true,if_false]
  refine wpAny_bind (wpAny_holding (aAw Y ?_))
  refine wpAny_bind (wpAny_holding (aAv hlt items.size 0 _ _ ⟨_,Heap.get?_push_size _ rfl,rfl,rfl⟩ (ht.push _) (by lia) fun h₁ hit₁ hs₁=>?_))
  haveI hall:List.take items.size (List.drop 0 items.toList)=items.toList:=by
   rw [List.drop_zero];exact List.take_of_length_le (by simp)
  rw [hall]
  rw [if_neg (by simp)]
  haveI ht₁:IsSq h₁ t items:=(ht.push _).extBut hs₁.extBut hlt
  refine wpAny_bind (wpAny_holding (aPf hh hit₁ ht₁ (by simp) fun h₂ he₂=>?_))
  simp only [Option.isSome_none,Bool.false_eq_true,if_false]
  refine wpAny_pure (hQ h₂ fun b o hb e=>he₂ b o hb (hs₁.extBut b o hb (Heap.get?_push_of_some _ e)))
theorem aCq {env:Env} {elts:List Expr} {x1} {pos:Pos} {t:Addr} {items:Array Value} {Q:Unit→Shared→Prop} (hh:A.handled=none) (Y:SqC (model prog w) s.heap (.ref t)) (ht:IsSq s.heap t items)
  (hn:(assignEach elts env).length=items.size) (hstar:(assignEach elts env).findIdx? (·.1)=none)
  (h:∀ h',Heap.ExtBut s.heap.objs.size s.heap h'→wpAny (model prog w) A (assignInOrder ((assignEach elts env).map (·.2)) items.toList) Q E { s with heap:=h' }) :
  wpAny (model prog w) A (assign (.Tuple elts x1 pos) env (.ref t)) Q E s:=by
 rw [PyProof.Rows.assign_Tuple]
 refine wpAny_bind (wpAny_standAt ?_)
 unfold unpack
 rw [hn,hstar]
 exact wpAny_bind (wpAny_holding (pN hh Y ht h))
end
noncomputable def aCr (K:Frag) (C:Addr):Bool:=findIn K (.ref C) "__iter__" == some (some (.builtin "tuple.__iter__"))&&subIn K (.ref C) (.type "tuple")==some true
section
variable {c:Cx} {sc:Scope} {U D:Nat} {loc:Loc} {σ:AH}
theorem aGf {elts:List Expr} {k:Nat} {pos:Pos} {j:Nat} {C:Addr} {as:List AV} {R:Loc→AH→Prop} (hC:aCr c.K C=true) (e:σ.get j=some (.mtup C as))
  (he:∀ env,(assignEach elts env).map (·.2)=elts.map fun t=>assign t env) (hl:∀ env,(assignEach elts env).length=elts.length) (hn:elts.length=as.length) (hstar:∀ env,(assignEach elts env).findIdx? (·.1)=none)
  (h:AsL c sc U D elts as loc σ R):As1 c sc U D (.Tuple elts k pos) (.ref j) loc σ R:=fun A env L h₀ fm ρ X s Q E v S hv K=>by
 cases hv
 obtain ⟨o,ho,hlt,hr⟩:100:=S.at e
 obtain ⟨m,news,F,_,_,_,_⟩:100:=S.ex
 simp only [aCr,Bool.and_eq_true,beq_iff_eq] at hC
 haveI X2:=fm.X.keeps F.keep
 cases hr with
 | mtup vs n d sl hr =>
 haveI hlen:=hr.length
 haveI T2:Looks (model c.prog c.w) s.heap (typeOf (.ref (ρ j))) (.ref C):=(Looks.ld (part:=none) ho).andThen .now
 haveI Y:SqC (model c.prog c.w) s.heap (.ref (ρ j)):=⟨T2.andThen (looks_findIn X2 hC.1),T2.andThen (looks_subIn X2 hC.2)⟩
 refine aCq fm.hh Y ⟨_,ho,n,rfl⟩ (by rw [hl,hn];simp [hlen]) (hstar env) fun h' he'=>?_
 rw [he]
 haveI S':St c.w.params h₀ L ρ σ loc X { s with heap:=h' }:=St.stop (xs:=[]) (t:=s.toks) S (fun b o _ hb=>he' b o (Nat.ne_of_lt (Heap.lt_size hb)) hb)
 exact h A env L h₀ fm ρ X _ Q E _ S' hr fun ρ' σ' loc' s' o n' g' S' r'=>K ρ' σ' loc' s' o n' g' S' ⟨r'.os,r'.gens,r'.dr⟩
end
noncomputable def vV {α:Type} (lt:Nat→Nat→Bool):KasT α→α
 | .ret a=>a
 | .ask i j k=>vV lt (k (lt i j))
noncomputable def okT {α:Type} (n:Nat) (lt:Nat→Nat→Bool):KasT α→Bool
 | .ret _=>true
 | .ask i j k=>decide (i < n)&&decide (j < n)&&decide (i≠j)&&okT n lt (k (lt i j))
theorem aAx {α:Type} {n:Nat} {lt:Nat→Nat→Bool} {i j:Nat} {k:Bool→KasT α}:okT n lt (.ask i j k)=(decide (i < n)&&decide (j < n)&&decide (i≠j)&&okT n lt (k (lt i j))):=rfl
theorem aAy {α:Type} {n:Nat} {lt:Nat→Nat→Bool} {cmp:Nat→Nat→(Bool→Shared→Prop)→Shared→Prop} {J:Shared→Prop} (hc:∀ i j (C:Bool→Shared→Prop) s,i < n→j < n→i≠j→J s→(∀ s',J s'→C (lt i j) s')→cmp i j C s) :
  ∀ (t:KasT α) (Q:α→Shared→Prop) s,okT n lt t=true→J s→(∀ s',J s'→Q (vV lt t) s')→t.kasWp cmp Q s
 | .ret a,Q,s,_,hJ,h=>h s hJ
 | .ask i j k,Q,s,ho,hJ,h=>by
  rw [aAx] at ho
  simp only [Bool.and_eq_true,decide_eq_true_eq] at ho
  exact hc i j _ s ho.1.1.1 ho.1.1.2 ho.1.2 hJ fun s' hJ'=>aAy hc (k (lt i j)) Q s' ho.2 hJ' h
section
variable {n:Nat} {key:Nat→Int}
noncomputable def sat (n:Nat) (key:Nat→Int) {α:Type} (Q:α→Prop):KasT α→Prop
 | .ret a=>Q a
 | .ask i j k=>i < n∧j < n∧i≠j∧sat n key Q (k (decide (key i < key j)))
theorem aAz {α:Type} {Q:α→Prop}:∀ t:KasT α,sat n key Q t→okT n (fun i j=>decide (key i < key j)) t=true∧Q (vV (fun i j=>decide (key i < key j)) t)
 | .ret a,h=>⟨rfl,h⟩
 | .ask i j k,h=>by
  obtain ⟨h1,h2,h3,h4⟩:=h
  obtain ⟨a,b⟩:0:=aAz (k _) h4
  refine ⟨?_,b⟩
  rw [aAx]
  simp only [Bool.and_eq_true,decide_eq_true_eq]
  exact ⟨⟨⟨h1,h2⟩,h3⟩,a⟩
theorem cW {α:Type} {Q Q':α→Prop} (hq:∀ a,Q a→Q' a):∀ t:KasT α,sat n key Q t→sat n key Q' t
 | .ret a,h=>hq a h
 | .ask i j k,h=>⟨h.1,h.2.1,h.2.2.1,cW hq (k _) h.2.2.2⟩
theorem fR {α β:Type} {Q:β→Prop} {f:α→KasT β}:∀ t:KasT α,sat n key (fun a=>sat n key Q (f a)) t→sat n key Q (t.bind f)
 | .ret a,h=>h
 | .ask i j k,h=>⟨h.1,h.2.1,h.2.2.1,fR (k _) h.2.2.2⟩
theorem aGg {α:Type} {l:List α} (h:l.Nodup) {i j:Nat} (hi:i < l.length) (hj:j < l.length) (e:l[i]=l[j]):i=j:=by
 haveI:=List.pairwise_iff_getElem.mp h
 rcases Nat.lt_trichotomy i j with q | q | q
 ·exact absurd e (this i j hi hj q)
 ·exact q
 ·exact absurd e.symm (this j i hj hi q)
structure Pm (n:Nat) (p:Array Nat):Prop where
 z:p.size=n
 p:p.Perm (List.range n).toArray
theorem ga (p:Array Nat) (i:Nat):p.getD i 0=(p[i]?).getD 0:=Array.getD_eq_getD_getElem? ..
theorem Pm.lt {p:Array Nat} (h:Pm n p) {i:Nat} (hi:i < n):p.getD i 0 < n:=by
 haveI e:p.getD i 0=p[i]'(by rw [h.z];exact hi):=by simp [ga,h.z,hi]
 rw [e]
 haveI:=(h.p.mem_iff (a:=p[i]'(by rw [h.z];exact hi))).mp (Array.getElem_mem _)
 simpa using this
theorem Pm.ne {p:Array Nat} (h:Pm n p) {i j:Nat} (hi:i < n) (hj:j < n) (hij:i≠j):p.getD i 0≠p.getD j 0:=by
 have e:∀ i (hi:i < n),p.getD i 0=p.toList[i]'(by rw [Array.length_toList,h.z];exact hi):=fun i hi=>by simp [ga,h.z,hi]
 haveI hn:p.toList.Nodup:=(h.p.toList.nodup_iff).mpr (by simpa using List.nodup_range)
 rw [e i hi,e j hj]
 intro q
 exact hij (aGg hn _ _ q)
def Asc (key:Nat→Int) (p:Array Nat) (m:Nat):Prop:=∀ i j,i < j→j < m→key (p.getD i 0) < key (p.getD j 0)
def Dsc (key:Nat→Int) (p:Array Nat) (m:Nat):Prop:=∀ i j,i < j→j < m→key (p.getD j 0) < key (p.getD i 0)
variable (hk:∀ i j,i < n→j < n→i≠j→key i≠key j)
include hk
theorem tW {p:Array Nat} (h:Pm n p):∀ (f m:Nat),0 < m→m+f=n→Asc key p m→sat n key (fun r=>m≤r∧r≤n∧Asc key p r∧(r < n→key (p.getD r 0) < key (p.getD (r - 1) 0))) (kas_asc p f m)
 | 0,m,h0,hm,ha=>⟨Te _,by exact (Nat.le_of_eq hm),ha,fun q=>absurd q (Nat.not_lt_of_le (Nat.le_of_eq hm.symm))⟩
 | f+1,m,h0,hm,ha=>by
  haveI n1:=h.ne (i:=m) (j:=m - 1) (by exact (iC hm)) (by exact (iD (iC hm))) (by exact (Nat.ne_of_gt (dQ h0)))
  refine ⟨h.lt (by exact (iC hm)),h.lt (by exact (iD (iC hm))),n1,?_⟩
  by_cases c:key (p.getD m 0) < key (p.getD (m - 1) 0)
  ·rw [decide_eq_true c]
   exact ⟨Te _,by exact (Nat.le_of_lt (iC hm)),ha,fun _=>c⟩
  ·rw [decide_eq_false c]
   haveI c2:=hk _ _ (h.lt (i:=m) (by exact (iC hm))) (h.lt (i:=m - 1) (by exact (iD (iC hm)))) n1
   refine cW (fun r q=>⟨by exact (Nat.le_of_lt q.1),q.2⟩) _ (tW h f (m+1) (Nat.succ_pos m) (by exact (aCe hm)) fun i j hij hj=>?_)
   by_cases e:j=m
   ·subst e
    by_cases e2:i=j - 1
    ·subst e2;exact aKk c c2
    ·exact Int.lt_trans (ha i (j - 1) (aTa hij e2) (dQ h0)) (aKk c c2)
   ·exact ha i j hij (by exact (aFe hj e))
theorem vW {p:Array Nat} (h:Pm n p):∀ (f m:Nat),0 < m→m+f=n→Dsc key p m→sat n key (fun r=>r.1=p∧r.2.2=0∧m≤r.2.1∧r.2.1≤n∧Dsc key p r.2.1) (kas_desc f p m 0)
 | 0,m,h0,hm,ha=>⟨rfl,rfl,Te _,by show m≤n;exact (Nat.le_of_eq hm),ha⟩
 | f+1,m,h0,hm,ha=>by
  haveI n1:=h.ne (i:=m) (j:=m - 1) (by exact (iC hm)) (by exact (iD (iC hm))) (by exact (Nat.ne_of_gt (dQ h0)))
  refine ⟨h.lt (by exact (iC hm)),h.lt (by exact (iD (iC hm))),n1,?_⟩
  by_cases c:key (p.getD m 0) < key (p.getD (m - 1) 0)
  ·rw [decide_eq_true c]
   refine cW (fun r q=>⟨q.1,q.2.1,by exact (Nat.le_of_lt q.2.2.1),q.2.2.2⟩) _ (vW h f (m+1) (Nat.succ_pos m) (by exact (aCe hm)) fun i j hij hj=>?_)
   by_cases e:j=m
   ·subst e
    by_cases e2:i=j - 1
    ·subst e2;exact c
    ·exact Int.lt_trans c (ha i (j - 1) (aTa hij e2) (dQ h0))
   ·exact ha i j hij (by exact (aFe hj e))
  ·rw [decide_eq_false c]
   haveI c2:=hk _ _ (h.lt (i:=m) (by exact (iC hm))) (h.lt (i:=m - 1) (by exact (iD (iC hm)))) n1
   refine ⟨h.lt (by exact (iD (iC hm))),h.lt (by exact (iC hm)),fun q=>n1 q.symm,?_⟩
   rw [decide_eq_true (aKk c c2)]
   exact ⟨rfl,rfl,Te _,by show m≤n;exact (Nat.le_of_lt (iC hm)),ha⟩
omit hk in
theorem Pm.rev {p:Array Nat} (h:Pm n p) (i j:Nat):Pm n (kas_rev p i j):=⟨(mirror_size ..).trans h.z,(mirror_perm ..).trans h.p⟩
theorem aGh {p:Array Nat} (h:Pm n p) {m:Nat} (h0:0 < m) (hm:m≤n) (hd:Dsc key p m):sat n key (fun r=>Pm n r.2∧0 < r.1∧r.1≤n∧Asc key r.2 r.1) (kas_tail3 m n p):=by
 unfold kas_tail3
 haveI hz:=h.z
 refine fR _ (cW (fun r q=>?_) _ (tW hk (h.rev 0 m) (n - m) m h0 (by exact (Nat.add_sub_of_le hm)) fun i j hij hj=>?_))
 ·exact ⟨h.rev 0 m,by show 0 < r;exact (Tc h0 q.1),q.2.1,q.2.2.1⟩
 ·unfold kas_rev
  simp only [ga]
  rw [getElem?_mirror_all (by exact (oY hz hm)),getElem?_mirror_all (by exact (oY hz hm)),if_pos (by lia),if_pos (by lia)]
  haveI:=hd (0+m - 1 - j) (0+m - 1 - i) (aTb hij hj) (aOy h0)
  simp only [ga] at this
  exact this
theorem aCs {p:Array Nat} (h:Pm n p) (hn:2≤n) (c:key (p.getD 1 0) < key (p.getD 0 0)):sat n key (fun r=>Pm n r.2∧0 < r.1∧r.1≤n∧Asc key r.2 r.1) (kas_descPart 1 n p):=by
 unfold kas_descPart
 refine fR _ (cW (fun r q=>?_) _ (vW hk h (n - (1+1)) (1+1) (by exact (Tb rfl)) (by exact (Nat.add_sub_of_le hn)) fun i j hij hj=>?_))
 ·obtain ⟨rp,rn,rq⟩:=r
  obtain ⟨q1,q2,q3,q4,q5⟩:0:=q
  dsimp only at q1 q2 q3 q4 q5 ⊢
  subst q1 q2
  rw [if_neg (by exact (Nat.not_lt_of_le (Tb rfl)))]
  exact aGh hk h (by exact (Nat.lt_of_succ_lt q3)) q4 q5
 ·obtain rfl:i=0:=Nat.lt_one_iff.mp (Tc hij (Nat.le_of_lt_succ hj))
  obtain rfl:j=1:=Nat.le_antisymm (Nat.le_of_lt_succ hj) hij
  exact c
theorem aCt {p:Array Nat} (h:Pm n p) (hn:2≤n):sat n key (fun r=>Pm n r.2∧0 < r.1∧r.1≤n∧Asc key r.2 r.1) (kas_count n p):=by
 unfold kas_count
 refine fR _ (cW (fun r q=>?_) _ (tW hk h (n - 1) 1 (by exact (Tb rfl)) (by exact (Nat.add_sub_of_le (Nat.le_of_lt hn))) fun i j hij hj=>by (exfalso;lia)))
 obtain ⟨q1,q2,q3,q4⟩:0:=q
 by_cases c:r=n
 ·subst c
  rw [if_pos (by simp)]
  exact ⟨h,by show 0 < r;assumption,Te _,q3⟩
 ·rw [if_neg (by simpa using c)]
  by_cases c2:r > 1
  ·rw [if_pos c2]
   refine ⟨h.lt (by exact (Nat.lt_of_succ_lt hn)),h.lt (by exact (fL q1 q2)),h.ne (by exact (Nat.lt_of_succ_lt hn)) (by exact (fL q1 q2)) (by exact (Nat.ne_of_lt (Nat.sub_pos_of_lt c2))),?_⟩
   rw [decide_eq_true (q3 0 (r - 1) (by exact (Nat.sub_pos_of_lt c2)) (by exact (dQ q1)))]
   exact ⟨h,by show 0 < r;assumption,q2,q3⟩
  ·rw [if_neg c2]
   haveI:r=1:=by lia
   subst this
   exact aCs hk h hn (q4 (by assumption))
theorem mW {p:Array Nat} (h:Pm n p) {k:Nat} (hkn:k < n):∀ (f l r:Nat),l≤r→r≤k→r - l≤f→(∀ i,i < l→key (p.getD i 0) < key (p.getD k 0))→(∀ i,r≤i→i < k→key (p.getD k 0) < key (p.getD i 0))→Asc key p k →
  sat n key (fun l=>l≤k∧(∀ i,i < l→key (p.getD i 0) < key (p.getD k 0))∧∀ i,l≤i→i < k→key (p.getD k 0) < key (p.getD i 0)) (kas_place p k f l r)
 | 0,l,r,h1,h2,h3,h4,h5,ha=>⟨by exact (Ta h1 h2),h4,fun i a b=>h5 i (Ta (Nat.le_of_sub_eq_zero (Nat.eq_zero_of_le_zero h3)) a) b⟩
 | f+1,l,r,h1,h2,h3,h4,h5,ha=>by
  unfold kas_place
  by_cases c:l≥r
  ·rw [if_pos c];exact ⟨by exact (Ta h1 h2),h4,fun i a b=>h5 i (by exact (Ta c a)) b⟩
  ·rw [if_neg c]
   haveI cl:=Nat.lt_of_not_le c
   haveI u1:=aTc cl
   haveI u2:=aTd cl
   haveI u3:=Tc u2 h2
   haveI n1:=h.ne hkn (Nat.lt_trans u3 hkn) (Nat.ne_of_gt u3)
   refine ⟨h.lt hkn,h.lt (Nat.lt_trans u3 hkn),n1,?_⟩
   by_cases d:key (p.getD k 0) < key (p.getD ((l+r) / 2) 0)
   ·rw [decide_eq_true d]
    show sat n key _ (kas_place p k f l ((l+r) / 2))
    refine mW h hkn f l ((l+r) / 2) u1 (Nat.le_of_lt u3) (Nat.le_of_lt_succ (Tc (Nat.sub_lt_sub_right u1 u2) h3)) h4 (fun i a b=>?_) ha
    by_cases e:i=(l+r) / 2
    ·subst e;exact d
    ·exact Int.lt_trans d (ha ((l+r) / 2) i (aOv a e) b)
   ·rw [decide_eq_false d]
    show sat n key _ (kas_place p k f ((l+r) / 2+1) r)
    haveI c2:=aKk d (hk _ _ (h.lt hkn) (h.lt (Nat.lt_trans u3 hkn)) n1)
    refine mW h hkn f ((l+r) / 2+1) r u2 h2 (aKf h3 Nat.one_ne_zero u1) (fun i a=>?_) h5 ha
    by_cases e:i=(l+r) / 2
    ·subst e;exact c2
    ·exact Int.lt_trans (ha i ((l+r) / 2) (aFe a e) u3) c2
theorem aBa:∀ (f:Nat) {p:Array Nat} (k:Nat),Pm n p→f+k=n→Asc key p k→sat n key (fun p=>Pm n p∧Asc key p n) (kas_bin f p k)
 | 0,p,k,h,hf,ha=>⟨h,by rw [← hf.symm.trans (Nat.zero_add k)] at ha;exact ha⟩
 | f+1,p,k,h,hf,ha=>by
  unfold kas_bin
  haveI hz:=h.z
  refine fR _ (cW (fun l q=>?_) _ (mW hk h (k:=k) (hf▸Nat.lt_add_of_pos_left (Nat.succ_pos f)) k 0 k (Nat.zero_le k) (Te _) (Nat.sub_le k 0) (fun i hi=>absurd hi (Nat.not_lt_zero i)) (fun i a b=>absurd b (Nat.not_lt_of_le a)) ha))
  obtain ⟨q1,q2,q3⟩:0:=q
  refine aBa f (k+1) ⟨(bubble_size ..).trans h.z,(bubble_perm ..).trans h.p⟩ ((Nat.add_right_comm f 1 k).symm.trans hf) fun i j hij hj=>?_
  have e:∀ i,(bubble p k (k - l)).getD i 0=if i=l then p.getD k 0 else if l < i∧i≤k then p.getD (i - 1) 0 else p.getD i 0:=fun i=>by
   simp only [ga]
   rw [getElem?_bubble (by lia) _ (by grind),show k - (k - l)=l by exact (Nat.sub_sub_self q1)]
   split
   ·rfl
   ·split <;> rfl
  rw [e,e]
  by_cases a1:i=l
  ·rw [if_pos a1,if_neg (by exact (Nat.ne_of_gt (aFf a1 hij))),if_pos ⟨aFf a1 hij,Nat.le_of_lt_succ hj⟩]
   exact q3 _ (Nat.le_sub_one_of_lt (aFf a1 hij)) (by exact (fL (aAq hij) (Nat.le_of_lt_succ hj)))
  ·rw [if_neg a1]
   by_cases a2:l < i
   ·rw [if_pos ⟨a2,Ta (Nat.le_of_lt hij) (Nat.le_of_lt_succ hj)⟩,if_neg (by exact (Nat.ne_of_gt (Nat.lt_trans a2 hij))),if_pos ⟨Nat.lt_trans a2 hij,Nat.le_of_lt_succ hj⟩]
    exact ha _ _ (Nat.sub_lt_sub_right (Nat.succ_le_of_lt (Td (Nat.zero_le l) a2)) hij) (by exact (fL (aAq hij) (Nat.le_of_lt_succ hj)))
   ·haveI il:=Nat.lt_of_le_of_ne (Nat.le_of_not_lt a2) a1
    rw [if_neg fun z=>a2 z.1]
    by_cases b1:j=l
    ·rw [if_pos b1];exact q2 i (by exact (kL b1 hij))
    ·rw [if_neg b1]
     by_cases b2:l < j
     ·rw [if_pos ⟨b2,Nat.le_of_lt_succ hj⟩]
      by_cases b3:j - 1=i
      ·exact absurd il (Nat.not_lt_of_le (b3▸Nat.le_sub_one_of_lt b2))
      ·exact ha _ _ (Tc il (Nat.le_sub_one_of_lt b2)) (by exact (fL (aAq b2) (Nat.le_of_lt_succ hj)))
     ·rw [if_neg fun z=>b2 z.1];exact ha _ _ hij (Tc (Nat.lt_of_le_of_ne (Nat.le_of_not_lt b2) b1) q1)
theorem aGi (hn:2≤n):sat n key (fun p=>Pm n p∧Asc key p n) (kas_sort n):=by
 unfold kas_sort
 haveI h:Pm n (List.range n).toArray:=⟨by simp,Array.Perm.refl _⟩
 refine fR _ (cW (fun r q=>?_) _ (aCt hk h hn))
 obtain ⟨q1,q2,q3,q4⟩:0:=q
 by_cases c:r.1 < n
 ·rw [if_pos c]
  haveI:max r.1 1=r.1:=by lia
  rw [this]
  exact aBa hk _ _ q1 (by exact (Nat.sub_add_cancel q3)) q4
 ·rw [if_neg c]
  exact ⟨q1,by rw [show n=r.1 by exact (aNj q3 c)];exact q4⟩
end
theorem aLc {β:Type} (key:β→Int):∀ (xs ys:List β),xs.Perm ys→xs.Pairwise (fun a b=>key a < key b)→ys.Pairwise (fun a b=>key a < key b)→xs=ys:=fun xs ys h h1 h2 =>
 h.eq_of_pairwise (le:=fun a b=>key a < key b) (fun a b _ _ u v=>absurd (Int.lt_trans u v) (Int.lt_irrefl _)) h1 h2
theorem aLd {β:Type} (key:β→Int) (d:β) {xs ys:List β} (hp:xs.Perm ys) (hs:ys.Pairwise (fun a b=>key a < key b)) (h2:2≤xs.length) :
  okT xs.length (fun i j=>decide (key (xs.getD i d) < key (xs.getD j d))) (kas_sort xs.length)=true ∧
  (vV (fun i j=>decide (key (xs.getD i d) < key (xs.getD j d))) (kas_sort xs.length)).toList.map (fun i=>xs.getD i d)=ys ∧
  ∀ i∈(vV (fun i j=>decide (key (xs.getD i d) < key (xs.getD j d))) (kas_sort xs.length)).toList,i < xs.length:=by
 haveI hnd:(xs.map key).Nodup:=((hp.map key).nodup_iff).mpr ((List.pairwise_map.mpr hs).imp fun h=>Int.ne_of_lt h)
 have hk:∀ i j,i < xs.length→j < xs.length→i≠j→key (xs.getD i d)≠key (xs.getD j d):=fun i j hi hj hij q=>by
  have e:∀ i (hi:i < xs.length),key (xs.getD i d)=(xs.map key)[i]'(by simpa using hi):=fun i hi=>by simp [hi]
  rw [e i hi,e j hj] at q
  exact hij (aGg hnd _ _ q)
 obtain ⟨a,b,c⟩:=aAz _ (aGi (key:=fun i=>key (xs.getD i d)) hk h2)
 refine ⟨a,?_,fun i hi=>?_⟩
 ·generalize vV (fun i j=>decide (key (xs.getD i d) < key (xs.getD j d))) (kas_sort xs.length)=p at b c
  haveI hl:p.toList.length=xs.length:=by rw [Array.length_toList,b.z]
  refine aLc key _ _ ?_ ?_ hs
  ·haveI h1:(p.toList.map fun i=>xs.getD i d).Perm ((List.range xs.length).map fun i=>xs.getD i d):=(b.p.toList.map _).trans (by simp)
   refine h1.trans (List.Perm.trans (List.Perm.of_eq ?_) hp)
   apply List.ext_getElem
   ·simp
   ·intro i h1 h2;simp at h1;simp [h1]
  ·rw [List.pairwise_map]
   refine List.pairwise_iff_getElem.mpr fun i j hi hj hij=>?_
   haveI:=c i j hij (by exact (kL hl hj))
   have e:∀ i (hi:i < p.toList.length),p.getD i 0=p.toList[i]:=fun i hi=>by rw [Array.length_toList] at hi;simp [ga,hi]
   rw [e i hi,e j hj] at this
   exact this
 ·haveI:=b.p.toList.mem_iff.mp hi
  simpa using this
theorem St.setK {P:Params} {h₀:Heap} {L:Addr} {ρ:Nat→Addr} {σ:AH} {loc:Loc} {X:List (Addr×Obj)} {s:Shared} {k:Nat} {a a':AO} {o':Obj} {h':Heap} (S:St P h₀ L ρ σ loc X s) (e:σ.get k=some a)
  (hs:∀ b o,b≠ρ k→s.heap.get? b=some o→h'.get? b=some o) (ho:h'.get? (ρ k)=some o') (hr:OR P ρ σ.nx a' o') (t:Nat):St P h₀ L ρ (σ.set k a') loc X { s with heap:=h',toks:=t }:=by
 obtain ⟨m,news,F,hm,H,N,nd⟩:100:=S.ex
 obtain ⟨o,news',c1,c2,c3,c4,c5⟩:100:=HR.set (fun _=>o') H e nd (fun _ _=>hr)
 obtain ⟨pre,post,q1,q2,a1,a2⟩:2:=c4.split
 haveI hi:=N _ (Th _ c2)
 refine ⟨m,news',?_,hm,c3,?_,c5⟩
 ·refine hid ?_;intro ZZ zz
  obtain ⟨oL,es,ep,hL,r⟩:=F.ns
  refine zz ?_;clear zz
  refine ⟨⟨oL,es,ep,hs L oL (fun q=>hi.2.1 q.symm) hL,r⟩,fun b ob e=>hs b ob (fun q=>?_) (F.keep b ob e),F.above⟩
  haveI:=hi.2.2
  rw [← q,e] at this;cases this
 ·rw [q2]
  rw [q1] at N
  intro p hp
  rcases List.mem_append.mp hp with hp | hp
  ·haveI z:=N p (Th _ hp)
   exact ⟨hs _ _ (a1 p hp) z.1,z.2⟩
  ·rcases Tf hp with rfl | hp
   ·exact ⟨ho,hi.2⟩
   ·haveI z:=N p (Ti _ (.tail _ hp))
    exact ⟨hs _ _ (a2 p hp) z.1,z.2⟩
section
variable {c:Cx} {sc:Scope} {U D:Nat} {loc:Loc} {σ:AH}
theorem aLe {k:Nat} {xs:List AV} {a:AV} {R:AV→AH→Prop} (e:σ.get k=some (.list (xs++[a]))) (hf:xs.length < 2 ^ 20) (h:R a (σ.set k (.list xs))):ClV c sc U D (.bi "list.pop") [.ref k] loc σ R:=fun A env L h₀ fm ρ X s Q E fv vs S hfv hv K=>by
 cases hfv
 obtain ⟨v1,hv1⟩:=hY hv
 cases hv1
 obtain ⟨o,ho,hk,hr⟩:100:=S.at e
 cases hr with
 | list vs n hr =>
 refine hid ?_;intro ZZ zz
 obtain ⟨m,news,F,hm,H,N,nd⟩:100:=S.ex
 obtain ⟨us,v,rfl,hus,hv⟩:∃ us v,vs=us++[v]∧VRs ρ σ.nx xs us∧VR ρ σ.nx a v:=by
  clear hv ho F N hm H nd S K h e
  induction xs generalizing vs with
  | nil=>cases hr with | cons h1 h2=>cases h2;exact ⟨[],_,rfl,.nil,h1⟩
  | cons x xs ih =>
   cases hr with
   | cons h1 h2 =>
    obtain ⟨us,v,e,h3,h4⟩:2:=ih (by simp at hf;exact (Nat.lt_of_succ_lt hf)) _ h2
    exact ⟨_::us,v,by rw [e];rfl,.cons h1 h3,h4⟩
 refine zz ?_;clear zz
 haveI hlen:=hus.length
 haveI hy:(us++[v]).toArray[(us++[v]).toArray.size - 1]? = some v:=by
  haveI hk:(us++[v]).toArray.size - 1=us.length:=by rw [List.size_toArray,List.length_append];rfl
  rw [hk];simp
 refine call_meets PySem.F.slot_list_pop ⟨_,ho,rfl⟩ PySem.F.entry_list_pop (PySem.F.args_list_pop_1 _) (PySem.MeetsSeq.list_pop_last (ρ k) _ n v hy (by simp [sizeLine_eq];lia)) ⟨ho,?_⟩
 haveI hk1:(us++[v]).toArray.size - 1=us.length:=by rw [List.size_toArray,List.length_append];rfl
 rw [hk1]
 haveI he:(us++[v]).toArray.eraseIdxIfInBounds us.length=us.toArray:=by rw [kl_erase,List.append_nil]
 haveI q:=PySem.IsL.update (f:=fun xs=>xs.eraseIdxIfInBounds us.length) (show PySem.IsL s.heap (ρ k) (us++[v]).toArray n from ho)
 rw [he] at q
 exact K ρ _ _ _ _ h hv (Te _) (Agree.refl _ _) (St.setK S e (fun b o hb hg=>((Heap.SameBut.update s.heap (ρ k) _).2 b hb).trans hg) q (.list _ _ _ hus) _) ⟨rfl,.refl _,rfl⟩
end
noncomputable def aTj (K:Frag) (C:Addr):Bool:=findIn K (.ref C) "__lt__" == some (some (.builtin "tuple.__lt__"))&&subIn K (.ref C) (.type "tuple")==some true
section
variable {prog:Program} {w:World} {A:Around} {E:Value→Shared→Prop} {s:Shared}
theorem aCu {a b:Addr} {i j:Int} {t u:Tok} {xs ys:List Value} {Q:Bool→Shared→Prop} (hu:A.units < cLine) (hl:Looks (model prog w) s.heap (specialOf (.ref a) "__lt__") (some (.builtin "tuple.__lt__"))) (ia:Looks (model prog w) s.heap (isInstance (.ref a) (.type "tuple")) true) (ib:Looks (model prog w) s.heap (isInstance (.ref b) (.type "tuple")) true)
  (ha:IsSq s.heap a (Value.int i t::xs).toArray) (hb:IsSq s.heap b (Value.int j u::ys).toArray) (hij:i≠j) (h:Q (decide (i < j)) s):wpAny (model prog w) A (oneLt' true (.ref a) (.ref b)) Q E s:=by
 rw [oneLt'_eq]
 simp only [if_true]
 refine wpAny_bind (wpAny_cRoomFor hu ?_)
 unfold callSpecialIfBound? bindSpecialIfBound?
 refine wpAny_bind (wpAny_holding (wpAny_bind (wpAny_bind (hl.here ?_))))
 simp only [PySem.F.slot_tuple_lt.bind]
 refine wpAny_bind (wpAny_askSetting (wpAny_ite ?_))
 have fin:∀ (Z:Option Value→Shared→Prop),Z (some (.bool (decide (i < j)))) s→wpAny (model prog w) A (call (.builtin "tuple.__lt__") ([.ref a]++[.ref b]) >>= fun v=>pure (some v)) Z E s:=fun Z hz=>by
  refine wpAny_bind (wpAny_call ?_)
  refine codeAny_call_builtin (by decide +kernel) PySem.F.entry_tuple_lt (@check_slot (model prog w) _ _ _ "tuple.__lt__" "tuple" "__lt__" (.ref a) [.ref b] [] _ (by decide +kernel) (by decide +kernel) ia (PySem.F.args_tuple_lt_2 _ _) ?_)
  show wpAny _ _ (isInstance (.ref b) (.type "tuple") >>= _) _ _ s
  refine wpAny_bind (ib.here ?_)
  simp only [Bool.not_true,Bool.false_eq_true,if_false]
  refine hid ?_;intro ZZ zz
  obtain ⟨oa,hoa,na,hda⟩:=ha
  obtain ⟨ob,hob,nb,hdb⟩:=hb
  refine zz ?_;clear zz
  refine wpAny_bind (wpAny_bind (wpAny_seqItems hoa hda (wpAny_pure ?_)))
  refine wpAny_bind (wpAny_bind (wpAny_seqItems hob hdb (wpAny_pure ?_)))
  simp only [List.zip_cons_cons,List.forIn_cons]
  refine wpAny_bind (wpAny_bind (wpAny_bind (wpAny_eqBool_int ?_)))
  rw [show (i==j)=false from beq_eq_false_iff_ne.mpr hij]
  simp only [Bool.not_false,if_true]
  refine wpAny_bind (wpAny_rule (wpAny_bind ?_))
  refine wpAny_mono (Q:=fun v s'=>v=.bool (decide (i < j))∧s'=s) (show wpAny _ _ (compareOp .Lt (.int i t) (.int j u)) _ _ s from lt_int ⟨rfl,rfl⟩) (fun v s' z=>?_) fun _ _ z=>z
  obtain ⟨rfl,rfl⟩:0:=z
  exact wpAny_bind (wpAny_pure (wpAny_pure (wpAny_pure (wpAny_pure (wpAny_pure hz)))))
 split
 ·refine wpAny_bind (wpAny_pure (wpAny_pure (fin _ ?_)))
  exact wpAny_truthy_bool h
 ·refine wpAny_tryCatch (wpAny_bind (wpAny_pure (wpAny_pure (fin _ ?_))))
  exact wpAny_truthy_bool h
end
section
variable {c:Cx} {sc:Scope} {U D:Nat} {loc:Loc} {σ:AH}
theorem oR {ρ:Nat→Addr} {n:Nat} {xs:List AV} {vs:List Value} (h:VRs ρ n xs vs):∀ i (hi:i < xs.length),VR ρ n xs[i] (vs.getD i .none):=by
 induction h with
 | nil=>intro i hi;exact absurd hi (Nat.not_lt_zero _)
 | cons h1 h2 ih =>
  intro i hi
  cases i with
  | zero=>exact h1
  | succ i=>exact ih i (by simpa using hi)
theorem aGj {k:Nat} {xs ys:List AV} {C:Addr} {R:AV→AH→Prop} (hC:aTj c.K C=true) (key:AV→Int) (e:σ.get k=some (.list xs)) (hx:∀ a∈xs,∃ m as,a=.ref m∧σ.get m=some (.mtup C (.int (key a)::as)))
  (hp:xs.Perm ys) (hs:ys.Pairwise (fun a b=>key a < key b)) (h6:xs.length≤60) (h:R .none (σ.set k (.list ys))):ClV c sc (U+1) D (.bi "list.sort") [.ref k] loc σ R:=fun A env L h₀ fm ρ X s Q E fv vs0 S hfv hv K=>by
 cases hfv
 obtain ⟨v1,hv1⟩:=hY hv
 cases hv1
 obtain ⟨o,ho,hk,hr⟩:100:=S.at e
 cases hr with
 | list vs n hr =>
 haveI hlen:=hr.length
 haveI hz6:vs.length≤60:=by exact (yC hlen h6)
 refine wpAny_call_entry slot_list_sort ⟨_,ho,rfl⟩ entry_list_sort ?_ (args_list_sort _)
 have hax:∀ i,i < xs.length→∃ a t ws C',vs.getD i .none=.ref a∧a≠ρ k∧(∃ ox,s.heap.get? a=some ox∧ox.cls=.ref C∧∃ nn,ox.data=.seq (Value.int (key (xs.getD i .none)) t::ws).toArray nn)∧C'=C:=fun i hi=>by
  haveI hm:xs[i]∈xs:=List.getElem_mem hi
  obtain ⟨m,as,em,gm⟩:2:=hx _ hm
  haveI hvr:=oR hr i hi
  rw [em] at hvr
  obtain ⟨om,hom,hlm,hrm⟩:100:=S.at gm
  haveI e1:xs.getD i .none=xs[i]:=by simp [hi]
  generalize hgv:vs.getD i .none=gv at hvr
  cases hvr
  cases hrm with
  | mtup us nn dd sl hus =>
   cases hus with
   | cons hi1 hus =>
    cases hi1 with
    | int t =>
     refine ⟨ρ m,t,_,C,rfl,?_,⟨_,hom,rfl,nn,by rw [e1]⟩,rfl⟩
     intro q
     rw [q] at hom
     haveI hom:=hom.symm.trans ho
     cases hom
 haveI h1b:=Heap.SameBut.update s.heap (ρ k) (Obj.mapSeq fun _=>(#[]:Array Value))
 obtain ⟨e1,ho1⟩:∃ e1,(s.heap.update (ρ k) (Obj.mapSeq fun _=>(#[]:Array Value))).get? (ρ k)=some (seqObj "list" #[] e1):=⟨_,get?_update_seq ho fun _=>#[]⟩
 have keep3:∀ b o,b≠ρ k→s.heap.get? b=some o→(((s.heap.update (ρ k) (Obj.mapSeq fun _=>(#[]:Array Value))).push (seqObj "tuple" vs.toArray 0)).push (seqObj "list" #[] 0)).get? b=some o:=fun b o hb hg =>
  Heap.get?_push_of_some _ (Heap.get?_push_of_some _ ((h1b.2 b hb).trans hg))
 haveI ho3:(((s.heap.update (ρ k) (Obj.mapSeq fun _=>(#[]:Array Value))).push (seqObj "tuple" vs.toArray 0)).push (seqObj "list" #[] 0)).get? (ρ k)=some (seqObj "list" #[] e1):=Heap.get?_push_of_some _ (Heap.get?_push_of_some _ ho1)
 have Z:∀ out:List Value,VRs ρ σ.nx ys out→∀ (h':Heap) (c2:Nat),Heap.SameBut (ρ k) (((s.heap.update (ρ k) (Obj.mapSeq fun _=>(#[]:Array Value))).push (seqObj "tuple" vs.toArray 0)).push (seqObj "list" #[] 0)) h'→h'.get? (ρ k)=some (seqObj "list" out.toArray c2)→Q .none { s with heap:=h' }:=fun out hout h' c2 hsb hg =>
  K ρ _ _ .none _ h .none (Te _) (Agree.refl _ _) (St.setK S e (fun b o hb hg=>(hsb.2 b hb).trans (keep3 b o hb hg)) hg (.list _ _ _ hout) _) ⟨rfl,.refl _,rfl⟩
 obtain ⟨m,news,F,hm,H,N,nd⟩:100:=S.ex
 rw [list_sort_plain]
 refine wpAny_bind (listItems_at ho rfl ?_)
 refine wpAny_bind (listUpdate_at ho rfl ?_ (by rw [List.size_toArray,sizeLine_eq];exact (Ta hz6 (Tb rfl))) (Nat.zero_le _))
 refine wpAny_bind (seqEpoch_at ho1 rfl ?_)
 refine wpAny_bind (wpAny_newTuple ?_ (by show vs.length≤_;rw [sizeLine_eq];exact (Ta hz6 (Tb rfl))))
 refine wpAny_bind (wpAny_newList ?_ (Nat.zero_le _))
 refine wpAny_holding ?_
 show wpAny (model c.prog c.w) _ _ _ E { s with heap:=((s.heap.update (ρ k) (Obj.mapSeq fun _=>(#[]:Array Value))).push (seqObj "tuple" vs.toArray 0)).push (seqObj "list" #[] 0) }
 generalize ((s.heap.update (ρ k) (Obj.mapSeq fun _=>(#[]:Array Value))).push (seqObj "tuple" vs.toArray 0)).push (seqObj "list" #[] 0)=h3 at keep3 ho3 Z ⊢
 dsimp only
 have fin:∀ (out:List Value),VRs ρ σ.nx ys out→∀ st':SortSt,(arrOf st').map (·.2)=out.toArray→failedOf st'=none→wpAny (model c.prog c.w) A.in1 (do
   let touched:=(← seqEpoch (ρ k)) != e1
   Builtin.List.listUpdate (.ref (ρ k)) fun _=>(arrOf st').map (·.2)
   if let some e:=failedOf st' then rule "list.sort.comparison-raised"; throw e
   if touched then rule "list.sort.modified"; raiseError "ValueError" "list modified during sort"
   ret .none) (fun fin s'=>∃ v,fin=Fin.done (Flow.ret v)∧Q v s') E { s with heap:=h3 }:=fun out hout st' ha hf=>by
  haveI s2:=Heap.SameBut.update h3 (ρ k) (Obj.mapSeq fun _=>out.toArray)
  obtain ⟨c2,hc2⟩:∃ c2,(h3.update (ρ k) (Obj.mapSeq fun _=>out.toArray)).get? (ρ k)=some (seqObj "list" out.toArray c2):=⟨_,get?_update_seq ho3 fun _=>out.toArray⟩
  haveI hol:=hout.length
  haveI hyl:=hp.length_eq
  refine wpAny_bind (seqEpoch_at ho3 rfl ?_)
  rw [ha]
  refine wpAny_bind (listUpdate_at ho3 rfl ?_ (Nat.zero_le _) (by rw [List.size_toArray,sizeLine_eq];lia))
  rw [hf]
  simp only [bne_self_eq_false,Bool.false_eq_true,if_false]
  exact wpAny_pure ⟨_,rfl,Z out hout _ c2 s2 hc2⟩
 by_cases h2:vs.length < 2
 ·haveI hn2:vs.toArray.size < 2:=by rw [List.size_toArray];omega
  rw [if_pos hn2,if_pos hn2]
  haveI hxy:xs=ys:=by
   cases xs with
   | nil=>exact (hp.symm.eq_nil).symm
   | cons x xs=>cases xs with
    | nil=>exact (List.perm_singleton.mp hp.symm).symm
    | cons y xs=>simp at hlen;lia
  refine wpAny_bind (wpAny_pure (wpAny_bind (wpAny_pure ?_)))
  refine fin vs (hxy▸hr) _ ?_ rfl
  show (vs.toArray.zip vs.toArray).map (·.2)=vs.toArray
  apply Array.toList_inj.mp
  rw [Array.toList_map,Array.toList_zip]
  exact List.map_snd_zip (Te _)
 ·haveI hn2:¬ vs.toArray.size < 2:=by rw [List.size_toArray];omega
  rw [if_neg hn2,if_neg hn2]
  haveI hxl:2≤xs.length:=by exact (oY hlen (Nat.le_of_not_lt hn2))
  have Fk:∀ b o,h₀.get? b=some o→h3.get? b=some o:=fun b o hg=>keep3 b o (fun q=>by
   obtain ⟨o2,h1,h2,h3'⟩:100:=H.get e
   haveI:=(N _ (Th _ h1)).2.2
   rw [q,this] at hg;cases hg) (F.keep b o hg)
  haveI X3:=fm.X.keeps Fk
  simp only [aTj,Bool.and_eq_true,beq_iff_eq] at hC
  have hax3:∀ i,i < xs.length→∃ a t ws,vs.getD i .none=.ref a∧Looks (model c.prog c.w) h3 (typeOf (.ref a)) (.ref C)∧IsSq h3 a (Value.int (key (xs.getD i .none)) t::ws).toArray:=fun i hi=>by
   refine hid ?_;intro ZZ zz
   obtain ⟨a,t,ws,C',q1,q2,⟨ox,q3,q4,nn,q5⟩,-⟩:=hax i hi
   refine zz ?_;clear zz
   refine ⟨a,t,ws,q1,?_,⟨ox,keep3 _ _ q2 q3,nn,q5⟩⟩
   refine hid ?_;intro ZZ zz
   obtain ⟨oc,od,oda,osl⟩:=ox
   refine zz ?_;clear zz
   dsimp only at q4
   rw [← q4]
   exact (Looks.ld (part:=none) (keep3 _ _ q2 q3)).andThen .now
  have hT:∀ v∈vs,Looks (model c.prog c.w) h3 (typeOf v) (.ref C):=fun v hv=>by
   obtain ⟨i,hi,rfl⟩:=List.getElem_of_mem hv
   obtain ⟨a,t,ws,q1,q2,_⟩:3:=hax3 i (by exact (sL hlen hi))
   haveI:vs.getD i .none=vs[i]:=by simp [hi]
   rw [← this,q1];exact q2
  refine wpAny_bind (kas_kind (T:=.ref C) (by exact (Nat.le_of_not_lt hn2)) hT (by rfl) (by simp) ?_)
  obtain ⟨g1,g2,g3⟩:0:=aLd key .none hp hs hxl
  haveI ask:(kas_sort vs.length).kasWp (kas_ask c.prog c.w A.in1 oneType' vs) (fun p s'=>s'={ s with heap:=h3 }∧p=vV (fun i j=>decide (key (xs.getD i .none) < key (xs.getD j .none))) (kas_sort xs.length)) { s with heap:=h3 }:=by
   rw [← hlen]
   refine aAy (n:=xs.length) (lt:=fun i j=>decide (key (xs.getD i .none) < key (xs.getD j .none))) (J:=fun s'=>s'={ s with heap:=h3 }) (fun i j Cc s' hi hj hij hJ hCc=>?_) _ _ _ g1 rfl fun s' hJ=>⟨hJ,rfl⟩
   subst hJ
   obtain ⟨a,t,ws,q1,q2,q3⟩:3:=hax3 i hi
   obtain ⟨b,u,ws',q1',q2',q3'⟩:3:=hax3 j hj
   show wpAny (model c.prog c.w) A.in1 (oneLt' true (vs.getD i .none) (vs.getD j .none)) Cc _ _
   rw [q1,q1']
   haveI ne:key (xs.getD i .none)≠key (xs.getD j .none):=fun q=>by
    haveI e1:xs.getD i .none=xs[i]:=by simp [hi]
    haveI e2:xs.getD j .none=xs[j]:=by simp [hj]
    rw [e1,e2] at q
    haveI hnd:(xs.map key).Nodup:=((hp.map key).nodup_iff).mpr ((List.pairwise_map.mpr hs).imp fun h=>Int.ne_of_lt h)
    haveI:=List.pairwise_iff_getElem.mp hnd
    rcases Nat.lt_or_gt_of_ne hij with z | z
    ·exact this i j (by simpa using hi) (by simpa using hj) z (by simpa using q)
    ·exact this j i (by simpa using hj) (by simpa using hi) z (by simpa using q.symm)
   exact aCu (by show A.units+1 < _;haveI:=fm.hu;exact (aSr this)) (q2.andThen (looks_findIn X3 hC.1)) (q2.andThen (looks_subIn X3 hC.2)) (q2'.andThen (looks_subIn X3 hC.2)) q3 q3' ne (hCc _ rfl)
  refine wpAny_bind (wpAny_mono (kat_run (Q:=fun st' s'=>∃ p:Array Nat,p.size=vs.length∧arrOf st'=p.map (kas_item (vs.toArray.zip vs.toArray))∧failedOf st'=none∧s'={ s with heap:=h3 }∧p=vV (fun i j=>decide (key (xs.getD i .none) < key (xs.getD j .none))) (kas_sort xs.length)) rfl (by exact (Nat.le_of_not_lt hn2)) (by exact (Td hz6 (Tb rfl))) (fun p' st' s' a1 a2 a3 a4=>⟨p',a1,a2,a3,a4⟩) ask) ?_ fun _ _ z=>z)
  rintro hz0 s' hz2
  obtain ⟨⟨⟩,st'⟩:=hz0
  obtain ⟨p,hpz,har,hf,rfl,hpe⟩:1:=hz2
  haveI hout:=kat_snds rfl har
  refine fin (p.toList.map fun i=>vs.getD i Value.none) ?_ st' hout hf
  rw [hpe,← g2]
  have:∀ l:List Nat,(∀ i∈l,i < xs.length)→VRs ρ σ.nx (l.map fun i=>xs.getD i .none) (l.map fun i=>vs.getD i .none):=fun l=>by
   induction l with
   | nil=>intro _;exact .nil
   | cons i l ih =>
    intro hl
    haveI hi:=hl i (List.mem_cons_self ..)
    haveI e1:xs.getD i .none=xs[i]:=by simp [hi]
    refine .cons ?_ (ih fun j hj=>hl j (List.mem_cons_of_mem _ hj))
    show VR ρ σ.nx (xs.getD i .none) (vs.getD i .none)
    rw [e1]
    exact oR hr i hi
  exact this _ g3
end
def NxA (c:Cx) (sc:Scope) (U D:Nat) (a:AV) (loc:Loc) (σ:AH) (R:Option AV→AH→Prop):Prop :=
 ∀ A env L h₀,Fm c sc A env L h₀ U D→∀ ρ X s (Q:Option Value→Shared→Prop) E v,St c.w.params h₀ L ρ σ loc X s→VR ρ σ.nx a v→aTe c h₀ L ρ σ loc X s Q R→wpAny (model c.prog c.w) A (pyNext v) Q E s
def ItA (c:Cx) (sc:Scope) (U D:Nat) (a:AV) (loc:Loc) (σ:AH) (R:AV→AH→Prop):Prop :=
 ∀ A env L h₀,Fm c sc A env L h₀ U D→∀ ρ X s Q E v,St c.w.params h₀ L ρ σ loc X s→VR ρ σ.nx a v→BackV c h₀ L ρ σ loc X s Q R→wpAny (model c.prog c.w) A (pyIter v) Q E s
def HnA (c:Cx) (sc:Scope) (U D:Nat) (a:AV) (loc:Loc) (σ:AH) (R:AH→Prop):Prop :=
 ∀ A env L h₀,Fm c sc A env L h₀ U D→∀ ρ X s (Q:Bool→Shared→Prop) E v,St c.w.params h₀ L ρ σ loc X s→VR ρ σ.nx a v→BackS c h₀ L ρ σ loc X s Q R→wpAny (model c.prog c.w) A (Builtin.List.listLengthHint v) Q E s
noncomputable def aNr:AO→Option Value
 | .list _=>some (.type "list")
 | .tup _=>some (.type "tuple")
 | .inst C _=>some (.ref C)
 | .flds T _=>some (.type T)
 | .mtup C _=>some (.ref C)
 | _=>none
theorem yW {P:Params} {ρ:Nat→Addr} {n:Nat} {a:AO} {o:Obj} {T:Value} (h:OR P ρ n a o) (e:aNr a=some T):o.cls=T:=by
 cases a <;> first | (cases h;cases e;rfl) | cases e
noncomputable def aCv (c:Cx) (sc:Scope) (U D:Nat) (it:AV) (S:Nat) (loc:Loc) (R:AV→AH→Prop):Nat→List AV→AH→Prop
 | 0,_,_=>False
 | n+1,acc,σ=>NxA c sc U D it loc σ fun r σ₁=>σ₁.get S=some (.list acc)∧match r with
  | none=>R (.ref S) σ₁
  | some a=>acc.length < 1000∧aCv c sc U D it S loc R n (acc++[a]) (σ₁.set S (.list (acc++[a])))
section
variable {c:Cx} {sc:Scope} {U D:Nat} {loc:Loc} {σ:AH}
theorem aLf {it:AV} {S:Nat} {R:AV→AH→Prop}:∀ (n:Nat) (acc:List AV) (σ:AH),aCv c sc U D it S loc R n acc σ→∀ A env L h₀,Fm c sc A env L h₀ (U+1) D→∀ ρ X s (Rr:Result→Shared→Prop) v,St c.w.params h₀ L ρ σ loc X s→VR ρ σ.nx it v→S < σ.nx →
  BackS c h₀ L ρ σ loc X s (fun (_:Unit) s'=>Rr (.ok (.ret .none)) s') (fun σ'=>R (.ref S) σ')→codeAny (model c.prog c.w) A (.builtin "list.extend.loop" ⟨[.ref (ρ S),v,.none],[]⟩) Rr s:=by
 intro n
 induction n with
 | zero=>intro _ _ h;exact h.elim
 | succ n ih =>
  intro acc σ h A env L h₀ fm ρ X s Rr v S0 hv hS K
  refine codeAny_builtin F.entry_extend_loop ?_
  rw [Around.under_plainId F.plain_extend_loop _]
  show wpAny _ A.in1 (pyNext v >>= _) _ _ s
  refine wpAny_bind (h A.in1 env L h₀ fm.in1 ρ X s _ _ v S0 hv ⟨fun ρ₁ σ₁ _ s₁ hr n₁ g₁ S₁ r₁=>wpAny_pure (K ρ₁ σ₁ () s₁ hr.2 n₁ g₁ S₁ r₁),fun ρ₁ σ₁ b u s₁ hr vb n₁ g₁ S₁ r₁=>?_⟩)
  ·obtain ⟨hg,hlen,hgo⟩:0:=hr
   obtain ⟨o,ho,hk,hor⟩:100:=S₁.at hg
   rw [← g₁ S hS]
   cases hor with
   | list vs nn hvs =>
   haveI hvl:=hvs.length
   show wpAny _ A.in1 (updateSeq (ρ₁ S) (·.push u) >>= _) _ _ _
   refine wpAny_bind (wpAny_updateSeq ho rfl (wpAny_pure ⟨plainId_quiet F.plain_extend_loop _,?_⟩) (by rw [List.size_toArray,sizeLine_eq];lia) (by show (vs.toArray.push u).size≤sizeLine+1;rw [Array.size_push,List.size_toArray,sizeLine_eq];lia))
   haveI q:=get?_update_seq (show s₁.heap.get? (ρ₁ S)=some (seqObj "list" vs.toArray nn) from ho) (·.push u)
   haveI q':(s₁.heap.update (ρ₁ S) (Obj.mapSeq (·.push u))).get? (ρ₁ S)=some (seqObj "list" (vs++[u]).toArray (nn+1)):=by
    haveI e2:(vs.toArray.push u)=(vs++[u]).toArray:=by simp
    rw [e2,if_neg (by simp)] at q
    exact q
   haveI S2:=St.setK S₁ hg (fun x o hb e=>((Heap.SameBut.update s₁.heap (ρ₁ S) _).2 x hb).trans e) q' (.list (acc++[b]) (vs++[u]) _ (All2.append hvs (.cons vb .nil))) s₁.toks
   exact ih (acc++[b]) _ hgo A env L h₀ fm ρ₁ X _ Rr v S2 (hv.mono n₁ g₁) (Tc hS n₁) (K.after n₁ g₁ (r₁.trans ⟨rfl,.refl _,rfl⟩))
theorem dJ {σ:AH} {a b:AO}:(σ.new a).set σ.nx b=σ.new b:=by
 show AH.mk _ (hW σ.nx b ((σ.nx,a)::σ.objs))=_
 rw [hW,if_pos rfl];rfl
theorem kQ {x:AV} {k:Nat} {ao:AO} {T:Value} {R:AV→AH→Prop} {fuel:Nat} (hx:x=.ref k) (e:σ.get k=some ao) (hT:aNr ao=some T) (hl:(T==.type "list")=false) (ht:(T==.type "tuple")=false)
  (h:ItA c sc U (D) x loc (σ.new (.list [])) fun it σ₁=>HnA c sc U D x loc σ₁ fun σ₂=>σ₂.get σ.nx=some (.list [])∧aCv c sc U D it σ.nx loc R fuel [] (σ₂.set σ.nx (.list []))):ClV c sc (U+3) D (.ty "list") [x] loc σ R:=fun A env L h₀ fm ρ X s Q E fv vs S hfv hv K=>by
 subst hx
 cases hfv
 obtain ⟨v1,hv1⟩:=hY hv
 cases hv1
 obtain ⟨o,ho,hk,hor⟩:100:=S.at e
 refine callType_codes (Q₁:=fun obj s₁=>obj=.ref s.heap.objs.size∧s₁={ s with heap:=s.heap.push { cls:=.type "list", data:=.seq #[] } }) F.called_list (F.typeCall_list_1 _) F.entry_list_init
  (code_list_new _ ⟨rfl,rfl⟩) fun obj s₁ h₁=>?_
 obtain ⟨rfl,rfl⟩:0:=h₁
 haveI hS:(s.heap.push { cls:=.type "list", data:=.seq #[] }).get? s.heap.objs.size=some { cls:=.type "list", data:=.seq #[] }:=Heap.get?_push_size _ rfl
 refine ⟨⟨_,hS,rfl⟩,F.args_list_init_2 _ _,?_⟩
 haveI fm2:Fm c sc A.in1.in1 env L h₀ (U+1) D:=fm.at rfl (by show A.units+1+1+(U+1)≤_;exact (aFc yB)) (Te _) rfl
 haveI fm2':Fm c sc A.in1.in1 env L h₀ U D:=fm.at rfl (by show A.units+1+1+U≤_;lia) (Te _) rfl
 haveI fm1:Fm c sc A.in1 env L h₀ (U+1) D:=fm.at rfl (by show A.units+1+(U+1)≤_;exact (Nat.le_succ_of_le yB)) (Te _) rfl
 haveI S1:=St.allocN S (a:=.list []) (o:={ cls:=.type "list", data:=.seq #[] }) (.list [] [] 0 .nil) rfl s.toks
 haveI hcl:=yW hor hT
 haveI ho1:(s.heap.push { cls:=.type "list", data:=.seq #[] }).get? (ρ k)=some o:=Heap.get?_push_of_some _ ho
 haveI hne:ρ k≠s.heap.objs.size:=Nat.ne_of_lt (Heap.lt_size ho)
 show wpAny _ A.in1.in1 (do let old ← Builtin.List.listItems (.ref s.heap.objs.size);Builtin.List.listUpdate (.ref s.heap.objs.size) (fun _=>#[]);letGo old.toList.reverse;Builtin.List.listExtendWith (.ref s.heap.objs.size) (.ref (ρ k)) .none) _ _ _
 refine wpAny_bind ?_
 unfold Builtin.List.listItems
 refine wpAny_bind (wpAny_seqItems hS rfl (wpAny_pure ?_))
 show wpAny _ A.in1.in1 (updateSeq s.heap.objs.size (fun _=>#[]) >>= fun _=>letGo (#[]:Array Value).toList.reverse >>= fun _=>Builtin.List.listExtendWith (.ref s.heap.objs.size) (.ref (ρ k)) .none) _ _ _
 refine wpAny_bind (wpAny_updateSeq hS rfl ?_)
 haveI q:=get?_update_seq (show (s.heap.push { cls:=.type "list", data:=.seq #[] }).get? s.heap.objs.size=some (seqObj "list" #[] 0) from hS) (fun _=>(#[]:Array Value))
 haveI eN:(ext ρ σ.nx s.heap.objs.size) σ.nx=s.heap.objs.size:=aS _ _ _
 haveI S2:=St.setK (a':=.list []) S1 aB (h':=(s.heap.push { cls:=.type "list", data:=.seq #[] }).update s.heap.objs.size (Obj.mapSeq fun _=>#[])) (fun x o hb e=>by rw [eN] at hb;exact ((Heap.SameBut.update _ s.heap.objs.size _).2 x hb).trans e) (by rw [eN];exact q) (.list [] [] _ .nil) s.toks
 haveI ho2:((s.heap.push { cls:=.type "list", data:=.seq #[] }).update s.heap.objs.size (Obj.mapSeq fun _=>#[])).get? (ρ k)=some o:=((Heap.SameBut.update _ s.heap.objs.size _).2 _ hne).trans ho1
 refine wpAny_bind (wpAny_letGo ?_)
 unfold Builtin.List.listExtendWith
 haveI T2:Looks (model c.prog c.w) ((s.heap.push { cls:=.type "list", data:=.seq #[] }).update s.heap.objs.size (Obj.mapSeq fun _=>#[])) (typeOf (.ref (ρ k))) T:=by
  obtain ⟨oc,od,oda,osl⟩:=o
  dsimp only at hcl
  subst hcl
  exact (Looks.ld (part:=none) ho2).andThen .now
 refine wpAny_bind (T2.here ?_)
 rw [if_neg (by simp only [Builtin.List.listSameRef,hl,ht,Bool.or_false,beq_iff_eq];exact fun q=>hne q.symm)]
 rw [dJ] at S2
 haveI gA:Agree ρ (ext ρ σ.nx s.heap.objs.size) σ.nx:=aK _ _ _
 haveI vx:VR (ext ρ σ.nx s.heap.objs.size) (σ.nx+1) (.ref k) (.ref (ρ k)):=(VR.ref k hk).mono (Nat.le_succ _) gA
 refine wpAny_bind (h A.in1.in1 env L h₀ fm2' _ X _ _ _ _ S2 vx fun ρ₁ σ₁ b it s₁ hb vb n₁ g₁ S₁ r₁=>?_)
 refine wpAny_bind (wpAny_holding (hb A.in1.in1 env L h₀ fm2' ρ₁ X s₁ _ _ _ S₁ (vx.mono n₁ g₁) fun ρ₂ σ₂ room s₂ ⟨hg,hgo⟩ n₂ g₂ S₂ r₂=>?_))
 haveI hN:ρ₂ σ.nx=s.heap.objs.size:=by rw [g₂ σ.nx (Tc (Nat.lt_succ_self _) n₁),g₁ σ.nx (Nat.lt_succ_self _)];exact eN
 obtain ⟨oS,hoS,hkS,horS⟩:100:=S₂.at hg
 rw [hN] at hoS
 cases horS with
 | list vs nn hvs =>
 cases hvs
 haveI RR:Rest s s₂:=Rest.trans (b:={ s with heap:=(s.heap.push { cls:=.type "list", data:=.seq #[] }).update s.heap.objs.size (Obj.mapSeq fun _=>#[]) }) ⟨rfl,.refl _,rfl⟩ (r₁.trans r₂)
 haveI NN:σ.nx≤σ₂.nx:=Ta (Nat.le_succ _) (Ta n₁ n₂)
 haveI GG:Agree ρ ρ₂ σ.nx:=gA.trans (Nat.le_succ _) (g₁.trans n₁ g₂)
 have tail:∀ h',(∀ x o,x≠s.heap.objs.size→s₂.heap.get? x=some o→h'.get? x=some o)→∀ c',h'.get? s.heap.objs.size=some (seqObj "list" #[] c')→codeAny (model c.prog c.w) A.in1 (.builtin "list.extend.loop" ⟨[.ref s.heap.objs.size,it,.none],[]⟩) (wants (fun r s₂=>r=.none∧Q (.ref s.heap.objs.size) s₂) E) { s₂ with heap:=h' }:=fun h' hk' c' hc'=>by
  haveI S3:=St.setK S₂ hg (h':=h') (fun x o hb e=>hk' x o (by rw [hN] at hb;exact hb) e) (by rw [hN];exact hc') (.list [] [] c' .nil) s₂.toks
  haveI L3:=aLf fuel [] _ hgo A.in1 env L h₀ fm1 ρ₂ X _ (wants (fun r s₂=>r=.none∧Q (.ref s.heap.objs.size) s₂) E) it S3 (vb.mono n₂ g₂) (Tc (Nat.lt_succ_self _) (Ta n₁ n₂)) ?_
  ·rw [hN] at L3;exact L3
  ·intro ρ₄ σ₄ u s₄ h₄ n₄ g₄ S₄ r₄
   refine ⟨rfl,?_⟩
   haveI lt2:σ.nx < σ₂.nx:=Tc (Nat.lt_succ_self _) (Ta n₁ n₂)
   haveI hv4:VR ρ₄ σ₄.nx (.ref σ.nx) (.ref s.heap.objs.size):=by
    haveI:=VR.ref (ρ:=ρ₄) (n:=σ₄.nx) σ.nx (Tc lt2 n₄)
    rw [g₄ σ.nx lt2,hN] at this
    exact this
   exact K ρ₄ σ₄ _ _ s₄ h₄ hv4 (Ta NN n₄) (GG.trans NN g₄) S₄ (RR.trans (Rest.trans (b:={ s₂ with heap:=h' }) ⟨rfl,.refl _,rfl⟩ r₄))
 haveI qt:Code.quiet (.builtin "list.extend.loop" ⟨[.ref s.heap.objs.size,it,.none],[]⟩)=true:=plainId_quiet F.plain_extend_loop _
 split
 ·refine wpAny_bind (wpAny_rule (wpAny_bind ?_))
  unfold Builtin.List.listTouch
  haveI hA:=get?_update_seq (show s₂.heap.get? s.heap.objs.size=some (seqObj "list" #[] nn) from hoS) (·.push .none)
  haveI hB:=get?_update_seq hA (·.pop)
  refine wpAny_bind (listUpdate_at hoS rfl ?_ (Nat.zero_le _) (by simp [sizeLine_eq]))
  refine listUpdate_at hA rfl ?_ (by simp [sizeLine_eq]) (by simp [sizeLine_eq])
  exact wpAny_pure ⟨qt,tail _ (fun x o hx e=>((Heap.SameBut.update _ _ _).2 x hx).trans (((Heap.SameBut.update _ _ _).2 x hx).trans e)) _ hB⟩
 ·exact wpAny_pure ⟨qt,tail s₂.heap (fun _ _ _ e=>e) _ hoS⟩
end
theorem jW:Slot "map" "__iter__" "map.__iter__" :=
 .of (owner := "map") (n := "__iter__") (by rw [typeLookup_type,builtinLookup_eq_fast];kernel_rfl) (by decide +kernel) (by decide +kernel) (by decide +kernel) (by first | exact .inl (by decide +kernel) | exact .inr (by decide +kernel)) (by rw [isSubtype_type];kernel_rfl)
theorem slot_map_next:Slot "map" "__next__" "map.__next__" :=
 .of (owner := "map") (n := "__next__") (by rw [typeLookup_type,builtinLookup_eq_fast];kernel_rfl) (by decide +kernel) (by decide +kernel) (by decide +kernel) (by first | exact .inl (by decide +kernel) | exact .inr (by decide +kernel)) (by rw [isSubtype_type];kernel_rfl)
theorem rN:Slot "map" "__init__" "object.__init__" :=
 .of (owner := "object") (n := "__init__") (by rw [typeLookup_type,builtinLookup_eq_fast];kernel_rfl) (by decide +kernel) (by decide +kernel) (by decide +kernel) (by first | exact .inl (by decide +kernel) | exact .inr (by decide +kernel)) (by rw [isSubtype_type];kernel_rfl)
theorem aBb:mroOf (.type "map")=pure [.type "map", .type "object"]:=by rw [mroOf_type];kernel_rfl
theorem pO:typeLookup (.type "map") "__new__" = pure (some (.builtin "map.__new__")):=by rw [typeLookup_type,builtinLookup_eq_fast];kernel_rfl
theorem yX:TypeCalled "map" "map.__new__" "object.__init__" :=
 ⟨by decide +kernel,by decide +kernel,⟨_,_,aBb⟩,madeBy_type aBb pO (by decide +kernel),by decide +kernel,by rw [isSubtype_type];kernel_rfl,rN⟩
theorem pP (a b:Value):checkTypeCall "map" ⟨[a,b],[]⟩=pure ():=by kernel_rfl
theorem rO (a b:Value):checkBuiltinCall "map.__new__" ⟨[.type "map", a,b],[]⟩=pure ():=by kernel_rfl
theorem rQ:entryFor table "map.__new__" = some Builtin.«map.__new__» := entryFor_of_tree (by kernel_rfl)
theorem iI:entryFor table "map.__next__" = some Builtin.«map.__next__» := entryFor_of_tree (by kernel_rfl)
theorem pQ:entryFor table "map.__iter__" = some Builtin.«dict_keyiterator.__iter__» := entryFor_alias (id' := "dict_keyiterator.__iter__") (by kernel_rfl) rfl (by decide +kernel) (by kernel_rfl)
theorem rR (a:Value):argsOk "map.__iter__" ⟨[a],[]⟩:=by unfold argsOk;kernel_rfl
theorem jX (a:Value):argsOk "map.__next__" ⟨[a],[]⟩:=by unfold argsOk;kernel_rfl
theorem aCw (o a b:Value):argsOk "object.__init__" ⟨[o,a,b],[]⟩:=by unfold argsOk;kernel_rfl
theorem aCx:typeLookup (.type "map") "__len__" = pure none:=by rw [typeLookup_type,builtinLookup_eq_fast];kernel_rfl
theorem yY:typeLookup (.type "map") "__length_hint__" = pure none:=by rw [typeLookup_type,builtinLookup_eq_fast];kernel_rfl
section
variable {c:Cx} {sc:Scope} {U D:Nat} {loc:Loc} {σ:AH}
theorem aLg {k:Nat} {xs:List AV} {R:AV→AH→Prop} (e:σ.get k=some (.flds "map" xs)) (h:R (.ref k) σ):ItA c sc U D (.ref k) loc σ R:=fun A env L h₀ fm ρ X s Q E v S hv K=>by
 cases hv
 obtain ⟨o,ho,hk,hr⟩:100:=S.at e
 haveI hc:=yW hr rfl
 refine wpAny_pyIter_slot ⟨o,ho,hc⟩ jW (wpAny_call_entry jW ⟨o,ho,hc⟩ pQ ?_ (rR _))
 show wpAny _ _ (ret (.ref (ρ k))) _ _ s
 exact wpAny_pure ⟨_,rfl, "map", _,⟨o,ho,hc⟩,slot_map_next.lookup,K ρ σ _ _ s h (.ref k hk) (Te _) (Agree.refl _ _) S (Rest.refl _)⟩
theorem aLh {k:Nat} {xs:List AV} {R:AH→Prop} (e:σ.get k=some (.flds "map" xs)) (h:R σ):HnA c sc U D (.ref k) loc σ R:=fun A env L h₀ fm ρ X s Q E v S hv K=>by
 cases hv
 obtain ⟨o,ho,hk,hr⟩:100:=S.at e
 haveI hc:=yW hr rfl
 unfold Builtin.List.listLengthHint
 refine wpAny_bind (wpAny_specialOf ⟨o,ho,hc⟩ aCx ?_)
 dsimp only
 refine wpAny_bind (wpAny_specialOf (T := "map") (name := "__length_hint__") ⟨o,ho,hc⟩ yY ?_)
 exact wpAny_pure (K ρ σ _ s h (Te _) (Agree.refl _ _) S (Rest.refl _))
theorem rS {f l:Value} {la:Addr} {items:Array Value} (hl:l=.ref la):Meets (Builtin.«map.__new__» ⟨[.type "map", f,l],[]⟩) (fun _ R s=>s.heap.IsList la items ∧
  R (.ok (.ret (.ref (s.heap.objs.size+2)))) { s with heap:=((s.heap.push { cls:=.type "list_iterator", data:=.fields #[.ref la,.int 0 0] }).push { cls:=.type "tuple", data:=.seq #[.ref s.heap.objs.size] }).push { cls:=.type "map", data:=.fields #[.ref (s.heap.objs.size+1),f] } }) :=
 .of_wp fun prog w A R s h=>by
  subst hl
  refine hid ?_;intro ZZ zz
  obtain ⟨hp,g,d,tk,os⟩:=s;obtain ⟨ht,h⟩:0:=h
  refine zz ?_;clear zz
  haveI hsub:isSubtype (.type "map") (.type "map")=pure true:=by rw [isSubtype_type];kernel_rfl
  unfold Builtin.«map.__new__» Builtin.SmallTypes.newClass
  haveI h1:Looks (model prog w) hp (isSubtype (.type "map") (.type "map")) true:=Looks.of_pure hsub
  repeat (first | (with_reducible refine wpAny_pyIter_list ht ?_) | ((with_reducible refine dE ?hc ?_);(case hc=>first | exact Bool.false_ne_true | (simp only [bne_self_eq_false,Bool.false_eq_true,not_false_eq_true];done))) | lk | simp only [List.drop_succ_cons,List.drop_zero])
  refine ⟨_,rfl,?_⟩
  haveI e1:(hp.push { cls:=.type "list_iterator", data:=.fields #[.ref la,.int 0 0] }).objs.size=hp.objs.size+1:=Heap.size_push _ _
  haveI e2:((hp.push { cls:=.type "list_iterator", data:=.fields #[.ref la,.int 0 0] }).push { cls:=.type "tuple", data:=.seq (#[].push (Value.ref hp.objs.size)).toList.toArray }).objs.size=hp.objs.size+2:=by rw [Heap.size_push,e1]
  rw [e2,e1]
  exact h
theorem aLi {f:AV} {l:Nat} {xs:List AV} {R:AV→AH→Prop} (e:σ.get l=some (.list xs))
  (h:R (.ref (σ.nx+2)) (((σ.new (.flds "list_iterator" [.ref l,.int 0])).new (.tup [.ref σ.nx])).new (.flds "map" [.ref (σ.nx+1),f]))):ClV c sc U D (.ty "map") [f,.ref l] loc σ R:=fun A env L h₀ fm ρ X s Q E fv vs S hfv hv K=>by
 cases hfv
 refine hid ?_;intro ZZ zz
 obtain ⟨v1,v2,hv1,hv2⟩:=fE hv
 refine zz ?_;clear zz
 cases hv2
 obtain ⟨vs,hl,hr⟩:100:=S.isListAt e
 haveI hlt:=AH.get_lt e
 let o1:Obj:={ cls:=.type "list_iterator", data:=.fields #[.ref (ρ l),.int 0 0] }
 let ρ₁:=ext ρ σ.nx s.heap.objs.size
 haveI g1:Agree ρ ρ₁ σ.nx:=aK _ _ _
 haveI S1:=St.allocN S (a:=.flds "list_iterator" [.ref l,.int 0]) (o:=o1) (.flds "list_iterator" _ [.ref (ρ l),.int 0 0] (.cons (.ref l hlt) (.cons (.int 0 0) .nil))) rfl s.toks
 let o2:Obj:={ cls:=.type "tuple", data:=.seq #[.ref s.heap.objs.size] }
 haveI S2:=St.allocN S1 (a:=.tup [.ref σ.nx]) (o:=o2) (.tup _ [.ref s.heap.objs.size] 0 (.cons bA .nil)) rfl s.toks
 haveI z1:(s.heap.push o1).objs.size=s.heap.objs.size+1:=Heap.size_push _ _
 let o3:Obj:={ cls:=.type "map", data:=.fields #[.ref (s.heap.objs.size+1),v1] }
 haveI g2:Agree ρ₁ (ext ρ₁ (σ.nx+1) (s.heap.push o1).objs.size) (σ.nx+1):=aK _ _ _
 haveI g02:=g1.trans (Nat.le_succ _) g2
 haveI S3:=St.allocN S2 (a:=.flds "map" [.ref (σ.nx+1),f]) (o:=o3) (.flds "map" _ [.ref (s.heap.objs.size+1),v1] (.cons (by
  haveI:=bA (ρ:=ρ₁) (n:=σ.nx+1) (l:=(s.heap.push o1).objs.size)
  rw [z1] at this ⊢
  exact this) (.cons (hv1.mono (by show σ.nx≤σ.nx+1+1;lia) g02) .nil))) rfl s.toks
 haveI z2:((s.heap.push o1).push o2).objs.size=s.heap.objs.size+2:=by rw [Heap.size_push,z1]
 refine callType_new yX (by decide) (pP _ _) (rO _ _) (fun obj=>aCw obj _ _) rQ (rS (items:=vs.toArray) rfl) ⟨hl,?_,?_⟩
 ·refine ⟨o3,?_,rfl⟩
  rw [← z2]
  exact Heap.get?_push_size _ rfl
 ·haveI g3:=aK (ext ρ₁ (σ.nx+1) (s.heap.push o1).objs.size) (σ.nx+1+1) ((s.heap.push o1).push o2).objs.size
  refine K _ _ _ _ _ h ?_ (by show σ.nx≤σ.nx+1+1+1;lia) (g02.trans (by lia) g3) S3 ⟨rfl,.refl _,rfl⟩
  haveI:=bA (ρ:=ext ρ₁ (σ.nx+1) (s.heap.push o1).objs.size) (n:=σ.nx+1+1) (l:=((s.heap.push o1).push o2).objs.size)
  rw [z2] at this ⊢
  exact this
inductive Fl1 (ρ:Nat→Addr) (n:Nat) (T:String) (xs:List AV):Obj→Prop
 | mk (vs:List Value) (hv:VRs ρ n xs vs):Fl1 ρ n T xs { cls:=.type T,data:=.fields vs.toArray }
theorem jY {P:Params} {ρ:Nat→Addr} {n:Nat} {T:String} {xs:List AV} {o:Obj} (h:OR P ρ n (.flds T xs) o):Fl1 ρ n T xs o:=by
 cases h with
 | flds vs hv=>exact ⟨vs,hv⟩
theorem vX {mm t it l:Nat} {f a:AV} {xs:List AV} {i:Nat} {R:Option AV→AH→Prop} (e1:σ.get mm=some (.flds "map" [.ref t,f])) (e2:σ.get t=some (.tup [.ref it])) (e3:σ.get it=some (.flds "list_iterator" [.ref l,.int i])) (e4:σ.get l=some (.list xs))
  (hx:xs[i]? = some a) (h:ClV c sc U D f [a] loc (σ.set it (.flds "list_iterator" [.ref l,.int ((i+1:Nat):Int)])) fun b σ'=>R (some b) σ'):NxA c sc (U+1) D (.ref mm) loc σ R:=fun A env L h₀ fm ρ X s Q E v S hv K=>by
 cases hv
 refine hid ?_;intro ZZ zz
 obtain ⟨o1,ho1,hk1,hr1⟩:100:=S.at e1
 obtain ⟨o2,ho2,hk2,hr2⟩:100:=S.at e2
 obtain ⟨o3,ho3,hk3,hr3⟩:100:=S.at e3
 obtain ⟨o4,ho4,hk4,hr4⟩:100:=S.at e4
 obtain ⟨vs1,hv1⟩:=jY hr1
 obtain ⟨u1,u2,hu1,hu2⟩:=fE hv1
 refine zz ?_;clear zz
 cases hu1
 refine hid ?_;intro ZZ zz
 obtain ⟨vs3,hv3⟩:=jY hr3
 obtain ⟨w1,w2,hw1,hw2⟩:=fE hv3
 refine zz ?_;clear zz
 cases hw1
 cases hw2 with
 | int tk =>
 cases hr2 with
 | tup ts n2 hts =>
 obtain ⟨p1,hp1⟩:=hY hts
 cases hp1
 cases hr4 with
 | list vs n4 hvs =>
 haveI hlen:=hvs.length
 obtain ⟨hi,hxi⟩:1:=List.getElem?_eq_some_iff.mp hx
 haveI hva:VR ρ σ.nx a (vs.getD i .none):=hxi▸oR hvs i hi
 haveI hgv:vs.toArray[i]? = some (vs.getD i .none):=by
  haveI:i < vs.length:=by exact (kL hlen hi)
  simp [this]
 unfold pyNext
 refine wpAny_bind (wpAny_attempt (wpAny_callSpecial?_slot (name:=Str.ofString "__next__") ⟨_,ho1,rfl⟩ slot_map_next (wpAny_call_entry slot_map_next ⟨_,ho1,rfl⟩ iI ?_ (jX _))))
 show wpAny _ _ (field (.ref (ρ mm)) 0 >>= _) _ _ s
 refine wpAny_bind (wpAny_field ho1 rfl (x:=.ref (ρ t)) rfl ?_)
 refine wpAny_bind (wpAny_seqItems ho2 rfl ?_)
 dsimp only
 simp only [List.forIn_toArray,List.forIn_cons,List.forIn_nil]
 refine wpAny_bind (wpAny_bind (wpAny_bind (wpAny_holding ?_)))
 unfold Builtin.SmallTypes.nextOf
 refine wpAny_bind (wpAny_callSpecial?_slot (name:=Str.ofString "__next__") ⟨_,ho3,rfl⟩ slot_listiter_next (wpAny_call_entry slot_listiter_next ⟨_,ho3,rfl⟩ entry_listiter_next ?_ (args_listiter_next _)))
 show wpAny _ _ (field (.ref (ρ it)) 0 >>= _) _ _ s
 refine wpAny_bind (wpAny_field ho3 rfl (x:=.ref (ρ l)) rfl ?_)
 show wpAny _ _ (if (Value.ref (ρ l)==Value.none)=true then _ else _) _ _ s
 rw [if_neg (show ¬ ((Value.ref (ρ l)==Value.none)=true) from Bool.false_ne_true)]
 show wpAny _ _ (field (.ref (ρ it)) 1 >>= _) _ _ s
 refine wpAny_bind (wpAny_field ho3 rfl (x:=.int i tk) rfl ?_)
 show wpAny _ _ (seqItems? (.ref (ρ l)) >>= _) _ _ s
 refine wpAny_bind (wpAny_seqItems ho4 rfl ?_)
 simp only [Int.toNat_natCast,hgv]
 refine wpAny_bind (wpAny_setField ho3 rfl (by simp) (wpAny_pure ⟨_,rfl,?_⟩))
 haveI q:=Heap.get?_update_self (Obj.mapFields (·.setIfInBounds 1 (rawInt ((i:Int)+1)))) ho3 rfl
 haveI q':(s.heap.update (ρ it) (Obj.mapFields (·.setIfInBounds 1 (rawInt ((i:Int)+1))))).get? (ρ it)=some { cls:=.type "list_iterator", data:=.fields [.ref (ρ l),.int ((i+1:Nat):Int) 0].toArray }:=q
 haveI hs:=Heap.SameBut.update s.heap (ρ it) (Obj.mapFields (·.setIfInBounds 1 (rawInt ((i:Int)+1))))
 haveI hne:ρ mm≠ρ it:=fun z=>by
  rw [z,ho3] at ho1
  exact absurd (congrArg Obj.cls (Option.some.inj ho1)) (by simp)
 haveI ho1':=(hs.2 _ hne).trans ho1
 haveI S':=S.setB e3 hs q' (.flds "list_iterator" [.ref l,.int ((i+1:Nat):Int)] _ (.cons (.ref l hk4) (.cons (.int _ 0) .nil))) s.toks
 refine wpAny_pure (wpAny_pure (wpAny_pure ?_))
 refine wpAny_bind (wpAny_field ho1' rfl (x:=u2) rfl ?_)
 refine wpAny_bind (wpAny_holding ?_)
 refine h A.in1 env L h₀ fm.in1 ρ X _ _ _ u2 [vs.getD i .none] S' hu2 (.cons hva .nil) fun ρ₁ σ₁ b r s₁ hb vb n₁ g₁ S₁ r₁=>?_
 refine wpAny_bind (wpAny_letGo ?_)
 exact wpAny_pure ⟨_,rfl,wpAny_pure (K.2 ρ₁ σ₁ b r s₁ hb vb n₁ g₁ S₁ (Rest.trans (b:={ s with heap:=s.heap.update (ρ it) (Obj.mapFields (·.setIfInBounds 1 (rawInt ((i:Int)+1)))) }) ⟨rfl,.refl _,rfl⟩ r₁))⟩
theorem yZ {mm t it l:Nat} {f:AV} {xs:List AV} {i:Nat} {R:Option AV→AH→Prop} (e1:σ.get mm=some (.flds "map" [.ref t,f])) (e2:σ.get t=some (.tup [.ref it])) (e3:σ.get it=some (.flds "list_iterator" [.ref l,.int i])) (e4:σ.get l=some (.list xs))
  (hx:xs[i]? = none) (h:R none (σ.set it (.flds "list_iterator" [.none,.int i]))):NxA c sc (U+1) D (.ref mm) loc σ R:=fun A env L h₀ fm ρ X s Q E v S hv K=>by
 cases hv
 refine hid ?_;intro ZZ zz
 obtain ⟨o1,ho1,hk1,hr1⟩:100:=S.at e1
 obtain ⟨o2,ho2,hk2,hr2⟩:100:=S.at e2
 obtain ⟨o3,ho3,hk3,hr3⟩:100:=S.at e3
 obtain ⟨o4,ho4,hk4,hr4⟩:100:=S.at e4
 obtain ⟨vs1,hv1⟩:=jY hr1
 obtain ⟨u1,u2,hu1,hu2⟩:=fE hv1
 refine zz ?_;clear zz
 cases hu1
 refine hid ?_;intro ZZ zz
 obtain ⟨vs3,hv3⟩:=jY hr3
 obtain ⟨w1,w2,hw1,hw2⟩:=fE hv3
 refine zz ?_;clear zz
 cases hw1
 cases hw2 with
 | int tk =>
 cases hr2 with
 | tup ts n2 hts =>
 obtain ⟨p1,hp1⟩:=hY hts
 cases hp1
 cases hr4 with
 | list vs n4 hvs =>
 haveI hlen:=hvs.length
 haveI hxi:=List.getElem?_eq_none_iff.mp hx
 haveI hgv:vs.toArray[i]? = none:=by simp;exact (yC hlen hxi)
 unfold pyNext
 refine wpAny_bind (wpAny_attempt (wpAny_callSpecial?_slot (name:=Str.ofString "__next__") ⟨_,ho1,rfl⟩ slot_map_next (wpAny_call_entry slot_map_next ⟨_,ho1,rfl⟩ iI ?_ (jX _))))
 show wpAny _ _ (field (.ref (ρ mm)) 0 >>= _) _ _ s
 refine wpAny_bind (wpAny_field ho1 rfl (x:=.ref (ρ t)) rfl ?_)
 refine wpAny_bind (wpAny_seqItems ho2 rfl ?_)
 dsimp only
 simp only [List.forIn_toArray,List.forIn_cons,List.forIn_nil]
 refine wpAny_bind (wpAny_bind (wpAny_bind (wpAny_holding ?_)))
 unfold Builtin.SmallTypes.nextOf
 refine wpAny_bind (wpAny_callSpecial?_slot (name:=Str.ofString "__next__") ⟨_,ho3,rfl⟩ slot_listiter_next (wpAny_call_entry slot_listiter_next ⟨_,ho3,rfl⟩ entry_listiter_next ?_ (args_listiter_next _)))
 show wpAny _ _ (field (.ref (ρ it)) 0 >>= _) _ _ s
 refine wpAny_bind (wpAny_field ho3 rfl (x:=.ref (ρ l)) rfl ?_)
 show wpAny _ _ (if (Value.ref (ρ l)==Value.none)=true then _ else _) _ _ s
 rw [if_neg (show ¬ ((Value.ref (ρ l)==Value.none)=true) from Bool.false_ne_true)]
 show wpAny _ _ (field (.ref (ρ it)) 1 >>= _) _ _ s
 refine wpAny_bind (wpAny_field ho3 rfl (x:=.int i tk) rfl ?_)
 show wpAny _ _ (seqItems? (.ref (ρ l)) >>= _) _ _ s
 refine wpAny_bind (wpAny_seqItems ho4 rfl ?_)
 simp only [Int.toNat_natCast,hgv]
 refine wpAny_bind (wpAny_rule (wpAny_bind (wpAny_setField ho3 rfl (by simp) ?_)))
 haveI q:(s.heap.update (ρ it) (Obj.mapFields (·.setIfInBounds 0 .none))).get? (ρ it)=some { cls:=.type "list_iterator", data:=.fields [.none,.int i tk].toArray }:=Heap.get?_update_self (Obj.mapFields (·.setIfInBounds 0 .none)) ho3 rfl
 haveI hs:=Heap.SameBut.update s.heap (ρ it) (Obj.mapFields (·.setIfInBounds 0 .none))
 haveI S1:=S.setB e3 hs q (.flds "list_iterator" [.none,.int i] _ (.cons .none (.cons (.int _ tk) .nil))) s.toks
 refine tV fm.hh fun o1 o2 hf2 ho2=>?_
 refine wpAny_bind (wpAny_isInstance (T := "StopIteration") (b:=true) ⟨_,Heap.get?_push_size _ hf2,ho2⟩ isSubtype_stop ?_)
 refine wpAny_pure (K.1 ρ _ () _ h (Te _) (Agree.refl _ _) ?_ ⟨rfl,.refl _,rfl⟩)
 exact St.stop (xs:=[]) S1 (fun b o _ hb=>Heap.get?_push_of_some _ (Heap.get?_push_of_some _ hb)) s.toks
theorem aTk {C f p:Addr} {mc:Value} {rest:List Value} {name:Str} {R:AV→AH→Prop} (hm:typeIn c.K (.ref C)=some mc) (hr:readsIn c.K C mc=true)
  (e:findCls c.K (.ref C) mc name=some (.get (.builtin "classmethod.__get__") (.ref p) .none (.ref C))) (hp:recIn c.K p "classmethod" = some (.ref f::rest))
  (h:R (.ref σ.nx) (σ.new (.flds "method" [.glob f,.glob C]))):GtA c sc U D (.glob C) name loc σ R:=fun A env L h₀ fm ρ X s Q E v S hv K=>by
 cases hv
 obtain ⟨m,news,F,hm',H,N,nd⟩:100:=S.ex
 refine cls_cm F fm.X N hm hr e hp fun q h' F' N' hlt=>?_
 exact K _ _ _ _ _ h bA (Nat.le_succ _) (aK _ _ _) (St.alloc rfl F' hm' H N' nd hlt (.flds "method" _ [.ref f,.ref C] (.cons (.glob _) (.cons (.glob _) .nil)))) ⟨rfl,.refl _,rfl⟩
theorem aCy {q:Nat} {f self:AV} {args:List AV} {R:AV→AH→Prop} (e:σ.get q=some (.flds "method" [f,self])) (h:CdV c sc U D f (self::args) [] loc σ R):ClV c sc U D (.ref q) args loc σ R:=fun A env L h₀ fm ρ X s Q E fv vs S hfv hv K=>by
 cases hfv
 refine hid ?_;intro ZZ zz
 obtain ⟨o,ho,hk,hr⟩:100:=S.at e
 obtain ⟨ws,hw⟩:=jY hr
 obtain ⟨w1,w2,hw1,hw2⟩:=fE hw
 refine zz ?_;clear zz
 refine wpAny_call (method_call ho ?_)
 exact h A env L h₀ fm ρ X s _ w1 (w2::vs) [] S hw1 (.cons hw2 hv) .nil K
theorem lQ {k:Nat} {C:Addr} {xs:List AV} {R:AV→AH→Prop} (hl:findIn c.K (.ref C) "__len__" = some (some (.builtin "tuple.__len__"))) (hs:subIn c.K (.ref C) (.type "tuple")=some true) (e:σ.get k=some (.mtup C xs)) (hf:xs.length < 2 ^ 20) (h:R (.int xs.length) σ):ClV c sc U D (.bi "len") [.ref k] loc σ R:=fun A env L h₀ fm ρ X s Q E fv vs S hfv hv K=>by
 cases hfv
 obtain ⟨v1,hv1⟩:=hY hv
 cases hv1
 obtain ⟨o,ho,hk,hr⟩:100:=S.at e
 obtain ⟨m,news,F,_,_,_,_⟩:100:=S.ex
 haveI X2:=fm.X.keeps F.keep
 cases hr with
 | mtup ws n d sl hw =>
 haveI hlen:=hw.length
 haveI T2:Looks (model c.prog c.w) s.heap (typeOf (.ref (ρ k))) (.ref C):=(Looks.ld (part:=none) ho).andThen .now
 haveI I2:Looks (model c.prog c.w) s.heap (isInstance (.ref (ρ k)) (.type "tuple")) true:=T2.andThen (looks_subIn X2 hs)
 refine PySem.Calls.call_function_entry kind_len plain_len entry_len (args_len1 _) ?_
 unfold Builtin.«len»
 refine wpAny_bind (m:=oneArg "len" _) (wpAny_pure ?_)
 refine wpAny_bind (m:=callSpecial? (.ref (ρ k)) (Str.ofString "__len__")) ?_
 refine wpAny_bind (wpAny_bind (T2.here ((looks_findIn X2 hl).here (wpAny_holding (wpAny_bind ?_)))))
 rw [PySem.F.slot_tuple_len.bind]
 refine wpAny_pure (wpAny_bind (wpAny_call ?_))
 refine codeAny_call_builtin (by decide +kernel) PySem.F.entry_tuple_len (@check_slot (model c.prog c.w) _ _ _ "tuple.__len__" "tuple" "__len__" (.ref (ρ k)) [] [] _ (by decide +kernel) (by decide +kernel) I2 (by unfold argsOk;kernel_rfl) ?_)
 show wpAny _ _ (Builtin.Tuple.tupleItemsOf (.ref (ρ k)) >>= fun xs=>retInt xs.size) _ _ s
 refine wpAny_bind (wpAny_bind (wpAny_seqItems ho rfl (wpAny_pure ?_)))
 refine wpAny_bind (wpAny_mkInt (wpAny_pure (wpAny_pure ?_)))
 refine wpAny_bind (wpAny_holding (wpAny_pure ?_))
 refine wpAny_bind (wpAny_letGo ?_)
 show wpAny _ _ (if ((ws.toArray.size:Nat):Int) < 0 then _ else _) _ _ _
 rw [if_neg (by lia)]
 show wpAny _ _ (if ((ws.toArray.size:Nat):Int)≥2 ^ 63 then _ else _) _ _ _
 rw [if_neg (by rw [List.size_toArray];lia)]
 refine wpAny_bind (wpAny_mkInt (wpAny_pure ⟨_,rfl,?_⟩))
 haveI S1:St c.w.params h₀ L ρ σ loc X { s with toks:=s.toks+1+1 }:=St.stop (xs:=[]) S (fun b o _ hb=>hb) (s.toks+1+1)
 refine K ρ σ _ _ _ h ?_ (Te _) (Agree.refl _ _) S1 ⟨rfl,.refl _,rfl⟩
 rw [show (ws.toArray.size:Int)=xs.length by simp [hlen]]
 exact .int _ _
end
theorem dU {P A B:Prop} [Decidable P] (hp:P) (h:A):(decide P=true→A)∧(decide P=false→B):=⟨fun _=>h,fun q=>absurd hp (of_decide_eq_false q)⟩
theorem dL {P A B:Prop} [Decidable P] (hp:¬ P) (h:B):(decide P=true→A)∧(decide P=false→B):=⟨fun q=>absurd (of_decide_eq_true q) hp,fun _=>h⟩
theorem dX {c:Cx} {sc:Scope} {U D:Nat} {loc:Loc} {σ:AH} {test:Expr} {body orelse:List Stmt} {pos:Pos} {R:AF→Loc→AH→Prop} (h:EvT c sc U D test loc σ fun b s₁=>b=false∧s₁=σ) (hR:ExS c sc U D orelse loc σ R):Ex1 c sc U D (.While test body orelse pos) loc σ R:=by
 refine cR (fun _ l s=>l=loc∧s=σ) 0 ⟨rfl,rfl⟩ ?_
 rintro n l s ⟨e1,e2⟩
 subst e1
 subst e2
 exact ⟨l,Sub.refl _,fun A env L h₀ fm ρ X t Q E S K=>h A env L h₀ fm ρ X t Q E S fun ρ' σ' b s' hb=>K ρ' σ' b s' ⟨fun q=>absurd (q.symm.trans hb.1) (by decide),fun _=>hb.2▸hR⟩⟩
theorem fS {b:Bool} {A B:Prop} (hb:b=true) (h:A):(b=true→A)∧(b=false→B):=⟨fun _=>h,fun q=>absurd (hb.symm.trans q) (by decide)⟩
theorem gJ {b:Bool} {A B:Prop} (hb:b=false) (h:B):(b=true→A)∧(b=false→B):=⟨fun q=>absurd (q.symm.trans hb) (by decide),fun _=>h⟩
section
variable {c:Cx} {sc:Scope} {U D:Nat} {loc:Loc} {σ:AH}
theorem Ex1.mono {st:Stmt} {R R':AF→Loc→AH→Prop} (h:Ex1 c sc U D st loc σ R) (hr:∀ f l s,R f l s→R' f l s):Ex1 c sc U D st loc σ R':=fun A env L h₀ fm ρ X s Q E S K =>
 h A env L h₀ fm ρ X s Q E S fun ρ' σ' loc' af v s' q fr=>K ρ' σ' loc' af v s' (hr _ _ _ q) fr
theorem EvE.mono {e:Expr} {R R':AV→AH→Prop} (h:EvE c sc U D e loc σ R) (hr:∀ a s,R a s→R' a s):EvE c sc U D e loc σ R':=fun A env L h₀ fm ρ X s Q E S K =>
 h A env L h₀ fm ρ X s Q E S fun ρ' σ' a v s' q fr=>K ρ' σ' a v s' (hr _ _ q) fr
theorem EvT.mono {e:Expr} {R R':Bool→AH→Prop} (h:EvT c sc U D e loc σ R) (hr:∀ a s,R a s→R' a s):EvT c sc U D e loc σ R':=fun A env L h₀ fm ρ X s Q E S K =>
 h A env L h₀ fm ρ X s Q E S fun ρ' σ' v s' q=>K ρ' σ' v s' (hr _ _ q)
theorem Sub.nil {l:Loc}:Sub [] l:=fun _ _ h=>nomatch h
theorem Sub.cons {x:Str} {a:AV} {l' l:Loc} (h:l.lookup x=some a) (t:Sub l' l):Sub ((x,a)::l') l:=fun y b q=>by
 rw [List.lookup_cons] at q
 by_cases e:y==x
 ·rw [e] at q;cases q;rw [eq_of_beq e];exact h
 ·simp only [e] at q;exact t y b q
theorem As1.mono {t:Expr} {a:AV} {R R':Loc→AH→Prop} (h:As1 c sc U D t a loc σ R) (hr:∀ l s,R l s→R' l s):As1 c sc U D t a loc σ R':=fun A env L h₀ fm ρ X s Q E v S hv K =>
 h A env L h₀ fm ρ X s Q E v S hv fun ρ' σ' loc' s' q=>K ρ' σ' loc' s' (hr _ _ q)
theorem aLj {e:Expr} {pos:Pos} {R:AV→AH→Prop} (h:EvE c sc U D e loc σ fun a σ₁=>∃ i,a=.int i∧R (.int (-i)) σ₁):EvE c sc U D (.UnaryOp .USub e pos) loc σ R:=fun A env L h₀ fm ρ X s Q E S K =>
 wpAny_UnaryOp (h A env L h₀ fm ρ X s _ E S fun ρ₁ σ₁ a v s₁ ⟨i,ea,ha⟩ va n₁ g₁ S₁ r₁=>by
  subst ea
  cases va
  exact neg_int ((K.after n₁ g₁ r₁) ρ₁ σ₁ _ _ _ ha (.int _ _) (Te _) (Agree.refl _ _) (S₁.toks _) ⟨rfl,.refl _,rfl⟩))
theorem sW {k:Nat} {a b:AO}:∀ l:List (Nat×AO),hW k b (hW k a l)=hW k b l
 | []=>rfl
 | (i,p)::r=>by
  have h:∀ (o:AO) (q:AO) (t:List (Nat×AO)),hW k o ((i,q)::t)=if k=i then (i,o)::t else (i,q)::hW k o t:=fun _ _ _=>rfl
  by_cases e:k=i
  ·rw [h a,if_pos e,h b,if_pos e,h b,if_pos e]
  ·rw [h a,if_neg e,h b,if_neg e,h b,if_neg e,sW r]
theorem aLk {σ:AH} {k:Nat} {a b:AO}:(σ.set k a).set k b=σ.set k b:=by
 show AH.mk σ.nx (hW k b (hW k a σ.objs))=AH.mk σ.nx (hW k b σ.objs)
 rw [sW]
theorem aGk {k d:Nat} {C:Addr} {kvs:List (Str×AV)} {name:Str} {a:AV} {R:AH→Prop} {o0:AO} (e0:σ.get d=some o0) (e:(σ.set d (.idict kvs)).get k=some (.inst C d))
  (hs:findIn c.K (.ref C) "__setattr__" = some (some (.builtin "object.__setattr__"))) (hp:plainOver c.K C=true) (ht:takerIn c.K C name=some none) (hh:hasDictIn c.K C=true) (hz:(put name a kvs).length≤1000)
  (h:PutTo name a kvs fun l=>R (σ.set d (.idict l))):SaA c sc U D (.ref k) name a loc (σ.set d (.idict kvs)) R:=aFl e (aF e0) hs hp ht hh hz (by unfold PutTo at h ⊢;show R ((σ.set d (.idict kvs)).set d _);rw [aLk];exact h)
theorem aLl {i:Int} {P:Int→Prop} (h:P i):∃ j,AV.int i=.int j∧P j:=⟨i,rfl,h⟩
theorem oU {e:Expr} {R:Bool→AH→Prop} {b:Bool} (h:EvT c sc U D e loc σ fun b' s=>b'=b∧s=σ) (h2:R b σ):EvT c sc U D e loc σ R:=h.mono fun a s ⟨x,y⟩=>by subst x;subst y;exact h2
theorem cT {st:Stmt} {rest:List Stmt} {R:AF→Loc→AH→Prop} (J:Loc→AH→Prop) (h1:Ex1 c sc U D st loc σ fun f l s=>f=.next∧J l s) (h2:∀ l s,J l s→ExS c sc U D rest l s R):Ex1 c sc U D st loc σ (thenS c sc U D rest R) :=
 h1.mono fun f l s ⟨e,j⟩=>by subst e;exact h2 l s j
end
def EvO (c:Cx) (sc:Scope) (U D:Nat) (e:Option Expr) (loc:Loc) (σ:AH) (R:AV→AH→Prop):Prop :=
 ∀ A env L h₀,Fm c sc A env L h₀ U D→∀ ρ X s Q E,St c.w.params h₀ L ρ σ loc X s→BackV c h₀ L ρ σ loc X s Q R→wpAny (model c.prog c.w) A (evalPart e env) Q E s
theorem All2.take' {α β:Type} {R:α→β→Prop} {l:List α} {r:List β} (h:All2 R l r):∀ n,All2 R (l.take n) (r.take n):=by
 induction h with
 | nil=>intro n;simp;exact .nil
 | cons a _ ih=>intro n;cases n with
  | zero=>exact .nil
  | succ n=>exact .cons a (ih n)
theorem All2.drop' {α β:Type} {R:α→β→Prop} {l:List α} {r:List β} (h:All2 R l r):∀ n,All2 R (l.drop n) (r.drop n):=by
 induction h with
 | nil=>intro n;simp;exact .nil
 | cons a t ih=>intro n;cases n with
  | zero=>exact .cons a t
  | succ n=>exact ih n
inductive PartA:AV→Option Int→Prop
 | none:PartA .none none
 | int (i:Int):PartA (.int i) (some i)
theorem PartA.part {ρ:Nat→Addr} {n:Nat} {a:AV} {v:Value} {o:Option Int} (h:PartA a o) (hv:VR ρ n a v):IsPart v o:=by
 cases h <;> cases hv
 ·exact .none
 ·exact .int _ _
noncomputable def sX {α:Type} (xs:List α) (lo hi:Option Int):List α:=(xs.drop (kms_lo lo xs.length)).take (kms_hi hi xs.length - kms_lo lo xs.length)
inductive RdA (σ:AH):AV→PyData→Prop
 | int (i:Int):RdA σ (.int i) (.int i)
 | str (x:Str):RdA σ (.str x) (.str x)
 | list {k:Nat} {xs:List AV} {ds:List PyData}:σ.get k=some (.list xs)→All2 (RdA σ) xs ds→RdA σ (.ref k) (.list ds)
 | tup {k:Nat} {xs:List AV} {ds:List PyData}:σ.get k=some (.tup xs)→All2 (RdA σ) xs ds→RdA σ (.ref k) (.tuple ds)
section
variable {c:Cx} {sc:Scope} {U D:Nat} {loc:Loc} {σ:AH}
theorem ClV.up {f:AV} {as:List AV} {R:AV→AH→Prop} {U' D':Nat} (hU:U≤U') (hD:D≤D') (h:ClV c sc U D f as loc σ R):ClV c sc U' D' f as loc σ R:=fun A env L h₀ fm ρ X s Q E fv vs S hf hv K =>
 h A env L h₀ ⟨fm.ex,fm.bel,fm.X,fm.T,fm.hk,by haveI:=fm.hu;exact (aSs hU this),by haveI:=fm.hd;exact (aSs hD this),fm.hh,fm.sm,fm.cfr⟩ ρ X s Q E fv vs S hf hv K
theorem rdA {P:Params} {h₀:Heap} {L:Addr} {ρ:Nat→Addr} {X:List (Addr×Obj)} {s:Shared} (S:St P h₀ L ρ σ loc X s):∀ (d:PyData) (a:AV),RdA σ a d→∀ v,VR ρ σ.nx a v→∃ as,Reads s.heap v d as:=by
 intro d
 refine PyData.rec (motive_1:=fun d=>∀ (a:AV),RdA σ a d→∀ v,VR ρ σ.nx a v→∃ as,Reads s.heap v d as)
  (motive_2:=fun ds=>∀ (xs:List AV),All2 (RdA σ) xs ds→∀ vs,VRs ρ σ.nx xs vs→∃ as,ReadsAll s.heap vs ds as) (motive_3:=fun _=>True) (motive_4:=fun _=>True) ?_ ?_ ?_ ?_ ?_ ?_ ?_ ?_ ?_ ?_ ?_ ?_ d
 ·intro a h;cases h
 ·intro b a h;cases h
 ·intro i a h v hv;cases h;cases hv;exact ⟨_,.int _ _⟩
 ·intro x a h v hv;cases h;cases hv;exact ⟨_,.str _ _⟩
 ·intro ds ih a h v hv
  cases h with
  | list e q =>
   cases hv
   obtain ⟨o,ho,hk,hr⟩:100:=S.at e
   cases hr with
   | list vs n hvs =>
    obtain ⟨as,r⟩:1:=ih _ q _ hvs
    exact ⟨_,.list ho rfl rfl (by simpa using r)⟩
 ·intro ds ih a h v hv
  cases h with
  | tup e q =>
   cases hv
   obtain ⟨o,ho,hk,hr⟩:100:=S.at e
   cases hr with
   | tup vs n hvs =>
    obtain ⟨as,r⟩:1:=ih _ q _ hvs
    exact ⟨_,.tuple ho rfl rfl (by simpa using r)⟩
 ·intro kvs _ a h;cases h
 ·intro xs h vs hv;cases h;cases hv;exact ⟨_,.nil⟩
 ·intro d ds h1 h2 xs h vs hv
  cases h with
  | cons a t =>
   cases hv with
   | cons u r =>
    obtain ⟨as,p⟩:1:=h1 _ a _ u
    obtain ⟨bs,q⟩:1:=h2 _ t _ r
    exact ⟨_,.cons p q⟩
 ·trivial
 ·intros;trivial
 ·intros;trivial
theorem vY {a b:AV} {da db:PyData} {R:AV→AH→Prop} (ra:RdA σ a da) (rb:RdA σ b db) (ha:SeqAt.shaped da=true) (hb:SeqAt.shaped db=true) (h:R (.bool (!PyData.eqv da db)) σ):OpC c sc (U+64) D .NotEq a b loc σ R:=fun A env L h₀ fm ρ X s Q E v w S hv hw K=>by
 obtain ⟨as,r1⟩:1:=rdA S _ _ ra _ hv
 obtain ⟨bs,r2⟩:1:=rdA S _ _ rb _ hw
 exact ne_dataH r1 r2 ha hb (by haveI:=fm.hu;exact (aSr this)) (K.now h (.bool _) S)
theorem nK {j k:Nat} {xs ys:List AV} {R:AV→AH→Prop} (e1:σ.get j=some (.list xs)) (e2:σ.get k=some (.list ys)) (hf:xs.length+ys.length≤1000) (h:R (.ref σ.nx) (σ.new (.list (xs++ys)))):OpB c sc U D .Add (.ref j) (.ref k) loc σ R:=fun A env L h₀ fm ρ X s Q E v w S hv hw K=>by
 cases hv;cases hw
 obtain ⟨o1,ho1,hk1,hr1⟩:100:=S.at e1
 obtain ⟨o2,ho2,hk2,hr2⟩:100:=S.at e2
 cases hr1 with
 | list vs n hvs =>
 cases hr2 with
 | list ws n2 hws =>
 haveI l1:=hvs.length
 haveI l2:=hws.length
 haveI e:vs.toArray++ws.toArray=(vs++ws).toArray:=by simp
 refine concat_meets ⟨_,ho1,rfl⟩ ⟨_,ho2,rfl⟩ noFill_list_add seq_list_add PySem.F.slot_list_add PySem.F.entry_list_add (PySem.F.args_list_add_2 _ _) (list_addW _ _ vs.toArray ws.toArray n n2 _ _ _ _ (by simp only [List.size_toArray,sizeLine_eq];lia)) ⟨ho1,ho2,?_⟩
 rw [e]
 exact K _ _ _ _ _ h bA (Nat.le_succ _) (aK _ _ _) (S.allocN (.list _ _ 0 (hvs.append hws)) rfl s.toks) ⟨rfl,.refl _,rfl⟩
theorem aGl {R:AV→AH→Prop} (h:R .none σ):EvO c sc U D none loc σ R:=fun A env L h₀ fm ρ X s Q E S K =>
 wpAny_pure (K.now h .none S)
theorem aGm {e:Expr} {R:AV→AH→Prop} (h:EvE c sc U D e loc σ R):EvO c sc U D (some e) loc σ R:=h
theorem aCz {lo hi st:Option Expr} {pos:Pos} {R:AV→AH→Prop} (h:EvO c sc U D lo loc σ fun a σ₁=>EvO c sc U D hi loc σ₁ fun b σ₂=>EvO c sc U D st loc σ₂ fun d σ₃=>R (.ref σ₃.nx) (σ₃.new (.flds "slice" [a,b,d]))):EvE c sc U D (.Slice lo hi st pos) loc σ R:=fun A env L h₀ fm ρ X s Q E S K=>by
 refine wpAny_Slice (h A env L h₀ fm ρ X s _ E S fun ρ₁ σ₁ a v₁ s₁ ha va n₁ g₁ S₁ r₁=>?_)
 refine ha A env L h₀ fm ρ₁ X s₁ _ E S₁ fun ρ₂ σ₂ b v₂ s₂ hb vb n₂ g₂ S₂ r₂=>?_
 refine hb A env L h₀ fm ρ₂ X s₂ _ E S₂ fun ρ₃ σ₃ d v₃ s₃ hd vd n₃ g₃ S₃ r₃=>?_
 exact (((K.after n₁ g₁ r₁).after n₂ g₂ r₂).after n₃ g₃ r₃) _ _ _ _ _ hd bA (Nat.le_succ _) (aK _ _ _)
  (S₃.allocN (.flds "slice" _ _ (.cons ((va.mono n₂ g₂).mono n₃ g₃) (.cons (vb.mono n₃ g₃) (.cons vd .nil)))) rfl s₃.toks) ⟨rfl,.refl _,rfl⟩
theorem aGn {elts:List Expr} {k:Nat} {pos:Pos} {j:Nat} {as:List AV} {R:Loc→AH→Prop} (e:σ.get j=some (.list as))
  (he:∀ env,(assignEach elts env).map (·.2)=elts.map fun t=>assign t env) (hl:∀ env,(assignEach elts env).length=elts.length) (hn:elts.length=as.length) (hstar:∀ env,(assignEach elts env).findIdx? (·.1)=none)
  (h:AsL c sc U D elts as loc σ R):As1 c sc U D (.Tuple elts k pos) (.ref j) loc σ R:=fun A env L h₀ fm ρ X s Q E v S hv K=>by
 cases hv
 obtain ⟨vs,ht,hr⟩:100:=S.isList e
 obtain ⟨m,news,F,hm,H,N,nd⟩:100:=S.ex
 haveI hlen:=hr.length
 refine kun_list F N ht fm.hh (by rw [hl,hn];simp [hlen]) (hstar env) fun h' F' N'=>?_
 rw [he]
 exact h A env L h₀ fm ρ X _ Q E _ ⟨m,news,F',hm,H,N',nd⟩ hr fun ρ' σ' loc' s' o n' g' S' r'=>K ρ' σ' loc' s' o n' g' S' ⟨r'.os,r'.gens,r'.dr⟩
theorem zA {i j:Int} {R:AV→AH→Prop} (hj:j≠0) (h:R (.int (i.fmod j)) σ):OpB c sc U D .Mod (.int i) (.int j) loc σ R:=fun A env L h₀ fm ρ X s Q E v w S hv hw K=>by
 cases hv;cases hw
 exact PySem.AutoIntOps.mod_1 (by simpa using hj) (K.tok h (.int _ _) S)
theorem vZ {i j:Int} {R:AV→AH→Prop} (hj:j≠0) (hp:j.natAbs < 1073741824) (h:R (.int (i.fdiv j)) σ):OpB c sc U D .FloorDiv (.int i) (.int j) loc σ R:=fun A env L h₀ fm ρ X s Q E v w S hv hw K=>by
 cases hv;cases hw
 exact PySem.AutoIntOps.floordiv_1 (by simpa using hj) (by simp [PyProof.noPylong_small hp]) (K.tok h (.int _ _) S)
end
noncomputable def inS (x y:Str):Bool:=!(Builtin.Str.occurrences y x 0 y.length 1).isEmpty
section
variable {c:Cx} {sc:Scope} {U D:Nat} {loc:Loc} {σ:AH}
theorem gK {x y:Str} {R:AV→AH→Prop} (hf:x.length+y.length≤100000) (h:R (.str (x++y)) σ):OpB c sc U D .Add (.str x) (.str y) loc σ R:=fun A env L h₀ fm ρ X s Q E v w S hv hw K=>by
 cases hv;cases hw
 exact PyProof.Rows.add_str (fun t' tk=>K.tok h (.str _ _) S) (by rw [sizeLine_eq];exact (Ta hf (Tb rfl)))
theorem aLm {x y:Str} {R:AV→AH→Prop} (hf:x.length+y.length≤100000) (h:R (.str (x++y)) σ):OpI c sc U D .Add (.str x) (.str y) loc σ R:=fun A env L h₀ fm ρ X s Q E v w S hv hw K=>by
 cases hv;cases hw
 exact PyProof.Rows.iadd_str (fun t' tk=>K.tok h (.str _ _) S) (by rw [sizeLine_eq];exact (Ta hf (Tb rfl)))
theorem wA {x:Str} {R:AV→AH→Prop} (hf:x.length≤100000) (h:R (.int x.length) σ):ClV c sc U D (.bi "len") [.str x] loc σ R:=fun A env L h₀ fm ρ X s Q E fv vs S hfv hv K=>by
 cases hfv
 obtain ⟨v1,hv1⟩:=hY hv
 cases hv1
 exact PyProof.Rows.len_str (by lia) (K.tok h (.int _ _) S)
theorem zB {x y:Str} {R:AV→AH→Prop} (h:R (.bool (inS x y)) σ):OpC c sc U D .In (.str x) (.str y) loc σ R:=fun A env L h₀ fm ρ X s Q E v w S hv hw K=>by
 cases hv;cases hw
 exact PyProof.Rows.in_str (K.now h (.bool _) S)
theorem nU {x:Str} {R:AV→AH→Prop} (h:R (.bool false) σ):OpC c sc U D .Eq (.str x) .none loc σ R:=fun A env L h₀ fm ρ X s Q E v w S hv hw K=>by
 cases hv;cases hw
 exact PySem.EqNone.eq_str_none (K.now h (.bool _) S)
theorem wB {R:AV→AH→Prop} (h:R (.bool true) σ):OpC c sc U D .Eq .none .none loc σ R:=fun A env L h₀ fm ρ X s Q E v w S hv hw K=>by
 cases hv;cases hw
 exact PySem.EqNone.eq_none_none (K.now h (.bool _) S)
theorem iJ {value slice:Expr} {j:Nat} {x:Str} {a b:AV} {lo hi:Option Int} {R:AV→AH→Prop} (ej:σ.get j=some (.flds "slice" [a,b,.none])) (pa:PartA a lo) (pb:PartA b hi) (hx:x.length≤100000)
  (h:R (.str (Txt.slice x lo hi)) σ) (hs:∀ v i,subscripted slice false v (.ref i)=operate [.ref i,v] (getItem v (.ref i))):SbT c sc U D value slice (.str x) (.ref j) loc σ R:=fun A env L h₀ fm ρ X s Q E v w S hv hw K=>by
 cases hw
 cases hv with
 | str t =>
 refine hid ?_;intro ZZ zz
 obtain ⟨o2,ho2,hk2,hr2⟩:100:=S.at ej
 obtain ⟨ws,hw⟩:=jY hr2
 obtain ⟨w1,w2,w3,hw1,hw2,hw3⟩:=vR hw
 refine zz ?_;clear zz
 cases hw3
 have pp:∀ {a:AV} {w:Value} {o:Option Int},PartA a o→VR ρ σ.nx a w→∃ l:Option (Int×Tok),w=partValue l∧l.map (·.1)=o:=fun p q=>by
  cases p <;> cases q
  ·exact ⟨none,rfl,rfl⟩
  ·exact ⟨some (_,_),rfl,rfl⟩
 obtain ⟨l,rfl,el⟩:1:=pp pa hw1
 obtain ⟨u,rfl,eu⟩:1:=pp pb hw2
 refine tail_any (typeIs_str s x t) PySem.F.slot_str_getitem.lookup (wpAny_getItem_str_slice (l:=l) (u:=u) (st:=none) ⟨_,ho2,rfl,rfl⟩ (by rfl) ?_) (hs _ _)
 haveI e:Txt.slice x lo hi=if ((1:Int)==1&&(Builtin.Str.strSliceIndices lo hi 1 x.length).length==x.length)=true then x else ⟨((Builtin.Str.strSliceIndices lo hi 1 x.length).filterMap (x.cps[·]?)).toArray⟩:=rfl
 unfold sliceMade slicePicked
 rw [el,eu]
 rw [e] at h
 show ((if ((1:Int)==1&&(Builtin.Str.strSliceIndices lo hi 1 x.length).length==x.length)=true then Made.val (.str x t) else Made.str ⟨((Builtin.Str.strSliceIndices lo hi 1 x.length).filterMap (x.cps[·]?)).toArray⟩)).post Q s
 split
 ·rename_i q
  rw [if_pos q] at h
  exact K.now h (.str _ _) S
 ·rename_i q
  rw [if_neg q] at h
  refine ⟨by rw [sizeLine_eq];haveI:=Txt.slice_le x lo hi;rw [e,if_neg q] at this;exact (Ta this (Ta hx (Tb rfl))),K.tok h (.str _ _) S⟩
theorem pR {x:Str} {j:Nat} {ys:List Str} {R:AV→AH→Prop} (e:σ.get j=some (.tup (ys.map .str))) (h:R (.bool (ys.any (·==x))) σ):OpC c sc U D .In (.str x) (.ref j) loc σ R:=fun A env L h₀ fm ρ X s Q E v w S hv hw K=>by
 cases hv;cases hw
 obtain ⟨vs,ht,hr⟩:100:=S.isTup e
 have:∀ {ys:List Str} {vs:List Value},VRs ρ σ.nx (ys.map .str) vs→StrsAre vs ys:=by
  intro ys
  induction ys with
  | nil=>intro vs h;cases h;exact .nil
  | cons y ys ih=>intro vs h;cases h with | cons h t=>cases h;exact .cons _ _ (ih t)
 exact in_tuple_strs ht (by simpa using this hr) (K.now h (.bool _) S)
theorem tX {i:Int} {R:AV→AH→Prop} (h:R (.ty "int") σ):ClV c sc U D (.ty "type") [.int i] loc σ R:=fun A env L h₀ fm ρ X s Q E fv vs S hfv hv K=>by
 cases hfv
 obtain ⟨v1,hv1⟩:=hY hv
 cases hv1
 exact call_type_of (typeIs_int _ _ _) (by decide) (K.now h (.ty _) S)
theorem tY {x:Str} {R:AV→AH→Prop} (h:R (.ty "str") σ):ClV c sc U D (.ty "type") [.str x] loc σ R:=fun A env L h₀ fm ρ X s Q E fv vs S hfv hv K=>by
 cases hfv
 obtain ⟨v1,hv1⟩:=hY hv
 cases hv1
 exact call_type_of (typeIs_str _ _ _) (by decide) (K.now h (.ty _) S)
theorem tZ {a b:String} {r:Bool} {R:AV→AH→Prop} (e:(!(Value.type a==Value.type b))=r) (h:R (.bool r) σ):OpC c sc U D .IsNot (.ty a) (.ty b) loc σ R:=fun A env L h₀ fm ρ X s Q E v w S hv hw K=>by
 cases hv;cases hw
 exact isnot_type (by rw [e];exact K.now h (.bool _) S)
theorem pS {i:Int} {R:AV→AH→Prop} (h:R (.int i) σ):ClV c sc U D (.ty "int") [.int i] loc σ R:=fun A env L h₀ fm ρ X s Q E fv vs S hfv hv K=>by
 cases hfv
 obtain ⟨v1,hv1⟩:=hY hv
 cases hv1
 exact call_int_int (K.now h (.int _ _) S)
theorem uA {o value:Expr} {attr:Str} {tp pos:Pos} {op:Operator} {R:AF→Loc→AH→Prop}
  (h:EvE c sc U D o loc σ fun b σ₁=>GtA c sc U D b attr loc σ₁ fun d σ₂=>EvE c sc U D value loc σ₂ fun e σ₃=>OpI c sc U D op d e loc σ₃ fun f σ₄=>SaA c sc U D b attr f loc σ₄ fun σ₅=>R .next loc σ₅):Ex1 c sc U D (.AugAssign (.Attribute o attr tp) op value pos) loc σ R:=fun A env L h₀ fm ρ X s Q E S K=>by
 refine wpAny_AugAssign_AttributeAny ?_
 refine h A env L h₀ fm ρ X s _ E S fun ρ₁ σ₁ b ov s₁ hb vb n₁ g₁ S₁ r₁=>?_
 refine hb A env L h₀ fm ρ₁ X s₁ _ E _ S₁ vb fun ρ₂ σ₂ d old s₂ hd vd n₂ g₂ S₂ r₂=>?_
 refine hd A env L h₀ fm ρ₂ X s₂ _ E S₂ fun ρ₃ σ₃ e w s₃ he ve n₃ g₃ S₃ r₃=>?_
 refine he A env L h₀ fm ρ₃ X s₃ _ E _ _ S₃ (vd.mono n₃ g₃) ve fun ρ₄ σ₄ f nw s₄ hf vf n₄ g₄ S₄ r₄=>?_
 refine hf A env L h₀ fm ρ₄ X s₄ _ E _ _ S₄ (((vb.mono n₂ g₂).mono n₃ g₃).mono n₄ g₄) vf fun ρ₅ σ₅ _ s₅ h₅ n₅ g₅ S₅ r₅=>?_
 exact ((((K.after n₁ g₁ r₁).after n₂ g₂ r₂).after n₃ g₃ r₃).after n₄ g₄ r₄) ρ₅ σ₅ _ _ .next s₅ h₅ .next n₅ g₅ S₅ r₅
end
theorem aGo:mroOf (.type "collections.deque")=pure [.type "collections.deque", .type "object"]:=by rw [mroOf_type];kernel_rfl
theorem rT:typeLookup (.type "collections.deque") "__new__" = pure (some (.builtin "collections.deque.__new__")):=by rw [typeLookup_type,builtinLookup_eq_fast];kernel_rfl
theorem uB:Slot "collections.deque" "__init__" "collections.deque.__init__" :=
 .of (owner := "collections.deque") (n := "__init__") (by rw [typeLookup_type,builtinLookup_eq_fast];kernel_rfl) (by decide +kernel) (by decide +kernel) (by decide +kernel)
  (by first | exact .inl (by decide +kernel) | exact .inr (by decide +kernel)) (by rw [isSubtype_type];kernel_rfl)
theorem dq_slot_len:Slot "collections.deque" "__len__" "collections.deque.__len__" :=
 .of (owner := "collections.deque") (n := "__len__") (by rw [typeLookup_type,builtinLookup_eq_fast];kernel_rfl) (by decide +kernel) (by decide +kernel) (by decide +kernel)
  (by first | exact .inl (by decide +kernel) | exact .inr (by decide +kernel)) (by rw [isSubtype_type];kernel_rfl)
theorem aDa:TypeCalled "collections.deque" "collections.deque.__new__" "collections.deque.__init__" :=
 ⟨by decide +kernel,by decide +kernel,⟨_,_,aGo⟩,madeBy_type aGo rT (by decide +kernel),by decide +kernel,by rw [isSubtype_type];kernel_rfl,uB⟩
theorem wC:checkTypeCall "collections.deque" ⟨[],[]⟩=pure ():=by kernel_rfl
theorem zC:checkBuiltinCall "collections.deque.__new__" ⟨[.type "collections.deque"],[]⟩=pure ():=by kernel_rfl
theorem uC:entryFor table "collections.deque.__new__" = some Builtin.«collections.deque.__new__» := entryFor_of_tree (by kernel_rfl)
theorem lR:plainId "collections.deque.__new__" = true:=by decide +kernel
theorem rU:entryFor table "collections.deque.__init__" = some Builtin.«collections.deque.__init__» := entryFor_of_tree (by kernel_rfl)
theorem uD:entryFor table "collections.deque.__len__" = some Builtin.«collections.deque.__len__» := entryFor_of_tree (by kernel_rfl)
theorem aDb:typeLookup (.type "collections.deque") "__bool__" = pure none:=by rw [typeLookup_type,builtinLookup_eq_fast];kernel_rfl
theorem wD (a:Value):argsOk "collections.deque.__len__" ⟨[a],[]⟩:=by unfold argsOk;kernel_rfl
theorem uE (a:Value):argsOk "collections.deque.__init__" ⟨[a],[]⟩:=by unfold argsOk;kernel_rfl
theorem aPg:isSubtype (.type "collections.deque") (.type "collections.deque")=pure true:=by rw [isSubtype_type];kernel_rfl
noncomputable def pT:Obj:={ cls:=.type "collections.deque", data:=.fields #[.none,.int 0 0] }
section
variable {prog:Program} {w:World} {A:Around} {E:Value→Shared→Prop} {s:Shared}
theorem wE {Q₁:Value→Shared→Prop} (h:Q₁ (.ref s.heap.objs.size) { s with heap:=s.heap.push pT }) :
  codeAny (model prog w) A (.call (.builtin "collections.deque.__new__") ⟨[.type "collections.deque"],[]⟩) (wants Q₁ E) s:=by
 refine codeAny_of_tree ?_
 show wpAny _ A.in1 (do checkBuiltinCall "collections.deque.__new__" ⟨[.type "collections.deque"],[]⟩;again (.builtin "collections.deque.__new__" ⟨[.type "collections.deque"],[]⟩)) _ _ s
 refine wpAny_bind (wpAny_of_eq zC (wpAny_pure ⟨plainId_quiet lR _,codeAny_builtin uC ?_⟩))
 rw [Around.under_plainId lR _]
 unfold Builtin.«collections.deque.__new__» Builtin.Deque.newArgs
 haveI hsub:isSubtype (.type "collections.deque") (.type Builtin.Deque.ty)=pure true:=aPg
 obtain ⟨hp,g,d,tk,os⟩:=s
 dsimp only
 wp_walk
 exact h
theorem aGp {d:Addr} {s:Shared} {Q:Unit→Shared→Prop} (ho:s.heap.get? d=some pT) (h:Q () s):wpAny (model prog w) A (Builtin.Deque.clear (.ref d)) Q E s:=by
 unfold Builtin.Deque.clear Builtin.Deque.items
 refine wpAny_bind (wpAny_bind (wpAny_fieldsOf ho rfl (wpAny_pure ?_)))
 show wpAny _ _ (if (0:Nat) > 0 then _ else _) _ _ _
 rw [if_neg (by exact (Nat.not_lt_of_le (Tb rfl)))]
 exact wpAny_pure h
end
section
variable {c:Cx} {sc:Scope} {U D:Nat} {loc:Loc} {σ:AH}
theorem aDc {R:AV→AH→Prop} (h:R (.ref σ.nx) (σ.new (.flds "collections.deque" [.none,.int 0]))):ClV c sc U D (.ty "collections.deque") [] loc σ R:=fun A env L h₀ fm ρ X s Q E fv vs S hfv hv K=>by
 cases hfv;cases hv
 refine callType_codes (Q₁:=fun obj s₁=>obj=.ref s.heap.objs.size∧s₁={ s with heap:=s.heap.push pT }) aDa wC rU (wE ⟨rfl,rfl⟩) fun obj s₁ h₁=>?_
 obtain ⟨rfl,rfl⟩:0:=h₁
 haveI hS:(s.heap.push pT).get? s.heap.objs.size=some pT:=Heap.get?_push_size _ rfl
 refine ⟨⟨_,hS,rfl⟩,uE _,?_⟩
 haveI S1:=S.allocN (a:=.flds "collections.deque" [.none,.int 0]) (o:=pT) (.flds "collections.deque" _ [.none,.int 0 0] (.cons .none (.cons (.int _ _) .nil))) rfl s.toks
 haveI eN:(ext ρ σ.nx s.heap.objs.size) σ.nx=s.heap.objs.size:=aS _ _ _
 show wpAny _ _ (setField (.ref s.heap.objs.size) 0 .none >>= fun _=>Builtin.Deque.clear (.ref s.heap.objs.size) >>= fun _=>ret .none) _ _ _
 refine wpAny_bind (wpAny_setField_rec (vs:=#[.none,.int 0 0]) hS (by simp) fun h' ho' hs'=>?_)
 haveI ho2:h'.get? s.heap.objs.size=some pT:=ho'
 refine wpAny_bind (aGp ho2 (wpAny_pure ⟨rfl,?_⟩))
 haveI S2:=St.setB (a':=.flds "collections.deque" [.none,.int 0]) S1 aB (by rw [eN];exact hs') (by rw [eN];exact ho2) (.flds "collections.deque" _ [.none,.int 0 0] (.cons .none (.cons (.int _ _) .nil))) s.toks
 rw [dJ] at S2
 exact K _ _ _ _ _ h bA (Nat.le_succ _) (aK _ _ _) S2 ⟨rfl,.refl _,rfl⟩
theorem aDd {k:Nat} {R:Bool→AH→Prop} (e:σ.get k=some (.flds "collections.deque" [.none,.int 0])) (h:R false σ):TrV c sc U D (.ref k) loc σ R:=fun A env L h₀ fm ρ X s Q E v S hv K=>by
 cases hv
 obtain ⟨o,ho,hk,hr⟩:100:=S.at e
 obtain ⟨ws,hw⟩:=jY hr
 obtain ⟨w1,w2,hw1,hw2⟩:=fE hw
 cases hw1
 cases hw2
 haveI hfin:Q false { s with toks:=s.toks+1+1 }:=K ρ σ _ _ h (Te _) (Agree.refl _ _) (S.toks _) ⟨rfl,.refl _,rfl⟩
 haveI hT:s.TypeIs (.ref (ρ k)) "collections.deque" := ⟨_,ho,rfl⟩
 haveI key:wpAny (model c.prog c.w) A (runValue (.builtin "len" ⟨[.ref (ρ k)],[]⟩)) (fun r s'=>(∃ t,r=.int 0 t)∧s'={ s with toks:=s.toks+1+1 }) E s:=by
  refine wpAny_runValue (codeAny_builtin entry_len ?_)
  rw [Around.under_plainId plain_len _]
  unfold Builtin.«len»
  refine wpAny_bind (m:=oneArg "len" _) (wpAny_pure ?_)
  refine wpAny_bind (wpAny_callSpecial?_slot (name:=Str.ofString "__len__") hT dq_slot_len (wpAny_call_entry dq_slot_len hT uD ?_ (wD _)))
  show wpAny _ _ (Builtin.Deque.size (.ref (ρ k)) >>= fun n=>retInt n) _ _ s
  unfold Builtin.Deque.size
  refine wpAny_bind (wpAny_bind (wpAny_fieldsOf ho rfl (wpAny_pure ?_)))
  refine wpAny_bind (wpAny_mkInt (wpAny_pure ⟨_,rfl,?_⟩))
  refine wpAny_bind (wpAny_holding (wpAny_pure ?_))
  refine wpAny_bind (wpAny_letGo ?_)
  show wpAny _ _ (if (0:Int) < 0 then _ else _) _ _ _
  rw [if_neg (by exact (jS (Nat.not_lt_of_le (Tb rfl))))]
  show wpAny _ _ (if (0:Int)≥2 ^ 63 then _ else _) _ _ _
  rw [if_neg (by lia)]
  exact wpAny_bind (wpAny_mkInt (wpAny_pure ⟨⟨_,rfl⟩,rfl⟩))
 unfold truthy
 refine wpAny_bind (wpAny_callSpecial?_none (name:=Str.ofString "__bool__") hT aDb ?_)
 refine wpAny_bind (wpAny_specialOf hT dq_slot_len.lookup ?_)
 rw [if_neg (by decide)]
 refine wpAny_bind (wpAny_mono key (fun r s' h'=>?_) fun _ _ e=>e)
 obtain ⟨⟨t,rfl⟩,rfl⟩:=h'
 exact wpAny_pure hfin
theorem aLn {k d:Nat} {C p fget:Addr} {rest:List Value} {kvs:List (Str×AV)} {name:Str} {R:AV→AH→Prop} (e:σ.get k=some (.inst C d)) (e':σ.get d=some (.idict kvs)) (hg:plainGet c.K C name=true) (hh:hasDictIn c.K C=true)
  (ha:findIn c.K (.ref C) name=some (some (.ref p))) (hn:specialIn c.K (.ref p) "__get__" = some (some (.builtin "property.__get__"))) (ht:takesIn c.K (.ref p)=some true) (hp:recIn c.K p "property" = some (.ref fget::rest))
  (h:CdV c sc U D (.glob fget) [.ref k] [] loc σ fun a σ'=>lL a=true∧R a σ'):GtA c sc (U+1) D (.ref k) name loc σ R:=fun A env L h₀ fm ρ X s Q E v S hv K=>by
 cases hv
 rename_i hk
 obtain ⟨es,n,I,hr⟩:100:=S.inst e e'
 obtain ⟨m,news,F,hm,H,N,nd⟩:100:=S.ex
 refine get_prop F fm.X I hg hh ha hn ht hp ?_
 haveI S':St c.w.params h₀ L ρ σ loc X { s with toks:=s.toks+1 }:=S.toks _
 refine h A.in1 env L h₀ fm.in1 ρ X _ _ _ [.ref (ρ k)] [] S' (.glob _) (.cons (.ref k hk) .nil) .nil fun ρ₁ σ₁ a v s₁ ⟨hd,ha⟩ va n₁ g₁ S₁ r₁=>?_
 exact handed_on (pC va hd) (K ρ₁ σ₁ a v s₁ ha va n₁ g₁ S₁ ⟨r₁.os,r₁.gens,r₁.dr⟩)
theorem wF {x:Str} {R:AV→AH→Prop} (h:R (.bool true) σ):ClV c sc U D (.bi "isinstance") [.str x,.ty "str"] loc σ R:=fun A env L h₀ fm ρ X s Q E fv vs S hfv hv K=>by
 cases hfv
 obtain ⟨v1,v2,hv1,hv2⟩:=fE hv
 cases hv1;cases hv2
 exact PySem.IsiPair.str_str (K.now h (.bool _) S)
end
structure ClsN (M:Model) (h:Heap) (C:Addr) (b:Value) (mro:List Value):Prop where
 obj:∃ oc od cd sl,h.get? C=some ⟨oc,od,.cls cd,sl⟩∧cd.bases=[b]∧cd.mro=mro∧cd.slotNames=[]∧sl.toList[4]? = some (some .none)∧cd.abstract=false∧cd.hasDel=false
theorem ClsN.made {M:Model} {h:Heap} {C:Addr} {b c:Value} {l:List Value} (H:ClsN M h C b (c::l)):Looks M h (Bind.madeBy (.ref C)) none:=by
 intro A Q E s k q
 obtain ⟨oc,od,cd,sl,ho,hb,hm,hn,hs,-⟩:4:=H.obj
 haveI ho':=k _ _ ho
 unfold Bind.madeBy mroOf
 refine wpAny_bind (wpAny_bind (wpAny_bind (wpAny_load ho' (wpAny_pure (wpAny_pure ?_)))))
 rw [hm,List.forIn_cons]
 refine wpAny_bind (wpAny_bind (wpAny_bind (wpAny_bind (wpAny_loadPart ho' (wpAny_pure ?_)))))
 dsimp only
 rw [← Array.getElem?_toList,hs]
 exact wpAny_pure (wpAny_pure (wpAny_pure q))
theorem ClsN.names {M:Model} {h:Heap} {C:Addr} {b:Value} {l:List Value} (H:ClsN M h C b l):Looks M h (Builtin.Slots.slotNamesOf (.ref C)) []:=by
 intro A Q E s k q
 obtain ⟨oc,od,cd,sl,ho,hb,hm,hn,hs,-⟩:4:=H.obj
 haveI ho':=k _ _ ho
 show wpAny M A (do return (← classData C).slotNames) Q E s
 refine wpAny_bind (wpAny_bind (wpAny_load ho' (wpAny_pure (wpAny_pure ?_))))
 rw [hn];exact q
theorem lS:Builtin.Slots.slotNamesOf (.type "object")=pure []:=by kernel_rfl
theorem ClsN.adds {M:Model} {h:Heap} {C:Addr} {b:Value} {l:List Value} (H:ClsN M h C b l) (hb:Looks M h (Builtin.Slots.slotNamesOf b) []):Looks M h (Builtin.Slots.addsLayout (.ref C)) false:=by
 intro A Q E s k q
 obtain ⟨oc,od,cd,sl,ho,hb',hm,hn,hs,-⟩:4:=H.obj
 haveI ho':=k _ _ ho
 unfold Builtin.Slots.addsLayout
 refine wpAny_bind (wpAny_bind (wpAny_load ho' (wpAny_pure ?_)))
 dsimp only
 rw [hb',List.forIn_cons]
 refine wpAny_bind (wpAny_bind (wpAny_bind (hb A _ E s k (wpAny_pure ?_))))
 dsimp only
 rw [List.forIn_nil]
 refine wpAny_pure (wpAny_pure ?_)
 rw [hn];exact q
theorem ClsN.mro {M:Model} {h:Heap} {C:Addr} {b:Value} {l:List Value} (H:ClsN M h C b l):Looks M h (mroOf (.ref C)) l:=by
 intro A Q E s k q
 obtain ⟨oc,od,cd,sl,ho,hb',hm,hn,hs,-⟩:4:=H.obj
 haveI ho':=k _ _ ho
 unfold mroOf
 refine wpAny_bind (wpAny_bind (wpAny_load ho' (wpAny_pure (wpAny_pure ?_))))
 rw [hm];exact q
theorem aPh {M:Model} {h:Heap} {b:Value} {C:Addr} (hm:Looks M h (mroOf b) [.ref C,.type "object"]) (a1:Looks M h (Builtin.Slots.addsLayout (.ref C)) false):Looks M h (Builtin.Slots.solid b) (.type "object"):=by
 intro A Q E s k q
 unfold Builtin.Slots.solid
 refine wpAny_bind (hm A _ E s k ?_)
 rw [List.forIn_cons]
 repeat (with_reducible refine wpAny_bind ?_)
 refine a1 A _ E s k ?_
 rw [if_neg (by decide)]
 refine wpAny_pure ?_
 dsimp only
 refine wpAny_pure ?_
 dsimp only
 exact wpAny_pure q
theorem aPi {M:Model} {h:Heap} {b:Value} {C C':Addr} (hm:Looks M h (mroOf b) [.ref C,.ref C',.type "object"]) (a1:Looks M h (Builtin.Slots.addsLayout (.ref C)) false) (a2:Looks M h (Builtin.Slots.addsLayout (.ref C')) false):Looks M h (Builtin.Slots.solid b) (.type "object"):=by
 intro A Q E s k q
 unfold Builtin.Slots.solid
 refine wpAny_bind (hm A _ E s k ?_)
 rw [List.forIn_cons]
 repeat (with_reducible refine wpAny_bind ?_)
 refine a1 A _ E s k ?_
 rw [if_neg (by decide)]
 refine wpAny_pure ?_
 dsimp only
 rw [List.forIn_cons]
 repeat (with_reducible refine wpAny_bind ?_)
 refine a2 A _ E s k ?_
 rw [if_neg (by decide)]
 refine wpAny_pure ?_
 dsimp only
 refine wpAny_pure ?_
 dsimp only
 exact wpAny_pure q
theorem aNs {M:Model} {h:Heap} {b:Value} (hs:Looks M h (Builtin.Slots.solid b) (.type "object")):Looks M h (Builtin.Slots.bestBase [b]) b:=by
 intro A Q E s k q
 unfold Builtin.Slots.bestBase
 dsimp only
 rw [List.forIn_cons]
 repeat (with_reducible refine wpAny_bind ?_)
 refine hs A _ E s k ?_
 dsimp only
 refine wpAny_pure (wpAny_pure ?_)
 exact wpAny_pure q
theorem wG:Builtin.Slots.bestBase [.type "object"]=pure (.type "object"):=by kernel_rfl
theorem iK:Bind.madeBy (.type "object")=pure (some "object.__new__"):=by kernel_rfl
theorem aLo {M:Model} {h:Heap} {C0 C1 C2:Addr} (H0:ClsN M h C0 (.ref C1) [.ref C0,.ref C1,.ref C2,.type "object"]) (H1:ClsN M h C1 (.ref C2) [.ref C1,.ref C2,.type "object"]) (H2:ClsN M h C2 (.type "object") [.ref C2,.type "object"]) :
  Looks M h (Bind.staticBase (.ref C0)) (.type "object"):=by
 haveI n1:=H1.names
 haveI n2:=H2.names
 haveI b1:=aNs (aPi H1.mro (H1.adds n2) (H2.adds (Looks.of_pure lS)))
 haveI b2:=aNs (aPh H2.mro (H2.adds (Looks.of_pure lS)))
 intro A Q E s k q
 unfold Bind.staticBase
 refine wpAny_bind (H0.mro A _ E s k ?_)
 have step:∀ {C:Addr} {b:Value} {l:List Value} (H:ClsN M h C b l) (hb:Looks M h (Builtin.Slots.bestBase [b]) b) (Q':Value→Prop),True:=fun _ _ _=>trivial
 obtain ⟨oc0,od0,cd0,sl0,ho0,hb0,-⟩:4:=H0.obj
 obtain ⟨oc1,od1,cd1,sl1,ho1,hb1,-⟩:4:=H1.obj
 obtain ⟨oc2,od2,cd2,sl2,ho2,hb2,-⟩:4:=H2.obj
 rw [List.forIn_cons]
 repeat (with_reducible refine wpAny_bind ?_)
 refine H0.made A _ E s k ?_
 dsimp only [Option.isSome]
 rw [if_neg (by decide)]
 refine wpAny_bind (wpAny_bind (wpAny_bind (wpAny_load (k _ _ ho0) (wpAny_pure ?_))))
 refine wpAny_pure (a:=cd0) (wpAny_bind ?_)
 rw [hb0]
 refine b1 A _ E s k (wpAny_pure ?_)
 dsimp only
 rw [List.forIn_cons]
 repeat (with_reducible refine wpAny_bind ?_)
 refine H1.made A _ E s k ?_
 dsimp only [Option.isSome]
 rw [if_neg (by decide)]
 refine wpAny_bind (wpAny_bind (wpAny_bind (wpAny_load (k _ _ ho1) (wpAny_pure ?_))))
 refine wpAny_pure (a:=cd1) (wpAny_bind ?_)
 rw [hb1]
 refine b2 A _ E s k (wpAny_pure ?_)
 dsimp only
 rw [List.forIn_cons]
 repeat (with_reducible refine wpAny_bind ?_)
 refine H2.made A _ E s k ?_
 dsimp only [Option.isSome]
 rw [if_neg (by decide)]
 refine wpAny_bind (wpAny_bind (wpAny_bind (wpAny_load (k _ _ ho2) (wpAny_pure ?_))))
 refine wpAny_pure (a:=cd2) (wpAny_bind ?_)
 rw [hb2,wG]
 refine wpAny_pure (wpAny_pure ?_)
 dsimp only
 rw [List.forIn_cons]
 refine wpAny_bind (wpAny_bind ?_)
 dsimp only
 rw [iK]
 exact wpAny_pure (wpAny_pure (wpAny_pure (wpAny_pure q)))
section
variable {prog:Program} {w:World} {A:Around} {C:Addr} {R:Result→Shared→Prop} {h:Heap} {g:Array GenState} {d:Drawn} {t:Nat} {os:OsState}
theorem aZm {b:Value} {l:List Value} (H:ClsN (model prog w) h C b l) (base:Looks (model prog w) h (Bind.staticBase (.ref C)) (.type "object")) (top:Looks (model prog w) h (isSubtype (.ref C) (.type "object")) true)
  (hq:R (.ok (.ret (.ref (h.objs.size+1)))) ⟨(h.push emptyDict).push (instObj C h.objs.size),g,d,t,os⟩) :
  codeAny (model prog w) A (.call (.builtin "object.__new__") ⟨[.ref C],[]⟩) R ⟨h,g,d,t,os⟩:=by
 obtain ⟨oc,od,cd,sl,hC,-,-,-,-,e1,e2⟩:4:=H.obj
 haveI F:=PySem.F.objNew
 refine codeAny_call_builtin_code (Code.quiet_builtin _ F.quiet) ?_
 haveI mo:=Looks.of_pure (M:=model prog w) (h:=h) iK
 haveI isT:Looks (model prog w) h (isType (.ref C)) true:=(Looks.ld (part:=none) hC).andThen .now
 refine' aAu (s:=⟨h,g,d,t,os⟩) ?ka ?kb ?kc ?kd ?ke ?kf ?kg ?_
 case ka=>exact F.kind
 case kb=>exact F.split
 case kc=>exact isT
 case kd=>exact top
 case ke=>exact base
 case kf=>exact mo
 case kg=>kernel_rfl
 haveI here:Looks (model prog w) h (Bind.madeHere "object.__new__" (.ref C)) ():=base.andThen ((Looks.of_pure iK).andThen (Looks.of_pure (by simp only [Option.map_some,bne_self_eq_false,Bool.false_eq_true,if_false])))
 haveI args:Bind.checkArgs "object.__new__" ⟨.hand, "object.__new__", "__new__", .cls,[]⟩ ⟨[.ref C],[]⟩=pure ():=by kernel_rfl
 rw [F.row]
 dsimp only
 rw [args]
 refine wpAny_pure ?_
 refine codeAny_builtin F.entry ?_
 unfold Builtin.«object.__new__»
 have fin:∀ A',wpAny (model prog w) A' (do
   let d ← if typeHasDict (.ref C) then some <$> alloc { cls:=.type "dict", data:=.dict #[] } else pure none
   ret (← newObj (.ref C) .plain d)) (fun fin s'=>match fin with | .done f=>R (.ok f) s' | .again c'=>c'.quiet=true∧codeAny (model prog w) A c' R s') (fun e s'=>R (.error e) s') ⟨h,g,d,t,os⟩:=by
  intro A'
  show wpAny _ _ ((alloc emptyDict >>= fun x=>pure (some x)) >>= _) _ _ _
  refine wpAny_bind (wpAny_bind (wpAny_alloc (wpAny_pure (wpAny_bind ?_))))
  show wpAny _ _ (newObjAsIs _ _ _) _ _ _
  unfold newObjAsIs classHasDel
  refine wpAny_bind (wpAny_alloc (wpAny_bind (wpAny_bind (wpAny_load (Heap.get?_push_of_some _ (Heap.get?_push_of_some _ hC)) (wpAny_pure ?_)))))
  rw [e2]
  refine wpAny_pure (wpAny_pure ?_)
  show R _ _
  rw [Heap.size_push]
  exact hq
 repeat (first | ((with_reducible refine dE ?hc ?_);(case hc=>first | exact Bool.false_ne_true | (rw [e1];exact Bool.false_ne_true))) | exact fin _ | lk)
end
noncomputable def uF (K:Frag) (C:Addr) (b:Value) (mro:List Value):Bool:=vU K C fun cd sl=>cd.bases==[b]&&cd.mro==mro&&cd.slotNames==[]&&sl.toList[4]?==some (some .none)&&!cd.abstract&&!cd.hasDel
theorem uG {K:Frag} {M:Model} {h:Heap} (X:K.In h) {C:Addr} {b:Value} {l:List Value} (e:uF K C b l=true):ClsN M h C b l:=by
 refine pK e fun oc od cd sl ho e=>?_
 ·simp only [Bool.and_eq_true,Bool.not_eq_true',beq_iff_eq] at e
  refine hid ?_;intro ZZ zz
  obtain ⟨⟨⟨⟨⟨e1,e2⟩,e3⟩,e4⟩,e5⟩,e6⟩:=e
  refine zz ?_;clear zz
  exact ⟨oc,od,cd,sl,X _ _ ho,e1,e2,e3,e4,e5,e6⟩
section
variable {c:Cx} {sc:Scope} {U D:Nat} {loc:Loc} {σ:AH}
theorem zD {C0 C1 C2:Addr} {R:AV→AH→Prop} (h0:uF c.K C0 (.ref C1) [.ref C0,.ref C1,.ref C2,.type "object"]=true) (h1:uF c.K C1 (.ref C2) [.ref C1,.ref C2,.type "object"]=true) (h2:uF c.K C2 (.type "object") [.ref C2,.type "object"]=true)
  (ht:subIn c.K (.ref C0) (.type "object")=some true) (h:R (.ref (σ.nx+1)) ((σ.new (.idict [])).new (.inst C0 σ.nx))):ClV c sc U D (.bi "object.__new__") [.glob C0] loc σ R:=fun A env L h₀ fm ρ X s Q E fv vs S hfv hv K=>by
 cases hfv
 obtain ⟨v1,hv1⟩:=hY hv
 cases hv1
 refine hid ?_;intro ZZ zz
 obtain ⟨m,news,F,_,_,_,_⟩:100:=S.ex
 haveI X2:=fm.X.keeps F.keep
 haveI H0:=uG (M:=model c.prog c.w) X2 h0
 obtain ⟨hp,g,d,t,os⟩:=s
 refine zz ?_;clear zz
 refine wpAny_call (aZm H0 (aLo H0 (uG X2 h1) (uG X2 h2)) (looks_subIn X2 ht) ?_)
 haveI S1:=S.allocN (a:=.idict []) (o:=emptyDict) (.idict [] [] 0 .nil) rfl t
 haveI S2:=S1.allocN (a:=.inst C0 σ.nx) (o:=instObj C0 ((ext ρ σ.nx hp.objs.size) σ.nx)) (.inst C0 σ.nx (Nat.lt_succ_self _)) rfl t
 rw [show (ext ρ σ.nx hp.objs.size) σ.nx=hp.objs.size from aS _ _ _] at S2
 haveI g1:Agree ρ (ext ρ σ.nx hp.objs.size) σ.nx:=aK _ _ _
 haveI hz:(hp.push emptyDict).objs.size=hp.objs.size+1:=Heap.size_push _ _
 haveI g2:Agree (ext ρ σ.nx hp.objs.size) (ext (ext ρ σ.nx hp.objs.size) (σ.nx+1) (hp.push emptyDict).objs.size) (σ.nx+1):=aK _ _ _
 refine K _ _ _ _ _ h ?_ (by show σ.nx≤σ.nx+1+1;lia) (g1.trans (Nat.le_succ _) g2) S2 ⟨rfl,.refl _,rfl⟩
 haveI:=bA (ρ:=ext ρ σ.nx hp.objs.size) (n:=σ.nx+1) (l:=(hp.push emptyDict).objs.size)
 rw [hz] at this ⊢
 exact this
theorem zE {C fN fI p:Addr} {mc:Value} {rest:List Value} {args:List AV} {R:AV→AH→Prop} (hm:yS c.K C=true) (ht:typeIn c.K (.ref C)=some mc) (hr:readsIn c.K C mc=true)
  (he:findCls c.K (.ref C) mc "__new__" = some (.get (.builtin "staticmethod.__get__") (.ref p) .none (.ref C))) (hp:recIn c.K p "staticmethod" = some (.ref fN::rest))
  (hi:findIn c.K (.ref C) "__init__" = some (some (.ref fI))) (hf:typeIn c.K (.ref fI)=some (.type "function"))
  (h:CdV c sc U D (.glob fN) (.glob C::args) [] loc σ fun a σ₁=>∃ m d kvs,a=.ref m∧σ₁.get m=some (.inst C d)∧σ₁.get d=some (.idict kvs)∧CdV c sc U D (.glob fI) (.ref m::args) [] loc σ₁ fun b σ₂=>b=.none∧R (.ref m) σ₂) :
  CdV c sc (U+3) (D+1) (.glob C) args [] loc σ R:=fun A env L h₀ fm ρ X s Rr fv vs kvs S hfv hv hk K=>by
 cases hfv
 cases hk
 obtain ⟨m,news,F,hm',H,N,nd⟩:100:=S.ex
 refine pL (mV (fm.X.keeps F.keep) hm) ?_
 refine cls_sm F fm.X ht hr he hp rfl ?_
 haveI fm':Fm c sc (A.under (.builtin "type.__call__" ⟨.ref C::vs,[]⟩)) env L h₀ U D:=fm.at rfl (by show A.units+1+U≤_;exact (aOs (Tb rfl))) (by show A.depth+1+D≤_;exact yB) rfl
 haveI S1:St c.w.params h₀ L ρ σ loc X { s with toks:=s.toks+1 }:=St.stop (xs:=[]) S (fun b o _ hb=>hb) (s.toks+1)
 refine wpAny_call (h _ env L h₀ fm' ρ X _ (fun r s'=>match r with | .ok (.ret v)=>_ | .ok _=>False | .error e=>_) (.ref fN) (.ref C::vs) [] S1 (.glob _) (.cons (.glob _) hv) .nil fun ρ' σ' a obj s' hy1 va n' g' S' r'=>?_)
 obtain ⟨m',d',kvs',e2,hg,hg',hI⟩:3:=hy1
 subst e2
 cases va with
 | ref hlt =>
 obtain ⟨es,n2,I,hres⟩:100:=S'.inst hg hg'
 obtain ⟨m2,news2,F2,_,_,_,_⟩:100:=S'.ex
 haveI X2:=fm.X.keeps F2.keep
 haveI Y2:=mV (M:=model c.prog c.w) X2 hm
 haveI I2:Looks (model c.prog c.w) s'.heap (isInstance (.ref (ρ' m')) (.ref C)) true:=I.type.andThen Y2.self
 refine I2.here ?_
 refine And.intro rfl ?_
 refine special_fn X2 I hi hf ?_
 refine wpAny_call (hI _ env L h₀ fm' ρ' X s' (fun r s'=>match r with | .ok (.ret v)=>_ | .ok _=>False | .error e=>_) (.ref fI) (.ref (ρ' m')::vs) [] S' (.glob _) (.cons (.ref _ hlt) (All2.mono (fun _ _ y=>y.mono n' g') hv)) .nil fun ρ₂ σ₂ b v₂ s₂ ⟨e4,hR⟩ vb n₂ g₂ S₂ r₂=>?_)
 subst e4
 cases vb
 refine And.intro rfl ?_
 exact K ρ₂ σ₂ _ _ s₂ hR ((VR.ref _ hlt).mono n₂ g₂) (Ta n' n₂) (g'.trans n' g₂) S₂ ⟨(r₂.os).trans r'.os,r'.gens.trans r₂.gens,r₂.dr.trans r'.dr⟩
theorem aDe {scope:Scope} {f:Addr} {name qual:Str} {params:Arguments} {body:List Stmt} {dV kV doc pm cdv ct oc:Value} {od an:Option Addr} {osl:Array (Option Value)} {loc₀:Loc} {R:AV→AH→Prop} {σ₁:AH}
  (ho:c.K.lookup f=some ⟨oc,od,.func (fnOf name qual params body scope dV kV doc pm an cdv ct),osl⟩) (hcd:codeIn c.K cdv qual=true)
  (h:ExS c scope U D body loc₀ σ₁ fun fl _ σ'=>R (fM fl) σ') (hco:scope.isCoroutine=false) (hgen:scope.isGenerator=false) (hk:scope.kind=.function) (hcell:∀ x∈scope.names,x.2≠.cell) (hfl:c.fl=none∧c.cf=none)
  {A:Around} {env:Env} {L:Addr} {h₀:Heap} (fm:Fm c sc A env L h₀ (U+3) (D+1)) {ρ:Nat→Addr} {X:List (Addr×Obj)} {s:Shared} {Rr:Result→Shared→Prop} {vs:List Value} (S:St c.w.params h₀ L ρ σ loc X s)
  (hb:∀ (Q:List (Str×Value)→Shared→Prop) E,(∀ ρ₁ s₁ binds,σ.nx≤σ₁.nx→Agree ρ ρ₁ σ.nx→St c.w.params h₀ L ρ₁ σ₁ loc X s₁→Rest s s₁→(∀ y∈binds,scope.names.lookup y.1=some .local)→LR ρ₁ σ₁.nx loc₀ (fun y=>binds.reverse.lookup y)→Q binds s₁)→wpAny (model c.prog c.w) A.in1 (bindArgs (fnX name qual params body scope [] dV kV doc pm an cdv ct) ⟨vs,[]⟩) Q E s)
  (K:BackV c h₀ L ρ σ loc X s (fun v s'=>Rr (.ok (.ret v)) s') R):codeAny (model c.prog c.w) A (.call (.ref f) ⟨vs,[]⟩) Rr s:=by
 obtain ⟨cn,b,ccd,cl,fr0,he,_⟩:100:=fm.ex
 haveI hu:=fm.hu
 haveI hd:=fm.hd
 haveI XK0:=S.kin fm.X
 refine codeAny_call_function (fd:=fnX name qual params body scope [] dV kV doc pm an cdv ct) (body:=body) (by exact (vF hd)) (XK0 _ _ ho) rfl hco hgen rfl (codeRec_of XK0 hcd) (hb _ _ fun ρ₁ s₁ binds n₀ g₀ S₀ r₀ h2 h3=>?_)
 refine hid ?_;intro ZZ zz
 obtain ⟨m,news,F,hm,H,N,nd⟩:100:=S₀.ex
 haveI XK:=fm.X.keeps F.keep
 obtain ⟨FG,st,lv⟩:=eU (R:=Rr) F N
 refine zz ?_;clear zz
 have BG:∀ l ce,c.fl=some (some l,ce)→∃ outer,(A.deeper (envX qual scope s₁.heap.objs.size f cdv [])).frames=some (envX qual scope s₁.heap.objs.size f cdv []::outer)∧FrO l outer:=fun l ce q=>by rw [hfl.1] at q;cases q
 refine wpAny_newFunctionEnv hcell h2 (fun h₁ hns hsb=>⟨(fm.T.nolimit.keeps F.keep).fresh _ hsb,codeAny_func ?_⟩) hk
 have hk₁:∀ b o,s₁.heap.get? b=some o→h₁.get? b=some o:=fun b o e=>hsb.extBut b o (Nat.ne_of_lt (Heap.lt_size e)) (Heap.get?_push_of_some _ e)
 haveI F':Fr (hideAll s₁.heap ((news++X).map (·.1))) s₁.heap.objs.size h₁ (fun y=>binds.reverse.lookup y):=⟨hns,fun b o e=>hk₁ b o (of_hideAll _ e),Nat.le_of_eq (hideAll_size _ _)⟩
 haveI N':News (hideAll s₁.heap ((news++X).map (·.1))) s₁.heap.objs.size h₁ (news++X):=fun p hp=>⟨hk₁ _ _ (N p hp).1,Nat.ne_of_lt (Heap.lt_size (N p hp).1),hideAll_none _ (List.mem_map_of_mem hp)⟩
 haveI fm':Fm c scope (A.deeper (envX qual scope s₁.heap.objs.size f cdv [])) (envX qual scope s₁.heap.objs.size f cdv []) s₁.heap.objs.size (hideAll s₁.heap ((news++X).map (·.1))) U D:=by
  refine ⟨⟨_,_,_,_,_,rfl,fun l ce q=>by rw [hfl.1] at q;cases q⟩,BG,fm.X.keeps st,fm.T.keeps st,hk,?_,?_,fm.hh,fm.sm.imp fun o e=>st _ _ e,fun l q=>by rw [hfl.2] at q;cases q⟩
  ·show A.units+3+U < cLine;exact (lF hu)
  ·show A.depth+1+D < recursionLimit;exact (lF hd)
 refine h _ _ _ _ fm' ρ₁ X _ _ _ ⟨_,news,F',h3,H,N',nd⟩ fun ρ₂ σ₂ loc₂ af fl s₂ hf fr n₁ g₁ S₁ r₁=>?_
 obtain ⟨m₁,news₁,F₁,hm₁,H₁,N₁,nd₁⟩:100:=S₁.ex
 refine lv _ _ (leaveK_ F₁ N₁ fun F₂ N₂=>?_)
 exact K ρ₂ σ₂ _ _ _ hf (iH fr) (Ta n₀ n₁) (g₀.trans n₀ g₁) ⟨m,news₁,F₂,hm.mono n₁ g₁,H₁,N₂,nd₁⟩ (r₀.trans ⟨r₁.os,r₁.gens,r₁.dr⟩)
theorem wH {func e ke:Expr} {kn:Str} {kp pos:Pos} {g:Addr} {R:AV→AH→Prop}
  (he:∀ env,eval (.Call func [e] [⟨some kn,ke,kp⟩] pos) env=(do callWith pos (← eval func env) [] (backTo pos (starEach [e] env)) (backToKw pos (keywordEach [⟨some kn,ke,kp⟩] env))))
  (hs:∀ env,starEach [e] env=(false,eval e env)::starEach [] env) (hk:keepIn c.K (.ref g)=true)
  (h:EvE c sc U D func loc σ fun f σ₁=>f=.glob g∧EvL c sc U D [e] loc σ₁ fun as σ₂=>EvE c sc U D ke loc σ₂ fun b σ₃=>CdV c sc U D (.glob g) as [(kn,b)] loc σ₃ R):EvE c sc U D (.Call func [e] [⟨some kn,ke,kp⟩] pos) loc σ R:=fun A env L h₀ fm ρ X s Q E S K=>by
 rw [he]
 refine wpAny_bind (h A env L h₀ fm ρ X s _ E S fun ρ₁ σ₁ f fv s₁ ⟨ef,ha⟩ vf n₁ g₁ S₁ r₁=>?_)
 subst ef
 cases vf
 refine callWith_KW (h₀:=h₀) fm.X hk (by rfl) (ha A env L h₀ fm pos ρ₁ X s₁ _ E S₁ fun ρ₂ σ₂ as vs s₂ hb vas n₂ g₂ S₂ r₂=>?_) (by rw [hs];rfl) (hs env)
 show wpAny _ _ (evalAll [do let v ← eval ke env;standAt pos;pure v]) _ _ _
 refine wpAny_evalAll_cons (wpAny_bind (hb A env L h₀ fm ρ₂ X s₂ _ E S₂ fun ρ₃ σ₃ b kv s₃ hc vb n₃ g₃ S₃ r₃=>?_))
 refine wpAny_bind (wpAny_standAt (wpAny_pure (wpAny_evalAll_nil ⟨S₃.kin fm.X,?_⟩)))
 refine wpAny_call (hc A env L h₀ fm ρ₃ X s₃ (fun r s'=>match r with | .ok (.ret v)=>Q v s' | .ok _=>False | .error e=>E e s') (.ref g) vs [kv] S₃ (.glob _) (All2.mono (fun _ _ x=>x.mono n₃ g₃) vas) (.cons vb .nil) (((K.after n₁ g₁ r₁).after n₂ g₂ r₂).after n₃ g₃ r₃))
theorem pU {a b:Addr} {oa ob:Obj} {R:AV→AH→Prop} (hab:a≠b) (ha:c.K.lookup a=some oa) (hb:c.K.lookup b=some ob) (hn:oa.cls≠Value.type "tuple") (h:R (.bool true) σ):OpC c sc U D .IsNot (.glob a) (.glob b) loc σ R:=fun A env L h₀ fm ρ X s Q E v w S hv hw K=>by
 cases hv;cases hw
 haveI X2:=S.kin fm.X
 exact wpAny_isNot_ref_other hab (X2 _ _ ha) (X2 _ _ hb) hn (K.now h (.bool _) S)
theorem jM {a:Addr} {R:AV→AH→Prop} (h:R (.bool false) σ):OpC c sc U D .IsNot (.glob a) (.glob a) loc σ R:=fun A env L h₀ fm ρ X s Q E v w S hv hw K=>by
 cases hv;cases hw
 exact wpAny_isNot_ref_self (K.now h (.bool _) S)
end
def ExX (c:Cx) (sc:Scope) (U D:Nat) (l:List Stmt) (loc:Loc) (σ:AH) (R:AH→Prop):Prop :=
 ∀ A env L h₀,Fm c sc A env L h₀ U D→∀ ρ X s (Q:Flow→Shared→Prop) (E:Value→Shared→Prop),St c.w.params h₀ L ρ σ loc X s →
  (∀ ρ' σ' loc' s' h' e,R σ'→σ.nx≤σ'.nx→Agree ρ ρ' σ.nx→St c.w.params h₀ L ρ' σ' loc' X s'→Rest s s'→Heap.MadeExc s'.heap h' e "StopIteration" []→E (.ref e) { s' with heap:=h' })→wpAny (model c.prog c.w) A (execs l env) Q E s
section
variable {c:Cx} {sc:Scope} {U D:Nat} {loc:Loc} {σ:AH}
theorem aGq {st:Stmt} {l:List Stmt} {R:AH→Prop} (h:Ex1 c sc U D st loc σ fun f loc' σ'=>f=.next∧ExX c sc U D l loc' σ' R):ExX c sc U D (st::l) loc σ R:=fun A env L h₀ fm ρ X s Q E S K =>
 wpAny_execs_cons (h A env L h₀ fm ρ X s _ E S fun ρ₁ σ₁ loc₁ af f s₁ ⟨ea,hx⟩ fr n₁ g₁ S₁ r₁=>by
  subst ea
  cases fr
  exact hx A env L h₀ fm ρ₁ X s₁ Q E S₁ fun ρ' σ' loc' s' h' e hR n' g' S' r' hm=>K ρ' σ' loc' s' h' e hR (Ta n₁ n') (g₁.trans n₁ g') S' (r₁.trans r') hm)
theorem aPj {test:Expr} {body orelse l:List Stmt} {pos:Pos} {R:AH→Prop} (h:EvT c sc U D test loc σ fun b σ₁=>b=true∧ExX c sc U D body loc σ₁ R):ExX c sc U D (.If test body orelse pos::l) loc σ R:=fun A env L h₀ fm ρ X s Q E S K =>
 wpAny_execs_cons (wpAny_If (h A env L h₀ fm ρ X s _ E S fun ρ₁ σ₁ b s₁ ⟨hb,hx⟩ n₁ g₁ S₁ r₁=>by
  rw [hb]
  exact hx A env L h₀ fm ρ₁ X s₁ _ E S₁ fun ρ' σ' loc' s' h' e hR n' g' S' r' hm=>K ρ' σ' loc' s' h' e hR (Ta n₁ n') (g₁.trans n₁ g') S' (r₁.trans r') hm))
theorem aDf {x:Str} {np pos:Pos} {l:List Stmt} {R:AH→Prop} (hk:sc.names.lookup x=some .globalImplicit) (hd:(x==("__debug__" : Str))=false) (e:nsIn c.K mainGlobals x=some none) (hv:bootBuiltins x=some (.type "StopIteration")) (hn:x ≠ "__name__") (h:R σ) :
  ExX c sc U D (.Raise (some (.Name x np)) none pos::l) loc σ R:=fun A env L h₀ fm ρ X s Q E S K=>by
 refine Mine.hid fun ZZ zz=>?_
 obtain ⟨cn,b,ccd,cl,fr,rfl,_⟩:100:=fm.ex
 obtain ⟨m,news,F,hm,H,N,nd⟩:100:=S.ex
 refine zz ?_;clear zz
 exact wpAny_execs_cons (owsi_raiseC fm.hh (aAr F fm.X fm.T e hv hn ⟨rfl,rfl⟩ fm.hk hk hd) fun h' e' hm'=>K ρ σ loc s h' e' h (Te _) (Agree.refl _ _) ⟨m,news,F,hm,H,N,nd⟩ (Rest.refl _) hm')
end
def FrNamed (l:List Addr) (σ:AH):Prop:=∀ a∈l,∃ j o,σ.get j=some (.frm a j o)∧∀ vs,o.data≠.fields vs
theorem aGr {P:Params} {ρ:Nat→Addr} {n:Nat} {j:Nat} {a:AO} {q:AO→AO→Prop}:∀ {l:List (Nat×AO)} {news:List (Addr×Obj)},All2 (fun (p:Nat×AO) (q:Addr×Obj)=>p.1 < n∧q.1=ρ p.1∧OR P ρ n p.2 q.2) l news→(news.map (·.1)).Nodup→(j,a)∈l →
  ∀ k b o,(k,b)∈l→(ρ k,o)∈news→ρ k=ρ j→b=a:=by
 intro l news H nd hj k b o hk ho e
 induction H with
 | nil=>cases hj
 | @cons p q l r h t ih =>
  obtain ⟨n1,n2⟩:0:=List.nodup_cons.mp nd
  have far:∀ x y,(x,y)∈l→ρ x=q.1→False:=fun x y hx hxe=>by
   refine Mine.hid fun ZZ zz=>?_
   obtain ⟨z,hz,h1,h2,h3⟩:1:=All2.mem t (x,y) hx
   refine zz ?_;clear zz
   exact n1 (List.mem_map.mpr ⟨z,hz,h2.trans hxe⟩)
  rcases Tf hj with e1 | hj2
  ·subst e1
   rcases Tf hk with e2 | hk2
   ·exact (Prod.mk.inj e2).2
   ·exact (far k b hk2 (e.trans h.2.1.symm)).elim
  ·rcases Tf hk with e2 | hk2
   ·subst e2
    exact (far j a hj2 (e.symm.trans h.2.1.symm)).elim
   ·refine ih n2 hj2 hk2 ?_
    rcases Tf ho with rfl | ho
    ·exact (far k b hk2 rfl).elim
    ·exact ho
theorem aGs {P:Params} {ρ:Nat→Addr} {n:Nat} {h'':Heap} {hid:List Addr} {l:List (Nat×AO)} {news:List (Addr×Obj)} (H:All2 (fun (p:Nat×AO) (q:Addr×Obj)=>p.1 < n∧q.1=ρ p.1∧OR P ρ n p.2 q.2) l news)
  (h1:∀ p∈news,p.1∉hid→h''.get? p.1=some p.2) (h2:∀ p∈news,p.1∈hid→∃ sl,h''.get? p.1=some { p.2 with slots:=sl }) (h3:∀ k b,(k,b)∈l→ρ k∈hid→∃ a j o,b=.frm a j o) :
  ∃ news',All2 (fun (p:Nat×AO) (q:Addr×Obj)=>p.1 < n∧q.1=ρ p.1∧OR P ρ n p.2 q.2) l news'∧news'.map (·.1)=news.map (·.1)∧∀ p∈news',h''.get? p.1=some p.2:=by
 induction H with
 | nil=>exact ⟨[],.nil,rfl,fun _ h=>nomatch h⟩
 | @cons p q l r h t ih =>
  refine Mine.hid fun ZZ zz=>?_
  obtain ⟨r',t',e',k'⟩:1:=ih (fun p hp=>h1 p (.tail _ hp)) (fun p hp=>h2 p (.tail _ hp)) (fun k b hb=>h3 k b (.tail _ hb))
  obtain ⟨a1,a2,a3⟩:0:=h
  refine zz ?_;clear zz
  by_cases hq:q.1∈hid
  ·refine Mine.hid fun ZZ zz=>?_
   obtain ⟨sl,hs⟩:1:=h2 q (.head _) hq
   obtain ⟨a,j,o,eb⟩:3:=h3 p.1 p.2 (.head _) (by rw [← a2];exact hq)
   refine zz ?_;clear zz
   refine ⟨(q.1,{ q.2 with slots:=sl })::r',.cons ⟨a1,a2,?_⟩ t',by simp [e'],fun z hz=>?_⟩
   ·rw [eb] at a3 ⊢
    cases hq2:q.2
    rw [hq2] at a3
    cases a3 with
    | frm sl2 hj hr=>exact .frm _ _ _ sl hj hr
   ·rcases Tf hz with rfl | hz
    ·exact hs
    ·exact k' z hz
  ·refine ⟨q::r',.cons ⟨a1,a2,a3⟩ t',by simp [e'],fun z hz=>?_⟩
   rcases Tf hz with rfl | hz
   ·exact h1 _ (.head _) hq
   ·exact k' z hz
section
variable {c:Cx} {sc:Scope} {U D:Nat} {loc:Loc} {σ:AH}
theorem aLp {B h:Heap}:∀ {l:List Addr} {outer:List Env},FrO l outer→(∀ a∈l,B.get? a=none∧∃ o,h.get? a=some o∧∀ vs,o.data≠.fields vs)→h.FunFrames B outer:=by
 intro l outer h1
 induction h1 with
 | nil=>exact fun _=>trivial
 | cons h1 t ih =>
  intro k
  refine Mine.hid fun ZZ zz=>?_
  obtain ⟨k1,o,k2,k3⟩:=k _ (.head _)
  refine zz ?_;clear zz
  exact ⟨h1.2,⟨_,o,h1.1,k1,k2,k3⟩,ih fun a ha=>k a (.tail _ ha)⟩
theorem aLq {l:List Addr} {ce:List (Str×Addr)} {scope:Scope} {f:Addr} {name qual:Str} {params:Arguments} {body:List Stmt} {dV kV doc pm cdv ct oc:Value} {od an:Option Addr} {osl:Array (Option Value)} {loc₀:Loc} {R:Option AV→AH→Prop} {Rx:AH→Prop}
  {k d:Nat} {C:Addr} {kvs:List (Str×AV)} (hl:c.fl=some (some l,ce)) (hF:FrNamed l σ) (e1:σ.get k=some (.inst C d)) (e2:σ.get d=some (.idict kvs))
  (hs:findIn c.K (.ref C) "__next__" = some (some (.ref f))) (hf:isFn c.K (.ref f)=true)
  (ho:c.K.lookup f=some ⟨oc,od,.func (fnOf name qual params body scope dV kV doc pm an cdv ct),osl⟩) (hcd:codeIn c.K cdv qual=true)
  (hb:lM c (fnOf name qual params body scope dV kV doc pm an cdv ct) scope [.ref k] [] loc₀)
  (hsc:(scope.isCoroutine||scope.isGenerator||scope.kind != .function||!(scope.names.all fun x=>x.2 != .cell))=false)
  (h:ExX { c with fl:=none,cf:=none } scope U D body loc₀ σ Rx) (hR:∀ σ',Rx σ'→FrNamed l σ'∧R none σ'):NxA c sc (U+3) (D+1) (.ref k) loc σ R:=fun A env L h₀ fm ρ X s Q E v S hv K=>by
 cases hv with
 | ref hk0 =>
 simp only [Bool.or_eq_false_iff,Bool.not_eq_false',bne_eq_false_iff_eq] at hsc
 refine Mine.hid fun ZZ zz=>?_
 obtain ⟨⟨⟨hco,hgen⟩,hkd⟩,hcell⟩:=hsc
 obtain ⟨es,n,I,hr⟩:100:=S.inst e1 e2
 obtain ⟨cn,b,ccd,cl,fr0,he,hfr⟩:100:=fm.ex
 obtain ⟨m,news,F,hm,H,N,nd⟩:100:=S.ex
 refine zz ?_;clear zz
 haveI XK:=fm.X.keeps F.keep
 refine owit_next F fm.X I hs hf (wpAny_call ?_)
 refine Mine.hid fun ZZ zz=>?_
 obtain ⟨binds,h1,h2,h3⟩:1:=hb ρ σ.nx [.ref (ρ k)] [] s XK (.cons (.ref k hk0) .nil) .nil
 haveI hu:=fm.hu
 haveI hd:=fm.hd
 obtain ⟨FG,st,lv⟩:=eU (R:=fun _ _=>True) F N
 refine zz ?_;clear zz
 refine codeAny_call_def (fd:=fnX name qual params body scope [] dV kV doc pm an cdv ct) (body:=body) (binds:=binds) (by exact (vF hd)) (XK _ _ ho) rfl (fm.T.nolimit.keeps F.keep) (codeRec_of XK hcd) rfl h1 (fP hcell) h2 (fun h₁ hns hk₁=>?_) hco hgen hkd
 haveI F':Fr (hideAll s.heap ((news++X).map (·.1))) s.heap.objs.size h₁ (fun y=>binds.reverse.lookup y):=⟨hns,fun b o e=>hk₁ b o (of_hideAll _ e),Nat.le_of_eq (hideAll_size _ _)⟩
 haveI N':News (hideAll s.heap ((news++X).map (·.1))) s.heap.objs.size h₁ (news++X):=fun p hp=>⟨hk₁ _ _ (N p hp).1,Nat.ne_of_lt (Heap.lt_size (N p hp).1),hideAll_none _ (List.mem_map_of_mem hp)⟩
 haveI fm':Fm { c with fl:=none,cf:=none } scope (A.deeper (envX qual scope s.heap.objs.size f cdv [])) (envX qual scope s.heap.objs.size f cdv []) s.heap.objs.size (hideAll s.heap ((news++X).map (·.1))) U D:=by
  refine ⟨⟨_,_,_,_,_,rfl,fun _ _ q=>(nomatch q)⟩,fun _ _ q=>(nomatch q),fm.X.keeps st,fm.T.keeps st,hkd,?_,?_,fm.hh,fm.sm.imp fun o e=>st _ _ e,fun l q=>by cases q⟩
  ·show A.units+3+U < cLine;exact (lF hu)
  ·show A.depth+1+D < recursionLimit;exact (lF hd)
 refine h _ _ _ _ fm' ρ X _ _ _ ⟨_,news,F',h3,H,N',nd⟩ fun ρ' σ' loc' s' hE e hRx n' g' S' r' hme=>?_
 refine Mine.hid fun ZZ zz=>?_
 obtain ⟨hF',hRn⟩:0:=hR σ' hRx
 obtain ⟨m₁,news₁,F₁,hm₁,H₁,N₁,nd₁⟩:100:=S'.ex
 obtain ⟨outer,hA,hO⟩:1:=fm.bel l ce hl
 refine zz ?_;clear zz
 haveI hLs:L < s.heap.objs.size:=F.ns.lt
 haveI hLn:L∉(news++X).map (·.1):=fun q=>by
  refine Mine.hid fun ZZ zz=>?_
  obtain ⟨p,hp,e⟩:1:=List.mem_map.mp q
  refine zz ?_;clear zz
  exact (N p hp).2.1 e
 refine Mine.hid fun ZZ zz=>?_
 obtain ⟨oL,esL,epL,hL,hLd,hLr⟩:=F.ns
 refine zz ?_;clear zz
 haveI hL1:s'.heap.get? L=some oL:=F₁.keep L oL (hideAll_get _ hL hLn)
 have nam:∀ a∈l,∃ j o o',σ'.get j=some (.frm a j o)∧(a,o')∈news₁∧ρ' j=a∧s'.heap.get? a=some o'∧∀ vs,o'.data≠.fields vs:=fun a ha=>by
  refine Mine.hid fun ZZ zz=>?_
  obtain ⟨j,o,q1,q2⟩:2:=hF' a ha
  obtain ⟨o',q3,q4,q5⟩:100:=H₁.get q1
  refine zz ?_;clear zz
  haveI q5':=q5
  cases q5 with
  | frm sl hj hρ =>
   rw [hρ] at q3
   exact ⟨j,o,_,q1,q3,hρ,(N₁ _ (Th _ q3)).1,q2⟩
 have h0l:∀ a∈l,h₀.get? a=none:=fun a ha=>by
  refine Mine.hid fun ZZ zz=>?_
  obtain ⟨j,o,q1,q2⟩:2:=hF a ha
  obtain ⟨o',q3,q4,q5⟩:100:=H.get q1
  refine zz ?_;clear zz
  cases q5 with
  | frm sl hj hρ =>
   rw [hρ] at q3
   exact (N _ (Th _ q3)).2.2
 haveI h0L:h₀.get? L=none:=by
  cases q:h₀.get? L with
  | none=>rfl
  | some o=>exact absurd (Heap.lt_size q) (Nat.not_lt.mpr F.above)
 generalize hhid:s.heap.objs.size::L::l=hid
 haveI hx:=hme.of
 refine wpAny_leaves_madeW (base:=hideAll s'.heap hid) (h:=s'.heap) (outer:=env::outer) (L:=s.heap.objs.size) ?_ rfl (fun b o q=>of_hideAll _ q) ?_ hx fun h'' t fly tup tn ups=>?_
 ·show A.frames.map (_::·)=_
  rw [hA];rfl
 ·have hid0:∀ a∈hid,(hideAll s'.heap hid).get? a=none:=fun a ha=>hideAll_none _ ha
  refine Mine.hid fun ZZ zz=>?_
  obtain ⟨oq,esq,epq,hq,hqd,_⟩:=F₁.ns
  refine zz ?_;clear zz
  refine ⟨by show scope.kind≠.module;rw [hkd];decide,⟨_,oq,rfl,hid0 _ (by rw [← hhid];exact .head _),hq,fun vs z=>by rw [hqd] at z;cases z⟩,?_⟩
  refine ⟨by rw [he];show sc.kind≠.module;rw [fm.hk];decide,⟨L,oL,by rw [he];exact (hfr _ _ hl).2 (by simp),hid0 _ (by rw [← hhid];exact .tail _ (.head _)),hL1,fun vs z=>by rw [hLd] at z;cases z⟩,?_⟩
  refine aLp hO fun a ha=>⟨hid0 _ (by rw [← hhid];exact .tail _ (.tail _ ha)),?_⟩
  refine Mine.hid fun ZZ zz=>?_
  obtain ⟨j,o,o',-,-,-,q3,q4⟩:3:=nam a ha
  refine zz ?_;clear zz
  exact ⟨o',q3,q4⟩
 ·refine Mine.hid fun ZZ zz=>?_
  obtain ⟨g1,g2,g3,g4⟩:=id fly
  obtain ⟨ob,hob,hobc⟩:1:=fly.there
  refine zz ?_;clear zz
  have keepU:∀ b o,s'.heap.get? b=some o→(∀ vs,o.data≠.fields vs)→∃ sl,h''.get? b=some { o with slots:=sl }:=fun b o q hn=>ups b o (hme.keeps b o q) hn
  have keepX:∀ b o,s'.heap.get? b=some o→b∉hid→h''.get? b=some o:=fun b o q hn=>g1 b o (hideAll_get _ q hn)
  show OwitStop (model c.prog c.w) A Q E (.ref e) { s' with heap:=h'' }
  unfold OwitStop
  haveI hT:Shared.TypeIs { s' with heap:=h'' } (.ref e) "StopIteration" := ⟨ob,hob,hobc⟩
  refine wpAny_isInstance hT owsi_facts.sub ?_
  rw [if_pos rfl]
  have hsz:∀ p∈news₁++X,p.1≠s.heap.objs.size∧p.1≠L:=fun p hp=>by
   refine ⟨(N₁ p hp).2.1,fun q=>?_⟩
   haveI:=(N₁ p hp).2.2
   rw [q,hideAll_get _ hL hLn] at this
   cases this
  have inHid:∀ p∈news₁++X,p.1∈hid→p.1∈l:=fun p hp q=>by
   rw [← hhid] at q
   rcases Tf q with q | q
   ·exact ((hsz p hp).1 q).elim
   ·rcases Tf q with q | q
    ·exact ((hsz p hp).2 q).elim
    ·exact q
  haveI ndn:(news₁.map (·.1)).Nodup:=by rw [List.map_append] at nd₁;exact (List.nodup_append.mp nd₁).1
  have frmAt:∀ k b,(k,b)∈σ'.objs→ρ' k∈hid→∃ a j o,b=.frm a j o:=fun k b hb hk=>by
   refine Mine.hid fun ZZ zz=>?_
   obtain ⟨z,hz,z1,z2,z3⟩:1:=All2.mem H₁ (k,b) hb
   refine zz ?_;clear zz
   dsimp only at z2
   haveI hl':=inHid z (Th _ hz) (by rw [z2];exact hk)
   rw [z2] at hl'
   refine Mine.hid fun ZZ zz=>?_
   obtain ⟨j,o,o',q1,q2,q3,-,-⟩:3:=nam _ hl'
   refine zz ?_;clear zz
   haveI:=aGr H₁ ndn (j:=j) (a:=.frm (ρ' k) j o) (q:=fun _ _=>True) (cS (AH.get_look q1).2) k b z.2 hb (by rw [← z2];exact hz) q3.symm
   exact ⟨_,_,_,this⟩
  refine Mine.hid fun ZZ zz=>?_
  obtain ⟨news₂,H₂,eN,kN⟩:1:=aGs (h'':=h'') (hid:=hid) H₁ (fun p hp hn=>keepX _ _ (N₁ p (Th _ hp)).1 hn)
   (fun p hp hh=>by
    haveI ha:=inHid p (Th _ hp) hh
    obtain ⟨j,o,o',q1,q2,q3,q4,q5⟩:3:=nam _ ha
    haveI e4:o'=p.2:=Option.some.inj (q4.symm.trans (N₁ p (Th _ hp)).1)
    rw [← e4]
    exact keepU _ _ q4 q5) frmAt
  refine zz ?_;clear zz
  have hXn:∀ p∈X,p.1∉hid:=fun p hp hh=>by
   haveI ha:=inHid p (Ti _ hp) hh
   refine Mine.hid fun ZZ zz=>?_
   obtain ⟨j,o,o',q1,q2,q3,q4,q5⟩:3:=nam _ ha
   refine zz ?_;clear zz
   rw [List.map_append] at nd₁
   exact (List.nodup_append.mp nd₁).2.2 _ (List.mem_map.mpr ⟨_,q2,rfl⟩) _ (List.mem_map.mpr ⟨p,hp,rfl⟩) rfl
  have h0hid:∀ b o,h₀.get? b=some o→b∉hid:=fun b o q hh=>by
   rw [← hhid] at hh
   rcases Tf hh with z | hh
   ·haveI:=Heap.lt_size (F.keep b o q);rw [z] at this;exact absurd this (Nat.lt_irrefl _)
   ·rcases Tf hh with z | hh
    ·rw [z,h0L] at q;cases q
    ·rw [h0l _ hh] at q;cases q
  haveI FL:Fr h₀ L h'' m:=by
   obtain ⟨sl,hsl⟩:1:=keepU L oL hL1 fun vs z=>by rw [hLd] at z;cases z
   exact ⟨⟨_,esL,epL,hsl,hLd,hLr⟩,fun b o q=>keepX b o (F₁.keep b o (st b o q)) (h0hid b o q),F.above⟩
  haveI NL:News h₀ L h'' (news₂++X):=fun p hp=>by
   haveI hp1:p.1∈(news₁++X).map (·.1):=by
    rw [List.map_append,← eN,← List.map_append]
    exact List.mem_map_of_mem hp
   refine Mine.hid fun ZZ zz=>?_
   obtain ⟨p',hp',ep⟩:1:=List.mem_map.mp hp1
   refine zz ?_;clear zz
   refine ⟨?_,?_,?_⟩
   ·rcases List.mem_append.mp hp with hp | hp
    ·exact kN p hp
    ·exact keepX _ _ (N₁ p (Ti _ hp)).1 (hXn p hp)
   ·rw [← ep];exact (hsz p' hp').2
   ·cases q:h₀.get? p.1 with
    | none=>rfl
    | some o =>
     haveI:=(N₁ p' hp').2.2
     rw [ep,st _ _ q] at this;cases this
  refine K.1 ρ' σ' () { s' with heap:=h'' } hRn n' g' ⟨m,news₂,FL,hm.mono n' g',H₂,NL,?_⟩ ⟨r'.os,r'.gens,r'.dr⟩
  rw [List.map_append,eN,← List.map_append];exact nd₁
end
noncomputable def aGt {α:Type} (f:α→Bool):List α→Bool
 | []=>false
 | a::l=>match f a with
  | true=>true
  | false=>aGt f l
theorem aLr {α:Type} (f:α→Bool) (l:List α):aGt f l=l.any f:=by
 induction l with
 | nil=>rfl
 | cons a l ih=>rw [List.any_cons,← ih];show (match f a with | true=>true | false=>aGt f l)=_;cases f a <;> rfl
noncomputable def aNt {α:Type} (x:Array α) (f:α→Bool) (start:Nat) (stop:Nat):Bool:=match Nat.beq start 0,Nat.beq stop x.size with
 | true,true=>aGt f x.toList
 | _,_=>Array.any x f start stop
theorem aPk:@Array.any.{0}=@aNt:=by
 funext α x f start stop
 unfold aNt
 cases h1:Nat.beq start 0 with
 | false=>rfl
 | true =>
  cases h2:Nat.beq stop x.size with
  | false=>rfl
  | true =>
   haveI e1:=Nat.eq_of_beq_eq_true h1
   haveI e2:=Nat.eq_of_beq_eq_true h2
   subst e1 e2
   show _=aGt f x.toList
   rw [aLr,Array.any_toList]
noncomputable def aNu {α:Type} {a b:α} (_:a=b):α:=b
set_option maxHeartbeats 400000 in
noncomputable def aNv:=(show PySem.W.Fast.tw4202317264376624991=_ by
  delta PySem.W.Fast.tw4202317264376624991
  rw [aPk])
noncomputable def aNw:Builtin:=aNu aNv
theorem aGu:PySem.W.Fast.tw4202317264376624991=aNw:=aNv
noncomputable def tb (id:String):Option Builtin:=match Nat.beq (PySem.code id) 29827186395103491166823348853 with
 | true=>some aNw
 | false=>PySem.W.Fast.tw14364793385576792824 id
theorem aNx:treeTable=tb:=by
 rw [PySem.W.Fast.te14364793385576792824]
 funext id
 unfold tb
 split
 ·rename_i h
  haveI e:PySem.code id=PySem.code "type.__new__" := (Nat.eq_of_beq_eq_true h).trans (by decide +kernel)
  rw [PySem.code_inj _ _ e]
  exact (show PySem.W.Fast.tw14364793385576792824 "type.__new__" = some PySem.W.Fast.tw4202317264376624991 by kernel_rfl).trans (congrArg some aGu)
 ·rfl
noncomputable section
abbrev P0:Program:=PySem.Challenge.pw_ij0145_02
abbrev S (s:String):Str:=Str.ofString s
def eS (P:Params) (x:String) (t:Tok) (v:Value):DictEntry:=⟨PyData.keyHash P (S x),.str (S x) t,v⟩
def lT:Stmt→List Stmt
 | .FunctionDef _ _ b ..=>b
 | .ClassDef _ _ _ b ..=>b
 | _=>[]
noncomputable def cH:List Stmt→List Nat→Stmt
 | _,[]=>default
 | l,[i]=>l.getD i default
 | l,i::r=>cH (lT (l.getD i default)) r
def bd:List Stmt:=behindTheImports P0
def bB (p:List Nat):Arguments:=match cH bd p with
 | .FunctionDef _ a ..=>a
 | _=>default
def bF (p:List Nat):FuncBody:=.stmts (lT (cH bd p))
def aG (p:List Nat):Scope:=match cH bd p with
 | .FunctionDef _ _ _ _ _ _ sc ..=>sc
 | _=>default
def bR (p:List Nat):Str:=match lT (cH bd p) with
 | .Expr (.Constant (.str x) _ _) _::_=>x
 | _=>default
def grp (i n:Nat):List Stmt:=(bd.drop i).take n
def aPm (D:Str):Stmt→Stmt
 | .ClassDef n bs ks (.Expr (.Constant (.str _) k p) p2::b) dl tp sc ts bn sa ps=>.ClassDef n bs ks (.Expr (.Constant (.str D) k p) p2::b) dl tp sc ts bn sa ps
 | s=>s
noncomputable def aNy:=(show bR [5]=_ from PySem.W.Fast.ofString_ofList _)
noncomputable def D5:Str:=aNu aNy
theorem aTl:bR [5]=D5:=aNy
theorem aLs:grp 5 1=[aPm D5 (cH bd [5])]:=by
 rw [← aTl]
 kernel_rfl
noncomputable def oo (c:Value) (d:Option Addr) (x:Data):Obj:=⟨c,d,x,#[]⟩
noncomputable def oT (xs:List Value) (t:Nat:=0):Obj:=oo (.type "tuple") none (.seq xs.toArray t)
noncomputable def oN (xs:List Value):Obj:=oo .none none (.fields xs.toArray)
noncomputable def oD (xs:List DictEntry) (t:Nat:=0):Obj:=oo (.type "dict") none (.dict xs.toArray t)
abbrev sv (x:String) (t:Tok):Value:=.str (S x) t
abbrev iv (i:Int) (t:Tok:=0):Value:=.int i t
noncomputable def aNz (t:Tok):Value:=sv "/claim/cut.py" t
noncomputable def oP (n q:String) (p:List Nat):Obj:=oo .none none (.func ⟨S n,S q,bB p,bF p,aG p,0,[],.none,.none,.none,.none,none,.none,.none,0⟩)
noncomputable def oF (n q:String) (p:List Nat) (d k m:Value) (c:Addr) (e:Value:=.none):Obj:=oo (.type "function") none (.func ⟨S n,S q,bB p,bF p,aG p,3,[],d,k,e,m,none,.ref c,.none,0⟩)
noncomputable def oC (n q:String) (t:Nat) (l a b c d:Int) (r t2:Nat):Obj:=oo (.type "code") none (.fields [sv n t,sv q (t+1),aNz (t+2),iv l,iv a,iv b,iv c,iv d,.ref r,.bool true,iv 318,.ref (r+1),.none,.ref (r+2),.ref (r+3),.ref (r+4),iv t2,iv l,aNz (t2+1)].toArray)
def o0 (P:Params):Obj:=oD [eS P "__name__" 1 (sv "builtins" 160),eS P "__doc__" 2 (.builtin "builtins.__doc__:str#opaque"),eS P "__package__" 3 (.builtin "builtins.__package__:str#opaque"),eS P "__loader__" 4 (.builtin "builtins.__loader__:shared#opaque"),eS P "__spec__" 5 (.builtin "builtins.__spec__#opaque"),eS P "__build_class__" 6 (.builtin "__build_class__"),eS P "__import__" 7 (.builtin "__import__"),eS P "abs" 8 (.builtin "abs"),eS P "all" 9 (.builtin "all"),eS P "any" 10 (.builtin "any"),eS P "ascii" 11 (.builtin "ascii"),eS P "bin" 12 (.builtin "bin"),eS P "breakpoint" 13 (.builtin "breakpoint"),eS P "callable" 14 (.builtin "callable"),eS P "chr" 15 (.builtin "chr"),eS P "compile" 16 (.builtin "compile"),eS P "delattr" 17 (.builtin "delattr"),eS P "dir" 18 (.builtin "dir"),eS P "divmod" 19 (.builtin "divmod"),eS P "eval" 20 (.builtin "eval"),eS P "exec" 21 (.builtin "exec"),eS P "format" 22 (.builtin "format"),eS P "getattr" 23 (.builtin "getattr"),eS P "globals" 24 (.builtin "globals"),eS P "hasattr" 25 (.builtin "hasattr"),eS P "hash" 26 (.builtin "hash"),eS P "hex" 27 (.builtin "hex"),eS P "id" 28 (.builtin "id"),eS P "input" 29 (.builtin "input"),eS P "isinstance" 30 (.builtin "isinstance"),eS P "issubclass" 31 (.builtin "issubclass"),eS P "iter" 32 (.builtin "iter"),eS P "aiter" 33 (.builtin "aiter"),eS P "len" 34 (.builtin "len"),eS P "locals" 35 (.builtin "locals"),eS P "max" 36 (.builtin "max"),eS P "min" 37 (.builtin "min"),eS P "next" 38 (.builtin "next"),eS P "anext" 39 (.builtin "anext"),eS P "oct" 40 (.builtin "oct"),eS P "ord" 41 (.builtin "ord"),eS P "pow" 42 (.builtin "pow"),eS P "print" 43 (.builtin "print"),eS P "repr" 44 (.builtin "repr"),eS P "round" 45 (.builtin "round"),eS P "setattr" 46 (.builtin "setattr"),eS P "sorted" 47 (.builtin "sorted"),eS P "sum" 48 (.builtin "sum"),eS P "vars" 49 (.builtin "vars"),eS P "None" 50 .none,eS P "Ellipsis" 51 .ellipsis,eS P "NotImplemented" 52 .notImplemented,eS P "False" 53 (.bool false),eS P "True" 54 (.bool true),eS P "bool" 55 (.type "bool"),eS P "memoryview" 56 (.type "memoryview"),eS P "bytearray" 57 (.type "bytearray"),eS P "bytes" 58 (.type "bytes"),eS P "classmethod" 59 (.type "classmethod"),eS P "complex" 60 (.type "complex"),eS P "dict" 61 (.type "dict"),eS P "enumerate" 62 (.type "enumerate"),eS P "filter" 63 (.type "filter"),eS P "float" 64 (.type "float"),eS P "frozenset" 65 (.type "frozenset"),eS P "property" 66 (.type "property"),eS P "int" 67 (.type "int"),eS P "list" 68 (.type "list"),eS P "map" 69 (.type "map"),eS P "object" 70 (.type "object"),eS P "range" 71 (.type "range"),eS P "reversed" 72 (.type "reversed"),eS P "set" 73 (.type "set"),eS P "slice" 74 (.type "slice"),eS P "staticmethod" 75 (.type "staticmethod"),eS P "str" 76 (.type "str"),eS P "super" 77 (.type "super"),eS P "tuple" 78 (.type "tuple"),eS P "type" 79 (.type "type"),eS P "zip" 80 (.type "zip"),eS P "__debug__" 81 (.bool true),eS P "BaseException" 82 (.type "BaseException"),eS P "BaseExceptionGroup" 83 (.type "BaseExceptionGroup"),eS P "Exception" 84 (.type "Exception"),eS P "GeneratorExit" 85 (.type "GeneratorExit"),eS P "KeyboardInterrupt" 86 (.type "KeyboardInterrupt"),eS P "SystemExit" 87 (.type "SystemExit"),eS P "ArithmeticError" 88 (.type "ArithmeticError"),eS P "AssertionError" 89 (.type "AssertionError"),eS P "AttributeError" 90 (.type "AttributeError"),eS P "BufferError" 91 (.type "BufferError"),eS P "EOFError" 92 (.type "EOFError"),eS P "ImportError" 93 (.type "ImportError"),eS P "LookupError" 94 (.type "LookupError"),eS P "MemoryError" 95 (.type "MemoryError"),eS P "NameError" 96 (.type "NameError"),eS P "OSError" 97 (.type "OSError"),eS P "ReferenceError" 98 (.type "ReferenceError"),eS P "RuntimeError" 99 (.type "RuntimeError"),eS P "StopAsyncIteration" 100 (.type "StopAsyncIteration"),eS P "StopIteration" 101 (.type "StopIteration"),eS P "SyntaxError" 102 (.type "SyntaxError"),eS P "SystemError" 103 (.type "SystemError"),eS P "TypeError" 104 (.type "TypeError"),eS P "ValueError" 105 (.type "ValueError"),eS P "Warning" 106 (.type "Warning"),eS P "FloatingPointError" 107 (.type "FloatingPointError"),eS P "OverflowError" 108 (.type "OverflowError"),eS P "ZeroDivisionError" 109 (.type "ZeroDivisionError"),eS P "BytesWarning" 110 (.type "BytesWarning"),eS P "DeprecationWarning" 111 (.type "DeprecationWarning"),eS P "EncodingWarning" 112 (.type "EncodingWarning"),eS P "FutureWarning" 113 (.type "FutureWarning"),eS P "ImportWarning" 114 (.type "ImportWarning"),eS P "PendingDeprecationWarning" 115 (.type "PendingDeprecationWarning"),eS P "ResourceWarning" 116 (.type "ResourceWarning"),eS P "RuntimeWarning" 117 (.type "RuntimeWarning"),eS P "SyntaxWarning" 118 (.type "SyntaxWarning"),eS P "UnicodeWarning" 119 (.type "UnicodeWarning"),eS P "UserWarning" 120 (.type "UserWarning"),eS P "BlockingIOError" 121 (.type "BlockingIOError"),eS P "ChildProcessError" 122 (.type "ChildProcessError"),eS P "ConnectionError" 123 (.type "ConnectionError"),eS P "FileExistsError" 124 (.type "FileExistsError"),eS P "FileNotFoundError" 125 (.type "FileNotFoundError"),eS P "InterruptedError" 126 (.type "InterruptedError"),eS P "IsADirectoryError" 127 (.type "IsADirectoryError"),eS P "NotADirectoryError" 128 (.type "NotADirectoryError"),eS P "PermissionError" 129 (.type "PermissionError"),eS P "ProcessLookupError" 130 (.type "ProcessLookupError"),eS P "TimeoutError" 131 (.type "TimeoutError"),eS P "IndentationError" 132 (.type "IndentationError"),eS P "_IncompleteInputError" 133 (.type "_IncompleteInputError"),eS P "IndexError" 134 (.type "IndexError"),eS P "KeyError" 135 (.type "KeyError"),eS P "ModuleNotFoundError" 136 (.type "ModuleNotFoundError"),eS P "NotImplementedError" 137 (.type "NotImplementedError"),eS P "PythonFinalizationError" 138 (.type "PythonFinalizationError"),eS P "RecursionError" 139 (.type "RecursionError"),eS P "UnboundLocalError" 140 (.type "UnboundLocalError"),eS P "UnicodeError" 141 (.type "UnicodeError"),eS P "BrokenPipeError" 142 (.type "BrokenPipeError"),eS P "ConnectionAbortedError" 143 (.type "ConnectionAbortedError"),eS P "ConnectionRefusedError" 144 (.type "ConnectionRefusedError"),eS P "ConnectionResetError" 145 (.type "ConnectionResetError"),eS P "TabError" 146 (.type "TabError"),eS P "UnicodeDecodeError" 147 (.type "UnicodeDecodeError"),eS P "UnicodeEncodeError" 148 (.type "UnicodeEncodeError"),eS P "UnicodeTranslateError" 149 (.type "UnicodeTranslateError"),eS P "ExceptionGroup" 150 (.type "ExceptionGroup"),eS P "EnvironmentError" 151 (.type "OSError"),eS P "IOError" 152 (.type "OSError"),eS P "open" 153 (.builtin "open"),eS P "quit" 154 (.builtin "builtins.quit#opaque"),eS P "exit" 155 (.builtin "builtins.exit#opaque"),eS P "copyright" 156 (.builtin "builtins.copyright#opaque"),eS P "credits" 157 (.builtin "builtins.credits#opaque"),eS P "license" 158 (.builtin "builtins.license#opaque"),eS P "help" 159 (.builtin "builtins.help#opaque")] 159
def o1 (P:Params):Obj:=oD [eS P "builtins" 162 (.ref 4),eS P "__main__" 163 (.ref 5),eS P "_sre" 244 (.ref 12),eS P "_collections" 292 (.ref 30)] 4
def o2 (P:Params):Obj:=oo .none none (.dict [eS P "\x69mport.loaded._sre" 183 (.bool true),eS P "class._frozen_importlib.BuiltinImporter" 185 (.ref 14),eS P "watched.\x69mport" 206 (.ref 18),eS P "class._frozen_importlib.ModuleSpec" 216 (.ref 22),eS P "sys.modules.booked-epoch" 245 (iv 4),eS P "\x69mport.later-laid._sre" 270 (.bool true),eS P "watched.library" 272 (.ref 27),eS P "watched.library-objects" 0 (sv "\x0c\x1e" 0),eS P "watched.library-deep._sre" 273 (sv "\x04\x00\x00\x0b\x04\x00\x00\x0b\x04\x00\x00\x03\x04\x00\x00\x0b\x08\x04dict\x02" 0),eS P "\x69mport.loaded._collections" 280 (.bool true),eS P "sys.modules.landed._collections" 294 (.bool true),eS P "\x69mport.later-laid._collections" 309 (.bool true),eS P "watched.library-deep._collections" 311 (sv "\x04\x00\x00\x1d\x04\x00\x00\x1d\x04\x00\x00\x03\x04\x00\x00\x1d\x08\x04dict\x02" 0),eS P "type.__subclasses__.OSError.0" 788 (iv 298),eS P "type.__subclasses__.OSError.n" 789 (iv 1)].toArray 15)
def o3 (P:Params):Obj:=oD [eS P "__name__" 165 (sv "law_ij0145_02" 1645),eS P "__doc__" 166 .none,eS P "__package__" 167 .none,eS P "__loader__" 168 (.builtin "__main__.__loader__#opaque"),eS P "__spec__" 169 .none,eS P "__annotations__" 170 (.ref 6),eS P "__builtins__" 171 (.ref 4),eS P "__file__" 173 (sv "/claim/cut.py" 172),eS P "__cached__" 174 .none,eS P "_sre" 275 (.ref 12),eS P "deque" 317 (.type "collections.deque"),eS P "_wall" 330 (.ref 44),eS P "_tuplegetter" 389 (.ref 83),eS P "Match" 517 (.ref 158),eS P "_calculate_ratio" 525 (.ref 168),eS P "SequenceMatcher" 711 (.ref 265),eS P "_twin_re_1" 751 (.ref 274),eS P "_whence" 761 (.ref 281),eS P "_index" 769 (.ref 288),eS P "UnsupportedOperation" 791 (.ref 298),eS P "IOBase" 823 (.ref 318),eS P "BufferedIOBase" 841 (.ref 333),eS P "TextIOBase" 859 (.ref 345),eS P "BytesIO" 1121 (.ref 575),eS P "StringIO" 1408 (.ref 822),eS P "_kind" 1419 (.ref 831),eS P "_fspath" 1428 (.ref 838),eS P "_check_arg_types" 1438 (.ref 845),eS P "isabs" 1445 (.ref 852),eS P "join" 1456 (.ref 976),eS P "join_path" 1457 (.ref 859),eS P "dirname" 1467 (.ref 866),eS P "shlex" 1614 (.ref 957),eS P "split" 1625 (.ref 969),eS P "join_shlex" 1634 (.ref 976),eS P "_find_unsafe" 1636 (.ref 977),eS P "quote" 1644 (.ref 984),eS P "_law_run" 1662 (.ref 991),eS P "_law_cut" 1677 (.ref 998),eS P "_law_blocks" 1685 (.ref 1005),eS P "_law_words" 1692 (.ref 1012),eS P "_law_line" 1698 (.ref 1017),eS P "law" 1704 (.ref 1022)] 43
def o4:Obj:=oo (.type "module") (some 0) .plain
def o19:Obj:=oo (.type "list") none (.seq [].toArray 0)
def o43:Obj:=oC "_wall" "_wall" 324 3 1 0 0 3 38 328
def o44:Obj:=oF "_wall" "_wall" [0] .none .none (sv "__main__" 164) 43
def o46:Obj:=oo (.type "builtin_function_or_method") none (.fields [.builtin "type.__prepare__", .type "type"].toArray)
def aTm:Obj:=oC "__new__" "Match.__new__" 411 31 4 0 0 3 99 418
def aPn:Obj:=oo (.type "function") none (.func ⟨(S "__new__"),(S "Match.__new__"),bB [3,4],bF [3,4],aG [3,4],3,[],.none,.none,sv "Create new instance of Match(a, b, size)" 420,sv "cpy313.difflib" 331,none,.ref 104,.none,0⟩)
def aTn:Obj:=oC "_make" "Match._make" 422 35 2 0 0 3 106 428
def aPo:Obj:=oo (.type "function") none (.func ⟨(S "_make"),(S "Match._make"),bB [3,5],bF [3,5],aG [3,5],3,[],.none,.none,(.str (bR [3,5]) 430),sv "cpy313.difflib" 331,(some 115),.ref 111,.none,0⟩)
def aTo:Obj:=oo (.type "classmethod") (some 113) (.fields [.ref 112,.bool false].toArray)
def aTp:Obj:=oC "_replace" "Match._replace" 444 43 1 1 0 11 117 451
def aTq:Obj:=oo (.type "function") none (.func ⟨(S "_replace"),(S "Match._replace"),bB [3,6],bF [3,6],aG [3,6],3,[((S "__class__"),91)],.none,.none,(.str (bR [3,6]) 453),sv "cpy313.difflib" 331,none,.ref 122,.ref 116,0⟩)
def aTr:Obj:=oC "__repr__" "Match.__repr__" 456 54 1 0 0 3 124 460
def aTs:Obj:=oo (.type "function") none (.func ⟨(S "__repr__"),(S "Match.__repr__"),bB [3,8],bF [3,8],aG [3,8],3,[],.none,.none,(.str (bR [3,8]) 462),sv "cpy313.difflib" 331,none,.ref 129,.none,0⟩)
def aTt:Obj:=oC "_asdict" "Match._asdict" 464 58 1 0 0 3 131 468
def aTu:Obj:=oF "_asdict" "Match._asdict" [3,9] .none .none (sv "cpy313.difflib" 331) 136
def aTv:Obj:=oC "__getnewargs__" "Match.__getnewargs__" 471 61 1 0 0 3 138 475
def aTw:Obj:=oo (.type "function") none (.func ⟨(S "__getnewargs__"),(S "Match.__getnewargs__"),bB [3,10],bF [3,10],aG [3,10],3,[],.none,.none,(.str (bR [3,10]) 477),sv "cpy313.difflib" 331,none,.ref 143,.none,0⟩)
def aTx (P:Params):Obj:=oD [eS P "__module__" 397 (sv "cpy313.difflib" 331),eS P "__firstlineno__" 401 (iv 25 400),eS P "__doc__" 403 (sv "Match(a, b, size)" 402),eS P "__slots__" 405 (.ref 96),eS P "_fields" 409 (.ref 97),eS P "_field_defaults" 410 (.ref 98),eS P "__new__" 421 (.ref 159),eS P "_make" 443 (.ref 114),eS P "_replace" 454 (.ref 123),eS P "__replace__" 455 (.ref 123),eS P "__repr__" 463 (.ref 130),eS P "_asdict" 470 (.ref 137),eS P "__getnewargs__" 478 (.ref 144),eS P "__match_args__" 482 (.ref 145),eS P "a" 492 (.ref 147),eS P "b" 502 (.ref 150),eS P "size" 512 (.ref 153),eS P "__static_attributes__" 513 (.ref 155)] 2
noncomputable def aTy:Obj:=⟨(.type "type"),none,(.cls ⟨(S "Match"),[.type "tuple"],[.ref 158,.type "tuple", .type "object"],157,(S "Match"),false,[],[],false,none,false⟩),[some (.ref 88),none,some (sv "Match" 390),some (sv "Match" 398),some .none,some (.bool false)].toArray⟩
def aTz:Obj:=oo (.type "staticmethod") none (.fields [.ref 105].toArray)
def aUa:Obj:=oT [.none,sv "" 541,sv "" 542,.bool true]
def aUb:Obj:=oC "__init__" "SequenceMatcher.__init__" 543 147 5 0 0 3 177 551
def aPp:Obj:=oo (.type "function") none (.func ⟨(S "__init__"),(S "SequenceMatcher.__init__"),bB [5,1],bF [5,1],aG [5,1],3,[],.ref 176,.none,(.str (bR [5,1]) 553),sv "cpy313.difflib" 331,none,.ref 182,.none,0⟩)
def aUc:Obj:=oC "set_seqs" "SequenceMatcher.set_seqs" 555 175 3 0 0 3 184 561
def aPq:Obj:=oo (.type "function") none (.func ⟨(S "set_seqs"),(S "SequenceMatcher.set_seqs"),bB [5,2],bF [5,2],aG [5,2],3,[],.none,.none,(.str (bR [5,2]) 563),sv "cpy313.difflib" 331,none,.ref 189,.none,0⟩)
def aUd:Obj:=oC "set_seq1" "SequenceMatcher.set_seq1" 565 186 2 0 0 3 191 570
def aPr:Obj:=oo (.type "function") none (.func ⟨(S "set_seq1"),(S "SequenceMatcher.set_seq1"),bB [5,3],bF [5,3],aG [5,3],3,[],.none,.none,(.str (bR [5,3]) 572),sv "cpy313.difflib" 331,none,.ref 196,.none,0⟩)
def aUe:Obj:=oC "set_seq2" "SequenceMatcher.set_seq2" 574 211 2 0 0 3 198 579
def aPs:Obj:=oo (.type "function") none (.func ⟨(S "set_seq2"),(S "SequenceMatcher.set_seq2"),bB [5,4],bF [5,4],aG [5,4],3,[],.none,.none,(.str (bR [5,4]) 581),sv "cpy313.difflib" 331,none,.ref 203,.none,0⟩)
def aUf:Obj:=oC "__chain_b" "SequenceMatcher.__chain_b" 583 238 1 0 0 3 205 598
def aPt:Obj:=oF "__chain_b" "SequenceMatcher.__chain_b" [5,5] .none .none (sv "cpy313.difflib" 331) 210
def aUg:Obj:=oT [iv 0 601,.none,iv 0 602,.none]
def aUh:Obj:=oC "find_longest_match" "SequenceMatcher.find_longest_match" 603 262 5 0 0 3 213 625
def aPu:Obj:=oo (.type "function") none (.func ⟨(S "find_longest_match"),(S "SequenceMatcher.find_longest_match"),bB [5,6],bF [5,6],aG [5,6],3,[],.ref 212,.none,(.str (bR [5,6]) 627),sv "cpy313.difflib" 331,none,.ref 218,.none,0⟩)
def aUi:Obj:=oC "get_matching_blocks" "SequenceMatcher.get_matching_blocks" 629 337 1 0 0 3 220 652
def aPv:Obj:=oo (.type "function") none (.func ⟨(S "get_matching_blocks"),(S "SequenceMatcher.get_matching_blocks"),bB [5,7],bF [5,7],aG [5,7],3,[],.none,.none,(.str (bR [5,7]) 654),sv "cpy313.difflib" 331,none,.ref 225,.none,0⟩)
def aUj:Obj:=oC "get_opcodes" "SequenceMatcher.get_opcodes" 656 385 1 0 0 3 227 660
def aUk:Obj:=oF "get_opcodes" "SequenceMatcher.get_opcodes" [5,8] .none .none (sv "cpy313.difflib" 331) 232
def aUl:Obj:=oT [iv 3 663]
def aUm:Obj:=oC "get_grouped_opcodes" "SequenceMatcher.get_grouped_opcodes" 664 388 2 0 0 3 235 669
def aUn:Obj:=oF "get_grouped_opcodes" "SequenceMatcher.get_grouped_opcodes" [5,9] (.ref 234) .none (sv "cpy313.difflib" 331) 240
def aUo:Obj:=oC "ratio" "SequenceMatcher.ratio" 672 391 1 0 0 3 242 677
def aUp:Obj:=oo (.type "function") none (.func ⟨(S "ratio"),(S "SequenceMatcher.ratio"),bB [5,10],bF [5,10],aG [5,10],3,[],.none,.none,(.str (bR [5,10]) 679),sv "cpy313.difflib" 331,none,.ref 247,.none,0⟩)
def aUq:Obj:=oC "quick_ratio" "SequenceMatcher.quick_ratio" 681 415 1 0 0 3 249 685
def aUr:Obj:=oF "quick_ratio" "SequenceMatcher.quick_ratio" [5,11] .none .none (sv "cpy313.difflib" 331) 254
def aUs:Obj:=oC "real_quick_ratio" "SequenceMatcher.real_quick_ratio" 688 418 1 0 0 3 256 692
def aUt:Obj:=oF "real_quick_ratio" "SequenceMatcher.real_quick_ratio" [5,12] .none .none (sv "cpy313.difflib" 331) 261
def aUu (P:Params):Obj:=oD [eS P "__module__" 533 (sv "cpy313.difflib" 331),eS P "__firstlineno__" 537 (iv 72 536),eS P "__doc__" 539 (.str D5 538),eS P "__init__" 554 (.ref 183),eS P "set_seqs" 564 (.ref 190),eS P "set_seq1" 573 (.ref 197),eS P "set_seq2" 582 (.ref 204),eS P "_SequenceMatcher__chain_b" 600 (.ref 211),eS P "find_longest_match" 628 (.ref 219),eS P "get_matching_blocks" 655 (.ref 226),eS P "get_opcodes" 662 (.ref 233),eS P "get_grouped_opcodes" 671 (.ref 241),eS P "ratio" 680 (.ref 248),eS P "quick_ratio" 687 (.ref 255),eS P "real_quick_ratio" 694 (.ref 262),eS P "__static_attributes__" 705 (.ref 263),eS P "__dict__" 707 (.ref 266),eS P "__weakref__" 709 (.ref 267)] 3
noncomputable def aUv:Obj:=⟨(.type "type"),none,(.cls ⟨(S "SequenceMatcher"),[.type "object"],[.ref 265,.type "object"],264,(S "SequenceMatcher"),true,[],[],false,none,false⟩),[none,none,some (sv "SequenceMatcher" 526),some (sv "SequenceMatcher" 534),some (.builtin "object.__new__"),some (.bool true)].toArray⟩
def aLt:Obj:=oT [iv 14,iv 17,iv 4,iv 1,iv 1,iv 21,iv 9,iv 0,iv 604043296,iv 1,iv 0,iv 0,iv 0,iv 0,iv 0,iv 8,iv 4,iv 0,iv 13,iv 14,iv 21,iv 9,iv 0,iv 604043296,iv 1,iv 0,iv 0,iv 0,iv 0,iv 0,iv 8,iv 4,iv 0,iv 1]
def aGv:Obj:=oo (.type "re.Pattern") none (.fields [sv "[^\\w@%+=:,./-]" 713,iv 256 750,iv 0,.none,.none,.ref 273,iv 0].toArray)
def aUw:Obj:=oC "_index" "_index" 762 427 2 0 0 3 282 767
def aPw:Obj:=oF "_index" "_index" [9] .none .none (sv "io" 752) 287
def aUx:Obj:=oC "__new__" "IOBase.__new__" 806 439 1 1 0 15 309 812
def aPx:Obj:=oF "__new__" "IOBase.__new__" [11,1] .none .none (sv "io" 752) 314
def aUy (P:Params):Obj:=oD [eS P "__module__" 799 (sv "io" 804),eS P "__firstlineno__" 803 (iv 436 802),eS P "__new__" 814 (.ref 319),eS P "__static_attributes__" 815 (.ref 316),eS P "__dict__" 818 (.ref 320),eS P "__weakref__" 820 (.ref 321),eS P "__doc__" 821 .none] 4
noncomputable def aUz:Obj:=⟨(.type "type"),none,(.cls ⟨(S "IOBase"),[.type "object"],[.ref 318,.type "object"],317,(S "IOBase"),true,[],[.ref 333,.ref 345],false,none,false⟩),[none,none,some (sv "IOBase" 792),some (sv "IOBase" 800),some .none,some (.bool true)].toArray⟩
def aVa:Obj:=oo (.type "staticmethod") none (.fields [.ref 315].toArray)
def aVb:Obj:=oT [.ref 318]
def aVc (P:Params):Obj:=oD [eS P "__module__" 849 (sv "io" 854),eS P "__firstlineno__" 853 (iv 445 852),eS P "__static_attributes__" 856 (.ref 343),eS P "__doc__" 857 .none] 2
noncomputable def aVd:Obj:=⟨(.type "type"),none,(.cls ⟨(S "TextIOBase"),[.ref 318],[.ref 345,.ref 318,.type "object"],344,(S "TextIOBase"),true,[],[.ref 822],false,none,false⟩),[some (.ref 336),none,some (sv "TextIOBase" 842),some (sv "TextIOBase" 850),some .none,some (.bool true)].toArray⟩
def aVe (P:Params):Obj:=oD [eS P "__module__" 867 (sv "_io" 872),eS P "__firstlineno__" 871 (iv 447 870),eS P "__init__" 881 (.ref 362),eS P "_BytesIO__check" 888 (.ref 369),eS P "_BytesIO__line" 899 (.ref 376),eS P "closed" 907 (.ref 384),eS P "close" 914 (.ref 391),eS P "__enter__" 921 (.ref 398),eS P "__exit__" 929 (.ref 405),eS P "readable" 936 (.ref 412),eS P "writable" 943 (.ref 419),eS P "seekable" 950 (.ref 426),eS P "isatty" 957 (.ref 433),eS P "flush" 964 (.ref 440),eS P "fileno" 971 (.ref 447),eS P "detach" 978 (.ref 454),eS P "getvalue" 985 (.ref 461),eS P "getbuffer" 992 (.ref 468),eS P "tell" 999 (.ref 475),eS P "seek" 1009 (.ref 483),eS P "truncate" 1017 (.ref 491),eS P "read" 1029 (.ref 499),eS P "read1" 1039 (.ref 507),eS P "readinto" 1049 (.ref 514),eS P "readinto1" 1057 (.ref 521),eS P "readline" 1067 (.ref 529),eS P "readlines" 1075 (.ref 537),eS P "__iter__" 1082 (.ref 544),eS P "__next__" 1090 (.ref 551),eS P "write" 1100 (.ref 558),eS P "writelines" 1108 (.ref 565),eS P "__repr__" 1115 (.ref 572),eS P "__static_attributes__" 1118 (.ref 573),eS P "__doc__" 1119 .none] 2
noncomputable def aPy:Obj:=⟨(.type "type"),none,(.cls ⟨(S "BytesIO"),[.ref 333],[.ref 575,.ref 333,.ref 318,.type "object"],574,(S "BytesIO"),true,[],[],false,none,false⟩),[some (.ref 348),none,some (sv "BytesIO" 860),some (sv "BytesIO" 868),some .none,some (.bool true)].toArray⟩
def aVf:Obj:=oT [sv "" 1136,sv "\n" 1137]
def aVg:Obj:=oC "__init__" "StringIO.__init__" 1138 620 3 0 0 3 586 1144
def aPz:Obj:=oF "__init__" "StringIO.__init__" [15,1] (.ref 585) .none (sv "io" 752) 591
def aVh:Obj:=oC "__translated" "StringIO.__translated" 1147 633 2 0 0 3 593 1153
def aQa:Obj:=oF "__translated" "StringIO.__translated" [15,2] .none .none (sv "io" 752) 598
def aVi:Obj:=oC "__check" "StringIO.__check" 1156 641 1 0 0 3 600 1160
def aQb:Obj:=oF "__check" "StringIO.__check" [15,3] .none .none (sv "io" 752) 605
def aVj:Obj:=oT [.int (-1) 1329]
def aVk:Obj:=oC "read" "StringIO.read" 1330 763 2 2 0 3 762 1337
def aQc:Obj:=oF "read" "StringIO.read" [15,25] (.ref 761) .none (sv "io" 752) 767
def aVl (P:Params):Obj:=oD [eS P "__module__" 1129 (sv "_io" 1134),eS P "__firstlineno__" 1133 (iv 617 1132),eS P "__init__" 1146 (.ref 592),eS P "_StringIO__translated" 1155 (.ref 599),eS P "_StringIO__check" 1162 (.ref 606),eS P "_StringIO__check_dot" 1169 (.ref 613),eS P "_StringIO__line" 1184 (.ref 620),eS P "closed" 1192 (.ref 628),eS P "line_buffering" 1200 (.ref 636),eS P "newlines" 1208 (.ref 644),eS P "encoding" 1216 (.ref 652),eS P "errors" 1224 (.ref 660),eS P "close" 1231 (.ref 667),eS P "__enter__" 1238 (.ref 674),eS P "__exit__" 1246 (.ref 681),eS P "readable" 1253 (.ref 688),eS P "writable" 1260 (.ref 695),eS P "seekable" 1267 (.ref 702),eS P "isatty" 1274 (.ref 709),eS P "flush" 1281 (.ref 716),eS P "fileno" 1288 (.ref 723),eS P "detach" 1295 (.ref 730),eS P "getvalue" 1302 (.ref 737),eS P "tell" 1309 (.ref 744),eS P "seek" 1319 (.ref 752),eS P "truncate" 1327 (.ref 760),eS P "read" 1339 (.ref 768),eS P "readline" 1349 (.ref 776),eS P "readlines" 1359 (.ref 784),eS P "__iter__" 1366 (.ref 791),eS P "__next__" 1374 (.ref 798),eS P "write" 1386 (.ref 805),eS P "writelines" 1394 (.ref 812),eS P "__repr__" 1401 (.ref 819),eS P "__static_attributes__" 1405 (.ref 820),eS P "__doc__" 1406 .none] 2
noncomputable def aQd:Obj:=⟨(.type "type"),none,(.cls ⟨(S "StringIO"),[.ref 345],[.ref 822,.ref 345,.ref 318,.type "object"],821,(S "StringIO"),true,[],[],false,none,false⟩),[some (.ref 578),none,some (sv "StringIO" 1122),some (sv "StringIO" 1130),some .none,some (.bool true)].toArray⟩
def aVm:Obj:=oT [.none,.none,.bool false,.bool false]
def aVn:Obj:=oC "__init__" "shlex.__init__" 1485 890 5 0 0 3 875 1494
def aQe:Obj:=oF "__init__" "shlex.__init__" [25,1] (.ref 874) .none (sv "cpy313.shlex" 1468) 880
def aVo:Obj:=oC "punctuation_chars" "shlex.punctuation_chars" 1497 931 1 0 0 3 882 1501
def aQf:Obj:=oF "punctuation_chars" "shlex.punctuation_chars" [25,2] .none .none (sv "cpy313.shlex" 1468) 887
def aVp:Obj:=oo (.type "property") none (.fields [.ref 888,.none,.none,.none,sv "punctuation_chars" 1504,.bool false].toArray)
def aVq:Obj:=oC "push_token" "shlex.push_token" 1505 935 2 0 0 3 890 1510
def aVr:Obj:=oF "push_token" "shlex.push_token" [25,3] .none .none (sv "cpy313.shlex" 1468) 895
def wI:Obj:=oT [.none]
def aVs:Obj:=oC "push_source" "shlex.push_source" 1513 938 3 0 0 3 898 1519
def aVt:Obj:=oo (.type "function") none (.func ⟨(S "push_source"),(S "shlex.push_source"),bB [25,4],bF [25,4],aG [25,4],3,[],.ref 897,.none,(.str (bR [25,4]) 1521),sv "cpy313.shlex" 1468,none,.ref 903,.none,0⟩)
def aVu:Obj:=oC "pop_source" "shlex.pop_source" 1523 952 1 0 0 3 905 1527
def aVv:Obj:=oo (.type "function") none (.func ⟨(S "pop_source"),(S "shlex.pop_source"),bB [25,5],bF [25,5],aG [25,5],3,[],.none,.none,sv "Pop the input source stack." 1529,sv "cpy313.shlex" 1468,none,.ref 910,.none,0⟩)
def aVw:Obj:=oC "get_token" "shlex.get_token" 1531 960 1 0 0 3 912 1540
def aQg:Obj:=oo (.type "function") none (.func ⟨(S "get_token"),(S "shlex.get_token"),bB [25,6],bF [25,6],aG [25,6],3,[],.none,.none,(.str (bR [25,6]) 1542),sv "cpy313.shlex" 1468,none,.ref 917,.none,0⟩)
def aVx:Obj:=oC "read_token" "shlex.read_token" 1544 988 1 0 0 3 919 1552
def aQh:Obj:=oF "read_token" "shlex.read_token" [25,7] .none .none (sv "cpy313.shlex" 1468) 924
def aVy:Obj:=oC "sourcehook" "shlex.sourcehook" 1555 1125 2 0 0 3 926 1560
def aVz:Obj:=oo (.type "function") none (.func ⟨(S "sourcehook"),(S "shlex.sourcehook"),bB [25,8],bF [25,8],aG [25,8],3,[],.none,.none,sv "Hook called on a filename to be sourced." 1562,sv "cpy313.shlex" 1468,none,.ref 931,.none,0⟩)
def aWa:Obj:=oT [.none,.none]
def aWb:Obj:=oC "error_leader" "shlex.error_leader" 1564 1133 3 0 0 3 934 1570
def aWc:Obj:=oF "error_leader" "shlex.error_leader" [25,9] (.ref 933) .none (sv "cpy313.shlex" 1468) 939
def aWd:Obj:=oC "__iter__" "shlex.__iter__" 1573 1136 1 0 0 3 941 1577
def aQi:Obj:=oF "__iter__" "shlex.__iter__" [25,10] .none .none (sv "cpy313.shlex" 1468) 946
def aWe:Obj:=oC "__next__" "shlex.__next__" 1580 1139 1 0 0 3 948 1585
def aQj:Obj:=oF "__next__" "shlex.__next__" [25,11] .none .none (sv "cpy313.shlex" 1468) 953
def aWf (P:Params):Obj:=oD [eS P "__module__" 1477 (sv "cpy313.shlex" 1468),eS P "__firstlineno__" 1481 (iv 887 1480),eS P "__doc__" 1483 (.str (bR [25]) 1482),eS P "__init__" 1496 (.ref 881),eS P "punctuation_chars" 1504 (.ref 889),eS P "push_token" 1512 (.ref 896),eS P "push_source" 1522 (.ref 904),eS P "pop_source" 1530 (.ref 911),eS P "get_token" 1543 (.ref 918),eS P "read_token" 1554 (.ref 925),eS P "sourcehook" 1563 (.ref 932),eS P "error_leader" 1572 (.ref 940),eS P "__iter__" 1579 (.ref 947),eS P "__next__" 1587 (.ref 954),eS P "__static_attributes__" 1608 (.ref 955),eS P "__dict__" 1610 (.ref 958),eS P "__weakref__" 1612 (.ref 959)] 3
noncomputable def aWg:Obj:=⟨(.type "type"),none,(.cls ⟨(S "shlex"),[.type "object"],[.ref 957,.type "object"],956,(S "shlex"),true,[],[],false,none,false⟩),[none,none,some (sv "shlex" 1470),some (sv "shlex" 1478),some (.builtin "object.__new__"),some (.bool true)].toArray⟩
def aWh:Obj:=oT [.bool false,.bool true]
def aWi:Obj:=oC "split" "split" 1615 1144 3 0 0 3 963 1622
def aQk:Obj:=oo (.type "function") none (.func ⟨(S "split"),(S "split"),bB [26],bF [26],aG [26],3,[],.ref 962,.none,(.str (bR [26]) 1624),sv "cpy313.shlex" 1468,none,.ref 968,.none,0⟩)
def aLu:Obj:=oC "join" "join" 1626 1153 1 0 0 3 970 1630
def aQl:Obj:=oo (.type "function") none (.func ⟨(S "join"),(S "join"),bB [27],bF [27],aG [27],3,[],.none,.none,(.str (bR [27]) 1632),sv "cpy313.shlex" 1468,none,.ref 975,.none,0⟩)
def aQm:Obj:=oo (.type "builtin_function_or_method") none (.fields [.builtin "re.Pattern.search", .ref 274].toArray)
def aWj:Obj:=oC "quote" "quote" 1637 1158 1 0 0 3 978 1641
def aQn:Obj:=oo (.type "function") none (.func ⟨(S "quote"),(S "quote"),bB [30],bF [30],aG [30],3,[],.none,.none,(.str (bR [30]) 1643),sv "cpy313.shlex" 1468,none,.ref 983,.none,0⟩)
def aWk:Obj:=oC "_law_run" "_law_run" 1647 1166 6 0 0 3 985 1660
def aQo:Obj:=oF "_law_run" "_law_run" [32] .none .none (sv "law_ij0145_02" 1645) 990
def aWl:Obj:=oC "_law_cut" "_law_cut" 1663 1176 6 0 0 3 992 1675
def aQp:Obj:=oF "_law_cut" "_law_cut" [33] .none .none (sv "law_ij0145_02" 1645) 997
def aOa:Obj:=oC "_law_blocks" "_law_blocks" 1678 1181 2 0 0 3 999 1683
def aGw:Obj:=oF "_law_blocks" "_law_blocks" [34] .none .none (sv "law_ij0145_02" 1645) 1004
def aOb:Obj:=oC "_law_words" "_law_words" 1686 1183 1 0 0 3 1006 1690
def aGx:Obj:=oF "_law_words" "_law_words" [35] .none .none (sv "law_ij0145_02" 1645) 1011
def aOc:Obj:=oo (.type "code") none (.fields [sv "_law_line" 1693,sv "_law_line" 1694,sv "/claim/cut.py" 1695,iv 1185,iv 2,iv 0,iv 0,iv 3,.ref 1013,.bool true,iv 318,.ref 1014,.none,.none,.none,.ref 1015,iv 1696,iv 1185,sv "/claim/cut.py" 1697].toArray)
def aGy:Obj:=oF "_law_line" "_law_line" [36] .none .none (sv "law_ij0145_02" 1645) 1016
def aOd:Obj:=oo (.type "code") none (.fields [sv "law" 1699,sv "law" 1700,sv "/claim/cut.py" 1701,iv 1189,iv 1,iv 0,iv 0,iv 3,.ref 1018,.bool true,iv 318,.ref 1019,.none,.none,.none,.ref 1020,iv 1702,iv 1189,sv "/claim/cut.py" 1703].toArray)
def aGz:Obj:=oF "law" "law" [37] .none .none (sv "law_ij0145_02" 1645) 1021
def nM (P:Params):Obj:=oo .none none (.dict [eS P "\x69mport.loaded._sre" 183 (.bool true),eS P "class._frozen_importlib.BuiltinImporter" 185 (.ref 14),eS P "watched.\x69mport" 206 (.ref 18),eS P "class._frozen_importlib.ModuleSpec" 216 (.ref 22),eS P "sys.modules.booked-epoch" 245 (iv 4),eS P "\x69mport.later-laid._sre" 270 (.bool true),eS P "watched.library" 272 (.ref 27),eS P "watched.library-objects" 0 (sv "\x0c\x1e" 0),eS P "watched.library-deep._sre" 273 (sv "\x04\x00\x00\x0b\x04\x00\x00\x0b\x04\x00\x00\x03\x04\x00\x00\x0b\x08\x04dict\x02" 0),eS P "\x69mport.loaded._collections" 280 (.bool true),eS P "sys.modules.landed._collections" 294 (.bool true),eS P "\x69mport.later-laid._collections" 309 (.bool true),eS P "watched.library-deep._collections" 311 (sv "\x04\x00\x00\x1d\x04\x00\x00\x1d\x04\x00\x00\x03\x04\x00\x00\x1d\x08\x04dict\x02" 0)].toArray 13)
noncomputable def o3L (P:Params):List DictEntry:=[eS P "__doc__" 166 .none,eS P "__package__" 167 .none,eS P "__loader__" 168 (.builtin "__main__.__loader__#opaque"),eS P "__spec__" 169 .none,eS P "__annotations__" 170 (.ref 6),eS P "__builtins__" 171 (.ref 4),eS P "__file__" 173 (sv "/claim/cut.py" 172),eS P "__cached__" 174 .none,eS P "_sre" 275 (.ref 12),eS P "deque" 317 (.type "collections.deque"),eS P "_wall" 330 (.ref 44),eS P "_tuplegetter" 389 (.ref 83),eS P "Match" 517 (.ref 158),eS P "_calculate_ratio" 525 (.ref 168),eS P "SequenceMatcher" 711 (.ref 265),eS P "_twin_re_1" 751 (.ref 274),eS P "_whence" 761 (.ref 281),eS P "_index" 769 (.ref 288),eS P "UnsupportedOperation" 791 (.ref 298),eS P "IOBase" 823 (.ref 318),eS P "BufferedIOBase" 841 (.ref 333),eS P "TextIOBase" 859 (.ref 345),eS P "BytesIO" 1121 (.ref 575),eS P "StringIO" 1408 (.ref 822),eS P "_kind" 1419 (.ref 831),eS P "_fspath" 1428 (.ref 838),eS P "_check_arg_types" 1438 (.ref 845),eS P "isabs" 1445 (.ref 852),eS P "join" 1456 (.ref 859),eS P "join_path" 1457 (.ref 859),eS P "dirname" 1467 (.ref 866),eS P "shlex" 1614 (.ref 957)]
def aBc (P:Params):Obj:=oD (eS P "__name__" 165 (sv "__main__" 164)::(o3L P).take 10) 11
noncomputable def wJ:Obj:=⟨(.type "type"),none,(.cls ⟨(S "BufferedIOBase"),[.ref 318],[.ref 333,.ref 318,.type "object"],332,(S "BufferedIOBase"),true,[],[],false,none,false⟩),[some (.ref 324),none,some (sv "BufferedIOBase" 824),some (sv "BufferedIOBase" 832),some .none,some (.bool true)].toArray⟩
noncomputable def wK:Obj:=⟨(.type "type"),none,(.cls ⟨(S "TextIOBase"),[.ref 318],[.ref 345,.ref 318,.type "object"],344,(S "TextIOBase"),true,[],[],false,none,false⟩),[some (.ref 336),none,some (sv "TextIOBase" 842),some (sv "TextIOBase" 850),some .none,some (.bool true)].toArray⟩
noncomputable def lf (v:Obj):BT:=.node v .nil .nil
noncomputable def bT0 (P:Params):BT:=.node (oD [eS P "__module__" 340 (sv "cpy313.difflib" 331),eS P "__qualname__" 342 (sv "_tuplegetter" 341),eS P "__firstlineno__" 344 (iv 7 343),eS P "__init__" 353 (.ref 58),eS P "__get__" 362 (.ref 66),eS P "__set__" 371 (.ref 73),eS P "__delete__" 379 (.ref 80),eS P "__static_attributes__" 382 (.ref 81)] 8) (.node (oC "__delete__" "_tuplegetter.__delete__" 372 23 2 0 0 3 74 377) (.node aTv (.node (oD []) (lf (oP "readline" "BytesIO.readline" [14,24])) (lf (oC "readlines" "StringIO.readlines" 1352 784 2 2 0 3 778 1357))) (.node (oT []) (lf (oT [sv "self" 1220])) (lf aVv))) (.node (oT [sv "self" 586,sv "b" 587,sv "b2j" 588,sv "i" 589,sv "elt" 590,sv "indices" 591,sv "junk" 592,sv "isjunk" 593,sv "popular" 594,sv "n" 595,sv "ntest" 596,sv "idxs" 597]) (.node (oo (.type "builtin_function_or_method") none (.fields [.builtin "object.__init_subclass__", .ref 333].toArray)) (lf aVg) (lf (oN []))) (.node (oN []) (lf (oT [sv "self" 1285])) (lf aLu)))) (.node aTn (.node (⟨(.type "frame"),none,.plain,[some (.ref 174),some (.ref 3),some (.ref 171),none,some (sv "cpy313.difflib" 331),none,some (.ref 0)].toArray⟩) (.node o46 (lf (oT [])) (lf (oT [sv "self" 1398]))) (.node (oP "isatty" "BytesIO.isatty" [14,11]) (lf (oC "readable" "StringIO.readable" 1247 711 1 0 0 3 682 1251)) (lf (oT [sv "self" 1576])))) (.node (oP "get_grouped_opcodes" "SequenceMatcher.get_grouped_opcodes" [5,9]) (.node (oP "__check" "BytesIO.__check" [14,2]) (lf (oT [sv "self" 1188])) (lf (oP "__init__" "shlex.__init__" [25,1]))) (.node (oT [sv "self" 1023,sv "size" 1024,sv "start" 1025,sv "stop" 1026]) (lf (oC "seek" "StringIO.seek" 1311 743 3 3 0 3 746 1317)) (lf (oN [])))))
noncomputable def bT1:BT:=.node (oN []) (.node (oP "__set__" "_tuplegetter.__set__" [2,2]) (.node (oP "_asdict" "Match._asdict" [3,9]) (.node (oT [sv "a" 695,sv "autojunk" 696,sv "b" 697,sv "b2j" 698,sv "bjunk" 699,sv "bpopular" 700,sv "fullbcount" 701,sv "isjunk" 702,sv "matching_blocks" 703,sv "opcodes" 704]) (lf (oP "readinto1" "BytesIO.readinto1" [14,23])) (lf (oC "readline" "StringIO.readline" 1342 777 2 2 0 3 770 1347))) (.node (oF "close" "BytesIO.close" [14,5] .none .none (sv "io" 752) 390) (lf (oT [sv "self" 1212])) (lf aVs))) (.node (oN []) (.node (oT []) (lf (oo (.type "code") none (.fields [sv "StringIO" 1124,sv "StringIO" 1125,sv "/claim/cut.py" 1126,iv 617,iv 0,iv 0,iv 0,iv 0,.ref 581,.bool false,iv 318,.ref 582,.none,.none,.none,.none,iv 1127,iv 617,sv "/claim/cut.py" 1128].toArray))) (lf (oT []))) (.node (oT []) (lf (oN [])) (lf (oP "split" "split" [26]))))) (.node (oP "__new__" "Match.__new__" [3,4]) (.node (oC "_calculate_ratio" "_calculate_ratio" 518 68 2 0 0 3 162 523) (.node (⟨(.type "frame"),none,.plain,[some (.ref 294),some (.ref 3),some (.ref 291),none,some (sv "io" 752),none,some (.ref 0)].toArray⟩) (lf (oF "__next__" "BytesIO.__next__" [14,27] .none .none (sv "io" 752) 550)) (lf (oN []))) (.node (oT []) (lf (oP "__exit__" "StringIO.__exit__" [15,13])) (lf (oN [])))) (.node (oP "get_opcodes" "SequenceMatcher.get_opcodes" [5,8]) (.node (oT []) (lf (oN [])) (lf (oN [iv 890,iv 4,.ref 880,iv 932,iv 4,.ref 887,iv 935,iv 4,.ref 895,iv 938,iv 4,.ref 903,iv 952,iv 4,.ref 910,iv 960,iv 4,.ref 917,iv 988,iv 4,.ref 924,iv 1125,iv 4,.ref 931,iv 1133,iv 4,.ref 939,iv 1136,iv 4,.ref 946,iv 1139,iv 4,.ref 953]))) (.node (oT [sv "self" 1013,sv "size" 1014]) (lf (oC "tell" "StringIO.tell" 1303 739 1 0 0 3 738 1307)) (lf (oT [])))))
noncomputable def bT2 (P:Params):BT:=.node (oT []) (.node (oo (.type "builtin_function_or_method") none (.fields [.builtin "object.__init_subclass__", .ref 83].toArray)) (.node (oo (.type "frame") none (.dict [eS P "self" 495 (.ref 150),eS P "index" 496 (iv 1 493),eS P "doc" 497 (sv "Alias for field number 1" 494)].toArray 3)) (.node (oP "_whence" "_whence" [8]) (lf (oP "readlines" "BytesIO.readlines" [14,25])) (lf (oF "__iter__" "StringIO.__iter__" [15,28] .none .none (sv "io" 752) 790))) (.node (oN []) (lf (oT [sv "self" 1228])) (lf (oT [])))) (.node (oT [sv "self" 606,sv "alo" 607,sv "ahi" 608,sv "blo" 609,sv "bhi" 610,sv "a" 611,sv "b" 612,sv "b2j" 613,sv "isbjunk" 614,sv "besti" 615,sv "bestj" 616,sv "bestsize" 617,sv "j2len" 618,sv "nothing" 619,sv "i" 620,sv "j2lenget" 621,sv "newj2len" 622,sv "j" 623,sv "k" 624]) (.node (oT []) (lf aQa) (lf (oT [sv "a" 1449,sv "p" 1450,sv "b" 1451,sv "sep" 1452,sv "path" 1453]))) (.node (oT [sv "self" 996]) (lf (oT [])) (lf aWj)))) (.node (oT [sv "self" 448,sv "kwds" 449,sv "result" 450]) (.node aPp (.node (oT [sv "cls" 809,sv "args" 810,sv "kwargs" 811]) (lf (oN [])) (lf (oo (.type "super") none (.fields [.ref 822,.ref 822,.ref 822].toArray)))) (.node (oC "flush" "BytesIO.flush" 958 503 1 0 0 3 434 962) (lf (oF "writable" "StringIO.writable" [15,15] .none .none (sv "io" 752) 694)) (lf (oT [])))) (.node aUo (.node (oC "__line" "BytesIO.__line" 889 460 2 0 0 3 370 897) (lf (oT [sv "self" 1196])) (lf aVo)) (.node (oT [sv "self" 1035,sv "size" 1036]) (lf (oC "truncate" "StringIO.truncate" 1320 760 2 2 0 3 754 1325)) (lf (oP "_law_line" "_law_line" [36])))))
noncomputable def bT3 (P:Params):BT:=.node (oN [iv 3,iv 0,.ref 43,iv 7,iv 0,.ref 50,iv 25,iv 0,.ref 94,iv 68,iv 0,.ref 167,iv 72,iv 0,.ref 174,iv 422,iv 0,.ref 280,iv 427,iv 0,.ref 287,iv 434,iv 0,.ref 294,iv 436,iv 0,.ref 307,iv 443,iv 0,.ref 329,iv 445,iv 0,.ref 341,iv 447,iv 0,.ref 353,iv 617,iv 0,.ref 583,iv 823,iv 0,.ref 830,iv 844,iv 0,.ref 837,iv 849,iv 0,.ref 844,iv 854,iv 0,.ref 851,iv 857,iv 0,.ref 858,iv 878,iv 0,.ref 865,iv 887,iv 0,.ref 872,iv 1144,iv 0,.ref 968,iv 1153,iv 0,.ref 975,iv 1158,iv 0,.ref 983,iv 1166,iv 0,.ref 990,iv 1176,iv 0,.ref 997,iv 1181,iv 0,.ref 1004,iv 1183,iv 0,.ref 1011,iv 1185,iv 0,.ref 1016,iv 1189,iv 0,.ref 1021]) (.node (oT []) (.node (oT []) (.node (oT []) (lf (oT [])) (lf (oN []))) (.node (oT [sv "self" 911]) (lf (oF "newlines" "StringIO.newlines" [15,8] .none .none (sv "io" 752) 642)) (lf (oN [])))) (.node (oP "set_seq1" "SequenceMatcher.set_seq1" [5,3]) (.node (oo (.type "builtin_function_or_method") none (.fields [.builtin "object.__init_subclass__", .ref 318].toArray)) (lf o46) (lf (oT []))) (.node (oT []) (lf (oP "isatty" "StringIO.isatty" [15,17])) (lf (oT []))))) (.node (oT []) (.node (oN []) (.node (oD [eS P "__module__" 777 (sv "io" 782),eS P "__qualname__" 779 (sv "UnsupportedOperation" 778),eS P "__firstlineno__" 781 (iv 434 780),eS P "__static_attributes__" 784 (.ref 296)] 4) (lf (oT [sv "self" 1086,sv "line" 1087])) (lf (oP "write" "StringIO.write" [15,30]))) (.node (oF "writable" "BytesIO.writable" [14,9] .none .none (sv "io" 752) 418) (lf (oT [])) (lf aVy))) (.node (oT []) (.node wI (lf (oP "__check_dot" "StringIO.__check_dot" [15,4])) (lf (oT []))) (.node (oF "seek" "BytesIO.seek" [14,18] (.ref 476) .none (sv "io" 752) 482) (lf (oN [])) (lf (oT [])))))
noncomputable def bT4:BT:=.node (⟨(.type "frame"),none,.plain,[some (.ref 50),some (.ref 3),some (.ref 47),none,some (sv "cpy313.difflib" 331),none,some (.ref 0)].toArray⟩) (.node (⟨(.type "type"),none,(.cls ⟨(S "_tuplegetter"),[.type "object"],[.ref 83,.type "object"],82,(S "_tuplegetter"),true,[],[],false,none,false⟩),[none,none,some (sv "_tuplegetter" 333),some (sv "_tuplegetter" 341),some (.builtin "object.__new__"),some (.bool true)].toArray⟩) (.node (oo (.ref 83) (some 146) .plain) (.node (oT []) (lf (oT [])) (lf (oT [sv "self" 1363]))) (.node (oP "__exit__" "BytesIO.__exit__" [14,7]) (lf (oF "errors" "StringIO.errors" [15,10] .none .none (sv "io" 752) 658)) (lf (oT [])))) (.node aPt (.node (oT []) (lf (oT [sv "self" 1150,sv "s" 1151,sv "newline" 1152])) (lf (oC "isabs" "isabs" 1439 854 1 0 0 3 846 1443))) (.node (oC "getbuffer" "BytesIO.getbuffer" 986 515 1 0 0 3 462 990) (lf (oF "fileno" "StringIO.fileno" [15,19] .none .none (sv "io" 752) 722)) (lf (oN []))))) (.node (oD []) (.node (oT [sv "self" 546,sv "isjunk" 547,sv "a" 548,sv "b" 549,sv "autojunk" 550]) (.node (oo (.type "code") none (.fields [sv "IOBase" 794,sv "IOBase" 795,sv "/claim/cut.py" 796,iv 436,iv 0,iv 0,iv 0,iv 0,.ref 305,.bool false,iv 318,.ref 306,.none,.none,.none,.none,iv 797,iv 436,sv "/claim/cut.py" 798].toArray)) (lf (oP "writelines" "BytesIO.writelines" [14,29])) (lf (oF "__repr__" "StringIO.__repr__" [15,32] .none .none (sv "io" 752) 818))) (.node (oN []) (lf (oT [sv "self" 1257])) (lf aQi))) (.node (oN []) (.node (oN []) (lf (oF "closed" "StringIO.closed" [15,6] .none .none (sv "io" 752) 626)) (lf (oN []))) (.node (oF "read" "BytesIO.read" [14,20] (.ref 492) .none (sv "io" 752) 498) (lf (oN [])) (lf aOb))))
noncomputable def bT5 (P:Params):BT:=.node o43 (.node (oN []) (.node (oN []) (.node (oo (.type "getset_descriptor") none (.fields [sv "__weakref__" 708,.ref 265,.builtin "ExceptionGroup.__weakref__", .none].toArray)) (lf (oT [])) (lf (oN []))) (.node (oT []) (lf (oF "encoding" "StringIO.encoding" [15,9] .none .none (sv "io" 752) 650)) (lf (oT [sv "self" 1526])))) (.node aUe (.node (oT []) (lf (oN [])) (lf (oP "_check_arg_types" "_check_arg_types" [19]))) (.node (oP "getvalue" "BytesIO.getvalue" [14,15]) (lf (oC "flush" "StringIO.flush" 1275 727 1 0 0 3 710 1279)) (lf (oN []))))) (.node (oN []) (.node (oD [eS P "__module__" 533 (sv "cpy313.difflib" 331),eS P "__qualname__" 535 (sv "SequenceMatcher" 534),eS P "__firstlineno__" 537 (iv 72 536),eS P "__doc__" 539 (.str D5 538),eS P "__init__" 554 (.ref 183),eS P "set_seqs" 564 (.ref 190),eS P "set_seq1" 573 (.ref 197),eS P "set_seq2" 582 (.ref 204),eS P "_SequenceMatcher__chain_b" 600 (.ref 211),eS P "find_longest_match" 628 (.ref 219),eS P "get_matching_blocks" 655 (.ref 226),eS P "get_opcodes" 662 (.ref 233),eS P "get_grouped_opcodes" 671 (.ref 241),eS P "ratio" 680 (.ref 248),eS P "quick_ratio" 687 (.ref 255),eS P "real_quick_ratio" 694 (.ref 262),eS P "__static_attributes__" 705 (.ref 263)] 17) (.node (oo (.type "getset_descriptor") none (.fields [sv "__weakref__" 785,.ref 298,.builtin "ExceptionGroup.__weakref__", .none].toArray)) (lf (oT [])) (lf (oC "writelines" "StringIO.writelines" 1387 817 2 2 0 3 806 1392))) (.node (oT []) (lf (oN [])) (lf aWb))) (.node (oT []) (.node (oT []) (lf (oC "__line" "StringIO.__line" 1170 649 2 0 0 3 614 1182)) (lf (oT []))) (.node (oF "truncate" "BytesIO.truncate" [14,19] (.ref 484) .none (sv "io" 752) 490) (lf (oN [])) (lf (oP "_law_blocks" "_law_blocks" [34])))))
noncomputable def bT6:BT:=.node wI (.node (oo (.type "cell") none (.cell (some (.ref 158)))) (.node (oT []) (.node (oN []) (lf (oN [])) (lf (oT []))) (.node (oC "readable" "BytesIO.readable" 930 487 1 0 0 3 406 934) (lf (oF "close" "StringIO.close" [15,11] .none .none (sv "io" 752) 666)) (lf (oP "read_token" "shlex.read_token" [25,7])))) (.node aPu (.node (oo (.type "builtin_function_or_method") none (.fields [.builtin "object.__init_subclass__", .ref 345].toArray)) (lf (oT [])) (lf (oF "join" "join" [21] .none .none (sv "os.path" 1409) 858))) (.node (oF "tell" "BytesIO.tell" [14,17] .none .none (sv "io" 752) 474) (lf (oT [])) (lf (oT [sv "one" 1650,sv "two" 1651,sv "alo" 1652,sv "ahi" 1653,sv "blo" 1654,sv "bhi" 1655,sv "best" 1656,sv "i" 1657,sv "j" 1658,sv "k" 1659]))))) (.node aTq (.node (oT []) (.node aPx (lf (oC "__repr__" "BytesIO.__repr__" 1109 615 1 0 0 3 566 1113)) (lf (oT [sv "name" 1414,sv "x" 1415,sv "t" 1416]))) (.node (oT [sv "self" 968]) (lf (oT [])) (lf (oT [sv "_punctuation_chars" 1588,sv "_pushback_chars" 1589,sv "commenters" 1590,sv "debug" 1591,sv "eof" 1592,sv "escape" 1593,sv "escapedquotes" 1594,sv "filestack" 1595,sv "infile" 1596,sv "instream" 1597,sv "lineno" 1598,sv "posix" 1599,sv "pushback" 1600,sv "quotes" 1601,sv "source" 1602,sv "state" 1603,sv "token" 1604,sv "whitespace" 1605,sv "whitespace_split" 1606,sv "wordchars" 1607])))) (.node (oT [sv "self" 684]) (.node (oT [sv "self" 903]) (lf (oF "line_buffering" "StringIO.line_buffering" [15,7] .none .none (sv "io" 752) 634)) (lf (oN []))) (.node (oF "read1" "BytesIO.read1" [14,21] (.ref 500) .none (sv "io" 752) 506) (lf (oN [])) (lf (oN [])))))
noncomputable def bT7 (P:Params):BT:=.node (oo .none none (.seq [iv 11,.str (Str.mk ⟨[6,247,8,95,95,110,97,109,101,95,95,6,246,4,95,115,114,101,6,248,7,95,95,100,111,99,95,95,0,6,250,11,95,95,112,97,99,107,97,103,101,95,95,6,249,0,6,251,10,95,95,108,111,97,100,101,114,95,95,4,0,0,14,6,252,8,95,95,115,112,101,99,95,95,4,0,0,26,6,253,7,99,111,109,112,105,108,101,9,12,95,115,114,101,46,99,111,109,112,105,108,101,6,254,8,116,101,109,112,108,97,116,101,9,13,95,115,114,101,46,116,101,109,112,108,97,116,101,6,255,11,103,101,116,99,111,100,101,115,105,122,101,9,16,95,115,114,101,46,103,101,116,99,111,100,101,115,105,122,101,6,256,13,97,115,99,105,105,95,105,115,99,97,115,101,100,9,18,95,115,114,101,46,97,115,99,105,105,95,105,115,99,97,115,101,100,6,257,15,117,110,105,99,111,100,101,95,105,115,99,97,115,101,100,9,20,95,115,114,101,46,117,110,105,99,111,100,101,95,105,115,99,97,115,101,100,6,258,13,97,115,99,105,105,95,116,111,108,111,119,101,114,9,18,95,115,114,101,46,97,115,99,105,105,95,116,111,108,111,119,101,114,6,259,15,117,110,105,99,111,100,101,95,116,111,108,111,119,101,114,9,20,95,115,114,101,46,117,110,105,99,111,100,101,95,116,111,108,111,119,101,114,6,261,5,77,65,71,73,67,4,260,0,20230612,6,263,8,67,79,68,69,83,73,90,69,4,262,0,4,6,265,9,77,65,88,82,69,80,69,65,84,4,264,0,4294967295,6,267,9,77,65,88,71,82,79,85,80,83,4,266,0,1073741823,6,269,9,99,111,112,121,114,105,103,104,116,6,268,53,32,83,82,69,32,50,46,50,46,50,32,67,111,112,121,114,105,103,104,116,32,40,99,41,32,49,57,57,55,45,50,48,48,50,32,98,121,32,83,101,99,114,101,116,32,76,97,98,115,32,65,66,32]⟩) 0,.bool true,.bool false,sv "_sre" 271,iv 29,sv "\x06Ĩ\x08__name__\x06ħ\x0c_collections\x06ĩ\x07__doc__\t\x1f_collections.__doc__:str#opaque\x06ī\x0b__package__\x06Ī\x00\x06Ĭ\n__loader__\x04\x00\x00\x0e\x06ĭ\x08__spec__\x04\x00\x00!\x06Į\x0f_count_elements\t\x1c_collections._count_elements\x06į\x05deque\x08\x11collections.deque\x06İ\x0bdefaultdict\x08\x17collections.defaultdict\x06ı\x0f_deque_iterator\x08\x1bcollections._deque_iterator\x06Ĳ\x17_deque_reverse_iterator\x08#collections._deque_reverse_iterator\x06ĳ\x0c_tuplegetter\x08\x18collections._tuplegetter\x06Ĵ\x0bOrderedDict\x08\x17collections.OrderedDict" 0,.bool true,.bool false,sv "_collections" 310].toArray 1)) (bT5 P) bT6
noncomputable def bT8 (P:Params):BT:=.node (o3 P) (.node (oT []) (.node (oT []) (.node o19 (.node (oT []) (.node (oT []) (.node aUr (lf (oT [])) (lf aVk)) (.node (oF "closed" "BytesIO.closed" [14,4] .none .none (sv "io" 752) 382) (lf (oT [sv "self" 1204])) (lf aVq))) (.node (oT []) (.node aVa (lf aPy) (lf (oF "_kind" "_kind" [17] .none .none (sv "os.path" 1409) 830))) (.node (oF "fileno" "BytesIO.fileno" [14,13] .none .none (sv "io" 752) 446) (lf (oT [])) (lf (oo (.type "getset_descriptor") none (.fields [sv "__weakref__" 1611,.ref 957,.builtin "ExceptionGroup.__weakref__", .none].toArray)))))) (.node (⟨(.type "frame"),none,.plain,[some (.ref 94),some (.ref 3),some (.ref 90),none,some (sv "cpy313.difflib" 331),none,some (.ref 0)].toArray⟩) (.node aTz (.node aUw (lf (oC "__iter__" "BytesIO.__iter__" 1076 586 1 0 0 3 538 1080)) (lf (oT []))) (.node (oT [sv "self" 940]) (lf (oT [])) (lf (oN [])))) (.node (oT []) (.node (oT []) (lf (oT [])) (lf (oT []))) (.node (oT [sv "self" 1004,sv "pos" 1005,sv "whence" 1006]) (lf (oP "getvalue" "StringIO.getvalue" [15,21])) (lf aQo))))) (bT0 P)) (.node (oT [sv "_cached" 219,sv "_set_fileattr" 220,sv "_uninitialized_submodules" 221,sv "loader" 222,sv "loader_state" 223,sv "name" 224,sv "origin" 225,sv "submodule_search_locations" 226]) bT1 (bT2 P))) (.node (oD [eS P "__name__" 247 (sv "_sre" 246),eS P "__doc__" 248 .none,eS P "__package__" 250 (sv "" 249),eS P "__loader__" 251 (.builtin "off-the-table:_sre.__loader__:shared#opaque"),eS P "__spec__" 252 (.builtin "off-the-table:_sre.__spec__:shared#opaque"),eS P "compile" 253 (.builtin "_sre.compile"),eS P "template" 254 (.builtin "off-the-table:_sre.template:shared#opaque"),eS P "getcodesize" 255 (.builtin "off-the-table:_sre.getcodesize:shared#opaque"),eS P "ascii_iscased" 256 (.builtin "off-the-table:_sre.ascii_iscased:shared#opaque"),eS P "unicode_iscased" 257 (.builtin "off-the-table:_sre.unicode_iscased:shared#opaque"),eS P "ascii_tolower" 258 (.builtin "off-the-table:_sre.ascii_tolower:shared#opaque"),eS P "unicode_tolower" 259 (.builtin "off-the-table:_sre.unicode_tolower:shared#opaque"),eS P "MAGIC" 261 (iv 20230612 260),eS P "CODESIZE" 263 (iv 4 262),eS P "MAXREPEAT" 265 (iv 4294967295 264),eS P "MAXGROUPS" 267 (iv 1073741823 266),eS P "copyright" 269 (sv " SRE 2.2.2 Copyright (c) 1997-2002 by Secret Labs AB " 268)] 17) (.node o19 (bT3 P) bT4) (bT7 P))
noncomputable def bT9:BT:=.node (oo (.ref 22) (some 32) .plain) (.node (oC "__get__" "_tuplegetter.__get__" 354 13 3 0 0 3 60 360) (.node aTr (.node (oN []) (lf (oC "readinto" "BytesIO.readinto" 1040 559 2 2 0 3 508 1047)) (lf (oT [.int (-1) 1341]))) (.node (oT []) (lf (oP "newlines" "StringIO.newlines" [15,8])) (lf wI))) (.node (oT [sv "self" 568,sv "a" 569]) (.node (oo (.type "getset_descriptor") none (.fields [sv "__weakref__" 819,.ref 318,.builtin "ExceptionGroup.__weakref__", .none].toArray)) (lf (oo (.type "builtin_function_or_method") none (.fields [.builtin "object.__init_subclass__", .ref 575].toArray))) (lf (oN []))) (.node (oN []) (lf (oT [sv "self" 1271])) (lf (oo (.type "builtin_function_or_method") none (.fields [.builtin "object.__init_subclass__", .ref 957].toArray)))))) (.node (oT [sv "a" 406,sv "b" 407,sv "size" 408]) (.node (oo (.type "builtin_function_or_method") none (.fields [.builtin "object.__init_subclass__", .ref 158].toArray)) (.node (oT [.type "OSError", .type "ValueError"]) (lf (oT [])) (lf (oT [sv "self" 1378,sv "s" 1379,sv "n" 1380,sv "m" 1381,sv "start" 1382,sv "buf" 1383]))) (.node (oP "writable" "BytesIO.writable" [14,9]) (lf (oC "__enter__" "StringIO.__enter__" 1232 704 1 0 0 3 668 1236)) (lf (oT [])))) (.node aUi (.node (oo (.type "code") none (.fields [sv "BytesIO" 862,sv "BytesIO" 863,sv "/claim/cut.py" 864,iv 447,iv 0,iv 0,iv 0,iv 0,.ref 351,.bool false,iv 318,.ref 352,.none,.none,.none,.none,iv 865,iv 447,sv "/claim/cut.py" 866].toArray)) (lf (oT [sv "self" 1166])) (lf (oC "dirname" "dirname" 1458 878 1 0 0 3 860 1465))) (.node (oP "seek" "BytesIO.seek" [14,18]) (lf (oF "getvalue" "StringIO.getvalue" [15,21] .none .none (sv "io" 752) 736)) (lf (oN [])))))
noncomputable def aZn (P:Params):BT:=.node (oT []) (.node (oF "__set__" "_tuplegetter.__set__" [2,2] .none .none (sv "cpy313.difflib" 331) 72) (.node aTu (.node aUv (lf (oF "readinto1" "BytesIO.readinto1" [14,23] .none .none (sv "io" 752) 520)) (lf (oT [.int (-1) 1351]))) (.node (oN []) (lf (oP "encoding" "StringIO.encoding" [15,9])) (lf (oT [])))) (.node (oT []) (.node (oo (.type "code") none (.fields [sv "BufferedIOBase" 826,sv "BufferedIOBase" 827,sv "/claim/cut.py" 828,iv 443,iv 0,iv 0,iv 0,iv 0,.ref 327,.bool false,iv 318,.ref 328,.none,.none,.none,.none,iv 829,iv 443,sv "/claim/cut.py" 830].toArray)) (lf aVf) (lf (oT [sv "funcname" 1432,sv "args" 1433,sv "s" 1434,sv "k" 1435]))) (.node (oT [sv "self" 982]) (lf (oT [])) (lf aQk)))) (.node aPn (.node (oT []) (.node (oD [eS P "__module__" 777 (sv "io" 782),eS P "__firstlineno__" 781 (iv 434 780),eS P "__static_attributes__" 784 (.ref 296),eS P "__weakref__" 786 (.ref 299),eS P "__doc__" 787 .none] 3) (lf (oN [])) (lf (oT []))) (.node (oC "seekable" "BytesIO.seekable" 944 495 1 0 0 3 420 948) (lf (oF "__exit__" "StringIO.__exit__" [15,13] .none .none (sv "io" 752) 680)) (lf (oT [])))) (.node aUk (.node (oC "__init__" "BytesIO.__init__" 874 450 2 0 0 3 356 879) (lf (oT [])) (lf (⟨(.type "frame"),none,.plain,[some (.ref 872),some (.ref 3),some (.ref 869),none,some (sv "cpy313.shlex" 1468),none,some (.ref 0)].toArray⟩))) (.node (oP "truncate" "BytesIO.truncate" [14,19]) (lf (oT [iv 0 1310])) (lf (oT [sv "one" 1681,sv "two" 1682])))))
noncomputable def aZo (P:Params):BT:=.node (oo (.type "code") none (.fields [sv "<module>" 176,sv "<module>" 177,sv "/claim/cut.py" 178,iv 1,iv 0,iv 0,iv 0,iv 0,.ref 7,.bool false,iv 175,.ref 8,.none,.none,.none,.none,iv 179,iv 1,sv "/claim/cut.py" 180].toArray)) (.node (oo (.type "getset_descriptor") none (.fields [sv "__weakref__" 203,.ref 14,.builtin "ExceptionGroup.__weakref__", .none].toArray)) bT9 (.node (oN [iv 9,iv 4,.ref 57,iv 13,iv 4,.ref 65,iv 20,iv 4,.ref 72,iv 23,iv 4,.ref 79]) (.node (oT [sv "__doc__" 380,sv "index" 381]) (.node (oT [sv "a" 479,sv "b" 480,sv "size" 481]) (.node aLt (lf (oF "readline" "BytesIO.readline" [14,24] (.ref 522) .none (sv "io" 752) 528)) (lf (oT []))) (.node (oT [sv "self" 925,sv "args" 926]) (lf (oP "errors" "StringIO.errors" [15,10])) (lf (oN [])))) (.node (oP "__chain_b" "SequenceMatcher.__chain_b" [5,5]) (.node o46 (lf (oT [])) (lf (oT []))) (.node (oT []) (lf (oP "fileno" "StringIO.fileno" [15,19])) (lf aQm)))) (.node (oD [eS P "__module__" 432 (sv "cpy313.difflib" 331),eS P "__name__" 435 (sv "_make" 434),eS P "__qualname__" 438 (sv "Match._make" 437),eS P "__doc__" 440 (.str (bR [3,5]) 430),eS P "__annotations__" 442 (.ref 115)] 5) (.node (oT []) (.node (oT []) (lf (oT [sv "self" 1104,sv "lines" 1105])) (lf (oP "__repr__" "StringIO.__repr__" [15,32]))) (.node (oF "isatty" "BytesIO.isatty" [14,11] .none .none (sv "io" 752) 432) (lf (oT [])) (lf (oP "__iter__" "shlex.__iter__" [25,10])))) (.node aUn (.node (oF "__check" "BytesIO.__check" [14,2] .none .none (sv "io" 752) 368) (lf (oP "closed" "StringIO.closed" [15,6])) (lf aQe)) (.node (oP "read" "BytesIO.read" [14,20]) (lf wI) (lf (oT []))))))) (.node (oo (.type "getset_descriptor") none (.fields [sv "__weakref__" 239,.ref 22,.builtin "ExceptionGroup.__weakref__", .none].toArray)) (aZn P) (.node (oC "__init__" "_tuplegetter.__init__" 345 9 3 0 0 3 52 351) (.node o46 (.node (oo (.ref 83) (some 152) .plain) (.node (oF "_whence" "_whence" [8] .none .none (sv "io" 752) 280) (lf (oF "readlines" "BytesIO.readlines" [14,25] (.ref 530) .none (sv "io" 752) 536)) (lf (oN []))) (.node (oT []) (lf (oP "close" "StringIO.close" [15,11])) (lf (oT [sv "self" 1547,sv "quoted" 1548,sv "escapedstate" 1549,sv "nextchar" 1550,sv "result" 1551])))) (.node (oP "find_longest_match" "SequenceMatcher.find_longest_match" [5,6]) (.node aVd (lf (oN [])) (lf (oP "join" "join" [21]))) (.node (oP "tell" "BytesIO.tell" [14,17]) (lf (oC "detach" "StringIO.detach" 1289 733 1 0 0 3 724 1293)) (lf (oT []))))) (.node (oP "_replace" "Match._replace" [3,6]) (.node (oN []) (.node (oP "__new__" "IOBase.__new__" [11,1]) (lf (oT [])) (lf (oT []))) (.node (oT []) (lf (oN [])) (lf aWe))) (.node (oT []) (.node (oT []) (lf (oP "line_buffering" "StringIO.line_buffering" [15,7])) (lf aVp)) (.node (oP "read1" "BytesIO.read1" [14,21]) (lf aVj) (lf aGy))))))
noncomputable def aZp (P:Params):BT:=.node (⟨(.type "frame"),none,.plain,[some (.ref 36),some (.ref 3),some (.ref 3),none,some (sv "__main__" 164),none,some (.ref 0)].toArray⟩) (.node (oT [sv "self" 366,sv "obj" 367,sv "value" 368]) (.node (oT [sv "self" 467]) (.node aUs (lf (oT [sv "self" 1053,sv "buffer" 1054])) (lf (oT []))) (.node (oP "close" "BytesIO.close" [14,5]) (lf (oT [])) (lf (oT [])))) (.node aPr (.node o46 (lf (oT [])) (lf (oC "_fspath" "_fspath" 1420 844 2 0 0 3 832 1426))) (.node (oC "detach" "BytesIO.detach" 972 509 1 0 0 3 448 976) (lf (oF "isatty" "StringIO.isatty" [15,17] .none .none (sv "io" 752) 708)) (lf (oT [sv "s" 1618,sv "comments" 1619,sv "posix" 1620,sv "lex" 1621]))))) (.node (oT [sv "_cls" 414,sv "a" 415,sv "b" 416,sv "size" 417]) (.node (oT []) (.node (oN []) (lf (oP "__next__" "BytesIO.__next__" [14,27])) (lf (oF "write" "StringIO.write" [15,30] .none .none (sv "io" 752) 804))) (.node (oN []) (lf (oT [sv "self" 1242,sv "args" 1243])) (lf aWa))) (.node (oT [sv "self" 659]) (.node (oN []) (lf (oF "__check_dot" "StringIO.__check_dot" [15,4] .none .none (sv "io" 752) 612)) (lf (oD [eS P "__module__" 1477 (sv "cpy313.shlex" 1468),eS P "__qualname__" 1479 (sv "shlex" 1478),eS P "__firstlineno__" 1481 (iv 887 1480),eS P "__doc__" 1483 (.str (bR [25]) 1482),eS P "__init__" 1496 (.ref 881),eS P "punctuation_chars" 1504 (.ref 889),eS P "push_token" 1512 (.ref 896),eS P "push_source" 1522 (.ref 904),eS P "pop_source" 1530 (.ref 911),eS P "get_token" 1543 (.ref 918),eS P "read_token" 1554 (.ref 925),eS P "sourcehook" 1563 (.ref 932),eS P "error_leader" 1572 (.ref 940),eS P "__iter__" 1579 (.ref 947),eS P "__next__" 1587 (.ref 954),eS P "__static_attributes__" 1608 (.ref 955)] 16))) (.node (oT []) (lf (oT [])) (lf aWl))))
noncomputable def aZq (P:Params):BT:=.node (oD [eS P "__module__" 227 (sv "_frozen_importlib" 217),eS P "__firstlineno__" 228 (iv 562 218),eS P "__doc__" 229 (.builtin "_frozen_importlib.ModuleSpec.__doc__:str#opaque"),eS P "__init__" 230 (.builtin "_frozen_importlib.ModuleSpec.__init__#opaque"),eS P "__repr__" 231 (.builtin "_frozen_importlib.ModuleSpec.__repr__#opaque"),eS P "__eq__" 232 (.builtin "_frozen_importlib.ModuleSpec.__eq__#opaque"),eS P "cached" 233 (.builtin "_frozen_importlib.ModuleSpec.cached#opaque"),eS P "parent" 234 (.builtin "_frozen_importlib.ModuleSpec.parent#opaque"),eS P "has_location" 235 (.builtin "_frozen_importlib.ModuleSpec.has_location#opaque"),eS P "__static_attributes__" 236 (.ref 23),eS P "__dict__" 238 (.ref 24),eS P "__weakref__" 240 (.ref 25),eS P "__hash__" 241 .none] 13) (aZp P) (.node (oN []) (.node (oo (.type "getset_descriptor") none (.fields [sv "__weakref__" 385,.ref 83,.builtin "ExceptionGroup.__weakref__", .none].toArray)) (.node (oD [eS P "index" 499 (iv 1 493),eS P "__doc__" 501 (sv "Alias for field number 1" 494)] 2) (.node (oT [sv "n" 757,sv "what" 758]) (lf (oT [sv "self" 1071,sv "size" 1072])) (lf (oP "__iter__" "StringIO.__iter__" [15,28]))) (.node (oF "__exit__" "BytesIO.__exit__" [14,7] .none .none (sv "io" 752) 404) (lf (oT [])) (lf aVw))) (.node (oT []) (.node (oo (.type "code") none (.fields [sv "TextIOBase" 844,sv "TextIOBase" 845,sv "/claim/cut.py" 846,iv 445,iv 0,iv 0,iv 0,iv 0,.ref 339,.bool false,iv 318,.ref 340,.none,.none,.none,.none,iv 847,iv 445,sv "/claim/cut.py" 848].toArray)) (lf (oP "__translated" "StringIO.__translated" [15,2])) (lf (oT []))) (.node (oT []) (lf (oN [])) (lf (oT []))))) (.node (oT [sv "__class__" 447]) (.node (oP "__init__" "SequenceMatcher.__init__" [5,1]) (.node (oT []) (lf (oF "writelines" "BytesIO.writelines" [14,29] .none .none (sv "io" 752) 564)) (lf (aVl P))) (.node (oT []) (lf (oP "writable" "StringIO.writable" [15,15])) (lf (oN [])))) (.node (oT []) (.node (oT []) (lf (oT [])) (lf (oT []))) (.node (oT []) (lf (oT [])) (lf (oT []))))))
noncomputable def aZr:BT:=.node (oT []) (.node (oT []) (.node (oT []) (.node (oo (.type "builtin_function_or_method") none (.fields [.builtin "object.__init_subclass__", .ref 265].toArray)) (lf (oT [sv "self" 1063,sv "size" 1064])) (lf (oT []))) (.node (oC "__enter__" "BytesIO.__enter__" 915 480 1 0 0 3 392 919) (lf (oT [])) (lf (oP "pop_source" "shlex.pop_source" [25,5])))) (.node (oT []) (.node (⟨(.type "type"),none,(.cls ⟨(S "BufferedIOBase"),[.ref 318],[.ref 333,.ref 318,.type "object"],332,(S "BufferedIOBase"),true,[],[.ref 575],false,none,false⟩),[some (.ref 324),none,some (sv "BufferedIOBase" 824),some (sv "BufferedIOBase" 832),some .none,some (.bool true)].toArray⟩) (lf (oT [])) (lf (oF "_check_arg_types" "_check_arg_types" [19] .none .none (sv "os.path" 1409) 844))) (.node (oF "getvalue" "BytesIO.getvalue" [14,15] .none .none (sv "io" 752) 460) (lf (oT [])) (lf (oT []))))) (.node (oT []) (.node (oN [iv 147,iv 4,.ref 182,iv 175,iv 4,.ref 189,iv 186,iv 4,.ref 196,iv 211,iv 4,.ref 203,iv 238,iv 4,.ref 210,iv 262,iv 4,.ref 218,iv 337,iv 4,.ref 225,iv 385,iv 4,.ref 232,iv 388,iv 4,.ref 240,iv 391,iv 4,.ref 247,iv 415,iv 4,.ref 254,iv 418,iv 4,.ref 261]) (.node (oo (.type "builtin_function_or_method") none (.fields [.builtin "object.__init_subclass__", .ref 298].toArray)) (lf (oC "write" "BytesIO.write" 1091 596 2 2 0 3 552 1098)) (lf (oT []))) (.node (oT [sv "self" 954]) (lf (oT [])) (lf (oT [])))) (.node (oT [sv "self" 667,sv "n" 668]) (.node (oT [sv "self" 885]) (lf (oT [])) (lf (oT [sv "self" 1488,sv "instream" 1489,sv "infile" 1490,sv "posix" 1491,sv "punctuation_chars" 1492,sv "t" 1493]))) (.node (oT []) (lf (oT [])) (lf aGw))))
noncomputable def aZs (P:Params):BT:=.node (oD [eS P "__name__" 296 (sv "_collections" 295),eS P "__doc__" 297 (.builtin "off-the-table:_collections.__doc__:shared#opaque"),eS P "__package__" 299 (sv "" 298),eS P "__loader__" 300 (.builtin "off-the-table:_collections.__loader__:shared#opaque"),eS P "__spec__" 301 (.builtin "off-the-table:_collections.__spec__:shared#opaque"),eS P "_count_elements" 302 (.builtin "_collections._count_elements"),eS P "deque" 303 (.type "collections.deque"),eS P "defaultdict" 304 (.type "collections.defaultdict"),eS P "_deque_iterator" 305 (.builtin "off-the-table:_collections._deque_iterator:shared#opaque"),eS P "_deque_reverse_iterator" 306 (.builtin "off-the-table:_collections._deque_reverse_iterator:shared#opaque"),eS P "_tuplegetter" 307 (.type "collections._tuplegetter"),eS P "OrderedDict" 308 (.type "collections.OrderedDict")] 12) aZr (.node (oN []) (.node (oN [iv 31,iv 4,.ref 104,iv 36,iv 4,.ref 111,iv 43,iv 4,.ref 122,iv 54,iv 4,.ref 129,iv 58,iv 4,.ref 136,iv 61,iv 4,.ref 143]) (.node (aTx P) (.node (oT []) (lf (oT [])) (lf (oC "__next__" "StringIO.__next__" 1367 791 1 0 0 3 792 1372))) (.node (oT []) (lf (oN [])) (lf aQh))) (.node (oN []) (.node o46 (lf aVi) (lf (oN []))) (.node (oT []) (lf (oT [sv "self" 1299])) (lf (oP "_law_run" "_law_run" [32]))))) (.node (oN []) (.node aUc (.node (aUy P) (lf (oT [sv "__buf" 1116,sv "__pos" 1117])) (lf (oP "_kind" "_kind" [17]))) (.node (oP "fileno" "BytesIO.fileno" [14,13]) (lf (oC "seekable" "StringIO.seekable" 1261 719 1 0 0 3 696 1265)) (lf aWg))) (.node (oP "quick_ratio" "SequenceMatcher.quick_ratio" [5,11]) (.node (oP "closed" "BytesIO.closed" [14,4]) (lf (oT [])) (lf (oT []))) (.node (oN []) (lf (oT [])) (lf aOd)))))
noncomputable def aZt (P:Params):BT:=.node (oD [eS P "name" 283 (sv "_collections" 282),eS P "loader" 284 (.ref 14),eS P "origin" 285 (sv "built-in" 281),eS P "loader_state" 286 .none,eS P "submodule_search_locations" 287 .none,eS P "_uninitialized_submodules" 288 (.ref 31),eS P "_set_fileattr" 289 (.bool false),eS P "_cached" 290 .none,eS P "_initializing" 291 (.bool false)] 9) (.node (oP "__get__" "_tuplegetter.__get__" [2,1]) (.node (oP "__repr__" "Match.__repr__" [3,8]) (.node (oT []) (lf (oP "readinto" "BytesIO.readinto" [14,22])) (lf aQc)) (.node (oo (.type "property") none (.fields [.ref 383,.none,.none,.none,sv "closed" 907,.bool false].toArray)) (lf (oT [])) (lf aVr))) (.node (oN []) (.node (oo (.type "getset_descriptor") none (.fields [sv "__dict__" 817,.ref 318,.builtin "function.__dict__", .builtin "function.__dict__#set"].toArray)) (lf (oo (.type "super") none (.fields [.ref 575,.ref 575,.ref 575].toArray))) (lf (oT []))) (.node (oT []) (lf (oN [])) (lf (oo (.type "super") none (.fields [.ref 957,.ref 957,.ref 957].toArray)))))) (.node (oT []) (.node (oo (.type "super") none (.fields [.ref 158,.ref 158,.ref 158].toArray)) (.node aPw (lf (oF "__iter__" "BytesIO.__iter__" [14,26] .none .none (sv "io" 752) 543)) (lf (oN []))) (.node (oT []) (lf (oP "__enter__" "StringIO.__enter__" [15,12])) (lf (oT [sv "self" 1558,sv "newfile" 1559])))) (.node (oP "get_matching_blocks" "SequenceMatcher.get_matching_blocks" [5,7]) (.node (oN [iv 450,iv 4,.ref 361,iv 456,iv 4,.ref 368,iv 460,iv 4,.ref 375,iv 474,iv 4,.ref 382,iv 477,iv 4,.ref 390,iv 480,iv 4,.ref 397,iv 484,iv 4,.ref 404,iv 487,iv 4,.ref 411,iv 491,iv 4,.ref 418,iv 495,iv 4,.ref 425,iv 499,iv 4,.ref 432,iv 503,iv 4,.ref 439,iv 506,iv 4,.ref 446,iv 509,iv 4,.ref 453,iv 512,iv 4,.ref 460,iv 515,iv 4,.ref 467,iv 518,iv 4,.ref 474,iv 522,iv 4,.ref 482,iv 539,iv 4,.ref 490,iv 542,iv 4,.ref 498,iv 556,iv 4,.ref 506,iv 559,iv 4,.ref 513,iv 573,iv 4,.ref 520,iv 576,iv 4,.ref 528,iv 583,iv 4,.ref 536,iv 586,iv 4,.ref 543,iv 589,iv 4,.ref 550,iv 596,iv 4,.ref 557,iv 612,iv 4,.ref 564,iv 615,iv 4,.ref 571]) (lf (oN [])) (lf (oP "dirname" "dirname" [23]))) (.node (oT []) (lf (oC "getvalue" "StringIO.getvalue" 1296 736 1 0 0 3 731 1300)) (lf (oT [])))))
noncomputable def aZu (P:Params):BT:=.node (oT [sv "k" 327]) (.node (oC "__set__" "_tuplegetter.__set__" 363 20 3 0 0 3 67 369) (.node aTt (.node (aUu P) (lf (oC "readinto1" "BytesIO.readinto1" 1050 573 2 2 0 3 515 1055)) (lf (oF "readline" "StringIO.readline" [15,26] (.ref 769) .none (sv "io" 752) 775))) (.node (oT []) (lf (oT [])) (lf aVt))) (.node (oT [sv "self" 577,sv "b" 578]) (.node (oN []) (lf (⟨(.type "frame"),none,.plain,[some (.ref 583),some (.ref 3),some (.ref 580),none,some (sv "io" 752),none,some (.ref 0)].toArray⟩)) (lf (oN []))) (.node (oN []) (lf (oT [sv "self" 1278])) (lf aWi)))) (.node aTm (.node (oF "_calculate_ratio" "_calculate_ratio" [4] .none .none (sv "cpy313.difflib" 331) 167) (.node (oT []) (lf (oT [])) (lf (oT [sv "self" 1390,sv "lines" 1391]))) (.node (oP "seekable" "BytesIO.seekable" [14,10]) (lf (oC "__exit__" "StringIO.__exit__" 1239 708 1 0 0 7 675 1244)) (lf (oT [sv "self" 1567,sv "infile" 1568,sv "lineno" 1569])))) (.node aUj (.node (oP "__init__" "BytesIO.__init__" [14,1]) (lf (oT [sv "self" 1173,sv "limit" 1174,sv "start" 1175,sv "stop" 1176,sv "cut" 1177,sv "newline" 1178,sv "i" 1179,sv "j" 1180,sv "end" 1181])) (lf (oo (.type "code") none (.fields [sv "shlex" 1472,sv "shlex" 1473,sv "/claim/cut.py" 1474,iv 887,iv 0,iv 0,iv 0,iv 0,.ref 870,.bool false,iv 318,.ref 871,.none,.none,.none,.none,iv 1475,iv 887,sv "/claim/cut.py" 1476].toArray)))) (.node (oT []) (lf (oF "tell" "StringIO.tell" [15,22] .none .none (sv "io" 752) 743)) (lf (oN [])))))
noncomputable def aZv (P:Params):BT:=.node (oN []) (.node (oo (.type "getset_descriptor") none (.fields [sv "__dict__" 201,.ref 14,.builtin "function.__dict__", .builtin "function.__dict__#set"].toArray)) (aZt P) (.node (oT []) (.node (oF "__delete__" "_tuplegetter.__delete__" [2,3] .none .none (sv "cpy313.difflib" 331) 79) (.node aTw (.node wI (lf (oC "readline" "BytesIO.readline" 1060 576 2 2 0 3 523 1065)) (lf (oF "readlines" "StringIO.readlines" [15,27] (.ref 777) .none (sv "io" 752) 783))) (.node (oN []) (lf (oT [])) (lf (oT [])))) (.node (oT []) (.node aVb (lf aPz) (lf (oT [sv "s" 1442]))) (.node (oT [sv "self" 989]) (lf (oT [])) (lf aQl)))) (.node aPo (.node aUa (.node (oD [eS P "__module__" 799 (sv "io" 804),eS P "__qualname__" 801 (sv "IOBase" 800),eS P "__firstlineno__" 803 (iv 436 802),eS P "__new__" 814 (.ref 315),eS P "__static_attributes__" 815 (.ref 316)] 5) (lf (oN [])) (lf (oT []))) (.node (oC "isatty" "BytesIO.isatty" 951 499 1 0 0 3 427 955) (lf (oF "readable" "StringIO.readable" [15,14] .none .none (sv "io" 752) 687)) (lf (oT [])))) (.node aUm (.node (oC "__check" "BytesIO.__check" 882 456 1 0 0 3 363 886) (lf (oT [])) (lf aVn)) (.node (oT []) (lf (oF "seek" "StringIO.seek" [15,23] (.ref 745) .none (sv "io" 752) 751)) (lf (oT [sv "number" 1689]))))))) (.node (oo (.type "getset_descriptor") none (.fields [sv "__dict__" 237,.ref 22,.builtin "function.__dict__", .builtin "function.__dict__#set"].toArray)) (aZu P) (.node (oP "__init__" "_tuplegetter.__init__" [2,0]) (.node (oT [.type "tuple"]) (.node (oD [eS P "index" 509 (iv 2 503),eS P "__doc__" 511 (sv "Alias for field number 2" 504)] 2) (.node (oC "_whence" "_whence" 754 422 2 0 0 3 275 759) (lf (oC "readlines" "BytesIO.readlines" 1068 583 2 2 0 3 531 1073)) (lf (oT []))) (.node (oT [sv "self" 933]) (lf (oT [])) (lf (oN [])))) (.node (oT []) (.node (aVc P) (lf (oT [])) (lf (oT []))) (.node (oT []) (lf (oP "detach" "StringIO.detach" [15,20])) (lf aQn)))) (.node (oT []) (.node (oT []) (.node (oT []) (lf (oT [sv "self" 1112])) (lf (oo (.type "builtin_function_or_method") none (.fields [.builtin "object.__init_subclass__", .ref 822].toArray)))) (.node (oF "flush" "BytesIO.flush" [14,12] .none .none (sv "io" 752) 439) (lf (oT [])) (lf (oP "__next__" "shlex.__next__" [25,11])))) (.node aUp (.node (oF "__line" "BytesIO.__line" [14,3] .none .none (sv "io" 752) 375) (lf (oT [])) (lf aQf)) (.node (oT []) (lf (oF "truncate" "StringIO.truncate" [15,24] (.ref 753) .none (sv "io" 752) 759)) (lf aOc))))))
noncomputable def aZw (P:Params):BT:=.node aUd (.node aVb (lf (oD [eS P "__module__" 1129 (sv "_io" 1134),eS P "__qualname__" 1131 (sv "StringIO" 1130),eS P "__firstlineno__" 1133 (iv 617 1132),eS P "__init__" 1146 (.ref 592),eS P "_StringIO__translated" 1155 (.ref 599),eS P "_StringIO__check" 1162 (.ref 606),eS P "_StringIO__check_dot" 1169 (.ref 613),eS P "_StringIO__line" 1184 (.ref 620),eS P "closed" 1192 (.ref 628),eS P "line_buffering" 1200 (.ref 636),eS P "newlines" 1208 (.ref 644),eS P "encoding" 1216 (.ref 652),eS P "errors" 1224 (.ref 660),eS P "close" 1231 (.ref 667),eS P "__enter__" 1238 (.ref 674),eS P "__exit__" 1246 (.ref 681),eS P "readable" 1253 (.ref 688),eS P "writable" 1260 (.ref 695),eS P "seekable" 1267 (.ref 702),eS P "isatty" 1274 (.ref 709),eS P "flush" 1281 (.ref 716),eS P "fileno" 1288 (.ref 723),eS P "detach" 1295 (.ref 730),eS P "getvalue" 1302 (.ref 737),eS P "tell" 1309 (.ref 744),eS P "seek" 1319 (.ref 752),eS P "truncate" 1327 (.ref 760),eS P "read" 1339 (.ref 768),eS P "readline" 1349 (.ref 776),eS P "readlines" 1359 (.ref 784),eS P "__iter__" 1366 (.ref 791),eS P "__next__" 1374 (.ref 798),eS P "write" 1386 (.ref 805),eS P "writelines" 1394 (.ref 812),eS P "__repr__" 1401 (.ref 819),eS P "__static_attributes__" 1405 (.ref 820)] 36)) (lf (oP "_fspath" "_fspath" [18]))) (.node (oP "detach" "BytesIO.detach" [14,14]) (lf (oC "isatty" "StringIO.isatty" 1268 723 1 0 0 3 703 1272)) (lf (oN [])))
noncomputable def aZx (P:Params):BT:=.node (oT []) (.node (oo (.type "getset_descriptor") none (.fields [sv "__dict__" 383,.ref 83,.builtin "function.__dict__", .builtin "function.__dict__#set"].toArray)) (.node (oo (.type "frame") none (.dict [eS P "self" 485 (.ref 147),eS P "index" 486 (iv 0 483),eS P "doc" 487 (sv "Alias for field number 0" 484)].toArray 3)) (.node (oN []) (lf (oN [])) (lf (oT []))) (.node (oC "__exit__" "BytesIO.__exit__" 922 484 1 0 0 7 399 927) (lf (oo (.type "property") none (.fields [.ref 659,.none,.none,.none,sv "errors" 1224,.bool false].toArray))) (lf (oP "get_token" "shlex.get_token" [25,6])))) (.node aUg (.node (oN []) (lf (oT [])) (lf (oF "isabs" "isabs" [20] .none .none (sv "os.path" 1409) 851))) (.node (oF "getbuffer" "BytesIO.getbuffer" [14,16] .none .none (sv "io" 752) 467) (lf (oT [])) (lf (oT [sv "s" 1640]))))) (.node (oT [.ref 91]) (.node (oT []) (.node (⟨(.type "frame"),none,.plain,[some (.ref 307),some (.ref 3),some (.ref 304),none,some (sv "io" 752),none,some (.ref 0)].toArray⟩) (lf (oC "writelines" "BytesIO.writelines" 1101 612 2 2 0 3 559 1106)) (lf (oT [sv "__buf" 1402,sv "__newline" 1403,sv "__pos" 1404]))) (.node (oT [sv "self" 961]) (lf (oT [])) (lf (oT [])))) (.node (oT [sv "self" 675,sv "matches" 676]) (.node (oT [sv "self" 892,sv "limit" 893,sv "start" 894,sv "stop" 895,sv "i" 896]) (lf (oo (.type "property") none (.fields [.ref 627,.none,.none,.none,sv "closed" 1192,.bool false].toArray))) (lf (oT [sv "self" 1500]))) (.node (oT [.int (-1) 1031]) (lf (oT [sv "self" 1323,sv "pos" 1324])) (lf aGx))))
noncomputable def aZy (P:Params):BT:=.node (oT [sv "deque" 277]) (.node o44 (.node (oT [sv "self" 375,sv "obj" 376]) (.node (oT [sv "self" 474]) (.node (oo (.type "super") none (.fields [.ref 265,.ref 265,.ref 265].toArray)) (lf (oN [])) (lf (oT [sv "self" 1355,sv "hint" 1356]))) (.node (oP "__enter__" "BytesIO.__enter__" [14,6]) (lf (oo (.type "property") none (.fields [.ref 651,.none,.none,.none,sv "encoding" 1216,.bool false].toArray))) (lf (oT [])))) (.node aPs (.node (oD [eS P "__module__" 831 (sv "io" 836),eS P "__firstlineno__" 835 (iv 443 834),eS P "__static_attributes__" 838 (.ref 331),eS P "__doc__" 839 .none] 2) (lf (oT [sv "self" 1141,sv "initial_value" 1142,sv "newline" 1143])) (lf (oC "_check_arg_types" "_check_arg_types" 1429 849 1 0 0 7 839 1436))) (.node (oC "getvalue" "BytesIO.getvalue" 979 512 1 0 0 3 455 983) (lf (oF "flush" "StringIO.flush" [15,18] .none .none (sv "io" 752) 715)) (lf (oT [sv "split_command" 1629]))))) (.node (oT [sv "cls" 425,sv "iterable" 426,sv "result" 427]) (.node (oT []) (.node (oo (.type "super") none (.fields [.ref 298,.ref 298,.ref 298].toArray)) (lf (oP "write" "BytesIO.write" [14,28])) (lf (oF "writelines" "StringIO.writelines" [15,31] .none .none (sv "io" 752) 811))) (.node (oN []) (lf (oT [sv "self" 1250])) (lf aWc))) (.node (oN []) (.node (oN []) (lf (oF "__line" "StringIO.__line" [15,5] .none .none (sv "io" 752) 619)) (lf (oN []))) (.node (oT [.int (-1) 1019]) (lf (oT [sv "self" 1314,sv "pos" 1315,sv "whence" 1316])) (lf aOa))))) (.node (oT []) (.node (oT []) (.node o19 (.node (oT [sv "n" 765,sv "what" 766]) (lf (oT [sv "self" 1079])) (lf (oP "__next__" "StringIO.__next__" [15,29]))) (.node (oF "readable" "BytesIO.readable" [14,8] .none .none (sv "io" 752) 411) (lf (oT [])) (lf aVx))) (.node (oT []) (.node (oT [.ref 333]) (lf (oP "__check" "StringIO.__check" [15,3])) (lf (oT []))) (.node (oT [iv 0 1000]) (lf (oN [])) (lf (oT []))))) (.node (oT []) (.node (oP "set_seqs" "SequenceMatcher.set_seqs" [5,2]) (.node (oT []) (lf (oF "__repr__" "BytesIO.__repr__" [14,30] .none .none (sv "io" 752) 571)) (lf (oT []))) (.node (oT []) (lf (oP "seekable" "StringIO.seekable" [15,16])) (lf (aWf P)))) (.node (oT []) (.node (oT []) (lf (oo (.type "property") none (.fields [.ref 635,.none,.none,.none,sv "line_buffering" 1200,.bool false].toArray))) (lf (oT [sv "self" 1508,sv "tok" 1509]))) (.node (oT []) (lf (oT [sv "self" 1333,sv "size" 1334,sv "start" 1335,sv "stop" 1336])) (lf (oP "law" "law" [37]))))))
noncomputable def aZz (P:Params):BT:=.node (oo (.type "code") none (.fields [sv "_tuplegetter" 335,sv "_tuplegetter" 336,sv "/claim/cut.py" 337,iv 7,iv 0,iv 0,iv 0,iv 0,.ref 48,.bool false,iv 318,.ref 49,.none,.none,.none,.none,iv 338,iv 7,sv "/claim/cut.py" 339].toArray)) (.node (oD [eS P "__module__" 340 (sv "cpy313.difflib" 331),eS P "__firstlineno__" 344 (iv 7 343),eS P "__init__" 353 (.ref 58),eS P "__get__" 362 (.ref 66),eS P "__set__" 371 (.ref 73),eS P "__delete__" 379 (.ref 80),eS P "__static_attributes__" 382 (.ref 81),eS P "__dict__" 384 (.ref 84),eS P "__weakref__" 386 (.ref 85),eS P "__doc__" 387 .none] 4) (.node (oD [eS P "index" 489 (iv 0 483),eS P "__doc__" 491 (sv "Alias for field number 0" 484)] 2) (.node aGv (lf wI) (lf (oN []))) (.node (oT []) (lf (oC "errors" "StringIO.errors" 1217 697 1 0 0 3 653 1221)) (lf (oT [sv "self" 1534,sv "tok" 1535,sv "raw" 1536,sv "spec" 1537,sv "newfile" 1538,sv "newstream" 1539])))) (.node aUf (.node (oD [eS P "__module__" 849 (sv "io" 854),eS P "__qualname__" 851 (sv "TextIOBase" 850),eS P "__firstlineno__" 853 (iv 445 852),eS P "__static_attributes__" 856 (.ref 343)] 4) (lf (oN [])) (lf (oP "isabs" "isabs" [20]))) (.node (oP "getbuffer" "BytesIO.getbuffer" [14,16]) (lf (oC "fileno" "StringIO.fileno" 1282 730 1 0 0 3 717 1286)) (lf (oT []))))) (.node aTo (.node (oN []) (.node (oN [iv 439,iv 4,.ref 314]) (lf (oT [])) (lf (oC "__repr__" "StringIO.__repr__" 1395 820 1 0 0 3 813 1399))) (.node (oT []) (lf (oN [])) (lf aWd))) (.node (oT []) (.node (oT []) (lf (oC "closed" "StringIO.closed" 1185 681 1 0 0 3 621 1189)) (lf (oT []))) (.node (oC "read" "BytesIO.read" 1020 542 2 2 0 3 493 1027) (lf (oT [])) (lf (oP "_law_words" "_law_words" [35])))))
noncomputable def bAa (P:Params):BT:=.node (oo .none none (.seq [iv 13,sv "\x06½\n__module__\x06º\x11_frozen_importlib\x06¾\x0f__firstlineno__\x04»\x00ϋ\x06¿\x07__doc__\t4_frozen_importlib.BuiltinImporter.__doc__:str#opaque\x06À\x07_ORIGIN\x06¼\x08built-in\x06Á\tfind_spec\t2_frozen_importlib.BuiltinImporter.find_spec#opaque\x06Â\x0dcreate_module\t6_frozen_importlib.BuiltinImporter.create_module#opaque\x06Ã\x0bexec_module\t4_frozen_importlib.BuiltinImporter.exec_module#opaque\x06Ä\x08get_code\t1_frozen_importlib.BuiltinImporter.get_code#opaque\x06Å\nget_source\t3_frozen_importlib.BuiltinImporter.get_source#opaque\x06Æ\nis_package\t3_frozen_importlib.BuiltinImporter.is_package#opaque\x06Ç\x0bload_module\t4_frozen_importlib.BuiltinImporter.load_module#opaque\x06È\x15__static_attributes__\x04\x00\x00\x0f\x06Ê\x08__dict__\x04\x00\x00\x10\x06Ì\x0b__weakref__\x04\x00\x00\x11" 0,.bool true,.bool true,sv "" 205,iv 21,sv "\x06ã\n__module__\x06Ù\x11_frozen_importlib\x06ä\x0f__firstlineno__\x04Ú\x00Ȳ\x06å\x07__doc__\t/_frozen_importlib.ModuleSpec.__doc__:str#opaque\x06æ\x08__init__\t,_frozen_importlib.ModuleSpec.__init__#opaque\x06ç\x08__repr__\t,_frozen_importlib.ModuleSpec.__repr__#opaque\x06è\x06__eq__\t*_frozen_importlib.ModuleSpec.__eq__#opaque\x06é\x06cached\t*_frozen_importlib.ModuleSpec.cached#opaque\x06ê\x06parent\t*_frozen_importlib.ModuleSpec.parent#opaque\x06ë\x0chas_location\t0_frozen_importlib.ModuleSpec.has_location#opaque\x06ì\x15__static_attributes__\x04\x00\x00\x17\x06î\x08__dict__\x04\x00\x00\x18\x06ð\x0b__weakref__\x04\x00\x00\x19\x06ñ\x08__hash__\x00" 0,.bool true,.bool true,sv "" 242].toArray 1)) (.node (oT []) (.node (oF "__get__" "_tuplegetter.__get__" [2,1] (.ref 59) .none (sv "cpy313.difflib" 331) 65) (.node aTs (.node (oT [sv "self" 691]) (lf (oF "readinto" "BytesIO.readinto" [14,22] .none .none (sv "io" 752) 513)) (lf (oT []))) (.node (oN []) (lf (oC "newlines" "StringIO.newlines" 1201 689 1 0 0 3 637 1205)) (lf (oT [])))) (.node (oT []) (.node (oo (.type "super") none (.fields [.ref 318,.ref 318,.ref 318].toArray)) (lf (oT [.ref 345])) (lf (oT [sv "name" 1423,sv "x" 1424,sv "k" 1425]))) (.node (oT [sv "self" 975]) (lf (oT [])) (lf aWh)))) (.node (oD []) (.node (oT []) (.node o46 (lf (oN [])) (lf (oT []))) (.node (oC "writable" "BytesIO.writable" 937 491 1 0 0 3 413 941) (lf (oF "__enter__" "StringIO.__enter__" [15,12] .none .none (sv "io" 752) 673)) (lf (oP "sourcehook" "shlex.sourcehook" [25,8])))) (.node aPv (.node (⟨(.type "frame"),none,.plain,[some (.ref 353),some (.ref 3),some (.ref 350),none,some (sv "io" 752),none,some (.ref 0)].toArray⟩) (lf (oT [])) (lf (oF "dirname" "dirname" [23] .none .none (sv "os.path" 1409) 865))) (.node (oC "seek" "BytesIO.seek" 1001 522 3 3 0 3 477 1007) (lf (oT [])) (lf (oT [sv "one" 1666,sv "two" 1667,sv "alo" 1668,sv "ahi" 1669,sv "blo" 1670,sv "bhi" 1671,sv "i" 1672,sv "j" 1673,sv "k" 1674])))))) (aZz P)
noncomputable def bAb:BT:=.node (oP "_wall" "_wall" [0]) (.node (oT []) (.node (oT []) (.node (oo (.type "getset_descriptor") none (.fields [sv "__dict__" 706,.ref 265,.builtin "function.__dict__", .builtin "function.__dict__#set"].toArray)) (lf (oT [.int (-1) 1059])) (lf (oT []))) (.node (oT [sv "self" 918]) (lf (oC "encoding" "StringIO.encoding" 1209 693 1 0 0 3 645 1213)) (lf (oN [])))) (.node (oP "set_seq2" "SequenceMatcher.set_seq2" [5,4]) (.node (⟨(.type "frame"),none,.plain,[some (.ref 329),some (.ref 3),some (.ref 326),none,some (sv "io" 752),none,some (.ref 0)].toArray⟩) (lf (oT [])) (lf (oT []))) (.node (oT []) (lf (oP "flush" "StringIO.flush" [15,18])) (lf (oT []))))) (.node (oT []) (.node o46 (.node (⟨(.type "type"),none,(.cls ⟨(S "UnsupportedOperation"),[.type "OSError", .type "ValueError"],[.ref 298,.type "OSError", .type "ValueError", .type "Exception", .type "BaseException", .type "object"],297,(S "UnsupportedOperation"),true,[],[],false,none,false⟩),[some (.ref 289),none,some (sv "UnsupportedOperation" 770),some (sv "UnsupportedOperation" 778),some (.builtin "OSError.__new__"),some (.bool true)].toArray⟩) (lf (oT [sv "self" 1094,sv "b" 1095,sv "n" 1096,sv "start" 1097])) (lf (oP "writelines" "StringIO.writelines" [15,31]))) (.node (oF "seekable" "BytesIO.seekable" [14,10] .none .none (sv "io" 752) 425) (lf (oT [])) (lf (oP "error_leader" "shlex.error_leader" [25,9])))) (.node aUl (.node (oF "__init__" "BytesIO.__init__" [14,1] (.ref 355) .none (sv "io" 752) 361) (lf (oP "__line" "StringIO.__line" [15,5])) (lf aVm)) (.node (oC "truncate" "BytesIO.truncate" 1010 539 2 2 0 3 485 1015) (lf (oT [])) (lf (oT [])))))
noncomputable def bAc (P:Params):BT:=.node (oF "__init__" "_tuplegetter.__init__" [2,0] .none .none (sv "cpy313.difflib" 331) 57) (.node (oD [eS P "__module__" 397 (sv "cpy313.difflib" 331),eS P "__qualname__" 399 (sv "Match" 398),eS P "__firstlineno__" 401 (iv 25 400),eS P "__doc__" 403 (sv "Match(a, b, size)" 402),eS P "__slots__" 405 (.ref 96),eS P "_fields" 409 (.ref 97),eS P "_field_defaults" 410 (.ref 98),eS P "__new__" 421 (.ref 105),eS P "_make" 443 (.ref 114),eS P "_replace" 454 (.ref 123),eS P "__replace__" 455 (.ref 123),eS P "__repr__" 463 (.ref 130),eS P "_asdict" 470 (.ref 137),eS P "__getnewargs__" 478 (.ref 144),eS P "__match_args__" 482 (.ref 145),eS P "a" 492 (.ref 147),eS P "b" 502 (.ref 150),eS P "size" 512 (.ref 153),eS P "__static_attributes__" 513 (.ref 155),eS P "__classcell__" 514 (.ref 91)] 20) (.node (oo (.type "frame") none (.dict [eS P "self" 505 (.ref 153),eS P "index" 506 (iv 2 503),eS P "doc" 507 (sv "Alias for field number 2" 504)].toArray 3)) (.node (oT []) (lf (oT [])) (lf (oT [sv "self" 1370,sv "line" 1371]))) (.node (oP "readable" "BytesIO.readable" [14,8]) (lf (oC "close" "StringIO.close" 1225 701 1 0 0 3 661 1229)) (lf (oT [])))) (.node aUh (.node (oo (.type "super") none (.fields [.ref 345,.ref 345,.ref 345].toArray)) (lf (oT [sv "self" 1159])) (lf (oC "join" "join" 1446 857 1 0 0 7 853 1454))) (.node (oC "tell" "BytesIO.tell" 993 518 1 0 0 3 469 997) (lf (oF "detach" "StringIO.detach" [15,20] .none .none (sv "io" 752) 729)) (lf (oN []))))) (.node aTp (.node (oT [sv "self" 558,sv "a" 559,sv "b" 560]) (.node aUx (lf (oP "__repr__" "BytesIO.__repr__" [14,30])) (lf (oN []))) (.node (oN []) (lf (oT [sv "self" 1264])) (lf aQj))) (.node (oN []) (.node (oN []) (lf (oC "line_buffering" "StringIO.line_buffering" 1193 685 1 0 0 3 629 1197)) (lf (oT []))) (.node (oC "read1" "BytesIO.read1" 1032 556 2 2 0 3 501 1037) (lf (oT [])) (lf (oT [])))))
noncomputable def bAd (P:Params):BT:=.node (oT []) (.node (oT []) (.node (oT []) (.node aUt (lf (oT [])) (lf (oP "readline" "StringIO.readline" [15,26]))) (.node (oC "close" "BytesIO.close" 908 477 1 0 0 3 385 912) (lf (oN [])) (lf (oP "push_source" "shlex.push_source" [25,4])))) (.node (oT []) (.node (oD [eS P "__module__" 831 (sv "io" 836),eS P "__qualname__" 833 (sv "BufferedIOBase" 832),eS P "__firstlineno__" 835 (iv 443 834),eS P "__static_attributes__" 838 (.ref 331)] 4) (lf (oN [iv 620,iv 4,.ref 591,iv 633,iv 4,.ref 598,iv 641,iv 4,.ref 605,iv 645,iv 4,.ref 612,iv 649,iv 4,.ref 619,iv 682,iv 4,.ref 626,iv 686,iv 4,.ref 634,iv 690,iv 4,.ref 642,iv 694,iv 4,.ref 650,iv 698,iv 4,.ref 658,iv 701,iv 4,.ref 666,iv 704,iv 4,.ref 673,iv 708,iv 4,.ref 680,iv 711,iv 4,.ref 687,iv 715,iv 4,.ref 694,iv 719,iv 4,.ref 701,iv 723,iv 4,.ref 708,iv 727,iv 4,.ref 715,iv 730,iv 4,.ref 722,iv 733,iv 4,.ref 729,iv 736,iv 4,.ref 736,iv 739,iv 4,.ref 743,iv 743,iv 4,.ref 751,iv 760,iv 4,.ref 759,iv 763,iv 4,.ref 767,iv 777,iv 4,.ref 775,iv 784,iv 4,.ref 783,iv 787,iv 4,.ref 790,iv 791,iv 4,.ref 797,iv 798,iv 4,.ref 804,iv 817,iv 4,.ref 811,iv 820,iv 4,.ref 818])) (lf (oF "_fspath" "_fspath" [18] .none .none (sv "os.path" 1409) 837))) (.node (oF "detach" "BytesIO.detach" [14,14] .none .none (sv "io" 752) 453) (lf (oT [])) (lf (oT []))))) (.node (oT []) (.node (oP "_calculate_ratio" "_calculate_ratio" [4]) (.node (oo (.type "code") none (.fields [sv "UnsupportedOperation" 772,sv "UnsupportedOperation" 773,sv "/claim/cut.py" 774,iv 434,iv 0,iv 0,iv 0,iv 0,.ref 292,.bool false,iv 318,.ref 293,.none,.none,.none,.none,iv 775,iv 434,sv "/claim/cut.py" 776].toArray)) (lf (oC "__next__" "BytesIO.__next__" 1083 589 1 0 0 3 545 1088)) (lf (oT []))) (.node (oT [sv "self" 947]) (lf (oT [])) (lf (oT [])))) (.node (oT []) (.node (oT [sv "self" 877,sv "initial_bytes" 878]) (lf (oT [])) (lf (oT []))) (.node (oN []) (lf (oP "tell" "StringIO.tell" [15,22])) (lf aQp))))
noncomputable def bAe:BT:=.node o46 (.node (oP "__delete__" "_tuplegetter.__delete__" [2,3]) (.node (oP "__getnewargs__" "Match.__getnewargs__" [3,10]) (.node (oo (.type "list") none (.seq [iv 14 715,iv 17 716,iv 4 717,iv 1 718,iv 1 719,iv 21 720,iv 9 721,iv 0 722,iv 604043296 723,iv 1 724,iv 0 725,iv 0 726,iv 0 727,iv 0 728,iv 0 729,iv 8 730,iv 4 731,iv 0 732,iv 13 733,iv 14 734,iv 21 735,iv 9 736,iv 0 737,iv 604043296 738,iv 1 739,iv 0 740,iv 0 741,iv 0 742,iv 0 743,iv 0 744,iv 8 745,iv 4 746,iv 0 747,iv 1 748].toArray 0)) (lf (oT [])) (lf (oP "readlines" "StringIO.readlines" [15,27]))) (.node (oF "__enter__" "BytesIO.__enter__" [14,6] .none .none (sv "io" 752) 397) (lf (oN [])) (lf aVu))) (.node (oN []) (.node (oo (.type "super") none (.fields [.ref 333,.ref 333,.ref 333].toArray)) (lf (oP "__init__" "StringIO.__init__" [15,1])) (lf (oT []))) (.node (oT []) (lf (oN [])) (lf (oP "join" "join" [27]))))) (.node (oP "_make" "Match._make" [3,5]) (.node (oo (.type "code") none (.fields [sv "SequenceMatcher" 528,sv "SequenceMatcher" 529,sv "/claim/cut.py" 530,iv 72,iv 0,iv 0,iv 0,iv 0,.ref 172,.bool false,iv 318,.ref 173,.none,.none,.none,.none,iv 531,iv 72,sv "/claim/cut.py" 532].toArray)) (.node (oT []) (lf (oF "write" "BytesIO.write" [14,28] .none .none (sv "io" 752) 557)) (lf (oN []))) (.node (oT []) (lf (oP "readable" "StringIO.readable" [15,14])) (lf (oN [])))) (.node (oT []) (.node (oT []) (lf (oN [])) (lf (oT []))) (.node (oN []) (lf (oP "seek" "StringIO.seek" [15,23])) (lf (oT [])))))
noncomputable def bAf (P:Params):BT:=.node (oT [sv "self" 632,sv "la" 633,sv "lb" 634,sv "queue" 635,sv "matching_blocks" 636,sv "alo" 637,sv "ahi" 638,sv "blo" 639,sv "bhi" 640,sv "i" 641,sv "j" 642,sv "k" 643,sv "x" 644,sv "i1" 645,sv "j1" 646,sv "k1" 647,sv "non_adjacent" 648,sv "i2" 649,sv "j2" 650,sv "k2" 651]) (.node (oD [eS P "__module__" 867 (sv "_io" 872),eS P "__qualname__" 869 (sv "BytesIO" 868),eS P "__firstlineno__" 871 (iv 447 870),eS P "__init__" 881 (.ref 362),eS P "_BytesIO__check" 888 (.ref 369),eS P "_BytesIO__line" 899 (.ref 376),eS P "closed" 907 (.ref 384),eS P "close" 914 (.ref 391),eS P "__enter__" 921 (.ref 398),eS P "__exit__" 929 (.ref 405),eS P "readable" 936 (.ref 412),eS P "writable" 943 (.ref 419),eS P "seekable" 950 (.ref 426),eS P "isatty" 957 (.ref 433),eS P "flush" 964 (.ref 440),eS P "fileno" 971 (.ref 447),eS P "detach" 978 (.ref 454),eS P "getvalue" 985 (.ref 461),eS P "getbuffer" 992 (.ref 468),eS P "tell" 999 (.ref 475),eS P "seek" 1009 (.ref 483),eS P "truncate" 1017 (.ref 491),eS P "read" 1029 (.ref 499),eS P "read1" 1039 (.ref 507),eS P "readinto" 1049 (.ref 514),eS P "readinto1" 1057 (.ref 521),eS P "readline" 1067 (.ref 529),eS P "readlines" 1075 (.ref 537),eS P "__iter__" 1082 (.ref 544),eS P "__next__" 1090 (.ref 551),eS P "write" 1100 (.ref 558),eS P "writelines" 1108 (.ref 565),eS P "__repr__" 1115 (.ref 572),eS P "__static_attributes__" 1118 (.ref 573)] 34) (lf aQb) (lf (oT [sv "p" 1461,sv "sep" 1462,sv "i" 1463,sv "head" 1464]))) (.node (oN []) (lf (oT [])) (lf aWk))
noncomputable def bAg (P:Params):BT:=.node (oo (.type "type") none (.cls ⟨(S "BuiltinImporter"),[.type "object"],[.ref 14,.type "object"],13,(S "BuiltinImporter"),true,[],[],false,none,false⟩)) (.node (oo (.type "type") none (.cls ⟨(S "ModuleSpec"),[.type "object"],[.ref 22,.type "object"],21,(S "ModuleSpec"),true,[],[],false,none,false⟩)) (bAd P) (.node (oT [sv "self" 348,sv "index" 349,sv "doc" 350]) (.node (oo (.type "super") none (.fields [.ref 83,.ref 83,.ref 83].toArray)) (.node (oo (.ref 83) (some 149) .plain) (.node (oT []) (lf (oT [])) (lf (oC "__iter__" "StringIO.__iter__" 1360 787 1 0 0 3 785 1364))) (.node (oT []) (lf (oN [])) (lf aQg))) (.node (oN []) (.node (⟨(.type "frame"),none,.plain,[some (.ref 341),some (.ref 3),some (.ref 338),none,some (sv "io" 752),none,some (.ref 0)].toArray⟩) (lf aVh) (lf (oN []))) (.node (oN []) (lf (oT [sv "self" 1292])) (lf (oP "quote" "quote" [30]))))) (.node (oN []) (.node aUb (.node (oN []) (lf (oT [])) (lf aQd)) (.node (oP "flush" "BytesIO.flush" [14,12]) (lf (oC "writable" "StringIO.writable" 1254 715 1 0 0 3 689 1258)) (lf (oT [sv "self" 1583,sv "token" 1584])))) (.node (oP "ratio" "SequenceMatcher.ratio" [5,10]) (.node (oP "__line" "BytesIO.__line" [14,3]) (lf (oN [])) (lf (oP "punctuation_chars" "shlex.punctuation_chars" [25,2]))) (.node (oN []) (lf (oP "truncate" "StringIO.truncate" [15,24])) (lf (oN []))))))) (.node (oo (.type "module") (some 29) .plain) bAe (.node (oT [sv "self" 357,sv "obj" 358,sv "objtype" 359]) (.node (oo (.type "code") none (.fields [sv "Match" 392,sv "Match" 393,sv "/claim/cut.py" 394,iv 25,iv 0,iv 0,iv 0,iv 0,.ref 92,.bool false,iv 318,.ref 93,.none,.none,.none,.none,iv 395,iv 25,sv "/claim/cut.py" 396].toArray)) (.node aTy (.node (oP "_index" "_index" [9]) (lf (oP "__iter__" "BytesIO.__iter__" [14,26])) (lf (oF "__next__" "StringIO.__next__" [15,29] .none .none (sv "io" 752) 797))) (.node (oN []) (lf (oT [sv "self" 1235])) (lf (oT [])))) (bAf P)) (.node (oT [sv "self" 459]) (.node aPq (.node aUz (lf (aVe P)) (lf (oC "_kind" "_kind" 1411 823 2 0 0 3 825 1417))) (.node (oC "fileno" "BytesIO.fileno" 965 506 1 0 0 3 441 969) (lf (oF "seekable" "StringIO.seekable" [15,16] .none .none (sv "io" 752) 701)) (lf (oo (.type "getset_descriptor") none (.fields [sv "__dict__" 1609,.ref 957,.builtin "function.__dict__", .builtin "function.__dict__#set"].toArray))))) (.node aUq (.node (oC "closed" "BytesIO.closed" 900 473 1 0 0 3 377 904) (lf (oN [])) (lf (oP "push_token" "shlex.push_token" [25,3]))) (.node (oT [sv "self" 1043,sv "buffer" 1044,sv "start" 1045,sv "n" 1046]) (lf (oP "read" "StringIO.read" [15,25])) (lf aGz))))))
noncomputable def bAh (P:Params):BT:=.node (o2 P) (.node o4 (aZv P) (.node (oo (.type "module") (some 11) .plain) (.node (oD [eS P "name" 208 (sv "_sre" 207),eS P "loader" 209 (.ref 14),eS P "origin" 210 (sv "built-in" 184),eS P "loader_state" 211 .none,eS P "submodule_search_locations" 212 .none,eS P "_uninitialized_submodules" 213 (.ref 19),eS P "_set_fileattr" 214 (.bool false),eS P "_cached" 215 .none,eS P "_initializing" 243 (.bool false)] 9) (.node (oo (.type "code") none (.fields [sv "<module>" 319,sv "<module>" 320,sv "/claim/cut.py" 321,iv 1,iv 0,iv 0,iv 0,iv 0,.ref 34,.bool false,iv 318,.ref 35,.none,.none,.none,.none,iv 322,iv 1,sv "/claim/cut.py" 323].toArray)) (.node (oN []) (.node (oN []) (.node (oP "real_quick_ratio" "SequenceMatcher.real_quick_ratio" [5,12]) (lf (oN [])) (lf (oT [sv "self" 1345,sv "size" 1346]))) (.node (oT []) (lf (oo (.type "property") none (.fields [.ref 643,.none,.none,.none,sv "newlines" 1208,.bool false].toArray))) (lf (oT [sv "self" 1516,sv "newstream" 1517,sv "newfile" 1518])))) (aZw P)) (.node (oN []) (.node (oT [sv "matches" 521,sv "length" 522]) (.node (oT []) (lf (oT [])) (lf (oC "write" "StringIO.write" 1375 798 2 2 0 3 799 1384))) (.node (oT []) (lf (oN [])) (lf aVz))) (.node (oN []) (.node (oT []) (lf (oC "__check_dot" "StringIO.__check_dot" 1163 645 1 0 0 3 607 1167)) (lf o46)) (.node wI (lf (oT [sv "self" 1306])) (lf (oP "_law_cut" "_law_cut" [33])))))) (aZx P)) (aZy P))) (.node (oD []) (.node (⟨(.type "frame"),none,.plain,[some (.ref 9),some (.ref 3),some (.ref 3),none,some (sv "__main__" 164),none,some (.ref 0)].toArray⟩) (bAa P) (.node (oo (.ref 22) (some 20) .plain) bAb (bAc P))) (bAg P))
noncomputable def gL (P:Params):BT:=.node (o0 P) (.node (o1 P) (bT8 P) (.node (oo (.type "module") (some 3) .plain) (aZo P) (.node (oD [eS P "__module__" 189 (sv "_frozen_importlib" 186),eS P "__firstlineno__" 190 (iv 971 187),eS P "__doc__" 191 (.builtin "_frozen_importlib.BuiltinImporter.__doc__:str#opaque"),eS P "_ORIGIN" 192 (sv "built-in" 188),eS P "find_spec" 193 (.builtin "_frozen_importlib.BuiltinImporter.find_spec#opaque"),eS P "create_module" 194 (.builtin "_frozen_importlib.BuiltinImporter.create_module#opaque"),eS P "exec_module" 195 (.builtin "_frozen_importlib.BuiltinImporter.exec_module#opaque"),eS P "get_code" 196 (.builtin "_frozen_importlib.BuiltinImporter.get_code#opaque"),eS P "get_source" 197 (.builtin "_frozen_importlib.BuiltinImporter.get_source#opaque"),eS P "is_package" 198 (.builtin "_frozen_importlib.BuiltinImporter.is_package#opaque"),eS P "load_module" 199 (.builtin "_frozen_importlib.BuiltinImporter.load_module#opaque"),eS P "__static_attributes__" 200 (.ref 15),eS P "__dict__" 202 (.ref 16),eS P "__weakref__" 204 (.ref 17)] 14) (aZq P) (aZs P)))) (bAh P)
noncomputable def iA (n:Nat):BT→Nat→Nat→BT
 | .nil,_,_=>.nil
 | .node v l r,a,b=>match Nat.blt b n with
  | true=>.node v (iA n l (2 * a) (a+b)) (iA n r (2 * a) (2 * a+b))
  | false=>.nil
def iB:Env:={ scope:=P0.main.scope,locals:=mainNs,globals:=mainNs,cells:=[],code:=.ref 36,frame:=some 37 }
abbrev q0:Pos:=⟨0,0,0,0⟩
abbrev cE:Code:=.body bd iB
noncomputable def aQq (P:Params):BT:=((((iA 34 (gL P) 1 0).set 2 (fun _=>nM P)).set 3 (fun _=>aBc P)).set 11 (fun _=>oD [eS P "__name__" 247 (sv "_sre" 246),eS P "__doc__" 248 .none,eS P "__package__" 250 (sv "" 249),eS P "__loader__" 251 (.ref 14),eS P "__spec__" 252 (.ref 26),eS P "compile" 253 (.builtin "_sre.compile"),eS P "template" 254 (.builtin "_sre.template"),eS P "getcodesize" 255 (.builtin "_sre.getcodesize"),eS P "ascii_iscased" 256 (.builtin "_sre.ascii_iscased"),eS P "unicode_iscased" 257 (.builtin "_sre.unicode_iscased"),eS P "ascii_tolower" 258 (.builtin "_sre.ascii_tolower"),eS P "unicode_tolower" 259 (.builtin "_sre.unicode_tolower"),eS P "MAGIC" 261 (iv 20230612 260),eS P "CODESIZE" 263 (iv 4 262),eS P "MAXREPEAT" 265 (iv 4294967295 264),eS P "MAXGROUPS" 267 (iv 1073741823 266),eS P "copyright" 269 (sv " SRE 2.2.2 Copyright (c) 1997-2002 by Secret Labs AB " 268)] 17)).set 29 (fun _=>oD [eS P "__name__" 296 (sv "_collections" 295),eS P "__doc__" 297 (.builtin "_collections.__doc__:str#opaque"),eS P "__package__" 299 (sv "" 298),eS P "__loader__" 300 (.ref 14),eS P "__spec__" 301 (.ref 33),eS P "_count_elements" 302 (.builtin "_collections._count_elements"),eS P "deque" 303 (.type "collections.deque"),eS P "defaultdict" 304 (.type "collections.defaultdict"),eS P "_deque_iterator" 305 (.type "collections._deque_iterator"),eS P "_deque_reverse_iterator" 306 (.type "collections._deque_reverse_iterator"),eS P "_tuplegetter" 307 (.type "collections._tuplegetter"),eS P "OrderedDict" 308 (.type "collections.OrderedDict")] 12)
noncomputable def uH (P:Params):BT:=((iA 34 (gL P) 1 0).set 2 (fun _=>nM P)).set 3 (fun _=>aBc P)
noncomputable abbrev aOe (w:World) (os:OsState):SharedT:=⟨uH w.params,34,{},Array.mk [],{},318,os⟩
noncomputable def bAi (P:Params):BT:=(((iA 38 (gL P) 1 0).set 2 (fun _=>nM P)).set 3 (fun _=>aBc P)).set 35 (fun _=>oN [])
noncomputable abbrev aOf (w:World) (os:OsState):SharedT:=⟨bAi w.params,38,{},Array.mk [],{},324,os⟩
noncomputable def bAj (P:Params):BT:=(((iA 38 (gL P) 1 0).set 2 (fun _=>nM P)).set 3 (fun _=>aBc P)).set 35 (fun _=>oN [])
noncomputable abbrev aHa (w:World) (os:OsState):SharedT:=⟨bAj w.params,38,{},Array.mk [],{},324,os⟩
noncomputable def bAk (P:Params):BT:=(((iA 88 (gL P) 1 0).set 2 (fun _=>nM P)).set 3 (fun _=>oD (eS P "__name__" 165 (sv "cpy313.difflib" 331)::(o3L P).take 12) 13)).set 35 (fun _=>oN [iv 3,iv 0,.ref 43,iv 7,iv 0,.ref 50])
noncomputable abbrev aOg (w:World) (os:OsState):SharedT:=⟨bAk w.params,88,{},Array.mk [],{},390,os⟩
noncomputable def bAl (P:Params):BT:=(((iA 162 (gL P) 1 0).set 2 (fun _=>nM P)).set 3 (fun _=>oD (eS P "__name__" 165 (sv "cpy313.difflib" 331)::(o3L P).take 13) 14)).set 35 (fun _=>oN [iv 3,iv 0,.ref 43,iv 7,iv 0,.ref 50,iv 25,iv 0,.ref 94])
noncomputable abbrev aOh (w:World) (os:OsState):SharedT:=⟨bAl w.params,162,{},Array.mk [],{},518,os⟩
noncomputable def bAm (P:Params):BT:=(((iA 169 (gL P) 1 0).set 2 (fun _=>nM P)).set 3 (fun _=>oD (eS P "__name__" 165 (sv "cpy313.difflib" 331)::(o3L P).take 14) 15)).set 35 (fun _=>oN [iv 3,iv 0,.ref 43,iv 7,iv 0,.ref 50,iv 25,iv 0,.ref 94,iv 68,iv 0,.ref 167])
noncomputable abbrev aOi (w:World) (os:OsState):SharedT:=⟨bAm w.params,169,{},Array.mk [],{},526,os⟩
noncomputable def bAn (P:Params):BT:=(((iA 270 (gL P) 1 0).set 2 (fun _=>nM P)).set 3 (fun _=>oD (eS P "__name__" 165 (sv "cpy313.difflib" 331)::(o3L P).take 15) 16)).set 35 (fun _=>oN [iv 3,iv 0,.ref 43,iv 7,iv 0,.ref 50,iv 25,iv 0,.ref 94,iv 68,iv 0,.ref 167,iv 72,iv 0,.ref 174])
noncomputable abbrev aOj (w:World) (os:OsState):SharedT:=⟨bAn w.params,270,{},Array.mk [],{},712,os⟩
noncomputable def aWm (P:Params):BT:=((iA 302 (gL P) 1 0).set 3 (fun _=>oD (eS P "__name__" 165 (sv "io" 752)::(o3L P).take 19) 20)).set 35 (fun _=>oN [iv 3,iv 0,.ref 43,iv 7,iv 0,.ref 50,iv 25,iv 0,.ref 94,iv 68,iv 0,.ref 167,iv 72,iv 0,.ref 174,iv 422,iv 0,.ref 280,iv 427,iv 0,.ref 287,iv 434,iv 0,.ref 294])
noncomputable abbrev aHb (w:World) (os:OsState):SharedT:=⟨aWm w.params,302,{},Array.mk [],{},792,os⟩
noncomputable def aWn (P:Params):BT:=(((iA 324 (gL P) 1 0).set 3 (fun _=>oD (eS P "__name__" 165 (sv "io" 752)::(o3L P).take 20) 21)).set 35 (fun _=>oN [iv 3,iv 0,.ref 43,iv 7,iv 0,.ref 50,iv 25,iv 0,.ref 94,iv 68,iv 0,.ref 167,iv 72,iv 0,.ref 174,iv 422,iv 0,.ref 280,iv 427,iv 0,.ref 287,iv 434,iv 0,.ref 294,iv 436,iv 0,.ref 307])).set 318 (fun _=>⟨(.type "type"),none,(.cls ⟨(S "IOBase"),[.type "object"],[.ref 318,.type "object"],317,(S "IOBase"),true,[],[],false,none,false⟩),[none,none,some (sv "IOBase" 792),some (sv "IOBase" 800),some .none,some (.bool true)].toArray⟩)
noncomputable abbrev aHc (w:World) (os:OsState):SharedT:=⟨aWn w.params,324,{},Array.mk [],{},824,os⟩
noncomputable def aWo (P:Params):BT:=((((iA 336 (gL P) 1 0).set 3 (fun _=>oD (eS P "__name__" 165 (sv "io" 752)::(o3L P).take 21) 22)).set 35 (fun _=>oN [iv 3,iv 0,.ref 43,iv 7,iv 0,.ref 50,iv 25,iv 0,.ref 94,iv 68,iv 0,.ref 167,iv 72,iv 0,.ref 174,iv 422,iv 0,.ref 280,iv 427,iv 0,.ref 287,iv 434,iv 0,.ref 294,iv 436,iv 0,.ref 307,iv 443,iv 0,.ref 329])).set 318 (fun _=>⟨(.type "type"),none,(.cls ⟨(S "IOBase"),[.type "object"],[.ref 318,.type "object"],317,(S "IOBase"),true,[],[.ref 333],false,none,false⟩),[none,none,some (sv "IOBase" 792),some (sv "IOBase" 800),some .none,some (.bool true)].toArray⟩)).set 333 (fun _=>wJ)
noncomputable abbrev aHd (w:World) (os:OsState):SharedT:=⟨aWo w.params,336,{},Array.mk [],{},842,os⟩
noncomputable def aWp (P:Params):BT:=((((iA 348 (gL P) 1 0).set 3 (fun _=>oD (eS P "__name__" 165 (sv "io" 752)::(o3L P).take 22) 23)).set 35 (fun _=>oN [iv 3,iv 0,.ref 43,iv 7,iv 0,.ref 50,iv 25,iv 0,.ref 94,iv 68,iv 0,.ref 167,iv 72,iv 0,.ref 174,iv 422,iv 0,.ref 280,iv 427,iv 0,.ref 287,iv 434,iv 0,.ref 294,iv 436,iv 0,.ref 307,iv 443,iv 0,.ref 329,iv 445,iv 0,.ref 341])).set 333 (fun _=>wJ)).set 345 (fun _=>wK)
noncomputable abbrev aHe (w:World) (os:OsState):SharedT:=⟨aWp w.params,348,{},Array.mk [],{},860,os⟩
noncomputable def aWq (P:Params):BT:=(((iA 578 (gL P) 1 0).set 3 (fun _=>oD (eS P "__name__" 165 (sv "io" 752)::(o3L P).take 23) 24)).set 35 (fun _=>oN [iv 3,iv 0,.ref 43,iv 7,iv 0,.ref 50,iv 25,iv 0,.ref 94,iv 68,iv 0,.ref 167,iv 72,iv 0,.ref 174,iv 422,iv 0,.ref 280,iv 427,iv 0,.ref 287,iv 434,iv 0,.ref 294,iv 436,iv 0,.ref 307,iv 443,iv 0,.ref 329,iv 445,iv 0,.ref 341,iv 447,iv 0,.ref 353])).set 345 (fun _=>wK)
noncomputable abbrev aHf (w:World) (os:OsState):SharedT:=⟨aWq w.params,578,{},Array.mk [],{},1122,os⟩
noncomputable def aWr (P:Params):BT:=((iA 825 (gL P) 1 0).set 3 (fun _=>oD (eS P "__name__" 165 (sv "io" 752)::(o3L P).take 24) 25)).set 35 (fun _=>oN [iv 3,iv 0,.ref 43,iv 7,iv 0,.ref 50,iv 25,iv 0,.ref 94,iv 68,iv 0,.ref 167,iv 72,iv 0,.ref 174,iv 422,iv 0,.ref 280,iv 427,iv 0,.ref 287,iv 434,iv 0,.ref 294,iv 436,iv 0,.ref 307,iv 443,iv 0,.ref 329,iv 445,iv 0,.ref 341,iv 447,iv 0,.ref 353,iv 617,iv 0,.ref 583])
noncomputable abbrev aHg (w:World) (os:OsState):SharedT:=⟨aWr w.params,825,{},Array.mk [],{},1409,os⟩
noncomputable def aWs (P:Params):BT:=((iA 867 (gL P) 1 0).set 3 (fun _=>oD (eS P "__name__" 165 (sv "cpy313.shlex" 1468)::(o3L P).take 31) 32)).set 35 (fun _=>oN [iv 3,iv 0,.ref 43,iv 7,iv 0,.ref 50,iv 25,iv 0,.ref 94,iv 68,iv 0,.ref 167,iv 72,iv 0,.ref 174,iv 422,iv 0,.ref 280,iv 427,iv 0,.ref 287,iv 434,iv 0,.ref 294,iv 436,iv 0,.ref 307,iv 443,iv 0,.ref 329,iv 445,iv 0,.ref 341,iv 447,iv 0,.ref 353,iv 617,iv 0,.ref 583,iv 823,iv 0,.ref 830,iv 844,iv 0,.ref 837,iv 849,iv 0,.ref 844,iv 854,iv 0,.ref 851,iv 857,iv 0,.ref 858,iv 878,iv 0,.ref 865])
noncomputable abbrev aHh (w:World) (os:OsState):SharedT:=⟨aWs w.params,867,{},Array.mk [],{},1470,os⟩
noncomputable def aWt (P:Params):BT:=((iA 962 (gL P) 1 0).set 3 (fun _=>oD (eS P "__name__" 165 (sv "cpy313.shlex" 1468)::o3L P) 33)).set 35 (fun _=>oN [iv 3,iv 0,.ref 43,iv 7,iv 0,.ref 50,iv 25,iv 0,.ref 94,iv 68,iv 0,.ref 167,iv 72,iv 0,.ref 174,iv 422,iv 0,.ref 280,iv 427,iv 0,.ref 287,iv 434,iv 0,.ref 294,iv 436,iv 0,.ref 307,iv 443,iv 0,.ref 329,iv 445,iv 0,.ref 341,iv 447,iv 0,.ref 353,iv 617,iv 0,.ref 583,iv 823,iv 0,.ref 830,iv 844,iv 0,.ref 837,iv 849,iv 0,.ref 844,iv 854,iv 0,.ref 851,iv 857,iv 0,.ref 858,iv 878,iv 0,.ref 865,iv 887,iv 0,.ref 872])
noncomputable abbrev aHi (w:World) (os:OsState):SharedT:=⟨aWt w.params,962,{},Array.mk [],{},1615,os⟩
noncomputable def aWu (P:Params):BT:=gL P
noncomputable abbrev pV (w:World) (os:OsState):SharedT:=⟨aWu w.params,1023,{},Array.mk [],{},1705,os⟩
theorem mX {w:World} {n:Nat} {st:SharedT} {g l:List Stmt} {p:Pos} {r} (e:g=l) (h:PySem.W.Fast.tw10110043849684766642 tb P0 w 34 (some (.ref 6)) 1 n st ⟨(execs l iB).wrap doneF deadEnd id id,cE,p,[topFrame q0]⟩=r):segRunT tb P0 w 34 (some (.ref 6)) 1 n st (piecesOf g iB cE p [topFrame q0])=r:=by
 rw [PySem.W.Fast.te10110043849684766642,e]
 exact h
theorem bAo (w:World) (os:OsState):segRunT tb P0 w 34 (some (.ref 6)) 1 362 (aHa w os) (piecesOf (grp 0 3) iB cE ⟨0,0,0,0⟩ [topFrame q0])=some (.next,aOg w os,cE,⟨7,0,24,54⟩):=mX rfl (by
 rw [PySem.W.Fast.te12563942051412417395]
 kernel_rfl)
theorem bAp (w:World) (os:OsState):segRunT tb P0 w 34 (some (.ref 6)) 1 1047 (aOg w os) (piecesOf (grp 3 1) iB cE ⟨7,0,24,54⟩ [topFrame q0])=some (.next,aOh w os,cE,⟨25,0,67,54⟩):=mX rfl (by
 rw [PySem.W.Fast.te12563942051412417395]
 kernel_rfl)
theorem bAq (w:World) (os:OsState):segRunT tb P0 w 34 (some (.ref 6)) 1 31 (aOh w os) (piecesOf (grp 4 1) iB cE ⟨25,0,67,54⟩ [topFrame q0])=some (.next,aOi w os,cE,⟨68,0,71,14⟩):=mX rfl (by
 rw [PySem.W.Fast.te12563942051412417395]
 kernel_rfl)
theorem bAr (w:World) (os:OsState):segRunT tb P0 w 34 (some (.ref 6)) 1 649 (aOi w os) (piecesOf (grp 5 1) iB cE ⟨68,0,71,14⟩ [topFrame q0])=some (.next,aOj w os,cE,⟨72,0,419,16⟩):=mX aLs (by
 rw [PySem.W.Fast.te12563942051412417395]
 kernel_rfl)
theorem aWv (w:World) (os:OsState):segRunT tb P0 w 34 (some (.ref 6)) 1 361 (aOj w os) (piecesOf (grp 6 5) iB cE ⟨72,0,419,16⟩ [topFrame q0])=some (.next,aHb w os,cE,⟨434,0,435,21⟩):=mX rfl (by
 rw [PySem.W.Fast.te12563942051412417395]
 kernel_rfl)
theorem aWw (w:World) (os:OsState):segRunT tb P0 w 34 (some (.ref 6)) 1 240 (aHb w os) (piecesOf (grp 11 1) iB cE ⟨434,0,435,21⟩ [topFrame q0])=some (.next,aHc w os,cE,⟨436,0,442,34⟩):=mX rfl (by
 rw [PySem.W.Fast.te12563942051412417395]
 kernel_rfl)
theorem aWx (w:World) (os:OsState):segRunT tb P0 w 34 (some (.ref 6)) 1 224 (aHc w os) (piecesOf (grp 12 1) iB cE ⟨436,0,442,34⟩ [topFrame q0])=some (.next,aHd w os,cE,⟨443,0,444,21⟩):=mX rfl (by
 rw [PySem.W.Fast.te12563942051412417395]
 kernel_rfl)
theorem aWy (w:World) (os:OsState):segRunT tb P0 w 34 (some (.ref 6)) 1 224 (aHd w os) (piecesOf (grp 13 1) iB cE ⟨443,0,444,21⟩ [topFrame q0])=some (.next,aHe w os,cE,⟨445,0,446,21⟩):=mX rfl (by
 rw [PySem.W.Fast.te12563942051412417395]
 kernel_rfl)
theorem aWz (w:World) (os:OsState):segRunT tb P0 w 34 (some (.ref 6)) 1 1278 (aHe w os) (piecesOf (grp 14 1) iB cE ⟨445,0,446,21⟩ [topFrame q0])=some (.next,aHf w os,cE,⟨447,0,616,17⟩):=mX rfl (by
 rw [PySem.W.Fast.te12563942051412417395]
 kernel_rfl)
theorem aXa (w:World) (os:OsState):segRunT tb P0 w 34 (some (.ref 6)) 1 1578 (aHf w os) (piecesOf (grp 15 1) iB cE ⟨447,0,616,17⟩ [topFrame q0])=some (.next,aHg w os,cE,⟨617,0,821,17⟩):=mX rfl (by
 rw [PySem.W.Fast.te12563942051412417395]
 kernel_rfl)
theorem aXb (w:World) (os:OsState):segRunT tb P0 w 34 (some (.ref 6)) 1 217 (aHg w os) (piecesOf (grp 16 9) iB cE ⟨617,0,821,17⟩ [topFrame q0])=some (.next,aHh w os,cE,⟨886,0,886,8⟩):=mX rfl (by
 rw [PySem.W.Fast.te12563942051412417395]
 kernel_rfl)
theorem aXc (w:World) (os:OsState):segRunT tb P0 w 34 (some (.ref 6)) 1 641 (aHh w os) (piecesOf (grp 25 1) iB cE ⟨886,0,886,8⟩ [topFrame q0])=some (.next,aHi w os,cE,⟨887,0,1143,20⟩):=mX rfl (by
 rw [PySem.W.Fast.te12563942051412417395]
 kernel_rfl)
theorem aXd (w:World) (os:OsState):segRunT tb P0 w 34 (some (.ref 6)) 1 327 (aHi w os) (piecesOf (grp 26 12) iB cE ⟨887,0,1143,20⟩ [topFrame q0])=some (.next,pV w os,cE,⟨1189,0,1208,98⟩):=mX rfl (by
 rw [PySem.W.Fast.te12563942051412417395]
 kernel_rfl)
theorem aDg:bd=grp 0 3++(grp 3 1++(grp 4 1++(grp 5 1++(grp 6 5++(grp 11 1++(grp 12 1++(grp 13 1++(grp 14 1++(grp 15 1++(grp 16 9++(grp 25 1++(grp 26 12++[])))))))))))):=by kernel_rfl
theorem aLv (w:World) (os:OsState):topRun tb P0 w 34 (some (.ref 6)) 2 (pV w os).abs ⟨doneF .next,cE,⟨1189,0,1208,98⟩,[topFrame q0]⟩=some (pV w os).abs:=by
 rw [PySem.W.Fast.te14082659384304107361]
 kernel_rfl
theorem zF (w:World) (os:OsState):topRun tb P0 w 34 (some (.ref 6)) (362+(1047+(31+(649+(361+(240+(224+(224+(1278+(1578+(217+(641+(327+2))))))))))))) (aHa w os).abs (restOf bd iB cE ⟨0,0,0,0⟩ [topFrame q0])=some (pV w os).abs:=by
 rw [aDg]
 exact piece_app (segRun_of (bAo w os)) (piece_app (segRun_of (bAp w os)) (piece_app (segRun_of (bAq w os)) (piece_app (segRun_of (bAr w os)) (piece_app (segRun_of (aWv w os)) (piece_app (segRun_of (aWw w os)) (piece_app (segRun_of (aWx w os)) (piece_app (segRun_of (aWy w os)) (piece_app (segRun_of (aWz w os)) (piece_app (segRun_of (aXa w os)) (piece_app (segRun_of (aXb w os)) (piece_app (segRun_of (aXc w os)) (piece_app (segRun_of (aXd w os)) (piece_nil (aLv w os))))))))))))))
theorem aDh (w:World) (os:OsState):segRunT tb P0 w 34 (some (.ref 6)) 1 1 (aOf w os) (blockOf bd iB cE ⟨0,0,0,0⟩ [topFrame q0])=some (.next,aHa w os,cE,⟨0,0,0,0⟩):=by
 rw [PySem.W.Fast.te10110043849684766642]
 kernel_rfl
theorem aLw (w:World) (os:OsState):topGo tb P0 w 34 (some (.ref 6)) 12 (aOe w os).abs (topStub P0)=some ((aOf w os).abs,⟨denote tb cE,cE,⟨0,0,0,0⟩,[topFrame q0]⟩):=by
 rw [PySem.W.Fast.te15667345088766844465,PySem.W.Fast.te11892475500146522536]
 kernel_rfl
theorem aLx (w:World) (os:OsState):topRun treeTable P0 w 34 (some (.ref 6)) (12+(1+(362+(1047+(31+(649+(361+(240+(224+(224+(1278+(1578+(217+(641+(327+2))))))))))))))) (aOe w os).abs (topStub P0)=some (pV w os).abs:=by
 rw [aNx]
 exact go_top (aLw w os) (piece_block (segRun_of (aDh w os)) (zF w os))
theorem aHj (w:World):importEnds treeTable (opening P0) w 1086 (start (opening P0)).1 (start (opening P0)).2=some ⟨absHeap (aQq w.params) 34 {},Array.mk [],{},318,(start (opening P0)).1.os⟩:=by
 rw [aNx,PySem.W.Fast.te10274390034422433532,PySem.W.Fast.te1435165496053646825]
 kernel_rfl
theorem aXe (w:World):(fun os=>(fenceModules? P0 ⟨absHeap (aQq w.params) 34 {},Array.mk [],{},318,os⟩).map (fun s=>(s.heap,s.gens,s.drawn,s.toks)))=fun _=>some (absHeap (uH w.params) 34 {},Array.mk [],{},318):=by
 rw [PySem.W.Fast.te14289696077712309145]
 kernel_rfl
theorem aXf (w:World):((absHeap (uH w.params) 34 {}).isNs mainGlobals&&(Array.mk []:Array GenState).size==0,(absHeap (uH w.params) 34 {}).objs.size,(absHeap (uH w.params) 34 {}).nsMap mainGlobals "__annotations__")=(true,34,some (.ref 6)):=by
 kernel_rfl
def wL:List Nat:=[37]
def q1:Program:={ P0 with main:={ P0.main with body:=[cH bd wL] } }
def bQ:List Str:=[S "_sre", S "deque", S "_wall", S "_tuplegetter", S "Match", S "_calculate_ratio", S "SequenceMatcher", S "_twin_re_1", S "_whence", S "_index", S "UnsupportedOperation", S "IOBase", S "BufferedIOBase", S "TextIOBase", S "BytesIO", S "StringIO", S "_kind", S "_fspath", S "_check_arg_types", S "isabs", S "join", S "join_path", S "dirname", S "shlex", S "split", S "join_shlex", S "_find_unsafe", S "quote", S "_law_run", S "_law_cut", S "_law_blocks", S "_law_words", S "_law_line"]
noncomputable def nV (w:World):Heap:=absHeap (gL w.params) 1023 {}
def YP (w:World) (h:Heap):Prop:=∀ b o,(nV w).get? b=some o→h.get? b=some o
noncomputable def hook:Hook:=⟨Heap,fun s=>s.heap,nV,YP,fun w s e b o q=>by rw [e];exact q,fun w h h' y k b o q=>k b o (y b o q)⟩
noncomputable abbrev sF (w:World) (os:OsState):Shared:=⟨nV w,Array.mk [],{},1705,os⟩
theorem aQr (w:World) (os:OsState):(staticsOk (importedModules P0.main.body) (absHeap (uH w.params) 34 {}) (nV w)&&namesBound P0 (nV w)&&gensDone (sF w os)&&laidKept (absHeap (uH w.params) 34 {}) (nV w))=true:=by
 rw [PySem.W.Fast.te5923862056798008813]
 kernel_rfl
abbrev XtF (s:Shared):Bool:=xlAt q1 [] s&&recOk (RowW.records PySem.Challenge.rw_ij0145_02.row.toRowW) s
theorem k1 (w:World) (os:OsState):seen ((recsOf q1).map (·.name)) (ownsOf q1) [] { sF w os with gens:=#[] }=expectedOf q1:=by
 rw [PySem.W.Fast.te5160383126252970620,PySem.W.Fast.te3399658132070893891,PySem.W.Fast.te5991557255702980513]
 kernel_rfl
theorem k2 (w:World) (os:OsState):(sF w os).heap.bltView=bltViewBooted:=by kernel_rfl
theorem k3a (w:World) (os:OsState):(sF w os).heap.keysOk (looseW q1 bQ) ((recsOf q1).map (·.name)) ((litsOf q1).map (·.1)) ((clssOf q1 (looseW q1 bQ)).map (·.name))=true:=by
 rw [PySem.W.Fast.te10880121769531294198,PySem.W.Fast.te821141287760084731,PySem.W.Fast.te3399658132070893891,PySem.W.Fast.te7409074990110511671,PySem.W.Fast.te13664370479719496447]
 kernel_rfl
theorem k3b (w:World) (os:OsState):(sF w os).heap.accountedOkI (importedModules P0.main.body)=true:=by
 rw [PySem.W.Fast.te14722251495701143533,PySem.W.Fast.te5923862056798008813]
 kernel_rfl
theorem k3c (w:World) (os:OsState):(sF w os).heap.isNs mainGlobals=true:=by kernel_rfl
theorem k3f (w:World) (os:OsState):(sF w os).heap.isNs builtinsNs=true:=by kernel_rfl
theorem k3d (w:World) (os:OsState):tablesOk q1 (sF w os).heap=true:=by
 rw [PySem.W.Fast.te10994771534591457954]
 kernel_rfl
theorem k3e (w:World) (os:OsState):XtF (sF w os)=true:=by
 kernel_rfl
theorem k4 (w:World) (os:OsState):tabsOk q1 (sF w os)=true:=by
 rw [PySem.W.Fast.te479339242167458305]
 kernel_rfl
theorem k5 (w:World) (os:OsState):pinSeenD q1 (drecsOf q1) (sF w os)=pinGoodD (drecsOf q1):=by
 rw [PySem.W.Fast.te16090120013241838585,PySem.W.Fast.te3247288618530077131]
 kernel_rfl
theorem k6 (w:World) (os:OsState):plainSeenE q1 (looseW q1 bQ) (sF w os)=plainGoodE q1 (looseW q1 bQ):=by
 rw [PySem.W.Fast.te2386780881361962483,PySem.W.Fast.te821141287760084731]
 kernel_rfl
theorem k7 (w:World) (os:OsState):plainSeenD q1 bQ (sF w os)=plainGoodD q1 bQ:=by
 rw [PySem.W.Fast.te11698064438423848299]
 kernel_rfl
theorem k8 (w:World) (os:OsState):wideSeen q1 (sF w os)=wideGood q1:=by
 rw [PySem.W.Fast.te7317090234206586261]
 kernel_rfl
theorem k9 (w:World) (os:OsState):clsSeenW q1 bQ (sF w os)=clsGoodW q1 bQ:=by
 rw [PySem.W.Fast.te7369524293546568484]
 kernel_rfl
theorem aQs (w:World) (os:OsState):openSeen q1 bQ (importedModules P0.main.body) XtF true (sF w os)=openGood q1 bQ:=by
 unfold openSeen openGood
 refine looks_pair (k1 w os) (looks_pair (k2 w os) (looks_pair ?_ (looks_pair (k4 w os) (looks_pair (k5 w os) (looks_pair (k6 w os) (looks_pair (k7 w os) (looks_pair (k8 w os) (k9 w os))))))))
 rw [k3a w os,k3b w os,k3c w os,k3f w os,k3d w os,k3e w os]
 rfl
theorem aXg:LeftO P0 q1 bQ XtF hook.obs hook.val 20000 :=
 LeftO.of_pieces (H₀:=fun P=>absHeap (uH P) 34 {}) (H₁:=fun P=>absHeap (gL P) 1023 {}) (gs₀:=Array.mk []) (gs₁:=Array.mk []) (d₀:={}) (d₁:={}) (k₀:=318) (k₁:=1705) (m₀:=34) (ann:=some (.ref 6))
  (M:=12+(1+(362+(1047+(31+(649+(361+(240+(224+(224+(1278+(1578+(217+(641+(327+2)))))))))))))))
  (open_cut (p:=P0) (N:=20000) (M:=1086) (He:=fun P=>absHeap (aQq P) 34 {}) (H₀:=fun P=>absHeap (uH P) 34 {}) aHj (by decide +kernel) aXe) aXf aLx (by decide +kernel)
  (fun w=>funext fun os=>looks_pair (aQr w os) (looks_pair (aQs w os) (show hook.obs (sF w os)=hook.val w from rfl)))
end
noncomputable def aXh (p:List Nat):Pos:=match cH bd p with
 | .FunctionDef _ _ _ _ _ _ _ _ _ pos=>pos
 | _=>default
noncomputable def aQt:DefRec:={ name:=S "law", params:=bB wL,body:=lT (cH bd wL),scope:=aG wL,pos:=aXh wL }
abbrev lw:OpenLaw:=PySem.Challenge.rw_ij0145_02
theorem lk1:sreFenced P0.main=true:=by kernel_rfl
theorem lk2:((moduleNames P0.main.body).isEmpty||lookedIntoSs (moduleNames P0.main.body) P0.main.body)=true:=by kernel_rfl
theorem lk3:namesResolve P0=true:=by rw [PySem.W.Fast.te8377067652309620493];kernel_rfl
theorem lk4:P0.boundNames.all (fun n=>!worldNames.contains n)=true:=by kernel_rfl
theorem bAs:(!(importedModules P0.main.body).all cThrough.contains)=false:=by kernel_rfl
theorem bAt:((["vars", "dir", "locals"]:List Str).filter (readsOut P0 P0.main.body))=[]:=by rw [PySem.W.Fast.te13343964577679436407];kernel_rfl
theorem lk5:noRoadLSs { strict:=!(importedModules P0.main.body).all cThrough.contains,foot:=none,bare:=(["vars", "dir", "locals"]:List Str).filter (readsOut P0 P0.main.body) } P0.main.body=true:=by
 rw [bAs,bAt,PySem.W.Fast.te8326940854005059898]
 kernel_rfl
theorem lk6:namesMeet P0 P0.main.body (fun _ n=>attrL n)=true:=by rw [PySem.W.Fast.te17119622794617984870];kernel_rfl
theorem aHk:looksOpen P0=true:=look_both (look_both (look_both (look_both (look_both lk1 lk2) lk3) lk4) lk5) lk6
theorem aQu:lw.row.wellSaid=true:=by
 refine look_both (look_both (look_both (look_both (look_both (look_both (look_both (look_both (look_both (look_both (look_both (look_both (look_both (look_both (look_both aHk ?_) ?_) ?_) ?_) ?_) ?_) ?_) ?_) ?_) ?_) ?_) ?_) ?_) ?_) ?_ <;> kernel_rfl
theorem aQv:lw.wellSaid=true:=by
 refine look_both (look_both (look_both (look_both (look_both (look_both (look_both (look_both (look_both (look_both (look_both (look_both (look_both (look_both (look_both (look_both (look_both (look_both aQu ?_) ?_) ?_) ?_) ?_) ?_) ?_) ?_) ?_) ?_) ?_) ?_) ?_) ?_) ?_) ?_) ?_) ?_ <;> kernel_rfl
theorem head (walk:WalkO q1 bQ (XL q1 []) YP lw.row.toRowW aQt [] (fun f vs=>PySem.call f vs)):lw.Holds:=by
 w_on
 refine holds_law aQv fun said=>?_
 refine PySem.W.holds_open (q:=q1) (loose:=bQ) (Xt:=XtF) (XP:=XL q1 []) (Yf:=hook.obs) (Ya:=hook.val) (YP:=YP) (d:=aQt) (kwd:=[]) (N:=20000) aXg hook.of hook.keeps (fun s e=>xl_of s (Bool.and_eq_true_iff.mp e).1) XL.keeps (by kernel_rfl) (by kernel_rfl) (by kernel_rfl) (fun s e=>recFacts_of (Bool.and_eq_true_iff.mp e).2) (by rfl) said (by kernel_rfl) ⟨rfl,rfl,rfl,rfl,rfl,by decide +kernel⟩ ?hw walk
 w_witness2
noncomputable def K1 (P:Params):Frag:=[(3,o3 P),(4,o4),(44,o44),(43,o43),(105,aPn),(104,aTm),(112,aPo),(111,aTn),(123,aTq),(122,aTp),(130,aTs),(129,aTr),(137,aTu),(136,aTt),(144,aTw),(143,aTv),(183,aPp),(182,aUb),(176,aUa),(190,aPq),(189,aUc),(197,aPr),(196,aUd),(204,aPs),(203,aUe),(211,aPt),(210,aUf),(219,aPu),(218,aUh),(212,aUg),(226,aPv),(225,aUi),(233,aUk),(232,aUj),(241,aUn),(240,aUm),(234,aUl),(248,aUp),(247,aUo),(255,aUr),(254,aUq),(262,aUt),(261,aUs),(288,aPw),(287,aUw),(315,aPx),(314,aUx),(592,aPz),(591,aVg),(585,aVf),(599,aQa),(598,aVh),(606,aQb),(605,aVi),(768,aQc),(767,aVk),(761,aVj),(881,aQe),(880,aVn),(874,aVm),(888,aQf),(887,aVo),(896,aVr),(895,aVq),(904,aVt),(903,aVs),(897,wI),(911,aVv),(910,aVu),(918,aQg),(917,aVw),(925,aQh),(924,aVx),(932,aVz),(931,aVy),(940,aWc),(939,aWb),(933,aWa),(947,aQi),(946,aWd),(954,aQj),(953,aWe),(969,aQk),(968,aWi),(962,aWh),(984,aQn),(983,aWj),(991,aQo),(990,aWk),(998,aQp),(997,aWl),(1005,aGw),(1004,aOa),(1012,aGx),(1011,aOb),(1017,aGy),(1016,aOc),(1022,aGz),(1021,aOd),(976,aQl),(975,aLu),(265,aUv),(264,aUu P),(158,aTy),(157,aTx P),(822,aQd),(821,aVl P),(345,aVd),(344,aVc P),(318,aUz),(317,aUy P),(957,aWg),(956,aWf P),(575,aPy),(574,aVe P),(2,o2 P),(1,o1 P),(114,aTo),(159,aTz),(274,aGv),(319,aVa),(889,aVp),(977,aQm),(273,aLt)]
theorem aXi (w:World):([3,4,44,43,105,104,112,111,123,122,130,129,137,136,144,143,183,182,176,190,189,197,196,204,203,211,210,219,218,212,226,225,233,232,241,240,234,248,247,255,254,262,261,288,287,315,314,592,591,585,599,598,606,605,768,767,761,881,880,874,888,887,896,895,904,903,897,911,910,918,917,925,924,932,931,940,939,933,947,946,954,953,969,968,962,984,983,991,990,998,997,1005,1004,1012,1011,1017,1016,1022,1021,976,975,265,264,158,157,822,821,345,344,318,317,957,956,575,574,2,1,114,159,274,319,889,977,273]:List Addr).map (nV w).get? = (K1 w.params).map (fun p=>some p.2):=by
 kernel_rfl
theorem aQw (w:World):(K1 w.params).In (nV w):=Frag.in_of (as:=[3,4,44,43,105,104,112,111,123,122,130,129,137,136,144,143,183,182,176,190,189,197,196,204,203,211,210,219,218,212,226,225,233,232,241,240,234,248,247,255,254,262,261,288,287,315,314,592,591,585,599,598,606,605,768,767,761,881,880,874,888,887,896,895,904,903,897,911,910,918,917,925,924,932,931,940,939,933,947,946,954,953,969,968,962,984,983,991,990,998,997,1005,1004,1012,1011,1017,1016,1022,1021,976,975,265,264,158,157,822,821,345,344,318,317,957,956,575,574,2,1,114,159,274,319,889,977,273]) (by kernel_rfl) (aXi w)
theorem aXj {w:World} {h:Heap} (y:YP w h):(K1 w.params).In h:=fun a o e=>y a o (aQw w a o e)
noncomputable def aPl:Addr:=971
theorem aXk (w:World):(nV w).get? aPl=some { cls:=.none,data:=.fields #[] }:=by
 kernel_rfl
theorem aHl (P:Params):(K1 P).lookup aPl=none:=by
 kernel_rfl
noncomputable def c1 (w:World) (mg mb:Str→Option Value) (fl:FL):Cx:=⟨P0,w,K1 w.params,q1,looseW q1 bQ,mg,mb,aPl,fl,none⟩
noncomputable abbrev wM:Addr:=105
noncomputable abbrev aHm:List Nat:=[3,4]
theorem aDi (P:Params):(K1 P).lookup 105=some (aPn):=by kernel_rfl
noncomputable abbrev pW:Addr:=112
noncomputable abbrev aHn:List Nat:=[3,5]
theorem aDj (P:Params):(K1 P).lookup 112=some (aPo):=by kernel_rfl
noncomputable abbrev sY:Addr:=183
noncomputable abbrev aDk:List Nat:=[5,1]
theorem zG (P:Params):(K1 P).lookup 183=some (aPp):=by kernel_rfl
noncomputable abbrev jZ:Addr:=190
noncomputable abbrev rV:List Nat:=[5,2]
theorem pX (P:Params):(K1 P).lookup 190=some (aPq):=by kernel_rfl
noncomputable abbrev kA:Addr:=197
noncomputable abbrev rW:List Nat:=[5,3]
theorem pY (P:Params):(K1 P).lookup 197=some (aPr):=by kernel_rfl
noncomputable abbrev kD:Addr:=204
noncomputable abbrev rX:List Nat:=[5,4]
theorem pZ (P:Params):(K1 P).lookup 204=some (aPs):=by kernel_rfl
noncomputable abbrev lU:Addr:=211
noncomputable abbrev uI:List Nat:=[5,5]
theorem rY (P:Params):(K1 P).lookup 211=some (aPt):=by kernel_rfl
noncomputable abbrev bH:Addr:=219
noncomputable abbrev aX:List Nat:=[5,6]
theorem bS (P:Params):(K1 P).lookup 219=some (aPu):=by kernel_rfl
noncomputable abbrev bV:Addr:=226
noncomputable abbrev fF:List Nat:=[5,7]
theorem eH (P:Params):(K1 P).lookup 226=some (aPv):=by kernel_rfl
noncomputable abbrev aLy:Addr:=288
noncomputable abbrev aLz:List Nat:=[9]
theorem aHo (P:Params):(K1 P).lookup 288=some (aPw):=by kernel_rfl
noncomputable abbrev lV:Addr:=315
noncomputable abbrev bJ:List Nat:=[11,1]
theorem rZ (P:Params):(K1 P).lookup 315=some (aPx):=by kernel_rfl
noncomputable abbrev sZ:Addr:=592
noncomputable abbrev aDl:List Nat:=[15,1]
theorem zH (P:Params):(K1 P).lookup 592=some (aPz):=by kernel_rfl
noncomputable abbrev gV:Addr:=599
noncomputable abbrev nW:List Nat:=[15,2]
theorem mY (P:Params):(K1 P).lookup 599=some (aQa):=by kernel_rfl
noncomputable abbrev qA:Addr:=606
noncomputable abbrev zI:List Nat:=[15,3]
theorem wN (P:Params):(K1 P).lookup 606=some (aQb):=by kernel_rfl
noncomputable abbrev tA:Addr:=768
noncomputable abbrev aDm:List Nat:=[15,25]
theorem zJ (P:Params):(K1 P).lookup 768=some (aQc):=by kernel_rfl
noncomputable abbrev tB:Addr:=881
noncomputable abbrev aDn:List Nat:=[25,1]
theorem zK (P:Params):(K1 P).lookup 881=some (aQe):=by kernel_rfl
noncomputable abbrev cJ:Addr:=888
noncomputable abbrev gM:List Nat:=[25,2]
theorem fT (P:Params):(K1 P).lookup 888=some (aQf):=by kernel_rfl
noncomputable abbrev dY:Addr:=918
noncomputable abbrev iL:List Nat:=[25,6]
theorem gW (P:Params):(K1 P).lookup 918=some (aQg):=by kernel_rfl
noncomputable abbrev dF:Addr:=925
noncomputable abbrev gX:List Nat:=[25,7]
theorem fU (P:Params):(K1 P).lookup 925=some (aQh):=by kernel_rfl
noncomputable abbrev tC:Addr:=947
noncomputable abbrev aDo:List Nat:=[25,10]
theorem zL (P:Params):(K1 P).lookup 947=some (aQi):=by kernel_rfl
noncomputable abbrev jH:Addr:=954
noncomputable abbrev jI:List Nat:=[25,11]
theorem qB (P:Params):(K1 P).lookup 954=some (aQj):=by kernel_rfl
noncomputable abbrev aMa:Addr:=969
noncomputable abbrev uJ:List Nat:=[26]
theorem aHp (P:Params):(K1 P).lookup 969=some (aQk):=by kernel_rfl
noncomputable abbrev aMb:Addr:=984
noncomputable abbrev aMc:List Nat:=[30]
theorem aHq (P:Params):(K1 P).lookup 984=some (aQn):=by kernel_rfl
noncomputable abbrev aDp:Addr:=991
noncomputable abbrev aDq:List Nat:=[32]
theorem zM (P:Params):(K1 P).lookup 991=some (aQo):=by kernel_rfl
noncomputable abbrev aDr:Addr:=998
noncomputable abbrev tD:List Nat:=[33]
theorem qC (P:Params):(K1 P).lookup 998=some (aQp):=by kernel_rfl
noncomputable abbrev uK:Addr:=1005
noncomputable abbrev uL:List Nat:=[34]
theorem sA (P:Params):(K1 P).lookup 1005=some (aGw):=by kernel_rfl
noncomputable abbrev wO:Addr:=1012
noncomputable abbrev eX:List Nat:=[35]
theorem uM (P:Params):(K1 P).lookup 1012=some (aGx):=by kernel_rfl
noncomputable abbrev zN:Addr:=1017
noncomputable abbrev zO:List Nat:=[36]
theorem wP (P:Params):(K1 P).lookup 1017=some (aGy):=by kernel_rfl
noncomputable abbrev aU:List Nat:=[37]
theorem aQx (P:Params):(K1 P).lookup 1022=some (aGz):=by kernel_rfl
noncomputable abbrev aQy:Addr:=976
noncomputable abbrev aQz:List Nat:=[27]
theorem aMd (P:Params):(K1 P).lookup 976=some (aQl):=by kernel_rfl
noncomputable abbrev aD:Addr:=265
noncomputable abbrev aL:Addr:=158
noncomputable abbrev aJ:Addr:=822
noncomputable abbrev aI:Addr:=957
section
variable (w:World) (mg mb:Str→Option Value) (fl:FL)
theorem qD:findIn (c1 w mg mb fl).K (.ref aD) (Str.ofString "set_seqs")=some (some (.ref jZ)):=by kernel_rfl
theorem qE:findIn (c1 w mg mb fl).K (.ref aD) (Str.ofString "set_seq1")=some (some (.ref kA)):=by kernel_rfl
theorem qF:findIn (c1 w mg mb fl).K (.ref aD) (Str.ofString "set_seq2")=some (some (.ref kD)):=by kernel_rfl
theorem sC:findIn (c1 w mg mb fl).K (.ref aD) (Str.ofString "_SequenceMatcher__chain_b")=some (some (.ref lU)):=by kernel_rfl
theorem fG:findIn (c1 w mg mb fl).K (.ref aD) (Str.ofString "find_longest_match")=some (some (.ref bH)):=by kernel_rfl
theorem eJ:findIn (c1 w mg mb fl).K (.ref aD) (Str.ofString "get_matching_blocks")=some (some (.ref bV)):=by kernel_rfl
theorem mZ:findIn (c1 w mg mb fl).K (.ref aJ) (Str.ofString "_StringIO__translated")=some (some (.ref gV)):=by kernel_rfl
theorem wQ:findIn (c1 w mg mb fl).K (.ref aJ) (Str.ofString "_StringIO__check")=some (some (.ref qA)):=by kernel_rfl
theorem zP:findIn (c1 w mg mb fl).K (.ref aJ) (Str.ofString "read")=some (some (.ref tA)):=by kernel_rfl
theorem nY:findIn (c1 w mg mb fl).K (.ref aI) (Str.ofString "get_token")=some (some (.ref dY)):=by kernel_rfl
theorem nA:findIn (c1 w mg mb fl).K (.ref aI) (Str.ofString "read_token")=some (some (.ref dF)):=by kernel_rfl
theorem aN (n:Str):plainGet (c1 w mg mb fl).K aD n=true:=by kernel_rfl
theorem aO:hasDictIn (c1 w mg mb fl).K aD=true:=by kernel_rfl
theorem kR:findIn (c1 w mg mb fl).K (.ref aD) (Str.ofString "__setattr__")=some (some (.builtin "object.__setattr__")):=by kernel_rfl
theorem kS:plainOver (c1 w mg mb fl).K aD=true:=by kernel_rfl
theorem cY:findIn (c1 w mg mb fl).K (.ref aD) (Str.ofString "a")=some none:=by kernel_rfl
theorem iM:takerIn (c1 w mg mb fl).K aD (Str.ofString "a")=some none:=by kernel_rfl
theorem bL:findIn (c1 w mg mb fl).K (.ref aD) (Str.ofString "autojunk")=some none:=by kernel_rfl
theorem dM:takerIn (c1 w mg mb fl).K aD (Str.ofString "autojunk")=some none:=by kernel_rfl
theorem cZ:findIn (c1 w mg mb fl).K (.ref aD) (Str.ofString "b")=some none:=by kernel_rfl
theorem iO:takerIn (c1 w mg mb fl).K aD (Str.ofString "b")=some none:=by kernel_rfl
theorem cK:findIn (c1 w mg mb fl).K (.ref aD) (Str.ofString "b2j")=some none:=by kernel_rfl
theorem gO:takerIn (c1 w mg mb fl).K aD (Str.ofString "b2j")=some none:=by kernel_rfl
theorem bW:findIn (c1 w mg mb fl).K (.ref aD) (Str.ofString "bjunk")=some none:=by kernel_rfl
theorem fH:takerIn (c1 w mg mb fl).K aD (Str.ofString "bjunk")=some none:=by kernel_rfl
theorem dN:takerIn (c1 w mg mb fl).K aD (Str.ofString "bpopular")=some none:=by kernel_rfl
theorem dA:takerIn (c1 w mg mb fl).K aD (Str.ofString "fullbcount")=some none:=by kernel_rfl
theorem bN:findIn (c1 w mg mb fl).K (.ref aD) (Str.ofString "isjunk")=some none:=by kernel_rfl
theorem eK:takerIn (c1 w mg mb fl).K aD (Str.ofString "isjunk")=some none:=by kernel_rfl
theorem bC:findIn (c1 w mg mb fl).K (.ref aD) (Str.ofString "matching_blocks")=some none:=by kernel_rfl
theorem bX:takerIn (c1 w mg mb fl).K aD (Str.ofString "matching_blocks")=some none:=by kernel_rfl
theorem dZ:takerIn (c1 w mg mb fl).K aD (Str.ofString "opcodes")=some none:=by kernel_rfl
theorem eY (n:Str):plainGet (c1 w mg mb fl).K aJ n=true:=by kernel_rfl
theorem fA:hasDictIn (c1 w mg mb fl).K aJ=true:=by kernel_rfl
theorem wR:findIn (c1 w mg mb fl).K (.ref aJ) (Str.ofString "__setattr__")=some (some (.builtin "object.__setattr__")):=by kernel_rfl
theorem wS:plainOver (c1 w mg mb fl).K aJ=true:=by kernel_rfl
theorem bO:findIn (c1 w mg mb fl).K (.ref aJ) (Str.ofString "_StringIO__buf")=some none:=by kernel_rfl
theorem eL:takerIn (c1 w mg mb fl).K aJ (Str.ofString "_StringIO__buf")=some none:=by kernel_rfl
theorem bI:findIn (c1 w mg mb fl).K (.ref aJ) (Str.ofString "_StringIO__newline")=some none:=by kernel_rfl
theorem dC:takerIn (c1 w mg mb fl).K aJ (Str.ofString "_StringIO__newline")=some none:=by kernel_rfl
theorem bP:findIn (c1 w mg mb fl).K (.ref aJ) (Str.ofString "_StringIO__pos")=some none:=by kernel_rfl
theorem eM:takerIn (c1 w mg mb fl).K aJ (Str.ofString "_StringIO__pos")=some none:=by kernel_rfl
theorem aV (n:Str):plainGet (c1 w mg mb fl).K aI n=true:=by kernel_rfl
theorem aW:hasDictIn (c1 w mg mb fl).K aI=true:=by kernel_rfl
theorem aHr:findIn (c1 w mg mb fl).K (.ref aI) (Str.ofString "__setattr__")=some (some (.builtin "object.__setattr__")):=by kernel_rfl
theorem aHs:plainOver (c1 w mg mb fl).K aI=true:=by kernel_rfl
theorem bM:findIn (c1 w mg mb fl).K (.ref aI) (Str.ofString "_punctuation_chars")=some none:=by kernel_rfl
theorem eA:takerIn (c1 w mg mb fl).K aI (Str.ofString "_punctuation_chars")=some none:=by kernel_rfl
theorem dG:findIn (c1 w mg mb fl).K (.ref aI) (Str.ofString "commenters")=some none:=by kernel_rfl
theorem jN:takerIn (c1 w mg mb fl).K aI (Str.ofString "commenters")=some none:=by kernel_rfl
theorem iP:findIn (c1 w mg mb fl).K (.ref aI) (Str.ofString "debug")=some none:=by kernel_rfl
theorem qG:takerIn (c1 w mg mb fl).K aI (Str.ofString "debug")=some none:=by kernel_rfl
theorem lW:findIn (c1 w mg mb fl).K (.ref aI) (Str.ofString "eof")=some none:=by kernel_rfl
theorem uN:takerIn (c1 w mg mb fl).K aI (Str.ofString "eof")=some none:=by kernel_rfl
theorem gY:findIn (c1 w mg mb fl).K (.ref aI) (Str.ofString "escape")=some none:=by kernel_rfl
theorem nZ:takerIn (c1 w mg mb fl).K aI (Str.ofString "escape")=some none:=by kernel_rfl
theorem gP:takerIn (c1 w mg mb fl).K aI (Str.ofString "escapedquotes")=some none:=by kernel_rfl
theorem eB:findIn (c1 w mg mb fl).K (.ref aI) (Str.ofString "filestack")=some none:=by kernel_rfl
theorem kU:takerIn (c1 w mg mb fl).K aI (Str.ofString "filestack")=some none:=by kernel_rfl
theorem oA:takerIn (c1 w mg mb fl).K aI (Str.ofString "infile")=some none:=by kernel_rfl
theorem fB:findIn (c1 w mg mb fl).K (.ref aI) (Str.ofString "instream")=some none:=by kernel_rfl
theorem lX:takerIn (c1 w mg mb fl).K aI (Str.ofString "instream")=some none:=by kernel_rfl
theorem oB:takerIn (c1 w mg mb fl).K aI (Str.ofString "lineno")=some none:=by kernel_rfl
theorem iQ:findIn (c1 w mg mb fl).K (.ref aI) (Str.ofString "posix")=some none:=by kernel_rfl
theorem qH:takerIn (c1 w mg mb fl).K aI (Str.ofString "posix")=some none:=by kernel_rfl
theorem fC:findIn (c1 w mg mb fl).K (.ref aI) (Str.ofString "pushback")=some none:=by kernel_rfl
theorem lY:takerIn (c1 w mg mb fl).K aI (Str.ofString "pushback")=some none:=by kernel_rfl
theorem hG:findIn (c1 w mg mb fl).K (.ref aI) (Str.ofString "quotes")=some none:=by kernel_rfl
theorem oE:takerIn (c1 w mg mb fl).K aI (Str.ofString "quotes")=some none:=by kernel_rfl
theorem hH:findIn (c1 w mg mb fl).K (.ref aI) (Str.ofString "source")=some none:=by kernel_rfl
theorem oG:takerIn (c1 w mg mb fl).K aI (Str.ofString "source")=some none:=by kernel_rfl
theorem iR:findIn (c1 w mg mb fl).K (.ref aI) (Str.ofString "state")=some none:=by kernel_rfl
theorem qI:takerIn (c1 w mg mb fl).K aI (Str.ofString "state")=some none:=by kernel_rfl
theorem iT:findIn (c1 w mg mb fl).K (.ref aI) (Str.ofString "token")=some none:=by kernel_rfl
theorem qJ:takerIn (c1 w mg mb fl).K aI (Str.ofString "token")=some none:=by kernel_rfl
theorem dH:findIn (c1 w mg mb fl).K (.ref aI) (Str.ofString "whitespace")=some none:=by kernel_rfl
theorem jO:takerIn (c1 w mg mb fl).K aI (Str.ofString "whitespace")=some none:=by kernel_rfl
theorem eO:takerIn (c1 w mg mb fl).K aI (Str.ofString "whitespace_split")=some none:=by kernel_rfl
theorem eD:findIn (c1 w mg mb fl).K (.ref aI) (Str.ofString "wordchars")=some none:=by kernel_rfl
theorem kX:takerIn (c1 w mg mb fl).K aI (Str.ofString "wordchars")=some none:=by kernel_rfl
theorem aHt (P:Params):nsIn (K1 P) mainGlobals (Str.ofString "len")=some none∧(Str.ofString "len" == ("__debug__" : Str))=false:=⟨by kernel_rfl,by kernel_rfl⟩
theorem kE (P:Params):nsIn (K1 P) mainGlobals (Str.ofString "isinstance")=some none∧(Str.ofString "isinstance" == ("__debug__" : Str))=false:=⟨by kernel_rfl,by kernel_rfl⟩
theorem lZ (P:Params):nsIn (K1 P) mainGlobals (Str.ofString "enumerate")=some none∧(Str.ofString "enumerate" == ("__debug__" : Str))=false:=⟨by kernel_rfl,by kernel_rfl⟩
theorem wT (P:Params):nsIn (K1 P) mainGlobals (Str.ofString "range")=some none∧(Str.ofString "range" == ("__debug__" : Str))=false:=⟨by kernel_rfl,by kernel_rfl⟩
theorem aHu (P:Params):nsIn (K1 P) mainGlobals (Str.ofString "set")=some none∧(Str.ofString "set" == ("__debug__" : Str))=false:=⟨by kernel_rfl,by kernel_rfl⟩
theorem aBd (P:Params):nsIn (K1 P) mainGlobals (Str.ofString "list")=some none∧(Str.ofString "list" == ("__debug__" : Str))=false:=⟨by kernel_rfl,by kernel_rfl⟩
theorem wU (P:Params):nsIn (K1 P) mainGlobals (Str.ofString "tuple")=some none∧(Str.ofString "tuple" == ("__debug__" : Str))=false:=⟨by kernel_rfl,by kernel_rfl⟩
theorem aHv (P:Params):nsIn (K1 P) mainGlobals (Str.ofString "map")=some none∧(Str.ofString "map" == ("__debug__" : Str))=false:=⟨by kernel_rfl,by kernel_rfl⟩
theorem aHw (P:Params):nsIn (K1 P) mainGlobals (Str.ofString "str")=some none∧(Str.ofString "str" == ("__debug__" : Str))=false:=⟨by kernel_rfl,by kernel_rfl⟩
theorem aHx (P:Params):nsIn (K1 P) mainGlobals (Str.ofString "int")=some none∧(Str.ofString "int" == ("__debug__" : Str))=false:=⟨by kernel_rfl,by kernel_rfl⟩
theorem aBe (P:Params):nsIn (K1 P) mainGlobals (Str.ofString "type")=some none∧(Str.ofString "type" == ("__debug__" : Str))=false:=⟨by kernel_rfl,by kernel_rfl⟩
theorem tE (P:Params):nsIn (K1 P) mainGlobals (Str.ofString "object")=some none∧(Str.ofString "object" == ("__debug__" : Str))=false:=⟨by kernel_rfl,by kernel_rfl⟩
theorem nB (P:Params):nsIn (K1 P) mainGlobals (Str.ofString "StopIteration")=some none∧(Str.ofString "StopIteration" == ("__debug__" : Str))=false:=⟨by kernel_rfl,by kernel_rfl⟩
theorem eE (P:Params):nsIn (K1 P) mainGlobals (Str.ofString "SequenceMatcher")=some (some (.ref 265))∧(Str.ofString "SequenceMatcher" == ("__debug__" : Str))=false:=⟨by kernel_rfl,by kernel_rfl⟩
theorem wV (P:Params):nsIn (K1 P) mainGlobals (Str.ofString "Match")=some (some (.ref 158))∧(Str.ofString "Match" == ("__debug__" : Str))=false:=⟨by kernel_rfl,by kernel_rfl⟩
theorem nN (P:Params):nsIn (K1 P) mainGlobals (Str.ofString "StringIO")=some (some (.ref 822))∧(Str.ofString "StringIO" == ("__debug__" : Str))=false:=⟨by kernel_rfl,by kernel_rfl⟩
theorem wW (P:Params):nsIn (K1 P) mainGlobals (Str.ofString "shlex")=some (some (.ref 957))∧(Str.ofString "shlex" == ("__debug__" : Str))=false:=⟨by kernel_rfl,by kernel_rfl⟩
theorem wX (P:Params):nsIn (K1 P) mainGlobals (Str.ofString "_index")=some (some (.ref 288))∧(Str.ofString "_index" == ("__debug__" : Str))=false:=⟨by kernel_rfl,by kernel_rfl⟩
theorem wY (P:Params):nsIn (K1 P) mainGlobals (Str.ofString "quote")=some (some (.ref 984))∧(Str.ofString "quote" == ("__debug__" : Str))=false:=⟨by kernel_rfl,by kernel_rfl⟩
theorem wZ (P:Params):nsIn (K1 P) mainGlobals (Str.ofString "split")=some (some (.ref 969))∧(Str.ofString "split" == ("__debug__" : Str))=false:=⟨by kernel_rfl,by kernel_rfl⟩
theorem kF (P:Params):nsIn (K1 P) mainGlobals (Str.ofString "join_shlex")=some (some (.ref 976))∧(Str.ofString "join_shlex" == ("__debug__" : Str))=false:=⟨by kernel_rfl,by kernel_rfl⟩
theorem iU (P:Params):nsIn (K1 P) mainGlobals (Str.ofString "_find_unsafe")=some (some (.ref 977))∧(Str.ofString "_find_unsafe" == ("__debug__" : Str))=false:=⟨by kernel_rfl,by kernel_rfl⟩
theorem qK (P:Params):nsIn (K1 P) mainGlobals (Str.ofString "_law_run")=some (some (.ref 991))∧(Str.ofString "_law_run" == ("__debug__" : Str))=false:=⟨by kernel_rfl,by kernel_rfl⟩
theorem qM (P:Params):nsIn (K1 P) mainGlobals (Str.ofString "_law_cut")=some (some (.ref 998))∧(Str.ofString "_law_cut" == ("__debug__" : Str))=false:=⟨by kernel_rfl,by kernel_rfl⟩
theorem kG (P:Params):nsIn (K1 P) mainGlobals (Str.ofString "_law_blocks")=some (some (.ref 1005))∧(Str.ofString "_law_blocks" == ("__debug__" : Str))=false:=⟨by kernel_rfl,by kernel_rfl⟩
theorem mA (P:Params):nsIn (K1 P) mainGlobals (Str.ofString "_law_words")=some (some (.ref 1012))∧(Str.ofString "_law_words" == ("__debug__" : Str))=false:=⟨by kernel_rfl,by kernel_rfl⟩
theorem nO (P:Params):nsIn (K1 P) mainGlobals (Str.ofString "_law_line")=some (some (.ref 1017))∧(Str.ofString "_law_line" == ("__debug__" : Str))=false:=⟨by kernel_rfl,by kernel_rfl⟩
theorem qN (P:Params):nsIn (K1 P) mainGlobals (Str.ofString "BytesIO")=some (some (.ref 575))∧(Str.ofString "BytesIO" == ("__debug__" : Str))=false:=⟨by kernel_rfl,by kernel_rfl⟩
theorem xA (P:Params):nsIn (K1 P) mainGlobals (Str.ofString "deque")=some (some (.type "collections.deque"))∧(Str.ofString "deque" == ("__debug__" : Str))=false:=⟨by kernel_rfl,by kernel_rfl⟩
structure GA (c:Cx) (C:Addr) (name:Str):Prop where
 g:plainGet c.K C name=true
 h:hasDictIn c.K C=true
 f:findIn c.K (.ref C) name=some none
theorem iV:GA (c1 w mg mb fl) aD (Str.ofString "a"):=⟨aN w mg mb fl _,aO w mg mb fl,cY w mg mb fl⟩
theorem dP:GA (c1 w mg mb fl) aD (Str.ofString "autojunk"):=⟨aN w mg mb fl _,aO w mg mb fl,bL w mg mb fl⟩
theorem iW:GA (c1 w mg mb fl) aD (Str.ofString "b"):=⟨aN w mg mb fl _,aO w mg mb fl,cZ w mg mb fl⟩
theorem gQ:GA (c1 w mg mb fl) aD (Str.ofString "b2j"):=⟨aN w mg mb fl _,aO w mg mb fl,cK w mg mb fl⟩
theorem fJ:GA (c1 w mg mb fl) aD (Str.ofString "bjunk"):=⟨aN w mg mb fl _,aO w mg mb fl,bW w mg mb fl⟩
theorem eP:GA (c1 w mg mb fl) aD (Str.ofString "isjunk"):=⟨aN w mg mb fl _,aO w mg mb fl,bN w mg mb fl⟩
theorem bZ:GA (c1 w mg mb fl) aD (Str.ofString "matching_blocks"):=⟨aN w mg mb fl _,aO w mg mb fl,bC w mg mb fl⟩
theorem eQ:GA (c1 w mg mb fl) aJ (Str.ofString "_StringIO__buf"):=⟨eY w mg mb fl _,fA w mg mb fl,bO w mg mb fl⟩
theorem dD:GA (c1 w mg mb fl) aJ (Str.ofString "_StringIO__newline"):=⟨eY w mg mb fl _,fA w mg mb fl,bI w mg mb fl⟩
theorem eR:GA (c1 w mg mb fl) aJ (Str.ofString "_StringIO__pos"):=⟨eY w mg mb fl _,fA w mg mb fl,bP w mg mb fl⟩
theorem eF:GA (c1 w mg mb fl) aI (Str.ofString "_punctuation_chars"):=⟨aV w mg mb fl _,aW w mg mb fl,bM w mg mb fl⟩
theorem jP:GA (c1 w mg mb fl) aI (Str.ofString "commenters"):=⟨aV w mg mb fl _,aW w mg mb fl,dG w mg mb fl⟩
theorem qO:GA (c1 w mg mb fl) aI (Str.ofString "debug"):=⟨aV w mg mb fl _,aW w mg mb fl,iP w mg mb fl⟩
theorem uO:GA (c1 w mg mb fl) aI (Str.ofString "eof"):=⟨aV w mg mb fl _,aW w mg mb fl,lW w mg mb fl⟩
theorem oH:GA (c1 w mg mb fl) aI (Str.ofString "escape"):=⟨aV w mg mb fl _,aW w mg mb fl,gY w mg mb fl⟩
theorem kY:GA (c1 w mg mb fl) aI (Str.ofString "filestack"):=⟨aV w mg mb fl _,aW w mg mb fl,eB w mg mb fl⟩
theorem mB:GA (c1 w mg mb fl) aI (Str.ofString "instream"):=⟨aV w mg mb fl _,aW w mg mb fl,fB w mg mb fl⟩
theorem qP:GA (c1 w mg mb fl) aI (Str.ofString "posix"):=⟨aV w mg mb fl _,aW w mg mb fl,iQ w mg mb fl⟩
theorem mC:GA (c1 w mg mb fl) aI (Str.ofString "pushback"):=⟨aV w mg mb fl _,aW w mg mb fl,fC w mg mb fl⟩
theorem oI:GA (c1 w mg mb fl) aI (Str.ofString "quotes"):=⟨aV w mg mb fl _,aW w mg mb fl,hG w mg mb fl⟩
theorem oJ:GA (c1 w mg mb fl) aI (Str.ofString "source"):=⟨aV w mg mb fl _,aW w mg mb fl,hH w mg mb fl⟩
theorem qQ:GA (c1 w mg mb fl) aI (Str.ofString "state"):=⟨aV w mg mb fl _,aW w mg mb fl,iR w mg mb fl⟩
theorem qR:GA (c1 w mg mb fl) aI (Str.ofString "token"):=⟨aV w mg mb fl _,aW w mg mb fl,iT w mg mb fl⟩
theorem jQ:GA (c1 w mg mb fl) aI (Str.ofString "whitespace"):=⟨aV w mg mb fl _,aW w mg mb fl,dH w mg mb fl⟩
theorem kZ:GA (c1 w mg mb fl) aI (Str.ofString "wordchars"):=⟨aV w mg mb fl _,aW w mg mb fl,eD w mg mb fl⟩
end
section
variable {w:World} {mg mb:Str→Option Value} {fl:FL} {sc:Scope} {U D:Nat} {loc:Loc} {σ:AH} {pos:Pos} {R:AV→AH→Prop}
theorem aHy (hk:sc.names.lookup (Str.ofString "len")=some .globalImplicit) (h:R (.bi "len") σ):EvE (c1 w mg mb fl) sc U D (.Name (Str.ofString "len") pos) loc σ R :=
 aQ (v:=.builtin "len") hk (aHt w.params).2 (aHt w.params).1 PyProof.Rows.Boot.«len» (by decide +kernel) (fun x y=>.bi _) h
theorem oK (hk:sc.names.lookup (Str.ofString "isinstance")=some .globalImplicit) (h:R (.bi "isinstance") σ):EvE (c1 w mg mb fl) sc U D (.Name (Str.ofString "isinstance") pos) loc σ R :=
 aQ (v:=.builtin "isinstance") hk (kE w.params).2 (kE w.params).1 PyProof.Rows.Boot.«isinstance» (by decide +kernel) (fun x y=>.bi _) h
theorem qS (hk:sc.names.lookup (Str.ofString "enumerate")=some .globalImplicit) (h:R (.ty "enumerate") σ):EvE (c1 w mg mb fl) sc U D (.Name (Str.ofString "enumerate") pos) loc σ R :=
 aQ (v:=.type "enumerate") hk (lZ w.params).2 (lZ w.params).1 PyProof.Rows.Boot.«enumerate» (by decide +kernel) (fun x y=>.ty _) h
theorem zQ (hk:sc.names.lookup (Str.ofString "range")=some .globalImplicit) (h:R (.ty "range") σ):EvE (c1 w mg mb fl) sc U D (.Name (Str.ofString "range") pos) loc σ R :=
 aQ (v:=.type "range") hk (wT w.params).2 (wT w.params).1 PyProof.Rows.Boot.«range» (by decide +kernel) (fun x y=>.ty _) h
theorem aHz (hk:sc.names.lookup (Str.ofString "set")=some .globalImplicit) (h:R (.ty "set") σ):EvE (c1 w mg mb fl) sc U D (.Name (Str.ofString "set") pos) loc σ R :=
 aQ (v:=.type "set") hk (aHu w.params).2 (aHu w.params).1 PyProof.Rows.Boot.«set» (by decide +kernel) (fun x y=>.ty _) h
theorem aDs (hk:sc.names.lookup (Str.ofString "list")=some .globalImplicit) (h:R (.ty "list") σ):EvE (c1 w mg mb fl) sc U D (.Name (Str.ofString "list") pos) loc σ R :=
 aQ (v:=.type "list") hk (aBd w.params).2 (aBd w.params).1 PyProof.Rows.Boot.«list» (by decide +kernel) (fun x y=>.ty _) h
theorem lA (hk:sc.names.lookup (Str.ofString "tuple")=some .globalImplicit) (h:R (.ty "tuple") σ):EvE (c1 w mg mb fl) sc U D (.Name (Str.ofString "tuple") pos) loc σ R :=
 aQ (v:=.type "tuple") hk (wU w.params).2 (wU w.params).1 PyProof.Rows.Boot.«tuple» (by decide +kernel) (fun x y=>.ty _) h
theorem aIa (hk:sc.names.lookup (Str.ofString "map")=some .globalImplicit) (h:R (.ty "map") σ):EvE (c1 w mg mb fl) sc U D (.Name (Str.ofString "map") pos) loc σ R :=
 aQ (v:=.type "map") hk (aHv w.params).2 (aHv w.params).1 PyProof.Rows.Boot.«map» (by decide +kernel) (fun x y=>.ty _) h
theorem aIb (hk:sc.names.lookup (Str.ofString "str")=some .globalImplicit) (h:R (.ty "str") σ):EvE (c1 w mg mb fl) sc U D (.Name (Str.ofString "str") pos) loc σ R :=
 aQ (v:=.type "str") hk (aHw w.params).2 (aHw w.params).1 PyProof.Rows.Boot.«str» (by decide +kernel) (fun x y=>.ty _) h
theorem aIc (hk:sc.names.lookup (Str.ofString "int")=some .globalImplicit) (h:R (.ty "int") σ):EvE (c1 w mg mb fl) sc U D (.Name (Str.ofString "int") pos) loc σ R :=
 aQ (v:=.type "int") hk (aHx w.params).2 (aHx w.params).1 PyProof.Rows.Boot.«int» (by decide +kernel) (fun x y=>.ty _) h
theorem aDt (hk:sc.names.lookup (Str.ofString "type")=some .globalImplicit) (h:R (.ty "type") σ):EvE (c1 w mg mb fl) sc U D (.Name (Str.ofString "type") pos) loc σ R :=
 aQ (v:=.type "type") hk (aBe w.params).2 (aBe w.params).1 PyProof.Rows.Boot.«type» (by decide +kernel) (fun x y=>.ty _) h
theorem xB (hk:sc.names.lookup (Str.ofString "object")=some .globalImplicit) (h:R (.ty "object") σ):EvE (c1 w mg mb fl) sc U D (.Name (Str.ofString "object") pos) loc σ R :=
 aQ (v:=.type "object") hk (tE w.params).2 (tE w.params).1 PyProof.Rows.Boot.«object» (by decide +kernel) (fun x y=>.ty _) h
theorem lB (hk:sc.names.lookup (Str.ofString "SequenceMatcher")=some .globalImplicit) (h:R (.glob 265) σ):EvE (c1 w mg mb fl) sc U D (.Name (Str.ofString "SequenceMatcher") pos) loc σ R :=
 aP (v:=.ref 265) hk (eE w.params).2 (eE w.params).1 (fun x y=>.glob _) h
theorem aId (hk:sc.names.lookup (Str.ofString "Match")=some .globalImplicit) (h:R (.glob 158) σ):EvE (c1 w mg mb fl) sc U D (.Name (Str.ofString "Match") pos) loc σ R :=
 aP (v:=.ref 158) hk (wV w.params).2 (wV w.params).1 (fun x y=>.glob _) h
theorem xC (hk:sc.names.lookup (Str.ofString "StringIO")=some .globalImplicit) (h:R (.glob 822) σ):EvE (c1 w mg mb fl) sc U D (.Name (Str.ofString "StringIO") pos) loc σ R :=
 aP (v:=.ref 822) hk (nN w.params).2 (nN w.params).1 (fun x y=>.glob _) h
theorem aIe (hk:sc.names.lookup (Str.ofString "shlex")=some .globalImplicit) (h:R (.glob 957) σ):EvE (c1 w mg mb fl) sc U D (.Name (Str.ofString "shlex") pos) loc σ R :=
 aP (v:=.ref 957) hk (wW w.params).2 (wW w.params).1 (fun x y=>.glob _) h
theorem aIf (hk:sc.names.lookup (Str.ofString "_index")=some .globalImplicit) (h:R (.glob 288) σ):EvE (c1 w mg mb fl) sc U D (.Name (Str.ofString "_index") pos) loc σ R :=
 aP (v:=.ref 288) hk (wX w.params).2 (wX w.params).1 (fun x y=>.glob _) h
theorem aIg (hk:sc.names.lookup (Str.ofString "quote")=some .globalImplicit) (h:R (.glob 984) σ):EvE (c1 w mg mb fl) sc U D (.Name (Str.ofString "quote") pos) loc σ R :=
 aP (v:=.ref 984) hk (wY w.params).2 (wY w.params).1 (fun x y=>.glob _) h
theorem xD (hk:sc.names.lookup (Str.ofString "split")=some .globalImplicit) (h:R (.glob 969) σ):EvE (c1 w mg mb fl) sc U D (.Name (Str.ofString "split") pos) loc σ R :=
 aP (v:=.ref 969) hk (wZ w.params).2 (wZ w.params).1 (fun x y=>.glob _) h
theorem sD (hk:sc.names.lookup (Str.ofString "join_shlex")=some .globalImplicit) (h:R (.glob 976) σ):EvE (c1 w mg mb fl) sc U D (.Name (Str.ofString "join_shlex") pos) loc σ R :=
 aP (v:=.ref 976) hk (kF w.params).2 (kF w.params).1 (fun x y=>.glob _) h
theorem qT (hk:sc.names.lookup (Str.ofString "_find_unsafe")=some .globalImplicit) (h:R (.glob 977) σ):EvE (c1 w mg mb fl) sc U D (.Name (Str.ofString "_find_unsafe") pos) loc σ R :=
 aP (v:=.ref 977) hk (iU w.params).2 (iU w.params).1 (fun x y=>.glob _) h
theorem zR (hk:sc.names.lookup (Str.ofString "_law_run")=some .globalImplicit) (h:R (.glob 991) σ):EvE (c1 w mg mb fl) sc U D (.Name (Str.ofString "_law_run") pos) loc σ R :=
 aP (v:=.ref 991) hk (qK w.params).2 (qK w.params).1 (fun x y=>.glob _) h
theorem zS (hk:sc.names.lookup (Str.ofString "_law_cut")=some .globalImplicit) (h:R (.glob 998) σ):EvE (c1 w mg mb fl) sc U D (.Name (Str.ofString "_law_cut") pos) loc σ R :=
 aP (v:=.ref 998) hk (qM w.params).2 (qM w.params).1 (fun x y=>.glob _) h
theorem sE (hk:sc.names.lookup (Str.ofString "_law_blocks")=some .globalImplicit) (h:R (.glob 1005) σ):EvE (c1 w mg mb fl) sc U D (.Name (Str.ofString "_law_blocks") pos) loc σ R :=
 aP (v:=.ref 1005) hk (kG w.params).2 (kG w.params).1 (fun x y=>.glob _) h
theorem mD (hk:sc.names.lookup (Str.ofString "_law_words")=some .globalImplicit) (h:R (.glob 1012) σ):EvE (c1 w mg mb fl) sc U D (.Name (Str.ofString "_law_words") pos) loc σ R :=
 aP (v:=.ref 1012) hk (mA w.params).2 (mA w.params).1 (fun x y=>.glob _) h
theorem xE (hk:sc.names.lookup (Str.ofString "_law_line")=some .globalImplicit) (h:R (.glob 1017) σ):EvE (c1 w mg mb fl) sc U D (.Name (Str.ofString "_law_line") pos) loc σ R :=
 aP (v:=.ref 1017) hk (nO w.params).2 (nO w.params).1 (fun x y=>.glob _) h
theorem zT (hk:sc.names.lookup (Str.ofString "BytesIO")=some .globalImplicit) (h:R (.glob 575) σ):EvE (c1 w mg mb fl) sc U D (.Name (Str.ofString "BytesIO") pos) loc σ R :=
 aP (v:=.ref 575) hk (qN w.params).2 (qN w.params).1 (fun x y=>.glob _) h
theorem aIh (hk:sc.names.lookup (Str.ofString "deque")=some .globalImplicit) (h:R (.ty "collections.deque") σ):EvE (c1 w mg mb fl) sc U D (.Name (Str.ofString "deque") pos) loc σ R :=
 aP (v:=.type "collections.deque") hk (xA w.params).2 (xA w.params).1 (fun x y=>.ty _) h
end
section
variable {c:Cx} {sc:Scope} {U D:Nat} {loc:Loc} {σ:AH}
theorem aRa {k d:Nat} {C f:Addr} {kvs:List (Str×AV)} {R:Option AV→AH→Prop} (e1:σ.get k=some (.inst C d)) (e2:σ.get d=some (.idict kvs)) (hs:findIn c.K (.ref C) "__next__" = some (some (.ref f))) (hf:isFn c.K (.ref f)=true)
  (h:CdV c sc U D (.glob f) [.ref k] [] loc σ fun a σ'=>R (some a) σ'):NxA c sc U D (.ref k) loc σ R:=fun A env L h₀ fm ρ X s Q E v S hv K=>by
 cases hv with
 | ref hk0 =>
 obtain ⟨es,n,I,hr⟩:100:=S.inst e1 e2
 obtain ⟨m,news,F,hm,H,N,nd⟩:100:=S.ex
 refine owit_next F fm.X I hs hf (wpAny_call ?_)
 refine h A env L h₀ fm ρ X s (fun r s'=>match r with | .ok (.ret v)=>Q (some v) s' | .ok _=>False | .error e=>OwitStop (model c.prog c.w) A Q E e s') (.ref f) [.ref (ρ k)] [] S (.glob _) (.cons (.ref _ hk0) .nil) .nil fun ρ' σ' a v s' ha va n' g' S' r'=>?_
 exact K.2 ρ' σ' a v s' ha va n' g' S' r'
theorem aRb {k d:Nat} {C f g:Addr} {kvs:List (Str×AV)} {R:AV→AH→Prop} (e1:σ.get k=some (.inst C d)) (e2:σ.get d=some (.idict kvs)) (hs:findIn c.K (.ref C) "__iter__" = some (some (.ref f))) (hf:isFn c.K (.ref f)=true) (hn:findIn c.K (.ref C) "__next__" = some (some (.ref g)))
  (h:CdV c sc U D (.glob f) [.ref k] [] loc σ fun a σ'=>a=.ref k∧σ'=σ) (hR:R (.ref k) σ):ItA c sc U D (.ref k) loc σ R:=fun A env L h₀ fm ρ X s Q E v S hv K=>by
 cases hv with
 | ref hk0 =>
 obtain ⟨es,n,I,hr⟩:100:=S.inst e1 e2
 obtain ⟨m,news,F,hm,H,N,nd⟩:100:=S.ex
 refine owit_iter F fm.X I hs hf (wpAny_call ?_)
 refine h A env L h₀ fm ρ X s (fun r s'=>match r with | .ok (.ret v)=>OwitIt (model c.prog c.w) A Q E v s' | .ok _=>False | .error e=>E e s') (.ref f) [.ref (ρ k)] [] S (.glob _) (.cons (.ref _ hk0) .nil) .nil fun ρ' σ' a v s' ⟨ea,es'⟩ va n' g' S' r'=>?_
 subst ea es'
 cases va
 obtain ⟨es,n,I',hr⟩:100:=S'.inst e1 e2
 obtain ⟨m,news,F',hm,H,N,nd⟩:100:=S'.ex
 exact owit_it F' fm.X I' hn (K ρ' _ _ _ s' hR (.ref _ hk0) n' g' S' r')
theorem aRc {k d:Nat} {C:Addr} {kvs:List (Str×AV)} {R:AH→Prop} (e1:σ.get k=some (.inst C d)) (e2:σ.get d=some (.idict kvs)) (hl:findIn c.K (.ref C) "__len__" = some none) (hh:findIn c.K (.ref C) "__length_hint__" = some none) (h:R σ):HnA c sc U D (.ref k) loc σ R:=fun A env L h₀ fm ρ X s Q E v S hv K=>by
 cases hv with
 | ref hk0 =>
 obtain ⟨es,n,I,hr⟩:100:=S.inst e1 e2
 haveI X2:=S.kin fm.X
 unfold Builtin.List.listLengthHint
 refine wpAny_bind (wpAny_bind (I.type.here ((looks_findIn X2 hl).here ?_)))
 dsimp only
 refine wpAny_bind (wpAny_bind (I.type.here ((looks_findIn X2 hh).here ?_)))
 exact wpAny_pure (K ρ σ _ s h (Te _) (Agree.refl _ _) S (Rest.refl _))
end
noncomputable def AH.del (σ:AH) (k:Nat):AH:=⟨σ.nx,σ.objs.filter fun p=>p.1 != k⟩
theorem qU {k j:Nat} (n:j≠k):∀ l:List (Nat×AO),(l.filter fun p=>p.1 != k).lookup j=l.lookup j
 | []=>rfl
 | (i,o)::r=>by
  haveI ih:=qU n r
  by_cases e:i=k
  ·subst e
   rw [List.filter_cons,if_neg (by simp),ih,List.lookup_cons,beq_false_of_ne n]
  ·rw [List.filter_cons,if_pos (by simpa using e),List.lookup_cons,List.lookup_cons,ih]
theorem lC {σ:AH} {k j:Nat} (n:j≠k):(σ.del k).get j=σ.get j:=by
 unfold AH.get AH.del
 dsimp only
 rw [qU n]
theorem Ext.del {ch:List Nat} {σ σ':AH} {k:Nat} (h:Ext ch σ σ') (hk:σ.nx≤k):Ext ch σ (σ'.del k):=⟨h.nx,fun j o hj e=>by
 haveI:=AH.get_lt e
 rw [lC (by exact (Nat.ne_of_lt (Tc this hk)))]
 exact h.old j o hj e⟩
theorem Ext.ofNew {ch:List Nat} {σ σ':AH} {o:AO} (h:Ext ch (σ.new o) σ'):Ext ch σ σ':=⟨Ta (Nat.le_succ _) h.nx,fun j p hj e=>h.old j p hj (aA e)⟩
theorem aRd {P:Params} {ρ:Nat→Addr} {n:Nat} {k:Nat} {L:Addr} (hL:ρ k=L):∀ {l:List (Nat×AO)} {news:List (Addr×Obj)},All2 (fun (p:Nat×AO) (q:Addr×Obj)=>p.1 < n∧q.1=ρ p.1∧OR P ρ n p.2 q.2) l news→(∀ i b,(i,b)∈l→ρ i=L→i=k) →
  All2 (fun (p:Nat×AO) (q:Addr×Obj)=>p.1 < n∧q.1=ρ p.1∧OR P ρ n p.2 q.2) (l.filter fun p=>p.1 != k) (news.filter fun q=>q.1 != L):=by
 intro l news h
 induction h with
 | nil=>exact fun _=>.nil
 | @cons p q l r h t ih =>
  intro hu
  replace ih:=ih fun i b hb=>hu i b (.tail _ hb)
  by_cases e:p.1=k
  ·haveI e2:q.1=L:=by rw [h.2.1,e,hL]
   rw [List.filter_cons,List.filter_cons,if_neg (by simp [e]),if_neg (by simp [e2])]
   exact ih
  ·haveI e2:q.1≠L:=fun z=>e (hu p.1 p.2 (.head _) (by rw [← h.2.1,z]))
   rw [List.filter_cons,List.filter_cons,if_pos (by simpa using e),if_pos (by simpa using e2)]
   exact .cons h ih
theorem aDu {P:Params} {ρ:Nat→Addr} {n:Nat} {j:Nat} {a:AO}:∀ {l:List (Nat×AO)} {news:List (Addr×Obj)},All2 (fun (p:Nat×AO) (q:Addr×Obj)=>p.1 < n∧q.1=ρ p.1∧OR P ρ n p.2 q.2) l news→(news.map (·.1)).Nodup→(j,a)∈l →
  ∀ k b,(k,b)∈l→ρ k=ρ j→k=j:=by
 intro l news h
 induction h with
 | nil=>exact fun _ h=>nomatch h
 | @cons p q l r h t ih =>
  intro nd hj k b hk e
  obtain ⟨n1,n2⟩:0:=List.nodup_cons.mp nd
  have far:∀ x y,(x,y)∈l→ρ x=q.1→False:=fun x y hx hxe=>by
   obtain ⟨z,hz,h1,h2,h3⟩:1:=All2.mem t (x,y) hx
   exact n1 (List.mem_map.mpr ⟨z,hz,h2.trans hxe⟩)
  rcases Tf hj with e1 | hj2
  ·subst e1
   rcases Tf hk with e2 | hk2
   ·exact (Prod.mk.inj e2).1
   ·exact (far k b hk2 (e.trans h.2.1.symm)).elim
  ·rcases Tf hk with e2 | hk2
   ·subst e2
    exact (far j a hj2 (e.symm.trans h.2.1.symm)).elim
   ·exact ih n2 hj2 k b hk2 e
section
variable {c:Cx} {sc:Scope} {U D:Nat} {loc:Loc} {σ:AH}
end
section
open PySem.Builtin PySem.Builtin.Re
noncomputable def drv:Nat→Sre.M→Option Sre.M
 | 0,_=>none
 | k+1,m=>let m:=m.runFor reTurnSteps;if m.outcome.isSome then some m else drv k m
theorem aOk {k:Nat} {m:Sre.M}:drv (k+1) m=if (m.runFor reTurnSteps).outcome.isSome=true then some (m.runFor reTurnSteps) else drv k (m.runFor reTurnSteps):=rfl
section
variable {M:Model} {A:Around} {E:Value→Shared→Prop} {s:Shared}
theorem nP {Q:Sre.M→Shared→Prop}:∀ (k n:Nat) (m m':Sre.M),drv k m=some m'→k≤n→Q m' s→wpAny M A (reDrive n m) Q E s
 | 0,_,_,_,h,_,_=>nomatch h
 | k+1,0,_,_,_,hn,_=>absurd hn (by lia)
 | k+1,n+1,m,m',h,hn,q=>by
  by_cases hh:(m.runFor reTurnSteps).outcome.isSome=true
  ·rw [aOk,if_pos hh] at h
   cases h
   exact aGe (c:=(m.runFor reTurnSteps).outcome.isSome=true) hh (wpAny_pure q)
  ·rw [aOk,if_neg hh] at h
   exact dE (c:=(m.runFor reTurnSteps).outcome.isSome=true) hh (wpAny_bind (wpAny_rule (nP k n _ _ h (by exact (Nat.le_of_lt_succ hn)) q)))
theorem qV {f:Nat→PUnit→Sem (ForInStep PUnit)} {Q:PUnit→Shared→Prop} (hf:∀ i u (Q':ForInStep PUnit→Shared→Prop),Q' (.yield ⟨⟩) s→wpAny M A (f i u) Q' E s) (q:Q ⟨⟩ s):∀ l:List Nat,wpAny M A (forIn l PUnit.unit f) Q E s
 | []=>wpAny_pure q
 | i::l=>by
  rw [List.forIn_cons]
  exact wpAny_bind (hf _ _ _ (qV hf q l))
theorem nQ {k:Nat} {m m':Sre.M} {Q:Option Sre.M→Shared→Prop} (h:drv k m=some m') (hk:k≤2 ^ 64) {r:Option Sre.M} (ho:m'.outcome=some .matched∧r=some m'∨m'.outcome=some .failed∧r=none) (q:Q r s):wpAny M A (reRunToEnd m) Q E s:=by
 unfold reRunToEnd
 refine wpAny_bind (nP k _ _ _ h hk ?_)
 refine wpAny_bind (qV (fun i u Q' hq=>?_) ?_ _)
 ·split
  ·exact wpAny_bind (wpAny_rule (wpAny_pure hq))
  ·exact wpAny_pure hq
 rcases ho with ⟨e,rfl⟩ | ⟨e,rfl⟩
 ·rw [e];exact wpAny_pure q
 ·rw [e];exact wpAny_pure q
end
noncomputable def aIi:Array Nat:=#[14,17,4,1,1,21,9,0,604043296,1,0,0,0,0,0,8,4,0,13,14,21,9,0,604043296,1,0,0,0,0,0,8,4,0,1]
noncomputable def mE (x:Array Nat):Nat:=match drv 200 (Sre.forSearch aIi x 0 (min (0:Int).toNat x.size) (min ((2 ^ 63 - 1:Int)).toNat x.size) false) with
 | some m=>(match m.outcome with | some .matched=>2 | some .failed=>1 | _=>0)
 | none=>0
section
variable {P:Params} {prog:Program} {w:World} {A:Around} {E:Value→Shared→Prop} {s:Shared}
theorem sG {x:Str} {t:Tok} {Q:ReTarget→Shared→Prop} (h273:s.heap.get? 273=some (aLt)) (h274:s.heap.get? 274=some (aGv))
  (q:Q { pattern:=.ref 274,string:=.str x t,code:=aIi,text:=x.cps,kind:=0,groups:=0,pos:=min (0:Int).toNat x.cps.size,lim:=min ((2 ^ 63 - 1:Int)).toNat x.cps.size } s) :
  wpAny (model prog w) A (reTarget "re.Pattern.search" "search" ⟨[.ref 274,.str x t],[]⟩) Q E s:=by
 unfold reTarget
 dsimp only
 refine wpAny_bind (wpAny_of_eq (a:=[some (.str x t),none,none]) (by kernel_rfl) ?_)
 dsimp only
 refine wpAny_bind (wpAny_pure (wpAny_bind (wpAny_pure ?_)))
 refine wpAny_bind (wpAny_fieldsOf h274 rfl ?_)
 refine wpAny_bind (wpAny_of_eq (a:=(x.cps,0)) (by rfl) ?_)
 dsimp only
 refine wpAny_bind (wpAny_pure ?_)
 refine wpAny_bind ?_
 unfold reRawItems
 refine wpAny_bind (wpAny_seqItems h273 rfl (wpAny_pure (wpAny_pure ?_)))
 refine Eq.mp (?_:_=_) q
 kernel_rfl
theorem uP:entryFor table "re.Pattern.search" = some Builtin.«re.Pattern.search» := entryFor_of_tree (by kernel_rfl)
theorem mF:plainId "re.Pattern.search" = true:=by decide +kernel
theorem uQ {x:Value} (h274:s.heap.get? 274=some (aGv)):wpAny (model prog w) A (checkBoundCall "re.Pattern.search" ⟨[.ref 274,x],[]⟩) (fun _ s'=>s'=s) (fun _ _=>False) s:=by
 haveI hT:s.TypeIs (.ref 274) "re.Pattern" := ⟨_,h274,rfl⟩
 haveI f1:isSubtype (.type "re.Pattern") (.type "module")=pure false:=by rw [isSubtype_type];kernel_rfl
 refine wpAny_bind (m:=isInstance (.ref 274) (.type "module")) (wpAny_isInstance hT f1 ?_)
 refine wpAny_bind (wpAny_bind (wpAny_loadPart h274 (wpAny_pure ?_)))
 dsimp only
 refine wpAny_bind (wpAny_typeOf hT ?_)
 dsimp only
 exact wpAny_of_eq (a:=()) (by kernel_rfl) rfl
end
section
variable {w:World} {mg mb:Str→Option Value} {fl:FL} {sc:Scope} {U D:Nat} {loc:Loc} {σ:AH}
theorem aRe (P:Params):(K1 P).lookup 273=some (aLt):=by kernel_rfl
theorem aRf (P:Params):(K1 P).lookup 274=some (aGv):=by kernel_rfl
theorem aIj (P:Params):(K1 P).lookup 977=some (aQm):=by kernel_rfl
theorem zU {x:Str} {R:AV→AH→Prop} (h1:mE x.cps=1→R .none σ)
  (h2:mE x.cps=2→∀ σ' k,Ext [] σ σ'→R (.ref k) σ') (hk:mE x.cps≠0):ClV (c1 w mg mb fl) sc U D (.glob 977) [.str x] loc σ R:=fun A env L h₀ fm ρ X s Q E fv vs S hf hv K=>by
 cases hf
 obtain ⟨v,q1⟩:=hY hv
 cases q1
 rename_i t
 haveI X0:=S.kin fm.X
 haveI h273:=X0 _ _ (aRe w.params)
 haveI h274:=X0 _ _ (aRf w.params)
 haveI h977:=X0 _ _ (aIj w.params)
 refine lJ h977 (uQ h274) (plainId_quiet mF _) uP ?_
 rw [Around.under_plainId mF]
 unfold Builtin.«re.Pattern.search»
 refine wpAny_bind (sG h273 h274 ?_)
 unfold reAnswer
 dsimp only
 unfold mE at h1 h2 hk
 cases hd:drv 200 (Sre.forSearch aIi x.cps 0 (min (0:Int).toNat x.cps.size) (min ((2 ^ 63 - 1:Int)).toNat x.cps.size) false) with
 | none=>rw [hd] at hk;exact absurd rfl hk
 | some m =>
 rw [hd] at h1 h2 hk
 dsimp only at h1 h2 hk
 cases ho:m.outcome with
 | none=>rw [ho] at hk;exact absurd rfl hk
 | some o =>
 rw [ho] at h1 h2 hk
 cases o with
 | stuck _=>exact absurd rfl hk
 | failed =>
  exact wpAny_bind (nQ hd (by decide) (.inr ⟨ho,rfl⟩) (wpAny_pure ⟨_,rfl,K.tok (h1 rfl) .none S⟩))
 | matched =>
  refine wpAny_bind (nQ hd (by decide) (.inl ⟨ho,rfl⟩) ?_)
  unfold reNewMatch
  refine wpAny_bind ?_
  refine KFB.if_not (by rfl) ?_
  refine wpAny_bind (wpAny_newTuple ?_ (sP (by kernel_rfl)))
  haveI S1:=S.allocN (a:=.tup [.int m.start,.int m.handed]) (o:={ cls:=.type "tuple", data:=.seq [Value.int m.start 0,.int m.handed 0].toArray }) (.tup _ _ 0 (.cons (.int _ _) (.cons (.int _ _) .nil))) rfl s.toks
  refine wpAny_newObj_type ?_ (by size_fits)
  haveI S2:=S1.allocN (a:=.flds "re.Match" [.str x,.glob 274,.int _,.int _,.int m.lastindex,.ref σ.nx]) (o:={ cls:=.type "re.Match", data:=.fields [Value.str x t,.ref 274,rawInt ((min (0:Int).toNat x.cps.size:Nat):Int),rawInt ((min ((2 ^ 63 - 1:Int)).toNat x.cps.size:Nat):Int),rawInt m.lastindex,.ref s.heap.objs.size].toArray })
   (.flds _ _ _ (.cons (.str _ _) (.cons (.glob _) (.cons (.int _ _) (.cons (.int _ _) (.cons (.int _ _) (.cons bA .nil))))))) rfl s.toks
  refine wpAny_pure ⟨_,rfl,K _ _ _ _ _ (h2 rfl _ (σ.nx+1) (Ext.new (Ext.new (Ext.refl _)))) ?_ (Ta (Nat.le_succ _) (Nat.le_succ _)) ((aK _ _ _).trans (Nat.le_succ _) (aK _ _ _)) S2 ⟨rfl,.refl _,rfl⟩⟩
  exact bA
end
end
section
variable {c:Cx} {sc:Scope} {U D:Nat} {loc:Loc} {σ:AH}
theorem zV {l t y z x:Str} {k0 k1 k2:Nat} {p0 p1 p2 xp ap cp bp:Pos} {R:AV→AH→Prop} (hk:sc.names.lookup x=some .local) (hd:(x==("__debug__" : Str))=false) (hl:loc.lookup x=some (.str t))
  (he:∀ env,eval (.Call (.Attribute (.Name x xp) "replace" ap) [.Constant (.str y) k1 p1,.Constant (.str z) k2 p2] [] cp) env=(do
   let ov ← eval (.Name x xp) env
   standAt ap.atName
   let (f,first) ← holding [ov] (getMethod ov "replace" (do return (← importBound (.Name x xp) env).getD true))
   callWith cp f first (backTo cp (starEach [.Constant (.str y) k1 p1,.Constant (.str z) k2 p2] env)) []))
  (h1:∀ env,starEach [.Constant (.str y) k1 p1,.Constant (.str z) k2 p2] env=(false,eval (.Constant (.str y) k1 p1) env)::starEach [.Constant (.str z) k2 p2] env)
  (h2:∀ env,starEach [.Constant (.str z) k2 p2] env=(false,eval (.Constant (.str z) k2 p2) env)::starEach [] env)
  (hp:∀ env,(backTo cp (starEach [.Constant (.str z) k2 p2] env)).any (·.1)=false)
  (hyz:(y==z)=false) (ht:t.length≤1000) (hz:z.length≤14) (hlen:l.length+(Txt.replace t y z).length≤100000) (h:R (.str (l++Txt.replace t y z)) σ) :
  EvE c sc U D (.BinOp (.Constant (.str l) k0 p0) .Add (.Call (.Attribute (.Name x xp) "replace" ap) [.Constant (.str y) k1 p1,.Constant (.str z) k2 p2] [] cp) bp) loc σ R:=fun A env L h₀ fm ρ X s Q E S K=>by
 obtain ⟨cn,b,ccd,cl,fr,rfl,_⟩:100:=fm.ex
 refine wpAny_BinOp (wpAny_Constant_str ?_)
 refine MethodCall_ ?_ (he _)
 obtain ⟨m,news,F,hm,H,N,nd⟩:100:=S.ex
 obtain ⟨v,hv,hr⟩:1:=hm x _ hl
 cases hr
 rename_i tk
 refine tM (s:={ s with toks:=s.toks+1 }) F hv ?_ fm.hk hk hd
 refine GM.replace ?_
 haveI hpl:((backTo cp (starEach [.Constant (.str y) k1 p1,.Constant (.str z) k2 p2] (cP cn sc L b ccd cl fr))).any (·.1)||([]:List (Option Str×Sem Value)).any (·.1.isNone))=false:=by
  rw [h1]
  show ((false||(backTo cp (starEach [.Constant (.str z) k2 p2] (cP cn sc L b ccd cl fr))).any (·.1))||false)=false
  rw [hp];rfl
 refine callWith_of (P:=fun _=>True) hpl (fun _ _=>⟨.machine,.inr (.inl rfl),.now⟩) ?_
 rw [h1]
 refine evalArgs_plain ?_
 show wpAny _ A (spliced (backTo cp (starEach [.Constant (.str y) k1 p1,.Constant (.str z) k2 p2] (cP cn sc L b ccd cl fr)))) _ _ _
 refine wpAny_items_cons (wpAny_Constant_str ?_) (h1 _)
 refine wpAny_items_cons (wpAny_Constant_str ?_) (h2 _)
 refine wpAny_items_nil ⟨trivial,?_⟩
 refine SC.replaceW (by show s.toks+1≠0;lia) (by show s.toks+1+1≠0;lia) (by show s.toks+1≠s.toks+1+1;lia) hyz (by exact (Ta ht (Tb rfl))) hz fun t' k=>?_
 exact gK (c:=c) (sc:=sc) (U:=U) (D:=D) (loc:=loc) (σ:=σ) hlen h A _ L h₀ fm ρ X _ _ _ _ _ (S.toks _) (.str _ _) (.str _ _) fun ρ' σ' a u s' o z n' g' S' r'=>K ρ' σ' a u s' o z n' g' S' ⟨r'.os,r'.gens,r'.dr⟩
theorem aXl {pos:Pos} {a:Addr} {o:Obj} {e:Expr} {rest:List Expr} {R:AV→AH→Prop} (hK:c.K.lookup a=some o) (hd:∃ vs,o.data=.fields vs) (hc:o.cls=.type "builtin_function_or_method")
  (he:∀ env,starEach (e::rest) env=(false,eval e env)::starEach rest env) (hp:∀ env,(backTo pos (starEach rest env)).any (·.1)=false)
  (h:EvL c sc U D (e::rest) loc σ fun as σ₁=>ClV c sc U D (.glob a) as loc σ₁ R):CwA c sc U D pos (.glob a) [] (e::rest) loc σ R:=fun A env L h₀ fm ρ X s Q E fv vs S hf' hv K=>by
 cases hv
 cases hf'
 refine hid ?_;intro ZZ zz
 obtain ⟨oc,od,dt,sl⟩:=o
 obtain ⟨xs,rfl⟩:1:=hd
 refine zz ?_;clear zz
 cases hc
 rw [he]
 refine callWith_of (P:=fun hh=>∃ k,(k=Keeper.frame∨k=Keeper.machine∨k=Keeper.boundFrame)∧Looks (model c.prog c.w) hh (keeperOf (.ref a)) k) (by show ((false||(backTo pos (starEach rest env)).any (·.1))||false)=false;rw [hp];rfl) (fun _ h=>h) (evalArgs_plain ?_)
 haveI:=h A env L h₀ fm pos ρ X s (fun ws s₁=>(∃ k,(k=Keeper.frame∨k=Keeper.machine∨k=Keeper.boundFrame)∧Looks (model c.prog c.w) s₁.heap (keeperOf (.ref a)) k)∧wpAny (model c.prog c.w) A (call (.ref a) ws) Q E s₁) E S fun ρ₁ σ₁ as ws s₁ ha va n₁ g₁ S₁ r₁=>by
  exact ⟨⟨.machine,.inr (.inl rfl),(Looks.ld (part:=none) ((S₁.kin fm.X) _ _ hK)).andThen .now⟩,ha A env L h₀ fm ρ₁ X s₁ Q E _ _ S₁ (.glob _) va (K.after n₁ g₁ r₁)⟩
 rw [he] at this
 exact this
end
structure Since (C I:Addr) (s₀ s:Shared):Prop where
 heap:∀ b o,b≠C→b≠I→s₀.heap.get? b=some o→s.heap.get? b=some o
 rest:Rest s₀ s
theorem Since.refl (C I:Addr) (s:Shared):Since C I s s:=⟨fun _ _ _ _ e=>e,Rest.refl _⟩
theorem Since.trans {C I:Addr} {a b c:Shared} (x:Since C I a b) (y:Since C I b c):Since C I a c:=⟨fun q o h1 h2 e=>y.heap q o h1 h2 (x.heap q o h1 h2 e),x.rest.trans y.rest⟩
theorem tF {g0 h:Heap} {l:Addr} {xs:Array Value} (x:g0.IsList l xs) (k:∀ b o,g0.get? b=some o→h.get? b=some o):h.IsList l xs:=let ⟨o,ho,r⟩:=x;⟨o,k _ _ ho,r⟩
structure GInv (g0:Heap) (C I l:Addr) (i:Nat) (h:Heap):Prop where
 ns:∃ m,h.Ns C m
 it:h.IsListIter I l i
 keep:∀ b o,g0.get? b=some o→h.get? b=some o
theorem GInv.agree {g0 h h':Heap} {C I l:Addr} {i:Nat} {fp:List Addr} (x:GInv g0 C I l i h) (hg:∀ b o,g0.get? b=some o→b∈fp) (hI:I∈fp) (k:∀ b∈C::fp,∀ o,h.get? b=some o→h'.get? b=some o):GInv g0 C I l i h':=by
 obtain ⟨m,hn⟩:1:=x.ns
 obtain ⟨o,ho,r⟩:=x.it
 exact ⟨⟨m,hn.at' fun o e=>k _ (.head _) o e⟩,⟨o,k _ (.tail _ hI) o ho,r⟩,fun b o e=>k b (.tail _ (hg b o e)) o (x.keep b o e)⟩
def GP (C I:Addr):Nat→Shared→Shared→Prop:=fun n s₀ s₁=>n=0∧Since C I s₀ s₁
noncomputable def GY (C I:Addr) (fp:List Addr) (F:Nat→Value→Prop) (n0:Nat):Protocol:=fun m s₀ v s kap =>
 F (n0 - 1 - m) v∧Since C I s₀ s∧∀ s'':Shared,(∀ b∈C::fp,∀ o,s.heap.get? b=some o→s''.heap.get? b=some o)→kap (.send .none) s''
noncomputable abbrev iX (elt iter:Expr) (x:Str) (px:Pos) (scope:Scope) (pos:Pos):Expr:=.GeneratorExp elt [⟨.Name x px,iter,[],0⟩] scope pos
section
variable {prog:Program} {w:World} {A:Around} {elt iter:Expr} {x:Str} {px:Pos} {scope:Scope} {pos:Pos} {C I l:Addr} {cenv:Env} {g0:Heap} {vs:List Value} {F:Nat→Value→Prop} {fp:List Addr}
theorem aIk (hh:A.handled=none) (hL:cenv.locals=C) (hx:cenv.kindOf x=some .local) (hp:(cenv.scope.kind==.class||(cenv.scope.kind==.module&&cenv.locals != cenv.globals))=false) (hco:cenv.scope.isCoroutine=false)
  (hCI:C≠I) (hl:g0.IsList l vs.toArray) (hg:∀ b o,g0.get? b=some o→b∈fp) (hI:I∈fp) (hCg:g0.get? C=none) (hIg:g0.get? I=none)
  (helt:∀ i v,vs[i]? = some v→∀ (s:Shared) m E',s.heap.Ns C m→m x=some v→(∀ b o,g0.get? b=some o→s.heap.get? b=some o) →
   wpAny (model prog w) (A.over (.compLoop (iX elt iter x px scope pos) 0 (.ref I) .none cenv) []) (eval elt cenv) (fun y s'=>F i y∧(∃ m',s'.heap.Ns C m')∧(∀ b o,b≠C→s.heap.get? b=some o→s'.heap.get? b=some o)∧Rest s s') E' s) :
  ∀ (k i:Nat) (s₀ s:Shared),vs.length - i=k→i≤vs.length→GInv g0 C I l i s.heap→Since C I s₀ s →
   Seg (model prog w) A (fun n s₀ r s₁=>r=.ok .next∧GP C I n s₀ s₁) (GY C I fp F vs.length) (vs.length - i) s₀
    (.compLoop (iX elt iter x px scope pos) 0 (.ref I) .none cenv) ((model prog w).den (.compLoop (iX elt iter x px scope pos) 0 (.ref I) .none cenv)) [] s:=by
 haveI hh':(A.over (.compLoop (iX elt iter x px scope pos) 0 (.ref I) .none cenv) []).handled=none:=hh
 intro k
 induction k with
 | zero =>
  intro i s₀ s hk hi G hs
  haveI hin:i=vs.length:=by exact (aSu hk hi)
  subst hin
  show Seg _ A _ _ _ s₀ _ ((compTurn (iX elt iter x px scope pos) 0 (.ref I) .none cenv).onRaise (leaving cenv)) [] s
  rw [compTurn_gen,Sem.onRaise_eq_wrap]
  refine seg_bind_wrap (wpAny_standAt ?_)
  refine seg_bind_wrap (wpAny_pyNext_list_end hh' G.it (tF hl G.keep) (by simp) fun h' hk'=>?_)
  exact seg_end (.ok .next) ⟨rfl,by omega,hs.trans ⟨fun b o _ hb e=>hk' b o hb e,⟨rfl,.refl _,rfl⟩⟩⟩
 | succ k ih =>
  intro i s₀ s hk hi G hs
  haveI hlt:i < vs.length:=by exact (aOt hk)
  obtain ⟨v,hv⟩:∃ v,vs[i]? = some v:=⟨_,List.getElem?_eq_getElem hlt⟩
  obtain ⟨m,hn⟩:1:=G.ns
  haveI hn0:vs.length - i=(vs.length - (i+1))+1:=by exact (yA hlt)
  show Seg _ A _ _ _ s₀ _ ((compTurn (iX elt iter x px scope pos) 0 (.ref I) .none cenv).onRaise (leaving cenv)) [] s
  rw [compTurn_gen,Sem.onRaise_eq_wrap,hn0]
  refine seg_bind_wrap (wpAny_standAt ?_)
  refine seg_bind_wrap (wpAny_pyNext_list_item G.it (tF hl G.keep) (x:=v) (by simpa using hv) fun h₁ hit₁ hs₁=>?_)
  refine seg_bind_wrap (wpAny_of_eq (rfl:letOwnedTupleGo (.Name x px) (.ref I) v=pure ()) ?_)
  refine seg_bind_wrap (wpAny_assign_Name (wpAny_storeName_local hx (m:=m) (hL▸hn.at' fun o e=>(hs₁.2 C hCI).trans e) (fun h₂ hn₂ hs₂=>?_) hp))
  rw [hL] at hn₂ hs₂
  have k₂:∀ b o,b≠C→b≠I→s.heap.get? b=some o→h₂.get? b=some o:=fun b o h1 h2 e=>(hs₂.2 b h1).trans ((hs₁.2 b h2).trans e)
  have g₂:∀ b o,g0.get? b=some o→h₂.get? b=some o:=fun b o e=>k₂ b o (fun q=>by rw [q,hCg] at e;cases e) (fun q=>by rw [q,hIg] at e;cases e) (G.keep b o e)
  refine seg_bind_wrap (wpAny_tests_nil ?_)
  rw [if_pos rfl]
  have hy:∀ v,yieldOut cenv v=yieldValue v:=fun v=>by simp only [yieldOut,hco,Bool.false_eq_true,if_false]
  simp only [hy]
  rw [Sem.bind_eq_wrap',Sem.bind_eq_wrap',Sem.wrap_wrap,Sem.wrap_wrap]
  refine seg_wrap (wpAny_mono (helt i v hv _ _ _ hn₂ (by simp) g₂) (fun y s₄ h₄=>?_) fun _ _ e=>e)
  obtain ⟨hFy,hn₄,hk₄,hr₄⟩:0:=h₄
  haveI it₄:s₄.heap.IsListIter I l (i+1):=by
   obtain ⟨o,ho,r⟩:=hit₁
   exact ⟨o,hk₄ I o (Ne.symm hCI) ((hs₂.2 I (Ne.symm hCI)).trans ho),r⟩
  haveI G₄:GInv g0 C I l (i+1) s₄.heap:=⟨hn₄,it₄,fun b o e=>hk₄ b o (fun q=>by rw [q,hCg] at e;cases e) (g₂ b o e)⟩
  refine seg_at (seg_yield rfl rfl rfl ⟨?_,hs.trans ⟨fun b o h1 h2 e=>hk₄ b o h1 (k₂ b o h1 h2 e),⟨hr₄.os,hr₄.gens,hr₄.dr⟩⟩,fun s'' hal=>?_⟩)
  ·rw [aNn (aOt hk)];exact hFy
  ·refine seg_again rfl (ih (i+1) s'' s'' (by exact (aKe hk)) hlt (G₄.agree hg hI hal) (Since.refl _ _ _))
theorem aDv (hh:A.handled=none) (hL:cenv.locals=C) (hx:cenv.kindOf x=some .local) (hp:(cenv.scope.kind==.class||(cenv.scope.kind==.module&&cenv.locals != cenv.globals))=false) (hco:cenv.scope.isCoroutine=false)
  (hCI:C≠I) (hl:g0.IsList l vs.toArray) (hg:∀ b o,g0.get? b=some o→b∈fp) (hI:I∈fp) (hCg:g0.get? C=none) (hIg:g0.get? I=none)
  (helt:∀ i v,vs[i]? = some v→∀ (s:Shared) m E',s.heap.Ns C m→m x=some v→(∀ b o,g0.get? b=some o→s.heap.get? b=some o) →
   wpAny (model prog w) (A.over (.compLoop (iX elt iter x px scope pos) 0 (.ref I) .none cenv) []) (eval elt cenv) (fun y s'=>F i y∧(∃ m',s'.heap.Ns C m')∧(∀ b o,b≠C→s.heap.get? b=some o→s'.heap.get? b=some o)∧Rest s s') E' s)
  (s:Shared) (G:GInv g0 C I l 0 s.heap) :
   Seg (model prog w) A (fun n s₀ r s₁=>r=.ok .next∧GP C I n s₀ s₁) (GY C I fp F vs.length) vs.length s
    (.compStart (iX elt iter x px scope pos) 0 (.ref I) .none cenv) ((model prog w).den (.compStart (iX elt iter x px scope pos) 0 (.ref I) .none cenv)) [] s:=by
 haveI loop:=aIk (iter:=iter) (px:=px) (scope:=scope) (pos:=pos) hh hL hx hp hco hCI hl hg hI hCg hIg helt vs.length 0 s s (Nat.sub_zero _) (Nat.zero_le _) G (Since.refl _ _ _)
 show Seg _ A _ _ _ s _ ((compStart (iX elt iter x px scope pos) 0 (.ref I) .none cenv).onRaise (leaving cenv)) [] s
 unfold compStart
 rw [Sem.onRaise_eq_wrap]
 show Seg _ A _ _ _ s _ ((ask >>= _).wrap _ _ _ _) [] s
 refine seg_bind_wrap (wpAny_askSetting ?_)
 split
 ·exact seg_again rfl loop
 ·first
   | exact seg_bind_wrap (wpAny_rule (seg_bind_wrap (wpAny_standAt (seg_bind_wrap (wpAny_pyIter_listiter G.it (seg_again rfl loop))))))
   | (refine seg_bind_wrap (wpAny_rule ?_);show Seg _ A _ _ _ s _ ((standAt iter.pos >>= _).wrap _ _ _ _) [] s;exact seg_bind_wrap (wpAny_standAt (seg_bind_wrap (wpAny_pyIter_listiter G.it (seg_again rfl loop)))))
end
theorem xF {a:Array GenState} {g:Nat} {x:GenState} (h:AllBare a) (hx:x.bare=true):AllBare (a.setIfInBounds g x):=fun y hy=>by
 rcases Array.mem_or_eq_of_mem_setIfInBounds hy with h1 | rfl
 ·exact h _ h1
 ·exact hx
theorem aDw {a:Array GenState} {g k:Nat} {x:GenState} (h:k≠g):(a.setIfInBounds g x)[k]? = a[k]?:=by
 rw [Array.getElem?_setIfInBounds,if_neg (Ne.symm h)]
def GG (g:Nat) (a b:Array GenState):Prop:=(∀ (k:Nat) (x:GenState),k≠g→a[k]? = some x→b[k]? = some x)∧(AllBare a→AllBare b)
theorem GG.trans {g:Nat} {a b c:Array GenState} (x:GG g a b) (y:GG g b c):GG g a c:=⟨fun k z n h=>y.1 k z n (x.1 k z n h),fun h=>y.2 (x.2 h)⟩
theorem GG.set {s:Shared} {g:Nat} {x:GenState} (hx:x.bare=true):GG g s.gens (s.setGen g x).gens:=⟨fun k z n h=>(aDw n).trans h,fun h=>xF h hx⟩
theorem GG.le {g:Nat} {a b:Array GenState} (h:GenLe a b):GG g a b:=⟨fun k z _=>h.keep k z,h.bare⟩
def GAt (prog:Program) (w:World) (A:Around) (a:Addr) (g:Nat) (C I:Addr) (fp:List Addr) (F:Nat→Value→Prop) (n0 j:Nat) (s:Shared):Prop :=
 s.heap.IsGen a g∧s.heap.NoLimit∧∃ gs,s.gens[g]? = some gs∧∀ s'':Shared,(∀ b∈C::fp,∀ o,s.heap.get? b=some o→s''.heap.get? b=some o) →
  gs.Goes (model prog w) A.in1 (fun n s₀ r s₁=>r=.ok .next∧GP C I n s₀ s₁) (GY C I fp F n0) (n0 - j) (.send .none) s''
section
variable {prog:Program} {w:World} {A:Around}
theorem aDx (hh:A.handled=none) (a:Addr) (g:Nat) (C I:Addr) (fp:List Addr) (F:Nat→Value→Prop) (n0:Nat) (haC:a≠C) (haI:a≠I) (hI:I∈fp) (hroom:A.depth < recursionLimit) (hcs:cStatics∈fp) (hcC:cStatics≠C) (hcI:cStatics≠I) :
  WalksS prog w A a (a::C::fp) [C,I] (GG g) n0 F (GAt prog w A a g C I fp F n0) where
 sub:=fun b hb=>by
  rcases Tf hb with rfl | hb
  ·simp
  ·rcases Tg hb with rfl
   exact .tail _ (.tail _ hI)
 grefl:=fun _=>⟨fun _ _ _ h=>h,id⟩
 gtrans:=fun _ _ _ x y=>x.trans y
 frame:=fun j s h' tk st _ hk =>
  ⟨let ⟨o,nm,qn,ho,r⟩:=st.1;⟨o,nm,qn,hk a (List.mem_cons_self ..) o ho,r⟩,
    (let ⟨mc,hns,hnn⟩:=st.2.1;⟨mc,hns.at' fun o e=>hk cStatics (List.mem_cons_of_mem _ (List.mem_cons_of_mem _ hcs)) o e,hnn⟩),
    let ⟨gs,hgs,hgo⟩:=st.2.2;⟨gs,hgs,fun s'' hal=>hgo s'' fun b hb o e=>hal b hb o (hk b (List.mem_cons_of_mem _ hb) o e)⟩⟩
 item:=fun j s Q E hj st hQ=>by
  obtain ⟨hg,hl,gs,hgs,hgo⟩:=st
  obtain ⟨m,hm⟩:∃ m,n0 - j=m+1:=⟨n0 - j - 1,by exact (yA hj)⟩
  rw [hm] at hgo
  refine wpAny_with_toks (Te s.toks) ?_
  refine wpAny_pyNext_genexpQ (P:=GP C I) hh hl hroom hg hgs (hgo _ fun _ _ _ e=>e) (fun v s₁ gs' hb hv=>?_) (fun s₁ hp h' hk=>absurd hp.1 (Nat.succ_ne_zero m))
  obtain ⟨hF,hs,hkap⟩:=hv
  rw [Nat.add_sub_cancel,← aKe hm,aNn hj] at hF
  intro htk
  refine hQ v _ hF ⟨let ⟨o,nm,qn,ho,r⟩:=hg;⟨o,nm,qn,hs.heap a o haC haI ho,r⟩,(let ⟨mc,hns,hnn⟩:=hl;⟨mc,hns.at' fun o e=>hs.heap cStatics o hcC hcI e,hnn⟩),gs',setGen_self (gs:=.running) (hs.rest.gens.keep _ _ (setGen_self hgs)),fun s'' hal=>?_⟩
   ⟨fun b o hb' e=>hs.heap b o (fun q=>hb' (q▸List.mem_cons_self ..)) (fun q=>hb' (q▸.tail _ (.head _))) e,((GG.set (s:=s) (g:=g) (x:=.running) rfl).trans (GG.le hs.rest.gens)).trans (GG.set hb),hs.rest.dr,hs.rest.os,htk⟩
  rw [show n0 - (j+1)=m by exact (aKe hm)]
  exact hkap s'' hal
 done:=fun s Q E st hQ=>by
  obtain ⟨hg,hl,gs,hgs,hgo⟩:=st
  rw [Nat.sub_self] at hgo
  refine wpAny_with_toks (Te s.toks) ?_
  refine wpAny_pyNext_genexpQ (P:=GP C I) hh hl hroom hg hgs (hgo _ fun _ _ _ e=>e) (fun v s₁ gs' hb hv=>?_) (fun s₁ hp h' hk=>?_)
  ·obtain ⟨_,_,hkap⟩:=hv
   exact False.elim (hkap s₁ fun _ _ _ e=>e)
  ·obtain ⟨_,hs⟩:=hp
   intro htk
   exact hQ _ ⟨fun b o hb' e=>hk b o (hs.heap b o (fun q=>hb' (q▸List.mem_cons_self ..)) (fun q=>hb' (q▸.tail _ (.head _))) e),((GG.set (s:=s) (g:=g) (x:=.running) rfl).trans (GG.le hs.rest.gens)).trans (GG.set (x:=.finished) rfl),hs.rest.dr,hs.rest.os,htk⟩
 self:=fun _ _ _ _ st hQ=>wpAny_pyIter_gen st.1 hQ
end
noncomputable def mG (g0 h:Heap) (C:Addr):List (Addr×Obj):=(List.range h.objs.size).filterMap fun b=>if b≠C∧g0.get? b=none then (h.get? b).map fun o=>(b,o) else none
theorem besides_mem {g0 h:Heap} {C b:Addr} {o:Obj}:(b,o)∈mG g0 h C ↔ h.get? b=some o∧b≠C∧g0.get? b=none:=by
 unfold mG
 rw [List.mem_filterMap]
 constructor
 ·rintro hz0
  obtain ⟨k,hk,e⟩:1:=hz0
  split at e
  ·rename_i hc
   cases q:h.get? k with
   | none=>rw [q] at e;cases e
   | some ob =>
    rw [q] at e
    cases e
    exact ⟨q,hc⟩
  ·cases e
 ·rintro ⟨e,hc⟩
  exact ⟨b,List.mem_range.mpr (Heap.lt_size e),by rw [if_pos hc,e];rfl⟩
theorem sH {g0 h:Heap} {C:Addr}:((mG g0 h C).map (·.1)).Nodup:=by
 unfold mG
 rw [List.Nodup,List.pairwise_map,List.pairwise_filterMap]
 refine List.Pairwise.imp ?_ (List.nodup_range (n:=h.objs.size))
 intro a b hab p hp q hq
 have key:∀ (k:Nat) (p:Addr×Obj),(if k≠C∧g0.get? k=none then (h.get? k).map fun o=>(k,o) else none)=some p→p.1=k:=fun k p hp=>by
  split at hp
  ·cases e:h.get? k with
   | none=>rw [e] at hp;cases hp
   | some o=>rw [e] at hp;cases hp;rfl
  ·cases hp
 rw [key _ _ hp,key _ _ hq]
 exact hab
section
variable {c:Cx} {sc:Scope} {U D:Nat} {loc:Loc} {σ:AH}
theorem aMe {A:Around} {elt:Expr} {x:Str} {a:AV} {v:Value} {env:Env} {C:Addr} {g0:Heap} {F:Value→Prop} (fm:Fm c sc A env C g0 U D) (hC:g0.objs.size≤C) (h:EvE c sc U D elt [(x,a)] ⟨0,[]⟩ fun r _=>∀ ρ n u,VR ρ n r u→F u) (hv:∀ ρ n,VR ρ n a v)
  (s:Shared) (m:Str→Option Value) (E:Value→Shared→Prop) (hn:s.heap.Ns C m) (hm:m x=some v) (hk:∀ b o,g0.get? b=some o→s.heap.get? b=some o) :
  wpAny (model c.prog c.w) A (eval elt env) (fun y s'=>F y∧(∃ m',s'.heap.Ns C m')∧(∀ b o,b≠C→s.heap.get? b=some o→s'.heap.get? b=some o)∧Rest s s') E s:=by
 haveI S:St c.w.params g0 C (fun _=>0) ⟨0,[]⟩ [(x,a)] (mG g0 s.heap C) s:=by
  refine ⟨m,[],⟨hn,hk,hC⟩,fun y b hy=>?_,.nil,fun p hp=>?_,sH⟩
  ·rw [List.lookup_cons] at hy
   cases q:y==x with
   | true =>
    rw [q] at hy
    cases hy
    rw [eq_of_beq q]
    exact ⟨v,hm,hv _ _⟩
   | false=>rw [q] at hy;cases hy
  ·obtain ⟨b,o⟩:=p
   exact besides_mem.mp hp
 refine h A env C g0 fm _ _ s _ _ S fun ρ' σ' r y s' hr hy _ _ S' r'=>?_
 obtain ⟨m',news',F',_,_,N',_⟩:100:=S'.ex
 refine ⟨hr _ _ _ hy,⟨m',F'.ns⟩,fun b o hb e=>?_,r'⟩
 cases q:g0.get? b with
 | none=>exact (N' (b,o) (Ti _ (besides_mem.mpr ⟨e,hb,q⟩))).1
 | some o' =>
  haveI:=hk b o' q
  rw [e] at this
  cases this
  exact F'.keep b o q
end
theorem aIl {ρ:Nat→Addr} {n:Nat} {ts:List Str} {vs:List Value} (h:VRs ρ n (ts.map AV.str) vs) (i:Nat) (v:Value) (hv:vs[i]? = some v):∃ t tk,ts[i]? = some t∧v=.str t tk:=by
 haveI hl:ts.length=vs.length:=by rw [← h.length,List.length_map]
 haveI hi:i < ts.length:=by rw [hl];exact (List.getElem?_eq_some_iff.mp hv).1
 haveI e:(ts.map AV.str)[i]? = some (.str ts[i]):=by simp [hi]
 obtain ⟨u,hu,r⟩:1:=h.at e
 rw [hv] at hu
 cases hu
 cases r
 exact ⟨_,_,List.getElem?_eq_getElem hi,rfl⟩
theorem xG {M:Model} {A:Around} {E:Value→Shared→Prop} {s:Shared} {env:Env} {c P:Addr} {ps:Array Value} {pos:Pos} {qualname:Str} {scope:Scope} {Q:Value→Shared→Prop} (hc:env.code=.ref c) (hok:s.heap.IsCode c P ps) (htab:s.heap.TableAt c P ps)
  (hQ:∀ code h' tk ps',Heap.ExtBut P s.heap h'→h'.IsCode c P ps'→h'.TableAt c P ps'→Q code { s with heap:=h',toks:=tk }):wpAny M A (genexprCode env pos qualname scope) Q E s:=by
 cases hnf:codeAmong pos ps.toList with
 | some cv=>exact wpAny_genexprCode_hit hc hok hnf (hQ cv s.heap s.toks ps (Heap.ExtBut.refl _ _) hok htab)
 | none=>exact wpAny_genexprCodeX hc hok htab hnf fun c' h' tk hx _ _ h1 _ h2 _=>hQ _ _ _ _ hx h1 h2
def aDy (o:Obj) (P:Addr):Prop:=∃ vs file tf flags tg inF text tt,(o.cls=.type "code" ∧ vs[11]? = some (.ref P))∧o.data=.fields vs∧vs.getD 11 .none=.ref P∧vs.getD 18 .none=.str file tf∧vs.getD 7 .none=.int flags tg∧vs.getD 9 .none=.bool inF∧vs.getD 10 .none=.int text tt
section
variable {c:Cx} {sc:Scope} {U D:Nat} {loc:Loc} {σ:AH}
def aXm (c:Cx) (sc:Scope) (U D:Nat) (cd:Value) (e:Expr) (loc:Loc) (σ:AH) (R:AV→AH→Prop):Prop :=
 ∀ A env L h₀,Fm c sc A env L h₀ U D→env.code=cd→∀ ρ X s Q E,St c.w.params h₀ L ρ σ loc X s→BackV c h₀ L ρ σ loc X s Q R→wpAny (model c.prog c.w) A (eval e env) Q E s
theorem Ext.setSame {σ:AH} {k:Nat} {o:AO} (h:σ.get k=some o):Ext [] σ (σ.set k o):=⟨Te _,fun j p hj e=>by
 by_cases q:j=k
 ·subst q
  rw [h] at e;cases e
  exact aF h
 ·exact aC q e⟩
theorem St.grow {P:Params} {h₀:Heap} {L:Addr} {ρ:Nat→Addr} {xs X:List (Addr×Obj)} {s s':Shared} (S:St P h₀ L ρ σ loc (xs++X) s) (hk:∀ b o,b∉xs.map (·.1)→s.heap.get? b=some o→s'.heap.get? b=some o):St P h₀ L ρ σ loc X s':=by
 haveI:=S.stop (h':=s'.heap) hk 0
 exact ⟨this.ex⟩
theorem aDz {sep:Str} {kk:Nat} {p ap cp gp px py:Pos} {elt:Expr} {x y:Str} {scope:Scope} {ts:List Str} {f:Str→Str} {k:Nat} {a₀ bm P0:Addr} {oc ob:Obj} {R:AV→AH→Prop}
  (he:∀ env,eval (.Call (.Attribute (.Constant (.str sep) kk p) "join" ap) [iX elt (.Name y py) x px scope gp] [] cp) env=(do
   let ov ← eval (.Constant (.str sep) kk p) env
   standAt ap.atName
   let (f,first) ← holding [ov] (getMethod ov "join" (do return (← importBound (.Constant (.str sep) kk p) env).getD true))
   callWith cp f first (backTo cp (starEach [iX elt (.Name y py) x px scope gp] env)) []))
  (h1:∀ env,starEach [iX elt (.Name y py) x px scope gp] env=(false,eval (iX elt (.Name y py) x px scope gp) env)::starEach [] env)
  (hs:∀ env v,genFold (.Name y py) env v=pure v)
  (hy:sc.names.lookup y=some .local) (hyd:(y==("__debug__" : Str))=false) (hly:loc.lookup y=some (.ref k)) (hk:σ.get k=some (.list (ts.map .str))) (h0:σ.get 0=some (.plc P0))
  (hc0:c.K.lookup a₀=some oc) (hcok:aDy oc P0) (hcK:c.K.lookup P0=none) (ha0:a₀≠P0)
  (hb:nsIn c.K mainGlobals (Str.ofString "__builtins__")=some (some (.ref bm))) (hbn:bm≠builtinsNs) (hbK:c.K.lookup bm=some ob) (hbc:ob.cls=.type "module") (hbd:ob.dict=some builtinsNs) (hbp:ob.data=.plain)
  (hco:scope.isCoroutine=false) (hclos:∀ env,closureFor scope env=pure []) (hcell:∀ y∈scope.names,y.2≠.cell) (hdot:scope.names.lookup (".0" : Str)=some NameKind.local) (hx:scope.names.lookup x=some .local) (hkd:scope.kind=.function)
  (helt:∀ (i:Nat) t,ts[i]? = some t→EvE { c with fl:=none,cf:=none } scope U D elt [(x,.str t)] ⟨0,[]⟩ (fun v _=>v=.str (f t)))
  (hjoin:JoinOk sep (ts.map f)=true) (hsz:ts.length≤1000) (h:∀ σ',Ext [] σ σ'→R (.str (Txt.join sep (ts.map f))) σ') :
  aXm c sc (U+6) (D+1) (.ref a₀) (.Call (.Attribute (.Constant (.str sep) kk p) "join" ap) [iX elt (.Name y py) x px scope gp] [] cp) loc σ R:=fun A env L h₀ fm hcode ρ X s Q E S K=>by
 refine hid ?_;intro ZZ zz
 obtain ⟨cn,b,ccd,ccl,fr,rfl,_⟩:100:=fm.ex
 refine zz ?_;clear zz
 refine' MethodCall_ ?ka ?kb
 case kb=>exact he _
 refine wpAny_Constant_str ?_
 refine GM.join ?_
 refine callWith_of (P:=fun _=>True) (by rw [h1];rfl) (fun _ _=>⟨.machine,.inr (.inl rfl),.now⟩) ?_
 rw [h1]
 refine evalArgs_plain ?_
 show wpAny _ A (spliced (backTo cp (starEach [iX elt (.Name y py) x px scope gp] (cP cn sc L b ccd ccl fr)))) _ _ _
 refine wpAny_items_cons ?_ (h1 _)
 obtain ⟨m,news,F,hm,H,N,nd⟩:100:=S.ex
 obtain ⟨vl,hvl,hrl⟩:1:=hm y _ hly
 cases hrl with
 | ref hkn =>
 obtain ⟨vs,hl,hvs⟩:100:=S.isListAt hk
 haveI hlen:vs.length=ts.length:=by rw [← hvs.length,List.length_map]
 haveI hroom:A.depth < recursionLimit:=by haveI:=fm.hd;exact (vF this)
 refine wpAny_GeneratorExp_make hco (hclos _) hcell hdot hkd hroom (tM (s:={ s with toks:=s.toks+1 }) F hvl ?_ fm.hk hy hyd) (hs _)
 refine wpAny_pyIter_list (s:={ s with toks:=s.toks+1 }) hl ?_
 generalize hI:s.heap.objs.size=I
 haveI S₂:=S.pushX { cls:=.type "list_iterator", data:=.fields #[.ref (ρ k),.int 0 0] }
 have fresh:∀ {b o},s.heap.get? b=some o→b≠I:=fun e=>by rw [← hI];exact Nat.ne_of_lt (Heap.lt_size e)
 obtain ⟨o0,ho0,hk0,hr0⟩:100:=S.at h0
 cases hr0 with
 | plc ps ht0 _ hρ =>
 rw [hρ] at ho0
 haveI h0n:h₀.get? P0=none:=by
  obtain ⟨oo,h1',_,hr1⟩:100:=H.get h0
  haveI:=(N _ (Th _ h1')).2.2
  rw [hρ] at this
  exact this
 haveI XK:=fm.X.keeps F.keep
 refine hid ?_;intro ZZ zz
 obtain ⟨vsc,file,tf,flags,tg,inF,text,tt,⟨c7,c8⟩,c1,c2,c3,c4,c5,c6⟩:=hcok
 refine zz ?_;clear zz
 haveI hI':({ s with toks:=s.toks+1 }:Shared).heap.objs.size=I:=hI
 refine ⟨fm.T.nolimit.keeps (fun b o e=>Heap.get?_push_of_some _ (F.keep b o e)),?_⟩
 refine xG (c:=a₀) (P:=P0) (ps:=ps) hcode ⟨oc,vsc,file,tf,flags,tg,inF,text,tt,_,Heap.get?_push_of_some _ (XK _ _ hc0),c1,c2,c3,c4,c5,c6,Heap.get?_push_of_some _ ho0,rfl,ht0,ha0⟩ ⟨⟨oc,vsc,Heap.get?_push_of_some _ (XK _ _ hc0),c7,c1,c8⟩,Heap.get?_push_of_some _ ho0⟩ fun code h₃ tk ps' hx₃ hcode₃ htab₃=>?_
 have k₃:∀ b o,b≠P0→s.heap.get? b=some o→h₃.get? b=some o:=fun b o hb e=>hx₃ b o hb (Heap.get?_push_of_some _ e)
 have kb:∀ b o,h₀.get? b=some o→h₃.get? b=some o:=fun b o e=>k₃ b o (fun q=>by rw [q,h0n] at e;cases e) (F.keep b o e)
 haveI hIP:I≠P0:=fun q=>fresh ho0 q.symm
 haveI it₃:h₃.get? I=some { cls:=.type "list_iterator", data:=.fields #[.ref (ρ k),.int 0 0] }:=hx₃ I _ hIP (by rw [← hI];exact Heap.get?_push_size _ rfl)
 refine wpAny_builtinsFor (fm.T.g.keeps kb) (mg_of fm.X fm.T.g hb) hbn (kb _ _ (fm.X _ _ hbK)) hbc hbd hbp ?_
 intro h' hn' hs'
 refine wpAny_items_nil ⟨trivial,?_⟩
 show wpAny _ A (call (.builtin "str.join") [.str sep _,.ref h'.objs.size]) Q E _
 haveI hC':h'.objs.size=h₃.objs.size+1:=by rw [hs'.1];exact Heap.size_push ..
 have kC:∀ b o,h₃.get? b=some o→h'.get? b=some o:=fun b o e=>hs'.extBut b o (Nat.ne_of_lt (Heap.lt_size e)) (Heap.get?_push_of_some _ e)
 haveI hIlt:I < h₃.objs.size:=Heap.lt_size it₃
 haveI st:h₀.StaysIn (hideAll h₃ [I]):=fun b o e=>hideAll_get _ (kb b o e) fun q=>by
  rcases Tg q with rfl
  exact fresh (F.keep _ _ e) rfl
 haveI hcst:∃ o,h₀.get? cStatics=some o:=by
  refine hid ?_;intro ZZ zz
  obtain ⟨mc,⟨o,_,_,ho,_⟩,_⟩:=fm.T.nolimit
  refine zz ?_;clear zz
  exact ⟨o,ho⟩
 obtain ⟨ocs,hocs⟩:1:=hcst
 haveI hkP:ρ k≠P0:=fun q=>by
  refine hid ?_;intro ZZ zz
  obtain ⟨o,ho,hc,nn,hdl⟩:=hl
  refine zz ?_;clear zz
  rw [q,ho0] at ho
  cases ho
  cases hdl
 haveI hcsI:cStatics≠I:=fresh (F.keep _ _ hocs)
 haveI hcsC:cStatics < h₃.objs.size:=Heap.lt_size (kb _ _ hocs)
 haveI hl₃:(hideAll h₃ [I]).IsList (ρ k) vs.toArray:=by
  refine hid ?_;intro ZZ zz
  obtain ⟨o,ho,r⟩:=hl
  refine zz ?_;clear zz
  exact ⟨o,hideAll_get _ (k₃ _ _ hkP ho) fun q=>fresh ho (Tg q),r⟩
 haveI hC0:h₃.get? h₃.objs.size=none:=by
  cases q:h₃.get? h₃.objs.size with
  | none=>rfl
  | some o=>exact absurd (Heap.lt_size q) (Nat.lt_irrefl _)
 haveI hCg:(hideAll h₃ [I]).get? h₃.objs.size=none:=by
  cases q:(hideAll h₃ [I]).get? h₃.objs.size with
  | none=>rfl
  | some o=>rw [of_hideAll _ q] at hC0;cases hC0
 haveI fmE:Fm { c with fl:=none,cf:=none } scope (A.in1.in1.in1.over (.compLoop (iX elt (.Name y py) x px scope gp) 0 (.ref I) .none (genEnv scope [] h₃.objs.size code builtinsNs (cP cn sc L b ccd ccl fr))) []) (genEnv scope [] h₃.objs.size code builtinsNs (cP cn sc L b ccd ccl fr)) h₃.objs.size (hideAll h₃ [I]) U D:=by
  refine ⟨⟨_,_,_,_,_,rfl,(fun _ _ q=>nomatch q)⟩,(fun _ _ q=>nomatch q),fm.X.keeps st,fm.T.keeps st,hkd,?_,?_,fm.hh,fm.sm.imp fun o e=>st _ _ e,fun _ q=>nomatch q⟩
  ·haveI:=fm.hu
   show A.units+1+1+1+0+3+U < cLine
   lia
  ·haveI:=fm.hd
   show A.depth+0+1+D < recursionLimit
   exact (lF this)
 have inv:∀ s'':Shared,(∀ b∈h₃.objs.size::List.range h₃.objs.size,∀ o,(h'.push { cls:=.type "generator", data:=.fields #[.int s.gens.size 0,.str (Str.ofString "<genexpr>") (tk+1),.str ((cP cn sc L b ccd ccl fr).qual++Str.ofString "<genexpr>") (tk+1+1)] }).get? b=some o→s''.heap.get? b=some o) →
   GInv (hideAll h₃ [I]) h₃.objs.size I (ρ k) 0 s''.heap:=fun s'' hal=>by
  refine ⟨⟨_,(hn'.push _).at' fun o e=>hal _ (.head _) o e⟩,⟨_,hal I (.tail _ (List.mem_range.mpr hIlt)) _ (Heap.get?_push_of_some _ (kC _ _ it₃)),rfl,rfl⟩,fun q o e=>?_⟩
  haveI e3:=of_hideAll _ e
  exact hal q (.tail _ (List.mem_range.mpr (Heap.lt_size e3))) o (Heap.get?_push_of_some _ (kC _ _ e3))
 refine SC.joinGen (aDx (A:=A.in1.in1) fm.hh h'.objs.size s.gens.size h₃.objs.size I (List.range h₃.objs.size) (fun i v=>∃ t u,ts[i]? = some t∧v=.str (f t) u) vs.length (by rw [hC'];exact Nat.succ_ne_self _) (by rw [hC'];exact Nat.ne_of_gt (Nat.lt_succ_of_lt hIlt)) (List.mem_range.mpr hIlt) hroom (List.mem_range.mpr hcsC) (Nat.ne_of_lt hcsC) hcsI)
  (fun i s' z=>z.1.typeIs) ⟨⟨_,_,_,Heap.get?_push_size _ rfl,rfl,rfl,rfl⟩,(fm.T.nolimit.keeps kb).keeps (fun b o e=>Heap.get?_push_of_some _ (kC _ _ e)),_,Array.getElem?_push_size ..,fun s'' hal=>⟨rfl,?_⟩⟩ ?_ (.head _) (fun i v ⟨t,u,_,e⟩=>⟨_,u,e⟩) (fun s' l hm' hit=>?_) (by rw [sizeLine_eq];exact (Ta (Nat.le_of_eq hlen) (Ta hsz (Tb rfl))))
 ·refine aDv (A:=A.in1.in1.in1) (cenv:=genEnv scope [] h₃.objs.size code builtinsNs (cP cn sc L b ccd ccl fr)) (g0:=hideAll h₃ [I]) fm.hh rfl hx (by simp [genEnv,hkd]) hco (Ne.symm (Nat.ne_of_lt hIlt)) hl₃ (fun b o e=>List.mem_range.mpr (Heap.lt_size (of_hideAll _ e))) (List.mem_range.mpr hIlt) hCg (hideAll_none _ (.head _)) (fun i v hv s₁ m₁ E₁ hn₁ hm₁ hk₁=>?_) s'' (inv s'' hal)
  obtain ⟨t,tk',ht,rfl⟩:2:=aIl hvs i v hv
  exact aMe (a:=.str t) fmE (Nat.le_of_eq (hideAll_size _ _)) ((helt i t ht).mono fun r _ e ρ' n' u hu=>by subst e;cases hu;exact ⟨t,_,ht,rfl⟩) (fun _ _=>.str _ _) s₁ m₁ E₁ hn₁ hm₁ hk₁
 ·intro q hq
  show q < (h'.push _).objs.size
  rw [Heap.size_push]
  rcases Tf hq with rfl | hq
  ·exact Nat.lt_succ_self _
  ·rw [hC']
   rcases Tf hq with rfl | hq
   ·exact Nat.lt_succ_of_lt (Nat.lt_succ_self _)
   ·exact Nat.lt_succ_of_lt (Nat.lt_succ_of_lt (List.mem_range.mp hq))
 ·haveI el:l.map (·.1)=ts.map f:=by
   apply List.ext_getElem?
   intro j
   haveI hsz':l.length=vs.length:=by simpa [strValues] using hit.1
   by_cases hj:j < ts.length
   ·haveI hj':j < l.length:=by exact (sL hsz' (sL hlen hj))
    obtain ⟨t,u,ht,hv⟩:2:=hit.2 j (.str l[j].1 l[j].2) (by simp [strValues,List.getElem?_eq_getElem hj'])
    injection hv with q1 _
    simp [List.getElem?_eq_getElem hj',ht,q1]
   ·rw [List.getElem?_eq_none (by rw [List.length_map];lia),List.getElem?_eq_none (by rw [List.length_map];exact (Nat.le_of_not_lt hj))]
  rw [el]
  refine ⟨hjoin,fun t' kk'=>?_⟩
  haveI q1:h₃.get? P0=some { cls:=.none,data:=.fields ps' }∧TriplesOk ps'.toList:=by
   refine hid ?_;intro ZZ zz
   obtain ⟨o,vs2,_,_,_,_,_,_,_,op,_,_,_,_,_,_,_,z1,z2,z3,_⟩:=hcode₃
   refine zz ?_;clear zz
   exact ⟨htab₃.2,z3⟩
  haveI S₂:=S.pushX { cls:=.type "list_iterator", data:=.fields #[.ref (ρ k),.int 0 0] }
  rw [hI] at S₂
  haveI S₃:=St.setK (h':=h₃) (a':=.plc P0) S₂ h0 (fun b o hb e=>hx₃ b o (by rw [← hρ];exact hb) e) (by rw [hρ];exact q1.1) (.plc P0 ps' q1.2 (by haveI:=(AH.get_look h0).1;exact this) hρ) 0
  haveI S₄:St c.w.params h₀ L ρ (σ.set 0 (.plc P0)) loc X { s' with toks:=kk' }:=St.grow (xs:=[(I,{ cls:=.type "list_iterator", data:=.fields #[.ref (ρ k),.int 0 0] })]) S₃ fun q o hq e=>by
   haveI hqI:q≠I:=fun z=>hq (by rw [z];exact .head _)
   refine hm'.heap q o (fun z=>?_) (Heap.get?_push_of_some _ (kC _ _ e))
   rcases Tf z with rfl | z
   ·exact absurd (Heap.lt_size e) (Nat.lt_irrefl _)
   ·exact hqI (Tg z)
  refine K ρ _ _ _ _ (h _ (Ext.setSame h0)) (.str _ _) (Te _) (Agree.refl _ _) S₄ ⟨hm'.os,⟨fun hb'=>hm'.gens.2 (hb'.push rfl),fun gg z hz=>hm'.gens.1 gg z ?_ ?_⟩,hm'.drawn⟩
  ·exact Nat.ne_of_lt (Array.getElem?_eq_some_iff.mp hz).1
  ·rw [Array.getElem?_push,if_neg (Nat.ne_of_lt (Array.getElem?_eq_some_iff.mp hz).1)]
   exact hz
def aMf (c:Cx) (sc:Scope) (U D:Nat) (cd:Value) (l:List Stmt) (loc:Loc) (σ:AH) (R:AF→Loc→AH→Prop):Prop :=
 ∀ A env L h₀,Fm c sc A env L h₀ U D→env.code=cd→∀ ρ X s Q E,St c.w.params h₀ L ρ σ loc X s→BackF c h₀ L ρ σ X s Q R→wpAny (model c.prog c.w) A (execs l env) Q E s
theorem aIm {cd:Value} {e:Expr} {pos:Pos} {l:List Stmt} {R:AF→Loc→AH→Prop} (h:aXm c sc U D cd e loc σ fun a σ₁=>R (.ret a) loc σ₁):aMf c sc U D cd (.Return (some e) pos::l) loc σ R:=fun A env L h₀ fm hc ρ X s Q E S K =>
 wpAny_execs_cons (wpAny_Return_some (h A env L h₀ fm hc ρ X s _ E S fun ρ₁ σ₁ a v s₁ ha va n₁ g₁ S₁ r₁=>by
  exact K ρ₁ σ₁ _ _ _ s₁ ha (.ret _ _ va) n₁ g₁ S₁ r₁))
theorem aEa {cd:Value} {st:Stmt} {l:List Stmt} {R:AF→Loc→AH→Prop} (h:Ex1 c sc U D st loc σ fun f l' s=>f=.next∧aMf c sc U D cd l l' s R):aMf c sc U D cd (st::l) loc σ R:=fun A env L h₀ fm hc ρ X s Q E S K =>
 wpAny_execs_cons (h A env L h₀ fm ρ X s _ E S fun ρ₁ σ₁ loc₁ af f s₁ ⟨e,hf⟩ fr n₁ g₁ S₁ r₁=>by
  subst e
  cases fr
  exact hf A env L h₀ fm hc ρ₁ X s₁ Q E S₁ (K.after n₁ g₁ r₁))
theorem aMg {scope:Scope} {f:Addr} {name qual:Str} {params:Arguments} {body:List Stmt} {dV kV doc pm cdv ct oc:Value} {od an:Option Addr} {osl:Array (Option Value)} {args:List AV} {loc₀:Loc} {R:AV→AH→Prop}
  (ho:c.K.lookup f=some ⟨oc,od,.func (fnOf name qual params body scope dV kV doc pm an cdv ct),osl⟩) (hcd:codeIn c.K cdv qual=true)
  (hb:lM c (fnOf name qual params body scope dV kV doc pm an cdv ct) scope args [] loc₀)
  (hs:(scope.isCoroutine||scope.isGenerator||scope.kind != .function||!(scope.names.all fun x=>x.2 != .cell))=false)
  (h:aMf c scope U D cdv body loc₀ σ fun fl _ σ'=>R (fM fl) σ') (hfl:c.fl=none∧c.cf=none:=by exact ⟨rfl,rfl⟩):ClV c sc (U+3) (D+1) (.glob f) args loc σ R:=fun A env L h₀ fm ρ X s Q E fv vs S hfv va K=>by
 cases hfv
 simp only [Bool.or_eq_false_iff,Bool.not_eq_false',bne_eq_false_iff_eq] at hs
 refine hid ?_;intro ZZ zz
 obtain ⟨⟨⟨hco,hgen⟩,hk⟩,hcell⟩:=hs
 obtain ⟨cn,b,ccd,cl,fr0,he,_⟩:100:=fm.ex
 obtain ⟨m,news,F,hm,H,N,nd⟩:100:=S.ex
 haveI XK:=fm.X.keeps F.keep
 obtain ⟨binds,h1,h2,h3⟩:1:=hb ρ σ.nx vs [] s XK va .nil
 haveI hu:=fm.hu
 haveI hd:=fm.hd
 obtain ⟨FG,st,lv⟩:=eU (R:=fun r s'=>match r with | .ok (.ret v)=>Q v s' | .ok _=>False | .error e=>E e s') F N
 refine zz ?_;clear zz
 refine wpAny_call (codeAny_call_def (fd:=fnX name qual params body scope [] dV kV doc pm an cdv ct) (body:=body) (binds:=binds) (by exact (vF hd)) (XK _ _ ho) rfl (fm.T.nolimit.keeps F.keep) (codeRec_of XK hcd) rfl h1 (fP hcell) h2 (fun h₁ hns hk₁=>?_) hco hgen hk)
 haveI F':Fr (hideAll s.heap ((news++X).map (·.1))) s.heap.objs.size h₁ (fun y=>binds.reverse.lookup y):=⟨hns,fun b o e=>hk₁ b o (of_hideAll _ e),Nat.le_of_eq (hideAll_size _ _)⟩
 haveI N':News (hideAll s.heap ((news++X).map (·.1))) s.heap.objs.size h₁ (news++X):=fun p hp=>⟨hk₁ _ _ (N p hp).1,Nat.ne_of_lt (Heap.lt_size (N p hp).1),hideAll_none _ (List.mem_map_of_mem hp)⟩
 haveI fm':Fm c scope (A.deeper (envX qual scope s.heap.objs.size f cdv [])) (envX qual scope s.heap.objs.size f cdv []) s.heap.objs.size (hideAll s.heap ((news++X).map (·.1))) U D:=by
  refine ⟨⟨_,_,_,_,_,rfl,(fun l ce q=>by rw [hfl.1] at q;cases q)⟩,(fun l ce q=>by rw [hfl.1] at q;cases q),fm.X.keeps st,fm.T.keeps st,hk,?_,?_,fm.hh,fm.sm.imp fun o e=>st _ _ e,fun l q=>by rw [hfl.2] at q;cases q⟩
  ·show A.units+3+U < cLine;exact (lF hu)
  ·show A.depth+1+D < recursionLimit;exact (lF hd)
 refine h _ _ _ _ fm' rfl ρ X _ _ _ ⟨_,news,F',h3,H,N',nd⟩ fun ρ₁ σ₁ loc₁ af fl s₁ hf fr n₁ g₁ S₁ r₁=>?_
 obtain ⟨m₁,news₁,F₁,hm₁,H₁,N₁,nd₁⟩:100:=S₁.ex
 refine lv _ _ (leaveK_ F₁ N₁ fun F₂ N₂=>?_)
 exact K ρ₁ σ₁ _ _ s₁ hf (iH fr) n₁ g₁ ⟨m,news₁,F₂,hm.mono n₁ g₁,H₁,N₂,nd₁⟩ ⟨r₁.os,r₁.gens,r₁.dr⟩
end
section
variable {prog:Program} {w:World} {A:Around} {R:Result→Shared→Prop} {s:Shared}
theorem tG {elt target iter:Expr} {ifs:List Expr} {scope:Scope} {pos:Pos} {it acc:Value} {env:Env} (I:Nat→Shared→Prop)
  (turn:∀ n s,I n s→wpAny (model prog w) A (pyNext it) (fun r s₁=>match r with
   | none=>R (.ok .next) s₁
   | some v=>wpAny (model prog w) A (letOwnedTupleGo target it v) (fun _ s₁=>wpAny (model prog w) A (assign target env v) (fun _ s₂ =>
     wpAny (model prog w) A (forIn ifs true fun c r=>if r=true then do let ok ← isTrue c env (eval c env);pure (ForInStep.yield ok) else pure (ForInStep.yield r)) (fun ok s₃ =>
      if ok=true then wpAny (model prog w) A (eval elt env) (fun x s₄ =>
       wpAny (model prog w) A (call (.builtin "list.append") [acc,x]) (fun _ s₅=>∃ m,m < n∧I m s₅) (notedBy (model prog w) A env fun e s'=>R (.error e) s') s₄) (notedBy (model prog w) A env fun e s'=>R (.error e) s') s₃
      else ∃ m,m < n∧I m s₃) (notedBy (model prog w) A env fun e s'=>R (.error e) s') s₂) (notedBy (model prog w) A env fun e s'=>R (.error e) s') s₁) (notedBy (model prog w) A env fun e s'=>R (.error e) s') s₁) (notedBy (model prog w) A env fun e s'=>R (.error e) s') s)
  (n:Nat) (h:I n s):codeAny (model prog w) A (.compLoop (.ListComp elt [⟨target,iter,ifs,0⟩] scope pos) 0 it acc env) R s:=by
 refine codeAny_loop rfl I (fun n s hI=>?_) n h
 show wpAny _ A ((compTurn (.ListComp elt [⟨target,iter,ifs,0⟩] scope pos) 0 it acc env).onRaise (fun x=>do noteFrame x env;theTreesLotGoes x)) _ _ s
 refine wpAny_noted ?_
 rw [compTurn_list]
 refine wpAny_bind (wpAny_standAt (wpAny_bind (wpAny_mono (turn n s hI) (fun r s₁ h₁=>?_) fun _ _ y=>y)))
 cases r with
 | none=>exact wpAny_pure h₁
 | some v =>
  refine wpAny_bind (wpAny_mono h₁ (fun _ s₁ h₁=>wpAny_bind (wpAny_mono h₁ (fun _ s₂ h₂=>wpAny_bind (wpAny_mono h₂ (fun ok s₃ h₃=>?_) fun _ _ y=>y)) fun _ _ y=>y)) fun _ _ y=>y)
  cases ok with
  | false=>exact wpAny_pure ⟨rfl,h₃⟩
  | true=>exact wpAny_bind (wpAny_bind (wpAny_mono h₃ (fun x s₄ h₄=>wpAny_bind (wpAny_mono h₄ (fun _ s₅ h₅=>wpAny_pure (wpAny_pure ⟨rfl,h₅⟩)) fun _ _ y=>y)) fun _ _ y=>y))
end
section
variable {c:Cx} {sc:Scope} {U D:Nat} {loc:Loc} {σ:AH}
def EvF (c:Cx) (sc:Scope) (U D:Nat) (ifs:List Expr) (loc:Loc) (σ:AH) (R:Bool→AH→Prop):Prop :=
 match ifs with
 | []=>R true σ
 | [t]=>EvT c sc U D t loc σ R
 | _=>False
theorem aIn {ifs:List Expr} {R:Bool→AH→Prop} (h:EvF c sc U D ifs loc σ R):∀ A env L h₀,Fm c sc A env L h₀ U D→∀ ρ X s Q E,St c.w.params h₀ L ρ σ loc X s→BackB c h₀ L ρ σ loc X s Q R →
  wpAny (model c.prog c.w) A (forIn ifs true fun c r=>if r=true then do let ok ← isTrue c env (eval c env);pure (ForInStep.yield ok) else pure (ForInStep.yield r)) Q E s:=fun A env L h₀ fm ρ X s Q E S K=>by
 match ifs,h with
 | [],h=>exact wpAny_tests_nil (K.now h S)
 | [t],h=>exact wpAny_tests_one (h A env L h₀ fm ρ X s Q E S K)
theorem aEb {elt iter:Expr} {x:Str} {px:Pos} {ifs:List Expr} {scope scope':Scope} {pos:Pos} {R:AV→AH→Prop} (cl:List (Str×Addr))
  (hs:∀ env x,foldedSetIterable iter env x=pure x) (hclos:∀ env:Env,(∀ l ce,c.fl=some (l,ce)→env.cells=ce)→closureFor scope env=pure cl)
  (hrel:∀ env:Env,env.scope=sc→relabel scope env=scope') (hkd:scope.kind=.function) (hkd':scope'.kind=.function) (hnames:(scope.names.all fun x=>x.2 != .local||scope.names.lookup x.1==some .local)=true) (hcell:(scope.names.all fun x=>x.2 != .cell)=true) (hx:scope'.names.lookup x=some .local)
  (h:ItE c sc U D iter (.Name x px) loc σ fun d σ₁=>∃ I:Nat→List AV→AH→Prop,I 0 [] (σ₁.new (.list []))∧(∀ i acc s,I i acc s→d.ok s∧acc.length < 2 ^ 20) ∧
   (∀ i a acc s s',i < d.n→I i acc s→d.item i s a s'→EvF { c with fl:=some (none,cl) } scope' U D ifs [(x,a)] s' fun b s₂ =>
    if b=true then EvE { c with fl:=some (none,cl) } scope' U D elt [(x,a)] s₂ fun v s₃=>s₃.get σ₁.nx=some (.list acc)∧I (i+1) (acc++[v]) (s₃.set σ₁.nx (.list (acc++[v]))) else I (i+1) acc s₂) ∧
   (∀ acc s,I d.n acc s→R (.ref σ₁.nx) s)):EvE c sc U D (.ListComp elt [⟨.Name x px,iter,ifs,0⟩] scope pos) loc σ R:=fun A env L h₀ fm ρ X s Q E S K=>by
 obtain ⟨cn,b,ccd,ccl,fr0,he,hfl⟩:100:=fm.ex
 rw [eval_ListComp]
 refine wpAny_comprehension_free (g:=⟨.Name x px,iter,ifs,0⟩) (gs:=[]) rfl (hs env) (hclos env fun l ce q=>by rw [he];exact (hfl l ce q).1) hkd (fun y hy hl=>?_) ?_
 ·haveI:=List.all_eq_true.mp hnames y hy
  rw [hl] at this
  simpa using this
 refine h A env L h₀ fm ρ X s _ E S fun ρ₁ σ₁ d it Pv xs₁ s₁ hy1 W hP n₁ g₁ S₁ r₁=>?_
 obtain ⟨I,hI,hok,hst,hen⟩:1:=hy1
 haveI S₂:=S₁.allocN (a:=.list []) (o:={ cls:=.type "list", data:=.seq #[] }) (.list [] [] 0 .nil) rfl s₁.toks
 refine wpAny_newObj_type ?_
 show wpAny _ A (newFunctionEnv scope env.globals cl [] env.qual none .none (some env)) _ _ ({ s₁ with heap:=s₁.heap.push { cls:=.type "list", data:=.seq #[] },toks:=s₁.toks }:Shared)
 obtain ⟨m,news,F,hm,H,N,nd⟩:100:=S₂.ex
 generalize hsB:({ s₁ with heap:=s₁.heap.push { cls:=.type "list", data:=.seq #[] },toks:=s₁.toks }:Shared)=sB at S₂ F N ⊢
 generalize hρ:ext ρ₁ σ₁.nx s₁.heap.objs.size=ρB at S₂ hm H
 haveI hacc:ρB σ₁.nx=s₁.heap.objs.size:=by rw [← hρ];exact aS _ _ _
 haveI gB:Agree ρ₁ ρB σ₁.nx:=by rw [← hρ];exact aK _ _ _
 haveI rB:Rest s₁ sB:=by rw [← hsB];exact ⟨rfl,.refl _,rfl⟩
 refine wpAny_newFunctionEnv (fun y hy=>by haveI:=List.all_eq_true.mp hcell y hy;simpa using this) (fun y hy=>nomatch hy) (fun h₁ hns hsb=>?_) hkd
 have hk₁:∀ b o,sB.heap.get? b=some o→h₁.get? b=some o:=fun b o e=>hsb.extBut b o (Nat.ne_of_lt (Heap.lt_size e)) (Heap.get?_push_of_some _ e)
 obtain ⟨HB,st,lv,F',N'⟩:1:=(⟨hideAll sB.heap ((news++(xs₁++X)).map (·.1)),(eU (R:=fun _ _=>True) F N).st,fun R=>(eU (R:=R) F N).lv,⟨hns,fun b o e=>hk₁ b o (of_hideAll _ e),Nat.le_of_eq (hideAll_size _ _)⟩,fun p hp=>⟨hk₁ _ _ (N p hp).1,Nat.ne_of_lt (Heap.lt_size (N p hp).1),hideAll_none _ (List.mem_map_of_mem hp)⟩⟩:∃ HB:Heap,h₀.StaysIn HB∧(∀ (R:Result→Shared→Prop) v s',LeaveK h₀ L m HB R v s'→R (.ok (.ret v)) s')∧Fr HB sB.heap.objs.size h₁ (fun y=>([]:List (Str×Value)).reverse.lookup y)∧News HB sB.heap.objs.size h₁ (news++(xs₁++X)))
 haveI fm':Fm { c with fl:=some (none,cl) } scope' A (compEnvC scope cl sB.heap.objs.size env) sB.heap.objs.size HB U D:=by
  refine ⟨⟨env.qual,none,env.code,cl,env.frame,?_,fun l ce q=>by cases q;exact ⟨rfl,fun q=>absurd rfl q⟩⟩,(fun l ce q=>by cases q),fm.X.keeps st,fm.T.keeps st,hkd',fm.hu,fm.hd,fm.hh,fm.sm.imp fun o e=>st _ _ e,fm.cfr⟩
  unfold compEnvC
  rw [hrel env (by rw [he])]
  rw [he]
 have home:∀ (ρ':Nat→Addr) (σ':AH) (s':Shared) (acc:List AV),σ₁.nx+1≤σ'.nx→Agree ρB ρ' (σ₁.nx+1)→I d.n acc σ'→St c.w.params HB sB.heap.objs.size ρ' σ' [] X s'→Rest s₁ s' →
   ∃ m',s'.heap.Ns sB.heap.objs.size m'∧∀ h',Heap.SameBut sB.heap.objs.size s'.heap h'→Q (.ref s₁.heap.objs.size) { s' with heap:=h' }:=fun ρ' σ' s' acc n' g' hI' S' r'=>by
  obtain ⟨m₁,news₁,F₁,hm₁,H₁,N₁,nd₁⟩:100:=S'.ex
  refine ⟨m₁,F₁.ns,fun h' hsame=>?_⟩
  refine lv (fun _ _=>Q (.ref s₁.heap.objs.size) { s' with heap:=h' }) .none s' (leaveK_ F₁ N₁ fun F₂ N₂=>?_)
  haveI hLC:L≠sB.heap.objs.size:=Nat.ne_of_lt F.ns.lt
  haveI h0C:h₀.get? sB.heap.objs.size=none:=by
   cases q:h₀.get? sB.heap.objs.size with
   | none=>rfl
   | some o=>exact absurd (Heap.lt_size (F.keep _ _ q)) (Nat.lt_irrefl _)
  haveI FL:Fr h₀ L h' m:=Fr.other (it:=sB.heap.objs.size) (s:=s') F₂ (fun b ob hb e=>(hsame.2 b hb).trans e) (Ne.symm hLC) h0C
  haveI NL:News h₀ L h' (news₁++X):=fun p hp=>⟨(hsame.2 p.1 (N₁ p hp).2.1).trans (N₂ p hp).1,(N₂ p hp).2⟩
  haveI NN:σ.nx≤σ'.nx:=Ta n₁ (Ta (Nat.le_succ _) n')
  haveI GG:Agree ρ ρ' σ.nx:=g₁.trans n₁ (gB.trans (Nat.le_succ _) g')
  refine K ρ' σ' (.ref σ₁.nx) (.ref s₁.heap.objs.size) { s' with heap:=h' } (hen _ _ hI') ?_ NN GG ⟨m,news₁,FL,hm.mono n' g',H₁,NL,nd₁⟩ ⟨(r₁.trans r').os,(r₁.trans r').gens,(r₁.trans r').dr⟩
  haveI e:ρ' σ₁.nx=s₁.heap.objs.size:=(g' σ₁.nx (Nat.lt_succ_self _)).trans hacc
  rw [← e]
  exact .ref _ (Tc (Nat.lt_succ_self _) n')
 have gA:∀ {ρ':Nat→Addr},Agree ρB ρ' (σ₁.nx+1)→Agree ρ₁ ρ' σ₁.nx:=fun g'=>gB.trans (Nat.le_succ _) g'
 have loop:∀ s₃,St c.w.params HB sB.heap.objs.size ρB (σ₁.new (.list [])) [] (xs₁++X) s₃→Rest s₁ s₃ →
   codeAny (model c.prog c.w) A (.compLoop (.ListComp elt [⟨.Name x px,iter,ifs,0⟩] scope pos) 0 (.ref it) (.ref s₁.heap.objs.size) (compEnvC scope cl sB.heap.objs.size env))
    (compPost (model c.prog c.w) A E none Q (.ref s₁.heap.objs.size) sB.heap.objs.size) s₃:=fun s₃ S₃ r₃=>by
  refine tG (fun n s'=>∃ i acc ρ' σ' xs',I i acc σ'∧i≤d.n∧n=d.n+1 - i∧Pv i xs'∧σ₁.nx+1≤σ'.nx∧Agree ρB ρ' (σ₁.nx+1) ∧
   St c.w.params HB sB.heap.objs.size ρ' σ' [] (xs'++X) s'∧Rest s₁ s') (fun n s' hJ=>?_) (d.n+1) ⟨0,[],ρB,_,xs₁,hI,Nat.zero_le _,rfl,hP,Te _,Agree.refl _ _,S₃,r₃⟩
  obtain ⟨i,acc,ρ',σ',xs',hI',hi,eI,hP',n',g',S',r'⟩:5:=hJ
  by_cases hlt:i < d.n
  ·refine wpAny_mono (W.next A _ _ ρ' X xs' σ' [] s' _ i (gA g') hlt hP' (hok i _ _ hI').1 S') (fun r s'' z=>?_) (fun _ _ z=>z)
   obtain ⟨v,rfl,z⟩:1:=z
   refine wpAny_mono (z _) (fun _ s₄ z=>?_) fun _ _ z=>z
   refine hid ?_;intro ZZ zz
   obtain ⟨ρ₄,σ₄,a,xs₄,hit,hv,n₄,g₄,hP₄,S₄,r₄⟩:=z
   refine zz ?_;clear zz
   refine lK (c:={ c with fl:=some (none,cl) }) (sc:=scope') (U:=U) (D:=D) (loc:=[]) (a:=a) (R:=fun l s=>l=[(x,a)]∧s=σ₄) hx ⟨rfl,rfl⟩ A _ _ _ fm' ρ₄ (xs₄++X) _ _ _ v S₄ hv fun ρ₅ σ₅ loc₅ s₅ ⟨el,es⟩ n₅ g₅ S₅ r₅=>?_
   refine aIn (hst i a acc _ _ hlt hI' hit) A _ _ _ fm' ρ₅ _ _ _ _ (es▸el▸S₅) fun ρ₆ σ₆ ok s₆ h₆ n₆ g₆ S₆ r₆=>?_
   haveI N6:σ₁.nx+1≤σ₆.nx:=Ta n' (Ta n₄ n₆)
   haveI G6:Agree ρB ρ₆ (σ₁.nx+1):=g'.trans n' (g₄.trans n₄ (g₅.trans (Te _) g₆))
   haveI R6:Rest s₁ s₆:=r'.trans (r₄.trans (r₅.trans r₆))
   cases ok with
   | false=>exact ⟨d.n+1 - (i+1),by rw [eI];exact (aCc hlt),i+1,acc,ρ₆,σ₆,xs₄,h₆,hlt,rfl,hP₄,N6,G6,S₆.sub Sub.nil,R6⟩
   | true =>
    refine h₆ A _ _ _ fm' ρ₆ _ _ _ _ S₆ fun ρ₇ σ₇ v' y s₇ ⟨hg,hI7⟩ hv7 n₇ g₇ S₇ r₇=>?_
    haveI e8:(Value.ref s₁.heap.objs.size)=.ref (ρ₇ σ₁.nx):=by rw [(g₇ σ₁.nx N6),(G6 σ₁.nx (Nat.lt_succ_self _)),hacc]
    rw [e8]
    refine kP (c:={ c with fl:=some (none,cl) }) (sc:=scope') (U:=U) (D:=D) (loc:=[(x,a)]) (R:=fun _ s=>s=σ₇.set σ₁.nx (.list (acc++[v']))) hg (hok i _ _ hI').2 rfl A _ _ _ fm' ρ₇ _ s₇ _ _ (.builtin "list.append") [.ref (ρ₇ σ₁.nx),y] S₇ (.bi _) (.cons (.ref _ (Tc N6 n₇)) (.cons hv7 .nil)) fun ρ₈ σ₈ _ _ s₈ eσ _ n₈ g₈ S₈ r₈=>?_
    exact ⟨d.n+1 - (i+1),by rw [eI];exact (aCc hlt),i+1,acc++[v'],ρ₈,_,xs₄,eσ▸hI7,hlt,rfl,hP₄,Ta N6 (Ta n₇ n₈),G6.trans N6 (g₇.trans n₇ g₈),S₈.sub Sub.nil,R6.trans (r₇.trans r₈)⟩
  ·haveI hie:i=d.n:=by exact (aKg hi hlt)
   refine W.stop A _ _ ρ' X xs' σ' [] s' _ _ (gA g') fm.hh (hie▸hP') (hok _ _ _ hI').1 S' fun s₄ S₄ r₄=>?_
   exact home ρ' σ' s₄ acc n' g' (hie▸hI') S₄ (r'.trans r₄)
 haveI S₃:St c.w.params HB sB.heap.objs.size ρB (σ₁.new (.list [])) [] (xs₁++X) { sB with heap:=h₁,toks:=sB.toks+([]:List (Str×Value)).length } :=
  ⟨_,news,F',(fun y a q=>nomatch q),H,N',nd⟩
 haveI r₃:Rest s₁ { sB with heap:=h₁,toks:=sB.toks+([]:List (Str×Value)).length }:=rB.trans ⟨rfl,.refl _,rfl⟩
 exact codeAny_compStart_list (loop _ S₃ r₃) (W.self A _ _ ρB X xs₁ _ [] _ _ _ 0 hP S₃ (loop _ S₃ r₃))
end
theorem zW {d:PyData} (h:SeqAt.shaped d=true):PyData.eqv d d=true:=PySem.SeqAt.eqv_refl d (SeqAt.canLay_of_shaped h)
section
variable {c:Cx} {sc:Scope} {U D:Nat} {loc:Loc} {σ:AH}
theorem uR {a b:AV} {d:PyData} {R:AV→AH→Prop} (ra:RdA σ a d) (rb:RdA σ b d) (hs:SeqAt.shaped d=true) (h:R (.bool false) σ):OpC c sc (U+64) D .NotEq a b loc σ R :=
 vY ra rb hs hs (by rw [zW hs];exact h)
theorem aIo {x:Str} {pos:Pos} {R:AV→AH→Prop} {l:Option (List Addr)} {ce:List (Str×Addr)} {a:Addr} {j:Nat} {v:AV} (hk:sc.names.lookup x=some .cell) (hd:(x==("__debug__" : Str))=false)
  (hf:c.fl=some (l,ce)) (hc:ce.lookup x=some a) (e:σ.get j=some (.cell a j (some v))) (h:R v σ):EvE c sc U D (.Name x pos) loc σ R:=fun A env L h₀ fm ρ X s Q E S K=>by
 obtain ⟨cn,b,ccd,cl,fr,rfl,hfl⟩:100:=fm.ex
 obtain ⟨rfl,-⟩:0:=hfl _ _ hf
 obtain ⟨o,ho,hk',hr⟩:100:=S.at e
 cases hr with
 | cell1 u hd' hj hρ hv =>
 rw [hρ] at ho
 exact wpAny_Name (wpAny_loadName_cell fm.hk hk hc ⟨o,ho,hd'⟩ (K.now h hv S)) hd
theorem aIp {k:Nat} {C:Addr} {xs:List AV} {R:AV→AH→Prop} (hC:aCr c.K C=true) (e:σ.get k=some (.mtup C xs)) (h:R (.ref σ.nx) (σ.new (.flds "tuple_iterator" [.ref k,.int 0]))):ItA c sc U D (.ref k) loc σ R:=fun A env L h₀ fm ρ X s Q E v S hv K=>by
 cases hv with
 | ref hlt =>
 obtain ⟨o,ho,_,hr⟩:100:=S.at e
 obtain ⟨m,news,F,_,_,_,_⟩:100:=S.ex
 simp only [aCr,Bool.and_eq_true,beq_iff_eq] at hC
 haveI X2:=fm.X.keeps F.keep
 cases hr with
 | mtup vs n d sl hr =>
 haveI T2:Looks (model c.prog c.w) s.heap (typeOf (.ref (ρ k))) (.ref C):=(Looks.ld (part:=none) ho).andThen .now
 haveI Y:SqC (model c.prog c.w) s.heap (.ref (ρ k)):=⟨T2.andThen (looks_findIn X2 hC.1),T2.andThen (looks_subIn X2 hC.2)⟩
 refine aAw Y ?_
 exact K _ _ _ _ _ h bA (Nat.le_succ _) (aK _ _ _) (S.allocN (.flds _ _ [.ref (ρ k),.int 0 0] (.cons (.ref k hlt) (.cons (.int _ _) .nil))) rfl s.toks) ⟨rfl,.refl _,rfl⟩
theorem aIq {k:Nat} {C:Addr} {xs:List AV} {R:AH→Prop} (hl:findIn c.K (.ref C) "__len__" = some (some (.builtin "tuple.__len__"))) (hs:subIn c.K (.ref C) (.type "tuple")=some true) (e:σ.get k=some (.mtup C xs)) (hf:xs.length < 2 ^ 20) (h:R σ):HnA c sc U D (.ref k) loc σ R:=fun A env L h₀ fm ρ X s Q E v S hv K=>by
 cases hv with
 | ref hlt =>
 obtain ⟨o,ho,_,hr⟩:100:=S.at e
 obtain ⟨m,news,F,_,_,_,_⟩:100:=S.ex
 haveI X2:=fm.X.keeps F.keep
 cases hr with
 | mtup vs n d sl hr =>
 haveI T2:Looks (model c.prog c.w) s.heap (typeOf (.ref (ρ k))) (.ref C):=(Looks.ld (part:=none) ho).andThen .now
 haveI I2:Looks (model c.prog c.w) s.heap (isInstance (.ref (ρ k)) (.type "tuple")) true:=T2.andThen (looks_subIn X2 hs)
 unfold Builtin.List.listLengthHint
 refine wpAny_bind ((T2.andThen (looks_findIn X2 hl)).here ?_)
 dsimp only
 rw [show splitId "tuple.__len__" = some ("tuple", "__len__") from by first | rfl | kernel_rfl]
 dsimp only
 refine wpAny_bind (I2.here ?_)
 refine KFB.if_not (by rfl) ?_
 refine KFB.if_so (by decide +kernel) ?_
 refine wpAny_bind (T2.here ?_)
 dsimp only
 refine wpAny_bind (lQ (loc:=loc) (R:=fun r s=>r=.int xs.length∧s=σ) hl hs e hf ⟨rfl,rfl⟩ A env L h₀ fm ρ X s _ _ _ _ S (.bi _) (.cons (.ref k hlt) .nil) fun ρ₁ σ₁ r u s₁ ⟨er,es⟩ vr n₁ g₁ S₁ r₁=>?_)
 subst er es
 cases vr
 refine wpAny_bind (wpAny_of_eq (a:=some (xs.length:Int)) (by rfl) ?_)
 dsimp only
 exact wpAny_pure (K ρ₁ σ₁ _ s₁ h n₁ g₁ S₁ r₁)
theorem uS {it k:Nat} {C:Addr} {a:AV} {xs:List AV} {i:Nat} {R:Option AV→AH→Prop} (e3:σ.get it=some (.flds "tuple_iterator" [.ref k,.int i])) (e4:σ.get k=some (.mtup C xs))
  (hx:xs[i]? = some a) (h:R (some a) (σ.set it (.flds "tuple_iterator" [.ref k,.int ((i+1:Nat):Int)]))):NxA c sc U D (.ref it) loc σ R:=fun A env L h₀ fm ρ X s Q E v S hv K=>by
 cases hv
 refine hid ?_;intro ZZ zz
 obtain ⟨o3,ho3,hk3,hr3⟩:100:=S.at e3
 obtain ⟨o4,ho4,hk4,hr4⟩:100:=S.at e4
 obtain ⟨vs3,hv3⟩:=jY hr3
 obtain ⟨w1,w2,hw1,hw2⟩:=fE hv3
 refine zz ?_;clear zz
 cases hw1
 cases hw2 with
 | int tk =>
 cases hr4 with
 | mtup vs n4 dd sl hvs =>
 haveI hlen:=hvs.length
 obtain ⟨hi,hxi⟩:1:=List.getElem?_eq_some_iff.mp hx
 haveI hva:VR ρ σ.nx a (vs.getD i .none):=hxi▸oR hvs i hi
 haveI hgv:vs.toArray[i]? = some (vs.getD i .none):=by
  haveI:i < vs.length:=by exact (kL hlen hi)
  simp [this]
 unfold pyNext
 refine wpAny_bind (wpAny_attempt (wpAny_callSpecial?_slot (name:=Str.ofString "__next__") ⟨_,ho3,rfl⟩ slot_tupleiter_next (wpAny_call_entry slot_tupleiter_next ⟨_,ho3,rfl⟩ entry_tupleiter_next ?_ (args_tupleiter_next _))))
 show wpAny _ _ (field (.ref (ρ it)) 0 >>= _) _ _ s
 refine wpAny_bind (wpAny_field ho3 rfl (x:=.ref (ρ k)) rfl ?_)
 show wpAny _ _ (if (Value.ref (ρ k)==Value.none)=true then _ else _) _ _ s
 rw [if_neg (show ¬ ((Value.ref (ρ k)==Value.none)=true) from Bool.false_ne_true)]
 show wpAny _ _ (field (.ref (ρ it)) 1 >>= _) _ _ s
 refine wpAny_bind (wpAny_field ho3 rfl (x:=.int i tk) rfl ?_)
 show wpAny _ _ (seqItems? (.ref (ρ k)) >>= _) _ _ s
 refine wpAny_bind (wpAny_seqItems ho4 rfl ?_)
 simp only [Int.toNat_natCast,hgv]
 refine wpAny_bind (wpAny_setField ho3 rfl (by simp) (wpAny_pure ⟨_,rfl,?_⟩))
 haveI q:=Heap.get?_update_self (Obj.mapFields (·.setIfInBounds 1 (rawInt ((i:Int)+1)))) ho3 rfl
 haveI q':(s.heap.update (ρ it) (Obj.mapFields (·.setIfInBounds 1 (rawInt ((i:Int)+1))))).get? (ρ it)=some { cls:=.type "tuple_iterator", data:=.fields [.ref (ρ k),.int ((i+1:Nat):Int) 0].toArray }:=q
 haveI hs:=Heap.SameBut.update s.heap (ρ it) (Obj.mapFields (·.setIfInBounds 1 (rawInt ((i:Int)+1))))
 haveI S':=S.setB e3 hs q' (.flds "tuple_iterator" [.ref k,.int ((i+1:Nat):Int)] _ (.cons (.ref k hk4) (.cons (.int _ 0) .nil))) s.toks
 exact wpAny_pure (K.2 ρ _ a _ _ h hva (Te _) (Agree.refl _ _) S' ⟨rfl,.refl _,rfl⟩)
theorem xH {it k:Nat} {C:Addr} {xs:List AV} {i:Nat} {R:Option AV→AH→Prop} (e3:σ.get it=some (.flds "tuple_iterator" [.ref k,.int i])) (e4:σ.get k=some (.mtup C xs))
  (hx:xs[i]? = none) (h:R none (σ.set it (.flds "tuple_iterator" [.none,.int i]))):NxA c sc U D (.ref it) loc σ R:=fun A env L h₀ fm ρ X s Q E v S hv K=>by
 cases hv
 refine hid ?_;intro ZZ zz
 obtain ⟨o3,ho3,hk3,hr3⟩:100:=S.at e3
 obtain ⟨o4,ho4,hk4,hr4⟩:100:=S.at e4
 obtain ⟨vs3,hv3⟩:=jY hr3
 obtain ⟨w1,w2,hw1,hw2⟩:=fE hv3
 refine zz ?_;clear zz
 cases hw1
 cases hw2 with
 | int tk =>
 cases hr4 with
 | mtup vs n4 dd sl hvs =>
 haveI hlen:=hvs.length
 haveI hxi:=List.getElem?_eq_none_iff.mp hx
 haveI hgv:vs.toArray[i]? = none:=by simp;exact (yC hlen hxi)
 unfold pyNext
 refine wpAny_bind (wpAny_attempt (wpAny_callSpecial?_slot (name:=Str.ofString "__next__") ⟨_,ho3,rfl⟩ slot_tupleiter_next (wpAny_call_entry slot_tupleiter_next ⟨_,ho3,rfl⟩ entry_tupleiter_next ?_ (args_tupleiter_next _))))
 show wpAny _ _ (field (.ref (ρ it)) 0 >>= _) _ _ s
 refine wpAny_bind (wpAny_field ho3 rfl (x:=.ref (ρ k)) rfl ?_)
 show wpAny _ _ (if (Value.ref (ρ k)==Value.none)=true then _ else _) _ _ s
 rw [if_neg (show ¬ ((Value.ref (ρ k)==Value.none)=true) from Bool.false_ne_true)]
 show wpAny _ _ (field (.ref (ρ it)) 1 >>= _) _ _ s
 refine wpAny_bind (wpAny_field ho3 rfl (x:=.int i tk) rfl ?_)
 show wpAny _ _ (seqItems? (.ref (ρ k)) >>= _) _ _ s
 refine wpAny_bind (wpAny_seqItems ho4 rfl ?_)
 simp only [Int.toNat_natCast,hgv]
 refine wpAny_bind (wpAny_rule (wpAny_bind (wpAny_setField ho3 rfl (by simp) ?_)))
 haveI q:(s.heap.update (ρ it) (Obj.mapFields (·.setIfInBounds 0 .none))).get? (ρ it)=some { cls:=.type "tuple_iterator", data:=.fields [.none,.int i tk].toArray }:=Heap.get?_update_self (Obj.mapFields (·.setIfInBounds 0 .none)) ho3 rfl
 haveI hs:=Heap.SameBut.update s.heap (ρ it) (Obj.mapFields (·.setIfInBounds 0 .none))
 haveI S1:=S.setB e3 hs q (.flds "tuple_iterator" [.none,.int i] _ (.cons .none (.cons (.int _ tk) .nil))) s.toks
 refine tV fm.hh fun o1 o2 hf2 ho2=>?_
 refine wpAny_bind (wpAny_isInstance (T := "StopIteration") (b:=true) ⟨_,Heap.get?_push_size _ hf2,ho2⟩ isSubtype_stop ?_)
 refine wpAny_pure (K.1 ρ _ () _ h (Te _) (Agree.refl _ _) ?_ ⟨rfl,.refl _,rfl⟩)
 exact St.stop (xs:=[]) S1 (fun b o _ hb=>Heap.get?_push_of_some _ (Heap.get?_push_of_some _ hb)) s.toks
theorem aMh {it k Z:Nat} {C:Addr} {R:AV→AH→Prop} {xs:List AV} (hz:xs.length < 1000) (hit:Z≠it) (hkz:∀ σ':AH,σ'.get k=some (.mtup C xs)→True):∀ (n i:Nat) (σ:AH),xs.length - i=n→i≤xs.length→σ.get it=some (.flds "tuple_iterator" [.ref k,.int i])→σ.get k=some (.mtup C xs)→σ.get Z=some (.list (xs.take i)) →
  (∀ σ',Ext [it,Z] σ σ'→σ'.get Z=some (.list xs)→R (.ref Z) σ')→aCv c sc U D (.ref it) Z loc R (n+1) (xs.take i) σ:=by
 intro n
 induction n with
 | zero =>
  intro i σ hn hi e3 e4 eZ h
  haveI:i=xs.length:=by exact (aSu hn hi)
  subst this
  refine xH e3 e4 (by simp) ⟨aC hit eZ,h _ ((Ext.refl _).set (.inl (.head _))) ?_⟩
  rw [List.take_length] at eZ
  exact aC hit eZ
 | succ n ih =>
  intro i σ hn hi e3 e4 eZ h
  haveI hlt:i < xs.length:=by exact (aOt hn)
  haveI hki:k≠it:=aE e4 e3 (by intro q;cases q)
  haveI hkZ:k≠Z:=aE e4 eZ (by intro q;cases q)
  refine uS e3 e4 (List.getElem?_eq_getElem hlt) ⟨aC hit eZ,by rw [List.length_take];exact (aSx hz),?_⟩
  haveI ht:xs.take i++[xs[i]]=xs.take (i+1):=by rw [List.take_add_one,List.getElem?_eq_getElem hlt];rfl
  rw [ht]
  refine ih (i+1) _ (by exact (aKe hn)) hlt (aC (Ne.symm hit) (aF e3)) (aC hkZ (aC hki e4)) (aF (aC hit eZ)) fun σ' hx hz'=>h σ' (((Ext.refl _).set (.inl (.head _))).set (.inl (.tail _ (.head _))) |>.trans hx) hz'
theorem kH {k:Nat} {C:Addr} {xs:List AV} {R:AV→AH→Prop} (hC:aCr c.K C=true) (hl:findIn c.K (.ref C) "__len__" = some (some (.builtin "tuple.__len__"))) (hs:subIn c.K (.ref C) (.type "tuple")=some true) (e:σ.get k=some (.mtup C xs)) (hz:xs.length < 1000)
  (h:∀ σ',Ext [] σ σ'→σ'.get σ.nx=some (.list xs)→R (.ref σ.nx) σ'):ClV c sc (U+3) D (.ty "list") [.ref k] loc σ R:=by
 refine kQ (T:=.ref C) (fuel:=xs.length - 0+1) rfl e rfl rfl rfl (aIp hC (aA e) (aIq hl hs (aA (aA e)) (by exact (Tc hz (Tb rfl))) ⟨aA aB,?_⟩))
 haveI e1:((σ.new (.list [])).new (.flds "tuple_iterator" [.ref k,.int 0])).get σ.nx=some (.list []):=aA aB
 refine aMh (Z:=σ.nx) (it:=σ.nx+1) (xs:=xs) (k:=k) (C:=C) hz (Nat.ne_of_lt (Nat.lt_succ_self _)) (fun _ _=>trivial) (xs.length - 0) 0 _ rfl (Nat.zero_le _) (aC (Nat.succ_ne_self _) aB) (aC (aE (aA (aA e)) e1 (by intro q;cases q)) (aA (aA e))) (aF e1) fun σ' hx hZ=>h σ' ?_ hZ
 refine ⟨Ta (Ta (Nat.le_succ _) (Nat.le_succ _)) hx.nx,fun j o n ej=>?_⟩
 haveI hj:=AH.get_lt ej
 exact hx.keep (aC (by exact (Nat.ne_of_lt hj)) (aA (aA ej))) (by simp;lia)
end
section
variable {A:Around} {s:Shared}
end
section
variable {c:Cx} {sc:Scope} {U D:Nat} {loc:Loc} {σ:AH}
end
noncomputable def dB (b:Nat×Nat×Nat):PyData:=.list [.int b.1,.int b.2.1,.int b.2.2]
theorem aBf {α:Type} {f:α→PyData} {l:List α} (h:∀ a∈l,(f a).canLay0=true):PyData.canLayAll0 (l.map f)=true:=by
 induction l with
 | nil=>rfl
 | cons a l ih=>rw [List.map_cons,PyData.canLayAll0,Bool.and_eq_true];exact ⟨h a (.head _),ih fun x hx=>h x (.tail _ hx)⟩
theorem aBg {α:Type} {f:α→PyData} {n:Nat} {l:List α} (h:∀ a∈l,(f a).depth≤n):PyData.depthAll (l.map f)≤n:=by
 induction l with
 | nil=>exact Nat.zero_le _
 | cons a l ih=>rw [List.map_cons,PyData.depthAll];exact Nat.max_le.mpr ⟨h a (.head _),ih fun x hx=>h x (.tail _ hx)⟩
theorem nR {α:Type} {f:α→PyData} {l:List α} (h:∀ a∈l,(f a).canLay0=true∧(f a).depth≤9):SeqAt.shaped (.list (l.map f))=true:=by
 unfold SeqAt.shaped
 rw [Bool.and_eq_true]
 refine ⟨aBf fun a ha=>(h a ha).1,decide_eq_true ?_⟩
 show PyData.depthAll (l.map f)+1≤64
 haveI:=aBg (n:=9) fun a ha=>(h a ha).2
 exact (Nat.succ_le_succ (Ta this (Tb rfl)))
theorem kJ (B:List (Nat×Nat×Nat)):SeqAt.shaped (.list (B.map dB))=true:=nR fun b _=>⟨rfl,by simp [dB,PyData.depth,PyData.depthAll]⟩
section
variable {c:Cx} {sc:Scope} {U D:Nat} {loc:Loc} {σ:AH}
theorem uT {value slice:Expr} {k j m:Nat} {o:Obj} {vs:List Value} {xs:List AV} {a b:AV} {lo hi:Option Int} {R:AV→AH→Prop} (e:σ.get k=some (.raw o)) (hc:o.cls=.type "list") (hd:o.data=.seq vs.toArray m) (hvs:∀ ρ n,VRs ρ n xs vs) (ej:σ.get j=some (.flds "slice" [a,b,.none])) (pa:PartA a lo) (pb:PartA b hi) (hf:xs.length≤1000)
  (h:R (.ref σ.nx) (σ.new (.list (sX xs lo hi)))) (hs:∀ l i,subscripted slice false (.ref l) (.ref i)=operate [.ref i,.ref l] (getItem (.ref l) (.ref i))):SbT c sc U D value slice (.ref k) (.ref j) loc σ R:=fun A env L h₀ fm ρ X s Q E v w S hv hw K=>by
 cases hv;cases hw
 obtain ⟨o1,ho1,hk1,hr1⟩:100:=S.at e
 obtain ⟨o2,ho2,hk2,hr2⟩:100:=S.at ej
 cases hr1
 haveI hvs:=hvs ρ σ.nx
 refine hid ?_;intro ZZ zz
 obtain ⟨ws,hw⟩:=jY hr2
 obtain ⟨w1,w2,w3,hw1,hw2,hw3⟩:=vR hw
 refine zz ?_;clear zz
 cases hw3
 haveI l1:=hvs.length
 haveI hl:s.heap.IsList (ρ k) vs.toArray:=⟨_,ho1,hc,m,hd⟩
 refine tail_any hl.typeIs slot_list_getitem.lookup (wpAny_getItem_list_slice hl ⟨_,ho2,rfl,rfl⟩ (pa.part hw1) (pb.part hw2) .none (by simp) ?_ (by simp only [List.size_toArray,sizeLine_eq];lia)) (hs _ _)
 rw [kms_pick_eq]
 haveI hp:VRs ρ σ.nx (sX xs lo hi) (kms_pick vs lo hi):=by
  unfold sX kms_pick
  rw [← l1]
  exact (hvs.drop' _).take' _
 exact K _ _ _ _ _ h bA (Nat.le_succ _) (aK _ _ _) (S.allocN (.list _ _ 0 hp) rfl s.toks) ⟨rfl,.refl _,rfl⟩
end
section
variable {x:Str} {a b:AV} {p0 p1 p2 p3 p4 p5 p6 p7 p8 p9:Str×AV} {r r':Loc}
theorem aXn:InL x a (p0::(x,a)::r):=.there _ _ (.here _)
theorem aXo:InL x a (p0::p1::(x,a)::r):=.there _ _ aXn
theorem aXp:InL x a (p0::p1::p2::(x,a)::r):=.there _ _ aXo
theorem aXq:InL x a (p0::p1::p2::p3::(x,a)::r):=.there _ _ aXp
theorem aXr:InL x a (p0::p1::p2::p3::p4::(x,a)::r):=.there _ _ aXq
theorem aXs:InL x a (p0::p1::p2::p3::p4::p5::(x,a)::r):=.there _ _ aXr
theorem aXt:InL x a (p0::p1::p2::p3::p4::p5::p6::(x,a)::r):=.there _ _ aXs
theorem aXu:InL x a (p0::p1::p2::p3::p4::p5::p6::p7::(x,a)::r):=.there _ _ aXt
theorem bAu:InL x a (p0::p1::p2::p3::p4::p5::p6::p7::p8::(x,a)::r):=.there _ _ aXu
theorem aXv (h:InL x a r):InL x a (p0::p1::p2::p3::p4::p5::p6::p7::p8::p9::r):=.there _ _ (.there _ _ (.there _ _ (.there _ _ (.there _ _ (.there _ _ (.there _ _ (.there _ _ (.there _ _ (.there _ _ h)))))))))
theorem bAv (h:PtL x a r r'):PtL x a (p0::r) (p0::r'):=.there _ _ _ h
theorem aXw:PtL x a (p0::(x,b)::r) (p0::(x,a)::r):=.there _ _ _ (.here _ _)
theorem aXx:PtL x a (p0::p1::(x,b)::r) (p0::p1::(x,a)::r):=.there _ _ _ aXw
theorem aXy:PtL x a (p0::p1::p2::(x,b)::r) (p0::p1::p2::(x,a)::r):=.there _ _ _ aXx
theorem bAw:PtL x a (p0::p1::p2::p3::(x,b)::r) (p0::p1::p2::p3::(x,a)::r):=.there _ _ _ aXy
theorem bAx (h:PtL x a r r'):PtL x a (p0::p1::p2::p3::p4::r) (p0::p1::p2::p3::p4::r'):=.there _ _ _ (.there _ _ _ (.there _ _ _ (.there _ _ _ (.there _ _ _ h))))
end
section
variable {c:Cx} {sc:Scope} {loc:Loc} {σ:AH}
def Pv (c:Cx) (sc:Scope) (loc:Loc) (σ:AH) (e:Expr) (a:AV):Prop:=∀ U D R,R a σ→EvE c sc U D e loc σ R
def Pt (c:Cx) (sc:Scope) (loc:Loc) (σ:AH) (e:Expr) (b:Bool):Prop:=∀ U D R,R b σ→EvT c sc U D e loc σ R
def Ob (op:Operator) (a b d:AV):Prop:=∀ c sc U D loc σ R,R d σ→OpB c sc U D op a b loc σ R
def Oc (op:CmpOp) (a b:AV) (d:Bool):Prop:=∀ c sc U D loc σ R,R (.bool d) σ→OpC c sc U D op a b loc σ R
theorem aRg {x:Str} {pos:Pos} {a:AV} (hk:sc.names.lookup x=some .local) (hd:(x==("__debug__" : Str))=false) (hi:InL x a loc) (hl:loc.lookup x=some a):Pv c sc loc σ (.Name x pos) a:=fun _ _ _ h=>cA hk hd hi hl h
theorem aRh {i:Int} {k:Nat} {pos:Pos}:Pv c sc loc σ (.Constant (.int i) k pos) (.int i):=fun _ _ _ h=>aKn h
theorem uU {i:Str} {k:Nat} {pos:Pos}:Pv c sc loc σ (.Constant (.str i) k pos) (.str i):=fun _ _ _ h=>aKo h
theorem aMi {i:Bool} {k:Nat} {pos:Pos}:Pv c sc loc σ (.Constant (.bool i) k pos) (.bool i):=fun _ _ _ h=>aFi h
theorem aMj {k:Nat} {pos:Pos}:Pv c sc loc σ (.Constant .none k pos) .none:=fun _ _ _ h=>aFh h
theorem aRi {l r:Expr} {op:Operator} {pos:Pos} {a b d:AV} (hl:Pv c sc loc σ l a) (hr:Pv c sc loc σ r b) (ho:Ob op a b d):Pv c sc loc σ (.BinOp l op r pos) d:=fun _ _ _ h=>jF (hl _ _ _ (hr _ _ _ (ho _ _ _ _ _ _ _ h)))
theorem aRj {l r:Expr} {op:CmpOp} {pos:Pos} {a b:AV} {d:Bool} (hm:behindInMarks op r=false) (hl:Pv c sc loc σ l a) (hr:Pv c sc loc σ r b) (ho:Oc op a b d):Pt c sc loc σ (.Compare l [op] [r] pos) d:=fun _ _ _ h=>cU hm (hl _ _ _ (hr _ _ _ (ho _ _ _ _ _ _ _ (vH h))))
theorem aMk {x:Str} {xp:Pos} {name:Str} {pos:Pos} {k d:Nat} {C:Addr} {kvs:List (Str×AV)} {a:AV} (hv:Pv c sc loc σ (.Name x xp) (.ref k)) (e:σ.get k=some (.inst C d)) (e':σ.get d=some (.idict kvs)) (hi:InL name a kvs) (hl:kvs.lookup name=some a) (ga:GA c C name) (hd:lL a=true):Pv c sc loc σ (.Attribute (.Name x xp) name pos) a :=
 fun _ _ _ h=>vK (fun _=>rfl) (hv _ _ _ (aFj e e' hi hl ga.g ga.h ga.f rfl hd h))
section
variable {i j:Int} {x y:Str} {a:AV} {b:Bool}
theorem aRk:Ob .Add (.int i) (.int j) (.int (i+j)):=fun _ _ _ _ _ _ _ h=>yE h
theorem aRl:Ob .Sub (.int i) (.int j) (.int (i - j)):=fun _ _ _ _ _ _ _ h=>yF h
theorem aXz:Oc .Eq (.int i) (.int j) (i==j):=fun _ _ _ _ _ _ _ h=>oZ h
theorem aYa:Oc .NotEq (.int i) (.int j) (i != j):=fun _ _ _ _ _ _ _ h=>yG h
theorem aYb:Oc .Lt (.int i) (.int j) (decide (i < j)):=fun _ _ _ _ _ _ _ h=>yH h
theorem aYc:Oc .Gt (.int i) (.int j) (decide (i > j)):=fun _ _ _ _ _ _ _ h=>yI h
theorem aYd:Oc .GtE (.int i) (.int j) (decide (i≥j)):=fun _ _ _ _ _ _ _ h=>yJ h
theorem aRm:Oc .Eq (.str x) (.str y) (x==y):=fun _ _ _ _ _ _ _ h=>pA h
theorem aRn:Oc .NotEq (.str x) (.str y) (x != y):=fun _ _ _ _ _ _ _ h=>yK h
theorem aRo:Oc .In (.str x) (.str y) (inS x y):=fun _ _ _ _ _ _ _ h=>zB h
theorem aMl:Oc .Eq (.str x) .none false:=fun _ _ _ _ _ _ _ h=>nU h
theorem aRp:Oc .Eq .none .none true:=fun _ _ _ _ _ _ _ h=>wB h
theorem aOl (h:a.isN=b):Oc .Is a .none b:=fun _ _ _ _ _ _ _ q=>aKz h q
theorem aBh (h:(!a.isN)=b):Oc .IsNot a .none b:=fun _ _ _ _ _ _ _ q=>yR h q
end
variable {U D:Nat} {l:List Stmt} {R:AF→Loc→AH→Prop}
theorem aRq {e:Expr} {a:AV} {R:AV→AH→Prop} (hp:Pv c sc loc σ e a) (h:R a σ):EvE c sc U D e loc σ R:=hp _ _ _ h
theorem aRr {e:Expr} {b:Bool} {R:Bool→AH→Prop} (hp:Pt c sc loc σ e b) (h:R b σ):EvT c sc U D e loc σ R:=hp _ _ _ h
theorem aBi {st:Stmt} (h:Ex1 c sc U D st loc σ R):ExS c sc U D [st] loc σ R:=aH fun A env L h₀ fm ρ X s Q E S K=>h A env L h₀ fm ρ X s Q E S fun ρ' σ' loc' a f s' q fr n g S' r=>K ρ' σ' loc' a f s' (by
 cases fr with
 | next=>exact dR (oO q)
 | brk=>exact q
 | cont=>exact q
 | ret=>exact q) fr n g S' r
theorem aIr {t:Expr} {body orelse:List Stmt} {pos:Pos} {b:Bool} (hp:Pt c sc loc σ t b) (h:(b=true→ExS c sc U D body loc σ (thenS c sc U D l R))∧(b=false→ExS c sc U D orelse loc σ (thenS c sc U D l R))):ExS c sc U D (.If t body orelse pos::l) loc σ R:=aH (fZ (hp _ _ _ h))
theorem aBj {t:Expr} {body orelse:List Stmt} {pos:Pos} {b:Bool} (hp:Pt c sc loc σ t b) (h:(b=true→ExS c sc U D body loc σ R)∧(b=false→ExS c sc U D orelse loc σ R)):ExS c sc U D [.If t body orelse pos] loc σ R:=aBi (fZ (hp _ _ _ h))
theorem aMm {x:Str} {xp pos:Pos} {e:Expr} {a:AV} {l':Loc} (hs:∀ env,swapsWith e (some (.Name x xp)) pos.line env=pure false) (hk:sc.names.lookup x=some .local) (hp:Pv c sc loc σ e a) (ht:PtL x a loc l') (et:put x a loc=l') (h:ExS c sc U D l l' σ R):ExS c sc U D (.Assign [.Name x xp] e pos::l) loc σ R :=
 aH (cQ hs hk (hp _ _ _ (aNp ht et h)))
section
variable {R:AV→AH→Prop} {pos:Pos} {a b d f:AV} {e l r:Expr} {es:List Expr} {as:List AV} {U D:Nat}
def PvL (c:Cx) (sc:Scope) (loc:Loc) (σ:AH) (es:List Expr) (as:List AV):Prop:=∀ U D R,R as σ→EvL c sc U D es loc σ R
theorem uV:PvL c sc loc σ [] []:=fun _ _ _ h=>eT h
theorem mH (he:∀ env,starEach (e::es) env=(false,eval e env)::starEach es env) (hp:Pv c sc loc σ e a) (ht:PvL c sc loc σ es as):PvL c sc loc σ (e::es) (a::as):=fun _ _ _ h=>bD he (hp _ _ _ (ht _ _ _ h))
theorem aRs {R:List AV→AH→Prop} (hp:PvL c sc loc σ es as) (h:R as σ):EvL c sc U D es loc σ R:=hp _ _ _ h
theorem aIs (hv:Pv c sc loc σ l a) (hi:Pv c sc loc σ r b) (h:SbT c sc U D l r a b loc σ R):EvE c sc U D (.Subscript l r pos) loc σ R:=oQ (hv _ _ _ (hi _ _ _ h))
theorem aIt (hv:Pv c sc loc σ l a) (h:EvE c sc U D r loc σ fun b σ₂=>SbT c sc U D l r a b loc σ₂ R):EvE c sc U D (.Subscript l r pos) loc σ R:=oQ (hv _ _ _ h)
theorem aIu {op:Operator} (hl:Pv c sc loc σ l a) (hr:Pv c sc loc σ r b) (h:OpB c sc U D op a b loc σ R):EvE c sc U D (.BinOp l op r pos) loc σ R:=jF (hl _ _ _ (hr _ _ _ h))
theorem zX {k:Nat} (hp:PvL c sc loc σ es as) (h:as.length≤sizeLine∧R (.ref σ.nx) (σ.new (.tup as))):EvE c sc U D (.Tuple es k pos) loc σ R:=sN (hp _ _ _ h)
theorem nC (hp:PvL c sc loc σ es as) (h:as.length≤sizeLine∧R (.ref σ.nx) (σ.new (.list as))):EvE c sc U D (.List es pos) loc σ R:=iG (hp _ _ _ h)
theorem aEc (he:∀ env,eval (.Call e es [] pos) env=(do callWith pos (← eval e env) [] (backTo pos (starEach es env)) (backToKw pos (keywordEach [] env)))) (hp:Pv c sc loc σ e f) (h:CwA c sc U D pos f [] es loc σ R):EvE c sc U D (.Call e es [] pos) loc σ R:=fO he (hp _ _ _ h)
theorem aEd {name:Str} {apos:Pos} (he:∀ env,eval (.Call (.Attribute e name apos) es [] pos) env=(do
   let ov ← eval e env
   standAt apos.atName
   let (f,first) ← holding [ov] (getMethod ov name (do return (← importBound e env).getD true))
   callWith pos f first (backTo pos (starEach es env)) []))
  (hp:Pv c sc loc σ e a) (h:GmV c sc U D a name loc σ fun f first σ₂=>CwA c sc U D pos f first es loc σ₂ R):EvE c sc U D (.Call (.Attribute e name apos) es [] pos) loc σ R:=pJ he (hp _ _ _ h)
theorem aYe (he:∀ env,starEach (e::es) env=(false,eval e env)::starEach es env) (hn:∀ env,(backTo pos (starEach es env)).any (·.1)=false) (hp:PvL c sc loc σ (e::es) as) (h:cV c σ f∧ClV c sc U D f as loc σ R):CwA c sc U D pos f [] (e::es) loc σ R:=aCn he hn (hp _ _ _ h)
theorem aYf (he:∀ env,starEach (e::es) env=(false,eval e env)::starEach es env) (hn:∀ env,(backTo pos (starEach es env)).any (·.1)=false) (hp:PvL c sc loc σ (e::es) as) (h:cV c σ f∧ClV c sc U D f (a::as) loc σ R):CwA c sc U D pos f [a] (e::es) loc σ R:=aTf he hn (hp _ _ _ h)
theorem zY {R:Bool→AH→Prop} (he:∀ env whole,isTrue e env whole=(do let v ← whole;standAt e.pos;holding [v] (truthy v))) (hp:Pv c sc loc σ e a) (h:TrV c sc U D a loc σ R):EvT c sc U D e loc σ R:=sO he (hp _ _ _ h)
end
theorem xI {e:Expr} {a:AV} {pos:Pos} (hp:Pv c sc loc σ e a) (h:R (.ret a) loc σ):Ex1 c sc U D (.Return (some e) pos) loc σ R:=gD (hp _ _ _ h)
theorem aIv {x:Str} {xp pos:Pos} {op:Operator} {value:Expr} {a b:AV} (hk:sc.names.lookup x=some .local) (hi:InL x a loc) (hl:loc.lookup x=some a) (hp:Pv c sc loc σ value b)
  (h:OpI c sc U D op a b loc σ fun d σ₂=>PutTo x d loc fun l=>R .next l σ₂):Ex1 c sc U D (.AugAssign (.Name x xp) op value pos) loc σ R:=aAs hk hi hl (hp _ _ _ h)
theorem aEe {o i:Expr} {pos:Pos} {a b d:AV} {R:Loc→AH→Prop} (ho:Pv c sc loc σ o b) (hi:Pv c sc loc σ i d) (h:SiA c sc U D b d a loc σ fun σ₃=>R loc σ₃):As1 c sc U D (.Subscript o i pos) a loc σ R:=vT (ho _ _ _ (hi _ _ _ h))
theorem aEf {o value:Expr} {attr:Str} {ap pos:Pos} {a b:AV} (hs:∀ env,swapsWith value (some (.Attribute o attr ap)) pos.line env=pure false) (hv:Pv c sc loc σ value a) (ho:Pv c sc loc σ o b)
  (h:SaA c sc U D b attr a loc σ fun σ₃=>R .next loc σ₃):Ex1 c sc U D (.Assign [.Attribute o attr ap] value pos) loc σ R:=gT hs (hv _ _ _ (ho _ _ _ h))
theorem cdT {α:Type} {x y:α}:x=cond true x y:=rfl
theorem cdF {α:Type} {x y:α}:y=cond false x y:=rfl
theorem aMn {t:Expr} {body orelse rest X:List Stmt} {pos:Pos} {b:Bool} (hp:Pt c sc loc σ t b) (hx:X=cond b body orelse) (h:ExS c sc U D X loc σ (thenS c sc U D rest R)):ExS c sc U D (.If t body orelse pos::rest) loc σ R:=aIr hp ⟨fun q=>by subst q;subst hx;exact h,fun q=>by subst q;subst hx;exact h⟩
theorem aIw {t:Expr} {body orelse X:List Stmt} {pos:Pos} {b:Bool} (hp:Pt c sc loc σ t b) (hx:X=cond b body orelse) (h:ExS c sc U D X loc σ R):ExS c sc U D [.If t body orelse pos] loc σ R:=aBj hp ⟨fun q=>by subst q;subst hx;exact h,fun q=>by subst q;subst hx;exact h⟩
structure Kont (R K:AF→Loc→AH→Prop):Prop where
 to:∀ f l s,R f l s→K f l s
theorem ExS.abs {ss:List Stmt} (h:∀ K,Kont R K→ExS c sc U D ss loc σ K):ExS c sc U D ss loc σ R:=h R ⟨fun _ _ _ q=>q⟩
theorem Ex1.abs {st:Stmt} (h:∀ K,Kont R K→Ex1 c sc U D st loc σ K):Ex1 c sc U D st loc σ R:=h R ⟨fun _ _ _ q=>q⟩
theorem As1.abs {t:Expr} {a:AV} {ss:List Stmt} (h:∀ K,Kont R K→As1 c sc U D t a loc σ fun l s=>ExS c sc U D ss l s K):As1 c sc U D t a loc σ fun l s=>ExS c sc U D ss l s R:=h R ⟨fun _ _ _ q=>q⟩
theorem Kont.use {K:AF→Loc→AH→Prop} (hK:Kont R K) {f:AF} {l:Loc} {s:AH} (h:R f l s):K f l s:=hK.to f l s h
section
variable {R:AV→AH→Prop}
theorem aYg {op:CmpOp} {a b:AV} {d:Bool} (ho:Oc op a b d) (h:R (.bool d) σ):OpC c sc U D op a b loc σ R:=ho _ _ _ _ _ _ _ h
theorem aYh {op:Operator} {a b d:AV} (ho:Ob op a b d) (h:R d σ):OpB c sc U D op a b loc σ R:=ho _ _ _ _ _ _ _ h
theorem aYi {k d:Nat} {C:Addr} {kvs:List (Str×AV)} {name:Str} {a:AV} (e:σ.get k=some (.inst C d)) (e':σ.get d=some (.idict kvs)) (hi:InL name a kvs) (hl:kvs.lookup name=some a) (ga:GA c C name) (hd:lL a=true) (h:R a σ):GtA c sc U D (.ref k) name loc σ R:=aFj e e' hi hl ga.g ga.h ga.f rfl hd h
theorem aRt {a:AV} (h:a.isN=false):Oc .Is a .none false:=aOl h
theorem aRu {a:AV} (h:a.isN=true):Oc .Is a .none true:=aOl h
theorem aIx {a:AV} (h:(!a.isN)=false):Oc .IsNot a .none false:=aBh h
theorem aIy {a:AV} (h:(!a.isN)=true):Oc .IsNot a .none true:=aBh h
theorem sI {a b:String} (e:(!(Value.type a==Value.type b))=false) (h:R (.bool false) σ):OpC c sc U D .IsNot (.ty a) (.ty b) loc σ R:=tZ e h
end
theorem aRv {k:Nat} {xs:List AV} {R:AV→List AV→AH→Prop} (e:σ.get k=some (.list xs)) (h:R (.bi "list.append") [.ref k] σ):GmV c sc U D (.ref k) (S "append") loc σ R:=tQ e PySem.F.slot_list_append PySem.F.type_list_append h
theorem aBk {k:Nat} {kvs:List (Str×AV)} {R:AV→List AV→AH→Prop} (e:σ.get k=some (.idict kvs)) (h:R (.bi "dict.setdefault") [.ref k] σ):GmV c sc U D (.ref k) (S "setdefault") loc σ R:=vQ e PySem.F.slot_dict_setdefault PySem.F.type_dict_setdefault h
theorem aBl {k:Nat} {kvs:List (Str×AV)} {R:AV→List AV→AH→Prop} (e:σ.get k=some (.idict kvs)) (h:R (.bi "dict.get") [.ref k] σ):GmV c sc U D (.ref k) (S "get") loc σ R:=vQ e PySem.F.slot_dict_get PySem.F.type_dict_get h
theorem aMo {elts:List Expr} {k:Nat} {pos:Pos} {j:Nat} {as:List AV} {R:Loc→AH→Prop} (hC:aCr c.K aL=true) (e:σ.get j=some (.mtup aL as))
  (he:∀ env,(assignEach elts env).map (·.2)=elts.map fun t=>assign t env) (hl:∀ env,(assignEach elts env).length=elts.length) (hn:elts.length=as.length) (hstar:∀ env,(assignEach elts env).findIdx? (·.1)=none)
  (h:AsL c sc U D elts as loc σ R):As1 c sc U D (.Tuple elts k pos) (.ref j) loc σ R:=aGf hC e he hl hn hstar h
section
variable {B:Prop}
theorem uW {a:Addr} (h:keepIn c.K (.ref a)=true) (b:B):cV c σ (.glob a)∧B:=⟨.glob _ h,b⟩
theorem aYj {i:String} (b:B):cV c σ (.bi i)∧B:=⟨.bi _,b⟩
theorem aIz {i:String} (b:B):cV c σ (.ty i)∧B:=⟨.ty _,b⟩
theorem aRw {k:Nat} {xs:List AV} (h:σ.get k=some (.flds "builtin_function_or_method" xs)) (b:B):cV c σ (.ref k)∧B:=⟨.bnd _ _ h,b⟩
theorem aRx {a b:Nat} (h:a≤b) (q:B):a≤b∧B:=⟨h,q⟩
end
end
section
def drvT:List (String×String):=[
("jthenS", "dR _;aCg _;aCf _;yD _"),
("jExS", "aIw 12_ 1pt 2cd;aMn 12_ 1pt 2cd;aBj 1_ 1pt;aIr 1_ 1pt;aMm 12345_ 1fr 2kr 3pv 4ptl 5kl;aBi _;aH _;oO _"),
("jEx1", "fZ _;cQ 12_ 1fr 2kr;aEf 123_ 1kr 2pv 3pv;gT 1_ 1kr;vN 12_ 1kr 2kr;vO 12_ 1kr 2kr;aIv 1234_ 2inl 1kr 3kl 4pv;aAs 123_ 2inl 1kr 3kl;xI 1_ 1pv;gD _;aFo 12_ 1kr 2kr;aCh _;tN _;uA _;vS 123_ 1ik 2ik 3ik!;aCo 12_ 1kr 2kr;aCp 12_ 1kr 2kr"),
("jAs1", "lK 1_ 1kr;aFr _;aCj 12345_ 1hget 2kr 3kr 4rf 5kr;aMo 123456_ 2hget 1krc 3kr 4kr 5rf 6kr;aGn 12345_ 1hget 2kr 3kr 4rf 5kr;aEe 12_ 1pv 2pv;vT _"),
("jPutTo", "aNp 12_ 1ptl 2kl"),
("jEvE", "aRq 1_ 1pv;vK 1_ 1kr;aEd 12_ 1kr 2pv;pJ 1_ 1kr;aEc 12_ 1kr 2pv;fO 1_ 1kr;aIu 12_ 1pv 2pv;jF _;vG 1_ 1kr;nC 1_ 1pvl;iG _;zX 1_ 1pvl;sN _;aIs 12_ 1pv 2pv;aIt 1_ 1pv;oQ _;aCi _;aCz _;aLj _;@nmg"),
("jEvL", "eT _;aRs 1_ 1pvl;bD 1_ 1kr"),
("jEvT", "aRr 1_ 1pt;cU 1_ 1kr;aKs _;aOz _;vM _;yM _;aKr _;zY 12_ 1kr 2pv;sO 1_ 1kr"),
("jTrV", "vH _;aFm _;aKt _;aKu 1_ 1sz;aDd 1_ 1hget"),
("jOpB", "aYh 1_ 1ob;nK 123_ 1hget 2hget 3sz;zA 1_ 1dc;vZ 12_ 1dc 2dc;gK 1_ 1sz"),
("jOpC", "aYg 1_ 1oc;cmp_le_int _;sI 1_ 1dc;jM _"),
("jOpI", "aKv _;aLm 1_ 1sz"),
("jGtA", "aYi 123456_ 1hget 2hget 3inl 4kl 5ga 6rf;tR 1_ 1hget;mU 1_ 1hget"),
("jSaA", "aGk 1234567_ 1hget 2hget 3cl 4cl 5an 6cl 7le;aFl 1234567_ 1hget 2hget 3cl 4cl 5an 6cl 7le"),
("jGmV", "aKx 123456_ 1hget 2hget 4fi 3cl 5kr 6kr;aRv 1_ 1hget;aBk 1_ 1hget;aBl 1_ 1hget"),
("jCwA", "aYe 123_ 1kr 2kr 3pvl;aYf 123_ 1kr 2kr 3pvl;aCn 12_ 1kr 2kr;aTf 12_ 1kr 2kr;aTg _;aTh _"),
("jClV", "tP 12_ 1hget 2sz;kP 12_ 1hget 2sz;aFw _;wA 1_ 1sz;tX _;tY _;pS _;wF _;aDc _;yQ _"),
("jEvO", "aGl _;aGm _"),
("jSbT", "iJ 1234_6 1hget 2part 3part 4sz 6ik"),
("jAsN", "aGa 1_ 1kr;aLa _"),
("jgoesTo", "aCl _;aCm _;aFy _;aFz _"),
("jAsL", "aKw _;aFq _"),
("jAnd", "ifT _;ifF _;uW 1_ 1kr;aYj _;aIz _;aRw 1_ 1hget;aRx 1_ 1le;fS 1_ 1ab;gJ 1_ 1ab"),
("jExists", "aLl _;aZk 1_ 1hget;aZl 1_ 1hget"),
("pv", "aRg 1234 3inl 1kr 2kr 4kl;=uU;=aRh;=aMj;=aMi;aMk 1234567 2hget 3hget 1pv 4inl 5kl 6ga 7rf;aRi 123 1pv 2pv 3ob;@pvn"),
("pvl", "=uV;mH 123 1kr 2pv 3pvl"),
("pt", "aRj 1234 1rf 2pv 3pv 4oc"),
("ob", "=aRk;=aRl"),
("oc", "=aXz;=aYa;=aYb;=aYc;=aYd;=aRm;=aRn;=aRo;=aMl;=aRp;aRt 1 1rf;aRu 1 1rf;aIx 1 1rf;aIy 1 1rf"),
("inl", "InL.here;aXn;aXo;aXp;aXq;aXr;aXs;aXt;aXu;bAu;aXv 1 1inl"),
("ptl", "PtL.here;aXw;aXx;aXy;bAw;bAx 1 1ptl;PtL.new;bAv 1 1ptl"),
("hget", "@as;aB;aA 1 1hget;aF 1 1hget;aC 12 2hget 1hne"),
("fi", "qD;qE;qF;sC;fG;eJ;mZ;wQ;zP;nY;nA"),
("cl", "aN;aO;kR;kS;eY;fA;wR;wS;aV;aW;aHr;aHs"),
("an", "cY;iM;bL;dM;cZ;iO;cK;gO;bW;fH;dN;dA;bN;eK;bC;bX;dZ;bO;eL;bI;dC;bP;eM;bM;eA;dG;jN;iP;qG;lW;uN;gY;nZ;gP;eB;kU;oA;fB;lX;oB;iQ;qH;fC;lY;hG;oE;hH;oG;iR;qI;iT;qJ;dH;jO;eO;eD;kX"),
("ga", "iV;dP;iW;gQ;fJ;eP;bZ;eQ;dD;eR;eF;jP;qO;uO;oH;kY;mB;qP;mC;oI;oJ;qQ;qR;jQ;kZ"),
("nm", "aHy 1_ 1kr;oK 1_ 1kr;qS 1_ 1kr;zQ 1_ 1kr;aHz 1_ 1kr;aDs 1_ 1kr;lA 1_ 1kr;aIa 1_ 1kr;aIb 1_ 1kr;aIc 1_ 1kr;aDt 1_ 1kr;xB 1_ 1kr;lB 1_ 1kr;aId 1_ 1kr;xC 1_ 1kr;aIe 1_ 1kr;aIf 1_ 1kr;aIg 1_ 1kr;xD 1_ 1kr;sD 1_ 1kr;qT 1_ 1kr;zR 1_ 1kr;zS 1_ 1kr;sE 1_ 1kr;mD 1_ 1kr;xE 1_ 1kr;zT 1_ 1kr;aIh 1_ 1kr"),
("kr", "(T.paren '( { (T.paren '( { (T.set_option 'set_option $tactic.hygienic (null ) 'false 'in { (T.intros 'intros (null ) ) } ) } ') ) '; (T.first 'first (null (group '| { (T.exact 'exact $rfl ) } ) (group '| { (tacticKernel_rfl 'kernel_rfl ) } ) ) ) } ') )"),
("kl", "(T.first 'first (null (group '| { (T.exact 'exact $rfl ) } ) (group '| { (tacticKernel_rfl 'kernel_rfl ) } ) ) )"),
("krc", "(tacticKernel_rfl 'kernel_rfl )"),
("cd", "(T.first 'first (null (group '| { (T.withReducible 'with_reducible { (T.exact 'exact $cdT ) } ) } ) (group '| { (T.withReducible 'with_reducible { (T.exact 'exact $cdF ) } ) } ) ) )"),
("rf", "(T.tacticRfl 'rfl )"),
("fr", "(T.exact 'exact (E.fun 'fun (E.basicFun (null $x ) (null ) '=> $rfl ) ) )"),
("dc", "(T.decide 'decide (T.optConfig (null ) ) )"),
("ik", "(T.paren '( { (T.paren '( { (T.set_option 'set_option $tactic.hygienic (null ) 'false 'in { (T.intros 'intros (null ) ) } ) } ') ) '; (tacticKernel_rfl 'kernel_rfl ) } ') )"),
("ik!", "(T.paren '( { (T.paren '( { (T.set_option 'set_option $tactic.hygienic (null ) 'false 'in { (T.intros 'intros (null ) ) } ) } ') ) '; (PyProof.Rows.tacticKernel_rfl! 'kernel_rfl! ) } ') )"),
("as", "(T.withReducible 'with_reducible { (T.assumption 'assumption ) } )"),
("ab", "(T.first 'first (null (group '| { (T.withReducible 'with_reducible { (T.assumption 'assumption ) } ) } ) (group '| { (PyProof.Rows.tacticKernel_rfl! 'kernel_rfl! ) } ) ) )"),
("le", "(T.exact 'exact (E.app $sP (null (E.paren (E.hygienicLParen '( (hygieneInfo $ ) ) (E.byTactic 'by { (tacticKernel_rfl 'kernel_rfl ) } ) ') ) ) ) )"),
("hne", "(T.first 'first (null (group '| { (T.withReducible 'with_reducible { (T.assumption 'assumption ) } ) } ) (group '| { (T.paren '( { (T.withReducible 'with_reducible { (T.refine 'refine (E.app $Ne.symm (null (E.syntheticHole '? '_ ) ) ) ) '; (T.withReducible 'with_reducible { (T.assumption 'assumption ) } ) } ) } ') ) } ) (group '| { (T.assumption 'assumption ) } ) (group '| { (T.paren '( { (T.refine 'refine (E.app $Ne.symm (null (E.syntheticHole '? '_ ) ) ) ) '; (T.assumption 'assumption ) } ') ) } ) (group '| { (T.paren '( { (T.simp 'simp (T.optConfig (null ) ) (null ) (null 'only ) (null '[ (null (T.simpLemma (null ) (null ) $nx_new ) ', (T.simpLemma (null ) (null ) $nx_set ) ) '] ) (null (T.location 'at (T.locationWildcard '* ) ) ) ) '; (T.lia 'lia (T.optConfig (null ) ) ) } ') ) } ) ) )"),
("sub", "(T.first 'first (null (group '| { (T.exact 'exact (E.app $Sub.app (null (E.hole '_ ) (E.hole '_ ) ) ) ) } ) (group '| { (T.paren '( { (T.tacticRepeat_ 'repeat { (T.paren '( { (T.first 'first (null (group '| { (T.exact 'exact $Sub.nil ) } ) (group '| { (T.refine 'refine (E.app $Sub.cons (null (E.paren (E.hygienicLParen '( (hygieneInfo $ ) ) (E.byTactic 'by { (PyProof.Rows.tacticKernel_rfl! 'kernel_rfl! ) } ) ') ) (E.syntheticHole '? '_ ) ) ) ) } ) ) ) } ') ) } ) } ') ) } ) ) )"),
("part", "(T.first 'first (null (group '| { (T.exact 'exact $PartA.none ) } ) (group '| { (T.exact 'exact (E.app $PartA.int (null (E.hole '_ ) ) ) ) } ) ) )"),
("sz", "(T.first 'first (null (group '| { (T.withReducible 'with_reducible { (T.assumption 'assumption ) } ) } ) (group '| { (T.lia 'lia (T.optConfig (null ) ) ) } ) (group '| { (T.paren '( { (T.simp 'simp (T.optConfig (null ) ) (null ) (null ) (null ) (null ) ) '; (T.done 'done ) } ') ) } ) (group '| { (T.paren '( { (T.simp 'simp (T.optConfig (null ) ) (null ) (null ) (null ) (null ) ) '; (T.lia 'lia (T.optConfig (null ) ) ) } ') ) } ) (group '| { (T.decide 'decide (T.optConfig (null (T.configItem (T.posConfigItem '+ $kernel ) ) ) ) ) } ) ) )"),
("ko", "(T.paren '( { (T.refine 'refine (E.app $Kont.use (null (E.paren (E.hygienicLParen '( (hygieneInfo $ ) ) (E.byTactic 'by { (T.withReducible 'with_reducible { (T.assumption 'assumption ) } ) } ) ') ) (E.syntheticHole '? '_ ) ) ) ) } ') )"),
("pvn", "(T.paren '( { (T.paren '( { (T.withReducible 'with_reducible { (T.change 'change (E.app $Pv (null (E.hole '_ ) (E.hole '_ ) (E.hole '_ ) (E.hole '_ ) (E.paren (E.hygienicLParen '( (hygieneInfo $ ) ) (E.app $PySem.Expr.Name (null (E.hole '_ ) (E.hole '_ ) ) ) ') ) (E.hole '_ ) ) ) (null ) ) } ) } ') ) '; (T.intro 'intro (null $x $x $x $h ) ) '; (PyProof.Rows.tacticWalk_at_ 'walk_at ~nm ) '; (T.exact 'exact $h ) } ') )"),
("nmg", "(T.paren '( { (T.paren '( { (T.withReducible 'with_reducible { (T.change 'change (E.app $EvE (null (E.hole '_ ) (E.hole '_ ) (E.hole '_ ) (E.hole '_ ) (E.paren (E.hygienicLParen '( (hygieneInfo $ ) ) (E.app $PySem.Expr.Name (null (E.hole '_ ) (E.hole '_ ) ) ) ') ) (E.hole '_ ) (E.hole '_ ) (E.hole '_ ) ) ) (null ) ) } ) } ') ) '; (PyProof.Rows.tacticWalk_at_ 'walk_at ~nm ) } ') )"),
("e", "(T.tacticRepeat_ 'repeat { (PyProof.Rows.tacticWalk_at_ 'walk_at ~ev ) } )"),
("ev", "<8 ExS;<8 EvE;<9 thenS;<8 Ex1;<11 CwA;<2 And;<9 As1;<8 EvT;<9 ClV;<4 PutTo;<8 EvL;<8 TrV;<10 OpB;<10 OpC;<10 OpI;<9 GtA;<10 SaA;<9 GmV;<8 EvO;<11 SbT;<9 AsN;<5 goesTo;<9 AsL;<1 Exists;@ko")]
open Lean
def aRy (k:String):Syntax:=dec ("(PyProof.Rows.tacticWalk_at_ 'walk_at ~" ++ k ++ " )") #[]
def bAy (k:String):Syntax:=match drvT.lookup k with
 | some v=>if v.front=='(' then dec v #[] else aRy k
 | none=>.missing
def bAz (z:String) (a:AS) (c:Char):AS:=a.push (dec ("(E.syntheticHole '? " ++ (if c=='_' then "'_ )" else "$k" ++ z++c.toString ++ " )")) #[])
def bBa (z:String) (a:AS) (t:String):AS:=match t.toList with
  | c::q=>(a.push (mkAtom ";")).push (dec ("(T.case 'case (null (T.caseArg (Lean.binderIdent $k" ++ z++c.toString ++ " ) (null ) ) ) '=> { %0 } )") #[#[bAy (String.ofList q)]])
  | []=>a
def bBb (z s:String):Syntax:=match s.splitOn " " with
 | [n]=>match n.toList with
  | '@'::q=>aRy (String.ofList q)
  | '='::q=>dec ("(T.withReducible 'with_reducible { (T.exact 'exact $" ++ String.ofList q ++ " ) } )") #[]
  | _=>dec ("(T.withReducible 'with_reducible { (T.apply 'apply $" ++ n ++ " ) } )") #[]
 | n::p::cs =>
  if n.front=='<' then aFb #[dec ("(T.withReducible 'with_reducible { (T.change 'change (E.app $" ++ p ++ " (null %0 ) ) (null ) ) } )") #[(List.replicate (String.ofList n.toList.tail).toNat! (dec "(E.hole '_ )" #[])).toArray],mkAtom ";", aRy ("j" ++ p)]
  else
   let g:=#[p.toList.foldl (bAz z) #[]]
   if cs.isEmpty then dec ("(T.withReducible 'with_reducible { (T.refine 'refine (E.app $" ++ n ++ " (null %0 ) ) ) } )") g
   else aFb (cs.foldl (bBa z) #[dec ("(T.withReducible 'with_reducible { (T.refine' 'refine' (E.app $" ++ n ++ " (null %0 ) ) ) } )") g])
 | _=>.missing
def bBc (z:String) (s:Syntax):Option Syntax:=match s[1].isStrLit? with
 | some k=>match drvT.lookup k with
  | some v=>some (if v.front=='(' then dec v #[] else aKd ((v.splitOn ";").map (bBb z)))
  | none=>none
 | none=>none
def drvZ (s:Syntax):MacroM Syntax:=fun c=>mGo (bBc (toString c.currMacroScope ++ "I") s) c
end
section
variable {prog:Program} {w:World} {ρ:Nat→Addr} {n:Nat}
theorem aEg {ws:List Str}:∀ {vs:List Value},VRs ρ n (ws.map .str) vs→ItemsAre (strKind prog w) ws vs:=by
 induction ws with
 | nil=>intro vs h;cases h;exact .nil
 | cons x r ih =>
  intro vs h
  cases h with
  | cons h t=>cases h;exact .cons (strKind_is prog w x _) (ih t)
structure TX (ρ:Nat→Addr) (n:Nat) (p:Nat×List Str×AV) (x:List Str×Addr×Value):Prop where
 k:x.1=p.2.1
 a:x.2.1=ρ p.1
 v:VR ρ n p.2.2 x.2.2
theorem aYk {tk:List (Nat×List Str×AV)} {es:List DictEntry} (h:All2 (TR w.params ρ n) tk es):∃ xs,es=xs.map (entryOfKey (tupleKind (strKind prog w)))∧All2 (TX ρ n) tk xs:=by
 induction h with
 | nil=>exact ⟨[],rfl,.nil⟩
 | cons hd _ ih =>
  obtain ⟨xs,e,t⟩:=ih
  cases hd with
  | mk k ws a v hk h=>exact ⟨(ws,ρ k,v)::xs,by rw [e];rfl,.cons ⟨rfl,rfl,h⟩ t⟩
theorem aBm {tk:List (Nat×List Str×AV)} {xs:List (List Str×Addr×Value)} (h:All2 (TX ρ n) tk xs):xs.map (·.1)=tk.map (·.2.1):=by
 induction h with
 | nil=>rfl
 | cons hd _ ih=>rw [List.map_cons,List.map_cons,ih,hd.k]
theorem xJ {κ:Type} [DecidableEq κ] {x:κ} {a:AV} {r:List (κ×AV)}:List.lookup x ((x,a)::r)=some a:=by rw [List.lookup_cons,beq_self_eq_true]
theorem aJa {κ:Type} [DecidableEq κ] {x y:κ} {a:AV} {r:List (κ×AV)} (h:y≠x):List.lookup y ((x,a)::r)=List.lookup y r:=by rw [List.lookup_cons,beq_false_of_ne h]
noncomputable abbrev lkT (tk:List (Nat×List Str×AV)) (ws:List Str):Option AV:=@List.lookup (List Str) AV instBEqOfDecidableEq ws (tk.map (·.2))
theorem aBn {tk:List (Nat×List Str×AV)} {xs:List (List Str×Addr×Value)} (h:All2 (TX ρ n) tk xs) (ws:List Str) :
  (∀ a,lkT tk ws=some a→∃ p,atKey xs ws=some p∧VR ρ n a p.2)∧(lkT tk ws=none→atKey xs ws=none):=by
 induction h with
 | nil=>exact ⟨fun a e=>(nomatch e),fun _=>rfl⟩
 | @cons p x l r hd _ ih =>
  obtain ⟨k,us,b⟩:=p
  obtain ⟨ys,a,v⟩:=x
  obtain ⟨h1,h2,h3⟩:=hd
  dsimp only at h1 h2 h3
  subst h1
  unfold lkT at *
  rw [List.map_cons]
  by_cases q:ws=ys
  ·subst q
   refine ⟨fun a' e=>?_,fun e=>?_⟩
   ·rw [xJ] at e
    cases e
    exact ⟨(a,v),by unfold atKey;rw [List.find?_cons_of_pos (by simp)];rfl,h3⟩
   ·rw [xJ] at e;cases e
  ·rw [aJa q]
   have e1:atKey ((ys,a,v)::r) ws=atKey r ws:=by unfold atKey;rw [List.find?_cons_of_neg (by simpa using Ne.symm q)]
   rw [e1]
   exact ih
end
section
variable {c:Cx} {sc:Scope} {U D:Nat} {loc:Loc} {σ:AH}
theorem xK {k:Nat} {kvs:List (Nat×List Str×AV)} {name:Str} {id:String} {R:AV→List AV→AH→Prop} (e:σ.get k=some (.tdict kvs)) (slot:Slot "dict" name id) (hty:typeOf (.builtin id)=pure (.type "method_descriptor")) (h:R (.bi id) [.ref k] σ):GmV c sc U D (.ref k) name loc σ R :=
 aNq (fun P h₀ L ρ X s u S hv=>by
  cases hv
  obtain ⟨o,ho,hk,hr⟩:100:=S.at e
  cases hr
  exact ⟨⟨_,ho,rfl⟩,fun a q=>by cases q;exact ⟨_,ho,rfl⟩⟩) PySem.F.plainAttrs_dict slot hty h
theorem zZ {pos:Pos} {R:AV→AH→Prop} (h:R (.ref σ.nx) (σ.new (.tdict []))):EvE c sc U D (.Dict [] [] pos) loc σ R:=fun A env L h₀ fm ρ X s Q E S K =>
 wpAny_Dict_empty (K _ _ _ _ _ h bA (Nat.le_succ _) (aK _ _ _) (S.allocN (.tdict [] [] 0 .nil) rfl s.toks) ⟨rfl,.refl _,rfl⟩)
theorem St.tupKey {h₀:Heap} {L:Addr} {ρ:Nat→Addr} {X:List (Addr×Obj)} {s:Shared} (S:St c.w.params h₀ L ρ σ loc X s) {m:Nat} {ws:List Str} (e:σ.get m=some (.tup (ws.map .str))):IsTupleKey (strKind c.prog c.w) s.heap ws (ρ m):=by
 obtain ⟨o,ho,_,hr⟩:100:=S.at e
 cases hr with
 | tup vs e h=>exact ⟨_,vs.toArray,e,ho,rfl,rfl,aEg h⟩
structure TD (σ:AH) (k:Nat) (tk:List (Nat×List Str×AV)):Prop where
 e:σ.get k=some (.tdict tk)
 m:∀ p∈tk,σ.get p.1=some (.tup (p.2.1.map .str))
 d:(tk.map (·.2.1)).Nodup
theorem TD.at {h₀:Heap} {L:Addr} {ρ:Nat→Addr} {X:List (Addr×Obj)} {s:Shared} {k:Nat} {tk:List (Nat×List Str×AV)} (T:TD σ k tk) (S:St c.w.params h₀ L ρ σ loc X s) :
  ∃ es e xs,s.heap.get? (ρ k)=some (dictOf es e)∧es=xs.map (entryOfKey (tupleKind (strKind c.prog c.w)))∧All2 (TX ρ σ.nx) tk xs∧All2 (TR c.w.params ρ σ.nx) tk es∧(∀ x∈xs,IsTupleKey (strKind c.prog c.w) s.heap x.1 x.2.1):=by
 obtain ⟨o,ho,_,hr⟩:100:=S.at T.e
 cases hr with
 | tdict es e h =>
 obtain ⟨xs,e1,t⟩:=aYk (prog:=c.prog) h
 refine ⟨es,e,xs,ho,e1,t,h,fun x hx=>?_⟩
 have:∀ {l:List (Nat×List Str×AV)} {r:List (List Str×Addr×Value)},All2 (TX ρ σ.nx) l r→x∈r→∃ p∈l,TX ρ σ.nx p x:=fun h=>by
  induction h with
  | nil=>exact fun h=>nomatch h
  | cons hd _ ih=>exact fun h=>(Tf h).elim (fun q=>⟨_,.head _,q▸hd⟩) fun q=>let ⟨p,hp,z⟩:=ih q;⟨p,.tail _ hp,z⟩
 obtain ⟨p,hp,z⟩:=this t hx
 rw [z.k,z.a]
 exact S.tupKey (T.m p hp)
theorem TD.heap {h₀:Heap} {L:Addr} {ρ:Nat→Addr} {X:List (Addr×Obj)} {s:Shared} {k:Nat} {tk:List (Nat×List Str×AV)} (T:TD σ k tk) (S:St c.w.params h₀ L ρ σ loc X s) :
  ∃ xs,s.heap.DictOfH (tupleKind (strKind c.prog c.w)) (ρ k) xs∧All2 (TX ρ σ.nx) tk xs:=by
 obtain ⟨es,e,xs,ho,he,t,_,hi⟩:=T.at S
 exact ⟨xs,⟨_,es.toArray,e,ho,⟨rfl,rfl,rfl⟩,rfl,he,hi,by rw [aBm t];exact T.d⟩,t⟩
theorem aJb {k m:Nat} {tk:List (Nat×List Str×AV)} {ws:List Str} {d:AV} {R:AV→AH→Prop} (T:TD σ k tk) (em:σ.get m=some (.tup (ws.map .str))) (h:R ((lkT tk ws).getD d) σ) :
  ClV c sc (U+2) D (.bi "dict.get") [.ref k,.ref m,d] loc σ R:=fun A env L h₀ fm ρ X s Q E fv vs S hf hv K=>by
 cases hf
 obtain ⟨v,w,u,h1,h2,h3⟩:=vR hv
 cases h1;cases h2
 obtain ⟨xs,hd,t⟩:=T.heap S
 haveI hm:=S.notMod fm T.e
 haveI hu:=fm.hu
 refine call_meetsIn PySem.F.slot_dict_get hd.typeIs PySem.F.entry_dict_get (PySem.F.args_dict_get_3 _ _ _) (meetsH_dict_get_default (tupleKind (strKind c.prog c.w)) (ρ k) (ρ m) hm u) ⟨tupleKind_room_in1 (by lia),ws,xs,S.tupKey em,hd,?_⟩
 obtain ⟨g1,g2⟩:0:=aBn t ws
 refine K.tok h ?_ S
 cases q:lkT tk ws with
 | none=>rw [g2 q];exact h3
 | some b=>obtain ⟨p,hp,hv'⟩:1:=g1 b q;rw [hp];exact hv'
end
section
variable {prog:Program} {w:World} {A:Around} {E:Value→Shared→Prop} {s:Shared}
theorem nD {d a:Addr} {ws:List Str} {v:Value} {es:List DictEntry} {e:Nat} {xs:List (List Str×Addr×Value)} {Q:Value→Shared→Prop} (hu:A.units < cLine) (hkey:IsTupleKey (strKind prog w) s.heap ws a)
  (hd:s.heap.get? d=some (dictOf es e)) (he:es=xs.map (entryOfKey (tupleKind (strKind prog w)))) (hi:∀ x∈xs,IsTupleKey (strKind prog w) s.heap x.1 x.2.1) (hn:(xs.map (·.1)).Nodup) (hz:es.length≤sizeLine)
  (hold:∀ p t,atKey xs ws=some p→Q p.2 { s with toks:=t })
  (hnew:atKey xs ws=none→∀ h' e' t,Heap.SameBut d s.heap h'→h'.get? d=some (dictOf (es++[⟨aNo w.params ws,.ref a,v⟩]) e')→Q v { s with heap:=h',toks:=t }):wpAny (model prog w) A (dictSetDefault d (.ref a) v) Q E s:=by
 unfold dictSetDefault
 try with_reducible refine wpAny_holding ?_
 refine wpAny_bind ((tupleKind (strKind prog w)).pyHash hu hkey ?_)
 refine wpAny_bind (wpAny_dictFind_heap (knd:=tupleKind (strKind prog w)) (s:={ s with toks:=s.toks+(tupleKind (strKind prog w)).draws ws }) hu hkey hd rfl he hi hn (fun hno=>?_) fun j p hj=>?_)
 ·refine wpAny_bind (wpAny_rule (wpAny_bind (wpAny_updateDictKeys (s:={ s with toks:=s.toks+(tupleKind (strKind prog w)).draws ws }) hd rfl (wpAny_pure ?_) (by simpa using hz))))
  refine hnew (atKey_none_of_get hno) _ (e+1) _ (Heap.SameBut.update ..) ?_
  rw [Heap.get?_update_self _ hd (by rfl)]
  simp [Obj.mapDictKeys,dictOf]
  rfl
 ·refine wpAny_bind (wpAny_dictEntries (s:={ s with toks:=s.toks+(tupleKind (strKind prog w)).draws ws }) hd rfl ?_)
  rw [show es.toArray[j]? = some (entryOfKey (tupleKind (strKind prog w)) (ws,p)) by rw [he];simp [hj]]
  exact wpAny_bind (wpAny_rule (wpAny_pure (hold p _ (atKey_of_get hn hj))))
end
section
variable {c:Cx} {sc:Scope} {U D:Nat} {loc:Loc} {σ:AH}
theorem aJc {k m:Nat} {tk:List (Nat×List Str×AV)} {ws:List Str} {d:AV} {R:AV→AH→Prop} (T:TD σ k tk) (em:σ.get m=some (.tup (ws.map .str))) (hz:tk.length≤1000)
  (h:match lkT tk ws with | some a=>R a σ | none=>R d (σ.set k (.tdict (tk++[(m,ws,d)])))):ClV c sc (U+2) D (.bi "dict.setdefault") [.ref k,.ref m,d] loc σ R:=fun A env L h₀ fm ρ X s Q E fv vs S hf hv K=>by
 cases hf
 obtain ⟨v,w,u,h1,h2,h3⟩:=vR hv
 cases h1;cases h2
 rename_i hkn hmn
 obtain ⟨es,n,xs,ho,he,t,hr,hi⟩:=T.at S
 haveI hm:=S.notMod fm T.e
 haveI hu:=fm.hu
 refine wpAny_call_entry PySem.F.slot_dict_setdefault ⟨_,ho,rfl⟩ PySem.F.entry_dict_setdefault ?_ (PySem.F.args_dict_setdefault_3 _ _ _)
 unfold Builtin.«dict.setdefault»
 refine wpAny_bind ?_
 unfold Builtin.Dict.keyAndDefault
 refine wpAny_bind (wpAny_notOrdered_dict ⟨_,ho,rfl⟩ ?_)
 show wpAny _ _ (pure (ρ k,Value.ref (ρ m),some u)) _ _ s
 refine wpAny_pure ?_
 show wpAny _ _ (if (ρ k==sysModules)=true then _ else (dictSetDefault (ρ k) (.ref (ρ m)) u >>= _)) _ _ s
 rw [if_neg (by rw [hm];exact Bool.false_ne_true)]
 obtain ⟨g1,g2⟩:0:=aBn t ws
 refine wpAny_bind (nD (by show A.units+1 < cLine;lia) (S.tupKey em) ho he hi (by rw [aBm t];exact T.d) (by rw [← hr.length];unfold sizeLine;exact (Ta hz (Tb rfl))) (fun p t' q=>wpAny_pure ⟨_,rfl,?_⟩) fun q h' e' t' hs ho'=>wpAny_pure ⟨_,rfl,?_⟩)
 ·cases q':lkT tk ws with
  | none=>rw [g2 q'] at q;cases q
  | some b =>
   obtain ⟨p',hp,hv'⟩:1:=g1 b q'
   rw [q] at hp
   cases hp
   rw [q'] at h
   exact K.tok h hv' S
 ·cases q':lkT tk ws with
  | some b=>obtain ⟨p',hp,_⟩:1:=g1 b q';rw [q] at hp;cases hp
  | none =>
   rw [q'] at h
   exact K ρ _ _ _ _ h h3 (Te _) (Agree.refl _ _) (S.setB T.e hs ho' (.tdict _ _ _ (hr.append (.cons (.mk _ _ _ _ hmn h3) .nil))) _) ⟨rfl,.refl _,rfl⟩
end
section
variable {prog:Program} {w:World} {A:Around} {E:Value→Shared→Prop} {s:Shared}
theorem iY {M:Model} {a:Addr} {led:Bool} {Q:Array (Int×Value)×Nat×SetTable→Shared→Prop} (ho:s.heap.get? a=some { cls:=.type "set", dict:=none,data:=.set #[] 0 (.fresh 0 0 led) }) (q:Q (#[],0,.fresh 0 0 led) s):wpAny M A (setState a) Q E s:=by
 unfold setState
 refine wpAny_bind (wpAny_load ho ?_)
 exact dE Bool.false_ne_true (wpAny_pure q)
theorem sJ {M:Model} {a b:Addr} {h:Int} {led:Bool} {Q:Option Nat→Shared→Prop} (ho:s.heap.get? a=some { cls:=.type "set", dict:=none,data:=.set #[] 0 (.fresh 0 0 led) }) (q:Q none s):wpAny M A (setFind a (.ref b) h) Q E s:=by
 unfold setFind setFindIn
 refine wpAny_bind (iY ho ?_)
 refine dE (c:=byScan (.ref b) #[]=true) Bool.false_ne_true ?_
 unfold setSearch setSearchFrom
 refine wpAny_bind (wpAny_bind (iY ho ?_))
 refine dE (c:=(SetTable.fresh 0 0 led).gaveWay=true) (by cases led <;> decide) ?_
 exact wpAny_pure (wpAny_pure q)
end
section
variable {c:Cx} {sc:Scope} {U D:Nat} {loc:Loc} {σ:AH}
theorem qW {j k m:Nat} {us:List Str} {R:AV→AH→Prop} (e:σ.get j=some (.flds "builtin_function_or_method" [.bi "set.__contains__", .ref k])) (e':σ.get k=some .eset) (em:σ.get m=some (.tup (us.map .str))) (h:R (.bool false) σ) :
  ClV c sc (U+2) D (.ref j) [.ref m] loc σ R:=fun A env L h₀ fm ρ X s Q E fv vs S hf hv K=>by
 cases hf
 obtain ⟨v,h1⟩:=hY hv
 cases h1
 obtain ⟨o,ho,_,hr⟩:100:=S.at e
 obtain ⟨o',ho',_,hr'⟩:100:=S.at e'
 haveI hu:=fm.hu
 cases hr with
 | flds ws hw =>
 refine hid ?_;intro ZZ zz
 obtain ⟨w1,w2,hw1,hw2⟩:=fE hw
 refine zz ?_;clear zz
 cases hw1;cases hw2
 cases hr' with
 | eset led =>
 refine lJ ho (cI ho') (plainId_quiet PySem.F.slot_set_contains.plain _) entry_set_contains ?_
 rw [Around.under_plainId PySem.F.slot_set_contains.plain]
 unfold Builtin.«frozenset.__contains__» Builtin.Frozenset.oneOther
 simp only [List.isEmpty_nil,bind_assoc]
 unfold Builtin.Frozenset.addrOf Builtin.Frozenset.withSetAsKey setContains
 refine wpAny_bind (wpAny_pure ?_)
 try dsimp only
 refine wpAny_bind (wpAny_pure ?_)
 try dsimp only
 refine wpAny_bind (wpAny_tryCatch ?_)
 refine wpAny_holding ?_
 refine wpAny_bind ((tupleKind (strKind c.prog c.w)).pyHash (show A.units+1 < cLine by lia) (S.tupKey em) ?_)
 refine wpAny_bind (sJ ho' ?_)
 refine wpAny_pure ?_
 exact wpAny_pure ⟨_,rfl,K.tok h (.bool _) S⟩
theorem aAa {m k:Nat} {us ws:List Str} {R:AV→AH→Prop} (e1:σ.get m=some (.tup (us.map .str))) (e2:σ.get k=some (.tup (ws.map .str))) (h:R (.bool (decide (us=ws))) σ):OpC c sc (U+2) D .Eq (.ref m) (.ref k) loc σ R:=fun A env L h₀ fm ρ X s Q E v w S hv hw K=>by
 cases hv;cases hw
 haveI h1:=S.tupKey e1
 haveI h2:=S.tupKey e2
 haveI hu:=fm.hu
 exact wpAny_richCompare_same_room (op:=.Eq) h1.typeIs h2.typeIs F.slot_tuple_eq (wpAny_call_entry F.slot_tuple_eq h1.typeIs F.entry_tuple_eq (tuple_eq_tree h1 h2 ⟨_,rfl,(fun e=>nomatch e),K.now h (.bool _) S⟩) (F.args_tuple_eq_2 _ _)) (by lia)
end
def Up (σ σ':AH):Prop:=∀ k ws,σ.get k=some (.tup ws)→σ'.get k=some (.tup ws)
theorem Up.trans {a b c:AH} (x:Up a b) (y:Up b c):Up a c:=fun k ws h=>y k ws (x k ws h)
theorem Up.new {σ:AH} {o:AO}:Up σ (σ.new o):=fun _ _ h=>aA h
theorem Up.set {σ:AH} {k:Nat} {o p:AO} (h:σ.get k=some p) (n:∀ ws,p≠.tup ws):Up σ (σ.set k o):=fun j ws hj=>aC (fun q=>n ws (Option.some.inj (h.symm.trans (q▸hj)))) hj
theorem Ext.up {L:List Nat} {σ σ':AH} (h:Ext L σ σ') (n:∀ j∈L,∀ ws,σ.get j≠some (.tup ws)):Up σ σ':=fun k ws e=>h.keep e fun q=>n k q ws e
theorem All2.rat {α β:Type} {R:α→β→Prop} {l:List α} {r:List β} (x:All2 R l r):∀ {i:Nat} {b:β},r[i]? = some b→∃ a,l[i]? = some a∧R a b:=by
 induction x with
 | nil=>intro i b h;rw [List.getElem?_nil] at h;cases h
 | cons hd _ ih =>
  intro i b h
  cases i with
  | zero=>rw [List.getElem?_cons_zero] at h;cases h;exact ⟨_,rfl,hd⟩
  | succ i=>exact ih h
structure El (α:Type) [DecidableEq α] where
 is:AH→AV→α→Prop
 D:AH→Nat→List (α×AV)→Prop
 mt:AO
 isK:∀ {σ σ':AH} {a:AV} {x:α},is σ a x→Up σ σ'→is σ' a x
 dK:∀ {σ σ':AH} {k:Nat} {kvs:List (α×AV)},D σ k kvs→Up σ σ'→σ'.get k=σ.get k→D σ' k kvs
 d0:∀ {σ:AH},D (σ.new mt) σ.nx []
 dO:∀ {σ:AH} {k:Nat} {kvs:List (α×AV)},D σ k kvs→∃ o,σ.get k=some o∧∀ xs,o≠.tup xs∧o≠.list xs
 new:∀ {c:Cx} {sc:Scope} {U Dd:Nat} {loc:Loc} {σ:AH} {pos:Pos} {R:AV→AH→Prop},R (.ref σ.nx) (σ.new mt)→EvE c sc U Dd (.Dict [] [] pos) loc σ R
 gms:∀ {c:Cx} {sc:Scope} {U Dd:Nat} {loc:Loc} {σ:AH} {k:Nat} {kvs:List (α×AV)} {R:AV→List AV→AH→Prop},D σ k kvs→R (.bi "dict.setdefault") [.ref k] σ→GmV c sc U Dd (.ref k) (S "setdefault") loc σ R
 gmg:∀ {c:Cx} {sc:Scope} {U Dd:Nat} {loc:Loc} {σ:AH} {k:Nat} {kvs:List (α×AV)} {R:AV→List AV→AH→Prop},D σ k kvs→R (.bi "dict.get") [.ref k] σ→GmV c sc U Dd (.ref k) (S "get") loc σ R
 set:∀ {c:Cx} {sc:Scope} {U Dd:Nat} {loc:Loc} {σ:AH} {k:Nat} {kvs:List (α×AV)} {a d:AV} {x:α} {R:AV→AH→Prop},D σ k kvs→is σ a x→kvs.length≤1000→(∀ b,kvs.lookup x=some b→R b σ) →
  (kvs.lookup x=none→∀ o,D (σ.set k o) k (put x d kvs)→R d (σ.set k o))→ClV c sc (U+2) Dd (.bi "dict.setdefault") [.ref k,a,d] loc σ R
 get:∀ {c:Cx} {sc:Scope} {U Dd:Nat} {loc:Loc} {σ:AH} {k:Nat} {kvs:List (α×AV)} {a d:AV} {x:α} {R:AV→AH→Prop},D σ k kvs→is σ a x→R ((kvs.lookup x).getD d) σ→ClV c sc (U+2) Dd (.bi "dict.get") [.ref k,a,d] loc σ R
 mem:∀ {c:Cx} {sc:Scope} {U Dd:Nat} {loc:Loc} {σ:AH} {j k:Nat} {a:AV} {x:α} {R:AV→AH→Prop},σ.get j=some (.flds "builtin_function_or_method" [.bi "set.__contains__", .ref k])→σ.get k=some .eset→is σ a x→R (.bool false) σ→ClV c sc (U+2) Dd (.ref j) [a] loc σ R
 eq:∀ {c:Cx} {sc:Scope} {U Dd:Nat} {loc:Loc} {σ:AH} {a b:AV} {x y:α} {R:AV→AH→Prop},is σ a x→is σ b y→R (.bool (decide (x=y))) σ→OpC c sc (U+2) Dd .Eq a b loc σ R
theorem El.keep {α:Type} [DecidableEq α] (T:El α) {σ σ':AH} {k:Nat} {kvs:List (α×AV)} (h:T.D σ k kvs) (u:Up σ σ') (g:∀ o,σ.get k=some o→(∀ xs,o≠.tup xs∧o≠.list xs)→σ'.get k=some o):T.D σ' k kvs:=by
 obtain ⟨o,e,n⟩:=T.dO h
 exact T.dK h u ((g o e n).trans e.symm)
theorem Ext.upE {σ σ':AH} (h:Ext [] σ σ'):Up σ σ':=h.up fun j hj=>(nomatch hj)
theorem El.ext {α:Type} [DecidableEq α] (T:El α) {σ σ':AH} {k:Nat} {kvs:List (α×AV)} (h:T.D σ k kvs) (u:Ext [] σ σ'):T.D σ' k kvs:=T.keep h u.upE fun o e _=>u.keep e (fun q=>nomatch q)
noncomputable def strEl:El Str where
 is _ a x:=a=.str x
 D σ k kvs:=σ.get k=some (.idict kvs)
 mt:=.idict []
 isK h _:=h
 dK h _ e:=e.trans h
 d0:=aB
 dO h:=⟨_,h,fun xs=>⟨nofun,nofun⟩⟩
 new h:=yP h
 gms e h:=aBk e h
 gmg e h:=aBl e h
 set:=fun e ha hz h1 h2=>by
  subst ha
  refine pG (U:=_+2) e hz ?_
  split
  ·exact h1 _ ‹_›
  ·exact h2 ‹_› _ (aF e)
 get:=fun e ha h=>by subst ha;exact tS (U:=_+2) e h
 mem:=fun e e' ha h=>by subst ha;exact tT (U:=_+2) e e' h
 eq:=fun ha hb h=>by
  subst ha hb
  refine pA (U:=_+2) ?_
  rw [show ∀ x y:Str,(x==y)=decide (x=y) from fun x y=>by by_cases q:x=y <;> simp [q]]
  exact h
structure Eqs (α:Type) [DecidableEq α] where
 is:AH→AV→α→Prop
 isK:∀ {σ σ':AH} {a:AV} {x:α},is σ a x→Up σ σ'→is σ' a x
 eq:∀ {c:Cx} {sc:Scope} {U Dd:Nat} {loc:Loc} {σ:AH} {a b:AV} {x y:α} {R:AV→AH→Prop},is σ a x→is σ b y→R (.bool (decide (x=y))) σ→OpC c sc (U+2) Dd .Eq a b loc σ R
noncomputable def intEqs:Eqs Int where
 is _ a x:=a=.int x
 isK h _:=h
 eq:=fun ha hb h=>by
  subst ha hb
  refine oZ (U:=_+2) ?_
  rw [show ∀ x y:Int,(x==y)=decide (x=y) from fun x y=>by by_cases q:x=y <;> simp [q]]
  exact h
theorem aBo {κ:Type} [DecidableEq κ] {x:κ}:∀ {l:List (κ×AV)},l.lookup x=none→∀ q∈l,q.1≠x
 | [],_,q,h=>nomatch h
 | z::r,h,q,hq=>fun e=>by
  rw [List.lookup_cons] at h
  by_cases y:x=z.1
  ·rw [y,beq_self_eq_true] at h;cases h
  ·rw [beq_false_of_ne y] at h
   rcases Tf hq with rfl | hq
   ·exact y e.symm
   ·exact aBo h q hq e
theorem xL {κ:Type} [DecidableEq κ] {x:κ} {d:AV}:∀ {l:List (κ×AV)},l.lookup x=none→put x d l=l++[(x,d)]
 | [],_=>rfl
 | (y,b)::r,h=>by
  rw [List.lookup_cons] at h
  by_cases q:x=y
  ·rw [q,beq_self_eq_true] at h;cases h
  ·rw [beq_false_of_ne q] at h
   rw [dS,if_neg q,xL h];rfl
noncomputable def tupEl:El (List Str) where
 is σ a ws:=∃ m,a=.ref m∧σ.get m=some (.tup (ws.map .str))
 D σ k kvs:=∃ tk,TD σ k tk∧tk.map (·.2)=kvs
 mt:=.tdict []
 isK h u:=let ⟨m,e,g⟩:=h;⟨m,e,u _ _ g⟩
 dK h u e:=let ⟨tk,T,q⟩:=h;⟨tk,⟨e.trans T.e,fun p hp=>u _ _ (T.m p hp),T.d⟩,q⟩
 d0:=⟨[],⟨aB,fun _ h=>(nomatch h),.nil⟩,rfl⟩
 dO h:=let ⟨tk,T,_⟩:=h;⟨_,T.e,fun xs=>⟨nofun,nofun⟩⟩
 new h:=zZ h
 gms:=fun h k=>by obtain ⟨tk,T,_⟩:=h;exact xK T.e PySem.F.slot_dict_setdefault PySem.F.type_dict_setdefault k
 gmg:=fun h k=>by obtain ⟨tk,T,_⟩:=h;exact xK T.e PySem.F.slot_dict_get PySem.F.type_dict_get k
 set:=fun h ha hz h1 h2=>by
  obtain ⟨tk,T,rfl⟩:=h
  obtain ⟨m,rfl,em⟩:=ha
  refine aJc T em (by rw [List.length_map] at hz;exact hz) ?_
  split
  ·exact h1 _ (by assumption)
  ·rename_i hn
   refine h2 hn _ ⟨_,⟨aF T.e,fun p hp=>?_,?_⟩,?_⟩
   ·rcases List.mem_append.mp hp with q | q
    ·exact Up.set T.e (fun ws=>nofun) _ _ (T.m p q)
    ·rw [Tg q];exact Up.set T.e (fun ws=>nofun) _ _ em
   ·rw [List.map_append,List.nodup_append]
    refine ⟨T.d,List.nodup_cons.mpr ⟨fun h=>(nomatch h),.nil⟩,fun a ha b hb e=>?_⟩
    rw [Tg hb] at e
    obtain ⟨p,hp,rfl⟩:=List.mem_map.mp ha
    exact aBo hn _ (List.mem_map.mpr ⟨p,hp,rfl⟩) e
   ·rw [List.map_append,xL hn];rfl
 get:=fun h ha k=>by
  obtain ⟨tk,T,rfl⟩:=h
  obtain ⟨m,rfl,em⟩:=ha
  exact aJb T em k
 mem:=fun e e' ha h=>by
  obtain ⟨m,rfl,em⟩:=ha
  exact qW e e' em h
 eq:=fun ha hb h=>by
  obtain ⟨m,rfl,em⟩:=ha
  obtain ⟨n,rfl,en⟩:=hb
  exact aAa em en h
section
variable {c:Cx} {sc:Scope} {U D:Nat} {loc:Loc} {σ:AH}
noncomputable def Cx.cl (c:Cx) (n:Str) (ca:Addr):Cx:={ c with fl:=some (none,[(n,ca)]) }
theorem aJd {scope:Scope} {f:Addr} {name qual:Str} {params:Arguments} {body:List Stmt} {dV kV doc pm cdv ct oc:Value} {od an:Option Addr} {osl:Array (Option Value)} {n0 n1:Str} {a0 a1:AV} {R:AV→AH→Prop}
  (ho:c.K.lookup f=some ⟨oc,od,.func (fnOf name qual params body scope dV kV doc pm an cdv ct),osl⟩) (hcd:codeIn c.K cdv qual=true)
  (hb:∀ v0 v1,bindArgs (fnOf name qual params body scope dV kV doc pm an cdv ct) ⟨[v0,v1],[]⟩=pure [(n0,v0),(n1,v1)])
  (hk0:scope.names.lookup n0=some .local) (hk1:scope.names.lookup n1=some .cell) (hn:n1≠n0) (hcl:∀ k,cellsFrom k scope.names []=[(n1,k)])
  (hco:scope.isCoroutine=false) (hgen:scope.isGenerator=false) (hk:scope.kind=.function)
  (h:∀ ca,ExS (c.cl n1 ca) scope U D body [(n0,a0)] (σ.new (.cell ca σ.nx (some a1))) fun fl _ σ'=>R (fM fl) σ') (hfl:c.fl=none∧c.cf=none:=by exact ⟨rfl,rfl⟩):ClV c sc (U+3) (D+1) (.glob f) [a0,a1] loc σ R:=fun A env L h₀ fm ρ X s Q E fv vs S hfv va K=>by
 cases hfv
 refine hid ?_;intro ZZ zz
 obtain ⟨v0,v1,q0,q1⟩:=fE va
 obtain ⟨cn,b,ccd,cl,fr0,he,_⟩:100:=fm.ex
 obtain ⟨m,news,F,hm,H,N,nd⟩:100:=S.ex
 haveI XK:=fm.X.keeps F.keep
 haveI hu:=fm.hu
 haveI hd:=fm.hd
 obtain ⟨FG,st,lv⟩:=eU (R:=fun r s'=>match r with | .ok (.ret v)=>Q v s' | .ok _=>False | .error e=>E e s') F N
 refine zz ?_;clear zz
 refine wpAny_call (codeAny_call_cells (fd:=fnOf name qual params body scope dV kV doc pm an cdv ct) (body:=body) (binds:=[(n0,v0),(n1,v1)]) (by exact (vF hd)) (XK _ _ ho) rfl (fm.T.nolimit.keeps F.keep) (codeRec_of XK hcd) rfl (hb v0 v1) rfl (fun x hx=>?_) (fun s' hs'=>?_) hco hgen hk)
 ·rcases Tf hx with rfl | hx
  ·exact .inl hk0
  ·rw [Tg hx]
   refine .inr ⟨hk1,?_⟩
   rw [hcl]
   show (List.lookup n1 [(n1,_)]).isSome=true
   rw [List.lookup_cons,beq_self_eq_true];rfl
 haveI henv:callEnvC (fnOf name qual params body scope dV kV doc pm an cdv ct) s.heap.objs.size f=cP (qual ++ ".<locals>.") scope s.heap.objs.size (some f) cdv [(n1,s.heap.objs.size+1)] (some s.heap.objs.size):=by
  unfold callEnvC
  rw [show cellsFrom (s.heap.objs.size+1) (fnOf name qual params body scope dV kV doc pm an cdv ct).scope.names []=_ from hcl _]
  rfl
 rw [henv] at hs' ⊢
 haveI hm0:bindL (cP (qual ++ ".<locals>.") scope s.heap.objs.size (some f) cdv [(n1,s.heap.objs.size+1)] (some s.heap.objs.size)).kindOf [(n0,v0),(n1,v1)] (fun _=>none) n0=some v0:=by
  show (if scope.names.lookup n1=some .local then _ else (if scope.names.lookup n0=some .local then _ else _:Str→Option Value)) n0=_
  rw [hk1,if_neg (by intro h;cases h),hk0,if_pos rfl,if_pos rfl]
 haveI hm1:bindC (cP (qual ++ ".<locals>.") scope s.heap.objs.size (some f) cdv [(n1,s.heap.objs.size+1)] (some s.heap.objs.size)).kindOf [(n0,v0),(n1,v1)] (fun _=>none) n1=some v1:=by
  show (if scope.names.lookup n1=some .local then (if scope.names.lookup n0=some .local then _ else _:Str→Option Value) else fun y=>if y=n1 then some v1 else (if scope.names.lookup n0=some .local then _ else _:Str→Option Value) y) n1=_
  rw [hk1,if_neg (by intro h;cases h),if_pos rfl]
 refine hid ?_;intro ZZ zz
 obtain ⟨h₁,tk,rfl⟩:2:=hs'.toInCall.same
 haveI hcell:h₁.IsCell (s.heap.objs.size+1) (some v1):=hm1▸hs'.cell n1 _ (by show List.lookup n1 [(n1,_)]=_;rw [List.lookup_cons,beq_self_eq_true])
 obtain ⟨oc',hoc,hcd'⟩:=hcell
 refine zz ?_;clear zz
 have keep:∀ b o,s.heap.get? b=some o→h₁.get? b=some o:=hs'.toInCall.keep
 haveI F':Fr (hideAll s.heap ((news++X).map (·.1))) s.heap.objs.size h₁ _:=⟨hs'.toInCall.ns,fun b o e=>keep b o (of_hideAll _ e),Nat.le_of_eq (hideAll_size _ _)⟩
 have lt:∀ p∈news++X,p.1 < s.heap.objs.size:=fun p hp=>Heap.lt_size (N p hp).1
 have N0:News (hideAll s.heap ((news++X).map (·.1))) s.heap.objs.size h₁ (news++X):=fun p hp=>⟨keep _ _ (N p hp).1,Nat.ne_of_lt (lt p hp),hideAll_none _ (List.mem_map_of_mem hp)⟩
 haveI N':News (hideAll s.heap ((news++X).map (·.1))) s.heap.objs.size h₁ (((s.heap.objs.size+1,oc')::news)++X):=fun p hp=>by
  rcases Tf hp with rfl | hp
  ·refine ⟨hoc,Nat.succ_ne_self _,?_⟩
   cases q:(hideAll s.heap ((news++X).map (·.1))).get? (s.heap.objs.size+1) with
   | none=>rfl
   | some o=>exact absurd (Heap.lt_size (of_hideAll _ q)) (Nat.not_lt.mpr (Nat.le_succ _))
  ·exact N0 p hp
 haveI g':=aK ρ σ.nx (s.heap.objs.size+1)
 haveI nd':((((s.heap.objs.size+1,oc')::news)++X).map (·.1)).Nodup:=List.nodup_cons.mpr ⟨fun q=>by
  obtain ⟨p,hp,e⟩:1:=List.mem_map.mp q
  exact absurd (e▸lt p hp) (Nat.not_lt.mpr (Nat.le_succ _)),nd⟩
 haveI S':St c.w.params (hideAll s.heap ((news++X).map (·.1))) s.heap.objs.size (ext ρ σ.nx (s.heap.objs.size+1)) (σ.new (.cell (s.heap.objs.size+1) σ.nx (some a1))) [(n0,a0)] X { s with heap:=h₁,toks:=tk }:=by
  refine ⟨_,(s.heap.objs.size+1,oc')::news,F',fun x a e=>?_,.cons ⟨Nat.lt_succ_self _,(aS _ _ _).symm,?_⟩ (H.mono (Nat.le_succ _) g'),N',nd'⟩
  ·by_cases q:x=n0
   ·subst q
    rw [cC] at e
    cases e
    exact ⟨_,hm0,q0.mono (Nat.le_succ _) g'⟩
   ·rw [cB q] at e
    cases e
  ·exact .cell1 _ _ _ _ _ hcd' (Nat.lt_succ_self _) (aS _ _ _) (q1.mono (Nat.le_succ _) g')
 haveI fm':Fm (c.cl n1 (s.heap.objs.size+1)) scope (A.deeper (cP (qual ++ ".<locals>.") scope s.heap.objs.size (some f) cdv [(n1,s.heap.objs.size+1)] (some s.heap.objs.size))) (cP (qual ++ ".<locals>.") scope s.heap.objs.size (some f) cdv [(n1,s.heap.objs.size+1)] (some s.heap.objs.size)) s.heap.objs.size (hideAll s.heap ((news++X).map (·.1))) U D:=by
  refine ⟨⟨_,_,_,_,_,rfl,(fun l ce q=>by cases q;exact ⟨rfl,fun h=>absurd rfl h⟩)⟩,(fun l ce q=>by cases q),fm.X.keeps st,fm.T.keeps st,hk,?_,?_,fm.hh,fm.sm.imp fun o e=>st _ _ e,fun l q=>by rw [show (c.cl n1 (s.heap.objs.size+1)).cf=c.cf from rfl,hfl.2] at q;cases q⟩
  ·show A.units+3+U < cLine;exact (lF hu)
  ·show A.depth+1+D < recursionLimit;exact (lF hd)
 refine h (s.heap.objs.size+1) _ _ _ _ fm' _ X _ _ _ S' fun ρ₁ σ₁ loc₁ af fl s₁ hf fr n₁ g₁ S₁ r₁=>?_
 obtain ⟨m₁,news₁,F₁,hm₁,H₁,N₁,nd₁⟩:100:=S₁.ex
 refine lv _ _ (leaveK_ F₁ N₁ fun F₂ N₂=>?_)
 haveI n₂:σ.nx≤σ₁.nx:=Ta (Nat.le_succ _) n₁
 haveI g₂:=g'.trans (Nat.le_succ _) g₁
 exact K ρ₁ σ₁ _ _ s₁ hf (iH fr) n₂ g₂ ⟨m,news₁,F₂,hm.mono n₂ g₂,H₁,N₂,nd₁⟩ ⟨r₁.os,r₁.gens,r₁.dr⟩
theorem aMp {l:List Addr} {scope:Scope} {f:Addr} {name qual:Str} {params:Arguments} {body:List Stmt} {dV kV doc pm cdv ct oc:Value} {od an:Option Addr} {osl:Array (Option Value)} {args:List AV} {loc₀:Loc} {R:AV→AH→Prop}
  (hl:c.cf=some l) (ho:c.K.lookup f=some ⟨oc,od,.func (fnOf name qual params body scope dV kV doc pm an cdv ct),osl⟩) (hcd:codeIn c.K cdv qual=true)
  (hb:lM c (fnOf name qual params body scope dV kV doc pm an cdv ct) scope args [] loc₀)
  (hsc:(scope.isCoroutine||scope.isGenerator||scope.kind != .function||!(scope.names.all fun x=>x.2 != .cell))=false)
  (h:ExS { c with fl:=some (some l,[]),cf:=none } scope U D body loc₀ σ fun fl _ σ'=>R (fM fl) σ'):ClV c sc (U+3) (D+1) (.glob f) args loc σ R:=fun A env L h₀ fm ρ X s Q E fv vs S hfv va K=>by
 cases hfv
 simp only [Bool.or_eq_false_iff,Bool.not_eq_false',bne_eq_false_iff_eq] at hsc
 refine hid ?_;intro ZZ zz
 obtain ⟨⟨⟨hco,hgen⟩,hkd⟩,hcell⟩:=hsc
 obtain ⟨m,news,F,hm,H,N,nd⟩:100:=S.ex
 haveI XK:=fm.X.keeps F.keep
 obtain ⟨binds,h1,h2,h3⟩:1:=hb ρ σ.nx vs [] s XK va .nil
 haveI hu:=fm.hu
 haveI hd:=fm.hd
 obtain ⟨outer,hA,hO⟩:1:=fm.cfr l hl
 obtain ⟨FG,st,lv⟩:=eU (R:=fun r s'=>match r with | .ok (.ret v)=>Q v s' | .ok _=>False | .error e=>E e s') F N
 refine zz ?_;clear zz
 refine wpAny_call (codeAny_call_def (fd:=fnX name qual params body scope [] dV kV doc pm an cdv ct) (body:=body) (binds:=binds) (by exact (vF hd)) (XK _ _ ho) rfl (fm.T.nolimit.keeps F.keep) (codeRec_of XK hcd) rfl h1 (fP hcell) h2 (fun h₁ hns hk₁=>?_) hco hgen hkd)
 haveI F':Fr (hideAll s.heap ((news++X).map (·.1))) s.heap.objs.size h₁ (fun y=>binds.reverse.lookup y):=⟨hns,fun b o e=>hk₁ b o (of_hideAll _ e),Nat.le_of_eq (hideAll_size _ _)⟩
 haveI N':News (hideAll s.heap ((news++X).map (·.1))) s.heap.objs.size h₁ (news++X):=fun p hp=>⟨hk₁ _ _ (N p hp).1,Nat.ne_of_lt (Heap.lt_size (N p hp).1),hideAll_none _ (List.mem_map_of_mem hp)⟩
 haveI fm':Fm { c with fl:=some (some l,[]),cf:=none } scope (A.deeper (envX qual scope s.heap.objs.size f cdv [])) (envX qual scope s.heap.objs.size f cdv []) s.heap.objs.size (hideAll s.heap ((news++X).map (·.1))) U D:=by
  refine ⟨⟨_,_,_,_,_,rfl,fun l' ce' q=>by cases q;exact ⟨rfl,fun _=>rfl⟩⟩,fun l' ce' q=>?_,fm.X.keeps st,fm.T.keeps st,hkd,?_,?_,fm.hh,fm.sm.imp fun o e=>st _ _ e,fun l q=>by cases q⟩
  ·cases q
   refine ⟨outer,?_,hO⟩
   show A.frames.map (_::·)=_
   rw [hA];rfl
  ·show A.units+3+U < cLine;exact (lF hu)
  ·show A.depth+1+D < recursionLimit;exact (lF hd)
 refine h _ _ _ _ fm' ρ X _ _ _ ⟨_,news,F',h3,H,N',nd⟩ fun ρ₁ σ₁ loc₁ af fl s₁ hf fr n₁ g₁ S₁ r₁=>?_
 obtain ⟨m₁,news₁,F₁,hm₁,H₁,N₁,nd₁⟩:100:=S₁.ex
 refine lv _ _ (leaveK_ F₁ N₁ fun F₂ N₂=>?_)
 exact K ρ₁ σ₁ _ _ s₁ hf (iH fr) n₁ g₁ ⟨m,news₁,F₂,hm.mono n₁ g₁,H₁,N₂,nd₁⟩ ⟨r₁.os,r₁.gens,r₁.dr⟩
theorem aAb {l:List Addr} {ce:List (Str×Addr)} {elt iter:Expr} {x:Str} {px:Pos} {ifs:List Expr} {scope scope':Scope} {pos:Pos} {R:AV→AH→Prop} (cl:List (Str×Addr)) (hfl:c.fl=some (some l,ce))
  (hs:∀ env x,foldedSetIterable iter env x=pure x) (hclos:∀ env:Env,(∀ l ce,c.fl=some (l,ce)→env.cells=ce)→closureFor scope env=pure cl)
  (hrel:∀ env:Env,env.scope=sc→relabel scope env=scope') (hkd:scope.kind=.function) (hkd':scope'.kind=.function) (hnames:(scope.names.all fun x=>x.2 != .local||scope.names.lookup x.1==some .local)=true) (hcell:(scope.names.all fun x=>x.2 != .cell)=true) (hx:scope'.names.lookup x=some .local)
  (h:ItE c sc U D iter (.Name x px) loc σ fun d σ₁=>∀ fa fo,(∀ vs,fo.data≠.fields vs)→∃ I:Nat→List AV→AH→Prop,I 0 [] ((σ₁.new (.list [])).new (.frm fa (σ₁.nx+1) fo))∧(∀ i acc s,I i acc s→d.ok s∧acc.length < 2 ^ 20) ∧
   (∀ i a acc s s',i < d.n→I i acc s→d.item i s a s'→EvF { c with fl:=some (none,cl),cf:=some (fa::l) } scope' U D ifs [(x,a)] s' fun b s₂ =>
    if b=true then EvE { c with fl:=some (none,cl),cf:=some (fa::l) } scope' U D elt [(x,a)] s₂ fun v s₃=>s₃.get σ₁.nx=some (.list acc)∧I (i+1) (acc++[v]) (s₃.set σ₁.nx (.list (acc++[v]))) else I (i+1) acc s₂) ∧
   (∀ acc s,I d.n acc s→s.get (σ₁.nx+1)=some (.frm fa (σ₁.nx+1) fo)∧R (.ref σ₁.nx) (s.del (σ₁.nx+1)))):EvE c sc U D (.ListComp elt [⟨.Name x px,iter,ifs,0⟩] scope pos) loc σ R:=fun A env L h₀ fm ρ X s Q E S K=>by
 obtain ⟨cn,b,ccd,ccl,fr0,he,hfe⟩:100:=fm.ex
 rw [eval_ListComp]
 refine wpAny_comprehension_free (g:=⟨.Name x px,iter,ifs,0⟩) (gs:=[]) rfl (hs env) (hclos env fun l ce q=>by rw [he];exact (hfe l ce q).1) hkd (fun y hy hl=>?_) ?_
 ·haveI:=List.all_eq_true.mp hnames y hy
  rw [hl] at this
  simpa using this
 refine h A env L h₀ fm ρ X s _ E S fun ρ₁ σ₁ d it Pv xs₁ s₁ hy1 W hP n₁ g₁ S₁ r₁=>?_
 haveI S₂:=S₁.allocN (a:=.list []) (o:={ cls:=.type "list", data:=.seq #[] }) (.list [] [] 0 .nil) rfl s₁.toks
 refine wpAny_newObj_type ?_
 show wpAny _ A (newFunctionEnv scope env.globals cl [] env.qual none .none (some env)) _ _ ({ s₁ with heap:=s₁.heap.push { cls:=.type "list", data:=.seq #[] },toks:=s₁.toks }:Shared)
 obtain ⟨m,news,F,hm,H,N,nd⟩:100:=S₂.ex
 generalize hsB:({ s₁ with heap:=s₁.heap.push { cls:=.type "list", data:=.seq #[] },toks:=s₁.toks }:Shared)=sB at S₂ F N ⊢
 generalize hρ:ext ρ₁ σ₁.nx s₁.heap.objs.size=ρB at S₂ hm H
 haveI hacc:ρB σ₁.nx=s₁.heap.objs.size:=by rw [← hρ];exact aS _ _ _
 haveI gB:Agree ρ₁ ρB σ₁.nx:=by rw [← hρ];exact aK _ _ _
 haveI rB:Rest s₁ sB:=by rw [← hsB];exact ⟨rfl,.refl _,rfl⟩
 refine wpAny_newFunctionEnv (fun y hy=>by haveI:=List.all_eq_true.mp hcell y hy;simpa using this) (fun y hy=>nomatch hy) (fun h₁ hns hsb=>?_) hkd
 have hk₁:∀ b o,sB.heap.get? b=some o→h₁.get? b=some o:=fun b o e=>hsb.extBut b o (Nat.ne_of_lt (Heap.lt_size e)) (Heap.get?_push_of_some _ e)
 obtain ⟨outer,hA,hO⟩:1:=fm.bel l ce hfl
 refine hid ?_;intro ZZ zz
 obtain ⟨oL,esL,epL,hL,hLd,hLr⟩:=id F.ns
 refine zz ?_;clear zz
 have hLf:∀ vs,oL.data≠.fields vs:=fun vs z=>by rw [hLd] at z;cases z
 obtain ⟨I,hI,hok,hst,hen⟩:1:=hy1 L oL hLf
 haveI h0L:h₀.get? L=none:=by
  cases q:h₀.get? L with
  | none=>rfl
  | some o=>exact absurd (Heap.lt_size q) (Nat.not_lt.mpr F.above)
 haveI hLn:L∉(news++(xs₁++X)).map (·.1):=fun q=>by
  obtain ⟨p,hp,e⟩:1:=List.mem_map.mp q
  exact (N p hp).2.1 e
 have nm:∀ b o,h₀.get? b=some o→b∉L::(news++(xs₁++X)).map (·.1):=fun b o e q=>by
  rcases Tf q with q | q
  ·rw [q,h0L] at e;cases e
  ·refine hid ?_;intro ZZ zz
   obtain ⟨p,hp,rfl⟩:1:=List.mem_map.mp q
   refine zz ?_;clear zz
   rw [(N p hp).2.2] at e;cases e
 haveI st:h₀.StaysIn (hideAll sB.heap (L::(news++(xs₁++X)).map (·.1))):=fun b o e=>hideAll_get _ (F.keep b o e) (nm b o e)
 haveI hLs:L < sB.heap.objs.size:=Heap.lt_size hL
 haveI F':Fr (hideAll sB.heap (L::(news++(xs₁++X)).map (·.1))) sB.heap.objs.size h₁ (fun y=>([]:List (Str×Value)).reverse.lookup y):=⟨hns,fun b o e=>hk₁ b o (of_hideAll _ e),Nat.le_of_eq (hideAll_size _ _)⟩
 haveI N':News (hideAll sB.heap (L::(news++(xs₁++X)).map (·.1))) sB.heap.objs.size h₁ (((L,oL)::news)++(xs₁++X)):=fun p hp=>by
  rcases Tf hp with rfl | hp
  ·exact ⟨hk₁ _ _ hL,Nat.ne_of_lt hLs,hideAll_none _ (.head _)⟩
  ·exact ⟨hk₁ _ _ (N p hp).1,Nat.ne_of_lt (Heap.lt_size (N p hp).1),hideAll_none _ (.tail _ (List.mem_map_of_mem hp))⟩
 haveI gC:Agree ρB (ext ρB (σ₁.nx+1) L) (σ₁.nx+1):=aK _ _ _
 haveI eC:(ext ρB (σ₁.nx+1) L) (σ₁.nx+1)=L:=aS _ _ _
 haveI HC:HR c.w.params (ext ρB (σ₁.nx+1) L) ((σ₁.new (.list [])).new (.frm L (σ₁.nx+1) oL)) ((L,oL)::news):=.cons ⟨Nat.lt_succ_self _,eC.symm,.frm L (σ₁.nx+1) oL oL.slots (Nat.lt_succ_self _) eC⟩ (HR.mono (Nat.le_succ _) gC H)
 haveI ndC:((((L,oL)::news)++(xs₁++X)).map (·.1)).Nodup:=List.nodup_cons.mpr ⟨hLn,nd⟩
 generalize hρC:ext ρB (σ₁.nx+1) L=ρC at gC eC HC
 generalize hHB:hideAll sB.heap (L::(news++(xs₁++X)).map (·.1))=HB at st F' N'
 haveI hHBs:∀ b o,HB.get? b=some o→sB.heap.get? b=some o:=fun b o e=>of_hideAll _ (hHB▸e)
 clear hρC hHB
 haveI fm':Fm { c with fl:=some (none,cl),cf:=some (L::l) } scope' A (compEnvC scope cl sB.heap.objs.size env) sB.heap.objs.size HB U D:=by
  refine ⟨⟨env.qual,none,env.code,cl,env.frame,?_,fun l ce q=>by cases q;exact ⟨rfl,fun q=>absurd rfl q⟩⟩,(fun l ce q=>by cases q),fm.X.keeps st,fm.T.keeps st,hkd',fm.hu,fm.hd,fm.hh,fm.sm.imp fun o e=>st _ _ e,fun l' q=>?_⟩
  ·unfold compEnvC
   rw [hrel env (by rw [he])]
   rw [he]
  ·cases q
   exact ⟨env::outer,hA,.cons ⟨by rw [he];exact (hfe _ _ hfl).2 (by simp),by rw [he];show sc.kind≠.module;rw [fm.hk];decide⟩ hO⟩
 have home:∀ (ρ':Nat→Addr) (σ':AH) (s':Shared) (acc:List AV),σ₁.nx+2≤σ'.nx→Agree ρC ρ' (σ₁.nx+2)→I d.n acc σ'→St c.w.params HB sB.heap.objs.size ρ' σ' [] X s'→Rest s₁ s' →
   ∃ m',s'.heap.Ns sB.heap.objs.size m'∧∀ h',Heap.SameBut sB.heap.objs.size s'.heap h'→Q (.ref s₁.heap.objs.size) { s' with heap:=h' }:=fun ρ' σ' s' acc n' g' hI' S' r'=>by
  obtain ⟨m₁,news₁,F₁,hm₁,H₁,N₁,nd₁⟩:100:=S'.ex
  refine ⟨m₁,F₁.ns,fun h' hsame=>?_⟩
  obtain ⟨hg,hR⟩:0:=hen _ _ hI'
  haveI e1:ρ' (σ₁.nx+1)=L:=(g' _ (Nat.lt_succ_self _)).trans eC
  refine hid ?_;intro ZZ zz
  obtain ⟨oL1,hn1,hlt1,hor⟩:100:=H₁.get hg
  refine zz ?_;clear zz
  rw [e1] at hn1
  haveI ndn:(news₁.map (·.1)).Nodup:=by rw [List.map_append] at nd₁;exact (List.nodup_append.mp nd₁).1
  have uq:∀ i b,(i,b)∈σ'.objs→ρ' i=L→i=σ₁.nx+1:=fun i b hb hi=>aDu H₁ ndn (cS (AH.get_look hg).2) i b hb (hi.trans e1.symm)
  haveI H₂:HR c.w.params ρ' (σ'.del (σ₁.nx+1)) (news₁.filter fun q=>q.1 != L):=aRd e1 H₁ uq
  have at':∀ p∈news₁++X,h'.get? p.1=some p.2:=fun p hp=>(hsame.2 p.1 (N₁ p hp).2.1).trans (N₁ p hp).1
  haveI FL:Fr h₀ L h' m:=by
   cases hor with
   | frm sl _ _ =>
    refine ⟨⟨_,esL,epL,at' _ (Th _ hn1),hLd,hLr⟩,fun b o q=>?_,F.above⟩
    haveI q2:=st b o q
    exact (hsame.2 b (Nat.ne_of_lt (Heap.lt_size (hHBs b o q2)))).trans (F₁.keep b o q2)
  have sub:∀ p,p∈(news₁.filter fun q=>q.1 != L)++X→p∈news₁++X∧p.1≠L:=fun p hp=>by
   rcases List.mem_append.mp hp with hp | hp
   ·obtain ⟨q1,q2⟩:0:=List.mem_filter.mp hp
    exact ⟨Th _ q1,by simpa using q2⟩
   ·refine ⟨Ti _ hp,fun z=>?_⟩
    rw [List.map_append] at nd₁
    exact (List.nodup_append.mp nd₁).2.2 _ (List.mem_map.mpr ⟨_,hn1,rfl⟩) _ (List.mem_map.mpr ⟨p,hp,rfl⟩) z.symm
  haveI NL:News h₀ L h' ((news₁.filter fun q=>q.1 != L)++X):=fun p hp=>by
   obtain ⟨q1,q2⟩:0:=sub p hp
   refine ⟨at' p q1,q2,?_⟩
   cases q:h₀.get? p.1 with
   | none=>rfl
   | some o =>
    haveI:=(N₁ p q1).2.2
    rw [st _ _ q] at this;cases this
  haveI N1:σ₁.nx≤σ'.nx:=Ta (Nat.le_add_right _ 2) n'
  haveI NN:σ.nx≤σ'.nx:=Ta n₁ N1
  haveI GG:Agree ρ ρ' σ.nx:=g₁.trans n₁ (gB.trans (Nat.le_succ _) (gC.trans (Nat.le_succ _) g'))
  refine K ρ' (σ'.del (σ₁.nx+1)) (.ref σ₁.nx) (.ref s₁.heap.objs.size) { s' with heap:=h' } hR ?_ NN GG ⟨m,_,FL,?_,H₂,NL,?_⟩ ⟨(r₁.trans r').os,(r₁.trans r').gens,(r₁.trans r').dr⟩
  ·haveI e:ρ' σ₁.nx=s₁.heap.objs.size:=(g' σ₁.nx (Nat.lt_add_of_pos_right (by decide))).trans ((gC σ₁.nx (Nat.lt_succ_self _)).trans hacc)
   rw [← e]
   exact .ref _ (Tc (Nat.lt_add_of_pos_right (by decide)) n')
  ·exact hm.mono (Ta (Nat.le_succ _) n') (gC.trans (Nat.le_succ _) g')
  ·rw [List.map_append] at nd₁ ⊢
   refine List.nodup_append.mpr ⟨?_,(List.nodup_append.mp nd₁).2.1,fun a ha b hb=>(List.nodup_append.mp nd₁).2.2 a ?_ b hb⟩
   ·exact (List.nodup_append.mp nd₁).1.sublist (List.Sublist.map _ (List.filter_sublist ..))
   ·refine hid ?_;intro ZZ zz
    obtain ⟨p,hp,rfl⟩:1:=List.mem_map.mp ha
    refine zz ?_;clear zz
    exact List.mem_map_of_mem (List.mem_filter.mp hp).1
 have gA:∀ {ρ':Nat→Addr},Agree ρC ρ' (σ₁.nx+2)→Agree ρ₁ ρ' σ₁.nx:=fun g'=>gB.trans (Nat.le_succ _) (gC.trans (Nat.le_succ _) g')
 have loop:∀ s₃,St c.w.params HB sB.heap.objs.size ρC ((σ₁.new (.list [])).new (.frm L (σ₁.nx+1) oL)) [] (xs₁++X) s₃→Rest s₁ s₃ →
   codeAny (model c.prog c.w) A (.compLoop (.ListComp elt [⟨.Name x px,iter,ifs,0⟩] scope pos) 0 (.ref it) (.ref s₁.heap.objs.size) (compEnvC scope cl sB.heap.objs.size env))
    (compPost (model c.prog c.w) A E none Q (.ref s₁.heap.objs.size) sB.heap.objs.size) s₃:=fun s₃ S₃ r₃=>by
  refine tG (fun n s'=>∃ i acc ρ' σ' xs',I i acc σ'∧i≤d.n∧n=d.n+1 - i∧Pv i xs'∧σ₁.nx+2≤σ'.nx∧Agree ρC ρ' (σ₁.nx+2) ∧
   St c.w.params HB sB.heap.objs.size ρ' σ' [] (xs'++X) s'∧Rest s₁ s') (fun n s' hJ=>?_) (d.n+1) ⟨0,[],ρC,_,xs₁,hI,Nat.zero_le _,rfl,hP,Te _,Agree.refl _ _,S₃,r₃⟩
  obtain ⟨i,acc,ρ',σ',xs',hI',hi,eI,hP',n',g',S',r'⟩:5:=hJ
  by_cases hlt:i < d.n
  ·refine wpAny_mono (W.next A _ _ ρ' X xs' σ' [] s' _ i (gA g') hlt hP' (hok i _ _ hI').1 S') (fun r s'' z=>?_) (fun _ _ z=>z)
   obtain ⟨v,rfl,z⟩:1:=z
   refine wpAny_mono (z _) (fun _ s₄ z=>?_) fun _ _ z=>z
   refine hid ?_;intro ZZ zz
   obtain ⟨ρ₄,σ₄,a,xs₄,hit,hv,n₄,g₄,hP₄,S₄,r₄⟩:=z
   refine zz ?_;clear zz
   refine lK (c:={ c with fl:=some (none,cl),cf:=some (L::l) }) (sc:=scope') (U:=U) (D:=D) (loc:=[]) (a:=a) (R:=fun l s=>l=[(x,a)]∧s=σ₄) hx ⟨rfl,rfl⟩ A _ _ _ fm' ρ₄ (xs₄++X) _ _ _ v S₄ hv fun ρ₅ σ₅ loc₅ s₅ ⟨el,es⟩ n₅ g₅ S₅ r₅=>?_
   refine aIn (hst i a acc _ _ hlt hI' hit) A _ _ _ fm' ρ₅ _ _ _ _ (es▸el▸S₅) fun ρ₆ σ₆ ok s₆ h₆ n₆ g₆ S₆ r₆=>?_
   haveI N6:σ₁.nx+2≤σ₆.nx:=Ta n' (Ta n₄ n₆)
   haveI G6:Agree ρC ρ₆ (σ₁.nx+2):=g'.trans n' (g₄.trans n₄ (g₅.trans (Te _) g₆))
   haveI R6:Rest s₁ s₆:=r'.trans (r₄.trans (r₅.trans r₆))
   cases ok with
   | false=>exact ⟨d.n+1 - (i+1),by rw [eI];exact (aCc hlt),i+1,acc,ρ₆,σ₆,xs₄,h₆,hlt,rfl,hP₄,N6,G6,S₆.sub Sub.nil,R6⟩
   | true =>
    refine h₆ A _ _ _ fm' ρ₆ _ _ _ _ S₆ fun ρ₇ σ₇ v' y s₇ ⟨hg,hI7⟩ hv7 n₇ g₇ S₇ r₇=>?_
    haveI e8:(Value.ref s₁.heap.objs.size)=.ref (ρ₇ σ₁.nx):=by rw [(g₇ σ₁.nx (Tc (Nat.lt_add_of_pos_right (by decide)) N6)),(G6 σ₁.nx (Nat.lt_add_of_pos_right (by decide))),(gC σ₁.nx (Nat.lt_succ_self _)),hacc]
    rw [e8]
    refine kP (c:={ c with fl:=some (none,cl),cf:=some (L::l) }) (sc:=scope') (U:=U) (D:=D) (loc:=[(x,a)]) (R:=fun _ s=>s=σ₇.set σ₁.nx (.list (acc++[v']))) hg (hok i _ _ hI').2 rfl A _ _ _ fm' ρ₇ _ s₇ _ _ (.builtin "list.append") [.ref (ρ₇ σ₁.nx),y] S₇ (.bi _) (.cons (.ref _ (Tc (Nat.lt_add_of_pos_right (by decide)) (Ta N6 n₇))) (.cons hv7 .nil)) fun ρ₈ σ₈ _ _ s₈ eσ _ n₈ g₈ S₈ r₈=>?_
    exact ⟨d.n+1 - (i+1),by rw [eI];exact (aCc hlt),i+1,acc++[v'],ρ₈,_,xs₄,eσ▸hI7,hlt,rfl,hP₄,Ta N6 (Ta n₇ n₈),G6.trans N6 (g₇.trans n₇ g₈),S₈.sub Sub.nil,R6.trans (r₇.trans r₈)⟩
  ·haveI hie:i=d.n:=by exact (aKg hi hlt)
   refine W.stop A _ _ ρ' X xs' σ' [] s' _ _ (gA g') fm.hh (hie▸hP') (hok _ _ _ hI').1 S' fun s₄ S₄ r₄=>?_
   exact home ρ' σ' s₄ acc n' g' (hie▸hI') S₄ (r'.trans r₄)
 haveI S₃:St c.w.params HB sB.heap.objs.size ρC ((σ₁.new (.list [])).new (.frm L (σ₁.nx+1) oL)) [] (xs₁++X) { sB with heap:=h₁,toks:=sB.toks+([]:List (Str×Value)).length } :=
  ⟨_,_,F',(fun y a q=>nomatch q),HC,N',ndC⟩
 haveI r₃:Rest s₁ { sB with heap:=h₁,toks:=sB.toks+([]:List (Str×Value)).length }:=rB.trans ⟨rfl,.refl _,rfl⟩
 exact codeAny_compStart_list (loop _ S₃ r₃) (W.self A _ _ ρC X xs₁ _ [] _ _ _ 0 hP S₃ (loop _ S₃ r₃))
end
theorem aBp {ρ:Nat→Addr} {n:Nat}:∀ {ts:List Str} {vs:List Value},VRs ρ n (ts.map .str) vs→∃ l:List (Str×Tok),vs=strValues l∧l.map (·.1)=ts
 | [],_,.nil=>⟨[],rfl,rfl⟩
 | t::ts,_,.cons h r=>by
  obtain ⟨l,e1,e2⟩:=aBp r
  cases h with
  | str tk=>exact ⟨(t,tk)::l,by rw [e1];rfl,by rw [List.map_cons,e2]⟩
section
variable {c:Cx} {sc:Scope} {U D:Nat} {loc:Loc} {σ:AH}
theorem aMq {x:Str} {R:AV→List AV→AH→Prop} (h:R (.bi "str.join") [.str x] σ):GmV c sc U D (.str x) "join" loc σ R:=fun A env L h₀ fm ρ X s Q E ov pl S hv K=>by
 cases hv with
 | str t =>
 refine getMethod_builtin (typeIs_str _ _ _) PySem.F.plainAttrs_str PySem.F.slot_str_join PySem.F.type_str_join (fun a q=>by cases q) ?_
 exact K ρ σ loc _ _ ⟨rfl,_,_,h,.bi _,.cons (.str x t) .nil⟩ (Te _) (Agree.refl _ _) S (Rest.refl _)
theorem aJe {x:Str} {k:Nat} {ts:List Str} {R:AV→AH→Prop} (e:σ.get k=some (.list (ts.map .str))) (hok:JoinOk x ts=true) (h:R (.str (Txt.join x ts)) σ):ClV c sc U D (.bi "str.join") [.str x,.ref k] loc σ R:=fun A env L h₀ fm ρ X s Q E fv vs S hfv hv K=>by
 cases hfv
 obtain ⟨v1,v2,hv1,hv2⟩:=fE hv
 cases hv1
 cases hv2
 obtain ⟨vs,hl,hr⟩:100:=S.isListAt e
 obtain ⟨l,e1,e2⟩:=aBp hr
 subst e1
 exact SC.join hl e2 hok fun t' k'=>K ρ σ _ _ _ h (.str _ _) (Te _) (Agree.refl _ _) (S.toks k') ⟨rfl,.refl _,rfl⟩
theorem nS {k:Nat} {xs:List AV} {R:AV→AH→Prop} (e:σ.get k=some (.list xs)) (hz:xs.length≤1000) (h:R (.ref σ.nx) (σ.new (.tup xs))):ClV c sc U D (.ty "tuple") [.ref k] loc σ R:=fun A env L h₀ fm ρ X s Q E fv vs S hfv hv K=>by
 cases hfv
 obtain ⟨v1,hv1⟩:=hY hv
 cases hv1
 obtain ⟨ws,hl,hr⟩:100:=S.isListAt e
 refine call_tuple_list hl (fun h' hk=>?_) (by rw [List.size_toArray,← hr.length,sizeLine_eq];exact Ta hz (Tb rfl))
 haveI S1:St c.w.params h₀ L ρ σ loc X { s with heap:=h',toks:=s.toks }:=St.stop (xs:=[]) S (fun b o _ hb=>hk b o hb) s.toks
 haveI S2:=S1.allocN (a:=.tup xs) (o:={ cls:=.type "tuple", data:=.seq ws.toArray }) (.tup xs ws 0 hr) rfl s.toks
 exact K _ _ _ _ _ h bA (Nat.le_succ _) (aK _ _ _) S2 ⟨rfl,.refl _,rfl⟩
end
section
variable {α:Type} [DecidableEq α]
noncomputable def Lx (xs ys:List α) (alo blo:Nat):Nat→Nat→Nat
 | 0,j=>if alo≤0∧blo≤j∧xs[0]? = ys[j]?∧(ys[j]?).isSome=true then 1 else 0
 | i+1,j=>if alo≤i+1∧blo≤j∧xs[i+1]? = ys[j]?∧(ys[j]?).isSome=true then (match j with | 0=>0 | j'+1=>Lx xs ys alo blo i j')+1 else 0
noncomputable def rp (xs ys:List α) (alo blo i:Nat) (j:Int):Nat:=match i with
 | 0=>0
 | i'+1=>if j < 0 then 0 else Lx xs ys alo blo i' j.toNat
noncomputable def ub (xs ys:List α) (alo blo bhi i:Nat) (b:Nat×Nat×Nat) (j:Nat):Nat×Nat×Nat :=
 if blo≤j∧j < bhi∧b.2.2 < Lx xs ys alo blo i j then (i+1 - Lx xs ys alo blo i j,j+1 - Lx xs ys alo blo i j,Lx xs ys alo blo i j) else b
noncomputable def bK (x:α):List α→Nat→List Nat
 | [],_=>[]
 | y::r,i=>if y=x then i::bK x r (i+1) else bK x r (i+1)
noncomputable def flmRow (xs ys:List α) (alo blo bhi i:Nat) (b:Nat×Nat×Nat):Nat×Nat×Nat:=match xs[i]? with
 | some x=>(bK x ys 0).foldl (ub xs ys alo blo bhi i) b
 | none=>b
noncomputable def flm (xs ys:List α) (alo ahi blo bhi:Nat):Nat×Nat×Nat:=(List.range (ahi - alo)).foldl (fun b t=>flmRow xs ys alo blo bhi (alo+t) b) (alo,blo,0)
variable {xs ys:List α} {alo blo:Nat}
theorem Lx0 {j:Nat}:Lx xs ys alo blo 0 j=if alo≤0∧blo≤j∧xs[0]? = ys[j]?∧(ys[j]?).isSome=true then 1 else 0:=rfl
theorem Lxs {i j:Nat}:Lx xs ys alo blo (i+1) j=if alo≤i+1∧blo≤j∧xs[i+1]? = ys[j]?∧(ys[j]?).isSome=true then (match j with | 0=>0 | j'+1=>Lx xs ys alo blo i j')+1 else 0:=rfl
theorem fV {x y:α} {r:List α} {i:Nat}:bK x (y::r) i=if y=x then i::bK x r (i+1) else bK x r (i+1):=rfl
theorem aRz {i j:Nat} (h:i < alo):Lx xs ys alo blo i j=0:=by
 cases i with
 | zero=>rw [Lx0];rw [if_neg (fun q=>by lia)]
 | succ i=>rw [Lxs];rw [if_neg (fun q=>by lia)]
theorem aMr {i j:Nat} (h:j < blo):Lx xs ys alo blo i j=0:=by
 cases i with
 | zero=>rw [Lx0];rw [if_neg (fun q=>by lia)]
 | succ i=>rw [Lxs];rw [if_neg (fun q=>by lia)]
theorem aYl {i j:Nat} (h:xs[i]?≠ys[j]?∨ys[j]? = none):Lx xs ys alo blo i j=0:=by
 haveI:¬ (xs[i]? = ys[j]?∧(ys[j]?).isSome=true):=fun ⟨a,b⟩=>h.elim (fun n=>n a) (fun n=>by rw [n] at b;cases b)
 cases i with
 | zero=>rw [Lx0];rw [if_neg (fun q=>this q.2.2)]
 | succ i=>rw [Lxs];rw [if_neg (fun q=>this q.2.2)]
theorem aBq {i j:Nat} (h1:alo≤i) (h2:blo≤j) (h3:xs[i]? = ys[j]?) (h4:(ys[j]?).isSome=true):Lx xs ys alo blo i j=rp xs ys alo blo i ((j:Int) - 1)+1:=by
 cases i with
 | zero=>rw [Lx0];unfold rp;rw [if_pos ⟨h1,h2,h3,h4⟩]
 | succ i =>
  unfold rp
  rw [Lxs]
  dsimp only
  rw [if_pos ⟨h1,h2,h3,h4⟩]
  cases j with
  | zero=>rw [if_pos (by decide)]
  | succ j =>
   rw [if_neg (by lia)]
   rw [show ((j+1:Nat):Int) - 1=(j:Int) by lia,Int.toNat_natCast]
theorem xM:∀ (i j:Nat),Lx xs ys alo blo i j≤i+1∧Lx xs ys alo blo i j≤j+1
 | 0,j=>by rw [Lx0];split <;> lia
 | i+1,j=>by
  rw [Lxs]
  split
  ·cases j with
   | zero=>simp
   | succ j=>haveI:=xM i j;dsimp only;lia
  ·lia
theorem mem_posn {x:α}:∀ {l:List α} {i j:Nat},j∈bK x l i ↔ i≤j∧l[j - i]? = some x
 | [],i,j=>⟨fun h=>(nomatch h),fun h=>(nomatch h.2)⟩
 | y::r,i,j=>by
  haveI ih:=@mem_posn x r (i+1) j
  rw [fV]
  by_cases h:y=x
  ·rw [if_pos h,List.mem_cons,ih]
   by_cases q:j=i
   ·subst q;simp [h]
   ·constructor
    ·rintro (e | ⟨a,b⟩)
     ·exact absurd e q
     ·refine ⟨by exact (Nat.le_of_lt a),?_⟩
      rw [show j - i=(j - (i+1))+1 by exact (yA a),List.getElem?_cons_succ];exact b
    ·rintro ⟨a,b⟩
     refine .inr ⟨by lia,?_⟩
     rw [show j - i=(j - (i+1))+1 by exact (yA (aOv a q)),List.getElem?_cons_succ] at b;exact b
  ·rw [if_neg h,ih]
   constructor
   ·rintro ⟨a,b⟩
    refine ⟨by exact (Nat.le_of_lt a),?_⟩
    rw [show j - i=(j - (i+1))+1 by exact (yA a),List.getElem?_cons_succ];exact b
   ·rintro ⟨a,b⟩
    by_cases q:j=i
    ·subst q
     rw [Nat.sub_self,List.getElem?_cons_zero] at b
     exact absurd (Option.some.inj b) h
    ·refine ⟨by lia,?_⟩
     rw [show j - i=(j - (i+1))+1 by exact (yA (aOv a q)),List.getElem?_cons_succ] at b;exact b
theorem posn_sorted {x:α}:∀ {l:List α} {i:Nat},(bK x l i).Pairwise (· < ·)
 | [],i=>List.Pairwise.nil
 | y::r,i=>by
  rw [fV]
  split
  ·exact List.pairwise_cons.mpr ⟨fun j hj=>(mem_posn.mp hj).1,posn_sorted⟩
  ·exact posn_sorted
end
section
variable {β:Type} (W:β→Nat) (V:β→Nat×Nat)
noncomputable def mI (b:Nat×Nat×Nat) (c:β):Nat×Nat×Nat:=if b.2.2 < W c then ((V c).1,(V c).2,W c) else b
theorem aMs {γ:Type} {P:List γ→Prop} (h0:P []) (h1:∀ l a,P l→P (l++[a])) (l:List γ):P l:=by
 have:∀ r:List γ,P r.reverse:=fun r=>by
  induction r with
  | nil=>exact h0
  | cons a r ih=>rw [List.reverse_cons];exact h1 _ _ ih
 haveI:=this l.reverse
 rwa [List.reverse_reverse] at this
theorem qX (lt:β→β→Prop) (i0 j0:Nat):∀ cs:List β,cs.Pairwise lt →
  let r:=cs.foldl (mI W V) (i0,j0,0)
  (r.2.2=0→r=(i0,j0,0))∧(∀ c∈cs,W c≤r.2.2)∧(0 < r.2.2→∃ c∈cs,W c=r.2.2∧r.1=(V c).1∧r.2.1=(V c).2∧∀ c'∈cs,W c'=r.2.2→c'=c∨lt c c'):=by
 intro cs
 induction cs using aMs with
 | h0=>exact fun _=>⟨fun _=>rfl,(fun _ h=>nomatch h),fun h=>absurd h (Nat.lt_irrefl _)⟩
 | h1 cs c ih =>
  intro hp
  haveI hp':=List.pairwise_append.mp hp
  haveI ih:=ih hp'.1
  rw [List.foldl_append,List.foldl_cons,List.foldl_nil]
  generalize cs.foldl (mI W V) (i0,j0,0)=r at ih
  by_cases h:r.2.2 < W c
  ·rw [show mI W V r c=((V c).1,(V c).2,W c) from if_pos h]
   refine ⟨fun q=>by dsimp only at q;(exfalso;lia),fun c' hc'=>?_,fun _=>⟨c,by simp,rfl,rfl,rfl,fun c' hc' e=>?_⟩⟩
   ·rcases List.mem_append.mp hc' with m | m
    ·exact Nat.le_of_lt (Td (ih.2.1 c' m) h)
    ·rw [Tg m];exact Te _
   ·rcases List.mem_append.mp hc' with m | m
    ·haveI:=ih.2.1 c' m
     dsimp only at e;(exfalso;lia)
    ·exact .inl (Tg m)
  ·rw [show mI W V r c=r from if_neg h]
   refine ⟨ih.1,fun c' hc'=>?_,fun q=>?_⟩
   ·rcases List.mem_append.mp hc' with m | m
    ·exact ih.2.1 c' m
    ·rw [Tg m];exact Nat.not_lt.mp h
   ·obtain ⟨d,hd,e1,e2,e3,e4⟩:1:=ih.2.2 q
    refine ⟨d,Th _ hd,e1,e2,e3,fun c' hc' e=>?_⟩
    rcases List.mem_append.mp hc' with m | m
    ·exact e4 c' m e
    ·rw [Tg m]
     exact .inr (hp'.2.2 d hd c (by simp))
end
section
variable {α:Type} [DecidableEq α] {xs ys:List α} {alo ahi blo bhi:Nat}
structure Run (xs ys:List α) (alo ahi blo bhi i j k:Nat):Prop where
 i0:alo≤i
 i1:i+k≤ahi
 j0:blo≤j
 j1:j+k≤bhi
 eq:∀ t,t < k→xs[i+t]? = ys[j+t]?∧(ys[j+t]?).isSome=true
def aOm (a b:Nat×Nat):Prop:=a.1 < b.1∨(a.1=b.1∧a.2≤b.2)
def tH (a b:Nat×Nat):Prop:=a.1 < b.1∨(a.1=b.1∧a.2 < b.2)
structure Best (xs ys:List α) (alo ahi blo bhi:Nat) (r:Nat×Nat×Nat):Prop where
 none:r.2.2=0→r=(alo,blo,0)
 most:∀ i j k,Run xs ys alo ahi blo bhi i j k→k≤r.2.2
 some:0 < r.2.2→Run xs ys alo ahi blo bhi r.1 r.2.1 r.2.2
 first:0 < r.2.2→∀ i j,Run xs ys alo ahi blo bhi i j r.2.2→aOm (r.1,r.2.1) (i,j)
theorem Best.unique {r r':Nat×Nat×Nat} (h:Best xs ys alo ahi blo bhi r) (h':Best xs ys alo ahi blo bhi r'):r=r':=by
 haveI hk:r.2.2=r'.2.2:=by
  by_cases q:0 < r.2.2
  ·haveI:=h'.most _ _ _ (h.some q)
   haveI:=h.most _ _ _ (h'.some (by exact (Tc q this)))
   exact (Nat.le_antisymm ‹_› this)
  ·by_cases q':0 < r'.2.2
   ·haveI:=h.most _ _ _ (h'.some q');lia
   ·lia
 by_cases q:0 < r.2.2
 ·haveI a:=h.first q _ _ (hk▸h'.some (hk▸q))
  haveI b:=h'.first (hk▸q) _ _ (hk▸h.some q)
  obtain ⟨r1,r2,r3⟩:=r
  obtain ⟨s1,s2,s3⟩:=r'
  dsimp only at *
  unfold aOm at a b
  dsimp only at a b
  haveI:r1=s1:=by lia
  haveI:r2=s2:=by lia
  subst_vars;rfl
 ·rw [h.none (by exact (Nat.eq_zero_of_not_pos q)),h'.none (by lia)]
theorem Best.left {i j k:Nat} (h:Best xs ys alo ahi blo bhi (i,j,k)) (hi:alo < i) (hj:blo < j) (he:xs[i - 1]? = ys[j - 1]?) (hs:(ys[j - 1]?).isSome=true):False:=by
 by_cases q:0 < k
 ·haveI R:=h.some q
  haveI:=h.most (i - 1) (j - 1) (k+1) ⟨Nat.le_sub_one_of_lt hi,by rw [aKj hi];exact R.i1,Nat.le_sub_one_of_lt hj,by rw [aKj hj];exact R.j1,fun t ht=>by
   cases t with
   | zero=>exact ⟨he,hs⟩
   | succ t =>
    haveI:=R.eq t (by dsimp only;exact (Nat.lt_of_succ_lt_succ ht))
    rw [aKj hi,aKj hj]
    exact this⟩
  dsimp only at this;lia
 ·haveI:=h.none (by dsimp only;exact (Nat.eq_zero_of_not_pos q))
  haveI:i=alo:=by injection this
  lia
theorem Best.right {i j k:Nat} (h:Best xs ys alo ahi blo bhi (i,j,k)) (hi:i+k < ahi) (hj:j+k < bhi) (hai:alo≤i) (hbj:blo≤j) (he:xs[i+k]? = ys[j+k]?) (hs:(ys[j+k]?).isSome=true):False:=by
 haveI:=h.most i j (k+1) ⟨hai,by assumption,hbj,by assumption,fun t ht=>by
  by_cases q:t=k
  ·subst q;exact ⟨he,hs⟩
  ·exact (h.some (by dsimp only;exact (aAq (aFe ht q)))).eq t (by dsimp only;exact (aFe ht q))⟩
 dsimp only at this;lia
theorem Best.lo {r:Nat×Nat×Nat} (h:Best xs ys alo ahi blo bhi r):alo≤r.1∧blo≤r.2.1:=by
 by_cases q:0 < r.2.2
 ·exact ⟨(h.some q).i0,(h.some q).j0⟩
 ·rw [h.none (by exact (Nat.eq_zero_of_not_pos q))];exact ⟨Te _,Te _⟩
theorem Best.hi {r:Nat×Nat×Nat} (h:Best xs ys alo ahi blo bhi r) (h1:alo≤ahi) (h2:blo≤bhi):r.1+r.2.2≤ahi∧r.2.1+r.2.2≤bhi:=by
 by_cases q:0 < r.2.2
 ·exact ⟨(h.some q).i1,(h.some q).j1⟩
 ·rw [h.none (by exact (Nat.eq_zero_of_not_pos q))];exact ⟨h1,h2⟩
theorem aJf:∀ (i j:Nat),i < ahi→j < bhi→0 < Lx xs ys alo blo i j→Run xs ys alo ahi blo bhi (i+1 - Lx xs ys alo blo i j) (j+1 - Lx xs ys alo blo i j) (Lx xs ys alo blo i j)
 | 0,j,hi,hj,h=>by
  rw [Lx0] at h ⊢
  split at h
  ·rename_i q
   rw [if_pos q]
   refine ⟨by exact q.1,by assumption,by exact q.2.1,by assumption,fun t ht=>?_⟩
   haveI:t=0:=by exact (aKh ht)
   subst this
   simpa using q.2.2
  ·(exfalso;lia)
 | i+1,j,hi,hj,h=>by
  haveI hL:=@xM α _ xs ys alo blo (i+1) j
  by_cases q:alo≤i+1∧blo≤j∧xs[i+1]? = ys[j]?∧(ys[j]?).isSome=true
  ·haveI e:=aBq q.1 q.2.1 q.2.2.1 q.2.2.2
   cases j with
   | zero =>
    haveI e1:Lx xs ys alo blo (i+1) 0=1:=by rw [e];rfl
    rw [e1]
    refine ⟨by exact q.1,by assumption,by exact q.2.1,by assumption,fun t ht=>?_⟩
    haveI:t=0:=by exact (aKh ht)
    subst this
    simpa using q.2.2
   | succ j =>
    haveI e1:Lx xs ys alo blo (i+1) (j+1)=Lx xs ys alo blo i j+1:=by
     rw [e];unfold rp
     dsimp only
     rw [if_neg (by lia),show ((j+1:Nat):Int) - 1=(j:Int) by lia,Int.toNat_natCast]
    rw [e1]
    haveI hL':=@xM α _ xs ys alo blo i j
    by_cases z:0 < Lx xs ys alo blo i j
    ·haveI R:=aJf i j (by exact (Nat.lt_of_succ_lt hi)) (by exact (Nat.lt_of_succ_lt hj)) z
     haveI a1:=Nat.add_sub_add_right (i+1) 1 (Lx xs ys alo blo i j)
     haveI a2:=Nat.add_sub_add_right (j+1) 1 (Lx xs ys alo blo i j)
     refine ⟨by rw [a1];exact R.i0,by rw [Nat.sub_add_cancel (Nat.succ_le_succ hL'.1)];exact hi,by rw [a2];exact R.j0,by rw [Nat.sub_add_cancel (Nat.succ_le_succ hL'.2)];exact hj,fun t ht=>?_⟩
     rw [a1,a2]
     by_cases y:t < Lx xs ys alo blo i j
     ·exact R.eq t y
     ·rw [Nat.le_antisymm (Nat.le_of_lt_succ ht) (Nat.le_of_not_lt y),Nat.sub_add_cancel hL'.1,Nat.sub_add_cancel hL'.2]
      exact q.2.2
    ·haveI z:Lx xs ys alo blo i j=0:=by exact (Nat.eq_zero_of_not_pos z)
     rw [z]
     refine ⟨by exact q.1,by assumption,by exact q.2.1,by assumption,fun t ht=>?_⟩
     haveI:t=0:=by exact (aKh ht)
     subst this
     exact q.2.2
  ·rw [Lxs] at h
   rw [if_neg q] at h;(exfalso;lia)
theorem aJg {i j:Nat}:∀ k,Run xs ys alo ahi blo bhi i j (k+1)→k+1≤Lx xs ys alo blo (i+k) (j+k)
 | 0,R=>by
  haveI:=R.eq 0 (by exact (Tb rfl))
  haveI e:=aBq R.i0 R.j0 this.1 this.2
  simp only [Nat.add_zero] at e ⊢
  lia
 | k+1,R=>by
  haveI R':Run xs ys alo ahi blo bhi i j (k+1):=⟨R.i0,by haveI:=R.i1;exact (Nat.le_of_lt this),R.j0,by haveI:=R.j1;exact (Nat.le_of_lt this),fun t ht=>R.eq t (by exact (Nat.lt_succ_of_lt ht))⟩
  haveI ih:=aJg k R'
  haveI h:=R.eq (k+1) (by lia)
  haveI e:=aBq (alo:=alo) (blo:=blo) (by haveI:=R.i0;lia) (by haveI:=R.j0;lia) h.1 h.2
  rw [e]
  show k+1+1≤rp xs ys alo blo (i+k+1) _+1
  unfold rp
  dsimp only
  rw [if_neg (by lia),show (((j+(k+1):Nat):Int) - 1).toNat=j+k by lia]
  exact (Nat.succ_le_succ ih)
end
section
variable {α:Type} [DecidableEq α] {xs ys:List α} {alo ahi blo bhi:Nat}
noncomputable def lD (xs ys:List α) (alo ahi blo bhi:Nat):List (Nat×Nat) :=
 (List.range (ahi - alo)).flatMap fun t=>match xs[alo+t]? with
  | some x=>((bK x ys 0).filter fun j=>decide (blo≤j∧j < bhi)).map fun j=>(alo+t,j)
  | none=>[]
theorem iZ {γ δ ε:Type} (f:ε→δ→ε) (g:γ→List δ):∀ (l:List γ) (b:ε),(l.flatMap g).foldl f b=l.foldl (fun b c=>(g c).foldl f b) b
 | [],b=>rfl
 | c::l,b=>by rw [List.flatMap_cons,List.foldl_append,iZ f g l,List.foldl_cons]
theorem aBr (i:Nat):∀ (l:List Nat) (b:Nat×Nat×Nat),l.foldl (ub xs ys alo blo bhi i) b=((l.filter fun j=>decide (blo≤j∧j < bhi)).map fun j=>(i,j)).foldl (mI (fun c=>Lx xs ys alo blo c.1 c.2) (fun c=>(c.1+1 - Lx xs ys alo blo c.1 c.2,c.2+1 - Lx xs ys alo blo c.1 c.2))) b
 | [],b=>rfl
 | j::l,b=>by
  rw [List.foldl_cons,aBr i l,List.filter_cons]
  by_cases h:blo≤j∧j < bhi
  ·rw [if_pos (decide_eq_true h),List.map_cons,List.foldl_cons]
   congr 1
   unfold ub mI
   by_cases q:b.2.2 < Lx xs ys alo blo i j
   ·rw [if_pos ⟨h.1,h.2,q⟩,if_pos q]
   ·rw [if_neg (fun z=>q z.2.2),if_neg q]
  ·rw [if_neg (by simpa using h)]
   congr 1
   unfold ub
   rw [if_neg (fun z=>h ⟨z.1,z.2.1⟩)]
theorem aEh:flm xs ys alo ahi blo bhi=(lD xs ys alo ahi blo bhi).foldl (mI (fun c=>Lx xs ys alo blo c.1 c.2) (fun c=>(c.1+1 - Lx xs ys alo blo c.1 c.2,c.2+1 - Lx xs ys alo blo c.1 c.2))) (alo,blo,0):=by
 unfold flm lD
 rw [iZ]
 congr 1
 funext b t
 unfold flmRow
 cases xs[alo+t]? with
 | none=>rfl
 | some x=>exact aBr _ _ _
theorem gR:∀ n,(List.range n).Pairwise (· < ·):=fun n=>List.pairwise_lt_range
theorem jA {γ:Type} (a:Nat) (lt:γ→γ→Prop) (g:Nat→List γ) (row:γ→Nat) (h1:∀ t,(g t).Pairwise lt) (h2:∀ t c,c∈g t→row c=a+t) (h3:∀ c c',row c < row c'→lt c c'):∀ l:List Nat,l.Pairwise (· < ·)→(l.flatMap g).Pairwise lt
 | [],_=>List.Pairwise.nil
 | t::l,hp=>by
  obtain ⟨p1,p2⟩:0:=List.pairwise_cons.mp hp
  rw [List.flatMap_cons]
  refine List.pairwise_append.mpr ⟨h1 t,jA a lt g row h1 h2 h3 l p2,fun c hc c' hc'=>?_⟩
  obtain ⟨t',ht',hc''⟩:1:=List.mem_flatMap.mp hc'
  refine h3 c c' ?_
  rw [h2 t c hc,h2 t' c' hc'']
  haveI:=p1 t' ht';lia
theorem sK:(lD xs ys alo ahi blo bhi).Pairwise tH:=by
 refine jA alo tH _ (fun c=>c.1) (fun t=>?_) (fun t c hc=>?_) (fun c c' h=>.inl h) _ (gR _)
 ·cases xs[alo+t]? with
  | none=>exact List.Pairwise.nil
  | some x =>
   refine List.pairwise_map.mpr ((posn_sorted.filter _).imp fun h=>.inr ⟨rfl,h⟩)
 ·cases q:xs[alo+t]? with
  | none=>rw [q] at hc;cases hc
  | some x =>
   rw [q] at hc
   obtain ⟨j,_,rfl⟩:1:=List.mem_map.mp hc
   rfl
theorem mem_cellsF {i j:Nat}:(i,j)∈lD xs ys alo ahi blo bhi ↔ alo≤i∧i < ahi∧blo≤j∧j < bhi∧xs[i]? = ys[j]?∧(ys[j]?).isSome=true:=by
 unfold lD
 rw [List.mem_flatMap]
 constructor
 ·rintro hz0
  obtain ⟨t,ht,hc⟩:1:=hz0
  haveI ht:=List.mem_range.mp ht
  cases q:xs[alo+t]? with
  | none=>rw [q] at hc;cases hc
  | some x =>
   rw [q] at hc
   obtain ⟨j',hj',e⟩:1:=List.mem_map.mp hc
   cases e
   obtain ⟨m1,m2⟩:0:=List.mem_filter.mp hj'
   haveI m2:=of_decide_eq_true m2
   haveI m1:=(mem_posn.mp m1).2
   rw [Nat.sub_zero] at m1
   exact ⟨by lia,by exact (aZg ht),m2.1,m2.2,by rw [q,m1],by rw [m1];rfl⟩
 ·rintro hz0
  obtain ⟨h1,h2,h3,h4,h5,h6⟩:0:=hz0
  obtain ⟨x,hx⟩:1:=Option.isSome_iff_exists.mp h6
  refine ⟨i - alo,List.mem_range.mpr (by exact (aOw h1 h2)),?_⟩
  rw [show alo+(i - alo)=i by exact (Nat.add_sub_of_le h1),h5,hx]
  exact List.mem_map.mpr ⟨j,List.mem_filter.mpr ⟨mem_posn.mpr ⟨Nat.zero_le _,by rw [Nat.sub_zero];exact hx⟩,decide_eq_true ⟨h3,h4⟩⟩,rfl⟩
theorem flm_best:Best xs ys alo ahi blo bhi (flm xs ys alo ahi blo bhi):=by
 rw [aEh]
 obtain ⟨k1,k2,k3⟩:0:=qX (fun c:Nat×Nat=>Lx xs ys alo blo c.1 c.2) (fun c=>(c.1+1 - Lx xs ys alo blo c.1 c.2,c.2+1 - Lx xs ys alo blo c.1 c.2)) tH alo blo _ (sK (xs:=xs) (ys:=ys) (alo:=alo) (ahi:=ahi) (blo:=blo) (bhi:=bhi))
 generalize (lD xs ys alo ahi blo bhi).foldl _ _=r at k1 k2 k3
 have big:∀ i j k,Run xs ys alo ahi blo bhi i j (k+1)→(i+k,j+k)∈lD xs ys alo ahi blo bhi:=fun i j k R=>by
  haveI:=R.eq k (by lia)
  exact mem_cellsF.mpr ⟨by haveI:=R.i0;lia,by haveI:=R.i1;assumption,by haveI:=R.j0;lia,by haveI:=R.j1;assumption,this.1,this.2⟩
 refine ⟨k1,fun i j k R=>?_,fun h=>?_,fun h i j R=>?_⟩
 ·cases k with
  | zero=>exact Nat.zero_le _
  | succ k=>exact Ta (aJg k R) (k2 _ (big i j k R))
 ·obtain ⟨c,hc,e1,e2,e3,_⟩:1:=k3 h
  haveI m:=mem_cellsF.mp hc
  dsimp only at e1 e2 e3
  haveI:=aJf (ahi:=ahi) (bhi:=bhi) (xs:=xs) (ys:=ys) (alo:=alo) (blo:=blo) c.1 c.2 m.2.1 m.2.2.2.1 (by exact (sL e1 h))
  rw [e1] at this e2 e3
  rw [e2,e3];exact this
 ·obtain ⟨c,hc,e1,e2,e3,e4⟩:1:=k3 h
  obtain ⟨k,hk⟩:∃ k,r.2.2=k+1:=⟨r.2.2 - 1,by exact (aNi h)⟩
  rw [hk] at R
  haveI hm:=big i j k R
  haveI hL:=aJg k R
  haveI hL':=k2 _ hm
  dsimp only at e1 e2 e3 e4 hL'
  haveI:=e4 _ hm (by dsimp only;exact (Nat.le_antisymm hL' (aNk hk hL)))
  haveI hc1:=@xM α _ xs ys alo blo c.1 c.2
  haveI f1:r.1=c.1 - k:=by rw [e2,e1,hk];exact Nat.succ_sub_succ _ _
  haveI f2:r.2.1=c.2 - k:=by rw [e3,e1,hk];exact Nat.succ_sub_succ _ _
  show r.1 < i∨r.1=i∧r.2.1≤j
  rw [f1,f2]
  rcases this with h0 | h'
  ·rw [← h0];exact .inr ⟨Nat.add_sub_cancel ..,Nat.le_of_eq (Nat.add_sub_cancel ..)⟩
  ·exact aSz h' (Nat.le_of_succ_le_succ (Ta (Nat.le_of_eq (hk.symm.trans e1.symm)) hc1.1))
noncomputable def Px (xs ys:List α) (ahi bhi:Nat):Nat→Nat→Nat→Nat
 | 0,_,_=>0
 | f+1,i,j=>if i < ahi∧j < bhi∧xs[i]? = ys[j]?∧(ys[j]?).isSome=true then Px xs ys ahi bhi f (i+1) (j+1)+1 else 0
noncomputable def uX (xs ys:List α) (alo ahi blo bhi:Nat):Nat×Nat×Nat :=
 ((List.range (ahi - alo)).flatMap fun t=>(List.range (bhi - blo)).map fun u=>(alo+t,blo+u)).foldl (mI (fun c=>Px xs ys ahi bhi (ahi - c.1) c.1 c.2) id) (alo,blo,0)
theorem Pxs {f i j:Nat}:Px xs ys ahi bhi (f+1) i j=if i < ahi∧j < bhi∧xs[i]? = ys[j]?∧(ys[j]?).isSome=true then Px xs ys ahi bhi f (i+1) (j+1)+1 else 0:=rfl
theorem aJh (h0:∀ i j:Nat,True):∀ (f i j:Nat),alo≤i→blo≤j→i+f≤ahi→0 < Px xs ys ahi bhi f i j→Run xs ys alo ahi blo bhi i j (Px xs ys ahi bhi f i j)
 | 0,i,j,_,_,_,h=>absurd h (Nat.lt_irrefl 0)
 | f+1,i,j,hi,hj,hf,h=>by
  rw [Pxs] at h ⊢
  split at h
  ·rename_i q
   rw [if_pos q]
   by_cases z:0 < Px xs ys ahi bhi f (i+1) (j+1)
   ·haveI R:=aJh h0 f (i+1) (j+1) (by exact (Nat.le_succ_of_le hi)) (by exact (Nat.le_succ_of_le hj)) (by exact (aFc hf)) z
    refine ⟨hi,by haveI:=R.i1;lia,hj,by haveI:=R.j1;lia,fun t ht=>?_⟩
    cases t with
    | zero=>exact q.2.2
    | succ t =>
     haveI:=R.eq t (by exact (Nat.lt_of_succ_lt_succ ht))
     rw [show i+(t+1)=i+1+t by lia,show j+(t+1)=j+1+t by lia]
     exact this
   ·haveI z:Px xs ys ahi bhi f (i+1) (j+1)=0:=by exact (Nat.eq_zero_of_not_pos z)
    rw [z]
    refine ⟨hi,by exact q.1,hj,by exact q.2.1,fun t ht=>?_⟩
    haveI:t=0:=by exact (aKh ht)
    subst this
    exact q.2.2
  ·(exfalso;lia)
theorem aJi:∀ (k f i j:Nat),Run xs ys alo ahi blo bhi i j k→k≤f→k≤Px xs ys ahi bhi f i j
 | 0,_,_,_,_,_=>Nat.zero_le _
 | k+1,0,_,_,_,h=>by assumption
 | k+1,f+1,i,j,R,h=>by
  haveI e:=R.eq 0 (by lia)
  rw [Pxs]
  rw [if_pos ⟨by haveI:=R.i1;exact (aCd this),by haveI:=R.j1;exact (aCd this),e.1,e.2⟩]
  haveI:=aJi k f (i+1) (j+1) ⟨by haveI:=R.i0;exact (Nat.le_succ_of_le this),by haveI:=R.i1;exact (aFc this),by haveI:=R.j0;exact (Nat.le_succ_of_le this),by haveI:=R.j1;exact (aFc this),fun t ht=>by
   haveI:=R.eq (t+1) (by exact (Nat.lt_succ_of_le ht))
   rw [show i+1+t=i+(t+1) by exact aFd,show j+1+t=j+(t+1) by exact aFd]
   exact this⟩ (by exact (Nat.le_of_lt_succ h))
  exact (Nat.succ_le_succ this)
theorem nE:Best xs ys alo ahi blo bhi (uX xs ys alo ahi blo bhi):=by
 haveI hs:((List.range (ahi - alo)).flatMap fun t=>(List.range (bhi - blo)).map fun u=>(alo+t,blo+u)).Pairwise tH:=by
  refine jA alo tH _ (fun c=>c.1) (fun t=>?_) (fun t c hc=>?_) (fun c c' h=>.inl h) _ (gR _)
  ·exact List.pairwise_map.mpr ((gR _).imp fun h=>.inr ⟨rfl,by dsimp only;lia⟩)
  ·obtain ⟨u,_,rfl⟩:1:=List.mem_map.mp hc;rfl
 have hm:∀ i j,(i,j)∈((List.range (ahi - alo)).flatMap fun t=>(List.range (bhi - blo)).map fun u=>(alo+t,blo+u)) ↔ alo≤i∧i < ahi∧blo≤j∧j < bhi:=fun i j=>by
  rw [List.mem_flatMap]
  constructor
  ·rintro hz0
   obtain ⟨t,ht,hc⟩:1:=hz0
   obtain ⟨u,hu,e⟩:1:=List.mem_map.mp hc
   haveI ht:=List.mem_range.mp ht
   haveI hu:=List.mem_range.mp hu
   cases e
   lia
  ·rintro hz0
   obtain ⟨h1,h2,h3,h4⟩:0:=hz0
   refine ⟨i - alo,List.mem_range.mpr (by exact (aOw h1 h2)),List.mem_map.mpr ⟨j - blo,List.mem_range.mpr (by exact (aOw h3 h4)),?_⟩⟩
   rw [show alo+(i - alo)=i by exact (Nat.add_sub_of_le h1),show blo+(j - blo)=j by exact (Nat.add_sub_of_le h3)]
 unfold uX
 obtain ⟨k1,k2,k3⟩:0:=qX (fun c:Nat×Nat=>Px xs ys ahi bhi (ahi - c.1) c.1 c.2) id tH alo blo _ hs
 generalize List.foldl _ _ _=r at k1 k2 k3
 have big:∀ i j k,Run xs ys alo ahi blo bhi i j (k+1)→(i,j)∈((List.range (ahi - alo)).flatMap fun t=>(List.range (bhi - blo)).map fun u=>(alo+t,blo+u)):=fun i j k R =>
  (hm i j).mpr ⟨R.i0,by haveI:=R.i1;exact (aCd this),R.j0,by haveI:=R.j1;exact (aCd this)⟩
 refine ⟨k1,fun i j k R=>?_,fun h=>?_,fun h i j R=>?_⟩
 ·cases k with
  | zero=>exact Nat.zero_le _
  | succ k=>exact Ta (aJi (k+1) (ahi - i) i j R (by haveI:=R.i1;exact (aSv this))) (k2 _ (big i j k R))
 ·obtain ⟨c,hc,e1,e2,e3,_⟩:1:=k3 h
  haveI m:=(hm c.1 c.2).mp hc
  dsimp only [id] at e1 e2 e3
  haveI:=aJh (xs:=xs) (ys:=ys) (alo:=alo) (ahi:=ahi) (blo:=blo) (bhi:=bhi) (fun _ _=>trivial) (ahi - c.1) c.1 c.2 m.1 m.2.2.1 (by omega) (by exact (sL e1 h))
  rw [e1] at this
  rw [e2,e3];exact this
 ·obtain ⟨c,hc,e1,e2,e3,e4⟩:1:=k3 h
  obtain ⟨k,hk⟩:∃ k,r.2.2=k+1:=⟨r.2.2 - 1,by exact (aNi h)⟩
  rw [hk] at R
  haveI hmem:=big i j k R
  haveI hP:=aJi (k+1) (ahi - i) i j R (by haveI:=R.i1;exact (aSv this))
  haveI hP':=k2 _ hmem
  dsimp only [id] at e1 e2 e3 e4 hP'
  haveI:=e4 _ hmem (by dsimp only;exact (Nat.le_antisymm hP' (aNk hk hP)))
  show r.1 < i∨r.1=i∧r.2.1≤j
  rw [e2,e3]
  rcases this with h0 | h'
  ·rw [← h0];exact .inr ⟨rfl,Te _⟩
  ·exact h'.imp id fun q=>⟨q.1,Nat.le_of_lt q.2⟩
theorem mJ:flm xs ys alo ahi blo bhi=uX xs ys alo ahi blo bhi:=flm_best.unique nE
noncomputable def jR (xs ys:List α):Nat→Nat→Nat→Nat→Nat→List (Nat×Nat×Nat)
 | 0,_,_,_,_=>[]
 | f+1,alo,ahi,blo,bhi=>let r:=flm xs ys alo ahi blo bhi;if r.2.2=0 then [] else jR xs ys f alo r.1 blo r.2.1++r::jR xs ys f (r.1+r.2.2) ahi (r.2.1+r.2.2) bhi
noncomputable def cut (xs ys:List α) (alo ahi blo bhi:Nat):List (Nat×Nat×Nat):=jR xs ys (ahi - alo) alo ahi blo bhi
theorem aBs (h:ahi≤alo∨bhi≤blo):(flm xs ys alo ahi blo bhi).2.2=0:=by
 haveI B:=flm_best (xs:=xs) (ys:=ys) (alo:=alo) (ahi:=ahi) (blo:=blo) (bhi:=bhi)
 rcases Nat.eq_zero_or_pos (flm xs ys alo ahi blo bhi).2.2 with q | q
 ·exact q
 ·haveI R:=B.some q
  exact h.elim (fun h=>aSy R.i1 (Ta h R.i0)) fun h=>aSy R.j1 (Ta h R.j0)
theorem uY {f:Nat}:jR xs ys (f+1) alo ahi blo bhi=if (flm xs ys alo ahi blo bhi).2.2=0 then [] else jR xs ys f alo (flm xs ys alo ahi blo bhi).1 blo (flm xs ys alo ahi blo bhi).2.1++flm xs ys alo ahi blo bhi::jR xs ys f ((flm xs ys alo ahi blo bhi).1+(flm xs ys alo ahi blo bhi).2.2) ahi ((flm xs ys alo ahi blo bhi).2.1+(flm xs ys alo ahi blo bhi).2.2) bhi:=rfl
theorem jB (h:ahi≤alo∨bhi≤blo):∀ f,jR xs ys f alo ahi blo bhi=[]
 | 0=>rfl
 | f+1=>if_pos (aBs h)
theorem mK:∀ (f g:Nat) {alo ahi blo bhi:Nat},ahi - alo≤f→ahi - alo≤g→jR xs ys f alo ahi blo bhi=jR xs ys g alo ahi blo bhi
 | 0,g,alo,ahi,blo,bhi,h,_=>by rw [jB (.inl (Nat.le_of_sub_eq_zero (Nat.eq_zero_of_le_zero h))),jB (.inl (Nat.le_of_sub_eq_zero (Nat.eq_zero_of_le_zero h)))]
 | f+1,0,alo,ahi,blo,bhi,_,h=>by rw [jB (.inl (Nat.le_of_sub_eq_zero (Nat.eq_zero_of_le_zero h))),jB (.inl (Nat.le_of_sub_eq_zero (Nat.eq_zero_of_le_zero h)))]
 | f+1,g+1,alo,ahi,blo,bhi,h,h'=>by
  rw [uY,uY]
  haveI B:=flm_best (xs:=xs) (ys:=ys) (alo:=alo) (ahi:=ahi) (blo:=blo) (bhi:=bhi)
  generalize flm xs ys alo ahi blo bhi=r at B ⊢
  by_cases q:r.2.2=0
  ·rw [if_pos q,if_pos q]
  ·haveI R:=B.some (by exact (Nat.pos_of_ne_zero q))
   haveI:=R.i0;haveI:=R.i1
   rw [if_neg q,if_neg q,mK f g (by exact (aOu h q this)) (by exact (aOu h' q this)),mK f g (by exact (aKf h q ‹_›)) (by exact (aKf h' q ‹_›))]
theorem aAc:cut xs ys alo ahi blo bhi=if (flm xs ys alo ahi blo bhi).2.2=0 then [] else cut xs ys alo (flm xs ys alo ahi blo bhi).1 blo (flm xs ys alo ahi blo bhi).2.1++flm xs ys alo ahi blo bhi::cut xs ys ((flm xs ys alo ahi blo bhi).1+(flm xs ys alo ahi blo bhi).2.2) ahi ((flm xs ys alo ahi blo bhi).2.1+(flm xs ys alo ahi blo bhi).2.2) bhi:=by
 unfold cut
 rw [mK (ahi - alo) (ahi - alo+1) (Te _) (Nat.le_succ _)]
 rw [uY]
 haveI B:=flm_best (xs:=xs) (ys:=ys) (alo:=alo) (ahi:=ahi) (blo:=blo) (bhi:=bhi)
 generalize flm xs ys alo ahi blo bhi=r at B ⊢
 by_cases q:r.2.2=0
 ·rw [if_pos q,if_pos q]
 ·haveI R:=B.some (by exact (Nat.pos_of_ne_zero q))
  haveI:=R.i0;haveI:=R.i1
  rw [if_neg q,if_neg q,mK (xs:=xs) (ys:=ys) (r.1 - alo) (ahi - alo) (Te _) (Nat.sub_le_sub_right (Ta (Nat.le_add_right _ _) R.i1) alo),mK (xs:=xs) (ys:=ys) (ahi - (r.1+r.2.2)) (ahi - alo) (Te _) (Nat.sub_le_sub_left (Ta R.i0 (Nat.le_add_right _ _)) ahi)]
theorem aBt (h:ahi≤alo∨bhi≤blo):cut xs ys alo ahi blo bhi=[]:=jB h _
def Rb (a b:Nat×Nat×Nat):Prop:=a.1+a.2.2≤b.1∧a.2.1+a.2.2≤b.2.1∧¬(a.1+a.2.2=b.1∧a.2.1+a.2.2=b.2.1)
theorem Run.wide {alo' ahi' blo' bhi' i j k:Nat} (R:Run xs ys alo ahi blo bhi i j k) (h1:alo'≤alo) (h2:ahi≤ahi') (h3:blo'≤blo) (h4:bhi≤bhi'):Run xs ys alo' ahi' blo' bhi' i j k :=
 ⟨Ta h1 R.i0,Ta R.i1 h2,Ta h3 R.j0,Ta R.j1 h4,R.eq⟩
theorem oV:∀ (f:Nat) {alo ahi blo bhi:Nat},(∀ b∈jR xs ys f alo ahi blo bhi,Run xs ys alo ahi blo bhi b.1 b.2.1 b.2.2∧0 < b.2.2)∧(jR xs ys f alo ahi blo bhi).Pairwise Rb
 | 0,alo,ahi,blo,bhi=>⟨fun b h=>(nomatch h),.nil⟩
 | f+1,alo,ahi,blo,bhi=>by
  rw [uY]
  haveI B:=flm_best (xs:=xs) (ys:=ys) (alo:=alo) (ahi:=ahi) (blo:=blo) (bhi:=bhi)
  generalize flm xs ys alo ahi blo bhi=r at B ⊢
  by_cases q:r.2.2=0
  ·rw [if_pos q];exact ⟨fun b h=>(nomatch h),.nil⟩
  ·rw [if_neg q]
   haveI R:=B.some (by exact (Nat.pos_of_ne_zero q))
   obtain ⟨i,j,k⟩:=r
   dsimp only at q R ⊢
   haveI:=R.i0;haveI:=R.i1;haveI:=R.j0;haveI:=R.j1
   obtain ⟨l1,l2⟩:0:=oV f (alo:=alo) (ahi:=i) (blo:=blo) (bhi:=j)
   obtain ⟨r1,r2⟩:0:=oV f (alo:=i+k) (ahi:=ahi) (blo:=j+k) (bhi:=bhi)
   have lm:∀ a∈jR xs ys f alo i blo j,Rb a (i,j,k):=fun a ha=>by
    obtain ⟨Ra,ka⟩:0:=l1 a ha
    refine ⟨Ra.i1,Ra.j1,fun q=>?_⟩
    dsimp only at q
    haveI e:=Ra.eq (a.2.2 - 1) (by exact (dQ ka))
    rw [← Nat.add_sub_assoc ka,← Nat.add_sub_assoc ka,q.1,q.2] at e
    exact B.left (q.1▸Td Ra.i0 (Nat.lt_add_of_pos_right ka)) (q.2▸Td Ra.j0 (Nat.lt_add_of_pos_right ka)) e.1 e.2
   have mr:∀ a∈jR xs ys f (i+k) ahi (j+k) bhi,Rb (i,j,k) a:=fun a ha=>by
    obtain ⟨Ra,ka⟩:0:=r1 a ha
    refine ⟨Ra.i0,Ra.j0,fun q=>?_⟩
    dsimp only at q
    haveI e:=Ra.eq 0 ka
    rw [Nat.add_zero,Nat.add_zero,← q.1,← q.2] at e
    exact B.right (q.1.symm▸Tc (Nat.lt_add_of_pos_right ka) Ra.i1) (q.2.symm▸Tc (Nat.lt_add_of_pos_right ka) Ra.j1) R.i0 R.j0 e.1 e.2
   constructor
   ·intro b hb
    rcases List.mem_append.mp hb with hb | hb
    ·exact ⟨(l1 b hb).1.wide (Te _) (by exact (aOr ‹_›)) (Te _) (by exact (aOr this)),(l1 b hb).2⟩
    ·rcases Tf hb with rfl | hb
     ·exact ⟨R,by show 0 < k;exact (Nat.pos_of_ne_zero q)⟩
     ·exact ⟨(r1 b hb).1.wide (Ta R.i0 (Nat.le_add_right i k)) (Te _) (Ta R.j0 (Nat.le_add_right j k)) (Te _),(r1 b hb).2⟩
   ·refine List.pairwise_append.mpr ⟨l2,List.pairwise_cons.mpr ⟨mr,r2⟩,fun a ha b hb=>?_⟩
    rcases Tf hb with rfl | hb
    ·exact lm a ha
    ·haveI x:=lm a ha
     haveI y:=mr b hb
     haveI z:=Td x.1 (Tc (Nat.lt_add_of_pos_right (Nat.pos_of_ne_zero q)) y.1)
     exact ⟨Nat.le_of_lt z,Ta x.2.1 (Ta (Nat.le_add_right j k) y.2.1),fun e=>Nat.ne_of_lt z e.1⟩
theorem oW {b:Nat×Nat×Nat} (h:b∈cut xs ys alo ahi blo bhi):Run xs ys alo ahi blo bhi b.1 b.2.1 b.2.2∧0 < b.2.2:=oV _ |>.1 b h
theorem xN:(cut xs ys alo ahi blo bhi).Pairwise Rb:=(oV _).2
theorem aJj:∀ (l:List (Nat×Nat×Nat)) (lo hi:Nat),l.Pairwise Rb→(∀ b∈l,lo≤b.1∧b.1+b.2.2≤hi∧0 < b.2.2)→l.length≤hi - lo
 | [],_,_,_,_=>Nat.zero_le _
 | a::l,lo,hi,hp,hm=>by
  obtain ⟨p1,p2⟩:0:=List.pairwise_cons.mp hp
  haveI ha:=hm a (List.mem_cons_self ..)
  haveI:=aJj l (a.1+a.2.2) hi p2 fun b hb=>⟨(p1 b hb).1,(hm b (.tail _ hb)).2⟩
  haveI z:=Td ha.1 (Nat.lt_add_of_pos_right ha.2.2)
  exact Td this (Nat.sub_lt_sub_left (Tc z ha.2.1) z)
theorem jJ:(cut xs ys alo ahi blo bhi).length≤ahi - alo:=aJj _ _ _ xN fun b hb=>⟨(oW hb).1.i0,(oW hb).1.i1,(oW hb).2⟩
noncomputable def qY (xs ys:List α) (q:List (Nat×Nat×Nat×Nat)):List (Nat×Nat×Nat):=q.flatMap fun e=>cut xs ys e.1 e.2.1 e.2.2.1 e.2.2.2
noncomputable def qm (q:List (Nat×Nat×Nat×Nat)):Nat:=(q.map fun e=>2 * (e.2.1 - e.1)+1).sum
structure Qok (xs ys:List α) (q:List (Nat×Nat×Nat×Nat)) (mb:List (Nat×Nat×Nat)):Prop where
 v:∀ e∈q,e.1≤e.2.1∧e.2.1≤xs.length∧e.2.2.1≤e.2.2.2∧e.2.2.2≤ys.length
 p:(mb++qY xs ys q).Perm (cut xs ys 0 xs.length 0 ys.length)
theorem Qok.start:Qok xs ys [(0,xs.length,0,ys.length)] []:=⟨fun e h=>by
 rcases Tg h with rfl;exact ⟨Nat.zero_le _,Te _,Nat.zero_le _,Te _⟩,by simp [qY]⟩
theorem Qok.stop {mb:List (Nat×Nat×Nat)} (h:Qok xs ys [] mb):mb.Perm (cut xs ys 0 xs.length 0 ys.length):=by haveI:=h.p;simpa [qY] using this
theorem Qok.none {q:List (Nat×Nat×Nat×Nat)} {mb:List (Nat×Nat×Nat)} {a b c d:Nat} (h:Qok xs ys (q++[(a,b,c,d)]) mb) (e:(flm xs ys a b c d).2.2=0):Qok xs ys q mb:=⟨fun e he=>h.v e (Th _ he),by
 haveI:=h.p
 simpa [qY,aAc (xs:=xs) (ys:=ys) (alo:=a),e] using this⟩
noncomputable def qL (a c i j:Nat):List (Nat×Nat×Nat×Nat):=if a < i∧c < j then [(a,i,c,j)] else []
theorem aJk {a c i j:Nat}:qY xs ys (qL a c i j)=cut xs ys a i c j:=by
 unfold qL
 split
 ·simp [qY]
 ·rw [aBt (by lia)];rfl
theorem qZ {q q':List (Nat×Nat×Nat×Nat)}:qY xs ys (q++q')=qY xs ys q++qY xs ys q':=List.flatMap_append
theorem rA {q q':List (Nat×Nat×Nat×Nat)}:qm (q++q')=qm q+qm q':=by simp [qm]
theorem aYm {a c i j:Nat}:qm (qL a c i j)≤2 * (i - a)+1:=by
 unfold qL
 split
 ·simp [qm]
 ·exact Nat.zero_le _
theorem aSa (q:List (Nat×Nat×Nat×Nat)):q.length≤qm q:=by
 induction q with
 | nil=>exact Nat.zero_le _
 | cons e q ih=>simp [qm] at ih ⊢;lia
theorem Qok.some {q:List (Nat×Nat×Nat×Nat)} {mb:List (Nat×Nat×Nat)} {a b c d i j k:Nat} (h:Qok xs ys (q++[(a,b,c,d)]) mb) (e:flm xs ys a b c d=(i,j,k)) (hk:0 < k) :
  Qok xs ys (q++qL a c i j++qL (i+k) (j+k) b d) (mb++[(i,j,k)])∧qm (q++qL a c i j++qL (i+k) (j+k) b d) < qm (q++[(a,b,c,d)]):=by
 haveI B:=flm_best (xs:=xs) (ys:=ys) (alo:=a) (ahi:=b) (blo:=c) (bhi:=d)
 rw [e] at B
 haveI R:=B.some hk
 haveI v:=h.v (a,b,c,d) (Ti _ (List.mem_singleton.mpr rfl))
 haveI:=R.i0;haveI:=R.i1;haveI:=R.j0;haveI:=R.j1
 dsimp only at this v
 refine ⟨⟨fun x hx=>?_,?_⟩,?_⟩
 ·rcases List.mem_append.mp hx with hx | hx
  ·rcases List.mem_append.mp hx with hx | hx
   ·exact h.v x (Th _ hx)
   ·unfold qL at hx
    split at hx
    ·rcases Tg hx with rfl
     exact ⟨R.i0,Ta (Ta (Nat.le_add_right i k) R.i1) v.2.1,R.j0,Ta (Ta (Nat.le_add_right j k) R.j1) v.2.2.2⟩
    ·exact nomatch hx
  ·unfold qL at hx
   split at hx
   ·rcases Tg hx with rfl
    exact ⟨R.i1,v.2.1,R.j1,v.2.2.2⟩
   ·exact nomatch hx
 ·refine List.Perm.trans ?_ h.p
  rw [qZ,qZ,qZ,aJk,aJk]
  haveI e2:qY xs ys [(a,b,c,d)]=cut xs ys a i c j++(i,j,k)::cut xs ys (i+k) b (j+k) d:=by
   haveI:=aAc (xs:=xs) (ys:=ys) (alo:=a) (ahi:=b) (blo:=c) (bhi:=d)
   rw [e] at this
   dsimp only at this
   rw [if_neg (by exact (Nat.ne_of_gt hk))] at this
   simp [qY,this]
  rw [e2]
  simp only [List.append_assoc]
  refine List.Perm.append_left _ ?_
  refine (List.perm_append_comm_assoc _ _ _).trans ?_
  refine List.Perm.append_left _ ?_
  rw [List.singleton_append]
  exact (List.perm_middle (l₁:=cut xs ys a i c j)).symm
 ·rw [rA,rA,rA]
  haveI e3:qm [(a,b,c,d)]=2 * (b - a)+1:=by simp [qm]
  rw [Nat.add_assoc,e3]
  exact Nat.add_lt_add_left (Td (Nat.add_le_add (aYm (a:=a) (c:=c) (i:=i) (j:=j)) (aYm (a:=i+k) (c:=j+k) (i:=b) (j:=d))) (aKi R.i0 R.i1 hk)) _
end
inductive Seg (τ α:Type) where
 | eq (n m:Nat)
 | df (tag:τ) (xs ys:List α)
section
variable {α τ:Type} [DecidableEq α]
theorem neTF:true≠false:=by decide
theorem neFT:false≠true:=by decide
end
section
variable {α β:Type} [DecidableEq α] [DecidableEq β]
def aEi (xs ys:List α) (xs' ys':List β):Prop:=∀ i j:Nat,(xs[i]? = ys[j]?∧(ys[j]?).isSome=true) ↔ (xs'[i]? = ys'[j]?∧(ys'[j]?).isSome=true)
variable {xs ys:List α} {xs' ys':List β} {alo ahi blo bhi:Nat}
theorem aBu (h:aEi xs ys xs' ys'):∀ f i j,Px xs ys ahi bhi f i j=Px xs' ys' ahi bhi f i j
 | 0,_,_=>rfl
 | f+1,i,j=>by
  unfold Px
  rw [aBu h f (i+1) (j+1)]
  by_cases q:xs[i]? = ys[j]?∧(ys[j]?).isSome=true
  ·haveI q':=(h i j).mp q
   by_cases z:i < ahi∧j < bhi
   ·rw [if_pos ⟨z.1,z.2,q⟩,if_pos ⟨z.1,z.2,q'⟩]
   ·rw [if_neg fun w=>z ⟨w.1,w.2.1⟩,if_neg fun w=>z ⟨w.1,w.2.1⟩]
  ·have q':=fun w=>q ((h i j).mpr w)
   rw [if_neg fun w=>q w.2.2,if_neg fun w=>q' w.2.2]
theorem nF (h:aEi xs ys xs' ys'):uX xs ys alo ahi blo bhi=uX xs' ys' alo ahi blo bhi:=by
 unfold uX
 haveI:(fun c:Nat×Nat=>Px xs ys ahi bhi (ahi - c.1) c.1 c.2)=fun c=>Px xs' ys' ahi bhi (ahi - c.1) c.1 c.2:=funext fun c=>aBu h _ _ _
 rw [this]
theorem aJl (h:aEi xs ys xs' ys'):flm xs ys alo ahi blo bhi=flm xs' ys' alo ahi blo bhi:=by rw [mJ,mJ,nF h]
theorem nG (h:aEi xs ys xs' ys'):∀ f alo ahi blo bhi,jR xs ys f alo ahi blo bhi=jR xs' ys' f alo ahi blo bhi
 | 0,_,_,_,_=>rfl
 | f+1,alo,ahi,blo,bhi=>by
  unfold jR
  rw [aJl h]
  dsimp only
  rw [nG h f,nG h f]
theorem xO (h:aEi xs ys xs' ys'):cut xs ys alo ahi blo bhi=cut xs' ys' alo ahi blo bhi:=nG h _ _ _ _ _
theorem mL {f:α→β} (h:∀ x∈xs,∀ y∈ys,f x=f y→x=y):aEi xs ys (xs.map f) (ys.map f):=fun i j=>by
 rw [List.getElem?_map,List.getElem?_map]
 cases q:xs[i]? <;> cases z:ys[j]? <;> simp
 exact ⟨fun e=>by rw [e],fun e=>h _ (List.mem_of_getElem? q) _ (List.mem_of_getElem? z) e⟩
end
local macro_rules (kind:=PyProof.Rows.tacticWalk_at_) | s=>Mine.drvZ s
section
variable {w:World} {mg mb:Str→Option Value} {sc:Scope} {U D:Nat} {loc:Loc} {σ:AH}
theorem aAd {k d x:Nat} {vi vb vj:AV} {R:AV→AH→Prop}
 (e1:σ.get k=some (.inst aD d)) (e2:σ.get d=some (.idict [(S "isjunk", vi),(S "a", .none),(S "b", vb),(S "autojunk", vj)]))
 (h:R .none (σ.set d (.idict [(S "isjunk", vi),(S "a", .ref x),(S "b", vb),(S "autojunk", vj),(S "matching_blocks", .none),(S "opcodes", .none)]))) :
  ClV (c1 w mg mb none) sc (U+3) (D+1) (.glob kA) [.ref k,.ref x] loc σ R:=by
 haveI hkd:k≠d:=aE e1 e2 (by intro h;cases h)
 refine en (c:=c1 w mg mb none) (scope:=aG rW) (loc₀:=[(S "self", .ref k),(S "a", .ref x)]) [S "self", S "a"] (pY w.params) (by kernel_rfl) (fun St a b=>by show _=_;kernel_rfl) ?_
 refine aH ?_
 walk_at "e"
 exact h
end
theorem xP {α:Type} [DecidableEq α] (x:α) (r:List α):∀ (l:List α) (i:Nat),bK x (l++r) i=bK x l i++bK x r (i+l.length)
 | [],i=>rfl
 | y::l,i=>by
  rw [List.cons_append]
  haveI:=xP x r l (i+1)
  rw [fV,fV,this,List.length_cons,show i+1+l.length=i+(l.length+1) by exact aFd]
  split <;> rfl
theorem jK {κ:Type} [DecidableEq κ] (x:κ) (a:AV) (y:κ):∀ loc:List (κ×AV),(put x a loc).lookup y=if y=x then some a else loc.lookup y
 | []=>by
  show List.lookup y [(x,a)]=_
  by_cases h:y=x
  ·rw [if_pos h,h,List.lookup_cons,beq_self_eq_true]
  ·rw [if_neg h,List.lookup_cons,beq_false_of_ne h]
 | (z,b)::r=>by
  rw [dS]
  by_cases h:x=z
  ·rw [if_pos h]
   by_cases q:y=x
   ·rw [if_pos q,q,List.lookup_cons,beq_self_eq_true]
   ·rw [if_neg q,List.lookup_cons,beq_false_of_ne q,List.lookup_cons,beq_false_of_ne (h▸q)]
  ·rw [if_neg h]
   by_cases q:y=z
   ·haveI:y≠x:=fun e=>h (e.symm.trans q)
    rw [if_neg this,q,List.lookup_cons,beq_self_eq_true,List.lookup_cons,beq_self_eq_true]
   ·rw [List.lookup_cons,beq_false_of_ne q,List.lookup_cons,beq_false_of_ne q,jK x a y r]
structure B2J {α:Type} [DecidableEq α] (σ:AH) (n0:Nat) (kvs:List (α×AV)) (ys:List α):Prop where
 no:∀ x,kvs.lookup x=none→bK x ys 0=[]
 yes:∀ x a,kvs.lookup x=some a→∃ l,a=.ref l∧n0≤l∧σ.get l=some (.list ((bK x ys 0).map fun i=>AV.int (i:Nat)))
 one:∀ x x' l,kvs.lookup x=some (.ref l)→kvs.lookup x'=some (.ref l)→x=x'
theorem rC {α:Type} [DecidableEq α] (x:α):∀ (l:List α) (i:Nat),(bK x l i).length≤l.length
 | [],i=>Te _
 | y::l,i=>by
  haveI:=rC x l (i+1)
  rw [fV,List.length_cons]
  split
  ·rw [List.length_cons];exact (Nat.succ_le_succ this)
  ·exact (Nat.le_succ_of_le this)
theorem aEj {α:Type} {ys:List α} {i:Nat} {e:α} (he:ys[i]? = some e):ys.take (i+1)=ys.take i++[e]:=by
 rw [List.take_add_one,he];rfl
theorem fW {α:Type} [DecidableEq α] {ys:List α} {i:Nat} {e:α} (he:ys[i]? = some e) (x:α):bK x (ys.take (i+1)) 0=bK x (ys.take i) 0++if e=x then [i] else []:=by
 haveI hi:i < ys.length:=(List.getElem?_eq_some_iff.mp he).1
 rw [aEj he,xP,List.length_take,Nat.min_eq_left (Nat.le_of_lt hi),Nat.zero_add]
 rfl
theorem B2J.old {s s':AH} {n0 i l:Nat} {α:Type} [DecidableEq α] {kvs:List (α×AV)} {ys:List α} {e:α} (hB:B2J s n0 kvs (ys.take i)) (he:ys[i]? = some e) (hq:kvs.lookup e=some (.ref l))
  (h1:s'.get l=some (.list (((bK e (ys.take i) 0).map fun i=>AV.int (i:Nat))++[.int (i:Nat)]))) (h2:∀ j o,j≠l→n0≤j→s.get j=some o→s'.get j=some o):B2J s' n0 kvs (ys.take (i+1)):=by
 refine ⟨fun x hx=>?_,fun x a hx=>?_,hB.one⟩
 ·rw [fW he,hB.no x hx,if_neg (fun q=>by rw [q,hx] at hq;cases hq)];rfl
 ·refine hid ?_;intro ZZ zz
  obtain ⟨l',rfl,hn,hg⟩:1:=hB.yes x a hx
  refine zz ?_;clear zz
  refine ⟨l',rfl,hn,?_⟩
  rw [fW he,List.map_append]
  by_cases q:e=x
  ·subst q
   rw [hq] at hx
   cases hx
   rw [if_pos rfl];exact h1
  ·rw [if_neg q,List.map_nil,List.append_nil]
   exact h2 l' _ (fun z=>q (hB.one e x l hq (z▸hx))) hn hg
theorem B2J.new {s s':AH} {n0 i l:Nat} {α:Type} [DecidableEq α] {kvs:List (α×AV)} {ys:List α} {e:α} (hB:B2J s n0 kvs (ys.take i)) (he:ys[i]? = some e) (hq:kvs.lookup e=none) (hl:n0≤l) (hl':s.nx≤l)
  (h1:s'.get l=some (.list [.int (i:Nat)])) (h2:∀ j o,j≠l→n0≤j→s.get j=some o→s'.get j=some o):B2J s' n0 (put e (.ref l) kvs) (ys.take (i+1)):=by
 have fresh:∀ x,kvs.lookup x≠some (.ref l):=fun x hx=>by
  obtain ⟨l',e',_,hg⟩:1:=hB.yes x _ hx
  cases e'
  exact Nat.lt_irrefl _ (Tc (AH.get_lt hg) hl')
 refine ⟨fun x hx=>?_,fun x a hx=>?_,fun x x' m hx hx'=>?_⟩
 ·rw [jK] at hx
  split at hx
  ·cases hx
  ·rename_i q
   rw [fW he,hB.no x hx,if_neg (Ne.symm q)];rfl
 ·rw [jK] at hx
  split at hx
  ·rename_i q
   cases hx
   refine ⟨l,rfl,hl,?_⟩
   subst q
   rw [fW he,hB.no x hq,if_pos rfl];exact h1
  ·rename_i q
   obtain ⟨l',rfl,hn,hg⟩:1:=hB.yes x a hx
   refine ⟨l',rfl,hn,?_⟩
   rw [fW he,if_neg (Ne.symm q),List.append_nil]
   exact h2 l' _ (fun z=>fresh x (z▸hx)) hn hg
 ·rw [jK] at hx hx'
  split at hx <;> split at hx'
  ·rename_i q q';rw [q,q']
  ·cases hx;exact absurd hx' (fresh x')
  ·cases hx';exact absurd hx (fresh x)
  ·exact hB.one x x' m hx hx'
theorem B2J.mono {s s':AH} {n0 n1:Nat} {α:Type} [DecidableEq α] {kvs:List (α×AV)} {ys:List α} (hB:B2J s n0 kvs ys) (hn:n1≤n0) (h2:∀ j o,n0≤j→s.get j=some o→s'.get j=some o):B2J s' n1 kvs ys :=
 ⟨hB.no,fun x a hx=>let ⟨l,e,h,hg⟩:=hB.yes x a hx;⟨l,e,Ta hn h,h2 l _ h hg⟩,hB.one⟩
theorem aBv {κ:Type} [DecidableEq κ] (x:κ) (a:AV):∀ l:List (κ×AV),(put x a l).length≤l.length+1
 | []=>Te _
 | (y,b)::l=>by
  haveI:=aBv x a l
  rw [put]
  split
  ·rw [List.length_cons,List.length_cons];lia
  ·rw [List.length_cons,List.length_cons];exact (Nat.succ_le_succ this)
section
variable {w:World} {mg mb:Str→Option Value} {sc:Scope} {U D:Nat} {loc:Loc} {σ:AH}
theorem aEk {α:Type} [DecidableEq α] {T:El α} {k d y:Nat} {as:List AV} {ys:List α} {va:AV} {R:AV→AH→Prop}
 (e1:σ.get k=some (.inst aD d)) (e2:σ.get d=some (.idict [(S "isjunk", .none),(S "a", va),(S "b", .ref y),(S "autojunk", .bool true),(S "matching_blocks", .none),(S "opcodes", .none),(S "fullbcount", .none)]))
 (e3:σ.get y=some (.list as)) (hE:All2 (T.is σ) as ys) (hy:ys.length≤100)
 (h:∀ σ' kb kj kp kvs,Ext [d] σ σ'→σ'.get d=some (.idict [(S "isjunk", .none),(S "a", va),(S "b", .ref y),(S "autojunk", .bool true),(S "matching_blocks", .none),(S "opcodes", .none),(S "fullbcount", .none),(S "b2j", .ref kb),(S "bjunk", .ref kj),(S "bpopular", .ref kp)]) →
  σ.nx≤kb→T.D σ' kb kvs→B2J σ' σ.nx kvs ys→σ'.get kj=some .eset→σ.nx≤kj→R .none σ') :
  ClV (c1 w mg mb none) sc (U+2+3) (D+1) (.glob lU) [.ref k] loc σ R:=by
 haveI hkd:k≠d:=aE e1 e2 (by intro h;cases h)
 haveI hyd:y≠d:=aE e3 e2 (by intro h;cases h)
 haveI lk:=AH.get_lt e1
 haveI ld:=AH.get_lt e2
 haveI ly:=AH.get_lt e3
 haveI hal:=hE.length
 refine en (c:=c1 w mg mb none) (scope:=aG uI) (loc₀:=[(S "self", .ref k)]) [S "self"] (rY w.params) (by kernel_rfl) (fun St a=>by show _=_;kernel_rfl) ?_
 refine aH ?_
 walk_at "e"
 refine T.new ?_
 walk_at "e"
 refine gE (fun _ _=>rfl) (aKy (fun _=>rfl) (fun _=>rfl) ⟨_,_,_,rfl⟩ ?_)
 walk_at "e"
 refine ⟨rfl,?_⟩
 haveI hnx:(σ.new T.mt).nx=σ.nx+1:=rfl
 haveI hyn:y≠σ.nx:=Nat.ne_of_lt ly
 haveI hdn:d≠σ.nx:=Nat.ne_of_lt ld
 haveI hkn:k≠σ.nx:=Nat.ne_of_lt lk
 generalize hs1:(σ.new T.mt).set d _=σ1
 haveI x1:Ext [d] σ σ1:=hs1▸(Ext.refl σ).new.set (.inl (List.mem_singleton.mpr rfl))
 haveI d1:σ1.get d=some (.idict [(S "isjunk", .none),(S "a", va),(S "b", .ref y),(S "autojunk", .bool true),(S "matching_blocks", .none),(S "opcodes", .none),(S "fullbcount", .none),(S "b2j", .ref σ.nx)]):=by
  rw [← hs1];walk_at "hget"
 haveI b1:T.D σ1 σ.nx []:=by
  rw [← hs1];exact T.keep T.d0 (Up.set (aA e2) fun ws=>nofun) fun o e _=>aC (Ne.symm hdn) e
 haveI n1:σ1.nx=σ.nx+1:=by rw [← hs1];rfl
 haveI y1:=x1.keep e3 (by simpa using hyd)
 have upd:∀ {s:AH},Ext [d] σ s→Up σ s:=fun hx=>hx.up fun j hj ws q=>by rw [Tg hj,e2] at q;cases q
 walk_at "e"
 refine ⟨y,as,rfl,y1,fun i l s=>Sub [(S "self", .ref k),(S "b", .ref y),(S "b2j", .ref σ.nx)] l∧∃ kvs,Ext [d] σ s∧σ.nx+1≤s.nx∧s.get d=some (.idict [(S "isjunk", .none),(S "a", va),(S "b", .ref y),(S "autojunk", .bool true),(S "matching_blocks", .none),(S "opcodes", .none),(S "fullbcount", .none),(S "b2j", .ref σ.nx)])∧T.D s σ.nx kvs∧B2J s (σ.nx+1) kvs (ys.take i)∧kvs.length≤i,?_,?_,?_,?_⟩
 ·exact ⟨Sub.refl _,[],x1,by lia,d1,b1,⟨fun x _=>rfl,fun x a e=>(by cases e),fun x x' l e=>(by cases e)⟩,Te _⟩
 ·rintro i l s hz3
  refine hid ?_;intro ZZ zz
  obtain ⟨_,kvs,hx,_⟩:=hz3
  refine zz ?_;clear zz
  exact hx.keep e3 (by simpa using hyd)
 ·rintro i a l s s' hi hz6 hz7
  refine hid ?_;intro ZZ zz
  obtain ⟨hsub,kvs,hx,hn,hd',hb',hB,hlen⟩:=hz6
  obtain ⟨x,hx',rfl,rfl⟩:=hz7
  haveI hi':i < ys.length:=by rw [← hal];simpa [sV] using hi
  obtain ⟨e,he,his⟩:∃ e,ys[i]? = some e∧T.is σ x e:=hE.at hx'
  refine zz ?_;clear zz
  refine gH hsub ?_
  refine As1.abs ?_;intro K₁ k₁
  haveI hyi:=List.length_take_le i ys
  haveI hpl:=rC e (ys.take i) 0
  haveI hpz:((bK e (ys.take i) 0).map fun i=>AV.int (i:Nat)).length < 2 ^ 20:=by rw [List.length_map];lia
  haveI hds:d < s.nx:=AH.get_lt hd'
  haveI hbs:σ.nx < s.nx:=Nat.lt_of_succ_le hn
  haveI u2:Up s ((s.new (.tup [.int (i:Nat),x])).new (.list [])):=Up.new.trans Up.new
  haveI hb2:T.D ((s.new (.tup [.int (i:Nat),x])).new (.list [])) σ.nx kvs:=T.keep hb' u2 fun o e _=>aA (aA e)
  haveI hd2:((s.new (.tup [.int (i:Nat),x])).new (.list [])).get d=_:=aA (aA hd')
  walk_at "e"
  refine T.gms (T.keep hb' Up.new fun o e _=>aA e) ?_
  walk_at "e"
  refine T.set (U:=U) hb2 (T.isK his ((upd hx).trans u2)) (by lia) (fun a hq=>?_) fun hq o hD2=>?_
  ·obtain ⟨l',rfl,hl,hg⟩:1:=hB.yes e a hq
   haveI hld:d≠l':=by lia
   haveI hlb:σ.nx≠l':=by exact (Nat.ne_of_lt hl)
   haveI hg2:((s.new (.tup [.int (i:Nat),x])).new (.list [])).get l'=_:=aA (aA hg)
   walk_at "e"
   refine ⟨Sub.app _ _,kvs,?_,?_,?_,?_,hB.old he hq (aF hg2) (fun j o hj _ hj'=>aC hj (aA (aA hj'))),by exact (Nat.le_succ_of_le hlen)⟩
   ·exact (hx.new.new).set (.inr (by exact (Nat.le_of_lt hl)))
   ·show σ.nx+1≤s.nx+1+1;exact (Nat.le_succ_of_le (Nat.le_succ_of_le hn))
   ·exact aC hld hd2
   ·exact T.keep hb2 (Up.set hg2 fun ws=>nofun) fun o e _=>aC hlb e
  ·haveI hnn:((s.new (.tup [.int (i:Nat),x])).nx)=s.nx+1:=rfl
   haveI hq1:s.nx+1≠σ.nx:=by exact (Nat.ne_of_gt (Nat.lt_succ_of_lt hbs))
   haveI hq2:d≠s.nx+1:=by exact (Nat.ne_of_lt (Nat.lt_succ_of_lt hds))
   haveI hdb:d≠σ.nx:=hdn
   haveI g1:(((s.new (.tup [.int (i:Nat),x])).new (.list [])).set σ.nx o).get (s.new (.tup [.int (i:Nat),x])).nx=some (.list []):=aC hq1 aB
   walk_at "e"
   refine ⟨Sub.app _ _,put e (.ref (s.nx+1)) kvs,?_,?_,?_,?_,hB.new he hq (by exact (Nat.le_succ_of_le hn)) (by lia) (aF g1) (fun j o hj hj0 hj'=>aC hj (aC (by exact (Nat.ne_of_gt hj0)) (aA (aA hj')))),Ta (aBv _ _ _) (by exact (Nat.succ_le_succ hlen))⟩
   ·exact ((hx.new.new).set (.inr (by lia))).set (.inr (by show σ.nx≤s.nx+1;exact (Nat.le_of_lt (Nat.lt_succ_of_lt hbs))))
   ·show σ.nx+1≤s.nx+1+1;exact (Nat.le_succ_of_le (Nat.le_succ_of_le hn))
   ·exact aC hq2 (aC hdb hd2)
   ·exact T.keep hD2 (Up.set g1 fun ws=>nofun) fun o e _=>aC (Ne.symm hq1) e
 ·rintro l s hz2
  refine hid ?_;intro ZZ zz
  obtain ⟨hsub,kvs,hx,hn,hd',hb',hB,hlen⟩:=hz2
  refine zz ?_;clear zz
  haveI ks:=hx.keep e1 (by simpa using hkd)
  haveI y2:=hx.keep e3 (by simpa using hyd)
  haveI hds:d < s.nx:=AH.get_lt hd'
  haveI hks:k < s.nx:=AH.get_lt ks
  refine bE hsub ?_
  walk_at "e"
  refine ⟨fun hb=>absurd (of_decide_eq_true hb) (by lia),fun _=>?_⟩
  walk_at "e"
  haveI hm:d∈[d]:=List.mem_singleton.mpr rfl
  haveI hbd:σ.nx≠d:=Ne.symm hdn
  haveI hB':B2J s (σ.nx+1) kvs ys:=by
   haveI:(sV y as).n=ys.length:=by rw [← hal];rfl
   rw [this,List.take_length] at hB
   exact hB
  haveI hsd:s.nx≠d:=by exact (Nat.ne_of_gt hds)
  haveI u3:Up s (((s.set d (.idict [(S "isjunk", .none),(S "a", va),(S "b", .ref y),(S "autojunk", .bool true),(S "matching_blocks", .none),(S "opcodes", .none),(S "fullbcount", .none),(S "b2j", .ref σ.nx)])))):=Up.set hd' fun ws=>nofun
  refine h _ σ.nx s.nx _ kvs (((hx.new.set (.inl hm)).new).set (.inl hm)) (aF (aA (aF (aA hd')))) (Te _) (T.keep hb' (((Up.new.trans (Up.set (aA hd') fun ws=>nofun)).trans Up.new).trans (Up.set (aA (aF (aA hd'))) fun ws=>nofun)) fun o e _=>aC hbd (aA (aC hbd (aA e)))) (hB'.mono (Nat.le_succ _) fun j o hj hg=>?_) (aC hsd (aA (aC hsd aB))) (by exact (Nat.le_of_lt hn))
  haveI hjd:j≠d:=by lia
  exact aC hjd (aA (aC hjd (aA hg)))
end
noncomputable def chS (line:Str) (p:Nat):Str:=match line.cps[p]? with
 | some c=>⟨#[c]⟩
 | none=>S ""
theorem tI {x:Str} {p c:Nat} (h:x.cps[p]? = some c):Txt.slice x (some (p:Int)) (some ((p:Int)+1))=⟨#[c]⟩:=by
 haveI hp:p < x.length:=(Array.getElem?_eq_some_iff.mp h).1
 haveI:=PyProof.Rows.slice_one_closes (x:=x) (n:=(p:Int)) (by exact i_0) (by exact (rK hp))
 rw [eq_of_beq this]
 simp [h]
theorem xQ (c:Nat):Txt.slice ((⟨#[c]⟩:Str)++S " ") none (some (-1))=⟨#[c]⟩:=by
 haveI e:((⟨#[c]⟩:Str)++S " ")=⟨#[c,32]⟩:=by show Str.mk (#[c]++(S " ").cps)=_;rw [show (S " ").cps=#[32] from by decide +kernel];rfl
 rw [e]
 haveI i:Builtin.Str.strSliceIndices none (some (-1)) 1 2=[0]:=by decide
 unfold Txt.slice
 rw [show (⟨#[c,32]⟩:Str).length=2 from rfl,i]
 rfl
section
variable {w:World} {mg mb:Str→Option Value} {sc:Scope} {U D:Nat} {loc:Loc} {σ:AH}
theorem aMt {n:Int} {what:Str} {R:AV→AH→Prop} (h1:-1000≤n) (h2:n≤1000) (h:R (.int n) σ):ClV (c1 w mg mb none) sc (U+3) (D+1) (.glob aLy) [.int n,.str what] loc σ R:=by
 refine en (c:=c1 w mg mb none) (scope:=aG aLz) (loc₀:=[(S "n", .int n),(S "what", .str what)]) [S "n", S "what"] (aHo w.params) (by kernel_rfl) (fun St a b=>by show _=_;kernel_rfl) ?_
 refine aH ?_
 walk_at "e"
 refine dL (by lia) ?_
 walk_at "e"
 refine dL (by lia) ?_
 walk_at "e"
 exact h
theorem aAe {k d:Nat} {line:Str} {p:Int} {R:AV→AH→Prop} (e1:σ.get k=some (.inst aJ d)) (e2:σ.get d=some (.idict [(S "_StringIO__newline", .str (S "\n")),(S "_StringIO__buf", .str line),(S "_StringIO__pos", .int p)])) (h:R .none σ):ClV (c1 w mg mb none) sc (U+3) (D+1) (.glob qA) [.ref k] loc σ R:=by
 refine en (c:=c1 w mg mb none) (scope:=aG zI) (loc₀:=[(S "self", .ref k)]) [S "self"] (wN w.params) (by kernel_rfl) (fun St a=>by show _=_;kernel_rfl) ?_
 refine aH ?_
 walk_at "e"
 exact h
theorem tJ {k d:Nat} {line:Str} {p:Nat} {R:AV→AH→Prop} (e1:σ.get k=some (.inst aJ d)) (e2:σ.get d=some (.idict [(S "_StringIO__newline", .str (S "\n")),(S "_StringIO__buf", .str line),(S "_StringIO__pos", .int p)])) (hl:line.length≤5000)
 (h:∀ σ',Ext [d] σ σ'→σ'.get d=some (.idict [(S "_StringIO__newline", .str (S "\n")),(S "_StringIO__buf", .str line),(S "_StringIO__pos", .int (if p < line.length then p+1 else p:Nat))])→R (.str (chS line p)) σ'):ClV (c1 w mg mb none) sc (U+3+3) (D+1+1) (.glob tA) [.ref k,.int 1] loc σ R:=by
 haveI hkd:k≠d:=aE e1 e2 (by intro h;cases h)
 refine en (c:=c1 w mg mb none) (scope:=aG aDm) (loc₀:=[(S "self", .ref k),(S "size", .int 1)]) [S "self", S "size"] (zJ w.params) (by kernel_rfl) (fun St a b=>by show _=_;kernel_rfl) ?_
 refine aH ?_
 walk_at "e"
 refine aMt (by lia) (by exact (aOx (Tb rfl))) ?_
 walk_at "e"
 refine aAe e1 e2 ?_
 walk_at "e"
 by_cases hp:p < line.length
 ·refine hid ?_;intro ZZ zz
  obtain ⟨c,hc⟩:∃ c,line.cps[p]? = some c:=⟨_,Array.getElem?_eq_getElem (show p < line.cps.size from hp)⟩
  refine zz ?_;clear zz
  refine dL (by exact (aNl (Nat.not_le_of_lt hp))) ?_
  rw [if_pos hp] at h
  haveI hch:chS line p=⟨#[c]⟩:=by unfold chS;rw [hc]
  rw [hch] at h
  walk_at "e"
  try refine dU (by decide) ?_
  walk_at "e"
  by_cases hq:p+1 < line.length
  ·refine dU (by lia) ?_
   walk_at "e"
   rw [tI hc]
   refine gK (by show 1+(S " ").length≤_;decide +kernel) ?_
   walk_at "e"
   refine iJ aB .none (.int _) (by show (#[c]++(S " ").cps).size≤_;rw [show (S " ").cps=#[32] from by decide +kernel];simp) ?_ (fun _ _=>by kernel_rfl)
   rw [xQ]
   walk_at "e"
   exact h _ ((((Ext.refl σ).set (.inl (List.mem_singleton.mpr rfl))).new).new) (aA (aA (aF e2)))
  ·refine dL (by lia) ?_
   walk_at "e"
   rw [show (line.length:Int)=(p:Int)+1 by lia,tI hc]
   refine gK (by show 1+(S " ").length≤_;decide +kernel) ?_
   walk_at "e"
   refine iJ aB .none (.int _) (by show (#[c]++(S " ").cps).size≤_;rw [show (S " ").cps=#[32] from by decide +kernel];simp) ?_ (fun _ _=>by kernel_rfl)
   rw [xQ]
   walk_at "e"
   exact h _ ((((Ext.refl σ).set (.inl (List.mem_singleton.mpr rfl))).new).new) (aA (aA (aF e2)))
 ·refine dU (by exact (aOx (Nat.le_of_not_lt hp))) ?_
  walk_at "e"
  haveI hch:chS line p=S "" := by unfold chS;rw [Array.getElem?_eq_none (by show line.length≤p;exact (Nat.le_of_not_lt hp))]
  rw [hch,if_neg hp] at h
  exact h σ (Ext.refl _) e2
end
theorem lr3 {ρ:Nat→Addr} {n:Nat} {x y z:Str} {a b d:AV} {u v t:Value} (h1:x≠y) (h2:x≠z) (h3:y≠z) (ha:VR ρ n a u) (hb:VR ρ n b v) (hd:VR ρ n d t):LR ρ n [(x,a),(y,b),(z,d)] (fun k=>[(x,u),(y,v),(z,t)].reverse.lookup k):=by
 intro k a' e
 show ∃ w,[(z,t),(y,v),(x,u)].lookup k=some w∧_
 simp only [List.lookup_cons,List.lookup_nil] at e ⊢
 by_cases c1:k=x
 ·subst c1
  simp only [beq_self_eq_true,beq_false_of_ne h2,beq_false_of_ne h1] at e ⊢
  cases e;exact ⟨u,rfl,ha⟩
 ·by_cases c2:k=y
  ·subst c2
   simp only [beq_self_eq_true,beq_false_of_ne h3,beq_false_of_ne c1] at e ⊢
   cases e;exact ⟨v,rfl,hb⟩
  ·by_cases c3:k=z
   ·subst c3
    simp only [beq_self_eq_true,beq_false_of_ne c1,beq_false_of_ne c2] at e ⊢
    cases e;exact ⟨t,rfl,hd⟩
   ·simp only [beq_false_of_ne c1,beq_false_of_ne c2,beq_false_of_ne c3] at e
    cases e
section
variable {w:World} {mg mb:Str→Option Value} {sc:Scope} {U D:Nat} {loc:Loc} {σ:AH}
theorem oM {k d:Nat} {x:Str} {R:AV→AH→Prop} (e1:σ.get k=some (.inst aJ d)) (e2:σ.get d=some (.idict [(S "_StringIO__newline", .str (S "\n")),(S "_StringIO__buf", .str (S "")),(S "_StringIO__pos", .int 0)])) (h:R (.str x) σ):ClV (c1 w mg mb none) sc (U+3) (D+1) (.glob gV) [.ref k,.str x] loc σ R:=by
 refine en (c:=c1 w mg mb none) (scope:=aG nW) (loc₀:=[(S "self", .ref k),(S "s", .str x)]) [S "self", S "s"] (mY w.params) (by kernel_rfl) (fun St a b=>by show _=_;kernel_rfl) ?_
 refine aH ?_
 walk_at "e"
 exact h
theorem aEl {k d:Nat} {x:Str} {R:AV→AH→Prop} (e1:σ.get k=some (.inst aJ d)) (e2:σ.get d=some (.idict []))
 (h:∀ σ',Ext [d] σ σ'→σ'.get d=some (.idict [(S "_StringIO__newline", .str (S "\n")),(S "_StringIO__buf", .str x),(S "_StringIO__pos", .int 0)])→R .none σ'):CdV (c1 w mg mb none) sc (U+3+3) (D+1+1) (.glob sZ) [.ref k,.str x] [] loc σ R:=by
 haveI hkd:k≠d:=aE e1 e2 (by intro h;cases h)
 refine eW (c:=c1 w mg mb none) (scope:=aG aDl) (loc₀:=[(S "self", .ref k),(S "initial_value", .str x),(S "newline", .str (S "\n"))]) (zH w.params) (by kernel_rfl)
  (bG [S "self", S "initial_value", S "newline"] [.str (S "\n")] [.str (S "\n") 1137] (fun _ _=>.cons (.str _ _) .nil) (fun vs s hX hl=>by obtain ⟨a,b⟩:=vs2 hl;exact kp_binds hX (fun St=>by kernel_rfl)) (by kernel_rfl) rfl (by kernel_rfl)) (by kernel_rfl) ?_
 refine aH ?_
 walk_at "e"
 haveI hm:d∈[d]:=List.mem_singleton.mpr rfl
 refine oM (d:=d) (by walk_at "hget") (by walk_at "hget") ?_
 walk_at "e"
 exact h _ ((Ext.refl σ).set (.inl hm)) (by walk_at "hget")
theorem aJm {x:Str} {R:AV→AH→Prop} (h:R (.ref (σ.nx+1+1+1)) ((((σ.new (.tup [.str x])).new (.idict [])).new (.idict [])).new (.inst aJ (σ.nx+1+1)))):CdV (c1 w mg mb none) sc (U+3) (D+1) (.glob lV) [.glob aJ,.str x] [] loc σ R:=fun A env L h₀ fm ρ X s Rr fv vs kvs S0 hfv hv hk K=>by
 cases hfv
 cases hk
 refine hid ?_;intro ZZ zz
 obtain ⟨v1,v2,hv1,hv2⟩:=fE hv
 refine zz ?_;clear zz
 cases hv1
 cases hv2 with
 | str tk =>
 refine aDe (c:=c1 w mg mb none) (scope:=aG bJ) (loc₀:=[(S "cls", .glob aJ),(S "args", .ref σ.nx),(S "kwargs", .ref (σ.nx+1))]) (σ₁:=(σ.new (.tup [.str x])).new (.idict [])) (R:=R) (rZ w.params) (by kernel_rfl) ?_ (by kernel_rfl) (by kernel_rfl) (by kernel_rfl) (fP (by kernel_rfl)) ⟨rfl,rfl⟩ fm S0 ?_ K
 ·refine aH ?_
  walk_at "e"
  refine pU (a:=aJ) (b:=575) (oa:=aQd) (ob:=aPy) (by decide) (by kernel_rfl) (by kernel_rfl) (by intro z;exact absurd (Value.type.inj z) (by decide)) ?_
  walk_at "e"
  refine tU (id := "object.__new__") (by kernel_rfl) (by decide +kernel) (by kernel_rfl) (by kernel_rfl) ?_
  walk_at "e"
  refine zD (C0:=aJ) (C1:=345) (C2:=318) (by kernel_rfl) (by kernel_rfl) (by kernel_rfl) (by kernel_rfl) ?_
  walk_at "e"
  exact h
 ·intro Q E hQ
  haveI e:bindArgs (fnX (S "__new__") (S "IOBase.__new__") (bB bJ) (lT (cH bd bJ)) (aG bJ) [] .none .none .none (.str (S "io") 752) none (.ref 314) .none) ⟨[.ref aJ,.str x tk],[]⟩=(newTuple [.str x tk] >>= fun t=>alloc { cls:=.type "dict", data:=.dict #[] } >>= fun d=>pure [(S "cls", .ref aJ),(S "args", t),(S "kwargs", .ref d)]):=by kernel_rfl
  show wpAny _ _ (bindArgs (fnX (S "__new__") (S "IOBase.__new__") (bB bJ) (lT (cH bd bJ)) (aG bJ) [] .none .none .none (.str (S "io") 752) none (.ref 314) .none) ⟨[.ref aJ,.str x tk],[]⟩) Q E s
  rw [e]
  haveI S1:=S0.allocN (a:=.tup [.str x]) (o:={ cls:=.type "tuple", data:=.seq [Value.str x tk].toArray 0 }) (.tup _ _ 0 (.cons (.str _ _) .nil)) rfl s.toks
  haveI S2:=S1.allocN (a:=.idict []) (o:=emptyDict) (.idict [] [] 0 .nil) rfl s.toks
  refine wpAny_bind (wpAny_newTuple ?_ (by show 1≤_;rw [sizeLine_eq];exact (Tb rfl)))
  refine wpAny_bind (wpAny_alloc (wpAny_pure ?_))
  haveI g1:Agree ρ (ext ρ σ.nx s.heap.objs.size) σ.nx:=aK _ _ _
  haveI hz:(s.heap.push { cls:=.type "tuple", data:=.seq [Value.str x tk].toArray 0 }).objs.size=s.heap.objs.size+1:=Heap.size_push _ _
  haveI g2:Agree (ext ρ σ.nx s.heap.objs.size) (ext (ext ρ σ.nx s.heap.objs.size) (σ.nx+1) (s.heap.push { cls:=.type "tuple", data:=.seq [Value.str x tk].toArray 0 }).objs.size) (σ.nx+1):=aK _ _ _
  haveI v1:VR (ext ρ σ.nx s.heap.objs.size) (σ.nx+1) (.ref σ.nx) (.ref s.heap.objs.size):=bA
  haveI v2:=bA (ρ:=ext ρ σ.nx s.heap.objs.size) (n:=σ.nx+1) (l:=(s.heap.push { cls:=.type "tuple", data:=.seq [Value.str x tk].toArray 0 }).objs.size)
  refine hQ _ _ _ (by show σ.nx≤σ.nx+1+1;lia) (g1.trans (Nat.le_succ _) g2) S2 ⟨rfl,.refl _,rfl⟩ ?_ ?_
  ·intro y hy
   rcases Tf hy with rfl | hy
   ·kernel_rfl
   rcases Tf hy with rfl | hy
   ·kernel_rfl
   rcases Tf hy with rfl | hy
   ·kernel_rfl
   ·exact nomatch hy
  ·haveI v1':=v1.mono (Nat.le_succ _) g2
   refine lr3 (by decide +kernel) (by decide +kernel) (by decide +kernel) (.glob _) v1' v2
end
theorem tK {c:Cx} {fd:FuncData} {sc:Scope} {args:List AV} {kw:List (Str×AV)} (xs:List Str) (avs:List AV) (g:List Value→List Value→List Value) (hv:∀ ρ n vs kvs,VRs ρ n args vs→VRs ρ n (kw.map (·.2)) kvs→VRs ρ n avs (g vs kvs))
  (hb:∀ (vs kvs:List Value) (s:Shared),c.K.In s.heap→vs.length=args.length→kvs.length=kw.length→BindsTo s fd ⟨vs,(kw.map (·.1)).zip kvs⟩ (xs.zip (g vs kvs)))
  (hl:(xs.all fun y=>sc.names.lookup y==some .local)=true) (hn:xs.length=avs.length) (nd:decide xs.Nodup=true):lM c fd sc args kw (xs.zip avs):=by
 intro ρ n vs kvs s hX h1 h2
 haveI e1:=h1.length
 haveI e2:=h2.length
 rw [List.length_map] at e2
 refine ⟨xs.zip (g vs kvs),hb vs kvs s hX e1.symm e2.symm,fun y hy=>?_,?_⟩
 ·obtain ⟨a,b⟩:=y
  exact beq_iff_eq.mp (List.all_eq_true.mp hl a (List.of_mem_zip hy).1)
 ·haveI nd:=of_decide_eq_true nd
  haveI h3:=hv ρ n vs kvs h1 h2
  intro x a e
  obtain ⟨v,q1,q2⟩:1:=aFs nd hn h3 x a e
  exact ⟨v,(dT nd (hn.trans h3.length) x).trans q1,q2⟩
noncomputable abbrev WC:Str:=S "abcdfeghijklmnopqrstuvwxyzABCDEFGHIJKLMNOPQRSTUVWXYZ0123456789_" ++ S "ßàáâãäåæçèéêëìíîïðñòóôõöøùúûüýþÿÀÁÂÃÄÅÆÇÈÉÊËÌÍÎÏÐÑÒÓÔÕÖØÙÚÛÜÝÞ"
noncomputable abbrev rD (io pb fs:Nat) (ws:Bool) (cm:Str) (st:AV) (tok:Str):List (Str×AV) :=
 [(S "instream", .ref io),(S "infile", .none),(S "posix", .bool true),(S "eof", .none),(S "commenters", .str cm),(S "wordchars", .str WC),(S "whitespace", .str (S " \t\r\n")),(S "whitespace_split", .bool ws),(S "quotes", .str (S "'\"")),(S "escape", .str (S "\\")),(S "escapedquotes", .str (S "\"")),(S "state", st),(S "pushback", .ref pb),(S "lineno", .int 1),(S "debug", .int 0),(S "token", .str tok),(S "filestack", .ref fs),(S "source", .none),(S "_punctuation_chars", .str (S ""))]
section
variable {w:World} {mg mb:Str→Option Value} {sc:Scope} {U D:Nat} {loc:Loc} {σ:AH}
theorem aAf {x:Str} {R:AV→AH→Prop} (h:∀ σ' m d,Ext [] σ σ'→σ.nx≤m→σ.nx≤d→σ'.get m=some (.inst aJ d)→σ'.get d=some (.idict [(S "_StringIO__newline", .str (S "\n")),(S "_StringIO__buf", .str x),(S "_StringIO__pos", .int 0)])→R (.ref m) σ'):CdV (c1 w mg mb none) sc (U+3+3+3) (D+1+1+1) (.glob aJ) [.str x] [] loc σ R:=by
 refine zE (c:=c1 w mg mb none) (C:=aJ) (fN:=lV) (fI:=sZ) (p:=319) (mc:=.type "type") (rest:=[]) (by kernel_rfl!) (by kernel_rfl!) (by kernel_rfl!) (by kernel_rfl!) (by kernel_rfl!) (by kernel_rfl!) (by kernel_rfl!) ?_
 refine aJm ⟨_,_,[],rfl,aB,aA aB,?_⟩
 refine aEl aB (aA aB) fun s1 h1 g1=>⟨rfl,?_⟩
 haveI gi:s1.get (σ.nx+1+1+1)=some (.inst aJ (σ.nx+1+1)):=h1.keep aB (by simp)
 refine h s1 _ _ ?_ ?_ ?_ gi g1
 ·exact ((((Ext.refl (ch:=[]) σ).new.new.new.new.mono fun j (hj:j∈[])=>(nomatch hj)).trans h1)).mono fun j hj=>.inr (by rw [Tg hj];show σ.nx≤σ.nx+1+1;lia)
 ·show σ.nx≤σ.nx+1+1+1;lia
 ·show σ.nx≤σ.nx+1+1;lia
theorem aEm {k d:Nat} {x:Str} {R:AV→AH→Prop} (e1:σ.get k=some (.inst aI d)) (e2:σ.get d=some (.idict []))
 (h:∀ σ' io iod pb fs,Ext [d] σ σ'→σ.nx≤io→σ.nx≤iod→σ'.get d=some (.idict (rD io pb fs false (S "#") (.str (S " ")) (S "")))→σ'.get io=some (.inst aJ iod)→σ'.get iod=some (.idict [(S "_StringIO__newline", .str (S "\n")),(S "_StringIO__buf", .str x),(S "_StringIO__pos", .int 0)]) →
  σ'.get pb=some (.flds "collections.deque" [.none,.int 0])→σ'.get fs=some (.flds "collections.deque" [.none,.int 0])→R .none σ'):CdV (c1 w mg mb none) sc (U+3+3+3+3) (D+1+1+1+1) (.glob tB) [.ref k,.str x] [(S "posix", .bool true)] loc σ R:=by
 haveI hkd:k≠d:=aE e1 e2 (by intro h;cases h)
 refine eW (c:=c1 w mg mb none) (scope:=aG aDn) (loc₀:=[(S "self", .ref k),(S "instream", .str x),(S "infile", .none),(S "posix", .bool true),(S "punctuation_chars", .bool false)]) (zK w.params) (by kernel_rfl)
  (tK [S "self", S "instream", S "infile", S "posix", S "punctuation_chars"] [.ref k,.str x,.none,.bool true,.bool false] (fun vs kvs=>[vs.getD 0 .none,vs.getD 1 .none,.none,kvs.getD 0 .none,.bool false])
   (fun ρ n vs kvs h1 h2=>by obtain ⟨a,b,p,q⟩:=fE h1;obtain ⟨t,r⟩:=hY h2;exact .cons p (.cons q (.cons .none (.cons r (.cons (.bool _) .nil)))))
   (fun vs kvs s hX h1 h2=>by obtain ⟨a,b⟩:=vs2 h1;obtain ⟨t⟩:=vs1 h2;exact kp_binds hX (fun St=>by kernel_rfl)) (by kernel_rfl) rfl (by kernel_rfl)) (by kernel_rfl) ?_
 refine aH ?_
 walk_at "e"
 refine yO (aAf fun s1 m1 d1 h1 hm1 hd1 g1 g1'=>?_)
 haveI f1:=h1.keep e1 (by simp)
 haveI f2:=h1.keep e2 (by simp)
 walk_at "e"
 haveI hdl:=AH.get_lt e2
 haveI q1:m1≠d:=by exact (Nat.ne_of_gt (Tc hdl hm1))
 haveI q2:d1≠d:=by exact (Nat.ne_of_gt (Tc hdl hd1))
 haveI q3:s1.nx≠d:=by haveI:=h1.nx;exact (Nat.ne_of_gt (Tc hdl this))
 haveI q4:s1.nx+1≠d:=by haveI:=h1.nx;lia
 haveI hm:d∈[d]:=List.mem_singleton.mpr rfl
 refine h _ m1 d1 s1.nx (s1.nx+1) ?_ hm1 hd1 ?_ (by walk_at "hget") (by walk_at "hget") ?_ ?_
 ·exact ((((((h1.mono fun j (hj:j∈[])=>(nomatch hj)).set (.inl hm)).new).set (.inl hm)).new).set (.inl hm))
 ·have key:∀ {a:AH} {o p:AO},a.get d=some p→(a.set d o).get d=some o:=fun h=>aF h
  exact key (aA (aF (aA (aF f2))))
 ·exact aC q3 (aA (aC q3 aB))
 ·exact aC q4 aB
end
inductive Md where | sp | wd | q1 | q2
noncomputable def mdS:Md→Str
 | .sp=>S " "
 | .wd=>S "a"
 | .q1=>S "'"
 | .q2=>S "\""
noncomputable def wch (c:Nat):Bool:=(decide (97≤c)&&decide (c≤122))||(decide (48≤c)&&decide (c≤57))
noncomputable def rt:List Nat→Md→List Nat→Bool→Option (List Nat×List Nat×Bool)
 | [],.wd,tok,q=>if tok.isEmpty=true∧q=false then none else some (tok,[],true)
 | [],_,_,_=>none
 | c::r,.sp,tok,q=>if c=39 then rt r .q1 tok q else if c=34 then rt r .q2 tok q else if c=32 then (if tok.isEmpty=true∧q=false then rt r .sp tok q else none) else if wch c=true then rt r .wd [c] q else none
 | c::r,.wd,tok,q=>if c=32 then (if tok.isEmpty=true∧q=false then none else some (tok,r,false)) else if c=39 then rt r .q1 tok q else if c=34 then rt r .q2 tok q else if wch c=true then rt r .wd (tok++[c]) q else none
 | c::r,.q1,tok,q=>if c=39 then rt r .wd tok true else if c=32∨c=34∨wch c=true then rt r .q1 (tok++[c]) true else none
 | c::r,.q2,tok,q=>if c=34 then rt r .wd tok true else if c=39 then rt r .q2 (tok++[c]) true else none
theorem cD:∀ c:Nat,wch c=true→((⟨#[c]⟩:Str)==S "\n")=false∧inS ⟨#[c]⟩ (S " \t\r\n")=false∧inS ⟨#[c]⟩ (S "")=false∧inS ⟨#[c]⟩ (S "\\")=false∧inS ⟨#[c]⟩ WC=true∧inS ⟨#[c]⟩ (S "'\"")=false:=by
 have h:∀ c:Fin 123,wch c.1=true→((⟨#[c.1]⟩:Str)==S "\n")=false∧inS ⟨#[c.1]⟩ (S " \t\r\n")=false∧inS ⟨#[c.1]⟩ (S "")=false∧inS ⟨#[c.1]⟩ (S "\\")=false∧inS ⟨#[c.1]⟩ WC=true∧inS ⟨#[c.1]⟩ (S "'\"")=false:=by decide +kernel
 intro c hc
 haveI hlt:c < 123:=by unfold wch at hc;simp at hc;lia
 exact h ⟨c,hlt⟩ hc
section
variable {w:World} {mg mb:Str→Option Value} {sc:Scope} {U D:Nat} {loc:Loc} {σ:AH}
theorem aAg {k d io pb fs:Nat} {ws:Bool} {cm tok:Str} {st:AV} {R:AV→AH→Prop} (e1:σ.get k=some (.inst aI d)) (e2:σ.get d=some (.idict (rD io pb fs ws cm st tok))) (h:R (.str (S "")) σ):CdV (c1 w mg mb none) sc (U+3) (D+1) (.glob cJ) [.ref k] [] loc σ R:=by
 refine eW (c:=c1 w mg mb none) (scope:=aG gM) (loc₀:=[(S "self", .ref k)]) (fT w.params) (by kernel_rfl)
  (bG [S "self"] [] [] eV (fun vs s hX hl=>by obtain ⟨a⟩:=vs1 hl;exact kp_binds hX (fun St=>by kernel_rfl)) (by kernel_rfl) rfl (by kernel_rfl)) (by kernel_rfl) ?_
 refine aH ?_
 walk_at "e"
 exact h
theorem mM {k d io pb fs:Nat} {ws:Bool} {cm tok:Str} {st:AV} {R:AV→AH→Prop} (e1:σ.get k=some (.inst aI d)) (e2:σ.get d=some (.idict (rD io pb fs ws cm st tok))) (h:R (.str (S "")) σ):GtA (c1 w mg mb none) sc (U+3+1) (D+1) (.ref k) (S "punctuation_chars") loc σ R :=
 aLn (p:=889) (fget:=cJ) (rest:=[.none,.none,.none,.str (S "punctuation_chars") 1504,.bool false]) e1 e2 (aV _ _ _ _ _) (aW _ _ _ _) (by kernel_rfl) (by kernel_rfl) (by kernel_rfl) (by kernel_rfl) (aAg e1 e2 ⟨rfl,h⟩)
structure LX (σ s:AH) (k d io iod pb fs:Nat) (line:Str) (st:AV) (tok:Str) (p:Nat):Prop where
 ext:Ext [d,iod] σ s
 k:s.get k=some (.inst aI d)
 d:s.get d=some (.idict (rD io pb fs true (S "") st tok))
 io:s.get io=some (.inst aJ iod)
 iod:s.get iod=some (.idict [(S "_StringIO__newline", .str (S "\n")),(S "_StringIO__buf", .str line),(S "_StringIO__pos", .int p)])
 pb:s.get pb=some (.flds "collections.deque" [.none,.int 0])
 fs:s.get fs=some (.flds "collections.deque" [.none,.int 0])
theorem LX.st {σ s:AH} {k d io iod pb fs:Nat} {line:Str} {st:AV} {tok:Str} {p:Nat} (H:LX σ s k d io iod pb fs line st tok p) (st':AV) (tok':Str):LX σ (s.set d (.idict (rD io pb fs true (S "") st' tok'))) k d io iod pb fs line st' tok' p :=
 ⟨H.ext.set (.inl (.head _)),aC (aE H.k H.d (by intro h;cases h)) H.k,aF H.d,aC (aE H.io H.d (by intro h;cases h)) H.io,
  aC (aE H.iod H.d (by intro h;injection h with h;exact absurd (congrArg List.length h) (by show ¬ (3=19);decide))) H.iod,aC (aE H.pb H.d (by intro h;cases h)) H.pb,aC (aE H.fs H.d (by intro h;cases h)) H.fs⟩
theorem LX.new {σ s:AH} {k d io iod pb fs:Nat} {line:Str} {st:AV} {tok:Str} {p:Nat} {o:AO} (H:LX σ s k d io iod pb fs line st tok p):LX σ (s.new o) k d io iod pb fs line st tok p :=
 ⟨H.ext.new,aA H.k,aA H.d,aA H.io,aA H.iod,aA H.pb,aA H.fs⟩
theorem aAh (tok:List Nat) (c:Nat):((⟨tok.toArray⟩:Str)++(⟨#[c]⟩:Str))=⟨(tok++[c]).toArray⟩:=by
 show Str.mk (tok.toArray++#[c])=_
 simp
theorem xR {α β γ:Type} {a a':α} {b b':β} {c c':γ} (h:some (a,b,c)=some (a',b',c')):a=a'∧b=b'∧c=c':=by cases h;exact ⟨rfl,rfl,rfl⟩
theorem cL {α:Type} {a:α} {P:Prop} (h:none=some a):P:=nomatch h
section
variable {c:Nat} {r tok:List Nat} {q:Bool} {x:List Nat×List Nat×Bool}
noncomputable abbrev ch (c:Nat):Str:=⟨#[c]⟩
theorem aJn (h:c=39):inS (ch c) WC=false∧inS (ch c) (S "'\"")=true∧inS (ch c) (S " \t\r\n")=false:=by subst h;decide +kernel
theorem aYn (h:c=32):inS (ch c) (S " \t\r\n")=true:=by subst h;decide +kernel
theorem chF (h:c=32∨c=34∨c=39∨wch c=true):(ch c==S "\n")=false∧inS (ch c) (S "")=false∧inS (ch c) (S "\\")=false:=by
 rcases h with rfl | rfl | rfl | h
 ·decide +kernel
 ·decide +kernel
 ·decide +kernel
 ·exact ⟨(cD c h).1,(cD c h).2.2.1,(cD c h).2.2.2.1⟩
theorem chQ {d:Nat} (h:c≠d):(ch c==ch d)=false:=beq_eq_false_iff_ne.mpr fun z=>h (by simpa using congrArg Str.cps z)
theorem aSb {m:Md} (h:rt (c::r) m tok q=some x):c=32∨c=34∨c=39∨wch c=true:=Decidable.byContradiction fun z=>by
 simp only [not_or] at z
 cases m with
 | sp =>
  change (if c=39 then rt r .q1 tok q else if c=34 then rt r .q2 tok q else if c=32 then (if tok.isEmpty=true∧q=false then rt r .sp tok q else none) else if wch c=true then rt r .wd [c] q else none)=_ at h
  rw [if_neg z.2.2.1,if_neg z.2.1,if_neg z.1,if_neg z.2.2.2] at h;exact cL h
 | wd =>
  change (if c=32 then (if tok.isEmpty=true∧q=false then none else some (tok,r,false)) else if c=39 then rt r .q1 tok q else if c=34 then rt r .q2 tok q else if wch c=true then rt r .wd (tok++[c]) q else none)=_ at h
  rw [if_neg z.1,if_neg z.2.2.1,if_neg z.2.1,if_neg z.2.2.2] at h;exact cL h
 | q1 =>
  change (if c=39 then rt r .wd tok true else if c=32∨c=34∨wch c=true then rt r .q1 (tok++[c]) true else none)=_ at h
  rw [if_neg z.2.2.1,if_neg fun y=>y.elim z.1 fun y=>y.elim z.2.1 z.2.2.2] at h;exact cL h
 | q2 =>
  change (if c=34 then rt r .wd tok true else if c=39 then rt r .q2 (tok++[c]) true else none)=_ at h
  rw [if_neg z.2.1,if_neg z.2.2.1] at h;exact cL h
theorem aSc (h:c=34):inS (ch c) WC=false∧inS (ch c) (S "'\"")=true∧inS (ch c) (S " \t\r\n")=false:=by subst h;decide +kernel
theorem aYo (h:rt (c::r) .sp tok q=some x):(c=32∧tok=[]∧q=false∧rt r .sp [] false=some x)∨(inS (ch c) (S " \t\r\n")=false∧((c=39∧rt r .q1 tok q=some x)∨(c=34∧rt r .q2 tok q=some x)∨(wch c=true∧rt r .wd [c] q=some x))):=by
 change (if c=39 then rt r .q1 tok q else if c=34 then rt r .q2 tok q else if c=32 then (if tok.isEmpty=true∧q=false then rt r .sp tok q else none) else if wch c=true then rt r .wd [c] q else none)=_ at h
 by_cases a:c=39
 ·exact .inr ⟨(aJn a).2.2,.inl ⟨a,by rw [if_pos a] at h;exact h⟩⟩
 rw [if_neg a] at h
 by_cases d:c=34
 ·exact .inr ⟨(aSc d).2.2,.inr (.inl ⟨d,by rw [if_pos d] at h;exact h⟩)⟩
 rw [if_neg d] at h
 by_cases e:c=32
 ·rw [if_pos e] at h
  by_cases z:tok.isEmpty=true∧q=false
  ·rw [if_pos z] at h
   haveI z1:tok=[]:=List.isEmpty_iff.mp z.1
   haveI z2:=z.2
   subst z1 z2
   exact .inl ⟨e,rfl,rfl,h⟩
  ·rw [if_neg z] at h;exact cL h
 rw [if_neg e] at h
 by_cases b:wch c=true
 ·exact .inr ⟨(cD c b).2.1,.inr (.inr ⟨b,by rw [if_pos b] at h;exact h⟩)⟩
 ·rw [if_neg b] at h;exact cL h
theorem aYp (h:rt (c::r) .wd tok q=some x):(c=32∧(tok.isEmpty=true→q=true)∧(tok,r,false)=x)∨(inS (ch c) (S " \t\r\n")=false∧((inS (ch c) (S "'\"")=true∧((c=39∧rt r .q1 tok q=some x)∨(c=34∧rt r .q2 tok q=some x)))∨(inS (ch c) (S "'\"")=false∧inS (ch c) WC=true∧rt r .wd (tok++[c]) q=some x))):=by
 change (if c=32 then (if tok.isEmpty=true∧q=false then none else some (tok,r,false)) else if c=39 then rt r .q1 tok q else if c=34 then rt r .q2 tok q else if wch c=true then rt r .wd (tok++[c]) q else none)=_ at h
 by_cases a:c=32
 ·rw [if_pos a] at h
  by_cases z:tok.isEmpty=true∧q=false
  ·rw [if_pos z] at h;exact cL h
  ·rw [if_neg z] at h
   exact .inl ⟨a,fun z1=>eq_true_of_ne_false fun z2=>z ⟨z1,z2⟩,Option.some.inj h⟩
 rw [if_neg a] at h
 by_cases b:c=39
 ·rw [if_pos b] at h
  exact .inr ⟨(aJn b).2.2,.inl ⟨(aJn b).2.1,.inl ⟨b,h⟩⟩⟩
 rw [if_neg b] at h
 by_cases d:c=34
 ·rw [if_pos d] at h
  exact .inr ⟨by subst d;decide +kernel,.inl ⟨by subst d;decide +kernel,.inr ⟨d,h⟩⟩⟩
 rw [if_neg d] at h
 by_cases e:wch c=true
 ·rw [if_pos e] at h
  exact .inr ⟨(cD c e).2.1,.inr ⟨(cD c e).2.2.2.2.2,(cD c e).2.2.2.2.1,h⟩⟩
 ·rw [if_neg e] at h;exact cL h
theorem aYq (h:rt (c::r) .q1 tok q=some x):((ch c==S "'")=true∧rt r .wd tok true=some x)∨((ch c==S "'")=false∧rt r .q1 (tok++[c]) true=some x):=by
 change (if c=39 then rt r .wd tok true else if c=32∨c=34∨wch c=true then rt r .q1 (tok++[c]) true else none)=_ at h
 by_cases a:c=39
 ·exact .inl ⟨by subst a;decide +kernel,by rw [if_pos a] at h;exact h⟩
 ·rw [if_neg a] at h
  by_cases b:c=32∨c=34∨wch c=true
  ·exact .inr ⟨chQ a,by rw [if_pos b] at h;exact h⟩
  ·rw [if_neg b] at h;exact cL h
theorem aYr (h:rt (c::r) .q2 tok q=some x):((ch c==S "\"")=true∧rt r .wd tok true=some x)∨((ch c==S "\"")=false∧rt r .q2 (tok++[c]) true=some x):=by
 change (if c=34 then rt r .wd tok true else if c=39 then rt r .q2 (tok++[c]) true else none)=_ at h
 by_cases a:c=34
 ·exact .inl ⟨by subst a;decide +kernel,by rw [if_pos a] at h;exact h⟩
 ·rw [if_neg a] at h
  by_cases b:c=39
  ·exact .inr ⟨chQ a,by rw [if_pos b] at h;exact h⟩
  ·rw [if_neg b] at h;exact cL h
end
theorem uZ {k d io iod pb fs:Nat} {line:Str} {p:Nat} {T rest:List Nat} {eof:Bool} {σ0:AH} {R:AV→AH→Prop} (H:LX σ0 σ k d io iod pb fs line (.str (S " ")) (S "") p) (hl:line.length≤5000) (hp:p≤line.length)
 (hr:rt (line.cps.toList.drop p) .sp [] false=some (T,rest,eof)) (h:∀ s,LX σ0 s k d io iod pb fs line (if eof then .none else .str (S " ")) (S "") (line.length - rest.length)→R (.str ⟨T.toArray⟩) s):ClV (c1 w mg mb none) sc (U+3+3+3) (D+1+1+1) (.glob dF) [.ref k] loc σ R:=by
 refine en (c:=c1 w mg mb none) (scope:=aG gX) (loc₀:=[(S "self", .ref k)]) [S "self"] (fU w.params) (by kernel_rfl) (fun St a=>by show _=_;kernel_rfl) ?_
 refine aH ?_
 walk_at "e"
 refine cT (fun l s=>∃ q,Sub [(S "self", .ref k),(S "quoted", .bool q)] l∧LX σ0 s k d io iod pb fs line (if eof then .none else .str (S " ")) ⟨T.toArray⟩ (line.length - rest.length)∧(T.isEmpty=true→q=true)) ?_ ?_
 ·refine cR (fun n l s=>∃ m tok q p,Sub [(S "self", .ref k),(S "quoted", .bool q),(S "escapedstate", .str (S " "))] l∧LX σ0 s k d io iod pb fs line (.str (mdS m)) ⟨tok.toArray⟩ p∧rt (line.cps.toList.drop p) m tok q=some (T,rest,eof)∧p≤line.length∧tok.length≤p∧n=line.length - p) (line.length - p) ⟨.sp,[],false,p,by walk_at "sub", H,hr,hp,Nat.zero_le _,rfl⟩ ?_
  rintro n l s hz3
  clear h hr hp H
  obtain ⟨m,tok,q,p,hsub,HX,hrt,hple,htl,rfl⟩:4:=hz3
  refine ⟨_,hsub,?_⟩
  haveI hk:=HX.k
  haveI hd:=HX.d
  haveI hio:=HX.io
  haveI hiod:=HX.iod
  refine oU (b:=true) ?_ (fS rfl ?_)
  ·walk_at "e"
   exact ⟨rfl,rfl⟩
  refine ExS.abs ?_;intro K₁ k₁
  refine aH ?_
  refine cT (fun l s=>Sub [(S "self", .ref k),(S "quoted", .bool q),(S "escapedstate", .str (S " ")),(S "nextchar", .str (chS line p))] l∧LX σ0 s k d io iod pb fs line (.str (mdS m)) ⟨tok.toArray⟩ (if p < line.length then p+1 else p)) ?_ ?_
  ·refine Ex1.abs ?_;intro K₂ k₂
   walk_at "e"
   refine mM hk hd ?_
   walk_at "e"
   refine tJ hio hiod hl fun s1 h1 g1=>?_
   walk_at "e"
   haveI n1:d≠iod:=aE hd hiod (by intro h;injection h with h;exact absurd (congrArg List.length h) (by show ¬ (19=3);decide))
   haveI hni:iod∈[d,iod]:=.tail _ (.head _)
   have K:∀ {j:Nat} {o:AO},s.get j=some o→(∀ kvs,o≠.idict kvs)→s1.get j=some o:=fun e hn=>h1.keep e (by simp;exact aE e hiod (hn _))
   exact ⟨rfl,by walk_at "sub", HX.ext.trans (h1.mono fun j hj=>.inl (by rw [Tg hj];exact hni)),K hk (by intro _ h;cases h),h1.keep hd (by simpa using n1),K hio (by intro _ h;cases h),g1,K HX.pb (by intro _ h;cases h),K HX.fs (by intro _ h;cases h)⟩
  ·rintro l s1 ⟨hsub1,HX1⟩
   refine bE hsub1 ?_
   by_cases hlt:p < line.length
   ·refine hid ?_;intro ZZ zz
    obtain ⟨c,hc⟩:∃ c,line.cps[p]? = some c:=⟨_,Array.getElem?_eq_getElem (show p < line.cps.size from hlt)⟩
    refine zz ?_;clear zz
    haveI hch:chS line p=⟨#[c]⟩:=by unfold chS;rw [hc]
    haveI hdr:line.cps.toList.drop p=c::line.cps.toList.drop (p+1):=by
     haveI e:line.cps.toList[p]? = some c:=by rw [Array.getElem?_toList];exact hc
     obtain ⟨h1,h2⟩:1:=List.getElem?_eq_some_iff.mp e
     rw [← h2];exact List.drop_eq_getElem_cons h1
    rw [if_pos hlt] at HX1
    rw [hch]
    rw [hdr] at hrt
    clear hdr hch hc HX hsub1
    haveI hk1:=HX1.k
    haveI hd1:=HX1.d
    haveI hi2:=HX1.new (o:=.tup [.str (S "a"),.str (S "c")])
    haveI hkd:k≠d:=aE HX1.k HX1.d (by intro h;cases h)
    haveI hsz:(⟨tok.toArray⟩:Str).length+(⟨#[c]⟩:Str).length≤100000:=by show tok.toArray.size+1≤_;rw [List.size_toArray];lia
    haveI hsz2:(⟨tok.toArray⟩:Str).length < 2 ^ 20:=by show tok.toArray.size < _;rw [List.size_toArray];lia
    haveI hcf:=chF (aSb hrt)
    haveI nl:=hcf.1
    haveI cm:=hcf.2.1
    haveI es:=hcf.2.2
    clear hcf
    walk_at "e"
    cases m with
    | sp =>
     rcases aYo hrt with ⟨c32,htk,hq0,hrt2⟩ | ⟨hws,hrt⟩
     ·haveI hws:inS ⟨#[c]⟩ (S " \t\r\n")=true:=aYn c32
      subst htk hq0
      walk_at "e"
      exact ⟨line.length - (p+1),by exact (mR hlt),.sp,[],false,p+1,by walk_at "sub", HX1,hrt2,by assumption,Nat.zero_le _,rfl⟩
     walk_at "e"
     rcases hrt with ⟨c39,hrt⟩ | ⟨c34,hrt⟩ | ⟨hw,hrt⟩
     ·refine gJ (aJn c39).1 ?_
      haveI hq1:=(aJn c39).2.1
      walk_at "e"
      refine mM hk1 hd1 ?_
      walk_at "e"
      exact ⟨line.length - (p+1),by exact (mR hlt),.q1,tok,q,p+1,by walk_at "sub", by rw [c39];exact HX1.st _ _,hrt,by assumption,by exact (Nat.le_succ_of_le htl),rfl⟩
     ·refine gJ (aSc c34).1 ?_
      haveI hq1:=(aSc c34).2.1
      walk_at "e"
      refine mM hk1 hd1 ?_
      walk_at "e"
      exact ⟨line.length - (p+1),by exact (mR hlt),.q2,tok,q,p+1,by walk_at "sub", by rw [c34];exact HX1.st _ _,hrt,by assumption,by exact (Nat.le_succ_of_le htl),rfl⟩
     ·refine fS (cD c hw).2.2.2.2.1 ?_
      walk_at "e"
      exact ⟨line.length - (p+1),by exact (mR hlt),.wd,[c],q,p+1,by walk_at "sub", HX1.st _ _,hrt,by assumption,by simp,rfl⟩
    | wd =>
     walk_at "e"
     refine pR (ys:=[S "a", S "c"]) aB ?_
     walk_at "e"
     rcases aYp hrt with ⟨c32,e4,e5⟩ | ⟨hws,hrt⟩
     ·refine fS (aYn c32) ?_
      obtain ⟨e1,e2,e3⟩:0:=xR (congrArg some e5)
      clear hrt htl hsz e5
      subst e1 e2 e3
      haveI hpe:line.length - (line.cps.toList.drop (p+1)).length=p+1:=by
       rw [List.length_drop,Array.length_toList];show line.length - (line.length - (p+1))=_;exact (Nat.sub_sub_self hlt)
      haveI fin:LX σ0 _ k d io iod pb fs line (.str (S " ")) ⟨tok.toArray⟩ (line.length - (line.cps.toList.drop (p+1)).length):=hpe.symm▸hi2.st (.str (S " ")) ⟨tok.toArray⟩
      walk_at "e"
      by_cases ht:tok=[]
      ·refine gJ (by rw [ht];rfl) ?_
       haveI hq:q=true:=e4 (by rw [ht];rfl)
       walk_at "e"
       exact ⟨rfl,q,by walk_at "sub", fin,e4⟩
      ·refine fS ?_ ?_
       ·show ((tok.toArray.size:Int) != 0)=true
        rw [List.size_toArray]
        haveI:tok.length≠0:=fun z=>ht (List.eq_nil_of_length_eq_zero z)
        simp;omega
       walk_at "e"
       exact ⟨rfl,q,by walk_at "sub", fin,e4⟩
     ·refine gJ hws ?_
      walk_at "e"
      rcases hrt with ⟨hq1,hrt⟩ | ⟨hq1,hwc,hrt⟩
      ·refine fS hq1 ?_
       walk_at "e"
       rcases hrt with ⟨c39,hrt⟩ | ⟨c34,hrt⟩
       ·exact ⟨line.length - (p+1),by exact (mR hlt),.q1,tok,q,p+1,by walk_at "sub", by rw [c39];exact hi2.st _ _,hrt,by assumption,by exact (Nat.le_succ_of_le htl),rfl⟩
       ·exact ⟨line.length - (p+1),by exact (mR hlt),.q2,tok,q,p+1,by walk_at "sub", by rw [c34];exact hi2.st _ _,hrt,by assumption,by exact (Nat.le_succ_of_le htl),rfl⟩
      ·refine gJ hq1 ?_
       walk_at "e"
       rw [aAh]
       exact ⟨line.length - (p+1),by exact (mR hlt),.wd,tok++[c],q,p+1,by walk_at "sub", hi2.st _ _,hrt,by assumption,by simp;omega,rfl⟩
    | q1 =>
     walk_at "e"
     rcases aYq hrt with ⟨c39,hrt⟩ | ⟨c39,hrt⟩
     ·refine fS c39 ?_
      walk_at "e"
      exact ⟨line.length - (p+1),by exact (mR hlt),.wd,tok,true,p+1,by walk_at "sub", HX1.st _ _,hrt,by assumption,by exact (Nat.le_succ_of_le htl),rfl⟩
     ·refine gJ c39 ?_
      walk_at "e"
      rw [aAh]
      exact ⟨line.length - (p+1),by exact (mR hlt),.q1,tok++[c],true,p+1,by walk_at "sub", HX1.st _ _,hrt,by assumption,by simp;omega,rfl⟩
    | q2 =>
     walk_at "e"
     rcases aYr hrt with ⟨c34,hrt⟩ | ⟨c34,hrt⟩
     ·refine fS c34 ?_
      walk_at "e"
      exact ⟨line.length - (p+1),by exact (mR hlt),.wd,tok,true,p+1,by walk_at "sub", HX1.st _ _,hrt,by assumption,by exact (Nat.le_succ_of_le htl),rfl⟩
     ·refine gJ c34 ?_
      walk_at "e"
      rw [aAh]
      exact ⟨line.length - (p+1),by exact (mR hlt),.q2,tok++[c],true,p+1,by walk_at "sub", HX1.st _ _,hrt,by assumption,by simp;omega,rfl⟩
   ·haveI hch:chS line p=S "" := by unfold chS;rw [Array.getElem?_eq_none (by show line.length≤p;exact (Nat.le_of_not_lt hlt))]
    haveI hdr:line.cps.toList.drop p=[]:=List.drop_eq_nil_of_le (by show line.cps.toList.length≤p;rw [Array.length_toList];show line.length≤p;exact (Nat.le_of_not_lt hlt))
    rw [if_neg hlt] at HX1
    rw [hch]
    rw [hdr] at hrt
    clear hdr hch HX hsub1
    haveI hk1:=HX1.k
    haveI hkd:k≠d:=aE HX1.k HX1.d (by intro h;cases h)
    cases m with
    | wd =>
     haveI hd1:s1.get d=some (.idict (rD io pb fs true (S "") (.str (S "a")) ⟨tok.toArray⟩)):=HX1.d
     haveI hi2:=HX1.new (o:=.tup [.str (S "a"),.str (S "c")])
     change (if tok.isEmpty=true∧q=false then none else some (tok,[],true))=_ at hrt
     by_cases z:tok.isEmpty=true∧q=false
     ·rw [if_pos z] at hrt;exact cL hrt
     rw [if_neg z] at hrt
     obtain ⟨e1,e2,e3⟩:0:=xR hrt
     clear hrt htl
     subst e1 e2 e3
     haveI hpe:line.length - ([]:List Nat).length=p:=by simp;exact (aNj hple hlt)
     walk_at "e"
     refine pR (ys:=[S "a", S "c"]) aB ?_
     walk_at "e"
     refine ⟨rfl,q,by walk_at "sub", by rw [hpe];exact hi2.st _ _,fun z1=>?_⟩
     cases q with
     | true=>rfl
     | false=>exact absurd ⟨z1,rfl⟩ z
    | sp=>exact cL hrt
    | q1=>exact cL hrt
    | q2=>exact cL hrt
 ·rintro l s hz2
  obtain ⟨q,hsub,HX,hTq⟩:1:=hz2
  refine bE hsub ?_
  haveI hk:=HX.k
  haveI hd:=HX.d
  generalize hst:(if eof=true then AV.none else .str (S " "))=st at *
  haveI hkd:k≠d:=aE HX.k HX.d (by intro h;cases h)
  walk_at "e"
  haveI fin:=h _ (HX.st st (S ""))
  cases q with
  | true =>
   walk_at "e"
   exact fin
  | false =>
   haveI hT:T≠[]:=fun z=>by subst z;exact absurd (hTq rfl) (by decide)
   haveI hne:((⟨T.toArray⟩:Str)==S "")=false:=beq_eq_false_iff_ne.mpr fun z=>by
    haveI z2:=congrArg Str.cps z
    rw [show (S "").cps=#[] from by decide +kernel] at z2
    exact hT (by simpa using z2)
   walk_at "e"
   exact fin
end
section
variable {w:World} {mg mb:Str→Option Value} {sc:Scope} {U D:Nat} {loc:Loc} {σ:AH}
theorem xS {k d io iod pb fs:Nat} {line:Str} {σ0:AH} {R:AV→AH→Prop} (H:LX σ0 σ k d io iod pb fs line .none (S "") line.length) (hl:line.length≤5000)
 (h:∀ s,LX σ0 s k d io iod pb fs line .none (S "") line.length→R .none s):ClV (c1 w mg mb none) sc (U+3+3+3) (D+1+1+1) (.glob dF) [.ref k] loc σ R:=by
 haveI hk:=H.k
 haveI hd:=H.d
 haveI hio:=H.io
 haveI hiod:=H.iod
 refine en (c:=c1 w mg mb none) (scope:=aG gX) (loc₀:=[(S "self", .ref k)]) [S "self"] (fU w.params) (by kernel_rfl) (fun St a=>by show _=_;kernel_rfl) ?_
 refine aH ?_
 walk_at "e"
 refine cT (fun l s=>Sub [(S "self", .ref k),(S "quoted", .bool false)] l∧LX σ0 s k d io iod pb fs line .none (S "") line.length) ?_ ?_
 ·refine cR (fun n l s=>n=0∧s=σ∧Sub [(S "self", .ref k),(S "quoted", .bool false),(S "escapedstate", .str (S " "))] l) 0 ⟨rfl,rfl,by walk_at "sub"⟩ ?_
  rintro n l s hz3
  obtain ⟨rfl,rfl,hsub⟩:0:=hz3
  refine ⟨_,hsub,?_⟩
  refine oU (b:=true) ?_ (fS rfl ?_)
  ·walk_at "e"
   exact ⟨rfl,rfl⟩
  walk_at "e"
  refine mM hk hd ?_
  walk_at "e"
  refine tJ hio hiod hl fun s1 h1 g1=>?_
  haveI hch:chS line line.length=S "" := by unfold chS;rw [Array.getElem?_eq_none (by show line.length≤line.length;lia)]
  rw [hch]
  rw [if_neg (by lia)] at g1
  haveI n1:d≠iod:=aE hd hiod (by intro h;injection h with h;exact absurd (congrArg List.length h) (by show ¬ (19=3);decide))
  haveI hni:iod∈[d,iod]:=.tail _ (.head _)
  have K:∀ {j:Nat} {o:AO},s.get j=some o→(∀ kvs,o≠.idict kvs)→s1.get j=some o:=fun e hn=>h1.keep e (by simp;exact aE e hiod (hn _))
  haveI HX1:LX σ0 s1 k d io iod pb fs line .none (S "") line.length:=⟨H.ext.trans (h1.mono fun j hj=>.inl (by rw [Tg hj];exact hni)),K hk (by intro _ h;cases h),h1.keep hd (by simpa using n1),K hio (by intro _ h;cases h),g1,K H.pb (by intro _ h;cases h),K H.fs (by intro _ h;cases h)⟩
  haveI hk1:=HX1.k
  haveI hd1:=HX1.d
  haveI hkd:k≠d:=aE HX1.k HX1.d (by intro h;cases h)
  walk_at "e"
  exact ⟨rfl,by walk_at "sub", HX1.st _ _⟩
 ·rintro l s ⟨hsub,HX⟩
  refine bE hsub ?_
  haveI hk1:=HX.k
  haveI hd1:=HX.d
  haveI hkd:k≠d:=aE HX.k HX.d (by intro h;cases h)
  walk_at "e"
  exact h _ (HX.st _ _)
theorem xT {k d io iod pb fs:Nat} {line:Str} {p:Nat} {T rest:List Nat} {eof:Bool} {σ0:AH} {R:AV→AH→Prop} (H:LX σ0 σ k d io iod pb fs line (.str (S " ")) (S "") p) (hl:line.length≤5000) (hp:p≤line.length)
 (hr:rt (line.cps.toList.drop p) .sp [] false=some (T,rest,eof)) (h:∀ s,LX σ0 s k d io iod pb fs line (if eof then .none else .str (S " ")) (S "") (line.length - rest.length)→R (.str ⟨T.toArray⟩) s):ClV (c1 w mg mb none) sc (U+3+3+3+3) (D+1+1+1+1) (.glob dY) [.ref k] loc σ R:=by
 haveI hk:=H.k
 haveI hd:=H.d
 haveI hpb:=H.pb
 refine en (c:=c1 w mg mb none) (scope:=aG iL) (loc₀:=[(S "self", .ref k)]) [S "self"] (gW w.params) (by kernel_rfl) (fun St a=>by show _=_;kernel_rfl) ?_
 refine aH ?_
 walk_at "e"
 refine uZ H hl hp hr fun s1 H1=>?_
 haveI hk1:=H1.k
 haveI hd1:=H1.d
 haveI hfs1:=H1.fs
 generalize hst:(if eof=true then AV.none else .str (S " "))=st at *
 walk_at "e"
 refine dX ?_ ?_
 ·walk_at "e"
  exact ⟨rfl,rfl⟩
 walk_at "e"
 exact h _ H1
theorem aAi {k d io iod pb fs:Nat} {line:Str} {σ0:AH} {R:AV→AH→Prop} (H:LX σ0 σ k d io iod pb fs line .none (S "") line.length) (hl:line.length≤5000)
 (h:∀ s,LX σ0 s k d io iod pb fs line .none (S "") line.length→R .none s):ClV (c1 w mg mb none) sc (U+3+3+3+3) (D+1+1+1+1) (.glob dY) [.ref k] loc σ R:=by
 haveI hk:=H.k
 haveI hd:=H.d
 haveI hpb:=H.pb
 refine en (c:=c1 w mg mb none) (scope:=aG iL) (loc₀:=[(S "self", .ref k)]) [S "self"] (gW w.params) (by kernel_rfl) (fun St a=>by show _=_;kernel_rfl) ?_
 refine aH ?_
 walk_at "e"
 refine xS H hl fun s1 H1=>?_
 haveI hk1:=H1.k
 haveI hd1:=H1.d
 haveI hfs1:=H1.fs
 walk_at "e"
 refine cR (fun n l s=>n=0∧s=s1∧Sub [(S "self", .ref k),(S "raw", .none)] l) 0 ⟨rfl,rfl,by walk_at "sub"⟩ ?_
 rintro n l s hz3
 obtain ⟨rfl,rfl,hsub⟩:0:=hz3
 refine ⟨_,hsub,?_⟩
 walk_at "e"
 exact h _ H1
end
section
variable {w:World} {mg mb:Str→Option Value} {fl:FL} {sc:Scope} {U D:Nat} {loc:Loc} {σ:AH}
theorem aJo {A:Around} {env:Env} {L:Addr} {h₀:Heap} (fm:Fm (c1 w mg mb fl) sc A env L h₀ U D):Fm (c1 w mg mb none) sc A env L h₀ U D:=⟨(let ⟨_,_,_,_,_,e,_⟩:=fm.ex;⟨_,_,_,_,_,e,fun _ _ q=>(nomatch q)⟩),fun _ _ q=>(nomatch q),fm.X,fm.T,fm.hk,fm.hu,fm.hd,fm.hh,fm.sm,fun _ q=>(nomatch q)⟩
theorem ClV.on {f:AV} {as:List AV} {R:AV→AH→Prop} (h:ClV (c1 w mg mb none) sc U D f as loc σ R):ClV (c1 w mg mb fl) sc U D f as loc σ R:=fun A env L h₀ fm=>h A env L h₀ (aJo fm)
theorem CdV.on {f:AV} {as:List AV} {kw:List (Str×AV)} {R:AV→AH→Prop} (h:CdV (c1 w mg mb none) sc U D f as kw loc σ R):CdV (c1 w mg mb fl) sc U D f as kw loc σ R:=fun A env L h₀ fm=>h A env L h₀ (aJo fm)
end
section
variable {w:World} {mg mb:Str→Option Value} {sc:Scope} {U D:Nat} {loc:Loc} {σ:AH}
theorem aEn {k:Nat} {R:AV→AH→Prop} (h:R (.ref k) σ):CdV (c1 w mg mb none) sc (U+3) (D+1) (.glob tC) [.ref k] [] loc σ R:=by
 refine eW (c:=c1 w mg mb none) (scope:=aG aDo) (loc₀:=[(S "self", .ref k)]) (zL w.params) (by kernel_rfl)
  (bG [S "self"] [] [] eV (fun vs s hX hl=>by obtain ⟨a⟩:=vs1 hl;exact kp_binds hX (fun St=>by kernel_rfl)) (by kernel_rfl) rfl (by kernel_rfl)) (by kernel_rfl) ?_
 refine aH ?_
 walk_at "e"
 exact h
theorem aEo {k d io iod pb fs:Nat} {line:Str} {p:Nat} {T rest:List Nat} {eof:Bool} {σ0:AH} {R:AV→AH→Prop} (H:LX σ0 σ k d io iod pb fs line (.str (S " ")) (S "") p) (hl:line.length≤5000) (hp:p≤line.length)
 (hr:rt (line.cps.toList.drop p) .sp [] false=some (T,rest,eof)) (h:∀ s,LX σ0 s k d io iod pb fs line (if eof then .none else .str (S " ")) (S "") (line.length - rest.length)→R (.str ⟨T.toArray⟩) s):CdV (c1 w mg mb none) sc (U+3+3+3+3+3) (D+1+1+1+1+1) (.glob jH) [.ref k] [] loc σ R:=by
 haveI hk:=H.k
 haveI hd:=H.d
 refine eW (c:=c1 w mg mb none) (scope:=aG jI) (loc₀:=[(S "self", .ref k)]) (qB w.params) (by kernel_rfl)
  (bG [S "self"] [] [] eV (fun vs s hX hl=>by obtain ⟨a⟩:=vs1 hl;exact kp_binds hX (fun St=>by kernel_rfl)) (by kernel_rfl) rfl (by kernel_rfl)) (by kernel_rfl) ?_
 refine aH ?_
 walk_at "e"
 refine xT H hl hp hr fun s1 H1=>?_
 haveI hk1:=H1.k
 haveI hd1:=H1.d
 generalize hst:(if eof=true then AV.none else .str (S " "))=st at *
 walk_at "e"
 exact h _ H1
theorem aEp {k d io iod pb fs:Nat} {line:Str} {σ0:AH} {R:AH→Prop} (H:LX σ0 σ k d io iod pb fs line .none (S "") line.length) (hl:line.length≤5000)
 (h:∀ s,LX σ0 s k d io iod pb fs line .none (S "") line.length→R s):ExX (c1 w mg mb none) (aG jI) (U+3+3+3+3) (D+1+1+1+1) (lT (cH bd jI)) [(S "self", .ref k)] σ R:=by
 haveI hk:=H.k
 haveI hd:=H.d
 refine aGq ?_
 walk_at "e"
 refine aAi H hl fun s1 H1=>?_
 haveI hk1:=H1.k
 haveI hd1:=H1.d
 walk_at "e"
 refine ⟨rfl,aPj ?_⟩
 walk_at "e"
 refine ⟨rfl,aDf (by kernel_rfl) (by kernel_rfl) (nB w.params).1 PyProof.Rows.Boot.StopIteration (by decide +kernel) (h _ H1)⟩
end
noncomputable def rts:Nat→List Nat→Option (List (List Nat))
 | 0,_=>none
 | n+1,cs=>match rt cs .sp [] false with
  | none=>none
  | some (T,rest,eof)=>if eof=true then (if rest.isEmpty=true then some [T] else none) else (rts n rest).map (T::·)
noncomputable def stp (c:Nat) (tok:List Nat) (q:Bool):Md→Option (Option (Md×List Nat×Bool))
 | .sp=>if c=39 then some (some (.q1,tok,q)) else if c=34 then some (some (.q2,tok,q)) else if c=32 then (if tok.isEmpty=true∧q=false then some (some (.sp,tok,q)) else none) else if wch c=true then some (some (.wd,[c],q)) else none
 | .wd=>if c=32 then (if tok.isEmpty=true∧q=false then none else some none) else if c=39 then some (some (.q1,tok,q)) else if c=34 then some (some (.q2,tok,q)) else if wch c=true then some (some (.wd,tok++[c],q)) else none
 | .q1=>if c=39 then some (some (.wd,tok,true)) else if c=32∨c=34∨wch c=true then some (some (.q1,tok++[c],true)) else none
 | .q2=>if c=34 then some (some (.wd,tok,true)) else if c=39 then some (some (.q2,tok++[c],true)) else none
noncomputable def rtN (r tok:List Nat) (z:Option (Option (Md×List Nat×Bool))):Option (List Nat×List Nat×Bool):=z.elim none fun y=>y.elim (some (tok,r,false)) fun x=>rt r x.1 x.2.1 x.2.2
theorem cM {p:Prop} [Decidable p] {r tok:List Nat} {a b:Option (Option (Md×List Nat×Bool))}:rtN r tok (if p then a else b)=if p then rtN r tok a else rtN r tok b:=by
 by_cases h:p
 ·rw [if_pos h,if_pos h]
 ·rw [if_neg h,if_neg h]
theorem aMu (c:Nat) (r tok:List Nat) (q:Bool) (m:Md):rt (c::r) m tok q=rtN r tok (stp c tok q m):=by
 cases m with
 | sp =>
  show _=rtN _ _ (if _ then _ else if _ then _ else if _ then (if _ then _ else _) else if _ then _ else _)
  rw [cM,cM,cM,cM,cM];rfl
 | wd =>
  show _=rtN _ _ (if _ then (if _ then _ else _) else if _ then _ else if _ then _ else if _ then _ else _)
  rw [cM,cM,cM,cM,cM];rfl
 | q1 =>
  show _=rtN _ _ (if _ then _ else if _ then _ else _)
  rw [cM,cM];rfl
 | q2 =>
  show _=rtN _ _ (if _ then _ else if _ then _ else _)
  rw [cM,cM];rfl
theorem aSd {m:Md} {tok:List Nat} {q:Bool} {T rest:List Nat} {eof:Bool} (h:rt [] m tok q=some (T,rest,eof)):m=.wd∧¬ (tok.isEmpty=true∧q=false)∧tok=T∧rest=[]:=by
 cases m with
 | wd =>
  change (if tok.isEmpty=true∧q=false then none else some (tok,[],true))=_ at h
  by_cases z:tok.isEmpty=true∧q=false
  ·rw [if_pos z] at h;exact cL h
  ·rw [if_neg z] at h;exact ⟨rfl,z,(xR h).1,(xR h).2.1.symm⟩
 | sp=>exact cL h
 | q1=>exact cL h
 | q2=>exact cL h
theorem aMv (cs:List Nat):∀ (m:Md) (tok:List Nat) (q:Bool) (T rest:List Nat) (eof:Bool),rt cs m tok q=some (T,rest,eof)→∃ pre,cs=pre++rest:=by
 induction cs with
 | nil=>exact fun m tok q T rest eof h=>⟨[],(aSd h).2.2.2.symm⟩
 | cons c r ih =>
  intro m tok q T rest eof h
  rw [aMu] at h
  cases e:stp c tok q m with
  | none=>rw [e] at h;exact cL h
  | some y =>
   rw [e] at h
   cases y with
   | none=>exact ⟨[c],congrArg (c::·) (xR h).2.1⟩
   | some x =>
    obtain ⟨pre,e⟩:1:=ih _ _ _ _ _ _ h
    exact ⟨c::pre,by rw [e];rfl⟩
theorem aEq {line:List Nat} {p:Nat} {pre rest:List Nat} (hp:p≤line.length) (h:line.drop p=pre++rest):line.drop (line.length - rest.length)=rest∧rest.length≤line.length - p:=by
 haveI hl:=congrArg List.length h
 rw [List.length_drop,List.length_append] at hl
 haveI hl2:line.length=p+pre.length+rest.length:=by rw [Nat.add_assoc,← hl,Nat.add_sub_of_le hp]
 haveI e:line.length - rest.length=p+pre.length:=by rw [hl2,Nat.add_sub_cancel]
 refine ⟨?_,by rw [hl];exact Nat.le_add_left ..⟩
 rw [e,← List.drop_drop,h]
 simp
section
variable {w:World} {mg mb:Str→Option Value} {sc:Scope} {U D:Nat} {loc:Loc} {σ:AH}
theorem LX.setL {σ s:AH} {k d io iod pb fs:Nat} {line:Str} {st:AV} {tok:Str} {p:Nat} {Z:Nat} {xs ys:List AV} (H:LX σ s k d io iod pb fs line st tok p) (e:s.get Z=some (.list xs)):LX (s.set Z (.list ys)) (s.set Z (.list ys)) k d io iod pb fs line st tok p :=
 ⟨Ext.refl _,aC (aE H.k e (by intro h;cases h)) H.k,aC (aE H.d e (by intro h;cases h)) H.d,aC (aE H.io e (by intro h;cases h)) H.io,aC (aE H.iod e (by intro h;cases h)) H.iod,
  aC (aE H.pb e (by intro h;cases h)) H.pb,aC (aE H.fs e (by intro h;cases h)) H.fs⟩
theorem FrNamed.ext {l:List Addr} {σ σ':AH} {ch:List Nat} (h:FrNamed l σ) (hx:Ext ch σ σ') (hn:∀ j∈ch,∀ a i o,σ.get j≠some (.frm a i o)):FrNamed l σ':=fun a ha=>by
 obtain ⟨j,o,e,q⟩:2:=h a ha
 exact ⟨j,o,hx.keep e fun hj=>hn j hj _ _ _ e,q⟩
theorem aJp {l:List Addr} {k d io iod pb fs Z:Nat} {line:Str} {σB:AH} {R:AV→AH→Prop} (hl:line.length≤5000) (hF:FrNamed l σB) (hd:σB.nx≤d) (hi:σB.nx≤iod) (hZ:σB.nx≤Z) :
  ∀ (n p:Nat) (acc:List AV) (σ:AH) (Ts:List (List Nat)),rts n (line.cps.toList.drop p)=some Ts→p≤line.length→acc.length+Ts.length < 900→Ext [] σB σ→LX σ σ k d io iod pb fs line (.str (S " ")) (S "") p→σ.get Z=some (.list acc) →
   (∀ σ',Ext [] σB σ'→σ'.get Z=some (.list (acc++Ts.map fun T=>.str ⟨T.toArray⟩))→R (.ref Z) σ')→aCv (c1 w mg mb (some (some l,[]))) sc (U+3+3+3+3+3) (D+1+1+1+1+1) (.ref k) Z loc R (n+1) acc σ
 | 0,_,_,_,_,h,_,_,_,_,_,_=>by cases h
 | n+1,p,acc,σ,Ts,h,hp,ha,hx,H,gZ,hR=>by
  have hZn:∀ {s:AH} {o:AO},Ext [d,iod] σ s→s.get Z=some (.list acc):=fun {s o} q=>q.keep gZ (by
   haveI z1:Z≠d:=aE gZ H.d (by intro h;cases h)
   haveI z2:Z≠iod:=aE gZ H.iod (by intro h;cases h)
   simp [z1,z2])
  have up:∀ {s:AH},Ext [d,iod] σ s→Ext [] σB s:=fun {s} q=>by
   haveI q1:Ext [d,iod] σB s:=(hx.mono fun j hj=>(nomatch hj)).trans q
   refine q1.mono fun j hj=>.inr ?_
   rcases Tf hj with rfl | hj
   ·exact hd
   ·rw [Tg hj];exact hi
  rw [rts] at h
  cases hr:rt (line.cps.toList.drop p) .sp [] false with
  | none=>rw [hr] at h;cases h
  | some x =>
   refine hid ?_;intro ZZ zz
   obtain ⟨T,rest,eof⟩:=x
   refine zz ?_;clear zz
   rw [hr] at h
   dsimp only at h
   haveI hpl:p≤line.cps.toList.length:=by rw [Array.length_toList];exact hp
   obtain ⟨pre,hpre⟩:1:=aMv _ _ _ _ _ _ _ hr
   obtain ⟨hd1,hd2⟩:0:=aEq hpl hpre
   rw [Array.length_toList] at hd1 hd2
   refine aRa (f:=jH) H.k H.d (by kernel_rfl) (by kernel_rfl) (CdV.on (aEo H hl hp hr fun s H1=>⟨hZn (o:=.list []) H1.ext,by exact (vF (Tc ha (Tb rfl))),?_⟩))
   haveI H2:=H1.setL (ys:=acc++[.str ⟨T.toArray⟩]) (hZn (o:=.list []) H1.ext)
   haveI hx2:Ext [] σB (s.set Z (.list (acc++[.str ⟨T.toArray⟩]))):=(up H1.ext).set (.inr hZ)
   haveI gZ2:=aF (o:=.list (acc++[.str ⟨T.toArray⟩])) (hZn (o:=.list []) H1.ext)
   generalize s.set Z (.list (acc++[.str ⟨T.toArray⟩]))=s2 at *
   cases eof with
   | true =>
    rw [if_pos rfl] at h
    by_cases hre:rest.isEmpty=true
    ·rw [if_pos hre] at h
     cases h
     haveI hr0:rest=[]:=by simpa using hre
     subst hr0
     haveI H3:LX s2 s2 k d io iod pb fs line .none (S "") line.length:=H2
     refine aLq (l:=l) (f:=jH) (scope:=aG jI) (loc₀:=[(S "self", .ref k)]) (C:=aI) (Rx:=fun s3=>LX s2 s3 k d io iod pb fs line .none (S "") line.length) rfl (hF.ext hx2 fun j hj=>(nomatch hj)) H3.k H3.d (by kernel_rfl) (by kernel_rfl) (qB w.params) (by kernel_rfl)
      (bG [S "self"] [] [] eV (fun vs s hX hl=>by obtain ⟨a⟩:=vs1 hl;exact kp_binds hX (fun St=>by kernel_rfl)) (by kernel_rfl) rfl (by kernel_rfl)) (by kernel_rfl) (aEp H3 hl fun s3 H4=>H4) fun s3 H4=>?_
     haveI z1:Z≠d:=aE gZ2 H3.d (by intro h;cases h)
     haveI z2:Z≠iod:=aE gZ2 H3.iod (by intro h;cases h)
     haveI gZ3:=H4.ext.keep gZ2 (by simp [z1,z2])
     haveI hx3:Ext [] σB s3:=by
      haveI q1:Ext [d,iod] σB s3:=(hx2.mono fun j hj=>(nomatch hj)).trans H4.ext
      refine q1.mono fun j hj=>.inr ?_
      rcases Tf hj with rfl | hj
      ·exact hd
      ·rw [Tg hj];exact hi
     refine ⟨hF.ext hx3 fun j hj=>(nomatch hj),gZ3,hR _ hx3 gZ3⟩
    ·rw [if_neg hre] at h;cases h
   | false =>
    rw [if_neg (by decide)] at h
    cases hts:rts n rest with
    | none=>rw [hts] at h;cases h
    | some Ts' =>
     rw [hts] at h
     cases h
     haveI hlen:(acc++[AV.str ⟨T.toArray⟩]).length+Ts'.length < 900:=by simp at ha ⊢;exact (lF ha)
     refine aJp hl hF hd hi hZ n (line.length - rest.length) _ s2 Ts' (by show rts n (line.cps.toList.drop (line.cps.size - rest.length))=_;rw [hd1];exact hts) (by lia) hlen hx2 H2 gZ2 fun σ' hx' g'=>hR σ' hx' ?_
     rw [g'];simp
theorem aMw {l:List Addr} {x:Str} {Ts:List (List Nat)} {n:Nat} {R:AF→Loc→AH→Prop} (hF:FrNamed l σ) (hl:x.length≤5000) (hr:rts n x.cps.toList=some Ts) (ht:Ts.length < 800)
 (h:∀ σ' m l',Ext [] σ σ'→σ.nx≤m→σ'.get m=some (.list (Ts.map fun T=>.str ⟨T.toArray⟩))→R (.ret (.ref m)) l' σ') :
 ExS (c1 w mg mb (some (some l,[]))) (aG uJ) (U+18) (D+6) (lT (cH bd uJ)) [(S "s", .str x),(S "comments", .bool false),(S "posix", .bool true)] σ R:=by
 refine aH ?_
 walk_at "e"
 refine wH (g:=aI) (fun _=>by show _=_;kernel_rfl) (fun _=>by kernel_rfl) (by kernel_rfl) ?_
 walk_at "e"
 refine ⟨rfl,?_⟩
 walk_at "e"
 refine sR (C:=aI) (fI:=tB) (by kernel_rfl) (by kernel_rfl) (by kernel_rfl) (CdV.on (aEm aB (aA aB) fun s1 io iod pb fs h1 hio hiod g1 g2 g3 g4 g5=>⟨rfl,?_⟩))
 haveI hn0:σ.nx+1+1≤io:=hio
 haveI hn1:σ.nx+1+1≤iod:=hiod
 haveI gk:s1.get (σ.nx+1)=some (.inst aI σ.nx):=h1.keep aB (by simp)
 haveI hkd:σ.nx+1≠σ.nx:=by lia
 haveI hx1:Ext [] σ s1:=(((Ext.refl (ch:=[]) σ).new.new.mono fun j (hj:j∈[])=>(nomatch hj)).trans h1).mono fun j hj=>.inr (by rw [Tg hj];exact Te _)
 walk_at "e"
 haveI H:LX (s1.set σ.nx (.idict (rD io pb fs true (S "") (.str (S " ")) (S "")))) (s1.set σ.nx (.idict (rD io pb fs true (S "") (.str (S " ")) (S "")))) (σ.nx+1) σ.nx io iod pb fs x (.str (S " ")) (S "") 0 :=
  ⟨Ext.refl _,aC hkd gk,aF g1,aC (by exact (Nat.ne_of_gt (Nat.lt_of_succ_lt hn0))) g2,aC (by exact (Nat.ne_of_gt (Nat.lt_of_succ_lt hn1))) g3,aC (aE g4 g1 (by intro h;cases h)) g4,aC (aE g5 g1 (by intro h;cases h)) g5⟩
 haveI hx2:Ext [] σ (s1.set σ.nx (.idict (rD io pb fs true (S "") (.str (S " ")) (S "")))):=hx1.set (.inr (Te _))
 haveI hb2:σ.nx+2≤(s1.set σ.nx (.idict (rD io pb fs true (S "") (.str (S " ")) (S "")))).nx:=h1.nx
 generalize s1.set σ.nx (.idict (rD io pb fs true (S "") (.str (S " ")) (S "")))=s2 at *
 refine kQ (U:=U+15) (T:=.ref aI) (fuel:=n+1) rfl H.k rfl (by decide) (by decide) ?_
 haveI Hn:LX (s2.new (.list [])) (s2.new (.list [])) (σ.nx+1) σ.nx io iod pb fs x (.str (S " ")) (S "") 0:=⟨Ext.refl _,aA H.k,aA H.d,aA H.io,aA H.iod,aA H.pb,aA H.fs⟩
 refine aRb (f:=tC) (g:=jH) Hn.k Hn.d (by kernel_rfl) (by kernel_rfl) (by kernel_rfl) (CdV.on (aEn ⟨rfl,rfl⟩)) ?_
 refine aRc Hn.k Hn.d (by kernel_rfl) (by kernel_rfl) ⟨aB,?_⟩
 rw [dJ]
 refine aJp (σB:=σ) hl hF (Te _) (by exact (Nat.le_of_lt (Nat.lt_of_succ_lt hn1))) hx2.nx n 0 [] _ Ts (by rw [List.drop_zero];exact hr) (Nat.zero_le _) (by simp;exact (Tc ht (Tb rfl))) hx2.new Hn aB fun σ' hx' g'=>?_
 walk_at "e"
 exact h _ _ _ hx' hx2.nx g'
end
noncomputable def qt (x:Str):Str:=if x.length=0 then S "''" else if mE x.cps=1 then x else S "'" ++ Txt.replace x (S "'") (S "'\"'\"'")++S "'"
section
variable {w:World} {mg mb:Str→Option Value} {sc:Scope} {U D:Nat} {loc:Loc} {σ:AH}
theorem aMx {x:Str} {R:AV→AH→Prop} (hx:x.length=0∨mE x.cps≠0) (hl:x.length≤100) (hq:(Txt.replace x (S "'") (S "'\"'\"'")).length≤1000) (h:∀ σ',Ext [] σ σ'→R (.str (qt x)) σ'):ClV (c1 w mg mb none) sc (U+3) (D+1) (.glob aMb) [.str x] loc σ R:=by
 refine en (c:=c1 w mg mb none) (scope:=aG aMc) (loc₀:=[(S "s", .str x)]) [S "s"] (aHq w.params) (by kernel_rfl) (fun St a=>by show _=_;kernel_rfl) ?_
 refine aH ?_
 walk_at "e"
 by_cases h0:x.length=0
 ·haveI hr:qt x=S "''" := if_pos h0
  rw [hr] at h
  refine fS (by simp [h0]) ?_
  walk_at "e"
  exact h _ (Ext.refl _)
 ·refine gJ (by simp [h0]) ?_
  haveI hn:mE x.cps≠0:=hx.resolve_left h0
  iterate 6 (walk_at "ev")
  refine aXl (aIj w.params) ⟨_,rfl⟩ rfl (by intros;rfl) (by intros;rfl) ?_
  walk_at "e"
  refine zU (fun h1=>?_) (fun h2 σ' k hE=>?_) hn
  ·haveI hr:qt x=x:=by unfold qt;rw [if_neg h0,if_pos h1]
   rw [hr] at h
   walk_at "e"
   exact h _ (Ext.refl _)
  ·haveI hr:qt x=S "'" ++ Txt.replace x (S "'") (S "'\"'\"'")++S "'" := by unfold qt;rw [if_neg h0,if_neg (by exact (Nat.ne_of_gt (sL h2 (Tb rfl))))]
   rw [hr] at h
   haveI l1:(S "'").length=1:=by decide +kernel
   iterate 8 (try walk_at "ev")
   refine jF ?_
   refine zV (t:=x) (by kernel_rfl) (by decide +kernel) rfl (by intros;rfl) (by intros;rfl) (by intros;rfl) (by intros;rfl) (by decide +kernel) (by exact (Ta hl (Tb rfl))) (by decide +kernel) (by show (S "'").length+(Txt.replace x (S "'") (S "'\"'\"'")).length≤_;exact (aSt hq (Tb rfl))) ?_
   haveI l2:(S "'" ++ Txt.replace x (S "'") (S "'\"'\"'")).length=1+(Txt.replace x (S "'") (S "'\"'\"'")).length:=by
    rw [← l1]
    exact Array.size_append ..
   walk_at "e"
   exact h _ hE
theorem aSe {k:Nat} {ts:List Str} {R:AV→AH→Prop} (h0:σ.get 0=some (.plc aPl)) (e:σ.get k=some (.list (ts.map .str))) (hx:∀ x∈ts,(x.length=0∨mE x.cps≠0)∧x.length≤100∧(Txt.replace x (S "'") (S "'\"'\"'")).length≤1000) (hz:ts.length≤1000)
  (hj:JoinOk (S " ") (ts.map qt)=true) (h:∀ σ',Ext [] σ σ'→R (.str (Txt.join (S " ") (ts.map qt))) σ'):ClV (c1 w mg mb none) sc (U+3+6+3) (D+1+1+1) (.glob aQy) [.ref k] loc σ R:=by
 refine aMg (c:=c1 w mg mb none) (scope:=aG aQz) (loc₀:=[(S "split_command", .ref k)]) (aMd w.params) (by kernel_rfl)
  (bG [S "split_command"] [] [] eV (fun vs s hX hl=>by obtain ⟨a⟩:=vs1 hl;exact kp_binds hX (fun St=>by kernel_rfl)) (by kernel_rfl) rfl (by kernel_rfl)) (by kernel_rfl) ?_
 refine aEa ?_
 walk_at "e"
 refine ⟨rfl,aIm ?_⟩
 refine aDz (P0:=aPl) (oc:=aLu) (ob:=o4) (bm:=4) (f:=qt) (by intros;rfl) (by intros;rfl) (by intros;rfl) (by kernel_rfl) (by decide +kernel) rfl e h0 (by kernel_rfl) ⟨_,_,_,_,_,_,_,_,⟨rfl,rfl⟩,rfl,rfl,rfl,rfl,rfl,rfl⟩ (aHl _) (by decide) (by kernel_rfl) (by decide) (by kernel_rfl) rfl rfl rfl (by kernel_rfl) (fun env=>closureFor_none (by decide +kernel)) (by decide +kernel) (by kernel_rfl) (by kernel_rfl) (by kernel_rfl) (fun i t ht=>?_) hj hz h
 obtain ⟨q1,q2,q3⟩:0:=hx t (List.mem_of_getElem? ht)
 refine EvE.mono (c:=c1 w mg mb none) (R:=fun v _=>v=.str (qt t)) ?_ fun _ _ z=>z
 walk_at "e"
 exact aMx q1 q2 q3 fun _ _=>rfl
end
structure SM {α:Type} [DecidableEq α] (T:El α) (σ:AH) (k d x y kb kj kp n0:Nat) (kvs:List (α×AV)) (ys:List α) (vm vo:AV):Prop where
 n:kb≠d
 k:σ.get k=some (.inst aD d)
 d:σ.get d=some (.idict [(S "isjunk", .none),(S "a", .ref x),(S "b", .ref y),(S "autojunk", .bool true),(S "matching_blocks", vm),(S "opcodes", vo),(S "fullbcount", .none),(S "b2j", .ref kb),(S "bjunk", .ref kj),(S "bpopular", .ref kp)])
 b:T.D σ kb kvs
 t:B2J σ n0 kvs ys
 j:σ.get kj=some .eset
section
variable {w:World} {mg mb:Str→Option Value} {sc:Scope} {U D:Nat} {loc:Loc} {σ:AH}
theorem aAj {α:Type} [DecidableEq α] {T:El α} {k d x y:Nat} {as:List AV} {ys:List α} {R:AV→AH→Prop}
 (e1:σ.get k=some (.inst aD d)) (e2:σ.get d=some (.idict [(S "isjunk", .none),(S "a", .ref x),(S "b", .none),(S "autojunk", .bool true),(S "matching_blocks", .none),(S "opcodes", .none)]))
 (e3:σ.get y=some (.list as)) (hE:All2 (T.is σ) as ys) (hy:ys.length≤100)
 (h:∀ σ' kb kj kp kvs,Ext [d] σ σ'→SM T σ' k d x y kb kj kp σ.nx kvs ys .none .none→σ.nx≤kb→σ.nx≤kj→R .none σ') :
  ClV (c1 w mg mb none) sc (U+2+3+3) (D+1+1) (.glob kD) [.ref k,.ref y] loc σ R:=by
 haveI hkd:k≠d:=aE e1 e2 (by intro h;cases h)
 haveI hyd:y≠d:=aE e3 e2 (by intro h;cases h)
 refine en (c:=c1 w mg mb none) (scope:=aG rX) (loc₀:=[(S "self", .ref k),(S "b", .ref y)]) [S "self", S "b"] (pZ w.params) (by kernel_rfl) (fun St a b=>by show _=_;kernel_rfl) ?_
 refine aH ?_
 walk_at "e"
 haveI hm:d∈[d]:=List.mem_singleton.mpr rfl
 refine aEk (T:=T) (by walk_at "hget") (by walk_at "hget") (aC hyd e3) (hE.mono fun _ _ z=>T.isK z (Up.set e2 fun ws=>nofun)) hy fun σ' kb kj kp kvs hx hd' hb hb' hB hj hj'=>?_
 walk_at "e"
 haveI hx':Ext [d] σ σ':=((Ext.refl σ).set (.inl hm)).trans hx
 exact h σ' kb kj kp kvs hx' ⟨Nat.ne_of_gt (Tc (AH.get_lt e2) hb),hx'.keep e1 (by simpa using hkd),hd',hb',hB,hj⟩ hb hj'
theorem aAk {α:Type} [DecidableEq α] {T:El α} {k d x y:Nat} {as:List AV} {ys:List α} {R:AV→AH→Prop}
 (e1:σ.get k=some (.inst aD d)) (e2:σ.get d=some (.idict [(S "isjunk", .none),(S "a", .none),(S "b", .none),(S "autojunk", .bool true)]))
 (e3:σ.get y=some (.list as)) (hE:All2 (T.is σ) as ys) (hy:ys.length≤100)
 (h:∀ σ' kb kj kp kvs,Ext [d] σ σ'→SM T σ' k d x y kb kj kp σ.nx kvs ys .none .none→σ.nx≤kb→σ.nx≤kj→R .none σ') :
  ClV (c1 w mg mb none) sc (U+2+3+3+3) (D+1+1+1) (.glob jZ) [.ref k,.ref x,.ref y] loc σ R:=by
 haveI hkd:k≠d:=aE e1 e2 (by intro h;cases h)
 haveI hyd:y≠d:=aE e3 e2 (by intro h;cases h)
 refine en (c:=c1 w mg mb none) (scope:=aG rV) (loc₀:=[(S "self", .ref k),(S "a", .ref x),(S "b", .ref y)]) [S "self", S "a", S "b"] (pX w.params) (by kernel_rfl) (fun St a b d=>by show _=_;kernel_rfl) ?_
 refine aH ?_
 walk_at "e"
 haveI hm:d∈[d]:=List.mem_singleton.mpr rfl
 refine aAd e1 e2 ?_
 walk_at "e"
 refine aAj (T:=T) (x:=x) (by walk_at "hget") (by walk_at "hget") (aC hyd e3) (hE.mono fun _ _ z=>T.isK z (Up.set e2 fun ws=>nofun)) hy fun σ' kb kj kp kvs hx hS hb hj=>?_
 walk_at "e"
 exact h σ' kb kj kp kvs (((Ext.refl σ).set (.inl hm)).trans hx) hS hb hj
theorem aEr {α:Type} [DecidableEq α] {T:El α} {k d x y:Nat} {as:List AV} {ys:List α} {R:AV→AH→Prop}
 (e1:σ.get k=some (.inst aD d)) (e2:σ.get d=some (.idict []))
 (e3:σ.get y=some (.list as)) (hE:All2 (T.is σ) as ys) (hy:ys.length≤100)
 (h:∀ σ' kb kj kp kvs,Ext [d] σ σ'→SM T σ' k d x y kb kj kp σ.nx kvs ys .none .none→σ.nx≤kb→σ.nx≤kj→R .none σ') :
  CdV (c1 w mg mb none) sc (U+2+3+3+3+3) (D+1+1+1+1) (.glob sY) [.ref k,.none,.ref x,.ref y] [] loc σ R:=by
 haveI hkd:k≠d:=aE e1 e2 (by intro h;cases h)
 haveI hyd:y≠d:=aE e3 e2 (by intro h;cases h)
 refine eW (c:=c1 w mg mb none) (scope:=aG aDk) (loc₀:=[(S "self", .ref k),(S "isjunk", .none),(S "a", .ref x),(S "b", .ref y),(S "autojunk", .bool true)]) (zG w.params) (by kernel_rfl)
  (bG [S "self", S "isjunk", S "a", S "b", S "autojunk"] [.bool true] [.bool true] (fun _ _=>.cons (.bool _) .nil) (fun vs s hX hl=>by obtain ⟨a,b,d,e⟩:=vs4 hl;exact kp_binds hX (fun St=>by kernel_rfl)) (by kernel_rfl) rfl (by kernel_rfl)) (by kernel_rfl) ?_
 refine aH ?_
 walk_at "e"
 haveI hm:d∈[d]:=List.mem_singleton.mpr rfl
 refine aAk (T:=T) (x:=x) (by walk_at "hget") (by walk_at "hget") (aC hyd e3) (hE.mono fun _ _ z=>T.isK z (Up.set e2 fun ws=>nofun)) hy fun σ' kb kj kp kvs hx hS hb hj=>?_
 walk_at "e"
 exact h σ' kb kj kp kvs (((Ext.refl σ).set (.inl hm)).trans hx) hS hb hj
end
theorem jC {a b:Int} (h0:0≤a) (h1:a≤1000) (h2:0≤b) (h3:b≤1000):Builtin.Range.small a b 1=true:=by
 haveI hs:Builtin.Range.rangeSize a b 1=((b - a).toNat:Int):=by unfold Builtin.Range.rangeSize;split <;> split <;> lia
 unfold Builtin.Range.small
 rw [hs]
 unfold Builtin.Range.rangeFitsLong
 simp
 omega
def aJq {α:Type} [DecidableEq α] (xs ys:List α) (alo blo bhi i:Nat) (nvs:List (Int×AV)):Prop:=∀ j:Int,j < bhi→(nvs.lookup j).getD (.int 0)=.int (rp xs ys alo blo i j:Nat)
noncomputable def mN {α:Type} [DecidableEq α] (xs ys:List α) (alo blo bhi t:Nat):Nat×Nat×Nat:=(List.range t).foldl (fun b u=>flmRow xs ys alo blo bhi (alo+u) b) (alo,blo,0)
theorem jD {x y:Int} {b:AV} {r:List (Int×AV)} (h:y≠x):List.lookup y ((x,b)::r)=List.lookup y r:=by
 rw [List.lookup_cons,beq_false_of_ne h]
theorem mO {x:Int} {b:AV} {r:List (Int×AV)}:List.lookup x ((x,b)::r)=some b:=by
 rw [List.lookup_cons,beq_self_eq_true]
theorem tL (x:Int) (a:AV) (y:Int):∀ loc:List (Int×AV),(put x a loc).lookup y=if y=x then some a else loc.lookup y
 | []=>by
  unfold put
  by_cases h:y=x
  ·rw [if_pos h,h,mO]
  ·rw [if_neg h,jD h]
 | (z,b)::r=>by
  unfold put
  by_cases h:x=z
  ·rw [if_pos h]
   by_cases q:y=x
   ·rw [if_pos q,q,mO]
   ·rw [if_neg q,jD q,jD (h▸q)]
  ·rw [if_neg h]
   by_cases q:y=z
   ·haveI:y≠x:=fun e=>h (e.symm.trans q)
    rw [if_neg this,q,mO,mO]
   ·rw [jD q,jD q,tL x a y r]
theorem rE (x:Int) (a:AV):∀ l:List (Int×AV),(put x a l).length≤l.length+1
 | []=>Te _
 | (y,b)::r=>by
  haveI:=rE x a r
  rw [put]
  split
  ·rw [List.length_cons,List.length_cons];lia
  ·rw [List.length_cons,List.length_cons];exact (Nat.succ_le_succ this)
def InR {α:Type} [DecidableEq α] (xs ys:List α) (alo blo bhi i:Nat) (js:List Nat) (nvs:List (Int×AV)):Prop:=∀ j:Int,j < bhi→(nvs.lookup j).getD (.int 0)=.int ((if 0≤j∧j.toNat∈js then Lx xs ys alo blo i j.toNat else 0:Nat):Int)
theorem InR.nil {α:Type} [DecidableEq α] {xs ys:List α} {alo blo bhi i:Nat}:InR xs ys alo blo bhi i [] []:=fun j _=>by simp
theorem InR.skip {α:Type} [DecidableEq α] {xs ys:List α} {alo blo bhi i j:Nat} {js:List Nat} {nvs:List (Int×AV)} (h:InR xs ys alo blo bhi i js nvs) (hj:j < blo):InR xs ys alo blo bhi i (js++[j]) nvs:=fun q hq=>by
 rw [h q hq]
 by_cases h1:0≤q∧q.toNat∈js
 ·rw [if_pos h1,if_pos ⟨h1.1,List.mem_append.mpr (.inl h1.2)⟩]
 ·rw [if_neg h1]
  split
  ·rename_i h2
   haveI:q.toNat=j:=(List.mem_append.mp h2.2).elim (fun z=>absurd ⟨h2.1,z⟩ h1) (fun z=>by simpa using z)
   rw [this,aMr hj]
  ·rfl
theorem InR.step {α:Type} [DecidableEq α] {xs ys:List α} {alo blo bhi i j:Nat} {js:List Nat} {nvs:List (Int×AV)} (h:InR xs ys alo blo bhi i js nvs):InR xs ys alo blo bhi i (js++[j]) (put (j:Int) (.int (Lx xs ys alo blo i j)) nvs):=fun q hq=>by
 rw [tL]
 by_cases h0:q=j
 ·subst h0
  rw [if_pos rfl,if_pos ⟨by exact i_0,by simp⟩];rfl
 ·rw [if_neg h0,h q hq]
  by_cases h1:0≤q∧q.toNat∈js
  ·rw [if_pos h1,if_pos ⟨h1.1,List.mem_append.mpr (.inl h1.2)⟩]
  ·rw [if_neg h1,if_neg]
   intro h2
   haveI:q.toNat=j:=(List.mem_append.mp h2.2).elim (fun z=>absurd ⟨h2.1,z⟩ h1) (fun z=>by simpa using z)
   haveI:=h2.1
   lia
theorem InR.done {α:Type} [DecidableEq α] {xs ys:List α} {alo blo bhi i u:Nat} {e:α} {nvs:List (Int×AV)} (h:InR xs ys alo blo bhi i ((bK e ys 0).take u) nvs) (he:xs[i]? = some e) (hr:∀ j∈(bK e ys 0).drop u,bhi≤j):aJq xs ys alo blo bhi (i+1) nvs:=fun q hq=>by
 rw [h q hq]
 unfold rp
 dsimp only
 by_cases h0:q < 0
 ·rw [if_pos h0,if_neg (fun z=>by lia)]
 rw [if_neg h0]
 by_cases h1:0≤q∧q.toNat∈(bK e ys 0).take u
 ·rw [if_pos h1]
 ·rw [if_neg h1,aYl]
  by_cases h2:q.toNat∈bK e ys 0
  ·haveI h3:=hr q.toNat
   rw [← List.take_append_drop u (bK e ys 0)] at h2
   haveI:=h3 ((List.mem_append.mp h2).resolve_left fun z=>h1 ⟨by lia,z⟩)
   (exfalso;lia)
  ·rw [mem_posn] at h2
   by_cases h3:ys[q.toNat]? = none
   ·exact .inr h3
   ·refine .inl fun h4=>h2 ⟨Nat.zero_le _,?_⟩
    rw [Nat.sub_zero,← h4,he]
theorem aBw {α:Type} [DecidableEq α] {xs ys:List α} {alo blo bhi i:Nat}:∀ (js:List Nat) (b:Nat×Nat×Nat),(∀ j∈js,bhi≤j)→js.foldl (ub xs ys alo blo bhi i) b=b
 | [],b,_=>rfl
 | j::js,b,h=>by
  rw [List.foldl_cons,show ub xs ys alo blo bhi i b j=b from if_neg (fun q=>by haveI:=h j (List.mem_cons_self ..);lia)]
  exact aBw js b fun j hj=>h j (List.mem_cons_of_mem _ hj)
theorem aEs {js:List Nat} {u j bhi:Nat} (hs:js.Pairwise (· < ·)) (hj:js[u]? = some j) (h:bhi≤j):∀ q∈js.drop u,bhi≤q:=fun q hq=>by
 haveI hu:u < js.length:=(List.getElem?_eq_some_iff.mp hj).1
 haveI e:js.drop u=j::js.drop (u+1):=by
  rw [List.drop_eq_getElem_cons hu]
  rw [List.getElem?_eq_getElem hu] at hj
  cases hj;rfl
 haveI hd:(js.drop u).Pairwise (· < ·):=hs.sublist (List.drop_sublist _ _)
 rw [e] at hd hq
 rcases Tf hq with r | r
 ·exact (oY r h)
 ·haveI:=List.rel_of_pairwise_cons hd r;exact (Nat.le_of_lt (Td h this))
theorem rF {α:Type} [DecidableEq α] {xs ys:List α} {alo blo bhi t:Nat} {e:α} (he:xs[alo+t]? = some e):mN xs ys alo blo bhi (t+1)=(bK e ys 0).foldl (ub xs ys alo blo bhi (alo+t)) (mN xs ys alo blo bhi t):=by
 unfold mN
 rw [List.range_succ,List.foldl_append,List.foldl_cons,List.foldl_nil]
 rw [flmRow.eq_def xs ys alo blo bhi (alo+t),he]
section
variable {w:World} {mg mb:Str→Option Value} {sc:Scope} {U D:Nat} {loc:Loc} {σ:AH}
theorem aJr {i j k:AV} {R:AV→AH→Prop} (h:R (.ref (σ.nx+1)) ((σ.new (.tup [i,j,k])).new (.mtup aL [i,j,k]))):CdV (c1 w mg mb none) sc (U+3) (D+1) (.glob wM) [.glob aL,i,j,k] [] loc σ R:=by
 refine eW (c:=c1 w mg mb none) (scope:=aG aHm) (loc₀:=[(S "_cls", .glob aL),(S "a", i),(S "b", j),(S "size", k)]) (aDi w.params) (by kernel_rfl)
  (bG [S "_cls", S "a", S "b", S "size"] [] [] eV (fun vs s hX hl=>by obtain ⟨a,b,d,e⟩:=vs4 hl;exact kp_binds hX (fun St=>by kernel_rfl)) (by kernel_rfl) rfl (by kernel_rfl)) (by kernel_rfl) ?_
 refine aH ?_
 walk_at "e"
 refine tU (id := "tuple.__new__") (by kernel_rfl) (by decide +kernel) (by kernel_rfl) (by kernel_rfl) ?_
 walk_at "e"
 refine pM (by kernel_rfl) aB (by simp) ?_
 walk_at "e"
 exact h
theorem aMy {i j k:AV} {R:AV→AH→Prop} (h:R (.ref (σ.nx+1)) ((σ.new (.tup [i,j,k])).new (.mtup aL [i,j,k]))):CdV (c1 w mg mb none) sc (U+3+3) (D+1+1) (.glob aL) [i,j,k] [] loc σ R:=by
 refine yV (c:=c1 w mg mb none) (C:=aL) (fN:=wM) (p:=159) (mc:=.type "type") (rest:=[]) (by kernel_rfl!) (by kernel_rfl!) (by kernel_rfl!) (by kernel_rfl!) (by kernel_rfl!) (by kernel_rfl!) (by kernel_rfl!) ?_
 exact aJr ⟨_,_,rfl,aB,h⟩
theorem aEt {t:Nat} {i j k:AV} {R:AV→AH→Prop} (e:σ.get t=some (.tup [i,j,k])) (h:R (.ref σ.nx) (σ.new (.mtup aL [i,j,k]))):CdV (c1 w mg mb none) sc (U+3) (D+1) (.glob pW) [.glob aL,.ref t] [] loc σ R:=by
 refine eW (c:=c1 w mg mb none) (scope:=aG aHn) (loc₀:=[(S "cls", .glob aL),(S "iterable", .ref t)]) (aDj w.params) (by kernel_rfl)
  (bG [S "cls", S "iterable"] [] [] eV (fun vs s hX hl=>by obtain ⟨a,b⟩:=vs2 hl;exact kp_binds hX (fun St=>by kernel_rfl)) (by kernel_rfl) rfl (by kernel_rfl)) (by kernel_rfl) ?_
 refine aH ?_
 walk_at "e"
 refine tU (id := "tuple.__new__") (by kernel_rfl) (by decide +kernel) (by kernel_rfl) (by kernel_rfl) ?_
 walk_at "e"
 refine pM (by kernel_rfl) e (by simp) ?_
 walk_at "e"
 refine lQ (C:=aL) (by kernel_rfl) (by kernel_rfl) aB (by simp) ?_
 walk_at "e"
 try refine gJ (by rfl) ?_
 walk_at "e"
 exact h
theorem aOn {α:Type} [DecidableEq α] {T:El α} {kI k d x y kb kj kp n0:Nat} {kvs:List (α×AV)} {as bs':List AV} {xs ys:List α} {vm vo:AV} {alo ahi blo bhi:Nat} {R:AV→AH→Prop}
 (gI:σ.get kI=some (.flds "builtin_function_or_method" [.bi "set.__contains__", .ref kj]))
 (M:SM T σ k d x y kb kj kp n0 kvs ys vm vo) (ex:σ.get x=some (.list as)) (hEx:All2 (T.is σ) as xs) (ey:σ.get y=some (.list bs')) (hEy:All2 (T.is σ) bs' ys) (hx:xs.length≤100) (hy:ys.length≤100)
 (ha:alo≤ahi) (hax:ahi≤xs.length) (hb:blo≤bhi) (hby:bhi≤ys.length)
 (h:∀ σ' m,Ext [] σ σ'→σ.nx≤m→σ'.get m=some (.mtup aL [.int (flm xs ys alo ahi blo bhi).1,.int (flm xs ys alo ahi blo bhi).2.1,.int (flm xs ys alo ahi blo bhi).2.2])→R (.ref m) σ') :
  ExS (c1 w mg mb none) (aG aX) (U+3+3) (D+1+1) ((lT (cH bd aX)).drop 4) [(S "self", .ref k),(S "alo", .int alo),(S "ahi", .int ahi),(S "blo", .int blo),(S "bhi", .int bhi),(S "a", .ref x),(S "b", .ref y),(S "b2j", .ref kb),(S "isbjunk", .ref kI)] σ (fun fl _ s=>R (fM fl) s):=by
 haveI mk:=M.k
 haveI md:=M.d
 haveI mb':=M.b
 haveI hlx:=hEx.length
 haveI hly:=hEy.length
 haveI mj:=M.j
 refine aH ?_
 walk_at "e"
 refine sS ?_
 walk_at "e"
 refine gE (fun _ _=>rfl) (pI ?_)
 walk_at "e"
 refine ⟨_,_,_,rfl,aB,jC (by exact i_0) (by lia) (by exact i_0) (by lia),fun t l s=>∃ kI kd kN nvs,Sub [(S "self", .ref k),(S "alo", .int alo),(S "ahi", .int ahi),(S "blo", .int blo),(S "bhi", .int bhi),(S "a", .ref x),(S "b", .ref y),(S "b2j", .ref kb),(S "isbjunk", .ref kI),(S "bestsize", .int (mN xs ys alo blo bhi t).2.2),(S "bestj", .int (mN xs ys alo blo bhi t).2.1),(S "besti", .int (mN xs ys alo blo bhi t).1),(S "j2len", .ref kd),(S "nothing", .ref kN)] l∧Ext [] σ s∧σ.nx≤kd∧s.get kI=some (.flds "builtin_function_or_method" [.bi "set.__contains__", .ref kj])∧s.get kd=some (.ndict nvs)∧s.get kN=some (.list [])∧aJq xs ys alo blo bhi (alo+t) nvs∧σ.nx≤kN,?_,?_,?_,?_⟩
 ·refine ⟨_,_,_,[],Sub.refl _,?_,?_,by walk_at "hget", by walk_at "hget", by walk_at "hget", ?_,?_⟩
  ·repeat (first | exact Ext.refl _ | refine Ext.new ?_)
  ·show σ.nx≤σ.nx+1;exact Nat.le_succ _
  ·intro j hj
   haveI:rp xs ys alo blo alo j=0:=by
    unfold rp
    split
    ·rfl
    ·rename_i n
     split
     ·rfl
     ·exact aRz (by lia)
   rw [Nat.add_zero,this];rfl
  ·show σ.nx≤σ.nx+1+1;exact Nat.le_succ_of_le (Nat.le_succ _)
 ·exact fun _ _ _ _=>trivial
 ·rintro i a l s s' hi hz6 hz7
  obtain ⟨kI,kd,kN,nvs,hsub,hext,hkd,gI,gd,gN,hrow,hkN⟩:4:=hz6
  obtain ⟨rfl,rfl⟩:=hz7
  haveI hi:i < ahi - alo:=Nat.lt_of_lt_of_eq hi (Int.toNat_sub ahi alo)
  refine gH hsub ?_
  refine As1.abs ?_;intro K₁ k₁
  obtain ⟨e,he⟩:∃ e,xs[alo+i]? = some e:=⟨_,List.getElem?_eq_getElem (by lia)⟩
  obtain ⟨kl,hkl,hgl⟩:∃ kl,(kvs.lookup e).getD (.ref kN)=.ref kl∧s'.get kl=some (.list ((bK e ys 0).map fun i=>AV.int (i:Nat))):=by
   cases hq:kvs.lookup e with
   | none=>exact ⟨kN,rfl,by rw [M.t.no e hq];exact gN⟩
   | some a =>
    obtain ⟨l',rfl,hl,hg⟩:1:=M.t.yes e a hq
    exact ⟨l',rfl,hext.keep hg (by simp)⟩
  haveI hpl:=rC e ys 0
  generalize hb0:mN xs ys alo blo bhi i=b0
  rw [hb0] at hsub
  haveI gx:s'.get x=some (.list as):=hext.keep ex (by simp)
  obtain ⟨ae,hae,hise⟩:=hEx.rat he
  haveI gb:=T.ext mb' hext
  haveI gb2:T.D ((s'.new (.flds "builtin_function_or_method" [.bi "dict.get", .ref kd])).new (.ndict [])) kb kvs:=T.keep gb (Up.new.trans Up.new) fun o e _=>aA (aA e)
  walk_at "e"
  refine sS ?_
  walk_at "e"
  refine gE (fun _ _=>rfl) (gF ?_)
  walk_at "e"
  refine T.gmg gb2 ?_
  walk_at "e"
  refine aM (n:=alo+i) (a:=ae) (aA (aA gx)) (by rfl) (by lia) hae ?_ (fun _ _=>by kernel_rfl)
  walk_at "e"
  refine T.get (U:=U+4) gb2 (T.isK hise (hext.upE.trans (Up.new.trans Up.new))) ?_
  haveI hn2:(s'.new (.flds "builtin_function_or_method" [.bi "dict.get", .ref kd])).nx=s'.nx+1:=rfl
  haveI g0:((s'.new (.flds "builtin_function_or_method" [.bi "dict.get", .ref kd])).new (.ndict [])).get (s'.nx+1)=some (.ndict []):=aB
  haveI gG:((s'.new (.flds "builtin_function_or_method" [.bi "dict.get", .ref kd])).new (.ndict [])).get s'.nx=some (.flds "builtin_function_or_method" [.bi "dict.get", .ref kd]):=aA aB
  haveI hx2:Ext [] s' ((s'.new (.flds "builtin_function_or_method" [.bi "dict.get", .ref kd])).new (.ndict [])):=((Ext.refl s').new).new
  rw [hkl,hn2]
  generalize hs2:(s'.new (.flds "builtin_function_or_method" [.bi "dict.get", .ref kd])).new (.ndict [])=s2 at *
  haveI hs2n:s2.nx=s'.nx+2:=by rw [← hs2];rfl
  refine ⟨kl,_,rfl,hx2.keep hgl (by simp),fun u l4 s4=>∃ nv2,Sub [(S "self", .ref k),(S "alo", .int alo),(S "ahi", .int ahi),(S "blo", .int blo),(S "bhi", .int bhi),(S "a", .ref x),(S "b", .ref y),(S "b2j", .ref kb),(S "isbjunk", .ref kI),(S "bestsize", .int (((bK e ys 0).take u).foldl (ub xs ys alo blo bhi (alo+i)) b0).2.2),(S "bestj", .int (((bK e ys 0).take u).foldl (ub xs ys alo blo bhi (alo+i)) b0).2.1),(S "besti", .int (((bK e ys 0).take u).foldl (ub xs ys alo blo bhi (alo+i)) b0).1),(S "j2len", .ref kd),(S "nothing", .ref kN),(S "i", .int ((alo:Int)+(i:Nat))),(S "j2lenget", .ref s'.nx),(S "newj2len", .ref (s'.nx+1))] l4∧Ext [] s' s4∧s2.nx≤s4.nx∧s4.get s'.nx=some (.flds "builtin_function_or_method" [.bi "dict.get", .ref kd])∧s4.get (s'.nx+1)=some (.ndict nv2)∧nv2.length≤u∧InR xs ys alo blo bhi (alo+i) ((bK e ys 0).take u) nv2,?_,?_,?_,?_⟩
  ·exact ⟨[],Sub.refl _,hx2,Te _,gG,g0,Te _,InR.nil⟩
  ·rintro u l4 s4 hz3
   obtain ⟨nv2,_,h4,_⟩:1:=hz3
   exact h4.keep hgl (by simp)
  ·rintro u a l4 s4 s5 hu hz6 hz7
   refine hid ?_;intro ZZ zz
   obtain ⟨nv2,hsub4,h4,hn4,hG4,hW4,hl4,hR4⟩:1:=hz6
   obtain ⟨ha4,rfl⟩:=hz7
   haveI hu:u < (bK e ys 0).length:=by simpa [fQ] using hu
   obtain ⟨j,hj⟩:∃ j,(bK e ys 0)[u]? = some j:=⟨_,List.getElem?_eq_getElem hu⟩
   refine zz ?_;clear zz
   haveI ha4:a=.int (j:Nat):=by
    rw [List.getElem?_map,hj] at ha4
    exact (Option.some.inj ha4).symm
   rw [ha4]
   haveI hjm:=mem_posn.mp (List.mem_of_getElem? hj)
   haveI hjy:j < ys.length:=by
    haveI:=(List.getElem?_eq_some_iff.mp hjm.2).1
    omega
   haveI htk:(bK e ys 0).take (u+1)=(bK e ys 0).take u++[j]:=by rw [List.take_add_one,hj];rfl
   generalize hb1:((bK e ys 0).take u).foldl (ub xs ys alo blo bhi (alo+i)) b0=b1 at hsub4
   haveI gd4:=h4.keep gd (by simp)
   refine gH hsub4 ?_
   refine As1.abs ?_;intro K₁ k₁
   walk_at "e"
   haveI hsort:=posn_sorted (x:=e) (l:=ys) (i:=0)
   by_cases hlo:j < blo
   ·refine dU (by exact (rK hlo)) ?_
    walk_at "e"
    haveI hu:ub xs ys alo blo bhi (alo+i) b1 j=b1:=if_neg fun q=>by lia
    refine ⟨nv2,?_,h4,hn4,hG4,hW4,by exact (Nat.le_succ_of_le hl4),by rw [htk];exact hR4.skip hlo⟩
    rw [htk,List.foldl_append,hb1,List.foldl_cons,List.foldl_nil,hu]
    exact Sub.app _ _
   refine dL (by exact (jS hlo)) ?_
   walk_at "e"
   by_cases hhi:bhi≤j
   ·refine dU (by exact (aOx hhi)) ?_
    walk_at "e"
    haveI hdr:=aEs hsort hj hhi
    refine ⟨kI,s'.nx+1,kN,nv2,?_,hext.trans h4,by haveI:=hext.nx;exact (Nat.le_succ_of_le this),h4.keep gI (by simp),hW4,h4.keep gN (by simp),hR4.done he hdr,hkN⟩
    haveI hB:mN xs ys alo blo bhi (i+1)=b1:=by
     rw [rF he,hb0,← List.take_append_drop u (bK e ys 0),List.foldl_append,hb1,aBw _ _ hdr]
    rw [hB]
    exact Sub.app _ _
   refine dL (by exact (aNl hhi)) ?_
   walk_at "e"
   refine lP hG4 gd4 ?_
   rw [hrow _ (by lia)]
   walk_at "e"
   haveI hL:Lx xs ys alo blo (alo+i) j=rp xs ys alo blo (alo+i) ((j:Int) - 1)+1:=aBq (by lia) (by exact (Nat.le_of_not_lt hlo)) (by rw [he,← hjm.2];rfl) (by haveI:=hjm.2;rw [Nat.sub_zero] at this;rw [this];rfl)
   haveI hL2:=xM (xs:=xs) (ys:=ys) (alo:=alo) (blo:=blo) (alo+i) j
   haveI hL3:((rp xs ys alo blo (alo+i) ((j:Int) - 1):Nat):Int)+1=((Lx xs ys alo blo (alo+i) j:Nat):Int):=by rw [hL];rfl
   rw [hL3]
   refine aGb hW4 (by lia) ?_
   generalize hLx:Lx xs ys alo blo (alo+i) j=lx at *
   haveI hR5:InR xs ys alo blo bhi (alo+i) ((bK e ys 0).take (u+1)) (put (j:Int) (.int lx) nv2):=by rw [htk,← hLx];exact hR4.step
   haveI hgw:s5.nx > s'.nx+1:=by lia
   walk_at "e"
   by_cases hk:b1.2.2 < lx
   ·refine dU (by exact (rK hk)) ?_
    walk_at "e"
    haveI hu:ub xs ys alo blo bhi (alo+i) b1 j=(alo+i+1 - lx,j+1 - lx,lx):=by unfold ub;rw [hLx,if_pos ⟨by exact (Nat.le_of_not_lt hlo),by exact (Nat.lt_of_not_le hhi),hk⟩]
    refine ⟨_,?_,(h4.set (.inr (by lia))).new,?_,?_,?_,?_,hR5⟩
    ·rw [htk,List.foldl_append,hb1,List.foldl_cons,List.foldl_nil,hu]
     haveI q1:(alo:Int)+(i:Nat) - (lx:Nat)+1=((alo+i+1 - lx:Nat):Int):=aNm (m:=alo+i) hL2.1
     haveI q2:(j:Int) - (lx:Nat)+1=((j+1 - lx:Nat):Int):=aNm hL2.2
     rw [q1,q2]
     exact Sub.app _ _
    ·show s2.nx≤s5.nx+1;exact (Nat.le_succ_of_le hn4)
    ·exact aA (aC (by lia) hG4)
    ·exact aA (aF hW4)
    ·exact Ta (rE _ _ _) (by exact (Nat.succ_le_succ hl4))
   ·refine dL (by exact (jS hk)) ?_
    walk_at "e"
    haveI hu:ub xs ys alo blo bhi (alo+i) b1 j=b1:=by unfold ub;rw [hLx,if_neg fun q=>hk q.2.2]
    refine ⟨_,?_,h4.set (.inr (by lia)),hn4,?_,?_,?_,hR5⟩
    ·rw [htk,List.foldl_append,hb1,List.foldl_cons,List.foldl_nil,hu]
     exact Sub.app _ _
    ·exact aC (by lia) hG4
    ·exact aF hW4
    ·exact Ta (rE _ _ _) (by exact (Nat.succ_le_succ hl4))
  ·rintro l4 s4 hz2
   obtain ⟨nv2,hsub4,h4,hn4,hG4,hW4,hl4,hR4⟩:1:=hz2
   haveI hlen:(fQ kl ((bK e ys 0).map fun i=>AV.int (i:Nat))).n=(bK e ys 0).length:=by simp [fQ]
   rw [hlen,List.take_length] at hsub4
   rw [hlen] at hR4
   refine bE hsub4 ?_
   walk_at "e"
   refine ⟨kI,s'.nx+1,kN,nv2,?_,hext.trans h4,by haveI:=hext.nx;exact (Nat.le_succ_of_le this),h4.keep gI (by simp),hW4,h4.keep gN (by simp),hR4.done he (by rw [List.drop_length];simp),hkN⟩
   rw [rF he,hb0]
   exact Sub.app _ _
 ·rintro l s hz2
  obtain ⟨kI,kd,kN,nvs,hsub,hext,hkd,gI,gd,gN,hrow,hkN⟩:4:=hz2
  haveI hN:(pH (alo:Int) ((ahi:Int) - alo).toNat).n=ahi - alo:=Int.toNat_sub ahi alo
  rw [hN] at hsub
  haveI BB:Best xs ys alo ahi blo bhi (flm xs ys alo ahi blo bhi):=flm_best
  rw [show mN xs ys alo blo bhi (ahi - alo)=flm xs ys alo ahi blo bhi from rfl] at hsub
  generalize hf:flm xs ys alo ahi blo bhi=f at *
  refine hid ?_;intro ZZ zz
  obtain ⟨bi,bj,bs⟩:=f
  obtain ⟨l1,l2⟩:0:=BB.lo
  obtain ⟨l3,l4⟩:0:=BB.hi ha hb
  refine zz ?_;clear zz
  dsimp only at hsub l1 l2 l3 l4
  haveI gx:s.get x=some (.list as):=hext.keep ex (by simp)
  haveI gy:s.get y=some (.list bs'):=hext.keep ey (by simp)
  have isx:∀ {i:Nat} {p:α},xs[i]? = some p→∃ a,as[i]? = some a∧T.is s a p:=fun e=>let ⟨a,e',z⟩:=hEx.rat e;⟨a,e',T.isK z hext.upE⟩
  have isy:∀ {i:Nat} {p:α},ys[i]? = some p→∃ a,bs'[i]? = some a∧T.is s a p:=fun e=>let ⟨a,e',z⟩:=hEy.rat e;⟨a,e',T.isK z hext.upE⟩
  haveI gj:=hext.keep mj (by simp)
  refine bE hsub ?_
  walk_at "e"
  have nl:∀ p q,alo < bi→blo < bj→xs[bi - 1]? = some p→ys[bj - 1]? = some q→decide (p=q)=false:=fun p q h1 h2 h3 h4=>by
   by_cases z:p=q
   ·exact (BB.left h1 h2 (by rw [h3,h4,z]) (by rw [h4];rfl)).elim
   ·exact decide_eq_false z
  have nr:∀ p q,bi+bs < ahi→bj+bs < bhi→xs[bi+bs]? = some p→ys[bj+bs]? = some q→decide (p=q)=false:=fun p q h1 h2 h3 h4=>by
   by_cases z:p=q
   ·exact (BB.right h1 h2 l1 l2 (by rw [h3,h4,z]) (by rw [h4];rfl)).elim
   ·exact decide_eq_false z
  refine dX ?_ ?_
  ·walk_at "e"
   by_cases c1:alo < bi
   ·refine dU (by exact (rK c1)) ?_
    walk_at "e"
    by_cases c2:blo < bj
    ·refine dU (by exact (rK c2)) ?_
     refine hid ?_;intro ZZ zz
     obtain ⟨p,hp⟩:∃ p,xs[bi - 1]? = some p:=⟨_,List.getElem?_eq_getElem (by lia)⟩
     obtain ⟨ap,hap,isp⟩:=isx hp
     obtain ⟨q,hq⟩:∃ q,ys[bj - 1]? = some q:=⟨_,List.getElem?_eq_getElem (by lia)⟩
     obtain ⟨aq,haq,isq⟩:=isy hq
     refine zz ?_;clear zz
     walk_at "e"
     refine aM (n:=bj - 1) (a:=aq) gy (aKl c2) (by grind) haq ?_ (fun _ _=>by kernel_rfl)
     walk_at "e"
     refine T.mem (U:=U+4) gI gj isq ?_
     walk_at "e"
     try refine fS rfl ?_
     walk_at "e"
     refine aM (n:=bi - 1) (a:=ap) gx (aKl c1) (by grind) hap ?_ (fun _ _=>by kernel_rfl)
     walk_at "e"
     refine aM (n:=bj - 1) (a:=aq) gy (aKl c2) (by grind) haq ?_ (fun _ _=>by kernel_rfl)
     walk_at "e"
     refine T.eq (U:=U+4) isp isq ?_
     walk_at "e"
     exact gJ (nl p q c1 c2 hp hq) ⟨rfl,rfl⟩
    ·refine dL (by exact (jS c2)) ⟨rfl,rfl⟩
   ·refine dL (by exact (jS c1)) ⟨rfl,rfl⟩
  walk_at "e"
  refine dX ?_ ?_
  ·walk_at "e"
   by_cases c1:bi+bs < ahi
   ·refine dU (by lia) ?_
    walk_at "e"
    by_cases c2:bj+bs < bhi
    ·refine dU (by lia) ?_
     refine hid ?_;intro ZZ zz
     obtain ⟨p,hp⟩:∃ p,xs[bi+bs]? = some p:=⟨_,List.getElem?_eq_getElem (by exact (Tc c1 hax))⟩
     obtain ⟨ap,hap,isp⟩:=isx hp
     obtain ⟨q,hq⟩:∃ q,ys[bj+bs]? = some q:=⟨_,List.getElem?_eq_getElem (by exact (Tc c2 hby))⟩
     obtain ⟨aq,haq,isq⟩:=isy hq
     refine zz ?_;clear zz
     walk_at "e"
     refine aM (n:=bj+bs) (a:=aq) gy (by rfl) (by lia) haq ?_ (fun _ _=>by kernel_rfl)
     walk_at "e"
     refine T.mem (U:=U+4) gI gj isq ?_
     walk_at "e"
     try refine fS rfl ?_
     walk_at "e"
     refine aM (n:=bi+bs) (a:=ap) gx (by rfl) (by lia) hap ?_ (fun _ _=>by kernel_rfl)
     walk_at "e"
     refine aM (n:=bj+bs) (a:=aq) gy (by rfl) (by lia) haq ?_ (fun _ _=>by kernel_rfl)
     walk_at "e"
     refine T.eq (U:=U+4) isp isq ?_
     walk_at "e"
     exact gJ (nr p q c1 c2 hp hq) ⟨rfl,rfl⟩
    ·refine dL (by lia) ⟨rfl,rfl⟩
   ·refine dL (by lia) ⟨rfl,rfl⟩
  walk_at "e"
  refine dX ?_ ?_
  ·walk_at "e"
   by_cases c1:alo < bi
   ·refine dU (by exact (rK c1)) ?_
    walk_at "e"
    by_cases c2:blo < bj
    ·refine dU (by exact (rK c2)) ?_
     refine hid ?_;intro ZZ zz
     obtain ⟨q,hq⟩:∃ q,ys[bj - 1]? = some q:=⟨_,List.getElem?_eq_getElem (by lia)⟩
     obtain ⟨aq,haq,isq⟩:=isy hq
     refine zz ?_;clear zz
     walk_at "e"
     refine aM (n:=bj - 1) (a:=aq) gy (aKl c2) (by grind) haq ?_ (fun _ _=>by kernel_rfl)
     walk_at "e"
     refine T.mem (U:=U+4) gI gj isq ?_
     walk_at "e"
     exact ⟨rfl,rfl⟩
    ·refine dL (by exact (jS c2)) ⟨rfl,rfl⟩
   ·refine dL (by exact (jS c1)) ⟨rfl,rfl⟩
  walk_at "e"
  refine dX ?_ ?_
  ·walk_at "e"
   by_cases c1:bi+bs < ahi
   ·refine dU (by lia) ?_
    walk_at "e"
    by_cases c2:bj+bs < bhi
    ·refine dU (by lia) ?_
     refine hid ?_;intro ZZ zz
     obtain ⟨q,hq⟩:∃ q,ys[bj+bs]? = some q:=⟨_,List.getElem?_eq_getElem (by exact (Tc c2 hby))⟩
     obtain ⟨aq,haq,isq⟩:=isy hq
     refine zz ?_;clear zz
     walk_at "e"
     refine aM (n:=bj+bs) (a:=aq) gy (by rfl) (by lia) haq ?_ (fun _ _=>by kernel_rfl)
     walk_at "e"
     refine T.mem (U:=U+4) gI gj isq ?_
     walk_at "e"
     exact ⟨rfl,rfl⟩
    ·refine dL (by lia) ⟨rfl,rfl⟩
   ·refine dL (by lia) ⟨rfl,rfl⟩
  walk_at "e"
  refine yO (aMy ?_)
  walk_at "e"
  exact h _ _ ((hext.new).new) (Ta hext.nx (Nat.le_succ _)) aB
end
theorem SM.ext {α:Type} [DecidableEq α] {T:El α} {σ σ':AH} {k d x y kb kj kp n0:Nat} {kvs:List (α×AV)} {ys:List α} {vm vo:AV} (M:SM T σ k d x y kb kj kp n0 kvs ys vm vo) (h:Ext [] σ σ'):SM T σ' k d x y kb kj kp n0 kvs ys vm vo :=
 ⟨M.n,h.keep M.k (by simp),h.keep M.d (by simp),T.ext M.b h,M.t.mono (Te _) fun j o _ e=>h.keep e (by simp),h.keep M.j (by simp)⟩
section
variable {w:World} {mg mb:Str→Option Value} {sc:Scope} {U D:Nat} {loc:Loc} {σ:AH}
theorem aYs {α:Type} [DecidableEq α] {T:El α} {k d x y kb kj kp n0:Nat} {kvs:List (α×AV)} {as bs':List AV} {xs ys:List α} {vm vo:AV} {alo ahi blo bhi:Nat} {R:AV→AH→Prop}
 (M:SM T σ k d x y kb kj kp n0 kvs ys vm vo) (ex:σ.get x=some (.list as)) (hEx:All2 (T.is σ) as xs) (ey:σ.get y=some (.list bs')) (hEy:All2 (T.is σ) bs' ys) (hx:xs.length≤100) (hy:ys.length≤100)
 (ha:alo≤ahi) (hax:ahi≤xs.length) (hb:blo≤bhi) (hby:bhi≤ys.length)
 (h:∀ σ' m,Ext [] σ σ'→σ.nx≤m→σ'.get m=some (.mtup aL [.int (flm xs ys alo ahi blo bhi).1,.int (flm xs ys alo ahi blo bhi).2.1,.int (flm xs ys alo ahi blo bhi).2.2])→R (.ref m) σ') :
  ClV (c1 w mg mb none) sc (U+3+3+3) (D+1+1+1) (.glob bH) [.ref k,.int alo,.int ahi,.int blo,.int bhi] loc σ R:=by
 haveI mk:=M.k
 haveI md:=M.d
 haveI mb':=M.b
 haveI hlx:=hEx.length
 haveI hly:=hEy.length
 haveI mj:=M.j
 refine en (c:=c1 w mg mb none) (scope:=aG aX) (loc₀:=[(S "self", .ref k),(S "alo", .int alo),(S "ahi", .int ahi),(S "blo", .int blo),(S "bhi", .int bhi)]) [S "self", S "alo", S "ahi", S "blo", S "bhi"] (bS w.params) (by kernel_rfl) (fun St a b d e f=>by show _=_;kernel_rfl) ?_
 refine aH ?_
 iterate 39 walk_at "ev"
 haveI hx0:Ext [] σ ((σ.new (.flds "builtin_function_or_method" [.bi "set.__contains__", .ref kj])).new (.tup [.ref x,.ref y,.ref kb,.ref σ.nx])):=(Ext.refl σ).new.new
 exact aOn (w:=w) (mg:=mg) (mb:=mb) (T:=T) (R:=R) (U:=U) (D:=D) (aA aB) (M.ext hx0) (hx0.keep ex (by simp)) (hEx.mono fun _ _ z=>T.isK z hx0.upE) (hx0.keep ey (by simp)) (hEy.mono fun _ _ z=>T.isK z hx0.upE) hx hy ha hax hb hby fun s m q1 q2 q3=>h s m (hx0.trans q1) (Ta hx0.nx q2) q3
theorem aSf {α:Type} [DecidableEq α] {T:El α} {k d x y kb kj kp n0:Nat} {kvs:List (α×AV)} {as bs':List AV} {xs ys:List α} {vm vo:AV} {R:AV→AH→Prop}
 (M:SM T σ k d x y kb kj kp n0 kvs ys vm vo) (ex:σ.get x=some (.list as)) (hEx:All2 (T.is σ) as xs) (ey:σ.get y=some (.list bs')) (hEy:All2 (T.is σ) bs' ys) (hx:xs.length≤100) (hy:ys.length≤100)
 (h:∀ σ' m,Ext [] σ σ'→σ.nx≤m→σ'.get m=some (.mtup aL [.int (flm xs ys 0 xs.length 0 ys.length).1,.int (flm xs ys 0 xs.length 0 ys.length).2.1,.int (flm xs ys 0 xs.length 0 ys.length).2.2])→R (.ref m) σ') :
  ClV (c1 w mg mb none) sc (U+3+3+3) (D+1+1+1) (.glob bH) [.ref k] loc σ R:=by
 haveI mk:=M.k
 haveI md:=M.d
 haveI mb':=M.b
 haveI mj:=M.j
 haveI hlx:=hEx.length
 haveI hly:=hEy.length
 refine aFt (c:=c1 w mg mb none) (scope:=aG aX) (loc₀:=[(S "self", .ref k),(S "alo", .int 0),(S "ahi", .none),(S "blo", .int 0),(S "bhi", .none)]) (bS w.params) (by kernel_rfl)
  (bG [S "self", S "alo", S "ahi", S "blo", S "bhi"] [.int 0,.none,.int 0,.none] [.int 0 601,.none,.int 0 602,.none] (fun _ _=>.cons (.int _ _) (.cons (.none) (.cons (.int _ _) (.cons .none .nil)))) (fun vs s hX hl=>by obtain ⟨a⟩:=vs1 hl;exact kp_binds hX (fun St=>by kernel_rfl)) (by kernel_rfl) rfl (by kernel_rfl)) (by kernel_rfl) ?_
 refine aH ?_
 iterate 51 walk_at "ev"
 rw [hlx,hly]
 haveI hx0:Ext [] σ ((σ.new (.flds "builtin_function_or_method" [.bi "set.__contains__", .ref kj])).new (.tup [.ref x,.ref y,.ref kb,.ref σ.nx])):=(Ext.refl σ).new.new
 exact aOn (w:=w) (mg:=mg) (mb:=mb) (T:=T) (R:=R) (U:=U) (D:=D) (aA aB) (M.ext hx0) (hx0.keep ex (by simp)) (hEx.mono fun _ _ z=>T.isK z hx0.upE) (hx0.keep ey (by simp)) (hEy.mono fun _ _ z=>T.isK z hx0.upE) hx hy (Nat.zero_le _) (Te _) (Nat.zero_le _) (Te _) fun s m q1 q2 q3=>h s m (hx0.trans q1) (Ta hx0.nx q2) q3
end
theorem All2.perm {α β:Type} {R:α→β→Prop} {bs bs':List β} (p:bs.Perm bs'):∀ {as:List α},All2 R as bs→∃ as',as.Perm as'∧All2 R as' bs':=by
 induction p with
 | nil=>intro as h;exact ⟨as,.refl _,h⟩
 | cons x p ih =>
  intro as h
  cases h with
  | cons h t=>obtain ⟨as',p',h'⟩:1:=ih t;exact ⟨_::as',.cons _ p',.cons h h'⟩
 | swap x y l =>
  intro as h
  cases h with
  | cons h t=>cases t with | cons h' t=>exact ⟨_,.swap _ _ _,.cons h' (.cons h t)⟩
 | trans p q ih1 ih2 =>
  intro as h
  obtain ⟨a1,p1,h1⟩:1:=ih1 h
  obtain ⟨a2,p2,h2⟩:1:=ih2 h1
  exact ⟨a2,p1.trans p2,h2⟩
theorem All2.len {α β:Type} {R:α→β→Prop} {as:List α} {bs:List β} (h:All2 R as bs):as.length=bs.length:=by
 induction h with
 | nil=>rfl
 | cons _ _ ih=>simp [ih]
theorem All2.imp {α β:Type} {R R':α→β→Prop} {as:List α} {bs:List β} (h:All2 R as bs) (f:∀ a b,R a b→R' a b):All2 R' as bs:=by
 induction h with
 | nil=>exact .nil
 | cons h _ ih=>exact .cons (f _ _ h) ih
theorem All2.get {α β:Type} {R:α→β→Prop} {as:List α} {bs:List β} (h:All2 R as bs):∀ {i:Nat} {b:β},bs[i]? = some b→∃ a,as[i]? = some a∧R a b:=by
 induction h with
 | nil=>intro i b e;simp at e
 | cons h _ ih =>
  intro i b e
  cases i with
  | zero=>exact ⟨_,rfl,by cases e;exact h⟩
  | succ i=>exact ih e
theorem All2.snoc {α β:Type} {R:α→β→Prop} {as:List α} {bs:List β} {a:α} {b:β} (h:All2 R as bs) (q:R a b):All2 R (as++[a]) (bs++[b]):=by
 induction h with
 | nil=>exact .cons q .nil
 | cons h _ ih=>exact .cons h ih
theorem All2.pop {α β:Type} {R:α→β→Prop} {b:β}:∀ {bs:List β} {as:List α},All2 R as (bs++[b])→∃ as' a,as=as'++[a]∧All2 R as' bs∧R a b
 | [],_,h=>by cases h with | cons h t=>cases t;exact ⟨[],_,rfl,.nil,h⟩
 | c::bs,_,h=>by
  cases h with
  | cons h t=>obtain ⟨as',a,rfl,h1,h2⟩:2:=All2.pop t;exact ⟨_::as',a,rfl,.cons h h1,h2⟩
def Tps (mk:List AV→AO) (σ:AH) (as:List AV) (bs:List (List AV)):Prop:=All2 (fun a b=>∃ m,a=.ref m∧σ.get m=some (mk b)) as bs
theorem Tps.keep {mk:List AV→AO} {σ σ':AH} {as:List AV} {bs:List (List AV)} (h:Tps mk σ as bs) (hk:∀ m xs,σ.get m=some (mk xs)→σ'.get m=some (mk xs)):Tps mk σ' as bs:=h.imp fun a b ⟨m,e,q⟩=>⟨m,e,hk m _ q⟩
theorem Tps.ext {mk:List AV→AO} {σ σ':AH} {as:List AV} {bs:List (List AV)} (h:Tps mk σ as bs) (hx:Ext [] σ σ'):Tps mk σ' as bs:=h.keep fun m xs e=>hx.keep e (by simp)
theorem Tps.new {mk:List AV→AO} {σ:AH} {as:List AV} {bs:List (List AV)} {o:AO} (h:Tps mk σ as bs):Tps mk (σ.new o) as bs:=h.keep fun m xs e=>aA e
theorem Tps.setT {σ:AH} {as:List AV} {bs:List (List AV)} {k:Nat} {l:List AV} {o:AO} (h:Tps .tup σ as bs) (e:σ.get k=some (.list l)):Tps .tup (σ.set k o) as bs:=h.keep fun m xs q=>aC (aE q e (by intro h;cases h)) q
theorem Tps.setM {C:Addr} {σ:AH} {as:List AV} {bs:List (List AV)} {k:Nat} {l:List AV} {o:AO} (h:Tps (.mtup C) σ as bs) (e:σ.get k=some (.list l)):Tps (.mtup C) (σ.set k o) as bs:=h.keep fun m xs q=>aC (aE q e (by intro h;cases h)) q
theorem SM.setD {α:Type} [DecidableEq α] {T:El α} {σ:AH} {k d x y kb kj kp n0:Nat} {kvs:List (α×AV)} {ys:List α} {vm vo:AV} (M:SM T σ k d x y kb kj kp n0 kvs ys vm vo) (vm' vo':AV) :
  SM T (σ.set d (.idict [(S "isjunk", .none),(S "a", .ref x),(S "b", .ref y),(S "autojunk", .bool true),(S "matching_blocks", vm'),(S "opcodes", vo'),(S "fullbcount", .none),(S "b2j", .ref kb),(S "bjunk", .ref kj),(S "bpopular", .ref kp)])) k d x y kb kj kp n0 kvs ys vm' vo':=by
 refine ⟨M.n,aC (aE M.k M.d (by intro h;cases h)) M.k,aF M.d,T.keep M.b (Up.set M.d fun ws=>nofun) fun o e _=>aC M.n e,⟨M.t.no,fun z a q=>?_,M.t.one⟩,aC (aE M.j M.d (by intro h;cases h)) M.j⟩
 refine hid ?_;intro ZZ zz
 obtain ⟨l,e,hl,g⟩:1:=M.t.yes z a q
 refine zz ?_;clear zz
 exact ⟨l,e,hl,aC (aE g M.d (by intro h;cases h)) g⟩
noncomputable def q4 (e:Nat×Nat×Nat×Nat):List AV:=[.int e.1,.int e.2.1,.int e.2.2.1,.int e.2.2.2]
noncomputable def b3 (e:Nat×Nat×Nat):List AV:=[.int e.1,.int e.2.1,.int e.2.2]
noncomputable def aEu (σ:AH) (a:AV):Int:=match a with
 | .ref m=>match σ.get m with
  | some (.mtup _ (.int i::_))=>i
  | _=>0
 | _=>0
theorem vA {σ:AH} {C:Addr} {a:AV} {b:Nat×Nat×Nat} (h:∃ m,a=.ref m∧σ.get m=some (.mtup C (b3 b))):aEu σ a=b.1:=by
 obtain ⟨m,rfl,e⟩:1:=h
 simp only [aEu,e,b3]
theorem aMz {σ:AH} {C:Addr} {as:List AV} {bs:List (Nat×Nat×Nat)} (h:Tps (.mtup C) σ as (bs.map b3)):∀ a∈as,∃ m r,a=.ref m∧σ.get m=some (.mtup C (.int (aEu σ a)::r)):=by
 induction bs generalizing as with
 | nil=>cases h;intro a ha;cases ha
 | cons b bs ih =>
  cases h with
  | cons h t =>
   intro a ha
   rcases Tf ha with rfl | ha
   ·refine hid ?_;intro ZZ zz
    obtain ⟨m,e,q⟩:1:=id h
    refine zz ?_;clear zz
    exact ⟨m,_,e,by rw [vA h];exact q⟩
   ·exact ih t a ha
theorem xU {σ:AH} {C:Addr} {as:List AV} {bs:List (Nat×Nat×Nat)} (h:Tps (.mtup C) σ as (bs.map b3)) (hp:bs.Pairwise fun a b=>a.1+a.2.2≤b.1) (hk:∀ b∈bs,0 < b.2.2):as.Pairwise fun a b=>aEu σ a < aEu σ b:=by
 induction bs generalizing as with
 | nil=>cases h;exact .nil
 | cons b bs ih =>
  cases h with
  | cons h t =>
   obtain ⟨p1,p2⟩:0:=List.pairwise_cons.mp hp
   refine .cons (fun a ha=>?_) (ih t p2 fun b hb=>hk b (.tail _ hb))
   obtain ⟨i,hi,rfl⟩:=List.getElem_of_mem ha
   haveI hl:=All2.len t
   rw [List.length_map] at hl
   obtain ⟨a',e,q⟩:1:=All2.get t (i:=i) (b:=b3 (bs[i]'(by exact (kL hl hi)))) (by rw [List.getElem?_map,List.getElem?_eq_getElem (by exact (kL hl hi))];rfl)
   rw [List.getElem?_eq_getElem hi] at e
   cases e
   rw [vA h,vA q]
   haveI:=p1 _ (List.getElem_mem (l:=bs) (n:=i) (by exact (kL hl hi)))
   haveI:=hk b (List.mem_cons_self ..)
   lia
structure QS (σ s:AH) (aq am:List AV) (qs:List (Nat×Nat×Nat×Nat)) (mb:List (Nat×Nat×Nat)):Prop where
 ext:Ext [] σ s
 nx:σ.nx+4≤s.nx
 gq:s.get (σ.nx+2)=some (.list aq)
 gm:s.get (σ.nx+3)=some (.list am)
 hq:Tps .tup s aq (qs.map q4)
 hm:Tps (.mtup aL) s am (mb.map b3)
theorem QS.push {σ s:AH} {aq am:List AV} {qs:List (Nat×Nat×Nat×Nat)} {mb:List (Nat×Nat×Nat)} (h:QS σ s aq am qs mb) (e:Nat×Nat×Nat×Nat) :
  QS σ ((s.new (.tup (q4 e))).set (σ.nx+2) (.list (aq++[.ref s.nx]))) (aq++[.ref s.nx]) am (qs++[e]) mb:=by
 haveI g:=aA (o:=.tup (q4 e)) h.gq
 haveI g2:=aA (o:=.tup (q4 e)) h.gm
 refine ⟨h.ext.new.set (.inr (by lia)),Nat.le_succ_of_le h.nx,aF g,aC (by lia) g2,?_,Tps.setM h.hm.new g⟩
 rw [List.map_append]
 exact All2.snoc (Tps.setT h.hq.new g) ⟨_,rfl,aC (aE aB g (by intro h;cases h)) aB⟩
theorem QS.found {σ s:AH} {aq am:List AV} {qs:List (Nat×Nat×Nat×Nat)} {mb:List (Nat×Nat×Nat)} (h:QS σ s aq am qs mb) {m:Nat} {b:Nat×Nat×Nat} (e:s.get m=some (.mtup aL (b3 b))) :
  QS σ (s.set (σ.nx+3) (.list (am++[.ref m]))) aq (am++[.ref m]) qs (mb++[b]):=by
 refine ⟨h.ext.set (.inr (by lia)),h.nx,aC (by lia) h.gq,aF h.gm,Tps.setT h.hq h.gm,?_⟩
 rw [List.map_append]
 exact All2.snoc (Tps.setM h.hm h.gm) ⟨_,rfl,aC (aE e h.gm (by intro h;cases h)) e⟩
theorem aSg (a c i j:Nat):(qL a c i j).length≤1:=by unfold qL;split <;> simp
noncomputable def fX (ct:List (Nat×Nat×Nat)) (t:Nat):Nat×Nat×Nat:=if t=0 then (0,0,0) else ct.getD (t - 1) (0,0,0)
structure MG (σ0 σ:AH) (mm t it l q S:Nat) (xs acc:List AV) (bs:List (Nat×Nat×Nat)) (i:Nat):Prop where
 ext:Ext [] σ0 σ
 it0:σ0.nx≤it
 s0:σ0.nx≤S
 sl:S≠l
 e1:σ.get mm=some (.flds "map" [.ref t,.ref q])
 e2:σ.get t=some (.tup [.ref it])
 e3:σ.get it=some (.flds "list_iterator" [.ref l,.int i])
 e4:σ.get l=some (.list xs)
 e5:σ.get q=some (.flds "method" [.glob pW,.glob aL])
 e6:σ.get S=some (.list acc)
 hT:Tps .tup σ xs (bs.map b3)
 hA:Tps (.mtup aL) σ acc ((bs.take i).map b3)
theorem aOo {w:World} {mg mb:Str→Option Value} {sc:Scope} {U D:Nat} {loc:Loc} {σ0:AH} {mm t it l q S:Nat} {xs:List AV} {bs:List (Nat×Nat×Nat)} {R:AV→AH→Prop} (hb:bs.length≤900)
  (h:∀ σ' acc,Ext [] σ0 σ'→σ'.get S=some (.list acc)→Tps (.mtup aL) σ' acc (bs.map b3)→R (.ref S) σ') :
  ∀ (n i:Nat) (acc:List AV) (σ:AH),i+n=bs.length→MG σ0 σ mm t it l q S xs acc bs i→aCv (c1 w mg mb none) sc (U+3+1) (D+1) (.ref mm) S loc R (n+1) acc σ
 | 0,i,acc,σ,hi,G=>by
  haveI hxl:=All2.len G.hT
  rw [List.length_map] at hxl
  refine yZ G.e1 G.e2 G.e3 G.e4 (List.getElem?_eq_none (by exact (oY hi (Nat.le_of_eq hxl)))) ⟨aC (aE G.e6 G.e3 (by intro h;cases h)) G.e6,?_⟩
  refine h _ acc (G.ext.set (.inr G.it0)) (aC (aE G.e6 G.e3 (by intro h;cases h)) G.e6) ?_
  haveI:=G.hA
  rw [List.take_of_length_le (by lia)] at this
  exact this.keep fun m x e=>aC (aE e G.e3 (by intro h;cases h)) e
 | n+1,i,acc,σ,hi,G=>by
  haveI hbi:bs[i]? = some bs[i]:=List.getElem?_eq_getElem (by exact (iC hi))
  refine hid ?_;intro ZZ zz
  obtain ⟨a,hxa,m,rfl,gm⟩:=All2.get G.hT (i:=i) (b:=b3 bs[i]) (by rw [List.getElem?_map,hbi];rfl)
  refine zz ?_;clear zz
  haveI hal:=All2.len G.hA
  rw [List.length_map,List.length_take] at hal
  refine vX G.e1 G.e2 G.e3 G.e4 hxa ?_
  haveI K:∀ {j:Nat} {o:AO},σ.get j=some o→(∀ x y,o≠.flds "list_iterator" [x,y])→(σ.set it (.flds "list_iterator" [.ref l,.int ((i+1:Nat):Int)])).get j=some o:=fun e hn=>aC (aE e G.e3 (hn _ _)) e
  refine aCy (K G.e5 (by intro x y h;injection h with h1;exact absurd h1 (by decide))) (aEt (K gm (by intro x y h;cases h)) ⟨aA (K G.e6 (by intro x y h;cases h)),by grind,?_⟩)
  refine aOo (t:=t) (it:=it) (l:=l) (q:=q) (xs:=xs) hb h n (i+1) _ _ (by exact (aCe hi)) ?_
  haveI N:∀ {j:Nat} {o:AO},σ.get j=some o→(∀ x y,o≠.flds "list_iterator" [x,y])→(∀ x,o≠.list x)→(((σ.set it (.flds "list_iterator" [.ref l,.int ((i+1:Nat):Int)])).new (.mtup aL [.int (bs[i]).1,.int (bs[i]).2.1,.int (bs[i]).2.2])).set S (.list (acc++[.ref (σ.set it (.flds "list_iterator" [.ref l,.int ((i+1:Nat):Int)])).nx]))).get j=some o:=fun e h1 h2=>aC (aE e G.e6 (h2 _)) (aA (K e h1))
  haveI sT:S≠it:=aE G.e6 G.e3 (by intro h;cases h)
  exact ⟨((G.ext.set (.inr G.it0)).new).set (.inr G.s0),G.it0,G.s0,G.sl,N G.e1 (by intro x y h;injection h with h1;exact absurd h1 (by decide)) (by intro x h;cases h),N G.e2 (by intro x y h;cases h) (by intro x h;cases h),
   aC (fun z=>sT z.symm) (aA (aF G.e3)),aC (fun z=>G.sl z.symm) (aA (K G.e4 (by intro x y h;cases h))),
   N G.e5 (by intro x y h;injection h with h1;exact absurd h1 (by decide)) (by intro x h;cases h),aF (aA (K G.e6 (by intro x y h;cases h))),
   G.hT.keep fun j x e=>N e (by intro x y h;cases h) (by intro x h;cases h),by
    rw [List.take_add_one,hbi,List.map_append]
    refine All2.snoc (G.hA.keep fun j x e=>N e (by intro x y h;cases h) (by intro x h;cases h)) ⟨_,rfl,?_⟩
    exact aC (p:=.mtup aL (b3 bs[i])) (aE (o:=.mtup aL (b3 bs[i])) (p:=.list acc) aB (aA (K G.e6 (by intro x y h;cases h))) (by intro h;cases h)) aB⟩
section
variable {w:World} {mg mb:Str→Option Value} {sc:Scope} {U D:Nat} {loc:Loc} {σ:AH}
theorem aJs {ct:List (Nat×Nat×Nat)} (z:ct.length=0):(fX ct ct.length).2.2=0∧ct.take (ct.length - 1)=ct:=by
 cases ct with
 | nil=>exact ⟨rfl,rfl⟩
 | cons _ _=>cases z
theorem aYt {α:Type} [DecidableEq α] {T:El α} {k d x y kb kj kp n0:Nat} {kvs:List (α×AV)} {as bs':List AV} {xs ys:List α} {vo:AV} {R:AV→AH→Prop}
 (M:SM T σ k d x y kb kj kp n0 kvs ys .none vo) (ex:σ.get x=some (.list as)) (hEx:All2 (T.is σ) as xs) (ey:σ.get y=some (.list bs')) (hEy:All2 (T.is σ) bs' ys) (hx:xs.length≤50) (hy:ys.length≤50)
 (h:∀ σ' km ms,Ext [d] σ σ'→σ.nx≤km→SM T σ' k d x y kb kj kp n0 kvs ys (.ref km) vo→σ'.get km=some (.list ms)→Tps (.mtup aL) σ' ms ((cut xs ys 0 xs.length 0 ys.length++[(xs.length,ys.length,0)]).map b3)→R (.ref km) σ') :
  ClV (c1 w mg mb none) sc (U+3+3+3+3) (D+1+1+1+1) (.glob bV) [.ref k] loc σ R:=by
 haveI mk:=M.k
 haveI md:=M.d
 haveI mb':=M.b
 haveI mj:=M.j
 haveI hlx:=hEx.length
 haveI hly:=hEy.length
 refine en (c:=c1 w mg mb none) (scope:=aG fF) (loc₀:=[(S "self", .ref k)]) [S "self"] (eH w.params) (by kernel_rfl) (fun St a=>by show _=_;kernel_rfl) ?_
 refine aH ?_
 walk_at "e"
 simp only [hlx,hly]
 refine cR (fun n l s=>∃ qs mb' aq am,Sub [(S "self", .ref k),(S "lb", .int ys.length),(S "la", .int xs.length),(S "queue", .ref (σ.nx+2)),(S "matching_blocks", .ref (σ.nx+3))] l∧QS σ s aq am qs mb'∧Qok xs ys qs mb'∧n=qm qs∧n≤101) (qm [(0,xs.length,0,ys.length)]) ?_ ?_
 ·refine ⟨[(0,xs.length,0,ys.length)],[],[.ref (σ.nx+1)],[],Sub.refl _,⟨((((Ext.refl σ).new).new).new).new,Te _,aA aB,aB,All2.cons ⟨_,rfl,aA (aA aB)⟩ .nil,All2.nil⟩,Qok.start,rfl,by simp [qm];lia⟩
 ·rintro n l s hz3
  obtain ⟨qs,mb',aq,am,hsub,hS,hz3⟩:4:=hz3
  obtain ⟨hQ,rfl,hn⟩:0:=hz3
  haveI hext:=hS.1
  haveI hnx:=hS.2
  haveI gq:=hS.3
  haveI gm:=hS.4
  haveI hq:=hS.5
  haveI hm:=hS.6
  clear hS
  refine ⟨_,hsub,?_⟩
  haveI gx:=hext.keep ex (by simp)
  haveI gy:=hext.keep ey (by simp)
  haveI M':SM T s k d x y kb kj kp n0 kvs ys .none vo:=M.ext hext
  haveI hql:=aSa qs
  haveI haq:=All2.len hq
  haveI ham:=All2.len hm
  haveI hmb:mb'.length≤50:=by
   haveI:=hQ.p.length_eq
   haveI h2:=jJ (xs:=xs) (ys:=ys) (alo:=0) (ahi:=xs.length) (blo:=0) (bhi:=ys.length)
   rw [List.length_append] at this
   lia
  rw [List.length_map] at haq ham
  walk_at "e"
  refine aFn gq (by lia) ?_
  constructor
  ·intro hb
   obtain ⟨qs',e,rfl⟩:∃ qs' e,qs=qs'++[e]:=by
    rcases List.eq_nil_or_concat qs with z | ⟨a,b,z⟩
    ·subst z;cases hq;simp at hb
    ·exact ⟨a,b,by simpa using z⟩
   obtain ⟨a,b,c,e⟩:=e
   rw [List.map_append] at hq
   refine hid ?_;intro ZZ zz
   obtain ⟨aq',at',rfl,hq1,mt,rfl,gt⟩:=All2.pop hq
   refine zz ?_;clear zz
   haveI hv:=hQ.v (a,b,c,e) (Ti _ (List.mem_singleton.mpr rfl))
   dsimp only at hv
   haveI gt:s.get mt=some (.tup [.int a,.int b,.int c,.int e]):=gt
   refine ExS.abs ?_;intro K₁ k₁
   walk_at "e"
   refine tQ gq PySem.F.slot_list_pop PySem.F.type_list_pop ?_
   walk_at "e"
   refine aLe gq (by simp at haq hql;lia) ?_
   haveI hext2:Ext [] σ (s.set (σ.nx+2) (.list aq')):=hext.set (.inr (by lia))
   haveI gt2:=aC (o:=.list aq') (aE gt gq (by intro h;cases h)) gt
   haveI gq2:=aF (o:=.list aq') gq
   haveI gm2:=aC (o:=.list aq') (show σ.nx+3≠σ.nx+2 by lia) gm
   haveI hq2:=Tps.setT (o:=.list aq') hq1 gq
   haveI hm2:=Tps.setM (o:=.list aq') hm gq
   haveI hnx2:σ.nx+4≤(s.set (σ.nx+2) (.list aq')).nx:=hnx
   generalize s.set (σ.nx+2) (.list aq')=s2 at *
   haveI M2:=M.ext hext2
   haveI mk2:=M2.k
   haveI md2:=M2.d
   haveI gx2:=hext2.keep ex (by simp)
   haveI gy2:=hext2.keep ey (by simp)
   walk_at "e"
   refine aYs M2 gx2 (hEx.mono fun _ _ z=>T.isK z hext2.upE) gy2 (hEy.mono fun _ _ z=>T.isK z hext2.upE) (by exact (Ta hx (Tb rfl))) (by exact (Ta hy (Tb rfl))) hv.1 hv.2.1 hv.2.2.1 hv.2.2.2 fun s3 mx h3 hmx gmx=>?_
   haveI B:=flm_best (xs:=xs) (ys:=ys) (alo:=a) (ahi:=b) (blo:=c) (bhi:=e)
   generalize hf:flm xs ys a b c e=r at *
   refine hid ?_;intro ZZ zz
   obtain ⟨i,j,kk⟩:=r
   refine zz ?_;clear zz
   dsimp only at gmx
   haveI gq3:=h3.keep gq2 (by simp)
   haveI gm3:=h3.keep gm2 (by simp)
   haveI hq3:=hq2.ext h3
   haveI hm3:=hm2.ext h3
   haveI hext3:=hext2.trans h3
   haveI hnx3:=Ta hnx2 h3.nx
   haveI hS3:QS σ s3 aq' am qs' mb':=⟨hext3,hnx3,gq3,gm3,hq3,hm3⟩
   haveI hal:aq'.length=qs'.length:=by haveI:=All2.len hq1;simpa using this
   haveI hql2:qs'.length < 101:=by rw [List.length_append] at hql;simp at hql;lia
   walk_at "e"
   by_cases hk:kk=0
   ·refine gJ (by rw [hk];rfl) ?_
    walk_at "e"
    refine ⟨qm qs',by rw [rA];simp [qm],qs',mb',aq',am,Sub.app _ _,hS3,hQ.none (by rw [hf];exact hk),rfl,by rw [rA] at hn;exact (aOr hn)⟩
   obtain ⟨hQ4,hlt⟩:0:=hQ.some hf (by exact (Nat.pos_of_ne_zero hk))
   refine fS (by simp;omega) ?_
   refine aH ?_
   refine cT (fun l s=>Sub [(S "self", .ref k),(S "lb", .int ys.length),(S "la", .int xs.length),(S "queue", .ref (σ.nx+2)),(S "matching_blocks", .ref (σ.nx+3)),(S "alo", .int a),(S "ahi", .int b),(S "blo", .int c),(S "bhi", .int e),(S "i", .int i),(S "j", .int j),(S "k", .int kk),(S "x", .ref mx)] l∧QS σ s aq' (am++[.ref mx]) qs' (mb'++[(i,j,kk)])) ?_ ?_
   ·refine Ex1.abs ?_;intro K₂ k₂
    walk_at "e"
    exact ⟨rfl,Sub.refl _,hS3.found (b:=(i,j,kk)) gmx⟩
   rintro l4 s4 ⟨hsub4,hS4⟩
   refine bE hsub4 ?_
   generalize am++[.ref mx]=am4 at *
   refine aH ?_
   refine cT (fun l s=>∃ aq5,Sub [(S "self", .ref k),(S "lb", .int ys.length),(S "la", .int xs.length),(S "queue", .ref (σ.nx+2)),(S "matching_blocks", .ref (σ.nx+3)),(S "alo", .int a),(S "ahi", .int b),(S "blo", .int c),(S "bhi", .int e),(S "i", .int i),(S "j", .int j),(S "k", .int kk),(S "x", .ref mx)] l∧QS σ s aq5 am4 (qs'++qL a c i j) (mb'++[(i,j,kk)])) ?_ ?_
   ·refine Ex1.abs ?_;intro K₂ k₂
    haveI gq4:=hS4.gq
    walk_at "e"
    by_cases c1:a < i
    ·refine dU (by exact (rK c1)) ?_
     walk_at "e"
     by_cases c2:c < j
     ·refine dU (by exact (rK c2)) ?_
      walk_at "e"
      refine ⟨rfl,aq'++[.ref s4.nx],Sub.refl _,?_⟩
      rw [qL,if_pos ⟨c1,c2⟩]
      exact hS4.push (a,i,c,j)
     ·refine dL (by exact (jS c2)) ?_
      walk_at "e"
      refine ⟨rfl,aq',Sub.refl _,?_⟩
      rw [qL,if_neg fun z=>c2 z.2,List.append_nil];exact hS4
    ·refine dL (by exact (jS c1)) ?_
     walk_at "e"
     refine ⟨rfl,aq',Sub.refl _,?_⟩
     rw [qL,if_neg fun z=>c1 z.1,List.append_nil];exact hS4
   ·rintro l5 s5 hz2
    obtain ⟨aq5,hsub5,hS5⟩:1:=hz2
    refine bE hsub5 ?_
    haveI hl5:=All2.len hS5.hq
    haveI hqL:=aSg a c i j
    rw [List.length_map,List.length_append] at hl5
    refine aH ?_
    refine cT (fun l s=>∃ aq5,Sub [(S "self", .ref k),(S "lb", .int ys.length),(S "la", .int xs.length),(S "queue", .ref (σ.nx+2)),(S "matching_blocks", .ref (σ.nx+3))] l∧QS σ s aq5 am4 (qs'++qL a c i j++qL (i+kk) (j+kk) b e) (mb'++[(i,j,kk)])) ?_ ?_
    ·refine Ex1.abs ?_;intro K₂ k₂
     haveI gq5:=hS5.gq
     walk_at "e"
     by_cases c1:i+kk < b
     ·refine dU (by lia) ?_
      walk_at "e"
      by_cases c2:j+kk < e
      ·refine dU (by lia) ?_
       walk_at "e"
       refine ⟨rfl,aq5++[.ref s5.nx],Sub.app _ _,?_⟩
       rw [qL,qL,if_pos (show i+kk < b∧j+kk < e from ⟨c1,c2⟩)]
       exact hS5.push (i+kk,b,j+kk,e)
      ·refine dL (by lia) ?_
       walk_at "e"
       refine ⟨rfl,aq5,Sub.app _ _,?_⟩
       rw [show qL (i+kk) (j+kk) b e=[] from if_neg fun z=>c2 z.2,List.append_nil];exact hS5
     ·refine dL (by lia) ?_
      walk_at "e"
      refine ⟨rfl,aq5,Sub.app _ _,?_⟩
      rw [show qL (i+kk) (j+kk) b e=[] from if_neg fun z=>c1 z.1,List.append_nil];exact hS5
    ·rintro l6 s6 hz2
     obtain ⟨aq6,hsub6,hS6⟩:1:=hz2
     walk_at "e"
     exact ⟨_,hlt,_,_,aq6,am4,hsub6,hS6,hQ4,rfl,by exact (Nat.le_of_lt (Tc hlt hn))⟩
  ·intro hb
   haveI hqs:qs=[]:=by
    cases qs with
    | nil=>rfl
    | cons z zs=>cases hq;simp at hb
   subst hqs
   refine ExS.abs ?_;intro K₁ k₁
   walk_at "e"
   refine tQ gm PySem.F.slot_list_sort PySem.F.type_list_sort ?_
   walk_at "e"
   obtain ⟨ms2,pm,hms⟩:1:=All2.perm (hQ.stop.map b3) hm
   haveI hC:=xN (xs:=xs) (ys:=ys) (alo:=0) (ahi:=xs.length) (blo:=0) (bhi:=ys.length)
   haveI hCm:=fun b=>oW (xs:=xs) (ys:=ys) (alo:=0) (ahi:=xs.length) (blo:=0) (bhi:=ys.length) (b:=b)
   haveI hCl:=jJ (xs:=xs) (ys:=ys) (alo:=0) (ahi:=xs.length) (blo:=0) (bhi:=ys.length)
   generalize hct:cut xs ys 0 xs.length 0 ys.length=ct at *
   refine aGj (C:=aL) (ys:=ms2) (by kernel_rfl) (aEu s) gm (fun z hz=>aMz hm z hz) pm (xU hms (hC.imp fun q=>q.1) fun b hb=>(hCm b hb).2) (by exact (Ta (Nat.le_of_eq ham) (Ta hmb (Tb rfl)))) ?_
   haveI hm2:=Tps.setM (o:=.list ms2) hms gm
   haveI gm2:=aF (o:=.list ms2) gm
   haveI hext2:Ext [] σ (s.set (σ.nx+3) (.list ms2)):=hext.set (.inr (by lia))
   haveI hnx2:σ.nx+4≤(s.set (σ.nx+3) (.list ms2)).nx:=hnx
   generalize s.set (σ.nx+3) (.list ms2)=s2 at *
   haveI hl2:=All2.len hms
   rw [List.length_map] at hl2
   walk_at "e"
   refine gE (fun _ _=>rfl) (gF ?_)
   walk_at "e"
   refine ⟨_,ms2,rfl,aA gm2,fun t l s'=>∃ an,Sub [(S "self", .ref k),(S "lb", .int ys.length),(S "la", .int xs.length),(S "i1", .int (fX ct t).1),(S "j1", .int (fX ct t).2.1),(S "k1", .int (fX ct t).2.2),(S "non_adjacent", .ref s2.nx)] l∧Ext [] s2 s'∧s2.nx+1≤s'.nx∧s'.get s2.nx=some (.list an)∧Tps .tup s' an ((ct.take (t - 1)).map b3),?_,?_,?_,?_⟩
   ·exact ⟨[],by walk_at "sub", (Ext.refl s2).new,Te _,aB,All2.nil⟩
   ·rintro t l s' hz3
    obtain ⟨an,_,h2,_⟩:1:=hz3
    exact h2.keep gm2 (by simp)
   ·rintro t a l s' s'' ht hz6 hz7
    refine hid ?_;intro ZZ zz
    obtain ⟨an,hsub2,h2,hn2,gn,ha⟩:1:=hz6
    obtain ⟨hat,rfl⟩:=hz7
    haveI ht:t < ms2.length:=ht
    haveI hbt:ct[t]? = some ct[t]:=List.getElem?_eq_getElem (by exact (kL hl2 ht))
    obtain ⟨a',hxa,m,rfl,gm'⟩:=All2.get hm2 (i:=t) (b:=b3 ct[t]) (by rw [List.getElem?_map,hbt];rfl)
    refine zz ?_;clear zz
    haveI ham:a=.ref m:=by haveI:=hat.symm.trans hxa;exact Option.some.inj this
    subst ham
    haveI gm3:=h2.keep gm' (by simp)
    haveI hal:=All2.len ha
    rw [List.length_map,List.length_take] at hal
    refine gH hsub2 ?_
    haveI hbp:=(hCm _ (List.getElem_mem (l:=ct) (n:=t) (by exact (kL hl2 ht)))).2
    haveI hcb1:fX ct (t+1)=ct[t]:=by unfold fX;rw [if_neg (by lia)];simp [show t < ct.length by exact (kL hl2 ht)]
    haveI hp0:t=0→fX ct t=(0,0,0):=fun z=>by unfold fX;rw [if_pos z]
    haveI hp1:0 < t→ct[t - 1]? = some (fX ct t)∧0 < (fX ct t).2.2∧Rb (fX ct t) ct[t]:=fun z=>by
     haveI e:fX ct t=ct[t - 1]:=by unfold fX;rw [if_neg (by exact (Nat.ne_of_gt z))];simp [show t - 1 < ct.length by exact (iD (kL hl2 ht))]
     rw [e]
     exact ⟨List.getElem?_eq_getElem (by exact (iD (kL hl2 ht))),(hCm _ (List.getElem_mem (by exact (iD (kL hl2 ht))))).2,List.pairwise_iff_getElem.mp hC (t - 1) t (by exact (iD (kL hl2 ht))) (by exact (kL hl2 ht)) (by exact (dQ z))⟩
    generalize hcb:fX ct t=p at *
    generalize hb:ct[t]=b at *
    refine hid ?_;intro ZZ zz
    obtain ⟨bi,bj,bk⟩:=b
    obtain ⟨pi,pj,pk⟩:=p
    refine zz ?_;clear zz
    haveI gm3:s''.get m=some (.mtup aL [.int bi,.int bj,.int bk]):=gm3
    dsimp only at hbp hp1 hsub2 ⊢
    rw [hcb1]
    refine As1.mono (R:=fun l s=>s=s''∧Sub [(S "self", .ref k),(S "lb", .int ys.length),(S "la", .int xs.length),(S "i1", .int pi),(S "j1", .int pj),(S "k1", .int pk),(S "non_adjacent", .ref s2.nx),(S "i2", .int bi),(S "j2", .int bj),(S "k2", .int bk)] l) ?_ ?_
    ·walk_at "e"
     exact ⟨rfl,by walk_at "sub"⟩
    rintro l s ⟨es,hsub3⟩
    rw [es]
    clear es
    refine bE hsub3 ?_
    refine ExS.abs ?_;intro K₁ k₁
    refine aH (fZ (oU (b:=decide (pi+pk=bi∧pj+pk=bj)) ?_ ?_))
    ·walk_at "e"
     by_cases e1:pi+pk=bi
     ·refine fS (beq_iff_eq.mpr (by lia)) ?_
      walk_at "e"
      by_cases e2:pj+pk=bj
      ·refine fS (beq_iff_eq.mpr (by lia)) ?_
       walk_at "e"
       exact ⟨(decide_eq_true ⟨e1,e2⟩).symm,rfl⟩
      ·refine gJ (beq_eq_false_iff_ne.mpr (by lia)) ?_
       exact ⟨(decide_eq_false fun z=>e2 z.2).symm,rfl⟩
     ·refine gJ (beq_eq_false_iff_ne.mpr (by lia)) ?_
      exact ⟨(decide_eq_false fun z=>e1 z.1).symm,rfl⟩
    by_cases adj:pi+pk=bi∧pj+pk=bj
    ·refine dU adj ?_
     haveI ht0:t=0:=by
      rcases Nat.eq_zero_or_pos t with z | z
      ·exact z
      ·exact absurd adj (hp1 z).2.2.2.2
     haveI ei:pi=0:=congrArg (·.1) (hp0 ht0)
     haveI ej:pj=0:=congrArg (·.2.1) (hp0 ht0)
     haveI ek:pk=0:=congrArg (·.2.2) (hp0 ht0)
     walk_at "e"
     refine ⟨an,?_,h2,hn2,gn,?_⟩
     ·rw [← adj.1,← adj.2]
      rw [ei,ej,ek]
      haveI e:(((0:Nat):Int)+(bk:Int))=((bk:Nat):Int):=by lia
      rw [e]
      walk_at "sub"
     ·rw [ht0] at ha ⊢
      exact ha
    ·refine dL adj ?_
     refine aH (cT (fun l s=>Sub [(S "self", .ref k),(S "lb", .int ys.length),(S "la", .int xs.length),(S "i1", .int pi),(S "j1", .int pj),(S "k1", .int pk),(S "non_adjacent", .ref s2.nx),(S "i2", .int bi),(S "j2", .int bj),(S "k2", .int bk)] l∧∃ an,Ext [] s2 s∧s2.nx+1≤s.nx∧s.get s2.nx=some (.list an)∧Tps .tup s an ((ct.take t).map b3)) ?_ ?_)
     ·refine Ex1.abs ?_;intro K₂ k₂
      walk_at "e"
      rcases Nat.eq_zero_or_pos t with z | z
      ·haveI ek:pk=0:=congrArg (·.2.2) (hp0 z)
       refine gJ (by rw [ek];rfl) ?_
       walk_at "e"
       refine ⟨rfl,Sub.refl _,an,h2,hn2,gn,?_⟩
       rw [z] at ha ⊢
       exact ha
      ·refine hid ?_;intro ZZ zz
       obtain ⟨q1,q2,q3⟩:0:=hp1 z
       refine zz ?_;clear zz
       refine fS (by simp;exact (Nat.ne_of_gt q2)) ?_
       walk_at "e"
       haveI gn':=aA (o:=.tup (b3 (pi,pj,pk))) gn
       refine ⟨rfl,Sub.refl _,an++[AV.ref s''.nx],(h2.new).set (.inr (Te _)),Nat.le_succ_of_le hn2,aF (o:=.list (an++[AV.ref s''.nx])) gn',?_⟩
       haveI e:ct.take t=ct.take (t - 1)++[(pi,pj,pk)]:=by
        haveI:=List.take_add_one (l:=ct) (i:=t - 1)
        rw [show t - 1+1=t by exact (aZf z),q1] at this
        exact this
       rw [e,List.map_append]
       exact All2.snoc (Tps.setT ha.new gn') ⟨_,rfl,aC (p:=.tup (b3 (pi,pj,pk))) (aE (o:=.tup (b3 (pi,pj,pk))) (p:=.list an) aB gn' (by intro h;cases h)) aB⟩
     ·rintro l s hz2
      refine hid ?_;intro ZZ zz
      obtain ⟨hsub4,an,h2,hn2,gn,ha⟩:=hz2
      refine zz ?_;clear zz
      refine bE hsub4 ?_
      walk_at "e"
      exact ⟨an,by walk_at "sub", h2.new,Nat.le_succ_of_le hn2,aA gn,ha.new⟩
   ·rintro l s' hz2
    obtain ⟨an,hsub2,h2,hn2,gn,ha⟩:1:=hz2
    haveI hN:(fQ (σ.nx+3) ms2).n=ct.length:=hl2
    rw [hN] at hsub2 ha
    refine bE hsub2 ?_
    haveI hal:=All2.len ha
    rw [List.length_map,List.length_take] at hal
    haveI hp0:ct.length=0→(fX ct ct.length).2.2=0∧ct.take (ct.length - 1)=ct:=aJs
    haveI hp1:0 < ct.length→0 < (fX ct ct.length).2.2∧ct.take (ct.length - 1)++[fX ct ct.length]=ct:=fun z=>by
     haveI e:fX ct ct.length=ct[ct.length - 1]:=by unfold fX;rw [if_neg (by exact (Nat.ne_of_gt z))];simp [show ct.length - 1 < ct.length by exact (dQ z)]
     refine ⟨by rw [e];exact (hCm _ (List.getElem_mem (by exact (dQ z)))).2,?_⟩
     haveI:=List.take_add_one (l:=ct) (i:=ct.length - 1)
     rw [show ct.length - 1+1=ct.length by exact (Nat.sub_add_cancel z),List.take_length,List.getElem?_eq_getElem (by exact (dQ z)),← e] at this
     exact this.symm
    generalize hcb:fX ct ct.length=p at *
    refine hid ?_;intro ZZ zz
    obtain ⟨pi,pj,pk⟩:=p
    refine zz ?_;clear zz
    dsimp only at hp0 hp1 hsub2 ⊢
    refine oO (dR ?_)
    refine aH (cT (fun l s=>Sub [(S "self", .ref k),(S "lb", .int ys.length),(S "la", .int xs.length),(S "non_adjacent", .ref s2.nx)] l∧∃ an,Ext [] s2 s∧s2.nx+1≤s.nx∧s.get s2.nx=some (.list an)∧Tps .tup s an (ct.map b3)) ?_ ?_)
    ·refine Ex1.abs ?_;intro K₂ k₂
     walk_at "e"
     rcases Nat.eq_zero_or_pos ct.length with z | z
     ·obtain ⟨rfl,e⟩:0:=hp0 z
      try refine gJ rfl ?_
      walk_at "e"
      exact ⟨rfl,by walk_at "sub", an,h2,hn2,gn,by rw [e] at ha;exact ha⟩
     ·obtain ⟨q1,q2⟩:0:=hp1 z
      refine fS (by simp;exact (Nat.ne_of_gt q1)) ?_
      walk_at "e"
      haveI gn':=aA (o:=.tup (b3 (pi,pj,pk))) gn
      refine ⟨rfl,by walk_at "sub", an++[AV.ref s'.nx],(h2.new).set (.inr (Te _)),Nat.le_succ_of_le hn2,aF (o:=.list (an++[AV.ref s'.nx])) gn',?_⟩
      rw [← q2,List.map_append]
      exact All2.snoc (Tps.setT ha.new gn') ⟨_,rfl,aC (p:=.tup (b3 (pi,pj,pk))) (aE (o:=.tup (b3 (pi,pj,pk))) (p:=.list an) aB gn' (by intro h;cases h)) aB⟩
    rintro l s3 hz2
    refine hid ?_;intro ZZ zz
    obtain ⟨hsub3,an3,h3,hn3,gn3,ha3⟩:=hz2
    refine zz ?_;clear zz
    refine bE hsub3 ?_
    haveI hal3:=All2.len ha3
    rw [List.length_map] at hal3
    refine aH (cT (fun l s=>Sub [(S "self", .ref k),(S "lb", .int ys.length),(S "la", .int xs.length),(S "non_adjacent", .ref s2.nx)] l∧∃ an,Ext [] s2 s∧s2.nx+1≤s.nx∧s.get s2.nx=some (.list an)∧Tps .tup s an ((ct++[(xs.length,ys.length,0)]).map b3)) ?_ ?_)
    ·refine Ex1.abs ?_;intro K₂ k₂
     walk_at "e"
     haveI gn':=aA (o:=.tup (b3 (xs.length,ys.length,0))) gn3
     refine ⟨rfl,by walk_at "sub", an3++[AV.ref s3.nx],(h3.new).set (.inr (Te _)),Nat.le_succ_of_le hn3,aF (o:=.list (an3++[AV.ref s3.nx])) gn',?_⟩
     rw [List.map_append]
     exact All2.snoc (Tps.setT ha3.new gn') ⟨_,rfl,aC (p:=.tup (b3 (xs.length,ys.length,0))) (aE (o:=.tup (b3 (xs.length,ys.length,0))) (p:=.list an3) aB gn' (by intro h;cases h)) aB⟩
    rintro l s4 hz2
    refine hid ?_;intro ZZ zz
    obtain ⟨hsub4,an4,h4,hn4,gn4,ha4⟩:=hz2
    refine zz ?_;clear zz
    refine bE hsub4 ?_
    walk_at "e"
    refine aTk (C:=aL) (f:=pW) (p:=114) (mc:=.type "type") (rest:=[.bool false]) (by kernel_rfl!) (by kernel_rfl!) (by kernel_rfl!) (by kernel_rfl!) ?_
    walk_at "e"
    refine aLi (xs:=an4) (aA gn4) ?_
    walk_at "e"
    haveI hct2:ct.length≤50:=by exact (Ta hCl hx)
    haveI hsl:s2.nx≤s4.nx:=h4.nx
    refine kQ (U:=U+2+3+1) (D:=D+2+1) (fuel:=(ct++[(xs.length,ys.length,0)]).length+1) (T:=.type "map") rfl aB rfl (by decide) (by decide) (aLg (aA aB) (aLh (aA aB) ⟨aB,?_⟩))
    rw [dJ]
    refine aOo (σ0:=s4) (t:=s4.nx+2) (it:=s4.nx+1) (l:=s2.nx) (q:=s4.nx) (xs:=an4) (bs:=ct++[(xs.length,ys.length,0)]) (by simp;exact (Ta hct2 (Tb rfl))) ?_ _ 0 _ _ (Nat.zero_add _) ?_
    ·intro s5 acc h5 gS hS
     haveI hx5:Ext [] σ s5:=(hext2.trans h4).trans h5
     haveI M5:=M.ext hx5
     haveI mk5:=M5.k
     haveI md5:=M5.d
     haveI hkd:k≠d:=aE mk md (by intro h;cases h)
     walk_at "e"
     refine h _ _ acc ((hx5.mono fun j hj=>nomatch hj).set (.inl (List.mem_singleton.mpr rfl))) (by show σ.nx≤s4.nx+1+1+1+1;lia) (M5.setD _ vo) ?_ (hS.keep fun m x e=>aC (aE e md5 (by intro h;cases h)) e)
     exact aC (aE gS md5 (by intro h;cases h)) gS
    ·exact ⟨((((Ext.refl s4).new).new).new).new.new,by show s4.nx≤s4.nx+1;lia,by show s4.nx≤s4.nx+1+1+1+1;lia,by show s4.nx+1+1+1+1≠s2.nx;lia,aA aB,aA (aA aB),aA (aA (aA aB)),aA (aA (aA (aA (aA gn4)))),aA (aA (aA (aA aB))),aB,ha4.new.new.new.new.new,All2.nil⟩
end
section
variable {α:Type} [DecidableEq α] {xs ys:List α} {alo ahi blo bhi:Nat}
noncomputable def kB {α:Type} [DecidableEq α] (xs ys:List α) (ahi bhi:Nat):Nat×Nat×Nat→Nat×Nat→Nat×Nat×Nat:=mI (fun c:Nat×Nat=>Px xs ys ahi bhi (ahi - c.1) c.1 c.2) id
noncomputable def bU {α:Type} [DecidableEq α] (xs ys:List α) (alo ahi blo bhi t u:Nat) (b:Nat×Nat×Nat):Nat×Nat×Nat:=((List.range u).map fun u=>(alo+t,blo+u)).foldl (kB xs ys ahi bhi) b
noncomputable def bT {α:Type} [DecidableEq α] (xs ys:List α) (alo ahi blo bhi t:Nat):Nat×Nat×Nat:=((List.range t).flatMap fun t=>(List.range (bhi - blo)).map fun u=>(alo+t,blo+u)).foldl (kB xs ys ahi bhi) (alo,blo,0)
theorem aSh:bT xs ys alo ahi blo bhi (ahi - alo)=uX xs ys alo ahi blo bhi:=rfl
theorem aNa {t:Nat}:bT xs ys alo ahi blo bhi (t+1)=bU xs ys alo ahi blo bhi t (bhi - blo) (bT xs ys alo ahi blo bhi t):=by
 unfold bT bU
 rw [List.range_succ,List.flatMap_append,List.foldl_append]
 simp
theorem aNb {t u:Nat} {b:Nat×Nat×Nat}:bU xs ys alo ahi blo bhi t (u+1) b=kB xs ys ahi bhi (bU xs ys alo ahi blo bhi t u b) (alo+t,blo+u):=by
 unfold bU
 rw [List.range_succ,List.map_append,List.foldl_append]
 rfl
theorem aBx {i j:Nat} (h:i < ahi):Px xs ys ahi bhi (ahi - i) i j=if j < bhi∧xs[i]? = ys[j]?∧(ys[j]?).isSome=true then Px xs ys ahi bhi (ahi - (i+1)) (i+1) (j+1)+1 else 0:=by
 rw [show ahi - i=ahi - (i+1)+1 by exact (yA h),Px]
 by_cases q:j < bhi∧xs[i]? = ys[j]?∧(ys[j]?).isSome=true
 ·rw [if_pos q,if_pos ⟨h,q⟩]
 ·rw [if_neg q,if_neg fun z=>q z.2]
end
section
variable {w:World} {mg mb:Str→Option Value} {sc:Scope} {U D:Nat} {loc:Loc} {σ:AH}
theorem nH {α:Type} [DecidableEq α] {T:Eqs α} {x y:Nat} {as bs':List AV} {xs ys:List α} {alo ahi blo bhi:Nat} {R:AV→AH→Prop} (ex:σ.get x=some (.list as)) (hEx:All2 (T.is σ) as xs) (ey:σ.get y=some (.list bs')) (hEy:All2 (T.is σ) bs' ys) (hx:xs.length≤50) (hy:ys.length≤50)
 (ha:alo≤ahi) (hax:ahi≤xs.length) (hb:blo≤bhi) (hby:bhi≤ys.length)
 (h:∀ σ' m,Ext [] σ σ'→σ.nx≤m→σ'.get m=some (.list (b3 (uX xs ys alo ahi blo bhi)))→R (.ref m) σ') :
  ClV (c1 w mg mb none) sc (U+2+3) (D+1) (.glob aDp) [.ref x,.ref y,.int alo,.int ahi,.int blo,.int bhi] loc σ R:=by
 refine en (c:=c1 w mg mb none) (scope:=aG aDq) (loc₀:=[(S "one", .ref x),(S "two", .ref y),(S "alo", .int alo),(S "ahi", .int ahi),(S "blo", .int blo),(S "bhi", .int bhi)]) [S "one", S "two", S "alo", S "ahi", S "blo", S "bhi"] (zM w.params) (by kernel_rfl) (fun St a b d e f g=>by show _=_;kernel_rfl) ?_
 refine aH ?_
 walk_at "e"
 refine gE (fun _ _=>rfl) (pI ?_)
 walk_at "e"
 refine ⟨_,_,_,rfl,aB,jC (by exact i_0) (by lia) (by exact i_0) (by lia),fun t l s=>∃ kb,Sub [(S "one", .ref x),(S "two", .ref y),(S "alo", .int alo),(S "ahi", .int ahi),(S "blo", .int blo),(S "bhi", .int bhi),(S "best", .ref kb)] l∧Ext [] σ s∧σ.nx≤kb∧s.get kb=some (.list (b3 (bT xs ys alo ahi blo bhi t))),?_,?_,?_,?_⟩
 ·exact ⟨_,Sub.refl _,(Ext.refl σ).new.new,Te _,aA aB⟩
 ·exact fun _ _ _ _=>trivial
 ·rintro t a l s s' ht hz6 hz7
  refine hid ?_;intro ZZ zz
  obtain ⟨kb,hsub,hext,hkb,gb⟩:1:=hz6
  obtain ⟨rfl,rfl⟩:=hz7
  refine zz ?_;clear zz
  haveI ht:t < ahi - alo:=Nat.lt_of_lt_of_eq ht (Int.toNat_sub ahi alo)
  dsimp only
  rw [aNa]
  generalize bT xs ys alo ahi blo bhi t=b0 at *
  refine gH hsub ?_
  refine As1.abs ?_;intro K₁ k₁
  walk_at "e"
  refine gE (fun _ _=>rfl) (pI ?_)
  walk_at "e"
  refine ⟨_,_,_,rfl,aB,jC (by exact i_0) (by lia) (by exact i_0) (by lia),fun u l s=>∃ kb,Sub [(S "one", .ref x),(S "two", .ref y),(S "alo", .int alo),(S "ahi", .int ahi),(S "blo", .int blo),(S "bhi", .int bhi),(S "best", .ref kb),(S "i", .int ((alo:Int)+t))] l∧Ext [] σ s∧σ.nx≤kb∧s.get kb=some (.list (b3 (bU xs ys alo ahi blo bhi t u b0))),?_,?_,?_,?_⟩
  ·exact ⟨kb,by walk_at "sub", hext.new,hkb,aA gb⟩
  ·exact fun _ _ _ _=>trivial
  ·rintro u a l s s2 hu hz6 hz7
   refine hid ?_;intro ZZ zz
   obtain ⟨kb2,hsub2,hext2,hkb2,gb2⟩:1:=hz6
   obtain ⟨rfl,rfl⟩:=hz7
   refine zz ?_;clear zz
   haveI hu:u < bhi - blo:=Nat.lt_of_lt_of_eq hu (Int.toNat_sub bhi blo)
   dsimp only
   rw [aNb]
   generalize bU xs ys alo ahi blo bhi t u b0=b1 at *
   refine gH hsub2 ?_
   refine As1.abs ?_;intro K₁ k₁
   haveI gx:=hext2.keep ex (by simp)
   haveI gy:=hext2.keep ey (by simp)
   walk_at "e"
   refine cT (fun l s=>s=s2∧Sub [(S "one", .ref x),(S "two", .ref y),(S "alo", .int alo),(S "ahi", .int ahi),(S "blo", .int blo),(S "bhi", .int bhi),(S "best", .ref kb2),(S "i", .int ((alo:Int)+t)),(S "j", .int ((blo:Int)+u)),(S "k", .int (Px xs ys ahi bhi (ahi - (alo+t)) (alo+t) (blo+u)))] l) ?_ ?_
   ·refine cR (fun n l s=>∃ k:Nat,s=s2∧Sub [(S "one", .ref x),(S "two", .ref y),(S "alo", .int alo),(S "ahi", .int ahi),(S "blo", .int blo),(S "bhi", .int bhi),(S "best", .ref kb2),(S "i", .int ((alo:Int)+t)),(S "j", .int ((blo:Int)+u)),(S "k", .int k)] l∧k+Px xs ys ahi bhi (ahi - (alo+t+k)) (alo+t+k) (blo+u+k)=Px xs ys ahi bhi (ahi - (alo+t)) (alo+t) (blo+u)∧alo+t+k≤ahi∧n=ahi - (alo+t+k)) (ahi - (alo+t)) ?_ ?_
    ·exact ⟨0,rfl,by walk_at "sub", by simp,by grind,by simp⟩
    ·rintro n l s hz3
     obtain ⟨k,rfl,hsub3,hP,hk,rfl⟩:1:=hz3
     refine ⟨_,hsub3,?_⟩
     refine oU (b:=decide (alo+t+k < ahi∧blo+u+k < bhi∧xs[alo+t+k]? = ys[blo+u+k]?)) ?_ ?_
     ·walk_at "e"
      by_cases c1:alo+t+k < ahi
      ·refine dU (by lia) ?_
       walk_at "e"
       by_cases c2:blo+u+k < bhi
       ·refine dU (by lia) ?_
        refine hid ?_;intro ZZ zz
        obtain ⟨p,hp⟩:∃ p,xs[alo+t+k]? = some p:=⟨_,List.getElem?_eq_getElem (by exact (Tc c1 hax))⟩
        obtain ⟨q,hq⟩:∃ q,ys[blo+u+k]? = some q:=⟨_,List.getElem?_eq_getElem (by exact (Tc c2 hby))⟩
        obtain ⟨ap,hap,isp⟩:=hEx.rat hp
        obtain ⟨aq,haq,isq⟩:=hEy.rat hq
        refine zz ?_;clear zz
        walk_at "e"
        refine aM (n:=alo+t+k) (a:=ap) gx (by rfl) (by lia) hap ?_ (fun _ _=>by kernel_rfl)
        walk_at "e"
        refine aM (n:=blo+u+k) (a:=aq) gy (by rfl) (by grind) haq ?_ (fun _ _=>by kernel_rfl)
        walk_at "e"
        refine T.eq (U:=U) (T.isK isp hext2.upE) (T.isK isq hext2.upE) ?_
        walk_at "e"
        rw [hp,hq]
        by_cases e:p=q
        ·refine fS (by simp [e]) ?_
         walk_at "e"
         exact ⟨(decide_eq_true ⟨c1,c2,by rw [e]⟩).symm,rfl⟩
        ·refine gJ (by simp [e]) ?_
         exact ⟨(decide_eq_false fun z=>e (Option.some.inj z.2.2)).symm,rfl⟩
       ·refine dL (by lia) ?_
        exact ⟨(decide_eq_false fun z=>c2 z.2.1).symm,rfl⟩
      ·refine dL (by lia) ?_
       exact ⟨(decide_eq_false fun z=>c1 z.1).symm,rfl⟩
     ·by_cases cc:alo+t+k < ahi∧blo+u+k < bhi∧xs[alo+t+k]? = ys[blo+u+k]?
      ·refine dU cc ?_
       walk_at "e"
       obtain ⟨c1,c2,c3⟩:0:=cc
       rw [aBx c1,if_pos ⟨c2,c3,by rw [List.getElem?_eq_getElem (by exact (Tc c2 hby))];rfl⟩] at hP
       exact ⟨_,show ahi - (alo+t+k+1) < _ by exact (mR c1),k+1,rfl,by walk_at "sub", by rw [← hP];show k+1+Px xs ys ahi bhi (ahi - (alo+t+k+1)) (alo+t+k+1) (blo+u+k+1)=_;exact aFd,by assumption,rfl⟩
      ·refine dL cc ?_
       walk_at "e"
       haveI h0:Px xs ys ahi bhi (ahi - (alo+t+k)) (alo+t+k) (blo+u+k)=0:=by
        by_cases c1:alo+t+k < ahi
        ·rw [aBx c1,if_neg fun z=>cc ⟨c1,z.1,z.2.1⟩]
        ·rw [show ahi - (alo+t+k)=0 by exact (aZh hk c1)];rfl
       rw [h0] at hP
       exact ⟨rfl,rfl,by rw [← hP,Nat.add_zero];exact Sub.refl _⟩
   ·rintro l s ⟨rfl,hsub3⟩
    refine bE hsub3 ?_
    walk_at "e"
    refine aM (n:=2) (a:=.int b1.2.2) gb2 (by rfl) (by exact (Tb rfl)) rfl ?_ (fun _ _=>by kernel_rfl)
    walk_at "e"
    haveI hkB:kB xs ys ahi bhi b1 (alo+t,blo+u)=if b1.2.2 < Px xs ys ahi bhi (ahi - (alo+t)) (alo+t) (blo+u) then (alo+t,blo+u,Px xs ys ahi bhi (ahi - (alo+t)) (alo+t) (blo+u)) else b1:=rfl
    generalize Px xs ys ahi bhi (ahi - (alo+t)) (alo+t) (blo+u)=px at *
    by_cases c1:b1.2.2 < px
    ·rw [if_pos c1] at hkB
     refine dU (by exact (rK c1)) ?_
     walk_at "e"
     rw [hkB]
     exact ⟨_,by walk_at "sub", hext2.new,hext2.nx,aB⟩
    ·rw [if_neg c1] at hkB
     refine dL (by exact (jS c1)) ?_
     walk_at "e"
     rw [hkB]
     exact ⟨kb2,by walk_at "sub", hext2,hkb2,gb2⟩
  ·rintro l s hz2
   obtain ⟨kb2,hsub2,hext2,hkb2,gb2⟩:1:=hz2
   haveI hN:(pH (blo:Int) ((bhi:Int) - blo).toNat).n=bhi - blo:=Int.toNat_sub bhi blo
   rw [hN] at gb2
   refine bE hsub2 ?_
   walk_at "e"
   exact ⟨kb2,by walk_at "sub", hext2,hkb2,gb2⟩
 ·rintro l s hz2
  obtain ⟨kb,hsub,hext,hkb,gb⟩:1:=hz2
  haveI hN:(pH (alo:Int) ((ahi:Int) - alo).toNat).n=ahi - alo:=Int.toNat_sub ahi alo
  rw [hN,aSh] at gb
  refine bE hsub ?_
  walk_at "e"
  exact h _ _ hext hkb gb
end
section
variable {w:World} {mg mb:Str→Option Value} {sc:Scope} {U D:Nat}
theorem aEv {α:Type} [DecidableEq α] {T:Eqs α} {x y:Nat} {as bs':List AV} {xs ys:List α} (hx:xs.length≤50) (hy:ys.length≤50):∀ (n:Nat) (sc:Scope) (loc:Loc) (σ:AH) (alo ahi blo bhi:Nat) (R:AV→AH→Prop),σ.get x=some (.list as)→All2 (T.is σ) as xs→σ.get y=some (.list bs')→All2 (T.is σ) bs' ys →
 alo≤ahi→ahi≤xs.length→blo≤bhi→bhi≤ys.length→ahi - alo≤n →
 (∀ σ' m ms,Ext [] σ σ'→σ.nx≤m→σ'.get m=some (.list ms)→Tps .list σ' ms ((cut xs ys alo ahi blo bhi).map b3)→R (.ref m) σ') →
  ClV (c1 w mg mb none) sc (U+3 * n+8) (D+n+2) (.glob aDr) [.ref x,.ref y,.int alo,.int ahi,.int blo,.int bhi] loc σ R:=by
 intro n
 induction n with
 | zero =>
  intro sc loc σ alo ahi blo bhi R ex hEx ey hEy ha hax hb hby hn h
  refine en (c:=c1 w mg mb none) (scope:=aG tD) (loc₀:=[(S "one", .ref x),(S "two", .ref y),(S "alo", .int alo),(S "ahi", .int ahi),(S "blo", .int blo),(S "bhi", .int bhi)]) [S "one", S "two", S "alo", S "ahi", S "blo", S "bhi"] (qC w.params) (by kernel_rfl) (fun St a b d e f g=>by show _=_;kernel_rfl) ?_
  refine aH ?_
  walk_at "e"
  refine nH ex hEx ey hEy hx hy ha hax hb hby fun s1 m1 h1 hm1 g1=>?_
  rw [← mJ] at g1
  haveI g1:s1.get m1=some (.list [.int (flm xs ys alo ahi blo bhi).1,.int (flm xs ys alo ahi blo bhi).2.1,.int (flm xs ys alo ahi blo bhi).2.2]):=g1
  walk_at "e"
  haveI h0:=aBs (xs:=xs) (ys:=ys) (alo:=alo) (ahi:=ahi) (blo:=blo) (bhi:=bhi) (.inl (Nat.le_of_sub_eq_zero (Nat.eq_zero_of_le_zero hn)))
  refine fS (by rw [h0];rfl) ?_
  walk_at "e"
  refine h _ _ [] h1.new h1.nx aB ?_
  rw [aBt (.inl (Nat.le_of_sub_eq_zero (Nat.eq_zero_of_le_zero hn)))]
  exact All2.nil
 | succ n ih =>
  intro sc loc σ alo ahi blo bhi R ex hEx ey hEy ha hax hb hby hn h
  refine en (c:=c1 w mg mb none) (scope:=aG tD) (loc₀:=[(S "one", .ref x),(S "two", .ref y),(S "alo", .int alo),(S "ahi", .int ahi),(S "blo", .int blo),(S "bhi", .int bhi)]) [S "one", S "two", S "alo", S "ahi", S "blo", S "bhi"] (qC w.params) (by kernel_rfl) (fun St a b d e f g=>by show _=_;kernel_rfl) ?_
  refine aH ?_
  walk_at "e"
  refine nH ex hEx ey hEy hx hy ha hax hb hby fun s1 m1 h1 hm1 g1=>?_
  rw [← mJ] at g1
  haveI B:=flm_best (xs:=xs) (ys:=ys) (alo:=alo) (ahi:=ahi) (blo:=blo) (bhi:=bhi)
  haveI hce:=aAc (xs:=xs) (ys:=ys) (alo:=alo) (ahi:=ahi) (blo:=blo) (bhi:=bhi)
  generalize flm xs ys alo ahi blo bhi=r at *
  refine hid ?_;intro ZZ zz
  obtain ⟨i,j,k⟩:=r
  refine zz ?_;clear zz
  haveI g1:s1.get m1=some (.list [.int i,.int j,.int k]):=g1
  dsimp only at hce
  walk_at "e"
  by_cases hk:k=0
  ·refine fS (by rw [hk];rfl) ?_
   walk_at "e"
   refine h _ _ [] h1.new h1.nx aB ?_
   rw [hce,if_pos hk]
   exact All2.nil
  refine gJ (by simp;omega) ?_
  walk_at "e"
  haveI Rn:=B.some (show 0 < k by exact (Nat.pos_of_ne_zero hk))
  haveI q0:=Rn.i0;haveI q1:=Rn.i1;haveI q2:=Rn.j0;haveI q3:=Rn.j1
  dsimp only at q0 q1 q2 q3
  refine ClV.up (U:=U+3 * n+8) (D:=D+n+2) (by lia) (by lia) (ih _ _ _ _ _ _ _ _ (h1.keep ex (by simp)) (hEx.mono fun _ _ z=>T.isK z h1.upE) (h1.keep ey (by simp)) (hEy.mono fun _ _ z=>T.isK z h1.upE) q0 (Ta (Nat.le_add_right i k) (Ta q1 hax)) q2 (Ta (Nat.le_add_right j k) (Ta q3 hby)) (by exact (aOu hn hk q1)) fun s2 m2 ms2 h2 hm2 g2 t2=>?_)
  haveI l2:=All2.len t2
  rw [List.length_map] at l2
  haveI c2:=jJ (xs:=xs) (ys:=ys) (alo:=alo) (ahi:=i) (blo:=blo) (bhi:=j)
  walk_at "e"
  haveI h12:=h1.trans h2
  refine ClV.up (U:=U+3 * n+8) (D:=D+n+2) (by lia) (by lia) (ih _ _ _ (i+k) ahi (j+k) bhi _ (((h12.new).new).new.keep ex (by simp)) (hEx.mono fun _ _ z=>T.isK z (h12.new).new.new.upE) (((h12.new).new).new.keep ey (by simp)) (hEy.mono fun _ _ z=>T.isK z (h12.new).new.new.upE) q1 hax q3 hby (by exact (aKf hn hk q0)) fun s3 m3 ms3 h3 hm3 g3 t3=>?_)
  haveI l3:=All2.len t3
  rw [List.length_map] at l3
  haveI c3:=jJ (xs:=xs) (ys:=ys) (alo:=i+k) (ahi:=ahi) (blo:=j+k) (bhi:=bhi)
  haveI g4:=h3.keep (aB (σ:=(s2.new (.list [.int i,.int j,.int k])).new (.list [.ref s2.nx])) (o:=.list (ms2++[.ref s2.nx]))) (by simp)
  walk_at "e"
  refine h _ _ _ ((((h12.new).new).new.trans h3).new) (Ta h12.new.new.new.nx h3.nx) aB ?_
  rw [hce,if_neg hk,List.map_append,List.map_cons]
  rw [show ∀ (a c:List (List AV)) (b:List AV),a++b::c=(a++[b])++c from fun a c b=>by simp]
  haveI gb:((s2.new (.list [.int i,.int j,.int k])).new (.list [.ref s2.nx])).get s2.nx=some (.list (b3 (i,j,k))):=aA aB
  exact (All2.append (All2.snoc ((t2.new.new.new).ext h3).new ⟨_,rfl,aA (h3.keep (aA gb) (by simp))⟩) t3.new)
theorem mP {α:Type} [DecidableEq α] {T:Eqs α} {x y:Nat} {as bs':List AV} {xs ys:List α} {sc:Scope} {loc:Loc} {σ:AH} {R:AV→AH→Prop} (hx:xs.length≤50) (hy:ys.length≤50) (ex:σ.get x=some (.list as)) (hEx:All2 (T.is σ) as xs) (ey:σ.get y=some (.list bs')) (hEy:All2 (T.is σ) bs' ys)
 (h:∀ σ' m ms,Ext [] σ σ'→σ.nx≤m→σ'.get m=some (.list ms)→Tps .list σ' ms ((cut xs ys 0 xs.length 0 ys.length++[(xs.length,ys.length,0)]).map b3)→R (.ref m) σ') :
  ClV (c1 w mg mb none) sc (U+3 * 50+8+3) (D+50+2+1) (.glob uK) [.ref x,.ref y] loc σ R:=by
 refine en (c:=c1 w mg mb none) (scope:=aG uL) (loc₀:=[(S "one", .ref x),(S "two", .ref y)]) [S "one", S "two"] (sA w.params) (by kernel_rfl) (fun St a b=>by show _=_;kernel_rfl) ?_
 refine aH ?_
 haveI hlx:=hEx.length
 haveI hly:=hEy.length
 walk_at "e"
 simp only [hlx,hly]
 refine aEv hx hy 50 _ _ _ 0 xs.length 0 ys.length _ ex hEx ey hEy (by lia) (Te _) (by lia) (Te _) (by omega) fun s2 m2 ms2 h2 hm2 g2 t2=>?_
 haveI l2:=All2.len t2
 rw [List.length_map] at l2
 haveI c2:=jJ (xs:=xs) (ys:=ys) (alo:=0) (ahi:=xs.length) (blo:=0) (bhi:=ys.length)
 haveI gx:=h2.keep ex (by simp)
 haveI gy:=h2.keep ey (by simp)
 walk_at "e"
 refine h _ _ _ (h2.new.new.new) (h2.new.new.nx) aB ?_
 rw [List.map_append]
 refine All2.snoc t2.new.new.new ⟨_,rfl,?_⟩
 simp only [hlx,hly]
 exact aA (aA aB)
end
noncomputable def aR (n:Nat):List Str:=([[S "a"],[S "a", S ""],[S "b c", S "a"],[S "'", S "\""]]:List (List Str)).getD n []
def aEw (e:Expr) (xs:List Str):Prop:=(∀ es env,starEach (e::es) env=(false,eval e env)::starEach es env)∧∀ c sc U D loc σ R,R (.ref σ.nx) (σ.new (.list (xs.map .str)))→EvE c sc U D e loc σ R
theorem zl {n:Nat} (h:n≤4):n≤sizeLine:=by rw [sizeLine_eq];exact Ta h (by decide)
theorem bBd {x:Str} {k:Nat} {p q:Pos}:aEw (.List [.Constant (.str x) k p] q) [x]:=⟨fun _ _=>rfl,fun c sc U D loc σ R h=>nC (mH (fun _=>rfl) uU uV) ⟨zl (Tb rfl),h⟩⟩
theorem aSi {x y:Str} {j k:Nat} {o p q:Pos}:aEw (.List [.Constant (.str x) j o,.Constant (.str y) k p] q) [x,y]:=⟨fun _ _=>rfl,fun c sc U D loc σ R h=>nC (mH (fun _=>rfl) uU (mH (fun _=>rfl) uU uV)) ⟨zl (Tb rfl),h⟩⟩
def WB (body:List Stmt):Prop:=∃ e1 e2 e3 e4 p q r s,body=[.Return (some (.Subscript (.List [e1,e2,e3,e4] p) (.Name (S "number") q) r)) s]∧aEw e1 [S "a"]∧aEw e2 [S "a", S ""]∧aEw e3 [S "b c", S "a"]∧aEw e4 [S "'", S "\""]
theorem aEx:WB (lT (cH bd eX)):=⟨_,_,_,_,_,_,_,_,rfl,bBd,aSi,aSi,aSi⟩
section
variable {w:World} {mg mb:Str→Option Value} {fl:FL} {sc:Scope} {U D:Nat} {loc:Loc} {σ:AH}
theorem aNc {body:List Stmt} (hw:WB body) {n:Nat} {R:AV→AH→Prop} (hn:n < 4) (h:∀ σ' m,Ext [] σ σ'→σ.nx≤m→σ'.get m=some (.list ((aR n).map .str))→R (.ref m) σ'):ExS (c1 w mg mb none) (aG eX) U D body [(S "number", .int n)] σ fun fl _ s=>R (fM fl) s:=by
 obtain ⟨e1,e2,e3,e4,p,q,r,s,rfl,h1,h2,h3,h4⟩:=hw
 refine aH (gD (oQ (iG (bD (h1.1 _) (h1.2 _ _ _ _ _ _ _ (bD (h2.1 _) (h2.2 _ _ _ _ _ _ _ (bD (h3.1 _) (h3.2 _ _ _ _ _ _ _ (bD (h4.1 _) (h4.2 _ _ _ _ _ _ _ (eT ⟨zl (Te 4),cA (by kernel_rfl) (by decide +kernel) (.here _) rfl ?_⟩))))))))))))
 match n,hn with
 | 0,_ =>
  refine aM (n:=0) (a:=.ref σ.nx) aB rfl (by decide) rfl ?_ (fun _ _=>by kernel_rfl)
  exact h _ σ.nx (.new (.new (.new (.new (.new (.refl _)))))) (Te _) (aA (aA (aA (aA aB))))
 | 1,_ =>
  refine aM (n:=1) (a:=.ref (σ.nx+1)) aB rfl (by decide) rfl ?_ (fun _ _=>by kernel_rfl)
  exact h _ (σ.nx+1) (.new (.new (.new (.new (.new (.refl _)))))) (Nat.le_succ _) (aA (aA (aA aB)))
 | 2,_ =>
  refine aM (n:=2) (a:=.ref (σ.nx+1+1)) aB rfl (by decide) rfl ?_ (fun _ _=>by kernel_rfl)
  exact h _ (σ.nx+1+1) (.new (.new (.new (.new (.new (.refl _)))))) (Nat.le_add_right _ 2) (aA (aA aB))
 | 3,_ =>
  refine aM (n:=3) (a:=.ref (σ.nx+1+1+1)) aB rfl (by decide) rfl ?_ (fun _ _=>by kernel_rfl)
  exact h _ (σ.nx+1+1+1) (.new (.new (.new (.new (.new (.refl _)))))) (Nat.le_add_right _ 3) (aA aB)
theorem jE {n:Nat} {R:AV→AH→Prop} (hn:n < 4) (h:∀ σ' m,Ext [] σ σ'→σ.nx≤m→σ'.get m=some (.list ((aR n).map .str))→R (.ref m) σ'):ClV (c1 w mg mb fl) sc (U+3) (D+1) (.glob wO) [.int n] loc σ R:=by
 refine ClV.on ?_
 refine en (c:=c1 w mg mb none) (scope:=aG eX) (loc₀:=[(S "number", .int n)]) (body:=lT (cH bd eX)) [S "number"] (uM w.params) (by kernel_rfl) (fun St a=>by show _=_;kernel_rfl) ?_
 refine aNc ?_ ?_ ?_
 ·exact aEx
 ·exact hn
 ·exact h
end
noncomputable def wr (k:Nat) (t:Str):Str:=([S "", S " "].getD k (S ""))++(if t=S "'" then S "\"" ++ t++S "\"" else S "'" ++ t++S "'")
noncomputable def kK (n way:Nat):Str:=if way=0 then Txt.join (S " ") ((aR n).map qt) else Txt.join (S " ") ((aR n).map (wr (way - 1)))
theorem vB:∀ n:Fin 4,(∀ x∈aR n.1,(x.length=0∨mE x.cps≠0)∧x.length≤100∧(Txt.replace x (S "'") (S "'\"'\"'")).length≤1000)∧(aR n.1).length≤1000∧JoinOk (S " ") ((aR n.1).map qt)=true:=by decide +kernel
theorem aNd:∀ n:Fin 4,∀ k:Fin 2,JoinOk (S " ") ((aR n.1).map (wr k.1))=true:=by decide +kernel
theorem oX {c:Cx} {sc:Scope} {U D:Nat} {loc:Loc} {σ:AH} {R:Bool→AH→Prop} (h:R true σ):EvF c sc U D [] loc σ R:=h
theorem aNe:∀ n:Fin 4,∀ k:Fin 2,∀ t∈aR n.1,(S "\"").length+t.length≤100000∧(S "\"" ++ t).length+(S "\"").length≤100000∧([S "", S " "].getD k.1 (S "")).length+(S "\"" ++ t++S "\"").length≤100000 ∧
 (S "'").length+t.length≤100000∧(S "'" ++ t).length+(S "'").length≤100000∧([S "", S " "].getD k.1 (S "")).length+(S "'" ++ t++S "'").length≤100000:=by decide +kernel
section
variable {w:World} {mg mb:Str→Option Value} {fl:FL} {sc:Scope} {U D:Nat} {loc:Loc} {σ:AH}
theorem aAl {elt iter:Expr} {x:Str} {px:Pos} {ifs:List Expr} {scope scope':Scope} {pos:Pos} {R:AV→AH→Prop} (cl:List (Str×Addr))
  (hs:∀ env x,foldedSetIterable iter env x=pure x) (hclos:∀ env:Env,(∀ l ce,fl=some (l,ce)→env.cells=ce)→closureFor scope env=pure cl)
  (hrel:∀ env:Env,env.scope=sc→relabel scope env=scope') (hkd:scope.kind=.function) (hkd':scope'.kind=.function) (hnames:(scope.names.all fun x=>x.2 != .local||scope.names.lookup x.1==some .local)=true) (hcell:(scope.names.all fun x=>x.2 != .cell)=true) (hx:scope'.names.lookup x=some .local)
  (h:ItE (c1 w mg mb fl) sc U D iter (.Name x px) loc σ fun d σ₁=>∃ I:Nat→List AV→AH→Prop,I 0 [] (σ₁.new (.list []))∧(∀ i acc s,I i acc s→d.ok s∧acc.length < 2 ^ 20) ∧
   (∀ i a acc s s',i < d.n→I i acc s→d.item i s a s'→EvF (c1 w mg mb (some (none,cl))) scope' U D ifs [(x,a)] s' fun b s₂ =>
    if b=true then EvE (c1 w mg mb (some (none,cl))) scope' U D elt [(x,a)] s₂ fun v s₃=>s₃.get σ₁.nx=some (.list acc)∧I (i+1) (acc++[v]) (s₃.set σ₁.nx (.list (acc++[v]))) else I (i+1) acc s₂) ∧
   (∀ acc s,I d.n acc s→R (.ref σ₁.nx) s)):EvE (c1 w mg mb fl) sc U D (.ListComp elt [⟨.Name x px,iter,ifs,0⟩] scope pos) loc σ R:=aEb (c:=c1 w mg mb fl) cl hs hclos hrel hkd hkd' hnames hcell hx h
end
section
variable {w:World} {mg mb:Str→Option Value} {sc:Scope} {U D:Nat} {loc:Loc} {σ:AH}
theorem aBy {l:Option (List Addr)} {ca:Addr} {j:Nat} {v:AV} {pos:Pos} {R:AV→AH→Prop} (hk:sc.names.lookup (Str.ofString "way")=some .cell) (e:σ.get j=some (.cell ca j (some v))) (h:R v σ):EvE (c1 w mg mb (some (l,[(Str.ofString "way", ca)]))) sc U D (.Name (Str.ofString "way") pos) loc σ R :=
 aIo hk (by decide +kernel) rfl (by simp) e h
theorem rG {n way:Nat} {R:AV→AH→Prop} (hn:n < 4) (hw:way < 3) (h0:σ.get 0=some (.plc aPl)) (h:∀ σ',Ext [] σ σ'→R (.str (kK n way)) σ') :
  ClV (c1 w mg mb none) sc (U+3+6+3+3) (D+1+1+1+1) (.glob zN) [.int n,.int way] loc σ R:=by
 refine aJd (c:=c1 w mg mb none) (n0:=S "number") (n1:=S "way") (scope:=aG zO) (wP w.params) (by kernel_rfl) (fun v0 v1=>by kernel_rfl) (by kernel_rfl) (by kernel_rfl) (by decide +kernel) (fun k=>by kernel_rfl) rfl rfl rfl (fun ca=>?_)
 show ExS (c1 w mg mb (some (none,[(S "way", ca)]))) _ _ _ _ _ _ _
 haveI gc:(σ.new (.cell ca σ.nx (some (.int way)))).get σ.nx=some (.cell ca σ.nx (some (.int way))):=aB
 refine aH ?_
 walk_at "e"
 refine aBy (by kernel_rfl) gc ?_
 walk_at "e"
 constructor
 ·intro hb
  haveI hw0:way=0:=by have:=of_decide_eq_true hb;lia
  walk_at "e"
  refine jE hn fun s m hx hm g=>?_
  walk_at "e"
  haveI q:=vB ⟨n,hn⟩
  refine ClV.up (by lia) (by lia) (ClV.on (aSe (U:=U) (D:=D) (hx.keep (aA h0) (by simp)) g q.1 q.2.1 q.2.2 fun s2 hx2=>?_))
  walk_at "e"
  haveI e:kK n way=Txt.join (S " ") ((aR n).map qt):=if_pos hw0
  exact e▸h s2 ((hx.trans hx2).ofNew)
 ·intro hb
  haveI hw0:way≠0:=fun q=>by rw [q] at hb;cases hb
  obtain ⟨k,rfl⟩:∃ k,way=k+1:=⟨way - 1,by lia⟩
  haveI hk:k < 2:=by lia
  walk_at "e"
  refine aMq ?_
  walk_at "e"
  refine aAl (scope':={ kind:=.function,names:=[(S ".0", .local),(S "word", .local),(S "way", .cell)],isGenerator:=false,isCoroutine:=false }) [(S "way", ca)] (by intros;rfl) (fun env q=>?_) (fun env q=>?_) (by kernel_rfl) rfl (by kernel_rfl) (by kernel_rfl) (by kernel_rfl) ?_
  ·haveI e:=q _ _ rfl
   simp [closureFor,cellOf,e,List.lookup]
  ·unfold relabel Env.kindOf
   rw [q]
   kernel_rfl
  refine gF ?_
  walk_at "e"
  refine jE hn fun s m hx hm g=>?_
  refine ⟨_,_,rfl,g,fun i acc s'=>Ext [] s s'∧s'.get s.nx=some (.list acc)∧acc=((aR n).take i).map fun t=>.str (wr k t),⟨(Ext.refl _).new,aB,rfl⟩,fun i acc s' hI=>⟨hI.1.keep g (by simp),?_⟩,?_,?_⟩
  ·rw [hI.2.2,List.length_map,List.length_take]
   haveI:=(vB ⟨n,hn⟩).2.1
   exact Td (Nat.min_le_right _ _) (Td this (by decide))
  ·rintro i a acc s1 s' hi hz6 hz7
   refine hid ?_;intro ZZ zz
   obtain ⟨hx1,gq,hA⟩:0:=hz6
   obtain ⟨ha,rfl⟩:=hz7
   obtain ⟨t,ht,rfl⟩:∃ t,(aR n)[i]? = some t∧a=.str t:=by
    rw [List.getElem?_map] at ha
    cases q:(aR n)[i]? with
    | none=>rw [q] at ha;cases ha
    | some e=>rw [q] at ha;exact ⟨e,rfl,(Option.some.inj ha).symm⟩
   refine zz ?_;clear zz
   haveI gc':=hx1.keep (hx.keep gc (by simp)) (by simp)
   refine oX ?_
   rw [if_pos rfl]
   walk_at "e"
   refine aBy (by kernel_rfl) (aA gc') ?_
   walk_at "e"
   haveI hpre:([.str (S ""),.str (S " ")]:List AV)[k]? = some (.str ([S "", S " "].getD k (S ""))):=by
    match k,hk with
    | 0,_=>rfl
    | 1,_=>rfl
   refine aM (n:=k) aB (by push_cast;lia) (by lia) hpre ?_ (fun _ _=>by kernel_rfl)
   walk_at "e"
   obtain ⟨z1,z2,z3,z4,z5,z6⟩:=aNe ⟨n,hn⟩ ⟨k,hk⟩ t (List.mem_of_getElem? ht)
   have fin:∀ {v:Str} {s3:AH},s3=s'.new (.list [.str (S ""),.str (S " ")])→v=wr k t→s3.get s.nx=some (.list acc)∧(Ext [] s (s3.set s.nx (.list (acc++[.str v])))∧(s3.set s.nx (.list (acc++[.str v]))).get s.nx=some (.list (acc++[.str v]))∧acc++[.str v]=((aR n).take (i+1)).map fun t=>.str (wr k t)):=fun {v s3} e1 e2=>by
    subst e1 e2
    refine ⟨aA gq,(hx1.new).set (.inr (Te _)),aF (aA gq),?_⟩
    rw [List.take_add_one,ht,List.map_append,hA]
    rfl
   constructor
   ·intro hb
    haveI e:wr k t=([S "", S " "].getD k (S ""))++(S "\"" ++ t++S "\""):=by
     unfold wr
     rw [if_pos (beq_iff_eq.mp hb)]
    walk_at "e"
    exact fin rfl e.symm
   ·intro hb
    haveI e:wr k t=([S "", S " "].getD k (S ""))++(S "'" ++ t++S "'"):=by
     unfold wr
     rw [if_neg (fun q=>by rw [q] at hb;simp at hb)]
    walk_at "e"
    exact fin rfl e.symm
  ·rintro acc s1 ⟨hx1,gq,hA⟩
   have hn':(fQ m ((aR n).map AV.str)).n=(aR n).length:=List.length_map ..
   rw [hn',List.take_length] at hA
   subst hA
   walk_at "e"
   refine aJe (ts:=(aR n).map (wr k)) (by rw [List.map_map];exact gq) (aNd ⟨n,hn⟩ ⟨k,hk⟩) ?_
   walk_at "e"
   haveI e:kK n (k+1)=Txt.join (S " ") ((aR n).map (wr k)):=if_neg hw0
   exact e▸h s1 ((hx.trans hx1).ofNew)
end
noncomputable def cX (x:Int):Nat:=(x / 3 % 4).toNat
noncomputable def w1 (x:Int):Nat:=(x / 12 % 3).toNat
noncomputable def w2 (x:Int):Nat:=(x / 36 % 3).toNat
noncomputable def onO (x:Int):Bool:=x % 3 != 2
noncomputable def onN (x:Int):Bool:=x % 3 != 1
noncomputable def aY (xs:List Int):List Nat:=(xs.filter onO).map cX
noncomputable def aZ (xs:List Int):List Nat:=(xs.filter onN).map cX
noncomputable def fD (xs:List Int):List Str:=(xs.filter onO).map fun x=>kK (cX x) (w1 x)
noncomputable def dI (xs:List Int):List Str:=(xs.filter onN).map fun x=>kK (cX x) (w2 x)
noncomputable def fK (xs:List Int):List Int:=xs.take 6++[0,13,38,39,4,18,9,50]
theorem fdm (x:Int):(x.fdiv 3).fmod 4=((cX x:Nat):Int):=by
 rw [Int.fdiv_eq_ediv_of_nonneg _ (by decide),Int.fmod_eq_emod_of_nonneg _ (by decide)]
 unfold cX
 lia
theorem bBe (x:Int):(x.fdiv 12).fmod 3=((w1 x:Nat):Int):=by
 rw [Int.fdiv_eq_ediv_of_nonneg _ (by decide),Int.fmod_eq_emod_of_nonneg _ (by decide)]
 unfold w1
 lia
theorem bBf (x:Int):(x.fdiv 36).fmod 3=((w2 x:Nat):Int):=by
 rw [Int.fdiv_eq_ediv_of_nonneg _ (by decide),Int.fmod_eq_emod_of_nonneg _ (by decide)]
 unfold w2
 lia
theorem xV (x:Int):cX x < 4:=by unfold cX;lia
theorem aOp (x:Int):w1 x < 3:=by unfold w1;lia
theorem aOq (x:Int):w2 x < 3:=by unfold w2;lia
theorem cN {c:Cx} {sc:Scope} {U D:Nat} {σ:AH} {st:Stmt} {l l':Loc} {R:AF→Loc→AH→Prop} (hs:Sub l' l) (h:Ex1 c sc U D st l' σ R):Ex1 c sc U D st l σ R:=fun A env L h₀ fm ρ X s Q E S K=>h A env L h₀ fm ρ X s Q E (S.sub hs) K
theorem fm3 (x:Int):x.fmod 3=x % 3:=Int.fmod_eq_emod_of_nonneg _ (by decide)
theorem aAm {α:Type} (l:List α) (n:Nat):sX l none (some (n:Int))=l.take n:=by
 haveI e1:kms_lo none l.length=0:=rfl
 haveI e2:kms_hi (some (n:Int)) l.length=min n l.length:=by
  unfold kms_hi
  dsimp only
  rw [if_neg (by lia)];simp
 unfold sX
 rw [e1,e2,List.drop_zero,Nat.sub_zero]
 by_cases h:n≤l.length
 ·rw [Nat.min_eq_left h]
 ·rw [Nat.min_eq_right (by exact (Nat.le_of_not_le h)),List.take_of_length_le (Te _),List.take_of_length_le (by exact (Nat.le_of_not_le h))]
noncomputable def aYu (s:Stmt) (i:Nat):Stmt:=match s with
 | .For _ _ b ..=>b.getD i default
 | _=>default
structure LP (σ0:AH) (ko kn kb kh:Nat) (xo xn:List Int) (s:AH):Prop where
 x:Ext [ko,kn,kb,kh] σ0 s
 o:s.get ko=some (.list ((aY xo).map fun (n:Nat)=>.int (n:Int)))
 n:s.get kn=some (.list ((aZ xn).map fun (n:Nat)=>.int (n:Int)))
 b:s.get kb=some (.list ((fD xo).map .str))
 h:s.get kh=some (.list ((dI xn).map .str))
 p:s.get 0=some (.plc aPl)
 on:ko≠kn
 ob:ko≠kb
 oh:ko≠kh
 nb:kn≠kb
 nh:kn≠kh
 bh:kb≠kh
noncomputable abbrev lcB (ko kn kb kh:Nat):Loc:=[(S "script", .ref 1),(S "old", .ref ko),(S "new", .ref kn),(S "before", .ref kb),(S "behind", .ref kh)]
noncomputable abbrev lcX (ko kn kb kh:Nat) (x:Int):Loc:=[(S "script", .ref 1),(S "old", .ref ko),(S "new", .ref kn),(S "before", .ref kb),(S "behind", .ref kh),(S "x", .int x)]
theorem rH (xs:List Int) (x:Int):aY (xs++[x])=aY xs++(if onO x then [cX x] else [])∧fD (xs++[x])=fD xs++(if onO x then [kK (cX x) (w1 x)] else []):=by
 unfold aY fD
 rw [List.filter_append,List.map_append,List.map_append]
 cases h:onO x <;> simp [h]
theorem rI (xs:List Int) (x:Int):aZ (xs++[x])=aZ xs++(if onN x then [cX x] else [])∧dI (xs++[x])=dI xs++(if onN x then [kK (cX x) (w2 x)] else []):=by
 unfold aZ dI
 rw [List.filter_append,List.map_append,List.map_append]
 cases h:onN x <;> simp [h]
theorem cF (xs:List Int):(aY xs).length≤xs.length∧(fD xs).length≤xs.length:=by
 unfold aY fD
 rw [List.length_map,List.length_map]
 exact ⟨List.length_filter_le _ _,List.length_filter_le _ _⟩
theorem cG (xs:List Int):(aZ xs).length≤xs.length∧(dI xs).length≤xs.length:=by
 unfold aZ dI
 rw [List.length_map,List.length_map]
 exact ⟨List.length_filter_le _ _,List.length_filter_le _ _⟩
section
variable {w:World} {mg mb:Str→Option Value} {fl:FL} {sc:Scope} {U D:Nat} {loc:Loc} {σ:AH}
theorem aYv {σ0:AH} {ko kn kb kh:Nat} {xo xn:List Int} {x:Int} {R:AF→Loc→AH→Prop} (H:LP σ0 ko kn kb kh xo xn σ) (hlen:xo.length≤14) (hl:Sub (lcX ko kn kb kh x) loc)
 (h:∀ s,LP σ0 ko kn kb kh (xo++[x]) xn s→R .next (lcX ko kn kb kh x) s):Ex1 (c1 w mg mb fl) (aG aU) (U+30) (D+10) (aYu (cH bd (aU++[1])) 0) loc σ R:=by
 refine cN hl ?_
 haveI g1:=H.o
 haveI g2:=H.b
 haveI ho:=cF xo
 refine fZ ?_
 walk_at "e"
 constructor
 ·intro hb
  haveI hx:onO x=true:=by rw [fm3] at hb;exact hb
  obtain ⟨e1,e2⟩:=rH xo x
  rw [if_pos hx] at e1 e2
  haveI z1:((aY xo).map fun (n:Nat)=>(AV.int (n:Int))).length < 2 ^ 20:=by rw [List.length_map];lia
  haveI z2:((fD xo).map AV.str).length < 2 ^ 20:=by rw [List.length_map];lia
  haveI p:=H.p
  haveI hob:=H.ob
  haveI hpo:0≠ko:=aE p g1 (by intro q;cases q)
  haveI hpb:0≠kb:=aE p g2 (by intro q;cases q)
  walk_at "e"
  rw [fdm,bBe]
  refine ClV.up (by lia) (by lia) (ClV.on (rG (U:=U) (D:=D) (xV x) (aOp x) (aC hpo p) fun s1 hx1=>?_))
  haveI gb:s1.get kb=some (.list ((fD xo).map .str)):=hx1.keep (aC (Ne.symm hob) g2) (by simp)
  walk_at "e"
  refine h _ ⟨((H.x.set (.inl (.head _))).trans (hx1.mono fun j q=>nomatch q)).set (.inl (.tail _ (.tail _ (.head _)))),?_,aC H.nb (hx1.keep (aC (Ne.symm H.on) H.n) (by simp)),?_,aC (Ne.symm H.bh) (hx1.keep (aC (Ne.symm H.oh) H.h) (by simp)),aC hpb (hx1.keep (aC hpo p) (by simp)),H.on,H.ob,H.oh,H.nb,H.nh,H.bh⟩
  ·rw [e1,List.map_append];exact aC hob (hx1.keep (aF g1) (by simp))
  ·rw [e2,List.map_append];exact aF gb
 ·intro hb
  haveI hx:onO x=false:=by rw [fm3] at hb;exact hb
  obtain ⟨e1,e2⟩:=rH xo x
  rw [hx,if_neg (by decide),List.append_nil] at e1 e2
  walk_at "e"
  exact h _ ⟨H.x,e1▸H.o,H.n,e2▸H.b,H.h,H.p,H.on,H.ob,H.oh,H.nb,H.nh,H.bh⟩
theorem aYw {σ0:AH} {ko kn kb kh:Nat} {xo xn:List Int} {x:Int} {R:AF→Loc→AH→Prop} (H:LP σ0 ko kn kb kh xo xn σ) (hlen:xn.length≤14) (hl:Sub (lcX ko kn kb kh x) loc)
 (h:∀ s,LP σ0 ko kn kb kh xo (xn++[x]) s→R .next (lcX ko kn kb kh x) s):Ex1 (c1 w mg mb fl) (aG aU) (U+30) (D+10) (aYu (cH bd (aU++[1])) 1) loc σ R:=by
 refine cN hl ?_
 haveI g1:=H.n
 haveI g2:=H.h
 haveI ho:=cG xn
 refine fZ ?_
 walk_at "e"
 constructor
 ·intro hb
  haveI hx:onN x=true:=by rw [fm3] at hb;exact hb
  obtain ⟨e1,e2⟩:=rI xn x
  rw [if_pos hx] at e1 e2
  haveI z1:((aZ xn).map fun (n:Nat)=>(AV.int (n:Int))).length < 2 ^ 20:=by rw [List.length_map];lia
  haveI z2:((dI xn).map AV.str).length < 2 ^ 20:=by rw [List.length_map];lia
  haveI p:=H.p
  haveI hob:=H.nh
  haveI hpo:0≠kn:=aE p g1 (by intro q;cases q)
  haveI hpb:0≠kh:=aE p g2 (by intro q;cases q)
  walk_at "e"
  rw [fdm,bBf]
  refine ClV.up (by lia) (by lia) (ClV.on (rG (U:=U) (D:=D) (xV x) (aOq x) (aC hpo p) fun s1 hx1=>?_))
  haveI gb:s1.get kh=some (.list ((dI xn).map .str)):=hx1.keep (aC (Ne.symm hob) g2) (by simp)
  walk_at "e"
  refine h _ ⟨((H.x.set (.inl (.tail _ (.head _)))).trans (hx1.mono fun j q=>nomatch q)).set (.inl (.tail _ (.tail _ (.tail _ (.head _))))),aC H.oh (hx1.keep (aC H.on H.o) (by simp)),?_,aC H.bh (hx1.keep (aC (Ne.symm H.nb) H.b) (by simp)),?_,aC hpb (hx1.keep (aC hpo p) (by simp)),H.on,H.ob,H.oh,H.nb,H.nh,H.bh⟩
  ·rw [e1,List.map_append];exact aC hob (hx1.keep (aF g1) (by simp))
  ·rw [e2,List.map_append];exact aF gb
 ·intro hb
  haveI hx:onN x=false:=by rw [fm3] at hb;exact hb
  obtain ⟨e1,e2⟩:=rI xn x
  rw [hx,if_neg (by decide),List.append_nil] at e1 e2
  walk_at "e"
  exact h _ ⟨H.x,H.o,e1▸H.n,H.b,e2▸H.h,H.p,H.on,H.ob,H.oh,H.nb,H.nh,H.bh⟩
end
theorem LP.new {σ0:AH} {ko kn kb kh:Nat} {xo xn:List Int} {s:AH} (H:LP σ0 ko kn kb kh xo xn s) {o:AO}:LP σ0 ko kn kb kh xo xn (s.new o) :=
 ⟨H.x.new,aA H.o,aA H.n,aA H.b,aA H.h,aA H.p,H.on,H.ob,H.oh,H.nb,H.nh,H.bh⟩
theorem LP.base {σ0 σ1:AH} {ko kn kb kh:Nat} {xo xn:List Int} {s:AH} (H:LP σ1 ko kn kb kh xo xn s) (hx:Ext [ko,kn,kb,kh] σ0 σ1):LP σ0 ko kn kb kh xo xn s:={ H with x:=hx.trans H.x }
section
variable {w:World} {mg mb:Str→Option Value} {fl:FL} {sc:Scope} {U D:Nat} {loc:Loc} {σ:AH}
theorem aSj {xs:List Int} {ko kn kb kh m1:Nat} {o1:Obj} {vs:List Value} {R:AF→Loc→AH→Prop} (g1:σ.get 1=some (.raw o1)) (hc1:o1.cls=.type "list") (hd1:o1.data=.seq vs.toArray m1) (hv1:∀ ρ n,VRs ρ n (xs.map .int) vs)
 (H:LP σ ko kn kb kh [] [] σ) (hl:Sub (lcB ko kn kb kh) loc)
 (hxs:xs.length≤63) (h:∀ l s,LP σ ko kn kb kh (fK xs) (fK xs) s→Sub (lcB ko kn kb kh) l→R .next l s) :
 Ex1 (c1 w mg mb fl) (aG aU) (U+30) (D+10) (cH bd (aU++[1])) loc σ R:=by
 refine cN hl ?_
 refine gE (fun _ _=>rfl) (gF ?_)
 walk_at "e"
 refine uT (k:=1) (xs:=xs.map .int) (lo:=none) (hi:=some 6) (aA g1) hc1 hd1 hv1 aB .none (.int 6) (by rw [List.length_map];exact (Ta hxs (Tb rfl))) ?_ (by intros;kernel_rfl)
 walk_at "e"
 rw [show sX (xs.map AV.int) none (some 6)=(xs.take 6).map .int from (aAm _ 6).trans (List.map_take ..).symm]
 refine nK (aA aB) aB (by rw [List.length_map,List.length_take];simp;exact (aSw (Tb rfl))) ?_
 rw [show (xs.take 6).map AV.int++[.int 0,.int 13,.int 38,.int 39,.int 4,.int 18,.int 9,.int 50]=(fK xs).map .int from by simp [fK]]
 generalize hS:((((σ.new (.flds "slice" [.none,.int 6,.none])).new (.list ((xs.take 6).map .int))).new (.list [.int 0,.int 13,.int 38,.int 39,.int 4,.int 18,.int 9,.int 50])))=S0
 haveI H0:LP σ ko kn kb kh [] [] S0:=hS▸H.new.new.new
 haveI H1:LP (S0.new (.list ((fK xs).map .int))) ko kn kb kh [] [] (S0.new (.list ((fK xs).map .int))):={ H0.new with x:=Ext.refl _ }
 have gx:∀ {xo xn:List Int} {s:AH},LP (S0.new (.list ((fK xs).map .int))) ko kn kb kh xo xn s→s.get S0.nx=some (.list ((fK xs).map .int)):=fun {xo xn s} q=>q.x.keep aB fun z=>by
  haveI l1:=AH.get_lt H0.o
  haveI l2:=AH.get_lt H0.n
  haveI l3:=AH.get_lt H0.b
  haveI l4:=AH.get_lt H0.h
  simp only [List.mem_cons,List.not_mem_nil,or_false] at z
  rcases z with z | z | z | z <;> lia
 refine ⟨_,_,rfl,aB,fun t l s=>LP (S0.new (.list ((fK xs).map .int))) ko kn kb kh ((fK xs).take t) ((fK xs).take t) s∧Sub (lcB ko kn kb kh) l,⟨H1,Sub.refl _⟩,fun i l s q=>gx q.1,?_,?_⟩
 ·rintro t a l s s' ht hz6 hz7
  refine hid ?_;intro ZZ zz
  obtain ⟨H6,hsub⟩:0:=hz6
  obtain ⟨ha,rfl⟩:=hz7
  haveI ht:t < (fK xs).length:=by haveI:=ht;simp only [fQ,List.length_map] at this;exact this
  haveI hle:(fK xs).length≤14:=by simp [fK];lia
  obtain ⟨x,rfl⟩:∃ x,a=.int x:=by
   rw [List.getElem?_map,List.getElem?_eq_getElem ht] at ha
   exact ⟨_,(Option.some.inj ha).symm⟩
  refine zz ?_;clear zz
  haveI hx0:(fK xs)[t]? = some x:=by
   rw [List.getElem?_map] at ha
   rw [List.getElem?_eq_getElem ht] at ha ⊢
   injection ha with ha
   injection ha with ha
   rw [ha]
  haveI hs:(fK xs).take (t+1)=(fK xs).take t++[x]:=by
   rw [List.take_add_one,hx0]
   rfl
  haveI hl1:((fK xs).take t).length≤14:=by rw [List.length_take];lia
  refine gH hsub ?_
  refine lK (by kernel_rfl) ?_
  iterate 1 walk_at "ev"
  refine aH (aYv (U:=U) (D:=D) H6 hl1 (Sub.refl _) fun s1 H1=>?_)
  refine dR (aH (aYw (U:=U) (D:=D) H1 hl1 (Sub.refl _) fun s2 H2=>dR (oO ?_)))
  rw [← hs] at H2
  walk_at "e"
  exact ⟨H2,Sub.cons rfl (Sub.cons rfl (Sub.cons rfl (Sub.cons rfl (Sub.cons rfl Sub.nil))))⟩
 ·rintro l s ⟨H2,hsub⟩
  simp only [fQ,List.length_map,List.take_length] at H2
  walk_at "e"
  exact h l s (H2.base (hS▸(((Ext.refl σ).new).new).new.new)) hsub
end
def Spl (x:Str) (u:List Str):Prop:=x.length≤5000∧u.length < 800∧∃ n Ts,rts n x.cps.toList=some Ts∧Ts.map (fun T=>(⟨T.toArray⟩:Str))=u
theorem aNf:∀ n:Fin 4,∀ y:Fin 3,(kK n.1 y.1).length≤5000∧(aR n.1).length < 800∧rts 10 (kK n.1 y.1).cps.toList=some ((aR n.1).map fun x=>x.cps.toList):=by decide +kernel
theorem xW {n y:Nat} (hn:n < 4) (hy:y < 3):Spl (kK n y) (aR n):=by
 obtain ⟨h1,h2,h3⟩:=aNf ⟨n,hn⟩ ⟨y,hy⟩
 refine ⟨h1,h2,10,_,h3,?_⟩
 rw [List.map_map]
 exact (List.map_congr_left fun x _=>rfl).trans (List.map_id _)
section
variable {w:World} {mg mb:Str→Option Value} {fl:FL} {cf:Option (List Addr)} {sc:Scope} {U D:Nat} {loc:Loc} {σ:AH}
noncomputable abbrev c2 (w:World) (mg mb:Str→Option Value) (fl:FL) (cf:Option (List Addr)):Cx:=⟨(c1 w mg mb fl).prog,(c1 w mg mb fl).w,(c1 w mg mb fl).K,(c1 w mg mb fl).p,(c1 w mg mb fl).loose,(c1 w mg mb fl).mg,(c1 w mg mb fl).mb,(c1 w mg mb fl).pl,fl,cf⟩
theorem aNg {A:Around} {env:Env} {L:Addr} {h₀:Heap} (fm:Fm (c2 w mg mb fl cf) sc A env L h₀ U D):Fm (c1 w mg mb fl) sc A env L h₀ U D:=⟨(let ⟨_,_,_,_,_,e,h⟩:=fm.ex;⟨_,_,_,_,_,e,h⟩),fm.bel,fm.X,fm.T,fm.hk,fm.hu,fm.hd,fm.hh,fm.sm,fun _ q=>(nomatch q)⟩
theorem EvE.onC {e:Expr} {R:AV→AH→Prop} (h:EvE (c1 w mg mb fl) sc U D e loc σ R):EvE (c2 w mg mb fl cf) sc U D e loc σ R:=fun A env L h₀ fm=>h A env L h₀ (aNg fm)
theorem aJt {l:List Addr} {x:Str} {u:List Str} {R:AV→AH→Prop} (hF:FrNamed l σ) (hs:Spl x u)
 (h:∀ σ' m,Ext [] σ σ'→σ.nx≤m→σ'.get m=some (.list (u.map .str))→R (.ref m) σ'):ClV (c2 w mg mb fl (some l)) sc (U+18+3) (D+6+1) (.glob aMa) [.str x] loc σ R:=by
 obtain ⟨hl,hz,n,Ts,hr,rfl⟩:=hs
 refine aMp (l:=l) (c:=c2 w mg mb fl (some l)) (scope:=aG uJ) (loc₀:=[(S "s", .str x),(S "comments", .bool false),(S "posix", .bool true)]) rfl (aHp w.params) (by kernel_rfl)
  (tK [S "s", S "comments", S "posix"] [.str x,.bool false,.bool true] (fun vs kvs=>[vs.getD 0 .none,.bool false,.bool true])
   (fun ρ n vs kvs h1 h2=>by obtain ⟨a,p⟩:=hY h1;exact .cons p (.cons (.bool _) (.cons (.bool _) .nil)))
   (fun vs kvs s hX h1 h2=>by obtain ⟨a⟩:=vs1 h1;obtain rfl:=List.length_eq_zero_iff.mp h2;exact kp_binds hX (fun St=>by kernel_rfl)) (by kernel_rfl) rfl (by kernel_rfl)) (by kernel_rfl) ?_
 rw [List.length_map] at hz
 refine aMw (w:=w) (mg:=mg) (mb:=mb) (R:=fun fl _ σ'=>R (fM fl) σ') hF hl hr hz fun σ' m l' h1 h2 h3=>?_
 exact h σ' m h1 h2 (by rw [List.map_map];exact h3)
end
section
variable {w:World} {mg mb:Str→Option Value} {U D:Nat} {loc:Loc} {σ:AH}
theorem aJu {e:Expr} {y:Str} {py p1 p2 p3 p4 p5 px pos:Pos} {k:Nat} {ls:List Str} {ws:List (List Str)} {R:AV→AH→Prop}
 (he:e=.ListComp (.Call (.Name (S "tuple") p1) [.Call (.Name (S "split") p2) [.Name (S "line") p3] [] p4] [] p5) [⟨.Name (S "line") px,.Name y py,[],0⟩] { kind:=.function,names:=[(S ".0", .local),(S "line", .local),(S "tuple", .globalImplicit),(S "split", .globalImplicit)],isGenerator:=false,isCoroutine:=false } pos)
 (hk:(aG aU).names.lookup y=some .local) (hd:(y==("__debug__" : Str))=false) (hi:InL y (.ref k) loc) (hl:loc.lookup y=some (.ref k)) (g:σ.get k=some (.list (ls.map .str))) (hw:All2 Spl ls ws) (hz:ls.length≤14)
 (h:∀ s m as,Ext [] σ s→σ.nx≤m→s.get m=some (.list as)→Tps .tup s as (ws.map fun u=>u.map .str)→R (.ref m) s):EvE (c1 w mg mb (some (some [],[]))) (aG aU) (U+30) (D+10) e loc σ R:=by
 subst he
 refine aAb (c:=c1 w mg mb (some (some [],[]))) (l:=[]) (ce:=[]) (scope':={ kind:=.function,names:=[(S ".0", .local),(S "line", .local),(S "tuple", .globalImplicit),(S "split", .globalImplicit)],isGenerator:=false,isCoroutine:=false }) [] rfl (by intros;rfl) (fun env q=>closureFor_none (by decide +kernel)) (fun env q=>?_) (by kernel_rfl) rfl (by kernel_rfl) (by kernel_rfl) (by kernel_rfl) ?_
 ·unfold relabel Env.kindOf
  rw [q]
  kernel_rfl
 refine gF ?_
 refine cA hk hd hi hl ?_
 refine ⟨_,_,rfl,g,fun fa fo hfo=>⟨fun i acc s=>Ext [] σ s∧s.get σ.nx=some (.list acc)∧s.get (σ.nx+1)=some (.frm fa (σ.nx+1) fo)∧All2 (fun a (b:List AV)=>∃ m,σ.nx+1 < m∧a=.ref m∧s.get m=some (.tup b)) acc ((ws.take i).map fun u=>u.map .str),⟨(Ext.refl _).new.new,aA aB,aB,.nil⟩,fun i acc s hI=>⟨hI.1.keep g (by simp),?_⟩,?_,?_⟩⟩
 ·haveI:=All2.len hI.2.2.2
  rw [List.length_map,List.length_take] at this
  haveI:=All2.len hw
  lia
 ·rintro i a acc s s' hi2 hz6 hz7
  refine hid ?_;intro ZZ zz
  obtain ⟨hx,gq,gf,hA⟩:0:=hz6
  obtain ⟨ha,rfl⟩:=hz7
  obtain ⟨t,ht,rfl⟩:∃ t,ls[i]? = some t∧a=.str t:=by
   rw [List.getElem?_map] at ha
   cases q:ls[i]? with
   | none=>rw [q] at ha;cases ha
   | some e=>rw [q] at ha;exact ⟨e,rfl,(Option.some.inj ha).symm⟩
  obtain ⟨u,hu,hsp⟩:1:=All2.at hw ht
  refine zz ?_;clear zz
  refine oX ?_
  rw [if_pos rfl]
  haveI hF:FrNamed [fa] s':=fun b hb=>by
   rw [Tg hb]
   exact ⟨σ.nx+1,fo,gf,hfo⟩
  show EvE (c2 w mg mb (some (none,[])) (some [fa])) _ _ _ _ _ _ _
  refine fO (fun _=>by rfl) (EvE.onC (lA (by kernel_rfl) ?_))
  refine aCn (by intros;rfl) (by intros;rfl) (bD (by intros;rfl) ?_)
  refine fO (fun _=>by rfl) (EvE.onC (xD (by kernel_rfl) ?_))
  refine aCn (by intros;rfl) (by intros;rfl) (bD (by intros;rfl) (cA (by kernel_rfl) (by decide +kernel) (.here _) rfl (eT (uW (by kernel_rfl) ?_))))
  refine ClV.up (by lia) (by lia) (aJt (U:=U) (D:=D) hF hsp fun s2 m hx2 hm g2=>?_)
  refine eT (aIz ?_)
  refine nS g2 (by rw [List.length_map];exact Nat.le_of_lt (Nat.lt_trans hsp.2.1 (by decide))) ?_
  haveI gq2:=hx2.keep gq (by simp)
  haveI gf2:=hx2.keep gf (by simp)
  haveI hlt:=AH.get_lt gf2
  refine ⟨aA gq2,?_,aF (aA gq2),aC (Nat.succ_ne_self _) (aA gf2),?_⟩
  ·exact (hx.trans hx2).new.set (.inr (Te _))
  ·have hn:∀ {s3:AH} {m:Nat} {o:AO} {p:AO},σ.nx+1 < m→s3.get m=some o→(s3.set σ.nx p).get m=some o:=fun h e=>aC (by exact (Nat.ne_of_gt (Nat.lt_of_succ_lt h))) e
   rw [List.take_add_one,hu,List.map_append]
   exact All2.snoc (hA.imp fun a b ⟨m,h1,h2,h3⟩=>⟨m,h1,h2,hn h1 (aA (hx2.keep h3 (by simp)))⟩) ⟨_,hlt,rfl,hn hlt aB⟩
 ·rintro acc s ⟨hx,gq,gf,hA⟩
  have hn:(fQ k (ls.map AV.str)).n=ws.length:=(List.length_map ..).trans (All2.len hw)
  rw [hn,List.take_length] at hA
  refine ⟨gf,h _ _ _ (hx.del (Nat.le_succ _)) (Te _) (by rw [lC (Nat.ne_of_lt (Nat.lt_succ_self _))];exact gq) (hA.imp fun a b ⟨m,h1,h2,h3⟩=>⟨m,h2,by rw [lC (Nat.ne_of_gt h1)];exact h3⟩)⟩
end
theorem aAn:∀ xs:List Int,All2 Spl (fD xs) ((aY xs).map aR):=fun xs=>by
 unfold fD aY
 rw [List.map_map]
 induction xs.filter onO with
 | nil=>exact .nil
 | cons x r ih=>exact .cons (xW (xV x) (aOp x)) ih
theorem aAo:∀ xs:List Int,All2 Spl (dI xs) ((aZ xs).map aR):=fun xs=>by
 unfold dI aZ
 rw [List.map_map]
 induction xs.filter onN with
 | nil=>exact .nil
 | cons x r ih=>exact .cons (xW (xV x) (aOq x)) ih
structure RowsT (σ0:AH) (ko kn kb kh:Nat) (X:List Int) (kr k1 k2:Nat) (as bs:List AV) (s:AH):Prop where
 H:LP σ0 ko kn kb kh X X s
 r:s.get kr=some (.list [.ref k1,.ref k2])
 a:s.get k1=some (.list as)
 b:s.get k2=some (.list bs)
 ta:Tps .tup s as (((aY X).map aR).map fun u=>u.map .str)
 tb:Tps .tup s bs (((aZ X).map aR).map fun u=>u.map .str)
theorem LP.ext {σ0:AH} {ko kn kb kh:Nat} {xo xn:List Int} {s s':AH} (H:LP σ0 ko kn kb kh xo xn s) (hx:Ext [] s s'):LP σ0 ko kn kb kh xo xn s' :=
 ⟨H.x.trans (hx.mono fun j q=>nomatch q),hx.keep H.o (by simp),hx.keep H.n (by simp),hx.keep H.b (by simp),hx.keep H.h (by simp),hx.keep H.p (by simp),H.on,H.ob,H.oh,H.nb,H.nh,H.bh⟩
section
variable {w:World} {mg mb:Str→Option Value} {U D:Nat} {loc:Loc} {σ:AH}
theorem aSk {X:List Int} {ko kn kb kh:Nat} {σ0:AH} {R:AF→Loc→AH→Prop} (H:LP σ0 ko kn kb kh X X σ) (hl:Sub (lcB ko kn kb kh) loc) (hX:X.length≤14)
 (h:∀ s kr k1 k2 as bs,RowsT σ0 ko kn kb kh X kr k1 k2 as bs s→R .next (lcB ko kn kb kh++[(S "rows", .ref kr)]) s) :
 Ex1 (c1 w mg mb (some (some [],[]))) (aG aU) (U+30) (D+10) (cH bd (aU++[2])) loc σ R:=by
 refine cN hl ?_
 haveI z1:=cF X
 haveI z2:=cG X
 refine cQ (fun _=>rfl) (by kernel_rfl) ?_
 refine iG (bD (by intros;rfl) (aJu (y:=S "before") (k:=kb) rfl (by kernel_rfl) (by decide +kernel) (by repeat constructor) rfl H.b (aAn X) (Ta z1.2 hX) fun s1 m1 as hx1 hm1 g1 t1=>?_))
 refine bD (by intros;rfl) (aJu (y:=S "behind") (k:=kh) rfl (by kernel_rfl) (by decide +kernel) (by repeat constructor) rfl (hx1.keep H.h (by simp)) (aAo X) (Ta z2.2 hX) fun s2 m2 bs hx2 hm2 g2 t2=>?_)
 walk_at "e"
 exact h _ _ m1 m2 as bs ⟨(H.ext (hx1.trans hx2)).new,aB,aA (hx2.keep g1 (by simp)),aA g2,(t1.ext hx2).new,t2.new⟩
theorem aBz {e:Expr} {y:Str} {py p1 p2 p3 p4 p5 px pos:Pos} {k:Nat} {ns:List Nat} {R:AV→AH→Prop}
 (he:e=.ListComp (.Call (.Name (S "tuple") p1) [.Call (.Name (S "_law_words") p2) [.Name (S "number") p3] [] p4] [] p5) [⟨.Name (S "number") px,.Name y py,[],0⟩] { kind:=.function,names:=[(S ".0", .local),(S "number", .local),(S "tuple", .globalImplicit),(S "_law_words", .globalImplicit)],isGenerator:=false,isCoroutine:=false } pos)
 (hk:(aG aU).names.lookup y=some .local) (hd:(y==("__debug__" : Str))=false) (hi:InL y (.ref k) loc) (hl:loc.lookup y=some (.ref k)) (g:σ.get k=some (.list (ns.map fun (n:Nat)=>.int (n:Int)))) (hw:∀ n∈ns,n < 4) (hz:ns.length≤14)
 (h:∀ s m as,Ext [] σ s→σ.nx≤m→s.get m=some (.list as)→Tps .tup s as ((ns.map aR).map fun u=>u.map .str)→R (.ref m) s):EvE (c1 w mg mb (some (some [],[]))) (aG aU) (U+30) (D+10) e loc σ R:=by
 subst he
 refine aAl (scope':={ kind:=.function,names:=[(S ".0", .local),(S "number", .local),(S "tuple", .globalImplicit),(S "_law_words", .globalImplicit)],isGenerator:=false,isCoroutine:=false }) [] (by intros;rfl) (fun env q=>closureFor_none (by decide +kernel)) (fun env q=>?_) (by kernel_rfl) rfl (by kernel_rfl) (by kernel_rfl) (by kernel_rfl) ?_
 ·unfold relabel Env.kindOf
  rw [q]
  kernel_rfl
 refine gF ?_
 refine cA hk hd hi hl ?_
 refine ⟨_,_,rfl,g,fun i acc s=>Ext [] σ s∧s.get σ.nx=some (.list acc)∧All2 (fun a (b:List AV)=>∃ m,σ.nx < m∧a=.ref m∧s.get m=some (.tup b)) acc (((ns.take i).map aR).map fun u=>u.map .str),⟨(Ext.refl _).new,aB,.nil⟩,fun i acc s hI=>⟨hI.1.keep g (by simp),?_⟩,?_,?_⟩
 ·haveI:=All2.len hI.2.2
  rw [List.length_map,List.length_map,List.length_take] at this
  lia
 ·rintro i a acc s s' hi2 hz6 hz7
  refine hid ?_;intro ZZ zz
  obtain ⟨hx,gq,hA⟩:0:=hz6
  obtain ⟨ha,rfl⟩:=hz7
  obtain ⟨t,ht,rfl⟩:∃ t:Nat,ns[i]? = some t∧a=.int (t:Int):=by
   rw [List.getElem?_map] at ha
   cases q:ns[i]? with
   | none=>rw [q] at ha;cases ha
   | some e=>rw [q] at ha;exact ⟨e,rfl,(Option.some.inj ha).symm⟩
  refine zz ?_;clear zz
  refine oX ?_
  rw [if_pos rfl]
  haveI ht4:=hw t (List.mem_of_getElem? ht)
  refine fO (fun _=>by rfl) (lA (by kernel_rfl) ?_)
  refine aCn (by intros;rfl) (by intros;rfl) (bD (by intros;rfl) ?_)
  refine fO (fun _=>by rfl) (mD (by kernel_rfl) ?_)
  refine aCn (by intros;rfl) (by intros;rfl) (bD (by intros;rfl) (cA (by kernel_rfl) (by decide +kernel) (.here _) rfl (eT (uW (by kernel_rfl) ?_))))
  refine ClV.up (by lia) (by lia) (jE (U:=U) (D:=D) ht4 fun s2 m hx2 hm g2=>?_)
  refine eT (aIz ?_)
  refine nS g2 (by rw [List.length_map];exact (vB ⟨t,ht4⟩).2.1) ?_
  haveI gq2:=hx2.keep gq (by simp)
  haveI hlt:=AH.get_lt gq2
  refine ⟨aA gq2,?_,aF (aA gq2),?_⟩
  ·exact (hx.trans hx2).new.set (.inr (Te _))
  ·have hn:∀ {s3:AH} {m:Nat} {o:AO} {p:AO},σ.nx < m→s3.get m=some o→(s3.set σ.nx p).get m=some o:=fun h e=>aC (by exact (Nat.ne_of_gt h)) e
   rw [List.take_add_one,ht,List.map_append,List.map_append]
   exact All2.snoc (hA.imp fun a b ⟨m,h1,h2,h3⟩=>⟨m,h1,h2,hn h1 (aA (hx2.keep h3 (by simp)))⟩) ⟨_,hlt,rfl,hn hlt aB⟩
 ·rintro acc s ⟨hx,gq,hA⟩
  have hn:(fQ k (ns.map fun (n:Nat)=>AV.int (n:Int))).n=ns.length:=List.length_map ..
  rw [hn,List.take_length] at hA
  exact h _ _ _ hx (Te _) gq (hA.imp fun a b ⟨m,h1,h2,h3⟩=>⟨m,h2,h3⟩)
end
noncomputable def dW (u:List Str):PyData:=.tuple (u.map .str)
theorem aCa {σ:AH}:∀ u:List Str,All2 (RdA σ) (u.map .str) (u.map .str)
 | []=>.nil
 | x::u=>.cons (.str x) (aCa u)
theorem fY {σ:AH}:∀ {ws:List (List Str)} {as:List AV},Tps .tup σ as (ws.map fun u=>u.map .str)→All2 (RdA σ) as (ws.map dW)
 | [],_,h=>by cases h;exact .nil
 | b::B,_,h=>by
  cases h with
  | cons q t =>
   obtain ⟨m,rfl,g⟩:1:=q
   exact .cons (.tup g (aCa b)) (fY t)
theorem rJ:∀ n:Fin 4,(dW (aR n.1)).canLay0=true∧(dW (aR n.1)).depth≤8:=by decide +kernel
theorem cX_mem {X:List Int}:(∀ n∈aY X,n < 4)∧(∀ n∈aZ X,n < 4):=by
 unfold aY aZ
 constructor <;> (intro n hn;obtain ⟨x,_,rfl⟩:=List.mem_map.mp hn;exact xV x)
theorem xX {l:List (List Nat)} (h:∀ ns∈l,∀ n∈ns,n < 4):SeqAt.shaped (.list (l.map fun ns=>.list ((ns.map aR).map dW)))=true:=nR fun ns hns=>by
 rw [List.map_map]
 refine ⟨?_,?_⟩
 ·exact aBf fun n hn=>(rJ ⟨n,h ns hns n hn⟩).1
 ·show PyData.depthAll _+1≤9
  exact Nat.succ_le_succ (aBg (n:=8) fun n hn=>(rJ ⟨n,h ns hns n hn⟩).2)
section
variable {w:World} {mg mb:Str→Option Value} {U D:Nat} {loc:Loc} {σ:AH}
theorem RowsT.ext {σ0:AH} {ko kn kb kh:Nat} {X:List Int} {kr k1 k2:Nat} {as bs:List AV} {s s':AH} (H:RowsT σ0 ko kn kb kh X kr k1 k2 as bs s) (hx:Ext [] s s'):RowsT σ0 ko kn kb kh X kr k1 k2 as bs s' :=
 ⟨H.H.ext hx,hx.keep H.r (by simp),hx.keep H.a (by simp),hx.keep H.b (by simp),H.ta.ext hx,H.tb.ext hx⟩
theorem aSl {X:List Int} {ko kn kb kh kr k1 k2:Nat} {as bs:List AV} {σ0:AH} {R:AF→Loc→AH→Prop} (H:RowsT σ0 ko kn kb kh X kr k1 k2 as bs σ) (hl:Sub (lcB ko kn kb kh++[(S "rows", .ref kr)]) loc) (hX:X.length≤14)
 (h:∀ s,RowsT σ0 ko kn kb kh X kr k1 k2 as bs s→R .next (lcB ko kn kb kh++[(S "rows", .ref kr)]) s) :
 Ex1 (c1 w mg mb (some (some [],[]))) (aG aU) (U+94) (D+10) (cH bd (aU++[3])) loc σ R:=by
 refine cN hl ?_
 haveI z1:=cF X
 haveI z2:=cG X
 refine fZ (cU (by kernel_rfl) ?_)
 ·refine cA (by kernel_rfl) (by decide +kernel) (by repeat constructor) rfl ?_
  refine iG (bD (by intros;rfl) (aBz (U:=U+64) (y:=S "old") (k:=ko) rfl (by kernel_rfl) (by decide +kernel) (by repeat constructor) rfl H.H.o cX_mem.1 (Ta z1.1 hX) fun s1 m1 cs hx1 hm1 g1 t1=>?_))
  refine bD (by intros;rfl) (aBz (U:=U+64) (y:=S "new") (k:=kn) rfl (by kernel_rfl) (by decide +kernel) (by repeat constructor) rfl (hx1.keep H.H.n (by simp)) cX_mem.2 (Ta z2.1 hX) fun s2 m2 ds hx2 hm2 g2 t2=>?_)
  refine eT ⟨by rw [sizeLine_eq];exact Tb rfl,?_⟩
  haveI H2:=(H.ext (hx1.trans hx2)).ext ((Ext.refl s2).new (o:=.list [.ref m1,.ref m2]))
  refine uR (U:=U+30) (d:=.list ([aY X,aZ X].map fun ns=>.list ((ns.map aR).map dW))) (.list H2.r (.cons (.list H2.a (fY H2.ta)) (.cons (.list H2.b (fY H2.tb)) .nil)))
   (.list aB (.cons (.list (aA (hx2.keep g1 (by simp))) (fY (t1.ext hx2).new)) (.cons (.list (aA g2) (fY t2.new)) .nil))) (xX fun ns hns n hn=>?_) ?_
  ·rcases Tf hns with rfl | hns
   ·exact cX_mem.1 n hn
   ·rw [Tg hns] at hn;exact cX_mem.2 n hn
  ·walk_at "e"
   exact h _ H2
end
section
variable {w:World} {mg mb:Str→Option Value} {fl:FL} {sc:Scope} {U D:Nat} {loc:Loc} {σ:AH}
theorem aSm {α:Type} [DecidableEq α] {T:El α} {x y:Nat} {as:List AV} {ys:List α} {R:AV→AH→Prop} (e3:σ.get y=some (.list as)) (hE:All2 (T.is σ) as ys) (hy:ys.length≤100)
 (h:∀ σ' d kb kj kp kvs,Ext [] σ σ'→σ.nx≤d→SM T σ' (σ.nx+1) d x y kb kj kp (σ.nx+2) kvs ys .none .none→R (.ref (σ.nx+1)) σ'):ClV (c1 w mg mb fl) sc (U+17) (D+5) (.glob aD) [.none,.ref x,.ref y] loc σ R:=by
 refine yO (c:=c1 w mg mb fl) ?_
 refine sR (U:=U+14) (D:=D+4) (C:=aD) (fI:=sY) (by kernel_rfl) (by kernel_rfl) (by kernel_rfl) (CdV.on (aEr (T:=T) (U:=U) (D:=D) aB (aA aB) (aA (aA e3)) (hE.mono fun _ _ z=>T.isK z (Ext.upE (Ext.refl σ).new.new)) hy fun s1 kb kj kp kvs h1 M _ _=>⟨rfl,?_⟩))
 exact h s1 σ.nx kb kj kp kvs ((((Ext.refl (ch:=[]) σ).new.new.mono fun j (hj:j∈[])=>(nomatch hj)).trans h1).mono fun j hj=>.inr (by rw [Tg hj];exact Te _)) (Te _) M
end
theorem lE {σ:AH}:∀ {ws:List (List Str)} {as:List AV},Tps .tup σ as (ws.map fun u=>u.map .str)→All2 (tupEl.is σ) as ws
 | [],_,h=>by cases h;exact .nil
 | b::B,_,h=>by
  cases h with
  | cons q t=>exact .cons q (lE t)
section
variable {w:World} {mg mb:Str→Option Value} {U D:Nat} {loc:Loc} {σ:AH}
theorem aEy {X:List Int} {ko kn kb kh kr k1 k2:Nat} {as bs:List AV} {σ0:AH} {R:AF→Loc→AH→Prop} (H:RowsT σ0 ko kn kb kh X kr k1 k2 as bs σ) (hl:Sub (lcB ko kn kb kh++[(S "rows", .ref kr)]) loc) (hX:X.length≤14)
 (h:∀ s kM d kb' kj kp n0 kvs,RowsT σ0 ko kn kb kh X kr k1 k2 as bs s→SM tupEl s kM d k1 k2 kb' kj kp n0 kvs ((aZ X).map aR) .none .none→σ.nx≤d→R .next (lcB ko kn kb kh++[(S "rows", .ref kr),(S "matcher", .ref kM)]) s) :
 Ex1 (c1 w mg mb (some (some [],[]))) (aG aU) (U+94) (D+10) (cH bd (aU++[4])) loc σ R:=by
 refine cN hl ?_
 show Ex1 _ _ _ _ _ [(S "script", .ref 1),(S "old", .ref ko),(S "new", .ref kn),(S "before", .ref kb),(S "behind", .ref kh),(S "rows", .ref kr)] σ R
 haveI z2:=cG X
 refine cQ (fun _=>rfl) (by kernel_rfl) ?_
 haveI gr:=H.r
 walk_at "e"
 refine aM (n:=0) gr rfl (by decide) rfl ?_ (fun _ _=>by kernel_rfl)
 walk_at "e"
 refine aM (n:=1) gr rfl (by decide) rfl ?_ (fun _ _=>by kernel_rfl)
 walk_at "e"
 refine ClV.up (by lia) (by lia) (aSm (T:=tupEl) (U:=U) (D:=D) H.b (lE H.tb) (by rw [List.length_map];exact Ta z2.1 (Ta hX (by decide))) fun s d kb' kj kp kvs hx hd M=>?_)
 walk_at "e"
 exact h s _ _ _ _ _ _ _ (H.ext hx) M hd
end
theorem eG {σ:AH}:∀ {B:List (Nat×Nat×Nat)} {as:List AV},Tps .list σ as (B.map b3)→All2 (RdA σ) as (B.map dB)
 | [],_,h=>by cases h;exact .nil
 | b::B,_,h=>by
  cases h with
  | cons q t =>
   obtain ⟨m,rfl,g⟩:1:=q
   exact .cons (.list g (.cons (.int _) (.cons (.int _) (.cons (.int _) .nil)))) (eG t)
section
variable {w:World} {mg mb:Str→Option Value} {U D:Nat} {loc:Loc} {σ:AH}
theorem xY {α:Type} [DecidableEq α] {T:El α} {e:Expr} {y:Str} {py p1 p2 p3 p4 p5 px pos:Pos} {k d x z kb kj kp n0:Nat} {kvs:List (α×AV)} {as bs':List AV} {xs ys:List α} {vo:AV} {R:AV→AH→Prop}
 (he:e=.ListComp (.Call (.Name (S "list") p1) [.Name (S "block") p2] [] p3) [⟨.Name (S "block") px,.Call (.Attribute (.Name y py) (S "get_matching_blocks") p4) [] [] p5,[],0⟩] { kind:=.function,names:=[(S ".0", .local),(S "block", .local),(S "list", .globalImplicit)],isGenerator:=false,isCoroutine:=false } pos)
 (hev:∀ env,eval (.Call (.Attribute (.Name y py) (S "get_matching_blocks") p4) [] [] p5) env=(do
   let ov ← eval (.Name y py) env
   standAt p4.atName
   let (f,first) ← holding [ov] (getMethod ov (S "get_matching_blocks") (do return (← importBound (.Name y py) env).getD true))
   callWith p5 f first (backTo p5 (starEach [] env)) []))
 (hk:(aG aU).names.lookup y=some .local) (hd:(y==("__debug__" : Str))=false) (hi:InL y (.ref k) loc) (hl:loc.lookup y=some (.ref k))
 (M:SM T σ k d x z kb kj kp n0 kvs ys .none vo) (ex:σ.get x=some (.list as)) (hEx:All2 (T.is σ) as xs) (ey:σ.get z=some (.list bs')) (hEy:All2 (T.is σ) bs' ys) (hx:xs.length≤14) (hy:ys.length≤14) (hB:(cut xs ys 0 xs.length 0 ys.length++[(xs.length,ys.length,0)]).length≤15)
 (h:∀ s m bs,Ext [d] σ s→σ.nx≤m→s.get m=some (.list bs)→Tps .list s bs ((cut xs ys 0 xs.length 0 ys.length++[(xs.length,ys.length,0)]).map b3)→R (.ref m) s):EvE (c1 w mg mb (some (some [],[]))) (aG aU) (U+94) (D+60) e loc σ R:=by
 subst he
 refine aAl (scope':={ kind:=.function,names:=[(S ".0", .local),(S "block", .local),(S "list", .globalImplicit)],isGenerator:=false,isCoroutine:=false }) [] (by intros;rfl) (fun env q=>closureFor_none (by decide +kernel)) (fun env q=>?_) (by kernel_rfl) rfl (by kernel_rfl) (by kernel_rfl) (by kernel_rfl) ?_
 ·unfold relabel Env.kindOf
  rw [q]
  kernel_rfl
 refine gF ?_
 haveI mk:=M.k
 haveI md:=M.d
 generalize hBB:cut xs ys 0 xs.length 0 ys.length++[(xs.length,ys.length,0)]=B at *
 refine pJ hev (cA hk hd hi hl ?_)
 walk_at "e"
 refine ClV.up (by lia) (by lia) (ClV.on (aYt (T:=T) (U:=U) (D:=D) M ex hEx ey hEy (Ta hx (by decide)) (Ta hy (by decide)) fun s0 km ms hx0 hkm M0 gm tm=>?_))
 rw [hBB] at tm
 haveI hms:ms.length=B.length:=by haveI:=All2.len tm;rw [List.length_map] at this;exact this
 haveI hd0:d∈[d]:=.head _
 refine ⟨_,_,rfl,gm,fun i acc s=>Ext [] s0 s∧s.get s0.nx=some (.list acc)∧All2 (fun a (b:List AV)=>∃ m,s0.nx < m∧a=.ref m∧s.get m=some (.list b)) acc ((B.take i).map b3),⟨(Ext.refl _).new,aB,.nil⟩,fun i acc s hI=>⟨hI.1.keep gm (by simp),?_⟩,?_,?_⟩
 ·haveI:=All2.len hI.2.2
  rw [List.length_map,List.length_take] at this
  lia
 ·rintro i a acc s s' hi2 hz6 hz7
  refine hid ?_;intro ZZ zz
  obtain ⟨hx,gq,hA⟩:0:=hz6
  obtain ⟨ha,rfl⟩:=hz7
  haveI hi':i < ms.length:=hi2
  obtain ⟨m,b,rfl,hb,gmm⟩:∃ m b,a=.ref m∧(B.map b3)[i]? = some b∧s0.get m=some (.mtup aL b):=by
   obtain ⟨b,hb,m,q1,q2⟩:=All2.at tm ha
   exact ⟨m,b,q1,hb,q2⟩
  obtain ⟨e,he,rfl⟩:∃ e,B[i]? = some e∧b=b3 e:=by
   rw [List.getElem?_map] at hb
   cases q:B[i]? with
   | none=>rw [q] at hb;cases hb
   | some e=>rw [q] at hb;exact ⟨e,rfl,(Option.some.inj hb).symm⟩
  refine zz ?_;clear zz
  haveI gm':=hx.keep gmm (by simp)
  refine oX ?_
  rw [if_pos rfl]
  walk_at "e"
  refine kH (U:=U+91) (C:=aL) (by kernel_rfl) (by kernel_rfl) (by kernel_rfl) gm' (by show 3 < 1000;decide) fun s2 hx2 g2=>?_
  haveI gq2:=hx2.keep gq (by simp)
  haveI hnx:=AH.get_lt gq
  refine ⟨gq2,(hx.trans hx2).set (.inr (Te _)),aF gq2,?_⟩
  have hn:∀ {s3:AH} {m:Nat} {o:AO} {p:AO},s0.nx < m→s3.get m=some o→(s3.set s0.nx p).get m=some o:=fun h e=>aC (by exact (Nat.ne_of_gt h)) e
  rw [List.take_add_one,he,List.map_append]
  exact All2.snoc (hA.imp fun a b ⟨m,h1,h2,h3⟩=>⟨m,h1,h2,hn h1 (hx2.keep h3 (by simp))⟩) ⟨_,hnx,rfl,hn hnx g2⟩
 ·rintro acc s ⟨hx,gq,hA⟩
  haveI hn:(fQ km ms).n=B.length:=hms
  rw [hn,List.take_length] at hA
  exact h _ _ _ (hx0.trans (hx.mono fun j q=>nomatch q)) hx0.nx gq (hA.imp fun a b ⟨m,_,h2,h3⟩=>⟨m,h2,h3⟩)
end
theorem xZ:∀ a b:Fin 4,aR a.1=aR b.1→a=b:=by decide +kernel
theorem mQ {σ:AH}:∀ ns:List Nat,All2 (intEqs.is σ) (ns.map fun (n:Nat)=>.int (n:Int)) (ns.map fun (n:Nat)=>(n:Int))
 | []=>.nil
 | n::ns=>.cons rfl (mQ ns)
theorem RowsT.extD {σ0:AH} {ko kn kb kh:Nat} {X:List Int} {kr k1 k2:Nat} {as bs:List AV} {s s':AH} {d:Nat} {kvs:List (Str×AV)} (H:RowsT σ0 ko kn kb kh X kr k1 k2 as bs s) (hd:s.get d=some (.idict kvs)) (hx:Ext [d] s s') (hd0:σ0.nx≤d):RowsT σ0 ko kn kb kh X kr k1 k2 as bs s':=by
 have kp:∀ {k:Nat} {o:AO},s.get k=some o→(∀ q,o≠.idict q)→s'.get k=some o:=fun e n=>hx.keep e (by simp;exact aE e hd (n _))
 refine ⟨⟨⟨Ta H.H.x.nx hx.nx,fun j o n e=>hx.keep (H.H.x.keep e n) (by haveI:=AH.get_lt e;simp;lia)⟩,kp H.H.o nofun,kp H.H.n nofun,kp H.H.b nofun,kp H.H.h nofun,kp H.H.p nofun,H.H.on,H.H.ob,H.H.oh,H.H.nb,H.H.nh,H.H.bh⟩,kp H.r nofun,kp H.a nofun,kp H.b nofun,H.ta.keep fun m xs e=>kp e nofun,H.tb.keep fun m xs e=>kp e nofun⟩
theorem aJv {X:List Int} {a b c d:Nat}:cut ((aY X).map aR) ((aZ X).map aR) a b c d=cut ((aY X).map fun (n:Nat)=>(n:Int)) ((aZ X).map fun (n:Nat)=>(n:Int)) a b c d :=
 (xO (mL fun x hx y hy e=>congrArg Fin.val (xZ ⟨x,cX_mem.1 x hx⟩ ⟨y,cX_mem.2 y hy⟩ e))).symm.trans (xO (mL fun x _ y _ e=>Int.ofNat.inj e))
section
variable {w:World} {mg mb:Str→Option Value} {U D:Nat} {loc:Loc} {σ:AH}
noncomputable abbrev lcM (ko kn kb kh kr kM:Nat):Loc:=[(S "script", .ref 1),(S "old", .ref ko),(S "new", .ref kn),(S "before", .ref kb),(S "behind", .ref kh),(S "rows", .ref kr),(S "matcher", .ref kM)]
theorem aYx {X:List Int} {ko kn kb kh kr k1 k2 kM d kb' kj kp n0:Nat} {kvs:List (List Str×AV)} {as bs:List AV} {σ0:AH} {R:AF→Loc→AH→Prop} (H:RowsT σ0 ko kn kb kh X kr k1 k2 as bs σ) (M:SM tupEl σ kM d k1 k2 kb' kj kp n0 kvs ((aZ X).map aR) .none .none) (hd0:σ0.nx≤d) (hl:Sub (lcM ko kn kb kh kr kM) loc) (hX:X.length≤14)
 (hB:(cut ((aY X).map aR) ((aZ X).map aR) 0 ((aY X).map aR).length 0 ((aZ X).map aR).length++[(((aY X).map aR).length,((aZ X).map aR).length,0)]).length≤15)
 (h:∀ s,RowsT σ0 ko kn kb kh X kr k1 k2 as bs s→R .next (lcM ko kn kb kh kr kM) s) :
 Ex1 (c1 w mg mb (some (some [],[]))) (aG aU) (U+300) (D+100) (cH bd (aU++[5])) loc σ R:=by
 refine cN hl ?_
 haveI z1:=cF X
 haveI z2:=cG X
 haveI z3:((aY X).map aR).length≤14:=by rw [List.length_map];exact Ta z1.1 hX
 haveI z4:((aZ X).map aR).length≤14:=by rw [List.length_map];exact Ta z2.1 hX
 refine fZ (cU (by kernel_rfl) ?_)
 refine xY (T:=tupEl) (U:=U+206) (D:=D+40) (y:=S "matcher") (k:=kM) (d:=d) rfl (fun _=>by kernel_rfl) (by kernel_rfl) (by decide +kernel) (by repeat constructor) rfl M H.a (lE H.ta) H.b (lE H.tb) z3 z4 hB fun s m cs hx hm g t=>?_
 haveI H1:=H.extD M.d hx hd0
 walk_at "e"
 refine ClV.up (by lia) (by lia) (ClV.on (mP (T:=intEqs) (U:=U) (D:=D) (xs:=(aY X).map fun (n:Nat)=>(n:Int)) (ys:=(aZ X).map fun (n:Nat)=>(n:Int)) (by rw [List.length_map];lia) (by rw [List.length_map];lia) H1.H.o (mQ _) H1.H.n (mQ _) fun s2 m2 ds hx2 hm2 g2 t2=>?_))
 have e:∀ (f:Nat→Int),(cut ((aY X).map fun (n:Nat)=>(n:Int)) ((aZ X).map fun (n:Nat)=>(n:Int)) 0 ((aY X).map fun (n:Nat)=>(n:Int)).length 0 ((aZ X).map fun (n:Nat)=>(n:Int)).length++[(((aY X).map fun (n:Nat)=>(n:Int)).length,((aZ X).map fun (n:Nat)=>(n:Int)).length,0)])=cut ((aY X).map aR) ((aZ X).map aR) 0 ((aY X).map aR).length 0 ((aZ X).map aR).length++[(((aY X).map aR).length,((aZ X).map aR).length,0)]:=fun _=>by
  rw [aJv];simp only [List.length_map]
 rw [e fun _=>0] at t2
 refine uR (U:=U+236) (.list (hx2.keep g (by simp)) (eG (t.ext hx2))) (.list g2 (eG t2)) (kJ _) ?_
 walk_at "e"
 exact h _ (H1.ext hx2)
end
theorem vC {σ:AH}:∀ xs:List Str,All2 (strEl.is σ) (xs.map .str) xs
 | []=>.nil
 | x::xs=>.cons rfl (vC xs)
section
variable {w:World} {mg mb:Str→Option Value} {U D:Nat} {loc:Loc} {σ:AH}
theorem aEz {X:List Int} {ko kn kb kh kr k1 k2 kM:Nat} {as bs:List AV} {σ0:AH} {R:AF→Loc→AH→Prop} (H:RowsT σ0 ko kn kb kh X kr k1 k2 as bs σ) (hl:Sub (lcM ko kn kb kh kr kM) loc) (hX:X.length≤14)
 (h:∀ s kW d kb' kj kp n0 kvs,RowsT σ0 ko kn kb kh X kr k1 k2 as bs s→SM strEl s kW d kb kh kb' kj kp n0 kvs (dI X) .none .none→σ.nx≤d→R .next (lcM ko kn kb kh kr kM++[(S "written", .ref kW)]) s) :
 Ex1 (c1 w mg mb (some (some [],[]))) (aG aU) (U+94) (D+10) (cH bd (aU++[6])) loc σ R:=by
 refine cN hl ?_
 haveI z2:=cG X
 refine cQ (fun _=>rfl) (by kernel_rfl) ?_
 walk_at "e"
 refine ClV.up (by lia) (by lia) (aSm (T:=strEl) (U:=U) (D:=D) H.H.h (vC _) (Ta z2.2 (Ta hX (by decide))) fun s d kb' kj kp kvs hx hd M=>?_)
 walk_at "e"
 exact h s _ _ _ _ _ _ _ (H.ext hx) M hd
noncomputable def strEqs:Eqs Str where
 is _ a x:=a=.str x
 isK h _:=h
 eq:=fun ha hb h=>strEl.eq ha hb h
theorem vD {σ:AH}:∀ xs:List Str,All2 (strEqs.is σ) (xs.map .str) xs
 | []=>.nil
 | x::xs=>.cons rfl (vD xs)
noncomputable abbrev lcW (ko kn kb kh kr kM kW:Nat):Loc:=[(S "script", .ref 1),(S "old", .ref ko),(S "new", .ref kn),(S "before", .ref kb),(S "behind", .ref kh),(S "rows", .ref kr),(S "matcher", .ref kM),(S "written", .ref kW)]
theorem aSn {X:List Int} {ko kn kb kh kr k1 k2 kM kW d kb' kj kp n0:Nat} {kvs:List (Str×AV)} {as bs:List AV} {σ0:AH} {R:AF→Loc→AH→Prop} (H:RowsT σ0 ko kn kb kh X kr k1 k2 as bs σ) (M:SM strEl σ kW d kb kh kb' kj kp n0 kvs (dI X) .none .none) (hd0:σ0.nx≤d) (hl:Sub (lcW ko kn kb kh kr kM kW) loc) (hX:X.length≤14)
 (hB:(cut (fD X) (dI X) 0 (fD X).length 0 (dI X).length++[((fD X).length,(dI X).length,0)]).length≤15)
 (h:∀ s,RowsT σ0 ko kn kb kh X kr k1 k2 as bs s→R .next (lcW ko kn kb kh kr kM kW) s) :
 Ex1 (c1 w mg mb (some (some [],[]))) (aG aU) (U+300) (D+100) (cH bd (aU++[7])) loc σ R:=by
 refine cN hl ?_
 haveI z1:=cF X
 haveI z2:=cG X
 refine fZ (cU (by kernel_rfl) ?_)
 refine xY (T:=strEl) (U:=U+206) (D:=D+40) (y:=S "written") (k:=kW) (d:=d) rfl (fun _=>by kernel_rfl) (by kernel_rfl) (by decide +kernel) (by repeat constructor) rfl M H.H.b (vC _) H.H.h (vC _) (Ta z1.2 hX) (Ta z2.2 hX) hB fun s m cs hx hm g t=>?_
 haveI H1:=H.extD M.d hx hd0
 walk_at "e"
 refine ClV.up (by lia) (by lia) (ClV.on (mP (T:=strEqs) (U:=U) (D:=D) (xs:=fD X) (ys:=dI X) (by lia) (by lia) H1.H.b (vD _) H1.H.h (vD _) fun s2 m2 ds hx2 hm2 g2 t2=>?_))
 refine uR (U:=U+236) (.list (hx2.keep g (by simp)) (eG (t.ext hx2))) (.list g2 (eG t2)) (kJ _) ?_
 walk_at "e"
 exact h _ (H1.ext hx2)
theorem aJw {X:List Int} {ko kn kb kh kr k1 k2 kM kW:Nat} {as bs:List AV} {σ0:AH} {R:AF→Loc→AH→Prop} (H:RowsT σ0 ko kn kb kh X kr k1 k2 as bs σ) (hl:Sub (lcW ko kn kb kh kr kM kW) loc) (hX:X.length≤14)
 (h:∀ s kT d kb' kj kp n0 kvs,RowsT σ0 ko kn kb kh X kr k1 k2 as bs s→SM tupEl s kT d k2 k1 kb' kj kp n0 kvs ((aY X).map aR) .none .none→σ.nx≤d→R .next (lcW ko kn kb kh kr kM kW++[(S "turned", .ref kT)]) s) :
 Ex1 (c1 w mg mb (some (some [],[]))) (aG aU) (U+94) (D+10) (cH bd (aU++[8])) loc σ R:=by
 refine cN hl ?_
 haveI z1:=cF X
 refine cQ (fun _=>rfl) (by kernel_rfl) ?_
 haveI gr:=H.r
 walk_at "e"
 refine aM (n:=1) gr rfl (by decide) rfl ?_ (fun _ _=>by kernel_rfl)
 walk_at "e"
 refine aM (n:=0) gr rfl (by decide) rfl ?_ (fun _ _=>by kernel_rfl)
 walk_at "e"
 refine ClV.up (by lia) (by lia) (aSm (T:=tupEl) (U:=U) (D:=D) H.a (lE H.ta) (by rw [List.length_map];exact Ta z1.1 (Ta hX (by decide))) fun s d kb' kj kp kvs hx hd M=>?_)
 walk_at "e"
 exact h s _ _ _ _ _ _ _ (H.ext hx) M hd
end
theorem aJx {α:Type} [DecidableEq α] {xs ys:List α} {a b c d i j k:Nat} (h:Run xs ys a b c d i j k):Run ys xs c d a b j i k :=
 ⟨h.j0,h.j1,h.i0,h.i1,fun t ht=>let ⟨e,z⟩:=h.eq t ht;⟨e.symm,e▸z⟩⟩
theorem aCb {α:Type} [DecidableEq α] {xs ys:List α} {a b c d:Nat} {r r':Nat×Nat×Nat} (h:Best xs ys a b c d r) (h':Best ys xs c d a b r'):r.2.2≤r'.2.2:=by
 by_cases q:0 < r.2.2
 ·exact h'.most _ _ _ (aJx (h.some q))
 ·exact Ta (Nat.le_of_not_lt q) (Nat.zero_le _)
theorem aAp {X:List Int}:(flm ((aZ X).map aR) ((aY X).map aR) 0 (aZ X).length 0 (aY X).length).2.2=(uX ((aY X).map fun (n:Nat)=>(n:Int)) ((aZ X).map fun (n:Nat)=>(n:Int)) 0 (aY X).length 0 (aZ X).length).2.2:=by
 rw [← nF (mL fun x _ y _ e=>Int.ofNat.inj e),nF (mL fun x hx y hy e=>congrArg Fin.val (xZ ⟨x,cX_mem.1 x hx⟩ ⟨y,cX_mem.2 y hy⟩ e))]
 exact Nat.le_antisymm (aCb flm_best nE) (aCb nE flm_best)
theorem aYy {α:Type} [DecidableEq α] {xs ys:List α} (h:xs.length≤14):(cut xs ys 0 xs.length 0 ys.length++[(xs.length,ys.length,0)]).length≤15:=by
 rw [List.length_append]
 exact Nat.succ_le_succ (Ta jJ h)
theorem aJy (xs:List Int):(fK xs).length≤14:=by simp [fK];lia
section
variable {w:World} {mg mb:Str→Option Value} {U D:Nat} {loc:Loc} {σ:AH}
noncomputable abbrev lcT (ko kn kb kh kr kM kW kT:Nat):Loc:=[(S "script", .ref 1),(S "old", .ref ko),(S "new", .ref kn),(S "before", .ref kb),(S "behind", .ref kh),(S "rows", .ref kr),(S "matcher", .ref kM),(S "written", .ref kW),(S "turned", .ref kT)]
theorem aYz {X:List Int} {ko kn kb kh kr k1 k2 kM kW kT d kb' kj kp n0:Nat} {kvs:List (List Str×AV)} {as bs:List AV} {σ0:AH} {R:AF→Loc→AH→Prop} (H:RowsT σ0 ko kn kb kh X kr k1 k2 as bs σ) (M:SM tupEl σ kT d k2 k1 kb' kj kp n0 kvs ((aY X).map aR) .none .none) (hl:Sub (lcT ko kn kb kh kr kM kW kT) loc) (hX:X.length≤14)
 (h:∀ s l,RowsT σ0 ko kn kb kh X kr k1 k2 as bs s→R (.ret (.bool true)) l s) :
 Ex1 (c1 w mg mb (some (some [],[]))) (aG aU) (U+300) (D+100) (cH bd (aU++[9])) loc σ R:=by
 refine cN hl ?_
 haveI z1:=cF X
 haveI z2:=cG X
 haveI mk:=M.k
 haveI md:=M.d
 refine gD ?_
 walk_at "e"
 refine ClV.up (by lia) (by lia) (ClV.on (aSf (T:=tupEl) (U:=U) (D:=D) M H.b (lE H.tb) H.a (lE H.ta) (by rw [List.length_map];lia) (by rw [List.length_map];lia) fun s m hx hm g=>?_))
 haveI H1:=H.ext hx
 walk_at "e"
 refine kH (U:=U+297) (C:=aL) (by kernel_rfl) (by kernel_rfl) (by kernel_rfl) g (by show 3 < 1000;decide) fun s2 hx2 g2=>?_
 haveI H2:=H1.ext hx2
 haveI go:=H2.H.o
 haveI gn:=H2.H.n
 haveI l1:=z1.1
 haveI l2:=z2.1
 walk_at "e"
 refine aM (n:=2) g2 rfl (by decide) rfl ?_ (fun _ _=>by kernel_rfl)
 walk_at "e"
 simp only [List.length_map]
 refine ClV.up (by lia) (by lia) (ClV.on (nH (T:=intEqs) (U:=U) (D:=D) (xs:=(aY X).map fun (n:Nat)=>(n:Int)) (ys:=(aZ X).map fun (n:Nat)=>(n:Int)) (alo:=0) (blo:=0) (ahi:=(aY X).length) (bhi:=(aZ X).length) H2.H.o (mQ _) H2.H.n (mQ _) (by rw [List.length_map];lia) (by rw [List.length_map];lia) (Nat.zero_le _) (by rw [List.length_map];exact Te _) (Nat.zero_le _) (by rw [List.length_map];exact Te _) fun s3 m3 hx3 hm3 g3=>?_))
 walk_at "e"
 refine aM (n:=2) g3 rfl (by decide) rfl ?_ (fun _ _=>by kernel_rfl)
 walk_at "e"
 rw [aAp,beq_self_eq_true]
 exact h _ _ (H2.ext hx3)
end
section
variable {w:World} {mg mb:Str→Option Value} {U D:Nat} {σ:AH}
theorem lp0 (g0:σ.get 0=some (.plc aPl)) {o:AO}:LP (((((σ.new (.list [])).new (.list [])).new (.list [])).new (.list [])).new o) σ.nx (σ.nx+1) (σ.nx+1+1) (σ.nx+1+1+1) [] [] (((((σ.new (.list [])).new (.list [])).new (.list [])).new (.list [])).new o) :=
 ⟨Ext.refl _,aA (aA (aA (aA aB))),aA (aA (aA aB)),aA (aA aB),aA aB,aA (aA (aA (aA (aA g0)))),by simp,by simp;lia,by simp;lia,by simp,(by simp),by simp⟩
theorem aZa {B:List Stmt} (hB:lT (cH bd aU)=B) {xs:List Int} {o1:Obj} {vs1:List Value} {m1:Nat} {R:AF→Loc→AH→Prop} (g0:σ.get 0=some (.plc aPl)) (g1:σ.get 1=some (.raw o1)) (hc1:o1.cls=.type "list") (hd1:o1.data=.seq vs1.toArray m1) (hv1:∀ ρ n,VRs ρ n (xs.map .int) vs1) (hxs:xs.length≤63)
 (h:∀ s l,s.get 0=some (.plc aPl)→s.get 1=some (.raw o1)→R (.ret (.bool true)) l s) :
 ExS (c1 w mg mb (some (some [],[]))) (aG aU) (U+300) (D+100) B [(S "script", .ref 1)] σ R:=by
 subst hB
 haveI n1:=AH.get_lt g1
 haveI hX:=aJy xs
 haveI z1:=cF (fK xs)
 refine aH ?_
 walk_at "e"
 refine aSj (U:=U+270) (D:=D+90) (xs:=xs) (aA (aA (aA (aA (aA g1))))) hc1 hd1 hv1 (lp0 g0) (Sub.refl _) hxs fun l s H hs=>?_
 show ExS _ _ _ _ _ _ _ _
 refine bE hs (aH (aSk (U:=U+270) (D:=D+90) H (Sub.refl _) hX fun s kr k1 k2 as bs H=>?_))
 show ExS _ _ _ _ _ _ _ _
 refine aH (aSl (U:=U+206) (D:=D+90) H (Sub.refl _) hX fun s H=>?_)
 show ExS _ _ _ _ _ _ _ _
 refine aH (aEy (U:=U+206) (D:=D+90) H (Sub.refl _) hX fun s' kM d kb' kj kp n0 kvs H' M hd=>?_)
 show ExS _ _ _ _ _ _ _ _
 refine aH (aYx (U:=U) (D:=D) H' M (Ta H.H.x.nx hd) (Sub.refl _) hX (aYy (by rw [List.length_map];exact Ta z1.1 hX)) fun s H=>?_)
 show ExS _ _ _ _ _ _ _ _
 refine aH (aEz (U:=U+206) (D:=D+90) H (Sub.refl _) hX fun s' kW d kb' kj kp n0 kvs H' M hd=>?_)
 show ExS _ _ _ _ _ _ _ _
 refine aH (aSn (U:=U) (D:=D) H' M (Ta H.H.x.nx hd) (Sub.refl _) hX (aYy (Ta z1.2 hX)) fun s H=>?_)
 show ExS _ _ _ _ _ _ _ _
 refine aH (aJw (U:=U+206) (D:=D+90) H (Sub.refl _) hX fun s' kT d kb' kj kp n0 kvs H' M hd=>?_)
 show ExS _ _ _ _ _ _ _ _
 refine aH (aYz (U:=U) (D:=D) H' M (Sub.refl _) hX fun s l H=>?_)
 exact h s l H.H.p (H.H.x.keep (aA (aA (aA (aA (aA g1))))) (by simp;lia))
end
theorem aSo (P:Params):nsIn (K1 P) mainGlobals (S "law")=some (some (.ref 1022)):=by kernel_rfl
theorem aSp (P:Params):(K1 P).lookup 975=some (aLu):=by kernel_rfl
theorem aJz (P:Params):(K1 P).all (fun p=>!(p.2.cls==.type "list"))=true:=by kernel_rfl
theorem aZb {P:Params} {h:Heap} {la:Addr} {o:Obj} (X:(K1 P).In h) (e:h.get? la=some o) (d:o.cls=.type "list"):(K1 P).lookup la=none:=by
 cases q:(K1 P).lookup la with
 | none=>rfl
 | some o' =>
  haveI e':=X _ _ q
  rw [e] at e'
  cases e'
  have hm:∀ (l:List (Addr×Obj)),l.lookup la=some o→(la,o)∈l:=fun l=>by
   induction l with
   | nil=>intro h;cases h
   | cons p r ih =>
    intro h
    obtain ⟨k,v⟩:=p
    rw [List.lookup_cons] at h
    cases z:la==k with
    | true=>rw [z] at h;cases h;rw [beq_iff_eq.mp z];exact .head _
    | false=>rw [z] at h;exact .tail _ (ih h)
  haveI:=List.all_eq_true.mp (aJz P) _ (hm _ q)
  simp [d] at this
theorem aNh {K:Frag} {h:Heap} {bad:List Addr} (X:K.In h) (hb:∀ b∈bad,K.lookup b=none):K.In (hideAll h bad):=fun a o e=>hideAll_get _ (X a o e) fun q=>by
 haveI:=hb a q
 rw [show K.lookup a=some o from e] at this
 cases this
theorem vE {h:Heap} {a:Addr} {m:Str→Option Value} {bad:List Addr} (n:h.Ns a m) (hb:∀ b∈bad,∀ o es ep,h.get? b=some o→o.data≠.dict es ep):(hideAll h bad).Ns a m :=
 let ⟨o,es,ep,e,d,r⟩:=n
 ⟨o,es,ep,hideAll_get _ e fun q=>hb a q o es ep e d,d,r⟩
theorem aKa:∀ {vs:List Value} {xs:List Int},IntsAre vs xs→∀ (ρ:Nat→Addr) (n:Nat),VRs ρ n (xs.map .int) vs:=by
 intro vs xs h ρ n
 induction h with
 | nil=>exact .nil
 | cons n t _ ih=>exact .cons (.int _ _) ih
theorem aZc {w:World} {h:Heap} {la:Addr} {o1:Obj} {vs:List Value} {n:Nat} (hp:h.get? aPl=some { cls:=.none,data:=.fields #[] }) (hl:h.get? la=some o1) (hd:o1.data=.seq vs.toArray n):∀ b∈[aPl,la],∀ o es ep,h.get? b=some o→o.data≠.dict es ep:=by
 intro b hb o es ep e d
 rcases Tf hb with rfl | hb
 ·rw [hp] at e;cases e;cases d
 ·rw [Tg hb,hl] at e;cases e;rw [hd] at d;cases d
theorem aZd (w:World):∃ o,(nV w).get? sysModules=some o:=Option.isSome_iff_exists.mp (by kernel_rfl)
theorem aFa (w:World) (o:Obj) (e:(nV w).get? sysModules=some o) (h:o.cls=.type "list"):False:=by
 haveI:((nV w).get? sysModules).all (fun o=>!(o.cls==.type "list"))=true:=by kernel_rfl
 rw [e] at this
 simp [h] at this
theorem l02:0 < 2:=by decide
theorem l12:1 < 2:=by decide
theorem aKb:WalkO q1 bQ (XL q1 []) YP PySem.Challenge.rw_ij0145_02.row.toRowW aQt [] (fun f vs=>PySem.call f vs):=by
 intro w s₀ s₁ mg mb G Y a o pm cd doc dV kV ho hod hcd hdf hmg hgens args vals as hpre hlay hrd hwl hlo
 w_on
 wrow_args hpre hlay hrd hwl hlo
 rename_i xs _ _ _ _ _ _ _ la vs _ hL _ _ _ hI _ hxs _
 refine enter_call ?_
 haveI XK:=aXj Y
 haveI T0:=topRead_of G.T
 haveI ha:a=1022:=Value.ref.inj (Option.some.inj (hmg.symm.trans (mg_of XK T0.g (aSo w.params))))
 clear hod hcd hdf hmg ho
 subst ha
 refine hid ?_;intro ZZ zz
 obtain ⟨lo,hlo,hlc,m1,hld⟩:=hL
 haveI hPl:s₁.heap.get? aPl=some { cls:=.none,data:=.fields #[] }:=Y _ _ (aXk w)
 haveI hne:la≠aPl:=fun q=>by rw [q,hPl] at hlo;rw [← Option.some.inj hlo] at hld;exact nomatch hld
 haveI bad:=aZc (w:=w) hPl hlo hld
 have badK:∀ b∈[aPl,la],(K1 w.params).lookup b=none:=fun b hb=>by
  rcases Tf hb with rfl | hb
  ·exact aHl _
  ·rw [Tg hb];exact aZb XK hlo hlc
 obtain ⟨osm,hosm⟩:1:=aZd w
 refine zz ?_;clear zz
 haveI hsm0:=Y _ _ hosm
 haveI hsm1:sysModules∉[aPl,la]:=fun q=>by
  rcases Tf q with q | q
  ·cases q
  ·rw [Tg q,hlo] at hsm0
   rw [← Option.some.inj hsm0] at hosm
   exact aFa w lo hosm hlc
 haveI T:TopRead q1 (looseW q1 bQ) mg mb (hideAll s₁.heap [aPl,la]):=⟨vE T0.g bad,vE T0.b bad,(let ⟨mc,n,e⟩:=T0.nolimit;⟨mc,vE n bad,e⟩),T0.builtins,T0.free⟩
 haveI XK0:(K1 w.params).In (hideAll s₁.heap [aPl,la]):=aNh XK badK
 haveI hxs':xs.length≤63:=by lia
 haveI hvs:=aKa hI
 clear hxs
 refine codeAny_call_cells (A:=callerA) (body:=lT (cH bd aU)) (binds:=[(S "script", .ref la)]) (by decide) (XK _ _ (aQx w.params)) rfl T0.nolimit (codeRec_of XK (by kernel_rfl)) rfl (by kernel_rfl) rfl (fun x hx=>?_) (fun s' hs'=>?_) rfl rfl rfl
 ·rw [Tg hx]
  exact .inl (by kernel_rfl)
 generalize hB:lT (cH bd aU)=B
 refine hid ?_;intro ZZ zz
 obtain ⟨h₁,tk,rfl⟩:2:=hs'.toInCall.same
 refine zz ?_;clear zz
 have keep:∀ b o,s₁.heap.get? b=some o→h₁.get? b=some o:=hs'.toInCall.keep
 haveI lPl:=Heap.lt_size hPl
 haveI lla:=Heap.lt_size hlo
 haveI F:Fr (hideAll s₁.heap [aPl,la]) s₁.heap.objs.size h₁ (fun y=>if y=S "script" then some (.ref la) else none):=⟨hs'.toInCall.ns,fun b o e=>keep b o (of_hideAll _ e),Nat.le_of_eq (hideAll_size _ _)⟩
 haveI S0:St w.params (hideAll s₁.heap [aPl,la]) s₁.heap.objs.size (fun k=>if k=0 then aPl else la) ⟨2,[(0,.plc aPl),(1,.raw lo)]⟩ [(S "script", .ref 1)] [] { s₁ with heap:=h₁,toks:=tk }:=by
  refine ⟨_,[(aPl,{ cls:=.none,data:=.fields #[] }),(la,lo)],F,fun x a e=>?_,.cons ⟨l02,rfl,.plc aPl #[] trivial l02 rfl⟩ (.cons ⟨l12,rfl,.raw lo⟩ .nil),fun p hp=>?_,?_⟩
  ·by_cases q:x=S "script"
   ·subst q
    rw [cC] at e
    cases e
    exact ⟨_,if_pos rfl,.ref 1 l12⟩
   ·rw [cB q] at e
    cases e
  ·rw [List.append_nil] at hp
   rcases Tf hp with rfl | hp
   ·exact ⟨keep _ _ hPl,Nat.ne_of_lt lPl,hideAll_none _ (.head _)⟩
   rw [Tg hp]
   exact ⟨keep _ _ hlo,Nat.ne_of_lt lla,hideAll_none _ (.tail _ (.head _))⟩
  ·show [aPl,la].Nodup
   exact List.nodup_cons.mpr ⟨fun q=>hne (Tg q).symm,List.nodup_cons.mpr ⟨(fun q=>nomatch q),List.nodup_nil⟩⟩
 haveI fm:Fm (c1 w mg mb (some (some [],[]))) (aG aU) (callerA.deeper (cP (S "law" ++ ".<locals>.") (aG aU) s₁.heap.objs.size (some 1022) (.ref 1021) [] (some s₁.heap.objs.size))) (cP (S "law" ++ ".<locals>.") (aG aU) s₁.heap.objs.size (some 1022) (.ref 1021) [] (some s₁.heap.objs.size)) s₁.heap.objs.size (hideAll s₁.heap [aPl,la]) (0+300) (0+100) :=
  ⟨⟨_,_,_,_,_,rfl,fun l ce q=>by cases q;exact ⟨rfl,fun _=>rfl⟩⟩,fun l ce q=>by cases q;exact ⟨[],rfl,.nil⟩,XK0,T,rfl,(show callerA.units+3+(0+300) < cLine by decide),(show callerA.depth+1+(0+100) < recursionLimit by decide),rfl,⟨osm,hideAll_get _ hsm0 hsm1⟩,fun l q=>nomatch q⟩
 refine aZa hB (mg:=mg) (mb:=mb) (U:=0) (D:=0) (σ:=⟨2,[(0,.plc aPl),(1,.raw lo)]⟩) (R:=fun f _ s=>f=.ret (.bool true)∧s.get 0=some (.plc aPl)∧s.get 1=some (.raw lo)) rfl rfl hlc hld hvs hxs' (fun s l q0 q1=>⟨rfl,q0,q1⟩)
  _ _ _ _ fm _ [] _ _ _ S0 fun ρ' σ' loc' af fl s' ⟨haf,g0,g1⟩ fr n g S1 r=>?_
 subst haf
 cases fr with
 | ret _ v hv =>
 cases hv
 obtain ⟨m',news',F',_,_,_,_⟩:100:=S1.ex
 obtain ⟨oP,hoP,_,rP⟩:100:=S1.at g0
 obtain ⟨oL,hoL,_,rL⟩:100:=S1.at g1
 haveI e0:ρ' 0=aPl:=g 0 l02
 haveI e1:ρ' 1=la:=g 1 l12
 rw [e0] at hoP
 rw [e1] at hoL
 cases rL
 cases rP with
 | plc ps ht _ _ =>
 haveI ktab:isCodeTable s₁.heap aPl:=Heap.TableAt.isCodeTable (c:=975) (ps:=#[]) ⟨⟨_,_,XK _ _ (aSp w.params),rfl,rfl,rfl⟩,hPl⟩
 refine ⟨.inl ⟨_,_,[],rfl,fun _=>rfl,ReadsW.bool _,by wrow_post,fun _=>⟨List.nodup_nil,fun _ q=>nomatch q⟩⟩,⟨fun b o e=>?_,fun b o e=>?_⟩,r.os,r.gens.bare (by show AllBare s₁.gens;rw [hgens];exact AllBare.empty)⟩
 ·by_cases q0:b=aPl
  ·subst q0
   rw [hPl] at e
   cases e
   exact .inr (.inl ⟨ktab,rfl,#[],ps,rfl,by rw [hoP];simp⟩)
  by_cases q1:b=la
  ·subst q1
   rw [hlo] at e
   cases e
   exact .inl hoL
  ·exact .inl (F'.keep b o (hideAll_get _ e fun q=>by
    rcases Tf q with q | q
    ·exact q0 q
    ·exact q1 (Tg q)))
 ·by_cases q0:b=aPl
  ·exact ⟨_,q0▸hoP⟩
  by_cases q1:b=la
  ·exact ⟨_,q1▸hoL⟩
  ·exact ⟨o,F'.keep b o (hideAll_get _ e fun q=>by
    rcases Tf q with q | q
    ·exact q0 q
    ·exact q1 (Tg q))⟩
theorem law2:PySem.Challenge.rw_ij0145_02.Holds:=head aKb
end Mine
end
theorem PySem.Challenge.cw_ij0145_02_holds : PySem.Challenge.rw_ij0145_02.Holds :=
  Mine.law2
