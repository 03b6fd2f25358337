import PyProof.Rows.All
import Wide.All
import OpenK.AllK
import Wide.FinOn
import KE.KSuper
import KE.KSuperObj
import Lean
import PySem.Challenge.RW_ix0011_01
set_option autoImplicit false
set_option bootstrap.genMatcherCode false
set_option tactic.hygienic false
set_option compiler.extract_closed false
set_option Elab.async false
set_option linter.unusedVariables false
set_option genSizeOf false
set_option genInjectivity false
set_option maxRecDepth 1000000
set_option maxHeartbeats 0
section
open Lean in
def Mi.XI (a:Array Syntax)(st:List (Array Syntax))(w:String):List (Array Syntax):=match st with
 |t::r=>
  let d:=(w.drop 1).toString
  match w.front with
  | ')' =>match r with
   |u::r=>u.push (.node .none t[0]!.getId (t.extract 1 t.size))::r
   | []=>st
  | '(' => #[mkIdent (match d.front with | 'T' =>if d.startsWith "T." then "Lean.Parser.Tactic"++(d.drop 1).toString else d| 'E' =>"Lean.Parser.Term"++(d.drop 1).toString|_=>d).toName]::st
  | '\'' =>t.push (.atom .none d)::r
  | '$' =>t.push a[d.toNat!]! ::r
  |_=>t.push (mkIdent w.toName)::r
 | []=>st
open Lean in
def Mi.LB (a:Array Syntax)(s:String):Syntax:=
 (((((((((s.replace "<" "(E.paren (E.hygienicLParen '( (hygieneInfo [anonymous] ) )").replace "%" "(group '| {").replace "&" "(T.first 'first (null").replace "^" "(T.paren '( {").replace "~" "(T.assumption 'assumption )").replace "{" "(T.tacticSeq (T.tacticSeq1Indented (null").replace "}" ") ) )").splitOn " ").foldl (Mi.XI a) [#[]]).head!.back!
open Lean in
local macro_rules (kind:=Lean.Parser.Command.declaration)
 |s=>do
  if s.getPos?.isNone then Macro.throwUnsupported
  let s:=s.rewriteBottomUp λt=>t.setInfo .none
  let m:=s[0];let d:=s[1]
  if !m[4].isNone then return s
  if d.isOfKind `Lean.Parser.Command.definition && (match d[1][0].getId with | .str .anonymous n=>n.front.isLower|_=>false) then return s.setArg 1 (.node .none `Lean.Parser.Command.theorem #[.atom .none "theorem",d[1],.node .none `Lean.Parser.Command.declSig #[d[2][0],d[2][1][0]],d[3]])
  return if d.isOfKind `Lean.Parser.Command.definition||d.isOfKind `Lean.Parser.Command.abbrev then s.setArg 0 (m.setArg 4 (.node .none `null #[.node .none `Lean.Parser.Command.noncomputable #[.atom .none "noncomputable"]])) else s
open Lean in
local macro_rules (kind:=Lean.Parser.Tactic.show)
 |s=>return Mi.LB #[s[1]] "(T.refine 'refine (E.typeAscription (E.hygienicLParen '( (hygieneInfo [anonymous] ) ) (E.syntheticHole '? '_ ) ': (null $0 ) ') ) )"
open Lean in
local macro_rules (kind:=Lean.Parser.Tactic.omega)
 |s=>if s[1][0].getNumArgs !=0 then Macro.throwUnsupported else return Mi.LB #[] "(T.lia 'lia (T.optConfig (null (T.configItem (T.negConfigItem '- abstractProof ) ) ) ) )"
namespace Mi
@[elab_as_elim] theorem XM {α:Sort _}{a b:α}{p:α->Prop}(e:a=b)(h:p b):p a:=e▸h
@[elab_as_elim] theorem XN {α:Sort _}{a b:α}{p:α->Prop}(e:b=a)(h:p b):p a:=e▸h
def gI {p:Prop}(h:false=true):p:=nomatch h
def zq {α:Type}{a:α}{p:Prop}(h:none=some a):p:=nomatch h
def zp {α:Type}{a:α}{p:Prop}(h:some a=none):p:=nomatch h
end Mi
open Lean in
local macro_rules (kind:=Lean.Parser.Tactic.cases)
 |s=>do
  let t:=s[1][0]
  if s[1].getNumArgs !=1|| !s[2].isNone then Macro.throwUnsupported
  if s[3].isNone then
   if t[0].isNone then return Mi.LB #[t[1]] "^ (T.tacticHave__ 'have (E.letConfig (null ) ) (E.letDecl (E.letIdDecl (E.letId zz9 ) (null ) (null ) ':= $0 ) ) ) '; & % (T.subst 'subst (null zz9 ) ) } ) % (T.contradiction 'contradiction ) } ) % ^ (T.tacticHave__ 'have (E.letConfig (null ) ) (E.letDecl (E.letIdDecl (E.letId zz9 ) (null ) (null ) ':= (E.app Option.some.inj (null zz9 ) ) ) ) ) '; (T.subst 'subst (null zz9 ) ) } ') ) } ) % ^ (T.injection 'injection zz9 (null 'with (null zz9 ) ) ) '; (T.subst 'subst (null zz9 ) ) } ') ) } ) ) ) } ') )" else Macro.throwUnsupported
  else if !t[0].isNone then return Mi.LB #[t[0][0][0],t[1],s[3]] "^ (T.generalize 'generalize (null (T.generalizeArg (null $0 ': ) $1 '= ww9 ) ) (null ) ) '; (T.cases 'cases (null (T.elimTarget (null ) ww9 ) ) (null ) $2 ) } ') )"
  else if t[1].isIdent then return .node .none `Lean.Parser.Tactic.first #[.atom .none "first",.node .none `null (#[`Option,`List,`Bool,`Nat,`Mi.V,`Mi.O,`PySem.Value,`PySem.Expr,`PySem.Stmt,`PySem.Data].map λn=>Mi.LB #[s[1],mkIdent (n++ `casesOn),s[3]] "% (T.induction 'induction $0 (null 'using $1 ) (null ) $2 ) } )")]
  else Macro.throwUnsupported
open Lean in
local macro_rules (kind:=Lean.Parser.Tactic.rwSeq)
 |s=>do
  if !s[3].isNone||s[1][0].getNumArgs !=0 then Macro.throwUnsupported
  let ts:=(s[2][1].getSepArgs.map λr=>
   let w:=Mi.LB #[r] "(T.rewriteSeq 'rewrite (T.optConfig (null ) ) (T.rwRuleSeq '[ (null $0 ) '] ) (null ) )"
   if(r.find? λx=>x.isOfKind `Lean.Parser.Term.syntheticHole).isSome then w else Mi.LB #[mkIdent (if r[0].isNone then `Mi.XM else `Mi.XN),r[1],w] "& % (T.refine 'refine (E.app $0 (null < (E.app $1 (null (E.ellipsis '.. ) ) ) ') ) (E.syntheticHole '? '_ ) ) ) ) } ) % $2 } ) ) )").push (Mi.LB #[] "(T.tacticTry_ 'try { ^ (T.withReducible 'with_reducible { (T.tacticRfl 'rfl ) } ) } ') ) } )")
  return Mi.LB #[.node .none `null (ts.foldl (λb t=>if b.isEmpty then #[t] else b++ #[.atom .none ";",t]) #[])] "(T.paren '( (T.tacticSeq (T.tacticSeq1Indented $0 ) ) ') )"
open Lean in
local macro_rules (kind:=Lean.Parser.Term.nomatch)
 |s=>if s[1].getNumArgs==1 then return Mi.LB #[s[1][0]] "< (E.byTactic 'by { & % (T.exact 'exact (E.app Mi.gI (null $0 ) ) ) } ) % (T.exact 'exact (E.app Mi.zq (null $0 ) ) ) } ) % (T.exact 'exact (E.app Mi.zp (null $0 ) ) ) } ) % ^ (T.refine 'refine (E.app False.elim (null (E.syntheticHole '? '_ ) ) ) ) '; (T.tacticHave__ 'have (E.letConfig (null ) ) (E.letDecl (E.letIdDecl (E.letId zz9 ) (null ) (null ) ':= $0 ) ) ) '; (T.contradiction 'contradiction ) } ') ) } ) ) ) } ) ') )" else Macro.throwUnsupported
namespace Mi
open PySem PySem.W PySem.Calls PyProof.Rows
abbrev EI:OpenLaw:=PySem.Challenge.rw_ix0011_01
def wV:Fast.tw9446332074065402090 EI=true:=by kernel_rfl
def wy:EI.wellSaid=true:=(congrFun Fast.te9446332074065402090 _).trans wV
abbrev TJ:Nat:=1392731964225
abbrev TK:Nat:=1547856474181
abbrev NG:Nat:=0x1454b414853444e4148
abbrev Pd:Nat:=93521475470446153
abbrev Ov:Nat:=0x159544952414c554e4152475f4b
abbrev MZ:Nat:=0x1574f444e49575f4c414954494e495f4b
abbrev NV:Nat:=0x1444e4f4345535f4f5243494d5f4b
abbrev M3:Nat:=0x1574f444e49575f4d554d494e494d5f4b
abbrev LQ:Nat:=0x1444c4f4853455248545f54454b4341505f4b
abbrev Hz:Nat:=0x1444c4f4853455248545f4e4f49545345474e4f435f544e45545349535245505f4b
abbrev Rt:Nat:=0x1444e4f4345535f4b
abbrev M4:Nat:=0x1444c4f4853455248545f454d49545f4b
abbrev UZ:Nat:=5709713228
abbrev NW:Nat:=0x15345474e41525f4b43415f58414d
abbrev Pe:Nat:=95794204844052047
abbrev KB:Nat:=0x16c6f72746e6f436e6f69747365676e6f4363697551
abbrev Mq:Nat:=0x1657461745379726576696c654463697551
abbrev Ku:Nat:=0x1776f646e69577265626d754e74656b63615063697551
abbrev Nq:Nat:=0x1726563615074656b63615063697551
abbrev LR:Nat:=0x1797265766f63655274656b63615063697551
abbrev Nr:Nat:=0x1656361705374656b63615063697551
abbrev NX:Nat:=0x16570795474656b63615063697551
abbrev NY:Nat:=0x1726f74696e6f4d74745263697551
abbrev NZ:Nat:=0x174656b636150746e655363697551
abbrev TM:Nat:=1483144971602
abbrev TN:Nat:=1535038611794
abbrev Ru:Nat:=0x174655365676e6152
abbrev KC:Nat:=0x16c6f72746e6f436e6f69747365676e6f436f6e6552
abbrev LC:Nat:=0x14e4f49544149544f47454e5f4e4f4953524556
abbrev Ow:Nat:=0x15454525f4f52455a
abbrev FT:Nat:=0x15f5f74696e695f5f
abbrev Dj:Nat:=23290719
abbrev AY:Nat:=0x1656d69745f74726174735f797265766f6365725f6e6f69747365676e6f635f
abbrev BV:Nat:=0x168736174735f6e6f69747365676e6f635f
abbrev EA:Nat:=0x1726576696c65645f
abbrev GU:Nat:=0x173736f6c5f7463657465645f
abbrev B8:Nat:=0x16e696d5f64657265746c69665f
abbrev Hh:Nat:=0x165636170735f73736f6c5f7465675f
abbrev Dx:Nat:=0x16e6f69747365676e6f635f746e65747369737265705f6e695f
abbrev Da:Nat:=0x1736573616572636e695f
abbrev GE:Nat:=0x1656d69745f7473616c5f
abbrev Pl:Nat:=0x164656b63615f77616c5f
abbrev Qo:Nat:=0x177656e615f77616c5f
abbrev Oz:Nat:=0x1646574696177615f77616c5f
abbrev OU:Nat:=0x17463657465645f77616c5f
abbrev QD:Nat:=0x1646e655f77616c5f
abbrev OA:Nat:=0x1736573736575675f77616c5f
abbrev OV:Nat:=0x173646e6174735f77616c5f
abbrev Pm:Nat:=0x173706574735f77616c5f
abbrev Pn:Nat:=0x172656d69745f77616c5f
abbrev Pg:Nat:=407255097764959
abbrev AV:Nat:=0x1657a69735f6d617267617461645f78616d5f
abbrev Df:Nat:=0x174736f6c5f7374656b6361705f6e6f5f
abbrev Gi:Nat:=407254761304159
abbrev Dq:Nat:=0x1746e756f635f6f74705f
abbrev CB:Nat:=0x17365676e61725f
abbrev FS:Nat:=414947014439519
abbrev M5:Nat:=0x164657669656365725f
abbrev BC:Nat:=0x1656d69745f656c706d61735f74737269665f7474725f
abbrev EN:Nat:=0x16c616974696e695f7474725f
abbrev Bs:Nat:=0x164657a696c616974696e695f7474725f
abbrev A0:Nat:=0x174736574616c5f7474725f
abbrev BW:Nat:=0x16e696d5f7474725f
abbrev D6:Nat:=0x1726f74696e6f6d5f7474725f
abbrev Be:Nat:=0x1646568746f6f6d735f7474725f
abbrev BG:Nat:=0x165636e61697261765f7474725f
abbrev Dy:Nat:=0x17864695f656c706d61735f
abbrev Cg:Nat:=0x178616d5f656c706d61735f
abbrev Ch:Nat:=0x16e696d5f656c706d61735f
abbrev D7:Nat:=0x1656d69745f656c706d61735f
abbrev Dr:Nat:=0x173656c706d61735f
abbrev Fa:Nat:=0x165626f72705f646e65735f
abbrev Fj:Nat:=1535357055839
abbrev A1:Nat:=0x174656b6361705f676e69746963696c655f6b63615f746e65735f7473616c5f666f5f656d69745f
abbrev Jp:Nat:=409436538233697
abbrev Bn:Nat:=0x179616c65645f6b6361
abbrev Ax:Nat:=0x1746867696c665f6e695f676e69746963696c655f6b6361
abbrev Jw:Nat:=0x165756575715f6b6361
abbrev Db:Nat:=0x174657365676e61725f6b6361
abbrev A7:Nat:=1530709893985
abbrev Ni:Nat:=23356513
abbrev Pf:Nat:=0x17474725f646461
abbrev Ef:Nat:=0x1646574696d696c5f6e6f697461636966696c706d61
abbrev FM:Nat:=6231126625
abbrev Cl:Nat:=395198889423713
abbrev Dl:Nat:=6231389025
abbrev HQ:Nat:=95329
abbrev AP:Nat:=0x164657469617761
abbrev Pk:Nat:=0x17466656c5f746365736962
abbrev Qn:Nat:=408350163824482
abbrev D1:Nat:=0x178616d5f74656b637562
abbrev D9:Nat:=0x1656d69745f74656b637562
abbrev Cq:Nat:=0x1746867696c665f6e695f7365747962
abbrev BU:Nat:=0x164656d7269666e6f63
abbrev Cy:Nat:=0x1746e6576655f6e6f69747365676e6f63
abbrev Ay:Nat:=0x1776f646e69775f6e6f69747365676e6f63
abbrev Nj:Nat:=1599581024099
abbrev Fh:Nat:=404020870607459
abbrev BX:Nat:=0x164656c7564656863735f6f7470797263
abbrev BP:Nat:=1620837164388
abbrev IC:Nat:=0x1726576696c6564
abbrev BN:Nat:=0x17372656c646e61685f79726576696c6564
abbrev Kd:Nat:=1518076716388
abbrev IX:Nat:=0x165636170735f64726163736964
abbrev Jx:Nat:=0x1646564726163736964
abbrev Jy:Nat:=23426404
abbrev HA:Nat:=0x16e6f697461727564
abbrev Ke:Nat:=1547856474213
abbrev D8:Nat:=0x1656d69745f6e6f697461756c617665
abbrev D2:Nat:=0x17265626d756e5f74656b6361705f6465746365707865
abbrev Dd:Nat:=409466737093734
abbrev Ej:Nat:=6131183462
abbrev ID:Nat:=1548124254822
abbrev GQ:Nat:=0x1656d69745f6e6f697463657465645f73736f6c5f746567
abbrev B7:Nat:=0x174756f656d69745f65626f72705f746567
abbrev CS:Nat:=1595368895847
abbrev DG:Nat:=0x172656c646e6168
abbrev CU:Nat:=0x17372656c646e6168
abbrev A5:Nat:=0x164656d7269666e6f635f656b616873646e6168
abbrev D3:Nat:=5979071848
abbrev IY:Nat:=6046574952
abbrev Ox:Nat:=361
abbrev CE:Nat:=0x1746867696c665f6e69
abbrev Bm:Nat:=0x179616c65645f6b63615f78616d5f6564756c636e69
abbrev FC:Nat:=0x17474725f6c616974696e69
abbrev SF:Nat:=409509653868137
abbrev AB:Nat:=0x1676e69746963696c655f6b63615f7369
abbrev AO:Nat:=0x1617461645f6e6f69746163696c7070615f7369
abbrev Cz:Nat:=0x174656b6361705f6f74707972635f7369
abbrev Jf:Nat:=0x1676e6973616572636e695f7474725f7369
abbrev Oy:Nat:=363
abbrev Ik:Nat:=6248490347
abbrev DU:Nat:=5979924843
abbrev Di:Nat:=0x164656b63615f7473656772616c
abbrev BE:Nat:=0x174656b6361705f64656b63615f7473656772616c
abbrev BB:Nat:=0x164656b63615f796c77656e5f7473656772616c
abbrev DX:Nat:=0x174656b6361705f64657669656365725f7473656772616c
abbrev Eg:Nat:=0x1656d69745f64657669656365725f7473656772616c
abbrev Br:Nat:=0x1656d69745f746e65735f7473656772616c
abbrev FN:Nat:=6248685932
abbrev GI:Nat:=1590840025452
abbrev A6:Nat:=409513948897644
abbrev BF:Nat:=0x17474725f74736574616c
abbrev VW:Nat:=24600940
abbrev DV:Nat:=1599663596908
abbrev D4:Nat:=6247834988
abbrev He:Nat:=0x1646574696d696c
abbrev CA:Nat:=6231912300
abbrev Hf:Nat:=0x179616c65645f73736f6c
abbrev CZ:Nat:=0x165636170735f73736f6c
abbrev Cr:Nat:=0x1656d69745f73736f6c
abbrev CG:Nat:=408354542546796
abbrev C8:Nat:=6248689516
abbrev Fq:Nat:=0x1656d69745f7473656772616c5f74736f6c
abbrev Cf:Nat:=0x17374656b6361705f74736f6c
abbrev BH:Nat:=0x163635f7374656b6361705f74736f6c
abbrev GS:Nat:=24604524
abbrev D5:Nat:=0x179616c65645f6b63615f78616d
abbrev AW:Nat:=0x1657a69735f6d617267617461645f78616d
abbrev Hg:Nat:=392991191886189
abbrev Bq:Nat:=5996965741
abbrev Av:Nat:=24604526
abbrev AU:Nat:=407254745314670
abbrev Bk:Nat:=0x1737265626d756e
abbrev A3:Nat:=409513947851887
abbrev F7:Nat:=0x164657669656365725f6b63615f6e6f
abbrev EE:Nat:=0x174756f656d69745f6e6f697463657465645f73736f6c5f6e6f
abbrev EU:Nat:=0x164656b63615f74656b6361705f6e6f
abbrev Dm:Nat:=0x1746e65735f74656b6361705f6e6f
abbrev Gp:Nat:=0x1646572697078655f7374656b6361705f6e6f
abbrev J3:Nat:=0x174736f6c5f7374656b6361705f6e6f
abbrev GB:Nat:=0x16e6f69747365676e6f635f746e65747369737265705f6e6f
abbrev Gq:Nat:=0x1746e656d6572757361656d5f7474725f6e6f
abbrev IZ:Nat:=23424623
abbrev IE:Nat:=1590839243887
abbrev LS:Nat:=24409455
abbrev Am:Nat:=409453918904688
abbrev Dn:Nat:=0x1656d69745f73736f6c5f74656b636170
abbrev AH:Nat:=0x17265626d756e5f74656b636170
abbrev CH:Nat:=0x1737265626d756e5f74656b636170
abbrev FO:Nat:=0x1646c6f6873657268745f74656b636170
abbrev ER:Nat:=0x1656d69745f74656b636170
abbrev FE:Nat:=0x1657079745f74656b636170
abbrev Bd:Nat:=0x17374656b636170
abbrev AG:Nat:=0x16e6f69746164696c61765f737365726464615f646574656c706d6f635f72656570
abbrev B9:Nat:=0x16e6f69747365676e6f635f746e6574736973726570
abbrev DB:Nat:=6096644464
abbrev Cm:Nat:=0x17265626d756e5f74656b6361705f73756f6976657270
abbrev LD:Nat:=1534954795632
abbrev Bu:Nat:=408354257072752
abbrev Rv:Nat:=24081520
abbrev Jg:Nat:=370
abbrev De:Nat:=408354340888946
abbrev FP:Nat:=0x17374656b6361705f6465766965636572
abbrev AC:Nat:=0x1797265766f636572
abbrev F8:Nat:=0x1617461645f656c7564656863736572
abbrev AQ:Nat:=24604530
abbrev CR:Nat:=6232174450
abbrev F9:Nat:=24409202
abbrev Cu:Nat:=392991393800563
abbrev Fi:Nat:=409501130974067
abbrev Ac:Nat:=6013347187
abbrev Gf:Nat:=0x165626f72705f646e6573
abbrev EV:Nat:=6248359283
abbrev C9:Nat:=0x173657479625f746e6573
abbrev Bi:Nat:=0x17374656b6361705f746e6573
abbrev Bg:Nat:=0x1656d69745f746e6573
abbrev FQ:Nat:=5997488499
abbrev BJ:Nat:=396324271779187
abbrev Ep:Nat:=0x17474725f646568746f6f6d73
abbrev Ae:Nat:=1534970654835
abbrev Cn:Nat:=408354272931955
abbrev OT:Nat:=1530709504115
abbrev CV:Nat:=0x1656b616873646e61685f70755f6465657073
abbrev FR:Nat:=0x16873657268747373
abbrev BQ:Nat:=1599646823539
abbrev Do:Nat:=0x1656d69745f7472617473
abbrev Er:Nat:=1535255868531
abbrev BO:Nat:=6181319795
abbrev BY:Nat:=402934226643060
abbrev GD:Nat:=5996636532
abbrev Gr:Nat:=0x1646c6f6873657268745f656d6974
abbrev KX:Nat:=0x174756f656d6974
abbrev DN:Nat:=5979795316
abbrev Ga:Nat:=24145780
abbrev Dw:Nat:=1595134276212
abbrev JH:Nat:=6180926068
abbrev GF:Nat:=0x1657461725f657461647075
abbrev EO:Nat:=1530777067894
abbrev GJ:Nat:=1535222573175
abbrev Ai:Nat:=1530827796343
inductive V where
 |none
 |bool (b:Bool)
 |int (i:Int)
 |str (n:Nat)
 |tup (vs:List V)
 |DM (xs:List Int)
 |ref (a:Nat)
 |lam (k l:Nat)
 |R9
inductive O where
 |lst (xs:List V)
 |dct (f:Nat->Option V)
 |BM (ep:Nat) (l:List (Int×V))
 |ins (C d:Nat) (f:Nat->Option V)
 |own (a:Nat)
 |Gz (c y d ep n:Nat)
abbrev H:=Nat->Option O
abbrev AZ:=Nat->Option V
abbrev M (α:Type):=(α->H->Prop)->H->Prop
abbrev Cc:=Nat->List V->List (Nat×V)->M V
def Ad {α:Type}(f:Nat->α)(a:Nat)(b:α):Nat->α:=λx=>cond (Nat.beq x a) b (f x)
def aa {α:Type}(f:Nat->α)(a:Nat)(b:α):Ad f a b a=b:=by unfold Ad;rw[Nat.beq_refl];rfl
def ab {α:Type}(f:Nat->α){a x:Nat}(b:α)(h:x≠a):Ad f a b x=f x:=by
 unfold Ad;rw[show Nat.beq x a=false from Bool.eq_false_iff.mpr λe=>h (Nat.eq_of_beq_eq_true e)];rfl
noncomputable def look {α:Type}(k:Nat)(l:List (Nat×α)):Option α:= @List.rec (Nat×α) (λU=>Option α) Option.none (λp U ih=> @Prod.rec Nat α (λU=>Option α) (λj v=>cond (Nat.beq k j) (some v) ih) p) l
def aW {α:Type}{k:Nat}{v:α}:∀ {l:List (Nat×α)},look k l=some v->(k,v)∈l
 | [],h=>nomatch h
 |(j,w)::l,h=>by
  have h:cond (Nat.beq k j) (some w) (look k l)=some v:=h
  cases e:Nat.beq k j with
  |true=>rw[e] at h;cases h;cases Nat.eq_of_beq_eq_true e;exact .head _
  |false=>rw[e] at h;exact .tail _ (aW h)
def AM (k:Nat)(l:List Nat):Bool:= @List.rec Nat (λU=>Bool) false (λp U ih=>cond (Nat.beq k p) true ih) l
def aO {k:Nat}:∀ {l:List Nat},AM k l=true ↔ k∈l
 | []=>⟨λh=>(nomatch h),λh=>(nomatch h)⟩
 |p::l=>by
  show cond (Nat.beq k p) true (AM k l)=true ↔ _
  cases e:Nat.beq k p with
  |true=>cases Nat.eq_of_beq_eq_true e;exact⟨λU=> .head _,λU=>rfl⟩
  |false=>exact aO.trans ⟨λh=> .tail _ h,λh=>(List.mem_cons.mp h).resolve_left (Nat.ne_of_beq_eq_false e)⟩
def AJ {α:Type}(o:Option α)(k:α->Prop):Prop:= @Option.rec α (λU=>Prop) False k o
inductive XA {α:Type}(o:Option α)(k:α->Prop):Prop
 |mk (a:α) (e:o=some a) (h:k a)
def bh {α:Type}{o:Option α}{k:α->Prop}(h:AJ o k):XA o k:=by
 cases o with
 |none=>exact h.elim
 |some a=>exact⟨a,rfl,h⟩
def ao {α:Type}{o:Option α}{k:α->Prop}{C:Prop}(q:AJ o k)(f:∀ a,o=some a->k a->C):C:=match bh q with |⟨a,e,q⟩=>f a e q
def ae {α:Type}{o:Option α}{k:α->Prop}{a:α}(e:o=some a)(h:k a):AJ o k:=e▸h
def V.int? (v:V):Option Int:=V.casesOn v Option.none (λU=>Option.none) (λi=>some i) (λU=>Option.none) (λU=>Option.none) (λU=>Option.none) (λU=>Option.none) (λU U=>Option.none) Option.none
def V.SL (v:V):Option Nat:=V.casesOn v Option.none (λU=>Option.none) (λU=>Option.none) (λi=>some i) (λU=>Option.none) (λU=>Option.none) (λU=>Option.none) (λU U=>Option.none) Option.none
def V.ref? (v:V):Option Nat:=V.casesOn v Option.none (λU=>Option.none) (λU=>Option.none) (λU=>Option.none) (λU=>Option.none) (λU=>Option.none) (λi=>some i) (λU U=>Option.none) Option.none
def V.ST (v:V):Option (List V):=V.casesOn v Option.none (λU=>Option.none) (λU=>Option.none) (λU=>Option.none) (λi=>some i) (λU=>Option.none) (λU=>Option.none) (λU U=>Option.none) Option.none
def V.isNone (v:V):Bool:=V.casesOn v true (λU=>false) (λU=>false) (λU=>false) (λU=>false) (λU=>false) (λU=>false) (λU U=>false) false
def O.UV (o:O):Option (List V):=match o with | .lst i=>some i|_=>Option.none
def O.Xb (o:O):Option (Nat->Option V):=match o with | .dct i=>some i|_=>Option.none
def O.Sz (o:O):Option (Nat×List (Int×V)):=match o with | .BM i j=>some (i,j)|_=>Option.none
structure My where
 C:Nat
 d:Nat
 f:Nat->Option V
def O.UM (o:O):Option My:=match o with | .ins i j k=>some ⟨i,j,k⟩|_=>Option.none
def AT {α β:Type}(o:Option α)(k:α->Option β):Option β:= @Option.rec α (λU=>Option β) Option.none k o
def aG {α β:Type}{o:Option α}{k:α->Option β}{b:β}(h:AT o k=some b):∃ a,o=some a/\k a=some b:=by
 cases o with
 |none=>cases h
 |some a=>exact⟨a,rfl,h⟩
def aI {α β:Type}{o:Option α}{f:α->Option β}{b:β}{C:Prop}(h:AT o f=some b)(k:∀ a,o=some a->f a=some b->C):C:=(aG h).elim λa z=>k a z.1 z.2
abbrev FB:Nat:=0
abbrev Gx:Nat:=1
abbrev GK:Nat:=2
abbrev E8:Nat:=3
abbrev B6:Nat:=4
abbrev E9:Nat:=5
abbrev Gd:Nat:=6
abbrev Gw:Nat:=7
abbrev Gy:Nat:=8
abbrev Ge:Nat:=9
abbrev Rl:Nat:=10
abbrev Ko:Nat:=11
abbrev MP:Nat:=12
abbrev Ml:Nat:=13
abbrev HJ:Nat:=14
abbrev NC:Nat:=15
abbrev IS:Nat:=16
abbrev Jb:Nat:=17
abbrev HH:Nat:=18
abbrev IT:Nat:=19
abbrev F0:Nat:=20
abbrev HI:Nat:=21
abbrev MR:Nat:=22
abbrev NF:Nat:=23
abbrev NE:Nat:=24
abbrev Qg:Nat:=25
abbrev ND:Nat:=26
abbrev MU:Nat:=27
abbrev MT:Nat:=28
abbrev MQ:Nat:=29
abbrev J0:Nat:=30
abbrev MS:Nat:=31
abbrev IA:Nat:=32
abbrev KA:Nat:=33
abbrev Jc:Nat:=34
abbrev F1:Nat:=35
abbrev FA:Nat:=36
abbrev IB:Nat:=37
abbrev Fw:Nat:=38
abbrev IU:Nat:=39
abbrev Lz:Nat:=40
abbrev Jd:Nat:=41
abbrev Ih:Nat:=42
abbrev Fe:Nat:=43
abbrev HK:Nat:=44
abbrev Gn:Nat:=1
abbrev Eo:Nat:=2
abbrev FL:Nat:=3
abbrev JQ:Nat:=4
abbrev IW:Nat:=5
abbrev Oq:Nat:=6
abbrev CO:Nat:=7
abbrev Ka:Nat:=8
abbrev DE:Nat:=9
def Qr:List (Nat×List Nat):= [(0,[]),(1,[Da,GE,FS,Fj,B8,Dy,Cg,Ch,D7,Dr]),(2,[Cq,Ay,FR,AV,AY,BV,D6]),(3,[Ke,CE,AB,Cz,AH,FE,Bg,C9,BN]),(4,[BQ,BO]),(5,[CB]),(6,[Pg,M5,Fj]),(7,[Jp,Jw,Jx,D2,AO,DX,Eg,FP,Ax,BE,Cr,Bi]),(8,[AV,D1,D9,D8,ER]),(9,[A5,D5,AG,Cn,Fa,EA,Dq,BC,EN,Bs,A0,BW,Be,BG,A1,Dj,Gi])]
def VL:List (Nat×List (Nat×V)):= [(2,[(Cq,.int 0),(Ay,.int 0),(FR,.none)])]
def Tz:List (Nat×List (Nat×Nat)):= [(0,[(FT,Ko)]),(1,[(FT,MP),(Pf,Ml),(Jf,HJ)]),(2,[(FT,NC),(EU,IS),(Dm,Jb),(Gp,HH),(J3,IT),(GB,F0),(Gq,HI)]),(3,[(FT,MR)]),(4,[(FT,NF)]),(5,[(FT,NE),(Ni,Qg),(Qn,ND)]),(6,[(FT,MU)]),(7,[(FT,MT)]),(8,[(FT,MQ),(GF,J0)]),(9,[(FT,MS),(IX,Jc),(GQ,F1),(B7,FA),(F7,IB),(EE,Fw),(Dm,IU),(F8,Lz),(GU,Jd),(Hh,Ih),(Dx,Fe),(Df,HK)])]
def Ry:List (Nat×List (Nat×Nat)):= [(9,[(Cq,IA),(Ay,KA)])]
def PA:List (Nat×Nat):= [(0,Ko),(1,MP),(2,NC),(3,MR),(4,NF),(5,NE),(6,MU),(7,MT),(8,MQ),(9,MS)]
def Py:List (Nat×Int):= [(Ov,1000),(MZ,10),(M3,2),(LQ,3),(M4,9),(NV,1),(Hz,3),(Rt,1000000),(NW,64)]
def Qh:List (Nat×Nat):= [(Pk,FB),(Pm,Gx),(OA,GK),(QD,E8),(Oz,B6),(OU,E9),(Qo,Gd),(Pl,Gw),(Pn,Gy),(OV,Ge),(VW,Rl)]
def Om:List (Nat×Nat):= [(KB,0),(NY,1),(KC,2),(NZ,3),(TN,4),(Ru,5),(Ku,6),(Nr,7),(Nq,8),(LR,9)]
def Re:List (Nat×List (Nat×Int)):= [(TK,[(Pd,0),(Ow,1),(NG,2),(Pe,3)]),(Mq,[(TJ,0),(UZ,1)]),(NX,[(Pd,0),(Ow,1),(NG,2),(TM,3),(LC,4),(Pe,5)])]
noncomputable def own (C:Nat):List Nat:= @Option.rec _ (λU=>List Nat) [] (λl=>l) (look C Qr)
def KT {α:Type}(t:List (Nat×List (Nat×α)))(C n:Nat):Option α:=AT (look C t) (look n)
def JO (C n:Nat):Option V:=KT VL C n
def La (C n:Nat):Option Nat:=KT Tz C n
noncomputable def prop (C n:Nat):Option Nat:=KT Ry C n
def eU {α:Type}{t:List (Nat×List (Nat×α))}{C n:Nat}{v:α}(h:KT t C n=some v):∃ l,(C,l)∈t/\(n,v)∈l:=
 let⟨l,a,b⟩:=aG h;⟨l,aW a,aW b⟩
def Ol (l:List Nat):Nat:= @List.rec Nat (λU=>Nat) 1 (λc U n=>Nat.add (Nat.mul n 256) c) l
def AI (s:Str):Nat:=Ol s.cps.toList
def LP (l:List Nat):Bool:= @List.rec Nat (λU=>Bool) true (λc U b=>cond (Nat.blt c 256) b false) l
noncomputable def good (s:Str):Bool:=cond (LP s.cps.toList) (!AM (AI s) [0x15f5f67756265645f5f,0x15f5f746369647373616c635f5f,0x15f5f656d616e5f5f,0x15f5f7373616c635f5f,77870]) false
def g8:∀ l:List Nat,0 < Ol l
 | []=>Nat.one_pos
 |c::l=>by
  show 0 < Ol l*256+c
  have :=g8 l;omega
def iD {c:Nat}{l:List Nat}(h:LP (c::l)=true):c < 256/\LP l=true:=by
 have h:cond (Nat.blt c 256) (LP l) false=true:=h
 cases e:Nat.blt c 256 with
 |true=>rw[e] at h;exact⟨Nat.le_of_ble_eq_true e,h⟩
 |false=>rw[e] at h;cases h
def kt:∀ {a b:List Nat},LP a=true->LP b=true->Ol a=Ol b->a=b
 | [],[],_,_,_=>rfl
 | [],c::l,_,_,h=>by have h:1=Ol l*256+c:=h;have :=g8 l;omega
 |c::l,[],_,_,h=>by have h:Ol l*256+c=1:=h;have :=g8 l;omega
 |c::l,d::m,ha,hb,h=>by
  have h:Ol l*256+c=Ol m*256+d:=h
  have x:=iD ha
  have y:=iD hb
  rw[show c=d by omega,kt x.2 y.2 (by omega)]
def jo {s:Str}(h:good s=true):LP s.cps.toList=true:=by
 unfold good at h
 cases e:LP s.cps.toList with
 |true=>rfl
 |false=>rw[e] at h;cases h
def bJ {a b:Str}(ha:good a=true)(hb:good b=true)(h:AI a=AI b):a=b:=by
 cases a;cases b
 exact congrArg Str.mk (Array.toList_inj.mp (kt (jo ha) (jo hb) h))
def gq {s t:Str}(h:good s=true)(m:AM (AI t) [0x15f5f67756265645f5f,0x15f5f746369647373616c635f5f,0x15f5f656d616e5f5f,0x15f5f7373616c635f5f,77870]=true):s≠t:=λe=>by
 subst e
 unfold good at h
 rw[m] at h
 revert h
 cases LP s.cps.toList <;> exact λh=>Bool.noConfusion h
def aZ {s:Str}(h:good s=true):(s==("__debug__":Str))=false:=beq_eq_false_iff_ne.mpr (gq h (by decide+kernel))
def dm {s:Str}(h:good s=true):(s==("__classdict__":Str))=false:=beq_eq_false_iff_ne.mpr (gq h (by decide+kernel))
def dO {s:Str}(h:good s=true):s≠(".0":Str):=gq h (by decide+kernel)
def jc {a b:Str}(ha:good a=true)(hb:good b=true):Nat.beq (AI a) (AI b)=(a==b):=by
 by_cases e:a=b
 ·subst e;rw[Nat.beq_refl,beq_self_eq_true]
 ·rw[beq_eq_false_iff_ne.mpr e];exact Bool.eq_false_iff.mpr λq=>e (bJ ha hb (Nat.eq_of_beq_eq_true q))
noncomputable def lim:Nat:=1048576
structure Bl where
 prog:Program
 w:World
 K:Frag
 g0:Heap
 mg:Str->Option Value
 mb:Str->Option Value
 ca:Nat->Addr
 fa:Nat->Addr
 tabs:List (Addr×Addr)
 tq:Pos->Option Str
 cc:Nat->Addr
 cq:Nat->Str
 os:OsState
abbrev Bl.sk (W:Bl):=strKind W.prog W.w
abbrev Bl.ik (W:Bl):=intKind W.prog W.w
def EY (W:Bl)(a:Addr):Prop:=a∈W.tabs.map (·.2)
structure A8 where
 im:Addr->Option Obj
 pn:Addr->Option Obj
 gn:Nat->Option GenState
def HZ (im:Addr->Option Obj)(c:Addr)(q:Str):Prop:=∃ o vs t,im c=some o/\o.data= .fields vs/\vs[1]? =some (.str q t)
def Lv (x:Str)(sc:Scope):Bool:=sc.kind== .function && !sc.isGenerator && !sc.isCoroutine && (sc.names.filter λq=>q.2== .free)== [(x,.free)] && sc.names.all λq=>q.2 != .cell
def Lw (sc:Scope):Bool:=sc.kind== .function && !sc.isGenerator && !sc.isCoroutine && (sc.names.filter λq=>q.2== .free)== [] && sc.names.all λq=>q.2 != .cell
def DM (n:Nat):Bool:=AM n [DN,Bu]
inductive KG:Nat->Str->Arguments->PySem.Expr->Scope->Prop
 |one (x:Str) (sc:Scope) (p1 p2 p3 p4:Pos) (k:Nat) (hx:good x=true) (hz:DM (AI x)=true) (hc:Lv x sc=true) (hl:(p2.endLine==p4.line)=true) (h1:sc.names.lookup x=some .free):
   KG 0 x ⟨[],[],.none,[],[],.none,[]⟩ (.Call (.Attribute (.Name x p1) (Str.ofString "append") p2) [.Constant (.int 1) k p3] [] p4) sc
 |two (x:Str) (sc:Scope) (a1 a2 a3:Arg) (p1 p2 p3 p4 p5 p6 p7:Pos) (k:Nat) (hx:good x=true) (hz:DM (AI x)=true) (hc:Lv x sc=true) (hl:(p2.endLine==p7.line)=true) (h1:sc.names.lookup x=some .free)
   (g1:good a1.arg=true) (g2:good a2.arg=true) (g3:good a3.arg=true) (n1:sc.names.lookup a1.arg=some .local) (n2:sc.names.lookup a2.arg=some .local) (n3:sc.names.lookup a3.arg=some .local)
   (d1:a1.arg≠a2.arg) (d2:a1.arg≠a3.arg) (d3:a2.arg≠a3.arg):
   KG 1 x ⟨[],[a1,a2,a3],.none,[],[],.none,[]⟩ (.Call (.Attribute (.Name x p1) (Str.ofString "append") p2) [.Tuple [.Name a1.arg p3,.Name a2.arg p4,.Name a3.arg p5] k p6] [] p7) sc
inductive Pt (g:A8)(k l f:Nat):Prop
 |mk (params:Arguments) (body:PySem.Expr) (scope:Scope) (qual:Str) (pm:Value) (c':Addr) (ctv:Value) (x:Str) (cell:Addr) (o:Obj) (e:g.im f=some (kla_obj "<lambda>" qual params body scope [(x,cell)] pm c' ctv))
   (h:KG k x params body scope) (ci:HZ g.im c' qual) (ec:g.im cell=some o) (ed:o.data= .cell (some (.ref l)))
inductive S7:Value->Prop
 |mk:S7 .none
inductive S5 (b:Bool):Value->Prop
 |mk:S5 b (.bool b)
inductive S6 (i:Int):Value->Prop
 |mk (t:Tok):S6 i (.int i t)
inductive S9 (n:Nat):Value->Prop
 |mk (s:Str) (t:Tok) (h:good s=true) (e:AI s=n):S9 n (.str s t)
inductive RD (g:A8)(p:List Value->Prop):Value->Prop
 |mk (a:Addr) (vals:Array Value) (n:Nat) (e:g.im a=some { cls:= .type "tuple",data:= .seq vals n }) (r:p vals.toList):RD g p (.ref a)
inductive T4 (g:A8)(xs:List Int):Value->Prop
 |mk (a:Addr) (vals:Array Value) (n:Nat) (e:g.im a=some { cls:= .type "list",data:= .seq vals n }) (r:IntsAre vals.toList xs) (l:xs.length<=lim):T4 g xs (.ref a)
inductive S8 (a:Nat):Value->Prop
 |mk:S8 a (.ref a)
inductive TZ (g:A8)(k l:Nat):Value->Prop
 |mk (f:Nat) (h:Pt g k l f):TZ g k l (.ref f)
inductive T3:Value->Prop
 |mk (a:Nat):T3 (.ref a)
inductive Q4:List Value->Prop
 |mk:Q4 []
inductive PV (p:Value->Prop)(q:List Value->Prop):List Value->Prop
 |mk (w:Value) (r:List Value) (h:p w) (hr:q r):PV p q (w::r)
def AF (g:A8)(v:V):Value->Prop:= @V.rec (λU=>Value->Prop) (λU=>List Value->Prop) S7 S5 S6 S9 (λU p=>RD g p) (T4 g) S8 (TZ g) T3 Q4 (λU U p q=>PV p q) v
def AE (g:A8)(v:List V):List Value->Prop:= @V.rec_1 (λU=>Value->Prop) (λU=>List Value->Prop) S7 S5 S6 S9 (λU p=>RD g p) (T4 g) S8 (TZ g) T3 Q4 (λU U p q=>PV p q) v
inductive IH (g:A8):Option V->Option Value->Prop
 |none:IH g Option.none Option.none
 |some (v:V) (w:Value) (h:AF g v w):IH g (some v) (some w)
structure HV (g g':A8):Prop where
 im:∀ a o,g.im a=some o->g'.im a=some o
 pn:g'.pn=g.pn
 gn:g'.gn=g.gn
theorem HV.refl (g:A8):HV g g:=⟨λU U h=>h,rfl,rfl⟩
theorem HV.trans {a b c:A8}(x:HV a b)(y:HV b c):HV a c:=⟨λU U h=>y.im _ _ (x.im _ _ h),y.pn.trans x.pn,y.gn.trans x.gn⟩
abbrev Ek (g g':A8):Prop:=∀ a o,g.im a=some o->g'.im a=some o
theorem HZ.mono {im im':Addr->Option Obj}(k:∀ a o,im a=some o->im' a=some o){c:Addr}{q:Str}(x:HZ im c q):HZ im' c q:=
 let⟨o,vs,t,e,r⟩:=x;⟨o,vs,t,k _ _ e,r⟩
theorem Pt.mono {g g':A8}(m:Ek g g'){k l f:Nat}(h:Pt g k l f):Pt g' k l f:=
 match h with | .mk p b s q pm c' ct x cl o e h ci ec ed=> .mk p b s q pm c' ct x cl o (m _ _ e) h (ci.mono m) (m _ _ ec) ed
theorem AF.mono {g g':A8}(k:Ek g g')(v:V):∀ {w:Value},AF g v w->AF g' v w:=
 @V.rec (λv=>∀ {w},AF g v w->AF g' v w) (λv=>∀ {w},AE g v w->AE g' v w) id (λU=>id) (λU=>id) (λU=>id) (λU ih U h=>match h with | .mk a vals n e r=> .mk a vals n (k _ _ e) (ih r))
  (λU U h=>match h with | .mk a vals n e r l=> .mk a vals n (k _ _ e) r l) (λU=>id) (λU U U h=>match h with | .mk f h=> .mk f (h.mono k)) id id (λU U i1 i2 U h=>match h with | .mk w r h hr=> .mk w r (i1 h) (i2 hr)) v
theorem AE.mono {g g':A8}(k:Ek g g'):∀ (v:List V) {w:List Value},AE g v w->AE g' v w
 | [],_,h=>h
 |v::vs,_,.mk w r h hr=> .mk w r (AF.mono k v h) (AE.mono k vs hr)
theorem IH.mono {g g':A8}(k:Ek g g'){v:Option V}{w:Option Value}(h:IH g v w):IH g' v w:=by
 cases h with
 |none=>exact .none
 |some v w h=>exact .some v w (AF.mono k v h)
inductive JX (P:Params):List DictEntry->List (Str×Value)->Prop
 |nil:JX P [] []
 |cons (n:Str) (t:Tok) (v:Value) (es:List DictEntry) (kv:List (Str×Value)) (h:JX P es kv):JX P (⟨PyData.keyHash P n,.str n t,v⟩::es) ((n,v)::kv)
structure K1 (g:A8)(P:Params)(C:Nat)(es:List DictEntry)(f:Nat->Option V):Prop where
 ex:∃ kv,JX P es kv/\(kv.map (·.1)).Nodup/\(∀ p∈kv,good p.1=true/\AI p.1∈own C)/\∀ n,good n=true->IH g (f (AI n)) (kv.lookup n)
structure So (g:A8)(kvs:List (Str×Value))(f:Nat->Option V):Prop where
 all:∀ kv∈kvs,good kv.1=true
 len:kvs.length<=1000
 is:∀ n,good n=true->IH g (f (AI n)) (valueAt kvs n)
inductive J5 (g:A8):List (Int×Value)->List (Int×V)->Prop
 |nil:J5 g [] []
 |cons (k:Int) (v:V) (w:Value) (kvs:List (Int×Value)) (l:List (Int×V)) (h:AF g v w) (r:J5 g kvs l):J5 g ((k,w)::kvs) ((k,v)::l)
theorem K1.mono {g g':A8}(k:Ek g g'){P:Params}{C:Nat}{es:List DictEntry}{f:Nat->Option V}(h:K1 g P C es f):K1 g' P C es f:=
 let⟨kv,a,b,c,d⟩:=h.ex;⟨kv,a,b,c,λn hn=>(d n hn).mono k⟩
theorem So.mono {g g':A8}(k:Ek g g'){kvs:List (Str×Value)}{f:Nat->Option V}(h:So g kvs f):So g' kvs f:=⟨h.all,h.len,λn hn=>(h.is n hn).mono k⟩
theorem J5.mono {g g':A8}(k:Ek g g'){kvs:List (Int×Value)}{l:List (Int×V)}(h:J5 g kvs l):J5 g' kvs l:=by
 induction h with
 |nil=>exact .nil
 |cons i v w _ _ hv _ ih=>exact .cons i v w _ _ (AF.mono k v hv) ih
inductive Od (a:Nat):Arguments->PySem.Expr->Scope->Prop
 |mk (x:Arg) (b:Str) (sc:Scope) (p1 p2:Pos) (hb:good b=true) (ha:AI b=a) (hs:Lw sc=true) (hn:sc.names.lookup x.arg=some .local) (hx:good x.arg=true):
   Od a ⟨[],[x],.none,[],[],.none,[]⟩ (.Attribute (.Name x.arg p1) b p2) sc
inductive JL (g:A8)(a:Nat)(f:Addr):Prop
 |mk (params:Arguments) (body:PySem.Expr) (scope:Scope) (qual:Str) (pm:Value) (c':Addr) (ctv:Value) (e:g.im f=some (kla_obj "<lambda>" qual params body scope [] pm c' ctv)) (h:Od a params body scope) (ci:HZ g.im c' qual)
theorem JL.mono {g g':A8}(k:Ek g g'){a:Nat}{f:Addr}(h:JL g a f):JL g' a f:=by
 cases h with
 |mk p b s q pm c' ct e h ci=>exact .mk p b s q pm c' ct (k _ _ e) h (ci.mono k)
inductive G0 (W:Bl)(g:A8)(h:H)(hp:Heap)(a:Addr):O->Prop
 |lst (xs:List V) (vals:Array Value) (n:Nat) (e:hp.get? a=some (listOf vals n)) (r:AE g xs vals.toList) (l:xs.length<=lim):G0 W g h hp a (.lst xs)
 |dct (f:Nat->Option V) (kvs:List (Str×Value)) (e:hp.DictOf W.sk a kvs) (r:So g kvs f):G0 W g h hp a (.dct f)
 |BM (ep:Nat) (l:List (Int×V)) (kvs:List (Int×Value)) (e:hp.DictAt W.ik a kvs ep) (r:J5 g kvs l) (n:l.length<=lim) (ns:(a==sysModules)=false):G0 W g h hp a (.BM ep l)
 |ins (C d:Nat) (f:Nat->Option V) (es:List DictEntry) (n:Nat) (e:hp.get? a=some (instObj (W.ca C) d)) (w:h d=some (.own a)) (ed:hp.get? d=some (dictOf es n)) (r:K1 g W.w.params C es f):G0 W g h hp a (.ins C d f)
 |own (b:Addr) (o:Obj) (e:hp.get? a=some o):G0 W g h hp a (.own b)
 |Gz (c y d ep n f:Nat) (e:hp.get? a=some { cls:= .type "filter",data:= .fields #[.ref f,.ref y] }) (w:h y=some (.own a)) (ey:hp.get? y=some { cls:= .type "dict_valueiterator",data:= .fields #[.ref d,.int 0 0,.int n 0,.int ep 0] })
   (l:JL g c f):G0 W g h hp a (.Gz c y d ep n)
def Wi:O->Option Nat
 | .ins _ d _=>some d
 | .Gz _ y _ _ _=>some y
 |_=>Option.none
def cD {K:Type}[DecidableEq K]{prog:Program}{w:World}{knd:KeyKind prog w K}{h:Heap}{a:Addr}{kvs:List (K×Value)}(x:h.DictOf knd a kvs):∃ o,h.get? a=some o:=let⟨o,_,_,h,_⟩:=x;⟨o,h⟩
theorem G0.here {W:Bl}{g:A8}{h:H}{hp:Heap}{a:Addr}{o:O}(r:G0 W g h hp a o):∃ ob,hp.get? a=some ob:=by
 cases r with
 |lst _ _ _ e=>exact⟨_,e⟩
 |dct _ _ e=>exact cD e
 |BM _ _ _ e=>exact cD e.dictOf
 |ins _ _ _ _ _ e=>exact⟨_,e⟩
 |own _ _ e=>exact⟨_,e⟩
 |Gz _ _ _ _ _ _ e=>exact⟨_,e⟩
theorem G0.keep {W:Bl}{g g':A8}{h h':H}{hp hp':Heap}{a:Addr}{o:O}(r:G0 W g h hp a o)(k:Ek g g')(ka:∀ ob,hp.get? a=some ob->hp'.get? a=some ob)
  (ky:∀ y,Wi o=some y->(∀ ob,hp.get? y=some ob->hp'.get? y=some ob)/\h' y=h y):G0 W g' h' hp' a o:=by
 cases r with
 |lst xs vals n e r l=>exact .lst xs vals n (ka _ e) (AE.mono k xs r) l
 |dct f kvs e r=>exact .dct f kvs (e.at ka) (r.mono k)
 |BM ep l kvs e r n ns=>exact .BM ep l kvs (e.at' ka) (r.mono k) n ns
 |ins C d f es n e w ed r=>exact .ins C d f es n (ka _ e) ((ky d rfl).2.trans w) ((ky d rfl).1 _ ed) (r.mono k)
 |own b o e=>exact .own b o (ka _ e)
 |Gz c y d ep n f e w ey l=>exact .Gz c y d ep n f (ka _ e) ((ky y rfl).2.trans w) ((ky y rfl).1 _ ey) (l.mono k)
def Pv (W:Bl)(g:A8)(h:Heap)(P:Addr):Prop:=∃ ps,h.get? P=some (tabObj ps)/\TriplesOk ps.toList/\
 ∀ pos cv,codeAmong pos ps.toList=some cv->∃ q c',W.tq pos=some q/\cv= .ref c'/\HZ g.im c' q
theorem Pv.mono {W:Bl}{g g':A8}(k:Ek g g'){h h':Heap}{P:Addr}(x:Pv W g h P)(e:∀ o,h.get? P=some o->h'.get? P=some o):Pv W g' h' P:=
 let⟨ps,a,b,z⟩:=x;⟨ps,e _ a,b,λpos cv hc=>let⟨q,c',h1,h2,h3⟩:=z pos cv hc;⟨q,c',h1,h2,h3.mono k⟩⟩
structure Ok (W:Bl)(g:A8)(h:H)(s:Shared):Prop where
 F2:∀ a o,g.im a=some o->s.heap.get? a=some o
 Dk:∀ a o,g.pn a=some o->s.heap.get? a=some o
 obj:∀ a o,h a=some o->G0 W g h s.heap a o
 sep:∀ a o,h a=some o->g.im a=Option.none/\g.pn a=Option.none/\ ¬ EY W a
 Dz:∀ a o,g.pn a=some o->g.im a=Option.none/\ ¬ EY W a
 Pz:∀ P,EY W P->g.im P=Option.none
 tabs:∀ P,EY W P->Pv W g s.heap P
 os:s.os=W.os
 gens:AllBare s.gens
 Ii:∀ i x,g.gn i=some x->s.gens[i]? =some x
 Ng:∀ a o,W.g0.get? a=some o->g.im a=some o
section
variable {W:Bl}{g g':A8}{h h':H}{s s':Shared}
theorem Ok.old (ho:Ok W g h s){a:Addr}{o:Obj}(e:W.g0.get? a=some o):s.heap.get? a=some o:=ho.F2 _ _ (ho.Ng _ _ e)
def aP {α:Type}{o:Option α}(h:∀ a,o≠some a):o=Option.none:=by
 cases o with
 |none=>rfl
 |some a=>exact absurd rfl (h a)
theorem Ok.fresh (ho:Ok W g h s){a:Addr}(e:s.heap.get? a=Option.none):h a=Option.none/\g.im a=Option.none/\g.pn a=Option.none/\ ¬ EY W a:=by
 have no:∀ o,s.heap.get? a≠some o:=λo q=>by rw[e] at q;cases q
 refine⟨aP λo q=> ?_,aP λo q=>no o (ho.F2 _ _ q),aP λo q=>no o (ho.Dk _ _ q),λq=> ?_⟩
 ·obtain⟨ob,z⟩:=(ho.obj a o q).here;exact no ob z
 ·obtain⟨ps,z,_⟩:=ho.tabs a q;exact no _ z
theorem Ok.go (ho:Ok W g h s)(D:Addr->Prop)(k:Ek g g')(keep:∀ b o,¬ D b->s.heap.get? b=some o->s'.heap.get? b=some o)
  (him:∀ b o,g'.im b=some o->(g.im b=some o/\ ¬ D b)\/(D b/\s'.heap.get? b=some o/\ ¬ EY W b))
  (hpn:∀ b o,g'.pn b=some o->g'.im b=Option.none/\((g.pn b=some o/\ ¬ D b)\/(D b/\s'.heap.get? b=some o/\ ¬ EY W b)))
  (hh:∀ b o,h' b=some o->(¬ D b/\h b=some o/\∀ y,Wi o=some y-> ¬ D y/\h' y=h y)\/(D b/\G0 W g' h' s'.heap b o/\g'.im b=Option.none/\g'.pn b=Option.none/\ ¬ EY W b))
  (ht:∀ b,EY W b-> ¬ D b)(hos:s'.os=s.os)(hg:AllBare s'.gens)(hgn:∀ i x,g'.gn i=some x->s'.gens[i]? =some x):Ok W g' h' s' where
 F2 b o e:=(him b o e).elim (λq=>keep b o q.2 (ho.F2 b o q.1)) λq=>q.2.1
 Dk b o e:=(hpn b o e).2.elim (λq=>keep b o q.2 (ho.Dk b o q.1)) λq=>q.2.1
 obj b o e:=(hh b o e).elim (λq=>(ho.obj b o q.2.1).keep k (λob z=>keep b ob q.1 z) λy hy=>⟨λob z=>keep y ob (q.2.2 y hy).1 z,(q.2.2 y hy).2⟩) λq=>q.2.1
 sep b o e:=(hh b o e).elim (λq=>have z:=ho.sep b o q.2.1
  ⟨aP λx hx=>(him b x hx).elim (λp=>by rw[z.1] at p;cases p.1) λp=>q.1 p.1,aP λx hx=>(hpn b x hx).2.elim (λp=>by rw[z.2.1] at p;cases p.1) λp=>q.1 p.1,z.2.2⟩) λq=>q.2.2
 Dz b o e:=⟨(hpn b o e).1,(hpn b o e).2.elim (λq=>(ho.Dz b o q.1).2) λq=>q.2.2⟩
 Pz P hP:=aP λo e=>(him P o e).elim (λq=>by rw[ho.Pz P hP] at q;cases q.1) λq=>q.2.2 hP
 tabs P hP:=(ho.tabs P hP).mono k λo e=>keep P o (ht P hP) e
 os:=hos.trans ho.os
 gens:=hg
 Ii:=hgn
 Ng a o e:=k a o (ho.Ng a o e)
end
def GG:Value->Shared->Prop:=λU U=>False
abbrev BR {α:Type}(W:Bl)(A:Around)(t:Sem α)(Q:α->Shared->Prop)(s:Shared):Prop:=wpAny (model W.prog W.w) A t Q GG s
def ai {α:Type}{W:Bl}{A:Around}{t:Sem α}{Q Q':α->Shared->Prop}{s:Shared}(h:BR W A t Q s)(k:∀ v s',Q v s'->Q' v s'):BR W A t Q' s:=wpAny_mono h k λU U e=>e
abbrev A8.lay (g:A8)(a:Addr)(o:Obj):A8:={ g with im:=Ad g.im a (some o) }
abbrev A8.pin (g:A8)(a:Addr)(o:Obj):A8:={ g with pn:=Ad g.pn a (some o) }
def al (h:Heap):h.get? h.objs.size=Option.none:=Heap.get?_none_of_le (Nat.le_refl _)
section
variable {W:Bl}{g g':A8}{h h':H}{s s':Shared}
def aj {α:Type}{o:Option α}{a:α}(e:o=Option.none)(q:o=some a){C:Prop}:C:=by rw[e] at q;cases q
theorem Ok.grown (ho:Ok W g h s){hp:Heap}{tk:Nat}(k:∀ b o,s.heap.get? b=some o->hp.get? b=some o):Ok W g h { s with heap:=hp,toks:=tk }:=
 ho.go (λU=>False) (λU U e=>e) (λb o U e=>k b o e) (λb o e=> .inl ⟨e,id⟩) (λb o e=>⟨(ho.Dz b o e).1,.inl ⟨e,id⟩⟩) (λb o e=> .inl ⟨id,e,λU U=>⟨id,rfl⟩⟩) (λU U=>id) rfl ho.gens ho.Ii
theorem Ok.toks (ho:Ok W g h s){tk:Nat}:Ok W g h { s with toks:=tk }:=ho.grown λU U e=>e
theorem Ok.Nm (ho:Ok W g h s){pn:Addr->Option Obj}{gn:Nat->Option GenState}(k:∀ a o,pn a=some o->g.pn a=some o)(k2:∀ a o,gn a=some o->g.gn a=some o):Ok W ⟨g.im,pn,gn⟩ h s:=
 ho.go (λU=>False) (λU U e=>e) (λU U U e=>e) (λb o e=> .inl ⟨e,id⟩) (λb o e=>⟨(ho.Dz b o (k b o e)).1,.inl ⟨k b o e,id⟩⟩) (λb o e=> .inl ⟨id,e,λU U=>⟨id,rfl⟩⟩) (λU U=>id) rfl ho.gens λi x e=>ho.Ii i x (k2 i x e)
theorem Ok.new (ho:Ok W g h s){hp:Heap}{tk:Nat}{a:Addr}{o:O}(k:∀ b o,s.heap.get? b=some o->hp.get? b=some o)(ha:s.heap.get? a=Option.none)(hr:G0 W g (Ad h a (some o)) hp a o):
  Ok W g (Ad h a (some o)) { s with heap:=hp,toks:=tk }:=
 have f:=ho.fresh ha
 ho.go (λb=>b=a) (λU U e=>e) (λb o U e=>k b o e) (λb o e=> .inl ⟨e,λq=>aj f.2.1 (q▸e)⟩) (λb o e=>⟨(ho.Dz b o e).1,.inl ⟨e,λq=>aj f.2.2.1 (q▸e)⟩⟩)
  (λb o' e=>by
   by_cases q:b=a
   ·subst q;rw[aa] at e;rcases e with ⟨⟩;exact .inr ⟨rfl,hr,f.2.1,f.2.2.1,f.2.2.2⟩
   ·rw[ab _ _ q] at e
    refine .inl ⟨q,e,λy hy=> ?_⟩
    have hy':y≠a:=λz=>by
     subst z
     have r:=ho.obj b o' e
     rcases r with ⟨⟩ <;> rcases hy with ⟨⟩ <;> first|exact aj ha ‹s.heap.get? y=some _› |skip
    exact⟨hy',ab _ _ hy'⟩)
  (λb hb q=>f.2.2.2 (q▸hb)) rfl ho.gens ho.Ii
theorem Ok.put (ho:Ok W g h s){hp:Heap}{tk:Nat}{a b:Addr}{o o':O}(ha:h a=some o)(hb:b=a\/h b=some (.own a))(hs:Heap.SameBut b s.heap hp)(hr:G0 W g (Ad h a (some o')) hp a o')(no:∀ x,o≠ .own x)(hob:∃ ob,hp.get? b=some ob):
  Ok W g (Ad h a (some o')) { s with heap:=hp,toks:=tk }:=
 have fa:=ho.sep a o ha
 have fb:∀ c,(c=a\/c=b)->g.im c=Option.none/\g.pn c=Option.none/\ ¬ EY W c:=λc hc=>by
  rcases hc with rfl|rfl
  ·exact fa
  ·rcases hb with rfl|hb
   ·exact fa
   ·exact ho.sep _ _ hb
 ho.go (λc=>c=a\/c=b) (λU U e=>e) (λc o n e=>(hs.2 c λq=>n (.inr q)).trans e) (λc o e=> .inl ⟨e,λq=>aj (fb c q).1 e⟩) (λc o e=>⟨(ho.Dz c o e).1,.inl ⟨e,λq=>aj (fb c q).2.1 e⟩⟩)
  (λc o'' e=>by
   by_cases q:c=a
   ·subst q;rw[aa] at e;cases e;exact .inr ⟨.inl rfl,hr,fa⟩
   ·rw[ab _ _ q] at e
    by_cases q2:c=b
    ·subst q2
     rw[hb.resolve_left q] at e;cases e
     obtain⟨ob',z'⟩:=hob
     exact .inr ⟨.inr rfl,.own _ ob' z',fb c (.inr rfl)⟩
    ·refine .inl ⟨λz=>z.elim q q2,e,λy hy=> ?_⟩
     have hyo:h y=some (.own c):=by
      have r:=ho.obj c o'' e
      cases r <;> cases hy <;> assumption
     have n1:y≠a:=λz=>by subst z;rw[ha] at hyo;cases hyo;exact no _ rfl
     have n2:y≠b:=λz=>by
      subst z
      rcases hb with z|z
      ·exact n1 z
      ·rw[z] at hyo;cases hyo;exact q rfl
     exact⟨λz=>z.elim n1 n2,ab _ _ n1⟩)
  (λc hc q=>(fb c q).2.2 hc) rfl ho.gens ho.Ii
theorem Ok.laid (ho:Ok W g h s){hp:Heap}{tk:Nat}{a:Addr}{o:Obj}(k:∀ b o,s.heap.get? b=some o->hp.get? b=some o)(ha:s.heap.get? a=Option.none)(hr:hp.get? a=some o):Ok W (g.lay a o) h { s with heap:=hp,toks:=tk }:=
 have f:=ho.fresh ha
 ho.go (λb=>b=a) (λb o e=>(ab _ _ λq=>aj f.2.1 (q▸e)).trans e) (λb o U e=>k b o e)
  (λb o' e=>by
   have e:Ad g.im a (some o) b=some o':=e
   by_cases q:b=a
   ·subst q;rw[aa] at e;rcases e with ⟨⟩;exact .inr ⟨rfl,hr,f.2.2.2⟩
   ·rw[ab _ _ q] at e;exact .inl ⟨e,q⟩)
  (λb o' e=>
   have q:b≠a:=λq=>aj f.2.2.1 (q▸e)
   ⟨(ab _ _ q).trans (ho.Dz b o' e).1,.inl ⟨e,q⟩⟩)
  (λb o' e=>
   have q:b≠a:=λq=>aj f.1 (q▸e)
   .inl ⟨q,e,λy hy=>⟨λz=>by
     subst z
     have r:=ho.obj b o' e
     rcases r with ⟨⟩ <;> rcases hy with ⟨⟩ <;> exact aj ha ‹s.heap.get? y=some _›,rfl⟩⟩)
  (λb hb q=>f.2.2.2 (q▸hb)) rfl ho.gens ho.Ii
theorem Ok.Kr (ho:Ok W g h s){a:Addr}(ha:s.heap.get? a=Option.none)(o:Obj):HV g (g.lay a o):=
 ⟨λb o' e=>(ab _ _ λq=>aj (ho.fresh ha).2.1 (q▸e)).trans e,rfl,rfl⟩
theorem Ok.pinned (ho:Ok W g h s){hp:Heap}{tk:Nat}{a:Addr}{o:Obj}(k:∀ b o,b≠a->s.heap.get? b=some o->hp.get? b=some o)(ha:s.heap.get? a=Option.none\/∃ ob,g.pn a=some ob)(hr:hp.get? a=some o):Ok W (g.pin a o) h { s with heap:=hp,toks:=tk }:=
 have f:h a=Option.none/\g.im a=Option.none/\ ¬ EY W a/\∀ x,h a≠some (.own x):=ha.elim (λe=>have f:=ho.fresh e;⟨f.1,f.2.1,f.2.2.2,λx q=>aj f.1 q⟩) λ⟨ob,e⟩=>
  have z:=ho.Dz a ob e
  have n:h a=Option.none:=aP λx hx=>by rw[(ho.sep a x hx).2.1] at e;rcases e with ⟨⟩
  ⟨n,z.1,z.2,λx q=>aj n q⟩
 ho.go (λb=>b=a) (λU U e=>e) (λb o n e=>k b o n e) (λb o e=> .inl ⟨e,λq=>aj f.2.1 (q▸e)⟩)
  (λb o' e=>by
   have e:Ad g.pn a (some o) b=some o':=e
   by_cases q:b=a
   ·subst q;rw[aa] at e;rcases e with ⟨⟩;exact⟨f.2.1,.inr ⟨rfl,hr,f.2.2.1⟩⟩
   ·rw[ab _ _ q] at e;exact⟨(ho.Dz b o' e).1,.inl ⟨e,q⟩⟩)
  (λb o' e=>
   have q:b≠a:=λq=>aj f.1 (q▸e)
   .inl ⟨q,e,λy hy=>⟨λz=>by
     subst z
     have r:=ho.obj b o' e
     rcases r with ⟨⟩ <;> rcases hy with ⟨⟩ <;> exact aj f.1 ‹h y=some _›,rfl⟩⟩)
  (λb hb q=>f.2.2.1 (q▸hb)) rfl ho.gens ho.Ii
theorem Ok.given (ho:Ok W g h s){hp:Heap}{tk:Nat}{a:Addr}{o:Obj}{pn:Addr->Option Obj}(k:∀ b o,b≠a->s.heap.get? b=some o->hp.get? b=some o)(ha:∃ ob,g.pn a=some ob)(hr:hp.get? a=some o)(hp':∀ b o,pn b=some o->b≠a/\g.pn b=some o):
  Ok W ⟨Ad g.im a (some o),pn,g.gn⟩ h { s with heap:=hp,toks:=tk }:=
 have⟨ob,e0⟩:=ha
 have z:=ho.Dz a ob e0
 have n:h a=Option.none:=aP λx hx=>by rw[(ho.sep a x hx).2.1] at e0;rcases e0 with ⟨⟩
 ho.go (λb=>b=a) (λb o e=>(ab _ _ λq=>aj z.1 (q▸e)).trans e) (λb o n e=>k b o n e)
  (λb o' e=>by
   have e:Ad g.im a (some o) b=some o':=e
   by_cases q:b=a
   ·subst q;rw[aa] at e;rcases e with ⟨⟩;exact .inr ⟨rfl,hr,z.2⟩
   ·rw[ab _ _ q] at e;exact .inl ⟨e,q⟩)
  (λb o' e=>have q:=hp' b o' e;⟨(ab _ _ q.1).trans (ho.Dz b o' q.2).1,.inl ⟨q.2,q.1⟩⟩)
  (λb o' e=>
   have q:b≠a:=λq=>aj n (q▸e)
   .inl ⟨q,e,λy hy=>⟨λz=>by
     have r:=ho.obj b o' e
     subst z
     rcases r with ⟨⟩ <;> rcases hy with ⟨⟩ <;> exact aj n ‹h y=some _›,rfl⟩⟩)
  (λb hb q=>z.2 (q▸hb)) rfl ho.gens ho.Ii
inductive IF (W:Bl)(g:A8)(Q:V->H->Prop)(w:Value)(s':Shared):Prop
 |mk (g':A8) (le:HV g g') (h':H) (o:Ok W g' h' s') (v:V) (r:AF g' v w) (q:Q v h')
theorem IF.here {Q:V->H->Prop}{v:V}{w:Value}(ho:Ok W g h s)(hv:AF g v w)(q:Q v h){t:Nat}:IF W g Q w { s with toks:=t }:=⟨g,.refl g,h,ho.toks,v,hv,q⟩
theorem IF.Dh {Q:V->H->Prop}{v:V}{w:Value}(ho:Ok W g h s)(hv:AF g v w)(q:Q v h):IF W g Q w s:=⟨g,.refl g,h,ho,v,hv,q⟩
def a7 {W:Bl}{A:Around}{g:A8}{s:Shared}{t:Sem Value}{Q:V->H->Prop}{R:Value->Shared->Prop}(x:BR W A t (IF W g Q) s)(f:∀ w s' g',HV g g'->∀ h',Ok W g' h' s'->∀ v,AF g' v w->Q v h'->R w s'):BR W A t R s:=ai x λw s' z=>match z with |⟨g',a,h',b,v,c,d⟩=>f w s' g' a h' b v c d
theorem IF.grown {Q:V->H->Prop}{v:V}{w:Value}(ho:Ok W g h s)(hv:AF g v w)(q:Q v h){hp:Heap}{t:Nat}(k:∀ b o,s.heap.get? b=some o->hp.get? b=some o):IF W g Q w { s with heap:=hp,toks:=t }:=⟨g,.refl g,h,ho.grown k,v,hv,q⟩
theorem IF.after {Q:V->H->Prop}{w:Value}(le:HV g g')(z:IF W g' Q w s'):IF W g Q w s':=match z with | .mk g2 l h' o v r q=> .mk g2 (le.trans l) h' o v r q
end
def qi {g:A8}:AF g .none .none:=S7.mk
def cJ {g:A8}(b:Bool):AF g (.bool b) (.bool b):=S5.mk
def cB {g:A8}(i:Int)(t:Tok):AF g (.int i) (.int i t):=S6.mk t
def iM {g:A8}(a:Nat):AF g (.ref a) (.ref a):=S8.mk
def yu {g:A8}(s:Str)(t:Tok)(h:good s=true):AF g (.str (AI s)) (.str s t):=S9.mk s t h rfl
structure Ft (k:Nat)(A:Around):Prop where
 handled:A.handled=none
 depth:A.depth+20*k+40<=recursionLimit
 units:A.units+100*k+400<=cLine
structure JC (k:Nat)(A:Around):Prop where
 handled:A.handled=none
 depth:A.depth+20*k+30<=recursionLimit
 units:A.units+100*k+350<=cLine
theorem Ft.w {k:Nat}{A:Around}(h:Ft k A):JC k A:=⟨h.handled,by have :=h.depth;omega,by have :=h.units;omega⟩
theorem Ft.w1 {k:Nat}{A:Around}(h:Ft k A):JC k A.in1:=⟨h.handled,by have :=h.depth;show A.depth+_+_<=_;omega,by have :=h.units;show A.units+1+_+_<=_;omega⟩
theorem JC.deeper {k:Nat}{A:Around}{env:PySem.Env}(h:JC (k+1) A):Ft k (A.deeper env):=
 ⟨h.handled,by have :=h.depth;show A.depth+1+_+_<=_;omega,by have :=h.units;show A.units+3+_+_<=_;omega⟩
theorem JC.room {k:Nat}{A:Around}(h:JC k A):A.depth < recursionLimit:=by have :=h.depth;omega
theorem Ft.room {k:Nat}{A:Around}(h:Ft k A):A.depth < recursionLimit:=h.w.room
theorem Ft.in1 {k:Nat}{A:Around}(h:Ft (k+1) A):Ft k A.in1:=⟨h.handled,by have :=h.depth;show A.depth+_+_<=_;omega,by have :=h.units;show A.units+1+_+_<=_;omega⟩
theorem Ft.less {k:Nat}{A:Around}(h:Ft (k+1) A):Ft k A:=⟨h.handled,by have :=h.depth;omega,by have :=h.units;omega⟩
theorem Ft.shape {k:Nat}{A:Around}(h:Ft k A):A.units+64 < cLine:=by have :=h.units;omega
structure Bl.Ok (W:Bl):Prop where
 K:W.K.In W.g0
 g:W.g0.Ns mainGlobals W.mg
 b:W.g0.Ns builtinsNs W.mb
 lim:W.g0.NoLimit
 bi:∀ x:Str,x≠"__name__"->W.mb x=bootBuiltins x
 tabs:∀ q∈W.tabs,CodeHd W.g0 q.1 q.2/\W.g0.get? q.2=none
 bmain:∃ bm ob,W.mg "__builtins__"=some (.ref bm)/\bm≠builtinsNs/\W.g0.get? bm=some ob/\ob.cls= .type "module"/\ob.dict=some builtinsNs/\ob.data= .plain
inductive GZ (g:A8)(x:Str)(v:Option V)(a:Addr):Prop
 |full (f:DM (AI x)=true) (u:V) (o:Obj) (w:Value) (e:v=some u) (i:g.im a=some o) (d:o.data= .cell (some w)) (r:AF g u w):GZ g x v a
 |mv (f:DM (AI x)=false) (u:V) (o:Obj) (w:Value) (e:v=some u) (i:g.pn a=some o) (d:o.data= .cell (some w)) (r:AF g u w):GZ g x v a
 |bare (o:Obj) (e:v=none) (i:g.pn a=some o) (d:o.data= .cell none):GZ g x v a
inductive W8 (g:A8)(env:PySem.Env)(me:AZ):Prop
 |mk (o:Obj) (lm:Str->Option Value) (e:g.pn env.locals=some o) (ns:∀ hp:Heap,hp.get? env.locals=some o->hp.Ns env.locals lm)
   (v:∀ x,good x=true->env.kindOf x=some .local->∀ v,me (AI x)=some v->∃ w,lm x=some w/\AF g v w)
structure Fp (g:A8)(env:PySem.Env)(me:AZ):Prop where
 glob:env.globals=mainGlobals
 bi:env.builtins=builtinsNs
 kind:env.scope.kind= .function
 co:env.scope.isCoroutine=false
 ns:W8 g env me
 cell:∀ x,good x=true->env.kindOf x=some .cell\/env.kindOf x=some .free->∃ a,env.cells.lookup x=some a/\GZ g x (me (AI x)) a
 one:∀ x y a,good x=true->good y=true->env.cells.lookup x=some a->env.cells.lookup y=some a->x=y
structure DI where
 f:Option Nat
 l:List (Str×NameKind)
def DI.lookup (nm:DI)(x:Str):Option NameKind:=nm.l.lookup x
structure DT (W:Bl)(n:Nat)(nm:DI)(A:Around)(env:PySem.Env)(me:AZ)(g:A8)(h:H)(s:Shared):Prop where
 ok:Ok W g h s
 BL:Fp g env me
 room:Ft n A
 names:env.scope.names=nm.l
 code:∀ f,nm.f=some f->env.code= .ref (W.cc f)/\env.qual=W.cq f
section
variable {W:Bl}{n:Nat}{nm:DI}{A:Around}{env:PySem.Env}{me:AZ}{g g':A8}{h h':H}{s s':Shared}{E:Value->Shared->Prop}
theorem GZ.mono (k:Ek g g')(e:g'.pn=g.pn){x:Str}{v:Option V}{a:Addr}(h:GZ g x v a):GZ g' x v a:=
 match h with
 | .full f u o w e i d r=> .full f u o w e (k _ _ i) d (AF.mono k u r)
 | .mv f u o w e' i d r=> .mv f u o w e' (by rw[e];exact i) d (AF.mono k u r)
 | .bare o e' i d=> .bare o e' (by rw[e];exact i) d
theorem Fp.mono (le:HV g g')(h:Fp g env me):Fp g' env me where
 glob:=h.glob
 bi:=h.bi
 kind:=h.kind
 co:=h.co
 ns:=match h.ns with | .mk o lm e ns v=> .mk o lm (by rw[le.pn];exact e) ns λx hx hk u hu=>let⟨w,a,b⟩:=v x hx hk u hu;⟨w,a,AF.mono le.im u b⟩
 cell x hx hk:=let⟨a,e,c⟩:=h.cell x hx hk;⟨a,e,c.mono le.im le.pn⟩
 one:=h.one
theorem DT.step (a:DT W n nm A env me g h s)(le:HV g g')(o:Ok W g' h' s'):DT W n nm A env me g' h' s':=⟨o,a.BL.mono le,a.room,a.names,a.code⟩
theorem DT.toks (a:DT W n nm A env me g h s){t:Nat}:DT W n nm A env me g h { s with toks:=t }:=⟨a.ok.toks,a.BL,a.room,a.names,a.code⟩
theorem DT.kind (a:DT W n nm A env me g h s){x:Str}{k:NameKind}(e:nm.lookup x=some k):env.kindOf x=some k:=by unfold Env.kindOf;rw[a.names];exact e
def LE (k:Option NameKind):Bool:=k==some .local||(k==some .cell||k==some .free)
theorem Ok.ns (ho:Ok W g h s){o:Obj}{lm:Str->Option Value}{L:Addr}(e:g.pn L=some o)(ns:∀ hp:Heap,hp.get? L=some o->hp.Ns L lm):s.heap.Ns L lm:=ns _ (ho.Dk _ _ e)
def jX {x:Str}{Q:V->H->Prop}{R:Value->Shared->Prop}(ho:Ok W g h s)(he:Fp g env me)(hx:good x=true)(hk:LE (env.kindOf x)=true)(hv:AJ (me (AI x)) λv=>Q v h)(Bj:∀ w,IF W g Q w s->R w s):
  wpAny (model W.prog W.w) A (loadName env x) R E s:=by
 cases bh hv with
 |mk v e q=>
 have cell:∀ {a:Addr},GZ g x (me (AI x)) a->∃ w,s.heap.IsCell a (some w)/\AF g v w:=λc=>by
  cases c with
  |full f u o w e' i d r=>rw[e] at e';cases e';exact⟨w,⟨o,ho.F2 _ _ i,d⟩,r⟩
  |mv f u o w e' i d r=>rw[e] at e';cases e';exact⟨w,⟨o,ho.Dk _ _ i,d⟩,r⟩
  |bare o e' i d=>rw[e] at e';cases e'
 cases hl:env.kindOf x with
 |none=>rw[hl] at hk;cases hk
 |some k=>
  rw[hl] at hk
  cases k <;> try(cases hk;done)
  ·cases he.ns with
   |mk o lm e1 ns vs=>
    obtain⟨w,h1,h2⟩:=vs x hx hl v e
    exact wpAny_loadName_local he.kind hl (ho.ns e1 ns) h1 (Bj w (.Dh ho h2 q))
  all_goals first
   |(obtain⟨a,h1,c⟩:=he.cell x hx (.inl hl);obtain⟨w,h2,h3⟩:=cell c;exact wpAny_loadName_cell he.kind hl h1 h2 (Bj w (.Dh ho h3 q)))
   |(obtain⟨a,h1,c⟩:=he.cell x hx (.inr hl);obtain⟨w,h2,h3⟩:=cell c;exact wpAny_loadName_free he.kind hl h1 h2 (Bj w (.Dh ho h3 q)) (dm hx))
def dT {x:Str}{pos:Pos}{w:Value}{Q:Value->Shared->Prop}(hW:W.Ok)(ho:Ok W g h s)(he:Fp g env me)(hk:env.kindOf x=some .globalImplicit)(hv:W.mg x=some w)(hd:(x==("__debug__":Str))=false)(q:Q w s):
  wpAny (model W.prog W.w) A (eval (.Name x pos) env) Q E s:=
 Name_function_global he.kind hk (loadGlobal_global (env:=env) (by rw[he.glob];exact hW.g.keeps λb o e=>ho.old e) hv q) hd
def dg {x:Str}{pos:Pos}{w:Value}{Q:Value->Shared->Prop}(hW:W.Ok)(ho:Ok W g h s)(he:Fp g env me)(hk:env.kindOf x=some .globalImplicit)(hm:W.mg x=none)(hv:bootBuiltins x=some w)
  (hn:x≠("__name__":Str))(hd:(x==("__debug__":Str))=false)(q:Q w s):
  wpAny (model W.prog W.w) A (eval (.Name x pos) env) Q E s:=
 Name_function_global he.kind hk (loadGlobal_builtin (env:=env) (by rw[he.glob];exact hW.g.keeps λb o e=>ho.old e) hm (by rw[he.bi];exact hW.b.keeps λb o e=>ho.old e) ((hW.bi x hn).trans hv) q) hd
end
abbrev A4:=Cc->AZ->M V
abbrev Ev:=Cc->AZ->M Bool
inductive QC (W:Bl)(g:A8)(Q:Bool->H->Prop)(b:Bool)(s':Shared):Prop
 |mk (g':A8) (le:HV g g') (h':H) (o:Ok W g' h' s') (q:Q b h')
def dX {W:Bl}{A:Around}{g:A8}{s:Shared}{t:Sem Bool}{Q:Bool->H->Prop}{R:Bool->Shared->Prop}(x:BR W A t (QC W g Q) s)(f:∀ w s' g',HV g g'->∀ h',Ok W g' h' s'->Q w h'->R w s'):BR W A t R s:=ai x λw s' z=>match z with |⟨g',a,h',b,d⟩=>f w s' g' a h' b d
def Bw (W:Bl)(cf:Cc)(n:Nat)(nm:DI)(m:A4)(x:PySem.Expr):Prop:=
 ∀ A env me g h s Q,DT W n nm A env me g h s->m cf me Q h->BR W A (eval x env) (IF W g Q) s
def Mu (W:Bl)(cf:Cc)(n:Nat)(nm:DI)(m:Ev)(x:PySem.Expr):Prop:=
 ∀ A env me g h s Q,DT W n nm A env me g h s->m cf me Q h->BR W A (isTrue x env (eval x env)) (QC W g Q) s
section
variable {W:Bl}{n:Nat}{nm:DI}{cf:Cc}
def Ag (v:V):A4:=λU U Q h=>Q v h
def Aa (x:Nat):A4:=λU me Q h=>AJ (me x) λv=>Q v h
def rh {k:Nat}{p:Pos}:Bw W cf n nm (Ag .none) (.Constant .none k p):=λA env me g h s Q a q=>wpAny_Constant_none (.Dh a.ok qi q)
def q8 {b:Bool}{k:Nat}{p:Pos}:Bw W cf n nm (Ag (.bool b)) (.Constant (.bool b) k p):=λA env me g h s Q a q=>wpAny_Constant_bool (.Dh a.ok (cJ b) q)
def nF {i:Int}{k:Nat}{p:Pos}:Bw W cf n nm (Ag (.int i)) (.Constant (.int i) k p):=λA env me g h s Q a q=>wpAny_Constant_int (.here a.ok (cB ..) q)
def uq {m:Str}{k:Nat}{p:Pos}(hm:good m=true):Bw W cf n nm (Ag (.str (AI m))) (.Constant (.str m) k p):=λA env me g h s Q a q=>Calls.Constant_str (.here a.ok (yu m _ hm) q)
def cS {x:Str}{p:Pos}(hx:good x=true)(hk:LE (nm.lookup x)=true):Bw W cf n nm (Aa (AI x)) (.Name x p):=λA env me g h s Q a q=>
 wpAny_Name (jX a.ok a.BL hx (by unfold Env.kindOf;rw[a.names];exact hk) q λU z=>z) (aZ hx)
end
def bw:lim<=sizeLine:=by decide
def eS:lim=1048576:=rfl
section
variable {W:Bl}{g g':A8}{h h':H}{s s':Shared}{A:Around}
theorem AE.length:∀ {vs:List V} {ws:List Value},AE g vs ws->ws.length=vs.length
 | [],_,.mk=>rfl
 |_::vs,_,.mk _ _ _ hr=>congrArg (· +1) (AE.length (vs:=vs) hr)
inductive VI (g:A8)(ws:List Value)(j:Nat)(v:V):Prop
 |mk (w:Value) (e:ws[j]? =some w) (r:AF g v w)
theorem AE.get:∀ {vs:List V} {ws:List Value},AE g vs ws->∀ {j:Nat} {v:V},vs[j]? =some v->VI g ws j v
 |_::_,_,.mk w _ h _,0,_,rfl=> .mk w rfl h
 |_::vs,_,.mk _ _ _ hr,j+1,v,hj=>match AE.get (vs:=vs) hr (j:=j) hj with | .mk w e r=> .mk w e r
theorem AE.append:∀ {xs ys:List V} {us ws:List Value},AE g xs us->AE g ys ws->AE g (xs++ys) (us++ws)
 | [],_,_,_,.mk,h'=>h'
 |_::xs,_,_,_,.mk w r h hr,h'=> .mk w _ h (AE.append (xs:=xs) hr h')
theorem AE.one {v:V}{w:Value}(h:AF g v w):AE g [v] [w]:= .mk w [] h .mk
theorem AE.drop:∀ {vs:List V} {ws:List Value} (n:Nat),AE g vs ws->AE g (vs.drop n) (ws.drop n)
 |_,_,0,h=>h
 | [],_,n+1,.mk=> .mk
 |_::vs,_,n+1,.mk _ _ _ hr=>AE.drop (vs:=vs) n hr
theorem AE.take:∀ {vs:List V} {ws:List Value} (n:Nat),AE g vs ws->AE g (vs.take n) (ws.take n)
 |_,_,0,_=> .mk
 | [],_,n+1,.mk=> .mk
 |_::vs,_,n+1,.mk w _ h hr=> .mk w _ h (AE.take (vs:=vs) n hr)
theorem AE.set:∀ {vs:List V} {ws:List Value} {v:V} {w:Value} (j:Nat),AE g vs ws->AF g v w->AE g (vs.set j v) (ws.set j w)
 | [],_,_,_,j,.mk,_=> .mk
 |_::_,_,_,w,0,.mk _ _ _ hr,hv=> .mk w _ hv hr
 |_::vs,_,_,_,j+1,.mk w _ h hr,hv=> .mk w _ h (AE.set (vs:=vs) j hr hv)
def Gu (l:List V):Option (List Int):= @List.rec V (λU=>Option (List Int)) (some []) (λv U r=>AT v.int? λi=>AT r λl=>some (i::l)) l
theorem V.R4 {v:V}{i:Int}(e:v.int? =some i):v= .int i:=by cases v <;> first|(cases e;rfl)|cases e
theorem V.Il {v:V}{i:Nat}(e:v.ref? =some i):v= .ref i:=by cases v <;> first|(cases e;rfl)|cases e
theorem V.Sg {v:V}{i:List V}(e:v.ST=some i):v= .tup i:=by cases v <;> first|(cases e;rfl)|cases e
theorem O.UW {o:O}{i:List V}(e:o.UV=some i):o= .lst i:=by cases o <;> first|(cases e;rfl)|cases e
theorem O.UL {o:O}{i:Nat×List (Int×V)}(e:o.Sz=some i):o= .BM i.1 i.2:=by cases o <;> first|(cases e;rfl)|cases e
theorem O.UN {o:O}{i:My}(e:o.UM=some i):o= .ins i.C i.d i.f:=by cases o <;> first|(cases e;rfl)|cases e
def eN:∀ {l:List V} {is:List Int},Gu l=some is->l=is.map .int
 | [],_,rfl=>rfl
 |v::l,is,e=>by
  obtain⟨i,e1,e⟩:=aG (show AT v.int? _=_ from e)
  refine aI e λr e2 e=> ?_
  cases e
  rw[V.R4 e1,eN e2];rfl
theorem AE.ints:∀ {is:List Int} {ws:List Value},AE g (is.map .int) ws->IntsAre ws is
 | [],_,.mk=> .nil
 |i::is,_,.mk _ _ (.mk t) hr=> .cons i t (AE.ints (is:=is) hr)
theorem AE.ofInts:∀ {ws:List Value} {is:List Int},IntsAre ws is->AE g (is.map .int) ws
 |_,_,.nil=> .mk
 |_,_,.cons n t h=> .mk _ _ (.mk t) (AE.ofInts h)
def bT {vals:Array Value}{j:Nat}{w:Value}(h:vals.toList[j]? =some w):vals[j]? =some w:=by simpa using h
inductive Wl (k:Int->Prop):Value->Prop
 |mk (i:Int) (t:Tok) (q:k i):Wl k (.int i t)
inductive Wm (k:Nat->Prop):Value->Prop
 |mk (i:Nat) (q:k i):Wm k (.ref i)
inductive Wn (k:Nat->Prop):Value->Prop
 |mk (s:Str) (t:Tok) (h:good s=true) (q:k (AI s)):Wn k (.str s t)
def lY {k:Int->Prop}{v:V}{w:Value}(q:AJ v.int? k)(r:AF g v w):Wl k w:=by
 cases v with
 |int i=>cases r with |mk t=>exact .mk i t q
 |_=>exact q.elim
@[elab_as_elim] theorem FJ {g:A8}{k:Int->Prop}{v:V}{P:Value->Prop}{w:Value}(r:AF g v w)(q:AJ v.int? k)(f:∀ i t,k i->P (.int i t)):P w:=match w,lY q r with |_,.mk i t q=>f i t q
def lZ {k:Nat->Prop}{v:V}{w:Value}(q:AJ v.ref? k)(r:AF g v w):Wm k w:=by
 cases v with
 |ref i=>cases r with |mk=>exact .mk i q
 |_=>exact q.elim
@[elab_as_elim] theorem Fb {g:A8}{k:Nat->Prop}{v:V}{P:Value->Prop}{w:Value}(r:AF g v w)(q:AJ v.ref? k)(f:∀ i,k i->P (.ref i)):P w:=match w,lZ q r with |_,.mk i q=>f i q
def wb {k:Nat->Prop}{v:V}{w:Value}(q:AJ v.SL k)(r:AF g v w):Wn k w:=by
 cases v with
 |str i=>cases r with |mk s t h e=>cases e;exact .mk s t h q
 |_=>exact q.elim
noncomputable def getL (h:H)(a:Nat):Option (List V):=AT (h a) O.UV
noncomputable def getD (h:H)(a:Nat):Option (Nat->Option V):=AT (h a) O.Xb
def CK (h:H)(a:Nat):Option (Nat×List (Int×V)):=AT (h a) O.Sz
def Ec (h:H)(a:Nat):Option My:=AT (h a) O.UM
def aM {a:Nat}{xs:List V}(e:getL h a=some xs):h a=some (.lst xs):=by obtain⟨o,e1,e2⟩:=aG e;rw[e1,O.UW e2]
def aQ {a:Nat}{p:Nat×List (Int×V)}(e:CK h a=some p):h a=some (.BM p.1 p.2):=by obtain⟨o,e1,e2⟩:=aG e;rw[e1,O.UL e2]
def ie {a:Nat}{i:My}(e:Ec h a=some i):h a=some (.ins i.C i.d i.f):=by obtain⟨o,e1,e2⟩:=aG e;rw[e1,O.UN e2]
inductive Ln (g:A8)(hp:Heap)(a:Addr)(xs:List V):Prop
 |mk (vals:Array Value) (n:Nat) (e:hp.get? a=some (listOf vals n)) (r:AE g xs vals.toList) (l:vals.size=xs.length) (z:vals.size<=lim)
theorem Ok.list (ho:Ok W g h s){a:Nat}{xs:List V}(e:h a=some (.lst xs)):Ln g s.heap a xs:=by
 have r:=ho.obj a _ e
 cases r with
 |lst _ vals n e r l=>
  have hl:vals.size=xs.length:=by have :=r.length;simpa using this
  exact .mk vals n e r hl (by omega)
theorem Ln.is {hp:Heap}{a:Addr}{vals:Array Value}{n:Nat}(e:hp.get? a=some (listOf vals n)):hp.IsList a vals:=⟨_,e,rfl,n,rfl⟩
theorem Ok.newL (ho:Ok W g h s){hp:Heap}{tk:Nat}{a:Addr}{xs:List V}{vals:Array Value}{n:Nat}{Q:V->H->Prop}(k:∀ b o,s.heap.get? b=some o->hp.get? b=some o)(ha:s.heap.get? a=none)(e:hp.get? a=some (listOf vals n))
  (r:AE g xs vals.toList)(l:xs.length<=lim)(q:∀ a,h a=none->Q (.ref a) (Ad h a (some (.lst xs)))):IF W g Q (.ref a) { s with heap:=hp,toks:=tk }:=
 ⟨g,.refl g,_,ho.new k ha (.lst xs vals n e r l),_,iM a,q a (ho.fresh ha).1⟩
theorem Ok.Vd (ho:Ok W g h s){hp:Heap}{tk:Nat}{a:Addr}{xs ys:List V}{vals:Array Value}{n:Nat}(ha:h a=some (.lst ys))(hs:Heap.SameBut a s.heap hp)(e:hp.get? a=some (listOf vals n))(r:AE g xs vals.toList)(l:xs.length<=lim):
  Ok W g (Ad h a (some (.lst xs))) { s with heap:=hp,toks:=tk }:=ho.put ha (.inl rfl) hs (.lst xs vals n e r l) (λx e=>nomatch e) ⟨_,e⟩
theorem Ok.U1 (ho:Ok W g h s){hp:Heap}{tk:Nat}{a:Addr}{xs:List V}{vals:Array Value}{n:Nat}{Q:V->H->Prop}(k:∀ b o,s.heap.get? b=some o->hp.get? b=some o)(ha:s.heap.get? a=none)(e:hp.get? a=some { cls:= .type "tuple",data:= .seq vals n })
  (r:AE g xs vals.toList)(q:Q (.tup xs) h):IF W g Q (.ref a) { s with heap:=hp,toks:=tk }:=
 ⟨_,ho.Kr ha _,h,ho.laid k ha e,.tup xs,.mk a vals n (aa ..) (AE.mono (ho.Kr ha _).im xs r),q⟩
end
def Aw (f:Int->Int->(V->Prop)->Prop)(x y:V):M V:=λQ h=>AJ x.int? λi=>AJ y.int? λj=>f i j λv=>Q v h
def Rf (x y:V):M V:=λQ h=>AJ x.ref? λa=>AJ y.ref? λb=>AJ (getL h a) λxs=>AJ (getL h b) λys=>xs.length+ys.length<=lim/\∀ c,h c=none->Q (.ref c) (Ad h c (some (.lst (xs++ys))))
def Ir (i j:Int)(Q:V->Prop):Prop:=Q (.int (i+j))
def Vh (i j:Int)(Q:V->Prop):Prop:=Q (.int (i - j))
def SD (i j:Int)(Q:V->Prop):Prop:=(i.natAbs < 2 ^ 64\/j.natAbs < 2 ^ 64)/\Q (.int (i*j))
def Us (i j:Int)(Q:V->Prop):Prop:=(j≠0/\j.natAbs < 1073741824)/\Q (.int (Int.fdiv i j))
def UY (i j:Int)(Q:V->Prop):Prop:=j≠0/\Q (.int (Int.fmod i j))
def Va (i j:Int)(Q:V->Prop):Prop:=(i=2/\0<=j/\j<=60)/\Q (.int (i ^ j.toNat))
def BA (x y:V):M V:=match x with | .ref _=>Rf x y|_=>Aw Ir x y
abbrev Cv:V->V->M V:=Aw Vh
abbrev CM:V->V->M V:=Aw SD
abbrev CT:V->V->M V:=Aw Us
abbrev BS:V->V->M V:=Aw UY
abbrev OX:V->V->M V:=Aw Va
section
variable {W:Bl}{g g':A8}{h h':H}{s s':Shared}{A:Around}{k:Nat}
def Ds (W:Bl)(f:V->V->M V)(t:Value->Value->Sem Value):Prop:=∀ {k A g h s Q x y w u},Ft k A->Ok W g h s->AF g x w->AF g y u->f x y Q h->BR W A (t w u) (IF W g Q) s
def bg {f:Int->Int->(V->Prop)->Prop}{t:Value->Value->Sem Value}(hf:∀ {k A g h s i j a b} {Q:V->H->Prop},Ft k A->Ok W g h s->f i j (λv=>Q v h)->BR W A (t (.int i a) (.int j b)) (IF W g Q) s):Ds W (Aw f) t:=
 λhA ho hx hy q=>match lY q hx with | .mk i a q=>match lY q hy with | .mk j b q=>hf hA ho q
def sA:Ds W (Aw Ir) (binaryOp .Add):=bg λU ho q=>P.add_int (.here ho (cB ..) q)
def uR:Ds W Cv (binaryOp .Sub):=bg λU ho q=>P.sub_int (.here ho (cB ..) q)
def tJ:Ds W CM (binaryOp .Mult):=bg λU ho q=>P.mul_int (.here ho (cB ..) q.2) (q.1.elim (λe=> .of_left (intBits_le_64 (by omega) (by omega))) λe=> .of_right (intBits_le_64 (by omega) (by omega)))
def sY:Ds W CT (binaryOp .FloorDiv):=bg λU ho q=>PyProof.Rows.floordiv_int q.1.1 (.here ho (cB ..) q.2) (.inl (PyProof.noPylong_small q.1.2))
def tH:Ds W BS (binaryOp .Mod):=bg λU ho q=>PyProof.Rows.mod_int' q.1 (.here ho (cB ..) q.2)
def tS:Ds W OX (binaryOp .Pow):=bg λU ho q=>PyProof.Rows.pow_int_small q.1.2.1 (by have :=q.1.2.2;omega) (by rw[q.1.1];decide) (.here ho (cB ..) q.2)
def qF:Ds W (Aw Ir) (inplaceOp .Add):=bg λU ho q=>P.iadd_int (.here ho (cB ..) q)
def qK:Ds W Cv (inplaceOp .Sub):=bg λU ho q=>P.isub_int (.here ho (cB ..) q)
def sN:Ds W Rf (binaryOp .Add):=λ {k A g h s Q x y w u} hA ho hx hy q=>by
 refine Fb hx q λa q=> ?_
 refine Fb hy q λb q=> ?_
 refine ao q λxs e1 q=> ?_
 refine ao q λys e2 q=> ?_
 obtain⟨vals,n,e,r,l,z⟩:=ho.list (aM e1)
 obtain⟨vals',n',e',r',l',z'⟩:=ho.list (aM e2)
 refine concat_meets ⟨_,e,rfl⟩ ⟨_,e',rfl⟩ noFill_list_add seq_list_add PySem.F.slot_list_add PySem.F.entry_list_add (PySem.F.args_list_add_2 _ _)
  (list_addW a b vals vals' n n' none none #[] #[] (by have :=bw;omega)) ⟨e,e',?_⟩
 exact ho.newL (n:=0) (λb o e=>Heap.get?_push_of_some _ e) (al _) (Heap.get?_push_size _ rfl) (by rw[Array.toList_append];exact r.append r') (by rw[List.length_append];exact q.1) q.2
def qm:Ds W BA (binaryOp .Add):=λ {k A g h s Q x y w u} hA ho hx hy q=>by
 cases x with
 |ref a=>exact sN hA ho hx hy q
 |_=>exact sA hA ho hx hy q
def Eu (v:V)(h:H):Option Bool:=match v with
 | .none=>some false
 | .bool b=>some b
 | .int i=>some (i !=0)
 | .ref a=>AT (getL h a) λxs=>some (!xs.isEmpty)
 | .tup xs=>cond (Nat.ble xs.length lim) (some (!xs.isEmpty)) Option.none
 | .DM xs=>some (!xs.isEmpty)
 |_=>Option.none
def hO {α β:Type}{a:Array α}{l:List β}(h:a.size=l.length):(!a.isEmpty)=(!l.isEmpty):=by
 rw[Bool.eq_iff_iff];simp only[Bool.not_eq_true',Array.isEmpty_eq_false_iff,List.isEmpty_eq_false_iff,ne_eq]
 rw[<-Array.size_eq_zero_iff,h,List.length_eq_zero_iff]
theorem QC.here {Q:Bool->H->Prop}{b:Bool}(ho:Ok W g h s)(q:Q b h){t:Nat}:QC W g Q b { s with toks:=t }:=⟨g,.refl g,h,ho.toks,q⟩
theorem QC.after {Q:Bool->H->Prop}{b:Bool}(le:HV g g')(z:QC W g' Q b s'):QC W g Q b s':=match z with | .mk g2 l h' o q=> .mk g2 (le.trans l) h' o q
def cb {v:V}{w:Value}{Q:Bool->H->Prop}(ho:Ok W g h s)(hv:AF g v w)(q:AJ (Eu v h) λb=>Q b h):BR W A (truthy w) (QC W g Q) s:=by
 have e:=eS
 cases v with
 |none=>cases hv;exact truthy_none (.here ho q (t:=s.toks))
 |bool b=>cases hv;exact wpAny_truthy_bool (.here ho q (t:=s.toks))
 |int i=>cases hv;exact PyProof.Rows.truthy_int (.here ho q (t:=s.toks))
 |ref a=>
  cases hv
  cases bh q with
  |mk b e1 q=>
   refine aI e1 λxs e2 e3=> ?_
   cases e3
   cases ho.list (aM e2) with
   |mk vals n e r l z=>exact wpAny_truthy_list (l:=a) (items:=vals) (Ln.is e) (by omega) (by rw[hO l];exact .here ho q)
 |tup xs=>
  cases hv with
  |mk a vals n e r=>
   cases bh q with
   |mk b e1 q=>
    have hl:vals.size=xs.length:=by have :=AE.length (vs:=xs) r;simpa using this
    have e1:cond (Nat.ble xs.length lim) (some (!xs.isEmpty)) none=some b:=e1
    cases hb:Nat.ble xs.length lim with
    |false=>rw[hb] at e1;cases e1
    |true=>
     rw[hb] at e1
     cases e1
     have :=Nat.le_of_ble_eq_true hb
     exact truthy_tuple (items:=vals) ⟨_,ho.F2 _ _ e,rfl,n,rfl⟩ (by omega) (by rw[hO hl];exact .here ho q)
 |DM xs=>
  cases hv with
  |mk a vals n e r l=>
   have hl:vals.size=xs.length:=by have :=(AE.ofInts (g:=g) r).length;simpa using this
   exact wpAny_truthy_list (l:=a) (items:=vals) ⟨_,ho.F2 _ _ e,rfl,n,rfl⟩ (by omega) (by rw[hO hl];exact .here ho q)
 |_=>exact q.elim
def DZ (i j:Int)(Q:V->Prop):Prop:=Q (.bool (decide (i < j)))
def Ou (i j:Int)(Q:V->Prop):Prop:=Q (.bool (decide (i<=j)))
def Gg (i j:Int)(Q:V->Prop):Prop:=Q (.bool (decide (j < i)))
def MV (i j:Int)(Q:V->Prop):Prop:=Q (.bool (decide (j<=i)))
def vr:Ds W (Aw DZ) (compareOp .Lt):=bg λU ho q=>P.lt_int (.Dh ho (cJ _) q)
def vq:Ds W (Aw Ou) (compareOp .LtE):=bg λU ho q=>P.le_int (.Dh ho (cJ _) q)
def vg:Ds W (Aw Gg) (compareOp .Gt):=bg λU ho q=>P.gt_int (.Dh ho (cJ _) q)
def vf:Ds W (Aw MV) (compareOp .GtE):=bg λU ho q=>P.ge_int (.Dh ho (cJ _) q)
def kJ {v:V}{w:Value}(r:AF g v w):(w==Value.none)=v.isNone:=by
 cases v <;> cases r <;> rfl
def F3 (x y:V):M V:=λQ h=>y.isNone=true/\Q (.bool x.isNone) h
def HO (x y:V):M V:=λQ h=>y.isNone=true/\Q (.bool !x.isNone) h
def eO {y:V}{u:Value}(e:y.isNone=true)(r:AF g y u):u= .none:=by
 cases y <;> first|(cases r;rfl)|cases e
def vo:Ds W F3 (compareOp .Is):=λ {k A g h s Q x y w u} hA ho hx hy q=>by
 cases eO q.1 hy
 refine is_none ?_
 rw[kJ hx];exact .Dh ho (cJ _) q.2
def tu:Ds W HO (compareOp .IsNot):=λ {k A g h s Q x y w u} hA ho hx hy q=>by
 cases eO q.1 hy
 refine isNot_none ?_
 rw[kJ hx];exact .Dh ho (cJ _) q.2
end
inductive Fo:Nat->V->Prop
 |int (k:Nat) (i:Int):Fo k (.int i)
 |tup (k:Nat) (vs:List V) (h:∀ v∈vs,Fo k v):Fo (k+1) (.tup vs)
def FF (v:V):PyData:= @V.rec (λU=>PyData) (λU=>List PyData) .none (λU=> .none) .int (λU=> .none) (λU ds=> .tuple ds) (λU=> .none) (λU=> .none) (λU U=> .none) .none [] (λU U d ds=>d::ds) v
def Du (v:List V):List PyData:= @V.rec_1 (λU=>PyData) (λU=>List PyData) .none (λU=> .none) .int (λU=> .none) (λU ds=> .tuple ds) (λU=> .none) (λU=> .none) (λU U=> .none) .none [] (λU U d ds=>d::ds) v
def sU {d:PyData}{ds:List PyData}:PyData.eqvAll [] (d::ds)=false:=by unfold PyData.eqvAll;rfl
def sS {d:PyData}{ds:List PyData}:PyData.eqvAll (d::ds) []=false:=by unfold PyData.eqvAll;rfl
def sW:PyData.eqvAll [] []=true:=by unfold PyData.eqvAll;rfl
def sT {i:Int}{ds:List PyData}:PyData.eqv (.int i) (.tuple ds)=false:=by unfold PyData.eqv;rfl
def sX {i:Int}{ds:List PyData}:PyData.eqv (.tuple ds) (.int i)=false:=by unfold PyData.eqv;rfl
def fM {b:Bool}{p:Prop}(e:b=false)(n: ¬ p):b=true ↔ p:=⟨λh=>(nomatch e.symm.trans h),λh=>absurd h n⟩
def eG {P:V->Prop}:∀ xs:List V,(∀ x∈xs,∀ y,P y->(PyData.eqv (FF x) (FF y)=true ↔ x=y))->∀ ys:List V,(∀ y∈ys,P y)->(PyData.eqvAll (Du xs) (Du ys)=true ↔ xs=ys)
 | [],_,[],_=>⟨λU=>rfl,λU=>sW⟩
 | [],_,y::ys,_=>fM sU λh=>(nomatch h)
 |x::xs,_,[],_=>fM sS λh=>(nomatch h)
 |x::xs,hx,y::ys,hy=>by
  rw[show Du (x::xs)=FF x::Du xs from rfl,show Du (y::ys)=FF y::Du ys from rfl,PyData.eqvAll,Bool.and_eq_true,hx x (.head _) y (hy y (.head _)),
   eG xs (λz hz=>hx z (.tail _ hz)) ys λz hz=>hy z (.tail _ hz),List.cons.injEq]
def n9 {k:Nat}{x:V}(hx:Fo k x):∀ y,Fo k y->(PyData.eqv (FF x) (FF y)=true ↔ x=y):=by
 induction hx with
 |int k i=>
  intro y hy
  cases hy with
  |int _ j=>
   rw[show FF (.int i)= .int i from rfl,show FF (.int j)= .int j from rfl,PyData.eqv,beq_iff_eq]
   exact⟨λh=>h▸rfl,λh=>(by cases h;rfl)⟩
  |tup k vs h=>exact fM sT λh=>(nomatch h)
 |tup k vs h ih=>
  intro y hy
  cases hy with
  |int _ j=>exact fM sX λh=>(nomatch h)
  |tup _ us h'=>
   rw[show FF (.tup vs)= .tuple (Du vs) from rfl,show FF (.tup us)= .tuple (Du us) from rfl,PyData.eqv,eG vs ih us h']
   exact⟨λh=>h▸rfl,λh=>(by cases h;rfl)⟩
section
variable {W:Bl}{g g':A8}{h h':H}{s s':Shared}{A:Around}{k:Nat}
inductive VH (hp:Heap)(ds:List PyData)(k:Nat)(ws:List Value):Prop
 |mk (as:List Addr) (r:ReadsAll hp ws ds as) (l:PyData.canLayAll0 ds=true) (d:PyData.depthAll ds<=k)
inductive T8 (hp:Heap)(d:PyData)(k:Nat)(w:Value):Prop
 |mk (as:List Addr) (r:Reads hp w d as) (l:d.canLay0=true) (z:d.depth<=k)
def fj {hp:Heap}{k:Nat}:∀ (vs:List V),(∀ v∈vs,∀ w,AF g v w->T8 hp (FF v) k w)->∀ ws,AE g vs ws->VH hp (Du vs) k ws
 | [],_,_,.mk=> .mk [] .nil (by show PyData.canLayAll0 []=true;unfold PyData.canLayAll0;rfl) (by show PyData.depthAll []<=k;unfold PyData.depthAll;exact Nat.zero_le _)
 |v::vs,f,_,.mk w r hv hr=>match f v (.head _) w hv,fj vs (λu hu=>f u (.tail _ hu)) r hr with
  | .mk as a1 a2 a3,.mk bs b1 b2 b3=> .mk (as++bs) (.cons a1 b1) (by show PyData.canLayAll0 (FF v::Du vs)=true;rw[PyData.canLayAll0,a2,b2];rfl) (by show PyData.depthAll (FF v::Du vs)<=k;rw[PyData.depthAll];omega)
def j8 (ho:Ok W g h s){k:Nat}{v:V}(hp:Fo k v):∀ w,AF g v w->T8 s.heap (FF v) k w:=by
 induction hp with
 |int k i=>intro w r;cases r with |mk t=>exact .mk [] (.int i t) (by show PyData.canLay0 (.int i)=true;rw[PyData.canLay0]) (by show PyData.depth (.int i)<=k;rw[PyData.depth];exact Nat.zero_le _)
 |tup k vs hv ih=>intro w r;cases r with |mk a vals n e r=>cases fj vs ih _ r with |mk as r l d=>exact .mk _ (.tuple (ho.F2 _ _ e) rfl rfl r) (by show PyData.canLay0 (.tuple (Du vs))=true;rw[PyData.canLay0];exact l) (by show PyData.depth (.tuple (Du vs))<=k+1;rw[PyData.depth];omega)
inductive T9 (hp:Heap)(xs:List V)(a:Addr):Prop
 |mk (as:List Addr) (r:Reads hp (.ref a) (.list (Du xs)) as) (z:SeqAt.shaped (.list (Du xs))=true)
def gR (ho:Ok W g h s){a:Nat}{xs:List V}(e:h a=some (.lst xs))(hp:∀ x∈xs,Fo 3 x):T9 s.heap xs a:=by
 cases ho.list e with
 |mk vals n e r l z=>
  cases fj xs (λv hv=>j8 ho (hp v hv)) _ r with
  |mk as a1 a2 a3=>
   refine .mk _ (.list e rfl rfl a1) ?_
   unfold SeqAt.shaped
   rw[Bool.and_eq_true]
   exact⟨by rw[PyData.canLay0];exact a2,decide_eq_true (by rw[PyData.depth];omega)⟩
def mG {xs ys:List V}(hx:∀ x∈xs,Fo 3 x)(hy:∀ y∈ys,Fo 3 y):PyData.eqv (.list (Du xs)) (.list (Du ys))= @decide (xs=ys) (Classical.propDecidable _):=by
 rw[Bool.eq_iff_iff,PyData.eqv]
 exact(eG xs (λx hx'=>n9 (hx x hx')) ys hy).trans (@decide_eq_true_iff _ (Classical.propDecidable _)).symm
def UU (h:H)(a b:Nat)(Q:Bool->Prop):Prop:=AJ (getL h a) λxs=>AJ (getL h b) λys=>(∀ x∈xs,Fo 3 x)/\(∀ y∈ys,Fo 3 y)/\Q (@decide (xs=ys) (Classical.propDecidable _))
def TR (x y:V)(h:H)(Q:Bool->Prop):Prop:=match x with
 | .none=>match y with | .none=>Q true| .int _=>Q false|_=>False
 | .int i=>match y with | .none=>Q false| .int j=>Q (decide (i=j))|_=>False
 | .str n=>match y with | .str m=>Q (Nat.beq n m)|_=>False
 | .ref a=>match y with | .ref b=>UU h a b Q|_=>False
 |_=>False
def Cw (x y:V):M V:=λQ h=>TR x y h λb=>Q (.bool b) h
def Jh (x y:V):M V:=λQ h=>TR x y h λb=>Q (.bool !b) h
inductive NO (hp:Heap)(P:Bool->Prop):Value->Value->Prop
 |nn (q:P true):NO hp P .none .none
 |ni (j:Int) (t:Tok) (q:P false):NO hp P .none (.int j t)
 |im (i:Int) (t:Tok) (q:P false):NO hp P (.int i t) .none
 |ii (i:Int) (t:Tok) (j:Int) (u:Tok) (q:P (decide (i=j))):NO hp P (.int i t) (.int j u)
 |ss (a:Str) (t:Tok) (b:Str) (u:Tok) (q:P (a==b)):NO hp P (.str a t) (.str b u)
 |ll (a b:Nat) (xs ys:List V) (r1:T9 hp xs a) (r2:T9 hp ys b) (q:P (PyData.eqv (.list (Du xs)) (.list (Du ys)))):NO hp P (.ref a) (.ref b)
def mF {x y:V}{w u:Value}{P:Bool->Prop}(ho:Ok W g h s)(hx:AF g x w)(hy:AF g y u)(q:TR x y h P):NO s.heap P w u:=by
 cases x with
 |none=>cases hx;cases y with
  |none=>cases hy;exact .nn q
  |int j=>cases hy with |mk t=>exact .ni j t q
  |_=>exact q.elim
 |int i=>cases hx with |mk t=>cases y with
  |none=>cases hy;exact .im i t q
  |int j=>cases hy with |mk t'=>exact .ii i t j t' q
  |_=>exact q.elim
 |str n=>cases hx with |mk a t ha e=>cases y with
  |str m=>cases hy with |mk b t' hb e'=>subst e e';exact .ss a t b t' (by rw[<-jc ha hb];exact q)
  |_=>exact q.elim
 |ref a=>cases hx;cases y with
  |ref b=>
   cases hy
   refine ao q λxs e1 q=> ?_
   refine ao q λys e2 q=> ?_
   exact .ll a b xs ys (gR ho (aM e1) q.1) (gR ho (aM e2) q.2.1) (by rw[mG q.1 q.2.1];exact q.2.2)
  |_=>exact q.elim
 |_=>exact q.elim
def vc:Ds W Cw (compareOp .Eq):=λ {k A g h s Q x y w u} hA ho hx hy q=>by
 cases mF ho hx hy q with
 |nn q=>exact EqNone.eq_none_none (.Dh ho (cJ _) q)
 |ni j t q=>exact EqNone.eq_none_int (.Dh ho (cJ _) q)
 |im i t q=>exact EqNone.eq_int_none (.Dh ho (cJ _) q)
 |ii i t j u q=>exact P.eq_int (.Dh ho (cJ _) q)
 |ss a t b u q=>exact PyProof.Rows.eq_str (.Dh ho (cJ _) q)
 |ll a b xs ys r1 r2 q=>cases r1 with |mk as r1 s1=>cases r2 with |mk bs r2 s2=>exact eq_dataH r1 r2 s1 s2 hA.shape (.Dh ho (cJ _) q)
def vt:Ds W Jh (compareOp .NotEq):=λ {k A g h s Q x y w u} hA ho hx hy q=>by
 cases mF ho hx hy q with
 |nn q=>exact EqNone.ne_none_none (.Dh ho (cJ _) q)
 |ni j t q=>exact EqNone.ne_none_int (.Dh ho (cJ _) q)
 |im i t q=>exact EqNone.ne_int_none (.Dh ho (cJ _) q)
 |ii i t j u q=>exact P.ne_int (.Dh ho (cJ _) q)
 |ss a t b u q=>exact PyProof.Rows.ne_str (.Dh ho (cJ _) q)
 |ll a b xs ys r1 r2 q=>cases r1 with |mk as r1 s1=>cases r2 with |mk bs r2 s2=>exact ne_dataH r1 r2 s1 s2 hA.shape (.Dh ho (cJ _) q)
end
def Jt (i:Int)(n:Nat):Option Nat:=if 0<=i then some i.toNat else if 0<=i+n then some (i+n).toNat else Option.none
inductive OI (i:Int)(n:Nat)(j:Nat):Prop
 |up (h:0<=i) (e:j=i.toNat):OI i n j
 |dn (h:i < 0) (h2: -(n:Int)<=i) (e:j=(i+n).toNat):OI i n j
def oT {i:Int}{n j:Nat}(h:Jt i n=some j):OI i n j:=by
 unfold Jt at h
 by_cases q:0<=i
 ·rw[if_pos q] at h;cases h;exact .up q rfl
 ·rw[if_neg q] at h
  by_cases q2:0<=i+n
  ·rw[if_pos q2] at h;cases h;exact .dn (by omega) (by omega) rfl
  ·rw[if_neg q2] at h;cases h
def gE {i:Int}{n:Nat}(h:0<=i):Jt i n=some i.toNat:=if_pos h
def Au (x i:V):M V:=λQ h=>match x with
 | .ref a=>AJ (h a) λo=>match o with
  | .lst xs=>AJ i.int? λk=>AJ (Jt k xs.length) λj=>AJ xs[j]? λv=>Q v h
  | .dct f=>AJ i.SL λn=>AJ (f n) λv=>Q v h
  |_=>False
 | .tup vs=>AJ i.int? λk=>(0<=k/\k < 8)/\AJ vs[k.toNat]? λv=>Q v h
 | .DM xs=>AJ i.int? λk=>AJ (Jt k xs.length) λj=>AJ xs[j]? λv=>Q (.int v) h
 |_=>False
def OK (e:PySem.Expr):Prop:=∀ o i:Value,subscripted e false o i=operate [o,i] (getItem o i)
def uG {i:Int}{n:Nat}(h0:0<=i)(hj:i.toNat < n):seqIndex? i n=some i.toNat:=by
 unfold seqIndex?
 have e:(if i < 0 then i+(n:Int) else i)=i:=if_neg (by omega)
 simp only[e]
 rw[if_pos (by simp;omega)]
section
variable {W:Bl}{g g':A8}{h h':H}{s s':Shared}{A:Around}{k:Nat}
def eK {a:Addr}{items:Array Value}{i:Int}{t:Tok}{j:Nat}{w:Value}{Q:Value->Shared->Prop}(hl:s.heap.IsList a items)(hp:Jt i items.size=some j)(EI:items[j]? =some w)(hsz:items.size<=lim)
  (q:Q w s):BR W A (getItem (.ref a) (.int i t)) Q s:=by
 have hj:j < items.size:=(Array.getElem?_eq_some_iff.mp EI).1
 have :=eS
 cases oT hp with
 |up h0 e=>subst e;exact wpAny_getItem_list hl h0 (by omega) EI q
 |dn h0 h1 e=>subst e;exact wpAny_getItem_list_neg hl h0 h1 (by omega) EI q
def oZ {x i:V}{a b:Value}{ve se:PySem.Expr}{Q:V->H->Prop}(ho:Ok W g h s)(hx:AF g x a)(hi:AF g i b)(q:Au x i Q h)(hs:OK se):BR W A (subscriptTail ve se a b) (IF W g Q) s:=by
 cases x with
 |ref l=>
  cases hx
  refine ao q λo e q=> ?_
  cases o with
  |lst xs=>
   refine FJ hi q λk t q=> ?_
   refine ao q λj e1 q=> ?_
   refine ao q λv e2 q=> ?_
   obtain⟨vals,n,e,r,sz,z⟩:=ho.list e
   obtain⟨w,e3,rv⟩:=r.get e2
   exact tail_any (Ln.is e).typeIs slot_list_getitem.lookup (eK (Ln.is e) (by rw[sz];exact e1) (bT e3) z (.Dh ho rv q)) (hs _ _)
  |dct f=>
   obtain⟨n,t,hn,q⟩:=wb q hi
   refine ao q λv e1 q=> ?_
   have r:=ho.obj _ _ e
   cases r with |dct _ kvs ek r
   have r:=r.is n hn
   rw[e1] at r
   generalize hv:valueAt kvs n=u at r
   cases r with |some _ w r
   exact tail_any ek.typeIs slot_dict_getitem.lookup (wpAny_getItem_of (knd:=W.sk) (strKind_is W.prog W.w n t) ek.mapOf hv (.here ho r q)) (hs _ _)
  |_=>exact q.elim
 |tup vs=>
  obtain⟨ta,vals,n,e,r⟩:=hx
  refine FJ hi q λk t q=> ?_
  obtain⟨v,e2,q2⟩:=bh q.2
  obtain⟨w,e3,rv⟩:=AE.get (vs:=vs) r e2
  have IL:IsTup s.heap ta vals:=⟨_,ho.F2 _ _ e,rfl,n,rfl⟩
  have hj:k.toNat < vals.size:=(Array.getElem?_eq_some_iff.mp (bT e3)).1
  exact tail_any IL.typeIs slot_tuple_getitem.lookup (PyProof.Rows.getItem_tuple IL (by have :=q.1.1;omega) (by have :=q.1.2;omega) (uG q.1.1 hj) (bT e3) (.Dh ho rv q2)) (hs _ _)
 |DM xs=>
  obtain⟨ta,vals,n,e,r,l⟩:=hx
  refine FJ hi q λk t q=> ?_
  refine ao q λj e1 q=> ?_
  refine ao q λv e2 q=> ?_
  have Jj:=AE.ofInts (g:=g) r
  have sz:vals.size=xs.length:=by have :=Jj.length;simpa using this
  obtain⟨w,e3,rv⟩:=Jj.get (j:=j) (v:= .int v) (by rw[List.getElem?_map,e2];rfl)
  have IL:s.heap.IsList ta vals:=⟨_,ho.F2 _ _ e,rfl,n,rfl⟩
  exact tail_any IL.typeIs slot_list_getitem.lookup (eK IL (by rw[sz];exact e1) (bT e3) (by rw[sz];exact l) (.Dh ho rv q)) (hs _ _)
 |_=>exact q.elim
def GH {α:Type}(vs:List α)(lo:Int)(hi:Option Int):List α:=match hi with
 |some j=>(vs.take j.toNat).drop lo.toNat
 |none=>vs.drop lo.toNat
def Rz (x:V)(h:H):Option (List V):=match x with
 | .ref a=>getL h a
 | .DM xs=>some (xs.map .int)
 |_=>Option.none
inductive Of (g:A8)(hp:Heap)(xs:List V):Value->Prop
 |mk (a:Addr) (vals:Array Value) (L:hp.IsList a vals) (r:AE g xs vals.toList) (l:vals.size=xs.length) (z:vals.size<=lim):Of g hp xs (.ref a)
def fu {x:V}{w:Value}{xs:List V}(ho:Ok W g h s)(hx:AF g x w)(e:Rz x h=some xs):Of g s.heap xs w:=by
 cases x with
 |ref a=>cases hx;cases ho.list (aM e) with |mk vals n e r l z=>exact .mk a vals (Ln.is e) r l z
 |DM is=>cases hx with |mk a vals n ea r l=>cases e;exact .mk a vals ⟨_,ho.F2 _ _ ea,rfl,n,rfl⟩ (AE.ofInts r) (by have :=(AE.ofInts (g:=g) r).length;simpa using this) (by have :=(AE.ofInts (g:=g) r).length;simp at this;omega)
 |_=>cases e
def oX {α:Type}(xs:List α)(i j:Nat):(xs.drop (min i xs.length)).take (min j xs.length - min i xs.length)=(xs.take j).drop i:=by
 rw[List.drop_take]
 rcases Nat.le_total i xs.length with h|h
 ·rw[Nat.min_eq_left h]
  rcases Nat.le_total j xs.length with h'|h'
  ·rw[Nat.min_eq_left h']
  ·rw[Nat.min_eq_right h',List.take_of_length_le (by simp),List.take_of_length_le (by simp;omega)]
 ·rw[Nat.min_eq_right h,List.drop_of_length_le (Nat.le_refl _),List.drop_of_length_le h];simp
def fR (l u:Option PySem.Expr)(p:Pos)(o i:Value):subscripted (.Slice l u none p) false o i=operate [i,o] (getItem o i):=rfl
abbrev N2 (l u:Value):Obj:={ cls:= .type "slice",data:= .fields #[l,u,.none] }
def Qw (xs:List V)(lo:Int)(hi:Option Int):M V:=λQ h=>0<=lo/\(∀ j,hi=some j->0<=j)/\∀ a,h a=none->Q (.ref a) (Ad h a (some (.lst (GH xs lo hi))))
def iK {vs:List V}{w:Value}{ve:PySem.Expr}{lx ux:Option PySem.Expr}{p:Pos}{lo:Int}{hi:Option Int}{vl vu:Value}{Q:V->H->Prop}(ho:Ok W g h s)(IL:Of g s.heap vs w)(Fs:IsPart vl (some lo))(pu:IsPart vu hi)(q:Qw vs lo hi Q h):
  BR W A (subscriptTail ve (.Slice lx ux none p) w (.ref s.heap.objs.size)) (IF W g Q) { s with heap:=s.heap.push (N2 vl vu) }:=by
 obtain⟨a,vals,IL,hv,hlen,z⟩:=IL
 obtain⟨h0,h1,q⟩:=q
 have IL':=IL.push (N2 vl vu)
 refine tail_any IL'.typeIs slot_list_getitem.lookup (wpAny_getItem_list_slice IL' (Heap.IsSliceOf.new ..) Fs pu .none (by simp) ?_ (by have :=bw;omega)) (fR _ _ _ _ _)
 have n2:s.heap.get? (s.heap.push (N2 vl vu)).objs.size=none:=Heap.get?_none_of_le (by rw[Heap.size_push];omega)
 have key:AE g (GH vs lo hi) (slicePick vals (some lo) hi none).toList:=by
  obtain⟨i,rfl⟩:=Int.eq_ofNat_of_zero_le h0
  cases hi with
  |none=>
   rw[show((i:Nat):Int)=(i:Int) from rfl,slicePick_from']
   have :=hv.drop i;simpa [GH] using this
  |some j=>
   obtain⟨j,rfl⟩:=Int.eq_ofNat_of_zero_le (h1 j rfl)
   rw[slicePick_plain]
   simp only[Option.elim,clipAt_nat]
   have :=oX vals.toList i j
   rw[Array.length_toList] at this
   rw[this]
   exact(hv.take j).drop i
 have kl:(GH vs lo hi).length<=lim:=by
  have :(GH vs lo hi).length<=vs.length:=by
   cases hi with
   |none=>show(vs.drop _).length<=_;rw[List.length_drop];omega
   |some j=>show((vs.take _).drop _).length<=_;rw[List.length_drop,List.length_take];omega
  omega
 exact ho.newL (n:=0) (λb o e=>Heap.get?_push_of_some _ (Heap.get?_push_of_some _ e)) n2 (Heap.get?_push_size _ rfl) key kl q
end
section
variable {W:Bl}{g g':A8}{h h':H}{s s':Shared}{A:Around}{k:Nat}
def O5 (W:Bl)(f:V->M V)(t:Value->Sem Value):Prop:=∀ {k A g h s Q x w},Ft k A->Ok W g h s->AF g x w->f x Q h->BR W A (t w) (IF W g Q) s
def Go (x:V):M V:=λQ h=>AJ (Rz x h) λxs=>Q (.int xs.length) h
def tC:O5 W Go λw=>call (.builtin "len") [w]:=λ {k A g h s Q x w} hA ho hx q=>by
 refine ao q λxs e q=> ?_
 have :=eS
 obtain⟨a,vals,IL,r,l,z⟩:=fu ho hx e
 refine call_len_list (items:=vals) IL (by omega) ?_
 rw[l];exact .here ho (cB ..) q
def PX (x:V):M V:=λQ h=>AJ x.int? λi=>Q (.int (if i < 0 then -i else i)) h
def sx:O5 W PX λw=>call (.builtin "abs") [w]:=λ {k A g h s Q x w} hA ho hx q=>match lY q hx with | .mk i t q=>call_abs_int λu tk=> .here ho (cB ..) q
def LT (x:V):M V:=λQ h=>AJ x.int? λi=>Q (.int (-i)) h
def tK:O5 W LT (unaryOp .USub):=λ {k A g h s Q x w} hA ho hx q=>match lY q hx with | .mk i t q=>neg_int (.here ho (cB ..) q)
def Fg (i j:Int)(Q:V->Prop):Prop:=Q (.int (if i < j then j else i))
def Kt (i j:Int)(Q:V->Prop):Prop:=Q (.int (if j < i then j else i))
def tD:Ds W (Aw Fg) λw u=>call (.builtin "max") [w,u]:=bg (f:=Fg) (t:=λw u=>call (.builtin "max") [w,u]) λ {k A g h s i j a b Q} hA ho q=>max_two_ints hA.handled λh' tk kk=>by
 have q:Q (.int (if i < j then j else i)) h:=q
 split
 ·rename_i c;rw[if_pos (by omega)] at q;exact .grown ho (cB ..) q kk
 ·rename_i c;rw[if_neg (by omega)] at q;exact .grown ho (cB ..) q kk
def tF:Ds W (Aw Kt) λw u=>call (.builtin "min") [w,u]:=bg (f:=Kt) (t:=λw u=>call (.builtin "min") [w,u]) λ {k A g h s i j a b Q} hA ho q=>min_two_ints hA.handled λh' tk kk=>by
 have q:Q (.int (if j < i then j else i)) h:=q
 split
 ·rename_i c;rw[if_pos (by omega)] at q;exact .grown ho (cB ..) q kk
 ·rename_i c;rw[if_neg (by omega)] at q;exact .grown ho (cB ..) q kk
def Po (x:V)(h:H):Option (List Int):=AT x.ref? λa=>AT (getL h a) Gu
def Vj (x:V):M V:=λQ h=>AJ (Po x h) λis=>Q (.int is.sum) h
inductive RP (hp:Heap)(is:List Int):Value->Prop
 |mk (a:Addr) (xs:Array (Int×Tok)) (L:hp.IsList a (intItems xs)) (e:xs.toList.map (·.1)=is):RP hp is (.ref a)
def kA {x:V}{w:Value}{is:List Int}(ho:Ok W g h s)(hx:AF g x w)(e:Po x h=some is):RP s.heap is w:=by
 refine aI e λa e1 e0=> ?_
 refine aI e0 λxs e2 e3=> ?_
 cases V.Il e1
 cases hx
 obtain⟨vals,n,ea,r,l,z⟩:=ho.list (aM e2)
 rw[eN e3] at r
 have hi:=AE.ints r
 obtain⟨ys,hy⟩:=AllInts.items (vs:=vals) (by have :=hi.allInts;simpa using this)
 refine .mk a ys ⟨_,ea,rfl,n,by rw[hy]⟩ ?_
 rw[<-nums_intItems,<-hy];exact hi.numsOf
def uT:O5 W Vj λw=>call (.builtin "sum") [w]:=λ {k A g h s Q x w} hA ho hx q=>by
 refine ao q λis e q=> ?_
 obtain⟨a,xs,L,e1⟩:=kA ho hx e
 refine sum_intListG hA.handled L λh' tk t' hk=> ?_
 have e2:preSum (numAt xs) xs.size=is.sum:=by rw[preSum_eq,List.take_of_length_le (by simp),e1]
 rw[e2];exact .grown ho (cB ..) q hk
def OQ (x:V):M V:=λQ h=>AJ (Po x h) λis=>is≠ []/\∀ m,m∈is->(∀ y∈is,m<=y)->Q (.int m) h
def qP:O5 W OQ λw=>call (.builtin "min") [w]:=λ {k A g h s Q x w} hA ho hx q=>by
 refine ao q λis e q=> ?_
 obtain⟨a,xs,L,e1⟩:=kA ho hx e
 have hne:0 < xs.size:=by
  rcases Nat.eq_zero_or_pos xs.size with q'|q'
  ·rw[Array.size_eq_zero_iff] at q';subst q';exact absurd e1.symm q.1
  ·exact q'
 refine min_intList hA.handled L hne λv h' tk hv hk=> ?_
 obtain⟨t,rfl⟩:=intItems_at hv
 obtain⟨b1,b2⟩:=argBest_lt (numAt xs) (xs.size - 1)
 have at_:∀ j,j < xs.size->is[j]? =some (numAt xs j):=λj hj=>by
  rw[<-e1,List.getElem?_map,Array.getElem?_toList,numAt]
  cases q:xs[j]? with
  |none=>rw[Array.getElem?_eq_none_iff] at q;omega
  |some p=>rfl
 refine .grown ho (cB ..) (q.2 _ (List.mem_of_getElem? (at_ _ (by omega))) λy hy=> ?_) hk
 obtain⟨j,hj,rfl⟩:=List.getElem_of_mem hy
 have hj':j < xs.size:=by rw[<-e1] at hj;simpa using hj
 have q1:=b2 j (by omega)
 have q2:=at_ j hj'
 rw[List.getElem?_eq_getElem hj] at q2
 rw[Option.some.inj q2];omega
def LJ (x v:V):M V:=λQ h=>AJ x.ref? λa=>AJ (getL h a) λxs=>xs.length < lim/\Q .none (Ad h a (some (.lst (xs++ [v]))))
def sB:Ds W LJ λw u=>call (.builtin "list.append") [w,u]:=λ {k A g h s Q x v w u} hA ho hx hv q=>by
 refine Fb hx q λa q=> ?_
 refine ao q λxs e q=> ?_
 have e:=aM e
 obtain⟨vals,n,ea,r,l,z⟩:=ho.list e
 refine append_at (hsz:=by rw[l];exact Nat.le_trans (Nat.le_of_lt q.1) bw) ea λh' hs hob=> ?_
 exact⟨g,.refl g,_,ho.Vd (tk:=s.toks) e hs hob (by rw[Array.toList_push];exact r.append (.one hv)) (by rw[List.length_append];exact q.1),.none,qi,q.2⟩
inductive Sn (W:Bl)(g:A8)(Q:H->Prop)(s':Shared):Prop
 |mk (g':A8) (le:HV g g') (h':H) (o:Ok W g' h' s') (q:Q h')
def iS {h:Heap}{a:Addr}{vals:Array Value}{n:Nat}(e:h.get? a=some (PySem.W.listOf vals n))(f:Array Value->Array Value):∃ n',(h.update a (Obj.mapSeq f)).get? a=some (PySem.W.listOf (f vals) n'):=
 ⟨_,Heap.get?_update_self (Obj.mapSeq f) e rfl⟩
def Jr (x i v:V)(Q:H->Prop)(h:H):Prop:=AJ x.ref? λa=>AJ (h a) λo=>match o with
 | .lst xs=>AJ i.int? λk=>(0<=k/\k.toNat < xs.length)/\Q (Ad h a (some (.lst (xs.set k.toNat v))))
 | .dct f=>AJ i.SL λn=>(f n).isSome=true/\Q (Ad h a (some (.dct (Ad f n (some v)))))
 | .BM _ l=>AJ i.int? λk=>(l.length < lim/\∀ p∈l,p.1≠k)/\∀ ep,Q (Ad h a (some (.BM ep (l++ [(k,v)]))))
 |_=>False
def bS {K:Type}[DecidableEq K](p:K×Value)(l:List (K×Value))(k:K):valueAt (p::l) k=if p.1=k then some p.2 else valueAt l k:=by
 unfold valueAt
 rw[List.find?_cons]
 by_cases h:p.1=k
 ·rw[decide_eq_true h,if_pos h];rfl
 ·rw[decide_eq_false h,if_neg h]
def dh {K:Type}[DecidableEq K](k:K)(v:Value)(x:K):∀ l:List (K×Value),(valueAt l k).isSome=true->valueAt (l.map λkv=>if kv.1=k then(kv.1,v) else kv) x=if k=x then some v else valueAt l x
 | [],h=>nomatch h
 |p::l,h=>by
  rw[bS] at h
  rw[List.map_cons,bS,bS]
  by_cases hp:p.1=k
  ·rw[if_pos hp]
   by_cases hx:k=x
   ·rw[if_pos (hp.trans hx),if_pos hx]
   ·have hpx: ¬ p.1=x:=by rw[hp];exact hx
    rw[if_neg hpx,if_neg hx,if_neg hpx]
    cases h2:valueAt l k with
    |some w=>rw[dh k v x l (by rw[h2];rfl),if_neg hx]
    |none=>
     have :(l.map λkv=>if kv.1=k then(kv.1,v) else kv)=l:=map_store_of_not_mem l k v λhm=>by
      obtain⟨q,CX,e⟩:=List.mem_map.mp hm
      unfold valueAt at h2
      have :=List.find?_eq_none.mp (Option.map_eq_none_iff.mp h2) q CX
      simp [e] at this
     rw[this]
  ·rw[if_neg hp] at h
   rw[if_neg hp,dh k v x l h]
   by_cases hx:k=x
   ·rw[if_pos hx,if_neg (by rw[<-hx];exact hp),if_pos hx]
   ·rw[if_neg hx,if_neg hx]
def lU {K:Type}[DecidableEq K]{l:List (K×Value)}{k:K}(v:Value)(h:(valueAt l k).isSome=true):stored l k v=l.map λkv=>if kv.1=k then(kv.1,v) else kv:=by
 unfold stored
 rw[if_pos]
 unfold valueAt at h
 rw[List.any_eq_true]
 cases e:l.find? (λkv=>decide (kv.1=k)) with
 |none=>rw[e] at h;cases h
 |some p=>exact⟨p,List.mem_of_find?_eq_some e,by have :=List.find?_some e;exact this⟩
theorem IH.isSome {v:Option V}{w:Option Value}(h:IH g v w):w.isSome=v.isSome:=by cases h <;> rfl
theorem So.put {kvs:List (Str×Value)}{f:Nat->Option V}{n:Str}{v:V}{w:Value}(d:So g kvs f)(hn:good n=true)(hf:(f (AI n)).isSome=true)(hv:AF g v w):So g (stored kvs n w) (Ad f (AI n) (some v)):=by
 have hs:(valueAt kvs n).isSome=true:=(d.is n hn).isSome.trans hf
 rw[lU w hs]
 refine⟨λkv hm=> ?_,by rw[List.length_map];exact d.len,λx hx=> ?_⟩
 ·obtain⟨q,CX,e⟩:=List.mem_map.mp hm
  have :kv.1=q.1:=by rw[<-e];split <;> rfl
  rw[this];exact d.all q CX
 ·rw[dh n w x kvs hs]
  by_cases e:n=x
  ·subst e;rw[if_pos rfl,aa];exact .some v w hv
  ·rw[if_neg e,ab _ _ λq=>e (bJ hn hx q.symm)];exact d.is x hx
theorem J5.keys {kvs:List (Int×Value)}{l:List (Int×V)}(d:J5 g kvs l):kvs.map (·.1)=l.map (·.1):=by
 induction d with
 |nil=>rfl
 |cons _ _ _ _ _ _ _ ih=>rw[List.map_cons,List.map_cons,ih]
theorem J5.length {kvs:List (Int×Value)}{l:List (Int×V)}(d:J5 g kvs l):kvs.length=l.length:=by
 have :=congrArg List.length d.keys;simpa using this
theorem J5.snoc {kvs:List (Int×Value)}{l:List (Int×V)}(d:J5 g kvs l){k:Int}{v:V}{w:Value}(hv:AF g v w):J5 g (kvs++ [(k,w)]) (l++ [(k,v)]):=by
 induction d with
 |nil=>exact .cons k v w _ _ hv .nil
 |cons j v' w' _ _ hv' _ ih=>exact .cons j v' w' _ _ hv' ih
def lC (k:Int)(t:Tok):(W.ik).is k (.int k t)=true:=intKind_is W.prog W.w k t
inductive VE (W:Bl)(g:A8)(hp:Heap)(a:Addr)(ep:Nat)(l:List (Int×V)):Prop
 |mk (kvs:List (Int×Value)) (e:hp.DictAt W.ik a kvs ep) (r:J5 g kvs l) (n:kvs.length<=lim) (ns:(a==sysModules)=false)
theorem Ok.BM (ho:Ok W g h s){a ep:Nat}{l:List (Int×V)}(e:h a=some (.BM ep l)):VE W g s.heap a ep l:=by
 have r:=ho.obj a _ e
 cases r with |BM _ _ kvs e r n ns=>exact .mk kvs e r (by rw[r.length];exact n) ns
theorem Ok.RA (ho:Ok W g h s){a ep:Nat}{l l':List (Int×V)}{kvs:List (Int×Value)}{hp:Heap}{tk:Nat}(e:h a=some (.BM ep l))(hs:Heap.SameBut a s.heap hp)(hd:hp.DictOf W.ik a kvs)(r:J5 g kvs l')(n:l'.length<=lim):
  ∃ ep',Ok W g (Ad h a (some (.BM ep' l'))) { s with heap:=hp,toks:=tk }:=by
 obtain⟨ep',hd'⟩:=hd.dictAt
 cases ho.BM e with |mk _ _ _ _ ns=>exact⟨ep',ho.put e (.inl rfl) hs (.BM ep' l' kvs hd' r n ns) (λx e=>nomatch e) (cD hd)⟩
def kf {x i v:V}{a b w:Value}{Q:H->Prop}(ho:Ok W g h s)(hx:AF g x a)(hi:AF g i b)(hv:AF g v w)(q:Jr x i v Q h):BR W A (PySem.setItem a b w) (λU=>Sn W g Q) s:=by
 refine Fb hx q λl q=> ?_
 refine ao q λo e q=> ?_
 have em:=eS
 cases o with
 |lst xs=>
  refine FJ hi q λk t q=> ?_
  obtain⟨vals,n,ea,r,sz,z⟩:=ho.list e
  refine ki_setAt ea q.1.1 (by have :=q.1.2;omega) (by omega) ?_
  obtain⟨n',q'⟩:=iS ea (·.setIfInBounds k.toNat w)
  exact⟨g,.refl g,_,ho.Vd (tk:=s.toks) e (Heap.SameBut.update ..) q' (by rw[Array.toList_setIfInBounds];exact r.set _ hv) (by rw[List.length_set];omega),q.2⟩
 |dct f=>
  obtain⟨n,t,hn,q⟩:=wb q hi
  have r:=ho.obj _ _ e
  cases r with |dct _ kvs ek d
  refine wpAny_setItem_pairs (knd:=W.sk) (strKind_is W.prog W.w n t) ek (λh' hd hs=> ?_) (hsz:=Nat.le_trans d.len (by decide))
  exact⟨g,.refl g,_,ho.put (tk:=s.toks+1) e (.inl rfl) hs (.dct _ _ hd (d.put hn q.1 hv)) (λx e=>nomatch e) (cD hd),q.2⟩
 |BM ep l'=>
  refine FJ hi q λk t q=> ?_
  obtain⟨kvs,ek,r,n,ns⟩:=ho.BM e
  have Bt:stored kvs k w=kvs++ [(k,w)]:=by
   unfold stored
   rw[if_neg]
   intro z
   obtain⟨p,hp,e⟩:=List.any_eq_true.mp z
   have :p.1∈l'.map (·.1):=by rw[<-r.keys];exact List.mem_map_of_mem hp
   obtain⟨p',hp',e'⟩:=List.mem_map.mp this
   exact q.1.2 p' hp' (e'.trans (of_decide_eq_true e))
  refine wpAny_setItem_pairs (knd:=W.ik) (lC k t) ek.dictOf (λh' hd hs=> ?_) (hsz:=Nat.le_trans n bw)
  rw[Bt] at hd
  obtain⟨ep',o'⟩:=ho.RA (l':=l'++ [(k,v)]) (tk:=s.toks+1) e hs hd (r.snoc hv) (by rw[List.length_append];exact q.1.1)
  exact⟨g,.refl g,_,o',q.2 ep'⟩
 |_=>exact q.elim
end
inductive Mx (K:Frag)(C:Addr)(n:Str):Option V->Prop
 |none (e:findIn K (.ref C) n=some Option.none):Mx K C n Option.none
 |val (v:V) (w:Value) (e:findIn K (.ref C) n=some (some w)) (hd:handedIn w=true) (sp:specialIn K w "__get__"=some Option.none) (r:∀ g,AF g v w):Mx K C n (some v)
structure VF (K:Frag)(C:Addr)(n:Str)(v:Option V):Prop where
 at':Mx K C n v
 tk:takerIn K C n=some none
 cp:copiedNames.contains n=false
structure W7 (K:Frag)(a:Addr):Prop where
 fn:isFn K (.ref a)=true
 kp:keepIn K (.ref a)=true
inductive RR (K:Frag)(C:Addr)(n:Str)(f:Addr):Prop
 |mk (p:Addr) (rest:List Value) (e1:findIn K (.ref C) n=some (some (.ref p))) (e2:specialIn K (.ref p) "__get__"=some (some (.builtin "property.__get__"))) (e3:takesIn K (.ref p)=some true) (e4:recIn K p "property"=some (.ref f::rest)):RR K C n f
inductive SX (K:Frag)(c a:Str)(i:Int):Prop
 |mk (C:Addr) (t:Tok) (mc:Value) (e1:nsIn K mainGlobals c=some (some (.ref C))) (e2:readsIn K C mc=true) (e3:findCls K (.ref C) mc a=some (.val (.int i t))):SX K c a i
def Lu:List Str:= ["len","abs","sum","min","max","list","set","range","enumerate","filter","tuple","super"]
structure Id (W:Bl):Prop where
 bi:∀ x∈Lu,nsIn W.K mainGlobals x=some none
 cat:∀ c a i,good c=true->good a=true->KT Re (AI c) (AI a)=some i->SX W.K c a i
 get:∀ C,plainGet W.K (W.ca C) ""=true
 dict:∀ C,hasDictIn W.K (W.ca C)=true
 set:∀ C,findIn W.K (.ref (W.ca C)) "__setattr__"=some (some (.builtin "object.__setattr__"))
 over:∀ C,plainOver W.K (W.ca C)=true
 own:∀ C n,good n=true->AI n∈own C->VF W.K (W.ca C) n (JO C (AI n))
 La:∀ C n f,good n=true->La C (AI n)=some f->findIn W.K (.ref (W.ca C)) n=some (some (.ref (W.fa f)))
 Rq:∀ f,W7 W.K (W.fa f)
 glob:∀ n f,good n=true->look (AI n) Qh=some f->nsIn W.K mainGlobals n=some (some (.ref (W.fa f)))
 cls:∀ n C,good n=true->look (AI n) Om=some C->nsIn W.K mainGlobals n=some (some (.ref (W.ca C)))
 keep:∀ C,keepIn W.K (.ref (W.ca C))=true
 makes:∀ C,makesIn W.K (W.ca C)=true
 init:∀ C f,look C PA=some f->findIn W.K (.ref (W.ca C)) "__init__"=some (some (.ref (W.fa f)))
 prop:∀ C n f,good n=true->prop C (AI n)=some f->RR W.K (W.ca C) n (W.fa f)
 eqs:findIn W.K (.ref (W.ca CO)) "__eq__"=some (some (.builtin "object.__eq__"))/\mroIn W.K (W.ca CO) (.type "object")=some true
 Sy:∀ n i,good n=true->look (AI n) Py=some i->∃ t,nsIn W.K mainGlobals n=some (some (.int i t))
theorem JX.quiet {P:Params}{es:List DictEntry}{kv:List (Str×Value)}(d:JX P es kv):es.any (·.refKey)=false:=by
 induction d with
 |nil=>rfl
 |cons n t v _ _ _ ih=>rw[List.any_cons,ih];rfl
theorem JX.find {P:Params}{es:List DictEntry}{kv:List (Str×Value)}(d:JX P es kv)(n:Str):(es.find? λe=>e.key.isStr n).map (·.val)=kv.lookup n:=by
 induction d with
 |nil=>rfl
 |cons m t v _ _ _ ih=>
  rw[List.find?_cons,List.lookup_cons]
  show Option.map _ (match(m==n) with |true=>_|false=>_)=_
  by_cases e:m=n
  ·subst e;rw[beq_self_eq_true];rfl
  ·rw[beq_eq_false_iff_ne.mpr e,beq_eq_false_iff_ne.mpr λq=>e q.symm];exact ih
theorem JX.get {P:Params}{es:List DictEntry}{kv:List (Str×Value)}(d:JX P es kv)(n:Str):PySem.W.getL n es=some (kv.lookup n):=by
 rw[<-d.find n]
 unfold PySem.W.getL
 rw[d.quiet]
 cases es.find? λe=>e.key.isStr n <;> rfl
theorem JX.length {P:Params}{es:List DictEntry}{kv:List (Str×Value)}(d:JX P es kv):es.length=kv.length:=by
 induction d with
 |nil=>rfl
 |cons _ _ _ _ _ _ ih=>rw[List.length_cons,List.length_cons,ih]
def Jv (n:Str)(v:Value):List (Str×Value)->List (Str×Value)
 | []=> [(n,v)]
 |p::r=>if p.1=n then(p.1,v)::r else p::Jv n v r
theorem JX.put {P:Params}{es:List DictEntry}{kv:List (Str×Value)}(d:JX P es kv)(n:Str)(t:Tok)(v:Value):JX P (putL n (PyData.keyHash P n) (.str n t) v es) (Jv n v kv):=by
 induction d with
 |nil=>exact .cons n t v _ _ .nil
 |cons m u w _ _ h' ih=>
  unfold putL Jv
  show JX P (if(m==n)=true then _ else _) _
  by_cases e:m=n
  ·rw[if_pos e,if_pos (beq_iff_eq.mpr e)];exact .cons m u v _ _ h'
  ·rw[if_neg e,if_neg (by rw[beq_iff_eq];exact e)];exact .cons m u w _ _ ih
def eR (n:Str)(v:Value)(m:Str):∀ kv,(Jv n v kv).lookup m=if m=n then some v else kv.lookup m
 | []=>by
  unfold Jv;rw[List.lookup_cons]
  by_cases e:m=n
  ·subst e;rw[beq_self_eq_true,if_pos rfl]
  ·rw[beq_eq_false_iff_ne.mpr e,if_neg e]
 |(k,w)::r=>by
  unfold Jv
  by_cases e:k=n
  ·subst e
   rw[if_pos rfl,List.lookup_cons,List.lookup_cons]
   by_cases e:m=k
   ·subst e;rw[beq_self_eq_true,if_pos rfl]
   ·rw[beq_eq_false_iff_ne.mpr e,if_neg e]
  ·rw[if_neg e,List.lookup_cons,List.lookup_cons,eR n v m r]
   by_cases e2:m=k
   ·subst e2;simp only[beq_self_eq_true];rw[if_neg e]
   ·rw[beq_eq_false_iff_ne.mpr e2]
def dP {P:Str->Prop}{n:Str}{v:Value}(hn:P n):∀ {kv:List (Str×Value)},(∀ p∈kv,P p.1)->∀ p∈Jv n v kv,P p.1
 | [],_,p,h=>by rw[List.mem_singleton.mp h];exact hn
 |q::r,hk,p,h=>by
  unfold Jv at h
  by_cases e:q.1=n
  ·rw[if_pos e] at h
   exact(List.mem_cons.mp h).elim (λz=>by rw[z];exact hk q (.head _)) λz=>hk p (.tail _ z)
  ·rw[if_neg e] at h
   exact(List.mem_cons.mp h).elim (λz=>by rw[z];exact hk q (.head _)) λz=>dP hn (λp hp=>hk p (.tail _ hp)) p z
def fV (n:Str)(v:Value):∀ {kv:List (Str×Value)},(kv.map (·.1)).Nodup->((Jv n v kv).map (·.1)).Nodup
 | [],_=>List.nodup_cons.mpr ⟨λh=>(nomatch h),.nil⟩
 |q::r,h=>by
  obtain⟨h1,h2⟩:=List.nodup_cons.mp h
  unfold Jv
  by_cases e:q.1=n
  ·rw[if_pos e];exact h
  ·rw[if_neg e]
   refine List.nodup_cons.mpr ⟨λz=> ?_,fV n v h2⟩
   obtain⟨p,hp,hz⟩:=List.mem_map.mp z
   have :=dP (P:=λx=>x=n\/x∈r.map (·.1)) (v:=v) (.inl rfl) (λp hp=> .inr (List.mem_map_of_mem hp)) p hp
   rw[hz] at this
   exact this.elim e h1
def fW:∀ (l m:List Nat),l.Nodup->(∀ x∈l,x∈m)->l.length<=m.length
 | [],_,_,_=>Nat.zero_le _
 |x::l,m,hn,h=>by
  obtain⟨h1,h2⟩:=List.nodup_cons.mp hn
  have hx:=h x (.head _)
  have :=fW l (m.erase x) h2 λy hy=>(List.mem_erase_of_ne (λe:y=x=>h1 (by rw[<-e];exact hy))).mpr (h y (.tail _ hy))
  rw[List.length_erase_of_mem hx] at this
  have :=List.length_pos_of_mem hx
  rw[List.length_cons];omega
def qR (C:Nat):(own C).length<=1000:=by
 unfold own
 cases e:look C Qr with
 |none=>exact Nat.zero_le _
 |some l=>
  have :(Qr.all λp=>Nat.ble p.2.length 1000)=true:=by decide+kernel
  exact Nat.le_of_ble_eq_true (List.all_eq_true.mp this (C,l) (aW e))
def qL {C:Nat}{kv:List (Str×Value)}(hn:(kv.map (·.1)).Nodup)(hk:∀ p∈kv,good p.1=true/\AI p.1∈own C):kv.length<=1000:=by
 have :=fW (kv.map λp=>AI p.1) (own C) ?_ λx hx=>by obtain⟨p,hp,e⟩:=List.mem_map.mp hx;exact e▸(hk p hp).2
 ·rw[List.length_map] at this;exact Nat.le_trans this (qR C)
 ·induction kv with
  |nil=>exact .nil
  |cons p r ih=>
   obtain⟨h1,h2⟩:=List.nodup_cons.mp hn
   refine List.nodup_cons.mpr ⟨λz=> ?_,ih h2 λq CX=>hk q (.tail _ CX)⟩
   obtain⟨q,CX,e⟩:=List.mem_map.mp z
   exact h1 (List.mem_map.mpr ⟨q,CX,bJ (hk q (.tail _ CX)).1 (hk p (.head _)).1 e⟩)
inductive DK (g:A8):List (Nat×V)->List (Str×Value)->Prop
 |nil:DK g [] []
 |cons (n:Str) (v:V) (w:Value) (l:List (Nat×V)) (m:List (Str×Value)) (hn:good n=true) (h:AF g v w) (r:DK g l m):DK g ((AI n,v)::l) ((n,w)::m)
theorem DK.mono {g g':A8}(k:Ek g g'){l:List (Nat×V)}{m:List (Str×Value)}(h:DK g l m):DK g' l m:=by
 induction h with
 |nil=>exact .nil
 |cons n v w l m hn h _ ih=>exact .cons n v w l m hn (AF.mono k v h) ih
inductive RH (W:Bl)(g:A8)(Q:V->H->Prop):Result->Shared->Prop
 |mk (w:Value) (s':Shared) (z:IF W g Q w s'):RH W g Q (.ok (.ret w)) s'
def PP (W:Bl)(n:Nat)(cf:Cc):Prop:=∀ {f es kws g h s A ws wk Q},Ok W g h s->JC n A->AE g es ws->DK g kws wk->cf f es kws Q h->codeAny (model W.prog W.w) A (.call (.ref (W.fa f)) ⟨ws,wk⟩) (RH W g Q) s
structure DC (W:Bl)(n:Nat)(cf:Cc):Prop where
 w:W.Ok
 k:Id W
 call:PP W n cf
def K4 (cf:Cc)(n:Nat)(x:V):M V:=λQ h=>AJ x.ref? λa=>AJ (Ec h a) λi=>match prop i.C n with
 |some f=>cf f [x] [] Q h
 |none=>AM n (own i.C)=true/\AJ (match i.f n with |some v=>some v|none=>JO i.C n) λv=>Q v h
section
variable {W:Bl}{n:Nat}{cf:Cc}{g g':A8}{h h':H}{s s':Shared}{A:Around}
def dq (hW:W.Ok)(ho:Ok W g h s):W.K.In s.heap:=hW.K.keeps λb o e=>ho.old e
inductive RO (W:Bl)(g:A8)(h:H)(hp:Heap)(a:Addr)(i:My):Prop
 |mk (es:List DictEntry) (m:Nat) (I:InstAt hp a (instObj (W.ca i.C) i.d) (W.ca i.C) (some (dictOf es m))) (w:h i.d=some (.own a)) (e:hp.get? i.d=some (dictOf es m)) (r:K1 g W.w.params i.C es i.f):RO W g h hp a i
theorem Ok.inst (ho:Ok W g h s){a:Nat}{i:My}(e:Ec h a=some i):RO W g h s.heap a i:=by
 have r:=ho.obj a _ (ie e)
 cases r with |ins _ _ _ es m e1 w e2 r=>exact .mk es m ⟨e1,rfl,rfl,e2⟩ w e2 r
theorem K1.get {P:Params}{C:Nat}{es:List DictEntry}{f:Nat->Option V}(d:K1 g P C es f){n:Str}(hn:good n=true):∃ u,PySem.W.getL n es=some u/\IH g (f (AI n)) u:=
 let⟨kv,h1,_,_,h4⟩:=d.ex;⟨_,h1.get n,h4 n hn⟩
def iZ {v:V}{w:Value}(hv:AF g v w):handedIn w=true:=by
 cases v <;> cases hv <;> rfl
def gH {C:Addr}(h:plainGet W.K C ""=true):findIn W.K (.ref C) "__getattribute__"=some (some (.builtin "object.__getattribute__"))/\findIn W.K (.ref C) "__getattr__"=some none:=plainGet_of (name:="") h
def jC {K:Frag}{C:Addr}{n:Str}{v:Option V}(h:Mx K C n v):∃ a,findIn K (.ref C) n=some a/\noGet K a=true:=by
 cases h with
 |none e=>exact⟨_,e,rfl⟩
 |val v w e hd sp r=>exact⟨_,e,by show(specialIn K w "__get__"==some none)=true;rw[sp];rfl⟩
def gb {x:V}{m:Str}{b:Value}{expr:Bool}{Q:V->H->Prop}(hh:DC W n cf)(hA:Ft n A)(ho:Ok W g h s)(hm:good m=true)(hx:AF g x b)(q:K4 cf (AI m) x Q h):BR W A (getAttr b m expr) (IF W g Q) s:=by
 obtain⟨a,q⟩:=lZ q hx
 refine ao q λi e q=> ?_
 obtain⟨es,k,I,w,ed,d⟩:=ho.inst e
 have X:=dq hh.w ho
 obtain⟨g1,g2⟩:=gH (hh.k.get i.C)
 cases hp:prop i.C (AI m) with
 |some f=>
  rw[hp] at q
  obtain⟨p,rest,f1,f2,f3,f4⟩:=hh.k.prop _ _ _ hm hp
  refine get_bind X I g1 (findObj_data (by obtain⟨AI,hc,_⟩:=any_some (hh.k.dict i.C);rw[hc];rfl) f1 f2 f3) g2 (wpAny_call (prop_get (s:={ s with toks:=s.toks+1 }) X f4 ?_))
  refine codeAny_mono (hh.call (es:= [x]) (kws:= []) (ws:= [.ref a]) (ho.toks (tk:=s.toks+1)) hA.w1 (.one hx) .nil q) λr s' z=> ?_
  obtain⟨w,s',z⟩:=z
  obtain⟨g',le,h',o,v,r,q⟩:=z
  show wpAny _ _ (handedOut w) _ _ _
  rw[handedOut_of (iZ r)]
  exact wpAny_pure ⟨g',le,h',o,v,r,q⟩
 |none=>
  rw[hp] at q
  obtain⟨q1,q2⟩:=q
  obtain⟨k1,k2,k3⟩:=hh.k.own i.C m hm (aO.mp q1)
  obtain⟨at_,f1,f2⟩:=jC k1
  obtain⟨u,e1,r⟩:=d.get hm
  refine ao q2 λv ev q=> ?_
  cases Gb:i.f (AI m) with
  |some u'=>
   rw[Gb] at r ev
   cases ev
   cases r with |some _ w r
   exact get_value X I g1 (findObj_own (hh.k.dict _) f1 f2 e1) (iZ r) (.here ho r q)
  |none=>
   rw[Gb] at r ev
   cases r
   have ev:JO i.C (AI m)=some v:=ev
   rw[ev] at k1
   cases k1 with
   |val x w f3 f4 f5 f6=>exact get_value X I g1 (findObj_cls (hh.k.dict _) f3 f5 f4 k3 e1) f4 (.here ho (f6 g) q)
end
section
variable {W:Bl}{n:Nat}{cf:Cc}{g g':A8}{h h':H}{s s':Shared}{A:Around}
def qY {x dx C:Addr}{ox:Obj}{name:Str}{tk:Tok}{v:Value}{es:List DictEntry}{n:Nat}{R:Result->Shared->Prop}(X:W.K.In s.heap)(I:InstAt s.heap x ox C (some (dictOf es n)))(hd:ox.dict=some dx)
  (hp:plainOver W.K C=true)(ht:takerIn W.K C name=some none)(hh:hasDictIn W.K C=true)(CX:es.any (·.refKey)=false)(hz:(putL name (PyData.keyHash W.w.params name) (.str name s.toks) v es).length<=1000)
  (h:R (.ok (.ret .none)) { s with heap:=s.heap.update dx (Obj.putName name (PyData.keyHash W.w.params name) (.str name s.toks) v),toks:=s.toks+1 }):
  codeAny (model W.prog W.w) A (.call (.builtin "object.__setattr__") ⟨[.ref x,.str name tk,v],[]⟩) R s:=by
 refine osa_open X I hp ht λb=> ?_
 obtain⟨AI,hc,hd'⟩:=any_some hh
 obtain⟨hx,JB,hn,D⟩:=I
 obtain⟨oc,odi,oda,osl⟩:=ox
 dsimp only at JB hd
 subst JB hd
 have D:s.heap.get? dx=some (dictOf es n):=D
 have D':=Heap.get?_update_self (Obj.putName name (PyData.keyHash W.w.params name) (.str name s.toks) v) D (by rw[putName_dict];rfl)
 rw[putName_dict] at D'
 refine wpAny_bind (wpAny_pure (wpAny_bind (wpAny_bind (wpAny_loadPart hx (wpAny_bind ((looks_clsIn X hc).here ?_))))))
 rw[hd']
 refine wpAny_pure (a:=some dx) (wpAny_bind (wpAny_pure (wpAny_bind ?_)))
 unfold nsSet
 refine wpAny_bind (wpAny_bind (wpAny_askSetting (wpAny_pure (wpAny_bind (wpAny_mkText (wpAny_bind (wpAny_loadPart D ?_)))))))
 dsimp only
 have cc:(!es.toArray.any (·.key.isStr name) && es.toArray.any (·.refKey))=false:=by
  rw[List.any_toArray,List.any_toArray,CX,Bool.and_false]
 rw[aRefKeyMayBeTheName_at,cc]
 refine wpAny_updatePart D ?_
 refine wpAny_bind (wpAny_lookBehind D' (pastItsLine_dict (by rw[List.size_toArray,sizeLine_eq];omega)) ?_)
 exact wpAny_pure h
def Iv (n:Nat)(x v:V)(Q:H->Prop)(h:H):Prop:=AJ x.ref? λa=>AJ (Ec h a) λi=>AM n (own i.C)=true/\Q (Ad h a (some (.ins i.C i.d (Ad i.f n (some v)))))
theorem K1.put {P:Params}{C:Nat}{es:List DictEntry}{f:Nat->Option V}{m:Str}{v:V}{w:Value}{t:Tok}(d:K1 g P C es f)(hm:good m=true)(ho:AI m∈own C)(hv:AF g v w):
  K1 g P C (putL m (PyData.keyHash P m) (.str m t) w es) (Ad f (AI m) (some v))/\es.any (·.refKey)=false/\(putL m (PyData.keyHash P m) (.str m t) w es).length<=1000:=by
 obtain⟨kv,h1,h2,h3,h4⟩:=d.ex
 have hk:=dP (P:=λx=>good x=true/\AI x∈own C) (v:=w) ⟨hm,ho⟩ h3
 have nd:=fV m w h2
 refine⟨⟨_,h1.put m t w,nd,hk,λx hx=> ?_⟩,h1.quiet,by rw[(h1.put m t w).length];exact qL nd hk⟩
 rw[eR]
 by_cases e:x=m
 ·subst e;rw[aa,if_pos rfl];exact .some v w hv
 ·rw[ab _ _ λq=>e (bJ hx hm q),if_neg e];exact h4 x hx
def gf {x v:V}{m:Str}{b w:Value}{Q:H->Prop}(hh:DC W n cf)(ho:Ok W g h s)(hm:good m=true)(hx:AF g x b)(hv:AF g v w)(q:Iv (AI m) x v Q h):BR W A (setAttr b m w) (λU=>Sn W g Q) s:=by
 refine Fb hx q λa q=> ?_
 refine ao q λi e q=> ?_
 obtain⟨es,k,I,wd,ed,d⟩:=ho.inst e
 have X:=dq hh.w ho
 have ho':=aO.mp q.1
 obtain⟨k1,k2,k3⟩:=hh.k.own i.C m hm ho'
 obtain⟨d1,d2,d3⟩:=d.put (t:=s.toks+1) hm ho' hv
 refine set_plain X I (hh.k.set _) (qY (s:={ s with toks:=s.toks+1 }) X I rfl (hh.k.over _) k2 (hh.k.dict _) d2 d3 ?_)
 have hob:=Heap.get?_update_self (Obj.putName m (PyData.keyHash W.w.params m) (.str m (s.toks+1)) w) ed (by rw[putName_dict];rfl)
 rw[putName_dict] at hob
 have hs:Heap.SameBut i.d s.heap _:=Heap.SameBut.update (h:=s.heap) (a:=i.d) (f:=Obj.putName m (PyData.keyHash W.w.params m) (.str m (s.toks+1)) w)
 have ne:a≠i.d:=λe'=>by rw[e'] at e;have :=ie e;rw[wd] at this;cases this
 refine⟨g,.refl g,_,ho.put (tk:=s.toks+1+1) (ie e) (.inr wd) hs (.ins _ _ _ _ _ ((hs.2 a ne).trans I.1) ((ab _ _ ne.symm).trans wd) hob d1) (λx e=>nomatch e) ⟨_,hob⟩,q.2⟩
theorem Ok.new2 (ho:Ok W g h s){hp:Heap}{tk:Nat}{a y:Addr}{o:O}(k:∀ b o,s.heap.get? b=some o->hp.get? b=some o)(ha:s.heap.get? a=none)(hy:s.heap.get? y=none)(ne:a≠y)(ey:∃ ob,hp.get? y=some ob)(hr:G0 W g (Ad (Ad h a (some o)) y (some (.own a))) hp a o):
  Ok W g (Ad (Ad h a (some o)) y (some (.own a))) { s with heap:=hp,toks:=tk }:=by
 have f1:=ho.fresh hy
 have f2:=ho.fresh ha
 obtain⟨oy,ey⟩:=ey
 refine ho.go (λb=>b=y\/b=a) (λU U e=>e) (λb o U e=>k b o e) (λb o e=> .inl ⟨e,λq=>q.elim (λq=>aj f1.2.1 (q▸e)) λq=>aj f2.2.1 (q▸e)⟩) (λb o e=>⟨(ho.Dz b o e).1,.inl ⟨e,λq=>q.elim (λq=>aj f1.2.2.1 (q▸e)) λq=>aj f2.2.2.1 (q▸e)⟩⟩) (λb o' e=> ?_)
  (λb hb q=>q.elim (λq=>f1.2.2.2 (q▸hb)) λq=>f2.2.2.2 (q▸hb)) rfl ho.gens ho.Ii
 by_cases q1:b=y
 ·subst q1
  rw[aa] at e;cases e
  exact .inr ⟨.inl rfl,.own _ _ ey,f1.2⟩
 ·by_cases q2:b=a
  ·subst q2
   rw[ab _ _ ne,aa] at e;cases e
   exact .inr ⟨.inr rfl,hr,f2.2⟩
  ·rw[ab _ _ q1,ab _ _ q2] at e
   refine .inl ⟨λz=>z.elim q1 q2,e,λx hx=> ?_⟩
   have hxo:h x=some (.own b):=by
    have r:=ho.obj b o' e
    cases r <;> cases hx <;> assumption
   have n1:x≠y:=λz=>aj f1.1 (z▸hxo)
   have n2:x≠a:=λz=>aj f2.1 (z▸hxo)
   exact⟨λz=>z.elim n1 n2,by rw[ab _ _ n1,ab _ _ n2]⟩
def F5 (h:H)(C a d:Nat):H:=Ad (Ad h a (some (.ins C d λU=>none))) d (some (.own a))
theorem Ok.Xr (ho:Ok W g h s)(C:Nat){tk:Nat}:Ok W g (F5 h C (s.heap.objs.size+1) s.heap.objs.size) { s with heap:=(s.heap.push emptyDict).push (instObj (W.ca C) s.heap.objs.size),toks:=tk }:=by
 have e1:((s.heap.push emptyDict).push (instObj (W.ca C) s.heap.objs.size)).get? s.heap.objs.size=some emptyDict:=Heap.get?_push_of_some _ (Heap.get?_push_size _ rfl)
 have e2:((s.heap.push emptyDict).push (instObj (W.ca C) s.heap.objs.size)).get? (s.heap.objs.size+1)=some (instObj (W.ca C) s.heap.objs.size):=by
  have :=Heap.get?_push_size (s.heap.push emptyDict) (o:=instObj (W.ca C) s.heap.objs.size) rfl
  rwa [Heap.size_push] at this
 exact ho.new2 (λb o e=>Heap.get?_push_of_some _ (Heap.get?_push_of_some _ e)) (Heap.get?_none_of_le (Nat.le_succ _)) (al _) (Nat.succ_ne_self _) ⟨_,e1⟩ (.ins _ _ _ [] 0 e2 (aa ..) e1 ⟨[],.nil,.nil,λU h=>(nomatch h),λU U=> .none⟩)
theorem Ft.tc {k:Nat}{A:Around}(h:Ft k A)(C:Addr)(vals:List Value)(kw:List (Str×Value)):JC k (A.under (.builtin "type.__call__" ⟨.ref C::vals,kw⟩)):=by
 refine⟨h.handled,?_,?_⟩
 ·have :=h.depth;show A.depth+1+_+_<=_;omega
 ·have :=h.units;show A.units+(1+3*0)+_+_<=_;omega
def KW (cf:Cc)(C:Nat)(es:List V)(ks:List (Nat×V)):M V:=λQ h=>AJ (look C PA) λf=>∀ a d,a≠d->h a=none->h d=none->cf f (.ref a::es) ks (λr h=>r.isNone=true/\Q (.ref a) h) (F5 h C a d)
def o7 {C:Nat}{es:List V}{ks:List (Nat×V)}{ws:List Value}{wk:List (Str×Value)}{Q:V->H->Prop}(hh:DC W n cf)(hA:Ft n A)(ho:Ok W g h s)(hv:AE g es ws)(hk:DK g ks wk)(q:KW cf C es ks Q h):
  codeAny (model W.prog W.w) A (.call (.ref (W.ca C)) ⟨ws,wk⟩) (RH W g Q) s:=by
 refine ao q λf e q=> ?_
 have X:=dq hh.w ho
 obtain⟨hp,gens,d,t,os⟩:=s
 have o1:=ho.Xr C (tk:=t)
 refine make_core (makes_of X (hh.k.makes C)) (looks_findIn X (hh.k.init C f e)) (λself=>bind_fn X self (beq_iff_eq.mp (hh.k.Rq _).fn)) (.inl rfl) ?_
 refine codeAny_mono (hh.call (es:= .ref (hp.objs.size+1)::es) o1 (hA.tc _ _ _) (.mk _ _ (iM (g:=g) _) hv) hk (q (hp.objs.size+1) hp.objs.size (Nat.succ_ne_self _) (ho.fresh (Heap.get?_none_of_le (Nat.le_succ _))).1 (ho.fresh (al hp)).1)) λr' s' z=> ?_
 obtain⟨w,s',z⟩:=z
 obtain⟨g',le,h',o,v,r,q⟩:=z
 exact⟨eO q.1 r,.mk _ _ ⟨g',le,h',o,_,iM _,q.2⟩⟩
def UR (k:Nat)(vs:List V):Option V:=match k with
 |0=>match vs with | []=>some (.int 1)|_=>none
 |1=>match vs with | [x,y,z]=>some (.tup [x,y,z])|_=>none
 |_=>none
def Ql (k l:Nat)(vs:List V):M V:=λQ h=>AJ (UR k vs) λv=>LJ (.ref l) v Q h
inductive RJ (n:Nat)(i:My):Prop
 |fn (f:Nat) (e:i.f n=none) (m:La i.C n=some f):RJ n i
 |lm (k l:Nat) (e:i.f n=some (.lam k l)) (m:AM n (own i.C)=true) (c:JO i.C n=none):RJ n i
def OS (cf:Cc)(n:Nat)(x:V)(args:(List V->List (Nat×V)->H->Prop)->H->Prop):M V:=λQ h=>AJ x.ref? λa=>AJ (Ec h a) λi=>
 match i.f n with
 |none=>AJ (La i.C n) λf=>args (λvs ks h=>cf f (x::vs) ks Q h) h
 |some (.lam k l)=>(AM n (own i.C)=true/\JO i.C n=none)/\args (λvs ks h=>ks.isEmpty=true/\Ql k l vs Q h) h
 |_=>False
def lS {a f:Nat}{i:My}{m:Str}{Fs:Sem Bool}{R:Value×List Value->Shared->Prop}(hh:DC W n cf)(ho:Ok W g h s)(hm:good m=true)(e:Ec h a=some i)(Gb:i.f (AI m)=none)(hf:La i.C (AI m)=some f)(k:R (.ref (W.fa f),[.ref a]) s):
  BR W A (getMethod (.ref a) m Fs) R s:=by
 obtain⟨es,j,I,wd,ed,d⟩:=ho.inst e
 obtain⟨g1,g2⟩:=gH (hh.k.get i.C)
 obtain⟨u,e1,r⟩:=d.get hm
 rw[Gb] at r
 cases r
 refine method_fn (dq hh.w ho) I g1 g2 (hh.k.La _ _ _ hm hf) (beq_iff_eq.mp (hh.k.Rq f).fn) ?_ k
 show(lookIn m (dictOf es j)).map _=_
 rw[lookIn_dict,e1];rfl
def iT {a k l:Nat}{i:My}{m:Str}{Fs:Sem Bool}{R:Value×List Value->Shared->Prop}(hh:DC W n cf)(ho:Ok W g h s)(hm:good m=true)(e:Ec h a=some i)(Gb:i.f (AI m)=some (.lam k l))(hc:AM (AI m) (own i.C)=true)(hcc:JO i.C (AI m)=none)
  (kk:∀ w,AF g (.lam k l) w->R (w,[]) { s with toks:=s.toks+1 }):BR W A (getMethod (.ref a) m Fs) R s:=by
 obtain⟨es,j,I,wd,ed,d⟩:=ho.inst e
 obtain⟨g1,g2⟩:=gH (hh.k.get i.C)
 obtain⟨k1,k2,k3⟩:=hh.k.own i.C m hm (aO.mp hc)
 obtain⟨u,e1,r⟩:=d.get hm
 rw[Gb] at r
 cases r with |some _ w r
 rw[hcc] at k1
 cases k1 with |none f1
 exact method_usual (dq hh.w ho) I g1 g2 f1 rfl (get_value (dq hh.w ho) I g1 (findObj_own (hh.k.dict _) f1 rfl e1) (iZ r) (kk w r))
end
abbrev HW:=Cc->AZ->M (List V)
abbrev GX:=Cc->AZ->M (List (Nat×V))
def As:HW:=λU U Q h=>Q [] h
def Ah (m:A4)(ms:HW):HW:=λcf e Q h=>m cf e (λv h=>ms cf e (λvs h=>Q (v::vs) h) h) h
def Az:GX:=λU U Q h=>Q [] h
def Aq (n:Nat)(m:A4)(ms:GX):GX:=λcf e Q h=>m cf e (λv h=>ms cf e (λvs h=>Q ((n,v)::vs) h) h) h
def DA (x:PySem.Expr):Prop:=∀ (r:List PySem.Expr) (env:PySem.Env),starEach (x::r) env=(false,eval x env)::starEach r env
def FG (o:PySem.Expr):Prop:=∀ (attr:Str) (env:PySem.Env) (whole:Sem Value),attributeBase o attr env whole=whole
section
variable {W:Bl}{n:Nat}{nm:DI}{cf:Cc}
inductive Ll (W:Bl)(cf:Cc)(n:Nat)(nm:DI):HW->List PySem.Expr->Prop
 |nil:Ll W cf n nm As []
 |cons (m:A4) (x:PySem.Expr) (ms:HW) (xs:List PySem.Expr) (hs:DA x) (h:Bw W cf n nm m x) (r:Ll W cf n nm ms xs):Ll W cf n nm (Ah m ms) (x::xs)
inductive Mr (W:Bl)(cf:Cc)(n:Nat)(nm:DI):GX->List Keyword->Prop
 |nil:Mr W cf n nm Az []
 |cons (k:Str) (p:Pos) (m:A4) (x:PySem.Expr) (ms:GX) (xs:List Keyword) (hk:good k=true) (h:Bw W cf n nm m x) (r:Mr W cf n nm ms xs):Mr W cf n nm (Aq (AI k) m ms) (⟨some k,x,p⟩::xs)
inductive Wo (W:Bl)(g:A8)(Q:List V->H->Prop)(ws:List Value)(s':Shared):Prop
 |mk (g':A8) (le:HV g g') (h':H) (o:Ok W g' h' s') (vs:List V) (r:AE g' vs ws) (q:Q vs h')
inductive XD (W:Bl)(g:A8)(Q:List (Nat×V)->H->Prop)(ws:List (Str×Value))(s':Shared):Prop
 |mk (g':A8) (le:HV g g') (h':H) (o:Ok W g' h' s') (vs:List (Nat×V)) (r:DK g' vs ws) (q:Q vs h')
def iX {W:Bl}{A:Around}{g:A8}{s:Shared}{t:Sem (List Value)}{Q:List V->H->Prop}{R:List Value->Shared->Prop}(x:BR W A t (Wo W g Q) s)(f:∀ w s' g',HV g g'->∀ h',Ok W g' h' s'->∀ v,AE g' v w->Q v h'->R w s'):BR W A t R s:=ai x λw s' z=>match z with |⟨g',a,h',b,v,c,d⟩=>f w s' g' a h' b v c d
theorem Ll.ev {ms:HW}{xs:List PySem.Expr}(a:Ll W cf n nm ms xs):∀ {A env me g h s Q pos},DT W n nm A env me g h s->ms cf me Q h->BR W A (spliced (backTo pos (starEach xs env))) (Wo W g Q) s:=by
 induction a with
 |nil=>intro A env me g h s Q pos a q;exact wpAny_items_nil ⟨g,.refl g,h,a.ok,[],.mk,q⟩
 |cons m x ms xs hs hm _ ih=>
  intro A env me g h s Q pos a q
  refine wpAny_items_cons (ai (hm _ _ _ _ _ _ _ a q) λw s₁ z=> ?_) (hs _ _)
  obtain⟨g1,le,h1,o,v,r,q⟩:=z
  refine iX (ih (a.step le o) q) λus s₂ g2 le2 h2 o2 vs r2 q=> ?_
  exact⟨g2,le.trans le2,h2,o2,v::vs,.mk w us (AF.mono le2.im v r) r2,q⟩
theorem Mr.ev {ms:GX}{xs:List Keyword}(a:Mr W cf n nm ms xs):∀ {A env me g h s Q pos},DT W n nm A env me g h s->ms cf me Q h->
  BR W A (evalAll ((backToKw pos (keywordEach xs env)).map (·.2))) (λws s'=>XD W g Q (((backToKw pos (keywordEach xs env)).filterMap (·.1)).zip ws) s') s:=by
 induction a with
 |nil=>intro A env me g h s Q pos a q;exact wpAny_evalAll_nil ⟨g,.refl g,h,a.ok,[],.nil,q⟩
 |cons k p m x ms xs hk hm _ ih=>
  intro A env me g h s Q pos a q
  have kk:backToKw pos (keywordEach (⟨some k,x,p⟩::xs) env)=(some k,do let v<-eval x env;standAt pos;pure v)::backToKw pos (keywordEach xs env):=rfl
  rw[kk]
  refine wpAny_evalAll_cons (wpAny_bind (ai (hm _ _ _ _ _ _ _ a q) λw s₁ z=>wpAny_bind (wpAny_standAt (wpAny_pure ?_))))
  obtain⟨g1,le,h1,o,v,r,q⟩:=z
  refine ai (ih (a.step le o) q) λus s₂ z=> ?_
  obtain⟨g2,le2,h2,o2,vs,r2,q⟩:=z
  exact⟨g2,le.trans le2,h2,o2,_,.cons k v w vs _ hk (AF.mono le2.im v r) r2,q⟩
theorem Ll.star {env:PySem.Env}{pos:Pos}{ms:HW}{xs:List PySem.Expr}(a:Ll W cf n nm ms xs):(backTo pos (starEach xs env)).any (·.1)=false:=by
 induction a with
 |nil=>rfl
 |cons m x ms xs hs _ _ ih=>rw[hs];exact ih
theorem Mr.some {ms:GX}{xs:List Keyword}(a:Mr W cf n nm ms xs):xs.all (·.arg.isSome)=true:=by
 induction a with
 |nil=>rfl
 |cons k p m x ms xs _ _ _ ih=>rw[List.all_cons,ih];rfl
def cQ {env:PySem.Env}{pos:Pos}:∀ {l:List Keyword},l.all (·.arg.isSome)=true->(backToKw pos (keywordEach l env)).all (·.1.isSome)=true
 | [],_=>rfl
 |⟨b,d,f⟩::l,q=>by
  rw[List.all_cons,Bool.and_eq_true] at q
  show(b.isSome && (backToKw pos (keywordEach l env)).all (·.1.isSome))=true
  rw[cQ q.2,Bool.and_true];exact q.1
def qk {env:PySem.Env}{pos:Pos}{l:List Keyword}(h:l.all (·.arg.isSome)=true):(backToKw pos (keywordEach l env)).any (·.1.isNone)=false:=by
 have :=cQ (env:=env) (pos:=pos) h
 rw[List.any_eq_false]
 intro x hx
 have :=List.all_eq_true.mp this x hx
 cases e:x.1 with
 |none=>rw[e] at this;cases this
 |some _=>simp
def Ki (W:Bl)(f:Value)(h:Heap):Prop:=∃ k,(k=Keeper.frame\/k=Keeper.machine\/k=Keeper.boundFrame)/\Looks (model W.prog W.w) h (keeperOf f) k
def jt {f:Value}{h:Heap}(X:W.K.In h)(k:keepIn W.K f=true):Ki W f h:=keeps_K k h X
def gM {f:Value}{h:Heap}(k:∀ a,f≠ .ref a):Ki W f h:=⟨.machine,.inr (.inl rfl),by cases f <;> first|exact .now|exact absurd rfl (k _)⟩
def tz {a:Addr}{h:Heap}{o:Obj}{fd:FuncData}(e:h.get? a=some o)(hd:o.data= .func fd):Ki W (.ref a) h:=⟨.frame,.inl rfl,by
 refine(Looks.ld (part:=none) e).andThen ?_
 obtain⟨_,_,_,_⟩:=o
 subst hd;exact .now⟩
abbrev Nd (ms:HW)(mk:GX)(cf:Cc)(me:AZ):(List V->List (Nat×V)->H->Prop)->H->Prop:=λR h=>ms cf me (λvs h=>mk cf me (λus h=>R vs us h) h) h
def bB {A:Around}{env:PySem.Env}{me:AZ}{g:A8}{h:H}{s:Shared}{f:Value}{first:List Value}{pos:Pos}{ms:HW}{mk:GX}{xs:List PySem.Expr}{ks:List Keyword}{R:List V->List (Nat×V)->H->Prop}{Q:Value->Shared->Prop}(a:DT W n nm A env me g h s)
  (h1:Ll W cf n nm ms xs)(h2:Mr W cf n nm mk ks)(q:Nd ms mk cf me R h)
  (hc:∀ g' h' s' vs us ws wk,HV g g'->Ok W g' h' s'->AE g' vs ws->DK g' us wk->(ks= []->wk= [])->R vs us h'->Ki W f s'.heap/\BR W A (call f (first++ws) wk) Q s'):
  BR W A (callWith pos f first (backTo pos (starEach xs env)) (backToKw pos (keywordEach ks env))) Q s:=by
 refine callWith_of (P:=Ki W f) (by rw[h1.star,qk h2.some];rfl) (λU z=>z) ?_
 cases h1 with
 |nil=>
  refine evalArgs_kw2_nil (cQ h2.some) (ai (h2.ev a q) λws s' z=> ?_)
  obtain⟨g1,le,h1,o,vs,r,q⟩:=z
  exact hc g1 h1 s' [] vs [] _ le o .mk r (λe=>by subst e;rfl) q
 |cons m x ms xs hs hm hr=>
  refine evalArgs_kw2 (cQ h2.some) ?_ (hs _ _)
  refine iX ((Ll.cons m x ms xs hs hm hr).ev a q) λws s₁ g1 le h1 o vs r q=> ?_
  refine ai (h2.ev (a.step le o) q) λwk s₂ z=> ?_
  obtain⟨g2,le2,h2,o2,us,r2,q⟩:=z
  exact hc g2 h2 s₂ vs us ws _ (le.trans le2) o2 (AE.mono le2.im vs r) r2 (λe=>by subst e;rfl) q
def Ab (f:V->V->M V)(a b:A4):A4:=λcf e Q h=>a cf e (λx h=>b cf e (λy h=>f x y Q h) h) h
def DP (f:V->M V)(a:A4):A4:=λcf e Q h=>a cf e (λx h=>f x Q h) h
def t0 {f:V->V->M V}{op:Operator}{a b:A4}{x y:PySem.Expr}{p:Pos}(hf:Ds W f (binaryOp op))(h1:Bw W cf n nm a x)(h2:Bw W cf n nm b y):Bw W cf n nm (Ab f a b) (.BinOp x op y p):=λA env me g h s Q a q=>by
 refine wpAny_BinOp (a7 (h1 _ _ _ _ _ _ _ a q) λw s₁ g1 le h1 o v r q=> ?_)
 refine a7 (h2 _ _ _ _ _ _ _ (a.step le o) q) λu s₂ g2 le2 h2 o2 v2 r2 q=> ?_
 exact ai (hf a.room o2 (AF.mono le2.im v r) r2 q) λU U z=>(z.after le2).after le
def uc {f:V->V->M V}{op:CmpOp}{a b:A4}{x y:PySem.Expr}{p:Pos}(hm:behindInMarks op y=false)(hf:Ds W f (compareOp op))(h1:Bw W cf n nm a x)(h2:Bw W cf n nm b y):Bw W cf n nm (Ab f a b) (.Compare x [op] [y] p):=λA env me g h s Q a q=>by
 refine wpAny_Compare1 (ai (h1 _ _ _ _ _ _ _ a q) λw s₁ z=> ?_) hm
 obtain⟨g1,le,h1,o,v,r,q⟩:=z
 refine a7 (h2 _ _ _ _ _ _ _ (a.step le o) q) λu s₂ g2 le2 h2 o2 v2 r2 q=> ?_
 exact ai (hf a.room o2 (AF.mono le2.im v r) r2 q) λU U z=>(z.after le2).after le
def um {a:A4}{x:PySem.Expr}{p:Pos}(h1:Bw W cf n nm a x):Bw W cf n nm (DP LT a) (.UnaryOp .USub x p):=λA env me g h s Q a q=>by
 refine wpAny_UnaryOp (a7 (h1 _ _ _ _ _ _ _ a q) λw s₁ g1 le h1 o v r q=> ?_)
 exact ai (tK a.room o r q) λU U z=>z.after le
def fE {A:Around}{env:PySem.Env}{s:Shared}{o:PySem.Expr}{attr:Str}{p:Pos}{Q:Value->Shared->Prop}(hb:FG o)(h:BR W A (eval o env) (λv s₁=>BR W A (getAttr v attr true) Q s₁) s):
  BR W A (eval (.Attribute o attr p) env) Q s:=by
 rw[arm_eval_Attribute]
 rw[hb]
 refine wpAny_bind ((ai h λv s₁ z=>wpAny_bind (wpAny_standAt (wpAny_bind (wpAny_holding (ai z λr s₂ z=> ?_))))))
 exact wpAny_bind (wpAny_letTemporaryGo (wpAny_pure z))
def Al (m:A4)(n:Nat):A4:=λcf e Q h=>m cf e (λx h=>K4 cf n x Q h) h
def nE {m:A4}{a:Str}{o:PySem.Expr}{p:Pos}(hh:DC W n cf)(ha:good a=true)(hb:FG o)(h1:Bw W cf n nm m o):Bw W cf n nm (Al m (AI a)) (.Attribute o a p):=λA env me g h s Q a q=>by
 refine fE hb (a7 (h1 _ _ _ _ _ _ _ a q) λw s₁ g1 le h1 o v r q=> ?_)
 exact ai (gb hh a.room o ha r q) λU U z=>z.after le
def ui {a b:A4}{x y:PySem.Expr}{p:Pos}(hy:OK y)(h1:Bw W cf n nm a x)(h2:Bw W cf n nm b y):Bw W cf n nm (Ab Au a b) (.Subscript x y p):=λA env me g h s Q a q=>by
 refine Subscript_ (a7 (h1 _ _ _ _ _ _ _ a q) λw s₁ g1 le h1 o v r q=> ?_)
 refine a7 (h2 _ _ _ _ _ _ _ (a.step le o) q) λu s₂ g2 le2 h2 o2 v2 r2 q=> ?_
 exact ai (oZ o2 (AF.mono le2.im v r) r2 q hy) λU U z=>(z.after le2).after le
def Nk (x i:V):M V:=λQ h=>AJ (Rz x h) λxs=>AJ i.int? λk=>Qw xs k none Q h
def LZ (x i j:V):M V:=λQ h=>AJ (Rz x h) λxs=>AJ i.int? λk=>AJ j.int? λl=>Qw xs k (some l) Q h
def O2 (f:V->V->V->M V)(a b c:A4):A4:=λcf e Q h=>a cf e (λx h=>b cf e (λy h=>c cf e (λz h=>f x y z Q h) h) h) h
def rj {a b:A4}{x y:PySem.Expr}{p p':Pos}(h1:Bw W cf n nm a x)(h2:Bw W cf n nm b y):Bw W cf n nm (Ab Nk a b) (.Subscript x (.Slice (some y) none none p') p):=λA env me g h s Q a q=>by
 refine Subscript_ (a7 (h1 _ _ _ _ _ _ _ a q) λw s₁ g1 le h1 o v r q=> ?_)
 refine wpAny_Slice (wpAny_evalPart_some (ai (h2 _ _ _ _ _ _ _ (a.step le o) q) λu s₂ z=>wpAny_evalPart_none (wpAny_evalPart_none ?_)))
 obtain⟨g2,le2,h2,o2,v2,r2,q⟩:=z
 refine ao q λxs e q=> ?_
 refine FJ r2 q λi t q=> ?_
 exact ai (iK o2 (fu o2 (AF.mono le2.im v r) e) (.int i t) .none q) λU U z=>(z.after le2).after le
def rk {a b c:A4}{x y z:PySem.Expr}{p p':Pos}(h1:Bw W cf n nm a x)(h2:Bw W cf n nm b y)(h3:Bw W cf n nm c z):Bw W cf n nm (O2 LZ a b c) (.Subscript x (.Slice (some y) (some z) none p') p):=λA env me g h s Q a q=>by
 refine Subscript_ (a7 (h1 _ _ _ _ _ _ _ a q) λw s₁ g1 le h1 o v r q=> ?_)
 refine wpAny_Slice (wpAny_evalPart_some (a7 (h2 _ _ _ _ _ _ _ (a.step le o) q) λu s₂ g2 le2 h2 o2 v2 r2 q=> ?_))
 refine wpAny_evalPart_some (ai (h3 _ _ _ _ _ _ _ ((a.step le o).step le2 o2) q) λu s₃ z=>wpAny_evalPart_none ?_)
 obtain⟨g3,le3,h3,o3,v3,r3,q⟩:=z
 refine ao q λxs e q=> ?_
 refine FJ (AF.mono le3.im v2 r2) q λi t q=> ?_
 refine FJ r3 q λj t' q=> ?_
 exact ai (iK o3 (fu o3 (AF.mono le3.im v (AF.mono le2.im v r)) e) (.int i t) (.int j t') q) λU U z=>((z.after le3).after le2).after le
def E0 (ms:HW):A4:=λcf e Q h=>ms cf e (λvs h=>vs.length<=1000/\Q (.tup vs) h) h
def Dc (ms:HW):A4:=λcf e Q h=>ms cf e (λvs h=>vs.length<=1000/\∀ a,h a=none->Q (.ref a) (Ad h a (some (.lst vs)))) h
def nH {ms:HW}{xs:List PySem.Expr}{k:Nat}{p:Pos}(h1:Ll W cf n nm ms xs):Bw W cf n nm (E0 ms) (.Tuple xs k p):=λA env me g h s Q a q=>by
 refine wpAny_Tuple (iX (h1.ev a q) λws s₁ g1 le h1 o vs r q=> ?_)
 refine⟨by have :=r.length;have :=sizeLine_eq;omega,?_⟩
 exact(o.U1 (vals:=ws.toArray) (n:=0) (tk:=s₁.toks) (λb o e=>Heap.get?_push_of_some _ e) (al _) (Heap.get?_push_size _ rfl) (by simpa using r) q.2).after le
def uk {ms:HW}{xs:List PySem.Expr}{p:Pos}(h1:Ll W cf n nm ms xs):Bw W cf n nm (Dc ms) (.List xs p):=λA env me g h s Q a q=>by
 refine wpAny_List (iX (h1.ev a q) λws s₁ g1 le h1 o vs r q=> ?_)
 have :=r.length
 have e:=eS
 refine⟨by have :=sizeLine_eq;omega,?_⟩
 exact(o.newL (vals:=ws.toArray) (n:=0) (tk:=s₁.toks) (λb o e=>Heap.get?_push_of_some _ e) (al _) (Heap.get?_push_size _ rfl) (by simpa using r) (by omega) q.2).after le
end
section
variable {W:Bl}{n:Nat}{nm:DI}{cf:Cc}
def An (m:A4):Ev:=λcf e Q h=>m cf e (λv h=>AJ (Eu v h) λb=>Q b h) h
def RT (x:PySem.Expr):Prop:=∀ (env:PySem.Env) (whole:Sem Value),isTrue x env whole=(do let v<-whole;standAt x.pos;holding [v] (truthy v))
def vA {m:A4}{x:PySem.Expr}(h1:Bw W cf n nm m x)(he:RT x):Mu W cf n nm (An m) x:=λA env me g h s Q a q=>by
 refine wpAny_isTrue_value (ai (h1 _ _ _ _ _ _ _ a q) λw s₁ z=> ?_) (he _ _)
 obtain⟨g1,le,h1,o,v,r,q⟩:=z
 exact ai (cb o r q) λU U z=>z.after le
def tV {f:V->V->M V}{op:CmpOp}{a b:A4}{x y:PySem.Expr}{p:Pos}(hm:behindInMarks op y=false)(hf:Ds W f (compareOp op))(h1:Bw W cf n nm a x)(h2:Bw W cf n nm b y):Mu W cf n nm (An (Ab f a b)) (.Compare x [op] [y] p):=λA env me g h s Q a q=>by
 refine wpAny_isTrue_Compare1 (ai (h1 _ _ _ _ _ _ _ a q) λw s₁ z=> ?_) hm
 obtain⟨g1,le,h1,o,v,r,q⟩:=z
 refine a7 (h2 _ _ _ _ _ _ _ (a.step le o) q) λu s₂ g2 le2 h2 o2 v2 r2 q=> ?_
 refine a7 (hf a.room o2 (AF.mono le2.im v r) r2 q) λu s₃ g3 le3 h3 o3 v3 r3 q=> ?_
 exact ai (cb o3 r3 q) λU U z=>((z.after le3).after le2).after le
def EF (b:Ev):Ev:=λcf e Q h=>b cf e (λt h=>Q (!t) h) h
def tW {b:Ev}{x:PySem.Expr}{p:Pos}(h1:Mu W cf n nm b x):Mu W cf n nm (EF b) (.UnaryOp .Not x p):=λA env me g h s Q a q=>by
 refine wpAny_isTrue_Not (dX (h1 _ _ _ _ _ _ _ a q) λw s₁ g1 le h1 o q=> ?_)
 exact⟨g1,le,h1,o,q⟩
def WZ (m:A4):A4:=λcf e Q h=>m cf e (λv h=>AJ (Eu v h) λb=>Q (.bool !b) h) h
def un {m:A4}{x:PySem.Expr}{p:Pos}(h1:Bw W cf n nm m x):Bw W cf n nm (WZ m) (.UnaryOp .Not x p):=λA env me g h s Q a q=>by
 refine wpAny_UnaryOp (a7 (h1 _ _ _ _ _ _ _ a q) λw s₁ g1 le h1 o v r q=> ?_)
 show BR W A (unaryOp .Not w) _ s₁
 unfold unaryOp
 refine wpAny_holding ?_
 dsimp only
 rw[if_pos (by rfl)]
 refine wpAny_bind (dX (cb (Q:=λb h=>Q (.bool !b) h) o r q) λt s₂ g2 le2 h2 o2 q=> ?_)
 exact wpAny_pure ⟨g2,le.trans le2,h2,o2,_,cJ _,q⟩
def Gm (t:Ev)(a b:A4):A4:=λcf e Q h=>t cf e (λc h=>cond c (a cf e Q h) (b cf e Q h)) h
def uh {t:Ev}{a b:A4}{z x y:PySem.Expr}{p:Pos}(h0:Mu W cf n nm t z)(h1:Bw W cf n nm a x)(h2:Bw W cf n nm b y):Bw W cf n nm (Gm t a b) (.IfExp z x y p):=λA env me g h s Q a q=>by
 refine wpAny_IfExp (dX (h0 _ _ _ _ _ _ _ a q) λw s₁ g1 le h1' o q=> ?_)
 cases w with
 |true=>exact ai (h1 _ _ _ _ _ _ _ (a.step le o) q) λU U z=>z.after le
 |false=>exact ai (h2 _ _ _ _ _ _ _ (a.step le o) q) λU U z=>z.after le
def Cp (a b:Ev):Ev:=λcf e Q h=>a cf e (λt h=>cond t (b cf e Q h) (Q false h)) h
def Fk (a b:Ev):Ev:=λcf e Q h=>a cf e (λt h=>cond t (Q true h) (b cf e Q h)) h
def O6 (W:Bl)(cf:Cc)(n:Nat)(nm:DI)(op:BoolOp)(m:Ev)(xs:List PySem.Expr):Prop:=
 ∀ A env me g h s Q,DT W n nm A env me g h s->m cf me Q h->BR W A (allTrue op xs env) (QC W g Q) s
def q7 {op:BoolOp}{m:Ev}{x:PySem.Expr}(h1:Mu W cf n nm m x):O6 W cf n nm op m [x]:=λA env me g h s Q a q=>by
 cases op with
 |And=>exact wpAny_allTrue_And_cons (ai (h1 _ _ _ _ _ _ _ a q) λt s₁ z=>by cases t with |true=>exact wpAny_allTrue_And_nil z|false=>exact z)
 |Or=>exact wpAny_allTrue_Or_cons (ai (h1 _ _ _ _ _ _ _ a q) λt s₁ z=>by cases t with |true=>exact z|false=>exact wpAny_allTrue_Or_nil z)
def q6 {m r:Ev}{x:PySem.Expr}{xs:List PySem.Expr}(h1:Mu W cf n nm m x)(h2:O6 W cf n nm .And r xs):O6 W cf n nm .And (Cp m r) (x::xs):=λA env me g h s Q a q=>by
 refine wpAny_allTrue_And_cons (dX (h1 _ _ _ _ _ _ _ a q) λt s₁ g1 le h1' o q=> ?_)
 cases t with
 |true=>exact ai (h2 _ _ _ _ _ _ _ (a.step le o) q) λU U z=>z.after le
 |false=>exact⟨g1,le,h1',o,q⟩
def tX {m r:Ev}{x:PySem.Expr}{xs:List PySem.Expr}(h1:Mu W cf n nm m x)(h2:O6 W cf n nm .Or r xs):O6 W cf n nm .Or (Fk m r) (x::xs):=λA env me g h s Q a q=>by
 refine wpAny_allTrue_Or_cons (dX (h1 _ _ _ _ _ _ _ a q) λt s₁ g1 le h1' o q=> ?_)
 cases t with
 |false=>exact ai (h2 _ _ _ _ _ _ _ (a.step le o) q) λU U z=>z.after le
 |true=>exact⟨g1,le,h1',o,q⟩
def tU {op:BoolOp}{m:Ev}{xs:List PySem.Expr}{p:Pos}(h1:O6 W cf n nm op m xs):Mu W cf n nm m (.BoolOp op xs p):=λA env me g h s Q a q=>h1 _ _ _ _ _ _ _ a q
def PI (a b:A4):A4:=λcf e Q h=>a cf e (λv h=>AJ (Eu v h) λt=>cond t (b cf e Q h) (Q v h)) h
def Wj (a b:A4):A4:=λcf e Q h=>a cf e (λv h=>AJ (Eu v h) λt=>cond t (Q v h) (b cf e Q h)) h
def QH (W:Bl)(cf:Cc)(n:Nat)(nm:DI)(op:BoolOp)(m:A4)(xs:List PySem.Expr):Prop:=
 xs≠ []/\∀ A env me g h s Q p,DT W n nm A env me g h s->m cf me Q h->BR W A (boolOp p op (evalEach xs env)) (IF W g Q) s
def rE {op:BoolOp}{m:A4}{x:PySem.Expr}(h1:Bw W cf n nm m x):QH W cf n nm op m [x]:=⟨λh=>(nomatch h),λA env me g h s Q p a q=>h1 _ _ _ _ _ _ _ a q⟩
def nR {A:Around}{s:Shared}{p:Pos}{op:BoolOp}{x y:Sem Value}{r:List (Sem Value)}{Q:Value->Shared->Prop}
  (h:BR W A x (λv s₁=>BR W A (truthy v) (λt s₂=>if t=(op== .And) then BR W A (boolOp p op (y::r)) Q s₂ else Q v s₂) s₁) s):BR W A (boolOp p op (x::y::r)) Q s:=by
 unfold boolOp
 refine wpAny_bind (ai h λv s₁ h₁=>wpAny_bind (wpAny_standAt (wpAny_bind (wpAny_holding (ai h₁ λt s₂ h₂=> ?_)))))
 cases op <;> cases t <;> first|exact h₂|exact wpAny_pure h₂
def jU {op:BoolOp}{m r:A4}{x:PySem.Expr}{xs:List PySem.Expr}(h1:Bw W cf n nm m x)(h2:QH W cf n nm op r xs):QH W cf n nm op (match op with | .And=>PI m r| .Or=>Wj m r) (x::xs):=⟨λh=>(nomatch h),λA env me g h s Q p a q=>by
 cases xs with
 |nil=>exact absurd rfl h2.1
 |cons y ys=>
  refine nR ?_
  cases op with
  |And=>
   refine a7 (h1 _ _ _ _ _ _ _ a q) λw s₁ g1 le h1' o v r q=> ?_
   refine dX (cb (Q:=λt h=>cond t (_) (Q v h)) o r q) λt s₂ g2 le2 h2' o2 q=> ?_
   cases t with
   |true=>exact ai (h2.2 _ _ _ _ _ _ _ _ ((a.step le o).step le2 o2) q) λU U z=>(z.after le2).after le
   |false=>exact⟨g2,le.trans le2,h2',o2,v,AF.mono le2.im v r,q⟩
  |Or=>
   refine a7 (h1 _ _ _ _ _ _ _ a q) λw s₁ g1 le h1' o v r q=> ?_
   refine dX (cb (Q:=λt h=>cond t (Q v h) (_)) o r q) λt s₂ g2 le2 h2' o2 q=> ?_
   cases t with
   |false=>exact ai (h2.2 _ _ _ _ _ _ _ _ ((a.step le o).step le2 o2) q) λU U z=>(z.after le2).after le
   |true=>exact⟨g2,le.trans le2,h2',o2,v,AF.mono le2.im v r,q⟩⟩
def t5 {op:BoolOp}{m:A4}{xs:List PySem.Expr}{p:Pos}(h1:QH W cf n nm op m xs):Bw W cf n nm m (.BoolOp op xs p):=λA env me g h s Q a q=>h1.2 _ _ _ _ _ _ _ _ a q
def uf {x:Str}{p:Pos}{i:Int}(hh:DC W n cf)(hx:good x=true)(hk:nm.lookup x=some .globalImplicit)(hi:look (AI x) Py=some i):Bw W cf n nm (Ag (.int i)) (.Name x p):=λA env me g h s Q a q=>by
 obtain⟨t,e⟩:=hh.k.Sy x i hx hi
 exact dT hh.w a.ok a.BL (a.kind hk) (mg_of hh.w.K hh.w.g e) (aZ hx) (.Dh a.ok (cB ..) q)
def ua {c a:Str}{p p':Pos}{i:Int}(hh:DC W n cf)(hc:good c=true)(ha:good a=true)(hk:nm.lookup c=some .globalImplicit)(hi:KT Re (AI c) (AI a)=some i):Bw W cf n nm (Ag (.int i)) (.Attribute (.Name c p) a p'):=λA env me g h s Q at_ q=>by
 obtain⟨C,t,mc,e4,e5,e6⟩:=hh.k.cat c a i hc ha hi
 refine fE (λU U U=>rfl) (dT hh.w at_.ok at_.BL (at_.kind hk) (mg_of hh.w.K hh.w.g e4) (aZ hc) ?_)
 exact cls_value (dq hh.w at_.ok) e5 e6 rfl (.here at_.ok (cB ..) q)
def jV {A:Around}{g:A8}{h:H}{s:Shared}{f:Nat}{vs:List V}{us:List (Nat×V)}{ws:List Value}{wk:List (Str×Value)}{Q:V->H->Prop}(hh:DC W n cf)(hA:Ft n A)(ho:Ok W g h s)(r1:AE g vs ws)(r2:DK g us wk)(q:cf f vs us Q h):
  BR W A (call (.ref (W.fa f)) ws wk) (IF W g Q) s:=
 wpAny_call (codeAny_mono (hh.call ho hA.w r1 r2 q) λr s' z=>by cases z with |mk w s' z=>exact z)
def BK (f:Nat)(ms:HW)(mk:GX):A4:=λcf e Q h=>Nd ms mk cf e (λvs us h=>cf f vs us Q h) h
def q9 {f:Str}{k:Nat}{ms:HW}{mk:GX}{xs:List PySem.Expr}{ks:List Keyword}{p pos:Pos}(hh:DC W n cf)(hf:good f=true)(hk:nm.lookup f=some .globalImplicit)(hg:look (AI f) Qh=some k)(h1:Ll W cf n nm ms xs)(h2:Mr W cf n nm mk ks):
  Bw W cf n nm (BK k ms mk) (.Call (.Name f p) xs ks pos):=λA env me g h s Q a q=>by
 refine wpAny_Call_Name_kw (dT hh.w a.ok a.BL (a.kind hk) (mg_of hh.w.K hh.w.g (hh.k.glob f k hf hg)) (aZ hf) ?_)
 exact bB a h1 h2 q λg' h' s' vs us ws wk le o r1 r2 U q=>⟨jt (dq hh.w o) (hh.k.Rq k).kp,ai (jV hh a.room o r1 r2 q) λU U z=>z.after le⟩
def F4 (C:Nat)(ms:HW)(mk:GX):A4:=λcf e Q h=>Nd ms mk cf e (λvs us h=>KW cf C vs us Q h) h
def vC {f:Str}{C:Nat}{ms:HW}{mk:GX}{xs:List PySem.Expr}{ks:List Keyword}{p pos:Pos}(hh:DC W n cf)(hf:good f=true)(hk:nm.lookup f=some .globalImplicit)(hg:look (AI f) Om=some C)(h1:Ll W cf n nm ms xs)(h2:Mr W cf n nm mk ks):
  Bw W cf n nm (F4 C ms mk) (.Call (.Name f p) xs ks pos):=λA env me g h s Q a q=>by
 refine wpAny_Call_Name_kw (dT hh.w a.ok a.BL (a.kind hk) (mg_of hh.w.K hh.w.g (hh.k.cls f C hf hg)) (aZ hf) ?_)
 exact bB a h1 h2 q λg' h' s' vs us ws wk le o r1 r2 U q=>⟨jt (dq hh.w o) (hh.k.keep C),wpAny_call (codeAny_mono (o7 hh a.room o r1 r2 q) λr s' z=>by cases z with |mk w s' z=>exact z.after le)⟩
end
section
variable {W:Bl}{n:Nat}{nm:DI}{cf:Cc}
def fF {x:Str}(h:x∈Lu):x≠("__name__":Str)/\(x==("__debug__":Str))=false:=by
 have :Lu.all (λx=>x !=("__name__":Str) && !(x==("__debug__":Str)))=true:=by decide+kernel
 have :=List.all_eq_true.mp this x h
 rw[Bool.and_eq_true,bne_iff_ne,Bool.not_eq_true'] at this
 exact this
structure HN (x:Str)(b:Value):Prop where
 mem:x∈Lu
 boot:bootBuiltins x=some b
 no:∀ a,b≠ .ref a
def bM {A:Around}{env:PySem.Env}{me:AZ}{g:A8}{h:H}{s:Shared}{x:Str}{f:Value}{p pos:Pos}{ms:HW}{xs:List PySem.Expr}{Q:Value->Shared->Prop}{R:List V->H->Prop}(hh:DC W n cf)(a:DT W n nm A env me g h s)
  (hk:nm.lookup x=some .globalImplicit)(hx:HN x f)(h1:Ll W cf n nm ms xs)(q:ms cf me R h)(hc:∀ g' h' s' vs ws,HV g g'->Ok W g' h' s'->AE g' vs ws->R vs h'->BR W A (call f ws []) Q s'):
  BR W A (eval (.Call (.Name x p) xs [] pos) env) Q s:=by
 refine wpAny_Call_Name_kw (dg hh.w a.ok a.BL (a.kind hk) (mg_none_of hh.w.K hh.w.g (hh.k.bi x hx.mem)) hx.boot (fF hx.mem).1 (fF hx.mem).2 ?_)
 exact bB (R:=λvs U h=>R vs h) (mk:=Az) a h1 .nil q λg' h' s' vs us ws wk le o r1 r2 e q=>⟨gM hx.no,by rw[e rfl];exact hc g' h' s' vs ws le o r1 q⟩
def tY {f:V->M V}{x:Str}{b:Value}{m:A4}{y:PySem.Expr}{p pos:Pos}(hh:DC W n cf)(hf:O5 W f λw=>call b [w])(hx:HN x b)(hk:nm.lookup x=some .globalImplicit)(hs:DA y)(h1:Bw W cf n nm m y):
  Bw W cf n nm (DP f m) (.Call (.Name x p) [y] [] pos):=λA env me g h s Q a q=>
 bM (ms:=Ah m As) (R:=λvs h=>match vs with | [v]=>f v Q h|_=>False) hh a hk hx (.cons _ _ _ _ hs h1 .nil) q λg' h' s' vs ws le o r q=>by
  cases vs with
  |nil=>exact q.elim
  |cons v vs=>cases vs with
   |cons _ _=>exact q.elim
   |nil=>cases r with |mk w ws r hr=>cases hr;exact ai (hf a.room o r q) λU U z=>z.after le
def tZ {f:V->V->M V}{x:Str}{b:Value}{m1 m2:A4}{y z:PySem.Expr}{p pos:Pos}(hh:DC W n cf)(hf:Ds W f λw u=>call b [w,u])(hx:HN x b)(hk:nm.lookup x=some .globalImplicit)(hs:DA y)(hs2:DA z)(h1:Bw W cf n nm m1 y)(h2:Bw W cf n nm m2 z):
  Bw W cf n nm (Ab f m1 m2) (.Call (.Name x p) [y,z] [] pos):=λA env me g h s Q a q=>
 bM (ms:=Ah m1 (Ah m2 As)) (R:=λvs h=>match vs with | [v,u]=>f v u Q h|_=>False) hh a hk hx (.cons _ _ _ _ hs h1 (.cons _ _ _ _ hs2 h2 .nil)) q λg' h' s' vs ws le o r q=>by
  cases vs with
  |nil=>exact q.elim
  |cons v vs=>cases vs with
   |nil=>exact q.elim
   |cons v2 vs=>cases vs with
    |cons _ _=>exact q.elim
    |nil=>cases r with |mk w ws r hr=>cases hr with |mk w2 ws r2 hr=>cases hr;exact ai (hf a.room o r r2 q) λU U z=>z.after le
def sG:HN "len" (.builtin "len"):=⟨by decide+kernel,by decide+kernel,λU h=>nomatch h⟩
def sF:HN "abs" (.builtin "abs"):=⟨by decide+kernel,by decide+kernel,λU h=>nomatch h⟩
def eB:HN "sum" (.builtin "sum"):=⟨by decide+kernel,by decide+kernel,λU h=>nomatch h⟩
def mf:HN "min" (.builtin "min"):=⟨by decide+kernel,by decide+kernel,λU h=>nomatch h⟩
def sH:HN "max" (.builtin "max"):=⟨by decide+kernel,by decide+kernel,λU h=>nomatch h⟩
def qr:HN "list" (.type "list"):=⟨by decide+kernel,by decide+kernel,λU h=>nomatch h⟩
def sI:HN "set" (.type "set"):=⟨by decide+kernel,by decide+kernel,λU h=>nomatch h⟩
def R6 (x:V):M V:=λQ h=>AJ x.ref? λa=>AJ (CK h a) λp=>∀ c,h c=none->Q (.ref c) (Ad h c (some (.lst (p.2.map λp=> .int p.1))))
theorem AE.of_get {g:A8}:∀ {vs:List V} {ws:List Value},vs.length=ws.length->(∀ (i:Nat) (v:V) (w:Value),vs[i]? =some v->ws[i]? =some w->AF g v w)->AE g vs ws
 | [],[],_,_=> .mk
 |v::vs,w::ws,h,k=> .mk w ws (k 0 v w rfl rfl) (AE.of_get (by simpa using h) λi v w h1 h2=>k (i+1) v w (by simpa using h1) (by simpa using h2))
 | [],_::_,h,_=>by cases h
 |_::_,[],h,_=>by cases h
theorem J5.at_ {g:A8}{kvs:List (Int×Value)}{l:List (Int×V)}(d:J5 g kvs l):∀ (i:Nat) (k:Int) (w:Value),kvs[i]? =some (k,w)->∃ v,l[i]? =some (k,v)/\AF g v w:=by
 induction d with
 |nil=>intro i k w e;cases e
 |cons k' v' w' _ _ hv _ ih=>
  intro i k w e
  cases i with
  |zero=>cases e;exact⟨v',rfl,hv⟩
  |succ i=>exact ih i k w e
def oE:O5 W R6 λw=>call (.type "list") [w]:=λ {k A g h s Q x w} hA ho hx q=>by
 refine Fb hx q λd q=> ?_
 refine ao q λp e q=> ?_
 have e:=aQ e
 obtain⟨kvs,hat,r,sz,ns⟩:=ho.BM e
 refine kdl_call (kdl_dict (knd:=W.ik) (kvs:=kvs) (ep:=p.1) ns) hA.handled hat (Nat.le_trans sz bw) λh' tk acc c' hk hob hacc=> ?_
 refine ho.newL hk (al _) hob (AE.of_get ?_ λi v w e1 e2=> ?_) (by rw[List.length_map,<-r.length];exact sz) q
 ·rw[List.length_map,show acc.toList.length=acc.size from rfl,hacc.1,r.length]
 ·obtain⟨k,x,e3,e4⟩:=hacc.2 i w (by rw[<-Array.getElem?_toList];exact e2)
  obtain⟨u,e5,_⟩:=r.at_ i k x e3
  rw[List.getElem?_map,e5] at e1
  cases e1
  obtain⟨t,rfl⟩:=Value.isInt_shape e4
  exact cB ..
def ri {p pos:Pos}(hh:DC W n cf)(hk:nm.lookup ("set":Str)=some .globalImplicit):Bw W cf n nm (Ag .R9) (.Call (.Name "set" p) [] [] pos):=λA env me g h s Q a q=>
 bM (ms:=As) (R:=λvs h=>vs= []/\Q .R9 h) hh a hk sI .nil ⟨rfl,q⟩ λg' h' s' vs ws le o r q=>by
  obtain⟨rfl,q⟩:=q
  cases r with |mk=>exact call_set_0 λled=>(IF.grown (v:= .R9) o (.mk _) q λb o e=>Heap.get?_push_of_some _ e).after le
def SA:A4:=λU U Q h=>∀ a ep,h a=none->Q (.ref a) (Ad h a (some (.BM ep [])))
def ug {p:Pos}(hh:DC W n cf):Bw W cf n nm SA (.Dict [] [] p):=λA env me g h s Q a q=>by
 refine wpAny_Dict_empty ?_
 have lo:(s.heap.objs.size==sysModules)=false:=beq_eq_false_iff_ne.mpr (Nat.ne_of_gt (modules_low (hh.w.lim.keeps λb o e=>a.ok.old e)))
 obtain⟨ep,hd⟩:=(Heap.DictOf.new (knd:=W.ik) s.heap).dictAt
 have f:=a.ok.fresh (al s.heap)
 exact⟨g,.refl g,_,a.ok.new (tk:=s.toks) (λb o e=>Heap.get?_push_of_some _ e) (al _) (.BM ep [] [] hd .nil (Nat.zero_le _) lo),_,iM _,q _ ep f.1⟩
end
section
variable {W:Bl}{n:Nat}{nm:DI}{cf:Cc}{g g':A8}{h h':H}{s s':Shared}{A:Around}
def mI {ms:HW}{mk:GX}{xs:List PySem.Expr}{ks:List Keyword}{env:PySem.Env}{pos:Pos}(h1:Ll W cf n nm ms xs)(h2:Mr W cf n nm mk ks)(hn:xs.length+ks.length < 29):
  methodCallForm (xs.length+ks.length) (backTo pos (starEach xs env)) (backToKw pos (keywordEach ks env))=true:=by
 unfold methodCallForm
 rw[cQ h2.some,Bool.and_true,Bool.and_eq_true]
 refine⟨?_,decide_eq_true ?_⟩
 ·have :=h1.star (env:=env) (pos:=pos)
  rw[List.any_eq_false] at this
  rw[List.all_eq_true]
  intro x hx
  have :=this x hx
  cases e:x.1
  ·rfl
  ·exact absurd e this
 ·split <;> omega
def iL {env:PySem.Env}{o:PySem.Expr}{name:Str}{ap pos:Pos}{ms:HW}{mk:GX}{xs:List PySem.Expr}{ks:List Keyword}{Q:Value->Shared->Prop}(hb:FG o)(h1:Ll W cf n nm ms xs)(h2:Mr W cf n nm mk ks)(hn:xs.length+ks.length < 29)
  (hline:(ap.endLine==pos.line)=true)
  (h:BR W A (eval o env) (λv s₁=>∀ Fs,BR W A (getMethod v name Fs) (λr s₂=>BR W A (callWith pos r.1 r.2 (backTo pos (starEach xs env)) (backToKw pos (keywordEach ks env))) Q s₂) s₁) s):
  BR W A (eval (.Call (.Attribute o name ap) xs ks pos) env) Q s:=by
 rw[arm_eval_Call]
 refine wpAny_bind ?_
 rw[hb]
 refine ai h λv s₁ z=>wpAny_bind (wpAny_standAt ?_)
 unfold methodCall
 rw[mI h1 h2 hn]
 refine wpAny_bind (wpAny_holding ?_)
 show BR W A (getMethod v name _) _ s₁
 refine ai (z _) λr s₂ z=> ?_
 obtain⟨f,first⟩:=r
 refine wpAny_bind ?_
 unfold methodCallPos
 rw[hline]
 exact wpAny_pure z
def OG (W:Bl)(n:Nat):Prop:=∀ {k l A g h s vs ws w Q},Ok W g h s->Ft n A->AF g (.lam k l) w->AE g vs ws->Ql k l vs Q h->Ki W w s.heap/\BR W A (call w ws []) (IF W g Q) s
def Bh (m:A4)(a:Nat)(ms:HW)(mk:GX):A4:=λcf e Q h=>m cf e (λx h=>OS cf a x (Nd ms mk cf e) Q h) h
def ul {m:A4}{a:Str}{ms:HW}{mk:GX}{o:PySem.Expr}{xs:List PySem.Expr}{ks:List Keyword}{ap pos:Pos}(hh:DC W n cf)(hlam:OG W n)(ha:good a=true)(hb:FG o)(hn:xs.length+ks.length < 29)(hline:(ap.endLine==pos.line)=true)
  (h0:Bw W cf n nm m o)(h1:Ll W cf n nm ms xs)(h2:Mr W cf n nm mk ks):Bw W cf n nm (Bh m (AI a) ms mk) (.Call (.Attribute o a ap) xs ks pos):=λA env me g h s Q at_ q=>by
 refine iL hb h1 h2 hn hline (ai (h0 _ _ _ _ _ _ _ at_ q) λw s₁ z Fs=> ?_)
 obtain⟨g1,le,h1',o1,v,r,q⟩:=z
 have at1:=at_.step le o1
 obtain⟨i,q⟩:=lZ q r
 refine ao q λii e q=> ?_
 cases Gb:ii.f (AI a) with
 |none=>
  rw[Gb] at q
  refine ao q λf ef q=> ?_
  refine lS hh o1 ha e Gb ef (bB at1 h1 h2 q λg2 h2 s2 vs us ws wk le2 o2 r1 r2 U q=>⟨jt (dq hh.w o2) (hh.k.Rq f).kp,?_⟩)
  exact ai (jV (vs:=v::vs) hh at_.room o2 (.mk _ _ (AF.mono le2.im v r) r1) r2 q) λU U z=>(z.after le2).after le
 |some u=>
  rw[Gb] at q
  cases u with
  |lam k l=>
   obtain⟨⟨q1,q2⟩,q⟩:=q
   refine iT hh o1 ha e Gb q1 q2 λw rw =>bB (at1.toks (t:=s₁.toks+1)) h1 h2 q λg2 h2 s2 vs us ws wk le2 o2 r1 r2 U q=> ?_
   obtain⟨q0,q⟩:=q
   cases r2 with
   |cons _ _ _ _ _ _ _ _=>cases q0
   |nil=>
    obtain⟨q1,q2⟩:=hlam o2 at_.room (AF.mono le2.im (.lam k l) rw) r1 q
    exact⟨q1,ai q2 λU U z=>(z.after le2).after le⟩
  |_=>exact q.elim
def iq:typeOf (.builtin "list.append")=pure (.type "method_descriptor"):=by show builtinType _=_;rw[builtinType_eq_fast];kernel_rfl
def kg:typeOf (.builtin "dict.pop")=pure (.type "method_descriptor"):=by show builtinType _=_;rw[builtinType_eq_fast];kernel_rfl
def iU:typeOf (.builtin "dict.clear")=pure (.type "method_descriptor"):=by show builtinType _=_;rw[builtinType_eq_fast];kernel_rfl
def di:typeOf (.builtin "dict.values")=pure (.type "method_descriptor"):=by show builtinType _=_;rw[builtinType_eq_fast];kernel_rfl
def iN:typeOf (.builtin "dict.items")=pure (.type "method_descriptor"):=by show builtinType _=_;rw[builtinType_eq_fast];kernel_rfl
inductive PW (hp:Heap)(T:String):Value->Prop
 |mk (a:Addr) (o:Obj) (e:hp.get? a=some o) (c:o.cls= .type T) (d:o.dict=none):PW hp T (.ref a)
def bE {env:PySem.Env}{me:AZ}{o:PySem.Expr}{name:Str}{T id:String}{ap pos:Pos}{m:A4}{ms:HW}{xs:List PySem.Expr}{R:V->List V->H->Prop}{Q:Value->Shared->Prop}(a:DT W n nm A env me g h s)
  (pa:PlainAttrs T)(slot:Slot T name id)(hty:typeOf (.builtin id)=pure (.type "method_descriptor"))(hb:FG o)(hn:xs.length < 29)(hline:(ap.endLine==pos.line)=true)
  (h0:Bw W cf n nm m o)(h1:Ll W cf n nm ms xs){P:V->H->Prop}(q:m cf me P h)
  (EP:∀ {g' h' s' x w},Ok W g' h' s'->AF g' x w->P x h'->PW s'.heap T w/\ms cf me (λvs h=>R x vs h) h')
  (hc:∀ {g' h' s' x w vs ws},HV g g'->Ok W g' h' s'->AF g' x w->AE g' vs ws->R x vs h'->BR W A (call (.builtin id) (w::ws) []) Q s'):
  BR W A (eval (.Call (.Attribute o name ap) xs [] pos) env) Q s:=by
 refine iL hb h1 .nil hn hline (ai (h0 _ _ _ _ _ _ _ a q) λw s₁ z Fs=> ?_)
 obtain⟨g1,le,h1',o1,v,r,q⟩:=z
 obtain⟨ty,q⟩:=EP o1 r q
 obtain⟨b,ob,hob,JB,hd⟩:=ty
 refine getMethod_builtin ⟨_,hob,JB⟩ pa slot hty (λb q=>by cases q;exact⟨ob,hob,hd⟩) ?_
 exact bB (R:=λvs U h=>R v vs h) (mk:=Az) (a.step le o1) h1 .nil q λg2 h2 s2 vs us ws wk le2 o2 r1 r2 e q=>⟨gM (λU h=>nomatch h),by
  rw[e rfl];exact hc (le.trans le2) o2 (AF.mono le2.im v r) r1 q⟩
def qO {x:V}{w:Value}{xs:List V}(ho:Ok W g h s)(r:AF g x w)(e:(AT x.ref? λl=>getL h l)=some xs):PW s.heap "list" w:=by
 refine aI e λa e1 e2=> ?_
 cases V.Il e1
 cases r
 obtain⟨vals,n,ea,r,l,z⟩:=ho.list (aM e2)
 exact .mk a _ ea rfl rfl
def eM {a:Nat}{p:Nat×List (Int×V)}(ho:Ok W g h s)(e:CK h a=some p):PW s.heap "dict" (.ref a):=by
 obtain⟨kvs,hat,r,sz,ns⟩:=ho.BM (aQ e)
 obtain⟨o,es,h1,h2,_⟩:=hat
 exact .mk a o h1 h2.1 h2.2.1
def JN (a b:A4):A4:=λcf e Q h=>a cf e (λx h=>AJ (AT x.ref? λl=>getL h l) λU=>b cf e (λy h=>LJ x y Q h) h) h
def jT {a b:A4}{o y:PySem.Expr}{ap pos:Pos}(hb:FG o)(hs:DA y)(hline:(ap.endLine==pos.line)=true)(h0:Bw W cf n nm a o)(h1:Bw W cf n nm b y):Bw W cf n nm (JN a b) (.Call (.Attribute o "append" ap) [y] [] pos):=λA env me g h s Q at_ q=>
 bE (ms:=Ah b As) (R:=λx vs h=>match vs with | [y]=>LJ x y Q h|_=>False) at_ PySem.F.plainAttrs_list PySem.F.slot_list_append iq hb (Nat.lt_of_sub_eq_succ rfl) hline h0 (.cons _ _ _ _ hs h1 .nil) q
  (λ {g' h' s' x w} ho r q=>by cases bh q with |mk xs e q=>exact⟨qO ho r e,q⟩) λ {g' h' s' x w vs ws} le o r rs q=>by
   cases vs with
   |nil=>exact q.elim
   |cons v vs=>cases vs with
    |cons _ _=>exact q.elim
    |nil=>cases rs with |mk w2 ws r2 hr=>cases hr;exact ai (sB at_.room o r r2 q) λU U z=>z.after le
def M8 (x k:V):M V:=λQ h=>AJ x.ref? λa=>AJ (CK h a) λp=>AJ k.int? λj=>AJ (p.2.lookup j) λv=>∀ ep,Q v (Ad h a (some (.BM ep (p.2.filter λp=>p.1 !=j))))
theorem J5.valueAt {kvs:List (Int×Value)}{l:List (Int×V)}(d:J5 g kvs l)(k:Int):IH g (l.lookup k) (PySem.valueAt kvs k):=by
 induction d with
 |nil=>exact .none
 |cons j v w _ _ hv _ ih=>
  rw[bS,List.lookup_cons]
  by_cases e:j=k
  ·subst e;rw[if_pos rfl,beq_self_eq_true];exact .some v w hv
  ·rw[if_neg e,beq_eq_false_iff_ne.mpr λq=>e q.symm];exact ih
theorem J5.without {kvs:List (Int×Value)}{l:List (Int×V)}(d:J5 g kvs l)(k:Int):J5 g (PySem.without kvs k) (l.filter λp=>p.1 !=k):=by
 induction d with
 |nil=>exact .nil
 |cons j v w _ _ hv _ ih=>
  show J5 g (List.filter (λkv=>decide (kv.1≠k)) (_::_)) _
  rw[List.filter_cons,List.filter_cons]
  by_cases e:j=k
  ·rw[if_neg (by rw[decide_eq_true_eq];exact λz=>z e),if_neg (by rw[bne_iff_ne];exact λz=>z e)];exact ih
  ·rw[if_pos (decide_eq_true e),if_pos (bne_iff_ne.mpr e)];exact .cons j v w _ _ hv ih
def tR:Ds W M8 λw u=>call (.builtin "dict.pop") [w,u]:=λ {k A g h s Q x y w u} hA ho hx hy q=>by
 refine Fb hx q λa q=> ?_
 refine ao q λp e q=> ?_
 refine FJ hy q λj t q=> ?_
 refine ao q λv ev q=> ?_
 have e:=aQ e
 obtain⟨kvs,hat,r,sz,ns⟩:=ho.BM e
 have hor:=r.valueAt j
 rw[ev] at hor
 generalize CX:PySem.valueAt kvs j=u at hor
 cases hor with |some _ w hv
 refine call_meetsIn PySem.F.slot_dict_pop hat.dictOf.typeIs PySem.F.entry_dict_pop (PySem.F.args_dict_pop_2 _ _) (meets_dict_pop_there W.ik _ (lC j t) [] (.inl rfl) rfl) ⟨kvs,w,hat.dictOf,Nat.le_trans sz bw,CX,λh' hmm hs=> ?_⟩
 obtain⟨ep',o'⟩:=ho.RA (l':=p.2.filter λp=>p.1 !=j) (tk:=s.toks+1) e hs hmm (r.without j) (Nat.le_trans (List.length_filter_le _ _) (by rw[<-r.length];exact sz))
 exact⟨g,.refl g,_,o',v,hv,q ep'⟩
def N0 (a b:A4):A4:=λcf e Q h=>a cf e (λx h=>AJ x.ref? λd=>AJ (CK h d) λU=>b cf e (λy h=>M8 x y Q h) h) h
def qG {x:V}{w:Value}{R:Prop}(ho:Ok W g h s)(r:AF g x w)(q:AJ x.ref? λd=>AJ (CK h d) λU=>R):PW s.heap "dict" w/\R:=by
 refine Fb r q λa q=> ?_
 refine ao q λp e q=> ?_
 exact⟨eM ho e,q⟩
def uo {a b:A4}{o y:PySem.Expr}{ap pos:Pos}(hb:FG o)(hs:DA y)(hline:(ap.endLine==pos.line)=true)(h0:Bw W cf n nm a o)(h1:Bw W cf n nm b y):Bw W cf n nm (N0 a b) (.Call (.Attribute o "pop" ap) [y] [] pos):=λA env me g h s Q at_ q=>
 bE (ms:=Ah b As) (R:=λx vs h=>match vs with | [y]=>M8 x y Q h|_=>False) at_ PySem.F.plainAttrs_dict PySem.F.slot_dict_pop kg hb (Nat.lt_of_sub_eq_succ rfl) hline h0 (.cons _ _ _ _ hs h1 .nil) q
  (λ {g' h' s' x w} ho r q=>qG ho r q) λ {g' h' s' x w vs ws} le o r rs q=>by
   cases vs with
   |nil=>exact q.elim
   |cons v vs=>cases vs with
    |cons _ _=>exact q.elim
    |nil=>cases rs with |mk w2 ws r2 hr=>cases hr;exact ai (tR at_.room o r r2 q) λU U z=>z.after le
def Rh (a:A4):A4:=λcf e Q h=>a cf e (λx h=>AJ x.ref? λd=>AJ (CK h d) λU=>∀ ep,Q .none (Ad h d (some (.BM ep [])))) h
def ub {a:A4}{o:PySem.Expr}{ap pos:Pos}(hb:FG o)(hline:(ap.endLine==pos.line)=true)(h0:Bw W cf n nm a o):Bw W cf n nm (Rh a) (.Call (.Attribute o "clear" ap) [] [] pos):=λA env me g h s Q at_ q=>
 bE (ms:=As) (R:=λx vs h=>vs= []/\AJ x.ref? λd=>AJ (CK h d) λU=>∀ ep,Q .none (Ad h d (some (.BM ep [])))) at_ PySem.F.plainAttrs_dict PySem.F.slot_dict_clear iU hb (by decide) hline h0 .nil q
  (λ {g' h' s' x w} ho r q=>⟨(by cases lZ q r with |mk a q;cases bh q with |mk p e q;exact eM ho e),rfl,q⟩) λ {g' h' s' x w vs ws} le o r rs q=>by
   obtain⟨rfl,q⟩:=q
   cases rs
   refine Fb r q λd q=> ?_
   refine ao q λp e q=> ?_
   have e:=aQ e
   obtain⟨kvs,hat,Jj,sz,ns⟩:=o.BM e
   refine call_meetsIn PySem.F.slot_dict_clear hat.dictOf.typeIs PySem.F.entry_dict_clear (PySem.F.args_dict_clear_1 _) (meets_dict_clear W.ik _) ⟨kvs,hat.dictOf,Nat.le_trans sz bw,λh' hmm hs=> ?_⟩
   obtain⟨ep',o'⟩:=o.RA (l':= []) (tk:=s'.toks) e hs hmm .nil (Nat.zero_le _)
   exact⟨g',le,_,o',_,qi,q ep'⟩
def rH {x k:V}{w u:Value}{Q:H->Prop}(ho:Ok W g h s)(hx:AF g x w)(hy:AF g k u)(q:M8 x k (λU h=>Q h) h):BR W A (delItem w u) (λU=>Sn W g Q) s:=by
 refine Fb hx q λa q=> ?_
 refine ao q λp e q=> ?_
 refine FJ hy q λj t q=> ?_
 refine ao q λv ev q=> ?_
 have e:=aQ e
 obtain⟨kvs,hat,r,sz,ns⟩:=ho.BM e
 have hor:=r.valueAt j
 rw[ev] at hor
 generalize CX:PySem.valueAt kvs j=u at hor
 cases hor with |some _ w hv
 have EP:=hat.dictOf.typeIs
 unfold delItem
 try with_reducible refine wpAny_holding ?_
 refine wpAny_bind (wpAny_sequenceKey EP (by decide) ?_)
 refine wpAny_bind (wpAny_callSpecial?_slot (name:=Str.ofString "__delitem__") EP PySem.F.slot_dict_delitem
  (call_meetsIn PySem.F.slot_dict_delitem EP PySem.F.entry_dict_delitem (PySem.F.args_dict_delitem_2 _ _) (meets_dict_delitem_pairs W.ik _ (lC j t)) ⟨kvs,hat.dictOf,Nat.le_trans sz bw,(by rw[CX];rfl),λh' hmm hs=> ?_⟩))
 obtain⟨ep',o'⟩:=ho.RA (l':=p.2.filter λp=>p.1 !=j) (tk:=s.toks+1) e hs hmm (r.without j) (Nat.le_trans (List.length_filter_le _ _) (by rw[<-r.length];exact sz))
 exact wpAny_pure ⟨g,.refl g,_,o',q ep'⟩
end
section
variable {W:Bl}{n:Nat}{nm:DI}{cf:Cc}{g g':A8}{h h':H}{s s':Shared}{A:Around}{env:PySem.Env}{me:AZ}
theorem GZ.more (k:Ek g g')(e:∀ a o,g.pn a=some o->g'.pn a=some o){x:Str}{v:Option V}{a:Addr}(h:GZ g x v a):GZ g' x v a:=
 match h with
 | .full f u o w e i d r=> .full f u o w e (k _ _ i) d (AF.mono k u r)
 | .mv f u o w e' i d r=> .mv f u o w e' (e _ _ i) d (AF.mono k u r)
 | .bare o e' i d=> .bare o e' (e _ _ i) d
theorem Fp.more (k:Ek g g')(p:∀ a o,g.pn a=some o->g'.pn a=some o)(h:Fp g env me):Fp g' env me where
 glob:=h.glob
 bi:=h.bi
 kind:=h.kind
 co:=h.co
 ns:=match h.ns with | .mk o lm e ns v=> .mk o lm (p _ _ e) ns λx hx hk u hu=>let⟨w,a,b⟩:=v x hx hk u hu;⟨w,a,AF.mono k u b⟩
 cell x hx hk:=let⟨a,e,c⟩:=h.cell x hx hk;⟨a,e,c.more k p⟩
 one:=h.one
theorem DT.more (a:DT W n nm A env me g h s)(k:Ek g g')(p:∀ a o,g.pn a=some o->g'.pn a=some o)(o:Ok W g' h' s'):DT W n nm A env me g' h' s':=⟨o,a.BL.more k p,a.room,a.names,a.code⟩
def oR {a:Addr}{o:Obj}(e:g.pn a=none):∀ b ob,g.pn b=some ob->(g.pin a o).pn b=some ob:=λb ob q=>(ab _ _ λz=>aj e (z▸q)).trans q
theorem Ok.taken (ho:Ok W g h s){hp:Heap}{tk:Nat}{a:Addr}{o:O}{pn:Addr->Option Obj}(hs:Heap.SameBut a s.heap hp)(ha:∃ ob,g.pn a=some ob)(hp':∀ b ob,pn b=some ob->b≠a/\g.pn b=some ob)(hr:G0 W ⟨g.im,pn,g.gn⟩ (Ad h a (some o)) hp a o):
  Ok W ⟨g.im,pn,g.gn⟩ (Ad h a (some o)) { s with heap:=hp,toks:=tk }:=
 have⟨ob,e0⟩:=ha
 have z:=ho.Dz a ob e0
 have n:h a=none:=aP λx hx=>by rw[(ho.sep a x hx).2.1] at e0;cases e0
 ho.go (λb=>b=a) (λU U e=>e) (λb o n e=>(hs.2 b n).trans e) (λb o e=> .inl ⟨e,λq=>aj z.1 (q▸e)⟩)
  (λb o' e=>have q:=hp' b o' e;⟨(ho.Dz b o' q.2).1,.inl ⟨q.2,q.1⟩⟩)
  (λb o' e=>by
   by_cases q:b=a
   ·subst q;rw[aa] at e;cases e;exact .inr ⟨rfl,hr,z.1,aP λx hx=>(hp' _ x hx).1 rfl,z.2⟩
   ·rw[ab _ _ q] at e
    refine .inl ⟨q,e,λy hy=> ?_⟩
    have hyo:h y=some (.own b):=by
     have r:=ho.obj b o' e
     cases r <;> cases hy <;> assumption
    have ny:y≠a:=λw=>aj n (w▸hyo)
    exact⟨ny,ab _ _ ny⟩)
  (λb hb q=>z.2 (q▸hb)) rfl ho.gens ho.Ii
inductive DL (W:Bl)(cf:Cc)(n:Nat)(nm:DI):GX->List (Option PySem.Expr)->List PySem.Expr->List Nat->Prop
 |nil:DL W cf n nm Az [] [] []
 |cons (k:Str) (j:Nat) (p:Pos) (m:A4) (x:PySem.Expr) (ms:GX) (ks:List (Option PySem.Expr)) (xs:List PySem.Expr) (cs:List Nat) (hk:good k=true) (h:Bw W cf n nm m x) (r:DL W cf n nm ms ks xs cs):
   DL W cf n nm (Aq (AI k) m ms) (some (.Constant (.str k) j p)::ks) (x::xs) (AI k::cs)
inductive XB (W:Bl)(g:A8)(cs:List Nat)(Q:List (Nat×V)->H->Prop)(ps:List (Value×Value))(s':Shared):Prop
 |mk (g':A8) (le:HV g g') (h':H) (o:Ok W g' h' s') (vs:List (Nat×V)) (kvs:List (Str×Value)) (c:Carries W.sk ps kvs) (r:DK g' vs kvs) (k:vs.map (·.1)=cs) (q:Q vs h')
theorem DL.ev {ms:GX}{ks:List (Option PySem.Expr)}{xs:List PySem.Expr}{cs:List Nat}(d:DL W cf n nm ms ks xs cs):∀ {A env me g h s Q pos},DT W n nm A env me g h s->ms cf me Q h->BR W A (evalPairs (pairTrees ks xs env pos)) (XB W g cs Q) s:=by
 induction d with
 |nil=>intro A env me g h s Q pos a q;exact pairTrees_nil_walk ⟨g,.refl g,h,a.ok,[],[],trivial,.nil,rfl,q⟩
 |cons k j p m x ms ks xs cs hk hm _ ih=>
  intro A env me g h s Q pos a q
  refine pairTrees_cons_walk (Calls.Constant_str (a7 (hm _ _ _ _ _ _ _ (a.toks (t:=s.toks+1)) q) λw s₁ g1 le h1 o v r q=> ?_))
  refine ai (ih (a.step le o) q) λps s₂ z=> ?_
  obtain⟨g2,le2,h2,o2,vs,kvs,c,Jj,e,q⟩:=z
  exact⟨g2,le.trans le2,h2,o2,_,(k,w)::kvs,⟨strKind_is W.prog W.w k _,rfl,c⟩,.cons k v w vs kvs hk (AF.mono le2.im v r) Jj,by rw[List.map_cons,e],q⟩
theorem DL.length {ms:GX}{ks:List (Option PySem.Expr)}{xs:List PySem.Expr}{cs:List Nat}(d:DL W cf n nm ms ks xs cs):ks.length=xs.length/\ks.length=cs.length/\ks.all (·.isSome)=true:=by
 induction d with
 |nil=>exact⟨rfl,rfl,rfl⟩
 |cons _ _ _ _ _ _ _ _ _ _ _ _ ih=>exact⟨congrArg (· +1) ih.1,congrArg (· +1) ih.2.1,ih.2.2⟩
theorem DK.keys {vs:List (Nat×V)}{kvs:List (Str×Value)}(r:DK g vs kvs):kvs.map (λp=>AI p.1)=vs.map (·.1)/\∀ p∈kvs,good p.1=true:=by
 induction r with
 |nil=>exact⟨rfl,λU h=>(nomatch h)⟩
 |cons n v w l m hn hv _ ih=>exact⟨by rw[List.map_cons,List.map_cons,ih.1],λp hp=>(List.mem_cons.mp hp).elim (λe=>by rw[e];exact hn) (ih.2 p)⟩
def eW:∀ (kvs acc:List (Str×Value)),(((acc++kvs).map λp=>AI p.1)).Nodup->merged acc kvs=acc++kvs
 | [],acc,_=>(List.append_nil acc).symm
 |p::kvs,acc,h=>by
  have e:stored acc p.1 p.2=acc++ [p]:=by
   unfold stored
   rw[if_neg]
   intro z
   obtain⟨q,CX,e⟩:=List.any_eq_true.mp z
   rw[List.map_append,List.nodup_append] at h
   exact h.2.2 (AI q.1) (List.mem_map_of_mem CX) (AI p.1) (.head _) (by rw[of_decide_eq_true e])
  show merged (stored acc p.1 p.2) kvs=_
  rw[e,eW kvs (acc++ [p]) (by rw[List.append_assoc];exact h),List.append_assoc];rfl
theorem DK.look {vs:List (Nat×V)}{kvs:List (Str×Value)}(r:DK g vs kvs){x:Str}(hx:good x=true):IH g (look (AI x) vs) (valueAt kvs x):=by
 induction r with
 |nil=>exact .none
 |cons n v w l m hn hv _ ih=>
  rw[bS]
  show IH g (cond (Nat.beq (AI x) (AI n)) (some v) (Mi.look (AI x) l)) _
  by_cases e:n=x
  ·subst e;rw[Nat.beq_refl,if_pos rfl];exact .some v w hv
  ·rw[if_neg e,jc hx hn,beq_eq_false_iff_ne.mpr λz=>e z.symm];exact ih
def MO (ms:GX):A4:=λcf e Q h=>ms cf e (λus h=>∀ a,h a=none->Q (.ref a) (Ad h a (some (.dct λn=>look n us)))) h
def ud {ms:GX}{ks:List (Option PySem.Expr)}{xs:List PySem.Expr}{cs:List Nat}{p:Pos}(d:DL W cf n nm ms ks xs cs)(h0:cs≠ [])(hn:cs.length<=15)(hd:cs.Nodup):Bw W cf n nm (MO ms) (.Dict ks xs p):=λA env me g h s Q a q=>by
 obtain⟨Kh,l2,l3⟩:=d.length
 have f:=a.ok.fresh (al s.heap)
 have hob0:(s.heap.push emptyDict).get? s.heap.objs.size=some emptyDict:=Heap.get?_push_size _ rfl
 have o0:=a.ok.pinned (hp:=s.heap.push emptyDict) (tk:=s.toks) (λb o U e=>Heap.get?_push_of_some _ e) (.inl (al _)) hob0
 refine wpAny_Dict_walk (knd:=W.sk) l3 Kh (λe=>h0 (List.length_eq_zero_iff.mp (by rw[<-l2,e];rfl))) (by rw[l2];exact hn) (ai (d.ev (a.more (g':=g.pin s.heap.objs.size emptyDict) (λU U e=>e) (oR f.2.2.1) o0) q) λps s₁ z=> ?_)
 obtain⟨g2,le,h2,o2,vs,kvs,c,r,e,q⟩:=z
 have pin:g2.pn s.heap.objs.size=some emptyDict:=by rw[le.pn];exact aa ..
 have hob1:=o2.Dk _ _ pin
 have d0:s₁.heap.DictOf W.sk s.heap.objs.size []:=(Heap.DictOf.new (knd:=W.sk) s.heap).at λo e=>by
  rw[hob0] at e;cases e;exact hob1
 refine⟨kvs,c,d0,λh' hd' hs'=> ?_⟩
 rw[eW kvs [] (by rw[List.nil_append,r.keys.1,e];exact hd),List.nil_append] at hd'
 have pn2:∀ b ob,g.pn b=some ob->b≠s.heap.objs.size/\g2.pn b=some ob:=λb ob e=>by
  have ne:b≠s.heap.objs.size:=λz=>aj f.2.2.1 (z▸e)
  exact⟨ne,by rw[le.pn];exact(ab _ _ ne).trans e⟩
 have o3:=o2.taken (pn:=g.pn) (tk:=s₁.toks+ps.length) hs' ⟨_,pin⟩ pn2 (.dct (λn=>look n vs) kvs hd' ⟨r.keys.2,by have :=congrArg List.length r.keys.1;have :=congrArg List.length e;simp at *;omega,λx hx=>(DK.mono (g:=g2) (g':=⟨g2.im,g.pn,g2.gn⟩) (λU U e=>e) r).look hx⟩)
 refine⟨⟨g2.im,g.pn,g2.gn⟩,⟨le.im,rfl,le.gn⟩,_,o3,_,iM _,q _ (aP λx hx=> ?_)⟩
 have :=(o2.sep _ x hx).2.1
 rw[pin] at this;cases this
end
def Eb (env:PySem.Env)(a:Addr):Prop:=a=env.locals\/∃ x,good x=true/\(env.kindOf x=some .cell\/env.kindOf x=some .free)/\env.cells.lookup x=some a
structure Mb (env:PySem.Env)(g g':A8):Prop where
 im:Ek g g'
 pn:∀ a,¬ Eb env a->g'.pn a=g.pn a
 gn:g'.gn=g.gn
abbrev K0:=Cc->V->AZ->(AZ->H->Prop)->H->Prop
section
variable {W:Bl}{n:Nat}{nm:DI}{cf:Cc}{g g' g'':A8}{h h':H}{s s':Shared}{A:Around}{env:PySem.Env}{me:AZ}
theorem HV.toS (l:HV g g'):Mb env g g':=⟨l.im,λa U=>by rw[l.pn],l.gn⟩
theorem Mb.trans (x:Mb env g g')(y:Mb env g' g''):Mb env g g'':=⟨λU U h=>y.im _ _ (x.im _ _ h),λa h=>(y.pn a h).trans (x.pn a h),y.gn.trans x.gn⟩
inductive PM (W:Bl)(n:Nat)(nm:DI)(A:Around)(env:PySem.Env)(g:A8)(Q:AZ->H->Prop)(s':Shared):Prop
 |mk (g':A8) (le:Mb env g g') (h':H) (me':AZ) (a:DT W n nm A env me' g' h' s') (q:Q me' h')
def IK (W:Bl)(cf:Cc)(n:Nat)(nm:DI)(t:K0)(x:PySem.Expr):Prop:=
 ∀ A env me g h s v w Q,DT W n nm A env me g h s->AF g v w->t cf v me Q h->BR W A (assign x env w) (λU s'=>PM W n nm A env g Q s') s
theorem PM.after {Q:AZ->H->Prop}(le:Mb env g g')(z:PM W n nm A env g' Q s'):PM W n nm A env g Q s':=match z with | .mk g2 l h m a q=> .mk g2 (le.trans l) h m a q
theorem Ok.data (ho:Ok W g h s){o:Obj}{lm:Str->Option Value}{L:Addr}(e:g.pn L=some o)(ns:∀ hp:Heap,hp.get? L=some o->hp.Ns L lm):∃ es ep,o.data= .dict es ep:=by
 obtain⟨o',es,ep,h1,h2,_⟩:=ho.ns e ns
 rw[ho.Dk _ _ e] at h1;cases h1;exact⟨es,ep,h2⟩
theorem AF.pin {a:Addr}{o:Obj}{v:V}{w:Value}(r:AF g v w):AF (g.pin a o) v w:=AF.mono (g:=g) (g':=g.pin a o) (λU U h=>h) v r
inductive Xx (W:Bl)(n:Nat)(nm:DI)(A:Around)(env:PySem.Env)(g:A8)(me:AZ)(h:H)(s':Shared):Prop
 |mk (o:Obj) (a:DT W n nm A env me (g.pin env.locals o) h s'):Xx W n nm A env g me h s'
def gh {x:Str}{v:V}{w:Value}(a:DT W n nm A env me g h s)(hx:good x=true)(hk:nm.lookup x=some .local)(hv:AF g v w):BR W A (storeName env x w) (λU s'=>Xx W n nm A env g (Ad me (AI x) (some v)) h s') s:=by
 have he:=a.BL
 have hk':=a.kind hk
 obtain⟨o,lm,e,ns,vs⟩:=he.ns
 have hp:(env.scope.kind== .class||(env.scope.kind== .module && env.locals !=env.globals))=false:=by rw[he.kind];rfl
 refine wpAny_storeName_local hk' (a.ok.ns e ns) (λh' hn' hsb=> ?_) hp
 obtain⟨o',es,ep,e1,rest⟩:=hn'
 obtain⟨_,_,od⟩:=a.ok.data e ns
 have ok':=a.ok.pinned (tk:=s.toks+1) (λb ob n q=>(hsb.2 b n).trans q) (.inr ⟨o,e⟩) e1
 refine⟨o',ok',⟨he.glob,he.bi,he.kind,he.co,.mk o' _ (aa ..) (λhp CX=>⟨o',es,ep,CX,rest⟩) λy hy hky u hu=> ?_,λy hy hky=> ?_,he.one⟩,a.room,a.names,a.code⟩
 ·by_cases z:y=x
  ·subst z
   rw[aa] at hu;cases hu
   exact⟨w,if_pos rfl,hv.pin⟩
  ·rw[ab _ _ λc=>z (bJ hy hx c)] at hu
   obtain⟨u',p1,p2⟩:=vs y hy hky u hu
   exact⟨u',(if_neg z).trans p1,p2.pin⟩
 ·have z:y≠x:=λz=>by subst z;rw[hk'] at hky;rcases hky with c|c <;> cases c
  obtain⟨b,p1,c⟩:=he.cell y hy hky
  rw[ab _ _ λc=>z (bJ hy hx c)]
  refine⟨b,p1,?_⟩
  cases c with
  |full f u o w e i d r=>exact .full f u o w e i d r.pin
  |mv f u o2 w e2 i d r=>exact .mv f u o2 w e2 ((ab _ _ λz=>by subst z;rw[e] at i;cases i;rw[d] at od;cases od).trans i) d r.pin
  |bare ob e' i d=>exact .bare ob e' ((ab _ _ λz=>by subst z;rw[e] at i;cases i;rw[d] at od;cases od).trans i) d
def gU {x:Str}{v:V}{w:Value}{Q:AZ->H->Prop}(a:DT W n nm A env me g h s)(hx:good x=true)(hk:nm.lookup x=some .local)(hv:AF g v w)(q:Q (Ad me (AI x) (some v)) h):BR W A (storeName env x w) (λU s'=>PM W n nm A env g Q s') s:=
 ai (gh a hx hk hv) λU s' z=>match z with | .mk o a=>⟨g.pin env.locals o,⟨λU U h=>h,λb hb=>ab _ _ λz=>hb (.inl z),rfl⟩,h,_,a,q⟩
def lT {x:Str}{v:V}{w:Value}{Q:AZ->H->Prop}(a:DT W n nm A env me g h s)(hx:good x=true)(hk:nm.lookup x=some .cell)(hf:DM (AI x)=true)(hv:AF g v w)(hm:me (AI x)=none)(q:Q (Ad me (AI x) (some v)) h):BR W A (storeName env x w) (λU s'=>PM W n nm A env g Q s') s:=by
 have he:=a.BL
 have hk':=a.kind hk
 obtain⟨ca,p1,c⟩:=he.cell x hx (.inl hk')
 cases c with
 |full f u o w e i d r=>rw[hm] at e;cases e
 |mv f u o w e i d r=>rw[hm] at e;cases e
 |bare oc _ i d=>
  refine wpAny_storeName_cell he.kind hk' p1 ⟨oc,a.ok.Dk _ _ i,d⟩ λh' hc' hsb=> ?_
  obtain⟨ob,hob,hod⟩:=hc'
  obtain⟨o,lm,e,ns,vs⟩:=he.ns
  obtain⟨_,_,od⟩:=a.ok.data e ns
  have nL:env.locals≠ca:=λz=>by rw[<-z,e] at i;cases i;rw[d] at od;cases od
  have ok':=a.ok.given (tk:=s.toks) (pn:=Ad g.pn ca none) (λb ob n q=>(hsb.2 b n).trans q) ⟨_,i⟩ hob λb ob' z=>by
   by_cases y:b=ca
   ·subst y;rw[aa] at z;cases z
   ·rw[ab _ _ y] at z;exact⟨y,z⟩
  have k:Ek g ⟨Ad g.im ca (some ob),Ad g.pn ca none,g.gn⟩:=λb o' z=>(ab _ _ λy=>by subst y;rw[(a.ok.Dz _ _ i).1] at z;cases z).trans z
  refine⟨_,⟨k,λb hb=>ab _ _ λz=>hb (.inr ⟨x,hx,.inl hk',by rw[z];exact p1⟩),rfl⟩,h,Ad me (AI x) (some v),⟨ok',⟨he.glob,he.bi,he.kind,he.co,.mk o lm ((ab _ _ nL).trans e) ns λy hy hky u hu=> ?_,λy hy hky=> ?_,he.one⟩,a.room,a.names,a.code⟩,q⟩
  ·have z:y≠x:=λz=>by subst z;rw[hk'] at hky;cases hky
   rw[ab _ _ λc=>z (bJ hy hx c)] at hu
   obtain⟨u',p1,p2⟩:=vs y hy hky u hu
   exact⟨u',p1,AF.mono k u p2⟩
  ·by_cases z:y=x
   ·subst z
    rw[aa]
    exact⟨ca,p1,.full hf v ob w rfl (aa ..) hod (AF.mono k v hv)⟩
   ·rw[ab _ _ λc=>z (bJ hy hx c)]
    obtain⟨b,p2,c⟩:=he.cell y hy hky
    refine⟨b,p2,?_⟩
    cases c with
    |full f u o w e i d r=>exact .full f u o w e (k _ _ i) d (AF.mono k u r)
    |mv f u o2 w e' i2 d2 r=>exact .mv f u o2 w e' ((ab _ _ λy'=>z (he.one y x ca hy hx (by rw[<-y'];exact p2) p1)).trans i2) d2 (AF.mono k u r)
    |bare o2 e' i2 d2=>exact .bare o2 e' ((ab _ _ λy'=>z (he.one y x ca hy hx (by rw[<-y'];exact p2) p1)).trans i2) d2
def N5 (nm:DI)(x:Str):Prop:=nm.lookup x=some .local\/(nm.lookup x=some .cell/\DM (AI x)=false)
def gV {x:Str}{v:V}{w:Value}{Q:AZ->H->Prop}(a:DT W n nm A env me g h s)(hx:good x=true)(hk:N5 nm x)(hv:AF g v w)(q:Q (Ad me (AI x) (some v)) h):BR W A (storeName env x w) (λU s'=>PM W n nm A env g Q s') s:=by
 rcases hk with hk|⟨hk,hf⟩
 ·exact gU a hx hk hv q
 have he:=a.BL
 have hk':=a.kind hk
 obtain⟨ca,p1,c⟩:=he.cell x hx (.inl hk')
 have key:∃ oc u,g.pn ca=some oc/\oc.data= .cell u:=by
  cases c with
  |full f u o w e i d r=>rw[hf] at f;cases f
  |mv f u o w e i d r=>exact⟨o,_,i,d⟩
  |bare o e i d=>exact⟨o,_,i,d⟩
 obtain⟨oc,u,i,d⟩:=key
 refine wpAny_storeName_cell he.kind hk' p1 ⟨oc,a.ok.Dk _ _ i,d⟩ λh' hc' hsb=> ?_
 obtain⟨ob,hob,hod⟩:=hc'
 obtain⟨o,lm,e,ns,vs⟩:=he.ns
 obtain⟨_,_,od⟩:=a.ok.data e ns
 have nL:env.locals≠ca:=λz=>by rw[<-z,e] at i;cases i;rw[d] at od;cases od
 have ok':=a.ok.pinned (tk:=s.toks) (λb ob n q=>(hsb.2 b n).trans q) (.inr ⟨_,i⟩) hob
 refine⟨g.pin ca ob,⟨λU U h=>h,λb hb=>ab _ _ λz=>hb (.inr ⟨x,hx,.inl hk',by rw[z];exact p1⟩),rfl⟩,h,Ad me (AI x) (some v),⟨ok',⟨he.glob,he.bi,he.kind,he.co,.mk o lm ((ab _ _ nL).trans e) ns λy hy hky u hu=> ?_,λy hy hky=> ?_,he.one⟩,a.room,a.names,a.code⟩,q⟩
 ·have z:y≠x:=λz=>by subst z;rw[hk'] at hky;cases hky
  rw[ab _ _ λc=>z (bJ hy hx c)] at hu
  obtain⟨u',p1,p2⟩:=vs y hy hky u hu
  exact⟨u',p1,p2.pin⟩
 ·by_cases z:y=x
  ·subst z
   rw[aa]
   exact⟨ca,p1,.mv hf v ob w rfl (aa ..) hod hv.pin⟩
  ·rw[ab _ _ λc=>z (bJ hy hx c)]
   obtain⟨b,p2,c⟩:=he.cell y hy hky
   refine⟨b,p2,?_⟩
   cases c with
   |full f u o w e i d r=>exact .full f u o w e i d r.pin
   |mv f u o2 w e' i2 d2 r=>exact .mv f u o2 w e' ((ab _ _ λy'=>z (he.one y x ca hy hx (by rw[<-y'];exact p2) p1)).trans i2) d2 r.pin
   |bare o2 e' i2 d2=>exact .bare o2 e' ((ab _ _ λy'=>z (he.one y x ca hy hx (by rw[<-y'];exact p2) p1)).trans i2) d2
def AA (x:Nat):K0:=λU v e Q h=>Q (Ad e x (some v)) h
def Qb (x:Nat):K0:=λU v e Q h=>e x=none/\Q (Ad e x (some v)) h
def cT {x:Str}{w:Value}{R:Shared->Prop}(h:BR W A (storeName env x w) (λU s'=>R s') s):BR W A (bindName env x w) (λU s'=>R s') s:=by
 unfold bindName
 exact wpAny_bind (wpAny_holding (wpAny_point (wpAny_bind (ai h λU U z=>wpAny_point z))))
def vH {x:Str}{p:Pos}(hx:good x=true)(hk:N5 nm x):IK W cf n nm (AA (AI x)) (.Name x p):=λA env me g h s v w Q a hv q=>by
 rw[arm_assign_Name]
 exact wpAny_bind (wpAny_standAt (cT (gV a hx hk hv q)))
def uF {x:Str}{p:Pos}(hx:good x=true)(hk:nm.lookup x=some .cell)(hf:DM (AI x)=true):IK W cf n nm (Qb (AI x)) (.Name x p):=λA env me g h s v w Q a hv q=>by
 rw[arm_assign_Name]
 exact wpAny_bind (wpAny_standAt (cT (lT a hx hk hf hv q.1 q.2)))
theorem Sn.ps {P:H->Prop}{Q:AZ->H->Prop}(a:DT W n nm A env me g h s)(z:Sn W g P s')(k:∀ h,P h->Q me h):PM W n nm A env g Q s':=match z with | .mk g' le h' o q=> .mk g' le.toS h' me (a.step le o) (k _ q)
def AX (m:A4)(a:Nat):K0:=λcf v e Q h=>m cf e (λx h=>Iv a x v (λh=>Q e h) h) h
def vG {m:A4}{a:Str}{o:PySem.Expr}{p:Pos}(hh:DC W n cf)(ha:good a=true)(h1:Bw W cf n nm m o):IK W cf n nm (AX m (AI a)) (.Attribute o a p):=λA env me g h s v w Q at_ hv q=>by
 rw[arm_assign_Attribute]
 refine wpAny_bind (wpAny_holding (ai (h1 _ _ _ _ _ _ _ at_ q) λu s₁ z=>wpAny_bind (wpAny_standAt ?_)))
 obtain⟨g1,le,h1',o1,x,r,q⟩:=z
 exact wpAny_bind (wpAny_holding (ai (gf hh o1 ha r (AF.mono le.im v hv) q) λU s₂ z=>wpAny_release ((z.ps (at_.step le o1) λU q=>q).after le.toS)))
def DY (m k:A4):K0:=λcf v e Q h=>m cf e (λx h=>k cf e (λi h=>Jr x i v (λh=>Q e h) h) h) h
def vJ {m k:A4}{x y:PySem.Expr}{p:Pos}(h1:Bw W cf n nm m x)(h2:Bw W cf n nm k y):IK W cf n nm (DY m k) (.Subscript x y p):=λA env me g h s v w Q a hv q=>by
 rw[arm_assign_Subscript]
 refine wpAny_bind (wpAny_holding (a7 (h1 _ _ _ _ _ _ _ a q) λuu s₁ g1 le h1' o1 x r q=> ?_))
 refine wpAny_bind (wpAny_holding (ai (h2 _ _ _ _ _ _ _ (a.step le o1) q) λkk s₂ z=>wpAny_bind (wpAny_standAt ?_)))
 obtain⟨g2,le2,h2',o2,y,r2,q⟩:=z
 exact wpAny_bind (wpAny_holding (ai (kf o2 (AF.mono le2.im x r) r2 (AF.mono le2.im v (AF.mono le.im v hv)) q) λU s₃ z=>wpAny_release ((z.ps ((a.step le o1).step le2 o2) λU q=>q).after (le.trans le2).toS)))
def M6:List Nat->List V->AZ->Option AZ
 | [],[],e=>some e
 |x::xs,v::vs,e=>M6 xs vs (Ad e x (some v))
 |_,_,_=>none
inductive JE (nm:DI):List Str->List Nat->List PySem.Expr->Prop
 |nil:JE nm [] [] []
 |cons (x:Str) (p:Pos) (xs:List Str) (cs:List Nat) (es:List PySem.Expr) (hx:good x=true) (hk:N5 nm x) (r:JE nm xs cs es):JE nm (x::xs) (AI x::cs) (.Name x p::es)
def Sr (W:Bl)(A:Around)(env:PySem.Env)(x:Str)(f:Value->Sem Unit):Prop:=∀ (R:Shared->Prop) (w:Value) (s:Shared),BR W A (storeName env x w) (λU s'=>R s') s->BR W A (f w) (λU s'=>R s') s
inductive Jm (W:Bl)(A:Around)(env:PySem.Env)(nm:DI):List Nat->List (Value->Sem Unit)->Prop
 |nil:Jm W A env nm [] []
 |cons (x:Str) (f:Value->Sem Unit) (cs:List Nat) (fs:List (Value->Sem Unit)) (hx:good x=true) (hk:N5 nm x) (hf:Sr W A env x f) (r:Jm W A env nm cs fs):Jm W A env nm (AI x::cs) (f::fs)
def gW {cs:List Nat}{fs:List (Value->Sem Unit)}(k:Jm W A env nm cs fs):∀ {vs:List V} {ws:List Value} {me:AZ} {g:A8} {h:H} {s:Shared} {Q:AZ->H->Prop},DT W n nm A env me g h s->AE g vs ws->AJ (M6 cs vs me) (λe=>Q e h)->
  BR W A (assignInOrder fs ws) (λU s'=>PM W n nm A env g Q s') s:=by
 induction k with
 |nil=>
  intro vs ws me g h s Q a r q
  cases vs with
  |cons v vs=>exact q.elim
  |nil=>cases r;exact wpAny_assignInOrder_none ⟨g,⟨λU U h=>h,λU U=>rfl,rfl⟩,h,me,a,q⟩
 |cons x f cs fs hx hk hf _ ih=>
  intro vs ws me g h s Q a r q
  cases vs with
  |nil=>exact q.elim
  |cons v vs=>
   obtain⟨w,ws,r,rs⟩:=r
   refine wpAny_assignInOrder_more (hf _ w s (ai (gV (Q:=λe h'=>AJ (M6 cs vs e) λe=>Q e h') a hx hk r q) λU s₁ z=> ?_))
   obtain⟨g1,le,h1,m1,a1,q⟩:=z
   exact ai (ih a1 (AE.mono le.im vs rs) q) λU s₂ z=>z.after le
theorem JE.all {xs:List Str}{cs:List Nat}{es:List PySem.Expr}(k:JE nm xs cs es):Jm W A env nm cs ((assignEach es env).map (·.2))/\(assignEach es env).length=cs.length/\(assignEach es env).findIdx? (·.1)=none:=by
 induction k with
 |nil=>exact⟨.nil,rfl,rfl⟩
 |cons x p xs cs es hx hk _ ih=>
  have e:assignEach (.Name x p::es) env=(false,assign (.Name x p) env)::assignEach es env:=rfl
  rw[e]
  obtain⟨h1,h2,h3⟩:=ih
  refine⟨.cons x _ _ _ hx hk (λR w s q=> ?_) h1,by rw[List.length_cons,List.length_cons,h2],by rw[List.findIdx?_cons,h3];rfl⟩
  show BR W A (assign (.Name x p) env w) _ s
  rw[arm_assign_Name]
  exact wpAny_bind (wpAny_standAt (cT q))
def jB:∀ {cs:List Nat} {vs:List V} {e e':AZ},M6 cs vs e=some e'->cs.length=vs.length
 | [],[],_,_,_=>rfl
 |x::xs,v::vs,e,e',h=>congrArg (· +1) (jB (e:=Ad e x (some v)) h)
 | [],_::_,_,_,h=>by cases h
 |_::_,[],_,_,h=>by cases h
def JI (cs:List Nat):K0:=λU v e Q h=>AJ v.ST λvs=>AJ (M6 cs vs e) λe=>Q e h
def vK {xs:List Str}{cs:List Nat}{es:List PySem.Expr}{k:Nat}{p:Pos}(hn:JE nm xs cs es):IK W cf n nm (JI cs) (.Tuple es k p):=λA env me g h s v w Q a hv q=>by
 refine ao q λvs e q1=> ?_
 cases V.Sg e
 obtain⟨ta,vals,mm,ea,r⟩:=hv
 obtain⟨n1,n2,n3⟩:=hn.all (W:=W) (A:=A) (env:=env)
 have hlen:vals.size=vs.length:=by have :=AE.length (vs:=vs) r;simpa using this
 have hc:cs.length=vs.length:=by cases bh q1 with |mk e' e2 q2=>exact jB e2
 refine wpAny_assign_Tuple (items:=vals) a.room.handled ⟨_,a.ok.F2 _ _ ea,rfl,mm,rfl⟩ (by rw[n2,hlen,hc]) n3 λh' he=> ?_
 have o1:=a.ok.grown (hp:=h') (tk:=s.toks) λb o q=>he b o (Nat.ne_of_lt (Heap.lt_size q)) q
 exact gW n1 (a.step (.refl g) o1) r q1
end
inductive DJ where|next|brk|cont|ret (v:V)
abbrev A2:=Cc->AZ->(DJ->AZ->H->Prop)->H->Prop
inductive Kj (g:A8):DJ->Flow->Prop
 |next:Kj g .next .next
 |brk:Kj g .brk .brk
 |cont:Kj g .cont .cont
 |ret (v:V) (w:Value) (r:AF g v w):Kj g (.ret v) (.ret w)
section
variable {W:Bl}{n:Nat}{nm:DI}{cf:Cc}{g g' g'':A8}{h h':H}{s s':Shared}{A:Around}{env:PySem.Env}{me:AZ}
inductive N6 (W:Bl)(n:Nat)(nm:DI)(A:Around)(env:PySem.Env)(g:A8)(Q:DJ->AZ->H->Prop)(f:Flow)(s':Shared):Prop
 |mk (g':A8) (le:Mb env g g') (h':H) (me':AZ) (a:DT W n nm A env me' g' h' s') (fl:DJ) (r:Kj g' fl f) (q:Q fl me' h')
def JJ (W:Bl)(cf:Cc)(n:Nat)(nm:DI)(m:A2)(x:Stmt):Prop:=
 ∀ A env me g h s Q,DT W n nm A env me g h s->m cf me Q h->BR W A (exec x env) (N6 W n nm A env g Q) s
def I4 (W:Bl)(cf:Cc)(n:Nat)(nm:DI)(m:A2)(xs:List Stmt):Prop:=
 ∀ A env me g h s Q,DT W n nm A env me g h s->m cf me Q h->BR W A (execs xs env) (N6 W n nm A env g Q) s
theorem Mb.refl (env:PySem.Env)(g:A8):Mb env g g:=(HV.refl g).toS
theorem N6.after {Q:DJ->AZ->H->Prop}{f:Flow}(le:Mb env g g')(z:N6 W n nm A env g' Q f s'):N6 W n nm A env g Q f s':=match z with | .mk g2 l h m a fl r q=> .mk g2 (le.trans l) h m a fl r q
theorem N6.here {Q:DJ->AZ->H->Prop}{f:Flow}{fl:DJ}(a:DT W n nm A env me g h s)(r:Kj g fl f)(q:Q fl me h):N6 W n nm A env g Q f s:=⟨g,.refl ..,h,me,a,fl,r,q⟩
theorem PM.pf {P:AZ->H->Prop}{Q:DJ->AZ->H->Prop}(z:PM W n nm A env g P s')(k:∀ m h,P m h->Q .next m h):N6 W n nm A env g Q .next s':=match z with | .mk g' le h' m a q=> .mk g' le h' m a .next .next (k _ _ q)
theorem Sn.pf {P:H->Prop}{Q:DJ->AZ->H->Prop}(a:DT W n nm A env me g h s)(z:Sn W g P s')(k:∀ h,P h->Q .next me h):N6 W n nm A env g Q .next s':=match z with | .mk g' le h' o q=> .mk g' le.toS h' me (a.step le o) .next .next (k _ q)
def AN:A2:=λU e Q h=>Q .next e h
def OM:A2:=λU e Q h=>Q .brk e h
def Qe:A2:=λU e Q h=>Q .cont e h
def Na:A2:=λU e Q h=>Q (.ret .none) e h
def BZ (m:A4):A2:=λcf e Q h=>m cf e (λv h=>Q (.ret v) e h) h
def Bx (m:A4):A2:=λcf e Q h=>m cf e (λv h=>v.isNone=true/\Q .next e h) h
def Oj (t:Ev):A2:=λcf e Q h=>t cf e (λb h=>b=true/\Q .next e h) h
def AS (t:Ev)(a b:A2):A2:=λcf e Q h=>t cf e (λc h=>cond c (a cf e Q h) (b cf e Q h)) h
def Ak (a b:A2):A2:=λcf e Q h=>a cf e (λfl e h=>match fl with | .next=>b cf e Q h|fl=>Q fl e h) h
def Af (t:K0)(m:A4):A2:=λcf e Q h=>m cf e (λv h=>t cf v e (λe h=>Q .next e h) h) h
def Rb (f:V->V->M V)(x:Nat)(m:A4):A2:=λcf e Q h=>AJ (e x) λa=>m cf e (λb h=>f a b (λc h=>Q .next (Ad e x (some c)) h) h) h
def EC (f:V->V->M V)(o:A4)(a:Nat)(m:A4):A2:=λcf e Q h=>o cf e (λi h=>K4 cf a i (λx h=>m cf e (λb h=>f x b (λc h=>Iv a i c (λh=>Q .next e h) h) h) h) h) h
def Rj (d k:A4):A2:=λcf e Q h=>d cf e (λx h=>k cf e (λy h=>M8 x y (λU h=>Q .next e h) h) h) h
def rA {p:Pos}:JJ W cf n nm AN (.Pass p):=λA env me g h s Q a q=>wpAny_Pass (.here a .next q)
def uA {p:Pos}:JJ W cf n nm OM (.Break p):=λA env me g h s Q a q=>wpAny_Break (.here a .brk q)
def rz {p:Pos}:JJ W cf n nm Qe (.Continue p):=λA env me g h s Q a q=>wpAny_Continue (.here a .cont q)
def rB {p:Pos}:JJ W cf n nm Na (.Return none p):=λA env me g h s Q a q=>wpAny_Return_none (.here a (.ret _ _ qi) q)
def uD {m:A4}{x:PySem.Expr}{p:Pos}(h1:Bw W cf n nm m x):JJ W cf n nm (BZ m) (.Return (some x) p):=λA env me g h s Q a q=>by
 refine wpAny_Return_some (a7 (h1 _ _ _ _ _ _ _ a q) λw s₁ g1 le h1 o v r q=> ?_)
 exact⟨g1,le.toS,h1,me,a.step le o,_,.ret v w r,q⟩
def Oc (x:PySem.Expr):Prop:=∀ (t:Option PySem.Expr) (k:Nat) (env:PySem.Env),swapsWith x t k env=pure false
def jp (a:DT W n nm A env me g h s):interactive env=false:=by unfold interactive;rw[a.BL.kind];rfl
def vE {m:A4}{x:PySem.Expr}{p:Pos}(hc:Oc x)(h1:Bw W cf n nm m x):JJ W cf n nm (Bx m) (.Expr x p):=λA env me g h s Q a q=>by
 refine wpAny_Expr_any (ai (h1 _ _ _ _ _ _ _ a q) λw s₁ z=> ?_) (jp a) (hc _ _ _)
 obtain⟨g1,le,h1,o,v,r,q⟩:=z
 exact⟨g1,le.toS,h1,me,a.step le o,.next,.next,q.2⟩
def ru {t:Ev}{x:PySem.Expr}{m:Option PySem.Expr}{p:Pos}(h0:Mu W cf n nm t x):JJ W cf n nm (Oj t) (.Assert x m p):=λA env me g h s Q a q=>by
 refine wpAny_Assert_holds (dX (h0 _ _ _ _ _ _ _ a q) λb s₁ g1 le h1 o q=> ?_)
 exact⟨q.1,g1,le.toS,h1,me,a.step le o,.next,.next,q.2⟩
def vF {t:Ev}{a b:A2}{x:PySem.Expr}{ax bx:List Stmt}{p:Pos}(h0:Mu W cf n nm t x)(h1:I4 W cf n nm a ax)(h2:I4 W cf n nm b bx):JJ W cf n nm (AS t a b) (.If x ax bx p):=λA env me g h s Q a q=>by
 refine wpAny_If (dX (h0 _ _ _ _ _ _ _ a q) λc s₁ g1 le h1' o q=> ?_)
 cases c with
 |true=>exact ai (h1 _ _ _ _ _ _ _ (a.step le o) q) λU U z=>z.after le.toS
 |false=>exact ai (h2 _ _ _ _ _ _ _ (a.step le o) q) λU U z=>z.after le.toS
def rC:I4 W cf n nm AN []:=λA env me g h s Q a q=>wpAny_execs_nil (.here a .next q)
def rD {m:A2}{x:Stmt}(h1:JJ W cf n nm m x):I4 W cf n nm m [x]:=λA env me g h s Q a q=>by
 refine wpAny_execs_cons (ai (h1 _ _ _ _ _ _ _ a q) λf s₁ z=> ?_)
 obtain⟨g1,le,h1,m1,a1,fl,r,q⟩:=z
 cases r with
 |next=>exact wpAny_execs_nil ⟨g1,le,h1,m1,a1,_,.next,q⟩
 |brk=>exact⟨g1,le,h1,m1,a1,_,.brk,q⟩
 |cont=>exact⟨g1,le,h1,m1,a1,_,.cont,q⟩
 |ret v w r=>exact⟨g1,le,h1,m1,a1,_,.ret v w r,q⟩
def oW {m r:A2}{x:Stmt}{xs:List Stmt}(h1:JJ W cf n nm m x)(h2:I4 W cf n nm r xs):I4 W cf n nm (Ak m r) (x::xs):=λA env me g h s Q a q=>by
 refine wpAny_execs_cons (ai (h1 _ _ _ _ _ _ _ a q) λf s₁ z=> ?_)
 obtain⟨g1,le,h1,m1,a1,fl,r,q⟩:=z
 cases r with
 |next=>exact ai (h2 _ _ _ _ _ _ _ a1 q) λU U z=>z.after le
 |brk=>exact⟨g1,le,h1,m1,a1,_,.brk,q⟩
 |cont=>exact⟨g1,le,h1,m1,a1,_,.cont,q⟩
 |ret v w r=>exact⟨g1,le,h1,m1,a1,_,.ret v w r,q⟩
structure Q9 (tx:PySem.Expr):Prop where
 each:∀ env:PySem.Env,(assignEach [tx] env).map (·.2)= [assign tx env]
def uH {t x:PySem.Expr}{k:Nat}{env:PySem.Env}:swapsWithSole [t] x k env=swapsWith x (some t) k env:=rfl
def uz {t:K0}{m:A4}{tx x:PySem.Expr}{p:Pos}(hc:Oc x)(ht:Q9 tx)(EI:∀ {A env me g h s},DT W n nm A env me g h s->swappedStores [tx] x env=pure none)(h1:IK W cf n nm t tx)(h2:Bw W cf n nm m x):JJ W cf n nm (Af t m) (.Assign [tx] x p):=λA env me g h s Q a q=>by
 refine wpAny_Assign_stores (ai (h2 _ _ _ _ _ _ _ a q) λw s₁ z=> ?_) (by rw[uH,hc]) (EI a)
 obtain⟨g1,le,h1',o,v,r,q⟩:=z
 rw[ht.each]
 exact ai (h1 _ _ _ _ _ _ _ _ _ (a.step le o) r q) λU U z=>(z.pf λU U q=>q).after le.toS
def ry {f:V->V->M V}{op:Operator}{x:Str}{m:A4}{y:PySem.Expr}{p p':Pos}(hf:Ds W f (inplaceOp op))(hx:good x=true)(hk:nm.lookup x=some .local)(h1:Bw W cf n nm m y):JJ W cf n nm (Rb f (AI x) m) (.AugAssign (.Name x p) op y p'):=λA env me g h s Q a q=>by
 refine wpAny_AugAssign_Name (jX (Q:=λv h'=>h'=h/\m cf me (λb h=>f v b (λc h=>Q .next (Ad me (AI x) (some c)) h) h) h') a.ok a.BL hx (by rw[a.kind hk];rfl) (by cases bh q with |mk v e q=>exact ae e ⟨rfl,q⟩) λw z=> ?_)
 obtain⟨g0,le0,h0,o0,v0,r0,q⟩:=z
 refine a7 (h1 _ _ _ _ _ _ _ (a.step le0 o0) q.2) λw s₁ g1 le h1' o v r q=> ?_
 refine a7 (hf a.room o (AF.mono le.im v0 r0) r q) λw s₂ g2 le2 h2' o2 v2 r2 q=> ?_
 exact ai (gU (((a.step le0 o0).step le o).step le2 o2) hx hk r2 q) λU U z=>(z.pf λU U q=>q).after ((le0.trans le).trans le2).toS
def rx {f:V->V->M V}{op:Operator}{o m:A4}{a:Str}{ox y:PySem.Expr}{p p':Pos}(hh:DC W n cf)(ha:good a=true)(hf:Ds W f (inplaceOp op))(h0:Bw W cf n nm o ox)(h1:Bw W cf n nm m y):JJ W cf n nm (EC f o (AI a) m) (.AugAssign (.Attribute ox a p) op y p'):=λA env me g h s Q at_ q=>by
 refine wpAny_AugAssign_AttributeAny (a7 (h0 _ _ _ _ _ _ _ at_ q) λw s₁ g1 le h1' o1 i r q=> ?_)
 refine a7 (gb hh at_.room o1 ha r q) λw2 s₂ g2 le2 h2 o2 x r2 q=> ?_
 refine a7 (h1 _ _ _ _ _ _ _ ((at_.step le o1).step le2 o2) q) λw3 s₃ g3 le3 h3 o3 b r3 q=> ?_
 refine a7 (hf at_.room o3 (AF.mono le3.im x r2) r3 q) λw4 s₄ g4 le4 h4 o4 c r4 q=> ?_
 exact ai (gf hh o4 ha (AF.mono le4.im i (AF.mono le3.im i (AF.mono le2.im i r))) r4 q) λU U z=>(z.pf ((((at_.step le o1).step le2 o2).step le3 o3).step le4 o4) λU q=>q).after (((le.trans le2).trans le3).trans le4).toS
def uB {d k:A4}{x y:PySem.Expr}{p p':Pos}(h1:Bw W cf n nm d x)(h2:Bw W cf n nm k y):JJ W cf n nm (Rj d k) (.Delete [.Subscript x y p] p'):=λA env me g h s Q a q=>by
 refine wpAny_Delete (wpAny_deleteEach_cons (wpAny_delete_Subscript (a7 (h1 _ _ _ _ _ _ _ a q) λw s₁ g1 le h1' o1 v r q=> ?_)))
 refine a7 (h2 _ _ _ _ _ _ _ (a.step le o1) q) λw2 s₂ g2 le2 h2 o2 v2 r2 q=> ?_
 exact ai (rH o2 (AF.mono le2.im v r) r2 q) λU s₃ z=>wpAny_deleteEach_nil ((z.pf ((a.step le o1).step le2 o2) λU q=>q).after (le.trans le2).toS)
def PD (t:Ev)(b:A2)(cf:Cc)(k:Nat):AZ->(DJ->AZ->H->Prop)->H->Prop:= @Nat.rec (λU=>AZ->(DJ->AZ->H->Prop)->H->Prop) (λU U U=>False)
 (λU L e Q h=>t cf e (λc h=>cond c (b cf e (λfl e h=>match fl with | .next=>L e Q h| .cont=>L e Q h| .brk=>Q .next e h| .ret w=>Q (.ret w) e h) h) (Q .next e h)) h) k
def QB (t:Ev)(b:A2):A2:=λcf e Q h=>∃ k,PD t b cf k e Q h
inductive Tb (P:Flow->Shared->Prop):Result->Shared->Prop
 |mk (f:Flow) (s':Shared) (z:P f s'):Tb P (.ok f) s'
def uE {t:Ev}{b:A2}{x:PySem.Expr}{bx:List Stmt}{p:Pos}(h0:Mu W cf n nm t x)(h1:I4 W cf n nm b bx):JJ W cf n nm (QB t b) (.While x bx [] p):=λA env me g h s Q a q=>by
 obtain⟨k,q⟩:=q
 refine wpAny_While (codeAny_mono (codeAny_whileLoop (R:=Tb (N6 W n nm A env g Q)) (λk s₁=>∃ g₁ h₁ me₁,Mb env g g₁/\DT W n nm A env me₁ g₁ h₁ s₁/\PD t b cf k me₁ Q h₁) ?_ k ⟨g,h,me,.refl ..,a,q⟩) λr s₃ z=>by cases z with |mk f s' z=>exact z)
 rintro k s₁ ⟨g₁,h₁,me₁,le₁,a₁,q₁⟩
 cases k with
 |zero=>exact q₁.elim
 |succ k=>
  refine wpAny_mono (h0 _ _ _ _ _ _ _ a₁ q₁) (λc s₂ z=> ?_) λU U e=>e.elim
  obtain⟨g2,le2,h2,o2,q⟩:=z
  have a2:=a₁.step le2 o2
  have le:=le₁.trans le2.toS
  cases c with
  |false=>
   refine wpAny_mono (wpAny_execs_nil (E:=GG) (Q:=λf s₃=>f= .next/\s₃=s₂) ⟨rfl,rfl⟩) (λf s₃ z=> ?_) λU U e=>e.elim
   obtain⟨rfl,rfl⟩:=z
   exact .mk _ _ ⟨g2,le,h2,me₁,a2,.next,.next,q⟩
  |true=>
   refine wpAny_mono (h1 _ _ _ _ _ _ _ a2 q) (λf s₃ z=> ?_) λU U e=>e.elim
   obtain⟨g3,le3,h3,m3,a3,fl,r,q⟩:=z
   have le:=le.trans le3
   cases r with
   |next=>exact⟨k,Nat.lt_succ_self _,g3,h3,m3,le,a3,q⟩
   |cont=>exact⟨k,Nat.lt_succ_self _,g3,h3,m3,le,a3,q⟩
   |brk=>exact .mk _ _ ⟨g3,le,h3,m3,a3,.next,.next,q⟩
   |ret v w r=>exact .mk _ _ ⟨g3,le,h3,m3,a3,_,.ret v w r,q⟩
end
section
variable {W:Bl}{n:Nat}{nm:DI}{cf:Cc}{g g' g'':A8}{h h':H}{s s':Shared}{A:Around}{env:PySem.Env}{me:AZ}
def Un (nm:DI):PySem.Env:={ scope:={ kind:= .function,names:=nm.l,isGenerator:=false,isCoroutine:=false,more:= [] },locals:=0,globals:=0,cells:= [],qual:="",func:=none,code:= .none,frame:=none,builtins:=0 }
def Sd (nm:DI)(ts:PySem.Expr)(vs:PySem.Expr):Option (Option (List Str)):=pureOf (swappedStores [ts] vs (Un nm))
def j2 {ts vs:PySem.Expr}{r:Option (List Str)}(e:Sd nm ts vs=some r)(a:DT W n nm A env me g h s):swappedStores [ts] vs env=pure r:=by
 have :swappedStores [ts] vs env=swappedStores [ts] vs (Un nm):=by
  have h1:=a.BL.kind
  have h2:=a.names
  clear a
  obtain⟨sc,Kh,l2,l3,l4,l5,l6,l7,l8⟩:=env
  obtain⟨k,ns,s1,s2,s3⟩:=sc
  cases h1
  cases h2
  rfl
 rw[this];exact of_pureOf e
theorem AE.rev:∀ {l:List V} {ws:List Value},AE g l ws->AE g l.reverse ws.reverse
 | [],_,.mk=> .mk
 |v::l,_,.mk w r h hr=>by rw[List.reverse_cons,List.reverse_cons];exact(AE.rev (l:=l) hr).append (.one h)
inductive ET (nm:DI):List Str->List Nat->Prop
 |nil:ET nm [] []
 |cons (x:Str) (xs:List Str) (cs:List Nat) (hx:good x=true) (hk:N5 nm x) (r:ET nm xs cs):ET nm (x::xs) (AI x::cs)
theorem ET.snoc {xs:List Str}{cs:List Nat}{x:Str}(r:ET nm xs cs)(hx:good x=true)(hk:N5 nm x):ET nm (xs++ [x]) (cs++ [AI x]):=by
 induction r with
 |nil=>exact .cons x [] [] hx hk .nil
 |cons y ys cs hy hk' _ ih=>exact .cons y _ _ hy hk' ih
theorem ET.rev {xs:List Str}{cs:List Nat}(r:ET nm xs cs):ET nm xs.reverse cs.reverse:=by
 induction r with
 |nil=>exact .nil
 |cons y ys cs hy hk' _ ih=>rw[List.reverse_cons,List.reverse_cons];exact ih.snoc hy hk'
theorem ET.length {xs:List Str}{cs:List Nat}(r:ET nm xs cs):xs.length=cs.length:=by
 induction r with
 |nil=>rfl
 |cons y ys cs hy hk' _ ih=>exact congrArg (· +1) ih
theorem ET.all {xs:List Str}{cs:List Nat}(r:ET nm xs cs):Jm W A env nm cs (xs.map λn=>bindName env n):=by
 induction r with
 |nil=>exact .nil
 |cons y ys cs hy hk _ ih=>exact .cons y _ _ _ hy hk (λR w s q=>cT q) ih
def Js (cs:List Nat):K0:=λU v e Q h=>AJ v.ST λvs=>cs.length=vs.length/\AJ (M6 cs.reverse vs.reverse e) λe=>Q e h
def rt {xs:List Str}{cs:List Nat}{m:A4}{ts:List PySem.Expr}{vs:List PySem.Expr}{k k':Nat}{p p' pos:Pos}(hn:ET nm xs cs)(EI:Sd nm (.Tuple ts k p) (.Tuple vs k' p')=some (some xs))(h2:Bw W cf n nm m (.Tuple vs k' p')):
  JJ W cf n nm (Af (Js cs) m) (.Assign [.Tuple ts k p] (.Tuple vs k' p') pos):=λA env me g h s Q a q=>by
 rw[exec_Assign_arm]
 refine wpAny_bind (wpAny_standAt ?_)
 rw[uH,show swapsWith (.Tuple vs k' p') (some (.Tuple ts k p)) pos.line env=pure false from rfl]
 refine wpAny_bind (wpAny_pure ?_)
 rw[if_neg (by decide)]
 refine wpAny_bind (a7 (h2 _ _ _ _ _ _ _ a q) λw s₁ g1 le h1 o1 v r q=> ?_)
 rw[j2 EI a]
 refine wpAny_bind (wpAny_pure (wpAny_bind (wpAny_rule ?_)))
 refine ao q λus e q1=> ?_
 cases V.Sg e
 obtain⟨ta,vals,mm,ea,r⟩:=r
 have hlen:vals.size=us.length:=by have :=AE.length (vs:=us) r;simpa using this
 have hl:xs.length=vals.size:=by
  rw[hlen,<-q1.1,hn.length]
 rw[hl]
 refine wpAny_bind (wpAny_unpackItems_tuple (items:=vals) a.room.handled ⟨_,o1.F2 _ _ ea,rfl,mm,rfl⟩ λh' he=> ?_)
 have o2:=o1.grown (hp:=h') (tk:=s₁.toks) λb o q=>he b o (Nat.ne_of_lt (Heap.lt_size q)) q
 refine wpAny_bind (ai (gW (Q:=λe h=>Q .next e h) (hn.rev.all (W:=W) (A:=A) (env:=env)) ((a.step le o1).step (.refl g1) o2) (AE.rev (l:=us) r) q1.2) λU s₂ z=>wpAny_pure ((z.pf λU U q=>q).after le.toS))
structure Ci where
 xs:List V
 Eh:H->Prop
 ok:V->H->Option Bool
inductive Gl (src:Ci)(h:H):List V->List V->Prop
 |nil:Gl src h [] []
 |stop (v:V) (r:List V) (e:src.ok v h=some true):Gl src h (v::r) (v::r)
 |skip (v:V) (r r2:List V) (e:src.ok v h=some false) (k:Gl src h r r2):Gl src h (v::r) r2
structure FV (X:Addr->Prop)(Y:Nat->Prop)(g g':A8):Prop where
 im:Ek g g'
 pn:∀ a,¬ X a->g'.pn a=g.pn a
 gn:∀ i,¬ Y i->g'.gn i=g.gn i
def Vu (x:PySem.Expr):Bool:=Nat.beq x.ctorIdx 25
inductive JF (W:Bl)(g:A8)(h:H)(X:Addr->Prop)(Y:Nat->Prop)(A2:List V->A8->Prop)(v:V)(r:List V)(w:Value)(s₂:Shared):Prop
 |mk (g':A8) (le:FV X Y g g') (o:Ok W g' h s₂) (rv:AF g' v w) (st:A2 r g')
structure NH (W:Bl)(A:Around)(tg:PySem.Expr)(it:Value)(src:Ci)(X:Addr->Prop)(Y:Nat->Prop)(A2:List V->A8->Prop):Prop where
 keep:∀ {r g g'},A2 r g->Ek g g'->(∀ a,X a->g'.pn a=g.pn a)->(∀ i,Y i->g'.gn i=g.gn i)->A2 r g'
 next:∀ {r r2 g h s} {R:Option Value->Shared->Prop},A2 r g->Ok W g h s->src.Eh h->Gl src h r r2->
  (r2= []->∀ g' s',FV X Y g g'->Ok W g' h s'->R none s')->
  (∀ v r' w s',r2=v::r'->BR W A (letOwnedTupleGo tg it w) (λU s₂=>JF W g h X Y A2 v r' w s₂) s'->R (some w) s')->BR W A (pyNext it) R s
 self:∀ {r g h s} {R:Value->Shared->Prop},Vu tg=false->A2 r g->Ok W g h s->src.Eh h->R it s->BR W A (pyIter it) R s
inductive IJ (W:Bl)(A:Around)(tg:PySem.Expr)(b:Bool)(g:A8)(Q:Ci->H->Prop)(it:Value)(s₂:Shared):Prop
 |mk (g':A8) (X:Addr->Prop) (Y:Nat->Prop) (le:FV X Y g g') (fx:∀ a,X a->g.pn a=none/\g.im a=none) (tp:b=true->∀ a,X a->∃ o,g'.pn a=some o) (fy:∀ i,Y i->g.gn i=none) (h':H) (o:Ok W g' h' s₂) (src:Ci) (A2:List V->A8->Prop) (wk:NH W A tg it src X Y A2) (st:A2 src.xs g') (q:Q src h'):IJ W A tg b g Q it s₂
abbrev J7:=Cc->AZ->M Ci
def NL (W:Bl)(cf:Cc)(n:Nat)(nm:DI)(tg:PySem.Expr)(b:Bool)(m:J7)(x:PySem.Expr):Prop:=
 ∀ A env me g h s Q,DT W n nm A env me g h s->m cf me Q h->BR W A (eval x env) (λw s₁=>BR W A (pyIter w) (IJ W A tg b g Q) s₁) s
theorem IJ.after {tg:PySem.Expr}{b:Bool}{Q:Ci->H->Prop}{it:Value}{s₂:Shared}(le:HV g g')(z:IJ W A tg b g' Q it s₂):IJ W A tg b g Q it s₂:=
 match z with | .mk g2 X Y l fx tp fy h o src A2 wk st q=> .mk g2 X Y ⟨λU U e=>l.im _ _ (le.im _ _ e),λa n=>(l.pn a n).trans (by rw[le.pn]),λi n=>(l.gn i n).trans (by rw[le.gn])⟩ (λa x=>⟨(by rw[<-le.pn];exact(fx a x).1),aP λo e=>aj (fx a x).2 (le.im _ _ e)⟩) tp (λi y=>by rw[<-le.gn];exact fy i y) h o src A2 wk st q
theorem AF.same {v:V}{w:Value}(r:AF g v w)(e:g'.im=g.im):AF g' v w:=AF.mono (λa o q=>by rw[e];exact q) v r
noncomputable def turn (t:K0)(body:A2)(cf:Cc)(k:AZ->(DJ->AZ->H->Prop)->H->Prop)(v:V)(e:AZ)(Q:DJ->AZ->H->Prop)(h:H):Prop:=
 t cf v e (λe h=>body cf e (λfl e h=>match fl with | .next=>k e Q h| .cont=>k e Q h| .brk=>Q .next e h| .ret w=>Q (.ret w) e h) h) h
def F6 (t:K0)(body:A2)(cf:Cc)(src:Ci)(r:List V):AZ->(DJ->AZ->H->Prop)->H->Prop:=
 @List.rec V (λU=>AZ->(DJ->AZ->H->Prop)->H->Prop) (λe Q h=>src.Eh h/\Q .next e h) (λv U k e Q h=>src.Eh h/\AJ (src.ok v h) λb=>cond b (turn t body cf k v e Q h) (k e Q h)) r
def Ck (t:K0)(it:J7)(body:A2):A2:=λcf e Q h=>it cf e (λsrc h=>F6 t body cf src src.xs e Q h) h
inductive PK (t:K0)(body:A2)(cf:Cc)(src:Ci)(r:List V)(e:AZ)(Q:DJ->AZ->H->Prop)(h:H):Prop
 |done (s:src.Eh h) (k:Gl src h r []) (q:Q .next e h):PK t body cf src r e Q h
 |turn (s:src.Eh h) (v:V) (r':List V) (k:Gl src h r (v::r')) (l:r'.length < r.length) (q:turn t body cf (F6 t body cf src r') v e Q h):PK t body cf src r e Q h
def kC {t:K0}{body:A2}{src:Ci}{e:AZ}{Q:DJ->AZ->H->Prop}:∀ {r:List V},F6 t body cf src r e Q h->PK t body cf src r e Q h
 | [],q=> .done q.1 .nil q.2
 |v::r,q=>by
  obtain⟨q1,q2⟩:=q
  refine ao q2 λb eb q3=> ?_
  cases b with
  |true=>exact .turn q1 v r (.stop v r eb) (Nat.lt_succ_self _) q3
  |false=>cases kC (r:=r) q3 with
   |done s k q=>exact .done s (.skip v r _ eb k) q
   |turn s v' r' k l q=>exact .turn s v' r' (.skip v r _ eb k) (Nat.lt_succ_of_lt l) q
theorem Fp.cut (k:Ek g g')(p:∀ a,Eb env a->g'.pn a=g.pn a)(e:Fp g env me):Fp g' env me where
 glob:=e.glob
 bi:=e.bi
 kind:=e.kind
 co:=e.co
 ns:=match e.ns with | .mk o lm e ns v=> .mk o lm ((p _ (.inl rfl)).trans e) ns λx hx hk u hu=>let⟨w,a,b⟩:=v x hx hk u hu;⟨w,a,AF.mono k u b⟩
 cell x hx hk:=let⟨a,e,c⟩:=e.cell x hx hk;⟨a,e,match c with | .full f u o w e i d r=> .full f u o w e (k _ _ i) d (AF.mono k u r)| .mv f u o w e' i d r=> .mv f u o w e' ((p a (.inr ⟨x,hx,hk,e⟩)).trans i) d (AF.mono k u r)| .bare o e' i d=> .bare o e' ((p a (.inr ⟨x,hx,hk,e⟩)).trans i) d⟩
 one:=e.one
def kE {X:Addr->Prop}{a:Addr}(at_:DT W n nm A env me g h s)(fx:∀ a,X a->g.pn a=none/\g.im a=none)(hx:X a)(ho:Eb env a):False:=by
 rcases ho with rfl|⟨x,h1,h2,h3⟩
 ·obtain⟨o,lm,e,ns,vs⟩:=at_.BL.ns
  rw[(fx _ hx).1] at e;cases e
 ·obtain⟨b,e,c⟩:=at_.BL.cell x h1 h2
  rw[h3] at e;cases e
  cases c with
  |full f u ob w e i d r=>rw[(fx _ hx).2] at i;cases i
  |mv f u ob w e i d r=>rw[(fx _ hx).1] at i;cases i
  |bare ob e i d=>rw[(fx _ hx).1] at i;cases i
open Classical in
def uC {t:K0}{it:J7}{body:A2}{tg x:PySem.Expr}{b:Bool}{bx:List Stmt}{p:Pos}(hset:∀ (env:PySem.Env) v,foldedSetIterable x env v=pure v)(ht:IK W cf n nm t tg)(hi:NL W cf n nm tg b it x)(hb:I4 W cf n nm body bx):JJ W cf n nm (Ck t it body) (.For tg x bx [] p):=λA env me g h s Q a q=>by
 refine wpAny_For (ai (hi _ _ _ _ _ _ _ a q) λw s₁ z=>ai z λiv s₂ z=> ?_) (λv=>hset env v)
 obtain⟨g1,X,Y,le,fx,tp,fy,h1,o1,src,A2,wk,st,q⟩:=z
 have nx:∀ a,X a-> ¬ Eb env a:=λb hb ho=>kE a fx hb ho
 have a1:DT W n nm A env me g1 h1 s₂:=⟨o1,a.BL.cut le.im λb hb=>le.pn b λz=>nx b z hb,a.room,a.names,a.code⟩
 have fin:∀ {g2 h2 m2 s3 fl f},FV (λa=>Eb env a\/X a) Y g1 g2->DT W n nm A env m2 g2 h2 s3->Kj g2 fl f->Q fl m2 h2->N6 W n nm A env g Q f s3:=λ {g2 h2 m2 s3 fl f} l2 a2 rf q=>by
  have pk:∀ b o,(if Eb env b then g2.pn b else g.pn b)=some o->g2.pn b=some o:=λb o e=>by
   by_cases z:Eb env b
   ·rw[if_pos z] at e;exact e
   ·rw[if_neg z] at e
    have zx: ¬ X b:=λy=>aj (fx b y).1 e
    exact(l2.pn b λy=>y.elim z zx).trans ((le.pn b zx).trans e)
  have gk:∀ i x,g.gn i=some x->g2.gn i=some x:=λi x e=>by
   have zy: ¬ Y i:=λy=>aj (fy i y) e
   exact(l2.gn i zy).trans ((le.gn i zy).trans e)
  refine⟨⟨g2.im,λb=>if Eb env b then g2.pn b else g.pn b,g.gn⟩,⟨λU U e=>l2.im _ _ (le.im _ _ e),λb z=>if_neg z,rfl⟩,h2,m2,⟨a2.ok.Nm pk gk,Fp.cut (g:=g2) (λU U e=>e) (λb z=>if_pos z) a2.BL,a2.room,a2.names,a2.code⟩,fl,?_,q⟩
  cases rf with
  |next=>exact .next
  |brk=>exact .brk
  |cont=>exact .cont
  |ret v w r=>exact .ret v w (r.same rfl)
 refine codeAny_mono (codeAny_forLoop_any (R:=Tb (N6 W n nm A env g Q)) (λk s₁=>∃ r g₁ h₁ me₁,k=r.length/\FV (λa=>Eb env a\/X a) Y g1 g₁/\DT W n nm A env me₁ g₁ h₁ s₁/\A2 r g₁/\F6 t body cf src r me₁ Q h₁) ?_ src.xs.length
  ⟨src.xs,g1,h1,me,rfl,⟨λU U e=>e,λU U=>rfl,λU U=>rfl⟩,a1,st,q⟩) λr s₃ z=>by cases z with |mk f s' z=>exact z
 rintro k s₁ ⟨r,g₁,h₁,me₁,rfl,le₁,a₁,st₁,q₁⟩
 have leX:∀ {g₂},FV X Y g₁ g₂->FV (λa=>Eb env a\/X a) Y g1 g₂:=λl=>⟨λU U e=>l.im _ _ (le₁.im _ _ e),λb n=>(l.pn b λz=>n (.inr z)).trans (le₁.pn b n),λi n=>(l.gn i n).trans (le₁.gn i n)⟩
 have aX:∀ {g₂ s₂},FV X Y g₁ g₂->Ok W g₂ h₁ s₂->DT W n nm A env me₁ g₂ h₁ s₂:=λl o=>⟨o,a₁.BL.cut l.im λb hb=>l.pn b λz=>nx b z hb,a₁.room,a₁.names,a₁.code⟩
 cases kC q₁ with
 |done sl sk q=>
  refine wpAny_mono (wk.next (R:=λo s₂=>o=none/\∃ g',FV X Y g₁ g'/\Ok W g' h₁ s₂) st₁ a₁.ok sl sk (λU g' s' l o=>⟨rfl,g',l,o⟩) λv r' w s' e=>by rcases e with ⟨⟩) (λo s₂ z=> ?_) λU U e=>e.elim
  obtain⟨rfl,g',l,o⟩:=z
  refine wpAny_mono (wpAny_execs_nil (E:=GG) (Q:=λf s₃=>f= .next/\s₃=s₂) ⟨rfl,rfl⟩) (λf s₃ z=> ?_) λU U e=>e.elim
  obtain⟨rfl,rfl⟩:=z
  exact .mk _ _ (fin (leX l) (aX l o) .next q)
 |turn sl v r' sk ll q=>
  refine wpAny_mono (wk.next (R:=λo s₂=>∃ w,o=some w/\BR W A (letOwnedTupleGo tg iv w) (λU s₃=>JF W g₁ h₁ X Y A2 v r' w s₃) s₂) st₁ a₁.ok sl sk (λe=>by rcases e with ⟨⟩) λv' r'' w s' e z=>by rcases e with ⟨⟩;exact⟨w,rfl,z⟩) (λo s₂ z=> ?_) λU U e=>e.elim
  obtain⟨w,rfl,z⟩:=z
  refine wpAny_mono z (λU s₃ z=> ?_) λU U e=>e.elim
  obtain⟨g2,l2,o2,rv,st2⟩:=z
  refine wpAny_mono (ht _ _ _ _ _ _ _ _ _ (aX l2 o2) rv q) (λU s₄ z=> ?_) λU U e=>e.elim
  obtain⟨g3,l3,h3,m3,a3,q⟩:=z
  refine wpAny_mono (hb _ _ _ _ _ _ _ a3 q) (λf s₅ z=> ?_) λU U e=>e.elim
  obtain⟨g4,l4,h4,m4,a4,fl,rf,q⟩:=z
  have l34:=l3.trans l4
  have l14:FV (λa=>Eb env a\/X a) Y g1 g4:=have l:=leX l2;⟨λU U e=>l34.im _ _ (l.im _ _ e),λb n=>(l34.pn b λz=>n (.inl z)).trans (l.pn b n),λi n=>(by rw[l34.gn];exact l.gn i n)⟩
  have st4:A2 r' g4:=wk.keep st2 l34.im (λb hb=>l34.pn b (nx b hb)) λi U=>by rw[l34.gn]
  cases rf with
  |next=>exact⟨r'.length,ll,r',g4,h4,m4,rfl,l14,a4,st4,q⟩
  |cont=>exact⟨r'.length,ll,r',g4,h4,m4,rfl,l14,a4,st4,q⟩
  |brk=>exact .mk _ _ (fin l14 a4 .next q)
  |ret v w rv=>exact .mk _ _ (fin l14 a4 (.ret v w rv) q)
end
section
variable {W:Bl}{n:Nat}{nm:DI}{cf:Cc}{g g':A8}{h h':H}{s s':Shared}{A:Around}{env:PySem.Env}{me:AZ}{tg:PySem.Expr}
def LV:List String:= ["enumerate","zip","dict_itemiterator","dict_reverseitemiterator","odict_iterator","itertools.zip_longest","itertools.pairwise"]
def cj {I:Addr}{w:Value}{o:Obj}{T:String}{Q:Unit->Shared->Prop}(e:s.heap.get? I=some o)(hc:o.cls= .type T)(EP:LV.contains T=false)(h:Q () s):BR W A (letOwnedTupleGo tg (.ref I) w) Q s:=by
 have fin:∀ a:Addr,BR W A (do let o<-load I;match o.cls,o.data with
   | .type n,.fields vs=>if LV.contains n && vs[0]? ==some (rawInt a) then do rule "for.unpacks-the-owned-tuple";updateField I 0 .none else pure ()
   |_,_=>pure ()) Q s:=λa=>by
  refine wpAny_bind (wpAny_load e ?_)
  obtain⟨oc,od,odt,osl⟩:=o
  dsimp only at hc
  subst hc
  dsimp only
  cases odt <;> first|exact wpAny_pure h|(dsimp only;rw[EP,Bool.false_and,if_neg Bool.false_ne_true];exact wpAny_pure h)
 unfold letOwnedTupleGo
 cases tg <;> first|exact wpAny_pure h|(cases w <;> first|exact fin _|exact wpAny_pure h)
structure H3 (W:Bl)(A:Around)(I:Addr)(src:Ci)(E:A8->Prop)(It:Nat->Obj->Prop):Prop where
 ok:∀ v h,src.ok v h=some true
 mono:∀ {g g'},E g->Ek g g'->E g'
 cls:∀ {i o},It i o->∃ T,o.cls= .type T/\LV.contains T=false
 item:∀ {i v g h s o} {R:Option Value->Shared->Prop},g.pn I=some o->It i o->E g->Ok W g h s->src.Eh h->src.xs[i]? =some v->
  (∀ w hp tk o',(∀ b ob,b≠I->s.heap.get? b=some ob->hp.get? b=some ob)->hp.get? I=some o'->It (i+1) o'->AF g v w->R (some w) { s with heap:=hp,toks:=tk })->BR W A (pyNext (.ref I)) R s
 done:∀ {g h s o} {R:Option Value->Shared->Prop},g.pn I=some o->It src.xs.length o->E g->Ok W g h s->src.Eh h->
  (∀ hp tk,(∀ b ob,b≠I->s.heap.get? b=some ob->hp.get? b=some ob)->R none { s with heap:=hp,toks:=tk })->BR W A (pyNext (.ref I)) R s
 self:∀ {i g h s o} {R:Value->Shared->Prop},g.pn I=some o->It i o->E g->Ok W g h s->src.Eh h->R (.ref I) s->BR W A (pyIter (.ref I)) R s
inductive Wp (I:Addr)(src:Ci)(E:A8->Prop)(It:Nat->Obj->Prop)(r:List V)(g:A8):Prop
 |mk (i:Nat) (o:Obj) (l:i<=src.xs.length) (e:r=src.xs.drop i) (p:g.pn I=some o) (t:It i o) (x:E g):Wp I src E It r g
theorem Gl.same {src:Ci}{r r2:List V}(x:Gl src h r r2)(hs:∀ v,src.ok v h=some true):r2=r:=by
 cases x with
 |nil=>rfl
 |stop=>rfl
 |skip v r _ e=>rw[hs] at e;cases e
abbrev Ji:Nat->Prop:=λU=>False
theorem FV.pin {a:Addr}{o:Obj}:FV (λb=>b=a) Ji g (g.pin a o):=⟨λU U e=>e,λb n=>ab _ _ n,λU U=>rfl⟩
theorem Ok.dropped (ho:Ok W g h s){hp:Heap}{tk:Nat}{a:Addr}(k:∀ b o,b≠a->s.heap.get? b=some o->hp.get? b=some o)(ha:∃ ob,g.pn a=some ob):Ok W { g with pn:=Ad g.pn a none } h { s with heap:=hp,toks:=tk }:=
 have⟨ob,e0⟩:=ha
 have z:=ho.Dz a ob e0
 have n:h a=none:=aP λx hx=>by rw[(ho.sep a x hx).2.1] at e0;cases e0
 ho.go (λb=>b=a) (λU U e=>e) (λb o n e=>k b o n e) (λb o e=> .inl ⟨e,λq=>aj z.1 (q▸e)⟩)
  (λb o' e=>by
   have e:Ad g.pn a none b=some o':=e
   by_cases q:b=a
   ·subst q;rw[aa] at e;cases e
   ·rw[ab _ _ q] at e;exact⟨(ho.Dz b o' e).1,.inl ⟨e,q⟩⟩)
  (λb o' e=> .inl ⟨λq=>aj n (q▸e),e,λy hy=>⟨λq=>by
    have r:=ho.obj b o' e
    have hyo:h y=some (.own b):=by cases r <;> cases hy <;> assumption
    exact aj n (q▸hyo),rfl⟩⟩)
  (λb hb q=>z.2 (q▸hb)) rfl ho.gens ho.Ii
theorem H3.walk {I:Addr}{src:Ci}{E:A8->Prop}{It:Nat->Obj->Prop}(c:H3 W A I src E It):NH W A tg (.ref I) src (λb=>b=I) Ji (Wp I src E It) where
 keep st k p _:=by cases st with |mk i o l er pp t x=>exact .mk i o l er ((p _ rfl).trans pp) t (c.mono x k)
 self _ st o hs q:=by cases st with |mk i ob l er p t x=>exact c.self p t x o hs q
 next:=λ {r r2 g h s R} st o Bt sk kn ks=>by
  obtain⟨i,ob,l,er,p,t,x⟩:=st
  have e:=sk.same λv=>c.ok v h
  subst e
  rcases Nat.lt_or_ge i src.xs.length with q|q
  ·refine c.item p t x o Bt (List.getElem?_eq_getElem q) λw hp tk o' hk e' t' rv=> ?_
   refine ks src.xs[i] (src.xs.drop (i+1)) w _ (er.trans (List.drop_eq_getElem_cons q)) ?_
   obtain⟨T,hc,EP⟩:=c.cls t'
   exact cj e' hc EP ⟨g.pin I o',.pin,o.pinned hk (.inr ⟨ob,p⟩) e',rv.pin,.mk (i+1) o' q rfl (aa ..) t' (c.mono x λU U e=>e)⟩
  ·have e2:i=src.xs.length:=by omega
   subst e2
   exact c.done p t x o Bt λhp tk hk=>kn (by rw[er];exact List.drop_of_length_le (Nat.le_refl _)) { g with pn:=Ad g.pn I none } _ ⟨λU U e=>e,λb n=>ab _ _ n,λU U=>rfl⟩ (o.dropped hk ⟨ob,p⟩)
def bO {b:Bool}{Q:Ci->H->Prop}{src:Ci}{o:Obj}{E:A8->Prop}{It:Nat->Obj->Prop}(ho:Ok W g h s)(hob:o.isFreed=false)(c:H3 W A s.heap.objs.size src E It)(t:It 0 o)(x:E g)(q:Q src h){tk:Nat}:
  IJ W A tg b g Q (.ref s.heap.objs.size) { s with heap:=s.heap.push o,toks:=tk }:=
 have f:=ho.fresh (al s.heap)
 ⟨g.pin s.heap.objs.size o,λb=>b=s.heap.objs.size,Ji,.pin,λa e=>e▸⟨f.2.2.1,f.2.1⟩,λU a e=>e▸⟨_,aa ..⟩,λU e=>e.elim,h,ho.pinned (λb ob U e=>Heap.get?_push_of_some _ e) (.inl (al _)) (Heap.get?_push_size _ hob),src,_,c.walk,.mk 0 o (Nat.zero_le _) rfl (aa ..) t (c.mono x λU U e=>e),q⟩
def KY:V->H->Option Bool:=λU U=>some true
def N3 (a:Nat)(xs:List V):Ci:=⟨xs,λh=>getL h a=some xs,KY⟩
def Fn (xs:List V):Ci:=⟨xs,λU=>True,KY⟩
structure Jl (T:String)(fs:Array Value)(o:Obj):Prop where
 c:o.cls= .type T
 d:o.data= .fields fs
def bX {I b:Addr}{ob:Obj}{h h':Heap}(hk:∀ b o,b ∉ [I]->h.get? b=some o->h'.get? b=some o)(n:b≠I)(e:h.get? b=some ob):h'.get? b=some ob:=hk b ob (λz=>n (List.mem_singleton.mp z)) e
def gG {a I:Addr}{src:Ci}{E:A8->Prop}(hh:A.handled=none)(ok:∀ v h,src.ok v h=some true)(mono:∀ {g g'},E g->Ek g g'->E g')
  (hl:∀ {g h s o},E g->Ok W g h s->src.Eh h->g.pn I=some o->Of g s.heap src.xs (.ref a)/\a≠I):H3 W A I src E λi o=>Jl "list_iterator" #[.ref a,.int i 0] o where
 ok:=ok
 mono:=mono
 cls t:=⟨_,t.c,by decide+kernel⟩
 item:=λ {i v g h s o R} p t x ho st e k=>by
  obtain⟨q,hne⟩:=hl x ho st p
  obtain⟨_,vals,L,r,l,z⟩:=q
  obtain⟨w0,e4,e5⟩:=r.get e
  have hi:i < vals.size:=by rw[l];exact(List.getElem?_eq_some_iff.mp e).1
  refine(Walks.list hh I a hne vals).item i s R GG hi ⟨⟨o,ho.Dk _ _ p,t.c,t.d⟩,L⟩ λw h' tk EI hs' hk=> ?_
  have EI:vals[i]? =some w:=EI
  rw[bT e4] at EI;cases EI
  obtain⟨ob,q1,q2,q3⟩:=hs'.1
  exact k w0 h' tk ob (λb ob n e=>bX hk n e) q1 ⟨q2,q3⟩ e5
 done:=λ {g h s o R} p t x ho st k=>by
  obtain⟨q,hne⟩:=hl x ho st p
  obtain⟨_,vals,L,r,l,z⟩:=q
  exact(Walks.list hh I a hne vals).done s R GG ⟨⟨o,ho.Dk _ _ p,t.c,by rw[l];exact t.d⟩,L⟩ λh' tk hk=>k h' tk λb ob n e=>bX hk n e
 self:=λ {i g h s o R} p t x ho st q=>wpAny_pyIter_listiter ⟨o,ho.Dk _ _ p,t.c,t.d⟩ q
def mu {a I:Addr}{xs:List V}(hh:A.handled=none):H3 W A I (N3 a xs) (λU=>True) λi o=>Jl "list_iterator" #[.ref a,.int i 0] o:=
 gG hh (λU U=>rfl) (λU U=>trivial) λ {g h s o} _ ho st p=>⟨fu ho (iM a) st,λe=>by
  have z:=(ho.sep a _ (aM st)).2.1
  rw[e,p] at z;cases z⟩
structure VD (a:Addr)(xs:List V)(g:A8):Prop where
 ex:∃ is vals n,xs=List.map V.int is/\g.im a=some { cls:= .type "list",data:= .seq vals n }/\IntsAre vals.toList is/\is.length<=lim
def mt {a I:Addr}{xs:List V}(hh:A.handled=none):H3 W A I (Fn xs) (VD a xs) λi o=>Jl "list_iterator" #[.ref a,.int i 0] o:=
 gG hh (λU U=>rfl) (λe k=>let⟨is,vals,n,e1,e2,r⟩:=e.ex;⟨is,vals,n,e1,k _ _ e2,r⟩) λ {g h s o} e ho _ p=>by
  obtain⟨is,vals,n,rfl,e2,r,l⟩:=e.ex
  exact⟨fu (x:= .DM is) ho (.mk a vals n e2 r l) rfl,λz=>by rw[<-z,] at p;rw[(ho.Dz _ _ p).1] at e2;cases e2⟩
structure Vz (a:Addr)(xs:List V)(g:A8):Prop where
 ex:∃ vals n,g.im a=some { cls:= .type "tuple",data:= .seq vals n }/\AE g xs vals.toList
def mB {a I:Addr}{xs:List V}(hh:A.handled=none):H3 W A I (Fn xs) (Vz a xs) λi o=>Jl "tuple_iterator" #[.ref a,.int i 0] o where
 ok _ _:=rfl
 mono e k:=let⟨vals,n,e2,r⟩:=e.ex;⟨vals,n,k _ _ e2,AE.mono k _ r⟩
 cls t:=⟨_,t.c,by decide+kernel⟩
 item:=λ {i v g h s o R} p t x ho st e k=>by
  obtain⟨vals,n,e2,r⟩:=x.ex
  have hne:a≠I:=λz=>by rw[<-z] at p;rw[(ho.Dz _ _ p).1] at e2;cases e2
  have l:vals.size=xs.length:=by have :=r.length;simpa using this
  obtain⟨w0,e4,e5⟩:=r.get e
  have hi:i < vals.size:=by rw[l];exact(List.getElem?_eq_some_iff.mp e).1
  refine(Walks.tuple hh I a hne vals).item i s R GG hi ⟨⟨o,ho.Dk _ _ p,t.c,t.d⟩,⟨_,ho.F2 _ _ e2,rfl,n,rfl⟩⟩ λw h' tk EI hs' hk=> ?_
  have EI:vals[i]? =some w:=EI
  rw[bT e4] at EI;cases EI
  obtain⟨ob,q1,q2,q3⟩:=hs'.1
  exact k w0 h' tk ob (λb ob n e=>bX hk n e) q1 ⟨q2,q3⟩ e5
 done:=λ {g h s o R} p t x ho st k=>by
  obtain⟨vals,n,e2,r⟩:=x.ex
  have hne:a≠I:=λz=>by rw[<-z] at p;rw[(ho.Dz _ _ p).1] at e2;cases e2
  have l:vals.size=xs.length:=by have :=r.length;simpa using this
  exact(Walks.tuple hh I a hne vals).done s R GG ⟨⟨o,ho.Dk _ _ p,t.c,by rw[l];exact t.d⟩,⟨_,ho.F2 _ _ e2,rfl,n,rfl⟩⟩ λh' tk hk=>k h' tk λb ob n e=>bX hk n e
 self:=λ {i g h s o R} p t x ho st q=>wpAny_pyIter_tupleiter ⟨o,ho.Dk _ _ p,t.c,t.d⟩ q
def Hi (a k:Int)(m:Nat):List V:=(List.range m).map λ(j:Nat)=> .int (a+j*k)
def mA {I:Addr}{a k:Int}{m:Nat}(hh:A.handled=none):H3 W A I (Fn (Hi a k m)) (λU=>True) λi o=>o= { cls:= .type "range_iterator",data:= .fields #[.int (a+(i:Nat)*k) 0,.int ((m:Int) - (i:Nat)) 0,.int k 0] } where
 ok _ _:=rfl
 mono _ _:=trivial
 cls:=λ {i o} t=>⟨"range_iterator",by rw[t],by decide+kernel⟩
 item:=λ {i v g h s o R} p t x ho st e kk=>by
  have hl:(Hi a k m).length=m:=by rw[Hi,List.length_map,List.length_range]
  have hi:i < m:=by rw[<-hl];exact(List.getElem?_eq_some_iff.mp e).1
  have ev:v= .int (a+i*k):=by
   have e:(Hi a k m)[i]? =some v:=e
   rw[Hi,List.getElem?_map,List.getElem?_range hi] at e
   exact(Option.some.inj e).symm
  subst ev
  refine(Walks.range hh I a k m).item i s R GG hi (by rw[t] at p;exact ho.Dk _ _ p) λw h' tk EI hs' hk=> ?_
  obtain⟨t',rfl⟩:=EI
  exact kk _ h' tk _ (λb ob n e=>bX hk n e) hs' rfl (cB ..)
 done:=λ {g h s o R} p t x ho st k'=>by
  have hl:(Hi a k m).length=m:=by rw[Hi,List.length_map,List.length_range]
  exact(Walks.range hh I a k m).done s R GG (by rw[t,show(Fn (Hi a k m)).xs.length=m from hl] at p;exact ho.Dk _ _ p) λh' tk hk=>k' h' tk λb ob n e=>bX hk n e
 self:=λ {i g h s o R} p t x ho st q=>wpAny_pyIter_rangeiter (by rw[t] at p;exact ho.Dk _ _ p) q
def O0 (d ep:Nat)(l:List (Int×V)):Ci:=⟨l.map λp=> .int p.1,λh=>CK h d=some (ep,l),KY⟩
def N4 (d ep:Nat)(l:List (Int×V)):Ci:=⟨l.map λp=>p.2,λh=>CK h d=some (ep,l),KY⟩
def dp {d ep I:Nat}{l:List (Int×V)}{o:Obj}(ho:Ok W g h s)(st:CK h d=some (ep,l))(p:g.pn I=some o):d≠I:=λe=>by
 have z:=(ho.sep d _ (aQ st)).2.1
 rw[e,p] at z;cases z
def lg {d ep I:Nat}{l:List (Int×V)}(hh:A.handled=none):H3 W A I (O0 d ep l) (λU=>True) λi o=>Jl "dict_keyiterator" #[.ref d,.int i 0,.int l.length 0,.int ep 0] o where
 ok _ _:=rfl
 mono _ _:=trivial
 cls t:=⟨_,t.c,by decide+kernel⟩
 item:=λ {i v g h s o R} p t x ho st e k=>by
  obtain⟨kvs,hat,r,sz,ns⟩:=ho.BM (aQ st)
  have hl:=r.length
  have hi:i < kvs.length:=by have :=(List.getElem?_eq_some_iff.mp e).1;rw[hl];simpa [O0] using this
  refine(Walks.dictKeys (knd:=W.ik) hh I d (dp ho st p) kvs ep).item i s R GG hi ⟨⟨o,ho.Dk _ _ p,t.c,by rw[hl];exact t.d⟩,hat⟩ λw h' tk EI hs' hk=> ?_
  obtain⟨kk,u,e1,e2⟩:=EI
  obtain⟨u',e3,_⟩:=r.at_ i kk u e1
  have e:(l.map λp=>V.int p.1)[i]? =some v:=e
  have e3:l[i]? =some (kk,u'):=e3
  rw[List.getElem?_map,e3] at e;cases e
  obtain⟨t',rfl⟩:=Value.isInt_shape e2
  obtain⟨ob,q1,q2,q3⟩:=hs'.1
  exact k _ h' tk ob (λb ob n e=>bX hk n e) q1 ⟨q2,by rw[<-hl];exact q3⟩ (cB ..)
 done:=λ {g h s o R} p t x ho st k=>by
  obtain⟨kvs,hat,r,sz,ns⟩:=ho.BM (aQ st)
  have hl:=r.length
  exact(Walks.dictKeys (knd:=W.ik) hh I d (dp ho st p) kvs ep).done s R GG ⟨⟨o,ho.Dk _ _ p,t.c,by have :=t.d;rw[show(O0 d ep l).xs.length=l.length from List.length_map ..] at this;rw[hl];exact this⟩,hat⟩ λh' tk hk=>k h' tk λb ob n e=>bX hk n e
 self:=λ {i g h s o R} p t x ho st q=>by
  obtain⟨kvs,hat,r,sz,ns⟩:=ho.BM (aQ st)
  exact(Walks.dictKeys (knd:=W.ik) hh I d (dp ho st p) kvs ep).self i s R GG ⟨⟨o,ho.Dk _ _ p,t.c,by rw[r.length];exact t.d⟩,hat⟩ q
def lq {d ep I:Nat}{l:List (Int×V)}(hh:A.handled=none):H3 W A I (N4 d ep l) (λU=>True) λi o=>Jl "dict_valueiterator" #[.ref d,.int i 0,.int l.length 0,.int ep 0] o where
 ok _ _:=rfl
 mono _ _:=trivial
 cls t:=⟨_,t.c,by decide+kernel⟩
 item:=λ {i v g h s o R} p t x ho st e k=>by
  obtain⟨kvs,hat,r,sz,ns⟩:=ho.BM (aQ st)
  have hl:=r.length
  have hi:i < kvs.length:=by have :=(List.getElem?_eq_some_iff.mp e).1;rw[hl];simpa [N4] using this
  refine(Walks.dictValues (knd:=W.ik) hh I d (dp ho st p) kvs ep).item i s R GG hi ⟨⟨o,ho.Dk _ _ p,t.c,by rw[hl];exact t.d⟩,hat⟩ λw h' tk EI hs' hk=> ?_
  obtain⟨kk,e1⟩:=EI
  obtain⟨u',e3,rv⟩:=r.at_ i kk w e1
  have e:(l.map λp=>p.2)[i]? =some v:=e
  have e3:l[i]? =some (kk,u'):=e3
  rw[List.getElem?_map,e3] at e;cases e
  obtain⟨ob,q1,q2,q3⟩:=hs'.1
  exact k _ h' tk ob (λb ob n e=>bX hk n e) q1 ⟨q2,by rw[<-hl];exact q3⟩ rv
 done:=λ {g h s o R} p t x ho st k=>by
  obtain⟨kvs,hat,r,sz,ns⟩:=ho.BM (aQ st)
  have hl:=r.length
  exact(Walks.dictValues (knd:=W.ik) hh I d (dp ho st p) kvs ep).done s R GG ⟨⟨o,ho.Dk _ _ p,t.c,by have :=t.d;rw[show(N4 d ep l).xs.length=l.length from List.length_map ..] at this;rw[hl];exact this⟩,hat⟩ λh' tk hk=>k h' tk λb ob n e=>bX hk n e
 self:=λ {i g h s o R} p t x ho st q=>by
  obtain⟨kvs,hat,r,sz,ns⟩:=ho.BM (aQ st)
  exact(Walks.dictValues (knd:=W.ik) hh I d (dp ho st p) kvs ep).self i s R GG ⟨⟨o,ho.Dk _ _ p,t.c,by rw[r.length];exact t.d⟩,hat⟩ q
end
section
variable {W:Bl}{n:Nat}{nm:DI}{cf:Cc}{g g':A8}{h h':H}{s s':Shared}{A:Around}{env:PySem.Env}{me:AZ}{tg:PySem.Expr}
abbrev Qk (d:Addr)(i n ep:Nat)(ok ov:Value):Obj:={ cls:= .type "dict_itemiterator",dict:=none,data:= .fields #[.none,.bool false,.ref d,.int i 0,.int n 0,.int ep 0,ok,ov],slots:= #[] }
def Lg (d ep:Nat)(l:List (Int×V)):Ci:=⟨l.map λp=> .tup [.int p.1,p.2],λh=>CK h d=some (ep,l),KY⟩
inductive Wr (d ep:Nat)(l:List (Int×V))(I:Addr)(r:List V)(g:A8):Prop
 |mk (i:Nat) (ok ov:Value) (hi:i<=l.length) (e:r=(Lg d ep l).xs.drop i) (p:g.pn I=some (Qk d i l.length ep ok ov)):Wr d ep l I r g
theorem Ok.U9 (ho:Ok W g h s){hp:Heap}{tk:Nat}{X:Addr->Prop}{pn:Addr->Option Obj}{T:Addr}{ob:Obj}(k:∀ b o,¬ X b->s.heap.get? b=some o->hp.get? b=some o)(hX:∀ b,X b->∃ ob,g.pn b=some ob)
  (hpn:∀ b o,pn b=some o->(X b/\hp.get? b=some o)\/(¬ X b/\g.pn b=some o))(EP:s.heap.get? T=none)(eT:hp.get? T=some ob):Ok W ⟨Ad g.im T (some ob),pn,g.gn⟩ h { s with heap:=hp,toks:=tk }:=
 have f:=ho.fresh EP
 have fx:∀ b,X b->h b=none/\g.im b=none/\ ¬ EY W b/\b≠T:=λb hb=>by
  obtain⟨o,e⟩:=hX b hb
  have z:=ho.Dz b o e
  exact⟨aP λx hx=>(by rw[(ho.sep b x hx).2.1] at e;cases e),z.1,z.2,λq=>aj f.2.2.1 (q▸e)⟩
 ho.go (λb=>X b\/b=T) (λb o e=>(ab _ _ λz=>aj f.2.1 (z▸e)).trans e) (λb o n e=>k b o (λq=>n (.inl q)) e)
  (λb o' e=>by
   have e:Ad g.im T _ b=some o':=e
   by_cases q:b=T
   ·subst q;rw[aa] at e;cases e;exact .inr ⟨.inr rfl,eT,f.2.2.2⟩
   ·rw[ab _ _ q] at e;exact .inl ⟨e,λz=>z.elim (λz=>aj (fx b z).2.1 e) q⟩)
  (λb o' e=>(hpn b o' e).elim (λz=>have y:=fx b z.1
    ⟨(ab _ _ y.2.2.2).trans y.2.1,.inr ⟨.inl z.1,z.2,y.2.2.1⟩⟩) λz=>
   have q:b≠T:=λq=>aj f.2.2.1 (q▸z.2)
   ⟨(ab _ _ q).trans (ho.Dz b o' z.2).1,.inl ⟨z.2,λy=>y.elim z.1 q⟩⟩)
  (λb o' e=> .inl ⟨λz=>z.elim (λz=>aj (fx b z).1 e) λ(q:b=T)=>aj f.1 (q▸e),e,λy hy=>⟨λz=>by
    have r:=ho.obj b o' e
    have hyo:h y=some (.own b):=by cases r <;> cases hy <;> assumption
    exact z.elim (λz=>aj (fx y z).1 hyo) λ(q:y=T)=>aj f.1 (q▸hyo),rfl⟩⟩)
  (λb hb z=>z.elim (λz=>(fx b z).2.2.1 hb) λq=>f.2.2.2 (q▸hb)) rfl ho.gens ho.Ii
theorem Ok.pins (ho:Ok W g h s){hp:Heap}{tk:Nat}{X:Addr->Prop}{pn:Addr->Option Obj}(k:∀ b o,¬ X b->s.heap.get? b=some o->hp.get? b=some o)(hX:∀ b,X b->s.heap.get? b=none\/∃ ob,g.pn b=some ob)
  (hpn:∀ b o,pn b=some o->(X b/\hp.get? b=some o)\/(¬ X b/\g.pn b=some o)):Ok W ⟨g.im,pn,g.gn⟩ h { s with heap:=hp,toks:=tk }:=
 have fx:∀ b,X b->h b=none/\g.im b=none/\ ¬ EY W b:=λb hb=>(hX b hb).elim (λe=>have f:=ho.fresh e;⟨f.1,f.2.1,f.2.2.2⟩) λ⟨o,e⟩=>
  have z:=ho.Dz b o e;⟨aP λx hx=>(by rw[(ho.sep b x hx).2.1] at e;cases e),z.1,z.2⟩
 ho.go X (λU U e=>e) k (λb o e=> .inl ⟨e,λz=>aj (fx b z).2.1 e⟩)
  (λb o' e=>(hpn b o' e).elim (λz=>have y:=fx b z.1;⟨y.2.1,.inr ⟨z.1,z.2,y.2.2⟩⟩) λz=>⟨(ho.Dz b o' z.2).1,.inl ⟨z.2,z.1⟩⟩)
  (λb o' e=> .inl ⟨λz=>aj (fx b z).1 e,e,λy hy=>⟨λz=>by
    have r:=ho.obj b o' e
    have hyo:h y=some (.own b):=by cases r <;> cases hy <;> assumption
    exact aj (fx y z).1 hyo,rfl⟩⟩)
  (λb hb z=>(fx b z).2.2 hb) rfl ho.gens ho.Ii
def jQ {I:Addr}{o:Obj}{hp:Heap}{pn:Addr->Option Obj}(e:hp.get? I=some o)(b:Addr)(o':Obj)(q:Ad pn I (some o) b=some o'):(b=I/\hp.get? b=some o')\/(¬ b=I/\pn b=some o'):=by
 by_cases z:b=I
 ·subst z;rw[aa] at q;cases q;exact .inl ⟨rfl,e⟩
 ·rw[ab _ _ z] at q;exact .inr ⟨z,q⟩
def ku {α}{l:List α}{i:Nat}{x:α}(e:l[i]? =some x):l.drop i=x::l.drop (i+1):=by
 obtain⟨q,rfl⟩:=List.getElem?_eq_some_iff.mp e
 exact List.drop_eq_getElem_cons q
def nQ {elts:List PySem.Expr}{k0:Nat}{p0:Pos}{d ep:Nat}{l:List (Int×V)}{I:Addr}(hh:A.handled=none):NH W A (.Tuple elts k0 p0) (.ref I) (Lg d ep l) (λb=>b=I) Ji (Wr d ep l I) where
 keep st k p _:=by cases st with |mk i ok ov l er pp=>exact .mk i ok ov l er ((p _ rfl).trans pp)
 self e:=by cases e
 next:=λ {r r2 g h s R} st o Bt sk kn ks=>by
  obtain⟨i,ok,ov,hi,er,p⟩:=st
  have e:=sk.same λv=>rfl
  subst e
  have Bt:CK h d=some (ep,l):=Bt
  obtain⟨kvs,hat,Jj,sz,ns⟩:=o.BM (aQ Bt)
  have hl:=Jj.length
  have p':=o.Dk _ _ p
  rcases Nat.lt_or_ge i l.length with q|q
  ·have hk:i < kvs.length:=by rw[hl];exact q
   obtain⟨kk,x0,e0⟩:∃ kk x0,kvs[i]? =some (kk,x0):=⟨_,_,List.getElem?_eq_getElem hk⟩
   obtain⟨u,e3,e4⟩:=Jj.at_ i kk x0 e0
   have e3:l[i]? =some (kk,u):=e3
   have hd:(Lg d ep l).xs.drop i= .tup [.int kk,u]::(Lg d ep l).xs.drop (i+1):=ku (by
    show(l.map λp=>V.tup [.int p.1,p.2])[i]? =_
    rw[List.getElem?_map,e3];rfl)
   refine wpAny_pyNext_items_item (knd:=W.ik) (it:=I) (d:=d) (i:=i) (ep:=ep) (kvs:=kvs) (ok:=ok) (ov:=ov) (by rw[hl];exact p') hat e0 λkey h' hkey hout htup hsz hk'=> ?_
   obtain⟨t,rfl⟩:=Value.isInt_shape hkey
   refine ks _ _ _ _ (er.trans hd) (wpAny_letOwnedTupleGo_items hout λh2' hit hsb=> ?_)
   have ne:s.heap.objs.size≠I:=Nat.ne_of_gt (Heap.lt_size p')
   rw[hl] at hit
   have o2:=o.U9 (X:=λb=>b=I) (pn:=Ad g.pn I (some (Qk d (i+1) l.length ep (.int kk t) x0))) (T:=s.heap.objs.size) (tk:=s.toks) (λb o hb q=>(hsb.2 b hb).trans (hk' b o hb q)) (λb q=>q▸⟨_,p⟩) (jQ hit) (al _) ((hsb.2 _ ne).trans htup)
   have le:=o.Kr (al _) { cls:= .type "tuple",data:= .seq #[.int kk t,x0] }
   refine JF.mk _ ?_ o2 ?_ ?_
   ·exact⟨le.im,λb n=>ab _ _ n,λU U=>rfl⟩
   ·exact RD.mk _ _ 0 (aa ..) (.mk _ _ (.mk t) (.mk _ _ ((AF.mono le.im u e4).same rfl) .mk))
   ·exact .mk (i+1) _ _ q rfl (aa ..)
  ·have e:i=l.length:=by omega
   subst e
   refine wpAny_pyNext_items_end (knd:=W.ik) hh (by rw[hl];exact p') hat (by rw[List.getElem?_eq_none_iff,hl];exact Nat.le_refl _) λh' he=> ?_
   exact kn (er.trans (List.drop_of_length_le (by rw[Lg,List.length_map];exact Nat.le_refl _))) { g with pn:=Ad g.pn I none } _ ⟨λU U e=>e,λb n=>ab _ _ n,λU U=>rfl⟩ (o.dropped (tk:=s.toks) (λb o hb q=>he b o hb q) ⟨_,p⟩)
def JA (l:List V):List V:=(List.range l.length).zipWith (λ(i:Nat) v=> .tup [.int i,v]) l
def lF (l:List V):(JA l).length=l.length:=by rw[JA,List.length_zipWith,List.length_range,Nat.min_self]
def mQ {l:List V}{i:Nat}{v:V}(e:l[i]? =some v):(JA l)[i]? =some (.tup [.int i,v]):=by
 have hi:=(List.getElem?_eq_some_iff.mp e).1
 rw[JA,List.getElem?_zipWith,List.getElem?_range hi,e]
def OZ (a:Nat)(xs:List V):Ci:=⟨JA xs,λh=>getL h a=some xs,KY⟩
abbrev Ur (J i:Nat)(old:Value):Obj:={ cls:= .type "enumerate",data:= .fields #[.none,.bool false,.ref J,rawInt i,.none,old] }
inductive Wq (a:Nat)(xs:List V)(I J:Addr)(r:List V)(g:A8):Prop
 |mk (i:Nat) (oj:Obj) (old:Value) (hi:i<=xs.length) (e:r=(JA xs).drop i) (pI:g.pn I=some (Ur J i old)) (pJ:g.pn J=some oj) (eJ:Jl "list_iterator" #[.ref a,.int i 0] oj):Wq a xs I J r g
abbrev two (I J:Addr):Addr->Prop:=λb=>b=I\/b=J
def bc {I J b:Addr}(n: ¬ two I J b):b≠I/\b≠J:=⟨λq=>n (.inl q),λq=>n (.inr q)⟩
def fg {I J:Addr}{o o2:Obj}{hp:Heap}{pn:Addr->Option Obj}(e:hp.get? I=some o)(e2:hp.get? J=some o2)(b:Addr)(o':Obj)(q:Ad (Ad pn J (some o2)) I (some o) b=some o'):(two I J b/\hp.get? b=some o')\/(¬ two I J b/\pn b=some o'):=by
 rcases jQ e b o' q with q|q
 ·exact .inl ⟨.inl q.1,q.2⟩
 ·exact(jQ e2 b o' q.2).elim (λz=> .inl ⟨.inr z.1,z.2⟩) λz=> .inr ⟨λy=>y.elim q.1 z.1,z.2⟩
def pD {elts:List PySem.Expr}{k0:Nat}{p0:Pos}{a:Nat}{xs:List V}{I J:Addr}(hh:A.handled=none)(ij:I≠J):NH W A (.Tuple elts k0 p0) (.ref I) (OZ a xs) (two I J) Ji (Wq a xs I J) where
 keep st k p _:=by cases st with |mk i oj old l er pI pJ eJ=>exact .mk i oj old l er ((p _ (.inl rfl)).trans pI) ((p _ (.inr rfl)).trans pJ) eJ
 self e:=by cases e
 next:=λ {r r2 g h s R} st o Bt sk kn ks=>by
  obtain⟨i,oj,old,hi,er,pI,pJ,eJ⟩:=st
  have e:=sk.same λv=>rfl
  subst e
  have Bt:getL h a=some xs:=Bt
  obtain⟨vals,m,L,r,l,z⟩:=o.list (aM Bt)
  have IL:s.heap.IsList a vals:=⟨_,L,rfl,m,rfl⟩
  have len:vals.size=xs.length:=by have :=AE.length (vs:=xs) r;simpa using this
  have Gb:=o.Dk _ _ pI
  have hJ:=o.Dk _ _ pJ
  rcases Nat.lt_or_ge i xs.length with q|q
  ·have hx:=List.getElem?_eq_getElem q
   obtain⟨w0,e4,e5⟩:=AE.get (vs:=xs) r hx
   have hd:=ku (mQ hx)
   refine wpAny_pyNext_enum_item Gb ⟨oj,hJ,eJ.c,eJ.d⟩ IL (bT e4) ij λh' hout hit htup hsz hk'=> ?_
   refine ks _ _ _ _ (er.trans hd) (wpAny_letOwnedTupleGo_enum hout λh2' hen hsb=> ?_)
   have ne:s.heap.objs.size≠I:=Nat.ne_of_gt (Heap.lt_size Gb)
   obtain⟨ob,g1,g2,g3⟩:=hit
   have o2:=o.U9 (X:=two I J) (T:=s.heap.objs.size) (tk:=s.toks+1) (λb o hb q=>(hsb.2 b (bc hb).1).trans (hk' b o (bc hb).1 (bc hb).2 q)) (λb q=>q.elim (λq=>q▸⟨_,pI⟩) λq=>q▸⟨_,pJ⟩)
    (fg hen ((hsb.2 J λz=>ij z.symm).trans g1)) (al _) ((hsb.2 _ ne).trans htup)
   have le:=o.Kr (al _) { cls:= .type "tuple",data:= .seq #[.int i s.toks,w0] }
   refine JF.mk _ ?_ o2 ?_ ?_
   ·exact⟨le.im,λb n=>(ab _ _ (bc n).1).trans (ab _ _ (bc n).2),λU U=>rfl⟩
   ·exact RD.mk _ _ 0 (aa ..) (.mk _ _ (.mk _) (.mk _ _ ((AF.mono le.im _ e5).same rfl) .mk))
   ·exact .mk (i+1) ob w0 q rfl (aa ..) ((ab _ _ λz=>ij z.symm).trans (aa ..)) ⟨g2,g3⟩
  ·have e:i=xs.length:=by omega
   subst e
   refine wpAny_pyNext_enum_end hh Gb ⟨oj,hJ,eJ.c,eJ.d⟩ IL (by rw[Array.getElem?_eq_none_iff,len];exact Nat.le_refl _) λh' he=> ?_
   exact kn (er.trans (List.drop_of_length_le (by rw[lF];exact Nat.le_refl _))) { g with pn:=Ad g.pn J none } _ ⟨λU U e=>e,λb n=>ab _ _ (bc n).2,λU U=>rfl⟩ (o.dropped (tk:=s.toks) (λb o hb q=>he b o hb q) ⟨_,pJ⟩)
def Rk (m:A4):J7:=λcf e Q h=>m cf e (λx h=>AJ x.ref? λa=>AJ (getL h a) λxs=>Q (OZ a xs) h) h
def i6:HN "enumerate" (.type "enumerate"):=⟨by decide+kernel,by decide+kernel,λU h=>nomatch h⟩
def i7:HN "range" (.type "range"):=⟨by decide+kernel,by decide+kernel,λU h=>nomatch h⟩
def ur {b0:Bool}{m:A4}{x:PySem.Expr}{p pos:Pos}{elts:List PySem.Expr}{k0:Nat}{p0:Pos}(hh:DC W n cf)(hk:nm.lookup ("enumerate":Str)=some .globalImplicit)(hs:DA x)(h1:Bw W cf n nm m x):NL W cf n nm (.Tuple elts k0 p0) b0 (Rk m) (.Call (.Name "enumerate" p) [x] [] pos):=λA env me g h s Q a q=>
 bM (ms:=Ah m As) (R:=λvs h=>match vs with | [v]=>AJ v.ref? λa=>AJ (getL h a) λxs=>Q (OZ a xs) h|_=>False) hh a hk i6 (.cons _ _ _ _ hs h1 .nil) q λg' h' s' vs ws le o r q=>by
  cases vs with
  |nil=>exact q.elim
  |cons v vs=>cases vs with
   |cons _ _=>exact q.elim
   |nil=>
    obtain⟨w,ws,r,hr⟩:=r
    cases hr
    refine Fb r q λa0 q=> ?_
    refine ao q λxs e q=> ?_
    obtain⟨vals,m,L,r,l,z⟩:=o.list (aM e)
    refine call_enumerate_list (items:=vals) ⟨_,L,rfl,m,rfl⟩ λhp hen hit hsz hk'=> ?_
    refine wpAny_pyIter_enum hen ?_
    obtain⟨ob,g1,g2,g3⟩:=hit
    have n1:s'.heap.get? (s'.heap.objs.size+1)=none:=Heap.get?_none_of_le (Nat.le_succ _)
    have fI:=o.fresh n1
    have fJ:=o.fresh (al _)
    have o2:=o.pins (tk:=s'.toks) (X:=two (s'.heap.objs.size+1) s'.heap.objs.size) (λb o U e=>hk' b o e) (λb e=> .inl (e.elim (λe=>e▸n1) λe=>e▸al _)) (fg hen g1)
    refine IJ.after le (.mk _ (two (s'.heap.objs.size+1) s'.heap.objs.size) Ji ?_ ?_ (λU b e=>e.elim (λe=>e▸⟨_,aa ..⟩) λe=>e▸⟨_,(ab _ _ (Nat.ne_of_lt (Nat.lt_succ_self _))).trans (aa ..)⟩) (λU e=>e.elim) h' o2 (OZ a0 xs) _ (pD a.room.handled (Nat.succ_ne_self _)) (.mk 0 ob .none (Nat.zero_le _) rfl (aa ..) ((ab _ _ (Nat.ne_of_lt (Nat.lt_succ_self _))).trans (aa ..)) ⟨g2,g3⟩) q)
    ·exact⟨λU U e=>e,λb n=>(ab _ _ (bc n).1).trans (ab _ _ (bc n).2),λU U=>rfl⟩
    ·exact λb e=>e.elim (λe=>e▸⟨fI.2.2.1,fI.2.1⟩) λe=>e▸⟨fJ.2.2.1,fJ.2.1⟩
end
def fh {a b c:Int}(hc:0 < c):Builtin.Range.rangeSize a b c=(((b - a+c - 1) / c).toNat:Int):=by
 unfold Builtin.Range.rangeSize
 rw[if_pos hc]
 split
 ·rename_i h
  have e:b - a+c - 1=(b - a - 1)+c:=by omega
  have e2:(b - a - 1+c) / c=(b - a - 1) / c+1:=by
   have :=Int.add_mul_ediv_right (b - a - 1) 1 (Int.ne_of_gt hc)
   rw[Int.one_mul] at this;exact this
  rw[e,e2]
  have :0<=(b - a - 1) / c:=Int.ediv_nonneg (by omega) (by omega)
  omega
 ·rename_i h
  have :(b - a+c - 1) / c<=0:=by
   have h1:b - a+c - 1 < c:=by omega
   have :(b - a+c - 1) / c < 1:=Int.ediv_lt_of_lt_mul hc (by omega)
   omega
  omega
def j7 {a b c:Int}(ha:0<=a)(ha2:a<=1000)(hb:0<=b)(hb2:b<=1000)(hc:0 < c)(hc2:c<=1000):Builtin.Range.small a b c=true:=by
 have hs:=fh (a:=a) (b:=b) hc
 have h0:Builtin.Range.rangeSize a b c<=2001:=by
  rw[hs]
  have :(b - a+c - 1) / c<=b - a+c - 1\/(b - a+c - 1) / c<=0:=by
   rcases Int.lt_or_le (b - a+c - 1) 0 with q|q
   ·exact .inr (Int.le_of_lt (Int.ediv_neg_of_neg_of_pos q hc))
   ·exact .inl (Int.ediv_le_self _ q)
  omega
 have h1:0<=Builtin.Range.rangeSize a b c:=by rw[hs];omega
 unfold Builtin.Range.small Builtin.Range.rangeFitsLong
 simp only[Bool.and_eq_true,decide_eq_true_eq,Bool.or_eq_true,if_pos hc]
 exact⟨⟨⟨⟨⟨by omega,by omega⟩,by omega,by omega⟩,by omega,by omega⟩,by omega,by omega⟩,.inr ⟨by omega,by omega⟩⟩
section
variable {W:Bl}{n:Nat}{nm:DI}{cf:Cc}{tg:PySem.Expr}{g g':A8}{h h':H}{s s':Shared}{A:Around}
structure OJ (a b k:Int):Prop where
 a0:0<=a
 a1:a<=1000
 b0:0<=b
 b1:b<=1000
 k0:0 < k
 k1:k<=1000
def Hn (a b k:Int):List V:=Hi a k ((b - a+k - 1) / k).toNat
def jr {b0:Bool}{Q:Ci->H->Prop}{r:Addr}{a b k:Int}{t u v:Tok}(hh:A.handled=none)(ho:Ok W g h s)(hr:IsRange s.heap r a b k t u v)(z:OJ a b k)(q:Q (Fn (Hn a b k)) h):
  BR W A (pyIter (.ref r)) (IJ W A tg b0 g Q) s:=by
 refine wpAny_pyIter_range hr (j7 z.a0 z.a1 z.b0 z.b1 z.k0 z.k1) ?_
 rw[fh z.k0]
 exact bO (tk:=s.toks) ho rfl (mA (a:=a) (k:=k) (m:=((b - a+k - 1) / k).toNat) hh) (by rw[Int.natCast_zero,Int.zero_mul,Int.add_zero,Int.sub_zero];rfl) trivial q
def nK {a:Int}{c:Int}(hc:0 < c)(hc2:c<=1000):Builtin.divisionGoesByPylong a c=false:=PyProof.noPylong_small (by omega)
def Jq (m:A4):J7:=λcf e Q h=>m cf e (λx h=>AJ x.int? λi=>OJ 0 i 1/\Q (Fn (Hn 0 i 1)) h) h
def SH (x y z:V):M Ci:=λQ h=>AJ x.int? λi=>AJ y.int? λj=>AJ z.int? λk=>OJ i j k/\Q (Fn (Hn i j k)) h
def Qt (a b c:A4):J7:=λcf e Q h=>a cf e (λx h=>b cf e (λy h=>c cf e (λz h=>SH x y z Q h) h) h) h
def uv {b0:Bool}{m:A4}{x:PySem.Expr}{p pos:Pos}(hh:DC W n cf)(hk:nm.lookup ("range":Str)=some .globalImplicit)(hs:DA x)(h1:Bw W cf n nm m x):NL W cf n nm tg b0 (Jq m) (.Call (.Name "range" p) [x] [] pos):=λA env me g h s Q a q=>
 bM (ms:=Ah m As) (R:=λvs h=>match vs with | [v]=>AJ v.int? λi=>OJ 0 i 1/\Q (Fn (Hn 0 i 1)) h|_=>False) hh a hk i7 (.cons _ _ _ _ hs h1 .nil) q λg' h' s' vs ws le o r q=>by
  cases vs with
  |nil=>exact q.elim
  |cons v vs=>cases vs with
   |cons _ _=>exact q.elim
   |nil=>
    obtain⟨w,ws,r,hr⟩:=r
    cases hr
    refine FJ r q λi t q=> ?_
    refine call_range_1 ?_
    exact ai (jr (g:=g') (h:=h') a.room.handled (o.grown (tk:=s'.toks+2) λb o e=>Heap.get?_push_of_some _ e) (IsRange.new s'.heap 0 i 1 _ t _) q.1 q.2) λw s₂ z=>z.after le
def uw {b0:Bool}{a b c:A4}{x y z:PySem.Expr}{p pos:Pos}(hh:DC W n cf)(hk:nm.lookup ("range":Str)=some .globalImplicit)(hs:DA x)(hs2:DA y)(hs3:DA z)(h1:Bw W cf n nm a x)(h2:Bw W cf n nm b y)(h3:Bw W cf n nm c z):NL W cf n nm tg b0 (Qt a b c) (.Call (.Name "range" p) [x,y,z] [] pos):=λA env me g h s Q a' q=>
 bM (ms:=Ah a (Ah b (Ah c As))) (R:=λvs h=>match vs with | [x,y,z]=>SH x y z Q h|_=>False) hh a' hk i7 (.cons _ _ _ _ hs h1 (.cons _ _ _ _ hs2 h2 (.cons _ _ _ _ hs3 h3 .nil))) q λg' h' s' vs ws le o r q=>by
  cases vs with
  |nil=>exact q.elim
  |cons v vs=>cases vs with
   |nil=>exact q.elim
   |cons v2 vs=>cases vs with
    |nil=>exact q.elim
    |cons v3 vs=>cases vs with
     |cons _ _=>exact q.elim
     |nil=>
      obtain⟨w,ws,r,hr⟩:=r
      obtain⟨w2,ws,r2,hr⟩:=hr
      obtain⟨w3,ws,r3,hr⟩:=hr
      cases hr
      refine FJ r q λi t q=> ?_
      refine FJ r2 q λj t2 q=> ?_
      refine FJ r3 q λk t3 q=> ?_
      refine call_range_3 (λe=>Int.ne_of_gt q.1.k0 e) ?_ (.inl (nK q.1.k0 q.1.k1))
      exact ai (jr (g:=g') (h:=h') a'.room.handled (o.grown (tk:=s'.toks) λb o e=>Heap.get?_push_of_some _ e) (IsRange.new s'.heap i j k t t2 t3) q.1 q.2) λw s₂ z=>z.after le
def O3 (m:A4):J7:=λcf e Q h=>m cf e (λx h=>AJ x.ref? λa=>AJ (CK h a) λp=>Q (N4 a p.1 p.2) h) h
def Rr (m:A4):J7:=λcf e Q h=>m cf e (λx h=>AJ x.ref? λa=>AJ (CK h a) λp=>Q (Lg a p.1 p.2) h) h
def uy {b0:Bool}{m:A4}{o:PySem.Expr}{ap pos:Pos}(hb:FG o)(hline:(ap.endLine==pos.line)=true)(h1:Bw W cf n nm m o):NL W cf n nm tg b0 (O3 m) (.Call (.Attribute o "values" ap) [] [] pos):=λA env me g h s Q a q=>
 bE (ms:=As) (R:=λx vs h=>vs= []/\AJ x.ref? λa=>AJ (CK h a) λp=>Q (N4 a p.1 p.2) h) a PySem.F.plainAttrs_dict PySem.F.slot_dict_values di hb (Nat.lt_of_sub_eq_succ rfl) hline h1 .nil q
  (λ {g' h' s' x w} ho r q=>by
   cases x with
   |ref b=>
    obtain⟨⟩:=r
    obtain⟨p,e,q2⟩:=bh (o:=CK h' b) q
    exact⟨eM ho e,rfl,q⟩
   |_=>exact q.elim) λ {g' h' s' x w vs ws} le o r rs q=>by
  obtain⟨rfl,q⟩:=q
  obtain⟨⟩:=rs
  refine Fb r q λa0 q=> ?_
  refine ao q λp e q=> ?_
  obtain⟨kvs,hat,Jj,sz,ns⟩:=o.BM (aQ e)
  refine call_meetsIn PySem.F.slot_dict_values hat.dictOf.typeIs PySem.F.entry_dict_values (PySem.F.args_dict_values_1 _) (meets_dict_values W.ik _ ns) ⟨⟨kvs,hat.dictOf⟩,?_⟩
  have o1:=o.grown (hp:=s'.heap.push { cls:= .type "dict_values",data:= .fields #[.ref a0] }) (tk:=s'.toks) λb o e=>Heap.get?_push_of_some _ e
  refine wpAny_pyIter_values (knd:=W.ik) ⟨_,Heap.get?_push_size _ rfl,rfl,rfl⟩ (hat.push _) ?_
  rw[Jj.length]
  exact(bO (tk:=s'.toks) o1 rfl (lq (d:=a0) (ep:=p.1) (l:=p.2) a.room.handled) ⟨rfl,rfl⟩ trivial q).after le
def ut {b0:Bool}{m:A4}{o:PySem.Expr}{ap pos:Pos}{elts:List PySem.Expr}{k0:Nat}{p0:Pos}(hb:FG o)(hline:(ap.endLine==pos.line)=true)(h1:Bw W cf n nm m o):NL W cf n nm (.Tuple elts k0 p0) b0 (Rr m) (.Call (.Attribute o "items" ap) [] [] pos):=λA env me g h s Q a q=>
 bE (ms:=As) (R:=λx vs h=>vs= []/\AJ x.ref? λa=>AJ (CK h a) λp=>Q (Lg a p.1 p.2) h) a PySem.F.plainAttrs_dict PySem.F.slot_dict_items iN hb (Nat.lt_of_sub_eq_succ rfl) hline h1 .nil q
  (λ {g' h' s' x w} ho r q=>by
   cases x with
   |ref b=>
    obtain⟨⟩:=r
    obtain⟨p,e,q2⟩:=bh (o:=CK h' b) q
    exact⟨eM ho e,rfl,q⟩
   |_=>exact q.elim) λ {g' h' s' x w vs ws} le o r rs q=>by
  obtain⟨rfl,q⟩:=q
  obtain⟨⟩:=rs
  refine Fb r q λa0 q=> ?_
  refine ao q λp e q=> ?_
  obtain⟨kvs,hat,Jj,sz,ns⟩:=o.BM (aQ e)
  refine call_meetsIn PySem.F.slot_dict_items hat.dictOf.typeIs PySem.F.entry_dict_items (PySem.F.args_dict_items_1 _) (meets_dict_items W.ik _ ns) ⟨⟨kvs,hat.dictOf⟩,?_⟩
  have o1:=o.grown (hp:=s'.heap.push { cls:= .type "dict_items",data:= .fields #[.ref a0] }) (tk:=s'.toks) λb o e=>Heap.get?_push_of_some _ e
  refine wpAny_pyIter_items (knd:=W.ik) ⟨_,Heap.get?_push_size _ rfl,rfl,rfl⟩ (hat.push _) ?_
  have f:=o1.fresh (al _)
  have o2:=o1.pinned (a:=(s'.heap.push { cls:= .type "dict_items",data:= .fields #[.ref a0] }).objs.size) (o:=Qk a0 0 kvs.length p.1 .none .none) (tk:=s'.toks) (λb ob U e=>Heap.get?_push_of_some _ e) (.inl (al _)) (Heap.get?_push_size _ rfl)
  exact IJ.after le (.mk _ (λb=>b=_) Ji .pin (λb e=>e▸⟨f.2.2.1,f.2.1⟩) (λU b e=>e▸⟨_,aa ..⟩) (λU e=>e.elim) h' o2 (Lg a0 p.1 p.2) _ (nQ a.room.handled) (.mk 0 .none .none (Nat.zero_le _) rfl (by rw[<-Jj.length];exact aa ..)) q)
def lH {C n:Nat}(e:AM n (own C)=true):prop C n=none:=by
 cases hp:prop C n with
 |none=>rfl
 |some f=>
  obtain⟨l,h1,h2⟩:=eU hp
  have :(Ry.all λp=>p.2.all λq=>!AM q.1 (own p.1))=true:=by decide+kernel
  have :=List.all_eq_true.mp (List.all_eq_true.mp this _ h1) _ h2
  rw[show AM (n,f).1 (own (C,l).1)=true from e] at this;cases this
def V.bool? (v:V):Option Bool:=V.casesOn v Option.none (λi=>some i) (λU=>Option.none) (λU=>Option.none) (λU=>Option.none) (λU=>Option.none) (λU=>Option.none) (λU U=>Option.none) Option.none
def Ei (c:Nat)(v:V)(h:H):Option Bool:=AT v.ref? λb=>AT (Ec h b) λi=>cond (AM c (own i.C)) (AT (i.f c) V.bool?) none
def JU (c d ep:Nat)(l:List (Int×V)):Ci:=⟨l.map (·.2),λh=>CK h d=some (ep,l),Ei c⟩
def KS (h:H)(a y:Nat):H:=Ad (Ad h a none) y none
def Rn (c a y d ep n:Nat):M Ci:=λQ h=>AJ (CK h d) λp=>(p.1=ep/\p.2.length=n)/\Q (JU c d p.1 p.2) (KS h a y)
def Mo (gen:Nat->M Ci)(x:V):M Ci:=λQ h=>match x with
 | .tup vs=>Q (Fn vs) h
 | .DM is=>Q (Fn (is.map .int)) h
 | .ref a=>match h a with
  |some (.lst xs)=>Q (N3 a xs) h
  |some (.BM ep l)=>Q (O0 a ep l) h
  |some (.Gz c y d ep n)=>Rn c a y d ep n Q h
  |some (.ins _ _ _)=>gen a Q h
  |_=>False
 |_=>False
def Cx (gen:Nat->M Ci)(m:A4):J7:=λcf e Q h=>m cf e (λx h=>Mo gen x Q h) h
def Q3 (W:Bl)(n:Nat)(tg:PySem.Expr):Prop:=∀ {A g h s c a y d ep m Q},Ft n A->Ok W g h s->h a=some (.Gz c y d ep m)->Rn c a y d ep m Q h->BR W A (pyIter (.ref a)) (IJ W A tg true g Q) s
def Pq (W:Bl)(n:Nat)(tg:PySem.Expr)(b:Bool)(gen:Nat->M Ci):Prop:=∀ {A g h s a C d f Q},Ft n A->Ok W g h s->h a=some (.ins C d f)->gen a Q h->BR W A (pyIter (.ref a)) (IJ W A tg b g Q) s
def vD {b0:Bool}{gen:Nat->M Ci}{m:A4}{x:PySem.Expr}(hf:Q3 W n tg)(hg:Pq W n tg b0 gen)(h1:Bw W cf n nm m x):NL W cf n nm tg b0 (Cx gen m) x:=λA env me g h s Q a q=>by
 refine a7 (h1 _ _ _ _ _ _ _ a q) λw s₁ g1 le h1 o v r q=> ?_
 refine ai (Q:=IJ W A tg b0 g1 Q) ?_ λw s₂ z=>z.after le
 cases v with
 |tup vs=>
  obtain⟨b,vals,k,e,r⟩:=r
  exact wpAny_pyIter_tuple (items:=vals) ⟨_,o.F2 _ _ e,rfl,k,rfl⟩ (bO (tk:=s₁.toks) o rfl (mB (a:=b) (xs:=vs) a.room.handled) ⟨rfl,rfl⟩ ⟨vals,k,e,r⟩ q)
 |DM is=>
  obtain⟨b,vals,k,e,r,l⟩:=r
  exact wpAny_pyIter_list (items:=vals) ⟨_,o.F2 _ _ e,rfl,k,rfl⟩ (bO (tk:=s₁.toks) o rfl (mt (a:=b) (xs:=is.map .int) a.room.handled) ⟨rfl,rfl⟩ ⟨is,vals,k,rfl,e,r,l⟩ q)
 |ref b=>
  obtain⟨⟩:=r
  have q:(match h1 b with |some (.lst xs)=>Q (N3 b xs) h1|some (.BM ep l)=>Q (O0 b ep l) h1|some (.Gz c y d ep n)=>Rn c b y d ep n Q h1|some (.ins _ _ _)=>gen b Q h1|_=>False:Prop):=q
  cases e:h1 b with
  |none=>rw[e] at q;exact q.elim
  |some ob=>
   rw[e] at q
   cases ob with
   |lst xs=>
    obtain⟨vals,k,L,r,l,z⟩:=o.list e
    exact wpAny_pyIter_list (items:=vals) ⟨_,L,rfl,k,rfl⟩ (bO (tk:=s₁.toks) o rfl (mu (a:=b) (xs:=xs) a.room.handled) ⟨rfl,rfl⟩ trivial q)
   |BM ep l=>
    obtain⟨kvs,hat,Jj,sz,ns⟩:=o.BM e
    refine wpAny_pyIter_dict (knd:=W.ik) ns hat ?_
    rw[Jj.length]
    exact bO (tk:=s₁.toks) o rfl (lg (d:=b) (ep:=ep) (l:=l) a.room.handled) ⟨rfl,rfl⟩ trivial q
   |Gz c y d ep m=>exact ai (hf a.room o e q) λU U z=>match z with | .mk g2 X Y l fx tp fy h o src A2 wk st q=> .mk g2 X Y l fx (λU=>tp rfl) fy h o src A2 wk st q
   |ins C d f=>exact hg a.room o e q
   |_=>exact q.elim
 |_=>exact q.elim
end
def bK {α β:Type}[BEq α](l m:List (α×β))(a:α):(l++m).lookup a=(l.lookup a).or (m.lookup a):=by
 induction l with
 |nil=>rfl
 |cons p l ih=>
  obtain⟨k,v⟩:=p
  rw[List.cons_append,List.lookup_cons,List.lookup_cons,ih]
  cases a==k <;> rfl
def jk {P:Str->Bool}(f:Str×Value->List (Str×Value)×List (Str×Value)->Sem (ForInStep (List (Str×Value)×List (Str×Value))))
  (hf:∀ (p:Str×Value) (st:List (Str×Value)×List (Str×Value)),P p.1=true->(st.1.lookup p.1).isSome=false->f p st=pure (.yield (st.1++ [(p.1,p.2)],st.2))):
  ∀ (kw:List (Str×Value)) (st:List (Str×Value)×List (Str×Value)),(∀ p∈kw,P p.1=true/\(st.1.lookup p.1).isSome=false)->(kw.map (·.1)).Nodup->forIn kw st f=pure (st.1++kw,st.2)
 | [],st,_,_=>by rw[List.forIn_nil,List.append_nil]
 |p::kw,st,h,hn=>by
  obtain⟨h1,h2⟩:=List.nodup_cons.mp hn
  rw[List.forIn_cons,hf p st (h p (.head _)).1 (h p (.head _)).2,pure_bind]
  dsimp only
  rw[jk f hf kw (st.1++ [(p.1,p.2)],st.2) (λq CX=>⟨(h q (.tail _ CX)).1,by
   have e:=(h q (.tail _ CX)).2
   rw[bK]
   cases z:st.1.lookup q.1 with
   |some _=>rw[z] at e;cases e
   |none=>
    have hne:q.1≠p.1:=λz=>h1 (by show p.1∈_;rw[<-z];exact List.mem_map_of_mem (f:=λp:Str×Value=>p.1) CX)
    simp [List.lookup_cons,beq_eq_false_iff_ne.mpr hne]⟩) h2]
  rw[List.append_assoc];rfl
def dN (f:Str×Value->List (Str×Value)->Sem (ForInStep (List (Str×Value))))(hf:∀ p st,f p st=if(List.lookup p.1 st).isNone=true then pure (ForInStep.yield (st++ [(p.1,p.2)])) else pure (ForInStep.yield st)):
  ∀ (l st:List (Str×Value)),∃ r,forIn l st f=pure r/\∀ y,r.lookup y=(st.lookup y).or (l.lookup y)
 | [],st=>⟨st,by rw[List.forIn_nil],λy=>by cases st.lookup y <;> rfl⟩
 |p::l,st=>by
  obtain⟨k,v⟩:=p
  rw[List.forIn_cons,hf]
  cases z:st.lookup k with
  |none=>
   obtain⟨r,h1,h2⟩:=dN f hf l (st++ [(k,v)])
   refine⟨r,by rw[if_pos (by rfl),pure_bind];exact h1,λy=> ?_⟩
   rw[h2,bK,List.lookup_cons,List.lookup_cons]
   cases y==k <;> cases st.lookup y <;> rfl
  |some u=>
   obtain⟨r,h1,h2⟩:=dN f hf l st
   refine⟨r,by rw[if_neg (by simp),pure_bind];exact h1,λy=> ?_⟩
   rw[h2,List.lookup_cons]
   cases q:y==k with
   |true=>rw[beq_iff_eq.mp q,z];rfl
   |false=>rfl
def gm {M:Model}{A:Around}{E:Value->Shared->Prop}{s:Shared}{km:Str->Option Value}(f:Str->List (Str×Value)×List Str->Sem (ForInStep (List (Str×Value)×List Str)))
  (hf:∀ (n:Str) (st:List (Str×Value)×List Str) (Q:ForInStep (List (Str×Value)×List Str)->Shared->Prop),((st.1.lookup n).isNone=false->Q (.yield st) s)->((st.1.lookup n).isNone=true->∀ v,km n=some v->Q (.yield (st.1++ [(n,v)],st.2)) s)->((st.1.lookup n).isNone=true->(km n).isSome=true)->wpAny M A (f n st) Q E s):
  ∀ (l:List Str) (st:List (Str×Value)×List Str) (Q:List (Str×Value)×List Str->Shared->Prop),(∀ n∈l,((st.1.lookup n).or (km n)).isSome=true)->
   (∀ r,(∀ y,r.lookup y=(st.1.lookup y).or (if l.contains y then km y else none))->Q (r,st.2) s)->wpAny M A (forIn l st f) Q E s
 | [],st,Q,_,h=>by
  rw[List.forIn_nil]
  exact wpAny_pure (h st.1 λy=>by cases st.1.lookup y <;> rfl)
 |n::l,st,Q,hs,h=>by
  rw[List.forIn_cons]
  refine wpAny_bind (hf n st _ (λhz=> ?_) (λhz v hv=> ?_) λhz=> ?_)
  ·refine gm f hf l st Q (λm hm=>hs m (.tail _ hm)) λr hr=>h r λy=> ?_
   rw[hr,List.contains_cons]
   by_cases q:y=n
   ·subst q
    cases z:st.1.lookup y with
    |none=>rw[z] at hz;cases hz
    |some _=>rfl
   ·rw[beq_eq_false_iff_ne.mpr q,Bool.false_or]
  ·refine gm f hf l (st.1++ [(n,v)],st.2) Q (λm hm=> ?_) λr hr=>h r λy=> ?_
   ·have :=hs m (.tail _ hm)
    rw[bK]
    cases z:st.1.lookup m with
    |some _=>rfl
    |none=>
     rw[z] at this
     rw[List.lookup_cons]
     cases m==n with
     |true=>rfl
     |false=>exact this
   ·rw[hr,bK,List.contains_cons,List.lookup_cons]
    by_cases q:y=n
    ·subst q
     cases z:st.1.lookup y with
     |some _=>rw[z] at hz;cases hz
     |none=>rw[beq_self_eq_true,Bool.true_or,if_pos rfl,hv];rfl
    ·rw[beq_eq_false_iff_ne.mpr q,Bool.false_or]
     cases st.1.lookup y <;> rfl
  ·have :=hs n (.head _)
   cases z:st.1.lookup n with
   |some _=>rw[z] at hz;cases hz
   |none=>rw[z] at this;exact this
def Et (P K:List Str)(pos:List Value)(kw:List (Str×Value))(dv:List Value)(km:Str->Option Value)(y:Str):Option Value:=
 (((P.zip pos++kw).lookup y).or (((P.drop (P.length - dv.length)).zip dv).lookup y)).or (if K.contains y then km y else none)
def ja {s:Shared}{fd:FuncData}{pos:List Value}{kw:List (Str×Value)}{P K:List Str}{dv:List Value}{km:Str->Option Value}{r0:Option (Array Value)}(h1:fd.params.posonlyargs= [])(hP:fd.params.args.map (·.arg)=P)(hK:fd.params.kwonlyargs.map (·.arg)=K)
  (h2:fd.params.vararg=none)(h3:fd.params.kwarg=none)(hd:∀ (M:Model) (A:Around) (E:Value->Shared->Prop) (Q:Option (Array Value)->Shared->Prop),Q r0 s->wpAny M A (seqItems? fd.defaults) Q E s)(hdv:(r0.getD #[]).toList=dv)
  (hk:(fd.kwdefaults= .none/\km=λU=>none)\/∃ d,fd.kwdefaults= .ref d/\s.heap.Ns d km)(hlen:pos.length<=P.length)(TY:dv.length<=P.length)
  (hkw:∀ p∈kw,(P.contains p.1||K.contains p.1)=true/\((P.zip pos).lookup p.1).isSome=false)(hnd:(kw.map (·.1)).Nodup)
  (hall:∀ y∈P++K,(Et P K pos kw dv km y).isSome=true)(hmiss:∀ y∈P.take (P.length - dv.length),((P.zip pos++kw).lookup y).isSome=true):
  BindsTo s fd ⟨pos,kw⟩ ((P++K).filterMap λy=>(Et P K pos kw dv km y).map (y,·)):=by
 intro M A E Q hQ
 obtain⟨nm,qn,⟨po,ar,va,ko,kdf,ka,de⟩,bo,sc,gl,cl,df,kdv,doc,pm,an,cdd,ct,bl⟩:=fd
 have h1:po= []:=h1
 have h2:va=none:=h2
 have h3:ka=none:=h3
 have hP:ar.map (λx=>x.arg)=P:=hP
 have hK:ko.map (λx=>x.arg)=K:=hK
 subst h1;subst h2;subst h3
 unfold bindArgs
 dsimp only
 rw[hP,hK]
 clear hP hK
 generalize e:(List.map (λx:Arg=>x.arg) []++P)=P0
 have e:P=P0:=e
 subst e
 rw[jk (P:=λy=>P.contains y||K.contains y) _ (λp st q1 q2=>(if_pos q1).trans (if_neg (by rw[q2];exact Bool.false_ne_true))) kw _ hkw hnd,pure_bind]
 refine wpAny_bind (hd M A E _ ?_)
 have e1:dv.length - P.length=0:=by omega
 rw[hdv,if_neg (λz=>absurd (of_decide_eq_true (Bool.and_eq_true_iff.mp z).1) (Nat.not_lt.mpr hlen)),e1]
 have hm:(!(List.filter (λn=>(List.lookup n (P.zip pos++kw)).isNone) (P.take (P.length - dv.length))).isEmpty)=false:=by
  rw[Bool.not_eq_false',List.isEmpty_iff,List.filter_eq_nil_iff]
  intro y hy z
  have :=hmiss y hy
  rw[Option.isNone_iff_eq_none.mp z] at this
  exact gI this
 show wpAny M A (if(!(List.filter (λn=>(List.lookup n (P.zip pos++kw)).isNone) (P.take (P.length - dv.length))).isEmpty)=true then _ else _) Q E s
 rw[if_neg (by rw[hm];exact Bool.false_ne_true)]
 show wpAny M A (forIn ((P.drop (P.length - dv.length)).zip dv) (P.zip pos++kw) _ >>=_) Q E s
 obtain⟨r,e2,e3⟩:=dN (λx __s=>if(List.lookup x.fst __s).isNone=true then pure (ForInStep.yield (__s++ [(x.fst,x.snd)])) else pure (ForInStep.yield __s)) (λU U=>rfl) ((P.drop (P.length - dv.length)).zip dv) (P.zip pos++kw)
 rw[e2,pure_bind]
 have hv:∀ y,Et P K pos kw dv km y=(r.lookup y).or (if K.contains y then km y else none):=λy=>by rw[e3];rfl
 refine wpAny_bind (gm (s:=s) (km:=km) _ (λy st Q' q1 q2 q3=> ?_) K (r,[]) _ (λy hy=> ?_) λr' hr'=> ?_)
 ·cases z:(st.1.lookup y).isNone with
  |false=>rw[if_neg Bool.false_ne_true];exact wpAny_pure (q1 z)
  |true=>
   rw[if_pos rfl]
   obtain⟨v,hv⟩:=Option.isSome_iff_exists.mp (q3 z)
   rcases hk with ⟨hk,rfl⟩|⟨d,hk,hn⟩
   ·cases hv
   ·have hk:kdv= .ref d:=hk
    subst hk
    refine wpAny_bind (wpAny_nsGet hn ?_)
    rw[hv]
    exact wpAny_pure (q2 z v hv)
 ·have :=hall y (List.mem_append_right _ hy)
  rw[hv,if_pos (List.elem_iff.mpr hy)] at this
  exact this
 ·rw[if_neg (by exact Bool.false_ne_true)]
  refine wpAny_pure ?_
  have :(λy=>Option.map (λx=>(y,x)) (List.lookup y r'))=λy=>Option.map (λx=>(y,x)) (Et P K pos kw dv km y):=by
   funext y;rw[hr',hv]
  show Q (List.filterMap (λy=>Option.map (λx=>(y,x)) (List.lookup y r')) (P++K)) s
  rw[this];exact hQ
def i9 {kindOf:Str->Option NameKind}{y:Str}(h:kindOf y=some .local):∀ (binds:List (Str×Value)) (m:Str->Option Value),(binds.map (·.1)).Nodup->bindL kindOf binds m y=(binds.lookup y).or (m y)
 | [],m,_=>rfl
 |(k,v)::r,m,hn=>by
  obtain⟨h1,h2⟩:=List.nodup_cons.mp hn
  unfold bindL
  rw[i9 h r _ h2,List.lookup_cons]
  by_cases e:y=k
  ·subst e
   have :r.lookup y=none:=by
    rw[List.lookup_eq_none_iff]
    intro p hp
    exact bne_iff_ne.mpr λq=>h1 (by have :=List.mem_map_of_mem (f:=λp:Str×Value=>p.1) hp;rw[<-q] at this;exact this)
   rw[this,beq_self_eq_true,if_pos h]
   show(if y=y then some v else m y)=some v
   rw[if_pos rfl]
  ·rw[beq_eq_false_iff_ne.mpr e]
   by_cases hk:kindOf k=some .local
   ·rw[if_pos hk]
    show(r.lookup y).or (if y=k then some v else m y)=_
    rw[if_neg e]
   ·rw[if_neg hk]
def i8 {kindOf:Str->Option NameKind}{y:Str}(h:kindOf y≠some .local):∀ (binds:List (Str×Value)) (m:Str->Option Value),(binds.map (·.1)).Nodup->bindC kindOf binds m y=(binds.lookup y).or (m y)
 | [],m,_=>rfl
 |(k,v)::r,m,hn=>by
  obtain⟨h1,h2⟩:=List.nodup_cons.mp hn
  unfold bindC
  rw[i8 h r _ h2,List.lookup_cons]
  by_cases e:y=k
  ·subst e
   have :r.lookup y=none:=by
    rw[List.lookup_eq_none_iff]
    intro p hp
    exact bne_iff_ne.mpr λq=>h1 (by have :=List.mem_map_of_mem (f:=λp:Str×Value=>p.1) hp;rw[<-q] at this;exact this)
   rw[this,beq_self_eq_true,if_neg h]
   show(if y=y then some v else m y)=some v
   rw[if_pos rfl]
  ·rw[beq_eq_false_iff_ne.mpr e]
   by_cases hk:kindOf k=some .local
   ·rw[if_pos hk]
   ·rw[if_neg hk]
    show(r.lookup y).or (if y=k then some v else m y)=_
    rw[if_neg e]
def bY {y:Str}:∀ (names:List (Str×NameKind)) (n:Nat) (acc:List (Str×Addr)),((y,NameKind.cell)∈names\/(acc.lookup y).isSome=true)->((cellsFrom n names acc).lookup y).isSome=true
 | [],n,acc,h=>h.resolve_left (by simp)
 |(m,k)::r,n,acc,h=>by
  unfold cellsFrom
  split
  ·refine bY r _ _ ?_
   rcases h with h|h
   ·rcases List.mem_cons.mp h with h|h
    ·rcases h with ⟨⟩;right;rw[List.lookup_cons,beq_self_eq_true];rfl
    ·exact .inl h
   ·right
    rw[List.lookup_cons]
    cases y==m with
    |true=>rfl
    |false=>exact h
  ·rename_i hk
   refine bY r _ _ ?_
   rcases h with h|h
   ·rcases List.mem_cons.mp h with h|h
    ·rcases h with ⟨⟩;exact absurd (by rfl) hk
    ·exact .inl h
   ·exact .inr h
def bZ (g:Str->Option Value):∀ (L:List Str) (y:Str),(L.filterMap λy=>(g y).map (y,·)).lookup y=if y∈L then g y else none
 | [],y=>rfl
 |k::L,y=>by
  have ih:=bZ g L y
  cases z:g k with
  |none=>
   rw[List.filterMap_cons_none (by rw[z];rfl),ih]
   by_cases e:y=k
   ·subst e;simp [z]
   ·simp [e]
  |some v=>
   rw[List.filterMap_cons_some (by rw[z];rfl),List.lookup_cons]
   by_cases e:y=k
   ·subst e;rw[beq_self_eq_true,if_pos (.head _),z]
   ·rw[beq_eq_false_iff_ne.mpr e]
    show List.lookup y _=_
    rw[ih];simp [e]
def dt (g:Str->Option Value)(L:List Str)(h:L.Nodup):((L.filterMap λy=>(g y).map (y,·)).map (·.1)).Nodup:=by
 induction L with
 |nil=>exact List.nodup_nil
 |cons k L ih=>
  obtain⟨h1,h2⟩:=List.nodup_cons.mp h
  cases z:g k with
  |none=>rw[List.filterMap_cons_none (by rw[z];rfl)];exact ih h2
  |some v=>
   rw[List.filterMap_cons_some (by rw[z];rfl)]
   refine List.nodup_cons.mpr ⟨λhm=> ?_,ih h2⟩
   obtain⟨p,hp,e⟩:=List.mem_map.mp hm
   obtain⟨y,hy,e2⟩:=List.mem_filterMap.mp hp
   obtain⟨w,_,e3⟩:=Option.map_eq_some_iff.mp e2
   rw[<-e3] at e
   exact h1 (by rw[<-show y=k from e];exact hy)
def dR:∀ {l:List (Str×Value)},(l.map (·.1)).Nodup->∀ y,l.reverse.lookup y=l.lookup y
 | [],_,_=>rfl
 |(k,v)::l,hn,y=>by
  obtain⟨h1,h2⟩:=List.nodup_cons.mp hn
  rw[List.reverse_cons,bK,dR h2,List.lookup_cons,List.lookup_cons]
  by_cases e:y=k
  ·subst e
   have :l.lookup y=none:=by
    rw[List.lookup_eq_none_iff]
    intro p hp
    exact bne_iff_ne.mpr λq=>h1 (by have :=List.mem_map_of_mem (f:=λp:Str×Value=>p.1) hp;rw[<-q] at this;exact this)
   rw[this,beq_self_eq_true];rfl
  ·rw[beq_eq_false_iff_ne.mpr e]
   cases l.lookup y <;> rfl
inductive FH:List Str->List Nat->Prop
 |nil:FH [] []
 |cons (x:Str) (xs:List Str) (cs:List Nat) (hx:good x=true) (r:FH xs cs):FH (x::xs) (AI x::cs)
section
variable {g:A8}
theorem FH.append {xs ys:List Str}{cs ds:List Nat}(a:FH xs cs)(b:FH ys ds):FH (xs++ys) (cs++ds):=by
 induction a with
 |nil=>exact b
 |cons x xs cs hx _ ih=>exact .cons x _ _ hx ih
theorem FH.take {xs:List Str}{cs:List Nat}(a:FH xs cs):∀ n,FH (xs.take n) (cs.take n):=by
 induction a with
 |nil=>intro n;rw[List.take_nil,List.take_nil];exact .nil
 |cons x xs cs hx _ ih=>
  intro n
  cases n with
  |zero=>exact .nil
  |succ n=>exact .cons x _ _ hx (ih n)
theorem FH.drop {xs:List Str}{cs:List Nat}(a:FH xs cs):∀ n,FH (xs.drop n) (cs.drop n):=by
 induction a with
 |nil=>intro n;rw[List.drop_nil,List.drop_nil];exact .nil
 |cons x xs cs hx r ih=>
  intro n
  cases n with
  |zero=>exact .cons x _ _ hx r
  |succ n=>exact ih n
theorem FH.length {xs:List Str}{cs:List Nat}(a:FH xs cs):xs.length=cs.length:=by
 induction a with
 |nil=>rfl
 |cons x xs cs hx _ ih=>exact congrArg (· +1) ih
theorem FH.good {xs:List Str}{cs:List Nat}(a:FH xs cs){x:Str}(h:x∈xs):Mi.good x=true:=by
 induction a with
 |nil=>cases h
 |cons y xs cs hy _ ih=>exact(List.mem_cons.mp h).elim (λe=>e▸hy) ih
theorem FH.mem {xs:List Str}{cs:List Nat}(a:FH xs cs){x:Str}(hx:Mi.good x=true):AI x∈cs ↔ x∈xs:=by
 induction a with
 |nil=>exact⟨λh=>(nomatch h),λh=>(nomatch h)⟩
 |cons y xs cs hy _ ih=>
  rw[List.mem_cons,List.mem_cons,ih]
  exact or_congr ⟨λe=>bJ hx hy e,λe=>e▸rfl⟩ Iff.rfl
theorem DK.append {l l':List (Nat×V)}{m m':List (Str×Value)}(a:DK g l m)(b:DK g l' m'):DK g (l++l') (m++m'):=by
 induction a with
 |nil=>exact b
 |cons n v w l m hn h _ ih=>exact .cons n v w _ _ hn h ih
theorem DK.zip {ps:List Str}{cs:List Nat}(a:FH ps cs):∀ {es:List V} {ws:List Value},AE g es ws->DK g (cs.zip es) (ps.zip ws):=by
 induction a with
 |nil=>intro es ws h;exact .nil
 |cons x xs cs hx _ ih=>
  intro es ws h
  cases es with
  |nil=>cases h with |mk=>exact .nil
  |cons e es=>cases h with |mk w r h hr=>exact .cons x e w _ _ hx h (ih hr)
theorem DK.lookup {l:List (Nat×V)}{m:List (Str×Value)}(a:DK g l m){x:Str}(hx:good x=true):IH g (Mi.look (AI x) l) (m.lookup x):=by
 induction a with
 |nil=>exact .none
 |cons n v w l m hn h _ ih=>
  show IH g (cond (Nat.beq (AI x) (AI n)) (some v) (Mi.look (AI x) l)) _
  rw[List.lookup_cons,jc hx hn]
  cases x==n with
  |true=>exact .some v w h
  |false=>exact ih
theorem DK.names {l:List (Nat×V)}{m:List (Str×Value)}(a:DK g l m):FH (m.map (·.1)) (l.map (·.1)):=by
 induction a with
 |nil=>exact .nil
 |cons n v w l m hn h _ ih=>exact .cons n _ _ hn ih
theorem IH.or {a b:Option V}{a' b':Option Value}(h:IH g a a')(h':IH g b b'):IH g (a.or b) (a'.or b'):=by
 cases h with
 |none=>exact h'
 |some v w h=>exact .some v w h
def bW (x:Nat)(l m:List (Nat×V)):look x (l++m)=(look x l).or (look x m):=by
 induction l with
 |nil=>rfl
 |cons p l ih=>
  show cond (Nat.beq x p.1) (some p.2) (look x (l++m))=(cond (Nat.beq x p.1) (some p.2) (look x l)).or _
  cases Nat.beq x p.1 with
  |true=>rfl
  |false=>exact ih
def c6:∀ {l:List (Nat×V)} {x:Nat},x∈l.map (·.1)->(look x l).isSome=true
 |p::l,x,h=>by
  show(cond (Nat.beq x p.1) (some p.2) (look x l)).isSome=true
  cases e:Nat.beq x p.1 with
  |true=>rfl
  |false=>exact c6 ((List.mem_cons.mp h).resolve_left λq=>by rw[q,Nat.beq_refl] at e;cases e)
end
structure CP where
 ps:List Nat
 df:List V
 ko:List Nat
 kd:List (Nat×V)
def CP.slots (d:CP)(es:List V)(kws:List (Nat×V)):List (Nat×V):=d.ps.zip es++kws++(d.ps.drop (d.ps.length - d.df.length)).zip d.df++d.kd
def CP.bind (d:CP)(es:List V)(kws:List (Nat×V)):AZ:=λx=>look x (d.slots es kws)
def M7 (l:List Nat):Bool:= @List.rec Nat (λU=>Bool) true (λx l r=>cond (AM x l) false r) l
def cH:∀ {l:List Nat},M7 l=true->l.Nodup
 | [],_=> .nil
 |x::l,h=>by
  have h:cond (AM x l) false (M7 l)=true:=h
  cases e:AM x l with
  |true=>rw[e] at h;cases h
  |false=>rw[e] at h;exact List.nodup_cons.mpr ⟨λq=>(by rw[aO.mpr q] at e;cases e),cH h⟩
structure CP.Fits (d:CP)(m:Nat)(ks:List Nat):Prop where
 len:Nat.ble m d.ps.length=true
 dl:Nat.ble d.df.length d.ps.length=true
 nd:M7 ks=true
 kw:(ks.all λk=>AM k (d.ps++d.ko) && !AM k (d.ps.take m))=true
 need:((d.ps.take (d.ps.length - d.df.length)).all λk=>AM k (d.ps.take m++ks))=true
 ko:(d.ko.all λk=>AM k ks||(look k d.kd).isSome)=true
theorem FH.nodup {xs:List Str}{cs:List Nat}(a:FH xs cs)(h:cs.Nodup):xs.Nodup:=by
 induction a with
 |nil=>exact .nil
 |cons x xs cs hx r ih=>
  obtain⟨h1,h2⟩:=List.nodup_cons.mp h
  exact List.nodup_cons.mpr ⟨λq=>h1 ((r.mem hx).mpr q),ih h2⟩
def cm {α β:Type}:∀ (l:List α) (m:List β),(l.zip m).map (·.1)=l.take m.length
 | [],_=>by rw[List.zip_nil_left,List.take_nil];rfl
 |_::_,[]=>rfl
 |a::l,b::m=>by rw[List.zip_cons_cons,List.map_cons,List.length_cons,List.take_succ_cons,cm l m]
def iJ {g:A8}{s:Shared}{fd:FuncData}{d:CP}{es:List V}{kws:List (Nat×V)}{ws:List Value}{wk:List (Str×Value)}{P K:List Str}{dv:List Value}{km:Str->Option Value}{r0:Option (Array Value)}(hr:AE g es ws)(hk:DK g kws wk)(hb:d.Fits es.length (kws.map (·.1)))
  (h1:fd.params.posonlyargs= [])(hP:fd.params.args.map (·.arg)=P)(hK:fd.params.kwonlyargs.map (·.arg)=K)(h2:fd.params.vararg=none)(h3:fd.params.kwarg=none)(cP:FH P d.ps)(cK:FH K d.ko)
  (hd:∀ (M:Model) (A:Around) (E:Value->Shared->Prop) (Q:Option (Array Value)->Shared->Prop),Q r0 s->wpAny M A (seqItems? fd.defaults) Q E s)(hdv:(r0.getD #[]).toList=dv)(rd:AE g d.df dv)
  (hkd:(fd.kwdefaults= .none/\km=λU=>none)\/∃ D,fd.kwdefaults= .ref D/\s.heap.Ns D km)(rkd:∀ y,y∈P++K->IH g (look (AI y) d.kd) (if K.contains y then km y else none)):
  BindsTo s fd ⟨ws,wk⟩ ((P++K).filterMap λy=>(Et P K ws wk dv km y).map (y,·))/\∀ y∈P++K,IH g (d.bind es kws (AI y)) (Et P K ws wk dv km y):=by
 have lw:=hr.length
 have ld:=rd.length
 have lP:=cP.length
 have cPK:=cP.append cK
 have zP:=DK.zip cP hr
 have zk:=zP.append hk
 have zd:DK g ((d.ps.drop (d.ps.length - d.df.length)).zip d.df) ((P.drop (P.length - dv.length)).zip dv):=by
  have :=DK.zip (cP.drop (d.ps.length - d.df.length)) rd
  rw[<-lP,<-ld] at this ⊢;exact this
 have val:∀ y∈P++K,IH g (d.bind es kws (AI y)) (Et P K ws wk dv km y):=λy hy=>by
  have gy:=cPK.good hy
  show IH g (look (AI y) (d.slots es kws)) _
  unfold CP.slots Et
  rw[bW,bW]
  exact((zk.lookup gy).or (zd.lookup gy)).or (rkd y hy)
 have b1:=Nat.le_of_ble_eq_true hb.len
 have b2:=Nat.le_of_ble_eq_true hb.dl
 have kn:=hk.names
 have zn:=zP.names
 have gk:∀ x∈P.take (P.length - dv.length),((P.zip ws++wk).lookup x).isSome=true:=λx hx=>by
  have gx:=cP.good (List.mem_of_mem_take hx)
  have hc:=((cP.take _).mem gx).mpr hx
  rw[lP,ld] at hc
  have :=List.all_eq_true.mp hb.need _ hc
  rw[(zk.lookup gx).isSome]
  refine c6 ?_
  rw[List.map_append,cm]
  exact aO.mp this
 refine⟨ja h1 hP hK h2 h3 hd hdv hkd (by omega) (by omega) (λp hp=> ?_) (kn.nodup (cH hb.nd)) (λy hy=> ?_) gk,val⟩
 ·have hm:p.1∈wk.map (·.1):=List.mem_map_of_mem hp
  have gp:=kn.good hm
  have :=List.all_eq_true.mp hb.kw _ ((kn.mem gp).mpr hm)
  rw[Bool.and_eq_true,aO,Bool.not_eq_true'] at this
  have n2:=this.2
  have q:=(cPK.mem gp).mp this.1
  refine⟨?_,?_⟩
  ·rw[Bool.or_eq_true,List.contains_iff_mem,List.contains_iff_mem]
   exact List.mem_append.mp q
  ·rw[<-Bool.not_eq_true]
   intro z
   rw[(zP.lookup gp).isSome] at z
   cases e:look (AI p.1) (d.ps.zip es) with
   |none=>rw[e] at z;cases z
   |some u=>
    have :=List.mem_map_of_mem (f:=λp:Nat×V=>p.1) (aW e)
    rw[cm] at this
    have z2:=aO.mpr this
    rw[n2] at z2;cases z2
 ·rw[(val y hy).isSome]
  have gy:=cPK.good hy
  show(look (AI y) (d.slots es kws)).isSome=true
  unfold CP.slots
  rcases List.mem_append.mp hy with hp|hp
  ·by_cases q:y∈P.take (P.length - dv.length)
   ·have :=gk y q
    rw[(zk.lookup gy).isSome] at this
    rw[bW,bW]
    cases e:look (AI y) (d.ps.zip es++kws) with
    |none=>rw[e] at this;cases this
    |some _=>rfl
   ·have :y∈P.drop (P.length - dv.length):=by
     rw[<-List.take_append_drop (P.length - dv.length) P] at hp
     exact(List.mem_append.mp hp).resolve_left q
    refine c6 ?_
    rw[List.map_append,List.map_append,cm]
    refine List.mem_append_left _ (List.mem_append_right _ ?_)
    rw[List.take_of_length_le (by rw[List.length_drop];omega)]
    rw[lP,ld] at this
    exact((cP.drop _).mem gy).mpr this
  ·have :=List.all_eq_true.mp hb.ko _ ((cK.mem gy).mpr hp)
   rw[Bool.or_eq_true,aO] at this
   rcases this with q|q
   ·refine c6 ?_
    rw[List.map_append,List.map_append,List.map_append]
    exact List.mem_append_left _ (List.mem_append_left _ (List.mem_append_right _ q))
   ·rw[bW]
    cases look (AI y) (d.ps.zip es++kws++(d.ps.drop (d.ps.length - d.df.length)).zip d.df) with
    |none=>exact q
    |some _=>rfl
def aJ {α β:Type}[BEq α][LawfulBEq α]{k:α}{v:β}:∀ {l:List (α×β)},l.lookup k=some v->(k,v)∈l
 | [],h=>by cases h
 |(j,w)::l,h=>by
  rw[List.lookup_cons] at h
  cases e:k==j with
  |true=>rw[e] at h;cases h;rw[beq_iff_eq.mp e];exact .head _
  |false=>rw[e] at h;exact .tail _ (aJ h)
abbrev O8 (W:Bl):A8:=⟨λa=>W.g0.get? a,λU=>none,λU=>none⟩
inductive Pp (W:Bl):Value->Option (Array Value)->Prop
 |none:Pp W .none Option.none
 |some (T:Addr) (o:Obj) (vals:Array Value) (m:Nat) (e:W.g0.get? T=some o) (d:o.data= .seq vals m):Pp W (.ref T) (some vals)
inductive Q5 (W:Bl):Value->(Str->Option Value)->Prop
 |none:Q5 W .none λU=>Option.none
 |some (D:Addr) (km:Str->Option Value) (e:W.g0.Ns D km):Q5 W (.ref D) km
def RI (k:Option NameKind):Prop:=k=some .cell\/k=some .free
inductive Q2 (sc:Scope):List (Str×Addr)->Prop
 |none (h:∀ y,(y,NameKind.free) ∉ sc.names):Q2 sc []
 |some (cl:List (Str×Addr)) (h:∀ y,(y,NameKind.cell) ∉ sc.names) (h2:∀ y,good y=true->(y,NameKind.free) ∉ sc.names) (h3:∀ y,good y=true->cl.lookup y=Option.none):Q2 sc cl
inductive S3 (W:Bl)(f:Nat)(d:CP)(sc:Scope)(bx:List Stmt):Prop
 |mk (fo:Obj) (name qual:Str) (params:Arguments) (cl:List (Str×Addr)) (dV kV doc pm:Value) (an:Option Addr) (cdv ct:Value) (P K:List Str) (km:Str->Option Value) (r0:Option (Array Value))
   (e:W.g0.get? (W.fa f)=some fo) (ed:fo.data= .func (fnX name qual params bx sc cl dV kV doc pm an cdv ct)) (ec:W.g0.CodeRec cdv qual) (ec2:cdv= .ref (W.cc f)) (eq:qual++".<locals>."=W.cq f)
   (p1:params.posonlyargs= []) (hP:params.args.map (·.arg)=P) (hK:params.kwonlyargs.map (·.arg)=K) (p2:params.vararg=none) (p3:params.kwarg=none) (cP:FH P d.ps) (cK:FH K d.ko) (nd:(P++K).Nodup)
   (JW:Pp W dV r0) (rdf:AE (O8 W) d.df (r0.getD #[]).toList) (ckd:∀ x,x∈d.kd.map (·.1)->x∈d.ko) (hkd:Q5 W kV km) (rkd:∀ y,y∈P++K->IH (O8 W) (look (AI y) d.kd) (if K.contains y then km y else none))
   (names:∀ y,y∈P++K->sc.names.lookup y=some .local\/sc.names.lookup y=some .cell) (nfz:∀ y,y∈P++K->DM (AI y)=false\/sc.names.lookup y=some .local) (JB:Q2 sc cl):S3 W f d sc bx
structure PT (W:Bl)(f:Nat)(d:CP)(sc:Scope)(bx:List Stmt):Prop where
 obj:S3 W f d sc bx
 kind:sc.kind= .function
 co:sc.isCoroutine=false
 gen:sc.isGenerator=false
section
variable {W:Bl}{n:Nat}{cf:Cc}{A:Around}{g g':A8}{h h':H}{s s':Shared}
inductive OF (W:Bl)(env:PySem.Env)(me:AZ)(g:A8)(h:H)(s:Shared):Prop
 |mk (g':A8) (o:Ok W g' h s) (e:Fp g' env me) (k:Ek g g') (p:∀ a,¬ Eb env a->g'.pn a=g.pn a) (x:g'.gn=g.gn):OF W env me g h s
inductive RN (g:A8)(s₀:Heap)(hp:Heap)(L:Addr)(x:Str)(v:Option V)(a:Addr):Prop
 |mk (w:Option Value) (c:hp.IsCell a w) (f:s₀.get? a=none) (ne:a≠L) (z:v≠none->DM (AI x)=false) (r:IH g v w):RN g s₀ hp L x v a
open Classical in
def jl {env:PySem.Env}{me:AZ}{hp:Heap}{tk:Nat}{lm:Str->Option Value}(ho:Ok W g h s)(hk:∀ b o,s.heap.get? b=some o->hp.get? b=some o)(e1:env.globals=mainGlobals)(e2:env.builtins=builtinsNs)(e3:env.scope.kind= .function)(e4:env.scope.isCoroutine=false)
  (HY:s.heap.get? env.locals=none)(hns:hp.Ns env.locals lm)(hl:∀ x,good x=true->env.kindOf x=some .local->∀ v,me (AI x)=some v->∃ w,lm x=some w/\AF g v w)
  (hc:∀ x,good x=true->env.kindOf x=some .cell\/env.kindOf x=some .free->∃ a,env.cells.lookup x=some a/\RN g s.heap hp env.locals x (me (AI x)) a)
  (one:∀ x y a,good x=true->good y=true->env.cells.lookup x=some a->env.cells.lookup y=some a->x=y):OF W env me g h { s with heap:=hp,toks:=tk }:=by
 obtain⟨oL,es,ep,Kh,l2,l3⟩:=hns
 have cell:∀ a,Eb env a->s.heap.get? a=none/\∃ o,hp.get? a=some o:=λa ha=>ha.elim (λe=>e▸⟨HY,_,Kh⟩) λ⟨x,h1,h2,h3⟩=>by
  obtain⟨b,e,c⟩:=hc x h1 h2
  rw[h3] at e;cases e
  cases c with |mk w c f ne z r=>exact⟨f,let⟨o,e,_⟩:=c;⟨o,e⟩⟩
 let g':A8:=⟨g.im,λa=>if Eb env a then hp.get? a else g.pn a,g.gn⟩
 have fr:∀ a,Eb env a->h a=none/\g.im a=none/\g.pn a=none/\ ¬ EY W a:=λa ha=>ho.fresh (cell a ha).1
 have im:Ek g g':=λa o e=>e
 have o':Ok W g' h { s with heap:=hp,toks:=tk }:=ho.go (Eb env) im (λb o U e=>hk b o e)
  (λb o e=> .inl ⟨e,λz=>aj (fr b z).2.1 e⟩)
  (λb o e=>by
   have e:(if Eb env b then hp.get? b else g.pn b)=some o:=e
   by_cases q:Eb env b
   ·rw[if_pos q] at e;exact⟨(fr b q).2.1,.inr ⟨q,e,(fr b q).2.2.2⟩⟩
   ·rw[if_neg q] at e;exact⟨(ho.Dz b o e).1,.inl ⟨e,q⟩⟩)
  (λb o e=> .inl ⟨λz=>aj (fr b z).1 e,e,λy hy=>⟨λz=>by
    have r:=ho.obj b o e
    have hyo:h y=some (.own b):=by cases r <;> cases hy <;> assumption
    exact aj (fr y z).1 hyo,rfl⟩⟩)
  (λb hb z=>(fr b z).2.2.2 hb) rfl ho.gens ho.Ii
 refine .mk g' o' ⟨e1,e2,e3,e4,.mk oL lm ?_ (λhp' e=>⟨oL,es,ep,e,l2,l3⟩) λx hx hk v hv=> ?_,λx hx hk=> ?_,one⟩ im (λa n=>if_neg n) rfl
 ·exact(if_pos (.inl rfl)).trans Kh
 ·obtain⟨w,a,b⟩:=hl x hx hk v hv
  exact⟨w,a,AF.mono im v b⟩
 ·obtain⟨a,e,c⟩:=hc x hx hk
  obtain⟨w,c,f,ne,z,r⟩:=c
  obtain⟨o,q1,q2⟩:=c
  have ow:Eb env a:= .inr ⟨x,hx,hk,e⟩
  refine⟨a,e,?_⟩
  generalize me (AI x)=mv at r z
  cases r with
  |none=>exact .bare o rfl ((if_pos ow).trans q1) q2
  |some v w r=>exact .mv (z λe=>nomatch e) v o w rfl ((if_pos ow).trans q1) q2 (AF.mono im v r)
def Dp (Q:V->H->Prop):DJ->AZ->H->Prop:=λfl U h=>match fl with | .next=>Q .none h| .ret v=>Q v h|_=>False
inductive VC (W:Bl)(f:Nat)(env:PySem.Env):Prop
 |mk (fo:Obj) (fd:FuncData) (e:W.g0.get? (W.fa f)=some fo) (d:fo.data= .func fd) (ef:env.func=some (W.fa f)) (ec:env.code=fd.code) (el:fd.closure= []\/env.cells=fd.closure)
def Lm (W:Bl)(cf:Cc)(n:Nat)(f:Nat)(sc:Scope)(bx:List Stmt)(m:A2):Prop:=
 ∀ A env me g h s Q,DT W n ⟨some f,sc.names⟩ A env me g h s->VC W f env->m cf me Q h->PySem.wpAt (model W.prog W.w) A (.func bx env) (execs bx env) (N6 W n ⟨some f,sc.names⟩ A env g Q) GG s
theorem Lm.of {f:Nat}{sc:Scope}{bx:List Stmt}{m:A2}(h:I4 W cf n ⟨some f,sc.names⟩ m bx):Lm W cf n f sc bx m:=λA env me g h' s Q hA U hx=>wpAt_of_wpAny (h A env me g h' s Q hA hx)
def qc (ho:Ok W g h s):Ek (O8 W) g:=λa o e=>ho.Ng a o e
def iW {a:Option V}{b:Option Value}{v:V}(h:IH g a b)(e:a=some v):∃ w,b=some w/\AF g v w:=by
 cases h with
 |none=>cases e
 |some u w r=>cases e;exact⟨w,rfl,r⟩
def nU {f:Nat}{d:CP}{sc:Scope}{bx:List Stmt}{m:A2}(hW:W.Ok)(fo:PT W f d sc bx)(hb:Lm W cf n f sc bx m){es:List V}{kws:List (Nat×V)}{ws:List Value}{wk:List (Str×Value)}{Q:V->H->Prop}(ho:Ok W g h s)(hA:JC (n+1) A)(hr:AE g es ws)(hk:DK g kws wk)
  (fit:d.Fits es.length (kws.map (·.1)))(q:m cf (d.bind es kws) (Dp Q) h):codeAny (model W.prog W.w) A (.call (.ref (W.fa f)) ⟨ws,wk⟩) (RH W g Q) s:=by
 obtain⟨ob,name,qual,params,cl,dV,kV,doc,pm,an,cdv,ct,P,K,km,r0,k1,k2,k3,kc,kq,p1,hP,hK,p2,p3,cP,cK,nd,JW,rdf,ckd,hkd,rkd,names,nfz,JB⟩:=fo.obj
 have old:∀ b o,W.g0.get? b=some o->s.heap.get? b=some o:=λb o e=>ho.old e
 obtain⟨GM,hval⟩:=iJ (s:=s) (fd:=fnX name qual params bx sc cl dV kV doc pm an cdv ct) (d:=d) hr hk fit p1 hP hK p2 p3 cP cK
  (λM A E Q z=>by
   cases JW with
   |none=>exact wpAny_pure z
   |some T o vals m e d=>exact wpAny_seqItems (old _ _ e) d z) rfl (AE.mono (qc ho) _ rdf)
  (by cases hkd with
   |none=>exact .inl ⟨rfl,rfl⟩
   |some D km e=>exact .inr ⟨D,rfl,e.keeps old⟩) λy hy=>(rkd y hy).mono (qc ho)
 have hkeys:=dt (Et P K ws wk (r0.getD #[]).toList km) (P++K) nd
 have cPK:=cP.append cK
 have hlook:∀ y∈P++K,(((P++K).filterMap λy=>(Et P K ws wk (r0.getD #[]).toList km y).map (y,·)).lookup y)=Et P K ws wk (r0.getD #[]).toList km y:=λy hy=>by rw[bZ,if_pos hy]
 have hin:∀ p∈(P++K).filterMap (λy=>(Et P K ws wk (r0.getD #[]).toList km y).map (y,·)),p.1∈P++K:=λp hp=>by
  obtain⟨y,hy,e⟩:=List.mem_filterMap.mp hp
  obtain⟨w,_,e2⟩:=Option.map_eq_some_iff.mp e
  rw[<-e2];exact hy
 generalize Et P K ws wk (r0.getD #[]).toList km=gv at GM hval hkeys hlook hin
 generalize (P++K).filterMap (λy=>(gv y).map (y,·))=binds at GM hkeys hlook hin
 have hm:∀ x v,good x=true->d.bind es kws (AI x)=some v->x∈P++K:=λx v gx e=>by
  have :=List.mem_map_of_mem (f:=λp:Nat×V=>p.1) (aW (show look (AI x) (d.slots es kws)=some v from e))
  unfold CP.slots at this
  rw[List.map_append,List.map_append,List.map_append,cm,cm] at this
  rcases List.mem_append.mp this with z|z
  ·rcases List.mem_append.mp z with z|z
   ·rcases List.mem_append.mp z with z|z
    ·exact(cPK.mem gx).mp (List.mem_append_left _ (List.mem_of_mem_take z))
    ·have :=List.all_eq_true.mp fit.kw _ z
     rw[Bool.and_eq_true,aO] at this
     exact(cPK.mem gx).mp this.1
   ·exact(cPK.mem gx).mp (List.mem_append_left _ (List.mem_of_mem_drop (List.mem_of_mem_take z)))
  ·exact(cPK.mem gx).mp (List.mem_append_right _ (ckd _ z))
 have orb:∀ x,good x=true->IH g (d.bind es kws (AI x)) (binds.lookup x):=λx gx=>by
  by_cases hx:x∈P++K
  ·rw[hlook x hx];exact hval x hx
  ·cases e:d.bind es kws (AI x) with
   |some v=>exact absurd (hm x v gx e) hx
   |none=>
    cases e2:binds.lookup x with
    |none=>exact .none
    |some w=>exact absurd (hin _ (aJ e2)) hx
 have body:∀ (env:PySem.Env) (s₁:Shared),env.func=some (W.fa f)->env.code=cdv->env.qual=qual++".<locals>."->env.scope=sc->(cl= []\/env.cells=cl)->(∀ a,Eb env a->s.heap.get? a=none)->OF W env (d.bind es kws) g h s₁->
   codeAny (model W.prog W.w) A (.func bx env) (RH W g Q) s₁:=λenv s₁ v1 v2 v3 v4 v5 v6 z=>by
  obtain⟨g1,o1,e1,im1,p1,x1⟩:=z
  refine ks_codeAny_funcAt (ks_wpAt_mono (hb _ _ _ _ _ _ (Dp Q) ⟨o1,e1,hA.deeper,by rw[v4],λf' e=>by cases e;exact⟨v2.trans kc,v3.trans kq⟩⟩ (.mk _ _ k1 k2 v1 v2 v5) q) (λfl s' z=> ?_) λU U e=>e.elim)
  obtain⟨g2,le,h2,me2,a,fl,rf,q⟩:=z
  have fin:∀ {w v},AF g2 v w->Q v h2->RH W g Q (.ok (.ret w)) s':=λ {w v} r q=> .mk _ _ ⟨⟨g2.im,g.pn,g.gn⟩,⟨λa o e=>le.im _ _ (im1 _ _ e),rfl,rfl⟩,h2,a.ok.Nm (λb o e=>by
   have nb: ¬ Eb env b:=λz=>aj (ho.fresh (v6 b z)).2.2.1 e
   exact(le.pn b nb).trans ((p1 b nb).trans e)) (λi x e=>by rw[le.gn,x1];exact e),v,r.same rfl,q⟩
  cases rf with
  |next=>exact fin qi q
  |ret v w r=>exact fin r q
  |brk=>exact q.elim
  |cont=>exact q.elim
 refine codeAny_call_function (fd:=fnX name qual params bx sc cl dV kV doc pm an cdv ct) (body:=bx) hA.room (old _ _ k1) k2 fo.co fo.gen rfl (k3.keeps old) (GM _ _ _ _ ?_)
 show wpAny _ _ (newFunctionEnv sc mainGlobals cl _ (qual++".<locals>.") (some (W.fa f)) cdv none builtinsNs) _ _ _
 cases JB with
 |none hnf=>
  refine wpAny_newFunctionEnv_cells fo.kind (λp hp=>(names _ (hin p hp)).imp id λq=>⟨q,bY _ _ _ (.inl (aJ q))⟩) λenv' he s' x=> ?_
  subst he
  obtain⟨h₁,tk,rfl,hk₁⟩:=x.done
  have cl0:∀ y,(cellsFrom (s.heap.objs.size+1) sc.names []).lookup y=none\/∃ a,(cellsFrom (s.heap.objs.size+1) sc.names []).lookup y=some a/\s.heap.get? a=none/\a≠s.heap.objs.size:=λy=>by
   cases e:(cellsFrom (s.heap.objs.size+1) sc.names []).lookup y with
   |none=>exact .inl rfl
   |some a=>
    have h2:s.heap.objs.size < a:=x.above _ _ (aJ e)
    exact .inr ⟨a,rfl,Heap.get?_none_of_le (Nat.le_of_lt h2),Nat.ne_of_gt h2⟩
  refine⟨(hW.lim.keeps old).keeps hk₁,body _ _ rfl rfl rfl rfl (.inl rfl) (λa ha=>ha.elim (λe=>e▸al _) λ⟨y,_,_,e⟩=> ?_) (jl (lm:=bindL (newEnv sc s.heap.objs.size mainGlobals (cellsFrom (s.heap.objs.size+1) sc.names []) (qual++".<locals>.") (some (W.fa f)) cdv none builtinsNs).kindOf binds λU=>none) ho hk₁ rfl rfl fo.kind fo.co (al _) x.toInCall.ns (λy gy hy v e=> ?_) (λy gy hy=> ?_) λy z a U U h1 h2=>name_of_addr x.apart (aJ h1) (aJ h2))⟩
  ·rcases cl0 y with z|⟨b,z,f,_⟩
   ·exact absurd (z.symm.trans e) (λq=>nomatch q)
   ·cases z.symm.trans e;exact f
  ·rw[i9 hy _ _ hkeys,Option.or_none]
   exact iW (orb y gy) e
  ·have hy:sc.names.lookup y=some .cell:=hy.resolve_right λq=>hnf _ (aJ q)
   obtain⟨a,ha⟩:=Option.isSome_iff_exists.mp (bY sc.names (s.heap.objs.size+1) [] (.inl (aJ hy)))
   refine⟨a,ha,?_⟩
   rcases cl0 y with z|⟨b,z,f,ne⟩
   ·exact absurd (z.symm.trans ha) (λq=>nomatch q)
   ·cases z.symm.trans ha
    refine .mk _ (x.cell _ _ ha) f ne (λe=> ?_) ?_
    ·cases e2:d.bind es kws (AI y) with
     |none=>exact absurd e2 e
     |some v=>exact(nfz y (hm y v gy e2)).resolve_right λq=>by rw[hy] at q;cases q
    rw[i8 (λq=>by have q:sc.names.lookup y=some .local:=q;rw[hy] at q;cases q) _ _ hkeys,Option.or_none]
    exact orb y gy
 |some _ hnc hnf hcn=>
  refine wpAny_newFunctionEnv (λp hp q=>hnc p.1 (by rw[<-q];exact hp)) (λp hp=>(names _ (hin p hp)).resolve_right λq=>hnc _ (aJ q)) (λh₁ hns hsb=> ?_) fo.kind
  have ext:∀ b o,s.heap.get? b=some o->h₁.get? b=some o:=λb o e=>(hsb.2 b (Nat.ne_of_lt (Heap.lt_size e))).trans (Heap.get?_push_of_some _ e)
  have nk:∀ y,good y=true-> ¬ (sc.names.lookup y=some .cell\/sc.names.lookup y=some .free):=λy gy q=>q.elim (λq=>hnc _ (aJ q)) λq=>hnf _ gy (aJ q)
  refine⟨(hW.lim.keeps old).keeps ext,body _ _ rfl rfl rfl rfl (.inr rfl) (λa ha=>ha.elim (λe=>e▸al _) λ⟨y,gy,q,_⟩=>absurd q (nk y gy)) (jl ho ext rfl rfl fo.kind fo.co (al _) hns (λy gy hy v e=> ?_) (λy gy hy=>absurd hy (nk y gy)) λy z a gy U h1 h2=> ?_)⟩
  ·rw[dR hkeys];exact iW (orb y gy) e
  ·exact absurd ((hcn y gy).symm.trans h1) (λq=>nomatch q)
end
def Px (pd:Nat->CP)(pb:Nat->A2)(n:Nat):Cc:= @Nat.rec (λU=>Cc) (λU U U U U=>False) (λU cf f es kws Q h=>(pd f).Fits es.length (kws.map (·.1))/\pb f cf ((pd f).bind es kws) (Dp Q) h) n
inductive LG (W:Bl)(n:Nat)(cf:Cc)(d:CP)(m:A2)(f:Nat):Prop
 |mk (sc:Scope) (bx:List Stmt) (o:PT W f d sc bx) (b:Lm W cf n f sc bx m)
def jb {W:Bl}{pd:Nat->CP}{pb:Nat->A2}(hW:W.Ok)(hk:Id W)(GW:∀ n cf f,DC W (n+1) cf->LG W (n+1) cf (pd f) (pb f) f):∀ n,PP W (n+1) (Px pd pb n)
 |0,_,_,_,_,_,_,_,_,_,_,_,_,_,_,q=>q.elim
 |n+1,f,_,_,_,_,_,_,_,_,_,ho,hA,hr,hk',q=>match GW n (Px pd pb n) f ⟨hW,hk,jb hW hk GW n⟩ with
  | .mk sc bx o b=>nU hW o b ho hA hr hk' q.1 q.2
def gJ {pos':Pos}{a b:Nat}{x cv:Value}:∀ {l:List Value},TriplesOk l->codeAmong pos' (l++ [rawInt a,rawInt b,x])=some cv->codeAmong pos' l=some cv\/(pos'.line=a/\pos'.col=b/\cv=x)
 | [],_,h=>by
  simp only[List.nil_append,rawInt,codeAmong] at h
  split at h
  ·rename_i e
   simp only[Bool.and_eq_true,beq_iff_eq] at e
   cases h
   exact .inr ⟨by have :=e.1;omega,by have :=e.2;omega,rfl⟩
  ·cases h
 | .int i t:: .int j u::c::r,h,e=>by
  simp only[List.cons_append,codeAmong] at e ⊢
  split at e
  ·rename_i q
   rw[if_pos q];exact .inl e
  ·rename_i q
   rw[if_neg q];exact gJ (l:=r) h e
def QI (p q:Pos):Prop:=q.line=p.line/\q.col=p.col
inductive IG (W:Bl)(f:Nat)(pos:Pos)(suf:Str):Prop
 |mk (P:Addr) (h:(W.cc f,P)∈W.tabs) (q:∀ p,QI pos p->W.tq p=some (W.cq f++suf)):IG W f pos suf
section
variable {W:Bl}{n:Nat}{nm:DI}{cf:Cc}{A:Around}{env:PySem.Env}{me:AZ}{g g':A8}{h h':H}{s s':Shared}
theorem Ok.tab (ho:Ok W g h s){P c1:Addr}{ps:Array Value}{pos:Pos}{hp:Heap}{tk:Nat}{q:Str}{oc:Obj}{vs:Array Value}{t:Tok}(EP:EY W P)(hP:s.heap.get? P=some (tabObj ps))(RF:TriplesOk ps.toList)
  (hall:∀ pos cv,codeAmong pos ps.toList=some cv->∃ q c',W.tq pos=some q/\cv= .ref c'/\HZ g.im c' q)(hx:Heap.ExtBut P s.heap hp)(hge:s.heap.objs.size<=c1)
  (hoc:hp.get? c1=some oc)(hd:oc.data= .fields vs)(hv:vs[1]? =some (.str q t))(RG:hp.get? P=some (tabObj (ps++ #[rawInt pos.line,rawInt pos.col,.ref c1])))(CX:∀ p,QI pos p->W.tq p=some q):
  Ok W (g.lay c1 oc) h { s with heap:=hp,toks:=tk }/\HV g (g.lay c1 oc):=by
 have hn:s.heap.get? c1=none:=Heap.get?_none_of_le hge
 have f:=ho.fresh hn
 have le:=ho.Kr hn oc
 have imP:∀ b o,g.im b=some o->b≠P:=λb o e z=>by rw[z,ho.Pz P EP] at e;cases e
 have hP':∀ b o,h b=some o->b≠P:=λb o e z=>(ho.sep b o e).2.2 (z▸EP)
 refine⟨⟨λb o e=> ?_,λb o e=>hx b o (λz=>(ho.Dz b o e).2 (z▸EP)) (ho.Dk b o e),λb o e=>(ho.obj b o e).keep le.im (λob z=>hx b ob (hP' b o e) z) λy hy=>⟨λob z=>hx y ob ?_ z,rfl⟩,λb o e=>⟨(ab _ _ λz=>aj f.1 (z▸e)).trans (ho.sep b o e).1,(ho.sep b o e).2⟩,λb o e=>⟨(ab _ _ λz=>aj f.2.2.1 (z▸e)).trans (ho.Dz b o e).1,(ho.Dz b o e).2⟩,
  λP' h'=>(ab _ _ λ(z:P'=c1)=>f.2.2.2 (z▸h')).trans (ho.Pz P' h'),λP' h'=> ?_,ho.os,ho.gens,ho.Ii,λa o e=>le.im a o (ho.Ng a o e)⟩,le⟩
 ·have e:Ad g.im c1 (some oc) b=some o:=e
  by_cases z:b=c1
  ·subst z;rw[aa] at e;cases e;exact hoc
  ·rw[ab _ _ z] at e;exact hx b o (imP b o e) (ho.F2 b o e)
 ·have r:=ho.obj b o e
  have hyo:h y=some (.own b):=by cases r <;> cases hy <;> assumption
  exact hP' y _ hyo
 ·by_cases z:P'=P
  ·subst z
   have eL:(ps++ #[rawInt pos.line,rawInt pos.col,Value.ref c1]).toList=ps.toList++ [rawInt pos.line,rawInt pos.col,.ref c1]:=by simp
   refine⟨_,RG,eL▸TriplesOk_snoc _ _ _ _ RF,λp cv e=> ?_⟩
   rw[eL] at e
   rcases gJ RF e with e|⟨e1,e2,rfl⟩
   ·obtain⟨q',c2,h1,h2,h3⟩:=hall p cv e
    exact⟨q',c2,h1,h2,h3.mono le.im⟩
   ·exact⟨q,c1,CX p ⟨e1,e2⟩,rfl,oc,vs,t,aa ..,hd,hv⟩
  ·exact(ho.tabs P' h').mono le.im λo e=>hx P' o z e
inductive JD (W:Bl)(g:A8)(h:H)(q:Str):Value->Shared->Prop
 |mk (g':A8) (le:HV g g') (c1:Addr) (s':Shared) (o:Ok W g' h s') (ci:HZ g'.im c1 q):JD W g h q (.ref c1) s'
def jW {f:Nat}{pos:Pos}{suf:Str}{t:Sem Value}(hW:W.Ok)(ho:Ok W g h s)(hM:IG W f pos suf)(hcd:env.code= .ref (W.cc f)/\env.qual=W.cq f)
  (hit:∀ {P:Addr} {ps:Array Value} {cv:Value},s.heap.IsCode (W.cc f) P ps->codeAmong pos ps.toList=some cv->JD W g h (env.qual++suf) cv s->BR W A t (JD W g h (env.qual++suf)) s)
  (new:∀ {P:Addr} {ps:Array Value},s.heap.IsCode (W.cc f) P ps->s.heap.TableAt (W.cc f) P ps->codeAmong pos ps.toList=none->
   (∀ c' h' tk,Heap.ExtBut P s.heap h'->s.heap.objs.size<=c'->c' < h'.objs.size->h'.IsCode (W.cc f) P (ps++ #[rawInt pos.line,rawInt pos.col,.ref c'])->h'.CodeRec (.ref c') (env.qual++suf)->h'.TableAt (W.cc f) P (ps++ #[rawInt pos.line,rawInt pos.col,.ref c'])->(∃ P',s.heap.objs.size<=P'/\h'.IsCode c' P' #[]/\h'.TableAt c' P' #[])->
    JD W g h (env.qual++suf) (.ref c') { s with heap:=h',toks:=tk })->BR W A t (JD W g h (env.qual++suf)) s):BR W A t (JD W g h (env.qual++suf)) s:=by
 obtain⟨P,hP,CX⟩:=hM
 obtain⟨C,hg⟩:=hW.tabs _ hP
 have EP:EY W P:=List.mem_map_of_mem hP
 obtain⟨ps,e1,e2,e3⟩:=ho.tabs P EP
 have C':=C.keeps λb o e=>ho.old e
 rw[<-hcd.2] at CX
 cases hf:codeAmong pos ps.toList with
 |some cv=>
  obtain⟨q,c1,h1,rfl,h3⟩:=e3 pos cv hf
  rw[CX pos ⟨rfl,rfl⟩] at h1;cases h1
  exact hit (C'.code e1 e2) hf (.mk g (.refl g) c1 s ho h3)
 |none=>
  refine new (C'.code e1 e2) (C'.tab e1) hf λc1 h' tk hx hge hlt U hrec RG hc=> ?_
  obtain⟨c2,oc,vs,t,z,hoc,hd,hv⟩:=hrec
  cases z
  obtain⟨o',le⟩:=ho.tab (tk:=tk) EP e1 e2 e3 hx hge hoc hd hv RG.2 CX
  exact .mk _ le c1 _ o' ⟨oc,vs,t,aa ..,hd,hv⟩
def gF {f:Nat}{pos:Pos}{fl:Nat}{name:Str}{pa:Arguments}{sc:Scope}{body:FuncBody}{suf:Str}(hW:W.Ok)(ho:Ok W g h s)(hM:IG W f pos suf)(hcd:env.code= .ref (W.cc f)/\env.qual=W.cq f):
  BR W A (functionCode env pos fl name (env.qual++suf) pa sc body) (JD W g h (env.qual++suf)) s:=
 jW hW ho hM hcd (λh1 h2 h3=>wpAny_functionCode_hit hcd.1 h1 h2 h3) λh1 h2 h3 h4=>wpAny_functionCodeX hcd.1 h1 h2 h3 h4
def gT {f:Nat}{pos:Pos}{sc:Scope}{suf:Str}(hW:W.Ok)(ho:Ok W g h s)(hM:IG W f pos suf)(hcd:env.code= .ref (W.cc f)/\env.qual=W.cq f):
  BR W A (genexprCode env pos (env.qual++suf) sc) (JD W g h (env.qual++suf)) s:=
 jW hW ho hM hcd (λh1 h2 h3=>wpAny_genexprCode_hit hcd.1 h1 h2 h3) λh1 h2 h3 h4=>wpAny_genexprCodeX hcd.1 h1 h2 h3 h4
def dA {Q:Addr->Shared->Prop}{b:Addr}(hW:W.Ok)(ho:Ok W g h s)(q:Q builtinsNs s):BR W A (builtinsFor mainGlobals b) Q s:=by
 obtain⟨bm,ob,b1,b2,b3,b4,b5,b6⟩:=hW.bmain
 have old:∀ b o,W.g0.get? b=some o->s.heap.get? b=some o:=λb o e=>ho.old e
 exact wpAny_builtinsFor (hW.g.keeps old) b1 b2 (old _ _ b3) b4 b5 b6 q
inductive OH (W:Bl)(g:A8)(h:H)(qual:Str)(params:Arguments)(body:PySem.Expr)(scope:Scope)(clos:List (Str×Addr)):Value->Shared->Prop
 |mk (g':A8) (le:HV g g') (s':Shared) (o:Ok W g' h s') (f:Addr) (pm:Value) (c':Addr) (ctv:Value) (e:g'.im f=some (kla_obj "<lambda>" qual params body scope clos pm c' ctv)) (ci:HZ g'.im c' qual):OH W g h qual params body scope clos (.ref f) s'
def ge {f:Nat}{params:Arguments}{body:PySem.Expr}{scope:Scope}{pos:Pos}{clos:List (Str×Addr)}(hW:W.Ok)(a:DT W n nm A env me g h s)(hg:nm.f=some f)(hM:IG W f pos "<lambda>")(hdef:defaultsOf params env=([],[]))(JB:closureFor scope env=pure clos):
  BR W A (eval (.Lambda params body scope pos) env) (OH W g h (env.qual++"<lambda>") params body scope clos) s:=by
 refine kla_eval hdef ?_
 rw[makeFunction_eq]
 simp only[List.zip_nil_right,List.filterMap_nil,List.isEmpty_nil,if_true,pure_bind]
 unfold makeTail
 rw[JB,a.BL.glob]
 refine wpAny_bind (wpAny_pure ?_)
 have fin:∀ (s1:Shared) (ctv:Value),Ok W g h s1->BR W A (do
   let code<-functionCode env pos pos.line "<lambda>" (env.qual++"<lambda>") params scope (.expr body)
   let bi<-builtinsFor mainGlobals env.builtins
   newObj (.type "function") (.func { name:="<lambda>",qualname:=env.qual++"<lambda>",params,body:= .expr body,scope,globals:=mainGlobals,closure:=clos,defaults:= .none,kwdefaults:= .none,doc:= .none,pyModule:=(<-nsGet mainGlobals "__name__").getD .none,annotations:=none,code,closureTuple:=ctv,builtins:=bi }):Sem Value) (OH W g h (env.qual++"<lambda>") params body scope clos) s1:=λs1 ctv o=>by
  refine wpAny_bind (ai (gF hW o hM (a.code f hg)) λcv s2 z=> ?_)
  obtain⟨g2,le,c1,s2,o2,ci⟩:=z
  refine wpAny_bind (dA hW o2 ?_)
  refine wpAny_bind (wpAny_nsGet (hW.g.keeps λb o e=>o2.old e) ?_)
  refine wpAny_newObj_type ?_ (by size_fits)
  have o3:=o2.laid (tk:=s2.toks) (o:=kla_obj "<lambda>" (env.qual++"<lambda>") params body scope clos ((W.mg "__name__").getD .none) c1 ctv) (λb o e=>Heap.get?_push_of_some _ e) (al _) (Heap.get?_push_size _ rfl)
  have le3:=o2.Kr (al _) (kla_obj "<lambda>" (env.qual++"<lambda>") params body scope clos ((W.mg "__name__").getD .none) c1 ctv)
  exact .mk _ (le.trans le3) _ o3 _ _ c1 ctv (aa ..) (ci.mono le3.im)
 cases clos with
 |nil=>
  simp only[List.isEmpty_nil,if_true]
  exact wpAny_bind (wpAny_pure (fin s .none a.ok))
 |cons p r=>
  simp only[List.isEmpty_cons,Bool.false_eq_true,if_false]
  refine wpAny_bind (wpAny_newTextTuple ?_)
  exact fin _ _ (a.ok.grown (tk:=s.toks) λb o e=>Heap.get?_push_of_some _ e)
def cN {env:PySem.Env}:∀ (names:List (Str×NameKind)) (acc:List (Str×Addr)),names.filter (λq=>q.2== .free)= []->
  (forIn names acc (λ(p:Str×NameKind) (cs:List (Str×Addr))=>(if p.2== .free then do let a<-cellOf env p.1;pure (ForInStep.yield ((p.1,a)::cs)) else pure (ForInStep.yield cs):Sem (ForInStep (List (Str×Addr))))))=pure acc
 | [],acc,_=>by rw[List.forIn_nil]
 |p::r,acc,h=>by
  rw[List.forIn_cons]
  rw[List.filter_cons] at h
  split at h
  ·cases h
  ·rename_i q
   rw[if_neg q]
   exact cN r acc h
def dZ {env:PySem.Env}{x:Str}{a:Addr}(hx:env.cells.lookup x=some a):∀ (names:List (Str×NameKind)) (acc:List (Str×Addr)),names.filter (λq=>q.2== .free)= [(x,.free)]->
  (forIn names acc (λ(p:Str×NameKind) (cs:List (Str×Addr))=>(if p.2== .free then do let a<-cellOf env p.1;pure (ForInStep.yield ((p.1,a)::cs)) else pure (ForInStep.yield cs):Sem (ForInStep (List (Str×Addr))))))=pure ((x,a)::acc)
 | [],acc,h=>by cases h
 |p::r,acc,h=>by
  rw[List.forIn_cons]
  rw[List.filter_cons] at h
  split at h
  ·rename_i q
   rw[if_pos q]
   injection h with h1 h2
   subst h1
   unfold cellOf
   rw[hx]
   exact cN r _ h2
  ·rename_i q
   rw[if_neg q]
   exact dZ hx r acc h
def cA (sc:Scope)(env:PySem.Env):closureFor sc env=(forIn sc.names ([]:List (Str×Addr)) (λ(p:Str×NameKind) (cs:List (Str×Addr))=>(if p.2== .free then do let a<-cellOf env p.1;pure (ForInStep.yield ((p.1,a)::cs)) else pure (ForInStep.yield cs):Sem (ForInStep (List (Str×Addr)))))):=by
 unfold closureFor
 first
  |rfl
  |(simp only[bind_pure];done)
def fT {env:PySem.Env}{sc:Scope}{x:Str}{a:Addr}(hx:env.cells.lookup x=some a)(h:sc.names.filter (λq=>q.2== .free)= [(x,.free)]):closureFor sc env=pure [(x,a)]:=(cA sc env).trans (dZ hx sc.names [] h)
def jd {env:PySem.Env}{sc:Scope}(h:sc.names.filter (λq=>q.2== .free)= []):closureFor sc env=pure []:=(cA sc env).trans (cN sc.names [] h)
structure Ob (fr:List (Str×NameKind))(sc:Scope):Prop where
 kind:sc.kind= .function
 gen:sc.isGenerator=false
 co:sc.isCoroutine=false
 free:sc.names.filter (λq=>q.2== .free)=fr
 cell:∀ p∈sc.names,p.2≠ .cell
def cx {x:Str}{sc:Scope}(h:Lv x sc=true):Ob [(x,.free)] sc:=by
 unfold Lv at h
 simp only[Bool.and_eq_true,Bool.not_eq_true',beq_iff_eq,List.all_eq_true,bne_iff_ne] at h
 obtain⟨⟨⟨⟨h1,h2⟩,h3⟩,h4⟩,h5⟩:=h
 exact⟨h1,h2,h3,h4,h5⟩
def dK {sc:Scope}(h:Lw sc=true):Ob [] sc:=by
 unfold Lw at h
 simp only[Bool.and_eq_true,Bool.not_eq_true',beq_iff_eq,List.all_eq_true,bne_iff_ne] at h
 obtain⟨⟨⟨⟨h1,h2⟩,h3⟩,h4⟩,h5⟩:=h
 exact⟨h1,h2,h3,h4,h5⟩
def LN (k x:Nat):A4:=λU me Q h=>AJ (me x) λv=>AJ v.ref? λl=>Q (.lam k l) h
theorem KG.clos {k:Nat}{x:Str}{params:Arguments}{body:PySem.Expr}{scope:Scope}(t:KG k x params body scope):good x=true/\DM (AI x)=true/\Lv x scope=true/\∀ env,defaultsOf params env=([],[]):=by
 cases t with
 |one _ _ _ _ _ _ k hx hz hc=>exact⟨hx,hz,hc,λU=>rfl⟩
 |two _ _ _ _ _ _ _ _ _ _ _ _ k hx hz hc=>exact⟨hx,hz,hc,λU=>rfl⟩
def uj {k f:Nat}{x:Str}{params:Arguments}{body:PySem.Expr}{scope:Scope}{pos:Pos}(hW:W.Ok)(hg:nm.f=some f)(hM:IG W f pos "<lambda>")(t:KG k x params body scope)(hk:nm.lookup x=some .cell):
  Bw W cf n nm (LN k (AI x)) (.Lambda params body scope pos):=λA env me g h s Q a q=>by
 obtain⟨gx,hz,hc,hd⟩:=t.clos
 obtain⟨ad,q1,c⟩:=a.BL.cell x gx (.inl (a.kind hk))
 refine ao q λv ev q=> ?_
 cases c with
 |bare o e i d=>rw[ev] at e;cases e
 |mv f u o w e i d r=>rw[hz] at f;cases f
 |full f u o w e i d r=>
  rw[ev] at e;cases e
  obtain⟨l,q⟩:=lZ q r
  refine ai (ge hW a hg hM (hd env) (fT q1 (cx hc).free)) λw s' z=> ?_
  obtain⟨g',le,s',o',fa,pm,c',ctv,e,ci⟩:=z
  exact⟨g',le,h,o',.lam k l,.mk fa (.mk params body scope _ pm c' ctv x ad o e t ci (le.im _ _ i) d),q⟩
end
section
variable {W:Bl}{n:Nat}{nm:DI}{cf:Cc}{A:Around}{env:PySem.Env}{me:AZ}{g g':A8}{h h':H}{s s':Shared}
abbrev Mm (ps:List Nat):CP:=⟨ps,[],[],[]⟩
def sZ {ps:List Nat}{m:Nat}(h:m=ps.length):(Mm ps).Fits m [] where
 len:=Nat.ble_eq_true_of_le (Nat.le_of_eq h)
 dl:=Nat.ble_eq_true_of_le (Nat.zero_le _)
 nd:=rfl
 kw:=rfl
 need:=List.all_eq_true.mpr λk hk=>aO.mpr (List.mem_append_left _ (by
  have hk:k∈ps.take (ps.length - 0):=hk
  subst h;exact hk))
 ko:=rfl
inductive PQ (g:A8)(cl:List (Str×Addr))(me:AZ)(x:Str):Prop
 |mk (f:DM (AI x)=true) (a:Addr) (u:V) (o:Obj) (w:Value) (e:cl.lookup x=some a) (ev:me (AI x)=some u) (ei:g.im a=some o) (d:o.data= .cell (some w)) (r:AF g u w):PQ g cl me x
def eE {f:Addr}{qual:Str}{as:List Arg}{body:PySem.Expr}{sc:Scope}{cl:List (Str×Addr)}{pm ctv:Value}{c':Addr}{P:List Str}{ps:List Nat}{fr:List (Str×NameKind)}{vs:List V}{ws:List Value}{m:A4}{Q:V->H->Prop}
  (hW:W.Ok)(ho:Ok W g h s)(hA:JC (n+1) A)(him:g.im f=some (kla_obj "<lambda>" qual ⟨[],as,.none,[],[],.none,[]⟩ body sc cl pm c' ctv))(ci:HZ g.im c' qual)(has:as.map (·.arg)=P)(cP:FH P ps)(nd:P.Nodup)(hlen:vs.length=ps.length)(hvs:AE g vs ws)
  (hc:Ob fr sc)(hloc:∀ y∈P,sc.names.lookup y=some .local)(hme:∀ x,good x=true->sc.names.lookup x=some .local->me (AI x)=(Mm ps).bind vs [] (AI x))(JB:∀ x,good x=true->sc.names.lookup x=some .free->PQ g cl me x)
  (one:∀ x y a,good x=true->good y=true->cl.lookup x=some a->cl.lookup y=some a->x=y)
  (hs:Bw W cf n ⟨none,sc.names⟩ m body)(q:m cf me Q h):codeAny (model W.prog W.w) A (.call (.ref f) ⟨ws,[]⟩) (RH W g Q) s:=by
 obtain⟨oc,vs',t,q1,q2,q3⟩:=ci
 obtain⟨GM,hval⟩:=iJ (s:=s) (fd:=kla_fn "<lambda>" qual ⟨[],as,.none,[],[],.none,[]⟩ body sc cl pm (.ref c') ctv) (d:=Mm ps) (K:= []) (dv:= []) (km:=λU=>none) (r0:=none) hvs .nil (sZ hlen) rfl has rfl rfl rfl cP .nil (λM A E Q z=>wpAny_pure z) rfl .mk (.inl ⟨rfl,rfl⟩) λy hy=> .none
 rw[List.append_nil] at GM hval
 have hkeys:=dt (Et P [] ws [] [] λU=>none) P nd
 have hlook:∀ y∈P,((P.filterMap λy=>(Et P [] ws [] [] (λU=>none) y).map (y,·)).lookup y)=Et P [] ws [] [] (λU=>none) y:=λy hy=>by rw[bZ,if_pos hy]
 have hin:∀ p∈P.filterMap (λy=>(Et P [] ws [] [] (λU=>none) y).map (y,·)),p.1∈P:=λp hp=>by
  obtain⟨y,hy,e⟩:=List.mem_filterMap.mp hp
  obtain⟨w,_,e2⟩:=Option.map_eq_some_iff.mp e
  rw[<-e2];exact hy
 generalize Et P [] ws [] [] (λU=>none)=gv at GM hval hkeys hlook hin
 generalize P.filterMap (λy=>(gv y).map (y,·))=binds at GM hkeys hlook hin
 have hm:∀ x v,good x=true->(Mm ps).bind vs [] (AI x)=some v->x∈P:=λx v gx e=>by
  have :=List.mem_map_of_mem (f:=λp:Nat×V=>p.1) (aW (show look (AI x) ((Mm ps).slots vs [])=some v from e))
  unfold CP.slots at this
  rw[List.zip_nil_right,List.append_nil,List.append_nil,List.append_nil,cm] at this
  exact(cP.mem gx).mp (List.mem_of_mem_take this)
 have old:∀ b o,W.g0.get? b=some o->s.heap.get? b=some o:=λb o e=>ho.old e
 refine kla_callFunE hA.room (ho.F2 _ _ him) rfl hc.co hc.gen rfl ⟨c',oc,vs',t,rfl,ho.F2 _ _ q1,q2,q3⟩ (GM _ _ _ _ ?_)
 refine wpAny_newFunctionEnv hc.cell (λp hp=>hloc _ (hin p hp)) (λh₁ hns hsb=> ?_) hc.kind
 have ext:∀ b o,s.heap.get? b=some o->h₁.get? b=some o:=λb o e=>(hsb.2 b (Nat.ne_of_lt (Heap.lt_size e))).trans (Heap.get?_push_of_some _ e)
 refine⟨(hW.lim.keeps old).keeps ext,kla_codeExpr ?_⟩
 obtain⟨oL,es,ep,Kh,l2,l3⟩:=hns
 have o1:=ho.pinned (tk:=s.toks+binds.length) (λb o U e=>ext b o e) (.inl (al _)) Kh
 have fL:=ho.fresh (al s.heap)
 have hAt:DT W n ⟨none,sc.names⟩ (A.deeper (newEnv sc s.heap.objs.size mainGlobals cl (qual++".<locals>.") (some f) (.ref c') none builtinsNs)) (newEnv sc s.heap.objs.size mainGlobals cl (qual++".<locals>.") (some f) (.ref c') none builtinsNs) me (g.pin s.heap.objs.size oL) h { s with heap:=h₁,toks:=s.toks+binds.length }:=
  ⟨o1,⟨rfl,rfl,hc.kind,hc.co,.mk oL _ (aa ..) (λhp e=>⟨oL,es,ep,e,l2,l3⟩) λx gx hx v e=> ?_,λx gx hx=> ?_,one⟩,hA.deeper,rfl,λf e=>by cases e⟩
 ·refine wpAny_mono (hs _ _ _ _ _ _ _ hAt q) (λw s' z=> ?_) λU U e=>e.elim
  obtain⟨g',le,h',o,v,r,q⟩:=z
  exact .mk _ _ ⟨⟨g'.im,g.pn,g.gn⟩,⟨le.im,rfl,rfl⟩,h',o.Nm (λb o e=>by
   rw[le.pn];exact(ab _ _ λz=>aj fL.2.2.1 (z▸e)).trans e) (λi x e=>by rw[le.gn];exact e),v,r.same rfl,q⟩
 ·rw[hme x gx hx] at e
  obtain⟨w,z1,z2⟩:=iW (hval x (hm x v gx e)) e
  exact⟨w,by rw[dR hkeys,hlook x (hm x v gx e)];exact z1,z2.pin⟩
 ·have hx:sc.names.lookup x=some .free:=hx.resolve_left λq=>hc.cell _ (aJ q) rfl
  obtain⟨f,a,u,o,w,e,ev,ei,d,r⟩:=JB x gx hx
  exact⟨a,e,.full f u o w ev ei d r.pin⟩
def Qp:Cc:=λU U U U U=>False
def iO {l:List (Str×NameKind)}{x y:Str}(h:l.filter (λq=>q.2== .free)= [(x,.free)])(hy:l.lookup y=some .free):y=x:=by
 have h2:(y,NameKind.free)∈l.filter (λq=>q.2== .free):=List.mem_filter.mpr ⟨aJ hy,rfl⟩
 rw[h] at h2
 have :=List.mem_singleton.mp h2
 cases this;rfl
def gQ {x y:Str}{a b:Addr}(h:List.lookup y [(x,a)]=some b):y=x/\b=a:=by
 rw[List.lookup_cons] at h
 cases e:y==x with
 |true=>rw[e] at h;cases h;exact⟨beq_iff_eq.mp e,rfl⟩
 |false=>rw[e] at h;cases h
def eA {x:Str}{p:Pos}:FG (.Name x p):=λU U U=>rfl
def fv {x:Str}{p:Pos}:DA (.Name x p):=λU U=>rfl
def b9 {x y:Str}(hx:good x=true)(hy:good y=true)(n:x≠y):AI x≠AI y:=λe=>n (bJ hx hy e)
def cO {l:List (Str×NameKind)}{x y:Str}(h1:l.lookup x=some .local)(h2:l.lookup y=some .free):x≠y:=λe=>by rw[e,h2] at h1;cases h1
def oz (hW:W.Ok):OG W (n+1):=λ {k l A g h s vs ws w Q} ho hA EI hvs q=>by
 obtain⟨f,hl⟩:=EI
 obtain⟨params,body,sc,qual,pm,c',ctv,x,cell,oc,e,tx,ci,ec,ed⟩:=hl
 refine⟨tz (ho.F2 _ _ e) rfl,wpAny_call ?_⟩
 have fin:∀ r s',RH W g Q r s'->wants (IF W g Q) GG r s':=λr s' z=>by cases z with |mk w s' z=>exact z
 have hz:DM (AI x)=true:=tx.clos.2.1
 have cl:∀ {me:AZ},me (AI x)=some (.ref l)->good x=true->∀ {sc:Scope},Ob [(x,.free)] sc->∀ y,good y=true->sc.names.lookup y=some .free->PQ g [(x,cell)] me y:=λ {me} em gx sc hc y gy hy=>by
  cases iO hc.free hy
  exact .mk hz cell _ oc _ (by rw[List.lookup_cons,beq_self_eq_true]) em ec ed (iM l)
 have on:∀ y z a,good y=true->good z=true->List.lookup y [(x,cell)]=some a->List.lookup z [(x,cell)]=some a->y=z:=λy z a U U h1 h2=>(gQ h1).1.trans (gQ h2).1.symm
 cases tx with
 |one _ _ p1 p2 p3 p4 _ hx _ hc hl h1=>
  cases vs with
  |cons _ _=>exact q.elim
  |nil=>
   have q:LJ (.ref l) (.int 1) Q h:=q
   refine codeAny_mono (eE (n:=n) (cf:=Qp) (me:=Ad ((Mm []).bind [] []) (AI x) (some (.ref l))) (ps:= []) hW ho hA.w e ci rfl .nil .nil rfl hvs (cx hc) (λy hy=>nomatch hy) (λy gy hy=>ab _ _ (b9 gy hx (cO hy h1))) (cl (aa ..) hx (cx hc)) on
    (jT eA (λU U=>rfl) hl (cS hx (by show LE (sc.names.lookup x)=true;rw[h1];rfl)) nF) ?_) fin
   show AJ (Ad _ (AI x) (some (V.ref l)) (AI x)) _
   rw[aa]
   obtain⟨xs,ex,q'⟩:=bh (o:=getL h l) q
   exact ae rfl (ae (o:=getL h l) ex q)
 |two _ _ a1 a2 a3 p1 p2 p3 p4 p5 p6 p7 _ hx _ hc hl h1 g1 g2 g3 n1 n2 n3 d1 d2 d3=>
  cases vs with
  |nil=>exact q.elim
  |cons v1 vs=>
  cases vs with
  |nil=>exact q.elim
  |cons v2 vs=>
  cases vs with
  |nil=>exact q.elim
  |cons v3 vs=>
  cases vs with
  |cons _ _=>exact q.elim
  |nil=>
   have q:LJ (.ref l) (.tup [v1,v2,v3]) Q h:=q
   have ne1:=b9 g1 hx (cO n1 h1)
   have ne2:=b9 g2 hx (cO n2 h1)
   have ne3:=b9 g3 hx (cO n3 h1)
   have bo:∀ {y:Str},sc.names.lookup y=some .local->LE (sc.names.lookup y)=true:=λe=>by rw[e];rfl
   refine codeAny_mono (eE (n:=n) (cf:=Qp) (me:=Ad ((Mm [AI a1.arg,AI a2.arg,AI a3.arg]).bind [v1,v2,v3] []) (AI x) (some (.ref l))) (ps:= [AI a1.arg,AI a2.arg,AI a3.arg]) hW ho hA.w e ci rfl (.cons _ _ _ g1 (.cons _ _ _ g2 (.cons _ _ _ g3 .nil)))
    (List.nodup_cons.mpr ⟨λz=>(List.mem_cons.mp z).elim d1 λz=>d2 (List.mem_singleton.mp z),List.nodup_cons.mpr ⟨λz=>d3 (List.mem_singleton.mp z),List.nodup_cons.mpr ⟨λz=>(nomatch z),.nil⟩⟩⟩) rfl hvs (cx hc)
    (λy hy=>(List.mem_cons.mp hy).elim (λe=>e▸n1) λhy=>(List.mem_cons.mp hy).elim (λe=>e▸n2) λhy=>(List.mem_singleton.mp hy)▸n3) (λy gy hy=>ab _ _ (b9 gy hx (cO hy h1))) (cl (aa ..) hx (cx hc)) on
    (jT eA (λU U=>rfl) hl (cS hx (by show LE (sc.names.lookup x)=true;rw[h1];rfl)) (nH (.cons _ _ _ _ fv (cS g1 (bo n1)) (.cons _ _ _ _ fv (cS g2 (bo n2)) (.cons _ _ _ _ fv (cS g3 (bo n3)) .nil))))) ?_) fin
   have e1:(Mm [AI a1.arg,AI a2.arg,AI a3.arg]).bind [v1,v2,v3] [] (AI a1.arg)=some v1:=by
    show cond (Nat.beq _ _) _ _=_
    rw[Nat.beq_refl];rfl
   have e2:(Mm [AI a1.arg,AI a2.arg,AI a3.arg]).bind [v1,v2,v3] [] (AI a2.arg)=some v2:=by
    show cond (Nat.beq _ _) _ (cond (Nat.beq _ _) _ _)=_
    rw[Nat.beq_refl,show Nat.beq (AI a2.arg) (AI a1.arg)=false from Bool.eq_false_iff.mpr λz=>b9 g1 g2 d1 (Nat.eq_of_beq_eq_true z).symm];rfl
   have e3:(Mm [AI a1.arg,AI a2.arg,AI a3.arg]).bind [v1,v2,v3] [] (AI a3.arg)=some v3:=by
    show cond (Nat.beq _ _) _ (cond (Nat.beq _ _) _ (cond (Nat.beq _ _) _ _))=_
    rw[Nat.beq_refl,show Nat.beq (AI a3.arg) (AI a1.arg)=false from Bool.eq_false_iff.mpr λz=>b9 g1 g3 d2 (Nat.eq_of_beq_eq_true z).symm,show Nat.beq (AI a3.arg) (AI a2.arg)=false from Bool.eq_false_iff.mpr λz=>b9 g2 g3 d3 (Nat.eq_of_beq_eq_true z).symm];rfl
   generalize (Mm [AI a1.arg,AI a2.arg,AI a3.arg]).bind [v1,v2,v3] []=bb at e1 e2 e3 ⊢
   show AJ (Ad bb (AI x) (some (V.ref l)) (AI x)) _
   rw[aa]
   obtain⟨xs,ex,q'⟩:=bh (o:=getL h l) q
   refine ae rfl (ae (o:=getL h l) ex ?_)
   show AJ (Ad bb (AI x) (some (V.ref l)) (AI a1.arg)) _
   rw[ab _ _ ne1,e1]
   show AJ (Ad bb (AI x) (some (V.ref l)) (AI a2.arg)) _
   rw[ab _ _ ne2,e2]
   show AJ (Ad bb (AI x) (some (V.ref l)) (AI a3.arg)) _
   rw[ab _ _ ne3,e3]
   exact⟨Nat.le_of_ble_eq_true rfl,q⟩
end
def kx:mroOf (.type "filter")=pure [.type "filter",.type "object"]:=by rw[mroOf_type];kernel_rfl
def qB:typeLookup (.type "filter") "__new__"=pure (some (.builtin "filter.__new__")):=by rw[typeLookup_type,builtinLookup_eq_fast];kernel_rfl
def og:Slot "filter" "__init__" "object.__init__":=
 .of (owner:="object") (n:="__init__") (by rw[typeLookup_type,builtinLookup_eq_fast];kernel_rfl) (by decide+kernel) (by decide+kernel) (by decide+kernel)
  (by first|exact .inl (by decide+kernel)|exact .inr (by decide+kernel)) (by rw[isSubtype_type];kernel_rfl)
def ji:Slot "filter" "__iter__" "filter.__iter__":=
 .of (owner:="filter") (n:="__iter__") (by rw[typeLookup_type,builtinLookup_eq_fast];kernel_rfl) (by decide+kernel) (by decide+kernel) (by decide+kernel)
  (by first|exact .inl (by decide+kernel)|exact .inr (by decide+kernel)) (by rw[isSubtype_type];kernel_rfl)
def dM:Slot "filter" "__next__" "filter.__next__":=
 .of (owner:="filter") (n:="__next__") (by rw[typeLookup_type,builtinLookup_eq_fast];kernel_rfl) (by decide+kernel) (by decide+kernel) (by decide+kernel)
  (by first|exact .inl (by decide+kernel)|exact .inr (by decide+kernel)) (by rw[isSubtype_type];kernel_rfl)
def iC:Manifest.owners.lookup (String.ofList ['r','e','t','l','i','f'].reverse)=some Manifest.sig_filter:=by kernel_rfl
def iP (a:Value):argsOk "filter.__iter__" ⟨[a],[]⟩:=by
 unfold argsOk;rw[signature?_of (id:="filter.__iter__") (n:= ['_','_','r','e','t','i','_','_']) (o:= ['r','e','t','l','i','f']) (by kernel_rfl) iC];kernel_rfl
def iQ (a:Value):argsOk "filter.__next__" ⟨[a],[]⟩:=by
 unfold argsOk;rw[signature?_of (id:="filter.__next__") (n:= ['_','_','t','x','e','n','_','_']) (o:= ['r','e','t','l','i','f']) (by kernel_rfl) iC];kernel_rfl
def dj:entryFor table "filter.__next__"=some Builtin.«filter.__next__» :=entryFor_of_tree (by kernel_rfl)
def iR:entryFor table "filter.__new__"=some Builtin.«filter.__new__» :=entryFor_of_tree (by kernel_rfl)
def h9:entryFor table "filter.__iter__"=some Builtin.«dict_keyiterator.__iter__» :=
 entryFor_alias (id':="dict_keyiterator.__iter__") (by kernel_rfl) (by first|rfl|decide+kernel|(unfold String.splitOn;simp+decide [String.splitOnAux])) (by decide+kernel) (by kernel_rfl)
def dL:TypeCalled "filter" "filter.__new__" "object.__init__":=
 ⟨by decide+kernel,by decide+kernel,⟨_,_,kx⟩,madeBy_type kx qB (by decide+kernel),by decide+kernel,by rw[isSubtype_type];kernel_rfl,og⟩
def jj (a b:Value):checkTypeCall "filter" ⟨[a,b],[]⟩=pure ():=by kernel_rfl
def j5 (a b:Value):checkBuiltinCall "filter.__new__" ⟨[.type "filter",a,b],[]⟩=pure ():=by kernel_rfl
def dk:plainId "filter.__next__"=true:=by decide+kernel
section
variable {prog:Program}{w:World}{K:Type}[DecidableEq K]{knd:KeyKind prog w K}{A:Around}{E:Value->Shared->Prop}{s:Shared}
def pB {it d:Addr}{i ep:Nat}{kvs:List (K×Value)}{k:K}{v:Value}{Q:Option Value->Shared->Prop}(hit:s.heap.IsValIter it d i kvs.length ep)
  (hm:s.heap.DictAt knd d kvs ep)(hx:kvs[i]? =some (k,v))(hQ:∀ h',h'.IsValIter it d (i+1) kvs.length ep->Heap.SameBut it s.heap h'->Q (some v) { s with heap:=h' }):
  wpAny (model prog w) A (callSpecial? (.ref it) "__next__") Q E s:=by
 obtain⟨o,ho,hc,hd⟩:=id hit
 obtain⟨od,es,hod,hcd,hdd,hk,hp,hn⟩:=id hm
 have hsz:es.size=kvs.length:=by rw[<-hp.length];simp
 have hlt':i < es.size:=by
  rw[hsz]
  rcases Nat.lt_or_ge i kvs.length with h|h
  ·exact h
  ·simp [List.getElem?_eq_none h] at hx
 have hval:es[i].val=v:=(hp.get? (e:=es[i]) (by simp [hlt']) hx).2
 refine wpAny_callSpecial?_slot (name:=Str.ofString "__next__") hit.typeIs F.slot_dict_valueiterator_next (wpAny_call_entry F.slot_dict_valueiterator_next hit.typeIs F.entry_dict_valueiterator_next ?_ (F.args_dict_valueiterator_next_1 _))
 wp_walk using wpAny_typeNameOfWhole_valiter hit.typeIs,wpAny_fieldsOf ho hd,wpAny_dictEntries hod hdd,wpAny_dictEpoch hod hdd
 rw[show(if(i:Int) < 0 then none else es[((i:Nat):Int).toNat]?)=some es[i] by rw[if_neg (by omega),Int.toNat_natCast,Array.getElem?_eq_getElem hlt']]
 wp_walk using wpAny_typeNameOfWhole_valiter hit.typeIs,wpAny_isOneOf_valiter hit.typeIs
 rw[hd]
 show wpAny _ _ (update it (Obj.mapFields (·.setIfInBounds 1 (rawInt ((i:Int)+1))))) _ _ _
 refine wpAny_update ho ?_
 have hit':(s.heap.update it (Obj.mapFields (·.setIfInBounds 1 (rawInt ((i:Int)+1))))).IsValIter it d (i+1) kvs.length ep:=
  ⟨_,Heap.get?_update_self _ ho (Obj.isFreed_of_fields (Obj.data_mapFields hd _)),(Obj.cls_mapFields ..).trans hc,by rw[Obj.data_mapFields hd];simp [rawInt]⟩
 have hT':({ s with heap:=s.heap.update it (Obj.mapFields (·.setIfInBounds 1 (rawInt ((i:Int)+1)))) }:Shared).TypeIs (.ref it) "dict_valueiterator":=hit'.typeIs
 refine wpAny_bind (wpAny_holding (wpAny_bind (wpAny_isOneOf_valiter hT' ?_)))
 refine wpAny_bind (wpAny_isOneOf_valiter hT' ?_)
 show wpAny _ _ (pure es[i].val) _ _ _
 exact wpAny_pure (wpAny_pure ⟨_,rfl,hval▸hQ _ hit' (Heap.SameBut.update ..)⟩)
def RS (h:Heap)(e:Value):Prop:=∃ a o,e= .ref a/\h.get? a=some o/\o.cls= .type "StopIteration"
def sf {it d:Addr}{i ep:Nat}{kvs:List (K×Value)}{Q:Option Value->Shared->Prop}(hh:A.handled=none)(hit:s.heap.IsValIter it d i kvs.length ep)
  (hm:s.heap.DictAt knd d kvs ep)(hx:kvs[i]? =none)(Bf:∀ h' e,Heap.ExtBut it s.heap h'->(∃ o,h'.get? it=some o)->RS h' e->E e { s with heap:=h' }):
  wpAny (model prog w) A (callSpecial? (.ref it) "__next__") Q E s:=by
 obtain⟨o,ho,hc,hd⟩:=id hit
 obtain⟨od,es,hod,hcd,hdd,hk,hp,hn⟩:=id hm
 have hsz:es.size=kvs.length:=by rw[<-hp.length];simp
 have hge:es.size<=i:=by rw[hsz];simpa using hx
 refine wpAny_callSpecial?_slot (name:=Str.ofString "__next__") hit.typeIs F.slot_dict_valueiterator_next (wpAny_call_entry F.slot_dict_valueiterator_next hit.typeIs F.entry_dict_valueiterator_next ?_ (F.args_dict_valueiterator_next_1 _))
 wp_walk using wpAny_typeNameOfWhole_valiter hit.typeIs,wpAny_fieldsOf ho hd,wpAny_dictEntries hod hdd,wpAny_dictEpoch hod hdd
 rw[show(if(i:Int) < 0 then none else es[((i:Nat):Int).toNat]?)=none by rw[if_neg (by omega),Int.toNat_natCast,Array.getElem?_eq_none hge]]
 wp_walk using wpAny_typeNameOfWhole_valiter hit.typeIs
 rw[hd]
 show wpAny _ _ (update it (Obj.mapFields (·.setIfInBounds 0 .none))) _ _ _
 refine wpAny_update ho ?_
 refine wpAny_bind ?_
 simp only[newExc,newTuple]
 refine wpAny_bind (wpAny_newObj_type ?_ (by size_fits))
 refine wpAny_bind (m:=firstArgMember _ _) (wpAny_of_eq (a:=Value.none) (by first|rfl|(simp only[firstArgMember];rfl)) ?_)
 refine wpAny_newObj_type ?_ (by size_fits)
 simp only[raiseNew]
 refine wpAny_bind (wpAny_handled ?_)
 rw[show A.in1.handled=none from hh]
 exact wpAny_bind (wpAny_pure (wpAny_throw (Bf _ _ (((Heap.SameBut.update ..).extBut.push _).push _) ⟨_,Heap.get?_push_of_some _ (Heap.get?_push_of_some _ (Heap.get?_update_self _ ho (Obj.isFreed_of_fields (Obj.data_mapFields hd _))))⟩ ⟨_,_,rfl,Heap.get?_push_size _ rfl,rfl⟩)))
end
abbrev Ff (f I:Addr):Obj:={ cls:= .type "filter",data:= .fields #[.ref f,.ref I] }
section
variable {W:Bl}{n:Nat}{A:Around}{g g':A8}{h h':H}{s s':Shared}{tg:PySem.Expr}
theorem JL.same {a:Nat}{f:Addr}(h:JL g a f)(e:g'.im=g.im):JL g' a f:=h.mono λa o q=>(by rw[e];exact q)
inductive SZ (W:Bl)(g:A8)(h:H)(b:Bool):Value->Shared->Prop
 |mk (g':A8) (le:HV g g') (s':Shared) (o:Ok W g' h s'):SZ W g h b (.bool b) s'
def qE (hW:W.Ok)(hk:Id W){n:Nat}:DC W n Qp:=⟨hW,hk,λU U U U q=>q.elim⟩
def kW {c:Nat}{v:V}{b:Bool}(e:Ei c v h=some b):K4 Qp c v (λu h'=>u= .bool b/\h'=h) h:=by
 refine aI e λa e1 e=> ?_
 refine aI e λi e2 e=> ?_
 refine ae e1 (ae e2 ?_)
 cases e3:AM c (own i.C) with
 |false=>rw[e3] at e;cases e
 |true=>
  rw[e3] at e
  obtain⟨u,e4,e5⟩:=aG (show AT (i.f c) V.bool? =some b from e)
  rw[lH e3]
  refine⟨rfl,?_⟩
  rw[e4]
  cases u <;> first|(cases e5;exact⟨rfl,rfl⟩)|cases e5
def mK {c f:Nat}{v:V}{w:Value}{b:Bool}(hW:W.Ok)(hk:Id W)(ho:Ok W g h s)(hA:JC 1 A)(fl:JL g c f)(hv:AF g v w)(e:Ei c v h=some b):BR W A (call (.ref f) [w]) (SZ W g h b) s:=by
 obtain⟨params,body,sc,qual,pm,c',ctv,e1,tx,ci⟩:=fl
 obtain⟨x,bn,_,p1,p2,hb,ha,hs,hn,hx⟩:=tx
 subst ha
 refine wpAny_call (codeAny_mono (eE (n:=0) (cf:=Qp) (me:=(Mm [AI x.arg]).bind [v] []) (ps:= [AI x.arg]) hW ho hA e1 ci rfl (.cons _ _ _ hx .nil) (List.nodup_cons.mpr ⟨λz=>(nomatch z),.nil⟩) rfl (.one hv) (dK hs) (λy hy=>(List.mem_singleton.mp hy)▸hn) (λy gy hy=>rfl)
  (λy gy hy=>absurd (List.mem_filter.mpr ⟨aJ hy,rfl⟩) (by rw[(dK hs).free];exact λz=>(nomatch z))) (λy z a U U h1 U=>nomatch h1) (nE (qE hW hk) hb eA (cS hx (by show LE (sc.names.lookup x.arg)=true;rw[hn];rfl))) (Q:=λu h'=>u= .bool b/\h'=h) ?_) λr s' z=> ?_)
 ·show AJ (cond (Nat.beq _ _) _ _) _
  rw[Nat.beq_refl]
  exact kW e
 ·obtain⟨w,s',z⟩:=z
  obtain⟨g',le,h',o,v,r,q⟩:=z
  obtain⟨rfl,rfl⟩:=q
  cases r
  exact .mk g' le s' o
def oe {c F I d f ep:Nat}{l:List (Int×V)}(hW:W.Ok)(hk:Id W)(hh:A.handled=none)(hA:JC 1 A.in1)(hFI:F≠I){r r2:List V}(sk:Gl (JU c d ep l) h r r2):∀ (i:Nat) (g:A8) (s:Shared) (oI:Obj) (Q:Value->Shared->Prop) (E:Value->Shared->Prop),
  r=(l.map (·.2)).drop i->i<=l.length->Ok W g h s->CK h d=some (ep,l)->g.pn F=some (Ff f I)->g.pn I=some oI->Jl "dict_valueiterator" #[.ref d,.int i 0,.int l.length 0,.int ep 0] oI->JL g c f->
  (r2= []->∀ g' s' e,FV (two F I) Ji g g'->Ok W g' h s'->RS s'.heap e->E e s')->
  (∀ v r' g' s' w j o',r2=v::r'->FV (λb=>b=I) Ji g g'->Ok W g' h s'->AF g' v w->r'=(l.map (·.2)).drop j->j<=l.length->g'.pn I=some o'->Jl "dict_valueiterator" #[.ref d,.int j 0,.int l.length 0,.int ep 0] o'->Q w s')->
  wpAny (model W.prog W.w) A.in1 (Builtin.«filter.__next__» ⟨[.ref F],[]⟩) (λfin s'=>match fin with | .done g=>wants Q E (.ok g) s'| .again c'=>c'.quiet=true/\codeAny (model W.prog W.w) A c' (wants Q E) s') (λe s'=>wants Q E (.error e) s') s:=by
 have turn:∀ (v:V) (r:List V) (b:Bool),Ei c v h=some b->∀ (i:Nat) (g:A8) (s:Shared) (oI:Obj) (Q:Value->Shared->Prop) (E:Value->Shared->Prop),v::r=(l.map (·.2)).drop i->Ok W g h s->CK h d=some (ep,l)->g.pn F=some (Ff f I)->g.pn I=some oI->Jl "dict_valueiterator" #[.ref d,.int i 0,.int l.length 0,.int ep 0] oI->JL g c f->
   (∀ g' s' w o',FV (λb=>b=I) Ji g g'->Ok W g' h s'->AF g' v w->r=(l.map (·.2)).drop (i+1)->i+1<=l.length->g'.pn I=some o'->Jl "dict_valueiterator" #[.ref d,.int (i+1:Nat) 0,.int l.length 0,.int ep 0] o'->
    wpAny (model W.prog W.w) A.in1 (if b=true then ret w else again (.builtin "filter.__next__" ⟨[.ref F],[]⟩)) (λfin s'=>match fin with | .done g=>wants Q E (.ok g) s'| .again c'=>c'.quiet=true/\codeAny (model W.prog W.w) A c' (wants Q E) s') (λe s'=>wants Q E (.error e) s') s')->
   wpAny (model W.prog W.w) A.in1 (Builtin.«filter.__next__» ⟨[.ref F],[]⟩) (λfin s'=>match fin with | .done g=>wants Q E (.ok g) s'| .again c'=>c'.quiet=true/\codeAny (model W.prog W.w) A c' (wants Q E) s') (λe s'=>wants Q E (.error e) s') s:=by
  intro v r b hb i g s oI Q E er ho Bt pF pI tI fl k
  obtain⟨kvs,hat,Jj,sz,ns⟩:=ho.BM (aQ Bt)
  have hl:=Jj.length
  have hi:i < l.length:=by
   have :=congrArg List.length er
   rw[List.length_cons,List.length_drop,List.length_map] at this;omega
  have ev:(l.map (·.2))[i]? =some v:=by
   have :=congrArg (λl=>l[0]?) er
   rw[List.getElem?_drop] at this;exact this.symm
  obtain⟨kk,x,e1⟩:∃ kk x,kvs[i]? =some (kk,x):=⟨_,_,List.getElem?_eq_getElem (by rw[hl];exact hi)⟩
  obtain⟨u,e3,rv⟩:=Jj.at_ i kk x e1
  have e3:l[i]? =some (kk,u):=e3
  rw[List.getElem?_map,e3] at ev;cases ev
  have GW:=ho.Dk _ _ pF
  show wpAny _ _ (field (.ref F) 0 >>=_) _ _ s
  refine wpAny_bind (wpAny_field GW rfl (x:= .ref f) rfl ?_)
  show wpAny _ _ (field (.ref F) 1 >>=_) _ _ s
  refine wpAny_bind (wpAny_field GW rfl (x:= .ref I) rfl ?_)
  refine wpAny_bind (pB (knd:=W.ik) ⟨oI,ho.Dk _ _ pI,tI.c,by rw[hl];exact tI.d⟩ hat e1 λhp hit hsb=> ?_)
  obtain⟨o',q1,q2,q3⟩:=hit
  have o1:=ho.pinned (tk:=s.toks) (λb o hb e=>(hsb.2 b hb).trans e) (.inr ⟨_,pI⟩) q1
  refine wpAny_bind (wpAny_holding ?_)
  show wpAny _ _ (if(Value.ref f==Value.none||Value.ref f==Value.type "bool")=true then _ else _) _ _ _
  rw[if_neg (by simp)]
  refine wpAny_bind (wpAny_mono (mK hW hk o1 hA (fl.same rfl) rv.pin hb) (λa s'' z=> ?_) λU U e=>e.elim)
  obtain⟨g2,le,s2,o2⟩:=z
  refine wpAny_holding ?_
  show wpAny _ _ (pure b) _ _ _
  refine wpAny_pure ?_
  rw[hl] at q3
  exact k g2 _ x o' ⟨le.im,λb n=>by rw[le.pn];exact ab _ _ n,λU U=>by rw[le.gn]⟩ o2 (AF.mono le.im _ rv.pin) (by rw[<-List.tail_drop,<-er];rfl) hi (by rw[le.pn];exact aa ..) ⟨q2,q3⟩
 induction sk with
 |nil=>
  intro i g s oI Q E er hi ho Bt pF pI tI fl kn ks
  have e:i=l.length:=by
   have :=congrArg List.length er
   rw[List.length_nil,List.length_drop,List.length_map] at this;omega
  subst e
  obtain⟨kvs,hat,Jj,sz,ns⟩:=ho.BM (aQ Bt)
  have hl:=Jj.length
  have GW:=ho.Dk _ _ pF
  show wpAny _ _ (field (.ref F) 0 >>=_) _ _ s
  refine wpAny_bind (wpAny_field GW rfl (x:= .ref f) rfl ?_)
  show wpAny _ _ (field (.ref F) 1 >>=_) _ _ s
  refine wpAny_bind (wpAny_field GW rfl (x:= .ref I) rfl ?_)
  refine wpAny_bind (sf (knd:=W.ik) hh ⟨oI,ho.Dk _ _ pI,tI.c,by rw[hl];exact tI.d⟩ hat (by rw[List.getElem?_eq_none_iff,hl];exact Nat.le_refl _) λhp e he Gb Bt=> ?_)
  exact kn rfl { g with pn:=Ad g.pn I none } _ e ⟨λU U e=>e,λb n=>ab _ _ (bc n).2,λU U=>rfl⟩ (ho.dropped (tk:=s.toks) (λb o hb q=>he b o hb q) ⟨_,pI⟩) Bt
 |stop v r e=>
  intro i g s oI Q E er hi ho Bt pF pI tI fl kn ks
  refine turn v r true e i g s oI Q E er ho Bt pF pI tI fl λg' s' w o' le o1 rv er' hi' pI' tI'=> ?_
  rw[if_pos rfl]
  exact wpAny_pure (ks v r g' s' w (i+1) o' rfl le o1 rv er' hi' pI' tI')
 |skip v r r2 e _ ih=>
  intro i g s oI Q E er hi ho Bt pF pI tI fl kn ks
  refine turn v r false e i g s oI Q E er ho Bt pF pI tI fl λg' s' w o' le o1 rv er' hi' pI' tI'=> ?_
  rw[if_neg Bool.false_ne_true]
  refine wpAny_pure ⟨plainId_quiet dk _,codeAny_builtin dj ?_⟩
  rw[Around.under_plainId dk _]
  refine ih (i+1) g' s' o' Q E er' hi' o1 Bt ((le.pn F hFI).trans pF) pI' tI' (fl.mono le.im) (λz g2 s2 e l2 o2 st=>kn z g2 s2 e ⟨λU U e=>l2.im _ _ (le.im _ _ e),λb n=>(l2.pn b n).trans (le.pn b (bc n).2),λi n=>(l2.gn i n).trans (le.gn i n)⟩ o2 st) λv' r' g2 s2 w2 j o2' z l2 o2=>ks v' r' g2 s2 w2 j o2' z ⟨λU U e=>l2.im _ _ (le.im _ _ e),λb n=>(l2.pn b n).trans (le.pn b n),λi n=>(l2.gn i n).trans (le.gn i n)⟩ o2
def eH {F I f:Addr}{Q:Value->Shared->Prop}(GW:s.heap.get? F=some (Ff f I))(q:Q (.ref F) s):BR W A (pyIter (.ref F)) Q s:=by
 have EP:s.TypeIs (.ref F) "filter":=⟨_,GW,rfl⟩
 refine wpAny_pyIter_slot EP ji (wpAny_call_entry ji EP h9 ?_ (iP _))
 show wpAny _ _ (ret (.ref F)) _ _ s
 exact wpAny_pure ⟨_,rfl,"filter",_,EP,dM.lookup,q⟩
inductive Og (c F I d f ep:Nat)(l:List (Int×V))(r:List V)(g:A8):Prop
 |mk (i:Nat) (o:Obj) (hi:i<=l.length) (e:r=(l.map (·.2)).drop i) (pF:g.pn F=some (Ff f I)) (pI:g.pn I=some o) (t:Jl "dict_valueiterator" #[.ref d,.int i 0,.int l.length 0,.int ep 0] o) (fl:JL g c f):Og c F I d f ep l r g
def cX {c F I d f ep:Nat}{l:List (Int×V)}{r r2:List V}{R:Option Value->Shared->Prop}(hW:W.Ok)(hk:Id W)(hh:A.handled=none)(hA:JC 1 A.in1)(hFI:F≠I)(st:Og c F I d f ep l r g)(o:Ok W g h s)(Bt:CK h d=some (ep,l))(sk:Gl (JU c d ep l) h r r2)
  (kn:r2= []->∀ g' s',FV (two F I) Ji g g'->Ok W g' h s'->R none s')(ks:∀ v r' w s',r2=v::r'->JF W g h (two F I) Ji (Og c F I d f ep l) v r' w s'->R (some w) s'):BR W A (pyNext (.ref F)) R s:=by
 obtain⟨i,ob,hi,er,pF,pI,t,fl⟩:=st
 have GW:=o.Dk _ _ pF
 have EP:s.TypeIs (.ref F) "filter":=⟨_,GW,rfl⟩
 unfold pyNext
 refine wpAny_bind (wpAny_attempt (wpAny_callSpecial?_slot (name:=Str.ofString "__next__") EP dM (wpAny_call (codeAny_call_builtin dM.plain dj (dM.check _ _ _ _ _ _ _ _ EP (iQ _)
  (oe hW hk hh hA hFI sk i g s ob _ _ er hi o Bt pF pI t fl (λz g' s' e l2 o2 st=> ?_) λv r' g' s' w j o' z l2 o2 rv er' hi' pI' t'=> ?_))))))
 ·obtain⟨a,o,rfl,q1,q2⟩:=st
  refine wpAny_bind (wpAny_isInstance (T:="StopIteration") (b:=true) ⟨_,q1,q2⟩ isSubtype_stop ?_)
  exact wpAny_pure (kn z g' _ l2 o2)
 ·exact wpAny_pure (ks v r' w s' z ⟨g',⟨l2.im,λb n=>l2.pn b (bc n).2,l2.gn⟩,o2,rv,.mk j o' hi' er' ((l2.pn F hFI).trans pF) pI' t' (fl.mono l2.im)⟩)
def pE {c F I d f ep:Nat}{l:List (Int×V)}(hW:W.Ok)(hk:Id W)(hh:A.handled=none)(hA:JC 1 A.in1)(hFI:F≠I):NH W A tg (.ref F) (JU c d ep l) (two F I) Ji (Og c F I d f ep l) where
 keep st k p _:=by cases st with |mk i o hi er pF pI t fl=>exact .mk i o hi er ((p _ (.inl rfl)).trans pF) ((p _ (.inr rfl)).trans pI) t (fl.mono k)
 self _ st o Bt q:=by cases st with |mk i ob hi er pF pI t fl=>exact eH (o.Dk _ _ pF) q
 next:=λ {r r2 g h s R} st o Bt sk kn ks=>cX hW hk hh hA hFI st o Bt sk kn λv r' w s' z t=>ks v r' w s' z (by
  obtain⟨g',le,o',rv,st'⟩:=t
  obtain⟨i,ob,hi,er,pF,pI,t,fl⟩:=st'
  exact cj (o'.Dk _ _ pF) rfl (by decide+kernel) (.mk g' le o' rv (.mk i ob hi er pF pI t fl)))
theorem Ok.Vm (ho:Ok W g h s){c a y d ep m:Nat}{f:Addr}{oy:Obj}(e:h a=some (.Gz c y d ep m))(w:h y=some (.own a))(ea:s.heap.get? a=some (Ff f y))(ey:s.heap.get? y=some oy):Ok W ((g.pin y oy).pin a (Ff f y)) (KS h a y) s/\a≠y:=by
 have na:=ho.sep a _ e
 have ny:=ho.sep y _ w
 have ne:a≠y:=λz=>by rw[z,w] at e;cases e
 refine⟨ho.go (two a y) (λU U e=>e) (λU U U e=>e) (λb o q=> .inl ⟨q,λz=>z.elim (λz=>aj na.1 (z▸q)) λz=>aj ny.1 (z▸q)⟩) (λb o q=> ?_) (λb o q=> ?_) (λb hb z=>z.elim (λz=>na.2.2 (z▸hb)) λz=>ny.2.2 (z▸hb)) rfl ho.gens ho.Ii,ne⟩
 ·rcases fg ea ey b o q with z|z
  ·exact⟨z.1.elim (λq=>q▸na.1) λq=>q▸ny.1,.inr ⟨z.1,z.2,z.1.elim (λq=>q▸na.2.2) λq=>q▸ny.2.2⟩⟩
  ·exact⟨(ho.Dz b o z.2).1,.inl ⟨z.2,z.1⟩⟩
 ·have q:Ad (Ad h a none) y none b=some o:=q
  by_cases z:b=y
  ·subst z;rw[aa] at q;cases q
  ·rw[ab _ _ z] at q
   by_cases z2:b=a
   ·subst z2;rw[aa] at q;cases q
   ·rw[ab _ _ z2] at q
    refine .inl ⟨λt=>t.elim z2 z,q,λx hx=> ?_⟩
    have r:=ho.obj b o q
    have hxo:h x=some (.own b):=by cases r <;> cases hx <;> assumption
    have n1:x≠a:=λt=>by subst t;rw[e] at hxo;cases hxo
    have n2:x≠y:=λt=>by subst t;rw[w] at hxo;cases hxo;exact z2 rfl
    exact⟨λt=>t.elim n1 n2,(ab _ _ n2).trans (ab _ _ n1)⟩
inductive S0 (W:Bl)(g:A8)(h:H)(s:Shared)(c a y d ep n:Nat):Prop
 |mk (f:Addr) (o:Ok W ((g.pin y { cls:= .type "dict_valueiterator",data:= .fields #[.ref d,.int 0 0,.int n 0,.int ep 0] }).pin a (Ff f y)) (KS h a y) s) (ne:a≠y) (fl:JL g c f) (GW:s.heap.get? a=some (Ff f y)):S0 W g h s c a y d ep n
theorem Ok.Tp (ho:Ok W g h s){c a y d ep n:Nat}(e:h a=some (.Gz c y d ep n)):S0 W g h s c a y d ep n:=by
 have r:=ho.obj a _ e
 cases r with |Gz _ _ _ _ _ f ea w ey fl
 obtain⟨o,ne⟩:=ho.Vm e w ea ey
 exact .mk f o ne fl ea
def sd {a y b:Addr}{pn:Addr->Option Obj}{oa oy:Obj}(ne:a≠y)(z:two a y b):∃ o,Ad (Ad pn y (some oy)) a (some oa) b=some o:=by
 rcases z with rfl|rfl
 ·exact⟨_,aa ..⟩
 ·exact⟨_,(ab _ _ ne.symm).trans (aa ..)⟩
def vd {n:Nat}(hW:W.Ok)(hk:Id W):Q3 W (n+1) tg:=λ {A g h s c a y d ep m Q} hA ho e q=>by
 refine ao q λp ep' q2=> ?_
 obtain⟨⟨rfl,rfl⟩,q2⟩:=q2
 obtain⟨f,o,ne,fl,GW⟩:=ho.Tp e
 have sa:=ho.sep a _ e
 have sy:g.im y=none/\g.pn y=none/\ ¬ EY W y:=by
  have r:=ho.obj a _ e
  cases r with |Gz _ _ _ _ _ f ea w ey fl=>exact ho.sep y _ w
 have w1:=Ft.w1 hA
 refine eH GW (IJ.mk _ (two a y) Ji ?_ ?_ (λU b z=>sd ne z) (λU z=>z.elim) _ o (JU c d p.1 p.2) _ (pE hW hk hA.handled ⟨hA.handled,by have :=w1.depth;omega,by have :=w1.units;omega⟩ ne) (.mk 0 _ (Nat.zero_le _) rfl (aa ..) ((ab _ _ ne.symm).trans (aa ..)) ⟨rfl,rfl⟩ (fl.same rfl)) q2)
 ·exact⟨λU U e=>e,λb n=>(ab _ _ (bc n).1).trans (ab _ _ (bc n).2),λU U=>rfl⟩
 ·exact λb z=>z.elim (λz=>z▸⟨sa.2.1,sa.1⟩) λz=>z▸⟨sy.2.1,sy.1⟩
end
section
variable {W:Bl}{n:Nat}{nm:DI}{cf:Cc}{A:Around}{env:PySem.Env}{me:AZ}{g g':A8}{h h':H}{s s':Shared}
def qC:isSubtype (.type "filter") (.type "filter")=pure true:=by rw[isSubtype_type];kernel_rfl
def j3 {f V d:Addr}{kvs:List (Int×Value)}{ep:Nat}{Q:Value->Shared->Prop}(hV:s.heap.get? V=some { cls:= .type "dict_values",data:= .fields #[.ref d] })(hm:s.heap.DictAt W.ik d kvs ep)
  (h:∀ h',h'.get? s.heap.objs.size=some { cls:= .type "dict_valueiterator",data:= .fields #[.ref d,.int 0 0,.int kvs.length 0,.int ep 0] }->h'.get? (s.heap.objs.size+1)=some (Ff f s.heap.objs.size)->(∀ b o,s.heap.get? b=some o->h'.get? b=some o)->
   Q (.ref (s.heap.objs.size+1)) { s with heap:=h' }):BR W A (call (.type "filter") [.ref f,.ref V] []) Q s:=by
 refine callType_codes (Q₁:=λobj s₁=>s₁.TypeIs obj "filter"/\Q obj s₁) dL (jj _ _) PySem.F.entry_object_init ?_ λobj s₁ h₁=>⟨h₁.1,PySem.F.args_object_init_3 obj _ _,object_init_meets dL.init.lookup dL.made (by decide) W.prog W.w A.in1 _ s₁ ⟨h₁.1,rfl,h₁.2⟩⟩
 refine codeAny_of_tree ?_
 show wpAny _ A.in1.in1 (do checkBuiltinCall "filter.__new__" ⟨[.type "filter",.ref f,.ref V],[]⟩;again (.builtin "filter.__new__" ⟨[.type "filter",.ref f,.ref V],[]⟩)) _ _ s
 refine wpAny_bind (wpAny_of_eq (j5 _ _) (wpAny_pure ⟨plainId_quiet (by decide+kernel) _,codeAny_builtin iR ?_⟩))
 rw[Around.under_plainId (by decide+kernel) _]
 have hsub:=qC
 unfold Builtin.«filter.__new__» Builtin.SmallTypes.newClass
 have hIV:s.heap.IsValuesView V d:=⟨_,hV,rfl,rfl⟩
 wp_walk using wpAny_pyIter_values (knd:=W.ik) hIV hm
 have e1:(s.heap.push { cls:= .type "dict_valueiterator",data:= .fields #[.ref d,.int 0 0,.int kvs.length 0,.int ep 0] }).objs.size=s.heap.objs.size+1:=Heap.size_push ..
 have e2:((s.heap.push { cls:= .type "dict_valueiterator",data:= .fields #[.ref d,.int 0 0,.int kvs.length 0,.int ep 0] }).push (Ff f s.heap.objs.size)).get? (s.heap.objs.size+1)=some (Ff f s.heap.objs.size):=by
  rw[<-e1];exact Heap.get?_push_size _ rfl
 refine⟨?_,?_⟩
 ·rw[e1];exact⟨_,e2,rfl⟩
 ·rw[e1]
  exact h _ (Heap.get?_push_of_some _ (Heap.get?_push_size _ rfl)) e2 λb o e=>Heap.get?_push_of_some _ (Heap.get?_push_of_some _ e)
def pK {f:Value}{pos:Pos}{x y:PySem.Expr}{Q:Value->Shared->Prop}(hx:DA x)(hy:DA y)(h:BR W A (eval x env) (λw s₁=>BR W A (eval y env) (λu s₂=>Ki W f s₂.heap/\BR W A (call f [w,u] []) Q s₂) s₁) s):
  BR W A (callWith pos f [] (backTo pos (starEach [x,y] env)) (backToKw pos (keywordEach [] env))) Q s:=by
 refine callWith_of (P:=Ki W f) (by rw[hx,hy];rfl) (λU z=>z) ?_
 refine evalArgs_kw2 (cQ rfl) ?_ (hx _ _)
 refine wpAny_items_cons (ai h λw s₁ z=> ?_) (hx _ _)
 refine wpAny_items_cons (ai z λu s₂ z=> ?_) (hy _ _)
 exact wpAny_items_nil (wpAny_evalAll_nil z)
inductive RV (W:Bl)(g:A8)(Q:Nat->Nat×List (Int×V)->H->Prop):Value->Shared->Prop
 |mk (g':A8) (le:HV g g') (h':H) (s':Shared) (o:Ok W g' h' s') (V d:Addr) (p:Nat×List (Int×Mi.V)) (e:CK h' d=some p) (eV:s'.heap.get? V=some { cls:= .type "dict_values",data:= .fields #[.ref d] }) (q:Q d p h'):RV W g Q (.ref V) s'
def o8 {m:A4}{o:PySem.Expr}{ap pos:Pos}{Q:Nat->Nat×List (Int×V)->H->Prop}(hb:FG o)(hline:(ap.endLine==pos.line)=true)(h1:Bw W cf n nm m o)(a:DT W n nm A env me g h s)(q:m cf me (λx h=>AJ x.ref? λd=>AJ (CK h d) λp=>Q d p h) h):
  BR W A (eval (.Call (.Attribute o "values" ap) [] [] pos) env) (RV W g Q) s:=
 bE (ms:=As) (R:=λx vs h=>vs= []/\AJ x.ref? λd=>AJ (CK h d) λp=>Q d p h) a PySem.F.plainAttrs_dict PySem.F.slot_dict_values di hb (Nat.lt_of_sub_eq_succ rfl) hline h1 .nil q
  (λ {g' h' s' x w} ho r q=>by
   cases x with
   |ref b=>
    obtain⟨⟩:=r
    obtain⟨p,e,q2⟩:=bh (o:=CK h' b) q
    exact⟨eM ho e,rfl,q⟩
   |_=>exact q.elim) λ {g' h' s' x w vs ws} le o r rs q=>by
  obtain⟨rfl,q⟩:=q
  obtain⟨⟩:=rs
  refine Fb r q λa0 q=> ?_
  refine ao q λp e q=> ?_
  obtain⟨kvs,hat,Jj,sz,ns⟩:=o.BM (aQ e)
  refine call_meetsIn PySem.F.slot_dict_values hat.dictOf.typeIs PySem.F.entry_dict_values (PySem.F.args_dict_values_1 _) (meets_dict_values W.ik _ ns) ⟨⟨kvs,hat.dictOf⟩,?_⟩
  exact .mk g' le h' _ (o.grown (tk:=s'.toks) λb o e=>Heap.get?_push_of_some _ e) _ a0 p e (Heap.get?_push_size _ rfl) q
def cW:HN "filter" (.type "filter"):=⟨by decide+kernel,by decide+kernel,λU h=>nomatch h⟩
def nW:HN "tuple" (.type "tuple"):=⟨by decide+kernel,by decide+kernel,λU h=>nomatch h⟩
def ON (c:Nat)(m:A4):A4:=λcf e Q h=>m cf e (λx h=>AJ x.ref? λd=>AJ (CK h d) λp=>∀ a y,a≠y->h a=none->h y=none->Q (.ref a) (Ad (Ad h a (some (.Gz c y d p.1 p.2.length))) y (some (.own a)))) h
def ue {f c:Nat}{m:A4}{o:PySem.Expr}{p ap vp lp pos:Pos}{params:Arguments}{body:PySem.Expr}{sc:Scope}(hh:DC W n cf)(hg:nm.f=some f)(hM:IG W f lp "<lambda>")(hk:nm.lookup ("filter":Str)=some .globalImplicit)(tx:Od c params body sc)
  (hb:FG o)(hline:(ap.endLine==vp.line)=true)(h1:Bw W cf n nm m o):
  Bw W cf n nm (ON c m) (.Call (.Name "filter" p) [.Lambda params body sc lp,.Call (.Attribute o "values" ap) [] [] vp] [] pos):=λA env me g h s Q a q=>by
 refine wpAny_Call_Name_kw (dg hh.w a.ok a.BL (a.kind hk) (mg_none_of hh.w.K hh.w.g (hh.k.bi _ cW.mem)) cW.boot (fF cW.mem).1 (fF cW.mem).2 ?_)
 refine pK (λU U=>rfl) (λU U=>rfl) ?_
 have hd:defaultsOf params env=([],[]):=by cases tx;rfl
 have hs:Lw sc=true:=by cases tx;assumption
 refine ai (ge hh.w a hg hM hd (jd (dK hs).free)) λw s₁ z=> ?_
 obtain⟨g1,le,s₁,o1,fa,pm,c',ctv,e,ci⟩:=z
 refine ai (o8 hb hline h1 (a.step le o1) q) λw s₂ z=> ?_
 obtain⟨g2,le2,h2,s₂,o2,V,d,p,ep,eV,q⟩:=z
 refine⟨gM λU h=>(nomatch h),?_⟩
 obtain⟨kvs,hat,Jj,sz,ns⟩:=o2.BM (aQ ep)
 refine j3 (f:=fa) eV hat λhp eI eF hk'=> ?_
 have n1:s₂.heap.get? (s₂.heap.objs.size+1)=none:=Heap.get?_none_of_le (Nat.le_succ _)
 have ne:s₂.heap.objs.size+1≠s₂.heap.objs.size:=Nat.succ_ne_self _
 rw[Jj.length] at eI
 exact IF.after (le.trans le2) ⟨g2,.refl g2,_,o2.new2 (tk:=s₂.toks) hk' n1 (al _) ne ⟨_,eI⟩ (.Gz c _ d p.1 p.2.length fa eF (aa ..) eI (.mk params body sc _ pm c' ctv (le2.im _ _ e) tx (ci.mono le2.im))),_,iM _,q _ _ ne (o2.fresh n1).1 (o2.fresh (al _)).1⟩
def HU (src:Ci)(h:H)(r:List V):Option (List V):= @List.rec V (λU=>Option (List V)) (some []) (λv U ih=>AT (src.ok v h) λb=>AT ih λl=>some (cond b (v::l) l)) r
inductive PJ (src:Ci)(h:H)(r:List V):List V->Prop
 |none (k:Gl src h r []):PJ src h r []
 |some (v:V) (r' out:List V) (k:Gl src h r (v::r')) (l:r'.length < r.length) (e:HU src h r'=some out):PJ src h r (v::out)
def kI {src:Ci}:∀ {r out:List V},HU src h r=some out->PJ src h r out
 | [],_,e=>by cases e;exact .none .nil
 |v::r,out,e=>by
  obtain⟨b,e1,e⟩:=aG (show AT (src.ok v h) _=some out from e)
  refine aI e λl e2 e=> ?_
  cases b with
  |true=>cases e;exact .some v r l (.stop v r e1) (Nat.lt_succ_self _) e2
  |false=>
   cases e
   cases kI (r:=r) e2 with
   |none k=>exact .none (.skip v r _ e1 k)
   |some v' r' out k l e'=>exact .some v' r' out (.skip v r _ e1 k) (Nat.lt_succ_of_lt l) e'
end
section
variable {W:Bl}{n:Nat}{A:Around}{g g':A8}{h h':H}{s s':Shared}{c F I d f ep:Nat}{l:List (Int×V)}
def ly:typeLookup (.type "filter") "__len__"=pure none:=by rw[typeLookup_type,builtinLookup_eq_fast];kernel_rfl
def j6:typeLookup (.type "filter") "__length_hint__"=pure none:=by rw[typeLookup_type,builtinLookup_eq_fast];kernel_rfl
abbrev Vy (S F I:Addr):Addr->Prop:=λb=>b=S\/two F I b
theorem AE.same {vs:List V}{ws:List Value}(r:AE g vs ws)(e:g'.im=g.im):AE g' vs ws:=AE.mono (λa o q=>by rw[e];exact q) vs r
inductive Oa (W:Bl)(g:A8)(h:H)(S F I:Addr)(us:List V)(s':Shared):Prop
 |mk (g':A8) (le:FV (Vy S F I) Ji g g') (o:Ok W g' h s') (acc:Array Value) (c:Nat) (e:g'.pn S=some (listOf acc c)) (r:AE g' us acc.toList):Oa W g h S F I us s'
def lu {S:Addr}{res:Value}{R:Result->Shared->Prop}(hW:W.Ok)(hk:Id W)(hh:A.handled=none)(hA:JC 1 A.in1.in1)(hFI:F≠I)(hSF:S≠F)(hSI:S≠I):∀ (k:Nat) (r:List V) (g:A8) (s:Shared) (us out:List V) (acc:Array Value) (cc:Nat),r.length<=k->Og c F I d f ep l r g->Ok W g h s->CK h d=some (ep,l)->
  g.pn S=some (listOf acc cc)->AE g us acc.toList->us.length+r.length<=lim->HU (JU c d ep l) h r=some out->(∀ s',Oa W g h S F I (us++out) s'->R (.ok (.ret res)) s')->codeAny (model W.prog W.w) A (.builtin "list.extend.loop" ⟨[.ref S,.ref F,res],[]⟩) R s:=by
 intro k
 induction k with
 |zero=>
  intro r g s us out acc cc hk' st o Bt pS rv hl e Bj
  have :r= []:=List.length_eq_zero_iff.mp (Nat.le_zero.mp hk')
  subst this
  rcases e with ⟨⟩
  refine codeAny_builtin PySem.F.entry_extend_loop ?_
  rw[Around.under_plainId PySem.F.plain_extend_loop _]
  show wpAny _ A.in1 (pyNext (.ref F) >>=_) _ _ s
  refine wpAny_bind (wpAny_mono (cX (R:=λv s'=>v=none/\Oa W g h S F I (us++ []) s') hW hk hh hA hFI st o Bt .nil (λU g' s' le o'=>⟨rfl,.mk g' ⟨le.im,λb n=>le.pn b λz=>n (.inr z),le.gn⟩ o' acc cc ((le.pn S λz=>z.elim hSF hSI).trans pS) (by rw[List.append_nil];exact AE.mono le.im _ rv)⟩) λv r' w s' z=>nomatch z) (λv s' z=> ?_) λU U e=>e.elim)
  obtain⟨rfl,z⟩:=z
  exact wpAny_pure (Bj s' z)
 |succ k ih=>
  intro r g s us out acc cc hk' st o Bt pS rv hl e Bj
  refine codeAny_builtin PySem.F.entry_extend_loop ?_
  rw[Around.under_plainId PySem.F.plain_extend_loop _]
  show wpAny _ A.in1 (pyNext (.ref F) >>=_) _ _ s
  cases kI e with
  |none kk=>
   refine wpAny_bind (wpAny_mono (cX (R:=λv s'=>v=none/\Oa W g h S F I (us++ []) s') hW hk hh hA hFI st o Bt kk (λU g' s' le o'=>⟨rfl,.mk g' ⟨le.im,λb n=>le.pn b λz=>n (.inr z),le.gn⟩ o' acc cc ((le.pn S λz=>z.elim hSF hSI).trans pS) (by rw[List.append_nil];exact AE.mono le.im _ rv)⟩) λv r' w s' z=>nomatch z) (λv s' z=> ?_) λU U e=>e.elim)
   obtain⟨rfl,z⟩:=z
   exact wpAny_pure (Bj s' z)
  |some v r' out kk ll e'=>
   refine wpAny_bind (wpAny_mono (cX (R:=λx s'=>∃ w,x=some w/\JF W g h (two F I) Ji (Og c F I d f ep l) v r' w s') hW hk hh hA hFI st o Bt kk (λz=>nomatch z) λv' r'' w s' z t=>by rcases z with ⟨⟩;exact⟨w,rfl,t⟩) (λx s' z=> ?_) λU U e=>e.elim)
   obtain⟨w,rfl,z⟩:=z
   obtain⟨g1,le,o1,rv1,st1⟩:=z
   have pS1:=(le.pn S λz=>z.elim hSF hSI).trans pS
   have hS1:=o1.Dk _ _ pS1
   have len:acc.size=us.length:=by have :=rv.length;simpa using this
   have ls:=bw
   show wpAny _ A.in1 (updateSeq S (·.push w) >>=_) _ _ _
   refine wpAny_bind (wpAny_updateSeq hS1 rfl (wpAny_pure ⟨plainId_quiet PySem.F.plain_extend_loop _,?_⟩) (by rw[len];omega) (by show(acc.push w).size<=sizeLine+1;rw[Array.size_push,len];omega))
   have hS2:=Heap.get?_update_self (Obj.mapSeq λx=>x.push w) hS1 rfl
   have o2:=o1.pinned (tk:=s'.toks) (λb ob n e=>(Heap.get?_update_other _ _ (Ne.symm n)).trans e) (.inr ⟨_,pS1⟩) hS2
   refine ih r' _ _ (us++ [v]) out (acc.push w) _ (by omega) ?_ o2 Bt (aa ..) ?_ ?_ e' λs'' z=>Bj s'' ?_
   ·obtain⟨i,ob,hi,er,pF,pI,t,fl⟩:=st1
    exact .mk i ob hi er ((ab _ _ hSF.symm).trans pF) ((ab _ _ hSI.symm).trans pI) t (fl.same rfl)
   ·have :=(AE.mono le.im _ rv).append (AE.one rv1)
    rw[Array.toList_push]
    exact this.same rfl
   ·rw[List.length_append];show us.length+1+_<=_;omega
   ·obtain⟨g2,l2,o3,acc',c',e2,r3⟩:=z
    rw[List.append_assoc] at r3
    exact .mk g2 ⟨λU U e=>l2.im _ _ (le.im _ _ e),λb n=>(l2.pn b n).trans ((ab _ _ λz=>n (.inl z)).trans (le.pn b λz=>n (.inr z))),λi n=>(l2.gn i n).trans (le.gn i n)⟩ o3 acc' c' e2 r3
end
section
variable {W:Bl}{n:Nat}{A:Around}{g g':A8}{h h':H}{s s':Shared}{c F I d f ep:Nat}{l:List (Int×V)}
def iI {src:Ci}:∀ {r out:List V},HU src h r=some out->out.length<=r.length
 | [],_,e=>by cases e;exact Nat.le_refl _
 |v::r,out,e=>by
  obtain⟨b,e1,e⟩:=aG (show AT (src.ok v h) _=some out from e)
  refine aI e λl e2 e=> ?_
  have :=iI e2
  cases b <;> cases e
  ·exact Nat.le_succ_of_le this
  ·exact Nat.succ_le_succ this
def lK {src:Ci}{p:List (Int×V)}{out:List V}(e:HU src h (p.map (·.2))=some out)(hl:p.length<=lim):out.length<=lim:=by
 have :=iI e
 rw[List.length_map] at this;omega
inductive Oe (W:Bl)(g:A8)(h:H)(F I:Addr)(us:List V):List Value->Shared->Prop
 |mk (g':A8) (le:FV (two F I) Ji g g') (s':Shared) (o:Ok W g' h s') (ws:List Value) (r:AE g' us ws):Oe W g h F I us ws s'
def j4 {out:List V}(hW:W.Ok)(hk:Id W)(hh:A.handled=none)(hA:JC 1 A.in1.in1)(hFI:F≠I)(st:Og c F I d f ep l (l.map (·.2)) g)(ho:Ok W g h s)(Bt:CK h d=some (ep,l))(e:HU (JU c d ep l) h (l.map (·.2))=some out)(hl:l.length<=lim):
  BR W A (collect (.ref F)) (Oe W g h F I out) s:=by
 have GW:s.heap.get? F=some (Ff f I):=by cases st with |mk i ob hi er pF pI t fl=>exact ho.Dk _ _ pF
 have pFI:(∃ o,g.pn F=some o)/\∃ o,g.pn I=some o:=by cases st with |mk i ob hi er pF pI t fl=>exact⟨⟨_,pF⟩,_,pI⟩
 have fS:=ho.fresh (al s.heap)
 have hSF:s.heap.objs.size≠F:=λq=>let⟨o,e⟩:=pFI.1;aj fS.2.2.1 (q▸e)
 have hSI:s.heap.objs.size≠I:=λq=>let⟨o,e⟩:=pFI.2;aj fS.2.2.1 (q▸e)
 unfold collect
 refine wpAny_bind (wpAny_runValue (codeAny_builtin PySem.F.entry_proto_collect ?_))
 rw[Around.under_plainId PySem.F.plain_proto_collect _]
 unfold Builtin.«proto.collect»
 refine wpAny_bind (wpAny_newObj_type (wpAny_pure ⟨plainId_quiet PySem.F.plain_list_iadd _,codeAny_builtin PySem.F.entry_list_iadd ?_⟩))
 rw[Around.under_plainId PySem.F.plain_list_iadd _]
 have g0:(s.heap.push { cls:= .type "list",data:= .seq ([]:List Value).toArray }).get? s.heap.objs.size=some { cls:= .type "list",data:= .seq ([]:List Value).toArray }:=Heap.get?_push_size _ rfl
 have hF0:(s.heap.push { cls:= .type "list",data:= .seq ([]:List Value).toArray }).get? F=some (Ff f I):=Heap.get?_push_of_some _ GW
 have hne:Builtin.List.listSameRef (.ref s.heap.objs.size) (.ref F)=false:=by simp [Builtin.List.listSameRef,hSF]
 have tI:({ s with heap:=s.heap.push { cls:= .type "list",data:= .seq ([]:List Value).toArray } }:Shared).TypeIs (.ref F) "filter":=⟨_,hF0,rfl⟩
 show wpAny _ _ (Builtin.List.listExtendWith (.ref s.heap.objs.size) (.ref F) (.ref s.heap.objs.size)) _ _ _
 unfold Builtin.List.listExtendWith
 refine wpAny_bind (wpAny_typeOf tI ?_)
 rw[if_neg (by rw[hne];decide)]
 refine wpAny_bind (eH (W:=W) hF0 (wpAny_bind (wpAny_holding ?_))|> λt=>wpAny_mono t (λU U z=>z) λU U e=>e.elim)
 unfold Builtin.List.listLengthHint
 refine wpAny_bind (wpAny_specialOf tI ly ?_)
 show wpAny _ A.in1 (specialOf (Value.ref F) (Str.ofString "__length_hint__") >>=_) _ _ _
 refine wpAny_bind (wpAny_specialOf tI j6 (wpAny_pure ?_))
 show wpAny _ A.in1 (rule "list.extend.makes-room" >>=λU=>Builtin.List.listTouch (.ref s.heap.objs.size) >>=λU=>again (.builtin "list.extend.loop" ⟨[.ref s.heap.objs.size,.ref F,.ref s.heap.objs.size],[]⟩)) _ _ _
 refine wpAny_bind (wpAny_rule (wpAny_bind ?_))
 show wpAny _ A.in1 (updateSeq s.heap.objs.size (·.push .none) >>=λU=>updateSeq s.heap.objs.size (·.pop)) _ _ _
 refine wpAny_bind (wpAny_updateSeq g0 rfl ?_)
 have g1:=Heap.get?_update_self (Obj.mapSeq λx=>x.push Value.none) g0 rfl
 refine wpAny_updateSeq g1 rfl ?_
 have g2:=Heap.get?_update_self (Obj.mapSeq λx=>x.pop) g1 rfl
 have o1:=ho.pinned (tk:=s.toks) (λb o n e=>(Heap.get?_update_other _ _ (Ne.symm n)).trans ((Heap.get?_update_other _ _ (Ne.symm n)).trans (Heap.get?_push_of_some _ e))) (.inl (al _)) g2
 refine wpAny_pure ⟨plainId_quiet PySem.F.plain_extend_loop _,lu (f:=f) hW hk hh hA hFI hSF hSI l.length (l.map (·.2)) (g.pin s.heap.objs.size _) _ [] out _ _ (by rw[List.length_map];exact Nat.le_refl _) ?_ o1 Bt (aa ..) .mk (by rw[List.length_map,List.length_nil];omega) e λs' z=> ?_⟩
 ·obtain⟨i,ob,hi,er,pF,pI,t,fl⟩:=st
  exact .mk i ob hi er ((ab _ _ hSF.symm).trans pF) ((ab _ _ hSI.symm).trans pI) t (fl.same rfl)
 ·obtain⟨g2,le,o2,acc,cc,e2,r⟩:=z
  show wpAny _ A (load s.heap.objs.size >>=_) _ _ s'
  refine wpAny_bind (wpAny_load (o2.Dk _ _ e2) (wpAny_pure ?_))
  have pS:∀ b o,Ad g2.pn s.heap.objs.size none b=some o->g2.pn b=some o:=λb o e=>by
   by_cases z:b=s.heap.objs.size
   ·subst z;rw[aa] at e;cases e
   ·rw[ab _ _ z] at e;exact e
  refine Oe.mk (g:=g) ⟨g2.im,Ad g2.pn s.heap.objs.size none,g2.gn⟩ ⟨λU U e=>le.im _ _ e,λb n=> ?_,λi n=>le.gn i n⟩ s' (o2.Nm pS λU U e=>e) _ (r.same rfl)
  by_cases z:b=s.heap.objs.size
  ·subst z;exact(aa ..).trans fS.2.2.1.symm
  ·exact(ab _ _ z).trans ((le.pn b λq=>q.elim z n).trans (ab _ _ z))
def gZ {out:List V}{Q:Value->Shared->Prop}(hW:W.Ok)(hk:Id W)(hh:A.handled=none)(hA:JC 1 A.in1.in1.in1.in1)(hFI:F≠I)(st:Og c F I d f ep l (l.map (·.2)) g)(ho:Ok W g h s)(Bt:CK h d=some (ep,l))(e:HU (JU c d ep l) h (l.map (·.2))=some out)(hl:l.length<=lim)(ol:out.length<=lim)
  (hQ:∀ g' s' ws,FV (two F I) Ji g g'->Ok W g' h s'->AE g' out ws->Q (.ref s'.heap.objs.size) { s' with heap:=s'.heap.push { cls:= .type "tuple",data:= .seq ws.toArray } }):BR W A (call (.type "tuple") [.ref F]) Q s:=by
 have GW:s.heap.get? F=some (Ff f I):=by cases st with |mk i ob hi er pF pI t fl=>exact ho.Dk _ _ pF
 refine callType_codes (Q₁:=λobj s₁=>s₁.TypeIs obj "tuple"/\Q obj s₁) PySem.F.called_tuple (PySem.F.typeCall_tuple_1 _) PySem.F.entry_object_init ?_ λobj s₁ h₁=>
  ⟨h₁.1,PySem.F.args_object_init_2 obj _,object_init_meets PySem.F.called_tuple.init.lookup PySem.F.called_tuple.made (by decide) W.prog W.w A.in1 _ s₁ ⟨h₁.1,rfl,h₁.2⟩⟩
 refine codeAny_of_tree ?_
 show wpAny _ A.in1.in1 (do checkBuiltinCall "tuple.__new__" ⟨[.type "tuple",.ref F],[]⟩;again (.builtin "tuple.__new__" ⟨[.type "tuple",.ref F],[]⟩)) _ _ s
 refine wpAny_bind (wpAny_of_eq (PySem.F.newCall_tuple_1 _) (wpAny_pure ⟨plainId_quiet PySem.F.plain_tuple_new _,codeAny_builtin PySem.F.entry_tuple_new ?_⟩))
 rw[Around.under_plainId PySem.F.plain_tuple_new _]
 have hsub:=sub_tuple_self
 have hinit:=init_tuple_lookup
 have hmh:=madeHere_tuple
 have hTI:s.TypeIs (.ref F) "filter":=⟨_,GW,rfl⟩
 have col:∀ {Q:List Value->Shared->Prop} {E:Value->Shared->Prop},(∀ ws s',Oe W g h F I out ws s'->Q ws s')->wpAny (model W.prog W.w) A.in1.in1 (collect (.ref F)) Q E s:=λk=>wpAny_mono (j4 hW hk hh hA hFI st ho Bt e hl) k λU U e=>e.elim
 wp_walk using wpAny_typeOf hTI,col
 intro ws s' z
 obtain⟨g',le,s',o',ws,r⟩:=z
 refine wpAny_bind (wpAny_pure ?_)
 show wpAny _ _ (Builtin.Tuple.tupleExact ws.toArray >>=λv=>ret v) _ _ _
 unfold Builtin.Tuple.tupleExact
 refine wpAny_bind (wpAny_newObj_type (wpAny_pure ⟨⟨_,Heap.get?_push_size _ rfl,rfl⟩,hQ g' s' ws le o' r⟩) ?_)
 have :=r.length
 have :=bw
 show ws.toArray.size<=sizeLine
 rw[List.size_toArray];omega
def L4 (x:V):M V:=λQ h=>AJ x.ref? λa=>match h a with
 |some (.Gz c y d ep n)=>AJ (CK h d) λp=>(p.1=ep/\p.2.length=n)/\AJ (HU (JU c d p.1 p.2) (KS h a y) (p.2.map (·.2))) λout=>Q (.tup out) (KS h a y)
 |_=>False
def rZ (hW:W.Ok)(hk:Id W):∀ {k A g h s Q x w},Ft (k+1) A->Ok W g h s->AF g x w->L4 x Q h->BR W A (call (.type "tuple") [w]) (IF W g Q) s:=λ {k A g h s Q x w} hA ho hx q=>by
 refine Fb hx q λa q=> ?_
 cases e:h a with
 |none=>rw[e] at q;exact q.elim
 |some ob=>
  rw[e] at q
  cases ob with
  |Gz c y d ep n=>
   refine ao q λp ep' q2=> ?_
   obtain⟨⟨rfl,rfl⟩,q2⟩:=q2
   refine ao q2 λout eo q3=> ?_
   obtain⟨f,o,ne,fl,GW⟩:=ho.Tp e
   have hd:=aQ ep'
   have hy:h y=some (.own a):=by
    have r:=ho.obj a _ e
    cases r with |Gz _ _ _ _ _ f ea w ey fl=>exact w
   have Bt:CK (KS h a y) d=some p:=by
    have n1:d≠a:=λz=>by rw[z,e] at hd;cases hd
    have n2:d≠y:=λz=>by rw[z,hy] at hd;cases hd
    show AT (Ad (Ad h a none) y none d) O.Sz=_
    rw[ab _ _ n2,ab _ _ n1];exact ep'
   have hl:p.2.length<=lim:=by
    obtain⟨kvs,hat,Jj,sz,ns⟩:=ho.BM hd
    rw[<-Jj.length];exact sz
   have pFI:g.pn a=none/\g.pn y=none:=⟨(ho.sep a _ e).2.1,(ho.sep y _ hy).2.1⟩
   have w1:=Ft.w1 hA
   have st0:Og c a y d f p.1 p.2 (p.2.map (·.2)) ((g.pin y { cls:= .type "dict_valueiterator",data:= .fields #[.ref d,.int 0 0,.int p.2.length 0,.int p.1 0] }).pin a (Ff f y)):= .mk 0 _ (Nat.zero_le _) rfl (aa ..) ((ab _ _ ne.symm).trans (aa ..)) ⟨rfl,rfl⟩ (fl.same rfl)
   refine gZ hW hk hA.handled ⟨hA.handled,by have :=w1.depth;show A.depth+_+_<=_;have :A.depth+20*(k+1)+30<=recursionLimit:=this;omega,by have :A.units+1+100*(k+1)+350<=cLine:=w1.units;show A.units+1+1+1+1+_+_<=_;have :=hA.units;omega⟩ ne st0 o Bt eo hl (lK eo hl) λg' s' ws le o' r=> ?_
   have o2:=o'.Nm (pn:=g.pn) (gn:=g.gn) (λb o q=> ?_) λi x q=> ?_
   ·exact IF.after (g':=⟨g'.im,g.pn,g.gn⟩) ⟨λU U e=>le.im _ _ e,rfl,rfl⟩ (o2.U1 (tk:=s'.toks) (λb o e=>Heap.get?_push_of_some _ e) (al _) (Heap.get?_push_size _ rfl) (r.same rfl) q3)
   ·have n1:b≠a:=λz=>aj pFI.1 (z▸q)
    have n2:b≠y:=λz=>aj pFI.2 (z▸q)
    exact(le.pn b λz=>z.elim n1 n2).trans ((ab _ _ n1).trans ((ab _ _ n2).trans q))
   ·exact(le.gn i id).trans q
  |_=>exact q.elim
end
def I0 (nm:DI)(names:List (Str×NameKind)):List (Str×NameKind):=names.map λp=>if(p.2== .free && nm.l.lookup p.1==some .cell) then(p.1,.cell) else p
structure PR (nm:DI)(x:Str)(sc:Scope):Prop where
 kind:sc.kind= .function
 co:sc.isCoroutine=false
 gx:good x=true
 vx:sc.names.lookup x=some .local
 loc:∀ y,(y,NameKind.local)∈sc.names->y=x\/y=".0"
 Xp:∀ y,(y,NameKind.local)∈sc.names->sc.names.lookup y=some .local
 free:∀ y,(y,NameKind.free)∈sc.names->RI (nm.lookup y)/\good y=true/\y≠x
 cell:∀ y,(y,NameKind.cell) ∉ sc.names
def Qc (nm:DI)(x:Str)(l:List (Str×NameKind))(y:Str):NameKind->Bool
 | .local=>(y==x||y==".0") && l.lookup y==some .local
 | .free=>(nm.l.lookup y==some .cell||nm.l.lookup y==some .free) && y !=x
 | .cell=>false
 |_=>true
def Qd (nm:DI)(x:Str)(sc:Scope):Bool:=(sc.kind== .function && !sc.isCoroutine && sc.names.lookup x==some .local && sc.names.all λp=>Qc nm x sc.names p.1 p.2) && (good x && sc.names.all λp=>p.2 != .free||good p.1)
def mq {nm:DI}{x:Str}{sc:Scope}(h:Qd nm x sc=true):PR nm x sc:=by
 unfold Qd at h
 simp only[Bool.and_eq_true,beq_iff_eq,Bool.not_eq_true'] at h
 obtain⟨⟨⟨⟨h1,h2⟩,h3⟩,h4⟩,h5,h6⟩:=h
 have k:∀ {y z},(y,z)∈sc.names->Qc nm x sc.names y z=true:=λ {y z} hy=>List.all_eq_true.mp h4 _ hy
 refine⟨h1,h2,h5,h3,λy hy=> ?_,λy hy=> ?_,λy hy=> ?_,λy hy=>Bool.noConfusion (k hy)⟩
 ·have :=Bool.and_eq_true_iff.mp (show((y==x||y==".0") && sc.names.lookup y==some .local)=true from k hy)
  exact(Bool.or_eq_true_iff.mp this.1).imp beq_iff_eq.mp beq_iff_eq.mp
 ·exact beq_iff_eq.mp (Bool.and_eq_true_iff.mp (show((y==x||y==".0") && sc.names.lookup y==some .local)=true from k hy)).2
 ·have :=Bool.and_eq_true_iff.mp (show((nm.l.lookup y==some .cell||nm.l.lookup y==some .free) && y !=x)=true from k hy)
  exact⟨(Bool.or_eq_true_iff.mp this.1).imp beq_iff_eq.mp beq_iff_eq.mp,List.all_eq_true.mp h6 _ hy,bne_iff_ne.mp this.2⟩
def jR {nm:DI}{y:Str}{k:NameKind}{names:List (Str×NameKind)}(h:(I0 nm names).lookup y=some k):(k= .cell/\(y,NameKind.free)∈names/\nm.lookup y=some .cell)\/(y,k)∈names:=by
 obtain⟨⟨m,k'⟩,hm',e⟩:=List.mem_map.mp (aJ h)
 dsimp only at e
 by_cases q:(k'== .free && nm.l.lookup m==some .cell)=true
 ·rw[if_pos q] at e
  rcases e with ⟨⟩
  rw[Bool.and_eq_true,beq_iff_eq,beq_iff_eq] at q
  exact .inl ⟨rfl,q.1▸hm',q.2⟩
 ·rw[if_neg q] at e;rcases e with ⟨⟩;exact .inr hm'
def fY {nm:DI}{x:Str}:∀ {names:List (Str×NameKind)},names.lookup x=some .local->(I0 nm names).lookup x=some .local
 |(m,k)::r,h=>by
  show List.lookup x ((if(k== .free && nm.l.lookup m==some .cell)=true then(m,.cell) else(m,k))::I0 nm r)=_
  rw[List.lookup_cons] at h
  cases q:x==m with
  |true=>
   rw[q] at h;cases h
   rw[if_neg (by simp),List.lookup_cons,q]
  |false=>
   rw[q] at h
   have ih:=fY (nm:=nm) h
   by_cases z:(k== .free && nm.l.lookup m==some .cell)=true
   ·rw[if_pos z,List.lookup_cons,q];exact ih
   ·rw[if_neg z,List.lookup_cons,q];exact ih
def je {env:PySem.Env}:∀ (acc:List (Str×Addr)) (ns:List (Str×NameKind)),(∀ y,(y,NameKind.free)∈ns->(env.cells.lookup y).isSome=true)->(∀ y a,acc.lookup y=some a->env.cells.lookup y=some a)->
  ∃ cl,(forIn ns acc (λ(p:Str×NameKind) (cs:List (Str×Addr))=>(if p.2== .free then do let a<-cellOf env p.1;pure (ForInStep.yield ((p.1,a)::cs)) else pure (ForInStep.yield cs):Sem (ForInStep (List (Str×Addr)))))=pure cl)/\
   (∀ y a,cl.lookup y=some a->env.cells.lookup y=some a/\((acc.lookup y).isSome=true\/(y,NameKind.free)∈ns))/\(∀ y,(y,NameKind.free)∈ns\/(acc.lookup y).isSome=true->(cl.lookup y).isSome=true):=by
 intro acc ns
 induction ns generalizing acc with
 |nil=>
  intro _ ha
  exact⟨acc,by rw[List.forIn_nil],λy a h=>⟨ha y a h,.inl (by rw[h];rfl)⟩,λy h=>h.resolve_left (by simp)⟩
 |cons p r ih=>
  obtain⟨m,k⟩:=p
  intro hf ha
  rw[List.forIn_cons]
  by_cases hk:k= .free
  ·subst hk
   obtain⟨a,e⟩:=Option.isSome_iff_exists.mp (hf m (.head _))
   obtain⟨cl,h1,h2,h3⟩:=ih ((m,a)::acc) (λy hy=>hf y (.tail _ hy)) (λy b h=>by
    rw[List.lookup_cons] at h
    cases q:y==m with
    |true=>rw[q] at h;rcases h with ⟨⟩;rw[beq_iff_eq.mp q];exact e
    |false=>rw[q] at h;exact ha y b h)
   refine⟨cl,?_,λy b h=> ?_,λy h=> ?_⟩
   ·rw[if_pos (by rfl)]
    unfold cellOf
    rw[e]
    exact h1
   ·obtain⟨q1,q2⟩:=h2 y b h
    refine⟨q1,?_⟩
    rcases q2 with q2|q2
    ·rw[List.lookup_cons] at q2
     cases q:y==m with
     |true=>rw[beq_iff_eq.mp q];exact .inr (.head _)
     |false=>rw[q] at q2;exact .inl q2
    ·exact .inr (.tail _ q2)
   ·refine h3 y ?_
    rcases h with h|h
    ·rcases List.mem_cons.mp h with h|h
     ·rcases h with ⟨⟩;right;rw[List.lookup_cons,beq_self_eq_true];rfl
     ·exact .inl h
    ·right
     rw[List.lookup_cons]
     cases y==m with
     |true=>rfl
     |false=>exact h
  ·obtain⟨cl,h1,h2,h3⟩:=ih acc (λy hy=>hf y (.tail _ hy)) ha
   refine⟨cl,?_,λy b h=>⟨(h2 y b h).1,(h2 y b h).2.imp id λq=> .tail _ q⟩,λy h=>h3 y ?_⟩
   ·rw[if_neg (by rw[beq_iff_eq];exact hk)];exact h1
   ·rcases h with h|h
    ·rcases List.mem_cons.mp h with h|h
     ·rcases h with ⟨⟩;exact absurd rfl hk
     ·exact .inl h
    ·exact .inr h
def gL {env:PySem.Env}{sc:Scope}(hf:∀ y,(y,NameKind.free)∈sc.names->(env.cells.lookup y).isSome=true):
  ∃ cl,closureFor sc env=pure cl/\(∀ y a,cl.lookup y=some a->env.cells.lookup y=some a/\(y,NameKind.free)∈sc.names)/\(∀ y,(y,NameKind.free)∈sc.names->(cl.lookup y).isSome=true):=by
 obtain⟨cl,h1,h2,h3⟩:=je [] sc.names hf (λy a h=>by cases h)
 refine⟨cl,?_,λy a h=>⟨(h2 y a h).1,(h2 y a h).2.resolve_left (by simp)⟩,λy h=>h3 y (.inl h)⟩
 rw[cA];exact h1
section
variable {W:Bl}{n:Nat}{nm nm':DI}{cf:Cc}{A:Around}{env cenv:PySem.Env}{me:AZ}{g g':A8}{h h':H}{s s':Shared}
def d5 (a:DT W n nm A env me g h s)(sc:Scope):(relabel sc env).names=I0 nm sc.names:=by
 unfold relabel I0
 have e:∀ m,env.kindOf m=nm.l.lookup m:=λm=>by unfold Env.kindOf;rw[a.names]
 simp only[e,a.BL.kind,beq_self_eq_true,Bool.and_true]
def n7 {x:Str}{sc:Scope}{cl:List (Str×Addr)}{C:Addr}{oC:Obj}(a:DT W n nm A env me g h s)(k:PR nm x sc)(hc1:∀ y a,cl.lookup y=some a->env.cells.lookup y=some a/\(y,NameKind.free)∈sc.names)(hc2:∀ y,(y,NameKind.free)∈sc.names->(cl.lookup y).isSome=true)
  (pC:g.pn C=some oC)(hn:∀ hp:Heap,hp.get? C=some oC->hp.Ns C λU=>none):DT W n ⟨nm.f,I0 nm sc.names⟩ A (compEnvC sc cl C env) (Ad me (AI x) none) g h s:=by
 have he:=a.BL
 have hkind:∀ y k',(compEnvC sc cl C env).kindOf y=some k'->(k'= .cell/\(y,NameKind.free)∈sc.names/\nm.lookup y=some .cell)\/(y,k')∈sc.names:=λy k' e=>by
  unfold Env.kindOf at e
  rw[show(compEnvC sc cl C env).scope.names=I0 nm sc.names from d5 a sc] at e
  exact jR e
 have hfree:∀ y,RI ((compEnvC sc cl C env).kindOf y)->(y,NameKind.free)∈sc.names:=λy hk=>hk.elim (λe=>(hkind y _ e).elim (λq=>q.2.1) λq=>absurd q (k.cell y)) λe=>(hkind y _ e).elim (λq=>q.2.1) id
 refine⟨a.ok,⟨he.glob,he.bi,k.kind,k.co,.mk oC _ pC hn λy hy hk v hv=> ?_,λy hy hk=> ?_,λy z b gy gz h1 h2=>he.one y z b gy gz (hc1 _ _ h1).1 (hc1 _ _ h2).1⟩,a.room,d5 a sc,a.code⟩
 ·rcases hkind y .local hk with q|q
  ·cases q.1
  ·have :=(k.loc _ q).resolve_right (dO hy)
   subst this
   rw[aa] at hv;cases hv
 ·have q:=hfree y hk
  obtain⟨q1,q2,q3⟩:=k.free y q
  obtain⟨b,r1,r2⟩:=he.cell y hy (q1.imp a.kind a.kind)
  obtain⟨b',hb⟩:=Option.isSome_iff_exists.mp (hc2 _ q)
  have eb:=(hc1 _ _ hb).1
  rw[r1] at eb;cases eb
  exact⟨b,hb,by rw[ab _ _ (b9 hy k.gx q3)];exact r2⟩
def TH (x:Nat)(elt:A4)(t:Ev)(cf:Cc)(me:AZ)(k:List V->(List V->H->Prop)->H->Prop)(v:V)(acc:List V)(Q:List V->H->Prop)(h:H):Prop:=
 t cf (Ad me x (some v)) (λb h=>cond b (elt cf (Ad me x (some v)) (λy h=>k (acc++ [y]) Q h) h) (k acc Q h)) h
def KU (x:Nat)(elt:A4)(t:Ev)(cf:Cc)(me:AZ)(src:Ci)(r:List V):List V->(List V->H->Prop)->H->Prop:=
 @List.rec V (λU=>List V->(List V->H->Prop)->H->Prop) (λacc Q h=>src.Eh h/\Q acc h) (λv U k acc Q h=>src.Eh h/\AJ (src.ok v h) λb=>cond b (TH x elt t cf me k v acc Q h) (k acc Q h)) r
inductive Q6 (x:Nat)(elt:A4)(t:Ev)(cf:Cc)(me:AZ)(src:Ci)(r:List V)(acc:List V)(Q:List V->H->Prop)(h:H):Prop
 |done (s:src.Eh h) (k:Gl src h r []) (q:Q acc h):Q6 x elt t cf me src r acc Q h
 |turn (s:src.Eh h) (v:V) (r':List V) (k:Gl src h r (v::r')) (l:r'.length < r.length) (q:TH x elt t cf me (KU x elt t cf me src r') v acc Q h):Q6 x elt t cf me src r acc Q h
def gu {x:Nat}{elt:A4}{t:Ev}{src:Ci}{acc:List V}{Q:List V->H->Prop}:∀ {r:List V},KU x elt t cf me src r acc Q h->Q6 x elt t cf me src r acc Q h
 | [],q=> .done q.1 .nil q.2
 |v::r,q=>by
  obtain⟨q1,q2⟩:=q
  refine ao q2 λb eb q3=> ?_
  cases b with
  |true=>exact .turn q1 v r (.stop v r eb) (Nat.lt_succ_self _) q3
  |false=>cases gu (r:=r) q3 with
   |done s k q=>exact .done s (.skip v r _ eb k) q
   |turn s v' r' k l q=>exact .turn s v' r' (.skip v r _ eb k) (Nat.lt_succ_of_lt l) q
def L7:Ev:=λU U Q h=>Q true h
inductive Sh (W:Bl)(cf:Cc)(n:Nat)(nm:DI):Ev->List PySem.Expr->Prop
 |nil:Sh W cf n nm L7 []
 |one (b:Ev) (x:PySem.Expr) (h:Mu W cf n nm b x):Sh W cf n nm b [x]
theorem Sh.ev {b:Ev}{ifs:List PySem.Expr}{Q:Bool->H->Prop}(c:Sh W cf n nm b ifs)(a:DT W n nm A env me g h s)(q:b cf me Q h):BR W A (forIn ifs true λc r=>if r=true then do let ok<-isTrue c env (eval c env);pure (ForInStep.yield ok) else pure (ForInStep.yield r)) (QC W g Q) s:=by
 cases c with
 |nil=>rw[List.forIn_nil];exact wpAny_pure ⟨g,.refl g,h,a.ok,q⟩
 |one b x hb=>
  rw[List.forIn_cons]
  refine wpAny_bind ?_
  rw[if_pos rfl]
  refine wpAny_bind (ai (hb _ _ _ _ _ _ _ a q) λt s₁ z=>wpAny_pure ?_)
  show BR W A (forIn [] t _) _ s₁
  rw[List.forIn_nil]
  exact wpAny_pure z
inductive QF (W:Bl)(g:A8)(X:Addr->Prop)(Y:Nat->Prop)(D C:Addr)(Q:List V->H->Prop)(s':Shared):Prop
 |mk (g':A8) (le:FV (λb=>b=C\/b=D\/X b) Y g g') (h':H) (o:Ok W g' h' s') (vals:Array Value) (m:Nat) (eD:g'.pn D=some (listOf vals m)) (out:List V) (r:AE g' out vals.toList) (l:out.length<=lim) (oC:Obj) (lm:Str->Option Value) (eC:g'.pn C=some oC) (hn:∀ hp:Heap,hp.get? C=some oC->hp.Ns C lm) (q:Q out h'):QF W g X Y D C Q s'
def fA {α:Type}(f:Nat->α)(a:Nat)(x y:α):Ad (Ad f a x) a y=Ad f a y:=by
 funext z
 unfold Ad
 cases Nat.beq z a <;> rfl
structure Vw (W:Bl)(n:Nat)(nm':DI)(A:Around)(cenv:PySem.Env)(me:AZ)(x:Nat)(g:A8)(X:Addr->Prop)(Y:Nat->Prop)(A2:List V->A8->Prop)(D:Addr)(K:List V->List V->H->Prop)(k:Nat)(s₁:Shared):Prop where
 ex:∃ r g₁ h₁ acc vals m me₁,k=r.length/\FV (λb=>b=cenv.locals\/b=D\/X b) Y g g₁/\DT W n nm' A cenv me₁ g₁ h₁ s₁/\(∀ w,Ad me₁ x w=Ad me x w)/\A2 r g₁/\g₁.pn D=some (listOf vals m)/\AE g₁ acc vals.toList/\acc.length+r.length<=lim/\K r acc h₁
def oY {elt:A4}{t:Ev}{x:Str}{ex ix:PySem.Expr}{px:Pos}{ifs:List PySem.Expr}{sc:Scope}{pos:Pos}{src:Ci}{it:Value}{D:Addr}{X:Addr->Prop}{Y:Nat->Prop}{A2:List V->A8->Prop}{Q:List V->H->Prop}
  (wk:NH W A (.Name x px) it src X Y A2)(he:Bw W cf n nm' elt ex)(hc:Sh W cf n nm' t ifs)(gx:good x=true)(hx:nm'.lookup x=some .local)(hX:∀ a,X a-> ¬ Eb cenv a/\a≠D)(Np: ¬ Eb cenv D)
  {r:List V}{m:Nat}(a:DT W n nm' A cenv (Ad me (AI x) none) g h s)(st:A2 r g)(eD:g.pn D=some (listOf #[] m))(hl:r.length<=lim)(q:KU (AI x) elt t cf me src r [] Q h):
  codeAny (model W.prog W.w) A (.compLoop (.ListComp ex [⟨.Name x px,ix,ifs,0⟩] sc pos) 0 it (.ref D) cenv) (Tb λU s'=>QF W g X Y D cenv.locals Q s') s:=by
 have nXL:∀ {a},X a->a≠cenv.locals:=λ {a} q e=>(hX a q).1 (.inl e)
 have nXD:∀ {a},X a->a≠D:=λ {a} q=>(hX a q).2
 have nDL:D≠cenv.locals:=λe=>Np (.inl e)
 refine codeAny_compLoop_tests (Vw W n nm' A cenv me (AI x) g X Y A2 D λr acc h₁=>KU (AI x) elt t cf me src r acc Q h₁) ?_ r.length ⟨r,g,h,[],#[],m,_,rfl,⟨λU U e=>e,λU U=>rfl,λU U=>rfl⟩,a,λw=>fA ..,st,eD,.mk,by rw[List.length_nil];omega,q⟩ (λU=>rfl)
 rintro k s₁ ⟨r,g₁,h₁,acc,vals,m,me₁,rfl,le₁,a₁,hm₁,st₁,eD₁,r₁,hl₁,q₁⟩
 have aX:∀ {g₂ s₂},FV X Y g₁ g₂->Ok W g₂ h₁ s₂->DT W n nm' A cenv me₁ g₂ h₁ s₂:=λl o=>⟨o,a₁.BL.cut l.im λb hb=>l.pn b λz=>(hX b z).1 hb,a₁.room,a₁.names,a₁.code⟩
 have leX:∀ {g₂},FV X Y g₁ g₂->FV (λb=>b=cenv.locals\/b=D\/X b) Y g g₂:=λl=>⟨λU U e=>l.im _ _ (le₁.im _ _ e),λb n=>(l.pn b λz=>n (.inr (.inr z))).trans (le₁.pn b n),λi n=>(l.gn i n).trans (le₁.gn i n)⟩
 cases gu q₁ with
 |done sl sk q=>
  refine wpAny_mono (wk.next (R:=λo s₂=>o=none/\∃ g',FV X Y g₁ g'/\Ok W g' h₁ s₂) st₁ a₁.ok sl sk (λU g' s' l o=>⟨rfl,g',l,o⟩) λv r' w s' e=>by rcases e with ⟨⟩) (λo s₂ z=> ?_) λU U e=>e.elim
  obtain⟨rfl,g',l,o⟩:=z
  obtain⟨oC,lm,eC,hn,vs⟩:=(aX l o).BL.ns
  exact .mk _ _ (.mk g' (leX l) h₁ o vals m ((l.pn D λz=>nXD z rfl).trans eD₁) acc (AE.mono l.im _ r₁) (by omega) oC lm eC hn q)
 |turn sl v r' sk ll q=>
  refine wpAny_mono (wk.next (R:=λo s₂=>∃ w,o=some w/\BR W A (letOwnedTupleGo (.Name x px) it w) (λU s₃=>JF W g₁ h₁ X Y A2 v r' w s₃) s₂) st₁ a₁.ok sl sk (λe=>by rcases e with ⟨⟩) λv' r'' w s' e z=>by rcases e with ⟨⟩;exact⟨w,rfl,z⟩) (λo s₂ z=> ?_) λU U e=>e.elim
  obtain⟨w,rfl,z⟩:=z
  refine wpAny_mono (show BR W A (assign (.Name x px) cenv w) (λU s₃=>∃ g3,FV (λb=>b=cenv.locals\/X b) Y g₁ g3/\DT W n nm' A cenv (Ad me (AI x) (some v)) g3 h₁ s₃/\A2 r' g3) s₂ from(show BR W A ((pure ():Sem Unit) >>=λU=>assign (.Name x px) cenv w) _ s₂ from wpAny_bind (ai z λU s₃ z=> ?_))) (λU s₃ z=> ?_) λU U e=>e.elim
  ·obtain⟨g2,l2,o2,rv,st2⟩:=z
   rw[arm_assign_Name]
   refine wpAny_bind (wpAny_standAt (cT (ai (gh (aX l2 o2) gx hx rv) λU s₄ z=> ?_)))
   obtain⟨oL,a4⟩:=z
   rw[hm₁] at a4
   exact⟨g2.pin cenv.locals oL,⟨λU U e=>l2.im _ _ e,λb n=>(ab _ _ λz=>n (.inl z)).trans (l2.pn b λz=>n (.inr z)),l2.gn⟩,a4,wk.keep st2 (λU U e=>e) (λb hb=>ab _ _ (nXL hb)) λU U=>rfl⟩
  ·obtain⟨g3,l3,a3,st3⟩:=z
   have le3:FV (λb=>b=cenv.locals\/b=D\/X b) Y g g3:=⟨λU U e=>l3.im _ _ (le₁.im _ _ e),λb n=>(l3.pn b λz=>n (z.imp id .inr)).trans (le₁.pn b n),λi n=>(l3.gn i n).trans (le₁.gn i n)⟩
   have eD3:=(l3.pn D λz=>z.elim nDL λz=>nXD z rfl).trans eD₁
   have r3:=AE.mono l3.im _ r₁
   refine wpAny_mono (hc.ev a3 q) (λb s₄ z=> ?_) λU U e=>e.elim
   obtain⟨g4,le4,h4,o4,q⟩:=z
   have a4:=a3.step le4 o4
   have st4:A2 r' g4:=wk.keep st3 le4.im (λb U=>by rw[le4.pn]) λi U=>by rw[le4.gn]
   cases b with
   |false=>
    rw[if_neg Bool.false_ne_true]
    exact⟨r'.length,ll,⟨r',g4,h4,acc,vals,m,_,rfl,⟨λU U e=>le4.im _ _ (le3.im _ _ e),λb n=>by rw[le4.pn];exact le3.pn b n,λi n=>by rw[le4.gn];exact le3.gn i n⟩,a4,λw=>fA ..,st4,by rw[le4.pn];exact eD3,AE.mono le4.im _ r3,by omega,q⟩⟩
   |true=>
    rw[if_pos rfl]
    refine wpAny_mono (he _ _ _ _ _ _ _ a4 q) (λu s₅ z=> ?_) λU U e=>e.elim
    obtain⟨g5,le5,h5,o5,y,r5,q⟩:=z
    have le45:=le4.trans le5
    have eD5:g5.pn D=some (listOf vals m):=by rw[le45.pn];exact eD3
    have r6:AE g5 (acc++ [y]) (vals.push u).toList:=by rw[Array.toList_push];exact(AE.mono le45.im _ r3).append (.one r5)
    have hsz:vals.size<=sizeLine:=by
     have h1:=r₁.length
     have h2:vals.toList.length=vals.size:=rfl
     have :=bw
     omega
    refine append_at (hsz:=hsz) (o5.Dk _ _ eD5) λh' hsb hob=> ?_
    have o6:=o5.pinned (tk:=s₅.toks) (λb ob n e=>(hsb.2 b n).trans e) (.inr ⟨_,eD5⟩) hob
    have e5:∀ {b},b≠D->(g5.pin D (listOf (vals.push u) (m+1))).pn b=g3.pn b:=λn=>(ab _ _ n).trans (congrFun le45.pn _)
    have e4:∀ {b},b≠D->(g5.pin D (listOf (vals.push u) (m+1))).pn b=g4.pn b:=λn=>(ab _ _ n).trans (congrFun le5.pn _)
    refine⟨r'.length,ll,⟨r',g5.pin D (listOf (vals.push u) (m+1)),h5,acc++ [y],vals.push u,m+1,_,rfl,⟨λU U e=>le45.im _ _ (le3.im _ _ e),λb n=>(e5 λz=>n (.inr (.inl z))).trans (le3.pn b n),λi n=>(congrFun le45.gn i).trans (le3.gn i n)⟩,⟨o6,Fp.cut (g:=g4) le5.im (λb hb=>e4 λ(z:b=D)=>Np (z▸hb)) a4.BL,a₁.room,a₁.names,a₁.code⟩,λw=>fA ..,wk.keep st4 le5.im (λb hb=>e4 (nXD hb)) (λi U=>congrFun le5.gn i),aa ..,r6.same rfl,by rw[List.length_append];show acc.length+1+_<=_;omega,q⟩⟩
end
section
variable {W:Bl}{n:Nat}{nm nm':DI}{cf:Cc}{A:Around}{env cenv:PySem.Env}{me:AZ}{g g':A8}{h h':H}{s s':Shared}
def Ct (x:Nat)(it:J7)(t:Ev)(elt:A4):A4:=λcf me Q h=>it cf me (λsrc h=>src.xs.length<=lim/\KU x elt t cf me src src.xs [] (λout h=>∀ a,h a=none->Q (.ref a) (Ad h a (some (.lst out)))) h) h
structure KF (W:Bl)(cf:Cc)(n:Nat)(nm:DI)(elt:A4)(x:Str)(it:J7)(t:Ev)(ex ix:PySem.Expr)(px:Pos)(ifs:List PySem.Expr)(sc:Scope):Prop where
 ok:PR nm x sc
 set:∀ (env:PySem.Env) v,foldedSetIterable ix env v=pure v
 it:NL W cf n nm (.Name x px) true it ix
 elt:Bw W cf n ⟨nm.f,I0 nm sc.names⟩ elt ex
 t:Sh W cf n ⟨nm.f,I0 nm sc.names⟩ t ifs
inductive Kb (W:Bl)(g:A8)(env:PySem.Env)(Q:V->H->Prop)(D C:Addr)(s':Shared):Prop
 |mk (g':A8) (im:Ek g g') (oC:Obj) (lm:Str->Option Value) (pn:g'.pn=Ad g.pn C (some oC)) (gn:g'.gn=g.gn) (fC:g.pn C=none) (nC: ¬ Eb env C) (h':H) (o:Ok W g' h' s') (hn:∀ hp:Heap,hp.get? C=some oC->hp.Ns C lm) (q:Q (.ref D) h'):Kb W g env Q D C s'
theorem Kb.ns {Q:V->H->Prop}{D C:Addr}(z:Kb W g env Q D C s'):∃ lm,s'.heap.Ns C lm:=by
 cases z with |mk g' im oC lm pn gn fC nC h' o hn q=>exact⟨lm,hn _ (o.Dk _ _ (by rw[pn];exact aa ..))⟩
theorem Kb.pe {Q:V->H->Prop}{D C:Addr}(z:Kb W g env Q D C s'){hp:Heap}(hs:Heap.SameBut C s'.heap hp):IF W g Q (.ref D) { s' with heap:=hp }:=by
 obtain⟨g',im,oC,lm,pn,gn,fC,nC,h',o,hn,q⟩:=z
 have o2:=o.dropped (tk:=s'.toks) (λb ob n e=>(hs.2 b n).trans e) ⟨oC,by rw[pn];exact aa ..⟩
 refine⟨{ g' with pn:=Ad g'.pn C none },⟨im,?_,gn⟩,h',o2,.ref D,iM D,q⟩
 show Ad g'.pn C none=g.pn
 rw[pn]
 funext b
 by_cases z:b=C
 ·subst z;rw[aa,fC]
 ·rw[ab _ _ z,ab _ _ z]
def kR {elt:A4}{x:Str}{it:J7}{t:Ev}{ex ix:PySem.Expr}{px:Pos}{ifs:List PySem.Expr}{sc:Scope}{pos:Pos}{use:Option (Value->Sem Unit)}{Q:V->H->Prop}{R:Value->Shared->Prop}(k:KF W cf n nm elt x it t ex ix px ifs sc)(a:DT W n nm A env me g h s)
  (q:Ct (AI x) it t elt cf me Q h)(hQ:∀ s' D C fl,Kb W g env Q D C s'->compPost (model W.prog W.w) A GG use R (.ref D) C (.ok fl) s'):
  BR W A (comprehension (.ListComp ex [⟨.Name x px,ix,ifs,0⟩] sc pos) sc env (firstIterPos [⟨.Name x px,ix,ifs,0⟩] pos) (newList []) (firstAsync [⟨.Name x px,ix,ifs,0⟩]) (firstIter [⟨.Name x px,ix,ifs,0⟩] env) use) R s:=by
 have hfree:∀ y,(y,NameKind.free)∈sc.names->(env.cells.lookup y).isSome=true:=λy hy=>by
  obtain⟨q1,q2,q3⟩:=k.ok.free y hy
  obtain⟨b,e,_⟩:=a.BL.cell y q2 (q1.imp a.kind a.kind)
  rw[e];rfl
 obtain⟨cl,hclos,hc1,hc2⟩:=gL hfree
 refine wpAny_comprehension_free (e:= .ListComp ex [⟨.Name x px,ix,ifs,0⟩] sc pos) rfl (λv=>k.set env v) hclos k.ok.kind (λy hy hk=>k.ok.Xp y.1 (by rw[<-hk];exact hy)) (ai (k.it _ _ _ _ _ _ _ a q) λxv s₁ z=>ai z λiv s₂ z=> ?_)
 obtain⟨g2,X,Y,le,fx,tp,fy,h2,o2,src,A2,wk,st,q⟩:=z
 obtain⟨ql,q⟩:=q
 have ownX:∀ b,X b-> ¬ Eb env b:=λb hb ho=>kE a fx hb ho
 have a2:DT W n nm A env me g2 h2 s₂:=⟨o2,a.BL.cut le.im λb hb=>le.pn b λz=>ownX b z hb,a.room,a.names,a.code⟩
 refine wpAny_newObj_type ?_ (Nat.zero_le _)
 refine wpAny_newFunctionEnv (λy hy hk=>k.ok.cell y.1 (by rw[<-hk];exact hy)) (λy hy=>by cases hy) (λh₁ hns hsb=> ?_) k.ok.kind
 generalize Np:s₂.heap.objs.size=D at hns hsb ⊢
 have hDn:s₂.heap.get? D=none:=by rw[<-Np];exact al _
 dsimp only at hns hsb ⊢
 generalize hP:s₂.heap.push { cls:= .type "list",data:= .seq ([]:List Value).toArray }=P at hns hsb ⊢
 have hPD:P.get? D=some (listOf #[] 0):=by rw[<-hP,<-Np];exact Heap.get?_push_size _ rfl
 have hPs:P.objs.size=D+1:=by rw[<-hP,Heap.size_push,Np]
 have hC:s₂.heap.get? P.objs.size=none:=Heap.get?_none_of_le (by rw[hPs,Np];exact Nat.le_succ _)
 have Kq:P.objs.size≠D:=by rw[hPs];exact Nat.succ_ne_self _
 generalize P.objs.size=C at hns hsb hC Kq ⊢
 have ext:∀ b o,s₂.heap.get? b=some o->h₁.get? b=some o:=λb o e=>by
  have hb:b≠C:=λq=>by rw[q,hC] at e;cases e
  exact(hsb.2 b hb).trans (Heap.get?_push_of_some _ (by rw[<-hP];exact Heap.get?_push_of_some _ e))
 have hDo:h₁.get? D=some (listOf #[] 0):=(hsb.2 D Kq.symm).trans (Heap.get?_push_of_some _ hPD)
 obtain⟨oC,es,ep,Kh,l2,l3⟩:=hns
 have fC:=o2.fresh hC
 have fD:=o2.fresh hDn
 have ownC:∀ b,Eb env b->b≠C/\b≠D:=λb hb=>by
  have k2:(∃ o,g2.pn b=some o)\/∃ o,g2.im b=some o:=by
   rcases hb with rfl|⟨y,z1,z2,z3⟩
   ·cases a2.BL.ns with |mk o lm e ns vs=>exact .inl ⟨o,e⟩
   ·obtain⟨b',e,c⟩:=a2.BL.cell y z1 z2
    rw[z3] at e;cases e
    cases c with
    |full f u o w e i d r=>exact .inr ⟨o,i⟩
    |mv f u o w e i d r=>exact .inl ⟨o,i⟩
    |bare o e i d=>exact .inl ⟨o,i⟩
  exact⟨λq=>k2.elim (λ⟨o,e⟩=>aj fC.2.2.1 (q▸e)) λ⟨o,e⟩=>aj fC.2.1 (q▸e),λq=>k2.elim (λ⟨o,e⟩=>aj fD.2.2.1 (q▸e)) λ⟨o,e⟩=>aj fD.2.1 (q▸e)⟩
 have XC:∀ b,X b->b≠C/\b≠D:=λb hb=>let⟨o,e⟩:=tp rfl b hb;⟨λq=>aj fC.2.2.1 (q▸e),λq=>aj fD.2.2.1 (q▸e)⟩
 let g4:A8:=(g2.pin D (listOf #[] 0)).pin C oC
 have o4:Ok W g4 h2 { s₂ with heap:=h₁,toks:=s₂.toks+([]:List (Str×Value)).length }:=o2.pins (X:=two C D) (λb o U e=>ext b o e) (λb z=> .inl (z.elim (λz=>z▸hC) λz=>z▸hDn)) (fg Kh hDo)
 have p4:∀ {b},b≠C->b≠D->g4.pn b=g2.pn b:=λn1 n2=>(ab _ _ n1).trans (ab _ _ n2)
 have a4:DT W n nm A env me g4 h2 _:=⟨o4,Fp.cut (g:=g2) (λU U e=>e) (λb hb=>p4 (ownC b hb).1 (ownC b hb).2) a2.BL,a.room,a.names,a.code⟩
 have hcenv:=n7 a4 k.ok hc1 hc2 (aa ..) λhp e=>⟨oC,es,ep,e,l2,l3⟩
 have ownE:∀ b,Eb (compEnvC sc cl C env) b->b=C\/Eb env b:=λb hb=>by
  rcases hb with rfl|⟨y,z1,z2,z3⟩
  ·exact .inl rfl
  ·obtain⟨w1,w2⟩:=hc1 _ _ z3
   obtain⟨r1,_,_⟩:=k.ok.free y w2
   exact .inr (.inr ⟨y,z1,r1.imp a.kind a.kind,w1⟩)
 have st4:A2 src.xs g4:=wk.keep st (λU U e=>e) (λb hb=>p4 (XC b hb).1 (XC b hb).2) λU U=>rfl
 have loop:=oY (pos:=pos) (ix:=ix) (sc:=sc) wk k.elt k.t k.ok.gx (fY k.ok.vx) (cenv:=compEnvC sc cl C env) (D:=D) (λb hb=>⟨λz=>(ownE b z).elim (XC b hb).1 (ownX b hb),(XC b hb).2⟩) (λz=>(ownE D z).elim Kq.symm λz=>(ownC D z).2 rfl) hcenv st4 ((ab _ _ Kq.symm).trans (aa ..)) ql q
 have Eh:src.Eh h2:=by cases gu q with |done s k q=>exact s|turn s v r k l q=>exact s
 have fin:codeAny (model W.prog W.w) A (.compLoop (.ListComp ex [⟨.Name x px,ix,ifs,0⟩] sc pos) 0 iv (.ref D) (compEnvC sc cl C env)) (compPost (model W.prog W.w) A GG use R (.ref D) C) { s₂ with heap:=h₁,toks:=s₂.toks+([]:List (Str×Value)).length }:=by
  refine codeAny_mono loop λr s' z=> ?_
  obtain⟨fl,s',z⟩:=z
  obtain⟨g5,le5,h5,o5,vals,m,eD,out,r,l,oC',lm,eC,hn,q⟩:=z
  refine hQ s' D C fl ?_
  have gC:g.pn C=none:=by
   cases e:g.pn C with
   |none=>rfl
   |some o=>exact aj fC.2.2.1 ((le.pn C λz=>(XC C z).1 rfl).trans e)
  have gD:g.pn D=none:=by
   cases e:g.pn D with
   |none=>rfl
   |some o=>exact aj fD.2.2.1 ((le.pn D λz=>(XC D z).2 rfl).trans e)
  have hD5:h5 D=none:=aP λx hx=>aj (o5.sep D x hx).2.1 eD
  have o6:=o5.taken (hp:=s'.heap) (tk:=s'.toks) (o:= .lst out) (pn:=Ad g.pn C (some oC')) (Heap.SameBut.refl ..) ⟨_,eD⟩ (λb ob e=> ?_) (.lst out vals m (o5.Dk _ _ eD) (r.same rfl) l)
  ·refine .mk ⟨g5.im,Ad g.pn C (some oC'),g.gn⟩ (λU U e=>le5.im _ _ (le.im _ _ e)) oC' lm rfl rfl gC (λz=>(ownC C z).1 rfl) _ (o6.Nm (λU U e=>e) λi x e=> ?_) hn (q D hD5)
   exact(le5.gn i λy=>aj (fy i y) e).trans ((le.gn i λy=>aj (fy i y) e).trans e)
  ·by_cases z:b=C
   ·subst z;rw[aa] at e;cases e;exact⟨Kq,eC⟩
   ·rw[ab _ _ z] at e
    have nD:b≠D:=λz=>aj gD (z▸e)
    have nX: ¬ X b:=λz=>aj (fx b z).1 e
    exact⟨nD,(le5.pn b λy=>y.elim z λy=>y.elim nD nX).trans ((p4 z nD).trans ((le.pn b nX).trans e))⟩
 exact codeAny_compStart_list fin (wpAny_mono (wk.self rfl (R:=λit' s'=>it'=iv/\s'= { s₂ with heap:=h₁,toks:=s₂.toks+([]:List (Str×Value)).length }) st4 o4 Eh ⟨rfl,rfl⟩) (λit' s' z=>by obtain⟨rfl,rfl⟩:=z;exact fin) λU U e=>e.elim)
def kO {elt:A4}{x:Str}{it:J7}{t:Ev}{ex ix:PySem.Expr}{px:Pos}{ifs:List PySem.Expr}{sc:Scope}{pos:Pos}(k:KF W cf n nm elt x it t ex ix px ifs sc):Bw W cf n nm (Ct (AI x) it t elt) (.ListComp ex [⟨.Name x px,ix,ifs,0⟩] sc pos):=λA env me g h s Q a q=>by
 rw[arm_eval_ListComp]
 refine kR k a q λs' D C fl z=> ?_
 obtain⟨lm,hn⟩:=z.ns
 exact⟨lm,hn,λh' hs=>z.pe hs⟩
def rq {tg:K0}{tx:PySem.Expr}{p:Pos}{elt:A4}{x:Str}{it:J7}{t:Ev}{ex ix:PySem.Expr}{px:Pos}{ifs:List PySem.Expr}{sc:Scope}{pos:Pos}(ht:Q9 tx)(EI:∀ {A env me g h s},DT W n nm A env me g h s->swappedStores [tx] (.ListComp ex [⟨.Name x px,ix,ifs,0⟩] sc pos) env=pure none)
  (hs:∀ (env:PySem.Env),∃ b,swapsWithSole [tx] (.ListComp ex [⟨.Name x px,ix,ifs,0⟩] sc pos) p.line env=pure b)(h1:IK W cf n nm tg tx)
  (k:KF W cf n nm elt x it t ex ix px ifs sc):JJ W cf n nm (Af tg (Ct (AI x) it t elt)) (.Assign [tx] (.ListComp ex [⟨.Name x px,ix,ifs,0⟩] sc pos) p):=λA env me g h s Q a q=>by
 obtain⟨b,hb⟩:=hs env
 cases b with
 |false=>
  refine wpAny_Assign_stores (ai (kO k _ _ _ _ _ _ _ a q) λw s₁ z=> ?_) hb (EI a)
  obtain⟨g1,le,h1',o,v,r,q⟩:=z
  rw[ht.each]
  exact ai (h1 _ _ _ _ _ _ _ _ _ (a.step le o) r q) λU U z=>(z.pf λU U q=>q).after le.toS
 |true=>
  rw[exec_Assign_arm]
  refine wpAny_bind (wpAny_standAt ?_)
  rw[hb]
  refine wpAny_bind (wpAny_pure ?_)
  rw[if_pos rfl,arm_evalThenUse_ListComp,ht.each]
  refine wpAny_bind (wpAny_bind ?_)
  refine ai (kR (R:=λU s'=>N6 W n nm A env g Q .next s') k a q λs' D C fl z=> ?_) λU s₂ z=>wpAny_pure (wpAny_pure z)
  obtain⟨g',im,oC,lm,pn,gn,fC,nC,h',o,hn,q⟩:=z
  show BR W A (assign tx env (.ref D)) _ s'
  have a3:DT W n nm A env me g' h' s':=⟨o,a.BL.cut im λb hb=>by rw[pn];exact ab _ _ λz=>nC (z▸hb),a.room,a.names,a.code⟩
  refine ai (h1 _ _ _ _ _ _ _ _ _ a3 (iM D) q) λU s₂ z=> ?_
  obtain⟨g4,le4,h4,me4,a4,q⟩:=z
  have eC:g4.pn C=some oC:=(le4.pn C nC).trans (by rw[pn];exact aa ..)
  refine⟨lm,hn _ (a4.ok.Dk _ _ eC),λhp hs=> ?_⟩
  have o5:=a4.ok.dropped (tk:=s₂.toks) (λb ob n e=>(hs.2 b n).trans e) ⟨_,eC⟩
  have e5:∀ {b},b≠C->({ g4 with pn:=Ad g4.pn C none }:A8).pn b=g4.pn b:=λn=>ab _ _ n
  refine⟨{ g4 with pn:=Ad g4.pn C none },⟨λU U e=>le4.im _ _ (im _ _ e),λb nb=> ?_,le4.gn.trans gn⟩,h4,me4,⟨o5,Fp.cut (g:=g4) (λU U e=>e) (λb hb=>e5 λ(z:b=C)=>nC (z▸hb)) a4.BL,a.room,a.names,a.code⟩,.next,.next,q⟩
  by_cases z:b=C
  ·subst z;exact(aa g4.pn b none).trans fC.symm
  ·exact(e5 z).trans ((le4.pn b nb).trans ((congrFun pn b).trans (ab _ _ z)))
end
section
variable {W:Bl}{n:Nat}{nm:DI}{cf:Cc}{A:Around}{env:PySem.Env}{me:AZ}{g g':A8}{h h':H}{s s':Shared}
inductive Gj (W:Bl)(hp:Heap)(c:Str)(u:Value):Value->Prop
 |mk (x d C:Nat) (es:List DictEntry) (n:Nat) (e1:hp.get? x=some (instObj (W.ca C) d)) (e2:hp.get? d=some (dictOf es n)) (hc:AI c∈own C) (hg:good c=true) (e:PySem.W.getL c es=some (some u)):Gj W hp c u (.ref x)
theorem Gj.keeps {hp hp':Heap}{c:Str}{v u:Value}(x:Gj W hp c u v){I:Addr}{oI:Obj}(Gb:hp.get? I=some oI)(hc:oI.cls= .type "list_iterator")(k:∀ b o,b≠I->hp.get? b=some o->hp'.get? b=some o):Gj W hp' c u v:=by
 obtain⟨x,d,C,es,n,e1,e2,ho,hg,e⟩:=x
 refine .mk x d C es n (k _ _ (λq=> ?_) e1) (k _ _ (λq=> ?_) e2) ho hg e
 ·rw[q,Gb] at e1;cases e1;cases hc
 ·rw[q,Gb] at e2;cases e2;injection hc with hc;exact absurd hc (by decide)
def dE (ho:Ok W g h s){a:Nat}{i:My}{c:Str}{v:V}(e:Ec h a=some i)(hg:good c=true)(hc:AM (AI c) (own i.C)=true)(hv:i.f (AI c)=some v):∃ u,AF g v u/\Gj W s.heap c u (.ref a):=by
 obtain⟨es,m,I,w,ed,d⟩:=ho.inst e
 obtain⟨u,e1,r⟩:=d.get hg
 obtain⟨w',rfl,r'⟩:=iW r hv
 exact⟨w',r',.mk a i.d i.C es m I.1 ed (aO.mp hc) hg e1⟩
def iy {prog:Program}{w:World}{A:Around}{E:Value->Shared->Prop}{c:Str}{v u:Value}{expr:Bool}{Q:Value->Shared->Prop}(hW:W.Ok)(hK:Id W)(hg:∀ b o,W.g0.get? b=some o->s.heap.get? b=some o)(hv:Gj W s.heap c u v)(hu:handedIn u=true)
  (q:Q u { s with toks:=s.toks+1 }):wpAny (model prog w) A (getAttr v c expr) Q E s:=by
 obtain⟨y,d,C,es,m,e1,e2,hc,hgd,he⟩:=hv
 obtain⟨g1,g2⟩:=gH (hK.get C)
 obtain⟨k1,k2,k3⟩:=hK.own C c hgd hc
 obtain⟨at_,f1,f2⟩:=jC k1
 exact get_value (hW.K.keeps hg) ⟨e1,rfl,rfl,e2⟩ g1 (findObj_own (hK.dict _) f1 f2 ((lookIn_dict ..).trans he)) hu q
def cV {prog:Program}{w:World}{A:Around}{E:Value->Shared->Prop}{x c:Str}{p1 p:Pos}{v u:Value}{Q:Value->Shared->Prop}(hW:W.Ok)(hK:Id W)(hg:∀ b o,W.g0.get? b=some o->s.heap.get? b=some o)(hx:∀ Q':Value->Shared->Prop,Q' v s->wpAny (model prog w) A (eval (.Name x p1) env) Q' E s)(hv:Gj W s.heap c u v)(hu:handedIn u=true)
  (q:Q u { s with toks:=s.toks+1 }):wpAny (model prog w) A (eval (.Attribute (.Name x p1) c p) env) Q E s:=
 Attribute_any_ (hx _ (iy hW hK hg hv hu q))
structure NQ (x y c1 c2 c3 c4:Str):Prop where
 gx:good x=true
 gy:good y=true
 ne:x≠y
 g1:good c1=true
 g2:good c2=true
 g3:good c3=true
 g4:good c4=true
def pw {x y c1 c2 c3 c4:Str}{cenv:PySem.Env}{I cl:Addr}{oI:Obj}{wS:Value}{hc:Bool}{px p1 p2 p3 p4 p5 p6 p7:Pos}{h4 href:Heap}{vals:Array Value}{ap:Nat->Bool}{kk:Nat->Int}(N:NQ x y c1 c2 c3 c4)(hW:W.Ok)(hK:Id W)(hg:∀ b o,W.g0.get? b=some o->h4.get? b=some o/\b≠I)
  (Gb:h4.get? I=some oI)(hIc:oI.cls= .type "list_iterator")(hkd:cenv.scope.kind= .function)(hks:cenv.kindOf x=some .free)(hkx:cenv.kindOf y=some .local)(JB:cenv.cells.lookup x=some cl)(hcell:h4.IsCell cl (some wS))(hclI:cl≠I)
  (hself:Gj W h4 c1 (.bool hc) wS)
  (hat:∀ i v,vals[i]? =some v->Gj W h4 c2 (.bool (ap i)) v/\∃ t,Gj W h4 c3 (.int (kk i) t) v)(hx:∀ b o,h4.get? b=some o->href.get? b=some o)(fp:List Addr)(hfp:∀ b o,h4.get? b=some o->b∈fp):
  QuietGen W.prog W.w cenv y [.BoolOp .Or [.Attribute (.Name x p1) c1 p2,.UnaryOp .Not (.Attribute (.Name y p3) c2 p4) p5] p6] (.Attribute (.Name y px) c3 p7)
   fp [I] (λi v=>vals[i]? =some v) (λi=>hc|| !ap i) (λi y=>∃ t,y= .int (kk i) t) href where
 tests A' E' i v s₂ m₂ hh hP hns hm hk:=by
  have kp:∀ b o,b≠I->h4.get? b=some o->s₂.heap.get? b=some o:=λb o hb e=>hk b (hfp b o e) (λq=>hb (List.mem_singleton.mp q)) o (hx b o e)
  have old:∀ b o,W.g0.get? b=some o->s₂.heap.get? b=some o:=λb o e=>kp b o (hg b o e).2 (hg b o e).1
  rw[List.forIn_cons]
  simp only[if_true]
  obtain⟨a1,_⟩:=hat i v hP
  have rs:=hself.keeps Gb hIc kp
  have ra:=a1.keeps Gb hIc kp
  obtain⟨oc,hoc,hod⟩:=hcell
  have fin:∀ (b:Bool) (s₃:Shared),b=(hc|| !ap i)->Keeps s₂ s₃->wpAny (model W.prog W.w) A' (pure (ForInStep.yield b)) (λst s'=>wpAny (model W.prog W.w) A' (match st with | .done b=>pure b| .yield b=>forIn [] b λc r=>if r=true then do let ok<-isTrue c cenv (eval c cenv);pure (ForInStep.yield ok) else pure (ForInStep.yield r)) (λok s₃=>ok=(hc|| !ap i)/\Keeps s₂ s₃) E' s') E' s₃:=λb s₃ e kk=>by
   refine wpAny_pure ?_
   dsimp only
   rw[List.forIn_nil]
   exact wpAny_pure ⟨e,kk⟩
  refine wpAny_bind (wpAny_bind ?_)
  show wpAny _ A' (allTrue .Or [_,_] cenv) _ _ _
  refine wpAny_allTrue_Or_cons (wpAny_isTrue_value (cV hW hK old (λQ' q=>wpAny_Name (wpAny_loadName_free hkd hks JB ⟨oc,kp _ _ hclI hoc,hod⟩ q (dm N.gx)) (aZ N.gx)) rs rfl ?_) rfl)
  refine wpAny_pure ?_
  cases hc with
  |true=>
   rw[if_pos rfl]
   exact fin true _ rfl ⟨s₂.heap,_,rfl,λU U e=>e⟩
  |false=>
   rw[if_neg Bool.false_ne_true]
   refine wpAny_allTrue_Or_cons ?_
   show wpAny _ A' (do return !(<-isTrue (.Attribute (.Name y p3) c2 p4) cenv (eval (.Attribute (.Name y p3) c2 p4) cenv))) _ _ _
   refine wpAny_bind (wpAny_isTrue_value (cV (s:={ s₂ with toks:=s₂.toks+1 }) hW hK old (λQ' q=>wpAny_Name (wpAny_loadName_local hkd hkx hns hm q) (aZ N.gy)) ra rfl ?_) rfl)
   refine wpAny_pure (wpAny_pure ?_)
   show if(!ap i)=true then _ else _
   by_cases hb:ap i=true
   ·rw[if_neg (by rw[hb];decide)]
    exact wpAny_allTrue_Or_nil (fin false _ (by rw[hb];rfl) ⟨s₂.heap,_,rfl,λU U e=>e⟩)
   ·have hb:ap i=false:=Bool.eq_false_iff.mpr hb
    rw[if_pos (by rw[hb];rfl)]
    exact fin true _ (by rw[hb];rfl) ⟨s₂.heap,_,rfl,λU U e=>e⟩
 elt A' E' i v s₂ m₂ hh hP _ hns hm hk:=by
  have kp:∀ b o,b≠I->h4.get? b=some o->s₂.heap.get? b=some o:=λb o hb e=>hk b (hfp b o e) (λq=>hb (List.mem_singleton.mp q)) o (hx b o e)
  have old:∀ b o,W.g0.get? b=some o->s₂.heap.get? b=some o:=λb o e=>kp b o (hg b o e).2 (hg b o e).1
  obtain⟨_,t,a2⟩:=hat i v hP
  exact cV hW hK old (λQ' q=>wpAny_Name (wpAny_loadName_local hkd hkx hns hm q) (aZ N.gy)) (a2.keeps Gb hIc kp) rfl ⟨⟨t,rfl⟩,s₂.heap,_,rfl,λU U e=>e⟩
def fX (l:List Int):∀ n,preSum (λi=>l.getD i 0) n=(l.take n).sum
 |0=>by simp [preSum]
 |n+1=>by
  rw[preSum,fX l n]
  rcases Nat.lt_or_ge n l.length with q|q
  ·rw[List.take_succ_eq_append_getElem q,List.sum_append]
   simp [List.getD,q]
  ·rw[List.take_of_length_le q,List.take_of_length_le (Nat.le_succ_of_le q)]
   simp [List.getD,q]
end
section
variable {W:Bl}{n:Nat}{nm:DI}{cf:Cc}{A:Around}{env:PySem.Env}{me:AZ}{g g':A8}{h h':H}{s s':Shared}
def J6 (c:Nat)(v:V)(h:H):Option Int:=AT v.ref? λb=>AT (Ec h b) λi=>cond (AM c (own i.C)) (AT (i.f c) V.int?) none
def TE (c2 c3:Nat)(hc:Bool)(h:H)(xs:List V):Option Int:= @List.rec V (λU=>Option Int) (some 0) (λv U ih=>AT (Ei c2 v h) λa=>AT (J6 c3 v h) λk=>AT ih λt=>some (cond (hc|| !a) (k+t) t)) xs
def RC (x c1 c2 c3 c4:Nat):A4:=λU e Q h=>AJ (e x) λv=>AJ (Ei c1 v h) λhc=>AJ v.ref? λa=>AJ (Ec h a) λi=>AM c4 (own i.C)=true/\AJ (AT (i.f c4) V.ref?) λl=>AJ (getL h l) λxs=>AJ (TE c2 c3 hc h xs) λr=>Q (.int r) h
def OD (c:Nat)(h:H)(v:V):Bool:=match Ei c v h with |some b=>b|none=>false
def Ph (c:Nat)(h:H)(v:V):Int:=match J6 c v h with |some b=>b|none=>0
def gY {c2 c3:Nat}{hc:Bool}:∀ {xs:List V} {r:Int},TE c2 c3 hc h xs=some r->(∀ v∈xs,Ei c2 v h=some (OD c2 h v)/\J6 c3 v h=some (Ph c3 h v))/\r=(xs.map λv=>if(hc|| !OD c2 h v)=true then Ph c3 h v else 0).sum
 | [],_,e=>by rcases e with ⟨⟩;exact⟨λU h=>(nomatch h),rfl⟩
 |v::xs,r,e=>by
  obtain⟨a,e1,e⟩:=aG (show AT (Ei c2 v h) _=some r from e)
  refine aI e λk e2 e=> ?_
  refine aI e λt e3 e=> ?_
  obtain⟨i1,i2⟩:=gY e3
  have ea:OD c2 h v=a:=by unfold OD;rw[e1]
  have ek:Ph c3 h v=k:=by unfold Ph;rw[e2]
  refine⟨λu hu=>(List.mem_cons.mp hu).elim (λz=>by rw[z,ea,ek];exact⟨e1,e2⟩) (i1 u),?_⟩
  rw[List.map_cons,List.sum_cons,<-i2,ea,ek]
  rcases hc with ⟨⟩ <;> rcases a with ⟨⟩ <;> rcases e with ⟨⟩ <;> first|rfl|exact(Int.zero_add _).symm
def i5 (ho:Ok W g h s){c:Str}{v:V}{w:Value}{b:Bool}(hg:good c=true)(hv:AF g v w)(e:Ei (AI c) v h=some b):Gj W s.heap c (.bool b) w:=by
 refine aI e λa e1 ea=> ?_
 refine aI ea λi e2 eb=> ?_
 clear e ea
 cases V.Il e1
 cases hv
 cases e3:AM (AI c) (own i.C) with
 |false=>rw[e3] at eb;cases eb
 |true=>
  rw[e3] at eb
  obtain⟨u,e4,e5⟩:=aG (show AT (i.f (AI c)) V.bool? =some b from eb)
  obtain⟨w,r,z⟩:=dE ho e2 hg e3 e4
  cases u <;> first|(cases e5;cases r;exact z)|cases e5
def nV (ho:Ok W g h s){c:Str}{v:V}{w:Value}{b:Int}(hg:good c=true)(hv:AF g v w)(e:J6 (AI c) v h=some b):∃ t,Gj W s.heap c (.int b t) w:=by
 refine aI e λa e1 ea=> ?_
 refine aI ea λi e2 eb=> ?_
 clear e ea
 cases V.Il e1
 cases hv
 cases e3:AM (AI c) (own i.C) with
 |false=>rw[e3] at eb;cases eb
 |true=>
  rw[e3] at eb
  obtain⟨u,e4,e5⟩:=aG (show AT (i.f (AI c)) V.int? =some b from eb)
  obtain⟨w,r,z⟩:=dE ho e2 hg e3 e4
  cases V.R4 e5
  obtain⟨t⟩:=r
  exact⟨t,z⟩
def pH {f:Value}{pos:Pos}{x:PySem.Expr}{Q:Value->Shared->Prop}(hx:DA x)(h:BR W A (eval x env) (λw s₁=>Ki W f s₁.heap/\BR W A (call f [w] []) Q s₁) s):
  BR W A (callWith pos f [] (backTo pos (starEach [x] env)) (backToKw pos (keywordEach [] env))) Q s:=by
 refine callWith_of (P:=Ki W f) (by rw[hx];rfl) (λU z=>z) ?_
 refine evalArgs_kw2 (cQ rfl) ?_ (hx _ _)
 refine wpAny_items_cons (ai h λw s₁ z=> ?_) (hx _ _)
 exact wpAny_items_nil (wpAny_evalAll_nil z)
theorem Ok.VU (ho:Ok W g h s){hp:Heap}{tk:Nat}{gs:Array GenState}(k:∀ b o,s.heap.get? b=some o->hp.get? b=some o)(hb:AllBare gs)(hg:∀ (i:Nat) (x:GenState),s.gens[i]? =some x->gs[i]? =some x):Ok W g h { s with heap:=hp,toks:=tk,gens:=gs }:=
 ho.go (λU=>False) (λU U e=>e) (λb o U e=>k b o e) (λb o e=> .inl ⟨e,id⟩) (λb o e=>⟨(ho.Dz b o e).1,.inl ⟨e,id⟩⟩) (λb o e=> .inl ⟨id,e,λU U=>⟨id,rfl⟩⟩) (λU U=>id) rfl hb λi x e=>hg i x (ho.Ii i x e)
def mP {wr:List Addr}{G:Array GenState->Array GenState->Prop}(m:Moved wr G s s'):s'= { s with heap:=s'.heap,toks:=s'.toks,gens:=s'.gens }:=by
 obtain⟨h,g,d,t,os⟩:=s'
 obtain⟨_,_,m3,m4,_⟩:=m
 dsimp only at m3 m4
 subst m3;subst m4;rfl
def jO (pz:Nat->Bool)(n:Nat):passing pz n 0=(List.range n).filter pz:=by unfold passing;rw[List.drop_zero]
abbrev Vi (x y c1 c2 c3 c4:Str)(px pt pi1 pi2 p1 p2 p3 p4 p5 p6 p7 gp:Pos)(sc:Scope):PySem.Expr:=
 .GeneratorExp (.Attribute (.Name y px) c3 p7) [⟨.Name y pt,.Attribute (.Name x pi1) c4 pi2,[.BoolOp .Or [.Attribute (.Name x p1) c1 p2,.UnaryOp .Not (.Attribute (.Name y p3) c2 p4) p5] p6],0⟩] sc gp
structure LH (x y:Str)(sc:Scope):Prop where
 kind:sc.kind= .function
 co:sc.isCoroutine=false
 names:sc.names= [((".0":Str),.local),(y,.local),(x,.free)]
theorem LH.free {x y:Str}{sc:Scope}(S:LH x y sc):sc.names.filter (λq=>q.2== .free)= [(x,.free)]:=by rw[S.names];rfl
def rm {f:Nat}{x y c1 c2 c3 c4:Str}{p pos px pt pi1 pi2 p1 p2 p3 p4 p5 p6 p7 gp:Pos}{sc:Scope}(hh:DC W n cf)(N:NQ x y c1 c2 c3 c4)(hg:nm.f=some f)(hM:IG W f gp "<genexpr>")(hk:nm.lookup ("sum":Str)=some .globalImplicit)(hks:nm.lookup x=some .cell)(S:LH x y sc):
  Bw W cf n nm (RC (AI x) (AI c1) (AI c2) (AI c3) (AI c4)) (.Call (.Name "sum" p) [Vi x y c1 c2 c3 c4 px pt pi1 pi2 p1 p2 p3 p4 p5 p6 p7 gp sc] [] pos):=λA env me g h s Q at_ q=>by
 refine ao q λv ev q=> ?_
 refine ao q λhc ehc q=> ?_
 refine ao q λa ea q=> ?_
 refine ao q λi ei q=> ?_
 obtain⟨q4,q⟩:=q
 refine ao q λl el q=> ?_
 refine ao q λxs exs q=> ?_
 refine ao q λr er qf=> ?_
 refine aI el λel1 el2 el3=> ?_
 cases V.Il ea
 cases V.Il el3
 obtain⟨hall,hr⟩:=gY er
 have hW:=hh.w
 have hK:=hh.k
 have ho:=at_.ok
 have old:∀ b o,W.g0.get? b=some o->s.heap.get? b=some o:=λb o e=>ho.old e
 refine wpAny_Call_Name_kw (dg hW ho at_.BL (at_.kind hk) (mg_none_of hW.K hW.g (hK.bi _ eB.mem)) eB.boot (fF eB.mem).1 (fF eB.mem).2 ?_)
 refine pH (λU U=>rfl) ?_
 obtain⟨cl,q1,cell⟩:=at_.BL.cell x N.gx (.inl (at_.kind hks))
 have hcell:∃ oc,(g.im cl=some oc\/g.pn cl=some oc)/\oc.data= .cell (some (.ref a)):=by
  cases cell with
  |bare o e i d=>rw[ev] at e;cases e
  |full f u o w e i d r=>rw[ev] at e;cases e;cases r;exact⟨o,.inl i,d⟩
  |mv f u o w e i d r=>rw[ev] at e;cases e;cases r;exact⟨o,.inr i,d⟩
 obtain⟨oc,ic,dc⟩:=hcell
 refine wpAny_GeneratorExp_walksQ at_.room.handled S.co (fT q1 S.free) (λy hy=> ?_) (by rw[S.names];rfl) (by rw[S.names,List.lookup_cons,show((y:Str)==".0")=false from beq_eq_false_iff_ne.mpr (dO N.gy),List.lookup_cons,beq_self_eq_true]) S.kind at_.room.room ?_ (λU=>rfl)
 ·rw[S.names] at hy
  rcases List.mem_cons.mp hy with rfl|hy
  ·simp
  ·rcases List.mem_cons.mp hy with rfl|hy
   ·simp
   ·rw[List.mem_singleton.mp hy];simp
 refine Attribute_any_ (wpAny_Name (wpAny_loadName_cell at_.BL.kind (at_.kind hks) q1 ⟨oc,ic.elim (ho.F2 _ _) (ho.Dk _ _),dc⟩ ?_) (aZ N.gx))
 obtain⟨uS,rl,aS⟩:=dE ho ei N.g4 q4 el2
 cases rl
 refine iy hW hK old aS rfl ?_
 obtain⟨vals,m,L0,rv,lv,zv⟩:=ho.list (aM exs)
 refine wpAny_pyIter_list (items:=vals) ⟨_,L0,rfl,m,rfl⟩ ?_
 generalize hIe:s.heap.objs.size=I
 have hI0:(s.heap.push { cls:= .type "list_iterator",data:= .fields #[.ref l,.int 0 0] }).get? I=some { cls:= .type "list_iterator",data:= .fields #[.ref l,.int 0 0] }:=by rw[<-hIe];exact Heap.get?_push_size _ rfl
 have nI:s.heap.get? I=none:=by rw[<-hIe];exact al _
 have o2:=ho.pinned (hp:=s.heap.push { cls:= .type "list_iterator",data:= .fields #[.ref l,.int 0 0] }) (tk:=s.toks+1) (λb o U e=>Heap.get?_push_of_some _ e) (.inl nI) hI0
 have pI:=ho.fresh nI
 dsimp only at o2 ⊢
 generalize s.heap.push { cls:= .type "list_iterator",data:= .fields #[.ref l,.int 0 0] }=wa at o2 ⊢
 refine⟨hW.lim.keeps λb o e=>o2.old e,ai (gT hW o2 hM (at_.code f hg)) λcv s4 z=> ?_⟩
 obtain⟨g4,le,c1',s4,o4,ci⟩:=z
 rw[at_.BL.glob]
 refine dA hW o4 ?_
 have eI:g4.pn I=some { cls:= .type "list_iterator",data:= .fields #[.ref l,.int 0 0] }:=by rw[le.pn];exact aa ..
 have hI4:=o4.Dk _ _ eI
 obtain⟨vals,m,b1,b2,lv,zv⟩:=o4.list (aM exs)
 have hlI:l≠I:=λq=>aj (o4.sep l _ (aM exs)).2.1 ((congrArg g4.pn q).trans eI)
 have ah:=i5 o4 N.g1 (iM a) ehc
 have nclI:cl≠I:=λq=>ic.elim (λz=>aj pI.2.1 (q▸z)) λz=>aj pI.2.2.1 (q▸z)
 have ic4:s4.heap.get? cl=some oc:=ic.elim (λz=>o4.F2 _ _ (le.im _ _ z)) λz=>o4.Dk _ _ (by rw[le.pn];exact(ab _ _ nclI).trans z)
 have hclI:cl≠I:=nclI
 have old4:∀ b o,W.g0.get? b=some o->s4.heap.get? b=some o:=λb o e=>o4.old e
 have hlim:s4.heap.NoLimit:=hW.lim.keeps old4
 have hat:∀ (i:Nat) (w:Value),vals[i]? =some w->Gj W s4.heap c2 (.bool (OD (AI c2) h (xs.getD i .none))) w/\∃ t,Gj W s4.heap c3 (.int (Ph (AI c3) h (xs.getD i .none)) t) w:=λi w e=>by
  have hi:i < xs.length:=by rw[<-lv];exact(Array.getElem?_eq_some_iff.mp e).1
  obtain⟨w',z1,z2⟩:=AE.get (vs:=xs) b2 (List.getElem?_eq_getElem hi)
  have z1:=bT z1
  rw[e] at z1;cases z1
  have eg:xs.getD i .none=xs[i]:=by rw[List.getD_eq_getElem?_getD,List.getElem?_eq_getElem hi];rfl
  rw[eg]
  obtain⟨w1,w2⟩:=hall _ (List.getElem_mem hi)
  exact⟨i5 o4 N.g2 z2 w1,nV o4 N.g3 z2 w2⟩
 have g0I:∀ b o,W.g0.get? b=some o->b≠I:=λb o e q=>aj (o4.Dz _ _ eI).1 (q▸o4.Ng _ _ e)
 refine⟨I,[I,l],[I],vals.size,λi v=>vals[i]? =some v,λi h=>h.IsListIter I l i/\h.IsList l vals,λi=>hc|| !OD (AI c2) h (xs.getD i .none),λi y=>∃ t,y= .int (Ph (AI c3) h (xs.getD i .none)) t,rfl,λA' hA'=>Walks.list hA' I l hlI vals,⟨⟨_,hI4,rfl,rfl⟩,⟨_,b1,rfl,m,rfl⟩⟩,?_,hlim,?_,λhref hx=> ?_,?_⟩
 ·intro b hb
  rcases List.mem_cons.mp hb with rfl|hb
  ·exact Heap.lt_size hI4
  ·rw[List.mem_singleton.mp hb];exact Heap.lt_size b1
 ·intro q
  obtain⟨mc,⟨oc,_,_,hcs,_⟩,_⟩:=hW.lim
  exact g0I _ _ hcs (List.mem_singleton.mp q)
 ·exact pw (x:=x) (y:=y) (cl:=cl) (oI:={ cls:= .type "list_iterator",data:= .fields #[.ref l,.int 0 0] }) (h4:=s4.heap) N hW hK (λb o e=>⟨old4 b o e,g0I b o e⟩) hI4 rfl S.kind
   (by show List.lookup x sc.names=some .free;rw[S.names,List.lookup_cons,show((x:Str)==".0")=false from beq_eq_false_iff_ne.mpr (dO N.gx),List.lookup_cons,show(x==y)=false from beq_eq_false_iff_ne.mpr N.ne,List.lookup_cons,beq_self_eq_true])
   (by show List.lookup y sc.names=some .local;rw[S.names,List.lookup_cons,show((y:Str)==".0")=false from beq_eq_false_iff_ne.mpr (dO N.gy),List.lookup_cons,beq_self_eq_true])
   (by show List.lookup x [(x,cl)]=some cl;rw[List.lookup_cons,beq_self_eq_true]) ⟨oc,ic4,dc⟩ hclI ah hat hx _ λb o e=>List.mem_range.mpr (Heap.lt_size e)
 ·intro a' h5 tk gs hbare hlt hsz5 te Wk Gk
  refine⟨gM λU h=>(nomatch h),?_⟩
  refine call_sum_walkAnyS ?_
  have W1:=WalksS.in4_1 Wk
  refine W1.self 0 _ _ _ Gk ?_
  generalize HY:(passing (λi=>hc|| !OD (AI c2) h (xs.getD i .none)) vals.size 0).map (λi=>Ph (AI c3) h (xs.getD i .none))=L
  refine⟨a',_,_,_,_,_,_,λj=>L.getD j 0,rfl,W1,Gk,λb hb=> ?_,λj y hy=> ?_,λs' t' hm=> ?_⟩
  ·show b < h5.objs.size
   rw[hsz5]
   rcases List.mem_cons.mp hb with rfl|hb
   ·exact Nat.lt_succ_self _
   ·rcases List.mem_cons.mp hb with rfl|hb
    ·exact Nat.lt_succ_of_lt hlt
    ·exact Nat.lt_succ_of_lt (Nat.lt_trans (List.mem_range.mp hb) hlt)
  ·obtain⟨i,z1,t,rfl⟩:=hy
   refine⟨t,?_⟩
   have :L.getD j 0=Ph (AI c3) h (xs.getD i .none):=by rw[<-HY,List.getD_eq_getElem?_getD (l:=List.map _ _),List.getElem?_map,z1];rfl
   show Value.int _ t= .int (L.getD j 0) t
   rw[this]
  ·have hLl:L.length=(passing (λi=>hc|| !OD (AI c2) h (xs.getD i .none)) vals.size 0).length:=by rw[<-HY,List.length_map]
   have hsum:preSum (λj=>L.getD j 0) (passing (λi=>hc|| !OD (AI c2) h (xs.getD i .none)) vals.size 0).length=r:=by
    rw[fX,List.take_of_length_le (by rw[hLl];exact Nat.le_refl _),<-HY,jO,sum_filter_ite,hr,lv]
    refine congrArg List.sum (List.ext_getElem (by simp) λi h1 h2=> ?_)
    have hi:i < xs.length:=by simpa using h2
    simp only[List.getElem_map,List.getElem_range,List.getD_eq_getElem?_getD,List.getElem?_eq_getElem hi,Option.getD_some]
   rw[hsum]
   have es:=mP hm
   have kpI:∀ b o,¬ (b=I)->s4.heap.get? b=some o->s'.heap.get? b=some o:=λb o hb e=>hm.heap b o (λq=>by
    rcases List.mem_cons.mp q with q|q
    ·rw[q,al] at e;cases e
    ·exact hb (List.mem_singleton.mp q)) (te b o e)
   have gg:GenOnlyQ s4.gens.size (s4.gens.push gs) s'.gens:=hm.gens
   have hbr:AllBare (s4.gens.push gs):=λy hy=>by
    rcases Array.mem_push.mp hy with q|q
    ·exact o4.gens y q
    ·rw[q];exact hbare
   have hgk:∀ (i:Nat) (x:GenState),s4.gens[i]? =some x->s'.gens[i]? =some x:=λi x e=>by
    have hlt:i < s4.gens.size:=(Array.getElem?_eq_some_iff.mp e).1
    have e1:(s4.gens.push gs)[i]? =some x:=by rw[Array.getElem?_push_lt hlt];rw[Array.getElem?_eq_getElem hlt] at e;exact e
    rcases gg with q|⟨⟨_,q⟩,_⟩
    ·rw[q];exact e1
    ·rw[q i (Nat.ne_of_lt hlt)];exact e1
   have o5:=(o4.dropped (tk:=s'.toks) kpI ⟨_,eI⟩).VU (hp:=s'.heap) (tk:=s'.toks) (gs:=s'.gens) (λb o e=>e) (gg.bare hbr) hgk
   have es:s'= { s4 with heap:=s'.heap,toks:=s'.toks,gens:=s'.gens }:=es
   rw[es]
   refine⟨{ g4 with pn:=Ad g4.pn I none },⟨λU U e=>le.im _ _ e,?_,le.gn⟩,h,o5,.int r,.mk t',qf⟩
   show Ad g4.pn I none=g.pn
   rw[le.pn]
   funext b
   by_cases z:b=I
   ·subst z;rw[aa];exact pI.2.2.1.symm
   ·rw[ab _ _ z];exact ab _ _ z
end
end Mi
namespace Mi
open PySem PySem.W PySem.Calls PyProof.Rows PySem.SeqAt
section
variable {W:Bl}{n:Nat}{cf:Cc}{A:Around}{g g':A8}{h h':H}{s s':Shared}
def qz {prog:Program}{w:World}{A:Around}{E:Value->Shared->Prop}{K:Frag}{x y C:Addr}{ox oy:Obj}{ox' oy':Option Obj}{Q:Bool->Shared->Prop}(hu:A.units < cLine)(X:K.In s.heap)(I:InstAt s.heap x ox C ox')(J:InstAt s.heap y oy C oy')
  (hs:findIn K (.ref C) "__eq__"=some (some (.builtin "object.__eq__")))(hm:mroIn K C (.type "object")=some true)(h:Q (x==y) s):wpAny (model prog w) A (eqBool (.ref x) (.ref y)) Q E s:=by
 unfold eqBool
 refine wpAny_holding ?_
 by_cases hxy:x=y
 ·subst hxy
  rw[beq_self_eq_true] at h
  simp only[beq_self_eq_true,if_true]
  exact wpAny_bind (wpAny_rule (wpAny_pure h))
 ·have hne:(Value.ref x==Value.ref y)=false:=by simp [hxy]
  rw[beq_eq_false_iff_ne.mpr hxy] at h
  simp only[hne,Bool.false_eq_true,if_false]
  have one:∀ {a b:Addr} {oa ob:Obj} {oa' ob':Option Obj} {Q':Option Value->Shared->Prop},a≠b->InstAt s.heap a oa C oa'->InstAt s.heap b ob C ob'->Q' none s->wpAny (model prog w) A (tryCompare (.ref a) "__eq__" (.ref b)) Q' E s:=λ {a b oa ob oa' ob' Q'} sq Ia Ib CX=>by
   unfold tryCompare
   refine wpAny_bind ?_
   simp only[callSpecialIfBound?,bindSpecialIfBound?]
   refine wpAny_holding (wpAny_bind (wpAny_bind (wpAny_bind (Ia.type.here ((looks_findIn X hs).here ?_)))))
   have call:wpAny (model prog w) A (call (.builtin "object.__eq__") ([.ref a]++ [.ref b]) >>=λv=>pure (some v)) (λr s₁=>wpAny (model prog w) A (match r with |some .notImplemented|none=>pure none|some v=>pure (some v)) Q' E s₁) E s:=by
    refine wpAny_bind (wpAny_call (codeAny_call_builtin PySem.F.cmp_object.eq.plain F.cmpEntry_eq ?_))
    have L0:=Ia.type (M:=model prog w)
    have L1:=looks_mroIn (M:=model prog w) X hm
    have ha:=F.cmpArgs_eq (.ref a) (.ref b)
    simp only[checkBuiltinCall,F.cmpKind_eq,F.cmpSplit_eq]
    refine wpAny_bind ?_
    unfold isInstance
    refine wpAny_bind (L0.here (L1.here ?_))
    have fin:wpAny (model prog w) A.in1 (Builtin.«object.__eq__» ⟨[.ref a,.ref b],[]⟩) (λfin s'=>match fin with | .done f=>wants (λv s₁=>wpAny (model prog w) A (pure (some v)) (λr s₁=>wpAny (model prog w) A (match r with |some .notImplemented|none=>pure none|some v=>pure (some v)) Q' E s₁) E s₁) E (.ok f) s'| .again c'=>c'.quiet=true/\codeAny (model prog w) A c' (wants (λv s₁=>wpAny (model prog w) A (pure (some v)) (λr s₁=>wpAny (model prog w) A (match r with |some .notImplemented|none=>pure none|some v=>pure (some v)) Q' E s₁) E s₁) E) s') (λe s'=>wants (λv s₁=>wpAny (model prog w) A (pure (some v)) (λr s₁=>wpAny (model prog w) A (match r with |some .notImplemented|none=>pure none|some v=>pure (some v)) Q' E s₁) E s₁) E (.error e) s') s:=
     objEq_entry_other sq Ia.at_ Ib.at_ (by rw[Ia.cls];simp) (wpAny_pure (wpAny_pure CX))
    cases hsig:Manifest.signature? "object.__eq__" with
    |none=>exact wpAny_pure fin
    |some sig=>
     simp only[argsOk,hsig] at ha
     have h2:Bind.checkArgs "object.__eq__" sig ⟨[.ref a,.ref b],[]⟩=pure ():=ha
     show wpAny (model prog w) A.in1 (Bind.checkArgs "object.__eq__" sig ⟨[.ref a,.ref b],[]⟩) _ _ s
     rw[h2];exact wpAny_pure fin
   refine wpAny_bind (wpAny_askSetting (wpAny_ite ?_))
   simp only[PySem.F.cmp_object.eq.bind]
   split
   ·exact wpAny_bind (wpAny_pure (wpAny_pure call))
   ·exact wpAny_tryCatch (wpAny_bind (wpAny_pure (wpAny_pure call)))
  refine wpAny_bind ?_
  unfold richCompare
  simp only[oneThing_ref]
  refine wpAny_holding (wpAny_bind (wpAny_cRoomFor hu ?_))
  refine wpAny_bind (I.type.here (wpAny_bind (J.type.here ?_)))
  simp only[bne_self_eq_false,Bool.false_eq_true,if_false]
  refine wpAny_bind (wpAny_pure ?_)
  simp only[Bool.false_eq_true,if_false]
  refine wpAny_bind (one hxy I J ?_)
  simp only[Bool.not_false,if_true]
  refine wpAny_bind (one (Ne.symm hxy) J I ?_)
  refine wpAny_bind (wpAny_rule ?_)
  refine wpAny_bind (wpAny_isSame_ref_other hxy I.at_ J.at_ (by rw[I.cls];simp) (wpAny_pure ?_))
  unfold truthOfDropped
  exact wpAny_pure h
def ED (i:Int)(l:List Int):Bool:= @List.rec Int (λU=>Bool) false (λj U r=>cond (decide (j=i)) true r) l
def Rs (a:Nat)(l:List Nat):Bool:= @List.rec Nat (λU=>Bool) false (λj U r=>cond (Nat.beq j a) true r) l
def Qy (h:H)(xs:List V):Option (List Nat):= @List.rec V (λU=>Option (List Nat)) (some []) (λv U r=>AT v.ref? λa=>AT (Ec h a) λi=>cond (Nat.beq i.C CO) (AT r λl=>some (a::l)) none) xs
def Qj (x y:V):M V:=λQ h=>AJ (AT y.ref? λl=>getL h l) λxs=>match x with
 | .int i=>AJ (Gu xs) λis=>Q (.bool (ED i is)) h
 | .ref a=>AJ (AT (Ec h a) λi=>cond (Nat.beq i.C CO) (Qy h xs) none) λl=>Q (.bool (Rs a l)) h
 |_=>False
def jA {i:Int}:∀ {is:List Int} {ws:List Value},IntsAre ws is->(ws.any λw=>match w with | .int j _=>j==i|_=>false)=ED i is
 |_,_,.nil=>rfl
 |_,_,.cons j t r=>by
  rw[List.any_cons,jA r]
  show(j==i||ED i _)=cond (decide (j=i)) true (ED i _)
  by_cases e:j=i
  ·subst e;rw[beq_self_eq_true,decide_eq_true rfl];rfl
  ·rw[beq_eq_false_iff_ne.mpr e,decide_eq_false e];rfl
def ot {is:List Int}{ws:List Value}(r:IntsAre ws is):∀ w∈ws,∃ j t,w= .int j t:=by
 induction r with
 |nil=>exact λw h=>(nomatch h)
 |cons j t _ ih=>exact λw h=>(List.mem_cons.mp h).elim (λe=>⟨j,t,e⟩) (ih w)
inductive Kc (h:H):List Value->List Nat->Prop
 |nil:Kc h [] []
 |cons (a:Nat) (i:My) (ws:List Value) (l:List Nat) (e:Ec h a=some i) (c:i.C=CO) (r:Kc h ws l):Kc h (.ref a::ws) (a::l)
def jZ:∀ {xs:List V} {ws:List Value} {l:List Nat},AE g xs ws->Qy h xs=some l->Kc h ws l
 | [],_,_,.mk,e=>by cases e;exact .nil
 |v::xs,_,l,.mk w r hv hr,e=>by
  obtain⟨a,e1,e2⟩:=aG (show AT v.ref? _=some l from e)
  refine aI e2 λi e3 e4=> ?_
  cases V.Il e1
  cases hv
  cases e5:Nat.beq i.C CO with
  |false=>rw[e5] at e4;cases e4
  |true=>
   rw[e5] at e4
   obtain⟨l',e6,e7⟩:=aG (show AT (Qy h xs) _=some l from e4)
   cases e7
   exact .cons a i r l' e3 (Nat.eq_of_beq_eq_true e5) (jZ hr e6)
def qZ (b a:Nat):(Value.ref b==Value.ref a)=Nat.beq b a:=by
 by_cases e:b=a
 ·subst e;rw[beq_self_eq_true,Nat.beq_refl]
 ·rw[beq_eq_false_iff_ne.mpr λq=>e (Value.ref.inj q)]
  exact(Bool.eq_false_iff.mpr λq=>e (Nat.eq_of_beq_eq_true q)).symm
def oJ {a:Nat}{ws:List Value}{l:List Nat}(r:Kc h ws l):(ws.any λw=>w== .ref a)=Rs a l:=by
 induction r with
 |nil=>rfl
 |cons b i ws l e c r ih=>
  rw[List.any_cons,ih,qZ]
  show _=cond (Nat.beq b a) true (Rs a l)
  cases Nat.beq b a <;> rfl
def o9 {ws:List Value}{l:List Nat}(r:Kc h ws l):∀ w∈ws,∃ b i,w= .ref b/\Ec h b=some i/\i.C=CO:=by
 induction r with
 |nil=>exact λw h=>(nomatch h)
 |cons a i ws l e c r ih=>exact λw h=>(List.mem_cons.mp h).elim (λz=>⟨a,i,z,e,c⟩) (ih w)
def vn (hW:W.Ok)(hK:Id W):Ds W Qj (compareOp .In):=λ {k A g h s Q x y w u} hA ho hx hy q=>by
 refine ao q λxs ex qx=> ?_
 refine aI ex λl e1 e2=> ?_
 cases V.Il e1
 cases hy
 obtain⟨vals,m,L,rv,lv,zv⟩:=ho.list (aM e2)
 have IL:s.heap.IsList l vals:=⟨_,L,rfl,m,rfl⟩
 cases x with
 |int i=>
  obtain⟨t⟩:=hx
  refine ao qx λis ei qy=> ?_
  have hi:=AE.ints (eN ei▸rv)
  refine in_listAt (λw=>match w with | .int j _=>j==i|_=>false) IL (λw EI=> ?_) ?_
  ·obtain⟨j,t',rfl⟩:=ot hi w (by simpa using EI)
   exact(MeetsSeq.EqGives.int _ _ _ _).at _ _
  ·rw[<-Array.any_toList,jA hi];exact .Dh ho (cJ _) qy
 |ref a=>
  cases hx
  refine ao qx λr er qy=> ?_
  refine aI er λi e3 e4=> ?_
  cases e5:Nat.beq i.C CO with
  |false=>rw[e5] at e4;cases e4
  |true=>
   rw[e5] at e4
   have hs:=jZ rv (show Qy h xs=some r from e4)
   obtain⟨es,k1,I,wd,ed,d⟩:=ho.inst e3
   rw[Nat.eq_of_beq_eq_true e5] at I
   have X:=dq hW ho
   refine in_listAt (λw=>w== .ref a) IL (λw EI=> ?_) ?_
   ·obtain⟨b,j,rfl,f1,f2⟩:=o9 hs w (by simpa using EI)
    obtain⟨es',k2,J,wd',ed',d'⟩:=ho.inst f1
    rw[f2] at J
    intro prog w' E Q CX
    refine qz (by have :=hA.units;show A.units+1 < cLine;omega) X J I hK.eqs.1 hK.eqs.2 ?_
    have e:(Value.ref b==Value.ref a)=(b==a):=by
     by_cases z:b=a
     ·subst z;rw[beq_self_eq_true,beq_self_eq_true]
     ·rw[beq_eq_false_iff_ne.mpr z,beq_eq_false_iff_ne.mpr λy=>z (Value.ref.inj y)]
    rw[<-e];exact CX
   ·rw[<-Array.any_toList,oJ hs];exact .Dh ho (cJ _) qy
 |_=>exact qx.elim
end
end Mi
namespace Mi
open PySem PySem.W PySem.Calls PyProof.Rows
section
variable {prog:Program}{w:World}{A:Around}{R:GenEnd}{Y:Protocol}{n:Nat}{s₀:Shared}{c:Code}{fs:List Frame}{s:Shared}{env:PySem.Env}{target iter it:PySem.Expr}{body:List Stmt}
 {K:Flow->Sem PySem.Fin}{H:Value->Sem PySem.Fin}{gd:Bool->Bool}{lv:List Value->List Value}
abbrev Nf (env:PySem.Env)(K:Flow->Sem PySem.Fin)(H:Value->Sem PySem.Fin)(gd:Bool->Bool)(lv:List Value->List Value):Result->Sem PySem.Fin:=λr=>
 ((match r with | .ok f=>(.pure f:Sem Flow)| .error e=> .raise e).onRaise λ(x:Value)=>do
  if(<-field x 1)==Value.none then unsupported "frame.own-activation:exception-without-traceback"
  setFlight x env.frame).wrap K H gd lv
def rF {pos:Pos}(hs:∀ x,foldedSetIterable iter env x=pure x)
  (h:wpAny (model prog w) (A.over c fs) (eval iter env) (λx s₁=>wpAny (model prog w) (A.over c fs) (pyIter x) (λiv s₂=>∀ p,Seg (model prog w) A R Y n s₀ (.forLoop target iv body [] env) ((model prog w).den (.forLoop target iv body [] env)) (.ret (Nf env K H gd lv) none (gd false) (lv []) c p []::fs) s₂) GG s₁) GG s):
  Seg (model prog w) A R Y n s₀ c ((exec (.For target iter body [] pos) env).wrap K H gd lv) fs s:=by
 rw[exec_For]
 refine seg_bind_wrap (wpAny_standAt ?_)
 refine seg_bind_wrap (wpAny_mono h (λx s₁ h₁=> ?_) λU U e=>e.elim)
 refine seg_bind_wrap (wpAny_of_eq (hs x) ?_)
 refine seg_bind_wrap (wpAny_standAt ?_)
 refine seg_bind_wrap (wpAny_holding (wpAny_mono h₁ (λiv s₂ h₂=> ?_) λU U e=>e.elim))
 exact seg_call h₂
def fZ {iv:Value}(h:wpAny (model prog w) (A.over (.forLoop target iv body [] env) fs) (pyNext iv) (λr s₁=>match r with
   |none=>Seg (model prog w) A R Y n s₀ (.block [] env) ((model prog w).den (.block [] env)) fs s₁
   |some v=>wpAny (model prog w) (A.over (.forLoop target iv body [] env) fs) (letOwnedTupleGo target iv v) (λU s₂=>wpAny (model prog w) (A.over (.forLoop target iv body [] env) fs) (assign target env v) (λU s₃=>
     Seg (model prog w) A R Y n s₀ (.forLoop target iv body [] env) ((execs body env).wrap (λf=>match f with
      | .next| .cont=> .pure (.again (.forLoop target iv body [] env))
      | .brk=> .pure (.done .next)
      | .ret v=> .pure (.done (.ret v))) (λe=>(do noteFrame e env;theTreesLotGoes e:Sem Unit).wrap (λU=> .raise e) .raise id id) id id) fs s₃) GG s₂) GG s₁) GG s):
  Seg (model prog w) A R Y n s₀ (.forLoop target iv body [] env) ((model prog w).den (.forLoop target iv body [] env)) fs s:=by
 show Seg _ A R Y n s₀ _ ((forTurn target iv body [] env).onRaise (λx=>do noteFrame x env;theTreesLotGoes x)) fs s
 unfold forTurn
 rw[Sem.onRaise_eq_wrap]
 refine seg_bind_wrap (wpAny_standAt ?_)
 refine seg_bind_wrap (wpAny_onRaise (wpAny_mono h (λr s₁ h₁=> ?_) λU U e=>e.elim))
 cases r with
 |none=>exact seg_again rfl h₁
 |some v=>
  refine seg_bind_wrap (wpAny_mono h₁ (λU s₂ h₂=> ?_) λU U e=>e.elim)
  refine seg_bind_wrap (wpAny_mono h₂ (λU s₃ h₃=> ?_) λU U e=>e.elim)
  rw[Sem.bind_eq_wrap',Sem.wrap_wrap]
  rw[Sem.wrap_congr (execs body env) _ _ (K':=λf=>match f with
      | .next| .cont=> .pure (.again (.forLoop target iv body [] env))
      | .brk=> .pure (.done .next)
      | .ret v=> .pure (.done (.ret v))) (H':=(λe=>(do noteFrame e env;theTreesLotGoes e:Sem Unit).wrap (λU=> .raise e) .raise id id))
    (λf=>by cases f <;> rfl)
    (λe=>by first|exact Sem.bind_eq_wrap _ _|(show(do noteFrame e env;theTreesLotGoes e:Sem Unit).bind (λU=> .raise e)=_;rw[Sem.bind_eq_wrap]))]
  exact h₃
def j9 {p:Pos}{gd':Bool}{lv':List Value}(h:Seg (model prog w) A R Y n s₀ c (K .next) fs s):
  Seg (model prog w) A R Y n s₀ (.block [] env) ((model prog w).den (.block [] env)) (.ret (Nf env K H gd lv) none gd' lv' c p []::fs) s:=by
 show Seg _ A R Y n s₀ _ (leafOf (.ok .next)) _ s
 refine seg_leaf (.ok .next) ?_
 exact h
end
def Ic (L It:Addr)(s₀ s:Shared):Prop:=∃ h' tk,s= { s₀ with heap:=h',toks:=tk }/\∀ b o,b≠L->b≠It->s₀.heap.get? b=some o->h'.get? b=some o
theorem Ic.refl (L It:Addr)(s:Shared):Ic L It s s:=⟨s.heap,s.toks,rfl,λU U U U e=>e⟩
theorem Ic.step {L It:Addr}{s₀ s:Shared}(x:Ic L It s₀ s){h':Heap}{tk:Nat}(k:∀ b o,b≠L->b≠It->s.heap.get? b=some o->h'.get? b=some o):Ic L It s₀ { s with heap:=h',toks:=tk }:=by
 obtain⟨h1,t1,rfl,k1⟩:=x
 exact⟨h',tk,rfl,λb o h2 h3 e=>k b o h2 h3 (k1 b o h2 h3 e)⟩
structure WV (L It l:Addr)(N:Nat)(j:Nat)(s:Shared):Prop where
 it:s.heap.IsListIter It l j
 lst:∃ vals,s.heap.IsList l vals/\vals.size=N
 ns:∃ m,s.heap.Ns L m
def Vx (L It:Addr):GenEnd:=λn s₀ r s₁=>r= .ok (.ret .none)/\(n=0/\Ic L It s₀ s₁)
def TV (L It l:Addr)(N:Nat):Protocol:=λm s₀ v s kap=>Ic L It s₀ s/\(∃ vals,s₀.heap.IsList l vals/\vals.size=N/\vals[N - 1 - m]? =some v)/\s.heap.IsListIter It l (N - m)/\(∃ mm,s.heap.Ns L mm)/\∀ s'',WV L It l N (N - m) s''->kap (.send .none) s''
section
variable {prog:Program}{w:World}{A:Around}{K:Flow->Sem PySem.Fin}{H:Value->Sem PySem.Fin}{gd:Bool->Bool}{lv:List Value->List Value}{cF:Code}{p:Pos}{lv':List Value}{L It l:Addr}{N:Nat}{env:PySem.Env}{x:Str}{p1 p4 p5 p6:Pos}
def rG (hh:A.handled=none)(HY:env.locals=L)(hkd:env.scope.kind= .function)(QE:env.scope.isCoroutine=false)(hx:env.kindOf x=some .local)(hdb:(x==("__debug__":Str))=false)(hlL:l≠L)(hlI:l≠It)(hLI:L≠It)(hK:K .next= .pure (.done (.ret .none))):
  ∀ (k j:Nat) (s₀ s:Shared),N - j=k->j<=N->Ic L It s₀ s->WV L It l N j s->(∃ vals,s₀.heap.IsList l vals/\s.heap.IsList l vals/\vals.size=N)->
   Seg (model prog w) A (Vx L It) (TV L It l N) k s₀ (.forLoop (.Name x p1) (.ref It) [.Expr (.Yield (some (.Name x p4)) p5) p6] [] env) ((model prog w).den (.forLoop (.Name x p1) (.ref It) [.Expr (.Yield (some (.Name x p4)) p5) p6] [] env)) [.ret (Nf env K H gd lv) none false lv' cF p []] s:=by
 have hp:(env.scope.kind== .class||(env.scope.kind== .module && env.locals !=env.globals))=false:=by rw[hkd];rfl
 have hi:interactive env=false:=by unfold interactive;rw[hkd];rfl
 have hh':∀ c,(A.over c [.ret (Nf env K H gd lv) none false lv' cF p []]).handled=none:=λc=>hh
 intro k
 induction k with
 |zero=>
  intro j s₀ s hk hj hs hc hv
  obtain⟨vals,v0,v1,v2⟩:=hv
  refine fZ (wpAny_pyNext_list_end (hh' _) hc.it v1 (by rw[Array.getElem?_eq_none_iff];omega) λh' he=> ?_)
  refine j9 ?_
  rw[hK]
  exact seg_end (.ok (.ret .none)) ⟨rfl,rfl,hs.step λb o U hb e=>he b o hb e⟩
 |succ k ih=>
  intro j s₀ s hk hj hs hc hv
  obtain⟨vals,v0,v1,v2⟩:=hv
  have hjN:j < vals.size:=by omega
  refine fZ (wpAny_pyNext_list_item hc.it v1 (x:=vals[j]) (Array.getElem?_eq_getElem hjN) λh' hit' hsb=> ?_)
  dsimp only
  refine wpAny_of_eq (rfl:letOwnedTupleGo (.Name x p1) (.ref It) vals[j]=pure ()) ?_
  obtain⟨m0,hns⟩:=hc.ns
  have hns':h'.Ns L m0:=hns.sameBut hsb hLI
  refine wpAny_assign_Name (wpAny_storeName_local hx (by rw[HY];exact hns') (λh₂ hn₂ hs₂=> ?_) hp)
  rw[HY] at hn₂ hs₂
  have up:∀ b o,b≠L->b≠It->s.heap.get? b=some o->h₂.get? b=some o:=λb o h1 h2 e=>(hs₂.2 b h1).trans ((hsb.2 b h2).trans e)
  refine seg_execs_cons (seg_Expr_Yield rfl rfl rfl (wpAny_Name (wpAny_loadName_local (v:=vals[j]) hkd hx (by rw[HY];exact hn₂) (by simp) ?_) hdb) QE hi)
  intro kap hkap
  have hm:N - 1 - k=j:=by omega
  have hm2:N - k=j+1:=by omega
  refine⟨hs.step up,⟨vals,v0,v2,by rw[hm];exact Array.getElem?_eq_getElem hjN⟩,?_,⟨_,hn₂⟩,λs'' hg=> ?_⟩
  ·rw[hm2]
   obtain⟨o,e1,e2⟩:=hit'
   exact⟨o,(hs₂.2 It hLI.symm).trans e1,e2⟩
  ·rw[hm2] at hg
   refine hkap .none s'' ?_
   obtain⟨vals',w1,w2⟩:=hg.lst
   exact seg_again rfl (ih (j+1) s'' s'' (by omega) (by omega) (.refl ..) hg ⟨vals',w1,w1,w2⟩)
end
section
variable {prog:Program}{w:World}{A:Around}{E:Value->Shared->Prop}{s:Shared}
def oi {a:Addr}{g n:Nat}{gs:GenState}{P:Nat->Shared->Shared->Prop}{Y:Protocol}{Q:Option Value->Shared->Prop}(hh:A.handled=none)(hl:s.heap.NoLimit)(hroom:A.depth < recursionLimit)(hg:s.heap.IsGen a g)(hgs:s.gens[g]? =some gs)
  (hgo:gs.Goes (model prog w) A.in1 (λn s₀ r s₁=>r= .ok (.ret .none)/\P n s₀ s₁) Y n (.send .none) (s.setGen g .running))
  (hY:∀ v s₁ gs',gs'.bare=true->Y (n - 1) (s.setGen g .running) v s₁ (λr' s''=>match n with
    |0=>False
    |m+1=>gs'.Goes (model prog w) A.in1 (λn s₀ r s₁=>r= .ok (.ret .none)/\P n s₀ s₁) Y m r' s'')->Q (some v) (s₁.setGen g gs'))
  (hP:∀ s₁,P n (s.setGen g .running) s₁->∀ h',(∀ b o,s₁.heap.get? b=some o->h'.get? b=some o)->Q none { s₁.setGen g .finished with heap:=h' }):
  wpAny (model prog w) A (pyNext (.ref a)) Q E s:=by
 unfold pyNext
 refine wpAny_bind (wpAny_attempt (wpAny_callSpecial?_slot (name:=Str.ofString "__next__") hg.typeIs slot_gen_next (wpAny_call_entry slot_gen_next hg.typeIs entry_gen_next ?_ (args_gen_next _))))
 show wpAny _ A.in1 (Builtin.Generator.genWake (.ref a) (.send .none)) _ _ s
 unfold Builtin.Generator.genWake
 refine wpAny_bind (wpAny_holding (wpAny_genNumber hg (wpAny_bind (wpAny_genState hgs ?_))))
 have stop:∀ (k:Unit->Sem PySem.Fin) s₁,P n (s.setGen g .running) s₁->wpAny (model prog w) A.in1 (newExc (.type "StopIteration") [] >>=λe=>raiseNew e >>=k) (λfin s'=>∃ v,fin= .done (.ret v)/\wpAny (model prog w) A (pure (some v)) Q E s') (λe s'=>wpAny (model prog w) A (do if <-isInstance e (.type "StopIteration") then pure none else throw e) Q E s') (s₁.setGen g .finished):=λk s₁ hp=>by
  simp only[newExc,newTuple]
  refine wpAny_bind (wpAny_bind (wpAny_newObj_type (wpAny_bind (m:=firstArgMember _ _) (wpAny_of_eq (a:=Value.none) (by first|rfl|(simp only[firstArgMember];rfl)) (wpAny_newObj_type ?_ (by size_fits)))) (by size_fits)))
  simp only[raiseNew]
  refine wpAny_bind (wpAny_bind (wpAny_handled ?_))
  rw[show A.in1.handled=none from hh]
  refine wpAny_bind (wpAny_pure (wpAny_throw ?_))
  refine wpAny_bind (wpAny_isInstance (T:="StopIteration") (b:=true) ⟨_,Heap.get?_push_size _ rfl,rfl⟩ isSubtype_stop ?_)
  exact wpAny_pure (hP s₁ hp _ λb o hb=>Heap.get?_push_of_some _ (Heap.get?_push_of_some _ hb))
 cases gs with
 |running=>exact hgo.elim
 |finished=>exact hgo.elim
 |_=>
  refine wpAny_bind (wpAny_roomToWake hl hroom ?_)
  show wpAny _ A.in1 (.resume g (.send .none) [] _) _ _ s
  refine wpAny_resumeQ hgs hgo (λx s₁ hx=> ?_) (λv s₁ gs' hb hv=> ?_)
  ·obtain⟨rfl,hp⟩:=hx
   exact stop _ s₁ hp
  ·exact wpAny_pure ⟨v,rfl,wpAny_pure (hY v s₁ gs' hb hv)⟩
end
abbrev OO (c x self:Str)(p1 p2 p3 p4 p5 p6 p7:Pos):List Stmt:= [.For (.Name x p1) (.Attribute (.Name self p2) c p3) [.Expr (.Yield (some (.Name x p4)) p5) p6] [] p7]
section
variable {W:Bl}{A:Around}{s:Shared}{env:PySem.Env}{c x self:Str}{p1 p2 p3 p4 p5 p6 p7:Pos}
def nJ {v:Value}{l L:Addr}{vals:Array Value}(hW:W.Ok)(hK:Id W)(hg:∀ b o,W.g0.get? b=some o->s.heap.get? b=some o)(hh:A.handled=none)(HY:env.locals=L)(hkd:env.scope.kind= .function)(QE:env.scope.isCoroutine=false)
  (hx:env.kindOf x=some .local)(hs:env.kindOf self=some .local)(hdb:(x==("__debug__":Str))=false)(hdb2:(self==("__debug__":Str))=false){m:Str->Option Value}(hns:s.heap.Ns L m)(hm:m self=some v)(hv:Gj W s.heap c (.ref l) v)(hl:s.heap.IsList l vals)(hlL:l≠L):
  Seg (model W.prog W.w) A (Vx L s.heap.objs.size) (TV L s.heap.objs.size l vals.size) vals.size s (.func (OO c x self p1 p2 p3 p4 p5 p6 p7) env) ((model W.prog W.w).den (.func (OO c x self p1 p2 p3 p4 p5 p6 p7) env)) [] s:=by
 refine seg_func (seg_execs_cons (rF (λU=>rfl) ?_))
 refine cV hW hK hg (λQ' q=>wpAny_Name (wpAny_loadName_local hkd hs (by rw[HY];exact hns) hm q) hdb2) hv rfl ?_
 refine wpAny_pyIter_list (items:=vals) hl λp=> ?_
 have hLs:L < s.heap.objs.size:=let⟨_,_,_,e,_⟩:=hns;Heap.lt_size e
 have hls:l < s.heap.objs.size:=let⟨_,e,_⟩:=hl;Heap.lt_size e
 have up:∀ b o,s.heap.get? b=some o->(s.heap.push { cls:= .type "list_iterator",data:= .fields #[.ref l,.int 0 0] }).get? b=some o:=λb o e=>Heap.get?_push_of_some _ e
 have pN:(s.heap.push { cls:= .type "list_iterator",data:= .fields #[.ref l,.int 0 0] }).IsList l vals:=by
  obtain⟨o,e,r⟩:=hl
  exact⟨o,up _ _ e,r⟩
 exact rG (K:=λf=>match f with | .next=>(execs [] env).wrap (λf=> .pure (.done (.ret (match f with | .ret v=>v|_=> .none)))) (λe=>(leaving env e).wrap (λU=> .raise e) .raise id id) id id|f=> .pure (.done (.ret (match f with | .ret v=>v|_=> .none)))) (gd:=id) (lv:=id) hh HY hkd QE hx hdb hlL (Nat.ne_of_lt hls) (Nat.ne_of_lt hLs) rfl vals.size 0 s _ (Nat.sub_zero _) (Nat.zero_le _)
  ((Ic.refl L s.heap.objs.size s).step (tk:=s.toks+1) λb o U U e=>up b o e) ⟨⟨_,Heap.get?_push_size _ rfl,rfl,rfl⟩,⟨vals,pN,rfl⟩,m,hns.push _⟩ ⟨vals,hl,pN,rfl⟩
end
structure JM where
 sc:Scope
 qual:Str
 cdv:Value
 c:Str
 x:Str
 self:Str
 p1:Pos
 p2:Pos
 p3:Pos
 p4:Pos
 p5:Pos
 p6:Pos
 p7:Pos
 fit:Addr
abbrev JM.body (T:JM):List Stmt:=OO T.c T.x T.self T.p1 T.p2 T.p3 T.p4 T.p5 T.p6 T.p7
abbrev JM.fe (T:JM)(L:Addr):PySem.Env:=newEnv T.sc L mainGlobals [] (T.qual++".<locals>.") (some T.fit) T.cdv none builtinsNs
inductive S4 (W:Bl)(T:JM):Prop
 |mk (fo:Obj) (name:Str) (a1:Arg) (doc pm:Value) (an:Option Addr) (ct:Value) (e:W.g0.get? T.fit=some fo) (d:fo.data= .func (fnX name T.qual ⟨[],[a1],.none,[],[],.none,[]⟩ T.body T.sc [] .none .none doc pm an T.cdv ct)) (ec:W.g0.CodeRec T.cdv T.qual) (ea:a1.arg=T.self):S4 W T
structure Ps (W:Bl)(T:JM)(C:Nat):Prop where
 kind:T.sc.kind= .function
 co:T.sc.isCoroutine=false
 gen:T.sc.isGenerator=true
 cell:∀ q∈T.sc.names,q.2≠ .cell
 hx:T.sc.names.lookup T.x=some .local
 hs:T.sc.names.lookup T.self=some .local
 gx:good T.x=true
 gs:good T.self=true
 gc:good T.c=true
 own:AM (AI T.c) (own C)=true
 find:findIn W.K (.ref (W.ca C)) "__iter__"=some (some (.ref T.fit))
 fn:isFn W.K (.ref T.fit)=true
 obj:S4 W T
section
variable {W:Bl}{n:Nat}{nm:DI}{cf:Cc}{A:Around}{env:PySem.Env}{me:AZ}{g g':A8}{h h':H}{s s':Shared}{T:JM}{C:Nat}{tg:PySem.Expr}
def Os (c a C:Nat)(h:H):Option Nat:=AT (Ec h a) λi=>cond (Nat.beq i.C C) (AT (i.f c) V.ref?) none
def SK (c a C l:Nat)(xs:List V):Ci:=⟨xs,λh=>getL h l=some xs/\Os c a C h=some l,KY⟩
def Sx (c C a:Nat):M Ci:=λQ h=>AJ (Os c a C h) λl=>AJ (getL h l) λxs=>Q (SK c a C l xs) h
def oq {i:Nat}{gs gs':GenState}(hb:AllBare s.gens)(hbare:gs'.bare=true):
  AllBare ((s.setGen i gs).setGen i gs').gens/\∀ (k:Nat) (x:GenState),k≠i->s.gens[k]? =some x->((s.setGen i gs).setGen i gs').gens[k]? =some x:=by
 have h2:∀ (k:Nat),k≠i->((s.setGen i gs).setGen i gs').gens[k]? =s.gens[k]? :=λk hk=>by simp [Shared.setGen,Ne.symm hk]
 refine⟨λy hy=> ?_,λk x hk e=>(h2 k hk).trans e⟩
 obtain⟨k,hk,rfl⟩:=Array.mem_iff_getElem.mp hy
 by_cases q:k=i
 ·subst q
  simp only[Shared.setGen]
  simp [hbare]
 ·have e:=h2 k q
  rw[Array.getElem?_eq_getElem hk] at e
  exact hb _ (Array.mem_of_getElem? e.symm)
theorem Ok.QT (ho:Ok W g h s){X:Addr->Prop}{pn:Addr->Option Obj}{hp:Heap}{tk i:Nat}{gs0 gs' x:GenState}(k:∀ b o,¬ X b->s.heap.get? b=some o->hp.get? b=some o)(hX:∀ b,X b->s.heap.get? b=none\/∃ ob,g.pn b=some ob)
  (hpn:∀ b o,pn b=some o->(X b/\hp.get? b=some o)\/(¬ X b/\g.pn b=some o))(e:s.gens[i]? =some x)(hb:gs'.bare=true):Ok W ⟨g.im,pn,Ad g.gn i (some gs')⟩ h { s with heap:=hp,toks:=tk,gens:=((s.setGen i gs0).setGen i gs').gens }:=by
 have o1:=ho.pins (tk:=tk) k hX hpn
 obtain⟨z1,z2⟩:=oq (gs:=gs0) ho.gens hb
 refine o1.go (λU=>False) (λU U e=>e) (λU U U e=>e) (λb o e=> .inl ⟨e,id⟩) (λb o e=>⟨(o1.Dz b o e).1,.inl ⟨e,id⟩⟩) (λb o e=> .inl ⟨id,e,λU U=>⟨id,rfl⟩⟩) (λU U=>id) rfl z1 λj y q=> ?_
 have q:Ad g.gn i (some gs') j=some y:=q
 by_cases z:j=i
 ·subst z;rw[aa] at q;cases q;exact setGen_self (setGen_self e)
 ·rw[ab _ _ z] at q;exact z2 j y z (ho.Ii j y q)
abbrev Tq (L:Addr):Addr->Prop:=λb=>L<=b
structure Pr (i:Nat)(o:Obj):Prop where
 ex:∃ nm qn,o.cls= .type "generator"/\o.data= .fields #[.int i 0,nm,qn]/\o.slots= #[]
inductive QJ (W:Bl)(T:JM)(A:Around)(i L a l:Nat)(xs r:List V)(g:A8):Prop
 |fresh (er:r=xs) (oL oG:Obj) (m:Str->Option Value) (pL:g.pn L=some oL) (hns:∀ hp:Heap,hp.get? L=some oL->hp.Ns L m) (hm:m T.self=some (.ref a)) (iG:g.im (L+1)=some oG) (tG:Pr i oG) (eg:g.gn i=some (.fresh (.func T.body (T.fe L)))):QJ W T A i L a l xs r g
 |run (j It:Nat) (oL oI oG:Obj) (gs:GenState) (hj:j<=xs.length) (er:r=xs.drop j) (pL:g.pn L=some oL) (hns:∀ hp:Heap,hp.get? L=some oL->∃ m,hp.Ns L m) (pI:g.pn It=some oI) (tI:Jl "list_iterator" #[.ref l,.int j 0] oI) (LI:L < It) (iG:g.im (L+1)=some oG) (tG:Pr i oG) (eg:g.gn i=some gs)
   (go:∀ s'',WV L It l xs.length j s''->gs.Goes (model W.prog W.w) A.in1 (Vx L It) (TV L It l xs.length) (xs.length - j) (.send .none) s''):QJ W T A i L a l xs r g
theorem QJ.gen {i L a l:Nat}{xs r:List V}(st:QJ W T A i L a l xs r g)(o:Ok W g h s):s.heap.IsGen (L+1) i/\∃ oG,g.im (L+1)=some oG/\oG.cls= .type "generator":=by
 cases st with
 |fresh er oL oG m pL hns hm iG tG eg=>obtain⟨n1,n2,t⟩:=tG.ex;exact⟨⟨oG,n1,n2,o.F2 _ _ iG,t⟩,oG,iG,t.1⟩
 |run j It oL oI oG gs hj er pL hns pI tI LI iG tG eg go=>obtain⟨n1,n2,t⟩:=tG.ex;exact⟨⟨oG,n1,n2,o.F2 _ _ iG,t⟩,oG,iG,t.1⟩
def pW {hp:Heap}{L:Addr}{o:Obj}{m:Str->Option Value}(e:hp.get? L=some o)(n:hp.Ns L m)(hp':Heap)(e':hp'.get? L=some o):hp'.Ns L m:=by
 obtain⟨o',es,ep,z,r⟩:=n
 rw[e] at z;cases z
 exact⟨o,es,ep,e',r⟩
def jn {i L a l It j:Nat}{xs:List V}{gs:GenState}{oL oG:Obj}{R:Option Value->Shared->Prop}(hW:W.Ok)(hh:A.handled=none)(hroom:A.depth < recursionLimit)(o:Ok W g h s)(Bt:getL h l=some xs)(hj:j<=xs.length)(pL:g.pn L=some oL)(LI:L < It)(hIt:s.heap.get? It=none\/∃ ob,g.pn It=some ob)(nG:L+1≠It)
  (hgen:s.heap.IsGen (L+1) i)(iG:g.im (L+1)=some oG)(tG:Pr i oG)(eg:g.gn i=some gs)(go:gs.Goes (model W.prog W.w) A.in1 (Vx L It) (TV L It l xs.length) (xs.length - j) (.send .none) (s.setGen i .running))
  (kn:xs.drop j= []->∀ g' s',FV (Tq L) (λk=>k=i) g g'->Ok W g' h s'->R none s')(ks:∀ v r' w s',xs.drop j=v::r'->BR W A (letOwnedTupleGo tg (.ref (L+1)) w) (λU s₂=>JF W g h (Tq L) (λk=>k=i) (QJ W T A i L a l xs) v r' w s₂) s'->R (some w) s'):BR W A (pyNext (.ref (L+1))) R s:=by
 obtain⟨vals,m1,e1,e2,lv,zv⟩:=o.list (aM Bt)
 have hl:s.heap.IsList l vals:=⟨_,e1,rfl,m1,rfl⟩
 have nlL:l≠L:=λq=>aj (o.sep l _ (aM Bt)).2.1 ((congrArg g.pn q).trans pL)
 have nlI:l≠It:=λq=>hIt.elim (λz=>by rw[<-q,e1] at z;cases z) λ⟨ob,z⟩=>aj (o.sep l _ (aM Bt)).2.1 ((congrArg g.pn q).trans z)
 have hgi:=o.Ii _ _ eg
 have kX:∀ {h1:Heap},(∀ b ob,b≠L->b≠It->s.heap.get? b=some ob->h1.get? b=some ob)->∀ b ob,¬ two L It b->s.heap.get? b=some ob->h1.get? b=some ob:=λk b ob n e=>k b ob (bc n).1 (bc n).2 e
 have hX:∀ b,two L It b->s.heap.get? b=none\/∃ ob,g.pn b=some ob:=λb z=>z.elim (λz=>z▸ .inr ⟨_,pL⟩) λz=>z▸hIt
 refine oi (n:=xs.length - j) (P:=λn s₀ s₁=>n=0/\Ic L It s₀ s₁) (Y:=TV L It l xs.length) hh (hW.lim.keeps λb o' e=>o.old e) hroom hgen hgi go (λv s₁ gs' hb hy=> ?_) λs₁ hp h' hk'=> ?_
 ·obtain⟨⟨h1,t1,rfl,k1⟩,⟨vals',w1,w2,w3⟩,w4,w5,w6⟩:=hy
  have ev:vals'=vals:=by
   obtain⟨o1,q1,_,n1,d1⟩:=w1
   rw[show(s.setGen i .running).heap.get? l=_ from e1] at q1
   cases q1;cases d1;rfl
  subst ev
  have hlt:j < xs.length:=by
   rcases Nat.lt_or_ge j xs.length with q|q
   ·exact q
   ·exfalso
    have e0:xs.length - j=0:=by omega
    simp only[e0] at w6
    have hj0:xs.length - j - 1=0:=by omega
    rw[hj0] at w4
    exact w6 _ ⟨w4,⟨vals',⟨_,k1 _ _ nlL nlI e1,rfl,m1,rfl⟩,by rw[lv]⟩,w5⟩
  obtain⟨M,hM⟩:∃ M,xs.length - j=M+1:=⟨xs.length - j - 1,by omega⟩
  have e0:xs.length - 1 - (xs.length - j - 1)=j:=by omega
  have e1':xs.length - (xs.length - j - 1)=j+1:=by omega
  rw[e0] at w3
  rw[e1'] at w4 w6
  obtain⟨w0,y1,y2⟩:=AE.get (vs:=xs) e2 (List.getElem?_eq_getElem hlt)
  have y1:=bT y1
  rw[w3] at y1;cases y1
  obtain⟨oI,q1,q2,q3⟩:=w4
  obtain⟨mm,hns⟩:=w5
  obtain⟨oL',hL'⟩:∃ oL',h1.get? L=some oL':=let⟨o',_,_,z,_⟩:=hns;⟨o',z⟩
  have o1:=o.QT (tk:=t1) (gs0:= .running) (kX k1) hX (fg hL' q1) hgi hb
  have nGL:L+1≠L:=Nat.succ_ne_self _
  obtain⟨_,_,tc,_,_⟩:=tG.ex
  refine ks xs[j] (xs.drop (j+1)) v _ (List.drop_eq_getElem_cons hlt) (cj (o:=oG) (o1.F2 _ _ iG) tc (by decide+kernel) (.mk ⟨g.im,Ad (Ad g.pn It (some oI)) L (some oL'),Ad g.gn i (some gs')⟩ ⟨λU U e=>e,λb nb=> ?_,λk nk=>ab _ _ nk⟩ o1 (y2.same rfl)
   (.run (j+1) It oL' oI oG gs' hlt rfl (aa ..) (λhp e=>⟨mm,pW hL' hns hp e⟩) ((ab _ _ (Nat.ne_of_gt LI)).trans (aa ..)) ⟨q2,q3⟩ LI iG tG (aa ..) λs'' hgc=> ?_)))
  ·have n1:b≠L:=λz=>nb (z▸Nat.le_refl _)
   have n2:b≠It:=λz=>nb (z▸Nat.le_of_lt LI)
   exact(ab _ _ n1).trans (ab _ _ n2)
  ·have :=w6 s'' hgc
   have e3:xs.length - (j+1)=M:=by omega
   rw[hM] at this
   rw[e3]
   exact this
 ·obtain⟨h0,h1,t1,rfl,k1⟩:=hp
  have o1:=o.QT (pn:=Ad (Ad g.pn It none) L none) (tk:=t1) (hp:=h') (gs0:= .running) (gs':= .finished) (kX λb ob n1 n2 e=>hk' b ob (k1 b ob n1 n2 e)) hX (λb ob e=> ?_) hgi rfl
  ·refine kn (List.drop_of_length_le (by omega)) ⟨g.im,Ad (Ad g.pn It none) L none,Ad g.gn i (some .finished)⟩ _ ⟨λU U e=>e,λb nb=> ?_,λk nk=>ab _ _ nk⟩ o1
   have n1:b≠L:=λz=>nb (z▸Nat.le_refl _)
   have n2:b≠It:=λz=>nb (z▸Nat.le_of_lt LI)
   exact(ab _ _ n1).trans (ab _ _ n2)
  ·have e:Ad (Ad g.pn It none) L none b=some ob:=e
   by_cases z:b=L
   ·subst z;rw[aa] at e;cases e
   ·rw[ab _ _ z] at e
    by_cases z2:b=It
    ·subst z2;rw[aa] at e;cases e
    ·rw[ab _ _ z2] at e;exact .inr ⟨λy=>y.elim z z2,e⟩
def pG {i L a l:Nat}{xs:List V}(hW:W.Ok)(hk:Id W)(hh:A.handled=none)(hroom:A.depth < recursionLimit)(ok:Ps W T C):NH W A tg (.ref (L+1)) (SK (AI T.c) a C l xs) (Tq L) (λk=>k=i) (QJ W T A i L a l xs) where
 keep st k p y:=by
  cases st with
  |fresh er oL oG m pL hns hm iG tG eg=>exact .fresh er oL oG m ((p _ (Nat.le_refl _)).trans pL) hns hm (k _ _ iG) tG ((y _ rfl).trans eg)
  |run j It oL oI oG gs hj er pL hns pI tI LI iG tG eg go=>exact .run j It oL oI oG gs hj er ((p _ (Nat.le_refl _)).trans pL) hns ((p _ (Nat.le_of_lt LI)).trans pI) tI LI (k _ _ iG) tG ((y _ rfl).trans eg) go
 self _ st o Bt q:=wpAny_pyIter_gen (st.gen o).1 q
 next:=λ {r r2 g h s R} st o Bt sk kn ks=>by
  have e:=sk.same λv=>rfl
  subst e
  obtain⟨hst1,hst2⟩:getL h l=some xs/\Os (AI T.c) a C h=some l:=Bt
  have hgen:=(st.gen o).1
  cases st with
  |fresh er oL oG m pL hns hm iG tG eg=>
   subst er
   refine aI hst2 λii e1 e2=> ?_
   cases e3:Nat.beq ii.C C with
   |false=>rw[e3] at e2;cases e2
   |true=>
    rw[e3] at e2
    obtain⟨u,e4,e5⟩:=aG (show AT (ii.f (AI T.c)) V.ref? =some l from e2)
    cases V.Il e5
    obtain⟨w,rw',av⟩:=dE o e1 ok.gc (by rw[Nat.eq_of_beq_eq_true e3];exact ok.own) e4
    cases rw'
    obtain⟨vals,m1,f1,f2,lv,zv⟩:=o.list (aM hst1)
    have hl:s.heap.IsList l vals:=⟨_,f1,rfl,m1,rfl⟩
    have nlL:l≠L:=λq=>aj (o.sep l _ (aM hst1)).2.1 ((congrArg g.pn q).trans pL)
    have sg:=nJ (A:=A.in1) (s:=s.setGen i .running) (env:=T.fe L) (c:=T.c) (x:=T.x) (self:=T.self) (p1:=T.p1) (p2:=T.p2) (p3:=T.p3) (p4:=T.p4) (p5:=T.p5) (p6:=T.p6) (p7:=T.p7) hW hk (λb o' e=>o.old e) hh rfl ok.kind ok.co ok.hx ok.hs (aZ ok.gx) (aZ ok.gs) (hns _ (o.Dk _ _ pL)) hm av hl nlL
    rw[lv] at sg
    have hG:=Heap.lt_size (o.F2 _ _ iG)
    exact jn (It:=s.heap.objs.size) (j:=0) hW hh hroom o hst1 (Nat.zero_le _) pL (Nat.lt_of_succ_lt hG) (.inl (al _)) (Nat.ne_of_lt hG) hgen iG tG eg ⟨rfl,sg⟩ kn ks
  |run j It oL oI oG gs hj er pL hns pI tI LI iG tG eg go=>
   obtain⟨vals,m1,f1,f2,lv,zv⟩:=o.list (aM hst1)
   refine jn hW hh hroom o hst1 hj pL LI (.inr ⟨_,pI⟩) (λq=>aj (o.Dz _ _ pI).1 (q▸iG)) hgen iG tG eg (go (s.setGen i .running) ⟨⟨oI,o.Dk _ _ pI,tI.c,tI.d⟩,⟨vals,⟨_,f1,rfl,m1,rfl⟩,lv⟩,hns _ (o.Dk _ _ pL)⟩) (λz=>kn (er.trans z)) λv r' w s' z=>ks v r' w s' (er.trans z)
end
section
variable {W:Bl}{n:Nat}{nm:DI}{cf:Cc}{A:Around}{env:PySem.Env}{me:AZ}{g g':A8}{h h':H}{s s':Shared}{T:JM}{C:Nat}{tg:PySem.Expr}
def ia:∃ r,typeLookup (.type "generator") "__next__"=pure (some r):=⟨_,slot_gen_next.lookup⟩
def mL {x C f:Addr}{ox:Obj}{od:Option Obj}{K:Frag}{prog:Program}{w:World}{A:Around}{E:Value->Shared->Prop}{s:Shared}{Q:Value->Shared->Prop}(X:K.In s.heap)(I:InstAt s.heap x ox C od)(hs:findIn K (.ref C) "__iter__"=some (some (.ref f)))(hf:isFn K (.ref f)=true)
  (h:wpAny (model prog w) A (call (.ref f) [.ref x]) (λv s'=>s'.TypeIs v "generator"/\Q v s') E s):wpAny (model prog w) A (pyIter (.ref x)) Q E s:=by
 have fin:wpAny (model prog w) A (call (.ref f) [.ref x] >>=λv=>pure (some v)) (λr s'=>∃ v,r=some v/\s'.TypeIs v "generator"/\Q v s') E s:=
  wpAny_bind (wpAny_mono h (λv s' h'=>wpAny_pure ⟨v,rfl,h'⟩) λU U z=>z)
 have one:∀ refuse:Sem Value,wpAny (model prog w) A (callSpecialIfBoundUnlessNone? (.ref x) "__iter__" refuse) (λr s'=>∃ v,r=some v/\s'.TypeIs v "generator"/\Q v s') E s:=λrefuse=>by
  simp only[callSpecialIfBoundUnlessNone?,bindSpecialIfBound?]
  refine wpAny_holding (wpAny_bind (wpAny_bind (wpAny_bind (I.type.here ((looks_findIn X hs).here ?_)))))
  refine wpAny_bind (wpAny_askSetting (wpAny_ite ?_))
  have fin2:wpAny (model prog w) A (if(Value.ref f==Value.none)=true then(refuse >>=λv=>pure (some v)) else(call (.ref f) [.ref x] >>=λv=>pure (some v))) (λr s'=>∃ v,r=some v/\s'.TypeIs v "generator"/\Q v s') E s:=by
   rw[if_neg (show ¬ ((Value.ref f==Value.none)=true) from Bool.false_ne_true)]
   exact fin
  split
  ·exact wpAny_bind ((bind_fn X _ (beq_iff_eq.mp hf)).here (wpAny_pure (by exact fin2)))
  ·exact wpAny_tryCatch (wpAny_bind ((bind_fn X _ (beq_iff_eq.mp hf)).here (wpAny_pure (by exact fin2))))
 unfold pyIter
 refine wpAny_bind (wpAny_bind (I.type.here ((looks_findIn X hs).here ?_)))
 show wpAny _ A (callSpecialIfBoundUnlessNone? (.ref x) "__iter__" _ >>=_) Q E s
 refine wpAny_bind (wpAny_mono (one _) (λr s' hr=> ?_) λU U z=>z)
 obtain⟨v,rfl,EP,CX⟩:=hr
 obtain⟨r,hr⟩:=ia
 exact wpAny_bind (wpAny_specialOf EP hr (wpAny_pure CX))
theorem Ok.VJ (ho:Ok W g h s){x:GenState}(hx:x.bare=true):Ok W { g with gn:=Ad g.gn s.gens.size (some x) } h { s with gens:=s.gens.push x }:=by
 refine ho.go (λU=>False) (λU U e=>e) (λU U U e=>e) (λb o e=> .inl ⟨e,id⟩) (λb o e=>⟨(ho.Dz b o e).1,.inl ⟨e,id⟩⟩) (λb o e=> .inl ⟨id,e,λU U=>⟨id,rfl⟩⟩) (λU U=>id) rfl (λy hy=>(Array.mem_push.mp hy).elim (ho.gens y) λq=>by rw[q];exact hx) λj y q=> ?_
 have q:Ad g.gn s.gens.size (some x) j=some y:=q
 show(s.gens.push x)[j]? =some y
 by_cases z:j=s.gens.size
 ·subst z;rw[aa] at q;cases q;simp
 ·rw[ab _ _ z] at q
  rw[Array.getElem?_push,if_neg z];exact ho.Ii j y q
def lA {n:Nat}(hW:W.Ok)(hk:Id W)(ok:Ps W T C):Pq W n tg false (Sx (AI T.c) C):=λ {A g h s a C' d f Q} hA ho e q=>by
 refine ao q λl el q=> ?_
 refine ao q λxs ex q=> ?_
 refine aI el λii e1 e2=> ?_
 have eC:ii.C=C:=by
  cases e3:Nat.beq ii.C C with
  |false=>rw[e3] at e2;cases e2
  |true=>exact Nat.eq_of_beq_eq_true e3
 obtain⟨es,k,I,wd,ed,dr⟩:=ho.inst e1
 rw[eC] at I
 have old:∀ b o,W.g0.get? b=some o->s.heap.get? b=some o:=λb o e=>ho.old e
 refine mL (dq hW ho) I ok.find ok.fn (wpAny_call ?_)
 obtain⟨fo,name,a1,doc,pm,an,ct,q1,q2,q3,q5⟩:=ok.obj
 refine codeAny_call_generator (fd:=fnX name T.qual _ T.body T.sc [] .none .none doc pm an T.cdv ct) hA.room (old _ _ q1) q2 ok.co ok.gen rfl (q3.keeps old) ?_
 have hb:=ja (s:=s) (fd:=fnX name T.qual ⟨[],[a1],none,[],[],none,[]⟩ T.body T.sc [] .none .none doc pm an T.cdv ct) (pos:= [.ref a]) (kw:= []) (P:= [T.self]) (K:= []) (dv:= []) (km:=λU=>none) (r0:=none) rfl (by show [a1.arg]=_;rw[q5]) rfl rfl rfl (λM A E Q CX=>wpAny_pure CX) rfl (.inl ⟨rfl,rfl⟩) (Nat.le_refl _) (Nat.zero_le _) (λp hp=>by cases hp) List.nodup_nil
  (λy hy=>by cases List.mem_singleton.mp hy;simp [Et]) λy hy=>by have :=List.mem_of_mem_take hy;cases List.mem_singleton.mp this;simp
 refine hb _ _ _ _ ?_
 have eb:(([T.self]++ []).filterMap λy=>(Et [T.self] [] [.ref a] [] [] (λU=>none) y).map (y,·))= [(T.self,.ref a)]:=by simp [Et]
 rw[eb]
 refine wpAny_newFunctionEnv ok.cell (λp hp=>by cases List.mem_singleton.mp hp;exact ok.hs) (λh₁ hns hsb=> ?_) ok.kind
 have up:∀ b ob,s.heap.get? b=some ob->h₁.get? b=some ob:=λb ob e=>(hsb.2 b (Nat.ne_of_lt (Heap.lt_size e))).trans (Heap.get?_push_of_some _ e)
 refine⟨(hW.lim.keeps old).keeps up,?_⟩
 have hsz:h₁.objs.size=s.heap.objs.size+1:=hsb.1.trans (Heap.size_push ..)
 have fr:∀ b,s.heap.objs.size<=b->g.pn b=none/\g.im b=none:=λb hb=>have f:=ho.fresh (Heap.get?_none_of_le hb);⟨f.2.2.1,f.2.1⟩
 dsimp only
 generalize HY:s.heap.objs.size=L at hns hsb hsz fr ⊢
 have hLn:s.heap.get? L=none:=by rw[<-HY];exact al _
 obtain⟨oL,esL,epL,hLo,hLr⟩:=id hns
 generalize hgo:({ cls:= .type "generator",data:= .fields #[.int s.gens.size 0,.str name (s.toks+1),.str T.qual (s.toks+1+1)] }:Obj)=oG
 have tG:Pr s.gens.size oG:=by rw[<-hgo];exact⟨_,_,rfl,rfl,rfl⟩
 have o1:=ho.pinned (tk:=s.toks) (λb ob U e=>up b ob e) (.inl hLn) hLo
 have hGn:h₁.get? (L+1)=none:=Heap.get?_none_of_le (by rw[hsz];exact Nat.le_refl _)
 have hGo:(h₁.push oG).get? (L+1)=some oG:=by rw[<-hsz];exact Heap.get?_push_size _ (by rw[<-hgo];rfl)
 have o2:=o1.laid (tk:=s.toks+1+1+1) (λb ob e=>Heap.get?_push_of_some _ e) hGn hGo
 have o3:=o2.VJ (x:= .fresh (.func T.body (T.fe L))) rfl
 rw[hsz]
 refine⟨⟨oG,hGo,by rw[<-hgo]⟩,?_⟩
 refine IJ.mk ⟨Ad g.im (L+1) (some oG),Ad g.pn L (some oL),Ad g.gn s.gens.size (some (.fresh (.func T.body (T.fe L))))⟩ (Tq L) (λk=>k=s.gens.size) ?_ (λb hb=>fr b hb) (λz=>nomatch z) (λi hi=> ?_) h o3 (SK (AI T.c) a C l xs) _ (pG hW hk hA.handled hA.room ok) (.fresh rfl oL oG _ (aa ..) (λhp e=>pW hLo hns hp e) (by simp) (aa ..) tG (aa ..)) q
 ·exact⟨λb o e=>(ab _ _ λz=>aj (fr b (by rw[z];exact Nat.le_succ _)).2 e).trans e,λb nb=>ab _ _ λz=>nb (z▸Nat.le_refl _),λk nk=>ab _ _ nk⟩
 ·subst hi
  exact aP λx hx=>by have :=ho.Ii _ _ hx;rw[Array.getElem?_eq_none (Nat.le_refl _)] at this;cases this
end
inductive Tc (W:Bl)(f C:Nat)(x:Str):Prop
 |mk (fo:Obj) (fd:FuncData) (ar:Arg) (cc:Addr) (oc:Obj) (e:W.g0.get? (W.fa f)=some fo) (d:fo.data= .func fd) (ea:(fd.params.posonlyargs++fd.params.args).head? =some ar) (ex:ar.arg=x) (ec:fd.closure= [(("__class__":Str),cc)]) (eo:W.g0.get? cc=some oc) (ed:oc.data= .cell (some (.ref (W.ca C)))):Tc W f C x
inductive QK (W:Bl)(f:Nat):Prop
 |mk (oc:Obj) (vs:Array Value) (file:Str) (tf:Tok) (e:W.g0.get? (W.cc f)=some oc) (d:oc.data= .fields vs) (v:vs[2]? =some (.str file tf)) (m:((W.prog.main.file:Str)==file)=true):QK W f
structure Td (W:Bl)(f f0 C:Nat)(x:Str):Prop where
 fn:Tc W f C x
 code:QK W f
 top:(W.prog.main.scope.names.lookup ("super":Str)).isSome=false
 cls:∃ AI,clsIn W.K (W.ca C)=some AI
 sub:mroIn W.K (W.ca C) (.ref (W.ca C))=some true
 sup:ks_superIn W.K (W.ca C) (W.ca C) "__init__"=some (some (.ref (W.fa f0)))
 base:∃ fo fd,W.g0.get? (W.fa f0)=some fo/\fo.data= .func fd/\fo.cls= .type "function"
 any:nsIn W.K cStatics "thirdparty.any"=some none
 gx:good x=true
section
variable {W:Bl}{n:Nat}{nm:DI}{cf:Cc}{A:Around}{env:PySem.Env}{me:AZ}{g g':A8}{h h':H}{s s':Shared}
def Vl (x C f0:Nat)(mk:GX)(r:A2):A2:=λcf e Q h=>AJ (e x) λv=>AJ v.ref? λa=>AJ (Ec h a) λi=>i.C=C/\mk cf e (λus h=>cf f0 [.ref a] us (λU h=>r cf e Q h) h) h
def n6 {K:Frag}{C:Addr}{AI:ClassData}{h:Heap}(X:K.In h)(e:clsIn K C=some AI):∃ o,h.get? C=some o/\o.data= .cls AI:=by
 unfold clsIn at e
 split at e
 ·rename_i ho
  cases e
  exact⟨_,X _ _ ho,rfl⟩
 ·cases e
def lD {b f:Addr}{v:Value}{h:Heap}{of:Obj}{fd:FuncData}(e:h.get? b=some (methodObj (.ref f) v))(e2:h.get? f=some of)(hd:of.data= .func fd):Ki W (.ref b) h:=⟨.boundFrame,.inr (.inr rfl),by
 refine(Looks.ld (part:=none) e).andThen ?_
 refine(Looks.ld (part:=none) e2).andThen ?_
 obtain⟨_,_,_,_⟩:=of
 subst hd;exact .now⟩
def kU {f f0 C:Nat}{x:Str}{sc:Scope}{bx:List Stmt}{p p0 p1 ap pos:Pos}{ks:List Keyword}{mk:GX}{r:A2}(hh:DC W n cf)(HX:Td W f f0 C x)(hn:ks.length < 29)(hline:(ap.endLine==pos.line)=true)
  (hsu:sc.names.lookup ("super":Str)=some .globalImplicit)(JB:sc.names.lookup ("__class__":Str)=some .free)(hse:sc.names.lookup x=some .local)
  (h2:Mr W cf n ⟨some f,sc.names⟩ mk ks)(hr:I4 W cf n ⟨some f,sc.names⟩ r bx):
  Lm W cf n f sc (.Expr (.Call (.Attribute (.Call (.Name "super" p0) [] [] p1) "__init__" ap) [] ks pos) p::bx) (Vl (AI x) C f0 mk r):=λA env me g h s Q a he q=>by
 obtain⟨fo,fd,f1,f2,f3,f4,f5⟩:=he
 obtain⟨fo',fd',ar,cc,ocl,e1',d1',a1,a2,a3,a4,a5⟩:=HX.fn
 rw[f1] at e1';cases e1'
 rw[f2] at d1';cases d1'
 have hcells:env.cells= [(("__class__":Str),cc)]:=by
  rcases f5 with q|q
  ·rw[q] at a3;cases a3
  ·rw[q,a3]
 obtain⟨oc,vs,file,tf,b1,b2,b3,b4⟩:=HX.code
 obtain⟨k1,k2⟩:=a.code f rfl
 have Ma:env.scope.names=sc.names:=a.names
 have ksu:env.kindOf "super"=some .globalImplicit:=by unfold Env.kindOf;rw[Ma];exact hsu
 have kcl:env.kindOf "__class__"=some .free:=by unfold Env.kindOf;rw[Ma];exact JB
 have kse:env.kindOf x=some .local:=by unfold Env.kindOf;rw[Ma];exact hse
 refine ao q λv ev q1=> ?_
 refine ao q1 λi ei q2=> ?_
 cases V.Il ei
 refine ao q2 λii eii q3=> ?_
 obtain⟨hC,q4⟩:=q3
 have ho:=a.ok
 have old:∀ b o,W.g0.get? b=some o->s.heap.get? b=some o:=λb o e=>ho.old e
 have X:=dq hh.w ho
 obtain⟨oL,lm,pL,hns,hlm⟩:=a.BL.ns
 obtain⟨w,w1,w2⟩:=hlm x HX.gx kse _ ev
 cases w2
 obtain⟨es,k,I,wd,ed,dr⟩:=ho.inst eii
 rw[hC] at I
 obtain⟨cd',hcd⟩:=HX.cls
 obtain⟨oD,hD1,hD2⟩:=n6 X hcd
 obtain⟨of,ofd,hf1,SW,hf2⟩:=HX.base
 refine ks_wpAt_execs_cons (ks_wpAt_Expr_any ?_ (jp a) rfl)
 rw[arm_eval_Call]
 refine PySem.wpAt_bind (ks_wpAt_mono (ks_wpAt_super_base (E:=GG) (Q:=λv s₁=>∃ so h',v= .ref so/\so=s.heap.objs.size/\s₁= { s with heap:=h' }/\h'.get? so=some (ks_superObj (W.ca C) i (W.ca C))/\∀ y o,s.heap.get? y=some o->h'.get? y=some o) ksu kcl (by decide) f3 (old _ _ f1) f2 a1 k1 (old _ _ b1) b2 b3 b4 HX.top ?_) (λv s₁ z=> ?_) λU U e=>e.elim)
 ·refine ks_loadName_global a.BL.kind ksu (loadGlobal_builtin (env:=env) (by rw[a.BL.glob];exact hh.w.g.keeps old) (mg_none_of hh.w.K hh.w.g (hh.k.bi _ (by decide+kernel))) (by rw[a.BL.bi];exact hh.w.b.keeps old) ((hh.w.bi _ (by decide+kernel)).trans (by decide+kernel)) ⟨rfl,?_⟩)
  refine wpAny_loadName_free a.BL.kind kcl (by rw[hcells];rfl) ⟨_,old _ _ a4,a5⟩ ?_
  rw[a2]
  refine wpAny_loadName_local a.BL.kind kse (ho.ns pL hns) w1 ?_
  refine ks_wpAny_isType_cls hD1 hD2 ⟨rfl,?_⟩
  obtain⟨hp,gn,d,t,os⟩:=s
  refine ks_wpAny_call_super hD1 hD2 I.at_ I.cls (λc e=> ?_) (looks_mroIn X HX.sub) λh' e kk=>⟨_,h',rfl,rfl,rfl,e,kk⟩
  have :=I.no
  unfold notCls at this
  rw[e] at this
  exact Bool.noConfusion this
 ·obtain⟨so,h',rfl,rfl,rfl,hso,hk'⟩:=z
  refine PySem.wpAt_of_wpAny (wpAny_bind (wpAny_standAt ?_))
  unfold methodCall
  rw[mI (ms:=As) (xs:= []) .nil h2 (by rw[List.length_nil,Nat.zero_add];exact hn)]
  refine wpAny_bind (wpAny_holding ?_)
  show BR W A (getMethod (.ref s.heap.objs.size) "__init__" _) _ _
  have X':W.K.In h':=X.keeps hk'
  have hal:alongIn W.K "__init__" ((cd'.mro.dropWhile (· != .ref (W.ca C))).drop 1)=some (some (.ref (W.fa f0))):=by
   have :=HX.sup
   unfold ks_superIn at this
   rw[hcd] at this
   exact this
  refine ks_wpAny_getMethod_super hso (looks_opaque X' HX.any) (l₀:=cd'.mro) (λA Q E s k q=>wpAny_bind ((looks_clsIn X' hcd) A _ E s k (wpAny_pure q))) rfl X' hal (hk' _ _ (old _ _ hf1)) hf2 (ks_ne X I hcd) (by decide) ?_
  have up:∀ b ob,s.heap.get? b=some ob->(h'.push (methodObj (.ref (W.fa f0)) (.ref i))).get? b=some ob:=λb ob e=>Heap.get?_push_of_some _ (hk' b ob e)
  have hb1:(h'.push (methodObj (.ref (W.fa f0)) (.ref i))).get? h'.objs.size=some (methodObj (.ref (W.fa f0)) (.ref i)):=Heap.get?_push_size _ rfl
  have gI:s.heap.get? h'.objs.size=none:=aP λob z=>absurd (Heap.lt_size (hk' _ _ z)) (Nat.lt_irrefl _)
  have o1:=ho.laid (tk:=s.toks+1) up gI hb1
  have le1:=ho.Kr gI (methodObj (.ref (W.fa f0)) (.ref i))
  refine wpAny_bind ?_
  unfold methodCallPos
  rw[hline]
  refine wpAny_pure (bB (ms:=As) (xs:= []) (R:=λvs us h=>cf f0 (.ref i::vs) us (λU h=>r cf me Q h) h) (a.step le1 o1) .nil h2 q4 λg2 h2' s2 vs us ws wk le2 o2 r1 r2 U q=> ?_)
  ·have hb2:=o2.F2 _ _ (le2.im _ _ (aa ..))
   refine⟨lD hb2 (o2.old hf1) SW,wpAny_call (ks_codeAny_call_bound hb2 (codeAny_mono (hh.call (es:= .ref i::vs) (ws:= .ref i::ws) o2 a.room.w (.mk _ _ (iM (g:=g2) i) r1) r2 q) λr s3 z=> ?_))⟩
   obtain⟨w,s3,z⟩:=z
   obtain⟨g3,le3,h3,o3,v,rv,q⟩:=z
   exact PySem.wpAt_of_wpAny (ai (hr _ _ _ _ _ _ _ (((a.step le1 o1).step le2 o2).step le3 o3) q) λf s4 z=>z.after ((le1.trans le2).trans le3).toS)
end
inductive Lj (p:Prop):Type
 |no
 |ok (h:p)
inductive Cb {α:Type}(P:α->Prop):Type
 |no
 |ok (m:α) (h:P m)
def Lj.k {p:Prop}{β:Type}(t:Lj p)(d:β)(k:p->β):β:= @Lj.rec p (λU=>β) d k t
def Cb.k {α:Type}{P:α->Prop}{β:Type}(t:Cb P)(d:β)(k:∀ m,P m->β):β:= @Cb.rec α P (λU=>β) d k t
def Cb.b {α:Type}{P:α->Prop}{β:Type}{Q:β->Prop}(t:Cb P)(k:∀ m,P m->Cb Q):Cb Q:=t.k .no k
def Lj.b {p:Prop}{β:Type}{Q:β->Prop}(t:Lj p)(k:p->Cb Q):Cb Q:=t.k .no k
def DH (b:Bool):Lj (b=true):= @Bool.rec (λb=>Lj (b=true)) .no (.ok rfl) b
def OB {α:Type}(o:Option α):Cb λa:α=>o=some a:= @Option.rec α (λo=>Cb λa:α=>o=some a) .no (λa=> .ok a rfl) o
def GA (o:Option NameKind)(k:NameKind):Lj (o=some k):=(DH (o==some k)).k .no λh=> .ok (beq_iff_eq.mp h)
def Mn (nm:DI)(x:Str):Lj (nm.lookup x=some .globalImplicit):=GA _ _
def O9 (a b:Pos):Lj ((a.endLine==b.line)=true):=DH _
section
variable {F:PySem.Expr->Type}(x:PySem.Expr)(d:F x)
@[elab_as_elim] def To (k:∀ f a ks p,F (.Call f a ks p)):F x:=by
 cases x with
 |Call f a ks p=>exact k f a ks p
 |_=>exact d
@[elab_as_elim] def LL (k:∀ o a p,F (.Attribute o a p)):F x:=by
 cases x with
 |Attribute o a p=>exact k o a p
 |_=>exact d
@[elab_as_elim] def Ju (k:∀ a p,F (.Name a p)):F x:=by
 cases x with
 |Name a p=>exact k a p
 |_=>exact d
@[elab_as_elim] def Xe (k:∀ a b s p,F (.Lambda a b s p)):F x:=by
 cases x with
 |Lambda a b s p=>exact k a b s p
 |_=>exact d
@[elab_as_elim] def Xd (k:∀ a b s p,F (.GeneratorExp a b s p)):F x:=by
 cases x with
 |GeneratorExp a b s p=>exact k a b s p
 |_=>exact d
@[elab_as_elim] def Xg (k:∀ a b p,F (.Subscript a b p)):F x:=by
 cases x with
 |Subscript a b p=>exact k a b p
 |_=>exact d
@[elab_as_elim] def Sw (k:∀ l j p,F (.Tuple l j p)):F x:=by
 cases x with
 |Tuple l j p=>exact k l j p
 |_=>exact d
@[elab_as_elim] def Wx (k:∀ c j p,F (.Constant c j p)):F x:=by
 cases x with
 |Constant c j p=>exact k c j p
 |_=>exact d
@[elab_as_elim] def XF (k:∀ a b c p,F (.Slice a b c p)):F x:=by
 cases x with
 |Slice a b c p=>exact k a b c p
 |_=>exact d
@[elab_as_elim] def XE (k:∀ l p,F (.BoolOp .Or l p)):F x:=by
 cases x with
 |BoolOp o l p=>cases o with
  |Or=>exact k l p
  |_=>exact d
 |_=>exact d
@[elab_as_elim] def Xf (k:∀ y p,F (.UnaryOp .Not y p)):F x:=by
 cases x with
 |UnaryOp o y p=>cases o with
  |Not=>exact k y p
  |_=>exact d
 |_=>exact d
end
@[elab_as_elim] def WS {F:Const->Type}(c:Const)(d:F c)(k:∀ i,F (.int i)):F c:=by
 cases c with
 |int i=>exact k i
 |_=>exact d
@[elab_as_elim] def WT {F:Const->Type}(c:Const)(d:F c)(k:∀ i,F (.str i)):F c:=by
 cases c with
 |str i=>exact k i
 |_=>exact d
section
variable {β:Type}{F:List β->Type}(l:List β)(d:F l)
@[elab_as_elim] def Mp (k:F []):F l:=by
 cases l with
 |nil=>exact k
 |cons _ _=>exact d
@[elab_as_elim] def Ms (k:∀ a l,F (a::l)):F l:=by
 cases l with
 |nil=>exact d
 |cons a l=>exact k a l
@[elab_as_elim] def Kh (k:∀ a,F [a]):F l:=by
 cases l with
 |nil=>exact d
 |cons a l=>cases l with
  |nil=>exact k a
  |cons _ _=>exact d
end
@[elab_as_elim] def T0 {β:Type}{F:Option β->Type}(o:Option β)(d:F o)(k:F none):F o:=by
 cases o with
 |none=>exact k
 |some _=>exact d
@[elab_as_elim] def Xy {β:Type}{F:Option β->Type}(o:Option β)(d:F o)(k:∀ b,F (some b)):F o:=by
 cases o with
 |none=>exact d
 |some b=>exact k b
@[elab_as_elim] def Fx {β:Type}[BEq β][LawfulBEq β]{F:β->Type}(a b:β)(d:F a)(k:F b):F a:=(DH (a==b)).k d λh=>(beq_iff_eq.mp h).symm▸k
@[elab_as_elim] def Uq {F:List Comprehension->Type}(l:List Comprehension)(d:F l)(k:∀ x p i f,F [⟨.Name x p,i,f,0⟩]):F l:=by
 cases l with
 |nil=>exact d
 |cons g l=>cases l with
  |cons _ _=>exact d
  |nil=>exact @Comprehension.casesOn (λg=>F [g]->F [g]) g (λt i f a=>Ju (F:=λt=>F [⟨t,i,f,a⟩]->F [⟨t,i,f,a⟩]) t (λd=>d) λx p d=>Fx a 0 d (k x p i f)) d
def vY {x:PySem.Expr}(h:Nat.beq x.ctorIdx 22=false):DA x:=by
 induction x using PySem.Expr.casesOn with
 |Starred=>exact gI h.symm
 |_=>exact λU U=>rfl
def I1 (x:PySem.Expr):Lj (DA x):=(DH (!Nat.beq x.ctorIdx 22)).k .no λh=> .ok (vY ((Bool.not_eq_true' _).mp h))
def KP (x:PySem.Expr):Lj (FG x):=by
 cases x with
 |Name=>exact .ok λU U U=>rfl
 |Attribute=>exact .ok λU U U=>rfl
 |Subscript=>exact .ok λU U U=>rfl
 |Call f xs ks p=>cases f with
  |Attribute=>exact .ok λU U U=>rfl
  |_=>exact .no
 |_=>exact .no
def Vf (x:PySem.Expr):Lj (OK x):=by
 cases x with
 |Name=>exact .ok λU U=>rfl
 |Attribute=>exact .ok λU U=>rfl
 |Subscript=>exact .ok λU U=>rfl
 |Call=>exact .ok λU U=>rfl
 |BinOp=>exact .ok λU U=>rfl
 |UnaryOp=>exact .ok λU U=>rfl
 |Constant=>exact .ok λU U=>rfl
 |_=>exact .no
def Wb (x:PySem.Expr):Lj (RT x):=by
 cases x with
 |Name=>exact .ok λU U=>rfl
 |Attribute=>exact .ok λU U=>rfl
 |Subscript=>exact .ok λU U=>rfl
 |Call=>exact .ok λU U=>rfl
 |ListComp=>exact .ok λU U=>rfl
 |_=>exact .no
def qQ {x:PySem.Expr}(h:(Nat.beq x.ctorIdx 8||Nat.beq x.ctorIdx 9||Nat.beq x.ctorIdx 10)=false):Oc x:=by
 induction x using PySem.Expr.casesOn with
 |ListComp=>exact gI h.symm
 |SetComp=>exact gI h.symm
 |DictComp=>exact gI h.symm
 |_=>exact λU U U=>rfl
def QV (x:PySem.Expr):Lj (Oc x):=(DH (!(Nat.beq x.ctorIdx 8||Nat.beq x.ctorIdx 9||Nat.beq x.ctorIdx 10))).k .no λh=> .ok (qQ ((Bool.not_eq_true' _).mp h))
def wN {x:PySem.Expr}(h:Nat.beq x.ctorIdx 7=false):∀ (env:PySem.Env) v,foldedSetIterable x env v=pure v:=by
 induction x using PySem.Expr.casesOn with
 |Set=>exact gI h.symm
 |_=>exact λU U=>rfl
def Ve (x:PySem.Expr):Lj (∀ (env:PySem.Env) v,foldedSetIterable x env v=pure v):=(DH (!Nat.beq x.ctorIdx 7)).k .no λh=> .ok (wN ((Bool.not_eq_true' _).mp h))
def WQ (x:PySem.Expr):Lj (Q9 x):=by
 cases x with
 |Name=>exact .ok ⟨λU=>rfl⟩
 |Attribute=>exact .ok ⟨λU=>rfl⟩
 |Subscript=>exact .ok ⟨λU=>rfl⟩
 |Tuple=>exact .ok ⟨λU=>rfl⟩
 |_=>exact .no
section
variable {W:Bl}{n:Nat}{cf:Cc}
def W9 (op:Operator):Cb λf:V->V->M V=>Ds W f (binaryOp op):=by
 cases op with
 |Add=>exact .ok _ qm
 |Sub=>exact .ok _ uR
 |Mult=>exact .ok _ tJ
 |FloorDiv=>exact .ok _ sY
 |Mod=>exact .ok _ tH
 |Pow=>exact .ok _ tS
 |_=>exact .no
def Uf (op:Operator):Cb λf:V->V->M V=>Ds W f (inplaceOp op):=by
 cases op with
 |Add=>exact .ok _ qF
 |Sub=>exact .ok _ qK
 |_=>exact .no
def Um (hW:W.Ok)(hk:Id W)(op:CmpOp):Cb λf:V->V->M V=>Ds W f (compareOp op):=by
 cases op with
 |Lt=>exact .ok _ vr
 |LtE=>exact .ok _ vq
 |Gt=>exact .ok _ vg
 |GtE=>exact .ok _ vf
 |Eq=>exact .ok _ vc
 |NotEq=>exact .ok _ vt
 |Is=>exact .ok _ vo
 |IsNot=>exact .ok _ tu
 |In=>exact .ok _ (vn hW hk)
 |_=>exact .no
end
section
variable {W:Bl}{n:Nat}{cf:Cc}
def rn {nm:DI}{m:A4}{y:PySem.Expr}{p pos:Pos}(hh:DC W (n+1) cf)(hk:nm.lookup ("tuple":Str)=some .globalImplicit)(hs:DA y)(h1:Bw W cf (n+1) nm m y):Bw W cf (n+1) nm (DP L4 m) (.Call (.Name "tuple" p) [y] [] pos):=λA env me g h s Q a q=>
 bM (ms:=Ah m As) (R:=λvs h=>match vs with | [v]=>L4 v Q h|_=>False) hh a hk nW (.cons _ _ _ _ hs h1 .nil) q λg' h' s' vs ws le o r q=>by
  cases vs with
  |nil=>exact q.elim
  |cons v vs=>cases vs with
   |cons _ _=>exact q.elim
   |nil=>cases r with |mk w ws r hr=>cases hr;exact ai (rZ hh.w hh.k a.room o r q) λU U z=>z.after le
end
structure Mt (W:Bl)(cf:Cc)(n:Nat)(mkr:Nat->Pos->Bool->Bool)(gen:Nat->M Ci):Prop where
 hh:DC W n cf
 gen:∀ tg,Pq W n tg false gen
 lam:OG W n
 Gz:∀ tg,Q3 W n tg
 tup:∀ {nm:DI} {m:A4} {y:PySem.Expr} {p pos:Pos},nm.lookup ("tuple":Str)=some .globalImplicit->DA y->Bw W cf n nm m y->Bw W cf n nm (DP L4 m) (.Call (.Name "tuple" p) [y] [] pos)
 WP:∀ f p q,mkr f p q=true->IG W f p (cond q "<genexpr>" "<lambda>")
def DD:Nat->M Ci:=λU U U=>False
def Tr (gen:Nat->M Ci)(b:Bool):Nat->M Ci:=cond b DD gen
section
variable {W:Bl}{n:Nat}{cf:Cc}{mkr:Nat->Pos->Bool->Bool}{gen:Nat->M Ci}
theorem Mt.lA (C:Mt W cf n mkr gen)(b:Bool)(tg:PySem.Expr):Pq W n tg b (Tr gen b):=by
 cases b with
 |true=>exact λU U U q=>q.elim
 |false=>exact C.gen tg
structure TU (W:Bl)(cf:Cc)(n:Nat) where
 e:∀ (nm:DI) (x:PySem.Expr),Cb λm:A4=>Bw W cf n nm m x
 b:∀ (nm:DI) (x:PySem.Expr),Cb λm:Ev=>Mu W cf n nm m x
 i:∀ (b:Bool) (nm:DI) (tg x:PySem.Expr),Cb λm:J7=>NL W cf n nm tg b m x
variable(C:Mt W cf n mkr gen)(hh:DC W n cf)(r:TU W cf n)(nm:DI)
noncomputable def args (xs:List PySem.Expr):Cb λms:HW=>Ll W cf n nm ms xs:=
 @List.rec PySem.Expr (λxs=>Cb λms:HW=>Ll W cf n nm ms xs) (.ok As .nil) (λx xs ih=>(I1 x).b λhs=>(r.e nm x).b λm h=>ih.b λms hr=> .ok (Ah m ms) (.cons m x ms xs hs h hr)) xs
noncomputable def kws (xs:List Keyword):Cb λms:GX=>Mr W cf n nm ms xs:=
 @List.rec Keyword (λxs=>Cb λms:GX=>Mr W cf n nm ms xs) (.ok Az .nil) (λx xs ih=>match x with
  |⟨some k,y,p⟩=>(DH (good k)).b λhk=>(r.e nm y).b λm h=>ih.b λms hr=> .ok (Aq (AI k) m ms) (.cons k p m y ms xs hk h hr)
  |⟨none,_,_⟩=> .no) xs
def TO (c:Const)(k:Nat)(p:Pos):Cb λm:A4=>Bw W cf n nm m (.Constant c k p):=by
 cases c with
 |none=>exact .ok _ rh
 |bool b=>exact .ok _ q8
 |int i=>exact .ok _ nF
 |str s=>exact(DH (good s)).b λh=> .ok _ (uq h)
 |_=>exact .no
def U6 (x:Str)(p:Pos):Cb λm:A4=>Bw W cf n nm m (.Name x p):=
 (DH (good x)).b λhx=>(DH (LE (nm.lookup x))).k
  ((Mn nm x).b λhk=>(OB (look (AI x) Py)).b λi hi=> .ok _ (uf hh hx hk hi)) λhk=> .ok _ (cS hx hk)
def RW (o:PySem.Expr)(a:Str)(p:Pos):Cb λm:A4=>Bw W cf n nm m (.Attribute o a p):=
 (DH (good a)).b λha=>(KP o).b λhb=>(r.e nm o).b λm h=> .ok _ (nE hh ha hb h)
def U2 (o:PySem.Expr)(a:Str)(p:Pos):Cb λm:A4=>Bw W cf n nm m (.Attribute o a p):=by
 cases o with
 |Name c p0=>exact(Mn nm c).k (RW hh r nm (.Name c p0) a p) λhk=>(DH (good c)).b λhc=>(DH (good a)).b λha=>(OB (KT Re (AI c) (AI a))).b λi hi=> .ok _ (ua hh hc ha hk hi)
 |_=>exact RW hh r nm _ a p
def V4 (x y:PySem.Expr)(p:Pos):Cb λm:A4=>Bw W cf n nm m (.Subscript x y p):=
 (r.e nm x).b λm h=>XF y ((Vf y).b λhy=>(r.e nm y).b λm2 h2=> .ok _ (ui hy h h2)) λl u s p'=>Xy l .no λl=>T0 s .no ((r.e nm l).b λm2 h2=> @Option.casesOn _ (λu=>Cb λm:A4=>Bw W cf n nm m (.Subscript x (.Slice (some l) u none p') p)) u (.ok _ (rj h h2)) λu=>(r.e nm u).b λm3 h3=> .ok _ (rk h h2 h3))
def P7 {f:V->M V}{x:Str}{b:Value}{m:A4}{y:PySem.Expr}(p pos:Pos)(hs:DA y)(h:Bw W cf n nm m y)(hf:O5 W f λw=>call b [w])(hx:HN x b):Cb λm:A4=>Bw W cf n nm m (.Call (.Name x p) [y] [] pos):=
 (Mn nm x).b λhk=> .ok _ (tY hh hf hx hk hs h)
def VK (fn:Str)(y:PySem.Expr)(p pos:Pos):Cb λm:A4=>Bw W cf n nm m (.Call (.Name fn p) [y] [] pos):=
 (I1 y).b λhs=>(r.e nm y).b λm h=>
  Fx fn "len" (Fx fn "abs" (Fx fn "sum" (Fx fn "min" (Fx fn "list" (Fx fn "tuple" .no
   ((Mn nm "tuple").b λhk=> .ok (DP L4 m) (C.tup hk hs h))) (P7 hh nm p pos hs h oE qr)) (P7 hh nm p pos hs h qP mf)) (P7 hh nm p pos hs h uT eB)) (P7 hh nm p pos hs h sx sF)) (P7 hh nm p pos hs h tC sG)
def Ug {f:V->V->M V}{x:Str}{b:Value}{m m2:A4}{y z:PySem.Expr}(p pos:Pos)(hs:DA y)(hs2:DA z)(h:Bw W cf n nm m y)(h2:Bw W cf n nm m2 z)(hf:Ds W f λw u=>call b [w,u])(hx:HN x b):Cb λm:A4=>Bw W cf n nm m (.Call (.Name x p) [y,z] [] pos):=
 (Mn nm x).b λhk=> .ok _ (tZ hh hf hx hk hs hs2 h h2)
def Vt (fn:Str)(y z:PySem.Expr)(p pos:Pos):Cb λm:A4=>Bw W cf n nm m (.Call (.Name fn p) [y,z] [] pos):=
 (I1 y).b λhs=>(I1 z).b λhs2=>(r.e nm y).b λm h=>(r.e nm z).b λm2 h2=>
  Fx fn "min" (Fx fn "max" .no (Ug hh nm p pos hs hs2 h h2 tD sH)) (Ug hh nm p pos hs hs2 h h2 tF mf)
def VP (params:Arguments)(body:PySem.Expr)(sc:Scope):Cb λc:Nat=>Od c params body sc:=
 params.casesOn λpo as va ko kd kw de=>Kh as .no λx=>LL body .no λo t p2=>Ju o .no λy p1=>Mp po .no (T0 va .no (Mp ko .no (Mp kd .no (T0 kw .no (Mp de .no (Fx y x.arg .no
  ((DH (good t)).b λhb=>(DH (Lw sc)).b λhs=>(GA (sc.names.lookup x.arg) .local).b λhn=>(DH (good x.arg)).b λhx=> .ok (AI t) (.mk x t sc p1 p2 hb rfl hs hn hx))))))))
def UX (f:Nat)(p:Pos)(q:Bool):Lj (IG W f p (cond q "<genexpr>" "<lambda>")):=(DH (mkr f p q)).k .no λhm=> .ok (C.WP f p q hm)
def SG (fn:Str)(l v:PySem.Expr)(p pos:Pos):Cb λm:A4=>Bw W cf n nm m (.Call (.Name fn p) [l,v] [] pos):=
 Xe l .no λps bd sc lp=>To v .no λf as ks vp=>LL f .no λo t ap=>Mp as .no (Mp ks .no (Fx fn "filter" .no (Fx t "values" .no
  ((OB nm.f).b λf hf=>(UX C f lp false).b λhm=>(Mn nm "filter").b λhk=>(VP ps bd sc).b λc' tx=>(KP o).b λhb=>(O9 ap vp).b λhl=>(r.e nm o).b λm h=> .ok (ON c' m) (ue hh hf hm hk tx hb hl h)))))
def wO {x y c1 c2 c3 c4:Str}(h:(good x && (good y && (x !=y && (good c1 && (good c2 && (good c3 && good c4))))))=true):NQ x y c1 c2 c3 c4:=by
 simp only[Bool.and_eq_true,bne_iff_ne] at h
 obtain⟨a,b,c,d,e,f,g⟩:=h
 exact⟨a,b,c,d,e,f,g⟩
def wP {x y:Str}{sc:Scope}(h:(sc.kind== .function && (!sc.isCoroutine && sc.names== [((".0":Str),.local),(y,.local),(x,.free)]))=true):LH x y sc:=by
 simp only[Bool.and_eq_true,beq_iff_eq,Bool.not_eq_true'] at h
 exact⟨h.1,h.2.1,h.2.2⟩
def V5 (fn:Str)(gx:PySem.Expr)(p pos:Pos):Cb λm:A4=>Bw W cf n nm m (.Call (.Name fn p) [gx] [] pos):=
 Fx fn "sum" .no (Xd gx .no λex gs sc gp=>LL ex .no λo c3 p7=>Ju o .no λy px=>Uq gs .no λy2 pt it ifs=>Fx y2 y .no (LL it .no λo c4 pi2=>Ju o .no λx pi1=>Kh ifs .no λbo=>XE bo .no λl p6=>Ms l .no λu l=>Kh l .no λv=>LL u .no λo c1 p2=>Ju o .no λx2 p1=>Fx x2 x .no (Xf v .no λw p5=>LL w .no λo c2 p4=>Ju o .no λy3 p3=>Fx y3 y .no
  ((OB nm.f).b λf hf=>(UX C f gp true).b λhm=>(Mn nm "sum").b λhk=>(GA (nm.lookup x) .cell).b λhks=>
  (DH (good x && (good y && (x !=y && (good c1 && (good c2 && (good c3 && good c4))))))).b λhg=>(DH (sc.kind== .function && (!sc.isCoroutine && sc.names== [((".0":Str),.local),(y,.local),(x,.free)]))).b λHX=>
   .ok (RC (AI x) (AI c1) (AI c2) (AI c3) (AI c4)) (rm hh (wO hg) hf hm hk hks (wP HX))))))
def Cb.orElse {α:Type}{P:α->Prop}(a:Cb P)(b:Cb P):Cb P:= @Cb.rec α P (λU=>Cb P) b (λm h=> .ok m h) a
def Ui (fn:Str)(xs:List PySem.Expr)(ks:List Keyword)(p pos:Pos):Cb λm:A4=>Bw W cf n nm m (.Call (.Name fn p) xs ks pos):=
 (Mn nm fn).b λhk=>(DH (good fn)).b λhf=>(args r nm xs).b λms h1=>(kws r nm ks).b λmk h2=>
  (OB (look (AI fn) Qh)).k ((OB (look (AI fn) Om)).b λc hc=> .ok _ (vC hh hf hk hc h1 h2)) λf hg=> .ok _ (q9 hh hf hk hg h1 h2)
def VQ (fn:Str):Bool:=(look (AI fn) Qh).isSome||(look (AI fn) Om).isSome
def Rx (fn:Str)(xs:List PySem.Expr)(ks:List Keyword)(p pos:Pos):Cb λm:A4=>Bw W cf n nm m (.Call (.Name fn p) xs ks pos):=
 @Bool.rec (λU=>Cb λm:A4=>Bw W cf n nm m (.Call (.Name fn p) xs ks pos)) (match xs,ks with
  | [],[]=>Fx fn "set" .no ((Mn nm "set").b λhk=> .ok (Ag .R9) (ri hh hk))
  | [y],[]=>(V5 C hh nm fn y p pos).orElse (VK C hh r nm fn y p pos)
  | [y,z],[]=>(SG C hh r nm fn y z p pos).orElse (Vt hh r nm fn y z p pos)
  |_,_=> .no) (Ui hh r nm fn xs ks p pos) (VQ fn)
def Qq (o:PySem.Expr)(a:Str)(xs:List PySem.Expr)(ks:List Keyword)(ap pos:Pos):Cb λm:A4=>Bw W cf n nm m (.Call (.Attribute o a ap) xs ks pos):=
 (DH (good a)).b λha=>(KP o).b λhb=>(DH (Nat.blt (xs.length+ks.length) 29)).b λhn=>(O9 ap pos).b λhl=>(r.e nm o).b λm h=>(args r nm xs).b λms h1=>(kws r nm ks).b λmk h2=>
  .ok _ (ul hh C.lam ha hb (Nat.le_of_ble_eq_true hn) hl h h1 h2)
def Rw (o:PySem.Expr)(a:Str)(xs:List PySem.Expr)(ks:List Keyword)(ap pos:Pos):Cb λm:A4=>Bw W cf n nm m (.Call (.Attribute o a ap) xs ks pos):=match xs,ks with
 | [y],[]=>Fx a "append" (Fx a "pop" (Qq C hh r nm o a [y] [] ap pos)
   ((KP o).b λhb=>(I1 y).b λhs=>(O9 ap pos).b λhl=>(r.e nm o).b λm h=>(r.e nm y).b λm2 h2=> .ok (N0 m m2) (uo hb hs hl h h2)))
   ((KP o).b λhb=>(I1 y).b λhs=>(O9 ap pos).b λhl=>(r.e nm o).b λm h=>(r.e nm y).b λm2 h2=> .ok (JN m m2) (jT hb hs hl h h2))
 | [],[]=>Fx a "clear" (Qq C hh r nm o a [] [] ap pos) ((KP o).b λhb=>(O9 ap pos).b λhl=>(r.e nm o).b λm h=> .ok (Rh m) (ub hb hl h))
 |xs,ks=>Qq C hh r nm o a xs ks ap pos
def U3 (f:PySem.Expr)(xs:List PySem.Expr)(ks:List Keyword)(pos:Pos):Cb λm:A4=>Bw W cf n nm m (.Call f xs ks pos):=by
 cases f with
 |Name fn p=>exact Rx C hh r nm fn xs ks p pos
 |Attribute o a ap=>exact Rw C hh r nm o a xs ks ap pos
 |_=>exact .no
end
section
variable {W:Bl}{n:Nat}{cf:Cc}{mkr:Nat->Pos->Bool->Bool}{gen:Nat->M Ci}(C:Mt W cf n mkr gen)(hh:DC W n cf)(r:TU W cf n)(nm:DI)
def VZ (x:PySem.Expr)(op:Operator)(y:PySem.Expr)(p:Pos):Cb λm:A4=>Bw W cf n nm m (.BinOp x op y p):=
 (W9 (W:=W) op).b λf hf=>(r.e nm x).b λm h=>(r.e nm y).b λm2 h2=> .ok (Ab f m m2) (t0 hf h h2)
def Xs (op:UnaryOp)(x:PySem.Expr)(p:Pos):Cb λm:A4=>Bw W cf n nm m (.UnaryOp op x p):=by
 cases op with
 |USub=>exact(r.e nm x).b λm h=> .ok _ (um h)
 |Not=>exact(r.e nm x).b λm h=> .ok _ (un h)
 |_=>exact .no
def V0 (x:PySem.Expr)(ops:List CmpOp)(ys:List PySem.Expr)(p:Pos):Cb λm:A4=>Bw W cf n nm m (.Compare x ops ys p):=match ops,ys with
 | [op],[y]=>(Um hh.w hh.k op).b λf hf=>(DH (!behindInMarks op y)).b λhb=>(r.e nm x).b λm h=>(r.e nm y).b λm2 h2=> .ok (Ab f m m2) (uc (Bool.not_eq_true' _▸hb) hf h h2)
 |_,_=> .no
noncomputable def vals (op:BoolOp)(xs:List PySem.Expr):Cb λm:A4=>QH W cf n nm op m xs:=
 @List.rec PySem.Expr (λxs=>Cb λm:A4=>QH W cf n nm op m xs) .no (λx xs ih=>(r.e nm x).b λm h=>match xs,ih with
  | [],_=> .ok m (rE h)
  |y::ys,ih=>ih.b λm2 h2=>by
    cases op with
    |And=>exact .ok (PI m m2) (jU h h2)
    |Or=>exact .ok (Wj m m2) (jU h h2)) xs
def V2 (z x y:PySem.Expr)(p:Pos):Cb λm:A4=>Bw W cf n nm m (.IfExp z x y p):=
 (r.b nm z).b λt h0=>(r.e nm x).b λm h=>(r.e nm y).b λm2 h2=> .ok _ (uh h0 h h2)
def Vr (ks:List (Option PySem.Expr)):∀ xs:List PySem.Expr,Cb λm:GX×List Nat=>DL W cf n nm m.1 ks xs m.2:=
 @List.rec (Option PySem.Expr) (λks=>∀ xs:List PySem.Expr,Cb λm:GX×List Nat=>DL W cf n nm m.1 ks xs m.2)
  (λxs=>Mp xs .no (.ok (Az,[]) .nil))
  (λk ks ih xs=>Xy k .no λk=>Wx k .no λc j p=>WT c .no λs=>Ms xs .no λx xs=>(DH (good s)).b λhk=>(r.e nm x).b λm h=>(ih xs).b λm2 h2=> .ok (Aq (AI s) m m2.1,AI s::m2.2) (.cons s j p m x m2.1 ks xs m2.2 hk h h2)) ks
def U5 (ks:List (Option PySem.Expr))(xs:List PySem.Expr)(p:Pos):Cb λm:A4=>Bw W cf n nm m (.Dict ks xs p):=match ks,xs with
 | [],[]=> .ok SA (ug hh)
 |k::ks,xs=>(Vr r nm (k::ks) xs).b λm h=>(DH (!m.2.isEmpty && Nat.ble m.2.length 15 && M7 m.2)).b λhb=> .ok (MO m.1) (by
   rw[Bool.and_eq_true,Bool.and_eq_true] at hb
   refine ud h (λe=> ?_) (Nat.le_of_ble_eq_true hb.1.2) (cH hb.2)
   have :=hb.1.1
   rw[e] at this;cases this)
 |_,_=> .no
def Xj (nm':DI)(ifs:List PySem.Expr):Cb λm:Ev=>Sh W cf n nm' m ifs:=match ifs with
 | []=> .ok L7 .nil
 | [x]=>(r.b nm' x).b λm h=> .ok m (.one m x h)
 |_=> .no
def Tj (ex:PySem.Expr)(x:Str)(ix:PySem.Expr)(px:Pos)(ifs:List PySem.Expr)(sc:Scope):Cb λm:J7×Ev×A4=>KF W cf n nm m.2.2 x m.1 m.2.1 ex ix px ifs sc:=
 (DH (Qd nm x sc)).b λhok=>(Ve ix).b λhs=>(r.i true nm (.Name x px) ix).b λmi hi=>(r.e ⟨nm.f,I0 nm sc.names⟩ ex).b λm h=>(Xj r ⟨nm.f,I0 nm sc.names⟩ ifs).b λt ht=> .ok (mi,t,m) ⟨mq hok,hs,hi,h,ht⟩
def U4 (ex:PySem.Expr)(gs:List Comprehension)(sc:Scope)(pos:Pos):Cb λm:A4=>Bw W cf n nm m (.ListComp ex gs sc pos):=
 Uq gs .no λx px ix ifs=>(Tj r nm ex x ix px ifs sc).b λm h=> .ok (Ct (AI x) m.1 m.2.1 m.2.2) (kO h)
def Xk (params:Arguments)(body:PySem.Expr)(sc:Scope):Cb λm:Nat×Str=>KG m.1 m.2 params body sc:=
 params.casesOn λpo as va ko kd kw de=>Mp po .no (T0 va .no (Mp ko .no (Mp kd .no (T0 kw .no (Mp de .no (To body .no λf xs ks p7=>Mp ks .no (LL f .no λo a p2=>Ju o .no λx p1=>Fx a (Str.ofString "append") .no (Kh xs .no λu=>
  (DH (good x)).b λhx=>(DH (Lv x sc)).b λhc=>(O9 p2 p7).b λhl=>(GA (sc.names.lookup x) .free).b λh1=>(DH (DM (AI x))).b λhz=> @List.casesOn _ (λas=>Cb λm:Nat×Str=>KG m.1 m.2 ⟨[],as,none,[],[],none,[]⟩ (.Call (.Attribute (.Name x p1) (Str.ofString "append") p2) [u] [] p7) sc) as
   (Wx u .no λc k p3=>WS c .no λi=>Fx i 1 .no (.ok (0,x) (.one x sc p1 p2 p3 p7 k hx hz hc hl h1)))
   λa1 as=>Ms as .no λa2 as=>Kh as .no λa3=>Sw u .no λes k p6=>Ms es .no λe1 es=>Ms es .no λe2 es=>Kh es .no λe3=>Ju e1 .no λy1 p3=>Ju e2 .no λy2 p4=>Ju e3 .no λy3 p5=>Fx y1 a1.arg .no (Fx y2 a2.arg .no (Fx y3 a3.arg .no
   ((DH (good a1.arg)).b λg1=>(DH (good a2.arg)).b λg2=>(DH (good a3.arg)).b λg3=>(GA (sc.names.lookup a1.arg) .local).b λn1=>(GA (sc.names.lookup a2.arg) .local).b λn2=>(GA (sc.names.lookup a3.arg) .local).b λn3=>
   (DH (a1.arg !=a2.arg)).b λd1=>(DH (a1.arg !=a3.arg)).b λd2=>(DH (a2.arg !=a3.arg)).b λd3=>
   .ok (1,x) (.two x sc a1 a2 a3 p1 p2 p3 p4 p5 p6 p7 k hx hz hc hl h1 g1 g2 g3 n1 n2 n3 (bne_iff_ne.mp d1) (bne_iff_ne.mp d2) (bne_iff_ne.mp d3)))))))))))))
def V3 (params:Arguments)(body:PySem.Expr)(sc:Scope)(pos:Pos):Cb λm:A4=>Bw W cf n nm m (.Lambda params body sc pos):=
 (OB nm.f).b λf hf=>(UX C f pos false).b λhm=>(Xk params body sc).b λm tx=>(GA (nm.lookup m.2) .cell).b λhk=> .ok (LN m.1 (AI m.2)) (uj hh.w hf hm tx hk)
def V8 (x:PySem.Expr):Cb λm:A4=>Bw W cf n nm m x:=by
 cases x with
 |Constant c k p=>exact TO nm c k p
 |Name x p=>exact U6 hh nm x p
 |Attribute o a p=>exact U2 hh r nm o a p
 |Subscript x y p=>exact V4 r nm x y p
 |Call f xs ks p=>exact U3 C hh r nm f xs ks p
 |BinOp x op y p=>exact VZ r nm x op y p
 |UnaryOp op x p=>exact Xs r nm op x p
 |Compare x ops ys p=>exact V0 hh r nm x ops ys p
 |BoolOp op xs p=>exact(vals r nm op xs).b λm h=> .ok m (t5 h)
 |IfExp z x y p=>exact V2 r nm z x y p
 |Tuple xs k p=>exact(args r nm xs).b λms h=> .ok _ (nH h)
 |List xs p=>exact(args r nm xs).b λms h=> .ok _ (uk h)
 |Dict ks xs p=>exact U5 hh r nm ks xs p
 |ListComp ex gs sc p=>exact U4 r nm ex gs sc p
 |Lambda ps b sc p=>exact V3 C hh nm ps b sc p
 |_=>exact .no
def Vv (op:BoolOp)(xs:List PySem.Expr):Cb λm:Ev=>O6 W cf n nm op m xs:=
 @List.rec PySem.Expr (λxs=>Cb λm:Ev=>O6 W cf n nm op m xs) .no (λx xs ih=>(r.b nm x).b λm h=>match xs,ih with
  | [],_=> .ok m (q7 h)
  |y::ys,ih=>ih.b λm2 h2=>by
    cases op with
    |And=>exact .ok (Cp m m2) (q6 h h2)
    |Or=>exact .ok (Fk m m2) (tX h h2)) xs
def Vn (x:PySem.Expr):Cb λm:Ev=>Mu W cf n nm m x:=(Wb x).b λht=>(r.e nm x).b λm h=> .ok (An m) (vA h ht)
def Xa (x:PySem.Expr)(ops:List CmpOp)(ys:List PySem.Expr)(p:Pos):Cb λm:Ev=>Mu W cf n nm m (.Compare x ops ys p):=match ops,ys with
 | [op],[y]=>(Um hh.w hh.k op).b λf hf=>(DH (!behindInMarks op y)).b λhb=>(r.e nm x).b λm h=>(r.e nm y).b λm2 h2=> .ok (An (Ab f m m2)) (tV (Bool.not_eq_true' _▸hb) hf h h2)
 |_,_=> .no
def V7 (x:PySem.Expr):Cb λm:Ev=>Mu W cf n nm m x:=by
 cases x with
 |UnaryOp op x p=>cases op with
  |Not=>exact(r.b nm x).b λm h=> .ok _ (tW h)
  |_=>exact .no
 |BoolOp op xs p=>exact(Vv r nm op xs).b λm h=> .ok m (tU h)
 |Compare x ops ys p=>exact Xa hh r nm x ops ys p
 |_=>exact Vn r nm _
def OP (b:Bool)(tg x:PySem.Expr):Cb λm:J7=>NL W cf n nm tg b m x:=(r.e nm x).b λm h=> .ok (Cx (Tr gen b) m) (vD (C.Gz tg) (C.lA b tg) h)
def VO (b:Bool)(tg:PySem.Expr)(y:PySem.Expr)(p pos:Pos):Cb λm:J7=>NL W cf n nm tg b m (.Call (.Name "enumerate" p) [y] [] pos):=
 Sw tg .no λes k p0=>(Mn nm "enumerate").b λhk=>(I1 y).b λhs=>(r.e nm y).b λm h=> .ok (Rk m) (ur hh hk hs h)
def VR (b:Bool)(tg:PySem.Expr)(o:PySem.Expr)(ap pos:Pos):Cb λm:J7=>NL W cf n nm tg b m (.Call (.Attribute o "items" ap) [] [] pos):=
 Sw tg .no λes k p0=>(KP o).b λhb=>(O9 ap pos).b λhl=>(r.e nm o).b λm h=> .ok (Rr m) (ut hb hl h)
def UP (b:Bool)(tg:PySem.Expr)(fn:Str)(xs:List PySem.Expr)(ks:List Keyword)(p pos:Pos):Cb λm:J7=>NL W cf n nm tg b m (.Call (.Name fn p) xs ks pos):=match xs,ks with
 | [y],[]=>Fx fn "range" (Fx fn "enumerate" (OP C r nm b tg _) (VO hh r nm b tg y p pos)) ((Mn nm "range").b λhk=>(I1 y).b λhs=>(r.e nm y).b λm h=> .ok (Jq m) (uv hh hk hs h))
 | [x,y,z],[]=>Fx fn "range" (OP C r nm b tg _) ((Mn nm "range").b λhk=>(I1 x).b λhs=>(I1 y).b λhs2=>(I1 z).b λhs3=>(r.e nm x).b λm h=>(r.e nm y).b λm2 h2=>(r.e nm z).b λm3 h3=> .ok (Qt m m2 m3) (uw hh hk hs hs2 hs3 h h2 h3))
 |xs,ks=>OP C r nm b tg (.Call (.Name fn p) xs ks pos)
def UO (b:Bool)(tg:PySem.Expr)(o:PySem.Expr)(a:Str)(xs:List PySem.Expr)(ks:List Keyword)(ap pos:Pos):Cb λm:J7=>NL W cf n nm tg b m (.Call (.Attribute o a ap) xs ks pos):=match xs,ks with
 | [],[]=>Fx a "values" (Fx a "items" (OP C r nm b tg _) (VR r nm b tg o ap pos)) ((KP o).b λhb=>(O9 ap pos).b λhl=>(r.e nm o).b λm h=> .ok (O3 m) (uy hb hl h))
 |xs,ks=>OP C r nm b tg (.Call (.Attribute o a ap) xs ks pos)
def Vs (b:Bool)(tg x:PySem.Expr):Cb λm:J7=>NL W cf n nm tg b m x:=by
 cases x with
 |Call f xs ks pos=>cases f with
  |Name fn p=>exact UP C hh r nm b tg fn xs ks p pos
  |Attribute o a ap=>exact UO C r nm b tg o a xs ks ap pos
  |_=>exact .no
 |_=>exact OP C r nm b tg _
def Pi (k:Nat):TU W cf n:= @Nat.rec (λU=>TU W cf n) ⟨λU U=> .no,λU U=> .no,λU U U U=> .no⟩ (λU r=>⟨λnm x=>V8 C C.hh r nm x,λnm x=>V7 C.hh r nm x,λb nm tg x=>Vs C C.hh r nm b tg x⟩) k
end
section
variable {W:Bl}{n:Nat}{cf:Cc}{mkr:Nat->Pos->Bool->Bool}{gen:Nat->M Ci}(C:Mt W cf n mkr gen)(hh:DC W n cf)(r:TU W cf n)(nm:DI)
def Vg (x:Str):Lj (N5 nm x):=(GA (nm.lookup x) .local).k ((GA (nm.lookup x) .cell).k .no λhk=>(DH (!DM (AI x))).k .no λhf=> .ok (.inr ⟨hk,(Bool.not_eq_true' _).mp hf⟩)) λhk=> .ok (.inl hk)
def U0 (es:List PySem.Expr):Cb λm:List Str×List Nat=>JE nm m.1 m.2 es:=
 @List.rec PySem.Expr (λes=>Cb λm:List Str×List Nat=>JE nm m.1 m.2 es) (.ok ([],[]) .nil) (λe es ih=>by
  cases e with
  |Name x p=>exact(DH (good x)).b λhx=>(Vg nm x).b λhk=>ih.b λm h=> .ok (x::m.1,AI x::m.2) (.cons x p m.1 m.2 es hx hk h)
  |_=>exact .no) es
def Wa (xs:List Str):Cb λcs:List Nat=>ET nm xs cs:=
 @List.rec Str (λxs=>Cb λcs:List Nat=>ET nm xs cs) (.ok [] .nil) (λx xs ih=>(DH (good x)).b λhx=>(Vg nm x).b λhk=>ih.b λm h=> .ok (AI x::m) (.cons x xs m hx hk h)) xs
def SO (tx:PySem.Expr):Cb λt:K0=>IK W cf n nm t tx:=by
 cases tx with
 |Name x p=>exact(DH (good x)).b λhx=>(Vg nm x).k ((GA (nm.lookup x) .cell).b λhk=>(DH (DM (AI x))).b λhf=> .ok _ (uF hx hk hf)) λhk=> .ok _ (vH hx hk)
 |Attribute o a p=>exact(DH (good a)).b λha=>(r.e nm o).b λm h=> .ok _ (vG hh ha h)
 |Subscript x y p=>exact(r.e nm x).b λm h=>(r.e nm y).b λm2 h2=> .ok _ (vJ h h2)
 |Tuple es k p=>exact(U0 nm es).b λm h=> .ok (JI m.2) (vK h)
 |_=>exact .no
def R8 (tx x:PySem.Expr):Lj (Sd nm tx x=some none):=(OB (Sd nm tx x)).k .no λo h=>by
 cases o with
 |none=>exact .ok h
 |some xs=>exact .no
def NR (tx x:PySem.Expr)(p:Pos):Cb λm:A2=>JJ W cf n nm m (.Assign [tx] x p):=
 (QV x).b λhc=>(WQ tx).b λht=>(R8 nm tx x).b λEI=>(SO hh r nm tx).b λt h1=>(r.e nm x).b λm h2=> .ok (Af t m) (uz hc ht (λa=>j2 EI a) h1 h2)
def uI {tx ex:PySem.Expr}{gs:List Comprehension}{sc:Scope}{pos:Pos}{k:Nat}(ht:Q9 tx):∀ env:PySem.Env,∃ b,swapsWithSole [tx] (.ListComp ex gs sc pos) k env=pure b:=λenv=>by
 cases tx <;> exact⟨_,rfl⟩
def TI (tx ex:PySem.Expr)(gs:List Comprehension)(sc:Scope)(pos p:Pos):Cb λm:A2=>JJ W cf n nm m (.Assign [tx] (.ListComp ex gs sc pos) p):=
 Uq gs .no λx px ix ifs=>(WQ tx).b λht=>(R8 nm tx (.ListComp ex [⟨.Name x px,ix,ifs,0⟩] sc pos)).b λEI=>(SO hh r nm tx).b λt h1=>(Tj r nm ex x ix px ifs sc).b λm h=> .ok (Af t (Ct (AI x) m.1 m.2.1 m.2.2)) (rq ht (λa=>j2 EI a) (uI ht) h1 h)
def Ue (ts:List PySem.Expr)(k:Nat)(p:Pos)(vs:List PySem.Expr)(k':Nat)(p' pos:Pos):Cb λm:A2=>JJ W cf n nm m (.Assign [.Tuple ts k p] (.Tuple vs k' p') pos):=
 (OB (Sd nm (.Tuple ts k p) (.Tuple vs k' p'))).b λo h=>match o,h with
  |none,_=>NR hh r nm (.Tuple ts k p) (.Tuple vs k' p') pos
  |some xs,h=>(Wa nm xs).b λcs hn=>(r.e nm (.Tuple vs k' p')).b λm h2=> .ok (Af (Js cs) m) (rt hn h h2)
def VX (tx x:PySem.Expr)(p:Pos):Cb λm:A2=>JJ W cf n nm m (.Assign [tx] x p):=by
 cases x with
 |ListComp ex gs sc pos=>exact TI hh r nm tx ex gs sc pos p
 |Tuple vs k' p'=>cases tx with
  |Tuple ts k p0=>exact Ue hh r nm ts k p0 vs k' p' p
  |_=>exact NR hh r nm _ _ p
 |_=>exact NR hh r nm tx _ p
def VY (tx:PySem.Expr)(op:Operator)(y:PySem.Expr)(p':Pos):Cb λm:A2=>JJ W cf n nm m (.AugAssign tx op y p'):=by
 cases tx with
 |Name x p=>exact(Uf (W:=W) op).b λf hf=>(DH (good x)).b λhx=>(GA (nm.lookup x) .local).b λhk=>(r.e nm y).b λm h=> .ok (Rb f (AI x) m) (ry hf hx hk h)
 |Attribute o a p=>exact(Uf (W:=W) op).b λf hf=>(DH (good a)).b λha=>(r.e nm o).b λmo ho=>(r.e nm y).b λm h=> .ok (EC f mo (AI a) m) (rx hh ha hf ho h)
 |_=>exact .no
def V1 (ts:List PySem.Expr)(p':Pos):Cb λm:A2=>JJ W cf n nm m (.Delete ts p'):=
 Kh ts .no λt=>Xg t .no λx y p=>(r.e nm x).b λm h=>(r.e nm y).b λm2 h2=> .ok (Rj m m2) (uB h h2)
def V9 (R:∀ xs:List Stmt,Cb λm:A2=>I4 W cf n nm m xs)(x:Stmt):Cb λm:A2=>JJ W cf n nm m x:=by
 cases x with
 |Return v p=>cases v with
  |none=>exact .ok Na rB
  |some x=>exact(r.e nm x).b λm h=> .ok _ (uD h)
 |Delete ts p=>exact V1 r nm ts p
 |Assign ts x p=>cases ts with
  |nil=>exact .no
  |cons tx ts=>cases ts with
   |nil=>exact VX hh r nm tx x p
   |cons _ _=>exact .no
 |AugAssign tx op y p=>exact VY hh r nm tx op y p
 |For tg x bx ox p=>cases ox with
  |nil=>exact(Ve x).b λhs=>(SO hh r nm tg).b λt ht=>(r.i false nm tg x).b λmi hi=>(R bx).b λmb hb=> .ok (Ck t mi mb) (uC hs ht hi hb)
  |cons _ _=>exact .no
 |While x bx ox p=>cases ox with
  |nil=>exact(r.b nm x).b λt h0=>(R bx).b λmb hb=> .ok (QB t mb) (uE h0 hb)
  |cons _ _=>exact .no
 |If x ax bx p=>exact(r.b nm x).b λt h0=>(R ax).b λma ha=>(R bx).b λmb hb=> .ok (AS t ma mb) (vF h0 ha hb)
 |Assert x m p=>exact(r.b nm x).b λt h0=> .ok (Oj t) (ru h0)
 |Expr x p=>exact(QV x).b λhc=>(r.e nm x).b λm h=> .ok (Bx m) (vE hc h)
 |Pass p=>exact .ok _ rA
 |Break p=>exact .ok _ uA
 |Continue p=>exact .ok _ rz
 |_=>exact .no
def VT (R:∀ xs:List Stmt,Cb λm:A2=>I4 W cf n nm m xs)(xs:List Stmt):Cb λm:A2=>I4 W cf n nm m xs:=
 @List.rec Stmt (λxs=>Cb λm:A2=>I4 W cf n nm m xs) (.ok AN rC) (λx xs ih=>(V9 hh r nm R x).b λm h=>match xs,ih with
  | [],_=> .ok m (rD h)
  |y::ys,ih=>ih.b λm2 h2=> .ok (Ak m m2) (oW h h2)) xs
def QA (k:Nat):∀ xs:List Stmt,Cb λm:A2=>I4 W cf n nm m xs:= @Nat.rec (λU=>∀ xs:List Stmt,Cb λm:A2=>I4 W cf n nm m xs) (λU=> .no) (λU R xs=>VT C.hh r nm R xs) k
def Cb.get {α:Type}{P:α->Prop}(t:Cb P)(d:α):α:= @Cb.rec α P (λU=>α) d (λm U=>m) t
def Cb.isOk {α:Type}{P:α->Prop}(t:Cb P):Bool:= @Cb.rec α P (λU=>Bool) false (λU U=>true) t
theorem Cb.sound {α:Type}{P:α->Prop}{t:Cb P}{d m:α}(h:t.isOk=true)(e:t.get d=m):P m:=by
 cases t with
 |no=>cases h
 |ok m' h'=>cases e;exact h'
def qt {f:Nat}{sc:Scope}{bx:List Stmt}{m:A2}(h:(QA C (Pi C 40) ⟨some f,sc.names⟩ 12 bx).isOk=true)(e:(QA C (Pi C 40) ⟨some f,sc.names⟩ 12 bx).get AN=m):Lm W cf n f sc bx m:= .of (Cb.sound (P:=λm=>I4 W cf n ⟨some f,sc.names⟩ m bx) h e)
end
def CY:Nat->M Ci:=Sx CB IW
def Me:A2:=
  (Ak (Af (Js [GS,IY]) (E0 (Ah (Ag (.int 0)) (Ah (DP Go (Aa Bk)) As))))
  (Ak (QB (An (Ab (Aw DZ) (Aa GS) (Aa IY))) (Ak (Af (AA Hg) (Ab CT (Ab BA (Aa GS) (Aa IY)) (Ag (.int 2))))
  (AS (An (Ab (Aw DZ) (Ab Au (Aa Bk) (Aa Hg)) (Aa AU))) (Af (AA GS) (Ab BA (Aa Hg) (Ag (.int 1)))) (Af (AA IY) (Aa Hg)))))
  (BZ (Aa GS))))
def Mg:A2:=
  (BZ (Dc (Ah (Ag (.int 0)) (Ah (Ag (.int 1)) (Ah (Ag (.int 900)) (Ah (Ag (.int 12000)) (Ah (Ag (.int 40000)) (Ah (Ag (.int 150000)) (Ah (Ag (.int 700000)) As)))))))))
def KO:A2:=
  (BZ (Dc (Ah (Ag (.int 100000)) (Ah (Ag (.int 333000)) (Ah (Ag (.int 1000)) As)))))
def Nw:A2:=
  (Ak (Af (DY (Aa AQ) (Ag (.str Er))) (Aa Er))
  (Ck (AA Oy) (Jq (Ab Au (Aa AQ) (Ag (.str CU)))) (Ak (Af (AA DN) (Gm (An (Ab Cw (Aa Er) (Ag (.str A7)))) (Ag (.int 0)) (Ag (.int 1))))
  (Bx (JN (Ab Au (Aa Ai) (Ag (.str Jy))) (E0 (Ah (Ab BA (Ab CM (Ag (.int 10)) (Ab Au (Aa AQ) (Ag (.str AU)))) (Aa Oy)) (Ah (Aa DN) (Ah (E0 (Ah (Ab Au (Aa AQ) (Ag (.str Ae))) (Ah (Aa Oy) As))) As)))))))))
def KN:A2:=
  (BZ (Ct AQ (Cx DD (Ab Au (Aa Ai) (Ag (.str CR)))) (Cp (An (Ab Cw (Ab Au (Aa AQ) (Ag (.str Ae))) (Aa Ae))) (An (Ab Cw (Ab Au (Aa AQ) (Ag (.str Er))) (Ag (.str AP))))) (Aa AQ)))
def Lq:A2:=
  (Ak (Af (AA JH) (Ab Au (Aa Ai) (Ag (.str CS))))
  (Ak (AS (An (Ab HO (Ab Au (Aa Ai) (Ag (.str BJ))) (Ag .none))) (Af (AA JH) (Ab (Aw Fg) (Ab Au (Aa Ai) (Ag (.str A6))) (Ab Au (Aa Ai) (Ag (.str BJ))))) AN)
  (Ak (Af (AA BP) (Ab CT (Ab CM (Ag (.int 9)) (Aa JH)) (Ag (.int 8))))
  (Ak (Af (AA Ga) (Ab Au (Ab Au (Aa Ai) (Ag (.str Ga))) (Aa Ae)))
  (Ak (Af (AA GI) (Dc As))
  (Ak (Ck (AA AQ) (Cx CY (BK B6 (Ah (Aa Ai) (Ah (Aa Ae) As)) Az)) (AS (An (Ab (Aw Ou) (Ab Au (Aa AQ) (Ag (.str AU))) (Aa Ga))) (AS (Fk (An (Ab (Aw MV) (Ab Cv (Aa Ga) (Ab Au (Aa AQ) (Ag (.str AU)))) (Ag (.int 3)))) (An (Ab (Aw MV) (Ab Cv (Aa Av) (Ab Au (Aa AQ) (Ag (.str GD)))) (Aa BP)))) (Bx (BK E8 (Ah (Aa Ai) (Ah (Aa AQ) (Ah (Ag (.str C8)) As))) Az)) (Bx (JN (Aa GI) (Ab BA (Ab Au (Aa AQ) (Ag (.str GD))) (Aa BP))))) AN))
  (Af (DY (Ab Au (Aa Ai) (Ag (.str CA))) (Aa Ae)) (Gm (An (Aa GI)) (DP OQ (Aa GI)) (Ag .none)))))))))
def MG:A2:=
  (Ak (Af (AA Fh) (Dc As))
  (Ak (Ck (AA Ae) (Jq (Ag (.int 3))) (Af (AA Fh) (Ab BA (Aa Fh) (Ct AQ (Cx DD (BK B6 (Ah (Aa Ai) (Ah (Aa Ae) As)) Az)) (An (Ab Au (Aa AQ) (Ag (.str Fh)))) (Aa AQ)))))
  (Ak (AS (An (Aa Fh)) (Ck (AA AQ) (Cx CY (Aa Fh)) (Bx (BK E8 (Ah (Aa Ai) (Ah (Aa AQ) (Ah (Ag (.str C8)) As))) Az))) (AS (EF (An (Aa OT))) (Ak (Af (AA A3) (Ag .none))
  (Ak (Ck (AA Ae) (Jq (Ag (.int 3))) (AS (Fk (An (Ab (Aw DZ) (Aa Ae) (Ag (.int 2)))) (An (Ab Au (Aa Ai) (Ag (.str BU))))) (Ak (Af (AA Cl) (Ct AQ (Cx DD (BK B6 (Ah (Aa Ai) (Ah (Aa Ae) As)) Az)) (An (Ab Au (Aa AQ) (Ag (.str Dl)))) (Aa AQ)))
  (AS (Cp (An (Aa Cl)) (Fk (An (Ab F3 (Aa A3) (Ag .none))) (An (Ab (Aw DZ) (Ab Au (Ab Au (Aa Cl) (Ag (.int 0))) (Ag (.str GD))) (Ab Au (Aa A3) (Ag (.str GD))))))) (Af (AA A3) (Ab Au (Aa Cl) (Ag (.int 0)))) AN)) AN))
  (AS (An (Ab HO (Aa A3) (Ag .none))) (Bx (BK E8 (Ah (Aa Ai) (Ah (Aa A3) (Ah (Ag (.str C8)) As))) Az)) AN))) AN))
  (Af (DY (Aa Ai) (Ag (.str Bu))) (Ab BA (Ab Au (Aa Ai) (Ag (.str Bu))) (Ag (.int 1)))))))
def Mf:A2:=
  (Ak (Af (DY (Ab Au (Aa Ai) (Ag (.str Ga))) (Aa Ae)) (Ab (Aw Fg) (Ab Au (Ab Au (Aa Ai) (Ag (.str Ga))) (Aa Ae)) (Ab Au (Aa Bk) (DP LT (Ag (.int 1))))))
  (Ak (Af (AA ID) (Ct AQ (Cx DD (BK B6 (Ah (Aa Ai) (Ah (Aa Ae) As)) Az)) (An (Ab Qj (Ab Au (Aa AQ) (Ag (.str AU))) (Aa Bk))) (Aa AQ)))
  (Ak (Ck (AA AQ) (Cx CY (Aa ID)) (Bx (BK E8 (Ah (Aa Ai) (Ah (Aa AQ) (Ah (Ag (.str A7)) As))) Az)))
  (Ak (AS (EF (An (Aa ID))) Na AN)
  (Ak (AS (Cp (An (Ab Cw (Ab Au (Ab Au (Aa ID) (DP LT (Ag (.int 1)))) (Ag (.str AU))) (Ab Au (Aa Bk) (DP LT (Ag (.int 1)))))) (An (Ct AQ (Cx DD (Aa ID)) (An (Ab Au (Aa AQ) (Ag (.str Dl)))) (Aa AQ)))) (Ak (Af (AA Cu) (Ab Cv (Aa Av) (Ab Au (Ab Au (Aa ID) (DP LT (Ag (.int 1)))) (Ag (.str GD)))))
  (Ak (Af (AA BP) (Ab (Aw Kt) (Aa BP) (Ag (.int 25000))))
  (Ak (Af (AA A6) (Ab (Aw Fg) (Aa Cu) (Ag (.int 1000))))
  (Ak (Af (DY (Aa Ai) (Ag (.str DV))) (Gm (An (Ab F3 (Ab Au (Aa Ai) (Ag (.str DV))) (Ag .none))) (Aa A6) (Ab (Aw Kt) (Ab Au (Aa Ai) (Ag (.str DV))) (Aa A6))))
  (Ak (AS (An (Ab (Aw Gg) (Ab Cv (Aa A6) (Aa BP)) (Ab Au (Aa Ai) (Ag (.str DV))))) (Af (AA A6) (Ab Cv (Aa A6) (Aa BP))) AN)
  (Ak (Af (DY (Aa Ai) (Ag (.str A6))) (Aa A6))
  (Af (DY (Aa Ai) (Ag (.str BJ))) (Gm (An (Ab F3 (Ab Au (Aa Ai) (Ag (.str BJ))) (Ag .none))) (Aa Cu) (Ab CT (Ab BA (Ab CM (Ag (.int 7)) (Ab Au (Aa Ai) (Ag (.str BJ)))) (Aa A6)) (Ag (.int 8))))))))))) AN)
  (Ak (Bx (BK E9 (Ah (Aa Ai) (Ah (Aa Ae) (Ah (Aa Av) As))) Az))
  (AS (An (Ab Au (Aa Ai) (Ag (.str EO)))) (Af (DY (Aa Ai) (Ag (.str Dw))) (Ag (.int 0))) AN)))))))
def Mh:A2:=
  (Ak (Af (AA CG) (Ct CA (Cx DD (Ab Au (Aa Ai) (Ag (.str CA)))) (An (Ab HO (Aa CA) (Ag .none))) (Aa CA)))
  (Ak (AS (An (Aa CG)) (BZ (DP OQ (Aa CG))) AN)
  (Ak (Af (AA Cl) (Ct AQ (Cx DD (Ab Au (Aa Ai) (Ag (.str CR)))) (Cp (An (Ab Cw (Ab Au (Aa AQ) (Ag (.str Er))) (Ag (.str AP)))) (Cp (An (Ab Au (Aa AQ) (Ag (.str Dl)))) (Fk (An (Ab (Aw DZ) (Ab Au (Aa AQ) (Ag (.str Ae))) (Ag (.int 2)))) (An (Ab Au (Aa Ai) (Ag (.str BU))))))) (Aa AQ)))
  (Ak (AS (Fk (An (Aa He)) (Cp (An (Ab Au (Aa Ai) (Ag (.str EO)))) (EF (An (Aa Cl))))) (BZ (Ag .none)) AN)
  (BZ (Ab BA (Ab Au (Aa Ai) (Ag (.str FN))) (Ab CM (Bh (Aa AC) B7 As (Aq Bm (Ab Au (Aa Ai) (Ag (.str BU))) Az)) (Ab OX (Ag (.int 2)) (Ab Au (Aa Ai) (Ag (.str Dw)))))))))))
def Lr:A2:=
  (Ak (AS (Fk (An (Ab Jh (Aa DN) (Ab Au (Aa Ai) (Ag (.str Jy))))) (An (Ab Jh (DP Go (Aa Bu)) (Ab Au (Aa Ai) (Ag (.str Bu)))))) (BZ (Ag (.bool false))) AN)
  (Ak (Af (AA Dd) (Ct AQ (Cx DD (Ab Au (Aa Ai) (Ag (.str CR)))) (Cp (An (Ab Cw (Ab Au (Aa AQ) (Ag (.str Er))) (Ag (.str AP)))) (An (Ab Au (Aa AQ) (Ag (.str Dd))))) (Ab Au (Aa AQ) (Ag (.str FQ)))))
  (Ak (AS (An (Ab Jh (Al (Aa AC) Cq) (DP Vj (Aa Dd)))) (BZ (Ag (.bool false))) AN)
  (Ak (Ck (AA Ae) (Jq (Ag (.int 3))) (Ak (Af (AA Ik) (Ab Au (Al (Aa AC) Cn) (Aa Ae)))
  (Ak (Af (AA CR) (BK B6 (Ah (Aa Ai) (Ah (Aa Ae) As)) Az))
  (Ak (AS (Fk (An (Ab Jh (Ct AU (Cx DD (Al (Aa Ik) Bi)) L7 (Aa AU)) (Ct AQ (Cx DD (Aa CR)) L7 (Ab Au (Aa AQ) (Ag (.str AU)))))) (An (Ab Jh (Al (Aa Ik) Cr) (Ab Au (Ab Au (Aa Ai) (Ag (.str CA))) (Aa Ae))))) (BZ (Ag (.bool false))) AN)
  (AS (An (Ab Jh (Al (Aa Ik) Ax) (DP Go (Ct AQ (Cx DD (Aa CR)) (An (Ab Au (Aa AQ) (Ag (.str Dl)))) (Aa AQ))))) (BZ (Ag (.bool false))) AN)))))
  (Ak (Ck (AA He) (Cx CY (E0 (Ah (Ag (.bool false)) (Ah (Ag (.bool true)) As)))) (AS (An (Ab Jh (Bh (Aa AC) GQ As (Aq Ef (Aa He) Az)) (BK Gy (Ah (Aa AC) (Ah (Aa Ai) (Ah (Aa He) As))) Az))) (BZ (Ag (.bool false))) AN))
  (Ak (Af (AA LD) (Bh (Aa AC) B7 As (Aq Bm (Ag (.bool false)) Az)))
  (Ak (AS (An (Ab F3 (Ab Au (Aa Ai) (Ag (.str BJ))) (Ag .none))) (BZ (PI (Ab Cw (Aa LD) (Ab CM (Ag (.int 2)) (Ab Au (Aa Ai) (Ag (.str CS))))) (Ab Cw (Bh (Aa AC) B7 As Az) (Aa LD)))) AN)
  (BZ (PI (Ab (Aw MV) (Aa LD) (Ab BA (Ab Au (Aa Ai) (Ag (.str BJ))) (Ag (.int 1000)))) (Ab Cw (Bh (Aa AC) B7 As Az) (Ab BA (Aa LD) (Ag (.int 25000)))))))))))))
def Te:A2:=
  (Ak (Af (AA D3) (Gm (An (Aa Fi)) (Ab Au (Aa Fi) (Ag (.int 0))) (Ag (.int 0))))
  (Ak (Af (Qb DN) (Dc As))
  (Ak (Af (Qb Bu) (Dc As))
  (Ak (Af (AA CS) (Ab Au (BK GK As Az) (Ab BS (Ab CT (Aa D3) (Ag (.int 2))) (Ag (.int 3)))))
  (Ak (Af (AA AC) (F4 DE As (Aq FC (Aa CS) (Aq AW (Ag (.int 1280)) (Aq AG (Ab Cw (Ab BS (Aa D3) (Ag (.int 2))) (Ag (.int 0))) (Aq Gf (LN 0 Bu) (Aq IC (LN 1 DN) Az)))))))
  (Ak (Af (AX (Aa AC) Cn) (Dc (Ah (F4 CO As Az) (Ah (F4 CO As Az) (Ah (F4 CO As (Aq AO (Ag (.bool true)) Az)) As)))))
  (Ak (Af (AA Ai) (MO (Aq CR (Dc As) (Aq Jy (Dc As) (Aq Bu (Ag (.int 0)) (Aq Ga (Dc (Ah (Ag (.int 0)) (Ah (Ag (.int 0)) (Ah (Ag (.int 0)) As)))) (Aq CA (Dc (Ah (Ag .none) (Ah (Ag .none) (Ah (Ag .none) As)))) (Aq CS (Aa CS) (Aq A6 (Ag (.int 0)) (Aq DV (Ag .none) (Aq BJ (Ag .none) (Aq EO (Ab Cw (Ab BS (Aa D3) (Ag (.int 2))) (Ag (.int 0))) (Aq BU (Ag (.bool false)) (Aq Dw (Ag (.int 0)) (Aq FN (Ag (.int 0)) Az)))))))))))))))
  (Ak (Af (AA BY) (Dc (Ah (Ag (.bool false)) (Ah (Ag (.bool false)) (Ah (Ag (.bool false)) As)))))
  (Ak (Af (JI [Av,AU]) (E0 (Ah (Ag (.int 1000000)) (Ah (Ab BS (Ab CT (Aa D3) (Ag (.int 6))) (Ag (.int 5))) As))))
  (Ak (AS (EF (An (BK Ge (Ah (Aa AC) (Ah (Aa Ai) (Ah (Aa DN) (Ah (Aa Bu) As)))) Az))) (BZ (Ag (.bool false))) AN)
  (Ak (Af (AA Bk) (O2 LZ (Aa Fi) (Ag (.int 1)) (Ag (.int 41))))
  (Ak (Ck (AA HQ) (Qt (Ag (.int 0)) (DP Go (Aa Bk)) (Ag (.int 2))) (Ak (Af (Js [DU,Bq]) (E0 (Ah (Ab BS (Ab Au (Aa Bk) (Aa HQ)) (Ag (.int 8))) (Ah (Ab CT (Ab Au (Aa Bk) (Aa HQ)) (Ag (.int 8))) As))))
  (Ak (Af (AA GJ) (Gm (An (Ab (Aw DZ) (Ab BA (Aa HQ) (Ag (.int 1))) (DP Go (Aa Bk)))) (Ab Au (Aa Bk) (Ab BA (Aa HQ) (Ag (.int 1)))) (Ag (.int 0))))
  (Ak (Af (Js [Av,DB]) (E0 (Ah (Ab BA (Aa Av) (Ab Au (BK Gx As Az) (Ab BS (Aa GJ) (Ag (.int 7))))) (Ah (Ab CT (Aa GJ) (Ag (.int 7))) As))))
  (Ak (Af (AA D4) (Ct AQ (Cx DD (Ab Au (Aa Ai) (Ag (.str CR)))) (EF (An (Ab Au (Aa BY) (Ab Au (Aa AQ) (Ag (.str Ae)))))) (Aa AQ)))
  (Ak (AS (An (Ab (Aw DZ) (Aa DU) (Ag (.int 4)))) (Ak (Af (JI [Ae,Ej]) (E0 (Ah (Ab BS (Aa DB) (Ag (.int 3))) (Ah (Ab BS (Aa Bq) (Ag (.int 5))) As))))
  (Ak (AS (An (Ab Au (Aa BY) (Aa Ae))) (Af (AA Ae) (Ag (.int 2))) AN)
  (Ak (Af (Js [Dl,Dd,FQ]) (E0 (Ah (Ab (Aw DZ) (Aa Ej) (Ag (.int 3))) (Ah (Ab (Aw DZ) (Aa Ej) (Ag (.int 4))) (Ah (Ab BA (Ag (.int 40)) (Ab CM (Ag (.int 16)) (Ab BS (Aa Bq) (Ag (.int 70))))) As)))))
  (Ak (Af (AA Am) (F4 FL (Ah (Ag (.int 3)) (Ah (Aa Dd) (Ah (Aa Dl) (Ah (Ab Cw (Aa Ej) (Ag (.int 2))) (Ah (Aa AU) (Ah (Ag (.int 5)) (Ah (Aa Av) (Ah (Aa FQ) As)))))))) Az))
  (Ak (Af (AA CU) (Ab BA (Ag (.int 1)) (Ab BS (Aa AU) (Ag (.int 2)))))
  (Ak (Af (AX (Aa Am) BN) (Ct Oy (Jq (Aa CU)) L7 (E0 (Ah (Ab BA (Ab CM (Ag (.int 10)) (Aa AU)) (Aa Oy)) (Ah (E0 (Ah (Aa Ae) (Ah (Aa Oy) As))) As)))))
  (Ak (Bx (Bh (Aa AC) Dm As (Aq Am (Aa Am) (Aq Ae (Ab Au (Al (Aa AC) Cn) (Aa Ae)) Az))))
  (Ak (Bx (JN (Ab Au (Aa Ai) (Ag (.str CR))) (MO (Aq Ae (Aa Ae) (Aq AU (Aa AU) (Aq GD (Aa Av) (Aq FQ (Aa FQ) (Aq Dl (Aa Dl) (Aq Dd (Aa Dd) (Aq Fh (Ab Cw (Aa Ej) (Ag (.int 2))) (Aq CU (Aa CU) (Aq Er (Ag (.str AP)) Az))))))))))))
  (Ak (AS (Cp (An (Aa Dl)) (Fk (An (Ab (Aw DZ) (Aa Ae) (Ag (.int 2)))) (An (Ab Au (Aa Ai) (Ag (.str BU)))))) (Af (DY (Aa Ai) (Ag (.str FN))) (Aa Av)) AN)
  (Af (AA AU) (Ab BA (Aa AU) (Gm (An (Ab Cw (Ab BS (Ab CT (Aa Bq) (Ag (.int 5))) (Ag (.int 4))) (Ag (.int 3)))) (Ag (.int 2)) (Ag (.int 1)))))))))))))) (AS (Cp (An (Ab (Aw DZ) (Aa DU) (Ag (.int 6)))) (An (Aa D4))) (Ak (Af (AA AQ) (Ab Au (Aa D4) (Ab Cv (Ab Cv (DP Go (Aa D4)) (Ag (.int 1))) (Ab BS (Aa DB) (DP Go (Aa D4))))))
  (Ak (Af (AA Ae) (Ab Au (Aa AQ) (Ag (.str Ae))))
  (Ak (Af (AA EV) (Ct IE (Cx DD (Aa D4)) (Cp (An (Ab Cw (Ab Au (Aa IE) (Ag (.str Ae))) (Aa Ae))) (An (Ab (Aw Ou) (Ab Au (Aa IE) (Ag (.str AU))) (Ab Au (Aa AQ) (Ag (.str AU)))))) (Ab Au (Aa IE) (Ag (.str AU)))))
  (Ak (Af (AA A7) (Ab Nk (Aa EV) (Ab (Aw Fg) (Ag (.int 0)) (Ab Cv (Ab Cv (DP Go (Aa EV)) (Ag (.int 1))) (Ab BS (Aa Bq) (Ag (.int 4)))))))
  (Ak (AS (Cp (An (Ab Cw (Ab BS (Ab CT (Aa Bq) (Ag (.int 4))) (Ag (.int 2))) (Ag (.int 1)))) (An (Ab Jh (Ab Au (Aa A7) (Ag (.int 0))) (Ab Au (Aa EV) (Ag (.int 0)))))) (Af (AA A7) (Ab BA (Dc (Ah (Ab Au (Aa EV) (Ag (.int 0))) As)) (Aa A7))) AN)
  (Ak (Af (AA De) (F4 IW As Az))
  (Ak (Ck (AA IZ) (Cx CY (Aa A7)) (Bx (Bh (Aa De) Ni (Ah (Aa IZ) As) Az)))
  (Ak (Af (AA BP) (Ab CM (Ab BS (Aa Bq) (Ag (.int 5))) (Ag (.int 9000))))
  (Ak (Bx (Bh (Aa AC) F7 As (Aq Db (Aa De) (Aq Bn (Aa BP) (Aq Av (Aa Av) (Aq Ae (Ab Au (Al (Aa AC) Cn) (Aa Ae)) Az))))))
  (Bx (BK Gw (Ah (Aa Ai) (Ah (Aa Ae) (Ah (Aa A7) (Ah (Aa BP) (Ah (Aa Av) As))))) Az))))))))))) (AS (An (Ab Cw (Aa DU) (Ag (.int 6)))) (Ak (Af (AA LS) (BK Gy (Ah (Aa AC) (Ah (Aa Ai) (Ah (Ag (.bool false)) As))) Az))
  (AS (An (Ab HO (Aa LS) (Ag .none))) (Ak (Af (AA Av) (Ab (Aw Fg) (Aa Av) (Aa LS)))
  (Ak (Bx (Bh (Aa AC) EE As (Aq Av (Aa Av) Az)))
  (Ak (Af (AA CG) (Ct CA (Cx DD (Ab Au (Aa Ai) (Ag (.str CA)))) (An (Ab HO (Aa CA) (Ag .none))) (Aa CA)))
  (AS (An (Aa CG)) (Bx (BK E9 (Ah (Aa Ai) (Ah (Ab Au (Ct Ae (Jq (Ag (.int 3))) (An (Ab Cw (Ab Au (Ab Au (Aa Ai) (Ag (.str CA))) (Aa Ae)) (DP OQ (Aa CG)))) (Aa Ae)) (Ag (.int 0))) (Ah (Aa Av) As))) Az)) (Ak (Af (DY (Aa Ai) (Ag (.str Dw))) (Ab BA (Ab Au (Aa Ai) (Ag (.str Dw))) (Ag (.int 1))))
  (Bx (BK Gd (Ah (Aa Ai) (Ah (Ag (.bool false)) As)) Az))))))) AN)) (AS (Cp (An (Ab Cw (Aa DU) (Ag (.int 7)))) (Cp (An (Ab Cw (Ab BS (Aa Bq) (Ag (.int 4))) (Ag (.int 0)))) (EF (An (Ab Au (Aa BY) (Ab BS (Aa DB) (Ag (.int 2)))))))) (Ak (Af (AA Ae) (Ab BS (Aa DB) (Ag (.int 2))))
  (Ak (Af (DY (Aa BY) (Aa Ae)) (Ag (.bool true)))
  (Ak (Bx (Bh (Aa AC) IX (Ah (Ab Au (Al (Aa AC) Cn) (Aa Ae)) As) Az))
  (Ak (Ck (AA AQ) (Cx CY (BK B6 (Ah (Aa Ai) (Ah (Aa Ae) As)) Az)) (Af (DY (Aa AQ) (Ag (.str Er))) (Ag (.str BY))))
  (Ak (Af (DY (Ab Au (Aa Ai) (Ag (.str CA))) (Aa Ae)) (Ag .none))
  (Af (DY (Aa Ai) (Ag (.str Dw))) (Ag (.int 0)))))))) (AS (Cp (An (Ab Cw (Aa DU) (Ag (.int 7)))) (An (Ab Cw (Ab BS (Aa Bq) (Ag (.int 4))) (Ag (.int 1))))) (Ak (Af (AX (Aa AC) A5) (Ag (.bool true)))
  (Af (DY (Aa Ai) (Ag (.str BU))) (Ag (.bool true)))) (AS (Cp (An (Ab Cw (Aa DU) (Ag (.int 7)))) (An (Ab Cw (Ab BS (Aa Bq) (Ag (.int 4))) (Ag (.int 2))))) (Ak (Af (AX (Aa AC) AG) (Ag (.bool true)))
  (Af (DY (Aa Ai) (Ag (.str EO))) (Ag (.bool true)))) (AS (Cp (An (Ab Cw (Aa DU) (Ag (.int 7)))) (An (Ab Cw (Ab BS (Aa Bq) (Ag (.int 4))) (Ag (.int 3))))) (Ak (Bx (Bh (Aa AC) F8 As (Aq Av (Aa Av) (Aq CV (Ab Cw (Ab BS (Aa DB) (Ag (.int 2))) (Ag (.int 1))) Az))))
  (Bx (BK Gd (Ah (Aa Ai) (Ah (Ab Cw (Ab BS (Aa DB) (Ag (.int 2))) (Ag (.int 1))) As)) Az))) AN)))))))
  (AS (EF (An (BK Ge (Ah (Aa AC) (Ah (Aa Ai) (Ah (Aa DN) (Ah (Aa Bu) As)))) Az))) (BZ (Ag (.bool false))) AN)))))))
  (BZ (Ag (.bool true)))))))))))))))
def MA:A2:=
  (Af (AX (Aa Ac) Ay) (Ab CM (Ag (.int 10)) (Aa AW)))
def MB:A2:=
  (Ak (Af (AX (Aa Ac) Da) (Ag (.int 0)))
  (Ak (Af (AX (Aa Ac) GE) (Ag .none))
  (Ak (Af (AX (Aa Ac) FS) (Ag (.bool false)))
  (Ak (Af (AX (Aa Ac) Fj) (Ag (.int 5)))
  (Ak (Af (AX (Aa Ac) B8) (Ag .none))
  (Ak (Af (AX (Aa Ac) Dy) (Ag (.int 0)))
  (Ak (Af (AX (Aa Ac) Cg) (Ag .none))
  (Ak (Af (AX (Aa Ac) Ch) (Ag .none))
  (Ak (Af (AX (Aa Ac) D7) (Ag (.int 0)))
  (Af (AX (Aa Ac) Dr) (Ct Ox (Jq (Al (Aa Ac) Fj)) L7 (Ag (.int 0)))))))))))))
def Md:A2:=
  (Ak (Af (DY (Al (Aa Ac) Dr) (Al (Aa Ac) Dy)) (Aa F9))
  (Ak (EC (Aw Ir) (Aa Ac) Dy (Ag (.int 1)))
  (Ak (AS (An (Ab (Aw MV) (Al (Aa Ac) Dy) (Al (Aa Ac) Fj))) (Ak (Af (AX (Aa Ac) Dy) (Ag (.int 0)))
  (Af (AX (Aa Ac) FS) (Ag (.bool true)))) AN)
  (AS (An (Al (Aa Ac) FS)) (Ak (Af (AX (Aa Ac) Cg) (Ab Au (Al (Aa Ac) Dr) (Ag (.int 0))))
  (Ak (Af (AX (Aa Ac) Ch) (Ab Au (Al (Aa Ac) Dr) (Ag (.int 0))))
  (Ck (AA Cu) (Cx CY (Ab Nk (Al (Aa Ac) Dr) (Ag (.int 1)))) (AS (An (Ab (Aw DZ) (Aa Cu) (Al (Aa Ac) Ch))) (Af (AX (Aa Ac) Ch) (Aa Cu)) (AS (An (Ab (Aw Gg) (Aa Cu) (Al (Aa Ac) Cg))) (Af (AX (Aa Ac) Cg) (Aa Cu)) AN))))) AN))))
def HD:A2:=
  (Ak (AS (An (Ab (Aw Gg) (Aa Av) (Ab BA (Al (Aa Ac) D7) (Ag (.int 1000))))) (Ak (Bx (Bh (Aa Ac) Pf As (Aq F9 (Aa F9) Az)))
  (Ak (Af (AX (Aa Ac) D7) (Aa Av))
  (AS (An (Al (Aa Ac) FS)) (Ak (AS (Fk (An (Ab F3 (Al (Aa Ac) B8) (Ag .none))) (An (Ab (Aw Gg) (Al (Aa Ac) B8) (Al (Aa Ac) Cg)))) (Af (AX (Aa Ac) B8) (Al (Aa Ac) Cg)) AN)
  (Ak (Af (AA Kd) (Ab Cv (Al (Aa Ac) Ch) (Al (Aa Ac) B8)))
  (AS (An (Ab (Aw MV) (Ab CM (Aa Kd) (Ag (.int 4))) (Al (Aa Ac) B8))) (Ak (EC (Aw Ir) (Aa Ac) Da (Ag (.int 1)))
  (AS (An (Ab (Aw MV) (Al (Aa Ac) Da) (Al (Aa Ac) Fj))) (BZ (Ag (.bool true))) AN)) (AS (An (Ab (Aw Gg) (Aa Kd) (Ag (.int 0)))) (Af (AX (Aa Ac) Da) (Ag (.int 0))) AN)))) AN))) AN)
  (BZ (Ag (.bool false))))
def K5:A2:=
  (Vl Ac Eo Ko (Aq AW (Aa AW) Az)
  (Ak (Af (AX (Aa Ac) AV) (Aa AW))
  (Ak (Af (AX (Aa Ac) AY) (Ag (.int 0)))
  (Ak (Af (AX (Aa Ac) BV) (Ag (.int 0)))
  (Af (AX (Aa Ac) D6) (F4 Gn As Az))))))
def IM:A2:=
  (Ak (EC Cv (Aa Ac) Cq (Al (Aa Am) C9))
  (Ak (AS (An (Ab (Aw Ou) (Al (Aa Am) Bg) (Al (Aa Ac) AY))) Na AN)
  (AS (Fk (An (Ab F3 (Al (Aa Ac) FR) (Ag .none))) (An (Ab (Aw DZ) (Al (Aa Ac) Ay) (Al (Aa Ac) FR)))) (EC (Aw Ir) (Aa Ac) Ay (Al (Aa Am) C9)) (Ak (EC (Aw Ir) (Aa Ac) BV (Al (Aa Am) C9))
  (Ak (Af (AA Nj) (Ab CT (Al (Aa Ac) BV) (Al (Aa Ac) Ay)))
  (AS (An (Aa Nj)) (Ak (EC Cv (Aa Ac) BV (Ab CM (Aa Nj) (Al (Aa Ac) Ay)))
  (EC (Aw Ir) (Aa Ac) Ay (Ab CM (Aa Nj) (Al (Aa Ac) AV)))) AN))))))
def I5:A2:=
  (EC (Aw Ir) (Aa Ac) Cq (Al (Aa Am) C9))
def HB:A2:=
  (Ck (AA Am) (Cx CY (Aa Bd)) (EC Cv (Aa Ac) Cq (Al (Aa Am) C9)))
def IN:A2:=
  (Ak (Af (AA Fq) (Ag (.int 0)))
  (Ak (Ck (AA Am) (Cx CY (Aa Bd)) (Ak (EC Cv (Aa Ac) Cq (Al (Aa Am) C9))
  (Af (AA Fq) (Al (Aa Am) Bg))))
  (AS (An (Ab (Aw Gg) (Aa Fq) (Al (Aa Ac) AY))) (Ak (Af (AX (Aa Ac) AY) (Aa Av))
  (Ak (Af (AX (Aa Ac) Ay) (Ab (Aw Fg) (Ab CT (Al (Aa Ac) Ay) (Ag (.int 2))) (Ab CM (Ag (.int 2)) (Al (Aa Ac) AV))))
  (Af (AX (Aa Ac) FR) (Al (Aa Ac) Ay)))) AN)))
def FW:A2:=
  (Ak (Af (AX (Aa Ac) Ay) (Ab CM (Ag (.int 2)) (Al (Aa Ac) AV)))
  (Af (AX (Aa Ac) AY) (Ag (.int 0))))
def HC:A2:=
  (AS (Cp (An (Ab F3 (Al (Aa Ac) FR) (Ag .none))) (An (Bh (Al (Aa Ac) D6) Jf As (Aq Av (Aa Av) (Aq F9 (Aa F9) Az))))) (Af (AX (Aa Ac) FR) (Al (Aa Ac) Ay)) AN)
def MD:A2:=
  (Ak (Af (AX (Aa Ac) Ke) (Aa Ke))
  (Ak (Af (AX (Aa Ac) CE) (Aa CE))
  (Ak (Af (AX (Aa Ac) AB) (Aa AB))
  (Ak (Af (AX (Aa Ac) Cz) (Aa Cz))
  (Ak (Af (AX (Aa Ac) AH) (Aa AH))
  (Ak (Af (AX (Aa Ac) FE) (Aa FE))
  (Ak (Af (AX (Aa Ac) Bg) (Aa Bg))
  (Ak (Af (AX (Aa Ac) C9) (Aa C9))
  (Af (AX (Aa Ac) BN) (Dc As))))))))))
def Nv:A2:=
  (Ak (Af (AX (Aa Ac) BQ) (Aa BQ))
  (Af (AX (Aa Ac) BO) (Aa BO)))
def Nu:A2:=
  (Ak (Af (AX (Aa Ac) CB) (Dc As))
  (Ck (AA Jg) (Cx CY (Aa De)) (Bx (Bh (Aa Ac) Ni (Ah (Al (Aa Jg) BQ) (Ah (Al (Aa Jg) BO) As)) Az))))
def PZ:A2:=
  (Ak (AS (An (Ab F3 (Aa BO) (Ag .none))) (Af (AA BO) (Ab BA (Aa BQ) (Ag (.int 1)))) AN)
  (Ak (Oj (An (Ab (Aw Gg) (Aa BO) (Aa BQ))))
  (Ak (Ck (JI [Ox,Jg]) (Rk (Al (Aa Ac) CB)) (Ak (AS (An (Ab (Aw DZ) (Aa BO) (Al (Aa Jg) BQ))) (Ak (Bx (Bh (Al (Aa Ac) CB) SF (Ah (Aa Ox) (Ah (F4 JQ (Ah (Aa BQ) (Ah (Aa BO) As)) Az) As)) Az))
  Na) AN)
  (Ak (AS (An (Ab (Aw Gg) (Aa BQ) (Al (Aa Jg) BO))) Qe AN)
  (Ak (Af (AA BQ) (Ab (Aw Kt) (Aa BQ) (Al (Aa Jg) BQ)))
  (Ak (Af (AA BO) (Ab (Aw Fg) (Aa BO) (Al (Aa Jg) BO)))
  (Ak (QB (Cp (An (Ab (Aw DZ) (Aa Ox) (Ab Cv (DP Go (Al (Aa Ac) CB)) (Ag (.int 1))))) (An (Ab (Aw Ou) (Al (Ab Au (Al (Aa Ac) CB) (Ab BA (Aa Ox) (Ag (.int 1)))) BQ) (Aa BO)))) (Ak (Af (AA BO) (Ab (Aw Fg) (Al (Ab Au (Al (Aa Ac) CB) (Ab BA (Aa Ox) (Ag (.int 1)))) BO) (Aa BO)))
  (Bx (N0 (Al (Aa Ac) CB) (Ab BA (Aa Ox) (Ag (.int 1)))))))
  (Ak (Af (DY (Al (Aa Ac) CB) (Aa Ox)) (F4 JQ (Ah (Aa BQ) (Ah (Aa BO) As)) Az))
  Na)))))))
  (Bx (JN (Al (Aa Ac) CB) (F4 JQ (Ah (Aa BQ) (Ah (Aa BO) As)) Az))))))
def Nt:A2:=
  (BZ (F4 JQ (Ah (Al (Ab Au (Al (Aa Ac) CB) (Ag (.int 0))) BQ) (Ah (Al (Ab Au (Al (Aa Ac) CB) (DP LT (Ag (.int 1)))) BO) As)) Az))
def MF:A2:=
  (Ak (Af (AX (Aa Ac) Pg) (Ag (.int 0)))
  (Ak (Af (AX (Aa Ac) M5) (Ag .R9))
  (Af (AX (Aa Ac) Fj) (Ab CM (Ag (.int 2)) (Ag (.int 64))))))
def IP:A2:=
  (Ak (Af (AX (Aa Ac) Jp) (Ag .none))
  (Ak (Af (AX (Aa Ac) Jw) (F4 IW As Az))
  (Ak (Af (AX (Aa Ac) Jx) (Ag (.bool false)))
  (Ak (Af (AX (Aa Ac) D2) (Ag (.int 0)))
  (Ak (Af (AX (Aa Ac) AO) (Aa AO))
  (Ak (Af (AX (Aa Ac) DX) (DP LT (Ag (.int 1))))
  (Ak (Af (AX (Aa Ac) Eg) (Ag .none))
  (Ak (Af (AX (Aa Ac) FP) (F4 Oq As Az))
  (Ak (Af (AX (Aa Ac) Ax) (Ag (.int 0)))
  (Ak (Af (AX (Aa Ac) BE) (Ag (.int 0)))
  (Ak (Af (AX (Aa Ac) Cr) (Ag .none))
  (Af (AX (Aa Ac) Bi) SA))))))))))))
def MC:A2:=
  (Ak (Af (AX (Aa Ac) AV) (Aa AW))
  (Ak (Af (AX (Aa Ac) D1) (Ag (.int 0)))
  (Ak (Af (AX (Aa Ac) D9) (Ag (.int 0)))
  (Ak (Af (AX (Aa Ac) D8) (Ag (.int 0)))
  (Af (AX (Aa Ac) ER) (Ag .none))))))
def JY:A2:=
  (Ak (Af (AA F9) (Ab (Aw Fg) (Aa Ep) (Ag (.int 1))))
  (Ak (Af (AX (Aa Ac) ER) (Ab (Aw Fg) (Ag (.int 1)) (Ab (Aw Kt) (Ab CT (Ab CM (Al (Aa Ac) AV) (Aa F9)) (Aa Ay)) (Ag (.int 1000000)))))
  (Ak (Af (AX (Aa Ac) D1) (Ab CT (Ab CM (Ab (Aw Fg) (Ab CM (Ag (.int 2)) (Al (Aa Ac) AV)) (Ab (Aw Kt) (Ab CT (Aa Ay) (Ag (.int 4))) (Ab CM (Ag (.int 16)) (Al (Aa Ac) AV)))) (Aa F9)) (Aa Ay)))
  (AS (An (Ab (Aw Gg) (Al (Aa Ac) D9) (Al (Aa Ac) D1))) (Af (AX (Aa Ac) D9) (Al (Aa Ac) D1)) AN))))
def ME:A2:=
  (Ak (Af (AX (Aa Ac) A5) (Ag (.bool false)))
  (Ak (Af (AX (Aa Ac) D5) (Ag (.int 25000)))
  (Ak (Af (AX (Aa Ac) AG) (Aa AG))
  (Ak (Af (AX (Aa Ac) Cn) (Dc As))
  (Ak (Af (AX (Aa Ac) Fa) (Aa Gf))
  (Ak (Af (AX (Aa Ac) EA) (Aa IC))
  (Ak (Af (AX (Aa Ac) Dq) (Ag (.int 0)))
  (Ak (Af (AX (Aa Ac) BC) (Ag (.int 0)))
  (Ak (Af (AX (Aa Ac) EN) (Aa FC))
  (Ak (Af (AX (Aa Ac) Bs) (Ag (.bool false)))
  (Ak (Af (AX (Aa Ac) A0) (Ag (.int 0)))
  (Ak (Af (AX (Aa Ac) BW) (Ag .none))
  (Ak (Af (AX (Aa Ac) Be) (Ag (.int 0)))
  (Ak (Af (AX (Aa Ac) BG) (Ag (.int 0)))
  (Ak (Af (AX (Aa Ac) A1) (Ag (.int 0)))
  (Ak (Af (AX (Aa Ac) Dj) (F4 Eo As (Aq AW (Aa AW) Az)))
  (Af (AX (Aa Ac) Gi) (F4 Ka As (Aq AW (Aa AW) Az)))))))))))))))))))
def Iw:A2:=
  (BZ (Al (Al (Aa Ac) Dj) Cq))
def Ky:A2:=
  (BZ (Al (Al (Aa Ac) Dj) Ay))
def I6:A2:=
  (Ak (Oj (An (Ab Qj (Aa Ae) (Al (Aa Ac) Cn))))
  (Ak (Bx (Bh (Al (Aa Ac) Dj) Gp As (Aq Bd (ON CE (Al (Aa Ae) Bi)) Az)))
  (Ak (Bx (Rh (Al (Aa Ae) Bi)))
  (Ak (Af (AX (Aa Ae) Jp) (Ag .none))
  (Ak (Af (AX (Aa Ae) Ax) (Ag (.int 0)))
  (Ak (Af (AX (Aa Ae) Cr) (Ag .none))
  (Af (AX (Aa Ac) Dq) (Ag (.int 0)))))))))
def FX:A2:=
  (Ak (Af (AA CZ) (Bh (Aa Ac) Hh As Az))
  (Ak (AS (An (Ab HO (Aa CZ) (Ag .none))) (BZ (Al (Aa CZ) Cr)) AN)
  (Ak (AS (An (Aa Ef)) (BZ (Ag .none)) AN)
  (Ak (Af (AA Ax) (RC Ac A5 AO Ax Cn))
  (Ak (AS (Fk (EF (An (Al (Aa Ac) AG))) (An (Aa Ax))) (Ak (Af (AA KX) (Ab CM (Bh (Aa Ac) B7 As (Aq Bm (Al (Aa Ac) A5) Az)) (Ab OX (Ag (.int 2)) (Al (Aa Ac) Dq))))
  (BZ (Ab BA (Al (Aa Ac) A1) (Aa KX)))) AN)
  (BZ (Ag .none)))))))
def Ed:A2:=
  (Ak (AS (EF (An (Al (Aa Ac) Bs))) (BZ (Ab CM (Ag (.int 2)) (Al (Aa Ac) EN))) AN)
  (Ak (Af (AA Rv) (Ab BA (Al (Aa Ac) Be) (Ab (Aw Fg) (Ab CM (Ag (.int 4)) (Al (Aa Ac) BG)) (Ag (.int 1000)))))
  (Ak (AS (An (Aa Bm)) (Rb (Aw Ir) Rv (Al (Aa Ac) D5)) AN)
  (BZ (Aa Rv)))))
def Ix:A2:=
  (Ak (Af (AA AB) (Ag (.bool false)))
  (Ak (Af (AA Di) (Ab Cv (Al (Bh (Aa Db) Qn As Az) BO) (Ag (.int 1))))
  (Ak (Af (AA BB) (Ag .none))
  (Ak (Af (AA Br) (Ag .none))
  (Ak (AS (An (Ab (Aw Gg) (Aa Di) (Al (Aa Ae) BE))) (Af (AX (Aa Ae) BE) (Aa Di)) AN)
  (Ak (Af (AA CH) (DP R6 (Al (Aa Ae) Bi)))
  (Ak (Ck (AA Jg) (Cx CY (Aa Db)) (Ak (Af (AA BQ) (BK FB (Ah (Aa CH) (Ah (Al (Aa Jg) BQ) As)) Az))
  (Ak (Af (AA BO) (BK FB (Ah (Aa CH) (Ah (Al (Aa Jg) BO) As)) Az))
  (Ck (AA AH) (Cx CY (O2 LZ (Aa CH) (Aa BQ) (Aa BO))) (Ak (Af (AA Am) (N0 (Al (Aa Ae) Bi) (Aa AH)))
  (Ak (AS (An (Al (Aa Am) AB)) (Ak (Af (AA AB) (Ag (.bool true)))
  (EC Cv (Aa Ae) Ax (Ag (.int 1)))) AN)
  (Ak (AS (An (Al (Aa Am) CE)) (Bx (Bh (Al (Aa Ac) Dj) EU As (Aq Am (Aa Am) (Aq Av (Aa Av) Az)))) AN)
  (Ak (Af (AA BB) (Aa AH))
  (Ak (Af (AA Br) (Al (Aa Am) Bg))
  (Ck (JI [DG,FM]) (Cx CY (Al (Aa Am) BN)) (Bx (Bh (Aa Ac) EA (Ah (Aa DG) (Ah (Ag (.int 0)) (Ah (Aa FM) As))) Az))))))))))))
  (Ak (AS (An (Ab F3 (Aa BB) (Ag .none))) Na AN)
  (Ak (AS (Cp (An (Ab Cw (Aa Di) (Aa BB))) (An (Aa AB))) (Ak (Af (AA BF) (Ab Cv (Aa Av) (Aa Br)))
  (Ak (Af (AA Bn) (Ab (Aw Kt) (Aa Bn) (Al (Aa Ac) D5)))
  (Ak (Af (AX (Aa Ac) A0) (Ab (Aw Fg) (Aa BF) (Ag (.int 1000))))
  (Ak (AS (Fk (An (Ab F3 (Al (Aa Ac) BW) (Ag .none))) (An (Ab (Aw DZ) (Al (Aa Ac) A0) (Al (Aa Ac) BW)))) (Af (AX (Aa Ac) BW) (Al (Aa Ac) A0)) AN)
  (Ak (AS (An (Ab (Aw Gg) (Al (Aa Ac) A0) (Ab BA (Al (Aa Ac) BW) (Aa Bn)))) (EC Cv (Aa Ac) A0 (Aa Bn)) AN)
  (Ak (AS (EF (An (Al (Aa Ac) Bs))) (Ak (Af (AX (Aa Ac) BC) (Aa Av))
  (Ak (Af (AX (Aa Ac) Bs) (Ag (.bool true)))
  (Ak (Af (AX (Aa Ac) BG) (Ab CT (Aa BF) (Ag (.int 2))))
  (Af (AX (Aa Ac) Be) (Aa BF))))) (Ak (Af (AX (Aa Ac) BG) (Ab CT (Ab BA (Ab CM (Ag (.int 3)) (Al (Aa Ac) BG)) (DP PX (Ab Cv (Al (Aa Ac) BW) (Al (Aa Ac) A0)))) (Ag (.int 4))))
  (Af (AX (Aa Ac) Be) (Ab CT (Ab BA (Ab CM (Ag (.int 7)) (Al (Aa Ac) Be)) (Al (Aa Ac) A0)) (Ag (.int 8))))))
  (Ak (Bx (Bh (Al (Aa Ac) Dj) Gq As (Aq Av (Aa Av) (Aq F9 (Aa BF) Az))))
  (Bx (Bh (Al (Aa Ac) Gi) GF As (Aq Ay (Al (Al (Aa Ac) Dj) Ay) (Aq Ep (Al (Aa Ac) Be) Az))))))))))) AN)
  (Ak (Bx (Bh (Aa Ac) GU As (Aq Av (Aa Av) (Aq Ae (Aa Ae) Az))))
  (AS (An (Al (Aa Ac) AG)) (Af (AX (Aa Ac) Dq) (Ag (.int 0))) AN)))))))))))
def Fu:A2:=
  (Ak (Af (AA CZ) (Bh (Aa Ac) Hh As Az))
  (AS (An (Ab HO (Aa CZ) (Ag .none))) (Bx (Bh (Aa Ac) GU As (Aq Av (Aa Av) (Aq Ae (Aa CZ) Az)))) (Ak (EC (Aw Ir) (Aa Ac) Dq (Ag (.int 1)))
  (Bx (Bh (Aa Ac) F8 As (Aq Av (Aa Av) Az))))))
def IO:A2:=
  (Ak (Af (DY (Al (Aa Ae) Bi) (Al (Aa Am) AH)) (Aa Am))
  (Ak (AS (An (Al (Aa Am) AB)) (EC (Aw Ir) (Aa Ae) Ax (Ag (.int 1))) AN)
  (AS (An (Al (Aa Am) CE)) (Ak (AS (Cp (An (Al (Aa Am) AB)) (Fk (An (Al (Aa Ac) A5)) (EF (An (Al (Aa Ae) AO))))) (Af (AX (Aa Ac) A1) (Al (Aa Am) Bg)) AN)
  (Bx (Bh (Al (Aa Ac) Dj) Dm As (Aq Am (Aa Am) Az)))) AN)))
def EJ:A2:=
  (Ak (Af (AA BX) (Ag (.bool false)))
  (Ak (Ck (AA Ae) (Cx CY (Al (Aa Ac) Cn)) (Ak (Af (AA Bd) (DP L4 (ON Cz (Al (Aa Ae) Bi))))
  (AS (An (Aa Bd)) (Ak (Bx (Bh (Aa Ac) Df As (Aq Cy (Ag (.bool false)) (Aq Av (Aa Av) (Aq Bd (Aa Bd) (Aq Ae (Aa Ae) Az))))))
  (Af (AA BX) (Ag (.bool true)))) AN)))
  (Ak (AS (Cp (EF (An (Aa BX))) (EF (An (Aa CV)))) (Ak (Af (AA A3) (Ag .none))
  (Ak (Ck (AA Ae) (Cx CY (Al (Aa Ac) Cn)) (Ak (AS (Cp (An (Al (Aa Ae) AO)) (EF (An (Al (Aa Ac) A5)))) Qe AN)
  (Ck (AA Am) (O3 (Al (Aa Ae) Bi)) (AS (An (Al (Aa Am) AB)) (Ak (AS (Fk (An (Ab F3 (Aa A3) (Ag .none))) (An (Ab (Aw DZ) (Al (Aa Am) Bg) (Al (Ab Au (Aa A3) (Ag (.int 0))) Bg)))) (Af (AA A3) (E0 (Ah (Aa Am) (Ah (Aa Ae) As)))) AN)
  OM) AN))))
  (AS (An (Ab HO (Aa A3) (Ag .none))) (Ak (Af (JI [Am,Ae]) (Aa A3))
  (Bx (Bh (Aa Ac) Df As (Aq Cy (Ag (.bool false)) (Aq Av (Aa Av) (Aq Bd (Dc (Ah (Aa Am) As)) (Aq Ae (Aa Ae) Az))))))) AN))) AN)
  (Bx (Bh (Aa Ac) Fa As Az)))))
def I7:A2:=
  (Ak (Af (AA Hf) (Ab CT (Ab CM (Ag (.int 9)) (Gm (An (Al (Aa Ac) Bs)) (Ab (Aw Fg) (Al (Aa Ac) A0) (Al (Aa Ac) Be)) (Al (Aa Ac) EN))) (Ag (.int 8))))
  (Ak (Af (AA FO) (Ab Cv (Al (Aa Ae) BE) (Ag (.int 3))))
  (Ak (Af (AA Gr) (Ab Cv (Aa Av) (Aa Hf)))
  (Ak (Af (AA Cf) (Dc As))
  (Ak (Af (AX (Aa Ae) Cr) (Ag .none))
  (Ak (Ck (JI [AH,Am]) (Rr (Al (Aa Ae) Bi)) (Ak (AS (An (Ab (Aw Gg) (Aa AH) (Al (Aa Ae) BE))) OM AN)
  (AS (Fk (An (Ab (Aw Ou) (Aa AH) (Aa FO))) (An (Ab (Aw Ou) (Al (Aa Am) Bg) (Aa Gr)))) (Bx (JN (Aa Cf) (Aa Am))) (Ak (Af (AA Dn) (Ab BA (Al (Aa Am) Bg) (Aa Hf)))
  (AS (Fk (An (Ab F3 (Al (Aa Ae) Cr) (Ag .none))) (An (Ab (Aw Gg) (Al (Aa Ae) Cr) (Aa Dn)))) (Af (AX (Aa Ae) Cr) (Aa Dn)) AN)))))
  (Bx (Bh (Aa Ac) Df As (Aq Av (Aa Av) (Aq Bd (Aa Cf) (Aq B9 (Bh (Aa Ac) Dx As (Aq Bd (Aa Cf) Az)) (Aq Ae (Aa Ae) Az))))))))))))
def Ie:A2:=
  (Ak (Af (AA CZ) (Ag .none))
  (Ak (Ck (AA Ae) (Cx CY (Al (Aa Ac) Cn)) (AS (Cp (An (Ab HO (Al (Aa Ae) Cr) (Ag .none))) (Fk (An (Ab F3 (Aa CZ) (Ag .none))) (An (Ab (Aw DZ) (Al (Aa Ae) Cr) (Al (Aa CZ) Cr))))) (Af (AA CZ) (Aa Ae)) AN))
  (BZ (Aa CZ))))
def Fc:A2:=
  (Ak (AS (EF (An (Al (Aa Ac) Bs))) (BZ (Ag (.bool false))) AN)
  (Ak (Af (AA HA) (Ab CM (Bh (Aa Ac) B7 As Az) (Ag (.int 3))))
  (Ak (Af (AA Cm) (Ag .none))
  (Ak (Af (AA Do) (Ag .none))
  (Ak (Ck (AA Am) (Cx CY (Aa Bd)) (Ak (AS (Cp (An (Ab HO (Aa Cm) (Ag .none))) (An (Ab Jh (Al (Aa Am) AH) (Ab BA (Aa Cm) (Ag (.int 1)))))) (Af (AA Do) (Ag .none)) AN)
  (Ak (Af (AA Cm) (Al (Aa Am) AH))
  (AS (Cp (An (Al (Aa Am) AB)) (An (Ab (Aw Gg) (Al (Aa Am) Bg) (Al (Aa Ac) BC)))) (AS (An (Ab F3 (Aa Do) (Ag .none))) (Af (AA Do) (Al (Aa Am) Bg)) (AS (An (Ab (Aw Gg) (Ab Cv (Al (Aa Am) Bg) (Aa Do)) (Aa HA))) (BZ (Ag (.bool true))) AN)) AN))))
  (BZ (Ag (.bool false))))))))
def Ee:A2:=
  (Ak (Af (AA BH) (Dc As))
  (Ak (Ck (AA Am) (Cx CY (Aa Bd)) (Ak (Rj (Al (Aa Ae) Bi) (Al (Aa Am) AH))
  (Ak (AS (An (Al (Aa Am) CE)) (Bx (JN (Aa BH) (Aa Am))) AN)
  (Ak (AS (An (Al (Aa Am) AB)) (EC Cv (Aa Ae) Ax (Ag (.int 1))) AN)
  (Ck (JI [DG,FM]) (Cx CY (Al (Aa Am) BN)) (Bx (Bh (Aa Ac) EA (Ah (Aa DG) (Ah (Ag (.int 1)) (Ah (Aa FM) As))) Az)))))))
  (AS (Cp (An (Aa BH)) (EF (An (Aa Cy)))) (Bx (Bh (Al (Aa Ac) Dj) Gp As (Aq Bd (Aa BH) Az))) (AS (An (Aa BH)) (Ak (Bx (Bh (Al (Aa Ac) Dj) J3 As (Aq Av (Aa Av) (Aq Bd (Aa BH) Az))))
  (Ak (AS (An (Aa B9)) (Bx (Bh (Al (Aa Ac) Dj) GB As Az)) AN)
  (Bx (Bh (Al (Aa Ac) Gi) GF As (Aq Ay (Al (Al (Aa Ac) Dj) Ay) (Aq Ep (Al (Aa Ac) Be) Az)))))) AN))))
def JP:CP:=⟨[Bk,AU],[],[],[]⟩
def Mk:CP:=⟨[],[],[],[]⟩
def KR:CP:=⟨[],[],[],[]⟩
def NB:CP:=⟨[Ai,AQ,Er],[],[],[]⟩
def KQ:CP:=⟨[Ai,Ae],[],[],[]⟩
def Hq:CP:=⟨[Ai,Ae,Av],[],[],[]⟩
def Kn:CP:=⟨[Ai,OT],[],[],[]⟩
def Mj:CP:=⟨[Ai,Ae,Bk,BP,Av],[],[],[]⟩
def Io:CP:=⟨[AC,Ai,He],[],[],[]⟩
def Ly:CP:=⟨[AC,Ai,DN,Bu],[],[],[]⟩
def Ri:CP:=⟨[Fi],[],[],[]⟩
def MI:CP:=⟨[Ac],[],[AW],[]⟩
def MJ:CP:=⟨[Ac],[],[],[]⟩
def Mi:CP:=⟨[Ac],[],[F9],[]⟩
def HG:CP:=⟨[Ac],[],[Av,F9],[]⟩
def K7:CP:=⟨[Ac],[],[AW],[]⟩
def IQ:CP:=⟨[Ac],[],[Av,Am],[]⟩
def I8:CP:=⟨[Ac],[],[Am],[]⟩
def HE:CP:=⟨[Ac],[],[Bd],[]⟩
def IR:CP:=⟨[Ac],[],[Av,Bd],[]⟩
def FY:CP:=⟨[Ac],[],[],[]⟩
def HF:CP:=⟨[Ac],[],[Av,F9],[]⟩
def ML:CP:=⟨[Ac,Ke,CE,AB,Cz,AH,FE,Bg,C9],[.none,.int 0],[],[]⟩
def NA:CP:=⟨[Ac,BQ,BO],[],[],[]⟩
def Nz:CP:=⟨[Ac,De],[.DM []],[],[]⟩
def Qf:CP:=⟨[Ac,BQ,BO],[.none],[],[]⟩
def Ny:CP:=⟨[Ac],[],[],[]⟩
def MN:CP:=⟨[Ac],[],[],[]⟩
def Km:CP:=⟨[Ac],[],[AO],[(AO,.bool false)]⟩
def MK:CP:=⟨[Ac],[],[AW],[]⟩
def JZ:CP:=⟨[Ac,Ay,Ep],[],[],[]⟩
def MM:CP:=⟨[Ac],[],[FC,AW,AG,Gf,IC],[]⟩
def Iy:CP:=⟨[Ac],[],[],[]⟩
def Kz:CP:=⟨[Ac],[],[],[]⟩
def I9:CP:=⟨[Ac,Ae],[],[],[]⟩
def FZ:CP:=⟨[Ac],[],[Ef],[]⟩
def Fy:CP:=⟨[Ac],[],[Bm],[(Bm,.bool true)]⟩
def Iz:CP:=⟨[Ac],[],[Db,Bn,Av,Ae],[]⟩
def Fv:CP:=⟨[Ac],[],[Av],[]⟩
def Dt:CP:=⟨[Ac],[],[Am,Ae],[]⟩
def Gc:CP:=⟨[Ac],[],[Av,CV],[(CV,.bool false)]⟩
def Ja:CP:=⟨[Ac],[],[Av,Ae],[]⟩
def Ig:CP:=⟨[Ac],[],[],[]⟩
def Fd:CP:=⟨[Ac],[],[Bd],[]⟩
def Fz:CP:=⟨[Ac],[],[Cy,Av,Bd,B9,Ae],[(Cy,.bool true),(B9,.bool false)]⟩
def Uu:List (Nat×CP×A2):= [(0,JP,Me),(1,Mk,Mg),(2,KR,KO),(3,NB,Nw),(4,KQ,KN),(5,Hq,Lq),(6,Kn,MG),(7,Mj,Mf),(8,Io,Mh),(9,Ly,Lr),(10,Ri,Te),(11,MI,MA),(12,MJ,MB),(13,Mi,Md),(14,HG,HD),(15,K7,K5),(16,IQ,IM),(17,I8,I5),(18,HE,HB),(19,IR,IN),(20,FY,FW),(21,HF,HC),(22,ML,MD),(23,NA,Nv),(24,Nz,Nu),(25,Qf,PZ),(26,Ny,Nt),(27,MN,MF),(28,Km,IP),(29,MK,MC),(30,JZ,JY),(31,MM,ME),(32,Iy,Iw),(33,Kz,Ky),(34,I9,I6),(35,FZ,FX),(36,Fy,Ed),(37,Iz,Ix),(38,Fv,Fu),(39,Dt,IO),(40,Gc,EJ),(41,Ja,I7),(42,Ig,Ie),(43,Fd,Fc),(44,Fz,Ee)]
def aH {a b:Bool}(h:(a && b)=true):a=true:=(Bool.and_eq_true_iff.mp h).1
def aA {a b:Bool}(h:(a && b)=true):b=true:=(Bool.and_eq_true_iff.mp h).2
def lX {a:Bool}(h:(!a)=true):a=false:=(Bool.not_eq_true' _).mp h
def dD {α:Type}{o:Option α}{p:α->Bool}(h:o.any p=true):∃ x,o=some x/\p x=true:=by
 induction o using Option.casesOn with
 |none=>exact(nomatch h)
 |some x=>exact⟨x,rfl,h⟩
def Kv (v:Value):Addr:=Value.casesOn v 0 0 0 (λU=>0) (λU U=>0) (λU U=>0) (λU U=>0) (λU U=>0) (λU=>0) (λU=>0) λa=>a
def Nb (v:Value):Tok:=Value.casesOn v 0 0 0 (λU=>0) (λU t=>t) (λU U=>0) (λU t=>t) (λU U=>0) (λU=>0) (λU=>0) λU=>0
def SM (v:Value):Str:=Value.casesOn v "" "" "" (λU=>"") (λU U=>"") (λU U=>"") (λs U=>s) (λU U=>"") (λU=>"") (λU=>"") λU=>""
def Sj (x:Option (Option Value)):Value:=(x.getD none).getD .none
def Rp (d:Data):Option FuncData:=Data.casesOn d none (λU=>none) (λU U=>none) (λU U=>none) (λU U U=>none) (λU U=>none) (λU=>none) (λf=>some f) (λU=>none) (λU=>none) none
def SJ (d:Data):Option (Array Value):=Data.casesOn d none (λU=>none) (λv U=>some v) (λU U=>none) (λU U U=>none) (λU U=>none) (λU=>none) (λU=>none) (λU=>none) (λU=>none) none
def Uo (d:Data):Option (Array DictEntry):=Data.casesOn d none (λU=>none) (λU U=>none) (λv U=>some v) (λU U U=>none) (λU U=>none) (λU=>none) (λU=>none) (λU=>none) (λU=>none) none
def Ul (d:Data):Option (Option Value):=Data.casesOn d none (λU=>none) (λU U=>none) (λU U=>none) (λU U U=>none) (λU U=>none) (λv=>some v) (λU=>none) (λU=>none) (λU=>none) none
def Ut (d:Data):Option (Array Value):=Data.casesOn d none (λU=>none) (λU U=>none) (λU U=>none) (λU U U=>none) (λU U=>none) (λU=>none) (λU=>none) (λU=>none) (λv=>some v) none
def QL {α:Type}(K:Frag)(f:Data->Option α)(a:Addr):Option α:=(K.lookup a).bind λo=>f o.data
def d7 {α:Type}{K:Frag}{f:Data->Option α}{a:Addr}{x:α}(e:QL K f a=some x):∃ o,K.lookup a=some o/\f o.data=some x:=Option.bind_eq_some_iff.mp e
def jm {d:Data}{f:FuncData}(e:Rp d=some f):d= .func f:=by
 induction d using Data.casesOn with
 |func g=>exact congrArg Data.func (Option.some.inj e)
 |_=>exact(nomatch e)
def kP {d:Data}{f:Array Value}(e:SJ d=some f):∃ m,d= .seq f m:=by
 induction d using Data.casesOn with
 |seq g m=>exact⟨m,congrArg (Data.seq · m) (Option.some.inj e)⟩
 |_=>exact(nomatch e)
def qw {d:Data}{f:Array DictEntry}(e:Uo d=some f):∃ m,d= .dict f m:=by
 induction d using Data.casesOn with
 |dict g m=>exact⟨m,congrArg (Data.dict · m) (Option.some.inj e)⟩
 |_=>exact(nomatch e)
def qu {d:Data}{f:Option Value}(e:Ul d=some f):d= .cell f:=by
 induction d using Data.casesOn with
 |cell g=>exact congrArg Data.cell (Option.some.inj e)
 |_=>exact(nomatch e)
def qA {d:Data}{f:Array Value}(e:Ut d=some f):d= .fields f:=by
 induction d using Data.casesOn with
 |fields g=>exact congrArg Data.fields (Option.some.inj e)
 |_=>exact(nomatch e)
def WR (k:Nat):Nat->List Nat:= @Nat.rec (λU=>Nat->List Nat) (λU=> []) (λU r c=>cond (Nat.ble c 1) [] ((c % 256)::r (c / 256))) k
def SV (c:Nat):Str:=⟨(WR 100 c).toArray⟩
def Tm (c:Nat):Bool:=good (SV c) && Nat.beq (AI (SV c)) c
def sP {n:Str}{c:Nat}(h:Tm c=true)(hn:good n=true)(e:AI n=c):n=SV c:=bJ hn (aH h) (e.trans (Nat.eq_of_beq_eq_true (aA h)).symm)
def CD (t:List (Nat×Addr))(d:Addr)(i:Nat):Addr:=(look i t).getD d
def PY (t:List (Nat×Addr))(d:Addr)(p:Addr->Bool):Bool:=p d && t.all λq=>p q.2
def ki {t:List (Nat×Addr)}{d:Addr}{p:Addr->Bool}(h:PY t d p=true)(i:Nat):p (CD t d i)=true:=by
 unfold CD
 cases e:look i t with
 |none=>exact aH h
 |some a=>exact List.all_eq_true.mp (aA h) _ (aW e)
def NJ {α:Type}(t:List (Nat×α))(p:Str->α->Bool):Bool:=t.all λr=>Tm r.1 && p (SV r.1) r.2
def ch {α:Type}{t:List (Nat×α)}{p:Str->α->Bool}(h:NJ t p=true){n:Str}{v:α}(hn:good n=true)(e:(AI n,v)∈t):p n v=true:=by
 have :=List.all_eq_true.mp h _ e
 rw[sP (aH this) hn rfl];exact aA this
def Q1 {α:Type}(t:List (Nat×List (Nat×α)))(p:Nat->Str->α->Bool):Bool:=t.all λq=>NJ q.2 (p q.1)
def kh {α:Type}{t:List (Nat×List (Nat×α))}{p:Nat->Str->α->Bool}(h:Q1 t p=true){C:Nat}{n:Str}{v:α}(hn:good n=true)(e:KT t C (AI n)=some v):p C n v=true:=
 let⟨U,h1,h2⟩:=eU e;ch (List.all_eq_true.mp h _ h1) hn h2
def Xw (v:V)(t:Tok):Value:=V.casesOn v .none (λb=> .bool b) (λi=> .int i t) (λU=> .ellipsis) (λU=> .ellipsis) (λU=> .ellipsis) (λU=> .ellipsis) (λU U=> .ellipsis) .ellipsis
def PH (v:V)(w:Value):Bool:=w != .ellipsis && w==Xw v (Nb w)
def fB {v:V}{w:Value}(h:PH v w=true)(g:A8):AF g v w:=by
 have a:=aH h
 have e:=eq_of_beq (aA h)
 rw[e] at a ⊢
 induction v using V.casesOn with
 |none=>exact qi
 |bool b=>exact cJ b
 |int i=>exact cB i _
 |_=>exact(nomatch a)
def U7 (v:Option V)(w:Option Value):Bool:=Option.casesOn v w.isNone λv=>w.any (PH v)
def jE {v:Option V}{w:Option Value}{g:A8}(h:U7 v w=true):IH g v w:=by
 cases v with
 |none=>rw[Option.isNone_iff_eq_none.mp h];exact .none
 |some v=>obtain⟨x,e,r⟩:=dD h;rw[e];exact .some _ _ (fB r g)
def QM (K:Frag)(C:Addr)(n:Str)(v:Option V):Bool:=Option.casesOn v (findIn K (.ref C) n==some none) λv=>findIn K (.ref C) n==some (some (Sj (findIn K (.ref C) n))) && (handedIn (Sj (findIn K (.ref C) n)) && (specialIn K (Sj (findIn K (.ref C) n)) "__get__"==some none && PH v (Sj (findIn K (.ref C) n))))
def kT {K:Frag}{C:Addr}{n:Str}{v:Option V}(h:QM K C n v=true):Mx K C n v:=by
 cases v with
 |none=>exact .none (eq_of_beq h)
 |some v=>
  have r:=aA h
  exact .val v _ (eq_of_beq (aH h)) (aH r) (eq_of_beq (aH (aA r))) (fB (aA (aA r)))
def QS (x:Option CFound):Value:=Option.casesOn x .none λf=>CFound.casesOn f (λv=>v) λU U U U=> .none
def sO {x:Option CFound}{i:Int}(h:(QS x== .int i (Nb (QS x)))=true):x=some (.val (.int i (Nb (QS x)))):=by
 have e:=eq_of_beq h
 generalize Nb (QS x)=t at e
 cases x with
 |none=>exact(nomatch e)
 |some f=>
  induction f using CFound.casesOn with
  |val v=>exact congrArg (λv=>some (CFound.val v)) e
  |get=>exact(nomatch e)
def P8 (K:Frag)(c:Str):Addr:=Kv (Sj (nsIn K mainGlobals c))
def Su (K:Frag)(c:Str):Value:=(typeIn K (.ref (P8 K c))).getD .none
def Uj (K:Frag)(c a:Str)(i:Int):Bool:=nsIn K mainGlobals c==some (some (.ref (P8 K c))) && (readsIn K (P8 K c) (Su K c) && QS (findCls K (.ref (P8 K c)) (Su K c) a)== .int i (Nb (QS (findCls K (.ref (P8 K c)) (Su K c) a))))
def Sa (K:Frag)(C:Addr)(n:Str):Addr:=Kv (Sj (findIn K (.ref C) n))
def TP (K:Frag)(C:Addr)(n:Str)(f:Addr):Bool:=findIn K (.ref C) n==some (some (.ref (Sa K C n))) && (specialIn K (.ref (Sa K C n)) "__get__"==some (some (.builtin "property.__get__")) && (takesIn K (.ref (Sa K C n))==some true && recIn K (Sa K C n) "property"==some (.ref f::((recIn K (Sa K C n) "property").getD []).tail)))
structure T5 (K:Frag)(ca fa:Nat->Addr)(aC aF:(Addr->Bool)->Bool):Prop where
 bi:(Lu.all λx=>nsIn K mainGlobals x==some none)=true
 cat:Q1 (Re.map λq=>(0,[(q.1,q.2)])) (λU c l=>NJ l λa i=>Uj K c a i)=true
 cls:aC (λC=>plainGet K C "" && (hasDictIn K C && (findIn K (.ref C) "__setattr__"==some (some (.builtin "object.__setattr__")) && (plainOver K C && (keepIn K (.ref C) && makesIn K C)))))=true
 own:(Qr.all λq=>NJ (q.2.map λc=>(c,JO q.1 c)) λn v=>QM K (ca q.1) n v && (takerIn K (ca q.1) n==some none && !copiedNames.contains n))=true
 La:Q1 Tz (λC n f=>findIn K (.ref (ca C)) n==some (some (.ref (fa f))))=true
 prop:Q1 Ry (λC n f=>TP K (ca C) n (fa f))=true
 fns:aF (λf=>isFn K (.ref f) && keepIn K (.ref f))=true
 glob:NJ Qh (λn f=>nsIn K mainGlobals n==some (some (.ref (fa f))))=true
 Xh:NJ Om (λn C=>nsIn K mainGlobals n==some (some (.ref (ca C))))=true
 init:(PA.all λq=>findIn K (.ref (ca q.1)) "__init__"==some (some (.ref (fa q.2))))=true
 eqs:(findIn K (.ref (ca CO)) "__eq__"==some (some (.builtin "object.__eq__")) && mroIn K (ca CO) (.type "object")==some true)=true
 Sy:NJ Py (λn i=>nsIn K mainGlobals n==some (some (.int i (Nb (Sj (nsIn K mainGlobals n))))))=true
def tw {W:Bl}{O7:List (Nat×Addr)}{c0:Addr}{Je:List (Nat×Addr)}{f0:Addr}(h:T5 W.K (CD O7 c0) (CD Je f0) (PY O7 c0) (PY Je f0))(hc:W.ca=CD O7 c0)(hf:W.fa=CD Je f0):Id W:=by
 rw[<-hc,<-hf] at h
 have cls:=λC=>ki h.cls C
 have fns:=λf=>ki h.fns f
 rw[<-hc] at cls
 rw[<-hf] at fns
 exact⟨λx hx=>eq_of_beq (List.all_eq_true.mp h.bi x hx),
  λc a i gc ga e=>let⟨l,h1,h2⟩:=eU e;let t:=ch (ch (List.all_eq_true.mp h.cat _ (List.mem_map_of_mem h1)) gc (List.mem_singleton.mpr rfl)) ga h2;.mk _ _ _ (eq_of_beq (aH t)) (aH (aA t)) (sO (aA (aA t))),
  λC=>aH (cls C),λC=>aH (aA (cls C)),λC=>eq_of_beq (aH (aA (aA (cls C)))),λC=>aH (aA (aA (aA (cls C)))),
  λC n gn hn=>(by
   have hn:AI n∈own C:=hn
   unfold own at hn
   cases e:look C Qr with
   |none=>rw[e] at hn;exact(nomatch hn)
   |some l=>
    rw[e] at hn
    have t:=ch (List.all_eq_true.mp h.own _ (aW e)) gn (List.mem_map_of_mem (f:=λc=>(c,JO C c)) hn)
    exact⟨kT (aH t),eq_of_beq (aH (aA t)),lX (aA (aA t))⟩),
  λC n f gn e=>eq_of_beq (kh h.La gn e),λf=>⟨aH (fns f),aA (fns f)⟩,λn f gn e=>eq_of_beq (ch h.glob gn (aW e)),λn C gn e=>eq_of_beq (ch h.Xh gn (aW e)),
  λC=>aH (aA (aA (aA (aA (cls C))))),λC=>aA (aA (aA (aA (aA (cls C))))),λC f e=>eq_of_beq (List.all_eq_true.mp h.init _ (aW e)),
  λC n f gn e=>let t:=kh h.prop gn e;.mk _ _ (eq_of_beq (aH t)) (eq_of_beq (aH (aA t))) (eq_of_beq (aH (aA (aA t)))) (eq_of_beq (aA (aA (aA t)))),
  ⟨eq_of_beq (aH h.eqs),eq_of_beq (aA h.eqs)⟩,λn i gn e=>⟨_,eq_of_beq (ch h.Sy gn (aW e))⟩⟩
abbrev Kg (K:Frag)(a:Addr):Option FuncData:=QL K Rp a
def hU {K:Frag}{a:Addr}{fd:FuncData}(e:Kg K a=some fd):∃ o,K.lookup a=some o/\o.data= .func fd:=let⟨o,h,r⟩:=d7 e;⟨o,h,jm r⟩
def FK (fd:FuncData):List Stmt:=FuncBody.casesOn fd.body (λb=>b) λU=> []
def Tx (b:FuncBody):Bool:=FuncBody.casesOn b (λU=>true) λU=>false
def ou {fd:FuncData}(h:Tx fd.body=true):fd.body= .stmts (FK fd):=by
 unfold FK
 generalize fd.body=b at h ⊢
 induction b using FuncBody.casesOn with
 |stmts b=>rfl
 |expr=>exact(nomatch h)
def wn {fd:FuncData}{b:FuncBody}{g n:Addr}(h1:fd.body=b)(h2:fd.globals=g)(h3:fd.builtins=n):fd= { fd with body:=b,globals:=g,builtins:=n }:=by
 subst h1;subst h2;subst h3;rfl
def Qa (xs:List Str):List Nat->Bool:= @List.rec Str (λU=>List Nat->Bool) (λcs=>cs.isEmpty) (λx U ih cs=>List.casesOn cs false λc cs=>good x && (Nat.beq (AI x) c && ih cs)) xs
def iz {xs:List Str}:∀ {cs:List Nat},Qa xs cs=true->FH xs cs:=by
 induction xs with
 |nil=>exact λ {cs} h=>List.isEmpty_iff.mp (show cs.isEmpty=true from h)▸ .nil
 |cons x xs ih=>
  intro cs h
  cases cs with
  |nil=>exact(nomatch h)
  |cons c cs=>exact Nat.eq_of_beq_eq_true (aH (aA h))▸ .cons x xs cs (aH h) (ih (aA (aA h)))
def WO (v:V):Bool:=V.casesOn v false (λU=>false) (λU=>false) (λU=>false) (λU=>false) (λl=>l.isEmpty) (λU=>false) (λU U=>false) false
def tt {v:V}(h:WO v=true):v= .DM []:=by
 induction v using V.casesOn with
 |DM l=>rw[List.isEmpty_iff.mp h]
 |_=>exact(nomatch h)
def Xq (o:Obj):Bool:=o.cls== .type "list" && (o.dict==none && (o.slots.isEmpty && (SJ o.data).any λa=>a.isEmpty))
def Up (K:Frag)(v:V)(w:Value):Bool:=PH v w||(WO v && (w== .ref (Kv w) && (K.lookup (Kv w)).any Xq))
def n8 {W:Bl}{v:V}{w:Value}(X:W.K.In W.g0)(h:Up W.K v w=true):AF (O8 W) v w:=by
 rcases Bool.or_eq_true_iff.mp h with h|h
 ·exact fB h _
 ·obtain⟨o,e,l⟩:=dD (aA (aA h))
  rw[tt (aH h),eq_of_beq (aH (aA h))]
  obtain⟨c,d,da,sl⟩:=o
  obtain⟨a,e1,e2⟩:=dD (aA (aA (aA l)))
  obtain⟨m,e3⟩:=kP e1
  have t1:c= .type "list":=eq_of_beq (aH l)
  have t2:d=none:=eq_of_beq (aH (aA l))
  have t3:sl= #[]:=Array.isEmpty_iff.mp (aH (aA (aA l)))
  have t4:da= .seq #[] m:=Array.isEmpty_iff.mp e2▸e3
  subst t1;subst t2;subst t3;subst t4
  exact .mk _ #[] m (X _ _ e) .nil (Nat.zero_le _)
def Tn (K:Frag)(vs:List V):List Value->Bool:= @List.rec V (λU=>List Value->Bool) (λws=>ws.isEmpty) (λv U ih ws=>List.casesOn ws false λw ws=>Up K v w && ih ws) vs
def mE {W:Bl}(X:W.K.In W.g0){vs:List V}:∀ {ws:List Value},Tn W.K vs ws=true->AE (O8 W) vs ws:=by
 induction vs with
 |nil=>exact λ {ws} h=>List.isEmpty_iff.mp (show ws.isEmpty=true from h)▸ .mk
 |cons v vs ih=>
  intro ws h
  cases ws with
  |nil=>exact(nomatch h)
  |cons w ws=>exact .mk w ws (n8 X (aH h)) (ih (aA h))
def Mz (fd:FuncData):List Str:=fd.params.args.map (·.arg)
def LM (fd:FuncData):List Str:=fd.params.kwonlyargs.map (·.arg)
def Ud (fd:FuncData)(p:Str->Bool):Bool:=(Mz fd++LM fd).all p
def VN (K:Frag)(d:CP)(v:Value):Bool:=(v== .none && d.df.isEmpty)||(v== .ref (Kv v) && (QL K SJ (Kv v)).any λvs=>Tn K d.df vs.toList)
def UQ (d:CP)(fd:FuncData)(m:Str->Option Value):Bool:=Ud fd λy=>U7 (look (AI y) d.kd) (if(LM fd).contains y then m y else none)
def VS (K:Frag)(d:CP)(fd:FuncData)(v:Value):Bool:=(v== .none && UQ d fd λU=>none)||(v== .ref (Kv v) && (QL K Uo (Kv v)).any λes=>(es.all λx=>x.key== .str (SM x.key) (Nb x.key)) && UQ d fd (nsFind es))
def Ti (sc:Scope)(cl:List (Str×Addr)):Bool:=(cl.isEmpty && sc.names.all λp=>p.2 != .free)||((sc.names.all λp=>p.2 != .cell) && ((sc.names.all λp=>p.2 != .free|| !good p.1) && cl.all λp=>!good p.1))
def kD {sc:Scope}{k:NameKind}(h:(sc.names.all λp=>p.2 !=k)=true)(y:Str):(y,k) ∉ sc.names:=λhy=>bne_iff_ne.mp (List.all_eq_true.mp h _ hy) rfl
def n4 {sc:Scope}{cl:List (Str×Addr)}(h:Ti sc cl=true):Q2 sc cl:=by
 rcases Bool.or_eq_true_iff.mp h with h|h
 ·rw[List.isEmpty_iff.mp (aH h)]
  exact .none (kD (aA h))
 ·refine .some cl (kD (aH h)) (λy gy hy=> ?_) λy gy=> ?_
  ·rcases Bool.or_eq_true_iff.mp (List.all_eq_true.mp (aH (aA h)) _ hy) with q|q
   ·exact bne_iff_ne.mp q rfl
   ·exact Bool.noConfusion ((lX q).symm.trans gy)
  ·cases e:cl.lookup y with
   |none=>rfl
   |some a=>exact Bool.noConfusion ((lX (List.all_eq_true.mp (aA (aA h)) _ (aJ e))).symm.trans gy)
def Ro (K:Frag)(fd:FuncData)(d:CP):Bool:=fd.params.posonlyargs.isEmpty && (fd.params.vararg.isNone && (fd.params.kwarg.isNone && (fd.globals==mainGlobals && (fd.builtins==builtinsNs && (fd.scope.kind== .function && (!fd.scope.isCoroutine && (!fd.scope.isGenerator && (Tx fd.body && (fd.code== .ref (Kv fd.code) && (codeIn K fd.code fd.qualname && (Qa (Mz fd) d.ps && (Qa (LM fd) d.ko && (M7 (d.ps++d.ko) && (VN K d fd.defaults && (VS K d fd fd.kwdefaults && (d.kd.all (λp=>AM p.1 d.ko) && (Ud fd (λy=>fd.scope.names.lookup y==some .local||(fd.scope.names.lookup y==some .cell && !DM (AI y))) && Ti fd.scope fd.closure)))))))))))))))))
def qD {W:Bl}{f:Nat}{d:CP}{fd:FuncData}(X:W.K.In W.g0)(e:Kg W.K (W.fa f)=some fd)(hcc:W.cc f=Kv fd.code)(hcq:W.cq f=fd.qualname++".<locals>.")(h:Ro W.K fd d=true):PT W f d fd.scope (FK fd):=by
 obtain⟨fo,e1,e2⟩:=hU e
 have h1:=aH h
 replace h:=aA h
 have h2:=aH h
 replace h:=aA h
 have h3:=aH h
 replace h:=aA h
 have s4:=eq_of_beq (aH h)
 replace h:=aA h
 have s5:=eq_of_beq (aH h)
 replace h:=aA h
 have s6:=eq_of_beq (aH h)
 replace h:=aA h
 have s7:=lX (aH h)
 replace h:=aA h
 have s8:=lX (aH h)
 replace h:=aA h
 have hb:=ou (aH h)
 replace h:=aA h
 have hc:=eq_of_beq (aH h)
 replace h:=aA h
 have hi:=aH h
 replace h:=aA h
 have cP:=iz (aH h)
 replace h:=aA h
 have cK:=iz (aH h)
 replace h:=aA h
 have nd:=cH (aH h)
 replace h:=aA h
 have df:=aH h
 replace h:=aA h
 have kd:=aH h
 replace h:=aA h
 have ck:=aH h
 replace h:=aA h
 have nm:∀ y,y∈Mz fd++LM fd->fd.scope.names.lookup y=some .local\/(fd.scope.names.lookup y=some .cell/\DM (AI y)=false):=λy hy=>
  (Bool.or_eq_true_iff.mp (List.all_eq_true.mp (aH h) y hy)).imp eq_of_beq λq=>⟨eq_of_beq (aH q),lX (aA q)⟩
 have JW:∃ r0,Pp W fd.defaults r0/\AE (O8 W) d.df (r0.getD #[]).toList:=by
  rcases Bool.or_eq_true_iff.mp df with t|t
  ·rw[List.isEmpty_iff.mp (aA t),eq_of_beq (aH t)]
   exact⟨none,.none,.mk⟩
  ·obtain⟨vs,a,b⟩:=dD (aA t)
   obtain⟨o,a1,a2⟩:=d7 a
   obtain⟨m,a3⟩:=kP a2
   rw[eq_of_beq (aH t)]
   exact⟨some vs,.some _ o vs m (X _ _ a1) a3,mE X b⟩
 have hkd:∃ km,Q5 W fd.kwdefaults km/\∀ y,y∈Mz fd++LM fd->IH (O8 W) (look (AI y) d.kd) (if(LM fd).contains y then km y else none):=by
  rcases Bool.or_eq_true_iff.mp kd with t|t
  ·rw[eq_of_beq (aH t)]
   exact⟨_,.none,λy hy=>jE (List.all_eq_true.mp (aA t) y hy)⟩
  ·obtain⟨es,a,b⟩:=dD (aA t)
   obtain⟨o,a1,a2⟩:=d7 a
   obtain⟨m,a3⟩:=qw a2
   rw[eq_of_beq (aH t)]
   exact⟨_,.some _ (nsFind es) ⟨o,es,m,X _ _ a1,a3,λx hx=>⟨_,_,eq_of_beq (Array.all_eq_true'.mp (aH b) x hx)⟩,λU=>rfl⟩,λy hy=>jE (List.all_eq_true.mp (aA b) y hy)⟩
 obtain⟨r0,sj,sr⟩:=JW
 obtain⟨km,sw,lW⟩:=hkd
 exact⟨.mk fo fd.name fd.qualname fd.params fd.closure fd.defaults fd.kwdefaults fd.doc fd.pyModule fd.annotations fd.code fd.closureTuple (Mz fd) (LM fd) km r0 (X _ _ e1) (e2.trans (congrArg Data.func (wn hb s4 s5))) (codeRec_of X hi) (hc.trans (congrArg Value.ref hcc.symm)) hcq.symm (List.isEmpty_iff.mp h1) rfl rfl (Option.isNone_iff_eq_none.mp h2) (Option.isNone_iff_eq_none.mp h3) cP cK ((cP.append cK).nodup nd) sj sr (λx hx=>let⟨p,hp,ep⟩:=List.mem_map.mp hx;ep▸aO.mp (List.all_eq_true.mp ck p hp)) sw lW (λy hy=>(nm y hy).imp id λq=>q.1) (λy hy=>(nm y hy).elim .inr λq=> .inl q.2) (n4 (aA h)),s6,s7,s8⟩
def qs {W:Bl}{n:Nat}{cf:Cc}{mkr:Nat->Pos->Bool->Bool}{gen:Nat->M Ci}(C:Mt W cf n mkr gen){f:Nat}{d:CP}{fd:FuncData}{m:A2}(o:PT W f d fd.scope (FK fd))
  (h1:(QA C (Pi C 40) ⟨some f,fd.scope.names⟩ 12 (FK fd)).isOk=true)(h2:(QA C (Pi C 40) ⟨some f,fd.scope.names⟩ 12 (FK fd)).get AN=m):LG W n cf d m f:= .mk fd.scope (FK fd) o (qt C h1 h2)
def OW (t:List ((Nat×Nat)×(Nat×Bool)))(p:Pos):Option (Nat×Bool):=t.lookup (p.line,p.col)
def SR (t:List ((Nat×Nat)×(Nat×Bool)))(cq:Nat->Str)(p:Pos):Option Str:=(OW t p).map λq=>cq q.1++cond q.2 ("<genexpr>":Str) "<lambda>"
def Nh (t:List ((Nat×Nat)×(Nat×Bool)))(ts:List (Nat×Addr))(f:Nat)(p:Pos)(b:Bool):Bool:=(OW t p==some (f,b)) && (look f ts).isSome
def oH {W:Bl}{t:List ((Nat×Nat)×(Nat×Bool))}{ts:List (Nat×Addr)}(h1:W.tq=SR t W.cq)(h2:W.tabs=ts.map λq=>(W.cc q.1,q.2)){f:Nat}{p:Pos}{b:Bool}(h:Nh t ts f p b=true):IG W f p (cond b "<genexpr>" "<lambda>"):=by
 obtain⟨P,hP⟩:=Option.isSome_iff_exists.mp (aA h)
 refine .mk P ?_ λq CX=> ?_
 ·rw[h2];exact List.mem_map_of_mem (f:=λq=>(W.cc q.1,q.2)) (aW hP)
 ·have e:OW t q=some (f,b):=by
   have :OW t q=OW t p:=by unfold OW;rw[CX.1,CX.2]
   exact this.trans (eq_of_beq (aH h))
  rw[h1,SR,e];rfl
def Uv (K:Frag)(Ca:Addr)(C:Nat)(T:JM)(a1:Arg):Bool:=T.sc.kind== .function && (!T.sc.isCoroutine && (T.sc.isGenerator && (T.sc.names.all (λq=>q.2 != .cell) && (T.sc.names.lookup T.x==some .local && (T.sc.names.lookup T.self==some .local && (good T.x && (good T.self && (good T.c && (AM (AI T.c) (own C) && (findIn K (.ref Ca) "__iter__"==some (some (.ref T.fit)) && (isFn K (.ref T.fit) && (codeIn K T.cdv T.qual && a1.arg==T.self))))))))))))
def oh {W:Bl}{C:Nat}{T:JM}{fd:FuncData}{a1:Arg}(X:W.K.In W.g0)(e:Kg W.K T.fit=some fd)(ed:fd=fnX fd.name T.qual ⟨[],[a1],none,[],[],none,[]⟩ T.body T.sc [] .none .none fd.doc fd.pyModule fd.annotations T.cdv fd.closureTuple)(h:Uv W.K (W.ca C) C T a1=true):Ps W T C:=by
 obtain⟨fo,e1,e2⟩:=hU e
 have r1:=eq_of_beq (aH h)
 replace h:=aA h
 have r2:=lX (aH h)
 replace h:=aA h
 have r3:=aH h
 replace h:=aA h
 have r4:=aH h
 replace h:=aA h
 have r5:=eq_of_beq (aH h)
 replace h:=aA h
 have r6:=eq_of_beq (aH h)
 replace h:=aA h
 have r7:=aH h
 replace h:=aA h
 have r8:=aH h
 replace h:=aA h
 have r9:=aH h
 replace h:=aA h
 have r10:=aH h
 replace h:=aA h
 have r11:=eq_of_beq (aH h)
 replace h:=aA h
 exact⟨r1,r2,r3,λq CX=>bne_iff_ne.mp (List.all_eq_true.mp r4 q CX),r5,r6,r7,r8,r9,r10,r11,aH h,.mk fo fd.name a1 fd.doc fd.pyModule fd.annotations fd.closureTuple (X _ _ e1) (e2.trans (congrArg Data.func ed)) (codeRec_of X (aH (aA h))) (eq_of_beq (aA (aA h)))⟩
def Vk (K:Frag)(p:Program)(ca:Addr)(a a0 cc:Addr)(x:Str)(fd:FuncData):Bool:=(fd.params.posonlyargs++fd.params.args).head?.any (λa=>a.arg==x) && (fd.closure== [(("__class__":Str),(fd.closure.headD default).2)] && (QL K Ul (fd.closure.headD default).2==some (some (.ref ca))
 && ((QL K Ut cc).any (λvs=>vs[2]?.any λv=>v== .str (SM v) (Nb v) && (p.main.file:Str)==SM v) && (!(p.main.scope.names.lookup ("super":Str)).isSome && ((clsIn K ca).isSome && (mroIn K ca (.ref ca)==some true && (ks_superIn K ca ca "__init__"==some (some (.ref a0)) && ((K.lookup a0).any (λo=>(Rp o.data).isSome && o.cls== .type "function") && (nsIn K cStatics "thirdparty.any"==some none && good x)))))))))
def pA {W:Bl}{f f0 C:Nat}{x:Str}{fd:FuncData}(X:W.K.In W.g0)(e:Kg W.K (W.fa f)=some fd)(h:Vk W.K W.prog (W.ca C) (W.fa f) (W.fa f0) (W.cc f) x fd=true):Td W f f0 C x:=by
 obtain⟨fo,e1,e2⟩:=hU e
 obtain⟨ag,g1,g2⟩:=dD (aH h)
 replace h:=aA h
 have g3:=eq_of_beq (aH h)
 replace h:=aA h
 obtain⟨oc,c1,c2⟩:=d7 (eq_of_beq (aH h))
 replace h:=aA h
 obtain⟨vs,v1,v2⟩:=dD (aH h)
 obtain⟨ov,v3,v4⟩:=d7 v1
 obtain⟨v,v5,v6⟩:=dD v2
 replace h:=aA h
 have t1:=lX (aH h)
 replace h:=aA h
 have t2:=Option.isSome_iff_exists.mp (aH h)
 replace h:=aA h
 have t3:=eq_of_beq (aH h)
 replace h:=aA h
 have t4:=eq_of_beq (aH h)
 replace h:=aA h
 obtain⟨o0,b1,b2⟩:=dD (aH h)
 obtain⟨fd0,b3⟩:=Option.isSome_iff_exists.mp (aH b2)
 replace h:=aA h
 exact⟨.mk fo fd ag _ oc (X _ _ e1) e2 g1 (eq_of_beq g2) g3 (X _ _ c1) (qu c2),.mk ov vs _ _ (X _ _ v3) (qA v4) (v5.trans (congrArg some (eq_of_beq (aH v6)))) (aA v6),t1,t2,t3,t4,⟨o0,fd0,X _ _ b1,jm b3,eq_of_beq (aA b2)⟩,eq_of_beq (aH h),aA h⟩
structure Q0 where
 O7:List (Nat×Addr)
 c0:Addr
 Je:List (Nat×Addr)
 f0:Addr
 ts:List (Nat×Addr)
 pos:List ((Nat×Nat)×(Nat×Bool))
def Lx (K:Frag)(a:Addr):Addr:=Kv ((Kg K a).getD default).code
def Sc (K:Frag)(a:Addr):Str:=((Kg K a).getD default).qualname++".<locals>."
def R7 (L:Q0)(p:Program)(w:World)(K:Frag)(hp:Heap)(mg mb:Str->Option Value)(os:OsState):Bl where
 prog:=p
 w:=w
 K:=K
 g0:=hideAll hp (L.ts.map (·.2))
 mg:=mg
 mb:=mb
 ca:=CD L.O7 L.c0
 fa:=CD L.Je L.f0
 tabs:=L.ts.map λq=>(Lx K (CD L.Je L.f0 q.1),q.2)
 tq:=SR L.pos λf=>Sc K (CD L.Je L.f0 f)
 cc:=λf=>Lx K (CD L.Je L.f0 f)
 cq:=λf=>Sc K (CD L.Je L.f0 f)
 os:=os
def PG (L:Q0)(K:Frag):Bool:=L.ts.all λq=>codeHdIn K (Lx K (CD L.Je L.f0 q.1)) q.2 && ((K.lookup q.2).isNone && ((q.2 !=mainGlobals) && ((q.2 !=builtinsNs) && (q.2 !=cStatics))))
def io {l:List Addr}{h:Heap}{a:Addr}{m:Str->Option Value}(x:h.Ns a m)(n:a ∉ l):(hideAll h l).Ns a m:=
 let⟨o,es,ep,e,r⟩:=x;⟨o,es,ep,hideAll_get l e n,r⟩
section
variable {L:Q0}{p q:Program}{loose:List Str}{mean:ExcName->Option Value}{w:World}{K:Frag}{hp:Heap}{mg mb:Str->Option Value}{os:OsState}
inductive RQ (K:Frag)(P:Addr):Prop
 |mk (a:K.lookup P=none) (b:P≠mainGlobals) (c:P≠builtinsNs) (d:P≠cStatics):RQ K P
def fN (h:PG L K=true){P:Addr}(hP:P∈L.ts.map (·.2)):RQ K P:=by
 obtain⟨r,hr,e⟩:=List.mem_map.mp hP
 have t:=aA (List.all_eq_true.mp h r hr)
 exact e▸ .mk (Option.isNone_iff_eq_none.mp (aH t)) (bne_iff_ne.mp (aH (aA t))) (bne_iff_ne.mp (aH (aA (aA t)))) (bne_iff_ne.mp (aA (aA (aA t))))
def gt (h:PG L K=true)(X:K.In hp):K.In (hideAll hp (L.ts.map (·.2))):=λa o e=>hideAll_get _ (X a o e) λz=>match fN h z with | .mk n _ _ _=>(nomatch n.symm.trans e)
def fz {P:Addr}{o:Obj}(a:hp.get? P=some o)(b:hp.get? P=some (tabObj #[])):o=tabObj #[]:=Option.some.inj (a.symm.trans b)
def uX (h:PG L K=true)(X:K.In hp)(T:Top q loose mean mg mb hp)(EP:∀ P∈L.ts.map (·.2),hp.get? P=some (tabObj #[])):(R7 L p w K hp mg mb os).Ok where
 K:=gt h X
 g:=io T.g λz=>match fN h z with | .mk _ n _ _=>n rfl
 b:=io T.b λz=>match fN h z with | .mk _ _ n _=>n rfl
 lim:=let⟨mc,a,b⟩:=T.nolimit;⟨mc,io a λz=>match fN h z with | .mk _ _ _ n=>n rfl,b⟩
 bi:=T.builtins
 tabs r hr:=by
  obtain⟨s,hs,e⟩:=List.mem_map.mp hr
  exact e▸⟨codeHd_of_K (gt h X) (aH (List.all_eq_true.mp h s hs)),hideAll_none (h:=hp) _ (List.mem_map_of_mem (f:=λq:Nat×Addr=>q.2) (a:=s) hs)⟩
 bmain:=by
  obtain⟨bm,ob,b1,b2,b3,b4,b5,b6⟩:=T.bmain
  exact⟨bm,ob,b1,b2,hideAll_get _ b3 (λz=>Data.noConfusion ((congrArg Obj.data (fz b3 (EP bm z))).symm.trans b6)),b4,b5,b6⟩
def oK (s:Shared)(EP:∀ P∈L.ts.map (·.2),s.heap.get? P=some (tabObj #[]))(hg:s.gens= #[]):Ok (R7 L p w K s.heap mg mb s.os) (O8 (R7 L p w K s.heap mg mb s.os)) (λU=>none) s:=by
 have tab:∀ P,EY (R7 L p w K s.heap mg mb s.os) P->P∈L.ts.map (·.2):=λP hP=>by
  have hP:P∈(L.ts.map λq=>(Lx K (CD L.Je L.f0 q.1),q.2)).map (·.2):=hP
  rw[List.map_map] at hP;exact hP
 exact⟨λa o e=>of_hideAll _ e,λa o e=>(nomatch e),λa o e=>(nomatch e),λa o e=>(nomatch e),λa o e=>(nomatch e),λP hP=>hideAll_none _ (tab P hP),λP hP=>⟨#[],EP P (tab P hP),trivial,λpos cv e=>(nomatch e)⟩,rfl,λy hy=>(by rw[hg] at hy;exact absurd hy (Array.not_mem_empty _)),λi x e=>(nomatch e),λa o e=>e⟩
end
def TQ (p0 p1 ap pos p:Pos)(ks:List Keyword)(bx:List Stmt):List Stmt:= .Expr (.Call (.Attribute (.Call (.Name "super" p0) [] [] p1) "__init__" ap) [] ks pos) p::bx
def Qs (f:Nat):CP×A2:=match look f Uu with |some q=>q|none=>(JP,λJ J J J=>False)
abbrev TB (f:Nat):CP:=(Qs f).1
abbrev TA (f:Nat):A2:=(Qs f).2
abbrev Bp (n:Nat):Cc:=Px TB TA n
def ay {n f:Nat}{d:CP}{b:A2}{es:List V}{kws:List (Nat×V)}{Q:V->H->Prop}{h:H}(e:Qs f=(d,b))(ft:d.Fits es.length (kws.map (·.1)))(q:b (Bp n) (d.bind es kws) (Dp Q) h):Bp (n+1) f es kws Q h:=by
 show(Qs f).1.Fits es.length (kws.map (·.1))/\(Qs f).2 (Bp n) ((Qs f).1.bind es kws) (Dp Q) h
 rw[e];exact⟨ft,q⟩
def EG (b:A2)(cf:Cc)(Q:DJ->AZ->H->Prop):DJ->AZ->H->Prop:=λfl e h=>match fl with | .next=>b cf e Q h|fl=>Q fl e h
section
variable {cf:Cc}{e:AZ}{h:H}
section
variable {Q:DJ->AZ->H->Prop}
def aD {a b:A2}(q:a cf e (EG b cf Q) h):Ak a b cf e Q h:=q
def a8 {b:A2}(q:b cf e Q h):EG b cf Q .next e h:=q
def zo {b:A2}{v:V}(q:Q (.ret v) e h):EG b cf Q (.ret v) e h:=q
def zl {b:A2}(q:Q .brk e h):EG b cf Q .brk e h:=q
def zm {b:A2}(q:Q .cont e h):EG b cf Q .cont e h:=q
def bC (q:Q .next e h):AN cf e Q h:=q
def x8 (q:Q .brk e h):OM cf e Q h:=q
def x9 (q:Q .cont e h):Qe cf e Q h:=q
def yf (q:Q (.ret .none) e h):Na cf e Q h:=q
def fO {m:A4}(q:m cf e (λv h=>Q (.ret v) e h) h):BZ m cf e Q h:=q
def yQ {m:A4}(q:m cf e (λv h=>v.isNone=true/\Q .next e h) h):Bx m cf e Q h:=q
def yd {R:Prop}(q:R):V.none.isNone=true/\R:=⟨rfl,q⟩
def x4 {t:Ev}(q:t cf e (λb h=>b=true/\Q .next e h) h):Oj t cf e Q h:=q
def lN {t:Ev}{a b:A2}(q:t cf e (λc h=>cond c (a cf e Q h) (b cf e Q h)) h):AS t a b cf e Q h:=q
def gS {x:Nat}{m:A4}(q:m cf e (λv h=>Q .next (Ad e x (some v)) h) h):Af (AA x) m cf e Q h:=q
def lM {o m:A4}{a:Nat}(q:m cf e (λv h=>o cf e (λx h=>Iv a x v (λh=>Q .next e h) h) h) h):Af (AX o a) m cf e Q h:=q
def xZ {o k m:A4}(q:m cf e (λv h=>o cf e (λx h=>k cf e (λi h=>Jr x i v (λh=>Q .next e h) h) h) h) h):Af (DY o k) m cf e Q h:=q
def x6 {cs:List Nat}{m:A4}(q:m cf e (λv h=>Js cs cf v e (λe h=>Q .next e h) h) h):Af (Js cs) m cf e Q h:=q
def x5 {cs:List Nat}{m:A4}(q:m cf e (λv h=>JI cs cf v e (λe h=>Q .next e h) h) h):Af (JI cs) m cf e Q h:=q
def x7 {f:V->V->M V}{x:Nat}{m:A4}{v:V}(he:e x=some v)(q:m cf e (λb h=>f v b (λc h=>Q .next (Ad e x (some c)) h) h) h):Rb f x m cf e Q h:=ae he q
def vL {f:V->V->M V}{o m:A4}{a:Nat}(q:o cf e (λi h=>K4 cf a i (λx h=>m cf e (λb h=>f x b (λc h=>Iv a i c (λh=>Q .next e h) h) h) h) h) h):EC f o a m cf e Q h:=q
def yb {d k:A4}(q:d cf e (λx h=>k cf e (λy h=>M8 x y (λJ h=>Q .next e h) h) h) h):Rj d k cf e Q h:=q
def dS {t:K0}{it:J7}{b:A2}(q:it cf e (λsrc h=>F6 t b cf src src.xs e Q h) h):Ck t it b cf e Q h:=q
end
def yV {Q:V->H->Prop}(q:Q .none h):Dp Q .next e h:=q
def lO {Q:V->H->Prop}{v:V}(q:Q v h):Dp Q (.ret v) e h:=q
section
variable {Q:AZ->H->Prop}
def y0 {x:Nat}{v:V}(q:Q (Ad e x (some v)) h):AA x cf v e Q h:=q
def y4 {cs:List Nat}{vs:List V}{e':AZ}(he:M6 cs vs e=some e')(q:Q e' h):JI cs cf (.tup vs) e Q h:=ae (a:=vs) rfl (ae he q)
def yg {cs:List Nat}{vs:List V}{e':AZ}(he:cond (Nat.beq cs.length vs.length) (M6 cs.reverse vs.reverse e) none=some e')(q:Q e' h):Js cs cf (.tup vs) e Q h:=by
 cases z:Nat.beq cs.length vs.length with
 |true=>rw[z] at he;exact ae (a:=vs) rfl ⟨Nat.eq_of_beq_eq_true z,ae he q⟩
 |false=>rw[z] at he;cases he
end
section
variable {Q:V->H->Prop}
def bQ {v:V}(q:Q v h):Ag v cf e Q h:=q
def aK {x:Nat}{v:V}(he:e x=some v)(q:Q v h):Aa x cf e Q h:=ae he q
def cE {f:V->V->M V}{a b:A4}(q:a cf e (λx h=>b cf e (λy h=>f x y Q h) h) h):Ab f a b cf e Q h:=q
def sR {f:V->M V}{a:A4}(q:a cf e (λx h=>f x Q h) h):DP f a cf e Q h:=q
def xO {f:V->V->V->M V}{a b c:A4}(q:a cf e (λx h=>b cf e (λy h=>c cf e (λz h=>f x y z Q h) h) h) h):O2 f a b c cf e Q h:=q
def u8 {m:A4}{n:Nat}(q:m cf e (λx h=>K4 cf n x Q h) h):Al m n cf e Q h:=q
def wX {f:Nat}{ms:HW}{mk:GX}(q:ms cf e (λvs h=>mk cf e (λus h=>cf f vs us Q h) h) h):BK f ms mk cf e Q h:=q
def yG {C:Nat}{ms:HW}{mk:GX}(q:ms cf e (λvs h=>mk cf e (λus h=>KW cf C vs us Q h) h) h):F4 C ms mk cf e Q h:=q
def vb {m:A4}{a:Nat}{ms:HW}{mk:GX}(q:m cf e (λx h=>OS cf a x (Nd ms mk cf e) Q h) h):Bh m a ms mk cf e Q h:=q
def u9 {t:Ev}{a b:A4}(q:t cf e (λc h=>cond c (a cf e Q h) (b cf e Q h)) h):Gm t a b cf e Q h:=q
def xG {a b:A4}(q:a cf e (λv h=>AJ (Eu v h) λt=>cond t (b cf e Q h) (Q v h)) h):PI a b cf e Q h:=q
def xP {ms:HW}(q:ms cf e (λvs h=>vs.length<=1000/\Q (.tup vs) h) h):E0 ms cf e Q h:=q
def yt {n m:Nat}{R:Prop}(he:Nat.ble n m=true)(q:R):n<=m/\R:=⟨Nat.le_of_ble_eq_true he,q⟩
def xM {ms:HW}(q:ms cf e (λvs h=>vs.length<=1000/\∀ a,h a=none->Q (.ref a) (Ad h a (some (.lst vs)))) h):Dc ms cf e Q h:=q
def xJ {ms:GX}(q:ms cf e (λus h=>∀ a,h a=none->Q (.ref a) (Ad h a (some (.dct λn=>look n us)))) h):MO ms cf e Q h:=q
def xL {k x l:Nat}(he:e x=some (.ref l))(q:Q (.lam k l) h):LN k x cf e Q h:=ae he q
end
section
variable {Q:List V->H->Prop}{R:List (Nat×V)->H->Prop}
def xY (q:Q [] h):As cf e Q h:=q
def mN {m:A4}{ms:HW}(q:m cf e (λv h=>ms cf e (λvs h=>Q (v::vs) h) h) h):Ah m ms cf e Q h:=q
def xX (q:R [] h):Az cf e R h:=q
def mM {n:Nat}{m:A4}{ms:GX}(q:m cf e (λv h=>ms cf e (λvs h=>R ((n,v)::vs) h) h) h):Aq n m ms cf e R h:=q
end
section
variable {Q:Bool->H->Prop}
def iV {m:A4}(q:m cf e (λv h=>AJ (Eu v h) λb=>Q b h) h):An m cf e Q h:=q
def xF {b:Ev}(q:b cf e (λt h=>Q (!t) h) h):EF b cf e Q h:=q
def xE {a b:Ev}(q:a cf e (λt h=>cond t (b cf e Q h) (Q false h)) h):Cp a b cf e Q h:=q
def yv {a b:Ev}(q:a cf e (λt h=>cond t (Q true h) (b cf e Q h)) h):Fk a b cf e Q h:=q
end
def nv {b:Bool}{k:Bool->Prop}(q:k b):AJ (Eu (.bool b) h) k:=q
def zj {i:Int}{k:Bool->Prop}(q:k (i !=0)):AJ (Eu (.int i) h) k:=q
def xA {xs:List Int}{k:Bool->Prop}(q:k (!xs.isEmpty)):AJ (Eu (.DM xs) h) k:=q
def xy {a:Nat}{xs:List V}{k:Bool->Prop}(CJ:h a=some (.lst xs))(q:k (!xs.isEmpty)):AJ (Eu (.ref a) h) k:=by
 show AJ (AT (getL h a) λxs=>some (!xs.isEmpty)) k
 unfold getL;rw[CJ];exact q
def xz {xs:List V}{k:Bool->Prop}(he:Nat.ble xs.length lim=true)(q:k (!xs.isEmpty)):AJ (Eu (.tup xs) h) k:=by
 show AJ (cond (Nat.ble xs.length lim) (some (!xs.isEmpty)) none) k
 rw[he];exact q
def wW {A B:Prop}(q:A):cond true A B:=q
def dY {A B:Prop}(q:B):cond false A B:=q
def k7 {A B:Prop}(q:A):cond V.none.isNone A B:=q
def kZ {A B:Prop}{i:Int}(q:B):cond (V.int i).isNone A B:=q
def yz {A B:Prop}{i:Nat}(q:B):cond (V.ref i).isNone A B:=q
def yA {A B:Prop}{i:List V}(q:B):cond (V.tup i).isNone A B:=q
def yE {A B:Prop}(q:B):cond (!true) A B:=q
def yB {A B:Prop}(q:A):cond (!false) A B:=q
def nZ {A B:Prop}(q:B):cond (!V.none.isNone) A B:=q
def sK {A B:Prop}{i:Int}(q:A):cond (!(V.int i).isNone) A B:=q
def yD {A B:Prop}{i:Nat}(q:A):cond (!(V.ref i).isNone) A B:=q
def yC {A B:Prop}{i:List V}(q:A):cond (!(V.tup i).isNone) A B:=q
def kY {α β:Type}{f:α->β}{A B:Prop}(q:B):cond (!(List.map f []).isEmpty) A B:=q
def nY {α β:Type}{f:α->β}{a:α}{l:List α}{A B:Prop}(q:A):cond (!(List.map f (a::l)).isEmpty) A B:=q
def wi {α:Type}{A B:Prop}(q:B):cond (!([]:List α).isEmpty) A B:=q
def wj {α:Type}{a:α}{l:List α}{A B:Prop}(q:A):cond (!(a::l).isEmpty) A B:=q
def a9 {A B:Prop}{i j:Int}(x:i < j->A)(y:j<=i->B):cond (decide (i < j)) A B:=by
 by_cases e:i < j
 ·rw[decide_eq_true e];exact x e
 ·rw[decide_eq_false e];exact y (Int.not_lt.mp e)
def dI {A B:Prop}{i j:Int}(x:i<=j->A)(y:j < i->B):cond (decide (i<=j)) A B:=by
 by_cases e:i<=j
 ·rw[decide_eq_true e];exact x e
 ·rw[decide_eq_false e];exact y (Int.not_le.mp e)
def cM {A B:Prop}{i j:Int}(x:i=j->A)(y:i≠j->B):cond (decide (i=j)) A B:=by
 by_cases e:i=j
 ·rw[decide_eq_true e];exact x e
 ·rw[decide_eq_false e];exact y e
def sJ {A B:Prop}{i j:Int}(x:i≠j->A)(y:i=j->B):cond (!(decide (i=j))) A B:=by
 by_cases e:i=j
 ·rw[decide_eq_true e];exact y e
 ·rw[decide_eq_false e];exact x e
def wh {A B:Prop}{i:Int}(x:i≠0->A)(y:i=0->B):cond (i !=0) A B:=by
 by_cases e:i=0
 ·rw[e];exact y e
 ·rw[bne_iff_ne.mpr e];exact x e
def dJ {A B:Prop}{b:Bool}(q:cond b B A):cond (!b) A B:=by cases b <;> exact q
def bH {b:Bool}{A B:Prop}(x:b=true->A)(y:b=false->B):cond b A B:=by cases b with |true=>exact x rfl|false=>exact y rfl
def sL {b:Bool}{x y:V}{m m':A4}{Q:V->H->Prop}(hm:∀ Q:V->H->Prop,Q x h->m cf e Q h)(hm':∀ Q:V->H->Prop,Q y h->m' cf e Q h)(q:Q (cond b x y) h):cond b (m cf e Q h) (m' cf e Q h):=by
 cases b with |true=>exact hm _ q|false=>exact hm' _ q
section
variable {Q:V->H->Prop}{i j:Int}
def kS (q:Q (.int (i+j)) h):BA (.int i) (.int j) Q h:=q
def xC (q:Q (.int (i+j)) h):Aw Ir (.int i) (.int j) Q h:=q
def u4 (q:Q (.int (i - j)) h):Aw Vh (.int i) (.int j) Q h:=q
def u2 (he:i.natAbs < 2 ^ 64)(q:Q (.int (i*j)) h):Aw SD (.int i) (.int j) Q h:=⟨.inl he,q⟩
def yq (he:j.natAbs < 2 ^ 64)(q:Q (.int (i*j)) h):Aw SD (.int i) (.int j) Q h:=⟨.inr he,q⟩
def yo (he:j≠0/\j.natAbs < 1073741824)(q:Q (.int (Int.fdiv i j)) h):Aw Us (.int i) (.int j) Q h:=⟨he,q⟩
def xD (he:j≠0)(q:Q (.int (Int.fmod i j)) h):Aw UY (.int i) (.int j) Q h:=⟨he,q⟩
def pM (he:i=2/\0<=j/\j<=60)(q:Q (.int (i ^ j.toNat)) h):Aw Va (.int i) (.int j) Q h:=⟨he,q⟩
def we (q:Q (.bool (decide (i < j))) h):Aw DZ (.int i) (.int j) Q h:=q
def zb (q:Q (.bool (decide (j<=i))) h):Aw MV (.int i) (.int j) Q h:=q
def v8 (q:Q (.int (if i < j then j else i)) h):Aw Fg (.int i) (.int j) Q h:=q
def v9 (q:Q (.int (if j < i then j else i)) h):Aw Kt (.int i) (.int j) Q h:=q
def yr (q:Q (.int (-i)) h):LT (.int i) Q h:=q
def yl (q:Q (.int (if i < 0 then -i else i)) h):PX (.int i) Q h:=q
def wc {v:V}(q:Q (.bool v.isNone) h):F3 v .none Q h:=⟨rfl,q⟩
def v7 {v:V}(q:Q (.bool !v.isNone) h):HO v .none Q h:=⟨rfl,q⟩
def yn (q:Q (.bool (decide (i=j))) h):Cw (.int i) (.int j) Q h:=q
end
def bD {a C d:Nat}{f:Nat->Option V}(H:h a=some (.ins C d f)):Ec h a=some ⟨C,d,f⟩:=by unfold Ec;rw[H];rfl
def au {a:Nat}{xs:List V}(H:h a=some (.lst xs)):getL h a=some xs:=by unfold getL;rw[H];rfl
def bV {a ep:Nat}{l:List (Int×V)}(H:h a=some (.BM ep l)):CK h a=some (ep,l):=by unfold CK;rw[H];rfl
def Wf (C:Nat)(f:Nat->Option V)(n:Nat):Option V:=match f n with |some v=>some v|none=>JO C n
def Kl (C n:Nat)(f:Nat->Option V):Option V:=match prop C n with |some _=>none|none=>cond (AM n (own C)) (Wf C f n) none
def Qm (C n:Nat)(f:Nat->Option V):Option Nat:=match f n with |some _=>none|none=>La C n
def US (C n:Nat)(f:Nat->Option V):Option (Nat×Nat):=match f n with |some (.lam k l)=>cond (AM n (own C)) (match JO C n with |none=>some (k,l)|some _=>none) none|_=>none
abbrev DQ (l:List (Nat×V)):Nat->Option V:=λn=>look n l
def JK (n:Nat)(v:V)(l:List (Nat×V)):List (Nat×V):= @List.rec (Nat×V) (λJ=>List (Nat×V)) [(n,v)] (λp r ih=> @Prod.rec Nat V (λJ=>List (Nat×V)) (λj w=>cond (Nat.beq n j) ((n,v)::r) ((j,w)::ih)) p) l
def a6 (n:Nat)(v:V):∀ l:List (Nat×V),Ad (DQ l) n (some v)=DQ (JK n v l)
 | []=>rfl
 |(j,w)::l=>by
  funext x
  have ih:=congrFun (a6 n v l) x
  show cond (Nat.beq x n) (some v) (cond (Nat.beq x j) (some w) (look x l))=look x (cond (Nat.beq n j) ((n,v)::l) ((j,w)::JK n v l))
  cases e:Nat.beq n j with
  |true=>
   cases Nat.eq_of_beq_eq_true e
   show _=cond (Nat.beq x n) (some v) (look x l)
   cases Nat.beq x n <;> rfl
  |false=>
   show _=cond (Nat.beq x j) (some w) (look x (JK n v l))
   rw[<-show Ad (DQ l) n (some v) x=look x (JK n v l) from ih]
   show _=cond (Nat.beq x j) (some w) (cond (Nat.beq x n) (some v) (look x l))
   cases e1:Nat.beq x n with
   |false=>rfl
   |true=>
    cases Nat.eq_of_beq_eq_true e1
    rw[e];rfl
section
variable {Q:V->H->Prop}{R:H->Prop}
def vh {a C d n:Nat}{f:Nat->Option V}{v:V}(CJ:h a=some (.ins C d f))(he:Kl C n f=some v)(q:Q v h):K4 cf n (.ref a) Q h:=by
 unfold K4
 refine ae (a:=a) rfl (ae (bD CJ) ?_)
 show match prop C n with |some f=>cf f [.ref a] [] Q h|none=>AM n (own C)=true/\AJ (Wf C f n) λv=>Q v h
 unfold Kl at he
 cases e:prop C n with
 |some k=>rw[e] at he;cases he
 |none=>
  rw[e] at he
  cases e1:AM n (own C) with
  |true=>rw[e1] at he;exact⟨rfl,ae he q⟩
  |false=>rw[e1] at he;cases he
def vj {a C d n k:Nat}{f:Nat->Option V}(CJ:h a=some (.ins C d f))(he:prop C n=some k)(q:cf k [.ref a] [] Q h):K4 cf n (.ref a) Q h:=by
 unfold K4
 refine ae (a:=a) rfl (ae (bD CJ) ?_)
 show match prop C n with |some f=>cf f [.ref a] [] Q h|none=>_
 rw[he];exact q
def cu {a C d n:Nat}{f:Nat->Option V}{v:V}(CJ:h a=some (.ins C d f))(he:AM n (own C)=true)(q:R (Ad h a (some (.ins C d (Ad f n (some v)))))):Iv n (.ref a) v R h:=
 ae (a:=a) rfl (ae (bD CJ) ⟨he,q⟩)
def cn {α:Type}(f:Nat->α)(a:Nat)(b c:α):Ad (Ad f a b) a c=Ad f a c:=by
 funext x;unfold Ad;cases Nat.beq x a <;> rfl
def aE {a C d n:Nat}{l:List (Nat×V)}{v:V}(CJ:h a=some (.ins C d (DQ l)))(he:AM n (own C)=true)(q:R (Ad h a (some (.ins C d (DQ (JK n v l)))))):Iv n (.ref a) v R h:=
 cu CJ he (by rw[a6];exact q)
def cy {a C d n:Nat}{f:Nat->Option V}{v:V}(he:AM n (own C)=true)(q:R (Ad h a (some (.ins C d (Ad f n (some v)))))):Iv n (.ref a) v R (Ad h a (some (.ins C d f))):=
 cu (aa ..) he (by rw[cn];exact q)
def aT {a C d n:Nat}{l:List (Nat×V)}{v:V}(he:AM n (own C)=true)(q:R (Ad h a (some (.ins C d (DQ (JK n v l)))))):Iv n (.ref a) v R (Ad h a (some (.ins C d (DQ l)))):=
 aE (aa ..) he (by rw[cn];exact q)
def cY {a C d n g:Nat}{f:Nat->Option V}{args:(List V->List (Nat×V)->H->Prop)->H->Prop}(CJ:h a=some (.ins C d f))(he:Qm C n f=some g)(q:args (λvs ks h=>cf g (.ref a::vs) ks Q h) h):OS cf n (.ref a) args Q h:=by
 unfold OS
 refine ae (a:=a) rfl (ae (bD CJ) ?_)
 show match f n with |none=>_|some (.lam k l)=>_|_=>False
 unfold Qm at he
 cases e:f n with
 |some k=>rw[e] at he;cases he
 |none=>rw[e] at he;exact ae he q
def pP {a C d n k l:Nat}{f:Nat->Option V}{args:(List V->List (Nat×V)->H->Prop)->H->Prop}(CJ:h a=some (.ins C d f))(he:US C n f=some (k,l))(q:args (λvs ks h=>ks.isEmpty=true/\Ql k l vs Q h) h):OS cf n (.ref a) args Q h:=by
 unfold OS
 refine ae (a:=a) rfl (ae (bD CJ) ?_)
 show match f n with |none=>_|some (.lam k l)=>_|_=>False
 unfold US at he
 set_option tactic.hygienic true in split at he
 ·rename_i k' l' e
  rw[e]
  cases e1:AM n (own C) with
  |false=>rw[e1] at he;cases he
  |true=>
   rw[e1] at he
   have he:(match JO C n with |none=>some (k',l')|some _=>none)=some (k,l):=he
   cases e2:JO C n with
   |some _=>rw[e2] at he;cases he
   |none=>rw[e2] at he;cases he;exact⟨⟨rfl,rfl⟩,q⟩
 ·cases he
def wo {l:Nat}{xs:List V}(CJ:h l=some (.lst xs))(b:xs.length < lim)(q:Q .none (Ad h l (some (.lst (xs++ [.int 1]))))): [].isEmpty (α:=Nat×V)=true/\Ql 0 l [] Q h:=
 ⟨rfl,ae (a:=V.int 1) rfl (ae (a:=l) rfl (ae (au CJ) ⟨b,q⟩))⟩
def wq {l:Nat}{x y z:V}{xs:List V}(CJ:h l=some (.lst xs))(b:xs.length < lim)(q:Q .none (Ad h l (some (.lst (xs++ [.tup [x,y,z]]))))): [].isEmpty (α:=Nat×V)=true/\Ql 1 l [x,y,z] Q h:=
 ⟨rfl,ae (a:=V.tup [x,y,z]) rfl (ae (a:=l) rfl (ae (au CJ) ⟨b,q⟩))⟩
def lB {a n:Nat}{f:Nat->Option V}{v:V}(CJ:h a=some (.dct f))(he:f n=some v)(q:Q v h):Au (.ref a) (.str n) Q h:=by
 unfold Au
 exact ae CJ (ae (a:=n) rfl (ae he q))
def MY (xs:List V)(i:Int):Option V:=AT (Jt i xs.length) λj=>xs[j]?
def bP {a:Nat}{i:Int}{xs:List V}{v:V}(CJ:h a=some (.lst xs))(he:MY xs i=some v)(q:Q v h):Au (.ref a) (.int i) Q h:=by
 unfold Au
 obtain⟨j,e1,e2⟩:=aG he
 exact ae CJ (ae (a:=i) rfl (ae e1 (ae e2 q)))
def xS {i:Nat}{vs:List V}{v:V}(he:cond (Nat.blt i 8) vs[i]? none=some v)(q:Q v h):Au (.tup vs) (.int (OfNat.ofNat i)) Q h:=by
 unfold Au
 cases z:Nat.blt i 8 with
 |true=>rw[z] at he;exact ae (a:=(OfNat.ofNat i:Int)) rfl ⟨⟨Int.natCast_nonneg i,Int.ofNat_lt.mpr (Nat.le_of_ble_eq_true z)⟩,ae he q⟩
 |false=>rw[z] at he;cases he
def vi {i:Int}{xs:List Int}{j:Nat}{v:Int}(p:Jt i xs.length=some j)(g:xs[j]? =some v)(q:Q (.int v) h):Au (.DM xs) (.int i) Q h:=by
 unfold Au
 exact ae (a:=i) rfl (ae p (ae g q))
def pU {a n:Nat}{l:List (Nat×V)}{v:V}(CJ:h a=some (.dct (DQ l)))(he:(look n l).isSome=true)(q:R (Ad h a (some (.dct (DQ (JK n v l)))))):Jr (.ref a) (.str n) v R h:=by
 unfold Jr
 refine ae (a:=a) rfl (ae CJ ?_)
 exact ae (a:=n) rfl ⟨he,by rw[a6];exact q⟩
def fK {a:Nat}{i:Int}{xs:List V}{v:V}(CJ:h a=some (.lst xs))(he:0<=i/\i.toNat < xs.length)(q:R (Ad h a (some (.lst (xs.set i.toNat v))))):Jr (.ref a) (.int i) v R h:=by
 unfold Jr
 refine ae (a:=a) rfl (ae CJ ?_)
 exact ae (a:=i) rfl ⟨he,q⟩
def vm {a ep:Nat}{i:Int}{l:List (Int×V)}{v:V}(CJ:h a=some (.BM ep l))(he:l.length < lim/\∀ p∈l,p.1≠i)(q:∀ ep,R (Ad h a (some (.BM ep (l++ [(i,v)]))))):Jr (.ref a) (.int i) v R h:=by
 unfold Jr
 refine ae (a:=a) rfl (ae CJ ?_)
 exact ae (a:=i) rfl ⟨he,q⟩
def pQ {a:Nat}{xs:List V}(CJ:h a=some (.lst xs))(q:Q (.int xs.length) h):Go (.ref a) Q h:=ae (au CJ) q
def pT {a:Nat}{k:Int}{xs:List V}(CJ:h a=some (.lst xs))(b:0<=k)(q:∀ c,h c=none->Q (.ref c) (Ad h c (some (.lst (GH xs k none))))):Nk (.ref a) (.int k) Q h:=
 ae (a:=xs) (au CJ) (ae (a:=k) rfl ⟨b,λJ z=>(nomatch z),q⟩)
def tb {a:Nat}{k j:Int}{xs:List V}(CJ:h a=some (.lst xs))(b:0<=k/\0<=j)(q:∀ c,h c=none->Q (.ref c) (Ad h c (some (.lst (GH xs k (some j)))))):LZ (.ref a) (.int k) (.int j) Q h:=
 ae (a:=xs) (au CJ) (ae (a:=k) rfl (ae (a:=j) rfl ⟨b.1,λJ z=>(by cases z;exact b.2),q⟩))
def vk {k j:Int}{xs:List Int}(b:0<=k/\0<=j)(q:∀ c,h c=none->Q (.ref c) (Ad h c (some (.lst (GH (xs.map .int) k (some j)))))):LZ (.DM xs) (.int k) (.int j) Q h:=
 ae (a:=xs.map .int) rfl (ae (a:=k) rfl (ae (a:=j) rfl ⟨b.1,λJ z=>(by cases z;exact b.2),q⟩))
def fH {a:Nat}{v:V}{xs:List V}(CJ:h a=some (.lst xs))(b:xs.length < lim)(q:Q .none (Ad h a (some (.lst (xs++ [v]))))):LJ (.ref a) v Q h:=ae (a:=a) rfl (ae (au CJ) ⟨b,q⟩)
def xH {a b:A4}(q:a cf e (λx h=>AJ (AT x.ref? λl=>getL h l) λJ=>b cf e (λy h=>LJ x y Q h) h) h):JN a b cf e Q h:=q
def xQ {a:Nat}{xs:List V}{k:List V->Prop}(CJ:h a=some (.lst xs))(q:k xs):AJ (AT (V.ref a).ref? λl=>getL h l) k:=ae (au CJ) q
def pR {a ep:Nat}{i:Int}{l:List (Int×V)}{v:V}(CJ:h a=some (.BM ep l))(he:l.lookup i=some v)(q:∀ ep,Q v (Ad h a (some (.BM ep (l.filter λp=>p.1 !=i))))):M8 (.ref a) (.int i) Q h:=ae (a:=a) rfl (ae (bV CJ) (ae (a:=i) rfl (ae he q)))
def xN {a b:A4}(q:a cf e (λx h=>AJ x.ref? λd=>AJ (CK h d) λJ=>b cf e (λy h=>M8 x y Q h) h) h):N0 a b cf e Q h:=q
def xR {a ep:Nat}{l:List (Int×V)}{k:Nat->Nat×List (Int×V)->Prop}(CJ:h a=some (.BM ep l))(q:k a (ep,l)):AJ (V.ref a).ref? λd=>AJ (CK h d) (k d):=ae (a:=a) rfl (ae (bV CJ) q)
def xK {c:Nat}{m:A4}(q:m cf e (λx h=>AJ x.ref? λd=>AJ (CK h d) λp=>∀ a y,a≠y->h a=none->h y=none->Q (.ref a) (Ad (Ad h a (some (.Gz c y d p.1 p.2.length))) y (some (.own a)))) h):ON c m cf e Q h:=q
def xI {m:A4}(q:m cf e (λx h=>AJ x.ref? λd=>AJ (CK h d) λJ=>∀ ep,Q .none (Ad h d (some (.BM ep [])))) h):Rh m cf e Q h:=q
def wY {x:Nat}{it:J7}{t:Ev}{elt:A4}(q:it cf e (λsrc h=>src.xs.length<=lim/\KU x elt t cf e src src.xs [] (λout h=>∀ a,h a=none->Q (.ref a) (Ad h a (some (.lst out)))) h) h):Ct x it t elt cf e Q h:=q
end
section
variable {Q:Ci->H->Prop}
def yM {gen:Nat->M Ci}{m:A4}(q:m cf e (λx h=>Mo gen x Q h) h):Cx gen m cf e Q h:=q
def kz {gen:Nat->M Ci}{a:Nat}{xs:List V}(CJ:h a=some (.lst xs))(q:Q (N3 a xs) h):Mo gen (.ref a) Q h:=by unfold Mo;dsimp only;rw[CJ];exact q
def ze {gen:Nat->M Ci}{xs:List V}(q:Q (Fn xs) h):Mo gen (.tup xs) Q h:=q
def zc {gen:Nat->M Ci}{a ep:Nat}{l:List (Int×V)}(CJ:h a=some (.BM ep l))(q:Q (O0 a ep l) h):Mo gen (.ref a) Q h:=by unfold Mo;dsimp only;rw[CJ];exact q
def xV {m:A4}(q:m cf e (λx h=>AJ x.int? λi=>OJ 0 i 1/\Q (Fn (Hn 0 i 1)) h) h):Jq m cf e Q h:=q
def gr {i:Int}{k:Prop}(b:0<=i/\i<=1000)(q:k):OJ 0 i 1/\k:=⟨⟨by decide,by decide,b.1,b.2,by decide,by decide⟩,q⟩
def xW {m:A4}(q:m cf e (λx h=>AJ x.ref? λa=>AJ (CK h a) λp=>Q (N4 a p.1 p.2) h) h):O3 m cf e Q h:=q
def xU {m:A4}(q:m cf e (λx h=>AJ x.ref? λa=>AJ (CK h a) λp=>Q (Lg a p.1 p.2) h) h):Rr m cf e Q h:=q
def xT {m:A4}(q:m cf e (λx h=>AJ x.ref? λa=>AJ (getL h a) λxs=>Q (OZ a xs) h) h):Rk m cf e Q h:=q
end
section
variable {cf:Cc}{e:AZ}{h:H}{x y a C d n g:Nat}{f:Nat->Option V}{v w:V}{b:Bool}{F:V->V->M V}{ms:HW}{mk:GX}
def wl {Q:V->H->Prop}(Bf:e x=some (.ref a))(CJ:h a=some (.ins C d f))(he:Kl C n f=some v)(q:Q v h):Al (Aa x) n cf e Q h:=u8 (aK Bf (vh CJ he q))
def wm {Q:V->H->Prop}(Bf:e x=some (.ref a))(CJ:h a=some (.dct f))(he:f n=some v)(q:Q v h):Ab Au (Aa x) (Ag (.str n)) cf e Q h:=cE (aK Bf (bQ (lB CJ he q)))
def yy {Q:Bool->H->Prop}(Bf:e x=some (.bool b))(q:Q b h):An (Aa x) cf e Q h:=iV (aK Bf (nv q))
def yw {Q:Bool->H->Prop}(Bf:e x=some (.ref a))(CJ:h a=some (.ins C d f))(he:Kl C n f=some (.bool b))(q:Q b h):An (Al (Aa x) n) cf e Q h:=iV (wl Bf CJ he (nv q))
def yx {Q:Bool->H->Prop}(Bf:e x=some (.ref a))(CJ:h a=some (.dct f))(he:f n=some (.bool b))(q:Q b h):An (Ab Au (Aa x) (Ag (.str n))) cf e Q h:=iV (wm Bf CJ he (nv q))
def yK {Q:V->H->Prop}(Bf:e x=some w)(q:F w v Q h):Ab F (Aa x) (Ag v) cf e Q h:=cE (aK Bf (bQ q))
def yL {Q:V->H->Prop}(Bf:e x=some v)(GW:e y=some w)(q:F v w Q h):Ab F (Aa x) (Aa y) cf e Q h:=cE (aK Bf (aK GW q))
def zi {Q:List V->H->Prop}(Bf:e x=some v)(q:ms cf e (λvs h=>Q (v::vs) h) h):Ah (Aa x) ms cf e Q h:=mN (aK Bf q)
def zg {R:List (Nat×V)->H->Prop}(Bf:e x=some v)(q:mk cf e (λus h=>R ((n,v)::us) h) h):Aq n (Aa x) mk cf e R h:=mM (aK Bf q)
def zh {Q:List V->H->Prop}(q:ms cf e (λvs h=>Q (v::vs) h) h):Ah (Ag v) ms cf e Q h:=mN (bQ q)
def zf {R:List (Nat×V)->H->Prop}(q:mk cf e (λus h=>R ((n,v)::us) h) h):Aq n (Ag v) mk cf e R h:=mM (bQ q)
def yR {Q:DJ->AZ->H->Prop}{s t:A2}(q:s cf e (EG t cf Q) h):EG (Ak s t) cf Q .next e h:=q
def yP {Q:DJ->AZ->H->Prop}(Bf:e y=some v)(q:Q .next (Ad e x (some v)) h):Af (AA x) (Aa y) cf e Q h:=gS (aK Bf q)
def yO {Q:DJ->AZ->H->Prop}(q:Q .next (Ad e x (some v)) h):Af (AA x) (Ag v) cf e Q h:=gS (bQ q)
def yH {Q:V->H->Prop}(Bf:e x=some (.ref a))(CJ:h a=some (.ins C d f))(he:Qm C n f=some g)(q:Nd ms mk cf e (λvs ks h=>cf g (.ref a::vs) ks Q h) h):Bh (Aa x) n ms mk cf e Q h:=vb (aK Bf (cY CJ he q))
def yF {Q:V->H->Prop}{m:A4}(q:m cf e (λz h=>F z v Q h) h):Ab F m (Ag v) cf e Q h:=q
def yJ {Q:V->H->Prop}{m:A4}(Bf:e x=some v)(q:m cf e (λz h=>F v z Q h) h):Ab F (Aa x) m cf e Q h:=cE (aK Bf q)
def yI {Q:V->H->Prop}{K:V->M V}(Bf:e x=some v)(q:K v Q h):DP K (Aa x) cf e Q h:=sR (aK Bf q)
def yN {R:List V->List (Nat×V)->H->Prop}(q:R [] [] h):As cf e (λvs h=>Az cf e (λus h=>R vs us h) h) h:=q
def yS {Q:DJ->AZ->H->Prop}(Bf:e y=some w)(q:Iv a w v (λh=>Q .next e h) h):Af (AX (Aa y) a) (Ag v) cf e Q h:=lM (bQ (aK Bf q))
def yT {Q:DJ->AZ->H->Prop}(Bf:e x=some v)(GW:e y=some w)(q:Iv a w v (λh=>Q .next e h) h):Af (AX (Aa y) a) (Aa x) cf e Q h:=lM (aK Bf (aK GW q))
def yU {Q:DJ->AZ->H->Prop}(q:Q (.ret v) e h):BZ (Ag v) cf e Q h:=q
section
variable {i j:Int}{Q:Bool->H->Prop}
def y9 (q:Q (decide (i < j)) h):Aw DZ (.int i) (.int j) (λv h=>AJ (Eu v h) λb=>Q b h) h:=q
def y8 (q:Q (decide (i<=j)) h):Aw Ou (.int i) (.int j) (λv h=>AJ (Eu v h) λb=>Q b h) h:=q
def y6 (q:Q (decide (j < i)) h):Aw Gg (.int i) (.int j) (λv h=>AJ (Eu v h) λb=>Q b h) h:=q
def y5 (q:Q (decide (j<=i)) h):Aw MV (.int i) (.int j) (λv h=>AJ (Eu v h) λb=>Q b h) h:=q
def y7 {v:V}(q:Q v.isNone h):F3 v .none (λv h=>AJ (Eu v h) λb=>Q b h) h:=wc (nv q)
def yj {v:V}(q:Q (!v.isNone) h):HO v .none (λv h=>AJ (Eu v h) λb=>Q b h) h:=v7 (nv q)
def yh (q:Q (decide (i=j)) h):Cw (.int i) (.int j) (λv h=>AJ (Eu v h) λb=>Q b h) h:=q
def yk (q:Q (!(decide (i=j))) h):Jh (.int i) (.int j) (λv h=>AJ (Eu v h) λb=>Q b h) h:=q
def yi {a b:Nat}(q:Q (Nat.beq a b) h):Cw (.str a) (.str b) (λv h=>AJ (Eu v h) λb=>Q b h) h:=q
end
end
def Iq (k:AZ->H->Prop)(Q:DJ->AZ->H->Prop):DJ->AZ->H->Prop:=λfl e h=>match fl with | .next=>k e h| .cont=>k e h| .brk=>Q .next e h| .ret w=>Q (.ret w) e h
section
variable {Q:DJ->AZ->H->Prop}{k:AZ->H->Prop}
def yY (q:k e h):Iq k Q .next e h:=q
def yX (q:k e h):Iq k Q .cont e h:=q
def yW (q:Q .next e h):Iq k Q .brk e h:=q
def yZ {v:V}(q:Q (.ret v) e h):Iq k Q (.ret v) e h:=q
end
def dw {α:Type}{t:K0}{body:A2}{src:Ci}{f:α->V}{Q:DJ->AZ->H->Prop}(p:α->Bool)(I:List α->AZ->H->Prop)(hs:∀ r e h,I r e h->src.Eh h)(hok:∀ a r e h,I (a::r) e h->src.ok (f a) h=some (p a))(hn:∀ a r e h,p a=false->I (a::r) e h->I r e h)
  (hb:∀ a r e h,p a=true->I (a::r) e h->∀ k:AZ->H->Prop,(∀ e' h',I r e' h'->k e' h')->t cf (f a) e (λe h=>body cf e (Iq k Q) h) h)(hd:∀ e h,I [] e h->Q .next e h):
  ∀ (rs:List α) (e:AZ) (h:H),I rs e h->F6 t body cf src (rs.map f) e Q h
 | [],e,h,i=>⟨hs _ _ _ i,hd _ _ i⟩
 |a::rs,e,h,i=>⟨hs _ _ _ i,ae (hok _ _ _ _ i) (by
  cases z:p a with
  |true=>exact hb a rs e h z i (λe h=>F6 t body cf src (rs.map f) e Q h) (dw p I hs hok hn hb hd rs)
  |false=>exact dw p I hs hok hn hb hd rs e h (hn a rs e h z i))⟩
def aU {α:Type}{t:K0}{body:A2}{src:Ci}{f:α->V}{Q:DJ->AZ->H->Prop}(I:List α->AZ->H->Prop)(hs:∀ r e h,I r e h->src.Eh h)(hok:∀ v h,src.ok v h=some true)
  (hb:∀ a r e h,I (a::r) e h->∀ k:AZ->H->Prop,(∀ e' h',I r e' h'->k e' h')->t cf (f a) e (λe h=>body cf e (Iq k Q) h) h)(hd:∀ e h,I [] e h->Q .next e h)(rs:List α)(e:AZ)(h:H)(i:I rs e h):F6 t body cf src (rs.map f) e Q h:=
 dw (λJ=>true) I hs (λJ J J J J=>hok _ _) (λJ J J J z=>nomatch z) (λa r e h J=>hb a r e h) hd rs e h i
def br {α:Type}{x:Nat}{elt:A4}{t:Ev}{src:Ci}{xs:List V}{K:List V->H->Prop}(rs:List α)(f:α->V)(p:α->Bool)(g:α->V)(hx:xs=rs.map f)(hs:src.Eh h)(hok:∀ v h,src.ok v h=some true)
  (ht:∀ r∈rs,∀ Q:Bool->H->Prop,Q (p r) h->t cf (Ad e x (some (f r))) Q h)(hg:∀ r∈rs,p r=true->∀ Q:V->H->Prop,Q (g r) h->elt cf (Ad e x (some (f r))) Q h)(q:K ((rs.filter p).map g) h):KU x elt t cf e src xs [] K h:=by
 subst hx
 suffices z:∀ acc,K (acc++(rs.filter p).map g) h->KU x elt t cf e src (rs.map f) acc K h from z [] q
 clear q
 induction rs with
 |nil=>intro acc q;rw[List.filter_nil,List.map_nil,List.append_nil] at q;exact⟨hs,q⟩
 |cons r rs ih=>
  intro acc q
  have ih:=ih (λr m=>ht r (.tail _ m)) λr m=>hg r (.tail _ m)
  refine⟨hs,ae (hok _ _) (ht r (.head _) _ ?_)⟩
  cases e1:p r with
  |true=>
   refine hg r (.head _) e1 _ (ih _ ?_)
   rw[List.filter_cons,e1] at q
   rw[List.append_assoc];exact q
  |false=>
   refine ih _ ?_
   rw[List.filter_cons,e1] at q
   exact q
def aB (v:V)(h:H):KY v h=some true:=rfl
end
def By (l:List Nat)(e e':AZ):Prop:=∀ x,AM x l=false->e' x=e x
theorem By.refl (l:List Nat)(e:AZ):By l e e:=λJ J=>rfl
theorem By.set {l:List Nat}{e e':AZ}{n:Nat}{v:Option V}(k:By l e e')(m:AM n l=true):By l e (Ad e' n v):=λx z=>by
 rw[ab]
 ·exact k x z
 ·rintro rfl;rw[m] at z;cases z
structure Mod (T:Nat->Nat)(S:List Nat)(h h':H):Prop where
 keep:∀ a o,AM (T a) S=false->h a=some o->h' a=some o
 live:∀ a,AM (T a) S=true->h a≠none->h' a≠none
def DS (T:Nat->Nat)(h:H):Prop:=∀ a,T a≠0->h a≠none
section
variable {T:Nat->Nat}{S S' U:List Nat}{h h' h2:H}{a b:Nat}{o:O}
theorem Mod.refl (h:H):Mod T S h h:=⟨λJ J J e=>e,λJ J e=>e⟩
theorem Mod.trans (x:Mod T S h h')(y:Mod T S h' h2):Mod T S h h2:=⟨λa o m e=>y.keep a o m (x.keep a o m e),λa m e=>y.live a m (x.live a m e)⟩
def dQ {k:Nat}(s:S.all (AM · U)=true)(m:AM k S=true):AM k U=true:=List.all_eq_true.mp s k (aO.mp m)
theorem Mod.mono (x:Mod T S h h')(s:S.all (AM · U)=true):Mod T U h h':=by
 have nn:∀ a,AM (T a) U=false->AM (T a) S=false:=λa m=>by
  cases e:AM (T a) S with
  |false=>rfl
  |true=>rw[dQ s e] at m;cases m
 refine⟨λa o m e=>x.keep a o (nn a m) e,λa m e=> ?_⟩
 cases e1:AM (T a) S with
 |true=>exact x.live a e1 e
 |false=>
  cases e2:h a with
  |none=>exact(e e2).elim
  |some o=>rw[x.keep a o e1 e2];exact λz=>nomatch z
theorem Mod.set (m:AM (T a) S=true):Mod T S h (Ad h a (some o)):=by
 refine⟨λb o' n e=> ?_,λb J e=> ?_⟩
 ·by_cases q:b=a
  ·rw[q,m] at n;cases n
  ·rw[ab _ _ q];exact e
 ·by_cases q:b=a
  ·rw[q,aa];exact λz=>nomatch z
  ·rw[ab _ _ q];exact e
def az {e1:h a=none}(e2:h b=some o):b≠a:=λz=>by rw[z,e1] at e2;cases e2
theorem Mod.new (m:h a=none):Mod T S h (Ad h a (some o)):=by
 refine⟨λb o' J e=> ?_,λb J e=> ?_⟩
 ·rw[ab _ _ (az (e1:=m) e)];exact e
 ·rw[ab _ _ λz:b=a=>e (by rw[z];exact m)];exact e
theorem Mod.Vp (x:Mod T S h h')(m:h a=none):Mod T S h (Ad h' a (some o)):=by
 refine⟨λb o' n e=> ?_,λb n e=> ?_⟩
 ·rw[ab _ _ (az (e1:=m) e)];exact x.keep b o' n e
 ·rw[ab _ _ λz:b=a=>e (by rw[z];exact m)];exact x.live b n e
theorem Mod.get {t:Nat}(x:Mod T S h h')(e:h a=some o)(ta:T a=t)(s:AM t S=false):h' a=some o:=x.keep a o (by rw[ta];exact s) e
theorem Mod.alive (x:Mod T S h h')(l:DS T h):DS T h':=λa z=>by
 cases e:AM (T a) S with
 |true=>exact x.live a e (l a z)
 |false=>
  cases e2:h a with
  |none=>exact(l a z e2).elim
  |some o=>rw[x.keep a o e e2];exact λz=>nomatch z
theorem DS.fresh (l:DS T h)(e:h a=none):T a=0:=by
 by_cases z:T a=0
 ·exact z
 ·exact(l a z e).elim
abbrev TW:List Nat:= [1,2,3,4,5,6,7,8,9,10,11,12,13,14,15,16,17,18,20,21]
def A9 (T R:Nat->Nat):Prop:=∀ t,AM t TW=true->T (R t)=t
theorem Mod.at {R:Nat->Nat}{k:Nat}(G:A9 T R)(b:AM k TW=true)(m:AM k S=true)(o:O):Mod T S h (Ad h (R k) (some o)):= .set (by rw[G k b];exact m)
def dy {i j:Nat}(x:T a=i)(y:T b=j)(n:Nat.beq i j=false):a≠b:=λz=>by rw[<-x,<-y,z,Nat.beq_refl] at n;cases n
end
open Lean in
local macro_rules (kind:=Lean.Parser.Tactic.fail)
 |s=>if s[1][0].isStrLit? ==some "S" then return Mi.LB #[] "^ ^ (T.tacticTry_ 'try { (T.case 'case (null (T.caseArg (Lean.binderIdent Bf ) (null ) ) ) '=> { & % (T.exact 'exact rfl ) } ) % ~ } ) ) ) } ) } ) } ') ) '; ^ (T.tacticTry_ 'try { (T.case 'case (null (T.caseArg (Lean.binderIdent GW ) (null ) ) ) '=> { & % (T.exact 'exact rfl ) } ) % ~ } ) ) ) } ) } ) } ') ) '; ^ (T.failIfSuccess 'fail_if_success { (T.case' 'case' (null (T.caseArg (Lean.binderIdent Bf ) (null ) ) ) '=> { (T.skip 'skip ) } ) } ) } ') ) '; ^ (T.failIfSuccess 'fail_if_success { (T.case' 'case' (null (T.caseArg (Lean.binderIdent GW ) (null ) ) ) '=> { (T.skip 'skip ) } ) } ) } ') ) '; ^ (T.tacticTry_ 'try { (T.case 'case (null (T.caseArg (Lean.binderIdent CJ ) (null ) ) ) '=> { ^ ^ (T.tacticRepeat_ 'repeat { (T.refine 'refine (E.app (E.proj < (E.app ab (null (E.hole '_ ) (E.hole '_ ) < (E.byTactic 'by { & % ~ } ) % (T.exact 'exact (E.app dy (null < (E.byTactic 'by { & % (T.exact 'exact (E.app G (null (E.hole '_ ) rfl ) ) ) } ) % ~ } ) ) ) } ) ') ) < (E.byTactic 'by { & % (T.exact 'exact (E.app G (null (E.hole '_ ) rfl ) ) ) } ) % ~ } ) ) ) } ) ') ) rfl ) ) ) } ) ) ) } ) ') ) ) ) ') ) '. trans ) (null (E.syntheticHole '? '_ ) ) ) ) } ) } ') ) '; & % ~ } ) % (T.exact 'exact (E.app aa (null (E.hole '_ ) (E.hole '_ ) (E.hole '_ ) ) ) ) } ) ) ) } ') ) } ) } ) } ') ) '; ^ (T.tacticTry_ 'try { (T.case 'case (null (T.caseArg (Lean.binderIdent he ) (null ) ) ) '=> { & % (T.exact 'exact rfl ) } ) % ~ } ) % (T.decide 'decide (T.optConfig (null ) ) ) } ) ) ) } ) } ) } ') ) '; ^ (T.failIfSuccess 'fail_if_success { (T.case' 'case' (null (T.caseArg (Lean.binderIdent he ) (null ) ) ) '=> { (T.skip 'skip ) } ) } ) } ') ) '; (T.failIfSuccess 'fail_if_success { (T.case' 'case' (null (T.caseArg (Lean.binderIdent CJ ) (null ) ) ) '=> { (T.skip 'skip ) } ) } ) } ') )" else Macro.throwUnsupported
open Lean in
local macro_rules (kind:=Lean.Parser.Tactic.eqRefl)
 |s=>
  let q (t:Array Syntax):Syntax:= .node .none `Lean.Parser.Tactic.tacticSeq #[.node .none `Lean.Parser.Tactic.tacticSeq1Indented #[.node .none `null t]]
  let f:=Mi.LB #[] "(T.fail 'fail (null (str '\"S\" ) ) )"
  if s.isMissing then Macro.throwUnsupported else return .node .none `Lean.Parser.Tactic.first #[.atom .none "first",.node .none `null (("wl wm yy yw yx yK yL yJ yF yI zi zg yN zh zf yR yP yO yS yT yU y9 y8 y6 y5 y7 yj yh yk yi yH aK aD a8 cE bQ u8 vh lN gS fO iV bC yV lO zo zl zm x8 x9 yf yQ yd x4 lM xZ x6 x5 vL yb dS y0 sR xO wX yG vb cY u9 xG xP yt xM xJ xH xN xY mN xX mM xF xE yv nv zj wW dY k7 kZ yz yA yE yB nZ sK yD yC kY nY wi wj kS xC u4 we zb v8 v9 yr yl wc v7 yn x7 xL y4 u2 yq yo xD yg lB xS bP xy xz xQ xR pQ yM kz ze zc xV xW xU xT wY xK xI yY yX yW yZ".splitOn " ").toArray.map λn=> .node .none `group #[.atom .none "|",q #[.node .none `Lean.Parser.Tactic.withReducible #[.atom .none "with_reducible",q #[.node .none `Lean.Parser.Tactic.apply #[.atom .none "apply",mkIdent (.mkSimple n)]]],.atom .none ";",f]])]
open Lean in
local macro_rules (kind:=Lean.Parser.Tactic.tacticNofun)
 |s=>if s.isMissing then Macro.throwUnsupported else return Mi.LB #[] "(T.tacticRepeat_ 'repeat { ^ (T.eqRefl 'eq_refl ) } ') ) } )"
structure Aj where
 sp:Nat
 num:Int
 tm:Int
 sz:Int
 asks:Bool
 flight:Bool
 Cj:Bool
 d:Nat
 p:Nat
 pd:Nat
 q:Nat
def Lb (r:Aj):Nat->Option V:=DQ [(Ke,.int 3),(CE,.bool r.flight),(AB,.bool r.asks),(Cz,.bool r.Cj),(AH,.int r.num),(FE,.int 5),(Bg,.int r.tm),(C9,.int r.sz),(BN,.ref r.q)]
def Kw (i:Int):List Int:=(List.range ((i - 0+1 - 1) / 1).toNat).map λ(j:Nat)=>0+(j:Int)*1
def nA (i:Int):Hn 0 i 1=(Kw i).map .int:=by unfold Hn Hi Kw;rw[List.map_map];rfl
def TY (r:Aj):List V:=(Kw (1+Int.fmod r.num 2)).map λk=> .tup [.int (10*r.num+k),.tup [.int r.sp,.int k]]
def I3 (s:Int)(r:Aj):List V:=(Kw (1+Int.fmod r.num 2)).map λk=> .tup [.int (10*r.num+k),.int s,.tup [.int r.sp,.int k]]
def Em (T:Nat->Nat)(r:Aj)(h:H):Prop:=(h r.p=some (.ins FL r.pd (Lb r))/\T r.p=22)/\h r.q=some (.lst (TY r))/\T r.q=22
theorem Em.mod {T:Nat->Nat}{r:Aj}{S:List Nat}{h h':H}(x:Mod T S h h')(e:AM 22 S=false)(P:Em T r h):Em T r h':=⟨⟨x.get P.1.1 P.1.2 e,P.1.2⟩,x.get P.2.1 P.2.2 e,P.2.2⟩
inductive QG (T:Nat->Nat)(S:List Nat)(h h0:H)(v:V)(rs:List Aj)(p:Aj->Bool):Prop
 |mk (src:Ci) (e:src.xs=rs.map λr=> .ref r.p) (ok:∀ h',Mod T S h0 h'->∀ r∈rs,src.ok (.ref r.p) h'=some (p r)) (st:∀ h',Mod T S h0 h'->src.Eh h') (it:∀ Q:Ci->H->Prop,Q src h0->Mo CY v Q h):QG T S h h0 v rs p
inductive N7 (T:Nat->Nat)(S:List Nat)(h:H)(v:V)(rs:List Aj):Prop
 |mk (src:Ci) (e:src.xs=rs.map λr=> .ref r.p) (ok:∀ v h,src.ok v h=some true) (st:∀ h',Mod T S h h'->src.Eh h') (it:∀ h',Mod T S h h'->∀ Q:Ci->H->Prop,Q src h'->Mo CY v Q h'):N7 T S h v rs
theorem N7.l {T:Nat->Nat}{S:List Nat}{h:H}{a:Nat}{rs:List Aj}(H:h a=some (.lst (rs.map λr=> .ref r.p)))(m:AM (T a) S=false):N7 T S h (.ref a) rs:=
 .mk (N3 a _) rfl (λJ J=>rfl) (λh' x=>au (x.keep _ _ m H)) λh' x Q q=>kz (x.keep _ _ m H) q
theorem N7.t {T:Nat->Nat}{S:List Nat}{h:H}{rs:List Aj}:N7 T S h (.tup (rs.map λr=> .ref r.p)) rs:=
 .mk (Fn _) rfl (λJ J=>rfl) (λh' x=>trivial) λh' x Q q=>q
theorem N7.R5 {T:Nat->Nat}{S U:List Nat}{h:H}{v:V}{rs:List Aj}(L:N7 T U h v rs)(s:S.all (AM · U)=true):QG T S h h v rs λJ=>true:=by
 obtain⟨src,e,ok,st,it⟩:=L
 exact .mk src e (λJ J J J=>ok _ _) (λh' x=>st h' (x.mono s)) (it h (.refl _))
theorem N7.mod {T:Nat->Nat}{S:List Nat}{h h':H}{v:V}{rs:List Aj}(L:N7 T S h v rs)(x:Mod T S h h'):N7 T S h' v rs:=by
 obtain⟨src,e,ok,st,it⟩:=L
 exact .mk src e ok (λh2 y=>st h2 (x.trans y)) λh2 y=>it h2 (x.trans y)
structure KZ (cw st A:Int):Prop where
 w:2560<=cw
 t:0<=st
 a:cw+st<=A
theorem KZ.up {cw st A z:Int}(x:KZ cw st A)(hz:0<=z):KZ cw st (A+z):=⟨x.w,x.t,Int.le_trans x.a (Int.le_add_of_nonneg_right hz)⟩
theorem KZ.cw {cw st A z:Int}(x:KZ cw st A)(hz:0<=z):KZ (cw+z) st (A+z):=⟨Int.le_trans x.w (Int.le_add_of_nonneg_right hz),x.t,by have :=x.a;omega⟩
theorem KZ.st {cw st A z:Int}(x:KZ cw st A)(hz:0<=z):KZ cw (st+z) (A+z):=⟨x.w,Int.add_nonneg x.t hz,by have :=x.a;omega⟩
theorem KZ.nz {cw st A:Int}(x:KZ cw st A)(b:A<=1000000):cw≠0/\cw.natAbs < 1073741824:=by
 have :=x.w;have :=x.t;have :=x.a;omega
theorem KZ.dv {cw st A:Int}(x:KZ cw st A):KZ (cw+Int.fdiv st cw*1280) (st - Int.fdiv st cw*cw) A:=by
 obtain⟨w,t,a⟩:=x
 have hp:=Int.mul_fdiv_add_fmod st cw
 have hm:=Int.fmod_nonneg_of_pos st (show 0 < cw by omega)
 have CX:=Int.fdiv_nonneg t (show 0<=cw by omega)
 have hr:=Int.mul_le_mul_of_nonneg_left w CX
 generalize Int.fdiv st cw=k at *
 rw[Int.mul_comm cw] at hp
 constructor <;> omega
theorem KZ.hf {cw st A:Int}(x:KZ cw st A):KZ (if Int.fdiv cw 2 < 2560 then 2560 else Int.fdiv cw 2) st A:=by
 obtain⟨w,t,a⟩:=x
 have :Int.fdiv cw 2=cw / 2:=Int.fdiv_eq_ediv_of_nonneg cw (by decide)
 rw[this]
 split
 ·exact⟨by omega,t,by omega⟩
 ·exact⟨by omega,t,by omega⟩
theorem KZ.lo {cw st A:Int}(x:KZ cw st A):KZ 2560 st A:=⟨Int.le_refl _,x.t,by have :=x.w;have :=x.a;omega⟩
def Jo (R:Nat->Nat)(i tm ix:Int)(rd:Bool)(fm mx mn:V):Nat->Option V:=DQ [(Da,.int i),(GE,.none),(FS,.bool rd),(Fj,.int 5),(B8,fm),(Dy,.int ix),(Cg,mx),(Ch,mn),(D7,.int tm),(Dr,.ref (R 3))]
inductive KH (R D:Nat->Nat)(h:H):Prop
 |mk (i tm ix:Int) (rd:Bool) (fm mx mn:V) (xs:List Int) (H:h (R 2)=some (.ins Gn (D 2) (Jo R i tm ix rd fm mx mn))) (S:h (R 3)=some (.lst (xs.map .int))) (l:xs.length=5) (i0:0<=ix/\ix < 5) (fi:fm= .none\/∃ i,fm= .int i):KH R D h
inductive EB (R D:Nat->Nat)(bf A:Int)(h:H):Prop
 |mk (f:Nat->Option V) (cw st:Int) (ss:V) (cr:Int) (H:h (R 1)=some (.ins Eo (D 1) f)) (b:Kl Eo Cq f=some (.int bf)) (w:Kl Eo Ay f=some (.int cw)) (s:Kl Eo FR f=some ss)
  (m:Kl Eo AV f=some (.int 1280)) (c:Kl Eo AY f=some (.int cr)) (t:Kl Eo BV f=some (.int st)) (o:Kl Eo D6 f=some (.ref (R 2)))
  (no:∀ n,AM n (own Eo)=false->f n=none) (si:ss= .none\/∃ i,ss= .int i) (g:KZ cw st A) (M:KH R D h):EB R D bf A h
def cR {f:Nat->Option V}{k:Nat}(x:∀ n,AM n (own Eo)=false->f n=none)(m:AM k (own Eo)=false):Qm Eo k f=La Eo k:=by
 unfold Qm;rw[x k m]
def aY {f:Nat->Option V}{k:Nat}{v:V}(x:∀ n,AM n (own Eo)=false->f n=none)(m:AM k (own Eo)=true):∀ n,AM n (own Eo)=false->Ad f k (some v) n=none:=λn e=>by
 rw[ab]
 ·exact x n e
 ·rintro rfl;rw[m] at e;cases e
section
variable {n:Nat}{R D T:Nat->Nat}{S:List Nat}{h h':H}{bf A:Int}{Q:V->H->Prop}{r:Aj}
theorem KH.mod (G:A9 T R)(x:Mod T S h h')(e2:AM 2 S=false)(e3:AM 3 S=false)(M:KH R D h):KH R D h':=by
 obtain⟨i,tm,ix,rd,fm,mx,mn,xs,H,S,l,i0,fi⟩:=M
 exact .mk i tm ix rd fm mx mn xs (x.get H (G 2 rfl) e2) (x.get S (G 3 rfl) e3) l i0 fi
def mV (G:A9 T R)(C:EB R D bf A h)(P:Em T r h)(q:∀ h',EB R D (bf+r.sz) A h'->Mod T [1] h h'->Q .none h'):Bp (n+1) Jb [.ref (R 1)] [(Am,.ref r.p)] Q h:=by
 obtain⟨f,cw,st,ss,cr,H,b,w,s,m,c,t,o,no,si,g,M⟩:=C
 obtain⟨⟨P,tp⟩,-⟩:=P
 refine ay (d:=I8) (b:=I5) rfl ⟨rfl,rfl,rfl,rfl,rfl,rfl⟩ ?_
 refine vL ?_
 nofun
 refine cu H rfl ?_
 nofun
 exact q _ (.mk _ cw st ss cr (aa ..) rfl w s m c t o (aY no rfl) si g (M.mod G (S:= [1]) (.at G rfl rfl _) rfl rfl)) (.at G rfl rfl _)
def lI {now:V}(G:A9 T R)(C:EB R D bf A h)(P:Em T r h)(z:0<=r.sz)(bA:A+r.sz<=1000000)(q:∀ h',EB R D (bf - r.sz) (A+r.sz) h'->Mod T [1] h h'->Q .none h'):Bp (n+1) IS [.ref (R 1)] [(Am,.ref r.p),(Av,now)] Q h:=by
 obtain⟨f,cw,st,ss,cr,H,b,w,s,m,c,t,o,no,si,g,M⟩:=C
 obtain⟨⟨P,tp⟩,-⟩:=P
 have md:=Mod.at (S:= [1]) (k:=1) (h:=h) G rfl rfl
 refine ay (d:=IQ) (b:=IM) rfl ⟨rfl,rfl,rfl,rfl,rfl,rfl⟩ ?_
 refine aD ?_
 nofun
 refine cu H rfl ?_
 nofun
 refine dI (λJ=> ?_) λJ=> ?_
 ·nofun
  exact q _ (.mk _ cw st ss cr (aa ..) rfl w s m c t o (aY no rfl) si (g.up z) (M.mod G (md _) rfl rfl)) (md _)
 nofun
 obtain rfl|⟨i,rfl⟩:=si
 ·nofun
  refine cy rfl ?_
  nofun
  exact q _ (.mk _ _ st .none cr (aa ..) rfl rfl s m c t o (aY (aY no rfl) rfl) (.inl rfl) (g.cw z) (M.mod G (md _) rfl rfl)) (md _)
 nofun
 refine a9 (λJ=> ?_) λJ=> ?_
 ·nofun
  refine cy rfl ?_
  nofun
  exact q _ (.mk _ _ st (.int i) cr (aa ..) rfl rfl s m c t o (aY (aY no rfl) rfl) (.inr ⟨i,rfl⟩) (g.cw z) (M.mod G (md _) rfl rfl)) (md _)
 nofun
 refine cy rfl ?_
 have hd:=(g.st z).nz bA
 have hc:cw.natAbs < 2 ^ 64:=Nat.lt_trans hd.2 (by decide)
 nofun
 refine wh (λJ=> ?_) λJ=> ?_
 ·nofun
  refine cy rfl ?_
  nofun
  refine cy rfl ?_
  nofun
  exact q _ (.mk _ _ _ (.int i) cr (aa ..) rfl rfl s m c rfl o (aY (aY (aY (aY no rfl) rfl) rfl) rfl) (.inr ⟨i,rfl⟩) (g.st z).dv (M.mod G (md _) rfl rfl)) (md _)
 ·nofun
  exact q _ (.mk _ cw _ (.int i) cr (aa ..) rfl w s m c rfl o (aY (aY no rfl) rfl) (.inr ⟨i,rfl⟩) (g.st z) (M.mod G (md _) rfl rfl)) (md _)
def jH {h0:H}{v:V}{rs:List Aj}{p:Aj->Bool}(G:A9 T R)(C:EB R D bf A h0)(P:∀ r∈rs,Em T r h0)(I:QG T [1] h h0 v rs p)(q:∀ h',EB R D (bf - ((rs.filter p).map Aj.sz).sum) A h'->Mod T [1] h0 h'->Q .none h'):Bp (n+1) HH [.ref (R 1)] [(Bd,v)] Q h:=by
 obtain⟨src,e,ok,st,it⟩:=I
 refine ay (d:=HE) (b:=HB) rfl ⟨rfl,rfl,rfl,rfl,rfl,rfl⟩ ?_
 refine dS ?_
 nofun
 refine it _ ?_
 rw[e]
 generalize hb:bf - ((rs.filter p).map Aj.sz).sum=b0 at q
 refine dw p (λr e h'=>e Ac=some (.ref (R 1))/\Mod T [1] h0 h'/\(∀ x∈r,x∈rs)/\EB R D (b0+((r.filter p).map Aj.sz).sum) A h') (λr e h' i=>st _ i.2.1) (λa r e h' i=>ok _ i.2.1 a (i.2.2.1 a (.head _))) (λa r e h' z i=>⟨i.1,i.2.1,λx m=>i.2.2.1 x (.tail _ m),?_⟩) (λa r e h' z i k hk=> ?_) (λe h' i=> ?_) rs _ _ ⟨rfl,.refl _,λJ m=>m,?_⟩
 ·have :=i.2.2.2
  rw[List.filter_cons,z] at this;exact this
 ·obtain⟨e1,m1,s1,C1⟩:=i
  obtain⟨⟨P1,tp⟩,-⟩:=(P a (s1 a (.head _))).mod m1 rfl
  rw[List.filter_cons,z] at C1
  have C1:EB R D (b0+(a.sz+((r.filter p).map Aj.sz).sum)) A h':=C1
  obtain⟨f,cw,st,ss,cr,H,b,w,s,m,c,t,o,no,si,g,M⟩:=C1
  nofun
  refine cu H rfl ?_
  nofun
  have md:=Mod.at (S:= [1]) (k:=1) (h:=h') G rfl rfl
  exact hk _ _ ⟨e1,m1.trans (md _),λx m=>s1 x (.tail _ m),.mk _ cw st ss cr (aa ..) (by rw[show b0+((r.filter p).map Aj.sz).sum=b0+(a.sz+((r.filter p).map Aj.sz).sum) - a.sz by omega];rfl) w s m c t o (aY no rfl) si g (M.mod G (md _) rfl rfl)⟩
 ·refine q _ ?_ i.2.1
  have :=i.2.2.2
  rw[show b0+(([]:List Aj).filter p|>.map Aj.sz).sum=b0 from Int.add_zero _] at this
  exact this
 ·rw[show b0+((rs.filter p).map Aj.sz).sum=bf by omega];exact C
def mT {h0:H}{v:V}{rs:List Aj}{now:Int}(G:A9 T R)(C:EB R D bf A h0)(P:∀ r∈rs,Em T r h0)(I:QG T [1] h h0 v rs λJ=>true)(q:∀ h',EB R D (bf - (rs.map Aj.sz).sum) A h'->Mod T [1] h0 h'->Q .none h'):Bp (n+1) IT [.ref (R 1)] [(Av,.int now),(Bd,v)] Q h:=by
 obtain⟨src,e,ok,st,it⟩:=I
 refine ay (d:=IR) (b:=IN) rfl ⟨rfl,rfl,rfl,rfl,rfl,rfl⟩ ?_
 refine aD ?_
 nofun
 refine it _ ?_
 rw[e]
 generalize hb:bf - (rs.map Aj.sz).sum=b0 at q
 refine dw (λJ=>true) (λr e h'=>e Ac=some (.ref (R 1))/\e Av=some (.int now)/\(∃ l,e Fq=some (.int l))/\Mod T [1] h0 h'/\(∀ x∈r,x∈rs)/\EB R D (b0+(r.map Aj.sz).sum) A h') (λr e h' i=>st _ i.2.2.2.1) (λa r e h' i=>ok _ i.2.2.2.1 a (i.2.2.2.2.1 a (.head _))) (λa r e h' z i=>nomatch z) (λa r e h' z i k hk=> ?_) (λe h' i=> ?_) rs _ _ ⟨rfl,rfl,⟨0,rfl⟩,.refl _,λJ m=>m,?_⟩
 ·obtain⟨e1,e2,e3,m1,s1,C1⟩:=i
  obtain⟨⟨P1,tp⟩,-⟩:=(P a (s1 a (.head _))).mod m1 rfl
  have C1:EB R D (b0+(a.sz+(r.map Aj.sz).sum)) A h':=C1
  obtain⟨f,cw,st,ss,cr,H,b,w,s,m,c,t,o,no,si,g,M⟩:=C1
  nofun
  refine cu H rfl ?_
  nofun
  have md:=Mod.at (S:= [1]) (k:=1) (h:=h') G rfl rfl
  exact hk _ _ ⟨e1,e2,⟨_,rfl⟩,m1.trans (md _),λx m=>s1 x (.tail _ m),.mk _ cw st ss cr (aa ..) (by rw[show b0+(r.map Aj.sz).sum=b0+(a.sz+(r.map Aj.sz).sum) - a.sz by omega];rfl) w s m c t o (aY no rfl) si g (M.mod G (md _) rfl rfl)⟩
 ·obtain⟨e1,e2,⟨l,e3⟩,m1,s1,C1⟩:=i
  have C1:EB R D (b0+0) A h':=C1
  rw[Int.add_zero] at C1
  have C2:=C1
  obtain⟨f,cw,st,ss,cr,H,b,w,s,m,c,t,o,no,si,g,M⟩:=C1
  have md:=Mod.at (S:= [1]) (k:=1) (h:=h') G rfl rfl
  nofun
  refine a9 (λJ=> ?_) λJ=> ?_
  ·nofun
   refine cu H rfl ?_
   nofun
   refine cy rfl ?_
   nofun
   refine cy rfl ?_
   nofun
   exact q _ (.mk _ _ st _ now (aa ..) b rfl rfl m rfl t o (aY (aY (aY no rfl) rfl) rfl) (.inr ⟨_,rfl⟩) g.hf (M.mod G (md _) rfl rfl)) (m1.trans (md _))
  ·nofun
   exact q _ C2 m1
 ·rw[show b0+(rs.map Aj.sz).sum=bf by omega];exact C
def mU (G:A9 T R)(C:EB R D bf A h)(q:∀ h',EB R D bf A h'->Mod T [1] h h'->Q .none h'):Bp (n+1) F0 [.ref (R 1)] [] Q h:=by
 obtain⟨f,cw,st,ss,cr,H,b,w,s,m,c,t,o,no,si,g,M⟩:=C
 refine ay (d:=FY) (b:=FW) rfl ⟨rfl,rfl,rfl,rfl,rfl,rfl⟩ ?_
 refine aD ?_
 nofun
 refine cu H rfl ?_
 nofun
 refine cy rfl ?_
 nofun
 have md:=Mod.at (S:= [1]) (k:=1) (h:=h) G rfl rfl
 exact q _ (.mk _ _ st ss _ (aa ..) b rfl s m rfl t o (aY (aY no rfl) rfl) si g.lo (M.mod G (md _) rfl rfl)) (md _)
end
section
variable {n:Nat}{R D T:Nat->Nat}{h h':H}{bf A:Int}{Q:V->H->Prop}
inductive Q7 (R D T:Nat->Nat)(h:H)(i tm:Int)(fm:V)(h':H):Prop
 |mk (ix:Int) (rd:Bool) (mx mn:V) (xs:List Int) (H:h' (R 2)=some (.ins Gn (D 2) (Jo R i tm ix rd fm mx mn))) (S:h' (R 3)=some (.lst (xs.map .int))) (l:xs.length=5) (i0:0<=ix/\ix < 5) (z:rd=true->∃ a b,mx= .int a/\mn= .int b) (m:Mod T [2,3] h h'):Q7 R D T h i tm fm h'
def ng {i tm ix OC:Int}{rd:Bool}{fm mx mn:V}{xs:List Int}(G:A9 T R)(H0:h (R 2)=some (.ins Gn (D 2) (Jo R i tm ix rd fm mx mn)))(S:h (R 3)=some (.lst (xs.map .int)))(l:xs.length=5)(i0:0<=ix/\ix < 5)
  (q:∀ h',Q7 R D T h i tm fm h'->Q .none h'):Bp (n+1) Ml [.ref (R 2)] [(F9,.int OC)] Q h:=by
 refine ay (d:=Mi) (b:=Md) rfl ⟨rfl,rfl,rfl,rfl,rfl,rfl⟩ ?_
 unfold Jo at H0
 refine aD ?_
 nofun
 refine fK S ⟨i0.1,by rw[List.length_map];omega⟩ ?_
 rw[<-List.map_set]
 have l2:(xs.set ix.toNat OC).length=5:=by rw[List.length_set];exact l
 generalize xs.set ix.toNat OC=ys at l2 ⊢
 have m1:Mod T [2,3] h (Ad h (R 3) (some (.lst (ys.map .int)))):= .at G rfl rfl _
 have H1:=(ab h (some (.lst (ys.map .int))) (dy (G 2 rfl) (G 3 rfl) rfl)).trans H0
 have S1:=aa h (R 3) (some (O.lst (ys.map .int)))
 generalize Ad h (R 3) (some (.lst (ys.map .int)))=h1 at m1 H1 S1 ⊢
 nofun
 refine aE H1 rfl ?_
 have ne:R 3≠R 2:=dy (G 3 rfl) (G 2 rfl) rfl
 have go:∀ (ix':Int) (rd':Bool) (e:AZ) (h2:H),0<=ix'/\ix' < 5->e Ac=some (.ref (R 2))->h2 (R 2)=some (.ins Gn (D 2) (Jo R i tm ix' rd' fm mx mn))->h2 (R 3)=some (.lst (ys.map .int))->Mod T [2,3] h h2->
   AS (An (Al (Aa Ac) FS)) (Ak (Af (AX (Aa Ac) Cg) (Ab Au (Al (Aa Ac) Dr) (Ag (.int 0))))
   (Ak (Af (AX (Aa Ac) Ch) (Ab Au (Al (Aa Ac) Dr) (Ag (.int 0))))
   (Ck (AA Cu) (Cx CY (Ab Nk (Al (Aa Ac) Dr) (Ag (.int 1)))) (AS (An (Ab (Aw DZ) (Aa Cu) (Al (Aa Ac) Ch))) (Af (AX (Aa Ac) Ch) (Aa Cu)) (AS (An (Ab (Aw Gg) (Aa Cu) (Al (Aa Ac) Cg))) (Af (AX (Aa Ac) Cg) (Aa Cu)) AN))))) AN (Bp n) e (Dp Q) h2:=λix' rd' e h2 ib es H2 S2 m2=>by
  unfold Jo at H2
  nofun
  cases rd' with
  |false=>
   nofun
   exact q _ (.mk ix' _ mx mn ys H2 S2 l2 ib (λz=>nomatch z) m2)
  |true=>
   obtain⟨y,ys',rfl⟩:∃ y ys',ys=y::ys':=by cases ys with |nil=>cases l2|cons y ys'=>exact⟨y,ys',rfl⟩
   nofun
   refine aE H2 rfl ?_
   nofun
   refine aT rfl ?_
   nofun
   have m3:=Mod.at (S:= [2,3]) (k:=2) (h:=h2) G rfl rfl
   refine pT ((ab _ _ ne).trans S2) (by decide) λc hc=> ?_
   have nc2:R 2≠c:=az (e1:=hc) (aa ..)
   have nc3:R 3≠c:=az (e1:=hc) ((ab _ _ ne).trans S2)
   refine kz (aa ..) ?_
   rw[show GH ((y::ys').map V.int) 1 none=ys'.map V.int from rfl]
   refine aU (λr e h'=>e Ac=some (.ref (R 2))/\getL h' c=some (ys'.map .int)/\h' (R 3)=some (.lst ((y::ys').map .int))/\Mod T [2,3] h h'/\∃ a b,h' (R 2)=some (.ins Gn (D 2) (Jo R i tm ix' true fm (.int a) (.int b)))) (λr e h i=>i.2.1) aB (λa r e h' i k hk=> ?_) (λe h' i=> ?_) ys' _ _ ⟨es,au (aa ..),(ab _ _ nc3).trans ((ab _ _ ne).trans S2),m2.trans ((m3 _).trans (.new hc)),y,y,(ab _ _ nc2).trans (aa ..)⟩
   ·obtain⟨e1,e2,e3,e4,a1,b1,e5⟩:=i
    have m3:=Mod.at (S:= [2,3]) (k:=2) (h:=h') G rfl rfl
    have nc:c≠R 2:=λz=>nc2 z.symm
    unfold Jo at e5
    nofun
    refine a9 (λJ=> ?_) λJ=> ?_
    ·nofun
     refine aE e5 rfl ?_
     nofun
     exact hk _ _ ⟨e1,by unfold getL at e2 ⊢;rw[ab _ _ nc];exact e2,(ab _ _ ne).trans e3,e4.trans (m3 _),_,_,aa ..⟩
    nofun
    refine a9 (λJ=> ?_) λJ=> ?_
    ·nofun
     refine aE e5 rfl ?_
     nofun
     exact hk _ _ ⟨e1,by unfold getL at e2 ⊢;rw[ab _ _ nc];exact e2,(ab _ _ ne).trans e3,e4.trans (m3 _),_,_,aa ..⟩
    ·nofun
     exact hk _ _ ⟨e1,e2,e3,e4,_,_,e5⟩
   ·obtain⟨e1,e2,e3,e4,a1,b1,e5⟩:=i
    nofun
    exact q _ (.mk ix' _ _ _ _ e5 e3 l2 ib (λJ=>⟨_,_,rfl,rfl⟩) e4)
 have m3:=Mod.at (S:= [2,3]) (k:=2) (h:=h1) G rfl rfl
 nofun
 refine dI (λc=> ?_) λc=> ?_
 ·nofun
  refine aT rfl ?_
  nofun
  refine aT rfl (a8 ?_)
  exact go 0 true _ _ (by decide) (by rfl) (aa ..) ((ab _ _ ne).trans S1) (m1.trans (m3 _))
 ·refine bC (a8 ?_)
  exact go (ix+1) rd _ _ (by omega) (by rfl) (aa ..) ((ab _ _ ne).trans S1) (m1.trans (m3 _))
theorem Q7.at {i0 tm:Int}{fm:V}(z:Q7 R D T h i0 tm fm h')(fi:fm= .none\/∃ i,fm= .int i):KH R D h':=by
 obtain⟨ix,rd,mx,mn,xs,H,S,l,b,z,m⟩:=z
 exact .mk _ _ ix rd fm mx mn xs H S l b fi
def nh {now OC:Int}(G:A9 T R)(M:KH R D h)(q:∀ (b:Bool) h',KH R D h'->Mod T [2,3] h h'->Q (.bool b) h'):Bp (n+2) HJ [.ref (R 2)] [(Av,.int now),(F9,.int OC)] Q h:=by
 have M0:=M
 obtain⟨i,tm,ix,rd,fm,mx,mn,xs,H0,S,l,i0,fi⟩:=M
 refine ay (d:=HG) (b:=HD) rfl ⟨rfl,rfl,rfl,rfl,rfl,rfl⟩ ?_
 unfold Jo at H0
 refine aD ?_
 nofun
 refine a9 (λJ=> ?_) λJ=> ?_
 rotate_left
 ·nofun
  exact q _ _ M0 (.refl _)
 nofun
 refine ng G H0 S l i0 λh1 z=> ?_
 obtain⟨ix,rd,mx,mn,xs,H1,S1,l,i0,z,m1⟩:=z
 unfold Jo at H1
 have md:=Mod.at (S:= [2,3]) (k:=2) (h:=h1) G rfl rfl
 have ne:R 3≠R 2:=dy (G 3 rfl) (G 2 rfl) rfl
 nofun
 refine aE H1 rfl ?_
 nofun
 cases rd with
 |false=>
  nofun
  exact q _ _ (.mk _ _ _ _ _ _ _ _ (aa ..) ((ab _ _ ne).trans S1) l i0 fi) (m1.trans (md _))
 |true=>
  obtain⟨a,b,rfl,rfl⟩:=z rfl
  have go:∀ (fm':Int) (e:AZ) (h2:Mi.H),e Ac=some (.ref (R 2))->h2 (R 2)=some (.ins Gn (D 2) (Jo R i now ix true (.int fm') (.int a) (.int b)))->h2 (R 3)=some (.lst (xs.map .int))->Mod T [2,3] h h2->
    Ak (Af (AA Kd) (Ab Cv (Al (Aa Ac) Ch) (Al (Aa Ac) B8)))
    (AS (An (Ab (Aw MV) (Ab CM (Aa Kd) (Ag (.int 4))) (Al (Aa Ac) B8))) (Ak (EC (Aw Ir) (Aa Ac) Da (Ag (.int 1)))
    (AS (An (Ab (Aw MV) (Al (Aa Ac) Da) (Al (Aa Ac) Fj))) (BZ (Ag (.bool true))) AN)) (AS (An (Ab (Aw Gg) (Aa Kd) (Ag (.int 0)))) (Af (AX (Aa Ac) Da) (Ag (.int 0))) AN)) (Bp (n+1)) e (EG (BZ (Ag (.bool false))) (Bp (n+1)) (Dp Q)) h2:=λfm' e h2 es H2 S2 m2=>by
   unfold Jo at H2
   have md:=Mod.at (S:= [2,3]) (k:=2) (h:=h2) G rfl rfl
   nofun
   refine dI (λJ=> ?_) λJ=> ?_
   ·nofun
    refine aE H2 rfl ?_
    nofun
    refine dI (λJ=> ?_) λJ=> ?_
    ·nofun
     exact q _ _ (.mk _ _ _ _ _ _ _ _ (aa ..) ((ab _ _ ne).trans S2) l i0 (.inr ⟨_,rfl⟩)) (m2.trans (md _))
    ·nofun
     exact q _ _ (.mk _ _ _ _ _ _ _ _ (aa ..) ((ab _ _ ne).trans S2) l i0 (.inr ⟨_,rfl⟩)) (m2.trans (md _))
   nofun
   refine a9 (λJ=> ?_) λJ=> ?_
   ·nofun
    refine aE H2 rfl ?_
    nofun
    exact q _ _ (.mk _ _ _ _ _ _ _ _ (aa ..) ((ab _ _ ne).trans S2) l i0 (.inr ⟨_,rfl⟩)) (m2.trans (md _))
   ·nofun
    exact q _ _ (.mk _ _ _ _ _ _ _ _ H2 S2 l i0 (.inr ⟨_,rfl⟩)) m2
  obtain rfl|⟨f,rfl⟩:=fi
  ·nofun
   refine aT rfl (a8 ?_)
   exact go a _ _ (by rfl) (aa ..) ((ab _ _ ne).trans S1) (m1.trans (md _))
  ·nofun
   refine a9 (λJ=> ?_) λJ=> ?_
   ·nofun
    refine aT rfl (a8 ?_)
    exact go a _ _ (by rfl) (aa ..) ((ab _ _ ne).trans S1) (m1.trans (md _))
   ·refine bC (a8 ?_)
    exact go f _ _ (by rfl) (aa ..) ((ab _ _ ne).trans S1) (m1.trans (md _))
def oP {now OC:Int}(G:A9 T R)(C:EB R D bf A h)(q:∀ h',EB R D bf A h'->Mod T [1,2,3] h h'->Q .none h'):Bp (n+3) HI [.ref (R 1)] [(Av,.int now),(F9,.int OC)] Q h:=by
 have C0:=C
 obtain⟨f,cw,st,ss,cr,H,b,w,s,m,c,t,o,no,si,g,M⟩:=C
 refine ay (d:=HF) (b:=HC) rfl ⟨rfl,rfl,rfl,rfl,rfl,rfl⟩ ?_
 refine lN ?_
 nofun
 obtain rfl|⟨i,rfl⟩:=si
 rotate_left
 ·nofun
  exact q _ C0 (.refl _)
 obtain⟨i,tm,ix,rd,fm,mx,mn,xs,H0,S,l,i0,fi⟩:=M
 unfold Jo at H0
 nofun
 refine nh G (.mk i tm ix rd fm mx mn xs H0 S l i0 fi) λb1 h1 M1 m1=> ?_
 have H1:=m1.get H (G 1 rfl) rfl
 have md:=Mod.at (S:= [1,2,3]) (k:=1) (h:=h1) G rfl rfl
 have m2:=m1.mono (U:= [1,2,3]) rfl
 nofun
 refine bH (λJ=> ?_) λJ=> ?_
 ·nofun
  refine cu H1 rfl ?_
  nofun
  exact q _ (.mk _ _ st _ cr (aa ..) b w rfl m c t o (aY no rfl) (.inr ⟨_,rfl⟩) g (M1.mod G (Mod.at (S:= [1]) G rfl rfl _) rfl rfl)) (m2.trans (md _))
 ·nofun
  exact q _ (.mk _ _ st _ cr H1 b w s m c t o no (.inl rfl) g M1) m2
inductive KJ (R D:Nat->Nat)(h:H):Prop
 |mk (bm bt:Int) (ev pt:V) (H:h (R 4)=some (.ins Ka (D 4) (DQ [(AV,.int 1280),(D1,.int bm),(D9,.int bt),(D8,ev),(ER,pt)]))):KJ R D h
def vz {cw:Int}(b:cw.natAbs < 1073741824):(if 2*1280 < (if 16*1280 < Int.fdiv cw 4 then 16*1280 else Int.fdiv cw 4) then(if 16*1280 < Int.fdiv cw 4 then 16*1280 else Int.fdiv cw 4) else 2*1280).natAbs < 2 ^ 64:=by
 generalize Int.fdiv cw 4=x
 split <;> split <;> omega
def pZ {cw sm:Int}(G:A9 T R)(P:KJ R D h)(hc:cw≠0/\cw.natAbs < 1073741824)(q:∀ h',KJ R D h'->Mod T [4] h h'->Q .none h'):Bp (n+1) J0 [.ref (R 4)] [(Ay,.int cw),(Ep,.int sm)] Q h:=by
 obtain⟨bm,bt,ev,pt,H⟩:=P
 refine ay (d:=JZ) (b:=JY) rfl ⟨rfl,rfl,rfl,rfl,rfl,rfl⟩ ?_
 have md:=Mod.at (S:= [4]) (k:=4) (h:=h) G rfl rfl
 have hb:=vz hc.2
 refine aD ?_
 nofun
 refine aE H rfl ?_
 nofun
 refine aT rfl ?_
 nofun
 refine a9 (λJ=> ?_) λJ=> ?_
 ·nofun
  refine aT rfl ?_
  nofun
  exact q _ (.mk _ _ _ _ (aa ..)) (md _)
 ·nofun
  exact q _ (.mk _ _ _ _ (aa ..)) (md _)
end
structure FI where
 Bc:Bool
 valid:Bool
 tries:Int
 fs:Int
 guess:Int
 ini:Bool
 AR:Int
 CI:Option Int
 Cd:Int
 var:Int
 last:Int
def Fr (o:Option Int):V:=match o with |some i=> .int i|none=> .none
def Xu (R:Nat->Nat)(r:FI):List (Nat×V):= [(A5,.bool r.Bc),(D5,.int 25000),(AG,.bool r.valid),(Cn,.ref (R 20)),(Fa,.lam 0 (R 7)),(EA,.lam 1 (R 6)),(Dq,.int r.tries),(BC,.int r.fs),(EN,.int r.guess),(Bs,.bool r.ini),(A0,.int r.AR),(BW,Fr r.CI),(Be,.int r.Cd),(BG,.int r.var),(A1,.int r.last),(Dj,.ref (R 1)),(Gi,.ref (R 4))]
abbrev Ld (R:Nat->Nat)(r:FI):Nat->Option V:=DQ (Xu R r)
inductive EQ (R D:Nat->Nat)(k:Nat)(cnt top:Int)(Ap:Option Int)(h:H):Prop
 |mk (aq rp:V) (H:h (R (k+8))=some (.ins CO (D (k+8)) (DQ [(Jp,.none),(Jw,aq),(Jx,.bool false),(D2,.int 0),(AO,.bool (Nat.beq k 2)),(DX,.int (-1)),(Eg,.none),(FP,rp),(Ax,.int cnt),(BE,.int top),(Cr,Fr Ap),(Bi,.ref (R (k+11)))]))):EQ R D k cnt top Ap h
inductive K2 (R:Nat->Nat)(k:Nat)(rs:List Aj)(h:H):Prop
 |mk (ep:Nat) (H:h (R (k+11))=some (.BM ep (rs.map λr=>(r.num,.ref r.p)))):K2 R k rs h
structure Bz where
 r:FI
 bf:Int
 A:Int
 cnt:Nat->Int
 top:Nat->Int
 Ap:Nat->Option Int
 Ar:Nat->List Aj
 told:List V
 pr:Nat
structure Bb (T R D:Nat->Nat)(X:Bz)(h:H):Prop where
 rc:h (R 5)=some (.ins DE (D 5) (Ld R X.r))
 cc:EB R D X.bf X.A h
 Ea:KJ R D h
 sp:∀ k,k < 3->EQ R D k (X.cnt k) (X.top k) (X.Ap k) h
 dd:∀ k,k < 3->K2 R k (X.Ar k) h
 GV:h (R 20)=some (.lst ([0,1,2].map λk=> .ref (R (k+8))))
 told:h (R 6)=some (.lst X.told)
 pr:∃ l:List V,l.length=X.pr/\h (R 7)=some (.lst l)
 pk:∀ k,k < 3->∀ r∈X.Ar k,Em T r h
section
variable {n:Nat}{R D T:Nat->Nat}{S:List Nat}{h h':H}{X Y:Bz}{Q:V->H->Prop}
theorem EB.mod {bf A:Int}(G:A9 T R)(x:Mod T S h h')(e1:AM 1 S=false)(e2:AM 2 S=false)(e3:AM 3 S=false)(C:EB R D bf A h):EB R D bf A h':=by
 obtain⟨f,cw,st,ss,cr,H,b,w,s,m,c,t,o,no,si,g,M⟩:=C
 exact .mk f cw st ss cr (x.get H (G 1 rfl) e1) b w s m c t o no si g (M.mod G x e2 e3)
theorem KJ.mod (G:A9 T R)(x:Mod T S h h')(e:AM 4 S=false)(C:KJ R D h):KJ R D h':=by
 obtain⟨a,b,c,d,H⟩:=C
 exact .mk a b c d (x.get H (G 4 rfl) e)
def dU {k:Nat}(b:k < 3):AM (k+8) TW=true/\AM (k+11) TW=true:=match k,b with
 |0,_=>⟨rfl,rfl⟩|1,_=>⟨rfl,rfl⟩|2,_=>⟨rfl,rfl⟩|k+3,b=>absurd b (Nat.not_lt.mpr (Nat.le_add_left 3 k))
theorem EQ.mod {k:Nat}{cnt top:Int}{Ap:Option Int}(G:A9 T R)(x:Mod T S h h')(b:k < 3)(e:AM (k+8) S=false)(C:EQ R D k cnt top Ap h):EQ R D k cnt top Ap h':=by
 obtain⟨a,b',H⟩:=C
 exact .mk a b' (x.get H (G _ (dU b).1) e)
theorem K2.mod {k:Nat}{rs:List Aj}(G:A9 T R)(x:Mod T S h h')(b:k < 3)(e:AM (k+11) S=false)(C:K2 R k rs h):K2 R k rs h':=by
 obtain⟨a,H⟩:=C
 exact .mk a (x.get H (G _ (dU b).2) e)
theorem Bb.mod (G:A9 T R)(x:Mod T S h h')(e:S.all (λk=>AM k [0,14,15,16,17,18,19,21])=true)(Z:Bb T R D X h):Bb T R D X h':=by
 have nn:∀ k,AM k [0,14,15,16,17,18,19,21]=false->AM k S=false:=λk z=>by
  cases q:AM k S with
  |false=>rfl
  |true=>have :=List.all_eq_true.mp e k (aO.mp q);rw[this] at z;cases z
 have n3:∀ k,k < 3->AM (k+8) S=false/\AM (k+11) S=false:=λk b=>match k,b with
  |0,_=>⟨nn 8 rfl,nn 11 rfl⟩|1,_=>⟨nn 9 rfl,nn 12 rfl⟩|2,_=>⟨nn 10 rfl,nn 13 rfl⟩|k+3,b=>absurd b (Nat.not_lt.mpr (Nat.le_add_left 3 k))
 exact⟨x.get Z.rc (G 5 rfl) (nn 5 rfl),Z.cc.mod G x (nn 1 rfl) (nn 2 rfl) (nn 3 rfl),Z.Ea.mod G x (nn 4 rfl),λk b=>(Z.sp k b).mod G x b (n3 k b).1,λk b=>(Z.dd k b).mod G x b (n3 k b).2,x.get Z.GV (G 20 rfl) (nn 20 rfl),x.get Z.told (G 6 rfl) (nn 6 rfl),
  let⟨l,a,b⟩:=Z.pr;⟨l,a,x.get b (G 7 rfl) (nn 7 rfl)⟩,λk b r m=>(Z.pk k b r m).mod x (nn 22 rfl)⟩
theorem Bb.P9 {bf A:Int}(G:A9 T R)(x:Mod T [1,2,3] h h')(Z:Bb T R D X h)(C:EB R D bf A h'):Bb T R D { X with bf:=bf,A:=A } h':=
 have n3:∀ k,k < 3->AM (k+8) [1,2,3]=false/\AM (k+11) [1,2,3]=false:=λk b=>match k,b with
  |0,_=>⟨rfl,rfl⟩|1,_=>⟨rfl,rfl⟩|2,_=>⟨rfl,rfl⟩|k+3,b=>absurd b (Nat.not_lt.mpr (Nat.le_add_left 3 k))
 ⟨x.get Z.rc (G 5 rfl) rfl,C,Z.Ea.mod G x rfl,λk b=>(Z.sp k b).mod G x b (n3 k b).1,λk b=>(Z.dd k b).mod G x b (n3 k b).2,x.get Z.GV (G 20 rfl) rfl,x.get Z.told (G 6 rfl) rfl,
  let⟨l,a,b⟩:=Z.pr;⟨l,a,x.get b (G 7 rfl) rfl⟩,λk b r m=>(Z.pk k b r m).mod x rfl⟩
theorem Bb.XK {r:FI}(G:A9 T R)(x:Mod T [5] h h')(Z:Bb T R D X h)(H:h' (R 5)=some (.ins DE (D 5) (Ld R r))):Bb T R D { X with r:=r } h':=
 ⟨H,Z.cc.mod G x rfl rfl rfl,Z.Ea.mod G x rfl,λk b=>(Z.sp k b).mod G x b rfl,λk b=>(Z.dd k b).mod G x b rfl,x.get Z.GV (G 20 rfl) rfl,x.get Z.told (G 6 rfl) rfl,let⟨l,a,b⟩:=Z.pr;⟨l,a,x.get b (G 7 rfl) rfl⟩,λk b r m=>(Z.pk k b r m).mod x rfl⟩
theorem Bb.U8 (G:A9 T R)(x:Mod T [4] h h')(Z:Bb T R D X h)(C:KJ R D h'):Bb T R D X h':=
 ⟨x.get Z.rc (G 5 rfl) rfl,Z.cc.mod G x rfl rfl rfl,C,λk b=>(Z.sp k b).mod G x b rfl,λk b=>(Z.dd k b).mod G x b rfl,x.get Z.GV (G 20 rfl) rfl,x.get Z.told (G 6 rfl) rfl,let⟨l,a,b⟩:=Z.pr;⟨l,a,x.get b (G 7 rfl) rfl⟩,λk b r m=>(Z.pk k b r m).mod x rfl⟩
theorem Bb.TF {l:List V}(G:A9 T R)(x:Mod T [6] h h')(Z:Bb T R D X h)(C:h' (R 6)=some (.lst l)):Bb T R D { X with told:=l } h':=
 ⟨x.get Z.rc (G 5 rfl) rfl,Z.cc.mod G x rfl rfl rfl,Z.Ea.mod G x rfl,λk b=>(Z.sp k b).mod G x b rfl,λk b=>(Z.dd k b).mod G x b rfl,x.get Z.GV (G 20 rfl) rfl,C,let⟨l,a,b⟩:=Z.pr;⟨l,a,x.get b (G 7 rfl) rfl⟩,λk b r m=>(Z.pk k b r m).mod x rfl⟩
theorem Bb.TC {l:List V}(G:A9 T R)(x:Mod T [7] h h')(Z:Bb T R D X h)(C:h' (R 7)=some (.lst l)):Bb T R D { X with pr:=l.length } h':=
 ⟨x.get Z.rc (G 5 rfl) rfl,Z.cc.mod G x rfl rfl rfl,Z.Ea.mod G x rfl,λk b=>(Z.sp k b).mod G x b rfl,λk b=>(Z.dd k b).mod G x b rfl,x.get Z.GV (G 20 rfl) rfl,x.get Z.told (G 6 rfl) rfl,⟨l,rfl,C⟩,λk b r m=>(Z.pk k b r m).mod x rfl⟩
def lV {j k c:Nat}(n:j≠k):AM (j+c) [k+c]=false:=by
 show cond (Nat.beq (j+c) (k+c)) true false=false
 rw[show Nat.beq (j+c) (k+c)=false from Bool.eq_false_iff.mpr λe=>n (Nat.add_right_cancel (Nat.eq_of_beq_eq_true e))];rfl
def tL {j k:Nat}(b:j < 3):AM (j+8) [k+11]=false:=match j,b with
 |0,_=>rfl|1,_=>rfl|2,_=>rfl|j+3,b=>absurd b (Nat.not_lt.mpr (Nat.le_add_left 3 j))
def mR {j k:Nat}(b:k < 3):AM (j+11) [k+8]=false:=match k,b with
 |0,_=>rfl|1,_=>rfl|2,_=>rfl|k+3,b=>absurd b (Nat.not_lt.mpr (Nat.le_add_left 3 k))
def bR {k:Nat}(b:k < 3):(AM 20 [k+8]=false/\AM 22 [k+8]=false)/\AM 20 [k+11]=false/\AM 22 [k+11]=false:=match k,b with
 |0,_=>⟨⟨rfl,rfl⟩,rfl,rfl⟩|1,_=>⟨⟨rfl,rfl⟩,rfl,rfl⟩|2,_=>⟨⟨rfl,rfl⟩,rfl,rfl⟩|k+3,b=>absurd b (Nat.not_lt.mpr (Nat.le_add_left 3 k))
theorem Bb.TD {k:Nat}{cnt top:Int}{Ap:Option Int}(G:A9 T R)(b:k < 3)(x:Mod T [k+8] h h')(Z:Bb T R D X h)(C:EQ R D k cnt top Ap h'):Bb T R D { X with cnt:=Ad X.cnt k cnt,top:=Ad X.top k top,Ap:=Ad X.Ap k Ap } h':=
 ⟨x.get Z.rc (G 5 rfl) rfl,Z.cc.mod G x rfl rfl rfl,Z.Ea.mod G x rfl,λj b'=>by
  by_cases e:j=k
  ·subst e;dsimp only;rw[aa,aa,aa];exact C
  ·dsimp only;rw[ab _ _ e,ab _ _ e,ab _ _ e];exact(Z.sp j b').mod G x b' (lV e),λj b'=>(Z.dd j b').mod G x b' (mR b),x.get Z.GV (G 20 rfl) (bR b).1.1,x.get Z.told (G 6 rfl) rfl,let⟨l,a,b⟩:=Z.pr;⟨l,a,x.get b (G 7 rfl) rfl⟩,λj b' r m=>(Z.pk j b' r m).mod x (bR b).1.2⟩
theorem Bb.Tl {k:Nat}{rs:List Aj}(G:A9 T R)(b:k < 3)(x:Mod T [k+11] h h')(Z:Bb T R D X h)(C:K2 R k rs h')(P:∀ r∈rs,Em T r h):Bb T R D { X with Ar:=Ad X.Ar k rs } h':=
 ⟨x.get Z.rc (G 5 rfl) rfl,Z.cc.mod G x rfl rfl rfl,Z.Ea.mod G x rfl,λj b'=>(Z.sp j b').mod G x b' (tL b'),λj b'=>by
  by_cases e:j=k
  ·subst e;dsimp only;rw[aa];exact C
  ·dsimp only;rw[ab _ _ e];exact(Z.dd j b').mod G x b' (lV e),x.get Z.GV (G 20 rfl) (bR b).2.1,x.get Z.told (G 6 rfl) rfl,let⟨l,a,b⟩:=Z.pr;⟨l,a,x.get b (G 7 rfl) rfl⟩,λj b' r m=>by
  by_cases e:j=k
  ·subst e;dsimp only at m;rw[aa] at m;exact(P r m).mod x (bR b).2.2
  ·dsimp only at m;rw[ab _ _ e] at m;exact(Z.pk j b' r m).mod x (bR b).2.2⟩
def bq {α:Type}(f:Nat->α)(k:Nat):Ad f k (f k)=f:=by
 funext x
 by_cases e:x=k
 ·subst e;rw[aa]
 ·rw[ab _ _ e]
theorem Bb.Sv {k:Nat}{cnt:Int}(G:A9 T R)(b:k < 3)(x:Mod T [k+8] h h')(Z:Bb T R D X h)(C:EQ R D k cnt (X.top k) (X.Ap k) h'):Bb T R D { X with cnt:=Ad X.cnt k cnt } h':=by
 have :=Z.TD G b x C
 rw[bq,bq] at this;exact this
theorem Bb.SP {k:Nat}{top:Int}(G:A9 T R)(b:k < 3)(x:Mod T [k+8] h h')(Z:Bb T R D X h)(C:EQ R D k (X.cnt k) top (X.Ap k) h'):Bb T R D { X with top:=Ad X.top k top } h':=by
 have :=Z.TD G b x C
 rw[bq,bq] at this;exact this
theorem Bb.LO {k:Nat}{Ap:Option Int}(G:A9 T R)(b:k < 3)(x:Mod T [k+8] h h')(Z:Bb T R D X h)(C:EQ R D k (X.cnt k) (X.top k) Ap h'):Bb T R D { X with Ap:=Ad X.Ap k Ap } h':=by
 have :=Z.TD G b x C
 rw[bq,bq] at this;exact this
abbrev ES:List Nat:= [1,2,3,4,5,6,7,8,9,10,11,12,13]
def fq {k:Nat}(b:k < 3): [k+8].all (AM · ES)=true/\ [k+11].all (AM · ES)=true:=match k,b with
 |0,_=>⟨rfl,rfl⟩|1,_=>⟨rfl,rfl⟩|2,_=>⟨rfl,rfl⟩|k+3,b=>absurd b (Nat.not_lt.mpr (Nat.le_add_left 3 k))
def J4 (r:FI)(b:Bool):Int:=match r.ini with
 |false=>2*r.guess
 |true=>match b with
  |true=>r.Cd+(if 4*r.var < 1000 then 1000 else 4*r.var)+25000
  |false=>r.Cd+(if 4*r.var < 1000 then 1000 else 4*r.var)
def p8 {r:FI}{b:Bool}{e:AZ}(es:e Ac=some (.ref (R 5)))(ei:e Bm=some (.bool b))(H:h (R 5)=some (.ins DE (D 5) (Ld R r)))(q:Q (.int (J4 r b)) h):Ed (Bp n) e (Dp Q) h:=by
 unfold J4 at q
 refine aD ?_
 nofun
 refine dJ (bH (λc=> ?_) λc=> ?_) <;> rw[c] at q
 ·nofun
  cases b with
  |true=>
   nofun
   exact q
  |false=>
   nofun
   exact q
 ·nofun
  exact q
def jM {r:FI}{b:Bool}(H:h (R 5)=some (.ins DE (D 5) (Ld R r)))(q:Q (.int (J4 r b)) h):Bp (n+1) FA [.ref (R 5)] [(Bm,.bool b)] Q h:=
 ay (d:=Fy) (b:=Ed) rfl ⟨rfl,rfl,rfl,rfl,rfl,rfl⟩ (p8 rfl rfl H q)
def jL {r:FI}(H:h (R 5)=some (.ins DE (D 5) (Ld R r)))(q:Q (.int (J4 r true)) h):Bp (n+1) FA [.ref (R 5)] [] Q h:=
 ay (d:=Fy) (b:=Ed) rfl ⟨rfl,rfl,rfl,rfl,rfl,rfl⟩ (p8 rfl rfl H q)
end
def RL (R:Nat->Nat)(o:Option Nat):V:=match o with |some k=> .ref (R (k+8))|none=> .none
def GO (Ap:Nat->Option Int)(o:Option Nat)(k:Nat):Option Nat:=match Ap k with
 |none=>o
 |some x=>match o with
  |none=>some k
  |some j=>match Ap j with
   |none=>o
   |some y=>if x < y then some k else o
def D0 (Ap:Nat->Option Int):Option Nat:= [0,1,2].foldl (GO Ap) none
def NP (Ap:Nat->Option Int)(D:List Nat):Option Nat->Prop
 |none=>∀ j∈D,Ap j=none
 |some k=>k∈D/\∃ m,Ap k=some m/\∀ j∈D,∀ y,Ap j=some y->m<=y/\(j < k->m < y)
theorem NP.step {Ap:Nat->Option Int}{D:List Nat}{o:Option Nat}{k:Nat}(i:NP Ap D o)(b:∀ j∈D,j < k):NP Ap (D++ [k]) (GO Ap o k):=by
 unfold GO
 have mem:∀ {j},j∈D++ [k]->j∈D\/j=k:=λm=>(List.mem_append.mp m).imp id List.mem_singleton.mp
 cases e:Ap k with
 |none=>
  dsimp only
  cases o with
  |none=>exact λj m=>(mem m).elim (i j) λz=>z▸e
  |some j0=>
   obtain⟨m0,m,e1,i⟩:=i
   exact⟨List.mem_append_left _ m0,m,e1,λj mj y ey=>(mem mj).elim (λz=>i j z y ey) λz=>by rw[z,e] at ey;cases ey⟩
 |some x=>
  dsimp only
  cases o with
  |none=>exact⟨List.mem_append_right _ (.head _),x,e,λj mj y ey=>(mem mj).elim (λz=>by rw[i j z] at ey;cases ey) λz=>by rw[z,e] at ey;cases ey;exact⟨Int.le_refl _,λq=>absurd q (by rw[z];exact Nat.lt_irrefl _)⟩⟩
  |some j0=>
   obtain⟨m0,m,e1,i⟩:=i
   show NP Ap (D++ [k]) (match Ap j0 with |none=>some j0|some y=>if x < y then some k else some j0)
   rw[e1]
   show NP Ap (D++ [k]) (if x < m then some k else some j0)
   by_cases c:x < m
   ·rw[if_pos c]
    exact⟨List.mem_append_right _ (.head _),x,e,λj mj y ey=>(mem mj).elim (λz=>⟨Int.le_of_lt (Int.lt_of_lt_of_le c (i j z y ey).1),λJ=>Int.lt_of_lt_of_le c (i j z y ey).1⟩) λz=>by rw[z,e] at ey;cases ey;exact⟨Int.le_refl _,λq=>absurd q (by rw[z];exact Nat.lt_irrefl _)⟩⟩
   ·rw[if_neg c]
    exact⟨List.mem_append_left _ m0,m,e1,λj mj y ey=>(mem mj).elim (λz=>i j z y ey) λz=>by rw[z,e] at ey;cases ey;exact⟨Int.not_lt.mp c,λq=>absurd q (by rw[z];exact Nat.not_lt.mpr (Nat.le_of_lt (b _ m0)))⟩⟩
def bF (Ap:Nat->Option Int):NP Ap [0,1,2] (D0 Ap):=
 (((show NP Ap [] none from λJ m=>nomatch m).step (k:=0) λJ m=>nomatch m).step (k:=1) (by decide)).step (k:=2) (by decide)
def d4 {k:Nat}(m:k∈ [0,1,2]):k < 3:=by
 cases m with
 |head=>decide
 |tail _ m=>cases m with
  |head=>decide
  |tail _ m=>cases m with
   |head=>decide
   |tail _ m=>cases m
section
variable {n:Nat}{R D T:Nat->Nat}{S:List Nat}{h h':H}{X Y:Bz}{Q:V->H->Prop}
def pY (G:A9 T R)(Z:Bb T R D X h)(q:Q (RL R (D0 X.Ap)) h):Bp (n+1) Ih [.ref (R 5)] [] Q h:=by
 have H5:=Z.rc
 have H20:=Z.GV
 refine ay (d:=Ig) (b:=Ie) rfl ⟨rfl,rfl,rfl,rfl,rfl,rfl⟩ ?_
 refine aD ?_
 nofun
 refine aU (f:=λk=>V.ref (R (k+8))) (λr e h'=>h'=h/\∃ o,e CZ=some (RL R o)/\r.foldl (GO X.Ap) o=D0 X.Ap/\(∀ k∈r,k < 3)/\∀ j,o=some j->j < 3/\X.Ap j≠none) (λr e h' i=>by rw[i.1];exact au H20) aB (λk r e h' i kk hk=> ?_) (λe h' i=> ?_) [0,1,2] _ _ ⟨rfl,none,rfl,rfl,λJ=>d4,λJ z=>nomatch z⟩
 ·obtain⟨rfl,o,e1,f1,b1,b2⟩:=i
  have hk:=λe' o' a b c=>hk e' h' ⟨rfl,o',a,b,λk m=>b1 k (.tail _ m),c⟩
  have bk:=b1 k (.head _)
  obtain⟨aq,rp,Hk⟩:=Z.sp k bk
  have f1:r.foldl (GO X.Ap) (GO X.Ap o k)=D0 X.Ap:=f1
  unfold GO at f1
  generalize hl:X.Ap k=DQ at Hk f1
  cases DQ with
  |none=>
   unfold Fr at Hk
   nofun
   exact hk _ o e1 f1 b2
  |some x=>
   unfold Fr at Hk
   cases o with
   |none=>
    unfold RL at e1
    nofun
    exact hk _ (some k) rfl f1 λj z=>by cases z;exact⟨bk,by rw[hl];exact λz=>nomatch z⟩
   |some j=>
    obtain⟨aq',rp',Hj⟩:=Z.sp j (b2 j rfl).1
    dsimp only at f1
    generalize hl':X.Ap j=lj at Hj f1
    cases lj with
    |none=>exact absurd hl' (b2 j rfl).2
    |some y=>
     unfold Fr at Hj
     unfold RL at e1
     nofun
     refine a9 (λc=> ?_) λc=> ?_
     ·nofun
      dsimp only at f1
      rw[if_pos c] at f1
      exact hk _ (some k) rfl f1 λj z=>by cases z;exact⟨bk,by rw[hl];exact λz=>nomatch z⟩
     ·nofun
      dsimp only at f1
      rw[if_neg (Int.not_lt.mpr c)] at f1
      exact hk _ (some j) e1 f1 b2
 ·obtain⟨rfl,o,e1,f1,b1⟩:=i
  nofun
  have f1:o=D0 X.Ap:=f1
  rw[f1]
  exact q
def Ra (c a:Bool)(k t:Int):Int:=cond (c|| !a) (k+t) t
def NS (X:Bz):Int:=Ra X.r.Bc false (X.cnt 0) (Ra X.r.Bc false (X.cnt 1) (Ra X.r.Bc true (X.cnt 2) 0))
def Ty (X:Bz)(limited:Bool):Option Int:=match D0 X.Ap with
 |some k=>X.Ap k
 |none=>cond limited none (cond (!X.r.valid||NS X !=0) (some (X.r.last+J4 X.r X.r.Bc*2 ^ X.r.tries.toNat)) none)
def qa {t:Int}(b:0<=t/\t<=60):((2:Int) ^ t.toNat).natAbs < 2 ^ 64:=by
 rw[Int.natAbs_pow]
 exact Nat.pow_lt_pow_right (by decide) (by omega)
def vy {lim:Bool}(G:A9 T R)(Z:Bb T R D X h)(bt:0<=X.r.tries/\X.r.tries<=60)(q:Q (Fr (Ty X lim)) h):Bp (n+2) F1 [.ref (R 5)] [(Ef,.bool lim)] Q h:=by
 have H5:=Z.rc
 have H20:=Z.GV
 have H5':=H5
 refine ay (d:=FZ) (b:=FX) rfl ⟨rfl,rfl,rfl,rfl,rfl,rfl⟩ ?_
 refine aD ?_
 nofun
 refine pY G Z ?_
 unfold Ty at q
 generalize hk:D0 X.Ap=o at q
 cases o with
 |some k=>
  have i:=bF X.Ap
  rw[hk] at i
  obtain⟨m0,m,e1,-⟩:=i
  obtain⟨aq,rp,Hk⟩:=Z.sp k (d4 m0)
  unfold RL
  nofun
  exact q
 |none=>
  unfold RL
  nofun
  cases lim with
  |true=>
   nofun
   exact q
  |false=>
   nofun
   obtain⟨aq0,rp0,H0⟩:=Z.sp 0 (by decide)
   obtain⟨aq1,rp1,H1⟩:=Z.sp 1 (by decide)
   obtain⟨aq2,rp2,H2⟩:=Z.sp 2 (by decide)
   refine ae (a:= .ref (R 5)) rfl (ae (a:=X.r.Bc) ?_ (ae (a:=R 5) rfl (ae (bD H5) ⟨rfl,ae (a:=R 20) rfl (ae (au H20) (ae (a:=NS X) ?_ ?_))⟩)))
   ·unfold Ei;rw[show AT (V.ref (R 5)).ref? (λb=>AT (Ec h b) λi=>cond (AM A5 (own i.C)) (AT (i.f A5) V.bool?) none)=AT (Ec h (R 5)) λi=>cond (AM A5 (own i.C)) (AT (i.f A5) V.bool?) none from rfl,bD H5];rfl
   ·have bo:∀ (k:Nat) (f:Nat->Option V) (d:Nat) (b:Bool) (c:Int),h (R (k+8))=some (.ins CO d f)->f AO=some (.bool b)->f Ax=some (.int c)->Ei AO (.ref (R (k+8))) h=some b/\J6 Ax (.ref (R (k+8))) h=some c:=λk f d b c H f1 f2=>by
     unfold Ei J6
     show AT (Ec h (R (k+8))) _=_/\AT (Ec h (R (k+8))) _=_
     rw[bD H]
     show AT (f AO) _=_/\AT (f Ax) _=_
     rw[f1,f2];exact⟨rfl,rfl⟩
    have b0:=bo 0 _ _ _ _ H0 rfl rfl
    have b1:=bo 1 _ _ _ _ H1 rfl rfl
    have b2:=bo 2 _ _ _ _ H2 rfl rfl
    show AT (Ei AO (.ref (R (0+8))) h) (λa=>AT (J6 Ax (.ref (R (0+8))) h) λk=>AT (AT (Ei AO (.ref (R (1+8))) h) λa=>AT (J6 Ax (.ref (R (1+8))) h) λk=>AT (AT (Ei AO (.ref (R (2+8))) h) λa=>AT (J6 Ax (.ref (R (2+8))) h) λk=>AT (some 0) λt=>some (cond (X.r.Bc|| !a) (k+t) t)) λt=>some (cond (X.r.Bc|| !a) (k+t) t)) λt=>some (cond (X.r.Bc|| !a) (k+t) t))=_
    rw[b0.1,b0.2,b1.1,b1.2,b2.1,b2.2];rfl
   ·have hp:=qa bt
    have fin:(!X.r.valid||NS X !=0)=true->∀ e:AZ,e Ac=some (.ref (R 5))->Ak (Af (AA KX) (Ab CM (Bh (Aa Ac) B7 As (Aq Bm (Al (Aa Ac) A5) Az)) (Ab OX (Ag (.int 2)) (Al (Aa Ac) Dq))))
      (BZ (Ab BA (Al (Aa Ac) A1) (Aa KX))) (Bp (n+1)) e (EG (BZ (Ag .none)) (Bp (n+1)) (Dp Q)) h:=λc e es=>by
     nofun
     refine jM H5' ?_
     nofun
     refine pM ⟨rfl,bt⟩ ?_
     nofun
     rw[show cond false none (cond (!X.r.valid||NS X !=0) (some (X.r.last+J4 X.r X.r.Bc*2 ^ X.r.tries.toNat)) none)=some (X.r.last+J4 X.r X.r.Bc*2 ^ X.r.tries.toNat) by rw[c];rfl] at q
     exact q
    nofun
    refine dJ (bH (λc=> ?_) λc=> ?_)
    ·nofun
     refine bH (λc2=> ?_) λc2=> ?_
     ·exact fin (by rw[c,c2];rfl) _ (by rfl)
     ·nofun
      rw[c,c2] at q
      exact q
    ·exact fin (by rw[c];rfl) _ (by rfl)
end
section
variable {n:Nat}{R D T:Nat->Nat}{S:List Nat}{h h':H}{X Y:Bz}{Q:V->H->Prop}
def TS (v:V):Prop:=v= .none\/∃ i,v= .int i
def tO {v:V}{rs:List Aj}(Z:Bb T R D X h)(P:∀ r∈rs,Em T r h)(I:QG T [] h h v rs λJ=>true)(q:∀ b,Q (.bool b) h):Bp (n+2) Fe [.ref (R 5)] [(Bd,v)] Q h:=by
 have H5:=Z.rc
 have H5':=H5
 obtain⟨src,e,ok,st,it⟩:=I
 refine ay (d:=Fd) (b:=Fc) rfl ⟨rfl,rfl,rfl,rfl,rfl,rfl⟩ ?_
 refine aD ?_
 nofun
 refine dJ (bH (λJ=> ?_) λJ=> ?_)
 rotate_left
 ·nofun
  exact q _
 nofun
 refine jL H5' ?_
 nofun
 refine it _ ?_
 rw[e]
 refine dw (λJ=>true) (λr e h'=>h'=h/\e Ac=some (.ref (R 5))/\(∃ d,e HA=some (.int d))/\(∃ v,TS v/\e Cm=some v)/\(∃ v,TS v/\e Do=some v)/\∀ x∈r,x∈rs) (λr e h' i=>by rw[i.1];exact st _ (.refl _)) (λa r e h' i=>by rw[i.1];exact ok _ (.refl _) a (i.2.2.2.2.2 a (.head _))) (λa r e h' z i=>nomatch z) (λa r e h' z i k hk=> ?_) (λe h' i=> ?_) rs _ _ ⟨rfl,rfl,⟨_,rfl⟩,⟨.none,.inl rfl,rfl⟩,⟨.none,.inl rfl,rfl⟩,λJ m=>m⟩
 rotate_left
 ·obtain⟨rfl,-⟩:=i
  nofun
  exact q _
 obtain⟨rfl,es,⟨d,ed⟩,⟨pv,pn,ep⟩,⟨sv,sn,et⟩,sub⟩:=i
 obtain⟨⟨Pa,-⟩,-⟩:=P a (sub a (.head _))
 have no:∀ e',e' Ac=some (.ref (R 5))->e' HA=some (.int d)->(∃ v,TS v/\e' Cm=some v)->(∃ v,TS v/\e' Do=some v)->k e' h':=λe' a b c d=>hk e' h' ⟨rfl,a,⟨_,b⟩,c,d,λx m=>sub x (.tail _ m)⟩
 have go:∀ (e:AZ) (sv:V),TS sv->e Ac=some (.ref (R 5))->e Am=some (.ref a.p)->e HA=some (.int d)->e Do=some sv->Ak (Af (AA Cm) (Al (Aa Am) AH))
   (AS (Cp (An (Al (Aa Am) AB)) (An (Ab (Aw Gg) (Al (Aa Am) Bg) (Al (Aa Ac) BC)))) (AS (An (Ab F3 (Aa Do) (Ag .none))) (Af (AA Do) (Al (Aa Am) Bg)) (AS (An (Ab (Aw Gg) (Ab Cv (Al (Aa Am) Bg) (Aa Do)) (Aa HA))) (BZ (Ag (.bool true))) AN)) AN) (Bp (n+1)) e (Iq k (EG (BZ (Ag (.bool false))) (Bp (n+1)) (Dp Q))) h':=λe sv sn es ep ed et=>by
  nofun
  refine bH (λJ=> ?_) λJ=> ?_
  ·nofun
   refine a9 (λJ=> ?_) λJ=> ?_
   ·obtain rfl|⟨i,rfl⟩:=sn
    ·nofun
     exact no _ es ed ⟨_,.inr ⟨_,rfl⟩,rfl⟩ ⟨_,.inr ⟨_,rfl⟩,rfl⟩
    ·nofun
     refine a9 (λJ=> ?_) λJ=> ?_
     ·nofun
      exact q _
     ·nofun
      exact no _ es ed ⟨_,.inr ⟨_,rfl⟩,rfl⟩ ⟨_,.inr ⟨_,rfl⟩,et⟩
   ·nofun
    exact no _ es ed ⟨_,.inr ⟨_,rfl⟩,rfl⟩ ⟨_,sn,et⟩
  ·nofun
   exact no _ es ed ⟨_,.inr ⟨_,rfl⟩,rfl⟩ ⟨_,sn,et⟩
 nofun
 obtain rfl|⟨i,rfl⟩:=pn
 ·refine nZ (dY (bC (a8 ?_)))
  exact go _ _ sn es rfl ed et
 ·nofun
  refine sJ (λJ=> ?_) λJ=> ?_
  ·refine gS (bQ (a8 ?_))
   exact go _ _ (.inl rfl) es rfl ed rfl
  ·refine bC (a8 ?_)
   exact go _ _ sn es rfl ed et
def fk (i:Int):(Kw (1+Int.fmod i 2)).length<=2:=by
 have h1:=Int.fmod_lt_of_pos i (show(0:Int) < 2 by decide)
 unfold Kw
 rw[List.length_map,List.length_range]
 generalize Int.fmod i 2=j at h1
 omega
def iH {cf:Cc}{e:AZ}{Q:DJ->AZ->H->Prop}{s:Int}{r:Aj}{l:List V}{rho:FI}(G:A9 T R)(es:e Ac=some (.ref (R 5)))(ep:e Am=some (.ref r.p))(H5:h (R 5)=some (.ins DE (D 5) (Ld R rho)))(P:Em T r h)(H6:h (R 6)=some (.lst l))(b:l.length+2<=1000)
  (q:∀ e' h',By [DG,FM] e e'->h' (R 6)=some (.lst (l++I3 s r))->Mod T [6] h h'->Q .next e' h'):Ck (JI [DG,FM]) (Cx CY (Al (Aa Am) BN)) (Bx (Bh (Aa Ac) EA (Ah (Aa DG) (Ah (Ag (.int s)) (Ah (Aa FM) As))) Az)) cf e Q h:=by
 obtain⟨⟨P1,p2⟩,P3,p4⟩:=P
 have lb:=fk r.num
 unfold TY at P3
 unfold I3 at q
 generalize Kw (1+Int.fmod r.num 2)=ks at lb P3 q
 refine dS ?_
 nofun
 refine aU (f:=λk:Int=>V.tup [.int (10*r.num+k),.tup [.int r.sp,.int k]]) (λjs e' h'=>By [DG,FM] e e'/\Mod T [6] h h'/\∃ l',h' (R 6)=some (.lst l')/\l'++js.map (λk=>V.tup [.int (10*r.num+k),.int s,.tup [.int r.sp,.int k]])=l++ks.map (λk=>V.tup [.int (10*r.num+k),.int s,.tup [.int r.sp,.int k]])/\l'.length+js.length<=1000) (λjs e' h' i=>au (i.2.1.get P3 p4 rfl)) aB (λk js e' h' i kk hk=> ?_) (λe' h' i=> ?_) ks _ _ ⟨.refl _ _,.refl _,l,H6,rfl,by omega⟩
 ·obtain⟨k1,m1,l',H6',e1,b1⟩:=i
  have H5':=m1.get H5 (G 5 rfl) rfl
  have es':e' Ac=some (.ref (R 5)):=(k1 _ rfl).trans es
  rw[List.length_cons] at b1
  nofun
  refine pP H5' rfl ?_
  nofun
  refine wq H6' (Nat.lt_of_lt_of_le (show l'.length < 1000 by omega) (by decide)) ?_
  nofun
  refine hk _ _ ⟨(k1.set rfl).set rfl,m1.trans (.at G rfl rfl _),_,aa ..,by rw[<-e1,List.append_assoc];rfl,by rw[List.length_append];show l'.length+1+_<=_;omega⟩
 ·obtain⟨k1,m1,l',H6',e1,b1⟩:=i
  refine q _ _ k1 ?_ m1
  rw[<-e1,List.map_nil,List.append_nil];exact H6'
end
def CC (rs:List Aj)(x:Aj):Bool:=!(rs.any λr=>r.num==x.num)
def eZ (l:List Aj):l.filter (CC [])=l:=List.filter_eq_self.mpr λJ J=>rfl
def gP (a:Aj)(r l:List Aj):(l.filter λx=>x.num !=a.num).filter (CC r)=l.filter (CC (a::r)):=by
 rw[List.filter_filter]
 refine congrFun (congrArg _ (funext λx=> ?_)) _
 unfold CC
 rw[List.any_cons,Bool.not_or,bne_comm,Bool.and_comm];rfl
def aV (p:Aj->Bool)(a:Aj)(r:List Aj):(a::r).filter p=cond (p a) [a] []++r.filter p:=by
 rw[List.filter_cons];cases p a <;> rfl
def fG (p:Aj->Bool)(a:Aj)(r:List Aj):(((a::r).filter p).length:Int)=cond (p a) 1 0+((r.filter p).length:Int):=by
 rw[aV,List.length_append,Int.natCast_add];cases p a <;> rfl
def wg {acc l l':List Aj}{b:Bool}{a:Aj}(e:(acc++cond b [a] [])++l=l'):acc.length<=l'.length:=by
 rw[<-e,List.length_append,List.length_append];omega
def jz {x a b c:Nat}(z:AM x [a,b,c]=false):AM x [b,c]=false:=by
 have z:cond (Nat.beq x a) true (AM x [b,c])=false:=z
 cases e:Nat.beq x a with
 |true=>rw[e] at z;cases z
 |false=>rw[e] at z;exact z
def iF {x a b c:Nat}(z:AM x [a,b,c]=false):AM x [b]=false:=by
 have z:=jz z
 have z:cond (Nat.beq x b) true (AM x [c])=false:=z
 show cond (Nat.beq x b) true false=false
 cases e:Nat.beq x b with
 |true=>rw[e] at z;cases z
 |false=>rfl
def gN {l:List Aj}{a:Aj}(m:a∈l)(nd:(l.map Aj.num).Nodup):(l.map λr=>(r.num,V.ref r.p)).lookup a.num=some (.ref a.p):=by
 induction l with
 |nil=>exact absurd m List.not_mem_nil
 |cons b l ih=>
  rw[List.map_cons,List.lookup_cons]
  rw[List.map_cons,List.nodup_cons] at nd
  rcases List.mem_cons.mp m with rfl|m
  ·rw[beq_self_eq_true]
  ·rw[beq_eq_false_iff_ne.mpr λz=>nd.1 (by rw[<-z];exact List.mem_map_of_mem m)]
   exact ih m nd.2
def jh (l:List Aj)(k:Int):((l.map λr=>(r.num,V.ref r.p)).filter λp=>p.1 !=k)=(l.filter λx=>x.num !=k).map λr=>(r.num,V.ref r.p):=List.filter_map
def c7 {l:List Aj}(p:Aj->Bool)(nd:(l.map Aj.num).Nodup):((l.filter p).map Aj.num).Nodup:=List.Sublist.nodup (List.Sublist.map _ List.filter_sublist) nd
section
variable {n:Nat}{R D T:Nat->Nat}{S:List Nat}{h h' h0:H}{X Y:Bz}{Q:V->H->Prop}
def Mv (X:Bz)(k:Nat)(rs:List Aj)(s:Int):Bz:={ X with Ar:=Ad X.Ar k ((X.Ar k).filter (CC rs)),cnt:=Ad X.cnt k (X.cnt k - ((rs.filter Aj.asks).length:Int)),told:=X.told++rs.flatMap (I3 s) }
inductive Ta (T R D:Nat->Nat)(X:Bz)(k c:Nat)(rs r:List Aj)(h0 h':H):Prop
 |mk (s acc:List Aj) (t:List V) (ct:Int) (Z:Bb T R D { X with Ar:=Ad X.Ar k s,cnt:=Ad X.cnt k ct,told:=t } h') (m:Mod T ES h0 h') (hc:h' c=some (.lst (acc.map λr=> .ref r.p))) (tc:T c=0) (es:s.filter (CC r)=(X.Ar k).filter (CC rs)) (nd:(s.map Aj.num).Nodup) (sub:∀ x∈r,x∈s) (sub0:∀ x∈r,x∈rs) (nr:(r.map Aj.num).Nodup)
  (ea:acc++r.filter Aj.flight=rs.filter Aj.flight) (et:t++r.flatMap (I3 1)=X.told++rs.flatMap (I3 1)) (bt:t.length+2*r.length<=1000) (ec:ct - ((r.filter Aj.asks).length:Int)=X.cnt k - ((rs.filter Aj.asks).length:Int)):Ta T R D X k c rs r h0 h'
def b8 {k:Nat}{o:O}(G:A9 T R)(bk:k < 3):Mod T [k+11] h (Ad h (R (k+11)) (some o)):= .at G (dU bk).2 (aO.mpr (.head _)) _
theorem Bb.del {k ep:Nat}{a:Aj}{s:List Aj}{f:Nat->List Aj}{X:Bz}(G:A9 T R)(bk:k < 3)(Z:Bb T R D { X with Ar:=Ad f k s } h):Bb T R D { X with Ar:=Ad f k (s.filter λx=>x.num !=a.num) } (Ad h (R (k+11)) (some (.BM ep ((s.filter λx=>x.num !=a.num).map λr=>(r.num,.ref r.p))))):=by
 have Z1:=Z.Tl (rs:=s.filter λx=>x.num !=a.num) G bk (b8 G bk) (.mk ep (aa ..)) λr mr=>Z.pk k bk r (by show r∈Ad f k s k;rw[aa];exact(List.mem_filter.mp mr).1)
 dsimp only at Z1
 rw[cn] at Z1
 exact Z1
def vQ {cf:Cc}{e:AZ}{Q:DJ->AZ->H->Prop}{a:Aj}{c:Nat}{acc:List Aj}(ep:e Am=some (.ref a.p))(ec:e BH=some (.ref c))(P:Em T a h)(H:h c=some (.lst (acc.map λr=> .ref r.p)))(b:acc.length < 1000)(tc:T c=0)
  (q:∀ h',Mod T [0] h h'->(∀ U g,Mod T U g h->g c=none->Mod T U g h')->h' c=some (.lst ((acc++cond a.flight [a] []).map λr=> .ref r.p))->Q .next e h'):AS (An (Al (Aa Am) CE)) (Bx (JN (Aa BH) (Aa Am))) AN cf e Q h:=by
 obtain⟨⟨P,-⟩,-⟩:=P
 refine lN ?_
 nofun
 cases hf:a.flight with
 |true=>
  rw[hf] at q
  nofun
  refine fH H (by rw[List.length_map];exact Nat.lt_trans b (by decide)) ?_
  nofun
  refine q _ (.set (by rw[tc];rfl)) (λU g m z=>m.Vp z) ?_
  rw[aa,List.map_append];rfl
 |false=>
  rw[hf] at q
  nofun
  refine q _ (.refl _) (λU g m z=>m) ?_
  show h c=some (.lst ((acc++ []).map _))
  rw[List.append_nil];exact H
def vO {cf:Cc}{e:AZ}{Q:DJ->AZ->H->Prop}{a:Aj}{k:Nat}{cnt top:Int}{Ap:Option Int}(G:A9 T R)(bk:k < 3)(ep:e Am=some (.ref a.p))(es:e Ae=some (.ref (R (k+8))))(P:Em T a h)(C:EQ R D k cnt top Ap h)
  (q:∀ h',EQ R D k (cnt - cond a.asks 1 0) top Ap h'->Mod T [k+8] h h'->Q .next e h'):AS (An (Al (Aa Am) AB)) (EC Cv (Aa Ae) Ax (Ag (.int 1))) AN cf e Q h:=by
 have C0:=C
 obtain⟨⟨P,-⟩,-⟩:=P
 obtain⟨aq,rp,H⟩:=C
 refine lN ?_
 nofun
 cases hf:a.asks with
 |true=>
  rw[hf] at q
  nofun
  refine aE H rfl ?_
  nofun
  exact q _ (.mk aq rp (aa ..)) (.at G (dU bk).1 (aO.mpr (.head _)) _)
 |false=>
  rw[hf] at q
  nofun
  refine q _ ?_ (.refl _)
  rw[show cnt - cond false 1 0=cnt from Int.sub_zero cnt];exact C0
def mZ {e:AZ}{k:Nat}{v:V}{rs:List Aj}{ce pc:Bool}{now:Int}(G:A9 T R)(Z:Bb T R D X h)(L:DS T h)(bk:k < 3)(I:N7 T ES h v rs)(nd:((X.Ar k).map Aj.num).Nodup)(nr:(rs.map Aj.num).Nodup)(sub:∀ x∈rs,x∈X.Ar k)(bt:X.told.length+2*rs.length<=1000)(bA:X.A<=1000000)
  (e1:e Ac=some (.ref (R 5)))(e2:e Cy=some (.bool ce))(e3:e Av=some (.int now))(e4:e Bd=some v)(e5:e B9=some (.bool pc))(e6:e Ae=some (.ref (R (k+8))))
  (q:∀ h',Bb T R D { Mv X k rs 1 with bf:=X.bf - ((rs.filter Aj.flight).map Aj.sz).sum } h'->Mod T ES h h'->Q .none h'):Ee (Bp (n+1)) e (Dp Q) h:=by
 obtain⟨src,e0,ok,st,it⟩:=I
 refine aD ?_
 nofun
 intro c hc
 have tc:T c=0:=L.fresh hc
 have m0:Mod T ES h (Ad h c (some (.lst []))):= .new hc
 nofun
 refine it _ m0 _ ?_
 rw[e0]
 have Z0:Bb T R D { X with Ar:=Ad X.Ar k (X.Ar k),cnt:=Ad X.cnt k (X.cnt k),told:=X.told } (Ad h c (some (.lst []))):=by
  rw[bq,bq];exact Z.mod G (S:= []) (.new hc) rfl
 refine aU (λr e' h'=>By [Am,DG,FM] (Ad e BH (some (.ref c))) e'/\Ta T R D X k c rs r h h') (λr e' h' i=>by cases i.2 with |mk s acc t ct Z m=>exact st _ m) ok (λa r e' h' i kk hk=> ?_) (λe' h' i=> ?_) rs _ _ ⟨.refl _ _,.mk (X.Ar k) [] X.told (X.cnt k) Z0 m0 (aa ..) tc rfl nd sub (λJ m=>m) nr rfl rfl bt rfl⟩
 ·obtain⟨k1,i⟩:=i
  obtain⟨s,acc,t,ct,Z,m,hc',_,es,nd,sub,sub0,nr,ea,et,bt,ec⟩:=i
  have Pa:=Z.pk k bk a (by show a∈Ad X.Ar k s k;rw[aa];exact sub a (.head _))
  have Hs:=Z.sp k bk
  have Hd:=Z.dd k bk
  dsimp only at Hs Hd
  rw[aa] at Hs Hd
  have P1:=Pa.1.1
  obtain⟨aq,rp,Hs⟩:=Hs
  obtain⟨ep,Hd⟩:=Hd
  have f6:=(k1 Ae rfl).trans e6
  have fc:e' BH=some (.ref c):=k1 BH rfl
  nofun
  refine pR Hd (gN (sub a (.head _)) nd) λep'=> ?_
  rw[jh]
  have Z1:=Bb.del (X:={ X with cnt:=Ad X.cnt k ct,told:=t }) (f:=X.Ar) (s:=s) (a:=a) (ep:=ep') G bk Z
  have P2:=Pa.mod (b8 (o:= .BM ep' ((s.filter λx=>x.num !=a.num).map λr=>(r.num,.ref r.p))) (h:=h') G bk) (bR bk).2.2
  have m1:=m.trans ((b8 (o:= .BM ep' ((s.filter λx=>x.num !=a.num).map λr=>(r.num,.ref r.p))) (h:=h') G bk).mono (fq bk).2)
  have hc1:=(ab h' (some (.BM ep' ((s.filter λx=>x.num !=a.num).map λr=>(r.num,.ref r.p)))) (dy tc (G _ (dU bk).2) rfl)).trans hc'
  generalize Ad h' (R (k+11)) (some (.BM ep' ((s.filter λx=>x.num !=a.num).map λr=>(r.num,.ref r.p))))=h1 at Z1 P2 m1 hc1 ⊢
  have nd1:=c7 (λx=>x.num !=a.num) nd
  have es1:=(gP a r s).trans es
  have nr1:=List.nodup_cons.mp nr
  have sub1:∀ x∈r,x∈s.filter λx=>x.num !=a.num:=λx mx=>List.mem_filter.mpr ⟨sub x (.tail _ mx),bne_iff_ne.mpr λz=>nr1.1 (by rw[<-z];exact List.mem_map_of_mem mx)⟩
  generalize s.filter (λx=>x.num !=a.num)=s1 at Z1 nd1 es1 sub1
  iterate 2 eq_refl
  have blr:rs.length < 1000:=by omega
  have lr:(a::r).length=r.length+1:=List.length_cons
  rw[lr] at bt
  rw[aV,<-List.append_assoc] at ea
  rw[fG] at ec
  rw[List.flatMap_cons,<-List.append_assoc] at et
  refine vQ (e:=Ad e' Am (some (.ref a.p))) (acc:=acc) rfl fc P2 hc1 (Nat.lt_of_le_of_lt (Nat.le_trans (wg ea) (List.length_filter_le _ _)) blr) tc λh2 hh hm hc2=> ?_
  have Z2:=Z1.mod G hh rfl
  have P3:=P2.mod hh rfl
  have m2:=hm _ _ m1 hc
  clear hh hm hc1 m1 Z1 P2 m
  have Hs:=Z2.sp k bk
  dsimp only at Hs
  rw[aa] at Hs
  iterate 2 eq_refl
  refine vO (e:=Ad e' Am (some (.ref a.p))) G bk rfl f6 P3 Hs λh3 Hs3 m3=> ?_
  have Z3:=Z2.Sv G bk m3 (by exact Hs3)
  dsimp only at Z3
  rw[cn] at Z3
  have P4:=P3.mod m3 (bR bk).1.2
  have hc3:=m3.get hc2 tc rfl
  have m4:=m2.trans (m3.mono (fq bk).1)
  eq_refl
  refine iH (e:=Ad e' Am (some (.ref a.p))) G ((k1 Ac rfl).trans e1) rfl Z3.rc P4 (l:=t) Z3.told (by omega) λe4 h4 k4 H6 m5=> ?_
  have Z4:=Z3.TF G m5 H6
  refine hk _ _ ⟨?_,.mk s1 _ _ _ Z4 (m4.trans (m5.mono rfl)) (m5.get hc3 tc rfl) tc es1 nd1 sub1 (λx mx=>sub0 x (.tail _ mx)) nr1.2 ea et ?_ ?_⟩
  ·exact λx z=>by
    have z':=z
    rw[k4 x (by revert z;exact jz),ab,k1 x z']
    rintro rfl;cases z
  ·rw[List.length_append]
   have :(I3 1 a).length<=2:=by unfold I3;rw[List.length_map];exact fk _
   omega
  ·rw[<-ec];omega
 ·obtain⟨k1,i⟩:=i
  obtain⟨s,acc,t,ct,Z',m,hc',_,es,nd',sub',sub0,nr',ea,et,bt',ec⟩:=i
  rw[eZ] at es
  rw[show acc=rs.filter Aj.flight from(List.append_nil acc).symm.trans ea] at hc'
  rw[show t=X.told++rs.flatMap (I3 1) from(List.append_nil t).symm.trans et,es,show ct=X.cnt k - ((rs.filter Aj.asks).length:Int) from(Int.sub_zero ct).symm.trans ec] at Z'
  have Z':Bb T R D (Mv X k rs 1) h':=Z'
  have P:∀ x∈rs.filter Aj.flight,Em T x h':=λx mx=>(Z.pk k bk x (sub x (List.mem_filter.mp mx).1)).mod m rfl
  clear es nd' sub' sub0 nr' ea et bt' ec Z0 e0 ok st it
  have fc:e' BH=some (.ref c):=k1 BH rfl
  have f1:=(k1 Ac rfl).trans e1
  have f2:=(k1 Cy rfl).trans e2
  have f3:=(k1 Av rfl).trans e3
  have f5:=(k1 B9 rfl).trans e5
  have H5:=Z'.rc
  have C:=Z'.cc
  have Lc:N7 T ES h' (.ref c) (rs.filter Aj.flight):= .l hc' (by rw[tc];rfl)
  generalize rs.filter Aj.flight=fl at hc' P Lc q
  nofun
  cases fl with
  |nil=>
   nofun
   refine q _ ?_ m
   rw[show X.bf - (([]:List Aj).map Aj.sz).sum=X.bf from Int.sub_zero _];exact Z'
  |cons a fl=>
   nofun
   obtain⟨f,cw,st,ss,cr,H,b,w,s',m',c',t',o,no,si,g,M⟩:=C
   have C:EB R D X.bf X.A h':= .mk f cw st ss cr H b w s' m' c' t' o no si g M
   cases ce with
   |false=>
    nofun
    refine cY H (by exact(cR no rfl).trans rfl) ?_
    nofun
    refine jH G C P (Lc.R5 rfl) λh2 C2 m2=> ?_
    nofun
    rw[List.filter_eq_self.mpr λJ J=>rfl] at C2
    exact q _ (Z'.P9 G (m2.mono rfl) C2) (m.trans (m2.mono rfl))
   |true=>
    nofun
    refine cY H (by exact(cR no rfl).trans rfl) ?_
    nofun
    refine mT G C P (Lc.R5 rfl) λh2 C2 m2=> ?_
    have Z2:=Z'.P9 G (m2.mono rfl) C2
    have m3:=m.trans (m2.mono (U:=ES) rfl)
    clear C C2 H b w s' m' c' t' o no si g M
    have go:∀ h2,Bb T R D { Mv X k rs 1 with bf:=X.bf - ((a::fl).map Aj.sz).sum } h2->Mod T ES h h2->Bx (Bh (Al (Aa Ac) Gi) GF As (Aq Ay (Al (Al (Aa Ac) Dj) Ay) (Aq Ep (Al (Aa Ac) Be) Az))) (Bp (n+1)) e' (Dp Q) h2:=λh2 Z2 m3=>by
     have H5:=Z2.rc
     have C:=Z2.cc
     have Pc:=Z2.Ea
     obtain⟨f,cw,st,ss,cr,H,b,w,s',m',c',t',o,no,si,g,M⟩:=C
     obtain⟨bm,bt,ev,pt,H4⟩:=Pc
     nofun
     refine pZ G (.mk bm bt ev pt H4) (g.nz bA) λh3 P3 m4=> ?_
     nofun
     exact q _ (Z2.U8 G m4 P3) (m3.trans (m4.mono rfl))
    have H5:=Z2.rc
    nofun
    cases pc with
    |false=>
     iterate 3 eq_refl
     exact go _ Z2 m3
    |true=>
     have C:=Z2.cc
     obtain⟨f,cw,st,ss,cr,H,b,w,s',m',c',t',o,no,si,g,M⟩:=C
     nofun
     refine cY H (by exact(cR no rfl).trans rfl) ?_
     nofun
     refine mU G (.mk f cw st ss cr H b w s' m' c' t' o no si g M) λh3 C3 m4=> ?_
     iterate 2 eq_refl
     have Z4:=Z2.P9 G (m4.mono rfl) C3
     exact go _ Z4 (m3.trans (m4.mono rfl))
end
def EM (r:FI):Int:=Int.fdiv (9*cond r.ini (if r.AR < r.Cd then r.Cd else r.AR) r.guess) 8
def DF (top now dl:Int)(r:Aj):Bool:=decide (r.num<=top) && (decide (r.num<=top - 3)||decide (r.tm<=now - dl))
def Ez (top now dl:Int)(r:Aj):Bool:=decide (r.num<=top) && !(decide (r.num<=top - 3)||decide (r.tm<=now - dl))
def GP (dl:Int)(o:Option Int)(r:Aj):Option Int:=match o with
 |none=>some (r.tm+dl)
 |some y=>if r.tm+dl < y then some (r.tm+dl) else some y
def LK (X:Bz)(k:Nat)(now:Int):Bz:=
 { Mv { X with Ap:=Ad X.Ap k (((X.Ar k).filter (Ez (X.top k) now (EM X.r))).foldl (GP (EM X.r)) none) } k ((X.Ar k).filter (DF (X.top k) now (EM X.r))) 1 with bf:=X.bf - ((((X.Ar k).filter (DF (X.top k) now (EM X.r))).filter Aj.flight).map Aj.sz).sum }
structure Nn (N:Nat)(X:Bz):Prop where
 so:∀ k,k < 3->(X.Ar k).Pairwise λa b=>a.num < b.num
 bt:X.told.length<=N
 bl:∀ k,k < 3->(X.Ar k).length<=60
 bA:X.A<=1000000
def bz {l:List Aj}(s:l.Pairwise λa b=>a.num < b.num):(l.map Aj.num).Nodup:=by
 rw[List.Nodup,List.pairwise_map]
 exact s.imp λz e=>absurd e (Int.ne_of_lt z)
section
variable {n:Nat}{R D T:Nat->Nat}{S:List Nat}{h h' h0:H}{X Y:Bz}{Q:V->H->Prop}
def eX {k:Nat}{o:O}(G:A9 T R)(bk:k < 3):Mod T [k+8] h (Ad h (R (k+8)) (some o)):= .at G (dU bk).1 (aO.mpr (.head _)) _
inductive Sq (T R D:Nat->Nat)(X:Bz)(k c:Nat)(now:Int)(r:List Aj)(h0 h':H):Prop
 |mk (acc:List Aj) (o:Option Int) (Z:Bb T R D { X with Ap:=Ad X.Ap k o } h') (m:Mod T ES h0 h') (hc:h' c=some (.lst (acc.map λr=> .ref r.p))) (tc:T c=0) (ea:acc++r.filter (DF (X.top k) now (EM X.r))=(X.Ar k).filter (DF (X.top k) now (EM X.r)))
  (eo:(r.filter (Ez (X.top k) now (EM X.r))).foldl (GP (EM X.r)) o=((X.Ar k).filter (Ez (X.top k) now (EM X.r))).foldl (GP (EM X.r)) none) (so:r.Pairwise λa b=>a.num < b.num) (sub:∀ x∈r,x∈X.Ar k):Sq T R D X k c now r h0 h'
def iB {p:Aj->Bool}{l:List Aj}(z:∀ x∈l,p x=false):l.filter p= []:=List.filter_eq_nil_iff.mpr λx m e=>by rw[z x m] at e;cases e
def rI (d ep:Nat)(l:List Aj):(Lg d ep (l.map λr=>(r.num,V.ref r.p))).xs=l.map λr=>V.tup [.int r.num,.ref r.p]:=List.map_map
def rJ (d ep:Nat)(l:List Aj):(N4 d ep (l.map λr=>(r.num,V.ref r.p))).xs=l.map λr=>V.ref r.p:=List.map_map
def fQ {k:Nat}{cnt top:Int}{Ap o:Option Int}{v:V}{K:H->Prop}(G:A9 T R)(bk:k < 3)(C:EQ R D k cnt top Ap h)(e:v=Fr o)(q:∀ h',EQ R D k cnt top o h'->Mod T [k+8] h h'->K h'):Iv Cr (.ref (R (k+8))) v K h:=by
 obtain⟨aq,rp,H⟩:=C
 subst e
 exact aE H rfl (q _ (.mk aq rp (aa ..)) (eX G bk))
def jI {k:Nat}{now:Int}(G:A9 T R)(Z:Bb T R D X h)(L:DS T h)(bk:k < 3)(B:Nn 800 X)(q:∀ h',Bb T R D (LK X k now) h'->Mod T ES h h'->Q .none h'):
  Bp (n+3) Jd [.ref (R 5)] [(Av,.int now),(Ae,.ref (R (k+8)))] Q h:=by
 refine ay (d:=Ja) (b:=I7) rfl ⟨rfl,rfl,rfl,rfl,rfl,rfl⟩ ?_
 have H5:=Z.rc
 have Hs:=Z.sp k bk
 obtain⟨aq,rp,Hs⟩:=Hs
 refine aD ?_
 nofun
 refine sL (x:= .int (if X.r.AR < X.r.Cd then X.r.Cd else X.r.AR)) (y:= .int X.r.guess) (λQ q=> ?_) (λQ q=> ?_) ?_
 ·nofun
  exact q
 ·nofun
  exact q
 rw[show(bif X.r.ini then V.int (if X.r.AR < X.r.Cd then X.r.Cd else X.r.AR) else V.int X.r.guess)=V.int (cond X.r.ini (if X.r.AR < X.r.Cd then X.r.Cd else X.r.AR) X.r.guess) by cases X.r.ini <;> rfl]
 nofun
 intro c hc
 have tc:T c=0:=L.fresh hc
 have m0:Mod T ES h (Ad h c (some (.lst []))):= .new hc
 have Z0:=Z.mod G (S:= []) (h':=Ad h c (some (.lst []))) (.new hc) rfl
 have hc0:=aa h c (some (O.lst []))
 generalize Ad h c (some (.lst []))=h1 at m0 Z0 hc0 ⊢
 have C0:=Z0.sp k bk
 have Hs:=C0
 obtain⟨aq,rp,Hs⟩:=Hs
 nofun
 refine fQ (o:=none) G bk C0 rfl λh2 C2 m1=> ?_
 have Z1:=Z0.LO G bk m1 C2
 have hc1:=m1.get hc0 tc rfl
 have m2:=m0.trans (m1.mono (fq bk).1)
 clear Hs Z0 C0 C2 hc0 m0 m1
 have Hs:=Z1.sp k bk
 have Hd:=Z1.dd k bk
 dsimp only at Hs Hd
 rw[aa] at Hs
 obtain⟨aq,rp,Hs⟩:=Hs
 obtain⟨ep,Hd⟩:=Hd
 nofun
 generalize ee:Ad _ Cf _=e0
 have f1:e0 Ac=some (.ref (R 5)):=by rw[<-ee];rfl
 have f2:e0 Av=some (.int now):=by rw[<-ee];rfl
 have f3:e0 Ae=some (.ref (R (k+8))):=by rw[<-ee];rfl
 have f4:e0 Cf=some (.ref c):=by rw[<-ee];rfl
 have f5:e0 FO=some (.int (X.top k - 3)):=by rw[<-ee];rfl
 have f6:e0 Hf=some (.int (EM X.r)):=by rw[<-ee];rfl
 have f7:e0 Gr=some (.int (now - EM X.r)):=by rw[<-ee];rfl
 clear ee
 have fin:∀ e' h',By [AH,Am,Dn] e0 e'->Sq T R D X k c now [] h h'->Bx (Bh (Aa Ac) Df As (Aq Av (Aa Av) (Aq Bd (Aa Cf) (Aq B9 (Bh (Aa Ac) Dx As (Aq Bd (Aa Cf) Az)) (Aq Ae (Aa Ae) Az))))) (Bp (n+2)) e' (Dp Q) h':=λe' h' k1 i=>by
  obtain⟨acc,o,Z',m,hc',_,ea,eo,so,sub⟩:=i
  have ea:acc=(X.Ar k).filter (DF (X.top k) now (EM X.r)):=(List.append_nil acc).symm.trans ea
  have eo:o=((X.Ar k).filter (Ez (X.top k) now (EM X.r))).foldl (GP (EM X.r)) none:=eo
  have g1:=(k1 Ac rfl).trans f1
  have g2:=(k1 Av rfl).trans f2
  have g3:=(k1 Ae rfl).trans f3
  have g4:=(k1 Cf rfl).trans f4
  have H5:=Z'.rc
  have Lc:N7 T ES h' (.ref c) acc:= .l hc' (by rw[tc];rfl)
  have sub:∀ x∈acc,x∈X.Ar k:=λx mx=>by rw[ea] at mx;exact(List.mem_filter.mp mx).1
  have P:∀ x∈acc,Em T x h':=λx mx=>Z'.pk k bk x (sub x mx)
  nofun
  refine tO Z' P (Lc.R5 rfl) λb=> ?_
  nofun
  refine ay (d:=Fz) (b:=Ee) rfl ⟨rfl,rfl,rfl,rfl,rfl,rfl⟩ ?_
  refine mZ G Z' (m.alive L) bk Lc (bz (B.so k bk)) (by rw[ea];exact c7 _ (bz (B.so k bk))) sub ?_ B.bA (by rfl) (by rfl) (by rfl) (by rfl) (by rfl) (by rfl) λh2 Z2 m2=> ?_
  ·have :=B.bl k bk
   have :=B.bt
   have l:=List.length_filter_le (DF (X.top k) now (EM X.r)) (X.Ar k)
   rw[<-ea] at l
   show X.told.length+2*acc.length<=1000
   omega
  ·nofun
   rw[ea,eo] at Z2
   exact q _ Z2 (m.trans m2)
 rw[rI]
 refine aU (f:=λr:Aj=>V.tup [.int r.num,.ref r.p]) (λr e' h'=>By [AH,Am,Dn] e0 e'/\Sq T R D X k c now r h h'/\h' (R (k+11))=some (.BM ep ((X.Ar k).map λr=>(r.num,.ref r.p)))) (λr e' h' i=>bV i.2.2) aB (λa r e' h' i kk hk=> ?_) (λe' h' i=> ?_) (X.Ar k) _ _ ⟨.refl _ _,.mk [] none Z1 m2 hc1 tc rfl rfl (B.so k bk) λJ m=>m,Hd⟩
 rotate_left
 ·eq_refl
  exact fin _ _ i.1 i.2.1
 obtain⟨k1,i,Hd'⟩:=i
 obtain⟨acc,o,Z',m,hc',_,ea,eo,so,sub⟩:=i
 have Hs:=Z'.sp k bk
 dsimp only at Hs
 rw[aa] at Hs
 have C0:=Hs
 obtain⟨aq',rp',Hs⟩:=Hs
 have P:=Z'.pk k bk a (sub a (.head _))
 have P1:=P.1.1
 have g3:=(k1 Ae rfl).trans f3
 have g4:=(k1 Cf rfl).trans f4
 have g5:=(k1 FO rfl).trans f5
 have g6:=(k1 Hf rfl).trans f6
 have g7:=(k1 Gr rfl).trans f7
 have so2:=List.pairwise_cons.mp so
 have sub2:∀ x∈r,x∈X.Ar k:=λx mx=>sub x (.tail _ mx)
 have k2:By [AH,Am,Dn] e0 (Ad (Ad e' AH (some (.int a.num))) Am (some (.ref a.p))):=(k1.set rfl).set rfl
 nofun
 refine a9 (λc1=> ?_) λc1=> ?_
 ·nofun
  have no:∀ x∈a::r,decide (x.num<=X.top k)=false:=λx mx=>decide_eq_false (Int.not_le.mpr (by
   rcases List.mem_cons.mp mx with rfl|mx
   ·exact c1
   ·exact Int.lt_trans c1 (so2.1 x mx)))
  rw[iB λx mx=>by unfold DF;rw[no x mx];rfl] at ea
  rw[iB λx mx=>by unfold Ez;rw[no x mx];rfl] at eo
  exact fin _ _ k2 (.mk acc o Z' m hc' tc ea eo .nil λJ m=>nomatch m)
 rw[aV] at ea eo
 have hl:DF (X.top k) now (EM X.r) a=(decide (a.num<=X.top k - 3)||decide (a.tm<=now - EM X.r)):=by unfold DF;rw[decide_eq_true c1];rfl
 have hl2:Ez (X.top k) now (EM X.r) a= !(decide (a.num<=X.top k - 3)||decide (a.tm<=now - EM X.r)):=by unfold Ez;rw[decide_eq_true c1];rfl
 rw[hl] at ea
 rw[hl2] at eo
 clear hl hl2
 have hb:acc.length < 1000:=by
  have :=B.bl k bk
  have :=List.length_filter_le (DF (X.top k) now (EM X.r)) (X.Ar k)
  rw[<-ea,List.length_append] at this
  omega
 have los:(decide (a.num<=X.top k - 3)||decide (a.tm<=now - EM X.r))=true->Bx (JN (Aa Cf) (Aa Am)) (Bp (n+2)) (Ad (Ad e' AH (some (.int a.num))) Am (some (.ref a.p))) (Iq kk (EG (Bx (Bh (Aa Ac) Df As (Aq Av (Aa Av) (Aq Bd (Aa Cf) (Aq B9 (Bh (Aa Ac) Dx As (Aq Bd (Aa Cf) Az)) (Aq Ae (Aa Ae) Az)))))) (Bp (n+2)) (Dp Q))) h':=λz=>by
  rw[z] at ea eo
  nofun
  refine fH hc' (by rw[List.length_map];exact Nat.lt_trans hb (by decide)) ?_
  nofun
  exact hk _ _ ⟨k2,.mk (acc++ [a]) o (Z'.mod G (S:= [0]) (.set (by rw[tc];rfl)) rfl) (m.Vp hc) (by rw[aa,List.map_append];rfl) tc ((List.append_assoc ..).trans ea) eo so2.2 sub2,(ab _ _ (dy (G _ (dU bk).2) tc rfl)).trans Hd'⟩
 have set:(decide (a.num<=X.top k - 3)||decide (a.tm<=now - EM X.r))=false->∀ o',GP (EM X.r) o a=o'->∀ h2,EQ R D k (X.cnt k) (X.top k) o' h2->Mod T [k+8] h' h2->kk (Ad (Ad (Ad e' AH (some (.int a.num))) Am (some (.ref a.p))) Dn (some (.int (a.tm+EM X.r)))) h2:=λz o' eo' h2 C2 m3=>by
  rw[z] at ea eo
  have Z2:=Z'.LO G bk m3 (by exact C2)
  dsimp only at Z2
  rw[cn] at Z2
  exact hk _ _ ⟨k2.set rfl,.mk acc o' Z2 (m.trans (m3.mono (fq bk).1)) (m3.get hc' tc rfl) tc ea (by rw[<-eo'];exact eo) so2.2 sub2,m3.get Hd' (G _ (dU bk).2) (mR bk)⟩
 nofun
 refine dI (λc2=> ?_) λc2=> ?_
 ·eq_refl
  exact los (by rw[decide_eq_true c2];rfl)
 nofun
 refine dI (λc3=> ?_) λc3=> ?_
 ·exact los (by rw[decide_eq_true c3,Bool.or_true])
 have set:=set (by rw[decide_eq_false (Int.not_le.mpr c2),decide_eq_false (Int.not_le.mpr c3)];rfl)
 cases o with
 |none=>
  unfold Fr at Hs
  nofun
  refine fQ (o:=some (a.tm+EM X.r)) G bk C0 rfl λh2 C2 m3=> ?_
  nofun
  exact set _ rfl _ C2 m3
 |some y=>
  unfold Fr at Hs
  nofun
  refine a9 (λc4=> ?_) λc4=> ?_
  ·nofun
   refine fQ (o:=some (a.tm+EM X.r)) G bk C0 rfl λh2 C2 m3=> ?_
   nofun
   exact set _ (if_pos c4) _ C2 m3
  ·nofun
   exact set _ (if_neg (Int.not_lt.mpr c4)) _ C0 (.refl _)
end
def Hy (X:Bz)(k:Nat)(rs:List Aj):Bz:={ Mv X k rs 1 with bf:=X.bf - ((rs.filter Aj.flight).map Aj.sz).sum }
section
variable {n:Nat}{R D T:Nat->Nat}{S:List Nat}{h h' h0:H}{X Y:Bz}{Q:V->H->Prop}
def bu {m:Nat}{v:V}{r':FI}{K:H->Prop}(G:A9 T R)(Z:Bb T R D X h)(he:AM m (own DE)=true)(hp:Ad (Ld R X.r) m (some v)=Ld R r')(q:∀ h',Bb T R D { X with r:=r' } h'->Mod T [5] h h'->K h'):Iv m (.ref (R 5)) v K h:=
 cu Z.rc he (by rw[hp];exact q _ (Z.XK G (.at G rfl rfl _) (aa ..)) (.at G rfl rfl _))
def jY {k:Nat}{cnt top c:Int}{Ap:Option Int}{K:H->Prop}(G:A9 T R)(bk:k < 3)(C:EQ R D k cnt top Ap h)(q:∀ h',EQ R D k c top Ap h'->Mod T [k+8] h h'->K h'):Iv Ax (.ref (R (k+8))) (.int c) K h:=by
 obtain⟨aq,rp,H⟩:=C
 exact aE H rfl (q _ (.mk aq rp (aa ..)) (eX G bk))
def uJ {k:Nat}{cnt top:Int}{Ap:Option Int}{K:H->Prop}(G:A9 T R)(bk:k < 3)(C:EQ R D k cnt top Ap h)(q:∀ h',EQ R D k cnt top Ap h'->Mod T [k+8] h h'->K h'):Iv Jp (.ref (R (k+8))) .none K h:=by
 obtain⟨aq,rp,H⟩:=C
 exact aE H rfl (q _ (.mk aq rp (aa ..)) (eX G bk))
def vX {cf:Cc}{e:AZ}{Q:DJ->AZ->H->Prop}{a:Aj}{k:Nat}{cnt top:Int}{Ap:Option Int}(G:A9 T R)(bk:k < 3)(ep:e Am=some (.ref a.p))(es:e Ae=some (.ref (R (k+8))))(P:Em T a h)(C:EQ R D k cnt top Ap h)
  (q:∀ h',EQ R D k (cnt+cond a.asks 1 0) top Ap h'->Mod T [k+8] h h'->Q .next e h'):AS (An (Al (Aa Am) AB)) (EC (Aw Ir) (Aa Ae) Ax (Ag (.int 1))) AN cf e Q h:=by
 have C0:=C
 have P:=P.1.1
 obtain⟨aq,rp,H⟩:=C
 refine lN ?_
 nofun
 cases hf:a.asks with
 |true=>
  rw[hf] at q
  nofun
  refine jY G bk C0 λh' C' m=> ?_
  nofun
  exact q _ C' m
 |false=>
  rw[hf] at q
  nofun
  exact q _ (by rw[show cnt+cond false 1 0=cnt from Int.add_zero cnt];exact C0) (.refl _)
def Ip (X:Bz)(k:Nat)(r:Aj):Bz:={ X with
 Ar:=Ad X.Ar k (X.Ar k++ [r]),cnt:=Ad X.cnt k (X.cnt k+cond r.asks 1 0),bf:=X.bf+cond r.flight r.sz 0,
 r:=cond (r.flight && (r.asks && (X.r.Bc|| !Nat.beq k 2))) { X.r with last:=r.tm } X.r }
def tP {k:Nat}{r:Aj}(G:A9 T R)(Z:Bb T R D X h)(bk:k < 3)(P:Em T r h)(new:∀ x∈X.Ar k,x.num≠r.num)(bl:(X.Ar k).length < 1000)(q:∀ h',Bb T R D (Ip X k r) h'->Mod T ES h h'->Q .none h'):
  Bp (n+2) IU [.ref (R 5)] [(Am,.ref r.p),(Ae,.ref (R (k+8)))] Q h:=by
 refine ay (d:=Dt) (b:=IO) rfl ⟨rfl,rfl,rfl,rfl,rfl,rfl⟩ ?_
 have P1:=P.1.1
 have Hs:=Z.sp k bk
 have Hd:=Z.dd k bk
 obtain⟨aq,rp,Hs⟩:=Hs
 obtain⟨ep,Hd⟩:=Hd
 refine aD ?_
 nofun
 refine vm Hd ⟨by rw[List.length_map];exact Nat.lt_trans bl (by decide),λp m=> ?_⟩ λep'=> ?_
 ·obtain⟨x,mx,rfl⟩:=List.mem_map.mp m
  exact new x mx
 have Z1:=Z.Tl (rs:=X.Ar k++ [r]) (h':=Ad h (R (k+11)) (some (.BM ep' ((X.Ar k).map (λr=>(r.num,V.ref r.p))++ [(r.num,.ref r.p)])))) G bk (b8 G bk) (.mk ep' (by rw[aa,List.map_append];rfl)) λx mx=>(List.mem_append.mp mx).elim (Z.pk k bk x) λz=>List.mem_singleton.mp z▸P
 have m1:Mod T [k+11] h (Ad h (R (k+11)) (some (.BM ep' ((X.Ar k).map (λr=>(r.num,V.ref r.p))++ [(r.num,.ref r.p)])))):=b8 G bk
 generalize Ad h (R (k+11)) (some (.BM ep' ((X.Ar k).map (λr=>(r.num,V.ref r.p))++ [(r.num,.ref r.p)])))=h1 at Z1 m1 ⊢
 have P1:=P.mod m1 (bR bk).2.2
 iterate 2 eq_refl
 refine vX (e:=Dt.bind [.ref (R 5)] [(Am,.ref r.p),(Ae,.ref (R (k+8)))]) G bk rfl rfl P1 (Z1.sp k bk) λh2 C2 m2=> ?_
 have Z2:=Z1.Sv G bk m2 C2
 have P2:=P1.mod m2 (bR bk).1.2
 have m3:=(m1.mono (fq bk).2).trans (m2.mono (fq bk).1)
 clear P1 Z1 m1 m2 C2 Hs Hd
 have P3:=P2.1.1
 have Hr:=Z2.rc
 have Hs:=Z2.sp k bk
 obtain⟨aq,rp,Hs⟩:=Hs
 unfold Ip at q
 nofun
 have fin:∀ r' h3,Bb T R D { X with Ar:=Ad X.Ar k (X.Ar k++ [r]),cnt:=Ad X.cnt k (X.cnt k+cond r.asks 1 0),r:=r' } h3->Mod T ES h h3->Em T r h3->r.flight=true->r'=cond (r.flight && (r.asks && (X.r.Bc|| !Nat.beq k 2))) { X.r with last:=r.tm } X.r->Bx (Bh (Al (Aa Ac) Dj) Dm As (Aq Am (Aa Am) Az)) (Bp (n+1)) (Dt.bind [.ref (R 5)] [(Am,.ref r.p),(Ae,.ref (R (k+8)))]) (Dp Q) h3:=λr' h3 Z3 m4 P4 ef er=>by
  have Hr:=Z3.rc
  have C:=Z3.cc
  obtain⟨f,cw,st,ss,cr,H,b,w,s',m',c',t',o,no,si,g,M⟩:=C
  nofun
  refine cY H (by exact(cR no rfl).trans rfl) ?_
  nofun
  refine mV G (.mk f cw st ss cr H b w s' m' c' t' o no si g M) P4 λh4 C4 m5=> ?_
  nofun
  have Z4:=Z3.P9 G (m5.mono rfl) C4
  rw[<-er,ef] at q
  exact q _ Z4 (m4.trans (m5.mono rfl))
 cases hf:r.flight with
 |false=>
  nofun
  rw[hf] at q
  refine q _ ?_ m3
  rw[show X.bf+cond false r.sz 0=X.bf from Int.add_zero _];exact Z2
 |true=>
  nofun
  have skip:(r.asks && (X.r.Bc|| !Nat.beq k 2))=false->AN (Bp (n+1)) (Dt.bind [.ref (R 5)] [(Am,.ref r.p),(Ae,.ref (R (k+8)))]) (EG (Bx (Bh (Al (Aa Ac) Dj) Dm As (Aq Am (Aa Am) Az))) (Bp (n+1)) (Dp Q)) h2:=λz=>bC (a8 (fin X.r _ Z2 m3 P2 hf (by rw[hf,z];rfl)))
  have setl:(r.asks && (X.r.Bc|| !Nat.beq k 2))=true->Af (AX (Aa Ac) A1) (Al (Aa Am) Bg) (Bp (n+1)) (Dt.bind [.ref (R 5)] [(Am,.ref r.p),(Ae,.ref (R (k+8)))]) (EG (Bx (Bh (Al (Aa Ac) Dj) Dm As (Aq Am (Aa Am) Az))) (Bp (n+1)) (Dp Q)) h2:=λz=>by
   nofun
   refine bu (r':={ X.r with last:=r.tm }) G Z2 rfl (a6 _ _ _) λh3 Z3 m4=>a8 (fin _ _ Z3 (m3.trans (m4.mono rfl)) (P2.mod m4 rfl) hf (by rw[hf,z];rfl))
  refine bH (λc1=> ?_) λc1=> ?_
  rotate_left
  ·exact skip (by rw[c1];rfl)
  nofun
  refine bH (λc2=> ?_) λc2=> ?_
  ·exact setl (by rw[c1,c2];rfl)
  nofun
  refine bH (λc3=> ?_) λc3=> ?_
  ·exact setl (by rw[c1,c2,c3];rfl)
  ·exact skip (by rw[c1,c2,c3];rfl)
end
section
variable {n:Nat}{R D T:Nat->Nat}{S:List Nat}{h h' h0:H}{X Y:Bz}{Q:V->H->Prop}
def kB {a y:Nat}{o o':Option O}(ha:h a=none)(hy:h y=none):KS (Ad (Ad h a o) y o') a y=h:=by
 funext x
 unfold KS
 by_cases e1:x=y
 ·rw[e1,aa,hy]
 rw[ab _ _ e1]
 by_cases e2:x=a
 ·rw[e2,aa,ha]
 rw[ab _ _ e2,ab _ _ e1,ab _ _ e2]
structure K3 (T R:Nat->Nat)(k ep c:Nat)(rs:List Aj)(p:Aj->Bool)(a y:Nat)(h:H):Prop where
 ne:a≠y
 ha:h a=none
 hy:h y=none
 hd:h (R (k+11))=some (.BM ep (rs.map λr=>(r.num,.ref r.p)))
 ok:∀ r∈rs,Em T r h
 pc:∀ r,AM c (own FL)=true/\Lb r c=some (.bool (p r))
abbrev Rm (R:Nat->Nat)(k ep c:Nat)(rs:List Aj)(a y:Nat)(h:H):H:=Ad (Ad h a (some (.Gz c y (R (k+11)) ep ((rs.map λr:Aj=>(r.num,V.ref r.p)).length)))) y (some (.own a))
variable {k ep c a y:Nat}{rs:List Aj}{p:Aj->Bool}
theorem K3.hd' (F:K3 T R k ep c rs p a y h):Rm R k ep c rs a y h (R (k+11))=some (.BM ep (rs.map λr=>(r.num,.ref r.p))):=
 (ab _ _ (az (e1:=F.hy) F.hd)).trans ((ab _ _ (az (e1:=F.ha) F.hd)).trans F.hd)
theorem K3.fa (F:K3 T R k ep c rs p a y h):Rm R k ep c rs a y h a=some (.Gz c y (R (k+11)) ep ((rs.map λr:Aj=>(r.num,V.ref r.p)).length)):=
 (ab _ _ F.ne).trans (aa ..)
def kr {r:Aj}(P:Em T r h)(pc:AM c (own FL)=true/\Lb r c=some (.bool (p r))):Ei c (.ref r.p) h=some (p r):=by
 show AT (Ec h r.p) (λi=>cond (AM c (own i.C)) (AT (i.f c) V.bool?) none)=_
 rw[bD P.1.1]
 show cond (AM c (own FL)) (AT (Lb r c) V.bool?) none=_
 rw[pc.1,pc.2];rfl
theorem K3.R5 (F:K3 T R k ep c rs p a y h)(G:A9 T R)(bk:k < 3):QG T [1] (Rm R k ep c rs a y h) h (.ref a) rs p:=by
 refine .mk (JU c (R (k+11)) ep (rs.map λr:Aj=>(r.num,V.ref r.p))) List.map_map (λh' m r mr=>kr ((F.ok r mr).mod m rfl) (F.pc r)) (λh' m=>bV (m.get F.hd (G _ (dU bk).2) rfl)) λQ q=> ?_
 unfold Mo
 dsimp only
 rw[F.fa]
 dsimp only
 unfold Rn
 refine ae (bV F.hd') ⟨⟨rfl,rfl⟩,?_⟩
 rw[kB F.ha F.hy];exact q
def nu (l:List Aj)(ok:∀ r∈l,Em T r h)(pc:∀ r,AM c (own FL)=true/\Lb r c=some (.bool (p r)))(d:Nat)(z:List (Int×V)):HU (JU c d ep z) h (l.map λr=>V.ref r.p)=some ((l.filter p).map λr=> .ref r.p):=by
 induction l with
 |nil=>rfl
 |cons r l ih=>
  show AT (Ei c (.ref r.p) h) (λb=>AT (HU (JU c d ep z) h (l.map λr=>V.ref r.p)) λl=>some (cond b (V.ref r.p::l) l))=_
  rw[kr (ok r (.head _)) (pc r),ih λr m=>ok r (.tail _ m),aV]
  show some (cond (p r) (V.ref r.p::(l.filter p).map λr=>V.ref r.p) ((l.filter p).map λr=>V.ref r.p))=_
  cases p r <;> rfl
theorem K3.tup (F:K3 T R k ep c rs p a y h)(q:Q (.tup ((rs.filter p).map λr=> .ref r.p)) h):L4 (.ref a) Q (Rm R k ep c rs a y h):=by
 unfold L4
 refine ae (a:=a) rfl ?_
 rw[F.fa]
 dsimp only
 refine ae (bV F.hd') ⟨⟨rfl,rfl⟩,?_⟩
 rw[kB F.ha F.hy,List.map_map]
 exact ae (nu rs F.ok F.pc _ _) q
def ti (Z:Bb T R D X h)(bk:k < 3)(q:Q (.bool true) h):Qj (.ref (R (k+8))) (.ref (R 20)) Q h:=by
 have hs:∀ k,k < 3->∃ i,Ec h (R (k+8))=some i/\Nat.beq i.C CO=true:=λk b=>by
  cases Z.sp k b with |mk aq rp H=>exact⟨_,bD H,rfl⟩
 obtain⟨i0,a0,b0⟩:=hs 0 (by decide)
 obtain⟨i1,a1,b1⟩:=hs 1 (by decide)
 obtain⟨i2,a2,b2⟩:=hs 2 (by decide)
 have sp:Qy h ([0,1,2].map λk=>V.ref (R (k+8)))=some [R (0+8),R (1+8),R (2+8)]:=by
  show AT (Ec h (R (0+8))) (λi=>cond (Nat.beq i.C CO) (AT (AT (Ec h (R (1+8))) λi=>cond (Nat.beq i.C CO) (AT (AT (Ec h (R (2+8))) λi=>cond (Nat.beq i.C CO) (AT (some []) λl=>some (R (2+8)::l)) none) λl=>some (R (1+8)::l)) none) λl=>some (R (0+8)::l)) none)=_
  rw[a0,a1,a2]
  show cond (Nat.beq i0.C CO) (AT (cond (Nat.beq i1.C CO) (AT (cond (Nat.beq i2.C CO) _ none) _) none) _) none=_
  rw[b0,b1,b2];rfl
 have mem:Rs (R (k+8)) [R (0+8),R (1+8),R (2+8)]=true:=by
  show cond (Nat.beq (R (0+8)) (R (k+8))) true (cond (Nat.beq (R (1+8)) (R (k+8))) true (cond (Nat.beq (R (2+8)) (R (k+8))) true false))=true
  match k,bk with
  |0,_=>rw[Nat.beq_refl];rfl
  |1,_=>rw[Nat.beq_refl];cases Nat.beq (R (0+8)) (R (1+8)) <;> rfl
  |2,_=>rw[Nat.beq_refl];cases Nat.beq (R (0+8)) (R (2+8)) <;> cases Nat.beq (R (1+8)) (R (2+8)) <;> rfl
 obtain⟨ik,ak,bk⟩:=hs k bk
 unfold Qj
 refine ae (au Z.GV) ?_
 refine ae (a:= [R (0+8),R (1+8),R (2+8)]) ?_ (by rw[mem];exact q)
 rw[ak]
 show cond (Nat.beq ik.C CO) _ none=_
 rw[bk];exact sp
def Qz (X:Bz)(k:Nat):Bz:={ X with bf:=X.bf - (((X.Ar k).filter Aj.flight).map Aj.sz).sum,Ar:=Ad X.Ar k [],cnt:=Ad X.cnt k 0,Ap:=Ad X.Ap k none,r:={ X.r with tries:=0 } }
def mX (G:A9 T R)(Z:Bb T R D X h)(bk:k < 3)(q:∀ h',Bb T R D (Qz X k) h'->Mod T ES h h'->Q .none h'):Bp (n+2) Jc [.ref (R 5),.ref (R (k+8))] [] Q h:=by
 refine ay (d:=I9) (b:=I6) rfl ⟨rfl,rfl,rfl,rfl,rfl,rfl⟩ ?_
 have H5:=Z.rc
 have C:=Z.cc
 have Hs:=Z.sp k bk
 have Hd:=Z.dd k bk
 obtain⟨f,cw,st,ss,cr,H,b,w,s',m',c',t',o,no,si,g,M⟩:=C
 obtain⟨aq,rp,Hs⟩:=Hs
 obtain⟨ep,Hd⟩:=Hd
 refine aD ?_
 nofun
 refine ti Z bk ?_
 eq_refl
 refine⟨rfl,?_⟩
 nofun
 refine cY H (by exact(cR no rfl).trans rfl) ?_
 nofun
 intro a y ne ha hy
 have F:K3 T R k ep CE (X.Ar k) Aj.flight a y h:=⟨ne,ha,hy,Hd,Z.pk k bk,λr=>⟨rfl,rfl⟩⟩
 nofun
 refine jH G (.mk f cw st ss cr H b w s' m' c' t' o no si g M) (Z.pk k bk) (F.R5 G bk) λh1 C1 m1=> ?_
 have Z1:=Z.P9 G (m1.mono rfl) C1
 have m2:=m1.mono (U:=ES) rfl
 clear C1 m1 F Hs Hd H b w s' m' c' t' o no si g M
 have H5:=Z1.rc
 have Hs:=Z1.sp k bk
 have Hd:=Z1.dd k bk
 obtain⟨aq,rp,Hs⟩:=Hs
 obtain⟨ep,Hd⟩:=Hd
 nofun
 intro ep2
 have Z2:Bb T R D { X with bf:=X.bf - (((X.Ar k).filter Aj.flight).map Aj.sz).sum,Ar:=Ad X.Ar k [] } (Ad h1 (R (k+11)) (some (.BM ep2 []))):=Z1.Tl (rs:= []) G bk (b8 G bk) (.mk ep2 (aa ..)) λJ z=>nomatch z
 have m3:=m2.trans ((b8 (o:= .BM ep2 []) (h:=h1) G bk).mono (fq bk).2)
 generalize Ad h1 (R (k+11)) (some (.BM ep2 []))=h2 at Z2 m3 ⊢
 have C2:=Z2.sp k bk
 obtain⟨aq,rp,Hs⟩:=C2
 nofun
 refine uJ G bk (.mk aq rp Hs) λh3 C3 m4=> ?_
 have C4:=C3
 obtain⟨aq,rp,Hs⟩:=C3
 nofun
 refine jY G bk C4 λh4 C5 m5=> ?_
 have C6:=C5
 obtain⟨aq,rp,Hs⟩:=C5
 nofun
 refine fQ (o:=none) G bk C6 rfl λh5 C7 m6=> ?_
 have Z3:=Z2.TD G bk (m4.trans (m5.trans m6)) C7
 rw[bq] at Z3
 nofun
 refine bu (r':={ X.r with tries:=0 }) G Z3 rfl (a6 _ _ _) λh6 Z4 m7=> ?_
 nofun
 exact q _ Z4 (m3.trans (((m4.trans (m5.trans m6)).mono (fq bk).1).trans (m7.mono rfl)))
end
def Ey (p:Bz×Bool)(k:Nat):Bz×Bool:=match(p.1.Ar k).filter Aj.Cj with | []=>p|_::_=>(Hy p.1 k ((p.1.Ar k).filter Aj.Cj),true)
def EL (X:Bz):Bz×Bool:= [0,1,2].foldl Ey (X,false)
def Gs (X:Bz)(o:Option (Aj×Nat))(k:Nat):Option (Aj×Nat):=cond (Nat.beq k 2 && !X.r.Bc) o (match(X.Ar k).filter Aj.asks with
 | []=>o
 |r::_=>match o with
  |none=>some (r,k)
  |some p=>if r.tm < p.1.tm then some (r,k) else some p)
noncomputable def old (X:Bz):Option (Aj×Nat):= [0,1,2].foldl (Gs X) none
def N1 (X:Bz)(speed:Bool):Bz:=
 (λY=>{ Y with pr:=Y.pr+1 }) (cond (!(EL X).2 && !speed) (match old (EL X).1 with |none=>(EL X).1|some p=>Hy (EL X).1 p.2 [p.1]) (EL X).1)
section
variable {n:Nat}{R D T:Nat->Nat}{S:List Nat}{h h' h0:H}{X Y:Bz}{Q:V->H->Prop}
def dz (s:Int)(rs:List Aj):(rs.flatMap (I3 s)).length<=2*rs.length:=by
 induction rs with
 |nil=>exact Nat.le_refl _
 |cons a r ih=>
  rw[List.flatMap_cons,List.length_append,List.length_cons]
  have :(I3 s a).length<=2:=by unfold I3;rw[List.length_map];exact fk _
  omega
theorem Nn.JR {N k:Nat}{rs:List Aj}(B:Nn N X)(b:rs.length<=60):Nn (N+120) (Hy X k rs) where
 so j bj:=by
  show(Ad X.Ar k _ j).Pairwise _
  by_cases e:j=k
  ·subst e;rw[aa];exact(B.so j bj).filter _
  ·rw[ab _ _ e];exact B.so j bj
 bt:=by
  show(X.told++rs.flatMap (I3 1)).length<=_
  rw[List.length_append]
  have :=dz 1 rs
  have :=B.bt
  omega
 bl j bj:=by
  show(Ad X.Ar k _ j).length<=_
  by_cases e:j=k
  ·subst e;rw[aa];exact Nat.le_trans (List.length_filter_le _ _) (B.bl j bj)
  ·rw[ab _ _ e];exact B.bl j bj
 bA:=B.bA
def kF {k:Nat}{v:V}{rs:List Aj}{now:Int}(G:A9 T R)(Z:Bb T R D X h)(L:DS T h)(bk:k < 3)(I:N7 T ES h v rs)(B:Nn 880 X)(sl:List.Sublist rs (X.Ar k))(q:∀ h',Bb T R D (Hy X k rs) h'->Mod T ES h h'->Q .none h'):
  Bp (n+2) HK [.ref (R 5)] [(Cy,.bool false),(Av,.int now),(Bd,v),(Ae,.ref (R (k+8)))] Q h:=by
 refine ay (d:=Fz) (b:=Ee) rfl ⟨rfl,rfl,rfl,rfl,rfl,rfl⟩ ?_
 have nd:=bz (B.so k bk)
 exact mZ G Z L bk I nd ((sl.map Aj.num).nodup nd) (λx m=>sl.subset m) (by have :=B.bt;have :=B.bl k bk;have :=sl.length_le;omega) B.bA (by rfl) (by rfl) (by rfl) (by rfl) (by rfl) (by rfl) q
inductive Ua (T R D:Nat->Nat)(X:Bz)(r:List Nat)(e0 e:AZ)(h0 h':H):Prop
 |mk (p:Bz×Bool) (N:Nat) (k:By [Ae,Bd,BX] e0 e) (m:Mod T ES h0 h') (eb:e BX=some (.bool p.2)) (Z:Bb T R D p.1 h') (ef:r.foldl Ey p=EL X) (B:Nn N p.1) (bn:N+120*r.length<=760) (b3:∀ k∈r,k < 3):Ua T R D X r e0 e h0 h'
def uM {e:AZ}{Q:DJ->AZ->H->Prop}{now:Int}(G:A9 T R)(Z:Bb T R D X h)(L:DS T h)(B:Nn 400 X)(es:e Ac=some (.ref (R 5)))(en:e Av=some (.int now))(eb:e BX=some (.bool false))
  (q:∀ e' h',By [Ae,Bd,BX] e e'->Mod T ES h h'->e' BX=some (.bool (EL X).2)->Bb T R D (EL X).1 h'->Nn 760 (EL X).1->Q .next e' h'):
  Ck (AA Ae) (Cx CY (Al (Aa Ac) Cn)) (Ak (Af (AA Bd) (DP L4 (ON Cz (Al (Aa Ae) Bi))))
  (AS (An (Aa Bd)) (Ak (Bx (Bh (Aa Ac) Df As (Aq Cy (Ag (.bool false)) (Aq Av (Aa Av) (Aq Bd (Aa Bd) (Aq Ae (Aa Ae) Az))))))
  (Af (AA BX) (Ag (.bool true)))) AN)) (Bp (n+2)) e Q h:=by
 have H5:=Z.rc
 have H20:=Z.GV
 refine dS ?_
 nofun
 refine aU (f:=λk=>V.ref (R (k+8))) (λr e' h'=>Ua T R D X r e e' h h') (λr e' h' i=>by cases i with |mk p N k m=>exact au (m.get H20 (G 20 rfl) rfl)) aB (λk r e' h' i kk hk=> ?_) (λe' h' i=> ?_) [0,1,2] _ _ (.mk (X,false) 400 (.refl _ _) (.refl _) eb Z rfl B (by decide) λJ=>d4)
 rotate_left
 ·obtain⟨p,N,k,m,eb,Z,ef,B,bn,b3⟩:=i
  have ef:p=EL X:=ef
  rw[ef] at eb Z B
  exact q _ _ k m eb Z ⟨B.so,Nat.le_trans B.bt bn,B.bl,B.bA⟩
 obtain⟨p,N,k1,m,eb,Z,ef,B,bn,b3⟩:=i
 have bk:=b3 k (.head _)
 have Hs:=Z.sp k bk
 have Hd:=Z.dd k bk
 obtain⟨aq,rp,Hs⟩:=Hs
 obtain⟨ep,Hd⟩:=Hd
 have H5:=Z.rc
 rw[List.length_cons] at bn
 nofun
 intro a y ne ha hy
 have F:K3 T R k ep Cz (p.1.Ar k) Aj.Cj a y h':=⟨ne,ha,hy,Hd,Z.pk k bk,λr=>⟨rfl,rfl⟩⟩
 refine F.tup ?_
 have sl:List.Sublist ((p.1.Ar k).filter Aj.Cj) (p.1.Ar k):=List.filter_sublist
 have ef:r.foldl Ey (Ey p k)=EL X:=ef
 unfold Ey at ef
 generalize (p.1.Ar k).filter Aj.Cj=cs at sl ef
 have k2:By [Ae,Bd,BX] e (Ad (Ad e' Ae (some (.ref (R (k+8))))) Bd (some (.tup (cs.map λr=> .ref r.p)))):=(k1.set rfl).set rfl
 have bl:=B.bl k bk
 have sll:=sl.length_le
 nofun
 refine xz (Nat.ble_eq_true_of_le (by rw[List.length_map];exact Nat.le_trans (Nat.le_trans sll bl) (by decide))) ?_
 cases cs with
 |nil=>
  nofun
  exact hk _ _ (.mk p N k2 m eb Z ef B (by omega) λj mj=>b3 j (.tail _ mj))
 |cons c cs=>
  have es':=(k1 Ac rfl).trans es
  have en':=(k1 Av rfl).trans en
  nofun
  refine kF (rs:=c::cs) G Z (m.alive L) bk .t ⟨B.so,Nat.le_trans B.bt (by omega),B.bl,B.bA⟩ sl λh2 Z2 m2=> ?_
  nofun
  exact hk _ _ (.mk _ (N+120) (k2.set rfl) (m.trans m2) rfl Z2 ef (B.JR (Nat.le_trans sll bl)) (by omega) λj mj=>b3 j (.tail _ mj))
end
def LU (R:Nat->Nat)(o:Option (Aj×Nat)):V:=match o with |none=> .none|some p=> .tup [.ref p.1.p,.ref (R (p.2+8))]
section
variable {n:Nat}{R D T:Nat->Nat}{S:List Nat}{h h' h0:H}{X Y:Bz}{Q:V->H->Prop}
def KI (X:Bz)(o:Option (Aj×Nat)):Prop:=∀ p,o=some p->p.2 < 3/\p.1∈X.Ar p.2
theorem KI.step {o:Option (Aj×Nat)}{k:Nat}(i:KI X o)(b:k < 3):KI X (Gs X o k):=by
 unfold Gs
 cases Nat.beq k 2 && !X.r.Bc with
 |true=>exact i
 |false=>
  show KI X (match(X.Ar k).filter Aj.asks with | []=>o|r::_=>_)
  cases e:(X.Ar k).filter Aj.asks with
  |nil=>exact i
  |cons r l=>
   have m:r∈X.Ar k:=(List.mem_filter.mp (show r∈(X.Ar k).filter Aj.asks by rw[e];exact .head _)).1
   cases o with
   |none=>exact λp z=>by cases z;exact⟨b,m⟩
   |some q=>
    show KI X (if r.tm < q.1.tm then some (r,k) else some q)
    by_cases c:r.tm < q.1.tm
    ·rw[if_pos c];exact λp z=>by cases z;exact⟨b,m⟩
    ·rw[if_neg c];exact i
def uN {e:AZ}{cf:Cc}{Q:DJ->AZ->H->Prop}(Z:Bb T R D X h)(es:e Ac=some (.ref (R 5)))(eo:e A3=some .none)
  (q:∀ e',By [Ae,Am,A3] e e'->e' A3=some (LU R (old X))->Q .next e' h):
  Ck (AA Ae) (Cx CY (Al (Aa Ac) Cn)) (Ak (AS (Cp (An (Al (Aa Ae) AO)) (EF (An (Al (Aa Ac) A5)))) Qe AN)
  (Ck (AA Am) (O3 (Al (Aa Ae) Bi)) (AS (An (Al (Aa Am) AB)) (Ak (AS (Fk (An (Ab F3 (Aa A3) (Ag .none))) (An (Ab (Aw DZ) (Al (Aa Am) Bg) (Al (Ab Au (Aa A3) (Ag (.int 0))) Bg)))) (Af (AA A3) (E0 (Ah (Aa Am) (Ah (Aa Ae) As)))) AN)
  OM) AN))) cf e Q h:=by
 have H5:=Z.rc
 have H20:=Z.GV
 refine dS ?_
 nofun
 refine aU (f:=λk=>V.ref (R (k+8))) (λr e' h'=>h'=h/\By [Ae,Am,A3] e e'/\(∀ k∈r,k < 3)/\∃ o,e' A3=some (LU R o)/\KI X o/\r.foldl (Gs X) o=old X) (λr e' h' i=>by rw[i.1];exact au H20) aB (λk r e' h' i kk hk=> ?_) (λe' h' i=> ?_) [0,1,2] _ _ ⟨rfl,.refl _ _,λJ=>d4,none,eo,(λJ z=>nomatch z),rfl⟩
 rotate_left
 ·obtain⟨rfl,k1,-,o,e1,-,e2⟩:=i
  have e2:o=old X:=e2
  rw[e2] at e1
  exact q _ k1 e1
 obtain⟨rfl,k1,b3,o,e1,ok,e2⟩:=i
 have bk:=b3 k (.head _)
 have e2:r.foldl (Gs X) (Gs X o k)=old X:=e2
 have ok2:=ok.step bk
 have Hs:=Z.sp k bk
 have Hd:=Z.dd k bk
 obtain⟨aq,rp,Hs⟩:=Hs
 obtain⟨ep,Hd⟩:=Hd
 have es':=(k1 Ac rfl).trans es
 have fin:∀ e2,By [Ae,Am,A3] e e2->e2 A3=some (LU R (Gs X o k))->kk e2 h':=λe3 k3 eo3=>hk e3 h' ⟨rfl,k3,λj m=>b3 j (.tail _ m),_,eo3,ok2,e2⟩
 have go:(Nat.beq k 2 && !X.r.Bc)=false->Ck (AA Am) (O3 (Al (Aa Ae) Bi)) (AS (An (Al (Aa Am) AB)) (Ak (AS (Fk (An (Ab F3 (Aa A3) (Ag .none))) (An (Ab (Aw DZ) (Al (Aa Am) Bg) (Al (Ab Au (Aa A3) (Ag (.int 0))) Bg)))) (Af (AA A3) (E0 (Ah (Aa Am) (Ah (Aa Ae) As)))) AN)
  OM) AN) cf (Ad e' Ae (some (.ref (R (k+8))))) (Iq kk Q) h':=λz=>by
  rw[show Gs X o k=_ from by unfold Gs;rw[z]] at fin
  nofun
  rw[rJ]
  refine aU (f:=λr:Aj=>V.ref r.p) (λl e3 h3=>h3=h'/\By [Am] (Ad e' Ae (some (.ref (R (k+8))))) e3/\l.filter Aj.asks=(X.Ar k).filter Aj.asks/\∀ x∈l,x∈X.Ar k) (λr e3 h3 i=>by rw[i.1];exact bV Hd) aB (λa l e3 h3 i kk2 lW=> ?_) (λe3 h3 i=> ?_) (X.Ar k) _ _ ⟨rfl,.refl _ _,rfl,λJ m=>m⟩
  rotate_left
  ·obtain⟨rfl,k3,ef,-⟩:=i
   rw[<-ef] at fin
   nofun
   exact fin _ (λx zx=>(k3 x (by revert zx;exact iF)).trans ((k1.set rfl) x zx)) ((k3 A3 rfl).trans e1)
  obtain⟨rfl,k3,ef,sub⟩:=i
  have P:=(Z.pk k bk a (sub a (.head _))).1.1
  have e1':=(k3 A3 rfl).trans e1
  have esp:=k3 Ae rfl
  rw[aV] at ef
  nofun
  cases ha:a.asks with
  |false=>
   rw[ha] at ef
   nofun
   exact lW _ _ ⟨rfl,k3.set rfl,ef,λx m=>sub x (.tail _ m)⟩
  |true=>
   rw[ha] at ef
   have ef:(X.Ar k).filter Aj.asks=a::l.filter Aj.asks:=ef.symm
   rw[ef] at fin
   have kk4:By [Ae,Am,A3] e (Ad e3 Am (some (.ref a.p))):=By.set (λx zx=>(k3 x (by revert zx;exact iF)).trans ((k1.set rfl) x zx)) rfl
   cases o with
   |none=>
    unfold LU at e1'
    nofun
    exact fin _ (kk4.set rfl) (by rfl)
   |some p=>
    obtain⟨b1,m1⟩:=ok p rfl
    have P2:=(Z.pk p.2 b1 p.1 m1).1.1
    unfold LU at e1'
    nofun
    refine a9 (λc=> ?_) λc=> ?_
    ·nofun
     exact fin _ (kk4.set rfl) (by show _=some (LU R (if a.tm < p.1.tm then some (a,k) else some p));rw[if_pos c];rfl)
    ·nofun
     exact fin _ kk4 (by show _=some (LU R (if a.tm < p.1.tm then some (a,k) else some p));rw[if_neg (Int.not_lt.mpr c)];exact e1')
 nofun
 cases h2:Nat.beq k 2 with
 |false=>
  iterate 4 eq_refl
  exact go (by rw[h2];rfl)
 |true=>
  nofun
  cases hc:X.r.Bc with
  |true=>
   iterate 4 eq_refl
   exact go (by rw[h2,hc];rfl)
  |false=>
   nofun
   exact fin _ (k1.set rfl) (by unfold Gs;rw[h2,hc];exact e1)
end
section
variable {n:Nat}{R D T:Nat->Nat}{S:List Nat}{h h' h0:H}{X Y:Bz}{Q:V->H->Prop}
def jD (X:Bz):KI X (old X):=(((show KI X none from λJ z=>nomatch z).step (k:=0) (by decide)).step (k:=1) (by decide)).step (k:=2) (by decide)
def kG {e:AZ}{now:Int}{sp:Bool}(G:A9 T R)(Z:Bb T R D X h)(L:DS T h)(B:Nn 400 X)(bp:∀ Y,Y=(EL X).1->Y.pr < 1000)(es:e Ac=some (.ref (R 5)))(en:e Av=some (.int now))(eu:e CV=some (.bool sp))
  (q:∀ h',Bb T R D (N1 X sp) h'->Mod T ES h h'->Q .none h'):EJ (Bp (n+2)) e (Dp Q) h:=by
 refine aD ?_
 iterate 5 eq_refl
 refine uM (e:=Ad e BX (some (.bool false))) G Z L B es en rfl λe1 h1 k1 m1 eb Z1 B1=> ?_
 clear Z B
 unfold N1 at q
 have bp1:=bp _ rfl
 clear bp
 generalize EL X=p at eb Z1 B1 q bp1
 have es1:=(k1 Ac rfl).trans es
 have en1:=(k1 Av rfl).trans en
 have eu1:=(k1 CV rfl).trans eu
 have fin:∀ (Y:Bz) (e2:AZ) (h2:H),Bb T R D Y h2->Mod T ES h h2->e2 Ac=some (.ref (R 5))->Y.pr < 1000->(∀ h',Bb T R D { Y with pr:=Y.pr+1 } h'->Mod T ES h h'->Q .none h')->Bx (Bh (Aa Ac) Fa As Az) (Bp (n+2)) e2 (Dp Q) h2:=λY e2 h2 Z2 m2 es2 b q=>by
  have H5:=Z2.rc
  obtain⟨l,el,H7⟩:=Z2.pr
  nofun
  refine pP H5 rfl ?_
  nofun
  refine wo H7 (Nat.lt_trans (by rw[el];exact b) (show 1000 < lim by decide)) ?_
  nofun
  have Z3:=Z2.TC G (.at G rfl rfl _) (aa h2 (R 7) (some (.lst (l++ [.int 1]))))
  rw[show(l++ [V.int 1]).length=Y.pr+1 by rw[List.length_append,el];rfl] at Z3
  exact q _ Z3 (m2.trans (.at G rfl rfl _))
 nofun
 cases hb:p.2 with
 |true=>
  rw[hb] at q
  iterate 4 eq_refl
  exact fin _ _ _ Z1 m1 es1 bp1 q
 |false=>
  rw[hb] at q
  nofun
  cases sp with
  |true=>
   iterate 4 eq_refl
   exact fin _ _ _ Z1 m1 es1 bp1 q
  |false=>
   iterate 6 eq_refl
   refine uN (e:=Ad e1 A3 (some .none)) Z1 es1 rfl λe2 k2 eo=> ?_
   have q:∀ h',Bb T R D ((λY:Bz=>{ Y with pr:=Y.pr+1 }) (match old p.1 with |none=>p.1|some o=>Hy p.1 o.2 [o.1])) h'->Mod T ES h h'->Q .none h':=q
   have ok:=jD p.1
   have es2:=(k2 Ac rfl).trans es1
   have en2:=(k2 Av rfl).trans en1
   have H5:=Z1.rc
   generalize old p.1=o at eo q ok
   cases o with
   |none=>
    unfold LU at eo
    iterate 9 eq_refl
    exact fin _ _ _ Z1 m1 es2 bp1 q
   |some o=>
    obtain⟨b3,mo⟩:=ok o rfl
    unfold LU at eo
    nofun
    intro c hc
    have mc:Mod T ES h1 (Ad h1 c (some (.lst [.ref o.1.p]))):= .new hc
    have tc:=(m1.alive L).fresh hc
    nofun
    refine kF (rs:= [o.1]) G (Z1.mod G (S:= []) (.new hc) rfl) (mc.alive (m1.alive L)) b3 (.l (aa ..) (by rw[tc];rfl)) ⟨B1.so,Nat.le_trans B1.bt (by decide),B1.bl,B1.bA⟩ (List.singleton_sublist.mpr mo) λh3 Z3 m3=> ?_
    iterate 2 eq_refl
    exact fin _ _ _ Z3 (m1.trans (mc.trans m3)) es2 bp1 q
end
def Nl (X:Bz)(now:Int):Bz:=match D0 X.Ap with |some k=>LK X k now|none=>N1 { X with r:={ X.r with tries:=X.r.tries+1 } } false
def gi (p:Bz×Bool)(k:Nat):(Ey p k).1.pr=p.1.pr:=by
 unfold Ey;cases (p.1.Ar k).filter Aj.Cj <;> rfl
def mC (X:Bz):(EL X).1.pr=X.pr:=(gi _ 2).trans ((gi _ 1).trans (gi _ 0))
section
variable {n:Nat}{R D T:Nat->Nat}{S:List Nat}{h h' h0:H}{X Y:Bz}{Q:V->H->Prop}
theorem Nn.to {N M:Nat}(B:Nn N X)(b:N<=M):Nn M X:=⟨B.so,Nat.le_trans B.bt b,B.bl,B.bA⟩
def nj {now:Int}(G:A9 T R)(Z:Bb T R D X h)(L:DS T h)(B:Nn 400 X)(bp:X.pr < 1000)(q:∀ h',Bb T R D (Nl X now) h'->Mod T ES h h'->Q .none h'):Bp (n+4) Fw [.ref (R 5)] [(Av,.int now)] Q h:=by
 refine ay (d:=Fv) (b:=Fu) rfl ⟨rfl,rfl,rfl,rfl,rfl,rfl⟩ ?_
 have H5:=Z.rc
 refine aD ?_
 nofun
 refine pY G Z ?_
 have i:=bF X.Ap
 unfold Nl at q
 generalize D0 X.Ap=o at q i
 cases o with
 |some k=>
  have bk:=d4 i.1
  unfold RL
  nofun
  refine jI G Z L bk (B.to (by decide)) λh1 Z1 m1=> ?_
  nofun
  exact q _ Z1 m1
 |none=>
  unfold RL
  nofun
  refine bu (r':={ X.r with tries:=X.r.tries+1 }) G Z rfl (a6 _ _ _) λh1 Z1 m1=> ?_
  have H5:=Z1.rc
  nofun
  refine ay (d:=Gc) (b:=EJ) rfl ⟨rfl,rfl,rfl,rfl,rfl,rfl⟩ ?_
  refine kG (now:=now) (sp:=false) G Z1 (m1.alive L) ⟨B.so,B.bt,B.bl,B.bA⟩ (λY e=>by rw[e,mC];exact bp) (by rfl) (by rfl) (by rfl) λh2 Z2 m2=> ?_
  nofun
  exact q _ Z2 ((m1.mono rfl).trans m2)
def EZ (l:List Int)(x:Int):Nat:=(l.filter λy=>decide (y < x)).length
def qM {l:List Int}{x:Int}(so:l.Pairwise (· < ·))(i:Nat)(hi:i < l.length):(l[i] < x->i < EZ l x)/\(x<=l[i]->EZ l x<=i):=by
 induction l generalizing i with
 |nil=>exact absurd hi (Nat.not_lt_zero _)
 |cons y l ih=>
  obtain⟨s1,s2⟩:=List.pairwise_cons.mp so
  unfold EZ
  rw[List.filter_cons]
  cases i with
  |zero=>
   show(y < x->_)/\(x<=y->_)
   refine⟨λz=>by rw[if_pos (decide_eq_true z)];exact Nat.zero_lt_succ _,λz=> ?_⟩
   rw[if_neg (by rw[decide_eq_false (Int.not_lt.mpr z)];exact λz=>nomatch z),List.filter_eq_nil_iff.mpr λw m e=>absurd (of_decide_eq_true e) (Int.not_lt.mpr (Int.le_trans z (Int.le_of_lt (s1 w m))))]
   exact Nat.le_refl _
  |succ i=>
   have hi:=Nat.lt_of_succ_lt_succ hi
   obtain⟨a,b⟩:=ih s2 i hi
   show(l[i] < x->_)/\(x<=l[i]->_)
   refine⟨λz=> ?_,λz=> ?_⟩
   ·rw[if_pos (decide_eq_true (Int.lt_trans (s1 _ (List.getElem_mem hi)) z))]
    exact Nat.succ_lt_succ (a z)
   ·have :=b z
    unfold EZ at this
    split
    ·exact Nat.succ_le_succ this
    ·exact Nat.le_succ_of_le this
def qN (l:List Int)(x:Int):EZ l x<=l.length:=List.length_filter_le _ _
def jG {c:Nat}{l:List Int}{x:Int}(H:h c=some (.lst (l.map .int)))(so:l.Pairwise (· < ·))(q:Q (.int (EZ l x)) h):Bp (n+1) FB [.ref c,.int x] [] Q h:=by
 refine ay (d:=JP) (b:=Me) rfl ⟨rfl,rfl,rfl,rfl,rfl,rfl⟩ ?_
 refine aD ?_
 nofun
 rw[List.length_map]
 have go:∀ (k lo hi:Nat) (e:AZ),hi - lo < k->lo<=EZ l x->EZ l x<=hi->hi<=l.length->e Bk=some (.ref c)->e AU=some (.int x)->e GS=some (.int lo)->e IY=some (.int hi)->
   PD (An (Ab (Aw DZ) (Aa GS) (Aa IY))) (Ak (Af (AA Hg) (Ab CT (Ab BA (Aa GS) (Aa IY)) (Ag (.int 2))))
  (AS (An (Ab (Aw DZ) (Ab Au (Aa Bk) (Aa Hg)) (Aa AU))) (Af (AA GS) (Ab BA (Aa Hg) (Ag (.int 1)))) (Af (AA IY) (Aa Hg)))) (Bp n) k e (EG (BZ (Aa GS)) (Bp n) (Dp Q)) h:=λk=>by
  induction k with
  |zero=>exact λlo hi e b=>absurd b (Nat.not_lt_zero _)
  |succ k ih=>
   intro lo hi e b b1 b2 b3 e1 e2 e3 e4
   show An (Ab (Aw DZ) (Aa GS) (Aa IY)) (Bp n) e (λc h=>cond c (Ak _ _ (Bp n) e (Iq (λe h=>PD _ _ (Bp n) k e (EG (BZ (Aa GS)) (Bp n) (Dp Q)) h) (EG (BZ (Aa GS)) (Bp n) (Dp Q))) h) (EG (BZ (Aa GS)) (Bp n) (Dp Q) .next e h)) h
   nofun
   refine a9 (λz=> ?_) λz=> ?_
   rotate_left
   ·nofun
    rw[show EZ l x=lo by omega] at q
    exact q
   have z:lo < hi:=by omega
   nofun
   have em:Int.fdiv ((lo:Int)+hi) 2=((lo+hi) / 2:Nat):=by
    rw[Int.fdiv_eq_ediv_of_nonneg _ (by decide)];omega
   rw[em]
   have hm:(lo+hi) / 2 < l.length:=by omega
   refine bP H (v:= .int (l[(lo+hi) / 2])) ?_ ?_
   ·unfold MY
    rw[gE (by omega)]
    show(l.map V.int)[((lo+hi) / 2:Nat)]? =_
    rw[List.getElem?_map,List.getElem?_eq_getElem hm];rfl
   obtain⟨Kh,l2⟩:=qM (x:=x) so _ hm
   nofun
   refine a9 (λz2=> ?_) λz2=> ?_
   ·nofun
    exact ih ((lo+hi) / 2+1) hi _ (by omega) (Kh z2) b2 b3 e1 e2 (by rfl) e4
   ·nofun
    exact ih lo ((lo+hi) / 2) _ (by omega) b1 (l2 z2) (by omega) e1 e2 e3 (by rfl)
 refine⟨l.length+1,?_⟩
 exact go _ 0 l.length _ (by omega) (Nat.zero_le _) (qN l x) (Nat.le_refl _) (by rfl) (by rfl) (by rfl) (by rfl)
end
def RM (l:Nat)(h h':H):Prop:=∀ b o,b≠l->h b=some o->h' b=some o
abbrev Vc (s e:Int):List (Nat×V):= [(BQ,.int s),(BO,.int e)]
abbrev No:=Nat×Int×Int
structure Kk (a l:Nat)(rg:List No)(h:H):Prop where
 s:∃ d,h a=some (.ins IW d (DQ [(CB,.ref l)]))
 l:h l=some (.lst (rg.map λr=> .ref r.1))
 r:∀ r∈rg,∃ d,h r.1=some (.ins JQ d (DQ (Vc r.2.1 r.2.2)))
def OL (x:Int):List (Int×Int)->List (Int×Int):=λl=> @List.rec _ (λJ=>List (Int×Int)) [(x,x+1)] (λp J ih=>if p.2=x then [(p.1,x+1)] else p::ih) l
def dC {x:Int}:∀ (l r:List (Int×Int)),(∀ p∈l,p.2≠x)->OL x (l++r)=l++OL x r
 | [],_,_=>rfl
 |p::l,r,z=>by
  show(if p.2=x then [(p.1,x+1)] else p::OL x (l++r))=p::(l++OL x r)
  rw[if_neg (z p (.head _)),dC l r λq m=>z q (.tail _ m)]
def lG {α:Type}(l:List α)(g:α->V):JA (l.map g)=l.zipIdx.map λp=> .tup [.int p.2,g p.1]:=by
 apply List.ext_getElem?
 intro i
 rw[JA,List.getElem?_zipWith,List.getElem?_map,List.getElem?_map,List.getElem?_zipIdx,List.length_map]
 cases e:l[i]? with
 |none=>simp
 |some v=>rw[List.getElem?_range (List.getElem?_eq_some_iff.mp e).1];simp
section
variable {n:Nat}{R D T:Nat->Nat}{S:List Nat}{h h' h0:H}{X Y:Bz}{Q:V->H->Prop}{cf:Cc}
def c8 {C f:Nat}{es:List V}{ks:List (Nat×V)}(he:look C PA=some f)(q:∀ a d,a≠d->h a=none->h d=none->cf f (.ref a::es) ks (λr h=>r.isNone=true/\Q (.ref a) h) (F5 h C a d)):KW cf C es ks Q h:=ae he q
def jJ {s e:Int}(q:∀ a h',h a=none->(∃ d,h' a=some (.ins JQ d (DQ (Vc s e))))->(∀ b o,h b=some o->h' b=some o)->Q (.ref a) h'):KW (Bp (n+1)) JQ [.int s,.int e] [] Q h:=by
 refine c8 rfl λa d ne ha hd=> ?_
 refine ay (d:=NA) (b:=Nv) rfl ⟨rfl,rfl,rfl,rfl,rfl,rfl⟩ ?_
 have H0:F5 h JQ a d a=some (.ins JQ d (DQ [])):=(ab _ _ ne).trans (aa ..)
 have ext:∀ o b w,h b=some w->Ad (F5 h JQ a d) a o b=some w:=λo b w z=>by
  unfold F5
  rw[ab _ _ (az (e1:=ha) z),ab _ _ (az (e1:=hd) z),ab _ _ (az (e1:=ha) z)];exact z
 generalize F5 h JQ a d=h1 at H0 ext ⊢
 refine aD ?_
 nofun
 refine aE H0 rfl ?_
 nofun
 refine aT rfl ?_
 nofun
 exact q _ _ ha ⟨d,aa ..⟩ (ext _)
def wQ {t:Ev}{b:A2}{e:AZ}{Q:DJ->AZ->H->Prop}(ht:∀ K:Bool->H->Prop,K false h->t cf e K h)(q:Q .next e h):QB t b cf e Q h:=⟨1,ht _ q⟩
def u0 {a l:Nat}{x:Int}{rg:List No}(W:Kk a l rg h)(hx:∀ p∈rg.zipIdx,p.1.2.2 < x\/(p.1.2.2=x/\p.2+1=rg.length))(hs:∀ p∈rg,p.2.1 < x)(bl:rg.length < 1000)
  (q:∀ h' rg',Kk a l rg' h'->rg'.map (·.2)=OL x (rg.map (·.2))->(rg'.length<=rg.length+1/\∀ r∈rg',r∈rg\/h r.1=none)->RM l h h'->Q .none h'):Bp (n+2) Qg [.ref a,.int x] [] Q h:=by
 obtain⟨d,Ha⟩:=W.s
 have Hl:=W.l
 have nal:a≠l:=λz=>by rw[z,Hl] at Ha;cases Ha
 have nrl:∀ r∈rg,r.1≠l:=λr m z=>by obtain⟨d,e⟩:=W.r r m;rw[z,Hl] at e;cases e
 refine ay (d:=Qf) (b:=PZ) rfl ⟨rfl,rfl,rfl,rfl,rfl,rfl⟩ ?_
 refine aD ?_
 nofun
 refine⟨decide_eq_true (by omega),?_⟩
 nofun
 refine ae (a:=l) rfl (ae (au Hl) ?_)
 rw[show(OZ l (rg.map λr=>V.ref r.1)).xs=rg.zipIdx.map (λp=>V.tup [.int p.2,.ref p.1.1]) from lG _ _]
 generalize ee:Ad _ BO _=e0
 have f1:e0 Ac=some (.ref a):=by rw[<-ee];rfl
 have f2:e0 BQ=some (.int x):=by rw[<-ee];rfl
 have f3:e0 BO=some (.int (x+1)):=by rw[<-ee];rfl
 clear ee
 refine aU (f:=λp:No×Nat=>V.tup [.int p.2,.ref p.1.1]) (λr e h'=>h'=h/\By [Ox,Jg] e0 e/\∃ pre,rg.zipIdx=pre++r/\∀ p∈pre,p.1.2.2≠x) (λr e h' i=>by rw[i.1];exact au Hl) aB (λp r e h' i kk hk=> ?_) (λe h' i=> ?_) rg.zipIdx _ _ ⟨rfl,.refl _ _,[],rfl,λJ m=>nomatch m⟩
 ·obtain⟨rfl,k1,pre,e1,np⟩:=i
  have mp:p∈rg.zipIdx:=by rw[e1];exact List.mem_append_right _ (.head _)
  have mr:=List.fst_mem_of_mem_zipIdx mp
  obtain⟨dr,Hr⟩:=W.r _ mr
  have s1:=hs _ mr
  have g1:=(k1 Ac rfl).trans f1
  have g2:=(k1 BQ rfl).trans f2
  have g3:=(k1 BO rfl).trans f3
  nofun
  refine a9 (λz=>absurd z (by omega)) λJ=> ?_
  nofun
  refine a9 (λz=> ?_) λz=> ?_
  ·nofun
   refine hk _ _ ⟨rfl,(k1.set rfl).set rfl,pre++ [p],by rw[e1,List.append_assoc];rfl,λy m=>(List.mem_append.mp m).elim (np y) λm=> ?_⟩
   rw[List.mem_singleton.mp m];exact Int.ne_of_lt z
  obtain⟨ex,el⟩:=(hx p mp).resolve_left (Int.not_lt.mpr z)
  nofun
  rw[if_pos s1,if_neg (show ¬ x+1 < p.1.2.2 by omega)]
  refine wQ (λK q=> ?_) ?_
  ·nofun
   rw[List.length_map]
   refine a9 (λz=>absurd z (by omega)) λJ=> ?_
   exact q
  nofun
  refine jJ λb h2 hb Hb ext=> ?_
  have H2:=ext _ _ Ha
  have L2:=ext _ _ Hl
  nofun
  refine fK L2 ⟨by omega,by rw[List.length_map];omega⟩ ?_
  nofun
  have nbl:b≠l:=λz=>by rw[z,Hl] at hb;cases hb
  refine q _ (rg.set p.2 (b,p.1.2.1,x+1)) ⟨⟨d,(ab _ _ nal).trans H2⟩,?_,λr m=> ?_⟩ ?_ ⟨by rw[List.length_set];exact Nat.le_succ _,λr m=>(List.mem_or_eq_of_mem_set m).imp id λe=>by rw[e];exact hb⟩ λc o nc e=>(ab _ _ nc).trans (ext _ _ e)
  ·rw[aa,Int.toNat_natCast,List.map_set]
  ·rcases List.mem_or_eq_of_mem_set m with m|rfl
   ·obtain⟨d,e⟩:=W.r r m
    exact⟨d,(ab _ _ (nrl r m)).trans (ext _ _ e)⟩
   ·obtain⟨d,e⟩:=Hb
    exact⟨d,(ab _ _ nbl).trans e⟩
  ·
   have iY:pre.length=p.2:=by
    have :=congrArg (λl=>l[pre.length]?) e1
    simp only[List.getElem?_append_right (Nat.le_refl _),Nat.sub_self,List.getElem?_cons_zero,List.getElem?_zipIdx] at this
    obtain⟨w,_,e⟩:=Option.map_eq_some_iff.mp this
    rw[<-e];exact(Nat.zero_add _).symm
   have hr:r= []:=by
    have :=congrArg List.length e1
    rw[List.length_zipIdx,List.length_append,List.length_cons] at this
    exact List.eq_nil_of_length_eq_zero (by omega)
   subst hr
   have er:rg=pre.map (·.1)++ [p.1]:=by
    have :=congrArg (List.map Prod.fst) e1
    rw[List.zipIdx_map_fst,List.map_append] at this;exact this
   have el2:(pre.map (·.1)).length=p.2:=by rw[List.length_map];exact iY
   generalize p.1=p1 at *
   generalize p.2=p2 at *
   rw[er,List.set_append_right _ _ (by omega),el2,Nat.sub_self,List.map_append,List.map_append,dC]
   ·show _=_++(if p1.2.2=x then [(p1.2.1,x+1)] else _)
    rw[if_pos ex];rfl
   ·intro y m
    obtain⟨z,m,ey⟩:=List.mem_map.mp m
    obtain⟨w,m,ez⟩:=List.mem_map.mp m
    rw[<-ey,<-ez];exact np w m
 ·obtain⟨rfl,k1,pre,e1,np⟩:=i
  have g1:=(k1 Ac rfl).trans f1
  have g2:=(k1 BQ rfl).trans f2
  have g3:=(k1 BO rfl).trans f3
  nofun
  refine jJ λb h2 hb Hb ext=> ?_
  have L2:=ext _ _ Hl
  have nbl:b≠l:=λz=>by rw[z,Hl] at hb;cases hb
  nofun
  refine fH L2 (by rw[List.length_map];exact Nat.lt_trans bl (by decide)) ?_
  nofun
  refine q _ (rg++ [(b,x,x+1)]) ⟨⟨d,(ab _ _ nal).trans (ext _ _ Ha)⟩,by rw[aa,List.map_append];rfl,λr m=> ?_⟩ ?_ ⟨by rw[List.length_append];exact Nat.le_refl _,λr m=>(List.mem_append.mp m).imp id λm=>by rw[List.mem_singleton.mp m];exact hb⟩ λc o nc e=>(ab _ _ nc).trans (ext _ _ e)
  ·rcases List.mem_append.mp m with m|m
   ·obtain⟨d,e⟩:=W.r r m
    exact⟨d,(ab _ _ (nrl r m)).trans (ext _ _ e)⟩
   ·rw[List.mem_singleton.mp m]
    obtain⟨d,e⟩:=Hb
    exact⟨d,(ab _ _ nbl).trans e⟩
  ·have er:rg=pre.map (·.1):=by
    have :=congrArg (List.map Prod.fst) e1
    rw[List.zipIdx_map_fst,List.append_nil] at this;exact this
   have :=dC (rg.map (·.2)) [] (x:=x) λy m=>by
    obtain⟨z,m,ey⟩:=List.mem_map.mp m
    rw[er] at m
    obtain⟨w,m,ez⟩:=List.mem_map.mp m
    rw[<-ey,<-ez];exact np w m
   rw[List.append_nil] at this
   rw[List.map_append,this];rfl
end
theorem By.trans {l:List Nat}{e e' e'':AZ}(x:By l e e')(y:By l e' e''):By l e e'':=λn z=>(y n z).trans (x n z)
theorem By.sub {l m:List Nat}{e e':AZ}(x:By l e e')(s:l.all (AM · m)=true):By m e e':=λn z=>x n (by
 cases q:AM n l with
 |false=>rfl
 |true=>rw[dQ s q] at z;cases z)
def nP {l:List Int}{x:Int}(so:l.Pairwise (· < ·)):l.take (EZ l x)=l.filter λy=>decide (y < x):=by
 induction l with
 |nil=>rfl
 |cons y l ih=>
  obtain⟨s1,s2⟩:=List.pairwise_cons.mp so
  unfold EZ
  rw[List.filter_cons]
  by_cases z:y < x
  ·rw[if_pos (decide_eq_true z)]
   show y::l.take (EZ l x)=_
   rw[ih s2]
  ·rw[if_neg (by rw[decide_eq_false z];exact λz=>nomatch z),List.filter_eq_nil_iff.mpr λw m e=>absurd (of_decide_eq_true e) (Int.not_lt.mpr (Int.le_trans (Int.not_lt.mp z) (Int.le_of_lt (s1 w m))))]
   rfl
def mD {l:List Int}{x:Int}(so:l.Pairwise (· < ·)):l.drop (EZ l x)=l.filter λy=>decide (x<=y):=by
 induction l with
 |nil=>rfl
 |cons y l ih=>
  obtain⟨s1,s2⟩:=List.pairwise_cons.mp so
  unfold EZ
  rw[List.filter_cons,List.filter_cons]
  by_cases z:y < x
  ·rw[if_pos (decide_eq_true z),if_neg (by rw[decide_eq_false (Int.not_le.mpr z)];exact λz=>nomatch z)]
   exact ih s2
  ·have z:=Int.not_lt.mp z
   rw[if_neg (by rw[decide_eq_false (Int.not_lt.mpr z)];exact λz=>nomatch z),if_pos (decide_eq_true z),List.filter_eq_nil_iff.mpr λw m e=>absurd (of_decide_eq_true e) (Int.not_lt.mpr (Int.le_trans z (Int.le_of_lt (s1 w m)))),List.filter_eq_self.mpr λw m=>decide_eq_true (Int.le_trans z (Int.le_of_lt (s1 w m)))]
   rfl
def JV (p:Int×Int)(r:Aj):Bool:=decide (p.1<=r.num) && decide (r.num < p.2)
def lR {rows:List Aj}{p:Int×Int}(so:rows.Pairwise λa b=>a.num < b.num)(b:p.1<=p.2):GH ((rows.map Aj.num).map V.int) (EZ (rows.map Aj.num) p.1) (some (EZ (rows.map Aj.num) p.2))=(rows.filter (JV p)).map λr=> .int r.num:=by
 have so2:(rows.map Aj.num).Pairwise (· < ·):=List.pairwise_map.mpr so
 show((rows.map Aj.num|>.map V.int).take (Int.toNat _)).drop (Int.toNat _)=_
 rw[Int.toNat_natCast,Int.toNat_natCast,<-List.map_take,<-List.map_drop,nP so2]
 have e:EZ (rows.map Aj.num) p.1=EZ ((rows.map Aj.num).filter λy=>decide (y < p.2)) p.1:=by
  unfold EZ
  rw[List.filter_filter]
  refine congrArg _ (congrFun (congrArg _ (funext λy=> ?_)) _)
  by_cases z:y < p.1
  ·rw[decide_eq_true z,decide_eq_true (Int.lt_of_lt_of_le z b)];rfl
  ·rw[decide_eq_false z];rfl
 rw[e,mD (so2.filter _),List.filter_filter,List.filter_map,List.map_map]
 rfl
section
variable {n:Nat}{R D T:Nat->Nat}{S:List Nat}{h h' h0:H}{X Y:Bz}{Q:V->H->Prop}{cf:Cc}
def oO {a l:Nat}{rg:List No}{r0 r1:No}(W:Kk a l rg h)(e0:rg.head? =some r0)(e1:rg.getLast? =some r1)(q:∀ b h',h b=none->(∃ d,h' b=some (.ins JQ d (DQ (Vc r0.2.1 r1.2.2))))->(∀ b o,h b=some o->h' b=some o)->Q (.ref b) h'):Bp (n+2) ND [.ref a] [] Q h:=by
 obtain⟨d,Ha⟩:=W.s
 have Hl:=W.l
 obtain⟨d0,H0⟩:=W.r r0 (List.mem_of_head? e0)
 obtain⟨d1,H1⟩:=W.r r1 (List.mem_of_getLast? e1)
 refine ay (d:=Ny) (b:=Nt) rfl ⟨rfl,rfl,rfl,rfl,rfl,rfl⟩ ?_
 have i0:MY (rg.map λr=>V.ref r.1) 0=some (.ref r0.1):=by
  cases rg with
  |nil=>cases e0
  |cons x l=>cases e0;rfl
 have i1:MY (rg.map λr=>V.ref r.1) (-1)=some (.ref r1.1):=by
  unfold MY Jt
  rw[if_neg (by decide),List.length_map]
  cases rg with
  |nil=>cases e1
  |cons x l=>
   rw[if_pos (by rw[List.length_cons];omega)]
   show(List.map _ (x::l))[_]? =_
   rw[List.getElem?_map,show(-1+((x::l).length:Int)).toNat=(x::l).length - 1 by rw[List.length_cons];omega,<-List.getLast?_eq_getElem?,e1];rfl
 refine fO ?_
 nofun
 refine jJ λb h' hb Hb ext=> ?_
 nofun
 exact q b h' hb Hb ext
def EX (X:Bz)(k:Nat)(rs:List Aj):Bz:={ Mv X k rs 0 with bf:=X.bf - ((rs.filter Aj.flight).map Aj.sz).sum,A:=X.A+((rs.filter Aj.flight).map Aj.sz).sum }
def lE (l:List Aj)(a:Aj)(s:List Aj):(s.filter (CC l)).filter (λx=>x.num !=a.num)=s.filter (CC (l++ [a])):=by
 rw[List.filter_filter]
 refine congrFun (congrArg _ (funext λx=> ?_)) _
 unfold CC
 rw[List.any_append,Bool.not_or,bne_comm,Bool.and_comm,List.any_cons,List.any_nil,Bool.or_false];rfl
def Ot (f:Aj->Int)(l:List Aj):V:=match l.getLast? with |none=> .none|some r=> .int (f r)
abbrev Oh:List Nat:= [AH,Am,AB,BB,Br,DG,FM]
structure PN (R:Nat->Nat)(k:Nat)(now:Int)(l:List Aj)(e:AZ):Prop where
 s:e Ac=some (.ref (R 5))
 sp:e Ae=some (.ref (R (k+8)))
 nw:e Av=some (.int now)
 a:e AB=some (.bool (l.any Aj.asks))
 n:e BB=some (Ot Aj.num l)
 t:e Br=some (Ot Aj.tm l)
def uL {e:AZ}{Q:DJ->AZ->H->Prop}{a:Aj}{k:Nat}{cnt top:Int}{Ap:Option Int}{b:Bool}(G:A9 T R)(bk:k < 3)(ep:e Am=some (.ref a.p))(es:e Ae=some (.ref (R (k+8))))(eb:e AB=some (.bool b))(P:Em T a h)(C:EQ R D k cnt top Ap h)
  (q:∀ e' h',By [AB] e e'->e' AB=some (.bool (b||a.asks))->EQ R D k (cnt - cond a.asks 1 0) top Ap h'->Mod T [k+8] h h'->Q .next e' h'):AS (An (Al (Aa Am) AB)) (Ak (Af (AA AB) (Ag (.bool true)))
  (EC Cv (Aa Ae) Ax (Ag (.int 1)))) AN cf e Q h:=by
 have C0:=C
 have P:=P.1.1
 obtain⟨aq,rp,H⟩:=C
 nofun
 cases hf:a.asks with
 |true=>
  rw[hf] at q
  nofun
  refine jY G bk C0 λh' C' m=> ?_
  nofun
  exact q _ _ (By.set (.refl _ _) rfl) (by rw[Bool.or_true];rfl) C' m
 |false=>
  rw[hf] at q
  nofun
  exact q _ _ (.refl _ _) (by rw[Bool.or_false];exact eb) (by rw[show cnt - cond false 1 0=cnt from Int.sub_zero cnt];exact C0) (.refl _)
def vP {e:AZ}{Q:DJ->AZ->H->Prop}{a:Aj}{rho:FI}{bf A now:Int}(G:A9 T R)(H5:h (R 5)=some (.ins DE (D 5) (Ld R rho)))(ep:e Am=some (.ref a.p))(es:e Ac=some (.ref (R 5)))(en:e Av=some (.int now))(P:Em T a h)(C:EB R D bf A h)(z0:0<=a.sz)(bA:A+a.sz<=1000000)
  (q:∀ h',EB R D (bf - cond a.flight a.sz 0) (A+cond a.flight a.sz 0) h'->Mod T [1] h h'->Q .next e h'):AS (An (Al (Aa Am) CE)) (Bx (Bh (Al (Aa Ac) Dj) EU As (Aq Am (Aa Am) (Aq Av (Aa Av) Az)))) AN (Bp (n+1)) e Q h:=by
 have P1:=P.1.1
 nofun
 cases hf:a.flight with
 |true=>
  rw[hf] at q
  obtain⟨f,cw,st,ss,cr,H,b,w,s,m,c,t,o,no,si,g,M⟩:=C
  nofun
  refine cY H (by exact(cR no rfl).trans rfl) ?_
  nofun
  refine lI G (.mk f cw st ss cr H b w s m c t o no si g M) P z0 bA λh' C' m=> ?_
  nofun
  exact q _ C' m
 |false=>
  rw[hf] at q
  nofun
  exact q _ (by rw[show bf - cond false a.sz 0=bf from Int.sub_zero bf,show A+cond false a.sz 0=A from Int.add_zero A];exact C) (.refl _)
def py (l:List Aj)(a:Aj):(((l++ [a]).filter Aj.flight).map Aj.sz).sum=((l.filter Aj.flight).map Aj.sz).sum+cond a.flight a.sz 0:=by
 rw[List.filter_append,List.map_append,List.sum_append,aV]
 cases a.flight
 ·rfl
 ·exact congrArg (_+ ·) (Int.add_zero _)
def lh (l:List Aj)(a:Aj):(((l++ [a]).filter Aj.asks).length:Int)=((l.filter Aj.asks).length:Int)+cond a.asks 1 0:=by
 rw[List.filter_append,List.length_append,aV]
 cases a.asks <;> rfl
def uO {e:AZ}{k:Nat}{now:Int}{l:List Aj}{a:Aj}{Q:DJ->AZ->H->Prop}(G:A9 T R)(Z:Bb T R D (EX X k l) h)(bk:k < 3)(E:PN R k now l e)(ma:a∈X.Ar k)(na:CC l a=true)(nd:((X.Ar k).map Aj.num).Nodup)(z0:0<=a.sz)(bA:(EX X k l).A+a.sz<=1000000)(bt:(EX X k l).told.length+2<=1000)
  (q:∀ e' h',By Oh e e'->PN R k now (l++ [a]) e'->Bb T R D (EX X k (l++ [a])) h'->Mod T ES h h'->Q .next e' h'):
  Ak (Af (AA Am) (N0 (Al (Aa Ae) Bi) (Aa AH)))
  (Ak (AS (An (Al (Aa Am) AB)) (Ak (Af (AA AB) (Ag (.bool true)))
  (EC Cv (Aa Ae) Ax (Ag (.int 1)))) AN)
  (Ak (AS (An (Al (Aa Am) CE)) (Bx (Bh (Al (Aa Ac) Dj) EU As (Aq Am (Aa Am) (Aq Av (Aa Av) Az)))) AN)
  (Ak (Af (AA BB) (Aa AH))
  (Ak (Af (AA Br) (Al (Aa Am) Bg))
  (Ck (JI [DG,FM]) (Cx CY (Al (Aa Am) BN)) (Bx (Bh (Aa Ac) EA (Ah (Aa DG) (Ah (Ag (.int 0)) (Ah (Aa FM) As))) Az))))))) (Bp (n+2)) (Ad e AH (some (.int a.num))) Q h:=by
 have Hd:=Z.dd k bk
 have Hs:=Z.sp k bk
 obtain⟨aq,rp,Hs⟩:=Hs
 obtain⟨ep,Hd⟩:=Hd
 have Hd:h (R (k+11))=some (.BM ep (((X.Ar k).filter (CC l)).map λr=>(r.num,.ref r.p))):=by
  rw[show(EX X k l).Ar k=(X.Ar k).filter (CC l) from aa ..] at Hd;exact Hd
 have es:=E.sp
 have ma':a∈(X.Ar k).filter (CC l):=List.mem_filter.mpr ⟨ma,na⟩
 have P:=Z.pk k bk a (by rw[show(EX X k l).Ar k=(X.Ar k).filter (CC l) from aa ..];exact ma')
 nofun
 refine pR Hd (gN ma' (c7 _ nd)) λep'=> ?_
 rw[jh]
 have Z1:=Bb.del (X:=EX X k l) (f:=X.Ar) (s:=(X.Ar k).filter (CC l)) (a:=a) (ep:=ep') G bk Z
 have P1:=P.mod (b8 (o:= .BM ep' ((((X.Ar k).filter (CC l)).filter λx=>x.num !=a.num).map λr=>(r.num,.ref r.p))) (h:=h) G bk) (bR bk).2.2
 have m1:=(b8 (o:= .BM ep' ((((X.Ar k).filter (CC l)).filter λx=>x.num !=a.num).map λr=>(r.num,.ref r.p))) (h:=h) G bk).mono (fq bk).2
 generalize Ad h (R (k+11)) (some (.BM ep' ((((X.Ar k).filter (CC l)).filter λx=>x.num !=a.num).map λr=>(r.num,.ref r.p))))=h1 at Z1 P1 m1 ⊢
 rw[lE] at Z1
 have C1:=Z1.sp k bk
 rw[show({ EX X k l with Ar:=Ad X.Ar k ((X.Ar k).filter (CC (l++ [a]))) }:Bz).cnt k=X.cnt k - ((l.filter Aj.asks).length:Int) from aa ..] at C1
 iterate 2 eq_refl
 refine uL (e:=Ad (Ad e AH (some (.int a.num))) Am (some (.ref a.p))) G bk rfl E.sp E.a P1 C1 λe2 h2 k2 eb2 C2 m2=> ?_
 have Z2:=Z1.Sv G bk m2 C2
 rw[show Ad ({ EX X k l with Ar:=Ad X.Ar k ((X.Ar k).filter (CC (l++ [a]))) }:Bz).cnt k (X.cnt k - ((l.filter Aj.asks).length:Int) - cond a.asks 1 0)=Ad X.cnt k (X.cnt k - (((l++ [a]).filter Aj.asks).length:Int)) by rw[lh,<-Int.sub_sub];exact cn ..] at Z2
 have P2:=P1.mod m2 (bR bk).1.2
 have m3:=m1.trans (m2.mono (fq bk).1)
 clear Z1 C1 C2 P1 m1 m2
 iterate 2 eq_refl
 refine vP (e:=e2) G Z2.rc ((k2 Am rfl).trans rfl) ((k2 Ac rfl).trans E.s) ((k2 Av rfl).trans E.nw) P2 Z2.cc z0 bA λh3 C3 m4=> ?_
 have Z3:=Z2.P9 G (m4.mono rfl) C3
 have P3:=P2.mod m4 rfl
 have P4:=P3.1.1
 have ep2:e2 Am=some (.ref a.p):=(k2 Am rfl).trans rfl
 have en2:e2 AH=some (.int a.num):=(k2 AH rfl).trans rfl
 iterate 8 eq_refl
 refine iH (e:=Ad (Ad e2 BB (some (.int a.num))) Br (some (.int a.tm))) (l:=X.told++l.flatMap (I3 0)) G ((k2 Ac rfl).trans E.s) ep2 Z3.rc P3 Z3.told bt λe4 h4 k4 H6 m5=> ?_
 have Z4:=Z3.TF G m5 H6
 refine q _ _ (By.trans (By.set (By.set (By.trans (By.set (By.set (.refl _ _) rfl) rfl) (k2.sub rfl)) rfl) rfl) (k4.sub rfl)) ⟨?_,?_,?_,?_,?_,?_⟩ ?_ (m3.trans ((m4.mono rfl).trans (m5.mono rfl)))
 ·exact(k4 Ac rfl).trans ((k2 Ac rfl).trans E.s)
 ·exact(k4 Ae rfl).trans ((k2 Ae rfl).trans E.sp)
 ·exact(k4 Av rfl).trans ((k2 Av rfl).trans E.nw)
 ·refine(k4 AB rfl).trans (eb2.trans ?_)
  rw[List.any_append,List.any_cons,List.any_nil,Bool.or_false]
 ·refine(k4 BB rfl).trans ?_
  unfold Ot;rw[List.getLast?_append];rfl
 ·refine(k4 Br rfl).trans ?_
  unfold Ot;rw[List.getLast?_append];rfl
 ·unfold EX Mv
  rw[py,List.flatMap_append,<-List.append_assoc,<-Int.sub_sub,<-Int.add_assoc,show [a].flatMap (I3 0)=I3 0 a from List.append_nil _]
  exact Z4
end
def HR (r:FI)(sample:Int):FI:={ r with AR:=if sample < 1000 then 1000 else sample }
def HT (r:FI):FI:={ r with CI:=some (match r.CI with |none=>r.AR|some m=>if r.AR < m then r.AR else m) }
def Iu (r:FI)(d:Int):FI:={ r with AR:=match r.CI with |none=>r.AR|some m=>if m+d < r.AR then r.AR - d else r.AR }
def Qu (r:FI)(sample now:Int):FI:=match r.ini with
 |false=>{ r with fs:=now,ini:=true,var:=Int.fdiv sample 2,Cd:=sample }
 |true=>match r.CI with
  |none=>r
  |some m=>{ r with var:=Int.fdiv (3*r.var+(if m - r.AR < 0 then -(m - r.AR) else m - r.AR)) 4,Cd:=Int.fdiv (7*r.Cd+r.AR) 8 }
def OY (r:FI)(sample d now:Int):FI:=Qu (Iu (HT (HR r sample)) d) sample now
def kL {r:FI}{d v:Int}(e:r.CI=some v):Iu r d= { r with AR:=if v+d < r.AR then r.AR - d else r.AR }:=by cases r;cases e;rfl
def kN {r:FI}{s now v:Int}(e:r.CI=some v)(c:r.ini=true):Qu r s now= { r with var:=Int.fdiv (3*r.var+(if v - r.AR < 0 then -(v - r.AR) else v - r.AR)) 4,Cd:=Int.fdiv (7*r.Cd+r.AR) 8 }:=by cases r;cases e;cases c;rfl
def jS {r:FI}{s now:Int}(c:r.ini=false):Qu r s now= { r with fs:=now,ini:=true,var:=Int.fdiv s 2,Cd:=s }:=by cases r;cases c;rfl
section
variable {n:Nat}{R D T:Nat->Nat}{S:List Nat}{h h' h0:H}{X Y:Bz}{Q:DJ->AZ->H->Prop}{cf:Cc}{e:AZ}
def vT {s:Int}(G:A9 T R)(Z:Bb T R D X h)(es:e Ac=some (.ref (R 5)))(el:e BF=some (.int s))(q:∀ h',Bb T R D { X with r:=HR X.r s } h'->Mod T [5] h h'->Q .next e h'):Af (AX (Aa Ac) A0) (Ab (Aw Fg) (Aa BF) (Ag (.int 1000))) cf e Q h:=by
 nofun
 exact bu (r':=HR X.r s) G Z rfl (a6 _ _ _) λh' Z' m=>q _ Z' m
def vU (G:A9 T R)(Z:Bb T R D X h)(es:e Ac=some (.ref (R 5)))(q:∀ h',Bb T R D { X with r:=HT X.r } h'->Mod T [5] h h'->Q .next e h'):AS (Fk (An (Ab F3 (Al (Aa Ac) BW) (Ag .none))) (An (Ab (Aw DZ) (Al (Aa Ac) A0) (Al (Aa Ac) BW)))) (Af (AX (Aa Ac) BW) (Al (Aa Ac) A0)) AN cf e Q h:=by
 have H5:=Z.rc
 unfold HT at q
 nofun
 cases e1:X.r.CI with
 |none=>
  rw[e1] at q
  refine k7 ?_
  nofun
  exact bu (r':={ X.r with CI:=some X.r.AR }) G Z rfl (a6 _ _ _) λh' Z' m=>q _ Z' m
 |some v=>
  rw[e1] at q
  refine kZ ?_
  nofun
  rw[e1]
  refine we ?_
  nofun
  refine a9 (λc=> ?_) λc=> ?_
  ·nofun
   exact bu (r':={ X.r with CI:=some X.r.AR }) G Z rfl (a6 _ _ _) λh' Z' m=>q _ (by show Bb T R D { X with r:={ X.r with CI:=some (if X.r.AR < v then X.r.AR else v) } } h';rw[if_pos c];exact Z') m
  ·nofun
   refine q _ ?_ (.refl _)
   show Bb T R D { X with r:={ X.r with CI:=some (if X.r.AR < v then X.r.AR else v) } } h
   rw[if_neg (Int.not_lt.mpr c)]
   have :({ X.r with CI:=some v }:FI)=X.r:=by rw[<-e1]
   rw[this];exact Z
def vV {d v:Int}(G:A9 T R)(Z:Bb T R D X h)(es:e Ac=some (.ref (R 5)))(ed:e Bn=some (.int d))(e1:X.r.CI=some v)(q:∀ h',Bb T R D { X with r:=Iu X.r d } h'->Mod T [5] h h'->Q .next e h'):
  AS (An (Ab (Aw Gg) (Al (Aa Ac) A0) (Ab BA (Al (Aa Ac) BW) (Aa Bn)))) (EC Cv (Aa Ac) A0 (Aa Bn)) AN cf e Q h:=by
 have H5:=Z.rc
 rw[kL e1] at q
 nofun
 rw[e1]
 refine kS ?_
 nofun
 refine a9 (λc=> ?_) λc=> ?_
 ·rw[if_pos c] at q
  nofun
  exact bu (r':={ X.r with AR:=X.r.AR - d }) G Z rfl (a6 _ _ _) q
 ·rw[if_neg (Int.not_lt.mpr c)] at q
  nofun
  exact q _ Z (.refl _)
def vW {s now v:Int}(G:A9 T R)(Z:Bb T R D X h)(es:e Ac=some (.ref (R 5)))(el:e BF=some (.int s))(en:e Av=some (.int now))(e1:X.r.CI=some v)(q:∀ h',Bb T R D { X with r:=Qu X.r s now } h'->Mod T [5] h h'->Q .next e h'):
  AS (EF (An (Al (Aa Ac) Bs))) (Ak (Af (AX (Aa Ac) BC) (Aa Av))
  (Ak (Af (AX (Aa Ac) Bs) (Ag (.bool true)))
  (Ak (Af (AX (Aa Ac) BG) (Ab CT (Aa BF) (Ag (.int 2))))
  (Af (AX (Aa Ac) Be) (Aa BF))))) (Ak (Af (AX (Aa Ac) BG) (Ab CT (Ab BA (Ab CM (Ag (.int 3)) (Al (Aa Ac) BG)) (DP PX (Ab Cv (Al (Aa Ac) BW) (Al (Aa Ac) A0)))) (Ag (.int 4))))
  (Af (AX (Aa Ac) Be) (Ab CT (Ab BA (Ab CM (Ag (.int 7)) (Al (Aa Ac) Be)) (Al (Aa Ac) A0)) (Ag (.int 8))))) cf e Q h:=by
 have H5:=Z.rc
 nofun
 refine dJ (bH (λc=> ?_) λc=> ?_)
 ·rw[kN e1 c] at q
  nofun
  rw[e1]
  refine u4 ?_
  nofun
  refine bu (r':={ X.r with var:=Int.fdiv (3*X.r.var+(if v - X.r.AR < 0 then -(v - X.r.AR) else v - X.r.AR)) 4 }) G Z rfl (a6 _ _ _) λh1 Z1 m1=> ?_
  have H5:=Z1.rc
  nofun
  exact bu (r':={ X.r with var:=Int.fdiv (3*X.r.var+(if v - X.r.AR < 0 then -(v - X.r.AR) else v - X.r.AR)) 4,Cd:=Int.fdiv (7*X.r.Cd+X.r.AR) 8 }) G Z1 rfl (a6 _ _ _) λh2 Z2 m2=>q _ Z2 (m1.trans m2)
 ·rw[jS c] at q
  nofun
  refine bu (r':={ X.r with fs:=now }) G Z rfl (a6 _ _ _) λh1 Z1 m1=> ?_
  nofun
  refine bu (r':={ X.r with fs:=now,ini:=true }) G Z1 rfl (a6 _ _ _) λh2 Z2 m2=> ?_
  nofun
  refine bu (r':={ X.r with fs:=now,ini:=true,var:=Int.fdiv s 2 }) G Z2 rfl (a6 _ _ _) λh3 Z3 m3=> ?_
  nofun
  exact bu (r':={ X.r with fs:=now,ini:=true,var:=Int.fdiv s 2,Cd:=s }) G Z3 rfl (a6 _ _ _) λh4 Z4 m4=>q _ Z4 (m1.trans (m2.trans (m3.trans m4)))
end
section
variable {n:Nat}{R D T:Nat->Nat}{S:List Nat}{h h' h0:H}{X Y:Bz}{cf:Cc}{e:AZ}
theorem Kk.mod {a l:Nat}{rg:List No}(W:Kk a l rg h)(m:Mod T ES h h')(ta:T a=0)(tl:T l=0)(tr:∀ r∈rg,T r.1=0):Kk a l rg h':=
 ⟨let⟨d,e⟩:=W.s;⟨d,m.get e ta rfl⟩,m.get W.l tl rfl,λr mr=>let⟨d,e⟩:=W.r r mr;⟨d,m.get e (tr r mr) rfl⟩⟩
structure PO (X:Bz)(k:Nat)(P:List Aj):Prop where
 sub:∀ x∈P,x∈X.Ar k
 nd:(P.map Aj.num).Nodup
 sz:∀ x∈P,0<=x.sz/\x.sz<=1144
 len:P.length<=60
 bA:X.A<=900000
 bt:X.told.length<=400
 nx:((X.Ar k).map Aj.num).Nodup
def cU:∀ {l:List Aj},(∀ x∈l,0<=x.sz/\x.sz<=1144)->((l.filter Aj.flight).map Aj.sz).sum<=1144*(l.length:Int)
 | [],_=>Int.le_refl _
 |a::l,z=>by
  have ih:=cU λx m=>z x (.tail _ m)
  have za:=z a (.head _)
  rw[aV,List.map_append,List.sum_append,List.length_cons]
  cases a.flight
  ·show 0+_<=_;omega
  ·show a.sz+0+_<=_;omega
theorem PO.at {k:Nat}{P pre post:List Aj}{a:Aj}(W:PO X k P)(e:P=pre++a::post):a∈X.Ar k/\CC pre a=true/\0<=a.sz/\(EX X k pre).A+a.sz<=1000000/\(EX X k pre).told.length+2<=1000:=by
 have ma:a∈P:=by rw[e];exact List.mem_append_right _ (.head _)
 have za:=W.sz a ma
 have len:=W.len
 rw[e,List.length_append,List.length_cons] at len
 refine⟨W.sub a ma,?_,za.1,?_,?_⟩
 ·have nd:=W.nd
  rw[e,List.map_append,List.map_cons,List.nodup_append] at nd
  unfold CC
  rw[Bool.not_eq_true',List.any_eq_false]
  exact λx mx z=>nd.2.2 x.num (List.mem_map_of_mem mx) a.num (.head _) (beq_iff_eq.mp z)
 ·have :=cU (l:=pre) λx m=>W.sz x (by rw[e];exact List.mem_append_left _ m)
  have :=W.bA
  show X.A+_+_<=_
  omega
 ·have :=dz 0 pre
  have :=W.bt
  show(X.told++pre.flatMap (I3 0)).length+2<=_
  rw[List.length_append];omega
inductive NN (T R D:Nat->Nat)(X:Bz)(k:Nat)(now:Int)(P r:List Aj)(ns:List Nat)(e0 e:AZ)(h0 h':H):Prop
 |mk (pre:List Aj) (ke:By ns e0 e) (m:Mod T ES h0 h') (E:PN R k now pre e) (Z:Bb T R D (EX X k pre) h') (p:P=pre++r):NN T R D X k now P r ns e0 e h0 h'
abbrev Tf:A2:=Ak (Af (AA Am) (N0 (Al (Aa Ae) Bi) (Aa AH)))
  (Ak (AS (An (Al (Aa Am) AB)) (Ak (Af (AA AB) (Ag (.bool true)))
  (EC Cv (Aa Ae) Ax (Ag (.int 1)))) AN)
  (Ak (AS (An (Al (Aa Am) CE)) (Bx (Bh (Al (Aa Ac) Dj) EU As (Aq Am (Aa Am) (Aq Av (Aa Av) Az)))) AN)
  (Ak (Af (AA BB) (Aa AH))
  (Ak (Af (AA Br) (Al (Aa Am) Bg))
  (Ck (JI [DG,FM]) (Cx CY (Al (Aa Am) BN)) (Bx (Bh (Aa Ac) EA (Ah (Aa DG) (Ah (Ag (.int 0)) (Ah (Aa FM) As))) Az)))))))
theorem NN.loop {k:Nat}{now:Int}{P L post:List Aj}{ns:List Nat}{c:Nat}{e0:AZ}{Q:DJ->AZ->H->Prop}(G:A9 T R)(bk:k < 3)(W:PO X k P)(hc:h c=some (.lst (L.map λr=> .int r.num)))(tc:T c=0)(sn:Oh.all (AM · ns)=true)(i:NN T R D X k now P (L++post) ns e0 e h0 h)
  (q:∀ e' h',NN T R D X k now P post ns e0 e' h0 h'->Mod T ES h h'->Q .next e' h'):F6 (AA AH) Tf (Bp (n+2)) (N3 c (L.map λr=> .int r.num)) (L.map λr=> .int r.num) e Q h:=by
 refine aU (f:=λr:Aj=>V.int r.num) (λr e' h'=>NN T R D X k now P (r++post) ns e0 e' h0 h'/\Mod T ES h h') (λr e' h' i=>au (i.2.get hc tc rfl)) aB (λa r e' h' i kk hk=> ?_) (λe' h' i=>q _ _ i.1 i.2) L _ _ ⟨i,.refl _⟩
 obtain⟨i,mh⟩:=i
 obtain⟨pre,k1,m,E,Z,p⟩:=i
 obtain⟨w1,w2,w3,w4,w5⟩:=W.at p
 eq_refl
 refine uO G Z bk E w1 w2 W.nx w3 w4 w5 λe2 h2 k2 E2 Z2 m2=> ?_
 exact hk _ _ ⟨.mk (pre++ [a]) (k1.trans (k2.sub sn)) (m.trans m2) E2 Z2 (by rw[p,List.append_assoc];rfl),mh.trans m2⟩
def i4 (X:Bz)(k:Nat):EX X k []=X:=by
 unfold EX Mv
 rw[eZ,bq]
 show({ X with bf:=X.bf - 0,A:=X.A+0,cnt:=Ad X.cnt k (X.cnt k - 0),told:=X.told++ [] }:Bz)=X
 rw[Int.sub_zero,Int.sub_zero,Int.add_zero,bq,List.append_nil]
def nO {k:Nat}{now:Int}{a l pn:Nat}{rg:List No}{P:List Aj}{Q:DJ->AZ->H->Prop}(G:A9 T R)(bk:k < 3)(L:DS T h)(Z:Bb T R D X h)(W:PO X k P)(so:(X.Ar k).Pairwise λa b=>a.num < b.num)(VV:Kk a l rg h)(ta:T a=0)(tl:T l=0)(tr:∀ r∈rg,T r.1=0)(le:∀ r∈rg,r.2.1<=r.2.2)
  (eP:P=rg.flatMap λr:No=>(X.Ar k).filter (JV r.2))(Hp:h pn=some (.lst (((X.Ar k).map Aj.num).map .int)))(tp:T pn=0)(E:PN R k now [] e)(ea:e Db=some (.ref a))(ep:e CH=some (.ref pn))
  (q:∀ e' h',By (Jg::BQ::BO::Oh) e e'->PN R k now P e'->Bb T R D (EX X k P) h'->Mod T ES h h'->Q .next e' h'):
  Ck (AA Jg) (Cx CY (Aa Db)) (Ak (Af (AA BQ) (BK FB (Ah (Aa CH) (Ah (Al (Aa Jg) BQ) As)) Az))
  (Ak (Af (AA BO) (BK FB (Ah (Aa CH) (Ah (Al (Aa Jg) BO) As)) Az))
  (Ck (AA AH) (Cx CY (O2 LZ (Aa CH) (Aa BQ) (Aa BO))) Tf))) (Bp (n+2)) e Q h:=by
 obtain⟨d,Ha⟩:=VV.s
 have keep:∀ h',Mod T ES h h'->Os CB a IW h'=some l:=λh' m=>by
  unfold Os;rw[bD (m.get Ha ta rfl)];rfl
 have Z0:Bb T R D (EX X k []) h:=by rw[i4];exact Z
 have so2:((X.Ar k).map Aj.num).Pairwise (· < ·):=List.pairwise_map.mpr so
 refine dS ?_
 iterate 2 eq_refl
 show Mo (Sx CB IW) (.ref a) _ h
 unfold Mo
 dsimp only
 rw[Ha]
 dsimp only
 refine ae (keep h (.refl _)) (ae (au VV.l) ?_)
 refine aU (f:=λr:No=>V.ref r.1) (λr e' h'=>NN T R D X k now P (r.flatMap λr:No=>(X.Ar k).filter (JV r.2)) (Jg::BQ::BO::Oh) e e' h h'/\∀ x∈r,x∈rg) (λr e' h' i=>by cases i.1 with |mk pre k1 m=>exact⟨au (m.get VV.l tl rfl),keep _ m⟩) aB (λr rs e' h' i kk hk=> ?_) (λe' h' i=> ?_) rg _ _ ⟨.mk [] (.refl _ _) (.refl _) E Z0 eP,λJ m=>m⟩
 rotate_left
 ·obtain⟨i,-⟩:=i
  obtain⟨pre,k1,m,E,Z,p⟩:=i
  have p:P=pre:=p.trans (List.append_nil pre)
  rw[<-p] at E Z
  exact q _ _ k1 E Z m
 obtain⟨i,sub⟩:=i
 obtain⟨pre,k1,m,E,Z,p⟩:=i
 have mr:=sub r (.head _)
 obtain⟨dr,Hr⟩:=VV.r r mr
 have Hr:=m.get Hr (tr r mr) rfl
 have Hp':=m.get Hp tp rfl
 have ep':=(k1 CH rfl).trans ep
 nofun
 refine jG Hp' so2 ?_
 nofun
 refine jG Hp' so2 ?_
 nofun
 refine tb Hp' ⟨Int.natCast_nonneg _,Int.natCast_nonneg _⟩ λc hc=> ?_
 rw[lR so (le r mr)]
 have tc:=(m.alive L).fresh hc
 have Zc:=Z.mod G (S:= []) (h':=Ad h' c (some (.lst (((X.Ar k).filter (JV r.2)).map λr=> .int r.num)))) (.new hc) rfl
 have mc:Mod T ES h (Ad h' c (some (.lst (((X.Ar k).filter (JV r.2)).map λr=> .int r.num)))):=m.trans (.new hc)
 refine NN.loop (ns:=Jg::BQ::BO::Oh) (e0:=e) (h0:=h) (P:=P) (post:=rs.flatMap λr:No=>(X.Ar k).filter (JV r.2)) (now:=now) G bk W (aa ..) tc rfl (.mk pre (((k1.set rfl).set rfl).set rfl) mc ⟨E.s,E.sp,E.nw,E.a,E.n,E.t⟩ Zc p) λe2 h2 i2 m2=> ?_
 exact hk _ _ ⟨i2,λx mx=>sub x (.tail _ mx)⟩
end
def Kx (X:Bz)(k:Nat)(la:Int):Bz:={ X with top:=Ad X.top k (if X.top k < la then la else X.top k) }
def QX (Y:Bz):Bz:=cond Y.r.valid { Y with r:={ Y.r with tries:=0 } } Y
def LX (Y:Bz)(P:List Aj)(r:Aj)(la dl now:Int):Bz:=cond (decide (la=r.num) && P.any Aj.asks) { Y with r:=OY Y.r (now - r.tm) (if 25000 < dl then 25000 else dl) now } Y
def Lp (X:Bz)(k:Nat)(P:List Aj)(la dl now:Int):Bz:=match P.getLast? with
 |none=>Kx X k la
 |some r=>QX (LK (LX (EX (Kx X k la) k P) P r la dl now) k now)
section
variable {n:Nat}{R D T:Nat->Nat}{S:List Nat}{h h' h0:H}{X Y:Bz}{cf:Cc}{e:AZ}
theorem Mod.ext (x:∀ b o,h b=some o->h' b=some o):Mod T S h h':=⟨λa o J=>x a o,λa J z=>by
 cases e:h a with
 |none=>exact absurd e z
 |some o=>rw[x a o e];exact λz=>nomatch z⟩
def uQ {k:Nat}{la:Int}{Q:DJ->AZ->H->Prop}(G:A9 T R)(Z:Bb T R D X h)(bk:k < 3)(el:e Di=some (.int la))(es:e Ae=some (.ref (R (k+8))))(q:∀ h',Bb T R D (Kx X k la) h'->Mod T [k+8] h h'->Q .next e h'):
  AS (An (Ab (Aw Gg) (Aa Di) (Al (Aa Ae) BE))) (Af (AX (Aa Ae) BE) (Aa Di)) AN cf e Q h:=by
 have C:=Z.sp k bk
 obtain⟨aq,rp,H⟩:=C
 unfold Kx at q
 nofun
 refine a9 (λc=> ?_) λc=> ?_
 ·rw[if_pos c] at q
  nofun
  exact aE H rfl (q _ (Z.SP G bk (eX G bk) (.mk aq rp (aa ..))) (eX G bk))
 ·rw[if_neg (Int.not_lt.mpr c),bq] at q
  nofun
  exact q _ Z (.refl _)
def uP {s dl now:Int}{Q:DJ->AZ->H->Prop}(G:A9 T R)(Z:Bb T R D X h)(bA:X.A<=1000000)(es:e Ac=some (.ref (R 5)))(en:e Av=some (.int now))(ed:e Bn=some (.int dl)){v:Int}(et:e Br=some (.int v))(esv:s=now - v)
  (q:∀ e' h',By [BF,Bn] e e'->Bb T R D { X with r:=OY X.r s (if 25000 < dl then 25000 else dl) now } h'->Mod T ES h h'->Q .next e' h'):
  Ak (Af (AA BF) (Ab Cv (Aa Av) (Aa Br)))
  (Ak (Af (AA Bn) (Ab (Aw Kt) (Aa Bn) (Al (Aa Ac) D5)))
  (Ak (Af (AX (Aa Ac) A0) (Ab (Aw Fg) (Aa BF) (Ag (.int 1000))))
  (Ak (AS (Fk (An (Ab F3 (Al (Aa Ac) BW) (Ag .none))) (An (Ab (Aw DZ) (Al (Aa Ac) A0) (Al (Aa Ac) BW)))) (Af (AX (Aa Ac) BW) (Al (Aa Ac) A0)) AN)
  (Ak (AS (An (Ab (Aw Gg) (Al (Aa Ac) A0) (Ab BA (Al (Aa Ac) BW) (Aa Bn)))) (EC Cv (Aa Ac) A0 (Aa Bn)) AN)
  (Ak (AS (EF (An (Al (Aa Ac) Bs))) (Ak (Af (AX (Aa Ac) BC) (Aa Av))
  (Ak (Af (AX (Aa Ac) Bs) (Ag (.bool true)))
  (Ak (Af (AX (Aa Ac) BG) (Ab CT (Aa BF) (Ag (.int 2))))
  (Af (AX (Aa Ac) Be) (Aa BF))))) (Ak (Af (AX (Aa Ac) BG) (Ab CT (Ab BA (Ab CM (Ag (.int 3)) (Al (Aa Ac) BG)) (DP PX (Ab Cv (Al (Aa Ac) BW) (Al (Aa Ac) A0)))) (Ag (.int 4))))
  (Af (AX (Aa Ac) Be) (Ab CT (Ab BA (Ab CM (Ag (.int 7)) (Al (Aa Ac) Be)) (Al (Aa Ac) A0)) (Ag (.int 8))))))
  (Ak (Bx (Bh (Al (Aa Ac) Dj) Gq As (Aq Av (Aa Av) (Aq F9 (Aa BF) Az))))
  (Bx (Bh (Al (Aa Ac) Gi) GF As (Aq Ay (Al (Al (Aa Ac) Dj) Ay) (Aq Ep (Al (Aa Ac) Be) Az))))))))))
  (Bp (n+3)) e Q h:=by
 subst esv
 have H5:=Z.rc
 iterate 10 eq_refl
 generalize ee:Ad _ Bn _=e1
 have k1:By [BF,Bn] e e1:=by rw[<-ee];exact By.set (By.set (.refl _ _) rfl) rfl
 have f1:e1 BF=some (.int (now - v)):=by rw[<-ee];rfl
 have f2:e1 Bn=some (.int (if 25000 < dl then 25000 else dl)):=by rw[<-ee];rfl
 clear ee
 have f3:=(k1 Ac rfl).trans es
 have f4:=(k1 Av rfl).trans en
 generalize (if 25000 < dl then 25000 else dl)=d at *
 refine vT G Z f3 f1 λh1 Z1 m1=> ?_
 iterate 2 eq_refl
 refine vU G Z1 f3 λh2 Z2 m2=> ?_
 iterate 2 eq_refl
 refine vV G Z2 f3 f2 rfl λh3 Z3 m3=> ?_
 iterate 2 eq_refl
 refine vW (now:=now) G Z3 f3 f1 f4 rfl λh4 Z4 m4=> ?_
 have Z4:Bb T R D { X with r:=OY X.r (now - v) d now } h4:=Z4
 have m5:=(m1.trans (m2.trans (m3.trans m4))).mono (U:=ES) rfl
 clear Z1 Z2 Z3 m1 m2 m3 m4 Z
 have C:=Z4.cc
 have H5:=Z4.rc
 obtain⟨f,cw,st,ss,cr,H,b,w,s',m',c',t',o,no,si,g,M⟩:=C
 nofun
 refine cY H (by exact(cR no rfl).trans rfl) ?_
 nofun
 refine oP G (.mk f cw st ss cr H b w s' m' c' t' o no si g M) λh5 C5 m6=> ?_
 have Z5:=Z4.P9 G m6 C5
 clear H b w s' m' c' t' o no si g M H5
 have C:=Z5.cc
 have H5:=Z5.rc
 have Pc:=Z5.Ea
 obtain⟨f,cw,st,ss,cr,H,b,w,s',m',c',t',o,no,si,g,M⟩:=C
 obtain⟨bm,bt,ev,pt,H4⟩:=Pc
 nofun
 refine pZ G (.mk bm bt ev pt H4) (g.nz bA) λh6 P6 m7=> ?_
 nofun
 exact q _ _ k1 (Z5.U8 G m7 P6) (m5.trans ((m6.mono rfl).trans (m7.mono rfl)))
def vv {k a l:Nat}{rg:List No}{r0 r1:No}{P:List Aj}{la dl now:Int}{Q:V->H->Prop}(G:A9 T R)(Z:Bb T R D X h)(L:DS T h)(bk:k < 3)(VV:Kk a l rg h)(ta:T a=0)(tl:T l=0)(tr:∀ r∈rg,T r.1=0)(le:∀ r∈rg,r.2.1<=r.2.2)(e0:rg.head? =some r0)(e1:rg.getLast? =some r1)(ela:la=r1.2.2 - 1)
  (eP:P=rg.flatMap λr:No=>(X.Ar k).filter (JV r.2))(W:PO X k P)(so:∀ k,k < 3->(X.Ar k).Pairwise λa b=>a.num < b.num)(bl:∀ k,k < 3->(X.Ar k).length<=60)
  (q:∀ h',Bb T R D (Lp X k P la dl now) h'->Mod T ES h h'->Q .none h'):
  Bp (n+4) IB [.ref (R 5)] [(Db,.ref a),(Bn,.int dl),(Av,.int now),(Ae,.ref (R (k+8)))] Q h:=by
 subst ela
 refine ay (d:=Iz) (b:=Ix) rfl ⟨rfl,rfl,rfl,rfl,rfl,rfl⟩ ?_
 obtain⟨d,Ha⟩:=VV.s
 refine aD ?_
 nofun
 refine oO VV e0 e1 λb h1 hb Hb ext=> ?_
 obtain⟨db,Hb⟩:=Hb
 have m1:Mod T ES h h1:= .ext ext
 have Z1:=Z.mod G (S:= []) (.ext ext) rfl (h':=h1)
 iterate 9 eq_refl
 generalize ee:Ad _ Br _=e2
 have f1:e2 Ac=some (.ref (R 5)):=by rw[<-ee];rfl
 have f2:e2 Ae=some (.ref (R (k+8))):=by rw[<-ee];rfl
 have f3:e2 Av=some (.int now):=by rw[<-ee];rfl
 have f4:e2 AB=some (.bool false):=by rw[<-ee];rfl
 have f5:e2 BB=some .none:=by rw[<-ee];rfl
 have f6:e2 Br=some .none:=by rw[<-ee];rfl
 have f7:e2 Di=some (.int (r1.2.2 - 1)):=by rw[<-ee];rfl
 have f8:e2 Db=some (.ref a):=by rw[<-ee];rfl
 have f9:e2 Bn=some (.int dl):=by rw[<-ee];rfl
 clear ee
 generalize r1.2.2 - 1=la at *
 refine uQ G Z1 bk f7 f2 λh2 Z2 m2=> ?_
 have m3:=m1.trans (m2.mono (fq bk).1)
 clear Z1 m1 m2 Hb
 have C:=Z2.sp k bk
 have Hd:=Z2.dd k bk
 obtain⟨aq,rp,Hs⟩:=C
 obtain⟨ep,Hd⟩:=Hd
 iterate 4 eq_refl
 refine ae (a:=R (k+11)) rfl (ae (bV Hd) ?_)
 intro pn hpn
 have Hp:=aa h2 pn (some (O.lst (((X.Ar k).map λr:Aj=>(r.num,V.ref r.p)).map λp=> .int p.1)))
 have m4:Mod T ES h (Ad h2 pn (some (O.lst (((X.Ar k).map λr:Aj=>(r.num,V.ref r.p)).map λp=> .int p.1)))):=m3.trans (.new hpn)
 have Z3:=Z2.mod G (S:= []) (h':=Ad h2 pn (some (O.lst (((X.Ar k).map λr:Aj=>(r.num,V.ref r.p)).map λp=> .int p.1)))) (.new hpn) rfl
 have tp:=(m3.alive L).fresh hpn
 refine(?_:EG _ _ _ .next _ (Ad h2 pn (some (O.lst (((X.Ar k).map λr:Aj=>(r.num,V.ref r.p)).map λp=> .int p.1)))))
 generalize Ad h2 pn (some (O.lst (((X.Ar k).map λr:Aj=>(r.num,V.ref r.p)).map λp=> .int p.1)))=h3 at *
 rw[show(((X.Ar k).map λr:Aj=>(r.num,V.ref r.p)).map λp=>V.int p.1)=((X.Ar k).map Aj.num).map .int by rw[List.map_map,List.map_map];rfl] at Hp
 iterate 2 eq_refl
 refine nO (e:=Ad e2 CH (some (.ref pn))) (X:=Kx X k la) (P:=P) G bk (m4.alive L) Z3 ⟨W.sub,W.nd,W.sz,W.len,W.bA,W.bt,W.nx⟩ (so k bk) (VV.mod m4 ta tl tr) ta tl tr le eP Hp tp ⟨f1,f2,f3,f4,f5,f6⟩ f8 rfl λe3 h4 k3 E3 Z4 m5=> ?_
 have m6:=m4.trans m5
 clear Z2 Z3 Hs Hd m3 m4 m5 Hp tp VV ext
 have g9:=(k3 Bn rfl).trans f9
 have g7:=(k3 Di rfl).trans f7
 clear f1 f2 f3 f4 f5 f6 f7 f8 f9
 obtain⟨E1,E2,E4,E5,E6,E7⟩:=E3
 unfold Lp at q
 unfold Ot at E6 E7
 cases eP':P.getLast? with
 |none=>
  rw[eP'] at q E6
  dsimp only at E6
  nofun
  rw[List.getLast?_eq_none_iff.mp eP',i4] at Z4
  exact q _ Z4 m6
 |some r=>
  rw[eP'] at q E6 E7
  dsimp only at E6 E7 q
  have mr:r∈P:=List.mem_of_getLast? eP'
  have B:Nn 800 (EX (Kx X k la) k P):=by
   refine⟨λj bj=> ?_,?_,λj bj=> ?_,?_⟩
   ·show(Ad X.Ar k _ j).Pairwise _
    by_cases z:j=k
    ·subst z;rw[aa];exact(so j bj).filter _
    ·rw[ab _ _ z];exact so j bj
   ·show(X.told++P.flatMap (I3 0)).length<=_
    have :=dz 0 P
    have :=W.bt
    have :=W.len
    rw[List.length_append];omega
   ·show(Ad X.Ar k _ j).length<=_
    by_cases z:j=k
    ·subst z;rw[aa];exact Nat.le_trans (List.length_filter_le _ _) (bl j bj)
    ·rw[ab _ _ z];exact bl j bj
   ·have :=cU W.sz
    have :=W.bA
    have :=W.len
    show X.A+_<=_;omega
  have fin:∀ Y e5 h5,By [BF,Bn] e3 e5->Bb T R D Y h5->Nn 800 Y->Mod T ES h h5->Y=LX (EX (Kx X k la) k P) P r la dl now->Ak (Bx (Bh (Aa Ac) GU As (Aq Av (Aa Av) (Aq Ae (Aa Ae) Az))))
    (AS (An (Al (Aa Ac) AG)) (Af (AX (Aa Ac) Dq) (Ag (.int 0))) AN) (Bp (n+3)) e5 (Dp Q) h5:=λY e5 h5 k5 Z5 B5 m7 eY=>by
   rw[<-eY] at q
   have g1:=(k5 Ac rfl).trans E1
   have g2:=(k5 Ae rfl).trans E2
   have g4:=(k5 Av rfl).trans E4
   have H5:=Z5.rc
   nofun
   refine jI G Z5 (m7.alive L) bk B5 λh6 Z6 m8=> ?_
   have H5:=Z6.rc
   unfold QX at q
   generalize LK Y k now=Y2 at Z6 H5 q
   nofun
   refine bH (λc=> ?_) λc=> ?_
   ·rw[c] at q
    nofun
    refine bu (r':={ Y2.r with tries:=0 }) G Z6 rfl (a6 _ _ _) λh7 Z7 m9=> ?_
    nofun
    exact q _ Z7 (m7.trans (m8.trans (m9.mono rfl)))
   ·rw[c] at q
    nofun
    exact q _ Z6 (m7.trans m8)
  nofun
  refine cM (λc=> ?_) λc=> ?_
  rotate_left
  ·refine dY (bC (a8 ?_))
   exact fin _ _ _ (.refl _ _) Z4 B m6 (by unfold LX;rw[decide_eq_false c];rfl)
  nofun
  refine bH (λc2=> ?_) λc2=> ?_
  rotate_left
  ·refine bC (a8 ?_)
   exact fin _ _ _ (.refl _ _) Z4 B m6 (by unfold LX;rw[c2,Bool.and_false];rfl)
  refine uP G Z4 B.bA E1 E4 g9 E7 rfl λe5 h5 k5 Z5 m7=>a8 ?_
  exact fin _ _ _ k5 Z5 ⟨B.so,B.bt,B.bl,B.bA⟩ (m6.trans m7) (by unfold LX;rw[decide_eq_true c,c2];rfl)
end
structure BD where
 rows:List Aj
 st:Nat->Nat
 due:List V
 pr:Int
 top:Nat->Int
 Ap:Nat->Option Int
 guess:Int
 AR:Int
 least:Option Int
 DW:Option Int
 valid:Bool
 Bc:Bool
 tries:Int
 last:Int
def VA (R:Nat->Nat)(X:BD):List (Nat×V):= [(CR,.ref (R 18)),(Jy,.ref (R 15)),(Bu,.int X.pr),(Ga,.ref (R 16)),(CA,.ref (R 17)),(CS,.int X.guess),(A6,.int X.AR),(DV,Fr X.least),(BJ,Fr X.DW),(EO,.bool X.valid),(BU,.bool X.Bc),(Dw,.int X.tries),(FN,.int X.last)]
def JT (r:Aj)(s:Nat):List (Nat×V):= [(Ae,.int r.sp),(AU,.int r.num),(GD,.int r.tm),(FQ,.int r.sz),(Dl,.bool r.asks),(Dd,.bool r.flight),(Fh,.bool r.Cj),(CU,.int (1+Int.fmod r.num 2)),(Er,.str s)]
structure CQ (T R:Nat->Nat)(X:BD)(h:H):Prop where
 w:h (R 14)=some (.dct (DQ (VA R X)))
 du:h (R 15)=some (.lst X.due)
 tp:h (R 16)=some (.lst ([0,1,2].map λk=> .int (X.top k)))
 ls:h (R 17)=some (.lst ([0,1,2].map λk=>Fr (X.Ap k)))
 rw :h (R 18)=some (.lst (X.rows.map λr=> .ref r.d))
 ro:∀ r∈X.rows,h r.d=some (.dct (DQ (JT r (X.st r.d))))/\T r.d=19
def Bv (X:BD)(k:Nat):List Aj:=X.rows.filter λr=>decide ((r.sp:Int)=k) && Nat.beq (X.st r.d) AP
abbrev II:List Nat:= [14,15,16,17,19]
section
variable {n:Nat}{R D T:Nat->Nat}{S:List Nat}{h h' h0:H}{X Y:BD}{cf:Cc}{e:AZ}{Q:V->H->Prop}
theorem CQ.mod (G:A9 T R)(x:Mod T S h h')(e:S.all (λk=>AM k [0,1,2,3,4,5,6,7,8,9,10,11,12,13,20,21,22])=true)(Z:CQ T R X h):CQ T R X h':=by
 have nn:∀ k,AM k [0,1,2,3,4,5,6,7,8,9,10,11,12,13,20,21,22]=false->AM k S=false:=λk z=>by
  cases q:AM k S with
  |false=>rfl
  |true=>have :=List.all_eq_true.mp e k (aO.mp q);rw[this] at z;cases z
 exact⟨x.get Z.w (G 14 rfl) (nn 14 rfl),x.get Z.du (G 15 rfl) (nn 15 rfl),x.get Z.tp (G 16 rfl) (nn 16 rfl),x.get Z.ls (G 17 rfl) (nn 17 rfl),x.get Z.rw (G 18 rfl) (nn 18 rfl),λr m=>let z:=Z.ro r m;⟨x.get z.1 z.2 (nn 19 rfl),z.2⟩⟩
def cg {m:Nat}{v:V}{X':BD}{K:H->Prop}(G:A9 T R)(Z:CQ T R X h)(he:(look m (VA R X)).isSome=true)(hp:JK m v (VA R X)=VA R X')(eq:X'.due=X.due/\X'.top=X.top/\X'.Ap=X.Ap/\X'.rows=X.rows/\X'.st=X.st)(q:∀ h',CQ T R X' h'->Mod T [14] h h'->K h'):Jr (.ref (R 14)) (.str m) v K h:=by
 obtain⟨e1,e2,e3,e4,e5⟩:=eq
 have md:=Mod.at (T:=T) (S:= [14]) (k:=14) (h:=h) G rfl rfl
 refine pU Z.w he (q _ ⟨by rw[hp];exact aa ..,?_,?_,?_,?_,?_⟩ (md _))
 ·rw[e1];exact(md _).get Z.du (G 15 rfl) rfl
 ·rw[e2];exact(md _).get Z.tp (G 16 rfl) rfl
 ·rw[e3];exact(md _).get Z.ls (G 17 rfl) rfl
 ·rw[e4];exact(md _).get Z.rw (G 18 rfl) rfl
 ·rw[e4,e5];exact λr m=>let z:=Z.ro r m;⟨(md _).get z.1 z.2 rfl,z.2⟩
theorem CQ.Xc {l:List V}(G:A9 T R)(x:Mod T [15] h h')(Z:CQ T R X h)(C:h' (R 15)=some (.lst l)):CQ T R { X with due:=l } h':=
 ⟨x.get Z.w (G 14 rfl) rfl,C,x.get Z.tp (G 16 rfl) rfl,x.get Z.ls (G 17 rfl) rfl,x.get Z.rw (G 18 rfl) rfl,λr m=>let z:=Z.ro r m;⟨x.get z.1 z.2 rfl,z.2⟩⟩
theorem CQ.SP {f:Nat->Int}(G:A9 T R)(x:Mod T [16] h h')(Z:CQ T R X h)(C:h' (R 16)=some (.lst ([0,1,2].map λk=> .int (f k)))):CQ T R { X with top:=f } h':=
 ⟨x.get Z.w (G 14 rfl) rfl,x.get Z.du (G 15 rfl) rfl,C,x.get Z.ls (G 17 rfl) rfl,x.get Z.rw (G 18 rfl) rfl,λr m=>let z:=Z.ro r m;⟨x.get z.1 z.2 rfl,z.2⟩⟩
theorem CQ.LO {f:Nat->Option Int}(G:A9 T R)(x:Mod T [17] h h')(Z:CQ T R X h)(C:h' (R 17)=some (.lst ([0,1,2].map λk=>Fr (f k)))):CQ T R { X with Ap:=f } h':=
 ⟨x.get Z.w (G 14 rfl) rfl,x.get Z.du (G 15 rfl) rfl,x.get Z.tp (G 16 rfl) rfl,C,x.get Z.rw (G 18 rfl) rfl,λr m=>let z:=Z.ro r m;⟨x.get z.1 z.2 rfl,z.2⟩⟩
def kK {r:Aj}{s:Nat}{K:H->Prop}(G:A9 T R)(Z:CQ T R X h)(mr:r∈X.rows)(nd:∀ x∈X.rows,x.d=r.d->x=r)(q:∀ h',CQ T R { X with st:=Ad X.st r.d s } h'->Mod T [19] h h'->K h'):Jr (.ref r.d) (.str Er) (.str s) K h:=by
 obtain⟨H,tr⟩:=Z.ro r mr
 have md:Mod T [19] h (Ad h r.d (some (.dct (DQ (JT r s))))):= .set (by rw[tr];rfl)
 refine pU H rfl (q _ ⟨md.get Z.w (G 14 rfl) rfl,md.get Z.du (G 15 rfl) rfl,md.get Z.tp (G 16 rfl) rfl,md.get Z.ls (G 17 rfl) rfl,md.get Z.rw (G 18 rfl) rfl,λx m=>⟨?_,(Z.ro x m).2⟩⟩ md)
 by_cases e:x.d=r.d
 ·have :=nd x m e
  subst this
  show Ad h x.d _ x.d=some (.dct (DQ (JT x (Ad X.st x.d s x.d))))
  rw[aa,aa];rfl
 ·show Ad h r.d _ x.d=some (.dct (DQ (JT x (Ad X.st r.d s x.d))))
  rw[ab _ _ e,ab _ _ e];exact(Z.ro x m).1
def jF {k:Nat}(Z:CQ T R X h)(bl:X.rows.length<=60)(q:∀ c,h c=none->Q (.ref c) (Ad h c (some (.lst ((Bv X k).map λr=> .ref r.d))))):Bp (n+1) B6 [.ref (R 14),.int k] [] Q h:=by
 refine ay (d:=KQ) (b:=KN) rfl ⟨rfl,rfl,rfl,rfl,rfl,rfl⟩ ?_
 have Hw:=Z.w
 have Hr:=Z.rw
 refine fO ?_
 nofun
 refine⟨by show(X.rows.map _).length<=_;rw[List.length_map];exact Nat.le_trans bl (by decide),?_⟩
 refine br X.rows (λr=>V.ref r.d) (λr=>decide ((r.sp:Int)=k) && Nat.beq (X.st r.d) AP) (λr=> .ref r.d) rfl (au Hr) aB (λr m Q q=> ?_) (λr m J Q q=>aK rfl q) λc hc=>lO (q c hc)
 have Hd:=(Z.ro r m).1
 nofun
 refine bH (λc=> ?_) λc=> ?_ <;> rw[c] at q
 ·nofun
  exact q
 ·exact q
end
def K9 (s:Nat)(X:BD)(r:Aj):BD:={ X with st:=Ad X.st r.d s,due:=X.due++I3 (cond (Nat.beq s A7) 0 1) r }
def Ce (s:Nat)(X:BD)(rs:List Aj):BD:=rs.foldl (K9 s) X
def Dv (X:BD):Int:=Int.fdiv (9*(match X.DW with |none=>X.guess|some s=>if X.AR < s then s else X.AR)) 8
def K8 (X:BD)(k:Nat)(now:Int):BD:=
 { Ce C8 X ((Bv X k).filter (DF (X.top k) now (Dv X))) with Ap:=Ad X.Ap k (((Bv X k).filter (Ez (X.top k) now (Dv X))).foldl (GP (Dv X)) none) }
structure Mc (N:Nat)(X:BD):Prop where
 nd:∀ x∈X.rows,∀ y∈X.rows,x.d=y.d->x=y
 len:X.rows.length<=60
 bd:X.due.length<=N
def gA {dl:Int}:∀ (l:List Aj) (y:Int),∃ z,l.foldl (GP dl) (some y)=some z/\(z=y\/z∈l.map λr=>r.tm+dl)/\z<=y/\∀ w∈l.map (λr=>r.tm+dl),z<=w
 | [],y=>⟨y,rfl,.inl rfl,Int.le_refl _,λJ m=>nomatch m⟩
 |r::l,y=>by
  show ∃ z,l.foldl (GP dl) (if r.tm+dl < y then some (r.tm+dl) else some y)=some z/\_
  by_cases c:r.tm+dl < y
  ·rw[if_pos c]
   obtain⟨z,a,b,d,e⟩:=gA l (r.tm+dl)
   refine⟨z,a,.inr ?_,Int.le_trans d (Int.le_of_lt c),λw m=> ?_⟩
   ·rcases b with b|b
    ·rw[b];exact .head _
    ·exact .tail _ b
   ·rcases List.mem_cons.mp m with rfl|m
    ·exact d
    ·exact e w m
  ·rw[if_neg c]
   obtain⟨z,a,b,d,e⟩:=gA l y
   refine⟨z,a,b.imp id λb=> .tail _ b,d,λw m=> ?_⟩
   rcases List.mem_cons.mp m with rfl|m
   ·exact Int.le_trans d (Int.not_lt.mp c)
   ·exact e w m
def tE {dl m:Int}{l:List Aj}(a:m∈l.map λr=>r.tm+dl)(b:∀ y∈l.map (λr=>r.tm+dl),m<=y):l.foldl (GP dl) none=some m:=by
 cases l with
 |nil=>cases a
 |cons r l=>
  obtain⟨z,e,c,d,f⟩:=gA (dl:=dl) l (r.tm+dl)
  show l.foldl (GP dl) (some (r.tm+dl))=some m
  rw[e]
  refine congrArg some (Int.le_antisymm ?_ ?_)
  ·rcases List.mem_cons.mp a with rfl|a
   ·exact d
   ·exact f _ a
  ·rcases c with rfl|c
   ·exact b _ (.head _)
   ·exact b _ (.tail _ c)
section
variable {n:Nat}{R D T:Nat->Nat}{S:List Nat}{h h' h0:H}{X Y:BD}{cf:Cc}{e:AZ}{Q:V->H->Prop}
def lJ {r:Aj}{s N:Nat}(G:A9 T R)(Z:CQ T R X h)(B:Mc N X)(bN:N<=900)(mr:r∈X.rows)(q:∀ h',CQ T R (K9 s X r) h'->Mod T II h h'->Q .none h'):Bp (n+1) E8 [.ref (R 14),.ref r.d,.str s] [] Q h:=by
 refine ay (d:=NB) (b:=Nw) rfl ⟨rfl,rfl,rfl,rfl,rfl,rfl⟩ ?_
 refine aD ?_
 nofun
 refine kK G Z mr (λx m e=>B.nd x m r mr e) λh1 Z1 m1=> ?_
 have m2:=m1.mono (U:=II) rfl
 obtain⟨Hr,tr⟩:=Z1.ro r mr
 unfold K9 at q
 have lb:=fk r.num
 have bd:=B.bd
 nofun
 refine gr ⟨?_,?_⟩ ?_
 ·have :=Int.fmod_nonneg_of_pos r.num (show(0:Int) < 2 by decide);omega
 ·have :=Int.fmod_lt_of_pos r.num (show(0:Int) < 2 by decide);omega
 rw[show(Fn (Hn 0 (1+Int.fmod r.num 2) 1)).xs=(Kw (1+Int.fmod r.num 2)).map .int from nA _]
 unfold I3 at q
 generalize Kw (1+Int.fmod r.num 2)=ks at lb q ⊢
 generalize hc:(cond (Nat.beq s A7) 0 1:Int)=c at q
 refine aU (f:=V.int) (λjs e h'=>e Ai=some (.ref (R 14))/\e AQ=some (.ref r.d)/\e Er=some (.str s)/\Mod T II h h'/\∃ l',CQ T R { X with st:=Ad X.st r.d s,due:=l' } h'/\l'++js.map (λk=>V.tup [.int (10*r.num+k),.int c,.tup [.int r.sp,.int k]])=X.due++ks.map (λk=>V.tup [.int (10*r.num+k),.int c,.tup [.int r.sp,.int k]])/\l'.length+js.length<=910) (λJ J J J=>trivial) aB (λk js e' h' i kk hk=> ?_) (λe' h' i=> ?_) ks _ _ ⟨rfl,rfl,rfl,m2,X.due,Z1,rfl,by omega⟩
 rotate_left
 ·obtain⟨-,-,-,m,l',Z',e1,-⟩:=i
  rw[<-e1,List.map_nil,List.append_nil] at q
  exact q _ Z' m
 obtain⟨f1,f2,f3,m,l',Z',e1,b1⟩:=i
 rw[List.length_cons] at b1
 have Hw:=Z'.w
 have Hu:=Z'.du
 have Hr:=(Z'.ro r mr).1
 nofun
 refine sL (x:= .int 0) (y:= .int 1) (λQ q=>bQ q) (λQ q=>bQ q) ?_
 rw[show cond (Nat.beq s A7) (V.int 0) (V.int 1)=V.int c by rw[<-hc];cases Nat.beq s A7 <;> rfl]
 nofun
 refine fH Hu (Nat.lt_of_lt_of_le (show l'.length < 910 by omega) (by decide)) ?_
 have Z2:=Z'.Xc (l:=l'++ [.tup [.int (10*r.num+k),.int c,.tup [.int r.sp,.int k]]]) G (.at G rfl rfl _) (aa ..)
 nofun
 exact hk _ _ ⟨f1,f2,f3,m.trans (.at G rfl rfl _),_,Z2,by rw[<-e1,List.append_assoc];rfl,by rw[List.length_append];show l'.length+1+_<=_;omega⟩
end
def be (s:Nat)(X:BD):∀ l:List Aj,Ce s X l= { X with st:=l.foldl (λst r=>Ad st r.d s) X.st,due:=X.due++l.flatMap (I3 (cond (Nat.beq s A7) 0 1)) }:=λl=>by
 induction l generalizing X with
 |nil=>show X= { X with due:=X.due++ [] };rw[List.append_nil]
 |cons a l ih=>
  refine(ih (K9 s X a)).trans ?_
  show({ X with st:=_,due:=(X.due++I3 _ a)++_ }:BD)=_
  rw[List.append_assoc];rfl
def cG {α:Type}(f:α->Int):∀ l:List α,Gu (l.map λr=>V.int (f r))=some (l.map f)
 | []=>rfl
 |a::l=>by
  show AT (some (f a)) (λi=>AT (Gu (l.map λr=>V.int (f r))) λl=>some (i::l))=_
  rw[cG f l];rfl
def fU (s:Nat)(X:BD)(l:List Aj)(a:Aj):Ce s X (l++ [a])=K9 s (Ce s X l) a:=List.foldl_append
def bv (s:Nat)(X:BD)(l:List Aj):(Ce s X l).rows=X.rows/\(Ce s X l).due=X.due++l.flatMap (I3 (cond (Nat.beq s A7) 0 1)):=by rw[be];exact⟨rfl,rfl⟩
theorem Mc.all {N s:Nat}{X:BD}{l:List Aj}(B:Mc N X):Mc (N+2*l.length) (Ce s X l) where
 nd:=by rw[(bv s X l).1];exact B.nd
 len:=by rw[(bv s X l).1];exact B.len
 bd:=by
  rw[(bv s X l).2,List.length_append]
  have :=dz (cond (Nat.beq s A7) 0 1) l
  have :=B.bd
  omega
def lQ {α:Type}{f:Nat->α}{k:Nat}{v:α}{g:α->V}(b:k < 3):([0,1,2].map λk=>g (f k)).set k (g v)= [0,1,2].map λj=>g (Ad f k v j):=match k,b with
 |0,_=>rfl|1,_=>rfl|2,_=>rfl|k+3,b=>absurd b (Nat.not_lt.mpr (Nat.le_add_left 3 k))
def d6 {f:Nat->V}{k:Nat}(b:k < 3):MY ([0,1,2].map f) k=some (f k):=match k,b with
 |0,_=>rfl|1,_=>rfl|2,_=>rfl|k+3,b=>absurd b (Nat.not_lt.mpr (Nat.le_add_left 3 k))
section
variable {n:Nat}{R D T:Nat->Nat}{S:List Nat}{h h' h0:H}{X Y:BD}{cf:Cc}{e:AZ}{Q:V->H->Prop}
def bI {k:Nat}{r:Aj}(m:r∈Bv X k):r∈X.rows:=(List.mem_filter.mp m).1
def cL (X:BD)(k:Nat):(Bv X k).length<=X.rows.length:=List.length_filter_le _ _
inductive SY (T R:Nat->Nat)(X:BD)(k lt:Nat)(now:Int)(r:List Aj)(h0 h':H):Prop
 |mk (acc lat:List Aj) (Z:CQ T R (Ce C8 X acc) h') (m:Mod T II h0 h') (hl:h' lt=some (.lst (lat.map λr=> .int (r.tm+Dv X)))) (ea:acc++r.filter (DF (X.top k) now (Dv X))=(Bv X k).filter (DF (X.top k) now (Dv X)))
  (el:lat++r.filter (Ez (X.top k) now (Dv X))=(Bv X k).filter (Ez (X.top k) now (Dv X))) (sub:∀ x∈r,x∈X.rows):SY T R X k lt now r h0 h'
def nq {k N:Nat}{now:Int}(G:A9 T R)(Z:CQ T R X h)(L:DS T h)(bk:k < 3)(B:Mc N X)(bN:N<=500)(q:∀ h',CQ T R (K8 X k now) h'->Mod T II h h'->Q .none h'):Bp (n+2) E9 [.ref (R 14),.int k,.int now] [] Q h:=by
 refine ay (d:=Hq) (b:=Lq) rfl ⟨rfl,rfl,rfl,rfl,rfl,rfl⟩ ?_
 have Hw:=Z.w
 have Ht:=Z.tp
 refine aD ?_
 iterate 6 eq_refl
 have trip:∀ K:DJ->AZ->H->Prop,(∀ e',By [JH] (Ad (Hq.bind [.ref (R 14),.int k,.int now] []) JH (some (.int X.guess))) e'->e' JH=some (.int (match X.DW with |none=>X.guess|some s=>if X.AR < s then s else X.AR))->K .next e' h)->
   AS (An (Ab HO (Ab Au (Aa Ai) (Ag (.str BJ))) (Ag .none))) (Af (AA JH) (Ab (Aw Fg) (Ab Au (Aa Ai) (Ag (.str A6))) (Ab Au (Aa Ai) (Ag (.str BJ))))) AN (Bp (n+1)) (Ad (Hq.bind [.ref (R 14),.int k,.int now] []) JH (some (.int X.guess))) K h:=λK q=>by
  nofun
  cases hs:X.DW with
  |none=>
   rw[hs] at q
   refine nZ ?_
   nofun
   exact q _ (.refl _ _) rfl
  |some s=>
   rw[hs] at q
   refine sK ?_
   nofun
   rw[hs]
   refine v8 ?_
   nofun
   exact q _ (By.set (.refl _ _) rfl) rfl
 refine trip _ λe1 k1 et=> ?_
 clear trip
 have f1:e1 Ai=some (.ref (R 14)):=(k1 Ai rfl).trans rfl
 have f2:e1 Ae=some (.int k):=(k1 Ae rfl).trans rfl
 have f3:e1 Av=some (.int now):=(k1 Av rfl).trans rfl
 nofun
 refine bP Ht (d6 bk) ?_
 nofun
 intro lt hlt
 have ml:Mod T II h (Ad h lt (some (.lst []))):= .new hlt
 have Zl:=Z.mod G (S:= []) (h':=Ad h lt (some (.lst []))) (.new hlt) rfl
 have hl:=aa h lt (some (O.lst []))
 have tl:=L.fresh hlt
 generalize Ad h lt (some (.lst []))=h1 at ml Zl hl ⊢
 nofun
 refine jF Zl B.len λc hc=> ?_
 have mc:Mod T II h (Ad h1 c (some (.lst ((Bv X k).map λr=> .ref r.d)))):=ml.trans (.new hc)
 have Zc:=Zl.mod G (S:= []) (h':=Ad h1 c (some (.lst ((Bv X k).map λr=> .ref r.d)))) (.new hc) rfl
 have ncl:lt≠c:=az (e1:=hc) hl
 have tc:=(ml.alive L).fresh hc
 have hl2:=(ab h1 (some (.lst ((Bv X k).map λr=> .ref r.d))) ncl).trans hl
 have hc2:=aa h1 c (some (O.lst ((Bv X k).map λr=> .ref r.d)))
 refine kz hc2 ?_
 generalize Ad h1 c (some (.lst ((Bv X k).map λr=> .ref r.d)))=h2 at mc Zc hl2 hc2 ⊢
 generalize ee:Ad _ GI _=e2
 have g1:e2 Ai=some (.ref (R 14)):=by rw[<-ee];exact f1
 have g2:e2 Ae=some (.int k):=by rw[<-ee];exact f2
 have g3:e2 Av=some (.int now):=by rw[<-ee];exact f3
 have g4:e2 BP=some (.int (Dv X)):=by rw[<-ee];rfl
 have g5:e2 Ga=some (.int (X.top k)):=by rw[<-ee];rfl
 have g6:e2 GI=some (.ref lt):=by rw[<-ee];rfl
 clear ee hc hl ml Zl
 refine aU (f:=λr:Aj=>V.ref r.d) (λr e' h'=>By [AQ] e2 e'/\SY T R X k lt now r h h'/\h' c=some (.lst ((Bv X k).map λr=> .ref r.d))) (λr e' h' i=>au i.2.2) aB (λa r e' h' i kk hk=> ?_) (λe' h' i=> ?_) (Bv X k) _ _ ⟨.refl _ _,.mk [] [] Zc mc hl2 rfl rfl λJ=>bI,hc2⟩
 ·obtain⟨k2,i,hcc⟩:=i
  obtain⟨acc,lat,Z',m,hl,ea,el,sub⟩:=i
  have ma:=sub a (.head _)
  have Ba:=B.all (s:=C8) (l:=acc)
  have ma':a∈(Ce C8 X acc).rows:=by rw[(bv _ _ _).1];exact ma
  have Hr:=(Z'.ro a ma').1
  have f1:=(k2 Ai rfl).trans g1
  have f3:=(k2 Av rfl).trans g3
  have f4:=(k2 BP rfl).trans g4
  have f5:=(k2 Ga rfl).trans g5
  have f6:=(k2 GI rfl).trans g6
  rw[aV] at ea el
  have sub2:∀ x∈r,x∈X.rows:=λx mx=>sub x (.tail _ mx)
  have la:acc.length<=60:=by
   have :=congrArg List.length ea
   rw[List.length_append] at this
   have :=List.length_filter_le (DF (X.top k) now (Dv X)) (Bv X k)
   have :=cL X k
   have :=B.len
   omega
  have ll:lat.length < lim:=by
   have :=congrArg List.length el
   rw[List.length_append] at this
   have :=List.length_filter_le (Ez (X.top k) now (Dv X)) (Bv X k)
   have :=cL X k
   have :=B.len
   exact Nat.lt_trans (show lat.length < 1000 by omega) (by decide)
  have skip:DF (X.top k) now (Dv X) a=false->Ez (X.top k) now (Dv X) a=false->kk (Ad e' AQ (some (.ref a.d))) h':=λz1 z2=>by
   rw[z1] at ea
   rw[z2] at el
   exact hk _ _ ⟨k2.set rfl,.mk acc lat Z' m hl ea el sub2,hcc⟩
  have JR:DF (X.top k) now (Dv X) a=true->Ez (X.top k) now (Dv X) a=false->Bx (BK E8 (Ah (Aa Ai) (Ah (Aa AQ) (Ah (Ag (.str C8)) As))) Az) (Bp (n+1)) (Ad e' AQ (some (.ref a.d))) (Iq kk (EG (Af (DY (Ab Au (Aa Ai) (Ag (.str CA))) (Aa Ae)) (Gm (An (Aa GI)) (DP OQ (Aa GI)) (Ag .none))) (Bp (n+1)) (Dp Q))) h':=λz1 z2=>by
   rw[z1] at ea
   rw[z2] at el
   nofun
   refine lJ G Z' Ba (by omega) ma' λh3 Z3 m3=> ?_
   rw[<-fU] at Z3
   nofun
   exact hk _ _ ⟨k2.set rfl,.mk (acc++ [a]) lat Z3 (m.trans m3) (m3.get hl tl rfl) (by rw[List.append_assoc];exact ea) el sub2,m3.get hcc tc rfl⟩
  nofun
  refine dI (λc1=> ?_) λc1=> ?_
  rotate_left
  ·nofun
   exact skip (by unfold DF;rw[decide_eq_false (Int.not_le.mpr c1)];rfl) (by unfold Ez;rw[decide_eq_false (Int.not_le.mpr c1)];rfl)
  nofun
  refine dI (λc2=> ?_) λc2=> ?_
  ·eq_refl
   exact JR (by unfold DF;rw[decide_eq_true c1,decide_eq_true (show a.num<=X.top k - 3 by omega)];rfl) (by unfold Ez;rw[decide_eq_true c1,decide_eq_true (show a.num<=X.top k - 3 by omega)];rfl)
  nofun
  refine dI (λc3=> ?_) λc3=> ?_
  ·exact JR (by unfold DF;rw[decide_eq_true c1,decide_eq_true (show a.tm<=now - Dv X by omega),Bool.or_true];rfl) (by unfold Ez;rw[decide_eq_true c1,decide_eq_true (show a.tm<=now - Dv X by omega),Bool.or_true];rfl)
  have z1:DF (X.top k) now (Dv X) a=false:=by unfold DF;rw[decide_eq_true c1,decide_eq_false (show ¬ a.num<=X.top k - 3 by omega),decide_eq_false (show ¬ a.tm<=now - Dv X by omega)];rfl
  have z2:Ez (X.top k) now (Dv X) a=true:=by unfold Ez;rw[decide_eq_true c1,decide_eq_false (show ¬ a.num<=X.top k - 3 by omega),decide_eq_false (show ¬ a.tm<=now - Dv X by omega)];rfl
  rw[z1] at ea
  rw[z2] at el
  nofun
  refine fH hl (by rw[List.length_map];exact ll) ?_
  nofun
  exact hk _ _ ⟨k2.set rfl,.mk acc (lat++ [a]) (Z'.mod G (S:= [0]) (.set (by rw[tl];rfl)) rfl) (m.Vp hlt) (by rw[aa,List.map_append];rfl) ea (by rw[List.append_assoc];exact el) sub2,(ab _ _ ncl.symm).trans hcc⟩
 ·obtain⟨k2,i,hcc⟩:=i
  obtain⟨acc,lat,Z',m,hl,ea,el,sub⟩:=i
  have f1:=(k2 Ai rfl).trans g1
  have f2:=(k2 Ae rfl).trans g2
  have f6:=(k2 GI rfl).trans g6
  rw[show acc=_ from(List.append_nil acc).symm.trans ea] at Z'
  have el:lat=_:=(List.append_nil lat).symm.trans el
  have Hx:(Ce C8 X ((Bv X k).filter (DF (X.top k) now (Dv X)))).Ap=X.Ap:=by rw[be]
  have Hw:=Z'.w
  have Hs:=Z'.ls
  rw[Hx] at Hs
  unfold K8 at q
  rw[<-el] at q
  clear ea el Hx
  generalize Ce C8 X ((Bv X k).filter (DF (X.top k) now (Dv X)))=Y at Z' Hw Hs q
  have fin:∀ o,lat.foldl (GP (Dv X)) none=o->Au (.ref (R 14)) (.str CA) (λx h=>Aa Ae (Bp (n+1)) e' (λi h=>Jr x i (Fr o) (λh=>Dp Q .next e' h) h) h) h':=λo eo=>by
   rw[eo] at q
   nofun
   refine fK Hs ⟨Int.natCast_nonneg _,by rw[Int.toNat_natCast,List.length_map];exact bk⟩ ?_
   rw[Int.toNat_natCast,lQ bk]
   nofun
   exact q _ (Z'.LO G (.at G rfl rfl _) (aa ..)) (m.trans (.at G rfl rfl _))
  nofun
  cases lat with
  |nil=>
   exact kY (bQ (cE (aK (by assumption) (bQ (fin none rfl)))))
  |cons a l=>
   iterate 2 eq_refl
   refine ae (a:=(a::l).map λr=>r.tm+Dv X) ?_ ⟨λz=>(nomatch z),λm mm mi=> ?_⟩
   ·show AT (getL h' lt) Gu=_
    rw[au hl]
    exact cG (λr:Aj=>r.tm+Dv X) (a::l)
   ·exact cE (aK (by assumption) (bQ (fin (some m) (tE mm mi))))
end
def K6 (X:BD):List Aj:= [0,1,2].flatMap λk=>(Bv X k).filter Aj.Cj
def Fm (X:BD)(o:Option Aj)(k:Nat):Option Aj:=cond (decide ((k:Int) < 2)||X.Bc) (match(Bv X k).filter Aj.asks with
 | []=>o
 |r::_=>match o with
  |none=>some r
  |some p=>if r.tm < p.tm then some r else some p) o
def JS (X:BD):Option Aj:= [0,1,2].foldl (Fm X) none
def J9 (X:BD)(speed:Bool):BD:=
 (λY=>{ Y with pr:=Y.pr+1 }) (match K6 X with | []=>cond speed X (match JS X with |none=>X|some r=>K9 C8 X r)|r::l=>Ce C8 X (r::l))
section
variable {n:Nat}{R D T:Nat->Nat}{S:List Nat}{h h' h0:H}{X Y:BD}{cf:Cc}{e:AZ}{Q:V->H->Prop}
def pO {a b:Nat}{xs ys:List V}(ha:h a=some (.lst xs))(hb:h b=some (.lst ys))(l:xs.length+ys.length<=lim)(q:∀ c,h c=none->Q (.ref c) (Ad h c (some (.lst (xs++ys))))):BA (.ref a) (.ref b) Q h:=by
 show Rf (.ref a) (.ref b) Q h
 unfold Rf
 exact ae (o:=(V.ref a).ref?) (a:=a) rfl (ae (o:=(V.ref b).ref?) (a:=b) rfl (ae (au ha) (ae (au hb) ⟨l,q⟩)))
def kQ {c N s:Nat}{l:List Aj}{Q:DJ->AZ->H->Prop}(G:A9 T R)(Z:CQ T R X h)(B:Mc N X)(bN:N+2*l.length<=800)(hc:h c=some (.lst (l.map λr=> .ref r.d)))(tc:T c=0)(sub:∀ x∈l,x∈X.rows)(ew:e Ai=some (.ref (R 14)))
  (q:∀ e' h',By [AQ] e e'->CQ T R (Ce s X l) h'->Mod T II h h'->Q .next e' h'):F6 (AA AQ) (Bx (BK E8 (Ah (Aa Ai) (Ah (Aa AQ) (Ah (Ag (.str s)) As))) Az)) (Bp (n+1)) (N3 c (l.map λr=> .ref r.d)) (l.map λr=> .ref r.d) e Q h:=by
 refine aU (f:=λr:Aj=>V.ref r.d) (λr e' h'=>By [AQ] e e'/\Mod T II h h'/\∃ pre,l=pre++r/\CQ T R (Ce s X pre) h') (λr e' h' i=>au (i.2.1.get hc tc rfl)) aB (λa r e' h' i kk hk=> ?_) (λe' h' i=> ?_) l _ _ ⟨.refl _ _,.refl _,[],rfl,Z⟩
 rotate_left
 ·obtain⟨k1,m,pre,ep,Z'⟩:=i
  rw[<-show l=pre from ep.trans (List.append_nil pre)] at Z'
  exact q _ _ k1 Z' m
 obtain⟨k1,m,pre,ep,Z'⟩:=i
 have ew':=(k1 Ai rfl).trans ew
 have ma:a∈(Ce s X pre).rows:=by rw[(bv _ _ _).1];exact sub a (by rw[ep];exact List.mem_append_right _ (.head _))
 have bl:=congrArg List.length ep
 rw[List.length_append,List.length_cons] at bl
 nofun
 refine lJ G Z' (B.all (l:=pre)) (by omega) ma λh2 Z2 m2=> ?_
 rw[<-fU] at Z2
 nofun
 exact hk _ _ ⟨k1.set rfl,m.trans m2,pre++ [a],by rw[ep,List.append_assoc];rfl,Z2⟩
def cz (X:BD)(k:Nat)(p:Aj->Bool):((Bv X k).filter p).length<=X.rows.length:=Nat.le_trans (List.length_filter_le _ _) (cL X k)
structure NM (T R:Nat->Nat)(X:BD)(h h':H):Prop where
 z:CQ T R X h'
 m:Mod T [] h h'
theorem NM.new {c:Nat}{o:O}(G:A9 T R)(x:NM T R X h h')(hc:h' c=none):NM T R X h (Ad h' c (some o)):=⟨x.z.mod G (S:= []) (.new hc) rfl,x.m.trans (.new hc)⟩
def pX {k f:Nat}{p:Aj->Bool}{Q:V->H->Prop}(G:A9 T R)(Z:CQ T R X h)(L:DS T h)(B:X.rows.length<=60)(ew:e Ai=some (.ref (R 14)))(es:e Ae=some (.int k))(pf:∀ r s,look f (JT r s)=some (.bool (p r)))
  (q:∀ c h',NM T R X h h'->h' c=some (.lst (((Bv X k).filter p).map λr=> .ref r.d))->T c=0->Q (.ref c) h'):Ct AQ (Cx DD (BK B6 (Ah (Aa Ai) (Ah (Aa Ae) As)) Az)) (An (Ab Au (Aa AQ) (Ag (.str f)))) (Aa AQ) (Bp (n+1)) e Q h:=by
 nofun
 refine jF Z B λc hc=> ?_
 have W1:=NM.new (o:= .lst ((Bv X k).map λr=> .ref r.d)) G ⟨Z,.refl _⟩ hc
 have hc1:=aa h c (some (O.lst ((Bv X k).map λr=> .ref r.d)))
 refine kz hc1 ⟨?_,?_⟩
 ·show((Bv X k).map _).length<=_
  rw[List.length_map];exact Nat.le_trans (Nat.le_trans (cL X k) B) (by decide)
 generalize Ad h c (some (.lst ((Bv X k).map λr=> .ref r.d)))=h1 at W1 hc1 ⊢
 refine br (Bv X k) (λr=>V.ref r.d) p (λr=> .ref r.d) rfl (au hc1) aB (λr m Q q=> ?_) (λr m J Q q=>aK rfl q) λc2 hc2=> ?_
 ·have Hd:=(W1.z.ro r (bI m)).1
  iterate 2 eq_refl
  refine lB Hd (pf r _) ?_
  nofun
  exact q
 ·exact q c2 _ (W1.new G hc2) (aa ..) ((W1.m.alive L).fresh hc2)
def hN (X:BD)(B:X.rows.length<=60):∀ l:List Nat,(l.flatMap λk=>(Bv X k).filter Aj.Cj).length<=60*l.length
 | []=>Nat.le_refl _
 |k::l=>by
  have :=hN X B l
  have :=cz X k Aj.Cj
  rw[List.flatMap_cons,List.length_append,List.length_cons];omega
def cI {o:Option Aj}{k:Nat}(i:∀ p,o=some p->p∈X.rows):∀ p,Fm X o k=some p->p∈X.rows:=by
 unfold Fm
 cases decide ((k:Int) < 2)||X.Bc with
 |false=>exact i
 |true=>
  show ∀ p,(match(Bv X k).filter Aj.asks with | []=>o|r::_=>_)=some p->_
  cases e:(Bv X k).filter Aj.asks with
  |nil=>exact i
  |cons r l=>
   have m:r∈X.rows:=bI (List.mem_filter.mp (show r∈(Bv X k).filter Aj.asks by rw[e];exact .head _)).1
   cases o with
   |none=>exact λp z=>by cases z;exact m
   |some q=>
    show ∀ p,(if r.tm < q.tm then some r else some q)=some p->_
    by_cases c:r.tm < q.tm
    ·rw[if_pos c];exact λp z=>by cases z;exact m
    ·rw[if_neg c];exact i
def oM:∀ p,JS X=some p->p∈X.rows:=cI (cI (cI λJ z=>nomatch z))
def QZ (o:Option Aj):V:=match o with |none=> .none|some r=> .ref r.d
def rU {Q:DJ->AZ->H->Prop}(G:A9 T R)(Z:CQ T R X h)(L:DS T h)(B:X.rows.length<=60)(ew:e Ai=some (.ref (R 14)))(eo:e A3=some .none)
  (q:∀ e' h',By [Ae,Cl,A3] e e'->e' A3=some (QZ (JS X))->NM T R X h h'->Q .next e' h'):
  Ck (AA Ae) (Jq (Ag (.int 3))) (AS (Fk (An (Ab (Aw DZ) (Aa Ae) (Ag (.int 2)))) (An (Ab Au (Aa Ai) (Ag (.str BU))))) (Ak (Af (AA Cl) (Ct AQ (Cx DD (BK B6 (Ah (Aa Ai) (Ah (Aa Ae) As)) Az)) (An (Ab Au (Aa AQ) (Ag (.str Dl)))) (Aa AQ)))
  (AS (Cp (An (Aa Cl)) (Fk (An (Ab F3 (Aa A3) (Ag .none))) (An (Ab (Aw DZ) (Ab Au (Ab Au (Aa Cl) (Ag (.int 0))) (Ag (.str GD))) (Ab Au (Aa A3) (Ag (.str GD))))))) (Af (AA A3) (Ab Au (Aa Cl) (Ag (.int 0)))) AN)) AN) (Bp (n+1)) e Q h:=by
 nofun
 refine gr ⟨by decide,by decide⟩ ?_
 rw[show(Fn (Hn 0 3 1)).xs= [0,1,2].map (λk:Nat=>V.int k) from rfl]
 refine aU (f:=λk:Nat=>V.int k) (λr e' h'=>By [Ae,Cl,A3] e e'/\NM T R X h h'/\∃ o,e' A3=some (QZ o)/\(∀ p,o=some p->p∈X.rows)/\r.foldl (Fm X) o=JS X) (λJ J J J=>trivial) aB (λk r e' h' i kk hk=> ?_) (λe' h' i=> ?_) [0,1,2] _ _ ⟨.refl _ _,⟨Z,.refl _⟩,none,eo,(λJ z=>nomatch z),rfl⟩
 rotate_left
 ·obtain⟨k1,W,o,e1,-,e2⟩:=i
  have e2:o=JS X:=e2
  rw[e2] at e1
  exact q _ _ k1 e1 W
 obtain⟨k1,W,o,e1,om,e2⟩:=i
 have e2:r.foldl (Fm X) (Fm X o k)=JS X:=e2
 have om2:=cI (k:=k) om
 have fin:∀ e2 h2,By [Ae,Cl,A3] e e2->NM T R X h h2->e2 A3=some (QZ (Fm X o k))->kk e2 h2:=λe3 h3 k3 W3 eo3=>hk e3 h3 ⟨k3,W3,_,eo3,om2,e2⟩
 have ew':=(k1 Ai rfl).trans ew
 have Hw:=W.z.w
 clear hk
 have go:(decide ((k:Int) < 2)||X.Bc)=true->Ak (Af (AA Cl) (Ct AQ (Cx DD (BK B6 (Ah (Aa Ai) (Ah (Aa Ae) As)) Az)) (An (Ab Au (Aa AQ) (Ag (.str Dl)))) (Aa AQ)))
  (AS (Cp (An (Aa Cl)) (Fk (An (Ab F3 (Aa A3) (Ag .none))) (An (Ab (Aw DZ) (Ab Au (Ab Au (Aa Cl) (Ag (.int 0))) (Ag (.str GD))) (Ab Au (Aa A3) (Ag (.str GD))))))) (Af (AA A3) (Ab Au (Aa Cl) (Ag (.int 0)))) AN) (Bp (n+1)) (Ad e' Ae (some (.int k))) (Iq kk Q) h':=λz=>by
  rw[show Fm X o k=_ from by unfold Fm;rw[z]] at fin
  iterate 1 eq_refl
  refine pX (p:=Aj.asks) G W.z (W.m.alive L) B ew' rfl (λr s=>rfl) λc h2 W2 hc tc=> ?_
  have W3:NM T R X h h2:=⟨W2.z,W.m.trans W2.m⟩
  have k4:By [Ae,Cl,A3] e (Ad (Ad e' Ae (some (.int k))) Cl (some (.ref c))):=(k1.set rfl).set rfl
  cases ea:(Bv X k).filter Aj.asks with
  |nil=>
   rw[ea] at hc fin
   nofun
   exact fin _ _ k4 W3 e1
  |cons a l=>
   rw[ea] at hc fin
   have ma:a∈X.rows:=bI (List.mem_filter.mp (show a∈(Bv X k).filter Aj.asks by rw[ea];exact .head _)).1
   have Ha:=(W3.z.ro a ma).1
   have i0:MY ((a::l).map λr=>V.ref r.d) 0=some (.ref a.d):=rfl
   cases o with
   |none=>
    unfold QZ at e1
    nofun
    exact fin _ _ (k4.set rfl) W3 rfl
   |some p=>
    have Hp:=(W3.z.ro p (om p rfl)).1
    unfold QZ at e1
    nofun
    refine a9 (λc=> ?_) λc=> ?_
    ·nofun
     exact fin _ _ (k4.set rfl) W3 (by show _=some (QZ (if a.tm < p.tm then some a else some p));rw[if_pos c];rfl)
    ·nofun
     exact fin _ _ k4 W3 (by show _=some (QZ (if a.tm < p.tm then some a else some p));rw[if_neg (Int.not_lt.mpr c)];exact e1)
 nofun
 refine bH (λc=> ?_) λc=> ?_
 ·iterate 1 eq_refl
  exact go (by rw[c];rfl)
 nofun
 refine bH (λc2=> ?_) λc2=> ?_
 ·exact go (by rw[c,c2];rfl)
 ·nofun
  exact fin _ _ (k1.set rfl) W (by unfold Fm;rw[c,c2];exact e1)
end
section
variable {n:Nat}{R D T:Nat->Nat}{S:List Nat}{h h' h0:H}{X Y:BD}{cf:Cc}{e:AZ}{Q:V->H->Prop}
def mS {N:Nat}{sp:Bool}(G:A9 T R)(Z:CQ T R X h)(L:DS T h)(B:Mc N X)(bN:N<=300)(q:∀ h',CQ T R (J9 X sp) h'->Mod T II h h'->Q .none h'):Bp (n+2) Gd [.ref (R 14),.bool sp] [] Q h:=by
 refine ay (d:=Kn) (b:=MG) rfl ⟨rfl,rfl,rfl,rfl,rfl,rfl⟩ ?_
 have fin:∀ (Y:BD) (e2:AZ) (h2:H),CQ T R Y h2->Mod T II h h2->e2 Ai=some (.ref (R 14))->(∀ h',CQ T R { Y with pr:=Y.pr+1 } h'->Mod T II h h'->Q .none h')->Af (DY (Aa Ai) (Ag (.str Bu))) (Ab BA (Ab Au (Aa Ai) (Ag (.str Bu))) (Ag (.int 1))) (Bp (n+1)) e2 (Dp Q) h2:=λY e2 h2 Z2 m2 es2 q=>by
  have Hw:=Z2.w
  nofun
  refine cg (X':={ Y with pr:=Y.pr+1 }) G Z2 rfl rfl ⟨rfl,rfl,rfl,rfl,rfl⟩ λh3 Z3 m3=> ?_
  nofun
  exact q _ Z3 (m2.trans (m3.mono rfl))
 refine aD ?_
 nofun
 intro c hc
 have W0:=NM.new (o:= .lst []) G ⟨Z,.refl _⟩ hc
 have tc:=L.fresh hc
 have hc0:=aa h c (some (O.lst []))
 generalize Ad h c (some (.lst []))=h1 at W0 hc0 ⊢
 nofun
 refine gr ⟨by decide,by decide⟩ ?_
 refine(?_:F6 _ _ _ (Fn (Hn 0 3 1)) ([0,1,2].map (λk:Nat=>V.int k)) _ _ _)
 refine aU (f:=λk:Nat=>V.int k) (λr e' h'=>By [Ae,Fh] (Kn.bind [.ref (R 14),.bool sp] []) e'/\NM T R X h h'/\∃ c acc,e' Fh=some (.ref c)/\h' c=some (.lst (acc.map λr=> .ref r.d))/\T c=0/\acc++(r.flatMap λk=>(Bv X k).filter Aj.Cj)=K6 X) (λJ J J J=>trivial) aB (λk r e' h' i kk hk=> ?_) (λe' h' i=> ?_) [0,1,2] _ _ ⟨By.set (.refl _ _) rfl,W0,c,[],rfl,hc0,tc,rfl⟩
 ·obtain⟨k1,W,c,acc,ec,hc,tc,ea⟩:=i
  have ew:=(k1 Ai rfl).trans rfl
  have bl:acc.length<=180:=by
   have :=hN X B.len [0,1,2]
   have e2:=congrArg List.length ea
   rw[List.length_append] at e2
   unfold K6 at e2
   have :([0,1,2]:List Nat).length=3:=rfl
   omega
  iterate 3 eq_refl
  refine pX (p:=Aj.Cj) G W.z (W.m.alive L) B.len ew rfl (λr s=>rfl) λc2 h2 W2 hc2 tc2=> ?_
  have hc:=W2.m.get hc tc rfl
  have W3:NM T R X h h2:=⟨W2.z,W.m.trans W2.m⟩
  refine pO hc hc2 ?_ λc3 hn=> ?_
  ·rw[List.length_map,List.length_map]
   have :=cz X k Aj.Cj
   have :=B.len
   exact Nat.le_trans (show _<=1000 by omega) (by decide)
  nofun
  refine hk _ _ ⟨(k1.set rfl).set rfl,W3.new G hn,c3,acc++(Bv X k).filter Aj.Cj,rfl,?_,(W3.m.alive L).fresh hn,?_⟩
  ·rw[List.map_append];exact aa ..
  ·rw[List.append_assoc,<-ea];rfl
 ·obtain⟨k1,W,c,acc,ec,hc,tc,ea⟩:=i
  have ew:=(k1 Ai rfl).trans rfl
  have es:=(k1 OT rfl).trans rfl
  have ea:acc=K6 X:=(List.append_nil acc).symm.trans ea
  have sub:∀ x∈acc,x∈X.rows:=λx m=>by
   rw[ea] at m
   obtain⟨k,_,m⟩:=List.mem_flatMap.mp m
   exact bI (List.mem_filter.mp m).1
  have bl:acc.length<=180:=by rw[ea];exact hN X B.len [0,1,2]
  unfold J9 at q
  rw[<-ea] at q
  clear ea
  have mW:=W.m.mono (U:=II) rfl
  nofun
  cases acc with
  |cons a l=>
   nofun
   refine kQ G W.z B (by omega) hc tc sub ew λe2 h2 k2 Z2 m2=> ?_
   iterate 1 eq_refl
   exact fin _ _ _ Z2 (mW.trans m2) ((k2 Ai rfl).trans ew) q
  |nil=>
   nofun
   cases sp with
   |true=>
    iterate 4 eq_refl
    exact fin _ _ _ W.z mW ew q
   |false=>
    iterate 7 eq_refl
    refine rU (e:=Ad e' A3 (some .none)) G W.z (W.m.alive L) B.len ew rfl λe2 h2 k2 eo W2=> ?_
    have q:∀ h',CQ T R ((λY:BD=>{ Y with pr:=Y.pr+1 }) (match JS X with |none=>X|some r=>K9 C8 X r)) h'->Mod T II h h'->Q .none h':=q
    have om:=oM (X:=X)
    have ew2:=(k2 Ai rfl).trans ew
    have m3:=mW.trans (W2.m.mono (U:=II) rfl)
    generalize JS X=o at eo q om
    cases o with
    |none=>
     unfold QZ at eo
     iterate 9 eq_refl
     exact fin _ _ _ W2.z m3 ew2 q
    |some r=>
     unfold QZ at eo
     nofun
     refine lJ G W2.z B (by omega) (om r rfl) λh3 Z3 m4=> ?_
     iterate 2 eq_refl
     exact fin _ _ _ Z3 (m3.trans m4) ew2 q
end
def Ks (X:BD)(s:Int):Int:=match X.least with |none=>(if s < 1000 then 1000 else s)|some m=>if(if s < 1000 then 1000 else s) < m then(if s < 1000 then 1000 else s) else m
def Pb (X:BD)(s d:Int):Int:=if Ks X s < (if s < 1000 then 1000 else s) - d then(if s < 1000 then 1000 else s) - d else(if s < 1000 then 1000 else s)
def Qx (X:BD)(s d:Int):Int:=match X.DW with |none=>s|some m=>Int.fdiv (7*m+Pb X s d) 8
def Qv (X:BD)(s d:Int):BD:={ X with least:=some (Ks X s),AR:=Pb X s d,DW:=some (Qx X s d) }
def JG (X:BD)(k:Nat)(nums:List Int):List Aj:=(Bv X k).filter λr=>ED r.num nums
def QW (Y:BD):BD:=cond Y.valid { Y with tries:=0 } Y
def LW (fr:List Aj)(r:Aj)(la dl now:Int)(Y:BD):BD:=cond (decide (r.num=la) && !(fr.filter Aj.asks).isEmpty) (Qv Y (now - r.tm) (if 25000 < dl then 25000 else dl)) Y
def Pw (X:BD)(k:Nat)(nums:List Int)(la dl now:Int):BD:=match(JG X k nums).getLast? with
 |none=>X
 |some r=>QW (K8 (LW (JG X k nums) r la dl now (Ce A7 X (JG X k nums))) k now)
def Lo (X:BD)(k:Nat)(nums:List Int)(la dl now:Int):BD:=Pw { X with top:=Ad X.top k (if X.top k < la then la else X.top k) } k nums la dl now
section
variable {n:Nat}{R D T:Nat->Nat}{S:List Nat}{h h' h0:H}{X Y:BD}{cf:Cc}{e:AZ}
def rW {s d:Int}{Q:DJ->AZ->H->Prop}(G:A9 T R)(Z:CQ T R X h)(ew:e Ai=some (.ref (R 14)))(es:e Cu=some (.int s))(ed:e BP=some (.int d))
  (q:∀ e' h',By [A6] e e'->CQ T R (Qv X s d) h'->Mod T [14] h h'->Q .next e' h'):
  Ak (Af (AA A6) (Ab (Aw Fg) (Aa Cu) (Ag (.int 1000))))
  (Ak (Af (DY (Aa Ai) (Ag (.str DV))) (Gm (An (Ab F3 (Ab Au (Aa Ai) (Ag (.str DV))) (Ag .none))) (Aa A6) (Ab (Aw Kt) (Ab Au (Aa Ai) (Ag (.str DV))) (Aa A6))))
  (Ak (AS (An (Ab (Aw Gg) (Ab Cv (Aa A6) (Aa BP)) (Ab Au (Aa Ai) (Ag (.str DV))))) (Af (AA A6) (Ab Cv (Aa A6) (Aa BP))) AN)
  (Ak (Af (DY (Aa Ai) (Ag (.str A6))) (Aa A6))
  (Af (DY (Aa Ai) (Ag (.str BJ))) (Gm (An (Ab F3 (Ab Au (Aa Ai) (Ag (.str BJ))) (Ag .none))) (Aa Cu) (Ab CT (Ab BA (Ab CM (Ag (.int 7)) (Ab Au (Aa Ai) (Ag (.str BJ)))) (Aa A6)) (Ag (.int 8)))))))) cf e Q h:=by
 have Hw:=Z.w
 have e8:Ks X s=match X.least with |none=>(if s < 1000 then 1000 else s)|some m=>if(if s < 1000 then 1000 else s) < m then(if s < 1000 then 1000 else s) else m:=rfl
 have e9:Pb X s d=if Ks X s < (if s < 1000 then 1000 else s) - d then(if s < 1000 then 1000 else s) - d else(if s < 1000 then 1000 else s):=rfl
 have e7:Qx X s d=match X.DW with |none=>s|some m=>Int.fdiv (7*m+Pb X s d) 8:=rfl
 unfold Qv at q
 generalize Ks X s=ls at e8 e9 q
 generalize Pb X s d=lt at e9 e7 q
 generalize Qx X s d=sm at e7 q
 nofun
 generalize (if s < 1000 then 1000 else s)=Mp at *
 have st3:∀ h1,CQ T R { X with least:=some ls } h1->Mod T [14] h h1->Ak (AS (An (Ab (Aw Gg) (Ab Cv (Aa A6) (Aa BP)) (Ab Au (Aa Ai) (Ag (.str DV))))) (Af (AA A6) (Ab Cv (Aa A6) (Aa BP))) AN)
  (Ak (Af (DY (Aa Ai) (Ag (.str A6))) (Aa A6))
  (Af (DY (Aa Ai) (Ag (.str BJ))) (Gm (An (Ab F3 (Ab Au (Aa Ai) (Ag (.str BJ))) (Ag .none))) (Aa Cu) (Ab CT (Ab BA (Ab CM (Ag (.int 7)) (Ab Au (Aa Ai) (Ag (.str BJ)))) (Aa A6)) (Ag (.int 8)))))) cf (Ad e A6 (some (.int Mp))) Q h1:=λh1 Z1 m1=>by
  have Hw:=Z1.w
  have st5:∀ e2,By [A6] e e2->e2 A6=some (.int lt)->Ak (Af (DY (Aa Ai) (Ag (.str A6))) (Aa A6))
    (Af (DY (Aa Ai) (Ag (.str BJ))) (Gm (An (Ab F3 (Ab Au (Aa Ai) (Ag (.str BJ))) (Ag .none))) (Aa Cu) (Ab CT (Ab BA (Ab CM (Ag (.int 7)) (Ab Au (Aa Ai) (Ag (.str BJ)))) (Aa A6)) (Ag (.int 8))))) cf e2 Q h1:=λe2 k2 el=>by
   have ew2:=(k2 Ai rfl).trans ew
   have es2:=(k2 Cu rfl).trans es
   nofun
   refine cg (X':={ X with least:=some ls,AR:=lt }) G Z1 rfl rfl ⟨rfl,rfl,rfl,rfl,rfl⟩ λh2 Z2 m2=> ?_
   have Hw:=Z2.w
   have fin:Au (.ref (R 14)) (.str BJ) (λJ J=>True) h2->∀ v,v=V.int sm->Jr (.ref (R 14)) (.str BJ) v (λh=>Q .next e2 h) h2:=λJ v ev=>by
    rw[ev]
    exact cg (X':={ X with least:=some ls,AR:=lt,DW:=some sm }) G Z2 rfl rfl ⟨rfl,rfl,rfl,rfl,rfl⟩ λh3 Z3 m3=>q _ _ k2 Z3 (m1.trans (m2.trans m3))
   have fin:=fin (lB Hw rfl trivial)
   nofun
   cases hs:X.DW with
   |none=>
    rw[hs] at e7
    refine k7 ?_
    nofun
    exact fin _ (congrArg V.int e7.symm)
   |some m=>
    rw[hs] at e7
    refine kZ ?_
    nofun
    rw[hs]
    refine u2 (by decide) ?_
    nofun
    exact fin _ (congrArg V.int e7.symm)
  nofun
  refine a9 (λc=> ?_) λc=> ?_
  ·rw[if_pos c] at e9
   iterate 3 eq_refl
   exact st5 _ (By.set (By.set (.refl _ _) rfl) rfl) (by rw[e9];rfl)
  ·rw[if_neg (Int.not_lt.mpr c)] at e9
   iterate 1 eq_refl
   exact st5 _ (By.set (.refl _ _) rfl) (by rw[e9];rfl)
 cases hl:X.least with
 |none=>
  rw[hl] at e8
  refine k7 ?_
  iterate 3 eq_refl
  exact cg (X':={ X with least:=some ls }) G Z rfl (by rw[e8];rfl) ⟨rfl,rfl,rfl,rfl,rfl⟩ λh1 Z1 m1=>a8 (st3 _ Z1 m1)
 |some m=>
  rw[hl] at e8
  refine kZ ?_
  nofun
  rw[hl]
  refine v9 ?_
  iterate 2 eq_refl
  exact cg (X':={ X with least:=some ls }) G Z rfl (by rw[e8];rfl) ⟨rfl,rfl,rfl,rfl,rfl⟩ λh1 Z1 m1=>a8 (st3 _ Z1 m1)
end
section
variable {n:Nat}{R D T:Nat->Nat}{S:List Nat}{h h' h0:H}{X Y:BD}{cf:Cc}{e:AZ}
def qI {l:List Int}{i:Int}{c:Nat}{Q:V->H->Prop}(H:h c=some (.lst (l.map .int)))(q:Q (.bool (ED i l)) h):Qj (.int i) (.ref c) Q h:=by
 unfold Qj
 refine ae (show AT (V.ref c).ref? (λl=>getL h l)=some (l.map .int) from au H) ?_
 exact ae (cG id l|>.trans (by rw[List.map_id])) q
def jq {α:Type}{f:α->V}{l:List α}{a:α}(e:l.getLast? =some a):MY (l.map f) (-1)=some (f a):=by
 unfold MY Jt
 rw[if_neg (by decide),List.length_map]
 cases l with
 |nil=>cases e
 |cons x l=>
  rw[if_pos (by rw[List.length_cons];omega)]
  show(List.map _ (x::l))[_]? =_
  rw[List.getElem?_map,show(-1+((x::l).length:Int)).toNat=(x::l).length - 1 by rw[List.length_cons];omega,<-List.getLast?_eq_getElem?,e];rfl
def tQ {k N na:Nat}{nums:List Int}{la dl now:Int}{Q:V->H->Prop}(G:A9 T R)(Z:CQ T R X h)(L:DS T h)(bk:k < 3)(B:Mc N X)(bN:N<=300)(hn:h na=some (.lst (nums.map .int)))(tn:T na=0)(el:nums.getLast? =some la)
  (q:∀ h',CQ T R (Lo X k nums la dl now) h'->Mod T II h h'->Q .none h'):Bp (n+3) Gw [.ref (R 14),.int k,.ref na,.int dl,.int now] [] Q h:=by
 refine ay (d:=Mj) (b:=Mf) rfl ⟨rfl,rfl,rfl,rfl,rfl,rfl⟩ ?_
 have Hw:=Z.w
 have Ht:=Z.tp
 have il:=jq (f:=V.int) el
 have md:=Mod.at (T:=T) (R:=R) (S:=II) (k:=16) (h:=h) G rfl rfl
 have md1:=Mod.at (T:=T) (R:=R) (S:= [16]) (k:=16) (h:=h) G rfl rfl
 refine aD ?_
 nofun
 refine bP Ht (d6 bk) ?_
 nofun
 refine fK Ht ⟨Int.natCast_nonneg _,by rw[Int.toNat_natCast,List.length_map];exact bk⟩ ?_
 rw[Int.toNat_natCast,lQ (g:=V.int) bk]
 have Z1:=Z.SP G (md1 _) (aa h (R 16) (some (.lst ([0,1,2].map λj=> .int (Ad X.top k (if X.top k < la then la else X.top k) j)))))
 have m1:=md (.lst ([0,1,2].map λj=> .int (Ad X.top k (if X.top k < la then la else X.top k) j)))
 have hn1:=(md1 (.lst ([0,1,2].map λj=> .int (Ad X.top k (if X.top k < la then la else X.top k) j)))).get hn tn rfl
 generalize Ad h (R 16) (some (.lst ([0,1,2].map λj=> .int (Ad X.top k (if X.top k < la then la else X.top k) j))))=h1 at Z1 m1 hn1 ⊢
 unfold Lo at q
 have B1:Mc N { X with top:=Ad X.top k (if X.top k < la then la else X.top k) }:=⟨B.nd,B.len,B.bd⟩
 generalize { X with top:=Ad X.top k (if X.top k < la then la else X.top k) }=Jk at q Z1 B1
 clear md md1 Ht Hw Z B
 unfold Pw at q
 nofun
 refine jF Z1 B1.len λc hc=> ?_
 have W1:=NM.new (o:= .lst ((Bv Jk k).map λr=> .ref r.d)) G ⟨Z1,.refl _⟩ hc
 have hc1:=aa h1 c (some (O.lst ((Bv Jk k).map λr=> .ref r.d)))
 have hn2:=W1.m.get hn1 tn rfl
 generalize Ad h1 c (some (.lst ((Bv Jk k).map λr=> .ref r.d)))=h2 at W1 hc1 hn2 ⊢
 refine kz hc1 ⟨?_,?_⟩
 ·show((Bv Jk k).map _).length<=_
  rw[List.length_map];exact Nat.le_trans (Nat.le_trans (cL Jk k) B1.len) (by decide)
 refine br (Bv Jk k) (λr=>V.ref r.d) (λr=>ED r.num nums) (λr=> .ref r.d) rfl (au hc1) aB (λr m Q q=> ?_) (λr m J Q q=>aK rfl q) λc2 hc2=> ?_
 ·have Hd:=(W1.z.ro r (bI m)).1
  nofun
  refine qI hn2 ?_
  nofun
  exact q
 have W2:=W1.new (o:= .lst ((JG Jk k nums).map λr=> .ref r.d)) G hc2
 have hc3:=aa h2 c2 (some (O.lst ((JG Jk k nums).map λr=> .ref r.d)))
 have tc2:=(W1.m.alive (m1.alive L)).fresh hc2
 have hn3:=(Mod.new (T:=T) (S:= []) (o:= .lst ((JG Jk k nums).map λr=> .ref r.d)) hc2).get hn2 tn rfl
 refine(?_:(λh3:H=>EG _ (Bp (n+2)) _ .next (Ad _ ID (some (.ref c2))) h3) (Ad h2 c2 (some (.lst ((JG Jk k nums).map λr=> .ref r.d)))))
 generalize Ad h2 c2 (some (.lst ((JG Jk k nums).map λr=> .ref r.d)))=h3 at W2 hc3 hn3 ⊢
 have sub:∀ x∈JG Jk k nums,x∈Jk.rows:=λx m=>bI (List.mem_filter.mp m).1
 have lf:(JG Jk k nums).length<=60:=Nat.le_trans (cz Jk k _) B1.len
 generalize JG Jk k nums=fr at *
 have m3:=m1.trans (W2.m.mono (U:=II) rfl)
 nofun
 refine kQ G W2.z B1 (by omega) hc3 tc2 sub (by rfl) λe4 h4 k4 Z4 m4=> ?_
 have hc4:=m4.get hc3 tc2 rfl
 have hn4:=m4.get hn3 tn rfl
 have m5:=m3.trans m4
 have e4f:=(k4 ID rfl).trans rfl
 have e4w:e4 Ai=some (.ref (R 14)):=(k4 Ai rfl).trans rfl
 have e4s:e4 Ae=some (.int k):=(k4 Ae rfl).trans rfl
 have e4n:e4 Av=some (.int now):=(k4 Av rfl).trans rfl
 have e4d:e4 BP=some (.int dl):=(k4 BP rfl).trans rfl
 have e4u:e4 Bk=some (.ref na):=(k4 Bk rfl).trans rfl
 have B4:=B1.all (s:=A7) (l:=fr)
 have sub4:∀ x∈fr,x∈(Ce A7 Jk fr).rows:=λx m=>by rw[(bv _ _ _).1];exact sub x m
 have hnil:fr= []->Ce A7 Jk fr=Jk:=λz=>by rw[z];rfl
 generalize Ce A7 Jk fr=Y4 at Z4 B4 sub4 q hnil
 clear hc3 hn3 hc1 hn1 hn2 W1 W2 Z1 m1 m3 m4 B1 k4
 cases fr with
 |nil=>
  nofun
  exact q _ (by rw[<-hnil rfl];exact Z4) m5
 |cons a l=>
  obtain⟨r,er⟩:∃ r,(a::l).getLast? =some r:=⟨_,List.getLast?_cons⟩
  rw[er] at q
  dsimp only at q
  have mr:r∈Y4.rows:=sub4 r (List.mem_of_getLast? er)
  have ir:=jq (f:=λr:Aj=>V.ref r.d) er
  have Hr:=(Z4.ro r mr).1
  have fin:∀ Y e5 h5,By [Cu,BP,A6] e4 e5->CQ T R Y h5->Mc 500 Y->Mod T II h h5->Y=LW (a::l) r la dl now Y4->Ak (Bx (BK E9 (Ah (Aa Ai) (Ah (Aa Ae) (Ah (Aa Av) As))) Az))
    (AS (An (Ab Au (Aa Ai) (Ag (.str EO)))) (Af (DY (Aa Ai) (Ag (.str Dw))) (Ag (.int 0))) AN) (Bp (n+2)) e5 (Dp Q) h5:=λY e5 h5 k5 Z5 B5 m6 eY=>by
   rw[<-eY] at q
   have g1:=(k5 Ai rfl).trans e4w
   have g2:=(k5 Ae rfl).trans e4s
   have g3:=(k5 Av rfl).trans e4n
   nofun
   refine nq G Z5 (m6.alive L) bk B5 (by decide) λh6 Z6 m7=> ?_
   unfold QW at q
   generalize K8 Y k now=Y2 at Z6 q
   have Hw:=Z6.w
   nofun
   refine bH (λc=> ?_) λc=> ?_
   ·rw[show cond Y2.valid { Y2 with tries:=0 } Y2= { Y2 with tries:=0 } by rw[c];rfl] at q
    nofun
    refine cg (X':={ Y2 with tries:=0 }) G Z6 rfl rfl ⟨rfl,rfl,rfl,rfl,rfl⟩ λh7 Z7 m8=> ?_
    nofun
    exact q _ Z7 (m6.trans (m7.trans (m8.mono rfl)))
   ·rw[c] at q
    nofun
    exact q _ Z6 (m6.trans m7)
  have B5:Mc 500 Y4:=⟨B4.nd,B4.len,by have :=B4.bd;omega⟩
  nofun
  refine dJ ?_
  nofun
  refine cM (λc=> ?_) λc=> ?_
  rotate_left
  ·refine dY (bC (a8 ?_))
   exact fin _ _ _ (.refl _ _) Z4 B5 m5 (by unfold LW;rw[decide_eq_false c];rfl)
  nofun
  refine⟨?_,?_⟩
  ·show((a::l).map _).length<=_
   rw[List.length_map];exact Nat.le_trans lf (by decide)
  refine br (a::l) (λr=>V.ref r.d) Aj.asks (λr=> .ref r.d) rfl (au hc4) aB (λx m Q q=> ?_) (λr m J Q q=>aK rfl q) λc5 hc5=> ?_
  ·have Hd:=(Z4.ro x (sub4 x m)).1
   nofun
   exact q
  have W5:=NM.new (o:= .lst (((a::l).filter Aj.asks).map λr=> .ref r.d)) G ⟨Z4,.refl _⟩ hc5
  have hc6:=aa h4 c5 (some (O.lst (((a::l).filter Aj.asks).map λr=> .ref r.d)))
  have hc4:=(Mod.new (T:=T) (S:= []) (o:= .lst (((a::l).filter Aj.asks).map λr=> .ref r.d)) hc5).get hc4 tc2 rfl
  generalize Ad h4 c5 (some (.lst (((a::l).filter Aj.asks).map λr=> .ref r.d)))=h5 at W5 hc6 hc4 ⊢
  have m6:=m5.trans (W5.m.mono (U:=II) rfl)
  have Hr:=(W5.z.ro r mr).1
  refine xy hc6 ?_
  cases ea:(a::l).filter Aj.asks with
  |nil=>
   refine kY (bC (a8 ?_))
   exact fin _ _ _ (.refl _ _) W5.z B5 m6 (by unfold LW;rw[ea,decide_eq_true c];rfl)
  |cons b l2=>
   refine nY ?_
   iterate 17 eq_refl
   generalize ee:Ad _ BP _=e5
   have k5:By [Cu,BP,A6] e4 e5:=by rw[<-ee];exact By.set (By.set (.refl _ _) rfl) rfl
   have g1:e5 Ai=some (.ref (R 14)):=by rw[<-ee];exact e4w
   have g2:e5 Cu=some (.int (now - r.tm)):=by rw[<-ee];rfl
   have g3:e5 BP=some (.int (if 25000 < dl then 25000 else dl)):=by rw[<-ee];rfl
   clear ee
   refine rW (e:=e5) G W5.z g1 g2 g3 λe6 h6 k6 Z6 m7=> ?_
   eq_refl
   exact fin (Qv Y4 (now - r.tm) (if 25000 < dl then 25000 else dl)) e6 h6 (k5.trans (k6.sub rfl)) Z6 ⟨B5.nd,B5.len,B5.bd⟩ (m6.trans (m7.mono rfl)) (by unfold LW;rw[ea,decide_eq_true c];rfl)
end
def Jn (X:BD):List Aj:=X.rows.filter λr=>Nat.beq (X.st r.d) AP && (r.asks && (decide ((r.sp:Int) < 2)||X.Bc))
def Se (X:BD)(rho:FI)(limited:Bool):Option Int:=match D0 X.Ap with
 |some k=>X.Ap k
 |none=>cond (limited||(X.valid && (Jn X).isEmpty)) none (some (X.last+J4 rho X.Bc*2 ^ X.tries.toNat))
def GN (Ap:Nat->Option Int)(k:Nat):Bool:=!(Fr (Ap k)).isNone
def cZ (Ap:Nat->Option Int):∀ l:List Nat,Gu ((l.filter (GN Ap)).map λk=>Fr (Ap k))=some (l.filterMap Ap)
 | []=>rfl
 |k::l=>by
  rw[List.filter_cons,List.filterMap_cons]
  unfold GN
  cases e:Ap k with
  |none=>exact cZ Ap l
  |some x=>
   show AT (Fr (Ap k)).int? (λi=>AT (Gu ((l.filter (GN Ap)).map λk=>Fr (Ap k))) λl=>some (i::l))=_
   rw[e,cZ Ap l];rfl
def jw {Ap:Nat->Option Int}{m:Int}(a:m∈ [0,1,2].filterMap Ap)(b:∀ y∈ [0,1,2].filterMap Ap,m<=y):∃ k,D0 Ap=some k/\Ap k=some m:=by
 have i:=bF Ap
 obtain⟨j,mj,ej⟩:=List.mem_filterMap.mp a
 cases e:D0 Ap with
 |none=>rw[e] at i;rw[i j mj] at ej;cases ej
 |some k=>
  rw[e] at i
  obtain⟨mk,x,ex,i⟩:=i
  refine⟨k,rfl,?_⟩
  rw[ex]
  exact congrArg some (Int.le_antisymm (i j mj m ej).1 (b x (List.mem_filterMap.mpr ⟨k,mk,ex⟩)))
def oF {Ap:Nat->Option Int}(a: [0,1,2].filter (GN Ap)= []):D0 Ap=none:=by
 have i:=bF Ap
 cases e:D0 Ap with
 |none=>rfl
 |some k=>
  rw[e] at i
  obtain⟨mk,x,ex,-⟩:=i
  have :=List.filter_eq_nil_iff.mp a k mk
  unfold GN at this
  rw[ex] at this
  exact absurd rfl this
section
variable {n:Nat}{R D T:Nat->Nat}{S:List Nat}{h h' h0:H}{X Y:BD}{cf:Cc}{e:AZ}
def kH {rho:FI}{lim:Bool}{Q:V->H->Prop}(G:A9 T R)(Z:CQ T R X h)(L:DS T h)(H5:h (R 5)=some (.ins DE (D 5) (Ld R rho)))(bl:X.rows.length<=60)(bt:0<=X.tries/\X.tries<=60)
  (q:∀ h',CQ T R X h'->Mod T [] h h'->Q (Fr (Se X rho lim)) h'):Bp (n+2) Gy [.ref (R 5),.ref (R 14),.bool lim] [] Q h:=by
 refine ay (d:=Io) (b:=Mh) rfl ⟨rfl,rfl,rfl,rfl,rfl,rfl⟩ ?_
 have Hw:=Z.w
 have Hs:=Z.ls
 unfold Se at q
 refine aD ?_
 nofun
 refine br [0,1,2] (λk=>Fr (X.Ap k)) (GN X.Ap) (λk=>Fr (X.Ap k)) rfl (au Hs) aB (λk m Q q=> ?_) (λk m J Q q=>aK rfl q) λc hc=> ?_
 ·nofun
  exact q
 have W1:=NM.new (o:= .lst (([0,1,2].filter (GN X.Ap)).map λk=>Fr (X.Ap k))) G ⟨Z,.refl _⟩ hc
 have hc1:=aa h c (some (O.lst (([0,1,2].filter (GN X.Ap)).map λk=>Fr (X.Ap k))))
 have H51:=(Mod.new (T:=T) (S:= []) (o:= .lst (([0,1,2].filter (GN X.Ap)).map λk=>Fr (X.Ap k))) hc).get H5 (G 5 rfl) rfl
 refine(?_:(λh3:H=>EG _ (Bp (n+1)) _ .next (Ad _ CG (some (.ref c))) h3) (Ad h c (some (.lst (([0,1,2].filter (GN X.Ap)).map λk=>Fr (X.Ap k))))))
 generalize Ad h c (some (.lst (([0,1,2].filter (GN X.Ap)).map λk=>Fr (X.Ap k))))=h1 at W1 hc1 H51 ⊢
 have il:=cZ X.Ap [0,1,2]
 have ln:=oF (Ap:=X.Ap)
 have lm:= @jw X.Ap
 generalize [0,1,2].filterMap X.Ap=ms at il lm
 generalize [0,1,2].filter (GN X.Ap)=fs at *
 have hgo:D0 X.Ap=none->Ak (Af (AA Cl) (Ct AQ (Cx DD (Ab Au (Aa Ai) (Ag (.str CR)))) (Cp (An (Ab Cw (Ab Au (Aa AQ) (Ag (.str Er))) (Ag (.str AP)))) (Cp (An (Ab Au (Aa AQ) (Ag (.str Dl)))) (Fk (An (Ab (Aw DZ) (Ab Au (Aa AQ) (Ag (.str Ae))) (Ag (.int 2)))) (An (Ab Au (Aa Ai) (Ag (.str BU))))))) (Aa AQ)))
  (Ak (AS (Fk (An (Aa He)) (Cp (An (Ab Au (Aa Ai) (Ag (.str EO)))) (EF (An (Aa Cl))))) (BZ (Ag .none)) AN)
  (BZ (Ab BA (Ab Au (Aa Ai) (Ag (.str FN))) (Ab CM (Bh (Aa AC) B7 As (Aq Bm (Ab Au (Aa Ai) (Ag (.str BU))) Az)) (Ab OX (Ag (.int 2)) (Ab Au (Aa Ai) (Ag (.str Dw)))))))) (Bp (n+1)) (Ad (Io.bind [.ref (R 5),.ref (R 14),.bool lim] []) CG (some (.ref c))) (Dp Q) h1:=λek=>by
  rw[ek] at q
  dsimp only at q
  have Hw:=W1.z.w
  have Hr:=W1.z.rw
  nofun
  refine⟨by show(X.rows.map _).length<=_;rw[List.length_map];exact Nat.le_trans bl (by decide),?_⟩
  refine br X.rows (λr=>V.ref r.d) (λr=>Nat.beq (X.st r.d) AP && (r.asks && (decide ((r.sp:Int) < 2)||X.Bc))) (λr=> .ref r.d) rfl (au Hr) aB (λr m Q q=> ?_) (λr m J Q q=>aK rfl q) λc2 hc2=> ?_
  ·have Hd:=(W1.z.ro r m).1
   nofun
   refine bH (λz1=> ?_) λz1=> ?_ <;> rw[z1] at q
   rotate_left
   ·exact q
   nofun
   refine bH (λz2=> ?_) λz2=> ?_ <;> rw[z2] at q
   rotate_left
   ·exact q
   nofun
   refine bH (λz3=> ?_) λz3=> ?_ <;> rw[z3] at q
   ·exact q
   nofun
   exact q
  have W2:=W1.new (o:= .lst ((Jn X).map λr=> .ref r.d)) G hc2
  have hc3:=aa h1 c2 (some (O.lst ((Jn X).map λr=> .ref r.d)))
  have H52:=(Mod.new (T:=T) (S:= []) (o:= .lst ((Jn X).map λr=> .ref r.d)) hc2).get H51 (G 5 rfl) rfl
  refine(?_:(λh3:H=>EG _ (Bp (n+1)) _ .next (Ad _ Cl (some (.ref c2))) h3) (Ad h1 c2 (some (.lst ((Jn X).map λr=> .ref r.d)))))
  generalize Ad h1 c2 (some (.lst ((Jn X).map λr=> .ref r.d)))=h2 at W2 hc3 H52 ⊢
  generalize Jn X=as at hc3 q
  have Hw:=W2.z.w
  have hp:=qa bt
  have fin:(lim||(X.valid && as.isEmpty))=false->BZ (Ab BA (Ab Au (Aa Ai) (Ag (.str FN))) (Ab CM (Bh (Aa AC) B7 As (Aq Bm (Ab Au (Aa Ai) (Ag (.str BU))) Az)) (Ab OX (Ag (.int 2)) (Ab Au (Aa Ai) (Ag (.str Dw)))))) (Bp (n+1)) (Ad (Ad (Io.bind [.ref (R 5),.ref (R 14),.bool lim] []) CG (some (.ref c))) Cl (some (.ref c2))) (Dp Q) h2:=λz=>by
   rw[z] at q
   nofun
   refine jM H52 ?_
   nofun
   refine pM ⟨rfl,bt⟩ ?_
   nofun
   exact q _ W2.z W2.m
  cases lim with
  |true=>
   nofun
   exact q _ W2.z W2.m
  |false=>
   nofun
   refine bH (λz=> ?_) λz=> ?_
   rotate_left
   ·refine dY (bC (a8 ?_))
    exact fin (by rw[z];rfl)
   rw[z] at q
   nofun
   cases as with
   |nil=>
    nofun
    exact q _ W2.z W2.m
   |cons a l=>
    refine dJ (nY (bC (a8 ?_)))
    exact fin (by rw[z];rfl)
 nofun
 cases fs with
 |nil=>
  refine kY (bC (a8 ?_))
  exact hgo (ln rfl)
 |cons a l=>
  nofun
  refine ae (a:=ms) ?_ ⟨λz=> ?_,λm mm mi=> ?_⟩
  ·show AT (getL h1 c) Gu=_
   rw[au hc1];exact il
  ·rw[z] at il
   obtain⟨i,_,il⟩:=aG (show AT (Fr (X.Ap a)).int? (λi=>AT (Gu (l.map λk=>Fr (X.Ap k))) λl=>some (i::l))=some [] from il)
   obtain⟨l',_,il⟩:=aG il
   cases il
  ·obtain⟨k,ek,em⟩:=lm mm mi
   rw[ek] at q
   dsimp only at q
   rw[em] at q
   nofun
   exact q _ W1.z W1.m
end
structure Ub (X:Bz)(Y:BD):Prop where
 told:X.told=Y.due
 plain:∀ x∈Y.due,Fo 3 x
 pr:(X.pr:Int)=Y.pr
 bf:X.bf=((Y.rows.filter λr=>Nat.beq (Y.st r.d) AP && r.flight).map Aj.sz).sum
 Ar:∀ k,k < 3->X.Ar k=Bv Y k
 Ap:∀ k,k < 3->X.Ap k=Y.Ap k
 cnt:∀ k,k < 3->X.cnt k=(((Bv Y k).filter Aj.asks).length:Int)
 tm:∀ b,Ty X b=Se Y X.r b
 ini:X.r.ini=Y.DW.isSome
 guess:X.r.guess=Y.guess
 Im:∀ s,Y.DW=some s->X.r.Cd=s
structure OE (T R D:Nat->Nat)(X:Bz)(Y:BD)(h h':H):Prop where
 r:Bb T R D X h'
 w:CQ T R Y h'
 m:Mod T [] h h'
section
variable {n:Nat}{R D T:Nat->Nat}{S:List Nat}{h h' h0:H}{X:Bz}{Y:BD}{cf:Cc}{e:AZ}
theorem OE.new {c:Nat}{o:O}(G:A9 T R)(x:OE T R D X Y h h')(hc:h' c=none):OE T R D X Y h (Ad h' c (some o)):=⟨x.r.mod G (S:= []) (.new hc) rfl,x.w.mod G (S:= []) (.new hc) rfl,x.m.trans (.new hc)⟩
def qg {a b:Nat}{xs ys:List V}{Q:V->H->Prop}(ha:h a=some (.lst xs))(hb:h b=some (.lst ys))(px:∀ x∈xs,Fo 3 x)(e:xs=ys)(q:Q (.bool false) h):Jh (.ref a) (.ref b) Q h:=by
 subst e
 refine ae (au ha) (ae (au hb) ⟨px,px,?_⟩)
 show Q (.bool !(@decide (xs=xs) (Classical.propDecidable _))) h
 rw[@decide_eq_true _ (Classical.propDecidable _) rfl];exact q
def qh {o:Option Int}{Q:V->H->Prop}(q:Q (.bool false) h):Jh (Fr o) (Fr o) Q h:=by
 cases o with
 |none=>exact q
 |some i=>show Q (.bool !(decide (i=i))) h;rw[decide_eq_true rfl];exact q
def lL {l:List Aj}:∀ x∈l.map (λr:Aj=>V.int r.num),Fo 3 x:=λx m=>by
 obtain⟨r,_,rfl⟩:=List.mem_map.mp m;exact .int _ _
def rP {k:Nat}{Q:DJ->AZ->H->Prop}(G:A9 T R)(B:OE T R D X Y h0 h)(s:Ub X Y)(bk:k < 3)(bl:Y.rows.length<=60)(er:e AC=some (.ref (R 5)))(ew:e Ai=some (.ref (R 14)))(es:e Ae=some (.int k))
  (q:∀ e' h',By [Ik,CR] e e'->OE T R D X Y h0 h'->Q .next e' h'):
  Ak (Af (AA Ik) (Ab Au (Al (Aa AC) Cn) (Aa Ae)))
  (Ak (Af (AA CR) (BK B6 (Ah (Aa Ai) (Ah (Aa Ae) As)) Az))
  (Ak (AS (Fk (An (Ab Jh (Ct AU (Cx DD (Al (Aa Ik) Bi)) L7 (Aa AU)) (Ct AQ (Cx DD (Aa CR)) L7 (Ab Au (Aa AQ) (Ag (.str AU)))))) (An (Ab Jh (Al (Aa Ik) Cr) (Ab Au (Ab Au (Aa Ai) (Ag (.str CA))) (Aa Ae))))) (BZ (Ag (.bool false))) AN)
  (AS (An (Ab Jh (Al (Aa Ik) Ax) (DP Go (Ct AQ (Cx DD (Aa CR)) (An (Ab Au (Aa AQ) (Ag (.str Dl)))) (Aa AQ))))) (BZ (Ag (.bool false))) AN))) (Bp (n+1)) e Q h:=by
 have H5:=B.r.rc
 have H20:=B.r.GV
 have i3:=d6 (f:=λk=>V.ref (R (k+8))) bk
 have la:=cL Y k
 nofun
 refine jF B.w bl λc hc=> ?_
 have B1:=B.new (o:= .lst ((Bv Y k).map λr=> .ref r.d)) G hc
 have hc1:=aa h c (some (O.lst ((Bv Y k).map λr=> .ref r.d)))
 refine(?_:(λh3:H=>EG _ (Bp (n+1)) _ .next (Ad _ CR (some (.ref c))) h3) (Ad h c (some (.lst ((Bv Y k).map λr=> .ref r.d)))))
 generalize Ad h c (some (.lst ((Bv Y k).map λr=> .ref r.d)))=h1 at B1 hc1 ⊢
 have Hs:=B1.r.sp k bk
 have Hd:=B1.r.dd k bk
 obtain⟨aq,rp,Hs⟩:=Hs
 obtain⟨ep,Hd⟩:=Hd
 rw[s.Ar k bk] at Hd
 nofun
 refine⟨?_,?_⟩
 ·show(((Bv Y k).map λr:Aj=>(r.num,V.ref r.p)).map _).length<=_
  rw[List.length_map,List.length_map];exact Nat.le_trans (Nat.le_trans la bl) (by decide)
 refine br (Bv Y k) (λr=>V.int r.num) (λJ=>true) (λr=> .int r.num) (by show List.map _ (List.map _ _)=_;rw[List.map_map];rfl) (bV Hd) aB (λr m Q q=>q) (λr m J Q q=>aK rfl q) λc2 hc2=> ?_
 rw[List.filter_eq_self.mpr λJ J=>rfl]
 have B2:=B1.new (o:= .lst ((Bv Y k).map λr=> .int r.num)) G hc2
 have hc3:=aa h1 c2 (some (O.lst ((Bv Y k).map λr=> .int r.num)))
 have hc4:=(ab h1 (some (.lst ((Bv Y k).map λr=> .int r.num))) (az (e1:=hc2) hc1)).trans hc1
 have Hs2:=(ab h1 (some (.lst ((Bv Y k).map λr=> .int r.num))) (az (e1:=hc2) Hs)).trans Hs
 generalize Ad h1 c2 (some (.lst ((Bv Y k).map λr=> .int r.num)))=h2 at B2 hc3 hc4 Hs2 ⊢
 clear Hs Hd B1 hc1
 nofun
 refine⟨?_,?_⟩
 ·show((Bv Y k).map _).length<=_
  rw[List.length_map];exact Nat.le_trans (Nat.le_trans la bl) (by decide)
 refine br (Bv Y k) (λr=>V.ref r.d) (λJ=>true) (λr=> .int r.num) rfl (au hc4) aB (λr m Q q=>q) (λr m J Q q=> ?_) λc5 hc5=> ?_
 ·have Hr:=(B2.w.ro r (bI m)).1
  nofun
  exact q
 rw[List.filter_eq_self.mpr λJ J=>rfl]
 have B3:=B2.new (o:= .lst ((Bv Y k).map λr=> .int r.num)) G hc5
 have n5:∀ {a o},h2 a=some o->Ad h2 c5 (some (.lst ((Bv Y k).map λr=> .int r.num))) a=some o:=λz=>(ab _ _ (az (e1:=hc5) z)).trans z
 have hc6:=n5 hc3
 have hc7:=n5 hc4
 have Hs3:=n5 Hs2
 have hc8:=aa h2 c5 (some (O.lst ((Bv Y k).map λr=> .int r.num)))
 clear n5
 generalize Ad h2 c5 (some (.lst ((Bv Y k).map λr=> .int r.num)))=h3 at B3 hc6 hc7 hc8 Hs3 ⊢
 refine qg hc6 hc8 lL rfl ?_
 have Hw:=B3.w.w
 have Hl:=B3.w.ls
 have il:=d6 (f:=λk=>Fr (Y.Ap k)) bk
 nofun
 rw[s.Ap k bk]
 refine qh ?_
 nofun
 refine⟨?_,?_⟩
 ·show((Bv Y k).map _).length<=_
  rw[List.length_map];exact Nat.le_trans (Nat.le_trans la bl) (by decide)
 refine br (Bv Y k) (λr=>V.ref r.d) Aj.asks (λr=> .ref r.d) rfl (au hc7) aB (λr m Q q=> ?_) (λr m J Q q=>aK rfl q) λc9 hc9=> ?_
 ·have Hr:=(B3.w.ro r (bI m)).1
  nofun
  exact q
 refine pQ (aa ..) ?_
 rw[List.length_map,s.cnt k bk]
 rw[decide_eq_true rfl]
 nofun
 exact q _ _ (By.set (By.set (.refl _ _) rfl) rfl) (B3.new G hc9)
end
section
variable {n:Nat}{R D T:Nat->Nat}{S:List Nat}{h h' h0:H}{X:Bz}{Y:BD}{cf:Cc}{e:AZ}
theorem OE.trans (x:OE T R D X Y h0 h)(y:OE T R D X Y h h'):OE T R D X Y h0 h':=⟨y.r,y.w,x.m.trans y.m⟩
def vw {Q:V->H->Prop}(Z:Bb T R D X h)(q:Q (.int X.bf) h):Bp (n+1) IA [.ref (R 5)] [] Q h:=by
 refine ay (d:=Iy) (b:=Iw) rfl ⟨rfl,rfl,rfl,rfl,rfl,rfl⟩ ?_
 have H5:=Z.rc
 have C:=Z.cc
 obtain⟨f,cw,st,ss,cr,H,b,w,s,m,c,t,o,no,si,g,M⟩:=C
 refine fO ?_
 nofun
 exact q
def jN {Q:V->H->Prop}(G:A9 T R)(Z:Bb T R D X h)(W:CQ T R Y h)(L:DS T h)(s:Ub X Y)(bl:Y.rows.length<=60)(b1:0<=X.r.tries/\X.r.tries<=60)(b2:0<=Y.tries/\Y.tries<=60)
  (q:∀ h',OE T R D X Y h h'->Q (.bool true) h'):Bp (n+3) Ge [.ref (R 5),.ref (R 14),.ref (R 6),.ref (R 7)] [] Q h:=by
 refine ay (d:=Ly) (b:=Lr) rfl ⟨rfl,rfl,rfl,rfl,rfl,rfl⟩ ?_
 have B0:OE T R D X Y h h:=⟨Z,W,.refl _⟩
 have Hw:=W.w
 have H6:=Z.told
 have H15:=W.du
 have Hr:=W.rw
 obtain⟨Fs,el,H7⟩:=Z.pr
 refine aD ?_
 nofun
 refine qg H6 H15 (by rw[s.told];exact s.plain) s.told ?_
 nofun
 rw[el,s.pr]
 rw[decide_eq_true rfl]
 nofun
 refine⟨by show(Y.rows.map _).length<=_;rw[List.length_map];exact Nat.le_trans bl (by decide),?_⟩
 refine br Y.rows (λr=>V.ref r.d) (λr=>Nat.beq (Y.st r.d) AP && r.flight) (λr=> .int r.sz) rfl (au Hr) aB (λr m Q q=> ?_) (λr m J Q q=> ?_) λc hc=> ?_
 ·have Hd:=(W.ro r m).1
  nofun
  refine bH (λz=> ?_) λz=> ?_
  ·have q:Q (true && r.flight) h:=z▸q
   nofun
   exact q
  ·have q:Q (false && r.flight) h:=z▸q
   exact q
 ·have Hd:=(W.ro r m).1
  nofun
  exact q
 have B1:=B0.new (o:= .lst ((Y.rows.filter λr=>Nat.beq (Y.st r.d) AP && r.flight).map λr=> .int r.sz)) G hc
 have hc1:=aa h c (some (O.lst ((Y.rows.filter λr=>Nat.beq (Y.st r.d) AP && r.flight).map λr=> .int r.sz)))
 refine(?_:(λh3:H=>EG _ (Bp (n+2)) _ .next (Ad _ Dd (some (.ref c))) h3) (Ad h c (some (.lst ((Y.rows.filter λr=>Nat.beq (Y.st r.d) AP && r.flight).map λr=> .int r.sz)))))
 generalize Ad h c (some (.lst ((Y.rows.filter λr=>Nat.beq (Y.st r.d) AP && r.flight).map λr=> .int r.sz)))=h1 at B1 hc1 ⊢
 clear B0 Hw H6 H15 Hr H7
 have H5:=B1.r.rc
 iterate 6 eq_refl
 refine vj H5 rfl (vw B1.r ?_)
 nofun
 refine ae (show Po (.ref c) h1=some ((Y.rows.filter λr=>Nat.beq (Y.st r.d) AP && r.flight).map Aj.sz) from ?_) ?_
 ·show AT (getL h1 c) Gu=_
  rw[au hc1];exact cG Aj.sz _
 rw[<-s.bf]
 rw[decide_eq_true rfl]
 nofun
 refine gr ⟨by decide,by decide⟩ ?_
 refine(?_:F6 _ _ _ (Fn (Hn 0 3 1)) ([0,1,2].map (λk:Nat=>V.int k)) _ _ _)
 generalize ee:Ad _ Dd _=e1
 have f1:e1 AC=some (.ref (R 5)):=by rw[<-ee];rfl
 have f2:e1 Ai=some (.ref (R 14)):=by rw[<-ee];rfl
 clear ee
 refine aU (f:=λk:Nat=>V.int k) (λr e' h'=>By [Ae,Ik,CR] e1 e'/\OE T R D X Y h h'/\∀ k∈r,k < 3) (λJ J J J=>trivial) aB (λk r e' h' i kk hk=> ?_) (λe' h' i=> ?_) [0,1,2] _ _ ⟨.refl _ _,B1,λJ=>d4⟩
 ·obtain⟨k1,B2,b3⟩:=i
  eq_refl
  refine rP (e:=Ad e' Ae (some (.int k))) G B2 s (b3 k (.head _)) bl ((k1 AC rfl).trans f1) ((k1 Ai rfl).trans f2) rfl λe2 h2 k2 B3=> ?_
  exact hk _ _ ⟨By.trans (By.set k1 rfl) (k2.sub rfl),B3,λj mj=>b3 j (.tail _ mj)⟩
 obtain⟨k1,B2,-⟩:=i
 have g1:=(k1 AC rfl).trans f1
 have g2:=(k1 Ai rfl).trans f2
 clear f1 f2 k1 B1 hc1 H5
 nofun
 refine(?_:F6 _ _ _ (Fn [.bool false,.bool true]) ([false,true].map V.bool) _ _ _)
 refine aU (f:=V.bool) (λr e2 h2=>By [He] e' e2/\OE T R D X Y h h2) (λJ J J J=>trivial) aB (λb r e2 h2 i kk hk=> ?_) (λe2 h2 i=> ?_) [false,true] _ _ ⟨.refl _ _,B2⟩
 ·obtain⟨k2,B3⟩:=i
  have H5:=B3.r.rc
  have g1:=(k2 AC rfl).trans g1
  have g2:=(k2 Ai rfl).trans g2
  nofun
  refine vy G B3.r b1 ?_
  nofun
  refine kH (rho:=X.r) G B3.w (B3.m.alive L) H5 bl b2 λh3 W3 m3=> ?_
  rw[s.tm]
  refine qh ?_
  nofun
  exact hk _ _ ⟨k2.set rfl,B3.r.mod G m3 rfl,W3,B3.m.trans m3⟩
 obtain⟨k2,B3⟩:=i
 have g1:=(k2 AC rfl).trans g1
 have g2:=(k2 Ai rfl).trans g2
 have q:=q _ B3
 have H5:=B3.r.rc
 have Hw:=B3.w.w
 nofun
 refine jM H5 ?_
 nofun
 have ei:=s.ini
 have eg:=s.guess
 have es:=s.Im
 cases hs:Y.DW with
 |none=>
  rw[hs] at ei
  have p0:∀ b,J4 X.r b=2*Y.guess:=λb=>by unfold J4;rw[ei,<-eg];rfl
  refine k7 ?_
  nofun
  rw[p0,decide_eq_true rfl]
  nofun
  refine jL H5 ?_
  nofun
  rw[p0,decide_eq_true rfl]
  nofun
  exact q
 |some v=>
  rw[hs] at ei
  have p0:J4 X.r false=v+(if 4*X.r.var < 1000 then 1000 else 4*X.r.var):=by unfold J4;rw[ei,es v hs];rfl
  have p1:J4 X.r true=J4 X.r false+25000:=by rw[p0];unfold J4;rw[ei,es v hs];rfl
  have p2:v+1000<=J4 X.r false:=by rw[p0];split <;> omega
  refine kZ ?_
  nofun
  rw[hs]
  refine kS ?_
  nofun
  rw[decide_eq_true p2]
  nofun
  refine jL H5 ?_
  nofun
  rw[p1,decide_eq_true rfl]
  nofun
  exact q
end
def CW (h h':H):Prop:=∀ b o,h b=some o->h' b=some o
theorem CW.refl (h:H):CW h h:=λJ J e=>e
theorem CW.trans {h h' h'':H}(x:CW h h')(y:CW h' h''):CW h h'':=λb o e=>y b o (x b o e)
theorem CW.new {h h':H}{a:Nat}{o:O}(x:CW h h')(e:h a=none):CW h (Ad h' a (some o)):=λb o z=>(ab _ _ (az (e1:=e) z)).trans (x b o z)
theorem CW.none {h h':H}{c:Nat}(x:CW h h')(e:h' c=none):h c=none:=by
 cases z:h c with
 |none=>rfl
 |some o=>rw[x c o z] at e;cases e
section
variable {n:Nat}{h h':H}{Q:V->H->Prop}
def bU {C a d:Nat}(ne:a≠d):F5 h C a d a=some (.ins C d (DQ [])):=(ab _ _ ne).trans (aa ..)
def bL {C a d:Nat}(ha:h a=none)(hd:h d=none):CW h (F5 h C a d):=((CW.refl h).new ha).new hd
def qT {v:V}(q:∀ a d h',a≠d->h a=none->h d=none->h' a=some (.ins Ka d (DQ [(AV,v),(D1,.int 0),(D9,.int 0),(D8,.int 0),(ER,.none)]))->CW h h'->Q (.ref a) h'):KW (Bp (n+1)) Ka [] [(AW,v)] Q h:=by
 refine c8 rfl λa d ne ha hd=> ?_
 refine ay (d:=MK) (b:=MC) rfl ⟨rfl,rfl,rfl,rfl,rfl,rfl⟩ ?_
 have H0:=bU (h:=h) (C:=Ka) ne
 have ext:=bL (C:=Ka) ha hd
 generalize F5 h Ka a d=h1 at H0 ext ⊢
 refine aD ?_
 nofun
 refine aE H0 rfl ?_
 repeat(first|eq_refl|refine aT rfl ?_)
 exact q a d _ ne ha hd (aa ..) (ext.new ha)
def qS (q:∀ a d c h',a≠d->h a=none->h d=none->h c=none->a≠c->h' a=some (.ins Gn d (DQ [(Da,.int 0),(GE,.none),(FS,.bool false),(Fj,.int 5),(B8,.none),(Dy,.int 0),(Cg,.none),(Ch,.none),(D7,.int 0),(Dr,.ref c)]))->h' c=some (.lst ([0,0,0,0,0].map V.int))->CW h h'->Q (.ref a) h'):KW (Bp (n+1)) Gn [] [] Q h:=by
 refine c8 rfl λa d ne ha hd=> ?_
 refine ay (d:=MJ) (b:=MB) rfl ⟨rfl,rfl,rfl,rfl,rfl,rfl⟩ ?_
 have H0:=bU (h:=h) (C:=Gn) ne
 have ext:=bL (C:=Gn) ha hd
 generalize F5 h Gn a d=h1 at H0 ext ⊢
 refine aD ?_
 nofun
 refine aE H0 rfl ?_
 repeat(first|eq_refl|refine aT rfl ?_)
 refine gr ⟨by decide,by decide⟩ ?_
 refine⟨by decide,?_⟩
 refine br [0,1,2,3,4] (λk:Nat=>V.int k) (λJ=>true) (λJ=> .int 0) rfl trivial aB (λJ J Q q=>q) (λJ J J Q q=>bQ q) λc hc=> ?_
 have nac:a≠c:=az (e1:=hc) (aa ..)
 have hc1:=(ext.new ha).none hc
 refine aE ((ab _ _ nac).trans (aa ..)) rfl ?_
 nofun
 exact q a d c _ ne ha hd hc1 nac (aa ..) ((ab _ _ nac.symm).trans (aa ..)) (((ext.new ha).new hc1).new ha)
end
abbrev SC (c:Nat):List (Nat×V):= [(Da,.int 0),(GE,.none),(FS,.bool false),(Fj,.int 5),(B8,.none),(Dy,.int 0),(Cg,.none),(Ch,.none),(D7,.int 0),(Dr,.ref c)]
structure VB (h:H)(a d m md c:Nat)(h':H):Prop where
 fa:h a=none
 fm:h m=none
 fc:h c=none
 am:a≠m
 ac:a≠c
 mc:m≠c
 ha:h' a=some (.ins Eo d (DQ [(Ay,.int (10*1280)),(AV,.int 1280),(AY,.int 0),(BV,.int 0),(D6,.ref m)]))
 hm:h' m=some (.ins Gn md (DQ (SC c)))
 hc:h' c=some (.lst ([0,0,0,0,0].map V.int))
 ext:CW h h'
section
variable {n:Nat}{h h':H}{Q:V->H->Prop}
def tN (q:∀ a d m md c h',VB h a d m md c h'->Q (.ref a) h'):KW (Bp (n+2)) Eo [] [(AW,.int 1280)] Q h:=by
 refine c8 rfl λa d ne ha hd=> ?_
 refine ay (d:=K7) (b:=K5) rfl ⟨rfl,rfl,rfl,rfl,rfl,rfl⟩ ?_
 have H0:=bU (h:=h) (C:=Eo) ne
 have ext:=bL (C:=Eo) ha hd
 generalize F5 h Eo a d=h1 at H0 ext ⊢
 show AJ _ _
 refine ae (bD H0) ⟨rfl,?_⟩
 nofun
 refine ay (d:=MI) (b:=MA) rfl ⟨rfl,rfl,rfl,rfl,rfl,rfl⟩ ?_
 refine lM ?_
 nofun
 refine aE H0 rfl ?_
 repeat(first|eq_refl|refine aT rfl ?_)
 refine qS λm md c h2 nm fm fmd fc nmc Hm Hc ext2=> ?_
 have Ha:=ext2 _ _ (aa ..)
 have am:a≠m:=az (e1:=fm) (aa ..)
 have ac:a≠c:=az (e1:=fc) (aa ..)
 have ex1:=ext.new (o:= .ins Eo d (DQ (JK BV (.int 0) (JK AY (.int 0) (JK AV (.int 1280) (JK Ay (.int (10*1280)) [])))))) ha
 nofun
 refine aE Ha rfl ?_
 nofun
 exact q a d m md c _ ⟨ha,ex1.none fm,ex1.none fc,am,ac,nmc,aa ..,(ab _ _ am.symm).trans Hm,(ab _ _ ac.symm).trans Hc,(ex1.trans ext2).new ha⟩
def nf (q:∀ a d l h',h a=none->h l=none->a≠l->h' a=some (.ins IW d (DQ [(CB,.ref l)]))->h' l=some (.lst [])->CW h h'->Q (.ref a) h'):KW (Bp (n+1)) IW [] [] Q h:=by
 refine c8 rfl λa d ne ha hd=> ?_
 refine ay (d:=Nz) (b:=Nu) rfl ⟨rfl,rfl,rfl,rfl,rfl,rfl⟩ ?_
 have H0:=bU (h:=h) (C:=IW) ne
 have ext:=bL (C:=IW) ha hd
 generalize F5 h IW a d=h1 at H0 ext ⊢
 refine aD ?_
 nofun
 intro l hl
 have nal:a≠l:=az (e1:=hl) H0
 refine aE ((ab _ _ nal).trans H0) rfl ?_
 nofun
 refine(?_:F6 _ _ _ (Fn []) [] _ _ _)
 refine⟨trivial,?_⟩
 nofun
 exact q a d l _ ha (ext.none hl) nal (aa ..) ((ab _ _ nal.symm).trans (aa ..)) ((ext.new (ext.none hl)).new ha)
def qW (q:∀ a h',h a=none->CW h h'->Q (.ref a) h'):KW (Bp (n+1)) Oq [] [] Q h:=by
 refine c8 rfl λa d ne ha hd=> ?_
 refine ay (d:=MN) (b:=MF) rfl ⟨rfl,rfl,rfl,rfl,rfl,rfl⟩ ?_
 have H0:=bU (h:=h) (C:=Oq) ne
 have ext:=bL (C:=Oq) ha hd
 generalize F5 h Oq a d=h1 at H0 ext ⊢
 refine aD ?_
 nofun
 refine aE H0 rfl ?_
 repeat(first|eq_refl|refine aT rfl ?_)
 exact q a _ ha (ext.new ha)
end
structure Q8 (app:Bool)(h:H)(a d t:Nat)(h':H):Prop where
 fa:h a=none
 ft:h t=none
 nt:a≠t
 ha:∃ aq rp,h' a=some (.ins CO d (DQ [(Jp,.none),(Jw,aq),(Jx,.bool false),(D2,.int 0),(AO,.bool app),(DX,.int (-1)),(Eg,.none),(FP,rp),(Ax,.int 0),(BE,.int 0),(Cr,.none),(Bi,.ref t)]))
 ht:∃ ep,h' t=some (.BM ep [])
 ext:CW h h'
section
variable {n:Nat}{h h':H}{Q:V->H->Prop}
def p9 {a d:Nat}{app:Bool}{e:AZ}{h1:H}(es:e Ac=some (.ref a))(ea:e AO=some (.bool app))(H0:h1 a=some (.ins CO d (DQ [])))(ha:h a=none)(ext:CW h h1)(q:∀ t h',Q8 app h a d t h'->Q .none h'):IP (Bp (n+1)) e (Dp Q) h1:=by
 refine aD ?_
 nofun
 refine aE H0 rfl ?_
 nofun
 refine nf λb d2 l h2 fb fl J J J ext2=> ?_
 have H1:=ext2 _ _ (aa ..)
 have ex2:=(ext.new ha).trans ext2
 clear ext2
 nofun
 refine aE H1 rfl ?_
 repeat(first|eq_refl|refine aT rfl ?_)
 refine qW λw h3 fw ext3=> ?_
 have H2:=ext3 _ _ (aa ..)
 have ex3:=(ex2.new ha).trans ext3
 clear ext3 ex2 H1
 nofun
 refine aE H2 rfl ?_
 repeat(first|eq_refl|refine aT rfl ?_)
 intro t ep ht
 have nat:a≠t:=az (e1:=ht) (aa ..)
 nofun
 refine aE ((ab _ _ nat).trans (aa ..)) rfl ?_
 nofun
 exact q t _ ⟨ha,(ex3.new ha).none ht,nat,⟨_,_,aa ..⟩,⟨ep,(ab _ _ nat.symm).trans (aa ..)⟩,((ex3.new ha).new ((ex3.new ha).none ht)).new ha⟩
def jK (q:∀ a d t h',Q8 false h a d t h'->Q (.ref a) h'):KW (Bp (n+2)) CO [] [] Q h:=by
 refine c8 rfl λa d ne ha hd=> ?_
 exact ay (d:=Km) (b:=IP) rfl ⟨rfl,rfl,rfl,rfl,rfl,rfl⟩ (p9 (by rfl) (by rfl) (bU ne) ha (bL ha hd) λt h' z=>⟨rfl,q a d t h' z⟩)
def oQ (q:∀ a d t h',Q8 true h a d t h'->Q (.ref a) h'):KW (Bp (n+2)) CO [] [(AO,.bool true)] Q h:=by
 refine c8 rfl λa d ne ha hd=> ?_
 exact ay (d:=Km) (b:=IP) rfl ⟨rfl,rfl,rfl,rfl,rfl,rfl⟩ (p9 (by rfl) (by rfl) (bU ne) ha (bL ha hd) λt h' z=>⟨rfl,q a d t h' z⟩)
end
abbrev Lf (GV pr told:Nat)(g:Int)(cc Ea:Nat)(valid:Bool):List (Nat×V):= [(A5,.bool false),(D5,.int 25000),(AG,.bool valid),(Cn,.ref GV),(Fa,.lam 0 pr),(EA,.lam 1 told),(Dq,.int 0),(BC,.int 0),(EN,.int g),(Bs,.bool false),(A0,.int 0),(BW,.none),(Be,.int 0),(BG,.int 0),(A1,.int 0),(Dj,.ref cc),(Gi,.ref Ea)]
structure VG (pr told:Nat)(g:Int)(valid:Bool)(h:H)(a d s cc AI m md c Ea pd:Nat)(h':H):Prop where
 fa:h a=none
 fc:∃ h1,CW h h1/\h1 a≠none/\h1 cc=none/\h1 m=none/\h1 c=none
 am:cc≠m
 ac:cc≠c
 mc:m≠c
 hcc:h' cc=some (.ins Eo AI (DQ [(Ay,.int (10*1280)),(AV,.int 1280),(AY,.int 0),(BV,.int 0),(D6,.ref m)]))
 hm:h' m=some (.ins Gn md (DQ (SC c)))
 hc:h' c=some (.lst ([0,0,0,0,0].map V.int))
 fp:∃ h1,CW h h1/\h1 a≠none/\h1 cc≠none/\h1 m≠none/\h1 c≠none/\h1 Ea=none
 ha:h' a=some (.ins DE d (DQ (Lf s pr told g cc Ea valid)))
 hp:h' Ea=some (.ins Ka pd (DQ [(AV,.int 1280),(D1,.int 0),(D9,.int 0),(D8,.int 0),(ER,.none)]))
 ext:CW h h'
section
variable {n:Nat}{h h':H}{Q:V->H->Prop}
def qV {pr told:Nat}{g:Int}{valid:Bool}(q:∀ a d s cc AI m md c Ea pd h',VG pr told g valid h a d s cc AI m md c Ea pd h'->Q (.ref a) h'):KW (Bp (n+3)) DE [] [(FC,.int g),(AW,.int 1280),(AG,.bool valid),(Gf,.lam 0 pr),(IC,.lam 1 told)] Q h:=by
 refine c8 rfl λa d ne ha hd=> ?_
 refine ay (d:=MM) (b:=ME) rfl ⟨rfl,rfl,rfl,rfl,rfl,rfl⟩ ?_
 have H0:=bU (h:=h) (C:=DE) ne
 have ext:=bL (C:=DE) ha hd
 generalize F5 h DE a d=h1 at H0 ext ⊢
 refine aD ?_
 nofun
 refine aE H0 rfl ?_
 repeat(first|eq_refl|refine aT rfl ?_)
 intro s hs
 generalize hh:Ad h1 a _=h2 at hs ⊢
 have Ha:=(congrFun hh a).symm.trans (aa ..)
 have ex2:CW h h2:=by rw[<-hh];exact ext.new ha
 clear hh H0 ext
 have ns:a≠s:=az (e1:=hs) Ha
 have Ha:=(ab h2 (some (.lst [])) ns).trans Ha
 have ex3:=ex2.new (ex2.none hs) (o:= .lst [])
 generalize Ad h2 s (some (.lst []))=h3 at Ha ex3 ⊢
 clear ex2 hs
 nofun
 refine aE Ha rfl ?_
 repeat(first|eq_refl|refine aT rfl ?_)
 refine tN λcc AI m md c h4 N=> ?_
 generalize hh:Ad h3 a _=h5 at N
 have Ha:=(congrFun hh a).symm.trans (aa ..)
 have ex4:CW h h5:=by rw[<-hh];exact ex3.new ha
 clear hh ex3
 have Ha4:=N.ext _ _ Ha
 have nac:a≠cc:=az (e1:=N.fa) Ha
 have nam:a≠m:=az (e1:=N.fm) Ha
 have nax:a≠c:=az (e1:=N.fc) Ha
 have H6:=ab h4 (a:=a) (x:=cc) (some (O.own 0)) nac.symm
 nofun
 refine aE Ha4 rfl ?_
 have ex6:=(ex4.trans N.ext)
 repeat(first|eq_refl|refine aT rfl ?_)
 refine qT λEa pd h7 J fp J Hp ex7=> ?_
 generalize hh:Ad h4 a _=h8 at fp ex7
 have Ha8:=(congrFun hh a).symm.trans (aa ..)
 have keep:∀ x,x≠a->h8 x=h4 x:=λx z=>by rw[<-hh];exact ab _ _ z
 have ex8:CW h h8:=by rw[<-hh];exact ex6.new ha
 clear hh
 have nap:a≠Ea:=az (e1:=fp) Ha8
 have Ha7:=ex7 _ _ Ha8
 have k8:∀ x o,x≠a->h4 x=some o->Ad h7 a (some (.ins DE d (DQ (Lf s pr told g cc Ea valid)))) x=some o:=λx o z e=>(ab _ _ z).trans (ex7 _ _ ((keep x z).trans e))
 nofun
 refine aE Ha7 rfl ?_
 nofun
 refine q a d s cc AI m md c Ea pd _ ⟨ha,⟨h5,ex4,by rw[Ha];exact λz=>(nomatch z),N.fa,N.fm,N.fc⟩,N.am,N.ac,N.mc,k8 _ _ nac.symm N.ha,k8 _ _ nam.symm N.hm,k8 _ _ nax.symm N.hc,⟨h8,ex8,by rw[Ha8];exact λz=>(nomatch z),?_,?_,?_,fp⟩,aa ..,(ab _ _ nap.symm).trans Hp,(ex8.trans ex7).new ha⟩
 ·rw[keep cc nac.symm,N.ha];exact λz=>(nomatch z)
 ·rw[keep m nam.symm,N.hm];exact λz=>(nomatch z)
 ·rw[keep c nax.symm,N.hc];exact λz=>(nomatch z)
end
section
variable {n:Nat}{h h':H}{Q:V->H->Prop}
def qU {fl ak cr:Bool}{num tm sz:Int}(q:∀ a d s h',h a=none->h' a=some (.ins FL d (DQ [(Ke,.int 3),(CE,.bool fl),(AB,.bool ak),(Cz,.bool cr),(AH,.int num),(FE,.int 5),(Bg,.int tm),(C9,.int sz),(BN,.ref s)]))->CW h h'->Q (.ref a) h'):
  KW (Bp (n+1)) FL [.int 3,.bool fl,.bool ak,.bool cr,.int num,.int 5,.int tm,.int sz] [] Q h:=by
 refine c8 rfl λa d ne ha hd=> ?_
 refine ay (d:=ML) (b:=MD) rfl ⟨rfl,rfl,rfl,rfl,rfl,rfl⟩ ?_
 have H0:=bU (h:=h) (C:=FL) ne
 have ext:=bL (C:=FL) ha hd
 generalize F5 h FL a d=h1 at H0 ext ⊢
 refine aD ?_
 nofun
 refine aE H0 rfl ?_
 repeat(first|eq_refl|refine aT rfl ?_)
 intro s hs
 generalize hh:Ad h1 a _=h2 at hs ⊢
 have Ha:=(congrFun hh a).symm.trans (aa ..)
 have ex2:CW h h2:=by rw[<-hh];exact ext.new ha
 have ns:a≠s:=az (e1:=hs) Ha
 nofun
 refine aE ((ab _ _ ns).trans Ha) rfl ?_
 nofun
 exact q a d s _ ha (aa ..) ((ex2.new (ex2.none hs)).new ha)
def qX (q:∀ c,h c=none->Q (.ref c) (Ad h c (some (.lst ([0,1,900,12000,40000,150000,700000].map V.int))))):Bp (n+1) Gx [] [] Q h:=by
 refine ay (d:=Mk) (b:=Mg) rfl ⟨rfl,rfl,rfl,rfl,rfl,rfl⟩ ?_
 refine fO ?_
 nofun
 exact λc hc=>lO (q c hc)
def mY (q:∀ c,h c=none->Q (.ref c) (Ad h c (some (.lst ([100000,333000,1000].map V.int))))):Bp (n+1) GK [] [] Q h:=by
 refine ay (d:=KR) (b:=KO) rfl ⟨rfl,rfl,rfl,rfl,rfl,rfl⟩ ?_
 refine fO ?_
 nofun
 exact λc hc=>lO (q c hc)
end
def nM (s:Nat):∀ (l:List Aj) (st:Nat->Nat) (a:Nat),(l.foldl (λst r=>Ad st r.d s) st) a=if a∈l.map Aj.d then s else st a
 | [],st,a=>(if_neg (List.not_mem_nil)).symm
 |r::l,st,a=>by
  show(l.foldl (λst r=>Ad st r.d s) (Ad st r.d s)) a=_
  rw[nM s l,List.map_cons]
  by_cases z:a∈l.map Aj.d
  ·rw[if_pos z,if_pos (.tail _ z)]
  ·rw[if_neg z]
   by_cases e:a=r.d
   ·rw[if_pos (by rw[e];exact .head _),e,aa]
   ·rw[if_neg (by rw[List.mem_cons];exact λw=>w.elim e z),ab _ _ e]
structure Gv (rows:List Aj):Prop where
 so:rows.Pairwise λa b=>a.num < b.num
 nd:∀ x∈rows,∀ y∈rows,x.d=y.d->x=y
 sp:∀ x∈rows,x.sp < 3
 sz:∀ x∈rows,0<=x.sz/\x.sz<=1144
 len:rows.length<=20
theorem Gv.nn {rows:List Aj}(B:Gv rows){x y:Aj}(mx:x∈rows)(my:y∈rows)(e:x.num=y.num):x=y:=by
 have :=B.so
 clear B
 induction rows with
 |nil=>cases mx
 |cons a l ih=>
  obtain⟨s1,s2⟩:=List.pairwise_cons.mp this
  rcases List.mem_cons.mp mx with ex|m1 <;> rcases List.mem_cons.mp my with ey|m2
  ·rw[ex,ey]
  ·exact absurd e (Int.ne_of_lt (by rw[ex];exact s1 y m2))
  ·exact absurd e.symm (Int.ne_of_lt (by rw[ey];exact s1 x m1))
  ·exact ih m1 m2 s2
def sE {Y:BD}{s k:Nat}{rs:List Aj}(B:Gv Y.rows)(sub:∀ x∈rs,x∈Y.rows)(ns:Nat.beq s AP=false):Bv (Ce s Y rs) k=(Bv Y k).filter (CC rs):=by
 unfold Bv
 rw[be,List.filter_filter]
 refine List.filter_congr λx mx=> ?_
 show(decide ((x.sp:Int)=k) && Nat.beq ((rs.foldl (λst r=>Ad st r.d s) Y.st) x.d) AP)=_
 rw[nM]
 unfold CC
 by_cases z:x.d∈rs.map Aj.d
 ·rw[if_pos z,ns,Bool.and_false]
  obtain⟨y,my,e⟩:=List.mem_map.mp z
  have :=B.nd y (sub y my) x mx e
  subst this
  rw[show(rs.any λr=>r.num==y.num)=true from List.any_eq_true.mpr ⟨y,my,beq_self_eq_true _⟩];rfl
 ·rw[if_neg z,show(rs.any λr=>r.num==x.num)=false from List.any_eq_false.mpr λy my e=>z (List.mem_map.mpr ⟨y,my,by rw[B.nn (sub y my) mx (beq_iff_eq.mp e)]⟩)];rfl
def P5 (Y:BD):Int:=((Y.rows.filter λr=>Nat.beq (Y.st r.d) AP && r.flight).map Aj.sz).sum
def l9 {s:Nat}(ns:Nat.beq s AP=false){st:Nat->Nat}{a:Aj}:∀ {rows:List Aj},(∀ x∈rows,∀ y∈rows,x.d=y.d->x=y)->rows.Nodup->a∈rows->Nat.beq (st a.d) AP=true->
  ((rows.filter λr=>Nat.beq (Ad st a.d s r.d) AP && r.flight).map Aj.sz).sum=((rows.filter λr=>Nat.beq (st r.d) AP && r.flight).map Aj.sz).sum - cond a.flight a.sz 0
 | [],_,_,m,_=>absurd m List.not_mem_nil
 |x::l,nd,nx,m,ha=>by
  obtain⟨n1,n2⟩:=List.nodup_cons.mp nx
  rw[aV,aV,List.map_append,List.map_append,List.sum_append,List.sum_append]
  rcases List.mem_cons.mp m with rfl|m
  ·have e:∀ y∈l,Ad st a.d s y.d=st y.d:=λy my=>ab _ _ λz=>n1 (by rw[<-nd y (.tail _ my) a (.head _) z];exact my)
   rw[List.filter_congr (q:=λr=>Nat.beq (st r.d) AP && r.flight) λy my=>by rw[e y my],aa,ns,ha]
   cases a.flight
   ·show 0+_=0+_ - 0;omega
   ·show 0+_=a.sz+0+_ - a.sz;omega
  ·have e:Ad st a.d s x.d=st x.d:=ab _ _ λz=>n1 (by rw[nd x (.head _) a (.tail _ m) z];exact m)
   rw[e,l9 ns (λy my z mz=>nd y (.tail _ my) z (.tail _ mz)) n2 m ha]
   omega
theorem Gv.nx {rows:List Aj}(B:Gv rows):rows.Nodup:=B.so.imp λz e=>by rw[e] at z;exact Int.lt_irrefl _ z
def gK {s:Nat}(ns:Nat.beq s AP=false):∀ {rs:List Aj} {Y:BD},Gv Y.rows->(∀ x∈rs,x∈Y.rows/\Nat.beq (Y.st x.d) AP=true)->rs.Nodup->P5 (Ce s Y rs)=P5 Y - ((rs.filter Aj.flight).map Aj.sz).sum
 | [],Y,_,_,_=>(Int.sub_zero _).symm
 |a::rs,Y,B,z,nr=>by
  obtain⟨n1,n2⟩:=List.nodup_cons.mp nr
  obtain⟨ma,ha⟩:=z a (.head _)
  have :=gK ns (rs:=rs) (Y:=K9 s Y a) B (λx mx=>⟨(z x (.tail _ mx)).1,by
   show Nat.beq (Ad Y.st a.d s x.d) AP=true
   rw[ab _ _ λe=>n1 (by rw[<-B.nd x (z x (.tail _ mx)).1 a ma e];exact mx)]
   exact(z x (.tail _ mx)).2⟩) n2
  refine this.trans ?_
  have one:=l9 ns (st:=Y.st) B.nd B.nx ma ha
  show((Y.rows.filter λr=>Nat.beq (Ad Y.st a.d s r.d) AP && r.flight).map Aj.sz).sum - _=_
  rw[one,aV,List.map_append,List.sum_append]
  unfold P5
  cases a.flight
  ·show _ - 0 - _=_ - (0+_);omega
  ·show _ - a.sz - _=_ - (a.sz+0+_);omega
def sQ {l:List Aj}{a:Aj}(n:a.num ∉ l.map Aj.num):(l.filter λx=>x.num !=a.num)=l:=List.filter_eq_self.mpr λx m=>bne_iff_ne.mpr λz=>n (by rw[<-z];exact List.mem_map_of_mem m)
def iA (p:Aj->Bool){a:Aj}:∀ {l:List Aj},a∈l->(l.map Aj.num).Nodup->(((l.filter λx=>x.num !=a.num).filter p).length:Int)=((l.filter p).length:Int) - cond (p a) 1 0
 | [],m,_=>absurd m List.not_mem_nil
 |x::l,m,nd=>by
  rw[List.map_cons] at nd
  obtain⟨n1,n2⟩:=List.nodup_cons.mp nd
  rw[fG]
  rcases List.mem_cons.mp m with rfl|m
  ·rw[List.filter_cons,if_neg (by rw[bne_self_eq_false];exact λz=>nomatch z),sQ n1]
   omega
  ·have e:x.num≠a.num:=λz=>n1 (by rw[z];exact List.mem_map_of_mem m)
   rw[List.filter_cons,if_pos (bne_iff_ne.mpr e),fG,iA p m n2]
   omega
def cC (p:Aj->Bool):∀ {rs l:List Aj},(∀ x∈rs,x∈l)->(rs.map Aj.num).Nodup->(l.map Aj.num).Nodup->(((l.filter (CC rs)).filter p).length:Int)=((l.filter p).length:Int) - ((rs.filter p).length:Int)
 | [],l,_,_,_=>by rw[eZ];exact(Int.sub_zero _).symm
 |a::rs,l,sub,nr,nl=>by
  rw[List.map_cons] at nr
  obtain⟨n1,n2⟩:=List.nodup_cons.mp nr
  rw[<-gP,cC p (rs:=rs) (λx mx=>List.mem_filter.mpr ⟨sub x (.tail _ mx),bne_iff_ne.mpr λz=>n1 (by rw[<-z];exact List.mem_map_of_mem mx)⟩) n2 (c7 _ nl),iA p (sub a (.head _)) nl,fG]
  omega
def oU (s:Int)(r:Aj):∀ x∈I3 s r,Fo 3 x:=λx m=>by
 obtain⟨k,_,rfl⟩:=List.mem_map.mp m
 refine .tup 2 _ λv mv=> ?_
 rcases List.mem_cons.mp mv with rfl|mv
 ·exact .int _ _
 rcases List.mem_cons.mp mv with rfl|mv
 ·exact .int _ _
 rcases List.mem_cons.mp mv with rfl|mv
 ·refine .tup 1 _ λw mw=> ?_
  rcases List.mem_cons.mp mw with rfl|mw
  ·exact .int _ _
  rcases List.mem_cons.mp mw with rfl|mw
  ·exact .int _ _
  ·cases mw
 ·cases mv
def iu {s:Int}{rs:List Aj}{l:List V}(z:∀ x∈l,Fo 3 x):∀ x∈l++rs.flatMap (I3 s),Fo 3 x:=λx m=>(List.mem_append.mp m).elim (z x) λm=>by
 obtain⟨r,_,m⟩:=List.mem_flatMap.mp m
 exact oU s r x m
structure BI (X:Bz)(Y:BD):Prop where
 ok:Gv Y.rows
 Ar:∀ k,k < 3->X.Ar k=Bv Y k
 cnt:∀ k,k < 3->X.cnt k=(((Bv Y k).filter Aj.asks).length:Int)
 bf:X.bf=P5 Y
 told:X.told=Y.due
 plain:∀ x∈Y.due,Fo 3 x
 pr:(X.pr:Int)=Y.pr
 Ap:∀ k,k < 3->X.Ap k=Y.Ap k
 top:∀ k,k < 3->X.top k=Y.top k
 Bc:X.r.Bc=Y.Bc
 valid:X.r.valid=Y.valid
 tries:X.r.tries=Y.tries
 guess:X.r.guess=Y.guess
 last:X.r.last=Y.last
 ini:X.r.ini=Y.DW.isSome
 AR:X.r.AR=Y.AR
 CI:X.r.CI=Y.least
 Im:∀ s,Y.DW=some s->X.r.Cd=s
 lm:Y.DW.isSome=Y.least.isSome
theorem BI.EM {X:Bz}{Y:BD}(i:BI X Y):EM X.r=Dv Y:=by
 unfold Mi.EM Dv
 rw[i.ini,i.guess,i.AR]
 cases e:Y.DW with
 |none=>rfl
 |some s=>rw[i.Im s e];rfl
def bG {Y:BD}{k:Nat}{x:Aj}(m:x∈Bv Y k):x∈Y.rows/\(x.sp:Int)=k/\Nat.beq (Y.st x.d) AP=true:=by
 obtain⟨a,b⟩:=List.mem_filter.mp m
 rw[Bool.and_eq_true] at b
 exact⟨a,of_decide_eq_true b.1,b.2⟩
def dH {Y:BD}(B:Gv Y.rows)(k:Nat):(Bv Y k).Pairwise λa b=>a.num < b.num:=B.so.filter _
def dF {Y:BD}{s k j:Nat}{rs:List Aj}(B:Gv Y.rows)(sub:∀ x∈rs,x∈Bv Y k)(ns:Nat.beq s AP=false)(X:Nat->List Aj)(e:∀ j,j < 3->X j=Bv Y j)(bj:j < 3):Ad X k ((X k).filter (CC rs)) j=Bv (Ce s Y rs) j:=by
 rw[sE B (λx m=>(bG (sub x m)).1) ns]
 by_cases z:j=k
 ·subst z;rw[aa,e j bj]
 ·rw[ab _ _ z,e j bj]
  refine(List.filter_eq_self.mpr λx m=> ?_).symm
  unfold CC
  rw[Bool.not_eq_true',List.any_eq_false]
  intro y my w
  obtain⟨y1,y2,-⟩:=bG (sub y my)
  obtain⟨x1,x2,-⟩:=bG m
  have :=B.nn y1 x1 (beq_iff_eq.mp w)
  subst this
  exact z (Int.ofNat.inj (x2.symm.trans y2))
theorem BI.JR {X:Bz}{Y:BD}{k:Nat}{rs:List Aj}(i:BI X Y)(bk:k < 3)(sl:List.Sublist rs (Bv Y k)):BI (Hy X k rs) (Ce C8 Y rs):=by
 have sub:∀ x∈rs,x∈Bv Y k:=λx m=>sl.subset m
 have sub2:∀ x∈rs,x∈Y.rows/\Nat.beq (Y.st x.d) AP=true:=λx m=>⟨(bG (sub x m)).1,(bG (sub x m)).2.2⟩
 have nr:(rs.map Aj.num).Nodup:=(sl.map Aj.num).nodup (bz (dH i.ok k))
 have nd:rs.Nodup:=sl.nodup ((dH i.ok k).imp λz e=>by rw[e] at z;exact Int.lt_irrefl _ z)
 have er:=bv C8 Y rs
 have Ar:=λj bj=>dF (s:=C8) i.ok sub rfl X.Ar i.Ar (j:=j) bj
 have bf:=gK (s:=C8) rfl i.ok sub2 nd
 have em:=be C8 Y rs
 exact {
  ok:=by rw[er.1];exact i.ok
  Ar:=Ar
  cnt:=λj bj=>by
   rw[<-Ar j bj]
   show Ad X.cnt k _ j=_
   by_cases z:j=k
   ·subst z
    rw[aa,aa,i.Ar j bj,i.cnt j bj,cC Aj.asks sub nr (bz (dH i.ok j))]
   ·rw[ab _ _ z,ab _ _ z,i.Ar j bj];exact i.cnt j bj
  bf:=by rw[bf];show X.bf - _=_;rw[i.bf]
  told:=by rw[er.2];show X.told++_=_;rw[i.told];rfl
  plain:=by rw[er.2];exact iu i.plain
  pr:=by rw[em];exact i.pr
  Ap:=by rw[em];exact i.Ap
  top:=by rw[em];exact i.top
  Bc:=by rw[em];exact i.Bc
  valid:=by rw[em];exact i.valid
  tries:=by rw[em];exact i.tries
  guess:=by rw[em];exact i.guess
  last:=by rw[em];exact i.last
  ini:=by rw[em];exact i.ini
  AR:=by rw[em];exact i.AR
  CI:=by rw[em];exact i.CI
  Im:=by rw[em];exact i.Im
  lm:=by rw[em];exact i.lm }
theorem BI.Uc {X:Bz}{Y:BD}{k:Nat}{rs:List Aj}(i:BI X Y)(bk:k < 3)(sl:List.Sublist rs (Bv Y k)):BI (EX X k rs) (Ce A7 Y rs):=by
 have sub:∀ x∈rs,x∈Bv Y k:=λx m=>sl.subset m
 have sub2:∀ x∈rs,x∈Y.rows/\Nat.beq (Y.st x.d) AP=true:=λx m=>⟨(bG (sub x m)).1,(bG (sub x m)).2.2⟩
 have nr:(rs.map Aj.num).Nodup:=(sl.map Aj.num).nodup (bz (dH i.ok k))
 have nd:rs.Nodup:=sl.nodup ((dH i.ok k).imp λz e=>by rw[e] at z;exact Int.lt_irrefl _ z)
 have er:=bv A7 Y rs
 have Ar:=λj bj=>dF (s:=A7) i.ok sub rfl X.Ar i.Ar (j:=j) bj
 have bf:=gK (s:=A7) rfl i.ok sub2 nd
 have em:=be A7 Y rs
 exact {
  ok:=by rw[er.1];exact i.ok
  Ar:=Ar
  cnt:=λj bj=>by
   rw[<-Ar j bj]
   show Ad X.cnt k _ j=_
   by_cases z:j=k
   ·subst z
    rw[aa,aa,i.Ar j bj,i.cnt j bj,cC Aj.asks sub nr (bz (dH i.ok j))]
   ·rw[ab _ _ z,ab _ _ z,i.Ar j bj];exact i.cnt j bj
  bf:=by rw[bf];show X.bf - _=_;rw[i.bf]
  told:=by rw[er.2];show X.told++_=_;rw[i.told];rfl
  plain:=by rw[er.2];exact iu i.plain
  pr:=by rw[em];exact i.pr
  Ap:=by rw[em];exact i.Ap
  top:=by rw[em];exact i.top
  Bc:=by rw[em];exact i.Bc
  valid:=by rw[em];exact i.valid
  tries:=by rw[em];exact i.tries
  guess:=by rw[em];exact i.guess
  last:=by rw[em];exact i.last
  ini:=by rw[em];exact i.ini
  AR:=by rw[em];exact i.AR
  CI:=by rw[em];exact i.CI
  Im:=by rw[em];exact i.Im
  lm:=by rw[em];exact i.lm }
theorem BI.LO {X:Bz}{Y:BD}{k:Nat}{o:Option Int}(i:BI X Y):BI { X with Ap:=Ad X.Ap k o } { Y with Ap:=Ad Y.Ap k o }:=
 ⟨i.ok,i.Ar,i.cnt,i.bf,i.told,i.plain,i.pr,λj bj=>by
  show Ad X.Ap k o j=Ad Y.Ap k o j
  by_cases z:j=k
  ·rw[z,aa,aa]
  ·rw[ab _ _ z,ab _ _ z];exact i.Ap j bj,i.top,i.Bc,i.valid,i.tries,i.guess,i.last,i.ini,i.AR,i.CI,i.Im,i.lm⟩
theorem BI.det {X:Bz}{Y:BD}{k:Nat}{now:Int}(i:BI X Y)(bk:k < 3):BI (LK X k now) (K8 Y k now):=by
 have e:LK X k now=Hy { X with Ap:=Ad X.Ap k (((Bv Y k).filter (Ez (Y.top k) now (Dv Y))).foldl (GP (Dv Y)) none) } k ((Bv Y k).filter (DF (Y.top k) now (Dv Y))):=by
  unfold LK
  rw[i.Ar k bk,i.top k bk,i.EM];rfl
 have e2:K8 Y k now=Ce C8 { Y with Ap:=Ad Y.Ap k (((Bv Y k).filter (Ez (Y.top k) now (Dv Y))).foldl (GP (Dv Y)) none) } ((Bv Y k).filter (DF (Y.top k) now (Dv Y))):=by
  unfold K8
  rw[be,be]
 rw[e,e2]
 exact(i.LO (k:=k)).JR bk List.filter_sublist
def gw {l l':Nat->Option Int}(e:∀ k,k < 3->l k=l' k){o:Option Nat}{k:Nat}(bk:k < 3)(bo:∀ j,o=some j->j < 3):GO l o k=GO l' o k/\∀ j,GO l' o k=some j->j < 3:=by
 unfold GO
 rw[e k bk]
 cases l' k with
 |none=>exact⟨rfl,bo⟩
 |some x=>
  cases o with
  |none=>exact⟨rfl,λj z=>by cases z;exact bk⟩
  |some j=>
   dsimp only
   rw[e j (bo j rfl)]
   cases l' j with
   |none=>exact⟨rfl,bo⟩
   |some y=>
    refine⟨rfl,λi z=> ?_⟩
    dsimp only at z
    by_cases c:x < y
    ·rw[if_pos c] at z;cases z;exact bk
    ·rw[if_neg c] at z;exact bo i z
def jv {l l':Nat->Option Int}(e:∀ k,k < 3->l k=l' k):D0 l=D0 l':=by
 obtain⟨a0,b0⟩:=gw e (o:=none) (k:=0) (by decide) λJ z=>nomatch z
 obtain⟨a1,b1⟩:=gw e (k:=1) (by decide) b0
 obtain⟨a2,-⟩:=gw e (k:=2) (by decide) b1
 show GO l (GO l (GO l none 0) 1) 2=_
 rw[a0,a1,a2];rfl
theorem BI.VM {X:Bz}{Y:BD}(i:BI X Y):BI { X with r:={ X.r with Bc:=true } } { Y with Bc:=true }:=
 ⟨i.ok,i.Ar,i.cnt,i.bf,i.told,i.plain,i.pr,i.Ap,i.top,rfl,i.valid,i.tries,i.guess,i.last,i.ini,i.AR,i.CI,i.Im,i.lm⟩
theorem BI.Vq {X:Bz}{Y:BD}(i:BI X Y):BI { X with r:={ X.r with valid:=true } } { Y with valid:=true }:=
 ⟨i.ok,i.Ar,i.cnt,i.bf,i.told,i.plain,i.pr,i.Ap,i.top,i.Bc,rfl,i.tries,i.guess,i.last,i.ini,i.AR,i.CI,i.Im,i.lm⟩
theorem BI.Sf {X:Bz}{Y:BD}{t:Int}(i:BI X Y):BI { X with r:={ X.r with tries:=t } } { Y with tries:=t }:=
 ⟨i.ok,i.Ar,i.cnt,i.bf,i.told,i.plain,i.pr,i.Ap,i.top,i.Bc,i.valid,rfl,i.guess,i.last,i.ini,i.AR,i.CI,i.Im,i.lm⟩
theorem BI.XJ {X:Bz}{Y:BD}(i:BI X Y):BI { X with pr:=X.pr+1 } { Y with pr:=Y.pr+1 }:=
 ⟨i.ok,i.Ar,i.cnt,i.bf,i.told,i.plain,by show((X.pr+1:Nat):Int)=_;rw[Int.natCast_add,i.pr];rfl,i.Ap,i.top,i.Bc,i.valid,i.tries,i.guess,i.last,i.ini,i.AR,i.CI,i.Im,i.lm⟩
theorem BI.Xv {X:Bz}{Y:BD}{k:Nat}{la:Int}(i:BI X Y)(bk:k < 3):BI (Kx X k la) { Y with top:=Ad Y.top k (if Y.top k < la then la else Y.top k) }:=
 ⟨i.ok,i.Ar,i.cnt,i.bf,i.told,i.plain,i.pr,i.Ap,λj bj=>by
  show Ad X.top k _ j=Ad Y.top k _ j
  by_cases z:j=k
  ·rw[z,aa,aa,i.top k bk]
  ·rw[ab _ _ z,ab _ _ z];exact i.top j bj,i.Bc,i.valid,i.tries,i.guess,i.last,i.ini,i.AR,i.CI,i.Im,i.lm⟩
theorem BI.Tk {A X:Bz}{B Y:BD}{b:Bool}(x:BI A B)(y:BI X Y):BI (cond b A X) (cond b B Y):=by
 cases b with |true=>exact x|false=>exact y
theorem BI.okd {X:Bz}{Y:BD}(i:BI X Y):BI (QX X) (QW Y):=by
 unfold QX QW
 rw[i.valid]
 exact .Tk (i.Sf (t:=0)) i
def jg {X:Bz}{Y:BD}{k:Nat}(i:BI X Y)(bk:k < 3)(c:(decide ((k:Int) < 2)||Y.Bc)=true)(e:Jn Y= []):X.cnt k=0:=by
 rw[i.cnt k bk,List.filter_eq_nil_iff.mpr λr m z=> ?_]
 ·rfl
 obtain⟨m1,m2,m3⟩:=bG m
 have :r∈Jn Y:=List.mem_filter.mpr ⟨m1,by rw[m3,z,m2,c];rfl⟩
 rw[e] at this;cases this
def qv {X:Bz}{Y:BD}{r:Aj}(i:BI X Y)(m:r∈Jn Y):(decide ((r.sp:Int) < 2)||Y.Bc)=true/\r.sp < 3/\0 < X.cnt r.sp:=by
 obtain⟨m1,m2⟩:=List.mem_filter.mp m
 rw[Bool.and_eq_true,Bool.and_eq_true] at m2
 obtain⟨m2,m3,m4⟩:=m2
 have b:=i.ok.sp r m1
 refine⟨m4,b,?_⟩
 rw[i.cnt _ b]
 have :r∈(Bv Y r.sp).filter Aj.asks:=List.mem_filter.mpr ⟨List.mem_filter.mpr ⟨m1,by rw[m2,decide_eq_true rfl];rfl⟩,m3⟩
 exact Int.natCast_pos.mpr (List.length_pos_of_mem this)
def jf {X:Bz}{Y:BD}{k:Nat}(i:BI X Y)(bk:k < 3):0<=X.cnt k:=by rw[i.cnt k bk];exact Int.natCast_nonneg _
def qp {X:Bz}{Y:BD}(i:BI X Y):(NS X !=0)= !(Jn Y).isEmpty:=by
 have c0:=jf i (k:=0) (by decide)
 have c1:=jf i (k:=1) (by decide)
 have c2:=jf i (k:=2) (by decide)
 have ea:NS X=X.cnt 0+(X.cnt 1+cond Y.Bc (X.cnt 2) 0):=by
  unfold NS Ra
  rw[i.Bc]
  cases Y.Bc
  ·rfl
  ·show _+(_+(_+0))=_+(_+_);rw[Int.add_zero];rfl
 rw[ea]
 cases e:Jn Y with
 |nil=>
  rw[jg i (k:=0) (by decide) rfl e,jg i (k:=1) (by decide) rfl e]
  cases z:Y.Bc with
  |false=>rfl
  |true=>rw[jg i (k:=2) (by decide) z e];rfl
 |cons r l=>
  obtain⟨y1,y2,y3⟩:=qv i (r:=r) (by rw[e];exact .head _)
  refine bne_iff_ne.mpr λz=> ?_
  have d2:0<=cond Y.Bc (X.cnt 2) 0:=by
   cases Y.Bc
   ·exact Int.le_refl _
   ·exact c2
  generalize r.sp=k at y1 y2 y3
  match k,y2 with
  |0,_=>omega
  |1,_=>omega
  |2,_=>
   rw[show Y.Bc=true from y1] at z
   have z:X.cnt 0+(X.cnt 1+X.cnt 2)=0:=z
   omega
  |k+3,b=>exact absurd b (Nat.not_lt.mpr (Nat.le_add_left 3 k))
theorem BI.syn {X:Bz}{Y:BD}(i:BI X Y):Ub X Y where
 told:=i.told
 plain:=i.plain
 pr:=i.pr
 bf:=i.bf
 Ar:=i.Ar
 Ap:=i.Ap
 cnt:=i.cnt
 ini:=i.ini
 guess:=i.guess
 Im:=i.Im
 tm b:=by
  unfold Ty Se
  rw[jv i.Ap]
  have b3:=bF Y.Ap
  cases e:D0 Y.Ap with
  |some k=>
   rw[e] at b3
   exact i.Ap k (d4 b3.1)
  |none=>
   dsimp only
   rw[qp i,i.valid,i.last,i.Bc,i.tries]
   cases b <;> cases Y.valid <;> cases (Jn Y).isEmpty <;> rfl
def dG {Y:BD}{s k j:Nat}{rs:List Aj}(B:Gv Y.rows)(sub:∀ x∈rs,x∈Bv Y k)(ns:Nat.beq s AP=false)(bj:j < 3)(ne:j≠k):Bv (Ce s Y rs) j=Bv Y j:=by
 have :=dF (X:=Bv Y) B sub ns (λJ J=>rfl) bj
 rw[ab _ _ ne] at this
 exact this.symm
theorem BI.Ey {p:Bz×Bool}{Y:BD}{k:Nat}(i:BI p.1 Y)(bk:k < 3):BI (Mi.Ey p k).1 (Ce C8 Y ((Bv Y k).filter Aj.Cj))/\(Mi.Ey p k).2=(p.2|| !((Bv Y k).filter Aj.Cj).isEmpty):=by
 have i2:=i.JR (k:=k) (rs:=(Bv Y k).filter Aj.Cj) bk List.filter_sublist
 unfold Mi.Ey
 rw[i.Ar k bk]
 cases e:(Bv Y k).filter Aj.Cj with
 |nil=>exact⟨i,(Bool.or_false _).symm⟩
 |cons a l=>rw[e] at i2;exact⟨i2,(Bool.or_true _).symm⟩
theorem BI.EL {X:Bz}{Y:BD}(i:BI X Y):BI (Mi.EL X).1 (Ce C8 Y (K6 Y))/\(Mi.EL X).2= !(K6 Y).isEmpty:=by
 have sub:∀ k,∀ x∈(Bv Y k).filter Aj.Cj,x∈Bv Y k:=λk x m=>(List.mem_filter.mp m).1
 obtain⟨i0,b0⟩:=(show BI (X,false).1 Y from i).Ey (k:=0) (by decide)
 obtain⟨i1,b1⟩:=i0.Ey (k:=1) (by decide)
 obtain⟨i2,b2⟩:=i1.Ey (k:=2) (by decide)
 have ok1:Gv (Ce C8 Y ((Bv Y 0).filter Aj.Cj)).rows:=i0.ok
 rw[dG i.ok (sub 0) rfl (by decide) (by decide)] at i1 b1 i2 b2
 have ok2:=i1.ok
 rw[dG ok1 (k:=1) (rs:=(Bv Y 1).filter Aj.Cj) (by rw[dG i.ok (sub 0) rfl (by decide) (by decide)];exact sub 1) rfl (by decide) (by decide),dG i.ok (sub 0) rfl (by decide) (by decide)] at i2 b2
 have e:K6 Y=(Bv Y 0).filter Aj.Cj++((Bv Y 1).filter Aj.Cj++(Bv Y 2).filter Aj.Cj):=by
  show _++(_++(_++ []))=_;rw[List.append_nil]
 refine⟨?_,?_⟩
 ·rw[e]
  unfold Ce
  rw[List.foldl_append,List.foldl_append];exact i2
 ·show(Mi.Ey _ 2).2=_
  rw[b2,b1,b0,e]
  cases (Bv Y 0).filter Aj.Cj <;> cases (Bv Y 1).filter Aj.Cj <;> cases (Bv Y 2).filter Aj.Cj <;> rfl
def gB {X:Bz}{Y:BD}{k:Nat}{o:Option (Aj×Nat)}(i:BI X Y)(bk:k < 3):(Gs X o k).map Prod.fst=Fm Y (o.map Prod.fst) k:=by
 unfold Gs Fm
 rw[i.Ar k bk,i.Bc]
 have e:(Nat.beq k 2 && !Y.Bc)= !(decide ((k:Int) < 2)||Y.Bc):=by
  cases Y.Bc <;> match k,bk with
  |0,_=>rfl
  |1,_=>rfl
  |2,_=>rfl
  |k+3,b=>exact absurd b (Nat.not_lt.mpr (Nat.le_add_left 3 k))
 rw[e]
 cases decide ((k:Int) < 2)||Y.Bc with
 |false=>rfl
 |true=>
  show Option.map Prod.fst (match(Bv Y k).filter Aj.asks with | []=>o|r::_=>_)=match(Bv Y k).filter Aj.asks with | []=>o.map Prod.fst|r::_=>_
  cases (Bv Y k).filter Aj.asks with
  |nil=>rfl
  |cons a l=>
   cases o with
   |none=>rfl
   |some p=>
    show Option.map Prod.fst (if a.tm < p.1.tm then some (a,k) else some p)=if a.tm < p.1.tm then some a else some p.1
    by_cases c:a.tm < p.1.tm
    ·rw[if_pos c,if_pos c];rfl
    ·rw[if_neg c,if_neg c];rfl
def tM {X:Bz}{Y:BD}(i:BI X Y):(old X).map Prod.fst=JS Y:=by
 show(Gs X (Gs X (Gs X none 0) 1) 2).map Prod.fst=Fm Y (Fm Y (Fm Y none 0) 1) 2
 rw[gB i (by decide),gB i (by decide),gB i (by decide)];rfl
theorem BI.res {X:Bz}{Y:BD}{sp:Bool}(i:BI X Y):BI (N1 X sp) (J9 Y sp):=by
 obtain⟨i1,b⟩:=i.EL
 unfold N1 J9
 refine BI.XJ (X:=cond (!(Mi.EL X).2 && !sp) (match old (Mi.EL X).1 with |none=>(Mi.EL X).1|some p=>Hy (Mi.EL X).1 p.2 [p.1]) (Mi.EL X).1) (Y:=match K6 Y with | []=>cond sp Y (match JS Y with |none=>Y|some r=>K9 C8 Y r)|r::l=>Ce C8 Y (r::l)) ?_
 rw[b]
 cases e:K6 Y with
 |cons r l=>rw[e] at i1;exact i1
 |nil=>
  rw[e] at i1
  have i1:BI (Mi.EL X).1 Y:=i1
  cases sp with
  |true=>exact i1
  |false=>
   have eo:=tM i1
   have ok:=jD (Mi.EL X).1
   show BI (match old (Mi.EL X).1 with |none=>(Mi.EL X).1|some p=>Hy (Mi.EL X).1 p.2 [p.1]) (match JS Y with |none=>Y|some r=>K9 C8 Y r)
   rw[<-eo]
   cases e2:old (Mi.EL X).1 with
   |none=>exact i1
   |some p=>
    obtain⟨b3,m⟩:=ok p e2
    rw[i1.Ar _ b3] at m
    exact i1.JR (k:=p.2) (rs:= [p.1]) b3 (List.singleton_sublist.mpr m)
theorem BI.SQ {X:Bz}{Y:BD}{now:Int}(i:BI X Y):BI (Nl X now) (match D0 Y.Ap with |some k=>K8 Y k now|none=>J9 { Y with tries:=Y.tries+1 } false):=by
 unfold Nl
 rw[jv i.Ap]
 have b3:=bF Y.Ap
 cases e:D0 Y.Ap with
 |some k=>rw[e] at b3;exact i.det (d4 b3.1)
 |none=>
  refine BI.res ?_
  dsimp only
  rw[i.tries]
  exact i.Sf
theorem BI.OC {A:Bz}{B:BD}{P:List Aj}{r:Aj}{la dl now:Int}(i:BI A B):BI (LX A P r la dl now) (LW P r la dl now B):=by
 unfold LX LW
 have e:(decide (la=r.num) && P.any Aj.asks)=(decide (r.num=la) && !(P.filter Aj.asks).isEmpty):=by
  rw[show decide (la=r.num)=decide (r.num=la) from decide_eq_decide.mpr eq_comm]
  refine congrArg _ ?_
  cases z:P.filter Aj.asks with
  |nil=>exact List.any_eq_false.mpr λx m c=>List.filter_eq_nil_iff.mp z x m c
  |cons a l=>exact List.any_eq_true.mpr ⟨a,List.mem_filter.mp (show a∈P.filter Aj.asks by rw[z];exact .head _)⟩
 rw[e]
 refine BI.Tk ?_ i
 generalize now - r.tm=s
 generalize (if 25000 < dl then 25000 else dl)=d
 have em:(OY A.r s d now).CI=some (Ks B s):=by
  unfold OY
  have e1:(Iu (HT (HR A.r s)) d).CI=some (Ks B s):=by
   show some (match A.r.CI with |none=>_|some m=>_)=_
   unfold Ks
   rw[i.CI];try rfl
  unfold Qu
  cases (Iu (HT (HR A.r s)) d).ini with
  |false=>exact e1
  |true=>rw[e1]
 have el:(Iu (HT (HR A.r s)) d).AR=Pb B s d:=by
  have e1:(HT (HR A.r s)).CI=some (Ks B s):=by
   show some (match A.r.CI with |none=>_|some m=>_)=_
   unfold Ks
   rw[i.CI];try rfl
  rw[kL e1]
  show(if Ks B s+d < (if s < 1000 then 1000 else s) then(if s < 1000 then 1000 else s) - d else(if s < 1000 then 1000 else s))=_
  unfold Pb
  generalize (if s < 1000 then 1000 else s)=Mp
  by_cases c:Ks B s+d < Mp
  ·rw[if_pos c,if_pos (by omega)]
  ·rw[if_neg c,if_neg (by omega)]
 have ec:(Iu (HT (HR A.r s)) d).CI=some (Ks B s):=by
  show some (match A.r.CI with |none=>_|some m=>_)=_
  unfold Ks
  rw[i.CI];try rfl
 have ei:(Iu (HT (HR A.r s)) d).ini=B.DW.isSome:=i.ini
 have eo:(Iu (HT (HR A.r s)) d).Bc=B.Bc/\(Iu (HT (HR A.r s)) d).valid=B.valid/\(Iu (HT (HR A.r s)) d).tries=B.tries/\(Iu (HT (HR A.r s)) d).guess=B.guess/\(Iu (HT (HR A.r s)) d).last=B.last:=⟨i.Bc,i.valid,i.tries,i.guess,i.last⟩
 have es:∀ m,B.DW=some m->(Iu (HT (HR A.r s)) d).Cd=m:=i.Im
 have fin:∀ rho:FI,rho.Bc=B.Bc->rho.valid=B.valid->rho.tries=B.tries->rho.guess=B.guess->rho.last=B.last->rho.ini=true->rho.AR=Pb B s d->rho.CI=some (Ks B s)->rho.Cd=Qx B s d->BI { A with r:=rho } (Qv B s d):=λrho a b c d' e f g h j=>
  ⟨i.ok,i.Ar,i.cnt,i.bf,i.told,i.plain,i.pr,i.Ap,i.top,a,b,c,d',e,f,g,h,λs' z=>by
   have z:some (Qx B s d)=some s':=z
   cases z;exact j,rfl⟩
 unfold OY
 generalize Iu (HT (HR A.r s)) d=r3 at *
 obtain⟨o1,o2,o3,o4,o5⟩:=eo
 cases hs:B.DW with
 |none=>
  rw[hs] at ei
  rw[jS ei]
  exact fin _ o1 o2 o3 o4 o5 rfl el ec (by unfold Qx;rw[hs])
 |some m=>
  rw[hs] at ei
  rw[kN ec ei]
  exact fin _ o1 o2 o3 o4 o5 ei el ec (by unfold Qx;rw[hs,<-el,<-es m hs])
theorem BI.Oi {X:Bz}{Y:BD}{k:Nat}{nums:List Int}{la dl now:Int}(i:BI X Y)(bk:k < 3):BI (Lp X k ((X.Ar k).filter λr=>ED r.num nums) la dl now) (Lo Y k nums la dl now):=by
 unfold Lp Lo Pw
 have i0:=i.Xv (la:=la) bk
 rw[i.Ar k bk]
 have ef:(Bv Y k).filter (λr=>ED r.num nums)=JG { Y with top:=Ad Y.top k (if Y.top k < la then la else Y.top k) } k nums:=rfl
 rw[ef]
 have sl:List.Sublist (JG { Y with top:=Ad Y.top k (if Y.top k < la then la else Y.top k) } k nums) (Bv { Y with top:=Ad Y.top k (if Y.top k < la then la else Y.top k) } k):=List.filter_sublist
 generalize JG { Y with top:=Ad Y.top k (if Y.top k < la then la else Y.top k) } k nums=P at sl ⊢
 generalize ({ Y with top:=Ad Y.top k (if Y.top k < la then la else Y.top k) }:BD)=Sl at *
 generalize Kx X k la=Jk at *
 cases P.getLast? with
 |none=>exact i0
 |some r=>exact(((i0.Uc bk sl).OC).det bk).okd
def O1 (Y:BD)(k:Nat):BD:={ Y with st:=(Bv Y k).foldl (λst r=>Ad st r.d BY) Y.st,Ap:=Ad Y.Ap k none,tries:=0 }
theorem BI.Vo {X:Bz}{Y:BD}{k:Nat}(i:BI X Y)(bk:k < 3):BI (Qz X k) (O1 Y k):=by
 have sub:∀ x∈Bv Y k,x∈Bv Y k:=λx m=>m
 have sub2:∀ x∈Bv Y k,x∈Y.rows/\Nat.beq (Y.st x.d) AP=true:=λx m=>⟨(bG m).1,(bG m).2.2⟩
 have nd:(Bv Y k).Nodup:=(dH i.ok k).imp λz e=>by rw[e] at z;exact Int.lt_irrefl _ z
 have bf:=gK (s:=BY) rfl i.ok sub2 nd
 have ba:=λj bj=>dF (s:=BY) (j:=j) i.ok sub rfl (Bv Y) (λJ J=>rfl) bj
 have hn:(Bv Y k).filter (CC (Bv Y k))= []:=List.filter_eq_nil_iff.mpr λx m z=>by
  have :(Bv Y k).any (λr=>r.num==x.num)=true:=List.any_eq_true.mpr ⟨x,m,beq_self_eq_true _⟩
  unfold CC at z
  rw[this] at z;cases z
 rw[be] at bf ba
 have ea:∀ j,Bv (O1 Y k) j=Bv ({ Y with st:=(Bv Y k).foldl (λst r=>Ad st r.d BY) Y.st,due:=Y.due++(Bv Y k).flatMap (I3 (cond (Nat.beq BY A7) 0 1)) }:BD) j:=λj=>rfl
 rw[hn] at ba
 exact {
  ok:=i.ok
  Ar:=λj bj=>by
   rw[ea,<-ba j bj]
   show Ad X.Ar k [] j=_
   by_cases z:j=k
   ·rw[z,aa,aa]
   ·rw[ab _ _ z,ab _ _ z];exact i.Ar j bj
  cnt:=λj bj=>by
   rw[ea,<-ba j bj]
   show Ad X.cnt k 0 j=_
   by_cases z:j=k
   ·rw[z,aa,aa];rfl
   ·rw[ab _ _ z,ab _ _ z];exact i.cnt j bj
  bf:=by
   show X.bf - (((X.Ar k).filter Aj.flight).map Aj.sz).sum=P5 (O1 Y k)
   rw[show P5 (O1 Y k)=P5 ({ Y with st:=(Bv Y k).foldl (λst r=>Ad st r.d BY) Y.st,due:=Y.due++(Bv Y k).flatMap (I3 (cond (Nat.beq BY A7) 0 1)) }:BD) from rfl,bf,i.bf,i.Ar k bk]
  told:=i.told
  plain:=i.plain
  pr:=i.pr
  Ap:=λj bj=>by
   show Ad X.Ap k none j=Ad Y.Ap k none j
   by_cases z:j=k
   ·rw[z,aa,aa]
   ·rw[ab _ _ z,ab _ _ z];exact i.Ap j bj
  top:=i.top
  Bc:=i.Bc
  valid:=i.valid
  tries:=rfl
  guess:=i.guess
  last:=i.last
  ini:=i.ini
  AR:=i.AR
  CI:=i.CI
  Im:=i.Im
  lm:=i.lm }
def LY (Y:BD)(k:Nat)(r:Aj):BD:={ Y with rows:=Y.rows++ [r],st:=Ad Y.st r.d AP,last:=cond (r.asks && (decide ((k:Int) < 2)||Y.Bc)) r.tm Y.last }
def kj {Y:BD}{k j:Nat}{r:Aj}(es:r.sp=k)(nd:∀ x∈Y.rows,x.d≠r.d):Bv (LY Y k r) j=Bv Y j++cond (Nat.beq k j) [r] []:=by
 show(Y.rows++ [r]).filter (λx=>decide ((x.sp:Int)=j) && Nat.beq (Ad Y.st r.d AP x.d) AP)=_
 rw[List.filter_append,List.filter_congr (q:=λx=>decide ((x.sp:Int)=j) && Nat.beq (Y.st x.d) AP) λx m=>by rw[ab _ _ (nd x m)]]
 refine congrArg _ ?_
 rw[List.filter_cons,aa,es]
 show(if(decide ((k:Int)=j) && true)=true then [r] else [])=_
 cases e:Nat.beq k j with
 |true=>rw[if_pos (by rw[Nat.eq_of_beq_eq_true e,decide_eq_true rfl];rfl)];rfl
 |false=>rw[if_neg (λz=>by rw[Bool.and_true,decide_eq_true_eq] at z;rw[Int.ofNat.inj z,Nat.beq_refl] at e;cases e)];rfl
theorem BI.V6 {X:Bz}{Y:BD}{k:Nat}{r:Aj}(i:BI X Y)(bk:k < 3)(es:r.sp=k)(nd:∀ x∈Y.rows,x.d≠r.d)(nn:∀ x∈Y.rows,x.num < r.num)(bl:Y.rows.length < 20)(sz:0<=r.sz/\r.sz<=1144)(af:r.asks=true->r.flight=true):BI (Ip X k r) (LY Y k r):=by
 have nr:∀ x∈Y.rows,Y.st x.d=Ad Y.st r.d AP x.d:=λx m=>(ab _ _ (nd x m)).symm
 have el:cond (r.flight && (r.asks && (X.r.Bc|| !Nat.beq k 2))) { X.r with last:=r.tm } X.r= { X.r with last:=cond (r.asks && (decide ((k:Int) < 2)||Y.Bc)) r.tm Y.last }:=by
  rw[<-i.last]
  have e2:(r.flight && (r.asks && (X.r.Bc|| !Nat.beq k 2)))=(r.asks && (decide ((k:Int) < 2)||Y.Bc)):=by
   rw[i.Bc]
   cases ha:r.asks with
   |false=>cases r.flight <;> rfl
   |true=>
    rw[af ha]
    cases Y.Bc <;> match k,bk with
    |0,_=>rfl
    |1,_=>rfl
    |2,_=>rfl
    |k+3,b=>exact absurd b (Nat.not_lt.mpr (Nat.le_add_left 3 k))
  rw[e2]
  cases r.asks && (decide ((k:Int) < 2)||Y.Bc) <;> rfl
 have ok:Gv (Y.rows++ [r]):=by
  refine⟨List.pairwise_append.mpr ⟨i.ok.so,List.pairwise_singleton _ _,λx mx y my=>by rw[List.mem_singleton.mp my];exact nn x mx⟩,λx mx y my e=> ?_,λx mx=> ?_,λx mx=> ?_,by rw[List.length_append];exact bl⟩
  ·rcases List.mem_append.mp mx with mx|mx <;> rcases List.mem_append.mp my with my|my
   ·exact i.ok.nd x mx y my e
   ·rw[List.mem_singleton.mp my] at e;exact absurd e (nd x mx)
   ·rw[List.mem_singleton.mp mx] at e;exact absurd e.symm (nd y my)
   ·rw[List.mem_singleton.mp mx,List.mem_singleton.mp my]
  ·rcases List.mem_append.mp mx with mx|mx
   ·exact i.ok.sp x mx
   ·rw[List.mem_singleton.mp mx,es];exact bk
  ·rcases List.mem_append.mp mx with mx|mx
   ·exact i.ok.sz x mx
   ·rw[List.mem_singleton.mp mx];exact sz
 unfold Ip
 rw[el]
 exact {
  ok:=ok
  Ar:=λj bj=>by
   rw[kj es nd]
   show Ad X.Ar k _ j=_
   by_cases z:j=k
   ·rw[z,aa,i.Ar k bk,Nat.beq_refl];rfl
   ·rw[ab _ _ z,i.Ar j bj,show Nat.beq k j=false from Bool.eq_false_iff.mpr λe=>z (Nat.eq_of_beq_eq_true e).symm];exact(List.append_nil _).symm
  cnt:=λj bj=>by
   rw[kj es nd,List.filter_append,List.length_append,Int.natCast_add,<-i.cnt j bj]
   show Ad X.cnt k _ j=_
   by_cases z:j=k
   ·rw[z,aa,Nat.beq_refl,show(cond true [r] ([]:List Aj)).filter Aj.asks= [r].filter Aj.asks from rfl,List.filter_cons]
    cases r.asks <;> rfl
   ·rw[ab _ _ z,show Nat.beq k j=false from Bool.eq_false_iff.mpr λe=>z (Nat.eq_of_beq_eq_true e).symm];exact(Int.add_zero _).symm
  bf:=by
   show X.bf+cond r.flight r.sz 0=(((Y.rows++ [r]).filter λx=>Nat.beq (Ad Y.st r.d AP x.d) AP && x.flight).map Aj.sz).sum
   rw[List.filter_append,List.filter_congr (q:=λx=>Nat.beq (Y.st x.d) AP && x.flight) λx m=>by rw[<-nr x m],List.map_append,List.sum_append,i.bf]
   refine congrArg _ ?_
   rw[List.filter_cons,aa]
   cases r.flight
   ·rfl
   ·exact(Int.add_zero _).symm
  told:=i.told
  plain:=i.plain
  pr:=i.pr
  Ap:=i.Ap
  top:=i.top
  Bc:=i.Bc
  valid:=i.valid
  tries:=i.tries
  guess:=i.guess
  last:=rfl
  ini:=i.ini
  AR:=i.AR
  CI:=i.CI
  Im:=i.Im
  lm:=i.lm }
def KD (X:Bz):Nat:=(X.Ar 0).length+((X.Ar 1).length+(X.Ar 2).length)
structure DO (X:Bz)(n:Nat):Prop where
 t:X.told.length+2*KD X<=2*n
 A:X.A+1144*(KD X:Int)<=12800+1144*(n:Int)
 so:∀ k,k < 3->(X.Ar k).Pairwise λa b=>a.num < b.num
def ip {X:Bz}{k m:Nat}{f:Nat->List Aj}(bk:k < 3)(o:∀ j,j≠k->f j=X.Ar j)(e:(f k).length+m=(X.Ar k).length):KD { X with Ar:=f }+m=KD X:=by
 unfold KD
 match k,bk with
 |0,_=>show(f 0).length+((f 1).length+(f 2).length)+m=_;rw[o 1 (by decide),o 2 (by decide)];omega
 |1,_=>show(f 0).length+((f 1).length+(f 2).length)+m=_;rw[o 0 (by decide),o 2 (by decide)];omega
 |2,_=>show(f 0).length+((f 1).length+(f 2).length)+m=_;rw[o 1 (by decide),o 0 (by decide)];omega
 |k+3,b=>exact absurd b (Nat.not_lt.mpr (Nat.le_add_left 3 k))
def ju {l rs:List Aj}(so:l.Pairwise λa b=>a.num < b.num)(sl:List.Sublist rs l):(l.filter (CC rs)).length+rs.length=l.length:=by
 have :=cC (λJ=>true) (rs:=rs) (l:=l) (λx m=>sl.subset m) ((sl.map Aj.num).nodup (bz so)) (bz so)
 rw[List.filter_eq_self.mpr λJ J=>rfl,List.filter_eq_self.mpr λJ J=>rfl,List.filter_eq_self.mpr λJ J=>rfl] at this
 omega
def gX {X:Bz}{k:Nat}{l:List Aj}(so:∀ k,k < 3->(X.Ar k).Pairwise λa b=>a.num < b.num)(s:l.Pairwise λa b=>a.num < b.num):∀ j,j < 3->(Ad X.Ar k l j).Pairwise λa b=>a.num < b.num:=λj bj=>by
 by_cases z:j=k
 ·rw[z,aa];exact s
 ·rw[ab _ _ z];exact so j bj
theorem DO.JR {X:Bz}{n k:Nat}{rs:List Aj}(p:DO X n)(bk:k < 3)(sl:List.Sublist rs (X.Ar k)):DO (Hy X k rs) n:=by
 have e:=ip (f:=Ad X.Ar k ((X.Ar k).filter (CC rs))) (m:=rs.length) bk (λj z=>ab _ _ z) (by rw[aa];exact ju (p.so k bk) sl)
 have e2:KD (Hy X k rs)=KD { X with Ar:=Ad X.Ar k ((X.Ar k).filter (CC rs)) }:=rfl
 have t:=p.t
 have a:=p.A
 refine⟨?_,?_,gX p.so ((p.so k bk).filter _)⟩
 ·rw[e2]
  show(X.told++rs.flatMap (I3 1)).length+_<=_
  rw[List.length_append]
  have :=dz 1 rs
  omega
 ·rw[e2]
  show X.A+_<=_
  omega
theorem DO.Uc {X:Bz}{n k:Nat}{rs:List Aj}(p:DO X n)(bk:k < 3)(sl:List.Sublist rs (X.Ar k))(sz:∀ x∈rs,0<=x.sz/\x.sz<=1144):DO (EX X k rs) n:=by
 have e:=ip (f:=Ad X.Ar k ((X.Ar k).filter (CC rs))) (m:=rs.length) bk (λj z=>ab _ _ z) (by rw[aa];exact ju (p.so k bk) sl)
 have e2:KD (EX X k rs)=KD { X with Ar:=Ad X.Ar k ((X.Ar k).filter (CC rs)) }:=rfl
 have t:=p.t
 have a:=p.A
 refine⟨?_,?_,gX p.so ((p.so k bk).filter _)⟩
 ·rw[e2]
  show(X.told++rs.flatMap (I3 0)).length+_<=_
  rw[List.length_append]
  have :=dz 0 rs
  omega
 ·rw[e2]
  show X.A+_+_<=_
  have :=cU sz
  omega
theorem DO.det {X:Bz}{n k:Nat}{now:Int}(p:DO X n)(bk:k < 3):DO (LK X k now) n:=
 (show DO { X with Ap:=Ad X.Ap k (((X.Ar k).filter (Ez (X.top k) now (EM X.r))).foldl (GP (EM X.r)) none) } n from⟨p.t,p.A,p.so⟩).JR bk (rs:=(X.Ar k).filter (DF (X.top k) now (EM X.r))) List.filter_sublist
theorem DO.Ey {q:Bz×Bool}{n k:Nat}(p:DO q.1 n)(bk:k < 3):DO (Mi.Ey q k).1 n:=by
 have p2:=p.JR (k:=k) (rs:=(q.1.Ar k).filter Aj.Cj) bk List.filter_sublist
 unfold Mi.Ey
 cases e:(q.1.Ar k).filter Aj.Cj with
 |nil=>exact p
 |cons a l=>rw[e] at p2;exact p2
theorem DO.EL {X:Bz}{n:Nat}(p:DO X n):DO (Mi.EL X).1 n:=(((show DO (X,false).1 n from p).Ey (k:=0) (by decide)).Ey (k:=1) (by decide)).Ey (k:=2) (by decide)
theorem DO.res {X:Bz}{n:Nat}{sp:Bool}(p:DO X n):DO (N1 X sp) n:=by
 have p1:=p.EL
 have ok:=jD (Mi.EL X).1
 unfold N1
 generalize Mi.EL X=c at p1 ok
 refine(show DO (cond (!c.2 && !sp) (match old c.1 with |none=>c.1|some p=>Hy c.1 p.2 [p.1]) c.1) n->_ from λz=>⟨z.t,z.A,z.so⟩) ?_
 cases !c.2 && !sp with
 |false=>exact p1
 |true=>
  show DO (match old c.1 with |none=>c.1|some p=>Hy c.1 p.2 [p.1]) n
  cases e:old c.1 with
  |none=>exact p1
  |some q=>exact p1.JR (ok q e).1 (List.singleton_sublist.mpr (ok q e).2)
theorem DO.SQ {X:Bz}{n:Nat}{now:Int}(p:DO X n):DO (Nl X now) n:=by
 unfold Nl
 have b3:=bF X.Ap
 cases e:D0 X.Ap with
 |some k=>rw[e] at b3;exact p.det (d4 b3.1)
 |none=>exact(show DO { X with r:={ X.r with tries:=X.r.tries+1 } } n from⟨p.t,p.A,p.so⟩).res
theorem DO.Oi {X:Bz}{n k:Nat}{P:List Aj}{la dl now:Int}(p:DO X n)(bk:k < 3)(sl:List.Sublist P (X.Ar k))(sz:∀ x∈P,0<=x.sz/\x.sz<=1144):DO (Lp X k P la dl now) n:=by
 have p0:DO (Kx X k la) n:=⟨p.t,p.A,p.so⟩
 unfold Lp
 cases P.getLast? with
 |none=>exact p0
 |some r=>
  have p1:=p0.Uc bk sl sz
  have p2:DO (LX (EX (Kx X k la) k P) P r la dl now) n:=by
   unfold LX
   cases decide (la=r.num) && P.any Aj.asks with
   |false=>exact p1
   |true=>exact⟨p1.t,p1.A,p1.so⟩
  have p3:=p2.det (now:=now) bk
  show DO (QX _) n
  unfold QX
  generalize LK _ k now=Z at p3
  cases Z.r.valid with
  |false=>exact p3
  |true=>exact⟨p3.t,p3.A,p3.so⟩
theorem DO.Vo {X:Bz}{n k:Nat}(p:DO X n)(bk:k < 3):DO (Qz X k) n:=by
 have e:=ip (X:=X) (f:=Ad X.Ar k []) (m:=(X.Ar k).length) bk (λj z=>ab _ _ z) (by rw[aa];exact Nat.zero_add _)
 have e2:KD (Qz X k)=KD { X with Ar:=Ad X.Ar k [] }:=rfl
 have t:=p.t
 have a:=p.A
 refine⟨?_,?_,gX p.so .nil⟩
 ·rw[e2];show X.told.length+_<=_;omega
 ·rw[e2];show X.A+_<=_;omega
theorem DO.Ar {X:Bz}{n k:Nat}{r:Aj}(p:DO X n)(bk:k < 3)(nn:∀ x∈X.Ar k,x.num < r.num):DO (Ip X k r) (n+1):=by
 have e:KD (Ip X k r)=KD X+1:=by
  unfold KD
  show(Ad X.Ar k _ 0).length+((Ad X.Ar k _ 1).length+(Ad X.Ar k _ 2).length)=_
  match k,bk with
  |0,_=>rw[aa,ab _ _ (by decide),ab _ _ (by decide),List.length_append];show _+1+_=_;omega
  |1,_=>rw[aa,ab _ _ (by decide),ab _ _ (by decide),List.length_append];show _+(_+1+_)=_;omega
  |2,_=>rw[aa,ab _ _ (by decide),ab _ _ (by decide),List.length_append];show _+(_+(_+1))=_;omega
  |k+3,b=>exact absurd b (Nat.not_lt.mpr (Nat.le_add_left 3 k))
 have t:=p.t
 have a:=p.A
 refine⟨?_,?_,gX p.so (List.pairwise_append.mpr ⟨p.so k bk,List.pairwise_singleton _ _,λx mx y my=>by rw[List.mem_singleton.mp my];exact nn x mx⟩)⟩
 ·rw[e];show X.told.length+_<=_;omega
 ·rw[e];show X.A+_<=_;omega
def hZ {p q:Aj->Bool}:∀ {l:List Aj},l.Pairwise (λa b=>a.num < b.num)->(∀ a∈l,∀ b∈l,p a=true->q b=true->a.num < b.num)->l.filter p++l.filter q=l.filter λr=>p r||q r
 | [],_,_=>rfl
 |a::l,so,z=>by
  obtain⟨s1,s2⟩:=List.pairwise_cons.mp so
  have ih:=hZ s2 λx mx y my=>z x (.tail _ mx) y (.tail _ my)
  rw[aV,aV q,aV λr=>p r||q r,<-ih]
  cases ep:p a with
  |true=>
   cases eq:q a with
   |true=>exact absurd (z a (.head _) a (.head _) ep eq) (Int.lt_irrefl _)
   |false=>rfl
  |false=>
   cases eq:q a with
   |false=>rfl
   |true=>
    have :l.filter p= []:=List.filter_eq_nil_iff.mpr λx mx e=>absurd (z x (.tail _ mx) a (.head _) e eq) (Int.not_lt.mpr (Int.le_of_lt (s1 x mx)))
    rw[this];rfl
structure KM (rs:List (Int×Int))(num:List Int):Prop where
 f:∀ l:List Aj,l.Pairwise (λa b=>a.num < b.num)->rs.flatMap (λp=>l.filter (JV p))=l.filter λr=>ED r.num num
 le:∀ p∈rs,p.1 < p.2
 la:rs.getLast?.map Prod.snd=num.getLast?.map (· +1)
 up:rs.Pairwise λa b=>a.2 < b.1
def gO (i j:Int)(l:List Int):ED i (j::l)=(decide (i=j)||ED i l):=by
 show cond (decide (j=i)) true (ED i l)=_
 rw[show decide (j=i)=decide (i=j) from decide_eq_decide.mpr eq_comm]
 cases decide (i=j) <;> rfl
def iE (i x:Int):∀ l:List Int,ED i (l++ [x])=(ED i l||decide (i=x))
 | []=>by rw[List.nil_append,gO];show(_||false)=(false||_);rw[Bool.or_false,Bool.false_or]
 |y::l=>by rw[List.cons_append,gO,gO,iE i x l,Bool.or_assoc]
def jx {i:Int}:∀ {l:List Int},ED i l=true->i∈l
 | [],z=>nomatch z
 |y::l,z=>by
  rw[gO] at z
  rcases(Bool.or_eq_true _ _).mp z with z|z
  ·rw[of_decide_eq_true z];exact .head _
  ·exact .tail _ (jx z)
def jy (l:List Aj):l.filter (λr=>ED r.num [])= []:=List.filter_eq_nil_iff.mpr λr _ (z:ED r.num []=true)=>(nomatch (show false=true from z))
theorem KM.nil:KM [] []:=⟨λl J=>(jy l).symm,λJ m=>(nomatch m),rfl,List.Pairwise.nil⟩
def dB {α:Type}(l:List α):l= []\/∃ p a,l=p++ [a]:=by
 rcases List.eq_nil_or_concat l with e|⟨p,a,e⟩
 ·exact .inl e
 ·exact .inr ⟨p,a,by rw[e,List.concat_eq_append]⟩
def qH {x:Int}(r:Aj):JV (x,x+1) r=decide (r.num=x):=by
 unfold JV
 by_cases e:r.num=x
 ·rw[decide_eq_true e,decide_eq_true (by omega),decide_eq_true (by omega)];rfl
 ·rw[decide_eq_false e]
  by_cases c:x<=r.num
  ·rw[decide_eq_false (show ¬ r.num < x+1 by omega),Bool.and_false]
  ·rw[decide_eq_false c];rfl
theorem KM.end_ {p:List (Int×Int)}{a:Int×Int}{num:List Int}{x:Int}(i:KM (p++ [a]) num)(z:∀ y∈num,y < x):a.2<=x/\∀ q∈p,q.2 < x:=by
 have la:=i.la
 rw[List.getLast?_append,List.getLast?_singleton] at la
 have la:some a.2=num.getLast?.map (· +1):=la
 cases e:num.getLast? with
 |none=>rw[e] at la;cases la
 |some y=>
  rw[e] at la
  have la:some a.2=some (y+1):=la
  have :=z y (List.mem_of_getLast? e)
  have :=i.le a (List.mem_append_right _ (.head _))
  have e2:=Option.some.inj la
  refine⟨by omega,λq m=> ?_⟩
  have :=(List.pairwise_append.mp i.up).2.2 q m a (.head _)
  omega
theorem KM.add {rs:List (Int×Int)}{num:List Int}{x:Int}(i:KM rs num)(z:∀ y∈num,y < x):KM (OL x rs) (num++ [x]):=by
 have fo:∀ l:List Aj,l.Pairwise (λa b=>a.num < b.num)->l.filter (λr=>ED r.num num)++l.filter (λr=>decide (r.num=x))=l.filter λr=>ED r.num (num++ [x]):=λl so=>by
  rw[hZ so λa J b J pa qb=>by rw[of_decide_eq_true qb];exact z _ (jx pa)]
  exact List.filter_congr λr J=>(iE _ _ _).symm
 have f1:∀ l:List Aj,l.filter (JV (x,x+1))=l.filter (λr=>decide (r.num=x)):=λl=>List.filter_congr λr J=>qH r
 have nl:(num++ [x]).getLast?.map (· +1)=some (x+1):=by rw[List.getLast?_append,List.getLast?_singleton];rfl
 rcases dB rs with rfl|⟨p,a,rfl⟩
 ·have e:num= []:=by
   cases e:num.getLast? with
   |none=>exact List.getLast?_eq_none_iff.mp e
   |some y=>have :=i.la;rw[e] at this;cases this
  refine⟨λl so=> ?_,λq m=> ?_,by rw[nl];rfl,List.pairwise_singleton _ _⟩
  ·rw[<-fo l so,<-f1]
   show l.filter _++ []=_
   rw[e,List.append_nil,jy];rfl
  ·rw[List.mem_singleton.mp m];show x < x+1;omega
 ·obtain⟨e1,e2⟩:=i.end_ z
  have ha:=i.le a (List.mem_append_right _ (.head _))
  obtain⟨u1,-,u3⟩:=List.pairwise_append.mp i.up
  rw[dC p [a] λq m=>Int.ne_of_lt (e2 q m)]
  have ff:∀ l:List Aj,l.Pairwise (λa b=>a.num < b.num)->p.flatMap (λp=>l.filter (JV p))++l.filter (JV a)=l.filter λr=>ED r.num num:=λl so=>by
   rw[<-i.f l so,List.flatMap_append,List.flatMap_cons,List.flatMap_nil,List.append_nil]
  show KM (p++if a.2=x then [(a.1,x+1)] else [a,(x,x+1)]) _
  by_cases c:a.2=x
  ·rw[if_pos c]
   refine⟨λl so=> ?_,λq m=> ?_,by rw[nl,List.getLast?_append,List.getLast?_singleton];rfl,List.pairwise_append.mpr ⟨u1,List.pairwise_singleton _ _,λq m b mb=>by rw[List.mem_singleton.mp mb];exact u3 q m a (.head _)⟩⟩
   ·rw[List.flatMap_append,List.flatMap_cons,List.flatMap_nil,List.append_nil,<-fo l so,<-ff l so,List.append_assoc]
    refine congrArg _ ?_
    rw[hZ so λy J w J pa qb=>by
     unfold JV at pa
     rw[Bool.and_eq_true] at pa
     have :=of_decide_eq_true pa.2
     have :=of_decide_eq_true qb
     omega]
    refine List.filter_congr λr J=> ?_
    unfold JV
    show(decide (a.1<=r.num) && decide (r.num < x+1))=_
    rw[c]
    by_cases d1:r.num=x
    ·rw[decide_eq_true d1,decide_eq_true (show a.1<=r.num by omega),decide_eq_true (show r.num < x+1 by omega),Bool.or_true];rfl
    ·rw[decide_eq_false d1,Bool.or_false,show decide (r.num < x+1)=decide (r.num < x) from decide_eq_decide.mpr (by omega)]
   ·rcases List.mem_append.mp m with m|m
    ·exact i.le q (List.mem_append_left _ m)
    ·rw[List.mem_singleton.mp m];show a.1 < x+1;omega
  ·rw[if_neg c]
   have c:a.2 < x:=by omega
   refine⟨λl so=> ?_,λq m=> ?_,by rw[nl,List.getLast?_append];rfl,List.pairwise_append.mpr ⟨u1,List.pairwise_cons.mpr ⟨λb mb=>by rw[List.mem_singleton.mp mb];exact c,List.pairwise_singleton _ _⟩,λq m b mb=> ?_⟩⟩
   ·rw[List.flatMap_append,List.flatMap_cons,List.flatMap_cons,List.flatMap_nil,List.append_nil,<-fo l so,<-ff l so,List.append_assoc,f1]
   ·rcases List.mem_append.mp m with m|m
    ·exact i.le q (List.mem_append_left _ m)
    ·rcases List.mem_cons.mp m with m|m
     ·rw[m];exact ha
     ·rw[List.mem_singleton.mp m];show x < x+1;omega
   ·rcases List.mem_cons.mp mb with mb|mb
    ·rw[mb];exact u3 q m a (.head _)
    ·rw[List.mem_singleton.mp mb];exact e2 q m
theorem KM.hx {rg:List No}{num:List Int}{x:Int}(i:KM (rg.map (·.2)) num)(z:∀ y∈num,y < x):(∀ p∈rg.zipIdx,p.1.2.2 < x\/(p.1.2.2=x/\p.2+1=rg.length))/\∀ p∈rg,p.2.1 < x:=by
 rcases dB rg with rfl|⟨p,a,rfl⟩
 ·exact⟨λJ m=>(nomatch m),λJ m=>(nomatch m)⟩
 rw[List.map_append] at i
 have i:KM (p.map (·.2)++ [a.2]) num:=i
 obtain⟨e1,e2⟩:=i.end_ z
 refine⟨λq m=> ?_,λq m=> ?_⟩
 ·rw[List.zipIdx_append] at m
  rcases List.mem_append.mp m with m|m
  ·exact .inl (e2 q.1.2 (List.mem_map_of_mem (List.fst_mem_of_mem_zipIdx m)))
  ·have m:=List.mem_singleton.mp m
   rw[m]
   rcases Int.lt_or_eq_of_le e1 with e|e
   ·exact .inl e
   ·refine .inr ⟨e,?_⟩
    show 0+p.length+1=(p++ [a]).length
    rw[List.length_append,Nat.zero_add];rfl
 ·rcases List.mem_append.mp m with m|m
  ·have :=i.le q.2 (List.mem_append_left _ (List.mem_map_of_mem m))
   have :=e2 q.2 (List.mem_map_of_mem m)
   omega
  ·rw[List.mem_singleton.mp m]
   have :=i.le a.2 (List.mem_append_right _ (.head _))
   omega
def mH {i:Int}{n:Nat}(a:0<=i)(b:i < n):∃ k:Nat,i=k/\k < n:=by
 obtain⟨k,rfl⟩:=Int.eq_ofNat_of_zero_le a
 exact⟨k,rfl,Int.ofNat_lt.mp b⟩
def gj (i:Int){n:Nat}(b:0 < n):∃ k:Nat,Int.fmod i n=k/\k < n:=
 mH (Int.fmod_nonneg_of_pos i (Int.natCast_pos.mpr b)) (Int.fmod_lt_of_pos i (Int.natCast_pos.mpr b))
structure Li (Y Y':BD):Prop where
 rows:Y'.rows=Y.rows
 pr:Y'.pr=Y.pr
 tries:Y'.tries=Y.tries\/Y'.tries=0
theorem Li.trans {A B C:BD}(x:Li A B)(y:Li B C):Li A C:=⟨y.rows.trans x.rows,y.pr.trans x.pr,y.tries.elim (λe=>x.tries.imp e.trans e.trans) .inr⟩
theorem Li.all {s:Nat}{Y:BD}{l:List Aj}:Li Y (Ce s Y l):=by rw[be];exact⟨rfl,rfl,.inl rfl⟩
theorem Li.det {Y:BD}{k:Nat}{now:Int}:Li Y (K8 Y k now):=by unfold K8;rw[be];exact⟨rfl,rfl,.inl rfl⟩
theorem Li.Oi {Y:BD}{k:Nat}{nums:List Int}{la dl now:Int}:Li Y (Lo Y k nums la dl now):=by
 unfold Lo Pw
 have k0:Li Y { Y with top:=Ad Y.top k (if Y.top k < la then la else Y.top k) }:=⟨rfl,rfl,.inl rfl⟩
 refine k0.trans ?_
 generalize ({ Y with top:=Ad Y.top k (if Y.top k < la then la else Y.top k) }:BD)=Sl
 cases (JG Sl k nums).getLast? with
 |none=>exact⟨rfl,rfl,.inl rfl⟩
 |some r=>
  have k2:∀ Z,Li Z (LW (JG Sl k nums) r la dl now Z):=λZ=>by
   unfold LW
   cases decide (r.num=la) && !((JG Sl k nums).filter Aj.asks).isEmpty
   ·exact⟨rfl,rfl,.inl rfl⟩
   ·exact⟨rfl,rfl,.inl rfl⟩
  have k4:∀ Z:BD,Li Z (QW Z):=λZ=>by
   unfold QW
   cases Z.valid
   ·exact⟨rfl,rfl,.inl rfl⟩
   ·exact⟨rfl,rfl,.inr rfl⟩
  exact Li.all.trans ((k2 _).trans (Li.det.trans (k4 _)))
theorem Li.anew {Y:BD}{sp:Bool}:(J9 Y sp).rows=Y.rows/\(J9 Y sp).pr=Y.pr+1/\(J9 Y sp).tries=Y.tries:=by
 unfold J9
 cases K6 Y with
 |cons r l=>
  dsimp only
  rw[be];exact⟨rfl,rfl,rfl⟩
 |nil=>
  cases sp with
  |true=>exact⟨rfl,rfl,rfl⟩
  |false=>
   dsimp only
   cases JS Y <;> exact⟨rfl,rfl,rfl⟩
structure EW (R:Nat->Nat)(now num:Int)(e:AZ):Prop where
 Vb:e AC=some (.ref (R 5))
 w:e Ai=some (.ref (R 14))
 told:e DN=some (.ref (R 6))
 M9:e Bu=some (.ref (R 7))
 thrown:e BY=some (.ref (R 21))
 now:e Av=some (.int now)
 num:e AU=some (.int num)
abbrev Hv:List Nat:= [DU,Bq,GJ,DB,D4,Ae,Ej,Dl,Dd,FQ,Am,CU,AQ,EV,A7,De,IZ,BP,LS,CG,HQ]
theorem EW.go {R:Nat->Nat}{now num:Int}{e e':AZ}(x:EW R now num e)(k:By Hv e e'):EW R now num e':=
 ⟨(k _ rfl).trans x.Vb,(k _ rfl).trans x.w,(k _ rfl).trans x.told,(k _ rfl).trans x.M9,(k _ rfl).trans x.thrown,(k _ rfl).trans x.now,(k _ rfl).trans x.num⟩
structure Co (T R D:Nat->Nat)(X:Bz)(Y:BD)(th:Nat->Bool)(ns:List (Nat×O))(num:Int)(i:Nat)(h:H):Prop where
 G:A9 T R
 L:DS T h
 r:Bb T R D X h
 w:CQ T R Y h
 inv:BI X Y
 HL:DO X Y.rows.length
 MX:h (R 21)=some (.lst ([0,1,2].map λk=> .bool (th k)))
 t2:th 2=false
 ns:∀ p∈ns,h p.1=some p.2/\T p.1=0
 nn:∀ x∈Y.rows,x.num < num
 bl:Y.rows.length<=i
 bp:Y.pr<=i
 bt:0<=Y.tries/\Y.tries<=i
section
variable {R D T:Nat->Nat}{S:List Nat}{h h':H}{X X':Bz}{Y Y':BD}{th:Nat->Bool}{ns:List (Nat×O)}{num:Int}{i:Nat}
theorem Co.go (z:Co T R D X Y th ns num i h)(m:Mod T S h h')(s:AM 0 S=false/\AM 21 S=false)(r:Bb T R D X' h')(w:CQ T R Y' h')(inv:BI X' Y')(HL:DO X' Y.rows.length)(er:Y'.rows=Y.rows)(bp:Y'.pr<=i+1)(bt:0<=Y'.tries/\Y'.tries<=i+1):Co T R D X' Y' th ns num (i+1) h' where
 G:=z.G
 L:=m.alive z.L
 r:=r
 w:=w
 inv:=inv
 HL:=by rw[er];exact HL
 MX:=m.get z.MX (z.G 21 rfl) s.2
 t2:=z.t2
 ns p mp:=⟨m.get (z.ns p mp).1 (z.ns p mp).2 s.1,(z.ns p mp).2⟩
 nn:=by rw[er];exact z.nn
 bl:=by rw[er];exact Nat.le_succ_of_le z.bl
 bp:=bp
 bt:=bt
theorem Co.new (z:Co T R D X Y th ns num i h)(m:Mod T [] h h'):Co T R D X Y th ns num i h':=
 ⟨z.G,m.alive z.L,z.r.mod z.G m rfl,z.w.mod z.G m rfl,z.inv,z.HL,m.get z.MX (z.G 21 rfl) rfl,z.t2,λp mp=>⟨m.get (z.ns p mp).1 (z.ns p mp).2 rfl,(z.ns p mp).2⟩,z.nn,z.bl,z.bp,z.bt⟩
theorem Co.up (z:Co T R D X Y th ns num i h):Co T R D X Y th ns num (i+1) h:=
 ⟨z.G,z.L,z.r,z.w,z.inv,z.HL,z.MX,z.t2,z.ns,z.nn,Nat.le_succ_of_le z.bl,by have :=z.bp;omega,by have :=z.bt;omega⟩
theorem Co.told (z:Co T R D X Y th ns num i h):X.told.length<=40:=by
 have :=z.HL.t
 have :=z.inv.ok.len
 omega
theorem Co.A (z:Co T R D X Y th ns num i h):X.A<=40000:=by
 have :=z.HL.A
 have :=z.inv.ok.len
 omega
theorem Co.rb (z:Co T R D X Y th ns num i h):Nn 400 X:=
 ⟨z.HL.so,Nat.le_trans z.told (by decide),λk bk=>by rw[z.inv.Ar k bk];exact Nat.le_trans (cL Y k) (Nat.le_trans z.inv.ok.len (by decide)),Int.le_trans z.A (by decide)⟩
theorem Co.QY (z:Co T R D X Y th ns num i h):Mc 300 Y:=
 ⟨z.inv.ok.nd,Nat.le_trans z.inv.ok.len (by decide),by rw[<-z.inv.told];exact Nat.le_trans z.told (by decide)⟩
theorem Co.TC (z:Co T R D X Y th ns num i h)(b:i<=20):X.pr < 1000:=by
 have :=z.inv.pr
 have :=z.bp
 omega
theorem Co.Nc (z:Co T R D X Y th ns num i h)(b:i<=20):(0<=X.r.tries/\X.r.tries<=60)/\0<=Y.tries/\Y.tries<=60:=by
 have :=z.bt
 rw[z.inv.tries]
 omega
theorem Co.PC (z:Co T R D X Y th ns num i h):Y.rows.length<=60:=Nat.le_trans z.inv.ok.len (by decide)
end
def Pj (R D:Nat->Nat)(ns:List (Nat×O))(i:Nat)(e:AZ)(Q:DJ->AZ->H->Prop):Prop:=
 ∀ e' h' T' X' Y' th' now' num',By (Av::AU::Hv) e e'->EW R now' num' e'->Co T' R D X' Y' th' ns num' (i+1) h'->Q .next e' h'
abbrev RZ:A2:=Ak (Af (AX (Aa AC) A5) (Ag (.bool true)))
  (Af (DY (Aa Ai) (Ag (.str BU))) (Ag (.bool true)))
abbrev QR:A2:=Ak (Af (AX (Aa AC) AG) (Ag (.bool true)))
  (Af (DY (Aa Ai) (Ag (.str EO))) (Ag (.bool true)))
abbrev RY:A2:=Ak (Bx (Bh (Aa AC) F8 As (Aq Av (Aa Av) (Aq CV (Ab Cw (Ab BS (Aa DB) (Ag (.int 2))) (Ag (.int 1))) Az))))
  (Bx (BK Gd (Ah (Aa Ai) (Ah (Ab Cw (Ab BS (Aa DB) (Ag (.int 2))) (Ag (.int 1))) As)) Az))
abbrev QP:A2:=Ak (Af (AA Ae) (Ab BS (Aa DB) (Ag (.int 2))))
  (Ak (Af (DY (Aa BY) (Aa Ae)) (Ag (.bool true)))
  (Ak (Bx (Bh (Aa AC) IX (Ah (Ab Au (Al (Aa AC) Cn) (Aa Ae)) As) Az))
  (Ak (Ck (AA AQ) (Cx CY (BK B6 (Ah (Aa Ai) (Ah (Aa Ae) As)) Az)) (Af (DY (Aa AQ) (Ag (.str Er))) (Ag (.str BY))))
  (Ak (Af (DY (Ab Au (Aa Ai) (Ag (.str CA))) (Aa Ae)) (Ag .none))
  (Af (DY (Aa Ai) (Ag (.str Dw))) (Ag (.int 0)))))))
section
variable {n:Nat}{R D T:Nat->Nat}{S:List Nat}{h h':H}{X X':Bz}{Y Y':BD}{th:Nat->Bool}{ns:List (Nat×O)}{now num CD:Int}{i:Nat}{e:AZ}{Q:DJ->AZ->H->Prop}
def rN (E:EW R now num e)(z:Co T R D X Y th ns num i h)(q:Pj R D ns i e Q):RZ (Bp n) e Q h:=by
 have⟨E1,E2,_,_,_,_,_⟩:=E
 refine aD ?_
 nofun
 refine bu (r':={ X.r with Bc:=true }) z.G z.r rfl (a6 _ _ _) λh1 Z1 m1=> ?_
 have W1:=z.w.mod z.G m1 rfl
 nofun
 refine cg (X':={ Y with Bc:=true }) z.G W1 rfl rfl ⟨rfl,rfl,rfl,rfl,rfl⟩ λh2 W2 m2=> ?_
 have b:=z.bp
 have c:=z.bt
 exact q _ _ _ _ _ _ _ _ (.refl _ _) E (z.go (S:= [5,14]) ((m1.mono rfl).trans (m2.mono rfl)) ⟨rfl,rfl⟩ (Z1.mod z.G m2 rfl) W2 z.inv.VM ⟨z.HL.t,z.HL.A,z.HL.so⟩ rfl (by show Y.pr<=_;omega) (by show 0<=Y.tries/\Y.tries<=_;omega))
def pq (E:EW R now num e)(z:Co T R D X Y th ns num i h)(q:Pj R D ns i e Q):QR (Bp n) e Q h:=by
 have⟨E1,E2,_,_,_,_,_⟩:=E
 refine aD ?_
 nofun
 refine bu (r':={ X.r with valid:=true }) z.G z.r rfl (a6 _ _ _) λh1 Z1 m1=> ?_
 have W1:=z.w.mod z.G m1 rfl
 nofun
 refine cg (X':={ Y with valid:=true }) z.G W1 rfl rfl ⟨rfl,rfl,rfl,rfl,rfl⟩ λh2 W2 m2=> ?_
 have b:=z.bp
 have c:=z.bt
 exact q _ _ _ _ _ _ _ _ (.refl _ _) E (z.go (S:= [5,14]) ((m1.mono rfl).trans (m2.mono rfl)) ⟨rfl,rfl⟩ (Z1.mod z.G m2 rfl) W2 z.inv.Vq ⟨z.HL.t,z.HL.A,z.HL.so⟩ rfl (by show Y.pr<=_;omega) (by show 0<=Y.tries/\Y.tries<=_;omega))
def rM (E:EW R now num e)(z:Co T R D X Y th ns num i h)(bi:i<=20)(ep:e DB=some (.int CD))(q:Pj R D ns i e Q):RY (Bp (n+4)) e Q h:=by
 have⟨E1,E2,_,_,_,E6,_⟩:=E
 have H5:=z.r.rc
 refine aD ?_
 nofun
 generalize hsp:decide (Int.fmod CD 2=1)=sp
 refine ay (d:=Gc) (b:=EJ) rfl ⟨rfl,rfl,rfl,rfl,rfl,rfl⟩ ?_
 refine kG (now:=now) (sp:=sp) z.G z.r z.L z.rb (λY e=>by rw[e,mC];exact z.TC bi) (by rfl) (by rfl) (by rfl) λh1 Z1 m1=> ?_
 have W1:=z.w.mod z.G m1 rfl
 nofun
 rw[hsp]
 refine mS z.G W1 (m1.alive z.L) z.QY (by decide) λh2 W2 m2=> ?_
 nofun
 have b:=z.bp
 have c:=z.bt
 obtain⟨k1,k2,k3⟩:=Li.anew (Y:=Y) (sp:=sp)
 exact q _ _ _ _ _ _ _ _ (.refl _ _) E (z.go (S:=ES++II) ((m1.mono rfl).trans (m2.mono rfl)) ⟨rfl,rfl⟩ (Z1.mod z.G m2 rfl) W2 z.inv.res z.HL.res k1 (by rw[k2];omega) (by rw[k3];omega))
def pi (E:EW R now num e)(z:Co T R D X Y th ns num i h)(ep:e DB=some (.int CD))(q:Pj R D ns i e Q):QP (Bp (n+4)) e Q h:=by
 have⟨E1,E2,_,_,E5,_,_⟩:=E
 obtain⟨k,ek,bk⟩:=gj CD (n:=2) (by decide)
 have bk3:k < 3:=Nat.lt_trans bk (by decide)
 have Ht:=z.MX
 refine aD ?_
 nofun
 rw[show Int.fmod CD 2=k from ek]
 refine fK Ht ⟨Int.natCast_nonneg _,by rw[Int.toNat_natCast,List.length_map];exact bk3⟩ ?_
 rw[Int.toNat_natCast,lQ (f:=th) (v:=true) (g:=V.bool) bk3]
 have m0:=Mod.at (T:=T) (R:=R) (S:= [21]) (k:=21) (h:=h) z.G rfl rfl (.lst ([0,1,2].map λj=> .bool (Ad th k true j)))
 have Ht1:=aa h (R 21) (some (O.lst ([0,1,2].map λj=>V.bool (Ad th k true j))))
 generalize Ad h (R 21) (some (.lst ([0,1,2].map λj=> .bool (Ad th k true j))))=h1 at m0 Ht1 ⊢
 have Z1:=z.r.mod z.G m0 rfl
 have W1:=z.w.mod (S:= [21]) z.G (m0) (by rfl)
 have H5:=Z1.rc
 have H20:=Z1.GV
 generalize ee:Ad e Ae _=e1
 have k1:By Hv e e1:=by rw[<-ee];exact By.set (.refl _ _) rfl
 have es:e1 Ae=some (.int k):=by rw[<-ee];rfl
 clear ee
 have E':=E.go k1
 have⟨E1,E2,_,_,_,_,_⟩:=E'
 nofun
 refine bP H20 (d6 bk3) ?_
 nofun
 refine mX z.G Z1 bk3 λh2 Z2 m2=> ?_
 have W2:=W1.mod z.G m2 rfl
 have m3:Mod T (21::ES++II) h h2:=(m0.mono rfl).trans (m2.mono rfl)
 nofun
 refine jF W2 z.PC λc hc=> ?_
 have W3:=W2.mod z.G (S:= []) (h':=Ad h2 c (some (.lst ((Bv Y k).map λr=> .ref r.d)))) (.new hc) rfl
 have Z3:=Z2.mod z.G (S:= []) (h':=Ad h2 c (some (.lst ((Bv Y k).map λr=> .ref r.d)))) (.new hc) rfl
 have m4:Mod T (21::ES++II) h (Ad h2 c (some (.lst ((Bv Y k).map λr=> .ref r.d)))):=m3.trans (.new hc)
 have Ht3:=(Mod.new (T:=T) (S:= []) (o:= .lst ((Bv Y k).map λr=> .ref r.d)) hc).get (m2.get Ht1 (z.G 21 rfl) rfl) (z.G 21 rfl) rfl
 have tc:=(m3.alive z.L).fresh hc
 have hc1:=aa h2 c (some (O.lst ((Bv Y k).map λr=>V.ref r.d)))
 refine kz hc1 ?_
 generalize Ad h2 c (some (.lst ((Bv Y k).map λr=> .ref r.d)))=h3 at W3 Z3 m4 hc1 Ht3 ⊢
 refine aU (f:=λr:Aj=>V.ref r.d) (λr e' h'=>By [AQ] e1 e'/\Mod T II h3 h'/\∃ pre,Bv Y k=pre++r/\CQ T R { Y with st:=pre.foldl (λst r=>Ad st r.d BY) Y.st } h') (λr e' h' i=>au (i.2.1.get hc1 tc rfl)) aB (λa r e' h' i kk hk=> ?_) (λe' h' i=> ?_) (Bv Y k) _ _ ⟨.refl _ _,.refl _,[],rfl,W3⟩
 ·obtain⟨k2,m,pre,ep,W'⟩:=i
  have ma:a∈Y.rows:=bI (k:=k) (by rw[ep];exact List.mem_append_right _ (.head _))
  nofun
  refine kK z.G W' ma (λx m e=>z.inv.ok.nd x m a ma e) λh4 W4 m5=> ?_
  exact hk _ _ ⟨By.set k2 rfl,m.trans (m5.mono rfl),pre++ [a],by rw[ep,List.append_assoc];rfl,by rw[List.foldl_append];exact W4⟩
 obtain⟨k2,m5,pre,ep,W4⟩:=i
 rw[<-show Bv Y k=pre from ep.trans (List.append_nil pre)] at W4
 have E2':=(k2 Ai rfl).trans E2
 have es':=(k2 Ae rfl).trans es
 have Hw:=W4.w
 have Hs:=W4.ls
 nofun
 refine fK Hs ⟨Int.natCast_nonneg _,by rw[Int.toNat_natCast,List.length_map];exact bk3⟩ ?_
 rw[Int.toNat_natCast]
 have e3:([0,1,2].map λk=>Fr (Y.Ap k)).set k V.none= [0,1,2].map λj=>Fr (Ad Y.Ap k none j):=lQ (f:=Y.Ap) (v:=none) (g:=Fr) bk3
 dsimp only
 rw[e3]
 have m6:=Mod.at (T:=T) (R:=R) (S:= [17]) (k:=17) (h:=h') z.G rfl rfl (.lst ([0,1,2].map λj=>Fr (Ad Y.Ap k none j)))
 have W5:=W4.LO z.G m6 (aa ..)
 generalize Ad h' (R 17) (some (.lst ([0,1,2].map λj=>Fr (Ad Y.Ap k none j))))=h5 at m6 W5 ⊢
 nofun
 refine cg (X':=O1 Y k) z.G W5 rfl rfl ⟨rfl,rfl,rfl,rfl,rfl⟩ λh6 W6 m7=> ?_
 have m8:Mod T II h3 h6:=m5.trans ((m6.mono rfl).trans (m7.mono rfl))
 have Z6:=Z3.mod z.G m8 rfl
 have b:=z.bp
 have cc:=z.bt
 have zz:=z.inv.Vo bk3
 have m9:=m4.trans (m8.mono (U:=21::ES++II) rfl)
 have bk2:(Ad th k true) 2=false:=(ab th true (x:=2) (a:=k) (by omega)).trans z.t2
 exact q e' h6 T (Qz X k) (O1 Y k) (Ad th k true) now num ((k1.trans (k2.sub rfl)).sub rfl) (E'.go (k2.sub rfl)) ⟨z.G,m9.alive z.L,Z6,W6,zz,z.HL.Vo bk3,m8.get Ht3 (z.G 21 rfl) rfl,bk2,λp mp=>⟨m9.get (z.ns p mp).1 (z.ns p mp).2 rfl,(z.ns p mp).2⟩,z.nn,Nat.le_succ_of_le z.bl,by show Y.pr<=_;omega,by show(0:Int)<=0/\(0:Int)<=_;omega⟩
end
def R2 (o:Option Int)(m:Int):Bool:=match o with |none=>false|some i=>decide (i=m)
def vZ {h:H}{o:Option Int}{m:Int}{Q:V->H->Prop}(q:Q (.bool (R2 o m)) h):Cw (Fr o) (.int m) Q h:=by
 cases o with
 |none=>exact q
 |some i=>exact q
def mJ {Ap:Nat->Option Int}{k:Nat}{m:Int}(e:D0 Ap=some k)(em:Ap k=some m):∃ l,[0,1,2].filter (λj=>R2 (Ap j) m)=k::l:=by
 have i:=bF Ap
 rw[e] at i
 obtain⟨mk,x,ex,i⟩:=i
 rw[em] at ex
 cases ex
 have lo:∀ j∈ [0,1,2],j < k->R2 (Ap j) m=false:=λj mj lt=>by
  cases ej:Ap j with
  |none=>rfl
  |some y=>exact decide_eq_false λz=>absurd ((i j mj y ej).2 lt) (by rw[z];exact Int.lt_irrefl _)
 have hi:R2 (Ap k) m=true:=by rw[em];exact decide_eq_true rfl
 match k,d4 mk with
 |0,_=>exact⟨_,by rw[List.filter_cons,if_pos hi]⟩
 |1,_=>exact⟨_,by rw[List.filter_cons,if_neg (by rw[lo 0 (.head _) (by decide)];exact λz=>nomatch z),List.filter_cons,if_pos hi]⟩
 |2,_=>exact⟨_,by rw[List.filter_cons,if_neg (by rw[lo 0 (.head _) (by decide)];exact λz=>nomatch z),List.filter_cons,if_neg (by rw[lo 1 (.tail _ (.head _)) (by decide)];exact λz=>nomatch z),List.filter_cons,if_pos hi]⟩
 |k+3,b=>exact absurd b (Nat.not_lt.mpr (Nat.le_add_left 3 k))
abbrev QQ:A2:=Ak (Af (AA LS) (BK Gy (Ah (Aa AC) (Ah (Aa Ai) (Ah (Ag (.bool false)) As))) Az))
  (AS (An (Ab HO (Aa LS) (Ag .none))) (Ak (Af (AA Av) (Ab (Aw Fg) (Aa Av) (Aa LS)))
  (Ak (Bx (Bh (Aa AC) EE As (Aq Av (Aa Av) Az)))
  (Ak (Af (AA CG) (Ct CA (Cx DD (Ab Au (Aa Ai) (Ag (.str CA)))) (An (Ab HO (Aa CA) (Ag .none))) (Aa CA)))
  (AS (An (Aa CG)) (Bx (BK E9 (Ah (Aa Ai) (Ah (Ab Au (Ct Ae (Jq (Ag (.int 3))) (An (Ab Cw (Ab Au (Ab Au (Aa Ai) (Ag (.str CA))) (Aa Ae)) (DP OQ (Aa CG)))) (Aa Ae)) (Ag (.int 0))) (Ah (Aa Av) As))) Az)) (Ak (Af (DY (Aa Ai) (Ag (.str Dw))) (Ab BA (Ab Au (Aa Ai) (Ag (.str Dw))) (Ag (.int 1))))
  (Bx (BK Gd (Ah (Aa Ai) (Ah (Ag (.bool false)) As)) Az))))))) AN)
section
variable {n:Nat}{R D T:Nat->Nat}{S:List Nat}{h h':H}{X X':Bz}{Y Y':BD}{th:Nat->Bool}{ns:List (Nat×O)}{now num CD:Int}{i:Nat}{e:AZ}{Q:DJ->AZ->H->Prop}
def pj (E:EW R now num e)(z:Co T R D X Y th ns num i h)(bi:i<=20)(q:Pj R D ns i e Q):QQ (Bp (n+4)) e Q h:=by
 have⟨E1,E2,_,_,_,E6,E7⟩:=E
 refine aD ?_
 nofun
 refine kH z.G z.w z.L z.r.rc z.PC (z.Nc bi).2 λh1 W1 m1=> ?_
 have z1:=z.new m1
 nofun
 cases Se Y X.r false with
 |none=>
  refine nZ (bC ?_)
  exact q _ _ _ _ _ _ _ _ (By.set (.refl _ _) rfl) (E.go (By.set (.refl _ _) rfl)) z1.up
 |some t=>
  unfold Fr
  refine sK ?_
  nofun
  generalize (if now < t then t else now)=now2
  generalize ee:Ad _ Av _=e1
  have k1:By (Av::AU::Hv) e e1:=by rw[<-ee];exact By.set (By.set (.refl _ _) rfl) rfl
  have en:e1 Av=some (.int now2):=by rw[<-ee];rfl
  have E1:=(k1 AC rfl).trans E1
  have E2:=(k1 Ai rfl).trans E2
  have E7:e1 AU=some (.int num):=by rw[<-ee];exact E7
  have El:EW R now2 num e1:=⟨E1,E2,(k1 _ rfl).trans E.told,(k1 _ rfl).trans E.M9,(k1 _ rfl).trans E.thrown,en,E7⟩
  clear ee
  have H5:=z1.r.rc
  nofun
  refine nj (now:=now2) z1.G z1.r z1.L z1.rb (z1.TC bi) λh2 Z2 m2=> ?_
  have W2:=W1.mod z.G m2 rfl
  have Hw:=W2.w
  have Hs:=W2.ls
  nofun
  refine br [0,1,2] (λk=>Fr (Y.Ap k)) (GN Y.Ap) (λk=>Fr (Y.Ap k)) rfl (au Hs) aB (λk m Q q=> ?_) (λk m J Q q=>aK rfl q) λc hc=> ?_
  ·nofun
   exact q
  have W3:=W2.mod z.G (S:= []) (h':=Ad h2 c (some (.lst (([0,1,2].filter (GN Y.Ap)).map λk=>Fr (Y.Ap k))))) (.new hc) rfl
  have Z3:=Z2.mod z.G (S:= []) (h':=Ad h2 c (some (.lst (([0,1,2].filter (GN Y.Ap)).map λk=>Fr (Y.Ap k))))) (.new hc) rfl
  have m3:Mod T ES h1 (Ad h2 c (some (.lst (([0,1,2].filter (GN Y.Ap)).map λk=>Fr (Y.Ap k))))):=m2.trans (.new hc)
  have hc1:=aa h2 c (some (O.lst (([0,1,2].filter (GN Y.Ap)).map λk=>Fr (Y.Ap k))))
  refine(?_:(λh3:H=>EG _ (Bp (n+4)) Q .next (Ad e1 CG (some (.ref c))) h3) (Ad h2 c (some (.lst (([0,1,2].filter (GN Y.Ap)).map λk=>Fr (Y.Ap k))))))
  generalize Ad h2 c (some (.lst (([0,1,2].filter (GN Y.Ap)).map λk=>Fr (Y.Ap k))))=h3 at W3 Z3 m3 hc1 ⊢
  have il:=cZ Y.Ap [0,1,2]
  have lm:= @jw Y.Ap
  have iv:=z.inv.SQ (now:=now2)
  have pv:=z.HL.SQ (now:=now2)
  have b:=z.bp
  have cc:=z.bt
  have E2':(Ad e1 CG (some (.ref c))) Ai=some (.ref (R 14)):=E2
  have en':(Ad e1 CG (some (.ref c))) Av=some (.int now2):=en
  have el':(Ad e1 CG (some (.ref c))) CG=some (.ref c):=rfl
  have k3:By (Av::AU::Hv) e (Ad e1 CG (some (.ref c))):=By.set k1 rfl
  have El':EW R now2 num (Ad e1 CG (some (.ref c))):=El.go (By.set (.refl _ _) rfl)
  generalize Ad e1 CG (some (.ref c))=e2 at E2' en' el' k3 El' ⊢
  have li:=bF Y.Ap
  cases ek:D0 Y.Ap with
  |none=>
   rw[ek] at li iv
   have ef: [0,1,2].filter (GN Y.Ap)= []:=List.filter_eq_nil_iff.mpr λj mj zz=>by
    unfold GN at zz
    rw[li j mj] at zz;cases zz
   rw[ef] at hc1
   have Hw:=W3.w
   nofun
   refine cg (X':={ Y with tries:=Y.tries+1 }) z.G W3 rfl rfl ⟨rfl,rfl,rfl,rfl,rfl⟩ λh4 W4 m4=> ?_
   nofun
   refine mS z.G W4 (m4.alive (m3.alive z1.L)) ⟨z.QY.nd,z.QY.len,z.QY.bd⟩ (by decide) λh5 W5 m5=> ?_
   nofun
   obtain⟨x1,x2,x3⟩:=Li.anew (Y:={ Y with tries:=Y.tries+1 }) (sp:=false)
   exact q _ _ _ _ _ _ _ _ k3 El' (z1.go (S:=ES++II) ((m3.mono rfl).trans ((m4.mono rfl).trans (m5.mono rfl))) ⟨rfl,rfl⟩ ((Z3.mod z.G m4 rfl).mod z.G m5 rfl) W5 iv pv x1 (by rw[x2];show Y.pr+1<=_;omega) (by rw[x3];show 0<=Y.tries+1/\Y.tries+1<=_;omega))
  |some k=>
   rw[ek] at li iv
   obtain⟨mk,m0,em,-⟩:=li
   obtain⟨l,efm⟩:=mJ ek em
   have bk:=d4 mk
   have ne: [0,1,2].filter (GN Y.Ap)≠ []:=λzz=>by
    have :=List.filter_eq_nil_iff.mp zz k mk
    unfold GN at this
    rw[em] at this
    exact this rfl
   generalize [0,1,2].filter (GN Y.Ap)=fs at *
   cases fs with
   |nil=>exact absurd rfl ne
   |cons a fs=>
   have Hw:=W3.w
   have Hs:=W3.ls
   nofun
   refine ae (a:=3) rfl (gr ⟨by decide,by decide⟩ ⟨show 3<=lim by decide,?_⟩)
   refine br [0,1,2] (λk:Nat=>V.int k) (λj=>R2 (Y.Ap j) m0) (λk=>V.int k) rfl trivial aB (λj mj Q q=> ?_) (λk m J Q q=>aK rfl q) λc2 hc2=> ?_
   ·nofun
    refine bP Hs (d6 (d4 mj)) ?_
    nofun
    refine ae (a:= [0,1,2].filterMap Y.Ap) ?_ ⟨λzz=> ?_,λm mm mi=> ?_⟩
    ·show AT (getL h3 c) Gu=_
     rw[au hc1];exact il
    ·have :m0∈ [0,1,2].filterMap Y.Ap:=List.mem_filterMap.mpr ⟨k,mk,em⟩
     rw[zz] at this;cases this
    ·obtain⟨k',ek',em'⟩:=lm mm mi
     rw[ek] at ek'
     cases ek'
     rw[em] at em'
     cases em'
     refine vZ ?_
     nofun
     exact q
   rw[efm]
   have W4:=W3.mod z.G (S:= []) (h':=Ad h3 c2 (some (.lst ((k::l).map λk:Nat=> .int k)))) (.new hc2) rfl
   have Z4:=Z3.mod z.G (S:= []) (h':=Ad h3 c2 (some (.lst ((k::l).map λk:Nat=> .int k)))) (.new hc2) rfl
   have m4:Mod T ES h1 (Ad h3 c2 (some (.lst ((k::l).map λk:Nat=> .int k)))):=m3.trans (.new hc2)
   have hc3:=aa h3 c2 (some (O.lst ((k::l).map λk:Nat=> .int k)))
   generalize Ad h3 c2 (some (.lst ((k::l).map λk:Nat=> .int k)))=h4 at W4 Z4 m4 hc3 ⊢
   nofun
   refine nq z.G W4 (m4.alive z1.L) bk z.QY (by decide) λh5 W5 m5=> ?_
   nofun
   obtain⟨x1,x2,x3⟩:=Li.det (Y:=Y) (k:=k) (now:=now2)
   exact q _ _ _ _ _ _ _ _ k3 El' (z1.go (S:=ES++II) ((m4.mono rfl).trans (m5.mono rfl)) ⟨rfl,rfl⟩ (Z4.mod z.G m5 rfl) W5 iv pv x1 (by rw[x2];omega) (by rcases x3 with x3|x3 <;> rw[x3] <;> omega))
end
def eQ {α:Type}{f:α->V}{l:List α}{i:Int}(a:0<=i)(b:i < l.length):∃ r∈l,MY (l.map f) i=some (f r):=by
 obtain⟨k,rfl,b2⟩:=mH a b
 refine⟨l[k],List.getElem_mem b2,?_⟩
 unfold MY
 rw[gE (Int.natCast_nonneg k)]
 show(l.map f)[((k:Int)).toNat]? =_
 rw[Int.toNat_natCast,List.getElem?_map,List.getElem?_eq_getElem b2];rfl
def tT {l:List Aj}(so:l.Pairwise λa b=>a.num < b.num):(l.map Aj.num).Pairwise (· < ·):=List.pairwise_map.mpr so
section
variable {n:Nat}{R D T:Nat->Nat}{S:List Nat}{h h':H}{X X':Bz}{Y Y':BD}{th:Nat->Bool}{ns:List (Nat×O)}{now num CD more:Int}{i:Nat}{e:AZ}{Q:DJ->AZ->H->Prop}{cf:Cc}
structure Sp (AK:List Int)(la:Int):Prop where
 so:AK.Pairwise (· < ·)
 la:AK.getLast? =some la
 len:AK.length<=21
def pg {ac sc:Nat}{s0 a la:Int}{t l:List Int}(em:e Bq=some (.int more))(ea:e A7=some (.ref ac))(es:e EV=some (.ref sc))(ha:h ac=some (.lst ((a::l).map .int)))(hs:h sc=some (.lst ((s0::t).map .int)))(so:(s0::t).Pairwise (· < ·))(sub:List.Sublist (a::l) (s0::t))(el:(a::l).getLast? =some la)(bl:(s0::t).length<=20)
  (q:∀ e' h' c AK,By [A7] e e'->Mod T [] h h'->e' A7=some (.ref c)->h' c=some (.lst (AK.map .int))->(c=ac\/h c=none)->Sp AK la->Q .next e' h'):
  AS (Cp (An (Ab Cw (Ab BS (Ab CT (Aa Bq) (Ag (.int 4))) (Ag (.int 2))) (Ag (.int 1)))) (An (Ab Jh (Ab Au (Aa A7) (Ag (.int 0))) (Ab Au (Aa EV) (Ag (.int 0)))))) (Af (AA A7) (Ab BA (Dc (Ah (Ab Au (Aa EV) (Ag (.int 0))) As)) (Aa A7))) AN cf e Q h:=by
 have lb:=Nat.le_trans sub.length_le bl
 have no:Q .next e h:=q e h ac (a::l) (.refl _ _) (.refl _) ea ha (.inl rfl) ⟨so.sublist sub,el,Nat.le_trans lb (by decide)⟩
 nofun
 refine bH (λc=> ?_) λc=> ?_
 rotate_left
 ·refine dY (bC ?_)
  exact no
 nofun
 refine sJ (λc=> ?_) λc=> ?_
 rotate_left
 ·exact bC no
 nofun
 intro b hb
 have mb:Mod T [] h (Ad h b (some (.lst [.int s0]))):= .new hb
 have ha2:=(ab h (some (.lst [.int s0])) (az (e1:=hb) ha)).trans ha
 have hb2:=aa h b (some (O.lst [V.int s0]))
 generalize Ad h b (some (.lst [.int s0]))=h1 at mb ha2 hb2 ⊢
 nofun
 refine pO hb2 ha2 (by rw[List.length_map];exact Nat.le_trans (show 1+(a::l).length<=1000 by omega) (by decide)) λc2 hc2=> ?_
 have ma:a∈t:=by
  rcases List.mem_cons.mp (sub.subset (.head _)) with z|z
  ·exact absurd z c
  ·exact z
 have s0a:s0 < a:=(List.pairwise_cons.mp so).1 a ma
 have so2:=so.sublist sub
 have n0:h c2=none:=by
  cases e:h c2 with
  |none=>rfl
  |some o=>have :=mb.keep c2 o rfl e;rw[this] at hc2;cases hc2
 refine q _ _ c2 (s0::a::l) (By.set (.refl _ _) rfl) (mb.trans (.new hc2)) rfl (aa ..) (.inr n0) ⟨List.pairwise_cons.mpr ⟨λx m=> ?_,so2⟩,?_,by rw[List.length_cons];omega⟩
 ·rcases List.mem_cons.mp m with rfl|m
  ·exact s0a
  ·exact Int.lt_trans s0a ((List.pairwise_cons.mp so2).1 x m)
 ·rw[List.getLast?_cons_cons];exact el
def rL {a l ac:Nat}{AK:List Int}{la:Int}{h0:H}(ea:e A7=some (.ref ac))(er:e De=some (.ref a))(A:Sp AK la)(hac:h0 ac=some (.lst (AK.map .int)))(hl:h0 l=none)(W:Kk a l [] h)(ext:CW h0 h)
  (q:∀ e' h' rg,By [IZ] e e'->Kk a l rg h'->KM (rg.map (·.2)) AK->CW h0 h'->(∀ r∈rg,h0 r.1=none)->Q .next e' h'):
  Ck (AA IZ) (Cx CY (Aa A7)) (Bx (Bh (Aa De) Ni (Ah (Aa IZ) As) Az)) (Bp (n+2)) e Q h:=by
 have Hac:=ext _ _ hac
 refine dS ?_
 nofun
 refine aU (f:=V.int) (λr e' h'=>By [IZ] e e'/\CW h0 h'/\∃ done rg,AK=done++r/\Kk a l rg h'/\KM (rg.map (·.2)) done/\(∀ r∈rg,h0 r.1=none)/\rg.length<=done.length) (λr e' h' i=>au (i.2.1 _ _ hac)) aB (λx r e' h' i kk hk=> ?_) (λe' h' i=> ?_) AK _ _ ⟨.refl _ _,ext,[],[],rfl,W,KM.nil,(λJ m=>nomatch m),Nat.le_refl _⟩
 rotate_left
 ·obtain⟨k1,ex,done,rg,ed,W,I,nn,-⟩:=i
  rw[<-show AK=done from ed.trans (List.append_nil done)] at I
  exact q _ _ _ k1 W I ex nn
 obtain⟨k1,ex,done,rg,ed,W,I,nn,bl⟩:=i
 have er':=(k1 De rfl).trans er
 obtain⟨d,Ha⟩:=W.s
 have so:=A.so
 have len:=A.len
 rw[ed] at so len
 rw[List.length_append,List.length_cons] at len
 have lt:∀ y∈done,y < x:=λy my=>(List.pairwise_append.mp so).2.2 y my x (.head _)
 obtain⟨hx,hs⟩:=I.hx lt
 nofun
 refine u0 W hx hs (by omega) λh2 rg' W' em ⟨bl',nn'⟩ ex2=> ?_
 nofun
 refine hk _ _ ⟨k1.set rfl,λb o z=>ex2 b o (az (e1:=hl) z) (ex b o z),done++ [x],rg',by rw[ed,List.append_assoc];rfl,W',by rw[em];exact I.add lt,λr m=> ?_,by rw[List.length_append];exact Nat.le_trans bl' (Nat.succ_le_succ bl)⟩
 rcases nn' r m with m|m
 ·exact nn r m
 ·exact ex.none m
end
abbrev Th:A2:=Ak (Af (AA AQ) (Ab Au (Aa D4) (Ab Cv (Ab Cv (DP Go (Aa D4)) (Ag (.int 1))) (Ab BS (Aa DB) (DP Go (Aa D4))))))
  (Ak (Af (AA Ae) (Ab Au (Aa AQ) (Ag (.str Ae))))
  (Ak (Af (AA EV) (Ct IE (Cx DD (Aa D4)) (Cp (An (Ab Cw (Ab Au (Aa IE) (Ag (.str Ae))) (Aa Ae))) (An (Ab (Aw Ou) (Ab Au (Aa IE) (Ag (.str AU))) (Ab Au (Aa AQ) (Ag (.str AU)))))) (Ab Au (Aa IE) (Ag (.str AU)))))
  (Ak (Af (AA A7) (Ab Nk (Aa EV) (Ab (Aw Fg) (Ag (.int 0)) (Ab Cv (Ab Cv (DP Go (Aa EV)) (Ag (.int 1))) (Ab BS (Aa Bq) (Ag (.int 4)))))))
  (Ak (AS (Cp (An (Ab Cw (Ab BS (Ab CT (Aa Bq) (Ag (.int 4))) (Ag (.int 2))) (Ag (.int 1)))) (An (Ab Jh (Ab Au (Aa A7) (Ag (.int 0))) (Ab Au (Aa EV) (Ag (.int 0)))))) (Af (AA A7) (Ab BA (Dc (Ah (Ab Au (Aa EV) (Ag (.int 0))) As)) (Aa A7))) AN)
  (Ak (Af (AA De) (F4 IW As Az))
  (Ak (Ck (AA IZ) (Cx CY (Aa A7)) (Bx (Bh (Aa De) Ni (Ah (Aa IZ) As) Az)))
  (Ak (Af (AA BP) (Ab CM (Ab BS (Aa Bq) (Ag (.int 5))) (Ag (.int 9000))))
  (Ak (Bx (Bh (Aa AC) F7 As (Aq Db (Aa De) (Aq Bn (Aa BP) (Aq Av (Aa Av) (Aq Ae (Ab Au (Al (Aa AC) Cn) (Aa Ae)) Az))))))
  (Bx (BK Gw (Ah (Aa Ai) (Ah (Aa Ae) (Ah (Aa A7) (Ah (Aa BP) (Ah (Aa Av) As))))) Az))))))))))
abbrev Uh:A2:=Ak (Af (AA De) (F4 IW As Az))
  (Ak (Ck (AA IZ) (Cx CY (Aa A7)) (Bx (Bh (Aa De) Ni (Ah (Aa IZ) As) Az)))
  (Ak (Af (AA BP) (Ab CM (Ab BS (Aa Bq) (Ag (.int 5))) (Ag (.int 9000))))
  (Ak (Bx (Bh (Aa AC) F7 As (Aq Db (Aa De) (Aq Bn (Aa BP) (Aq Av (Aa Av) (Aq Ae (Ab Au (Al (Aa AC) Cn) (Aa Ae)) Az))))))
  (Bx (BK Gw (Ah (Aa Ai) (Ah (Aa Ae) (Ah (Aa A7) (Ah (Aa BP) (Ah (Aa Av) As))))) Az)))))
section
variable {n:Nat}{R D T:Nat->Nat}{S:List Nat}{h h':H}{X X':Bz}{Y Y':BD}{th:Nat->Bool}{ns:List (Nat×O)}{now num CD more:Int}{i:Nat}{e:AZ}{Q:DJ->AZ->H->Prop}
theorem DS.ext {T:Nat->Nat}{h h':H}(l:DS T h)(x:CW h h'):DS T h':=λa z=>by
 cases e:h a with
 |none=>exact absurd e (l a z)
 |some o=>rw[x a o e];exact λz=>nomatch z
def rK {k ac:Nat}{AK:List Int}{la:Int}(E:EW R now num e)(z:Co T R D X Y th ns num i h)(bk:k < 3)(es:e Ae=some (.int k))(ea:e A7=some (.ref ac))(em:e Bq=some (.int more))(hac:h ac=some (.lst (AK.map .int)))(tc:T ac=0)(A:Sp AK la)(q:Pj R D ns i e Q):Uh (Bp (n+4)) e Q h:=by
 have⟨E1,E2,_,_,_,E6,_⟩:=E
 refine aD ?_
 nofun
 refine nf λa d l h1 ha hl nal Ha Hl ext=> ?_
 generalize ee:Ad e De _=e1
 have k1:By Hv e e1:=by rw[<-ee];exact By.set (.refl _ _) rfl
 have er:e1 De=some (.ref a):=by rw[<-ee];rfl
 have ea1:e1 A7=some (.ref ac):=by rw[<-ee];exact ea
 have es1:e1 Ae=some (.int k):=by rw[<-ee];exact es
 have em1:e1 Bq=some (.int more):=by rw[<-ee];exact em
 clear ee
 iterate 2 eq_refl
 refine rL (la:=la) ea1 er A hac hl ⟨⟨d,Ha⟩,Hl,λJ m=>nomatch m⟩ ext λe2 h2 rg k2 W I ext2 nn=> ?_
 have z2:=z.new (.ext ext2)
 have E':=(E.go k1).go (k2.sub rfl)
 have⟨E1,E2,_,_,_,E6,_⟩:=E'
 have er:=(k2 De rfl).trans er
 have ea2:=(k2 A7 rfl).trans ea1
 have es2:=(k2 Ae rfl).trans es1
 have em2:=(k2 Bq rfl).trans em1
 have H5:=z2.r.rc
 have H20:=z2.r.GV
 nofun
 generalize Int.fmod more 5*9000=dl
 refine bP H20 (d6 bk) ?_
 nofun
 have so:=z.HL.so
 have fP:(X.Ar k).filter (λr=>ED r.num AK)=rg.flatMap λr:No=>(X.Ar k).filter (JV r.2):=by
  have :=I.f (X.Ar k) (so k bk)
  rw[List.flatMap_map] at this;exact this.symm
 have sl:List.Sublist ((X.Ar k).filter λr=>ED r.num AK) (X.Ar k):=List.filter_sublist
 have rows:∀ x∈(X.Ar k).filter (λr=>ED r.num AK),x∈Y.rows:=λx m=>by
  have :=sl.subset m
  rw[z.inv.Ar k bk] at this;exact bI this
 have sz:∀ x∈(X.Ar k).filter (λr=>ED r.num AK),0<=x.sz/\x.sz<=1144:=λx m=>z.inv.ok.sz x (rows x m)
 have lb:∀ k,k < 3->(X.Ar k).length<=60:=z.rb.bl
 obtain⟨r1,e1',ela⟩:∃ r1,rg.getLast? =some r1/\la=r1.2.2 - 1:=by
  have :=I.la
  rw[A.la,List.getLast?_map] at this
  cases e:rg.getLast? with
  |none=>rw[e] at this;cases this
  |some r1=>
   rw[e] at this
   have :some r1.2.2=some (la+1):=this
   exact⟨r1,rfl,by have :=Option.some.inj this;omega⟩
 obtain⟨r0,e0'⟩:∃ r0,rg.head? =some r0:=by
  cases rg with
  |nil=>cases e1'
  |cons r0 l=>exact⟨r0,rfl⟩
 refine vv (P:=(X.Ar k).filter λr=>ED r.num AK) (la:=la) z2.G z2.r z2.L bk W (z.L.fresh ha) (z.L.fresh hl) (λr m=>z.L.fresh (nn r m)) (λr m=>Int.le_of_lt (I.le r.2 (List.mem_map_of_mem m))) e0' e1' ela fP ⟨λx m=>sl.subset m,(sl.map Aj.num).nodup (bz (so k bk)),sz,Nat.le_trans sl.length_le (lb k bk),Int.le_trans z.A (by decide),Nat.le_trans z.told (by decide),bz (so k bk)⟩ so lb λh3 Z3 m3=> ?_
 have W3:=z2.w.mod z.G m3 rfl
 have hac3:=m3.get (ext2 _ _ hac) tc rfl
 nofun
 refine tQ z.G W3 (m3.alive z2.L) bk z.QY (by decide) hac3 tc A.la λh4 W4 m4=> ?_
 nofun
 have b:=z.bp
 have cc:=z.bt
 obtain⟨x1,x2,x3⟩:=Li.Oi (Y:=Y) (k:=k) (nums:=AK) (la:=la) (dl:=dl) (now:=now)
 exact q _ _ _ _ _ _ _ _ (By.set ((k1.trans (k2.sub rfl)).sub rfl) rfl) (E'.go (By.set (.refl _ _) rfl)) (z2.go (S:=ES++II) ((m3.mono rfl).trans (m4.mono rfl)) ⟨rfl,rfl⟩ (Z3.mod z.G m4 rfl) W4 (z.inv.Oi bk) (z.HL.Oi bk sl sz) x1 (by rw[x2];omega) (by rcases x3 with x3|x3 <;> rw[x3] <;> omega))
def oA {l:List Aj}{r:Aj}(so:l.Pairwise λa b=>a.num < b.num)(m:r∈l)(le:∀ x∈l,x.num<=r.num):(l.map Aj.num).getLast? =some r.num:=by
 rcases dB l with rfl|⟨p,a,rfl⟩
 ·cases m
 rw[List.map_append,List.getLast?_append]
 show some a.num=_
 rcases List.mem_append.mp m with m|m
 ·exact absurd ((List.pairwise_append.mp so).2.2 r m a (.head _)) (Int.not_lt.mpr (le a (List.mem_append_right _ (.head _))))
 ·rw[List.mem_singleton.mp m]
def uK {LF:List Aj}{Ms:Nat}(E:EW R now num e)(z:Co T R D X Y th ns num i h)(el:e D4=some (.ref Ms))(hl:h Ms=some (.lst (LF.map λr=> .ref r.d)))(sub:List.Sublist LF Y.rows)(ne:LF≠ [])(ep:e DB=some (.int CD))(em:e Bq=some (.int more))(q:Pj R D ns i e Q):Th (Bp (n+4)) e Q h:=by
 have⟨E1,E2,_,_,_,E6,_⟩:=E
 have ln:0 < LF.length:=List.length_pos_iff.mpr ne
 have hne:((LF.map λr:Aj=>V.ref r.d).length:Int)≠0:=by rw[List.length_map];omega
 refine aD ?_
 nofun
 rw[List.length_map]
 obtain⟨r,mr,ir⟩:=eQ (f:=λr:Aj=>V.ref r.d) (l:=LF) (i:=(LF.length:Int) - 1 - Int.fmod CD LF.length) (by have :=Int.fmod_lt_of_pos CD (Int.natCast_pos.mpr ln);omega) (by have :=Int.fmod_nonneg_of_pos CD (Int.natCast_pos.mpr ln);omega)
 refine bP hl ir ?_
 have Hr:=(z.w.ro r (sub.subset mr)).1
 nofun
 have l20:LF.length<=20:=Nat.le_trans sub.length_le z.inv.ok.len
 refine⟨by show(LF.map _).length<=_;rw[List.length_map];exact Nat.le_trans l20 (by decide),?_⟩
 refine br LF (λr=>V.ref r.d) (λo=>decide ((o.sp:Int)=r.sp) && decide (o.num<=r.num)) (λo=> .int o.num) rfl (au hl) aB (λo mo Q q=> ?_) (λo mo J Q q=> ?_) λsc hsc=> ?_
 ·have Ho:=(z.w.ro o (sub.subset mo)).1
  nofun
  refine bH (λc=> ?_) λc=> ?_ <;> rw[c] at q
  ·nofun
   exact q
  ·exact q
 ·have Ho:=(z.w.ro o (sub.subset mo)).1
  nofun
  exact q
 have so:(LF.filter λo=>decide ((o.sp:Int)=r.sp) && decide (o.num<=r.num)).Pairwise λa b=>a.num < b.num:=(z.inv.ok.so.sublist sub).filter _
 have la:=oA (r:=r) so (List.mem_filter.mpr ⟨mr,by rw[decide_eq_true rfl,decide_eq_true (Int.le_refl _)];rfl⟩) λx m=>of_decide_eq_true ((Bool.and_eq_true _ _).mp (List.mem_filter.mp m).2).2
 have so:=tT so
 have lb:((LF.filter λo=>decide ((o.sp:Int)=r.sp) && decide (o.num<=r.num)).map Aj.num).length<=20:=by rw[List.length_map];exact Nat.le_trans (List.length_filter_le _ _) l20
 rw[show(LF.filter λo=>decide ((o.sp:Int)=r.sp) && decide (o.num<=r.num)).map (λo=>V.int o.num)=((LF.filter λo=>decide ((o.sp:Int)=r.sp) && decide (o.num<=r.num)).map Aj.num).map V.int from(List.map_map ..).symm]
 generalize (LF.filter λo=>decide ((o.sp:Int)=r.sp) && decide (o.num<=r.num)).map Aj.num=SN at so la lb ⊢
 have z1:=z.new (.new hsc (o:= .lst (SN.map V.int)))
 have hs1:=aa h sc (some (O.lst (SN.map V.int)))
 have ts:=z.L.fresh hsc
 generalize Ad h sc (some (.lst (SN.map V.int)))=h1 at z1 hs1 ⊢
 generalize ee:Ad _ EV _=e1
 have k1:By Hv e e1:=by rw[<-ee];exact By.set (By.set (By.set (.refl _ _) rfl) rfl) rfl
 have es:e1 EV=some (.ref sc):=by rw[<-ee];rfl
 have esp:e1 Ae=some (.int r.sp):=by rw[<-ee];rfl
 have em1:e1 Bq=some (.int more):=by rw[<-ee];exact em
 clear ee
 nofun
 rw[List.length_map]
 have kb:0<=(if 0 < (SN.length:Int) - 1 - Int.fmod more 4 then(SN.length:Int) - 1 - Int.fmod more 4 else 0)/\(if 0 < (SN.length:Int) - 1 - Int.fmod more 4 then(SN.length:Int) - 1 - Int.fmod more 4 else 0).toNat < SN.length:=by
  have :=Int.fmod_nonneg_of_pos more (show(0:Int) < 4 by decide)
  have Mp:0 < SN.length:=by
   cases SN with
   |nil=>cases la
   |cons a l=>exact Nat.zero_lt_succ _
  by_cases c:0 < (SN.length:Int) - 1 - Int.fmod more 4
  ·rw[if_pos c];omega
  ·rw[if_neg c];exact⟨Int.le_refl _,Mp⟩
 generalize (if 0 < (SN.length:Int) - 1 - Int.fmod more 4 then(SN.length:Int) - 1 - Int.fmod more 4 else 0)=kk at kb ⊢
 refine pT hs1 kb.1 λac hac=> ?_
 rw[show GH (SN.map V.int) kk none=(SN.drop kk.toNat).map V.int from List.map_drop.symm]
 have sl:List.Sublist (SN.drop kk.toNat) SN:=List.drop_sublist _ _
 have la2:(SN.drop kk.toNat).getLast? =some r.num:=by rw[List.getLast?_drop,if_neg (Nat.not_le.mpr kb.2)];exact la
 generalize SN.drop kk.toNat=AK at sl la2 ⊢
 have z2:=z1.new (.new hac (o:= .lst (AK.map V.int)))
 have ha2:=aa h1 ac (some (O.lst (AK.map V.int)))
 have hs2:=(Mod.new (T:=T) (S:= []) (o:= .lst (AK.map V.int)) hac).get hs1 ts rfl
 have ta:=z1.L.fresh hac
 generalize Ad h1 ac (some (.lst (AK.map V.int)))=h2 at z2 hs2 ha2 ⊢
 cases SN with
 |nil=>cases la
 |cons s0 t=>
 cases AK with
 |nil=>cases la2
 |cons a l=>
 have k2:By Hv e (Ad e1 A7 (some (.ref ac))):=By.set k1 rfl
 refine aD (pg (T:=T) (e:=Ad e1 A7 (some (.ref ac))) em1 rfl es ha2 hs2 so sl la2 lb λe2 h3 c AK2 k3 m2 ec hc oc A=>a8 ?_)
 have tc:T c=0:=oc.elim (λz=>by rw[z];exact ta) z2.L.fresh
 exact rK ((E.go k2).go (k3.sub rfl)) (z2.new m2) (z.inv.ok.sp r (sub.subset mr)) ((k3 Ae rfl).trans esp) ec ((k3 Bq rfl).trans em1) hc tc A λe' h' T' X' Y' th' now' num' k4=>q e' h' T' X' Y' th' now' num' (((k2.trans (k3.sub rfl)).sub rfl).trans k4)
end
section
variable {n:Nat}{R D T:Nat->Nat}{S:List Nat}{h h':H}{X X':Bz}{Y Y':BD}{th:Nat->Bool}{ns:List (Nat×O)}{now num CD more:Int}{i:Nat}{e:AZ}{Q:DJ->AZ->H->Prop}
def dW {T:Nat->Nat}{a b t j:Nat}(ta:T a=0)(e:T b=j)(n:Nat.beq j 0=false):Ad T a t b=j:=by
 rw[ab _ _ λz:b=a=>by rw[z,ta] at e;rw[<-e] at n;cases n];exact e
theorem Em.tag {r:Aj}{a t:Nat}(ta:T a=0)(P:Em T r h):Em (Ad T a t) r h:=⟨⟨P.1.1,dW ta P.1.2 rfl⟩,P.2.1,dW ta P.2.2 rfl⟩
theorem A9.tag {a t:Nat}(G:A9 T R)(ta:T a=0):A9 (Ad T a t) R:=λj m=>dW ta (G j m) (by
 cases j with
 |zero=>cases m
 |succ j=>rfl)
theorem DS.tag {a t:Nat}(L:DS T h)(ha:h a≠none):DS (Ad T a t) h:=λb z=>by
 by_cases e:b=a
 ·rw[e];exact ha
 ·rw[ab _ _ e] at z;exact L b z
theorem Bb.tag {a t:Nat}(ta:T a=0)(Z:Bb T R D X h):Bb (Ad T a t) R D X h:=⟨Z.rc,Z.cc,Z.Ea,Z.sp,Z.dd,Z.GV,Z.told,Z.pr,λk bk r m=>(Z.pk k bk r m).tag ta⟩
theorem CQ.tag {a t:Nat}(ta:T a=0)(W:CQ T R Y h):CQ (Ad T a t) R Y h:=⟨W.w,W.du,W.tp,W.ls,W.rw,λr m=>⟨(W.ro r m).1,dW ta (W.ro r m).2 rfl⟩⟩
theorem Co.tag {a t:Nat}(z:Co T R D X Y th ns num i h)(ta:T a=0)(ha:h a≠none)(hn:∀ p∈ns,p.1≠a):Co (Ad T a t) R D X Y th ns num i h:=
 ⟨z.G.tag ta,z.L.tag ha,z.r.tag ta,z.w.tag ta,z.inv,z.HL,z.MX,z.t2,λp mp=>⟨(z.ns p mp).1,(ab _ _ (hn p mp)).trans (z.ns p mp).2⟩,z.nn,z.bl,z.bp,z.bt⟩
theorem Bb.re {k dd:Nat}{r:Aj}(G:A9 T R)(bk:k < 3)(Z:Bb T R D (Ip X k r) h):Bb T R D (Ip X k { r with d:=dd }) h:=by
 have C:=Z.dd k bk
 have P:=Z.pk k bk
 have es:(Ip X k r).Ar k=X.Ar k++ [r]:=aa ..
 rw[es] at C P
 have C2:K2 R k (X.Ar k++ [{ r with d:=dd }]) h:=by
  obtain⟨ep,H⟩:=C
  refine .mk ep ?_
  rw[List.map_append] at H ⊢
  exact H
 have :=Z.Tl G bk (.refl _) C2 λx m=>by
  rcases List.mem_append.mp m with m|m
  ·exact P x (List.mem_append_left _ m)
  ·rw[List.mem_singleton.mp m]
   exact P r (List.mem_append_right _ (.head _))
 rw[show Ad (Ip X k r).Ar k (X.Ar k++ [{ r with d:=dd }])=Ad X.Ar k (X.Ar k++ [{ r with d:=dd }]) from cn ..] at this
 exact this
end
abbrev QO:A2:=Ak (Bx (JN (Ab Au (Aa Ai) (Ag (.str CR))) (MO (Aq Ae (Aa Ae) (Aq AU (Aa AU) (Aq GD (Aa Av) (Aq FQ (Aa FQ) (Aq Dl (Aa Dl) (Aq Dd (Aa Dd) (Aq Fh (Ab Cw (Aa Ej) (Ag (.int 2))) (Aq CU (Aa CU) (Aq Er (Ag (.str AP)) Az))))))))))))
  (Ak (AS (Cp (An (Aa Dl)) (Fk (An (Ab (Aw DZ) (Aa Ae) (Ag (.int 2)))) (An (Ab Au (Aa Ai) (Ag (.str BU)))))) (Af (DY (Aa Ai) (Ag (.str FN))) (Aa Av)) AN)
  (Af (AA AU) (Ab BA (Aa AU) (Gm (An (Ab Cw (Ab BS (Ab CT (Aa Bq) (Ag (.int 5))) (Ag (.int 4))) (Ag (.int 3)))) (Ag (.int 2)) (Ag (.int 1))))))
abbrev QN:A2:=Ak (Af (Js [Dl,Dd,FQ]) (E0 (Ah (Ab (Aw DZ) (Aa Ej) (Ag (.int 3))) (Ah (Ab (Aw DZ) (Aa Ej) (Ag (.int 4))) (Ah (Ab BA (Ag (.int 40)) (Ab CM (Ag (.int 16)) (Ab BS (Aa Bq) (Ag (.int 70))))) As)))))
  (Ak (Af (AA Am) (F4 FL (Ah (Ag (.int 3)) (Ah (Aa Dd) (Ah (Aa Dl) (Ah (Ab Cw (Aa Ej) (Ag (.int 2))) (Ah (Aa AU) (Ah (Ag (.int 5)) (Ah (Aa Av) (Ah (Aa FQ) As)))))))) Az))
  (Ak (Af (AA CU) (Ab BA (Ag (.int 1)) (Ab BS (Aa AU) (Ag (.int 2)))))
  (Ak (Af (AX (Aa Am) BN) (Ct Oy (Jq (Aa CU)) L7 (E0 (Ah (Ab BA (Ab CM (Ag (.int 10)) (Aa AU)) (Aa Oy)) (Ah (E0 (Ah (Aa Ae) (Ah (Aa Oy) As))) As)))))
  (Ak (Bx (Bh (Aa AC) Dm As (Aq Am (Aa Am) (Aq Ae (Ab Au (Al (Aa AC) Cn) (Aa Ae)) Az))))
  QO))))
section
variable {n:Nat}{R D T:Nat->Nat}{S:List Nat}{h h':H}{X X':Bz}{Y Y':BD}{th:Nat->Bool}{ns:List (Nat×O)}{now num CD more:Int}{i:Nat}{e:AZ}{Q:DJ->AZ->H->Prop}
def ph {k:Nat}{r:Aj}{form:Int}{h0:H}(E:EW R now num e)(G:A9 T R)(L:DS T h)(Z:Bb T R D (Ip X k r) h)(W:CQ T R Y h)(Ht:h (R 21)=some (.lst ([0,1,2].map λk=> .bool (th k))))(hns:∀ p∈ns,h p.1=some p.2/\T p.1=0)(z:Co T R D X Y th ns num i h0)(bk:k < 3)(bi:i < 20)
  (e1:e Ae=some (.int k))(e2:e FQ=some (.int r.sz))(e3:e Dl=some (.bool r.asks))(e4:e Dd=some (.bool r.flight))(e5:e Ej=some (.int form))(e6:decide (form=2)=r.Cj)(e7:e CU=some (.int (1+Int.fmod num 2)))(e8:e Bq=some (.int more))(r1:r.sp=k)(r2:r.num=num)(r3:r.tm=now)(r4:0<=r.sz/\r.sz<=1144)(r5:r.asks=true->r.flight=true)
  (q:Pj R D ns i e Q):QO (Bp (n+4)) e Q h:=by
 have⟨E1,E2,_,_,_,E6,E7⟩:=E
 have Hw:=W.w
 have Hr:=W.rw
 refine aD ?_
 nofun
 intro dd hdd
 subst r1 r2 r3
 rw[e6]
 have td:=L.fresh hdd
 refine(?_:LJ (.ref (R 18)) (.ref dd) _ (Ad h dd (some (.dct (DQ (JT { r with d:=dd } AP))))))
 have md:Mod T [] h (Ad h dd (some (.dct (DQ (JT { r with d:=dd } AP))))):= .new hdd
 have G2:=G.tag (t:=19) td
 have L1:=(md.alive L).tag (a:=dd) (t:=19) (by rw[aa];exact λz=>nomatch z)
 have Z1:=((Z.mod G md rfl).tag (t:=19) td).re (dd:=dd) G2 bk
 have W1:=(W.mod G md rfl).tag (t:=19) td
 have Hd:=aa h dd (some (O.dct (DQ (JT { r with d:=dd } AP))))
 have Ht1:=md.get Ht (G 21 rfl) rfl
 have ns1:∀ p∈ns,Ad h dd (some (.dct (DQ (JT { r with d:=dd } AP)))) p.1=some p.2/\Ad T dd 19 p.1=0:=λp mp=>⟨md.get (hns p mp).1 (hns p mp).2 rfl,(ab _ _ (az (e1:=hdd) (hns p mp).1)).trans (hns p mp).2⟩
 have nd:∀ x∈Y.rows,x.d≠dd:=λx m=>az (e1:=hdd) (W.ro x m).1
 have tdd:Ad T dd 19 dd=19:=aa ..
 generalize Ad h dd (some (.dct (DQ (JT { r with d:=dd } AP))))=h1 at L1 Z1 W1 Hd Ht1 ns1 ⊢
 clear Z W L Ht hns Hw Hr md
 generalize Ad T dd 19=T2 at *
 have Hr1:=W1.rw
 have bl:=z.bl
 refine fH Hr1 (by rw[List.length_map];exact Nat.lt_of_le_of_lt (show Y.rows.length<=20 by omega) (by decide)) ?_
 have me:=Mod.at (T:=T2) (R:=R) (S:= [18]) (k:=18) (h:=h1) G2 rfl rfl (.lst ((Y.rows.map λr=> .ref r.d)++ [.ref dd]))
 have W2:CQ T2 R { Y with rows:=Y.rows++ [{ r with d:=dd }],st:=Ad Y.st dd AP } (Ad h1 (R 18) (some (.lst ((Y.rows.map λr=> .ref r.d)++ [.ref dd])))):=by
  refine⟨me.get W1.w (G2 14 rfl) rfl,me.get W1.du (G2 15 rfl) rfl,me.get W1.tp (G2 16 rfl) rfl,me.get W1.ls (G2 17 rfl) rfl,by rw[aa,List.map_append];rfl,λx m=> ?_⟩
  rcases List.mem_append.mp m with m|m
  ·have :=W1.ro x m
   refine⟨me.get ?_ this.2 rfl,this.2⟩
   show h1 x.d=some (.dct (DQ (JT x (Ad Y.st dd AP x.d))))
   rw[ab _ _ (nd x m)];exact this.1
  ·rw[List.mem_singleton.mp m]
   refine⟨me.get ?_ tdd rfl,tdd⟩
   show h1 dd=some (.dct (DQ (JT { r with d:=dd } (Ad Y.st dd AP dd))))
   rw[aa];exact Hd
 have Z2:=Z1.mod G2 me rfl
 have Ht2:=me.get Ht1 (G2 21 rfl) rfl
 have L2:=me.alive L1
 have ns2:∀ p∈ns,Ad h1 (R 18) (some (.lst ((Y.rows.map λr=> .ref r.d)++ [.ref dd]))) p.1=some p.2/\T2 p.1=0:=λp mp=>⟨me.get (ns1 p mp).1 (ns1 p mp).2 rfl,(ns1 p mp).2⟩
 generalize Ad h1 (R 18) (some (.lst ((Y.rows.map λr=> .ref r.d)++ [.ref dd])))=h2 at W2 Z2 Ht2 L2 ns2 ⊢
 clear me W1 Z1 Hd Ht1 ns1 L1 Hr1
 have Hw:=W2.w
 have fin:∀ h3,Mod T2 [14] h2 h3->CQ T2 R (LY Y r.sp { r with d:=dd }) h3->Af (AA AU) (Ab BA (Aa AU) (Gm (An (Ab Cw (Ab BS (Ab CT (Aa Bq) (Ag (.int 5))) (Ag (.int 4))) (Ag (.int 3)))) (Ag (.int 2)) (Ag (.int 1)))) (Bp (n+4)) e Q h3:=λh3 m3 W3=>by
  nofun
  refine sL (x:= .int 2) (y:= .int 1) (λQ q=>bQ q) (λQ q=>bQ q) ?_
  obtain⟨u,eu,pu⟩:∃ u:Int,(bif decide (Int.fmod (Int.fdiv more 5) 4=3) then V.int 2 else V.int 1)=V.int u/\0 < u:=by
   cases decide (Int.fmod (Int.fdiv more 5) 4=3)
   ·exact⟨1,rfl,by decide⟩
   ·exact⟨2,rfl,by decide⟩
  rw[eu]
  nofun
  have b:=z.bp
  have cc:=z.bt
  have nn:∀ x∈X.Ar r.sp,x.num < r.num:=λx m=>z.nn x (bI (k:=r.sp) (by rw[<-z.inv.Ar _ bk];exact m))
  refine q _ h3 T2 (Ip X r.sp { r with d:=dd }) (LY Y r.sp { r with d:=dd }) th r.tm (r.num+u) (By.set (.refl _ _) rfl) ⟨E1,E2,E.told,E.M9,E.thrown,E6,rfl⟩ ⟨G2,m3.alive L2,Z2.mod G2 m3 rfl,W3,z.inv.V6 bk rfl nd z.nn (by omega) r4 r5,?_,m3.get Ht2 (G2 21 rfl) rfl,z.t2,λp mp=>⟨m3.get (ns2 p mp).1 (ns2 p mp).2 rfl,(ns2 p mp).2⟩,λx m=> ?_,?_,by show Y.pr<=_;omega,by show 0<=Y.tries/\Y.tries<=_;omega⟩
  ·show DO _ (Y.rows++ [{ r with d:=dd }]).length
   rw[List.length_append];exact z.HL.Ar bk nn
  ·rcases List.mem_append.mp m with m|m
   ·have :=z.nn x m;omega
   ·rw[List.mem_singleton.mp m];show r.num < r.num+u;omega
  ·show(Y.rows++ [{ r with d:=dd }]).length<=_
   rw[List.length_append];exact Nat.succ_le_succ bl
 have skip:(r.asks && (decide ((r.sp:Int) < 2)||Y.Bc))=false->CQ T2 R (LY Y r.sp { r with d:=dd }) h2:=λc=>by
  unfold LY
  dsimp only
  rw[c];exact W2
 have go:(r.asks && (decide ((r.sp:Int) < 2)||Y.Bc))=true->Af (DY (Aa Ai) (Ag (.str FN))) (Aa Av) (Bp (n+4)) e (EG (Af (AA AU) (Ab BA (Aa AU) (Gm (An (Ab Cw (Ab BS (Ab CT (Aa Bq) (Ag (.int 5))) (Ag (.int 4))) (Ag (.int 3)))) (Ag (.int 2)) (Ag (.int 1))))) (Bp (n+4)) Q) h2:=λc=>by
  nofun
  refine cg (X':={ Y with rows:=Y.rows++ [{ r with d:=dd }],st:=Ad Y.st dd AP,last:=r.tm }) G2 W2 rfl rfl ⟨rfl,rfl,rfl,rfl,rfl⟩ λh3 W3 m3=>a8 (fin h3 m3 ?_)
  unfold LY
  dsimp only
  rw[c];exact W3
 nofun
 refine bH (λc1=> ?_) λc1=> ?_
 rotate_left
 ·exact dY (bC (a8 (fin h2 (.refl _) (skip (by rw[c1];rfl)))))
 nofun
 refine bH (λc2=> ?_) λc2=> ?_
 ·exact wW (go (by rw[c1,c2];rfl))
 nofun
 refine bH (λc3=> ?_) λc3=> ?_
 ·exact go (by rw[c1,show Y.Bc=true from c3,Bool.or_true];rfl)
 ·exact bC (a8 (fin h2 (.refl _) (skip (by rw[c1,c2,show Y.Bc=false from c3];rfl))))
def j1 {k:Nat}{form:Int}(E:EW R now num e)(z:Co T R D X Y th ns num i h)(bk:k < 3)(bi:i < 20)(e1:e Ae=some (.int k))(e5:e Ej=some (.int form))(e8:e Bq=some (.int more))(q:Pj R D ns i e Q):QN (Bp (n+4)) e Q h:=by
 have⟨E1,E2,_,_,_,E6,E7⟩:=E
 refine aD ?_
 nofun
 have sb:0<=40+16*Int.fmod more 70/\40+16*Int.fmod more 70<=1144:=by
  have :=Int.fmod_nonneg_of_pos more (show(0:Int) < 70 by decide)
  have :=Int.fmod_lt_of_pos more (show(0:Int) < 70 by decide)
  omega
 generalize 40+16*Int.fmod more 70=size at sb ⊢
 refine qU λa d s h1 ha Ha ext=> ?_
 generalize ee:Ad _ Am _=e2
 have k1:By Hv e e2:=by rw[<-ee];exact By.set (By.set (By.set (By.set (.refl _ _) rfl) rfl) rfl) rfl
 have f1:e2 Ae=some (.int k):=by rw[<-ee];exact e1
 have f2:e2 FQ=some (.int size):=by rw[<-ee];rfl
 have f3:e2 Dl=some (.bool (decide (form < 3))):=by rw[<-ee];rfl
 have f4:e2 Dd=some (.bool (decide (form < 4))):=by rw[<-ee];rfl
 have f5:e2 Ej=some (.int form):=by rw[<-ee];exact e5
 have f8:e2 Bq=some (.int more):=by rw[<-ee];exact e8
 have f9:e2 Am=some (.ref a):=by rw[<-ee];rfl
 clear ee
 have Ew:=E.go k1
 have⟨E1,E2,_,_,_,E6,E7⟩:=Ew
 nofun
 refine gr ⟨?_,?_⟩ ?_
 ·have :=Int.fmod_nonneg_of_pos num (show(0:Int) < 2 by decide);omega
 ·have :=Int.fmod_lt_of_pos num (show(0:Int) < 2 by decide);omega
 have lr:=fk num
 rw[show(Fn (Hn 0 (1+Int.fmod num 2) 1)).xs=(Kw (1+Int.fmod num 2)).map .int from nA _]
 refine⟨by rw[List.length_map];exact Nat.le_trans lr (by decide),?_⟩
 refine br (Kw (1+Int.fmod num 2)) V.int (λJ=>true) (λj=> .tup [.int (10*num+j),.tup [.int k,.int j]]) rfl trivial aB (λj m Q q=>q) (λj m J Q q=> ?_) λc hc=> ?_
 ·nofun
  exact q
 rw[List.filter_eq_self.mpr λJ J=>rfl]
 have nac:a≠c:=az (e1:=hc) Ha
 have ext2:CW h (Ad h1 c (some (.lst ((Kw (1+Int.fmod num 2)).map λj=>V.tup [.int (10*num+j),.tup [.int k,.int j]])))):=ext.new (ext.none hc)
 have Ha2:=(ab h1 (some (.lst ((Kw (1+Int.fmod num 2)).map λj=>V.tup [.int (10*num+j),.tup [.int k,.int j]]))) nac).trans Ha
 have Hc2:=aa h1 c (some (O.lst ((Kw (1+Int.fmod num 2)).map λj=>V.tup [.int (10*num+j),.tup [.int k,.int j]])))
 have hc0:=ext.none hc
 generalize Ad h1 c (some (.lst ((Kw (1+Int.fmod num 2)).map λj=>V.tup [.int (10*num+j),.tup [.int k,.int j]])))=h2 at ext2 Ha2 Hc2 ⊢
 generalize eh:Ad e2 CU _=e3
 have k2:By [CU] e2 e3:=by rw[<-eh];exact By.set (.refl _ _) rfl
 have f7:e3 CU=some (.int (1+Int.fmod num 2)):=by rw[<-eh];rfl
 have f9':=(k2 Am rfl).trans f9
 clear eh
 eq_refl
 refine aE Ha2 rfl ?_
 obtain⟨r,er⟩:∃ r:Aj,r=⟨k,num,now,size,decide (form < 3),decide (form < 4),decide (form=2),0,a,d,c⟩:=⟨_,rfl⟩
 refine(?_:EG _ _ _ .next e3 (Ad h2 a (some (.ins FL d (Lb ⟨k,num,now,size,decide (form < 3),decide (form < 4),decide (form=2),0,a,d,c⟩)))))
 rw[<-er]
 have ext3:CW h (Ad h2 a (some (.ins FL d (Lb r)))):=ext2.new ha
 have P1:=aa h2 a (some (O.ins FL d (Lb r)))
 have P2:=(ab h2 (some (.ins FL d (Lb r))) nac.symm).trans Hc2
 generalize Ad h2 a (some (.ins FL d (Lb r)))=h3 at ext3 P1 P2 ⊢
 have z3:=z.new (.ext ext3)
 have ta:=z.L.fresh ha
 have tc:=z.L.fresh hc0
 have z4:=(z3.tag (a:=a) (t:=22) ta (by rw[P1];exact λz=>nomatch z) λp mp=>az (e1:=ha) (z.ns p mp).1).tag (a:=c) (t:=22) ((ab _ _ nac.symm).trans tc) (by rw[P2];exact λz=>nomatch z) λp mp=>az (e1:=hc0) (z.ns p mp).1
 have P:Em (Ad (Ad T a 22) c 22) r h3:=by
  subst er
  exact⟨⟨P1,(ab _ _ nac).trans (aa ..)⟩,P2,aa ..⟩
 generalize Ad (Ad T a 22) c 22=T2 at z4 P
 have E':=Ew.go (k2.sub rfl)
 have⟨E1,E2,_,_,_,E6,E7⟩:=E'
 have H5:=z4.r.rc
 have H20:=z4.r.GV
 have f1':=(k2 Ae rfl).trans f1
 nofun
 refine bP H20 (d6 bk) ?_
 nofun
 have er1:a=r.p:=by rw[er]
 rw[er1]
 refine tP (r:=r) z4.G z4.r bk P (λx m=> ?_) ?_ λh5 Z5 m5=> ?_
 ·have :=z.nn x (bI (k:=k) (by rw[<-z.inv.Ar _ bk];exact m))
  rw[er];exact Int.ne_of_lt this
 ·exact Nat.lt_of_le_of_lt (z.rb.bl k bk) (by decide)
 refine⟨rfl,a8 ?_⟩
 subst er
 exact ph (k:=k) (form:=form) (h0:=h3) E' z4.G (m5.alive z4.L) Z5 (z4.w.mod z4.G m5 rfl) (m5.get z4.MX (z4.G 21 rfl) rfl) (λp mp=>⟨m5.get (z4.ns p mp).1 (z4.ns p mp).2 rfl,(z4.ns p mp).2⟩) z4 bk bi f1' ((k2 FQ rfl).trans f2) ((k2 Dl rfl).trans f3) ((k2 Dd rfl).trans f4) ((k2 Ej rfl).trans f5) rfl f7 ((k2 Bq rfl).trans f8) rfl rfl rfl sb (λz=>by
  have :=of_decide_eq_true z
  exact decide_eq_true (by omega)) λe' h' T' X' Y' th' now' num' k4=>q e' h' T' X' Y' th' now' num' (((k1.trans (k2.sub rfl)).sub rfl).trans k4)
end
abbrev R0:A2:=Ak (Af (JI [Ae,Ej]) (E0 (Ah (Ab BS (Aa DB) (Ag (.int 3))) (Ah (Ab BS (Aa Bq) (Ag (.int 5))) As))))
  (Ak (AS (An (Ab Au (Aa BY) (Aa Ae))) (Af (AA Ae) (Ag (.int 2))) AN) QN)
abbrev Ww:A2:=AS (Cp (An (Ab Cw (Aa DU) (Ag (.int 7)))) (An (Ab Cw (Ab BS (Aa Bq) (Ag (.int 4))) (Ag (.int 3))))) RY AN
abbrev Wv:A2:=AS (Cp (An (Ab Cw (Aa DU) (Ag (.int 7)))) (An (Ab Cw (Ab BS (Aa Bq) (Ag (.int 4))) (Ag (.int 2))))) QR Ww
abbrev Wu:A2:=AS (Cp (An (Ab Cw (Aa DU) (Ag (.int 7)))) (An (Ab Cw (Ab BS (Aa Bq) (Ag (.int 4))) (Ag (.int 1))))) RZ Wv
abbrev Wt:A2:=AS (Cp (An (Ab Cw (Aa DU) (Ag (.int 7)))) (Cp (An (Ab Cw (Ab BS (Aa Bq) (Ag (.int 4))) (Ag (.int 0)))) (EF (An (Ab Au (Aa BY) (Ab BS (Aa DB) (Ag (.int 2)))))))) QP Wu
abbrev Ws:A2:=AS (An (Ab Cw (Aa DU) (Ag (.int 6)))) QQ Wt
abbrev Rd:A2:=AS (An (Ab (Aw DZ) (Aa DU) (Ag (.int 4)))) R0 (AS (Cp (An (Ab (Aw DZ) (Aa DU) (Ag (.int 6)))) (An (Aa D4))) Th Ws)
abbrev NU:A2:=AS (EF (An (BK Ge (Ah (Aa AC) (Ah (Aa Ai) (Ah (Aa DN) (Ah (Aa Bu) As)))) Az))) (BZ (Ag (.bool false))) AN
abbrev MH:A2:=Ak (Af (Js [DU,Bq]) (E0 (Ah (Ab BS (Ab Au (Aa Bk) (Aa HQ)) (Ag (.int 8))) (Ah (Ab CT (Ab Au (Aa Bk) (Aa HQ)) (Ag (.int 8))) As))))
  (Ak (Af (AA GJ) (Gm (An (Ab (Aw DZ) (Ab BA (Aa HQ) (Ag (.int 1))) (DP Go (Aa Bk)))) (Ab Au (Aa Bk) (Ab BA (Aa HQ) (Ag (.int 1)))) (Ag (.int 0))))
  (Ak (Af (Js [Av,DB]) (E0 (Ah (Ab BA (Aa Av) (Ab Au (BK Gx As Az) (Ab BS (Aa GJ) (Ag (.int 7))))) (Ah (Ab CT (Aa GJ) (Ag (.int 7))) As))))
  (Ak (Af (AA D4) (Ct AQ (Cx DD (Ab Au (Aa Ai) (Ag (.str CR)))) (EF (An (Ab Au (Aa BY) (Ab Au (Aa AQ) (Ag (.str Ae)))))) (Aa AQ)))
  (Ak Rd NU))))
section
variable {n:Nat}{R D T:Nat->Nat}{S:List Nat}{h h':H}{X X':Bz}{Y Y':BD}{th:Nat->Bool}{ns:List (Nat×O)}{now num CD more kind:Int}{i:Nat}{e:AZ}{Q:DJ->AZ->H->Prop}
def rX (E:EW R now num e)(z:Co T R D X Y th ns num i h)(bi:i < 20)(ep:e DB=some (.int CD))(em:e Bq=some (.int more))(q:Pj R D ns i e Q):R0 (Bp (n+4)) e Q h:=by
 have⟨E1,E2,_,_,E5,E6,E7⟩:=E
 obtain⟨k,ek,bk⟩:=gj CD (n:=3) (by decide)
 have Ht:=z.MX
 refine aD ?_
 nofun
 rw[show Int.fmod CD 3=k from ek]
 generalize ee:Ad _ Ej _=e1
 have k1:By Hv e e1:=by rw[<-ee];exact By.set (By.set (.refl _ _) rfl) rfl
 have f1:e1 Ae=some (.int k):=by rw[<-ee];rfl
 have f5:e1 Ej=some (.int (Int.fmod more 5)):=by rw[<-ee];rfl
 have f8:e1 Bq=some (.int more):=by rw[<-ee];exact em
 clear ee
 have Ew:=E.go k1
 have⟨E1,E2,_,_,E5,E6,E7⟩:=Ew
 have q2:∀ e2,By [Ae] e1 e2->Pj R D ns i e2 Q:=λe2 k2 e' h' T' X' Y' th' now' num' k4=>q e' h' T' X' Y' th' now' num' (((k1.trans (k2.sub rfl)).sub rfl).trans k4)
 nofun
 refine bP Ht (d6 bk) ?_
 nofun
 refine bH (λc=> ?_) λc=> ?_
 ·refine gS (bQ (a8 ?_))
  have k2:By [Ae] e1 (Ad e1 Ae (some (.int 2))):=By.set (.refl _ _) rfl
  exact j1 (k:=2) (Ew.go (k2.sub rfl)) z (by decide) bi rfl ((k2 Ej rfl).trans f5) ((k2 Bq rfl).trans f8) (q2 _ k2)
 ·exact bC (a8 (j1 Ew z bk bi f1 f5 f8 (q2 _ (.refl _ _))))
def rO {LF:List Aj}{Ms:Nat}(E:EW R now num e)(z:Co T R D X Y th ns num i h)(bi:i < 20)(ek:e DU=some (.int kind))(ep:e DB=some (.int CD))(em:e Bq=some (.int more))(el:e D4=some (.ref Ms))(hl:h Ms=some (.lst (LF.map λr=> .ref r.d)))(sub:List.Sublist LF Y.rows)(q:Pj R D ns i e Q):Rd (Bp (n+4)) e Q h:=by
 have⟨E1,E2,_,_,E5,E6,E7⟩:=E
 have bi':i<=20:=Nat.le_of_lt bi
 have Ht:=z.MX
 have nil:AN (Bp (n+4)) e Q h:=q _ _ _ _ _ _ _ _ (.refl _ _) E z.up
 obtain⟨k,hk,bk⟩:=gj CD (n:=2) (by decide)
 have bk3:k < 3:=Nat.lt_trans bk (by decide)
 nofun
 refine a9 (λJ=>rX E z bi ep em q) λJ=> ?_
 have r7:Ww (Bp (n+4)) e Q h:=by
  nofun
  refine cM (λJ=> ?_) λJ=>dY nil
  nofun
  exact cM (λJ=>rM E z bi' ep q) λJ=>nil
 have r6:Wv (Bp (n+4)) e Q h:=by
  nofun
  refine cM (λJ=> ?_) λJ=>dY r7
  nofun
  exact cM (λJ=>pq E z q) λJ=>r7
 have r5:Wu (Bp (n+4)) e Q h:=by
  nofun
  refine cM (λJ=> ?_) λJ=>dY r6
  nofun
  exact cM (λJ=>rN E z q) λJ=>r6
 have r4:Wt (Bp (n+4)) e Q h:=by
  nofun
  refine cM (λJ=> ?_) λJ=>dY r5
  nofun
  refine cM (λJ=> ?_) λJ=>dY r5
  nofun
  rw[show Int.fmod CD 2=k from hk]
  refine bP Ht (d6 bk3) ?_
  nofun
  exact dJ (bH (λJ=>r5) λJ=>pi E z ep q)
 have r3:Ws (Bp (n+4)) e Q h:=by
  nofun
  exact cM (λJ=>pj E z bi' q) λJ=>r4
 nofun
 refine a9 (λJ=> ?_) λJ=>dY r3
 nofun
 cases LF with
 |nil=>exact kY r3
 |cons a l=>exact nY (uK E z el hl sub (λz=>nomatch z) ep em q)
def rY {cs:Nat}{xs:List Int}{at_:Int}(E:EW R now num e)(z:Co T R D X Y th [(cs,.lst (xs.map .int))] num i h)(bi:i < 20)(ec:e Bk=some (.ref cs))(ea:e HQ=some (.int at_))(b:0<=at_/\at_ < xs.length)
  (q:∀ e' h' T' X' Y' th' now' num',By (Av::AU::Hv) e e'->EW R now' num' e'->Co T' R D X' Y' th' [(cs,.lst (xs.map .int))] num' (i+1) h'->Q .next e' h'):MH (Bp (n+4)) e Q h:=by
 have⟨E1,E2,_,_,E5,E6,E7⟩:=E
 have Hc:=(z.ns _ (.head _)).1
 obtain⟨v,-,iv⟩:=eQ (f:=V.int) b.1 b.2
 have Hw:=z.w.w
 refine aD ?_
 nofun
 have main:∀ w:Int,Ak (Af (Js [Av,DB]) (E0 (Ah (Ab BA (Aa Av) (Ab Au (BK Gx As Az) (Ab BS (Aa GJ) (Ag (.int 7))))) (Ah (Ab CT (Aa GJ) (Ag (.int 7))) As))))
   (Ak (Af (AA D4) (Ct AQ (Cx DD (Ab Au (Aa Ai) (Ag (.str CR)))) (EF (An (Ab Au (Aa BY) (Ab Au (Aa AQ) (Ag (.str Ae)))))) (Aa AQ)))
   (Ak Rd NU)) (Bp (n+4)) (Ad (Ad (Ad e Bq (some (.int (Int.fdiv v 8)))) DU (some (.int (Int.fmod v 8)))) GJ (some (.int w))) Q h:=λw=>by
  nofun
  refine qX λc hc=> ?_
  have z1:=z.new (.new hc (o:= .lst ([0,1,900,12000,40000,150000,700000].map V.int)))
  have hc1:=aa h c (some (O.lst ([0,1,900,12000,40000,150000,700000].map V.int)))
  generalize Ad h c (some (.lst ([0,1,900,12000,40000,150000,700000].map V.int)))=h1 at z1 hc1 ⊢
  nofun
  obtain⟨s,-,is⟩:=eQ (f:=V.int) (l:= [0,1,900,12000,40000,150000,700000]) (i:=Int.fmod w 7) (Int.fmod_nonneg_of_pos w (by decide)) (Int.fmod_lt_of_pos w (by decide))
  refine bP hc1 is ?_
  have Hw:=z1.w.w
  have Hr:=z1.w.rw
  have Ht:=z1.MX
  nofun
  generalize ee:Ad _ Av _=e1
  have k1:By (Av::AU::Hv) e e1:=by rw[<-ee];exact By.set (By.set (By.set (By.set (By.set (.refl _ _) rfl) rfl) rfl) rfl) rfl
  have f1:e1 DU=some (.int (Int.fmod v 8)):=by rw[<-ee];rfl
  have f2:e1 Bq=some (.int (Int.fdiv v 8)):=by rw[<-ee];rfl
  have f3:e1 DB=some (.int (Int.fdiv w 7)):=by rw[<-ee];rfl
  have f4:e1 Av=some (.int (now+s)):=by rw[<-ee];rfl
  have f5:e1 AU=some (.int num):=by rw[<-ee];exact E7
  clear ee
  have Ew:EW R (now+s) num e1:=⟨(k1 _ rfl).trans E.Vb,(k1 _ rfl).trans E.w,(k1 _ rfl).trans E.told,(k1 _ rfl).trans E.M9,(k1 _ rfl).trans E.thrown,f4,f5⟩
  have E5:=Ew.thrown
  have l20:=z.inv.ok.len
  refine⟨by show(Y.rows.map _).length<=_;rw[List.length_map];exact Nat.le_trans l20 (by decide),?_⟩
  refine br Y.rows (λr=>V.ref r.d) (λr=>!(th r.sp)) (λr=> .ref r.d) rfl (au Hr) aB (λr m Q q=> ?_) (λr m J Q q=>aK rfl q) λMs hlc=> ?_
  ·have Hd:=(z1.w.ro r m).1
   nofun
   refine bP Ht (d6 (z.inv.ok.sp r m)) ?_
   nofun
   exact q
  have z2:=z1.new (.new hlc (o:= .lst ((Y.rows.filter λr=>!(th r.sp)).map λr=> .ref r.d)))
  have hl2:=aa h1 Ms (some (O.lst ((Y.rows.filter λr=>!(th r.sp)).map λr=>V.ref r.d)))
  have sl:List.Sublist (Y.rows.filter λr=>!(th r.sp)) Y.rows:=List.filter_sublist
  refine(?_:(λh3:H=>EG _ (Bp (n+4)) Q .next (Ad e1 D4 (some (.ref Ms))) h3) (Ad h1 Ms (some (.lst ((Y.rows.filter λr=>!(th r.sp)).map λr=> .ref r.d)))))
  generalize Ad h1 Ms (some (.lst ((Y.rows.filter λr=>!(th r.sp)).map λr=> .ref r.d)))=h2 at z2 hl2 ⊢
  refine a8 (aD ?_)
  have k2:By [D4] e1 (Ad e1 D4 (some (.ref Ms))):=By.set (.refl _ _) rfl
  refine rO (Ew.go (k2.sub rfl)) z2 bi ((k2 _ rfl).trans f1) ((k2 _ rfl).trans f3) ((k2 _ rfl).trans f2) rfl hl2 sl λe' h' T' X' Y' th' now' num' k3 E' z'=>a8 ?_
  have⟨E1,E2,E3,E4,_,_,_⟩:=E'
  nofun
  refine jN z'.G z'.r z'.w z'.L z'.inv.syn z'.PC (z'.Nc bi).1 (z'.Nc bi).2 λh3 B=> ?_
  nofun
  exact q e' h3 T' X' Y' th' now' num' ((k1.trans (k2.sub rfl)).trans k3) E' (z'.new B.m)
 rw[List.length_map]
 refine a9 (λc=> ?_) λc=> ?_
 ·obtain⟨w,-,iw⟩:=eQ (f:=V.int) (l:=xs) (i:=at_+1) (by omega) c
  exact cE (aK (by exact ec) (cE (aK (by exact ea) (bQ (kS (bP Hc iw (a8 (main w))))))))
 ·exact bQ (a8 (main 0))
end
def NT (n:Int):List Int:=(List.range ((n - 0+2 - 1) / 2).toNat).map λ(j:Nat)=>0+(j:Int)*2
def sC (n:Int):Hn 0 n 2=(NT n).map .int:=by unfold Hn Hi NT;rw[List.map_map];rfl
def sD {n:Nat}(b:n<=40):(∀ a∈NT n,0<=a/\a < n)/\(NT n).length<=20:=by
 refine⟨λa m=> ?_,?_⟩
 ·obtain⟨j,mj,rfl⟩:=List.mem_map.mp m
  have :=List.mem_range.mp mj
  omega
 ·unfold NT
  rw[List.length_map,List.length_range];omega
section
variable {n:Nat}{R D T:Nat->Nat}{S:List Nat}{h h':H}{X X':Bz}{Y Y':BD}{th:Nat->Bool}{ns:List (Nat×O)}{now num CD more kind:Int}{i:Nat}{e:AZ}{Q:DJ->AZ->H->Prop}
def rT {cs:Nat}{xs:List Int}(E:EW R now num e)(z:Co T R D X Y th [(cs,.lst (xs.map .int))] num 0 h)(ec:e Bk=some (.ref cs))(bl:xs.length<=40)(q:∀ e' h',Q .next e' h'):
  Ck (AA HQ) (Qt (Ag (.int 0)) (DP Go (Aa Bk)) (Ag (.int 2))) MH (Bp (n+4)) e Q h:=by
 have Hc:=(z.ns _ (.head _)).1
 obtain⟨a1,a2⟩:=sD bl
 refine dS ?_
 refine(?_:Ag (.int 0) (Bp (n+4)) e (λx h=>DP Go (Aa Bk) (Bp (n+4)) e (λy h=>Ag (.int 2) (Bp (n+4)) e (λz h=>SH x y z (λsrc h=>F6 (AA HQ) MH (Bp (n+4)) src src.xs e Q h) h) h) h) h)
 refine bQ (sR (aK ec (pQ Hc (bQ ?_))))
 rw[List.length_map]
 refine ae (a:=0) rfl (ae (a:=(xs.length:Int)) rfl (ae (a:=2) rfl ⟨⟨by decide,by decide,Int.natCast_nonneg _,by omega,by decide,by decide⟩,?_⟩))
 show F6 (AA HQ) MH (Bp (n+4)) (Fn (Hn 0 (xs.length:Int) 2)) (Fn (Hn 0 (xs.length:Int) 2)).xs e Q h
 rw[show(Fn (Hn 0 (xs.length:Int) 2)).xs=(NT xs.length).map .int from sC _]
 refine aU (f:=V.int) (λr e' h'=>∃ T X Y th now num i,EW R now num e'/\e' Bk=some (.ref cs)/\Co T R D X Y th [(cs,.lst (xs.map .int))] num i h'/\(∀ a∈r,0<=a/\a < (xs.length:Int))/\i+r.length<=20) (λJ J J J=>trivial) aB (λa r e' h' j kk hk=> ?_) (λe' h' J=>q e' h') (NT xs.length) _ _ ⟨T,X,Y,th,now,num,0,E,ec,z,a1,by omega⟩
 obtain⟨T,X,Y,th,now,num,i,E,ec,z,b1,b2⟩:=j
 rw[List.length_cons] at b2
 have k1:By Hv e' (Ad e' HQ (some (.int a))):=By.set (.refl _ _) rfl
 refine rY (E.go k1) z (by omega) ((k1 _ rfl).trans ec) rfl (b1 a (.head _)) λe2 h2 T' X' Y' th' now' num' k2 E2 z2=> ?_
 exact hk _ _ ⟨T',X',Y',th',now',num',i+1,E2,((k2 _ rfl).trans (k1 _ rfl)).trans ec,z2,λa m=>b1 a (.tail _ m),by omega⟩
end
def RK (ts:List Nat)(T R:Nat->Nat):Prop:=AM 0 ts=false/\∀ t,AM t ts=true->T (R t)=t
theorem RK.nil:RK [] (λJ=>0) (λJ=>0):=⟨rfl,λJ m=>nomatch m⟩
theorem RK.add {ts:List Nat}{T R:Nat->Nat}{t a:Nat}(g:RK ts T R)(ta:T a=0)(n0:Nat.beq 0 t=false):RK (t::ts) (Ad T a t) (Ad R t a):=by
 refine⟨?_,λj m=> ?_⟩
 ·show cond (Nat.beq 0 t) true (AM 0 ts)=false
  rw[n0];exact g.1
 ·by_cases e:j=t
  ·rw[e,aa,aa]
  ·rw[ab _ _ e]
   have m:cond (Nat.beq j t) true (AM j ts)=true:=m
   rw[show Nat.beq j t=false from Bool.eq_false_iff.mpr λz=>e (Nat.eq_of_beq_eq_true z)] at m
   have tj:=g.2 j m
   rw[ab _ _ λz=> ?_]
   ·exact tj
   ·rw[z,ta] at tj
    rw[<-tj] at m
    have :=g.1
    rw[show AM 0 ts=true from m] at this
    cases this
def qd {cf:Cc}{e:AZ}{h:H}{Q:DJ->AZ->H->Prop}{t:K0}{m:A4}(q:m cf e (λv h=>t cf v e (λe h=>Q .next e h) h) h):Af t m cf e Q h:=q
theorem RM.refl (l:Nat)(h:H):RM l h h:=λJ J J e=>e
theorem RM.trans {l:Nat}{h h' h2:H}(x:RM l h h')(y:RM l h' h2):RM l h h2:=λb o n e=>y b o n (x b o n e)
theorem CW.ex {l:Nat}{h h':H}(x:CW h h'):RM l h h':=λb o J e=>x b o e
abbrev Xl:A2:=Ak (Af (AA AC) (F4 DE As (Aq FC (Aa CS) (Aq AW (Ag (.int 1280)) (Aq AG (Ab Cw (Ab BS (Aa D3) (Ag (.int 2))) (Ag (.int 0))) (Aq Gf (LN 0 Bu) (Aq IC (LN 1 DN) Az)))))))
  (Af (AX (Aa AC) Cn) (Dc (Ah (F4 CO As Az) (Ah (F4 CO As Az) (Ah (F4 CO As (Aq AO (Ag (.bool true)) Az)) As)))))
abbrev Xm:A2:=Ak (Af (AA Ai) (MO (Aq CR (Dc As) (Aq Jy (Dc As) (Aq Bu (Ag (.int 0)) (Aq Ga (Dc (Ah (Ag (.int 0)) (Ah (Ag (.int 0)) (Ah (Ag (.int 0)) As)))) (Aq CA (Dc (Ah (Ag .none) (Ah (Ag .none) (Ah (Ag .none) As)))) (Aq CS (Aa CS) (Aq A6 (Ag (.int 0)) (Aq DV (Ag .none) (Aq BJ (Ag .none) (Aq EO (Ab Cw (Ab BS (Aa D3) (Ag (.int 2))) (Ag (.int 0))) (Aq BU (Ag (.bool false)) (Aq Dw (Ag (.int 0)) (Aq FN (Ag (.int 0)) Az)))))))))))))))
  (Af (AA BY) (Dc (Ah (Ag (.bool false)) (Ah (Ag (.bool false)) (Ah (Ag (.bool false)) As)))))
structure Pu (t6 t7:Nat)(g:Int)(valid:Bool)(T R D:Nat->Nat)(h h':H):Prop where
 tg:RK [20,13,10,12,9,11,8,4,3,2,1,5,7,6] T R
 L:DS T h'
 e6:R 6=t6
 e7:R 7=t7
 rc:h' (R 5)=some (.ins DE (D 5) (DQ (Lf (R 20) t7 t6 g (R 1) (R 4) valid)))
 cc:h' (R 1)=some (.ins Eo (D 1) (DQ [(Ay,.int (10*1280)),(AV,.int 1280),(AY,.int 0),(BV,.int 0),(D6,.ref (R 2))]))
 m:h' (R 2)=some (.ins Gn (D 2) (DQ (SC (R 3))))
 c:h' (R 3)=some (.lst ([0,0,0,0,0].map V.int))
 Ea:h' (R 4)=some (.ins Ka (D 4) (DQ [(AV,.int 1280),(D1,.int 0),(D9,.int 0),(D8,.int 0),(ER,.none)]))
 sp:∀ k,k < 3->EQ R D k 0 0 none h'/\K2 R k [] h'
 GV:h' (R 20)=some (.lst ([0,1,2].map λk=> .ref (R (k+8))))
 ext:CW h h'
section
variable {n:Nat}{h h':H}{e:AZ}{Q:DJ->AZ->H->Prop}{t6 t7:Nat}{g head:Int}
def rQ {T1 R1:Nat->Nat}(G1:RK [7,6] T1 R1)(L:DS T1 h)(eg:e CS=some (.int g))(eh:e D3=some (.int head))(e6:e DN=some (.ref (R1 6)))(e7:e Bu=some (.ref (R1 7)))
  (q:∀ T R D h',Pu (R1 6) (R1 7) g (decide (Int.fmod head 2=0)) T R D h h'->Q .next (Ad e AC (some (.ref (R 5)))) h'):Xl (Bp (n+4)) e Q h:=by
 refine aD ?_
 nofun
 generalize decide (Int.fmod head 2=0)=valid at q ⊢
 refine qV λa d s cc AI m md c Ea pd h1 N=> ?_
 nofun
 refine jK λs8 d8 s11 h2 N8=> ?_
 nofun
 refine jK λs9 d9 s12 h3 N9=> ?_
 nofun
 refine oQ λs10 d10 s13 h4 N10=> ?_
 nofun
 intro s20 h20
 have sn:∀ {h:H} {a:Nat} {o:O},h a=some o->h a≠none:=λe z=>by rw[e] at z;cases z
 have ta:=L.fresh N.fa
 have G2:=G1.add (t:=5) ta rfl
 obtain⟨x1,xe,xa,xc,xm,xs⟩:=N.fc
 have L2:=(L.ext xe).tag (t:=5) xa
 have tcc:=L2.fresh xc
 have tm0:=L2.fresh xm
 have tc0:=L2.fresh xs
 have G3:=G2.add (t:=1) tcc rfl
 have tm:=(ab (Ad T1 a 5) 1 N.am.symm).trans tm0
 have G4:=G3.add (t:=2) tm rfl
 have tc:=(ab (Ad (Ad T1 a 5) cc 1) 2 N.mc.symm).trans ((ab (Ad T1 a 5) 1 N.ac.symm).trans tc0)
 have G5:=G4.add (t:=3) tc rfl
 obtain⟨x2,ye,ya,yc,ym,ys,yp⟩:=N.fp
 have L5:=((((L.ext ye).tag (t:=5) ya).tag (t:=1) yc).tag (t:=2) ym).tag (t:=3) ys
 have tp:=L5.fresh yp
 have G6:=G5.add (t:=4) tp rfl
 have L6:=(((((L.ext N.ext).tag (t:=5) (sn N.ha)).tag (t:=1) (sn N.hcc)).tag (t:=2) (sn N.hm)).tag (t:=3) (sn N.hc)).tag (t:=4) (sn N.hp)
 clear xe xa xc xm xs ye ya yc ym ys yp L2 L5 G2 G3 G4 G5
 have t8:=L6.fresh N8.fa
 have G7:=G6.add (t:=8) t8 rfl
 have t11:=(ab _ 8 N8.nt.symm).trans (L6.fresh N8.ft)
 have G8:=G7.add (t:=11) t11 rfl
 obtain⟨aq8,rp8,H8⟩:=N8.ha
 obtain⟨ep8,H11⟩:=N8.ht
 have L8:=((L6.ext N8.ext).tag (t:=8) (sn H8)).tag (t:=11) (sn H11)
 have t9:=L8.fresh N9.fa
 have G9:=G8.add (t:=9) t9 rfl
 have t12:=(ab _ 9 N9.nt.symm).trans (L8.fresh N9.ft)
 have G10:=G9.add (t:=12) t12 rfl
 obtain⟨aq9,rp9,H9⟩:=N9.ha
 obtain⟨ep9,H12⟩:=N9.ht
 have L10:=((L8.ext N9.ext).tag (t:=9) (sn H9)).tag (t:=12) (sn H12)
 have t10:=L10.fresh N10.fa
 have G11:=G10.add (t:=10) t10 rfl
 have t13:=(ab _ 10 N10.nt.symm).trans (L10.fresh N10.ft)
 have G12:=G11.add (t:=13) t13 rfl
 obtain⟨aq10,rp10,H10⟩:=N10.ha
 obtain⟨ep10,H13⟩:=N10.ht
 have L12:=((L10.ext N10.ext).tag (t:=10) (sn H10)).tag (t:=13) (sn H13)
 have t20:=L12.fresh h20
 have G13:=G12.add (t:=20) t20 rfl
 clear t8 t11 t9 t12 t10 t13 G7 G8 G9 G10 G11 G12 G6 L8 L10 L6 tp tcc tm0 tc0 tm tc ta
 have Hs:=aa h4 s20 (some (O.lst [V.ref s8,V.ref s9,V.ref s10]))
 have e12:CW h1 h4:=(N8.ext.trans N9.ext).trans N10.ext
 have e5:CW h4 (Ad h4 s20 (some (.lst [V.ref s8,V.ref s9,V.ref s10]))):=(CW.refl h4).new h20
 have L13:=(L12.ext e5).tag (t:=20) (sn Hs)
 generalize Ad h4 s20 (some (.lst [V.ref s8,V.ref s9,V.ref s10]))=h5 at Hs e5 L13 ⊢
 have Ha5:=e5 _ _ (e12 _ _ N.ha)
 eq_refl
 refine aE Ha5 rfl ?_
 refine(?_:Q .next _ (Ad h5 a (some (.ins DE d (DQ (Lf s20 (R1 7) (R1 6) g cc Ea valid))))))
 have kp:∀ b o,b≠a->h5 b=some o->Ad h5 a (some (.ins DE d (DQ (Lf s20 (R1 7) (R1 6) g cc Ea valid)))) b=some o:=λb o n e=>(ab _ _ n).trans e
 have HaF:=aa h5 a (some (O.ins DE d (DQ (Lf s20 (R1 7) (R1 6) g cc Ea valid))))
 have LF:DS _ (Ad h5 a (some (.ins DE d (DQ (Lf s20 (R1 7) (R1 6) g cc Ea valid))))):=(Mod.set (T:=Ad (Ad (Ad (Ad (Ad (Ad (Ad (Ad (Ad (Ad (Ad (Ad T1 a 5) cc 1) m 2) c 3) Ea 4) s8 8) s11 11) s9 9) s12 12) s10 10) s13 13) s20 20) (S:= [5]) (h:=h5) (a:=a) (o:= .ins DE d (DQ (Lf s20 (R1 7) (R1 6) g cc Ea valid))) (by rw[show Ad (Ad (Ad (Ad (Ad (Ad (Ad (Ad (Ad (Ad (Ad (Ad T1 a 5) cc 1) m 2) c 3) Ea 4) s8 8) s11 11) s9 9) s12 12) s10 10) s13 13) s20 20 a=5 from G13.2 5 rfl];rfl)).alive L13
 have extF:CW h (Ad h5 a (some (.ins DE d (DQ (Lf s20 (R1 7) (R1 6) g cc Ea valid))))):=λb o z=>kp b o (az (e1:=N.fa) z) (e5 _ _ (e12 _ _ (N.ext _ _ z)))
 generalize Ad h5 a (some (.ins DE d (DQ (Lf s20 (R1 7) (R1 6) g cc Ea valid))))=GW at kp HaF LF extF ⊢
 generalize eT:Ad (Ad (Ad (Ad (Ad (Ad (Ad (Ad (Ad (Ad (Ad (Ad T1 a 5) cc 1) m 2) c 3) Ea 4) s8 8) s11 11) s9 9) s12 12) s10 10) s13 13) s20 20=T at G13 LF
 have ne:∀ {t:Nat} {b:Nat},T b=t->Nat.beq t 5=false->b≠a:=λx y=>dy x (G13.2 5 rfl) y
 refine q T _ (λk=>look k [(5,d),(1,AI),(2,md),(4,pd),(8,d8),(9,d9),(10,d10)]|>.getD 0) GW ⟨G13,LF,rfl,rfl,HaF,kp cc _ (ne (G13.2 1 rfl) rfl) (e5 _ _ (e12 _ _ N.hcc)),kp m _ (ne (G13.2 2 rfl) rfl) (e5 _ _ (e12 _ _ N.hm)),kp c _ (ne (G13.2 3 rfl) rfl) (e5 _ _ (e12 _ _ N.hc)),kp Ea _ (ne (G13.2 4 rfl) rfl) (e5 _ _ (e12 _ _ N.hp)),?_,kp s20 _ (ne (G13.2 20 rfl) rfl) Hs,extF⟩
 exact λk bk=>match k,bk with
  |0,_=>⟨.mk aq8 rp8 (kp s8 _ (ne (G13.2 8 rfl) rfl) (e5 _ _ (N10.ext _ _ (N9.ext _ _ H8)))),.mk ep8 (kp s11 _ (ne (G13.2 11 rfl) rfl) (e5 _ _ (N10.ext _ _ (N9.ext _ _ H11))))⟩
  |1,_=>⟨.mk aq9 rp9 (kp s9 _ (ne (G13.2 9 rfl) rfl) (e5 _ _ (N10.ext _ _ H9))),.mk ep9 (kp s12 _ (ne (G13.2 12 rfl) rfl) (e5 _ _ (N10.ext _ _ H12)))⟩
  |2,_=>⟨.mk aq10 rp10 (kp s10 _ (ne (G13.2 10 rfl) rfl) (e5 _ _ H10)),.mk ep10 (kp s13 _ (ne (G13.2 13 rfl) rfl) (e5 _ _ H13))⟩
  |k+3,b=>absurd b (Nat.not_lt.mpr (Nat.le_add_left 3 k))
end
def Jk (g:Int)(valid:Bool):Bz:={ r:=⟨false,valid,0,0,g,false,0,none,0,0,0⟩,bf:=0,A:=12800,cnt:=λJ=>0,top:=λJ=>0,Ap:=λJ=>none,Ar:=λJ=> [],told:= [],pr:=0 }
def Sl (g:Int)(valid:Bool):BD:={ rows:= [],st:=λJ=>0,due:= [],pr:=0,top:=λJ=>0,Ap:=λJ=>none,guess:=g,AR:=0,least:=none,DW:=none,valid:=valid,Bc:=false,tries:=0,last:=0 }
def pV {o:List Nat}:∀ {l:List (Nat×V)},l.all (λp=>AM p.1 o)=true->∀ n,AM n o=false->look n l=none
 | [],_,_,_=>rfl
 |(j,w)::l,s,n,z=>by
  rw[List.all_cons,Bool.and_eq_true] at s
  show cond (Nat.beq n j) (some w) (look n l)=none
  rw[show Nat.beq n j=false from Bool.eq_false_iff.mpr λe=>by
   cases Nat.eq_of_beq_eq_true e
   rw[s.1] at z;cases z]
  exact pV s.2 n z
def wJ (g:Int)(valid:Bool):BI (Jk g valid) (Sl g valid) where
 ok:=⟨.nil,λJ m=>(nomatch m),λJ m=>(nomatch m),λJ m=>(nomatch m),Nat.zero_le _⟩
 Ar _ _:=rfl
 cnt _ _:=rfl
 bf:=rfl
 told:=rfl
 plain _ m:=nomatch m
 pr:=rfl
 Ap _ _:=rfl
 top _ _:=rfl
 Bc:=rfl
 valid:=rfl
 tries:=rfl
 guess:=rfl
 last:=rfl
 ini:=rfl
 AR:=rfl
 CI:=rfl
 Im _ z:=nomatch z
 lm:=rfl
def wM (g:Int)(valid:Bool):DO (Jk g valid) 0:=⟨Nat.le_refl _,Int.le_refl _,λJ J=> .nil⟩
section
variable {n:Nat}{h h':H}{e:AZ}{Q:DJ->AZ->H->Prop}{t6 t7:Nat}{g head:Int}{T R D:Nat->Nat}{valid:Bool}
theorem Bb.made (M:Pu t6 t7 g valid T R D h h')(H6:h' (R 6)=some (.lst []))(H7:h' (R 7)=some (.lst [])):Bb T R D (Jk g valid) h':=by
 have e6:=M.e6
 have e7:=M.e7
 subst e6 e7
 refine⟨M.rc,.mk _ 12800 0 .none 0 M.cc rfl rfl rfl rfl rfl rfl rfl ?_ (.inl rfl) ⟨by decide,by decide,show(12800:Int)+0<=12800 by decide⟩ (.mk 0 0 0 false .none .none .none [0,0,0,0,0] ?_ M.c rfl (by decide) (.inl rfl)),.mk 0 0 _ _ M.Ea,λk bk=>(M.sp k bk).1,λk bk=>(M.sp k bk).2,M.GV,H6,⟨[],rfl,H7⟩,λk bk r m=>nomatch m⟩
 ·exact pV rfl
 ·exact M.m
def xB {R R' D:Nat->Nat}{h:H}(e:∀ t,AM t [8,9,10,11,12,13]=true->R' t=R t)(S:∀ k,k < 3->EQ R D k 0 0 none h/\K2 R k [] h):∀ k,k < 3->EQ R' D k 0 0 none h/\K2 R' k [] h:=λk bk=>by
 have m:AM (k+8) [8,9,10,11,12,13]=true/\AM (k+11) [8,9,10,11,12,13]=true:=match k,bk with
  |0,_=>⟨rfl,rfl⟩
  |1,_=>⟨rfl,rfl⟩
  |2,_=>⟨rfl,rfl⟩
  |k+3,b=>absurd b (Nat.not_lt.mpr (Nat.le_add_left 3 k))
 obtain⟨⟨aq,rp,H⟩,⟨ep,H2⟩⟩:=S k bk
 rw[<-e _ m.2] at H H2
 rw[<-e _ m.1] at H
 exact⟨⟨aq,rp,H⟩,⟨ep,H2⟩⟩
def rR (M:Pu t6 t7 g valid T R D h' h)(H6:h t6=some (.lst []))(H7:h t7=some (.lst []))(eg:e CS=some (.int g))(eh:e D3=some (.int head))(ev:decide (Int.fmod head 2=0)=valid)
  (q:∀ T' R' s14 s21 h2,R' 5=R 5->R' 6=R 6->R' 7=R 7->R' 14=s14->R' 21=s21->(∀ num,Co T' R' D (Jk g valid) (Sl g valid) (λJ=>false) [] num 0 h2)->Q .next (Ad (Ad e Ai (some (.ref s14))) BY (some (.ref s21))) h2):Xm (Bp (n+4)) e Q h:=by
 have sn:∀ {h:H} {a:Nat} {o:O},h a=some o->h a≠none:=λe z=>by rw[e] at z;cases z
 have ex1:=CW.refl h
 have L:=M.L
 have G:=M.tg
 refine aD ?_
 nofun
 intro s18 n18
 have t18:=L.fresh n18
 have G:=G.add (t:=18) t18 rfl
 have ex1:=ex1.new (o:= .lst []) n18
 have H18:=aa h s18 (some (O.lst []))
 have L:=(L.ext ((CW.refl h).new (o:= .lst []) n18)).tag (t:=18) (sn H18)
 generalize Ad h s18 (some (.lst []))=h1 at ex1 H18 L ⊢
 clear t18 n18
 nofun
 intro s15 n15
 have t15:=L.fresh n15
 have G:=G.add (t:=15) t15 rfl
 have ex2:=(CW.refl h1).new (o:= .lst []) n15
 have H15:=aa h1 s15 (some (O.lst []))
 have L:=(L.ext ex2).tag (t:=15) (sn H15)
 have H18:=ex2 _ _ H18
 have ex1:=ex1.trans ex2
 generalize Ad h1 s15 (some (.lst []))=h2 at ex1 H15 H18 L ⊢
 clear t15 n15 ex2
 nofun
 intro s16 n16
 have t16:=L.fresh n16
 have G:=G.add (t:=16) t16 rfl
 have ex2:=(CW.refl h2).new (o:= .lst [.int 0,.int 0,.int 0]) n16
 have H16:=aa h2 s16 (some (O.lst [V.int 0,V.int 0,V.int 0]))
 have L:=(L.ext ex2).tag (t:=16) (sn H16)
 have H18:=ex2 _ _ H18
 have H15:=ex2 _ _ H15
 have ex1:=ex1.trans ex2
 generalize Ad h2 s16 (some (.lst [.int 0,.int 0,.int 0]))=h3 at ex1 H15 H18 H16 L ⊢
 clear t16 n16 ex2
 nofun
 intro s17 n17
 have t17:=L.fresh n17
 have G:=G.add (t:=17) t17 rfl
 have ex2:=(CW.refl h3).new (o:= .lst [.none,.none,.none]) n17
 have H17:=aa h3 s17 (some (O.lst [V.none,V.none,V.none]))
 have L:=(L.ext ex2).tag (t:=17) (sn H17)
 have H18:=ex2 _ _ H18
 have H15:=ex2 _ _ H15
 have H16:=ex2 _ _ H16
 have ex1:=ex1.trans ex2
 generalize Ad h3 s17 (some (.lst [.none,.none,.none]))=h4 at ex1 H15 H18 H16 H17 L ⊢
 clear t17 n17 ex2
 nofun
 rw[ev]
 intro s14 n14
 refine(?_:EG _ _ _ .next _ (Ad h4 s14 (some (.dct (DQ [(CR,.ref s18),(Jy,.ref s15),(Bu,.int 0),(Ga,.ref s16),(CA,.ref s17),(CS,.int g),(A6,.int 0),(DV,.none),(BJ,.none),(EO,.bool valid),(BU,.bool false),(Dw,.int 0),(FN,.int 0)])))))
 have t14:=L.fresh n14
 have G:=G.add (t:=14) t14 rfl
 have ex2:=(CW.refl h4).new (o:= .dct (DQ [(CR,.ref s18),(Jy,.ref s15),(Bu,.int 0),(Ga,.ref s16),(CA,.ref s17),(CS,.int g),(A6,.int 0),(DV,.none),(BJ,.none),(EO,.bool valid),(BU,.bool false),(Dw,.int 0),(FN,.int 0)])) n14
 have H14:=aa h4 s14 (some (O.dct (DQ [(CR,.ref s18),(Jy,.ref s15),(Bu,.int 0),(Ga,.ref s16),(CA,.ref s17),(CS,.int g),(A6,.int 0),(DV,.none),(BJ,.none),(EO,.bool valid),(BU,.bool false),(Dw,.int 0),(FN,.int 0)])))
 have L:=(L.ext ex2).tag (t:=14) (sn H14)
 have H18:=ex2 _ _ H18
 have H15:=ex2 _ _ H15
 have H16:=ex2 _ _ H16
 have H17:=ex2 _ _ H17
 have ex1:=ex1.trans ex2
 generalize Ad h4 s14 (some (.dct (DQ [(CR,.ref s18),(Jy,.ref s15),(Bu,.int 0),(Ga,.ref s16),(CA,.ref s17),(CS,.int g),(A6,.int 0),(DV,.none),(BJ,.none),(EO,.bool valid),(BU,.bool false),(Dw,.int 0),(FN,.int 0)])))=h5 at ex1 H15 H18 H16 H17 H14 L ⊢
 clear t14 n14 ex2
 nofun
 intro s21 n21
 have t21:=L.fresh n21
 have G:=G.add (t:=21) t21 rfl
 have ex2:=(CW.refl h5).new (o:= .lst [.bool false,.bool false,.bool false]) n21
 have H21:=aa h5 s21 (some (O.lst [V.bool false,V.bool false,V.bool false]))
 have L:=(L.ext ex2).tag (t:=21) (sn H21)
 have H18:=ex2 _ _ H18
 have H15:=ex2 _ _ H15
 have H16:=ex2 _ _ H16
 have H17:=ex2 _ _ H17
 have H14:=ex2 _ _ H14
 have ex1:=ex1.trans ex2
 generalize Ad h5 s21 (some (.lst [.bool false,.bool false,.bool false]))=h6 at ex1 H15 H18 H16 H17 H14 H21 L ⊢
 clear t21 n21 ex2
 have ro:∀ t,AM t [1,2,3,4,5,6,7,8,9,10,11,12,13,20]=true->Ad (Ad (Ad (Ad (Ad (Ad R 18 s18) 15 s15) 16 s16) 17 s17) 14 s14) 21 s21 t=R t:=λt m=>by
  have ne:∀ j,AM j [1,2,3,4,5,6,7,8,9,10,11,12,13,20]=false->t≠j:=λj z e=>by rw[e,z] at m;cases m
  rw[ab _ _ (ne 21 rfl),ab _ _ (ne 14 rfl),ab _ _ (ne 17 rfl),ab _ _ (ne 16 rfl),ab _ _ (ne 15 rfl),ab _ _ (ne 18 rfl)]
 refine q (Ad (Ad (Ad (Ad (Ad (Ad T s18 18) s15 15) s16 16) s17 17) s14 14) s21 21) (Ad (Ad (Ad (Ad (Ad (Ad R 18 s18) 15 s15) 16 s16) 17 s17) 14 s14) 21 s21) s14 s21 h6 rfl rfl rfl rfl rfl λnum=> ?_
 have GT:A9 (Ad (Ad (Ad (Ad (Ad (Ad T s18 18) s15 15) s16 16) s17 17) s14 14) s21 21) (Ad (Ad (Ad (Ad (Ad (Ad R 18 s18) 15 s15) 16 s16) 17 s17) 14 s14) 21 s21):=λt m=>G.2 t (dQ (S:=TW) rfl m)
 have M2:Pu t6 t7 g valid T R D h' h6:=⟨M.tg,M.L.ext ex1,M.e6,M.e7,ex1 _ _ M.rc,ex1 _ _ M.cc,ex1 _ _ M.m,ex1 _ _ M.c,ex1 _ _ M.Ea,λk bk=>by
  obtain⟨⟨aq,rp,H⟩,⟨ep,H2⟩⟩:=M.sp k bk
  exact⟨⟨aq,rp,ex1 _ _ H⟩,⟨ep,ex1 _ _ H2⟩⟩,ex1 _ _ M.GV,M.ext.trans ex1⟩
 have Z:=Bb.made M2 (by rw[M.e6];exact ex1 _ _ H6) (by rw[M.e7];exact ex1 _ _ H7)
 have S2:=xB (R':=Ad (Ad (Ad (Ad (Ad (Ad R 18 s18) 15 s15) 16 s16) 17 s17) 14 s14) 21 s21) (λt m=>ro t (dQ (S:= [8,9,10,11,12,13]) rfl m)) M2.sp
 have Z':Bb (Ad (Ad (Ad (Ad (Ad (Ad T s18 18) s15 15) s16 16) s17 17) s14 14) s21 21) (Ad (Ad (Ad (Ad (Ad (Ad R 18 s18) 15 s15) 16 s16) 17 s17) 14 s14) 21 s21) D (Jk g valid) h6:=by
  obtain⟨f,cw,st,ss,cr,H,b,w,s',m,c,t,o,no,si,gg,⟨i,tm,ix,rd,fm,mx,mn,xs,HM,HS,l,i0,fi⟩⟩:=Z.cc
  obtain⟨bm,bt,ev',pt,HP⟩:=Z.Ea
  exact⟨Z.rc,.mk f cw st ss cr H b w s' m c t o no si gg (.mk i tm ix rd fm mx mn xs HM HS l i0 fi),.mk bm bt ev' pt HP,λk bk=>(S2 k bk).1,λk bk=>(S2 k bk).2,Z.GV,Z.told,Z.pr,λk bk r m=>nomatch m⟩
 exact⟨GT,L,Z',⟨H14,H15,H16,H17,H18,λJ m=>nomatch m⟩,wJ g valid,wM g valid,H21,rfl,λJ m=>(nomatch m),λJ m=>(nomatch m),Nat.le_refl _,Int.le_refl _,Int.le_refl _,Int.le_refl _⟩
end
section
variable {T R D:Nat->Nat}{h h':H}{X:Bz}{Y:BD}{th:Nat->Bool}{num:Int}{i:Nat}
theorem Co.with {p:Nat×O}(z:Co T R D X Y th [] num i h)(e:h p.1=some p.2)(t:T p.1=0):Co T R D X Y th [p] num i h:=
 ⟨z.G,z.L,z.r,z.w,z.inv,z.HL,z.MX,z.t2,λx m=>by rw[List.mem_singleton.mp m];exact⟨e,t⟩,z.nn,z.bl,z.bp,z.bt⟩
end
def qe {a b c:A2}{cf:Cc}{e:AZ}{Q:DJ->AZ->H->Prop}{h:H}(q:Ak (Ak a b) c cf e Q h):Ak a (Ak b c) cf e Q h:=by
 have q:a cf e (EG b cf (EG c cf Q)) h:=q
 show a cf e (EG (Ak b c) cf Q) h
 rw[show EG b cf (EG c cf Q)=EG (Ak b c) cf Q from funext λfl=>by cases fl <;> rfl] at q
 exact q
abbrev Xo:A2:=Ak (Af (JI [Av,AU]) (E0 (Ah (Ag (.int 1000000)) (Ah (Ab BS (Ab CT (Aa D3) (Ag (.int 6))) (Ag (.int 5))) As))))
  (Ak NU
  (Ak (Af (AA Bk) (O2 LZ (Aa Fi) (Ag (.int 1)) (Ag (.int 41))))
  (Ak (Ck (AA HQ) (Qt (Ag (.int 0)) (DP Go (Aa Bk)) (Ag (.int 2))) MH)
  (BZ (Ag (.bool true))))))
abbrev Xn:A2:=Ak (Af (AA AC) (F4 DE As (Aq FC (Aa CS) (Aq AW (Ag (.int 1280)) (Aq AG (Ab Cw (Ab BS (Aa D3) (Ag (.int 2))) (Ag (.int 0))) (Aq Gf (LN 0 Bu) (Aq IC (LN 1 DN) Az)))))))
  (Ak (Af (AX (Aa AC) Cn) (Dc (Ah (F4 CO As Az) (Ah (F4 CO As Az) (Ah (F4 CO As (Aq AO (Ag (.bool true)) Az)) As)))))
  (Ak (Af (AA Ai) (MO (Aq CR (Dc As) (Aq Jy (Dc As) (Aq Bu (Ag (.int 0)) (Aq Ga (Dc (Ah (Ag (.int 0)) (Ah (Ag (.int 0)) (Ah (Ag (.int 0)) As)))) (Aq CA (Dc (Ah (Ag .none) (Ah (Ag .none) (Ah (Ag .none) As)))) (Aq CS (Aa CS) (Aq A6 (Ag (.int 0)) (Aq DV (Ag .none) (Aq BJ (Ag .none) (Aq EO (Ab Cw (Ab BS (Aa D3) (Ag (.int 2))) (Ag (.int 0))) (Aq BU (Ag (.bool false)) (Aq Dw (Ag (.int 0)) (Aq FN (Ag (.int 0)) Az)))))))))))))))
  (Ak (Af (AA BY) (Dc (Ah (Ag (.bool false)) (Ah (Ag (.bool false)) (Ah (Ag (.bool false)) As))))) Xo)))
abbrev UT:A2:=Ak (Af (Qb DN) (Dc As)) (Ak (Af (Qb Bu) (Dc As)) (Ak (Af (AA CS) (Ab Au (BK GK As Az) (Ab BS (Ab CT (Aa D3) (Ag (.int 2))) (Ag (.int 3))))) Xn))
def rS {l:List Int}{e:AZ}{head:Int}(hl:l.length<=63)(e1:e Fi=some (.DM l))(e2:e DN=none)(e3:e Bu=none)(e4:e D3=some (.int head)):UT (Bp 7) e (Dp λv J=>v= .bool true) (λJ=>none):=by
 refine aD (qd ?_)
 nofun
 intro t6 h6
 refine⟨e2,a8 (aD (qd ?_))⟩
 have L0:DS (λJ=>0) (λ_:Nat=>(none:Option O)):=λJ z=>absurd rfl z
 have T6:=RK.nil.add (t:=6) (a:=t6) rfl rfl
 have H6:=aa (λ_:Nat=>(none:Option O)) t6 (some (O.lst []))
 have L1:=(L0.ext (h':=Ad (λ_:Nat=>(none:Option O)) t6 (some (O.lst []))) ((CW.refl _).new h6)).tag (t:=6) (by rw[H6];exact λz=>nomatch z)
 generalize Ad (λ_:Nat=>(none:Option O)) t6 (some (O.lst []))=h1 at H6 L1 ⊢
 generalize ea:Ad e DN _=ea1
 have f1:ea1 Fi=some (.DM l):=by rw[<-ea];exact e1
 have f3:ea1 Bu=none:=by rw[<-ea];exact e3
 have f4:ea1 D3=some (.int head):=by rw[<-ea];exact e4
 have f2:ea1 DN=some (.ref t6):=by rw[<-ea];rfl
 clear ea e1 e2 e3 e4 h6 L0
 nofun
 intro t7 h7
 refine⟨f3,?_⟩
 have T7:=T6.add (t:=7) (L1.fresh h7) rfl
 have ex7:=(CW.refl h1).new (o:= .lst []) h7
 have H7:=aa h1 t7 (some (O.lst []))
 have L2:=(L1.ext ex7).tag (a:=t7) (t:=7) (by rw[H7];exact λz=>nomatch z)
 have H6:=ex7 _ _ H6
 generalize Ad h1 t7 (some (O.lst []))=h2 at H6 H7 L2 ⊢
 generalize ea:Ad ea1 Bu _=e2
 have e1:e2 Fi=some (.DM l):=by rw[<-ea];exact f1
 have e3:e2 Bu=some (.ref t7):=by rw[<-ea];rfl
 have e4:e2 D3=some (.int head):=by rw[<-ea];exact f4
 have e6:e2 DN=some (.ref t6):=by rw[<-ea];exact f2
 clear ea f1 f2 f3 f4 h7 ex7 L1
 nofun
 refine mY λc hc=> ?_
 have ex8:=(CW.refl h2).new (o:= .lst ([100000,333000,1000].map V.int)) hc
 have Hc:=aa h2 c (some (O.lst ([100000,333000,1000].map V.int)))
 have L3:=L2.ext ex8
 have H6:=ex8 _ _ H6
 have H7:=ex8 _ _ H7
 generalize Ad h2 c (some (O.lst ([100000,333000,1000].map V.int)))=h3 at H6 H7 Hc L3 ⊢
 nofun
 obtain⟨g,-,ig⟩:=eQ (f:=V.int) (l:= [100000,333000,1000]) (i:=Int.fmod (Int.fdiv head 2) 3) (Int.fmod_nonneg_of_pos _ (by decide)) (Int.fmod_lt_of_pos _ (by decide))
 refine bP Hc ig (a8 (qe ?_))
 generalize ea:Ad e2 CS _=e5
 have f1:e5 Fi=some (.DM l):=by rw[<-ea];exact e1
 have f3:e5 Bu=some (.ref t7):=by rw[<-ea];exact e3
 have f4:e5 D3=some (.int head):=by rw[<-ea];exact e4
 have f6:e5 DN=some (.ref t6):=by rw[<-ea];exact e6
 have f5:e5 CS=some (.int g):=by rw[<-ea];rfl
 clear ea e1 e3 e4 e6 Hc L2
 refine aD ?_
 refine rQ T7 L3 f5 f4 f6 f3 λT R D h4 M=>a8 (qe (aD ?_))
 have m6:R 6=t6:=M.e6
 have m7:R 7=t7:=M.e7
 have H6:=M.ext _ _ H6
 have H7:=M.ext _ _ H7
 have ga:∀ {x v:_},e5 x=some v->Nat.beq x AC=false->(Ad e5 AC (some (.ref (R 5)))) x=some v:=λ {x v} z n=>(ab _ _ λw=>by rw[w,Nat.beq_refl] at n;cases n).trans z
 have g1:=ga f1 rfl
 have g3:=ga f3 rfl
 have g4:=ga f4 rfl
 have g5:=ga f5 rfl
 have g6:=ga f6 rfl
 have g7:=aa e5 AC (some (V.ref (R 5)))
 generalize Ad e5 AC (some (.ref (R 5)))=e6 at g1 g3 g4 g5 g6 g7 ⊢
 clear ga f1 f3 f4 f5 f6 L3 T6 T7 hc ex8 ig
 refine rR (n:=3) M H6 H7 g5 g4 rfl λT' R' s14 s21 h5 r5 r6 r7 r14 r21 z=>a8 ?_
 generalize decide (Int.fmod head 2=0)=valid at z
 clear M H6 H7
 refine aD ?_
 generalize ea:Ad (Ad e6 Ai (some (.ref s14))) BY (some (.ref s21))=e7
 have f1:e7 Fi=some (.DM l):=by rw[<-ea];exact g1
 have f4:e7 D3=some (.int head):=by rw[<-ea];exact g4
 have f7:e7 AC=some (.ref (R' 5)):=by rw[<-ea,r5];exact g7
 have f6:e7 DN=some (.ref (R' 6)):=by rw[<-ea,r6,m6];exact g6
 have f3:e7 Bu=some (.ref (R' 7)):=by rw[<-ea,r7,m7];exact g3
 have f8:e7 Ai=some (.ref (R' 14)):=by rw[<-ea,r14];rfl
 have f9:e7 BY=some (.ref (R' 21)):=by rw[<-ea,r21];rfl
 clear ea g1 g3 g4 g5 g6 g7 r5 r6 r7 r14 r21 m6 m7
 nofun
 have z:=z (Int.fmod (Int.fdiv head 6) 5)
 have E:EW R' 1000000 (Int.fmod (Int.fdiv head 6) 5) (Ad (Ad e7 Av (some (.int 1000000))) AU (some (.int (Int.fmod (Int.fdiv head 6) 5)))):=⟨f7,f8,f6,f3,f9,rfl,rfl⟩
 have f1:(Ad (Ad e7 Av (some (.int 1000000))) AU (some (.int (Int.fmod (Int.fdiv head 6) 5)))) Fi=some (.DM l):=f1
 generalize Ad (Ad e7 Av (some (.int 1000000))) AU (some (.int (Int.fmod (Int.fdiv head 6) 5)))=e8 at E f1 ⊢
 generalize Int.fmod (Int.fdiv head 6) 5=num at z E
 refine jN z.G z.r z.w z.L z.inv.syn z.PC (z.Nc (by decide)).1 (z.Nc (by decide)).2 λh6 B=> ?_
 have z:=z.new B.m
 clear B
 nofun
 refine vk ⟨by decide,by decide⟩ λcs hcs=> ?_
 rw[show GH (l.map V.int) 1 (some 41)=((l.take 41).drop 1).map V.int by rw[List.map_drop,List.map_take];rfl]
 have bl:((l.take 41).drop 1).length<=40:=by rw[List.length_drop,List.length_take];omega
 generalize (l.take 41).drop 1=xs at bl ⊢
 have tc:=z.L.fresh hcs
 have z:=(z.new (.new hcs (o:= .lst (xs.map V.int)))).with (p:=(cs,.lst (xs.map V.int))) (aa ..) tc
 generalize Ad h6 cs (some (.lst (xs.map V.int)))=h7 at z ⊢
 generalize ea:Ad e8 Bk _=e9
 have k9:By [Bk] e8 e9:=by rw[<-ea];exact By.set (.refl _ _) rfl
 have ec:e9 Bk=some (.ref cs):=by rw[<-ea];rfl
 clear ea
 have E:EW R' 1000000 num e9:=⟨(k9 _ rfl).trans E.Vb,(k9 _ rfl).trans E.w,(k9 _ rfl).trans E.told,(k9 _ rfl).trans E.M9,(k9 _ rfl).trans E.thrown,(k9 _ rfl).trans E.now,(k9 _ rfl).trans E.num⟩
 refine rT (n:=3) E z ec bl λe' h'=> ?_
 exact fO (bQ (lO rfl))
def mO (l:List Int)(hl:l.length<=63):Bp 8 Rl [.DM l] [] (λv J=>v= .bool true) (λJ=>none):=by
 refine ay (d:=Ri) (b:=Te) rfl ⟨rfl,rfl,rfl,rfl,rfl,rfl⟩ ?_
 refine aD ?_
 have main:∀ head:Int,UT (Bp 7) (Ad (Ri.bind [.DM l] []) D3 (some (.int head))) (Dp λv J=>v= .bool true) (λJ=>none):=λhead=>rS hl rfl rfl rfl rfl
 refine gS (u9 (iV (aK (v:= .DM l) rfl (xA ?_))))
 cases l with
 |nil=>exact wi (bQ (a8 (main 0)))
 |cons v l=>exact wj (cE (aK rfl (bQ (vi (j:=0) (gE (by decide)) rfl (a8 (main v))))))
end Mi
local macro_rules | `(tactic|nofun)=> `(tactic|kernel_rfl)
namespace Mi
open PySem PySem.W PySem.Calls PyProof.Rows
def HX (s:String)(t:Nat):Value:= .str (Str.ofString s) t
def Gb (n:Nat):Value:= .int (Int.ofNat n) 0
def Bj (a:Nat):Value:= .ref a
def Bf (P:Params)(s:String)(t:Nat)(v:Value):DictEntry:=⟨PyData.keyHash P (Str.ofString s),HX s t,v⟩
def EP (l:List Value):Obj:={ cls:= .type "tuple",data:= .seq ⟨l⟩ }
def Np (l:List DictEntry)(n:Nat):Obj:={ cls:= .type "dict",data:= .dict ⟨l⟩ n }
def WY (l:List Value):Obj:={ cls:= .none,data:= .fields ⟨l⟩ }
def GW (c:String)(l:List Value):Obj:={ cls:= .type c,data:= .fields ⟨l⟩ }
def SU (l:List Str):Nat->List Value:= @List.rec Str (λU=>Nat->List Value) (λU=> []) (λx U r t=> .str x t::r (t+1)) l
def RF (c:Nat)(l:List (Nat×Nat)):List Value:=l.flatMap λq=> [Gb q.1,Gb c,Bj q.2]
def QE (n q:Str)(t t2 ln na nk fl a:Nat)(f:Bool)(b:Nat)(x y z:Value):Obj:=
 GW "code" [.str n t,.str q (t+1),HX "/claim/cut.py" (t+2),Gb ln,Gb na,Gb 0,Gb nk,Gb fl,Bj a,.bool f,Gb 181,Bj b,.none,x,y,z,.int (Int.ofNat t2) 0,Gb ln,HX "/claim/cut.py" (t2+1)]
abbrev Wg:List Stmt:=PySem.Challenge.pw_ix0011_01.main.body
def Bt (i:Nat):Stmt:=(Wg.drop i).headD (.Pass default)
def JB (s:Stmt):List Stmt:=match s with | .ClassDef _ _ _ b _ _ _ _ _ _ _=>b|_=> []
def WM (s:Stmt):List Str:=match s with | .ClassDef _ _ _ _ _ _ _ _ _ a _=>a|_=> []
def Ma (s:Stmt):Str:=match s with | .ClassDef n _ _ _ _ _ _ _ _ _ _=>n| .FunctionDef n _ _ _ _ _ _ _ _ _=>n|_=>""
def Tw (s:Stmt):Nat:=match s with | .ClassDef _ _ _ _ _ _ _ _ _ _ p=>p.line| .FunctionDef _ _ _ _ _ _ _ _ _ p=>p.line|_=>0
def Dg (i j:Nat):Stmt:=((JB (Bt i)).drop j).headD (.Pass default)
def SW (s:Stmt)(q:Str)(g:Addr)(cl:List (Str×Addr))(df kd pm AI ct:Value):FuncData:=match s with
 | .FunctionDef n a b _ _ _ sc _ _ _=>⟨n,q,a,.stmts b,sc,g,cl,df,kd,.none,pm,none,AI,ct,0⟩
 |_=>default
def Wc (k:NameKind)(sc:Scope):List Str:=(sc.names.filter λq=>q.2==k).map λq=>q.1
def Cs (a t:Nat)(s:Stmt)(pre:String)(M:Value)(v:Bool)(ln:Nat:=Tw s)(fl:Nat:=3)(cl:List (Str×Addr):= [])(ct df kd:Value:= .none):List Obj:=
 (λq=>(λf:FuncData=>(λfr vs cs=>(λb t2=>EP (SU fr (t+3))::WY []::(cond v [EP (SU vs (t+3+fr.length)),EP (SU cs (t+3+fr.length+vs.length))] []++
  [{ cls:= .none,data:= .func f },QE f.name q t t2 ln f.params.args.length f.params.kwonlyargs.length fl a true (a+1) (cond v (Bj (a+2)) .none) (cond v (Bj (a+3)) .none) (Bj b),
   { cls:= .type "function",data:= .func (SW s q 3 cl df kd M (Bj (b+1)) ct) }]))
  (a+2+cond v 2 0) (t+3+cond v (fr.length+vs.length+cs.length) fr.length)) (Wc .free f.scope) ((f.scope.names.filter λq=>q.2== .local||f.params.args.any λa=>a.arg==q.1).map λq=>q.1) (Wc .cell f.scope))
  (SW s q 0 [] .none .none .none .none .none)) (Str.ofString pre++Ma s)
def Lk (P:Params)(a:Nat)(s:Stmt)(t:Nat)(M:Value)(bs:List Value)(es:List DictEntry)(sa u n:Nat)(tr:List (Nat×Nat))(ce:List Obj:= [])(m:List DictEntry:= []):List Obj:=
 (λb=>EP bs::GW "builtin_function_or_method" [.builtin "type.__prepare__",.type "type"]::
  Np (Bf P "__module__" (t+7) M::Bf P "__qualname__" (t+9) (.str (Ma s) (t+8))::Bf P "__firstlineno__" (t+11) (.int (Int.ofNat (Tw s)) (t+10))::(es++(Bf P "__static_attributes__" u (Bj sa)::m))) n::
  (ce++ [EP [],WY (RF 4 tr),QE (Ma s) (Ma s) (t+2) (t+5) (Tw s) 0 0 0 b false (b+1) .none .none .none,
   { cls:= .type "frame",data:= .plain,slots:= #[some (Bj (b+2)),some (Bj 3),some (Bj (a+2)),none,some M,none,some (Bj 0)] }])) (a+3+ce.length)
def Lh (P:Params)(c:Nat)(s:Stmt)(t:Nat)(M:Value)(bs:List Value)(es:List DictEntry)(u n:Nat)(hh:Bool)(su:List Value:= []):List Obj:=
 (λo:Bool=>EP (SU (WM s) (u - (WM s).length))::
  Np (Bf P "__module__" (t+7) M::Bf P "__firstlineno__" (t+11) (.int (Int.ofNat (Tw s)) (t+10))::(es++(Bf P "__static_attributes__" u (Bj (c - 2))::
   (cond o [Bf P "__dict__" (u+2) (Bj (c+1)),Bf P "__weakref__" (u+4) (Bj (c+2)),Bf P "__doc__" (u+5) .none] [Bf P "__doc__" (u+2) .none]++cond hh [Bf P "__hash__" (u+6) .none] [])))) n::
  { cls:= .type "type",data:= .cls ⟨Ma s,cond o [.type "object"] bs,Bj c::(bs++ [.type "object"]),c - 1,Ma s,true,[],su,false,none,false⟩,slots:= #[cond o none (some (Bj 76)),none,some (.str (Ma s) t),some (.str (Ma s) (t+8)),some (.builtin "object.__new__"),some (.bool true)] }::
  (cond o [GW "getset_descriptor" [HX "__dict__" (u+1),Bj c,.builtin "function.__dict__",.builtin "function.__dict__#set"],GW "getset_descriptor" [HX "__weakref__" (u+3),Bj c,.builtin "ExceptionGroup.__weakref__",.none]] []++
   [GW "super" [Bj c,Bj c,Bj c],GW "builtin_function_or_method" [.builtin "object.__init_subclass__",Bj c]])) bs.isEmpty
def WA:Value:=HX "__main__" 164
def Oo:Value:=HX "aioquic.quic.congestion.base" 194
def MW:Value:=HX "aioquic.quic.congestion.reno" 291
def Op:Value:=HX "aioquic.quic.packet_builder" 379
def Ij:Value:=HX "aioquic.quic.rangeset" 478
def Es:Value:=HX "aioquic.quic.recovery" 640
def WC:Value:=HX "aioquic.quic.packet" 1024
def LA:Value:=HX "law_ix0011_01" 1058
def UB (P:Params):List DictEntry:= [Bf P "bytes_in_flight" 215 (.int 0 214),Bf P "congestion_window" 217 (.int 0 216),Bf P "ssthresh" 218 .none,Bf P "__init__" 226 (Bj 35)]
def UC (P:Params):List DictEntry:= [Bf P "__init__" 253 (Bj 54),Bf P "add_rtt" 262 (Bj 61),Bf P "is_rtt_increasing" 272 (Bj 68)]
def UD (P:Params):List DictEntry:= [Bf P "__init__" 313 (Bj 91),Bf P "on_packet_acked" 323 (Bj 98),Bf P "on_packet_sent" 331 (Bj 105),Bf P "on_packets_expired" 340 (Bj 112),Bf P "on_packets_lost" 351 (Bj 119),Bf P "on_persistent_congestion" 358 (Bj 126),Bf P "on_rtt_measurement" 367 (Bj 133)]
def UE (P:Params):List DictEntry:= [Bf P "INITIAL" 394 (.int 0 393),Bf P "ZERO_RTT" 396 (.int 1 395),Bf P "HANDSHAKE" 398 (.int 2 397),Bf P "ONE_RTT" 400 (.int 3 399)]
def UF (P:Params):List DictEntry:= [Bf P "ACKED" 422 (.int 0 421),Bf P "LOST" 424 (.int 1 423)]
def UG (P:Params):List DictEntry:= [Bf P "__init__" 460 (Bj 181)]
def UH (P:Params):List DictEntry:= [Bf P "__init__" 500 (Bj 202),Bf P "__contains__" 508 (Bj 209),Bf P "__eq__" 516 (Bj 216)]
def UI (P:Params):List DictEntry:= [Bf P "__init__" 548 (Bj 239),Bf P "add" 559 (Bj 247),Bf P "bounds" 566 (Bj 254),Bf P "shift" 573 (Bj 261),Bf P "subtract" 582 (Bj 268),Bf P "__bool__" 589 (Bj 275),Bf P "__contains__" 598 (Bj 282),Bf P "__eq__" 606 (Bj 289),Bf P "__getitem__" 614 (Bj 296),Bf P "__iter__" 622 (Bj 303),Bf P "__len__" 629 (Bj 310)]
def UJ (P:Params):List DictEntry:= [Bf P "__init__" 683 (Bj 338),Bf P "add" 689 (Bj 343),Bf P "__contains__" 697 (Bj 350)]
def UK (P:Params):List DictEntry:= [Bf P "__init__" 729 (Bj 372)]
def Tt (P:Params):List DictEntry:= [Bf P "__init__" 769 (Bj 393),Bf P "next_send_time" 777 (Bj 400),Bf P "update_after_send" 785 (Bj 407),Bf P "update_bucket" 793 (Bj 414),Bf P "update_rate" 803 (Bj 421)]
def Tu (P:Params):List DictEntry:= [Bf P "__init__" 840 (Bj 442),Bf P "bytes_in_flight" 848 (Bj 450),Bf P "congestion_window" 856 (Bj 458),Bf P "discard_space" 864 (Bj 465),Bf P "get_loss_detection_time" 876 (Bj 472),Bf P "get_probe_timeout" 886 (Bj 480),Bf P "on_ack_received" 910 (Bj 487),Bf P "on_loss_detection_timeout" 919 (Bj 494),Bf P "on_packet_sent" 928 (Bj 501),Bf P "reschedule_data" 943 (Bj 509),Bf P "_detect_loss" 959 (Bj 516),Bf P "_get_loss_space" 968 (Bj 523),Bf P "_in_persistent_congestion" 980 (Bj 530),Bf P "_on_packets_lost" 998 (Bj 538)]
def Tv (P:Params):List DictEntry:= [Bf P "INITIAL" 1039 (.int 0 1038),Bf P "ZERO_RTT" 1041 (.int 1 1040),Bf P "HANDSHAKE" 1043 (.int 2 1042),Bf P "RETRY" 1045 (.int 3 1044),Bf P "VERSION_NEGOTIATION" 1047 (.int 4 1046),Bf P "ONE_RTT" 1049 (.int 5 1048)]
def XG (P:Params):List DictEntry:= [Bf P "__doc__" 166 .none,Bf P "__package__" 167 .none,Bf P "__loader__" 168 (.builtin "__main__.__loader__#opaque"),Bf P "__spec__" 169 .none,Bf P "__annotations__" 170 (Bj 6),Bf P "__builtins__" 171 (Bj 4),Bf P "__file__" 173 (HX "/claim/cut.py" 172),Bf P "__cached__" 174 .none,Bf P "_wall" 193 (Bj 21),Bf P "K_GRANULARITY" 197 (.int 1000 196),Bf P "K_INITIAL_WINDOW" 199 (.int 10 198),Bf P "K_MINIMUM_WINDOW" 201 (.int 2 200),Bf P "QuicCongestionControl" 235 (Bj 38),Bf P "QuicRttMonitor" 290 (Bj 71),Bf P "RenoCongestionControl" 378 (Bj 136),Bf P "Epoch" 408 (Bj 148),Bf P "QuicDeliveryState" 432 (Bj 162),Bf P "QuicSentPacket" 477 (Bj 184),Bf P "Range" 527 (Bj 219),Bf P "RangeSet" 639 (Bj 313),Bf P "bisect_left" 652 (Bj 324),Bf P "K_PACKET_THRESHOLD" 654 (.int 3 653),Bf P "K_TIME_THRESHOLD" 656 (.int 9 655),Bf P "K_MICRO_SECOND" 658 (.int 1 657),Bf P "K_PERSISTENT_CONGESTION_THRESHOLD" 660 (.int 3 659),Bf P "K_SECOND" 662 (.int 1000000 661),Bf P "MAX_ACK_RANGES" 664 (.int 64 663),Bf P "QuicPacketNumberWindow" 708 (Bj 353),Bf P "QuicPacketSpace" 749 (Bj 375),Bf P "QuicPacketPacer" 816 (Bj 424),Bf P "QuicPacketRecovery" 1023 (Bj 541),Bf P "QuicPacketType" 1057 (Bj 555),Bf P "_law_steps" 1065 (Bj 566),Bf P "_law_guesses" 1071 (Bj 573),Bf P "_law_end" 1082 (Bj 580),Bf P "_law_awaited" 1088 (Bj 585),Bf P "_law_detect" 1102 (Bj 592),Bf P "_law_anew" 1108 (Bj 597),Bf P "_law_acked" 1114 (Bj 602),Bf P "_law_timer" 1120 (Bj 607),Bf P "_law_stands" 1126 (Bj 612),Bf P "law" 1132 (Bj 617)]
def Kf (P:Params)(M:Value)(n:Nat):Obj:=Np (Bf P "__name__" 165 M::(XG P).take n) (n+1)
def XH:List (Nat×Nat):= [(1,20),(8,27),(15,48),(60,82),(107,144),(112,158),(115,172),(128,194),(139,229),(198,323),(213,330),(232,363),(247,385),(271,434),(473,551),(481,565),(483,572),(485,579),(490,584),(492,591),(506,596),(523,601),(542,606),(550,611),(570,616)]
def RG (j:Nat):Obj:=WY (RF 0 (XH.take j))
def HY (P:Params)(hg:Obj)(j:Nat)(hsu:List Value):List Obj:=
 [boot_o_0 P,boot_o_1 P,boot_o_2 P,hg,boot_o_4 P,boot_o_5 P,boot_o_6 P,boot_o_7 P,boot_o_8 P,boot_o_9 P,boot_o_10 P,EP [],RG j,GW "code" [HX "<module>" 182,HX "<module>" 183,HX "/claim/cut.py" 184,Gb 1,Gb 0,Gb 0,Gb 0,Gb 0,Bj 11,.bool false,Gb 181,Bj 12,.none,.none,.none,.none,Gb 185,Gb 1,HX "/claim/cut.py" 186],{ cls:= .type "frame",data:= .plain,slots:= #[some (Bj 13),some (Bj 3),some (Bj 3),none,some WA,none,some (Bj 0)] }]++(Cs 15 187 (Bt 0) "" WA true++(Lk P 22 (Bt 5) 202 Oo [] (UB P) 36 228 8 [(13,34)]++(Cs 29 219 (Dg 5 3) "QuicCongestionControl." Oo true++(Lh P 38 (Bt 5) 202 Oo [] (UB P) 228 4 false hsu++(Lk P 43 (Bt 6) 236 Oo [] (UC P) 69 283 7 [(17,53),(29,60),(44,67)]++(Cs 50 248 (Dg 6 0) "QuicRttMonitor." Oo false++(Cs 55 254 (Dg 6 1) "QuicRttMonitor." Oo true++(Cs 62 263 (Dg 6 2) "QuicRttMonitor." Oo true++(Lh P 71 (Bt 6) 236 Oo [] (UC P) 283 4 false++(Lk P 76 (Bt 8) 293 MW [Bj 38] (UD P) 134 374 12 [(62,90),(69,97),(82,104),(85,111),(89,118),(99,125),(103,132)] [{ cls:= .type "cell",data:= .cell (some (Bj 136)) }] [Bf P "__classcell__" 375 (Bj 79)]++([EP [Bj 79]]++(Cs 85 305 (Dg 8 0) "RenoCongestionControl." MW true (cl:= [("__class__",79)]) (ct:=(Bj 84))++(Cs 92 314 (Dg 8 1) "RenoCongestionControl." MW true++(Cs 99 324 (Dg 8 2) "RenoCongestionControl." MW true++(Cs 106 332 (Dg 8 3) "RenoCongestionControl." MW true++(Cs 113 341 (Dg 8 4) "RenoCongestionControl." MW true++(Cs 120 352 (Dg 8 5) "RenoCongestionControl." MW true++(Cs 127 359 (Dg 8 6) "RenoCongestionControl." MW true++(Lh P 136 (Bt 8) 293 MW [Bj 38] (UD P) 374 3 false++(Lk P 139 (Bt 10) 381 Op [] (UE P) 146 401 8 []++(Lh P 148 (Bt 10) 381 Op [] (UE P) 401 4 false++(Lk P 153 (Bt 11) 409 Op [] (UF P) 160 425 6 []++(Lh P 162 (Bt 11) 409 Op [] (UF P) 425 4 false++(Lk P 167 (Bt 12) 433 Op [] (UG P) 182 470 5 [(117,180)]++([EP [.none,.int 0 445]]++(Cs 175 446 (Dg 12 0) "QuicSentPacket." Op true (df:=(Bj 174))++(Lh P 184 (Bt 12) 433 Op [] (UG P) 470 4 false++(Lk P 189 (Bt 14) 480 Ij [] (UH P) 217 519 7 [(130,201),(134,208),(137,215)]++(Cs 196 492 (Dg 14 0) "Range." Ij true++(Cs 203 501 (Dg 14 1) "Range." Ij true++(Cs 210 509 (Dg 14 2) "Range." Ij true++(Lh P 219 (Bt 14) 480 Ij [] (UH P) 519 5 true++(Lk P 224 (Bt 15) 528 Ij [] (UI P) 311 631 15 [(141,238),(146,246),(165,253),(168,260),(171,267),(174,274),(177,281),(183,288),(188,295),(191,302),(195,309)]++([{ cls:= .type "list",data:= .seq #[] },EP [Bj 231]]++(Cs 233 540 (Dg 15 0) "RangeSet." Ij true (df:=(Bj 232))++([EP [.none]]++(Cs 241 549 (Dg 15 1) "RangeSet." Ij true (df:=(Bj 240))++(Cs 248 560 (Dg 15 2) "RangeSet." Ij true++(Cs 255 567 (Dg 15 3) "RangeSet." Ij true++(Cs 262 574 (Dg 15 4) "RangeSet." Ij true++(Cs 269 583 (Dg 15 5) "RangeSet." Ij true++(Cs 276 590 (Dg 15 6) "RangeSet." Ij true++(Cs 283 599 (Dg 15 7) "RangeSet." Ij true++(Cs 290 607 (Dg 15 8) "RangeSet." Ij true++(Cs 297 615 (Dg 15 9) "RangeSet." Ij true (fl:=35)++(Cs 304 623 (Dg 15 10) "RangeSet." Ij true++(Lh P 313 (Bt 15) 528 Ij [] (UI P) 631 5 true++(Cs 318 642 (Bt 17) "" Es true++(Lk P 325 (Bt 24) 665 Es [] (UJ P) 351 701 7 [(215,337),(220,342),(230,349)]++(Cs 332 677 (Dg 24 0) "QuicPacketNumberWindow." Es true++(Cs 339 684 (Dg 24 1) "QuicPacketNumberWindow." Es false++(Cs 344 690 (Dg 24 2) "QuicPacketNumberWindow." Es true++(Lh P 353 (Bt 24) 665 Es [] (UJ P) 701 4 false++(Lk P 358 (Bt 25) 709 Es [] (UK P) 373 742 5 [(234,371)]++([Np [Bf P "is_application_data" 721 (.bool false)] 1]++(Cs 366 722 (Dg 25 0) "QuicPacketSpace." Es true (kd:=(Bj 365))++(Lh P 375 (Bt 25) 709 Es [] (UK P) 742 4 false++(Lk P 380 (Bt 26) 750 Es [] (Tt P) 422 809 9 [(249,392),(256,399),(259,406),(262,413),(265,420)]++(Cs 387 762 (Dg 26 0) "QuicPacketPacer." Es true++(Cs 394 770 (Dg 26 1) "QuicPacketPacer." Es true++(Cs 401 778 (Dg 26 2) "QuicPacketPacer." Es true++(Cs 408 786 (Dg 26 3) "QuicPacketPacer." Es true++(Cs 415 794 (Dg 26 4) "QuicPacketPacer." Es true++(Lh P 424 (Bt 26) 750 Es [] (Tt P) 809 4 false++(Lk P 429 (Bt 27) 817 Es [] (Tu P) 539 1016 18 [(273,441),(293,448),(297,456),(300,464),(309,471),(321,479),(329,486),(375,493),(383,500),(392,508),(414,515),(431,522),(438,529),(455,537)]++(Cs 436 829 (Dg 27 0) "QuicPacketRecovery." Es true++(Cs 443 841 (Dg 27 1) "QuicPacketRecovery." Es true (ln:=292)++([GW "property" [Bj 449,.none,.none,.none,HX "bytes_in_flight" 848,.bool false]]++(Cs 451 849 (Dg 27 2) "QuicPacketRecovery." Es true (ln:=296)++([GW "property" [Bj 457,.none,.none,.none,HX "congestion_window" 856,.bool false]]++(Cs 459 857 (Dg 27 3) "QuicPacketRecovery." Es true++(Cs 466 865 (Dg 27 4) "QuicPacketRecovery." Es true++([Np [Bf P "include_max_ack_delay" 877 (.bool true)] 1]++(Cs 474 878 (Dg 27 5) "QuicPacketRecovery." Es true (kd:=(Bj 473))++(Cs 481 887 (Dg 27 6) "QuicPacketRecovery." Es true++(Cs 488 911 (Dg 27 7) "QuicPacketRecovery." Es true++(Cs 495 920 (Dg 27 8) "QuicPacketRecovery." Es true++([Np [Bf P "speed_up_handshake" 929 (.bool false)] 1]++(Cs 503 930 (Dg 27 9) "QuicPacketRecovery." Es true (kd:=(Bj 502))++(Cs 510 944 (Dg 27 10) "QuicPacketRecovery." Es true++(Cs 517 960 (Dg 27 11) "QuicPacketRecovery." Es true++(Cs 524 969 (Dg 27 12) "QuicPacketRecovery." Es true++([Np [Bf P "congestion_event" 981 (.bool true),Bf P "persistent_congestion" 982 (.bool false)] 2]++(Cs 532 983 (Dg 27 13) "QuicPacketRecovery." Es true (kd:=(Bj 531))++(Lh P 541 (Bt 27) 817 Es [] (Tu P) 1016 4 false++(Lk P 546 (Bt 29) 1026 WC [] (Tv P) 553 1050 10 []++(Lh P 555 (Bt 29) 1026 WC [] (Tv P) 1050 4 false++(Cs 560 1060 (Bt 31) "" LA true++(Cs 567 1066 (Bt 32) "" LA true++(Cs 574 1072 (Bt 33) "" LA true++(Cs 581 1083 (Bt 34) "" LA false++(Cs 586 1089 (Bt 35) "" LA true++(Cs 593 1103 (Bt 36) "" LA false++(Cs 598 1109 (Bt 37) "" LA false++(Cs 603 1115 (Bt 38) "" LA false++(Cs 608 1121 (Bt 39) "" LA false++(Cs 613 1127 (Bt 40) "" LA false)))))))))))))))))))))))))))))))))))))))))))))))))))))))))))))))))))))))))))))))))))))))))))))))))
def Uw:List Nat:= [2,3,15,17,18,20,21,29,31,32,34,35,36,37,38,39,40,50,53,54,55,57,58,60,61,62,64,65,67,68,69,70,71,72,73,76,79,84,85,87,88,90,91,92,94,95,97,98,99,101,102,104,105,106,108,109,111,112,113,115,116,118,119,120,122,123,125,126,127,129,130,132,133,134,135,136,146,147,148,149,150,160,161,162,163,164,174,175,177,178,180,181,182,183,184,185,186,196,198,199,201,202,203,205,206,208,209,210,212,213,215,216,217,218,219,220,221,231,232,233,235,236,238,239,240,241,243,244,246,247,248,250,251,253,254,255,257,258,260,261,262,264,265,267,268,269,271,272,274,275,276,278,279,281,282,283,285,286,288,289,290,292,293,295,296,297,299,300,302,303,304,306,307,309,310,311,312,313,314,315,318,320,321,323,324,332,334,335,337,338,339,342,343,344,346,347,349,350,351,352,353,354,355,365,366,368,369,371,372,373,374,375,376,377,387,389,390,392,393,394,396,397,399,400,401,403,404,406,407,408,410,411,413,414,415,417,418,420,421,422,423,424,425,426,436,438,439,441,442,443,445,446,448,449,450,451,453,454,456,457,458,459,461,462,464,465,466,468,469,471,472,473,474,476,477,479,480,481,483,484,486,487,488,490,491,493,494,495,497,498,500,501,502,503,505,506,508,509,510,512,513,515,516,517,519,520,522,523,524,526,527,529,530,531,532,534,535,537,538,539,540,541,542,543,553,554,555,556,557,560,562,563,565,566,567,569,570,572,573,574,576,577,579,580,581,584,585,586,588,589,591,592,593,596,597,598,601,602,603,606,607,608,611,612,613,616,617]
def Xz (l:List Obj):List Nat->Nat->Frag:= @List.rec Obj (λU=>List Nat->Nat->Frag) (λU U=> []) (λo U r as i=>List.casesOn as [] λa b=>cond (Nat.beq a i) ((i,o)::r b (i+1)) (r (a::b) (i+1))) l
def Wy (P:Params):List Obj:=HY P (Kf P LA 42) 25 [Bj 136]
def J8 (P:Params):Frag:=Xz (Wy P) Uw 0
abbrev Jz:Program:=PySem.Challenge.pw_ix0011_01
def Fs:Q0 where
 O7:= [(0,38),(1,71),(2,136),(3,184),(4,219),(5,313),(6,353),(7,375),(8,424),(9,541)]
 c0:=38
 Je:= [(0,324),(1,566),(2,573),(3,580),(4,585),(5,592),(6,597),(7,602),(8,607),(9,612),(10,617),(11,35),(12,54),(13,61),(14,68),(15,91),(16,98),(17,105),(18,112),(19,119),(20,126),(21,133),(22,181),(23,202),(24,239),(25,247),(26,254),(27,338),(28,372),(29,393),(30,421),(31,442),(32,449),(33,457),(34,465),(35,472),(36,480),(37,487),(38,494),(39,501),(40,509),(41,516),(42,523),(43,530),(44,538)]
 f0:=324
 ts:= [(34,460),(35,467),(40,504),(10,614)]
 pos:= [((575,137),(10,false)),((575,171),(10,false)),((302,51),(34,false)),((395,35),(40,false)),((315,38),(35,true))]
def IV (P:Params)(f:Nat):FuncData:=(Kg (J8 P) (CD Fs.Je Fs.f0 f)).getD default
def wK (P:Params):T5 (J8 P) (CD Fs.O7 Fs.c0) (CD Fs.Je Fs.f0) (PY Fs.O7 Fs.c0) (PY Fs.Je Fs.f0):=⟨by nofun,by nofun,by nofun,by nofun,by nofun,by nofun,by nofun,by nofun,by nofun,by nofun,by nofun,by nofun⟩
def vM {α:Type}{o:Option α}{d:α}(h:o.isSome=true):o=some (o.getD d):=by
 cases o with
 |none=>exact gI h
 |some=>rfl
inductive Mw (F:Nat->CP->A2->Prop):List (Nat×CP×A2)->Prop
 |nil:Mw F []
 |cons (f:Nat) (d:CP) (b:A2) (l:List (Nat×CP×A2)) (h:F f d b) (r:Mw F l):Mw F ((f,d,b)::l)
theorem Mw.get {F:Nat->CP->A2->Prop}{l:List (Nat×CP×A2)}{f:Nat}{q:CP×A2}(a:Mw F l)(e:(f,q)∈l):F f q.1 q.2:=by
 induction a with
 |nil=>exact absurd e List.not_mem_nil
 |cons i d b l h r ih=>
  rcases List.mem_cons.mp e with e|e
  ·have e1:f=i:=congrArg Prod.fst e
   have e2:q=(d,b):=congrArg Prod.snd e
   subst e1;subst e2;exact h
  ·exact ih e
section
variable {w:World}{hp:Heap}{mg mb:Str->Option Value}{os:OsState}{cf:Cc}{n:Nat}
abbrev I2 (w:World)(hp:Heap)(mg mb:Str->Option Value)(os:OsState):Bl:=R7 Fs Jz w (J8 w.params) hp mg mb os
def lz {f:Nat}{d:CP}(X:(J8 w.params).In (I2 w hp mg mb os).g0)(h:((Kg (J8 w.params) (CD Fs.Je Fs.f0 f)).isSome && Ro (J8 w.params) (IV w.params f) d)=true):PT (I2 w hp mg mb os) f d (IV w.params f).scope (FK (IV w.params f)):=
 qD X (vM (aH h)) rfl rfl (aA h)
def Xi (P:Params):JM:=⟨((Kg (J8 P) 303).getD default).scope,"RangeSet.__iter__",.ref 302,"_ranges","r","self",⟨192,12,192,13⟩,⟨192,17,192,21⟩,⟨192,17,192,29⟩,⟨193,18,193,19⟩,⟨193,12,193,19⟩,⟨193,12,193,19⟩,⟨192,8,193,19⟩,303⟩
def wZ (X:(J8 w.params).In (I2 w hp mg mb os).g0):Ps (I2 w hp mg mb os) (Xi w.params) IW:=
 oh (a1:=⟨"self",none,⟨191,17,191,21⟩⟩) (fd:=(Kg (J8 w.params) 303).getD default) X (by nofun) (by nofun) (by nofun)
def u7 (hh:DC (I2 w hp mg mb os) (n+1) cf)(X:(J8 w.params).In (I2 w hp mg mb os).g0):Mt (I2 w hp mg mb os) cf (n+1) (Nh Fs.pos Fs.ts) CY where
 hh:=hh
 lam:=oz hh.w
 Gz:=λU=>vd hh.w hh.k
 tup:=rn hh
 gen:=λtg=>lA hh.w hh.k (wZ X)
 WP:=λf p q h=>oH rfl rfl h
abbrev Uk:List Keyword:= [⟨some "max_datagram_size",.Name "max_datagram_size" ⟨63,43,63,60⟩,⟨63,25,63,60⟩⟩]
def u6 (C:Mt (I2 w hp mg mb os) cf n (Nh Fs.pos Fs.ts) CY)(X:(J8 w.params).In (I2 w hp mg mb os).g0):LG (I2 w hp mg mb os) n cf K7 K5 15:=by
 refine .mk (IV w.params 15).scope (TQ ⟨63,8,63,13⟩ ⟨63,8,63,15⟩ ⟨63,8,63,24⟩ ⟨63,8,63,61⟩ ⟨63,8,63,61⟩ Uk (FK (IV w.params 15)).tail) (lz X (by nofun)) ?_
 exact kU (mk:=Aq AW (Aa AW) Az) C.hh (pA (x:="self") (fd:=IV w.params 15) (f0:=11) (C:=Eo) X (by nofun) (by nofun)) (by decide) rfl (by nofun) (by nofun) (by nofun) (Cb.sound (P:=λm=>Mr (I2 w hp mg mb os) cf n ⟨some 15,(IV w.params 15).scope.names⟩ m Uk) (d:=Az) (t:=kws (Pi C 40) ⟨some 15,(IV w.params 15).scope.names⟩ Uk) (by nofun) (by nofun)) (Cb.sound (P:=λm=>I4 (I2 w hp mg mb os) cf n ⟨some 15,(IV w.params 15).scope.names⟩ m (FK (IV w.params 15)).tail) (d:=AN) (t:=QA C (Pi C 40) ⟨some 15,(IV w.params 15).scope.names⟩ 12 (FK (IV w.params 15)).tail) (by nofun) (by nofun))
def uV (C:Mt (I2 w hp mg mb os) cf n (Nh Fs.pos Fs.ts) CY)(X:(J8 w.params).In (I2 w hp mg mb os).g0){f:Nat}{d:CP}{b:A2}{l:List (Nat×CP×A2)}(h:((Kg (J8 w.params) (CD Fs.Je Fs.f0 f)).isSome && Ro (J8 w.params) (IV w.params f) d)=true)
  (h1:(QA C (Pi C 40) ⟨some f,(IV w.params f).scope.names⟩ 12 (FK (IV w.params f))).isOk=true)(h2:(QA C (Pi C 40) ⟨some f,(IV w.params f).scope.names⟩ 12 (FK (IV w.params f))).get AN=b)(r:Mw (λf d b=>LG (I2 w hp mg mb os) n cf d b f) l):
  Mw (λf d b=>LG (I2 w hp mg mb os) n cf d b f) ((f,d,b)::l):= .cons _ _ _ _ (qs C (lz X h) h1 h2) r
def uU (C:Mt (I2 w hp mg mb os) cf n (Nh Fs.pos Fs.ts) CY)(X:(J8 w.params).In (I2 w hp mg mb os).g0):Mw (λf d b=>LG (I2 w hp mg mb os) n cf d b f) Uu:=by
 iterate 15 refine uV C X (by nofun) (by nofun) (by nofun) ?_
 refine .cons _ _ _ _ (u6 C X) ?_
 iterate 29 refine uV C X (by nofun) (by nofun) (by nofun) ?_
 exact .nil
def xx:∀ f,f < 45->(look f Uu).isSome=true:=by decide+kernel
def wf (C:Mt (I2 w hp mg mb os) cf n (Nh Fs.pos Fs.ts) CY)(X:(J8 w.params).In (I2 w hp mg mb os).g0)(f:Nat):LG (I2 w hp mg mb os) n cf (TB f) (TA f) f:=by
 rcases Nat.lt_or_ge f 45 with l|l
 ·obtain⟨q,e⟩:=Option.isSome_iff_exists.mp (xx f l)
  have h:=(uU C X).get (aW e)
  unfold TB TA Qs
  rw[e];exact h
 ·obtain⟨k,e⟩:=Nat.exists_eq_add_of_le' l
  rw[e]
  exact .mk (IV w.params (k+45)).scope (FK (IV w.params (k+45))) (lz X (by nofun)) λU U U U U U U U U q=>q.elim
def sM (hW:(I2 w hp mg mb os).Ok)(X:(J8 w.params).In (I2 w hp mg mb os).g0):∀ n,PP (I2 w hp mg mb os) (n+1) (Px TB TA n):=
 jb hW (tw (W:=I2 w hp mg mb os) (wK w.params) rfl rfl) λU U f hh=>wf (u7 hh X) X f
end
def jP (P:Params):PG Fs (J8 P)=true:=by nofun
def uW {L:List Addr}{h:Heap}{c P:Addr}{ps:Array Value}(x:CodeHd (hideAll h L) c P)(hP:h.get? P=some (tabObj ps)):isCodeTable h P:=⟨c,((x.keeps λb o e=>of_hideAll _ e).tab hP).1⟩
section
variable {w:World}{mg mb:Str->Option Value}{s:Shared}{q:Program}{loose:List Str}{mean:ExcName->Option Value}
def oB (T:Top q loose mean mg mb s.heap)(X:(J8 w.params).In s.heap)(EP:∀ P∈Fs.ts.map (·.2),s.heap.get? P=some (tabObj #[]))(hg:s.gens= #[])
  {b:Addr}{vals:Array Value}{m:Nat}{l:List Int}(e:s.heap.get? b=some { cls:= .type "list",data:= .seq vals m })(hi:IntsAre vals.toList l)(hl:l.length<=63):
  codeAny (model Jz w) callerA (.call (.ref 617) ⟨[.ref b],[]⟩) (λr s'=>r= .ok (.ret (.bool true))/\OldK s.heap s'.heap/\s'.os=s.os/\AllBare s'.gens) s:=by
 have hW:(I2 w s.heap mg mb s.os).Ok:=uX (jP _) X T EP
 have hb:b ∉ Fs.ts.map (·.2):=λz=>Data.noConfusion (congrArg Obj.data (fz e (EP b z)))
 refine codeAny_mono (sM hW (gt (jP _) X) 8 (f:=Rl) (es:= [.DM l]) (kws:= []) (Q:=λv U=>v= .bool true) (ws:= [.ref b]) (wk:= []) (oK s EP hg) ⟨rfl,by decide,by decide⟩ (.mk _ _ (.mk b vals m (hideAll_get _ e hb) hi (Nat.le_trans hl (by decide))) .mk) .nil (mO l hl)) λr s' z=> ?_
 cases z with |mk w' s' z=>
 cases z with |mk g' le h' o v r q=>
 subst q
 cases r
 have h2:∀ a,a∈Fs.ts.map (·.2)->EY (I2 w s.heap mg mb s.os) a:=λa ha=>by
  show a∈(Fs.ts.map λq=>(Lx (J8 w.params) (CD Fs.Je Fs.f0 q.1),q.2)).map (·.2)
  rw[List.map_map];exact ha
 refine⟨rfl,⟨λa ob ea=> ?_,λa ob ea=> ?_⟩,o.os,o.gens⟩
 ·by_cases na:a∈Fs.ts.map (·.2)
  ·obtain⟨ps,e1,r⟩:=o.tabs a (h2 a na)
   obtain⟨r,hr,er⟩:=List.mem_map.mp (h2 a na)
   have eo:=fz ea (EP a na)
   subst eo
   exact .inr (.inl ⟨uW (er▸(hW.tabs r hr).1) (EP a na),rfl,#[],ps,rfl,by rw[e1];simp⟩)
  ·exact .inl (o.old (hideAll_get _ ea na))
 ·by_cases na:a∈Fs.ts.map (·.2)
  ·obtain⟨ps,e1,r⟩:=o.tabs a (h2 a na)
   exact⟨_,e1⟩
  ·exact⟨ob,o.old (hideAll_get _ ea na)⟩
end
def qj {R:WRecords}{d:WData}(h:WShape.has R d .int=true):∃ i,d= .int i:=by
 induction d using WData.casesOn with
 |int i=>exact⟨i,rfl⟩
 |_=>exact gI h
def nT {R:WRecords}{d:WData}(h:WShape.has R d (.list .int)=true):∃ xs,d= .list xs/\WShape.hasItems R xs .int=true:=by
 induction d using WData.casesOn with
 |list xs=>exact⟨xs,rfl,(Bool.or_eq_true_iff.mp (show(WShape.hasItems R xs .int||false)=true from h)).resolve_right (λz=>gI z)⟩
 |_=>exact gI h
def uY {P:Params}{h:Heap}{v:Value}{d:WData}(x:Well P h v d):∀ i,d= .int i->∃ t,v= .int i t:=by
 induction x using Well.casesOn with
 |int i t=>exact λj e=>WData.int.inj e▸⟨t,rfl⟩
 |_=>exact λ_ e=>nomatch e
def uZ {P:Params}{h:Heap}{v:Value}{d:WData}(x:Well P h v d):∀ xs,d= .list xs->∃ a vs,v= .ref a/\h.get? a=some { cls:= .type "list",data:= .seq (List.toArray vs) }/\WellAll P h vs xs:=by
 induction x using Well.casesOn with
 |list e r=>exact λj q=>WData.list.inj q▸⟨_,_,rfl,e,r⟩
 |_=>exact λ_ e=>nomatch e
def qJ {R:WRecords}{P:Params}{h:Heap}{xs:List WData}:∀ {vs:List Value},WellAll P h vs xs->WShape.hasItems R xs .int=true->∃ l:List Int,l.length=xs.length/\IntsAre vs l:=by
 induction xs with
 |nil=>
  intro vs a e
  cases a with |nil=>exact⟨[],rfl,.nil⟩
 |cons x xs ih=>
  intro vs a e
  have e:(WShape.has R x .int && WShape.hasItems R xs .int)=true:=e
  obtain⟨v,vs',ev,wv,wr⟩:=wellAll_cons_inv a
  obtain⟨i,ei⟩:=qj (aH e)
  obtain⟨l,Kh,b⟩:=ih wr (aA e)
  subst ev;subst ei
  obtain⟨t,et⟩:=uY wv _ rfl
  subst et
  exact⟨i::l,congrArg (· +1) Kh,.cons i t b⟩
abbrev Jj:RowW:=PySem.Challenge.rw_ix0011_01.row.toRowW
def tB {R:WRecords}{xs:List WData}(h2:(WTm.and (.not (.lt (.lit (.int 63)) (.len (.arg 0)))) (.lit (.bool true))).holds R { args:= [.list xs] }=true):xs.length<=63:=by
 refine Nat.le_of_not_lt λz=> ?_
 revert h2
 simp only[WTm.holds,WTm.value,List.getElem?_cons_zero]
 have y:less? (.int 63) (.int (xs.length:Int))=some true:=congrArg some (decide_eq_true (by omega))
 simp [y]
def qo {args:List WData}(h:Jj.claim.pre args=true):∃ xs,args= [.list xs]/\WShape.hasItems [] xs .int=true/\xs.length<=63:=by
 obtain⟨h1,h2⟩:=pre_splitW h
 obtain⟨d,r,e,h3,h4⟩:=hasAllW_cons (e:= .list .int) (es:= []) h1
 obtain⟨xs,e2,h5⟩:=nT h3
 subst e;subst e2
 cases r with
 |cons=>exact gI h4
 |nil=>exact⟨xs,rfl,h5,tB h2⟩
section
variable {q:Program}{loose:List Str}{XP:(Str->Option Value)->Heap->Prop}{YP:World->Heap->Prop}{d:DefRec}{kwd:List (Str×PySem.Expr)}
def tA (P:Params):nsIn (J8 P) mainGlobals "law"=some (some (.ref 617)):=by nofun
def sh (hd:d.name=("law":Str))(hY:∀ w h,YP w h->(J8 w.params).In h/\∀ P∈Fs.ts.map (·.2),h.get? P=some (tabObj #[])):WalkO q loose XP YP Jj d kwd (λf vs=>PySem.call f vs):=by
 intro w s₀ s₁ mg mb G Y a o pm cdv doc dV kV ha ho hc Np hm hg args vals as iY hlay Bj hWl hsys
 obtain⟨xs,ex,h1,h2⟩:=qo iY
 subst ex
 obtain⟨X,EP⟩:=hY w s₁.heap Y
 have ea:a=617:=Value.ref.inj (Option.some.inj ((hd▸hm).symm.trans (mg_of X G.T.g (tA w.params))))
 subst ea
 obtain⟨v,vs',ev,wv,wr⟩:=wellAll_cons_inv hWl
 subst ev
 cases wr
 obtain⟨b,us,eb,e,r⟩:=uZ wv _ rfl
 subst eb
 obtain⟨l,Kh,l2⟩:=qJ r h1
 exact wpAny_call (codeAny_mono (oB G.T X EP hg (l:=l) e (by simpa using l2) (Kh▸h2)) λr s' z=>z.1▸⟨.inl ⟨.bool true,.bool true,[],rfl,λU=>rfl,.bool true,by nofun,λU=>⟨.nil,λU h=>nomatch h⟩⟩,z.2.1,z.2.2.1,z.2.2.2⟩)
end
def FU (i n:Nat):List Stmt:=(Wg.drop i).take n
def WL (l:List Obj):List Obj:= @List.rec Obj (λU=>Bool->List Obj) (λU=> []) (λx U r b=>cond b (x::r false) (r true)) l true
def GM (k:Nat):List Obj->BT:= @Nat.rec (λU=>List Obj->BT) (λU=> .nil) (λU r l=>List.casesOn l .nil λx l=> .node x (r (WL l)) (r (WL l.tail))) k
def R3:PySem.Env:={ scope:=Jz.main.scope,locals:=mainNs,globals:=mainNs,cells:= [],code:= .ref 13,frame:=some 14 }
def Kq:Code:= .body (behindTheImports Jz) R3
def QU:List Frame:= [topFrame ⟨0,0,0,0⟩]
def O4 (T:Params->BT)(n k:Nat)(w:World)(os:OsState):SharedT:=⟨T w.params,n,{},#[],{},k,os⟩
def GL (h:Params->Heap)(k:Nat)(w:World)(os:OsState):Shared:=⟨h w.params,#[],{},k,os⟩
def CJ (P:Params):Heap:={ objs:=⟨Wy P⟩ }
def Wz (P:Params):Heap:={ objs:=⟨(HY P (boot_o_3 P) 0 []).take 15⟩ }
def WD (P:Params):BT:=GM 12 ((HY P (boot_o_3 P) 0 []).take 15)
def J1 (m n k:Nat)(T:Params->BT)(l:List Stmt)(p:Pos)(w:World):OsState->Option (Flow×SharedT×Code×Pos):=λos=>Fast.tw10110043849684766642 Fast.tw14364793385576792824 Jz w 11 (some (.ref 6)) 1 m (O4 T n k w os) (piecesOf l R3 Kq p QU)
def J2 (n k:Nat)(T:Params->BT)(p:Pos)(w:World):OsState->Option (Flow×SharedT×Code×Pos):=λos=>some (.next,O4 T n k w os,Kq,p)
def b7 {T U:Params->BT}{m n i k j N:Nat}{l r:List Stmt}{p q:Pos}{w:World}{os:OsState}{z:Shared}(h:J1 m n k T l p w=J2 i j U q w)(e:topRun treeTable Jz w 11 (some (.ref 6)) N (O4 U i j w os).abs (restOf r R3 Kq q QU)=some z):
  topRun treeTable Jz w 11 (some (.ref 6)) (m+N) (O4 T n k w os).abs (restOf (l++r) R3 Kq p QU)=some z:=by
 have h:=congrFun h os
 unfold J1 J2 at h
 rewrite[<-Fast.te10110043849684766642,<-Fast.te14364793385576792824] at h
 exact piece_app (segRun_of h) e
def We (P:Params):BT:=GM 12 ((HY P (Kf P Oo 13) 2 []).take 43)
def wR (w:World):J1 317 15 187 WD (FU 0 6) ⟨0,0,0,0⟩ w=J2 43 236 We ⟨8,0,14,69⟩ w:=by nofun
def Wh (P:Params):BT:=GM 12 ((HY P (Kf P MW 14) 3 []).take 76)
def wa (w:World):J1 304 43 236 We (FU 6 2) ⟨8,0,14,69⟩ w=J2 76 293 Wh ⟨59,0,59,8⟩ w:=by nofun
def WE (P:Params):BT:=GM 12 ((HY P (Kf P MW 15) 4 [Bj 136]).take 139)
def wT (w:World):J1 465 76 293 Wh (FU 8 1) ⟨59,0,59,8⟩ w=J2 139 379 WE ⟨60,0,105,50⟩ w:=by nofun
def WF (P:Params):BT:=GM 12 ((HY P (Kf P Op 16) 5 [Bj 136]).take 153)
def xp (w:World):J1 239 139 379 WE (FU 9 2) ⟨60,0,105,50⟩ w=J2 153 409 WF ⟨107,0,111,15⟩ w:=by nofun
def WG (P:Params):BT:=GM 12 ((HY P (Kf P Op 17) 6 [Bj 136]).take 167)
def xq (w:World):J1 210 153 409 WF (FU 11 1) ⟨107,0,111,15⟩ w=J2 167 433 WG ⟨112,0,114,12⟩ w:=by nofun
def WH (P:Params):BT:=GM 12 ((HY P (Kf P Ij 18) 7 [Bj 136]).take 189)
def xr (w:World):J1 249 167 433 WG (FU 12 2) ⟨112,0,114,12⟩ w=J2 189 480 WH ⟨127,0,127,8⟩ w:=by nofun
def WI (P:Params):BT:=GM 12 ((HY P (Kf P Ij 19) 8 [Bj 136]).take 224)
def xt (w:World):J1 295 189 480 WH (FU 14 1) ⟨127,0,127,8⟩ w=J2 224 528 WI ⟨128,0,138,68⟩ w:=by nofun
def WJ (P:Params):BT:=GM 12 ((HY P (Kf P Ij 20) 9 [Bj 136]).take 318)
def xu (w:World):J1 555 224 528 WI (FU 15 1) ⟨128,0,138,68⟩ w=J2 318 640 WJ ⟨139,0,196,32⟩ w:=by nofun
def WK (P:Params):BT:=GM 12 ((HY P (Kf P Es 28) 11 [Bj 136]).take 358)
def xw (w:World):J1 380 318 640 WJ (FU 16 9) ⟨139,0,196,32⟩ w=J2 358 709 WK ⟨213,0,231,77⟩ w:=by nofun
def Ux (P:Params):BT:=GM 12 ((HY P (Kf P Es 29) 12 [Bj 136]).take 380)
def wD (w:World):J1 239 358 709 WK (FU 25 1) ⟨213,0,231,77⟩ w=J2 380 750 Ux ⟨232,0,246,30⟩ w:=by nofun
def Uy (P:Params):BT:=GM 12 ((HY P (Kf P Es 30) 13 [Bj 136]).take 429)
def wE (w:World):J1 357 380 750 Ux (FU 26 1) ⟨232,0,246,30⟩ w=J2 429 817 Uy ⟨247,0,270,46⟩ w:=by nofun
def Uz (P:Params):BT:=GM 12 ((HY P (Kf P Es 31) 14 [Bj 136]).take 546)
def wF (w:World):J1 842 429 817 Uy (FU 27 1) ⟨247,0,270,46⟩ w=J2 546 1024 Uz ⟨271,0,471,114⟩ w:=by nofun
def UA (P:Params):BT:=GM 12 ((HY P (Kf P LA 36) 19 [Bj 136]).take 586)
def wG (w:World):J1 383 546 1024 Uz (FU 28 7) ⟨271,0,471,114⟩ w=J2 586 1089 UA ⟨490,0,491,96⟩ w:=by nofun
def Qi (P:Params):BT:=GM 12 ((HY P (Kf P LA 42) 25 [Bj 136]).take 618)
def wH (w:World):J1 167 586 1089 UA (FU 35 6) ⟨490,0,491,96⟩ w=J2 618 1133 Qi ⟨570,0,644,15⟩ w:=by nofun
def iY (w:World):(λos=>Fast.tw15667345088766844465 Fast.tw14364793385576792824 Jz w 11 (some (.ref 6)) 12 ⟨boot_heap w.params,#[],boot_drawn,boot_toks,os⟩ (topStub Jz))=λos=>some (GL Wz 187 w os,⟨Fast.tw11892475500146522536 Fast.tw14364793385576792824 Kq,Kq,⟨0,0,0,0⟩,QU⟩):=by nofun
def wt (w:World):(λos=>Fast.tw14374325043358763698 Fast.tw14364793385576792824 Jz w 11 (some (.ref 6)) 1 1 (GL Wz 187 w os) (blockOf (behindTheImports Jz) R3 Kq ⟨0,0,0,0⟩ QU))=λos=>some (.next,(O4 WD 15 187 w os).abs,Kq,⟨0,0,0,0⟩):=by nofun
def w8:behindTheImports Jz=FU 0 6++(FU 6 2++(FU 8 1++(FU 9 2++(FU 11 1++(FU 12 2++(FU 14 1++(FU 15 1++(FU 16 9++(FU 25 1++(FU 26 1++(FU 27 1++(FU 28 7++(FU 35 6++([])))))))))))))):=by nofun
def sq (P:Params):absHeap (Qi P) 618 {}=CJ P:=by nofun
def wu (w:World):(λos=>Fast.tw14082659384304107361 Fast.tw14364793385576792824 Jz w 11 (some (.ref 6)) 2 (O4 Qi 618 1133 w os).abs ⟨doneF .next,Kq,⟨570,0,644,15⟩,QU⟩)=λos=>some (O4 Qi 618 1133 w os).abs:=by nofun
def wI (w:World)(os:OsState):topRun treeTable Jz w 11 (some (.ref 6)) 5017 ⟨boot_heap w.params,#[],boot_drawn,boot_toks,os⟩ (topStub Jz)=some (GL CJ 1133 w os):=by
 have a:=congrFun (iY w) os
 have b:=congrFun (wt w) os
 have c:=congrFun (wu w) os
 have e:(O4 Qi 618 1133 w os).abs=GL CJ 1133 w os:=congrArg (λh=>Shared.mk h #[] {} 1133 os) (sq w.params)
 rewrite[<-Fast.te15667345088766844465,<-Fast.te14364793385576792824,<-Fast.te11892475500146522536] at a
 rewrite[<-Fast.te14374325043358763698,<-Fast.te14364793385576792824] at b
 rewrite[<-Fast.te14082659384304107361,<-Fast.te14364793385576792824] at c
 refine go_top (n:=12) (N:=5005) a (piece_block (n:=1) (N:=5004) b ?_)
 rewrite[w8]
 exact b7 (N:=4687) (wR w) (b7 (N:=4383) (wa w) (b7 (N:=3918) (wT w) (b7 (N:=3679) (xp w) (b7 (N:=3469) (xq w) (b7 (N:=3220) (xr w) (b7 (N:=2925) (xt w) (b7 (N:=2370) (xu w) (b7 (N:=1990) (xw w) (b7 (N:=1751) (wD w) (b7 (N:=1394) (wE w) (b7 (N:=552) (wF w) (b7 (N:=169) (wG w) (b7 (N:=2) (wH w) (piece_nil (c.trans (congrArg some e))))))))))))))))
def CX:Program:=view Jz [0,2,3,4,5,6,8,10,11,12,14,15,17,18,19,20,21,22,23,24,25,26,27,29,31,32,33,34,35,36,37,38,39,40]
def L9:List Str:= ["QuicCongestionControl","Epoch","QuicDeliveryState","RangeSet","QuicPacketSpace","QuicPacketRecovery","QuicPacketType"]
def Ts (s:Shared):Bool:=xlAt CX [] s && recOk EI.row.records s
def w7 (P:Params):Uw=(J8 P).map (·.1):=by nofun
def On:Hook:=kmHook J8 Uw w7 [460,467,504,614]
def sw (w:World):(λos=>staticsOk (importedModules Jz.main.body) (boot_heap w.params) (CJ w.params) && namesBound Jz (CJ w.params) && gensDone (GL CJ 1133 w os) && laidKept (boot_heap w.params) (CJ w.params))=λU=>true:=by nofun
def lW (w:World):(λos=>PyProof.Rows.seen ((PyProof.Rows.recsOf CX).map (·.name)) (PyProof.Rows.ownsOf CX) [] { GL CJ 1133 w os with gens:= #[] })=λU=>PyProof.Rows.expectedOf CX:=by nofun
def xi (w:World):(λos=>(GL CJ 1133 w os).heap.bltView)=λU=>bltViewBooted:=by nofun
def xj (w:World):(λos=>(GL CJ 1133 w os).heap.keysOk (looseW CX L9) ((recsOf CX).map (·.name)) ((litsOf CX).map (·.1)) ((clssOf CX (looseW CX L9)).map (·.name)) && (GL CJ 1133 w os).heap.accountedOkI (importedModules Jz.main.body) && (GL CJ 1133 w os).heap.isNs mainGlobals && (GL CJ 1133 w os).heap.isNs builtinsNs && tablesOk CX (GL CJ 1133 w os).heap && Ts (GL CJ 1133 w os) && (GL CJ 1133 w os).gens.size==0)=λU=>true:=by nofun
def te (w:World):(λos=>tabsOk CX (GL CJ 1133 w os))=λU=>true:=by nofun
def xk (w:World):(λos=>pinSeenD CX (drecsOf CX) (GL CJ 1133 w os))=λU=>pinGoodD (drecsOf CX):=by nofun
def xl (w:World):(λos=>plainSeenE CX (looseW CX L9) (GL CJ 1133 w os))=λU=>plainGoodE CX (looseW CX L9):=by nofun
def xn (w:World):(λos=>plainSeenD CX L9 (GL CJ 1133 w os))=λU=>plainGoodD CX L9:=by nofun
def xo (w:World):(λos=>wideSeen CX (GL CJ 1133 w os))=λU=>wideGood CX:=by nofun
def ww (w:World):(λos=>clsSeenW CX L9 (GL CJ 1133 w os))=λU=>clsGoodW CX L9:=by nofun
def wx (w:World):(λos=>On.obs (GL CJ 1133 w os))=λU=>On.val w:=by nofun
def wz:opening Jz=plainProg Jz.main.scope.names:=by nofun
def wA (s:Shared):fenceModules? Jz s=some s:=by nofun
def wB (w:World):((boot_heap w.params).isNs mainGlobals && (#[]:Array GenState).size==0,(boot_heap w.params).objs.size,(boot_heap w.params).nsMap mainGlobals "__annotations__")=(true,11,some (.ref 6)):=by nofun
def wC:(chainsOk CX && opensWell EI.row.prog && (frees EI.row.toRowW && EI.row.within.isEmpty))=true:=by nofun
def wU:(defOf CX "law").isSome=true:=by nofun
def JW:DefRec×List (Str×PySem.Expr):=(defOf CX "law").get wU
def pN (w:World):(λos=>((staticsOk (importedModules Jz.main.body) (boot_heap w.params) (CJ w.params) && namesBound Jz (CJ w.params) && gensDone (GL CJ 1133 w os) && laidKept (boot_heap w.params) (CJ w.params)),
  openSeen CX L9 (importedModules Jz.main.body) Ts true (GL CJ 1133 w os),On.obs (GL CJ 1133 w os)))=λU=>(true,openGood CX L9,On.val w):=funext λos=>
 looks_pair (congrFun (sw w) os) (looks_pair (looks_pair (congrFun (lW w) os) (looks_pair (congrFun (xi w) os) (looks_pair (congrFun (xj w) os) (looks_pair (congrFun (te w) os) (looks_pair (congrFun (xk w) os) (looks_pair (congrFun (xl w) os) (looks_pair (congrFun (xn w) os) (looks_pair (congrFun (xo w) os) (congrFun (ww w) os))))))))) (congrFun (wx w) os))
def u5:LeftO Jz CX L9 Ts On.obs On.val 20000:=LeftO.of_pieces (boot_open wz rfl wA) wB wI rfl pN
def sj:defOf CX EI.row.name=some (JW.1,JW.2):=by nofun
def sr:EI.row.prog.theDef EI.row.name=some (JW.1.params,JW.1.body,JW.1.scope):=by nofun
def w9:kwWritten? JW.1.params.kwonlyargs JW.1.params.kw_defaults=some JW.2:=by nofun
def xb:JW.1.name=("law":Str):=by nofun
def xd:(!EI.row.writes||EI.row.records.isEmpty)=true:=by nofun
def xf:EI.row.claim.pre [.list []]=true:=by nofun
def xg:(WData.layableAll [.list []] && EI.row.returnsAt [.list []])=true:=by nofun
def xh:EI.row.prog.tablesWhole=true:=by nofun
def fin:EI.Holds:=holds_law wy λsaid=>
 PySem.W.holds_open (r:=EI.row) (q:=CX) (loose:=L9) (Xt:=Ts) (YP:=On.says) (XP:=XL CX []) (d:=JW.1) (kwd:=JW.2) u5 On.of On.keeps (λs e=>xl_of s (aH e)) XL.keeps sj sr w9 (λs e=>recFacts_of (aA e)) xd said wC ⟨rfl,rfl,rfl,rfl,rfl,xh⟩ ⟨[.list []],xf,xg⟩
  (sh xb λw h Y=>⟨km_in_of Y,km_tabs_of Y⟩)
end Mi
end
theorem PySem.Challenge.cw_ix0011_01_holds : PySem.Challenge.rw_ix0011_01.Holds :=
  Mi.fin
