import PyProof.Rows.All
import Wide.All
import OpenK.AllK
import Wide.FinOn
import Lean
import PySem.Challenge.RW_wr0047_01
set_option maxRecDepth 100000
set_option Elab.async false
set_option linter.unusedVariables false
set_option linter.unusedSimpArgs false
set_option bootstrap.genMatcherCode false
set_option genSizeOf false
set_option compiler.extract_closed false
set_option backward.eqns.nonrecursive false
set_option backward.eqns.deepRecursiveSplit false
set_option tactic.hygienic false
namespace W47
noncomputable section
open PySem PySem.W PySem.Calls PyProof.Rows
noncomputable abbrev Pr:Program:=PySem.Challenge.pw_wr0047_01
noncomputable def fArgs:Stmt→Arguments
 | .FunctionDef _ a _ _ _ _ _ _ _ _=>a
 | _=>⟨[],[],none,[],[],none,[]⟩
noncomputable def fBody:Stmt→List Stmt
 | .FunctionDef _ _ b _ _ _ _ _ _ _=>b
 | .ClassDef _ _ _ b _ _ _ _ _ _ _=>b
 | _=>[]
noncomputable def fScope:Stmt→Scope
 | .FunctionDef _ _ _ _ _ _ s _ _ _=>s
 | _=>{kind:=.module,names:=[],isGenerator:=false,isCoroutine:=false,more:=[]}
noncomputable def pb (i:Nat):Stmt:=Pr.main.body.getD i (.Pass ⟨0,0,0,0⟩)
noncomputable def cb (i:Nat):Stmt:=(fBody (pb 3)).getD i (.Pass ⟨0,0,0,0⟩)
noncomputable def o11 (P:Params):Obj:=⟨.type "tuple",none,.seq ⟨[]⟩ 0,⟨[]⟩⟩
noncomputable def o13 (P:Params):Obj:=⟨.type "code",none,.fields ⟨[.str ⟨⟨[60,109,111,100,117,108,101,62]⟩⟩ 182,.str ⟨⟨[60,109,111,100,117,108,101,62]⟩⟩ 183,.str ⟨⟨[47,99,108,97,105,109,47,99,117,116,46,112,121]⟩⟩ 184,.int (1) 0,.int (0) 0,.int (0) 0,.int (0) 0,.int (0) 0,.ref 11,.bool false,.int (181) 0,.ref 12,.none,.none,.none,.none,.int (185) 0,.int (1) 0,.str ⟨⟨[47,99,108,97,105,109,47,99,117,116,46,112,121]⟩⟩ 186]⟩,⟨[]⟩⟩
noncomputable def o14 (P:Params):Obj:=⟨.type "frame",none,.plain,⟨[(some (.ref 13)),(some (.ref 3)),(some (.ref 3)),none,(some (.str ⟨⟨[95,95,109,97,105,110,95,95]⟩⟩ 164)),none,(some (.ref 0))]⟩⟩
noncomputable def o15 (P:Params):Obj:=⟨.type "tuple",none,.seq ⟨[]⟩ 0,⟨[]⟩⟩
noncomputable def o16 (P:Params):Obj:=⟨.none,none,.fields ⟨[]⟩,⟨[]⟩⟩
noncomputable def o17 (P:Params):Obj:=⟨.type "tuple",none,.seq ⟨[.str ⟨⟨[107]⟩⟩ 190]⟩ 0,⟨[]⟩⟩
noncomputable def o18 (P:Params):Obj:=⟨.type "tuple",none,.seq ⟨[]⟩ 0,⟨[]⟩⟩
noncomputable def o19 (P:Params):Obj:=⟨.none,none,.func ⟨⟨⟨[95,119,97,108,108]⟩⟩,⟨⟨[95,119,97,108,108]⟩⟩,fArgs (pb 0),.stmts (fBody (pb 0)),fScope (pb 0),0,[],.none,.none,.none,.none,none,.none,.none,0⟩,⟨[]⟩⟩
noncomputable def o20 (P:Params):Obj:=⟨.type "code",none,.fields ⟨[.str ⟨⟨[95,119,97,108,108]⟩⟩ 187,.str ⟨⟨[95,119,97,108,108]⟩⟩ 188,.str ⟨⟨[47,99,108,97,105,109,47,99,117,116,46,112,121]⟩⟩ 189,.int (1) 0,.int (1) 0,.int (0) 0,.int (0) 0,.int (3) 0,.ref 15,.bool true,.int (181) 0,.ref 16,.none,.ref 17,.ref 18,.ref 19,.int (191) 0,.int (1) 0,.str ⟨⟨[47,99,108,97,105,109,47,99,117,116,46,112,121]⟩⟩ 192]⟩,⟨[]⟩⟩
noncomputable def o21 (P:Params):Obj:=⟨.type "function",none,.func ⟨⟨⟨[95,119,97,108,108]⟩⟩,⟨⟨[95,119,97,108,108]⟩⟩,fArgs (pb 0),.stmts (fBody (pb 0)),fScope (pb 0),3,[],.none,.none,.none,.str ⟨⟨[95,95,109,97,105,110,95,95]⟩⟩ 164,none,.ref 20,.none,0⟩,⟨[]⟩⟩
noncomputable def o22 (P:Params):Obj:=⟨.type "tuple",none,.seq ⟨[.type "list"]⟩ 0,⟨[]⟩⟩
noncomputable def o23 (P:Params):Obj:=⟨.type "builtin_function_or_method",none,.fields ⟨[.builtin "type.__prepare__",.type "type"]⟩,⟨[]⟩⟩
noncomputable def o24 (P:Params):Obj:=⟨.type "dict",none,.dict ⟨[⟨PyData.keyHash P ⟨⟨[95,95,109,111,100,117,108,101,95,95]⟩⟩,.str ⟨⟨[95,95,109,111,100,117,108,101,95,95]⟩⟩ 205,.str ⟨⟨[99,112,121,51,49,51,46,101,109,97,105,108,46,104,101,97,100,101,114]⟩⟩ 194⟩,⟨PyData.keyHash P ⟨⟨[95,95,113,117,97,108,110,97,109,101,95,95]⟩⟩,.str ⟨⟨[95,95,113,117,97,108,110,97,109,101,95,95]⟩⟩ 207,.str ⟨⟨[95,65,99,99,117,109,117,108,97,116,111,114]⟩⟩ 206⟩,⟨PyData.keyHash P ⟨⟨[95,95,102,105,114,115,116,108,105,110,101,110,111,95,95]⟩⟩,.str ⟨⟨[95,95,102,105,114,115,116,108,105,110,101,110,111,95,95]⟩⟩ 209,.int (6) 208⟩,⟨PyData.keyHash P ⟨⟨[95,95,105,110,105,116,95,95]⟩⟩,.str ⟨⟨[95,95,105,110,105,116,95,95]⟩⟩ 219,.ref 38⟩,⟨PyData.keyHash P ⟨⟨[112,117,115,104]⟩⟩,.str ⟨⟨[112,117,115,104]⟩⟩ 228,.ref 45⟩,⟨PyData.keyHash P ⟨⟨[112,111,112,95,102,114,111,109]⟩⟩,.str ⟨⟨[112,111,112,95,102,114,111,109]⟩⟩ 238,.ref 53⟩,⟨PyData.keyHash P ⟨⟨[112,111,112]⟩⟩,.str ⟨⟨[112,111,112]⟩⟩ 245,.ref 60⟩,⟨PyData.keyHash P ⟨⟨[95,95,108,101,110,95,95]⟩⟩,.str ⟨⟨[95,95,108,101,110,95,95]⟩⟩ 252,.ref 67⟩,⟨PyData.keyHash P ⟨⟨[95,95,115,116,114,95,95]⟩⟩,.str ⟨⟨[95,95,115,116,114,95,95]⟩⟩ 259,.ref 74⟩,⟨PyData.keyHash P ⟨⟨[114,101,115,101,116]⟩⟩,.str ⟨⟨[114,101,115,101,116]⟩⟩ 267,.ref 82⟩,⟨PyData.keyHash P ⟨⟨[105,115,95,111,110,108,121,119,115]⟩⟩,.str ⟨⟨[105,115,95,111,110,108,121,119,115]⟩⟩ 274,.ref 89⟩,⟨PyData.keyHash P ⟨⟨[112,97,114,116,95,99,111,117,110,116]⟩⟩,.str ⟨⟨[112,97,114,116,95,99,111,117,110,116]⟩⟩ 282,.ref 97⟩,⟨PyData.keyHash P ⟨⟨[95,95,115,116,97,116,105,99,95,97,116,116,114,105,98,117,116,101,115,95,95]⟩⟩,.str ⟨⟨[95,95,115,116,97,116,105,99,95,97,116,116,114,105,98,117,116,101,115,95,95]⟩⟩ 284,.ref 98⟩,⟨PyData.keyHash P ⟨⟨[95,95,99,108,97,115,115,99,101,108,108,95,95]⟩⟩,.str ⟨⟨[95,95,99,108,97,115,115,99,101,108,108,95,95]⟩⟩ 285,.ref 25⟩]⟩ 14,⟨[]⟩⟩
noncomputable def o25 (P:Params):Obj:=⟨.type "cell",none,.cell (some (.ref 100)),⟨[]⟩⟩
noncomputable def o26 (P:Params):Obj:=⟨.type "tuple",none,.seq ⟨[]⟩ 0,⟨[]⟩⟩
noncomputable def o27 (P:Params):Obj:=⟨.none,none,.fields ⟨[.int (8) 0,.int (4) 0,.ref 37,.int (12) 0,.int (4) 0,.ref 44,.int (15) 0,.int (4) 0,.ref 52,.int (20) 0,.int (4) 0,.ref 59,.int (23) 0,.int (4) 0,.ref 66,.int (26) 0,.int (4) 0,.ref 73,.int (29) 0,.int (4) 0,.ref 81,.int (32) 0,.int (4) 0,.ref 88,.int (35) 0,.int (4) 0,.ref 96]⟩,⟨[]⟩⟩
noncomputable def o28 (P:Params):Obj:=⟨.type "code",none,.fields ⟨[.str ⟨⟨[95,65,99,99,117,109,117,108,97,116,111,114]⟩⟩ 200,.str ⟨⟨[95,65,99,99,117,109,117,108,97,116,111,114]⟩⟩ 201,.str ⟨⟨[47,99,108,97,105,109,47,99,117,116,46,112,121]⟩⟩ 202,.int (6) 0,.int (0) 0,.int (0) 0,.int (0) 0,.int (0) 0,.ref 26,.bool false,.int (181) 0,.ref 27,.none,.none,.none,.none,.int (203) 0,.int (6) 0,.str ⟨⟨[47,99,108,97,105,109,47,99,117,116,46,112,121]⟩⟩ 204]⟩,⟨[]⟩⟩
noncomputable def o29 (P:Params):Obj:=⟨.type "frame",none,.plain,⟨[(some (.ref 28)),(some (.ref 3)),(some (.ref 24)),none,(some (.str ⟨⟨[99,112,121,51,49,51,46,101,109,97,105,108,46,104,101,97,100,101,114]⟩⟩ 194)),none,(some (.ref 0))]⟩⟩
noncomputable def o30 (P:Params):Obj:=⟨.type "tuple",none,.seq ⟨[.int (0) 210]⟩ 0,⟨[]⟩⟩
noncomputable def o31 (P:Params):Obj:=⟨.type "tuple",none,.seq ⟨[.ref 25]⟩ 0,⟨[]⟩⟩
noncomputable def o32 (P:Params):Obj:=⟨.type "tuple",none,.seq ⟨[.str ⟨⟨[95,95,99,108,97,115,115,95,95]⟩⟩ 214]⟩ 0,⟨[]⟩⟩
noncomputable def o33 (P:Params):Obj:=⟨.none,none,.fields ⟨[]⟩,⟨[]⟩⟩
noncomputable def o34 (P:Params):Obj:=⟨.type "tuple",none,.seq ⟨[.str ⟨⟨[115,101,108,102]⟩⟩ 215,.str ⟨⟨[105,110,105,116,105,97,108,95,115,105,122,101]⟩⟩ 216]⟩ 0,⟨[]⟩⟩
noncomputable def o35 (P:Params):Obj:=⟨.type "tuple",none,.seq ⟨[]⟩ 0,⟨[]⟩⟩
noncomputable def o36 (P:Params):Obj:=⟨.none,none,.func ⟨⟨⟨[95,95,105,110,105,116,95,95]⟩⟩,⟨⟨[95,65,99,99,117,109,117,108,97,116,111,114,46,95,95,105,110,105,116,95,95]⟩⟩,fArgs (cb 0),.stmts (fBody (cb 0)),fScope (cb 0),0,[],.none,.none,.none,.none,none,.none,.none,0⟩,⟨[]⟩⟩
noncomputable def o37 (P:Params):Obj:=⟨.type "code",none,.fields ⟨[.str ⟨⟨[95,95,105,110,105,116,95,95]⟩⟩ 211,.str ⟨⟨[95,65,99,99,117,109,117,108,97,116,111,114,46,95,95,105,110,105,116,95,95]⟩⟩ 212,.str ⟨⟨[47,99,108,97,105,109,47,99,117,116,46,112,121]⟩⟩ 213,.int (8) 0,.int (2) 0,.int (0) 0,.int (0) 0,.int (3) 0,.ref 32,.bool true,.int (181) 0,.ref 33,.none,.ref 34,.ref 35,.ref 36,.int (217) 0,.int (8) 0,.str ⟨⟨[47,99,108,97,105,109,47,99,117,116,46,112,121]⟩⟩ 218]⟩,⟨[]⟩⟩
noncomputable def o38 (P:Params):Obj:=⟨.type "function",none,.func ⟨⟨⟨[95,95,105,110,105,116,95,95]⟩⟩,⟨⟨[95,65,99,99,117,109,117,108,97,116,111,114,46,95,95,105,110,105,116,95,95]⟩⟩,fArgs (cb 0),.stmts (fBody (cb 0)),fScope (cb 0),3,[(⟨⟨[95,95,99,108,97,115,115,95,95]⟩⟩,25)],.ref 30,.none,.none,.str ⟨⟨[99,112,121,51,49,51,46,101,109,97,105,108,46,104,101,97,100,101,114]⟩⟩ 194,none,.ref 37,.ref 31,0⟩,⟨[]⟩⟩
noncomputable def o39 (P:Params):Obj:=⟨.type "tuple",none,.seq ⟨[]⟩ 0,⟨[]⟩⟩
noncomputable def o40 (P:Params):Obj:=⟨.none,none,.fields ⟨[]⟩,⟨[]⟩⟩
noncomputable def o41 (P:Params):Obj:=⟨.type "tuple",none,.seq ⟨[.str ⟨⟨[115,101,108,102]⟩⟩ 223,.str ⟨⟨[102,119,115]⟩⟩ 224,.str ⟨⟨[115,116,114,105,110,103]⟩⟩ 225]⟩ 0,⟨[]⟩⟩
noncomputable def o42 (P:Params):Obj:=⟨.type "tuple",none,.seq ⟨[]⟩ 0,⟨[]⟩⟩
noncomputable def o43 (P:Params):Obj:=⟨.none,none,.func ⟨⟨⟨[112,117,115,104]⟩⟩,⟨⟨[95,65,99,99,117,109,117,108,97,116,111,114,46,112,117,115,104]⟩⟩,fArgs (cb 1),.stmts (fBody (cb 1)),fScope (cb 1),0,[],.none,.none,.none,.none,none,.none,.none,0⟩,⟨[]⟩⟩
noncomputable def o44 (P:Params):Obj:=⟨.type "code",none,.fields ⟨[.str ⟨⟨[112,117,115,104]⟩⟩ 220,.str ⟨⟨[95,65,99,99,117,109,117,108,97,116,111,114,46,112,117,115,104]⟩⟩ 221,.str ⟨⟨[47,99,108,97,105,109,47,99,117,116,46,112,121]⟩⟩ 222,.int (12) 0,.int (3) 0,.int (0) 0,.int (0) 0,.int (3) 0,.ref 39,.bool true,.int (181) 0,.ref 40,.none,.ref 41,.ref 42,.ref 43,.int (226) 0,.int (12) 0,.str ⟨⟨[47,99,108,97,105,109,47,99,117,116,46,112,121]⟩⟩ 227]⟩,⟨[]⟩⟩
noncomputable def o45 (P:Params):Obj:=⟨.type "function",none,.func ⟨⟨⟨[112,117,115,104]⟩⟩,⟨⟨[95,65,99,99,117,109,117,108,97,116,111,114,46,112,117,115,104]⟩⟩,fArgs (cb 1),.stmts (fBody (cb 1)),fScope (cb 1),3,[],.none,.none,.none,.str ⟨⟨[99,112,121,51,49,51,46,101,109,97,105,108,46,104,101,97,100,101,114]⟩⟩ 194,none,.ref 44,.none,0⟩,⟨[]⟩⟩
noncomputable def o46 (P:Params):Obj:=⟨.type "tuple",none,.seq ⟨[.int (0) 229]⟩ 0,⟨[]⟩⟩
noncomputable def o47 (P:Params):Obj:=⟨.type "tuple",none,.seq ⟨[]⟩ 0,⟨[]⟩⟩
noncomputable def o48 (P:Params):Obj:=⟨.none,none,.fields ⟨[]⟩,⟨[]⟩⟩
noncomputable def o49 (P:Params):Obj:=⟨.type "tuple",none,.seq ⟨[.str ⟨⟨[115,101,108,102]⟩⟩ 233,.str ⟨⟨[105]⟩⟩ 234,.str ⟨⟨[112,111,112,112,101,100]⟩⟩ 235]⟩ 0,⟨[]⟩⟩
noncomputable def o50 (P:Params):Obj:=⟨.type "tuple",none,.seq ⟨[]⟩ 0,⟨[]⟩⟩
noncomputable def o51 (P:Params):Obj:=⟨.none,none,.func ⟨⟨⟨[112,111,112,95,102,114,111,109]⟩⟩,⟨⟨[95,65,99,99,117,109,117,108,97,116,111,114,46,112,111,112,95,102,114,111,109]⟩⟩,fArgs (cb 2),.stmts (fBody (cb 2)),fScope (cb 2),0,[],.none,.none,.none,.none,none,.none,.none,0⟩,⟨[]⟩⟩
noncomputable def o52 (P:Params):Obj:=⟨.type "code",none,.fields ⟨[.str ⟨⟨[112,111,112,95,102,114,111,109]⟩⟩ 230,.str ⟨⟨[95,65,99,99,117,109,117,108,97,116,111,114,46,112,111,112,95,102,114,111,109]⟩⟩ 231,.str ⟨⟨[47,99,108,97,105,109,47,99,117,116,46,112,121]⟩⟩ 232,.int (15) 0,.int (2) 0,.int (0) 0,.int (0) 0,.int (3) 0,.ref 47,.bool true,.int (181) 0,.ref 48,.none,.ref 49,.ref 50,.ref 51,.int (236) 0,.int (15) 0,.str ⟨⟨[47,99,108,97,105,109,47,99,117,116,46,112,121]⟩⟩ 237]⟩,⟨[]⟩⟩
noncomputable def o53 (P:Params):Obj:=⟨.type "function",none,.func ⟨⟨⟨[112,111,112,95,102,114,111,109]⟩⟩,⟨⟨[95,65,99,99,117,109,117,108,97,116,111,114,46,112,111,112,95,102,114,111,109]⟩⟩,fArgs (cb 2),.stmts (fBody (cb 2)),fScope (cb 2),3,[],.ref 46,.none,.none,.str ⟨⟨[99,112,121,51,49,51,46,101,109,97,105,108,46,104,101,97,100,101,114]⟩⟩ 194,none,.ref 52,.none,0⟩,⟨[]⟩⟩
noncomputable def o54 (P:Params):Obj:=⟨.type "tuple",none,.seq ⟨[]⟩ 0,⟨[]⟩⟩
noncomputable def o55 (P:Params):Obj:=⟨.none,none,.fields ⟨[]⟩,⟨[]⟩⟩
noncomputable def o56 (P:Params):Obj:=⟨.type "tuple",none,.seq ⟨[.str ⟨⟨[115,101,108,102]⟩⟩ 242]⟩ 0,⟨[]⟩⟩
noncomputable def o57 (P:Params):Obj:=⟨.type "tuple",none,.seq ⟨[]⟩ 0,⟨[]⟩⟩
noncomputable def o58 (P:Params):Obj:=⟨.none,none,.func ⟨⟨⟨[112,111,112]⟩⟩,⟨⟨[95,65,99,99,117,109,117,108,97,116,111,114,46,112,111,112]⟩⟩,fArgs (cb 3),.stmts (fBody (cb 3)),fScope (cb 3),0,[],.none,.none,.none,.none,none,.none,.none,0⟩,⟨[]⟩⟩
noncomputable def o59 (P:Params):Obj:=⟨.type "code",none,.fields ⟨[.str ⟨⟨[112,111,112]⟩⟩ 239,.str ⟨⟨[95,65,99,99,117,109,117,108,97,116,111,114,46,112,111,112]⟩⟩ 240,.str ⟨⟨[47,99,108,97,105,109,47,99,117,116,46,112,121]⟩⟩ 241,.int (20) 0,.int (1) 0,.int (0) 0,.int (0) 0,.int (3) 0,.ref 54,.bool true,.int (181) 0,.ref 55,.none,.ref 56,.ref 57,.ref 58,.int (243) 0,.int (20) 0,.str ⟨⟨[47,99,108,97,105,109,47,99,117,116,46,112,121]⟩⟩ 244]⟩,⟨[]⟩⟩
noncomputable def o60 (P:Params):Obj:=⟨.type "function",none,.func ⟨⟨⟨[112,111,112]⟩⟩,⟨⟨[95,65,99,99,117,109,117,108,97,116,111,114,46,112,111,112]⟩⟩,fArgs (cb 3),.stmts (fBody (cb 3)),fScope (cb 3),3,[],.none,.none,.none,.str ⟨⟨[99,112,121,51,49,51,46,101,109,97,105,108,46,104,101,97,100,101,114]⟩⟩ 194,none,.ref 59,.none,0⟩,⟨[]⟩⟩
noncomputable def o61 (P:Params):Obj:=⟨.type "tuple",none,.seq ⟨[]⟩ 0,⟨[]⟩⟩
noncomputable def o62 (P:Params):Obj:=⟨.none,none,.fields ⟨[]⟩,⟨[]⟩⟩
noncomputable def o63 (P:Params):Obj:=⟨.type "tuple",none,.seq ⟨[.str ⟨⟨[115,101,108,102]⟩⟩ 249]⟩ 0,⟨[]⟩⟩
noncomputable def o64 (P:Params):Obj:=⟨.type "tuple",none,.seq ⟨[]⟩ 0,⟨[]⟩⟩
noncomputable def o65 (P:Params):Obj:=⟨.none,none,.func ⟨⟨⟨[95,95,108,101,110,95,95]⟩⟩,⟨⟨[95,65,99,99,117,109,117,108,97,116,111,114,46,95,95,108,101,110,95,95]⟩⟩,fArgs (cb 4),.stmts (fBody (cb 4)),fScope (cb 4),0,[],.none,.none,.none,.none,none,.none,.none,0⟩,⟨[]⟩⟩
noncomputable def o66 (P:Params):Obj:=⟨.type "code",none,.fields ⟨[.str ⟨⟨[95,95,108,101,110,95,95]⟩⟩ 246,.str ⟨⟨[95,65,99,99,117,109,117,108,97,116,111,114,46,95,95,108,101,110,95,95]⟩⟩ 247,.str ⟨⟨[47,99,108,97,105,109,47,99,117,116,46,112,121]⟩⟩ 248,.int (23) 0,.int (1) 0,.int (0) 0,.int (0) 0,.int (3) 0,.ref 61,.bool true,.int (181) 0,.ref 62,.none,.ref 63,.ref 64,.ref 65,.int (250) 0,.int (23) 0,.str ⟨⟨[47,99,108,97,105,109,47,99,117,116,46,112,121]⟩⟩ 251]⟩,⟨[]⟩⟩
noncomputable def o67 (P:Params):Obj:=⟨.type "function",none,.func ⟨⟨⟨[95,95,108,101,110,95,95]⟩⟩,⟨⟨[95,65,99,99,117,109,117,108,97,116,111,114,46,95,95,108,101,110,95,95]⟩⟩,fArgs (cb 4),.stmts (fBody (cb 4)),fScope (cb 4),3,[],.none,.none,.none,.str ⟨⟨[99,112,121,51,49,51,46,101,109,97,105,108,46,104,101,97,100,101,114]⟩⟩ 194,none,.ref 66,.none,0⟩,⟨[]⟩⟩
noncomputable def o68 (P:Params):Obj:=⟨.type "tuple",none,.seq ⟨[]⟩ 0,⟨[]⟩⟩
noncomputable def o69 (P:Params):Obj:=⟨.none,none,.fields ⟨[]⟩,⟨[]⟩⟩
noncomputable def o70 (P:Params):Obj:=⟨.type "tuple",none,.seq ⟨[.str ⟨⟨[115,101,108,102]⟩⟩ 256]⟩ 0,⟨[]⟩⟩
noncomputable def o71 (P:Params):Obj:=⟨.type "tuple",none,.seq ⟨[]⟩ 0,⟨[]⟩⟩
noncomputable def o72 (P:Params):Obj:=⟨.none,none,.func ⟨⟨⟨[95,95,115,116,114,95,95]⟩⟩,⟨⟨[95,65,99,99,117,109,117,108,97,116,111,114,46,95,95,115,116,114,95,95]⟩⟩,fArgs (cb 5),.stmts (fBody (cb 5)),fScope (cb 5),0,[],.none,.none,.none,.none,none,.none,.none,0⟩,⟨[]⟩⟩
noncomputable def o73 (P:Params):Obj:=⟨.type "code",none,.fields ⟨[.str ⟨⟨[95,95,115,116,114,95,95]⟩⟩ 253,.str ⟨⟨[95,65,99,99,117,109,117,108,97,116,111,114,46,95,95,115,116,114,95,95]⟩⟩ 254,.str ⟨⟨[47,99,108,97,105,109,47,99,117,116,46,112,121]⟩⟩ 255,.int (26) 0,.int (1) 0,.int (0) 0,.int (0) 0,.int (3) 0,.ref 68,.bool true,.int (181) 0,.ref 69,.none,.ref 70,.ref 71,.ref 72,.int (257) 0,.int (26) 0,.str ⟨⟨[47,99,108,97,105,109,47,99,117,116,46,112,121]⟩⟩ 258]⟩,⟨[]⟩⟩
noncomputable def o74 (P:Params):Obj:=⟨.type "function",none,.func ⟨⟨⟨[95,95,115,116,114,95,95]⟩⟩,⟨⟨[95,65,99,99,117,109,117,108,97,116,111,114,46,95,95,115,116,114,95,95]⟩⟩,fArgs (cb 5),.stmts (fBody (cb 5)),fScope (cb 5),3,[],.none,.none,.none,.str ⟨⟨[99,112,121,51,49,51,46,101,109,97,105,108,46,104,101,97,100,101,114]⟩⟩ 194,none,.ref 73,.none,0⟩,⟨[]⟩⟩
noncomputable def o75 (P:Params):Obj:=⟨.type "tuple",none,.seq ⟨[.none]⟩ 0,⟨[]⟩⟩
noncomputable def o76 (P:Params):Obj:=⟨.type "tuple",none,.seq ⟨[]⟩ 0,⟨[]⟩⟩
noncomputable def o77 (P:Params):Obj:=⟨.none,none,.fields ⟨[]⟩,⟨[]⟩⟩
noncomputable def o78 (P:Params):Obj:=⟨.type "tuple",none,.seq ⟨[.str ⟨⟨[115,101,108,102]⟩⟩ 263,.str ⟨⟨[115,116,97,114,116,118,97,108]⟩⟩ 264]⟩ 0,⟨[]⟩⟩
noncomputable def o79 (P:Params):Obj:=⟨.type "tuple",none,.seq ⟨[]⟩ 0,⟨[]⟩⟩
noncomputable def o80 (P:Params):Obj:=⟨.none,none,.func ⟨⟨⟨[114,101,115,101,116]⟩⟩,⟨⟨[95,65,99,99,117,109,117,108,97,116,111,114,46,114,101,115,101,116]⟩⟩,fArgs (cb 6),.stmts (fBody (cb 6)),fScope (cb 6),0,[],.none,.none,.none,.none,none,.none,.none,0⟩,⟨[]⟩⟩
noncomputable def o81 (P:Params):Obj:=⟨.type "code",none,.fields ⟨[.str ⟨⟨[114,101,115,101,116]⟩⟩ 260,.str ⟨⟨[95,65,99,99,117,109,117,108,97,116,111,114,46,114,101,115,101,116]⟩⟩ 261,.str ⟨⟨[47,99,108,97,105,109,47,99,117,116,46,112,121]⟩⟩ 262,.int (29) 0,.int (2) 0,.int (0) 0,.int (0) 0,.int (3) 0,.ref 76,.bool true,.int (181) 0,.ref 77,.none,.ref 78,.ref 79,.ref 80,.int (265) 0,.int (29) 0,.str ⟨⟨[47,99,108,97,105,109,47,99,117,116,46,112,121]⟩⟩ 266]⟩,⟨[]⟩⟩
noncomputable def o82 (P:Params):Obj:=⟨.type "function",none,.func ⟨⟨⟨[114,101,115,101,116]⟩⟩,⟨⟨[95,65,99,99,117,109,117,108,97,116,111,114,46,114,101,115,101,116]⟩⟩,fArgs (cb 6),.stmts (fBody (cb 6)),fScope (cb 6),3,[],.ref 75,.none,.none,.str ⟨⟨[99,112,121,51,49,51,46,101,109,97,105,108,46,104,101,97,100,101,114]⟩⟩ 194,none,.ref 81,.none,0⟩,⟨[]⟩⟩
noncomputable def o83 (P:Params):Obj:=⟨.type "tuple",none,.seq ⟨[]⟩ 0,⟨[]⟩⟩
noncomputable def o84 (P:Params):Obj:=⟨.none,none,.fields ⟨[]⟩,⟨[]⟩⟩
noncomputable def o85 (P:Params):Obj:=⟨.type "tuple",none,.seq ⟨[.str ⟨⟨[115,101,108,102]⟩⟩ 271]⟩ 0,⟨[]⟩⟩
noncomputable def o86 (P:Params):Obj:=⟨.type "tuple",none,.seq ⟨[]⟩ 0,⟨[]⟩⟩
noncomputable def o87 (P:Params):Obj:=⟨.none,none,.func ⟨⟨⟨[105,115,95,111,110,108,121,119,115]⟩⟩,⟨⟨[95,65,99,99,117,109,117,108,97,116,111,114,46,105,115,95,111,110,108,121,119,115]⟩⟩,fArgs (cb 7),.stmts (fBody (cb 7)),fScope (cb 7),0,[],.none,.none,.none,.none,none,.none,.none,0⟩,⟨[]⟩⟩
noncomputable def o88 (P:Params):Obj:=⟨.type "code",none,.fields ⟨[.str ⟨⟨[105,115,95,111,110,108,121,119,115]⟩⟩ 268,.str ⟨⟨[95,65,99,99,117,109,117,108,97,116,111,114,46,105,115,95,111,110,108,121,119,115]⟩⟩ 269,.str ⟨⟨[47,99,108,97,105,109,47,99,117,116,46,112,121]⟩⟩ 270,.int (32) 0,.int (1) 0,.int (0) 0,.int (0) 0,.int (3) 0,.ref 83,.bool true,.int (181) 0,.ref 84,.none,.ref 85,.ref 86,.ref 87,.int (272) 0,.int (32) 0,.str ⟨⟨[47,99,108,97,105,109,47,99,117,116,46,112,121]⟩⟩ 273]⟩,⟨[]⟩⟩
noncomputable def o89 (P:Params):Obj:=⟨.type "function",none,.func ⟨⟨⟨[105,115,95,111,110,108,121,119,115]⟩⟩,⟨⟨[95,65,99,99,117,109,117,108,97,116,111,114,46,105,115,95,111,110,108,121,119,115]⟩⟩,fArgs (cb 7),.stmts (fBody (cb 7)),fScope (cb 7),3,[],.none,.none,.none,.str ⟨⟨[99,112,121,51,49,51,46,101,109,97,105,108,46,104,101,97,100,101,114]⟩⟩ 194,none,.ref 88,.none,0⟩,⟨[]⟩⟩
noncomputable def o90 (P:Params):Obj:=⟨.type "tuple",none,.seq ⟨[.ref 25]⟩ 0,⟨[]⟩⟩
noncomputable def o91 (P:Params):Obj:=⟨.type "tuple",none,.seq ⟨[.str ⟨⟨[95,95,99,108,97,115,115,95,95]⟩⟩ 278]⟩ 0,⟨[]⟩⟩
noncomputable def o92 (P:Params):Obj:=⟨.none,none,.fields ⟨[]⟩,⟨[]⟩⟩
noncomputable def o93 (P:Params):Obj:=⟨.type "tuple",none,.seq ⟨[.str ⟨⟨[115,101,108,102]⟩⟩ 279]⟩ 0,⟨[]⟩⟩
noncomputable def o94 (P:Params):Obj:=⟨.type "tuple",none,.seq ⟨[]⟩ 0,⟨[]⟩⟩
noncomputable def o95 (P:Params):Obj:=⟨.none,none,.func ⟨⟨⟨[112,97,114,116,95,99,111,117,110,116]⟩⟩,⟨⟨[95,65,99,99,117,109,117,108,97,116,111,114,46,112,97,114,116,95,99,111,117,110,116]⟩⟩,fArgs (cb 8),.stmts (fBody (cb 8)),fScope (cb 8),0,[],.none,.none,.none,.none,none,.none,.none,0⟩,⟨[]⟩⟩
noncomputable def o96 (P:Params):Obj:=⟨.type "code",none,.fields ⟨[.str ⟨⟨[112,97,114,116,95,99,111,117,110,116]⟩⟩ 275,.str ⟨⟨[95,65,99,99,117,109,117,108,97,116,111,114,46,112,97,114,116,95,99,111,117,110,116]⟩⟩ 276,.str ⟨⟨[47,99,108,97,105,109,47,99,117,116,46,112,121]⟩⟩ 277,.int (35) 0,.int (1) 0,.int (0) 0,.int (0) 0,.int (3) 0,.ref 91,.bool true,.int (181) 0,.ref 92,.none,.ref 93,.ref 94,.ref 95,.int (280) 0,.int (35) 0,.str ⟨⟨[47,99,108,97,105,109,47,99,117,116,46,112,121]⟩⟩ 281]⟩,⟨[]⟩⟩
noncomputable def o97 (P:Params):Obj:=⟨.type "function",none,.func ⟨⟨⟨[112,97,114,116,95,99,111,117,110,116]⟩⟩,⟨⟨[95,65,99,99,117,109,117,108,97,116,111,114,46,112,97,114,116,95,99,111,117,110,116]⟩⟩,fArgs (cb 8),.stmts (fBody (cb 8)),fScope (cb 8),3,[(⟨⟨[95,95,99,108,97,115,115,95,95]⟩⟩,25)],.none,.none,.none,.str ⟨⟨[99,112,121,51,49,51,46,101,109,97,105,108,46,104,101,97,100,101,114]⟩⟩ 194,none,.ref 96,.ref 90,0⟩,⟨[]⟩⟩
noncomputable def o98 (P:Params):Obj:=⟨.type "tuple",none,.seq ⟨[.str ⟨⟨[95,105,110,105,116,105,97,108,95,115,105,122,101]⟩⟩ 283]⟩ 0,⟨[]⟩⟩
noncomputable def o99 (P:Params):Obj:=⟨.type "dict",none,.dict ⟨[⟨PyData.keyHash P ⟨⟨[95,95,109,111,100,117,108,101,95,95]⟩⟩,.str ⟨⟨[95,95,109,111,100,117,108,101,95,95]⟩⟩ 205,.str ⟨⟨[99,112,121,51,49,51,46,101,109,97,105,108,46,104,101,97,100,101,114]⟩⟩ 194⟩,⟨PyData.keyHash P ⟨⟨[95,95,102,105,114,115,116,108,105,110,101,110,111,95,95]⟩⟩,.str ⟨⟨[95,95,102,105,114,115,116,108,105,110,101,110,111,95,95]⟩⟩ 209,.int (6) 208⟩,⟨PyData.keyHash P ⟨⟨[95,95,105,110,105,116,95,95]⟩⟩,.str ⟨⟨[95,95,105,110,105,116,95,95]⟩⟩ 219,.ref 38⟩,⟨PyData.keyHash P ⟨⟨[112,117,115,104]⟩⟩,.str ⟨⟨[112,117,115,104]⟩⟩ 228,.ref 45⟩,⟨PyData.keyHash P ⟨⟨[112,111,112,95,102,114,111,109]⟩⟩,.str ⟨⟨[112,111,112,95,102,114,111,109]⟩⟩ 238,.ref 53⟩,⟨PyData.keyHash P ⟨⟨[112,111,112]⟩⟩,.str ⟨⟨[112,111,112]⟩⟩ 245,.ref 60⟩,⟨PyData.keyHash P ⟨⟨[95,95,108,101,110,95,95]⟩⟩,.str ⟨⟨[95,95,108,101,110,95,95]⟩⟩ 252,.ref 67⟩,⟨PyData.keyHash P ⟨⟨[95,95,115,116,114,95,95]⟩⟩,.str ⟨⟨[95,95,115,116,114,95,95]⟩⟩ 259,.ref 74⟩,⟨PyData.keyHash P ⟨⟨[114,101,115,101,116]⟩⟩,.str ⟨⟨[114,101,115,101,116]⟩⟩ 267,.ref 82⟩,⟨PyData.keyHash P ⟨⟨[105,115,95,111,110,108,121,119,115]⟩⟩,.str ⟨⟨[105,115,95,111,110,108,121,119,115]⟩⟩ 274,.ref 89⟩,⟨PyData.keyHash P ⟨⟨[112,97,114,116,95,99,111,117,110,116]⟩⟩,.str ⟨⟨[112,97,114,116,95,99,111,117,110,116]⟩⟩ 282,.ref 97⟩,⟨PyData.keyHash P ⟨⟨[95,95,115,116,97,116,105,99,95,97,116,116,114,105,98,117,116,101,115,95,95]⟩⟩,.str ⟨⟨[95,95,115,116,97,116,105,99,95,97,116,116,114,105,98,117,116,101,115,95,95]⟩⟩ 284,.ref 98⟩,⟨PyData.keyHash P ⟨⟨[95,95,100,105,99,116,95,95]⟩⟩,.str ⟨⟨[95,95,100,105,99,116,95,95]⟩⟩ 287,.ref 101⟩,⟨PyData.keyHash P ⟨⟨[95,95,119,101,97,107,114,101,102,95,95]⟩⟩,.str ⟨⟨[95,95,119,101,97,107,114,101,102,95,95]⟩⟩ 289,.ref 102⟩,⟨PyData.keyHash P ⟨⟨[95,95,100,111,99,95,95]⟩⟩,.str ⟨⟨[95,95,100,111,99,95,95]⟩⟩ 290,.none⟩]⟩ 5,⟨[]⟩⟩
noncomputable def o100 (P:Params):Obj:=⟨.type "type",none,.cls ⟨⟨⟨[95,65,99,99,117,109,117,108,97,116,111,114]⟩⟩,[.type "list"],[.ref 100,.type "list",.type "object"],99,⟨⟨[95,65,99,99,117,109,117,108,97,116,111,114]⟩⟩,true,[],[],false,none,false⟩,⟨[(some (.ref 22)),none,(some (.str ⟨⟨[95,65,99,99,117,109,117,108,97,116,111,114]⟩⟩ 198)),(some (.str ⟨⟨[95,65,99,99,117,109,117,108,97,116,111,114]⟩⟩ 206)),(some (.builtin "list.__new__")),(some (.bool true))]⟩⟩
noncomputable def o101 (P:Params):Obj:=⟨.type "getset_descriptor",none,.fields ⟨[.str ⟨⟨[95,95,100,105,99,116,95,95]⟩⟩ 286,.ref 100,.builtin "function.__dict__",.builtin "function.__dict__#set"]⟩,⟨[]⟩⟩
noncomputable def o102 (P:Params):Obj:=⟨.type "getset_descriptor",none,.fields ⟨[.str ⟨⟨[95,95,119,101,97,107,114,101,102,95,95]⟩⟩ 288,.ref 100,.builtin "ExceptionGroup.__weakref__",.none]⟩,⟨[]⟩⟩
noncomputable def o103 (P:Params):Obj:=⟨.type "super",none,.fields ⟨[.ref 100,.ref 100,.ref 100]⟩,⟨[]⟩⟩
noncomputable def o104 (P:Params):Obj:=⟨.type "builtin_function_or_method",none,.fields ⟨[.builtin "object.__init_subclass__",.ref 100]⟩,⟨[]⟩⟩
noncomputable def o105 (P:Params):Obj:=⟨.type "tuple",none,.seq ⟨[]⟩ 0,⟨[]⟩⟩
noncomputable def o106 (P:Params):Obj:=⟨.none,none,.fields ⟨[]⟩,⟨[]⟩⟩
noncomputable def o107 (P:Params):Obj:=⟨.type "tuple",none,.seq ⟨[.str ⟨⟨[119,97,110,116]⟩⟩ 300,.str ⟨⟨[103,111,116]⟩⟩ 301,.str ⟨⟨[119,115]⟩⟩ 302,.str ⟨⟨[115,116,97,114,116,112,111,115]⟩⟩ 303,.str ⟨⟨[101,110,100,112,111,115]⟩⟩ 304,.str ⟨⟨[119]⟩⟩ 305]⟩ 0,⟨[]⟩⟩
noncomputable def o108 (P:Params):Obj:=⟨.type "tuple",none,.seq ⟨[]⟩ 0,⟨[]⟩⟩
noncomputable def o109 (P:Params):Obj:=⟨.none,none,.func ⟨⟨⟨[95,101,108,108,105,112,115,105,115,95,109,97,116,99,104]⟩⟩,⟨⟨[95,101,108,108,105,112,115,105,115,95,109,97,116,99,104]⟩⟩,fArgs (pb 6),.stmts (fBody (pb 6)),fScope (pb 6),0,[],.none,.none,.none,.none,none,.none,.none,0⟩,⟨[]⟩⟩
noncomputable def o110 (P:Params):Obj:=⟨.type "code",none,.fields ⟨[.str ⟨⟨[95,101,108,108,105,112,115,105,115,95,109,97,116,99,104]⟩⟩ 297,.str ⟨⟨[95,101,108,108,105,112,115,105,115,95,109,97,116,99,104]⟩⟩ 298,.str ⟨⟨[47,99,108,97,105,109,47,99,117,116,46,112,121]⟩⟩ 299,.int (39) 0,.int (2) 0,.int (0) 0,.int (0) 0,.int (3) 0,.ref 105,.bool true,.int (181) 0,.ref 106,.none,.ref 107,.ref 108,.ref 109,.int (306) 0,.int (39) 0,.str ⟨⟨[47,99,108,97,105,109,47,99,117,116,46,112,121]⟩⟩ 307]⟩,⟨[]⟩⟩
noncomputable def o111 (P:Params):Obj:=⟨.type "function",none,.func ⟨⟨⟨[95,101,108,108,105,112,115,105,115,95,109,97,116,99,104]⟩⟩,⟨⟨[95,101,108,108,105,112,115,105,115,95,109,97,116,99,104]⟩⟩,fArgs (pb 6),.stmts (fBody (pb 6)),fScope (pb 6),3,[],.none,.none,.none,.str ⟨⟨[99,112,121,51,49,51,46,100,111,99,116,101,115,116]⟩⟩ 293,none,.ref 110,.none,0⟩,⟨[]⟩⟩
noncomputable def o112 (P:Params):Obj:=⟨.type "tuple",none,.seq ⟨[]⟩ 0,⟨[]⟩⟩
noncomputable def o113 (P:Params):Obj:=⟨.none,none,.fields ⟨[]⟩,⟨[]⟩⟩
noncomputable def o114 (P:Params):Obj:=⟨.type "tuple",none,.seq ⟨[.str ⟨⟨[97]⟩⟩ 314,.str ⟨⟨[98]⟩⟩ 315]⟩ 0,⟨[]⟩⟩
noncomputable def o115 (P:Params):Obj:=⟨.type "tuple",none,.seq ⟨[]⟩ 0,⟨[]⟩⟩
noncomputable def o116 (P:Params):Obj:=⟨.none,none,.func ⟨⟨⟨[95,115,116,114,99,111,108,108]⟩⟩,⟨⟨[95,115,116,114,99,111,108,108]⟩⟩,fArgs (pb 8),.stmts (fBody (pb 8)),fScope (pb 8),0,[],.none,.none,.none,.none,none,.none,.none,0⟩,⟨[]⟩⟩
noncomputable def o117 (P:Params):Obj:=⟨.type "code",none,.fields ⟨[.str ⟨⟨[95,115,116,114,99,111,108,108]⟩⟩ 311,.str ⟨⟨[95,115,116,114,99,111,108,108]⟩⟩ 312,.str ⟨⟨[47,99,108,97,105,109,47,99,117,116,46,112,121]⟩⟩ 313,.int (68) 0,.int (2) 0,.int (0) 0,.int (0) 0,.int (3) 0,.ref 112,.bool true,.int (181) 0,.ref 113,.none,.ref 114,.ref 115,.ref 116,.int (316) 0,.int (68) 0,.str ⟨⟨[47,99,108,97,105,109,47,99,117,116,46,112,121]⟩⟩ 317]⟩,⟨[]⟩⟩
noncomputable def o118 (P:Params):Obj:=⟨.type "function",none,.func ⟨⟨⟨[95,115,116,114,99,111,108,108]⟩⟩,⟨⟨[95,115,116,114,99,111,108,108]⟩⟩,fArgs (pb 8),.stmts (fBody (pb 8)),fScope (pb 8),3,[],.none,.none,.none,.str ⟨⟨[99,112,121,51,49,51,46,108,111,99,97,108,101]⟩⟩ 309,none,.ref 117,.none,0⟩,⟨[]⟩⟩
noncomputable def o119 (P:Params):Obj:=⟨.type "tuple",none,.seq ⟨[]⟩ 0,⟨[]⟩⟩
noncomputable def o120 (P:Params):Obj:=⟨.none,none,.fields ⟨[]⟩,⟨[]⟩⟩
noncomputable def o121 (P:Params):Obj:=⟨.type "tuple",none,.seq ⟨[.str ⟨⟨[115]⟩⟩ 322,.str ⟨⟨[97,109,111,117,110,116]⟩⟩ 323,.str ⟨⟨[108,112,111,115]⟩⟩ 324,.str ⟨⟨[114,112,111,115]⟩⟩ 325]⟩ 0,⟨[]⟩⟩
noncomputable def o122 (P:Params):Obj:=⟨.type "tuple",none,.seq ⟨[]⟩ 0,⟨[]⟩⟩
noncomputable def o123 (P:Params):Obj:=⟨.none,none,.func ⟨⟨⟨[95,115,116,114,105,112,95,112,97,100,100,105,110,103]⟩⟩,⟨⟨[95,115,116,114,105,112,95,112,97,100,100,105,110,103]⟩⟩,fArgs (pb 9),.stmts (fBody (pb 9)),fScope (pb 9),0,[],.none,.none,.none,.none,none,.none,.none,0⟩,⟨[]⟩⟩
noncomputable def o124 (P:Params):Obj:=⟨.type "code",none,.fields ⟨[.str ⟨⟨[95,115,116,114,105,112,95,112,97,100,100,105,110,103]⟩⟩ 319,.str ⟨⟨[95,115,116,114,105,112,95,112,97,100,100,105,110,103]⟩⟩ 320,.str ⟨⟨[47,99,108,97,105,109,47,99,117,116,46,112,121]⟩⟩ 321,.int (70) 0,.int (2) 0,.int (0) 0,.int (0) 0,.int (3) 0,.ref 119,.bool true,.int (181) 0,.ref 120,.none,.ref 121,.ref 122,.ref 123,.int (326) 0,.int (70) 0,.str ⟨⟨[47,99,108,97,105,109,47,99,117,116,46,112,121]⟩⟩ 327]⟩,⟨[]⟩⟩
noncomputable def o125 (P:Params):Obj:=⟨.type "function",none,.func ⟨⟨⟨[95,115,116,114,105,112,95,112,97,100,100,105,110,103]⟩⟩,⟨⟨[95,115,116,114,105,112,95,112,97,100,100,105,110,103]⟩⟩,fArgs (pb 9),.stmts (fBody (pb 9)),fScope (pb 9),3,[],.none,.none,.none,.str ⟨⟨[99,112,121,51,49,51,46,108,111,99,97,108,101]⟩⟩ 309,none,.ref 124,.none,0⟩,⟨[]⟩⟩
noncomputable def o126 (P:Params):Obj:=⟨.type "list",none,.seq ⟨[.int (173) 331,.int (847) 332,.int (6150) 333,.int (6155) 334,.int (6156) 335,.int (6157) 336,.int (8203) 337,.int (8204) 338,.int (8205) 339,.int (8288) 340,.int (65279) 341]⟩ 0,⟨[]⟩⟩
noncomputable def o127 (P:Params):Obj:=⟨.type "range",none,.fields ⟨[.int (65024) 342,.int (65040) 343,.int (1) 344]⟩,⟨[]⟩⟩
noncomputable def o128 (P:Params):Obj:=⟨.type "list",none,.seq ⟨[.int (65024) 347,.int (65025) 348,.int (65026) 349,.int (65027) 350,.int (65028) 351,.int (65029) 352,.int (65030) 353,.int (65031) 354,.int (65032) 355,.int (65033) 356,.int (65034) 357,.int (65035) 358,.int (65036) 359,.int (65037) 360,.int (65038) 361,.int (65039) 362]⟩ 18,⟨[]⟩⟩
noncomputable def o129 (P:Params):Obj:=⟨.type "range_iterator",none,.fields ⟨[.int (65040) 0,.int (0) 0,.int (1) 0]⟩,⟨[]⟩⟩
noncomputable def o130 (P:Params):Obj:=⟨.type "tuple",none,.seq ⟨[]⟩ 0,⟨[]⟩⟩
noncomputable def o131 (P:Params):Obj:=⟨.type "StopIteration",none,.fields ⟨[.ref 130,.none,.none,.none,.bool false,.none]⟩,⟨[]⟩⟩
noncomputable def o132 (P:Params):Obj:=⟨.type "list",none,.seq ⟨[.int (173) 331,.int (847) 332,.int (6150) 333,.int (6155) 334,.int (6156) 335,.int (6157) 336,.int (8203) 337,.int (8204) 338,.int (8205) 339,.int (8288) 340,.int (65279) 341,.int (65024) 347,.int (65025) 348,.int (65026) 349,.int (65027) 350,.int (65028) 351,.int (65029) 352,.int (65030) 353,.int (65031) 354,.int (65032) 355,.int (65033) 356,.int (65034) 357,.int (65035) 358,.int (65036) 359,.int (65037) 360,.int (65038) 361,.int (65039) 362]⟩ 0,⟨[]⟩⟩
noncomputable def o133 (P:Params):Obj:=⟨.type "set",none,.set ⟨[(65024,.int (65024) 347),(65025,.int (65025) 348),(65026,.int (65026) 349),(65027,.int (65027) 350),(65028,.int (65028) 351),(65029,.int (65029) 352),(6150,.int (6150) 333),(65030,.int (65030) 353),(65031,.int (65031) 354),(65032,.int (65032) 355),(65033,.int (65033) 356),(6155,.int (6155) 334),(6156,.int (6156) 335),(6157,.int (6157) 336),(8203,.int (8203) 337),(8204,.int (8204) 338),(8205,.int (8205) 339),(65034,.int (65034) 357),(65035,.int (65035) 358),(65036,.int (65036) 359),(65037,.int (65037) 360),(65038,.int (65038) 361),(65039,.int (65039) 362),(173,.int (173) 331),(847,.int (847) 332),(8288,.int (8288) 340),(65279,.int (65279) 341)]⟩ 29 ⟨127,⟨[0,1,2,3,4,5,6,7,8,9,10,11,12,13,14,15,16,17,18,19,20,21,22,45,79,96,127]⟩,⟨[]⟩,0,!P.followText "set-order",2,true⟩,⟨[]⟩⟩
noncomputable def o134 (P:Params):Obj:=⟨.type "list_iterator",none,.fields ⟨[.none,.int (27) 0]⟩,⟨[]⟩⟩
noncomputable def o135 (P:Params):Obj:=⟨.type "tuple",none,.seq ⟨[]⟩ 0,⟨[]⟩⟩
noncomputable def o136 (P:Params):Obj:=⟨.type "StopIteration",none,.fields ⟨[.ref 135,.none,.none,.none,.bool false,.none]⟩,⟨[]⟩⟩
noncomputable def o137 (P:Params):Obj:=⟨.type "tuple",none,.seq ⟨[]⟩ 0,⟨[]⟩⟩
noncomputable def o138 (P:Params):Obj:=⟨.none,none,.fields ⟨[]⟩,⟨[]⟩⟩
noncomputable def o139 (P:Params):Obj:=⟨.type "tuple",none,.seq ⟨[.str ⟨⟨[99,111,100,101]⟩⟩ 394]⟩ 0,⟨[]⟩⟩
noncomputable def o140 (P:Params):Obj:=⟨.type "tuple",none,.seq ⟨[]⟩ 0,⟨[]⟩⟩
noncomputable def o141 (P:Params):Obj:=⟨.none,none,.func ⟨⟨⟨[105,110,95,116,97,98,108,101,95,98,49]⟩⟩,⟨⟨[105,110,95,116,97,98,108,101,95,98,49]⟩⟩,fArgs (pb 12),.stmts (fBody (pb 12)),fScope (pb 12),0,[],.none,.none,.none,.none,none,.none,.none,0⟩,⟨[]⟩⟩
noncomputable def o142 (P:Params):Obj:=⟨.type "code",none,.fields ⟨[.str ⟨⟨[105,110,95,116,97,98,108,101,95,98,49]⟩⟩ 391,.str ⟨⟨[105,110,95,116,97,98,108,101,95,98,49]⟩⟩ 392,.str ⟨⟨[47,99,108,97,105,109,47,99,117,116,46,112,121]⟩⟩ 393,.int (82) 0,.int (1) 0,.int (0) 0,.int (0) 0,.int (3) 0,.ref 137,.bool true,.int (181) 0,.ref 138,.none,.ref 139,.ref 140,.ref 141,.int (395) 0,.int (82) 0,.str ⟨⟨[47,99,108,97,105,109,47,99,117,116,46,112,121]⟩⟩ 396]⟩,⟨[]⟩⟩
noncomputable def o143 (P:Params):Obj:=⟨.type "function",none,.func ⟨⟨⟨[105,110,95,116,97,98,108,101,95,98,49]⟩⟩,⟨⟨[105,110,95,116,97,98,108,101,95,98,49]⟩⟩,fArgs (pb 12),.stmts (fBody (pb 12)),fScope (pb 12),3,[],.none,.none,.none,.str ⟨⟨[99,112,121,51,49,51,46,115,116,114,105,110,103,112,114,101,112]⟩⟩ 329,none,.ref 142,.none,0⟩,⟨[]⟩⟩
noncomputable def o3a (P:Params):Obj:=⟨.type "dict",none,.dict ⟨[⟨PyData.keyHash P ⟨⟨[95,95,110,97,109,101,95,95]⟩⟩,.str ⟨⟨[95,95,110,97,109,101,95,95]⟩⟩ 165,.str ⟨⟨[95,95,109,97,105,110,95,95]⟩⟩ 164⟩,⟨PyData.keyHash P ⟨⟨[95,95,100,111,99,95,95]⟩⟩,.str ⟨⟨[95,95,100,111,99,95,95]⟩⟩ 166,.none⟩,⟨PyData.keyHash P ⟨⟨[95,95,112,97,99,107,97,103,101,95,95]⟩⟩,.str ⟨⟨[95,95,112,97,99,107,97,103,101,95,95]⟩⟩ 167,.none⟩,⟨PyData.keyHash P ⟨⟨[95,95,108,111,97,100,101,114,95,95]⟩⟩,.str ⟨⟨[95,95,108,111,97,100,101,114,95,95]⟩⟩ 168,.builtin "__main__.__loader__#opaque"⟩,⟨PyData.keyHash P ⟨⟨[95,95,115,112,101,99,95,95]⟩⟩,.str ⟨⟨[95,95,115,112,101,99,95,95]⟩⟩ 169,.none⟩,⟨PyData.keyHash P ⟨⟨[95,95,97,110,110,111,116,97,116,105,111,110,115,95,95]⟩⟩,.str ⟨⟨[95,95,97,110,110,111,116,97,116,105,111,110,115,95,95]⟩⟩ 170,.ref 6⟩,⟨PyData.keyHash P ⟨⟨[95,95,98,117,105,108,116,105,110,115,95,95]⟩⟩,.str ⟨⟨[95,95,98,117,105,108,116,105,110,115,95,95]⟩⟩ 171,.ref 4⟩,⟨PyData.keyHash P ⟨⟨[95,95,102,105,108,101,95,95]⟩⟩,.str ⟨⟨[95,95,102,105,108,101,95,95]⟩⟩ 173,.str ⟨⟨[47,99,108,97,105,109,47,99,117,116,46,112,121]⟩⟩ 172⟩,⟨PyData.keyHash P ⟨⟨[95,95,99,97,99,104,101,100,95,95]⟩⟩,.str ⟨⟨[95,95,99,97,99,104,101,100,95,95]⟩⟩ 174,.none⟩]⟩ 9,⟨[]⟩⟩
noncomputable def o3b (P:Params):Obj:=⟨.type "dict",none,.dict ⟨[⟨PyData.keyHash P ⟨⟨[95,95,110,97,109,101,95,95]⟩⟩,.str ⟨⟨[95,95,110,97,109,101,95,95]⟩⟩ 165,.str ⟨⟨[99,112,121,51,49,51,46,115,116,114,105,110,103,112,114,101,112]⟩⟩ 329⟩,⟨PyData.keyHash P ⟨⟨[95,95,100,111,99,95,95]⟩⟩,.str ⟨⟨[95,95,100,111,99,95,95]⟩⟩ 166,.none⟩,⟨PyData.keyHash P ⟨⟨[95,95,112,97,99,107,97,103,101,95,95]⟩⟩,.str ⟨⟨[95,95,112,97,99,107,97,103,101,95,95]⟩⟩ 167,.none⟩,⟨PyData.keyHash P ⟨⟨[95,95,108,111,97,100,101,114,95,95]⟩⟩,.str ⟨⟨[95,95,108,111,97,100,101,114,95,95]⟩⟩ 168,.builtin "__main__.__loader__#opaque"⟩,⟨PyData.keyHash P ⟨⟨[95,95,115,112,101,99,95,95]⟩⟩,.str ⟨⟨[95,95,115,112,101,99,95,95]⟩⟩ 169,.none⟩,⟨PyData.keyHash P ⟨⟨[95,95,97,110,110,111,116,97,116,105,111,110,115,95,95]⟩⟩,.str ⟨⟨[95,95,97,110,110,111,116,97,116,105,111,110,115,95,95]⟩⟩ 170,.ref 6⟩,⟨PyData.keyHash P ⟨⟨[95,95,98,117,105,108,116,105,110,115,95,95]⟩⟩,.str ⟨⟨[95,95,98,117,105,108,116,105,110,115,95,95]⟩⟩ 171,.ref 4⟩,⟨PyData.keyHash P ⟨⟨[95,95,102,105,108,101,95,95]⟩⟩,.str ⟨⟨[95,95,102,105,108,101,95,95]⟩⟩ 173,.str ⟨⟨[47,99,108,97,105,109,47,99,117,116,46,112,121]⟩⟩ 172⟩,⟨PyData.keyHash P ⟨⟨[95,95,99,97,99,104,101,100,95,95]⟩⟩,.str ⟨⟨[95,95,99,97,99,104,101,100,95,95]⟩⟩ 174,.none⟩,⟨PyData.keyHash P ⟨⟨[95,119,97,108,108]⟩⟩,.str ⟨⟨[95,119,97,108,108]⟩⟩ 193,.ref 21⟩,⟨PyData.keyHash P ⟨⟨[69,77,80,84,89,83,84,82,73,78,71]⟩⟩,.str ⟨⟨[69,77,80,84,89,83,84,82,73,78,71]⟩⟩ 197,.str ⟨⟨[]⟩⟩ 196⟩,⟨PyData.keyHash P ⟨⟨[95,65,99,99,117,109,117,108,97,116,111,114]⟩⟩,.str ⟨⟨[95,65,99,99,117,109,117,108,97,116,111,114]⟩⟩ 292,.ref 100⟩,⟨PyData.keyHash P ⟨⟨[69,76,76,73,80,83,73,83,95,77,65,82,75,69,82]⟩⟩,.str ⟨⟨[69,76,76,73,80,83,73,83,95,77,65,82,75,69,82]⟩⟩ 296,.str ⟨⟨[46,46,46]⟩⟩ 295⟩,⟨PyData.keyHash P ⟨⟨[95,101,108,108,105,112,115,105,115,95,109,97,116,99,104]⟩⟩,.str ⟨⟨[95,101,108,108,105,112,115,105,115,95,109,97,116,99,104]⟩⟩ 308,.ref 111⟩,⟨PyData.keyHash P ⟨⟨[95,115,116,114,99,111,108,108]⟩⟩,.str ⟨⟨[95,115,116,114,99,111,108,108]⟩⟩ 318,.ref 118⟩,⟨PyData.keyHash P ⟨⟨[95,115,116,114,105,112,95,112,97,100,100,105,110,103]⟩⟩,.str ⟨⟨[95,115,116,114,105,112,95,112,97,100,100,105,110,103]⟩⟩ 328,.ref 125⟩,⟨PyData.keyHash P ⟨⟨[98,49,95,115,101,116]⟩⟩,.str ⟨⟨[98,49,95,115,101,116]⟩⟩ 390,.ref 133⟩,⟨PyData.keyHash P ⟨⟨[105,110,95,116,97,98,108,101,95,98,49]⟩⟩,.str ⟨⟨[105,110,95,116,97,98,108,101,95,98,49]⟩⟩ 397,.ref 143⟩]⟩ 18,⟨[]⟩⟩
noncomputable def o3c (P:Params):Obj:=⟨.type "dict",none,.dict ⟨[⟨PyData.keyHash P ⟨⟨[95,95,110,97,109,101,95,95]⟩⟩,.str ⟨⟨[95,95,110,97,109,101,95,95]⟩⟩ 165,.str ⟨⟨[99,112,121,51,49,51,46,115,116,114,105,110,103,112,114,101,112]⟩⟩ 329⟩,⟨PyData.keyHash P ⟨⟨[95,95,100,111,99,95,95]⟩⟩,.str ⟨⟨[95,95,100,111,99,95,95]⟩⟩ 166,.none⟩,⟨PyData.keyHash P ⟨⟨[95,95,112,97,99,107,97,103,101,95,95]⟩⟩,.str ⟨⟨[95,95,112,97,99,107,97,103,101,95,95]⟩⟩ 167,.none⟩,⟨PyData.keyHash P ⟨⟨[95,95,108,111,97,100,101,114,95,95]⟩⟩,.str ⟨⟨[95,95,108,111,97,100,101,114,95,95]⟩⟩ 168,.builtin "__main__.__loader__#opaque"⟩,⟨PyData.keyHash P ⟨⟨[95,95,115,112,101,99,95,95]⟩⟩,.str ⟨⟨[95,95,115,112,101,99,95,95]⟩⟩ 169,.none⟩,⟨PyData.keyHash P ⟨⟨[95,95,97,110,110,111,116,97,116,105,111,110,115,95,95]⟩⟩,.str ⟨⟨[95,95,97,110,110,111,116,97,116,105,111,110,115,95,95]⟩⟩ 170,.ref 6⟩,⟨PyData.keyHash P ⟨⟨[95,95,98,117,105,108,116,105,110,115,95,95]⟩⟩,.str ⟨⟨[95,95,98,117,105,108,116,105,110,115,95,95]⟩⟩ 171,.ref 4⟩,⟨PyData.keyHash P ⟨⟨[95,95,102,105,108,101,95,95]⟩⟩,.str ⟨⟨[95,95,102,105,108,101,95,95]⟩⟩ 173,.str ⟨⟨[47,99,108,97,105,109,47,99,117,116,46,112,121]⟩⟩ 172⟩,⟨PyData.keyHash P ⟨⟨[95,95,99,97,99,104,101,100,95,95]⟩⟩,.str ⟨⟨[95,95,99,97,99,104,101,100,95,95]⟩⟩ 174,.none⟩,⟨PyData.keyHash P ⟨⟨[95,119,97,108,108]⟩⟩,.str ⟨⟨[95,119,97,108,108]⟩⟩ 193,.ref 21⟩,⟨PyData.keyHash P ⟨⟨[69,77,80,84,89,83,84,82,73,78,71]⟩⟩,.str ⟨⟨[69,77,80,84,89,83,84,82,73,78,71]⟩⟩ 197,.str ⟨⟨[]⟩⟩ 196⟩,⟨PyData.keyHash P ⟨⟨[95,65,99,99,117,109,117,108,97,116,111,114]⟩⟩,.str ⟨⟨[95,65,99,99,117,109,117,108,97,116,111,114]⟩⟩ 292,.ref 100⟩,⟨PyData.keyHash P ⟨⟨[69,76,76,73,80,83,73,83,95,77,65,82,75,69,82]⟩⟩,.str ⟨⟨[69,76,76,73,80,83,73,83,95,77,65,82,75,69,82]⟩⟩ 296,.str ⟨⟨[46,46,46]⟩⟩ 295⟩,⟨PyData.keyHash P ⟨⟨[95,101,108,108,105,112,115,105,115,95,109,97,116,99,104]⟩⟩,.str ⟨⟨[95,101,108,108,105,112,115,105,115,95,109,97,116,99,104]⟩⟩ 308,.ref 111⟩,⟨PyData.keyHash P ⟨⟨[95,115,116,114,99,111,108,108]⟩⟩,.str ⟨⟨[95,115,116,114,99,111,108,108]⟩⟩ 318,.ref 118⟩,⟨PyData.keyHash P ⟨⟨[95,115,116,114,105,112,95,112,97,100,100,105,110,103]⟩⟩,.str ⟨⟨[95,115,116,114,105,112,95,112,97,100,100,105,110,103]⟩⟩ 328,.ref 125⟩,⟨PyData.keyHash P ⟨⟨[98,49,95,115,101,116]⟩⟩,.str ⟨⟨[98,49,95,115,101,116]⟩⟩ 390,.ref 133⟩,⟨PyData.keyHash P ⟨⟨[105,110,95,116,97,98,108,101,95,98,49]⟩⟩,.str ⟨⟨[105,110,95,116,97,98,108,101,95,98,49]⟩⟩ 397,.ref 143⟩,⟨PyData.keyHash P ⟨⟨[98,51,95,101,120,99,101,112,116,105,111,110,115]⟩⟩,.str ⟨⟨[98,51,95,101,120,99,101,112,116,105,111,110,115]⟩⟩ 2348,.ref 144⟩]⟩ 19,⟨[]⟩⟩
noncomputable def o3d (P:Params):Obj:=⟨.type "dict",none,.dict ⟨[⟨PyData.keyHash P ⟨⟨[95,95,110,97,109,101,95,95]⟩⟩,.str ⟨⟨[95,95,110,97,109,101,95,95]⟩⟩ 165,.str ⟨⟨[108,97,119,95,119,114,48,48,52,55,95,48,49]⟩⟩ 2357⟩,⟨PyData.keyHash P ⟨⟨[95,95,100,111,99,95,95]⟩⟩,.str ⟨⟨[95,95,100,111,99,95,95]⟩⟩ 166,.none⟩,⟨PyData.keyHash P ⟨⟨[95,95,112,97,99,107,97,103,101,95,95]⟩⟩,.str ⟨⟨[95,95,112,97,99,107,97,103,101,95,95]⟩⟩ 167,.none⟩,⟨PyData.keyHash P ⟨⟨[95,95,108,111,97,100,101,114,95,95]⟩⟩,.str ⟨⟨[95,95,108,111,97,100,101,114,95,95]⟩⟩ 168,.builtin "__main__.__loader__#opaque"⟩,⟨PyData.keyHash P ⟨⟨[95,95,115,112,101,99,95,95]⟩⟩,.str ⟨⟨[95,95,115,112,101,99,95,95]⟩⟩ 169,.none⟩,⟨PyData.keyHash P ⟨⟨[95,95,97,110,110,111,116,97,116,105,111,110,115,95,95]⟩⟩,.str ⟨⟨[95,95,97,110,110,111,116,97,116,105,111,110,115,95,95]⟩⟩ 170,.ref 6⟩,⟨PyData.keyHash P ⟨⟨[95,95,98,117,105,108,116,105,110,115,95,95]⟩⟩,.str ⟨⟨[95,95,98,117,105,108,116,105,110,115,95,95]⟩⟩ 171,.ref 4⟩,⟨PyData.keyHash P ⟨⟨[95,95,102,105,108,101,95,95]⟩⟩,.str ⟨⟨[95,95,102,105,108,101,95,95]⟩⟩ 173,.str ⟨⟨[47,99,108,97,105,109,47,99,117,116,46,112,121]⟩⟩ 172⟩,⟨PyData.keyHash P ⟨⟨[95,95,99,97,99,104,101,100,95,95]⟩⟩,.str ⟨⟨[95,95,99,97,99,104,101,100,95,95]⟩⟩ 174,.none⟩,⟨PyData.keyHash P ⟨⟨[95,119,97,108,108]⟩⟩,.str ⟨⟨[95,119,97,108,108]⟩⟩ 193,.ref 21⟩,⟨PyData.keyHash P ⟨⟨[69,77,80,84,89,83,84,82,73,78,71]⟩⟩,.str ⟨⟨[69,77,80,84,89,83,84,82,73,78,71]⟩⟩ 197,.str ⟨⟨[]⟩⟩ 196⟩,⟨PyData.keyHash P ⟨⟨[95,65,99,99,117,109,117,108,97,116,111,114]⟩⟩,.str ⟨⟨[95,65,99,99,117,109,117,108,97,116,111,114]⟩⟩ 292,.ref 100⟩,⟨PyData.keyHash P ⟨⟨[69,76,76,73,80,83,73,83,95,77,65,82,75,69,82]⟩⟩,.str ⟨⟨[69,76,76,73,80,83,73,83,95,77,65,82,75,69,82]⟩⟩ 296,.str ⟨⟨[46,46,46]⟩⟩ 295⟩,⟨PyData.keyHash P ⟨⟨[95,101,108,108,105,112,115,105,115,95,109,97,116,99,104]⟩⟩,.str ⟨⟨[95,101,108,108,105,112,115,105,115,95,109,97,116,99,104]⟩⟩ 308,.ref 111⟩,⟨PyData.keyHash P ⟨⟨[95,115,116,114,99,111,108,108]⟩⟩,.str ⟨⟨[95,115,116,114,99,111,108,108]⟩⟩ 318,.ref 118⟩,⟨PyData.keyHash P ⟨⟨[95,115,116,114,105,112,95,112,97,100,100,105,110,103]⟩⟩,.str ⟨⟨[95,115,116,114,105,112,95,112,97,100,100,105,110,103]⟩⟩ 328,.ref 125⟩,⟨PyData.keyHash P ⟨⟨[98,49,95,115,101,116]⟩⟩,.str ⟨⟨[98,49,95,115,101,116]⟩⟩ 390,.ref 133⟩,⟨PyData.keyHash P ⟨⟨[105,110,95,116,97,98,108,101,95,98,49]⟩⟩,.str ⟨⟨[105,110,95,116,97,98,108,101,95,98,49]⟩⟩ 397,.ref 143⟩,⟨PyData.keyHash P ⟨⟨[98,51,95,101,120,99,101,112,116,105,111,110,115]⟩⟩,.str ⟨⟨[98,51,95,101,120,99,101,112,116,105,111,110,115]⟩⟩ 2348,.ref 144⟩,⟨PyData.keyHash P ⟨⟨[109,97,112,95,116,97,98,108,101,95,98,51]⟩⟩,.str ⟨⟨[109,97,112,95,116,97,98,108,101,95,98,51]⟩⟩ 2356,.ref 189⟩,⟨PyData.keyHash P ⟨⟨[95,108,97,119,95,116,121,112,101,100]⟩⟩,.str ⟨⟨[95,108,97,119,95,116,121,112,101,100]⟩⟩ 2364,.ref 194⟩,⟨PyData.keyHash P ⟨⟨[108,97,119]⟩⟩,.str ⟨⟨[108,97,119]⟩⟩ 2370,.ref 199⟩]⟩ 22,⟨[]⟩⟩
noncomputable def o12a (P:Params):Obj:=⟨.none,none,.fields ⟨[]⟩,⟨[]⟩⟩
noncomputable def o12b (P:Params):Obj:=⟨.none,none,.fields ⟨[.int (1) 0,.int (0) 0,.ref 20,.int (6) 0,.int (0) 0,.ref 28,.int (39) 0,.int (0) 0,.ref 110,.int (68) 0,.int (0) 0,.ref 117,.int (70) 0,.int (0) 0,.ref 124,.int (82) 0,.int (0) 0,.ref 142]⟩,⟨[]⟩⟩
noncomputable def o12d (P:Params):Obj:=⟨.none,none,.fields ⟨[.int (1) 0,.int (0) 0,.ref 20,.int (6) 0,.int (0) 0,.ref 28,.int (39) 0,.int (0) 0,.ref 110,.int (68) 0,.int (0) 0,.ref 117,.int (70) 0,.int (0) 0,.ref 124,.int (82) 0,.int (0) 0,.ref 142,.int (85) 0,.int (0) 0,.ref 188,.int (91) 0,.int (0) 0,.ref 193,.int (106) 0,.int (0) 0,.ref 198]⟩,⟨[]⟩⟩
noncomputable def o183 (P:Params):Obj:=⟨.type "tuple",none,.seq ⟨[]⟩ 0,⟨[]⟩⟩
noncomputable def o184 (P:Params):Obj:=⟨.none,none,.fields ⟨[]⟩,⟨[]⟩⟩
noncomputable def o185 (P:Params):Obj:=⟨.type "tuple",none,.seq ⟨[.str ⟨⟨[99,111,100,101]⟩⟩ 2352,.str ⟨⟨[114]⟩⟩ 2353]⟩ 0,⟨[]⟩⟩
noncomputable def o186 (P:Params):Obj:=⟨.type "tuple",none,.seq ⟨[]⟩ 0,⟨[]⟩⟩
noncomputable def o187 (P:Params):Obj:=⟨.none,none,.func ⟨⟨⟨[109,97,112,95,116,97,98,108,101,95,98,51]⟩⟩,⟨⟨[109,97,112,95,116,97,98,108,101,95,98,51]⟩⟩,fArgs (pb 14),.stmts (fBody (pb 14)),fScope (pb 14),0,[],.none,.none,.none,.none,none,.none,.none,0⟩,⟨[]⟩⟩
noncomputable def o188 (P:Params):Obj:=⟨.type "code",none,.fields ⟨[.str ⟨⟨[109,97,112,95,116,97,98,108,101,95,98,51]⟩⟩ 2349,.str ⟨⟨[109,97,112,95,116,97,98,108,101,95,98,51]⟩⟩ 2350,.str ⟨⟨[47,99,108,97,105,109,47,99,117,116,46,112,121]⟩⟩ 2351,.int (85) 0,.int (1) 0,.int (0) 0,.int (0) 0,.int (3) 0,.ref 183,.bool true,.int (181) 0,.ref 184,.none,.ref 185,.ref 186,.ref 187,.int (2354) 0,.int (85) 0,.str ⟨⟨[47,99,108,97,105,109,47,99,117,116,46,112,121]⟩⟩ 2355]⟩,⟨[]⟩⟩
noncomputable def o189 (P:Params):Obj:=⟨.type "function",none,.func ⟨⟨⟨[109,97,112,95,116,97,98,108,101,95,98,51]⟩⟩,⟨⟨[109,97,112,95,116,97,98,108,101,95,98,51]⟩⟩,fArgs (pb 14),.stmts (fBody (pb 14)),fScope (pb 14),3,[],.none,.none,.none,.str ⟨⟨[99,112,121,51,49,51,46,115,116,114,105,110,103,112,114,101,112]⟩⟩ 329,none,.ref 188,.none,0⟩,⟨[]⟩⟩
noncomputable def o190 (P:Params):Obj:=⟨.type "tuple",none,.seq ⟨[]⟩ 0,⟨[]⟩⟩
noncomputable def o191 (P:Params):Obj:=⟨.none,none,.fields ⟨[]⟩,⟨[]⟩⟩
noncomputable def o192 (P:Params):Obj:=⟨.none,none,.func ⟨⟨⟨[95,108,97,119,95,116,121,112,101,100]⟩⟩,⟨⟨[95,108,97,119,95,116,121,112,101,100]⟩⟩,fArgs (pb 16),.stmts (fBody (pb 16)),fScope (pb 16),0,[],.none,.none,.none,.none,none,.none,.none,0⟩,⟨[]⟩⟩
noncomputable def o193 (P:Params):Obj:=⟨.type "code",none,.fields ⟨[.str ⟨⟨[95,108,97,119,95,116,121,112,101,100]⟩⟩ 2359,.str ⟨⟨[95,108,97,119,95,116,121,112,101,100]⟩⟩ 2360,.str ⟨⟨[47,99,108,97,105,109,47,99,117,116,46,112,121]⟩⟩ 2361,.int (91) 0,.int (1) 0,.int (0) 0,.int (0) 0,.int (3) 0,.ref 190,.bool true,.int (181) 0,.ref 191,.none,.none,.none,.ref 192,.int (2362) 0,.int (91) 0,.str ⟨⟨[47,99,108,97,105,109,47,99,117,116,46,112,121]⟩⟩ 2363]⟩,⟨[]⟩⟩
noncomputable def o194 (P:Params):Obj:=⟨.type "function",none,.func ⟨⟨⟨[95,108,97,119,95,116,121,112,101,100]⟩⟩,⟨⟨[95,108,97,119,95,116,121,112,101,100]⟩⟩,fArgs (pb 16),.stmts (fBody (pb 16)),fScope (pb 16),3,[],.none,.none,.none,.str ⟨⟨[108,97,119,95,119,114,48,48,52,55,95,48,49]⟩⟩ 2357,none,.ref 193,.none,0⟩,⟨[]⟩⟩
noncomputable def o195 (P:Params):Obj:=⟨.type "tuple",none,.seq ⟨[]⟩ 0,⟨[]⟩⟩
noncomputable def o196 (P:Params):Obj:=⟨.none,none,.fields ⟨[]⟩,⟨[]⟩⟩
noncomputable def o197 (P:Params):Obj:=⟨.none,none,.func ⟨⟨⟨[108,97,119]⟩⟩,⟨⟨[108,97,119]⟩⟩,fArgs (pb 17),.stmts (fBody (pb 17)),fScope (pb 17),0,[],.none,.none,.none,.none,none,.none,.none,0⟩,⟨[]⟩⟩
noncomputable def o198 (P:Params):Obj:=⟨.type "code",none,.fields ⟨[.str ⟨⟨[108,97,119]⟩⟩ 2365,.str ⟨⟨[108,97,119]⟩⟩ 2366,.str ⟨⟨[47,99,108,97,105,109,47,99,117,116,46,112,121]⟩⟩ 2367,.int (106) 0,.int (1) 0,.int (0) 0,.int (0) 0,.int (3) 0,.ref 195,.bool true,.int (181) 0,.ref 196,.none,.none,.none,.ref 197,.int (2368) 0,.int (106) 0,.str ⟨⟨[47,99,108,97,105,109,47,99,117,116,46,112,121]⟩⟩ 2369]⟩,⟨[]⟩⟩
noncomputable def o199 (P:Params):Obj:=⟨.type "function",none,.func ⟨⟨⟨[108,97,119]⟩⟩,⟨⟨[108,97,119]⟩⟩,fArgs (pb 17),.stmts (fBody (pb 17)),fScope (pb 17),3,[],.none,.none,.none,.str ⟨⟨[108,97,119,95,119,114,48,48,52,55,95,48,49]⟩⟩ 2357,none,.ref 198,.none,0⟩,⟨[]⟩⟩
noncomputable def La (P:Params):List Obj:=[boot_o_0 P,boot_o_1 P,boot_o_2 P,o3a P,boot_o_4 P,boot_o_5 P,boot_o_6 P,boot_o_7 P,boot_o_8 P,boot_o_9 P,boot_o_10 P,o11 P,o12a P,o13 P,o14 P]
noncomputable def Lb (P:Params):List Obj:=[boot_o_0 P,boot_o_1 P,boot_o_2 P,o3b P,boot_o_4 P,boot_o_5 P,boot_o_6 P,boot_o_7 P,boot_o_8 P,boot_o_9 P,boot_o_10 P,o11 P,o12b P,o13 P,o14 P,o15 P,o16 P,o17 P,o18 P,o19 P,o20 P,o21 P,o22 P,o23 P,o24 P,o25 P,o26 P,o27 P,o28 P,o29 P,o30 P,o31 P,o32 P,o33 P,o34 P,o35 P,o36 P,o37 P,o38 P,o39 P,o40 P,o41 P,o42 P,o43 P,o44 P,o45 P,o46 P,o47 P,o48 P,o49 P,o50 P,o51 P,o52 P,o53 P,o54 P,o55 P,o56 P,o57 P,o58 P,o59 P,o60 P,o61 P,o62 P,o63 P,o64 P,o65 P,o66 P,o67 P,o68 P,o69 P,o70 P,o71 P,o72 P,o73 P,o74 P,o75 P,o76 P,o77 P,o78 P,o79 P,o80 P,o81 P,o82 P,o83 P,o84 P,o85 P,o86 P,o87 P,o88 P,o89 P,o90 P,o91 P,o92 P,o93 P,o94 P,o95 P,o96 P,o97 P,o98 P,o99 P,o100 P,o101 P,o102 P,o103 P,o104 P,o105 P,o106 P,o107 P,o108 P,o109 P,o110 P,o111 P,o112 P,o113 P,o114 P,o115 P,o116 P,o117 P,o118 P,o119 P,o120 P,o121 P,o122 P,o123 P,o124 P,o125 P,o126 P,o127 P,o128 P,o129 P,o130 P,o131 P,o132 P,o133 P,o134 P,o135 P,o136 P,o137 P,o138 P,o139 P,o140 P,o141 P,o142 P,o143 P]
noncomputable def Lc (P:Params):List Obj:=[boot_o_0 P,boot_o_1 P,boot_o_2 P,o3c P,boot_o_4 P,boot_o_5 P,boot_o_6 P,boot_o_7 P,boot_o_8 P,boot_o_9 P,boot_o_10 P,o11 P,o12b P,o13 P,o14 P,o15 P,o16 P,o17 P,o18 P,o19 P,o20 P,o21 P,o22 P,o23 P,o24 P,o25 P,o26 P,o27 P,o28 P,o29 P,o30 P,o31 P,o32 P,o33 P,o34 P,o35 P,o36 P,o37 P,o38 P,o39 P,o40 P,o41 P,o42 P,o43 P,o44 P,o45 P,o46 P,o47 P,o48 P,o49 P,o50 P,o51 P,o52 P,o53 P,o54 P,o55 P,o56 P,o57 P,o58 P,o59 P,o60 P,o61 P,o62 P,o63 P,o64 P,o65 P,o66 P,o67 P,o68 P,o69 P,o70 P,o71 P,o72 P,o73 P,o74 P,o75 P,o76 P,o77 P,o78 P,o79 P,o80 P,o81 P,o82 P,o83 P,o84 P,o85 P,o86 P,o87 P,o88 P,o89 P,o90 P,o91 P,o92 P,o93 P,o94 P,o95 P,o96 P,o97 P,o98 P,o99 P,o100 P,o101 P,o102 P,o103 P,o104 P,o105 P,o106 P,o107 P,o108 P,o109 P,o110 P,o111 P,o112 P,o113 P,o114 P,o115 P,o116 P,o117 P,o118 P,o119 P,o120 P,o121 P,o122 P,o123 P,o124 P,o125 P,o126 P,o127 P,o128 P,o129 P,o130 P,o131 P,o132 P,o133 P,o134 P,o135 P,o136 P,o137 P,o138 P,o139 P,o140 P,o141 P,o142 P,o143 P]
noncomputable def Ld (P:Params):List Obj:=[boot_o_0 P,boot_o_1 P,boot_o_2 P,o3d P,boot_o_4 P,boot_o_5 P,boot_o_6 P,boot_o_7 P,boot_o_8 P,boot_o_9 P,boot_o_10 P,o11 P,o12d P,o13 P,o14 P,o15 P,o16 P,o17 P,o18 P,o19 P,o20 P,o21 P,o22 P,o23 P,o24 P,o25 P,o26 P,o27 P,o28 P,o29 P,o30 P,o31 P,o32 P,o33 P,o34 P,o35 P,o36 P,o37 P,o38 P,o39 P,o40 P,o41 P,o42 P,o43 P,o44 P,o45 P,o46 P,o47 P,o48 P,o49 P,o50 P,o51 P,o52 P,o53 P,o54 P,o55 P,o56 P,o57 P,o58 P,o59 P,o60 P,o61 P,o62 P,o63 P,o64 P,o65 P,o66 P,o67 P,o68 P,o69 P,o70 P,o71 P,o72 P,o73 P,o74 P,o75 P,o76 P,o77 P,o78 P,o79 P,o80 P,o81 P,o82 P,o83 P,o84 P,o85 P,o86 P,o87 P,o88 P,o89 P,o90 P,o91 P,o92 P,o93 P,o94 P,o95 P,o96 P,o97 P,o98 P,o99 P,o100 P,o101 P,o102 P,o103 P,o104 P,o105 P,o106 P,o107 P,o108 P,o109 P,o110 P,o111 P,o112 P,o113 P,o114 P,o115 P,o116 P,o117 P,o118 P,o119 P,o120 P,o121 P,o122 P,o123 P,o124 P,o125 P,o126 P,o127 P,o128 P,o129 P,o130 P,o131 P,o132 P,o133 P,o134 P,o135 P,o136 P,o137 P,o138 P,o139 P,o140 P,o141 P,o142 P,o143 P]
noncomputable def Le (P:Params):List Obj:=[o183 P,o184 P,o185 P,o186 P,o187 P,o188 P,o189 P,o190 P,o191 P,o192 P,o193 P,o194 P,o195 P,o196 P,o197 P,o198 P,o199 P]
noncomputable def env:Env:={scope:=Pr.main.scope,locals:=mainNs,globals:=mainNs,cells:=[],code:=.ref 13,frame:=some 14}
noncomputable def bE:List Stmt:=behindTheImports Pr
noncomputable def cE:Code:=.body bE env
noncomputable def p0:Pos:=⟨0,0,0,0⟩
noncomputable def B0:List Frame:=[topFrame p0]
noncomputable def hp (P:Params)(l:List Obj):Heap:=⟨⟨l⟩,(boot_heap P).life⟩
noncomputable def sh (P:Params)(l:List Obj)(t:Nat)(os:OsState):Shared:=⟨hp P l,⟨[]⟩,boot_drawn,t,os⟩
noncomputable def l1:List Stmt:=bE.take 13
noncomputable def l3:List Stmt:=bE.drop 14
end
end W47
namespace W47
open PySem PySem.W PySem.Calls PyProof.Rows
set_option maxHeartbeats 0
theorem pc_pre (w:World)(os:OsState):topGo treeTable Pr w 11 (some (.ref 6)) 12 (⟨boot_heap w.params,⟨[]⟩,boot_drawn,boot_toks,os⟩) (topStub Pr) =
  some (sh w.params (La w.params) 187 os,⟨denote treeTable cE,cE,p0,B0⟩):=by
 rw [PySem.W.Fast.te15667345088766844465,PySem.W.Fast.te14364793385576792824,PySem.W.Fast.te11892475500146522536]
 kernel_rfl!
theorem pc_block (w:World)(os:OsState):segRun treeTable Pr w 11 (some (.ref 6)) 1 1 (sh w.params (La w.params) 187 os) (blockOf bE env cE p0 B0)=some (.next,sh w.params (La w.params) 187 os,cE,p0):=by
 kernel_rfl!
end W47
namespace W47
open PySem PySem.W PySem.Calls PyProof.Rows
set_option maxHeartbeats 0
noncomputable def pc1P (w:World):Prop:=∀ os,segRun treeTable Pr w 11 (some (.ref 6)) 1 1800 (sh w.params (La w.params) 187 os) (piecesOf l1 env cE p0 B0) =
  some (.next,sh w.params (Lb w.params) 398 os,cE,⟨82,0,83,30⟩)
theorem pc_1 (w:World):pc1P w:=by
 refine byRow2 "special-get-raises" (fun w os=>?_) (fun w os=>?_) w
 ·rw [PySem.W.Fast.te14374325043358763698,PySem.W.Fast.te14364793385576792824]
  kernel_rfl!
 ·rw [PySem.W.Fast.te14374325043358763698,PySem.W.Fast.te14364793385576792824]
  kernel_rfl!
end W47
namespace W47
open PySem PySem.W PySem.Calls PyProof.Rows
noncomputable abbrev ann0:Option Value:=some (.ref 6)
noncomputable def Ev {α:Type}(w:World)(b:Nat)(m:Sem α)(s:Shared)(p:Pos)(a:α)(s':Shared)(p':Pos):Prop:=
 ∀ (K:α→Sem PySem.Fin) (H:Value→Sem PySem.Fin) (gd:Bool→Bool) (lv:List Value→List Value),∃ n,n≤b∧∀ N r,
  segRun treeTable Pr w 11 ann0 1 N s' ⟨K a,cE,p',B0⟩=some r→segRun treeTable Pr w 11 ann0 1 (n+N) s ⟨m.wrap K H gd lv,cE,p,B0⟩=some r
section
variable {α β:Type}{w:World}{s s₁ s₂:Shared}{p p₁ p₂:Pos}
theorem Ev.pure (a:α):Ev w 0 (Pure.pure a:Sem α) s p a s p:=fun K H gd lv=>⟨0,Nat.le_refl _,fun N r h=>by rw [Nat.zero_add];exact h⟩
theorem Ev.mono {b b':Nat}{m:Sem α}{a:α}(h:Ev w b m s p a s₁ p₁)(hb:b≤b'):Ev w b' m s p a s₁ p₁:=fun K H gd lv=>
 let ⟨n,hn,x⟩:=h K H gd lv
 ⟨n,Nat.le_trans hn hb,x⟩
theorem Ev.bind {b₁ b₂:Nat}{m:Sem α}{f:α→Sem β}{a:α}{c:β}(h:Ev w b₁ m s p a s₁ p₁)(k:Ev w b₂ (f a) s₁ p₁ c s₂ p₂):Ev w (b₁+b₂) (m>>=f) s p c s₂ p₂:=fun K H gd lv=>by
 obtain ⟨n₁,l₁,x₁⟩:=h (fun a=>(f a).wrap K H gd lv) H gd lv
 obtain ⟨n₂,l₂,x₂⟩:=k K H gd lv
 refine ⟨n₁+n₂,Nat.add_le_add l₁ l₂,fun N r hr=>?_⟩
 rw [Sem.bind_eq_wrap',Sem.wrap_wrap,Nat.add_assoc]
 exact x₁ _ _ (x₂ _ _ hr)
theorem Ev.keep {b:Nat}{m:Sem α}{a:α}(vs:List Value)(h:Ev w b m s p a s₁ p₁):Ev w b (m.keep vs) s p a s₁ p₁:=fun K H gd lv=>by
 rw [Sem.keep_eq_wrap,Sem.wrap_wrap]
 exact h _ _ _ _
theorem Ev.holding {b:Nat}{m:Sem α}{a:α}(vs:List Value)(h:Ev w b m s p a s₁ p₁):Ev w b (PySem.holding vs m) s p a s₁ p₁:=by
 unfold PySem.holding
 split
 ·exact h
 ·exact h.keep _
theorem Ev.onRaise {b:Nat}{m:Sem α}{g:Value→Sem Unit}{a:α}(h:Ev w b m s p a s₁ p₁):Ev w b (m.onRaise g) s p a s₁ p₁:=fun K H gd lv=>by
 rw [Sem.onRaise_eq_wrap,Sem.wrap_wrap]
 exact h _ _ _ _
theorem Ev.tryCatch {b:Nat}{m:Sem α}{g:Value→Sem α}{a:α}(h:Ev w b m s p a s₁ p₁):Ev w b (m.tryCatch g) s p a s₁ p₁:=fun K H gd lv=>by
 rw [Sem.tryCatch_eq_wrap,Sem.wrap_wrap]
 exact h _ _ _ _
theorem seg_one {t t':Thread}{s s':Shared}(h1:endAt 1 t=none)(h2:stepOk 11 ann0 t=true)(h3:step (denote treeTable) Pr w s t=.go s' t'){N:Nat}{r:Flow × Shared × Code × Pos}
  (h:segRun treeTable Pr w 11 ann0 1 N s' t'=some r):segRun treeTable Pr w 11 ann0 1 (1+N) s t=some r:=by
 rw [Nat.add_comm 1 N]
 unfold segRun
 rw [h1,h2,h3]
 exact h
theorem Ev.load {a:Addr}{q:Option Value}{o:Obj}(h:s.heap.get? a=some o):Ev w 1 (loadPart a q) s p o s p:=fun K H gd lv=>by
 refine ⟨1,Nat.le_refl _,fun N r hr=>seg_one rfl rfl ?_ hr⟩
 show step (denote treeTable) Pr w ⟨s.heap,s.gens,s.drawn,s.toks,s.os⟩ ⟨.load a q fun o=>K o,cE,p,B0⟩=_
 simp only [step,h]
theorem Ev.update {a:Addr}{q:Option Value}{f:Obj→Obj}{o:Obj}(h:s.heap.get? a=some o)(ha:11≤a):Ev w 1 (updatePart a q f) s p () {s with heap:=s.heap.update a f} p:=fun K H gd lv=>by
 refine ⟨1,Nat.le_refl _,fun N r hr=>seg_one rfl ?_ ?_ hr⟩
 ·have:Nat.ble 11 a=true:=Nat.ble_eq_true_of_le ha
  show ((Thread.calm ⟨.update a q f fun x=>K x,cE,p,B0⟩)&&(Nat.ble 11 a||a==mainNs||a==cStatics||ann0==some (.ref a)))=true
  rw [this];rfl
 ·show step (denote treeTable) Pr w ⟨s.heap,s.gens,s.drawn,s.toks,s.os⟩ ⟨.update a q f fun x=>K x,cE,p,B0⟩=_
  simp only [step,h];rfl
theorem Ev.alloc {o:Obj}:Ev w 1 (PySem.alloc o) s p s.heap.objs.size {s with heap:=s.heap.push o} p:=fun K H gd lv=>
 ⟨1,Nat.le_refl _,fun N r hr=>seg_one rfl rfl rfl hr⟩
theorem Ev.fresh:Ev w 1 PySem.fresh s p s.toks {s with toks:=s.toks+1} p:=fun K H gd lv=>
 ⟨1,Nat.le_refl _,fun N r hr=>seg_one rfl rfl rfl hr⟩
theorem Ev.rule {tag:String}:Ev w 1 (PySem.rule tag) s p () s p:=fun K H gd lv=>
 ⟨1,Nat.le_refl _,fun N r hr=>seg_one rfl rfl rfl hr⟩
theorem Ev.at {q:Pos}:Ev w 1 (PySem.standAt q) s p () s q:=fun K H gd lv=>
 ⟨1,Nat.le_refl _,fun N r hr=>seg_one rfl rfl rfl hr⟩
theorem Ev.ask:Ev w 1 PySem.ask s p ⟨Pr,w.params⟩ s p:=fun K H gd lv=>
 ⟨1,Nat.le_refl _,fun N r hr=>seg_one rfl rfl rfl hr⟩
theorem Ev.point:Ev w 1 PySem.point s p () s p:=fun K H gd lv=>
 ⟨1,Nat.le_refl _,fun N r hr=>seg_one rfl rfl rfl hr⟩
theorem Ev.ofSeg {n:Nat}{m:Sem α}{a:α}(h:∀ K H gd lv,segGo treeTable Pr w 11 ann0 1 n s ⟨m.wrap K H gd lv,cE,p,B0⟩=some (s₁,⟨K a,cE,p₁,B0⟩)):Ev w n m s p a s₁ p₁:=fun K H gd lv=>
 ⟨n,Nat.le_refl _,fun _ _ hr=>seg_go (h K H gd lv) hr⟩
theorem Ev.eq {b:Nat}{m m':Sem α}{a:α}(e:m=m')(h:Ev w b m' s p a s₁ p₁):Ev w b m s p a s₁ p₁:=e▸h
theorem Ev.mkInt (i:Int):Ev w 1 (PySem.mkInt i) s p (.int i s.toks) {s with toks:=s.toks+1} p:=Ev.bind (b₁:=1) (b₂:=0) Ev.fresh (Ev.pure _)
theorem Ev.mkText (x:Str):Ev w 1 (PySem.mkText x) s p (.str x s.toks) {s with toks:=s.toks+1} p:=Ev.bind (b₁:=1) (b₂:=0) Ev.fresh (Ev.pure _)
end
section
variable {w:World}{s s₁ s₂:Shared}{p p₁ p₂:Pos}
set_option maxHeartbeats 0 in
theorem ev_callHash (k:Int)(t:Tok)(g:Sem Value)(h:Heap)(gs:Array GenState)(d:Drawn)(tk:Nat)(os:OsState) :
  Ev w 6 (callSpecialIfBoundUnlessNone? (.int k t) "__hash__" g) ⟨h,gs,d,tk,os⟩ p (some (.int (rawHash k) tk)) ⟨h,gs,d,tk+1,os⟩ p:=by
 have key:∀ w:World,∀ K H gd lv,segGo treeTable Pr w 11 ann0 1 5 ⟨h,gs,d,tk,os⟩ ⟨(callSpecialIfBoundUnlessNone? (.int k t) "__hash__" g).wrap K H gd lv,cE,p,B0⟩=some (⟨h,gs,d,tk+1,os⟩,⟨K (some (.int (rawHash k) tk)),cE,p,B0⟩):=by
  intro w
  refine byRow2 "special-get-raises" (P:=fun w=>∀ K H gd lv,segGo treeTable Pr w 11 ann0 1 5 ⟨h,gs,d,tk,os⟩ ⟨(callSpecialIfBoundUnlessNone? (.int k t) "__hash__" g).wrap K H gd lv,cE,p,B0⟩=some (⟨h,gs,d,tk+1,os⟩,⟨K (some (.int (rawHash k) tk)),cE,p,B0⟩)) (fun w=>?_) (fun w=>?_) w
  ·intro K H gd lv;kernel_rfl!
  ·intro K H gd lv;kernel_rfl!
 exact (Ev.ofSeg (key w)).mono (by decide)
theorem ev_pyHash (k:Int)(t:Tok)(s:Shared):Ev w 6 (pyHash (.int k t)) s p (hashInt k) {s with toks:=s.toks+1} p:=by
 have hr:=rawHash_range k
 have e1:specialOf (.int k t) "__hash__"=(pure (some (.builtin "int.__hash__")):Sem (Option Value)):=by kernel_rfl!
 show Ev w 6 (pyHashByItsType (.int k t)) s p _ _ p
 unfold pyHashByItsType
 refine Ev.bind (b₁:=0) (b₂:=6) (a:=()) (Ev.pure ()) ?_
 rw [e1]
 refine Ev.bind (b₁:=0) (b₂:=6) (Ev.pure _) ?_
 show Ev w 6 (if (some (Value.builtin "int.__hash__")==some Value.none)=true then _ else _) _ _ _ _ _
 rw [if_neg (by rw [beq_builtin_none];exact Bool.false_ne_true)]
 refine Ev.bind (b₁:=0) (b₂:=6) (Ev.pure _) ?_
 refine Ev.bind (b₁:=6) (b₂:=0) (ev_callHash k t _ s.heap s.gens s.drawn s.toks s.os) ?_
 show Ev w 0 (if (decide (-(2:Int) ^ 63≤rawHash k)&&decide (rawHash k < 2 ^ 63))=true then _ else _) _ _ _ _ _
 rw [if_pos (by rw [decide_eq_true hr.1,decide_eq_true hr.2];rfl)]
 exact Ev.pure _
noncomputable def DO (es:List DictEntry)(n:Nat):Obj:=⟨.type "dict",none,.dict ⟨es⟩ n,#[]⟩
theorem places_nil {es:Array DictEntry}{h:Int}(hn:∀ e∈es,e.hash≠h):placesWithHash es.size (fun i=>es[i]?.map (·.hash)) h=[]:=by
 unfold placesWithHash
 rw [List.filter_eq_nil_iff]
 intro i hi
 have hi':i < es.size:=List.mem_range.mp hi
 dsimp only
 rw [Array.getElem?_eq_getElem hi',Option.map_some,beq_iff_eq]
 intro e
 exact hn _ (Array.getElem_mem hi') (Option.some.inj e)
theorem ev_dictEntries {a:Addr}{q:Option Value}{es:List DictEntry}{n:Nat}(h:s.heap.get? a=some (DO es n)):Ev w 1 (dictEntries a q) s p ⟨es⟩ s p:=
 Ev.bind (b₁:=1) (b₂:=0) (Ev.load h) (Ev.pure _)
theorem ev_dictEpoch {a:Addr}{q:Option Value}{es:List DictEntry}{n:Nat}(h:s.heap.get? a=some (DO es n)):Ev w 1 (dictEpoch a q) s p n s p:=
 Ev.bind (b₁:=1) (b₂:=0) (Ev.load h) (Ev.pure _)
theorem ev_dictFind {d:Addr}{es:List DictEntry}{n:Nat}{k:Int}{t:Tok}{hh:Int}(h:s.heap.get? d=some (DO es n))(hn:∀ e∈es,e.hash≠hh) :
  Ev w 1 (dictFind d (.int k t) hh) s p none s p:=by
 unfold dictFind
 refine Ev.holding _ ?_
 refine Ev.bind (b₁:=1) (b₂:=0) (ev_dictEntries h) ?_
 dsimp only
 rw [places_nil (es:=⟨es⟩) (h:=hh) (fun e he=>hn e (by simpa using he))]
 exact Ev.pure _
theorem ev_updateKeys {d:Addr}{q:Option Value}{es:List DictEntry}{n:Nat}{e:DictEntry}(h:s.heap.get? d=some (DO es n))(hd:11≤d)(hz:es.length≤10000) :
  Ev w 3 (updateDictKeys d (·.push e) q) s p () {s with heap:=s.heap.update d (Obj.mapDictKeys (·.push e))} p:=by
 unfold updateDictKeys
 refine Ev.bind (b₁:=1) (b₂:=2) (Ev.load h) ?_
 refine Ev.bind (b₁:=1) (b₂:=1) (Ev.update h hd) ?_
 unfold lookBehind
 refine Ev.bind (b₁:=1) (b₂:=0) (Ev.load (o:=Obj.mapDictKeys (·.push e) (DO es n)) (Heap.get?_update_self _ h rfl)) ?_
 have:(Obj.mapDictKeys (·.push e) (DO es n)).data.pastItsLine=none:=pastItsLine_dict (by
  show ((⟨es⟩:Array DictEntry).push e).size≤_
  rw [Array.size_push,sizeLine_eq]
  show es.length+1≤_
  (first | lia | omega))
 rw [this]
 exact Ev.pure _
theorem ev_dictSet {d:Addr}{es:List DictEntry}{n:Nat}{k:Int}{t:Tok}{v:Value}(h:s.heap.get? d=some (DO es n))(hd:11≤d)(hz:es.length≤10000)(hn:∀ e∈es,e.hash≠hashInt k) :
  Ev w 11 (dictSet d (.int k t) v) s p () {s with heap:=s.heap.update d (Obj.mapDictKeys (·.push ⟨hashInt k,.int k t,v⟩)),toks:=s.toks+1} p:=by
 unfold dictSet
 refine Ev.holding _ ?_
 refine Ev.bind (b₁:=6) (b₂:=5) (ev_pyHash k t s) ?_
 unfold dictSetHashed
 refine Ev.holding _ ?_
 refine Ev.bind (b₁:=1) (b₂:=4) (ev_dictFind (es:=es) (n:=n) h hn) ?_
 refine Ev.bind (b₁:=1) (b₂:=3) Ev.rule ?_
 exact ev_updateKeys (s:={s with toks:=s.toks+1}) h hd hz
theorem ev_dictPut {d:Addr}{es:List DictEntry}{n:Nat}{k:Int}{t:Tok}{v:Value}{hh:Int}(h:s.heap.get? d=some (DO es n))(hd:11≤d)(hz:es.length≤10000)(hn:∀ e∈es,e.hash≠hh) :
  Ev w 4 (dictPut d hh (.int k t) v) s p () {s with heap:=s.heap.update d (Obj.mapDictKeys (·.push ⟨hh,.int k t,v⟩))} p:=by
 unfold dictPut
 refine Ev.bind (b₁:=1) (b₂:=3) (ev_dictFind (es:=es) (n:=n) h hn) ?_
 exact ev_updateKeys h hd hz
end
section
variable {w:World}{p:Pos}{lf:Life}{gs:Array GenState}{dr:Drawn}{os:OsState}
noncomputable def St (lf:Life)(gs:Array GenState)(dr:Drawn)(os:OsState)(l:List Obj)(t:Nat):Shared:=⟨⟨⟨l⟩,lf⟩,gs,dr,t,os⟩
theorem get_mid (A:List Obj)(es:List DictEntry)(n:Nat)(B:List Obj):(St lf gs dr os (A++DO es n::B) t).heap.get? A.length=some (DO es n):=by
 show (match (⟨A++DO es n::B⟩:Array Obj)[A.length]? with | some ⟨_,_,.freed,_⟩=>none | o=>o)=_
 rw [List.getElem?_toArray,List.getElem?_append_right (Nat.le_refl _),Nat.sub_self]
 rfl
theorem upd_mid (A:List Obj)(m:Obj)(B:List Obj)(f:Obj→Obj)(t t':Nat) :
  ({(St lf gs dr os (A++m::B) t) with heap:=(St lf gs dr os (A++m::B) t).heap.update A.length f,toks:=t'}:Shared)=St lf gs dr os (A++f m::B) t':=by
 show (⟨Heap.update ⟨⟨A++m::B⟩,lf⟩ A.length f,gs,dr,t',os⟩:Shared)=⟨⟨⟨A++f m::B⟩,lf⟩,gs,dr,t',os⟩
 have:(⟨A++m::B⟩:Array Obj).modify A.length f=⟨A++f m::B⟩:=by
  apply Array.ext_getElem?
  intro i
  rw [Array.getElem?_modify,List.getElem?_toArray,List.getElem?_toArray]
  by_cases h:A.length=i
  ·subst h;simp
  ·rw [if_neg h]
   by_cases q:i < A.length
   ·rw [List.getElem?_append_left q,List.getElem?_append_left q]
   ·have q':A.length≤i:=Nat.le_of_not_lt q
    rw [List.getElem?_append_right q',List.getElem?_append_right q']
    cases hi:i - A.length with
    | zero=>(first | lia | omega)
    | succ j=>rfl
 show (⟨⟨Array.modify _ _ _,lf⟩,gs,dr,t',os⟩:Shared)=_
 rw [this]
theorem push_entry (es:List DictEntry)(n:Nat)(e:DictEntry):Obj.mapDictKeys (·.push e) (DO es n)=DO (es++[e]) (n+1):=by
 show (⟨.type "dict",none,.dict ((⟨es⟩:Array DictEntry).push e) (n+1),#[]⟩:Obj)=_
 have:(⟨es⟩:Array DictEntry).push e=⟨es++[e]⟩:=by simp
 rw [this];rfl
noncomputable def ent (t:Nat)(q:Int × Str):DictEntry:=⟨hashInt q.1,.int q.1 t,.str q.2 (t+1)⟩
noncomputable def entL:Nat→List (Int × Str)→List DictEntry
 | _,[]=>[]
 | t,q::r=>ent t q::entL (t+3) r
theorem entL_hash:∀ (t:Nat) (ps:List (Int × Str)),(entL t ps).map (·.hash)=ps.map fun q=>hashInt q.1
 | _,[]=>rfl
 | t,q::r=>by show _::_=_::_;rw [entL_hash (t+3) r];rfl
theorem entL_length:∀ (t:Nat) (ps:List (Int × Str)),(entL t ps).length=ps.length
 | _,[]=>rfl
 | t,q::r=>by show _+1=_+1;rw [entL_length (t+3) r]
noncomputable def treesOf (dp : Pos) (ps : List (Int × Str)) : List (Sem Value × Sem Value) := ps.map fun q => (mkInt q.1, do let x ← mkText q.2; standAt dp; pure x)
theorem ev_forPairs (dp : Pos) (A B : List Obj) (hA : 11 ≤ A.length) : ∀ (ps : List (Int × Str)) (es : List DictEntry) (n t : Nat) (p : Pos), es.length + ps.length ≤ 10000 → (es.map (·.hash) ++ ps.map fun q => hashInt q.1).Nodup →
    ∃ p', Ev w (20 * ps.length) (forIn (treesOf dp ps) PUnit.unit fun (x : Sem Value × Sem Value) (_ : PUnit) => (do
        let kv ← x.1
        let vv ← holding [kv] x.2
        holding [kv, vv] (dictSet A.length kv vv)
        pure (ForInStep.yield PUnit.unit) : Sem (ForInStep PUnit))) (St lf gs dr os (A ++ DO es n :: B) t) p PUnit.unit (St lf gs dr os (A ++ DO (es ++ entL t ps) (n + ps.length) :: B) (t + 3 * ps.length)) p'
  | [], es, n, t, p, _, _ => ⟨p, by rw [show es ++ entL t [] = es from List.append_nil _]; exact Ev.pure _⟩
  | q :: r, es, n, t, p, hz, hn => by
    have hz' : es.length + (r.length + 1) ≤ 10000 := hz
    have hd : ∀ e ∈ es, e.hash ≠ hashInt q.1 := fun e he h => by
      rw [List.nodup_append] at hn
      exact hn.2.2 e.hash (List.mem_map_of_mem he) (hashInt q.1) (by simp) h
    obtain ⟨p', ih⟩ := ev_forPairs dp A B hA r (es ++ [ent t q]) (n + 1) (t + 3) dp (by simp only [List.length_append, List.length_cons, List.length_nil]; (first | lia | omega)) (by
      rw [List.map_append, List.append_assoc]
      exact hn)
    refine ⟨p', ?_⟩
    have e1 : es ++ [ent t q] ++ entL (t + 3) r = es ++ entL t (q :: r) := by rw [List.append_assoc]; rfl
    have e2 : n + 1 + r.length = n + (q :: r).length := by show _ = n + (r.length + 1); (first | lia | omega)
    have e3 : t + 3 + 3 * r.length = t + 3 * (q :: r).length := by show _ = t + 3 * (r.length + 1); (first | lia | omega)
    rw [e1, e2, e3] at ih
    show Ev w (20 * (r.length + 1)) (forIn ((mkInt q.1, (do let x ← mkText q.2; standAt dp; pure x : Sem Value)) :: treesOf dp r) PUnit.unit _) _ _ _ _ _
    rw [List.forIn_cons]
    refine Ev.mono (b := (1 + (2 + (11 + 0))) + 20 * r.length) ?_ (by (first | lia | omega))
    refine Ev.bind (b₁ := 1 + (2 + (11 + 0))) (b₂ := 20 * r.length) (a := ForInStep.yield PUnit.unit) (s₁ := St lf gs dr os (A ++ DO (es ++ [ent t q]) (n + 1) :: B) (t + 3)) (p₁ := dp) ?_ ih
    refine Ev.bind (b₁ := 1) (b₂ := 2 + (11 + 0)) (Ev.mkInt q.1) ?_
    refine Ev.bind (b₁ := 2) (b₂ := 11 + 0) (a := .str q.2 (t + 1)) (s₁ := St lf gs dr os (A ++ DO es n :: B) (t + 2)) (p₁ := dp) ?_ ?_
    · exact Ev.holding _ (Ev.bind (b₁ := 1) (b₂ := 1) (Ev.mkText q.2) (Ev.bind (b₁ := 1) (b₂ := 0) Ev.at (Ev.pure _)))
    · refine Ev.bind (b₁ := 11) (b₂ := 0) (a := ()) (s₁ := St lf gs dr os (A ++ DO (es ++ [ent t q]) (n + 1) :: B) (t + 3)) (p₁ := dp) ?_ (Ev.pure _)
      refine Ev.holding _ ?_
      have := ev_dictSet (w := w) (p := dp) (s := St lf gs dr os (A ++ DO es n :: B) (t + 2)) (k := q.1) (t := t) (v := .str q.2 (t + 1)) (get_mid A es n B) hA (by (first | lia | omega)) hd
      rw [← push_entry, ← upd_mid A (DO es n) B _ (t + 2) (t + 3)]
      exact this
theorem treesOf_length (dp:Pos)(ps:List (Int × Str)):(treesOf dp ps).length=ps.length:=List.length_map ..
theorem ev_subLong (dp:Pos)(A:List Obj)(hA:11≤A.length)(ps:List (Int × Str))(t:Nat)(p:Pos)(h15:15 < ps.length)(hz:ps.length≤10000)(hn:(ps.map fun q=>hashInt q.1).Nodup) :
  ∃ p',Ev w (20*ps.length+2) (subDict (treesOf dp ps)) (St lf gs dr os A t) p A.length (St lf gs dr os (A++[DO (entL t ps) ps.length]) (t+3*ps.length)) p':=by
 obtain ⟨p',h⟩:=ev_forPairs (w:=w) (lf:=lf) (gs:=gs) (dr:=dr) (os:=os) dp A [] hA ps [] 0 t p (by simpa using hz) (by simpa using hn)
 refine ⟨p',?_⟩
 rw [List.nil_append,Nat.zero_add] at h
 unfold subDict
 refine Ev.mono (b:=1+((1+(20*ps.length+0))+0)) ?_ (by (first | lia | omega))
 refine Ev.bind (b₁:=1) (b₂:=(1+(20*ps.length+0))+0) (a:=A.length) (s₁:=St lf gs dr os (A++[DO [] 0]) t) (p₁:=p) ?_ ?_
 ·have:=Ev.alloc (w:=w) (s:=St lf gs dr os A t) (p:=p) (o:={cls:=.type "dict",data:=.dict #[]})
  have e:(St lf gs dr os (A++[DO [] 0]) t)={(St lf gs dr os A t) with heap:=(St lf gs dr os A t).heap.push {cls:=.type "dict",data:=.dict #[]}}:=by
   show (⟨⟨⟨A++[DO [] 0]⟩,lf⟩,gs,dr,t,os⟩:Shared)=⟨⟨(⟨A⟩:Array Obj).push _,lf⟩,gs,dr,t,os⟩
   rw [List.push_toArray];rfl
  rw [e];exact this
 ·refine Ev.bind (b₁:=1+(20*ps.length+0)) (b₂:=0) (a:=()) (s₁:=St lf gs dr os (A++[DO (entL t ps) ps.length]) (t+3*ps.length)) (p₁:=p') ?_ (Ev.pure _)
  refine Ev.holding _ ?_
  rw [if_neg (by rw [treesOf_length];(first | lia | omega))]
  refine Ev.bind (b₁:=1) (b₂:=20*ps.length+0) Ev.rule ?_
  refine Ev.bind (b₁:=20*ps.length) (b₂:=0) (a:=PUnit.unit) ?_ (Ev.pure _)
  exact h
noncomputable def entS:Nat→List (Int × Str)→List DictEntry
 | _,[]=>[]
 | t,q::r=>ent t q::entS (t+2) r
noncomputable def valS:Nat→List (Int × Str)→List (Value × Value)
 | _,[]=>[]
 | t,q::r=>(.int q.1 t,.str q.2 (t+1))::valS (t+2) r
theorem entS_hash:∀ (t:Nat) (ps:List (Int × Str)),(entS t ps).map (·.hash)=ps.map fun q=>hashInt q.1
 | _,[]=>rfl
 | t,q::r=>by show _::_=_::_;rw [entS_hash (t+2) r];rfl
theorem entS_length:∀ (t:Nat) (ps:List (Int × Str)),(entS t ps).length=ps.length
 | _,[]=>rfl
 | t,q::r=>by show _+1=_+1;rw [entS_length (t+2) r]
theorem ev_evalPairs (dp : Pos) (l : List Obj) : ∀ (ps : List (Int × Str)) (t : Nat) (p : Pos), ∃ p', Ev w (3 * ps.length) (evalPairs (treesOf dp ps)) (St lf gs dr os l t) p (valS t ps) (St lf gs dr os l (t + 2 * ps.length)) p'
  | [], t, p => ⟨p, Ev.pure _⟩
  | q :: r, t, p => by
    obtain ⟨p', ih⟩ := ev_evalPairs dp l r (t + 2) dp
    refine ⟨p', ?_⟩
    have e3 : t + 2 + 2 * r.length = t + 2 * (q :: r).length := by show _ = t + 2 * (r.length + 1); (first | lia | omega)
    rw [e3] at ih
    show Ev w (3 * (r.length + 1)) (evalPairs ((mkInt q.1, (do let x ← mkText q.2; standAt dp; pure x : Sem Value)) :: treesOf dp r)) _ _ _ _ _
    refine Ev.mono (b := 1 + (2 + (3 * r.length + 0))) ?_ (by (first | lia | omega))
    refine Ev.bind (b₁ := 1) (b₂ := 2 + (3 * r.length + 0)) (Ev.mkInt q.1) ?_
    refine Ev.bind (b₁ := 2) (b₂ := 3 * r.length + 0) (a := .str q.2 (t + 1)) (s₁ := St lf gs dr os l (t + 2)) (p₁ := dp) ?_ ?_
    · exact Ev.holding _ (Ev.bind (b₁ := 1) (b₂ := 1) (Ev.mkText q.2) (Ev.bind (b₁ := 1) (b₂ := 0) Ev.at (Ev.pure _)))
    · exact Ev.bind (b₁ := 3 * r.length) (b₂ := 0) (Ev.holding _ ih) (Ev.pure _)
theorem ev_forVals (A B:List Obj)(hA:11≤A.length):∀ (ps:List (Int × Str)) (es:List DictEntry) (n t t₀:Nat) (p:Pos),es.length+ps.length≤10000→(es.map (·.hash)++ps.map fun q=>hashInt q.1).Nodup →
  Ev w (20*ps.length) (forIn (valS t₀ ps) PUnit.unit fun (x:Value × Value) (_:PUnit)=>(do
    dictSet A.length x.1 x.2
    pure (ForInStep.yield PUnit.unit):Sem (ForInStep PUnit))) (St lf gs dr os (A++DO es n::B) t) p PUnit.unit (St lf gs dr os (A++DO (es++entS t₀ ps) (n+ps.length)::B) (t+ps.length)) p
 | [],es,n,t,t₀,p,_,_=>by rw [show es++entS t₀ []=es from List.append_nil _];exact Ev.pure _
 | q::r,es,n,t,t₀,p,hz,hn=>by
  have hz':es.length+(r.length+1)≤10000:=hz
  have hd:∀ e∈es,e.hash≠hashInt q.1:=fun e he h=>by
   rw [List.nodup_append] at hn
   exact hn.2.2 e.hash (List.mem_map_of_mem he) (hashInt q.1) (by simp) h
  have ih:=ev_forVals A B hA r (es++[ent t₀ q]) (n+1) (t+1) (t₀+2) p (by simp only [List.length_append,List.length_cons,List.length_nil];(first | lia | omega)) (by
   rw [List.map_append,List.append_assoc]
   exact hn)
  have e1:es++[ent t₀ q]++entS (t₀+2) r=es++entS t₀ (q::r):=by rw [List.append_assoc];rfl
  have e2:n+1+r.length=n+(q::r).length:=by show _=n+(r.length+1);(first | lia | omega)
  have e3:t+1+r.length=t+(q::r).length:=by show _=t+(r.length+1);(first | lia | omega)
  rw [e1,e2,e3] at ih
  show Ev w (20*(r.length+1)) (forIn (((.int q.1 t₀:Value),(.str q.2 (t₀+1):Value))::valS (t₀+2) r) PUnit.unit _) _ _ _ _ _
  rw [List.forIn_cons]
  refine Ev.mono (b:=(11+0)+20*r.length) ?_ (by (first | lia | omega))
  refine Ev.bind (b₁:=11+0) (b₂:=20*r.length) (a:=ForInStep.yield PUnit.unit) (s₁:=St lf gs dr os (A++DO (es++[ent t₀ q]) (n+1)::B) (t+1)) (p₁:=p) ?_ ih
  refine Ev.bind (b₁:=11) (b₂:=0) (a:=()) (s₁:=St lf gs dr os (A++DO (es++[ent t₀ q]) (n+1)::B) (t+1)) (p₁:=p) ?_ (Ev.pure _)
  have:=ev_dictSet (w:=w) (p:=p) (s:=St lf gs dr os (A++DO es n::B) t) (k:=q.1) (t:=t₀) (v:=.str q.2 (t₀+1)) (get_mid A es n B) hA (by (first | lia | omega)) hd
  rw [← push_entry,← upd_mid A (DO es n) B _ t (t+1)]
  exact this
theorem ev_subShort (dp:Pos)(A:List Obj)(hA:11≤A.length)(ps:List (Int × Str))(t:Nat)(p:Pos)(h15:ps.length≤15)(hn:(ps.map fun q=>hashInt q.1).Nodup) :
  ∃ p',Ev w (30*ps.length+2) (subDict (treesOf dp ps)) (St lf gs dr os A t) p A.length (St lf gs dr os (A++[DO (entS t ps) ps.length]) (t+3*ps.length)) p':=by
 obtain ⟨p',h1⟩:=ev_evalPairs (w:=w) (lf:=lf) (gs:=gs) (dr:=dr) (os:=os) dp (A++[DO [] 0]) ps t p
 have h:=ev_forVals (w:=w) (lf:=lf) (gs:=gs) (dr:=dr) (os:=os) A [] hA ps [] 0 (t+2*ps.length) t p' (by simp only [List.length_nil];(first | lia | omega)) (by simpa using hn)
 refine ⟨p',?_⟩
 rw [List.nil_append,Nat.zero_add,show t+2*ps.length+ps.length=t+3*ps.length by (first | lia | omega)] at h
 unfold subDict
 refine Ev.mono (b:=1+((3*ps.length+(20*ps.length+0))+0)) ?_ (by (first | lia | omega))
 refine Ev.bind (b₁:=1) (b₂:=(3*ps.length+(20*ps.length+0))+0) (a:=A.length) (s₁:=St lf gs dr os (A++[DO [] 0]) t) (p₁:=p) ?_ ?_
 ·have:=Ev.alloc (w:=w) (s:=St lf gs dr os A t) (p:=p) (o:={cls:=.type "dict",data:=.dict #[]})
  have e:(St lf gs dr os (A++[DO [] 0]) t)={(St lf gs dr os A t) with heap:=(St lf gs dr os A t).heap.push {cls:=.type "dict",data:=.dict #[]}}:=by
   show (⟨⟨⟨A++[DO [] 0]⟩,lf⟩,gs,dr,t,os⟩:Shared)=⟨⟨(⟨A⟩:Array Obj).push _,lf⟩,gs,dr,t,os⟩
   rw [List.push_toArray];rfl
  rw [e];exact this
 ·refine Ev.bind (b₁:=3*ps.length+(20*ps.length+0)) (b₂:=0) (a:=()) (s₁:=St lf gs dr os (A++[DO (entS t ps) ps.length]) (t+3*ps.length)) (p₁:=p') ?_ (Ev.pure _)
  refine Ev.holding _ ?_
  rw [if_pos (by rw [treesOf_length];exact h15)]
  refine Ev.bind (b₁:=3*ps.length) (b₂:=20*ps.length+0) h1 ?_
  refine Ev.holding _ ?_
  refine Ev.bind (b₁:=20*ps.length) (b₂:=0) (a:=PUnit.unit) ?_ (Ev.pure _)
  exact h
end
end W47
namespace W47
open PySem PySem.W PySem.Calls PyProof.Rows
section
variable {w:World}{p:Pos}{lf:Life}{gs:Array GenState}{dr:Drawn}{os:OsState}
theorem Ev.pureBind {α β:Type}{b:Nat}{f:α→Sem β}{a:α}{s s':Shared}{p p':Pos}{c:β}(h:Ev w b (f a) s p c s' p'):Ev w b (Pure.pure a>>=f) s p c s' p':=h
theorem get_last (A B:List Obj)(es fs:List DictEntry)(n m t:Nat):(St lf gs dr os (A++DO es n::(B++[DO fs m])) t).heap.get? (A.length+1+B.length)=some (DO fs m):=by
 have h:=get_mid (lf:=lf) (gs:=gs) (dr:=dr) (os:=os) (t:=t) (A++DO es n::B) fs m []
 have e:(A++DO es n::B).length=A.length+1+B.length:=by simp only [List.length_append,List.length_cons];(first | lia | omega)
 rw [e,List.append_assoc] at h
 exact h
noncomputable def mergeBody (d a:Addr)(epoch:Nat):Nat→PUnit→Sem (ForInStep PUnit):=fun i _=>do
 let es ← dictEntries a
 match es[i]? with
 | some e=>do
  holding [e.key,e.val] (dictPut d e.hash e.key e.val)
  let x ← dictEpoch a
  if (x != epoch)=true then do
    unsupported "dict.changed-during-merge"
    pure (ForInStep.yield PUnit.unit)
   else pure (ForInStep.yield PUnit.unit)
 | _=>do
  unsupported "dict.changed-during-merge"
  pure (ForInStep.yield PUnit.unit)
theorem ev_mergeLoop (A B:List Obj)(hA:11≤A.length)(fs:List DictEntry)(m:Nat)(hk:∀ f∈fs,∃ k t v,f=⟨hashInt k,.int k t,v⟩):∀ (k i:Nat) (es:List DictEntry) (n t:Nat) (p:Pos),i+k=fs.length→es.length+k≤10000 →
  (es.map (·.hash)++(fs.drop i).map (·.hash)).Nodup →
  Ev w (10*k) (forIn (List.range' i k) PUnit.unit (mergeBody A.length (A.length+1+B.length) m)) (St lf gs dr os (A++DO es n::(B++[DO fs m])) t) p PUnit.unit (St lf gs dr os (A++DO (es++fs.drop i) (n+k)::(B++[DO fs m])) t) p
 | 0,i,es,n,t,p,hi,hz,hn=>by
  have:fs.drop i=[]:=List.drop_eq_nil_of_le (by (first | lia | omega))
  rw [this,List.append_nil]
  exact Ev.pure _
 | k+1,i,es,n,t,p,hi,hz,hn=>by
  have hlt:i < fs.length:=by (first | lia | omega)
  have hdrop:fs.drop i=fs[i]::fs.drop (i+1):=List.drop_eq_getElem_cons hlt
  rw [hdrop] at hn
  obtain ⟨k₀,t₀,v₀,he⟩:=hk fs[i] (List.getElem_mem hlt)
  have hd:∀ e∈es,e.hash≠hashInt k₀:=fun e hm h=>by
   rw [List.nodup_append] at hn
   exact hn.2.2 e.hash (List.mem_map_of_mem hm) (hashInt k₀) (by rw [List.map_cons,he];exact .head _) h
  have ih:=ev_mergeLoop A B hA fs m hk k (i+1) (es++[fs[i]]) (n+1) t p (by (first | lia | omega)) (by simp only [List.length_append,List.length_cons,List.length_nil];(first | lia | omega)) (by
   rw [List.map_append,List.append_assoc];exact hn)
  rw [List.append_assoc,List.singleton_append,← hdrop,show n+1+k=n+(k+1) by (first | lia | omega)] at ih
  rw [List.range'_succ,List.forIn_cons]
  refine Ev.mono (b:=(1+(4+(1+0)))+10*k) ?_ (by (first | lia | omega))
  refine Ev.bind (b₁:=1+(4+(1+0))) (b₂:=10*k) (a:=ForInStep.yield PUnit.unit) (s₁:=St lf gs dr os (A++DO (es++[fs[i]]) (n+1)::(B++[DO fs m])) t) (p₁:=p) ?_ ih
  unfold mergeBody
  refine Ev.bind (b₁:=1) (b₂:=4+(1+0)) (ev_dictEntries (get_last A B es fs n m t)) ?_
  have e1:(⟨fs⟩:Array DictEntry)[i]?=some fs[i]:=by rw [List.getElem?_toArray];exact List.getElem?_eq_getElem hlt
  rw [e1]
  dsimp only
  refine Ev.bind (b₁:=4) (b₂:=1+0) (a:=()) (s₁:=St lf gs dr os (A++DO (es++[fs[i]]) (n+1)::(B++[DO fs m])) t) (p₁:=p) (Ev.holding _ ?_) ?_
  ·have:=ev_dictPut (w:=w) (p:=p) (s:=St lf gs dr os (A++DO es n::(B++[DO fs m])) t) (k:=k₀) (t:=t₀) (v:=v₀) (hh:=hashInt k₀) (get_mid A es n _) hA (by (first | lia | omega)) hd
   rw [he,← push_entry,← upd_mid A (DO es n) _ _ t t]
   exact this
  ·refine Ev.bind (b₁:=1) (b₂:=0) (ev_dictEpoch (get_last A B _ fs _ m t)) ?_
   rw [if_neg (by simp)]
   exact Ev.pure _
theorem ev_merge (A B:List Obj)(hA:11≤A.length)(es fs:List DictEntry)(n m t:Nat)(p:Pos)(hk:∀ f∈fs,∃ k t v,f=⟨hashInt k,.int k t,v⟩)(he:es≠[])(hz:es.length+fs.length≤10000)
  (hn:(es.map (·.hash)++fs.map (·.hash)).Nodup) :
  Ev w (10*fs.length+10) (mergeMapping A.length (.ref (A.length+1+B.length)) false) (St lf gs dr os (A++DO es n::(B++[DO fs m])) t) p () (St lf gs dr os (A++DO (es++fs) (n+fs.length)::(B++[DO fs m])) t) p:=by
 have hl:=get_last (lf:=lf) (gs:=gs) (dr:=dr) (os:=os) A B es fs n m t
 unfold mergeMapping
 refine Ev.mono (b:=1+(1+(1+(1+(1+(10*fs.length+0)))))) ?_ (by (first | lia | omega))
 have i1:Ev w 1 (isInstance (.ref (A.length+1+B.length)) (.type "dict")) (St lf gs dr os (A++DO es n::(B++[DO fs m])) t) p true (St lf gs dr os (A++DO es n::(B++[DO fs m])) t) p:=by
  unfold isInstance
  refine Ev.bind (b₁:=1) (b₂:=0) (a:=.type "dict") (s₁:=St lf gs dr os (A++DO es n::(B++[DO fs m])) t) (p₁:=p) (Ev.bind (b₁:=1) (b₂:=0) (Ev.load hl) (Ev.pure _)) ?_
  refine Ev.eq (m':=Pure.pure true) (by kernel_rfl!) (Ev.pure _)
 have i2:Ev w 1 (specialOf (.ref (A.length+1+B.length)) "__iter__") (St lf gs dr os (A++DO es n::(B++[DO fs m])) t) p (some (.builtin "dict.__iter__")) (St lf gs dr os (A++DO es n::(B++[DO fs m])) t) p:=by
  unfold specialOf
  refine Ev.bind (b₁:=1) (b₂:=0) (a:=.type "dict") (s₁:=St lf gs dr os (A++DO es n::(B++[DO fs m])) t) (p₁:=p) (Ev.bind (b₁:=1) (b₂:=0) (Ev.load hl) (Ev.pure _)) ?_
  refine Ev.eq (m':=Pure.pure (some (.builtin "dict.__iter__"))) (by kernel_rfl!) (Ev.pure _)
 refine Ev.bind (b₁:=1) (b₂:=1+(1+(1+(1+(10*fs.length+0))))) i1 ?_
 rw [if_pos rfl]
 refine Ev.bind (b₁:=1) (b₂:=1+(1+(1+(10*fs.length+0)))) i2 ?_
 have q:(some (Value.builtin "dict.__iter__")==some (Value.builtin "dict.__iter__"))=true:=by simp
 rw [q]
 refine Ev.pureBind ?_
 dsimp only
 have nsys:(A.length+1+B.length==sysModules)=false:=beq_eq_false_iff_ne.mpr (by show A.length+1+B.length≠1;(first | lia | omega))
 rw [nsys,if_neg Bool.false_ne_true]
 refine Ev.bind (b₁:=1) (b₂:=1+(1+(10*fs.length+0))) (ev_dictEntries (get_mid A es n _)) ?_
 have ne:(⟨es⟩:Array DictEntry).isEmpty=false:=by cases es <;> first | exact absurd rfl he | rfl
 rw [ne,if_neg Bool.false_ne_true]
 refine Ev.bind (b₁:=1) (b₂:=1+(10*fs.length+0)) (ev_dictEntries hl) ?_
 refine Ev.bind (b₁:=1) (b₂:=10*fs.length+0) (ev_dictEpoch hl) ?_
 refine Ev.bind (b₁:=10*fs.length) (b₂:=0) (a:=PUnit.unit) ?_ (Ev.pure _)
 have:=ev_mergeLoop (w:=w) (lf:=lf) (gs:=gs) (dr:=dr) (os:=os) A B hA fs m hk fs.length 0 es n t p (by (first | lia | omega)) hz hn
 rw [List.drop_zero] at this
 rw [show (⟨fs⟩:Array DictEntry).size=fs.length from rfl,List.range_eq_range']
 exact this
noncomputable abbrev Run:=List (Sem Value × Sem Value)
noncomputable abbrev Item:=Option (Sem Value) × Sem Value
theorem entL_is (t:Nat)(ps:List (Int × Str)):∀ f∈entL t ps,∃ k t v,f=(⟨hashInt k,.int k t,v⟩:DictEntry):=by
 induction ps generalizing t with
 | nil=>intro f h;exact absurd (show f∈([]:List DictEntry) from h) List.not_mem_nil
 | cons q r ih=>
  intro f h
  rcases List.mem_cons.mp h with rfl | h
  ·exact ⟨_,_,_,rfl⟩
  ·exact ih _ f h
theorem entS_is (t:Nat)(ps:List (Int × Str)):∀ f∈entS t ps,∃ k t v,f=(⟨hashInt k,.int k t,v⟩:DictEntry):=by
 induction ps generalizing t with
 | nil=>intro f h;exact absurd (show f∈([]:List DictEntry) from h) List.not_mem_nil
 | cons q r ih=>
  intro f h
  rcases List.mem_cons.mp h with rfl | h
  ·exact ⟨_,_,_,rfl⟩
  ·exact ih _ f h
theorem main_len (A B:List Obj)(m:Obj):(A++m::B).length=A.length+1+B.length:=by simp only [List.length_append,List.length_cons];(first | lia | omega)
theorem ev_flush (dp:Pos)(A B:List Obj)(hA:11≤A.length)(es:List DictEntry)(n t:Nat)(p:Pos)(c:List (Int × Str))(E:List DictEntry)(b:Nat)
  (hs:∃ p',Ev w b (subDict (treesOf dp c)) (St lf gs dr os (A++DO es n::B) t) p (A++DO es n::B).length (St lf gs dr os ((A++DO es n::B)++[DO E c.length]) (t+3*c.length)) p')
  (hE:E.length=c.length) (hk:∀ f∈E,∃ k t v,f=(⟨hashInt k,.int k t,v⟩:DictEntry)) (he:es≠[]) (hz:es.length+c.length≤10000) (hn:(es.map (·.hash)++E.map (·.hash)).Nodup)
  (g:Addr→Value→Sem Unit):∃ p',Ev w (b+(10*c.length+10)) (do
    let sub ← holding [.ref A.length] (subDict (treesOf dp c))
    (holding [.ref A.length,.ref sub] (mergeMapping A.length (.ref sub) false)).onRaise (g sub)
    pure (some A.length):Sem (Option Addr)) (St lf gs dr os (A++DO es n::B) t) p (some A.length) (St lf gs dr os (A++DO (es++E) (n+c.length)::(B++[DO E c.length])) (t+3*c.length)) p':=by
 obtain ⟨p',h⟩:=hs
 refine ⟨p',Ev.bind (b₁:=b) (b₂:=10*c.length+10) (Ev.holding _ h) ?_⟩
 refine Ev.mono (b:=(10*c.length+10)+0) ?_ (by (first | lia | omega))
 refine Ev.bind (b₁:=10*c.length+10) (b₂:=0) (a:=()) (Ev.onRaise (Ev.holding _ ?_)) (Ev.pure _)
 have:=ev_merge (w:=w) (lf:=lf) (gs:=gs) (dr:=dr) (os:=os) A B hA es E n c.length (t+3*c.length) p' hk he (by rw [hE];exact hz) hn
 rw [hE] at this
 rw [main_len,List.append_assoc]
 exact this
section
variable (dp:Pos)(body:Item→Option Addr × Run→Sem (ForInStep (Option Addr × Run)))(flush:Run→Option Addr→Sem (Option Addr))
noncomputable def itemsOf47 (ps : List (Int × Str)) : List Item := ps.map fun q => (some (mkInt q.1), do let x ← mkText q.2; standAt dp; pure x)
theorem forIn_short (hb : ∀ k v main run, body (some k, v) (main, run) = if ((run ++ [(k, v)]).length == 17) = true then (do let m ← flush (run ++ [(k, v)]) main; pure (ForInStep.yield (m, []))) else pure (ForInStep.yield (main, run ++ [(k, v)]))) :
    ∀ (ps : List (Int × Str)) (rest : List Item) (main : Option Addr) (run : Run), run.length + ps.length < 17 → forIn (itemsOf47 dp ps ++ rest) (main, run) body = forIn rest (main, run ++ treesOf dp ps) body
  | [], rest, main, run, _ => by rw [show run ++ treesOf dp [] = run from List.append_nil _]; rfl
  | q :: r, rest, main, run, h => by
    have h' : run.length + (r.length + 1) < 17 := h
    show forIn ((some (mkInt q.1), (do let x ← mkText q.2; standAt dp; pure x : Sem Value)) :: (itemsOf47 dp r ++ rest)) (main, run) body = _
    rw [List.forIn_cons, hb, if_neg (by simp only [List.length_append, List.length_cons, List.length_nil, beq_iff_eq]; (first | lia | omega))]
    show forIn (itemsOf47 dp r ++ rest) (main, run ++ [(mkInt q.1, (do let x ← mkText q.2; standAt dp; pure x : Sem Value))]) body = _
    rw [forIn_short hb r rest main _ (by simp only [List.length_append, List.length_cons, List.length_nil]; (first | lia | omega)), List.append_assoc]
    rfl
theorem forIn_chunk (hb : ∀ k v main run, body (some k, v) (main, run) = if ((run ++ [(k, v)]).length == 17) = true then (do let m ← flush (run ++ [(k, v)]) main; pure (ForInStep.yield (m, []))) else pure (ForInStep.yield (main, run ++ [(k, v)])))
    (c : List (Int × Str)) (h17 : c.length = 17) (rest : List Item) (main : Option Addr) : forIn (itemsOf47 dp c ++ rest) (main, []) body = (do let m ← flush (treesOf dp c) main; forIn rest (m, []) body) := by
  obtain ⟨c', q, rfl⟩ : ∃ c' q, c = c' ++ [q] := ⟨c.dropLast, c.getLast (by intro e; subst e; cases h17), (List.dropLast_concat_getLast _).symm⟩
  have h16 : c'.length = 16 := by simp only [List.length_append, List.length_cons, List.length_nil] at h17; (first | lia | omega)
  have e : itemsOf47 dp (c' ++ [q]) ++ rest = itemsOf47 dp c' ++ ((some (mkInt q.1), (do let x ← mkText q.2; standAt dp; pure x : Sem Value)) :: rest) := by
    unfold itemsOf47; rw [List.map_append, List.append_assoc]; rfl
  rw [e, forIn_short dp body flush hb c' _ main [] (by rw [h16]; decide), List.forIn_cons, List.nil_append, hb, if_pos (by simp [treesOf_length, h16])]
  have e2 : treesOf dp (c' ++ [q]) = treesOf dp c' ++ [(mkInt q.1, (do let x ← mkText q.2; standAt dp; pure x : Sem Value))] := by unfold treesOf; rw [List.map_append]; rfl
  rw [e2]
  simp only [bind_assoc, pure_bind]
noncomputable def entsC:Nat→List (List (Int × Str))→List DictEntry
 | _,[]=>[]
 | t,c::r=>entL t c++entsC (t+51) r
noncomputable def objsC:Nat→List (List (Int × Str))→List Obj
 | _,[]=>[]
 | t,c::r=>DO (entL t c) 17::objsC (t+51) r
theorem entsC_hash:∀ (t:Nat) (cs:List (List (Int × Str))),(entsC t cs).map (·.hash)=cs.flatten.map fun q=>hashInt q.1
 | _,[]=>rfl
 | t,c::r=>by
  show (entL t c++entsC (t+51) r).map _=_
  rw [List.map_append,entL_hash,entsC_hash (t+51) r,List.flatten_cons,List.map_append]
theorem ev_chunks (hb : ∀ k v main run, body (some k, v) (main, run) = if ((run ++ [(k, v)]).length == 17) = true then (do let m ← flush (run ++ [(k, v)]) main; pure (ForInStep.yield (m, []))) else pure (ForInStep.yield (main, run ++ [(k, v)])))
    (g : Addr → Addr → Value → Sem Unit)
    (hf : ∀ run d, run ≠ [] → flush run (some d) = (do
        let sub ← holding [.ref d] (subDict run)
        (holding [.ref d, .ref sub] (mergeMapping d (.ref sub) false)).onRaise (g d sub)
        pure (some d) : Sem (Option Addr)))
    (A : List Obj) (hA : 11 ≤ A.length) (tail : List (Int × Str)) (ht : tail.length < 17) : ∀ (cs : List (List (Int × Str))) (B : List Obj) (es : List DictEntry) (n t : Nat) (p : Pos), (∀ c ∈ cs, c.length = 17) → es ≠ [] → es.length + 17 * cs.length ≤ 9000 →
    (es.map (·.hash) ++ cs.flatten.map fun q => hashInt q.1).Nodup →
    ∃ p', Ev w (600 * cs.length) (forIn (itemsOf47 dp (cs.flatten ++ tail)) (some A.length, []) body) (St lf gs dr os (A ++ DO es n :: B) t) p (some A.length, treesOf dp tail) (St lf gs dr os (A ++ DO (es ++ entsC t cs) (n + 17 * cs.length) :: (B ++ objsC t cs)) (t + 51 * cs.length)) p'
  | [], B, es, n, t, p, _, he, hz, hn => ⟨p, by
    have e := forIn_short dp body flush hb tail [] (some A.length) [] (by simpa using ht)
    rw [List.append_nil, List.nil_append] at e
    show Ev w 0 (forIn (itemsOf47 dp tail) _ body) _ _ _ _ _
    rw [e, List.forIn_nil, show es ++ entsC t [] = es from List.append_nil _, show B ++ objsC t [] = B from List.append_nil _]
    exact Ev.pure _⟩
  | c :: r, B, es, n, t, p, hl, he, hz, hn => by
    have hc : c.length = 17 := hl c (.head _)
    have hz' : es.length + 17 * (r.length + 1) ≤ 9000 := hz
    rw [List.flatten_cons, List.map_append, ← List.append_assoc] at hn
    have hn1 : (es.map (·.hash) ++ c.map fun q => hashInt q.1).Nodup := (List.nodup_append.mp hn).1
    have hn2 : (c.map fun q => hashInt q.1).Nodup := (List.nodup_append.mp hn1).2.1
    have hs := ev_subLong (w := w) (lf := lf) (gs := gs) (dr := dr) (os := os) dp (A ++ DO es n :: B) (by rw [main_len]; (first | lia | omega)) c t p (by (first | lia | omega)) (by (first | lia | omega)) hn2
    obtain ⟨p₁, h1⟩ := ev_flush (w := w) dp A B hA es n t p c (entL t c) (20 * c.length + 2) hs (entL_length t c) (entL_is t c) he (by (first | lia | omega)) (by rw [entL_hash]; exact hn1) (g A.length)
    obtain ⟨p₂, h2⟩ := ev_chunks hb g hf A hA tail ht r (B ++ [DO (entL t c) c.length]) (es ++ entL t c) (n + c.length) (t + 3 * c.length) p₁ (fun x hx => hl x (.tail _ hx)) (by simp [he])
      (by rw [List.length_append, entL_length]; (first | lia | omega)) (by rw [List.map_append, entL_hash]; exact hn)
    refine ⟨p₂, ?_⟩
    have e0 : itemsOf47 dp ((c :: r).flatten ++ tail) = itemsOf47 dp c ++ itemsOf47 dp (r.flatten ++ tail) := by
      unfold itemsOf47; rw [List.flatten_cons, List.append_assoc, List.map_append]
    rw [e0, forIn_chunk dp body flush hb c hc]
    have ne : treesOf dp c ≠ [] := by intro e; have := treesOf_length dp c; rw [e, hc] at this; cases this
    rw [hf _ _ ne]
    refine Ev.mono (b := (20 * c.length + 2 + (10 * c.length + 10)) + 600 * r.length) ?_ (by show _ ≤ 600 * (r.length + 1); (first | lia | omega))
    refine Ev.bind (b₁ := 20 * c.length + 2 + (10 * c.length + 10)) (b₂ := 600 * r.length) h1 ?_
    have e1 : es ++ entL t c ++ entsC (t + 3 * c.length) r = es ++ entsC t (c :: r) := by rw [List.append_assoc, hc]; rfl
    have e2 : n + c.length + 17 * r.length = n + 17 * (c :: r).length := by show _ = n + 17 * (r.length + 1); (first | lia | omega)
    have e3 : B ++ [DO (entL t c) c.length] ++ objsC (t + 3 * c.length) r = B ++ objsC t (c :: r) := by rw [List.append_assoc, hc]; rfl
    have e4 : t + 3 * c.length + 51 * r.length = t + 51 * (c :: r).length := by show _ = t + 51 * (r.length + 1); (first | lia | omega)
    rw [e1, e2, e3, e4] at h2
    exact h2
end
end
end W47
namespace W47
open PySem PySem.W PySem.Calls PyProof.Rows
noncomputable def dParts:Stmt→List (Option PySem.Expr) × List PySem.Expr × Pos
 | .Assign _ (.Dict ks vs p) _=>(ks,vs,p)
 | _=>([],[],⟨0,0,0,0⟩)
noncomputable def cInt:Option PySem.Expr→Int
 | some (.Constant (.int i) _ _)=>i
 | _=>0
noncomputable def cStr:PySem.Expr→Str
 | .Constant (.str s) _ _=>s
 | _=>⟨⟨[]⟩⟩
noncomputable def dpos:Pos:=(dParts (pb 13)).2.2
noncomputable def b3:List (Int × Str):=((dParts (pb 13)).1.map cInt).zip ((dParts (pb 13)).2.1.map cStr)
noncomputable def b3c (i:Nat):List (Int × Str):=(b3.drop (17*i)).take 17
noncomputable def b3cs:List (List (Int × Str)):=(List.range 37).map fun i=>b3c (i+1)
noncomputable def b3t:List (Int × Str):=b3.drop 646
noncomputable def ascB:List Int→Bool
 | a::b::r=>decide (a < b)&&ascB (b::r)
 | _=>true
theorem ascB_pw:∀ (l:List Int),ascB l=true→l.Pairwise (· < ·)
 | [],_=>List.Pairwise.nil
 | [a],_=>List.pairwise_singleton _ _
 | a::b::r,h=>by
  have h':(decide (a < b)&&ascB (b::r))=true:=h
  rw [Bool.and_eq_true,decide_eq_true_eq] at h'
  have ih:=ascB_pw (b::r) h'.2
  refine List.Pairwise.cons (fun x hx=>?_) ih
  rcases List.mem_cons.mp hx with rfl | hx
  ·exact h'.1
  ·exact Int.lt_trans h'.1 ((List.pairwise_cons.mp ih).1 x hx)
theorem b3_asc:ascB (b3.map fun q=>hashInt q.1)=true:=by decide +kernel
theorem b3_nodup:(b3.map fun q=>hashInt q.1).Nodup:=(ascB_pw _ b3_asc).imp fun h=>Int.ne_of_lt h
theorem b3_split:b3=b3c 0++(b3cs.flatten++b3t):=by kernel_rfl!
theorem b3c0_length:(b3c 0).length=17:=by kernel_rfl!
theorem b3cs_length:b3cs.length=37:=rfl
theorem b3cs_all:∀ c∈b3cs,c.length=17:=by
 have:(b3cs.all fun c=>c.length==17)=true:=by kernel_rfl!
 intro c hc
 exact beq_iff_eq.mp (List.all_eq_true.mp this c hc)
theorem b3t_length:b3t.length=4:=by kernel_rfl!
theorem b3_items : ((evalEachOpt (dParts (pb 13)).1 env).zip ((evalEach (dParts (pb 13)).2.1 env).map fun v => do let x ← v; standAt dpos; pure x)) = itemsOf47 dpos b3 := by kernel_rfl!
end W47
namespace W47
open PySem PySem.W PySem.Calls PyProof.Rows
section
variable {w:World}{p:Pos}{lf:Life}{gs:Array GenState}{dr:Drawn}{os:OsState}
noncomputable def b3E (t:Nat):List DictEntry:=entL t (b3c 0)++entsC (t+51) b3cs++entS (t+1938) b3t
noncomputable def b3O (t:Nat):List Obj:=objsC (t+51) b3cs++[DO (entS (t+1938) b3t) 4]
theorem display_form : ∃ (body : Item → Option Addr × Run → Sem (ForInStep (Option Addr × Run))) (flush : Run → Option Addr → Sem (Option Addr)) (g : Addr → Addr → Value → Sem Unit),
    (∀ items, dictDisplay items = (do let x ← forIn items ((none : Option Addr), ([] : Run)) body; let m ← flush x.2 x.1; match m with | some d => pure (.ref d) | none => newDict)) ∧
    (∀ k v main run, body (some k, v) (main, run) = if ((run ++ [(k, v)]).length == 17) = true then (do let m ← flush (run ++ [(k, v)]) main; pure (ForInStep.yield (m, []))) else pure (ForInStep.yield (main, run ++ [(k, v)]))) ∧
    (∀ run, run ≠ [] → flush run none = (do let d ← subDict run; pure (some d) : Sem (Option Addr))) ∧
    (∀ run d, run ≠ [] → flush run (some d) = (do
        let sub ← holding [.ref d] (subDict run)
        (holding [.ref d, .ref sub] (mergeMapping d (.ref sub) false)).onRaise (g d sub)
        pure (some d) : Sem (Option Addr))) := by
  refine ⟨_, fun (run : Run) (main : Option Addr) => if run.isEmpty = true then pure main else match main with
    | none => do let d ← subDict run; pure (some d)
    | some d => do
      let sub ← holding [.ref d] (subDict run)
      (holding [.ref d, .ref sub] (mergeMapping d (.ref sub) false)).onRaise (fun x => do
            let _ ← holding [.ref d, x] (runValue (.builtin "proto.let_go" {}))
            pure ())
      pure (some d), fun d _ x => do
            let _ ← holding [.ref d, x] (runValue (.builtin "proto.let_go" {}))
            pure (), fun items => rfl, ?_, fun run h => ?_, fun run d h => ?_⟩
  · intro k v main run; rfl
  · show (if run.isEmpty = true then _ else _) = _
    rw [if_neg (by cases run with | nil => exact absurd rfl h | cons => simp)]
  · show (if run.isEmpty = true then _ else _) = _
    rw [if_neg (by cases run with | nil => exact absurd rfl h | cons => simp)]
theorem trees_ne {dp:Pos}{c:List (Int × Str)}(h:c.length≠0):treesOf dp c≠[]:=fun e=>h (by rw [← treesOf_length dp c,e];rfl)
theorem ev_dict (A:List Obj)(hA:11≤A.length)(t:Nat)(p:Pos):∃ p',Ev w 30000 (dictDisplay (itemsOf47 dpos b3)) (St lf gs dr os A t) p (.ref A.length) (St lf gs dr os (A++DO (b3E t) 650::b3O t) (t+1950)) p':=by
 have hn:=b3_nodup
 rw [b3_split,List.map_append,List.map_append] at hn
 have hn0:((b3c 0).map fun q=>hashInt q.1).Nodup:=(List.nodup_append.mp hn).1
 have hn':=hn
 rw [← List.append_assoc] at hn
 have hn1:=(List.nodup_append.mp hn).1
 have hnt:=(List.nodup_append.mp hn).2.1
 obtain ⟨p₁,h1⟩:=ev_subLong (w:=w) (lf:=lf) (gs:=gs) (dr:=dr) (os:=os) dpos A hA (b3c 0) t p (by rw [b3c0_length];decide) (by rw [b3c0_length];decide) hn0
 rw [b3c0_length] at h1
 have ne0:entL t (b3c 0)≠[]:=by intro e;have:=entL_length t (b3c 0);rw [e,b3c0_length] at this;cases this
 obtain ⟨body,flush,g,hd,hb,hf0,hf⟩:=display_form
 obtain ⟨p₂,h2⟩:=ev_chunks (w:=w) (lf:=lf) (gs:=gs) (dr:=dr) (os:=os) dpos body flush hb g hf A hA b3t (by rw [b3t_length];decide) b3cs [] (entL t (b3c 0)) 17 (t+51) p₁ b3cs_all ne0
  (by rw [entL_length,b3c0_length,b3cs_length];decide) (by rw [entL_hash];exact hn1)
 rw [b3cs_length,List.nil_append] at h2
 have hlen:(entL t (b3c 0)++entsC (t+51) b3cs).length=646:=by
  have e:∀ (t:Nat) (cs:List (List (Int × Str))),(∀ c∈cs,c.length=17)→(entsC t cs).length=17*cs.length:=by
   intro t cs
   induction cs generalizing t with
   | nil=>intro _;rfl
   | cons c r ih=>
    intro h
    show (entL t c++entsC (t+51) r).length=17*(r.length+1)
    rw [List.length_append,entL_length,h c (.head _),ih (t+51) fun x hx=>h x (.tail _ hx)]
    (first | lia | omega)
  rw [List.length_append,entL_length,b3c0_length,e _ _ b3cs_all,b3cs_length]
 have hs:=ev_subShort (w:=w) (lf:=lf) (gs:=gs) (dr:=dr) (os:=os) dpos (A++DO (entL t (b3c 0)++entsC (t+51) b3cs) (17+17*37)::objsC (t+51) b3cs) (by rw [main_len];(first | lia | omega)) b3t (t+51+51*37) p₂ (by rw [b3t_length];decide) hnt
 obtain ⟨p₃,h3⟩:=ev_flush (w:=w) dpos A (objsC (t+51) b3cs) hA (entL t (b3c 0)++entsC (t+51) b3cs) (17+17*37) (t+51+51*37) p₂ b3t (entS (t+51+51*37) b3t) (30*b3t.length+2) hs (entS_length _ _) (entS_is _ _) (by simp [ne0])
  (by rw [hlen,b3t_length];decide) (by rw [entS_hash,List.map_append,entL_hash,entsC_hash];exact hn) (g A.length)
 rw [b3t_length] at h3
 have et:t+51+51*37=t+1938:=by (first | lia | omega)
 rw [et] at h2 h3
 refine ⟨p₃,?_⟩
 rw [hd,b3_split]
 have e0:itemsOf47 dpos (b3c 0++(b3cs.flatten++b3t))=itemsOf47 dpos (b3c 0)++itemsOf47 dpos (b3cs.flatten++b3t):=List.map_append ..
 rw [e0,forIn_chunk dpos body flush hb (b3c 0) b3c0_length,hf0 _ (trees_ne (by rw [b3c0_length];decide))]
 refine Ev.mono (b:=((20*17+2)+0+600*37)+((30*4+2+(10*4+10))+0)) ?_ (by decide)
 refine Ev.bind (b₁:=(20*17+2)+0+600*37) (b₂:=(30*4+2+(10*4+10))+0) (a:=(some A.length,treesOf dpos b3t))
  (s₁:=St lf gs dr os (A++DO (entL t (b3c 0)++entsC (t+51) b3cs) (17+17*37)::objsC (t+51) b3cs) (t+1938)) (p₁:=p₂) ?_ ?_
 ·exact Ev.bind (b₁:=(20*17+2)+0) (b₂:=600*37) (Ev.bind (b₁:=20*17+2) (b₂:=0) h1 (Ev.pure _)) h2
 ·dsimp only
  rw [hf _ _ (trees_ne (by rw [b3t_length];decide))]
  refine Ev.bind (b₁:=30*4+2+(10*4+10)) (b₂:=0) h3 ?_
  exact Ev.pure _
end
end W47
namespace W47
open PySem PySem.W PySem.Calls PyProof.Rows
noncomputable def aTg:Stmt→List PySem.Expr
 | .Assign t _ _=>t
 | _=>[]
noncomputable def aPos:Stmt→Pos
 | .Assign _ _ p=>p
 | _=>⟨0,0,0,0⟩
theorem st13_is:pb 13=.Assign (aTg (pb 13)) (.Dict (dParts (pb 13)).1 (dParts (pb 13)).2.1 dpos) (aPos (pb 13)):=by kernel_rfl!
theorem st13_sole:swapsWithSole (aTg (pb 13)) (.Dict (dParts (pb 13)).1 (dParts (pb 13)).2.1 dpos) (aPos (pb 13)).line env=pure false:=by kernel_rfl!
theorem st13_swapped:swappedStores (aTg (pb 13)) (.Dict (dParts (pb 13)).1 (dParts (pb 13)).2.1 dpos) env=pure none:=by kernel_rfl!
section
variable {w:World}{p:Pos}{os:OsState}
theorem ev_store (es:List DictEntry)(n:Nat)(B:List Obj):Ev w 8 (assignStores env (.ref 144) none ((assignEach (aTg (pb 13)) env).map (·.2))) (sh w.params (Lb w.params++DO es n::B) 2348 os) p .next
  (sh w.params (Lc w.params++DO es n::B) 2349 os) ⟨84,0,84,13⟩:=by
 first
 | (refine (Ev.ofSeg (n:=4) fun K H gd lv=>?_).mono (by decide);kernel_rfl!)
 | (refine (Ev.ofSeg (n:=5) fun K H gd lv=>?_).mono (by decide);kernel_rfl!)
 | (refine (Ev.ofSeg (n:=6) fun K H gd lv=>?_).mono (by decide);kernel_rfl!)
 | (refine (Ev.ofSeg (n:=7) fun K H gd lv=>?_).mono (by decide);kernel_rfl!)
 | (refine (Ev.ofSeg (n:=8) fun K H gd lv=>?_).mono (by decide);kernel_rfl!)
end
end W47
namespace W47
open PySem PySem.W PySem.Calls PyProof.Rows
section
variable {w:World}{p:Pos}{os:OsState}
theorem ev_exec13 (p:Pos):Ev w 31000 (execs [pb 13] env) (sh w.params (Lb w.params) 398 os) p .next (sh w.params (Lc w.params++DO (b3E 398) 650::b3O 398) 2349 os) ⟨84,0,84,13⟩:=by
 obtain ⟨p',hd⟩:=ev_dict (w:=w) (lf:=(boot_heap w.params).life) (gs:=⟨[]⟩) (dr:=boot_drawn) (os:=os) (Lb w.params) (by show 11≤144;decide) 398 dpos
 have hlen:(Lb w.params).length=144:=rfl
 rw [hlen] at hd
 rw [st13_is]
 refine Ev.mono (b:=(1+(0+((1+30000)+8)))+0) ?_ (by decide)
 refine Ev.bind (b₁:=1+(0+((1+30000)+8))) (b₂:=0) (a:=Flow.next) (s₁:=sh w.params (Lc w.params++DO (b3E 398) 650::b3O 398) 2349 os) (p₁:=⟨84,0,84,13⟩) ?_ (Ev.pure _)
 refine Ev.bind (b₁:=1) (b₂:=0+((1+30000)+8)) Ev.at ?_
 rw [st13_sole]
 refine Ev.bind (b₁:=0) (b₂:=(1+30000)+8) (Ev.pure false) ?_
 rw [if_neg Bool.false_ne_true]
 refine Ev.bind (b₁:=1+30000) (b₂:=8) (a:=.ref 144) (s₁:=sh w.params (Lb w.params++DO (b3E 398) 650::b3O 398) 2348 os) (p₁:=p') ?_ ?_
 ·refine Ev.bind (b₁:=1) (b₂:=30000) Ev.at ?_
  rw [b3_items]
  exact hd
 ·rw [st13_swapped]
  refine Ev.mono (b:=0+8) ?_ (by decide)
  exact Ev.bind (b₁:=0) (b₂:=8) (Ev.pure none) (ev_store _ _ _)
theorem pc_13 (w:World)(os:OsState):∃ n,n≤31001∧segRun treeTable Pr w 11 (some (.ref 6)) 1 n (sh w.params (Lb w.params) 398 os) (piecesOf [pb 13] env cE ⟨82,0,83,30⟩ B0) =
  some (.next,sh w.params (Lc w.params++DO (b3E 398) 650::b3O 398) 2349 os,cE,⟨84,0,84,13⟩):=by
 obtain ⟨n,hn,h⟩:=ev_exec13 (w:=w) (os:=os) ⟨82,0,83,30⟩ doneF deadEnd id id
 exact ⟨n+1,by (first | lia | omega),h 1 _ rfl⟩
end
set_option maxHeartbeats 0
theorem pc_3 (w:World)(os:OsState):segRun treeTable Pr w 11 (some (.ref 6)) 1 200 (sh w.params (Lc w.params++DO (b3E 398) 650::b3O 398) 2349 os) (piecesOf l3 env cE ⟨84,0,84,13⟩ B0) =
  some (.next,sh w.params (Ld w.params++DO (b3E 398) 650::b3O 398++Le w.params) 2371 os,cE,⟨106,0,183,16⟩):=by
 rw [PySem.W.Fast.te14374325043358763698,PySem.W.Fast.te14364793385576792824]
 kernel_rfl!
theorem pc_fin (w:World)(os:OsState):topRun treeTable Pr w 11 (some (.ref 6)) 2 (sh w.params (Ld w.params++DO (b3E 398) 650::b3O 398++Le w.params) 2371 os) ⟨doneF .next,cE,⟨106,0,183,16⟩,B0⟩ =
  some (sh w.params (Ld w.params++DO (b3E 398) 650::b3O 398++Le w.params) 2371 os):=by
 kernel_rfl!
end W47
namespace W47
open PySem PySem.W PySem.Calls PyProof.Rows
noncomputable section
noncomputable def Lf (P:Params):List Obj:=Ld P++DO (b3E 398) 650::b3O 398++Le P
noncomputable def Hf (P:Params):Heap:=hp P (Lf P)
noncomputable def q0:Program:={Pr with main:={Pr.main with body:=[pb 0,pb 2,pb 3,pb 5,pb 6,pb 8,pb 9,pb 11,pb 12,pb 13,pb 14,pb 16,pb 17]}}
noncomputable def loose0:List Str:=[Str.ofString "_Accumulator",Str.ofString "b1_set",Str.ofString "b3_exceptions"]
end
theorem bE_split:bE=l1++([pb 13]++(l3++[])):=by kernel_rfl!
set_option maxHeartbeats 0
theorem pc_run (w:World)(os:OsState):topRun treeTable Pr w 11 (some (.ref 6)) 40000 (⟨boot_heap w.params,⟨[]⟩,boot_drawn,boot_toks,os⟩) (topStub Pr)=some ⟨Hf w.params,⟨[]⟩,boot_drawn,2371,os⟩:=by
 obtain ⟨n,hn,h13⟩:=pc_13 w os
 have h:=pc_fin w os
 have h3:=piece_app (rest:=[]) (pc_3 w os) h
 have h2:=piece_app h13 h3
 have h1:=piece_app (pc_1 w os) h2
 rw [← bE_split] at h1
 have hb:=piece_block (pc_block w os) h1
 have ht:=go_top (pc_pre w os) hb
 have:=topRun_mono (40000 - (12+(1+(1800+(n+(200+2)))))) _ _ _ _ ht
 rw [show 12+(1+(1800+(n+(200+2))))+(40000 - (12+(1+(1800+(n+(200+2))))))=40000 by (first | lia | omega)] at this
 exact this
theorem pc_open:∀ w:World,(fencedOpening treeTable Pr w 50000).map (fun s=>(s.heap,s.gens,s.drawn,s.toks))=some (boot_heap w.params,Array.mk [],boot_drawn,boot_toks):=
 boot_open (p:=Pr) (N:=50000) (by kernel_rfl!) (by decide) (fun s=>by kernel_rfl!)
theorem pc_size (w:World):((boot_heap w.params).isNs mainGlobals&&(Array.mk []:Array GenState).size==0,(boot_heap w.params).objs.size,(boot_heap w.params).nsMap mainGlobals "__annotations__")=(true,11,(some (.ref 6):Option Value)):=by
 kernel_rfl!
end W47
namespace W47
open PySem PySem.W PySem.Calls PyProof.Rows
set_option maxHeartbeats 0
noncomputable section
noncomputable def q1:Program:={Pr with main:={Pr.main with body:=[pb 17]}}
noncomputable def loose1:List Str:=["_wall","EMPTYSTRING","_Accumulator","ELLIPSIS_MARKER","_ellipsis_match","_strcoll","_strip_padding","b1_set","in_table_b1","b3_exceptions","map_table_b3","_law_typed","__name__"].map Str.ofString
noncomputable def Yf0 (s:Shared):List Obj:=s.heap.objs.toList
noncomputable def Ya0 (w:World):List Obj:=Lf w.params
noncomputable def Top0 (w:World)(h:Heap):Prop:=∀ a o,(Hf w.params).get? a=some o→h.get? a=some o
end
theorem lk1 (w:World)(os:OsState):(staticsOk (importedModules Pr.main.body) (boot_heap w.params) (Hf w.params)&&namesBound Pr (Hf w.params)&&gensDone ⟨Hf w.params,⟨[]⟩,boot_drawn,2371,os⟩&&laidKept (boot_heap w.params) (Hf w.params))=true:=by
 kernel_rfl!
theorem lk2 (w:World)(os:OsState):openSeen q1 loose1 (importedModules Pr.main.body) (fun _=>true) true ⟨Hf w.params,⟨[]⟩,boot_drawn,2371,os⟩=openGood q1 loose1:=by
 rw [PySem.W.Fast.te4187177175401517315]
 kernel_rfl!
theorem left0:LeftO Pr q1 loose1 (fun _=>true) Yf0 Ya0 50000:=
 LeftO.of_pieces (H₁:=Hf) (gs₁:=⟨[]⟩) (d₁:=boot_drawn) (k₁:=2371) pc_open pc_size pc_run (by decide) fun w=>funext fun os=>looks_pair (lk1 w os) (looks_pair (lk2 w os) rfl)
theorem top0_of (w:World)(s:Shared)(e:Yf0 s=Ya0 w):Top0 w s.heap:=fun a o h=>by
 have:s.heap.objs=(Hf w.params).objs:=Array.ext' e
 unfold Heap.get? at h ⊢
 rw [this];exact h
noncomputable def lawD:DefRec:=⟨Str.ofString "law",fArgs (pb 17),fBody (pb 17),fScope (pb 17),⟨106,0,183,16⟩⟩
noncomputable abbrev rw47:OpenLaw:=PySem.Challenge.rw_wr0047_01
noncomputable abbrev Walk47:Prop:=WalkO q1 loose1 (fun _ _=>True) Top0 rw47.row.toRowW lawD [] fun f vs=>call f vs
theorem hdef47:defOf q1 rw47.row.name=some (lawD,[]):=by kernel_rfl!
theorem hp47:rw47.row.prog.theDef rw47.row.name=some (lawD.params,lawD.body,lawD.scope):=by kernel_rfl!
theorem hk47:kwWritten? lawD.params.kwonlyargs lawD.params.kw_defaults=some []:=by kernel_rfl!
theorem ok47:(chainsOk q1&&opensWell rw47.row.prog&&(frees rw47.row.toRowW&&rw47.row.within.isEmpty))=true:=by kernel_rfl!
theorem bare47:rw47.row.prog.bare:=⟨rfl,rfl,rfl,rfl,rfl,by decide +kernel⟩
theorem promised47:rw47.row.toRowW.promised:=⟨[.list []],by decide +kernel,by decide +kernel⟩
theorem row_holds (walk:Walk47)(said:rw47.row.wellSaid=true):rw47.row.Holds:=
 holds_open (r:=rw47.row) (q:=q1) (loose:=loose1) (Xt:=fun _=>true) (XP:=fun _ _=>True) (Yf:=Yf0) (Ya:=Ya0) (YP:=Top0) (d:=lawD) (kwd:=[]) (N:=50000) left0 top0_of
  (fun w h h' t k a o e=>k _ _ (t a o e)) (fun _ _=>trivial) (fun _ _ _ _ _=>trivial) hdef47 hp47 hk47 (fun _ _=>recFacts_nil rfl) rfl said ok47 bare47 promised47 walk
theorem ws47:rw47.wellSaid=true:=by decide +kernel
theorem holds47 (walk:Walk47):PySem.Challenge.rw_wr0047_01.Holds:=holds_law ws47 fun said=>row_holds walk said
end W47
namespace Q47
open W47 PySem PySem.W PySem.Calls PyProof PyProof.Rows
open PySem.Sem (wp)
set_option maxHeartbeats 0
local macro_rules | `(tactic| kt_len) => `(tactic| first | exact rfl | assumption | decide | exact Nat.lt_of_lt_of_le ‹_› (by decide) | exact Nat.lt_of_le_of_lt ‹_› (by decide) | exact Nat.le_trans ‹_› (by decide) | exact Nat.le_of_lt ‹_› | exact Nat.le_trans (Nat.le_of_lt ‹_›) (by decide) | exact Nat.lt_of_lt_of_le ‹_› ‹_› | exact Nat.lt_of_le_of_lt ‹_› ‹_› | exact Nat.le_trans ‹_› ‹_› | exact Nat.mod_lt _ (by decide) | exact Nat.le_trans (Nat.le_of_lt ‹_›) ‹_› | lia | omega)
theorem x0_1 {p0 p1 C:Prop}(h:p0∧p1)(k:p0→p1→C):C:=by
 obtain ⟨h0,h1⟩:=h;exact k h0 h1
theorem x0_2 {p0 p1 p2 C:Prop}(h:p0∧p1∧p2)(k:p0→p1→p2→C):C:=by
 obtain ⟨h0,h1,h2⟩:=h;exact k h0 h1 h2
theorem x0_3 {p0 p1 p2 p3 C:Prop}(h:p0∧p1∧p2∧p3)(k:p0→p1→p2→p3→C):C:=by
 obtain ⟨h0,h1,h2,h3⟩:=h;exact k h0 h1 h2 h3
theorem x0_4 {p0 p1 p2 p3 p4 C:Prop}(h:p0∧p1∧p2∧p3∧p4)(k:p0→p1→p2→p3→p4→C):C:=by
 obtain ⟨h0,h1,h2,h3,h4⟩:=h;exact k h0 h1 h2 h3 h4
theorem x0_5 {p0 p1 p2 p3 p4 p5 C:Prop}(h:p0∧p1∧p2∧p3∧p4∧p5)(k:p0→p1→p2→p3→p4→p5→C):C:=by
 obtain ⟨h0,h1,h2,h3,h4,h5⟩:=h;exact k h0 h1 h2 h3 h4 h5
theorem x1_0 {α0:Type}{p0:α0→Prop}{C:Prop}(h:∃ a0,p0 a0)(k:∀ a0,p0 a0→C):C:=by
 obtain ⟨a0,h0⟩:=h;exact k a0 h0
theorem x1_1 {α0:Type}{p0 p1:α0→Prop}{C:Prop}(h:∃ a0,p0 a0∧p1 a0)(k:∀ a0,p0 a0→p1 a0→C):C:=by
 obtain ⟨a0,h0,h1⟩:=h;exact k a0 h0 h1
theorem x1_2 {α0:Type}{p0 p1 p2:α0→Prop}{C:Prop}(h:∃ a0,p0 a0∧p1 a0∧p2 a0)(k:∀ a0,p0 a0→p1 a0→p2 a0→C):C:=by
 obtain ⟨a0,h0,h1,h2⟩:=h;exact k a0 h0 h1 h2
theorem x1_3 {α0:Type}{p0 p1 p2 p3:α0→Prop}{C:Prop}(h:∃ a0,p0 a0∧p1 a0∧p2 a0∧p3 a0)(k:∀ a0,p0 a0→p1 a0→p2 a0→p3 a0→C):C:=by
 obtain ⟨a0,h0,h1,h2,h3⟩:=h;exact k a0 h0 h1 h2 h3
theorem x2_0 {α0 α1:Type}{p0:α0→α1→Prop}{C:Prop}(h:∃ a0 a1,p0 a0 a1)(k:∀ a0 a1,p0 a0 a1→C):C:=by
 obtain ⟨a0,a1,h0⟩:=h;exact k a0 a1 h0
theorem x2_1 {α0 α1:Type}{p0 p1:α0→α1→Prop}{C:Prop}(h:∃ a0 a1,p0 a0 a1∧p1 a0 a1)(k:∀ a0 a1,p0 a0 a1→p1 a0 a1→C):C:=by
 obtain ⟨a0,a1,h0,h1⟩:=h;exact k a0 a1 h0 h1
theorem x2_2 {α0 α1:Type}{p0 p1 p2:α0→α1→Prop}{C:Prop}(h:∃ a0 a1,p0 a0 a1∧p1 a0 a1∧p2 a0 a1)(k:∀ a0 a1,p0 a0 a1→p1 a0 a1→p2 a0 a1→C):C:=by
 obtain ⟨a0,a1,h0,h1,h2⟩:=h;exact k a0 a1 h0 h1 h2
theorem x2_3 {α0 α1:Type}{p0 p1 p2 p3:α0→α1→Prop}{C:Prop}(h:∃ a0 a1,p0 a0 a1∧p1 a0 a1∧p2 a0 a1∧p3 a0 a1)(k:∀ a0 a1,p0 a0 a1→p1 a0 a1→p2 a0 a1→p3 a0 a1→C):C:=by
 obtain ⟨a0,a1,h0,h1,h2,h3⟩:=h;exact k a0 a1 h0 h1 h2 h3
theorem x2_5 {α0 α1:Type}{p0 p1 p2 p3 p4 p5:α0→α1→Prop}{C:Prop}(h:∃ a0 a1,p0 a0 a1∧p1 a0 a1∧p2 a0 a1∧p3 a0 a1∧p4 a0 a1∧p5 a0 a1)(k:∀ a0 a1,p0 a0 a1→p1 a0 a1→p2 a0 a1→p3 a0 a1→p4 a0 a1→p5 a0 a1→C):C:=by
 obtain ⟨a0,a1,h0,h1,h2,h3,h4,h5⟩:=h;exact k a0 a1 h0 h1 h2 h3 h4 h5
theorem x3_0 {α0 α1 α2:Type}{p0:α0→α1→α2→Prop}{C:Prop}(h:∃ a0 a1 a2,p0 a0 a1 a2)(k:∀ a0 a1 a2,p0 a0 a1 a2→C):C:=by
 obtain ⟨a0,a1,a2,h0⟩:=h;exact k a0 a1 a2 h0
theorem x3_2 {α0 α1 α2:Type}{p0 p1 p2:α0→α1→α2→Prop}{C:Prop}(h:∃ a0 a1 a2,p0 a0 a1 a2∧p1 a0 a1 a2∧p2 a0 a1 a2)(k:∀ a0 a1 a2,p0 a0 a1 a2→p1 a0 a1 a2→p2 a0 a1 a2→C):C:=by
 obtain ⟨a0,a1,a2,h0,h1,h2⟩:=h;exact k a0 a1 a2 h0 h1 h2
theorem x3_3 {α0 α1 α2:Type}{p0 p1 p2 p3:α0→α1→α2→Prop}{C:Prop}(h:∃ a0 a1 a2,p0 a0 a1 a2∧p1 a0 a1 a2∧p2 a0 a1 a2∧p3 a0 a1 a2)(k:∀ a0 a1 a2,p0 a0 a1 a2→p1 a0 a1 a2→p2 a0 a1 a2→p3 a0 a1 a2→C):C:=by
 obtain ⟨a0,a1,a2,h0,h1,h2,h3⟩:=h;exact k a0 a1 a2 h0 h1 h2 h3
theorem x4_1 {α0 α1 α2 α3:Type}{p0 p1:α0→α1→α2→α3→Prop}{C:Prop}(h:∃ a0 a1 a2 a3,p0 a0 a1 a2 a3∧p1 a0 a1 a2 a3)(k:∀ a0 a1 a2 a3,p0 a0 a1 a2 a3→p1 a0 a1 a2 a3→C):C:=by
 obtain ⟨a0,a1,a2,a3,h0,h1⟩:=h;exact k a0 a1 a2 a3 h0 h1
theorem x4_2 {α0 α1 α2 α3:Type}{p0 p1 p2:α0→α1→α2→α3→Prop}{C:Prop}(h:∃ a0 a1 a2 a3,p0 a0 a1 a2 a3∧p1 a0 a1 a2 a3∧p2 a0 a1 a2 a3)(k:∀ a0 a1 a2 a3,p0 a0 a1 a2 a3→p1 a0 a1 a2 a3→p2 a0 a1 a2 a3→C):C:=by
 obtain ⟨a0,a1,a2,a3,h0,h1,h2⟩:=h;exact k a0 a1 a2 a3 h0 h1 h2
theorem x4_4 {α0 α1 α2 α3:Type}{p0 p1 p2 p3 p4:α0→α1→α2→α3→Prop}{C:Prop}(h:∃ a0 a1 a2 a3,p0 a0 a1 a2 a3∧p1 a0 a1 a2 a3∧p2 a0 a1 a2 a3∧p3 a0 a1 a2 a3∧p4 a0 a1 a2 a3)(k:∀ a0 a1 a2 a3,p0 a0 a1 a2 a3→p1 a0 a1 a2 a3→p2 a0 a1 a2 a3→p3 a0 a1 a2 a3→p4 a0 a1 a2 a3→C):C:=by
 obtain ⟨a0,a1,a2,a3,h0,h1,h2,h3,h4⟩:=h;exact k a0 a1 a2 a3 h0 h1 h2 h3 h4
theorem x4_5 {α0 α1 α2 α3:Type}{p0 p1 p2 p3 p4 p5:α0→α1→α2→α3→Prop}{C:Prop}(h:∃ a0 a1 a2 a3,p0 a0 a1 a2 a3∧p1 a0 a1 a2 a3∧p2 a0 a1 a2 a3∧p3 a0 a1 a2 a3∧p4 a0 a1 a2 a3∧p5 a0 a1 a2 a3)(k:∀ a0 a1 a2 a3,p0 a0 a1 a2 a3→p1 a0 a1 a2 a3→p2 a0 a1 a2 a3→p3 a0 a1 a2 a3→p4 a0 a1 a2 a3→p5 a0 a1 a2 a3→C):C:=by
 obtain ⟨a0,a1,a2,a3,h0,h1,h2,h3,h4,h5⟩:=h;exact k a0 a1 a2 a3 h0 h1 h2 h3 h4 h5
theorem x5_1 {α0 α1 α2 α3 α4:Type}{p0 p1:α0→α1→α2→α3→α4→Prop}{C:Prop}(h:∃ a0 a1 a2 a3 a4,p0 a0 a1 a2 a3 a4∧p1 a0 a1 a2 a3 a4)(k:∀ a0 a1 a2 a3 a4,p0 a0 a1 a2 a3 a4→p1 a0 a1 a2 a3 a4→C):C:=by
 obtain ⟨a0,a1,a2,a3,a4,h0,h1⟩:=h;exact k a0 a1 a2 a3 a4 h0 h1
theorem x5_3 {α0 α1 α2 α3 α4:Type}{p0 p1 p2 p3:α0→α1→α2→α3→α4→Prop}{C:Prop}(h:∃ a0 a1 a2 a3 a4,p0 a0 a1 a2 a3 a4∧p1 a0 a1 a2 a3 a4∧p2 a0 a1 a2 a3 a4∧p3 a0 a1 a2 a3 a4)(k:∀ a0 a1 a2 a3 a4,p0 a0 a1 a2 a3 a4→p1 a0 a1 a2 a3 a4→p2 a0 a1 a2 a3 a4→p3 a0 a1 a2 a3 a4→C):C:=by
 obtain ⟨a0,a1,a2,a3,a4,h0,h1,h2,h3⟩:=h;exact k a0 a1 a2 a3 a4 h0 h1 h2 h3
theorem x5_4 {α0 α1 α2 α3 α4:Type}{p0 p1 p2 p3 p4:α0→α1→α2→α3→α4→Prop}{C:Prop}(h:∃ a0 a1 a2 a3 a4,p0 a0 a1 a2 a3 a4∧p1 a0 a1 a2 a3 a4∧p2 a0 a1 a2 a3 a4∧p3 a0 a1 a2 a3 a4∧p4 a0 a1 a2 a3 a4)(k:∀ a0 a1 a2 a3 a4,p0 a0 a1 a2 a3 a4→p1 a0 a1 a2 a3 a4→p2 a0 a1 a2 a3 a4→p3 a0 a1 a2 a3 a4→p4 a0 a1 a2 a3 a4→C):C:=by
 obtain ⟨a0,a1,a2,a3,a4,h0,h1,h2,h3,h4⟩:=h;exact k a0 a1 a2 a3 a4 h0 h1 h2 h3 h4
theorem x6_1 {α0 α1 α2 α3 α4 α5:Type}{p0 p1:α0→α1→α2→α3→α4→α5→Prop}{C:Prop}(h:∃ a0 a1 a2 a3 a4 a5,p0 a0 a1 a2 a3 a4 a5∧p1 a0 a1 a2 a3 a4 a5)(k:∀ a0 a1 a2 a3 a4 a5,p0 a0 a1 a2 a3 a4 a5→p1 a0 a1 a2 a3 a4 a5→C):C:=by
 obtain ⟨a0,a1,a2,a3,a4,a5,h0,h1⟩:=h;exact k a0 a1 a2 a3 a4 a5 h0 h1
theorem x6_2 {α0 α1 α2 α3 α4 α5:Type}{p0 p1 p2:α0→α1→α2→α3→α4→α5→Prop}{C:Prop}(h:∃ a0 a1 a2 a3 a4 a5,p0 a0 a1 a2 a3 a4 a5∧p1 a0 a1 a2 a3 a4 a5∧p2 a0 a1 a2 a3 a4 a5)(k:∀ a0 a1 a2 a3 a4 a5,p0 a0 a1 a2 a3 a4 a5→p1 a0 a1 a2 a3 a4 a5→p2 a0 a1 a2 a3 a4 a5→C):C:=by
 obtain ⟨a0,a1,a2,a3,a4,a5,h0,h1,h2⟩:=h;exact k a0 a1 a2 a3 a4 a5 h0 h1 h2
theorem x8_1 {α0 α1 α2 α3 α4 α5 α6 α7:Type}{p0 p1:α0→α1→α2→α3→α4→α5→α6→α7→Prop}{C:Prop}(h:∃ a0 a1 a2 a3 a4 a5 a6 a7,p0 a0 a1 a2 a3 a4 a5 a6 a7∧p1 a0 a1 a2 a3 a4 a5 a6 a7)(k:∀ a0 a1 a2 a3 a4 a5 a6 a7,p0 a0 a1 a2 a3 a4 a5 a6 a7→p1 a0 a1 a2 a3 a4 a5 a6 a7→C):C:=by
 obtain ⟨a0,a1,a2,a3,a4,a5,a6,a7,h0,h1⟩:=h;exact k a0 a1 a2 a3 a4 a5 a6 a7 h0 h1
theorem x9_1 {α0 α1 α2 α3 α4 α5 α6 α7 α8:Type}{p0 p1:α0→α1→α2→α3→α4→α5→α6→α7→α8→Prop}{C:Prop}(h:∃ a0 a1 a2 a3 a4 a5 a6 a7 a8,p0 a0 a1 a2 a3 a4 a5 a6 a7 a8∧p1 a0 a1 a2 a3 a4 a5 a6 a7 a8)(k:∀ a0 a1 a2 a3 a4 a5 a6 a7 a8,p0 a0 a1 a2 a3 a4 a5 a6 a7 a8→p1 a0 a1 a2 a3 a4 a5 a6 a7 a8→C):C:=by
 obtain ⟨a0,a1,a2,a3,a4,a5,a6,a7,a8,h0,h1⟩:=h;exact k a0 a1 a2 a3 a4 a5 a6 a7 a8 h0 h1
set_option tactic.hygienic false
set_option backward.match.sparseCases false
set_option genInjectivity false
set_option genSizeOf false
inductive AV where
 | none
 | bool (b:Bool)
 | int (i:Int)
 | str (l:List Nat)
 | tup (l:List AV)
 | ref (i:Nat)
 | lin (m q r:Int)
 | tb (k:Nat)
inductive AObj where
 | list (l:List AV) (k:Nat)
 | acc (l:List AV) (k:Nat) (init:Int)
noncomputable abbrev Nm:=List Nat
noncomputable abbrev Sig:=List (Nm × AV)
noncomputable abbrev Mu:=List AObj
structure St where
 kd:List (Str × NameKind)
 σ:Sig
 μ:Mu
inductive AFlow where
 | next | cont | brk | ret (v:AV)
inductive AIt where
 | vals (l:List AV)
 | lst (i:Nat) (k:Nat)
noncomputable def nm (x:Str):Nm:=x.cps.toList
noncomputable def nmq (s:String):Nm:=s.toList.map Char.toNat
noncomputable def kindIn:List (Str × NameKind)→Nm→Option NameKind
 | [],_=>none
 | (y,k)::l,x=>if nm y==x then some k else kindIn l x
noncomputable def look:Sig→Nm→Option AV
 | [],_=>none
 | (y,v)::l,x=>if y==x then some v else look l x
noncomputable def put:Sig→Nm→AV→Sig
 | [],x,v=>[(x,v)]
 | (y,u)::l,x,v=>if y==x then (y,v)::l else (y,u)::put l x v
noncomputable def isLoc:Option NameKind→Bool
 | some .local=>true
 | some .cell=>true
 | some .free=>true
 | _=>false
noncomputable def isGlob:Option NameKind→Bool
 | some .globalImplicit=>true
 | _=>false
noncomputable def asI:AV→Option Int
 | .int a=>some a
 | _=>Option.none
noncomputable def asS:AV→Option (List Nat)
 | .str a=>some a
 | _=>Option.none
noncomputable def asR:AV→Option Nat
 | .ref a=>some a
 | _=>Option.none
noncomputable def asB:AV→Option Bool
 | .bool a=>some a
 | _=>Option.none
noncomputable def asT:AV→Option (List AV)
 | .tup a=>some a
 | _=>Option.none
noncomputable def asL:Option AObj→Option (List AV)
 | some (.list l _)=>some l
 | _=>Option.none
noncomputable def ln1:List AV→Option AV
 | [a]=>some a
 | _=>Option.none
noncomputable def ln2:List AV→Option (AV × AV)
 | a::l=>(ln1 l).map fun b=>(a,b)
 | _=>Option.none
noncomputable def ln3:List AV→Option (AV × AV × AV)
 | a::l=>(ln2 l).map fun b=>(a,b)
 | _=>Option.none
noncomputable def eq0:AV→AV→Option Bool
 | .int a,x=>(asI x).map (a==·)
 | .str a,x=>(asS x).map (a==·)
 | _,_=>Option.none
noncomputable def alls {α β:Type}(f:α→β→Option Bool):List α→List β→Option Bool
 | [],[]=>some true
 | a::l,b::m=>(f a b).bind fun x=>(alls f l m).map fun y=>x&&y
 | _,_=>Option.none
noncomputable def eq1:AV→AV→Option Bool
 | .tup a,x=>(asT x).bind fun b=>alls eq0 a b
 | a,b=>eq0 a b
noncomputable def eqV (μ:Mu):AV→AV→Option Bool
 | .int a,x=>(asI x).map (a==·)
 | .str a,x=>(asS x).map (a==·)
 | .ref i,x=>(asR x).bind fun j=>
  if i==j then Option.none else (asL μ[i]?).bind fun a=>(asL μ[j]?).bind fun b=>if a.length==b.length then alls eq1 a b else some false
 | _,_=>Option.none
noncomputable def inStr (a b:List Nat):Bool:=!(Builtin.Str.occurrences ⟨⟨b⟩⟩ ⟨⟨a⟩⟩ 0 b.length 1).isEmpty
noncomputable def intsOf:List AV→Option (List Int)
 | []=>some []
 | .int s::l=>(intsOf l).map (s::·)
 | _=>Option.none
noncomputable def b1L:List Int:=[173,847,6150,6155,6156,6157,8203,8204,8205,8288,65279]++(List.range 16).map fun (k:Nat)=>65024+(k:Int)
noncomputable def cmpA (μ:Mu):CmpOp→AV→AV→Option AV
 | .Eq,a,b=>(eqV μ a b).map .bool
 | .NotEq,a,b=>(eqV μ a b).map fun x=>.bool (!x)
 | .Lt,.int a,.int b=>some (.bool (decide (a < b)))
 | .Gt,.int a,.int b=>some (.bool (decide (a > b)))
 | .GtE,.int a,.int b=>some (.bool (decide (a≥b)))
 | .Lt,.str a,.str b=>some (.bool (decide (a < b)))
 | .Gt,.str a,.str b=>some (.bool (decide (b < a)))
 | .Is,.bool a,.bool b=>some (.bool (a==b))
 | .IsNot,.bool a,.bool b=>some (.bool (!(a==b)))
 | .IsNot,.str _,.none=>some (.bool true)
 | .IsNot,.none,.none=>some (.bool false)
 | .NotIn,.str a,.str b=>some (.bool (!inStr a b))
 | .In,.int a,.tb k=>if k==1 then some (.bool (b1L.any (·==a))) else Option.none
 | .In,.int a,.tup l=>(intsOf l).map fun ns=>.bool (ns.any (·==a))
 | _,_,_=>Option.none
noncomputable def topK:Nat:=1048576
noncomputable def small (i:Int):Bool:=decide (i.natAbs≤topK)
noncomputable def strOk (l:List Nat):Bool:=decide (l.length≤topK)
noncomputable def binA:Operator→AV→AV→Option AV
 | .Add,.int a,.int b=>some (.int (a+b))
 | .Sub,.int a,.int b=>some (.int (a - b))
 | .Sub,.bool a,.bool b=>some (.int ((if a then 1 else 0) - (if b then 1 else 0)))
 | .Mult,.int a,.int b=>if small a&&small b then some (.int (a*b)) else Option.none
 | .FloorDiv,.int a,.int b=>if !(b==0)&&small b then some (.int (a.fdiv b)) else Option.none
 | .Mod,.int a,.int b=>if !(b==0) then some (.int (a.fmod b)) else Option.none
 | .FloorDiv,.lin m q r,.int b=>if 0 < b∧m % b=0∧small b=true then some (.lin (m / b) q (r.fdiv b)) else Option.none
 | .Mod,.lin m q r,.int b=>if 0 < b∧m % b=0 then some (.int (r.fmod b)) else Option.none
 | .Pow,.int a,.int b=>if small a&&decide (0≤b)&&decide (b≤64) then some (.int (a ^ b.toNat)) else Option.none
 | .Add,.str a,.str b=>if strOk a&&strOk b then some (.str (a++b)) else Option.none
 | .Mult,.str a,.int n=>if decide (a.length≤1000)&&decide (-1000≤n)&&decide (n≤1000) then some (.str (Txt.mul ⟨⟨a⟩⟩ n).cps.toList) else Option.none
 | _,_,_=>Option.none
noncomputable def flat:AV→Bool
 | .tup _=>false
 | _=>true
noncomputable def truA (μ:Mu):AV→Option Bool
 | .bool b=>some b
 | .int i=>some (!(i==0))
 | .str l=>if strOk l then some (!(l==[])) else Option.none
 | .none=>some false
 | _=>Option.none
noncomputable def idx (n:Nat)(i:Int):Option Nat:=if small i then seqIndex? i n else Option.none
noncomputable def sliceL {α:Type}(l:List α)(lo hi:Option Int):List α:=
 let b:=sliceBounds lo hi Option.none l.length
 (sliceRange b.1 b.2.1 b.2.2).filterMap (l[·]?)
noncomputable def sliceS (l:List Nat)(lo hi:Option Int):List Nat:=
 let p:=Builtin.Str.strSliceIndices lo hi 1 l.length
 if (1:Int)==1&&p.length==l.length then l else p.filterMap (l[·]?)
noncomputable def getA (μ:Mu):AV→AV→Option AV
 | .str l,x=>(asI x).bind fun i=>(idx l.length i).bind fun k=>(l[k]?).map fun c=>.str [c]
 | .tup l,x=>(asI x).bind fun i=>(idx l.length i).bind fun k=>l[k]?
 | .ref j,x=>(asI x).bind fun i=>(asL μ[j]?).bind fun l=>(idx l.length i).bind fun k=>l[k]?
 | _,_=>Option.none
noncomputable def notStar:Expr→Bool
 | .Starred _ _=>false
 | _=>true
noncomputable def isCallE:Expr→Bool
 | .Call _ _ _ _=>true
 | _=>false
noncomputable def isSetE:Expr→Bool
 | .Set _ _ _=>true
 | _=>false
noncomputable def constA:Const→Option AV
 | .none=>some .none
 | .bool b=>some (.bool b)
 | .int i=>some (.int i)
 | .str s=>some (.str s.cps.toList)
 | _=>Option.none
noncomputable def nextIt:AIt→Mu→Option (Option (AV × AIt))
 | .vals [],_=>some Option.none
 | .vals (v::l),_=>some (some (v,.vals l))
 | .lst i k,μ=>
  match μ[i]? with
  | some (.list l _)=>
   match l[k]? with
   | some v=>some (some (v,.lst i (k+1)))
   | Option.none=>some Option.none
  | _=>Option.none
noncomputable def strsOf:List AV→Option (List Str)
 | []=>some []
 | .str s::l=>(strsOf l).map (⟨⟨s⟩⟩::·)
 | _=>Option.none
noncomputable def tri (v:AV):Option (Int × Int × Int):=(asT v).bind fun l=>(ln3 l).bind fun p=>(asI p.1).bind fun a=>(asI p.2.1).bind fun b=>(asI p.2.2).map fun c=>(a,b,c)
noncomputable def ltB (a1 a2 a3 b1 b2 b3:Int):Bool:=decide (a1 < b1)||(a1==b1&&(decide (a2 < b2)||(a2==b2&&decide (a3 < b3))))
noncomputable def lt3 (x m:AV):Option Bool:=(tri x).bind fun p=>(tri m).map fun q=>ltB p.1 p.2.1 p.2.2 q.1 q.2.1 q.2.2
noncomputable def minA:AV→List AV→Option AV
 | m,[]=>some m
 | m,x::l=>(lt3 x m).bind fun b=>minA (if b then x else m) l
noncomputable def lookI {α:Type}:List (Int × α)→Int→Option α
 | [],_=>none
 | (k,v)::l,x=>if k==x then some v else lookI l x
structure UF where
 ps:List Nm
 body:List Stmt
 kd:List (Str × NameKind)
structure Rec where
 E:Expr→St→Option (AV × St)
 T:Expr→St→Option (Bool × St)
 Ts:BoolOp→List Expr→St→Option (Bool × St)
 Es:List Expr→St→Option (List AV × St)
 S:Stmt→St→Option (AFlow × St)
 SS:List Stmt→St→Option (AFlow × St)
 Lp:Expr→AIt→List Stmt→St→Option (AFlow × St)
 Wh:Expr→List Stmt→St→Option (AFlow × St)
 Cm:Expr→Expr→List Expr→AIt→List AV→St→Option (List AV × St)
noncomputable def Rec.none:Rec:=⟨fun _ _=>Option.none,fun _ _=>Option.none,fun _ _ _=>Option.none,fun _ _=>Option.none,fun _ _=>Option.none,fun _ _=>Option.none,fun _ _ _ _=>Option.none,fun _ _ _=>Option.none,fun _ _ _ _ _ _=>Option.none⟩
noncomputable def St.alloc (st:St)(o:AObj):AV × St:=(.ref st.μ.length,{st with μ:=st.μ++[o]})
section
variable (F:List (Nm × UF))(r:Rec)
noncomputable def noRef:AV→Bool
 | .ref _=>false
 | .tup _=>false
 | _=>true
noncomputable def pureV:AV→Bool
 | .ref _=>false
 | .tup l=>l.all noRef
 | _=>true
noncomputable def callUF (f:UF)(vs:List AV)(st:St):Option (AV × St):=
 if f.ps.length==vs.length&&vs.all noRef then
  match r.SS f.body ⟨f.kd,f.ps.zip vs,[]⟩ with
  | some (.ret v,_)=>if pureV v then some (v,st) else Option.none
  | _=>Option.none
 else Option.none
noncomputable def lookF:List (Nm × UF)→Nm→Option UF
 | [],_=>Option.none
 | (y,v)::l,x=>if y==x then some v else lookF l x
noncomputable def isSlot (o:AV)(μ:Mu):Option AObj:=match o with | .ref i=>μ[i]? | _=>Option.none
noncomputable abbrev Pr2:=List Nat × List Nat
noncomputable def prLen (p:Pr2):Nat:=p.1.length+p.2.length
noncomputable def pr1 (v:AV):Option Pr2:=(asT v).bind fun l=>(ln2 l).bind fun p=>(asS p.1).bind fun a=>(asS p.2).map fun b=>(a,b)
noncomputable def prOf:List AV→Option (List Pr2)
 | []=>some []
 | v::l=>(pr1 v).bind fun p=>(prOf l).map (p::·)
noncomputable def primLen (vs:List AV)(st:St):Option (AV × St):=
 (ln1 vs).bind fun
 | .str l=>if strOk l then some (.int l.length,st) else Option.none
 | .ref i=>
  match st.μ[i]? with
  | some (.list l _)=>some (.int l.length,st)
  | some (.acc l kk init)=>(prOf l).bind fun pr=>if 0≤init∧init+((pr.map prLen).sum:Nat)≤1048576 then some (.int (init+((pr.map prLen).sum:Nat)),st) else Option.none
  | _=>Option.none
 | _=>Option.none
noncomputable def primChr (vs:List AV)(st:St):Option (AV × St):=
 ((ln1 vs).bind asI).bind fun i=>if 0≤i∧i < 1114112 then some (.str [i.toNat],st) else Option.none
noncomputable def primOrd (vs:List AV)(st:St):Option (AV × St):=
 ((ln1 vs).bind asS).bind fun
 | [c]=>some (.int c,st)
 | _=>Option.none
noncomputable def primMax (vs:List AV)(st:St):Option (AV × St):=
 (ln2 vs).bind fun p=>(asI p.1).bind fun a=>(asI p.2).map fun b=>(.int (if b > a then b else a),st)
noncomputable def primMin (vs:List AV)(st:St):Option (AV × St):=
 ((ln1 vs).bind asR).bind fun i=>(asL st.μ[i]?).bind fun
  | x::l=>(minA x l).map fun v=>(v,st)
  | _=>Option.none
noncomputable def primSum (vs:List AV)(st:St):Option (AV × St):=
 ((ln1 vs).bind asR).bind fun i=>(asL st.μ[i]?).bind fun l=>(intsOf l).bind fun ns=>if ns.all small&&decide (ns.length≤1000) then some (.int ns.sum,st) else Option.none
noncomputable def primInt (vs:List AV)(st:St):Option (AV × St):=
 ((ln1 vs).bind asB).map fun b=>(.int (if b then 1 else 0),st)
noncomputable def primStr (vs:List AV)(st:St):Option (AV × St):=
 ((ln1 vs).bind asR).bind fun i=>
  match st.μ[i]? with
  | some (.acc l _ _)=>(prOf l).bind fun pr=>if (pr.map fun p=>p.1++p.2).flatten.length≤1048576 then some (.str (pr.map fun p=>p.1++p.2).flatten,st) else Option.none
  | _=>Option.none
noncomputable def primAcc (vs:List AV)(st:St):Option (AV × St):=
 ((ln1 vs).bind asI).map fun i=>st.alloc (.acc [] 0 i)
noncomputable def prim (f:Nm)(vs:List AV)(st:St):Option (AV × St):=
 if f==[108,101,110] then primLen vs st
 else if f==[99,104,114] then primChr vs st
 else if f==[111,114,100] then primOrd vs st
 else if f==[109,97,120] then primMax vs st
 else if f==[109,105,110] then primMin vs st
 else if f==[115,117,109] then primSum vs st
 else if f==[105,110,116] then primInt vs st
 else if f==[115,116,114] then primStr vs st
 else if f==nm (Str.ofString "_Accumulator") then primAcc vs st
 else (lookF F f).bind fun u=>callUF r u vs st
noncomputable def findN (s p:List Nat)(a b:Int):Int:=
 match Builtin.Str.occurrences ⟨⟨s⟩⟩ ⟨⟨p⟩⟩ (fromIndex s.length a) (min (fromIndex s.length b) s.length) 1 with
 | k::_=>(k:Int)
 | []=>-1
noncomputable def optA:Option Str→AV
 | some s=>.str s.cps.toList
 | Option.none=>.none
noncomputable def methJoin (s:List Nat)(vs:List AV)(st:St):Option (AV × St):=
 (ln1 vs).bind fun
 | .str l=>if JoinOk ⟨⟨s⟩⟩ (PyProof.Rows.signs ⟨⟨l⟩⟩) then some (.str (Txt.join ⟨⟨s⟩⟩ (PyProof.Rows.signs ⟨⟨l⟩⟩)).cps.toList,st) else Option.none
 | .ref i=>(asL st.μ[i]?).bind fun l=>(strsOf l).bind fun l=>if JoinOk ⟨⟨s⟩⟩ l then some (.str (Txt.join ⟨⟨s⟩⟩ l).cps.toList,st) else Option.none
 | _=>Option.none
noncomputable def methLower (s:List Nat)(vs:List AV)(st:St):Option (AV × St):=
 match vs with
 | []=>if Builtin.Str.tooLong (Txt.lower ⟨⟨s⟩⟩).length then Option.none else some (.str (Txt.lower ⟨⟨s⟩⟩).cps.toList,st)
 | _=>Option.none
noncomputable def methSplit (s:List Nat)(vs:List AV)(st:St):Option (AV × St):=
 ((ln1 vs).bind asS).bind fun p=>
  let l:=(Txt.split ⟨⟨s⟩⟩ ⟨⟨p⟩⟩).map fun x=>AV.str x.cps.toList
  if p.length != 0&&decide (l.length≤topK)&&strOk s&&decide ((Builtin.Str.partsBetween ⟨⟨s⟩⟩ (Builtin.Str.occurrences ⟨⟨s⟩⟩ ⟨⟨p⟩⟩ 0 s.length (s.length+1)) p.length).length≤topK) then some (st.alloc (.list l l.length)) else Option.none
noncomputable def methStarts (s:List Nat)(vs:List AV)(st:St):Option (AV × St):=
 ((ln1 vs).bind asS).map fun p=>(.bool (Txt.startswith ⟨⟨s⟩⟩ ⟨⟨p⟩⟩),st)
noncomputable def methEnds (s:List Nat)(vs:List AV)(st:St):Option (AV × St):=
 ((ln1 vs).bind asS).map fun p=>(.bool (Txt.endswith ⟨⟨s⟩⟩ ⟨⟨p⟩⟩),st)
noncomputable def methFind (s:List Nat)(vs:List AV)(st:St):Option (AV × St):=
 (ln3 vs).bind fun p=>(asS p.1).bind fun x=>(asI p.2.1).bind fun a=>(asI p.2.2).map fun b=>(.int (findN s x a b),st)
noncomputable def methS (s:List Nat)(f:Nm)(vs:List AV)(st:St):Option (AV × St):=
 if f==[106,111,105,110] then methJoin s vs st
 else if f==[108,111,119,101,114] then methLower s vs st
 else if f==[115,112,108,105,116] then methSplit s vs st
 else if f==[115,116,97,114,116,115,119,105,116,104] then methStarts s vs st
 else if f==[101,110,100,115,119,105,116,104] then methEnds s vs st
 else if f==[102,105,110,100] then methFind s vs st
 else Option.none
noncomputable def meth (o:AV)(f:Nm)(vs:List AV)(st:St):Option (AV × St):=
 match o with
 | .str s=>methS s f vs st
 | .tb t=>
  if t==3&&f==[103,101,116] then
   ((ln1 vs).bind asI).map fun k=>(optA (lookI b3 k),st)
  else Option.none
 | .ref i=>
  match st.μ[i]? with
  | some (.list l kk)=>
   if f==[97,112,112,101,110,100] then
    (ln1 vs).bind fun v=>if kk < topK then some (.none,{st with μ:=st.μ.set i (.list (l++[v]) (kk+1))}) else Option.none
   else Option.none
  | some (.acc l kk init)=>
   if f==[112,117,115,104] then
    (ln2 vs).bind fun p=>(asS p.1).bind fun a=>(asS p.2).bind fun b=>if kk < topK then some (.none,{st with μ:=st.μ.set i (.acc (l++[.tup [.str a,.str b]]) (kk+1) init)}) else Option.none
   else if f==nm (Str.ofString "pop_from") then
    if vs.isEmpty then some ((⟨st.kd,st.σ,st.μ.set i (.acc [] kk init)⟩:St).alloc (.list l kk))
    else ((ln1 vs).bind asI).bind fun k=>if 0≤k then some ((⟨st.kd,st.σ,st.μ.set i (.acc (l.take k.toNat) kk init)⟩:St).alloc (.list (l.drop k.toNat) kk)) else Option.none
   else if f==nm (Str.ofString "part_count") then
    if vs.isEmpty then some (.int l.length,st) else Option.none
   else Option.none
  | Option.none=>Option.none
 | _=>Option.none
noncomputable def relabelK (kd names:List (Str × NameKind)):List (Str × NameKind):=
 names.map fun (n,k)=>if (k==.free&&true&&kd.lookup n==some .cell) then (n,.cell) else (n,k)
noncomputable def freesOf:List (Str × NameKind)→Sig→Sig
 | [],_=>[]
 | (x,k)::l,σ=>
  if k=.free then
   match look σ (nm x) with
   | some v=>(nm x,v)::freesOf l σ
   | Option.none=>freesOf l σ
  else freesOf l σ
noncomputable def hasLoc (kd:List (Str × NameKind))(σ:Sig):Bool:=
 σ.any fun (x,_)=>(match kindIn kd x with | some .local=>true | _=>false)&&x != nm (Str.ofString "_initial_size")&&(look σ x).isSome
noncomputable def sameFrees (fr σ:Sig):Bool:=
 fr.all fun (x,v)=>((asI v).bind fun i=>(look σ x).bind fun u=>(asI u).map fun j=>i==j).getD false
noncomputable def scopeOk (kd:List (Str × NameKind))(sc:Scope):Bool:=
 sc.kind==.function&&sc.names.all (fun (x,k)=>k != .local||sc.names.lookup x==some .local)&&sc.names.all (·.2 != .cell) &&
  sc.names.all (fun (x,k)=>k != .free||kd.lookup x==some .cell)&&decide (sc.names.map (·.1)).Nodup
noncomputable def itOf (st:St):AV→Option AIt
 | .str l=>some (.vals (l.map fun c=>.str [c]))
 | .tup l=>some (.vals l)
 | .ref i=>(asL st.μ[i]?).map fun _=>.lst i 0
 | _=>Option.none
noncomputable def rangeOf (as:List AV):Option (Int × Int × Int):=
 match as with
 | [a]=>(asI a).map fun a=>(0,a,1)
 | [a,b]=>(asI a).bind fun a=>(asI b).map fun b=>(a,b,1)
 | [a,b,c]=>(asI a).bind fun a=>(asI b).bind fun b=>(asI c).bind fun c=>if c==0 then Option.none else some (a,b,c)
 | _=>Option.none
noncomputable def rng (x left step:Int):List AV:=(List.range left.toNat).map fun (k:Nat)=>.int (x+step*(k:Int))
noncomputable def isRn:Expr→Bool
 | .Name f _=>nm f==[114,97,110,103,101]
 | _=>false
noncomputable def isRangeE:Expr→Option (List Expr)
 | .Call f as ks _=>if isRn f&&ks.isEmpty&&as.all notStar then some as else Option.none
 | _=>Option.none
noncomputable def stepIt (x:Expr)(st:St):Option (AIt × St):=
 match isRangeE x with
 | some as=>
  if isGlob (kindIn st.kd [114,97,110,103,101]) then
  (r.Es as st).bind fun (vs,st')=>(rangeOf vs).bind fun (a,b,c)=>
   if Builtin.Range.small a b c&&small c then some (.vals (rng a (Builtin.Range.rangeSize a b c) c),st') else Option.none
  else Option.none
 | Option.none=>if isSetE x then Option.none else (r.E x st).bind fun (v,st')=>(itOf st' v).map fun i=>(i,st')
noncomputable def isSto:Option NameKind→Bool
 | some .local=>true
 | some .cell=>true
 | _=>false
noncomputable def putLoc (st:St)(x:Nm)(v:AV):Option St:=
 if isSto (kindIn st.kd x) then some {st with σ:=put st.σ x v} else Option.none
noncomputable def putAll:List Expr→List AV→St→Option St
 | [],[],st=>some st
 | .Name x _::l,v::vs,st=>(putLoc st (nm x) v).bind (putAll l vs)
 | _,_,_=>Option.none
noncomputable def giveAll (ts:List Expr)(v:AV)(st:St):Option St:=
 match v with
 | .tup vs=>putAll ts vs st
 | _=>Option.none
noncomputable def giveTo (t:Expr)(v:AV)(st:St):Option St:=
 match t with
 | .Name x _=>putLoc st (nm x) v
 | .Tuple ts _ _=>giveAll ts v st
 | _=>Option.none
noncomputable def putNames:List Str→List AV→St→Option St
 | [],[],st=>some st
 | x::l,v::vs,st=>(putLoc st (nm x) v).bind (putNames l vs)
 | _,_,_=>Option.none
noncomputable def giveRev (ns:List Str)(v:AV)(st:St):Option St:=
 match v with
 | .tup vs=>if ns.length==vs.length then putNames ns.reverse vs.reverse st else Option.none
 | _=>Option.none
noncomputable def isCompE:Expr→Bool
 | .ListComp _ _ _ _=>true
 | .SetComp _ _ _ _=>true
 | .DictComp _ _ _ _ _=>true
 | _=>false
set_option backward.match.sparseCases true in
noncomputable def swapNames (kd:List (Str × NameKind))(ts vs:List Expr):Option (Option (List Str)):=
 if (!(ts.length==2||ts.length==3)||vs.length != ts.length)=true then some Option.none
 else if (vs.any fun | .Starred ..=>true | _=>false)=true then some Option.none
 else
  let line:=(ts.head?.map (·.pos.line)).getD 0
  let names:=ts.filterMap fun
   | .Name id pos=>if kd.lookup id==some .local&&pos.line==line then some id else Option.none
   | _=>Option.none
  if (names.length != ts.length||names.eraseDups.length != names.length)=true then some Option.none
  else if vs.all (foldedForSure 8)=true then some Option.none
  else if vs.all (constantsAlone 8)=true then Option.none
  else some (some names)
noncomputable def swapsOf (kd:List (Str × NameKind))(ts:List Expr):Expr→Option (Option (List Str))
 | .Tuple vs _ _=>swapNames kd ts vs
 | _=>some Option.none
noncomputable def augA:Operator→AV→AV→Option AV
 | .Add,.int a,.int b=>some (.int (a+b))
 | .Sub,.int a,.int b=>some (.int (a - b))
 | .Add,.str a,.str b=>if strOk a&&strOk b then some (.str (a++b)) else Option.none
 | _,_,_=>Option.none
noncomputable def partA (x:Option Expr)(st:St):Option (Option Int × St):=
 match x with
 | Option.none=>some (Option.none,st)
 | some e=>(r.E e st).bind fun (v,st)=>match v with | .int i=>some (some i,st) | _=>Option.none
noncomputable def sliceA (u:AV)(a b:Option Int)(st:St):Option (AV × St):=
 match u with
 | .str l=>if strOk (sliceS l a b) then some (.str (sliceS l a b),st) else Option.none
 | .ref j=>
  match st.μ[j]? with
  | some (.list l kk)=>some (st.alloc (.list (sliceL l a b) kk))
  | _=>Option.none
 | _=>Option.none
noncomputable def nmE:Expr→Option Str
 | .Name b _=>some b
 | _=>Option.none
noncomputable def isiA:List Expr→Option (Expr × Str)
 | [a,e]=>(nmE e).map fun b=>(a,b)
 | _=>Option.none
noncomputable def kindO:Option AObj→Option AObj→Bool
 | some (.list _ _),some (.list _ _)=>true
 | some (.acc _ _ _),some (.acc _ _ _)=>true
 | _,_=>false
noncomputable def kindOk (μ μ2:Mu):AV→Bool
 | .ref i=>kindO μ[i]? μ2[i]?
 | _=>true
noncomputable def stepE (x:Expr)(st:St):Option (AV × St):=
 match x with
 | .Constant c _ _=>(constA c).map fun v=>(v,st)
 | .Name x _=>
  if isLoc (kindIn st.kd (nm x)) then (if nm x==[95,95,99,108,97,115,115,100,105,99,116,95,95]||nm x==[95,95,100,101,98,117,103,95,95] then Option.none else (look st.σ (nm x)).map fun v=>(v,st))
  else if isGlob (kindIn st.kd (nm x)) then
   if nm x==nm (Str.ofString "ELLIPSIS_MARKER") then some (.str [46,46,46],st)
   else if nm x==nm (Str.ofString "b1_set") then some (.tb 1,st)
   else if nm x==nm (Str.ofString "b3_exceptions") then some (.tb 3,st) else Option.none
  else Option.none
 | .BinOp a op b _=>
  (r.E a st).bind fun (u,st)=>(r.E b st).bind fun (v,st)=>(binA op u v).map fun z=>(z,st)
 | .UnaryOp .Not a _=>(r.E a st).bind fun (u,st)=>(truA st.μ u).map fun b=>(.bool (!b),st)
 | .UnaryOp .USub a _=>(r.E a st).bind fun (u,st)=>match u with | .int i=>some (.int (-i),st) | _=>Option.none
 | .Compare a [op] [b] _=>if isSetE b then Option.none else
  (r.E a st).bind fun (u,st)=>(r.E b st).bind fun (v,st)=>(cmpA st.μ op u v).map fun z=>(z,st)
 | .IfExp t a b _=>(r.T t st).bind fun (c,st)=>if c then r.E a st else r.E b st
 | .Tuple es _ _=>(r.Es es st).bind fun (vs,st)=>if vs.all flat&&decide (vs.length≤1000) then some (.tup vs,st) else Option.none
 | .List es _=>(r.Es es st).bind fun (vs,st)=>if decide (vs.length≤1000) then some (st.alloc (.list vs vs.length)) else Option.none
 | .Subscript o (.Slice lo hi Option.none _) _=>
  (r.E o st).bind fun (u,st)=>
  (partA r lo st).bind fun (a,st)=>(partA r hi st).bind fun (b,st)=>sliceA u a b st
 | .Subscript o i _=>
  (r.E o st).bind fun (u,st)=>(r.E i st).bind fun (v,st)=>(getA st.μ u v).map fun z=>(z,st)
 | .Call (.Name f _) as [] _=>
  if isGlob (kindIn st.kd (nm f))&&as.all notStar then
   if nm f==nm (Str.ofString "isinstance") then
    (isiA as).bind fun (a,b)=>
     if nm b==[98,111,111,108]&&isGlob (kindIn st.kd (nm b)) then
      (r.E a st).bind fun (u,st)=>match u with | .int _=>some (.bool false,st) | .bool _=>some (.bool true,st) | _=>Option.none
     else Option.none
   else (r.Es as st).bind fun (vs,st)=>prim F r (nm f) vs st
  else Option.none
 | .Call (.Attribute o f ap) as [] p=>if !(as.all notStar&&!isCallE o&&ap.endLine==p.line&&decide (as.length≤20)) then Option.none else
  (r.E o st).bind fun (u,st)=>(r.Es as st).bind fun (vs,st2)=>if kindOk st.μ st2.μ u then meth u (nm f) vs st2 else Option.none
 | .ListComp elt [⟨target,iter,ifs,0⟩] scope _=>
  if scopeOk st.kd scope&&hasLoc st.kd st.σ then
  (stepIt r iter st).bind fun (it,st)=>
  (r.Cm elt target ifs it [] ⟨relabelK st.kd scope.names,freesOf scope.names st.σ,st.μ⟩).bind fun (l,st')=>
   if hasLoc st.kd st.σ&&sameFrees (freesOf scope.names st.σ) st'.σ then some ((⟨st.kd,st.σ,st'.μ⟩:St).alloc (.list l l.length)) else Option.none
  else Option.none
 | _=>Option.none
noncomputable def stepT (x:Expr)(st:St):Option (Bool × St):=
 match x with
 | .BoolOp op es _=>r.Ts op es st
 | .UnaryOp .Not a _=>(r.T a st).map fun (b,st)=>(!b,st)
 | .Compare a [op] [b] _=>if isSetE b then Option.none else
  (r.E a st).bind fun (u,st)=>(r.E b st).bind fun (v,st)=>(cmpA st.μ op u v).bind fun z=>(truA st.μ z).map fun b=>(b,st)
 | .Name _ _=>(r.E x st).bind fun (v,st)=>(truA st.μ v).map fun b=>(b,st)
 | .Call _ _ _ _=>(r.E x st).bind fun (v,st)=>(truA st.μ v).map fun b=>(b,st)
 | _=>Option.none
noncomputable def stepTs (op:BoolOp)(es:List Expr)(st:St):Option (Bool × St):=
 match es with
 | []=>Option.none
 | [e]=>r.T e st
 | e::es=>(r.T e st).bind fun (b,st)=>match op,b with
  | .And,false=>some (false,st)
  | .Or,true=>some (true,st)
  | op,_=>r.Ts op es st
noncomputable def stepEs (es:List Expr)(st:St):Option (List AV × St):=
 match es with
 | []=>some ([],st)
 | .Starred _ _::_=>Option.none
 | e::es=>(r.E e st).bind fun (v,st)=>(r.Es es st).map fun (vs,st)=>(v::vs,st)
noncomputable def setA (v u k:AV)(st:St):Option (AFlow × St):=
 match u,k with
 | .ref j,.int k=>
  match st.μ[j]? with
  | some (.list l kk)=>if 0≤k∧k.toNat < l.length∧k < 100000 then some (.next,{st with μ:=st.μ.set j (.list (l.set k.toNat v) kk)}) else Option.none
  | _=>Option.none
 | _,_=>Option.none
noncomputable def delA (u k:AV)(st:St):Option (AFlow × St):=
 match u,k with
 | .ref j,.int k=>
  match st.μ[j]? with
  | some (.list l kk)=>if small k then (idx l.length k).map fun k=>(.next,{st with μ:=st.μ.set j (.list (l.eraseIdx k) kk)}) else Option.none
  | _=>Option.none
 | _,_=>Option.none
noncomputable def stepS (x:Stmt)(st:St):Option (AFlow × St):=
 match x with
 | .Return (some e) _=>(r.E e st).map fun (v,st)=>(.ret v,st)
 | .Assign [.Subscript o i _] e _=>if isCompE e then Option.none else
  (r.E e st).bind fun (v,st)=>(r.E o st).bind fun (u,st)=>(r.E i st).bind fun (k,st)=>
  setA v u k st
 | .Assign [.Name x _] e _=>
  if isCompE e then Option.none else (r.E e st).bind fun (v,st)=>(putLoc st (nm x) v).map fun st=>(.next,st)
 | .Assign [.Tuple ts _ _] e _=>
  if isCompE e then Option.none else
  match swapsOf st.kd ts e with
  | Option.none=>Option.none
  | some Option.none=>(r.E e st).bind fun (v,st)=>(giveAll ts v st).map fun st=>(.next,st)
  | some (some ns)=>(r.E e st).bind fun (v,st)=>(giveRev ns v st).map fun st=>(.next,st)
 | .AugAssign (.Name x p) op e _=>
  if isLoc (kindIn st.kd (nm x))&&!(nm x==[95,95,99,108,97,115,115,100,105,99,116,95,95]) then
  (look st.σ (nm x)).bind fun u=>(r.E e st).bind fun (v,st)=>(augA op u v).bind fun z=>(putLoc st (nm x) z).map fun st=>(.next,st)
  else Option.none
 | .For (.Name x p) i b [] _=>(stepIt r i st).bind fun (it,st)=>r.Lp (.Name x p) it b st
 | .While t b [] _=>r.Wh t b st
 | .If t a b _=>(r.T t st).bind fun (c,st)=>if c then r.SS a st else r.SS b st
 | .Assert t Option.none _=>(r.T t st).bind fun (c,st)=>if c then some (.next,st) else Option.none
 | .Expr e _=>if isCompE e then Option.none else (r.E e st).bind fun (v,st)=>some (.next,st)
 | .Delete [.Subscript o i _] _=>
  (r.E o st).bind fun (u,st)=>(r.E i st).bind fun (k,st)=>
  delA u k st
 | _=>Option.none
noncomputable def stepSS (l:List Stmt)(st:St):Option (AFlow × St):=
 match l with
 | []=>some (.next,st)
 | s::l=>(r.S s st).bind fun (f,st)=>match f with | .next=>r.SS l st | f=>some (f,st)
noncomputable def stepLp (t:Expr)(it:AIt)(b:List Stmt)(st:St):Option (AFlow × St):=
 (nextIt it st.μ).bind fun n=>match n with
 | Option.none=>some (.next,st)
 | some (v,it')=>(giveTo t v st).bind fun st=>(r.SS b st).bind fun (f,st)=>match f with
  | .ret v=>some (.ret v,st)
  | .brk=>some (.next,st)
  | _=>r.Lp t it' b st
noncomputable def stepWh (t:Expr)(b:List Stmt)(st:St):Option (AFlow × St):=
 (r.T t st).bind fun (c,st)=>if c then (r.SS b st).bind fun (f,st)=>match f with
  | .ret v=>some (.ret v,st)
  | .brk=>some (.next,st)
  | _=>r.Wh t b st
 else some (.next,st)
noncomputable def allT (r:Rec):List Expr→St→Option (Bool × St)
 | [],st=>some (true,st)
 | e::l,st=>(r.T e st).bind fun (b,st)=>if b then allT r l st else some (false,st)
noncomputable def stepCm (elt t:Expr)(ifs:List Expr)(it:AIt)(acc:List AV)(st:St):Option (List AV × St):=
 (nextIt it st.μ).bind fun n=>match n with
 | Option.none=>some (acc,st)
 | some (v,it')=>(giveTo t v st).bind fun st=>(allT r ifs st).bind fun (b,st)=>
  if b then (r.E elt st).bind fun (x,st)=>if acc.length < topK then r.Cm elt t ifs it' (acc++[x]) st else Option.none
  else r.Cm elt t ifs it' acc st
end
noncomputable def run (F:List (Nm × UF)):Nat→Rec
 | 0=>Rec.none
 | n+1=>⟨stepE F (run F n),stepT (run F n),stepTs (run F n),stepEs (run F n),stepS (run F n),stepSS (run F n),stepLp (run F n),stepWh (run F n),stepCm (run F n)⟩
noncomputable def mkUF (s:Stmt):UF:=⟨(fArgs s).args.map fun a=>nm a.arg,fBody s,(fScope s).names⟩
noncomputable def FT:List (Nm × UF):=
 [(nm (Str.ofString "_ellipsis_match"),mkUF (pb 6)),(nm (Str.ofString "_strcoll"),mkUF (pb 8)),(nm (Str.ofString "_strip_padding"),mkUF (pb 9)),(nm (Str.ofString "_law_typed"),mkUF (pb 16)),(nm (Str.ofString "in_table_b1"),mkUF (pb 12)),(nm (Str.ofString "map_table_b3"),mkUF (pb 14))]
set_option backward.match.sparseCases true
set_option genInjectivity true
set_option tactic.hygienic false
theorem noS {α:Type}{x:α}{C:Prop}(e:none=some x):C:=by cases e
theorem ftC {C:Prop}(e:false=true):C:=by cases e
theorem someE {α:Type}{a b:α}{C:α→Prop}(h:some a=some b)(k:C a):C b:=Option.some.inj h▸k
theorem clash {x:Option Obj}{a b:Obj}{C:Prop}(e:x=some a)(e':x=some b)(h:(a.data.ctorIdx==b.data.ctorIdx)=false):C:=by
 have:=Option.some.inj (e.symm.trans e');subst this;simp at h
theorem dclash {x:Option Obj}{a b:Obj}{d:Data}{C:Prop}(e:x=some a)(e':x=some b)(d':b.data=d)(h:(a.data.ctorIdx==d.ctorIdx)=false):C:=by
 have:=Option.some.inj (e.symm.trans e');subst this;rw [d'] at h;simp at h
theorem dapart {h:Heap}{a b:Addr}{o o':Obj}{d d':Data}(e:h.get? a=some o)(k:o.data=d)(e':h.get? b=some o')(k':o'.data=d')(n:(d.ctorIdx==d'.ctorIdx)=false):a≠b:=by
 rintro rfl;exact dclash e e' k' (k▸n)
theorem wIfN {M:Model}{A:Around}{α:Type}{c:Prop}[Decidable c]{t e:Sem α}{Q:α→Shared→Prop}{E:Value→Shared→Prop}{s:Shared}(h:¬c)(k:wpAny M A e Q E s):wpAny M A (if c then t else e) Q E s:=
 (if_neg h:(if c then t else e)=e).symm▸k
theorem wIfP {M:Model}{A:Around}{α:Type}{c:Prop}[Decidable c]{t e:Sem α}{Q:α→Shared→Prop}{E:Value→Shared→Prop}{s:Shared}(h:c)(k:wpAny M A t Q E s):wpAny M A (if c then t else e) Q E s:=
 (if_pos h:(if c then t else e)=t).symm▸k
theorem wEqM {M:Model}{A:Around}{α:Type}{m m':Sem α}{Q:α→Shared→Prop}{E:Value→Shared→Prop}{s:Shared}(e:m=m')(k:wpAny M A m' Q E s):wpAny M A m Q E s:=e▸k
theorem wEqB {M:Model}{A:Around}{α β:Type}{m m':Sem α}{f:α→Sem β}{Q:β→Shared→Prop}{E:Value→Shared→Prop}{s:Shared}(e:m=m')(k:wpAny M A (m'>>=f) Q E s):wpAny M A (m>>=f) Q E s:=e▸k
theorem exE {α β:Type}{f:α→β}{v:β}{C:β→Prop}(V:∃ t,v=f t)(k:∀ t,C (f t)):C v:=by
 obtain ⟨t,rfl⟩:=V
 exact k t
theorem someI {α:Type}{a b:α}{x:Option α}(e:x=some a)(e':x=some b):a=b:=Option.some.inj (e.symm.trans e')
theorem iteE {α:Type}{c:Prop}[Decidable c]{a:Option α}{r:α}{C:Prop}(h:(if c then a else none)=some r)(k:c→a=some r→C):C:=by
 by_cases hc:c
 ·rw [if_pos hc] at h;exact k hc h
 ·rw [if_neg hc] at h;exact noS h
theorem iteN {α:Type}{c:Prop}[Decidable c]{a:Option α}{r:α}{C:Prop}(h:(if c then none else a)=some r)(k:¬c→a=some r→C):C:=by
 by_cases hc:c
 ·rw [if_pos hc] at h;exact noS h
 ·rw [if_neg hc] at h;exact k hc h
set_option tactic.hygienic true
inductive All2 {α β:Type}(R:α→β→Prop):List α→List β→Prop
 | nil:All2 R [] []
 | cons {a b l m}:R a b→All2 R l m→All2 R (a::l) (b::m)
namespace All2
variable {α β:Type}{R R':α→β→Prop}
set_option tactic.hygienic false
theorem length {l:List α}{m:List β}(h:All2 R l m):l.length=m.length:=by
 induction h with
 | nil=>rfl
 | cons _ _ ih=>simp [ih]
theorem mono {l:List α}{m:List β}(h:All2 R l m)(f:∀ a b,R a b→R' a b):All2 R' l m:=by
 induction h with
 | nil=>exact .nil
 | cons x _ ih=>exact .cons (f _ _ x) ih
theorem app {l l':List α}{m m':List β}(h:All2 R l m)(h':All2 R l' m'):All2 R (l++l') (m++m'):=by
 induction h with
 | nil=>exact h'
 | cons x _ ih=>exact .cons x ih
theorem get {l:List α}{m:List β}(h:All2 R l m){i:Nat}{a:α}(e:l[i]?=some a):∃ b,m[i]?=some b∧R a b:=by
 induction h generalizing i with
 | nil=>simp at e
 | cons x _ ih=>
  induction i using Nat.casesOn with
  | zero=>simp at e;subst e;exact ⟨_,rfl,x⟩
  | succ i=>simp at e ⊢;exact ih e
theorem take {l:List α}{m:List β}(h:All2 R l m)(k:Nat):All2 R (l.take k) (m.take k):=by
 induction h generalizing k with
 | nil=>simp;exact .nil
 | cons x _ ih=>
  induction k using Nat.casesOn with
  | zero=>exact .nil
  | succ k=>exact .cons x (ih k)
theorem drop {l:List α}{m:List β}(h:All2 R l m)(k:Nat):All2 R (l.drop k) (m.drop k):=by
 induction h generalizing k with
 | nil=>simp;exact .nil
 | cons x t ih=>
  induction k using Nat.casesOn with
  | zero=>exact .cons x t
  | succ k=>exact ih k
theorem set {l:List α}{m:List β}(h:All2 R l m)(k:Nat){a:α}{b:β}(r:R a b):All2 R (l.set k a) (m.set k b):=by
 induction h generalizing k with
 | nil=>exact .nil
 | cons x t ih=>
  induction k using Nat.casesOn with
  | zero=>exact .cons r t
  | succ k=>exact .cons x (ih k)
theorem eraseIdx {l:List α}{m:List β}(h:All2 R l m)(k:Nat):All2 R (l.eraseIdx k) (m.eraseIdx k):=by
 induction h generalizing k with
 | nil=>exact .nil
 | cons x t ih=>
  induction k using Nat.casesOn with
  | zero=>exact t
  | succ k=>exact .cons x (ih k)
theorem nil_left {m:List β}(h:All2 R [] m):m=[]:=by cases h;rfl
theorem none {l:List α}{m:List β}(h:All2 R l m){i:Nat}(e:l[i]?=Option.none):m[i]?=Option.none:=by
 simp only [List.getElem?_eq_none_iff] at e ⊢;rw [← h.length];exact e
set_option tactic.hygienic true
end All2
noncomputable def VR0 (n:Nat)(ad:Nat→Addr):AV→Value→Prop
 | .none,v=>v=.none
 | .bool b,v=>v=.bool b
 | .int i,v=>∃ t,v=.int i t
 | .str l,v=>∃ t,v=.str ⟨⟨l⟩⟩ t
 | .ref i,v=>i < n∧v=.ref (ad i)
 | .lin m q r,v=>∃ t,v=.int (m*q+r) t
 | .tb k,v=>(k=1∧v=.ref 133)∨(k=3∧v=.ref 144)
 | .tup _,_=>False
noncomputable def VR (n:Nat)(ad:Nat→Addr)(h:Heap):AV→Value→Prop
 | .tup l,v=>∃ t vs,v=.ref t∧h.IsTuple t ⟨vs⟩∧All2 (VR0 n ad) l vs
 | a,v=>VR0 n ad a v
noncomputable def Agree (n:Nat)(ad ad':Nat→Addr):Prop:=∀ i,i < n→ad' i=ad i
set_option tactic.hygienic false
theorem VR0.mono {n n':Nat}{ad ad':Nat→Addr}{a:AV}{v:Value}(h:VR0 n ad a v)(le:n≤n')(ag:Agree n ad ad'):VR0 n' ad' a v:=by
 induction a using AV.casesOn <;> simp only [VR0] at h ⊢ <;> try exact h
 exact ⟨Nat.lt_of_lt_of_le h.1 le,by rw [ag _ h.1];exact h.2⟩
theorem VR.mono {n n':Nat}{ad ad':Nat→Addr}{h h':Heap}{a:AV}{v:Value}(x:VR n ad h a v)(le:n≤n')(ag:Agree n ad ad')
  (ht:∀ t items,h.IsTuple t items→h'.IsTuple t items):VR n' ad' h' a v:=by
 induction a using AV.casesOn with
 | none=>exact VR0.mono (a:=.none) x le ag
 | bool b=>exact VR0.mono (a:=.bool b) x le ag
 | int i=>exact VR0.mono (a:=.int i) x le ag
 | str l=>exact VR0.mono (a:=.str l) x le ag
 | ref i=>exact VR0.mono (a:=.ref i) x le ag
 | lin m q r=>exact VR0.mono (a:=.lin m q r) x le ag
 | tb k=>exact VR0.mono (a:=.tb k) x le ag
 | tup l=>
  obtain ⟨t,vs,e,it,al⟩:=x
  exact ⟨t,vs,e,ht _ _ it,al.mono fun a b r=>r.mono le ag⟩
set_option tactic.hygienic true
noncomputable def IsD (o:Obj):Prop:=∃ es ep,o.data=.dict es ep
noncomputable def ObjR (env:Env)(n:Nat)(ad:Nat→Addr)(h:Heap)(a:Addr):AObj→Prop
 | .list l kk=>∃ vs,h.PlainList a ⟨vs⟩∧All2 (VR n ad h) l vs∧l.length≤kk∧kk≤topK
 | .acc l kk init=>(l.length≤kk∧kk≤topK)∧∃ vs k D sl,h.get? a=some {cls:=.ref 100,dict:=some D,data:=.seq ⟨vs⟩ k,slots:=sl}∧All2 (VR n ad h) l vs ∧
   (∃ od,h.get? D=some od∧IsD od)∧(∃ t,h.Ns D (fun x=>if x=Str.ofString "_initial_size" then some (.int init t) else none))∧D≠env.locals∧(∀ x c,env.cells.lookup x=some c→D≠c)
structure Rep (w:World)(o₀:OsState)(B:Addr→Obj→Prop)(env:Env)(ad:Nat→Addr)(st:St)(s:Shared):Prop where
 kept:∀ a o,B a o→s.heap.get? a=some o
 top:∀ a o,(Hf w.params).get? a=some o→a≠62→a≠69→B a o
 kd:st.kd=env.scope.names
 ns:∃ m,s.heap.Ns env.locals m∧∀ x v,look st.σ (nm x)=some v→env.kindOf x=some .local→∃ val,m x=some val∧VR st.μ.length ad s.heap v val
 cl:∀ x v,look st.σ (nm x)=some v→(env.kindOf x=some .cell∨env.kindOf x=some .free)→∃ c val,env.cells.lookup x=some c∧s.heap.IsCell c (some val)∧VR st.μ.length ad s.heap v val
 cells:∀ x,env.kindOf x=some .cell→∃ c,env.cells.lookup x=some c
 cellObj:∀ x c,env.cells.lookup x=some c→∃ v₀,s.heap.IsCell c v₀
 apart:env.cells.Pairwise fun x y=>x.2≠y.2
 mem:∀ i o,st.μ[i]?=some o→ObjR env st.μ.length ad s.heap (ad i) o
 inj:∀ i j,i < j→j < st.μ.length→ad i≠ad j
 offB:∀ a o,B a o→a≠62∧a≠69∧a≠env.locals∧(∀ x c,env.cells.lookup x=some c→a≠c)∧∀ i,i < st.μ.length→a≠ad i
 tab:∀ a,a=62∨a=69→∃ vs:{vs:Array Value // TriplesOk vs.toList},s.heap.get? a=some ⟨.none,none,.fields vs.1,⟨[]⟩⟩
 bare:AllBare s.gens
 os:s.os=o₀
noncomputable def Rest (env:Env)(ad:Nat→Addr)(n:Nat)(s:Shared)(a:Addr)(o:Obj):Prop:=
 s.heap.get? a=some o∧a≠62∧a≠69∧a≠env.locals∧(∀ x c,env.cells.lookup x=some c→a≠c)∧∀ i,i < n→a≠ad i
section
variable {w:World}{o₀:OsState}{B:Addr→Obj→Prop}{env:Env}{ad ad':Nat→Addr}{st st':St}{s s':Shared}
set_option tactic.hygienic false
theorem ObjR.data {n:Nat}{h:Heap}{a:Addr}{o:AObj}(x:ObjR env n ad h a o):∃ ob,h.get? a=some ob∧(ob.cls=.type "list"∨ob.cls=.ref 100)∧∃ items k,ob.data=.seq items k:=by
 induction o using AObj.casesOn with
 | list l kk=>obtain ⟨vs,⟨k,e⟩,_⟩:=x;exact ⟨_,e,.inl rfl,_,_,rfl⟩
 | acc l kk i=>obtain ⟨_,vs,k,D,sl,e,_⟩:=x;exact ⟨_,e,.inr rfl,_,_,rfl⟩
theorem Rep.at (R:Rep w o₀ B env ad st s){i:Nat}(hi:i < st.μ.length):∃ ob,s.heap.get? (ad i)=some ob∧(ob.cls=.type "list"∨ob.cls=.ref 100)∧∃ items k,ob.data=.seq items k:=
 (R.mem i st.μ[i] (by simp [hi])).data
theorem Rep.rest_of (R:Rep w o₀ B env ad st s){t:Addr}{o:Obj}(e:s.heap.get? t=some o)(hc:o.cls≠.none)
  (hd:∀ es ep,o.data≠.dict es ep) (hcell:∀ v,o.data≠.cell v) (hl:o.cls≠.type "list") (ha:o.cls≠.ref 100):Rest env ad st.μ.length s t o:=by
 refine ⟨e,?_,?_,?_,?_,?_⟩
 ·rintro rfl;obtain ⟨vs,h⟩:=R.tab 62 (.inl rfl);rw [e] at h;obtain rfl:=Option.some.inj h;exact hc rfl
 ·rintro rfl;obtain ⟨vs,h⟩:=R.tab 69 (.inr rfl);rw [e] at h;obtain rfl:=Option.some.inj h;exact hc rfl
 ·rintro rfl;obtain ⟨m,⟨o',es,ep,e',d',_⟩,_⟩:=R.ns;rw [e] at e';obtain rfl:=Option.some.inj e';exact hd _ _ d'
 ·rintro x c hm rfl;obtain ⟨v₀,o',e',d'⟩:=R.cellObj _ _ hm;rw [e] at e';obtain rfl:=Option.some.inj e';exact hcell _ d'
 ·rintro i hi rfl;obtain ⟨ob,e',c,_⟩:=R.at hi;rw [e] at e';obtain rfl:=Option.some.inj e';exact c.elim hl ha
theorem Rep.tuple_rest (R:Rep w o₀ B env ad st s){t:Addr}{items:Array Value}(x:s.heap.IsTuple t items):∃ o,o.cls=.type "tuple"∧(∃ n,o.data=.seq items n)∧Rest env ad st.μ.length s t o:=by
 obtain ⟨o,e,c,n,d⟩:=x
 exact ⟨o,c,⟨n,d⟩,R.rest_of e (by simp [c]) (by simp [d]) (by simp [d]) (by simp [c]) (by simp [c])⟩
theorem Rep.widen (R:Rep w o₀ B env ad st s):Rep w o₀ (Rest env ad st.μ.length s) env ad st s:=
 {R with
  kept:=fun a o h=>h.1
  top:=fun a o h h1 h2=>by
   have b:=R.top a o h h1 h2
   obtain ⟨b1,b2,b3,b4,b5⟩:=R.offB a o b
   exact ⟨R.kept a o b,b1,b2,b3,b4,b5⟩
  offB:=fun a o h=>h.2}
theorem Rep.narrow (R:Rep w o₀ B env ad st s)(R':Rep w o₀ (Rest env ad st.μ.length s) env ad' st' s')(le:st.μ.length≤st'.μ.length):Rep w o₀ B env ad' st' s':=
 have sub:∀ a o,B a o→Rest env ad st.μ.length s a o:=fun a o b=>⟨R.kept a o b,R.offB a o b⟩
 {R' with
  kept:=fun a o b=>R'.kept a o (sub a o b)
  top:=R.top
  offB:=fun a o b=>R'.offB a o (sub a o b)}
theorem VR.after {a:AV}{v:Value}(x:VR st.μ.length ad s.heap a v)(R:Rep w o₀ B env ad st s)(R':Rep w o₀ (Rest env ad st.μ.length s) env ad' st' s')
  (ag:Agree st.μ.length ad ad') (le:st.μ.length≤st'.μ.length):VR st'.μ.length ad' s'.heap a v:=
 x.mono le ag fun t items it=>by
  obtain ⟨o,c,d,r⟩:=R.tuple_rest it
  exact ⟨o,R'.kept _ _ r,c,d⟩
theorem PlainList.mono {h h':Heap}{a:Addr}{items:Array Value}(x:h.PlainList a items)(hk:∀ o,h.get? a=some o→h'.get? a=some o):h'.PlainList a items:=x.at hk
theorem Rep.grow (R:Rep w o₀ B env ad st s)(hk:∀ a o,s.heap.get? a=some o→s'.heap.get? a=some o)(hg:s'.gens=s.gens)(ho:s'.os=s.os):Rep w o₀ B env ad st s':=
 have ht:∀ t items,s.heap.IsTuple t items→s'.heap.IsTuple t items:=fun t items ⟨o,e,r⟩=>⟨o,hk _ _ e,r⟩
 have hv:∀ a v,VR st.μ.length ad s.heap a v→VR st.μ.length ad s'.heap a v:=fun a v x=>x.mono (Nat.le_refl _) (fun _ _=>rfl) ht
 {R with
  kept:=fun a o b=>hk _ _ (R.kept a o b)
  ns:=by
   obtain ⟨m,n,f⟩:=R.ns
   exact ⟨m,n.keeps hk,fun x v e k=>let ⟨val,a,b⟩:=f x v e k;⟨val,a,hv _ _ b⟩⟩
  cl:=fun x v e k=>let ⟨c,val,a,b,d⟩:=R.cl x v e k;⟨c,val,a,b.keeps hk,hv _ _ d⟩
  cellObj:=fun x c m=>let ⟨v₀,h⟩:=R.cellObj x c m;⟨v₀,h.keeps hk⟩
  mem:=fun i o e=>by
   have:=R.mem i o e
   induction o using AObj.casesOn with
   | list l kk=>obtain ⟨vs,p,al,z⟩:=this;exact ⟨vs,p.at fun o e=>hk _ _ e,al.mono hv,z⟩
   | acc l kk i=>obtain ⟨z,vs,k,D,sl,e,al,⟨od,e2,c2⟩,⟨t,nn⟩,r⟩:=this;exact ⟨z,vs,k,D,sl,hk _ _ e,al.mono hv,⟨od,hk _ _ e2,c2⟩,⟨t,nn.keeps hk⟩,r⟩
  tab:=fun a h=>let ⟨vs,e⟩:=R.tab a h;⟨vs,hk _ _ e⟩
  bare:=by rw [hg];exact R.bare
  os:=ho.trans R.os}
theorem Rep.toks (R:Rep w o₀ B env ad st s)(n:Nat):Rep w o₀ B env ad st {s with toks:=n}:=R.grow (fun _ _ h=>h) rfl rfl
theorem Rep.push (R:Rep w o₀ B env ad st s)(o:Obj):Rep w o₀ B env ad st {s with heap:=s.heap.push o}:=R.grow (fun _ _ h=>Heap.get?_push_of_some o h) rfl rfl
set_option tactic.hygienic true
end
noncomputable def updAd (ad:Nat→Addr)(n:Nat)(a:Addr):Nat→Addr:=fun i=>if i=n then a else ad i
set_option tactic.hygienic false
theorem agree_upd (ad:Nat→Addr)(n:Nat)(a:Addr):Agree n ad (updAd ad n a):=fun i hi=>by simp [updAd,Nat.ne_of_lt hi]
theorem Agree.refl (n:Nat)(ad:Nat→Addr):Agree n ad ad:=fun _ _=>rfl
theorem Agree.trans {n n':Nat}{a b c:Nat→Addr}(x:Agree n a b)(y:Agree n' b c)(le:n≤n'):Agree n a c:=fun i hi=>(y i (Nat.lt_of_lt_of_le hi le)).trans (x i hi)
theorem nm_inj {x y:Str}(h:nm x=nm y):x=y:=by
 cases x with | mk a=>cases y with | mk b=>exact congrArg Str.mk (Array.ext' h)
theorem look_put (σ:Sig)(x:Nm)(v:AV)(y:Nm):look (put σ x v) y=if x=y then some v else look σ y:=by
 induction σ with
 | nil=>simp only [put,look,beq_iff_eq]
 | cons p l ih=>
  obtain ⟨z,u⟩:=p
  simp only [put,beq_iff_eq]
  by_cases h:z=x
  ·subst h
   simp only [if_true,look,beq_iff_eq]
   by_cases h2:z=y <;> simp [h2]
  ·rw [if_neg h]
   simp only [look,beq_iff_eq,ih]
   by_cases h2:z=y
   ·subst h2
    have:x≠z:=fun e=>h e.symm
    simp [this]
   ·simp [h2]
theorem kindIn_eq (l:List (Str × NameKind))(x:Str):kindIn l (nm x)=l.lookup x:=by
 induction l with
 | nil=>rfl
 | cons p l ih=>
  obtain ⟨y,k⟩:=p
  simp only [kindIn,List.lookup,beq_iff_eq]
  by_cases h:x=y
  ·subst h;simp
  ·have:(x==y)=false:=by simp [h]
   rw [this]
   have h2:nm y≠nm x:=fun e=>h (nm_inj e).symm
   rw [if_neg h2];exact ih
theorem mem_of_lookup {cs:List (Str × Addr)}{x:Str}{c:Addr}(h:cs.lookup x=some c):(x,c)∈cs:=by
 induction cs with
 | nil=>exact noS h
 | cons p l ih=>
  obtain ⟨z,e⟩:=p
  simp only [List.lookup] at h
  cases h1:(x==z) <;> rw [h1] at h <;> simp only at h
  ·exact List.mem_cons_of_mem _ (ih h)
  ·obtain rfl:=Option.some.inj h;rw [beq_iff_eq] at h1;subst h1;exact List.mem_cons_self ..
theorem cell_ne {cs:List (Str × Addr)}(hp:cs.Pairwise fun x y=>x.2≠y.2){x y:Str}{c d:Addr}(hx:cs.lookup x=some c)(hy:cs.lookup y=some d)(h:x≠y):c≠d:=by
 induction cs with
 | nil=>exact noS hx
 | cons p l ih=>
  obtain ⟨z,e⟩:=p
  rw [List.pairwise_cons] at hp
  simp only [List.lookup] at hx hy
  cases h1:(x==z) <;> cases h2:(y==z) <;> rw [h1] at hx <;> rw [h2] at hy <;> simp only at hx hy
  ·exact ih hp.2 hx hy
  ·refine someE hy ?_
   have:=mem_of_lookup hx
   exact (hp.1 _ this).symm
  ·obtain rfl:=Option.some.inj hx
   exact hp.1 _ (mem_of_lookup hy)
  ·rw [beq_iff_eq] at h1 h2;exact absurd (h1.trans h2.symm) h
set_option tactic.hygienic true
section
variable {w:World}{o₀:OsState}{B:Addr→Obj→Prop}{env:Env}{ad ad':Nat→Addr}{st st':St}{s s':Shared}
set_option tactic.hygienic false
theorem ObjR.mono {n n':Nat}{ad ad':Nat→Addr}{h h':Heap}{a:Addr}{o:AObj}(x:ObjR env n ad h a o)(hv:∀ a v,VR n ad h a v→VR n' ad' h' a v)
  (ha:∀ o,h.get? a=some o→h'.get? a=some o) (hd:∀ D o,h.get? D=some o→IsD o→D≠env.locals→(∀ x c,env.cells.lookup x=some c→D≠c)→h'.get? D=some o):ObjR env n' ad' h' a o:=by
 cases o with
 | list l kk=>refine x1_2 x fun vs p al z=>?_;exact ⟨vs,p.at ha,al.mono hv,z⟩
 | acc l kk i=>
  obtain ⟨z,vs,k,D,sl,e,al,hz07,hz08,n1,n2⟩:=x;refine x1_1 hz07 fun od e2 c2=>?_;refine x4_1 hz08 fun t3 o3 es ep e3 r3=>?_
  rw [e2] at e3;cases e3
  have e4:=hd D od e2 c2 n1 n2
  exact ⟨z,vs,k,D,sl,ha _ e,al.mono hv,⟨od,e4,c2⟩,⟨t3,od,es,ep,e4,r3⟩,n1,n2⟩
theorem Rep.adopt (R:Rep w o₀ B env ad st s){a:Addr}{o:AObj}(x:ObjR env st.μ.length ad s.heap a o)(hB:∀ o,¬ B a o)(hne:∀ i,i < st.μ.length→ad i≠a) :
  Rep w o₀ B env (updAd ad st.μ.length a) {st with μ:=st.μ++[o]} s:=by
 have le:st.μ.length≤(st.μ++[o]).length:=by simp
 have hv:∀ u v,VR st.μ.length ad s.heap u v→VR (st.μ++[o]).length (updAd ad st.μ.length a) s.heap u v:=fun u v x=>x.mono le (agree_upd _ _ _) fun _ _ h=>h
 refine {R with ns:=?_,cl:=?_,mem:=?_,inj:=?_,offB:=?_}
 ·refine x1_1 (R.ns) fun m n f=>?_
  exact ⟨m,n,fun x v e k=>let ⟨val,a,b⟩:=f x v e k;⟨val,a,hv _ _ b⟩⟩
 ·exact fun x v e k=>let ⟨c,val,a,b,d⟩:=R.cl x v e k;⟨c,val,a,b,hv _ _ d⟩
 ·intro i oi e
  rcases Nat.lt_trichotomy i st.μ.length with hi | hi | hi
  ·have e':st.μ[i]?=some oi:=by
    rw [show (st.μ++[o])[i]?=st.μ[i]? from List.getElem?_append_left hi] at e;exact e
   rw [show updAd ad st.μ.length a i=ad i from agree_upd _ _ _ _ hi]
   exact (R.mem i oi e').mono hv (fun _ h=>h) (fun _ _ h _ _ _=>h)
  ·subst hi
   have:oi=o:=by simp at e;exact e.symm
   subst this
   rw [show updAd ad st.μ.length a st.μ.length=a by simp [updAd]]
   exact x.mono hv (fun _ h=>h) (fun _ _ h _ _ _=>h)
  ·have:(st.μ++[o])[i]?=none:=by simp;kt_len
   rw [this] at e;exact noS e
 ·intro i j hij hj
  have hj':j < st.μ.length+1:=by simpa using hj
  have hi:i < st.μ.length:=by kt_len
  rw [show updAd ad st.μ.length a i=ad i from agree_upd _ _ _ _ hi]
  rcases Nat.lt_or_ge j st.μ.length with h | h
  ·rw [show updAd ad st.μ.length a j=ad j from agree_upd _ _ _ _ h];exact R.inj i j hij h
  ·have:j=st.μ.length:=by kt_len
   subst this
   rw [show updAd ad st.μ.length a st.μ.length=a by simp [updAd]]
   exact hne i hi
 ·intro b ob hb
  refine x0_4 (R.offB b ob hb) fun h1 h2 h3 h4 h5=>?_
  refine ⟨h1,h2,h3,h4,fun i hi=>?_⟩
  have hi':i < st.μ.length+1:=by simpa using hi
  rcases Nat.lt_or_ge i st.μ.length with h | h
  ·rw [show updAd ad st.μ.length a i=ad i from agree_upd _ _ _ _ h];exact h5 i h
  ·have:i=st.μ.length:=by kt_len
   subst this
   rw [show updAd ad st.μ.length a st.μ.length=a by simp [updAd]]
   rintro rfl;exact hB _ hb
theorem Rep.ad_lt (R:Rep w o₀ B env ad st s){i:Nat}(hi:i < st.μ.length):ad i < s.heap.objs.size:=let ⟨_,e,_⟩:=R.at hi;Heap.lt_size e
theorem Rep.B_lt (R:Rep w o₀ B env ad st s){a:Addr}{o:Obj}(b:B a o):a < s.heap.objs.size:=Heap.lt_size (R.kept a o b)
theorem Rep.newList (R:Rep w o₀ B env ad st s){l:List AV}{vs:List Value}{k kk:Nat}(al:All2 (VR st.μ.length ad s.heap) l vs)(z:l.length≤kk∧kk≤topK) :
  Rep w o₀ B env (updAd ad st.μ.length s.heap.objs.size) {st with μ:=st.μ++[.list l kk]} {s with heap:=s.heap.push {cls:=.type "list",data:=.seq ⟨vs⟩ k}}:=
 (R.push _).adopt (o:=.list l kk) ⟨vs,⟨k,Heap.get?_push_size _ rfl⟩,al.mono fun a v x=>x.mono (Nat.le_refl _) (Agree.refl _ _) fun t items it=>it.push _,z⟩
  (fun o b=>Nat.lt_irrefl _ (R.B_lt b)) (fun i hi=>Nat.ne_of_lt (R.ad_lt hi))
theorem Rep.set (R:Rep w o₀ B env ad st s){i:Nat}{o:AObj}{h':Heap}(hi:i < st.μ.length)(hs:Heap.SameBut (ad i) s.heap h')(x:ObjR env st.μ.length ad h' (ad i) o) :
  Rep w o₀ B env ad {st with μ:=st.μ.set i o} {s with heap:=h'}:=by
 have hlen:(st.μ.set i o).length=st.μ.length:=by simp
 have hk:∀ a ob,a≠ad i→s.heap.get? a=some ob→h'.get? a=some ob:=fun a ob n e=>(hs.2 a n).trans e
 obtain ⟨oi,ei,ci,it,k,di⟩:=R.at hi
 have ht:∀ t items,s.heap.IsTuple t items→h'.IsTuple t items:=fun t items it=>by
  refine x1_2 (R.tuple_rest it) fun ob c d r=>?_
  exact ⟨ob,hk _ _ (r.2.2.2.2.2 i hi) r.1,c,d⟩
 have hv:∀ u v,VR st.μ.length ad s.heap u v→VR st.μ.length ad h' u v:=fun u v x=>x.mono (Nat.le_refl _) (Agree.refl _ _) ht
 have hdata:∀ {a ob},s.heap.get? a=some ob→(∀ items k,ob.data≠.seq items k)→a≠ad i:=by
  rintro a ob e h rfl;rw [ei] at e;obtain rfl:=Option.some.inj e;exact h _ _ di
 refine {kept:=fun a ob b=>hk a ob ((R.offB a ob b).2.2.2.2 i hi) (R.kept a ob b),top:=R.top,kd:=R.kd,ns:=?_,cl:=?_,cells:=R.cells,cellObj:=?_,apart:=R.apart,mem:=?_,inj:=by simpa [hlen] using R.inj,offB:=by simpa [hlen] using R.offB,tab:=?_,bare:=R.bare,os:=R.os}
 ·refine x1_1 (R.ns) fun m hz01 f=>?_;refine x3_2 hz01 fun o' es ep e' d' r=>?_
  refine ⟨m,⟨o',es,ep,hk _ _ (hdata e' (by simp [d'])) e',d',r⟩,fun x v e k=>?_⟩
  refine x1_1 (f x v e k) fun val a b=>?_
  rw [hlen]
  exact ⟨val,a,hv _ _ b⟩
 ·intro x v e k
  refine x2_2 (R.cl x v e k) fun c val a hz03 d=>?_;refine x1_1 hz03 fun oc ec dc=>?_
  rw [hlen]
  exact ⟨c,val,a,⟨oc,hk _ _ (hdata ec (by simp [dc])) ec,dc⟩,hv _ _ d⟩
 ·intro x c m
  refine x2_1 (R.cellObj x c m) fun v₀ oc ec dc=>?_
  exact ⟨v₀,oc,hk _ _ (hdata ec (by simp [dc])) ec,dc⟩
 ·intro j oj e
  rw [hlen]
  by_cases hj:j=i
  ·subst hj
   have:oj=o:=by
    rw [List.getElem?_set_self hi] at e;exact (Option.some.inj e).symm
   subst this;exact x
  ·have e':st.μ[j]?=some oj:=by
    rw [List.getElem?_set_ne (Ne.symm hj)] at e;exact e
   have hjl:j < st.μ.length:=by
    rcases Nat.lt_or_ge j st.μ.length with h | h
    ·exact h
    ·rw [List.getElem?_eq_none h] at e';exact noS e'
   have hne:ad j≠ad i:=by
    rcases Nat.lt_or_gt_of_ne hj with h | h
    ·exact R.inj _ _ h hi
    ·exact (R.inj _ _ h hjl).symm
   exact (R.mem j oj e').mono hv (fun ob e=>hk _ _ hne e) fun D ob e c _ _=>hk _ _ (by rintro rfl;rw [ei] at e;cases e;refine x2_0 c fun _ _ c=>?_;rw [di] at c;cases c) e
 ·intro a h
  refine x1_0 (R.tab a h) fun vs e=>?_
  exact ⟨vs,hk _ _ (hdata e (by simp)) e⟩
theorem Rep.store (R:Rep w o₀ B env ad st s){x:Str}{v:AV}{val:Value}{m:Str→Option Value}{h':Heap}{tk:Nat}(V:VR st.μ.length ad s.heap v val)(hx:env.kindOf x=some .local)
  (hm:∀ x v,look st.σ (nm x)=some v→env.kindOf x=some .local→∃ val,m x=some val∧VR st.μ.length ad s.heap v val)
  (hn:h'.Ns env.locals (fun y=>if y=x then some val else m y)) (hs:Heap.SameBut env.locals s.heap h') :
  Rep w o₀ B env ad {st with σ:=put st.σ (nm x) v} {s with heap:=h',toks:=tk}:=by
 have hk:∀ a ob,a≠env.locals→s.heap.get? a=some ob→h'.get? a=some ob:=fun a ob n e=>(hs.2 a n).trans e
 refine x1_1 (R.ns) fun m0 hz01 _=>?_;refine x3_2 hz01 fun oL es ep eL dL _=>?_
 have ht:∀ t items,s.heap.IsTuple t items→h'.IsTuple t items:=fun t items it=>by
  refine x1_2 (R.tuple_rest it) fun ob c d r=>?_
  exact ⟨ob,hk _ _ r.2.2.2.1 r.1,c,d⟩
 have hv:∀ u v,VR st.μ.length ad s.heap u v→VR st.μ.length ad h' u v:=fun u v x=>x.mono (Nat.le_refl _) (Agree.refl _ _) ht
 have hdata:∀ {a ob},s.heap.get? a=some ob→(∀ es ep,ob.data≠.dict es ep)→a≠env.locals:=by
  rintro a ob e h rfl;rw [eL] at e;obtain rfl:=Option.some.inj e;exact h _ _ dL
 refine {kept:=fun a ob b=>hk a ob (R.offB a ob b).2.2.1 (R.kept a ob b),top:=R.top,kd:=R.kd,ns:=?_,cl:=?_,cells:=R.cells,cellObj:=?_,apart:=R.apart,mem:=?_,inj:=R.inj,offB:=R.offB,tab:=?_,bare:=R.bare,os:=R.os}
 ·refine ⟨_,hn,fun y u e k=>?_⟩
  rw [look_put] at e
  by_cases h:y=x
  ·subst h
   rw [if_pos rfl] at e;cases e
   exact ⟨val,by simp,hv _ _ V⟩
  ·rw [if_neg (fun e=>h (nm_inj e).symm)] at e
   refine x1_1 (hm y u e k) fun val' a b=>?_
   exact ⟨val',by simp [h,a],hv _ _ b⟩
 ·intro y u e k
  rw [look_put] at e
  have h:y≠x:=by rintro rfl;rw [hx] at k;simp at k
  rw [if_neg (fun e=>h (nm_inj e).symm)] at e
  refine x2_2 (R.cl y u e k) fun c val a hz03 d=>?_;refine x1_1 hz03 fun oc ec dc=>?_
  exact ⟨c,val,a,⟨oc,hk _ _ (hdata ec (by simp [dc])) ec,dc⟩,hv _ _ d⟩
 ·intro y c m
  refine x2_1 (R.cellObj y c m) fun v₀ oc ec dc=>?_
  exact ⟨v₀,oc,hk _ _ (hdata ec (by simp [dc])) ec,dc⟩
 ·intro j oj e
  have hjl:j < st.μ.length:=by
   rcases Nat.lt_or_ge j st.μ.length with h | h
   ·exact h
   ·rw [List.getElem?_eq_none h] at e;exact noS e
  obtain ⟨oi,ei,ci,it,k,di⟩:=R.at hjl
  exact (R.mem j oj e).mono hv (fun ob e=>hk _ _ (hdata ei (by simp [di])) e) fun D ob e c n _=>hk _ _ n e
 ·intro a h
  refine x1_0 (R.tab a h) fun vs e=>?_
  exact ⟨vs,hk _ _ (hdata e (by simp)) e⟩
theorem Rep.storeC (R:Rep w o₀ B env ad st s){x:Str}{v:AV}{val:Value}{c:Addr}{h':Heap}(V:VR st.μ.length ad s.heap v val)(hx:env.kindOf x=some .cell)
  (hc:env.cells.lookup x=some c) (hn:h'.IsCell c (some val)) (hs:Heap.SameBut c s.heap h') :
  Rep w o₀ B env ad {st with σ:=put st.σ (nm x) v} {s with heap:=h'}:=by
 have hk:∀ a ob,a≠c→s.heap.get? a=some ob→h'.get? a=some ob:=fun a ob n e=>(hs.2 a n).trans e
 have hmem:=hc
 refine x2_1 (R.cellObj x c hmem) fun v₀ oL eL dL=>?_
 have ht:∀ t items,s.heap.IsTuple t items→h'.IsTuple t items:=fun t items it=>by
  refine x1_2 (R.tuple_rest it) fun ob cc d r=>?_
  exact ⟨ob,hk _ _ (r.2.2.2.2.1 _ _ hmem) r.1,cc,d⟩
 have hv:∀ u v,VR st.μ.length ad s.heap u v→VR st.μ.length ad h' u v:=fun u v x=>x.mono (Nat.le_refl _) (Agree.refl _ _) ht
 have hdata:∀ {a ob},s.heap.get? a=some ob→(∀ v,ob.data≠.cell v)→a≠c:=by
  rintro a ob e h rfl;rw [eL] at e;obtain rfl:=Option.some.inj e;exact h _ dL
 refine {kept:=fun a ob b=>hk a ob ((R.offB a ob b).2.2.2.1 _ _ hmem) (R.kept a ob b),top:=R.top,kd:=R.kd,ns:=?_,cl:=?_,cells:=R.cells,cellObj:=?_,apart:=R.apart,mem:=?_,inj:=R.inj,offB:=R.offB,tab:=?_,bare:=R.bare,os:=R.os}
 ·refine x1_1 (R.ns) fun m hz01 f=>?_;refine x3_2 hz01 fun o' es ep e' d' r=>?_
  refine ⟨m,⟨o',es,ep,hk _ _ (hdata e' (by simp [d'])) e',d',r⟩,fun y u e k=>?_⟩
  rw [look_put] at e
  have h:y≠x:=by rintro rfl;rw [hx] at k;simp at k
  rw [if_neg (fun e=>h (nm_inj e).symm)] at e
  refine x1_1 (f y u e k) fun val a b=>?_
  exact ⟨val,a,hv _ _ b⟩
 ·intro y u e k
  rw [look_put] at e
  by_cases h:y=x
  ·subst h
   rw [if_pos rfl] at e;cases e
   exact ⟨c,val,hc,hn,hv _ _ V⟩
  ·rw [if_neg (fun e=>h (nm_inj e).symm)] at e
   refine x2_2 (R.cl y u e k) fun c' val' a hz03 d=>?_;refine x1_1 hz03 fun oc ec dc=>?_
   exact ⟨c',val',a,⟨oc,hk _ _ (cell_ne R.apart a hc h) ec,dc⟩,hv _ _ d⟩
 ·intro y d m
  by_cases h:d=c
  ·subst h;exact ⟨_,hn⟩
  ·refine x2_1 (R.cellObj y d m) fun v₀ oc ec dc=>?_
   exact ⟨v₀,oc,hk _ _ h ec,dc⟩
 ·intro j oj e
  have hjl:j < st.μ.length:=by
   rcases Nat.lt_or_ge j st.μ.length with h | h
   ·exact h
   ·rw [List.getElem?_eq_none h] at e;exact noS e
  obtain ⟨oi,ei,ci,it,k,di⟩:=R.at hjl
  exact (R.mem j oj e).mono hv (fun ob e=>hk _ _ (hdata ei (by simp [di])) e) fun D ob e _ _ n=>hk _ _ (n _ _ hmem) e
 ·intro a h
  refine x1_0 (R.tab a h) fun vs e=>?_
  exact ⟨vs,hk _ _ (hdata e (by simp)) e⟩
set_option tactic.hygienic true
end
set_option tactic.hygienic false
noncomputable def AOk (A:Around)(n:Nat):Prop:=A.handled=none∧A.depth+n+20 < 1000∧A.units+10*n+200 < 9900
structure EnvOk (env:Env):Prop where
 kind:env.scope.kind=.function
 glob:env.globals=mainGlobals
 blt:env.builtins=builtinsNs
structure Nx (w:World)(o₀:OsState)(B:Addr→Obj→Prop)(env:Env)(ad:Nat→Addr)(st:St)(ad':Nat→Addr)(st':St)(s':Shared):Prop where
 ag:Agree st.μ.length ad ad'
 le:st.μ.length≤st'.μ.length
 R:Rep w o₀ B env ad' st' s'
section
variable {w:World}{o₀:OsState}{B:Addr→Obj→Prop}{env:Env}{ad ad' ad₁ ad₂:Nat→Addr}{st st' st₁ st₂:St}{s s' s₁ s₂:Shared}
theorem Nx.refl (R:Rep w o₀ B env ad st s):Nx w o₀ B env ad st ad st s:=⟨Agree.refl _ _,Nat.le_refl _,R⟩
theorem Nx.toks (N:Nx w o₀ B env ad st ad' st' s)(n:Nat):Nx w o₀ B env ad st ad' st' {s with toks:=n}:=⟨N.ag,N.le,N.R.toks n⟩
theorem Nx.seq (N:Nx w o₀ B env ad st ad₁ st₁ s₁)(N':Nx w o₀ (Rest env ad₁ st₁.μ.length s₁) env ad₁ st₁ ad₂ st₂ s₂):Nx w o₀ B env ad st ad₂ st₂ s₂:=
 ⟨N.ag.trans N'.ag N.le,Nat.le_trans N.le N'.le,N.R.narrow N'.R N'.le⟩
theorem Nx.seq' (N:Nx w o₀ B env ad st ad₁ st₁ s₁)(N':Nx w o₀ B env ad₁ st₁ ad₂ st₂ s₂):Nx w o₀ B env ad st ad₂ st₂ s₂:=
 ⟨N.ag.trans N'.ag N.le,Nat.le_trans N.le N'.le,N'.R⟩
theorem Nx.keep {a:AV}{v:Value}(R:Rep w o₀ B env ad st s)(N':Nx w o₀ (Rest env ad st.μ.length s) env ad st ad' st' s')(V:VR st.μ.length ad s.heap a v):VR st'.μ.length ad' s'.heap a v:=
 V.after R N'.R N'.ag N'.le
end
noncomputable def Kt (w:World)(o₀:OsState)(B:Addr→Obj→Prop)(env:Env)(ad:Nat→Addr)(st st':St)(a:AV)(Q:Value→Shared→Prop):Prop:=
 ∀ ad' v s',Nx w o₀ B env ad st ad' st' s'→VR st'.μ.length ad' s'.heap a v→Q v s'
noncomputable def FlR (n:Nat)(ad:Nat→Addr)(h:Heap):AFlow→Flow→Prop
 | .next,f=>f=.next
 | .cont,f=>f=.cont
 | .brk,f=>f=.brk
 | .ret a,f=>∃ v,f=.ret v∧VR n ad h a v
noncomputable def Ks (w:World)(o₀:OsState)(B:Addr→Obj→Prop)(env:Env)(ad:Nat→Addr)(st st':St)(a:AFlow)(Q:Flow→Shared→Prop):Prop:=
 ∀ ad' v s',Nx w o₀ B env ad st ad' st' s'→FlR st'.μ.length ad' s'.heap a v→Q v s'
theorem Kt.seq {w:World}{o₀:OsState}{B:Addr→Obj→Prop}{env:Env}{ad ad₁:Nat→Addr}{st st' st₁:St}{a:AV}{Q:Value→Shared→Prop}{s₁:Shared}(k:Kt w o₀ B env ad st st' a Q)(N:Nx w o₀ B env ad st ad₁ st₁ s₁):Kt w o₀ B env ad₁ st₁ st' a Q:=
 fun _ _ _ N' V=>k _ _ _ (N.seq' N') V
theorem Kt.tok {w:World}{o₀:OsState}{B:Addr→Obj→Prop}{env:Env}{ad:Nat→Addr}{st:St}{a:AV}{Q:Value→Shared→Prop}{s:Shared}(k:Kt w o₀ B env ad st st a Q)(R:Rep w o₀ B env ad st s):∀ v tk,VR st.μ.length ad s.heap a v→Q v {s with toks:=tk}:=
 fun _ tk V=>k _ _ _ ((Nx.refl R).toks tk) V
theorem Kt.rep {w:World}{o₀:OsState}{B:Addr→Obj→Prop}{env:Env}{ad:Nat→Addr}{st:St}{a:AV}{Q:Value→Shared→Prop}(k:Kt w o₀ B env ad st st a Q):∀ v s',Rep w o₀ B env ad st s'→VR st.μ.length ad s'.heap a v→Q v s':=
 fun _ _ R V=>k _ _ _ (Nx.refl R) V
variable (w:World)(o₀:OsState)
noncomputable def GE (n:Nat)(f:Expr→St→Option (AV × St)):Prop:=
 ∀ ⦃A:Around⦄ ⦃env:Env⦄ ⦃x:Expr⦄ ⦃st st':St⦄ ⦃a:AV⦄,AOk A n→EnvOk env→f x st=some (a,st') →
  ∀ {B ad s} {Q:Value→Shared→Prop} {E:Value→Shared→Prop},Rep w o₀ B env ad st s →
   Kt w o₀ B env ad st st' a Q→wpAny (model Pr w) A (eval x env) Q E s
noncomputable def GT (n:Nat)(f:Expr→St→Option (Bool × St)):Prop:=
 ∀ ⦃A:Around⦄ ⦃env:Env⦄ ⦃x:Expr⦄ ⦃st st':St⦄ ⦃b:Bool⦄,AOk A n→EnvOk env→f x st=some (b,st') →
  ∀ {B ad s} {Q:Bool→Shared→Prop} {E:Value→Shared→Prop},Rep w o₀ B env ad st s →
   (∀ ad' s',Nx w o₀ B env ad st ad' st' s'→Q b s')→wpAny (model Pr w) A (isTrue x env (eval x env)) Q E s
noncomputable def GTs (n:Nat)(f:BoolOp→List Expr→St→Option (Bool × St)):Prop:=
 ∀ ⦃A:Around⦄ ⦃env:Env⦄ ⦃op:BoolOp⦄ ⦃x:List Expr⦄ ⦃st st':St⦄ ⦃b:Bool⦄,AOk A n→EnvOk env→f op x st=some (b,st') →
  ∀ {B ad s} {Q:Bool→Shared→Prop} {E:Value→Shared→Prop},Rep w o₀ B env ad st s →
   (∀ ad' s',Nx w o₀ B env ad st ad' st' s'→Q b s')→wpAny (model Pr w) A (allTrue op x env) Q E s
noncomputable def GEs (n:Nat)(f:List Expr→St→Option (List AV × St)):Prop:=
 ∀ ⦃A:Around⦄ ⦃env:Env⦄ ⦃x:List Expr⦄ ⦃st st':St⦄ ⦃a:List AV⦄ ⦃pos:Pos⦄,AOk A n→EnvOk env→f x st=some (a,st') →
  ∀ {B ad s} {Q:List Value→Shared→Prop} {E:Value→Shared→Prop},Rep w o₀ B env ad st s →
   (∀ ad' v s',Nx w o₀ B env ad st ad' st' s'→All2 (VR st'.μ.length ad' s'.heap) a v→Q v s')→wpAny (model Pr w) A (spliced (backTo pos (starEach x env))) Q E s
noncomputable def GSS (n:Nat)(f:List Stmt→St→Option (AFlow × St)):Prop:=
 ∀ ⦃A:Around⦄ ⦃env:Env⦄ ⦃x:List Stmt⦄ ⦃st st':St⦄ ⦃a:AFlow⦄,AOk A n→EnvOk env→f x st=some (a,st') →
  ∀ {B ad s} {Q:Flow→Shared→Prop} {E:Value→Shared→Prop},Rep w o₀ B env ad st s →
   Ks w o₀ B env ad st st' a Q→wpAny (model Pr w) A (execs x env) Q E s
noncomputable def GS (n:Nat)(f:Stmt→St→Option (AFlow × St)):Prop:=
 ∀ ⦃A:Around⦄ ⦃env:Env⦄ ⦃x:Stmt⦄ ⦃st st':St⦄ ⦃a:AFlow⦄,AOk A n→EnvOk env→f x st=some (a,st') →
  ∀ {B ad s} {Q:Flow→Shared→Prop} {E:Value→Shared→Prop},Rep w o₀ B env ad st s →
   Ks w o₀ B env ad st st' a Q→wpAny (model Pr w) A (exec x env) Q E s
noncomputable def EAt (n:Nat)(f:St→Option (AV × St))(x:Expr):Prop:=
 ∀ ⦃A:Around⦄ ⦃env:Env⦄ ⦃st st':St⦄ ⦃a:AV⦄,AOk A n→EnvOk env→f st=some (a,st') →
  ∀ {B ad s} {Q:Value→Shared→Prop} {E:Value→Shared→Prop},Rep w o₀ B env ad st s →
   Kt w o₀ B env ad st st' a Q→wpAny (model Pr w) A (eval x env) Q E s
noncomputable def TAt (n:Nat)(f:St→Option (Bool × St))(x:Expr):Prop:=
 ∀ ⦃A:Around⦄ ⦃env:Env⦄ ⦃st st':St⦄ ⦃b:Bool⦄,AOk A n→EnvOk env→f st=some (b,st') →
  ∀ {B ad s} {Q:Bool→Shared→Prop} {E:Value→Shared→Prop},Rep w o₀ B env ad st s →
   (∀ ad' s',Nx w o₀ B env ad st ad' st' s'→Q b s')→wpAny (model Pr w) A (isTrue x env (eval x env)) Q E s
noncomputable def SAt (n:Nat)(f:St→Option (AFlow × St))(x:Stmt):Prop:=
 ∀ ⦃A:Around⦄ ⦃env:Env⦄ ⦃st st':St⦄ ⦃a:AFlow⦄,AOk A n→EnvOk env→f st=some (a,st') →
  ∀ {B ad s} {Q:Flow→Shared→Prop} {E:Value→Shared→Prop},Rep w o₀ B env ad st s →
   Ks w o₀ B env ad st st' a Q→wpAny (model Pr w) A (exec x env) Q E s
variable {w o₀}
theorem bindE {α β γ:Type}{x:Option (α × β)}{f:α × β→Option γ}{r:γ}{C:Prop}(h:x.bind f=some r)(k:∀ a b,x=some (a,b)→f (a,b)=some r→C):C:=
 let ⟨(a,b),h1,h2⟩:=Option.bind_eq_some_iff.1 h;k a b h1 h2
theorem bindE1 {α γ:Type}{x:Option α}{f:α→Option γ}{r:γ}{C:Prop}(h:x.bind f=some r)(k:∀ a,x=some a→f a=some r→C):C:=
 let ⟨a,h1,h2⟩:=Option.bind_eq_some_iff.1 h;k a h1 h2
theorem mapE {α β γ:Type}{x:Option (α × β)}{f:α × β→γ}{r:γ}{C:Prop}(h:x.map f=some r)(k:∀ a b,x=some (a,b)→f (a,b)=r→C):C:=
 let ⟨(a,b),h1,h2⟩:=Option.map_eq_some_iff.1 h;k a b h1 h2
theorem mapE1 {α γ:Type}{x:Option α}{f:α→γ}{r:γ}{C:Prop}(h:x.map f=some r)(k:∀ a,x=some a→f a=r→C):C:=
 let ⟨a,h1,h2⟩:=Option.map_eq_some_iff.1 h;k a h1 h2
theorem pairE {α β:Type}{x a:α}{s s':β}{C:α→β→Prop}(h:some (x,s)=some (a,s'))(k:C x s):C a s':=by cases h;exact k
theorem pairE' {α β:Type}{x a:α}{s s':β}{C:α→β→Prop}(h:(x,s)=(a,s'))(k:C x s):C a s':=by cases h;exact k
theorem no_some {α:Type}{a:Option α}{x:α}(h:a=none)(e:a=some x):False:=by rw [h] at e;exact noS e
theorem asI_inv {a:AV}{i:Int}(h:asI a=some i):a=.int i:=by
 induction a using AV.casesOn <;> first | exact noS h | exact congrArg AV.int (Option.some.inj h)
theorem asS_inv {a:AV}{i:List Nat}(h:asS a=some i):a=.str i:=by
 induction a using AV.casesOn <;> first | exact noS h | exact congrArg AV.str (Option.some.inj h)
theorem asR_inv {a:AV}{i:Nat}(h:asR a=some i):a=.ref i:=by
 induction a using AV.casesOn <;> first | exact noS h | exact congrArg AV.ref (Option.some.inj h)
theorem asB_inv {a:AV}{i:Bool}(h:asB a=some i):a=.bool i:=by
 induction a using AV.casesOn <;> first | exact noS h | exact congrArg AV.bool (Option.some.inj h)
theorem asT_inv {a:AV}{i:List AV}(h:asT a=some i):a=.tup i:=by
 induction a using AV.casesOn <;> first | exact noS h | exact congrArg AV.tup (Option.some.inj h)
theorem asL_inv {o:Option AObj}{l:List AV}(h:asL o=some l):∃ q,o=some (.list l q):=by
 rcases o with _ | (⟨l,q⟩ | ⟨l,q,i⟩)
 ·exact noS h
 ·exact ⟨q,congrArg (fun l=>some (AObj.list l q)) (Option.some.inj h)⟩
 ·exact noS h
section
variable {R:AV→Value→Prop}{a:AV}{p:AV × AV}{q:AV × AV × AV}{vs:List AV}{us:List Value}{C:List Value→Prop}
@[elab_as_elim] theorem ln1_al (h:ln1 vs=some a)(al:All2 R vs us)(k:∀ v,R a v→C [v]):C us:=by
 rcases al with _ | ⟨x,_ | ⟨y,al⟩⟩
 ·exact noS h
 ·exact k _ (Option.some.inj h▸x)
 ·exact noS h
@[elab_as_elim] theorem ln2_al (h:ln2 vs=some p)(al:All2 R vs us)(k:∀ u v,R p.1 u→R p.2 v→C [u,v]):C us:=by
 rcases al with _ | ⟨x,al⟩
 ·exact noS h
 ·refine mapE1 h fun b h1 h2=>?_
  subst h2
  exact ln1_al (C:=fun us=>C (_::us)) h1 al fun v y=>k _ _ x y
@[elab_as_elim] theorem ln3_al (h:ln3 vs=some q)(al:All2 R vs us)(k:∀ u v z,R q.1 u→R q.2.1 v→R q.2.2 z→C [u,v,z]):C us:=by
 rcases al with _ | ⟨x,al⟩
 ·exact noS h
 ·refine mapE1 h fun b h1 h2=>?_
  subst h2
  exact ln2_al (C:=fun us=>C (_::us)) h1 al fun v z y y'=>k _ _ _ x y y'
@[elab_as_elim] theorem oneI {i:Int}(h:(ln1 vs).bind asI=some i)(al:All2 R vs us)(k:∀ v,R (.int i) v→C [v]):C us:=
 bindE1 h fun _ h1 h2=>ln1_al h1 al fun v x=>k v (asI_inv h2▸x)
@[elab_as_elim] theorem oneS {i:List Nat}(h:(ln1 vs).bind asS=some i)(al:All2 R vs us)(k:∀ v,R (.str i) v→C [v]):C us:=
 bindE1 h fun _ h1 h2=>ln1_al h1 al fun v x=>k v (asS_inv h2▸x)
@[elab_as_elim] theorem oneR {i:Nat}(h:(ln1 vs).bind asR=some i)(al:All2 R vs us)(k:∀ v,R (.ref i) v→C [v]):C us:=
 bindE1 h fun _ h1 h2=>ln1_al h1 al fun v x=>k v (asR_inv h2▸x)
@[elab_as_elim] theorem oneB {i:Bool}(h:(ln1 vs).bind asB=some i)(al:All2 R vs us)(k:∀ v,R (.bool i) v→C [v]):C us:=
 bindE1 h fun _ h1 h2=>ln1_al h1 al fun v x=>k v (asB_inv h2▸x)
end
theorem iteB {γ:Type}{r:γ}{c:Prop}[Decidable c]{x y:Option γ}{C:Prop}(h:(if c then x else y)=some r)(k:c→x=some r→C)(k':¬c→y=some r→C):C:=by
 by_cases hc:c
 ·rw [if_pos hc] at h;exact k hc h
 ·rw [if_neg hc] at h;exact k' hc h
theorem EAt.no {n:Nat}{f:St→Option (AV × St)}{x:Expr}(h:∀ st,f st=none):EAt w o₀ n f x:=fun _ _ _ _ _ _ _ e=>(no_some (h _) e).elim
theorem TAt.no {n:Nat}{f:St→Option (Bool × St)}{x:Expr}(h:∀ st,f st=none):TAt w o₀ n f x:=fun _ _ _ _ _ _ _ e=>(no_some (h _) e).elim
theorem SAt.no {n:Nat}{f:St→Option (AFlow × St)}{x:Stmt}(h:∀ st,f st=none):SAt w o₀ n f x:=fun _ _ _ _ _ _ _ e=>(no_some (h _) e).elim
section
variable {A:Around}{env:Env}{st st':St}{B:Addr→Obj→Prop}{ad:Nat→Addr}{s:Shared}{E:Value→Shared→Prop}{n:Nat}{r:Rec}
theorem Es_ok (hE:GE w o₀ n r.E)(hEs:GEs w o₀ n r.Es):GEs w o₀ n (stepEs r):=by
 intro A env x st st' a pos hA hN h B ad s Q E R k
 induction x using List.casesOn with
 | nil=>cases h;exact wpAny_items_nil (k ad [] s (.refl R) .nil)
 | cons e es=>
  have go:(r.E e st).bind (fun (v,st)=>(r.Es es st).map fun (vs,st)=>(v::vs,st))=some (a,st')→starEach (e::es) env=(false,eval e env)::starEach es env →
    wpAny (model Pr w) A (spliced (backTo pos (starEach (e::es) env))) Q E s:=by
   intro h hs
   obtain ⟨⟨v,st₁⟩,h1,h2⟩:=Option.bind_eq_some_iff.1 h
   obtain ⟨⟨vs,st₂⟩,h3,h4⟩:=Option.map_eq_some_iff.1 h2
   cases h4
   refine wpAny_items_cons (hE hA hN h1 R fun ad₁ u s₁ N₁ V₁=>hEs hA hN h3 N₁.R.widen fun ad₂ us s₂ N₂ V₂=>k _ _ _ (N₁.seq N₂) (.cons (N₂.keep N₁.R V₁) V₂)) hs
  induction e using Expr.casesOn <;> first
   | exact go h rfl
   | exact noS h
theorem alls_spec {α β:Type}{f:α→β→Option Bool}{l:List α}{m:List β}{c:Bool}(h:alls f l m=some c) :
  l.length=m.length∧∃ e:Nat→Bool,c=(List.range l.length).all e∧∀ j a b,l[j]?=some a→m[j]?=some b→f a b=some (e j):=by
 induction l generalizing m c with
 | nil=>
  induction m using List.casesOn with
  | nil=>obtain rfl:=Option.some.inj h;exact ⟨rfl,fun _=>true,rfl,fun j a b e=>by simp at e⟩
  | cons b m=>exact noS h
 | cons a l ih=>
  induction m using List.casesOn with
  | nil=>exact noS h
  | cons b m=>
   refine bindE1 h fun x h1 h=>?_
   refine mapE1 h fun y h2 h=>?_
   subst h
   obtain ⟨hl,e,hc,he⟩:=ih h2
   refine ⟨by simp [hl],fun j=>match j with | 0=>x | j+1=>e j,?_,?_⟩
   ·rw [List.length_cons,List.range_succ_eq_map,List.all_cons,List.all_map,hc];rfl
   ·intro j a' b' ha hb
    induction j using Nat.casesOn with
    | zero=>simp at ha hb;subst ha hb;exact h1
    | succ j=>simp at ha hb;exact he j a' b' ha hb
open PySem.SeqAt in
theorem eq0_at {n:Nat}{a b:AV}{u v:Value}{c:Bool}(h:eq0 a b=some c)(ha:VR0 n ad a u)(hb:VR0 n ad b v):EqAt A s u v c:=by
 induction a using AV.casesOn with
 | int x=>
  refine mapE1 h fun y h1 h2=>?_
  obtain rfl:=asI_inv h1;subst h2;refine x1_0 ha fun t hq1=>?_;subst hq1;refine x1_0 hb fun t' hq1=>?_;subst hq1;exact EqAt.int_int _ _ _ _
 | str x=>
  refine mapE1 h fun y h1 h2=>?_
  obtain rfl:=asS_inv h1;subst h2;refine x1_0 ha fun t hq1=>?_;subst hq1;refine x1_0 hb fun t' hq1=>?_;subst hq1
  have:((⟨⟨x⟩⟩:Str)==⟨⟨y⟩⟩)=(x==y):=by rw [← str_beq]
  exact this▸EqAt.str_str _ _ _ _
 | _=>exact noS h
theorem eq0_same {n:Nat}{a b:AV}{u:Value}{c:Bool}(h:eq0 a b=some c)(ha:VR0 n ad a u)(hb:VR0 n ad b u):c=true:=by
 induction a using AV.casesOn with
 | int x=>
  refine mapE1 h fun y h1 h2=>?_
  obtain rfl:=asI_inv h1;subst h2;refine x1_0 ha fun t hq1=>?_;subst hq1;refine x1_0 hb fun t' e=>?_;cases e;simp
 | str x=>
  refine mapE1 h fun y h1 h2=>?_
  obtain rfl:=asS_inv h1;subst h2;refine x1_0 ha fun t hq1=>?_;subst hq1;refine x1_0 hb fun t' e=>?_;cases e;simp
 | _=>exact noS h
open PySem.SeqAt in
theorem eq1_at {n:Nat}{a b:AV}{u v:Value}{c:Bool}(hu:A.units+1 < cLine)(h:eq1 a b=some c)(ha:VR n ad s.heap a u)(hb:VR n ad s.heap b v):EqAt A s u v c:=by
 induction a using AV.casesOn with
 | int i=>exact mapE1 h fun y h1 _=>eq0_at (show eq0 (.int i) b=_ from h) ha (show VR0 n ad b v by obtain rfl:=asI_inv h1;exact hb)
 | str i=>exact mapE1 h fun y h1 _=>eq0_at (show eq0 (.str i) b=_ from h) ha (show VR0 n ad b v by obtain rfl:=asS_inv h1;exact hb)
 | tup l=>
  refine bindE1 h fun m h1 h=>?_
  obtain rfl:=asT_inv h1
  refine x2_2 ha fun t vs hq2 it al=>?_;subst hq2
  refine x2_2 hb fun t' ws hq2 it' al'=>?_;subst hq2
  obtain ⟨hl,e,hc,he⟩:=alls_spec h
  have hvw:vs.length=ws.length:=by rw [← al.length,← al'.length,hl]
  by_cases ht:t=t'
  ·subst ht
   have:c=true:=by
    rw [hc,List.all_eq_true]
    intro j hj
    have hj':j < l.length:=by simpa using hj
    obtain ⟨o,eo,_,k,d⟩:=it
    obtain ⟨o',eo',_,k',d'⟩:=it'
    rw [eo] at eo';cases eo';rw [d] at d';cases d'
    refine x1_1 (al.get (i:=j) (a:=l[j]) (by simp [hj'])) fun x hx rx=>?_
    refine x1_1 (al'.get (i:=j) (a:=m[j]) (by simp [hl▸hj'])) fun y hy ry=>?_
    rw [hx] at hy;cases hy
    exact eq0_same (he j _ _ (by simp [hj']) (by simp [hl▸hj'])) rx ry
   rw [this];exact EqAt.same _
  ·refine EqAt.of_refs ht ?_
   have:=RcAt.tuples (e:=e) it it' (Nat.lt_of_succ_lt hu) (fun j h1 h2=>?_)
   ·have e2:c=((List.range (min (⟨vs⟩:Array Value).size (⟨ws⟩:Array Value).size)).all e&&(⟨vs⟩:Array Value).size==(⟨ws⟩:Array Value).size):=by
     simp only [Array.size];rw [hc,← hvw,Nat.min_self,al.length];simp
    rw [e2];exact this
   ·have hj:j < l.length:=by rw [al.length];exact h1
    refine x1_1 (al.get (i:=j) (a:=l[j]) (by simp [hj])) fun x hx rx=>?_
    refine x1_1 (al'.get (i:=j) (a:=m[j]) (by simp [hl▸hj])) fun y hy ry=>?_
    have hx':(⟨vs⟩:Array Value)[j]=x:=by
     have:vs[j]?=some vs[j]:=by simp
     rw [hx] at this;obtain rfl:=Option.some.inj this;rfl
    have hy':(⟨ws⟩:Array Value)[j]=y:=by
     have:ws[j]?=some ws[j]:=by simp
     rw [hy] at this;obtain rfl:=Option.some.inj this;rfl
    rw [hx',hy']
    exact eq0_at (he j _ _ (by simp [hj]) (by simp [hl▸hj])) rx ry
 | _=>exact noS h
end
set_option tactic.hygienic false
noncomputable def setOk (o:Obj)(S:List Int):Bool:=
 match o.data with
 | .set es ep t=>es.toList.all (fun e=>match e.2 with | .int i _=>e.1==hashInt i&&e.2.scannable&&S.contains i | _=>false) &&
   S.all (fun i=>es.toList.any fun e=>Value.isInt i e.2)&&decide (es.size < scanBound)&&t.fits es.size&&(match o.cls,o.dict,o.slots.toList with | .type c,none,[]=>c=="set" | _,_,_=>false)
 | _=>false
set_option tactic.hygienic true in
theorem setOk_of {w:World}{h:Heap}{a:Addr}{o:Obj}{S:List Int}(e:h.get? a=some o)(k:setOk o S=true):∃ n,h.SetOf (intKind Pr w) a (fun i=>S.any (·==i)) n:=by
 unfold setOk at k
 split at k
 next es ep t d=>
  simp only [Bool.and_eq_true,List.all_eq_true,List.any_eq_true,decide_eq_true_eq] at k
  obtain ⟨⟨⟨⟨k1,k2⟩,k3⟩,k4⟩,k5⟩:=k
  refine ⟨es.size,o,es,ep,t,e,?_,d,?_,?_,k3,k4,rfl⟩
  ·split at k5
   next c h1 h2 h3=>
    rw [beq_iff_eq] at k5;subst k5
    exact ⟨h1,h2,Array.ext' h3⟩
   next=>exact ftC k5
  ·intro x hx
   have:=k1 x hx
   split at this
   next i t' hv=>
    simp only [Bool.and_eq_true,beq_iff_eq] at this
    refine ⟨⟨i,?_,this.1.1⟩,this.1.2⟩
    rw [hv];simp [intKind,Value.isInt]
   next=>exact ftC this
  ·intro i
   constructor
   ·intro hi
    refine x1_1 (List.any_eq_true.1 hi) fun x hx hxi=>?_
    rw [beq_iff_eq] at hxi;subst hxi
    refine x1_1 (k2 x hx) fun y hy hyi=>?_
    exact ⟨y,hy,hyi⟩
   ·rintro ⟨y,hy,hyi⟩
    have:=k1 y hy
    split at this
    next j t' hv=>
     simp only [Bool.and_eq_true,List.contains_iff_mem] at this
     refine List.any_eq_true.2 ⟨j,this.2,?_⟩
     have hyi:Value.isInt i y.2=true:=hyi
     rw [hv] at hyi
     simpa [Value.isInt] using hyi
    next=>exact ftC this
 next=>exact ftC k
theorem b1_ok (P:Params):(match (Hf P).get? 133 with | some o=>setOk o b1L | none=>false)=true:=by kernel_rfl!
set_option hygiene false
local macro_rules | `(tactic| kt_eqs) => `(tactic| first | (revert k; refine pairE h ?_; intro k) | (revert k; refine pairE' h ?_; intro k) | exact noS h | (revert k; refine someE h ?_; intro k) | cases h)
set_option hygiene true
set_option tactic.hygienic false
section
variable {w:World}{o₀:OsState}{A:Around}{env:Env}{st st':St}{B:Addr→Obj→Prop}{ad:Nat→Addr}{s:Shared}{E:Value→Shared→Prop}{n:Nat}{r:Rec}
theorem log2_le {n:Nat}(h:n≤topK):n.log2≤20:=by
 rcases Nat.eq_zero_or_pos n with h0 | hp
 ·subst h0;decide
 ·have:n < 2 ^ 21:=by simp only [topK] at h;kt_len
  have:=(Nat.log2_lt (Nat.ne_of_gt hp)).mpr this
  kt_len
theorem intBits_le {a:Int}(h:small a=true):Builtin.Int.intBits a≤21:=by
 have h:=of_decide_eq_true h
 have:=log2_le h
 unfold Builtin.Int.intBits
 split <;> kt_len
theorem intsOf_are {m:Nat}{l:List AV}{vs:List Value}{ns:List Int}(h:intsOf l=some ns)(al:All2 (VR0 m ad) l vs):IntsAre vs ns:=by
 induction al generalizing ns with
 | nil=>refine someE h ?_;exact .nil
 | @cons a v l vs x y ih=>
  induction a using AV.casesOn with
  | int i=>
   refine x1_0 x fun t hq1=>?_;subst hq1
   refine mapE1 h fun ms e1 e2=>?_
   subst e2
   exact .cons _ _ (ih e1)
  | _=>exact noS h
theorem bool_same (a b:Bool):(Value.bool a==Value.bool b)=(a==b):=by cases a <;> induction b using Bool.casesOn <;> rfl
theorem pylong_not {a b:Int}(h:small b=true):Builtin.divisionGoesByPylong a b=false:=by
 have h:=log2_le (of_decide_eq_true h)
 unfold Builtin.divisionGoesByPylong
 simp only [Bool.and_eq_false_iff,decide_eq_false_iff_not]
 refine .inl ?_
 split <;> kt_len
theorem lin_div {m q r b:Int}(h1:0 < b)(h2:m % b=0):(m*q+r).fdiv b=m / b*q+r.fdiv b:=by
 rw [Int.fdiv_eq_ediv_of_nonneg _ (by kt_len),Int.fdiv_eq_ediv_of_nonneg _ (by kt_len)]
 have e:m=b*(m / b):=by have:=Int.mul_ediv_add_emod m b;kt_len
 rw [show m*q+r=r+b*(m / b*q) by rw [← Int.mul_assoc,← e];kt_len,Int.add_mul_ediv_left _ _ (by kt_len)]
 kt_len
theorem lin_mod {m q r b:Int}(h1:0 < b)(h2:m % b=0):(m*q+r).fmod b=r.fmod b:=by
 rw [Int.fmod_eq_emod_of_nonneg _ (by kt_len),Int.fmod_eq_emod_of_nonneg _ (by kt_len)]
 have e:m=b*(m / b):=by have:=Int.mul_ediv_add_emod m b;kt_len
 rw [show m*q+r=r+b*(m / b*q) by rw [← Int.mul_assoc,← e];kt_len,Int.add_mul_emod_self_left]
theorem mul_fit {l:List Nat}{n:Int}(h1:l.length≤1000)(h3:n≤1000)(g1:¬ n < 1)(g3:((⟨⟨l⟩⟩:Str).length:Int) > (2 ^ 63 - 1) / n):False:=by
 have:(1000:Int)≤(2 ^ 63 - 1) / n:=Int.le_ediv_of_mul_le (by kt_len) (by kt_len)
 simp only [Str.length,Array.size] at g3
 kt_len
noncomputable def BinAt (w:World)(A:Around)(E:Value→Shared→Prop)(s:Shared)(m:Nat)(ad:Nat→Addr)(op:Operator)(a b:AV):Prop:=
 ∀ ⦃c:AV⦄ ⦃u v:Value⦄ ⦃Q:Value→Shared→Prop⦄,binA op a b=some c→VR m ad s.heap a u→VR m ad s.heap b v→(∀ v' tk,VR m ad s.heap c v'→Q v' {s with toks:=tk})→wpAny (model Pr w) A (binaryOp op u v) Q E s
theorem BinAt.no {m:Nat}{op:Operator}{a b:AV}(h:binA op a b=none):BinAt w A E s m ad op a b:=fun _ _ _ _ e=>(no_some h e).elim
theorem bin0 {m:Nat}{x y:Int}:BinAt w A E s m ad (.Add) (.int x) (.int y):=by
 intro c u v Q h ha hb k
 refine x1_0 ha fun t hq1=>?_;subst hq1;refine x1_0 hb fun t' hq1=>?_;subst hq1;cases h
 exact add_int (k _ _ ⟨_,rfl⟩)
theorem bin9 {m:Nat}{x y:List Nat}:BinAt w A E s m ad (.Add) (.str x) (.str y):=by
 intro c u v Q h ha hb k
 delta binA at h
 dsimp only at h
 refine x1_0 ha fun t hq1=>?_;subst hq1;refine x1_0 hb fun t' hq1=>?_;subst hq1
 refine iteE h fun hs h=>?_
 kt_eqs
 rw [Bool.and_eq_true] at hs
 refine add_str (fun t' tk=>k _ _ ⟨t',?_⟩) ?_
 ·exact congrArg (fun z=>Value.str ⟨z⟩ t') (by simp)
 ·have h1:=of_decide_eq_true hs.1
  have h2:=of_decide_eq_true hs.2
  simp only [Str.length,topK,sizeLine_eq] at *
  simp;kt_len
theorem bin1 {m:Nat}{x y:Int}:BinAt w A E s m ad (.Sub) (.int x) (.int y):=by
 intro c u v Q h ha hb k
 refine x1_0 ha fun t hq1=>?_;subst hq1;refine x1_0 hb fun t' hq1=>?_;subst hq1;cases h
 exact sub_int (k _ _ ⟨_,rfl⟩)
theorem bin2 {m:Nat}{x y:Bool}:BinAt w A E s m ad (.Sub) (.bool x) (.bool y):=by
 intro c u v Q h ha hb k
 cases ha;cases hb;kt_eqs
 exact sub_bool (k _ _ ⟨_,rfl⟩)
theorem bin3 {m:Nat}{x y:Int}:BinAt w A E s m ad (.Mult) (.int x) (.int y):=by
 intro c u v Q h ha hb k
 delta binA at h
 dsimp only at h
 refine x1_0 ha fun t hq1=>?_;subst hq1;refine x1_0 hb fun t' hq1=>?_;subst hq1
 refine iteE h fun hs h=>?_
 kt_eqs
 rw [Bool.and_eq_true] at hs
 refine mul_int (k _ _ ⟨_,rfl⟩) ?_
 have h1:=intBits_le hs.1
 unfold IntMulOk
 have h2:shortFactorBits=64:=rfl
 rw [h2]
 simp;kt_len
theorem bin10 {m:Nat}{x:List Nat}{y:Int}:BinAt w A E s m ad (.Mult) (.str x) (.int y):=by
 intro c u v Q h ha hb k
 delta binA at h
 dsimp only at h
 refine x1_0 ha fun t hq1=>?_;subst hq1;refine x1_0 hb fun t' hq1=>?_;subst hq1
 refine iteE h fun hs h=>?_
 kt_eqs
 rw [Bool.and_eq_true,Bool.and_eq_true] at hs
 obtain ⟨⟨h1,h2⟩,h3⟩:=hs
 have h1:=of_decide_eq_true h1;have h2:=of_decide_eq_true h2;have h3:=of_decide_eq_true h3
 refine SB.mul ⟨?_,?_,?_⟩ fun t' tk=>k _ _ ⟨t',rfl⟩
 ·simp;kt_len
 ·intro g1 _ g3
  exact mul_fit h1 h3 g1 g3
 ·intro _ _
  simp only [Builtin.Str.tooLong,Str.length,Array.size,sizeLine_eq,decide_eq_false_iff_not,Nat.not_lt]
  exact Nat.le_trans (Nat.mul_le_mul h1 (by kt_len:_≤1000)) (by decide)
theorem bin4 {m:Nat}{x y:Int}:BinAt w A E s m ad (.FloorDiv) (.int x) (.int y):=by
 intro c u v Q h ha hb k
 delta binA at h
 dsimp only at h
 refine x1_0 ha fun t hq1=>?_;subst hq1;refine x1_0 hb fun t' hq1=>?_;subst hq1
 refine iteE h fun hs h=>?_
 kt_eqs
 rw [Bool.and_eq_true] at hs
 exact floordiv_int (by simpa using hs.1) (k _ _ ⟨_,rfl⟩) (.inl (pylong_not hs.2))
theorem bin6 {m:Nat}{p q x y:Int}:BinAt w A E s m ad (.FloorDiv) (.lin p q x) (.int y):=by
 intro c u v Q h ha hb k
 delta binA at h
 dsimp only at h
 refine x1_0 ha fun t hq1=>?_;subst hq1;refine x1_0 hb fun t' hq1=>?_;subst hq1
 refine iteE h fun hs h=>?_
 kt_eqs
 refine x0_2 hs fun h1 h2 h3=>?_
 exact floordiv_int (by kt_len) (k _ _ ⟨s.toks,by rw [lin_div h1 h2]⟩) (.inl (pylong_not h3))
theorem bin5 {m:Nat}{x y:Int}:BinAt w A E s m ad (.Mod) (.int x) (.int y):=by
 intro c u v Q h ha hb k
 delta binA at h
 dsimp only at h
 refine x1_0 ha fun t hq1=>?_;subst hq1;refine x1_0 hb fun t' hq1=>?_;subst hq1
 refine iteE h fun hs h=>?_
 kt_eqs
 exact mod_int' (by simpa using hs) (k _ _ ⟨_,rfl⟩)
theorem bin7 {m:Nat}{p q x y:Int}:BinAt w A E s m ad (.Mod) (.lin p q x) (.int y):=by
 intro c u v Q h ha hb k
 delta binA at h
 dsimp only at h
 refine x1_0 ha fun t hq1=>?_;subst hq1;refine x1_0 hb fun t' hq1=>?_;subst hq1
 refine iteE h fun hs h=>?_
 kt_eqs
 refine x0_1 hs fun h1 h2=>?_
 exact mod_int' (by kt_len) (k _ _ ⟨s.toks,by rw [lin_mod h1 h2]⟩)
theorem bin8 {m:Nat}{x y:Int}:BinAt w A E s m ad (.Pow) (.int x) (.int y):=by
 intro c u v Q h ha hb k
 delta binA at h
 dsimp only at h
 refine x1_0 ha fun t hq1=>?_;subst hq1;refine x1_0 hb fun t' hq1=>?_;subst hq1
 refine iteE h fun hs h=>?_
 kt_eqs
 rw [Bool.and_eq_true,Bool.and_eq_true] at hs
 have h1:=intBits_le hs.1.1
 have h2:=of_decide_eq_true hs.1.2
 have h3:=of_decide_eq_true hs.2
 refine pow_int h2 ?_ (k _ _ ⟨_,rfl⟩)
 have h4:(Builtin.Int.intBits _:Int)*_≤21*64:=Int.mul_le_mul (Int.ofNat_le.2 h1) h3 h2 (by decide)
 exact Int.le_trans h4 (by decide)
theorem bin_all {m:Nat}:∀ op a b,BinAt w A E s m ad op a b:=by
 intro op a b
 induction op using Operator.casesOn with
 | Add=>
  induction a using AV.casesOn with
  | int x=>
   induction b using AV.casesOn with
   | int y=>exact bin0
   | _=>exact BinAt.no rfl
  | str x=>
   induction b using AV.casesOn with
   | str y=>exact bin9
   | _=>exact BinAt.no rfl
  | _=>exact BinAt.no rfl
 | Sub=>
  induction a using AV.casesOn with
  | int x=>
   induction b using AV.casesOn with
   | int y=>exact bin1
   | _=>exact BinAt.no rfl
  | bool x=>
   induction b using AV.casesOn with
   | bool y=>exact bin2
   | _=>exact BinAt.no rfl
  | _=>exact BinAt.no rfl
 | Mult=>
  induction a using AV.casesOn with
  | int x=>
   induction b using AV.casesOn with
   | int y=>exact bin3
   | _=>exact BinAt.no rfl
  | str x=>
   induction b using AV.casesOn with
   | int y=>exact bin10
   | _=>exact BinAt.no rfl
  | _=>exact BinAt.no rfl
 | FloorDiv=>
  induction a using AV.casesOn with
  | int x=>
   induction b using AV.casesOn with
   | int y=>exact bin4
   | _=>exact BinAt.no rfl
  | lin p q x=>
   induction b using AV.casesOn with
   | int y=>exact bin6
   | _=>exact BinAt.no rfl
  | _=>exact BinAt.no rfl
 | Mod=>
  induction a using AV.casesOn with
  | int x=>
   induction b using AV.casesOn with
   | int y=>exact bin5
   | _=>exact BinAt.no rfl
  | lin p q x=>
   induction b using AV.casesOn with
   | int y=>exact bin7
   | _=>exact BinAt.no rfl
  | _=>exact BinAt.no rfl
 | Pow=>
  induction a using AV.casesOn with
  | int x=>
   induction b using AV.casesOn with
   | int y=>exact bin8
   | _=>exact BinAt.no rfl
  | _=>exact BinAt.no rfl
 | _=>exact BinAt.no rfl
theorem bin_ok {m:Nat}{op:Operator}{a b c:AV}{u v:Value}{Q:Value→Shared→Prop}(h:binA op a b=some c)(ha:VR m ad s.heap a u)(hb:VR m ad s.heap b v)
  (k:∀ v' tk,VR m ad s.heap c v'→Q v' {s with toks:=tk}):wpAny (model Pr w) A (binaryOp op u v) Q E s:=bin_all op a b h ha hb k
theorem truth_ok {m:Nat}{a:AV}{b:Bool}{v:Value}{μ:Mu}{Q:Bool→Shared→Prop}(h:truA μ a=some b)(ha:VR m ad s.heap a v)
  (k:∀ tk,Q b {s with toks:=tk}):wpAny (model Pr w) A (truthy v) Q E s:=by
 induction a using AV.casesOn with
 | bool x=>cases ha;obtain rfl:=Option.some.inj h;exact wpAny_truthy_bool (k s.toks)
 | int x=>refine x1_0 ha fun t hq1=>?_;subst hq1;cases h;exact truthy_int (by have:=k s.toks;simpa [bne] using this)
 | str l=>
  refine x1_0 ha fun t hq1=>?_;subst hq1
  refine iteE h fun hs h=>?_
  cases h
  have h1:=of_decide_eq_true hs
  refine P.truthy_str ?_ ?_
  ·simp only [Str.length,topK,Array.size] at *;kt_len
  ·have:=k (s.toks+1+1)
   have e:(((⟨⟨l⟩⟩:Str).length:Int) != 0)=!(l==[]):=by
    induction l using List.casesOn <;> simp [Str.length,bne];kt_len
   rw [e];exact this
 | none=>cases ha;obtain rfl:=Option.some.inj h;exact truthy_none (k s.toks)
 | _=>exact noS h
theorem str_beq' (x y:List Nat):((⟨⟨x⟩⟩:Str)==⟨⟨y⟩⟩)=(x==y):=by rw [← SeqAt.str_beq]
open PySem.SeqAt in
theorem eqs_at {m:Nat}{l l':List AV}{vs ws:List Value}{e:Nat→Bool}(hA:A.units+2 < cLine)(l1:l.length=l'.length)(he:∀ j a b,l[j]?=some a→l'[j]?=some b→eq1 a b=some (e j))
  (al:All2 (VR m ad s.heap) l vs) (al':All2 (VR m ad s.heap) l' ws) :
  ∀ j (h1:j < (⟨vs⟩:Array Value).size) (h2:j < (⟨ws⟩:Array Value).size),EqAt A.in1 s (⟨vs⟩:Array Value)[j] (⟨ws⟩:Array Value)[j] (e j):=by
 intro j h1 h2
 have hj:j < l.length:=by rw [al.length];exact h1
 refine x1_1 (al.get (i:=j) (a:=l[j]) (by simp [hj])) fun x hx rx=>?_
 refine x1_1 (al'.get (i:=j) (a:=l'[j]) (by simp [l1▸hj])) fun y hy ry=>?_
 have hx':(⟨vs⟩:Array Value)[j]=x:=by
  have:vs[j]?=some vs[j]:=by simp
  cases someI hx this;rfl
 have hy':(⟨ws⟩:Array Value)[j]=y:=by
  have:ws[j]?=some ws[j]:=by simp
  cases someI hy this;rfl
 rw [hx',hy']
 exact eq1_at (A:=A.in1) (by show A.units+1+1 < cLine;kt_len) (he j _ _ (by simp [hj]) (by simp [l1▸hj])) rx ry
noncomputable def CmpAt (w:World)(o₀:OsState)(A:Around)(E:Value→Shared→Prop)(B:Addr→Obj→Prop)(env:Env)(ad:Nat→Addr)(st:St)(s:Shared)(op:CmpOp)(a b:AV):Prop:=
 ∀ ⦃c:AV⦄ ⦃u v:Value⦄ ⦃Q:Value→Shared→Prop⦄,Rep w o₀ B env ad st s→A.units+2 < cLine→cmpA st.μ op a b=some c→VR st.μ.length ad s.heap a u→VR st.μ.length ad s.heap b v→(∀ v' tk,VR st.μ.length ad s.heap c v'→Q v' {s with toks:=tk})→wpAny (model Pr w) A (compareOp op u v) Q E s
theorem CmpAt.no {op:CmpOp}{a b:AV}(h:cmpA st.μ op a b=none):CmpAt w o₀ A E B env ad st s op a b:=fun _ _ _ _ _ _ e=>(no_some h e).elim
@[elab_as_elim] theorem eqV_el {μ:Mu}{a b:AV}{x:Bool}{C:AV→AV→Bool→Prop}(h:eqV μ a b=some x)(k1:∀ i j,C (.int i) (.int j) (i==j))(k2:∀ i j,C (.str i) (.str j) (i==j))
  (k3:∀ i j la ka lb kb,μ[i]?=some (.list la ka)→μ[j]?=some (.list lb kb)→(if la.length==lb.length then alls eq1 la lb else some false)=some x→C (.ref i) (.ref j) x):C a b x:=by
 induction a using AV.casesOn with
 | int i=>
  refine mapE1 h fun y h1 h2=>?_
  obtain rfl:=asI_inv h1;subst h2;exact k1 _ _
 | str i=>
  refine mapE1 h fun y h1 h2=>?_
  obtain rfl:=asS_inv h1;subst h2;exact k2 _ _
 | ref i=>
  refine bindE1 h fun j h1 h=>?_
  obtain rfl:=asR_inv h1
  refine iteN h fun _ h=>?_
  refine bindE1 h fun la h2 h=>?_
  refine bindE1 h fun lb h3 h=>?_
  refine x1_0 (asL_inv h2) fun ka h2=>?_
  refine x1_0 (asL_inv h3) fun kb h3=>?_
  exact k3 _ _ _ _ _ _ h2 h3 h
 | _=>exact noS h
open PySem.SeqAt in
theorem cmp0 {a b:AV}:CmpAt w o₀ A E B env ad st s (.Eq) (a) (b):=by
 intro c u v Q R hA h
 refine mapE1 h fun x hx h=>?_
 subst h
 refine eqV_el hx ?_ ?_ ?_
 ·intro i j ha hb k;refine x1_0 ha fun t hq1=>?_;subst hq1;refine x1_0 hb fun t' hq1=>?_;subst hq1;exact eq_int (k _ s.toks rfl)
 ·intro i j ha hb k;refine x1_0 ha fun t hq1=>?_;subst hq1;refine x1_0 hb fun t' hq1=>?_;subst hq1;refine eq_str ?_;rw [str_beq'];exact k _ s.toks rfl
 ·intro i j la ka lb kb ea eb hx ha hb k;refine x0_1 ha fun h1 hq1=>?_;subst hq1;refine x0_1 hb fun h2 hq1=>?_;subst hq1
  refine x1_2 (R.mem _ _ ea) fun vs p al _=>?_
  refine x1_2 (R.mem _ _ eb) fun ws p' al' _=>?_
  refine iteB hx (fun hl hx=>?_) fun hl hx=>?_
  ·obtain ⟨l1,e,hc,he⟩:=alls_spec hx
   refine eq_listAt (e:=e) p.isList p'.isList (by simp [Array.size,← al.length,← al'.length,l1]) (Nat.lt_of_succ_lt (Nat.lt_of_succ_lt hA)) (eqs_at hA l1 he al al') ?_
   have e2:(List.range (⟨vs⟩:Array Value).size).all e=x:=by rw [hc,al.length];rfl
   rw [e2];exact k _ s.toks rfl
  ·obtain rfl:=Option.some.inj hx
   refine eq_list_lengthsAt p.isList p'.isList ?_ (Nat.lt_of_succ_lt (Nat.lt_of_succ_lt hA)) (k _ s.toks rfl)
   simp only [Array.size,← al.length,← al'.length,bne]
   exact congrArg not (Bool.eq_false_iff.2 hl)
open PySem.SeqAt in
theorem cmp1 {a b:AV}:CmpAt w o₀ A E B env ad st s (.NotEq) (a) (b):=by
 intro c u v Q R hA h
 refine mapE1 h fun x hx h=>?_
 subst h
 refine eqV_el hx ?_ ?_ ?_
 ·intro i j ha hb k;refine x1_0 ha fun t hq1=>?_;subst hq1;refine x1_0 hb fun t' hq1=>?_;subst hq1;exact ne_int (k _ s.toks rfl)
 ·intro i j ha hb k;refine x1_0 ha fun t hq1=>?_;subst hq1;refine x1_0 hb fun t' hq1=>?_;subst hq1;refine ne_str ?_;simp only [bne];rw [str_beq'];exact k _ s.toks rfl
 ·intro i j la ka lb kb ea eb hx ha hb k;refine x0_1 ha fun h1 hq1=>?_;subst hq1;refine x0_1 hb fun h2 hq1=>?_;subst hq1
  refine x1_2 (R.mem _ _ ea) fun vs p al _=>?_
  refine x1_2 (R.mem _ _ eb) fun ws p' al' _=>?_
  refine iteB hx (fun hl hx=>?_) fun hl hx=>?_
  ·obtain ⟨l1,e,hc,he⟩:=alls_spec hx
   refine RcNeAt.lists (e:=e) p.isList p'.isList (by simp [Array.size,← al.length,← al'.length,l1]) (Nat.lt_of_succ_lt (Nat.lt_of_succ_lt hA)) (eqs_at hA l1 he al al') _ _ _ _ ?_
   have e2:(List.range (⟨vs⟩:Array Value).size).all e=x:=by rw [hc,al.length];rfl
   rw [e2];exact k _ s.toks rfl
  ·obtain rfl:=Option.some.inj hx
   refine RcNeAt.lists_lengths p.isList p'.isList ?_ (Nat.lt_of_succ_lt (Nat.lt_of_succ_lt hA)) _ _ _ _ (k _ s.toks rfl)
   simp only [Array.size,← al.length,← al'.length,bne]
   exact congrArg not (Bool.eq_false_iff.2 hl)
open PySem.SeqAt in
theorem cmp2 {x y:Int}:CmpAt w o₀ A E B env ad st s (.Lt) (.int x) (.int y):=by
 intro c u v Q R hA h ha hb k
 refine x1_0 ha fun t hq1=>?_;subst hq1;refine x1_0 hb fun t' hq1=>?_;subst hq1;cases h;exact lt_int (k _ s.toks rfl)
open PySem.SeqAt in
theorem cmp5 {x y:List Nat}:CmpAt w o₀ A E B env ad st s (.Lt) (.str x) (.str y):=by
 intro c u v Q R hA h ha hb k
 refine x1_0 ha fun t hq1=>?_;subst hq1;refine x1_0 hb fun t' hq1=>?_;subst hq1;cases h;exact lt_str (k _ s.toks rfl)
open PySem.SeqAt in
theorem cmp3 {x y:Int}:CmpAt w o₀ A E B env ad st s (.Gt) (.int x) (.int y):=by
 intro c u v Q R hA h ha hb k
 refine x1_0 ha fun t hq1=>?_;subst hq1;refine x1_0 hb fun t' hq1=>?_;subst hq1;cases h;exact gt_int (k _ s.toks rfl)
open PySem.SeqAt in
theorem cmp6 {x y:List Nat}:CmpAt w o₀ A E B env ad st s (.Gt) (.str x) (.str y):=by
 intro c u v Q R hA h ha hb k
 refine x1_0 ha fun t hq1=>?_;subst hq1;refine x1_0 hb fun t' hq1=>?_;subst hq1;cases h;exact P.gt_str (k _ s.toks rfl)
open PySem.SeqAt in
theorem cmp4 {x y:Int}:CmpAt w o₀ A E B env ad st s (.GtE) (.int x) (.int y):=by
 intro c u v Q R hA h ha hb k
 refine x1_0 ha fun t hq1=>?_;subst hq1;refine x1_0 hb fun t' hq1=>?_;subst hq1;cases h;exact ge_int (k _ s.toks rfl)
open PySem.SeqAt in
theorem cmp7 {x y:Bool}:CmpAt w o₀ A E B env ad st s (.Is) (.bool x) (.bool y):=by
 intro c u v Q R hA h ha hb k
 cases ha;cases hb;kt_eqs;exact is_bool (k _ s.toks rfl)
open PySem.SeqAt in
theorem cmp8 {x y:Bool}:CmpAt w o₀ A E B env ad st s (.IsNot) (.bool x) (.bool y):=by
 intro c u v Q R hA h ha hb k
 cases ha;cases hb;kt_eqs;exact wpAny_isNot_plain rfl (by rw [bool_same];exact k _ s.toks rfl)
open PySem.SeqAt in
theorem cmp9 {x:List Nat}:CmpAt w o₀ A E B env ad st s (.IsNot) (.str x) (.none):=by
 intro c u v Q R hA h ha hb k
 refine x1_0 ha fun t hq1=>?_;subst hq1;cases hb;cases h;exact isNot_none (k _ s.toks rfl)
open PySem.SeqAt in
theorem cmp10 :CmpAt w o₀ A E B env ad st s (.IsNot) (.none) (.none):=by
 intro c u v Q R hA h ha hb k
 cases ha;cases hb;kt_eqs;exact isNot_none (k _ s.toks rfl)
open PySem.SeqAt in
theorem cmp11 {x y:List Nat}:CmpAt w o₀ A E B env ad st s (.NotIn) (.str x) (.str y):=by
 intro c u v Q R hA h ha hb k
 refine x1_0 ha fun t hq1=>?_;subst hq1;refine x1_0 hb fun t' hq1=>?_;subst hq1;cases h;exact notIn_str (k _ s.toks rfl)
set_option tactic.hygienic true in
open PySem.SeqAt in
theorem cmp12 {x:Int}{kk:Nat}:CmpAt w o₀ A E B env ad st s (.In) (.int x) (.tb kk):=by
 intro c u v Q R hA h ha hb k
 delta cmpA at h
 dsimp only at h
 refine x1_0 ha fun t hq1=>?_;subst hq1
 refine iteE h fun hk h=>?_
 kt_eqs
 rw [beq_iff_eq] at hk
 subst hk
 rcases hb with ⟨_,rfl⟩ | ⟨h3,_⟩
 ·have b1:=b1_ok w.params
  split at b1
  next o eo=>
   have e1:s.heap.get? 133=some o:=R.kept _ _ (R.top _ _ eo (by decide) (by decide))
   refine x1_0 (setOk_of (w:=w) e1 b1) fun n hS=>?_
   exact wpAny_inSet_of (knd:=intKind Pr w) (by simp [intKind,Value.isInt]) rfl hS (k _ _ rfl)
  next=>exact ftC b1
 ·cases h3
open PySem.SeqAt in
theorem cmp13 {x:Int}{l:List AV}:CmpAt w o₀ A E B env ad st s (.In) (.int x) (.tup l):=by
 intro c u v Q R hA h ha hb k
 refine x1_0 ha fun t hq1=>?_;subst hq1
 refine x2_2 hb fun t' vs hq2 it al=>?_;subst hq2
 refine x1_1 (Option.map_eq_some_iff.1 h) fun ns e1 hq2=>?_;subst hq2
 exact in_tuple_ints (ns:=ns) it (intsOf_are e1 al) (k _ s.toks rfl)
theorem cmp_all:∀ op a b,CmpAt w o₀ A E B env ad st s op a b:=by
 intro op a b
 induction op using CmpOp.casesOn with
 | Eq=>exact cmp0
 | NotEq=>exact cmp1
 | Lt=>
  induction a using AV.casesOn with
  | int x=>
   induction b using AV.casesOn with
   | int y=>exact cmp2
   | _=>exact CmpAt.no rfl
  | str x=>
   induction b using AV.casesOn with
   | str y=>exact cmp5
   | _=>exact CmpAt.no rfl
  | _=>exact CmpAt.no rfl
 | Gt=>
  induction a using AV.casesOn with
  | int x=>
   induction b using AV.casesOn with
   | int y=>exact cmp3
   | _=>exact CmpAt.no rfl
  | str x=>
   induction b using AV.casesOn with
   | str y=>exact cmp6
   | _=>exact CmpAt.no rfl
  | _=>exact CmpAt.no rfl
 | GtE=>
  induction a using AV.casesOn with
  | int x=>
   induction b using AV.casesOn with
   | int y=>exact cmp4
   | _=>exact CmpAt.no rfl
  | _=>exact CmpAt.no rfl
 | Is=>
  induction a using AV.casesOn with
  | bool x=>
   induction b using AV.casesOn with
   | bool y=>exact cmp7
   | _=>exact CmpAt.no rfl
  | _=>exact CmpAt.no rfl
 | IsNot=>
  induction a using AV.casesOn with
  | bool x=>
   induction b using AV.casesOn with
   | bool y=>exact cmp8
   | _=>exact CmpAt.no rfl
  | str x=>
   induction b using AV.casesOn with
   | none=>exact cmp9
   | _=>exact CmpAt.no rfl
  | none=>
   induction b using AV.casesOn with
   | none=>exact cmp10
   | _=>exact CmpAt.no rfl
  | _=>exact CmpAt.no rfl
 | NotIn=>
  induction a using AV.casesOn with
  | str x=>
   induction b using AV.casesOn with
   | str y=>exact cmp11
   | _=>exact CmpAt.no rfl
  | _=>exact CmpAt.no rfl
 | In=>
  induction a using AV.casesOn with
  | int x=>
   induction b using AV.casesOn with
   | tb kk=>exact cmp12
   | tup l=>exact cmp13
   | _=>exact CmpAt.no rfl
  | _=>exact CmpAt.no rfl
 | _=>exact CmpAt.no rfl
theorem cmp_ok {op:CmpOp}{a b c:AV}{u v:Value}{Q:Value→Shared→Prop}(R:Rep w o₀ B env ad st s)(hA:A.units+2 < cLine)(h:cmpA st.μ op a b=some c)(ha:VR st.μ.length ad s.heap a u)(hb:VR st.μ.length ad s.heap b v)
  (k:∀ v' tk,VR st.μ.length ad s.heap c v'→Q v' {s with toks:=tk}):wpAny (model Pr w) A (compareOp op u v) Q E s:=cmp_all op a b R hA h ha hb k
end
set_option tactic.hygienic false
section
variable {w:World}{o₀:OsState}{A:Around}{env:Env}{st st':St}{B:Addr→Obj→Prop}{ad:Nat→Addr}{s:Shared}{E:Value→Shared→Prop}{n:Nat}{r:Rec}
theorem All2.pick {α β:Type}{R:α→β→Prop}{l:List α}{m:List β}(h:All2 R l m)(js:List Nat):All2 R (js.filterMap (l[·]?)) (js.filterMap (m[·]?)):=by
 induction js with
 | nil=>exact .nil
 | cons j js ih=>
  simp only [List.filterMap_cons]
  induction e:l[j]? using Option.casesOn with
  | none=>rw [h.none e];exact ih
  | some a=>
   refine x1_1 (h.get e) fun b e2 x=>?_
   rw [e2]
   exact .cons x ih
theorem sub_eq (x:Expr)(o i:Value):∃ ops,subscripted x false o i=operate ops (getItem o i):=by
 induction x using Expr.casesOn with
 | Slice a b c p=>induction c using Option.casesOn <;> exact ⟨_,rfl⟩
 | _=>exact ⟨_,rfl⟩
theorem tail_ok {value slice:Expr}{o i:Value}{T id:String}{Q:Value→Shared→Prop}(hT:s.TypeIs o T)
  (hl:typeLookup (.type T) "__getitem__"=pure (some (.builtin id))) (h:wpAny (model Pr w) A (getItem o i) Q E s):wpAny (model Pr w) A (subscriptTail value slice o i) Q E s:=by
 unfold subscriptTail
 refine wpAny_bind ?_
 refine wEqM (getitemInPython_of_ne hT.not_modules) ?_
 refine wpAny_bind (wpAny_specialOf hT hl ?_)
 have fin:wpAny (model Pr w) A (subscripted slice false o i) (fun r s₃=>wpAny (model Pr w) A (letTemporaryGo value o r>>=fun _=>pure r) Q E s₃) E s:=by
  have go:∀ ops,wpAny (model Pr w) A (operate ops (getItem o i)) (fun r s₃=>wpAny (model Pr w) A (letTemporaryGo value o r>>=fun _=>pure r) Q E s₃) E s:=fun ops=>
   wpAny_operating (wpAny_mono h (fun r s₃ h₃=>wpAny_bind (wpAny_letTemporaryGo (wpAny_pure h₃))) fun _ _ x=>x)
  refine x1_0 (sub_eq slice o i) fun ops e=>?_
  rw [e];exact go _
 first
  | exact wpAny_pure (wpAny_bind fin)
  | exact wpAny_bind (wpAny_pure (wpAny_bind fin))
  | exact wpAny_bind fin
theorem seqIx {i:Int}{n j:Nat}(h:seqIndex? i n=some j):(0≤i∧i.toNat=j)∨(i < 0∧-(n:Int)≤i∧(i+n).toNat=j):=by
 unfold seqIndex? at h
 by_cases hi:i < 0
 ·simp only [hi,if_true] at h
  refine iteE h fun hh h=>?_
  kt_eqs;simp only [Bool.and_eq_true,decide_eq_true_eq] at hh;exact .inr ⟨hi,by kt_len,rfl⟩
 ·simp only [hi,if_false] at h
  refine iteE h fun hh h=>?_
  kt_eqs;exact .inl ⟨by kt_len,rfl⟩
theorem get_ok {a b c:AV}{u v:Value}{value slice:Expr}{Q:Value→Shared→Prop}(R:Rep w o₀ B env ad st s)(h:getA st.μ a b=some c)(ha:VR st.μ.length ad s.heap a u)(hb:VR st.μ.length ad s.heap b v)
  (k:∀ v' tk,VR st.μ.length ad s.heap c v'→Q v' {s with toks:=tk}):wpAny (model Pr w) A (subscriptTail value slice u v) Q E s:=by
 induction a using AV.casesOn with
 | str l=>
  refine bindE1 h fun i h0 h=>?_
  obtain rfl:=asI_inv h0
  refine x1_0 ha fun t hq1=>?_;subst hq1;refine x1_0 hb fun t' hq1=>?_;subst hq1
  refine bindE1 h fun j h1 h2=>?_
  refine mapE1 h2 fun x h3 h2=>?_
  subst h2
  refine iteE h1 fun hs h1=>?_
  have hs:=of_decide_eq_true hs
  refine tail_ok (typeIs_str _ _ _) F.slot_str_getitem.lookup (getItem_str (c:=x) ?_ ?_ (k _ _ ⟨_,rfl⟩))
  ·simp only [topK] at hs;simp;kt_len
  ·have e:(⟨⟨l⟩⟩:Str).length=l.length:=rfl
   rw [e,h1];simpa using h3
 | tup l=>
  refine bindE1 h fun i h0 h=>?_
  obtain rfl:=asI_inv h0
  refine x2_2 ha fun t vs hq2 it al=>?_;subst hq2;refine x1_0 hb fun t' hq1=>?_;subst hq1
  refine bindE1 h fun j h1 h2=>?_
  refine iteE h1 fun hs h1=>?_
  have hs:=of_decide_eq_true hs
  simp only [topK] at hs
  refine x1_1 (al.get h2) fun y hy ry=>?_
  refine tail_ok it.typeIs slot_tuple_getitem.lookup (getItem_tuple (x:=y) it (by kt_len) (by kt_len) (j:=j) ?_ ?_ (k _ s.toks ?_))
  ·have e:(⟨vs⟩:Array Value).size=l.length:=al.length.symm
   rw [e];exact h1
  ·simpa using hy
  ·induction c using AV.casesOn <;> first | exact ry | exact ry.elim
 | ref j=>
  refine bindE1 h fun i h0 h=>?_
  obtain rfl:=asI_inv h0
  refine x0_1 ha fun hj hq1=>?_;subst hq1;refine x1_0 hb fun t' hq1=>?_;subst hq1
  refine bindE1 h fun l e h=>?_
  refine x1_0 (asL_inv e) fun kk e=>?_
  refine x1_2 (R.mem _ _ e) fun vs p al _=>?_
  refine bindE1 h fun q h1 h2=>?_
  refine iteE h1 fun hs h1=>?_
  have hs:=of_decide_eq_true hs
  simp only [topK] at hs
  refine x1_1 (al.get h2) fun y hy ry=>?_
  refine tail_ok p.isList.typeIs list_getitem_lookup ?_
  rcases seqIx h1 with ⟨g1,g2⟩ | ⟨g1,g2,g3⟩
  ·exact wpAny_getItem_list p.isList g1 (by kt_len) (by rw [g2];simpa using hy) (k _ s.toks ry)
  ·have e2:(⟨vs⟩:Array Value).size=l.length:=al.length.symm
   exact wpAny_getItem_list_neg p.isList g1 (by rw [e2];exact g2) (by kt_len) (by rw [e2,g3];simpa using hy) (k _ s.toks ry)
 | _=>exact noS h
end
set_option tactic.hygienic false
noncomputable def dictOf (o:Obj):Array DictEntry:=match o.data with | .dict es _=>es | _=>#[]
noncomputable def isDict (o:Obj):Bool:=match o.data with | .dict _ _=>true | _=>false
noncomputable def objAt (P:Params)(a:Nat):Obj:=((Hf P).get? a).getD default
noncomputable def keysB (es:Array DictEntry):Bool:=es.toList.all fun e=>match e.key with | .str _ _=>true | _=>false
set_option tactic.hygienic true in
theorem keysB_ok {es:Array DictEntry}(h:keysB es=true):StrKeys es:=by
 intro e he
 unfold keysB at h
 rw [List.all_eq_true] at h
 have:=h e (by simpa using he)
 split at this
 next n t hk=>exact ⟨n,t,hk⟩
 next=>exact ftC this
set_option tactic.hygienic true in
theorem hf_ns (P:Params)(a:Nat)(h1:((Hf P).get? a).isSome=true)(h2:isDict (objAt P a)=true)(h3:keysB (dictOf (objAt P a))=true):(Hf P).Ns a (fun x=>nsFind (dictOf (objAt P a)) x):=by
 refine x1_0 (Option.isSome_iff_exists.1 h1) fun o e=>?_
 have eo:objAt P a=o:=by unfold objAt;rw [e];rfl
 rw [eo] at h2 h3 ⊢
 unfold isDict at h2
 split at h2
 next es ep d=>
  have e2:dictOf o=es:=by unfold dictOf;rw [d]
  rw [e2] at h3 ⊢
  exact ⟨o,es,ep,e,d,keysB_ok h3,fun _=>rfl⟩
 next=>exact ftC h2
theorem ns3 (P:Params):(Hf P).Ns 3 (fun x=>nsFind (dictOf (objAt P 3)) x):=hf_ns P 3 (by kernel_rfl!) (by kernel_rfl!) (by kernel_rfl!)
theorem ns0 (P:Params):(Hf P).Ns 0 (fun x=>nsFind (dictOf (objAt P 0)) x):=hf_ns P 0 (by kernel_rfl!) (by kernel_rfl!) (by kernel_rfl!)
theorem ns2 (P:Params):(Hf P).Ns 2 (fun x=>nsFind (dictOf (objAt P 2)) x):=hf_ns P 2 (by kernel_rfl!) (by kernel_rfl!) (by kernel_rfl!)
theorem ns2l (P:Params):nsFind (dictOf (objAt P 2)) "sys.recursionlimit"=none:=by kernel_rfl!
theorem hf_nolimit (P:Params):(Hf P).NoLimit:=⟨_,ns2 P,ns2l P⟩
noncomputable def gname (P:Params)(x:String):Option Value:=nsFind (dictOf (objAt P 3)) (Str.ofString x)
noncomputable def bname (P:Params)(x:String):Option Value:=nsFind (dictOf (objAt P 0)) (Str.ofString x)
noncomputable def isTxt (v:Option Value)(l:List Nat):Bool:=match v with | some (.str s _)=>s.cps.toList==l | _=>false
theorem gl0 (P:Params):isTxt (gname P "ELLIPSIS_MARKER") [46,46,46]=true:=by kernel_rfl!
theorem gl1 (P:Params):([("_ellipsis_match",111),("_strcoll",118),("_strip_padding",125),("b1_set",133),("in_table_b1",143),("b3_exceptions",144),("map_table_b3",189),("_law_typed",194),("_Accumulator",100)].all fun (x,a)=>gname P x==some (.ref a))=true:=by kernel_rfl!
theorem gl2 (P:Params):(["len","chr","ord","max","min","sum","isinstance"].all fun x=>gname P x==none&&bname P x==some (.builtin x))=true:=by kernel_rfl!
theorem gl3 (P:Params):(["int","str","bool","range","enumerate"].all fun x=>gname P x==none&&bname P x==some (.type x))=true:=by kernel_rfl!
theorem gl3_at (P:Params){x:String}(h:x∈["int","str","bool","range","enumerate"]):gname P x=none∧bname P x=some (.type x):=by
 have:=List.all_eq_true.1 (gl3 P) x h
 rw [Bool.and_eq_true,beq_iff_eq,beq_iff_eq] at this
 exact this
theorem gl2_at (P:Params){x:String}(h:x∈["len","chr","ord","max","min","sum","isinstance"]):gname P x=none∧bname P x=some (.builtin x):=by
 have:=List.all_eq_true.1 (gl2 P) x h
 rw [Bool.and_eq_true,beq_iff_eq,beq_iff_eq] at this
 exact this
theorem gl1_at (P:Params){x:String}{a:Nat}(h:(x,a)∈[("_ellipsis_match",111),("_strcoll",118),("_strip_padding",125),("b1_set",133),("in_table_b1",143),("b3_exceptions",144),("map_table_b3",189),("_law_typed",194),("_Accumulator",100)]) :
  gname P x=some (.ref a):=by
 have:=List.all_eq_true.1 (gl1 P) (x,a) h
 exact beq_iff_eq.1 this
set_option tactic.hygienic false
theorem AOk.pred {A:Around}{n:Nat}(h:AOk A (n+1)):AOk A n:=⟨h.1,by have:=h.2.1;kt_len,by have:=h.2.2;kt_len⟩
theorem AOk.units {A:Around}{n:Nat}(h:AOk A n):A.units+2 < cLine:=by have:=h.2.2;show _ < 9900;kt_len
set_option tactic.hygienic true
section
variable {w:World}{o₀:OsState}{A:Around}{env:Env}{st st':St}{B:Addr→Obj→Prop}{ad:Nat→Addr}{s:Shared}{E:Value→Shared→Prop}{n:Nat}{r:Rec}
 {Q:Value→Shared→Prop}
set_option tactic.hygienic false
theorem Rep.obj (R:Rep w o₀ B env ad st s){a:Addr}{o:Obj}(e:(Hf w.params).get? a=some o)(h1:a≠62)(h2:a≠69):s.heap.get? a=some o:=R.kept _ _ (R.top _ _ e h1 h2)
theorem Rep.hns (R:Rep w o₀ B env ad st s){a:Addr}{m:Str→Option Value}(h:(Hf w.params).Ns a m)(h1:a≠62)(h2:a≠69):s.heap.Ns a m:=
 let ⟨o,es,ep,e,x⟩:=h;⟨o,es,ep,R.obj e h1 h2,x⟩
theorem Rep.nolimit (R:Rep w o₀ B env ad st s):s.heap.NoLimit:=⟨_,R.hns (ns2 w.params) (by decide) (by decide),ns2l w.params⟩
theorem Rep.kindOf (R:Rep w o₀ B env ad st s)(x:Str):kindIn st.kd (nm x)=env.kindOf x:=by rw [R.kd,kindIn_eq];rfl
theorem isLoc_kinds {k:Option NameKind}(h:isLoc k=true):k=some .local∨k=some .cell∨k=some .free:=by
 induction k using Option.casesOn with
 | none=>exact ftC h
 | some k=>induction k using NameKind.casesOn <;> first | exact .inl rfl | exact .inr (.inl rfl) | exact .inr (.inr rfl) | exact ftC h
theorem isGlob_kind {k:Option NameKind}(h:isGlob k=true):k=some .globalImplicit:=by
 induction k using Option.casesOn with
 | none=>exact ftC h
 | some k=>induction k using NameKind.casesOn <;> first | rfl | exact ftC h
theorem debug_not {x:Str}{l:List Nat}(h:nm x=l)(h2:l≠[95,95,100,101,98,117,103,95,95]):(x==Str.ofString "__debug__")=false:=by
 rw [beq_eq_false_iff_ne]
 rintro rfl
 exact h2 (h.symm.trans (by decide +kernel))
theorem load_ok (R:Rep w o₀ B env ad st s)(hN:EnvOk env){x:Str}{a:AV}(hk:isLoc (kindIn st.kd (nm x))=true)(h:look st.σ (nm x)=some a)(hx:nm x≠[95,95,99,108,97,115,115,100,105,99,116,95,95])
  (k:∀ v,VR st.μ.length ad s.heap a v→Q v s):wpAny (model Pr w) A (loadName env x) Q E s:=by
 rw [R.kindOf] at hk
 rcases isLoc_kinds hk with e | e | e
 ·refine x1_1 (R.ns) fun m nn f=>?_
  refine x1_1 (f x a h e) fun val e2 V=>?_
  exact wpAny_loadName_local hN.kind e nn e2 (k _ V)
 ·refine x2_2 (R.cl x a h (.inl e)) fun c val e2 cc V=>?_
  exact wpAny_loadName_cell hN.kind e e2 cc (k _ V)
 ·refine x2_2 (R.cl x a h (.inr e)) fun c val e2 cc V=>?_
  refine wpAny_loadName_free hN.kind e e2 cc (k _ V) ?_
  rw [beq_eq_false_iff_ne]
  rintro rfl
  exact hx (by decide +kernel)
theorem gl_user (R:Rep w o₀ B env ad st s)(hN:EnvOk env){x:Str}{v:Value}(hv:nsFind (dictOf (objAt w.params 3)) x=some v)(k:Q v s):wpAny (model Pr w) A (loadGlobal env x) Q E s:=
 loadGlobal_global (by rw [hN.glob];exact R.hns (ns3 w.params) (by decide) (by decide)) hv k
theorem gl_blt (R:Rep w o₀ B env ad st s)(hN:EnvOk env){x:Str}{v:Value}(h0:nsFind (dictOf (objAt w.params 3)) x=none)(hv:nsFind (dictOf (objAt w.params 0)) x=some v)(k:Q v s):wpAny (model Pr w) A (loadGlobal env x) Q E s:=
 loadGlobal_builtin (by rw [hN.glob];exact R.hns (ns3 w.params) (by decide) (by decide)) h0 (by rw [hN.blt];exact R.hns (ns0 w.params) (by decide) (by decide)) hv k
theorem globU (R:Rep w o₀ B env ad st s)(hN:EnvOk env){x:Str}{pos:Pos}{v:Value}(hk:isGlob (kindIn st.kd (nm x))=true)(hd:(x==Str.ofString "__debug__")=false)
  (hv:nsFind (dictOf (objAt w.params 3)) x=some v) (k:Q v s):wpAny (model Pr w) A (eval (.Name x pos) env) Q E s:=by
 rw [R.kindOf] at hk
 exact Name_function_global hN.kind (isGlob_kind hk) (gl_user R hN hv k) hd
theorem globB (R:Rep w o₀ B env ad st s)(hN:EnvOk env){x:Str}{pos:Pos}{v:Value}(hk:isGlob (kindIn st.kd (nm x))=true)(hd:(x==Str.ofString "__debug__")=false)
  (h0:nsFind (dictOf (objAt w.params 3)) x=none) (hv:nsFind (dictOf (objAt w.params 0)) x=some v) (k:Q v s):wpAny (model Pr w) A (eval (.Name x pos) env) Q E s:=by
 rw [R.kindOf] at hk
 exact Name_function_global hN.kind (isGlob_kind hk) (gl_blt R hN h0 hv k) hd
theorem e_const {c:Const}{kk:Nat}{pos:Pos}{a:AV}(h:constA c=some a)(R:Rep w o₀ B env ad st s)
  (k:∀ v tk,VR st.μ.length ad s.heap a v→Q v {s with toks:=tk}):wpAny (model Pr w) A (eval (.Constant c kk pos) env) Q E s:=by
 induction c using Const.casesOn <;> first | exact noS h | skip
 ·kt_eqs;exact wpAny_Constant_none (k _ s.toks rfl)
 ·kt_eqs;exact wpAny_Constant_bool (k _ s.toks rfl)
 ·kt_eqs;exact wpAny_Constant_int (k _ _ ⟨_,rfl⟩)
 ·kt_eqs;exact wpAny_Constant_str (k _ _ ⟨_,rfl⟩)
theorem flat_VR0 {m:Nat}{h:Heap}{l:List AV}{vs:List Value}(hf:l.all flat=true)(al:All2 (VR m ad h) l vs):All2 (VR0 m ad) l vs:=by
 induction al with
 | nil=>exact .nil
 | @cons a v l vs x y ih=>
  rw [List.all_cons,Bool.and_eq_true] at hf
  refine .cons ?_ (ih hf.2)
  induction a using AV.casesOn <;> first | exact x | exact ftC hf.1
theorem notSet {op:CmpOp}{b:Expr}(h:¬ isSetE b=true):behindInMarks op b=false:=by
 induction b using Expr.casesOn <;> first | rfl | exact absurd rfl h
theorem part_ok (hE:GE w o₀ n r.E)(hA:AOk A n)(hN:EnvOk env){x:Option Expr}{x':Option Int}(h:partA r x st=some (x',st'))(R:Rep w o₀ B env ad st s)
  (k:∀ ad' v s' q,Nx w o₀ B env ad st ad' st' s'→v=partValue q→q.map (·.1)=x'→Q v s'):wpAny (model Pr w) A (evalPart x env) Q E s:=by
 induction x using Option.casesOn with
 | none=>cases h;rw [evalPart_none];exact wpAny_pure (k ad _ s none (.refl R) rfl rfl)
 | some e=>
  rw [evalPart_some]
  refine bindE h fun v st₃ h1 h=>?_
  induction v using AV.casesOn <;> try exact noS h
  kt_eqs
  refine hE hA hN h1 R fun ad' v s' N V=>?_
  refine x1_0 V fun t hq1=>?_;subst hq1
  exact k ad' _ s' (some (_,t)) N rfl rfl
theorem isPart_of {q:Option (Int × Tok)}:IsPart (partValue q) (q.map (·.1)):=by
 induction q using Option.casesOn with
 | none=>exact .none
 | some p=>exact .int _ _
theorem pick_fm {l js:List Nat}:js.filterMap ((⟨l⟩:Array Nat)[·]?)=js.filterMap (l[·]?):=by
 have:(fun x:Nat=>(⟨l⟩:Array Nat)[x]?)=(fun x:Nat=>l[x]?):=by funext x;simp
 rw [this]
theorem slicePicked_eq {l:List Nat}{q₂ q₃:Option (Int × Tok)}:slicePicked ⟨⟨l⟩⟩ q₂ q₃ none=Builtin.Str.strSliceIndices (q₂.map (·.1)) (q₃.map (·.1)) 1 l.length:=rfl
set_option tactic.hygienic true
theorem e_slice {FF:List (Nm × UF)}{o:Expr}{lo hi:Option Expr}{p pos:Pos}(hE:GE w o₀ n r.E)(hA:AOk A n)(hN:EnvOk env){a:AV}(h:stepE FF r (.Subscript o (.Slice lo hi none p) pos) st=some (a,st'))(R:Rep w o₀ B env ad st s)
  (k:Kt w o₀ B env ad st st' a Q):wpAny (model Pr w) A (eval (.Subscript o (.Slice lo hi none p) pos) env) Q E s:=by
 delta stepE at h
 dsimp only at h
 refine bindE h fun u st₁ h1 ha=>?_
 clear h
 refine bindE ha fun lo' st₂ h2 hb=>?_
 clear ha
 refine bindE hb fun hi' st₃ h3 h=>?_
 clear hb
 dsimp only at h1 h2 h3 h
 refine Subscript_ (hE hA hN h1 R fun ad₁ v₁ s₁ N₁ V₁=>wpAny_Slice (part_ok hE hA hN h2 N₁.R.widen fun ad₂ v₂ s₂ q₂ N₂ e₂ g₂=>part_ok hE hA hN h3 (N₁.seq N₂).R.widen fun ad₃ v₃ s₃ q₃ N₃ e₃ g₃=>?_))
 rw [evalPart_none]
 refine wpAny_pure ?_
 have V₃:=N₃.keep (N₁.seq N₂).R (N₂.keep N₁.R V₁)
 have N:=(N₁.seq N₂).seq N₃
 subst e₂ e₃ g₂ g₃
 induction u using AV.casesOn <;> try exact noS h
 case str l=>
  simp only [sliceA] at h
  refine iteE h fun hs h=>?_
  kt_eqs
  refine x1_0 V₃ fun t hq1=>?_;subst hq1
  have hs:=of_decide_eq_true hs
  refine tail_ok (typeIs_str _ _ _) F.slot_str_getitem.lookup (wpAny_getItem_str_slice (l:=q₂) (u:=q₃) (st:=none) ⟨_,Heap.get?_push_size _ rfl,rfl,rfl⟩ rfl ?_)
  unfold sliceMade
  unfold sliceS at hs k
  by_cases hc:((1:Int)==1&&(Builtin.Str.strSliceIndices (q₂.map (·.1)) (q₃.map (·.1)) 1 l.length).length==l.length)=true
  ·rw [if_pos hc] at hs k
   rw [if_pos (by exact hc)]
   exact k _ _ _ ⟨N.ag,N.le,N.R.push _⟩ ⟨t,rfl⟩
  ·rw [if_neg hc] at hs k
   rw [if_neg (by exact hc)]
   refine ⟨?_,?_⟩
   ·rw [slicePicked_eq];simp only [topK] at hs;simp only [Str.length,Array.size,sizeLine_eq];rw [pick_fm];kt_len
   ·exact k _ _ _ ⟨N.ag,N.le,(N.R.push _).toks _⟩ ⟨s₃.toks,by rw [slicePicked_eq,pick_fm]⟩
 case ref j=>
  simp only [sliceA] at h
  split at h
  next l kk e=>
   kt_eqs
   refine x0_1 V₃ fun hj hq1=>?_;subst hq1
   refine x1_2 (N.R.mem _ _ e) fun vs p al z=>?_
   have R':=N.R.push {cls:=Value.type "slice",data:=Data.fields #[partValue q₂,partValue q₃,Value.none]}
   refine x1_2 (R'.mem _ _ e) fun vs' p' al' z'=>?_
   refine tail_ok p'.isList.typeIs list_getitem_lookup (wpAny_getItem_list_slice (lo:=q₂.map (·.1)) (hi:=q₃.map (·.1)) (st:=none) p'.isList ⟨_,Heap.get?_push_size _ rfl,rfl,rfl⟩ isPart_of isPart_of .none (by decide) ?_ ?_)
   ·have e2:slicePick ⟨vs'⟩ (q₂.map (·.1)) (q₃.map (·.1)) none=⟨sliceL vs' (q₂.map (·.1)) (q₃.map (·.1))⟩:=by
     unfold slicePick sliceL
     exact congrArg Array.mk (by simp)
    rw [e2]
    have e3:sliceL vs' (q₂.map (·.1)) (q₃.map (·.1))=(sliceRange (sliceBounds (q₂.map (·.1)) (q₃.map (·.1)) none l.length).1 (sliceBounds (q₂.map (·.1)) (q₃.map (·.1)) none l.length).2.1 (sliceBounds (q₂.map (·.1)) (q₃.map (·.1)) none l.length).2.2).filterMap (vs'[·]?):=by
     unfold sliceL;rw [al'.length]
    have al'':=al'.pick (sliceRange (sliceBounds (q₂.map (·.1)) (q₃.map (·.1)) none l.length).1 (sliceBounds (q₂.map (·.1)) (q₃.map (·.1)) none l.length).2.1 (sliceBounds (q₂.map (·.1)) (q₃.map (·.1)) none l.length).2.2)
    rw [e3]
    refine k _ _ _ ⟨N.ag.trans (agree_upd _ _ _) N.le,Nat.le_trans N.le (by simp),R'.newList al'' ⟨?_,z'.2⟩⟩ ⟨by simp,by simp [updAd]⟩
    have e4:=slicePick_size_le ⟨vs'⟩ (q₂.map (·.1)) (q₃.map (·.1)) none
    rw [e2,e3] at e4
    simp only [Array.size] at e4
    rw [← al''.length,← al'.length] at e4
    exact Nat.le_trans e4 z'.1
   ·simp only [Array.size];rw [← al'.length];have:=z'.1;have:=z'.2;simp only [topK,sizeLine_eq] at *;kt_len
  next=>exact noS h
end
set_option tactic.hygienic true
section
variable {w:World}{o₀:OsState}{A:Around}{env:Env}{st st':St}{B:Addr→Obj→Prop}{ad:Nat→Addr}{s:Shared}{E:Value→Shared→Prop}{n:Nat}{r:Rec}
 {Q:Value→Shared→Prop} {a:AV}
theorem e_name {FF:List (Nm × UF)}{x:Str}{pos:Pos}(hN:EnvOk env)(h:stepE FF r (.Name x pos) st=some (a,st'))(R:Rep w o₀ B env ad st s)
  (k:Kt w o₀ B env ad st st' a Q):wpAny (model Pr w) A (eval (.Name x pos) env) Q E s:=by
 delta stepE at h
 dsimp only at h
 split at h
 next hl=>
  refine iteN h fun hx h=>?_
  refine mapE1 h fun v e h=>?_
  kt_eqs
  rw [Bool.not_eq_true,Bool.or_eq_false_iff,beq_eq_false_iff_ne,beq_eq_false_iff_ne] at hx
  exact wpAny_Name (load_ok R hN hl e hx.1 fun v V=>k _ _ _ (.refl R) V) (debug_not rfl hx.2)
 next=>
  refine iteE h fun hg h=>?_
  split at h
  next he=>
   kt_eqs
   have hx:x=Str.ofString "ELLIPSIS_MARKER":=nm_inj (by simpa using he)
   subst hx
   have g:=gl0 w.params
   unfold isTxt gname at g
   split at g
   next s' t e=>
    refine globU R hN hg (debug_not (l:=nm (Str.ofString "ELLIPSIS_MARKER")) rfl (by decide +kernel)) e (k _ _ _ (.refl R) ⟨t,?_⟩)
    have:s'.cps.toList=[46,46,46]:=by simpa using g
    rw [← this]
   next=>exact ftC g
  next=>
   split at h
   next he=>
    kt_eqs
    have hx:x=Str.ofString "b1_set":=nm_inj (by simpa using he)
    subst hx
    exact globU R hN hg (debug_not (l:=nm (Str.ofString "b1_set")) rfl (by decide +kernel)) (gl1_at w.params (x:="b1_set") (a:=133) (by decide)) (k _ _ _ (.refl R) (.inl ⟨rfl,rfl⟩))
   next=>
    refine iteE h fun he h=>?_
    kt_eqs
    have hx:x=Str.ofString "b3_exceptions":=nm_inj (by simpa using he)
    subst hx
    exact globU R hN hg (debug_not (l:=nm (Str.ofString "b3_exceptions")) rfl (by decide +kernel)) (gl1_at w.params (x:="b3_exceptions") (a:=144) (by decide)) (k _ _ _ (.refl R) (.inr ⟨rfl,rfl⟩))
set_option tactic.hygienic false
theorem e_bin {FF:List (Nm × UF)}{x y:Expr}{op:Operator}{pos:Pos}(hE:GE w o₀ n r.E)(hA:AOk A n)(hN:EnvOk env)(h:stepE FF r (.BinOp x op y pos) st=some (a,st'))(R:Rep w o₀ B env ad st s)
  (k:Kt w o₀ B env ad st st' a Q):wpAny (model Pr w) A (eval (.BinOp x op y pos) env) Q E s:=by
 delta stepE at h
 dsimp only at h
 refine bindE h fun u st₁ h1 h=>?_
 refine bindE h fun v st₂ h2 h=>?_
 refine mapE1 h fun z h3 h=>?_
 kt_eqs
 exact wpAny_BinOp (hE hA hN h1 R fun ad₁ v₁ s₁ N₁ V₁=>hE hA hN h2 N₁.R.widen fun ad₂ v₂ s₂ N₂ V₂=>
  bin_ok h3 (N₂.keep N₁.R V₁) V₂ fun v' tk V=>k _ _ _ ((N₁.seq N₂).toks tk) V)
theorem e_cmp {FF:List (Nm × UF)}{x y:Expr}{op:CmpOp}{pos:Pos}(hE:GE w o₀ n r.E)(hA:AOk A n)(hN:EnvOk env)(h:stepE FF r (.Compare x [op] [y] pos) st=some (a,st'))(R:Rep w o₀ B env ad st s)
  (k:Kt w o₀ B env ad st st' a Q):wpAny (model Pr w) A (eval (.Compare x [op] [y] pos) env) Q E s:=by
 delta stepE at h
 dsimp only at h
 refine iteN h fun hs h=>?_
 refine bindE h fun u st₁ h1 h=>?_
 refine bindE h fun v st₂ h2 h=>?_
 refine mapE1 h fun z h3 h=>?_
 kt_eqs
 exact wpAny_Compare1 (hE hA hN h1 R fun ad₁ v₁ s₁ N₁ V₁=>hE hA hN h2 N₁.R.widen fun ad₂ v₂ s₂ N₂ V₂=>
  cmp_ok (N₁.seq N₂).R hA.units h3 (N₂.keep N₁.R V₁) V₂ fun v' tk V=>k _ _ _ ((N₁.seq N₂).toks tk) V) (notSet hs)
theorem e_if {FF:List (Nm × UF)}{t x y:Expr}{pos:Pos}(hE:GE w o₀ n r.E)(hT:GT w o₀ n r.T)(hA:AOk A n)(hN:EnvOk env)(h:stepE FF r (.IfExp t x y pos) st=some (a,st'))(R:Rep w o₀ B env ad st s)
  (k:Kt w o₀ B env ad st st' a Q):wpAny (model Pr w) A (eval (.IfExp t x y pos) env) Q E s:=by
 delta stepE at h
 dsimp only at h
 refine bindE h fun b st₁ h1 h=>?_
 refine wpAny_IfExp (hT hA hN h1 R fun ad₁ s₁ N₁=>?_)
 induction b using Bool.casesOn with
 | true=>exact hE hA hN h N₁.R fun ad₂ v₂ s₂ N₂ V₂=>k _ _ _ (N₁.seq' N₂) V₂
 | false=>exact hE hA hN h N₁.R fun ad₂ v₂ s₂ N₂ V₂=>k _ _ _ (N₁.seq' N₂) V₂
theorem e_un {FF:List (Nm × UF)}{x:Expr}{op:UnaryOp}{pos:Pos}(hE:GE w o₀ n r.E)(hA:AOk A n)(hN:EnvOk env)(h:stepE FF r (.UnaryOp op x pos) st=some (a,st'))(R:Rep w o₀ B env ad st s)
  (k:Kt w o₀ B env ad st st' a Q):wpAny (model Pr w) A (eval (.UnaryOp op x pos) env) Q E s:=by
 induction op using UnaryOp.casesOn <;> delta stepE at h <;> dsimp only at h <;> try exact noS h
 ·refine bindE h fun u st₁ h1 h=>?_
  refine mapE1 h fun b h2 h=>?_
  kt_eqs
  exact wpAny_UnaryOp (hE hA hN h1 R fun ad₁ v₁ s₁ N₁ V₁=>not_of (truth_ok h2 V₁ fun tk=>k _ _ _ (N₁.toks tk) rfl))
 ·refine bindE h fun u st₁ h1 h=>?_
  dsimp only at h
  split at h
  next i=>
   kt_eqs
   refine wpAny_UnaryOp (hE hA hN h1 R fun ad₁ v₁ s₁ N₁ V₁=>?_)
   obtain ⟨t,rfl⟩:=V₁
   exact neg_int (k _ _ _ (N₁.toks _) ⟨_,rfl⟩)
  next=>cases h
theorem Es_len {l:List AV}{vs:List Value}{m:Nat}{h:Heap}(al:All2 (VR m ad h) l vs):vs.length=l.length:=al.length.symm
theorem e_tup {FF:List (Nm × UF)}{es:List Expr}{kk:Nat}{pos:Pos}(hEs:GEs w o₀ n r.Es)(hA:AOk A n)(hN:EnvOk env)(h:stepE FF r (.Tuple es kk pos) st=some (a,st'))(R:Rep w o₀ B env ad st s)
  (k:Kt w o₀ B env ad st st' a Q):wpAny (model Pr w) A (eval (.Tuple es kk pos) env) Q E s:=by
 delta stepE at h
 dsimp only at h
 refine bindE h fun vs st₁ h1 h=>?_
 dsimp only at h
 refine iteE h fun hf h=>?_
 rw [Bool.and_eq_true] at hf
 kt_eqs
 refine wpAny_Tuple (hEs hA hN h1 R fun ad₁ us s₁ N₁ V₁=>⟨?_,?_⟩)
 ·rw [Es_len V₁];have:=of_decide_eq_true hf.2;rw [sizeLine_eq];kt_len
 ·exact k _ _ _ ⟨N₁.ag,N₁.le,N₁.R.push _⟩ ⟨_,us,rfl,⟨_,Heap.get?_push_size _ rfl,rfl,0,by rfl⟩,flat_VR0 hf.1 V₁⟩
theorem e_list {FF:List (Nm × UF)}{es:List Expr}{pos:Pos}(hEs:GEs w o₀ n r.Es)(hA:AOk A n)(hN:EnvOk env)(h:stepE FF r (.List es pos) st=some (a,st'))(R:Rep w o₀ B env ad st s)
  (k:Kt w o₀ B env ad st st' a Q):wpAny (model Pr w) A (eval (.List es pos) env) Q E s:=by
 delta stepE at h
 dsimp only at h
 refine bindE h fun vs st₁ h1 h=>?_
 dsimp only at h
 refine iteE h fun hf h=>?_
 kt_eqs
 have hf:=of_decide_eq_true hf
 refine wpAny_List (hEs hA hN h1 R fun ad₁ us s₁ N₁ V₁=>⟨?_,?_⟩)
 ·rw [Es_len V₁];rw [sizeLine_eq];kt_len
 ·have e:us.toArray=⟨us⟩:=by rfl
  rw [e]
  exact k _ _ _ ⟨N₁.ag.trans (agree_upd _ _ _) N₁.le,Nat.le_trans N₁.le (by simp [St.alloc]),N₁.R.newList V₁ ⟨Nat.le_refl _,by simp only [topK];kt_len⟩⟩ ⟨by simp [St.alloc],by simp [updAd]⟩
theorem e_sub {FF:List (Nm × UF)}{o i:Expr}{pos:Pos}(hE:GE w o₀ n r.E)(hA:AOk A n)(hN:EnvOk env)(h:stepE FF r (.Subscript o i pos) st=some (a,st'))(R:Rep w o₀ B env ad st s)
  (k:Kt w o₀ B env ad st st' a Q):wpAny (model Pr w) A (eval (.Subscript o i pos) env) Q E s:=by
 have gen:((r.E o st).bind fun (u,st)=>(r.E i st).bind fun (v,st)=>(getA st.μ u v).map fun z=>(z,st))=some (a,st')→wpAny (model Pr w) A (eval (.Subscript o i pos) env) Q E s:=by
  intro h
  refine bindE h fun u st₁ h1 h=>?_
  refine bindE h fun v st₂ h2 h=>?_
  refine mapE1 h fun z h3 h=>?_
  kt_eqs
  exact Subscript_ (hE hA hN h1 R fun ad₁ v₁ s₁ N₁ V₁=>hE hA hN h2 N₁.R.widen fun ad₂ v₂ s₂ N₂ V₂=>
   get_ok (N₁.seq N₂).R h3 (N₂.keep N₁.R V₁) V₂ fun v' tk V=>k _ _ _ ((N₁.seq N₂).toks tk) V)
 induction i using Expr.casesOn with
 | Slice lo hi stp p=>
  induction stp using Option.casesOn with
  | none=>exact e_slice hE hA hN h R k
  | some x=>exact gen h
 | _=>exact gen h
set_option tactic.hygienic true
end
section
variable {w:World}{o₀:OsState}{A:Around}{env:Env}{st st':St}{B:Addr→Obj→Prop}{ad:Nat→Addr}{s:Shared}{E:Value→Shared→Prop}{n:Nat}{r:Rec}
set_option tactic.hygienic false
theorem Ts_ok (hT:GT w o₀ n r.T)(hTs:GTs w o₀ n r.Ts):GTs w o₀ n (stepTs r):=by
 intro A env op x st st' b hA hN h B ad s Q E R k
 induction x using List.casesOn with
 | nil=>cases h
 | cons e es=>
  cases es with
  | nil=>
   replace h:r.T e st=some (b,st'):=h
   cases op with
   | And=>
    refine wpAny_allTrue_And_cons (hT hA hN h R fun ad' s' N=>?_)
    cases b
    ·exact k _ _ N
    ·exact wpAny_allTrue_And_nil (k _ _ N)
   | Or=>
    refine wpAny_allTrue_Or_cons (hT hA hN h R fun ad' s' N=>?_)
    cases b
    ·exact wpAny_allTrue_Or_nil (k _ _ N)
    ·exact k _ _ N
  | cons e' es=>
   refine bindE h fun c st₁ h1 h=>?_
   cases op with
   | And=>
    refine wpAny_allTrue_And_cons (hT hA hN h1 R fun ad' s' N=>?_)
    cases c
    ·kt_eqs;exact k _ _ N
    ·exact hTs hA hN h N.R fun ad₂ s₂ N₂=>k _ _ (N.seq' N₂)
   | Or=>
    refine wpAny_allTrue_Or_cons (hT hA hN h1 R fun ad' s' N=>?_)
    cases c
    ·exact hTs hA hN h N.R fun ad₂ s₂ N₂=>k _ _ (N.seq' N₂)
    ·kt_eqs;exact k _ _ N
theorem T_val {x : Expr} (hE : GE w o₀ n r.E) (hx : ∀ st, stepT r x st = (r.E x st).bind fun (v, st) => (truA st.μ v).map fun b => (b, st)) (hi : ∀ env, isTrue x env (eval x env) = (do let v ← eval x env; standAt x.pos; holding [v] (truthy v))) : TAt w o₀ n (stepT r x) x := by
  intro A env st st' b hA hN h B ad s Q E R k
  rw [hx] at h
  refine bindE h fun v st₁ h1 h => ?_
  refine mapE1 h fun c h2 h => ?_
  kt_eqs
  exact wpAny_isTrue_value (hE hA hN h1 R fun ad₁ v₁ s₁ N₁ V₁ => truth_ok h2 V₁ fun tk => k _ _ (N₁.toks tk)) (hi env)
theorem T_not {e:Expr}{p:Pos}(hT:GT w o₀ n r.T):TAt w o₀ n (stepT r (.UnaryOp .Not e p)) (.UnaryOp .Not e p):=by
 intro A env st st' b hA hN h B ad s Q E R k
 refine mapE h fun c st₁ h1 h=>?_
 kt_eqs
 exact isTrue_not (hT hA hN h1 R k)
theorem T_cmp {x y:Expr}{op:CmpOp}{p:Pos}(hE:GE w o₀ n r.E):TAt w o₀ n (stepT r (.Compare x [op] [y] p)) (.Compare x [op] [y] p):=by
 intro A env st st' b hA hN h B ad s Q E R k
 delta stepT at h
 dsimp only at h
 refine iteN h fun hs h=>?_
 refine bindE h fun u st₁ h1 h=>?_
 refine bindE h fun v st₂ h2 h=>?_
 refine bindE1 h fun z h3 h=>?_
 refine mapE1 h fun c h4 h=>?_
 kt_eqs
 exact wpAny_isTrue_Compare1 (hE hA hN h1 R fun ad₁ v₁ s₁ N₁ V₁=>hE hA hN h2 N₁.R.widen fun ad₂ v₂ s₂ N₂ V₂=>
  cmp_ok (N₁.seq N₂).R hA.units h3 (N₂.keep N₁.R V₁) V₂ fun v' tk V=>truth_ok h4 (ad:=ad₂) (s:={s₂ with toks:=tk}) V fun tk'=>k _ _ ((N₁.seq N₂).toks tk')) (notSet hs)
theorem T_all (hE:GE w o₀ n r.E)(hT:GT w o₀ n r.T)(hTs:GTs w o₀ n r.Ts):∀ x,TAt w o₀ n (stepT r x) x:=by
 intro x
 induction x using Expr.casesOn with
 | BoolOp op es p=>exact fun _ _ _ _ _ hA hN h=>fun R k=>wpAny_isTrue_BoolOp (hTs hA hN h R k)
 | UnaryOp op e p=>
  induction op using UnaryOp.casesOn with
  | Not=>exact T_not hT
  | _=>exact TAt.no fun _=>rfl
 | Compare x ops ys p=>
  induction ops using List.casesOn with
  | nil=>induction ys using List.casesOn <;> exact TAt.no fun _=>rfl
  | cons op l=>
   induction l using List.casesOn with
   | cons op2 l=>induction ys using List.casesOn <;> exact TAt.no fun _=>rfl
   | nil=>
    induction ys using List.casesOn with
    | nil=>exact TAt.no fun _=>rfl
    | cons y m=>
     induction m using List.casesOn with
     | cons y2 m=>exact TAt.no fun _=>rfl
     | nil=>exact T_cmp hE
 | Name x p=>exact T_val hE (fun _=>rfl) fun _=>rfl
 | Call f as ks p=>exact T_val hE (fun _=>rfl) fun _=>rfl
 | _=>exact TAt.no fun _=>rfl
theorem T_ok (hE:GE w o₀ n r.E)(hT:GT w o₀ n r.T)(hTs:GTs w o₀ n r.Ts):GT w o₀ n (stepT r):=fun _ _ _ _ _ _ hA hN h=>T_all hE hT hTs _ hA hN h
theorem isSto_kinds {k:Option NameKind}(h:isSto k=true):k=some .local∨k=some .cell:=by
 induction k using Option.casesOn with
 | none=>exact ftC h
 | some k=>induction k using NameKind.casesOn <;> first | exact .inl rfl | exact .inr rfl | exact ftC h
theorem put_ok {x:Str}{a:AV}{v:Value}{Q:Unit→Shared→Prop}(hN:EnvOk env)(h:putLoc st (nm x) a=some st')(R:Rep w o₀ B env ad st s)(V:VR st.μ.length ad s.heap a v)
  (k:∀ s',Nx w o₀ B env ad st ad st' s'→(∀ b o,b≠env.locals→(∀ x c,env.cells.lookup x=some c→b≠c)→s.heap.get? b=some o→s'.heap.get? b=some o)→Q () s'):wpAny (model Pr w) A (storeName env x v) Q E s:=by
 unfold putLoc at h
 refine iteE h fun hk h=>?_
 kt_eqs
 rw [R.kindOf] at hk
 rcases isSto_kinds hk with e | e
 ·refine x1_1 (R.ns) fun m nn f=>?_
  refine wpAny_storeName_local e nn (fun h' hn hs=>k _ ⟨Agree.refl _ _,Nat.le_refl _,R.store V e f hn hs⟩ fun b o h1 _ h3=>(hs.2 b h1).trans h3) ?_
  rw [hN.kind];rfl
 ·refine x1_0 (R.cells x e) fun c hc=>?_
  refine x1_0 (R.cellObj _ _ hc) fun v₀ hcell=>?_
  exact wpAny_storeName_cell hN.kind e hc hcell fun h' hn hs=>k _ ⟨Agree.refl _ _,Nat.le_refl _,R.storeC V e hc hn hs⟩ fun b o _ h2 h3=>(hs.2 b (h2 _ _ hc)).trans h3
set_option tactic.hygienic true
end
set_option tactic.hygienic true
section
variable {w:World}{o₀:OsState}{A:Around}{env:Env}{st st':St}{B:Addr→Obj→Prop}{ad:Nat→Addr}{s:Shared}{E:Value→Shared→Prop}{n:Nat}{r:Rec}
noncomputable def Kp (env:Env)(s s':Shared):Prop:=∀ b o,b≠env.locals→(∀ x c,env.cells.lookup x=some c→b≠c)→s.heap.get? b=some o→s'.heap.get? b=some o
set_option tactic.hygienic false
theorem Kp.refl:Kp env s s:=fun _ _ _ _ h=>h
theorem Kp.trans {s s' s'':Shared}(x:Kp env s s')(y:Kp env s' s''):Kp env s s'':=fun b o h1 h2 h=>y b o h1 h2 (x b o h1 h2 h)
theorem putLoc_μ {x:Nm}{a:AV}(h:putLoc st x a=some st'):st'.μ=st.μ:=by
 unfold putLoc at h;split at h
 ·kt_eqs;rfl
 ·kt_eqs
theorem VR0_VR {n:Nat}{h:Heap}{a:AV}{v:Value}(x:VR0 n ad a v):VR n ad h a v:=by
 induction a using AV.casesOn <;> first | exact x | exact x.elim
set_option tactic.hygienic true
theorem putAll_cons {t:Expr}{ts:List Expr}{vs:List AV}(h:putAll (t::ts) vs st=some st') :
  ∃ x p v vs' st₁,t=.Name x p∧vs=v::vs'∧putLoc st (nm x) v=some st₁∧putAll ts vs' st₁=some st':=by
 induction vs using List.casesOn with
 | nil=>induction t using Expr.casesOn <;> exact noS h
 | cons v vs=>
  induction t using Expr.casesOn <;> try exact noS h
  rename_i x p
  refine bindE1 h fun st₁ h1 h2=>?_
  exact ⟨x,p,v,vs,st₁,rfl,rfl,h1,h2⟩
set_option tactic.hygienic false
theorem putAll_len {ts:List Expr}{vs:List AV}(h:putAll ts vs st=some st'):(assignEach ts env).length=vs.length∧(assignEach ts env).findIdx? (·.1)=none:=by
 induction ts generalizing vs st with
 | nil=>induction vs using List.casesOn with
  | nil=>exact ⟨rfl,rfl⟩
  | cons _ _=>exact noS h
 | cons t ts ih=>
  refine x5_3 (putAll_cons h) fun x p v vs' st₁ hq5 hq6 h1 h2=>?_;subst hq5;subst hq6
  have:=ih h2
  refine ⟨congrArg Nat.succ this.1,?_⟩
  show ((false,assign (.Name x p) env)::assignEach ts env).findIdx? (·.1)=none
  rw [List.findIdx?_cons]
  simp [this.2]
theorem putAll_μ {ts:List Expr}{vs:List AV}(h:putAll ts vs st=some st'):st'.μ=st.μ:=by
 induction ts generalizing vs st with
 | nil=>induction vs using List.casesOn with
  | nil=>obtain rfl:=Option.some.inj h;rfl
  | cons _ _=>exact noS h
 | cons t ts ih=>
  refine x5_3 (putAll_cons h) fun x p v vs' st₁ hq5 hq6 h1 h2=>?_;subst hq5;subst hq6
  rw [ih h2,putLoc_μ h1]
theorem putAll_ok {Q:Unit→Shared→Prop}{ts:List Expr}{vs:List AV}{us:List Value}(hN:EnvOk env)(h:putAll ts vs st=some st')(R:Rep w o₀ B env ad st s)(al:All2 (VR0 st.μ.length ad) vs us)
  (k:∀ s',Nx w o₀ B env ad st ad st' s'→Kp env s s'→Q () s'):wpAny (model Pr w) A (assignInOrder ((assignEach ts env).map (·.2)) us) Q E s:=by
 induction ts generalizing vs us st s with
 | nil=>
  induction vs using List.casesOn with
  | nil=>obtain rfl:=Option.some.inj h;exact assignInOrder_nil (k _ (.refl R) .refl)
  | cons _ _=>exact noS h
 | cons t ts ih=>
  refine x5_3 (putAll_cons h) fun x p v vs' st₁ hq5 hq6 h1 h2=>?_;subst hq5;subst hq6
  cases al with
  | cons hv al=>
   have hμ:=putLoc_μ h1
   show wpAny _ _ (assignInOrder ((assign (.Name x p) env)::(assignEach ts env).map (·.2)) _) _ _ _
   refine assignInOrder_cons (PyProof.Rows.assign_Name (put_ok hN h1 R (VR0_VR hv) fun s₁ N₁ K₁=>?_))
   exact ih h2 N₁.R (by rw [hμ];exact al) fun s₂ N₂ K₂=>k _ (N₁.seq' N₂) (Kp.trans K₁ K₂)
theorem putNames_ok {Q:Unit→Shared→Prop}{ts:List Str}{vs:List AV}{us:List Value}(hN:EnvOk env)(h:putNames ts vs st=some st')(R:Rep w o₀ B env ad st s)(al:All2 (VR0 st.μ.length ad) vs us)
  (k:∀ s',Nx w o₀ B env ad st ad st' s'→Kp env s s'→Q () s'):wpAny (model Pr w) A (assignInOrder (ts.map fun n=>bindName env n) us) Q E s:=by
 induction ts generalizing vs us st s with
 | nil=>
  induction vs using List.casesOn with
  | nil=>obtain rfl:=Option.some.inj h;exact assignInOrder_nil (k _ (.refl R) .refl)
  | cons _ _=>exact noS h
 | cons t ts ih=>
  induction vs using List.casesOn with
  | nil=>exact noS h
  | cons v vs=>
  refine bindE1 h fun st₁ h1 h2=>?_
  cases al with
  | cons hv al=>
   have hμ:=putLoc_μ h1
   refine assignInOrder_cons (bindName_ (put_ok hN h1 R (VR0_VR hv) fun s₁ N₁ K₁=>?_))
   exact ih h2 N₁.R (by rw [hμ];exact al) fun s₂ N₂ K₂=>k _ (N₁.seq' N₂) (Kp.trans K₁ K₂)
theorem All2.rev {α β:Type}{R:α→β→Prop}{l:List α}{m:List β}(h:All2 R l m):All2 R l.reverse m.reverse:=by
 induction h with
 | nil=>exact .nil
 | cons x _ ih=>rw [List.reverse_cons,List.reverse_cons];exact ih.app (.cons x .nil)
theorem Rep.ext (R:Rep w o₀ B env ad st s){h':Heap}(hs:Heap.ExtBut s.heap.objs.size s.heap h'):Rep w o₀ B env ad st {s with heap:=h'}:=
 R.grow (fun a o e=>hs a o (Nat.ne_of_lt (Heap.lt_size e)) e) rfl rfl
theorem giveAll_ok {Q:Unit→Shared→Prop}{ts:List Expr}{kk:Nat}{p:Pos}{a:AV}{v:Value}(hA:A.handled=none)(hN:EnvOk env)(h:giveAll ts a st=some st')(R:Rep w o₀ B env ad st s)(V:VR st.μ.length ad s.heap a v)
  (k:∀ s',Nx w o₀ B env ad st ad st' s'→Kp env s s'→Q () s'):wpAny (model Pr w) A (assign (.Tuple ts kk p) env v) Q E s:=by
 induction a using AV.casesOn <;> try exact noS h
 refine x2_2 V fun t vs hq2 it al=>?_;subst hq2
 refine wpAny_assign_Tuple hA it ?_ (putAll_len h).2 fun h' hs=>?_
 ·rw [(putAll_len h).1,al.length];rfl
 ·exact putAll_ok hN h (R.ext hs) al fun s' N K=>k s' ⟨N.ag,N.le,N.R⟩ (Kp.trans (fun b o _ _ e=>hs b o (Nat.ne_of_lt (Heap.lt_size e)) e) K)
theorem give_ok {Q:Unit→Shared→Prop}{t:Expr}{a:AV}{v:Value}(hA:A.handled=none)(hN:EnvOk env)(h:giveTo t a st=some st')(R:Rep w o₀ B env ad st s)(V:VR st.μ.length ad s.heap a v)
  (k:∀ s',Nx w o₀ B env ad st ad st' s'→Kp env s s'→Q () s'):wpAny (model Pr w) A (assign t env v) Q E s:=by
 induction t using Expr.casesOn <;> try exact noS h
 ·exact PyProof.Rows.assign_Name (put_ok hN h R V k)
 ·exact giveAll_ok hA hN h R V k
theorem giveRev_ok {Q:Unit→Shared→Prop}{ns:List Str}{a:AV}{v:Value}(hA:A.handled=none)(hN:EnvOk env)(h:giveRev ns a st=some st')(R:Rep w o₀ B env ad st s)(V:VR st.μ.length ad s.heap a v)
  (k:∀ s',Nx w o₀ B env ad st ad st' s'→Q () s') :
  wpAny (model Pr w) A (unpackItems v ns.length none) (fun items s₂=>wpAny (model Pr w) A (assignInOrder (ns.reverse.map fun n=>bindName env n) items.reverse) Q E s₂) E s:=by
 induction a using AV.casesOn <;> try exact noS h
 refine x2_2 V fun t vs hq2 it al=>?_;subst hq2
 simp only [giveRev] at h
 refine iteE h fun hl h=>?_
 have e:ns.length=(⟨vs⟩:Array Value).size:=by rw [beq_iff_eq] at hl;rw [hl,al.length];rfl
 rw [e]
 refine wpAny_unpackItems_tuple hA it fun h' hs=>?_
 exact putNames_ok hN h (R.ext hs) al.rev fun s' N K=>k s' ⟨N.ag,N.le,N.R⟩
theorem swaps_not {e:Expr}{t:Option Expr}{l:Nat}(h:¬ isCompE e=true):swapsWith e t l env=pure false:=by
 induction e using Expr.casesOn <;> first | rfl | exact absurd rfl h
theorem swapped_eq {ts vs:List Expr}{k k':Nat}{p p':Pos}(hN:EnvOk env){x:Option (List Str)}(h:swapNames env.scope.names ts vs=some x):swappedStores [.Tuple ts k p] (.Tuple vs k' p') env=pure x:=by
 have hb:(env.blockKind != .function)=false:=by unfold Env.blockKind;rw [hN.kind];rfl
 unfold swapNames at h
 unfold swappedStores
 rw [hb]
 show (if (!(ts.length==2||ts.length==3)||vs.length != ts.length||false)=true then pure none else _)=_
 rw [Bool.or_false]
 refine iteB h (fun h1 h=>?_) fun h1 h=>?_
 ·obtain rfl:=Option.some.inj h;exact (if_pos h1).trans rfl
 refine (if_neg h1).trans ?_
 refine iteB h (fun h2 h=>?_) fun h2 h=>?_
 ·obtain rfl:=Option.some.inj h;exact (if_pos h2).trans rfl
 refine (if_neg h2).trans ?_
 refine iteB h (fun h3 h=>?_) fun h3 h=>?_
 ·obtain rfl:=Option.some.inj h;exact (if_pos h3).trans rfl
 refine (if_neg h3).trans ?_
 refine iteB h (fun h4 h=>?_) fun h4 h=>?_
 ·obtain rfl:=Option.some.inj h;exact (if_pos h4).trans rfl
 refine (if_neg h4).trans ?_
 refine iteN h fun h5 h=>?_
 obtain rfl:=Option.some.inj h;exact (if_neg h5).trans rfl
theorem swapped_none {ts:List Expr}{k:Nat}{p:Pos}{e:Expr}(h:∀ vs k p,e≠.Tuple vs k p):swappedStores [.Tuple ts k p] e env=pure none:=by
 induction e using Expr.casesOn <;> first | rfl | exact absurd rfl (h _ _ _)
set_option tactic.hygienic true
end
section
variable {w:World}{o₀:OsState}{A:Around}{env:Env}{st st':St}{B:Addr→Obj→Prop}{ad:Nat→Addr}{s:Shared}{E:Value→Shared→Prop}{n:Nat}{r:Rec}
set_option tactic.hygienic false
theorem Rep.touch (R:Rep w o₀ B env ad st s){a:Addr}{o:Obj}{h':Heap}{tk:Nat}{vs:Array Value}{T:String}(e:s.heap.get? a=some o)(hd:o.data=.fields vs)(hc:o.cls=.type T)(hT:T≠"list"∧T≠"tuple"∧T≠"dict")(hB:∀ o,¬ B a o)
  (hs:∀ b ob,b≠a→s.heap.get? b=some ob→h'.get? b=some ob):Rep w o₀ B env ad st {s with heap:=h',toks:=tk}:=by
 have hdata:∀ {b ob},s.heap.get? b=some ob→(∀ vs,ob.data≠.fields vs)→b≠a:=by
  rintro b ob e' h rfl;cases someI e e';exact h _ hd
 have ht:∀ t items,s.heap.IsTuple t items→h'.IsTuple t items:=fun t items ⟨ob,e',c,k,d⟩=>⟨ob,hs _ _ (hdata e' (by simp [d])) e',c,k,d⟩
 have hv:∀ u v,VR st.μ.length ad s.heap u v→VR st.μ.length ad h' u v:=fun u v x=>x.mono (Nat.le_refl _) (Agree.refl _ _) ht
 refine {kept:=fun b ob h=>hs b ob (by rintro rfl;exact hB _ h) (R.kept b ob h),top:=R.top,kd:=R.kd,ns:=?_,cl:=?_,cells:=R.cells,cellObj:=?_,apart:=R.apart,mem:=?_,inj:=R.inj,offB:=R.offB,tab:=?_,bare:=R.bare,os:=R.os}
 ·refine x1_1 (R.ns) fun m hz01 f=>?_;refine x3_2 hz01 fun o' es ep e' d' r=>?_
  exact ⟨m,⟨o',es,ep,hs _ _ (hdata e' (by simp [d'])) e',d',r⟩,fun x v e k=>let ⟨val,a,b⟩:=f x v e k;⟨val,a,hv _ _ b⟩⟩
 ·intro y u e k
  refine x2_2 (R.cl y u e k) fun c val a hz03 d=>?_;refine x1_1 hz03 fun oc ec dc=>?_
  exact ⟨c,val,a,⟨oc,hs _ _ (hdata ec (by simp [dc])) ec,dc⟩,hv _ _ d⟩
 ·intro y c m
  refine x2_1 (R.cellObj y c m) fun v₀ oc ec dc=>?_
  exact ⟨v₀,oc,hs _ _ (hdata ec (by simp [dc])) ec,dc⟩
 ·intro j oj ej
  have hjl:j < st.μ.length:=by
   rcases Nat.lt_or_ge j st.μ.length with h | h
   ·exact h
   ·rw [List.getElem?_eq_none h] at ej;exact noS ej
  obtain ⟨oi,ei,ci,it,k,di⟩:=R.at hjl
  refine (R.mem j oj ej).mono hv (fun ob e=>hs _ _ (hdata ei (by simp [di])) e) fun D ob eD cD _ _=>hs _ _ ?_ eD
  rintro rfl;rw [e] at eD;cases eD;refine x2_0 cD fun _ _ cD=>?_;rw [hd] at cD;cases cD
 ·intro b h
  refine x1_0 (R.tab b h) fun vs eb=>?_
  refine ⟨vs,hs _ _ ?_ eb⟩
  rintro rfl;cases someI e eb;cases hc
set_option tactic.hygienic true
inductive ItR (h:Heap)(n:Nat)(ad:Nat→Addr)(it:Addr):AIt→Prop
 | str (x:List Nat) (t:Tok) (i:Nat):h.IsStrIter it (strIterType ⟨⟨x⟩⟩) ⟨⟨x⟩⟩ t i→ItR h n ad it (.vals ((x.drop i).map fun c=>.str [c]))
 | tup (t:Addr) (vs:List Value) (l:List AV) (i:Nat):h.IsTupleIter it t i→h.IsTuple t ⟨vs⟩→All2 (VR0 n ad) l (vs.drop i)→ItR h n ad it (.vals l)
 | rng (x left step:Int):IsRangeIter h it x left step→ItR h n ad it (.vals (rng x left step))
 | lst (i k:Nat):i < n→h.IsListIter it (ad i) k→ItR h n ad it (.lst i k)
set_option tactic.hygienic false
theorem ItR.obj {h:Heap}{n:Nat}{it:Addr}{ai:AIt}(x:ItR h n ad it ai):∃ o vs T,h.get? it=some o∧o.data=.fields vs∧o.cls=.type T∧(T≠"list"∧T≠"tuple"∧T≠"dict"):=by
 cases x with
 | str x t i hi=>refine x1_2 hi fun o e c d=>?_;exact ⟨o,_,_,e,d,c,by unfold strIterType;split <;> decide⟩
 | tup t vs l i hi _ _=>refine x1_2 hi fun o e c d=>?_;exact ⟨o,_,_,e,d,c,by decide⟩
 | rng x l s hi=>exact ⟨_,_,_,hi,rfl,rfl,by decide⟩
 | lst i k _ hi=>refine x1_2 hi fun o e c d=>?_;exact ⟨o,_,_,e,d,c,by decide⟩
theorem ItR.keep {it:Addr}{ai:AIt}{ad':Nat→Addr}{s':Shared}(R:Rep w o₀ B env ad st s)(x:ItR s.heap st.μ.length ad it ai)(hk:∀ o,s.heap.get? it=some o→s'.heap.get? it=some o)
  (ht:∀ t items,s.heap.IsTuple t items→s'.heap.IsTuple t items) (ag:Agree st.μ.length ad ad') (le:st.μ.length≤st'.μ.length):ItR s'.heap st'.μ.length ad' it ai:=by
 cases x with
 | str x t i hi=>refine x1_2 hi fun o e c d=>?_;exact .str x t i ⟨o,hk _ e,c,d⟩
 | tup t vs l i hi ti al=>refine x1_2 hi fun o e c d=>?_;exact .tup t vs l i ⟨o,hk _ e,c,d⟩ (ht _ _ ti) (al.mono fun a b r=>r.mono le ag)
 | rng x l s hi=>exact .rng x l s (hk _ hi)
 | lst i k h hi=>refine x1_2 hi fun o e c d=>?_;exact .lst i k (Nat.lt_of_lt_of_le h le) (by rw [ag i h];exact ⟨o,hk _ e,c,d⟩)
theorem rng_succ {x left step:Int}(h:0 < left):rng x left step=.int x::rng (x+step) (left - 1) step:=by
 unfold rng
 have e:left.toNat=(left - 1).toNat+1:=by kt_len
 rw [e,List.range_succ_eq_map,List.map_cons,List.map_map]
 congr 1
 ·simp
 ·apply List.map_congr_left
  intro k _
  simp only [Function.comp]
  congr 1
  push_cast
  rw [Int.mul_add];kt_len
set_option tactic.hygienic true
theorem next_ok {it:Addr}{ai:AIt}{res:Option (AV × AIt)}{Q:Option Value→Shared→Prop}(hA:A.handled=none)(R:Rep w o₀ B env ad st s)(x:ItR s.heap st.μ.length ad it ai)(hB:∀ o,¬ B it o)(h:nextIt ai st.μ=some res)
  (k:∀ s',Rep w o₀ B env ad st s'→(∀ b o,b≠it→s.heap.get? b=some o→s'.heap.get? b=some o) →
   match res with
   | none=>Q none s'
   | some (a,ai')=>∀ v,VR st.μ.length ad s'.heap a v→ItR s'.heap st.μ.length ad it ai'→Q (some v) s'):wpAny (model Pr w) A (pyNext (.ref it)) Q E s:=by
 refine x3_3 (x.obj) fun o vs T e hd hc hT=>?_
 have tch:∀ h' tk,(∀ b ob,b≠it→s.heap.get? b=some ob→h'.get? b=some ob)→Rep w o₀ B env ad st {s with heap:=h',toks:=tk}:=fun h' tk hs=>R.touch e hd hc hT hB hs
 have same:∀ {h'},Heap.SameBut it s.heap h'→∀ b ob,b≠it→s.heap.get? b=some ob→h'.get? b=some ob:=fun hs b ob n e=>(hs.2 b n).trans e
 have ext:∀ {h'},Heap.ExtBut it s.heap h'→∀ b ob,b≠it→s.heap.get? b=some ob→h'.get? b=some ob:=fun hs b ob n e=>hs b ob n e
 cases x with
 | str x t i hi=>
  induction hx:x[i]? using Option.casesOn with
  | none=>
   have hd0:x.drop i=[]:=by rw [List.drop_eq_nil_iff];exact List.getElem?_eq_none_iff.1 hx
   rw [hd0] at h
   kt_eqs
   have hx':(⟨⟨x⟩⟩:Str).cps[i]?=none:=by simpa using hx
   unfold strIterType at hi
   split at hi
   ·exact wpAny_pyNext_ascii_end hA hi hx' fun h' hs=>k _ (tch _ s.toks (ext hs)) (ext hs)
   ·exact wpAny_pyNext_wide_end hA hi hx' fun h' hs=>k _ (tch _ s.toks (ext hs)) (ext hs)
  | some c=>
   have hd0:x.drop i=c::x.drop (i+1):=by
    obtain ⟨h1,h2⟩:=List.getElem?_eq_some_iff.1 hx
    rw [← h2];exact List.drop_eq_getElem_cons h1
   rw [hd0] at h
   kt_eqs
   have hx':(⟨⟨x⟩⟩:Str).cps[i]?=some c:=by simpa using hx
   unfold strIterType at hi
   split at hi
   next ha=>exact wpAny_pyNext_ascii_item hi hx' fun h' hi' hs=>k _ (tch _ _ (same hs)) (same hs) _ ⟨_,rfl⟩ (.str x t (i+1) (by unfold strIterType;rw [if_pos ha];exact hi'))
   next ha=>exact wpAny_pyNext_wide_item hi hx' fun h' hi' hs=>k _ (tch _ _ (same hs)) (same hs) _ ⟨_,rfl⟩ (.str x t (i+1) (by unfold strIterType;rw [if_neg ha];exact hi'))
 | tup t ws l i hi ti al=>
  have hti:t≠it:=by
   rintro rfl
   refine x1_2 ti fun o' e' c' _=>?_
   rw [e] at e';cases e';rw [c'] at hc;cases hc;exact hT.2.1 rfl
  induction hx:ws[i]? using Option.casesOn with
  | none=>
   have hd0:ws.drop i=[]:=by rw [List.drop_eq_nil_iff];exact List.getElem?_eq_none_iff.1 hx
   rw [hd0] at al
   cases al
   kt_eqs
   exact wpAny_pyNext_tuple_end hA hi ti (by simpa using hx) fun h' hs=>k _ (tch _ s.toks (ext hs)) (ext hs)
  | some c=>
   have hd0:ws.drop i=c::ws.drop (i+1):=by
    obtain ⟨h1,h2⟩:=List.getElem?_eq_some_iff.1 hx
    rw [← h2];exact List.drop_eq_getElem_cons h1
   rw [hd0] at al
   cases al with
   | cons hv al=>
   kt_eqs
   exact wpAny_pyNext_tuple_item hi ti (by simpa using hx) fun h' hi' hs=>k _ (tch _ s.toks (same hs)) (same hs) _ (VR0_VR hv)
    (.tup t ws _ (i+1) hi' (let ⟨ot,et,rt⟩:=ti;⟨ot,same hs _ _ hti et,rt⟩) al)
 | rng x left step hi=>
  by_cases hl:0 < left
  ·rw [rng_succ hl] at h
   kt_eqs
   exact wpAny_pyNext_range_item hi hl fun h' hi' hs=>k _ (tch _ _ (same hs)) (same hs) _ ⟨_,rfl⟩ (.rng _ _ _ hi')
  ·have e0:rng x left step=[]:=by unfold rng;rw [show left.toNat=0 by kt_len];rfl
   rw [e0] at h
   kt_eqs
   exact wpAny_pyNext_range_end hA hi (by kt_len) fun h' hs=>k _ (tch _ s.toks (ext hs)) (ext hs)
 | lst i kk hlt hi=>
  simp only [nextIt] at h
  split at h
  next l c el=>
   refine x1_2 (R.mem _ _ el) fun ws p al _=>?_
   split at h
   next v ev=>
    kt_eqs
    refine x1_1 (al.get ev) fun y hy ry=>?_
    refine wpAny_pyNext_list_item hi p.isList (by simpa using hy) fun h' hi' hs=>k _ (tch _ s.toks (same hs)) (same hs) _ (ry.mono (Nat.le_refl _) (Agree.refl _ _) ?_) (.lst i (kk+1) hlt hi')
    rintro t items ⟨ob,et,ct,rt⟩
    refine ⟨ob,same hs _ _ ?_ et,ct,rt⟩
    rintro rfl;rw [e] at et;cases et;rw [ct] at hc;cases hc;exact hT.2.1 rfl
   next ev=>
    kt_eqs
    exact wpAny_pyNext_list_end hA hi p.isList (by simpa using al.none ev) fun h' hs=>k _ (tch _ s.toks (ext hs)) (ext hs)
  next=>exact noS h
end
set_option tactic.hygienic false
section
variable {w:World}{o₀:OsState}{A:Around}{env:Env}{st st':St}{B:Addr→Obj→Prop}{ad:Nat→Addr}{s:Shared}{E:Value→Shared→Prop}{n:Nat}{r:Rec}
theorem notStar_cons {e:Expr}{es:List Expr}(h:notStar e=true):starEach (e::es) env=(false,eval e env)::starEach es env:=by
 induction e using Expr.casesOn <;> first | rfl | exact ftC h
theorem noStar {as:List Expr}(h:as.all notStar=true):(starEach as env).any (·.1)=false:=by
 induction as with
 | nil=>rfl
 | cons e es ih=>
  rw [List.all_cons,Bool.and_eq_true] at h
  rw [notStar_cons h.1,List.any_cons,ih h.2];rfl
theorem noStarB {as:List Expr}{pos:Pos}(h:as.all notStar=true):(backTo pos (starEach as env)).any (·.1)=false:=by
 unfold backTo
 rw [List.any_map]
 exact noStar h
theorem args_ok {f:Value}{as:List Expr}{pos:Pos}{Q:Args→Shared→Prop}(ha:as.all notStar=true)
  (h:wpAny (model Pr w) A (spliced (backTo pos (starEach as env))) (fun vs s'=>Q ⟨vs,[]⟩ s') E s):wpAny (model Pr w) A (evalArgs f true (backTo pos (starEach as env)) []) Q E s:=by
 induction as using List.casesOn with
 | nil=>
  show wpAny (model Pr w) A (evalArgs f true [] []) Q E s
  unfold evalArgs
  show wpAny (model Pr w) A (spliced []>>=_) Q E s
  refine wpAny_bind (wpAny_mono h (fun vs s' h'=>?_) fun _ _ x=>x)
  refine wpAny_holding ?_
  exact wpAny_bind (wpAny_pure (wpAny_bind (wpAny_pure (wpAny_pure h'))))
 | cons e es=>
  rw [List.all_cons,Bool.and_eq_true] at ha
  rw [notStar_cons ha.1] at h ⊢
  exact evalArgs_plain h
theorem withT {T:String}{as:List Expr}{pos:Pos}{Q:Value→Shared→Prop}(ha:as.all notStar=true)
  (h:wpAny (model Pr w) A (spliced (backTo pos (starEach as env))) (fun vs s'=>wpAny (model Pr w) A (call (.type T) vs) Q E s') E s):wpAny (model Pr w) A (callWith pos (.type T) [] (backTo pos (starEach as env)) []) Q E s:=
 PyProof.Rows.callWith_type (noStarB ha) (args_ok ha h)
theorem withB {id:String}{first:List Value}{as:List Expr}{pos:Pos}{Q:Value→Shared→Prop}(ha:as.all notStar=true)
  (h:wpAny (model Pr w) A (spliced (backTo pos (starEach as env))) (fun vs s'=>wpAny (model Pr w) A (call (.builtin id) (first++vs)) Q E s') E s):wpAny (model Pr w) A (callWith pos (.builtin id) first (backTo pos (starEach as env)) []) Q E s:=
 Calls.callWith_builtin (noStarB ha) (args_ok ha h)
theorem withF {a:Addr}{o:Obj}{fd:FuncData}{first:List Value}{as:List Expr}{pos:Pos}{Q:Value→Shared→Prop}(ha:as.all notStar=true)(hd:o.data=.func fd)
  (h:wpAny (model Pr w) A (spliced (backTo pos (starEach as env))) (fun vs s'=>s'.heap.get? a=some o∧wpAny (model Pr w) A (call (.ref a) (first++vs)) Q E s') E s):wpAny (model Pr w) A (callWith pos (.ref a) first (backTo pos (starEach as env)) []) Q E s:=
 Calls.callWith_function (args_ok ha (wpAny_mono h (fun vs s' x=>⟨⟨x.1,hd⟩,x.2⟩) fun _ _ e=>e))
theorem nm_of {x:Str}{T:String}(h:nm x=nm (Str.ofString T)):x=Str.ofString T:=nm_inj h
theorem callT_ok {T:String}{x:Str}{p pos:Pos}{as:List Expr}{vs:List AV}{Q:Value→Shared→Prop}(hEs:GEs w o₀ n r.Es)(hA:AOk A n)(hN:EnvOk env)(hk:isGlob (kindIn st.kd (nm x))=true)(hx:x=Str.ofString T)
  (hT:T∈["int","str","bool","range","enumerate"]) (ha:as.all notStar=true) (h:r.Es as st=some (vs,st')) (R:Rep w o₀ B env ad st s)
  (k:∀ ad' us s',Nx w o₀ B env ad st ad' st' s'→All2 (VR st'.μ.length ad' s'.heap) vs us→wpAny (model Pr w) A (call (.type T) us) Q E s'):wpAny (model Pr w) A (eval (.Call (.Name x p) as [] pos) env) Q E s:=by
 subst hx
 have hg:=gl3_at w.params hT
 refine Call_Name rfl (globB R hN hk ?_ hg.1 hg.2 (withT ha (hEs hA hN h R k)))
 rw [beq_eq_false_iff_ne]
 have:∀ T∈["int","str","bool","range","enumerate"],Str.ofString T≠Str.ofString "__debug__":=by decide +kernel
 exact this T hT
theorem callB_ok {T:String}{x:Str}{p pos:Pos}{as:List Expr}{vs:List AV}{Q:Value→Shared→Prop}(hEs:GEs w o₀ n r.Es)(hA:AOk A n)(hN:EnvOk env)(hk:isGlob (kindIn st.kd (nm x))=true)(hx:x=Str.ofString T)
  (hT:T∈["len","chr","ord","max","min","sum","isinstance"]) (ha:as.all notStar=true) (h:r.Es as st=some (vs,st')) (R:Rep w o₀ B env ad st s)
  (k:∀ ad' us s',Nx w o₀ B env ad st ad' st' s'→All2 (VR st'.μ.length ad' s'.heap) vs us→wpAny (model Pr w) A (call (.builtin T) us) Q E s'):wpAny (model Pr w) A (eval (.Call (.Name x p) as [] pos) env) Q E s:=by
 subst hx
 have hg:=gl2_at w.params hT
 refine Call_Name rfl (globB R hN hk ?_ hg.1 hg.2 (withB (first:=[]) ha (hEs hA hN h R k)))
 rw [beq_eq_false_iff_ne]
 have:∀ T∈["len","chr","ord","max","min","sum","isinstance"],Str.ofString T≠Str.ofString "__debug__":=by decide +kernel
 exact this T hT
theorem rangeOf_ok {vs:List AV}{us:List Value}{p:Int × Int × Int}{Q:Value→Shared→Prop}(h:rangeOf vs=some p)(hc:small p.2.2=true)(R:Rep w o₀ B env ad st s)(al:All2 (VR st.μ.length ad s.heap) vs us)
  (k:∀ s' t u v,Rep w o₀ B env ad st s'→IsRange s'.heap s.heap.objs.size p.1 p.2.1 p.2.2 t u v→Q (.ref s.heap.objs.size) s'):wpAny (model Pr w) A (call (.type "range") us) Q E s:=by
 rcases al with _ | ⟨h1,_ | ⟨h2,_ | ⟨h3,_ | ⟨h4,al⟩⟩⟩⟩
 ·exact noS h
 ·refine mapE1 h fun i e h=>?_
  subst h;obtain rfl:=asI_inv e;refine x1_0 h1 fun t hq1=>?_;subst hq1;exact call_range_1 (k _ _ _ _ ((R.push _).toks _) (IsRange.new ..))
 ·refine bindE1 h fun i e h=>?_
  refine mapE1 h fun j e' h=>?_
  subst h;obtain rfl:=asI_inv e;obtain rfl:=asI_inv e';refine x1_0 h1 fun t hq1=>?_;subst hq1;refine x1_0 h2 fun t hq1=>?_;subst hq1;exact call_range_2 (k _ _ _ _ ((R.push _).toks _) (IsRange.new ..))
 ·refine bindE1 h fun i e h=>?_
  refine bindE1 h fun j e' h=>?_
  refine bindE1 h fun l e2 h=>?_
  refine iteN h fun hz h=>?_
  obtain rfl:=Option.some.inj h;obtain rfl:=asI_inv e;obtain rfl:=asI_inv e';obtain rfl:=asI_inv e2;refine x1_0 h1 fun t hq1=>?_;subst hq1;refine x1_0 h2 fun t hq1=>?_;subst hq1;refine x1_0 h3 fun t hq1=>?_;subst hq1
  exact call_range_3 (by simpa using hz) (k _ _ _ _ ((R.push _).toks _) (IsRange.new ..)) (.inl (pylong_not hc))
 ·exact noS h
theorem isRangeE_inv {x:Expr}{as:List Expr}(h:isRangeE x=some as):∃ f p q,x=.Call (.Name f p) as [] q∧nm f=[114,97,110,103,101]∧as.all notStar=true:=by
 induction x using Expr.casesOn with
 | Call f as' ks q=>
  refine iteE h fun hf h=>?_
  rw [Bool.and_eq_true,Bool.and_eq_true] at hf
  obtain rfl:=Option.some.inj h
  obtain ⟨⟨h1,h2⟩,h3⟩:=hf
  induction f using Expr.casesOn with
  | Name f p=>induction ks using List.casesOn with
   | nil=>exact ⟨f,p,q,rfl,beq_iff_eq.1 h1,h3⟩
   | cons _ _=>exact ftC h2
  | _=>exact ftC h1
 | _=>exact noS h
theorem it_ok {x:Expr}{ai:AIt}{Q:Value→Shared→Prop}(hE:GE w o₀ n r.E)(hEs:GEs w o₀ n r.Es)(hA:AOk A n)(hN:EnvOk env)(h:stepIt r x st=some (ai,st'))(R:Rep w o₀ B env ad st s)
  (k:∀ ad' it s',Nx w o₀ B env ad st ad' st' s'→ItR s'.heap st'.μ.length ad' it ai→(∀ o,¬ B it o)→Q (.ref it) s') :
  wpAny (model Pr w) A (eval x env) (fun v s₁=>wpAny (model Pr w) A (pyIter v) Q E s₁) E s:=by
 have fresh:∀ {ad₁ st₁ s₁},Nx w o₀ B env ad st ad₁ st₁ s₁→∀ o,¬ B s₁.heap.objs.size o:=fun N o b=>Nat.lt_irrefl _ (N.R.B_lt b)
 unfold stepIt at h
 revert h
 induction hr:isRangeE x using Option.casesOn with
 | some as=>
  intro h
  refine iteE h fun hk h=>?_
  refine bindE h fun vs st₁ h1 h=>?_
  refine bindE1 h fun ⟨a,b,c⟩ h2 h=>?_
  refine iteE h fun hs h=>?_
  rw [Bool.and_eq_true] at hs
  kt_eqs
  refine x3_2 (isRangeE_inv hr) fun f p pos hq3 hf ha=>?_;subst hq3
  have hx:f=Str.ofString "range":=nm_inj (hf.trans (by decide +kernel))
  refine callT_ok (T:="range") hEs hA hN (by rw [hf];exact hk) hx (by decide) ha h1 R fun ad₁ us s₁ N₁ V₁=>?_
  refine rangeOf_ok h2 hs.2 N₁.R V₁ fun s₂ t u v R₂ hr=>?_
  have N₂:Nx w o₀ B env ad st ad₁ st' s₂:=⟨N₁.ag,N₁.le,R₂⟩
  exact wpAny_pyIter_range hr hs.1 (k _ _ _ ⟨N₁.ag,N₁.le,R₂.push _⟩ (.rng _ _ _ (Heap.get?_push_size _ rfl)) (fresh N₂))
 | none=>
  intro h
  refine iteN h fun _ h=>?_
  refine bindE h fun v st₁ h1 h=>?_
  refine mapE1 h fun ai' h2 h=>?_
  kt_eqs
  refine hE hA hN h1 R fun ad₁ u s₁ N₁ V₁=>?_
  induction v using AV.casesOn with
  | str l=>
   obtain rfl:=Option.some.inj h2
   refine x1_0 V₁ fun t hq1=>?_;subst hq1
   exact wpAny_pyIter_strU (k _ _ _ ⟨N₁.ag,N₁.le,N₁.R.push _⟩ (.str l t 0 ⟨_,Heap.get?_push_size _ rfl,rfl,rfl⟩) (fresh N₁))
  | tup l=>
   obtain rfl:=Option.some.inj h2
   refine x2_2 V₁ fun t vs hq2 it al=>?_;subst hq2
   exact wpAny_pyIter_tuple it (k _ _ _ ⟨N₁.ag,N₁.le,N₁.R.push _⟩ (.tup t vs l 0 ⟨_,Heap.get?_push_size _ rfl,rfl,rfl⟩ (it.push _) al) (fresh N₁))
  | ref i=>
   refine mapE1 h2 fun l e h2=>?_
   refine x1_0 (asL_inv e) fun kk e=>?_
   subst h2
   refine x0_1 V₁ fun hi hq1=>?_;subst hq1
   refine x1_2 (N₁.R.mem _ _ e) fun vs p al _=>?_
   exact wpAny_pyIter_list p.isList (k _ _ _ ⟨N₁.ag,N₁.le,N₁.R.push _⟩ (.lst i 0 hi ⟨_,Heap.get?_push_size _ rfl,rfl,rfl⟩) (fresh N₁))
  | _=>exact noS h2
end
section
variable {w:World}{o₀:OsState}{A:Around}{env:Env}{st st':St}{B:Addr→Obj→Prop}{ad:Nat→Addr}{s:Shared}{E:Value→Shared→Prop}{n:Nat}{r:Rec}{FF:List (Nm × UF)}
set_option tactic.hygienic false
theorem AOk.mono {n m:Nat}(h:AOk A n)(le:m≤n):AOk A m:=⟨h.1,by have:=h.2.1;kt_len,by have:=h.2.2;kt_len⟩
@[elab_as_elim] theorem FlR.el {m:Nat}{ad:Nat→Addr}{h:Heap}{a:AFlow}{f:Flow}{C:AFlow→Flow→Prop}(V:FlR m ad h a f)(k1:C .next .next)(k2:C .cont .cont)(k3:C .brk .brk)(k4:∀ u v,VR m ad h u v→C (.ret u) (.ret v)):C a f:=by
 induction a using AFlow.casesOn with
 | next=>exact (show f=.next from V)▸k1
 | cont=>exact (show f=.cont from V)▸k2
 | brk=>exact (show f=.brk from V)▸k3
 | ret u=>obtain ⟨v,rfl,V⟩:=V;exact k4 _ _ V
theorem SS_ok (hS:GS w o₀ n r.S)(hSS:GSS w o₀ n r.SS):GSS w o₀ n (stepSS r):=by
 intro A env x st st' a hA hN h B ad s Q E R k
 induction x using List.casesOn with
 | nil=>cases h;exact wpAny_execs_nil (k _ _ _ (.refl R) rfl)
 | cons x l=>
  refine bindE h fun f st₁ h1 h=>?_
  refine wpAny_execs_cons (hS hA hN h1 R fun ad₁ v₁ s₁ N₁ V₁=>?_)
  revert h
  refine FlR.el V₁ (fun h=>?_) (fun h=>?_) (fun h=>?_) fun u v V h=>?_
  ·exact hSS hA hN h N₁.R fun ad₂ v₂ s₂ N₂ V₂=>k _ _ _ (N₁.seq' N₂) V₂
  ·cases h;exact k _ _ _ N₁ rfl
  ·cases h;exact k _ _ _ N₁ rfl
  ·cases h;exact k _ _ _ N₁ ⟨v,rfl,V⟩
theorem Rep.not_frame (R:Rep w o₀ B env ad st s){a:Addr}{o:Obj}{vs:Array Value}(e:s.heap.get? a=some o)(hd:o.data=.fields vs):a≠env.locals∧∀ x c,env.cells.lookup x=some c→a≠c:=by
 refine ⟨?_,?_⟩
 ·rintro rfl;refine x1_1 (R.ns) fun m hz01 _=>?_;refine x3_2 hz01 fun o' es ep e' d' _=>?_;exact (dapart e hd e' d' rfl rfl).elim
 ·rintro x c hm rfl;refine x2_1 (R.cellObj _ _ hm) fun v₀ o' e' d'=>?_;exact (dapart e hd e' d' rfl rfl).elim
theorem Rep.fields_rest (R:Rep w o₀ B env ad st s){a:Addr}{o:Obj}{vs:Array Value}{T:String}(e:s.heap.get? a=some o)(hd:o.data=.fields vs)(hc:o.cls=.type T)(hT:T≠"list"∧T≠"tuple"∧T≠"dict"):Rest env ad st.μ.length s a o:=
 R.rest_of e (by simp [hc]) (by simp [hd]) (by simp [hd]) (by rw [hc];intro h;kt_eqs;exact hT.1 rfl) (by simp [hc])
set_option tactic.hygienic true
inductive LpI (w:World)(o₀:OsState)(FF:List (Nm × UF))(n:Nat)(st':St)(B:Addr→Obj→Prop)(env:Env)(ad:Nat→Addr)(st:St)(x:Str)(p:Pos)(b:List Stmt)(fl:AFlow)(it:Addr)(m:Nat)(s₁:Shared):Prop
 | mk (ai₁:AIt) (st₁:St) (ad₁:Nat→Addr) (hm:m≤n) (h:(run FF m).Lp (.Name x p) ai₁ b st₁=some (fl,st')) (N:Nx w o₀ B env ad st ad₁ st₁ s₁) (hi:ItR s₁.heap st₁.μ.length ad₁ it ai₁):LpI w o₀ FF n st' B env ad st x p b fl it m s₁
inductive WhI (w:World)(o₀:OsState)(FF:List (Nm × UF))(n:Nat)(st':St)(B:Addr→Obj→Prop)(env:Env)(ad:Nat→Addr)(st:St)(t:Expr)(b:List Stmt)(fl:AFlow)(m:Nat)(s₁:Shared):Prop
 | mk (st₁:St) (ad₁:Nat→Addr) (hm:m≤n) (h:(run FF m).Wh t b st₁=some (fl,st')) (N:Nx w o₀ B env ad st ad₁ st₁ s₁):WhI w o₀ FF n st' B env ad st t b fl m s₁
set_option tactic.hygienic false
theorem lp_ok (hSS:∀ k,k < n→GSS w o₀ k (run FF k).SS)(hA:AOk A n)(hN:EnvOk env){x:Str}{p:Pos}{ai:AIt}{b:List Stmt}{fl:AFlow}{it:Addr}{R':Result→Shared→Prop}
  (h:(run FF n).Lp (.Name x p) ai b st=some (fl,st')) (R:Rep w o₀ B env ad st s) (hi:ItR s.heap st.μ.length ad it ai) (hB:∀ o,¬ B it o)
  (k:∀ ad' f s',Nx w o₀ B env ad st ad' st' s'→FlR st'.μ.length ad' s'.heap fl f→R' (.ok f) s'):codeAny (model Pr w) A (.forLoop (.Name x p) (.ref it) b [] env) R' s:=by
 refine codeAny_forLoop (fun m s₁=>LpI w o₀ FF n st' B env ad st x p b fl it m s₁) ?_ n ⟨ai,st,ad,Nat.le_refl _,h,.refl R,hi⟩ (fun _=>rfl)
 rintro m s₁ ⟨ai₁,st₁,ad₁,hm,h,N₁,hi⟩
 induction m using Nat.casesOn with
 | zero=>exact noS h
 | succ m=>
  have h:stepLp (run FF m) (.Name x p) ai₁ b st₁=some (fl,st'):=h
  unfold stepLp at h
  refine bindE1 h fun res h1 h=>?_
  refine next_ok hA.1 N₁.R hi hB h1 fun s₂ R₂ K₂=>?_
  have N₂:Nx w o₀ B env ad st ad₁ st₁ s₂:=⟨N₁.ag,N₁.le,R₂⟩
  induction res using Option.casesOn with
  | none=>
   kt_eqs
   exact wpAny_execs_nil (k _ _ _ N₂ rfl)
  | some p'=>
   obtain ⟨a,ai₂⟩:=p'
   intro v V hi₂
   dsimp only at h
   refine bindE1 h fun st₂ h2 h=>?_
   refine bindE h fun f st₃ h3 h=>?_
   refine give_ok hA.1 hN h2 R₂ V fun s₃ N₃ K₃=>?_
   refine x3_3 (hi₂.obj) fun o vs T e hd hc hT=>?_
   refine x0_1 (R₂.not_frame e hd) fun hf1 hf2=>?_
   have e₃:=K₃ it o hf1 hf2 e
   have ht3:∀ t items,s₂.heap.IsTuple t items→s₃.heap.IsTuple t items:=by
    rintro t items it'
    refine x1_2 (R₂.tuple_rest it') fun ot ct dt rt=>?_
    exact ⟨ot,K₃ _ _ rt.2.2.2.1 rt.2.2.2.2.1 rt.1,ct,dt⟩
   have hi₃:ItR s₃.heap st₂.μ.length ad₁ it ai₂:=hi₂.keep R₂ (fun o' e'=>by cases someI e e';exact e₃) ht3 N₃.ag N₃.le
   have rr:=N₃.R.fields_rest e₃ hd hc hT
   refine hSS m hm (hA.mono (Nat.le_of_lt hm)) hN h3 N₃.R.widen fun ad₄ fl₄ s₄ N₄ V₄=>?_
   have N₄':Nx w o₀ B env ad st ad₄ st₃ s₄:=(N₂.seq' N₃).seq N₄
   have again:(run FF m).Lp (.Name x p) ai₂ b st₃=some (fl,st')→∃ m',m' < m+1∧LpI w o₀ FF n st' B env ad st x p b fl it m' s₄:=by
    intro h
    refine ⟨m,Nat.lt_succ_self _,ai₂,st₃,ad₄,by kt_len,h,N₄',?_⟩
    refine hi₃.keep N₃.R (fun o' e'=>?_) (fun t items it'=>?_) N₄.ag N₄.le
    ·cases someI e₃ e';exact N₄.R.kept _ _ rr
    ·refine x1_2 (N₃.R.tuple_rest it') fun ot ct dt rt=>?_
     exact ⟨ot,N₄.R.kept _ _ rt,ct,dt⟩
   revert h
   refine FlR.el V₄ again again (fun h=>?_) fun u v V h=>?_
   ·cases h;exact k _ _ _ N₄' rfl
   ·cases h;exact k _ _ _ N₄' ⟨v,rfl,V⟩
theorem wh_ok (hT:∀ k,k < n→GT w o₀ k (run FF k).T)(hSS:∀ k,k < n→GSS w o₀ k (run FF k).SS)(hA:AOk A n)(hN:EnvOk env){t:Expr}{b:List Stmt}{fl:AFlow}{R':Result→Shared→Prop}
  (h:(run FF n).Wh t b st=some (fl,st')) (R:Rep w o₀ B env ad st s)
  (k:∀ ad' f s',Nx w o₀ B env ad st ad' st' s'→FlR st'.μ.length ad' s'.heap fl f→R' (.ok f) s'):codeAny (model Pr w) A (.whileLoop t b [] env) R' s:=by
 refine codeAny_whileLoop (fun m s₁=>WhI w o₀ FF n st' B env ad st t b fl m s₁) ?_ n ⟨st,ad,Nat.le_refl _,h,.refl R⟩
 rintro m s₁ ⟨st₁,ad₁,hm,h,N₁⟩
 induction m using Nat.casesOn with
 | zero=>exact noS h
 | succ m=>
  have h:stepWh (run FF m) t b st₁=some (fl,st'):=h
  unfold stepWh at h
  refine bindE h fun c st₂ h1 h=>?_
  refine hT m hm (hA.mono (Nat.le_of_lt hm)) hN h1 N₁.R fun ad₂ s₂ N₂=>?_
  induction c using Bool.casesOn with
  | false=>cases h;exact wpAny_execs_nil (k _ _ _ (N₁.seq' N₂) rfl)
  | true=>
   refine bindE h fun f st₃ h3 h=>?_
   refine hSS m hm (hA.mono (Nat.le_of_lt hm)) hN h3 N₂.R fun ad₄ fl₄ s₄ N₄ V₄=>?_
   have N₄':=(N₁.seq' N₂).seq' N₄
   revert h
   refine FlR.el V₄ (fun h=>⟨m,Nat.lt_succ_self _,st₃,ad₄,by kt_len,h,N₄'⟩) (fun h=>⟨m,Nat.lt_succ_self _,st₃,ad₄,by kt_len,h,N₄'⟩) (fun h=>?_) fun u v V h=>?_
   ·cases h;exact k _ _ _ N₄' rfl
   ·cases h;exact k _ _ _ N₄' ⟨v,rfl,V⟩
set_option tactic.hygienic true
end
set_option tactic.hygienic false
section
variable {w:World}{o₀:OsState}{A:Around}{env:Env}{st st':St}{B:Addr→Obj→Prop}{ad:Nat→Addr}{s:Shared}{E:Value→Shared→Prop}{n:Nat}{r:Rec}{FF:List (Nm × UF)}
theorem set_plain {l:Addr}{items:Array Value}{k:Int}{t:Tok}{v:Value}{Q:Unit→Shared→Prop}(hl:s.heap.PlainList l items)
  (h0:0≤k) (hfit:k < 2 ^ 63) (hn:k < items.size)
  (hQ:∀ h',h'.PlainList l (items.setIfInBounds k.toNat v)→Heap.SameBut l s.heap h'→Q () {s with heap:=h'}) :
  wpAny (model Pr w) A (setItem (.ref l) (.int k t) v) Q E s:=by
 refine x1_0 hl fun ne ho=>?_
 have hl:s.heap.IsList l items:=⟨_,ho,rfl,ne,rfl⟩
 unfold setItem
 try with_reducible refine wpAny_holding ?_
 first | refine wpAny_bind (wpAny_pure ?_) | skip
 refine wpAny_bind (wpAny_sequenceKey hl.typeIs (by decide) ?_)
 refine wpAny_bind (wpAny_callSpecial?_slot (name:=Str.ofString "__setitem__") hl.typeIs slot_list_setitem
  (wpAny_call_entry slot_list_setitem hl.typeIs entry_list_setitem ?_ (args_list_setitem _ _ _)))
 show wpAny _ _ (Builtin.List.listSubscript? (.int k t)>>=_) _ _ s
 refine wpAny_bind (wpAny_listSubscript_int (fitsIndex_of h0 hfit) ?_)
 clear hfit
 refine x1_0 (Int.eq_ofNat_of_zero_le h0) fun j hq1=>?_;subst hq1
 have hj:j < items.size:=by kt_len
 have hx':items[j]?=some items[j]:=Array.getElem?_eq_getElem hj
 show wpAny _ _ ((seqItemAt l j>>=fun r=>pure (r.map (j,·)))>>=_) _ _ s
 refine wpAny_bind (wpAny_bind (wpAny_seqItemAt ho rfl (wpAny_pure ?_)))
 rw [hx']
 show wpAny _ _ (setSeqItemAt l j v>>=_) _ _ s
 have hfin:(s.heap.update l (Obj.mapSeq (·.setIfInBounds j v))).PlainList l (items.setIfInBounds j v):=⟨_,IsL.update (n:=ne) ho _⟩
 refine wpAny_bind (wpAny_setSeqItemAt ho rfl ?_)
 first
  | exact wpAny_bind (wpAny_pure (wpAny_pure ⟨.none,rfl,wpAny_pure (hQ _ hfin (Heap.SameBut.update ..))⟩))
  | exact wpAny_pure ⟨.none,rfl,wpAny_pure (hQ _ hfin (Heap.SameBut.update ..))⟩
theorem tup_keep {h h':Heap}{a:Addr}{vs:Array Value}(p:h.PlainList a vs)(hs:Heap.SameBut a h h'):∀ t items,h.IsTuple t items→h'.IsTuple t items:=by
 rintro t items ⟨o,e,c,d⟩
 refine ⟨o,(hs.2 t ?_).trans e,c,d⟩
 rintro rfl
 refine x1_0 p fun k e2=>?_
 cases someI e e2;simp at c
theorem listSet (R:Rep w o₀ B env ad st s){j:Nat}{l l':List AV}{kk kk':Nat}{vs vs':List Value}{h':Heap}(e:st.μ[j]?=some (.list l kk))(p:s.heap.PlainList (ad j) ⟨vs⟩)(p':h'.PlainList (ad j) ⟨vs'⟩)(hs:Heap.SameBut (ad j) s.heap h')
  (al:All2 (VR st.μ.length ad s.heap) l' vs') (z:l'.length≤kk'∧kk'≤topK):Nx w o₀ B env ad st ad {st with μ:=st.μ.set j (.list l' kk')} {s with heap:=h'}:=by
 have hj:j < st.μ.length:=by
  rcases Nat.lt_or_ge j st.μ.length with h | h
  ·exact h
  ·rw [List.getElem?_eq_none h] at e;exact noS e
 exact ⟨Agree.refl _ _,by simp,R.set hj hs ⟨vs',p',al.mono fun a v x=>x.mono (Nat.le_refl _) (Agree.refl _ _) (tup_keep p hs),z⟩⟩
theorem seq_small {n:Nat}{k:Int}{j:Nat}(h:idx n k=some j):Builtin.List.listFitsIndex k=true∧seqIndex? k n=some j:=by
 unfold idx at h
 refine iteE h fun hs h=>?_
 have hs:=of_decide_eq_true hs
 refine ⟨?_,h⟩
 unfold Builtin.List.listFitsIndex
 simp only [topK] at hs
 simp;kt_len
theorem folded_not {x:Expr}{q:AIt × St}(h:stepIt r x st=some q):∀ v,foldedSetIterable x env v=pure v:=by
 intro v
 induction x using Expr.casesOn <;> first | rfl | exact noS h
theorem S_ret {e:Expr}{p:Pos}(hE:GE w o₀ n (run FF n).E):SAt w o₀ n (stepS (run FF n) (.Return (some e) p)) (.Return (some e) p):=by
 intro A env st st' a hA hN h B ad s Q E R k
 refine mapE h fun v st₁ h1 h=>?_
 kt_eqs
 exact wpAny_Return_some (hE hA hN h1 R fun ad₁ v₁ s₁ N₁ V₁=>k _ _ _ N₁ ⟨_,rfl,V₁⟩)
theorem setA_inv {v u k:AV}{st:St}{x:AFlow × St}(h:setA v u k st=some x):∃ j i l kk,u=.ref j∧k=.int i∧st.μ[j]?=some (.list l kk)∧(0≤i∧i.toNat < l.length∧i < 100000)∧(.next,{st with μ:=st.μ.set j (.list (l.set i.toNat v) kk)})=x:=by
 induction u using AV.casesOn with
 | ref j=>induction k using AV.casesOn with
  | int i=>
   revert h;delta setA;dsimp only
   rcases e:st.μ[j]? with _ | (⟨l,kk⟩ | ⟨l,kk,q⟩)
   ·exact noS
   ·exact fun h=>iteE h fun c h=>⟨_,_,_,_,rfl,rfl,e,c,Option.some.inj h⟩
   ·exact noS
  | _=>exact noS h
 | _=>exact noS h
theorem delA_inv {u k:AV}{st:St}{x:AFlow × St}(h:delA u k st=some x):∃ j i l kk m,u=.ref j∧k=.int i∧st.μ[j]?=some (.list l kk)∧idx l.length i=some m∧(.next,{st with μ:=st.μ.set j (.list (l.eraseIdx m) kk)})=x:=by
 induction u using AV.casesOn with
 | ref j=>induction k using AV.casesOn with
  | int i=>
   revert h;delta delA;dsimp only
   rcases e:st.μ[j]? with _ | (⟨l,kk⟩ | ⟨l,kk,q⟩)
   ·exact noS
   ·exact fun h=>iteE h fun c h=>mapE1 h fun m h1 h2=>⟨_,_,_,_,_,rfl,rfl,e,h1,h2⟩
   ·exact noS
  | _=>exact noS h
 | _=>exact noS h
theorem S_item {o i e:Expr}{q p:Pos}(hE:GE w o₀ n (run FF n).E):SAt w o₀ n (stepS (run FF n) (.Assign [.Subscript o i q] e p)) (.Assign [.Subscript o i q] e p):=by
 intro A env st st' a hA hN h B ad s Q E R k
 delta stepS at h
 dsimp only at h
 refine iteN h fun hc h=>?_
 refine bindE h fun v st₁ h1 ha=>?_
 clear h
 refine bindE ha fun u st₂ h2 hb=>?_
 clear ha
 refine bindE hb fun q st₃ h3 h=>?_
 clear hb
 refine wpAny_Assign_Subscript (hE hA hN h1 R fun ad₁ v₁ s₁ N₁ V₁=>hE hA hN h2 N₁.R.widen fun ad₂ v₂ s₂ N₂ V₂=>hE hA hN h3 (N₁.seq N₂).R.widen fun ad₃ v₃ s₃ N₃ V₃=>?_) (swaps_not hc)
 have N:=(N₁.seq N₂).seq N₃
 have V₁':=N₃.keep (N₁.seq N₂).R (N₂.keep N₁.R V₁)
 have V₂':=N₃.keep (N₁.seq N₂).R V₂
 refine x4_4 (setA_inv h) fun j i l kk hq4 hq5 e hb h=>?_;subst hq4;subst hq5
 kt_eqs
 refine x0_1 V₂' fun hj hq1=>?_;subst hq1
 refine x1_0 V₃ fun t hq1=>?_;subst hq1
 refine x1_2 (N.R.mem _ _ e) fun vs p al z=>?_
 refine set_plain p hb.1 (by kt_len) (by simp only [Array.size];rw [← al.length];kt_len) fun h' p' hs=>?_
 refine k _ _ _ (N.seq' (listSet N.R e p (vs':=vs.set i.toNat v₁) (by simpa using p') hs (al.set _ V₁') ⟨by simpa using z.1,z.2⟩)) rfl
theorem S_name {x:Str}{e:Expr}{q p:Pos}(hE:GE w o₀ n (run FF n).E):SAt w o₀ n (stepS (run FF n) (.Assign [.Name x q] e p)) (.Assign [.Name x q] e p):=by
 intro A env st st' a hA hN h B ad s Q E R k
 delta stepS at h
 dsimp only at h
 refine iteN h fun hc h=>?_
 refine bindE h fun v st₁ h1 h=>?_
 refine mapE1 h fun st₂ h2 h=>?_
 kt_eqs
 exact wpAny_Assign_Name (hE hA hN h1 R fun ad₁ v₁ s₁ N₁ V₁=>put_ok hN h2 N₁.R V₁ fun s₂ N₂ _=>k _ _ _ (N₁.seq' N₂) rfl) (swaps_not hc)
theorem swapsOf_eq {ts:List Expr}{kk:Nat}{q:Pos}{e:Expr}{x:Option (List Str)}(hN:EnvOk env)(h:swapsOf env.scope.names ts e=some x):swappedStores [.Tuple ts kk q] e env=pure x:=by
 induction e using Expr.casesOn with
 | Tuple vs k p=>exact swapped_eq hN h
 | _=>obtain rfl:=Option.some.inj h;rfl
theorem S_names {ts:List Expr}{kk:Nat}{e:Expr}{q p:Pos}(hE:GE w o₀ n (run FF n).E):SAt w o₀ n (stepS (run FF n) (.Assign [.Tuple ts kk q] e p)) (.Assign [.Tuple ts kk q] e p):=by
 intro A env st st' a hA hN h B ad s Q E R k
 delta stepS at h
 dsimp only at h
 refine iteN h fun hc h=>?_
 revert h
 rcases hsw:swapsOf st.kd ts e with _ | (_ | ns)
 ·exact noS
 ·intro h
  refine bindE h fun v st₁ h1 h=>?_
  refine mapE1 h fun st₂ h2 h=>?_
  kt_eqs
  exact PyProof.Rows.Assign_Tuple (hE hA hN h1 R fun ad₁ v₁ s₁ N₁ V₁=>giveAll_ok hA.1 hN h2 N₁.R V₁ fun s₂ N₂ _=>k _ _ _ (N₁.seq' N₂) rfl) (by unfold swapsWithSole;exact swaps_not hc) (swapsOf_eq hN (R.kd▸hsw))
 ·intro h
  refine bindE h fun v st₁ h1 h=>?_
  refine mapE1 h fun st₂ h2 h=>?_
  kt_eqs
  exact PyProof.Rows.Assign_Tuple_swapped (names:=ns) (hE hA hN h1 R fun ad₁ v₁ s₁ N₁ V₁=>giveRev_ok hA.1 hN h2 N₁.R V₁ fun s₂ N₂=>k _ _ _ (N₁.seq' N₂) rfl) (by unfold swapsWithSole;exact swaps_not hc) (swapsOf_eq hN (R.kd▸hsw))
theorem augE {op:Operator}{u v z:AV}(h:augA op u v=some z):(∃ x y,op=.Add∧u=.int x∧v=.int y∧z=.int (x+y)) ∨
  (∃ x y,op=.Add∧u=.str x∧v=.str y∧z=.str (x++y)∧strOk x=true∧strOk y=true)∨∃ x y,op=.Sub∧u=.int x∧v=.int y∧z=.int (x - y):=by
 induction op using Operator.casesOn with
 | Add=>
  induction u using AV.casesOn with
  | int x=>induction v using AV.casesOn with
   | int y=>obtain rfl:=Option.some.inj h;exact .inl ⟨_,_,rfl,rfl,rfl,rfl⟩
   | _=>exact noS h
  | str x=>induction v using AV.casesOn with
   | str y=>
    refine iteE h fun hs h=>?_
    rw [Bool.and_eq_true] at hs
    obtain rfl:=Option.some.inj h;exact .inr (.inl ⟨_,_,rfl,rfl,rfl,rfl,hs.1,hs.2⟩)
   | _=>exact noS h
  | _=>exact noS h
 | Sub=>
  induction u using AV.casesOn with
  | int x=>induction v using AV.casesOn with
   | int y=>obtain rfl:=Option.some.inj h;exact .inr (.inr ⟨_,_,rfl,rfl,rfl,rfl⟩)
   | _=>exact noS h
  | _=>exact noS h
 | _=>exact noS h
theorem S_aug {x:Str}{q:Pos}{op:Operator}{e:Expr}{p:Pos}(hE:GE w o₀ n (run FF n).E):SAt w o₀ n (stepS (run FF n) (.AugAssign (.Name x q) op e p)) (.AugAssign (.Name x q) op e p):=by
 intro A env st st' a hA hN h B ad s Q E R k
 delta stepS at h
 dsimp only at h
 refine iteE h fun hk h=>?_
 rw [Bool.and_eq_true] at hk
 refine bindE1 h fun u h1 h=>?_
 refine bindE h fun v st₁ h2 h=>?_
 refine bindE1 h fun z h3 h=>?_
 refine mapE1 h fun st₂ h4 h=>?_
 kt_eqs
 refine wpAny_AugAssign_Name (load_ok R hN hk.1 h1 (by simpa using hk.2) fun uv U=>hE hA hN h2 R.widen fun ad₁ v₁ s₁ N₁ V₁=>?_)
 have N:Nx w o₀ B env ad st ad₁ st₁ s₁:=(Nx.refl R).seq N₁
 have U':=N₁.keep R U
 rcases augE h3 with ⟨x,y,rfl,rfl,rfl,rfl⟩ | ⟨x,y,rfl,rfl,rfl,rfl,hs,hs'⟩ | ⟨x,y,rfl,rfl,rfl,rfl⟩
 ·refine x1_0 U' fun t hq1=>?_;subst hq1;refine x1_0 V₁ fun t' hq1=>?_;subst hq1
  exact iadd_int (put_ok (s:={s₁ with toks:=_}) (ad:=ad₁) hN h4 (N.R.toks _) ⟨_,rfl⟩ fun s₂ N₂ _=>k _ _ _ (N.seq' N₂) rfl)
 ·refine x1_0 U' fun t hq1=>?_;subst hq1;refine x1_0 V₁ fun t' hq1=>?_;subst hq1
  refine iadd_str (fun t' tk=>put_ok (s:={s₁ with toks:=tk}) (ad:=ad₁) hN h4 (N.R.toks _) ⟨t',congrArg (fun z=>Value.str ⟨z⟩ t') (by simp)⟩ fun s₂ N₂ _=>k _ _ _ (N.seq' N₂) rfl) ?_
  have h1:=of_decide_eq_true hs
  have h2:=of_decide_eq_true hs'
  simp only [Str.length,topK,sizeLine_eq] at *
  simp;kt_len
 ·refine x1_0 U' fun t hq1=>?_;subst hq1;refine x1_0 V₁ fun t' hq1=>?_;subst hq1
  exact isub_int (put_ok (s:={s₁ with toks:=_}) (ad:=ad₁) hN h4 (N.R.toks _) ⟨_,rfl⟩ fun s₂ N₂ _=>k _ _ _ (N.seq' N₂) rfl)
theorem S_for {x:Str}{q:Pos}{i:Expr}{b:List Stmt}{p:Pos}(hE:GE w o₀ n (run FF n).E)(hEs:GEs w o₀ n (run FF n).Es)(hSS:∀ k,k≤n→GSS w o₀ k (run FF k).SS):SAt w o₀ n (stepS (run FF n) (.For (.Name x q) i b [] p)) (.For (.Name x q) i b [] p):=by
 intro A env st st' a hA hN h B ad s Q E R k
 refine bindE h fun ai st₁ h1 h=>?_
 refine wpAny_For (it_ok hE hEs hA hN h1 R fun ad₁ it s₁ N₁ I₁ hB=>lp_ok (fun k hk=>hSS k (Nat.le_of_lt hk)) hA hN h N₁.R I₁ hB fun ad₂ f s₂ N₂ V₂=>k _ _ _ (N₁.seq' N₂) V₂) (folded_not h1)
theorem S_while {t:Expr}{b:List Stmt}{p:Pos}(hSS:∀ k,k≤n→GSS w o₀ k (run FF k).SS)(hTT:∀ k,k≤n→GT w o₀ k (run FF k).T):SAt w o₀ n (stepS (run FF n) (.While t b [] p)) (.While t b [] p):=by
 intro A env st st' a hA hN h B ad s Q E R k
 exact wpAny_While (wh_ok (fun k hk=>hTT k (Nat.le_of_lt hk)) (fun k hk=>hSS k (Nat.le_of_lt hk)) hA hN h R k)
theorem S_if {t:Expr}{x y:List Stmt}{p:Pos}(hT:GT w o₀ n (run FF n).T)(hSS:∀ k,k≤n→GSS w o₀ k (run FF k).SS):SAt w o₀ n (stepS (run FF n) (.If t x y p)) (.If t x y p):=by
 intro A env st st' a hA hN h B ad s Q E R k
 refine bindE h fun b st₁ h1 h=>?_
 refine wpAny_If (hT hA hN h1 R fun ad₁ s₁ N₁=>?_)
 induction b using Bool.casesOn with
 | true=>exact hSS n (Nat.le_refl _) hA hN h N₁.R fun ad₂ v₂ s₂ N₂ V₂=>k _ _ _ (N₁.seq' N₂) V₂
 | false=>exact hSS n (Nat.le_refl _) hA hN h N₁.R fun ad₂ v₂ s₂ N₂ V₂=>k _ _ _ (N₁.seq' N₂) V₂
theorem S_assert {t:Expr}{p:Pos}(hT:GT w o₀ n (run FF n).T):SAt w o₀ n (stepS (run FF n) (.Assert t none p)) (.Assert t none p):=by
 intro A env st st' a hA hN h B ad s Q E R k
 refine bindE h fun b st₁ h1 h=>?_
 induction b using Bool.casesOn with
 | true=>cases h;exact wpAny_Assert_holds (hT hA hN h1 R fun ad₁ s₁ N₁=>⟨rfl,k _ _ _ N₁ rfl⟩)
 | false=>exact noS h
theorem S_expr {e:Expr}{p:Pos}(hE:GE w o₀ n (run FF n).E):SAt w o₀ n (stepS (run FF n) (.Expr e p)) (.Expr e p):=by
 intro A env st st' a hA hN h B ad s Q E R k
 delta stepS at h
 dsimp only at h
 refine iteN h fun hc h=>?_
 refine bindE h fun v st₁ h1 h=>?_
 kt_eqs
 exact wpAny_Expr_any (hE hA hN h1 R fun ad₁ v₁ s₁ N₁ V₁=>k _ _ _ N₁ rfl) (by unfold interactive;rw [hN.kind];rfl) (swaps_not hc)
theorem S_del {o i:Expr}{q p:Pos}(hE:GE w o₀ n (run FF n).E):SAt w o₀ n (stepS (run FF n) (.Delete [.Subscript o i q] p)) (.Delete [.Subscript o i q] p):=by
 intro A env st st' a hA hN h B ad s Q E R k
 refine bindE h fun u st₁ h1 ha=>?_
 clear h
 refine bindE ha fun q st₂ h2 h=>?_
 clear ha
 refine wpAny_Delete (wpAny_deleteEach_cons (wpAny_delete_Subscript (hE hA hN h1 R fun ad₁ v₁ s₁ N₁ V₁=>hE hA hN h2 N₁.R.widen fun ad₂ v₂ s₂ N₂ V₂=>?_)))
 have N:=N₁.seq N₂
 have V₁':=N₂.keep N₁.R V₁
 refine x5_4 (delA_inv h) fun j i l kk m hq5 hq6 e h3 h=>?_;subst hq5;subst hq6
 kt_eqs
 refine x0_1 V₁' fun hj hq1=>?_;subst hq1
 refine x1_0 V₂ fun t hq1=>?_;subst hq1
 refine x1_2 (N.R.mem _ _ e) fun vs p al z=>?_
 refine x0_1 (seq_small h3) fun f1 f2=>?_
 refine wpAny_delItem_plain p f1 (by simp only [Array.size];rw [← al.length];exact f2) (fun h' p' hs=>wpAny_deleteEach_nil ?_) ?_
 ·refine k _ _ _ (N.seq' (listSet N.R e p (vs':=vs.eraseIdx m) (by simpa using p') hs (al.eraseIdx _) ⟨?_,z.2⟩)) rfl
  exact Nat.le_trans (List.length_eraseIdx_le _ _) z.1
 ·simp only [Array.size];rw [← al.length];have:=z.1;have:=z.2;simp only [topK,sizeLine_eq] at *;kt_len
theorem asg2 {t t' e:Expr}{ts:List Expr}{p:Pos}:∀ st,stepS r (.Assign (t::t'::ts) e p) st=none:=by
 induction t using Expr.casesOn <;> exact fun _=>rfl
theorem del2 {t t':Expr}{ts:List Expr}{p:Pos}:∀ st,stepS r (.Delete (t::t'::ts) p) st=none:=by
 induction t using Expr.casesOn <;> exact fun _=>rfl
theorem S_all (hE:GE w o₀ n (run FF n).E)(hT:GT w o₀ n (run FF n).T)(hEs:GEs w o₀ n (run FF n).Es)(hSS:∀ k,k≤n→GSS w o₀ k (run FF k).SS)(hTT:∀ k,k≤n→GT w o₀ k (run FF k).T):∀ x,SAt w o₀ n (stepS (run FF n) x) x:=by
 intro x
 induction x using Stmt.casesOn with
 | Return e p=>
  induction e using Option.casesOn with
  | none=>exact SAt.no fun _=>rfl
  | some e=>exact S_ret hE
 | Assign ts e p=>
  induction ts using List.casesOn with
  | nil=>exact SAt.no fun _=>rfl
  | cons t ts=>
  induction ts using List.casesOn with
  | cons t' ts=>exact SAt.no asg2
  | nil=>
  induction t using Expr.casesOn with
  | Subscript o i q=>exact S_item hE
  | Name x q=>exact S_name hE
  | Tuple ts kk q=>exact S_names hE
  | _=>exact SAt.no fun _=>rfl
 | AugAssign t op e p=>
  induction t using Expr.casesOn with
  | Name x q=>exact S_aug hE
  | _=>exact SAt.no fun _=>rfl
 | For t i b orelse p=>
  induction t using Expr.casesOn with
  | Name x q=>
   induction orelse using List.casesOn with
   | cons _ _=>exact SAt.no fun _=>rfl
   | nil=>exact S_for hE hEs hSS
  | _=>exact SAt.no fun _=>rfl
 | While t b orelse p=>
  induction orelse using List.casesOn with
  | cons _ _=>exact SAt.no fun _=>rfl
  | nil=>exact S_while hSS hTT
 | If t a b p=>exact S_if hT hSS
 | Assert t m p=>
  induction m using Option.casesOn with
  | some m=>exact SAt.no fun _=>rfl
  | none=>exact S_assert hT
 | Expr e p=>exact S_expr hE
 | Delete ts p=>
  induction ts using List.casesOn with
  | nil=>exact SAt.no fun _=>rfl
  | cons t ts=>
  induction ts using List.casesOn with
  | cons t' ts=>exact SAt.no del2
  | nil=>
  induction t using Expr.casesOn with
  | Subscript o i q=>exact S_del hE
  | _=>exact SAt.no fun _=>rfl
 | _=>exact SAt.no fun _=>rfl
theorem S_ok (hE:GE w o₀ n (run FF n).E)(hT:GT w o₀ n (run FF n).T)(hEs:GEs w o₀ n (run FF n).Es)(hSS:∀ k,k≤n→GSS w o₀ k (run FF k).SS)(hTT:∀ k,k≤n→GT w o₀ k (run FF k).T):GS w o₀ n (stepS (run FF n)):=
 fun _ _ _ _ _ _ hA hN h=>S_all hE hT hEs hSS hTT _ hA hN h
end
set_option tactic.hygienic false
theorem cf_lookup:∀ (names:List (Str × NameKind)) (n:Nat) (acc:List (Str × Addr)) (x:Str),(names.lookup x=some .cell∨(acc.lookup x).isSome=true)→((cellsFrom n names acc).lookup x).isSome=true
 | [],n,acc,x,h=>by
  rcases h with h | h
  ·kt_eqs
  ·exact h
 | (y,k)::r,n,acc,x,h=>by
  simp only [cellsFrom]
  by_cases e:x=y
  ·subst e
   by_cases hk:k=.cell
   ·subst hk
    exact cf_lookup r _ _ x (.inr (by simp [List.lookup]))
   ·have:(k==NameKind.cell)=false:=by induction k using NameKind.casesOn <;> first | rfl | exact absurd rfl hk
    rw [this]
    refine cf_lookup r _ _ x ?_
    rcases h with h | h
    ·simp [List.lookup] at h;exact absurd h hk
    ·exact .inr h
  ·have e':(x==y)=false:=by simp [e]
   have h':r.lookup x=some .cell∨(acc.lookup x).isSome=true:=by
    rcases h with h | h
    ·simp only [List.lookup,e'] at h;exact .inl h
    ·exact .inr h
   by_cases hk:(k==NameKind.cell)=true
   ·rw [if_pos hk]
    refine cf_lookup r _ _ x ?_
    rcases h' with h' | h'
    ·exact .inl h'
    ·exact .inr (by simp only [List.lookup,e'];exact h')
   ·rw [if_neg hk]
    exact cf_lookup r _ _ x h'
theorem bindL_other {kd:Str→Option NameKind}{x:Str}:∀ (l:List (Str × Value)) (m:Str→Option Value),x ∉ l.map (·.1)→bindL kd l m x=m x
 | [],m,_=>rfl
 | (n,v)::r,m,h=>by
  simp only [List.map_cons,List.mem_cons,not_or] at h
  simp only [bindL]
  rw [bindL_other r _ h.2]
  split
  ·simp [h.1]
  ·rfl
set_option tactic.hygienic true
theorem bindL_ok {kd:Str→Option NameKind}{P:AV→Value→Prop}:∀ (ns:List Str) (vs:List AV) (us:List Value) (m:Str→Option Value),ns.length=vs.length→ns.Nodup→(∀ x∈ns,kd x=some .local)→All2 P vs us →
  ∀ x v,look ((ns.map nm).zip vs) (nm x)=some v→∃ u,bindL kd (ns.zip us) m x=some u∧P v u
 | [],vs,us,m,hl,hd,hk,al,x,v,h=>by simp [look] at h
 | n::ns,[],us,m,hl,hd,hk,al,x,v,h=>by simp at hl
 | n::ns,v₀::vs,us,m,hl,hd,hk,al,x,v,h=>by
  cases al with
  | cons hv al=>
  rename_i u₀ us
  simp only [List.map_cons,List.zip_cons_cons,look,beq_iff_eq] at h
  rw [List.nodup_cons] at hd
  simp only [List.zip_cons_cons,bindL]
  rw [if_pos (hk n (List.mem_cons_self ..))]
  split at h
  next e=>
   kt_eqs
   have e:=nm_inj e
   subst e
   rw [bindL_other _ _ (by
    intro hm
    rw [List.mem_map] at hm
    obtain ⟨hz00,hm,rfl⟩:=hm;obtain ⟨a,b⟩:=hz00
    exact hd.1 (List.of_mem_zip hm).1)]
   exact ⟨u₀,by simp,hv⟩
  next e=>exact bindL_ok ns vs us _ (by simpa using hl) hd.2 (fun x hx=>hk x (List.mem_cons_of_mem _ hx)) al x v h
structure FnAt (P:Params)(f:UF)(a:Addr)(ns:List Str)(fd:FuncData):Prop where
 obj:∃ o,(Hf P).get? a=some o∧o.data=.func fd
 a1:a≠62∧a≠69
 code:∃ c o vs t,fd.code=.ref c∧(Hf P).get? c=some o∧o.data=.fields vs∧vs[1]?=some (.str fd.qualname t)∧c≠62∧c≠69
 body:fd.body=.stmts f.body
 names:fd.scope.names=f.kd
 clo:fd.closure=[]
 glob:fd.globals=mainGlobals
 blt:fd.builtins=builtinsNs
 kind:fd.scope.kind=.function
 co:fd.scope.isCoroutine=false
 gen:fd.scope.isGenerator=false
 ps:f.ps=ns.map nm
 nodup:ns.Nodup
 loc:∀ x∈ns,fd.scope.names.lookup x=some .local
 bind:∀ us:List Value,us.length=ns.length→bindArgs fd ⟨us,[]⟩=pure (ns.zip us)
section
variable {w:World}{o₀:OsState}{A:Around}{env:Env}{st st':St}{B:Addr→Obj→Prop}{ad:Nat→Addr}{s:Shared}{E:Value→Shared→Prop}{n:Nat}{r:Rec}
set_option tactic.hygienic false
theorem noRef_VR {m:Nat}{h h':Heap}{a:AV}{v:Value}(hf:noRef a=true)(x:VR m ad h a v):VR 0 ad h' a v:=by
 induction a using AV.casesOn <;> first | exact x | exact ftC hf
theorem noRef_all {m:Nat}{h h':Heap}{l:List AV}{vs:List Value}(hf:l.all noRef=true)(al:All2 (VR m ad h) l vs):All2 (VR 0 ad h') l vs:=by
 induction al with
 | nil=>exact .nil
 | cons x _ ih=>rw [List.all_cons,Bool.and_eq_true] at hf;exact .cons (noRef_VR hf.1 x) (ih hf.2)
set_option tactic.hygienic true
noncomputable def Old (s:Shared)(a:Addr)(o:Obj):Prop:=s.heap.get? a=some o∧a≠62∧a≠69
set_option tactic.hygienic false
theorem Rep.back {s':Shared}(R:Rep w o₀ B env ad st s)(hk:∀ a o,Old s a o→s'.heap.get? a=some o)(ht:∀ a,a=62∨a=69→∃ vs:{vs:Array Value // TriplesOk vs.toList},s'.heap.get? a=some ⟨.none,none,.fields vs.1,⟨[]⟩⟩)
  (hb:AllBare s'.gens) (ho:s'.os=o₀):Rep w o₀ B env ad st s':=by
 have old:∀ {a o},s.heap.get? a=some o→(o.cls≠.none∨∀ vs,o.data≠.fields vs)→s'.heap.get? a=some o:=fun {a o} e h=>hk a o ⟨e,by
  constructor
  ·rintro rfl;refine x1_0 (R.tab 62 (.inl rfl)) fun vs x=>?_;cases someI e x;rcases h with h | h;exact h rfl;exact h _ rfl
  ·rintro rfl;refine x1_0 (R.tab 69 (.inr rfl)) fun vs x=>?_;cases someI e x;rcases h with h | h;exact h rfl;exact h _ rfl⟩
 have htu:∀ t items,s.heap.IsTuple t items→s'.heap.IsTuple t items:=fun t items ⟨o,e,c,k,d⟩=>⟨o,old e (.inl (by simp [c])),c,k,d⟩
 have hv:∀ a v,VR st.μ.length ad s.heap a v→VR st.μ.length ad s'.heap a v:=fun a v x=>x.mono (Nat.le_refl _) (fun _ _=>rfl) htu
 exact
 {R with
  kept:=fun a o b=>hk a o ⟨R.kept a o b,(R.offB a o b).1,(R.offB a o b).2.1⟩
  ns:=by
   refine x1_1 (R.ns) fun m hz01 f=>?_;refine x3_2 hz01 fun o es ep e d r=>?_
   exact ⟨m,⟨o,es,ep,old e (.inr (by simp [d])),d,r⟩,fun x v e k=>let ⟨val,a,b⟩:=f x v e k;⟨val,a,hv _ _ b⟩⟩
  cl:=fun x v e k=>let ⟨c,val,a,⟨o,e,d'⟩,d⟩:=R.cl x v e k;⟨c,val,a,⟨o,old e (.inr (by simp [d'])),d'⟩,hv _ _ d⟩
  cellObj:=fun x c m=>let ⟨v₀,o,e,d⟩:=R.cellObj x c m;⟨v₀,o,old e (.inr (by simp [d])),d⟩
  mem:=fun i o e=>by
   have:=R.mem i o e
   obtain ⟨ob,eo,co,it,k,d⟩:=this.data
   exact this.mono hv (fun o' e'=>by cases someI eo e';exact old eo (.inr (by simp [d]))) fun D ob eD cD _ _=>old eD (.inr (by refine x2_0 cD fun _ _ q=>?_;simp [q]))
  tab:=ht
  bare:=hb
  os:=ho}
theorem Rep.enter {f:UF}{a:Addr}{ns:List Str}{fd:FuncData}(X:FnAt w.params f a ns fd)(R:Rep w o₀ B env ad st s){vs:List AV}{us:List Value}(hl:ns.length=vs.length)(al:All2 (VR 0 ad s.heap) vs us){s₁:Shared}
  (hc:InCallC s (callEnvC fd s.heap.objs.size a).locals (bindL (callEnvC fd s.heap.objs.size a).kindOf (ns.zip us) fun _=>none) (callEnvC fd s.heap.objs.size a).cells
    (bindC (callEnvC fd s.heap.objs.size a).kindOf (ns.zip us) fun _=>none) s₁) :
  Rep w o₀ (Old s) (callEnvC fd s.heap.objs.size a) ad ⟨f.kd,f.ps.zip vs,[]⟩ s₁:=by
 refine x2_0 (hc.toInCall.same) fun h₁ tk e₁=>?_
 have hk:=hc.toInCall.keep
 have lt:∀ {b o},Old s b o→b < s.heap.objs.size:=fun h=>Heap.lt_size h.1
 exact
 {kept:=fun b o h=>hk b o h.1
  top:=fun b o h h1 h2=>⟨R.obj h h1 h2,h1,h2⟩
  kd:=X.names.symm
  ns:=⟨_,hc.toInCall.ns,fun x v e k=>by
   rw [X.ps] at e
   exact bindL_ok ns vs us _ hl X.nodup (fun x hx=>X.loc x hx) (al.mono fun a v y=>y.mono (Nat.le_refl _) (Agree.refl _ _) fun t items ⟨o,e,c⟩=>⟨o,hk _ _ e,c⟩) x v e⟩
  cl:=fun x v e k=>by
   exfalso
   rw [X.ps] at e
   have:∀ (ns:List Str) (vs:List AV),look ((ns.map nm).zip vs) (nm x)=some v→x∈ns:=by
    intro ns
    induction ns with
    | nil=>intro vs h;simp [look] at h
    | cons n ns ih=>
     intro vs h
     induction vs using List.casesOn with
     | nil=>simp [look] at h
     | cons v' vs=>
      simp only [List.map_cons,List.zip_cons_cons,look,beq_iff_eq] at h
      split at h
      next e=>rw [nm_inj e];exact List.mem_cons_self ..
      next e=>exact List.mem_cons_of_mem _ (ih vs h)
   have hm:=X.loc x (this ns vs e)
   have k':fd.scope.names.lookup x=some .cell∨fd.scope.names.lookup x=some .free:=k
   rw [hm] at k';rcases k' with k' | k' <;> cases k'
  cells:=fun x k=>Option.isSome_iff_exists.1 (cf_lookup _ _ _ _ (.inl k))
  cellObj:=fun x c e=>⟨_,hc.cell x c e⟩
  apart:=hc.apart
  mem:=fun i o e=>by simp at e
  inj:=fun i j _ h=>by simp at h
  offB:=fun b o h=>⟨h.2.1,h.2.2,Nat.ne_of_lt (Nat.lt_of_lt_of_le (lt h) hc.toInCall.fresh),fun x c e=>Nat.ne_of_lt (Nat.lt_trans (lt h) (Nat.lt_of_le_of_lt hc.toInCall.fresh (hc.above x c (mem_of_lookup e)))),fun i h=>by simp at h⟩
  tab:=fun b h=>let ⟨vs,e⟩:=R.tab b h;⟨vs,hk _ _ e⟩
  bare:=by rw [e₁];exact R.bare
  os:=by rw [e₁];exact R.os}
theorem noRef_VR0 {m m':Nat}{ad':Nat→Addr}{a:AV}{v:Value}(hf:noRef a=true)(x:VR0 m ad' a v):VR0 m' ad a v:=by
 induction a using AV.casesOn <;> first | exact x | exact ftC hf
theorem noRefs0 {m m':Nat}{ad':Nat→Addr}{l:List AV}{vs:List Value}(hf:l.all noRef=true)(al:All2 (VR0 m ad') l vs):All2 (VR0 m' ad) l vs:=by
 induction al with
 | nil=>exact .nil
 | cons y _ ih=>rw [List.all_cons,Bool.and_eq_true] at hf;exact .cons (noRef_VR0 hf.1 y) (ih hf.2)
theorem pureV_VR {m m':Nat}{h:Heap}{ad':Nat→Addr}{a:AV}{v:Value}(hf:pureV a=true)(x:VR m ad' h a v):VR m' ad h a v:=by
 induction a using AV.casesOn <;> first | exact x | exact ftC hf | skip
 refine x2_2 x fun t vs e it al=>?_
 exact ⟨t,vs,e,it,noRefs0 hf al⟩
set_option tactic.hygienic true
theorem callF_ok {f:UF}{a:Addr}{ns:List Str}{fd:FuncData}(X:FnAt w.params f a ns fd)(hSS:GSS w o₀ n r.SS)(hA:AOk A (n+1)){vs:List AV}{us:List Value}{c:AV}(h:callUF r f vs st=some (c,st'))(R:Rep w o₀ B env ad st s)(al:All2 (VR st.μ.length ad s.heap) vs us)
  {Q:Value→Shared→Prop} (k:∀ v s',Rep w o₀ B env ad st' s'→VR st'.μ.length ad s'.heap c v→Q v s'):wpAny (model Pr w) A (call (.ref a) us) Q E s:=by
 unfold callUF at h
 refine iteE h fun hh h=>?_
 rw [Bool.and_eq_true,beq_iff_eq] at hh
 split at h
 next v st₁ hr=>
  have hp:pureV v=true:=by
   induction hp:pureV v using Bool.casesOn with
   | true=>rfl
   | false=>rw [hp] at h;exact noS h
  rw [if_pos hp] at h
  kt_eqs
  refine x1_1 (X.obj) fun o eo d=>?_
  refine x4_5 (X.code) fun cc oc vs' t e1 e2 e3 e4 e5 e6=>?_
  have hl:ns.length=vs.length:=by rw [← hh.1,X.ps,List.length_map]
  refine wpAny_call (codeAny_call_cells (fd:=fd) (body:=f.body) (binds:=ns.zip us) (by have:=hA.2.1;show _ < 1000;kt_len) (R.obj eo X.a1.1 X.a1.2) d R.nolimit ⟨cc,oc,vs',t,e1,R.obj e2 e5 e6,e3,e4⟩ X.body
   (X.bind us (by rw [← al.length,hl])) X.clo ?_ (fun s₁ hc=>?_) X.co X.gen X.kind)
  ·intro x hx
   exact .inl (X.loc _ (List.of_mem_zip (show (x.1,x.2)∈ns.zip us from hx)).1)
  ·have R₁:=R.enter X hl (noRef_all hh.2 al) hc
   have hA':AOk (A.deeper (callEnvC fd s.heap.objs.size a)) n:=⟨hA.1,by have:=hA.2.1;show A.depth+1+n+20 < 1000;kt_len,by have:=hA.2.2;show A.units+3+10*n+200 < 9900;kt_len⟩
   have hN':EnvOk (callEnvC fd s.heap.objs.size a):=⟨X.kind,X.glob,X.blt⟩
   refine hSS hA' hN' hr R₁ fun ad₂ fl s₂ N₂ V₂=>?_
   refine x1_1 V₂ fun u hq1 V=>?_;subst hq1
   refine k u s₂ (R.back (fun b ob h=>N₂.R.kept b ob h) N₂.R.tab N₂.R.bare N₂.R.os) ?_
   exact pureV_VR hp V
 next=>exact noS h
end
set_option tactic.hygienic false
noncomputable def docFn (name:Str)(i:Nat)(pm cd:Value):FuncData:=docDef name (fArgs (pb i)) (fBody (pb i)) (fScope (pb i)) pm cd .none
noncomputable def namesOf (i:Nat):List Str:=(fArgs (pb i)).args.map (·.arg)
noncomputable def isTxtV:Value→Str→Bool
 | .str q' _,q=>q'==q
 | _,_=>false
noncomputable def recN (o:Obj)(q:Str):Bool:=match o.data with | .fields vs=>(match vs[1]? with | some v=>isTxtV v q | none=>false) | _=>false
set_option tactic.hygienic true in
theorem recN_ok {o:Obj}{q:Str}(h:recN o q=true):∃ vs t,o.data=.fields vs∧vs[1]?=some (.str q t):=by
 unfold recN at h
 split at h
 next vs e=>
  split at h
  next v e2=>
   induction v using Value.casesOn <;> try exact ftC h
   rename_i q' t
   have h:(q'==q)=true:=h
   rw [beq_iff_eq] at h;subst h;exact ⟨vs,t,e,e2⟩
  next=>exact ftC h
 next=>exact ftC h
theorem fn_at {P : Params} {i a c : Nat} {name : Str} {pm : Value} {ob oc : Obj} (h1 : (Hf P).get? a = some ob) (h2 : ob.data = .func (docFn name i pm (.ref c))) (h3 : (Hf P).get? c = some oc) (h4 : recN oc name = true)
    (h5 : (a != 62 && a != 69 && c != 62 && c != 69) = true)
    (h6 : ((fScope (pb i)).kind == .function && (fScope (pb i)).isCoroutine == false && (fScope (pb i)).isGenerator == false && decide (namesOf i).Nodup && (namesOf i).all fun x => (fScope (pb i)).names.lookup x == some .local) = true)
    (h7 : ∀ us : List Value, us.length = (namesOf i).length → bindArgs (docFn name i pm (.ref c)) ⟨us, []⟩ = pure ((namesOf i).zip us)) : FnAt P (mkUF (pb i)) a (namesOf i) (docFn name i pm (.ref c)) := by
  simp only [Bool.and_eq_true, bne_iff_ne, beq_iff_eq, decide_eq_true_eq, List.all_eq_true] at h5 h6
  refine x2_1 (recN_ok h4) fun vs t e1 e2 => ?_
  exact { obj := ⟨ob, h1, h2⟩, a1 := ⟨h5.1.1.1, h5.1.1.2⟩, code := ⟨c, oc, vs, t, rfl, h3, e1, e2, h5.1.2, h5.2⟩, body := rfl, names := rfl, clo := rfl, glob := rfl, blt := rfl, kind := h6.1.1.1.1, co := h6.1.1.1.2, gen := h6.1.1.2,
          ps := by simp [mkUF, namesOf], nodup := h6.1.2, loc := fun x hx => h6.2 x hx, bind := h7 }
theorem names6:namesOf 6=[Str.ofString "want",Str.ofString "got"]:=by kernel_rfl!
theorem names8:namesOf 8=[Str.ofString "a",Str.ofString "b"]:=by kernel_rfl!
theorem names9:namesOf 9=[Str.ofString "s",Str.ofString "amount"]:=by kernel_rfl!
theorem names16:namesOf 16=[Str.ofString "n"]:=by kernel_rfl!
theorem two {α:Type}{l:List α}(h:l.length=2):∃ a b,l=[a,b]:=by
 match l,h with
 | [a,b],_=>exact ⟨a,b,rfl⟩
theorem one {α:Type}{l:List α}(h:l.length=1):∃ a,l=[a]:=by
 match l,h with
 | [a],_=>exact ⟨a,rfl⟩
theorem fn6 (P:Params):∃ fd,FnAt P (mkUF (pb 6)) 111 (namesOf 6) fd:=
 ⟨_,fn_at (i:=6) (a:=111) (c:=110) (name:=⟨⟨[95,101,108,108,105,112,115,105,115,95,109,97,116,99,104]⟩⟩) (ob:=o111 P) (oc:=o110 P) (pm:=.str ⟨⟨[99,112,121,51,49,51,46,100,111,99,116,101,115,116]⟩⟩ 293)
  (by kernel_rfl!) (by kernel_rfl!) (by kernel_rfl!) (by kernel_rfl!) (by decide) (by kernel_rfl!) (by
   intro us h;rw [names6] at h;refine x2_0 (two h) fun a b hq2=>?_;subst hq2;kernel_rfl!)⟩
theorem fn8 (P:Params):∃ fd,FnAt P (mkUF (pb 8)) 118 (namesOf 8) fd:=
 ⟨_,fn_at (i:=8) (a:=118) (c:=117) (name:=⟨⟨[95,115,116,114,99,111,108,108]⟩⟩) (ob:=o118 P) (oc:=o117 P) (pm:=.str ⟨⟨[99,112,121,51,49,51,46,108,111,99,97,108,101]⟩⟩ 309)
  (by kernel_rfl!) (by kernel_rfl!) (by kernel_rfl!) (by kernel_rfl!) (by decide) (by kernel_rfl!) (by
   intro us h;rw [names8] at h;refine x2_0 (two h) fun a b hq2=>?_;subst hq2;kernel_rfl!)⟩
theorem fn9 (P:Params):∃ fd,FnAt P (mkUF (pb 9)) 125 (namesOf 9) fd:=
 ⟨_,fn_at (i:=9) (a:=125) (c:=124) (name:=⟨⟨[95,115,116,114,105,112,95,112,97,100,100,105,110,103]⟩⟩) (ob:=o125 P) (oc:=o124 P) (pm:=.str ⟨⟨[99,112,121,51,49,51,46,108,111,99,97,108,101]⟩⟩ 309)
  (by kernel_rfl!) (by kernel_rfl!) (by kernel_rfl!) (by kernel_rfl!) (by decide) (by kernel_rfl!) (by
   intro us h;rw [names9] at h;refine x2_0 (two h) fun a b hq2=>?_;subst hq2;kernel_rfl!)⟩
theorem fn16 (P:Params):∃ fd,FnAt P (mkUF (pb 16)) 194 (namesOf 16) fd:=
 ⟨_,fn_at (i:=16) (a:=194) (c:=193) (name:=⟨⟨[95,108,97,119,95,116,121,112,101,100]⟩⟩) (ob:=o194 P) (oc:=o193 P) (pm:=.str ⟨⟨[108,97,119,95,119,114,48,48,52,55,95,48,49]⟩⟩ 2357)
  (by kernel_rfl!) (by kernel_rfl!) (by kernel_rfl!) (by kernel_rfl!) (by decide) (by kernel_rfl!) (by
   intro us h;rw [names16] at h;refine x1_0 (one h) fun a hq1=>?_;subst hq1;kernel_rfl!)⟩
section
variable {w:World}{o₀:OsState}{A:Around}{env:Env}{st st':St}{B:Addr→Obj→Prop}{ad:Nat→Addr}{s:Shared}{E:Value→Shared→Prop}{n:Nat}{r:Rec}{Q:Value→Shared→Prop}{a c:AV}{u:Value}
set_option tactic.hygienic false
theorem p_len (R:Rep w o₀ B env ad st s){l:List Nat}(V:VR st.μ.length ad s.heap (.str l) u)(hs:l.length≤topK)(k:∀ v tk,VR st.μ.length ad s.heap (.int l.length) v→Q v {s with toks:=tk}):wpAny (model Pr w) A (call (.builtin "len") [u]) Q E s:=by
 refine x1_0 V fun t hq1=>?_;subst hq1
 refine len_str ?_ (k _ _ ⟨_,rfl⟩)
 simp only [Str.length,Array.size,topK] at *;kt_len
theorem p_lenL (R:Rep w o₀ B env ad st s){i:Nat}{l:List AV}{kk:Nat}(e:st.μ[i]?=some (.list l kk))(V:VR st.μ.length ad s.heap (.ref i) u)(k:∀ v tk,VR st.μ.length ad s.heap (.int l.length) v→Q v {s with toks:=tk}):wpAny (model Pr w) A (call (.builtin "len") [u]) Q E s:=by
 refine x0_1 V fun hi hq1=>?_;subst hq1
 refine x1_2 (R.mem _ _ e) fun vs p al z=>?_
 refine len_list p.isList ?_ (k _ _ ⟨_,by simp only [Array.size];rw [← al.length]⟩)
 simp only [Array.size];rw [← al.length];have:=z.1;have:=z.2;simp only [topK] at *;kt_len
theorem p_chr {i:Int}(V:VR st.μ.length ad s.heap (.int i) u)(h:0≤i∧i < 1114112)(k:∀ v tk,VR st.μ.length ad s.heap (.str [i.toNat]) v→Q v {s with toks:=tk}):wpAny (model Pr w) A (call (.builtin "chr") [u]) Q E s:=by
 refine x1_0 V fun t hq1=>?_;subst hq1
 exact chr_of_range h.1 (by kt_len) (k _ _ ⟨_,rfl⟩)
theorem p_ord {x:Nat}(V:VR st.μ.length ad s.heap (.str [x]) u)(k:∀ v tk,VR st.μ.length ad s.heap (.int x) v→Q v {s with toks:=tk}):wpAny (model Pr w) A (call (.builtin "ord") [u]) Q E s:=by
 refine x1_0 V fun t hq1=>?_;subst hq1
 exact P.ord_of_char (k _ _ ⟨_,rfl⟩)
theorem p_max (hA:A.handled=none)(R:Rep w o₀ B env ad st s){x y:Int}{v:Value}(V:VR st.μ.length ad s.heap (.int x) u)(V':VR st.μ.length ad s.heap (.int y) v)
  (k:∀ v s',Rep w o₀ B env ad st s'→VR st.μ.length ad s'.heap (.int (if y > x then y else x)) v→Q v s'):wpAny (model Pr w) A (call (.builtin "max") [u,v]) Q E s:=by
 refine x1_0 V fun t hq1=>?_;subst hq1;refine x1_0 V' fun t' hq1=>?_;subst hq1
 refine max_two_ints hA fun h' tk hk=>k _ _ (R.grow (s':={s with heap:=h',toks:=tk}) hk rfl rfl) ?_
 split
 ·exact ⟨t',rfl⟩
 ·exact ⟨t,rfl⟩
theorem p_int {b:Bool}(V:VR st.μ.length ad s.heap (.bool b) u)(k:∀ v tk,VR st.μ.length ad s.heap (.int (if b then 1 else 0)) v→Q v {s with toks:=tk}):wpAny (model Pr w) A (call (.type "int") [u]) Q E s:=by
 cases V
 exact call_int_bool (k _ _ ⟨_,rfl⟩)
theorem p_isiI {i:Int}(V:VR st.μ.length ad s.heap (.int i) u)(k:∀ tk,Q (.bool false) {s with toks:=tk}):wpAny (model Pr w) A (call (.builtin "isinstance") [u,.type "bool"]) Q E s:=by
 refine x1_0 V fun t hq1=>?_;subst hq1
 exact IsiPair.int_bool (k _)
theorem p_isiB {b:Bool}(V:VR st.μ.length ad s.heap (.bool b) u)(k:∀ tk,Q (.bool true) {s with toks:=tk}):wpAny (model Pr w) A (call (.builtin "isinstance") [u,.type "bool"]) Q E s:=by
 cases V
 exact IsiPair.bool_bool (k s.toks)
theorem ints_arr {l:List AV}{vs:List Value}{ns:List Int}{m:Nat}{h:Heap}(e:intsOf l=some ns)(al:All2 (VR m ad h) l vs):∃ xs:List (Int × Tok),vs=xs.map (fun p=>Value.int p.1 p.2)∧xs.map (·.1)=ns:=by
 induction al generalizing ns with
 | nil=>obtain rfl:=Option.some.inj e;exact ⟨[],rfl,rfl⟩
 | @cons a v l vs x y ih=>
  induction a using AV.casesOn with
  | int z=>
   refine x1_0 x fun t hq1=>?_;subst hq1
   refine mapE1 e fun ms e1 e2=>?_
   subst e2
   refine x1_1 (ih e1) fun q hq1 e3=>?_;subst hq1
   exact ⟨(z,t)::q,rfl,by rw [List.map_cons,e3]⟩
  | _=>exact noS e
theorem preSum_take (xs:List (Int × Tok)):∀ j,j≤xs.length→preSum (numAt ⟨xs⟩) j=((xs.map (·.1)).take j).sum
 | 0,_=>by rfl
 | j+1,h=>by
  have hj:j < xs.length:=by kt_len
  simp only [preSum]
  rw [preSum_take xs j (by kt_len),List.take_add_one,List.sum_append]
  have e:(xs.map (·.1))[j]?=some (xs[j].1):=by simp [hj]
  rw [e]
  have e2:numAt ⟨xs⟩ j=xs[j].1:=by unfold numAt;simp [hj]
  rw [e2];simp
theorem sum_bound:∀ (l:List Int),l.all small=true→-(l.length*topK:Int)≤l.sum∧l.sum≤(l.length*topK:Int)
 | [],_=>by decide
 | i::l,h=>by
  rw [List.all_cons,Bool.and_eq_true] at h
  have ih:=sum_bound l h.2
  have h1:=of_decide_eq_true h.1
  have e:topK=1048576:=rfl
  rw [e] at ih h1 ⊢
  rw [List.sum_cons,List.length_cons]
  lia
theorem p_sum (hA:A.handled=none)(R:Rep w o₀ B env ad st s){i:Nat}{l:List AV}{kk:Nat}{ns:List Int}(e:st.μ[i]?=some (.list l kk))(e2:intsOf l=some ns)(hs:ns.all small=true)(hl:ns.length≤1000)(V:VR st.μ.length ad s.heap (.ref i) u)
  (k:∀ v s',Rep w o₀ B env ad st s'→VR st.μ.length ad s'.heap (.int ns.sum) v→Q v s'):wpAny (model Pr w) A (call (.builtin "sum") [u]) Q E s:=by
 refine x0_1 V fun hi hq1=>?_;subst hq1
 refine x1_2 (R.mem _ _ e) fun vs p al z=>?_
 refine x1_1 (ints_arr e2 al) fun xs hq1 e3=>?_;subst hq1
 have hx:(⟨xs.map fun p=>Value.int p.1 p.2⟩:Array Value)=intItems ⟨xs⟩:=by unfold intItems;simp
 have hp:s.heap.IsList (ad i) (intItems ⟨xs⟩):=by rw [← hx];exact p.isList
 have hlen:xs.length=ns.length:=by rw [← e3,List.length_map]
 refine sum_intList hA hp (fun j hj=>?_) fun h' tk t' hk=>k _ _ (R.grow (s':={s with heap:=h',toks:=tk}) hk rfl rfl) ⟨t',?_⟩
 ·have hj:j < xs.length:=hj
  constructor
  ·have e4:numAt ⟨xs⟩ j=xs[j].1:=by unfold numAt;simp [hj]
   rw [e4]
   have hm:xs[j].1∈ns:=by rw [← e3];exact List.mem_map.2 ⟨_,List.getElem_mem hj,rfl⟩
   have:=of_decide_eq_true (List.all_eq_true.1 hs _ hm)
   simp only [topK] at this
   unfold InLong;kt_len
  ·rw [preSum_take xs (j+1) (by kt_len),e3]
   have hb:=sum_bound (ns.take (j+1)) (List.all_eq_true.2 fun x hx=>List.all_eq_true.1 hs x (List.mem_of_mem_take hx))
   have hlt:(ns.take (j+1)).length≤1000:=Nat.le_trans (by simp;kt_len) hl
   simp only [topK] at hb
   unfold InLong;kt_len
 ·have e5:preSum (numAt ⟨xs⟩) (⟨xs⟩:Array (Int × Tok)).size=ns.sum:=by
   show preSum (numAt ⟨xs⟩) xs.length=_
   rw [preSum_take xs xs.length (Nat.le_refl _),e3,hlen,List.take_length]
  rw [e5]
set_option tactic.hygienic true
end
section
variable {w:World}{o₀:OsState}{A:Around}{env:Env}{st st':St}{B:Addr→Obj→Prop}{ad:Nat→Addr}{s:Shared}{E:Value→Shared→Prop}{n:Nat}{r:Rec}{Q:Value→Shared→Prop}{a c:AV}{u:Value}
set_option tactic.hygienic false
theorem gives_find4 (x y : Str) (i j : Int) (t u v v' : Tok) : Gives (Builtin.«str.find» ⟨[.str x t, .str y u, .int i v, .int j v'], []⟩)
    (.int (match Builtin.Str.occurrences x y (fromIndex x.length i) (min (fromIndex x.length j) x.length) 1 with | k :: _ => (k : Int) | [] => -1)) := by
  show Gives (match Builtin.Str.occurrences x y (fromIndex x.length i) (min (fromIndex x.length j) x.length) 1 with | k :: _ => retInt k | [] => (do rule "str.find.not-found"; retInt (-1))) _
  cases Builtin.Str.occurrences x y (fromIndex x.length i) (min (fromIndex x.length j) x.length) 1 with
  | nil => exact .rule (.of_eq rfl)
  | cons k _ => exact .of_eq rfl
theorem strs_al:∀ (l:List (Str × Tok)) (m:Nat) (h:Heap),All2 (VR m ad h) (l.map fun x=>AV.str x.1.cps.toList) (strValues l)
 | [],m,h=>.nil
 | (x,t)::l,m,h=>.cons ⟨t,rfl⟩ (strs_al l m h)
theorem split_ok {x y:List Nat}{t t':Tok}(hy:(y.length != 0)=true)(hsz:x.length≤topK)(hsz2:(Builtin.Str.partsBetween ⟨⟨x⟩⟩ (Builtin.Str.occurrences ⟨⟨x⟩⟩ ⟨⟨y⟩⟩ 0 x.length (x.length+1)) y.length).length≤topK)
  (hl:((Txt.split ⟨⟨x⟩⟩ ⟨⟨y⟩⟩).map fun x=>AV.str x.cps.toList).length≤topK) (R:Rep w o₀ B env ad st s)
  (k:∀ ad' v s',Nx w o₀ B env ad st ad' (st.alloc (.list ((Txt.split ⟨⟨x⟩⟩ ⟨⟨y⟩⟩).map fun x=>AV.str x.cps.toList) ((Txt.split ⟨⟨x⟩⟩ ⟨⟨y⟩⟩).map fun x=>AV.str x.cps.toList).length)).2 s' →
   VR (st.μ.length+1) ad' s'.heap (.ref st.μ.length) v→Q v s') :
  wpAny (model Pr w) A (call (.builtin "str.split") [.str ⟨⟨x⟩⟩ t,.str ⟨⟨y⟩⟩ t']) Q E s:=by
 have hq:∀ (l:List (Str × Tok)) tk nn,l.map (·.1)=Txt.split ⟨⟨x⟩⟩ ⟨⟨y⟩⟩→Q (.ref s.heap.objs.size) {s with heap:=s.heap.push {cls:=.type "list",data:=.seq (strValues l).toArray nn},toks:=tk}:=by
  intro l tk nn e
  have e2:(Txt.split ⟨⟨x⟩⟩ ⟨⟨y⟩⟩).map (fun x=>AV.str x.cps.toList)=l.map fun x=>AV.str x.1.cps.toList:=by rw [← e,List.map_map];rfl
  have al:=strs_al (ad:=ad) l st.μ.length s.heap
  rw [← e2] at al
  have R':=(R.newList (k:=nn) al ⟨Nat.le_refl _,hl⟩).toks tk
  have e3:(strValues l).toArray=⟨strValues l⟩:=by rfl
  rw [e3]
  exact k _ _ _ ⟨agree_upd _ _ _,by simp [St.alloc],R'⟩ ⟨by simp,by simp [updAd]⟩
 have hs1:(⟨⟨x⟩⟩:Str).length≤sizeLine:=by simp only [Str.length,Array.size,topK,sizeLine_eq] at *;kt_len
 have hs2:(Builtin.Str.partsBetween ⟨⟨x⟩⟩ (Builtin.Str.occurrences ⟨⟨x⟩⟩ ⟨⟨y⟩⟩ 0 (⟨⟨x⟩⟩:Str).length ((⟨⟨x⟩⟩:Str).length+1)) (⟨⟨y⟩⟩:Str).length).length≤sizeLine:=by
  have:(Builtin.Str.partsBetween ⟨⟨x⟩⟩ (Builtin.Str.occurrences ⟨⟨x⟩⟩ ⟨⟨y⟩⟩ 0 (⟨⟨x⟩⟩:Str).length ((⟨⟨x⟩⟩:Str).length+1)) (⟨⟨y⟩⟩:Str).length).length≤topK:=hsz2
  simp only [topK,sizeLine_eq] at *;kt_len
 have hy':((⟨⟨y⟩⟩:Str).length==0)=false:=by
  have e:(⟨⟨y⟩⟩:Str).length=y.length:=rfl
  rw [e];simpa [bne] using hy
 cases h1:(decide ((⟨⟨x⟩⟩:Str).length < (⟨⟨y⟩⟩:Str).length)||decide (Builtin.Str.strKind ⟨⟨x⟩⟩ < Builtin.Str.strKind ⟨⟨y⟩⟩))
 ·cases hf:(Builtin.Str.occurrences ⟨⟨x⟩⟩ ⟨⟨y⟩⟩ 0 (⟨⟨x⟩⟩:Str).length ((⟨⟨x⟩⟩:Str).length+1)).isEmpty
  ·refine call_meets F.slot_str_split (typeIs_str _ _ _) F.entry_str_split (F.args_str_split_2 _ _) (meets_str_split_sep _ _ t t' h1 hy' hf hs1 hs2) ?_
   show wants Q E _ {s with toks:=_,heap:=s.heap.push {cls:=.type "list",data:=.seq (strsFrom s.toks (Builtin.Str.partsBetween ⟨⟨x⟩⟩ (Builtin.Str.occurrences ⟨⟨x⟩⟩ ⟨⟨y⟩⟩ 0 (⟨⟨x⟩⟩:Str).length ((⟨⟨x⟩⟩:Str).length+1)) (⟨⟨y⟩⟩:Str).length)).toArray}}
   rw [strsFrom_eq]
   exact hq (numbered s.toks _) _ _ ((numbered_texts _ _).trans ((if_neg (ne_true_of_eq_false h1)).trans (if_neg (ne_true_of_eq_false hf))).symm)
  ·exact call_meets F.slot_str_split (typeIs_str _ _ _) F.entry_str_split (F.args_str_split_2 _ _) (meets_str_split_not_found _ _ t t' h1 hy' hf)
    (hq [(_,t)] s.toks 0 ((if_neg (ne_true_of_eq_false h1)).trans (if_pos hf)).symm)
 ·exact call_meets F.slot_str_split (typeIs_str _ _ _) F.entry_str_split (F.args_str_split_2 _ _) (meets_str_split_cannot_occur _ _ t t' h1)
   (hq [(_,t)] s.toks 0 (if_pos h1).symm)
set_option tactic.hygienic true
end
section
variable {w:World}{o₀:OsState}{A:Around}{env:Env}{st st' st₁ st₂:St}{B:Addr→Obj→Prop}{ad:Nat→Addr}{s:Shared}{E:Value→Shared→Prop}{n:Nat}{r:Rec}{Q:Value→Shared→Prop}{a c u:AV}
set_option tactic.hygienic false
theorem attrBase {o:Expr}{f:Str}(h:isCallE o=false):attributeBase o f env (eval o env)=eval o env:=by
 induction o using Expr.casesOn <;> first | rfl | exact ftC h.symm | exact ftC h
theorem backAll {as:List Expr}{pos:Pos}(h:as.all notStar=true):((backTo pos (starEach as env)).all fun x=>!x.1)=true:=by
 have:=noStarB (env:=env) (pos:=pos) h
 rw [List.any_eq_false] at this
 rw [List.all_eq_true]
 intro x hx
 have:=this x hx
 simpa using this
theorem methB {T id:String}{o:Expr}{f g:Str}{ap p:Pos}{as:List Expr}{vs:List AV}(hf:f=g)(hE:GE w o₀ n r.E)(hEs:GEs w o₀ n r.Es)(hA:AOk A n)(hN:EnvOk env)
  (hc:(as.all notStar&&!isCallE o&&ap.endLine==p.line&&decide (as.length≤20))=true) (pa:PlainAttrs T) (sl:Slot T g id) (ty:typeOf (.builtin id)=pure (.type "method_descriptor"))
  (h1:r.E o st=some (u,st₁)) (h2:r.Es as st₁=some (vs,st₂)) (R:Rep w o₀ B env ad st s)
  (hT:∀ {ad s ov},Rep w o₀ B env ad st₁ s→VR st₁.μ.length ad s.heap u ov→s.TypeIs ov T∧∀ a,ov=.ref a→∃ ob,s.heap.get? a=some ob∧ob.dict=none)
  (k:∀ ad' ov us s',Nx w o₀ B env ad st ad' st₂ s'→VR st₂.μ.length ad' s'.heap u ov→All2 (VR st₂.μ.length ad' s'.heap) vs us→wpAny (model Pr w) A (call (.builtin id) (ov::us)) Q E s') :
  wpAny (model Pr w) A (eval (.Call (.Attribute o f ap) as [] p) env) Q E s:=by
 subst hf
 simp only [Bool.and_eq_true,Bool.not_eq_true',decide_eq_true_eq] at hc
 obtain ⟨⟨⟨c1,c2⟩,c3⟩,c4⟩:=hc
 refine wpAny_Call_method (attrBase c2) ?_ c3 pa sl ty (hE hA hN h1 R fun ad₁ ov s₁ N₁ V₁=>⟨(hT N₁.R V₁).1,(hT N₁.R V₁).2,withB (first:=[ov]) c1 (hEs hA hN h2 N₁.R.widen fun ad₂ us s₂ N₂ V₂=>k _ _ _ _ (N₁.seq N₂) (N₂.keep N₁.R V₁) V₂)⟩)
 rw [backAll c1]
 simp only [Bool.true_and,Bool.and_eq_true,decide_eq_true_eq]
 refine ⟨rfl,?_⟩
 simp;kt_len
theorem tyStr {m:Nat}{l:List Nat}{ad:Nat→Addr}{s:Shared}{ov:Value}(V:VR m ad s.heap (.str l) ov):s.TypeIs ov "str"∧∀ a,ov=.ref a→∃ ob,s.heap.get? a=some ob∧ob.dict=none:=by
 obtain ⟨t,rfl⟩:=V
 exact ⟨typeIs_str _ _ _,fun a e=>by cases e⟩
theorem strsOf_al {m:Nat}{h:Heap}{l:List AV}{vs:List Value}{ls:List Str}(e:strsOf l=some ls)(al:All2 (VR m ad h) l vs):∃ q:List (Str × Tok),vs=strValues q∧q.map (·.1)=ls:=by
 induction al generalizing ls with
 | nil=>obtain rfl:=Option.some.inj e;exact ⟨[],rfl,rfl⟩
 | @cons a v l vs x y ih=>
  induction a using AV.casesOn with
  | str z=>
   obtain ⟨t,rfl⟩:=x
   refine mapE1 e fun ms e1 e2=>?_
   subst e2
   obtain ⟨q,rfl,e3⟩:=ih e1
   exact ⟨(⟨⟨z⟩⟩,t)::q,rfl,by rw [List.map_cons,e3]⟩
  | _=>exact noS e
theorem q_join {l:List Nat}{vs:List AV}{us:List Value}{ov:Value}{Q:Value→Shared→Prop}(hA:AOk A n)(h:methJoin l vs st=some (a,st'))(R:Rep w o₀ B env ad st s)(V:VR st.μ.length ad s.heap (.str l) ov)(al:All2 (VR st.μ.length ad s.heap) vs us)(k:Kt w o₀ B env ad st st' a Q) :
  wpAny (model Pr w) A (call (.builtin "str.join") (ov::us)) Q E s:=by
 obtain ⟨t,rfl⟩:=V
 refine bindE1 h fun v h1 h=>ln1_al h1 al fun u hv=>?_
 induction v using AV.casesOn with
 | str y=>
  obtain ⟨t',rfl⟩:=hv
  refine iteE h fun hj h=>?_
  kt_eqs
  exact SC.joinStr hA.1 hj fun h' kk t' hk=>k _ _ _ ⟨Agree.refl _ _,Nat.le_refl _,R.grow (s':={s with heap:=h',toks:=kk}) hk rfl rfl⟩ ⟨t',rfl⟩
 | ref i=>
  obtain ⟨hi,rfl⟩:=hv
  refine bindE1 h fun li e h=>?_
  obtain ⟨kk,e⟩:=asL_inv e
  refine bindE1 h fun ls e1 h=>?_
  refine iteE h fun hj h=>?_
  kt_eqs
  obtain ⟨ws,pl,al2,z⟩:=R.mem _ _ e
  obtain ⟨q,rfl,e3⟩:=strsOf_al e1 al2
  have pl':s.heap.IsList (ad i) (strValues q).toArray:=by have:=pl.isList;simpa using this
  exact SC.join pl' e3 hj fun t' kk=>k _ _ _ ((Nx.refl R).toks kk) ⟨t',rfl⟩
 | _=>exact noS h
theorem q_lower {l:List Nat}{vs:List AV}{us:List Value}{ov:Value}{Q:Value→Shared→Prop}(h:methLower l vs st=some (a,st'))(R:Rep w o₀ B env ad st s)(V:VR st.μ.length ad s.heap (.str l) ov)(al:All2 (VR st.μ.length ad s.heap) vs us)(k:Kt w o₀ B env ad st st' a Q) :
  wpAny (model Pr w) A (call (.builtin "str.lower") (ov::us)) Q E s:=by
 obtain ⟨t,rfl⟩:=V
 rcases al with _ | ⟨x,al⟩
 ·refine iteN h fun hl h=>?_
  kt_eqs
  exact SC.lower (by simpa using hl) (k _ _ _ ((Nx.refl R).toks _) ⟨_,rfl⟩)
 ·exact noS h
theorem q_split {l:List Nat}{vs:List AV}{us:List Value}{ov:Value}{Q:Value→Shared→Prop}(h:methSplit l vs st=some (a,st'))(R:Rep w o₀ B env ad st s)(V:VR st.μ.length ad s.heap (.str l) ov)(al:All2 (VR st.μ.length ad s.heap) vs us)(k:Kt w o₀ B env ad st st' a Q) :
  wpAny (model Pr w) A (call (.builtin "str.split") (ov::us)) Q E s:=by
 obtain ⟨t,rfl⟩:=V
 refine bindE1 h fun y h1 h=>oneS h1 al fun u hv=>?_
 obtain ⟨t',rfl⟩:=hv
 refine iteE h fun hj h=>?_
 simp only [Bool.and_eq_true,decide_eq_true_eq] at hj
 kt_eqs
 exact split_ok hj.1.1.1 (of_decide_eq_true hj.1.2) hj.2 hj.1.1.2 R fun ad₃ v s₃ N₃ V₃=>k _ _ _ N₃ (by simpa [St.alloc] using V₃)
theorem q_startswith {l:List Nat}{vs:List AV}{us:List Value}{ov:Value}{Q:Value→Shared→Prop}(h:methStarts l vs st=some (a,st'))(R:Rep w o₀ B env ad st s)(V:VR st.μ.length ad s.heap (.str l) ov)(al:All2 (VR st.μ.length ad s.heap) vs us)(k:Kt w o₀ B env ad st st' a Q) :
  wpAny (model Pr w) A (call (.builtin "str.startswith") (ov::us)) Q E s:=by
 obtain ⟨t,rfl⟩:=V
 refine mapE1 h fun y h1 h=>oneS h1 al fun u hv=>?_
 obtain ⟨t',rfl⟩:=hv
 kt_eqs
 exact SC.startswith (k _ _ _ (Nx.refl R) rfl)
theorem q_endswith {l:List Nat}{vs:List AV}{us:List Value}{ov:Value}{Q:Value→Shared→Prop}(h:methEnds l vs st=some (a,st'))(R:Rep w o₀ B env ad st s)(V:VR st.μ.length ad s.heap (.str l) ov)(al:All2 (VR st.μ.length ad s.heap) vs us)(k:Kt w o₀ B env ad st st' a Q) :
  wpAny (model Pr w) A (call (.builtin "str.endswith") (ov::us)) Q E s:=by
 obtain ⟨t,rfl⟩:=V
 refine mapE1 h fun y h1 h=>oneS h1 al fun u hv=>?_
 obtain ⟨t',rfl⟩:=hv
 kt_eqs
 exact SC.endswith (k _ _ _ (Nx.refl R) rfl)
theorem q_find {l:List Nat}{vs:List AV}{us:List Value}{ov:Value}{Q:Value→Shared→Prop}(h:methFind l vs st=some (a,st'))(R:Rep w o₀ B env ad st s)(V:VR st.μ.length ad s.heap (.str l) ov)(al:All2 (VR st.μ.length ad s.heap) vs us)(k:Kt w o₀ B env ad st st' a Q) :
  wpAny (model Pr w) A (call (.builtin "str.find") (ov::us)) Q E s:=by
 obtain ⟨t,rfl⟩:=V
 refine bindE1 h fun p h1 h=>ln3_al h1 al fun u v z hu hv hz=>?_
 refine bindE1 h fun y h2 h=>?_
 refine bindE1 h fun i h3 h=>?_
 refine mapE1 h fun j h4 h=>?_
 rw [asS_inv h2] at hu
 rw [asI_inv h3] at hv
 rw [asI_inv h4] at hz
 obtain ⟨t1,rfl⟩:=hu
 obtain ⟨t2,rfl⟩:=hv
 obtain ⟨t3,rfl⟩:=hz
 kt_eqs
 exact call_gives F.slot_str_find (typeIs_str _ _ _) F.entry_str_find (F.args_str_find_4 _ _ _ _) (gives_find4 _ _ _ _ _ _ _ _) (k _ _ _ ((Nx.refl R).toks _) ⟨_,rfl⟩)
theorem e_methS {l:List Nat}{o:Expr}{f:Str}{ap p:Pos}{as:List Expr}{vs:List AV}(hE:GE w o₀ n r.E)(hEs:GEs w o₀ n r.Es)(hA:AOk A n)(hN:EnvOk env)
  (hc:(as.all notStar&&!isCallE o&&ap.endLine==p.line&&decide (as.length≤20))=true)
  (h1:r.E o st=some (.str l,st₁)) (h2:r.Es as st₁=some (vs,st₂)) (h:meth (.str l) (nm f) vs st₂=some (a,st')) (R:Rep w o₀ B env ad st s)
  (k:Kt w o₀ B env ad st st' a Q):wpAny (model Pr w) A (eval (.Call (.Attribute o f ap) as [] p) env) Q E s:=by
 have nmf:∀ {q:List Nat} {T:String},(nm f==q)=true→nm (Str.ofString T)=q→f=Str.ofString T:=fun h1 h2=>nm_inj ((beq_iff_eq.1 h1).trans h2.symm)
 replace h:methS l (nm f) vs st₂=some (a,st'):=h
 unfold methS at h
 refine iteB h (fun hf h=>?_) fun _ h=>?_
 ·exact methB (nmf (T:="join") hf (by decide +kernel)) hE hEs hA hN hc F.plainAttrs_str F.slot_str_join F.type_str_join h1 h2 R (fun _ V=>tyStr V) fun ad₂ ov us s₂ N V al=>q_join hA h N.R V al (k.seq N)
 refine iteB h (fun hf h=>?_) fun _ h=>?_
 ·exact methB (nmf (T:="lower") hf (by decide +kernel)) hE hEs hA hN hc F.plainAttrs_str F.slot_str_lower F.type_str_lower h1 h2 R (fun _ V=>tyStr V) fun ad₂ ov us s₂ N V al=>q_lower h N.R V al (k.seq N)
 refine iteB h (fun hf h=>?_) fun _ h=>?_
 ·exact methB (nmf (T:="split") hf (by decide +kernel)) hE hEs hA hN hc F.plainAttrs_str F.slot_str_split F.type_str_split h1 h2 R (fun _ V=>tyStr V) fun ad₂ ov us s₂ N V al=>q_split h N.R V al (k.seq N)
 refine iteB h (fun hf h=>?_) fun _ h=>?_
 ·exact methB (nmf (T:="startswith") hf (by decide +kernel)) hE hEs hA hN hc F.plainAttrs_str F.slot_str_startswith F.type_str_startswith h1 h2 R (fun _ V=>tyStr V) fun ad₂ ov us s₂ N V al=>q_startswith h N.R V al (k.seq N)
 refine iteB h (fun hf h=>?_) fun _ h=>?_
 ·exact methB (nmf (T:="endswith") hf (by decide +kernel)) hE hEs hA hN hc F.plainAttrs_str F.slot_str_endswith F.type_str_endswith h1 h2 R (fun _ V=>tyStr V) fun ad₂ ov us s₂ N V al=>q_endswith h N.R V al (k.seq N)
 refine iteE h (fun hf h=>?_)
 ·exact methB (nmf (T:="find") hf (by decide +kernel)) hE hEs hA hN hc F.plainAttrs_str F.slot_str_find F.type_str_find h1 h2 R (fun _ V=>tyStr V) fun ad₂ ov us s₂ N V al=>q_find h N.R V al (k.seq N)
end
set_option tactic.hygienic false
noncomputable def pairOk:List DictEntry→List (Int × Str)→Bool
 | [],[]=>true
 | e::es,(i,x)::l=>(match e.key with | .int j _=>i==j&&e.hash==hashInt j | _=>false)&&isTxtV e.val x&&pairOk es l
 | _,_=>false
set_option tactic.hygienic true in
theorem pair_keys:∀ (es:List DictEntry) (l:List (Int × Str)),pairOk es l=true→∀ e∈es,∃ j:Int,Value.isInt j e.key=true∧e.hash=hashInt j
 | [],l,h,e,he=>by cases he
 | e'::es,[],h,e,he=>by exact ftC h
 | e'::es,(i,x)::l,h,e,he=>by
  simp only [pairOk,Bool.and_eq_true] at h
  rcases List.mem_cons.1 he with rfl | he
  ·have h1:=h.1.1
   split at h1
   next j t hk=>
    simp only [Bool.and_eq_true,beq_iff_eq] at h1
    exact ⟨j,by rw [hk];simp [Value.isInt],h1.2⟩
   next=>exact ftC h1
  ·exact pair_keys es l h.2 e he
set_option tactic.hygienic true in
theorem pair_find:∀ (es:List DictEntry) (l:List (Int × Str)) (k:Int),pairOk es l=true→(match lookI l k with
  | some x=>∃ t,(es.find? fun e=>Value.isInt k e.key).map (·.val)=some (.str x t)
  | none=>(es.find? fun e=>Value.isInt k e.key)=none)
 | [],[],k,h=>rfl
 | [],_::_,k,h=>by exact ftC h
 | e'::es,[],k,h=>by exact ftC h
 | e'::es,(i,x)::l,k,h=>by
  simp only [pairOk,Bool.and_eq_true] at h
  have ih:=pair_find es l k h.2
  have h1:=h.1.1
  split at h1
  next j t hk=>
   simp only [Bool.and_eq_true,beq_iff_eq] at h1
   refine x0_1 h1 fun hq0 _=>?_;subst hq0
   simp only [lookI,List.find?_cons]
   have e2:Value.isInt k e'.key=(i==k):=by
    rw [hk]
    simp only [Value.isInt]
   rw [e2]
   induction hik:(i==k) using Bool.casesOn with
   | true=>
    simp only [if_true]
    have h2:=h.1.2
    unfold isTxtV at h2
    split at h2
    next q t' q' hv=>rw [beq_iff_eq] at h2;subst h2;exact ⟨q',by simp [hv]⟩
    next=>exact ftC h2
   | false=>simpa using ih
  next=>exact ftC h1
theorem b3_pairs:pairOk (b3E 398) b3=true:=by kernel_rfl!
theorem hf144 (P:Params):(Hf P).get? 144=some (DO (b3E 398) 650):=by kernel_rfl!
section
variable {w:World}{o₀:OsState}{A:Around}{env:Env}{st st' st₁ st₂:St}{B:Addr→Obj→Prop}{ad:Nat→Addr}{s:Shared}{E:Value→Shared→Prop}{n:Nat}{r:Rec}{Q:Value→Shared→Prop}{a c u:AV}
theorem b3_map (R:Rep w o₀ B env ad st s):s.heap.MapOf (intKind Pr w) 144 (fun k=>findBy Value.isInt ⟨b3E 398⟩ k):=
 ⟨_,⟨b3E 398⟩,650,R.obj (hf144 w.params) (by decide) (by decide),⟨rfl,rfl,rfl⟩,rfl,fun e he=>pair_keys _ _ b3_pairs e (by simpa using he),fun k=>rfl⟩
theorem b3_val {m:Nat}{h:Heap}(k:Int):VR m ad h (optA (lookI b3 k)) ((findBy Value.isInt ⟨b3E 398⟩ k).getD .none):=by
 have:=pair_find (b3E 398) b3 k b3_pairs
 unfold findBy
 have e1:((⟨b3E 398⟩:Array DictEntry).find? fun e=>Value.isInt k e.key)=(b3E 398).find? fun e=>Value.isInt k e.key:=by simp
 rw [e1]
 induction hl:lookI b3 k using Option.casesOn with
 | none=>rw [hl] at this;rw [this];rfl
 | some x=>rw [hl] at this;refine x1_0 this fun t e=>?_;rw [e];exact ⟨t,rfl⟩
theorem e_methT {t:Nat}{o:Expr}{f:Str}{ap p:Pos}{as:List Expr}{vs:List AV}(hE:GE w o₀ n r.E)(hEs:GEs w o₀ n r.Es)(hA:AOk A n)(hN:EnvOk env)
  (hc:(as.all notStar&&!isCallE o&&ap.endLine==p.line&&decide (as.length≤20))=true)
  (h1:r.E o st=some (.tb t,st₁)) (h2:r.Es as st₁=some (vs,st₂)) (h:meth (.tb t) (nm f) vs st₂=some (a,st')) (R:Rep w o₀ B env ad st s)
  (k:Kt w o₀ B env ad st st' a Q):wpAny (model Pr w) A (eval (.Call (.Attribute o f ap) as [] p) env) Q E s:=by
 replace h:(if t==3&&nm f==[103,101,116] then ((ln1 vs).bind asI).map fun k=>(optA (lookI b3 k),st₂) else Option.none)=some (a,st'):=h
 refine iteE h fun hf hm=>?_
 rw [Bool.and_eq_true,beq_iff_eq,beq_iff_eq] at hf
 obtain ⟨rfl,hf⟩:=hf
 have hf:f=Str.ofString "get":=nm_inj (hf.trans (by decide +kernel))
 refine methB hf hE hEs hA hN hc F.plainAttrs_dict F.slot_dict_get F.type_dict_get h1 h2 R (fun R V=>?_) fun ad₂ ov us s₂ N V al=>?_
 ·rcases V with ⟨h,_⟩ | ⟨_,rfl⟩
  ·cases h
  ·exact ⟨⟨_,R.obj (hf144 w.params) (by decide) (by decide),rfl⟩,fun a e=>by cases e;exact ⟨_,R.obj (hf144 w.params) (by decide) (by decide),rfl⟩⟩
 ·rcases V with ⟨h,_⟩ | ⟨_,rfl⟩
  ·cases h
  refine mapE1 hm fun i h1 h=>oneI h1 al fun u hv=>?_
  refine x1_0 hv fun t hq1=>?_;subst hq1
  kt_eqs
  have hT:s₂.TypeIs (.ref 144) "dict":=⟨_,N.R.obj (hf144 w.params) (by decide) (by decide),rfl⟩
  exact call_meetsIn F.slot_dict_get @hT F.entry_dict_get (F.args_dict_get_2 _ _) (meets_dict_get (intKind Pr w) (k:=i) 144 (by simp [intKind,Value.isInt]) (by decide)) ⟨_,b3_map N.R,k _ _ _ (N.toks _) (b3_val i)⟩
theorem meth_l {i kk:Nat}{l vs:List AV}{f:Nm}{st:St}(hl:st.μ[i]?=some (.list l kk)) :
  meth (.ref i) f vs st=if f==[97,112,112,101,110,100] then (ln1 vs).bind fun v=>if kk < topK then some (.none,{st with μ:=st.μ.set i (.list (l++[v]) (kk+1))}) else Option.none else Option.none:=by
 delta meth;dsimp only;rw [hl]
theorem e_methL {i:Nat}{l:List AV}{kk:Nat}{o:Expr}{f:Str}{ap p:Pos}{as:List Expr}{vs:List AV}(hE:GE w o₀ n r.E)(hEs:GEs w o₀ n r.Es)(hA:AOk A n)(hN:EnvOk env)
  (hc:(as.all notStar&&!isCallE o&&ap.endLine==p.line&&decide (as.length≤20))=true) (hl₁:∃ l kk,st₁.μ[i]?=some (.list l kk)) (hl:st₂.μ[i]?=some (.list l kk))
  (h1:r.E o st=some (.ref i,st₁)) (h2:r.Es as st₁=some (vs,st₂)) (h:meth (.ref i) (nm f) vs st₂=some (a,st')) (R:Rep w o₀ B env ad st s)
  (k:Kt w o₀ B env ad st st' a Q):wpAny (model Pr w) A (eval (.Call (.Attribute o f ap) as [] p) env) Q E s:=by
 replace h:(if nm f==[97,112,112,101,110,100] then (ln1 vs).bind fun v=>if kk < topK then some (.none,{st₂ with μ:=st₂.μ.set i (.list (l++[v]) (kk+1))}) else Option.none else Option.none)=some (a,st'):=(meth_l hl).symm.trans h
 refine iteE h fun hf h=>?_
 refine methB (g:=Str.ofString "append") (nm_inj ((beq_iff_eq.1 hf).trans (by decide +kernel))) hE hEs hA hN hc F.plainAttrs_list slot_list_append type_list_append h1 h2 R (fun R V=>?_) fun ad₂ ov us s₂ N V al=>?_
 ·refine x0_1 V fun hi hq1=>?_;subst hq1
  refine x2_0 hl₁ fun l₁ kk₁ e₁=>?_
  refine x1_2 (R.mem _ _ e₁) fun ws hz01 al z=>?_;refine x1_0 hz01 fun q e=>?_
  exact ⟨⟨_,e,rfl⟩,fun a e'=>by cases e';exact ⟨_,e,rfl⟩⟩
 ·refine x0_1 V fun hi hq1=>?_;subst hq1
  refine bindE1 h fun v h1 h=>ln1_al h1 al fun uv hv=>?_
  refine iteE h fun hk h=>?_
  kt_eqs
  refine x1_2 (N.R.mem _ _ hl) fun ws pl al2 z=>?_
  refine wpAny_list_append_plain pl (fun h' p' hs=>?_) ?_
  ·exact k _ _ _ (N.seq' (listSet N.R hl pl (vs':=ws++[uv]) (by simpa using p') hs (al2.app (.cons hv .nil)) ⟨by have:=z.1;simp;kt_len,by kt_len⟩)) rfl
  ·simp only [Array.size];rw [← al2.length];have:=z.1;have:=z.2;simp only [topK,sizeLine_eq] at *;kt_len
end
section
variable {w:World}{o₀:OsState}{A:Around}{env:Env}{st st' st₁ st₂:St}{B:Addr→Obj→Prop}{ad:Nat→Addr}{s:Shared}{E:Value→Shared→Prop}{n:Nat}{r:Rec}{a c u:AV}{FF:List (Nm × UF)}
set_option tactic.hygienic false
theorem iter_self {it:Addr}{ai:AIt}{Q:Value→Shared→Prop}(x:ItR s.heap n ad it ai)(h:Q (.ref it) s):wpAny (model Pr w) A (pyIter (.ref it)) Q E s:=by
 cases x with
 | str x t i hi=>
  unfold strIterType at hi
  split at hi
  ·exact wpAny_pyIter_striter_ascii hi h
  ·exact wpAny_pyIter_striter_wide hi h
 | tup t vs l i hi _ _=>exact wpAny_pyIter_tupleiter hi h
 | rng x l s hi=>exact wpAny_pyIter_rangeiter hi h
 | lst i k _ hi=>exact wpAny_pyIter_listiter hi h
set_option tactic.hygienic true
theorem owned_ok {t:Expr}{it:Addr}{ai:AIt}{v:Value}{Q:Unit→Shared→Prop}(x:ItR s.heap n ad it ai)(h:Q () s):wpAny (model Pr w) A (letOwnedTupleGo t (.ref it) v) Q E s:=by
 refine x3_3 (x.obj) fun o vs T e hd hc hT=>?_
 have hT2:["enumerate","zip","dict_itemiterator","dict_reverseitemiterator","odict_iterator","itertools.zip_longest","itertools.pairwise"].contains T=false:=by
  cases x with
  | str x t i hi=>refine x1_2 hi fun o' e' c' _=>?_;rw [e] at e';cases e';rw [hc] at c';cases c';unfold strIterType;split <;> decide
  | tup t vs l i hi _ _=>refine x1_2 hi fun o' e' c' _=>?_;rw [e] at e';cases e';rw [hc] at c';cases c';decide
  | rng x l s hi=>unfold IsRangeIter at hi;cases someI e hi;cases hc;decide
  | lst i k _ hi=>refine x1_2 hi fun o' e' c' _=>?_;rw [e] at e';cases e';rw [hc] at c';cases c';decide
 have go:wpAny (model Pr w) A (letOwnedTupleGo (.List [] t.pos) (.ref it) v) Q E s:=by
  unfold letOwnedTupleGo
  induction v using Value.casesOn <;> try exact wpAny_pure h
  rename_i b
  refine wpAny_bind (wpAny_load e ?_)
  rw [hc,hd]
  dsimp only
  rw [hT2]
  exact wpAny_pure h
 induction t using Expr.casesOn <;> first | exact wpAny_pure h | exact go
set_option tactic.hygienic false
theorem compLoop_own {elt target iter : Expr} {ifs : List Expr} {scope : Scope} {pos : Pos} {it acc : Value} {R : Result → Shared → Prop} (I : Nat → Shared → Prop)
    (turn : ∀ n s, I n s → wpAny (model Pr w) A (pyNext it) (fun r s₁ => match r with
      | none => R (.ok .next) s₁
      | some v => wpAny (model Pr w) A (letOwnedTupleGo target it v) (fun _ s₁ => wpAny (model Pr w) A (assign target env v) (fun _ s₂ =>
          wpAny (model Pr w) A (forIn ifs true fun c r => if r = true then do let ok ← isTrue c env (eval c env); pure (ForInStep.yield ok) else pure (ForInStep.yield r)) (fun ok s₃ =>
            if ok = true then wpAny (model Pr w) A (eval elt env) (fun x s₄ =>
              wpAny (model Pr w) A (call (.builtin "list.append") [acc, x]) (fun _ s₅ => ∃ m, m < n ∧ I m s₅) (notedBy (model Pr w) A env fun e s' => R (.error e) s') s₄) (notedBy (model Pr w) A env fun e s' => R (.error e) s') s₃
            else ∃ m, m < n ∧ I m s₃) (notedBy (model Pr w) A env fun e s' => R (.error e) s') s₂) (notedBy (model Pr w) A env fun e s' => R (.error e) s') s₁) (notedBy (model Pr w) A env fun e s' => R (.error e) s') s₁) (notedBy (model Pr w) A env fun e s' => R (.error e) s') s)
    (n : Nat) (h : I n s) :
    codeAny (model Pr w) A (.compLoop (.ListComp elt [⟨target, iter, ifs, 0⟩] scope pos) 0 it acc env) R s := by
  refine codeAny_loop rfl I (fun n s hI => ?_) n h
  show wpAny _ A ((compTurn (.ListComp elt [⟨target, iter, ifs, 0⟩] scope pos) 0 it acc env).onRaise (fun x => do noteFrame x env; theTreesLotGoes x)) _ _ s
  refine wpAny_noted ?_
  rw [compTurn_list]
  refine wpAny_bind (wpAny_standAt (wpAny_bind (wpAny_mono (turn n s hI) (fun r s₁ h₁ => ?_) fun _ _ h' => h')))
  induction r using Option.casesOn with
  | none => exact wpAny_pure h₁
  | some v =>
    refine wpAny_bind (wpAny_mono h₁ (fun _ s₁ h₁ => ?_) fun _ _ h' => h')
    refine wpAny_bind (wpAny_mono h₁ (fun _ s₂ h₂ => wpAny_bind (wpAny_mono h₂ (fun ok s₃ h₃ => ?_) fun _ _ h' => h')) fun _ _ h' => h')
    induction ok using Bool.casesOn with
    | false => exact wpAny_pure ⟨rfl, h₃⟩
    | true =>
      exact wpAny_bind (wpAny_bind (wpAny_mono h₃ (fun x s₄ h₄ => wpAny_bind (wpAny_mono h₄ (fun _ s₅ h₅ => wpAny_pure (wpAny_pure ⟨rfl, h₅⟩)) fun _ _ h' => h')) fun _ _ h' => h'))
theorem allT_false {ifs : List Expr} {Q : Bool → Shared → Prop} (h : Q false s) : wpAny (model Pr w) A (forIn ifs false fun c r => if r = true then do let ok ← isTrue c env (eval c env); pure (ForInStep.yield ok) else pure (ForInStep.yield r)) Q E s := by
  induction ifs with
  | nil => exact wpAny_pure h
  | cons c l ih =>
    rw [List.forIn_cons]
    refine wpAny_bind ?_
    rw [if_neg Bool.false_ne_true]
    exact wpAny_pure ih
theorem allT_ok {ifs : List Expr} {b : Bool} {Q : Bool → Shared → Prop} (hT : GT w o₀ n r.T) (hA : AOk A n) (hN : EnvOk env) (h : allT r ifs st = some (b, st')) (R : Rep w o₀ B env ad st s)
    (k : ∀ ad' s', Nx w o₀ B env ad st ad' st' s' → Q b s') :
    wpAny (model Pr w) A (forIn ifs true fun c r => if r = true then do let ok ← isTrue c env (eval c env); pure (ForInStep.yield ok) else pure (ForInStep.yield r)) Q E s := by
  induction ifs generalizing st s ad with
  | nil => cases h; exact wpAny_pure (k _ _ (.refl R))
  | cons c l ih =>
    refine bindE h fun b₁ st₁ h1 h => ?_
    rw [List.forIn_cons]
    refine wpAny_bind ?_
    refine wIfP rfl ?_
    refine wpAny_bind (hT hA hN h1 R fun ad₁ s₁ N₁ => wpAny_pure ?_)
    induction b₁ using Bool.casesOn with
    | true => exact ih h N₁.R fun ad₂ s₂ N₂ => k _ _ (N₁.seq' N₂)
    | false => cases h; exact allT_false (k _ _ N₁)
set_option tactic.hygienic true
end
set_option tactic.hygienic false
noncomputable def clOf (env:Env):List (Str × NameKind)→List (Str × Addr)→List (Str × Addr)
 | [],cs=>cs
 | (x,k)::l,cs=>clOf env l (if k==.free then (x,(env.cells.lookup x).getD 0)::cs else cs)
theorem clOf_lookup {env:Env}:∀ (names:List (Str × NameKind)) (cs:List (Str × Addr)) (x:Str),(names.map (·.1)).Nodup→(∀ y∈names.map (·.1),cs.lookup y=none) →
  (clOf env names cs).lookup x=if (x,.free)∈names then some ((env.cells.lookup x).getD 0) else cs.lookup x
 | [],cs,x,_,_=>by rfl
 | (y,k)::l,cs,x,hd,hn=>by
  rw [List.map_cons,List.nodup_cons] at hd
  simp only [clOf]
  have hl:∀ z∈l.map (·.1),(if k==.free then (y,(env.cells.lookup y).getD 0)::cs else cs).lookup z=none:=by
   intro z hz
   have hzy:z≠y:=by rintro rfl;exact hd.1 hz
   have:=hn z (List.mem_cons_of_mem _ hz)
   split
   ·simp only [List.lookup,show (z==y)=false by simp [hzy]];exact this
   ·exact this
  rw [clOf_lookup l _ x hd.2 hl]
  by_cases hx:x=y
  ·subst hx
   have h1:(x,NameKind.free) ∉ l:=fun h=>hd.1 (List.mem_map.2 ⟨_,h,rfl⟩)
   rw [if_neg h1]
   by_cases hk:k=.free
   ·subst hk;simp
   ·have e:(k==NameKind.free)=false:=by induction k using NameKind.casesOn <;> first | rfl | exact absurd rfl hk
    rw [e]
    have h2:(x,NameKind.free) ∉ (x,k)::l:=by
     intro h;rcases List.mem_cons.1 h with h | h
     ·kt_eqs;exact hk rfl
     ·exact h1 h
    rw [if_neg h2];simp
  ·have e:((x,NameKind.free)∈(y,k)::l)↔(x,NameKind.free)∈l:=by
    constructor
    ·intro h;rcases List.mem_cons.1 h with h | h
     ·kt_eqs;exact absurd rfl hx
     ·exact h
    ·exact List.mem_cons_of_mem _
   simp only [e]
   split
   ·rfl
   ·split
    ·simp only [List.lookup,show (x==y)=false by simp [hx]]
    ·rfl
theorem closureFor_ok {env : Env} {scope : Scope} (h : ∀ x, (x, NameKind.free) ∈ scope.names → ∃ c, env.cells.lookup x = some c) : closureFor scope env = pure (clOf env scope.names []) := by
  unfold closureFor
  have gen : ∀ (names : List (Str × NameKind)) (cs : List (Str × Addr)), (∀ x, (x, NameKind.free) ∈ names → ∃ c, env.cells.lookup x = some c) →
      (forIn names cs (fun (x : Str × NameKind) (r : List (Str × Addr)) => (if (x.2 == .free) = true then (do let a ← cellOf env x.1; pure (ForInStep.yield ((x.1, a) :: r))) else pure (ForInStep.yield r) : Sem (ForInStep (List (Str × Addr)))))) = pure (clOf env names cs) := by
    intro names
    induction names with
    | nil => intro cs _; rfl
    | cons y l ih =>
      intro cs hf
      obtain ⟨y, k⟩ := y
      rw [List.forIn_cons]
      have hf' := fun x hx => hf x (List.mem_cons_of_mem _ hx)
      by_cases hk : k = .free
      · subst hk
        refine x1_0 (hf y (List.mem_cons_self ..)) fun c hc => ?_
        have e : cellOf env y = pure c := by unfold cellOf; rw [hc]
        simp only [beq_self_eq_true, if_true, e, pure_bind]
        rw [ih _ hf']
        simp [clOf, hc]
      · have e : (k == NameKind.free) = false := by induction k using NameKind.casesOn <;> first | rfl | exact absurd rfl hk
        simp only [e, Bool.false_eq_true, if_false, pure_bind]
        rw [ih _ hf']
        simp [clOf, e]
  have := gen scope.names [] h
  simp only [bind_pure]
  exact this
section
variable {w:World}{o₀:OsState}{A:Around}{env:Env}{st st' st₁ st₂:St}{B:Addr→Obj→Prop}{ad:Nat→Addr}{s:Shared}{E:Value→Shared→Prop}{n:Nat}{r:Rec}{a c u:AV}{FF:List (Nm × UF)}
set_option tactic.hygienic false
theorem Rep.write (R:Rep w o₀ B env ad st s){D:Addr}{o:Obj}{h':Heap}(hr:Rest env ad st.μ.length s D o)(hc1:o.cls≠.type "tuple")(hc2:∀ es ep,o.data≠.dict es ep)(hB:∀ o,¬ B D o)
  (hs:∀ b ob,b≠D→s.heap.get? b=some ob→h'.get? b=some ob):Rep w o₀ B env ad st {s with heap:=h'}:=by
 refine x0_5 hr fun e r1 r2 r3 r4 r5=>?_
 have ht:∀ t items,s.heap.IsTuple t items→h'.IsTuple t items:=fun t items ⟨ob,e',c,k,d⟩=>⟨ob,hs _ _ (by rintro rfl;cases someI e e';exact hc1 c) e',c,k,d⟩
 have hv:∀ u v,VR st.μ.length ad s.heap u v→VR st.μ.length ad h' u v:=fun u v x=>x.mono (Nat.le_refl _) (Agree.refl _ _) ht
 refine {kept:=fun b ob h=>hs b ob (by rintro rfl;exact hB _ h) (R.kept b ob h),top:=R.top,kd:=R.kd,ns:=?_,cl:=?_,cells:=R.cells,cellObj:=?_,apart:=R.apart,mem:=?_,inj:=R.inj,offB:=R.offB,tab:=?_,bare:=R.bare,os:=R.os}
 ·refine x1_1 (R.ns) fun m hz01 f=>?_;refine x3_2 hz01 fun o' es ep e' d' r=>?_
  exact ⟨m,⟨o',es,ep,hs _ _ r3.symm e',d',r⟩,fun x v e k=>let ⟨val,a,b⟩:=f x v e k;⟨val,a,hv _ _ b⟩⟩
 ·intro y u e k
  refine x2_2 (R.cl y u e k) fun c val a hz03 d=>?_;refine x1_1 hz03 fun oc ec dc=>?_
  exact ⟨c,val,a,⟨oc,hs _ _ (r4 _ _ a).symm ec,dc⟩,hv _ _ d⟩
 ·intro y c m
  refine x2_1 (R.cellObj y c m) fun v₀ oc ec dc=>?_
  exact ⟨v₀,oc,hs _ _ (r4 _ _ m).symm ec,dc⟩
 ·intro j oj ej
  have hjl:j < st.μ.length:=by
   rcases Nat.lt_or_ge j st.μ.length with h | h
   ·exact h
   ·rw [List.getElem?_eq_none h] at ej;exact noS ej
  refine (R.mem j oj ej).mono hv (fun ob e=>hs _ _ (r5 j hjl).symm e) fun D' ob eD cD _ _=>hs _ _ ?_ eD
  rintro rfl;cases someI e eD;refine x2_0 cD fun _ _ q=>?_;exact hc2 _ _ q
 ·intro b h
  refine x1_0 (R.tab b h) fun vs eb=>?_
  refine ⟨vs,hs _ _ ?_ eb⟩
  rintro rfl;rcases h with rfl | rfl
  ·exact r1 rfl
  ·exact r2 rfl
set_option tactic.hygienic true
inductive CmI (w:World)(o₀:OsState)(FF:List (Nm × UF))(n:Nat)(st':St)(B:Addr→Obj→Prop)(env:Env)(ad:Nat→Addr)(st:St)(elt t:Expr)(ifs:List Expr)(l:List AV)(it D:Addr)(m:Nat)(s₁:Shared):Prop
 | mk (ai₁:AIt) (acc₁:List AV) (st₁:St) (ad₁:Nat→Addr) (vals₁:List Value) (hm:m≤n) (h:(run FF m).Cm elt t ifs ai₁ acc₁ st₁=some (l,st')) (N:Nx w o₀ B env ad st ad₁ st₁ s₁) (hi:ItR s₁.heap st₁.μ.length ad₁ it ai₁) (hD:s₁.heap.PlainList D ⟨vals₁⟩) (hal:All2 (VR st₁.μ.length ad₁ s₁.heap) acc₁ vals₁)
   (hne:∀ i,i < st₁.μ.length→ad₁ i≠D) (hacc:acc₁.length≤topK):CmI w o₀ FF n st' B env ad st elt t ifs l it D m s₁
set_option tactic.hygienic false
theorem giveTo_μ {t:Expr}{v:AV}{st st':St}(h:giveTo t v st=some st'):st'.μ=st.μ:=by
 induction t using Expr.casesOn with
 | Name x p=>exact putLoc_μ h
 | Tuple ts a p=>induction v using AV.casesOn with
  | tup l=>exact putAll_μ h
  | _=>exact noS h
 | _=>exact noS h
theorem cm_ok (hE:∀ k,k < n→GE w o₀ k (run FF k).E)(hTe:∀ k,k < n→GT w o₀ k (run FF k).T)(hA:AOk A n)(hN:EnvOk env){elt t iter:Expr}{ifs:List Expr}{scope:Scope}{pos:Pos}{ai:AIt}{l acc:List AV}{it D:Addr}{vals:List Value}
  {R':Result→Shared→Prop} (h:(run FF n).Cm elt t ifs ai acc st=some (l,st')) (R:Rep w o₀ B env ad st s) (hi:ItR s.heap st.μ.length ad it ai) (hB:∀ o,¬ B it o) (hD:s.heap.PlainList D ⟨vals⟩) (hal:All2 (VR st.μ.length ad s.heap) acc vals)
  (hBD:∀ o,¬ B D o) (hne:∀ i,i < st.μ.length→ad i≠D) (hacc:acc.length≤topK)
  (k:∀ ad' vals' s',Nx w o₀ B env ad st ad' st' s'→s'.heap.PlainList D ⟨vals'⟩→All2 (VR st'.μ.length ad' s'.heap) l vals'→(∀ i,i < st'.μ.length→ad' i≠D)→l.length≤topK→R' (.ok .next) s') :
  codeAny (model Pr w) A (.compLoop (.ListComp elt [⟨t,iter,ifs,0⟩] scope pos) 0 (.ref it) (.ref D) env) R' s:=by
 refine compLoop_own (fun m s₁=>CmI w o₀ FF n st' B env ad st elt t ifs l it D m s₁) ?_ n ⟨ai,acc,st,ad,vals,Nat.le_refl _,h,.refl R,hi,hD,hal,hne,hacc⟩
 rintro m s₁ ⟨ai₁,acc₁,st₁,ad₁,vals₁,hm,h,N₁,hi,hD,hal,hne,hacc⟩
 induction m using Nat.casesOn with
 | zero=>exact noS h
 | succ m=>
  have h:stepCm (run FF m) elt t ifs ai₁ acc₁ st₁=some (l,st'):=h
  unfold stepCm at h
  refine bindE1 h fun res h1 h=>?_
  have hDit:D≠it:=by
   rintro rfl
   refine x3_2 (hi.obj) fun o vs T e hd _=>?_
   refine x1_0 hD fun q e2=>?_
   exact dclash e2 e hd rfl
  refine next_ok hA.1 N₁.R hi hB h1 fun s₂ R₂ K₂=>?_
  have N₂:Nx w o₀ B env ad st ad₁ st₁ s₂:=⟨N₁.ag,N₁.le,R₂⟩
  have hD₂:s₂.heap.PlainList D ⟨vals₁⟩:=hD.at fun o e=>K₂ _ _ hDit e
  have htu:∀ t items,s₁.heap.IsTuple t items→s₂.heap.IsTuple t items:=fun t items ⟨o,e,c,d⟩=>by
   refine ⟨o,K₂ _ _ ?_ e,c,d⟩
   rintro rfl
   refine x3_3 (hi.obj) fun o' vs T e' hd hc hT=>?_
   rw [e] at e';cases e';rw [c] at hc;cases hc;exact hT.2.1 rfl
  have hal₂:All2 (VR st₁.μ.length ad₁ s₂.heap) acc₁ vals₁:=hal.mono fun a v x=>x.mono (Nat.le_refl _) (Agree.refl _ _) htu
  induction res using Option.casesOn with
  | none=>
   kt_eqs
   exact k _ _ _ N₂ hD₂ hal₂ hne hacc
  | some p'=>
   obtain ⟨a,ai₂⟩:=p'
   intro v V hi₂
   dsimp only at h
   refine bindE1 h fun st₂ h2 h=>?_
   refine bindE h fun b st₃ h3 h=>?_
   refine owned_ok hi₂ (give_ok hA.1 hN h2 R₂ V fun s₃ N₃ K₃=>?_)
   refine x3_3 (hi₂.obj) fun o vs T e hd hc hT=>?_
   refine x0_1 (R₂.not_frame e hd) fun hf1 hf2=>?_
   have e₃:=K₃ it o hf1 hf2 e
   have ht3:∀ t items,s₂.heap.IsTuple t items→s₃.heap.IsTuple t items:=by
    rintro t items it'
    refine x1_2 (R₂.tuple_rest it') fun ot ct dt rt=>?_
    exact ⟨ot,K₃ _ _ rt.2.2.2.1 rt.2.2.2.2.1 rt.1,ct,dt⟩
   have hi₃:ItR s₃.heap st₂.μ.length ad₁ it ai₂:=hi₂.keep R₂ (fun o' e'=>by cases someI e e';exact e₃) ht3 N₃.ag N₃.le
   have hDL:D≠env.locals:=by
    rintro rfl;refine x1_1 (R₂.ns) fun m hz01 _=>?_;refine x3_2 hz01 fun o' es ep e' d' _=>?_;refine x1_0 hD₂ fun q e2=>?_;exact dclash e2 e' d' rfl
   have hDC:∀ x c,env.cells.lookup x=some c→D≠c:=by
    rintro x c hx rfl;refine x2_1 (R₂.cellObj _ _ hx) fun v₀ o' e' d'=>?_;refine x1_0 hD₂ fun q e2=>?_;exact dclash e2 e' d' rfl
   have hD₃:s₃.heap.PlainList D ⟨vals₁⟩:=hD₂.at fun o e=>K₃ _ _ hDL hDC e
   have hal₃:All2 (VR st₂.μ.length ad₁ s₃.heap) acc₁ vals₁:=hal₂.mono fun a v x=>x.mono N₃.le N₃.ag ht3
   have hμ:st₂.μ=st₁.μ:=giveTo_μ h2
   have hne₃:∀ i,i < st₂.μ.length→ad₁ i≠D:=by rw [hμ];exact hne
   have it_rest:∀ {adx stx sx},Rep w o₀ B env adx stx sx→sx.heap.get? it=some o→Rest env adx stx.μ.length sx it o:=fun Rx ex=>Rx.fields_rest ex hd hc hT
   have D_rest:∀ {adx stx sx},Rep w o₀ B env adx stx sx→sx.heap.PlainList D ⟨vals₁⟩→(∀ i,i < stx.μ.length→adx i≠D)→∃ q,Rest env adx stx.μ.length sx D {cls:=.type "list",data:=.seq ⟨vals₁⟩ q}:=by
    rintro adx stx sx Rx ⟨q,ex⟩ hx
    refine ⟨q,ex,?_,?_,?_,?_,fun i hi=>(hx i hi).symm⟩
    ·rintro rfl;refine x1_0 (Rx.tab 62 (.inl rfl)) fun vs h=>?_;exact clash ex h rfl
    ·rintro rfl;refine x1_0 (Rx.tab 69 (.inr rfl)) fun vs h=>?_;exact clash ex h rfl
    ·rintro rfl;refine x1_1 (Rx.ns) fun m hz01 _=>?_;refine x3_2 hz01 fun o' es ep e' d' _=>?_;exact dclash ex e' d' rfl
    ·rintro x c hm rfl;refine x2_1 (Rx.cellObj _ _ hm) fun v₀ o' e' d'=>?_;exact dclash ex e' d' rfl
   refine allT_ok (hTe m hm) (hA.mono (Nat.le_of_lt hm)) hN h3 N₃.R.widen fun ad₄ s₄ N₄=>?_
   have N₄':Nx w o₀ B env ad st ad₄ st₃ s₄:=(N₂.seq' N₃).seq N₄
   have e₄:s₄.heap.get? it=some o:=N₄.R.kept _ _ (it_rest N₃.R e₃)
   have ht4:∀ t items,s₃.heap.IsTuple t items→s₄.heap.IsTuple t items:=by
    rintro t items it'
    refine x1_2 (N₃.R.tuple_rest it') fun ot ct dt rt=>?_
    exact ⟨ot,N₄.R.kept _ _ rt,ct,dt⟩
   have hi₄:ItR s₄.heap st₃.μ.length ad₄ it ai₂:=hi₃.keep N₃.R (fun o' e'=>by cases someI e₃ e';exact e₄) ht4 N₄.ag N₄.le
   refine x1_0 (D_rest N₃.R hD₃ hne₃) fun q₃ D₃=>?_
   have hD₄:s₄.heap.PlainList D ⟨vals₁⟩:=⟨q₃,N₄.R.kept _ _ D₃⟩
   have hal₄:All2 (VR st₃.μ.length ad₄ s₄.heap) acc₁ vals₁:=hal₃.mono fun a v x=>x.mono N₄.le N₄.ag ht4
   have hne₄:∀ i,i < st₃.μ.length→ad₄ i≠D:=fun i hi=>(N₄.R.offB _ _ D₃).2.2.2.2 i hi |>.symm
   induction b using Bool.casesOn with
   | false=>exact ⟨m,Nat.lt_succ_self _,ai₂,acc₁,st₃,ad₄,vals₁,by kt_len,h,N₄',hi₄,hD₄,hal₄,hne₄,hacc⟩
   | true=>
    refine bindE h fun x st₄ h4 h=>?_
    have hlt:acc₁.length < topK:=by
     rcases Nat.lt_or_ge acc₁.length topK with h' | h'
     ·exact h'
     ·rw [if_neg (Nat.not_lt.2 h')] at h;kt_eqs
    rw [if_pos hlt] at h
    refine hE m hm (hA.mono (Nat.le_of_lt hm)) hN h4 N₄'.R.widen fun ad₅ v₅ s₅ N₅ V₅=>?_
    have N₅':Nx w o₀ B env ad st ad₅ st₄ s₅:=N₄'.seq N₅
    have e₅:s₅.heap.get? it=some o:=N₅.R.kept _ _ (it_rest N₄'.R e₄)
    have ht5:∀ t items,s₄.heap.IsTuple t items→s₅.heap.IsTuple t items:=by
     rintro t items it'
     refine x1_2 (N₄'.R.tuple_rest it') fun ot ct dt rt=>?_
     exact ⟨ot,N₅.R.kept _ _ rt,ct,dt⟩
    have hi₅:ItR s₅.heap st₄.μ.length ad₅ it ai₂:=hi₄.keep N₄'.R (fun o' e'=>by cases someI e₄ e';exact e₅) ht5 N₅.ag N₅.le
    refine x1_0 (D_rest N₄'.R hD₄ hne₄) fun q₄ D₄=>?_
    have hD₅:s₅.heap.PlainList D ⟨vals₁⟩:=⟨q₄,N₅.R.kept _ _ D₄⟩
    have hal₅:All2 (VR st₄.μ.length ad₅ s₅.heap) acc₁ vals₁:=hal₄.mono fun a v x=>x.mono N₅.le N₅.ag ht5
    have hne₅:∀ i,i < st₄.μ.length→ad₅ i≠D:=fun i hi=>(N₅.R.offB _ _ D₄).2.2.2.2 i hi |>.symm
    have hlen:vals₁.length=acc₁.length:=hal₅.length.symm
    refine wpAny_list_append_plain hD₅ (fun h' p' hs=>?_) (by simp only [Array.size];rw [hlen];simp only [topK,sizeLine_eq] at *;kt_len)
    have p'':h'.PlainList D ⟨vals₁++[v₅]⟩:=by simpa using p'
    have K₆:∀ b ob,b≠D→s₅.heap.get? b=some ob→h'.get? b=some ob:=fun b ob nb eb=>(hs.2 b nb).trans eb
    have R₆:Rep w o₀ B env ad₅ st₄ {s₅ with heap:=h'}:=by
     refine x1_0 (D_rest N₅'.R hD₅ hne₅) fun q₅ D₅=>?_
     exact N₅'.R.write D₅ (by simp) (by simp) hBD K₆
    have ht6:∀ t items,s₅.heap.IsTuple t items→h'.IsTuple t items:=tup_keep hD₅ hs
    refine ⟨m,Nat.lt_succ_self _,ai₂,acc₁++[x],st₄,ad₅,vals₁++[v₅],by kt_len,h,⟨N₅'.ag,N₅'.le,R₆⟩,?_,p'',?_,hne₅,by simp;kt_len⟩
    ·exact hi₅.keep N₅'.R (s':={s₅ with heap:=h'}) (fun o' e'=>K₆ _ _ hDit.symm e') ht6 (Agree.refl _ _) (Nat.le_refl _)
    ·exact (hal₅.app (.cons V₅ .nil)).mono fun a v x=>x.mono (Nat.le_refl _) (Agree.refl _ _) ht6
set_option tactic.hygienic true
end
set_option tactic.hygienic true
section
variable {w:World}{o₀:OsState}{A:Around}{env:Env}{st st' st₁ st₂:St}{B:Addr→Obj→Prop}{ad ad₁ ad₂:Nat→Addr}{s s₁ s₂:Shared}{E:Value→Shared→Prop}{n:Nat}{r:Rec}{a c u:AV}{FF:List (Nm × UF)}
noncomputable def RestC (cl:List (Str × Addr))(ad:Nat→Addr)(n:Nat)(it:Addr)(s:Shared)(a:Addr)(o:Obj):Prop:=
 s.heap.get? a=some o∧a≠62∧a≠69∧(∀ x c,cl.lookup x=some c→a≠c)∧(∀ i,i < n→a≠ad i)∧a≠it
theorem look_frees:∀ {names:List (Str × NameKind)} {σ:Sig} {x:Str} {v:AV},look (freesOf names σ) (nm x)=some v↔((x,NameKind.free)∈names∧look σ (nm x)=some v)
 | [],σ,x,v=>by simp [freesOf,look]
 | (y,k)::l,σ,x,v=>by
  have ih:=@look_frees l σ x v
  by_cases hk:k=.free
  ·subst hk
   have step:((x,NameKind.free)∈(y,NameKind.free)::l∧look σ (nm x)=some v)↔((x=y∧look σ (nm x)=some v)∨((x,NameKind.free)∈l∧look σ (nm x)=some v)):=by
    rw [List.mem_cons,Prod.mk.injEq]
    constructor
    ·rintro ⟨h | h,h2⟩
     ·exact .inl ⟨h.1,h2⟩
     ·exact .inr ⟨h,h2⟩
    ·rintro (⟨h,h2⟩ | ⟨h,h2⟩)
     ·exact ⟨.inl ⟨h,rfl⟩,h2⟩
     ·exact ⟨.inr h,h2⟩
   rw [step]
   unfold freesOf
   rw [if_pos rfl]
   split
   next u hy=>
    simp only [look,beq_iff_eq]
    by_cases hxy:nm y=nm x
    ·have:=nm_inj hxy;subst this
     rw [if_pos rfl,hy]
     constructor
     ·intro h;exact .inl ⟨rfl,h⟩
     ·rintro (⟨_,h⟩ | ⟨_,h⟩) <;> exact h
    ·rw [if_neg hxy,ih]
     constructor
     ·exact .inr
     ·rintro (⟨h,_⟩ | h)
      ·exact absurd (by rw [h]) hxy
      ·exact h
   next hy=>
    rw [ih]
    constructor
    ·exact .inr
    ·rintro (⟨h,h2⟩ | h)
     ·subst h;rw [hy] at h2;exact noS h2
     ·exact h
  ·unfold freesOf
   rw [if_neg hk,ih,List.mem_cons,Prod.mk.injEq]
   constructor
   ·rintro ⟨h,h2⟩;exact ⟨.inr h,h2⟩
   ·rintro ⟨h | h,h2⟩
    ·exact absurd h.2.symm hk
    ·exact ⟨h,h2⟩
set_option tactic.hygienic false
theorem relabel_free {kd:List (Str × NameKind)}:∀ {names:List (Str × NameKind)} {x:Str},(names.map (·.1)).Nodup→(x,NameKind.free)∈names→kd.lookup x=some .cell→(relabelK kd names).lookup x=some .cell
 | [],x,_,h,_=>by cases h
 | (y,k)::l,x,hd,h,hc=>by
  rw [List.map_cons,List.nodup_cons] at hd
  show List.lookup x ((if (k==.free&&true&&kd.lookup y==some .cell)=true then (y,NameKind.cell) else (y,k))::relabelK kd l)=_
  rcases List.mem_cons.1 h with h' | h'
  ·cases h';simp [hc]
  ·have hxy:x≠y:=by intro hh;subst hh;exact hd.1 (List.mem_map.2 ⟨_,h',rfl⟩)
   have e:(x==y)=false:=by simp [hxy]
   split <;> simp only [List.lookup,e] <;> exact relabel_free hd.2 h' hc
theorem relabel_cell {kd:List (Str × NameKind)}:∀ {names:List (Str × NameKind)} {x:Str},names.all (·.2 != .cell)=true→(relabelK kd names).lookup x=some .cell→(x,NameKind.free)∈names
 | [],x,_,h=>by exact noS h
 | (y,k)::l,x,hn,h=>by
  rw [List.all_cons,Bool.and_eq_true] at hn
  have h:List.lookup x ((if (k==.free&&true&&kd.lookup y==some .cell)=true then (y,NameKind.cell) else (y,k))::relabelK kd l)=some .cell:=h
  by_cases hxy:x=y
  ·subst hxy
   split at h
   next hc=>simp only [Bool.and_eq_true,beq_iff_eq] at hc;rw [hc.1.1];exact List.mem_cons_self ..
   next hc=>simp [List.lookup] at h;subst h;exact absurd hn.1 (by simp)
  ·have e:(x==y)=false:=by simp [hxy]
   split at h <;> simp only [List.lookup,e] at h <;> exact List.mem_cons_of_mem _ (relabel_cell hn.2 h)
theorem relabel_eq (R:Rep w o₀ B env ad st s)(hN:EnvOk env){scope:Scope}:relabelK st.kd scope.names=(relabel scope env).names:=by
 unfold relabelK relabel
 rw [R.kd]
 have:(env.scope.kind==ScopeKind.function)=true:=by rw [hN.kind];rfl
 simp only [this]
 rfl
set_option tactic.hygienic true
end
set_option tactic.hygienic false
section
variable {w:World}{o₀:OsState}{A:Around}{env:Env}{st st' st₁ st₂:St}{B:Addr→Obj→Prop}{ad ad₁ ad₂:Nat→Addr}{s s₁ s₂:Shared}{E:Value→Shared→Prop}{n:Nat}{r:Rec}{a c u:AV}{FF:List (Nm × UF)}
structure ScOk (kd:List (Str × NameKind))(sc:Scope):Prop where
 kind:sc.kind=.function
 loc:∀ x∈sc.names,x.2=.local→sc.names.lookup x.1=some .local
 nocell:sc.names.all (·.2 != .cell)=true
 free:∀ x,(x,NameKind.free)∈sc.names→kd.lookup x=some .cell
 nodup:(sc.names.map (·.1)).Nodup
theorem scopeOk_of {kd:List (Str × NameKind)}{sc:Scope}(h:scopeOk kd sc=true):ScOk kd sc:=by
 unfold scopeOk at h
 simp only [Bool.and_eq_true,decide_eq_true_eq,beq_iff_eq] at h
 refine x0_1 h fun hz00 h5=>?_;refine x0_1 hz00 fun hz10 h4=>?_;refine x0_1 hz10 fun hz20 h3=>?_;refine x0_1 hz20 fun h1 h2=>?_
 refine ⟨h1,fun x hx hl=>?_,h3,fun x hx=>?_,h5⟩
 ·have:=List.all_eq_true.1 h2 x hx
  obtain ⟨y,k⟩:=x
  have hl:k=.local:=hl
  subst hl
  simpa using this
 ·have:=List.all_eq_true.1 h4 _ hx
  simpa using this
theorem cl_eq (R:Rep w o₀ B env ad st s){sc:Scope}(S:ScOk st.kd sc)(x:Str):(clOf env sc.names []).lookup x=if (x,NameKind.free)∈sc.names then env.cells.lookup x else none:=by
 rw [clOf_lookup _ _ _ S.nodup (fun _ _=>rfl)]
 split
 next h=>
  have hk:env.kindOf x=some .cell:=by have:=S.free x h;rw [R.kd] at this;exact this
  refine x1_0 (R.cells x hk) fun c hc=>?_
  rw [hc];rfl
 next=>rfl
theorem cl_sub (R:Rep w o₀ B env ad st s){sc:Scope}(S:ScOk st.kd sc){x:Str}{c:Addr}(h:(clOf env sc.names []).lookup x=some c):env.cells.lookup x=some c∧(x,NameKind.free)∈sc.names:=by
 rw [cl_eq R S] at h
 refine iteE h fun hm h=>?_
 exact ⟨h,hm⟩
theorem clOf_apart {env:Env}(hp:env.cells.Pairwise fun x y=>x.2≠y.2):∀ (names:List (Str × NameKind)) (cs:List (Str × Addr)),(names.map (·.1)).Nodup→(∀ x,(x,NameKind.free)∈names→∃ c,env.cells.lookup x=some c) →
  (∀ p∈cs,env.cells.lookup p.1=some p.2∧p.1 ∉ names.map (·.1))→(cs.Pairwise fun x y=>x.2≠y.2)→(clOf env names cs).Pairwise fun x y=>x.2≠y.2
 | [],cs,_,_,_,h=>h
 | (y,k)::l,cs,hd,hf,hc,h=>by
  rw [List.map_cons,List.nodup_cons] at hd
  simp only [clOf]
  refine clOf_apart hp l _ hd.2 (fun x hx=>hf x (List.mem_cons_of_mem _ hx)) ?_ ?_
  ·intro p hm
   split at hm
   next hk=>
    rcases List.mem_cons.1 hm with rfl | hm
    ·have hk:k=.free:=by simpa using hk
     subst hk
     refine x1_0 (hf y (List.mem_cons_self ..)) fun c hc'=>?_
     exact ⟨by simp [hc'],hd.1⟩
    ·exact ⟨(hc p hm).1,fun h'=>(hc p hm).2 (List.mem_cons_of_mem _ h')⟩
   next=>exact ⟨(hc p hm).1,fun h'=>(hc p hm).2 (List.mem_cons_of_mem _ h')⟩
  ·split
   next hk=>
    have hk:k=.free:=by simpa using hk
    subst hk
    refine x1_0 (hf y (List.mem_cons_self ..)) fun c hc'=>?_
    refine List.Pairwise.cons (fun p hm=>?_) h
    rw [hc']
    have:=hc p hm
    refine cell_ne hp hc' this.1 ?_
    rintro rfl
    exact this.2 (List.mem_cons_self ..)
   next=>exact h
theorem Rep.enterC (R:Rep w o₀ B env ad st s)(hN:EnvOk env){sc:Scope}(S:ScOk st.kd sc){it C:Addr}{s':Shared}(hk:∀ a o,s.heap.get? a=some o→s'.heap.get? a=some o)(hC:s.heap.objs.size≤C)
  (hB:∀ o,¬ B it o) (hn:s'.heap.Ns C (fun _=>none)) (hg:s'.gens=s.gens) (ho:s'.os=s.os) :
  Rep w o₀ (RestC (clOf env sc.names []) ad st.μ.length it s) (compEnvC sc (clOf env sc.names []) C env) ad ⟨relabelK st.kd sc.names,freesOf sc.names st.σ,st.μ⟩ s':=by
 have ht:∀ t items,s.heap.IsTuple t items→s'.heap.IsTuple t items:=fun t items ⟨o,e,r⟩=>⟨o,hk _ _ e,r⟩
 have hv:∀ a v,VR st.μ.length ad s.heap a v→VR st.μ.length ad s'.heap a v:=fun a v x=>x.mono (Nat.le_refl _) (fun _ _=>rfl) ht
 have hkd:=relabel_eq R hN (scope:=sc)
 have ltC:∀ {a o},s.heap.get? a=some o→a≠C:=fun e=>Nat.ne_of_lt (Nat.lt_of_lt_of_le (Heap.lt_size e) hC)
 have notl:∀ {x},(x,NameKind.free)∈sc.names→(compEnvC sc (clOf env sc.names []) C env).kindOf x=some .cell:=fun {x} h=>by
  show (relabel sc env).names.lookup x=_
  rw [← hkd];exact relabel_free S.nodup h (S.free x h)
 refine {kept:=fun a o h=>hk _ _ h.1,top:=?_,kd:=hkd,ns:=?_,cl:=?_,cells:=?_,cellObj:=?_,apart:=?_,mem:=?_,inj:=R.inj,offB:=?_,tab:=?_,bare:=by rw [hg];exact R.bare,os:=ho.trans R.os}
 ·exact fun a o h h1 h2=>by
   have b:=R.top a o h h1 h2
   exact ⟨R.kept a o b,h1,h2,fun x c e=>(R.offB a o b).2.2.2.1 x c (cl_sub R S e).1,(R.offB a o b).2.2.2.2,by rintro rfl;exact hB _ b⟩
 ·refine ⟨_,hn,fun x v e k=>?_⟩
  have:=(look_frees.1 e).1
  rw [notl this] at k;cases k
 ·intro x v e k
  refine x0_1 (look_frees.1 e) fun h1 h2=>?_
  have hcell:env.kindOf x=some .cell:=by have:=S.free x h1;rw [R.kd] at this;exact this
  refine x2_2 (R.cl x v h2 (.inl hcell)) fun c val e1 e2 e3=>?_
  exact ⟨c,val,by show (clOf env sc.names []).lookup x=_;rw [cl_eq R S,if_pos h1];exact e1,e2.keeps hk,hv _ _ e3⟩
 ·intro x k
  have k:(relabelK st.kd sc.names).lookup x=some .cell:=by rw [hkd];exact k
  have h1:=relabel_cell S.nocell k
  have hcell:env.kindOf x=some .cell:=by have:=S.free x h1;rw [R.kd] at this;exact this
  refine x1_0 (R.cells x hcell) fun c hc=>?_
  exact ⟨c,by show (clOf env sc.names []).lookup x=_;rw [cl_eq R S,if_pos h1];exact hc⟩
 ·intro x c e
  refine x1_0 (R.cellObj x c (cl_sub R S e).1) fun v₀ hh=>?_
  exact ⟨v₀,hh.keeps hk⟩
 ·refine clOf_apart R.apart _ _ S.nodup (fun x hx=>R.cells x ?_) (fun p hp=>by cases hp) List.Pairwise.nil
  have:=S.free x hx;rw [R.kd] at this;exact this
 ·intro i o e
  refine ((R.mem i o e).mono hv (fun o e=>hk _ _ e) fun D ob eD _ _ _=>hk _ _ eD) |> fun x=>?_
  induction o using AObj.casesOn with
  | list l kk=>exact x
  | acc l kk init=>
   obtain ⟨z,vs,k,D,sl,e1,al,hz07,nn,n1,n2⟩:=x;refine x1_1 hz07 fun od e2 c2=>?_
   refine ⟨z,vs,k,D,sl,e1,al,⟨od,e2,c2⟩,nn,?_,fun x c e=>n2 x c (cl_sub R S e).1⟩
   obtain ⟨_,vs',k',D',sl',e1',_,hz07,_⟩:=R.mem i _ e;refine x1_1 hz07 fun od' e2' _=>?_
   have:=hk _ _ e1'
   cases someI e1 this
   exact ltC e2'
 ·intro a o h
  exact ⟨h.2.1,h.2.2.1,ltC h.1,h.2.2.2.1,h.2.2.2.2.1⟩
 ·exact fun a h=>let ⟨vs,e⟩:=R.tab a h;⟨vs,hk _ _ e⟩
theorem ns_unique {h:Heap}{a:Addr}{m m':Str→Option Value}(x:h.Ns a m)(y:h.Ns a m'):m=m':=by
 refine x3_3 x fun o es ep e d _ f=>?_
 refine x3_3 y fun o' es' ep' e' d' _ f'=>?_
 rw [e] at e';cases e';rw [d] at d';cases d'
 funext z;rw [← f,← f']
theorem sf_inv {v:AV}{o:Option AV}(h:((asI v).bind fun i=>o.bind fun u=>(asI u).map fun j=>i==j).getD false=true):∃ i,v=.int i∧o=some (.int i):=by
 rcases e:asI v with _ | i
 ·rw [e] at h;exact ftC h
 rcases o with _ | u
 ·rw [e] at h;exact ftC h
 rcases e2:asI u with _ | j
 ·rw [e] at h;simp [e2] at h
 ·rw [e] at h;simp [e2] at h;subst h;exact ⟨i,asI_inv e,congrArg some (asI_inv e2)⟩
theorem Rep.leaveC (R : Rep w o₀ B env ad st s) (hN : EnvOk env) {sc : Scope} (S : ScOk st.kd sc) {it C : Addr} (hL : hasLoc st.kd st.σ = true) {kd' : List (Str × NameKind)} {σ' : Sig} {μ' : Mu} {s₂ : Shared} {h' : Heap} (hC : s.heap.objs.size ≤ C) (hB : ∀ o, ¬ B it o)
    (hitO : ∃ o vs T, s.heap.get? it = some o ∧ o.data = .fields vs ∧ o.cls = .type T ∧ (T ≠ "list" ∧ T ≠ "tuple" ∧ T ≠ "dict"))
    (hf : sameFrees (freesOf sc.names st.σ) σ' = true)
    (R' : Rep w o₀ (RestC (clOf env sc.names []) ad st.μ.length it s) (compEnvC sc (clOf env sc.names []) C env) ad₂ ⟨kd', σ', μ'⟩ s₂) (ag : Agree st.μ.length ad ad₂) (le : st.μ.length ≤ μ'.length)
    (hs : Heap.SameBut C s₂.heap h') : Rep w o₀ B env ad₂ ⟨st.kd, st.σ, μ'⟩ { s₂ with heap := h' } := by
  refine x3_3 hitO fun oi vi Ti ei di ci hTi => ?_
  have k2 : ∀ {a o}, s₂.heap.get? a = some o → a ≠ C → h'.get? a = some o := fun e n => (hs.2 _ n).trans e
  have ltC : ∀ {a o}, s.heap.get? a = some o → a ≠ C := fun e => Nat.ne_of_lt (Nat.lt_of_lt_of_le (Heap.lt_size e) hC)
  have kp : ∀ {a o}, RestC (clOf env sc.names []) ad st.μ.length it s a o → h'.get? a = some o := fun h => k2 (R'.kept _ _ h) (ltC h.1)
  have toC : ∀ {a o}, Rest env ad st.μ.length s a o ∨ (s.heap.get? a = some o ∧ a = env.locals) → (∀ vs, o.data ≠ .fields vs) → h'.get? a = some o := by
    intro a o h hd
    have hit : a ≠ it := by
      rintro rfl
      rcases h with h | h
      · rw [h.1] at ei; obtain rfl := Option.some.inj ei; exact hd _ di
      · rw [h.1] at ei; obtain rfl := Option.some.inj ei; exact hd _ di
    rcases h with h | ⟨e, rfl⟩
    · exact kp ⟨h.1, h.2.1, h.2.2.1, fun x c e => h.2.2.2.2.1 x c (cl_sub R S e).1, h.2.2.2.2.2, hit⟩
    · refine x1_1 (R.ns) fun m hz01 _ => ?_; refine x3_2 hz01 fun o' es ep e' d' _ => ?_
      cases someI e e'
      refine kp ⟨e, ?_, ?_, ?_, ?_, hit⟩
      · intro hh; refine x1_0 (R.tab 62 (.inl rfl)) fun vs x => ?_; exact dapart e d' x rfl rfl hh
      · intro hh; refine x1_0 (R.tab 69 (.inr rfl)) fun vs x => ?_; exact dapart e d' x rfl rfl hh
      · intro x c hc hh
        refine x2_1 (R.cellObj x c (cl_sub R S hc).1) fun v₀ oc ec dc => ?_
        exact dapart e d' ec dc rfl hh
      · intro i hi hh
        obtain ⟨ob, eo, _, its, kk, dd⟩ := R.at hi
        exact dapart e d' eo dd rfl hh
  have ht : ∀ t items, s.heap.IsTuple t items → h'.IsTuple t items := fun t items it' => by
    refine x1_2 (R.tuple_rest it') fun o c hz02 r => ?_; refine x1_0 hz02 fun q d => ?_
    exact ⟨o, toC (.inl r) (by simp [d]), c, q, d⟩
  have hv : ∀ a v, VR st.μ.length ad s.heap a v → VR μ'.length ad₂ h' a v := fun a v x => x.mono le ag ht
  refine x1_1 (R.ns) fun mL hz01 gL => ?_; refine x3_3 hz01 fun oL esL epL eL dL sL fL => ?_
  have nsL : h'.Ns env.locals mL := ⟨oL, esL, epL, toC (.inr ⟨eL, rfl⟩) (by simp [dL]), dL, sL, fL⟩
  have oldcell : ∀ {x c}, env.cells.lookup x = some c → (∀ y, (clOf env sc.names []).lookup y ≠ some c) → ∀ {v}, s.heap.IsCell c v → h'.IsCell c v := by
    rintro x c hx hy v ⟨o, e, d⟩
    refine ⟨o, kp ⟨e, ?_, ?_, fun y c' hc => ?_, ?_, ?_⟩, d⟩
    · intro hh; refine x1_0 (R.tab 62 (.inl rfl)) fun vs z => ?_; exact dapart e d z rfl rfl hh
    · intro hh; refine x1_0 (R.tab 69 (.inr rfl)) fun vs z => ?_; exact dapart e d z rfl rfl hh
    · rintro rfl; exact hy y hc
    · intro i hi hh
      obtain ⟨ob, eo, _, its, kk, dd⟩ := R.at hi
      exact dapart e d eo dd rfl hh
    · rintro rfl; exact (dapart e d ei di rfl rfl).elim
  have newcell : ∀ {y c}, (clOf env sc.names []).lookup y = some c → ∀ {v}, s₂.heap.IsCell c v → h'.IsCell c v := by
    rintro y c hy v ⟨o, e, d⟩
    refine x2_1 (R.cellObj y c (cl_sub R S hy).1) fun v₀ oc ec dc => ?_
    exact ⟨o, k2 e (ltC ec), d⟩
  refine { kept := fun a o b => kp ⟨R.kept a o b, (R.offB a o b).1, (R.offB a o b).2.1, fun x c e => (R.offB a o b).2.2.2.1 x c (cl_sub R S e).1, (R.offB a o b).2.2.2.2, by rintro rfl; exact hB _ b⟩,
           top := R.top, kd := R.kd, ns := ⟨mL, nsL, fun x v e k => let ⟨val, a, b⟩ := gL x v e k; ⟨val, a, hv _ _ b⟩⟩, cl := ?_, cells := R.cells, cellObj := ?_, apart := R.apart, mem := ?_, inj := R'.inj, offB := ?_, tab := ?_, bare := R'.bare, os := R'.os }
  · intro x v e k
    refine x2_2 (R.cl x v e k) fun c val e1 e2 e3 => ?_
    by_cases hx : ∃ y, (clOf env sc.names []).lookup y = some c
    · refine x1_0 hx fun y hy => ?_
      refine x0_1 (cl_sub R S hy) fun y1 y2 => ?_
      have hxy : x = y := Classical.byContradiction fun hne => cell_ne R.apart e1 y1 hne rfl
      subst hxy
      have hfr := look_frees.2 ⟨y2, e⟩
      have hmem : (nm x, v) ∈ freesOf sc.names st.σ := by
        clear hf R'
        generalize freesOf sc.names st.σ = fr at hfr
        induction fr with
        | nil => simp [look] at hfr
        | cons p l ih =>
          obtain ⟨z, u⟩ := p
          simp only [look, beq_iff_eq] at hfr
          split at hfr
          next hz => obtain rfl := Option.some.inj hfr; subst hz; exact List.mem_cons_self ..
          next => exact List.mem_cons_of_mem _ (ih hfr)
      have := List.all_eq_true.1 hf _ hmem
      refine x1_1 (sf_inv this) fun i hq1 hj => ?_; subst hq1
      have hk' : (compEnvC sc (clOf env sc.names []) C env).kindOf x = some .cell := by
        show (relabel sc env).names.lookup x = _
        rw [← relabel_eq R hN]; exact relabel_free S.nodup y2 (S.free x y2)
      refine x2_2 (R'.cl x _ hj (.inl hk')) fun c' val' f1 f2 f3 => ?_
      have f1 : (clOf env sc.names []).lookup x = some c' := f1
      cases someI hy f1
      exact ⟨c, val', e1, newcell hy f2, f3⟩
    · exact ⟨c, val, e1, oldcell e1 (fun y hy => hx ⟨y, hy⟩) e2, hv _ _ e3⟩
  · intro x c e
    by_cases hx : ∃ y, (clOf env sc.names []).lookup y = some c
    · refine x1_0 hx fun y hy => ?_
      refine x1_0 (R'.cellObj y c hy) fun v₀ hh => ?_
      exact ⟨v₀, newcell hy hh⟩
    · refine x1_0 (R.cellObj x c e) fun v₀ hh => ?_
      exact ⟨v₀, oldcell e (fun y hy => hx ⟨y, hy⟩) hh⟩
  · intro i o e
    refine x1_1 (R'.ns) fun mC hz01 _ => ?_; refine x3_2 hz01 fun oC esC epC eC dC _ => ?_
    have eC : s₂.heap.get? C = some oC := eC
    have ht2 : ∀ t items, s₂.heap.IsTuple t items → h'.IsTuple t items := fun t items ⟨ob, e1, c1, q, d1⟩ => ⟨ob, k2 e1 (by rintro rfl; exact (dapart e1 d1 eC dC rfl rfl).elim), c1, q, d1⟩
    have hv2 : ∀ a v, VR μ'.length ad₂ s₂.heap a v → VR μ'.length ad₂ h' a v := fun a v x => x.mono (Nat.le_refl _) (Agree.refl _ _) ht2
    have hm := R'.mem i o e
    obtain ⟨ob, eo, co, its, q, dd⟩ := hm.data
    have eo' : h'.get? (ad₂ i) = some ob := k2 eo (by intro hh; rw [hh] at eo; exact (dapart eo dd eC dC rfl rfl).elim)
    induction o using AObj.casesOn with
    | list l kk =>
      refine x1_2 hm fun vs p al z => ?_
      exact ⟨vs, p.at fun o' e' => by cases someI eo e'; exact eo', al.mono hv2, z⟩
    | acc l kk init =>
      obtain ⟨z, vs, k, D, sl, e1, al, hz07, hz08, n1, n2⟩ := hm; refine x1_1 hz07 fun od e2 c2 => ?_; refine x1_0 hz08 fun tn nn => ?_
      have n1 : D ≠ C := n1
      have e2' := k2 e2 n1
      have nn' : h'.Ns D (fun x => if x = Str.ofString "_initial_size" then some (.int init tn) else none) := let ⟨o', es, ep, e3, r3⟩ := nn; ⟨o', es, ep, k2 e3 n1, r3⟩
      refine ⟨z, vs, k, D, sl, by cases someI eo e1; exact eo', al.mono hv2, ⟨od, e2', c2⟩, ⟨tn, nn'⟩, ?_, ?_⟩
      · rintro rfl
        have hu := ns_unique nsL nn'
        refine x1_1 (List.any_eq_true.1 hL) fun hz00 hx hp => ?_; obtain ⟨x, v⟩ := hz00
        simp only [Bool.and_eq_true, bne_iff_ne] at hp
        refine x0_1 hp fun hz00 h3 => ?_; refine x0_1 hz00 fun h1 h2 => ?_
        refine x1_0 (Option.isSome_iff_exists.1 h3) fun u hu3 => ?_
        have hkl : env.kindOf ⟨⟨x⟩⟩ = some .local := by
          rw [← R.kindOf]
          show kindIn st.kd x = _
          split at h1
          next hh => exact hh
          next => exact ftC h1
        refine x1_1 (gL ⟨⟨x⟩⟩ u hu3 hkl) fun val hval _ => ?_
        rw [hu] at hval
        dsimp only at hval
        rw [if_neg (fun hh : (⟨⟨x⟩⟩ : Str) = Str.ofString "_initial_size" => h2 (show nm ⟨⟨x⟩⟩ = _ from congrArg nm hh))] at hval
        exact noS hval
      · intro x c hc hh
        subst hh
        have : ∃ v₀, h'.IsCell D v₀ := by
          by_cases hx : ∃ y, (clOf env sc.names []).lookup y = some D
          · refine x1_0 hx fun y hy => ?_
            refine x1_0 (R'.cellObj y D hy) fun v₀ hh => ?_
            exact ⟨v₀, newcell hy hh⟩
          · refine x1_0 (R.cellObj x D hc) fun v₀ hh => ?_
            exact ⟨v₀, oldcell hc (fun y hy => hx ⟨y, hy⟩) hh⟩
        refine x2_1 this fun v₀ oc ec dc => ?_
        refine x3_2 nn' fun o' es ep e3 d3 _ => ?_
        exact (dapart ec dc e3 d3 rfl rfl).elim
  · intro a o b
    refine x0_4 (R.offB a o b) fun h1 h2 h3 h4 h5 => ?_
    exact ⟨h1, h2, h3, h4, (R'.offB a o ⟨R.kept a o b, h1, h2, fun x c e => h4 x c (cl_sub R S e).1, h5, by rintro rfl; exact hB _ b⟩).2.2.2.2⟩
  · intro a h
    refine x1_0 (R'.tab a h) fun vs e => ?_
    refine x1_0 (R.tab a h) fun vs' e' => ?_
    exact ⟨vs, k2 e (ltC e')⟩
end
section
variable {w:World}{o₀:OsState}{A:Around}{env:Env}{st st' st₁ st₂:St}{B:Addr→Obj→Prop}{ad ad₁ ad₂:Nat→Addr}{s s₁ s₂:Shared}{E:Value→Shared→Prop}{n:Nat}{r:Rec}{a c u:AV}{FF:List (Nm × UF)}
set_option tactic.hygienic false
theorem e_comp {elt t iter:Expr}{ifs:List Expr}{scope:Scope}{pos:Pos}{Q:Value→Shared→Prop}(hE:GE w o₀ n (run FF n).E)(hEs:GEs w o₀ n (run FF n).Es)(hEk:∀ k,k < n→GE w o₀ k (run FF k).E)(hTk:∀ k,k < n→GT w o₀ k (run FF k).T)
  (hA:AOk A n) (hN:EnvOk env) (h:stepE FF (run FF n) (.ListComp elt [⟨t,iter,ifs,0⟩] scope pos) st=some (a,st')) (R:Rep w o₀ B env ad st s)
  (k:Kt w o₀ B env ad st st' a Q):wpAny (model Pr w) A (eval (.ListComp elt [⟨t,iter,ifs,0⟩] scope pos) env) Q E s:=by
 change (if (scopeOk st.kd scope&&hasLoc st.kd st.σ)=true then _ else _)=_ at h
 refine iteE h fun hsc h=>?_
 rw [Bool.and_eq_true] at hsc
 refine bindE h fun ai st₁ h1 h=>?_
 refine bindE h fun l st₂ h2 h=>?_
 dsimp only at h h2
 refine iteE h fun hchk h=>?_
 rw [Bool.and_eq_true] at hchk
 kt_eqs
 rw [eval_ListComp]
 have S0:=scopeOk_of hsc.1
 refine wpAny_comprehension_free (cl:=clOf env scope.names []) (use:=none) rfl (folded_not h1) (closureFor_ok fun x hx=>R.cells x (by have:=S0.free x hx;rw [R.kd] at this;exact this)) S0.kind S0.loc ?_
 refine it_ok hE hEs hA hN h1 R fun ad₁ it s₁ N₁ I₁ hB=>?_
 have hkd:st₁.kd=st.kd:=N₁.R.kd.trans R.kd.symm
 have S:ScOk st₁.kd scope:=by rw [hkd];exact S0
 refine wpAny_newList (wpAny_newFunctionEnv (fun x hx=>?_) (fun x hx=>by cases hx) (fun h₄ hn₄ hs₄=>?_) S0.kind)
 ·have:=List.all_eq_true.1 S0.nocell x hx
  intro hh;rw [hh] at this;exact absurd this (by decide)
 dsimp only at hn₄ hs₄ ⊢
 generalize hH2:s₁.heap.push {cls:=.type "list",data:=.seq ([]:List Value).toArray}=H2 at hn₄ hs₄ ⊢
 have hC:H2.objs.size=s₁.heap.objs.size+1:=by rw [← hH2,Heap.size_push]
 have hDC:s₁.heap.objs.size≠H2.objs.size:=by rw [hC];exact Nat.ne_of_lt (Nat.lt_succ_self _)
 have hk:∀ a o,s₁.heap.get? a=some o→h₄.get? a=some o:=fun a o e=>
  hs₄.extBut a o (by rw [hC];exact Nat.ne_of_lt (Nat.lt_succ_of_lt (Heap.lt_size e))) (Heap.get?_push_of_some _ (hH2▸Heap.get?_push_of_some _ e))
 have hD:h₄.PlainList s₁.heap.objs.size ⟨[]⟩:=⟨0,hs₄.extBut _ _ hDC (Heap.get?_push_of_some _ (hH2▸Heap.get?_push_size _ rfl))⟩
 have hn₄':h₄.Ns H2.objs.size (fun _=>none):=hn₄
 have R₄:Rep w o₀ _ (compEnvC scope (clOf env scope.names []) H2.objs.size env) ad₁ ⟨relabelK st₁.kd scope.names,freesOf scope.names st₁.σ,st₁.μ⟩ {s₁ with heap:=h₄,toks:=s₁.toks+([]:List (Str × Value)).length}:=
  N₁.R.enterC hN S (it:=it) (C:=H2.objs.size) hk (by rw [hC];kt_len) hB hn₄' rfl rfl
 have hN':EnvOk (compEnvC scope (clOf env scope.names []) H2.objs.size env):=⟨S0.kind,hN.glob,hN.blt⟩
 have I₄:ItR h₄ st₁.μ.length ad₁ it ai:=I₁.keep (st':=st₁) N₁.R (s':={s₁ with heap:=h₄}) (fun o e=>hk _ _ e) (fun t items ⟨o,e,x⟩=>⟨o,hk _ _ e,x⟩) (Agree.refl _ _) (Nat.le_refl _)
 show codeAny (model Pr w) A (.compStart _ 0 (.ref it) (.ref s₁.heap.objs.size) (compEnvC scope (clOf env scope.names []) H2.objs.size env)) (compPost _ A E none Q (.ref s₁.heap.objs.size) H2.objs.size) {s₁ with heap:=h₄,toks:=s₁.toks+([]:List (Str × Value)).length}
 have loop:codeAny (model Pr w) A (.compLoop (.ListComp elt [⟨t,iter,ifs,0⟩] scope pos) 0 (.ref it) (.ref s₁.heap.objs.size) (compEnvC scope (clOf env scope.names []) H2.objs.size env)) (compPost (model Pr w) A E none Q (.ref s₁.heap.objs.size) H2.objs.size) {s₁ with heap:=h₄,toks:=s₁.toks+([]:List (Str × Value)).length}:=by
  refine cm_ok hEk hTk hA hN' h2 R₄ I₄ (fun o h=>h.2.2.2.2.2 rfl) hD .nil (fun o h=>Nat.lt_irrefl _ (Heap.lt_size h.1)) (fun i hi=>Nat.ne_of_lt (N₁.R.ad_lt hi)) (Nat.zero_le _) fun ad₅ vals s₅ N₅ hD₅ al₅ hne₅ hl₅=>?_
  refine x1_1 (N₅.R.ns) fun mC nC _=>?_
  refine ⟨mC,nC,fun h' hs=>?_⟩
  have R₅:=N₁.R.leaveC hN S (it:=it) (C:=H2.objs.size) (kd':=st₂.kd) (σ':=st₂.σ) (μ':=st₂.μ) (s₂:=s₅) (h':=h') hchk.1 (by rw [hC];kt_len) hB I₁.obj hchk.2 N₅.R N₅.ag N₅.le hs
  refine x3_2 nC fun oC esC epC eC dC _=>?_
  have eC:s₅.heap.get? H2.objs.size=some oC:=eC
  have ht2:∀ t items,s₅.heap.IsTuple t items→h'.IsTuple t items:=fun t items ⟨ob,e1,c1,q,d1⟩=>⟨ob,(hs.2 _ (by rintro rfl;rw [e1] at eC;cases eC;rw [d1] at dC;cases dC)).trans e1,c1,q,d1⟩
  have R₆:=R₅.adopt (a:=s₁.heap.objs.size) (o:=.list l l.length) ⟨vals,hD₅.at fun o e=>(hs.2 _ hDC).trans e,al₅.mono fun a v x=>x.mono (Nat.le_refl _) (Agree.refl _ _) ht2,Nat.le_refl _,hl₅⟩
   (fun o b=>Nat.lt_irrefl _ (N₁.R.B_lt b)) hne₅
  refine k _ _ _ ⟨(N₁.ag.trans N₅.ag N₁.le).trans (agree_upd _ _ _) (Nat.le_trans N₁.le N₅.le),?_,R₆⟩ ⟨?_,?_⟩
  ·have h1:=N₁.le
   have h2:st₁.μ.length≤st₂.μ.length:=N₅.le
   simp;kt_len
  ·simp
  ·simp [updAd]
 exact codeAny_compStart_list loop (iter_self I₄ loop)
set_option tactic.hygienic true
end
set_option tactic.hygienic false
theorem names12:namesOf 12=[Str.ofString "code"]:=by kernel_rfl!
theorem names14:namesOf 14=[Str.ofString "code"]:=by kernel_rfl!
theorem fn12 (P:Params):∃ fd,FnAt P (mkUF (pb 12)) 143 (namesOf 12) fd:=
 ⟨_,fn_at (i:=12) (a:=143) (c:=142) (name:=⟨⟨[105,110,95,116,97,98,108,101,95,98,49]⟩⟩) (ob:=o143 P) (oc:=o142 P) (pm:=.str ⟨⟨[99,112,121,51,49,51,46,115,116,114,105,110,103,112,114,101,112]⟩⟩ 329)
  (by kernel_rfl!) (by kernel_rfl!) (by kernel_rfl!) (by kernel_rfl!) (by decide) (by kernel_rfl!) (by
   intro us h;rw [names12] at h;refine x1_0 (one h) fun a hq1=>?_;subst hq1;kernel_rfl!)⟩
theorem fn14 (P:Params):∃ fd,FnAt P (mkUF (pb 14)) 189 (namesOf 14) fd:=
 ⟨_,fn_at (i:=14) (a:=189) (c:=188) (name:=⟨⟨[109,97,112,95,116,97,98,108,101,95,98,51]⟩⟩) (ob:=o189 P) (oc:=o188 P) (pm:=.str ⟨⟨[99,112,121,51,49,51,46,115,116,114,105,110,103,112,114,101,112]⟩⟩ 329)
  (by kernel_rfl!) (by kernel_rfl!) (by kernel_rfl!) (by kernel_rfl!) (by decide) (by kernel_rfl!) (by
   intro us h;rw [names14] at h;refine x1_0 (one h) fun a hq1=>?_;subst hq1;kernel_rfl!)⟩
theorem ev12 (c:Nat):callUF (run FT 12) (mkUF (pb 12)) [.str [c]] ⟨[],[],[]⟩=some (.bool (b1L.any (·==(c:Int))),⟨[],[],[]⟩):=by kernel_rfl!
set_option tactic.hygienic true
set_option tactic.hygienic false
noncomputable def u14:UF:=mkUF (pb 14)
noncomputable def mapA (c:Nat)(o:Option Str):Option AV:=
 match o with
 | some x=>some (.str x.cps.toList)
 | none=>if Builtin.Str.tooLong (Txt.lower ⟨⟨[c]⟩⟩).length then none else some (.str (Txt.lower ⟨⟨[c]⟩⟩).cps.toList)
theorem ev14a (c:Nat):(run FT 14).SS u14.body ⟨u14.kd,u14.ps.zip [.str [c]],[]⟩=(run FT 13).SS (u14.body.drop 1) ⟨u14.kd,[(nmq "code",.str [c]),(nmq "r",optA (lookI b3 c))],[]⟩:=by kernel_rfl!
theorem ev14b (c:Nat)(x:Str):(run FT 13).SS (u14.body.drop 1) ⟨u14.kd,[(nmq "code",.str [c]),(nmq "r",optA (some x))],[]⟩=some (.ret (.str x.cps.toList),⟨u14.kd,[(nmq "code",.str [c]),(nmq "r",optA (some x))],[]⟩):=by kernel_rfl!
noncomputable def st14 (c:Nat):St:=⟨u14.kd,[(nmq "code",.str [c]),(nmq "r",optA none)],[]⟩
set_option backward.match.sparseCases false in
theorem ev14d (c:Nat):(run FT 13).SS (u14.body.drop 1) (st14 c)=(((if Builtin.Str.tooLong (Txt.lower ⟨⟨[c]⟩⟩).length=true then none else some (AV.str (Txt.lower ⟨⟨[c]⟩⟩).cps.toList,st14 c)).map fun p=>(AFlow.ret p.1,p.2)).bind
  fun q=>match q.1 with | .next=>(run FT 11).SS [] q.2 | f=>some (f,q.2)):=by kernel_rfl!
theorem ev14c (c:Nat):(run FT 13).SS (u14.body.drop 1) ⟨u14.kd,[(nmq "code",.str [c]),(nmq "r",optA none)],[]⟩ =
  if Builtin.Str.tooLong (Txt.lower ⟨⟨[c]⟩⟩).length then none else some (.ret (.str (Txt.lower ⟨⟨[c]⟩⟩).cps.toList),⟨u14.kd,[(nmq "code",.str [c]),(nmq "r",optA none)],[]⟩):=by
 refine (ev14d c).trans ?_
 split <;> rfl
theorem ev14 (c:Nat)(st:St)(v:AV)(h:mapA c (lookI b3 c)=some v):callUF (run FT 14) u14 [.str [c]] st=some (v,st):=by
 unfold callUF
 rw [if_pos (by kernel_rfl!),ev14a]
 cases ho:lookI b3 (c:Int) with
 | some x=>
  rw [ho] at h;cases h
  rw [ev14b];rfl
 | none=>
  rw [ho] at h
  rw [ev14c]
  unfold mapA at h
  dsimp only at h
  refine iteN h fun ht h=>?_
  kt_eqs;rw [if_neg ht];rfl
section
variable {w:World}{o₀:OsState}{A:Around}{env:Env}{st st' st₁ st₂:St}{B:Addr→Obj→Prop}{ad:Nat→Addr}{s:Shared}{E:Value→Shared→Prop}{n:Nat}{r:Rec}{a:AV}{FF:List (Nm × UF)}
set_option tactic.hygienic false
theorem callN_ok {T:String}{ad0:Nat}{f:UF}{ns:List Str}{fd:FuncData}{x:Str}{p pos:Pos}{as:List Expr}{vs:List AV}{Q:Value→Shared→Prop}(X:FnAt w.params f ad0 ns fd)(hEs:GEs w o₀ n r.Es)(hA:AOk A n)(hN:EnvOk env)
  (hk:isGlob (kindIn st.kd (nm x))=true) (hx:x=Str.ofString T) (hT:(T,ad0)∈[("_ellipsis_match",111),("_strcoll",118),("_strip_padding",125),("b1_set",133),("in_table_b1",143),("b3_exceptions",144),("map_table_b3",189),("_law_typed",194),("_Accumulator",100)])
  (ha:as.all notStar=true) (h:r.Es as st=some (vs,st')) (R:Rep w o₀ B env ad st s)
  (k:∀ ad' us s',Nx w o₀ B env ad st ad' st' s'→All2 (VR st'.μ.length ad' s'.heap) vs us→wpAny (model Pr w) A (call (.ref ad0) us) Q E s'):wpAny (model Pr w) A (eval (.Call (.Name x p) as [] pos) env) Q E s:=by
 subst hx
 refine x1_1 (X.obj) fun o eo d=>?_
 refine Call_Name rfl (globU R hN hk ?_ (gl1_at w.params hT) (withF (first:=[]) (o:=o) (fd:=fd) ha d (hEs hA hN h R fun ad' us s' N al=>⟨N.R.obj eo X.a1.1 X.a1.2,k ad' us s' N al⟩)))
 rw [beq_eq_false_iff_ne]
 have:∀ q∈[("_ellipsis_match",111),("_strcoll",118),("_strip_padding",125),("b1_set",133),("in_table_b1",143),("b3_exceptions",144),("map_table_b3",189),("_law_typed",194),("_Accumulator",100)],Str.ofString q.1≠Str.ofString "__debug__":=by decide +kernel
 exact this (T,ad0) hT
set_option tactic.hygienic true
end
section
variable {w:World}{o₀:OsState}{A:Around}{env:Env}{st st' st₁ st₂:St}{B:Addr→Obj→Prop}{ad:Nat→Addr}{s:Shared}{E:Value→Shared→Prop}{n:Nat}{r:Rec}{a:AV}{FF:List (Nm × UF)}
set_option tactic.hygienic false
theorem e_isi {x b:Str}{e:Expr}{p pb pos:Pos}{u:AV}{c:Bool}{Q:Value→Shared→Prop}(hE:GE w o₀ n r.E)(hA:AOk A n)(hN:EnvOk env)(hk:isGlob (kindIn st.kd (nm x))=true)(hx:x=Str.ofString "isinstance")
  (hb:b=Str.ofString "bool") (hkb:isGlob (kindIn st'.kd (nm b))=true) (ha:notStar e=true) (h:r.E e st=some (u,st')) (hu:(∃ i,u=.int i∧c=false)∨(∃ q,u=.bool q∧c=true)) (R:Rep w o₀ B env ad st s)
  (k:∀ ad' s',Nx w o₀ B env ad st ad' st' s'→Q (.bool c) s'):wpAny (model Pr w) A (eval (.Call (.Name x p) [e,.Name b pb] [] pos) env) Q E s:=by
 subst hx hb
 have hg:=gl2_at w.params (x:="isinstance") (by decide)
 have hg2:=gl3_at w.params (x:="bool") (by decide)
 have hst:([e,Expr.Name (Str.ofString "bool") pb]:List Expr).all notStar=true:=by rw [List.all_cons,ha];rfl
 refine Call_Name rfl (globB R hN hk (by decide +kernel) hg.1 hg.2 (withB (first:=[]) hst ?_))
 refine args_cons (hE hA hN h R fun ad₁ v₁ s₁ N₁ V₁=>?_) (notStar_cons ha)
 refine args_cons (globB N₁.R hN hkb (by decide +kernel) hg2.1 hg2.2 ?_) rfl
 refine args_nil ?_
 rcases hu with ⟨i,rfl,rfl⟩ | ⟨q,rfl,rfl⟩
 ·exact p_isiI V₁ fun tk=>k _ _ (N₁.toks tk)
 ·exact p_isiB V₁ fun tk=>k _ _ (N₁.toks tk)
set_option tactic.hygienic true
end
set_option tactic.hygienic true
noncomputable def TopIn (P:Params)(h:Heap):Prop:=∀ a o,(Hf P).get? a=some o→a≠62→a≠69→h.get? a=some o
set_option tactic.hygienic false
theorem TopIn.keeps {P:Params}{h h':Heap}(T:TopIn P h)(k:∀ a o,h.get? a=some o→h'.get? a=some o):TopIn P h':=fun a o e h1 h2=>k a o (T a o e h1 h2)
theorem hf100 (P:Params):(Hf P).get? 100=some (excClassObj ⟨⟨[95,65,99,99,117,109,117,108,97,116,111,114]⟩⟩ ⟨⟨[95,65,99,99,117,109,117,108,97,116,111,114]⟩⟩ 100 99 [.type "list"] [.type "list",.type "object"] true [] [] false none none
  (some (.ref 22)) none (some (.str ⟨⟨[95,65,99,99,117,109,117,108,97,116,111,114]⟩⟩ 198)) (some (.str ⟨⟨[95,65,99,99,117,109,117,108,97,116,111,114]⟩⟩ 206)) (some (.bool true)) "list.__new__"):=by kernel_rfl!
set_option tactic.hygienic true
noncomputable def accM (P:Params):Str→Option Value:=fun x=>nsFind (dictOf (objAt P 99)) x
set_option tactic.hygienic false
theorem ns99 (P:Params):(Hf P).Ns 99 (accM P):=hf_ns P 99 (by kernel_rfl!) (by kernel_rfl!) (by kernel_rfl!)
theorem TopIn.cls {P:Params}{h:Heap}(T:TopIn P h):h.get? 100=some (excClassObj ⟨⟨[95,65,99,99,117,109,117,108,97,116,111,114]⟩⟩ ⟨⟨[95,65,99,99,117,109,117,108,97,116,111,114]⟩⟩ 100 99 [.type "list"] [.type "list",.type "object"] true [] [] false none none
  (some (.ref 22)) none (some (.str ⟨⟨[95,65,99,99,117,109,117,108,97,116,111,114]⟩⟩ 198)) (some (.str ⟨⟨[95,65,99,99,117,109,117,108,97,116,111,114]⟩⟩ 206)) (some (.bool true)) "list.__new__"):=T 100 _ (hf100 P) (by decide) (by decide)
theorem TopIn.ns {P:Params}{h:Heap}(T:TopIn P h):h.Ns 99 (accM P):=by
 refine x3_2 (ns99 P) fun o es ep e d r=>?_
 exact ⟨o,es,ep,T 99 o e (by decide) (by decide),d,r⟩
theorem accM_some (P:Params):([("__init__",38),("push",45),("pop_from",53),("__len__",67),("__str__",74),("part_count",97)].all fun (x,a)=>accM P (Str.ofString x)==some (.ref a))=true:=by kernel_rfl!
theorem accM_none (P:Params):(["__getattribute__","__getattr__","__setattr__","append","__getitem__","__setitem__","__iter__","_initial_size","__new__","__bool__"].all fun x=>accM P (Str.ofString x)==none)=true:=by kernel_rfl!
theorem accM_at (P:Params){x:String}{a:Nat}(h:(x,a)∈[("__init__",38),("push",45),("pop_from",53),("__len__",67),("__str__",74),("part_count",97)]):accM P (Str.ofString x)=some (.ref a):=by
 have:=List.all_eq_true.1 (accM_some P) (x,a) h
 exact beq_iff_eq.1 this
theorem accM_no (P:Params){x:String}(h:x∈["__getattribute__","__getattr__","__setattr__","append","__getitem__","__setitem__","__iter__","_initial_size","__new__","__bool__"]):accM P (Str.ofString x)=none:=by
 have:=List.all_eq_true.1 (accM_none P) x h
 exact beq_iff_eq.1 this
theorem lk_ga:typeLookup (.type "list") "__getattribute__"=pure (some (.builtin "list.__getattribute__")):=by rw [typeLookup_type,builtinLookup_eq_fast];kernel_rfl
theorem lk_getattr:typeLookup (.type "list") "__getattr__"=pure none:=by rw [typeLookup_type,builtinLookup_eq_fast];kernel_rfl
theorem lk_setattr:typeLookup (.type "list") "__setattr__"=pure (some (.builtin "object.__setattr__")):=by rw [typeLookup_type,builtinLookup_eq_fast];kernel_rfl
theorem lk_append:typeLookup (.type "list") "append"=pure (some (.builtin "list.append")):=by rw [typeLookup_type,builtinLookup_eq_fast];kernel_rfl
theorem lk_getitem:typeLookup (.type "list") "__getitem__"=pure (some (.builtin "list.__getitem__")):=by rw [typeLookup_type,builtinLookup_eq_fast];kernel_rfl
theorem lk_setitem:typeLookup (.type "list") "__setitem__"=pure (some (.builtin "list.__setitem__")):=by rw [typeLookup_type,builtinLookup_eq_fast];kernel_rfl
theorem lk_iter:typeLookup (.type "list") "__iter__"=pure (some (.builtin "list.__iter__")):=by rw [typeLookup_type,builtinLookup_eq_fast];kernel_rfl
theorem lk_len:typeLookup (.type "list") "__len__"=pure (some (.builtin "list.__len__")):=by rw [typeLookup_type,builtinLookup_eq_fast];kernel_rfl
theorem lk_init:typeLookup (.type "list") "__init__"=pure (some (.builtin "list.__init__")):=by rw [typeLookup_type,builtinLookup_eq_fast];kernel_rfl
theorem lk_new:typeLookup (.type "list") "__new__"=pure (some (.builtin "list.__new__")):=by rw [typeLookup_type,builtinLookup_eq_fast];kernel_rfl
theorem lk_str:typeLookup (.type "list") "__str__"=pure (some (.builtin "object.__str__")):=by rw [typeLookup_type,builtinLookup_eq_fast];kernel_rfl
theorem lk_isz:typeLookup (.type "list") "_initial_size"=pure none:=by rw [typeLookup_type,builtinLookup_eq_fast];kernel_rfl
theorem lk_push:typeLookup (.type "list") "push"=pure none:=by rw [typeLookup_type,builtinLookup_eq_fast];kernel_rfl
theorem lk_popfrom:typeLookup (.type "list") "pop_from"=pure none:=by rw [typeLookup_type,builtinLookup_eq_fast];kernel_rfl
theorem lk_partcount:typeLookup (.type "list") "part_count"=pure none:=by rw [typeLookup_type,builtinLookup_eq_fast];kernel_rfl
theorem lk_bool:typeLookup (.type "list") "__bool__"=pure none:=by rw [typeLookup_type,builtinLookup_eq_fast];kernel_rfl
set_option tactic.hygienic true
noncomputable def AccAt (h:Heap)(x:Addr)(vs:List Value)(D:Addr):Prop:=∃ k sl,h.get? x=some {cls:=.ref 100,dict:=some D,data:=.seq ⟨vs⟩ k,slots:=sl}
section
variable {M:Model}{A:Around}{E:Value→Shared→Prop}{P:Params}{h:Heap}{g:Array GenState}{d:Drawn}{t:Nat}{os:OsState}
set_option tactic.hygienic false
theorem look_acc {name:Str}{y:Option Value}{Q:Option Value→Shared→Prop}(T:TopIn P h)(hB:typeLookup (.type "list") name=pure y)
  (hq:Q (match accM P name with | some v=>some v | none=>y) ⟨h,g,d,t,os⟩):wpAny M A (typeLookup (.ref 100) name) Q E ⟨h,g,d,t,os⟩:=
 wpAny_typeLookup_exc T.cls T.ns F.mro_list hB hq
theorem type_acc {x:Addr}{vs:List Value}{D:Addr}{Q:Value→Shared→Prop}{g:Array GenState}{d:Drawn}{t:Nat}{os:OsState}(X:AccAt h x vs D)(hq:Q (.ref 100) ⟨h,g,d,t,os⟩):wpAny M A (typeOf (.ref x)) Q E ⟨h,g,d,t,os⟩:=by
 refine x2_0 X fun k sl e=>?_
 exact wpAny_typeOf_ref e hq
theorem spec_acc {x:Addr}{vs:List Value}{D:Addr}{name:Str}{y:Option Value}{Q:Option Value→Shared→Prop}(T:TopIn P h)(X:AccAt h x vs D)(hB:typeLookup (.type "list") name=pure y)
  (hq:Q (match accM P name with | some v=>some v | none=>y) ⟨h,g,d,t,os⟩):wpAny M A (specialOf (.ref x) name) Q E ⟨h,g,d,t,os⟩:=by
 unfold specialOf
 exact wpAny_bind (type_acc X (look_acc T hB hq))
theorem inst_acc {x:Addr}{vs:List Value}{D:Addr}{T':String}{Q:Bool→Shared→Prop}(T:TopIn P h)(X:AccAt h x vs D)(hq:Q ((Value.ref 100::[.type "list",.type "object"]).contains (.type T')) ⟨h,g,d,t,os⟩) :
  wpAny M A (isInstance (.ref x) (.type T')) Q E ⟨h,g,d,t,os⟩:=by
 unfold isInstance
 exact wpAny_bind (type_acc X (wpAny_isSubtype_exc T.cls hq))
set_option tactic.hygienic true
end
set_option tactic.hygienic false
theorem canon_ga:(Manifest.canonical "list.__getattribute__" != "object.__getattribute__")=false:=by decide +kernel
set_option tactic.hygienic true
noncomputable def SizeD (h:Heap)(D:Addr)(init:Int):Prop:=∃ t,h.Ns D (fun x=>if x=Str.ofString "_initial_size" then some (.int init t) else none)
section
variable {M:Model}{A:Around}{E:Value→Shared→Prop}{P:Params}{h:Heap}{g:Array GenState}{d:Drawn}{t:Nat}{os:OsState}{x D:Addr}{vs:List Value}{mD:Str→Option Value}
set_option tactic.hygienic false
theorem meth_acc {pl:Sem Bool}{name:Str}{f:Addr}{of:Obj}{y:Option Value}{Q:Value × List Value→Shared→Prop}(T:TopIn P h)(X:AccAt h x vs D)(hD:h.Ns D mD)
  (hf:accM P name=some (.ref f)) (hB:typeLookup (.type "list") name=pure y) (hfo:(Hf P).get? f=some of) (hfc:of.cls=.type "function") (h1:f≠62) (h2:f≠69) (hsh:mD name=none)
  (hq:Q (.ref f,[.ref x]) ⟨h,g,d,t,os⟩):wpAny M A (getMethod (.ref x) name pl) Q E ⟨h,g,d,t,os⟩:=by
 have hcan:=canon_ga
 have n1:=accM_no P (x:="__getattribute__") (by decide)
 have n2:=accM_no P (x:="__getattr__") (by decide)
 have hfo':=T f of hfo h1 h2
 unfold getMethod
 refine wpAny_bind (spec_acc T X lk_ga ?_)
 rw [n1]
 show wpAny _ _ (if (Manifest.canonical "list.__getattribute__" != "object.__getattribute__")=true then _ else _) _ _ _
 rw [canon_ga]
 refine wIfN (by decide) ?_
 refine wpAny_bind (spec_acc T X lk_getattr ?_)
 rw [n2]
 refine wIfN (by decide) ?_
 refine wpAny_bind (spec_acc T X hB ?_)
 rw [hf]
 show wpAny _ _ (typeOf (.ref f)>>=_) _ _ _
 refine wpAny_bind (wpAny_typeOf (T:="function") ⟨_,hfo',hfc⟩ ?_)
 have e1:(Value.type "function" != Value.type "function")=false:=by decide
 refine wIfN (by decide) ?_
 refine x2_0 X fun k sl e=>?_
 refine wpAny_bind (wpAny_loadPart_at e ?_)
 refine wpAny_bind (wpAny_nsGet hD ?_)
 rw [hsh]
 refine wIfN (by decide) ?_
 refine wpAny_bind (wpAny_rule (wpAny_pure hq))
theorem methB_acc {pl : Sem Bool} {name : Str} {id : String} {Q : Value × List Value → Shared → Prop} (T : TopIn P h) (X : AccAt h x vs D) (hD : h.Ns D mD)
    (hf : accM P name = none) (hB : typeLookup (.type "list") name = pure (some (.builtin id))) (ty : typeOf (.builtin id) = pure (.type "method_descriptor") ∨ typeOf (.builtin id) = pure (.type "wrapper_descriptor")) (hsh : mD name = none)
    (hq : Q (.builtin id, [.ref x]) ⟨h, g, d, t, os⟩) : wpAny M A (getMethod (.ref x) name pl) Q E ⟨h, g, d, t, os⟩ := by
  have hcan := canon_ga
  have n1 := accM_no P (x := "__getattribute__") (by decide)
  have n2 := accM_no P (x := "__getattr__") (by decide)
  unfold getMethod
  refine wpAny_bind (spec_acc T X lk_ga ?_)
  rw [n1]
  show wpAny _ _ (if (Manifest.canonical "list.__getattribute__" != "object.__getattribute__") = true then _ else _) _ _ _
  rw [canon_ga]
  refine wIfN (by decide) ?_
  refine wpAny_bind (spec_acc T X lk_getattr ?_)
  rw [n2]
  refine wIfN (by decide) ?_
  refine wpAny_bind (spec_acc T X hB ?_)
  rw [hf]
  show wpAny _ _ (typeOf (.builtin id) >>= _) _ _ _
  have go : ∀ T', typeOf (.builtin id) = pure (.type T') → (T' = "method_descriptor" ∨ T' = "wrapper_descriptor") → wpAny M A (typeOf (.builtin id) >>= fun tf => if (tf != .type "function" && tf != .type "method_descriptor" && tf != .type "wrapper_descriptor") = true then (do return (← getAttr (.ref x) name, [])) else
      (do if let .ref a := Value.ref x then
            if let some d := (← loadPart a (some headPart)).dict then
              if (← nsGet d name).isSome then return ← (do return (← getAttr (.ref x) name, []))
          rule "call.method-form"
          return (Value.builtin id, [.ref x]))) Q E ⟨h, g, d, t, os⟩ := by
    intro T' h1 h2
    refine wpAny_bind (wpAny_of_eq h1 ?_)
    have e1 : (Value.type T' != .type "function" && Value.type T' != .type "method_descriptor" && Value.type T' != .type "wrapper_descriptor") = false := by
      rcases h2 with rfl | rfl <;> decide
    refine wIfN (by simp [e1]) ?_
    refine x2_0 X fun k sl e => ?_
    refine wpAny_bind (wpAny_loadPart_at e ?_)
    refine wpAny_bind (wpAny_nsGet hD ?_)
    rw [hsh]
    refine wIfN (by decide) ?_
    refine wpAny_bind (wpAny_rule (wpAny_pure hq))
  rcases ty with h | h
  · exact go _ h (.inl rfl)
  · exact go _ h (.inr rfl)
theorem check_acc {id n:String}{rest:List Value}{Q:Unit→Shared→Prop}(T:TopIn P h)(X:AccAt h x vs D)(hs:splitId id=some ("list",n))
  (hk:builtinKind id=some .slot∨builtinKind id=some .method) (ha:argsOk id ⟨.ref x::rest,[]⟩) (hq:Q () ⟨h,g,d,t,os⟩):wpAny M A (checkBuiltinCall id ⟨.ref x::rest,[]⟩) Q E ⟨h,g,d,t,os⟩:=by
 have hc:(Value.ref 100::[.type "list",.type "object"]).contains (.type "list")=true:=by decide
 rcases hk with hk | hk
 all_goals
  simp only [checkBuiltinCall,hk,hs]
  refine wpAny_bind (inst_acc T X ?_)
  rw [hc]
  refine wIfN (by decide) ?_
  refine wpAny_bind (wpAny_pure ?_)
  induction hsig:Manifest.signature? id using Option.casesOn with
  | none=>exact wpAny_pure hq
  | some sig=>
   simp only [argsOk,hsig] at ha
   have h2:Bind.checkArgs id sig ⟨.ref x::rest,[]⟩=pure ():=ha
   show wpAny M A (Bind.checkArgs id sig ⟨.ref x::rest,[]⟩) Q E _
   rw [h2];exact wpAny_pure hq
set_option tactic.hygienic true
end
section
variable {prog:Program}{w:World}{A:Around}{E:Value→Shared→Prop}{P:Params}{h:Heap}{g:Array GenState}{d:Drawn}{t:Nat}{os:OsState}{x D:Addr}{vs:List Value}{mD:Str→Option Value}
set_option tactic.hygienic false
theorem entry_acc {id n:String}{b:Builtin}{rest:List Value}{Q:Value→Shared→Prop}(T:TopIn P h)(X:AccAt h x vs D)(hs:splitId id=some ("list",n))
  (hk:builtinKind id=some .slot∨builtinKind id=some .method) (hp:plainId id=true) (hb:entryFor table id=some b)
  (hc:wpAny (model prog w) A.in1 (b ⟨.ref x::rest,[]⟩) (fun fin s'=>∃ v,fin=.done (.ret v)∧Q v s') E ⟨h,g,d,t,os⟩)
  (ha:argsOk id ⟨.ref x::rest,[]⟩:=by rfl):wpAny (model prog w) A (call (.builtin id) (.ref x::rest)) Q E ⟨h,g,d,t,os⟩:=by
 refine wpAny_call (codeAny_call_builtin hp hb (check_acc T X hs hk ha (wpAny_mono hc (fun fin s' h'=>?_) fun _ _ h'=>h')))
 refine x1_1 h' fun v hq1 hv=>?_;subst hq1;exact hv
set_option tactic.hygienic true
end
noncomputable def acFn (name qual:Str)(i:Nat)(clo:List (Str × Addr))(dfl pm cd ct:Value):FuncData:=
 {name,qualname:=qual,params:=fArgs (cb i),body:=.stmts (fBody (cb i)),scope:=fScope (cb i),globals:=mainGlobals,closure:=clo,defaults:=dfl,kwdefaults:=.none,doc:=.none,pyModule:=pm,code:=cd,closureTuple:=ct,builtins:=builtinsNs}
section
variable {w:World}{A:Around}{E:Value→Shared→Prop}{s:Shared}
set_option tactic.hygienic false
theorem enter_acc {a c:Addr}{o oc:Obj}{fd:FuncData}{body:List Stmt}{us:List Value}{binds:List (Str × Value)}{Q:Value→Shared→Prop}(T:TopIn w.params s.heap)(hl:s.heap.NoLimit)(hd:A.depth < 1000)
  (h1:(Hf w.params).get? a=some o) (h2:o.data=.func fd) (h3:fd.code=.ref c) (h4:(Hf w.params).get? c=some oc) (h5:recN oc fd.qualname=true) (h6:(a != 62&&a != 69&&c != 62&&c != 69)=true)
  (hb:fd.body=.stmts body) (hbind:BindsTo s fd ⟨us,[]⟩ binds) (hcell:(fd.scope.names.all fun x=>x.2 != .cell)=true) (hloc:(binds.map (·.1)).all (fun x=>fd.scope.names.lookup x==some .local)=true)
  (hco:(fd.scope.kind==.function&&fd.scope.isCoroutine==false&&fd.scope.isGenerator==false)=true)
  (k:∀ E' h₀,h₀.Ns s.heap.objs.size (fun x=>binds.reverse.lookup x)→(∀ b o,s.heap.get? b=some o→h₀.get? b=some o) →
   wpAny (model Pr w) (A.deeper (callEnv fd s.heap.objs.size a)) (execs body (callEnv fd s.heap.objs.size a)) (fun f s'=>Q (match f with | .ret v=>v | _=>.none) s') E' {s with heap:=h₀,toks:=s.toks+binds.length}) :
  wpAny (model Pr w) A (call (.ref a) us) Q E s:=by
 simp only [Bool.and_eq_true,bne_iff_ne,beq_iff_eq] at h6 hco
 refine x2_1 (recN_ok h5) fun vs t e1 e2=>?_
 refine wpAny_call (codeAny_call_def (fd:=fd) (body:=body) (binds:=binds) hd (T a o h1 h6.1.1.1 h6.1.1.2) h2 hl ⟨c,oc,vs,t,h3,T c oc h4 h6.1.2 h6.2,e1,e2⟩ hb hbind ?_ ?_ (fun h₀ n k₀=>k _ h₀ n k₀) hco.1.2 hco.2 hco.1.1)
 ·intro x hx e
  have:=List.all_eq_true.1 hcell x hx
  rw [e] at this;exact ftC this
 ·intro x hx
  have:=List.all_eq_true.1 hloc x.1 (List.mem_map_of_mem hx)
  exact beq_iff_eq.1 this
theorem mCall {env:Env}{o:Expr}{name:Str}{apos pos:Pos}{args:List Expr}{Q:Value→Shared→Prop}
  (hbase:attributeBase o name env (eval o env)=eval o env)
  (hfew:((backTo pos (starEach args env)).all (fun x=>!x.1)&&(backToKw pos (keywordEach [] env)).all (fun x=>x.1.isSome)
   && decide (args.length+([]:List Keyword).length+(if ([]:List Keyword).isEmpty then 0 else 1) < 30))=true)
  (hline:(apos.endLine==pos.line)=true)
  (h:wpAny (model Pr w) A (eval o env) (fun ov s₁=>∀ pl,wpAny (model Pr w) A (getMethod ov name pl) (fun fx s₂=>wpAny (model Pr w) A (callWith pos fx.1 fx.2 (backTo pos (starEach args env)) []) Q E s₂) E s₁) E s) :
  wpAny (model Pr w) A (eval (.Call (.Attribute o name apos) args [] pos) env) Q E s:=by
 rw [arm_eval_Call,hbase]
 refine wpAny_bind (wpAny_mono h (fun ov s₁ h₁=>?_) fun _ _ e=>e)
 refine wpAny_bind (wpAny_standAt ?_)
 have hform:methodCallForm (args.length+([]:List Keyword).length) (backTo pos (starEach args env)) (backToKw pos (keywordEach [] env))=true:=hfew
 have hpos:methodCallPos true o env apos pos=pure pos:=by unfold methodCallPos;simp [hline]
 unfold methodCall
 rw [hform]
 refine wpAny_bind (wpAny_holding (wpAny_mono (h₁ _) (fun fx s₂ h₂=>?_) fun _ _ e=>e))
 exact wpAny_bind (wpAny_of_eq hpos h₂)
set_option tactic.hygienic true
end
set_option tactic.hygienic false
theorem body45:∃ p1 p2 p3 p4 p5 p6 p7 c,fBody (cb 1)=[.Expr (.Call (.Attribute (.Name (Str.ofString "self") p1) (Str.ofString "append") p2) [.Tuple [.Name (Str.ofString "fws") p3,.Name (Str.ofString "string") p4] c p5] [] p6) p7] ∧
 (p2.endLine==p6.line)=true:=⟨_,_,_,_,_,_,_,_,rfl,by kernel_rfl!⟩
@[elab_as_elim] theorem body45_el {C:List Stmt→Prop}(k:∀ p1 p2 p3 p4 p5 p6 p7 c,(p2.endLine==p6.line)=true→C ([.Expr (.Call (.Attribute (.Name (Str.ofString "self") p1) (Str.ofString "append") p2) [.Tuple [.Name (Str.ofString "fws") p3,.Name (Str.ofString "string") p4] c p5] [] p6) p7])):C (fBody (cb 1)):=by
 refine x8_1 body45 fun p1 p2 p3 p4 p5 p6 p7 c e h0=>?_
 rw [e];exact k _ _ _ _ _ _ _ _ h0
set_option tactic.hygienic true
noncomputable def fd45 (P:Params):FuncData:=acFn ⟨⟨[112,117,115,104]⟩⟩ ⟨⟨[95,65,99,99,117,109,117,108,97,116,111,114,46,112,117,115,104]⟩⟩ 1 [] .none (.str ⟨⟨[99,112,121,51,49,51,46,101,109,97,105,108,46,104,101,97,100,101,114]⟩⟩ 194) (.ref 44) .none
set_option tactic.hygienic false
theorem dat45 (P:Params):(o45 P).data=.func (fd45 P):=by kernel_rfl!
theorem bind45 (P:Params)(a b c:Value):bindArgs (fd45 P) ⟨[a,b,c],[]⟩=pure [(Str.ofString "self",a),(Str.ofString "fws",b),(Str.ofString "string",c)]:=by kernel_rfl!
set_option tactic.hygienic true
section
variable {w:World}{A:Around}{E:Value→Shared→Prop}{s:Shared}{x D:Addr}{vs:List Value}{mD:Str→Option Value}{Q:Value→Shared→Prop}
set_option tactic.hygienic false
theorem AccAt.keeps {h h':Heap}(X:AccAt h x vs D)(k:∀ b o,h.get? b=some o→h'.get? b=some o):AccAt h' x vs D:=let ⟨a,b,e⟩:=X;⟨a,b,k _ _ e⟩
theorem slot_append_kind:builtinKind "list.append"=some .method:=by kernel_rfl!
theorem split_append:splitId "list.append"=some ("list","append"):=by kernel_rfl!
theorem append_acc {a:Value}(T:TopIn w.params s.heap)(X:AccAt s.heap x vs D)(hsz:vs.length≤sizeLine)
  (k:∀ h',Heap.SameBut x s.heap h'→AccAt h' x (vs++[a]) D→Q .none {s with heap:=h'}):wpAny (model Pr w) A (call (.builtin "list.append") [.ref x,a]) Q E s:=by
 refine entry_acc T X split_append (.inr slot_append_kind) (by decide +kernel) entry_list_append ?_ (args_list_append _ _)
 refine x2_0 X fun q sl e=>?_
 show wpAny _ _ (updateSeq x (·.push a)>>=fun _=>ret .none) _ _ s
 refine wpAny_bind ?_
 refine wpAny_updateSeq e rfl (wpAny_pure ⟨.none,rfl,k _ (Heap.SameBut.update ..) ⟨q+1,sl,?_⟩⟩) (by simpa using hsz) (by simp;kt_len)
 rw [Heap.get?_update_self _ e (by simp [Obj.mapSeq];rfl)]
 simp [Obj.mapSeq]
theorem nameL {A:Around}{env:Env}{y:Str}{p:Pos}{m:Str→Option Value}(v:Value){Q:Value→Shared→Prop}{s:Shared}(n:s.heap.Ns env.locals m)(hk:env.scope.kind=.function)(hl:env.kindOf y=some .local)(hv:m y=some v)(hd:(y==("__debug__":Str))=false)
  (h:Q v s):wpAny (model Pr w) A (eval (.Name y p) env) Q E s:=wpAny_Name (wpAny_loadName_local hk hl n hv h) hd
theorem push_ok {a b:Value}(T:TopIn w.params s.heap)(hl:s.heap.NoLimit)(hd:A.depth < 1000)(X:AccAt s.heap x vs D)(hD:s.heap.Ns D mD)(hsh:mD (Str.ofString "append")=none)(hsz:vs.length≤sizeLine)
  (k:∀ h' tk tup,(∀ b o,b≠x→s.heap.get? b=some o→h'.get? b=some o)→h'.IsTuple tup ⟨[a,b]⟩→AccAt h' x (vs++[.ref tup]) D→Q .none {s with heap:=h',toks:=tk}) :
  wpAny (model Pr w) A (call (.ref 45) [.ref x,a,b]) Q E s:=by
 refine enter_acc (o:=o45 w.params) (oc:=o44 w.params) (fd:=fd45 w.params) T hl hd (by kernel_rfl!) (dat45 _) rfl (by kernel_rfl!) (by kernel_rfl!) (by decide) rfl (BindsTo.of_eq (bind45 _ _ _ _)) (by kernel_rfl!) (by kernel_rfl!) (by kernel_rfl!) fun E' h₀ n k₀=>?_
 refine body45_el fun p1 p2 p3 p4 p5 p6 p7 c hline=>?_
 have T₀:=T.keeps k₀
 refine wpAny_execs_cons (wpAny_Expr_any (mCall rfl rfl hline (nameL (.ref x) n (by kernel_rfl!) (by kernel_rfl!) (by kernel_rfl!) (by kernel_rfl!) fun pl=>?_)) (by kernel_rfl!) (by rfl))
 refine methB_acc T₀ (X.keeps k₀) (hD.keeps k₀) (accM_no _ (by decide)) lk_append (.inl type_list_append) hsh ?_
 refine withB (by rfl) (args_cons (wpAny_Tuple (args_cons (nameL a n (by kernel_rfl!) (by kernel_rfl!) (by kernel_rfl!) (by kernel_rfl!) ?_) rfl)) rfl)
 refine args_cons (nameL b n (by kernel_rfl!) (by kernel_rfl!) (by kernel_rfl!) (by kernel_rfl!) (args_nil ⟨by size_fits,args_nil ?_⟩)) rfl
 have kp:∀ b' o',s.heap.get? b'=some o'→(h₀.push {cls:=.type "tuple",data:=.seq [a,b].toArray}).get? b'=some o':=fun b' o' e=>Heap.get?_push_of_some _ (k₀ _ _ e)
 refine append_acc (s:={s with heap:=h₀.push {cls:=.type "tuple",data:=.seq [a,b].toArray},toks:=_}) (T.keeps kp) (X.keeps kp) hsz fun h' hs X'=>wpAny_execs_nil ?_
 have hx:x≠h₀.objs.size:=by
  refine x2_0 (X.keeps k₀) fun _ _ e=>?_
  exact Nat.ne_of_lt (Heap.lt_size e)
 refine k h' _ _ (fun b' o' hb e=>(hs.2 b' hb).trans (kp _ _ e)) ?_ X'
 exact ⟨_,(hs.2 _ hx.symm).trans (Heap.get?_push_size _ rfl),rfl,0,rfl⟩
set_option tactic.hygienic true
end
set_option tactic.hygienic false
theorem split_getitem:splitId "list.__getitem__"=some ("list","__getitem__"):=by kernel_rfl!
theorem split_setitem:splitId "list.__setitem__"=some ("list","__setitem__"):=by kernel_rfl!
theorem kind_getitem:builtinKind "list.__getitem__"=some .slot∨builtinKind "list.__getitem__"=some .method:=by decide +kernel
theorem kind_setitem:builtinKind "list.__setitem__"=some .slot∨builtinKind "list.__setitem__"=some .method:=by decide +kernel
theorem plain_getitem:plainId "list.__getitem__"=true:=by decide +kernel
theorem plain_setitem:plainId "list.__setitem__"=true:=by decide +kernel
set_option tactic.hygienic true
section
variable {w:World}{A:Around}{E:Value→Shared→Prop}{s:Shared}{x D:Addr}{vs:List Value}{mD:Str→Option Value}
set_option tactic.hygienic false
theorem seqKey_acc {k:Value}{name:Str}{Q:Value→Shared→Prop}(T:TopIn w.params s.heap)(X:AccAt s.heap x vs D)(h:Q k s):wpAny (model Pr w) A (sequenceKey (.ref x) k name) Q E s:=by
 unfold sequenceKey
 refine wpAny_bind (type_acc X ?_)
 show wpAny _ _ ((seqItemTypes.anyM fun n=>isSubtype (.ref 100) (.type n))>>=fun b=>if (!b)=true then _ else _) _ _ _
 refine wpAny_bind (wpAny_mono (Q:=fun b s'=>b=false∧s'=s) ?_ (fun b s' hb=>?_) fun _ _ e=>e)
 ·unfold seqItemTypes
  simp only [List.anyM]
  refine wpAny_bind (wpAny_isSubtype_exc T.cls ?_)
  have:(Value.ref 100::[.type "list",.type "object"]).contains (.type "collections.deque")=false:=by decide
  rw [this]
  exact wpAny_pure ⟨rfl,rfl⟩
 ·refine x0_1 hb fun hq0 hq1=>?_;subst hq0;subst hq1
  refine wIfP (by decide) ?_
  exact wpAny_pure h
theorem callSp_acc {name:Str}{id:String}{args:List Value}{Q:Option Value→Shared→Prop}(T:TopIn w.params s.heap)(X:AccAt s.heap x vs D)(hn:accM w.params name=none)(hB:typeLookup (.type "list") name=pure (some (.builtin id)))
  (hb:∀ self,bindSpecial (.builtin id) self=pure (.builtin id,[self])) (h:wpAny (model Pr w) A (call (.builtin id) (.ref x::args)) (fun v=>Q (some v)) E s):wpAny (model Pr w) A (callSpecial? (.ref x) name args) Q E s:=by
 unfold callSpecial?
 refine wpAny_bind (spec_acc T X hB ?_)
 rw [hn]
 refine wpAny_holding (wpAny_bind (wpAny_of_eq (hb _) ?_))
 exact wpAny_bind (wpAny_mono h (fun v s' h'=>wpAny_pure h') fun _ _ h'=>h')
theorem bounds_from (k:Int)(n:Nat)(h:0≤k):sliceBounds (some k) none none n=(((min k.toNat n:Nat):Int),(n:Int),(1:Int)):=by
 refine x1_0 (Int.eq_ofNat_of_zero_le h) fun j hq1=>?_;subst hq1
 simp only [sliceBounds,Option.getD_none]
 have h1:¬ ((j:Int) < 0):=by kt_len
 simp only [h1,if_false,show (1:Int) > 0 by decide,if_true,Prod.mk.injEq,and_true,true_and]
 simp only [Int.toNat_natCast];kt_len
theorem pick_from (vs:List Value)(k:Int)(h:0≤k):slicePick ⟨vs⟩ (some k) none none=⟨vs.drop k.toNat⟩:=by
 unfold slicePick
 rw [show (⟨vs⟩:Array Value).size=vs.length from rfl,bounds_from k vs.length h]
 dsimp only
 rw [sliceRange_one,pick_run]
 congr 1
 by_cases hk:k.toNat≤vs.length
 ·rw [Nat.min_eq_left hk,List.take_of_length_le (by simp)]
 ·rw [Nat.min_eq_right (by kt_len)]
  rw [List.drop_of_length_le (by simp),List.drop_of_length_le (by kt_len)]
  simp
theorem acc_upd {h:Heap}{x D:Addr}{vs ys:List Value}{q:Nat}{sl:Array (Option Value)}{f:Array Value→Array Value}(ex:h.get? x=some {cls:=.ref 100,dict:=some D,data:=.seq ⟨vs⟩ q,slots:=sl})(hf:f ⟨vs⟩=⟨ys⟩) :
  AccAt (h.update x (Obj.mapSeq f)) x ys D:=by
 refine ⟨if (⟨ys⟩:Array Value).size==(⟨vs⟩:Array Value).size then q else q+1,sl,?_⟩
 rw [Heap.get?_update_self _ ex (by simp [Obj.mapSeq];rfl)]
 simp only [Obj.mapSeq,hf]
theorem getSl_acc {sl:Addr}{vl:Value}{k:Int}{Q:Value→Shared→Prop}(T:TopIn w.params s.heap)(X:AccAt s.heap x vs D)(hs:s.heap.IsSliceOf sl vl .none .none)(pl:IsPart vl (some k))(h0:0≤k)(hsz:vs.length≤sizeLine)
  (h:Q (.ref s.heap.objs.size) {s with heap:=s.heap.push {cls:=.type "list",data:=.seq ⟨vs.drop k.toNat⟩}}):wpAny (model Pr w) A (getItem (.ref x) (.ref sl)) Q E s:=by
 refine x1_2 (id hs) fun os hos hcs hds=>?_
 have hTs:s.TypeIs (.ref sl) "slice":=⟨os,hos,hcs⟩
 unfold getItem
 refine wpAny_holding ?_
 refine wpAny_bind (seqKey_acc T X ?_)
 refine wpAny_bind (callSp_acc T X (accM_no _ (by decide)) lk_getitem slot_list_getitem.bind
  (entry_acc T X split_getitem kind_getitem plain_getitem entry_list_getitem ?_ (args_list_getitem _ _)))
 show wpAny _ _ (Builtin.List.listSubscript? (.ref sl)>>=_) _ _ s
 refine wpAny_bind ?_
 unfold Builtin.List.listSubscript?
 refine wpAny_bind (wpAny_specialOf hTs slice_no_index ?_)
 simp only [Option.isNone_none,if_true]
 refine wpAny_pure ?_
 show wpAny _ _ (typeOf (.ref sl)>>=_) _ _ s
 refine wpAny_bind (wpAny_typeOf hTs ?_)
 rw [if_neg (by decide)]
 rw [listSliceParts_eq]
 refine wpAny_bind (wpAny_bind (wpAny_field hos hds (x:=.none) rfl (wpAny_bind (wpAny_listPart .none ?_))))
 refine wEqM (if_neg (by decide)) ?_
 refine wpAny_bind (wpAny_field hos hds (x:=vl) rfl (wpAny_bind (wpAny_listPart pl ?_)))
 refine wpAny_bind (wpAny_field hos hds (x:=.none) rfl (wpAny_bind (wpAny_listPart .none (wpAny_pure ?_))))
 refine wpAny_bind (m:=Builtin.List.listItems (.ref x)) ?_
 unfold Builtin.List.listItems
 refine x2_0 X fun q sl' ex=>?_
 refine wpAny_bind (wpAny_seqItems ex rfl (wpAny_pure ?_))
 refine wpAny_bind (wpAny_of_eq (sliceIndices_raw (some k) none none _ (by decide)) ?_)
 have e:=pick_from vs k h0
 unfold slicePick at e
 refine wpAny_bind (wpAny_newObj_type (wpAny_pure ⟨_,rfl,wpAny_pure ?_⟩) (Nat.le_trans (slicePick_size_le ⟨vs⟩ (some k) none none) hsz))
 rw [e];exact h
theorem setSl_acc {sl L:Addr}{vl:Value}{k:Int}{Q:Unit→Shared→Prop}(T:TopIn w.params s.heap)(X:AccAt s.heap x vs D)(hs:s.heap.IsSliceOf sl vl .none .none)(pl:IsPart vl (some k))(h0:0≤k)(hsz:vs.length≤sizeLine)
  (hL:s.heap.PlainList L ⟨[]⟩) (hx:x≠L)
  (h:∀ h',Heap.SameBut x s.heap h'→AccAt h' x (vs.take k.toNat) D→Q () {s with heap:=h'}):wpAny (model Pr w) A (setItem (.ref x) (.ref sl) (.ref L)) Q E s:=by
 refine x1_2 (id hs) fun os hos hcs hds=>?_
 have hTs:s.TypeIs (.ref sl) "slice":=⟨os,hos,hcs⟩
 unfold setItem
 refine wpAny_holding ?_
 refine wpAny_bind (seqKey_acc T X ?_)
 refine wpAny_bind (callSp_acc T X (accM_no _ (by decide)) lk_setitem slot_list_setitem.bind
  (entry_acc T X split_setitem kind_setitem plain_setitem entry_list_setitem ?_ (args_list_setitem _ _ _)))
 show wpAny _ _ (Builtin.List.listSubscript? (.ref sl)>>=_) _ _ s
 refine wpAny_bind ?_
 unfold Builtin.List.listSubscript?
 refine wpAny_bind (wpAny_specialOf hTs slice_no_index ?_)
 refine wIfP (by decide) ?_
 refine wpAny_pure ?_
 show wpAny _ _ (typeOf (.ref sl)>>=_) _ _ s
 refine wpAny_bind (wpAny_typeOf hTs ?_)
 refine wIfN (by decide) ?_
 rw [listSliceParts_eq]
 refine wpAny_bind (wpAny_bind (wpAny_field hos hds (x:=.none) rfl (wpAny_bind (wpAny_listPart .none ?_))))
 refine wIfN (by decide) ?_
 refine wpAny_bind (wpAny_field hos hds (x:=vl) rfl (wpAny_bind (wpAny_listPart pl ?_)))
 refine wpAny_bind (wpAny_field hos hds (x:=.none) rfl (wpAny_bind (wpAny_listPart .none (wpAny_pure ?_))))
 have hne:Builtin.List.listSameRef (.ref x) (.ref L)=false:=by simp [Builtin.List.listSameRef,hx]
 refine x1_0 hL fun qL eL=>?_
 have hTL:s.TypeIs (.ref L) "list":=⟨_,eL,rfl⟩
 refine wIfN (by simp [hne]) ?_
 unfold Builtin.List.listAllItems
 refine wpAny_bind (wpAny_bind (wpAny_typeOf hTL ?_))
 refine wIfP (by decide) ?_
 unfold Builtin.List.listItems
 refine wpAny_bind (wpAny_seqItems eL rfl (wpAny_pure ?_))
 refine x2_0 (id X) fun q sl' ex=>?_
 refine wpAny_bind (wpAny_bind (wpAny_seqItems ex rfl (wpAny_pure ?_)))
 refine wpAny_bind (wpAny_of_eq (sliceIndices_raw (some k) none none _ (by decide)) ?_)
 rw [show (⟨vs⟩:Array Value).size=vs.length from rfl,bounds_from k vs.length h0]
 dsimp only
 refine wIfP (by decide) ?_
 refine wpAny_bind (wpAny_rule ?_)
 have hl:Builtin.List.listTooLong (vs.length+(⟨[]⟩:Array Value).size)=false:=by
  simp [Builtin.List.listTooLong];exact hsz
 rw [hl]
 refine wIfN (by decide) ?_
 unfold Builtin.List.listUpdate
 have hf:(⟨vs⟩:Array Value).extract 0 ((min k.toNat vs.length:Nat):Int).toNat++(⟨[]⟩:Array Value)++(⟨vs⟩:Array Value).extract (max ((min k.toNat vs.length:Nat):Int) (vs.length:Int)).toNat=⟨vs.take k.toNat⟩:=by
  have e1:(max ((min k.toNat vs.length:Nat):Int) (vs.length:Int)).toNat=vs.length:=by rw [Int.max_eq_right (Int.ofNat_le.2 (Nat.min_le_right _ _)),Int.toNat_natCast]
  rw [e1]
  apply Array.ext'
  simp
 refine wpAny_bind (wpAny_updateSeq ex rfl ?_ (by simpa using hsz) (by
  simp only [hf];rw [show (⟨vs.take k.toNat⟩:Array Value).size=(vs.take k.toNat).length from rfl,List.length_take];exact Nat.le_succ_of_le (Nat.le_trans (Nat.min_le_right _ _) hsz)))
 refine wpAny_bind (wpAny_letGo ?_)
 refine wpAny_pure ⟨.none,rfl,wpAny_pure (h _ (Heap.SameBut.update ..) (acc_upd ex hf))⟩
set_option tactic.hygienic true
end
set_option tactic.hygienic false
theorem body53:∃ a1 a2 a3 a4 a5 a6 a7 b1 b2 b3 b4 b5 b6 c1 c2,fBody (cb 2)=[.Assign [.Name (Str.ofString "popped") a1] (.Subscript (.Name (Str.ofString "self") a2) (.Slice (some (.Name (Str.ofString "i") a3)) none none a4) a5) a6,
 .Assign [.Subscript (.Name (Str.ofString "self") b1) (.Slice (some (.Name (Str.ofString "i") b2)) none none b3) b4] (.List [] b5) b6,.Return (some (.Name (Str.ofString "popped") c1)) c2]∧a7=a6:=⟨_,_,_,_,_,_,_,_,_,_,_,_,_,_,_,rfl,rfl⟩
@[elab_as_elim] theorem body53_el {C:List Stmt→Prop}(k:∀ a1 a2 a3 a4 a5 a6 a7 b1 b2 b3 b4 b5 b6 c1 c2,a7=a6→C ([.Assign [.Name (Str.ofString "popped") a1] (.Subscript (.Name (Str.ofString "self") a2) (.Slice (some (.Name (Str.ofString "i") a3)) none none a4) a5) a6,
 .Assign [.Subscript (.Name (Str.ofString "self") b1) (.Slice (some (.Name (Str.ofString "i") b2)) none none b3) b4] (.List [] b5) b6,.Return (some (.Name (Str.ofString "popped") c1)) c2])):C (fBody (cb 2)):=by
 obtain ⟨a1,a2,a3,a4,a5,a6,a7,b1,b2,b3,b4,b5,b6,c1,c2,e,h0⟩:=body53
 rw [e];exact k _ _ _ _ _ _ _ _ _ _ _ _ _ _ _ h0
set_option tactic.hygienic true
noncomputable def fd53 (P:Params):FuncData:=acFn ⟨⟨[112,111,112,95,102,114,111,109]⟩⟩ ⟨⟨[95,65,99,99,117,109,117,108,97,116,111,114,46,112,111,112,95,102,114,111,109]⟩⟩ 2 [] (.ref 46) (.str ⟨⟨[99,112,121,51,49,51,46,101,109,97,105,108,46,104,101,97,100,101,114]⟩⟩ 194) (.ref 52) .none
set_option tactic.hygienic false
theorem dat53 (P:Params):(o53 P).data=.func (fd53 P):=by kernel_rfl!
set_option tactic.hygienic true
section
variable {w:World}{A:Around}{E:Value→Shared→Prop}{s:Shared}{x D:Addr}{vs:List Value}{mD:Str→Option Value}
set_option tactic.hygienic false
theorem binds53a {P:Params}(T:TopIn P s.heap)(a b:Value):BindsTo s (fd53 P) ⟨[a,b],[]⟩ [(Str.ofString "self",a),(Str.ofString "i",b)]:=
 BindsTo.of_defaults (T:=46) (o:=o46 P) (items:=⟨[.int 0 229]⟩) rfl (T 46 _ (by kernel_rfl!) (by decide) (by decide)) rfl rfl (by kernel_rfl!)
theorem binds53b {P:Params}(T:TopIn P s.heap)(a:Value):BindsTo s (fd53 P) ⟨[a],[]⟩ [(Str.ofString "self",a),(Str.ofString "i",.int 0 229)]:=
 BindsTo.of_defaults (T:=46) (o:=o46 P) (items:=⟨[.int 0 229]⟩) rfl (T 46 _ (by kernel_rfl!) (by decide) (by decide)) rfl rfl (by kernel_rfl!)
theorem tail_acc {value slice:Expr}{i:Value}{Q:Value→Shared→Prop}(T:TopIn w.params s.heap)(X:AccAt s.heap x vs D)(h:wpAny (model Pr w) A (getItem (.ref x) i) Q E s):wpAny (model Pr w) A (subscriptTail value slice (.ref x) i) Q E s:=by
 unfold subscriptTail
 refine wpAny_bind ?_
 unfold getitemInPython
 refine wpAny_bind (spec_acc T X lk_getitem ?_)
 rw [accM_no _ (by decide)]
 have fin:wpAny (model Pr w) A (subscripted slice false (.ref x) i) (fun r s₃=>wpAny (model Pr w) A (letTemporaryGo value (.ref x) r>>=fun _=>pure r) Q E s₃) E s:=by
  have go:∀ ops,wpAny (model Pr w) A (operate ops (getItem (.ref x) i)) (fun r s₃=>wpAny (model Pr w) A (letTemporaryGo value (.ref x) r>>=fun _=>pure r) Q E s₃) E s:=fun ops=>
   wpAny_operating (wpAny_mono h (fun r s₃ h₃=>wpAny_bind (wpAny_letTemporaryGo (wpAny_pure h₃))) fun _ _ x=>x)
  refine x1_0 (sub_eq slice (.ref x) i) fun ops e=>?_
  rw [e];exact go _
 exact wpAny_pure (wpAny_bind fin)
theorem pop_body {k:Int}{t:Tok}{us:List Value}{Q:Value→Shared→Prop}(T:TopIn w.params s.heap)(hl:s.heap.NoLimit)(hd:A.depth < 1000)(X:AccAt s.heap x vs D)(h0:0≤k)(hsz:vs.length≤sizeLine)
  (hb:BindsTo s (fd53 w.params) ⟨us,[]⟩ [(Str.ofString "self",.ref x),(Str.ofString "i",.int k t)])
  (hQ:∀ h' tk L,(∀ b o,b≠x→s.heap.get? b=some o→h'.get? b=some o)→s.heap.objs.size≤L→h'.PlainList L ⟨vs.drop k.toNat⟩→AccAt h' x (vs.take k.toNat) D→Q (.ref L) {s with heap:=h',toks:=tk}) :
  wpAny (model Pr w) A (call (.ref 53) us) Q E s:=by
 refine enter_acc (o:=o53 w.params) (oc:=o52 w.params) (fd:=fd53 w.params) T hl hd (by kernel_rfl!) (dat53 _) rfl (by kernel_rfl!) (by kernel_rfl!) (by decide) rfl hb (by kernel_rfl!) (by kernel_rfl!) (by kernel_rfl!) fun E' h₀ n k₀=>?_
 refine body53_el fun a1 a2 a3 a4 a5 a6 a7 b1 b2 b3 b4 b5 b6 c1 c2 _=>?_
 have T₀:=T.keeps k₀
 have X₀:=X.keeps k₀
 have hxL:x≠s.heap.objs.size:=by refine x2_0 X fun _ _ e=>?_;exact Nat.ne_of_lt (Heap.lt_size e)
 refine wpAny_execs_cons (wpAny_Assign_Name (Subscript_ (nameL (.ref x) n (by kernel_rfl!) (by kernel_rfl!) (by kernel_rfl!) (by kernel_rfl!) (wpAny_Slice (nameL (.int k t) n (by kernel_rfl!) (by kernel_rfl!) (by kernel_rfl!) (by kernel_rfl!)
  (wpAny_pure (wpAny_pure ?_)))))) (by rfl))
 have ks:∀ b o,h₀.get? b=some o→(h₀.push {cls:=.type "slice",data:=.fields #[.int k t,.none,.none]}).get? b=some o:=fun b o e=>Heap.get?_push_of_some _ e
 refine tail_acc (T₀.keeps ks) (X₀.keeps ks) (getSl_acc (T₀.keeps ks) (X₀.keeps ks) (Heap.IsSliceOf.new ..) (.int k t) h0 hsz ?_)
 generalize hL:(h₀.push {cls:=.type "slice",data:=.fields #[.int k t,.none,.none]}).objs.size=L
 have hLL:s.heap.objs.size < L:=by
  have h7:s.heap.objs.size < h₀.objs.size:=n.lt
  rw [← hL,Heap.size_push];exact Nat.lt_succ_of_lt h7
 generalize hh2:(h₀.push {cls:=.type "slice",data:=.fields #[.int k t,.none,.none]}).push {cls:=.type "list",data:=.seq ⟨vs.drop k.toNat⟩}=h2
 have k2:∀ b o,h₀.get? b=some o→h2.get? b=some o:=fun b o e=>by rw [← hh2];exact Heap.get?_push_of_some _ (ks b o e)
 have pL:h2.PlainList L ⟨vs.drop k.toNat⟩:=⟨0,by rw [← hh2,← hL];exact Heap.get?_push_size _ rfl⟩
 refine wpAny_storeName_local (by kernel_rfl!) (n.keeps k2) (fun h3 n3 s3=>?_)
 have k3:∀ b o,b≠s.heap.objs.size→h2.get? b=some o→h3.get? b=some o:=fun b o hb e=>(s3.2 b hb).trans e
 have X3:AccAt h3 x vs D:=let ⟨q,sl,e⟩:=X₀;⟨q,sl,k3 _ _ hxL (k2 _ _ e)⟩
 have K3:∀ b o,s.heap.get? b=some o→h3.get? b=some o:=fun b o e=>k3 _ _ (Nat.ne_of_lt (Heap.lt_size e)) (k2 _ _ (k₀ _ _ e))
 have pL3:h3.PlainList L ⟨vs.drop k.toNat⟩:=pL.at fun o e=>k3 _ _ (Nat.ne_of_gt hLL) e
 refine wpAny_execs_cons (wpAny_Assign_Subscript (wpAny_List (args_nil ⟨by size_fits,?_⟩)) (by rfl))
 refine nameL (.ref x) (n3.push _) (by kernel_rfl!) (by kernel_rfl!) (by kernel_rfl!) (by kernel_rfl!) ?_
 refine wpAny_Slice (nameL (.int k t) (n3.push _) (by kernel_rfl!) (by kernel_rfl!) (by kernel_rfl!) (by kernel_rfl!) (wpAny_pure (wpAny_pure ?_)))
 have k5:∀ b o,h3.get? b=some o→((h3.push {cls:=.type "list",data:=.seq [].toArray}).push {cls:=.type "slice",data:=.fields #[.int k t,.none,.none]}).get? b=some o:=fun b o e=>Heap.get?_push_of_some _ (Heap.get?_push_of_some _ e)
 have hx5:x≠h3.objs.size:=by refine x2_0 X3 fun _ _ e=>?_;exact Nat.ne_of_lt (Heap.lt_size e)
 refine setSl_acc ((T.keeps K3).keeps k5) (X3.keeps k5) (Heap.IsSliceOf.new ..) (.int k t) h0 hsz ⟨0,Heap.get?_push_of_some _ (Heap.get?_push_size _ rfl)⟩ hx5 (fun h6 s6 X6=>?_)
 have k6:∀ b o,b≠x→h3.get? b=some o→h6.get? b=some o:=fun b o hb e=>(s6.2 b hb).trans (k5 _ _ e)
 have n6:=(n3.push {cls:=.type "list",data:=.seq [].toArray}).push {cls:=.type "slice",data:=.fields #[.int k t,.none,.none]}
 refine wpAny_execs_cons (wpAny_Return_some (nameL (.ref L) (n6.sameBut s6 hxL.symm) (by kernel_rfl!) (by kernel_rfl!) (by kernel_rfl!) (by kernel_rfl!) ?_))
 refine hQ h6 _ L (fun b o hb e=>k6 _ _ hb (K3 _ _ e)) (Nat.le_of_lt hLL) (pL3.at fun o e=>k6 _ _ ?_ e) X6
 rintro rfl
 refine x2_0 X fun _ _ e=>?_
 exact absurd (Heap.lt_size e) (Nat.not_lt.2 (Nat.le_of_lt hLL))
set_option tactic.hygienic true
end
set_option tactic.hygienic false
theorem no_third (P:Params):nsFind (dictOf (objAt P 2)) "thirdparty.any"=none:=by kernel_rfl!
theorem cStatics_two:cStatics=2:=by kernel_rfl!
theorem TopIn.ns2 {P:Params}{h:Heap}(T:TopIn P h):h.Ns cStatics (fun x=>nsFind (dictOf (objAt P 2)) x):=by
 rw [cStatics_two]
 refine x3_2 (Q47.ns2 P) fun o es ep e d r=>?_
 exact ⟨o,es,ep,T 2 o e (by decide) (by decide),d,r⟩
theorem own_len:classOwn (.type "list") "__len__"=pure (some (.builtin "list.__len__")):=by kernel_rfl
theorem own_init:classOwn (.type "list") "__init__"=pure (some (.builtin "list.__init__")):=by kernel_rfl
theorem wd_len:typeOf (.builtin "list.__len__")=pure (.type "wrapper_descriptor"):=by show builtinType _=_;rw [builtinType_eq_fast];kernel_rfl
theorem wd_init:typeOf (.builtin "list.__init__")=pure (.type "wrapper_descriptor"):=by show builtinType _=_;rw [builtinType_eq_fast];kernel_rfl
theorem slot_wd_get:Slot "wrapper_descriptor" "__get__" "wrapper_descriptor.__get__":=.of (owner:="wrapper_descriptor") (n:="__get__") (by rw [typeLookup_type,builtinLookup_eq_fast];kernel_rfl) (by decide +kernel) (by decide +kernel) (by decide +kernel)
 (by first | exact .inl (by decide +kernel) | exact .inr (by decide +kernel)) (by rw [isSubtype_type];kernel_rfl)
theorem entry_wd_get:entryFor table "wrapper_descriptor.__get__"=some Builtin.«wrapper_descriptor.__get__»:=entryFor_of_tree (by kernel_rfl)
theorem args_wd_get (a b c:Value):argsOk "wrapper_descriptor.__get__" ⟨[a,b,c],[]⟩:=by unfold argsOk;kernel_rfl
set_option tactic.hygienic true
section
variable {w:World}{A:Around}{E:Value→Shared→Prop}{h:Heap}{g:Array GenState}{d:Drawn}{t:Nat}{os:OsState}{x D:Addr}{vs:List Value}
set_option tactic.hygienic false
theorem notOpaque_acc {what how:String}{Q:Unit→Shared→Prop}(T:TopIn w.params h)(hq:Q () ⟨h,g,d,t,os⟩):wpAny (model Pr w) A (notOfAnOpaqueClass what how (.ref 100)) Q E ⟨h,g,d,t,os⟩:=by
 unfold notOfAnOpaqueClass opaqueClassAbove anyOpaqueLoaded
 refine wpAny_bind ?_
 show wpAny _ _ ((nsGet cStatics ("thirdparty.any":Str)>>=fun r=>pure r.isSome)>>=fun b=>if (!b)=true then pure none else _) _ _ _
 refine wpAny_bind (wpAny_bind (wpAny_nsGet T.ns2 ?_))
 rw [no_third]
 refine wpAny_pure ?_
 refine wIfP (by decide) ?_
 exact wpAny_pure (wpAny_pure hq)
theorem wdGet_acc {id n:String}{Q:Value→Shared→Prop}(T:TopIn w.params h)(X:AccAt h x vs D)(ty:typeOf (.builtin id)=pure (.type "wrapper_descriptor"))(hs:(".".intercalate (id.cutAt '.').dropLast)="list")
  (hq:Q (.ref h.objs.size) ⟨h.push {cls:=.type "method-wrapper",data:=.fields #[.builtin id,.ref x]},g,d,t,os⟩) :
  wpAny (model Pr w) A (call (.builtin "wrapper_descriptor.__get__") [.builtin id,.ref x,.ref 100]) Q E ⟨h,g,d,t,os⟩:=by
 refine wpAny_call_entry slot_wd_get (show Shared.TypeIs _ (.builtin id) "wrapper_descriptor" from ty) entry_wd_get ?_ (args_wd_get _ _ _)
 unfold Builtin.«wrapper_descriptor.__get__»
 have e:(".".intercalate (id.cutAt '.').dropLast,(id.cutAt '.').getLastD "")=("list",(id.cutAt '.').getLastD ""):=by rw [hs]
 refine wpAny_bind (wpAny_pure ?_)
 show wpAny _ _ ((isInstance (.ref x) (.type (".".intercalate (id.cutAt '.').dropLast))>>=_)>>=_) _ _ _
 rw [hs]
 have hc:(Value.ref 100::[.type "list",.type "object"]).contains (.type "list")=true:=by decide
 refine wpAny_bind (wpAny_bind (inst_acc T X ?_))
 rw [hc]
 refine wIfN (by decide) ?_
 refine wpAny_pure ?_
 unfold newFields
 refine wpAny_bind (wpAny_newObj_type ?_ (by size_fits))
 exact wpAny_pure ⟨_,rfl,hq⟩
theorem super_ga_acc {so:Addr}{name:Str}{id:String}{tk:Tok}{Q:Fin→Shared→Prop}(T:TopIn w.params h)(X:AccAt h x vs D)
  (hso:h.get? so=some {cls:=.type "super",dict:=none,data:=.fields #[.ref 100,.ref x,.ref 100],slots:=#[]}) (hn:(name==("__class__":Str))=false)
  (ho:classOwn (.type "list") name=pure (some (.builtin id))) (ty:typeOf (.builtin id)=pure (.type "wrapper_descriptor")) (hs:(".".intercalate (id.cutAt '.').dropLast)="list") (hx:x≠100)
  (hq:Q (.done (.ret (.ref h.objs.size))) ⟨h.push {cls:=.type "method-wrapper",data:=.fields #[.builtin id,.ref x]},g,d,t,os⟩) :
  wpAny (model Pr w) A (Builtin.«super.__getattribute__» ⟨[.ref so,.str name tk],[]⟩) Q E ⟨h,g,d,t,os⟩:=by
 have hne:(Value.ref x==Value.ref 100)=false:=by simp [hx]
 have hdt:({cls:=.type "super",dict:=none,data:=.fields #[.ref 100,.ref x,.ref 100],slots:=#[]}:Obj).data=.fields #[.ref 100,.ref x,.ref 100]:=rfl
 have f0:(#[.ref 100,.ref x,.ref 100]:Array Value)[0]?=some (.ref 100):=rfl
 have f1:(#[.ref 100,.ref x,.ref 100]:Array Value)[1]?=some (.ref x):=rfl
 have f2:(#[.ref 100,.ref x,.ref 100]:Array Value)[2]?=some (.ref 100):=rfl
 have hd:((([Value.ref 100,.type "list",.type "object"]:List Value).dropWhile (· != .ref 100)).drop 1)=[.type "list",.type "object"]:=by decide
 unfold Builtin.«super.__getattribute__»
 repeat (first
  | (with_reducible refine wpAny_field hso hdt f0 ?_) | (with_reducible refine wpAny_field hso hdt f1 ?_) | (with_reducible refine wpAny_field hso hdt f2 ?_)
  | (with_reducible refine notOpaque_acc T ?_)
  | (with_reducible refine wpAny_mroOf_exc T.cls ?_;rw [hd])
  | (simp only [hn,hne,Bool.or_false,Bool.false_eq_true,if_false])
  | wp_step
  | dsimp only)
 refine wpAny_of_eq slot_wd_get.lookup ?_
 dsimp only
 refine wpAny_bind (wpAny_holding (wdGet_acc (n:="") T X ty hs ?_))
 repeat wp_step
 exact hq
theorem super_meth_acc {so:Addr}{name:Str}{id:String}{pl:Sem Bool}{Q:Value × List Value→Shared→Prop}(T:TopIn w.params h)(X:AccAt h x vs D)
  (hso:h.get? so=some {cls:=.type "super",dict:=none,data:=.fields #[.ref 100,.ref x,.ref 100],slots:=#[]}) (hn:(name==("__class__":Str))=false)
  (ho:classOwn (.type "list") name=pure (some (.builtin id))) (ty:typeOf (.builtin id)=pure (.type "wrapper_descriptor")) (hs:(".".intercalate (id.cutAt '.').dropLast)="list") (hx:x≠100)
  (hq:Q (.ref h.objs.size,[]) ⟨h.push {cls:=.type "method-wrapper",data:=.fields #[.builtin id,.ref x]},g,d,t+1,os⟩):wpAny (model Pr w) A (getMethod (.ref so) name pl) Q E ⟨h,g,d,t,os⟩:=by
 have hlk:=F.ks_slot_super_ga.lookup
 have hcan:=F.ks_canon_super_ga
 have hT:∀ t',(⟨h,g,d,t',os⟩:Shared).TypeIs (.ref so) "super":=fun _=>⟨_,hso,rfl⟩
 unfold getMethod
 refine wpAny_bind (wpAny_specialOf (hT _) hlk ?_)
 show wpAny _ _ (if (Manifest.canonical "super.__getattribute__" != "object.__getattribute__")=true then _ else _) _ _ _
 refine wIfP hcan ?_
 unfold getAttr getAttrBy
 refine wpAny_bind (wpAny_bind (wpAny_mkText (wpAny_holding (wpAny_bind (wpAny_typeOf (hT _) (wpAny_bind (wpAny_of_eq hlk ?_)))))))
 show wpAny _ _ (getAttrByItsOwn (.ref so) (.str name t) (.type "super") (.builtin "super.__getattribute__") true false) _ _ _
 unfold getAttrByItsOwn hookBefore callGetattribute boundAndCalled
 refine wpAny_bind (wpAny_of_eq (show (if onTheHeap (.type "super") then typeLookup (.type "super") "__getattr__" else pure none)=pure none from rfl) ?_)
 refine wpAny_bind (wpAny_attempt (wpAny_holding ?_))
 show wpAny _ _ (bindSpecial (.builtin "super.__getattribute__") (.ref so)>>=_) _ _ _
 refine wpAny_bind (wpAny_of_eq (F.ks_slot_super_ga.bind _) ?_)
 refine wpAny_mono (Q:=fun v s'=>v=.ref h.objs.size∧s'=⟨h.push {cls:=.type "method-wrapper",data:=.fields #[.builtin id,.ref x]},g,d,t+1,os⟩) (E:=fun _ _=>False)
  (wpAny_call_entry F.ks_slot_super_ga (hT _) F.ks_entry_super_ga (super_ga_acc T X hso hn ho ty hs hx ⟨_,rfl,rfl,rfl⟩) (F.ks_gaArgs_super _ _)) (fun v s' hv=>?_) fun _ _ z=>z.elim
 refine x0_1 hv fun hq0 hq1=>?_;subst hq0;subst hq1
 exact wpAny_pure (wpAny_pure hq)
theorem mw_call {mw:Addr}{id:String}{b:Builtin}{args:List Value}{Q:Value→Shared→Prop}{s:Shared}(hb:s.heap.get? mw=some {cls:=.type "method-wrapper",data:=.fields #[.builtin id,.ref x]})
  (hk:builtinKind id=some .slot) (ha:argsOk id ⟨.ref x::args,[]⟩) (hp:plainId id=true) (he:entryFor table id=some b)
  (h:wpAny (model Pr w) A.in1 (b ⟨.ref x::args,[]⟩) (fun fin s'=>∃ v,fin=.done (.ret v)∧Q v s') E s):wpAny (model Pr w) A (call (.ref mw) args) Q E s:=by
 refine wpAny_call (codeAny_of_tree ?_)
 show wpAny _ A.in1 (callAny (.ref mw) ⟨args,[]⟩) _ _ _
 unfold callAny
 refine wpAny_bind (wpAny_load hb ?_)
 show wpAny _ _ (checkBoundCall id ⟨.ref x::args,[]⟩>>=fun _=>again (.builtin id ⟨.ref x::args,[]⟩)) _ _ _
 have go:wpAny (model Pr w) A.in1 (again (.builtin id ⟨.ref x::args,[]⟩)) (fun fin s'=>match fin with | .done f=>wants Q E (.ok f) s' | .again c'=>c'.quiet=true∧codeAny (model Pr w) A c' (wants Q E) s') (fun e s'=>wants Q E (.error e) s') s:=by
  refine wpAny_pure ⟨plainId_quiet hp _,codeAny_builtin he ?_⟩
  rw [Around.under_plainId hp _]
  refine wpAny_mono h (fun fin s' h'=>?_) fun _ _ e=>e
  refine x1_1 h' fun v hq1 hv=>?_;subst hq1
  exact hv
 refine wpAny_bind ?_
 unfold checkBoundCall
 induction hsig:Manifest.signature? id using Option.casesOn with
 | none=>exact wpAny_pure go
 | some sig=>
  simp only [argsOk,hsig] at ha
  have h2:Bind.checkArgs id sig ⟨.ref x::args,[]⟩=pure ():=ha
  simp only [hk]
  refine wEqM (h2) ?_
  exact wpAny_pure go
set_option tactic.hygienic true
end
set_option tactic.hygienic false
section
variable {w:World}{A:Around}{E:Value→Shared→Prop}{s:Shared}
theorem enterAt_acc {a c:Addr}{o oc:Obj}{fd:FuncData}{body:List Stmt}{us:List Value}{binds:List (Str × Value)}{Q:Value→Shared→Prop}(T:TopIn w.params s.heap)(hl:s.heap.NoLimit)(hd:A.depth < 1000)
  (h1:(Hf w.params).get? a=some o) (h2:o.data=.func fd) (h3:fd.code=.ref c) (h4:(Hf w.params).get? c=some oc) (h5:recN oc fd.qualname=true) (h6:(a != 62&&a != 69&&c != 62&&c != 69)=true)
  (hb:fd.body=.stmts body) (hbind:BindsTo s fd ⟨us,[]⟩ binds) (hcell:(fd.scope.names.all fun x=>x.2 != .cell)=true) (hloc:(binds.map (·.1)).all (fun x=>fd.scope.names.lookup x==some .local)=true)
  (hco:(fd.scope.kind==.function&&fd.scope.isCoroutine==false&&fd.scope.isGenerator==false)=true)
  (k:∀ E' h₀,h₀.Ns s.heap.objs.size (fun x=>binds.reverse.lookup x)→(∀ b o,s.heap.get? b=some o→h₀.get? b=some o) →
   PySem.wpAt (model Pr w) (A.deeper (callEnv fd s.heap.objs.size a)) (.func body (callEnv fd s.heap.objs.size a)) (execs body (callEnv fd s.heap.objs.size a)) (fun f s'=>Q (match f with | .ret v=>v | _=>.none) s') E' {s with heap:=h₀,toks:=s.toks+binds.length}) :
  wpAny (model Pr w) A (call (.ref a) us) Q E s:=by
 simp only [Bool.and_eq_true,bne_iff_ne,beq_iff_eq] at h6 hco
 refine x2_1 (recN_ok h5) fun vs t e1 e2=>?_
 refine wpAny_call (ks_codeAny_call_defAt (fd:=fd) (body:=body) (binds:=binds) hd (T a o h1 h6.1.1.1 h6.1.1.2) h2 hl ⟨c,oc,vs,t,h3,T c oc h4 h6.1.2 h6.2,e1,e2⟩ hb hbind ?_ ?_ (fun h₀ n k₀=>k _ h₀ n k₀) hco.1.2 hco.2 hco.1.1)
 ·intro x hx e
  have:=List.all_eq_true.1 hcell x hx
  rw [e] at this;exact ftC this
 ·intro x hx
  have:=List.all_eq_true.1 hloc x.1 (List.mem_map_of_mem hx)
  exact beq_iff_eq.1 this
theorem mCallAt {c:Code}{env:Env}{o:Expr}{name:Str}{apos pos:Pos}{args:List Expr}{Q:Value→Shared→Prop}
  (hfew:((backTo pos (starEach args env)).all (fun x=>!x.1)&&(backToKw pos (keywordEach [] env)).all (fun x=>x.1.isSome)
   && decide (args.length+([]:List Keyword).length+(if ([]:List Keyword).isEmpty then 0 else 1) < 30))=true)
  (hline:(apos.endLine==pos.line)=true)
  (h:PySem.wpAt (model Pr w) A c (attributeBase o name env (eval o env)) (fun ov s₁=>∀ pl,wpAny (model Pr w) A (getMethod ov name pl) (fun fx s₂=>wpAny (model Pr w) A (callWith pos fx.1 fx.2 (backTo pos (starEach args env)) []) Q E s₂) E s₁) E s) :
  PySem.wpAt (model Pr w) A c (eval (.Call (.Attribute o name apos) args [] pos) env) Q E s:=by
 rw [arm_eval_Call]
 refine PySem.wpAt_bind (PySem.wpAt_mono h (fun ov s₁ h₁=>PySem.wpAt_of_wpAny ?_) fun _ _ e=>e)
 refine wpAny_bind (wpAny_standAt ?_)
 have hform:methodCallForm (args.length+([]:List Keyword).length) (backTo pos (starEach args env)) (backToKw pos (keywordEach [] env))=true:=hfew
 have hpos:methodCallPos true o env apos pos=pure pos:=by unfold methodCallPos;simp [hline]
 unfold methodCall
 rw [hform]
 refine wpAny_bind (wpAny_holding (wpAny_mono (h₁ _) (fun fx s₂ h₂=>?_) fun _ _ e=>e))
 exact wpAny_bind (wpAny_of_eq hpos h₂)
theorem withMW {mw : Addr} {x : Addr} {id : String} {pos : Pos} {env : Env} {Q : Value → Shared → Prop} (hb : s.heap.get? mw = some { cls := .type "method-wrapper", data := .fields #[.builtin id, .ref x] })
    (h : wpAny (model Pr w) A (call (.ref mw) []) Q E s) : wpAny (model Pr w) A (callWith pos (.ref mw) [] (backTo pos (starEach [] env)) []) Q E s := by
  unfold callWith
  refine wpAny_bind (wpAny_holding (PyProof.Rows.evalArgs_none ?_))
  refine wpAny_bind (wpAny_standAt ?_)
  unfold keeperOf
  refine wpAny_bind (wpAny_bind (wpAny_load hb ?_))
  refine wpAny_pure ?_
  show wpAny _ _ (call (.ref mw) [] >>= fun r => do holding [r] point; pure r) _ _ _
  exact wpAny_bind (wpAny_mono h (fun r s' hr => wpAny_bind (wpAny_holding (wpAny_point (wpAny_pure hr)))) fun _ _ x => x)
end
theorem body97:∃ a1 a2 a3 a4 a5,fBody (cb 8)=[.Return (some (.Call (.Attribute (.Call (.Name (Str.ofString "super") a1) [] [] a2) (Str.ofString "__len__") a3) [] [] a4)) a5]∧(a3.endLine==a4.line)=true:=⟨_,_,_,_,_,rfl,by kernel_rfl!⟩
@[elab_as_elim] theorem body97_el {C:List Stmt→Prop}(k:∀ a1 a2 a3 a4 a5,(a3.endLine==a4.line)=true→C ([.Return (some (.Call (.Attribute (.Call (.Name (Str.ofString "super") a1) [] [] a2) (Str.ofString "__len__") a3) [] [] a4)) a5])):C (fBody (cb 8)):=by
 refine x5_1 body97 fun a1 a2 a3 a4 a5 e h0=>?_
 rw [e];exact k _ _ _ _ _ h0
noncomputable def fd97 (P:Params):FuncData:=acFn ⟨⟨[112,97,114,116,95,99,111,117,110,116]⟩⟩ ⟨⟨[95,65,99,99,117,109,117,108,97,116,111,114,46,112,97,114,116,95,99,111,117,110,116]⟩⟩ 8 [(⟨⟨[95,95,99,108,97,115,115,95,95]⟩⟩,25)] .none (.str ⟨⟨[99,112,121,51,49,51,46,101,109,97,105,108,46,104,101,97,100,101,114]⟩⟩ 194) (.ref 96) (.ref 90)
theorem dat97 (P:Params):(o97 P).data=.func (fd97 P):=by kernel_rfl!
theorem bind97 (P:Params)(a:Value):bindArgs (fd97 P) ⟨[a],[]⟩=pure [(Str.ofString "self",a)]:=by kernel_rfl!
noncomputable def namesM (P:Params)(a:Nat):Str→Option Value:=fun x=>nsFind (dictOf (objAt P a)) x
theorem TopIn.nsAt {P:Params}{h:Heap}(T:TopIn P h){a:Nat}(h1:a≠62)(h2:a≠69)(n:(Hf P).Ns a (namesM P a)):h.Ns a (namesM P a):=by
 refine x3_2 n fun o es ep e d r=>?_
 exact ⟨o,es,ep,T a o e h1 h2,d,r⟩
theorem sup_gl (P:Params):namesM P 3 "super"=none:=by kernel_rfl!
theorem sup_bl (P:Params):namesM P 0 "super"=some (.type "super"):=by kernel_rfl!
theorem TopIn.nolimit {P:Params}{h:Heap}(T:TopIn P h):h.NoLimit:=⟨_,T.ns2,by rw [ns2l]⟩
section
variable {w:World}{A:Around}{E:Value→Shared→Prop}{s:Shared}{x D:Addr}{vs:List Value}
noncomputable def fileB (o:Obj):Bool:=match o.data with | .fields vs=>(match (vs[2]?:Option Value) with | some (Value.str f _)=>((Pr.main.file:Str)==f) | _=>false) | _=>false
set_option tactic.hygienic true in
theorem fileB_ok {o:Obj}(h:fileB o=true):∃ vs f t,o.data=.fields vs∧vs[2]?=some (.str f t)∧((Pr.main.file:Str)==f)=true:=by
 unfold fileB at h
 split at h
 next vs e=>
  split at h
  next f t e2=>exact ⟨vs,f,t,e,e2,h⟩
  next=>exact ftC h
 next=>exact ftC h
theorem super_acc {fd:FuncData}{L f cc:Addr}{of oc:Obj}{body:List Stmt}{p0 p1:Pos}{attr:Str}{whole:Sem Value}{m:Str→Option Value}{Q:Value→Shared→Prop}
  (T:TopIn w.params s.heap) (X:AccAt s.heap x vs D) (hg:fd.globals=3) (hb:fd.builtins=0) (hkd:fd.scope.kind=.function)
  (hks:fd.scope.names.lookup (Str.ofString "super")=some .globalImplicit) (hkc:fd.scope.names.lookup (Str.ofString "__class__")=some .free) (hkf:fd.scope.names.lookup (Str.ofString "self")=some .local) (hcl:(fd.closure.lookup (Str.ofString "__class__"))=some 25) (hat:(attr==("__class__":Str))=false)
  (hf:s.heap.get? f=some of) (hfd:of.data=.func fd) (hp:((fd.params.posonlyargs++fd.params.args).head?.map (·.arg))=some (Str.ofString "self")) (hco:fd.code=.ref cc) (hcc:s.heap.get? cc=some oc) (hfl:fileB oc=true) (n:s.heap.Ns L m) (hm:m (Str.ofString "self")=some (.ref x))
  (h:∀ h' so,h'.get? so=some {cls:=.type "super",dict:=none,data:=.fields #[.ref 100,.ref x,.ref 100],slots:=#[]}→(∀ y o,s.heap.get? y=some o→h'.get? y=some o)→Q (.ref so) {s with heap:=h'}) :
  PySem.wpAt (model Pr w) A (.func body (callEnv fd L f)) (attributeBase (.Call (.Name "super" p0) [] [] p1) attr (callEnv fd L f) whole) Q E s:=by
 refine mapE1 hp fun ar e1 e2=>?_
 refine x3_2 (fileB_ok hfl) fun ws file tf hoc hvs hfile=>?_
 refine ks_wpAt_super_base (env:=callEnv fd L f) hks hkc hat rfl hf hfd e1 hco hcc hoc hvs hfile (by kernel_rfl!) ?_
 have n3:s.heap.Ns (callEnv fd L f).globals (namesM w.params 3):=by rw [show (callEnv fd L f).globals=3 from hg];exact T.nsAt (by decide) (by decide) (ns3 _)
 have n0:s.heap.Ns (callEnv fd L f).builtins (namesM w.params 0):=by rw [show (callEnv fd L f).builtins=0 from hb];exact T.nsAt (by decide) (by decide) (ns0 _)
 refine ks_loadName_global hkd hks (loadGlobal_builtin (env:=callEnv fd L f) n3 (sup_gl _) n0 (sup_bl _) ⟨rfl,?_⟩)
 refine wpAny_loadName_free hkd hkc hcl ⟨o25 w.params,T 25 _ (by kernel_rfl!) (by decide) (by decide),rfl⟩ ?_
 refine wpAny_loadName_local hkd (by rw [e2];exact hkf) n (by rw [e2];exact hm) ?_
 refine x2_0 (id X) fun k sl ex=>?_
 refine ks_wpAny_isType_cls T.cls rfl ⟨rfl,?_⟩
 obtain ⟨hh,g,d,t,os⟩:=s
 refine ks_wpAny_call_super T.cls rfl ex rfl (by simp) ?_ (fun h' e k=>h h' _ e k)
 intro A' Q' E' s' k q
 refine wpAny_isSubtype_exc (T.keeps k).cls ?_
 exact q
theorem len_ac {Q : Value → Shared → Prop} {mw : Addr} (X : AccAt s.heap x vs D) (hb : s.heap.get? mw = some { cls := .type "method-wrapper", data := .fields #[.builtin "list.__len__", .ref x] }) (hsz : vs.length ≤ sizeLine)
    (h : ∀ tk, Q (.int vs.length s.toks) { s with toks := tk }) : wpAny (model Pr w) A (call (.ref mw) []) Q E s := by
  refine mw_call hb (by kernel_rfl!) (args_list_len _) (by decide +kernel) entry_list_len ?_
  refine x2_0 X fun k sl ex => ?_
  show wpAny _ _ (do retInt (← seqSize x)) _ _ s
  unfold seqSize
  refine wpAny_bind (wpAny_bind (wpAny_load ex ?_))
  exact wpAny_pure (wpAny_bind (wpAny_mkInt (wpAny_pure ⟨_, rfl, h _⟩)))
theorem count_ok {Q:Value→Shared→Prop}(T:TopIn w.params s.heap)(hd:A.depth < 1000)(X:AccAt s.heap x vs D)(hsz:vs.length≤sizeLine)
  (k:∀ h' tk t,(∀ b o,s.heap.get? b=some o→h'.get? b=some o)→Q (.int vs.length t) {s with heap:=h',toks:=tk}):wpAny (model Pr w) A (call (.ref 97) [.ref x]) Q E s:=by
 refine enterAt_acc (o:=o97 w.params) (oc:=o96 w.params) (fd:=fd97 w.params) T T.nolimit hd (by kernel_rfl!) (dat97 _) rfl (by kernel_rfl!) (by kernel_rfl!) (by decide) rfl (BindsTo.of_eq (bind97 _ _)) (by kernel_rfl!) (by kernel_rfl!) (by kernel_rfl!) fun E' h₀ n k₀=>?_
 have T₀:=T.keeps k₀
 have X₀:AccAt h₀ x vs D:=X.keeps k₀
 refine body97_el fun a1 a2 a3 a4 a5 hline=>?_
 refine ks_wpAt_execs_cons (ks_wpAt_Return_some (mCallAt rfl hline ?_))
 refine super_acc (fd:=fd97 w.params) (of:=o97 w.params) (oc:=o96 w.params) (cc:=96) T₀ X₀ rfl rfl (by kernel_rfl!) (by kernel_rfl!) (by kernel_rfl!) (by kernel_rfl!) (by kernel_rfl!) (by kernel_rfl!) (T₀ 97 _ (by kernel_rfl!) (by decide) (by decide)) (dat97 _) (by kernel_rfl!) rfl
  (T₀ 96 _ (by kernel_rfl!) (by decide) (by decide)) (by kernel_rfl!) n (by kernel_rfl!) (fun h₁ so e₁ k₁ pl=>?_)
 have K₁:∀ b o,h₀.get? b=some o→h₁.get? b=some o:=k₁
 refine super_meth_acc (T₀.keeps K₁) (X₀.keeps K₁) e₁ (by kernel_rfl!) own_len wd_len (by decide +kernel) ?_ ?_
 ·rintro rfl
  refine x2_0 X fun q sl e=>?_
  rw [T.cls] at e;cases e
 ·have hb:(h₁.push {cls:=.type "method-wrapper",data:=.fields #[.builtin "list.__len__",.ref x]}).get? h₁.objs.size=some {cls:=.type "method-wrapper",data:=.fields #[.builtin "list.__len__",.ref x]}:=Heap.get?_push_size _ rfl
  have K₂:∀ b o,h₀.get? b=some o→(h₁.push {cls:=.type "method-wrapper",data:=.fields #[.builtin "list.__len__",.ref x]}).get? b=some o:=fun b o e=>Heap.get?_push_of_some _ (K₁ _ _ e)
  refine withMW hb (len_ac (X₀.keeps K₂) hb hsz fun tk=>?_)
  exact k _ _ _ fun b o e=>K₂ _ _ (k₀ _ _ e)
end
set_option tactic.hygienic false
theorem storeL:StoreFacts "list" [.type "list",.type "object"] "object.__setattr__" "object" where
 mro:=F.mro_list
 slot:=.of (owner:="object") (n:="__setattr__") lk_setattr (by decide +kernel) (by decide +kernel) (by decide +kernel) (by first | exact .inl (by decide +kernel) | exact .inr (by decide +kernel)) (by rw [isSubtype_type];kernel_rfl)
 entry:=entryFor_of_tree (by kernel_rfl)
 kind:=by decide +kernel
 split:=by decide +kernel
 hasOwner:=by decide
 args:=fun a b c=>by unfold argsOk;kernel_rfl
 passes:=fun self=>by kernel_rfl!
theorem body38:∃ a1 a2 a3 a4 b1 b2 b3 b4 b5,fBody (cb 0)=[.Assign [.Attribute (.Name (Str.ofString "self") a1) (Str.ofString "_initial_size") a2] (.Name (Str.ofString "initial_size") a3) a4,
 .Expr (.Call (.Attribute (.Call (.Name (Str.ofString "super") b1) [] [] b2) (Str.ofString "__init__") b3) [] [] b4) b5]∧(b3.endLine==b4.line)=true:=⟨_,_,_,_,_,_,_,_,_,rfl,by kernel_rfl!⟩
@[elab_as_elim] theorem body38_el {C:List Stmt→Prop}(k:∀ a1 a2 a3 a4 b1 b2 b3 b4 b5,(b3.endLine==b4.line)=true→C ([.Assign [.Attribute (.Name (Str.ofString "self") a1) (Str.ofString "_initial_size") a2] (.Name (Str.ofString "initial_size") a3) a4,
 .Expr (.Call (.Attribute (.Call (.Name (Str.ofString "super") b1) [] [] b2) (Str.ofString "__init__") b3) [] [] b4) b5])):C (fBody (cb 0)):=by
 refine x9_1 body38 fun a1 a2 a3 a4 b1 b2 b3 b4 b5 e h0=>?_
 rw [e];exact k _ _ _ _ _ _ _ _ _ h0
set_option tactic.hygienic true
noncomputable def fd38 (P:Params):FuncData:=acFn ⟨⟨[95,95,105,110,105,116,95,95]⟩⟩ ⟨⟨[95,65,99,99,117,109,117,108,97,116,111,114,46,95,95,105,110,105,116,95,95]⟩⟩ 0 [(⟨⟨[95,95,99,108,97,115,115,95,95]⟩⟩,25)] (.ref 30) (.str ⟨⟨[99,112,121,51,49,51,46,101,109,97,105,108,46,104,101,97,100,101,114]⟩⟩ 194) (.ref 37) (.ref 31)
set_option tactic.hygienic false
theorem dat38 (P:Params):(o38 P).data=.func (fd38 P):=by kernel_rfl!
set_option tactic.hygienic true
section
variable {s:Shared}
set_option tactic.hygienic false
theorem binds38 {P:Params}(T:TopIn P s.heap)(a b:Value):BindsTo s (fd38 P) ⟨[a,b],[]⟩ [(Str.ofString "self",a),(Str.ofString "initial_size",b)]:=
 BindsTo.of_defaults (T:=30) (o:=o30 P) (items:=⟨[.int 0 210]⟩) rfl (T 30 _ (by kernel_rfl!) (by decide) (by decide)) rfl rfl (by kernel_rfl!)
set_option tactic.hygienic true
end
section
variable {w:World}{A:Around}{E:Value→Shared→Prop}{s:Shared}{x D:Addr}
set_option tactic.hygienic false
theorem init_mw {mw : Addr} {Q : Value → Shared → Prop} (X : AccAt s.heap x [] D) (hb : s.heap.get? mw = some { cls := .type "method-wrapper", data := .fields #[.builtin "list.__init__", .ref x] })
    (h : ∀ h', Heap.SameBut x s.heap h' → AccAt h' x [] D → Q .none { s with heap := h' }) : wpAny (model Pr w) A (call (.ref mw) []) Q E s := by
  refine mw_call hb (by kernel_rfl!) (F.args_list_init_1 _) (by decide +kernel) F.entry_list_init ?_
  obtain ⟨k, sl, ex⟩ := X
  show wpAny _ _ (do let old ← Builtin.List.listItems (.ref x); Builtin.List.listUpdate (.ref x) (fun _ => #[]); letGo old.toList.reverse; ret .none) _ _ s
  unfold Builtin.List.listItems Builtin.List.listUpdate
  refine wpAny_bind (wpAny_bind (wpAny_seqItems ex rfl (wpAny_pure ?_)))
  refine wpAny_bind (wpAny_updateSeq ex rfl ?_)
  exact wpAny_bind (wpAny_letGo (wpAny_pure ⟨_, rfl, h _ (Heap.SameBut.update ..) (acc_upd ex rfl)⟩))
theorem init_ok {i:Int}{t:Tok}{Q:Value→Shared→Prop}(T:TopIn w.params s.heap)(hd:A.depth < 1000)(X:AccAt s.heap x [] D)(I:s.heap.Inst x 100 fun _=>none)(hap:∀ a o,(Hf w.params).get? a=some o→a≠62→a≠69→a≠x∧a≠D)
  (k:∀ h' tk,(∀ b o,b≠x→b≠D→s.heap.get? b=some o→h'.get? b=some o)→AccAt h' x [] D→h'.Ns D (fun y=>if y=Str.ofString "_initial_size" then some (.int i t) else none)→(∃ oD,h'.get? D=some oD∧IsD oD)→Q .none {s with heap:=h',toks:=tk}) :
  wpAny (model Pr w) A (call (.ref 38) [.ref x,.int i t]) Q E s:=by
 refine enterAt_acc (o:=o38 w.params) (oc:=o37 w.params) (fd:=fd38 w.params) T T.nolimit hd (by kernel_rfl!) (dat38 _) rfl (by kernel_rfl!) (by kernel_rfl!) (by decide) rfl (binds38 T _ _) (by kernel_rfl!) (by kernel_rfl!) (by kernel_rfl!) fun E' h₀ n k₀=>?_
 have T₀:=T.keeps k₀
 have X₀:AccAt h₀ x [] D:=X.keeps k₀
 refine body38_el fun a1 a2 a3 a4 b1 b2 b3 b4 b5 hline=>?_
 have I₀:h₀.Inst x 100 fun _=>none:=I.keeps k₀
 have hx100:x≠100:=fun e=>(hap 100 _ (hf100 _) (by decide) (by decide)).1 e.symm
 have hLx:s.heap.objs.size≠x:=by obtain ⟨_,_,e⟩:=X;exact (Nat.ne_of_lt (Heap.lt_size e)).symm
 have hLD:s.heap.objs.size≠D:=by
  obtain ⟨o,e1,_,_,e4⟩:=id I
  obtain ⟨q,sl,e⟩:=id X
  cases someI e e1
  rcases e4 with ⟨h,_⟩ | ⟨d,h,_,h3⟩
  ·kt_eqs
  ·kt_eqs
   exact (Nat.ne_of_lt h3.lt).symm
 refine ks_wpAt_execs_cons (ks_wpAt_Assign_Attr (PySem.wpAt_of_wpAny (nameL (.int i t) n (by kernel_rfl!) (by kernel_rfl!) (by kernel_rfl!) (by kernel_rfl!) (nameL (.ref x) n (by kernel_rfl!) (by kernel_rfl!) (by kernel_rfl!) (by kernel_rfl!) ?_))) (by rfl))
 refine store_attr storeL T₀.cls T₀.ns (accM_no _ (by simp)) (accM_no _ (by simp)) lk_isz hx100 I₀ (fun h₁ tk₁ I₁ k₁ same=>?_)
 obtain ⟨q₀,sl₀,ex₀⟩:=id X₀
 have K₁:∀ b o,b≠x→b≠D→h₀.get? b=some o→h₁.get? b=some o:=fun b o hb hd e=>k₁ b o hb (fun o₀ dx e1 e2=>by cases someI ex₀ e1;refine someE e2 ?_;exact hd) e
 have T₁:TopIn w.params h₁:=fun a o e h1 h2=>K₁ a o (hap a o e h1 h2).1 (hap a o e h1 h2).2 (T₀ a o e h1 h2)
 obtain ⟨o₁,ex₁,c1,d1,s1,e1⟩:=same _ ex₀
 have X₁:AccAt h₁ x [] D:=⟨q₀,sl₀,by
  rw [ex₁]
  obtain ⟨oc,od,odt,osl⟩:=o₁
  have:=e1 D rfl
  simp only at c1 d1 s1 this
  rw [c1,d1,s1,this]⟩
 have nL₁:=n.at' fun o e=>K₁ _ _ hLx hLD e
 refine ks_wpAt_execs_cons (ks_wpAt_Expr_any (mCallAt rfl hline ?_) (by kernel_rfl!) (by rfl))
 refine super_acc (fd:=fd38 w.params) (of:=o38 w.params) (oc:=o37 w.params) (cc:=37) T₁ X₁ rfl rfl (by kernel_rfl!) (by kernel_rfl!) (by kernel_rfl!) (by kernel_rfl!) (by kernel_rfl!) (by kernel_rfl!) (T₁ 38 _ (by kernel_rfl!) (by decide) (by decide)) (dat38 _) (by kernel_rfl!) rfl
  (T₁ 37 _ (by kernel_rfl!) (by decide) (by decide)) (by kernel_rfl!) nL₁ (by kernel_rfl!) (fun h₂ so e₂ k₂ pl=>?_)
 have K₂:∀ b o,h₁.get? b=some o→h₂.get? b=some o:=k₂
 refine super_meth_acc (T₁.keeps K₂) (X₁.keeps K₂) e₂ (by kernel_rfl!) own_init wd_init (by decide +kernel) hx100 ?_
 have hb:(h₂.push {cls:=.type "method-wrapper",data:=.fields #[.builtin "list.__init__",.ref x]}).get? h₂.objs.size=some {cls:=.type "method-wrapper",data:=.fields #[.builtin "list.__init__",.ref x]}:=Heap.get?_push_size _ rfl
 have K₃:∀ b o,h₁.get? b=some o→(h₂.push {cls:=.type "method-wrapper",data:=.fields #[.builtin "list.__init__",.ref x]}).get? b=some o:=fun b o e=>Heap.get?_push_of_some _ (K₂ _ _ e)
 refine withMW hb (init_mw (X₁.keeps K₃) hb fun h₄ s₄ X₄=>?_)
 refine PySem.wpAt_of_wpAny (wpAny_execs_nil ?_)
 have K₄:∀ b o,b≠x→h₁.get? b=some o→h₄.get? b=some o:=fun b o hb e=>(s₄.2 b hb).trans (K₃ b o e)
 obtain ⟨oI,exI,_,_,hI⟩:=I₁
 have hdx:D≠x∧h₁.Ns1 D (fun y=>if y=Str.ofString "_initial_size" then some (.int i t) else none):=by
  obtain ⟨_,_,e⟩:=X₁
  cases someI e exI
  rcases hI with ⟨h,_⟩ | ⟨d,h,h2,h3⟩
  ·kt_eqs
  ·kt_eqs;exact ⟨h2,h3⟩
 have n4:h₄.Ns1 D (fun y=>if y=Str.ofString "_initial_size" then some (.int i t) else none):=hdx.2.at fun o e=>K₄ _ _ hdx.1 e
 refine k h₄ _ (fun b o hb hd e=>K₄ b o hb (K₁ b o hb hd (k₀ b o e))) X₄ n4.ns ?_
 obtain ⟨o,es,ep,e,d,_⟩:=n4
 exact ⟨o,e,es,ep,d⟩
set_option tactic.hygienic true
end
set_option tactic.hygienic false
theorem kind_new:builtinKind "list.__new__"=some .builtinFn:=by decide +kernel
theorem split_new:splitId "list.__new__"=some ("list","__new__"):=by decide +kernel
theorem args_new (a b:Value):argsOk "list.__new__" ⟨[a,b],[]⟩:=by unfold argsOk;kernel_rfl
set_option tactic.hygienic true
section
variable {w:World}{A:Around}{E:Value→Shared→Prop}{h:Heap}{g:Array GenState}{d:Drawn}{t:Nat}{os:OsState}
set_option tactic.hygienic false
theorem check_new_acc {M:Model}{a:Value}{Q:Unit→Shared→Prop}(T:TopIn w.params h)(hq:Q () ⟨h,g,d,t,os⟩):wpAny M A (checkBuiltinCall "list.__new__" ⟨[.ref 100,a],[]⟩) Q E ⟨h,g,d,t,os⟩:=by
 have hC:=T.cls
 have hcont:(Value.ref 100::[Value.type "list",Value.type "object"]).contains (.type "list")=true:=by decide
 have hcan:(Manifest.canonical "list.__new__" != Manifest.canonical "list.__new__")=false:=by simp
 simp only [checkBuiltinCall,kind_new,split_new]
 repeat (first | refine wpAny_loadPart_at hC ?_ | (refine wpAny_isSubtype_exc hC ?_;rw [hcont]) | refine wpAny_staticBase_exc hC ?_ | refine wpAny_madeBy_exc hC ?_ | refine wIfN (by decide) ?_ | wp_step)
 exact hq
theorem code_new_acc {a:Value}{R:Result→Shared→Prop}(T:TopIn w.params h)
  (hq:R (.ok (.ret (.ref (h.objs.size+1)))) ⟨(h.push {cls:=.type "dict",data:=.dict #[]}).push {cls:=.ref 100,dict:=some h.objs.size,data:=.seq #[]},g,d,t,os⟩) :
  codeAny (model Pr w) A (.builtin "list.__new__" ⟨[.ref 100,a],[]⟩) R ⟨h,g,d,t,os⟩:=by
 refine codeAny_builtin_stack F.entry_list_new rfl fun p st=>?_
 rw [Around.under_plainId F.plain_list_new _]
 have hC:=T.cls
 have hown:=owner_list_new
 have hcont:(Value.ref 100::[Value.type "list",Value.type "object"]).contains (.type "list")=true:=by decide
 simp only [hown]
 repeat (first | with_reducible refine wpAny_loadPart_at hC ?_ | (with_reducible refine wpAny_isSubtype_exc hC ?_;rw [hcont]) | wp_step)
 show R _ _
 rw [Heap.size_push]
 exact hq
theorem quiet_new (a:Args):Code.quiet (.builtin "list.__new__" a)=true:=plainId_quiet F.plain_list_new _
theorem new_acc {i:Int}{tk:Tok}{Q:Value→Shared→Prop}(T:TopIn w.params h)(hd:A.depth+1 < 1000)
  (k:∀ h' tk',(∀ b o,h.get? b=some o→h'.get? b=some o)→AccAt h' (h.objs.size+1) [] h.objs.size→h'.Ns h.objs.size (fun y=>if y=Str.ofString "_initial_size" then some (.int i tk) else none) →
   (∃ oD,h'.get? h.objs.size=some oD∧IsD oD)→Q (.ref (h.objs.size+1)) ⟨h',g,d,tk',os⟩) :
  wpAny (model Pr w) A (call (.ref 100) [.int i tk]) Q E ⟨h,g,d,t,os⟩:=by
 have f1:=tc_lookup
 have f2:=tc_bind (.ref 100)
 have hC:=T.cls
 have hT:(⟨h,g,d,t,os⟩:Shared).TypeIs (.ref 100) "type":=⟨_,hC,rfl⟩
 refine wpAny_call (codeAny_of_tree ?_)
 show wpAny _ _ (callAny (.ref 100) _) _ _ _
 repeat (any_goals (first | assumption | with_reducible refine wpAny_loadPart_at hC ?_ | wp_step))
 refine ⟨rfl,?_⟩
 refine codeAny_call_builtin_at (Code.quiet_builtin _ (by decide +kernel)) entry_typeCall (wpAny_check_type_call_sub hC ?_)
 repeat (first | with_reducible refine wpAny_loadPart_at hC ?_ | with_reducible refine wpAny_madeBy_exc hC ?_ | wp_step)
 refine codeAny_call_builtin_code (quiet_new _) (check_new_acc T ?_)
 refine code_new_acc T ?_
 show wpAny _ _ _ _ _ _
 have kp:∀ b o,h.get? b=some o→((h.push {cls:=.type "dict",data:=.dict #[]}).push {cls:=.ref 100,dict:=some h.objs.size,data:=.seq #[]}).get? b=some o:=fun b o e=>Heap.get?_push_of_some _ (Heap.get?_push_of_some _ e)
 have T₁:=T.keeps kp
 have hC₁:=T₁.cls
 have hget:((h.push {cls:=.type "dict",data:=.dict #[]}).push {cls:=.ref 100,dict:=some h.objs.size,data:=.seq #[]}).get? (h.objs.size+1)=some {cls:=.ref 100,dict:=some h.objs.size,data:=.seq #[]}:=by heap_get
 have hgd:((h.push {cls:=.type "dict",data:=.dict #[]}).push {cls:=.ref 100,dict:=some h.objs.size,data:=.seq #[]}).get? h.objs.size=some {cls:=.type "dict",data:=.dict #[]}:=
  Heap.get?_push_of_some _ (Heap.get?_push_at rfl rfl)
 have hcC:(Value.ref 100::[Value.type "list",Value.type "object"]).contains (.ref 100)=true:=by decide
 unfold isInstance
 repeat (first | with_reducible refine wpAny_loadPart_at hget ?_ | (with_reducible refine wpAny_isSubtype_exc hC₁ ?_;rw [hcC]) | wp_step)
 show wpAny _ _ (typeLookup (.ref 100) _) _ _ _
 refine look_acc T₁ lk_init ?_
 rw [accM_at _ (a:=38) (by simp)]
 refine wpAny_holding (wpAny_bind ?_)
 unfold bindSpecial
 refine wpAny_bind (wpAny_typeOf (T:="function") ⟨o38 w.params,T₁ 38 _ (by kernel_rfl!) (by decide) (by decide),by kernel_rfl!⟩ ?_)
 refine wIfP (by decide) ?_
 have X₁:AccAt ((h.push {cls:=.type "dict",data:=.dict #[]}).push {cls:=.ref 100,dict:=some h.objs.size,data:=.seq #[]}) (h.objs.size+1) [] h.objs.size:=⟨0,#[],hget⟩
 have hn:((h.push {cls:=.type "dict",data:=.dict #[]}).push {cls:=.ref 100,dict:=some h.objs.size,data:=.seq #[]}).Ns h.objs.size (fun _=>none):=⟨_,#[],_,hgd,rfl,fun e he=>absurd he (by simp),fun _=>rfl⟩
 refine wpAny_pure (wpAny_bind (wpAny_mono (init_ok (s:=⟨_,g,d,t,os⟩) (D:=h.objs.size) (Q:=fun r s'=>r=.none∧∃ h' tk',s'=⟨h',g,d,tk',os⟩∧(∀ b o,h.get? b=some o→h'.get? b=some o)∧AccAt h' (h.objs.size+1) [] h.objs.size ∧
   h'.Ns h.objs.size (fun y=>if y=Str.ofString "_initial_size" then some (.int i tk) else none)∧(∃ oD,h'.get? h.objs.size=some oD∧IsD oD)) T₁ (show (A.under (.builtin "type.__call__" ⟨.ref 100::[.int i tk],[]⟩)).depth < 1000 by rw [depth_under_make];exact hd) X₁ ⟨_,hget,rfl,fun c=>by simp,.inr ⟨h.objs.size,rfl,Nat.ne_of_lt (Nat.lt_succ_self _),Heap.Ns1.of_empty hn⟩⟩
   (fun a o e h1 h2=>?_) fun h' tk' k₁ X' n' od=>⟨rfl,h',tk',rfl,fun b o e=>?_,X',n',od⟩) (fun r s' hr=>?_) fun _ _ x=>x))
 ·have:=Heap.lt_size (T a o e h1 h2)
  exact ⟨Nat.ne_of_lt (Nat.lt_succ_of_lt this),Nat.ne_of_lt this⟩
 ·have:=Heap.lt_size e
  exact k₁ b o (Nat.ne_of_lt (Nat.lt_succ_of_lt this)) (Nat.ne_of_lt this) (kp b o e)
 ·obtain ⟨rfl,h',tk',rfl,a1,a2,a3,a4⟩:=hr
  wp_walk
  exact k h' tk' a1 a2 a3 a4
set_option tactic.hygienic true
end
set_option tactic.hygienic false
theorem split_iter:splitId "list.__iter__"=some ("list","__iter__"):=by kernel_rfl!
theorem kind_iter:builtinKind "list.__iter__"=some .slot∨builtinKind "list.__iter__"=some .method:=by decide +kernel
theorem plain_iter:plainId "list.__iter__"=true:=by decide +kernel
set_option tactic.hygienic true
noncomputable def IsSeqO (h:Heap)(a:Addr)(items:Array Value):Prop:=∃ o n,h.get? a=some o∧o.data=.seq items n
set_option tactic.hygienic false
theorem IsSeqO.at {h h':Heap}{a:Addr}{items:Array Value}(x:IsSeqO h a items)(k:∀ o,h.get? a=some o→h'.get? a=some o):IsSeqO h' a items:=let ⟨o,n,e,d⟩:=x;⟨o,n,k _ e,d⟩
set_option tactic.hygienic true
section
variable {w:World}{A:Around}{E:Value→Shared→Prop}{s:Shared}{x D:Addr}{vs:List Value}
set_option tactic.hygienic false
theorem spIB_acc {name:Str}{id:String}{refuse:Sem Value}{Q:Option Value→Shared→Prop}(T:TopIn w.params s.heap)(X:AccAt s.heap x vs D)(hn:accM w.params name=none)(hB:typeLookup (.type "list") name=pure (some (.builtin id)))
  (hb:∀ self,bindSpecial (.builtin id) self=pure (.builtin id,[self])) (h:wpAny (model Pr w) A (call (.builtin id) [.ref x]) (fun v=>Q (some v)) E s):wpAny (model Pr w) A (callSpecialIfBoundUnlessNone? (.ref x) name refuse) Q E s:=by
 simp only [callSpecialIfBoundUnlessNone?,bindSpecialIfBound?]
 refine wpAny_holding (wpAny_bind (wpAny_bind (spec_acc T X hB ?_)))
 rw [hn]
 simp only [hb]
 refine wpAny_bind (wpAny_askSetting (wpAny_ite ?_))
 have fin:wpAny (model Pr w) A (if (Value.builtin id==Value.none)=true then (refuse>>=fun v=>pure (some v)) else (call (.builtin id) [.ref x]>>=fun v=>pure (some v))) Q E s:=by
  refine wIfN (by simp [builtin_beq_none]) ?_
  exact wpAny_bind (wpAny_mono h (fun v s' h'=>wpAny_pure h') fun _ _ h'=>h')
 split
 ·exact wpAny_bind (wpAny_pure (wpAny_pure fin))
 ·exact wpAny_tryCatch (wpAny_bind (wpAny_pure (wpAny_pure fin)))
theorem iter_acc {Q : Value → Shared → Prop} (T : TopIn w.params s.heap) (X : AccAt s.heap x vs D)
    (hQ : Q (.ref s.heap.objs.size) { s with heap := s.heap.push { cls := .type "list_iterator", data := .fields #[.ref x, .int 0 0] } }) : wpAny (model Pr w) A (pyIter (.ref x)) Q E s := by
  unfold pyIter
  refine wpAny_bind (spec_acc T X lk_iter ?_)
  rw [accM_no _ (by decide)]
  show wpAny _ _ (callSpecialIfBoundUnlessNone? (.ref x) "__iter__" _ >>= _) Q E s
  refine wpAny_bind (spIB_acc T X (accM_no _ (by decide)) lk_iter slot_list_iter.bind (entry_acc T X split_iter kind_iter plain_iter entry_list_iter ?_ (args_list_iter _)))
  show wpAny _ _ (do ret (← newFields "list_iterator" [.ref x, rawInt 0])) _ _ s
  refine wpAny_bind (wpAny_newObj_type (wpAny_pure ⟨_, rfl, ?_⟩))
  exact wpAny_bind (wpAny_specialOf (T := "list_iterator") ⟨_, Heap.get?_push_size _ rfl, rfl⟩ slot_listiter_next.lookup (wpAny_pure hQ))
theorem next_itemS {it l:Addr}{i:Nat}{items:Array Value}{v:Value}{Q:Option Value→Shared→Prop}(hit:s.heap.IsListIter it l i)
  (hl:IsSeqO s.heap l items) (hx:items[i]?=some v)
  (hQ:∀ h',h'.IsListIter it l (i+1)→Heap.SameBut it s.heap h'→Q (some v) {s with heap:=h'}) :
  wpAny (model Pr w) A (pyNext (.ref it)) Q E s:=by
 refine x1_2 (id hit) fun o ho hc hd=>?_
 refine x2_1 hl fun ol nl hol hdl=>?_
 unfold pyNext
 refine wpAny_bind (wpAny_attempt (wpAny_callSpecial?_slot (name:=Str.ofString "__next__") hit.typeIs slot_listiter_next
  (wpAny_call_entry slot_listiter_next hit.typeIs entry_listiter_next ?_ (args_listiter_next _))))
 show wpAny _ _ (field (.ref it) 0>>=_) _ _ s
 refine wpAny_bind (wpAny_field ho hd (x:=.ref l) rfl ?_)
 show wpAny _ _ (if (Value.ref l==Value.none)=true then _ else _) _ _ s
 refine wEqM (if_neg (show ¬ ((Value.ref l==Value.none)=true) from Bool.false_ne_true)) ?_
 show wpAny _ _ (field (.ref it) 1>>=_) _ _ s
 refine wpAny_bind (wpAny_field ho hd (x:=.int i 0) rfl ?_)
 show wpAny _ _ (seqItems? (.ref l)>>=_) _ _ s
 refine wpAny_bind (wpAny_seqItems hol hdl ?_)
 simp only [Int.toNat_natCast,hx]
 refine wpAny_bind (wpAny_setField ho hd (by simp) (wpAny_pure ⟨v,rfl,wpAny_pure (hQ _ ?_ (Heap.SameBut.update ..))⟩))
 exact ⟨_,Heap.get?_update_self _ ho (Obj.isFreed_of_fields (Obj.data_mapFields hd _)),(Obj.cls_mapFields ..).trans hc,by
  rw [Obj.data_mapFields hd];simp [rawInt]⟩
theorem next_endS {it l:Addr}{i:Nat}{items:Array Value}{Q:Option Value→Shared→Prop}(hh:A.handled=none)
  (hit:s.heap.IsListIter it l i) (hl:IsSeqO s.heap l items) (hx:items[i]?=none)
  (hQ:∀ h',Heap.ExtBut it s.heap h'→Q none {s with heap:=h'}):wpAny (model Pr w) A (pyNext (.ref it)) Q E s:=by
 refine x1_2 (id hit) fun o ho hc hd=>?_
 refine x2_1 hl fun ol nl hol hdl=>?_
 unfold pyNext
 refine wpAny_bind (wpAny_attempt (wpAny_callSpecial?_slot (name:=Str.ofString "__next__") hit.typeIs slot_listiter_next
  (wpAny_call_entry slot_listiter_next hit.typeIs entry_listiter_next ?_ (args_listiter_next _))))
 show wpAny _ _ (field (.ref it) 0>>=_) _ _ s
 refine wpAny_bind (wpAny_field ho hd (x:=.ref l) rfl ?_)
 show wpAny _ _ (if (Value.ref l==Value.none)=true then _ else _) _ _ s
 rw [if_neg (show ¬ ((Value.ref l==Value.none)=true) from Bool.false_ne_true)]
 show wpAny _ _ (field (.ref it) 1>>=_) _ _ s
 refine wpAny_bind (wpAny_field ho hd (x:=.int i 0) rfl ?_)
 show wpAny _ _ (seqItems? (.ref l)>>=_) _ _ s
 refine wpAny_bind (wpAny_seqItems hol hdl ?_)
 simp only [Int.toNat_natCast,hx]
 refine wpAny_bind (wpAny_rule (wpAny_bind (wpAny_setField ho hd (by simp) ?_)))
 show wpAny _ _ (newExc (.type "StopIteration") []>>=_) _ _ _
 refine wpAny_bind ?_
 simp only [newExc,newTuple]
 refine wpAny_bind (wpAny_newObj_type ?_ (by size_fits))
 refine wpAny_bind (m:=firstArgMember _ _) (wpAny_of_eq (a:=Value.none) (by first | rfl | (simp only [firstArgMember];rfl)) ?_)
 refine wpAny_newObj_type ?_ (by size_fits)
 simp only [raiseNew]
 refine wpAny_bind (wpAny_handled ?_)
 rw [show A.in1.handled=none from hh]
 refine wpAny_bind (wpAny_pure (wpAny_throw ?_))
 refine wpAny_bind (wpAny_isInstance (T:="StopIteration") (b:=true) ⟨_,Heap.get?_push_size _ rfl,rfl⟩ isSubtype_stop ?_)
 exact wpAny_pure (hQ _ (((Heap.SameBut.update ..).extBut.push _).push _))
theorem walkS (hh:A.handled=none)(I ax:Addr)(hne:ax≠I)(items:Array Value)(Ts:Nat→Addr)(vals:Nat→Array Value)
  (hit:∀ j,j < items.size→items[j]?=some (.ref (Ts j))) (hTI:∀ j,j < items.size→Ts j≠I) :
  WalksU Pr w A I (I::ax::(List.range items.size).map Ts) [I] items.size (fun j v=>v=vals j)
   (fun j h=>h.IsListIter I ax j∧IsSeqO h ax items∧∀ k,k < items.size→h.IsTuple (Ts k) (vals k))
   (fun j T h=>(j < items.size∧T=Ts j)∧h.IsListIter I ax (j+1)∧IsSeqO h ax items∧∀ k,k < items.size→h.IsTuple (Ts k) (vals k)) where
 sub:=fun b hb=>by simp at hb;simp [hb]
 frame:=fun _ _ _ st hk=>⟨st.1.at fun o e=>hk I (by simp) o e,st.2.1.at fun o e=>hk ax (by simp) o e,
  fun k hk'=>(st.2.2 k hk').at fun o e=>hk (Ts k) (List.mem_cons_of_mem _ (List.mem_cons_of_mem _ (List.mem_map.mpr ⟨k,List.mem_range.mpr hk',rfl⟩))) o e⟩
 item:=fun i s Q E hi st hQ=>by
  refine next_itemS st.1 st.2.1 (v:=.ref (Ts i)) (hit i hi) fun h' hit' hs'=>?_
  have tup:∀ k,k < items.size→h'.IsTuple (Ts k) (vals k):=fun k hk'=>(st.2.2 k hk').extBut hs'.extBut (hTI k hk')
  exact hQ (Ts i) (vals i) h' s.toks rfl (tup i hi) ⟨⟨hi,rfl⟩,hit',st.2.1.at fun o e=>(hs'.2 _ hne).trans e,tup⟩ fun b o hb e=>hs'.extBut b o (fun h=>hb (by simp [h])) e
 go:=fun _ _ _ _ _ s Q _ hm hQ=>wpAny_letOwnedTupleGo_listiter hm.2.1 (hQ s.heap hm.2 fun _ _ _ e=>e)
 apart:=fun j T _ hm hmem=>by
  rcases List.mem_cons.mp hmem with e | e
  ·exact hTI j hm.1.1 (hm.1.2▸e)
  ·cases e
 done:=fun s Q E st hQ=>next_endS hh st.1 st.2.1 (by simp) fun h' he'=>hQ h' s.toks fun b o hb e=>he' b o (fun h=>hb (by simp [h])) e
 self:=fun _ _ _ _ st hQ=>wpAny_pyIter_listiter st.1 hQ
theorem genCode {env:Env}{c P:Addr}{pos:Pos}{qualname:Str}{scope:Scope}{Q:Value→Shared→Prop}{o:Obj}{ws ps:Array Value}{file:Str}{tf:Tok}{flags:Int}{tg:Tok}{inF:Bool}{text:Int}{tt:Tok}
  (hc:env.code=.ref c) (ho:s.heap.get? c=some o) (hcl:o.cls=.type "code") (hd:o.data=.fields ws) (h11:ws[11]?=some (.ref P)) (h2:ws.getD 18 .none=.str file tf)
  (h7:ws.getD 7 .none=.int flags tg) (h9:ws.getD 9 .none=.bool inF) (h10:ws.getD 10 .none=.int text tt) (hP:s.heap.get? P=some ⟨.none,none,.fields ps,⟨[]⟩⟩) (ht:TriplesOk ps.toList) (hne:c≠P)
  (hQ:∀ c' h' tk ps',Heap.ExtBut P s.heap h'→h'.get? P=some ⟨.none,none,.fields ps',⟨[]⟩⟩→TriplesOk ps'.toList→(∃ m:Array Value,ps'=ps++m)→Q c' {s with heap:=h',toks:=tk}) :
  wpAny (model Pr w) A (genexprCode env pos qualname scope) Q E s:=by
 have h11':ws.getD 11 .none=.ref P:=by rw [Array.getD_eq_getD_getElem?,h11];rfl
 have hok:s.heap.IsCode c P ps:=⟨o,ws,file,tf,flags,tg,inF,text,tt,_,ho,hd,h11',h2,h7,h9,h10,hP,rfl,ht,hne⟩
 have htab:s.heap.TableAt c P ps:=⟨⟨o,ws,ho,hcl,hd,h11⟩,hP⟩
 induction hf:codeAmong pos ps.toList using Option.casesOn with
 | some c'=>exact wpAny_genexprCode_hit hc hok hf (hQ c' s.heap s.toks ps (Heap.ExtBut.refl _ _) hP ht ⟨#[],by rfl⟩)
 | none=>
  refine wpAny_genexprCodeX hc hok htab hf fun c' h' tk hx _ _ hok' _ htab' _=>hQ _ h' tk _ hx htab'.2 ?_ ⟨_,rfl⟩
  obtain ⟨_,_,_,_,_,_,_,_,_,op,_,_,_,_,_,_,_,hp,hpd,htr,_⟩:=hok'
  exact htr
set_option tactic.hygienic true
end
section
open PySem.Builtin PySem.Builtin.ObjectAttr
set_option tactic.hygienic false
theorem split_lga:splitId "list.__getattribute__"=some ("list","__getattribute__"):=by kernel_rfl!
theorem kind_lga:builtinKind "list.__getattribute__"=some .slot∨builtinKind "list.__getattribute__"=some .method:=by decide +kernel
theorem plain_lga:plainId "list.__getattribute__"=true:=by decide +kernel
theorem entry_lga:entryFor table "list.__getattribute__"=some Builtin.«object.__getattribute__»:=
 entryFor_alias (id':="object.__getattribute__") (by kernel_rfl) (by first | rfl | decide +kernel | (unfold String.splitOn;simp +decide [String.splitOnAux])) (by decide +kernel) (by kernel_rfl)
theorem args_lga (a b:Value):argsOk "list.__getattribute__" ⟨[a,b],[]⟩:=by unfold argsOk;kernel_rfl
theorem bind_lga:∀ self,bindSpecial (.builtin "list.__getattribute__") self=pure (.builtin "list.__getattribute__",[self]):=by
 have h:Slot "list" "__getattribute__" "list.__getattribute__":=.of (owner:="list") (n:="__getattribute__") lk_ga (by decide +kernel) (by decide +kernel) (by decide +kernel) (by first | exact .inl (by decide +kernel) | exact .inr (by decide +kernel)) (by rw [isSubtype_type];kernel_rfl)
 exact h.bind
set_option tactic.hygienic true
section
variable {w:World}{A:Around}{E:Value→Shared→Prop}{h:Heap}{g:Array GenState}{d:Drawn}{t:Nat}{os:OsState}{x D:Addr}{vs:List Value}{mD:Str→Option Value}
set_option tactic.hygienic false
theorem load_entryA {name:Str}{v:Value}{tk:Tok}{Q:Fin→Shared→Prop}(T:TopIn w.params h)(X:AccAt h x vs D)(hD:h.Ns D mD)(hna:accM w.params name=none)(hB:typeLookup (.type "list") name=pure none)(hv:mD name=some v)
  (hq:Q (.done (.ret v)) ⟨h,g,d,t,os⟩):wpAny (model Pr w) A (Builtin.«object.__getattribute__» ⟨[.ref x,.str name tk],[]⟩) Q E ⟨h,g,d,t,os⟩:=by
 refine x2_0 (id X) fun q sl hx=>?_
 have hC:=T.cls
 unfold Builtin.«object.__getattribute__»
 repeat (first | (with_reducible refine wpAny_nsGet hD ?_;rw [hv]) | with_reducible refine wpAny_loadPart_at hx ?_ | with_reducible refine wpAny_loadPart_at hC ?_ | (with_reducible refine look_acc T hB ?_;rw [hna]) | wp_step)
 exact hq
theorem load_acc {name:Str}{v:Value}{expr:Bool}{Q:Value→Shared→Prop}(T:TopIn w.params h)(X:AccAt h x vs D)(hD:h.Ns D mD)(hna:accM w.params name=none)(hB:typeLookup (.type "list") name=pure none)(hv:mD name=some v)
  (hh:handedOut v=pure v) (hq:Q v ⟨h,g,d,t+1,os⟩):wpAny (model Pr w) A (getAttr (.ref x) name expr) Q E ⟨h,g,d,t,os⟩:=by
 unfold getAttr getAttrBy
 refine wpAny_bind (wpAny_mkText (wpAny_holding (wpAny_bind (type_acc X (wpAny_bind (look_acc T lk_ga ?_))))))
 rw [accM_no _ (by decide)]
 show wpAny _ _ (getAttrByItsOwn (.ref x) (.str name t) (.ref 100) (.builtin "list.__getattribute__") true expr) _ _ _
 unfold getAttrByItsOwn hookBefore callGetattribute boundAndCalled
 refine wpAny_bind ?_
 show wpAny _ _ (typeLookup (.ref 100) "__getattr__") _ _ _
 refine look_acc T lk_getattr ?_
 rw [accM_no _ (by decide)]
 have e1:(expr&&onTheHeap (.builtin "list.__getattribute__"))=false:=by induction expr using Bool.casesOn <;> rfl
 rw [e1]
 simp only [Bool.false_eq_true,if_false]
 refine wpAny_bind (wpAny_attempt (wpAny_holding ?_))
 refine wpAny_bind (wpAny_of_eq (bind_lga _) ?_)
 refine wpAny_mono (Q:=fun v' s'=>v'=v∧s'=⟨h,g,d,t+1,os⟩) (E:=fun _ _=>False)
  (entry_acc T X split_lga kind_lga plain_lga entry_lga (load_entryA T X hD hna hB hv ⟨_,rfl,rfl,rfl⟩) (args_lga _ _)) (fun v' s' hv'=>?_) fun _ _ z=>z.elim
 refine x0_1 hv' fun hq0 hq1=>?_;subst hq0;subst hq1
 show wpAny _ _ (handedOut v') _ _ _
 rw [hh]
 exact wpAny_pure hq
set_option tactic.hygienic true
end
end
set_option tactic.hygienic false
theorem bi_name (P:Params):namesM P 3 "__builtins__"=some (.ref 4):=by kernel_rfl!
noncomputable def isBMod (o:Obj):Bool:=o.cls==.type "module"&&o.dict==some 0&&(match o.data with | .plain=>true | _=>false)
theorem bi_obj (P:Params):isBMod (objAt P 4)=true:=by kernel_rfl!
theorem bi_some (P:Params):((Hf P).get? 4).isSome=true:=by kernel_rfl!
structure GsOk (sc:Scope):Prop where
 co:sc.isCoroutine=false
 clo:∀ env,closureFor sc env=pure []
 cell:(sc.names.all fun x=>x.2 != .cell)=true
 dot:sc.names.lookup (".0":Str)=some NameKind.local
 a:sc.names.lookup (Str.ofString "fws")=some .local
 b:sc.names.lookup (Str.ofString "part")=some .local
 kind:sc.kind=.function
section
variable {w:World}{A:Around}{E:Value→Shared→Prop}{s:Shared}{x D:Addr}{vs:List Value}
theorem bfor {env:Env}{Q:Addr→Shared→Prop}(T:TopIn w.params s.heap)(hg:env.globals=3)(h:Q builtinsNs s):wpAny (model Pr w) A (builtinsFor env.globals env.builtins) Q E s:=by
 have n3:s.heap.Ns env.globals (namesM w.params 3):=by rw [hg];exact T.nsAt (by decide) (by decide) (ns3 _)
 refine x1_0 (Option.isSome_iff_exists.1 (bi_some w.params)) fun o e=>?_
 have hb:=bi_obj w.params
 unfold objAt at hb
 rw [e] at hb
 have hb:isBMod o=true:=hb
 unfold isBMod at hb
 simp only [Bool.and_eq_true,beq_iff_eq] at hb
 refine wpAny_builtinsFor n3 (bi_name _) (by decide) (T 4 o e (by decide) (by decide)) hb.1.1 hb.1.2 ?_ h
 have:=hb.2
 split at this
 next q=>exact q
 next=>exact ftC this
theorem gen_acc {fd:FuncData}{L f c P:Addr}{elt:Expr}{sc:Scope}{pos pn pa pb pt:Pos}{kt:Nat}{m:Str→Option Value}{va vb:Nat→Value}{F:Nat→Value→Prop}{o:Obj}{ws ps:Array Value}{file:Str}{tf:Tok}{flags:Int}{tg:Tok}{inF:Bool}{text:Int}{tt:Tok}
  {Q:Value→Shared→Prop} (hA:A.handled=none) (hd:A.depth < 1000) (T:TopIn w.params s.heap) (X:AccAt s.heap x vs D) (hg:fd.globals=3) (hkd:fd.scope.kind=.function) (hkf:fd.scope.names.lookup (Str.ofString "self")=some .local) (G:GsOk sc)
  (hc:fd.code=.ref c) (ho:s.heap.get? c=some o) (hcl:o.cls=.type "code") (hdt:o.data=.fields ws) (h11:ws[11]?=some (.ref P)) (h2:ws.getD 18 .none=.str file tf)
  (h7:ws.getD 7 .none=.int flags tg) (h9:ws.getD 9 .none=.bool inF) (h10:ws.getD 10 .none=.int text tt) (hP:s.heap.get? P=some ⟨.none,none,.fields ps,⟨[]⟩⟩) (hP6:P=62∨P=69) (ht:TriplesOk ps.toList) (hne:c≠P)
  (n:s.heap.Ns L m) (hm:m (Str.ofString "self")=some (.ref x)) (hb:AllBare s.gens)
  (tup:∀ j,j < vs.length→∃ t,vs[j]?=some (.ref t)∧s.heap.IsTuple t #[va j,vb j])
  (helt:∀ (A':Around) E' C code i (s₂:Shared) m₂,A'.handled=none→i < vs.length→s₂.heap.Ns C m₂→m₂ (Str.ofString "fws")=some (va i)→m₂ (Str.ofString "part")=some (vb i)→TopIn w.params s₂.heap →
   wpAny (model Pr w) A' (eval elt (genEnv sc [] C code 0 (callEnv fd L f))) (fun y s₃=>F i y∧Keeps s₂ s₃) E' s₂)
  (k:∀ s₅ a fp wr gg (St:Nat→Shared→Prop),(∀ i s',St i s'→s'.TypeIs (.ref a) "generator")→WalksS Pr w A.in4 a fp wr (GenOnlyQ gg) vs.length (fun j y=>F j y) St→St 0 s₅→(∀ b∈fp,b < s₅.heap.objs.size)→a∈fp →
   (∀ b∈wr,s.heap.objs.size≤b)→(∀ b o,b≠P→s.heap.get? b=some o→s₅.heap.get? b=some o)→(∃ ps':Array Value,s₅.heap.get? P=some ⟨.none,none,.fields ps',⟨[]⟩⟩∧TriplesOk ps'.toList)→AllBare s₅.gens→s₅.os=s.os→Q (.ref a) s₅) :
  wpAny (model Pr w) A (eval (.GeneratorExp elt [⟨.Tuple [.Name (Str.ofString "fws") pa,.Name (Str.ofString "part") pb] kt pt,.Name (Str.ofString "self") pn,[],0⟩] sc pos) (callEnv fd L f)) Q E s:=by
 have hPlt:P < s.heap.objs.size:=Heap.lt_size hP
 refine wpAny_GeneratorExp_walksQT hA G.co (G.clo _) ?_ G.dot G.a G.b (by decide) G.kind hd ?_ (fun _=>rfl)
 ·intro y hy e
  have:=List.all_eq_true.1 G.cell y hy
  rw [e] at this;exact ftC this
 refine nameL (.ref x) n hkd hkf hm (by decide) ?_
 refine iter_acc T X ?_
 have kp:∀ b o,s.heap.get? b=some o→(s.heap.push {cls:=.type "list_iterator",data:=.fields #[.ref x,.int 0 0]}).get? b=some o:=fun b o e=>Heap.get?_push_of_some _ e
 refine ⟨(T.keeps kp).nolimit,?_⟩
 refine genCode (env:=callEnv fd L f) hc (kp _ _ ho) hcl hdt h11 h2 h7 h9 h10 (kp _ _ hP) ht hne fun c' h' tk ps' hx hP' ht' _=>?_
 have K:∀ b o,b≠P→s.heap.get? b=some o→h'.get? b=some o:=fun b o hb e=>hx b o hb (kp b o e)
 have hP62:∀ a,a≠62→a≠69→a≠P:=by rintro a h1 h2 rfl;rcases hP6 with h | h;exact h1 h;exact h2 h
 have T':TopIn w.params h':=fun a o e h1 h2=>K a o (hP62 a h1 h2) (T a o e h1 h2)
 refine bfor T' hg ?_
 have hxP:x≠P:=by rintro rfl;refine x2_0 X fun _ _ e=>?_;exact clash e hP rfl
 have X':AccAt h' x vs D:=let ⟨a,b,e⟩:=X;⟨a,b,K _ _ hxP e⟩
 have hIP:s.heap.objs.size≠P:=Nat.ne_of_gt hPlt
 have hI:h'.IsListIter s.heap.objs.size x 0:=⟨_,hx _ _ hIP (Heap.get?_push_size _ rfl),rfl,rfl⟩
 have hxI:x≠s.heap.objs.size:=by refine x2_0 X fun _ _ e=>?_;exact Nat.ne_of_lt (Heap.lt_size e)
 have hIlt:s.heap.objs.size < h'.objs.size:=by refine x1_1 hI fun o e _=>?_;exact Heap.lt_size e
 have tup':∃ Ts:Nat→Addr,∀ j,j < vs.length→vs[j]?=some (.ref (Ts j))∧s.heap.IsTuple (Ts j) #[va j,vb j]:=by
  refine ⟨fun j=>if h:j < vs.length then (tup j h).choose else 0,fun j h=>?_⟩
  simp only [h,dif_pos]
  exact (tup j h).choose_spec
 refine x1_0 tup' fun Ts hTs=>?_
 have hTlt:∀ j,j < vs.length→Ts j < s.heap.objs.size:=fun j h=>let ⟨_,o,e,_⟩:=hTs j h;Heap.lt_size e
 have hTI:∀ j,j < vs.length→Ts j≠s.heap.objs.size:=fun j h=>Nat.ne_of_lt (hTlt j h)
 have hTP:∀ j,j < vs.length→Ts j≠P:=by
  rintro j h rfl
  obtain ⟨_,o,e,c,_⟩:=hTs j h
  cases someI hP e;cases c
 have hsz:(⟨vs⟩:Array Value).size=vs.length:=rfl
 have hklt:∀ b o,s.heap.get? b=some o→b < h'.objs.size:=fun b o e=>Nat.lt_trans (Heap.lt_size e) hIlt
 refine ⟨s.heap.objs.size,List.range h'.objs.size,[s.heap.objs.size],vs.length,_,_,_,fun _=>true,F,rfl,fun A' hA'=>(WalksU.bound (WalksU.mono_fp (walkS hA' s.heap.objs.size x hxI ⟨vs⟩ Ts (fun j=>#[va j,vb j])
   (fun j h=>by simpa using (hTs j h).1) hTI) ?_)),?_,?_,?_,T'.nolimit,?_,?_,?_⟩
 ·intro b hb
  rw [List.mem_range]
  rcases List.mem_cons.1 hb with rfl | hb
  ·exact hIlt
  rcases List.mem_cons.1 hb with rfl | hb
  ·refine x2_0 X' fun _ _ e=>?_;exact Heap.lt_size e
  ·refine x1_1 (List.mem_map.1 hb) fun j hj hq2=>?_;subst hq2
   exact Nat.lt_trans (hTlt j (List.mem_range.1 hj)) hIlt
 ·rintro i vals ⟨_,rfl⟩;exact ⟨_,_,rfl⟩
 ·refine ⟨hI,?_,fun j hj=>?_⟩
  ·refine x2_0 X' fun q sl e=>?_;exact ⟨_,q,e,rfl⟩
  ·obtain ⟨_,o,e,r⟩:=hTs j hj
   exact ⟨o,K _ _ (hTP j hj) e,r⟩
 ·intro b hb;exact List.mem_range.1 hb
 ·rw [cStatics_two]
  intro hm2
  have h2:=T.ns2.lt
  rw [cStatics_two] at h2
  rw [List.mem_singleton] at hm2
  rw [hm2] at h2;exact Nat.lt_irrefl _ h2
 ·intro href hk
  refine ⟨?_,?_⟩
  ·intro A' E' i va' vb' s₂ m₂ _ _ _ _ _ _
   refine wEqM (List.forIn_nil) ?_
   exact wpAny_pure ⟨rfl,s₂.heap,s₂.toks,rfl,fun _ _ e=>e⟩
  ·intro A' E' i va' vb' s₂ m₂ hA' hPt _ nC e1 e2 hk2
   refine x0_1 hPt fun hi hPt=>?_
   have hv:va'=va i∧vb'=vb i:=by
    have:=congrArg Array.toList hPt
    simpa using this
   refine x0_1 hv fun hq0 hq1=>?_;subst hq0;subst hq1
   refine helt A' E' _ _ i s₂ m₂ hA' hi nC e1 e2 fun a o e h1 h2=>?_
   have ea:=T' a o e h1 h2
   refine hk2 a (List.mem_range.2 (Heap.lt_size ea)) ?_ o (hk a o ea)
   rw [List.mem_singleton]
   exact Nat.ne_of_lt (Heap.lt_size (T a o e h1 h2))
 ·intro a h₅ tk₅ gs hbare ha hs5 hk5 W S0
  have hp:passing (fun _=>true) vs.length 0=List.range vs.length:=by simp [passing]
  have W':WalksS Pr w A.in4 a (a::h'.objs.size::List.range h'.objs.size) (h'.objs.size::[s.heap.objs.size]) (GenOnlyQ s.gens.size) vs.length (fun j y=>F j y) (GenAt Pr w A.in4 a s.gens.size h'.objs.size (List.range h'.objs.size) [s.heap.objs.size] (fun _=>true) vs.length F):=by
   have W₀:=W
   rw [show (passing (fun _=>true) vs.length 0).length=vs.length by rw [hp,List.length_range]] at W₀
   refine {W₀ with item:=fun i s Q E hi st hQ=>W₀.item i s Q E hi st fun v s' hP=>hQ v s' ?_}
   refine x1_1 hP fun i' h1 h2=>?_
   rw [hp] at h1
   rw [List.getElem?_range hi] at h1
   obtain rfl:=Option.some.inj h1;exact h2
  refine k _ a _ _ _ _ ?_ W' S0 ?_ (List.mem_cons_self ..) ?_ (fun b o hb e=>hk5 _ _ (K b o hb e)) ⟨ps',hk5 _ _ hP',ht'⟩ (hb.push hbare) rfl
  ·rintro i s' ⟨⟨o,_,_,e,c,_⟩,_⟩
   exact ⟨o,e,c⟩
  ·intro b hb
   show b < h₅.objs.size
   rw [hs5]
   rcases List.mem_cons.1 hb with rfl | hb
   ·exact Nat.lt_succ_self _
   rcases List.mem_cons.1 hb with rfl | hb
   ·exact Nat.lt_succ_of_lt ha
   ·exact Nat.lt_succ_of_lt (Nat.lt_trans (List.mem_range.1 hb) ha)
  ·intro b hb
   rcases List.mem_cons.1 hb with rfl | hb
   ·exact Nat.le_of_lt hIlt
   ·rw [List.mem_singleton] at hb;subst hb;exact Nat.le_refl _
end
set_option tactic.hygienic false
theorem args_sum2 (a b:Value):argsOk "sum" ⟨[a,b],[]⟩:=by unfold argsOk;kernel_rfl
section
variable {w:World}{A:Around}{E:Value→Shared→Prop}{s:Shared}{x D:Addr}{vs:List Value}
 {I:Addr} {fp wr:List Addr} {G:Array GenState→Array GenState→Prop} {n:Nat} {P:Nat→Value→Prop} {St:Nat→Shared→Prop}
theorem walks_shift (W:WalksS Pr w A I fp wr G n P St):WalksS Pr w A I fp wr G (n+1) (fun i v=>∃ j,i=j+1∧P j v) (fun i s=>∃ j,i=j+1∧St j s) where
 sub:=W.sub
 grefl:=W.grefl
 gtrans:=W.gtrans
 frame:=fun i s h' tk ⟨j,e,st⟩ a b=>⟨j,e,W.frame j s h' tk st a b⟩
 item:=fun i s Q E hi ⟨j,e,st⟩ hQ=>W.item j s Q E (by kt_len) st fun v s' hP st' hm=>hQ v s' ⟨j,e,hP⟩ ⟨j+1,by kt_len,st'⟩ hm
 done:=fun s Q E ⟨j,e,st⟩ hQ=>by
  have:j=n:=by kt_len
  subst this
  exact W.done s Q E st hQ
 self:=fun i s Q E ⟨j,e,st⟩ hQ=>W.self j s Q E st hQ
noncomputable def valS (init:Int)(val:Nat→Int):Nat→Int
 | 0=>init
 | j+1=>val j
theorem preSum_valS (init:Int)(val:Nat→Int):∀ j,preSum (valS init val) (j+1)=init+preSum val j
 | 0=>by simp [preSum,valS]
 | j+1=>by
  rw [preSum,preSum_valS init val j]
  simp only [preSum,valS]
  kt_len
theorem sum_start {init:Int}{t0:Tok}{val:Nat→Int}{Q:Value→Shared→Prop}(W:WalksS Pr w A.in1 I fp wr G n P St)(hst:St 0 s)(hfp:∀ b∈fp,b < s.heap.objs.size)(hval:∀ i v,P i v→∃ t,v=.int (val i) t)
  (hi:InLong init) (hfit:∀ j,j < n→InLong (val j)∧InLong (init+preSum val (j+1)))
  (hQ:∀ s' t',Moved wr G s s'→Q (.int (init+preSum val n) t') s'):wpAny (model Pr w) A (call (.builtin "sum") [.ref I,.int init t0]) Q E s:=by
 refine call_function_tree F.kind_sum F.plain_sum F.entry_sum (args_sum2 _ _) ?_
 unfold Builtin.«sum»
 simp only [List.length_cons,List.length_nil]
 refine wIfN (by decide) ?_
 refine wpAny_bind (wpAny_of_eq (show Builtin.Builtins.bindParams "sum" ["start"] 0 ⟨[.int init t0],[]⟩=pure [some (.int init t0)] from rfl) ?_)
 refine wpAny_bind (W.self 0 s _ _ hst ?_)
 have hf:(decide (-(2 ^ 63)≤init)&&decide (init < 2 ^ 63))=true:=by
  unfold InLong at hi
  simp only [Bool.and_eq_true,decide_eq_true_eq]
  exact hi
 dsimp only
 split
 rotate_left
 next h=>exact absurd hf h
 refine wpAny_bind (wpAny_rule (wpAny_bind (wpAny_mkInt (wpAny_bind (wpAny_pure ?_)))))
 simp only [List.forIn_cons,List.forIn_nil]
 refine wpAny_bind (wpAny_bind (wpAny_bind (wpAny_isInstance (T:="int") (b:=false) (typeIs_int _ _ _) PySem.sub_int_str ?_)))
 refine wIfN (by decide) ?_
 refine wpAny_pure (wpAny_bind (wpAny_bind (wpAny_isInstance (T:="int") (b:=false) (typeIs_int _ _ _) PySem.sub_int_bytes ?_)))
 refine wIfN (by decide) ?_
 refine wpAny_pure (wpAny_bind (wpAny_bind (wpAny_isInstance (T:="int") (b:=false) (typeIs_int _ _ _) PySem.sub_int_bytearray ?_)))
 refine wIfN (by decide) ?_
 refine wpAny_pure (wpAny_pure ?_)
 refine wpAny_bind (wpAny_newObj_type ?_)
 have hSf:s.heap.objs.size ∉ fp:=fun hm=>Nat.lt_irrefl _ (hfp _ hm)
 have e1:preSum (valS init val) 1=init:=by rw [preSum_valS];simp [preSum]
 refine wpAny_pure ⟨plainId_quiet F.plain_sum_loop _,codeAny_sum_loopS (walks_shift W) (valS init val) ?_ ?_ s.heap.objs.size hSf n 1 _ s.toks 0 (by kt_len) (by kt_len)
  ⟨0,rfl,W.frame 0 s _ _ hst (by first | exact Nat.le_refl _ | exact Nat.le_succ _ | kt_len) fun b _ o e=>Heap.get?_push_of_some _ e⟩ ?_ fun s' t' hm=>?_⟩
 ·rintro i v ⟨j,rfl,hP⟩;exact hval j v hP
 ·intro j hj
  rw [preSum_valS]
  induction j using Nat.casesOn with
  | zero=>exact ⟨hi,by simpa [preSum] using hi⟩
  | succ j=>exact ⟨(hfit j (by kt_len)).1,(hfit j (by kt_len)).2⟩
 ·rw [e1];exact Heap.get?_push_size _ rfl
 ·rw [preSum_valS]
  exact hQ s' t' (hm.drop_new (by first | exact Nat.le_refl _ | exact Nat.le_succ _ | kt_len))
end
set_option tactic.hygienic false
theorem body67:∃ r1 r2 c1 a1 a2 l1 l2 l3 b1 b2 b3 b4 b5 t1 t2 t3 tk n1 gp sc,fBody (cb 4)=[.Return (some (.Call (.Name (Str.ofString "sum") c1) [.GeneratorExp (.BinOp (.Call (.Name (Str.ofString "len") l1) [.Name (Str.ofString "fws") l2] [] l3) .Add (.Call (.Name (Str.ofString "len") b1) [.Name (Str.ofString "part") b2] [] b3) b4)
  [⟨.Tuple [.Name (Str.ofString "fws") t1,.Name (Str.ofString "part") t2] tk t3,.Name (Str.ofString "self") n1,[],0⟩] sc gp,.Attribute (.Name (Str.ofString "self") a1) (Str.ofString "_initial_size") a2] [] r1)) r2]∧GsOk sc ∧
  sc.names.lookup (Str.ofString "len")=some .globalImplicit∧b5=(0:Nat):=
 ⟨_,_,_,_,_,_,_,_,_,_,_,_,0,_,_,_,_,_,_,_,rfl,⟨by kernel_rfl!,fun env=>by kernel_rfl!,by kernel_rfl!,by kernel_rfl!,by kernel_rfl!,by kernel_rfl!,by kernel_rfl!⟩,by kernel_rfl!,rfl⟩
@[elab_as_elim] theorem body67_el {C:List Stmt→Prop}(k:∀ r1 r2 c1 a1 a2 l1 l2 l3 b1 b2 b3 b4 b5 t1 t2 t3 tk n1 gp sc,GsOk sc→sc.names.lookup (Str.ofString "len")=some .globalImplicit→b5=(0:Nat)→C ([.Return (some (.Call (.Name (Str.ofString "sum") c1) [.GeneratorExp (.BinOp (.Call (.Name (Str.ofString "len") l1) [.Name (Str.ofString "fws") l2] [] l3) .Add (.Call (.Name (Str.ofString "len") b1) [.Name (Str.ofString "part") b2] [] b3) b4)
  [⟨.Tuple [.Name (Str.ofString "fws") t1,.Name (Str.ofString "part") t2] tk t3,.Name (Str.ofString "self") n1,[],0⟩] sc gp,.Attribute (.Name (Str.ofString "self") a1) (Str.ofString "_initial_size") a2] [] r1)) r2])):C (fBody (cb 4)):=by
 obtain ⟨r1,r2,c1,a1,a2,l1,l2,l3,b1,b2,b3,b4,b5,t1,t2,t3,tk,n1,gp,sc,e,h0,h1,h2⟩:=body67
 rw [e];exact k _ _ _ _ _ _ _ _ _ _ _ _ _ _ _ _ _ _ _ _ h0 h1 h2
set_option tactic.hygienic true
noncomputable def fd67 (P:Params):FuncData:=acFn ⟨⟨[95,95,108,101,110,95,95]⟩⟩ ⟨⟨[95,65,99,99,117,109,117,108,97,116,111,114,46,95,95,108,101,110,95,95]⟩⟩ 4 [] .none (.str ⟨⟨[99,112,121,51,49,51,46,101,109,97,105,108,46,104,101,97,100,101,114]⟩⟩ 194) (.ref 66) .none
set_option tactic.hygienic false
theorem dat67 (P:Params):(o67 P).data=.func (fd67 P):=by kernel_rfl!
theorem bind67 (P:Params)(a:Value):bindArgs (fd67 P) ⟨[a],[]⟩=pure [(Str.ofString "self",a)]:=by kernel_rfl!
set_option tactic.hygienic true
noncomputable def PairsAt (h:Heap)(vs:List Value)(pr:List Pr2):Prop:=All2 (fun v (p:Pr2)=>∃ t ta tb,v=.ref t∧h.IsTuple t #[.str ⟨⟨p.1⟩⟩ ta,.str ⟨⟨p.2⟩⟩ tb]) vs pr
set_option tactic.hygienic false
theorem PairsAt.fns {h:Heap}{vs:List Value}{pr:List Pr2}(x:PairsAt h vs pr):∃ va vb:Nat→Value,∀ j,j < vs.length→(∃ t,vs[j]?=some (.ref t)∧h.IsTuple t #[va j,vb j])∧∃ ta tb,va j=.str ⟨⟨(pr.getD j ([],[])).1⟩⟩ ta∧vb j=.str ⟨⟨(pr.getD j ([],[])).2⟩⟩ tb:=by
 have:∀ j,∃ a b:Value,j < vs.length→(∃ t,vs[j]?=some (.ref t)∧h.IsTuple t #[a,b])∧∃ ta tb,a=.str ⟨⟨(pr.getD j ([],[])).1⟩⟩ ta∧b=.str ⟨⟨(pr.getD j ([],[])).2⟩⟩ tb:=by
  intro j
  by_cases hj:j < vs.length
  ·obtain ⟨p,hp,t,ta,tb,e,it⟩:=x.get (i:=j) (a:=vs[j]) (by simp [hj])
   have ep:pr.getD j ([],[])=p:=by rw [List.getD_eq_getElem?_getD,hp];rfl
   exact ⟨_,_,fun _=>⟨⟨t,by rw [← e];simp [hj],it⟩,ta,tb,by rw [ep],by rw [ep]⟩⟩
  ·exact ⟨.none,.none,fun h=>absurd h hj⟩
 exact ⟨fun j=>(this j).choose,fun j=>(this j).choose_spec.choose,fun j hj=>(this j).choose_spec.choose_spec hj⟩
theorem preSum_pr (pr:List Pr2):∀ j,j≤pr.length→preSum (fun i=>(prLen (pr.getD i ([],[])):Int)) j=(((pr.take j).map prLen).sum:Nat)
 | 0,_=>by rfl
 | j+1,h=>by
  have e:pr[j]?=some pr[j]:=by simp
  have e2:pr.take (j+1)=pr.take j++[pr[j]]:=by rw [List.take_add_one,e];rfl
  rw [preSum,preSum_pr pr j (by kt_len),e2,List.map_append,List.sum_append,List.getD_eq_getElem?_getD,e]
  simp only [List.map_cons,List.map_nil,List.sum_cons,List.sum_nil,Option.getD_some]
  kt_len
theorem sum_take_le (l:List Nat)(j:Nat):(l.take j).sum≤l.sum:=by
 have:l.sum=(l.take j).sum+(l.drop j).sum:=by rw [← List.sum_append,List.take_append_drop]
 kt_len
theorem get_le_sum (l:List Nat)(j:Nat):l.getD j 0≤l.sum:=by
 induction l generalizing j with
 | nil=>simp
 | cons a l ih=>
  induction j using Nat.casesOn with
  | zero=>simp
  | succ j=>have:=ih j;simp at this ⊢;kt_len
set_option tactic.hygienic true
section
variable {w:World}{A:Around}{E:Value→Shared→Prop}{s:Shared}{x D:Addr}{vs:List Value}{mD:Str→Option Value}
set_option tactic.hygienic false
theorem globB' {env:Env}{y:Str}{p:Pos}{v:Value}{Q:Value→Shared→Prop}(T:TopIn w.params s.heap)(hk:env.scope.kind=.function)(hx:env.kindOf y=some .globalImplicit)(hg:env.globals=3)(hb:env.builtins=0)
  (h1:namesM w.params 3 y=none) (h2:namesM w.params 0 y=some v) (hd:(y==("__debug__":Str))=false) (h:Q v s):wpAny (model Pr w) A (eval (.Name y p) env) Q E s:=by
 have n3:s.heap.Ns env.globals (namesM w.params 3):=by rw [hg];exact T.nsAt (by decide) (by decide) (ns3 _)
 have n0:s.heap.Ns env.builtins (namesM w.params 0):=by rw [hb];exact T.nsAt (by decide) (by decide) (ns0 _)
 exact wpAny_Name (ks_loadName_global hk hx (loadGlobal_builtin n3 h1 n0 h2 h)) hd
theorem globU' {env:Env}{y:Str}{p:Pos}{v:Value}{Q:Value→Shared→Prop}(T:TopIn w.params s.heap)(hk:env.scope.kind=.function)(hx:env.kindOf y=some .globalImplicit)(hg:env.globals=3)
  (h1:namesM w.params 3 y=some v) (hd:(y==("__debug__":Str))=false) (h:Q v s):wpAny (model Pr w) A (eval (.Name y p) env) Q E s:=by
 have n3:s.heap.Ns env.globals (namesM w.params 3):=by rw [hg];exact T.nsAt (by decide) (by decide) (ns3 _)
 exact wpAny_Name (ks_loadName_global hk hx (loadGlobal_global n3 h1 h)) hd
theorem glb {P:Params}{T':String}(h:T'∈["len","chr","ord","max","min","sum","isinstance"]):namesM P 3 (Str.ofString T')=none∧namesM P 0 (Str.ofString T')=some (.builtin T'):=gl2_at P h
theorem lenM_ok {pr:List Pr2}{init:Int}{t0:Tok}{ps:Array Value}{Q:Value→Shared→Prop}(hA:A.handled=none)(hd:A.depth+1 < 1000)(T:TopIn w.params s.heap)(X:AccAt s.heap x vs D)(hD:s.heap.Ns D mD)(hv:mD (Str.ofString "_initial_size")=some (.int init t0))
  (hP:s.heap.get? 62=some ⟨.none,none,.fields ps,⟨[]⟩⟩) (ht:TriplesOk ps.toList) (hb:AllBare s.gens) (pa:PairsAt s.heap vs pr) (h0:0≤init) (hsum:init+((pr.map prLen).sum:Nat)≤2 ^ 40)
  (k:∀ s' t',(∀ b o,b≠62→s.heap.get? b=some o→s'.heap.get? b=some o)→(∃ ps':Array Value,s'.heap.get? 62=some ⟨.none,none,.fields ps',⟨[]⟩⟩∧TriplesOk ps'.toList)→AllBare s'.gens→s'.os=s.os →
   Q (.int (init+((pr.map prLen).sum:Nat)) t') s'):wpAny (model Pr w) A (call (.ref 67) [.ref x]) Q E s:=by
 refine enter_acc (o:=o67 w.params) (oc:=o66 w.params) (fd:=fd67 w.params) T T.nolimit (by kt_len) (by kernel_rfl!) (dat67 _) rfl (by kernel_rfl!) (by kernel_rfl!) (by decide) rfl (BindsTo.of_eq (bind67 _ _)) (by kernel_rfl!) (by kernel_rfl!) (by kernel_rfl!) fun E' h₀ n k₀=>?_
 refine body67_el fun r1 r2 c1 a1 a2 l1 l2 l3 b1 b2 b3 b4 b5 t1 t2 t3 tk n1 gp sc G hlen _=>?_
 have T₀:=T.keeps k₀
 have X₀:AccAt h₀ x vs D:=X.keeps k₀
 refine x2_0 (pa.fns) fun va vb hab=>?_
 have hln:vs.length=pr.length:=pa.length
 have hlt:∀ j,j < vs.length→(prLen (pr.getD j ([],[])))≤(pr.map prLen).sum:=by
  intro j hj
  have:=get_le_sum (pr.map prLen) j
  rw [List.getD_eq_getElem?_getD,List.getElem?_map] at this
  rw [List.getD_eq_getElem?_getD]
  have e:pr[j]?=some (pr[j]'(by kt_len)):=by simp [hln▸hj]
  rw [e] at this ⊢
  simpa using this
 refine wpAny_execs_cons (wpAny_Return_some (Call_Name rfl (globB' T₀ (by kernel_rfl!) (by kernel_rfl!) rfl rfl (glb (by decide)).1 (glb (by decide)).2 (by kernel_rfl!) (withB (first:=[]) (by rfl) (args_cons ?_ rfl)))))
 refine gen_acc (P:=62) (c:=66) (fd:=fd67 w.params) (va:=va) (vb:=vb) (F:=fun i v=>∃ t,v=.int (prLen (pr.getD i ([],[])):Int) t) (o:=o66 w.params) hA (show A.depth+1 < 1000 by kt_len) T₀ X₀ rfl (by kernel_rfl!) (by kernel_rfl!) G rfl
  (T₀ 66 _ (by kernel_rfl!) (by decide) (by decide)) rfl rfl rfl rfl rfl rfl rfl (k₀ _ _ hP) (.inl rfl) ht (by decide) n (by kernel_rfl!) hb (fun j hj=>?_) ?_ ?_
 ·obtain ⟨⟨t,e1,o,e2,r⟩,_⟩:=hab j hj
  exact ⟨t,e1,o,k₀ _ _ e2,r⟩
 ·intro A' E' C code i s₂ m₂ hA' hi nC e1 e2 T₂
  obtain ⟨_,ta,tb,ea,eb⟩:=hab i hi
  have hbd:(pr.getD i ([],[])).1.length+(pr.getD i ([],[])).2.length≤(pr.map prLen).sum:=hlt i hi
  refine wpAny_BinOp (Call_Name rfl (globB' T₂ G.kind hlen rfl rfl (glb (by decide)).1 (glb (by decide)).2 (by kernel_rfl!) (withB (first:=[]) (by rfl) (args_cons (nameL (va i) nC G.kind G.a e1 (by decide) (args_nil ?_)) rfl))))
  rw [ea]
  refine len_str ?_ ?_
  ·simp only [Str.length,Array.size];kt_len
  refine Call_Name rfl (globB' (s:={s₂ with toks:=_}) T₂ G.kind hlen rfl rfl (glb (by decide)).1 (glb (by decide)).2 (by kernel_rfl!) (withB (first:=[]) (by rfl) (args_cons (nameL (vb i) nC G.kind G.b e2 (by decide) (args_nil ?_)) rfl)))
  rw [eb]
  refine len_str ?_ ?_
  ·simp only [Str.length,Array.size];kt_len
  refine bin_ok (m:=0) (ad:=fun _=>0) (op:=.Add) (a:=.int (pr.getD i ([],[])).1.length) (b:=.int (pr.getD i ([],[])).2.length) rfl ⟨_,rfl⟩ ⟨_,rfl⟩ fun v' tk' V=>?_
  refine x1_0 V fun t hq1=>?_;subst hq1
  exact ⟨⟨t,by rfl⟩,s₂.heap,tk',rfl,fun _ _ e=>e⟩
 ·intro s₅ a fp wr gg St hT W hst hfp ha hwr K5 hP5 hb5 ho5
  have hx62:x≠62:=by rintro rfl;refine x2_0 X fun _ _ e=>?_;exact clash hP e rfl
  have X₅:AccAt s₅.heap x vs D:=let ⟨q,sl,e⟩:=X₀;⟨q,sl,K5 _ _ hx62 e⟩
  have T₅:TopIn w.params s₅.heap:=fun b o e h1 h2=>K5 b o h1 (T₀ b o e h1 h2)
  have hD62:D≠62:=by rintro rfl;refine x3_2 hD fun o es ep e d _=>?_;exact dclash hP e d rfl
  have D₅:s₅.heap.Ns D mD:=hD.at' fun o e=>K5 _ _ hD62 (k₀ _ _ e)
  have hL62:s.heap.objs.size≠62:=Nat.ne_of_gt (Heap.lt_size hP)
  have n₅:=n.at' fun o e=>K5 _ _ hL62 e
  refine args_cons ?_ rfl
  rw [arm_eval_Attribute]
  refine wpAny_bind ?_
  show wpAny _ _ (eval (.Name (Str.ofString "self") a1) _) _ _ _
  refine nameL (.ref x) n₅ (by kernel_rfl!) (by kernel_rfl!) (by kernel_rfl!) (by kernel_rfl!) ?_
  refine wpAny_bind (wpAny_standAt (wpAny_bind (wpAny_holding ?_)))
  obtain ⟨h5,g5,d5,tk5,os5⟩:=s₅
  refine load_acc T₅ X₅ D₅ (accM_no _ (by decide)) lk_isz hv rfl ?_
  refine wpAny_bind (wpAny_pure (wpAny_pure (args_nil ?_)))
  refine sum_start (val:=fun i=>(prLen (pr.getD i ([],[])):Int)) (WalksS.in4_1 W) (W.frame 0 _ h5 _ hst (Nat.le_succ _) fun _ _ _ e=>e) hfp (fun i v hP=>hP) ⟨by kt_len,by kt_len⟩ ?_ ?_
  ·intro j hj
   rw [preSum_pr _ _ (by kt_len)]
   have h1:=hlt j hj
   have h2:=sum_take_le (pr.map prLen) (j+1)
   rw [← List.map_take] at h2
   unfold InLong
   kt_len
  ·intro s' t' hm
   have K':∀ b o,b≠62→s.heap.get? b=some o→s'.heap.get? b=some o:=fun b o hb e=>hm.heap b o (fun hw=>by
    have h1:=hwr b hw
    have h2:b < h₀.objs.size:=Heap.lt_size (k₀ _ _ e)
    exact absurd h1 (Nat.not_le.2 h2)) (K5 _ _ hb (k₀ _ _ e))
   rw [preSum_pr _ _ (by kt_len),hln,List.take_length]
   refine k s' t' K' ?_ (hb5.moved hm.gens) (hm.os.trans ho5)
   refine x1_1 hP5 fun ps' e1 e2=>?_
   refine ⟨ps',hm.heap _ _ (fun hw=>?_) e1,e2⟩
   have h1:=hwr 62 hw
   have h2:62 < h₀.objs.size:=Heap.lt_size (k₀ _ _ hP)
   exact absurd h1 (Nat.not_le.2 h2)
set_option tactic.hygienic true
end
set_option tactic.hygienic false
theorem body74:∃ r1 r2 c1 c2 l1 l2 l3 b1 b2 b3 t1 t2 t3 tk n1 gp sc bk,fBody (cb 5)=[.Return (some (.Call (.Attribute (.Name (Str.ofString "EMPTYSTRING") c1) (Str.ofString "join") c2) [.GeneratorExp (.Call (.Attribute (.Name (Str.ofString "EMPTYSTRING") l1) (Str.ofString "join") l2) [.Tuple [.Name (Str.ofString "fws") b1,.Name (Str.ofString "part") b2] bk b3] [] l3)
  [⟨.Tuple [.Name (Str.ofString "fws") t1,.Name (Str.ofString "part") t2] tk t3,.Name (Str.ofString "self") n1,[],0⟩] sc gp] [] r1)) r2]∧GsOk sc ∧
  sc.names.lookup (Str.ofString "EMPTYSTRING")=some .globalImplicit∧(c2.endLine==r1.line)=true∧(l2.endLine==l3.line)=true:=
 ⟨_,_,_,_,_,_,_,_,_,_,_,_,_,_,_,_,_,_,rfl,⟨by kernel_rfl!,fun env=>by kernel_rfl!,by kernel_rfl!,by kernel_rfl!,by kernel_rfl!,by kernel_rfl!,by kernel_rfl!⟩,by kernel_rfl!,by kernel_rfl!,by kernel_rfl!⟩
@[elab_as_elim] theorem body74_el {C:List Stmt→Prop}(k:∀ r1 r2 c1 c2 l1 l2 l3 b1 b2 b3 t1 t2 t3 tk n1 gp sc bk,GsOk sc→sc.names.lookup (Str.ofString "EMPTYSTRING")=some .globalImplicit→(c2.endLine==r1.line)=true→(l2.endLine==l3.line)=true→C ([.Return (some (.Call (.Attribute (.Name (Str.ofString "EMPTYSTRING") c1) (Str.ofString "join") c2) [.GeneratorExp (.Call (.Attribute (.Name (Str.ofString "EMPTYSTRING") l1) (Str.ofString "join") l2) [.Tuple [.Name (Str.ofString "fws") b1,.Name (Str.ofString "part") b2] bk b3] [] l3)
  [⟨.Tuple [.Name (Str.ofString "fws") t1,.Name (Str.ofString "part") t2] tk t3,.Name (Str.ofString "self") n1,[],0⟩] sc gp] [] r1)) r2])):C (fBody (cb 5)):=by
 obtain ⟨r1,r2,c1,c2,l1,l2,l3,b1,b2,b3,t1,t2,t3,tk,n1,gp,sc,bk,e,h0,h1,h2,h3⟩:=body74
 rw [e];exact k _ _ _ _ _ _ _ _ _ _ _ _ _ _ _ _ _ _ h0 h1 h2 h3
set_option tactic.hygienic true
noncomputable def fd74 (P:Params):FuncData:=acFn ⟨⟨[95,95,115,116,114,95,95]⟩⟩ ⟨⟨[95,65,99,99,117,109,117,108,97,116,111,114,46,95,95,115,116,114,95,95]⟩⟩ 5 [] .none (.str ⟨⟨[99,112,121,51,49,51,46,101,109,97,105,108,46,104,101,97,100,101,114]⟩⟩ 194) (.ref 73) .none
set_option tactic.hygienic false
theorem dat74 (P:Params):(o74 P).data=.func (fd74 P):=by kernel_rfl!
theorem bind74 (P:Params)(a:Value):bindArgs (fd74 P) ⟨[a],[]⟩=pure [(Str.ofString "self",a)]:=by kernel_rfl!
theorem emp (P:Params):namesM P 3 (Str.ofString "EMPTYSTRING")=some (.str ⟨⟨[]⟩⟩ 196):=by kernel_rfl!
theorem fold_nil:∀ (l:List (List Nat)) (x:List Nat),(l.map fun x=>(⟨⟨x⟩⟩:Str)).foldl (fun acc p=>acc++(⟨⟨[]⟩⟩:Str).cps++p.cps) (⟨x⟩:Array Nat)=⟨x++l.flatten⟩
 | [],x=>by simp
 | y::l,x=>by
  rw [List.map_cons,List.foldl_cons]
  have e:(⟨x⟩:Array Nat)++(⟨⟨[]⟩⟩:Str).cps++(⟨⟨y⟩⟩:Str).cps=⟨x++y⟩:=by simp
  rw [e,fold_nil l (x++y)]
  simp
theorem join_nil (l:List (List Nat)):Txt.join ⟨⟨[]⟩⟩ (l.map fun x=>(⟨⟨x⟩⟩:Str))=⟨⟨l.flatten⟩⟩:=by
 induction l using List.casesOn with
 | nil=>rfl
 | cons x l=>exact congrArg Str.mk (fold_nil l x)
theorem joinOk_nil (l:List (List Nat))(h:l.flatten.length≤sizeLine):JoinOk ⟨⟨[]⟩⟩ (l.map fun x=>(⟨⟨x⟩⟩:Str))=true:=by
 unfold JoinOk
 rw [StrLaws.joinTotal,Bool.not_eq_true']
 unfold Builtin.Str.tooLong
 rw [decide_eq_false_iff_not,List.map_map]
 have e:(List.map ((fun x=>x.length) ∘ fun x=>(⟨⟨x⟩⟩:Str)) l)=l.map List.length:=by
  apply List.map_congr_left;intro x _;rfl
 rw [e]
 have e2:(⟨⟨[]⟩⟩:Str).length=0:=rfl
 rw [e2]
 rw [List.length_flatten] at h
 kt_len
set_option tactic.hygienic true
section
variable {w:World}{A:Around}{E:Value→Shared→Prop}{s:Shared}{x D:Addr}{vs:List Value}{mD:Str→Option Value}
set_option tactic.hygienic false
theorem joinTwo {a b:List Nat}{ta tb te:Tok}{t:Addr}{Q:Value→Shared→Prop}(it:s.heap.IsTuple t ⟨[.str ⟨⟨a⟩⟩ ta,.str ⟨⟨b⟩⟩ tb]⟩)(h:a.length+b.length≤sizeLine)
  (k:∀ t' tk,Q (.str ⟨⟨a++b⟩⟩ t') {s with toks:=tk}):wpAny (model Pr w) A (call (.builtin "str.join") [.str ⟨⟨[]⟩⟩ te,.ref t]) Q E s:=by
 obtain ⟨o,e,c,n,d⟩:=it
 have hj:JoinOk ⟨⟨[]⟩⟩ ([(⟨⟨a⟩⟩:Str),⟨⟨b⟩⟩])=true:=joinOk_nil [a,b] (by simpa using h)
 have hj':=hj
 unfold JoinOk at hj'
 rw [Bool.not_eq_true'] at hj'
 have ej:Txt.join ⟨⟨[]⟩⟩ ([(⟨⟨a⟩⟩:Str),⟨⟨b⟩⟩])=⟨⟨a++b⟩⟩:=by have:=join_nil [a,b];simpa using this
 refine call_meets F.slot_str_join (typeIs_str _ _ _) F.entry_str_join (F.args_str_join_2 _ _) (meets_str_join_tuple ⟨⟨[]⟩⟩ te t [(⟨⟨a⟩⟩,ta),(⟨⟨b⟩⟩,tb)] hj') ⟨⟨o,n,e,c,d⟩,?_⟩
 refine post_join _ ⟨joinOk_length hj,fun t' tk=>?_⟩
 show Q (.str (Txt.join ⟨⟨[]⟩⟩ ([(⟨⟨a⟩⟩:Str),⟨⟨b⟩⟩])) t') _
 rw [ej];exact k t' tk
theorem strM_ok {pr:List Pr2}{ps:Array Value}{Q:Value→Shared→Prop}(hA:A.handled=none)(hd:A.depth+1 < 1000)(T:TopIn w.params s.heap)(X:AccAt s.heap x vs D)
  (hP:s.heap.get? 69=some ⟨.none,none,.fields ps,⟨[]⟩⟩) (ht:TriplesOk ps.toList) (hb:AllBare s.gens) (pa:PairsAt s.heap vs pr) (hn:pr.length≤sizeLine) (hsum:(pr.map fun p=>p.1++p.2).flatten.length≤sizeLine)
  (k:∀ s' t',(∀ b o,b≠69→s.heap.get? b=some o→s'.heap.get? b=some o)→(∃ ps':Array Value,s'.heap.get? 69=some ⟨.none,none,.fields ps',⟨[]⟩⟩∧TriplesOk ps'.toList)→AllBare s'.gens→s'.os=s.os →
   Q (.str ⟨⟨(pr.map fun p=>p.1++p.2).flatten⟩⟩ t') s'):wpAny (model Pr w) A (call (.ref 74) [.ref x]) Q E s:=by
 refine enter_acc (o:=o74 w.params) (oc:=o73 w.params) (fd:=fd74 w.params) T T.nolimit (by kt_len) (by kernel_rfl!) (dat74 _) rfl (by kernel_rfl!) (by kernel_rfl!) (by decide) rfl (BindsTo.of_eq (bind74 _ _)) (by kernel_rfl!) (by kernel_rfl!) (by kernel_rfl!) fun E' h₀ n k₀=>?_
 refine body74_el fun r1 r2 c1 c2 l1 l2 l3 b1 b2 b3 t1 t2 t3 tk n1 gp sc bk G hemp hline1 hline2=>?_
 have T₀:=T.keeps k₀
 have X₀:AccAt h₀ x vs D:=X.keeps k₀
 refine x2_0 (pa.fns) fun va vb hab=>?_
 have hln:vs.length=pr.length:=pa.length
 have hlt:∀ j,j < vs.length→(pr.getD j ([],[])).1.length+(pr.getD j ([],[])).2.length≤sizeLine:=by
  intro j hj
  have:=get_le_sum ((pr.map fun p=>p.1++p.2).map List.length) j
  rw [List.length_flatten] at hsum
  rw [List.getD_eq_getElem?_getD,List.getElem?_map,List.getElem?_map] at this
  rw [List.getD_eq_getElem?_getD]
  have e:pr[j]?=some (pr[j]'(by kt_len)):=by simp [hln▸hj]
  rw [e] at this ⊢
  simp only [Option.map_some,Option.getD_some,List.length_append] at this ⊢
  kt_len
 refine wpAny_execs_cons (wpAny_Return_some (mCall rfl (by rfl) hline1 (globU' T₀ (by kernel_rfl!) (by kernel_rfl!) rfl (emp _) (by kernel_rfl!) fun pl=>GM.join ?_)))
 refine withB (first:=[.str ⟨⟨[]⟩⟩ 196]) (by rfl) (args_cons ?_ rfl)
 refine gen_acc (P:=69) (c:=73) (fd:=fd74 w.params) (va:=va) (vb:=vb) (F:=fun i v=>∃ t,v=.str ⟨⟨(pr.getD i ([],[])).1++(pr.getD i ([],[])).2⟩⟩ t) (o:=o73 w.params) hA (show A.depth+1 < 1000 by kt_len) T₀ X₀ rfl (by kernel_rfl!) (by kernel_rfl!) G rfl
  (T₀ 73 _ (by kernel_rfl!) (by decide) (by decide)) rfl rfl rfl rfl rfl rfl rfl (k₀ _ _ hP) (.inr rfl) ht (by decide) n (by kernel_rfl!) hb (fun j hj=>?_) ?_ ?_
 ·obtain ⟨⟨t,e1,o,e2,r⟩,_⟩:=hab j hj
  exact ⟨t,e1,o,k₀ _ _ e2,r⟩
 ·intro A' E' C code i s₂ m₂ hA' hi nC e1 e2 T₂
  obtain ⟨_,ta,tb,ea,eb⟩:=hab i hi
  have hbd:=hlt i hi
  refine mCall rfl (by rfl) hline2 (globU' T₂ G.kind hemp rfl (emp _) (by kernel_rfl!) fun pl=>GM.join ?_)
  refine withB (first:=[.str ⟨⟨[]⟩⟩ 196]) (by rfl) (args_cons (wpAny_Tuple (args_cons (nameL (va i) nC G.kind G.a e1 (by decide) (args_cons (nameL (vb i) nC G.kind G.b e2 (by decide) (args_nil ⟨by size_fits,?_⟩)) rfl)) rfl)) rfl)
  rw [ea,eb]
  refine args_nil (joinTwo (s:={s₂ with heap:=_}) ⟨_,Heap.get?_push_size _ rfl,rfl,0,rfl⟩ hbd fun t' tk'=>?_)
  exact ⟨⟨t',rfl⟩,_,tk',rfl,fun _ _ e=>Heap.get?_push_of_some _ e⟩
 ·intro s₅ a fp wr gg St hT W hst hfp ha hwr K5 hP5 hb5 ho5
  refine args_nil ?_
  refine SC.joinGen (WalksS.in4_2 W) hT hst hfp ha (fun i v ⟨t,e⟩=>⟨_,t,e⟩) (fun s' l hm hi=>?_) (by kt_len)
  have el:l.map (·.1)=(pr.map fun p=>p.1++p.2).map fun x=>(⟨⟨x⟩⟩:Str):=by
   have hl:l.length=pr.length:=by
    have:=hi.1
    simp only [List.size_toArray] at this
    rw [← hln,← this]
    clear this hi hm
    induction l with
    | nil=>rfl
    | cons p l ih=>simp [strValues] at ih ⊢
   apply List.ext_getElem?
   intro j
   by_cases hj:j < l.length
   ·have h1:(strValues l).toArray[j]?=some (.str l[j].1 l[j].2):=by
     simp only [List.getElem?_toArray]
     clear hi hm hl
     induction l generalizing j with
     | nil=>simp at hj
     | cons p l ih=>
      induction j using Nat.casesOn with
      | zero=>rfl
      | succ j=>simp only [strValues,List.getElem?_cons_succ,List.getElem_cons_succ] at ih ⊢;exact ih j (by simpa using hj)
    refine x1_0 (hi.2 j _ h1) fun t h2=>?_
    injection h2 with h2 _
    have hp:pr[j]?=some (pr[j]'(by kt_len)):=by simp [hl▸hj]
    rw [List.getD_eq_getElem?_getD,hp] at h2
    rw [List.getElem?_map,List.getElem?_map,List.getElem?_map,hp]
    have hl2:l[j]?=some l[j]:=by simp [hj]
    rw [hl2]
    simp only [Option.map_some,h2,Option.getD_some]
   ·rw [List.getElem?_eq_none (by simpa using hj),List.getElem?_eq_none (by simpa [← hl] using hj)]
  rw [el,join_nil]
  refine ⟨joinOk_nil _ hsum,fun t' tk'=>?_⟩
  have K':∀ b o,b≠69→s.heap.get? b=some o→s'.heap.get? b=some o:=fun b o hb e=>hm.heap b o (fun hw=>by
   have h1:=hwr b hw
   have h2:b < h₀.objs.size:=Heap.lt_size (k₀ _ _ e)
   exact absurd h1 (Nat.not_le.2 h2)) (K5 _ _ hb (k₀ _ _ e))
  refine k {s' with toks:=tk'} t' K' ?_ (hb5.moved hm.gens) (hm.os.trans ho5)
  refine x1_1 hP5 fun ps' e1 e2=>?_
  refine ⟨ps',hm.heap _ _ (fun hw=>?_) e1,e2⟩
  have h1:=hwr 69 hw
  have h2:69 < h₀.objs.size:=Heap.lt_size (k₀ _ _ hP)
  exact absurd h1 (Nat.not_le.2 h2)
set_option tactic.hygienic true
end
section
variable {w:World}{A:Around}{E:Value→Shared→Prop}{s:Shared}{x D:Addr}{vs:List Value}{mD:Str→Option Value}
set_option tactic.hygienic false
theorem callSpD_acc {name:Str}{f:Addr}{of:Obj}{y:Option Value}{args:List Value}{Q:Option Value→Shared→Prop}(T:TopIn w.params s.heap)(X:AccAt s.heap x vs D)(hn:accM w.params name=some (.ref f))(hB:typeLookup (.type "list") name=pure y)
  (hf:(Hf w.params).get? f=some of) (hfc:of.cls=.type "function") (h1:f≠62) (h2:f≠69)
  (h:wpAny (model Pr w) A (call (.ref f) (.ref x::args)) (fun v=>Q (some v)) E s):wpAny (model Pr w) A (callSpecial? (.ref x) name args) Q E s:=by
 unfold callSpecial?
 refine wpAny_bind (spec_acc T X hB ?_)
 rw [hn]
 refine wpAny_holding (wpAny_bind (wpAny_bindSpecial_def (T f of hf h1 h2) hfc ?_))
 exact wpAny_bind (wpAny_mono h (fun v s' h'=>wpAny_pure h') fun _ _ h'=>h')
theorem len_acc {pr:List Pr2}{init:Int}{t0:Tok}{ps:Array Value}{Q:Value→Shared→Prop}(hA:A.handled=none)(hd:A.depth+1 < 1000)(T:TopIn w.params s.heap)(X:AccAt s.heap x vs D)(hD:s.heap.Ns D mD)(hv:mD (Str.ofString "_initial_size")=some (.int init t0))
  (hP:s.heap.get? 62=some ⟨.none,none,.fields ps,⟨[]⟩⟩) (ht:TriplesOk ps.toList) (hb:AllBare s.gens) (pa:PairsAt s.heap vs pr) (h0:0≤init) (hsum:init+((pr.map prLen).sum:Nat)≤2 ^ 40)
  (k:∀ s' t',(∀ b o,b≠62→s.heap.get? b=some o→s'.heap.get? b=some o)→(∃ ps':Array Value,s'.heap.get? 62=some ⟨.none,none,.fields ps',⟨[]⟩⟩∧TriplesOk ps'.toList)→AllBare s'.gens→s'.os=s.os →
   Q (.int (init+((pr.map prLen).sum:Nat)) t') s'):wpAny (model Pr w) A (call (.builtin "len") [.ref x]) Q E s:=by
 refine Calls.call_function_entry kind_len plain_len entry_len (args_len1 _) ?_
 unfold Builtin.«len»
 refine wpAny_bind (wpAny_pure ?_)
 refine wpAny_bind (m:=callSpecial? (.ref x) (Str.ofString "__len__")) (callSpD_acc (of:=o67 w.params) T X (accM_at _ (a:=67) (by decide)) lk_len (by kernel_rfl!) (by kernel_rfl!) (by decide) (by decide)
  (lenM_ok (A:=A.in1) hA hd T X hD hv hP ht hb pa h0 hsum fun s' t' K tb b o=>?_))
 refine wpAny_bind (wpAny_holding (wpAny_pure ?_))
 refine wpAny_bind (wpAny_letGo ?_)
 show wpAny _ _ (if init+((pr.map prLen).sum:Nat) < 0 then _ else _) _ _ _
 refine wIfN (by kt_len) ?_
 show wpAny _ _ (if init+((pr.map prLen).sum:Nat)≥2 ^ 63 then _ else _) _ _ _
 refine wIfN (by kt_len) ?_
 exact wpAny_bind (wpAny_mkInt (wpAny_pure ⟨_,rfl,k {s' with toks:=_} _ K tb b o⟩))
theorem str_acc {pr:List Pr2}{ps:Array Value}{Q:Value→Shared→Prop}(hA:A.handled=none)(hd:A.depth+1 < 1000)(hu:A.units+2 < cLine)(T:TopIn w.params s.heap)(X:AccAt s.heap x vs D)
  (hP:s.heap.get? 69=some ⟨.none,none,.fields ps,⟨[]⟩⟩) (ht:TriplesOk ps.toList) (hb:AllBare s.gens) (pa:PairsAt s.heap vs pr) (hn:pr.length≤sizeLine) (hsum:(pr.map fun p=>p.1++p.2).flatten.length≤sizeLine)
  (k:∀ s' t',(∀ b o,b≠69→s.heap.get? b=some o→s'.heap.get? b=some o)→(∃ ps':Array Value,s'.heap.get? 69=some ⟨.none,none,.fields ps',⟨[]⟩⟩∧TriplesOk ps'.toList)→AllBare s'.gens→s'.os=s.os →
   Q (.str ⟨⟨(pr.map fun p=>p.1++p.2).flatten⟩⟩ t') s'):wpAny (model Pr w) A (call (.type "str") [.ref x]) Q E s:=by
 refine callType_newIn F.called_str (by decide) (F.typeCall_str_1 _) (F.newCall_str_1 _) (fun obj=>F.args_object_init_2 obj _) F.entry_str_new (S:=fun A' R s₁=>A'=A.in1∧s₁=s ∧
  ∀ s' t',(∀ b o,b≠69→s.heap.get? b=some o→s'.heap.get? b=some o)→(∃ ps':Array Value,s'.heap.get? 69=some ⟨.none,none,.fields ps',⟨[]⟩⟩∧TriplesOk ps'.toList)→AllBare s'.gens→s'.os=s.os →
   R (.ok (.ret (.str ⟨⟨(pr.map fun p=>p.1++p.2).flatten⟩⟩ t'))) s') ?_ ⟨rfl,rfl,fun s' t' a b c d=>⟨typeIs_str _ _ _,k s' t' a b c d⟩⟩
 refine MeetsIn.of_wp fun A' R s₁ hS=>?_
 obtain ⟨rfl,rfl,hR⟩:=hS
 rw [str_new_tree]
 refine wpAny_bind (wpAny_pure ?_)
 refine wpAny_bind (wpAny_of_eq isSubtype_str_str ?_)
 refine wpAny_bind ?_
 unfold Builtin.Str.strOf
 show wpAny _ _ (cRoomFor "str" [.ref x]>>=_) _ _ _
 refine wpAny_bind (wpAny_cRoomFor (by exact hu) ?_)
 refine wpAny_bind (m:=callSpecial? (.ref x) (Str.ofString "__str__")) (callSpD_acc (of:=o74 w.params) T X (accM_at _ (a:=74) (by decide)) lk_str (by kernel_rfl!) (by kernel_rfl!) (by decide) (by decide)
  (strM_ok (A:=A.in1.in1) hA hd T X hP ht hb pa hn hsum fun s' t' K tb b o=>?_))
 exact wpAny_pure (wpAny_pure ⟨_,rfl,hR s' t' K tb b o⟩)
set_option tactic.hygienic true
end
section
variable {w:World}{o₀:OsState}{A:Around}{env:Env}{st st' st₁ st₂:St}{B:Addr→Obj→Prop}{ad:Nat→Addr}{s:Shared}{E:Value→Shared→Prop}{n:Nat}{r:Rec}{Q:Value→Shared→Prop}
set_option tactic.hygienic false
theorem Rep.setK (R:Rep w o₀ B env ad st s){i:Nat}{o:AObj}{h':Heap}{tk:Nat}(hi:i < st.μ.length)(hk:∀ a ob,a≠ad i→s.heap.get? a=some ob→h'.get? a=some ob)(x:ObjR env st.μ.length ad h' (ad i) o) :
  Rep w o₀ B env ad {st with μ:=st.μ.set i o} {s with heap:=h',toks:=tk}:=by
 have hlen:(st.μ.set i o).length=st.μ.length:=by simp
 obtain ⟨oi,ei,ci,it,k,di⟩:=R.at hi
 have ht:∀ t items,s.heap.IsTuple t items→h'.IsTuple t items:=fun t items it=>by
  refine x1_2 (R.tuple_rest it) fun ob c d r=>?_
  exact ⟨ob,hk _ _ (r.2.2.2.2.2 i hi) r.1,c,d⟩
 have hv:∀ u v,VR st.μ.length ad s.heap u v→VR st.μ.length ad h' u v:=fun u v x=>x.mono (Nat.le_refl _) (Agree.refl _ _) ht
 have hdata:∀ {a ob},s.heap.get? a=some ob→(∀ items k,ob.data≠.seq items k)→a≠ad i:=by
  rintro a ob e h rfl;cases someI ei e;exact h _ _ di
 refine {kept:=fun a ob b=>hk a ob ((R.offB a ob b).2.2.2.2 i hi) (R.kept a ob b),top:=R.top,kd:=R.kd,ns:=?_,cl:=?_,cells:=R.cells,cellObj:=?_,apart:=R.apart,mem:=?_,inj:=by simpa [hlen] using R.inj,offB:=by simpa [hlen] using R.offB,tab:=?_,bare:=R.bare,os:=R.os}
 ·refine x1_1 (R.ns) fun m hz01 f=>?_;refine x3_2 hz01 fun o' es ep e' d' r=>?_
  refine ⟨m,⟨o',es,ep,hk _ _ (hdata e' (by simp [d'])) e',d',r⟩,fun x v e k=>?_⟩
  refine x1_1 (f x v e k) fun val a b=>?_
  rw [hlen]
  exact ⟨val,a,hv _ _ b⟩
 ·intro x v e k
  refine x2_2 (R.cl x v e k) fun c val a hz03 d=>?_;refine x1_1 hz03 fun oc ec dc=>?_
  rw [hlen]
  exact ⟨c,val,a,⟨oc,hk _ _ (hdata ec (by simp [dc])) ec,dc⟩,hv _ _ d⟩
 ·intro x c m
  refine x2_1 (R.cellObj x c m) fun v₀ oc ec dc=>?_
  exact ⟨v₀,oc,hk _ _ (hdata ec (by simp [dc])) ec,dc⟩
 ·intro j oj e
  rw [hlen]
  by_cases hj:j=i
  ·subst hj
   have:oj=o:=by
    rw [List.getElem?_set_self hi] at e;exact (Option.some.inj e).symm
   subst this;exact x
  ·have e':st.μ[j]?=some oj:=by
    rw [List.getElem?_set_ne (Ne.symm hj)] at e;exact e
   have hjl:j < st.μ.length:=by
    rcases Nat.lt_or_ge j st.μ.length with h | h
    ·exact h
    ·rw [List.getElem?_eq_none h] at e';exact noS e'
   have hne:ad j≠ad i:=by
    rcases Nat.lt_or_gt_of_ne hj with h | h
    ·exact R.inj _ _ h hi
    ·exact (R.inj _ _ h hjl).symm
   exact (R.mem j oj e').mono hv (fun ob e=>hk _ _ hne e) fun D ob e c _ _=>hk _ _ (by rintro rfl;rw [ei] at e;cases e;refine x2_0 c fun _ _ c=>?_;rw [di] at c;cases c) e
 ·intro a h
  refine x1_0 (R.tab a h) fun vs e=>?_
  exact ⟨vs,hk _ _ (hdata e (by simp)) e⟩
theorem Rep.topIn (R:Rep w o₀ B env ad st s):TopIn w.params s.heap:=fun a o e h1 h2=>R.obj e h1 h2
set_option tactic.hygienic true
theorem pairs_of {m:Nat}{h:Heap}{l:List AV}{vs:List Value}{pr:List Pr2}(e:prOf l=some pr)(al:All2 (VR m ad h) l vs):PairsAt h vs pr:=by
 induction al generalizing pr with
 | nil=>refine someE e ?_;exact .nil
 | @cons a v l vs x y ih=>
  refine bindE1 e fun p e0 e=>?_
  refine mapE1 e fun ps e1 e2=>?_
  subst e2
  refine bindE1 e0 fun l h1 e0=>?_
  refine bindE1 e0 fun q h2 e0=>?_
  refine bindE1 e0 fun b h3 e0=>?_
  refine mapE1 e0 fun c h4 e0=>?_
  subst e0
  obtain rfl:=asT_inv h1
  refine x2_2 x fun t us hq2 it al=>?_;subst hq2
  revert it
  refine ln2_al (C:=fun us=>h.IsTuple t ⟨us⟩→_) h2 al fun u v y z it=>?_
  rw [asS_inv h3] at y
  rw [asS_inv h4] at z
  refine x1_0 y fun ta hq1=>?_;subst hq1;refine x1_0 z fun tb hq1=>?_;subst hq1;exact .cons ⟨t,ta,tb,rfl,it⟩ (ih e1)
theorem prOf_len {l:List AV}{pr:List Pr2}(e:prOf l=some pr):pr.length=l.length:=by
 induction l generalizing pr with
 | nil=>obtain rfl:=Option.some.inj e;rfl
 | cons a l ih=>
  refine bindE1 e fun p e0 e=>?_
  refine mapE1 e fun ps e1 e2=>?_
  subst e2
  simp [ih e1]
set_option tactic.hygienic false
theorem Rep.acc (R:Rep w o₀ B env ad st s){i:Nat}{l:List AV}{kk:Nat}{init:Int}(e:st.μ[i]?=some (.acc l kk init)) :
  i < st.μ.length∧(l.length≤kk∧kk≤topK)∧∃ vs D tn,AccAt s.heap (ad i) vs D∧All2 (VR st.μ.length ad s.heap) l vs∧s.heap.Ns D (fun x=>if x=Str.ofString "_initial_size" then some (.int init tn) else none)∧D≠ad i ∧
   (∀ h',(∀ b o,b≠ad i→s.heap.get? b=some o→h'.get? b=some o)→∀ (l':List AV) kk' vs',AccAt h' (ad i) vs' D→All2 (VR st.μ.length ad h') l' vs'→l'.length≤kk'∧kk'≤topK→ObjR env st.μ.length ad h' (ad i) (.acc l' kk' init)):=by
 have hi:i < st.μ.length:=by
  rcases Nat.lt_or_ge i st.μ.length with h | h
  ·exact h
  ·rw [List.getElem?_eq_none h] at e;exact noS e
 obtain ⟨z,vs,q,D,sl,ex,al,hz07,hz08,n1,n2⟩:=R.mem i _ e;refine x1_1 hz07 fun od e2 c2=>?_;refine x1_0 hz08 fun tn nn=>?_
 have hD:D≠ad i:=by rintro rfl;cases someI ex e2;refine x2_0 c2 fun _ _ c2=>?_;cases c2
 refine ⟨hi,z,vs,D,tn,⟨q,sl,ex⟩,al,nn,hD,fun h' K l' kk' vs' X' al' z'=>?_⟩
 refine x2_0 X' fun q' sl' ex'=>?_
 exact ⟨z',vs',q',D,sl',ex',al',⟨od,K _ _ hD e2,c2⟩,⟨tn,nn.at' fun o e=>K _ _ hD e⟩,n1,n2⟩
theorem Rep.tupK (R:Rep w o₀ B env ad st s){i:Nat}{h':Heap}(hi:i < st.μ.length)(K:∀ b o,b≠ad i→s.heap.get? b=some o→h'.get? b=some o):∀ u v,VR st.μ.length ad s.heap u v→VR st.μ.length ad h' u v:=
 fun u v x=>x.mono (Nat.le_refl _) (Agree.refl _ _) fun t items it=>by
  refine x1_2 (R.tuple_rest it) fun ob c d r=>?_
  exact ⟨ob,K _ _ (r.2.2.2.2.2 i hi) r.1,c,d⟩
theorem a_push {i:Nat}{l:List AV}{kk:Nat}{init:Int}{a b:List Nat}{ov va vb:Value}(hA:AOk A n)(R:Rep w o₀ B env ad st s)(e:st.μ[i]?=some (.acc l kk init))(V:VR st.μ.length ad s.heap (.ref i) ov)
  (Va:VR st.μ.length ad s.heap (.str a) va) (Vb:VR st.μ.length ad s.heap (.str b) vb) (hk:kk < topK)
  (k:∀ s',Nx w o₀ B env ad st ad {st with μ:=st.μ.set i (.acc (l++[.tup [.str a,.str b]]) (kk+1) init)} s'→Q .none s'):wpAny (model Pr w) A (call (.ref 45) [ov,va,vb]) Q E s:=by
 obtain ⟨hi,z,vs,D,tn,X,al,nD,hD,mk⟩:=R.acc e
 refine x0_1 V fun _ hq1=>?_;subst hq1
 have T:=R.topIn
 refine push_ok T T.nolimit (by have:=hA.2.1;kt_len) X nD (by simp;decide +kernel) (by rw [← al.length];simp only [topK,sizeLine_eq] at *;kt_len) fun h' tk tup K it X'=>?_
 have hv:=R.tupK hi K
 refine k _ ⟨Agree.refl _ _,by simp,R.setK hi K (mk h' K _ _ _ X' ((al.mono hv).app (.cons ⟨tup,_,rfl,it,.cons Va (.cons Vb .nil)⟩ .nil)) (by simp;kt_len))⟩
theorem a_pop {i:Nat}{l:List AV}{kk:Nat}{init j:Int}{t:Tok}{us:List Value}(hA:AOk A n)(R:Rep w o₀ B env ad st s)(e:st.μ[i]?=some (.acc l kk init))(h0:0≤j)
  (hb:BindsTo s (fd53 w.params) ⟨us,[]⟩ [(Str.ofString "self",.ref (ad i)),(Str.ofString "i",.int j t)])
  (k:∀ ad' v s',Nx w o₀ B env ad st ad' ((⟨st.kd,st.σ,st.μ.set i (.acc (l.take j.toNat) kk init)⟩:St).alloc (.list (l.drop j.toNat) kk)).2 s'→VR (st.μ.length+1) ad' s'.heap (.ref st.μ.length) v→Q v s') :
  wpAny (model Pr w) A (call (.ref 53) us) Q E s:=by
 obtain ⟨hi,z,vs,D,tn,X,al,nD,hD,mk⟩:=R.acc e
 have T:=R.topIn
 refine pop_body T T.nolimit (by have:=hA.2.1;kt_len) X h0 (by rw [← al.length];simp only [topK,sizeLine_eq] at *;kt_len) hb fun h' tk L K hL pL X'=>?_
 have hv:=R.tupK hi K
 have R':=R.setK (tk:=tk) hi K (mk h' K (l.take j.toNat) kk _ X' ((al.mono hv).take _) (by simp;kt_len))
 have R'':=R'.adopt (a:=L) (o:=.list (l.drop j.toNat) kk) (by
   show ObjR env (st.μ.set i _).length ad h' L _
   rw [List.length_set]
   exact ⟨_,pL,(al.mono hv).drop _,by simp;kt_len⟩)
  (fun o hB=>absurd (Heap.lt_size (R.kept L o hB)) (Nat.not_lt.2 hL)) (fun m hm=>by
   have hm:m < st.μ.length:=by simpa using hm
   exact Nat.ne_of_lt (Nat.lt_of_lt_of_le (R.ad_lt hm) hL))
 have hlen:(st.μ.set i (.acc (l.take j.toNat) kk init)).length=st.μ.length:=by simp
 rw [hlen] at R''
 exact k _ _ _ ⟨agree_upd _ _ _,by simp [St.alloc],R''⟩ ⟨by simp,by simp [updAd]⟩
theorem a_count {i:Nat}{l:List AV}{kk:Nat}{init:Int}{ov:Value}(hA:AOk A n)(R:Rep w o₀ B env ad st s)(e:st.μ[i]?=some (.acc l kk init))(V:VR st.μ.length ad s.heap (.ref i) ov)
  (k:∀ v s',Nx w o₀ B env ad st ad st s'→VR st.μ.length ad s'.heap (.int l.length) v→Q v s'):wpAny (model Pr w) A (call (.ref 97) [ov]) Q E s:=by
 obtain ⟨hi,z,vs,D,tn,X,al,nD,hD,mk⟩:=R.acc e
 refine x0_1 V fun _ hq1=>?_;subst hq1
 refine count_ok R.topIn (by have:=hA.2.1;kt_len) X (by rw [← al.length];simp only [topK,sizeLine_eq] at *;kt_len) fun h' tk t K=>k _ _ ⟨Agree.refl _ _,Nat.le_refl _,R.grow (s':={s with heap:=h',toks:=tk}) K rfl rfl⟩ ⟨t,by rw [al.length]⟩
theorem a_len {i:Nat}{l:List AV}{kk:Nat}{init:Int}{pr:List Pr2}{ov:Value}(hA:AOk A n)(R:Rep w o₀ B env ad st s)(e:st.μ[i]?=some (.acc l kk init))(V:VR st.μ.length ad s.heap (.ref i) ov)(hp:prOf l=some pr)
  (h0:0≤init∧init+((pr.map prLen).sum:Nat)≤1048576)
  (k:∀ v s',Nx w o₀ B env ad st ad st s'→VR st.μ.length ad s'.heap (.int (init+((pr.map prLen).sum:Nat))) v→Q v s'):wpAny (model Pr w) A (call (.builtin "len") [ov]) Q E s:=by
 obtain ⟨hi,z,vs,D,tn,X,al,nD,hD,mk⟩:=R.acc e
 refine x0_1 V fun _ hq1=>?_;subst hq1
 refine x1_0 (R.tab 62 (.inl rfl)) fun hz00 hP=>?_;obtain ⟨ps,ht⟩:=hz00
 refine len_acc hA.1 (by have:=hA.2.1;kt_len) R.topIn X nD (by simp;rfl) hP ht R.bare (pairs_of hp al) h0.1 (by kt_len) fun s' t' K tb b o=>?_
 refine x1_1 tb fun ps' hP' ht'=>?_
 have R':Rep w o₀ B env ad st s':=R.back (fun a o h=>K a o h.2.1 h.1) (fun a h=>by
  rcases h with rfl | rfl
  ·exact ⟨⟨ps',ht'⟩,hP'⟩
  ·refine x1_0 (R.tab 69 (.inr rfl)) fun vs e=>?_;exact ⟨vs,K _ _ (by decide) e⟩) b (o.trans R.os)
 exact k _ _ ⟨Agree.refl _ _,Nat.le_refl _,R'⟩ ⟨t',rfl⟩
theorem a_str {i:Nat}{l:List AV}{kk:Nat}{init:Int}{pr:List Pr2}{ov:Value}(hA:AOk A n)(R:Rep w o₀ B env ad st s)(e:st.μ[i]?=some (.acc l kk init))(V:VR st.μ.length ad s.heap (.ref i) ov)(hp:prOf l=some pr)
  (h0:(pr.map fun p=>p.1++p.2).flatten.length≤1048576)
  (k:∀ v s',Nx w o₀ B env ad st ad st s'→VR st.μ.length ad s'.heap (.str (pr.map fun p=>p.1++p.2).flatten) v→Q v s'):wpAny (model Pr w) A (call (.type "str") [ov]) Q E s:=by
 obtain ⟨hi,z,vs,D,tn,X,al,nD,hD,mk⟩:=R.acc e
 refine x0_1 V fun _ hq1=>?_;subst hq1
 refine x1_0 (R.tab 69 (.inr rfl)) fun hz00 hP=>?_;obtain ⟨ps,ht⟩:=hz00
 have hu:A.units+2 < cLine:=by have:=hA.2.2;simp only [show cLine=9900 from rfl];kt_len
 refine str_acc hA.1 (by have:=hA.2.1;kt_len) hu R.topIn X hP ht R.bare (pairs_of hp al) (by rw [prOf_len hp];simp only [topK,sizeLine_eq] at *;kt_len) (by simp only [sizeLine_eq];kt_len) fun s' t' K tb b o=>?_
 refine x1_1 tb fun ps' hP' ht'=>?_
 have R':Rep w o₀ B env ad st s':=R.back (fun a o h=>K a o h.2.2 h.1) (fun a h=>by
  rcases h with rfl | rfl
  ·refine x1_0 (R.tab 62 (.inl rfl)) fun vs e=>?_;exact ⟨vs,K _ _ (by decide) e⟩
  ·exact ⟨⟨ps',ht'⟩,hP'⟩) b (o.trans R.os)
 exact k _ _ ⟨Agree.refl _ _,Nat.le_refl _,R'⟩ ⟨t',rfl⟩
theorem a_new {init:Int}{v:Value}(hA:AOk A n)(R:Rep w o₀ B env ad st s)(V:VR st.μ.length ad s.heap (.int init) v)
  (k:∀ ad' v s',Nx w o₀ B env ad st ad' (st.alloc (.acc [] 0 init)).2 s'→VR (st.μ.length+1) ad' s'.heap (.ref st.μ.length) v→Q v s'):wpAny (model Pr w) A (call (.ref 100) [v]) Q E s:=by
 refine x1_0 V fun t hq1=>?_;subst hq1
 have nl:env.locals < s.heap.objs.size:=let ⟨_,n,_⟩:=R.ns;n.lt
 have hcell:∀ x c,env.cells.lookup x=some c→c < s.heap.objs.size:=fun x c e=>let ⟨_,_,e,_⟩:=R.cellObj x c e;Heap.lt_size e
 have hadl:∀ i,i < st.μ.length→ad i < s.heap.objs.size:=fun i h=>R.ad_lt h
 have hBl:∀ o a,B a o→a < s.heap.objs.size:=fun o a h=>Heap.lt_size (R.kept a o h)
 have hT:=R.topIn
 have hgr:∀ h' tk,(∀ b o,s.heap.get? b=some o→h'.get? b=some o)→Rep w o₀ B env ad st {s with heap:=h',toks:=tk}:=fun h' tk K=>R.grow (s':={s with heap:=h',toks:=tk}) K rfl rfl
 obtain ⟨hh,g,d,tk,os⟩:=s
 refine new_acc hT (by have:=hA.2.1;kt_len) fun h' tk' K X nD hD=>?_
 have R':=hgr h' tk' K
 refine x2_0 X fun q sl ex=>?_
 have R'':=R'.adopt (a:=hh.objs.size+1) (o:=.acc [] 0 init) ⟨⟨Nat.le_refl _,by simp [topK]⟩,[],q,hh.objs.size,sl,ex,.nil,hD,⟨t,nD⟩,Nat.ne_of_gt nl,fun x c e=>Nat.ne_of_gt (hcell x c e)⟩
  (fun o hB=>absurd (hBl o _ hB) (by simp)) (fun i hi=>Nat.ne_of_lt (Nat.lt_succ_of_lt (hadl i hi)))
 exact k _ _ _ ⟨agree_upd _ _ _,by simp [St.alloc],R''⟩ ⟨by simp,by simp [updAd]⟩
set_option tactic.hygienic true
end
section
open PySem.SeqAt
set_option tactic.hygienic false
theorem int_lt (A:Around){w:World}{E:Value→Shared→Prop}{s:Shared}{a b:Int}{t u:Tok}{Q:Value→Shared→Prop}(h:Q (.bool (decide (a < b))) s):wpAny (model Pr w) A (richCompare .Lt (.int a t) (.int b u)) Q E s:=
 richCompare_gives (typeIs_int s a t) (typeIs_int s b u) F.slot_int_lt F.entry_int_lt (F.args_int_lt_2 _ _) (gives_int_lt a b t u) (fun x=>nomatch x) h
theorem tuple_lt (l b:Addr)(a1 a2 a3 b1 b2 b3:Int)(t1 t2 t3 u1 u2 u3:Tok)(n n2:Nat)(dd dd2:Option Addr)(sl sl2:Array (Option Value))(w:World) :
  MeetsIn Pr w (Builtin.«tuple.__lt__» ⟨[.ref l,.ref b],[]⟩)
   (fun A R s=>s.heap.get? l=some {cls:=.type "tuple",dict:=dd,data:=.seq #[.int a1 t1,.int a2 t2,.int a3 t3] n,slots:=sl}∧s.heap.get? b=some {cls:=.type "tuple",dict:=dd2,data:=.seq #[.int b1 u1,.int b2 u2,.int b3 u3] n2,slots:=sl2} ∧
    R (.ok (.ret (.bool (ltB a1 a2 a3 b1 b2 b3)))) s):=
 .of_wp fun A R s h=>by
  obtain ⟨hp,g,d,tk,os⟩:=s;obtain ⟨hl,hb,h⟩:=h
  have f2:=AutoSeq1.sub_tuple_tuple
  wp_walk using wpAny_loadPart' hl,wpAny_loadPart' hb
  show wpAny _ _ (eqBool (.int a1 t1) (.int b1 u1)) _ _ _
  refine EqAt.int_int (A:=A.in1) (s:=⟨hp,g,d,tk,os⟩) a1 t1 b1 u1 Pr w _ _ ?_
  induction h1:(a1==b1) using Bool.casesOn with
  | false=>
   refine wIfP (by decide) ?_
   refine wpAny_bind (wpAny_rule (wpAny_bind (int_lt _ ?_)))
   have e:ltB a1 a2 a3 b1 b2 b3=decide (a1 < b1):=by unfold ltB;rw [h1];simp
   rw [e] at h
   wp_walk
   exact ⟨_,rfl,h⟩
  | true=>
   refine wIfN (by decide) ?_
   have n1:decide (a1 < b1)=false:=by rw [beq_iff_eq] at h1;subst h1;simp
   wp_walk
   show wpAny _ _ (eqBool (.int a2 t2) (.int b2 u2)) _ _ _
   refine EqAt.int_int (A:=A.in1) (s:=⟨hp,g,d,tk,os⟩) a2 t2 b2 u2 Pr w _ _ ?_
   induction h2:(a2==b2) using Bool.casesOn with
   | false=>
    refine wIfP (by decide) ?_
    refine wpAny_bind (wpAny_rule (wpAny_bind (int_lt _ ?_)))
    have e:ltB a1 a2 a3 b1 b2 b3=decide (a2 < b2):=by unfold ltB;rw [h1,h2,n1];simp
    rw [e] at h
    wp_walk
    exact ⟨_,rfl,h⟩
   | true=>
    refine wIfN (by decide) ?_
    have n2:decide (a2 < b2)=false:=by rw [beq_iff_eq] at h2;subst h2;simp
    wp_walk
    show wpAny _ _ (eqBool (.int a3 t3) (.int b3 u3)) _ _ _
    refine EqAt.int_int (A:=A.in1) (s:=⟨hp,g,d,tk,os⟩) a3 t3 b3 u3 Pr w _ _ ?_
    induction h3:(a3==b3) using Bool.casesOn with
    | false=>
     refine wIfP (by decide) ?_
     refine wpAny_bind (wpAny_rule (wpAny_bind (int_lt _ ?_)))
     have e:ltB a1 a2 a3 b1 b2 b3=decide (a3 < b3):=by unfold ltB;rw [h1,h2,n1,n2];simp
     rw [e] at h
     wp_walk
     exact ⟨_,rfl,h⟩
    | true=>
     refine wIfN (by decide) ?_
     have n3:decide (a3 < b3)=false:=by rw [beq_iff_eq] at h3;subst h3;simp
     have e:ltB a1 a2 a3 b1 b2 b3=false:=by unfold ltB;rw [h1,h2,n1,n2,n3];simp
     rw [e] at h
     wp_walk
     exact ⟨_,rfl,h⟩
theorem tup_lt {w:World}{A:Around}{E:Value→Shared→Prop}{s:Shared}{l b:Addr}{a1 a2 a3 b1 b2 b3:Int}{t1 t2 t3 u1 u2 u3:Tok}{Q:Value→Shared→Prop}(hu:A.units < cLine)
  (hl:s.heap.IsTuple l #[.int a1 t1,.int a2 t2,.int a3 t3]) (hb:s.heap.IsTuple b #[.int b1 u1,.int b2 u2,.int b3 u3]) (h:Q (.bool (ltB a1 a2 a3 b1 b2 b3)) s):wpAny (model Pr w) A (richCompare .Lt (.ref l) (.ref b)) Q E s:=by
 obtain ⟨⟨cls,dd,data,sl⟩,ho,hc,n,hd⟩:=id hl
 obtain ⟨⟨cls2,dd2,data2,sl2⟩,ho2,hc2,n2,hd2⟩:=id hb
 simp only at hc hd hc2 hd2
 subst hc hd hc2 hd2
 exact wpAny_richCompare_same_room ⟨_,ho,rfl⟩ ⟨_,ho2,rfl⟩ F.slot_tuple_lt (call_meetsIn F.slot_tuple_lt ⟨_,ho,rfl⟩ F.entry_tuple_lt (F.args_tuple_lt_2 _ _) (tuple_lt l b a1 a2 a3 b1 b2 b3 t1 t2 t3 u1 u2 u3 n n2 dd dd2 sl sl2 w)
  ⟨ho,ho2,show Value.bool _≠Value.notImplemented∧Q (.bool _) s from ⟨(fun x=>nomatch x),h⟩⟩) hu
set_option tactic.hygienic true
end
set_option tactic.hygienic false
theorem ln1_inv {l:List AV}{a:AV}(h:ln1 l=some a):l=[a]:=by
 rcases l with _ | ⟨x,_ | ⟨y,l⟩⟩
 ·exact noS h
 ·obtain rfl:=Option.some.inj h;rfl
 ·exact noS h
theorem ln2_inv {l:List AV}{p:AV × AV}(h:ln2 l=some p):l=[p.1,p.2]:=by
 rcases l with _ | ⟨x,l⟩
 ·exact noS h
 ·refine mapE1 h fun b h1 h2=>?_
  subst h2;rw [ln1_inv h1]
theorem ln3_inv {l:List AV}{p:AV × AV × AV}(h:ln3 l=some p):l=[p.1,p.2.1,p.2.2]:=by
 rcases l with _ | ⟨x,l⟩
 ·exact noS h
 ·refine mapE1 h fun b h1 h2=>?_
  subst h2;rw [ln2_inv h1]
theorem tri_inv {v:AV}{p:Int × Int × Int}(h:tri v=some p):v=.tup [.int p.1,.int p.2.1,.int p.2.2]:=by
 refine bindE1 h fun l h1 h=>?_
 refine bindE1 h fun q h2 h=>?_
 refine bindE1 h fun a h3 h=>?_
 refine bindE1 h fun b h4 h=>?_
 refine mapE1 h fun c h5 h=>?_
 subst h
 rw [asT_inv h1,ln3_inv h2,asI_inv h3,asI_inv h4,asI_inv h5]
theorem lt3_at {x m:AV}{b:Bool}(h:lt3 x m=some b):∃ a1 a2 a3 b1 b2 b3,x=.tup [.int a1,.int a2,.int a3]∧m=.tup [.int b1,.int b2,.int b3]∧b=ltB a1 a2 a3 b1 b2 b3:=by
 refine bindE1 h fun p h1 h=>?_
 refine mapE1 h fun q h2 h=>?_
 exact ⟨_,_,_,_,_,_,tri_inv h1,tri_inv h2,h.symm⟩
theorem tri_at {n:Nat}{ad:Nat→Addr}{h:Heap}{a1 a2 a3:Int}{v:Value}(x:VR n ad h (.tup [.int a1,.int a2,.int a3]) v):∃ t t1 t2 t3,v=.ref t∧h.IsTuple t #[.int a1 t1,.int a2 t2,.int a3 t3]:=by
 refine x2_2 x fun t vs hq2 it al=>?_;subst hq2
 revert it
 refine ln3_al (C:=fun us=>h.IsTuple t ⟨us⟩→_) (q:=(_,_,_)) rfl al fun u v z h1 h2 h3 it=>?_
 refine x1_0 h1 fun t1 hq1=>?_;subst hq1;refine x1_0 h2 fun t2 hq1=>?_;subst hq1;refine x1_0 h3 fun t3 hq1=>?_;subst hq1
 exact ⟨t,t1,t2,t3,rfl,it⟩
section
variable {w:World}{A:Around}{E:Value→Shared→Prop}{R:Result→Shared→Prop}{I S L:Addr}{h0:Heap}{N:Nat}{ad:Nat→Addr}
set_option tactic.hygienic true in
theorem min_loop (hh:A.handled=none)(hu:A.units+10 < cLine)(hI:h0.objs.size≤I)(hS:h0.objs.size≤S)(hne:I≠S){vs:List Value}(hL:h0.IsList L ⟨vs⟩){c:AV} :
  ∀ (l:List AV) (m:AV) (us:List Value) (j:Nat) (s:Shared) (vm:Value) (q:Nat),minA m l=some c→All2 (VR N ad h0) l us→vs.drop j=us→VR N ad h0 m vm →
   (∀ b o,h0.get? b=some o→s.heap.get? b=some o)→s.heap.IsListIter I L j→s.heap.get? S=some {cls:=.type "list",dict:=none,data:=.seq #[vm,vm] q,slots:=#[]} →
   (∀ v h' tk,VR N ad h0 c v→(∀ b o,h0.get? b=some o→h'.get? b=some o)→R (.ok (.ret v)) {s with heap:=h',toks:=tk}) →
   codeAny (model Pr w) A (.builtin "min.loop" ⟨[.ref I,.none,.ref S],[]⟩) R s:=by
 have hname:(toString "min"++toString ".loop":String)="min.loop":=by decide
 have keepS:∀ (s:Shared) f,(∀ b o,h0.get? b=some o→s.heap.get? b=some o)→∀ b o,h0.get? b=some o→(s.heap.update S (Obj.mapSeq f)).get? b=some o:=fun s f K b o e=>
  (Heap.get?_update_other _ _ (fun h:S=b=>by subst h;exact Nat.lt_irrefl _ (Nat.lt_of_lt_of_le (Heap.lt_size e) hS))).trans (K b o e)
 intro l
 induction l with
 | nil=>
  intro m us j s vm q hm al hus V K hit hSo hR
  obtain rfl:=Option.some.inj hm
  have hus':us=[]:=al.nil_left
  subst hus'
  have hj:(⟨vs⟩:Array Value)[j]?=none:=by
   have:vs.length≤j:=List.drop_eq_nil_iff.1 hus
   simpa using this
  refine codeAny_builtin F.entry_min_loop ?_
  rw [Around.under_plainId F.plain_min_loop _]
  show wpAny _ A.in1 (seqItems? (.ref S)>>=_) _ _ s
  refine wpAny_bind (wpAny_seqItems hSo rfl ?_)
  show wpAny _ A.in1 (tryCatch (pyNext (.ref I)) _>>=_) _ _ s
  refine wpAny_bind (wpAny_tryCatch (wpAny_pyNext_list_end (by exact hh) hit (hL.at fun o e=>K _ _ e) hj fun h' hx=>?_))
  have hS':=hx S _ hne.symm hSo
  have K':∀ b o,h0.get? b=some o→h'.get? b=some o:=fun b o e=>hx b o (fun h=>by subst h;exact Nat.lt_irrefl _ (Nat.lt_of_lt_of_le (Heap.lt_size e) hI)) (K b o e)
  show wpAny _ A.in1 (updateSeq S (fun _=>#[])>>=_) _ _ _
  refine wpAny_bind (wpAny_updateSeq hS' rfl (wpAny_bind (wpAny_letGo (wpAny_pure ?_))))
  exact hR vm _ _ V (keepS {s with heap:=h'} _ K')
 | cons x l ih=>
  intro m us j s vm q hm al hus V K hit hSo hR
  cases al with
  | cons hx al=>
  rename_i vx us
  simp only [minA] at hm
  refine bindE1 hm fun b hb hm=>?_
  have hj:(⟨vs⟩:Array Value)[j]?=some vx:=by
   have:vs[j]?=some vx:=by
    have:=congrArg (·[0]?) hus
    simpa using this
   simpa using this
  have hus':vs.drop (j+1)=us:=by
   rw [← List.drop_drop,hus];rfl
  refine codeAny_builtin F.entry_min_loop ?_
  rw [Around.under_plainId F.plain_min_loop _]
  show wpAny _ A.in1 (seqItems? (.ref S)>>=_) _ _ s
  refine wpAny_bind (wpAny_seqItems hSo rfl ?_)
  show wpAny _ A.in1 (tryCatch (pyNext (.ref I)) _>>=_) _ _ s
  refine wpAny_bind (wpAny_tryCatch (wpAny_pyNext_list_item hit (hL.at fun o e=>K _ _ e) hj fun h' hit' hs'=>?_))
  have hS':=(hs'.2 S hne.symm).trans hSo
  have K':∀ b o,h0.get? b=some o→h'.get? b=some o:=fun b o e=>(hs'.2 b (fun h=>by subst h;exact Nat.lt_irrefl _ (Nat.lt_of_lt_of_le (Heap.lt_size e) hI))).trans (K b o e)
  refine x6_2 (lt3_at hb) fun a1 a2 a3 b1 b2 b3 hq6 hq7 hq8=>?_;subst hq6;subst hq7;subst hq8
  refine x4_1 (tri_at hx) fun t t1 t2 t3 hq4 it=>?_;subst hq4
  refine x4_1 (tri_at V) fun u u1 u2 u3 hq4 iu=>?_;subst hq4
  have it':h'.IsTuple t #[.int a1 t1,.int a2 t2,.int a3 t3]:=let ⟨o,e,r⟩:=it;⟨o,K' _ _ e,r⟩
  have iu':h'.IsTuple u #[.int b1 u1,.int b2 u2,.int b3 u3]:=let ⟨o,e,r⟩:=iu;⟨o,K' _ _ e,r⟩
  show wpAny _ A.in1 (tryCatch (holding [.ref t,.ref t] (richCompare .Lt (.ref t) (.ref u)>>=_)) _>>=_) _ _ _
  refine wpAny_bind (wpAny_tryCatch (wpAny_holding (wpAny_bind (tup_lt (s:={s with heap:=h'}) (by show A.units+1 < cLine;kt_len) it' iu' ?_))))
  refine wpAny_bind (wpAny_holding (wpAny_truthy_bool ?_))
  refine wpAny_bind (wpAny_letGo (wpAny_pure ?_))
  induction hlt:ltB a1 a2 a3 b1 b2 b3 using Bool.casesOn with
  | true=>
   rw [hlt] at hm
   simp only [if_true] at hm ⊢
   refine wpAny_bind (wpAny_updateSeq hS' rfl (wpAny_bind (wpAny_letGo ?_)))
   rw [hname]
   refine wpAny_pure ⟨plainId_quiet F.plain_min_loop _,ih _ us (j+1) _ (.ref t) _ hm al hus' hx (keepS {s with heap:=h'} _ K') ?_ (Heap.get?_update_self _ hS' rfl) fun v h'' tk'' V' K''=>hR v h'' tk'' V' K''⟩
   exact hit'.at fun o e=>(Heap.get?_update_other _ _ hne.symm).trans e
  | false=>
   rw [hlt] at hm
   simp only [Bool.false_eq_true,if_false] at hm ⊢
   refine wpAny_bind (wpAny_letGo ?_)
   rw [hname]
   exact wpAny_pure ⟨plainId_quiet F.plain_min_loop _,ih _ us (j+1) _ (.ref u) q hm al hus' V K' hit' hS' fun v h'' tk'' V' K''=>hR v h'' tk'' V' K''⟩
end
section
variable {w:World}{o₀:OsState}{A:Around}{env:Env}{st st':St}{B:Addr→Obj→Prop}{ad:Nat→Addr}{s:Shared}{E:Value→Shared→Prop}{n:Nat}{r:Rec}{Q:Value→Shared→Prop}
set_option tactic.hygienic true in
theorem p_min {i:Nat}{x:AV}{l:List AV}{kk:Nat}{c:AV}{u:Value}(hA:AOk A n)(R:Rep w o₀ B env ad st s)(e:st.μ[i]?=some (.list (x::l) kk))(V:VR st.μ.length ad s.heap (.ref i) u)(hm:minA x l=some c)
  (k:∀ v s',Rep w o₀ B env ad st s'→VR st.μ.length ad s'.heap c v→Q v s'):wpAny (model Pr w) A (call (.builtin "min") [u]) Q E s:=by
 refine x0_1 V fun hi hq1=>?_;subst hq1
 refine x1_2 (R.mem _ _ e) fun vs p al z=>?_
 cases al with
 | cons hx al=>
 rename_i vx us
 have hname:(toString "min"++toString ".loop":String)="min.loop":=by decide
 refine call_function_tree F.kind_min F.plain_min F.entry_min (F.args_min1 _) ?_
 show wpAny _ A.in1 (Builtin.Builtins.bindParams "min" ["key","default"] 0 ⟨[],[]⟩>>=_) _ _ s
 refine wpAny_bind (wpAny_of_eq (show Builtin.Builtins.bindParams "min" ["key","default"] 0 ⟨[],[]⟩=pure [none,none] from rfl) ?_)
 refine wpAny_bind (wpAny_pure ?_)
 refine wpAny_bind (wpAny_pyIter_list p.isList ?_)
 refine wpAny_bind (wpAny_newObj_type ?_)
 rw [hname]
 have hL:=p.isList
 have hu:A.units+10 < cLine:=by have:=hA.2.2;simp only [show cLine=9900 from rfl];kt_len
 generalize hh1:s.heap.push {cls:=.type "list_iterator",data:=.fields #[.ref (ad i),.int 0 0]}=h1
 have hI1:h1.IsListIter s.heap.objs.size (ad i) 0:=⟨_,by rw [← hh1];exact Heap.get?_push_size _ rfl,rfl,rfl⟩
 have k1:∀ b o,s.heap.get? b=some o→h1.get? b=some o:=fun b o e=>by rw [← hh1];exact Heap.get?_push_of_some _ e
 have hsz1:h1.objs.size=s.heap.objs.size+1:=by rw [← hh1,Heap.size_push]
 generalize hh2:h1.push {cls:=.type "list",data:=.seq #[]}=h2
 have k2:∀ b o,h1.get? b=some o→h2.get? b=some o:=fun b o e=>by rw [← hh2];exact Heap.get?_push_of_some _ e
 have hS2:h2.get? h1.objs.size=some {cls:=.type "list",data:=.seq #[]}:=by rw [← hh2];exact Heap.get?_push_size _ rfl
 have hI2:h2.IsListIter s.heap.objs.size (ad i) 0:=hI1.at fun o e=>k2 _ _ e
 have hne:s.heap.objs.size≠h1.objs.size:=by rw [hsz1];exact Nat.ne_of_lt (Nat.lt_succ_self _)
 refine wpAny_pure ⟨plainId_quiet F.plain_min_loop _,codeAny_builtin F.entry_min_loop ?_⟩
 rw [Around.under_plainId F.plain_min_loop _]
 show wpAny _ A.in1 (seqItems? (.ref h1.objs.size)>>=_) _ _ _
 refine wpAny_bind (wpAny_seqItems (s:={s with heap:=h2}) hS2 rfl ?_)
 show wpAny _ A.in1 (tryCatch (pyNext (.ref s.heap.objs.size)) _>>=_) _ _ _
 refine wpAny_bind (wpAny_tryCatch (wpAny_pyNext_list_item (s:={s with heap:=h2}) hI2 (hL.at fun o e=>k2 _ _ (k1 _ _ e)) (x:=vx) rfl fun h3 hI3 hs3=>?_))
 have hS3:=(hs3.2 _ hne.symm).trans hS2
 show wpAny _ A.in1 (updateSeq h1.objs.size (fun _=>#[vx,vx])>>=_) _ _ _
 refine wpAny_bind (wpAny_updateSeq (s:={s with heap:=h3}) hS3 rfl ?_)
 rw [hname]
 have K:∀ b o,s.heap.get? b=some o→h3.get? b=some o:=fun b o e=>(hs3.2 b (Nat.ne_of_lt (Heap.lt_size e))).trans (k2 _ _ (k1 _ _ e))
 refine wpAny_pure ⟨plainId_quiet F.plain_min_loop _,min_loop (h0:=s.heap) (N:=st.μ.length) (ad:=ad) hA.1 hu (Nat.le_refl _) (by rw [hsz1];exact Nat.le_succ _) hne hL l x us 1 _ vx _ hm al rfl hx ?_ ?_ (Heap.get?_update_self _ hS3 rfl) fun v h' tk V' K'=>?_⟩
 ·exact fun b o e=>(Heap.get?_update_other _ _ (fun h:h1.objs.size=b=>by subst h;have:=Heap.lt_size e;rw [hsz1] at this;exact absurd this (by simp))).trans (K b o e)
 ·exact hI3.at fun o e=>(Heap.get?_update_other _ _ hne.symm).trans e
 ·exact k v _ (R.grow (s':={s with heap:=h',toks:=tk}) K' rfl rfl) (V'.mono (Nat.le_refl _) (Agree.refl _ _) fun t items ⟨o,e,c⟩=>⟨o,K' _ _ e,c⟩)
end
set_option tactic.hygienic false
theorem AOk.le {A:Around}{n m:Nat}(h:AOk A m)(hn:n≤m):AOk A n:=⟨h.1,by have:=h.2.1;kt_len,by have:=h.2.2;kt_len⟩
theorem all2_one {α β:Type}{R:α→β→Prop}{a:α}{m:List β}(h:All2 R [a] m):∃ b,m=[b]∧R a b:=by
 cases h with | cons x y=>cases y;exact ⟨_,rfl,x⟩
theorem all2_two {α β:Type}{R:α→β→Prop}{a a':α}{m:List β}(h:All2 R [a,a'] m):∃ b b',m=[b,b']∧R a b∧R a' b':=by
 cases h with | cons x y=>cases y with | cons x' z=>cases z;exact ⟨_,_,rfl,x,x'⟩
theorem lookF_el {y:Nm}{v u:UF}{l:List (Nm × UF)}{x:Nm}{C:Prop}(h:lookF ((y,v)::l) x=some u)(k:(y==x)=true→v=u→C)(k':lookF l x=some u→C):C:=
 iteB h (fun e h=>k e (Option.some.inj h)) fun _ h=>k' h
theorem lookF_FT (P:Params){x:Nm}{u:UF}(h:lookF FT x=some u):∃ T a ns fd,(T,a)∈[("_ellipsis_match",111),("_strcoll",118),("_strip_padding",125),("b1_set",133),("in_table_b1",143),("b3_exceptions",144),("map_table_b3",189),("_law_typed",194),("_Accumulator",100)] ∧
  x=nm (Str.ofString T)∧FnAt P u a ns fd:=by
 delta FT at h
 refine lookF_el h (fun e h=>?_) fun h=>?_
 ·subst h;refine x1_0 (fn6 P) fun fd X=>?_;exact ⟨_,_,_,fd,by decide,(beq_iff_eq.1 e).symm,X⟩
 refine lookF_el h (fun e h=>?_) fun h=>?_
 ·subst h;refine x1_0 (fn8 P) fun fd X=>?_;exact ⟨_,_,_,fd,by decide,(beq_iff_eq.1 e).symm,X⟩
 refine lookF_el h (fun e h=>?_) fun h=>?_
 ·subst h;refine x1_0 (fn9 P) fun fd X=>?_;exact ⟨_,_,_,fd,by decide,(beq_iff_eq.1 e).symm,X⟩
 refine lookF_el h (fun e h=>?_) fun h=>?_
 ·subst h;refine x1_0 (fn16 P) fun fd X=>?_;exact ⟨_,_,_,fd,by decide,(beq_iff_eq.1 e).symm,X⟩
 refine lookF_el h (fun e h=>?_) fun h=>?_
 ·subst h;refine x1_0 (fn12 P) fun fd X=>?_;exact ⟨_,_,_,fd,by decide,(beq_iff_eq.1 e).symm,X⟩
 refine lookF_el h (fun e h=>?_) fun h=>?_
 ·subst h;refine x1_0 (fn14 P) fun fd X=>?_;exact ⟨_,_,_,fd,by decide,(beq_iff_eq.1 e).symm,X⟩
 exact noS h
section
variable {w:World}{o₀:OsState}{A:Around}{env:Env}{st st' st₁ st₂:St}{B:Addr→Obj→Prop}{ad:Nat→Addr}{s:Shared}{E:Value→Shared→Prop}{n:Nat}{r:Rec}{a:AV}
theorem withC {as : List Expr} {pos : Pos} {Q : Value → Shared → Prop} (ha : as.all notStar = true)
    (h : wpAny (model Pr w) A (spliced (backTo pos (starEach as env))) (fun vs s' => TopIn w.params s'.heap ∧ wpAny (model Pr w) A (call (.ref 100) vs) Q E s') E s) : wpAny (model Pr w) A (callWith pos (.ref 100) [] (backTo pos (starEach as env)) []) Q E s := by
  have hst : ((backTo pos (starEach as env)).any (fun x => x.fst) || ([] : List (Option Str × Sem Value)).any fun x => x.fst.isNone) = false := by
    rw [noStarB ha]; rfl
  unfold callWith
  refine wpAny_bind (wpAny_holding (args_ok ha (wpAny_mono h (fun vs s₁ h₁ => ?_) fun _ _ x => x)))
  refine x0_1 h₁ fun T h₁ => ?_
  obtain ⟨hh, g, d, t, os⟩ := s₁
  refine wpAny_bind (wpAny_standAt ?_)
  refine wpAny_bind (wpAny_keeperOf_exc T.cls ?_)
  rw [hst]
  show wpAny _ _ (call (.ref 100) vs [] >>= fun r => do holding [r] point; pure r) _ _ _
  exact wpAny_bind (wpAny_mono h₁ (fun r s' hr => wpAny_bind (wpAny_holding (wpAny_point (wpAny_pure hr)))) fun _ _ x => x)
theorem callC_ok {x:Str}{p pos:Pos}{as:List Expr}{vs:List AV}{Q:Value→Shared→Prop}(hEs:GEs w o₀ n r.Es)(hA:AOk A n)(hN:EnvOk env)(hk:isGlob (kindIn st.kd (nm x))=true)(hx:x=Str.ofString "_Accumulator")
  (ha:as.all notStar=true) (h:r.Es as st=some (vs,st')) (R:Rep w o₀ B env ad st s)
  (k:∀ ad' us s',Nx w o₀ B env ad st ad' st' s'→All2 (VR st'.μ.length ad' s'.heap) vs us→wpAny (model Pr w) A (call (.ref 100) us) Q E s'):wpAny (model Pr w) A (eval (.Call (.Name x p) as [] pos) env) Q E s:=by
 subst hx
 exact Call_Name rfl (globU R hN hk (by decide +kernel) (gl1_at w.params (by decide)) (withC ha (hEs hA hN h R fun ad' us s' N al=>⟨N.R.topIn,k ad' us s' N al⟩)))
theorem q_len {vs:List AV}{us:List Value}{Q:Value→Shared→Prop}(hA:AOk A n)(h:primLen vs st=some (a,st'))(R:Rep w o₀ B env ad st s)(al:All2 (VR st.μ.length ad s.heap) vs us)(k:Kt w o₀ B env ad st st' a Q):wpAny (model Pr w) A (call (.builtin "len") us) Q E s:=by
 refine bindE1 h fun v h1 h=>ln1_al h1 al fun u hv=>?_
 induction v using AV.casesOn with
 | str l=>
  refine iteE h fun hs h=>?_
  kt_eqs;exact p_len R hv (of_decide_eq_true hs) (k.tok R)
 | ref i=>
  dsimp only at h
  revert h
  induction e:st.μ[i]? using Option.casesOn with
  | none=>exact noS
  | some o=>
   intro h
   induction o using AObj.casesOn with
   | list l kk=>cases h;exact p_lenL R e hv (k.tok R)
   | acc l kk init=>
    refine bindE1 h fun pr hp h=>?_
    refine iteE h fun h0 h=>?_
    kt_eqs;exact a_len hA R e hv hp h0 fun v s' N' V=>k _ _ _ N' V
 | _=>exact noS h
theorem q_chr {vs:List AV}{us:List Value}{Q:Value→Shared→Prop}(h:primChr vs st=some (a,st'))(R:Rep w o₀ B env ad st s)(al:All2 (VR st.μ.length ad s.heap) vs us)(k:Kt w o₀ B env ad st st' a Q):wpAny (model Pr w) A (call (.builtin "chr") us) Q E s:=by
 refine bindE1 h fun i h1 h=>oneI h1 al fun u hv=>?_
 refine iteE h fun hs h=>?_
 kt_eqs;exact p_chr hv hs (k.tok R)
theorem q_ord {vs:List AV}{us:List Value}{Q:Value→Shared→Prop}(h:primOrd vs st=some (a,st'))(R:Rep w o₀ B env ad st s)(al:All2 (VR st.μ.length ad s.heap) vs us)(k:Kt w o₀ B env ad st st' a Q):wpAny (model Pr w) A (call (.builtin "ord") us) Q E s:=by
 refine bindE1 h fun i h1 h=>oneS h1 al fun u hv=>?_
 rcases i with _ | ⟨c,_ | ⟨d,l⟩⟩
 ·exact noS h
 ·kt_eqs;exact p_ord hv (k.tok R)
 ·exact noS h
theorem q_max {vs:List AV}{us:List Value}{Q:Value→Shared→Prop}(hA:AOk A n)(h:primMax vs st=some (a,st'))(R:Rep w o₀ B env ad st s)(al:All2 (VR st.μ.length ad s.heap) vs us)(k:Kt w o₀ B env ad st st' a Q):wpAny (model Pr w) A (call (.builtin "max") us) Q E s:=by
 refine bindE1 h fun p h1 h=>ln2_al h1 al fun u v hu hv=>?_
 refine bindE1 h fun x h2 h=>?_
 refine mapE1 h fun y h3 h=>?_
 rw [asI_inv h2] at hu
 rw [asI_inv h3] at hv
 kt_eqs;exact p_max hA.1 R hu hv k.rep
theorem q_min {vs:List AV}{us:List Value}{Q:Value→Shared→Prop}(hA:AOk A n)(h:primMin vs st=some (a,st'))(R:Rep w o₀ B env ad st s)(al:All2 (VR st.μ.length ad s.heap) vs us)(k:Kt w o₀ B env ad st st' a Q):wpAny (model Pr w) A (call (.builtin "min") us) Q E s:=by
 refine bindE1 h fun i h1 h=>oneR h1 al fun u hv=>?_
 refine bindE1 h fun l h2 h=>?_
 refine x1_0 (asL_inv h2) fun kk e=>?_
 rcases l with _ | ⟨x,l⟩
 ·exact noS h
 ·refine mapE1 h fun v hm h=>?_
  kt_eqs
  exact p_min hA R e hv hm k.rep
theorem q_sum {vs:List AV}{us:List Value}{Q:Value→Shared→Prop}(hA:AOk A n)(h:primSum vs st=some (a,st'))(R:Rep w o₀ B env ad st s)(al:All2 (VR st.μ.length ad s.heap) vs us)(k:Kt w o₀ B env ad st st' a Q):wpAny (model Pr w) A (call (.builtin "sum") us) Q E s:=by
 refine bindE1 h fun i h1 h=>oneR h1 al fun u hv=>?_
 refine bindE1 h fun l h2 h=>?_
 refine x1_0 (asL_inv h2) fun kk e=>?_
 refine bindE1 h fun ns hm h=>?_
 refine iteE h fun hs h=>?_
 rw [Bool.and_eq_true] at hs
 kt_eqs
 exact p_sum hA.1 R e hm hs.1 (of_decide_eq_true hs.2) hv k.rep
theorem q_int {vs:List AV}{us:List Value}{Q:Value→Shared→Prop}(h:primInt vs st=some (a,st'))(R:Rep w o₀ B env ad st s)(al:All2 (VR st.μ.length ad s.heap) vs us)(k:Kt w o₀ B env ad st st' a Q):wpAny (model Pr w) A (call (.type "int") us) Q E s:=by
 refine mapE1 h fun i h1 h=>oneB h1 al fun u hv=>?_
 kt_eqs;exact p_int hv (k.tok R)
theorem q_str {vs:List AV}{us:List Value}{Q:Value→Shared→Prop}(hA:AOk A n)(h:primStr vs st=some (a,st'))(R:Rep w o₀ B env ad st s)(al:All2 (VR st.μ.length ad s.heap) vs us)(k:Kt w o₀ B env ad st st' a Q):wpAny (model Pr w) A (call (.type "str") us) Q E s:=by
 refine bindE1 h fun i h1 h=>oneR h1 al fun u hv=>?_
 revert h
 induction e:st.μ[i]? using Option.casesOn with
 | none=>exact noS
 | some o=>
  intro h
  induction o using AObj.casesOn with
  | list l kk=>exact noS h
  | acc l kk init=>
   refine bindE1 h fun pr hp h=>?_
   refine iteE h fun h0 h=>?_
   kt_eqs;exact a_str hA R e hv hp h0 fun v s' N' V=>k _ _ _ N' V
theorem q_acc {vs:List AV}{us:List Value}{Q:Value→Shared→Prop}(hA:AOk A n)(h:primAcc vs st=some (a,st'))(R:Rep w o₀ B env ad st s)(al:All2 (VR st.μ.length ad s.heap) vs us)(k:Kt w o₀ B env ad st st' a Q):wpAny (model Pr w) A (call (.ref 100) us) Q E s:=by
 refine mapE1 h fun i h1 h=>oneI h1 al fun u hv=>?_
 kt_eqs
 exact a_new hA R hv fun ad' v s' N' V=>k _ _ _ N' (by simpa [St.alloc] using V)
theorem callUF_st {f:UF}{vs:List AV}{st st':St}(h:callUF r f vs st=some (a,st')):st'=st:=by
 unfold callUF at h
 refine iteE h fun _ h=>?_
 revert h
 induction r.SS f.body ⟨f.kd,f.ps.zip vs,[]⟩ using Option.casesOn with
 | none=>exact noS
 | some p=>
  obtain ⟨fl,s2⟩:=p
  induction fl using AFlow.casesOn with
  | ret v=>intro h;refine iteE h fun _ h=>?_;cases h;rfl
  | _=>exact noS
theorem e_prim {f:Str}{p pos:Pos}{as:List Expr}{vs:List AV}{Q:Value→Shared→Prop}(hEs:GEs w o₀ n r.Es)(hSS:GSS w o₀ n r.SS)(hA:AOk A (n+1))(hN:EnvOk env)(hk:isGlob (kindIn st.kd (nm f))=true)
  (ha:as.all notStar=true) (h1:r.Es as st=some (vs,st₁)) (h:prim FT r (nm f) vs st₁=some (a,st')) (R:Rep w o₀ B env ad st s)
  (k:Kt w o₀ B env ad st st' a Q):wpAny (model Pr w) A (eval (.Call (.Name f p) as [] pos) env) Q E s:=by
 have hA':AOk A n:=hA.le (Nat.le_succ _)
 have nmf:∀ {q:List Nat} {T:String},(nm f==q)=true→nm (Str.ofString T)=q→f=Str.ofString T:=fun h1 h2=>nm_inj ((beq_iff_eq.1 h1).trans h2.symm)
 unfold prim at h
 refine iteB h (fun hf h=>callB_ok (T:="len") hEs hA' hN hk (nmf hf (by decide +kernel)) (by decide) ha h1 R fun ad₁ us s₁ N al=>q_len hA' h N.R al (k.seq N)) fun _ h=>?_
 refine iteB h (fun hf h=>callB_ok (T:="chr") hEs hA' hN hk (nmf hf (by decide +kernel)) (by decide) ha h1 R fun ad₁ us s₁ N al=>q_chr h N.R al (k.seq N)) fun _ h=>?_
 refine iteB h (fun hf h=>callB_ok (T:="ord") hEs hA' hN hk (nmf hf (by decide +kernel)) (by decide) ha h1 R fun ad₁ us s₁ N al=>q_ord h N.R al (k.seq N)) fun _ h=>?_
 refine iteB h (fun hf h=>callB_ok (T:="max") hEs hA' hN hk (nmf hf (by decide +kernel)) (by decide) ha h1 R fun ad₁ us s₁ N al=>q_max hA' h N.R al (k.seq N)) fun _ h=>?_
 refine iteB h (fun hf h=>callB_ok (T:="min") hEs hA' hN hk (nmf hf (by decide +kernel)) (by decide) ha h1 R fun ad₁ us s₁ N al=>q_min hA' h N.R al (k.seq N)) fun _ h=>?_
 refine iteB h (fun hf h=>callB_ok (T:="sum") hEs hA' hN hk (nmf hf (by decide +kernel)) (by decide) ha h1 R fun ad₁ us s₁ N al=>q_sum hA' h N.R al (k.seq N)) fun _ h=>?_
 refine iteB h (fun hf h=>callT_ok (T:="int") hEs hA' hN hk (nmf hf (by decide +kernel)) (by decide) ha h1 R fun ad₁ us s₁ N al=>q_int h N.R al (k.seq N)) fun _ h=>?_
 refine iteB h (fun hf h=>callT_ok (T:="str") hEs hA' hN hk (nmf hf (by decide +kernel)) (by decide) ha h1 R fun ad₁ us s₁ N al=>q_str hA' h N.R al (k.seq N)) fun _ h=>?_
 refine iteB h (fun hf h=>callC_ok hEs hA' hN hk (nmf hf rfl) ha h1 R fun ad₁ us s₁ N al=>q_acc hA' h N.R al (k.seq N)) fun _ h=>?_
 refine bindE1 h fun u hu h=>?_
 refine x4_2 (lookF_FT w.params hu) fun T a₀ ns fd hm hx X=>?_
 refine callN_ok X hEs hA' hN hk (nm_inj hx) hm ha h1 R fun ad₁ us s₁ N al=>?_
 exact callF_ok X hSS hA h N.R al fun v s' R' V=>k _ _ _ ⟨N.ag,by rw [callUF_st h];exact N.le,R'⟩ V
end
section
variable {w:World}{o₀:OsState}{A:Around}{env:Env}{st st' st₁ st₂:St}{B:Addr→Obj→Prop}{ad:Nat→Addr}{s:Shared}{E:Value→Shared→Prop}{n:Nat}{r:Rec}{a:AV}{Q:Value→Shared→Prop}
set_option tactic.hygienic false
theorem methD {i:Nat}{o:Expr}{f g:Str}{ap p:Pos}{as:List Expr}{vs:List AV}{fa:Addr}{of:Obj}{fd:FuncData}{y:Option Value}(hfg:f=g)(hE:GE w o₀ n r.E)(hEs:GEs w o₀ n r.Es)(hA:AOk A n)(hN:EnvOk env)
  (hc:(as.all notStar&&!isCallE o&&ap.endLine==p.line&&decide (as.length≤20))=true) (hac:∃ l kk init,st₁.μ[i]?=some (.acc l kk init)) (hf:accM w.params g=some (.ref fa)) (hB:typeLookup (.type "list") g=pure y)
  (hfo:(Hf w.params).get? fa=some of) (hfc:of.cls=.type "function") (hdat:of.data=.func fd) (h62:fa≠62) (h69:fa≠69) (hne:g≠Str.ofString "_initial_size")
  (h1:r.E o st=some (.ref i,st₁)) (h2:r.Es as st₁=some (vs,st₂)) (R:Rep w o₀ B env ad st s)
  (k:∀ ad' ov us s',Nx w o₀ B env ad st ad' st₂ s'→VR st₂.μ.length ad' s'.heap (.ref i) ov→All2 (VR st₂.μ.length ad' s'.heap) vs us→wpAny (model Pr w) A (call (.ref fa) (ov::us)) Q E s') :
  wpAny (model Pr w) A (eval (.Call (.Attribute o f ap) as [] p) env) Q E s:=by
 subst hfg
 simp only [Bool.and_eq_true,Bool.not_eq_true',decide_eq_true_eq] at hc
 obtain ⟨⟨⟨c1,c2⟩,c3⟩,c4⟩:=hc
 refine mCall (attrBase c2) ?_ c3 (hE hA hN h1 R fun ad₁ ov s₁ N₁ V₁ pl=>?_)
 ·rw [backAll c1]
  simp only [Bool.true_and,Bool.and_eq_true,decide_eq_true_eq]
  refine ⟨rfl,?_⟩
  simp;kt_len
 ·refine x3_0 hac fun l kk init e=>?_
  obtain ⟨hi,z,vs0,D,tn,X,al,nD,hD,mk⟩:=N₁.R.acc e
  have V₁':=V₁
  refine x0_1 V₁ fun _ hq1=>?_;subst hq1
  refine meth_acc N₁.R.topIn X nD hf hB hfo hfc h62 h69 (by simp [hne]) ?_
  exact withF (first:=[.ref (ad₁ i)]) (o:=of) (fd:=fd) c1 hdat (hEs hA hN h2 N₁.R.widen fun ad₂ us s₂ N₂ V₂=>⟨(N₁.seq N₂).R.obj hfo h62 h69,k _ _ _ _ (N₁.seq N₂) (N₂.keep N₁.R V₁') V₂⟩)
theorem meth_a {i kk:Nat}{init:Int}{l vs:List AV}{f:Nm}{st:St}(hl:st.μ[i]?=some (.acc l kk init)) :
  meth (.ref i) f vs st=if f==[112,117,115,104] then (ln2 vs).bind fun p=>(asS p.1).bind fun a=>(asS p.2).bind fun b=>if kk < topK then some (.none,{st with μ:=st.μ.set i (.acc (l++[.tup [.str a,.str b]]) (kk+1) init)}) else Option.none
   else if f==nm (Str.ofString "pop_from") then
    if vs.isEmpty then some ((⟨st.kd,st.σ,st.μ.set i (.acc [] kk init)⟩:St).alloc (.list l kk))
    else ((ln1 vs).bind asI).bind fun k=>if 0≤k then some ((⟨st.kd,st.σ,st.μ.set i (.acc (l.take k.toNat) kk init)⟩:St).alloc (.list (l.drop k.toNat) kk)) else Option.none
   else if f==nm (Str.ofString "part_count") then if vs.isEmpty then some (.int l.length,st) else Option.none
   else Option.none:=by
 delta meth;dsimp only;rw [hl]
theorem q_push {i kk:Nat}{init:Int}{l vs:List AV}{us:List Value}{ov:Value}(hA:AOk A n)(R:Rep w o₀ B env ad st s)(e:st.μ[i]?=some (.acc l kk init))(V:VR st.μ.length ad s.heap (.ref i) ov)
  (h:((ln2 vs).bind fun p=>(asS p.1).bind fun a=>(asS p.2).bind fun b=>if kk < topK then some (.none,{st with μ:=st.μ.set i (.acc (l++[.tup [.str a,.str b]]) (kk+1) init)}) else Option.none)=some (a,st'))
  (al:All2 (VR st.μ.length ad s.heap) vs us) (k:Kt w o₀ B env ad st st' a Q):wpAny (model Pr w) A (call (.ref 45) (ov::us)) Q E s:=by
 refine bindE1 h fun p h1 h=>ln2_al h1 al fun u v hu hv=>?_
 refine bindE1 h fun x h2 h=>?_
 refine bindE1 h fun y h3 h=>?_
 rw [asS_inv h2] at hu
 rw [asS_inv h3] at hv
 refine iteE h fun hk h=>?_
 kt_eqs
 exact a_push hA R e V hu hv hk fun s' N'=>k _ _ _ N' rfl
theorem q_pop {i kk:Nat}{init:Int}{l vs:List AV}{us:List Value}{ov:Value}(hA:AOk A n)(R:Rep w o₀ B env ad st s)(e:st.μ[i]?=some (.acc l kk init))(V:VR st.μ.length ad s.heap (.ref i) ov)
  (h:(if vs.isEmpty then some ((⟨st.kd,st.σ,st.μ.set i (.acc [] kk init)⟩:St).alloc (.list l kk))
    else ((ln1 vs).bind asI).bind fun k=>if 0≤k then some ((⟨st.kd,st.σ,st.μ.set i (.acc (l.take k.toNat) kk init)⟩:St).alloc (.list (l.drop k.toNat) kk)) else Option.none)=some (a,st'))
  (al:All2 (VR st.μ.length ad s.heap) vs us) (k:Kt w o₀ B env ad st st' a Q):wpAny (model Pr w) A (call (.ref 53) (ov::us)) Q E s:=by
 refine x0_1 V fun hi hq1=>?_;subst hq1
 refine iteB h (fun he h=>?_) fun _ h=>?_
 ·obtain rfl:=List.isEmpty_iff.1 he
  obtain rfl:=al.nil_left
  kt_eqs
  refine a_pop (j:=0) hA R e (Int.le_refl _) (binds53b R.topIn _) fun ad' v s' N' V'=>k _ _ _ N' ?_
  simpa [St.alloc] using V'
 ·refine bindE1 h fun j h1 h=>oneI h1 al fun u hv=>?_
  refine x1_0 hv fun t hq1=>?_;subst hq1
  refine iteE h fun h0 h=>?_
  kt_eqs
  refine a_pop hA R e h0 (binds53a R.topIn _ _) fun ad' v s' N' V'=>k _ _ _ N' ?_
  simpa [St.alloc] using V'
theorem e_methA {i:Nat}{l:List AV}{kk:Nat}{init:Int}{o:Expr}{f:Str}{ap p:Pos}{as:List Expr}{vs:List AV}(hE:GE w o₀ n r.E)(hEs:GEs w o₀ n r.Es)(hA:AOk A n)(hN:EnvOk env)
  (hc:(as.all notStar&&!isCallE o&&ap.endLine==p.line&&decide (as.length≤20))=true) (hac:∃ l kk init,st₁.μ[i]?=some (.acc l kk init)) (hl:st₂.μ[i]?=some (.acc l kk init))
  (h1:r.E o st=some (.ref i,st₁)) (h2:r.Es as st₁=some (vs,st₂)) (h:meth (.ref i) (nm f) vs st₂=some (a,st')) (R:Rep w o₀ B env ad st s)
  (k:Kt w o₀ B env ad st st' a Q):wpAny (model Pr w) A (eval (.Call (.Attribute o f ap) as [] p) env) Q E s:=by
 have nmf:∀ {q:List Nat} {T:String},(nm f==q)=true→nm (Str.ofString T)=q→f=Str.ofString T:=fun h1 h2=>nm_inj ((beq_iff_eq.1 h1).trans h2.symm)
 have nmf:∀ {q:List Nat} {T:String},(nm f==q)=true→nm (Str.ofString T)=q→f=Str.ofString T:=fun h1 h2=>nm_inj ((beq_iff_eq.1 h1).trans h2.symm)
 replace h:=(meth_a hl).symm.trans h
 refine iteB h (fun hf h=>?_) fun _ h=>?_
 ·exact methD (nmf (T:="push") hf (by decide +kernel)) hE hEs hA hN hc hac (accM_at _ (a:=45) (by decide)) lk_push (of:=o45 w.params) (by kernel_rfl!) (by kernel_rfl!) (dat45 _) (by decide) (by decide) (by decide +kernel) h1 h2 R fun ad₂ ov us s₂ N V al=>q_push hA N.R hl V h al (k.seq N)
 refine iteB h (fun hf h=>?_) fun _ h=>?_
 ·exact methD (nmf (T:="pop_from") hf rfl) hE hEs hA hN hc hac (accM_at _ (a:=53) (by decide)) lk_popfrom (of:=o53 w.params) (by kernel_rfl!) (by kernel_rfl!) (dat53 _) (by decide) (by decide) (by decide +kernel) h1 h2 R fun ad₂ ov us s₂ N V al=>q_pop hA N.R hl V h al (k.seq N)
 refine iteE h fun hf h=>?_
 refine iteE h fun he h=>?_
 refine methD (nmf (T:="part_count") hf rfl) hE hEs hA hN hc hac (accM_at _ (a:=97) (by decide)) lk_partcount (of:=o97 w.params) (by kernel_rfl!) (by kernel_rfl!) (dat97 _) (by decide) (by decide) (by decide +kernel) h1 h2 R fun ad₂ ov us s₂ N V al=>?_
 obtain rfl:=List.isEmpty_iff.1 he
 obtain rfl:=al.nil_left
 cases h
 exact a_count hA N.R hl V fun v s' N' V'=>k _ _ _ (N.seq' N') V'
theorem kindO_inv {o o2:Option AObj}(h:kindO o o2=true):(∃ l k l2 k2,o=some (.list l k)∧o2=some (.list l2 k2))∨∃ l k i l2 k2 i2,o=some (.acc l k i)∧o2=some (.acc l2 k2 i2):=by
 rcases o with _ | (⟨l,k⟩ | ⟨l,k,i⟩)
 ·exact ftC h
 ·rcases o2 with _ | (⟨l2,k2⟩ | ⟨l2,k2,i2⟩)
  ·exact ftC h
  ·exact .inl ⟨_,_,_,_,rfl,rfl⟩
  ·exact ftC h
 ·rcases o2 with _ | (⟨l2,k2⟩ | ⟨l2,k2,i2⟩)
  ·exact ftC h
  ·exact ftC h
  ·exact .inr ⟨_,_,_,_,_,_,rfl,rfl⟩
theorem e_attr {o:Expr}{f:Str}{ap p:Pos}{as:List Expr}{u:AV}{vs:List AV}(hE:GE w o₀ n r.E)(hEs:GEs w o₀ n r.Es)(hA:AOk A n)(hN:EnvOk env)
  (hc:(as.all notStar&&!isCallE o&&ap.endLine==p.line&&decide (as.length≤20))=true) (hk:kindOk st₁.μ st₂.μ u=true)
  (h1:r.E o st=some (u,st₁)) (h2:r.Es as st₁=some (vs,st₂)) (h:meth u (nm f) vs st₂=some (a,st')) (R:Rep w o₀ B env ad st s)
  (k:Kt w o₀ B env ad st st' a Q):wpAny (model Pr w) A (eval (.Call (.Attribute o f ap) as [] p) env) Q E s:=by
 induction u using AV.casesOn with
 | str l=>exact e_methS hE hEs hA hN hc h1 h2 h R k
 | tb t=>exact e_methT hE hEs hA hN hc h1 h2 h R k
 | ref i=>
  rcases kindO_inv hk with ⟨l,kk,l2,kk2,e1,e2⟩ | ⟨l,kk,i1,l2,kk2,i2,e1,e2⟩
  ·exact e_methL hE hEs hA hN hc ⟨_,_,e1⟩ e2 h1 h2 h R k
  ·exact e_methA hE hEs hA hN hc ⟨_,_,_,e1⟩ e2 h1 h2 h R k
 | _=>exact noS h
end
set_option tactic.hygienic false
section
variable {w:World}{o₀:OsState}{n m:Nat}
theorem GE.le {f}(h:GE w o₀ n f)(hn:n≤m):GE w o₀ m f:=fun _ _ _ _ _ _ hA hN=>h (hA.le hn) hN
theorem GT.le {f}(h:GT w o₀ n f)(hn:n≤m):GT w o₀ m f:=fun _ _ _ _ _ _ hA hN=>h (hA.le hn) hN
theorem GTs.le {f}(h:GTs w o₀ n f)(hn:n≤m):GTs w o₀ m f:=fun _ _ _ _ _ _ _ hA hN=>h (hA.le hn) hN
theorem GEs.le {f}(h:GEs w o₀ n f)(hn:n≤m):GEs w o₀ m f:=fun _ _ _ _ _ _ _ hA hN=>h (hA.le hn) hN
theorem GS.le {f}(h:GS w o₀ n f)(hn:n≤m):GS w o₀ m f:=fun _ _ _ _ _ _ hA hN=>h (hA.le hn) hN
theorem GSS.le {f}(h:GSS w o₀ n f)(hn:n≤m):GSS w o₀ m f:=fun _ _ _ _ _ _ hA hN=>h (hA.le hn) hN
structure Sound (w:World)(o₀:OsState)(n:Nat):Prop where
 E:GE w o₀ n (run FT n).E
 T:GT w o₀ n (run FT n).T
 Ts:GTs w o₀ n (run FT n).Ts
 Es:GEs w o₀ n (run FT n).Es
 S:GS w o₀ n (run FT n).S
 SS:GSS w o₀ n (run FT n).SS
theorem e_isi2 {A:Around}{env:Env}{st st':St}{B:Addr→Obj→Prop}{ad:Nat→Addr}{s:Shared}{E:Value→Shared→Prop}{r:Rec}{x b:Str}{e:Expr}{p pb pos:Pos}{u:AV}{c:Bool}{Q:Value→Shared→Prop}(hE:GE w o₀ n r.E)(hA:AOk A n)(hN:EnvOk env)(hk:isGlob (kindIn st.kd (nm x))=true)(hx:x=Str.ofString "isinstance")
  (hb:b=Str.ofString "bool") (hkb:isGlob (kindIn st.kd (nm b))=true) (ha:notStar e=true) (h:r.E e st=some (u,st')) (hu:(∃ i,u=.int i∧c=false)∨(∃ q,u=.bool q∧c=true)) (R:Rep w o₀ B env ad st s)
  (k:∀ ad' s',Nx w o₀ B env ad st ad' st' s'→Q (.bool c) s'):wpAny (model Pr w) A (eval (.Call (.Name x p) [e,.Name b pb] [] pos) env) Q E s:=by
 subst hx hb
 have hg:=gl2_at w.params (x:="isinstance") (by decide)
 have hg2:=gl3_at w.params (x:="bool") (by decide)
 have hst:([e,Expr.Name (Str.ofString "bool") pb]:List Expr).all notStar=true:=by rw [List.all_cons,ha];rfl
 refine Call_Name rfl (globB R hN hk (by decide +kernel) hg.1 hg.2 (withB (first:=[]) hst ?_))
 refine args_cons (hE hA hN h R fun ad₁ v₁ s₁ N₁ V₁=>?_) (notStar_cons ha)
 refine args_cons (globB N₁.R hN (by rw [N₁.R.kd,← R.kd];exact hkb) (by decide +kernel) hg2.1 hg2.2 ?_) rfl
 refine args_nil ?_
 rcases hu with ⟨i,rfl,rfl⟩ | ⟨q,rfl,rfl⟩
 ·exact p_isiI V₁ fun tk=>k _ _ (N₁.toks tk)
 ·exact p_isiB V₁ fun tk=>k _ _ (N₁.toks tk)
theorem isiA_inv {l:List Expr}{e:Expr}{b:Str}(h:isiA l=some (e,b)):∃ p,l=[e,.Name b p]:=by
 rcases l with _ | ⟨a,_ | ⟨x,_ | ⟨y,l⟩⟩⟩
 ·exact noS h
 ·exact noS h
 ·refine mapE1 h fun c h1 h2=>?_
  cases h2
  induction x using Expr.casesOn with
  | Name d p=>obtain rfl:=Option.some.inj h1;exact ⟨p,rfl⟩
  | _=>exact noS h1
 ·exact noS h
theorem E_callN (hs:∀ k,k≤n→Sound w o₀ k){A:Around}{env:Env}{f:Str}{q:Pos}{as:List Expr}{p:Pos}{st st':St}{a:AV}(hA:AOk A (n+1))(hN:EnvOk env)(h:stepE FT (run FT n) (.Call (.Name f q) as [] p) st=some (a,st')){B:Addr→Obj→Prop}{ad:Nat→Addr}{s:Shared}{Q:Value→Shared→Prop}{E:Value→Shared→Prop}
  (R:Rep w o₀ B env ad st s) (k:Kt w o₀ B env ad st st' a Q):wpAny (model Pr w) A (eval (.Call (.Name f q) as [] p) env) Q E s:=by
 have hA':AOk A n:=hA.le (Nat.le_succ _)
 have S:=hs n (Nat.le_refl _)
 delta stepE at h
 dsimp only at h
 split at h
 next hk=>
  rw [Bool.and_eq_true] at hk
  split at h
  next hi=>
   have hi:_=_:=nm_inj (beq_iff_eq.1 hi)
   refine bindE h fun e b h0 h=>?_
   obtain ⟨pb,rfl⟩:=isiA_inv h0
   refine iteE h fun hb h=>?_
   rw [Bool.and_eq_true,beq_iff_eq] at hb
   refine bindE h fun u st₁ h1 h=>?_
   have hst:notStar e=true:=by
    have:=hk.2
    rw [List.all_cons,Bool.and_eq_true] at this
    exact this.1
   have hb2:b=Str.ofString "bool":=nm_inj (hb.1.trans (by decide +kernel))
   induction u using AV.casesOn with
   | int _=>cases h;exact e_isi2 S.E hA' hN hk.1 hi hb2 hb.2 hst h1 (.inl ⟨_,rfl,rfl⟩) R fun ad' s' N=>k _ _ _ N rfl
   | bool _=>cases h;exact e_isi2 S.E hA' hN hk.1 hi hb2 hb.2 hst h1 (.inr ⟨_,rfl,rfl⟩) R fun ad' s' N=>k _ _ _ N rfl
   | _=>exact noS h
  next=>
   refine bindE h fun vs st₁ h1 h=>?_
   exact e_prim S.Es S.SS hA hN hk.1 hk.2 h1 h R k
 next=>exact noS h
theorem E_callA (hs:∀ k,k≤n→Sound w o₀ k){A:Around}{env:Env}{o:Expr}{f:Str}{q:Pos}{as:List Expr}{p:Pos}{st st':St}{a:AV}(hA:AOk A (n+1))(hN:EnvOk env)(h:stepE FT (run FT n) (.Call (.Attribute o f q) as [] p) st=some (a,st')){B:Addr→Obj→Prop}{ad:Nat→Addr}{s:Shared}{Q:Value→Shared→Prop}{E:Value→Shared→Prop}
  (R:Rep w o₀ B env ad st s) (k:Kt w o₀ B env ad st st' a Q):wpAny (model Pr w) A (eval (.Call (.Attribute o f q) as [] p) env) Q E s:=by
 have hA':AOk A n:=hA.le (Nat.le_succ _)
 have S:=hs n (Nat.le_refl _)
 delta stepE at h
 dsimp only at h
 refine iteN h fun hc h=>?_
 refine bindE h fun u st₁ h1 h=>?_
 refine bindE h fun vs st₂ h2 h=>?_
 dsimp only at h
 refine iteE h fun hk h=>?_
 exact e_attr S.E S.Es hA' hN (by simpa using hc) hk h1 h2 h R k
theorem E_all (hs:∀ k,k≤n→Sound w o₀ k):∀ x,EAt w o₀ (n+1) (stepE FT (run FT n) x) x:=by
 intro x
 have S:=hs n (Nat.le_refl _)
 induction x using Expr.casesOn with
 | Constant c kk p=>
  intro A env st st' a hA hN h B ad s Q E R k;
  refine mapE1 h fun v h1 h2=>?_
  cases h2
  exact e_const h1 R fun v tk V=>k _ _ _ ((Nx.refl R).toks tk) V
 | Name x p=>intro A env st st' a hA hN h B ad s Q E R k;exact e_name hN h R k
 | BinOp x op y p=>intro A env st st' a hA hN h B ad s Q E R k;exact e_bin S.E (hA.le (Nat.le_succ _)) hN h R k
 | UnaryOp op x p=>intro A env st st' a hA hN h B ad s Q E R k;exact e_un S.E (hA.le (Nat.le_succ _)) hN h R k
 | Compare x ops ys p=>
  induction ops using List.casesOn with
  | nil=>induction ys using List.casesOn <;> (apply EAt.no;intro _;rfl)
  | cons op l=>
   induction l using List.casesOn with
   | cons op2 l=>induction ys using List.casesOn <;> (apply EAt.no;intro _;rfl)
   | nil=>
    induction ys using List.casesOn with
    | nil=>(apply EAt.no;intro _;rfl)
    | cons y m=>
     induction m using List.casesOn with
     | cons y2 m=>(apply EAt.no;intro _;rfl)
     | nil=>intro A env st st' a hA hN h B ad s Q E R k;exact e_cmp S.E (hA.le (Nat.le_succ _)) hN h R k
 | IfExp t x y p=>intro A env st st' a hA hN h B ad s Q E R k;exact e_if S.E S.T (hA.le (Nat.le_succ _)) hN h R k
 | Tuple es kk p=>intro A env st st' a hA hN h B ad s Q E R k;exact e_tup S.Es (hA.le (Nat.le_succ _)) hN h R k
 | List es p=>intro A env st st' a hA hN h B ad s Q E R k;exact e_list S.Es (hA.le (Nat.le_succ _)) hN h R k
 | Subscript o i p=>intro A env st st' a hA hN h B ad s Q E R k;exact e_sub S.E (hA.le (Nat.le_succ _)) hN h R k
 | Call g as ks p=>
  induction ks using List.casesOn with
  | cons x l=>induction g using Expr.casesOn <;> (apply EAt.no;intro _;rfl)
  | nil=>
  induction g using Expr.casesOn with
  | Name f q=>intro A env st st' a hA hN h B ad s Q E R k;exact E_callN hs hA hN h R k
  | Attribute o f q=>intro A env st st' a hA hN h B ad s Q E R k;exact E_callA hs hA hN h R k
  | _=>(apply EAt.no;intro _;rfl)
 | ListComp elt gs sc p=>
  induction gs using List.casesOn with
  | nil=>(apply EAt.no;intro _;rfl)
  | cons g l=>
   obtain ⟨t,it,ifs,z⟩:=g
   induction l using List.casesOn with
   | cons g2 l=>
    induction z using Int.casesOn with
    | ofNat z=>induction z using Nat.casesOn <;> (apply EAt.no;intro _;rfl)
    | negSucc z=>(apply EAt.no;intro _;rfl)
   | nil=>
    induction z using Int.casesOn with
    | ofNat z=>
     induction z using Nat.casesOn with
     | zero=>intro A env st st' a hA hN h B ad s Q E R k;exact e_comp S.E S.Es (fun k hk=>(hs k (Nat.le_of_lt hk)).E) (fun k hk=>(hs k (Nat.le_of_lt hk)).T) (hA.le (Nat.le_succ _)) hN h R k
     | succ z=>(apply EAt.no;intro _;rfl)
    | negSucc z=>(apply EAt.no;intro _;rfl)
 | _=>(apply EAt.no;intro _;rfl)
theorem E_ok (hs:∀ k,k≤n→Sound w o₀ k):GE w o₀ (n+1) (stepE FT (run FT n)):=fun _ _ _ _ _ _ hA hN h=>E_all hs _ hA hN h
theorem sound:∀ n,Sound w o₀ n:=by
 intro n
 induction n using Nat.strongRecOn with
 | ind n ih=>
  induction n using Nat.casesOn with
  | zero=>
   refine ⟨?_,?_,?_,?_,?_,?_⟩
   ·intro A env x st st' a hA hN h;kt_eqs
   ·intro A env x st st' a hA hN h;kt_eqs
   ·intro A env op x st st' a hA hN h;kt_eqs
   ·intro A env x st st' a pos hA hN h;kt_eqs
   ·intro A env x st st' a hA hN h;kt_eqs
   ·intro A env x st st' a hA hN h;kt_eqs
  | succ n=>
   have hs:∀ k,k≤n→Sound w o₀ k:=fun k hk=>ih k (Nat.lt_succ_of_le hk)
   have S:=hs n (Nat.le_refl _)
   exact
   {E:=E_ok hs
    T:=GT.le (T_ok S.E S.T S.Ts) (Nat.le_succ _)
    Ts:=GTs.le (Ts_ok S.T S.Ts) (Nat.le_succ _)
    Es:=GEs.le (Es_ok S.E S.Es) (Nat.le_succ _)
    S:=GS.le (S_ok S.E S.T S.Es (fun k hk=>(hs k hk).SS) (fun k hk=>(hs k hk).T)) (Nat.le_succ _)
    SS:=GSS.le (SS_ok S.S S.SS) (Nat.le_succ _)}
end
set_option tactic.hygienic false
noncomputable def lw (i:Nat):Stmt:=(fBody (pb 17)).getD i (.Pass ⟨0,0,0,0⟩)
noncomputable def kdL:List (Str × NameKind):=(fScope (pb 17)).names
noncomputable abbrev S_ (x:String):Str:=Str.ofString x
noncomputable def fd199 (P:Params):FuncData:={name:=⟨⟨[108,97,119]⟩⟩,qualname:=⟨⟨[108,97,119]⟩⟩,params:=fArgs (pb 17),body:=.stmts (fBody (pb 17)),scope:=fScope (pb 17),globals:=mainGlobals,closure:=[],defaults:=.none,kwdefaults:=.none,doc:=.none,pyModule:=.str ⟨⟨[108,97,119,95,119,114,48,48,52,55,95,48,49]⟩⟩ 2357,code:=.ref 198,closureTuple:=.none,builtins:=builtinsNs}
theorem dat199 (P:Params):(o199 P).data=.func (fd199 P):=by kernel_rfl!
theorem bind199 (P:Params)(a:Value):bindArgs (fd199 P) ⟨[a],[]⟩=pure [(S_ "script",a)]:=by kernel_rfl!
noncomputable def constE:Expr→Option Const
 | .Constant c _ _=>some c
 | _=>none
theorem constE_inv {e:Expr}{c:Const}(h:constE e=some c):∃ p q,e=.Constant c p q:=by
 induction e using Expr.casesOn with
 | Constant c' p q=>obtain rfl:=Option.some.inj h;exact ⟨p,q,rfl⟩
 | _=>exact noS h
noncomputable def cInt (e:Expr):Option Int:=(constE e).bind fun c=>(constA c).bind asI
noncomputable def cInts:List Expr→Option (List Int)
 | []=>some []
 | e::es=>(cInt e).bind fun i=>(cInts es).map (i::·)
noncomputable def nums0:List Int:=[37,8,0,13,144,29,16,2,1,0,2,1,0,0]
theorem lw0:∃ a1 a2 a3 es,lw 0=.Assign [.Name (S_ "numbers") a1] (.List es a2) a3∧cInts es=some nums0:=⟨_,_,_,_,rfl,by kernel_rfl!⟩
theorem lw1:∃ a1 a2 a3 a4 b1 b2 b3 b4 b5 b6 b7 b8 c1 c2 c3 c4 c5 c6 d1 d2 d3 d4 d5 e1 e2 e3 e4 z,lw 1=.For (.Tuple [.Name (S_ "k") a1,.Name (S_ "x") a2] a3 a4) (.Call (.Name (S_ "enumerate") b1) [.Subscript (.Name (S_ "script") b2) (.Slice none (some (.Constant (.int 63) b3 b4)) none b5) b6] [] b7)
  [.AugAssign (.Subscript (.Name (S_ "numbers") c1) (.BinOp (.Name (S_ "k") c2) .Mod (.Constant (.int 14) c3 c4) c5) c6) .Add (.BinOp (.Name (S_ "x") d1) .Mod (.BinOp (.Constant (.int 10) d2 d3) .Pow (.Constant (.int 6) e1 e2) e3) e4) d4] [] z∧b8=a4∧d5=a4:=
 ⟨_,_,_,_,_,_,_,_,_,_,_,_,_,_,_,_,_,_,_,_,_,_,_,_,_,_,_,_,rfl,rfl,rfl⟩
@[elab_as_elim] theorem lw1_el {C:Stmt→Prop}(k:∀ a1 a2 a3 a4 b1 b2 b3 b4 b5 b6 b7 b8 c1 c2 c3 c4 c5 c6 d1 d2 d3 d4 d5 e1 e2 e3 e4 z,b8=a4→d5=a4→C (.For (.Tuple [.Name (S_ "k") a1,.Name (S_ "x") a2] a3 a4) (.Call (.Name (S_ "enumerate") b1) [.Subscript (.Name (S_ "script") b2) (.Slice none (some (.Constant (.int 63) b3 b4)) none b5) b6] [] b7)
  [.AugAssign (.Subscript (.Name (S_ "numbers") c1) (.BinOp (.Name (S_ "k") c2) .Mod (.Constant (.int 14) c3 c4) c5) c6) .Add (.BinOp (.Name (S_ "x") d1) .Mod (.BinOp (.Constant (.int 10) d2 d3) .Pow (.Constant (.int 6) e1 e2) e3) e4) d4] [] z)):C (lw 1):=by
 obtain ⟨a1,a2,a3,a4,b1,b2,b3,b4,b5,b6,b7,b8,c1,c2,c3,c4,c5,c6,d1,d2,d3,d4,d5,e1,e2,e3,e4,z,e,h1,h2⟩:=lw1
 rw [e];exact k _ _ _ _ _ _ _ _ _ _ _ _ _ _ _ _ _ _ _ _ _ _ _ _ _ _ _ _ h1 h2
theorem lwSplit:fBody (pb 17)=lw 0::lw 1::(fBody (pb 17)).drop 2:=by kernel_rfl!
noncomputable def IntsV (vs:List Value)(is:List Int):Prop:=All2 (fun v i=>∃ t,v=.int i t) vs is
section
variable {w:World}{A:Around}{E:Value→Shared→Prop}{s:Shared}
theorem consts_ok {env:Env}{pos:Pos}:∀ {es:List Expr} {is:List Int} {s:Shared} {Q:List Value→Shared→Prop},cInts es=some is→(∀ vs tk,IntsV vs is→Q vs {s with toks:=tk})→wpAny (model Pr w) A (spliced (backTo pos (starEach es env))) Q E s
 | [],is,s,Q,h,k=>by obtain rfl:=Option.some.inj h;exact args_nil (k [] s.toks .nil)
 | e::es,is,s,Q,h,k=>by
  refine bindE1 h fun i h1 h=>?_
  refine mapE1 h fun is' h2 h=>?_
  subst h
  refine bindE1 h1 fun c h3 h4=>?_
  refine x2_0 (constE_inv h3) fun p q hq2=>?_;subst hq2
  refine bindE1 h4 fun a h5 h6=>?_
  obtain rfl:=asI_inv h6
  induction c using Const.casesOn with
  | int j=>
   cases h5
   refine args_cons (wpAny_Constant_int ?_) rfl
   exact consts_ok (s:={s with toks:=_}) h2 fun vs tk V=>k _ tk (.cons ⟨_,rfl⟩ V)
  | _=>first | exact noS h5 | (cases h5;done)
theorem int_get {vs:List Value}{is:List Int}(V:IntsV vs is){j:Nat}(h:j < is.length):∃ t,vs[j]?=some (.int (is[j]) t):=by
 have hl:=V.length
 obtain ⟨i,e,t,hv⟩:=V.get (i:=j) (a:=vs[j]'(by kt_len)) (by simp)
 have:is[j]?=some is[j]:=by simp [h]
 cases someI this e
 exact ⟨t,by rw [← hv];simp⟩
noncomputable def isSl:Expr→Bool
 | .Slice _ _ _ _=>true
 | _=>false
theorem augStore_of {i:Expr}{ov iv new:Value}(h:isSl i=false):augStore i ov iv new=(do
  holding [new,ov,iv] (setItem ov iv new)
  release [new,ov,iv] []
  pure .next):=by
 induction i using Expr.casesOn <;> first | rfl | exact ftC h.symm
theorem augSub {env:Env}{o i:Expr}{pos' pos:Pos}{op:Operator}{value:Expr}{Q:Flow→Shared→Prop}(hi:isSl i=false)
  (h:wpAny (model Pr w) A (eval o env) (fun ov s₁=>wpAny (model Pr w) A (eval i env) (fun iv s₂=>wpAny (model Pr w) A (getItem ov iv) (fun old s₃=>
   wpAny (model Pr w) A (eval value env) (fun v s₄=>wpAny (model Pr w) A (inplaceOp op old v) (fun new s₅=>
    wpAny (model Pr w) A (setItem ov iv new) (fun _=>Q .next) E s₅) E s₄) E s₃) E s₂) E s₁) E s) :
  wpAny (model Pr w) A (exec (.AugAssign (.Subscript o i pos') op value pos) env) Q E s:=by
 have e:exec (.AugAssign (.Subscript o i pos') op value pos) env=(do
  standAt pos
  let ov ← eval o env
  let iv ← holding [ov] (eval i env)
  let new ← holding [ov,iv] do
   standAt pos'
   let old ← getItem ov iv
   let v ← holding [old] (eval value env)
   standAt pos
   operate [old,v] (inplaceOp op old v)
  standAt pos'
  augStore i ov iv new):=rfl
 refine wEqM (e) ?_
 refine wpAny_bind (wpAny_standAt (wpAny_bind (wpAny_mono h (fun ov s₁ h₁=>?_) fun _ _ x=>x)))
 refine wpAny_bind (wpAny_holding (wpAny_mono h₁ (fun iv s₂ h₂=>?_) fun _ _ x=>x))
 refine wpAny_bind (wpAny_holding (wpAny_bind (wpAny_standAt (wpAny_bind (wpAny_mono h₂ (fun old s₃ h₃=>?_) fun _ _ x=>x)))))
 refine wpAny_bind (wpAny_holding (wpAny_mono h₃ (fun v s₄ h₄=>?_) fun _ _ x=>x))
 refine wpAny_bind (wpAny_standAt (wpAny_operating (wpAny_mono h₄ (fun new s₅ h₅=>?_) fun _ _ x=>x)))
 refine wpAny_bind (wpAny_standAt ?_)
 refine wEqM (augStore_of hi) ?_
 refine wpAny_bind (wpAny_holding (wpAny_mono h₅ (fun _ s₆ h₆=>?_) fun _ _ x=>x))
 exact wpAny_bind (wpAny_release (wpAny_pure h₆))
end
section
variable {w:World}{A:Around}{E:Value→Shared→Prop}{s:Shared}
set_option tactic.hygienic false
theorem fmod_pos (i:Int){b:Int}(hb:0 < b):0≤i.fmod b∧i.fmod b < b:=by
 rw [Int.fmod_eq_emod_of_nonneg _ (by kt_len)]
 exact ⟨Int.emod_nonneg _ (by kt_len),Int.emod_lt_of_pos _ hb⟩
theorem s2_body {env:Env}{m:Str→Option Value}{N:Addr}{i xi:Int}{ti tx:Tok}{vs:List Value}{ns:List Int}{c1 c2 c4 c5 c6 d1 d3 d4 e2 e3 e4:Pos}{c3 d2 e1:Nat}{Q:Flow→Shared→Prop}
  (hk:env.scope.kind=.function) (k1:env.kindOf (S_ "numbers")=some .local) (k2:env.kindOf (S_ "k")=some .local) (k3:env.kindOf (S_ "x")=some .local)
  (n:s.heap.Ns env.locals m) (h1:m (S_ "numbers")=some (.ref N)) (h2:m (S_ "k")=some (.int i ti)) (h3:m (S_ "x")=some (.int xi tx)) (p:s.heap.PlainList N ⟨vs⟩) (V:IntsV vs ns) (hl:ns.length=14) (hnn:∀ y∈ns,0≤y)
  (k:∀ h' tk' vs' ns',Heap.SameBut N s.heap h'→h'.PlainList N ⟨vs'⟩→IntsV vs' ns'→ns'.length=14→(∀ y∈ns',0≤y)→Q .next {s with heap:=h',toks:=tk'}) :
  wpAny (model Pr w) A (exec (.AugAssign (.Subscript (.Name (S_ "numbers") c1) (.BinOp (.Name (S_ "k") c2) .Mod (.Constant (.int 14) c3 c4) c5) c6) .Add (.BinOp (.Name (S_ "x") d1) .Mod (.BinOp (.Constant (.int 10) d2 d3) .Pow (.Constant (.int 6) e1 e2) e3) e4) d4) env) Q E s:=by
 obtain ⟨g1,g2⟩:=fmod_pos i (b:=14) (by decide)
 have hj:(i.fmod 14).toNat < ns.length:=by kt_len
 obtain ⟨t0,hx⟩:=int_get V hj
 have hvl:vs.length=14:=V.length.trans hl
 refine augSub rfl (nameL (.ref N) n hk k1 h1 (by kernel_rfl!) (wpAny_BinOp (nameL (.int i ti) n hk k2 h2 (by kernel_rfl!) (wpAny_Constant_int
  (bin_ok (m:=0) (ad:=fun _=>0) (op:=.Mod) (a:=.int i) (b:=.int 14) rfl ⟨_,rfl⟩ ⟨_,rfl⟩ fun v1 tk1 V1=>?_)))))
 obtain ⟨t1,rfl⟩:=V1
 refine wpAny_getItem_list (s:={s with toks:=tk1}) p.isList g1 (by kt_len) (by simpa using hx) ?_
 refine wpAny_BinOp (nameL (s:={s with toks:=tk1}) (.int xi tx) n hk k3 h3 (by kernel_rfl!) (wpAny_BinOp (wpAny_Constant_int (wpAny_Constant_int
  (bin_ok (m:=0) (ad:=fun _=>0) (op:=.Pow) (a:=.int 10) (b:=.int 6) (c:=.int 1000000) (by kernel_rfl!) ⟨_,rfl⟩ ⟨_,rfl⟩ fun v2 tk2 V2=>?_)))))
 obtain ⟨t2,rfl⟩:=V2
 refine bin_ok (m:=0) (ad:=fun _=>0) (op:=.Mod) (a:=.int xi) (b:=.int 1000000) rfl ⟨_,rfl⟩ ⟨_,rfl⟩ fun v3 tk3 V3=>?_
 obtain ⟨t3,rfl⟩:=V3
 refine iadd_int ?_
 refine set_plain (s:={s with toks:=_}) p g1 (by kt_len) (by simp only [Array.size];kt_len) fun h' p' hs=>?_
 obtain ⟨f1,f2⟩:=fmod_pos xi (b:=1000000) (by decide)
 refine k h' _ (vs.set (i.fmod 14).toNat (.int (ns[(i.fmod 14).toNat]+xi.fmod 1000000) _)) (ns.set (i.fmod 14).toNat (ns[(i.fmod 14).toNat]+xi.fmod 1000000)) hs (by simpa using p') (V.set _ ⟨_,rfl⟩) (by simpa using hl) ?_
 intro y hy
 rcases List.mem_or_eq_of_mem_set hy with h | rfl
 ·exact hnn y h
 ·have:=hnn _ (List.getElem_mem hj);kt_len
set_option tactic.hygienic true
end
set_option tactic.hygienic false
theorem slice_mem {items:Array Value}{lo hi st:Option Int}{j:Nat}{v:Value}(h:(slicePick items lo hi st)[j]?=some v):∃ i:Nat,items[i]?=some v:=by
 unfold slicePick at h
 have h:=List.mem_of_getElem? (by simpa using h)
 refine x1_1 (List.mem_filterMap.1 h) fun i _ h2=>?_
 exact ⟨i,h2⟩
theorem no_cell:(kdL.all fun p=>p.2 != .cell)=true:=by kernel_rfl!
theorem lookup_mem {l:List (Str × NameKind)}{x:Str}{k:NameKind}(h:l.lookup x=some k):(x,k)∈l:=by
 induction l with
 | nil=>exact noS h
 | cons p l ih=>
  obtain ⟨y,k'⟩:=p
  simp only [List.lookup] at h
  split at h
  next e=>kt_eqs;rw [beq_iff_eq] at e;subst e;exact List.mem_cons_self ..
  next=>exact List.mem_cons_of_mem _ (ih h)
theorem not_cell {x:Str}:kdL.lookup x≠some .cell:=by
 intro h
 have:=List.all_eq_true.1 no_cell _ (lookup_mem h)
 cases this
theorem kd_numbers:kdL.lookup (S_ "numbers")=some .local:=by kernel_rfl!
set_option tactic.hygienic true
section
variable {w:World}{A:Around}{E:Value→Shared→Prop}{s:Shared}
noncomputable abbrev envL (w:World)(s:Shared):Env:=callEnv (fd199 w.params) s.heap.objs.size 199
set_option tactic.hygienic false
theorem envL_ok:EnvOk (envL w s):=⟨by kernel_rfl!,rfl,rfl⟩
set_option tactic.hygienic true
inductive S2I (s:Shared)(L e it l N:Addr)(items:Array Value)(k:Nat)(s':Shared):Prop
 | mk (h':Heap) (tk:Tok) (m:Str→Option Value) (i:Nat) (old:Value) (vs:List Value) (ns:List Int) (e0:s'={s with heap:=h',toks:=tk}) (e1:IsEnum h' e it ((i:Nat):Int) old) (e2:h'.IsListIter it l i) (e3:h'.IsList l items) (e4:h'.Ns L m) (e5:m (S_ "numbers")=some (.ref N))
   (e6:h'.PlainList N ⟨vs⟩) (e7:IntsV vs ns) (e8:ns.length=14) (e9:∀ y∈ns,0≤y) (e10:i≤items.size) (e11:k=items.size+1 - i) (e12:∀ b o,b≠L→b≠e→b≠it→b≠N→s.heap.get? b=some o→h'.get? b=some o):S2I s L e it l N items k s'
set_option tactic.hygienic false
theorem s2_loop {e it l N : Addr} {items : Array Value} {m₀ : Str → Option Value} {vs₀ : List Value} {ns₀ : List Int} {env : Env} {body : List Stmt} {a1 a2 a4 : Pos} {a3 : Nat} {R : Result → Shared → Prop} {c1 c2 c4 c5 c6 d1 d3 d4 e2 e3 e4 : Pos} {c3 d2 e1 : Nat}
    (hh : A.handled = none) (hk : env.scope.kind = .function) (k1 : env.kindOf (S_ "numbers") = some .local) (k2 : env.kindOf (S_ "k") = some .local) (k3 : env.kindOf (S_ "x") = some .local)
    (hei : e ≠ it) (heL : e ≠ env.locals) (hiL : it ≠ env.locals) (hlL : l ≠ env.locals) (hle : l ≠ e) (hli : l ≠ it) (hNL : N ≠ env.locals) (hNe : N ≠ e) (hNi : N ≠ it) (hNl : N ≠ l)
    (he : IsEnum s.heap e it 0 .none) (hit : s.heap.IsListIter it l 0) (hl : s.heap.IsList l items) (hints : ∀ (j : Nat) (v : Value), items[j]? = some v → ∃ i t, v = .int i t) (hn : s.heap.Ns env.locals m₀) (hm : m₀ (S_ "numbers") = some (.ref N))
    (hp : s.heap.PlainList N ⟨vs₀⟩) (hV : IntsV vs₀ ns₀) (hlen : ns₀.length = 14) (hnn : ∀ y ∈ ns₀, 0 ≤ y)
    (hR : ∀ h' tk m vs ns, h'.Ns env.locals m → m (S_ "numbers") = some (.ref N) → h'.PlainList N ⟨vs⟩ → IntsV vs ns → ns.length = 14 → (∀ y ∈ ns, 0 ≤ y) → (∀ b o, b ≠ env.locals → b ≠ e → b ≠ it → b ≠ N → s.heap.get? b = some o → h'.get? b = some o) →
      R (.ok .next) { s with heap := h', toks := tk }) :
    codeAny (model Pr w) A (.forLoop (.Tuple [.Name (S_ "k") a1, .Name (S_ "x") a2] a3 a4) (.ref e) [.AugAssign (.Subscript (.Name (S_ "numbers") c1) (.BinOp (.Name (S_ "k") c2) .Mod (.Constant (.int 14) c3 c4) c5) c6) .Add (.BinOp (.Name (S_ "x") d1) .Mod (.BinOp (.Constant (.int 10) d2 d3) .Pow (.Constant (.int 6) e1 e2) e3) e4) d4] [] env) R s := by
  have hp0 : (env.scope.kind == .class || (env.scope.kind == .module && env.locals != env.globals)) = false := by rw [hk]; rfl
  refine codeAny_forLoop_any
    (fun k s' => S2I s env.locals e it l N items k s') ?_ (items.size + 1)
    ⟨s.heap, s.toks, m₀, 0, .none, vs₀, ns₀, rfl, he, hit, hl, hn, hm, hp, hV, hlen, hnn, Nat.zero_le _, rfl, fun _ _ _ _ _ _ x => x⟩
  rintro k s' ⟨H, tk, m', i, old, vs, ns, rfl, he', hit', hl', hn', hm', hp', hV', hlen', hnn', hi, rfl, hk'⟩
  induction hv : items[i]? using Option.casesOn with
  | none =>
    refine wpAny_pyNext_enum_end hh he' hit' hl' hv fun h₁ he₁ => wpAny_execs_nil ?_
    exact hR h₁ tk m' vs ns (hn'.extBut he₁ (Ne.symm hiL)) hm' (hp'.at fun o x => he₁ _ o hNi x) hV' hlen' hnn' fun b o hbL hbe hbi hbN x => he₁ b o hbi (hk' b o hbL hbe hbi hbN x)
  | some v =>
    refine x2_0 (hints i v hv) fun xi tx hq2 => ?_; subst hq2
    have hlt : i < items.size := (Array.getElem?_eq_some_iff.mp hv).1
    have heH : e < H.objs.size := Heap.lt_size he'
    have hLH : env.locals < H.objs.size := hn'.lt
    refine x1_1 (id hit') fun oi hoi _ => ?_
    refine x1_1 (id hl') fun ol hol _ => ?_
    have hiH : it < H.objs.size := Heap.lt_size hoi
    have hlH : l < H.objs.size := Heap.lt_size hol
    have hNH : N < H.objs.size := by refine x1_0 hp' fun q e => ?_; exact Heap.lt_size e
    refine wpAny_pyNext_enum_item he' hit' hl' hv hei fun h₁ heo hit₁ ht₁ hz₁ hk₁ => ?_
    refine wpAny_letOwnedTupleGo_enum heo fun h₂ he₂ hs₂ => ?_
    replace hs₂ : Heap.SameBut e h₁ h₂ := hs₂
    have ht₂ : h₂.IsTuple H.objs.size #[.int i tk, .int xi tx] := ⟨_, (hs₂.2 _ (Nat.ne_of_gt heH)).trans ht₁, rfl, _, rfl⟩
    have hz₂ : h₂.objs.size = H.objs.size + 1 := hs₂.1.trans hz₁
    refine wpAny_assign_Tuple hh ht₂ rfl rfl fun h₃ hx₃ => ?_
    replace hx₃ : Heap.ExtBut h₂.objs.size h₂ h₃ := hx₃
    have old₃ : ∀ b o, b < H.objs.size → h₂.get? b = some o → h₃.get? b = some o := fun b o hb x => hx₃ b o (by rw [hz₂]; exact Nat.ne_of_lt (Nat.lt_succ_of_lt hb)) x
    have hn₃ : h₃.Ns env.locals m' := (hn'.at' fun o x => old₃ _ o hLH ((hs₂.2 _ (Ne.symm heL)).trans (hk₁ _ o (Ne.symm heL) (Ne.symm hiL) x)))
    show wpAny _ A (do holding [.int xi tx] (assign (.Name (S_ "k") a1) env (.int i tk)); do holding [] (assign (.Name (S_ "x") a2) env (.int xi tx)); pure ()) _ _ _
    refine wpAny_bind (wpAny_holding (wpAny_assign_Name (wpAny_storeName_local k2 hn₃ (fun h₄ hn₄ hs₄ => ?_) hp0)))
    replace hs₄ : Heap.SameBut env.locals h₃ h₄ := hs₄
    refine wpAny_bind (wpAny_holding (wpAny_assign_Name (wpAny_storeName_local k3 hn₄ (fun h₅ hn₅ hs₅ => wpAny_pure ?_) hp0)))
    replace hs₅ : Heap.SameBut env.locals h₄ h₅ := hs₅
    have up : ∀ b o, b ≠ env.locals → b ≠ e → b ≠ it → b < H.objs.size → H.get? b = some o → h₅.get? b = some o := fun b o hbL hbe hbi hb x =>
      hs₅.extBut b o hbL (hs₄.extBut b o hbL (old₃ b o hb ((hs₂.2 b hbe).trans (hk₁ b o hbe hbi x))))
    have up2 : ∀ b o, b ≠ env.locals → b < H.objs.size → h₂.get? b = some o → h₅.get? b = some o := fun b o hbL hb x => hs₅.extBut b o hbL (hs₄.extBut b o hbL (old₃ b o hb x))
    have e1 : (S_ "numbers") ≠ (S_ "x") := by decide +kernel
    have e2 : (S_ "numbers") ≠ (S_ "k") := by decide +kernel
    have e3 : (S_ "k") ≠ (S_ "x") := by decide +kernel
    refine wpAny_execs_cons (s2_body (N := N) (vs := vs) (ns := ns) (i := (i : Int)) (ti := tk) (xi := xi) (tx := tx) hk k1 k2 k3 hn₅ (by simp [e1, e2, hm']) (by simp [e3]) rfl (hp'.at fun o x => up N o hNL hNe hNi hNH x) hV' hlen' hnn' fun h₆ tk₆ vs' ns' hs₆ hp₆ hV₆ hl₆ hn₆ => wpAny_execs_nil ?_)
    replace hs₆ : Heap.SameBut N h₅ h₆ := hs₆
    refine ⟨items.size + 1 - (i + 1), by kt_len, h₆, tk₆, _, i + 1, .int xi tx, vs', ns', rfl, ?_, ?_, ?_, hn₅.sameBut hs₆ (Ne.symm hNL), by simp [e1, e2, hm'], hp₆, hV₆, hl₆, hn₆, hlt, rfl, fun b o hbL hbe hbi hbN x => ?_⟩
    · have : ((i + 1 : Nat) : Int) = (i : Int) + 1 := by push_cast; rfl
      rw [this]; exact (hs₆.2 _ (Ne.symm hNe)).trans (up2 e _ heL heH he₂)
    · exact ((hit₁.extBut hs₂.extBut (Ne.symm hei)).at fun o x => (hs₆.2 _ (Ne.symm hNi)).trans (up2 it o hiL hiH x))
    · exact hl'.at fun o x => (hs₆.2 _ (Ne.symm hNl)).trans (up l o hlL hle hli hlH x)
    · have hx := hk' b o hbL hbe hbi hbN x
      exact (hs₆.2 b hbN).trans (up b o hbL hbe hbi (Heap.lt_size hx) hx)
set_option tactic.hygienic true
end
set_option tactic.hygienic false
noncomputable def nNumbers:Nm:=[110,117,109,98,101,114,115]
theorem nm_numbers:nm (S_ "numbers")=nNumbers:=by kernel_rfl!
noncomputable def absI (i:Nat)(y:Int):AV:=if i < 6 then .lin 3888 (y / 3888) (y % 3888) else if i=6 then .lin 54 (y / 54) (y % 54) else .int y
noncomputable def absL:Nat→List Int→List AV
 | _,[]=>[]
 | i,y::l=>absI i y::absL (i+1) l
noncomputable def stN (ns:List Int):St:=⟨kdL,[(nNumbers,.ref 0)],[.list (absL 0 ns) 14]⟩
theorem absL_len (i:Nat)(ns:List Int):(absL i ns).length=ns.length:=by
 induction ns generalizing i with
 | nil=>rfl
 | cons y l ih=>simp [absL,ih]
theorem absI_VR {m:Nat}{ad:Nat→Addr}{h:Heap}{i:Nat}{y:Int}{v:Value}(x:∃ t,v=.int y t):VR m ad h (absI i y) v:=by
 refine exE x fun t=>?_
 unfold absI
 split
 ·exact ⟨t,by rw [Int.mul_ediv_add_emod]⟩
 ·split
  ·exact ⟨t,by rw [Int.mul_ediv_add_emod]⟩
  ·exact ⟨t,rfl⟩
theorem IntsV.al {vs:List Value}{ns:List Int}(V:IntsV vs ns){m:Nat}{ad:Nat→Addr}{h:Heap}(i:Nat):All2 (VR m ad h) (absL i ns) vs:=by
 induction V generalizing i with
 | nil=>exact .nil
 | cons x _ ih=>exact .cons (absI_VR x) (ih _)
section
variable {w:World}{A:Around}{E:Value→Shared→Prop}{s:Shared}
theorem law_start {L:Addr}{items:Array Value}{Q:Value→Shared→Prop}(hA:A.handled=none)(hd:A.depth < 900)(T0:Top0 w s.heap)(hg:s.gens=#[])(hL:s.heap.IsList L items)(hsz:items.size≤sizeLine)
  (hints:∀ (j:Nat) (v:Value),items[j]?=some v→∃ i t,v=.int i t)
  (k:∀ E' s' ad ns,Rep w s.os (Old s) (envL w s) ad (stN ns) s'→ns.length=14→(∀ y∈ns,0≤y) →
   wpAny (model Pr w) (A.deeper (envL w s)) (execs ((fBody (pb 17)).drop 2) (envL w s)) (fun f s'=>Q (match f with | .ret v=>v | _=>.none) s') E' s') :
  wpAny (model Pr w) A (call (.ref 199) [.ref L]) Q E s:=by
 have T:TopIn w.params s.heap:=fun a o e _ _=>T0 a o e
 refine enter_acc (o:=o199 w.params) (oc:=o198 w.params) (fd:=fd199 w.params) T T.nolimit (by kt_len) (by kernel_rfl!) (dat199 _) rfl (by kernel_rfl!) (by kernel_rfl!) (by decide) rfl (BindsTo.of_eq (bind199 _ _)) (by kernel_rfl!) (by kernel_rfl!) (by kernel_rfl!) fun E' h₀ n k₀=>?_
 rw [lwSplit]
 obtain ⟨a1,a2,a3,es,e0,hes⟩:=lw0
 refine lw1_el fun f1 f2 f3 f4 b1 b2 b3 b4 b5 b6 b7 b8 c1 c2 c3 c4 c5 c6 d1 d2 d3 d4 d5 e1 e2 e3 e4 z _ _=>?_
 rw [e0]
 have T₀:=T.keeps k₀
 have Llt:L < s.heap.objs.size:=let ⟨o,e,_⟩:=hL;Heap.lt_size e
 refine wpAny_execs_cons (wpAny_Assign_Name (wpAny_List (consts_ok hes fun vs₀ tk₀ V₀=>⟨?_,?_⟩)) (by rfl))
 ·rw [V₀.length];decide
 generalize hN:({s with heap:=h₀,toks:=tk₀}:Shared).heap.objs.size=N
 have hN:h₀.objs.size=N:=hN
 have hLoc:s.heap.objs.size < N:=by rw [← hN];exact n.lt
 have nN:=n.push {cls:=.type "list",data:=.seq vs₀.toArray}
 refine wpAny_storeName_local (by kernel_rfl!) nN (fun h₁ n₁ s₁=>?_)
 have k₁:∀ b o,b≠s.heap.objs.size→h₀.get? b=some o→h₁.get? b=some o:=fun b o hb e=>(s₁.2 b hb).trans (Heap.get?_push_of_some _ e)
 have K₁:∀ b o,s.heap.get? b=some o→h₁.get? b=some o:=fun b o e=>k₁ b o (Nat.ne_of_lt (Heap.lt_size e)) (k₀ b o e)
 have p₁:h₁.PlainList N ⟨vs₀⟩:=⟨0,(s₁.2 N (Nat.ne_of_gt hLoc)).trans (by rw [← hN];simpa using Heap.get?_push_size h₀ (o:={cls:=.type "list",data:=.seq vs₀.toArray}) rfl)⟩
 refine wpAny_execs_cons (wpAny_For (Call_Name rfl (globB' (T.keeps K₁) (by kernel_rfl!) (by kernel_rfl!) rfl rfl (gl3_at w.params (x:="enumerate") (by decide)).1 (gl3_at w.params (x:="enumerate") (by decide)).2 (by kernel_rfl!)
  (withT (by rfl) (args_cons (Subscript_ (nameL (.ref L) n₁ (by kernel_rfl!) (by kernel_rfl!) (by kernel_rfl!) (by kernel_rfl!) (wpAny_Slice (wpAny_pure (wpAny_Constant_int (i:=63) (k:=b3) (pos:=b4) (wpAny_pure ?_)))))) rfl)))) (by intro _;rfl))
 have hL₁:h₁.IsList L items:=hL.at fun o e=>K₁ _ _ e
 refine tail_ok (hL₁.push _).typeIs list_getitem_lookup (wpAny_getItem_list_slice (hL₁.push _) (Heap.IsSliceOf.new ..) .none (.int 63 _) .none (by decide) ?_ hsz)
 refine args_nil ?_
 generalize hl:((h₁.push {cls:=.type "slice",data:=.fields #[Value.none,Value.int 63 _,Value.none]}).objs.size)=l
 generalize hh2:((h₁.push {cls:=.type "slice",data:=.fields #[Value.none,Value.int 63 _,Value.none]}).push {cls:=.type "list",data:=.seq (slicePick items none (some 63) none)})=h₂
 have K₂:∀ b o,h₁.get? b=some o→h₂.get? b=some o:=fun b o e=>by rw [← hh2];exact Heap.get?_push_of_some _ (Heap.get?_push_of_some _ e)
 have hl₂:h₂.get? l=some {cls:=.type "list",data:=.seq (slicePick items none (some 63) none)}:=by rw [← hh2,← hl];exact Heap.get?_push_size _ rfl
 have hlist:h₂.IsList l (slicePick items none (some 63) none):=⟨_,hl₂,rfl,0,rfl⟩
 have hl1:h₁.objs.size≤l:=by rw [← hl,Heap.size_push];exact Nat.le_succ _
 refine call_enumerate_list (s:={s with heap:=h₂,toks:=_}) hlist fun h₃ he hit hz₃ K₃=>?_
 have hl2:l < h₂.objs.size:=Heap.lt_size hl₂
 refine wpAny_pyIter_enum he ?_
 have nL₃:=n₁.keeps (fun b o e=>K₃ b o (K₂ b o e))
 have hloc1:s.heap.objs.size < h₁.objs.size:=n₁.lt
 have hN1:N < h₁.objs.size:=by obtain ⟨q,e⟩:=p₁;exact Heap.lt_size e
 have p₃:h₃.PlainList N ⟨vs₀⟩:=p₁.at fun o e=>K₃ _ _ (K₂ _ _ e)
 refine s2_loop (body:=[]) (s:={s with heap:=h₃,toks:=_}) (N:=N) (l:=l) (items:=slicePick items none (some 63) none) hA (by kernel_rfl!) (by kernel_rfl!) (by kernel_rfl!) (by kernel_rfl!) (Nat.ne_of_gt (Nat.lt_succ_self _)) ?_ ?_ ?_ ?_ ?_ ?_ ?_ ?_ ?_
  he hit (hlist.at fun o e=>K₃ _ _ e) ?_ nL₃ rfl p₃ V₀ rfl (by decide) fun h₄ tk₄ m₄ vs ns n₄ hm₄ p₄ V₄ hlen hnn K₄=>?_
 ·exact Nat.ne_of_gt (by show s.heap.objs.size < h₂.objs.size+1;kt_len)
 ·exact Nat.ne_of_gt (by show s.heap.objs.size < h₂.objs.size;kt_len)
 ·exact Nat.ne_of_gt (by show s.heap.objs.size < l;kt_len)
 ·exact Nat.ne_of_lt (by show l < h₂.objs.size+1;kt_len)
 ·exact Nat.ne_of_lt hl2
 ·exact Nat.ne_of_gt hLoc
 ·exact Nat.ne_of_lt (by show N < h₂.objs.size+1;kt_len)
 ·exact Nat.ne_of_lt (by show N < h₂.objs.size;kt_len)
 ·exact Nat.ne_of_lt (by kt_len)
 ·intro j v hv
  obtain ⟨i,hi⟩:=slice_mem hv
  exact hints i v hi
 ·
  have K:∀ b o,s.heap.get? b=some o→h₄.get? b=some o:=fun b o e=>by
   have hb:=Heap.lt_size e
   refine K₄ b o (Nat.ne_of_lt hb) (Nat.ne_of_lt ?_) (Nat.ne_of_lt ?_) (Nat.ne_of_lt ?_) (K₃ _ _ (K₂ _ _ (K₁ _ _ e)))
   ·exact Nat.lt_succ_of_lt (Nat.lt_trans hb (Nat.lt_trans hloc1 (Nat.lt_of_le_of_lt hl1 hl2)))
   ·exact Nat.lt_trans hb (Nat.lt_trans hloc1 (Nat.lt_of_le_of_lt hl1 hl2))
   ·exact Nat.lt_trans hb hLoc
  refine k _ {s with heap:=h₄,toks:=tk₄} (fun _=>N) ns ?_ hlen hnn
  have hkd:∀ x,(envL w s).kindOf x=kdL.lookup x:=fun _=>rfl
  exact
  {kept:=fun a o b=>K a o b.1
   top:=fun a o e h1 h2=>⟨T a o e h1 h2,h1,h2⟩
   kd:=rfl
   ns:=⟨m₄,n₄,fun x v e kx=>by
    simp only [stN,look,beq_iff_eq] at e
    split at e
    next hx=>
     obtain rfl:=Option.some.inj e
     have:x=S_ "numbers":=nm_inj (hx.symm.trans nm_numbers.symm)
     subst this
     exact ⟨.ref N,hm₄,by simp [stN],rfl⟩
    next=>exact noS e⟩
   cl:=fun x v e kx=>by
    simp only [stN,look,beq_iff_eq] at e
    split at e
    next hx=>
     have:x=S_ "numbers":=nm_inj (hx.symm.trans nm_numbers.symm)
     subst this
     rw [hkd,kd_numbers] at kx
     rcases kx with kx | kx <;> cases kx
    next=>exact noS e
   cells:=fun x kx=>absurd kx not_cell
   cellObj:=fun x c e=>by exact noS e
   apart:=List.Pairwise.nil
   mem:=fun i o e=>by
    induction i using Nat.casesOn with
    | zero=>
     refine someE e ?_
     exact ⟨vs,p₄,V₄.al 0,by rw [absL_len,hlen];decide,by decide⟩
    | succ i=>simp [stN] at e
   inj:=fun i j hij hj=>by simp [stN] at hj;kt_len
   offB:=fun a o b=>⟨b.2.1,b.2.2,Nat.ne_of_lt (Heap.lt_size b.1),fun x c e=>(by exact noS e),fun i hi=>Nat.ne_of_lt (Nat.lt_trans (Heap.lt_size b.1) hLoc)⟩
   tab:=fun a h=>⟨⟨⟨[]⟩,trivial⟩,K a _ (T0 a _ (by rcases h with rfl | rfl <;> kernel_rfl!))⟩
   bare:=by show AllBare s.gens;rw [hg];exact AllBare.empty
   os:=rfl}
end
set_option tactic.hygienic false
noncomputable def LawFact:Prop:=∀ ns:List Int,ns.length=14→(∀ y∈ns,0≤y)→∃ N st',N≤650∧(run FT N).SS ((fBody (pb 17)).drop 2) (stN ns)=some (.ret (.bool true),st')
theorem tab0 (P:Params)(a:Addr)(h:a=62∨a=69):(Hf P).get? a=some ⟨.none,none,.fields #[],⟨[]⟩⟩:=by
 rcases h with rfl | rfl <;> kernel_rfl!
noncomputable def ctOk (o:Obj)(b:Nat):Bool:=
 match o.cls,o.data with
 | .type t,.fields vs=>t=="code"&&(match (vs[11]?:Option Value) with | some (Value.ref c)=>c==b | _=>false)
 | _,_=>false
set_option tactic.hygienic true in
theorem ctOk_ok {h:Heap}{c b:Nat}{o:Obj}(e:h.get? c=some o)(k:ctOk o b=true):isCodeTable h b:=by
 unfold ctOk at k
 split at k
 next t vs h1 h2=>
  rw [Bool.and_eq_true,beq_iff_eq] at k
  obtain ⟨rfl,k⟩:=k
  split at k
  next c e2=>rw [beq_iff_eq] at k;subst k;exact ⟨_,o,vs,e,h1,h2,e2⟩
  next=>exact ftC k
 next=>exact ftC k
theorem ct62 {P:Params}{h:Heap}(T:∀ a o,(Hf P).get? a=some o→h.get? a=some o):isCodeTable h 62:=ctOk_ok (T 66 (o66 P) (by kernel_rfl!)) (by kernel_rfl!)
theorem ct69 {P:Params}{h:Heap}(T:∀ a o,(Hf P).get? a=some o→h.get? a=some o):isCodeTable h 69:=ctOk_ok (T 73 (o73 P) (by kernel_rfl!)) (by kernel_rfl!)
theorem law_name (P:Params):namesM P 3 lawD.name=some (.ref 199):=by kernel_rfl!
theorem ints_at {vs:List Value}{ns:List Int}(h:IntsAre vs ns):∀ (j:Nat) (v:Value),vs[j]?=some v→∃ i t,v=.int i t:=by
 induction h with
 | nil=>intro j v e;simp at e
 | cons n t _ ih=>
  intro j v e
  induction j using Nat.casesOn with
  | zero=>obtain rfl:=Option.some.inj e;exact ⟨n,t,rfl⟩
  | succ j=>exact ih j v (by simpa using e)
theorem ints_len {vs:List Value}{ns:List Int}(h:IntsAre vs ns):vs.length=ns.length:=by
 induction h with
 | nil=>rfl
 | cons n t _ ih=>simp [ih]
set_option tactic.hygienic true in
theorem walk (L:LawFact):Walk47:=by
 intro w s₀ s₁ mg mb G Y a o pm cd doc dV kV ho hd hcd hD hmg hg args vals as hpre hlay hrd hwl hlo
 have T:=Ground.T G
 have hu:namesM w.params 3=mg:=ns_unique ((TopIn.nsAt (fun a o e _ _=>Y a o e) (by decide) (by decide) (ns3 _)):s₁.heap.Ns 3 (namesM w.params 3)) (Top.g T)
 have ha:a=199:=by
  rw [← hu,law_name] at hmg;cases hmg;rfl
 subst ha
 wrow_args hpre hlay hrd hwl hlo
 rename_i ws _ _ _ _ _ _ _ la vs _ hL _ _ _ hI _ hlen _
 have hlen:ws.length≤63:=by kt_len
 show wpAny (model Pr w) callerA (call (.ref 199) [.ref la]) _ _ _
 have hl2:=ints_len hI
 refine law_start rfl (by decide) Y hg hL (by simp [sizeLine];kt_len) (fun j v e=>ints_at hI j v (by simpa using e)) fun E' s' ad ns R h14 hnn=>?_
 refine x2_1 (L ns h14 hnn) fun N st' hN hrun=>?_
 refine (sound N).SS (A:=callerA.deeper (envL w s₁)) ⟨rfl,?_,?_⟩ envL_ok hrun R fun ad' v s'' nx V=>?_
 ·show 1+claimMargin+1+N+20 < 1000
  simp only [claimMargin];kt_len
 ·show 4+3+10*N+200 < 9900
  kt_len
 obtain ⟨v,rfl,V⟩:=V
 ·have hv:v=.bool true:=V
  subst hv
  have KK:OldK s₁.heap s''.heap:=by
   have R':=nx.R
   refine ⟨fun b o e=>?_,fun b o e=>?_⟩
   ·by_cases h62:b=62∨b=69
    ·refine x1_0 (R'.tab b h62) fun vs hv=>?_
     have h0:=Y _ _ (tab0 w.params b h62)
     cases someI e h0
     refine .inr (.inl ⟨?_,rfl,#[],vs.1,rfl,by simpa using hv⟩)
     rcases h62 with rfl | rfl
     ·exact ct62 Y
     ·exact ct69 Y
    ·exact .inl (R'.kept b o ⟨e,fun h=>h62 (.inl h),fun h=>h62 (.inr h)⟩)
   ·by_cases h62:b=62∨b=69
    ·refine x1_0 (R'.tab b h62) fun vs hv=>?_;exact ⟨_,hv⟩
    ·exact ⟨o,R'.kept b o ⟨e,fun h=>h62 (.inl h),fun h=>h62 (.inr h)⟩⟩
  refine ⟨.inl ⟨.bool true,.bool true,[],rfl,?_,.bool true,?_,?_⟩,KK,nx.R.os,nx.R.bare⟩
  ·exact raisesW_false (by wrow_none_raised)
  ·wrow_post
  ·exact unshared_nil
set_option backward.match.sparseCases false
set_option tactic.hygienic false
section steps
variable {n:Nat}{kd:List (Str × NameKind)}{σ:Sig}{μ:Mu}{st:St}
noncomputable abbrev R (n:Nat):Rec:=run FT n
noncomputable def locOk (kd:List (Str × NameKind))(x:Str):Bool:=
 isLoc (kindIn kd (nm x))&&!(nm x==[95,95,99,108,97,115,115,100,105,99,116,95,95]||nm x==[95,95,100,101,98,117,103,95,95])
noncomputable def stoOk (kd:List (Str × NameKind))(x:Str):Bool:=isSto (kindIn kd (nm x))
noncomputable def globOk (kd:List (Str × NameKind))(x:Str):Bool:=isGlob (kindIn kd (nm x))
noncomputable def isIsi (f:Str):Bool:=nm f==nm (Str.ofString "isinstance")
noncomputable def notSl:Expr→Bool
 | .Slice _ _ _ _=>false
 | _=>true
theorem eConst {c:Const}{a:Nat}{p:Pos}:(run FT (n+1)).E (.Constant c a p) st=(constA c).map fun v=>(v,st):=rfl
theorem eName {x:Str}{p:Pos}(h:locOk kd x=true):(run FT (n+1)).E (.Name x p) ⟨kd,σ,μ⟩=(look σ (nm x)).map fun v=>(v,⟨kd,σ,μ⟩):=by
 rw [locOk,Bool.and_eq_true,Bool.not_eq_true'] at h
 show (if isLoc (kindIn kd (nm x)) then _ else _)=_
 rw [if_pos h.1,if_neg (by rw [h.2];decide)]
theorem eBin {a b:Expr}{op:Operator}{p:Pos}:(run FT (n+1)).E (.BinOp a op b p) st=((run FT n).E a st).bind fun (u,st)=>((run FT n).E b st).bind fun (v,st)=>(binA op u v).map fun z=>(z,st):=rfl
theorem eNot {a:Expr}{p:Pos}:(run FT (n+1)).E (.UnaryOp .Not a p) st=((run FT n).E a st).bind fun (u,st)=>(truA st.μ u).map fun b=>(.bool (!b),st):=rfl
theorem eUSub {a:Expr}{p:Pos}:(run FT (n+1)).E (.UnaryOp .USub a p) st=((run FT n).E a st).bind fun (u,st)=>match u with | .int i=>some (.int (-i),st) | _=>Option.none:=rfl
theorem eCmp {a b:Expr}{op:CmpOp}{p:Pos}(h:isSetE b=false):(run FT (n+1)).E (.Compare a [op] [b] p) st=((run FT n).E a st).bind fun (u,st)=>((run FT n).E b st).bind fun (v,st)=>(cmpA st.μ op u v).map fun z=>(z,st):=by
 show (if isSetE b then _ else _)=_
 rw [h];rfl
theorem eIf {t a b:Expr}{p:Pos}:(run FT (n+1)).E (.IfExp t a b p) st=((run FT n).T t st).bind fun (c,st)=>if c then (run FT n).E a st else (run FT n).E b st:=rfl
theorem eTup {es:List Expr}{a:Nat}{p:Pos}:(run FT (n+1)).E (.Tuple es a p) st=((run FT n).Es es st).bind fun (vs,st)=>if vs.all flat&&decide (vs.length≤1000) then some (.tup vs,st) else Option.none:=rfl
theorem eList {es:List Expr}{p:Pos}:(run FT (n+1)).E (.List es p) st=((run FT n).Es es st).bind fun (vs,st)=>if decide (vs.length≤1000) then some (st.alloc (.list vs vs.length)) else Option.none:=rfl
theorem eSlice {o:Expr}{lo hi:Option Expr}{p q:Pos}:(run FT (n+1)).E (.Subscript o (.Slice lo hi Option.none p) q) st =
  ((run FT n).E o st).bind fun (u,st)=>(partA (run FT n) lo st).bind fun (a,st)=>(partA (run FT n) hi st).bind fun (b,st)=>sliceA u a b st:=rfl
theorem eSub {o i:Expr}{p:Pos}(h:notSl i=true):(run FT (n+1)).E (.Subscript o i p) st =
  ((run FT n).E o st).bind fun (u,st)=>((run FT n).E i st).bind fun (v,st)=>(getA st.μ u v).map fun z=>(z,st):=by
 induction i using Expr.casesOn <;> first | rfl | exact ftC h
theorem eCall {f:Str}{a:Pos}{as:List Expr}{p:Pos}(h:globOk kd f=true)(h2:as.all notStar=true)(h3:isIsi f=false):(run FT (n+1)).E (.Call (.Name f a) as [] p) ⟨kd,σ,μ⟩ =
  ((run FT n).Es as ⟨kd,σ,μ⟩).bind fun (vs,st)=>prim FT (run FT n) (nm f) vs st:=by
 show (if isGlob (kindIn kd (nm f))&&as.all notStar then (if nm f==nm (Str.ofString "isinstance") then _ else _) else _)=_
 rw [show isGlob (kindIn kd (nm f))=true from h,h2,show (nm f==nm (Str.ofString "isinstance"))=false from h3];rfl
theorem eIsi {f b:Str}{a q:Pos}{e:Expr}{p:Pos}(h:globOk kd f=true)(h2:notStar e=true)(h3:(nm f==nm (Str.ofString "isinstance"))=true)(h4:(nm b==[98,111,111,108])=true)(h5:globOk kd b=true) :
  (run FT (n+1)).E (.Call (.Name f a) [e,.Name b q] [] p) ⟨kd,σ,μ⟩ =
  ((run FT n).E e ⟨kd,σ,μ⟩).bind fun (u,st)=>match u with | .int _=>some (.bool false,st) | .bool _=>some (.bool true,st) | _=>Option.none:=by
 show (if isGlob (kindIn kd (nm f))&&[e,Expr.Name b q].all notStar then (if nm f==nm (Str.ofString "isinstance") then (if nm b==[98,111,111,108]&&isGlob (kindIn kd (nm b)) then _ else _) else _) else _)=_
 rw [show isGlob (kindIn kd (nm f))=true from h,h3,show [e,Expr.Name b q].all notStar=true by rw [List.all_cons,h2];rfl,h4,show isGlob (kindIn kd (nm b))=true from h5];rfl
theorem eMeth {o:Expr}{f:Str}{ap:Pos}{as:List Expr}{p:Pos}(h:(as.all notStar&&!isCallE o&&ap.endLine==p.line&&decide (as.length≤20))=true):(run FT (n+1)).E (.Call (.Attribute o f ap) as [] p) st =
  ((run FT n).E o st).bind fun (u,st)=>((run FT n).Es as st).bind fun (vs,st2)=>if kindOk st.μ st2.μ u then meth u (nm f) vs st2 else Option.none:=by
 show (if !(as.all notStar&&!isCallE o&&ap.endLine==p.line&&decide (as.length≤20)) then _ else _)=_
 rw [h];rfl
theorem esNil:(run FT (n+1)).Es [] st=some ([],st):=rfl
theorem esCons {e:Expr}{es:List Expr}(h:notStar e=true):(run FT (n+1)).Es (e::es) st=((run FT n).E e st).bind fun (v,st)=>((run FT n).Es es st).map fun (vs,st)=>(v::vs,st):=by
 induction e using Expr.casesOn <;> first | rfl | exact ftC h
theorem tBool {op:BoolOp}{es:List Expr}{p:Pos}:(run FT (n+1)).T (.BoolOp op es p) st=(run FT n).Ts op es st:=rfl
theorem tNot {a:Expr}{p:Pos}:(run FT (n+1)).T (.UnaryOp .Not a p) st=((run FT n).T a st).map fun (b,st)=>(!b,st):=rfl
theorem tCmp {a b:Expr}{op:CmpOp}{p:Pos}(h:isSetE b=false):(run FT (n+1)).T (.Compare a [op] [b] p) st=((run FT n).E a st).bind fun (u,st)=>((run FT n).E b st).bind fun (v,st)=>(cmpA st.μ op u v).bind fun z=>(truA st.μ z).map fun b=>(b,st):=by
 show (if isSetE b then _ else _)=_
 rw [h];rfl
theorem tName {x:Str}{p:Pos}:(run FT (n+1)).T (.Name x p) st=((run FT n).E (.Name x p) st).bind fun (v,st)=>(truA st.μ v).map fun b=>(b,st):=rfl
theorem tCall {f:Expr}{as:List Expr}{ks:List Keyword}{p:Pos}:(run FT (n+1)).T (.Call f as ks p) st=((run FT n).E (.Call f as ks p) st).bind fun (v,st)=>(truA st.μ v).map fun b=>(b,st):=rfl
theorem tsOne {op:BoolOp}{e:Expr}:(run FT (n+1)).Ts op [e] st=(run FT n).T e st:=rfl
theorem tsCons {op:BoolOp}{e e2:Expr}{es:List Expr}:(run FT (n+1)).Ts op (e::e2::es) st=((run FT n).T e st).bind fun (b,st)=>match op,b with
  | .And,false=>some (false,st)
  | .Or,true=>some (true,st)
  | op,_=>(run FT n).Ts op (e2::es) st:=rfl
theorem ssNil:(run FT (n+1)).SS [] st=some (.next,st):=rfl
theorem ssCons {x:Stmt}{l:List Stmt}:(run FT (n+1)).SS (x::l) st=((run FT n).S x st).bind fun (f,st)=>match f with | .next=>(run FT n).SS l st | f=>some (f,st):=rfl
theorem sRet {e:Expr}{p:Pos}:(run FT (n+1)).S (.Return (some e) p) st=((run FT n).E e st).map fun (v,st)=>(.ret v,st):=rfl
theorem sAsSub {o i e:Expr}{p q:Pos}(h:isCompE e=false):(run FT (n+1)).S (.Assign [.Subscript o i p] e q) st =
  ((run FT n).E e st).bind fun (v,st)=>((run FT n).E o st).bind fun (u,st)=>((run FT n).E i st).bind fun (k,st)=>
  match u,k with
  | .ref j,.int k=>
   match st.μ[j]? with
   | some (.list l kk)=>if 0≤k∧k.toNat < l.length∧k < 100000 then some (.next,{st with μ:=st.μ.set j (.list (l.set k.toNat v) kk)}) else Option.none
   | _=>Option.none
  | _,_=>Option.none:=by
 show (if isCompE e then _ else _)=_
 rw [h];rfl
theorem put_eq (x:Nm)(v:AV)(h:isSto (kindIn kd x)=true):putLoc ⟨kd,σ,μ⟩ x v=some ⟨kd,put σ x v,μ⟩:=by
 unfold putLoc;rw [if_pos h]
theorem sAsName {x:Str}{e:Expr}{p q:Pos}(h:isCompE e=false):(run FT (n+1)).S (.Assign [.Name x p] e q) st=((run FT n).E e st).bind fun (v,st)=>(putLoc st (nm x) v).map fun st=>(.next,st):=by
 show (if isCompE e then _ else _)=_
 rw [h];rfl
theorem sAsTup {ts:List Expr}{a:Nat}{e:Expr}{p q:Pos}(h:isCompE e=false):(run FT (n+1)).S (.Assign [.Tuple ts a p] e q) st=match swapsOf st.kd ts e with
  | Option.none=>Option.none
  | some Option.none=>((run FT n).E e st).bind fun (v,st)=>(giveAll ts v st).map fun st=>(.next,st)
  | some (some ns)=>((run FT n).E e st).bind fun (v,st)=>(giveRev ns v st).map fun st=>(.next,st):=by
 show (if isCompE e then _ else _)=_
 rw [h];rfl
theorem sAug {x:Str}{p:Pos}{op:Operator}{e:Expr}{q:Pos}(h:locOk kd x=true):(run FT (n+1)).S (.AugAssign (.Name x p) op e q) ⟨kd,σ,μ⟩ =
  (look σ (nm x)).bind fun u=>((run FT n).E e ⟨kd,σ,μ⟩).bind fun (v,st)=>(augA op u v).bind fun z=>(putLoc st (nm x) z).map fun st=>(.next,st):=by
 rw [locOk,Bool.and_eq_true,Bool.not_eq_true',Bool.or_eq_false_iff] at h
 show (if isLoc (kindIn kd (nm x))&&!(nm x==[95,95,99,108,97,115,115,100,105,99,116,95,95]) then _ else _)=_
 rw [h.1,h.2.1];rfl
theorem sFor {x:Str}{p:Pos}{i:Expr}{b:List Stmt}{q:Pos}:(run FT (n+1)).S (.For (.Name x p) i b [] q) st=(stepIt (run FT n) i st).bind fun (it,st)=>(run FT n).Lp (.Name x p) it b st:=rfl
theorem sWhile {t:Expr}{b:List Stmt}{q:Pos}:(run FT (n+1)).S (.While t b [] q) st=(run FT n).Wh t b st:=rfl
theorem sIf {t:Expr}{a b:List Stmt}{q:Pos}:(run FT (n+1)).S (.If t a b q) st=((run FT n).T t st).bind fun (c,st)=>if c then (run FT n).SS a st else (run FT n).SS b st:=rfl
theorem sAssert {t:Expr}{q:Pos}:(run FT (n+1)).S (.Assert t Option.none q) st=((run FT n).T t st).bind fun (c,st)=>if c then some (.next,st) else Option.none:=rfl
theorem sExpr {e:Expr}{q:Pos}(h:isCompE e=false):(run FT (n+1)).S (.Expr e q) st=((run FT n).E e st).bind fun (v,st)=>some (.next,st):=by
 show (if isCompE e then _ else _)=_
 rw [h];rfl
theorem sDel {o i:Expr}{p q:Pos}:(run FT (n+1)).S (.Delete [.Subscript o i p] q) st=((run FT n).E o st).bind fun (u,st)=>((run FT n).E i st).bind fun (k,st)=>
  match u,k with
  | .ref j,.int k=>
   match st.μ[j]? with
   | some (.list l kk)=>if small k then (idx l.length k).map fun k=>(.next,{st with μ:=st.μ.set j (.list (l.eraseIdx k) kk)}) else Option.none
   | _=>Option.none
  | _,_=>Option.none:=rfl
theorem lpEq {t:Expr}{it:AIt}{b:List Stmt}:(run FT (n+1)).Lp t it b st=(nextIt it st.μ).bind fun k=>match k with
  | Option.none=>some (.next,st)
  | some (v,it')=>(giveTo t v st).bind fun st=>((run FT n).SS b st).bind fun (f,st)=>match f with
   | .ret v=>some (.ret v,st)
   | .brk=>some (.next,st)
   | _=>(run FT n).Lp t it' b st:=rfl
theorem whEq {t:Expr}{b:List Stmt}:(run FT (n+1)).Wh t b st=((run FT n).T t st).bind fun (c,st)=>if c then ((run FT n).SS b st).bind fun (f,st)=>match f with
  | .ret v=>some (.ret v,st)
  | .brk=>some (.next,st)
  | _=>(run FT n).Wh t b st
 else some (.next,st):=rfl
theorem partNone {r:Rec}:partA r Option.none st=some (Option.none,st):=rfl
theorem partSome {r:Rec}{e:Expr}:partA r (some e) st=(r.E e st).bind fun (v,st)=>match v with | .int i=>some (some i,st) | _=>Option.none:=rfl
theorem alloc_eq (o:AObj):St.alloc ⟨kd,σ,μ⟩ o=(.ref μ.length,⟨kd,σ,μ++[o]⟩):=rfl
theorem gq1 {ts:List Expr}{vs:List AV}:giveAll ts (.tup vs) st=putAll ts vs st:=rfl
theorem gq2:putAll [] [] st=some st:=rfl
theorem gq3 {x:Str}{p:Pos}{l:List Expr}{v:AV}{vs:List AV}:putAll (.Name x p::l) (v::vs) st=(putLoc st (nm x) v).bind (putAll l vs):=rfl
theorem gq4 {i:Int}:constA (.int i)=some (.int i):=rfl
theorem gq5 {s:Str}:constA (.str s)=some (.str s.cps.toList):=rfl
theorem gq6 {b:Bool}:constA (.bool b)=some (.bool b):=rfl
theorem gq7:constA .none=some .none:=rfl
theorem gq8 {x:Str}{p:Pos}{v:AV}:giveTo (.Name x p) v st=putLoc st (nm x) v:=rfl
theorem gq9 {ts:List Expr}{a:Nat}{p:Pos}{v:AV}:giveTo (.Tuple ts a p) v st=giveAll ts v st:=rfl
theorem gq10 {r:Rec}{x:Str}{p:Pos}:stepIt r (.Name x p) st=(r.E (.Name x p) st).bind fun (v,st')=>(itOf st' v).map fun i=>(i,st'):=rfl
theorem gq11 {r:Rec}{e:Expr}:allT r [e] st=(r.T e st).bind fun (b,st)=>if b then some (true,st) else some (false,st):=rfl
theorem nx_lst {i k kk:Nat}{l:List AV}(h:μ[i]?=some (.list l kk)):nextIt (.lst i k) μ=match l[k]? with | some v=>some (some (v,.lst i (k+1))) | Option.none=>some Option.none:=by
 show (match μ[i]? with | some (.list l _)=>(match l[k]? with | some v=>some (some (v,AIt.lst i (k+1))) | Option.none=>some Option.none) | _=>Option.none)=_
 rw [h]
theorem nx_some {i k kk:Nat}{l:List AV}{v:AV}(h:μ[i]?=some (.list l kk))(hv:l[k]?=some v):nextIt (.lst i k) μ=some (some (v,.lst i (k+1))):=by rw [nx_lst h,hv]
theorem nx_none {i k kk:Nat}{l:List AV}(h:μ[i]?=some (.list l kk))(hv:l[k]?=none):nextIt (.lst i k) μ=some Option.none:=by rw [nx_lst h,hv]
theorem it_ref {i kk:Nat}{l:List AV}(h:μ[i]?=some (.list l kk)):itOf ⟨kd,σ,μ⟩ (.ref i)=some (.lst i 0):=by
 show (asL μ[i]?).map _=_
 rw [h];rfl
theorem kindS {i:Nat}{o:AObj}(h:μ[i]?=some o):kindOk μ μ (.ref i)=true:=by
 show kindO μ[i]? μ[i]?=true
 rw [h]
 cases o <;> rfl
theorem nsl {n l a b c:Nat}(h:l≤a)(e:a+b=c):n+a - l+l+b=n+c:=by kt_len
theorem ltS {C:Nat→Prop}{n a:Nat}(h:a < n+1)(k:a < n→C a)(hn:C n):C a:=by
 rcases Nat.lt_or_eq_of_le (Nat.le_of_lt_succ h) with h | rfl
 ·exact k h
 ·exact hn
@[elab_as_elim] theorem ltn2 {C:Nat→Prop}{a:Nat}(h:a < 2)(h0:C 0)(h1:C 1):C a:=
 ltS h (fun h=>ltS h (fun h=>(Nat.not_lt_zero _ h).elim) h0) h1
@[elab_as_elim] theorem ltn3 {C:Nat→Prop}{a:Nat}(h:a < 3)(h0:C 0)(h1:C 1)(h2:C 2):C a:=
 ltS h (fun h=>ltS h (fun h=>ltS h (fun h=>(Nat.not_lt_zero _ h).elim) h0) h1) h2
@[elab_as_elim] theorem ltn6 {C:Nat→Prop}{a:Nat}(h:a < 6)(h0:C 0)(h1:C 1)(h2:C 2)(h3:C 3)(h4:C 4)(h5:C 5):C a:=
 ltS h (fun h=>ltS h (fun h=>ltS h (fun h=>ltS h (fun h=>ltS h (fun h=>ltS h (fun h=>(Nat.not_lt_zero _ h).elim) h0) h1) h2) h3) h4) h5
@[elab_as_elim] theorem ltn9 {C:Nat→Prop}{a:Nat}(h:a < 9)(h0:C 0)(h1:C 1)(h2:C 2)(h3:C 3)(h4:C 4)(h5:C 5)(h6:C 6)(h7:C 7)(h8:C 8):C a:=
 ltS h (fun h=>ltS h (fun h=>ltS h (fun h=>ltS h (fun h=>ltS h (fun h=>ltS h (fun h=>ltS h (fun h=>ltS h (fun h=>ltS h (fun h=>(Nat.not_lt_zero _ h).elim) h0) h1) h2) h3) h4) h5) h6) h7) h8
@[elab_as_elim] theorem ltn11 {C:Nat→Prop}{a:Nat}(h:a < 11)(h0:C 0)(h1:C 1)(h2:C 2)(h3:C 3)(h4:C 4)(h5:C 5)(h6:C 6)(h7:C 7)(h8:C 8)(h9:C 9)(h10:C 10):C a:=
 ltS h (fun h=>ltS h (fun h=>ltS h (fun h=>ltS h (fun h=>ltS h (fun h=>ltS h (fun h=>ltS h (fun h=>ltS h (fun h=>ltS h (fun h=>ltS h (fun h=>ltS h (fun h=>(Nat.not_lt_zero _ h).elim) h0) h1) h2) h3) h4) h5) h6) h7) h8) h9) h10
@[elab_as_elim] theorem ltn12 {C:Nat→Prop}{a:Nat}(h:a < 12)(h0:C 0)(h1:C 1)(h2:C 2)(h3:C 3)(h4:C 4)(h5:C 5)(h6:C 6)(h7:C 7)(h8:C 8)(h9:C 9)(h10:C 10)(h11:C 11):C a:=
 ltS h (fun h=>ltS h (fun h=>ltS h (fun h=>ltS h (fun h=>ltS h (fun h=>ltS h (fun h=>ltS h (fun h=>ltS h (fun h=>ltS h (fun h=>ltS h (fun h=>ltS h (fun h=>ltS h (fun h=>(Nat.not_lt_zero _ h).elim) h0) h1) h2) h3) h4) h5) h6) h7) h8) h9) h10) h11
theorem nm_ofS (a:String):nm (Str.ofString a)=a.toList.map Char.toNat:=by
 show (Str.ofString a).cps.toList=_
 rw [Str.ofString_eq_toList]
theorem nmS (a b:String):(nm (Str.ofString a)==nm (Str.ofString b))=(a==b):=by
 by_cases h:a=b
 ·subst h;simp
 ·have:nm (Str.ofString a)≠nm (Str.ofString b):=fun e=>h (by
   rw [nm_ofS,nm_ofS] at e
   have hinj:∀ x y:Char,x.toNat=y.toNat→x=y:=fun x y h=>Char.toNat_inj.1 h
   exact String.toList_inj.1 ((List.map_inj_right (fun {x y} h=>hinj x y h)).1 e))
  rw [beq_eq_false_iff_ne.2 this,beq_eq_false_iff_ne.2 h]
end steps
theorem nmP (a b:String):(nm (Str.ofString a)=nm (Str.ofString b))=(a=b):=by
 have h:=nmS a b
 apply propext
 constructor
 ·intro e;rw [e,beq_self_eq_true] at h;exact beq_iff_eq.1 h.symm
 ·intro e;subst e;rfl
theorem put_loc {kd:List (Str × NameKind)}{σ:Sig}{μ:Mu}{x:Str}{v:AV}(h:stoOk kd x=true):putLoc ⟨kd,σ,μ⟩ (nm x) v=some ⟨kd,put σ (nm x) v,μ⟩:=put_eq _ _ h
theorem lk_script:locOk kdL (Str.ofString "script")=true:=Eq.trans (by kernel_rfl!) (Eq.refl true)
theorem sk_script:stoOk kdL (Str.ofString "script")=true:=Eq.trans (by kernel_rfl!) (Eq.refl true)
theorem lk_numbers:locOk kdL (Str.ofString "numbers")=true:=Eq.trans (by kernel_rfl!) (Eq.refl true)
theorem sk_numbers:stoOk kdL (Str.ofString "numbers")=true:=Eq.trans (by kernel_rfl!) (Eq.refl true)
theorem lk_k:locOk kdL (Str.ofString "k")=true:=Eq.trans (by kernel_rfl!) (Eq.refl true)
theorem sk_k:stoOk kdL (Str.ofString "k")=true:=Eq.trans (by kernel_rfl!) (Eq.refl true)
theorem lk_x:locOk kdL (Str.ofString "x")=true:=Eq.trans (by kernel_rfl!) (Eq.refl true)
theorem sk_x:stoOk kdL (Str.ofString "x")=true:=Eq.trans (by kernel_rfl!) (Eq.refl true)
theorem lk_first:locOk kdL (Str.ofString "first")=true:=Eq.trans (by kernel_rfl!) (Eq.refl true)
theorem sk_first:stoOk kdL (Str.ofString "first")=true:=Eq.trans (by kernel_rfl!) (Eq.refl true)
theorem lk_front:locOk kdL (Str.ofString "front")=true:=Eq.trans (by kernel_rfl!) (Eq.refl true)
theorem sk_front:stoOk kdL (Str.ofString "front")=true:=Eq.trans (by kernel_rfl!) (Eq.refl true)
theorem lk_mover:locOk kdL (Str.ofString "mover")=true:=Eq.trans (by kernel_rfl!) (Eq.refl true)
theorem sk_mover:stoOk kdL (Str.ofString "mover")=true:=Eq.trans (by kernel_rfl!) (Eq.refl true)
theorem lk_texts:locOk kdL (Str.ofString "texts")=true:=Eq.trans (by kernel_rfl!) (Eq.refl true)
theorem sk_texts:stoOk kdL (Str.ofString "texts")=true:=Eq.trans (by kernel_rfl!) (Eq.refl true)
theorem lk_piles:locOk kdL (Str.ofString "piles")=true:=Eq.trans (by kernel_rfl!) (Eq.refl true)
theorem sk_piles:stoOk kdL (Str.ofString "piles")=true:=Eq.trans (by kernel_rfl!) (Eq.refl true)
theorem lk_stalks:locOk kdL (Str.ofString "stalks")=true:=Eq.trans (by kernel_rfl!) (Eq.refl true)
theorem sk_stalks:stoOk kdL (Str.ofString "stalks")=true:=Eq.trans (by kernel_rfl!) (Eq.refl true)
theorem lk_worths:locOk kdL (Str.ofString "worths")=true:=Eq.trans (by kernel_rfl!) (Eq.refl true)
theorem sk_worths:stoOk kdL (Str.ofString "worths")=true:=Eq.trans (by kernel_rfl!) (Eq.refl true)
theorem lk_s:locOk kdL (Str.ofString "s")=true:=Eq.trans (by kernel_rfl!) (Eq.refl true)
theorem sk_s:stoOk kdL (Str.ofString "s")=true:=Eq.trans (by kernel_rfl!) (Eq.refl true)
theorem lk_typed:locOk kdL (Str.ofString "typed")=true:=Eq.trans (by kernel_rfl!) (Eq.refl true)
theorem sk_typed:stoOk kdL (Str.ofString "typed")=true:=Eq.trans (by kernel_rfl!) (Eq.refl true)
theorem lk_text:locOk kdL (Str.ofString "text")=true:=Eq.trans (by kernel_rfl!) (Eq.refl true)
theorem sk_text:stoOk kdL (Str.ofString "text")=true:=Eq.trans (by kernel_rfl!) (Eq.refl true)
theorem lk_n:locOk kdL (Str.ofString "n")=true:=Eq.trans (by kernel_rfl!) (Eq.refl true)
theorem sk_n:stoOk kdL (Str.ofString "n")=true:=Eq.trans (by kernel_rfl!) (Eq.refl true)
theorem lk_signs:locOk kdL (Str.ofString "signs")=true:=Eq.trans (by kernel_rfl!) (Eq.refl true)
theorem sk_signs:stoOk kdL (Str.ofString "signs")=true:=Eq.trans (by kernel_rfl!) (Eq.refl true)
theorem lk_meant:locOk kdL (Str.ofString "meant")=true:=Eq.trans (by kernel_rfl!) (Eq.refl true)
theorem sk_meant:stoOk kdL (Str.ofString "meant")=true:=Eq.trans (by kernel_rfl!) (Eq.refl true)
theorem lk_place:locOk kdL (Str.ofString "place")=true:=Eq.trans (by kernel_rfl!) (Eq.refl true)
theorem sk_place:stoOk kdL (Str.ofString "place")=true:=Eq.trans (by kernel_rfl!) (Eq.refl true)
theorem lk_more:locOk kdL (Str.ofString "more")=true:=Eq.trans (by kernel_rfl!) (Eq.refl true)
theorem sk_more:stoOk kdL (Str.ofString "more")=true:=Eq.trans (by kernel_rfl!) (Eq.refl true)
theorem lk_run:locOk kdL (Str.ofString "run")=true:=Eq.trans (by kernel_rfl!) (Eq.refl true)
theorem sk_run:stoOk kdL (Str.ofString "run")=true:=Eq.trans (by kernel_rfl!) (Eq.refl true)
theorem lk_pile:locOk kdL (Str.ofString "pile")=true:=Eq.trans (by kernel_rfl!) (Eq.refl true)
theorem sk_pile:stoOk kdL (Str.ofString "pile")=true:=Eq.trans (by kernel_rfl!) (Eq.refl true)
theorem lk_stalk:locOk kdL (Str.ofString "stalk")=true:=Eq.trans (by kernel_rfl!) (Eq.refl true)
theorem sk_stalk:stoOk kdL (Str.ofString "stalk")=true:=Eq.trans (by kernel_rfl!) (Eq.refl true)
theorem lk_worth:locOk kdL (Str.ofString "worth")=true:=Eq.trans (by kernel_rfl!) (Eq.refl true)
theorem sk_worth:stoOk kdL (Str.ofString "worth")=true:=Eq.trans (by kernel_rfl!) (Eq.refl true)
theorem lk_weight:locOk kdL (Str.ofString "weight")=true:=Eq.trans (by kernel_rfl!) (Eq.refl true)
theorem sk_weight:stoOk kdL (Str.ofString "weight")=true:=Eq.trans (by kernel_rfl!) (Eq.refl true)
theorem lk_left:locOk kdL (Str.ofString "left")=true:=Eq.trans (by kernel_rfl!) (Eq.refl true)
theorem sk_left:stoOk kdL (Str.ofString "left")=true:=Eq.trans (by kernel_rfl!) (Eq.refl true)
theorem lk_piece:locOk kdL (Str.ofString "piece")=true:=Eq.trans (by kernel_rfl!) (Eq.refl true)
theorem sk_piece:stoOk kdL (Str.ofString "piece")=true:=Eq.trans (by kernel_rfl!) (Eq.refl true)
theorem lk_a:locOk kdL (Str.ofString "a")=true:=Eq.trans (by kernel_rfl!) (Eq.refl true)
theorem sk_a:stoOk kdL (Str.ofString "a")=true:=Eq.trans (by kernel_rfl!) (Eq.refl true)
theorem lk_b:locOk kdL (Str.ofString "b")=true:=Eq.trans (by kernel_rfl!) (Eq.refl true)
theorem sk_b:stoOk kdL (Str.ofString "b")=true:=Eq.trans (by kernel_rfl!) (Eq.refl true)
theorem lk_told:locOk kdL (Str.ofString "told")=true:=Eq.trans (by kernel_rfl!) (Eq.refl true)
theorem sk_told:stoOk kdL (Str.ofString "told")=true:=Eq.trans (by kernel_rfl!) (Eq.refl true)
theorem lk_winner:locOk kdL (Str.ofString "winner")=true:=Eq.trans (by kernel_rfl!) (Eq.refl true)
theorem sk_winner:stoOk kdL (Str.ofString "winner")=true:=Eq.trans (by kernel_rfl!) (Eq.refl true)
theorem lk_turn:locOk kdL (Str.ofString "turn")=true:=Eq.trans (by kernel_rfl!) (Eq.refl true)
theorem sk_turn:stoOk kdL (Str.ofString "turn")=true:=Eq.trans (by kernel_rfl!) (Eq.refl true)
theorem lk_own:locOk kdL (Str.ofString "own")=true:=Eq.trans (by kernel_rfl!) (Eq.refl true)
theorem sk_own:stoOk kdL (Str.ofString "own")=true:=Eq.trans (by kernel_rfl!) (Eq.refl true)
theorem lk_moves:locOk kdL (Str.ofString "moves")=true:=Eq.trans (by kernel_rfl!) (Eq.refl true)
theorem sk_moves:stoOk kdL (Str.ofString "moves")=true:=Eq.trans (by kernel_rfl!) (Eq.refl true)
theorem lk_spot:locOk kdL (Str.ofString "spot")=true:=Eq.trans (by kernel_rfl!) (Eq.refl true)
theorem sk_spot:stoOk kdL (Str.ofString "spot")=true:=Eq.trans (by kernel_rfl!) (Eq.refl true)
theorem lk_blanks:locOk kdL (Str.ofString "blanks")=true:=Eq.trans (by kernel_rfl!) (Eq.refl true)
theorem sk_blanks:stoOk kdL (Str.ofString "blanks")=true:=Eq.trans (by kernel_rfl!) (Eq.refl true)
theorem lk_part:locOk kdL (Str.ofString "part")=true:=Eq.trans (by kernel_rfl!) (Eq.refl true)
theorem sk_part:stoOk kdL (Str.ofString "part")=true:=Eq.trans (by kernel_rfl!) (Eq.refl true)
theorem lk_found:locOk kdL (Str.ofString "found")=true:=Eq.trans (by kernel_rfl!) (Eq.refl true)
theorem sk_found:stoOk kdL (Str.ofString "found")=true:=Eq.trans (by kernel_rfl!) (Eq.refl true)
theorem lk_choice:locOk kdL (Str.ofString "choice")=true:=Eq.trans (by kernel_rfl!) (Eq.refl true)
theorem sk_choice:stoOk kdL (Str.ofString "choice")=true:=Eq.trans (by kernel_rfl!) (Eq.refl true)
theorem gk_enumerate:globOk kdL (Str.ofString "enumerate")=true:=Eq.trans (by kernel_rfl!) (Eq.refl true)
theorem gk_range:globOk kdL (Str.ofString "range")=true:=Eq.trans (by kernel_rfl!) (Eq.refl true)
theorem gk__law_typed:globOk kdL (Str.ofString "_law_typed")=true:=Eq.trans (by kernel_rfl!) (Eq.refl true)
theorem gk_len:globOk kdL (Str.ofString "len")=true:=Eq.trans (by kernel_rfl!) (Eq.refl true)
theorem gk_in_table_b1:globOk kdL (Str.ofString "in_table_b1")=true:=Eq.trans (by kernel_rfl!) (Eq.refl true)
theorem gk__ellipsis_match:globOk kdL (Str.ofString "_ellipsis_match")=true:=Eq.trans (by kernel_rfl!) (Eq.refl true)
theorem gk__Accumulator:globOk kdL (Str.ofString "_Accumulator")=true:=Eq.trans (by kernel_rfl!) (Eq.refl true)
theorem gk_max:globOk kdL (Str.ofString "max")=true:=Eq.trans (by kernel_rfl!) (Eq.refl true)
theorem gk__strip_padding:globOk kdL (Str.ofString "_strip_padding")=true:=Eq.trans (by kernel_rfl!) (Eq.refl true)
theorem gk__strcoll:globOk kdL (Str.ofString "_strcoll")=true:=Eq.trans (by kernel_rfl!) (Eq.refl true)
theorem gk_isinstance:globOk kdL (Str.ofString "isinstance")=true:=Eq.trans (by kernel_rfl!) (Eq.refl true)
theorem gk_bool:globOk kdL (Str.ofString "bool")=true:=Eq.trans (by kernel_rfl!) (Eq.refl true)
theorem gk_sum:globOk kdL (Str.ofString "sum")=true:=Eq.trans (by kernel_rfl!) (Eq.refl true)
theorem gk_int:globOk kdL (Str.ofString "int")=true:=Eq.trans (by kernel_rfl!) (Eq.refl true)
theorem gk_str:globOk kdL (Str.ofString "str")=true:=Eq.trans (by kernel_rfl!) (Eq.refl true)
theorem gk_min:globOk kdL (Str.ofString "min")=true:=Eq.trans (by kernel_rfl!) (Eq.refl true)
theorem ii_enumerate:isIsi (Str.ofString "enumerate")=false:=Eq.trans (by kernel_rfl!) (Eq.refl false)
theorem ii_range:isIsi (Str.ofString "range")=false:=Eq.trans (by kernel_rfl!) (Eq.refl false)
theorem ii__law_typed:isIsi (Str.ofString "_law_typed")=false:=Eq.trans (by kernel_rfl!) (Eq.refl false)
theorem ii_len:isIsi (Str.ofString "len")=false:=Eq.trans (by kernel_rfl!) (Eq.refl false)
theorem ii_in_table_b1:isIsi (Str.ofString "in_table_b1")=false:=Eq.trans (by kernel_rfl!) (Eq.refl false)
theorem ii__ellipsis_match:isIsi (Str.ofString "_ellipsis_match")=false:=Eq.trans (by kernel_rfl!) (Eq.refl false)
theorem ii__Accumulator:isIsi (Str.ofString "_Accumulator")=false:=Eq.trans (by kernel_rfl!) (Eq.refl false)
theorem ii_max:isIsi (Str.ofString "max")=false:=Eq.trans (by kernel_rfl!) (Eq.refl false)
theorem ii__strip_padding:isIsi (Str.ofString "_strip_padding")=false:=Eq.trans (by kernel_rfl!) (Eq.refl false)
theorem ii__strcoll:isIsi (Str.ofString "_strcoll")=false:=Eq.trans (by kernel_rfl!) (Eq.refl false)
theorem ii_bool:isIsi (Str.ofString "bool")=false:=Eq.trans (by kernel_rfl!) (Eq.refl false)
theorem ii_sum:isIsi (Str.ofString "sum")=false:=Eq.trans (by kernel_rfl!) (Eq.refl false)
theorem ii_int:isIsi (Str.ofString "int")=false:=Eq.trans (by kernel_rfl!) (Eq.refl false)
theorem ii_str:isIsi (Str.ofString "str")=false:=Eq.trans (by kernel_rfl!) (Eq.refl false)
theorem ii_min:isIsi (Str.ofString "min")=false:=Eq.trans (by kernel_rfl!) (Eq.refl false)
theorem ii_map_table_b3:isIsi (Str.ofString "map_table_b3")=false:=Eq.trans (by kernel_rfl!) (Eq.refl false)
theorem ii_ord:isIsi (Str.ofString "ord")=false:=Eq.trans (by kernel_rfl!) (Eq.refl false)
theorem ii_chr:isIsi (Str.ofString "chr")=false:=Eq.trans (by kernel_rfl!) (Eq.refl false)
theorem q_notStar_BinOp {a b c d}:notStar (.BinOp a b c d)=true:=Eq.trans rfl rfl
theorem q_notStar_UnaryOp {a b c}:notStar (.UnaryOp a b c)=true:=Eq.trans rfl rfl
theorem q_notStar_IfExp {a b c d}:notStar (.IfExp a b c d)=true:=Eq.trans rfl rfl
theorem q_notStar_Compare {a b c d}:notStar (.Compare a b c d)=true:=Eq.trans rfl rfl
theorem q_notStar_Call {a b c d}:notStar (.Call a b c d)=true:=Eq.trans rfl rfl
theorem q_notStar_Constant {a b c}:notStar (.Constant a b c)=true:=Eq.trans rfl rfl
theorem q_notStar_Attribute {a b c}:notStar (.Attribute a b c)=true:=Eq.trans rfl rfl
theorem q_notStar_Subscript {a b c}:notStar (.Subscript a b c)=true:=Eq.trans rfl rfl
theorem q_notStar_Name {a b}:notStar (.Name a b)=true:=Eq.trans rfl rfl
theorem q_notStar_List {a b}:notStar (.List a b)=true:=Eq.trans rfl rfl
theorem q_notStar_Tuple {a b c}:notStar (.Tuple a b c)=true:=Eq.trans rfl rfl
theorem q_notStar_ListComp {a b c d}:notStar (.ListComp a b c d)=true:=Eq.trans rfl rfl
theorem q_notSl_BinOp {a b c d}:notSl (.BinOp a b c d)=true:=Eq.trans rfl rfl
theorem q_notSl_UnaryOp {a b c}:notSl (.UnaryOp a b c)=true:=Eq.trans rfl rfl
theorem q_notSl_IfExp {a b c d}:notSl (.IfExp a b c d)=true:=Eq.trans rfl rfl
theorem q_notSl_Compare {a b c d}:notSl (.Compare a b c d)=true:=Eq.trans rfl rfl
theorem q_notSl_Call {a b c d}:notSl (.Call a b c d)=true:=Eq.trans rfl rfl
theorem q_notSl_Constant {a b c}:notSl (.Constant a b c)=true:=Eq.trans rfl rfl
theorem q_notSl_Attribute {a b c}:notSl (.Attribute a b c)=true:=Eq.trans rfl rfl
theorem q_notSl_Subscript {a b c}:notSl (.Subscript a b c)=true:=Eq.trans rfl rfl
theorem q_notSl_Name {a b}:notSl (.Name a b)=true:=Eq.trans rfl rfl
theorem q_notSl_List {a b}:notSl (.List a b)=true:=Eq.trans rfl rfl
theorem q_notSl_Tuple {a b c}:notSl (.Tuple a b c)=true:=Eq.trans rfl rfl
theorem q_notSl_ListComp {a b c d}:notSl (.ListComp a b c d)=true:=Eq.trans rfl rfl
theorem q_isSetE_BinOp {a b c d}:isSetE (.BinOp a b c d)=false:=Eq.trans rfl rfl
theorem q_isSetE_UnaryOp {a b c}:isSetE (.UnaryOp a b c)=false:=Eq.trans rfl rfl
theorem q_isSetE_IfExp {a b c d}:isSetE (.IfExp a b c d)=false:=Eq.trans rfl rfl
theorem q_isSetE_Compare {a b c d}:isSetE (.Compare a b c d)=false:=Eq.trans rfl rfl
theorem q_isSetE_Call {a b c d}:isSetE (.Call a b c d)=false:=Eq.trans rfl rfl
theorem q_isSetE_Constant {a b c}:isSetE (.Constant a b c)=false:=Eq.trans rfl rfl
theorem q_isSetE_Attribute {a b c}:isSetE (.Attribute a b c)=false:=Eq.trans rfl rfl
theorem q_isSetE_Subscript {a b c}:isSetE (.Subscript a b c)=false:=Eq.trans rfl rfl
theorem q_isSetE_Name {a b}:isSetE (.Name a b)=false:=Eq.trans rfl rfl
theorem q_isSetE_List {a b}:isSetE (.List a b)=false:=Eq.trans rfl rfl
theorem q_isSetE_Tuple {a b c}:isSetE (.Tuple a b c)=false:=Eq.trans rfl rfl
theorem q_isSetE_ListComp {a b c d}:isSetE (.ListComp a b c d)=false:=Eq.trans rfl rfl
theorem q_isCompE_BinOp {a b c d}:isCompE (.BinOp a b c d)=false:=Eq.trans rfl rfl
theorem q_isCompE_UnaryOp {a b c}:isCompE (.UnaryOp a b c)=false:=Eq.trans rfl rfl
theorem q_isCompE_IfExp {a b c d}:isCompE (.IfExp a b c d)=false:=Eq.trans rfl rfl
theorem q_isCompE_Compare {a b c d}:isCompE (.Compare a b c d)=false:=Eq.trans rfl rfl
theorem q_isCompE_Call {a b c d}:isCompE (.Call a b c d)=false:=Eq.trans rfl rfl
theorem q_isCompE_Constant {a b c}:isCompE (.Constant a b c)=false:=Eq.trans rfl rfl
theorem q_isCompE_Attribute {a b c}:isCompE (.Attribute a b c)=false:=Eq.trans rfl rfl
theorem q_isCompE_Subscript {a b c}:isCompE (.Subscript a b c)=false:=Eq.trans rfl rfl
theorem q_isCompE_Name {a b}:isCompE (.Name a b)=false:=Eq.trans rfl rfl
theorem q_isCompE_List {a b}:isCompE (.List a b)=false:=Eq.trans rfl rfl
theorem q_isCompE_Tuple {a b c}:isCompE (.Tuple a b c)=false:=Eq.trans rfl rfl
theorem q_isCallE_BinOp {a b c d}:isCallE (.BinOp a b c d)=false:=Eq.trans rfl rfl
theorem q_isCallE_UnaryOp {a b c}:isCallE (.UnaryOp a b c)=false:=Eq.trans rfl rfl
theorem q_isCallE_IfExp {a b c d}:isCallE (.IfExp a b c d)=false:=Eq.trans rfl rfl
theorem q_isCallE_Compare {a b c d}:isCallE (.Compare a b c d)=false:=Eq.trans rfl rfl
theorem q_isCallE_Constant {a b c}:isCallE (.Constant a b c)=false:=Eq.trans rfl rfl
theorem q_isCallE_Attribute {a b c}:isCallE (.Attribute a b c)=false:=Eq.trans rfl rfl
theorem q_isCallE_Subscript {a b c}:isCallE (.Subscript a b c)=false:=Eq.trans rfl rfl
theorem q_isCallE_Name {a b}:isCallE (.Name a b)=false:=Eq.trans rfl rfl
theorem q_isCallE_List {a b}:isCallE (.List a b)=false:=Eq.trans rfl rfl
theorem q_isCallE_Tuple {a b c}:isCallE (.Tuple a b c)=false:=Eq.trans rfl rfl
theorem q_isCallE_ListComp {a b c d}:isCallE (.ListComp a b c d)=false:=Eq.trans rfl rfl
theorem q_flat_int {i}:flat (.int i)=true:=Eq.trans rfl rfl
theorem q_flat_str {l}:flat (.str l)=true:=Eq.trans rfl rfl
theorem q_flat_bool {b}:flat (.bool b)=true:=Eq.trans rfl rfl
theorem q_flat_lin {m q r}:flat (.lin m q r)=true:=Eq.trans rfl rfl
theorem q_flat_ref {i}:flat (.ref i)=true:=Eq.trans rfl rfl
theorem q_flat_none:flat (.none )=true:=Eq.trans rfl rfl
theorem q_noRef_int {i}:noRef (.int i)=true:=Eq.trans rfl rfl
theorem q_noRef_str {l}:noRef (.str l)=true:=Eq.trans rfl rfl
theorem q_noRef_bool {b}:noRef (.bool b)=true:=Eq.trans rfl rfl
theorem q_noRef_lin {m q r}:noRef (.lin m q r)=true:=Eq.trans rfl rfl
theorem q_noRef_none:noRef (.none )=true:=Eq.trans rfl rfl
theorem q_pureV_int {i}:pureV (.int i)=true:=Eq.trans rfl rfl
theorem q_pureV_str {l}:pureV (.str l)=true:=Eq.trans rfl rfl
theorem q_pureV_bool {b}:pureV (.bool b)=true:=Eq.trans rfl rfl
theorem q_pureV_lin {m q r}:pureV (.lin m q r)=true:=Eq.trans rfl rfl
theorem q_pureV_none:pureV (.none )=true:=Eq.trans rfl rfl
theorem q_pureV_tup {l:List AV}:pureV (.tup l)=l.all noRef:=Eq.trans rfl rfl
theorem QC:type_of% (And.intro (And.intro (And.intro (And.intro (And.intro (And.intro (And.intro @eName (And.intro @eCmp @eSub)) (And.intro @eCall (And.intro @eIsi @esCons))) (And.intro (And.intro @tCmp (And.intro @sAsSub @put_loc)) (And.intro @sAsName (And.intro @sAug @sExpr)))) (And.intro (And.intro (And.intro @look_put (And.intro @nmP @nmS)) (And.intro @sAssert (And.intro @lk_script @lk_numbers))) (And.intro (And.intro @lk_k (And.intro @lk_x @lk_first)) (And.intro (And.intro @lk_front @lk_mover) (And.intro @lk_texts @lk_piles))))) (And.intro (And.intro (And.intro (And.intro @lk_stalks (And.intro @lk_worths @lk_s)) (And.intro @lk_typed (And.intro @lk_text @lk_n))) (And.intro (And.intro @lk_signs (And.intro @lk_meant @lk_place)) (And.intro @lk_more (And.intro @lk_run @lk_pile)))) (And.intro (And.intro (And.intro @lk_stalk (And.intro @lk_worth @lk_weight)) (And.intro @lk_left (And.intro @lk_piece @lk_a))) (And.intro (And.intro @lk_b (And.intro @lk_told @lk_winner)) (And.intro (And.intro @lk_turn @lk_own) (And.intro @lk_moves @lk_spot)))))) (And.intro (And.intro (And.intro (And.intro (And.intro @lk_blanks (And.intro @lk_part @lk_found)) (And.intro @lk_choice (And.intro @sk_script @sk_numbers))) (And.intro (And.intro @sk_k (And.intro @sk_x @sk_first)) (And.intro @sk_front (And.intro @sk_mover @sk_texts)))) (And.intro (And.intro (And.intro @sk_piles (And.intro @sk_stalks @sk_worths)) (And.intro @sk_s (And.intro @sk_typed @sk_text))) (And.intro (And.intro @sk_n (And.intro @sk_signs @sk_meant)) (And.intro (And.intro @sk_place @sk_more) (And.intro @sk_run @sk_pile))))) (And.intro (And.intro (And.intro (And.intro @sk_stalk (And.intro @sk_worth @sk_weight)) (And.intro @sk_left (And.intro @sk_piece @sk_a))) (And.intro (And.intro @sk_b (And.intro @sk_told @sk_winner)) (And.intro @sk_turn (And.intro @sk_own @sk_moves)))) (And.intro (And.intro (And.intro @sk_spot (And.intro @sk_blanks @sk_part)) (And.intro @sk_found (And.intro @sk_choice @gk_enumerate))) (And.intro (And.intro @gk_range (And.intro @gk__law_typed @gk_len)) (And.intro (And.intro @gk_in_table_b1 @gk__ellipsis_match) (And.intro @gk__Accumulator @gk_max))))))) (And.intro (And.intro (And.intro (And.intro (And.intro (And.intro @gk__strip_padding (And.intro @gk__strcoll @gk_isinstance)) (And.intro @gk_bool (And.intro @gk_sum @gk_int))) (And.intro (And.intro @gk_str (And.intro @gk_min @ii_enumerate)) (And.intro @ii_range (And.intro @ii__law_typed @ii_len)))) (And.intro (And.intro (And.intro @ii_in_table_b1 (And.intro @ii__ellipsis_match @ii__Accumulator)) (And.intro @ii_max (And.intro @ii__strip_padding @ii__strcoll))) (And.intro (And.intro @ii_bool (And.intro @ii_sum @ii_int)) (And.intro (And.intro @ii_str @ii_min) (And.intro @ii_map_table_b3 @ii_ord))))) (And.intro (And.intro (And.intro (And.intro @ii_chr (And.intro @q_notStar_BinOp @q_notStar_UnaryOp)) (And.intro @q_notStar_IfExp (And.intro @q_notStar_Compare @q_notStar_Call))) (And.intro (And.intro @q_notStar_Constant (And.intro @q_notStar_Attribute @q_notStar_Subscript)) (And.intro @q_notStar_Name (And.intro @q_notStar_List @q_notStar_Tuple)))) (And.intro (And.intro (And.intro @q_notStar_ListComp (And.intro @q_notSl_BinOp @q_notSl_UnaryOp)) (And.intro @q_notSl_IfExp (And.intro @q_notSl_Compare @q_notSl_Call))) (And.intro (And.intro @q_notSl_Constant (And.intro @q_notSl_Attribute @q_notSl_Subscript)) (And.intro (And.intro @q_notSl_Name @q_notSl_List) (And.intro @q_notSl_Tuple @q_notSl_ListComp)))))) (And.intro (And.intro (And.intro (And.intro (And.intro @q_isSetE_BinOp (And.intro @q_isSetE_UnaryOp @q_isSetE_IfExp)) (And.intro @q_isSetE_Compare (And.intro @q_isSetE_Call @q_isSetE_Constant))) (And.intro (And.intro @q_isSetE_Attribute (And.intro @q_isSetE_Subscript @q_isSetE_Name)) (And.intro @q_isSetE_List (And.intro @q_isSetE_Tuple @q_isSetE_ListComp)))) (And.intro (And.intro (And.intro @q_isCompE_BinOp (And.intro @q_isCompE_UnaryOp @q_isCompE_IfExp)) (And.intro @q_isCompE_Compare (And.intro @q_isCompE_Call @q_isCompE_Constant))) (And.intro (And.intro @q_isCompE_Attribute (And.intro @q_isCompE_Subscript @q_isCompE_Name)) (And.intro (And.intro @q_isCompE_List @q_isCompE_Tuple) (And.intro @q_isCallE_BinOp @q_isCallE_UnaryOp))))) (And.intro (And.intro (And.intro (And.intro @q_isCallE_IfExp (And.intro @q_isCallE_Compare @q_isCallE_Constant)) (And.intro @q_isCallE_Attribute (And.intro @q_isCallE_Subscript @q_isCallE_Name))) (And.intro (And.intro @q_isCallE_List (And.intro @q_isCallE_Tuple @q_isCallE_ListComp)) (And.intro (And.intro @q_flat_int @q_flat_str) (And.intro @q_flat_bool @q_flat_lin)))) (And.intro (And.intro (And.intro @q_flat_ref (And.intro @q_flat_none @q_noRef_int)) (And.intro @q_noRef_str (And.intro @q_noRef_bool @q_noRef_lin))) (And.intro (And.intro @q_noRef_none (And.intro @q_pureV_int @q_pureV_str)) (And.intro (And.intro @q_pureV_bool @q_pureV_lin) (And.intro @q_pureV_none @q_pureV_tup)))))))):=(And.intro (And.intro (And.intro (And.intro (And.intro (And.intro (And.intro @eName (And.intro @eCmp @eSub)) (And.intro @eCall (And.intro @eIsi @esCons))) (And.intro (And.intro @tCmp (And.intro @sAsSub @put_loc)) (And.intro @sAsName (And.intro @sAug @sExpr)))) (And.intro (And.intro (And.intro @look_put (And.intro @nmP @nmS)) (And.intro @sAssert (And.intro @lk_script @lk_numbers))) (And.intro (And.intro @lk_k (And.intro @lk_x @lk_first)) (And.intro (And.intro @lk_front @lk_mover) (And.intro @lk_texts @lk_piles))))) (And.intro (And.intro (And.intro (And.intro @lk_stalks (And.intro @lk_worths @lk_s)) (And.intro @lk_typed (And.intro @lk_text @lk_n))) (And.intro (And.intro @lk_signs (And.intro @lk_meant @lk_place)) (And.intro @lk_more (And.intro @lk_run @lk_pile)))) (And.intro (And.intro (And.intro @lk_stalk (And.intro @lk_worth @lk_weight)) (And.intro @lk_left (And.intro @lk_piece @lk_a))) (And.intro (And.intro @lk_b (And.intro @lk_told @lk_winner)) (And.intro (And.intro @lk_turn @lk_own) (And.intro @lk_moves @lk_spot)))))) (And.intro (And.intro (And.intro (And.intro (And.intro @lk_blanks (And.intro @lk_part @lk_found)) (And.intro @lk_choice (And.intro @sk_script @sk_numbers))) (And.intro (And.intro @sk_k (And.intro @sk_x @sk_first)) (And.intro @sk_front (And.intro @sk_mover @sk_texts)))) (And.intro (And.intro (And.intro @sk_piles (And.intro @sk_stalks @sk_worths)) (And.intro @sk_s (And.intro @sk_typed @sk_text))) (And.intro (And.intro @sk_n (And.intro @sk_signs @sk_meant)) (And.intro (And.intro @sk_place @sk_more) (And.intro @sk_run @sk_pile))))) (And.intro (And.intro (And.intro (And.intro @sk_stalk (And.intro @sk_worth @sk_weight)) (And.intro @sk_left (And.intro @sk_piece @sk_a))) (And.intro (And.intro @sk_b (And.intro @sk_told @sk_winner)) (And.intro @sk_turn (And.intro @sk_own @sk_moves)))) (And.intro (And.intro (And.intro @sk_spot (And.intro @sk_blanks @sk_part)) (And.intro @sk_found (And.intro @sk_choice @gk_enumerate))) (And.intro (And.intro @gk_range (And.intro @gk__law_typed @gk_len)) (And.intro (And.intro @gk_in_table_b1 @gk__ellipsis_match) (And.intro @gk__Accumulator @gk_max))))))) (And.intro (And.intro (And.intro (And.intro (And.intro (And.intro @gk__strip_padding (And.intro @gk__strcoll @gk_isinstance)) (And.intro @gk_bool (And.intro @gk_sum @gk_int))) (And.intro (And.intro @gk_str (And.intro @gk_min @ii_enumerate)) (And.intro @ii_range (And.intro @ii__law_typed @ii_len)))) (And.intro (And.intro (And.intro @ii_in_table_b1 (And.intro @ii__ellipsis_match @ii__Accumulator)) (And.intro @ii_max (And.intro @ii__strip_padding @ii__strcoll))) (And.intro (And.intro @ii_bool (And.intro @ii_sum @ii_int)) (And.intro (And.intro @ii_str @ii_min) (And.intro @ii_map_table_b3 @ii_ord))))) (And.intro (And.intro (And.intro (And.intro @ii_chr (And.intro @q_notStar_BinOp @q_notStar_UnaryOp)) (And.intro @q_notStar_IfExp (And.intro @q_notStar_Compare @q_notStar_Call))) (And.intro (And.intro @q_notStar_Constant (And.intro @q_notStar_Attribute @q_notStar_Subscript)) (And.intro @q_notStar_Name (And.intro @q_notStar_List @q_notStar_Tuple)))) (And.intro (And.intro (And.intro @q_notStar_ListComp (And.intro @q_notSl_BinOp @q_notSl_UnaryOp)) (And.intro @q_notSl_IfExp (And.intro @q_notSl_Compare @q_notSl_Call))) (And.intro (And.intro @q_notSl_Constant (And.intro @q_notSl_Attribute @q_notSl_Subscript)) (And.intro (And.intro @q_notSl_Name @q_notSl_List) (And.intro @q_notSl_Tuple @q_notSl_ListComp)))))) (And.intro (And.intro (And.intro (And.intro (And.intro @q_isSetE_BinOp (And.intro @q_isSetE_UnaryOp @q_isSetE_IfExp)) (And.intro @q_isSetE_Compare (And.intro @q_isSetE_Call @q_isSetE_Constant))) (And.intro (And.intro @q_isSetE_Attribute (And.intro @q_isSetE_Subscript @q_isSetE_Name)) (And.intro @q_isSetE_List (And.intro @q_isSetE_Tuple @q_isSetE_ListComp)))) (And.intro (And.intro (And.intro @q_isCompE_BinOp (And.intro @q_isCompE_UnaryOp @q_isCompE_IfExp)) (And.intro @q_isCompE_Compare (And.intro @q_isCompE_Call @q_isCompE_Constant))) (And.intro (And.intro @q_isCompE_Attribute (And.intro @q_isCompE_Subscript @q_isCompE_Name)) (And.intro (And.intro @q_isCompE_List @q_isCompE_Tuple) (And.intro @q_isCallE_BinOp @q_isCallE_UnaryOp))))) (And.intro (And.intro (And.intro (And.intro @q_isCallE_IfExp (And.intro @q_isCallE_Compare @q_isCallE_Constant)) (And.intro @q_isCallE_Attribute (And.intro @q_isCallE_Subscript @q_isCallE_Name))) (And.intro (And.intro @q_isCallE_List (And.intro @q_isCallE_Tuple @q_isCallE_ListComp)) (And.intro (And.intro @q_flat_int @q_flat_str) (And.intro @q_flat_bool @q_flat_lin)))) (And.intro (And.intro (And.intro @q_flat_ref (And.intro @q_flat_none @q_noRef_int)) (And.intro @q_noRef_str (And.intro @q_noRef_bool @q_noRef_lin))) (And.intro (And.intro @q_noRef_none (And.intro @q_pureV_int @q_pureV_str)) (And.intro (And.intro @q_pureV_bool @q_pureV_lin) (And.intro @q_pureV_none @q_pureV_tup))))))))
section
theorem dL0:decide (0≤1000)=true:=Eq.trans (by decide) (Eq.refl true)
theorem dL1:decide (0+1≤1000)=true:=Eq.trans (by decide) (Eq.refl true)
theorem dL2:decide (0+1+1≤1000)=true:=Eq.trans (by decide) (Eq.refl true)
theorem dL3:decide (0+1+1+1≤1000)=true:=Eq.trans (by decide) (Eq.refl true)
theorem dL4:decide (0+1+1+1+1≤1000)=true:=Eq.trans (by decide) (Eq.refl true)
theorem eMeth1 {n:Nat}{st:St}{o:Expr}{f:Str}{ap:Pos}{e0:Expr}{p:Pos}(g0:notStar e0=true)(h2:isCallE o=false)(h3:ap.endLine=p.line):(run FT (n+1)).E (.Call (.Attribute o f ap) [e0] [] p) st =
  ((run FT n).E o st).bind fun (u,st)=>((run FT n).Es [e0] st).bind fun (vs,st2)=>if kindOk st.μ st2.μ u then meth u (nm f) vs st2 else Option.none:=
 eMeth (by simp [g0,h2,h3])
theorem eMeth2 {n:Nat}{st:St}{o:Expr}{f:Str}{ap:Pos}{e0 e1:Expr}{p:Pos}(g0:notStar e0=true)(g1:notStar e1=true)(h2:isCallE o=false)(h3:ap.endLine=p.line):(run FT (n+1)).E (.Call (.Attribute o f ap) [e0,e1] [] p) st =
  ((run FT n).E o st).bind fun (u,st)=>((run FT n).Es [e0,e1] st).bind fun (vs,st2)=>if kindOk st.μ st2.μ u then meth u (nm f) vs st2 else Option.none:=
 eMeth (by simp [g0,g1,h2,h3])
theorem eMeth3 {n:Nat}{st:St}{o:Expr}{f:Str}{ap:Pos}{e0 e1 e2:Expr}{p:Pos}(g0:notStar e0=true)(g1:notStar e1=true)(g2:notStar e2=true)(h2:isCallE o=false)(h3:ap.endLine=p.line):(run FT (n+1)).E (.Call (.Attribute o f ap) [e0,e1,e2] [] p) st =
  ((run FT n).E o st).bind fun (u,st)=>((run FT n).Es [e0,e1,e2] st).bind fun (vs,st2)=>if kindOk st.μ st2.μ u then meth u (nm f) vs st2 else Option.none:=
 eMeth (by simp [g0,g1,g2,h2,h3])
theorem eMeth0 {n:Nat}{st:St}{o:Expr}{f:Str}{ap:Pos}{p:Pos}(h2:isCallE o=false)(h3:ap.endLine=p.line):(run FT (n+1)).E (.Call (.Attribute o f ap) [] [] p) st =
  ((run FT n).E o st).bind fun (u,st)=>((run FT n).Es [] st).bind fun (vs,st2)=>if kindOk st.μ st2.μ u then meth u (nm f) vs st2 else Option.none:=
 eMeth (by rw [h2,h3];simp)
theorem sAsTup0 {n:Nat}{kd:List (Str × NameKind)}{σ:Sig}{μ:Mu}{ts:List Expr}{a:Nat}{e:Expr}{p q:Pos}(h:isCompE e=false)(h2:swapsOf kd ts e=some none):(run FT (n+1)).S (.Assign [.Tuple ts a p] e q) ⟨kd,σ,μ⟩ =
  ((run FT n).E e ⟨kd,σ,μ⟩).bind fun (v,st)=>(giveAll ts v st).map fun st=>(.next,st):=by
 rw [sAsTup h,h2]
theorem sAsTup1 {n:Nat}{kd:List (Str × NameKind)}{σ:Sig}{μ:Mu}{ts:List Expr}{a:Nat}{e:Expr}{p q:Pos}(ns:List Str)(h:isCompE e=false)(h2:swapsOf kd ts e=some (some ns)):(run FT (n+1)).S (.Assign [.Tuple ts a p] e q) ⟨kd,σ,μ⟩ =
  ((run FT n).E e ⟨kd,σ,μ⟩).bind fun (v,st)=>(giveRev ns v st).map fun st=>(.next,st):=by
 rw [sAsTup h,h2]
theorem small_nat {i:Nat}(hi:i < 100000):small (i:Int)=true:=decide_eq_true (by simp only [topK];kt_len)
theorem idx_nat {i n:Nat}(hi:i < 100000)(hl:i < n):idx n (i:Int)=some i:=by
 unfold idx
 rw [small_nat hi]
 have h0:¬ (i:Int) < 0:=by kt_len
 simp only [seqIndex?,h0,if_false]
 simp [hl]
theorem getA_list {μ:Mu}{j:Nat}{l:List AV}{k:Nat}{i:Nat}{v:AV}(h:μ[j]?=some (.list l k))(hv:l[i]?=some v)(hi:i < 100000):getA μ (.ref j) (.int (i:Int))=some v:=by
 have hl:i < l.length:=(List.getElem?_eq_some_iff.1 hv).1
 show (asL μ[j]?).bind _=_
 rw [h]
 show (idx l.length (i:Int)).bind _=_
 rw [idx_nat hi hl]
 exact hv
theorem getA_tup {μ:Mu}{l:List AV}{i:Nat}{v:AV}(hv:l[i]?=some v)(hi:i < 100000):getA μ (.tup l) (.int (i:Int))=some v:=by
 have hl:i < l.length:=(List.getElem?_eq_some_iff.1 hv).1
 show (idx l.length (i:Int)).bind _=_
 rw [idx_nat hi hl]
 exact hv
theorem getA_str {μ:Mu}{l:List Nat}{i:Nat}{v:Nat}(hv:l[i]?=some v)(hi:i < 100000):getA μ (.str l) (.int (i:Int))=some (.str [v]):=by
 have hl:i < l.length:=(List.getElem?_eq_some_iff.1 hv).1
 show (idx l.length (i:Int)).bind _=_
 rw [idx_nat hi hl,Option.bind_some,hv]
 rfl
theorem lw2_ok {n:Nat}{σ:Sig}{μ:Mu}{l:List AV}{k:Nat}{q r:Int}(h1:look σ (nm (Str.ofString "numbers"))=some (.ref 0))(h2:μ[0]?=some (.list l k))(h3:l[6]?=some (.lin 54 q r)) :
  (run FT (n+20)).S (lw 2) ⟨kdL,σ,μ⟩=some (.next,⟨kdL,put (put (put σ (nm (Str.ofString "mover")) (.int ((r.fdiv 27).fmod 2))) (nm (Str.ofString "front")) (.int ((r.fdiv 3).fmod 9))) (nm (Str.ofString "first")) (.int (r.fmod 3)),μ⟩):=by
 have hg:getA μ (.ref 0) (.int 6)=some (.lin 54 q r):=getA_list (i:=6) h2 h3 (by decide)
 have b1:binA .Mod (.lin 54 q r) (.int 3)=some (.int (r.fmod 3)):=by kernel_rfl!
 have b2:binA .FloorDiv (.lin 54 q r) (.int 3)=some (.lin 18 q (r.fdiv 3)):=by kernel_rfl!
 have b3:binA .Mod (.lin 18 q (r.fdiv 3)) (.int 9)=some (.int ((r.fdiv 3).fmod 9)):=by kernel_rfl!
 have b4:binA .FloorDiv (.lin 54 q r) (.int 27)=some (.lin 2 q (r.fdiv 27)):=by kernel_rfl!
 have b5:binA .Mod (.lin 2 q (r.fdiv 27)) (.int 2)=some (.int ((r.fdiv 27).fmod 2)):=by kernel_rfl!
 conv in lw 2=>whnf
 rw [sAsTup1 [Str.ofString "first",Str.ofString "front",Str.ofString "mover"] rfl (by kernel_rfl!)]
 simp only [QC,eConst,eBin,eTup,esNil,Option.bind_some,Option.map_some,List.all_cons,List.all_nil,Bool.and_true,Bool.true_and,List.length_cons,List.length_nil,gq4, *]
 rfl
end
theorem QM:type_of% (And.intro (And.intro @eMeth1 @eMeth2) (And.intro @eMeth3 @eMeth0)):=(And.intro (And.intro @eMeth1 @eMeth2) (And.intro @eMeth3 @eMeth0))
section
theorem nb {b:Bool}(h:b=false):¬ (b=true):=by rw [h];decide
theorem pLenS {r:Rec}{l:List Nat}{st:St}(h:strOk l=true):prim FT r (nm (Str.ofString "len")) [.str l] st=some (.int l.length,st):=by
 have:prim FT r (nm (Str.ofString "len")) [.str l] st=if strOk l then some (.int l.length,st) else Option.none:=by kernel_rfl!
 rw [this,if_pos h]
theorem pLenL {r:Rec}{l:List AV}{k i:Nat}{kd:List (Str × NameKind)}{σ:Sig}{μ:Mu}(h:μ[i]?=some (.list l k)):prim FT r (nm (Str.ofString "len")) [.ref i] ⟨kd,σ,μ⟩=some (.int l.length,⟨kd,σ,μ⟩):=by
 have:prim FT r (nm (Str.ofString "len")) [.ref i] ⟨kd,σ,μ⟩=match μ[i]? with
   | some (.list l _)=>some (.int l.length,⟨kd,σ,μ⟩)
   | some (.acc l kk init)=>(prOf l).bind fun pr=>if 0≤init∧init+((pr.map prLen).sum:Nat)≤1048576 then some (.int (init+((pr.map prLen).sum:Nat)),⟨kd,σ,μ⟩) else Option.none
   | _=>Option.none:=by kernel_rfl!
 rw [this,h]
theorem pLenA {r:Rec}{l:List AV}{pr:List Pr2}{k i:Nat}{init:Int}{kd:List (Str × NameKind)}{σ:Sig}{μ:Mu}(h:μ[i]?=some (.acc l k init))(h2:prOf l=some pr)(h3:0≤init∧init+((pr.map prLen).sum:Nat)≤1048576) :
  prim FT r (nm (Str.ofString "len")) [.ref i] ⟨kd,σ,μ⟩=some (.int (init+((pr.map prLen).sum:Nat)),⟨kd,σ,μ⟩):=by
 have:prim FT r (nm (Str.ofString "len")) [.ref i] ⟨kd,σ,μ⟩=match μ[i]? with
   | some (.list l _)=>some (.int l.length,⟨kd,σ,μ⟩)
   | some (.acc l kk init)=>(prOf l).bind fun pr=>if 0≤init∧init+((pr.map prLen).sum:Nat)≤1048576 then some (.int (init+((pr.map prLen).sum:Nat)),⟨kd,σ,μ⟩) else Option.none
   | _=>Option.none:=by kernel_rfl!
 rw [this,h]
 show (prOf l).bind _=_
 rw [h2,Option.bind_some,if_pos h3]
theorem pStrA {r:Rec}{l:List AV}{pr:List Pr2}{k i:Nat}{init:Int}{kd:List (Str × NameKind)}{σ:Sig}{μ:Mu}(h:μ[i]?=some (.acc l k init))(h2:prOf l=some pr)(h3:(pr.map fun p=>p.1++p.2).flatten.length≤1048576) :
  prim FT r (nm (Str.ofString "str")) [.ref i] ⟨kd,σ,μ⟩=some (.str (pr.map fun p=>p.1++p.2).flatten,⟨kd,σ,μ⟩):=by
 have:prim FT r (nm (Str.ofString "str")) [.ref i] ⟨kd,σ,μ⟩=match μ[i]? with
   | some (.acc l _ _)=>(prOf l).bind fun pr=>if (pr.map fun p=>p.1++p.2).flatten.length≤1048576 then some (.str (pr.map fun p=>p.1++p.2).flatten,⟨kd,σ,μ⟩) else Option.none
   | _=>Option.none:=by kernel_rfl!
 rw [this,h]
 show (prOf l).bind _=_
 rw [h2,Option.bind_some,if_pos h3]
theorem pMax {r:Rec}{a b:Int}{st:St}:prim FT r (nm (Str.ofString "max")) [.int a,.int b] st=some (.int (if b > a then b else a),st):=by kernel_rfl!
theorem pIntB {r:Rec}{b:Bool}{st:St}:prim FT r (nm (Str.ofString "int")) [.bool b] st=some (.int (if b then 1 else 0),st):=by kernel_rfl!
theorem pNew {r:Rec}{i:Int}{kd:List (Str × NameKind)}{σ:Sig}{μ:Mu}:prim FT r (nm (Str.ofString "_Accumulator")) [.int i] ⟨kd,σ,μ⟩=some (.ref μ.length,⟨kd,σ,μ++[.acc [] 0 i]⟩):=by kernel_rfl!
theorem pMin {r:Rec}{l:List AV}{x v:AV}{k i:Nat}{kd:List (Str × NameKind)}{σ:Sig}{μ:Mu}(h:μ[i]?=some (.list (x::l) k))(h2:minA x l=some v):prim FT r (nm (Str.ofString "min")) [.ref i] ⟨kd,σ,μ⟩=some (v,⟨kd,σ,μ⟩):=by
 have:prim FT r (nm (Str.ofString "min")) [.ref i] ⟨kd,σ,μ⟩=(asL μ[i]?).bind fun
   | x::l=>(minA x l).map fun v=>(v,⟨kd,σ,μ⟩)
   | _=>Option.none:=by kernel_rfl!
 rw [this,h]
 show (minA x l).map _=_
 rw [h2];rfl
theorem pSum {r:Rec}{l:List AV}{ns:List Int}{k i:Nat}{kd:List (Str × NameKind)}{σ:Sig}{μ:Mu}(h:μ[i]?=some (.list l k))(h2:intsOf l=some ns)(h3:(ns.all small&&decide (ns.length≤1000))=true):prim FT r (nm (Str.ofString "sum")) [.ref i] ⟨kd,σ,μ⟩=some (.int ns.sum,⟨kd,σ,μ⟩):=by
 have:prim FT r (nm (Str.ofString "sum")) [.ref i] ⟨kd,σ,μ⟩=(asL μ[i]?).bind fun l=>(intsOf l).bind fun ns=>if ns.all small&&decide (ns.length≤1000) then some (.int ns.sum,⟨kd,σ,μ⟩) else Option.none:=by kernel_rfl!
 rw [this,h]
 show (intsOf l).bind _=_
 rw [h2,Option.bind_some,if_pos h3]
theorem pEllF {r:Rec}{vs:List AV}{st:St}:prim FT r (nm (Str.ofString "_ellipsis_match")) vs st=callUF r (mkUF (pb 6)) vs st:=by kernel_rfl!
theorem pCollF {r:Rec}{vs:List AV}{st:St}:prim FT r (nm (Str.ofString "_strcoll")) vs st=callUF r (mkUF (pb 8)) vs st:=by kernel_rfl!
theorem pPadF {r:Rec}{vs:List AV}{st:St}:prim FT r (nm (Str.ofString "_strip_padding")) vs st=callUF r (mkUF (pb 9)) vs st:=by kernel_rfl!
theorem pTypF {r:Rec}{vs:List AV}{st:St}:prim FT r (nm (Str.ofString "_law_typed")) vs st=callUF r (mkUF (pb 16)) vs st:=by kernel_rfl!
theorem pB1F {r:Rec}{vs:List AV}{st:St}:prim FT r (nm (Str.ofString "in_table_b1")) vs st=callUF r (mkUF (pb 12)) vs st:=by kernel_rfl!
theorem pB3F {r:Rec}{vs:List AV}{st:St}:prim FT r (nm (Str.ofString "map_table_b3")) vs st=callUF r (mkUF (pb 14)) vs st:=by kernel_rfl!
theorem callUF_ok {r:Rec}{f:UF}{vs:List AV}{st st':St}{v:AV}(h:r.SS f.body ⟨f.kd,f.ps.zip vs,[]⟩=some (.ret v,st'))(hn:(f.ps.length==vs.length&&vs.all noRef)=true)(hp:pureV v=true):callUF r f vs st=some (v,st):=by
 unfold callUF
 rw [if_pos hn,h]
 show (if pureV v then _ else _)=_
 rw [if_pos hp]
theorem mAppend {i:Nat}{l:List AV}{kk:Nat}{v:AV}{kd:List (Str × NameKind)}{σ:Sig}{μ:Mu}(h:μ[i]?=some (.list l kk))(hk:kk < topK) :
  meth (.ref i) (nm (Str.ofString "append")) [v] ⟨kd,σ,μ⟩=some (.none,⟨kd,σ,μ.set i (.list (l++[v]) (kk+1))⟩):=by
 rw [meth_l h]
 rw [if_pos (by kernel_rfl!)]
 exact if_pos hk
theorem mPush {i:Nat}{l:List AV}{kk:Nat}{a b:List Nat}{init:Int}{kd:List (Str × NameKind)}{σ:Sig}{μ:Mu}(h:μ[i]?=some (.acc l kk init))(hk:kk < topK) :
  meth (.ref i) (nm (Str.ofString "push")) [.str a,.str b] ⟨kd,σ,μ⟩=some (.none,⟨kd,σ,μ.set i (.acc (l++[.tup [.str a,.str b]]) (kk+1) init)⟩):=by
 rw [meth_a h]
 rw [if_pos (by kernel_rfl!)]
 exact if_pos hk
theorem mPop {i:Nat}{l:List AV}{kk:Nat}{k:Nat}{init:Int}{kd:List (Str × NameKind)}{σ:Sig}{μ:Mu}(h:μ[i]?=some (.acc l kk init)) :
  meth (.ref i) (nm (Str.ofString "pop_from")) [.int (k:Int)] ⟨kd,σ,μ⟩=some (.ref μ.length,⟨kd,σ,μ.set i (.acc (l.take k) kk init)++[.list (l.drop k) kk]⟩):=by
 rw [meth_a h]
 rw [if_neg (nb (by kernel_rfl!)),if_pos (by kernel_rfl!),if_neg (c:=[AV.int (k:Int)].isEmpty=true) (nb rfl)]
 show Option.bind (some (k:Int)) _=_
 rw [Option.bind_some,if_pos (by kt_len)]
 simp [alloc_eq]
theorem mPop0 {i:Nat}{l:List AV}{kk:Nat}{init:Int}{kd:List (Str × NameKind)}{σ:Sig}{μ:Mu}(h:μ[i]?=some (.acc l kk init)) :
  meth (.ref i) (nm (Str.ofString "pop_from")) [] ⟨kd,σ,μ⟩=some (.ref μ.length,⟨kd,σ,μ.set i (.acc [] kk init)++[.list l kk]⟩):=by
 rw [meth_a h]
 rw [if_neg (nb (by kernel_rfl!)),if_pos (by kernel_rfl!),if_pos (c:=([]:List AV).isEmpty=true) rfl]
 simp [alloc_eq]
theorem mCount {i:Nat}{l:List AV}{kk:Nat}{init:Int}{kd:List (Str × NameKind)}{σ:Sig}{μ:Mu}(h:μ[i]?=some (.acc l kk init)) :
  meth (.ref i) (nm (Str.ofString "part_count")) [] ⟨kd,σ,μ⟩=some (.int l.length,⟨kd,σ,μ⟩):=by
 rw [meth_a h]
 rw [if_neg (nb (by kernel_rfl!)),if_neg (nb (by kernel_rfl!)),if_pos (by kernel_rfl!),if_pos (c:=([]:List AV).isEmpty=true) rfl]
theorem mSplit {s p:List Nat}{kd:List (Str × NameKind)}{σ:Sig}{μ:Mu}(h:(p.length != 0&&decide (((Txt.split ⟨⟨s⟩⟩ ⟨⟨p⟩⟩).map fun x=>AV.str x.cps.toList).length≤topK)&&strOk s&&decide ((Builtin.Str.partsBetween ⟨⟨s⟩⟩ (Builtin.Str.occurrences ⟨⟨s⟩⟩ ⟨⟨p⟩⟩ 0 s.length (s.length+1)) p.length).length≤topK))=true) :
  meth (.str s) (nm (Str.ofString "split")) [.str p] ⟨kd,σ,μ⟩=some (.ref μ.length,⟨kd,σ,μ++[.list ((Txt.split ⟨⟨s⟩⟩ ⟨⟨p⟩⟩).map fun x=>AV.str x.cps.toList) ((Txt.split ⟨⟨s⟩⟩ ⟨⟨p⟩⟩).map fun x=>AV.str x.cps.toList).length]⟩):=by
 change methS _ _ _ _=_
 unfold methS
 rw [if_neg (nb (by kernel_rfl!)),if_neg (nb (by kernel_rfl!)),if_pos (by kernel_rfl!)]
 refine (if_pos h).trans ?_
 rfl
theorem mStarts {s p:List Nat}{st:St}:meth (.str s) (nm (Str.ofString "startswith")) [.str p] st=some (.bool (Txt.startswith ⟨⟨s⟩⟩ ⟨⟨p⟩⟩),st):=by kernel_rfl!
theorem mFind {s p:List Nat}{a b:Int}{st:St}:meth (.str s) (nm (Str.ofString "find")) [.str p,.int a,.int b] st=some (.int (findN s p a b),st):=by kernel_rfl!
end
theorem QD:type_of% (And.intro (And.intro (And.intro @dL0 (And.intro @dL1 @dL2)) (And.intro (And.intro @dL3 @dL4) (And.intro @pEllF @pCollF))) (And.intro (And.intro @pPadF (And.intro @pTypF @pB1F)) (And.intro (And.intro @pB3F @getA_list) (And.intro @getA_tup @getA_str)))):=(And.intro (And.intro (And.intro @dL0 (And.intro @dL1 @dL2)) (And.intro (And.intro @dL3 @dL4) (And.intro @pEllF @pCollF))) (And.intro (And.intro @pPadF (And.intro @pTypF @pB1F)) (And.intro (And.intro @pB3F @getA_list) (And.intro @getA_tup @getA_str))))
section
open PySem.Builtin PySem.Builtin.Str PySem.StrLaws
theorem subAt_iff (s p:List Nat)(i:Nat):subAt ⟨⟨s⟩⟩ ⟨⟨p⟩⟩ i=((s.drop i).take p.length==p):=by
 unfold subAt
 show ((⟨s⟩:Array Nat).extract i (i+p.length)==(⟨p⟩:Array Nat))=_
 rw [Bool.eq_iff_iff,beq_iff_eq,beq_iff_eq,← Array.toList_inj]
 simp [List.extract_eq_take_drop]
theorem starts_eq (s p:List Nat):Txt.startswith ⟨⟨s⟩⟩ ⟨⟨p⟩⟩=p.isPrefixOf s:=by
 unfold Txt.startswith
 rw [subAt_iff,Bool.eq_iff_iff,List.isPrefixOf_iff_prefix]
 show (decide (0+p.length≤s.length)&&_)=true↔_
 rw [Bool.and_eq_true,decide_eq_true_eq,beq_iff_eq,List.drop_zero]
 constructor
 ·rintro ⟨_,h⟩;exact List.prefix_iff_eq_take.2 h.symm
 ·intro h;exact ⟨by have:=h.length_le;kt_len,(List.prefix_iff_eq_take.1 h).symm⟩
theorem occ_skip (s p:Str)(hi lim:Nat)(l:List Nat)(st:Array Nat × Nat)(h:∀ i∈l,¬ (st.2≤i∧i+p.length≤hi∧subAt s p i=true)):forIn (m:=Id) l st (occBody s p hi lim)=pure st:=by
 induction l with
 | nil=>rfl
 | cons a l ih=>
  rw [List.forIn_cons]
  unfold occBody
  rw [if_neg (fun c=>h a (List.mem_cons_self ..) ⟨c.1.1.2,c.1.2,c.2⟩)]
  exact ih fun i hi'=>h i (List.mem_cons_of_mem _ hi')
theorem occ_skip_app (s p:Str)(hi lim:Nat)(l m:List Nat)(st:Array Nat × Nat)(h:∀ i∈l,¬ (st.2≤i∧i+p.length≤hi∧subAt s p i=true)):forIn (m:=Id) (l++m) st (occBody s p hi lim)=forIn (m:=Id) m st (occBody s p hi lim):=by
 induction l with
 | nil=>rfl
 | cons a l ih=>
  rw [List.cons_append,List.forIn_cons]
  conv=>lhs;unfold occBody
  rw [if_neg (fun c=>h a (List.mem_cons_self ..) ⟨c.1.1.2,c.1.2,c.2⟩)]
  exact ih fun i hi'=>h i (List.mem_cons_of_mem _ hi')
theorem occ_one (s p:Str)(lo hi lim a:Nat)(h1:lo≤a)(h2:a+p.length≤hi)(h3:subAt s p a=true)(hl:1≤lim)(hb:∀ i,lo≤i→i < a→subAt s p i=false)
  (hc:lim=1∨∀ i,a+p.length≤i→i+p.length≤hi→subAt s p i=false):occurrences s p lo hi lim=[a]:=by
 rw [occ_eq]
 have e:List.range' lo (hi+1 - lo)=List.range' lo (a - lo)++a::List.range' (a+1) (hi - a):=by
  rw [show hi+1 - lo=(a - lo)+(1+(hi - a)) by kt_len,← List.range'_append_1,show lo+(a - lo)=a by kt_len,← List.range'_append_1]
  rfl
 rw [e,occ_skip_app]
 ·rw [List.forIn_cons]
  have:occBody s p hi lim a (#[],lo)=pure (.yield (#[a],a+p.length)):=by
   unfold occBody
   rw [if_pos ⟨⟨⟨by simp;kt_len,h1⟩,h2⟩,h3⟩];rfl
  rw [this,pure_bind]
  show (Id.run (forIn (m:=Id) (List.range' (a+1) (hi - a)) ((#[a]:Array Nat),a+p.length) (occBody s p hi lim))).fst.toList=_
  rcases hc with rfl | hc
  ·have:∀ l:List Nat,forIn (m:=Id) l ((#[a]:Array Nat),a+p.length) (occBody s p hi 1)=pure (#[a],a+p.length):=by
    intro l
    induction l with
    | nil=>rfl
    | cons b l ih=>
     rw [List.forIn_cons]
     unfold occBody
     rw [if_neg (fun c=>by have:=c.1.1.1;simp at this)]
     exact ih
   rw [this];rfl
  ·rw [occ_skip];rfl
   intro i hi' c
   rw [hc i c.1 c.2.1] at c
   exact absurd c.2.2 (by decide)
 ·intro i hi' c
  rw [List.mem_range'_1] at hi'
  rw [hb i hi'.1 (by kt_len)] at c
  exact absurd c.2.2 (by decide)
noncomputable def dots:List Nat:=[46,46,46]
theorem dots_at (X:List Nat):subAt ⟨⟨X++dots⟩⟩ ⟨⟨dots⟩⟩ X.length=true:=by
 rw [subAt_iff];simp
theorem dots_not (X:List Nat)(hX:46 ∉ X){i:Nat}(hi:i < X.length):subAt ⟨⟨X++dots⟩⟩ ⟨⟨dots⟩⟩ i=false:=by
 rw [subAt_iff]
 rw [beq_eq_false_iff_ne]
 intro e
 have:((X++dots).drop i)[0]?=some 46:=by
  have:=congrArg (·[0]?) e
  simpa [dots] using this
 rw [List.getElem?_drop,List.getElem?_append_left (by kt_len)] at this
 exact hX (List.mem_of_getElem? this)
theorem inStr_dots (X:List Nat):inStr dots (X++dots)=true:=by
 unfold inStr
 refine (found_iff ⟨⟨X++dots⟩⟩ ⟨⟨dots⟩⟩).2 ⟨X.length,?_,dots_at X⟩
 show X.length+3≤(X++dots).length
 simp [dots]
theorem occ_dots (X:List Nat)(hX:46 ∉ X):occurrences ⟨⟨X++dots⟩⟩ ⟨⟨dots⟩⟩ 0 (X++dots).length ((X++dots).length+1)=[X.length]:=by
 refine occ_one _ _ 0 _ _ _ (Nat.zero_le _) ?_ (dots_at X) (by kt_len) (fun i _ hi=>dots_not X hX hi) (.inr fun i h1 h2=>?_)
 ·show X.length+3≤(X++dots).length
  simp [dots]
 ·have h1:X.length+3≤i:=h1
  have h2:i+3≤(X++dots).length:=h2
  simp [dots] at h2;kt_len
theorem kind1 {l:List Nat}(h:∀ c∈l,c < 256):PySem.Builtin.Str.strKind ⟨⟨l⟩⟩=1:=by
 unfold PySem.Builtin.Str.strKind
 rw [if_pos]
 simpa using h
theorem split_dots (X:List Nat)(hX:46 ∉ X)(hk:∀ c∈X,c < 256):Txt.split ⟨⟨X++dots⟩⟩ ⟨⟨dots⟩⟩=[⟨⟨X⟩⟩,⟨⟨[]⟩⟩]:=by
 unfold Txt.split
 have hd:∀ c∈dots,c < 256:=by decide
 rw [if_neg]
 ·have ho:occurrences ⟨⟨X++dots⟩⟩ ⟨⟨dots⟩⟩ 0 (⟨⟨X++dots⟩⟩:Str).length ((⟨⟨X++dots⟩⟩:Str).length+1)=[X.length]:=occ_dots X hX
  rw [ho,if_neg (by simp)]
  unfold partsBetween
  simp only [List.map_cons,List.map_nil,List.cons_append,List.nil_append,List.zip_cons_cons,List.zip_nil_right]
  have e1:strSub ⟨⟨X++dots⟩⟩ 0 X.length=⟨⟨X⟩⟩:=by
   unfold strSub
   congr 1
   rw [← Array.toList_inj];simp
  have e2:strSub ⟨⟨X++dots⟩⟩ (X.length+(⟨⟨dots⟩⟩:Str).length) (⟨⟨X++dots⟩⟩:Str).length=⟨⟨[]⟩⟩:=by
   unfold strSub
   congr 1
   rw [← Array.toList_inj]
   show ((⟨X++dots⟩:Array Nat).extract (X.length+3) (X++dots).length).toList=[]
   simp [dots]
  rw [e1,e2]
 ·rw [kind1 (l:=X++dots) (fun c hc=>by rcases List.mem_append.1 hc with h | h;exact hk c h;exact hd c h),kind1 (l:=dots) hd]
  have:¬ ((⟨⟨X++dots⟩⟩:Str).length < (⟨⟨dots⟩⟩:Str).length):=by
   show ¬ ((X++dots).length < 3)
   simp [dots]
  simp [this]
theorem find_nil (G:List Nat)(a:Nat)(h:a≤G.length):findN G [] a G.length=a:=by
 unfold findN
 have e1:fromIndex G.length (a:Int)=a:=by unfold fromIndex;rw [if_neg (by kt_len)];kt_len
 have e2:fromIndex G.length (G.length:Int)=G.length:=by unfold fromIndex;rw [if_neg (by kt_len)];kt_len
 rw [e1,e2,Nat.min_self,occ_one ⟨⟨G⟩⟩ ⟨⟨[]⟩⟩ a G.length 1 a (Nat.le_refl _) (by show a+0≤_;kt_len) (by rw [subAt_iff];simp) (Nat.le_refl _) (fun i h1 h2=>by kt_len) (.inl rfl)]
end
section
noncomputable def kd6:List (Str × NameKind):=(fScope (pb 6)).names
noncomputable def e6 (i:Nat):Stmt:=(fBody (pb 6)).getD i (.Pass ⟨0,0,0,0⟩)
theorem body6:fBody (pb 6)=[e6 0,e6 1,e6 2,e6 3,e6 4,e6 5,e6 6,e6 7,e6 8,e6 9,e6 10]:=by kernel_rfl!
theorem l6_want:locOk kd6 (Str.ofString "want")=true:=Eq.trans (by kernel_rfl!) (Eq.refl true)
theorem l6_got:locOk kd6 (Str.ofString "got")=true:=Eq.trans (by kernel_rfl!) (Eq.refl true)
theorem l6_ws:locOk kd6 (Str.ofString "ws")=true:=Eq.trans (by kernel_rfl!) (Eq.refl true)
theorem l6_w:locOk kd6 (Str.ofString "w")=true:=Eq.trans (by kernel_rfl!) (Eq.refl true)
theorem l6_startpos:locOk kd6 (Str.ofString "startpos")=true:=Eq.trans (by kernel_rfl!) (Eq.refl true)
theorem l6_endpos:locOk kd6 (Str.ofString "endpos")=true:=Eq.trans (by kernel_rfl!) (Eq.refl true)
theorem s6_ws:stoOk kd6 (Str.ofString "ws")=true:=Eq.trans (by kernel_rfl!) (Eq.refl true)
theorem s6_w:stoOk kd6 (Str.ofString "w")=true:=Eq.trans (by kernel_rfl!) (Eq.refl true)
theorem s6_startpos:stoOk kd6 (Str.ofString "startpos")=true:=Eq.trans (by kernel_rfl!) (Eq.refl true)
theorem s6_endpos:stoOk kd6 (Str.ofString "endpos")=true:=Eq.trans (by kernel_rfl!) (Eq.refl true)
theorem g6_len:globOk kd6 (Str.ofString "len")=true:=Eq.trans (by kernel_rfl!) (Eq.refl true)
theorem e6_mark {n:Nat}{p:Pos}{σ:Sig}{μ:Mu}:(run FT (n+1)).E (.Name (Str.ofString "ELLIPSIS_MARKER") p) ⟨kd6,σ,μ⟩=some (.str dots,⟨kd6,σ,μ⟩):=by kernel_rfl!
theorem idx_neg1 {n:Nat}(h:0 < n)(h2:n < 100000):idx n (-1)=some (n - 1):=by
 unfold idx
 rw [if_pos (by decide)]
 simp [seqIndex?];kt_len
theorem tru_str {μ:Mu}{l:List Nat}(h:strOk l=true):truA μ (.str l)=some (!(l==[])):=by
 show (if strOk l then _ else _)=_
 rw [if_pos h]
section
variable {n:Nat}{X G:List Nat}{σ:Sig}{μ:Mu}
theorem f0 (h1:look σ (nm (Str.ofString "want"))=some (.str (X++dots))):(run FT (n+20)).S (e6 0) ⟨kd6,σ,μ⟩=some (.next,⟨kd6,σ,μ⟩):=by
 have h2:cmpA μ .NotIn (.str dots) (.str (X++dots))=some (.bool false):=by
  show some (AV.bool (!inStr dots (X++dots)))=_
  rw [inStr_dots];rfl
 have h3:truA μ (.bool false)=some false:=rfl
 conv in e6 0=>whnf
 simp only [QC,ssNil,ssCons,sRet,sIf,Option.bind_some,Option.map_some,ite_false,Bool.false_eq_true,e6_mark,l6_want,l6_got, *]
theorem f1 (h1:look σ (nm (Str.ofString "want"))=some (.str (X++dots)))(hX:46 ∉ X)(hk:∀ c∈X,c < 256)(hl:X.length < 1000) :
  (run FT (n+20)).S (e6 1) ⟨kd6,σ,[]⟩=some (.next,⟨kd6,put σ (nm (Str.ofString "ws")) (.ref 0),[.list [.str X,.str []] 2]⟩):=by
 have hs:=split_dots X hX hk
 have h2:=@mSplit (X++dots) dots kd6 σ [] (by
  rw [hs]
  have:(Builtin.Str.partsBetween ⟨⟨X++dots⟩⟩ (Builtin.Str.occurrences ⟨⟨X++dots⟩⟩ ⟨⟨dots⟩⟩ 0 (X++dots).length ((X++dots).length+1)) dots.length).length=2:=by
   rw [occ_dots X hX];rfl
  rw [this]
  simp [strOk,topK,dots];kt_len)
 rw [hs] at h2
 replace h2:meth (.str (X++dots)) (nm (Str.ofString "split")) [.str dots] ⟨kd6,σ,[]⟩=some (.ref 0,⟨kd6,σ,[.list [.str X,.str []] 2]⟩):=h2
 have h3:∀ μ:Mu,kindOk μ μ (.str (X++dots))=true:=fun _=>rfl
 conv in e6 1=>whnf
 simp only [QC,esNil,Option.bind_some,Option.map_some,ite_true,QM,e6_mark,l6_want,s6_ws, *]
theorem f2 {l:List AV}{k:Nat}(h1:look σ (nm (Str.ofString "ws"))=some (.ref 0)):(run FT (n+20)).S (e6 2) ⟨kd6,σ,[.list [.str X,.str []] k]⟩=some (.next,⟨kd6,σ,[.list [.str X,.str []] k]⟩):=by
 have h2:∀ r,prim FT r (nm (Str.ofString "len")) [.ref 0] ⟨kd6,σ,[.list [.str X,.str []] k]⟩=some (.int 2,⟨kd6,σ,[.list [.str X,.str []] k]⟩):=fun r=>pLenL (l:=[.str X,.str []]) (k:=k) rfl
 have h3:∀ μ,cmpA μ .GtE (.int 2) (.int 2)=some (.bool true):=fun _=>rfl
 have h4:∀ μ,truA μ (.bool true)=some true:=fun _=>rfl
 conv in e6 2=>whnf
 simp only [QC,eConst,esNil,Option.bind_some,Option.map_some,List.all_cons,List.all_nil,Bool.and_true,ite_true,gq4,l6_ws,g6_len, *]
theorem f3 (h1:look σ (nm (Str.ofString "got"))=some (.str G))(hG:strOk G=true):(run FT (n+20)).S (e6 3) ⟨kd6,σ,μ⟩ =
  some (.next,⟨kd6,put (put σ (nm (Str.ofString "endpos")) (.int G.length)) (nm (Str.ofString "startpos")) (.int 0),μ⟩):=by
 have h2:∀ r st,prim FT r (nm (Str.ofString "len")) [.str G] st=some (.int G.length,st):=fun r st=>pLenS hG
 conv in e6 3=>whnf
 rw [sAsTup1 [Str.ofString "startpos",Str.ofString "endpos"] rfl (by kernel_rfl!)]
 simp only [QC,eConst,eTup,esNil,Option.bind_some,Option.map_some,List.all_cons,List.all_nil,Bool.and_true,List.length_cons,List.length_nil,ite_true,gq4,QD,l6_got,g6_len, *]
 rfl
theorem f4 {k:Nat}(h1:look σ (nm (Str.ofString "ws"))=some (.ref 0)):(run FT (n+20)).S (e6 4) ⟨kd6,σ,[.list [.str X,.str []] k]⟩=some (.next,⟨kd6,put σ (nm (Str.ofString "w")) (.str X),[.list [.str X,.str []] k]⟩):=by
 have h2:getA [.list [.str X,.str []] k] (.ref 0) (.int 0)=some (.str X):=getA_list (i:=0) (l:=[.str X,.str []]) (k:=k) rfl rfl (by decide)
 conv in e6 4=>whnf
 simp only [QC,eConst,Option.bind_some,Option.map_some,gq4,l6_ws,s6_w, *]
theorem f5a {k:Nat}(h1:look σ (nm (Str.ofString "ws"))=some (.ref 0))(h2:look σ (nm (Str.ofString "w"))=some (.str X))(h3:look σ (nm (Str.ofString "got"))=some (.str G))(hX:X≠[])(ho:strOk X=true)(hp:X.isPrefixOf G=true) :
  (run FT (n+20)).S (e6 5) ⟨kd6,σ,[.list [.str X,.str []] k]⟩=some (.next,⟨kd6,put σ (nm (Str.ofString "startpos")) (.int X.length),[.list [.str []] k]⟩):=by
 have h4:∀ μ,truA μ (.str X)=some true:=fun μ=>by rw [tru_str ho];simp [hX]
 have h5:∀ st,meth (.str G) (nm (Str.ofString "startswith")) [.str X] st=some (.bool true,st):=fun st=>by rw [mStarts,starts_eq,hp]
 have h6:∀ μ,truA μ (.bool true)=some true:=fun _=>rfl
 have h7:∀ r st,prim FT r (nm (Str.ofString "len")) [.str X] st=some (.int X.length,st):=fun r st=>pLenS ho
 have h8:∀ μ:Mu,kindOk μ μ (.str G)=true:=fun _=>rfl
 conv in e6 5=>whnf
 simp only [QC,eConst,esNil,tName,tCall,ssNil,ssCons,sRet,sIf,Option.bind_some,Option.map_some,List.all_cons,List.all_nil,Bool.and_true,ite_true,gq6,QM,l6_got,l6_w,s6_startpos,g6_len, *]
 simp only [sDel]
 simp only [QC,eConst,Option.bind_some,Option.map_some,ite_false,String.reduceEq,gq4,l6_ws, *]
 rfl
theorem f5b {k:Nat}(h1:look σ (nm (Str.ofString "ws"))=some (.ref 0))(h2:look σ (nm (Str.ofString "w"))=some (.str X))(h3:look σ (nm (Str.ofString "got"))=some (.str G))(hX:X≠[])(ho:strOk X=true)(hp:X.isPrefixOf G=false) :
  (run FT (n+20)).S (e6 5) ⟨kd6,σ,μ⟩=some (.ret (.bool false),⟨kd6,σ,μ⟩):=by
 have h4:∀ μ,truA μ (.str X)=some true:=fun μ=>by rw [tru_str ho];simp [hX]
 have h5:∀ st,meth (.str G) (nm (Str.ofString "startswith")) [.str X] st=some (.bool false,st):=fun st=>by rw [mStarts,starts_eq,hp]
 have h6:∀ μ,truA μ (.bool false)=some false:=fun _=>rfl
 have h8:∀ μ:Mu,kindOk μ μ (.str G)=true:=fun _=>rfl
 conv in e6 5=>whnf
 simp only [QC,eConst,esNil,tName,tCall,ssNil,ssCons,sRet,sIf,Option.bind_some,Option.map_some,List.all_cons,List.all_nil,Bool.and_true,ite_true,ite_false,Bool.false_eq_true,gq6,QM,l6_got,l6_w,g6_len, *]
theorem f6 {k:Nat}(h1:look σ (nm (Str.ofString "ws"))=some (.ref 0)):(run FT (n+20)).S (e6 6) ⟨kd6,σ,[.list [.str []] k]⟩=some (.next,⟨kd6,put σ (nm (Str.ofString "w")) (.str []),[.list [.str []] k]⟩):=by
 have h2:getA [.list [.str []] k] (.ref 0) (.int (-1))=some (.str []):=by kernel_rfl!
 conv in e6 6=>whnf
 simp only [QC,eConst,eUSub,Option.bind_some,Option.map_some,gq4,l6_ws,s6_w, *]
theorem f7 (h2:look σ (nm (Str.ofString "w"))=some (.str [])):(run FT (n+20)).S (e6 7) ⟨kd6,σ,μ⟩=some (.next,⟨kd6,σ,μ⟩):=by
 have h4:∀ μ,truA μ (.str [])=some false:=fun μ=>by rw [tru_str (by decide)];rfl
 conv in e6 7=>whnf
 simp only [QC,eConst,esNil,tName,tCall,ssNil,ssCons,sRet,sIf,Option.bind_some,Option.map_some,ite_false,Bool.false_eq_true,gq6,QM,l6_got,l6_w, *]
theorem f8 (h2:look σ (nm (Str.ofString "startpos"))=some (.int X.length))(h1:look σ (nm (Str.ofString "endpos"))=some (.int G.length))(hl:X.length≤G.length):(run FT (n+20)).S (e6 8) ⟨kd6,σ,μ⟩=some (.next,⟨kd6,σ,μ⟩):=by
 have h4:∀ μ,truA μ (.bool false)=some false:=fun μ=>rfl
 have h5:∀ μ,cmpA μ .Gt (.int X.length) (.int G.length)=some (.bool false):=fun μ=>by
  show some (AV.bool (decide ((X.length:Int) > G.length)))=_
  rw [decide_eq_false (by kt_len)]
 conv in e6 8=>whnf
 simp only [QC,eConst,ssNil,ssCons,sRet,sIf,Option.bind_some,Option.map_some,ite_false,Bool.false_eq_true,gq6,l6_startpos,l6_endpos, *]
theorem f10:(run FT (n+20)).S (e6 10) ⟨kd6,σ,μ⟩=some (.ret (.bool true),⟨kd6,σ,μ⟩):=by
 conv in e6 10=>whnf
 simp only [eConst,sRet,Option.map_some,gq6, *]
theorem f9 {k:Nat}(h1:look σ (nm (Str.ofString "ws"))=some (.ref 0))(h2:look σ (nm (Str.ofString "startpos"))=some (.int X.length))(h3:look σ (nm (Str.ofString "endpos"))=some (.int G.length))(h4:look σ (nm (Str.ofString "got"))=some (.str G))(hl:X.length≤G.length) :
  ∃ σ',(run FT (n+20)).S (e6 9) ⟨kd6,σ,[.list [.str []] k]⟩=some (.next,⟨kd6,σ',[.list [.str []] k]⟩):=by
 have h5:∀ st,meth (.str G) (nm (Str.ofString "find")) [.str [],.int X.length,.int G.length] st=some (.int X.length,st):=fun st=>by rw [mFind,find_nil G _ hl]
 have h6:∀ μ,truA μ (.bool false)=some false:=fun μ=>rfl
 have h7:∀ μ,cmpA μ .Lt (.int X.length) (.int 0)=some (.bool false):=fun μ=>by
  show some (AV.bool (decide ((X.length:Int) < 0)))=_
  rw [decide_eq_false (by kt_len)]
 have h8:∀ μ:Mu,kindOk μ μ (.str G)=true:=fun _=>rfl
 have h9:∀ r st,prim FT r (nm (Str.ofString "len")) [.str []] st=some (.int 0,st):=fun r st=>pLenS (l:=[]) (by decide)
 have h10:augA .Add (.int X.length) (.int 0)=some (.int X.length):=by
  show some (AV.int ((X.length:Int)+0))=_
  rw [Int.add_zero]
 have h11:nextIt (.lst 0 0) [AObj.list [AV.str []] k]=some (some (.str [],.lst 0 1)):=rfl
 have h12:nextIt (.lst 0 1) [AObj.list [AV.str []] k]=some none:=rfl
 have h13:itOf ⟨kd6,σ,[AObj.list [AV.str []] k]⟩ (.ref 0)=some (.lst 0 0):=rfl
 refine ⟨?_,?_⟩
 rotate_left
 ·conv in e6 9=>whnf
  rw [sFor]
  simp only [gq10]
  simp only [QC,Option.bind_some,Option.map_some,l6_ws, *]
  rw [lpEq,h11,Option.bind_some]
  simp only [gq8,gq9]
  simp only [QC,eConst,esNil,ssNil,ssCons,sRet,sIf,Option.bind_some,Option.map_some,List.all_cons,List.all_nil,Bool.and_true,ite_true,ite_false,Bool.false_eq_true,String.reduceEq,gq4,gq6,QM,l6_got,l6_w,l6_startpos,l6_endpos,s6_w,s6_startpos,g6_len, *]
  rw [lpEq,h12,Option.bind_some]
end
end
section
theorem ss_next {n:Nat}{x:Stmt}{l:List Stmt}{st st':St}(h:(run FT n).S x st=some (.next,st')):(run FT (n+1)).SS (x::l) st=(run FT n).SS l st':=by
 rw [ssCons,h];rfl
theorem ss_ret {n:Nat}{x:Stmt}{l:List Stmt}{st st':St}{v:AV}(h:(run FT n).S x st=some (.ret v,st')):(run FT (n+1)).SS (x::l) st=some (.ret v,st'):=by
 rw [ssCons,h];rfl
noncomputable abbrev Ends (o:Option (AFlow × St))(kd:List (Str × NameKind))(P:Sig→Mu→Prop):Prop:=∃ σ' μ',o=some (.next,⟨kd,σ',μ'⟩)∧P σ' μ'
noncomputable abbrev EndsS (o:Option (AFlow × St))(kd:List (Str × NameKind))(μ:Mu)(P:Sig→Prop):Prop:=∃ σ',o=some (.next,⟨kd,σ',μ⟩)∧P σ'
noncomputable abbrev Rets (o:Option (AFlow × St))(v:AV):Prop:=∃ st',o=some (.ret v,st')
theorem Ends.post {o:Option (AFlow × St)}{kd:List (Str × NameKind)}{Q:Sig→Mu→Prop}(h:∀ P:Sig→Mu→Prop,(∀ σ μ,Q σ μ→P σ μ)→Ends o kd P):Ends o kd Q:=h Q fun _ _ x=>x
theorem en {n:Nat}{x:Stmt}{l:List Stmt}{st st':St}{kd:List (Str × NameKind)}{P:Sig→Mu→Prop}(h:(run FT n).S x st=some (.next,st'))(k:Ends ((run FT n).SS l st') kd P):Ends ((run FT (n+1)).SS (x::l) st) kd P:=
 let ⟨σ,μ,e,p⟩:=k;⟨σ,μ,(ss_next h).trans e,p⟩
theorem es {n:Nat}{x:Stmt}{l:List Stmt}{st st':St}{kd:List (Str × NameKind)}{μ:Mu}{P:Sig→Prop}(h:(run FT n).S x st=some (.next,st'))(k:EndsS ((run FT n).SS l st') kd μ P):EndsS ((run FT (n+1)).SS (x::l) st) kd μ P:=
 let ⟨σ,e,p⟩:=k;⟨σ,(ss_next h).trans e,p⟩
theorem re {n:Nat}{x:Stmt}{l:List Stmt}{st st':St}{v:AV}(h:(run FT n).S x st=some (.next,st'))(k:Rets ((run FT n).SS l st') v):Rets ((run FT (n+1)).SS (x::l) st) v:=
 let ⟨s,e⟩:=k;⟨s,(ss_next h).trans e⟩
theorem look_same (σ:Sig)(x:Nm)(v:AV):look (put σ x v) x=some v:=by rw [look_put,if_pos rfl]
theorem look_ne {σ:Sig}{a b:String}{v:AV}(h:a≠b):look (put σ (nm (Str.ofString a)) v) (nm (Str.ofString b))=look σ (nm (Str.ofString b)):=by
 rw [look_put,if_neg]
 rw [nmP];exact h
local macro_rules | `(tactic| kt_ors) => `(tactic| repeat (first | exact look_same .. | refine (look_ne (by decide)).trans ?_))
theorem ell_run {n:Nat}{X G:List Nat}{σ:Sig}(h1:look σ (nm (Str.ofString "want"))=some (.str (X++dots)))(h2:look σ (nm (Str.ofString "got"))=some (.str G))(hX:46 ∉ X)(hk:∀ c∈X,c < 256)(hl:X.length < 1000)(hne:X≠[])(hG:G.length < 100000) :
  ∃ st',(run FT (n+40)).SS (fBody (pb 6)) ⟨kd6,σ,[]⟩=some (.ret (.bool (X.isPrefixOf G)),st'):=by
 have hs:∀ l:List Nat,l.length < 100000→strOk l=true:=fun l h=>decide_eq_true (by unfold topK;kt_len)
 rw [body6]
 refine re (f0 h1) ?_
 refine re (f1 h1 hX hk hl) ?_
 refine re (f2 (l:=[]) (look_same ..)) ?_
 refine re (f3 (by kt_ors;exact h2) (hs G hG)) ?_
 refine re (f4 (by kt_ors)) ?_
 cases hp:X.isPrefixOf G with
 | false=>
  rw [ss_ret (f5b (k:=0) (X:=X) (G:=G) (by kt_ors) (by kt_ors) (by kt_ors;exact h2) hne (hs X (by kt_len)) hp)]
  exact ⟨_,rfl⟩
 | true=>
  have hle:X.length≤G.length:=(List.isPrefixOf_iff_prefix.1 hp).length_le
  refine re (f5a (X:=X) (G:=G) (by kt_ors) (by kt_ors) (by kt_ors;exact h2) hne (hs X (by kt_len)) hp) ?_
  refine re (f6 (k:=2) (by kt_ors)) ?_
  refine re (f7 (by kt_ors)) ?_
  refine re (f8 (X:=X) (G:=G) (by kt_ors) (by kt_ors) hle) ?_
  obtain ⟨σ',h9⟩:=f9 (n:=n+10) (k:=2) (X:=X) (G:=G) (σ:=put (put (put (put (put (put σ (nm (Str.ofString "ws")) (.ref 0)) (nm (Str.ofString "endpos")) (.int G.length)) (nm (Str.ofString "startpos")) (.int 0)) (nm (Str.ofString "w")) (.str X)) (nm (Str.ofString "startpos")) (.int X.length)) (nm (Str.ofString "w")) (.str [])) (by kt_ors) (by kt_ors)
   (by kt_ors) (by kt_ors;exact h2) hle
  refine re h9 ?_
  exact ⟨_,ss_ret f10⟩
theorem ps6:(mkUF (pb 6)).ps=[nm (Str.ofString "want"),nm (Str.ofString "got")]:=by kernel_rfl!
theorem pEll {n:Nat}{X G:List Nat}{st:St}(hX:46 ∉ X)(hk:∀ c∈X,c < 256)(hl:X.length < 1000)(hne:X≠[])(hG:G.length < 100000) :
  callUF (run FT (n+40)) (mkUF (pb 6)) [.str (X++dots),.str G] st=some (.bool (X.isPrefixOf G),st):=by
 refine x1_0 (ell_run (n:=n) (X:=X) (G:=G) (σ:=[(nm (Str.ofString "want"),.str (X++dots)),(nm (Str.ofString "got"),.str G)]) (by simp [look]) (by simp [look,nmS]) hX hk hl hne hG) fun st' h=>?_
 exact callUF_ok (by rw [ps6];exact h) (by rw [ps6];rfl) rfl
end
local macro_rules | `(tactic| kt_ors) => `(tactic| repeat (first | exact look_same .. | refine (look_ne (by decide)).trans ?_))
section
noncomputable abbrev Pc:=Nat × Nat × Nat
noncomputable def sp (k:Nat):List Nat:=List.replicate k 32
noncomputable def pcA (p:Pc):List Nat:=sp p.2.1
noncomputable def pcB (p:Pc):List Nat:=p.1::sp (p.2.2 - p.2.1)
noncomputable def pcV (p:Pc):AV:=.tup [.str (pcA p),.str (pcB p)]
noncomputable def pcS (p:Pc):List Nat:=pcA p++pcB p
noncomputable def flatP (ps:List Pc):List Nat:=(ps.map pcS).flatten
noncomputable def txt (ps:List Pc):List Nat:=ps.map (·.1)
noncomputable def Wo (o:Nat):List Pc→Int
 | []=>0
 | p::l=>(if [p.1]==[o] then (p.2.2:Int) else -(p.2.2:Int))+Wo o l
noncomputable def mvs (o s:Nat)(ps:List Pc):Nat→List (Int × Nat × Nat)
 | 0=>[]
 | m+1=>(if [(ps.getD m (0,0,0)).1]==[o] then [(Wo o (ps.drop m),s,m)] else [])++mvs o s ps m
noncomputable def mvV (m:Int × Nat × Nat):AV:=.tup [.int m.1,.int m.2.1,.int m.2.2]
noncomputable def PcOk (p:Pc):Prop:=p.2.1≤p.2.2∧p.2.2≤8∧(p.1=104∨p.1=112)
theorem sp_len (k:Nat):(sp k).length=k:=List.length_replicate ..
theorem pcA_len (p:Pc):(pcA p).length=p.2.1:=sp_len _
theorem pcB_len (p:Pc):(pcB p).length=p.2.2 - p.2.1+1:=by simp [pcB,sp_len]
theorem pcS_len (p:Pc)(h:PcOk p):(pcS p).length=p.2.2+1:=by
 have:=h.1
 simp only [pcS,List.length_append,pcA_len,pcB_len];kt_len
theorem flatP_cons (p:Pc)(l:List Pc):flatP (p::l)=pcS p++flatP l:=by simp [flatP]
theorem flatP_app (l m:List Pc):flatP (l++m)=flatP l++flatP m:=by simp [flatP]
theorem flatP_len (l:List Pc)(h:∀ p∈l,PcOk p):(flatP l).length≤9*l.length:=by
 induction l with
 | nil=>simp [flatP]
 | cons p l ih=>
  rw [flatP_cons,List.length_append,pcS_len p (h p (List.mem_cons_self ..)),List.length_cons]
  have:=ih fun q hq=>h q (List.mem_cons_of_mem _ hq)
  have:=(h p (List.mem_cons_self ..)).2.1
  kt_len
theorem sign_at (l m:List Pc)(p:Pc):(flatP (l++p::m))[(flatP l).length+p.2.1]?=some p.1:=by
 rw [flatP_app,flatP_cons,List.getElem?_append_right (by kt_len)]
 have:(flatP l).length+p.2.1 - (flatP l).length=p.2.1:=by kt_len
 rw [this]
 simp only [pcS,List.append_assoc]
 rw [List.getElem?_append_right (by rw [pcA_len];kt_len),pcA_len]
 simp [pcB]
theorem pre_one {G:List Nat}{k c o:Nat}(h:G[k]?=some c):(G.take k++[o]).isPrefixOf G=([c]==[o]):=by
 have hk:k < G.length:=(List.getElem?_eq_some_iff.1 h).1
 have hc:G[k]=c:=(List.getElem?_eq_some_iff.1 h).2
 rw [Bool.eq_iff_iff,List.isPrefixOf_iff_prefix,beq_iff_eq]
 constructor
 ·rintro ⟨r,e⟩
  have:((G.take k++[o])++r)[k]?=some o:=by
   rw [List.append_assoc,List.getElem?_append_right (by simp;kt_len)]
   simp [Nat.min_eq_left (Nat.le_of_lt hk)]
  rw [e,h] at this;cases this;rfl
 ·intro e;cases e
  refine ⟨G.drop (k+1),?_⟩
  rw [List.append_assoc,List.singleton_append,← hc,← List.drop_eq_getElem_cons hk,List.take_append_drop]
theorem signs_ok (l:List Pc)(h:∀ p∈l,PcOk p):∀ c∈flatP l,c=32∨c=104∨c=112:=by
 intro c hc
 refine x1_1 (List.mem_flatten.1 hc) fun x hx hc=>?_
 refine x1_1 (List.mem_map.1 hx) fun p hp hq2=>?_;subst hq2
 simp only [pcS,pcA,pcB,List.mem_append,List.mem_cons,sp,List.mem_replicate] at hc
 rcases hc with hc | hc | hc
 ·exact .inl hc.2
 ·rcases (h p hp).2.2 with e | e <;> simp [hc,e]
 ·exact .inl hc.2
theorem fm_take {α:Type}(l:List α)(m:Nat):(List.range m).filterMap (fun i=>l[i]?)=l.take m:=by
 induction m with
 | zero=>simp
 | succ m ih=>
  rw [List.range_succ,List.filterMap_append,ih,List.take_add_one]
  congr 1
theorem fm_range {α:Type}(l:List α)(a b:Nat):((List.range (b - a)).map (a+·)).filterMap (fun i=>l[i]?)=(l.drop a).take (b - a):=by
 rw [List.filterMap_map,← fm_take]
 congr 1
 funext i
 exact (List.getElem?_drop ..).symm
theorem sliceL_take {α:Type}(l:List α)(k:Nat)(h:k≤l.length):sliceL l none (some (k:Int))=l.take k:=by
 unfold sliceL
 have e:sliceBounds none (some (k:Int)) none l.length=(((0:Nat):Int),(k:Int),1):=by
  unfold sliceBounds
  have:¬ ((k:Int) < 0):=by kt_len
  simp [this];kt_len
 rw [e]
 show (sliceRange ((0:Nat):Int) (k:Int) 1).filterMap (fun i=>l[i]?)=_
 rw [sliceRange_one,fm_range]
 simp
theorem sliceL_drop {α:Type}(l:List α)(k:Nat)(h:k≤l.length):sliceL l (some (k:Int)) none=l.drop k:=by
 unfold sliceL
 have e:sliceBounds (some (k:Int)) none none l.length=((k:Int),(l.length:Int),1):=by
  unfold sliceBounds
  have:¬ ((k:Int) < 0):=by kt_len
  simp [this];kt_len
 rw [e]
 show (sliceRange (k:Int) (l.length:Int) 1).filterMap (fun i=>l[i]?)=_
 rw [sliceRange_one,fm_range,List.take_of_length_le (by rw [List.length_drop];kt_len)]
theorem sliceS_take (l:List Nat)(k:Nat)(h:k≤l.length):sliceS l none (some (k:Int))=l.take k:=by
 unfold sliceS
 have e:Builtin.Str.strSliceIndices none (some (k:Int)) 1 l.length=(List.range (k - 0)).map (0+·):=by
  unfold Builtin.Str.strSliceIndices
  have:¬ ((k:Int) < 0):=by kt_len
  have h2:max 0 (min (k:Int) l.length)=(k:Int):=by kt_len
  simp only [this,if_false,show ((1:Int) > 0) from by decide,if_true,h2]
  exact sliceRange_one 0 k
 rw [e]
 dsimp only
 split
 next hc=>
  simp at hc
  rw [hc,List.take_length]
 next=>rw [fm_range];simp
theorem sliceS_drop (l:List Nat)(k:Nat)(h:k≤l.length):sliceS l (some (k:Int)) none=l.drop k:=by
 unfold sliceS
 have e:Builtin.Str.strSliceIndices (some (k:Int)) none 1 l.length=(List.range (l.length - k)).map (k+·):=by
  unfold Builtin.Str.strSliceIndices
  have:¬ ((k:Int) < 0):=by kt_len
  have h2:max 0 (min (k:Int) l.length)=(k:Int):=by kt_len
  simp only [this,if_false,show ((1:Int) > 0) from by decide,if_true,h2]
  exact sliceRange_one k l.length
 rw [e]
 dsimp only
 split
 next hc=>
  simp at hc
  have:k=0∨l.length=0:=by kt_len
  rcases this with rfl | h0
  ·rfl
  ·have:=List.eq_nil_of_length_eq_zero h0;subst this;simp
 next=>rw [fm_range,List.take_of_length_le (by rw [List.length_drop];kt_len)]
end
section
noncomputable def forB:Stmt→List Stmt
 | .For _ _ b _ _=>b
 | _=>[]
noncomputable def forI:Stmt→Expr
 | .For _ i _ _ _=>i
 | _=>.Constant .none 0 ⟨0,0,0,0⟩
noncomputable def forT:Stmt→Expr
 | .For t _ _ _ _=>t
 | _=>.Constant .none 0 ⟨0,0,0,0⟩
noncomputable def tb (i:Nat):Stmt:=(forB (lw 7)).getD i (.Pass ⟨0,0,0,0⟩)
noncomputable def sb (i:Nat):Stmt:=(forB (tb 1)).getD i (.Pass ⟨0,0,0,0⟩)
noncomputable def ib (i:Nat):Stmt:=(forB (sb 2)).getD i (.Pass ⟨0,0,0,0⟩)
theorem tbs:forB (lw 7)=[tb 0,tb 1,tb 2,tb 3,tb 4,tb 5,tb 6,tb 7,tb 8,tb 9,tb 10,tb 11,tb 12]:=by kernel_rfl!
theorem sbs:forB (tb 1)=[sb 0,sb 1,sb 2]:=by kernel_rfl!
theorem ibs:forB (sb 2)=[ib 0,ib 1,ib 2,ib 3,ib 4,ib 5,ib 6,ib 7]:=by kernel_rfl!
noncomputable abbrev N (s:String):Nm:=nm (Str.ofString s)
theorem cDots:(Str.ofString "...").cps.toList=dots:=by kernel_rfl!
theorem cNil:(Str.ofString "").cps.toList=[]:=by kernel_rfl!
theorem cH:(Str.ofString "h").cps.toList=[104]:=by kernel_rfl!
theorem cP:(Str.ofString "p").cps.toList=[112]:=by kernel_rfl!
theorem cHp:(Str.ofString "hp").cps.toList=[104,112]:=by kernel_rfl!
theorem cM:(Str.ofString "m").cps.toList=[109]:=by kernel_rfl!
theorem cSp:(Str.ofString " ").cps.toList=[32]:=by kernel_rfl!
theorem strOk_of {l:List Nat}(h:l.length < 100000):strOk l=true:=decide_eq_true (by unfold topK;kt_len)
theorem tru_b {μ:Mu}{b:Bool}:truA μ (.bool b)=some b:=rfl
theorem add_s {a b:List Nat}(h1:a.length < 100000)(h2:b.length < 100000):binA .Add (.str a) (.str b)=some (.str (a++b)):=by
 show (if strOk a&&strOk b then _ else _)=_
 rw [strOk_of h1,strOk_of h2];rfl
theorem slice_s {l:List Nat}{k:Nat}{kd:List (Str × NameKind)}{σ:Sig}{μ:Mu}(h:k≤l.length)(h2:l.length < 100000):sliceA (.str l) none (some (k:Int)) ⟨kd,σ,μ⟩=some (.str (l.take k),⟨kd,σ,μ⟩):=by
 show (if strOk (sliceS l none (some (k:Int))) then _ else _)=_
 rw [sliceS_take l k h,strOk_of (by rw [List.length_take];kt_len)];rfl
theorem slice_s2 {l:List Nat}{k:Nat}{kd:List (Str × NameKind)}{σ:Sig}{μ:Mu}(h:k≤l.length)(h2:l.length < 100000):sliceA (.str l) (some (k:Int)) none ⟨kd,σ,μ⟩=some (.str (l.drop k),⟨kd,σ,μ⟩):=by
 show (if strOk (sliceS l (some (k:Int)) none) then _ else _)=_
 rw [sliceS_drop l k h,strOk_of (by rw [List.length_drop];kt_len)];rfl
theorem sub_i {a b:Int}:binA .Sub (.int a) (.int b)=some (.int (a - b)):=rfl
theorem add_i {a b:Int}:binA .Add (.int a) (.int b)=some (.int (a+b)):=rfl
theorem eq_s {μ:Mu}{a b:List Nat}:cmpA μ .Eq (.str a) (.str b)=some (.bool (a==b)):=rfl
theorem isnot_b {μ:Mu}{a b:Bool}:cmpA μ .IsNot (.bool a) (.bool b)=some (.bool (!(a==b))):=rfl
theorem aug_add {a b:Int}:augA .Add (.int a) (.int b)=some (.int (a+b)):=rfl
theorem aug_sub {a b:Int}:augA .Sub (.int a) (.int b)=some (.int (a - b)):=rfl
section
variable {n:Nat}{σ:Sig}{μ:Mu}{K M s j k k3 kk k1 km:Nat}{LS PA TS mv:List AV}{bl pt G t:List Nat}{c o:Nat}{w:Int}{b:Bool}
theorem ib0 (h1:look σ (N "stalks")=some (.ref 3))(h2:look σ (N "s")=some (.int (s:Int)))(h3:look σ (N "place")=some (.int (j:Int)))(m3:μ[3]?=some (.list LS k3))(ls:LS[s]?=some (.ref K))(mk:μ[K]?=some (.list PA kk))(pa:PA[j]?=some (.tup [.str bl,.str pt]))
  (hs:s < 100000) (hj:j < 100000):(run FT (n+20)).S (ib 0) ⟨kdL,σ,μ⟩=some (.next,⟨kdL,put (put σ (N "blanks") (.str bl)) (N "part") (.str pt),μ⟩):=by
 have g1:getA μ (.ref 3) (.int (s:Int))=some (.ref K):=getA_list m3 ls hs
 have g2:getA μ (.ref K) (.int (j:Int))=some (.tup [.str bl,.str pt]):=getA_list mk pa hj
 conv in ib 0=>whnf
 rw [sAsTup0 rfl (by kernel_rfl!)]
 simp only [QC,Option.bind_some,Option.map_some,gq1,gq2,gq3, *]
theorem ib1 (h1:look σ (N "spot")=some (.int ((k+pt.length:Nat):Int)))(h2:look σ (N "part")=some (.str pt))(hp:pt.length < 100000):(run FT (n+20)).S (ib 1) ⟨kdL,σ,μ⟩=some (.next,⟨kdL,put σ (N "spot") (.int (k:Int)),μ⟩):=by
 have g1:∀ r st,prim FT r (nm (Str.ofString "len")) [.str pt] st=some (.int pt.length,st):=fun r st=>pLenS (strOk_of hp)
 have g2:((k+pt.length:Nat):Int) - (pt.length:Int)=(k:Int):=by kt_len
 conv in ib 1=>whnf
 simp only [QC,esNil,Option.bind_some,Option.map_some,List.all_cons,List.all_nil,Bool.and_true,aug_sub, *]
theorem ib2 (h1:look σ (N "text")=some (.str G))(h2:look σ (N "spot")=some (.int (k:Int)))(h3:look σ (N "own")=some (.str [o]))(hk:G[k]?=some c)(hG:G.length < 900)(hs:∀ x∈G,x=32∨x=104∨x=112)(ho:o=104∨o=112) :
  (run FT (n+60)).S (ib 2) ⟨kdL,σ,μ⟩=some (.next,⟨kdL,put σ (N "found") (.bool ([c]==[o])),μ⟩):=by
 have hkl:k < G.length:=(List.getElem?_eq_some_iff.1 hk).1
 have g1:∀ σ,sliceA (.str G) none (some (k:Int)) ⟨kdL,σ,μ⟩=some (.str (G.take k),⟨kdL,σ,μ⟩):=fun σ=>slice_s (by kt_len) (by kt_len)
 have g2:binA .Add (.str (G.take k)) (.str [o])=some (.str (G.take k++[o])):=add_s (by rw [List.length_take];kt_len) (by simp)
 have g3:binA .Add (.str (G.take k++[o])) (.str dots)=some (.str (G.take k++[o]++dots)):=add_s (by rw [List.length_append,List.length_take];simp;kt_len) (by decide)
 have hx:∀ x∈G.take k++[o],x=32∨x=104∨x=112:=fun x hx=>by
  rcases List.mem_append.1 hx with h | h
  ·exact hs x (List.mem_of_mem_take h)
  ·simp at h;subst h;rcases ho with h | h <;> simp [h]
 have g4:∀ st,callUF (run FT (n+58)) (mkUF (pb 6)) [.str (G.take k++[o]++dots),.str G] st=some (.bool ([c]==[o]),st):=fun st=>by
  rw [← pre_one hk]
  exact pEll (n:=n+18) (fun h=>by have:=hx _ h;kt_len) (fun x h=>by have:=hx _ h;kt_len) (by rw [List.length_append,List.length_take];simp;kt_len) (by simp) (by kt_len)
 conv in ib 2=>whnf
 simp only [QC,eConst,eBin,eSlice,esNil,partNone,partSome,Option.bind_some,Option.map_some,List.all_cons,List.all_nil,Bool.and_true,gq5,QD,cDots, *]
theorem ib3 (h1:look σ (N "found")=some (.bool ([c]==[o])))(h2:look σ (N "texts")=some (.ref 1))(h3:look σ (N "s")=some (.int (s:Int)))(h4:look σ (N "place")=some (.int (j:Int)))(h5:look σ (N "own")=some (.str [o]))
  (m1:μ[1]?=some (.list TS k1)) (ts:TS[s]?=some (.str t)) (tj:t[j]?=some c) (hs:s < 100000) (hj:j < 100000):(run FT (n+20)).S (ib 3) ⟨kdL,σ,μ⟩=some (.next,⟨kdL,σ,μ⟩):=by
 have g1:getA μ (.ref 1) (.int (s:Int))=some (.str t):=getA_list m1 ts hs
 have g2:getA μ (.str t) (.int (j:Int))=some (.str [c]):=getA_str tj hj
 conv in ib 3=>whnf
 simp only [QC,eConst,ssNil,ssCons,sRet,sIf,Option.bind_some,Option.map_some,beq_self_eq_true,ite_false,Bool.false_eq_true,Bool.not_true,gq6,tru_b,eq_s,isnot_b, *]
theorem ib4 (h1:look σ (N "blanks")=some (.str bl))(h2:look σ (N "part")=some (.str pt))(hb:bl.length < 100000)(hp:pt.length < 100000)(hw:bl.length+pt.length=k+1):(run FT (n+20)).S (ib 4) ⟨kdL,σ,μ⟩=some (.next,⟨kdL,put σ (N "weight") (.int (k:Int)),μ⟩):=by
 have g1:∀ r st,prim FT r (nm (Str.ofString "len")) [.str pt] st=some (.int pt.length,st):=fun r st=>pLenS (strOk_of hp)
 have g3:∀ r st,prim FT r (nm (Str.ofString "len")) [.str bl] st=some (.int bl.length,st):=fun r st=>pLenS (strOk_of hb)
 have g2:(bl.length:Int)+(pt.length:Int) - 1=(k:Int):=by kt_len
 conv in ib 4=>whnf
 simp only [QC,eConst,eBin,esNil,Option.bind_some,Option.map_some,List.all_cons,List.all_nil,Bool.and_true,gq4,sub_i,add_i, *]
theorem ib5 (h1:look σ (N "worth")=some (.int w))(h2:look σ (N "found")=some (.bool b))(h3:look σ (N "weight")=some (.int (k:Int))):(run FT (n+20)).S (ib 5) ⟨kdL,σ,μ⟩=some (.next,⟨kdL,put σ (N "worth") (.int (w+if b then (k:Int) else -(k:Int))),μ⟩):=by
 conv in ib 5=>whnf
 cases b
 ·simp only [QC,eUSub,eIf,tName,Option.bind_some,Option.map_some,ite_false,Bool.false_eq_true,tru_b,aug_add, *]
 ·simp only [QC,eUSub,eIf,tName,Option.bind_some,Option.map_some,ite_true,tru_b,aug_add, *]
theorem ib6 (h1:look σ (N "found")=some (.bool b))(h2:look σ (N "moves")=some (.ref M))(h3:look σ (N "worth")=some (.int w))(h4:look σ (N "s")=some (.int (s:Int)))(h5:look σ (N "place")=some (.int (j:Int)))(mM:μ[M]?=some (.list mv km))(hk:km < 100000) :
  (run FT (n+20)).S (ib 6) ⟨kdL,σ,μ⟩=some (.next,⟨kdL,σ,if b then μ.set M (.list (mv++[.tup [.int w,.int (s:Int),.int (j:Int)]]) (km+1)) else μ⟩):=by
 have g1:meth (.ref M) (nm (Str.ofString "append")) [.tup [.int w,.int (s:Int),.int (j:Int)]] ⟨kdL,σ,μ⟩=some (.none,⟨kdL,σ,μ.set M (.list (mv++[.tup [.int w,.int (s:Int),.int (j:Int)]]) (km+1))⟩):=mAppend mM (by unfold topK;kt_len)
 have g2:kindOk μ μ (.ref M)=true:=kindS mM
 conv in ib 6=>whnf
 cases b
 ·simp only [QC,eTup,esNil,tName,ssNil,ssCons,sIf,Option.bind_some,Option.map_some,List.all_cons,List.all_nil,Bool.and_true,List.length_cons,List.length_nil,ite_true,ite_false,Bool.false_eq_true,QM,QD,tru_b, *]
 ·simp only [QC,eTup,esNil,tName,ssNil,ssCons,sIf,Option.bind_some,Option.map_some,List.all_cons,List.all_nil,Bool.and_true,List.length_cons,List.length_nil,ite_true,QM,QD,tru_b, *]
theorem ib7 (h1:look σ (N "spot")=some (.int ((k+bl.length:Nat):Int)))(h2:look σ (N "blanks")=some (.str bl))(hp:bl.length < 100000):(run FT (n+20)).S (ib 7) ⟨kdL,σ,μ⟩=some (.next,⟨kdL,put σ (N "spot") (.int (k:Int)),μ⟩):=by
 have g1:∀ r st,prim FT r (nm (Str.ofString "len")) [.str bl] st=some (.int bl.length,st):=fun r st=>pLenS (strOk_of hp)
 have g2:((k+bl.length:Nat):Int) - (bl.length:Int)=(k:Int):=by kt_len
 conv in ib 7=>whnf
 simp only [QC,esNil,Option.bind_some,Option.map_some,List.all_cons,List.all_nil,Bool.and_true,aug_sub, *]
end
end
section
noncomputable def Ag (ws:List String)(σ σ':Sig):Prop:=∀ x:String,x ∉ ws→look σ' (N x)=look σ (N x)
theorem Ag.refl (ws:List String)(σ:Sig):Ag ws σ σ:=fun _ _=>rfl
theorem Ag.trans {ws:List String}{σ σ' σ'':Sig}(h:Ag ws σ σ')(h':Ag ws σ' σ''):Ag ws σ σ'':=fun x hx=>(h' x hx).trans (h x hx)
theorem Ag.put {ws:List String}{σ σ':Sig}{a:String}{v:AV}(h:Ag ws σ σ')(ha:a∈ws):Ag ws σ (put σ' (N a) v):=fun x hx=>by
 rw [look_ne (fun e=>hx (by rw [← e];exact ha))];exact h x hx
theorem Ag.mono {ws ws':List String}{σ σ':Sig}(h:Ag ws σ σ')(hs:∀ x∈ws,x∈ws'):Ag ws' σ σ':=fun x hx=>h x fun h'=>hx (hs x h')
noncomputable def SetAt (M:Nat)(μ μ':Mu):Prop:=μ'.length=μ.length∧∀ i,i≠M→μ'[i]?=μ[i]?
theorem SetAt.refl (M:Nat)(μ:Mu):SetAt M μ μ:=⟨rfl,fun _ _=>rfl⟩
theorem SetAt.trans {M:Nat}{μ μ' μ'':Mu}(h:SetAt M μ μ')(h':SetAt M μ' μ''):SetAt M μ μ'':=⟨h'.1.trans h.1,fun i hi=>(h'.2 i hi).trans (h.2 i hi)⟩
theorem SetAt.set (M:Nat)(μ:Mu)(o:AObj):SetAt M μ (μ.set M o):=⟨List.length_set,fun i hi=>List.getElem?_set_ne (Ne.symm hi)⟩
theorem get_set {M:Nat}{μ:Mu}{o x:AObj}(h:μ[M]?=some x):(μ.set M o)[M]?=some o:=by
 have:M < μ.length:=(List.getElem?_eq_some_iff.1 h).1
 simp [this]
structure InL (o s M K:Nat)(ps:List Pc)(σ:Sig)(μ:Mu):Prop where
 stalks:look σ (N "stalks")=some (.ref 3)
 sv:look σ (N "s")=some (.int (s:Int))
 texts:look σ (N "texts")=some (.ref 1)
 own:look σ (N "own")=some (.str [o])
 text:look σ (N "text")=some (.str (flatP ps))
 moves:look σ (N "moves")=some (.ref M)
 m3:∃ LS k,μ[3]?=some (.list LS k)∧LS[s]?=some (.ref K)
 mK:∃ k,μ[K]?=some (.list (ps.map pcV) k)
 m1:∃ TS k,μ[1]?=some (.list TS k)∧TS[s]?=some (.str (txt ps))
 ne3:M≠3
 neK:M≠K
 ne1:M≠1
noncomputable def inWs:List String:=["place","blanks","part","spot","found","weight","worth"]
theorem InL.next {o s M K:Nat}{ps:List Pc}{σ σ':Sig}{μ μ':Mu}(I:InL o s M K ps σ μ)(h:Ag inWs σ σ')(h':SetAt M μ μ'):InL o s M K ps σ' μ' where
 stalks:=(h _ (by decide)).trans I.stalks
 sv:=(h _ (by decide)).trans I.sv
 texts:=(h _ (by decide)).trans I.texts
 own:=(h _ (by decide)).trans I.own
 text:=(h _ (by decide)).trans I.text
 moves:=(h _ (by decide)).trans I.moves
 m3:=let ⟨a,b,c,d⟩:=I.m3;⟨a,b,(h'.2 _ (Ne.symm I.ne3)).trans c,d⟩
 mK:=let ⟨b,c⟩:=I.mK;⟨b,(h'.2 _ (Ne.symm I.neK)).trans c⟩
 m1:=let ⟨a,b,c,d⟩:=I.m1;⟨a,b,(h'.2 _ (Ne.symm I.ne1)).trans c,d⟩
 ne3:=I.ne3
 neK:=I.neK
 ne1:=I.ne1
theorem drop_cons (ps:List Pc)(j:Nat)(h:j < ps.length):ps.drop j=ps[j]::ps.drop (j+1):=List.drop_eq_getElem_cons h
theorem inner_body {n o s M K j km:Nat}{ps:List Pc}{σ:Sig}{μ:Mu}{mv:List AV}(I:InL o s M K ps σ μ)(hj:j < ps.length)(hpl:look σ (N "place")=some (.int (j:Int)))(hsp:look σ (N "spot")=some (.int ((flatP (ps.take (j+1))).length:Nat)))(hw:look σ (N "worth")=some (.int (Wo o (ps.drop (j+1)))))
  (mM:μ[M]?=some (.list mv km)) (hk:km < 1000) (hok:∀ p∈ps,PcOk p) (hlen:ps.length≤90) (hs:s < 1000) (ho:o=104∨o=112) :
  ∃ σ' μ',(run FT (n+80)).SS (forB (sb 2)) ⟨kdL,σ,μ⟩=some (.next,⟨kdL,σ',μ'⟩)∧Ag inWs σ σ'∧SetAt M μ μ'∧look σ' (N "spot")=some (.int ((flatP (ps.take j)).length:Nat))∧look σ' (N "worth")=some (.int (Wo o (ps.drop j))) ∧
   ∃ km',μ'[M]?=some (.list (mv++(if [(ps.getD j (0,0,0)).1]==[o] then [(Wo o (ps.drop j),s,j)] else []).map mvV) km')∧km'≤km+1:=by
 refine x2_1 (I.m3) fun LS k3 m3 ls=>?_
 refine x1_0 (I.mK) fun kk mK=>?_
 refine x2_1 (I.m1) fun TS k1 m1 ts=>?_
 have hp:PcOk ps[j]:=hok _ (List.getElem_mem hj)
 have hwt:ps[j].2.2≤8:=hp.2.1
 have hle:ps[j].2.1≤ps[j].2.2:=hp.1
 have lA:(pcA ps[j]).length=ps[j].2.1:=pcA_len _
 have lB:(pcB ps[j]).length=ps[j].2.2 - ps[j].2.1+1:=pcB_len _
 have e1:ps=ps.take j++ps[j]::ps.drop (j+1):=by rw [← drop_cons ps j hj,List.take_append_drop]
 have pa:(ps.map pcV)[j]?=some (.tup [.str (pcA ps[j]),.str (pcB ps[j])]):=by simp [hj,pcV]
 have tj:(txt ps)[j]?=some ps[j].1:=by simp [txt,hj]
 have hG:(flatP ps).length < 900:=by have:=flatP_len ps hok;kt_len
 have hk0:(flatP ps)[(flatP (ps.take j)).length+ps[j].2.1]?=some ps[j].1:=by
  conv=>lhs;arg 1;rw [e1]
  exact sign_at _ _ _
 have hspl:(flatP (ps.take (j+1))).length=((flatP (ps.take j)).length+ps[j].2.1)+(pcB ps[j]).length:=by
  rw [List.take_add_one]
  simp only [hj,List.getElem?_eq_getElem,Option.toList]
  rw [flatP_app,List.length_append]
  have:(flatP [ps[j]]).length=ps[j].2.2+1:=by rw [flatP_cons,List.length_append,pcS_len _ hp];rfl
  rw [this,lB];kt_len
 rw [hspl] at hsp
 have hWo:Wo o (ps.drop j)=Wo o (ps.drop (j+1))+(if ([ps[j].1]==[o])=true then ((ps[j].2.2:Nat):Int) else -((ps[j].2.2:Nat):Int)):=by
  rw [drop_cons ps j hj]
  show _+_=_
  rw [Int.add_comm]
 have hgd:ps.getD j (0,0,0)=ps[j]:=by simp [hj]
 have sc:∀ x∈flatP ps,x=32∨x=104∨x=112:=signs_ok ps hok
 rw [ibs]
 refine en (ib0 I.stalks I.sv hpl m3 ls mK pa (by kt_len) (by kt_len)) ?_
 refine en (ib1 (k:=(flatP (ps.take j)).length+ps[j].2.1) (pt:=pcB ps[j]) (by kt_ors;exact hsp) (by kt_ors) (by kt_len)) ?_
 refine en (ib2 (n:=n+17) (k:=(flatP (ps.take j)).length+ps[j].2.1) (G:=flatP ps) (c:=ps[j].1) (o:=o) (by kt_ors;exact I.text) (by kt_ors) (by kt_ors;exact I.own) hk0 hG sc ho) ?_
 refine en (ib3 (c:=ps[j].1) (o:=o) (by kt_ors) (by kt_ors;exact I.texts) (by kt_ors;exact I.sv) (by kt_ors;exact hpl) (by kt_ors;exact I.own) m1 ts tj (by kt_len) (by kt_len)) ?_
 refine en (ib4 (bl:=pcA ps[j]) (pt:=pcB ps[j]) (k:=ps[j].2.2) (by kt_ors) (by kt_ors) (by kt_len) (by kt_len) (by kt_len)) ?_
 refine en (ib5 (b:=[ps[j].1]==[o]) (k:=ps[j].2.2) (w:=Wo o (ps.drop (j+1))) (by kt_ors;exact hw) (by kt_ors) (by kt_ors)) ?_
 rw [← hWo]
 refine en (ib6 (b:=[ps[j].1]==[o]) (M:=M) (s:=s) (j:=j) (w:=Wo o (ps.drop j)) (by kt_ors) (by kt_ors;exact I.moves) (by kt_ors) (by kt_ors;exact I.sv) (by kt_ors;exact hpl) mM (by kt_len)) ?_
 refine en (ib7 (k:=(flatP (ps.take j)).length) (bl:=pcA ps[j]) (by simp only [look_put,nmP,String.reduceEq,if_false,if_true];rw [lA]) (by kt_ors) (by kt_len)) ?_
 refine ⟨_,_,rfl,?_,?_,?_,?_,?_⟩
 ·exact ((((((((Ag.refl _ _).put (by decide)).put (by decide)).put (by decide)).put (by decide)).put (by decide)).put (by decide)).put (by decide))
 ·split
  ·exact SetAt.set ..
  ·exact SetAt.refl ..
 ·kt_ors
 ·kt_ors
 ·rw [hgd]
  split
  ·exact ⟨km+1,get_set mM,Nat.le_refl _⟩
  ·exact ⟨km,by simpa using mM,by kt_len⟩
theorem lp_int {n:Nat}{x:Str}{p:Pos}{i:Int}{l:List AV}{b:List Stmt}{σ:Sig}{μ:Mu}(h:stoOk kdL x=true):(run FT (n+1)).Lp (.Name x p) (.vals (.int i::l)) b ⟨kdL,σ,μ⟩ =
  ((run FT n).SS b ⟨kdL,put σ (nm x) (.int i),μ⟩).bind fun (f,st)=>match f with
   | .ret v=>some (.ret v,st)
   | .brk=>some (.next,st)
   | _=>(run FT n).Lp (.Name x p) (.vals l) b st:=by
 rw [lpEq]
 show (some (some (AV.int i,AIt.vals l))).bind _=_
 rw [Option.bind_some]
 show (putLoc ⟨kdL,σ,μ⟩ (nm x) (.int i)).bind _=_
 rw [put_loc h];rfl
theorem lp_nil {n:Nat}{t:Expr}{b:List Stmt}{st:St}:(run FT (n+1)).Lp t (.vals []) b st=some (.next,st):=rfl
theorem inner_loop {n o s M K:Nat}{ps:List Pc}{p:Pos}(hok:∀ p∈ps,PcOk p)(hlen:ps.length≤90)(hs:s < 1000)(ho:o=104∨o=112):∀ (m km:Nat) (σ:Sig) (μ:Mu) (mv:List AV),m≤ps.length→InL o s M K ps σ μ →
  look σ (N "spot")=some (.int ((flatP (ps.take m)).length:Nat))→look σ (N "worth")=some (.int (Wo o (ps.drop m)))→μ[M]?=some (.list mv km)→km+m < 1000 →
  ∃ σ' μ',(run FT (n+m+81)).Lp (.Name (Str.ofString "place") p) (.vals ((List.range m).reverse.map fun (j:Nat)=>AV.int (j:Int))) (forB (sb 2)) ⟨kdL,σ,μ⟩=some (.next,⟨kdL,σ',μ'⟩)∧Ag inWs σ σ'∧SetAt M μ μ'∧∃ km',μ'[M]?=some (.list (mv++(mvs o s ps m).map mvV) km')∧km'≤km+m
 | 0,km,σ,μ,mv,hm,I,h1,h2,mM,hk=>⟨σ,μ,rfl,Ag.refl _ _,SetAt.refl _ _,km,by simpa [mvs] using mM,Nat.le_refl _⟩
 | m+1,km,σ,μ,mv,hm,I,h1,h2,mM,hk=>by
  rw [List.range_succ,List.reverse_append,List.reverse_singleton,List.singleton_append,List.map_cons]
  have I0:InL o s M K ps (put σ (N "place") (.int (m:Int))) μ:=I.next ((Ag.refl _ _).put (by decide)) (SetAt.refl _ _)
  obtain ⟨σ1,μ1,r1,a1,s1,p1,w1,km1,mM1,hk1⟩:=inner_body (n:=n+m+1) (j:=m) I0 (by kt_len) (look_same ..) (by kt_ors;exact h1) (by kt_ors;exact h2) mM (by kt_len) hok hlen hs ho
  obtain ⟨σ2,μ2,r2,a2,s2,km2,mM2,hk2⟩:=inner_loop hok hlen hs ho m km1 σ1 μ1 _ (by kt_len) (I0.next a1 s1) p1 w1 mM1 (by kt_len)
  refine ⟨σ2,μ2,?_,(((Ag.refl _ _).put (by decide)).trans a1).trans a2,s1.trans s2,km2,?_,by kt_len⟩
  ·rw [show n+(m+1)+81=(n+m+81)+1 by kt_len,lp_int sk_place]
   rw [show n+m+81=n+m+1+80 by kt_len,r1,Option.bind_some]
   rw [show n+m+1+80=n+m+81 by kt_len]
   exact r2
  ·rw [mM2]
   simp only [mvs,List.map_append,List.append_assoc]
end
section
noncomputable def rgA:Expr→List Expr
 | .Call _ as _ _=>as
 | _=>[]
theorem stepIt_range {r:Rec}{x:Expr}{kd:List (Str × NameKind)}{σ:Sig}{μ:Mu}{as:List Expr}{vs:List AV}{a b c:Int}(h:isRangeE x=some as)(hg:isGlob (kindIn kd [114,97,110,103,101])=true)(h1:r.Es as ⟨kd,σ,μ⟩=some (vs,⟨kd,σ,μ⟩))(h2:rangeOf vs=some (a,b,c))(h3:(Builtin.Range.small a b c&&small c)=true) :
  stepIt r x ⟨kd,σ,μ⟩=some (.vals (rng a (Builtin.Range.rangeSize a b c) c),⟨kd,σ,μ⟩):=by
 unfold stepIt
 rw [h]
 dsimp only
 rw [if_pos hg,h1,Option.bind_some]
 dsimp only
 rw [h2,Option.bind_some]
 dsimp only
 rw [if_pos h3]
theorem for_range {n:Nat}{x:Str}{p q:Pos}{e:Stmt}{σ:Sig}{μ:Mu}{vs:List AV}{a b c:Int}(he:e=.For (.Name x p) (forI e) (forB e) [] q)(hr:isRangeE (forI e)=some (rgA (forI e)))(h1:(run FT n).Es (rgA (forI e)) ⟨kdL,σ,μ⟩=some (vs,⟨kdL,σ,μ⟩))(h2:rangeOf vs=some (a,b,c))(h3:(Builtin.Range.small a b c&&small c)=true) :
  (run FT (n+1)).S e ⟨kdL,σ,μ⟩=(run FT n).Lp (.Name x p) (.vals (rng a (Builtin.Range.rangeSize a b c) c)) (forB e) ⟨kdL,σ,μ⟩:=by
 conv=>lhs;rw [he]
 rw [sFor,stepIt_range hr (by kernel_rfl!) h1 h2 h3];rfl
theorem rng_up (m:Nat):rng 0 (m:Int) 1=(List.range m).map fun (j:Nat)=>AV.int (j:Int):=by
 unfold rng
 rw [Int.toNat_natCast]
 congr 1
 funext k
 simp
theorem rng_down (m:Nat):rng ((m:Int) - 1) (m:Int) (-1)=(List.range m).reverse.map fun (j:Nat)=>AV.int (j:Int):=by
 unfold rng
 rw [Int.toNat_natCast]
 apply List.ext_getElem
 ·simp
 ·intro i h1 h2
  simp at h1 h2
  simp
  kt_len
theorem size_up (m:Nat):Builtin.Range.rangeSize 0 (m:Int) 1=m:=by
 unfold Builtin.Range.rangeSize
 rw [if_pos (by decide)]
 split <;> kt_len
theorem size_down (m:Nat):Builtin.Range.rangeSize ((m:Int) - 1) (-1) (-1)=m:=by
 unfold Builtin.Range.rangeSize
 rw [if_neg (by decide)]
 split
 ·rw [show (-(-1):Int)=1 by decide,Int.ediv_one];kt_len
 ·kt_len
theorem prOf_pc (ps:List Pc):prOf (ps.map pcV)=some (ps.map fun p=>(pcA p,pcB p)):=by
 induction ps with
 | nil=>rfl
 | cons p l ih=>
  show (prOf (l.map pcV)).map _=_
  rw [ih];rfl
theorem flat_pc (ps:List Pc):((ps.map fun p=>(pcA p,pcB p)).map fun p=>p.1++p.2).flatten=flatP ps:=by
 rw [List.map_map];rfl
theorem sum_pc (ps:List Pc):((ps.map fun p=>(pcA p,pcB p)).map prLen).sum=(flatP ps).length:=by
 induction ps with
 | nil=>rfl
 | cons p l ih=>
  simp only [List.map_cons,List.sum_cons,flatP_cons,List.length_append,ih]
  simp only [prLen,pcS,List.length_append]
section
variable {n:Nat}{σ:Sig}{μ:Mu}{s q kq m k1:Nat}{QS TS:List AV}{ps:List Pc}{f:Int}{t:List Nat}
theorem sb0 (h1:look σ (N "piles")=some (.ref 2))(h2:look σ (N "s")=some (.int (s:Int)))(m2:∃ QS k,μ[2]?=some (.list QS k)∧QS[s]?=some (.ref q))(mq:∃ kq,μ[q]?=some (.acc (ps.map pcV) kq f))(hs:s < 1000)(hok:∀ p∈ps,PcOk p)(hlen:ps.length≤90) :
  (run FT (n+20)).S (sb 0) ⟨kdL,σ,μ⟩=some (.next,⟨kdL,put (put σ (N "worth") (.int 0)) (N "text") (.str (flatP ps)),μ⟩):=by
 refine x2_1 m2 fun QS k2 m2 qs=>?_
 refine x1_0 mq fun kq mq=>?_
 have hG:=flatP_len ps hok
 have g1:getA μ (.ref 2) (.int (s:Int))=some (.ref q):=getA_list m2 qs (by kt_len)
 have g2:∀ r σ,prim FT r (nm (Str.ofString "str")) [.ref q] ⟨kdL,σ,μ⟩=some (.str (flatP ps),⟨kdL,σ,μ⟩):=fun r σ=>by
  rw [pStrA mq (prOf_pc ps) (by rw [flat_pc];kt_len),flat_pc]
 conv in sb 0=>whnf
 rw [sAsTup1 [Str.ofString "text",Str.ofString "worth"] rfl (by kernel_rfl!)]
 simp only [QC,eConst,eTup,esNil,Option.bind_some,Option.map_some,List.all_cons,List.all_nil,Bool.and_true,List.length_cons,List.length_nil,ite_true,gq4,QD, *]
 rfl
theorem sb1 (h1:look σ (N "text")=some (.str t))(ht:t.length < 100000):(run FT (n+20)).S (sb 1) ⟨kdL,σ,μ⟩=some (.next,⟨kdL,put σ (N "spot") (.int t.length),μ⟩):=by
 have g1:∀ r st,prim FT r (nm (Str.ofString "len")) [.str t] st=some (.int t.length,st):=fun r st=>pLenS (strOk_of ht)
 conv in sb 1=>whnf
 simp only [QC,esNil,Option.bind_some,Option.map_some,List.all_cons,List.all_nil,Bool.and_true, *]
theorem sb2_for:∃ p q,sb 2=.For (.Name (Str.ofString "place") p) (forI (sb 2)) (forB (sb 2)) [] q:=⟨_,_,rfl⟩
theorem tb1_for:∃ p q,tb 1=.For (.Name (Str.ofString "s") p) (forI (tb 1)) (forB (tb 1)) [] q:=⟨_,_,rfl⟩
theorem sb2_args (h1:look σ (N "texts")=some (.ref 1))(h2:look σ (N "s")=some (.int (s:Int)))(m1:∃ TS k1,μ[1]?=some (.list TS k1)∧TS[s]?=some (.str t))(ht:t.length < 100000)(hs:s < 1000) :
  (run FT (n+20)).Es (rgA (forI (sb 2))) ⟨kdL,σ,μ⟩=some ([.int ((t.length:Int) - 1),.int (-1),.int (-1)],⟨kdL,σ,μ⟩):=by
 refine x2_1 m1 fun TS k1 m1 ts=>?_
 have g1:getA μ (.ref 1) (.int (s:Int))=some (.str t):=getA_list m1 ts (by kt_len)
 have g2:∀ r st,prim FT r (nm (Str.ofString "len")) [.str t] st=some (.int t.length,st):=fun r st=>pLenS (strOk_of ht)
 conv in rgA (forI (sb 2))=>whnf
 simp only [QC,eConst,eBin,eUSub,esNil,Option.bind_some,Option.map_some,List.all_cons,List.all_nil,Bool.and_true,gq4,sub_i, *]
end
end
section
theorem fits_small {i:Int}(h:i.natAbs < 1000000):Builtin.Range.rangeFitsLong i=true:=by
 unfold Builtin.Range.rangeFitsLong
 simp;kt_len
theorem small_down {m:Nat}(h:m < 1000):(Builtin.Range.small ((m:Int) - 1) (-1) (-1)&&small (-1))=true:=by
 unfold Builtin.Range.small
 rw [size_down,fits_small (by kt_len),fits_small (by decide),fits_small (by kt_len),if_neg (by decide),fits_small (by decide)]
 simp;decide
theorem small_up {m:Nat}(h:m < 1000):(Builtin.Range.small 0 (m:Int) 1&&small 1)=true:=by
 unfold Builtin.Range.small
 rw [size_up,fits_small (by kt_len),fits_small (by kt_len),fits_small (by decide),if_pos (by decide),fits_small (by kt_len)]
 simp;decide
structure GSt (f:Int)(nl:List AV)(ps:Nat→List Pc)(K Q:Nat→Nat)(σ:Sig)(μ:Mu):Prop where
 numbers:look σ (N "numbers")=some (.ref 0)
 first:look σ (N "first")=some (.int f)
 texts:look σ (N "texts")=some (.ref 1)
 piles:look σ (N "piles")=some (.ref 2)
 stalks:look σ (N "stalks")=some (.ref 3)
 m0:∃ k,μ[0]?=some (.list nl k)
 m1:∃ k,μ[1]?=some (.list [.str (txt (ps 0)),.str (txt (ps 1)),.str (txt (ps 2))] k)
 m2:∃ k,μ[2]?=some (.list [.ref (Q 0),.ref (Q 1),.ref (Q 2)] k)
 m3:∃ k,μ[3]?=some (.list [.ref (K 0),.ref (K 1),.ref (K 2)] k)
 mK:∀ s,s < 3→∃ k,μ[K s]?=some (.list ((ps s).map pcV) k)
 mQ:∀ s,s < 3→∃ k,μ[Q s]?=some (.acc ((ps s).map pcV) k f)
 inj:∀ s s',s < 3→s' < 3→s≠s'→Q s≠Q s'
 K3:∀ s,s < 3→3 < K s
 ok:∀ s,s < 3→∀ p∈ps s,PcOk p
 len:∀ s,s < 3→(ps s).length≤4
theorem get_lt {μ:Mu}{i:Nat}{o:AObj}(h:μ[i]?=some o):i < μ.length:=(List.getElem?_eq_some_iff.1 h).1
noncomputable def tWs:List String:=["own","moves","s","text","worth","spot","place","blanks","part","found","weight","choice","told","turn"]
noncomputable def Ext (m:Nat)(μ μ':Mu):Prop:=∀ i,i < m→μ'[i]?=μ[i]?
section
variable {n s M:Nat}{f:Int}{nl:List AV}{ps:Nat→List Pc}{K Q:Nat→Nat}{σ σ':Sig}{μ μ':Mu}
theorem GSt.lt (G:GSt f nl ps K Q σ μ):3 < μ.length∧(∀ s,s < 3→K s < μ.length)∧∀ s,s < 3→Q s < μ.length:=
 ⟨Nat.lt_trans (G.K3 0 (by decide)) (let ⟨k,h⟩:=G.mK 0 (by decide);get_lt h),fun s hs=>let ⟨k,h⟩:=G.mK s hs;get_lt h,fun s hs=>let ⟨k,h⟩:=G.mQ s hs;get_lt h⟩
theorem GSt.next {m:Nat}(G:GSt f nl ps K Q σ μ)(h:Ag tWs σ σ')(he:Ext m μ μ')(hm:μ.length≤m):GSt f nl ps K Q σ' μ' where
 numbers:=(h _ (by decide)).trans G.numbers
 first:=(h _ (by decide)).trans G.first
 texts:=(h _ (by decide)).trans G.texts
 piles:=(h _ (by decide)).trans G.piles
 stalks:=(h _ (by decide)).trans G.stalks
 m0:=let ⟨k,e⟩:=G.m0;⟨k,(he _ (Nat.lt_of_lt_of_le (get_lt e) hm)).trans e⟩
 m1:=let ⟨k,e⟩:=G.m1;⟨k,(he _ (Nat.lt_of_lt_of_le (get_lt e) hm)).trans e⟩
 m2:=let ⟨k,e⟩:=G.m2;⟨k,(he _ (Nat.lt_of_lt_of_le (get_lt e) hm)).trans e⟩
 m3:=let ⟨k,e⟩:=G.m3;⟨k,(he _ (Nat.lt_of_lt_of_le (get_lt e) hm)).trans e⟩
 mK:=fun s hs=>let ⟨k,e⟩:=G.mK s hs;⟨k,(he _ (Nat.lt_of_lt_of_le (get_lt e) hm)).trans e⟩
 mQ:=fun s hs=>let ⟨k,e⟩:=G.mQ s hs;⟨k,(he _ (Nat.lt_of_lt_of_le (get_lt e) hm)).trans e⟩
 inj:=G.inj
 K3:=G.K3
 ok:=G.ok
 len:=G.len
theorem three {α:Type}(g:Nat→α){s:Nat}(hs:s < 3):[g 0,g 1,g 2][s]?=some (g s):=by
 refine ltn3 hs ?_ ?_ ?_ <;> rfl
noncomputable def sWs:List String:=["s","text","worth","spot","place","blanks","part","found","weight"]
theorem sbody {o km:Nat}{mv:List AV}(G0:GSt f nl ps K Q σ μ){σ₁:Sig}{μ₁:Mu}(G:GSt f nl ps K Q σ₁ μ₁)(hM:μ.length=M)(hs:s < 3)(hsv:look σ₁ (N "s")=some (.int (s:Int)))(ho:look σ₁ (N "own")=some (.str [o]))(hm:look σ₁ (N "moves")=some (.ref M))(mM:μ₁[M]?=some (.list mv km))(hk:km < 900)(hoo:o=104∨o=112) :
  ∃ σ' μ',(run FT (n+110)).SS (forB (tb 1)) ⟨kdL,σ₁,μ₁⟩=some (.next,⟨kdL,σ',μ'⟩)∧Ag sWs σ₁ σ'∧SetAt M μ₁ μ'∧∃ km',μ'[M]?=some (.list (mv++(mvs o s (ps s) (ps s).length).map mvV) km')∧km'≤km+4:=by
 have hok:=G.ok s hs
 have hlen:=G.len s hs
 have hG:=flatP_len (ps s) hok
 refine x0_2 (G0.lt) fun lt3 ltK ltQ=>?_
 have m2:∃ QS k,μ₁[2]?=some (.list QS k)∧QS[s]?=some (.ref (Q s)):=let ⟨k,e⟩:=G.m2;⟨_,k,e,three (fun s=>AV.ref (Q s)) hs⟩
 have m1:∃ QS k,μ₁[1]?=some (.list QS k)∧QS[s]?=some (.str (txt (ps s))):=let ⟨k,e⟩:=G.m1;⟨_,k,e,three (fun s=>AV.str (txt (ps s))) hs⟩
 have m3:∃ QS k,μ₁[3]?=some (.list QS k)∧QS[s]?=some (.ref (K s)):=let ⟨k,e⟩:=G.m3;⟨_,k,e,three (fun s=>AV.ref (K s)) hs⟩
 have htl:(txt (ps s)).length=(ps s).length:=by simp [txt]
 rw [sbs]
 refine en (sb0 G.piles hsv m2 (G.mQ s hs) (by kt_len) hok (by kt_len)) ?_
 refine en (sb1 (t:=flatP (ps s)) (by kt_ors) (by kt_len)) ?_
 refine x2_0 sb2_for fun p q he=>?_
 have hA:Ag sWs σ₁ (put (put (put σ₁ (N "worth") (.int 0)) (N "text") (.str (flatP (ps s)))) (N "spot") (.int (flatP (ps s)).length)):=(((Ag.refl _ _).put (by decide)).put (by decide)).put (by decide)
 have hArg:=sb2_args (n:=n+86) (σ:=put (put (put σ₁ (N "worth") (.int 0)) (N "text") (.str (flatP (ps s)))) (N "spot") (.int (flatP (ps s)).length)) (μ:=μ₁) (s:=s) (t:=txt (ps s)) ((hA _ (by decide)).trans G.texts) (by kt_ors;exact hsv) m1 (by kt_len) (by kt_len)
 have I:InL o s M (K s) (ps s) (put (put (put σ₁ (N "worth") (.int 0)) (N "text") (.str (flatP (ps s)))) (N "spot") (.int (flatP (ps s)).length)) μ₁:=
  ⟨(hA _ (by decide)).trans G.stalks,by kt_ors;exact hsv,(hA _ (by decide)).trans G.texts,(hA _ (by decide)).trans ho,by kt_ors,(hA _ (by decide)).trans hm,m3,G.mK s hs,m1,by kt_len,by have:=ltK s hs;kt_len,by kt_len⟩
 obtain ⟨σ',μ',r,a,st,km',e,hk'⟩:=inner_loop (n:=n+25 - (ps s).length) (p:=p) hok (by kt_len) (by kt_len) hoo (ps s).length km _ μ₁ mv (Nat.le_refl _) I (by rw [List.take_length];kt_ors) (by rw [List.drop_length];kt_ors) mM (by kt_len)
 have hfor:=for_range (n:=n+106) (vs:=[.int (((txt (ps s)).length:Int) - 1),.int (-1),.int (-1)]) (a:=((txt (ps s)).length:Int) - 1) (b:=-1) (c:=-1) he (by kernel_rfl!) hArg rfl (small_down (by kt_len))
 rw [size_down,rng_down,htl] at hfor
 rw [show n+25 - (ps s).length+(ps s).length+81=n+106 from nsl (by kt_len) rfl] at r
 refine en (hfor.trans r) ?_
 exact ⟨σ',μ',rfl,hA.trans (a.mono (by decide)),st,km',e,by kt_len⟩
end
end
section
noncomputable def ownC (m:Nat):Nat:=if m=0 then 104 else 112
theorem ownC_or (m:Nat):ownC m=104∨ownC m=112:=by unfold ownC;split <;> simp
noncomputable def mvAll (o:Nat)(ps:Nat→List Pc):List (Int × Nat × Nat):=mvs o 0 (ps 0) (ps 0).length++mvs o 1 (ps 1) (ps 1).length++mvs o 2 (ps 2) (ps 2).length
section
variable {n m M:Nat}{f:Int}{nl:List AV}{ps:Nat→List Pc}{K Q:Nat→Nat}{σ σ':Sig}{μ μ':Mu}
theorem tb0 (h1:look σ (N "mover")=some (.int (m:Int)))(hm:m < 2):(run FT (n+20)).S (tb 0) ⟨kdL,σ,μ⟩=some (.next,⟨kdL,put (put σ (N "moves") (.ref μ.length)) (N "own") (.str [ownC m]),μ++[.list [] 0]⟩):=by
 have g1:getA μ (.str [104,112]) (.int (m:Int))=some (.str [ownC m]):=getA_str (by
  match m,hm with
  | 0,_=>rfl
  | 1,_=>rfl) (by kt_len)
 conv in tb 0=>whnf
 rw [sAsTup1 [Str.ofString "own",Str.ofString "moves"] rfl (by kernel_rfl!)]
 simp only [QC,eConst,eTup,eList,esNil,alloc_eq,Option.bind_some,Option.map_some,List.all_cons,List.all_nil,Bool.and_true,List.length_cons,List.length_nil,ite_true,gq5,QD,cHp, *]
 rfl
theorem tb1_args:(run FT (n+20)).Es (rgA (forI (tb 1))) ⟨kdL,σ,μ⟩=some ([.int 3],⟨kdL,σ,μ⟩):=by kernel_rfl!
theorem SetAt.ext {M:Nat}{μ μ':Mu}(h:SetAt M μ μ'):Ext M μ μ':=fun i hi=>h.2 i (Nat.ne_of_lt hi)
theorem Ext.trans {m:Nat}{μ μ' μ'':Mu}(h:Ext m μ μ')(h':Ext m μ' μ''):Ext m μ μ'':=fun i hi=>(h' i hi).trans (h i hi)
theorem Ext.app (μ:Mu)(l:List AObj):Ext μ.length μ (μ++l):=fun i hi=>List.getElem?_append_left hi
theorem tb1_step {n s o km:Nat}{mv:List AV}{σ₂:Sig}{μ₂:Mu}(G:GSt f nl ps K Q σ μ)(hM:μ.length=M)(hs:s < 3)(a:Ag tWs σ σ₂)(x:Ext M μ μ₂)(ho:look σ₂ (N "own")=some (.str [o]))(hm:look σ₂ (N "moves")=some (.ref M))(e:μ₂[M]?=some (.list mv km))(hk:km < 900)(hoo:o=104∨o=112) :
  ∃ σ' μ',(run FT (n+110)).SS (forB (tb 1)) ⟨kdL,put σ₂ (N "s") (.int (s:Int)),μ₂⟩=some (.next,⟨kdL,σ',μ'⟩)∧Ag tWs σ σ'∧Ag sWs σ₂ σ'∧SetAt M μ₂ μ'∧Ext M μ μ'∧look σ' (N "own")=some (.str [o])∧look σ' (N "moves")=some (.ref M)∧∃ km',μ'[M]?=some (.list (mv++(mvs o s (ps s) (ps s).length).map mvV) km')∧km'≤km+4:=by
 have a0:Ag sWs σ₂ (put σ₂ (N "s") (.int (s:Int))):=(Ag.refl _ _).put (by decide)
 have a':Ag tWs σ (put σ₂ (N "s") (.int (s:Int))):=a.put (by decide)
 refine x2_3 (sbody (n:=n) G (G.next a' x (Nat.le_of_eq hM)) hM hs (look_same ..) ((a0 _ (by decide)).trans ho) ((a0 _ (by decide)).trans hm) e hk hoo) fun σ' μ' r b st e'=>?_
 have b':=a0.trans b
 exact ⟨σ',μ',r,a'.trans (b.mono (by decide)),b',st,x.trans st.ext,(b' _ (by decide)).trans ho,(b' _ (by decide)).trans hm,e'⟩
theorem tb1_ok {σ₁:Sig}{μ₁:Mu}(G:GSt f nl ps K Q σ μ)(hM:μ.length=M)(a:Ag tWs σ σ₁)(x:Ext M μ μ₁){o:Nat}(ho:look σ₁ (N "own")=some (.str [o]))(hm:look σ₁ (N "moves")=some (.ref M))(mM:μ₁[M]?=some (.list [] 0))(hoo:o=104∨o=112) :
  ∃ σ' μ' km,(run FT (n+130)).S (tb 1) ⟨kdL,σ₁,μ₁⟩=some (.next,⟨kdL,σ',μ'⟩)∧Ag sWs σ₁ σ'∧SetAt M μ₁ μ'∧μ'[M]?=some (.list ((mvAll o ps).map mvV) km):=by
 refine x2_0 tb1_for fun p q he=>?_
 have hfor:=for_range (n:=n+129) (vs:=[.int 3]) (a:=0) (b:=3) (c:=1) (σ:=σ₁) (μ:=μ₁) he (by kernel_rfl!) (tb1_args (n:=n+109)) rfl (small_up (m:=3) (by decide))
 have hr:rng 0 (Builtin.Range.rangeSize 0 3 1) 1=[.int ((0:Nat):Int),.int ((1:Nat):Int),.int ((2:Nat):Int)]:=by kernel_rfl!
 rw [hr] at hfor
 obtain ⟨σ2,μ2,r2,a2,b2,st2,x2,o2,m2,k2,e2,l2⟩:=tb1_step (n:=n+18) (s:=0) G hM (by decide) a x ho hm mM (by decide) hoo
 obtain ⟨σ3,μ3,r3,a3,b3,st3,x3,o3,m3,k3,e3,l3⟩:=tb1_step (n:=n+17) (s:=1) G hM (by decide) a2 x2 o2 m2 e2 (by kt_len) hoo
 obtain ⟨σ4,μ4,r4,a4,b4,st4,x4,o4,m4,k4,e4,l4⟩:=tb1_step (n:=n+16) (s:=2) G hM (by decide) a3 x3 o3 m3 e3 (by kt_len) hoo
 refine ⟨σ4,μ4,k4,?_,(b2.trans b3).trans b4,(st2.trans st3).trans st4,?_⟩
 ·rw [hfor,lp_int sk_s,r2,Option.bind_some]
  show (run FT (n+127+1)).Lp _ _ _ _=_
  rw [lp_int sk_s,r3,Option.bind_some]
  show (run FT (n+126+1)).Lp _ _ _ _=_
  rw [lp_int sk_s,r4,Option.bind_some]
  rfl
 ·rw [e4]
  simp only [mvAll,List.nil_append,List.map_append,List.append_assoc]
end
end
section
noncomputable def ifA:Stmt→List Stmt
 | .If _ a _ _=>a
 | _=>[]
noncomputable def ifT:Stmt→Expr
 | .If t _ _ _=>t
 | _=>.Constant .none 0 ⟨0,0,0,0⟩
noncomputable def fb (i:Nat):Stmt:=(ifA (tb 2)).getD i (.Pass ⟨0,0,0,0⟩)
theorem fbs:ifA (tb 2)=[fb 0,fb 1]:=by kernel_rfl!
theorem tb2_if:∃ p,tb 2=.If (ifT (tb 2)) (ifA (tb 2)) [] p:=⟨_,rfl⟩
theorem fb0_for:∃ p q,fb 0=.For (.Name (Str.ofString "s") p) (forI (fb 0)) (forB (fb 0)) [] q:=⟨_,_,rfl⟩
theorem eq_refs {μ:Mu}{i j k k':Nat}{a b:List AV}(hij:i≠j)(hi:μ[i]?=some (.list a k))(hj:μ[j]?=some (.list b k')):eqV μ (.ref i) (.ref j)=if a.length==b.length then alls eq1 a b else some false:=by
 have:(i==j)=false:=beq_eq_false_iff_ne.2 hij
 show (if i==j then _ else (asL μ[i]?).bind fun a=>(asL μ[j]?).bind fun b=>if a.length==b.length then alls eq1 a b else some false)=_
 rw [this,hi,hj];rfl
theorem eq_pc (ps:List Pc):alls eq1 (ps.map pcV) (ps.map pcV)=some true:=by
 induction ps with
 | nil=>rfl
 | cons p l ih=>
  have:eq1 (pcV p) (pcV p)=some true:=by
   show some ((_==_)&&((_==_)&&true))=_
   simp only [beq_self_eq_true,Bool.and_self]
  show (eq1 _ _).bind _=_
  rw [this]
  show (alls eq1 _ _).map _=_
  rw [ih];rfl
theorem app_get {μ:Mu}{i:Nat}{o:AObj}{l:List AObj}(h:μ[i]?=some o):(μ++l)[i]?=some o:=by
 rw [List.getElem?_append_left (get_lt h)];exact h
theorem app_new {μ:Mu}{o:AObj}{l:List AObj}:(μ++o::l)[μ.length]?=some o:=by
 rw [List.getElem?_append_right (Nat.le_refl _)];simp
section
variable {n m M km:Nat}{f:Int}{nl:List AV}{ps:Nat→List Pc}{K Q:Nat→Nat}{σ σ':Sig}{μ μ':Mu}{mv:List AV}
theorem tb2_test (hm:look σ (N "moves")=some (.ref M))(mM:μ[M]?=some (.list mv km)):(run FT (n+20)).T (ifT (tb 2)) ⟨kdL,σ,μ⟩=some (mv.length==0,⟨kdL,σ,μ++[.list [] 0]⟩):=by
 have g1:eqV (μ++[.list [] 0]) (.ref M) (.ref μ.length)=some (mv.length==0):=by
  rw [eq_refs (Nat.ne_of_lt (get_lt mM)) (app_get mM) app_new]
  cases mv with
  | nil=>rfl
  | cons x l=>rfl
 have g2:cmpA (μ++[.list [] 0]) .Eq (.ref M) (.ref μ.length)=some (.bool (mv.length==0)):=by
  show (eqV _ _ _).map _=_
  rw [g1];rfl
 conv in ifT (tb 2)=>whnf
 simp only [QC,eList,esNil,alloc_eq,Option.bind_some,Option.map_some,List.length_nil,ite_true,QD,tru_b, *]
theorem tb2_go (hm:look σ (N "moves")=some (.ref M))(mM:μ[M]?=some (.list mv km))(hb:mv≠[]):(run FT (n+21)).S (tb 2) ⟨kdL,σ,μ⟩=some (.next,⟨kdL,σ,μ++[.list [] 0]⟩):=by
 refine x1_0 tb2_if fun p e=>?_
 rw [e,sIf]
 rw [tb2_test hm mM,Option.bind_some]
 have:(mv.length==0)=false:=by cases mv with
  | nil=>exact absurd rfl hb
  | cons x l=>rfl
 rw [this];rfl
theorem fb0_args:(run FT (n+20)).Es (rgA (forI (fb 0))) ⟨kdL,σ,μ⟩=some ([.int 3],⟨kdL,σ,μ⟩):=by kernel_rfl!
theorem fbody {s q k kk kq:Nat}{ps:List Pc}(h1:look σ (N "piles")=some (.ref 2))(h2:look σ (N "stalks")=some (.ref 3))(h3:look σ (N "s")=some (.int (s:Int)))(m2:∃ L k,μ[2]?=some (.list L k)∧L[s]?=some (.ref q))(m3:∃ L k,μ[3]?=some (.list L k)∧L[s]?=some (.ref k'))
  (mq:μ[q]?=some (.acc (ps.map pcV) kq f)) (mk:μ[k']?=some (.list (ps.map pcV) kk)) (hl:ps.length≤4) (hs:s < 1000) :
  ∃ μ',(run FT (n+30)).SS (forB (fb 0)) ⟨kdL,σ,μ⟩=some (.next,⟨kdL,σ,μ'⟩)∧(∀ i,i≠q→i < μ.length→μ'[i]?=μ[i]?)∧μ.length≤μ'.length:=by
 obtain ⟨L2,k2,m2,l2⟩:=m2
 obtain ⟨L3,k3,m3,l3⟩:=m3
 have hq:q < μ.length:=get_lt mq
 have hkl:k' < μ.length:=get_lt mk
 have n2:q≠2:=by rintro rfl;rw [mq] at m2;cases m2
 have n3:q≠3:=by rintro rfl;rw [mq] at m3;cases m3
 have nk:q≠k':=by rintro rfl;rw [mq] at mk;cases mk
 have g1:getA μ (.ref 2) (.int (s:Int))=some (.ref q):=getA_list m2 l2 (by kt_len)
 have p1:meth (.ref q) (nm (Str.ofString "pop_from")) [.int 4] ⟨kdL,σ,μ⟩=_:=@mPop q (ps.map pcV) kq 4 f kdL σ μ mq
 have kk1:kindOk μ μ (.ref q)=true:=kindS mq
 rw [List.take_of_length_le (by simpa using hl),List.drop_of_length_le (by simpa using hl)] at p1
 generalize hμ1:μ.set q (.acc (ps.map pcV) kq f)++[.list [] kq]=μ1 at p1
 have z1:μ1.length=μ.length+1:=by rw [← hμ1];simp
 have o1:∀ i,i≠q→i < μ.length→μ1[i]?=μ[i]?:=fun i hi hl=>by
  rw [← hμ1,List.getElem?_append_left (by simpa using hl),List.getElem?_set_ne (Ne.symm hi)]
 have q1:μ1[q]?=some (.acc (ps.map pcV) kq f):=by rw [← hμ1];exact app_get (get_set mq)
 have w1:μ1[μ.length]?=some (.list [] kq):=by
  rw [← hμ1,List.getElem?_append_right (by simp)];simp
 have p2:eqV (μ1++[.list [] 0]) (.ref μ.length) (.ref μ1.length)=some true:=by
  rw [eq_refs (by kt_len) (app_get w1) app_new];rfl
 have c2:cmpA (μ1++[.list [] 0]) .NotEq (.ref μ.length) (.ref μ1.length)=some (.bool false):=by
  show (eqV _ _ _).map _=_
  rw [p2];rfl
 generalize hμ2:μ1++[.list [] 0]=μ2 at c2
 have z2:μ2.length=μ.length+2:=by rw [← hμ2];simp [z1]
 have o2:∀ i,i≠q→i < μ.length→μ2[i]?=μ[i]?:=fun i hi hl=>by
  rw [← hμ2,List.getElem?_append_left (by kt_len)];exact o1 i hi hl
 have q2:μ2[q]?=some (.acc (ps.map pcV) kq f):=by rw [← hμ2];exact app_get q1
 have g2:getA μ2 (.ref 2) (.int (s:Int))=some (.ref q):=getA_list ((o2 2 (Ne.symm n2) (get_lt m2)).trans m2) l2 (by kt_len)
 have kk2:kindOk μ2 μ2 (.ref q)=true:=kindS q2
 have p3:=@mPop0 q (ps.map pcV) kq f kdL σ μ2 q2
 generalize hμ3:μ2.set q (.acc [] kq f)++[.list (ps.map pcV) kq]=μ3 at p3
 have o3:∀ i,i≠q→i < μ.length→μ3[i]?=μ[i]?:=fun i hi hl=>by
  rw [← hμ3,List.getElem?_append_left (by simp;kt_len),List.getElem?_set_ne (Ne.symm hi)];exact o2 i hi hl
 have w3:μ3[μ2.length]?=some (.list (ps.map pcV) kq):=by
  rw [← hμ3,List.getElem?_append_right (by simp)];simp
 have g3:getA μ3 (.ref 3) (.int (s:Int))=some (.ref k'):=getA_list ((o3 3 (Ne.symm n3) (get_lt m3)).trans m3) l3 (by kt_len)
 have p4:eqV μ3 (.ref μ2.length) (.ref k')=some true:=by
  rw [eq_refs (by kt_len) w3 ((o3 k' (Ne.symm nk) hkl).trans mk),if_pos (by simp),eq_pc]
 have c4:cmpA μ3 .NotEq (.ref μ2.length) (.ref k')=some (.bool false):=by
  show (eqV _ _ _).map _=_
  rw [p4];rfl
 refine ⟨μ3,?_,o3,by rw [← hμ3];simp;kt_len⟩
 clear hμ3
 clear o1 o2 o3 w1 w3 q1 q2 p2 p4 z1 z2 m2 m3 l2 l3 mq mk
 conv in forB (fb 0)=>whnf
 simp only [QC,eConst,eList,esNil,tBool,tsOne,tsCons,ssNil,ssCons,sRet,sIf,alloc_eq,Option.bind_some,Option.map_some,List.length_nil,ite_true,ite_false,Bool.false_eq_true,gq4,gq6,QM,QD,tru_b, *]
end
end
section
section
variable {n m M km:Nat}{f:Int}{nl:List AV}{ps:Nat→List Pc}{K Q:Nat→Nat}{σ σ':Sig}{μ μ':Mu}{mv:List AV}
structure FSt (f:Int)(ps:Nat→List Pc)(K Q:Nat→Nat)(s:Nat)(μ:Mu):Prop where
 m2:∃ k,μ[2]?=some (.list [.ref (Q 0),.ref (Q 1),.ref (Q 2)] k)
 m3:∃ k,μ[3]?=some (.list [.ref (K 0),.ref (K 1),.ref (K 2)] k)
 mK:∀ s,s < 3→∃ k,μ[K s]?=some (.list ((ps s).map pcV) k)
 mQ:∀ t,s≤t→t < 3→∃ k,μ[Q t]?=some (.acc ((ps t).map pcV) k f)
theorem fb0_step {s:Nat}(F:FSt f ps K Q s μ)(hs:s < 3)(inj:∀ s s',s < 3→s' < 3→s≠s'→Q s≠Q s')(hl:(ps s).length≤4)(h1:look σ (N "piles")=some (.ref 2))(h2:look σ (N "stalks")=some (.ref 3))(h3:look σ (N "s")=some (.int (s:Int))) :
  ∃ μ',(run FT (n+30)).SS (forB (fb 0)) ⟨kdL,σ,μ⟩=some (.next,⟨kdL,σ,μ'⟩)∧FSt f ps K Q (s+1) μ':=by
 refine x1_0 (F.mQ s (Nat.le_refl _) hs) fun kq mq=>?_
 refine x1_0 (F.mK s hs) fun kk mk=>?_
 refine x1_0 (F.m2) fun k2 m2=>?_
 refine x1_0 (F.m3) fun k3 m3=>?_
 refine x1_2 (fbody (k:=0) (n:=n) h1 h2 h3 ⟨_,_,m2,three (fun s=>AV.ref (Q s)) hs⟩ ⟨_,_,m3,three (fun s=>AV.ref (K s)) hs⟩ mq mk hl (by kt_len)) fun μ' r o z=>?_
 have nq:∀ (i:Nat) (l:List AV) (k:Nat),μ[i]?=some (AObj.list l k)→i≠Q s:=by rintro i l k e rfl;rw [mq] at e;cases e
 have keep:∀ (i:Nat) (l:List AV) (k:Nat),μ[i]?=some (AObj.list l k)→μ'[i]?=some (AObj.list l k):=fun i l k e=>(o i (nq i l k e) (get_lt e)).trans e
 refine ⟨μ',r,⟨k2,keep _ _ _ m2⟩,⟨k3,keep _ _ _ m3⟩,fun t ht=>let ⟨k,e⟩:=F.mK t ht;⟨k,keep _ _ _ e⟩,fun t ht ht'=>?_⟩
 ·refine x1_0 (F.mQ t (by kt_len) ht') fun k h=>?_
  exact ⟨k,(o _ (inj _ _ ht' hs (by kt_len)) (get_lt h)).trans h⟩
theorem fb1 {w:Nat}(h1:look σ (N "mover")=some (.int (m:Int)))(h2:look σ (N "winner")=some (.int (w:Int))):(run FT (n+20)).S (fb 1) ⟨kdL,σ,μ⟩=some (.ret (.bool (!((m:Int)==(w:Int)))),⟨kdL,σ,μ⟩):=by
 have g:cmpA μ .NotEq (.int (m:Int)) (.int (w:Int))=some (.bool (!((m:Int)==(w:Int)))):=rfl
 conv in fb 1=>whnf
 simp only [QC,sRet,Option.bind_some,Option.map_some, *]
theorem tb2_end {w:Nat}(G:GSt f nl ps K Q σ μ)(hm:look σ (N "moves")=some (.ref M))(mM:μ[M]?=some (.list [] km))(h1:look σ (N "mover")=some (.int (m:Int)))(h2:look σ (N "winner")=some (.int (w:Int))) :
  ∃ st',(run FT (n+60)).S (tb 2) ⟨kdL,σ,μ⟩=some (.ret (.bool (!((m:Int)==(w:Int)))),st'):=by
 refine x1_0 tb2_if fun p e=>?_
 have ht:=tb2_test (n:=n+39) hm mM
 have F:FSt f ps K Q 0 (μ++[.list [] 0]):=⟨let ⟨k,h⟩:=G.m2;⟨k,app_get h⟩,let ⟨k,h⟩:=G.m3;⟨k,app_get h⟩,fun s hs=>let ⟨k,h⟩:=G.mK s hs;⟨k,app_get h⟩,fun s _ hs=>let ⟨k,h⟩:=G.mQ s hs;⟨k,app_get h⟩⟩
 generalize hμ:μ++[AObj.list [] 0]=μ0 at ht F
 refine x2_0 fb0_for fun p' q' he=>?_
 have hfor:=for_range (n:=n+57) (vs:=[.int 3]) (a:=0) (b:=3) (c:=1) (σ:=σ) (μ:=μ0) he (by kernel_rfl!) (fb0_args (n:=n+37)) rfl (small_up (m:=3) (by decide))
 have hr:rng 0 (Builtin.Range.rangeSize 0 3 1) 1=[.int ((0:Nat):Int),.int ((1:Nat):Int),.int ((2:Nat):Int)]:=by kernel_rfl!
 rw [hr] at hfor
 have a:∀ (s:Nat) (σ1:Sig),Ag ["s"] σ σ1→Ag ["s"] σ (put σ1 (N "s") (.int (s:Int))):=fun s σ1 h=>h.put (by decide)
 refine x1_1 (fb0_step (n:=n+26) (σ:=put σ (N "s") (.int ((0:Nat):Int))) F (by decide) G.inj (G.len 0 (by decide)) ((a 0 σ (Ag.refl _ _) _ (by decide)).trans G.piles) ((a 0 σ (Ag.refl _ _) _ (by decide)).trans G.stalks) (look_same ..)) fun μ1 r1 F1=>?_
 refine x1_1 (fb0_step (n:=n+25) (σ:=put (put σ (N "s") (.int ((0:Nat):Int))) (N "s") (.int ((1:Nat):Int))) F1 (by decide) G.inj (G.len 1 (by decide)) ((a 1 _ (a 0 σ (Ag.refl _ _)) _ (by decide)).trans G.piles) ((a 1 _ (a 0 σ (Ag.refl _ _)) _ (by decide)).trans G.stalks) (look_same ..)) fun μ2 r2 F2=>?_
 refine x1_1 (fb0_step (n:=n+24) (σ:=put (put (put σ (N "s") (.int ((0:Nat):Int))) (N "s") (.int ((1:Nat):Int))) (N "s") (.int ((2:Nat):Int))) F2 (by decide) G.inj (G.len 2 (by decide)) ((a 2 _ (a 1 _ (a 0 σ (Ag.refl _ _))) _ (by decide)).trans G.piles) ((a 2 _ (a 1 _ (a 0 σ (Ag.refl _ _))) _ (by decide)).trans G.stalks) (look_same ..)) fun μ3 r3 F3=>?_
 have ag3:Ag ["s"] σ (put (put (put σ (N "s") (.int ((0:Nat):Int))) (N "s") (.int ((1:Nat):Int))) (N "s") (.int ((2:Nat):Int))):=a 2 _ (a 1 _ (a 0 σ (Ag.refl _ _)))
 refine ⟨⟨kdL,put (put (put σ (N "s") (.int ((0:Nat):Int))) (N "s") (.int ((1:Nat):Int))) (N "s") (.int ((2:Nat):Int)),μ3⟩,?_⟩
 rw [e,sIf]
 show ((run FT (n+39+20)).T _ _).bind _=_
 rw [ht,Option.bind_some]
 show (run FT (n+58+1)).SS (ifA (tb 2)) _=_
 rw [fbs]
 have hL:(run FT (n+57)).Lp (.Name (Str.ofString "s") p') (.vals [.int ((0:Nat):Int),.int ((1:Nat):Int),.int ((2:Nat):Int)]) (forB (fb 0)) ⟨kdL,σ,μ0⟩=some (.next,⟨kdL,put (put (put σ (N "s") (.int ((0:Nat):Int))) (N "s") (.int ((1:Nat):Int))) (N "s") (.int ((2:Nat):Int)),μ3⟩):=by
  show (run FT (n+56+1)).Lp _ _ _ _=_
  rw [lp_int sk_s,r1,Option.bind_some]
  show (run FT (n+55+1)).Lp _ _ _ _=_
  rw [lp_int sk_s,r2,Option.bind_some]
  show (run FT (n+54+1)).Lp _ _ _ _=_
  rw [lp_int sk_s,r3,Option.bind_some]
  rfl
 rw [ss_next (hfor.trans hL)]
 exact ss_ret (fb1 (n:=n+37) ((ag3 _ (by decide)).trans h1) ((ag3 _ (by decide)).trans h2))
end
end
section
theorem slice_l {μ:Mu}{j k i:Nat}{l:List AV}{σ:Sig}(h:μ[j]?=some (.list l k))(hi:i≤l.length):sliceA (.ref j) none (some (i:Int)) ⟨kdL,σ,μ⟩=some (.ref μ.length,⟨kdL,σ,μ++[.list (l.take i) k]⟩):=by
 show (match μ[j]? with | some (.list l kk)=>some (St.alloc ⟨kdL,σ,μ⟩ (.list (sliceL l none (some (i:Int))) kk)) | _=>Option.none)=_
 rw [h]
 show some (St.alloc _ _)=_
 rw [sliceL_take _ _ hi];rfl
theorem slice_l2 {μ:Mu}{j k i:Nat}{l:List AV}{σ:Sig}(h:μ[j]?=some (.list l k))(hi:i≤l.length):sliceA (.ref j) (some (i:Int)) none ⟨kdL,σ,μ⟩=some (.ref μ.length,⟨kdL,σ,μ++[.list (l.drop i) k]⟩):=by
 show (match μ[j]? with | some (.list l kk)=>some (St.alloc ⟨kdL,σ,μ⟩ (.list (sliceL l (some (i:Int)) none) kk)) | _=>Option.none)=_
 rw [h]
 show some (St.alloc _ _)=_
 rw [sliceL_drop _ _ hi];rfl
theorem set_item {μ:Mu}{j kk k:Nat}{l:List AV}{σ:Sig}{v:AV}(h:μ[j]?=some (.list l kk))(hk:k < l.length)(hk2:k < 100000) :
  (match (AV.ref j),(AV.int (k:Int)) with
  | .ref j,.int k=>
   match (⟨kdL,σ,μ⟩:St).μ[j]? with
   | some (.list l kk)=>if 0≤k∧k.toNat < l.length∧k < 100000 then some (AFlow.next,{(⟨kdL,σ,μ⟩:St) with μ:=(⟨kdL,σ,μ⟩:St).μ.set j (.list (l.set k.toNat v) kk)}) else Option.none
   | _=>Option.none
  | _,_=>Option.none)=some (AFlow.next,(⟨kdL,σ,μ.set j (.list (l.set k v) kk)⟩:St)):=by
 dsimp only
 rw [h]
 dsimp only
 rw [if_pos (by refine ⟨by kt_len,by simpa using hk,by kt_len⟩)]
 simp
noncomputable def kd8:List (Str × NameKind):=(fScope (pb 8)).names
theorem l8_a:locOk kd8 (Str.ofString "a")=true:=Eq.trans (by kernel_rfl!) (Eq.refl true)
theorem l8_b:locOk kd8 (Str.ofString "b")=true:=Eq.trans (by kernel_rfl!) (Eq.refl true)
theorem ps8:(mkUF (pb 8)).ps=[nm (Str.ofString "a"),nm (Str.ofString "b")]:=by kernel_rfl!
noncomputable def collI (x y:List Nat):Int:=(if decide (y < x)=true then 1 else 0) - (if decide (x < y)=true then 1 else 0)
theorem coll_run {n:Nat}{σ:Sig}{x y:List Nat}(h1:look σ (nm (Str.ofString "a"))=some (.str x))(h2:look σ (nm (Str.ofString "b"))=some (.str y)):(run FT (n+20)).SS (fBody (pb 8)) ⟨kd8,σ,[]⟩=some (.ret (.int (collI x y)),⟨kd8,σ,[]⟩):=by
 have g1:∀ μ,cmpA μ .Gt (.str x) (.str y)=some (.bool (decide (y < x))):=fun _=>rfl
 have g2:∀ μ,cmpA μ .Lt (.str x) (.str y)=some (.bool (decide (x < y))):=fun _=>rfl
 have g3:binA .Sub (.bool (decide (y < x))) (.bool (decide (x < y)))=some (.int (collI x y)):=rfl
 conv in fBody (pb 8)=>whnf
 simp only [QC,eBin,ssNil,ssCons,sRet,Option.bind_some,Option.map_some,l8_a,l8_b, *]
theorem pColl {n:Nat}{x y:List Nat}{st:St}:callUF (run FT (n+20)) (mkUF (pb 8)) [.str x,.str y] st=some (.int (collI x y),st):=
 callUF_ok (by rw [ps8];exact coll_run (n:=n) (by simp [look]) (by simp [look,nmS])) (by rw [ps8];rfl) rfl
theorem lt_app (l a b:List Nat):(l++a < l++b)↔a < b:=by
 induction l with
 | nil=>rfl
 | cons x l ih=>
  rw [List.cons_append,List.cons_append,List.cons_lt_cons_iff,ih]
  simp
theorem coll_m (l r:List Nat)(m:Nat)(hm:m < 2):collI (l++[109]) (l++ownC m::r++[109])=1 - 2*(m:Int):=by
 unfold collI
 have e:l++ownC m::r++[109]=l++(ownC m::(r++[109])):=by simp
 rw [e]
 have h1:(l++(ownC m::(r++[109])) < l++[109])↔(ownC m::(r++[109])) < [109]:=lt_app _ _ _
 have h2:(l++[109] < l++(ownC m::(r++[109])))↔[109] < (ownC m::(r++[109])):=lt_app _ _ _
 simp only [h1,h2]
 refine ltn2 hm ?_ ?_ <;> simp [ownC,List.cons_lt_cons_iff]
section
variable {n m M km t w:Nat}{f:Int}{nl:List AV}{ps:Nat→List Pc}{K Q:Nat→Nat}{σ σ':Sig}{μ μ':Mu}
theorem tb3_min {k:Nat}{x v:AV}{l:List AV}(h1:look σ (N "mover")=some (.int (m:Int)))(h2:look σ (N "winner")=some (.int (m:Int)))(h3:look σ (N "moves")=some (.ref M))(mM:μ[M]?=some (.list (x::l) k))(hv:minA x l=some v) :
  (run FT (n+20)).S (tb 3) ⟨kdL,σ,μ⟩=some (.next,⟨kdL,put σ (N "choice") v,μ⟩):=by
 have g1:cmpA μ .Eq (.int (m:Int)) (.int (m:Int))=some (.bool true):=by
  show some (AV.bool ((m:Int)==(m:Int)))=_
  simp
 have g2:∀ r σ,prim FT r (nm (Str.ofString "min")) [.ref M] ⟨kdL,σ,μ⟩=some (v,⟨kdL,σ,μ⟩):=fun r σ=>pMin mM hv
 conv in tb 3=>whnf
 simp only [QC,eConst,eBin,eIf,esNil,Option.bind_some,Option.map_some,List.all_cons,List.all_nil,Bool.and_true,ite_true,gq4,tru_b, *]
theorem tb3_any {k:Nat}{l:List AV}{y:Int}(h1:look σ (N "mover")=some (.int (m:Int)))(h2:look σ (N "winner")=some (.int (w:Int)))(hmw:m≠w)(h3:look σ (N "moves")=some (.ref M))(mM:μ[M]?=some (.list l k))(hl:l≠[])(hl2:l.length < 1000)(h4:look σ (N "numbers")=some (.ref 0))(m0:∃ k,μ[0]?=some (.list nl k))
  (h5:look σ (N "turn")=some (.int (t:Int))) (ht:t < 13) (hy:nl[7+t / 2]?=some (.int y)) :
  ∃ v,v∈l∧(run FT (n+20)).S (tb 3) ⟨kdL,σ,μ⟩=some (.next,⟨kdL,put σ (N "choice") v,μ⟩):=by
 refine x1_0 m0 fun k0 m0=>?_
 have hpos:0 < l.length:=by cases l with | nil=>exact absurd rfl hl | cons a l=>simp
 have hf:=fmod_pos y (b:=(l.length:Int)) (by kt_len)
 have hi:(y.fmod (l.length:Int)).toNat < l.length:=(Int.toNat_lt hf.1).2 hf.2
 have hc:y.fmod (l.length:Int)=(((y.fmod (l.length:Int)).toNat:Nat):Int):=(Int.toNat_of_nonneg hf.1).symm
 generalize hq:(y.fmod (l.length:Int)).toNat=q at hi hc
 refine ⟨l[q],List.getElem_mem hi,?_⟩
 have g1:cmpA μ .Eq (.int (m:Int)) (.int (w:Int))=some (.bool false):=by
  show some (AV.bool ((m:Int)==(w:Int)))=_
  rw [show ((m:Int)==(w:Int))=false from beq_eq_false_iff_ne.2 (by kt_len)]
 have g2:binA .FloorDiv (.int (t:Int)) (.int 2)=some (.int ((t / 2:Nat):Int)):=by
  show (if !((2:Int)==0)&&small 2 then some (AV.int ((t:Int).fdiv 2)) else none)=_
  rw [if_pos (by decide),Int.fdiv_eq_ediv_of_nonneg _ (by decide)]
  rfl
 have g3:(7:Int)+((t / 2:Nat):Int)=((7+t / 2:Nat):Int):=by kt_len
 have g4:getA μ (.ref 0) (.int ((7+t / 2:Nat):Int))=some (.int y):=getA_list m0 hy (by kt_len)
 have g5:binA .Mod (.int y) (.int (l.length:Int))=some (.int (q:Int)):=by
  show (if !((l.length:Int)==0) then some (AV.int (y.fmod (l.length:Int))) else none)=_
  rw [if_pos (by rw [beq_eq_false_iff_ne.2 (by kt_len)];rfl),hc]
 have g6:getA μ (.ref M) (.int (q:Int))=some l[q]:=getA_list mM (by simp [hi]) (by kt_len)
 have g7:∀ r σ,prim FT r (nm (Str.ofString "len")) [.ref M] ⟨kdL,σ,μ⟩=some (.int l.length,⟨kdL,σ,μ⟩):=fun r σ=>pLenL mM
 clear hc hf hq
 conv in tb 3=>whnf
 simp only [QC,eConst,eBin,eIf,esNil,Option.bind_some,Option.map_some,List.all_cons,List.all_nil,Bool.and_true,ite_false,Bool.false_eq_true,gq4,tru_b,add_i, *]
theorem tb4_ok {c:Int}{s j:Nat}(h1:look σ (N "choice")=some (mvV (c,s,j))):(run FT (n+20)).S (tb 4) ⟨kdL,σ,μ⟩=some (.next,⟨kdL,put (put (put σ (N "worth") (.int c)) (N "s") (.int (s:Int))) (N "place") (.int (j:Int)),μ⟩):=by
 simp only [mvV] at h1
 conv in tb 4=>whnf
 rw [sAsTup0 rfl (by kernel_rfl!)]
 simp only [QC,Option.bind_some,Option.map_some,gq1,gq2,gq3, *]
end
end
section
section
variable {n m M km t w s j q k':Nat}{f:Int}{nl:List AV}{ps:List Pc}{σ σ':Sig}{μ μ':Mu}
theorem tb5_ok {kq kk:Nat}(h1:look σ (N "piles")=some (.ref 2))(h2:look σ (N "stalks")=some (.ref 3))(h3:look σ (N "s")=some (.int (s:Int)))(h4:look σ (N "place")=some (.int (j:Int)))(m2:∃ L k,μ[2]?=some (.list L k)∧L[s]?=some (.ref q))(m3:∃ L k,μ[3]?=some (.list L k)∧L[s]?=some (.ref k'))
  (mq:μ[q]?=some (.acc (ps.map pcV) kq f)) (mk:μ[k']?=some (.list (ps.map pcV) kk)) (hj:j≤ps.length) (hs:s < 1000) :
  ∃ μ',(run FT (n+30)).S (tb 5) ⟨kdL,σ,μ⟩=some (.next,⟨kdL,σ,μ'⟩)∧μ'[q]?=some (.acc ((ps.take j).map pcV) kq f)∧(∀ i,i≠q→i < μ.length→μ'[i]?=μ[i]?)∧μ.length≤μ'.length:=by
 refine x2_1 m2 fun L2 k2 m2 l2=>?_
 refine x2_1 m3 fun L3 k3 m3 l3=>?_
 have hq:q < μ.length:=get_lt mq
 have hkl:k' < μ.length:=get_lt mk
 have n3:q≠3:=by rintro rfl;rw [mq] at m3;cases m3
 have nk:q≠k':=by rintro rfl;rw [mq] at mk;cases mk
 have g1:getA μ (.ref 2) (.int (s:Int))=some (.ref q):=getA_list m2 l2 (by kt_len)
 have p1:=@mPop q (ps.map pcV) kq j f kdL σ μ mq
 have kk1:kindOk μ μ (.ref q)=true:=kindS mq
 generalize hμ1:μ.set q (.acc ((ps.map pcV).take j) kq f)++[.list ((ps.map pcV).drop j) kq]=μ1 at p1
 have z1:μ1.length=μ.length+1:=by rw [← hμ1];simp
 have o1:∀ i,i≠q→i < μ.length→μ1[i]?=μ[i]?:=fun i hi hl=>by
  rw [← hμ1,List.getElem?_append_left (by simpa using hl),List.getElem?_set_ne (Ne.symm hi)]
 have q1:μ1[q]?=some (.acc ((ps.map pcV).take j) kq f):=by rw [← hμ1];exact app_get (get_set mq)
 have w1:μ1[μ.length]?=some (.list ((ps.map pcV).drop j) kq):=by
  rw [← hμ1,List.getElem?_append_right (by simp)];simp
 have g3:getA μ1 (.ref 3) (.int (s:Int))=some (.ref k'):=getA_list ((o1 3 (Ne.symm n3) (get_lt m3)).trans m3) l3 (by kt_len)
 have mk1:μ1[k']?=some (.list (ps.map pcV) kk):=(o1 k' (Ne.symm nk) hkl).trans mk
 have p2:=slice_l2 (i:=j) (σ:=σ) mk1 (by simpa using hj)
 have w2:(μ1++[.list ((ps.map pcV).drop j) kk])[μ.length]?=some (.list ((ps.map pcV).drop j) kq):=app_get w1
 have p3:eqV (μ1++[.list ((ps.map pcV).drop j) kk]) (.ref μ.length) (.ref μ1.length)=some true:=by
  rw [eq_refs (by kt_len) w2 app_new,if_pos (by simp),← List.map_drop,eq_pc]
 have c3:cmpA (μ1++[.list ((ps.map pcV).drop j) kk]) .NotEq (.ref μ.length) (.ref μ1.length)=some (.bool false):=by
  show (eqV _ _ _).map _=_
  rw [p3];rfl
 refine ⟨μ1++[.list ((ps.map pcV).drop j) kk],?_,by rw [app_get q1,List.map_take],fun i hi hl=>by rw [List.getElem?_append_left (by kt_len)];exact o1 i hi hl,by simp;kt_len⟩
 clear o1 q1 w1 z1 m2 m3 l2 l3 mq mk mk1 w2 p3 hμ1
 conv in tb 5=>whnf
 simp only [QC,eConst,eSlice,esNil,ssNil,ssCons,sRet,sIf,partNone,partSome,Option.bind_some,Option.map_some,ite_true,ite_false,Bool.false_eq_true,gq6,QM,tru_b, *]
theorem tb6_ok {L3:List AV}{k3 kk:Nat}(h2:look σ (N "stalks")=some (.ref 3))(h3:look σ (N "s")=some (.int (s:Int)))(h4:look σ (N "place")=some (.int (j:Int)))(m3:μ[3]?=some (.list L3 k3))(l3:L3[s]?=some (.ref k'))
  (mk:μ[k']?=some (.list (ps.map pcV) kk)) (hj:j≤ps.length) (hs:s < 1000) :
  (run FT (n+30)).S (tb 6) ⟨kdL,σ,μ⟩=some (.next,⟨kdL,σ,(μ++[AObj.list ((ps.take j).map pcV) kk]).set 3 (.list (L3.set s (.ref μ.length)) k3)⟩):=by
 have g1:getA μ (.ref 3) (.int (s:Int))=some (.ref k'):=getA_list m3 l3 (by kt_len)
 have p1:=slice_l (i:=j) (σ:=σ) mk (by simpa using hj)
 rw [← List.map_take] at p1
 have g2:=app_get (l:=[.list ((ps.take j).map pcV) kk]) m3
 have hsl:s < L3.length:=(List.getElem?_eq_some_iff.1 l3).1
 clear m3 l3 mk
 conv in tb 6=>whnf
 simp only [QC,eSlice,partNone,partSome,Option.bind_some,Option.map_some, *]
 rw [if_pos (⟨by kt_len,by rw [Int.toNat_natCast];exact hsl,by kt_len⟩:0≤(s:Int)∧(s:Int).toNat < L3.length∧(s:Int) < 100000),Int.toNat_natCast]
theorem tb9_ok {L1:List AV}{k1:Nat}{tt:List Nat}(h2:look σ (N "texts")=some (.ref 1))(h3:look σ (N "s")=some (.int (s:Int)))(h4:look σ (N "place")=some (.int (j:Int)))(m1:μ[1]?=some (.list L1 k1))(l1:L1[s]?=some (.str tt))(hj:j≤tt.length)(hl:tt.length < 1000)(hs:s < 1000) :
  (run FT (n+40)).S (tb 9) ⟨kdL,σ,μ⟩=some (.next,⟨kdL,put σ (N "told") (.int (collI (tt.take j++[109]) (tt++[109]))),μ⟩):=by
 have g1:getA μ (.ref 1) (.int (s:Int))=some (.str tt):=getA_list m1 l1 (by kt_len)
 have p1:=slice_s (kd:=kdL) (σ:=σ) (μ:=μ) hj (by kt_len)
 have g2:binA .Add (.str (tt.take j)) (.str [109])=some (.str (tt.take j++[109])):=add_s (by rw [List.length_take];kt_len) (by decide)
 have g3:binA .Add (.str tt) (.str [109])=some (.str (tt++[109])):=add_s (by kt_len) (by decide)
 have g4:∀ st,callUF (run FT (n+38)) (mkUF (pb 8)) [.str (tt.take j++[109]),.str (tt++[109])] st=some (.int (collI (tt.take j++[109]) (tt++[109])),st):=fun st=>pColl (n:=n+18)
 conv in tb 9=>whnf
 simp only [QC,eConst,eBin,eSlice,esNil,partNone,partSome,Option.bind_some,Option.map_some,List.all_cons,List.all_nil,Bool.and_true,gq5,QD,cM, *]
theorem tb10_ok (h1:look σ (N "told")=some (.int (1 - 2*(m:Int))))(h2:look σ (N "mover")=some (.int (m:Int)))(hm:m < 2):(run FT (n+30)).S (tb 10) ⟨kdL,σ,μ⟩=some (.next,⟨kdL,σ,μ⟩):=by
 have g1:binA .Mult (.int 2) (.int (m:Int))=some (.int (2*(m:Int))):=by
  show (if small 2&&small (m:Int) then _ else _)=_
  rw [small_nat (by kt_len)];rfl
 have g2:cmpA μ .NotEq (.int (1 - 2*(m:Int))) (.int (1 - 2*(m:Int)))=some (.bool false):=by
  show (some ((1 - 2*(m:Int))==(1 - 2*(m:Int)))).map (fun x=>AV.bool (!x))=_
  simp
 have g3:(nm (Str.ofString "isinstance")==nm (Str.ofString "isinstance"))=true:=by rw [beq_self_eq_true]
 have g4:(nm (Str.ofString "bool")==[98,111,111,108])=true:=by kernel_rfl!
 conv in tb 10=>whnf
 simp only [QC,eConst,eBin,tBool,tCall,tsOne,tsCons,ssNil,ssCons,sRet,sIf,Option.bind_some,Option.map_some,List.all_cons,List.all_nil,Bool.and_true,beq_self_eq_true,ite_false,Bool.false_eq_true,gq4,gq6,tru_b,sub_i, *]
theorem tb11_ok {L1:List AV}{k1:Nat}{tt:List Nat}(h2:look σ (N "texts")=some (.ref 1))(h3:look σ (N "s")=some (.int (s:Int)))(h4:look σ (N "place")=some (.int (j:Int)))(m1:μ[1]?=some (.list L1 k1))(l1:L1[s]?=some (.str tt))(hj:j≤tt.length)(hl:tt.length < 1000)(hs:s < 1000) :
  (run FT (n+40)).S (tb 11) ⟨kdL,σ,μ⟩=some (.next,⟨kdL,σ,μ.set 1 (.list (L1.set s (.str (tt.take j))) k1)⟩):=by
 have g1:getA μ (.ref 1) (.int (s:Int))=some (.str tt):=getA_list m1 l1 (by kt_len)
 have p1:=slice_s (kd:=kdL) (σ:=σ) (μ:=μ) hj (by kt_len)
 have hsl:s < L1.length:=(List.getElem?_eq_some_iff.1 l1).1
 clear l1
 conv in tb 11=>whnf
 simp only [QC,eSlice,partNone,partSome,Option.bind_some,Option.map_some, *]
 rw [if_pos (⟨by kt_len,by rw [Int.toNat_natCast];exact hsl,by kt_len⟩:0≤(s:Int)∧(s:Int).toNat < L1.length∧(s:Int) < 100000),Int.toNat_natCast]
theorem tb12_ok (h2:look σ (N "mover")=some (.int (m:Int))):(run FT (n+30)).S (tb 12) ⟨kdL,σ,μ⟩=some (.next,⟨kdL,put σ (N "mover") (.int (1 - (m:Int))),μ⟩):=by
 conv in tb 12=>whnf
 simp only [QC,eConst,eBin,Option.bind_some,Option.map_some,gq4,sub_i, *]
end
end
section
noncomputable def asV:Stmt→Expr
 | .Assign _ e _=>e
 | _=>.Constant .none 0 ⟨0,0,0,0⟩
noncomputable def argN (i:Nat):Expr→Expr
 | .Call _ as _ _=>as.getD i (.Constant .none 0 ⟨0,0,0,0⟩)
 | _=>.Constant .none 0 ⟨0,0,0,0⟩
noncomputable def cElt:Expr→Expr
 | .ListComp e _ _ _=>e
 | _=>.Constant .none 0 ⟨0,0,0,0⟩
noncomputable def cTgt:Expr→Expr
 | .ListComp _ (g::_) _ _=>g.target
 | _=>.Constant .none 0 ⟨0,0,0,0⟩
noncomputable def cIter:Expr→Expr
 | .ListComp _ (g::_) _ _=>g.iter
 | _=>.Constant .none 0 ⟨0,0,0,0⟩
noncomputable def cIfs:Expr→List Expr
 | .ListComp _ (g::_) _ _=>g.ifs
 | _=>[]
noncomputable def cSc:Expr→Scope
 | .ListComp _ _ s _=>s
 | _=>fScope (pb 0)
theorem eComp {n:Nat}{c:Expr}{p:Pos}{kd:List (Str × NameKind)}{σ:Sig}{μ:Mu}{st':St}{it:AIt}{l:List AV}(hc:c=.ListComp (cElt c) [⟨cTgt c,cIter c,cIfs c,0⟩] (cSc c) p)(h1:scopeOk kd (cSc c)=true)(h2:hasLoc kd σ=true)(hf:freesOf (cSc c).names σ=[])(hi:stepIt (run FT n) (cIter c) ⟨kd,σ,μ⟩=some (it,⟨kd,σ,μ⟩))
  (hl:(run FT n).Cm (cElt c) (cTgt c) (cIfs c) it [] ⟨relabelK kd (cSc c).names,[],μ⟩=some (l,st')):(run FT (n+1)).E c ⟨kd,σ,μ⟩=some (.ref st'.μ.length,⟨kd,σ,st'.μ++[.list l l.length]⟩):=by
 have:(run FT (n+1)).E c ⟨kd,σ,μ⟩=(run FT (n+1)).E (.ListComp (cElt c) [⟨cTgt c,cIter c,cIfs c,0⟩] (cSc c) p) ⟨kd,σ,μ⟩:=by rw [← hc]
 rw [this]
 show (if scopeOk kd (cSc c)&&hasLoc kd σ then (stepIt (run FT n) (cIter c) ⟨kd,σ,μ⟩).bind _ else Option.none)=_
 rw [h1,h2,hi]
 show ((run FT n).Cm (cElt c) (cTgt c) (cIfs c) it [] ⟨relabelK kd (cSc c).names,freesOf (cSc c).names σ,μ⟩).bind _=_
 rw [hf,hl]
 show (if hasLoc kd σ&&sameFrees [] st'.σ then _ else _)=_
 rw [h2];rfl
theorem look_mem {σ:Sig}{x:Nm}{v:AV}(h:look σ x=some v):∃ u,(x,u)∈σ:=by
 induction σ with
 | nil=>cases h
 | cons p σ ih=>
  obtain ⟨y,u⟩:=p
  simp only [look] at h
  split at h
  next e=>rw [beq_iff_eq] at e;subst e;exact ⟨u,List.mem_cons_self ..⟩
  next=>refine x1_0 (ih h) fun u' h'=>?_;exact ⟨u',List.mem_cons_of_mem _ h'⟩
theorem hasLoc_of {σ:Sig}{v:AV}(h:look σ (N "texts")=some v):hasLoc kdL σ=true:=by
 refine x1_0 (look_mem h) fun u hu=>?_
 unfold hasLoc
 rw [List.any_eq_true]
 refine ⟨_,hu,?_⟩
 dsimp only
 rw [h]
 kernel_rfl!
theorem cmEq {n:Nat}{elt t:Expr}{ifs:List Expr}{it:AIt}{acc:List AV}{st:St}:(run FT (n+1)).Cm elt t ifs it acc st=(nextIt it st.μ).bind fun k=>match k with
 | Option.none=>some (acc,st)
 | some (v,it')=>(giveTo t v st).bind fun st=>(allT (run FT n) ifs st).bind fun (b,st)=>
  if b then ((run FT n).E elt st).bind fun (x,st)=>if acc.length < topK then (run FT n).Cm elt t ifs it' (acc++[x]) st else Option.none
  else (run FT n).Cm elt t ifs it' acc st:=rfl
noncomputable def c7:Expr:=argN 0 (asV (tb 7))
theorem c7_eq:∃ p,c7=.ListComp (cElt c7) [⟨cTgt c7,cIter c7,[],0⟩] (cSc c7) p:=⟨_,rfl⟩
theorem c7_ifs:cIfs c7=[]:=rfl
noncomputable def kd7:List (Str × NameKind):=relabelK kdL (cSc c7).names
theorem l7_blanks:locOk kd7 (Str.ofString "blanks")=true:=Eq.trans (by kernel_rfl!) (Eq.refl true)
theorem l7_part:locOk kd7 (Str.ofString "part")=true:=Eq.trans (by kernel_rfl!) (Eq.refl true)
theorem s7_blanks:stoOk kd7 (Str.ofString "blanks")=true:=Eq.trans (by kernel_rfl!) (Eq.refl true)
theorem s7_part:stoOk kd7 (Str.ofString "part")=true:=Eq.trans (by kernel_rfl!) (Eq.refl true)
section
variable {n s k':Nat}{σ:Sig}{μ:Mu}{ps:List Pc}
theorem c7_elt {x y:List Nat}(h1:look σ (N "blanks")=some (.str x))(h2:look σ (N "part")=some (.str y))(hx:x.length < 1000)(hy:y.length < 1000):(run FT (n+20)).E (cElt c7) ⟨kd7,σ,μ⟩=some (.str (x++y),⟨kd7,σ,μ⟩):=by
 have g:=add_s (a:=x) (b:=y) (by kt_len) (by kt_len)
 conv in cElt c7=>whnf
 simp only [QC,eBin,Option.bind_some,Option.map_some,l7_blanks,l7_part, *]
theorem c7_tgt {x y:List Nat}:giveTo (cTgt c7) (.tup [.str x,.str y]) ⟨kd7,σ,μ⟩=some ⟨kd7,put (put σ (N "blanks") (.str x)) (N "part") (.str y),μ⟩:=by
 conv in cTgt c7=>whnf
 simp only [gq8,gq9]
 simp only [QC,Option.bind_some,gq1,gq2,gq3,s7_blanks,s7_part, *]
theorem c7_loop (hok:∀ p∈ps,PcOk p)(hlen:ps.length≤90){kk:Nat}(mk:μ[k']?=some (.list (ps.map pcV) kk)):∀ (m i:Nat) (σ:Sig) (acc:List AV),i+m=ps.length→acc.length=i →
  ∃ σ',(run FT (n+m+22)).Cm (cElt c7) (cTgt c7) [] (.lst k' i) acc ⟨kd7,σ,μ⟩=some (acc++(ps.drop i).map (fun p=>AV.str (pcS p)),⟨kd7,σ',μ⟩)
 | 0,i,σ,acc,h,ha=>by
  refine ⟨σ,?_⟩
  rw [show n+0+22=n+21+1 by kt_len,cmEq]
  have:nextIt (.lst k' i) μ=some none:=by
   exact nx_none mk (List.getElem?_eq_none (by simp;kt_len))
  show (nextIt (.lst k' i) μ).bind _=_
  rw [this,List.drop_of_length_le (by kt_len)]
  simp
 | m+1,i,σ,acc,h,ha=>by
  have hi:i < ps.length:=by kt_len
  have hp:PcOk ps[i]:=hok _ (List.getElem_mem hi)
  have e:nextIt (.lst k' i) μ=some (some (.tup [.str (pcA ps[i]),.str (pcB ps[i])],.lst k' (i+1))):=by
   exact nx_some mk (show (ps.map pcV)[i]?=some (pcV ps[i]) by simp [hi])
  have hA:=pcA_len ps[i]
  have hB:=pcB_len ps[i]
  have h8:=hp.2.1
  have h9:=hp.1
  have r1:=c7_elt (n:=n+m+2) (σ:=put (put σ (N "blanks") (.str (pcA ps[i]))) (N "part") (.str (pcB ps[i]))) (μ:=μ) (x:=pcA ps[i]) (y:=pcB ps[i]) (by kt_ors) (look_same ..) (by kt_len) (by kt_len)
  refine x1_0 (c7_loop hok hlen mk m (i+1) (put (put σ (N "blanks") (.str (pcA ps[i]))) (N "part") (.str (pcB ps[i]))) (acc++[.str (pcS ps[i])]) (by kt_len) (by simp [ha])) fun σ' r2=>?_
  refine ⟨σ',?_⟩
  rw [show n+(m+1)+22=n+m+22+1 by kt_len,cmEq]
  show (nextIt (.lst k' i) μ).bind _=_
  rw [e,Option.bind_some]
  show (giveTo (cTgt c7) (.tup [.str (pcA ps[i]),.str (pcB ps[i])]) ⟨kd7,σ,μ⟩).bind _=_
  rw [c7_tgt,Option.bind_some]
  show ((run FT (n+m+22)).E (cElt c7) _).bind _=_
  rw [show n+m+22=n+m+2+20 by kt_len,r1,Option.bind_some]
  dsimp only
  rw [if_pos (by unfold topK;kt_len)]
  rw [show n+m+2+20=n+m+22 by kt_len]
  rw [drop_cons ps i hi]
  simp only [List.map_cons]
  rw [show acc++AV.str (pcS ps[i])::(ps.drop (i+1)).map (fun p=>AV.str (pcS p))=(acc++[.str (pcS ps[i])])++(ps.drop (i+1)).map (fun p=>AV.str (pcS p)) by simp]
  exact r2
end
end
section
theorem strsOf_map (l:List (List Nat)):strsOf (l.map AV.str)=some (l.map fun x=>(⟨⟨x⟩⟩:Str)):=by
 induction l with
 | nil=>rfl
 | cons x l ih=>
  show (strsOf (l.map AV.str)).map _=_
  rw [ih];rfl
theorem mJoin {i kk:Nat}{l:List (List Nat)}{kd:List (Str × NameKind)}{σ:Sig}{μ:Mu}(h:μ[i]?=some (.list (l.map AV.str) kk))(hl:l.flatten.length < 100000):meth (.str []) (nm (Str.ofString "join")) [.ref i] ⟨kd,σ,μ⟩=some (.str l.flatten,⟨kd,σ,μ⟩):=by
 have e:meth (.str []) (nm (Str.ofString "join")) [.ref i] ⟨kd,σ,μ⟩=(asL μ[i]?).bind fun l=>(strsOf l).bind fun l=>if JoinOk ⟨⟨[]⟩⟩ l then some (.str (Txt.join ⟨⟨[]⟩⟩ l).cps.toList,⟨kd,σ,μ⟩) else Option.none:=by kernel_rfl!
 rw [e,h]
 show (strsOf (l.map AV.str)).bind _=_
 rw [strsOf_map,Option.bind_some,if_pos (joinOk_nil l (by unfold sizeLine;kt_len)),join_nil]
section
variable {n s j k' q:Nat}{σ:Sig}{μ:Mu}{ps:List Pc}{f:Int}
theorem tb7_ok {kk:Nat}(h1:look σ (N "stalks")=some (.ref 3))(h2:look σ (N "s")=some (.int (s:Int)))(ht:∃ v,look σ (N "texts")=some v)(m3:∃ L k,μ[3]?=some (.list L k)∧L[s]?=some (.ref k'))(mk:μ[k']?=some (.list (ps.map pcV) kk))(hok:∀ p∈ps,PcOk p)(hlen:ps.length≤90)(hs:s < 1000) :
  (run FT (n+130)).S (tb 7) ⟨kdL,σ,μ⟩=some (.next,⟨kdL,put σ (N "text") (.str (flatP ps)),μ++[.list (ps.map fun p=>AV.str (pcS p)) ps.length]⟩):=by
 refine x2_1 m3 fun L3 k3 m3 l3=>?_
 refine x1_0 ht fun v ht=>?_
 have g1:getA μ (.ref 3) (.int (s:Int))=some (.ref k'):=getA_list m3 l3 (by kt_len)
 have hit:stepIt (run FT (n+126)) (cIter c7) ⟨kdL,σ,μ⟩=some (.lst k' 0,⟨kdL,σ,μ⟩):=by
  have g2:((run FT (n+126)).E (cIter c7) ⟨kdL,σ,μ⟩)=some (.ref k',⟨kdL,σ,μ⟩):=by
   conv in cIter c7=>whnf
   simp only [QC,Option.bind_some,Option.map_some, *]
  have:stepIt (run FT (n+126)) (cIter c7) ⟨kdL,σ,μ⟩=((run FT (n+126)).E (cIter c7) ⟨kdL,σ,μ⟩).bind fun (v,st')=>(itOf st' v).map fun i=>(i,st'):=rfl
  rw [this,g2,Option.bind_some]
  show (itOf ⟨kdL,σ,μ⟩ (.ref k')).map _=_
  have:itOf ⟨kdL,σ,μ⟩ (.ref k')=some (.lst k' 0):=it_ref mk
  rw [this];rfl
 refine x1_0 (c7_loop (n:=n+104 - ps.length) hok hlen mk ps.length 0 [] [] (by kt_len) rfl) fun σ' hl=>?_
 rw [show n+104 - ps.length+ps.length+22=n+126 from nsl (by kt_len) rfl] at hl
 refine x1_0 c7_eq fun p hc=>?_
 have hcomp:=eComp (n:=n+126) (c:=c7) (p:=p) (kd:=kdL) (σ:=σ) (μ:=μ) hc (by kernel_rfl!) (hasLoc_of ht) (by kernel_rfl!) hit hl
 simp only [List.nil_append,List.drop_zero,List.length_map] at hcomp
 have hm:meth (.str []) (nm (Str.ofString "join")) [.ref μ.length] ⟨kdL,σ,μ++[.list (ps.map fun p=>AV.str (pcS p)) ps.length]⟩=some (.str (flatP ps),⟨kdL,σ,μ++[AObj.list (ps.map fun p=>AV.str (pcS p)) ps.length]⟩):=by
  have:=mJoin (l:=ps.map pcS) (i:=μ.length) (kk:=ps.length) (kd:=kdL) (σ:=σ) (μ:=μ++[.list (ps.map fun p=>AV.str (pcS p)) ps.length]) (by rw [app_new,List.map_map];rfl) (by have:=flatP_len ps hok;show (flatP ps).length < _;kt_len)
  exact this
 have ek:∀ μ μ':Mu,kindOk μ μ' (.str [])=true:=fun _ _=>rfl
 have e7:∃ p1 k p2 p3 p4 p5,tb 7=.Assign [.Name (Str.ofString "text") p1] (.Call (.Attribute (.Constant (.str (Str.ofString "")) k p2) (Str.ofString "join") p3) [c7] [] p4) p5∧p3.endLine=p4.line:=⟨_,_,_,_,_,_,rfl,rfl⟩
 refine x6_1 e7 fun p1 k p2 p3 p4 p5 e7 e8=>?_
 have es:notStar c7=true:=rfl
 rw [e7]
 clear e7 hc hl hit m3 mk l3
 simp only [QC,eConst,esNil,Option.bind_some,Option.map_some,ite_true,gq5,QM,cNil, *]
theorem tb8_ok {kq:Nat}(h1:look σ (N "piles")=some (.ref 2))(h2:look σ (N "s")=some (.int (s:Int)))(h3:look σ (N "text")=some (.str (flatP ps)))(h4:look σ (N "first")=some (.int f))(h5:look σ (N "place")=some (.int (j:Int)))(hj:j=ps.length)(hf:0≤f)(hf2:f < 1000)(m2:∃ L k,μ[2]?=some (.list L k)∧L[s]?=some (.ref q))(mq:μ[q]?=some (.acc (ps.map pcV) kq f))(hok:∀ p∈ps,PcOk p)(hlen:ps.length≤90)(hs:s < 1000) :
  ∃ l,(run FT (n+60)).S (tb 8) ⟨kdL,σ,μ⟩=some (.next,⟨kdL,σ,μ++l⟩):=by
 subst hj
 refine x2_1 m2 fun L2 k2 m2 l2=>?_
 have hfl:=flatP_len ps hok
 have e1:∀ μ',(∃ l,μ'=μ++l)→getA μ' (.ref 2) (.int (s:Int))=some (.ref q):=by
  rintro _ ⟨l,rfl⟩;exact getA_list (app_get m2) l2 (by kt_len)
 have g1:getA μ (.ref 2) (.int (s:Int))=some (.ref q):=e1 μ ⟨[],by simp⟩
 have g2:∀ r σ,prim FT r (nm (Str.ofString "str")) [.ref q] ⟨kdL,σ,μ⟩=some (.str (flatP ps),⟨kdL,σ,μ⟩):=fun r σ=>by
  rw [pStrA mq (prOf_pc ps) (by rw [flat_pc];kt_len),flat_pc]
 have g3:∀ r σ,prim FT r (nm (Str.ofString "len")) [.ref q] ⟨kdL,σ,μ⟩=some (.int (f+(flatP ps).length),⟨kdL,σ,μ⟩):=fun r σ=>by
  rw [pLenA mq (prOf_pc ps) (by rw [sum_pc];kt_len),sum_pc]
 have g4:∀ σ,meth (.ref q) (nm (Str.ofString "part_count")) [] ⟨kdL,σ,μ⟩=some (.int (ps.length:Int),⟨kdL,σ,μ⟩):=fun σ=>by
  rw [mCount mq];simp
 have g5:kindOk μ μ (.ref q)=true:=kindS mq
 have g6:∀ r st,prim FT r (nm (Str.ofString "len")) [.str (flatP ps)] st=some (.int (flatP ps).length,st):=fun r st=>pLenS (strOk_of (by kt_len))
 have hz:(μ++[AObj.list [.str (flatP ps),.int (f+(flatP ps).length),.int (ps.length:Int)] 3]).length=μ.length+1:=by simp
 have g7:eqV (μ++[AObj.list [.str (flatP ps),.int (f+(flatP ps).length),.int (ps.length:Int)] (0+1+1+1)]++[AObj.list [.str (flatP ps),.int (f+(flatP ps).length),.int (ps.length:Int)] (0+1+1+1)]) (.ref μ.length) (.ref (μ++[AObj.list [.str (flatP ps),.int (f+(flatP ps).length),.int (ps.length:Int)] (0+1+1+1)]).length)=some true:=by
  rw [eq_refs (a:=[.str (flatP ps),.int (f+(flatP ps).length),.int (ps.length:Int)]) (b:=[.str (flatP ps),.int (f+(flatP ps).length),.int (ps.length:Int)]) (by simp) (app_get app_new) app_new]
  show (if (_==_)=true then some ((_==_)&&((_==_)&&((_==_)&&true))) else _)=_
  simp only [beq_self_eq_true,Bool.and_self,if_true]
 have g8:cmpA (μ++[AObj.list [.str (flatP ps),.int (f+(flatP ps).length),.int (ps.length:Int)] (0+1+1+1)]++[AObj.list [.str (flatP ps),.int (f+(flatP ps).length),.int (ps.length:Int)] (0+1+1+1)]) .NotEq (.ref μ.length) (.ref (μ++[AObj.list [.str (flatP ps),.int (f+(flatP ps).length),.int (ps.length:Int)] (0+1+1+1)]).length)=some (.bool false):=by
  show (eqV _ _ _).map _=_
  rw [g7];rfl
 refine ⟨[AObj.list [.str (flatP ps),.int (f+(flatP ps).length),.int (ps.length:Int)] (0+1+1+1)]++[AObj.list [.str (flatP ps),.int (f+(flatP ps).length),.int (ps.length:Int)] (0+1+1+1)],?_⟩
 rw [← List.append_assoc]
 clear e1 m2 mq l2 g7 hz
 conv in tb 8=>whnf
 simp only [QC,eConst,eBin,eList,esNil,ssNil,ssCons,sRet,sIf,alloc_eq,Option.bind_some,Option.map_some,List.all_cons,List.all_nil,Bool.and_true,List.length_cons,List.length_nil,ite_true,ite_false,Bool.false_eq_true,gq6,QM,QD,tru_b,add_i, *]
end
end
section
theorem mvs_mem {o s:Nat}{ps:List Pc}:∀ {m:Nat} {x:Int × Nat × Nat},x∈mvs o s ps m→m≤ps.length→x.2.1=s∧∃ h:x.2.2 < ps.length,x.2.2 < m∧(ps[x.2.2]).1=o∧x.1=Wo o (ps.drop x.2.2)
 | 0,x,h,_=>by cases h
 | m+1,x,h,hm=>by
  simp only [mvs,List.mem_append] at h
  rcases h with h | h
  ·have hg:ps.getD m (0,0,0)=ps[m]:=by simp [show m < ps.length by kt_len]
   rw [hg] at h
   split at h
   next e=>
    simp only [List.mem_singleton] at h;subst h
    rw [beq_iff_eq] at e;cases e
    exact ⟨rfl,by show m < ps.length;kt_len,Nat.lt_succ_self _,rfl,rfl⟩
   next=>cases h
  ·obtain ⟨h1,h2,h3,h4⟩:=mvs_mem h (by kt_len)
   exact ⟨h1,h2,by kt_len,h4⟩
theorem mvs_len {o s:Nat}{ps:List Pc}:∀ m:Nat,(mvs o s ps m).length≤m
 | 0=>Nat.le_refl _
 | m+1=>by
  simp only [mvs,List.length_append]
  have:=mvs_len (o:=o) (s:=s) (ps:=ps) m
  split <;> simp <;> kt_len
theorem mvAll_mem {o:Nat}{ps:Nat→List Pc}{x:Int × Nat × Nat}(h:x∈mvAll o ps):x.2.1 < 3∧∃ h:x.2.2 < (ps x.2.1).length,((ps x.2.1)[x.2.2]).1=o∧x.1=Wo o ((ps x.2.1).drop x.2.2):=by
 simp only [mvAll,List.mem_append] at h
 rcases h with (h | h) | h
 all_goals
  obtain ⟨h1,h2,h3,h4,h5⟩:=mvs_mem h (Nat.le_refl _)
  obtain ⟨c,s,j⟩:=x
  dsimp only at h1 h2 h3 h4 h5 ⊢
  subst h1
  exact ⟨by decide,h2,h4,h5⟩
theorem lt3_mv (x y:Int × Nat × Nat):∃ b,lt3 (mvV x) (mvV y)=some b∧(b=true→x.1≤y.1)∧(b=false→y.1≤x.1):=by
 refine ⟨_,rfl,?_,?_⟩
 ·intro h
  simp only [ltB,Bool.or_eq_true,Bool.and_eq_true,decide_eq_true_eq,beq_iff_eq] at h
  kt_len
 ·intro h
  simp only [ltB,Bool.or_eq_false_iff,decide_eq_false_iff_not] at h
  kt_len
theorem min_mv:∀ (l:List (Int × Nat × Nat)) (x:Int × Nat × Nat),∃ y,minA (mvV x) (l.map mvV)=some (mvV y)∧y∈x::l∧∀ z∈x::l,y.1≤z.1
 | [],x=>⟨x,rfl,List.mem_cons_self ..,fun z hz=>by simp at hz;subst hz;exact Int.le_refl _⟩
 | a::l,x=>by
  refine x1_2 (lt3_mv a x) fun b hb h1 h2=>?_
  simp only [List.map_cons,minA,hb,Option.bind_some]
  cases b with
  | true=>
   refine x1_2 (min_mv l a) fun y e hm hz=>?_
   refine ⟨y,e,?_,fun z hz'=>?_⟩
   ·rcases List.mem_cons.1 hm with h | h
    ·subst h;simp
    ·simp [h]
   ·rcases List.mem_cons.1 hz' with h | h
    ·subst h;have:=hz a (List.mem_cons_self ..);have:=h1 rfl;kt_len
    ·exact hz z h
  | false=>
   refine x1_2 (min_mv l x) fun y e hm hz=>?_
   refine ⟨y,e,?_,fun z hz'=>?_⟩
   ·rcases List.mem_cons.1 hm with h | h
    ·subst h;simp
    ·simp [h]
   ·rcases List.mem_cons.1 hz' with h | h
    ·subst h;exact hz _ (List.mem_cons_self ..)
    ·rcases List.mem_cons.1 h with h | h
     ·subst h;have:=hz x (List.mem_cons_self ..);have:=h2 rfl;kt_len
     ·exact hz z (List.mem_cons_of_mem _ h)
noncomputable def upd (ps:Nat→List Pc)(s j:Nat):Nat→List Pc:=fun t=>if t=s then (ps t).take j else ps t
theorem set3 {α:Type}(g:Nat→α){s:Nat}(hs:s < 3)(v:α):[g 0,g 1,g 2].set s v=[(if 0=s then v else g 0),(if 1=s then v else g 1),(if 2=s then v else g 2)]:=by
 refine ltn3 hs ?_ ?_ ?_ <;> rfl
section
variable {n m w t:Nat}{f:Int}{nl:List AV}{ps:Nat→List Pc}{K Q:Nat→Nat}{σ:Sig}{μ:Mu}
theorem ext_app {m:Nat}{μ μ':Mu}{l:List AObj}(h:Ext m μ μ')(hl:m≤μ'.length):Ext m μ (μ'++l):=fun i hi=>by
 rw [List.getElem?_append_left (by kt_len)];exact h i hi
theorem turn_end (G:GSt f nl ps K Q σ μ)(h1:look σ (N "mover")=some (.int (m:Int)))(hm:m < 2)(h2:look σ (N "winner")=some (.int (w:Int)))(hmv:mvAll (ownC m) ps=[]) :
  ∃ st',(run FT (n+200)).SS (forB (lw 7)) ⟨kdL,σ,μ⟩=some (.ret (.bool (!((m:Int)==(w:Int)))),st'):=by
 rw [tbs]
 refine re (tb0 (n:=n+179) h1 hm) ?_
 have a1:Ag tWs σ (put (put σ (N "moves") (.ref μ.length)) (N "own") (.str [ownC m])):=((Ag.refl _ _).put (by decide)).put (by decide)
 refine x3_3 (tb1_ok (n:=n+68) G rfl a1 (Ext.app μ [.list [] 0]) (o:=ownC m) (look_same ..) (by kt_ors) app_new (ownC_or m)) fun σ2 μ2 km r2 b2 s2 e2=>?_
 refine re r2 ?_
 have a2:Ag tWs σ σ2:=a1.trans (b2.mono (by decide))
 have x2:Ext μ.length μ μ2:=(Ext.app μ [.list [] 0]).trans s2.ext
 have G2:=G.next a2 x2 (Nat.le_refl _)
 rw [hmv] at e2
 refine x1_0 (tb2_end (n:=n+137) G2 ((b2 _ (by decide)).trans (by kt_ors)) e2 ((a2 _ (by decide)).trans h1) ((a2 _ (by decide)).trans h2)) fun st' r=>?_
 exact ⟨st',ss_ret r⟩
theorem turn_go (G:GSt f nl ps K Q σ μ)(h1:look σ (N "mover")=some (.int (m:Int)))(hm:m < 2)(h2:look σ (N "winner")=some (.int (w:Int)))(h3:look σ (N "turn")=some (.int (t:Int)))(ht:t < 13)(hf:0≤f)(hf2:f < 1000)(hnl:∀ i,i < 7→∃ y,nl[7+i]?=some (.int y))(hmv:mvAll (ownC m) ps≠[]) :
  ∃ x∈mvAll (ownC m) ps,(m=w→∀ z∈mvAll (ownC m) ps,x.1≤z.1)∧∃ σ' μ' K',(run FT (n+200)).SS (forB (lw 7)) ⟨kdL,σ,μ⟩=some (.next,⟨kdL,σ',μ'⟩)∧GSt f nl (upd ps x.2.1 x.2.2) K' Q σ' μ'∧look σ' (N "mover")=some (.int ((1 - m:Nat):Int))∧look σ' (N "winner")=some (.int (w:Int)):=by
 have a1:Ag tWs σ (put (put σ (N "moves") (.ref μ.length)) (N "own") (.str [ownC m])):=((Ag.refl _ _).put (by decide)).put (by decide)
 refine x3_3 (tb1_ok (n:=n+68) G rfl a1 (Ext.app μ [.list [] 0]) (o:=ownC m) (look_same ..) (by kt_ors) app_new (ownC_or m)) fun σ2 μ2 km r2 b2 s2 e2=>?_
 have a2:Ag tWs σ σ2:=a1.trans (b2.mono (by decide))
 have x2:Ext μ.length μ μ2:=(Ext.app μ [.list [] 0]).trans s2.ext
 have G2:=G.next a2 x2 (Nat.le_refl _)
 have l2:μ2.length=μ.length+1:=by rw [s2.1];simp
 have mv2:look σ2 (N "moves")=some (.ref μ.length):=(b2 _ (by decide)).trans (by kt_ors)
 have e3:(μ2++[AObj.list [] 0])[μ.length]?=some (.list ((mvAll (ownC m) ps).map mvV) km):=app_get e2
 have x3:Ext μ.length μ (μ2++[.list [] 0]):=ext_app x2 (by kt_len)
 have G3:=G.next a2 x3 (Nat.le_refl _)
 have hch:∃ x∈mvAll (ownC m) ps,(m=w→∀ z∈mvAll (ownC m) ps,x.1≤z.1)∧(run FT (n+196)).S (tb 3) ⟨kdL,σ2,μ2++[.list [] 0]⟩=some (.next,⟨kdL,put σ2 (N "choice") (mvV x),μ2++[.list [] 0]⟩):=by
  by_cases hmw:m=w
  ·subst hmw
   cases hc:mvAll (ownC m) ps with
   | nil=>exact absurd hc hmv
   | cons x l=>
    refine x1_2 (min_mv l x) fun y ey hy hz=>?_
    rw [hc] at e3
    exact ⟨y,hy,fun _=>hz,tb3_min (n:=n+176) ((a2 _ (by decide)).trans h1) ((a2 _ (by decide)).trans h2) mv2 e3 ey⟩
  ·refine x1_0 (hnl (t / 2) (by kt_len)) fun y hy=>?_
   obtain ⟨v,hv,r⟩:=tb3_any (n:=n+176) ((a2 _ (by decide)).trans h1) ((a2 _ (by decide)).trans h2) hmw mv2 e3 (by simpa using hmv) (by
    have h0:=mvs_len (o:=ownC m) (s:=0) (ps:=ps 0) (ps 0).length
    have h1:=mvs_len (o:=ownC m) (s:=1) (ps:=ps 1) (ps 1).length
    have h2:=mvs_len (o:=ownC m) (s:=2) (ps:=ps 2) (ps 2).length
    have:=G.len 0 (by decide);have:=G.len 1 (by decide);have:=G.len 2 (by decide)
    simp only [List.length_map,mvAll,List.length_append];kt_len) G3.numbers G3.m0 ((a1.trans (Ag.refl _ _) |>.trans (b2.mono (by decide:∀ x∈sWs,x∈tWs)) |> fun _=>(b2 "turn" (by decide)).trans (by kt_ors;exact h3))) ht hy
   refine x1_1 (List.mem_map.1 hv) fun x hx hq2=>?_;subst hq2
   exact ⟨x,hx,fun e=>absurd e hmw,r⟩
 refine x1_2 hch fun x hx hmin r3=>?_
 refine ⟨x,hx,hmin,?_⟩
 obtain ⟨c,s,j⟩:=x
 obtain ⟨hs,hj,hown,hc⟩:=mvAll_mem hx
 dsimp only at hs hj hown hc ⊢
 suffices hE:Ends ((run FT (n+200)).SS (forB (lw 7)) ⟨kdL,σ,μ⟩) kdL (fun σ' μ'=>∃ K',GSt f nl (upd ps s j) K' Q σ' μ'∧look σ' (N "mover")=some (.int ((1 - m:Nat):Int))∧look σ' (N "winner")=some (.int (w:Int))) by
  obtain ⟨σ',μ',r,K',g⟩:=hE
  exact ⟨σ',μ',K',r,g⟩
 refine Ends.post fun PP hPP=>?_
 rw [tbs]
 refine en (tb0 (n:=n+179) h1 hm) ?_
 refine en r2 ?_
 refine en (tb2_go (n:=n+176) mv2 e2 (by simpa using hmv)) ?_
 refine en r3 ?_
 refine en (tb4_ok (n:=n+175) (c:=c) (s:=s) (j:=j) (look_same ..)) ?_
 generalize hσ5:put (put (put (put σ2 (N "choice") (mvV (c,s,j))) (N "worth") (.int c)) (N "s") (.int (s:Int))) (N "place") (.int (j:Int))=σ5
 have b5:Ag tWs σ2 σ5:=by rw [← hσ5];exact ((((Ag.refl _ _).put (by decide)).put (by decide)).put (by decide)).put (by decide)
 have s5:look σ5 (N "s")=some (.int (s:Int)):=by rw [← hσ5];kt_ors
 have p5:look σ5 (N "place")=some (.int (j:Int)):=by rw [← hσ5,look_same]
 generalize hμ3:μ2++[AObj.list [] 0]=μ3 at *
 have a5:=a2.trans b5
 have G5:GSt f nl ps K Q σ5 μ3:=G.next a5 x3 (Nat.le_refl _)
 have hjl:j≤(ps s).length:=Nat.le_of_lt hj
 have hok:=G.ok s hs
 have hlen:=G.len s hs
 refine x1_0 (G5.mQ s hs) fun kq mq=>?_
 refine x1_0 (G5.mK s hs) fun kk mk=>?_
 refine x1_0 (G5.m1) fun k1 m1=>?_
 refine x1_0 (G5.m2) fun k2 m2=>?_
 refine x1_0 (G5.m3) fun k3 m3=>?_
 refine x1_3 (tb5_ok (n:=n+164) G5.piles G5.stalks s5 p5 ⟨_,k2,m2,three (fun s=>AV.ref (Q s)) hs⟩ ⟨_,k3,m3,three (fun s=>AV.ref (K s)) hs⟩ mq mk hjl (by kt_len)) fun μ4 r5 q4 o4 z4=>?_
 refine en r5 ?_
 have nq:∀ (i:Nat) (l:List AV) (k:Nat),μ3[i]?=some (AObj.list l k)→i≠Q s:=by rintro i l k e rfl;rw [mq] at e;cases e
 have kp4:∀ (i:Nat) (l:List AV) (k:Nat),μ3[i]?=some (AObj.list l k)→μ4[i]?=some (AObj.list l k):=fun i l k e=>(o4 i (nq i l k e) (get_lt e)).trans e
 have lt3:3 < μ3.length:=get_lt m3
 refine en (tb6_ok (n:=n+163) G5.stalks s5 p5 (kp4 _ _ _ m3) (three (fun s=>AV.ref (K s)) hs) (kp4 _ _ _ mk) hjl (by kt_len)) ?_
 generalize hμ5:(μ4++[AObj.list (((ps s).take j).map pcV) kk]).set 3 (.list ([.ref (K 0),.ref (K 1),.ref (K 2)].set s (.ref μ4.length)) k3)=μ5
 have z5:μ5.length=μ4.length+1:=by rw [← hμ5];simp
 have kp5:∀ (i:Nat) (o:AObj),i≠3→μ4[i]?=some o→μ5[i]?=some o:=fun i o h e=>by
  rw [← hμ5,List.getElem?_set_ne (Ne.symm h)];exact app_get e
 have n5:μ5[μ4.length]?=some (.list (((ps s).take j).map pcV) kk):=by
  rw [← hμ5,List.getElem?_set_ne (by kt_len)];exact app_new
 have m35:μ5[3]?=some (.list ([.ref (K 0),.ref (K 1),.ref (K 2)].set s (.ref μ4.length)) k3):=by
  rw [← hμ5];exact get_set (app_get (kp4 _ _ _ m3))
 have q5:μ5[Q s]?=some (.acc (((ps s).take j).map pcV) kq f):=kp5 _ _ (by intro e;exact nq 3 _ _ m3 e.symm) q4
 have hok':∀ p∈(ps s).take j,PcOk p:=fun p hp=>hok p (List.mem_of_mem_take hp)
 have hlen':((ps s).take j).length=j:=by rw [List.length_take];kt_len
 refine en (tb7_ok (n:=n+62) (k':=μ4.length) (ps:=(ps s).take j) (kk:=kk) G5.stalks s5 ⟨_,G5.texts⟩ ⟨_,k3,m35,by
  rw [List.getElem?_set_self (by simp;kt_len)]⟩ n5 hok' (by kt_len) (by kt_len)) ?_
 generalize hσ6:put σ5 (N "text") (.str (flatP ((ps s).take j)))=σ6
 have b6:Ag tWs σ5 σ6:=by rw [← hσ6];exact (Ag.refl _ _).put (by decide)
 have t6:look σ6 (N "text")=some (.str (flatP ((ps s).take j))):=by rw [← hσ6,look_same]
 have s6:look σ6 (N "s")=some (.int (s:Int)):=by rw [← hσ6];kt_ors;exact s5
 have p6:look σ6 (N "place")=some (.int (j:Int)):=by rw [← hσ6];kt_ors;exact p5
 have G6l:=fun x hx=>b6 x hx
 obtain ⟨l8,r8⟩:=tb8_ok (n:=n+131) (μ:=μ5++[AObj.list (((ps s).take j).map fun p=>AV.str (pcS p)) ((ps s).take j).length]) (ps:=(ps s).take j) (q:=Q s) (kq:=kq) ((b6 _ (by decide)).trans G5.piles) s6 t6 ((b6 _ (by decide)).trans G5.first) p6 hlen'.symm hf hf2
  ⟨_,k2,app_get (kp5 _ _ (by decide) (kp4 _ _ _ m2)),three (fun s=>AV.ref (Q s)) hs⟩ (app_get q5) hok' (by kt_len) (by kt_len)
 refine en r8 ?_
 generalize hμ7:μ5++[AObj.list (((ps s).take j).map fun p=>AV.str (pcS p)) ((ps s).take j).length]++l8=μ7
 have kp7:∀ (i:Nat) (o:AObj),μ5[i]?=some o→μ7[i]?=some o:=fun i o e=>by rw [← hμ7];exact app_get (app_get e)
 have m17:μ7[1]?=some (.list [.str (txt (ps 0)),.str (txt (ps 1)),.str (txt (ps 2))] k1):=kp7 _ _ (kp5 _ _ (by decide) (kp4 _ _ _ m1))
 have htl:(txt (ps s)).length=(ps s).length:=by simp [txt]
 refine en (tb9_ok (n:=n+150) (tt:=txt (ps s)) ((b6 _ (by decide)).trans G5.texts) s6 p6 m17 (three (fun s=>AV.str (txt (ps s))) hs) (by kt_len) (by kt_len) (by kt_len)) ?_
 have hcoll:collI ((txt (ps s)).take j++[109]) (txt (ps s)++[109])=1 - 2*(m:Int):=by
  have e:txt (ps s)=(txt (ps s)).take j++ownC m::(txt (ps s)).drop (j+1):=by
   have:(txt (ps s))[j]'(by kt_len)=ownC m:=by simp only [txt,List.getElem_map];exact hown
   rw [← this,← List.drop_eq_getElem_cons (by kt_len),List.take_append_drop]
  conv=>lhs;arg 2;rw [e]
  exact coll_m _ _ m hm
 rw [hcoll]
 have m6:look σ6 (N "mover")=some (.int (m:Int)):=(b6 _ (by decide)).trans ((a5 _ (by decide)).trans h1)
 refine en (tb10_ok (n:=n+159) (m:=m) (look_same ..) (by kt_ors;exact m6) hm) ?_
 refine en (tb11_ok (n:=n+148) (tt:=txt (ps s)) (s:=s) (j:=j) (by kt_ors;exact (b6 _ (by decide)).trans G5.texts) (by kt_ors;exact s6) (by kt_ors;exact p6) m17 (three (fun s=>AV.str (txt (ps s))) hs) (by kt_len) (by kt_len) (by kt_len)) ?_
 refine en (tb12_ok (n:=n+157) (m:=m) (by kt_ors;exact m6)) ?_
 refine ⟨_,_,rfl,hPP _ _ ⟨fun u=>if u=s then μ4.length else K u,?_,by rw [look_same];congr 2;kt_len,?_⟩⟩
 ·have ag:∀ x:String,x ∉ "mover"::tWs→look (put (put σ6 (N "told") (.int (1 - 2*(m:Int)))) (N "mover") (.int (1 - (m:Int)))) (N x)=look σ (N x):=fun x hx=>by
   rw [look_ne (fun e=>hx (by rw [← e];exact List.mem_cons_self ..)),look_ne (fun e=>hx (by rw [← e];decide)),b6 x (fun h=>hx (List.mem_cons_of_mem _ h)),a5 x (fun h=>hx (List.mem_cons_of_mem _ h))]
  have stay:∀ (i:Nat) (l:List AV) (k:Nat),i≠3→i≠1→μ3[i]?=some (AObj.list l k)→(μ7.set 1 (.list ([.str (txt (ps 0)),.str (txt (ps 1)),.str (txt (ps 2))].set s (.str ((txt (ps s)).take j))) k1))[i]?=some (.list l k):=fun i l k h3 h1 e=>by
   rw [List.getElem?_set_ne (Ne.symm h1)];exact kp7 _ _ (kp5 _ _ h3 (kp4 _ _ _ e))
  exact
  {numbers:=(ag _ (by decide)).trans G.numbers
   first:=(ag _ (by decide)).trans G.first
   texts:=(ag _ (by decide)).trans G.texts
   piles:=(ag _ (by decide)).trans G.piles
   stalks:=(ag _ (by decide)).trans G.stalks
   m0:=let ⟨k,e⟩:=G5.m0;⟨k,stay _ _ _ (by decide) (by decide) e⟩
   m1:=⟨k1,by
    rw [get_set m17,set3 (fun s=>AV.str (txt (ps s))) hs]
    have:∀ u,(if u=s then AV.str ((txt (ps s)).take j) else AV.str (txt (ps u)))=AV.str (txt (upd ps s j u)):=fun u=>by
     unfold upd
     split
     next e=>subst e;simp [txt]
     next=>rfl
    rw [this 0,this 1,this 2]⟩
   m2:=⟨k2,stay _ _ _ (by decide) (by decide) m2⟩
   m3:=⟨k3,by
    rw [List.getElem?_set_ne (by decide)]
    rw [kp7 _ _ m35,set3 (fun s=>AV.ref (K s)) hs]
    have:∀ u,(if u=s then AV.ref μ4.length else AV.ref (K u))=AV.ref (if u=s then μ4.length else K u):=fun u=>by split <;> rfl
    rw [this 0,this 1,this 2]⟩
   mK:=fun u hu=>by
    by_cases e:u=s
    ·subst e
     refine ⟨kk,?_⟩
     simp only [if_true,upd]
     rw [List.getElem?_set_ne (by kt_len)]
     exact kp7 _ _ n5
    ·refine x1_0 (G5.mK u hu) fun k h=>?_
     refine ⟨k,?_⟩
     simp only [e,if_false,upd]
     have:=G.K3 u hu
     exact stay _ _ _ (by kt_len) (by kt_len) h
   mQ:=fun u hu=>by
    have n1:Q u≠1:=by intro e;refine x1_0 (G5.mQ u hu) fun k h=>?_;rw [e,m1] at h;cases h
    have n3:Q u≠3:=by intro e;refine x1_0 (G5.mQ u hu) fun k h=>?_;rw [e,m3] at h;cases h
    by_cases e:u=s
    ·subst e
     refine ⟨kq,?_⟩
     simp only [if_true,upd]
     rw [List.getElem?_set_ne (Ne.symm n1)]
     exact kp7 _ _ q5
    ·refine x1_0 (G5.mQ u hu) fun k h=>?_
     refine ⟨k,?_⟩
     simp only [e,if_false,upd]
     rw [List.getElem?_set_ne (Ne.symm n1)]
     exact kp7 _ _ (kp5 _ _ n3 ((o4 _ (G.inj _ _ hu hs e) (get_lt h)).trans h))
   inj:=G.inj
   K3:=fun u hu=>by
    split
    ·kt_len
    ·exact G.K3 u hu
   ok:=fun u hu p hp=>by
    unfold upd at hp
    split at hp
    ·exact G.ok u hu p (List.mem_of_mem_take hp)
    ·exact G.ok u hu p hp
   len:=fun u hu=>by
    have:=G.len u hu
    unfold upd
    split
    ·rw [List.length_take];kt_len
    ·exact this}
 ·rw [look_ne (by decide),look_ne (by decide),b6 _ (by decide),a5 _ (by decide)];exact h2
end
end
section
noncomputable def dP (ps:List Pc):Int:=match ps.getLast? with
 | none=>8
 | some p=>(p.2.2:Int)
noncomputable def pcAt (ps:List Pc)(j:Nat):Pc:=ps.getD j (0,0,0)
noncomputable def okO (o:Nat)(ps:List Pc):Bool:=
 (List.range ps.length).all (fun j=>!((pcAt ps j).1==o)||decide (0 < Wo o (ps.drop j)))&&(dP ps==1||dP ps==2||dP ps==4||dP ps==8)&&(Wo o ps % dP ps==0) &&
 (if dP ps < 8 then (List.range ps.length).any (fun j=>(pcAt ps j).1==o&&decide (Wo o (ps.drop j)≤dP ps)) else (decide (Wo o ps≤0)||(List.range ps.length).any (fun j=>(pcAt ps j).1==o&&decide (Wo o (ps.drop j)≤8))))
noncomputable def okAll (ps:List Pc):Bool:=(List.range (ps.length+1)).all fun i=>okO 104 (ps.take i)&&okO 112 (ps.take i)
theorem okAll_take {ps:List Pc}(h:okAll ps=true)(j:Nat):okAll (ps.take j)=true:=by
 unfold okAll at h ⊢
 rw [List.all_eq_true] at h ⊢
 intro i hi
 rw [List.take_take]
 refine h _ ?_
 rw [List.mem_range] at hi ⊢
 rw [List.length_take] at hi
 exact Nat.lt_of_le_of_lt (Nat.min_le_left _ _) (Nat.lt_of_lt_of_le hi (Nat.succ_le_succ (Nat.min_le_right _ _)))
theorem okAll_o {ps:List Pc}(h:okAll ps=true){o:Nat}(ho:o=104∨o=112):okO o ps=true:=by
 unfold okAll at h
 rw [List.all_eq_true] at h
 have:=h ps.length (by simp)
 rw [List.take_length,Bool.and_eq_true] at this
 rcases ho with rfl | rfl
 ·exact this.1
 ·exact this.2
theorem pcAt_eq {ps:List Pc}{j:Nat}(h:j < ps.length):pcAt ps j=ps[j]:=by simp [pcAt,h]
theorem okO_pos {ps:List Pc}{o j:Nat}(h:okO o ps=true)(hj:j < ps.length)(ho:(ps[j]).1=o):0 < Wo o (ps.drop j):=by
 unfold okO at h
 simp only [Bool.and_eq_true] at h
 have:=List.all_eq_true.1 h.1.1.1 j (by simpa using hj)
 rw [pcAt_eq hj,ho] at this
 simpa using this
theorem okO_d {ps:List Pc}{o:Nat}(h:okO o ps=true):∃ d k:Int,(d=1∨d=2∨d=4∨d=8)∧Wo o ps=d*k ∧
  ((d < 8→∃ j,∃ hj:j < ps.length,(ps[j]).1=o∧Wo o (ps.drop j)≤d)∧(d=8→0 < Wo o ps→∃ j,∃ hj:j < ps.length,(ps[j]).1=o∧Wo o (ps.drop j)≤8)):=by
 unfold okO at h
 simp only [Bool.and_eq_true,Bool.or_eq_true,beq_iff_eq] at h
 obtain ⟨⟨⟨_,hd⟩,hm⟩,hx⟩:=h
 refine ⟨dP ps,Wo o ps / dP ps,by kt_len,(Int.mul_ediv_cancel' (Int.dvd_of_emod_eq_zero hm)).symm,fun h8=>?_,fun h8 hp=>?_⟩
 ·rw [if_pos h8] at hx
  refine x1_1 (List.any_eq_true.1 hx) fun j hj hx=>?_
  rw [List.mem_range] at hj
  rw [pcAt_eq hj,Bool.and_eq_true,beq_iff_eq,decide_eq_true_eq] at hx
  exact ⟨j,hj,hx⟩
 ·rw [if_neg (by kt_len),Bool.or_eq_true,decide_eq_true_eq] at hx
  rcases hx with hx | hx
  ·kt_len
  ·refine x1_1 (List.any_eq_true.1 hx) fun j hj hx=>?_
   rw [List.mem_range] at hj
   rw [pcAt_eq hj,Bool.and_eq_true,beq_iff_eq,decide_eq_true_eq] at hx
   exact ⟨j,hj,hx⟩
theorem Wo_app (o:Nat)(l m:List Pc):Wo o (l++m)=Wo o l+Wo o m:=by
 induction l with
 | nil=>simp [Wo]
 | cons p l ih=>simp only [List.cons_append,Wo,ih];kt_len
theorem Wo_neg (l:List Pc)(h:∀ p∈l,PcOk p):Wo 104 l=- Wo 112 l:=by
 induction l with
 | nil=>simp [Wo]
 | cons p l ih=>
  have hp:=h p (List.mem_cons_self ..)
  simp only [Wo,ih fun q hq=>h q (List.mem_cons_of_mem _ hq)]
  rcases hp.2.2 with e | e <;> simp [e] <;> kt_len
theorem mvs_has {o s j:Nat}{ps:List Pc}:∀ {m:Nat},j < m→m≤ps.length→∀ h:j < ps.length,(ps[j]).1=o→(Wo o (ps.drop j),s,j)∈mvs o s ps m
 | 0,h,_,_,_=>absurd h (Nat.not_lt_zero _)
 | m+1,h,hm,hj,ho=>by
  simp only [mvs,List.mem_append]
  by_cases e:j=m
  ·subst e
   have hg:ps.getD j (0,0,0)=ps[j]:=by simp [hj]
   rw [hg,ho]
   left;simp
  ·exact .inr (mvs_has (by kt_len) (by kt_len) hj ho)
theorem mvAll_has {o s j:Nat}{ps:Nat→List Pc}(hs:s < 3)(hj:j < (ps s).length)(ho:((ps s)[j]).1=o):(Wo o ((ps s).drop j),s,j)∈mvAll o ps:=by
 have:=mvs_has (s:=s) (m:=(ps s).length) hj (Nat.le_refl _) hj ho
 simp only [mvAll,List.mem_append]
 revert this
 exact ltn3 hs (fun this=>.inl (.inl this)) (fun this=>.inl (.inr this)) fun this=>.inr this
noncomputable def Tot (o:Nat)(ps:Nat→List Pc):Int:=Wo o (ps 0)+Wo o (ps 1)+Wo o (ps 2)
theorem pow_dvd {d e:Int}(hd:d=1∨d=2∨d=4∨d=8)(he:e=1∨e=2∨e=4∨e=8)(h:d≤e):∃ c,e=d*c:=by
 rcases hd with rfl | rfl | rfl | rfl <;> rcases he with rfl | rfl | rfl | rfl <;> first | exact ⟨1,rfl⟩ | exact ⟨2,rfl⟩ | exact ⟨4,rfl⟩ | exact ⟨8,rfl⟩ | exact absurd h (by decide)
theorem pow_pos' {d:Int}(hd:d=1∨d=2∨d=4∨d=8):0 < d:=by
 rcases hd with rfl | rfl | rfl | rfl <;> decide
theorem pow_8 {d:Int}(hd:d=1∨d=2∨d=4∨d=8)(h:8≤d):d=8:=by
 rcases hd with rfl | rfl | rfl | rfl <;> first | rfl | exact absurd h (by decide)
theorem pow_le {d d0 d1 d2 k0 k1 k2 T:Int}(hd:d=1∨d=2∨d=4∨d=8)(a0:d0=1∨d0=2∨d0=4∨d0=8)(a1:d1=1∨d1=2∨d1=4∨d1=8)(a2:d2=1∨d2=2∨d2=4∨d2=8)(hT:T=d0*k0+d1*k1+d2*k2)(hp:0 < T)(h0:d≤d0)(h1:d≤d1)(h2:d≤d2):d≤T:=by
 refine x1_0 (pow_dvd hd a0 h0) fun x hq1=>?_;subst hq1
 refine x1_0 (pow_dvd hd a1 h1) fun y hq1=>?_;subst hq1
 refine x1_0 (pow_dvd hd a2 h2) fun z hq1=>?_;subst hq1
 refine Int.le_of_dvd hp ⟨x*k0+y*k1+z*k2,?_⟩
 rw [hT,Int.mul_add,Int.mul_add,Int.mul_assoc,Int.mul_assoc,Int.mul_assoc]
theorem cheap {o:Nat}{ps:Nat→List Pc}(hok:∀ s,s < 3→okO o (ps s)=true)(hT:0 < Tot o ps):∃ x∈mvAll o ps,x.1≤Tot o ps:=by
 refine x2_3 (okO_d (hok 0 (by decide))) fun d0 k0 a0 e0 b0 c0=>?_
 refine x2_3 (okO_d (hok 1 (by decide))) fun d1 k1 a1 e1 b1 c1=>?_
 refine x2_3 (okO_d (hok 2 (by decide))) fun d2 k2 a2 e2 b2 c2=>?_
 have use:∀ (s:Nat) (d:Int),s < 3→d≤Tot o ps→(∃ j,∃ hj:j < (ps s).length,((ps s)[j]).1=o∧Wo o ((ps s).drop j)≤d)→∃ x∈mvAll o ps,x.1≤Tot o ps:=by
  rintro s d hs hd ⟨j,hj,ho,hw⟩
  exact ⟨_,mvAll_has hs hj ho,Int.le_trans hw hd⟩
 have hTe:Tot o ps=d0*k0+d1*k1+d2*k2:=by rw [Tot,e0,e1,e2]
 have fin:d0=8→d1=8→d2=8→8≤Tot o ps→∃ x∈mvAll o ps,x.1≤Tot o ps:=by
  intro h0 h1 h2 h'
  have:0 < Wo o (ps 0)∨0 < Wo o (ps 1)∨0 < Wo o (ps 2):=by unfold Tot at hT;kt_len
  rcases this with h | h | h
  ·exact use 0 8 (by decide) h' (c0 h0 h)
  ·exact use 1 8 (by decide) h' (c1 h1 h)
  ·exact use 2 8 (by decide) h' (c2 h2 h)
 have all8:∀ d,8≤d→d≤d0→d≤d1→d≤d2→d≤Tot o ps→∃ x∈mvAll o ps,x.1≤Tot o ps:=fun d h8 h0 h1 h2 h=>
  fin (pow_8 a0 (Int.le_trans h8 h0)) (pow_8 a1 (Int.le_trans h8 h1)) (pow_8 a2 (Int.le_trans h8 h2)) (Int.le_trans h8 h)
 have go0:d0≤d1→d0≤d2→∃ x∈mvAll o ps,x.1≤Tot o ps:=fun h1 h2=>by
  have h:=pow_le a0 a0 a1 a2 hTe hT (Int.le_refl _) h1 h2
  rcases Int.lt_or_le d0 8 with h8 | h8
  ·exact use 0 d0 (by decide) h (b0 h8)
  ·exact all8 d0 h8 (Int.le_refl _) h1 h2 h
 have go1:d1≤d0→d1≤d2→∃ x∈mvAll o ps,x.1≤Tot o ps:=fun h1 h2=>by
  have h:=pow_le a1 a0 a1 a2 hTe hT h1 (Int.le_refl _) h2
  rcases Int.lt_or_le d1 8 with h8 | h8
  ·exact use 1 d1 (by decide) h (b1 h8)
  ·exact all8 d1 h8 h1 (Int.le_refl _) h2 h
 have go2:d2≤d0→d2≤d1→∃ x∈mvAll o ps,x.1≤Tot o ps:=fun h1 h2=>by
  have h:=pow_le a2 a0 a1 a2 hTe hT h1 h2 (Int.le_refl _)
  rcases Int.lt_or_le d2 8 with h8 | h8
  ·exact use 2 d2 (by decide) h (b2 h8)
  ·exact all8 d2 h8 h1 h2 (Int.le_refl _) h
 rcases Int.le_total d0 d1 with h01 | h01
 ·rcases Int.le_total d0 d2 with h02 | h02
  ·exact go0 h01 h02
  ·exact go2 h02 (Int.le_trans h02 h01)
 ·rcases Int.le_total d1 d2 with h12 | h12
  ·exact go1 h01 h12
  ·exact go2 (Int.le_trans h12 h01) h12
noncomputable def pieces (ps:Nat→List Pc):Nat:=(ps 0).length+(ps 1).length+(ps 2).length
theorem upd_tot {o s j:Nat}{ps:Nat→List Pc}(hs:s < 3):Tot o (upd ps s j)=Tot o ps - Wo o ((ps s).drop j):=by
 have h:∀ u,Wo o (ps u)=Wo o ((ps u).take j)+Wo o ((ps u).drop j):=fun u=>by rw [← Wo_app,List.take_append_drop]
 refine ltn3 hs ?_ ?_ ?_
 ·have:=h 0;simp only [Tot,upd];simp;kt_len
 ·have:=h 1;simp only [Tot,upd];simp;kt_len
 ·have:=h 2;simp only [Tot,upd];simp;kt_len
theorem upd_pieces {s j:Nat}{ps:Nat→List Pc}(hs:s < 3)(hj:j < (ps s).length):pieces (upd ps s j) < pieces ps:=by
 revert hj
 refine ltn3 hs ?_ ?_ ?_ <;> (intro hj;simp only [pieces,upd];simp;kt_len)
theorem game {n:Nat}{f:Int}{nl:List AV}{Q:Nat→Nat}{p:Pos}{w:Nat}(hw:w < 2)(hf:0≤f)(hf2:f < 1000)(hnl:∀ i,i < 7→∃ y,nl[7+i]?=some (.int y)) :
  ∀ (k t m:Nat) (ps:Nat→List Pc) (K:Nat→Nat) (σ:Sig) (μ:Mu),t+k=13→pieces ps+t≤12→m < 2→GSt f nl ps K Q σ μ→(∀ s,s < 3→okAll (ps s)=true)→(m=w→0 < Tot (ownC w) ps)→(m≠w→0≤Tot (ownC w) ps) →
   look σ (N "mover")=some (.int (m:Int))→look σ (N "winner")=some (.int (w:Int)) →
   ∃ st',(run FT (n+k+200)).Lp (.Name (Str.ofString "turn") p) (.vals ((List.range' t k).map fun (j:Nat)=>AV.int (j:Int))) (forB (lw 7)) ⟨kdL,σ,μ⟩=some (.ret (.bool true),st')
 | 0,t,m,ps,K,σ,μ,htk,hp,hm,G,hok,hT1,hT2,h1,h2=>by kt_len
 | k+1,t,m,ps,K,σ,μ,htk,hp,hm,G,hok,hT1,hT2,h1,h2=>by
  rw [List.range'_succ,List.map_cons]
  have a0:Ag ["turn"] σ (put σ (N "turn") (.int (t:Int))):=(Ag.refl _ _).put (by decide)
  have G0:GSt f nl ps K Q (put σ (N "turn") (.int (t:Int))) μ:=G.next (a0.mono (by decide)) (fun _ _=>rfl) (Nat.le_refl _)
  have h1':=(a0 "mover" (by decide)).trans h1
  have h2':=(a0 "winner" (by decide)).trans h2
  rw [show n+(k+1)+200=n+k+200+1 by kt_len,lp_int sk_turn]
  have hoo:∀ m,ownC m=104∨ownC m=112:=ownC_or
  by_cases hmv:mvAll (ownC m) ps=[]
  ·refine x1_0 (turn_end (n:=n+k) G0 h1' hm h2' hmv) fun st' r=>?_
   have hne:m≠w:=by
    rintro rfl
    refine x1_1 (cheap (fun s hs=>okAll_o (hok s hs) (hoo m)) (hT1 rfl)) fun x hx _=>?_
    rw [hmv] at hx;cases hx
   have:((m:Int)==(w:Int))=false:=beq_eq_false_iff_ne.2 (by kt_len)
   rw [this] at r
   exact ⟨st',by rw [r];rfl⟩
  ·obtain ⟨x,hx,hmin,σ',μ',K',r,G',m',w'⟩:=turn_go (n:=n+k) G0 h1' hm h2' (look_same ..) (by kt_len) hf hf2 hnl hmv
   obtain ⟨hs,hj,ho,hc⟩:=mvAll_mem hx
   have hpc:=upd_pieces hs hj
   have hT':=upd_tot (o:=ownC w) (j:=x.2.2) (ps:=ps) hs
   have hok':∀ s,s < 3→okAll (upd ps x.2.1 x.2.2 s)=true:=fun s hs=>by
    unfold upd
    split
    ·exact okAll_take (hok s hs) _
    ·exact hok s hs
   obtain ⟨st',r'⟩:=game (n:=n) (p:=p) hw hf hf2 hnl k (t+1) (1 - m) (upd ps x.2.1 x.2.2) K' σ' μ' (by kt_len) (by kt_len) (by kt_len) G' hok'
    (fun e=>by
     have hne:m≠w:=fun h=>absurd (e.trans h.symm) ((by decide:∀ m,m < 2→¬ 1 - m=m) m hm)
     have hpos:=okO_pos (okAll_o (hok _ hs) (hoo m)) hj ho
     have hneg:Wo (ownC w) ((ps x.2.1).drop x.2.2)=- Wo (ownC m) ((ps x.2.1).drop x.2.2):=by
      have:=Wo_neg ((ps x.2.1).drop x.2.2) fun p hp=>G.ok _ hs p (List.mem_of_mem_drop hp)
      have hcase:=(by decide:∀ m,m < 2→∀ w,w < 2→m≠w→(m=0∧w=1)∨(m=1∧w=0)) m hm w hw hne
      rcases hcase with ⟨rfl,rfl⟩ | ⟨rfl,rfl⟩
      ·show Wo 112 _=- Wo 104 _
       kt_len
      ·exact this
     have:=hT2 hne
     kt_len)
    (fun e=>by
     have hmw:=(by decide:∀ m,m < 2→∀ w,w < 2→1 - m≠w→m=w) m hm w hw e
     subst hmw
     refine x1_1 (cheap (fun s hs=>okAll_o (hok s hs) (hoo m)) (hT1 rfl)) fun y hy hle=>?_
     have:=hmin rfl y hy
     kt_len) m' w'
   refine ⟨st',?_⟩
   rw [r,Option.bind_some]
   exact r'
end
section
noncomputable def W6 (i:Nat):List Nat:=[[104],[112],[104,112],[112,104],[104,104],[112,112]].getD i []
noncomputable def isStr (o:Option (AFlow × St))(l:List Nat):Bool:=match o with
 | some (.ret (.str a),_)=>a==l
 | _=>false
noncomputable def isBool (o:Option (AFlow × St))(b:Bool):Bool:=match o with
 | some (.ret (.bool a),_)=>a==b
 | _=>false
theorem isStr_ok {o:Option (AFlow × St)}{l:List Nat}(h:isStr o l=true):∃ st,o=some (.ret (.str l),st):=by
 rcases o with _ | ⟨f,st⟩
 ·exact ftC h
 induction f using AFlow.casesOn with
 | ret v=>induction v using AV.casesOn with
  | str a=>exact ⟨st,by rw [eq_of_beq h]⟩
  | _=>exact ftC h
 | _=>exact ftC h
theorem isBool_ok {o:Option (AFlow × St)}{l:Bool}(h:isBool o l=true):∃ st,o=some (.ret (.bool l),st):=by
 rcases o with _ | ⟨f,st⟩
 ·exact ftC h
 induction f using AFlow.casesOn with
 | ret v=>induction v using AV.casesOn with
  | bool a=>exact ⟨st,by rw [eq_of_beq h]⟩
  | _=>exact ftC h
 | _=>exact ftC h
noncomputable def padC (n:Nat)(c f w:Nat):Bool:=isStr ((run FT (n+100)).SS (fBody (pb 9)) ⟨(fScope (pb 9)).names,(mkUF (pb 9)).ps.zip [.str (sp f++[c]++sp (8 - f)),.int ((8:Int) - (w:Int))],[]⟩) (sp (f+w - 8)++[c]++sp (w - (f+w - 8)))
theorem pad_all (n:Nat):([104,112].all fun c=>(List.range 9).all fun f=>[8,4,2,1].all fun w=>padC n c f w)=true:=by kernel_rfl!
noncomputable def dotJ:List Nat→List Nat
 | []=>[]
 | [c]=>[c]
 | c::l=>c::(dots++dotJ l)
noncomputable def ellC (n:Nat)(t more:List Nat):Bool:=isBool ((run FT (n+100)).SS (fBody (pb 6)) ⟨kd6,(mkUF (pb 6)).ps.zip [.str (dotJ (t++more)),.str t],[]⟩) (more==[])
end
section
noncomputable def kd16:List (Str × NameKind):=(fScope (pb 16)).names
noncomputable def t16 (i:Nat):Stmt:=(fBody (pb 16)).getD i (.Pass ⟨0,0,0,0⟩)
theorem body16:fBody (pb 16)=[t16 0,t16 1,t16 2,t16 3,t16 4]:=by kernel_rfl!
noncomputable def ifB:Stmt→List Stmt
 | .If _ _ b _=>b
 | _=>[]
theorem t16_2:∃ p,t16 2=.If (ifT (t16 2)) (ifA (t16 2)) (ifB (t16 2)) p:=⟨_,rfl⟩
noncomputable def tyB (a b:Nat):List Nat:=
 if b < 2 then (W6 a).map fun c=>c - 32*b
 else (W6 a).map fun c=>119711+52*([0,1,2,4,7,8,9,10,11,12].getD (b - 2) 0)+c
noncomputable def sg2 (x y:AV)(a b:Nat):Sig:=[(N "n",x),(N "form",y),(N "meant",.str (W6 a)),(N "block",.int (b:Int))]
noncomputable def sg3 (x y:AV)(a b:Nat):Sig:=[(N "n",x),(N "form",y),(N "meant",.str (W6 a)),(N "block",.int (b:Int))]++(if b < 2 then [] else [(N "start",.int ((119711+52*([0,1,2,4,7,8,9,10,11,12].getD (b - 2) 0):Nat):Int))])++[(N "typed",.str (tyB a b))]
noncomputable def muOf (o:Option (AFlow × St)):Mu:=match o with
 | some (_,st)=>st.μ
 | none=>[]
theorem t2_B (n:Nat)(x y:AV)(a b:Nat)(ha:a < 6)(hb:b < 12):(run FT (n+80)).SS (ifB (t16 2)) ⟨kd16,sg2 x y a b,[]⟩=some (.next,⟨kd16,sg3 x y a b,muOf ((run FT (n+80)).SS (ifB (t16 2)) ⟨kd16,sg2 x y a b,[]⟩)⟩):=by
 refine ltn6 ha ?_ ?_ ?_ ?_ ?_ ?_ <;> refine ltn12 hb ?_ ?_ ?_ ?_ ?_ ?_ ?_ ?_ ?_ ?_ ?_ ?_ <;> clear ha hb <;> kernel_rfl!
end
section
theorem dL5:decide (0+1+1+1+1+1≤1000)=true:=Eq.trans (by decide) (Eq.refl true)
theorem dL6:decide (0+1+1+1+1+1+1≤1000)=true:=Eq.trans (by decide) (Eq.refl true)
theorem dL11:decide (0+1+1+1+1+1+1+1+1+1+1+1≤1000)=true:=Eq.trans (by decide) (Eq.refl true)
theorem cPh:(Str.ofString "ph").cps.toList=[112,104]:=by kernel_rfl!
theorem cHh:(Str.ofString "hh").cps.toList=[104,104]:=by kernel_rfl!
theorem cPp:(Str.ofString "pp").cps.toList=[112,112]:=by kernel_rfl!
theorem l16_n:locOk kd16 (Str.ofString "n")=true:=Eq.trans (by kernel_rfl!) (Eq.refl true)
theorem l16_form:locOk kd16 (Str.ofString "form")=true:=Eq.trans (by kernel_rfl!) (Eq.refl true)
theorem l16_meant:locOk kd16 (Str.ofString "meant")=true:=Eq.trans (by kernel_rfl!) (Eq.refl true)
theorem l16_block:locOk kd16 (Str.ofString "block")=true:=Eq.trans (by kernel_rfl!) (Eq.refl true)
theorem l16_typed:locOk kd16 (Str.ofString "typed")=true:=Eq.trans (by kernel_rfl!) (Eq.refl true)
theorem l16_code:locOk kd16 (Str.ofString "code")=true:=Eq.trans (by kernel_rfl!) (Eq.refl true)
theorem s16_form:stoOk kd16 (Str.ofString "form")=true:=Eq.trans (by kernel_rfl!) (Eq.refl true)
theorem s16_meant:stoOk kd16 (Str.ofString "meant")=true:=Eq.trans (by kernel_rfl!) (Eq.refl true)
theorem s16_block:stoOk kd16 (Str.ofString "block")=true:=Eq.trans (by kernel_rfl!) (Eq.refl true)
theorem s16_typed:stoOk kd16 (Str.ofString "typed")=true:=Eq.trans (by kernel_rfl!) (Eq.refl true)
theorem s16_code:stoOk kd16 (Str.ofString "code")=true:=Eq.trans (by kernel_rfl!) (Eq.refl true)
theorem g16_chr:globOk kd16 (Str.ofString "chr")=true:=Eq.trans (by kernel_rfl!) (Eq.refl true)
theorem pChr {r:Rec}{i:Nat}{st:St}(h:i < 1114112):prim FT r (nm (Str.ofString "chr")) [.int (i:Int)] st=some (.str [i],st):=by
 unfold prim
 rw [if_neg (nb (by kernel_rfl!)),if_pos (by kernel_rfl!)]
 show Option.bind (some (i:Int)) _=_
 rw [Option.bind_some,if_pos (by kt_len),Int.toNat_natCast]
noncomputable def cd (k:Nat):Nat:=if k < 11 then [173,847,6150,6155,6156,6157,8203,8204,8205,8288,65279].getD k 0 else 65013+k
noncomputable def tyW (a o b:Nat):List Nat:=if o=1∧(a=2∨a=3) then [13259+12*(a - 2)] else tyB a b
section
variable {n a o b k:Nat}{q r:Int}{σ:Sig}{μ:Mu}
theorem t0_ok (ha:r.fmod 6=(a:Int))(ha6:a < 6)(h1:look σ (N "n")=some (.lin 3888 q r)):(run FT (n+20)).S (t16 0) ⟨kd16,σ,μ⟩=some (.next,⟨kd16,put (put σ (N "form") (.lin 648 q (r.fdiv 6))) (N "meant") (.str (W6 a)),μ⟩):=by
 have b1:binA .Mod (.lin 3888 q r) (.int 6)=some (.int (a:Int)):=by rw [← ha];kernel_rfl!
 have b2:binA .FloorDiv (.lin 3888 q r) (.int 6)=some (.lin 648 q (r.fdiv 6)):=by kernel_rfl!
 have g1:getA μ (.tup [.str [104],.str [112],.str [104,112],.str [112,104],.str [104,104],.str [112,112]]) (.int (a:Int))=some (.str (W6 a)):=getA_tup (by
  refine ltn6 (show a < 6 by kt_len) ?_ ?_ ?_ ?_ ?_ ?_ <;> rfl) (by kt_len)
 conv in t16 0=>whnf
 rw [sAsTup1 [Str.ofString "meant",Str.ofString "form"] rfl (by kernel_rfl!)]
 simp only [QC,eConst,eBin,eTup,esNil,Option.bind_some,Option.map_some,List.all_cons,List.all_nil,Bool.and_true,List.length_cons,List.length_nil,ite_true,gq4,gq5,QD,cH,cP,cHp,cPh,cHh,cPp,l16_n,dL6, *]
 rfl
theorem t1_ok {r1:Int}(hb:(r1.fdiv 2).fmod 12=(b:Int))(h1:look σ (N "form")=some (.lin 648 q r1)):(run FT (n+20)).S (t16 1) ⟨kd16,σ,μ⟩=some (.next,⟨kd16,put σ (N "block") (.int (b:Int)),μ⟩):=by
 have b1:binA .FloorDiv (.lin 648 q r1) (.int 2)=some (.lin 324 q (r1.fdiv 2)):=by kernel_rfl!
 have b2:binA .Mod (.lin 324 q (r1.fdiv 2)) (.int 12)=some (.int (b:Int)):=by rw [← hb];kernel_rfl!
 conv in t16 1=>whnf
 simp only [QC,eConst,eBin,Option.bind_some,Option.map_some,gq4,l16_form,s16_block, *]
theorem t2_test {r1:Int}(ha:r.fmod 6=(a:Int))(ha6:a < 6)(ho:r1.fmod 2=(o:Int))(ho2:o < 2)(h1:look σ (N "n")=some (.lin 3888 q r))(h2:look σ (N "form")=some (.lin 648 q r1)) :
  (run FT (n+20)).T (ifT (t16 2)) ⟨kd16,σ,μ⟩=some (o==1&&(a==2||a==3),⟨kd16,σ,μ⟩):=by
 have b1:binA .Mod (.lin 3888 q r) (.int 6)=some (.int (a:Int)):=by rw [← ha];kernel_rfl!
 have b2:binA .Mod (.lin 648 q r1) (.int 2)=some (.int (o:Int)):=by rw [← ho];kernel_rfl!
 have g1:cmpA μ .In (.int (a:Int)) (.tup [.int 2,.int 3])=some (.bool (a==2||a==3)):=by
  refine ltn6 (show a < 6 by kt_len) ?_ ?_ ?_ ?_ ?_ ?_ <;> rfl
 have h:o=0∨o=1:=by kt_len
 rcases h with rfl | rfl
 ·have g2:cmpA μ .Eq (.int ((0:Nat):Int)) (.int 1)=some (.bool false):=rfl
  conv in ifT (t16 2)=>whnf
  simp only [QC,eConst,eBin,eTup,esNil,tBool,tsOne,tsCons,Option.bind_some,Option.map_some,List.all_cons,List.all_nil,Bool.and_true,List.length_cons,List.length_nil,ite_true,gq4,QD,tru_b,l16_form, *]
  rfl
 ·have g2:cmpA μ .Eq (.int ((1:Nat):Int)) (.int 1)=some (.bool true):=rfl
  conv in ifT (t16 2)=>whnf
  simp only [QC,eConst,eBin,eTup,esNil,tBool,tsOne,tsCons,Option.bind_some,Option.map_some,List.all_cons,List.all_nil,Bool.and_true,Bool.true_and,beq_self_eq_true,List.length_cons,List.length_nil,ite_true,gq4,QD,tru_b,l16_n,l16_form, *]
theorem t2_A' {z:Int}{l:List Nat}(b1:binA .Mod (.lin 3888 q r) (.int 6)=some (.int (a:Int)))(b2:binA .Mult (.int 12) (.int ((a:Int) - 2))=some (.int (12*((a:Int) - 2))))(e:(13259:Int)+12*((a:Int) - 2)=z)(g1:∀ r st,prim FT r (nm (Str.ofString "chr")) [.int z] st=some (.str l,st))(h1:look σ (N "n")=some (.lin 3888 q r)):(run FT (n+20)).SS (ifA (t16 2)) ⟨kd16,σ,μ⟩=some (.next,⟨kd16,put σ (N "typed") (.str l),μ⟩):=by
 conv in ifA (t16 2)=>whnf
 simp only [QC,eConst,eBin,esNil,ssNil,ssCons,Option.bind_some,Option.map_some,List.all_cons,List.all_nil,Bool.and_true,gq4,sub_i,add_i,l16_n,s16_typed,g16_chr, *]
theorem t2_A (ha:r.fmod 6=(a:Int))(ha6:a=2∨a=3)(h1:look σ (N "n")=some (.lin 3888 q r)):(run FT (n+20)).SS (ifA (t16 2)) ⟨kd16,σ,μ⟩=some (.next,⟨kd16,put σ (N "typed") (.str [13259+12*(a - 2)]),μ⟩):=by
 have b1:binA .Mod (.lin 3888 q r) (.int 6)=some (.int (a:Int)):=by rw [← ha];kernel_rfl!
 have b2:binA .Mult (.int 12) (.int ((a:Int) - 2))=some (.int (12*((a:Int) - 2))):=by
  rcases ha6 with rfl | rfl <;> rfl
 exact t2_A' (z:=((13259+12*(a - 2):Nat):Int)) b1 b2 (by kt_len) (fun r st=>pChr (by kt_len)) h1
theorem t3_ok {r1:Int}(hk:(r1.fdiv 24).fmod 27=(k:Int))(hk2:k < 27)(h1:look σ (N "form")=some (.lin 648 q r1)):(run FT (n+30)).S (t16 3) ⟨kd16,σ,μ⟩=some (.next,⟨kd16,put σ (N "code") (.int (cd k:Nat)),μ⟩):=by
 have b1:binA .FloorDiv (.lin 648 q r1) (.int 24)=some (.lin 27 q (r1.fdiv 24)):=by kernel_rfl!
 have b2:binA .Mod (.lin 27 q (r1.fdiv 24)) (.int 27)=some (.int (k:Int)):=by rw [← hk];kernel_rfl!
 have c1:cmpA μ .Lt (.int (k:Int)) (.int 11)=some (.bool (decide (k < 11))):=by
  show some (AV.bool (decide ((k:Int) < 11)))=_
  rw [show decide ((k:Int) < 11)=decide (k < 11) from decide_eq_decide.2 (by kt_len)]
 by_cases h:k < 11
 ·have c2:decide (k < 11)=true:=decide_eq_true h
  have g1:getA μ (.tup [.int 173,.int 847,.int 6150,.int 6155,.int 6156,.int 6157,.int 8203,.int 8204,.int 8205,.int 8288,.int 65279]) (.int (k:Int))=some (.int (cd k:Nat)):=getA_tup (by
   refine ltn11 (show k < 11 by kt_len) ?_ ?_ ?_ ?_ ?_ ?_ ?_ ?_ ?_ ?_ ?_ <;> rfl) (by kt_len)
  clear h
  conv in t16 3=>whnf
  simp only [QC,eConst,eBin,eTup,esNil,ssNil,ssCons,sIf,Option.bind_some,Option.map_some,List.all_cons,List.all_nil,Bool.and_true,List.length_cons,List.length_nil,ite_true,gq4,tru_b,add_i,l16_form,s16_code,dL11, *]
 ·have c2:decide (k < 11)=false:=decide_eq_false h
  have e:(65013:Int)+(k:Int)=(cd k:Nat):=by unfold cd;rw [if_neg h];kt_len
  clear h
  conv in t16 3=>whnf
  simp only [QC,eConst,eBin,eTup,esNil,ssNil,ssCons,sIf,Option.bind_some,Option.map_some,List.all_cons,List.all_nil,Bool.and_true,List.length_cons,List.length_nil,ite_true,ite_false,Bool.false_eq_true,gq4,tru_b,add_i,l16_form,s16_code,dL11, *]
theorem t4_ok' {t l m:List Nat}{z:Int}(h1:look σ (N "typed")=some (.str t))(h2:look σ (N "code")=some (.int z))(h3:look σ (N "meant")=some (.str m))(g2:binA .Add (.str t) (.str l)=some (.str (t++l)))(g1:∀ r st,prim FT r (nm (Str.ofString "chr")) [.int z] st=some (.str l,st)): (run FT (n+20)).S (t16 4) ⟨kd16,σ,μ⟩=some (.ret (.tup [.str (t++l),.str m]),⟨kd16,σ,μ⟩):=by
 conv in t16 4=>whnf
 simp only [QC,eBin,eTup,esNil,sRet,Option.bind_some,Option.map_some,List.all_cons,List.all_nil,Bool.and_true,List.length_cons,List.length_nil,ite_true,QD,l16_meant,l16_typed,l16_code,g16_chr, *]
theorem cd_lt {k:Nat}(hk:k < 27):cd k < 1114112:=by
 unfold cd;split
 ·refine ltn11 (show k < 11 by kt_len) ?_ ?_ ?_ ?_ ?_ ?_ ?_ ?_ ?_ ?_ ?_ <;> decide
 ·kt_len
theorem t4_ok {t:List Nat}(ht:t.length < 1000)(h1:look σ (N "typed")=some (.str t))(h2:look σ (N "code")=some (.int (cd k:Nat)))(h3:look σ (N "meant")=some (.str (W6 a)))(hk:k < 27):(run FT (n+20)).S (t16 4) ⟨kd16,σ,μ⟩=some (.ret (.tup [.str (t++[cd k]),.str (W6 a)]),⟨kd16,σ,μ⟩):=
 t4_ok' h1 h2 h3 (add_s (by kt_len) (by simp)) fun r st=>pChr (cd_lt hk)
end
end
section
theorem ps16:(mkUF (pb 16)).ps=[N "n"]:=by kernel_rfl!
theorem sg2_eq (x y:AV)(a b:Nat):put (put (put [(N "n",x)] (N "form") y) (N "meant") (.str (W6 a))) (N "block") (.int (b:Int))=sg2 x y a b:=by kernel_rfl!
theorem sg2_n (x y:AV)(a b:Nat):look (sg2 x y a b) (N "n")=some x:=by kernel_rfl!
theorem sg2_form (x y:AV)(a b:Nat):look (sg2 x y a b) (N "form")=some y:=by kernel_rfl!
theorem sg2_meant (x y:AV)(a b:Nat):look (sg2 x y a b) (N "meant")=some (.str (W6 a)):=by kernel_rfl!
theorem sg3_form (x y:AV)(a b:Nat):look (sg3 x y a b) (N "form")=some y:=by unfold sg3;split <;> kernel_rfl!
theorem sg3_meant (x y:AV)(a b:Nat):look (sg3 x y a b) (N "meant")=some (.str (W6 a)):=by unfold sg3;split <;> kernel_rfl!
theorem sg3_typed (x y:AV)(a b:Nat):look (sg3 x y a b) (N "typed")=some (.str (tyB a b)):=by unfold sg3;split <;> kernel_rfl!
theorem tyW_len (a o b:Nat):(tyW a o b).length≤2:=by
 have h:(W6 a).length≤2:=by
  match a with
  | 0=>decide
  | 1=>decide
  | 2=>decide
  | 3=>decide
  | 4=>decide
  | 5=>decide
  | n+6=>show ([]:List Nat).length≤2;decide
 unfold tyW tyB
 split
 ·simp
 ·split <;> rw [List.length_map] <;> exact h
theorem ty_run {n a o b k:Nat}{q r:Int}(ha:r.fmod 6=(a:Int))(ha6:a < 6)(ho:(r.fdiv 6).fmod 2=(o:Int))(ho2:o < 2)(hb:((r.fdiv 6).fdiv 2).fmod 12=(b:Int))(hb2:b < 12)(hk:((r.fdiv 6).fdiv 24).fmod 27=(k:Int))(hk2:k < 27) :
  ∃ st',(run FT (n+100)).SS (fBody (pb 16)) ⟨kd16,[(N "n",.lin 3888 q r)],[]⟩=some (.ret (.tup [.str (tyW a o b++[cd k]),.str (W6 a)]),st'):=by
 have h2:∃ σ' μ',(run FT (n+97)).S (t16 2) ⟨kd16,sg2 (.lin 3888 q r) (.lin 648 q (r.fdiv 6)) a b,[]⟩=some (.next,⟨kd16,σ',μ'⟩)∧look σ' (N "typed")=some (.str (tyW a o b))∧look σ' (N "form")=some (.lin 648 q (r.fdiv 6))∧look σ' (N "meant")=some (.str (W6 a)):=by
  refine x1_0 t16_2 fun p e=>?_
  have ht:=t2_test (n:=n+76) (σ:=sg2 (.lin 3888 q r) (.lin 648 q (r.fdiv 6)) a b) (μ:=[]) ha ha6 ho ho2 (sg2_n ..) (sg2_form ..)
  have hs:(run FT (n+97)).S (t16 2) ⟨kd16,sg2 (.lin 3888 q r) (.lin 648 q (r.fdiv 6)) a b,[]⟩=((run FT (n+96)).T (ifT (t16 2)) ⟨kd16,sg2 (.lin 3888 q r) (.lin 648 q (r.fdiv 6)) a b,[]⟩).bind fun (c,st)=>if c then (run FT (n+96)).SS (ifA (t16 2)) st else (run FT (n+96)).SS (ifB (t16 2)) st:=by
   conv=>lhs;rw [e]
   exact sIf
  rw [hs]
  rw [show n+96=n+76+20 by kt_len,ht,Option.bind_some]
  dsimp only
  by_cases hc:o=1∧(a=2∨a=3)
  ·have:(o==1&&(a==2||a==3))=true:=by
    rcases hc with ⟨rfl,rfl | rfl⟩ <;> rfl
   rw [this,if_pos rfl,t2_A ha hc.2 (sg2_n ..)]
   refine ⟨_,_,rfl,?_,?_,?_⟩
   ·rw [look_same,tyW,if_pos hc]
   ·rw [look_ne (by decide),sg2_form]
   ·rw [look_ne (by decide),sg2_meant]
  ·have:(o==1&&(a==2||a==3))=false:=by
    rw [Bool.eq_false_iff]
    intro h
    rw [Bool.and_eq_true,Bool.or_eq_true,beq_iff_eq,beq_iff_eq,beq_iff_eq] at h
    exact hc h
   rw [this,if_neg (by decide),show n+76+20=n+16+80 by kt_len,t2_B _ _ _ _ _ ha6 hb2]
   refine ⟨_,_,rfl,?_,sg3_form ..,sg3_meant ..⟩
   rw [tyW,if_neg hc];exact sg3_typed ..
 refine x2_3 h2 fun σ' μ' h2 l1 l2 l3=>?_
 rw [body16]
 refine re (t0_ok (n:=n+79) (q:=q) ha ha6 (by simp [look])) ?_
 refine re (t1_ok (n:=n+78) hb (by kt_ors)) ?_
 rw [sg2_eq]
 refine re h2 ?_
 refine re (t3_ok (n:=n+66) hk hk2 l2) ?_
 exact ⟨_,ss_ret (t4_ok (n:=n+75) (k:=k) (by have:=tyW_len a o b;kt_len) (by kt_ors;exact l1) (look_same ..) (by kt_ors;exact l3) hk2)⟩
noncomputable def rA (r:Nat):Nat:=r % 6
noncomputable def rO (r:Nat):Nat:=r / 6 % 2
noncomputable def rB (r:Nat):Nat:=r / 12 % 12
noncomputable def rK (r:Nat):Nat:=r / 144 % 27
theorem ty_call {n r:Nat}{q:Int}{st:St}:callUF (run FT (n+100)) (mkUF (pb 16)) [.lin 3888 q (r:Int)] st=some (.tup [.str (tyW (rA r) (rO r) (rB r)++[cd (rK r)]),.str (W6 (rA r))],st):=by
 have d1:∀ (x:Int) (m:Int),0 < m→x.fdiv m=x / m:=fun x m h=>Int.fdiv_eq_ediv_of_nonneg _ (by kt_len)
 have d2:∀ (x:Int) (m:Int),0 < m→x.fmod m=x % m:=fun x m h=>Int.fmod_eq_emod_of_nonneg _ (by kt_len)
 obtain ⟨st',h⟩:=ty_run (n:=n) (q:=q) (r:=(r:Int)) (a:=rA r) (o:=rO r) (b:=rB r) (k:=rK r)
  (by rw [d2 _ _ (by decide)];unfold rA;kt_len) (by unfold rA;kt_len)
  (by rw [d1 _ _ (by decide),d2 _ _ (by decide)];unfold rO;kt_len) (by unfold rO;kt_len)
  (by rw [d1 _ _ (by decide),d1 _ _ (by decide),d2 _ _ (by decide)];unfold rB;exact congrArg (fun x:Nat=>((x % 12:Nat):Int)) (Nat.div_div_eq_div_mul r 6 2)) (by unfold rB;kt_len)
  (by rw [d1 _ _ (by decide),d1 _ _ (by decide),d2 _ _ (by decide)];unfold rK;exact congrArg (fun x:Nat=>((x % 27:Nat):Int)) (Nat.div_div_eq_div_mul r 6 24)) (by unfold rK;kt_len)
 exact callUF_ok (by rw [ps16];exact h) (by rw [ps16];rfl) rfl
end
section
noncomputable def kd12:List (Str × NameKind):=(fScope (pb 12)).names
theorem l12_code:locOk kd12 (Str.ofString "code")=true:=Eq.trans (by kernel_rfl!) (Eq.refl true)
theorem g12_ord:globOk kd12 (Str.ofString "ord")=true:=Eq.trans (by kernel_rfl!) (Eq.refl true)
theorem e12_set {n:Nat}{p:Pos}{σ:Sig}{μ:Mu}:(run FT (n+1)).E (.Name (Str.ofString "b1_set") p) ⟨kd12,σ,μ⟩=some (.tb 1,⟨kd12,σ,μ⟩):=by kernel_rfl!
theorem pOrd {r:Rec}{c:Nat}{st:St}:prim FT r (nm (Str.ofString "ord")) [.str [c]] st=some (.int (c:Int),st):=by kernel_rfl!
noncomputable def inB1 (c:Nat):Bool:=b1L.any (·==(c:Int))
section
variable {n:Nat}{σ:Sig}{μ:Mu}{c:Nat}{st:St}
theorem b1_run (h1:look σ (N "code")=some (.str [c])):(run FT (n+20)).SS (fBody (pb 12)) ⟨kd12,σ,[]⟩=some (.ret (.bool (inB1 c)),⟨kd12,σ,[]⟩):=by
 have g1:∀ r st,prim FT r (nm (Str.ofString "ord")) [.str [c]] st=some (.int (c:Int),st):=fun r st=>pOrd
 have g2:∀ μ,cmpA μ .In (.int (c:Int)) (.tb 1)=some (.bool (inB1 c)):=fun _=>rfl
 conv in fBody (pb 12)=>whnf
 simp only [QC,esNil,ssNil,ssCons,sRet,Option.bind_some,Option.map_some,List.all_cons,List.all_nil,Bool.and_true,l12_code,g12_ord,e12_set, *]
theorem ps12:(mkUF (pb 12)).ps=[N "code"]:=by kernel_rfl!
theorem b1_call:callUF (run FT (n+20)) (mkUF (pb 12)) [.str [c]] st=some (.bool (inB1 c),st):=
 callUF_ok (by rw [ps12];exact b1_run (n:=n) (by simp [look])) (by rw [ps12];rfl) rfl
end
noncomputable def chB (b c:Nat):Nat:=if b < 2 then c - 32*b else 119711+52*([0,1,2,4,7,8,9,10,11,12].getD (b - 2) 0)+c
noncomputable def C26:List (Nat × List Nat):=(13259,[104,112])::(13271,[112,104])::((List.range 12).map fun b=>(chB b 104,[104]))++((List.range 12).map fun b=>(chB b 112,[112]))
noncomputable def b3C (n:Nat)(p:Nat × List Nat):Bool:=isStr ((run FT (n+100)).SS (fBody (pb 14)) ⟨(mkUF (pb 14)).kd,(mkUF (pb 14)).ps.zip [.str [p.1]],[]⟩) p.2
theorem b3_all (n:Nat):(C26.all fun p=>b3C n p)=true:=by kernel_rfl!
theorem b1_no:(C26.all fun p=>!inB1 p.1)=true:=by decide +kernel
theorem b1_cd:((List.range 27).all fun k=>inB1 (cd k))=true:=by decide +kernel
theorem ps14:(mkUF (pb 14)).ps=[N "code"]:=by kernel_rfl!
theorem b3_call {n:Nat}{st:St}{p:Nat × List Nat}(h:p∈C26):callUF (run FT (n+100)) (mkUF (pb 14)) [.str [p.1]] st=some (.str p.2,st):=by
 refine x1_0 (isStr_ok (List.all_eq_true.1 (b3_all n) p h)) fun st' h'=>?_
 exact callUF_ok h' (by rw [ps14];rfl) rfl
theorem b1_no' {p:Nat × List Nat}(h:p∈C26):inB1 p.1=false:=by
 have:=List.all_eq_true.1 b1_no p h
 simpa using this
theorem b1_cd' {k:Nat}(h:k < 27):inB1 (cd k)=true:=List.all_eq_true.1 b1_cd k (by simpa using h)
noncomputable def tyP (a o b:Nat):List (Nat × List Nat):=if o=1∧(a=2∨a=3) then [(13259+12*(a - 2),W6 a)] else (W6 a).map fun c=>(chB b c,[c])
noncomputable def tyPC (a o b:Nat):Bool:=(tyP a o b).all (fun p=>C26.contains p)&&((tyP a o b).map (·.1)==tyW a o b)&&((tyP a o b).map (·.2)).flatten==W6 a
theorem tyP_all:((List.range 6).all fun a=>(List.range 2).all fun o=>(List.range 12).all fun b=>tyPC a o b)=true:=by decide +kernel
theorem tyP_ok {a o b:Nat}(ha:a < 6)(ho:o < 2)(hb:b < 12):(∀ p∈tyP a o b,p∈C26)∧(tyP a o b).map (·.1)=tyW a o b∧((tyP a o b).map (·.2)).flatten=W6 a:=by
 have h:=List.all_eq_true.1 (List.all_eq_true.1 (List.all_eq_true.1 tyP_all a (by simpa using ha)) o (by simpa using ho)) b (by simpa using hb)
 unfold tyPC at h
 rw [Bool.and_eq_true,Bool.and_eq_true,beq_iff_eq,beq_iff_eq] at h
 exact ⟨fun p hp=>by simpa using List.all_eq_true.1 h.1.1 p hp,h.1.2,h.2⟩
end
section
noncomputable def ga (i:Nat):Stmt:=(forB (lw 4)).getD i (.Pass ⟨0,0,0,0⟩)
noncomputable def gn (i:Nat):Stmt:=(forB (ga 1)).getD i (.Pass ⟨0,0,0,0⟩)
noncomputable def gp (i:Nat):Stmt:=(forB (ga 7)).getD i (.Pass ⟨0,0,0,0⟩)
theorem gas:forB (lw 4)=[ga 0,ga 1,ga 2,ga 3,ga 4,ga 5,ga 6,ga 7,ga 8,ga 9,ga 10,ga 11]:=by kernel_rfl!
theorem gns:forB (ga 1)=[gn 0,gn 1,gn 2,gn 3]:=by kernel_rfl!
theorem gps:forB (ga 7)=[gp 0,gp 1,gp 2,gp 3,gp 4,gp 5,gp 6]:=by kernel_rfl!
theorem gn1_for:∃ p q,gn 1=.For (.Name (Str.ofString "place") p) (forI (gn 1)) (forB (gn 1)) [] q:=⟨_,_,rfl⟩
theorem ga1_for:∃ p q,ga 1=.For (.Name (Str.ofString "n") p) (forI (ga 1)) (forB (ga 1)) [] q:=⟨_,_,rfl⟩
theorem ga3_for:∃ p q,ga 3=.For (.Name (Str.ofString "more") p) (forI (ga 3)) (forB (ga 3)) [] q:=⟨_,_,rfl⟩
theorem ga7_for:∃ p q,ga 7=.For (.Name (Str.ofString "place") p) (forI (ga 7)) (forB (ga 7)) [] q:=⟨_,_,rfl⟩
theorem aug_s {a b:List Nat}(h1:a.length < 100000)(h2:b.length < 100000):augA .Add (.str a) (.str b)=some (.str (a++b)):=by
 show (if strOk a&&strOk b then _ else _)=_
 rw [strOk_of h1,strOk_of h2];rfl
section
variable {n s:Nat}{σ:Sig}{μ:Mu}{l m t:List Nat}
theorem ga0_ok:(run FT (n+20)).S (ga 0) ⟨kdL,σ,μ⟩=some (.next,⟨kdL,put (put σ (N "typed") (.str [])) (N "text") (.str []),μ⟩):=by
 conv in ga 0=>whnf
 rw [sAsTup0 rfl (by kernel_rfl!)]
 simp only [QC,eConst,eTup,esNil,Option.bind_some,Option.map_some,List.all_cons,List.all_nil,Bool.and_true,List.length_cons,List.length_nil,ite_true,gq1,gq2,gq3,gq5,QD,cNil, *]
theorem gn0_ok {x:AV}(h1:look σ (N "n")=some x)(hc:∀ st,callUF (run FT (n+118)) (mkUF (pb 16)) [x] st=some (.tup [.str l,.str m],st)):(run FT (n+120)).S (gn 0) ⟨kdL,σ,μ⟩=some (.next,⟨kdL,put (put σ (N "signs") (.str l)) (N "meant") (.str m),μ⟩):=by
 conv in gn 0=>whnf
 rw [sAsTup0 rfl (by kernel_rfl!)]
 simp only [QC,esNil,Option.bind_some,Option.map_some,List.all_cons,List.all_nil,Bool.and_true,gq1,gq2,gq3,QD, *]
theorem gn1_args (h1:look σ (N "signs")=some (.str l))(hl:l.length < 1000):(run FT (n+20)).Es (rgA (forI (gn 1))) ⟨kdL,σ,μ⟩=some ([.int (l.length:Int)],⟨kdL,σ,μ⟩):=by
 have g1:∀ r st,prim FT r (nm (Str.ofString "len")) [.str l] st=some (.int l.length,st):=fun r st=>pLenS (strOk_of (by kt_len))
 conv in rgA (forI (gn 1))=>whnf
 simp only [QC,esNil,Option.bind_some,Option.map_some,List.all_cons,List.all_nil,Bool.and_true, *]
theorem gn1_body {i c:Nat}(h1:look σ (N "signs")=some (.str l))(h2:look σ (N "place")=some (.int (i:Int)))(hi:l[i]?=some c)(hb:inB1 c=decide (i+1=l.length))(hl:l.length < 1000):(run FT (n+60)).SS (forB (gn 1)) ⟨kdL,σ,μ⟩=some (.next,⟨kdL,σ,μ⟩):=by
 have hil:i < l.length:=(List.getElem?_eq_some_iff.1 hi).1
 have g1:∀ r st,prim FT r (nm (Str.ofString "len")) [.str l] st=some (.int l.length,st):=fun r st=>pLenS (strOk_of (by kt_len))
 have g2:getA μ (.str l) (.int (i:Int))=some (.str [c]):=getA_str hi (by kt_len)
 have g3:cmpA μ .Eq (.int (i:Int)) (.int ((l.length:Int) - 1))=some (.bool (inB1 c)):=by
  show some (AV.bool ((i:Int)==(l.length:Int) - 1))=_
  rw [hb]
  congr 2
  rw [Bool.eq_iff_iff,beq_iff_eq,decide_eq_true_eq];kt_len
 have g4:∀ st,callUF (run FT (n+56)) (mkUF (pb 12)) [.str [c]] st=some (.bool (inB1 c),st):=fun st=>b1_call (n:=n+36)
 clear hb hi hl hil
 conv in forB (gn 1)=>whnf
 simp only [QC,eConst,eBin,esNil,ssNil,ssCons,sRet,sIf,Option.bind_some,Option.map_some,List.all_cons,List.all_nil,Bool.and_true,beq_self_eq_true,ite_false,Bool.false_eq_true,Bool.not_true,gq4,gq6,QD,tru_b,sub_i,isnot_b, *]
theorem gn2_ok (h1:look σ (N "typed")=some (.str t))(h2:look σ (N "signs")=some (.str l))(ht:t.length < 1000)(hl:l.length < 1000):(run FT (n+20)).S (gn 2) ⟨kdL,σ,μ⟩=some (.next,⟨kdL,put σ (N "typed") (.str (t++l)),μ⟩):=by
 have g:=aug_s (a:=t) (b:=l) (by kt_len) (by kt_len)
 conv in gn 2=>whnf
 simp only [QC,Option.bind_some,Option.map_some, *]
theorem gn3_ok (h1:look σ (N "text")=some (.str t))(h2:look σ (N "meant")=some (.str l))(ht:t.length < 1000)(hl:l.length < 1000):(run FT (n+20)).S (gn 3) ⟨kdL,σ,μ⟩=some (.next,⟨kdL,put σ (N "text") (.str (t++l)),μ⟩):=by
 have g:=aug_s (a:=t) (b:=l) (by kt_len) (by kt_len)
 conv in gn 3=>whnf
 simp only [QC,Option.bind_some,Option.map_some, *]
end
end
section
noncomputable def nWs:List String:=["n","signs","meant","place","typed","text"]
theorem lp_lst {n:Nat}{x:Str}{p:Pos}{i k kk:Nat}{l:List AV}{v:AV}{b:List Stmt}{σ:Sig}{μ:Mu}(h:stoOk kdL x=true)(hm:μ[i]?=some (.list l kk))(hv:l[k]?=some v):(run FT (n+1)).Lp (.Name x p) (.lst i k) b ⟨kdL,σ,μ⟩ =
  ((run FT n).SS b ⟨kdL,put σ (nm x) v,μ⟩).bind fun (f,st)=>match f with
   | .ret v=>some (.ret v,st)
   | .brk=>some (.next,st)
   | _=>(run FT n).Lp (.Name x p) (.lst i (k+1)) b st:=by
 rw [lpEq]
 have:nextIt (.lst i k) μ=some (some (v,.lst i (k+1))):=nx_some hm hv
 show (nextIt (.lst i k) μ).bind _=_
 rw [this,Option.bind_some]
 show (putLoc ⟨kdL,σ,μ⟩ (nm x) v).bind _=_
 rw [put_loc h];rfl
theorem lp_lst_end {n:Nat}{t:Expr}{i k kk:Nat}{l:List AV}{b:List Stmt}{σ:Sig}{μ:Mu}(hm:μ[i]?=some (.list l kk))(hv:l[k]?=none):(run FT (n+1)).Lp t (.lst i k) b ⟨kdL,σ,μ⟩=some (.next,⟨kdL,σ,μ⟩):=by
 rw [lpEq]
 have:nextIt (.lst i k) μ=some none:=nx_none hm hv
 show (nextIt (.lst i k) μ).bind _=_
 rw [this];rfl
theorem lp_val {n:Nat}{x:Str}{p:Pos}{v:AV}{l:List AV}{b:List Stmt}{σ:Sig}{μ:Mu}(h:stoOk kdL x=true):(run FT (n+1)).Lp (.Name x p) (.vals (v::l)) b ⟨kdL,σ,μ⟩ =
  ((run FT n).SS b ⟨kdL,put σ (nm x) v,μ⟩).bind fun (f,st)=>match f with
   | .ret v=>some (.ret v,st)
   | .brk=>some (.next,st)
   | _=>(run FT n).Lp (.Name x p) (.vals l) b st:=by
 rw [lpEq]
 show (some (some (v,AIt.vals l))).bind _=_
 rw [Option.bind_some]
 show (putLoc ⟨kdL,σ,μ⟩ (nm x) v).bind _=_
 rw [put_loc h];rfl
section
variable {n s:Nat}{μ:Mu}
theorem gn1_loop {l:List Nat}{p:Pos}(hl:l.length < 100)(hb:∀ (i c:Nat),l[i]?=some c→inB1 c=decide (i+1=l.length)):∀ (m i:Nat) (σ:Sig),i+m=l.length→look σ (N "signs")=some (.str l) →
  ∃ σ',(run FT (n+m+61)).Lp (.Name (Str.ofString "place") p) (.vals ((List.range' i m).map fun (j:Nat)=>AV.int (j:Int))) (forB (gn 1)) ⟨kdL,σ,μ⟩=some (.next,⟨kdL,σ',μ⟩)∧Ag ["place"] σ σ'
 | 0,i,σ,h,h1=>⟨σ,rfl,Ag.refl _ _⟩
 | m+1,i,σ,h,h1=>by
  have hi:i < l.length:=by kt_len
  have a0:Ag ["place"] σ (put σ (N "place") (.int (i:Int))):=(Ag.refl _ _).put (by decide)
  obtain ⟨σ',r,a⟩:=gn1_loop hl hb m (i+1) (put σ (N "place") (.int (i:Int))) (by kt_len) ((a0 _ (by decide)).trans h1)
  refine ⟨σ',?_,a0.trans a⟩
  have hb':=gn1_body (n:=n+m+1) (σ:=put σ (N "place") (.int (i:Int))) (μ:=μ) (i:=i) (c:=l[i]) (l:=l) ((a0 _ (by decide)).trans h1) (look_same ..) (by simp [hi]) (hb _ _ (by simp [hi])) (by kt_len)
  rw [List.range'_succ,List.map_cons,show n+(m+1)+61=n+m+61+1 by kt_len,lp_int sk_place]
  rw [show n+m+61=n+m+1+60 by kt_len,hb',Option.bind_some]
  exact r
theorem gn1_ok {l:List Nat}{σ:Sig}(hl:l.length < 50)(hb:∀ (i c:Nat),l[i]?=some c→inB1 c=decide (i+1=l.length))(h1:look σ (N "signs")=some (.str l)):∃ σ',(run FT (n+119)).S (gn 1) ⟨kdL,σ,μ⟩=some (.next,⟨kdL,σ',μ⟩)∧Ag ["place"] σ σ':=by
 refine x2_0 gn1_for fun p q he=>?_
 have hfor:=for_range (n:=n+118) (vs:=[.int (l.length:Int)]) (a:=0) (b:=(l.length:Int)) (c:=1) (σ:=σ) (μ:=μ) he (by kernel_rfl!) (gn1_args (n:=n+98) h1 (by kt_len)) rfl (small_up (m:=l.length) (by kt_len))
 rw [size_up,rng_up,List.range_eq_range'] at hfor
 refine x1_1 (gn1_loop (n:=n+57 - l.length) (p:=p) (μ:=μ) (by kt_len) hb l.length 0 σ (by kt_len) h1) fun σ' r a=>?_
 rw [show n+57 - l.length+l.length+61=n+118 from nsl (by kt_len) rfl] at r
 exact ⟨σ',hfor.trans r,a⟩
theorem gn_body {l m t u:List Nat}{x:AV}{σ:Sig}(h1:look σ (N "n")=some x)(h2:look σ (N "typed")=some (.str t))(h3:look σ (N "text")=some (.str u))(hc:∀ st,callUF (run FT (n+118)) (mkUF (pb 16)) [x] st=some (.tup [.str l,.str m],st))
  (hl:l.length < 50) (hm:m.length < 50) (ht:t.length < 50) (hu:u.length < 50) (hb:∀ (i c:Nat),l[i]?=some c→inB1 c=decide (i+1=l.length)) :
  ∃ σ',(run FT (n+121)).SS (forB (ga 1)) ⟨kdL,σ,μ⟩=some (.next,⟨kdL,σ',μ⟩)∧Ag nWs σ σ'∧look σ' (N "typed")=some (.str (t++l))∧look σ' (N "text")=some (.str (u++m)):=by
 rw [gns]
 refine es (gn0_ok h1 hc) ?_
 refine x1_1 (gn1_ok (n:=n) (μ:=μ) (σ:=put (put σ (N "signs") (.str l)) (N "meant") (.str m)) hl hb (by kt_ors)) fun σ1 r1 a1=>?_
 refine es r1 ?_
 have b1:Ag ["signs","meant","place"] σ σ1:=(((Ag.refl _ _).put (by decide)).put (by decide)).trans (a1.mono (by decide))
 refine es (gn2_ok (n:=n+98) (t:=t) (l:=l) ((b1 _ (by decide)).trans h2) ((a1 _ (by decide)).trans (by kt_ors)) (by kt_len) (by kt_len)) ?_
 refine es (gn3_ok (n:=n+97) (t:=u) (l:=m) (by kt_ors;exact (b1 _ (by decide)).trans h3) (by kt_ors;exact (a1 _ (by decide)).trans (look_same ..)) (by kt_len) (by kt_len)) ?_
 refine ⟨_,rfl,((b1.mono (by decide)).put (by decide)).put (by decide),?_,look_same ..⟩
 kt_ors
theorem gn_loop {l1 m1 l2 m2:List Nat}{x1 x2:AV}{j kk:Nat}{p:Pos}{σ:Sig}(mj:μ[j]?=some (.list [x1,x2] kk))(h2:look σ (N "typed")=some (.str []))(h3:look σ (N "text")=some (.str []))
  (hc1:∀ n st,callUF (run FT (n+100)) (mkUF (pb 16)) [x1] st=some (.tup [.str l1,.str m1],st)) (hc2:∀ n st,callUF (run FT (n+100)) (mkUF (pb 16)) [x2] st=some (.tup [.str l2,.str m2],st))
  (hl1:l1.length < 20) (hm1:m1.length < 20) (hl2:l2.length < 20) (hm2:m2.length < 20) (hb1:∀ (i c:Nat),l1[i]?=some c→inB1 c=decide (i+1=l1.length)) (hb2:∀ (i c:Nat),l2[i]?=some c→inB1 c=decide (i+1=l2.length)) :
  ∃ σ',(run FT (n+123)).Lp (.Name (Str.ofString "n") p) (.lst j 0) (forB (ga 1)) ⟨kdL,σ,μ⟩=some (.next,⟨kdL,σ',μ⟩)∧Ag nWs σ σ'∧look σ' (N "typed")=some (.str (l1++l2))∧look σ' (N "text")=some (.str (m1++m2)):=by
 have a0:∀ (x:AV) (σ:Sig),Ag nWs σ (put σ (N "n") x):=fun x σ=>(Ag.refl _ _).put (by decide)
 refine x1_3 (gn_body (n:=n+1) (μ:=μ) (σ:=put σ (N "n") x1) (x:=x1) (t:=[]) (u:=[]) (look_same ..) (by kt_ors;exact h2) (by kt_ors;exact h3) (fun st=>hc1 (n+19) st) (by kt_len) (by kt_len) (by decide) (by decide) hb1) fun σ1 r1 a1 t1 u1=>?_
 refine x1_3 (gn_body (n:=n) (μ:=μ) (σ:=put σ1 (N "n") x2) (x:=x2) (t:=[]++l1) (u:=[]++m1) (look_same ..) (by kt_ors;exact t1) (by kt_ors;exact u1) (fun st=>hc2 (n+18) st) (by kt_len) (by kt_len) (by rw [List.nil_append];kt_len) (by rw [List.nil_append];kt_len) hb2) fun σ2 r2 a2 t2 u2=>?_
 refine ⟨σ2,?_,((a0 _ _).trans a1).trans ((a0 _ _).trans a2),t2,u2⟩
 show (run FT (n+122+1)).Lp _ _ _ _=_
 rw [lp_lst sk_n mj (v:=x1) rfl]
 show ((run FT (n+1+121)).SS _ _).bind _=_
 rw [r1,Option.bind_some]
 show (run FT (n+121+1)).Lp _ _ _ _=_
 rw [lp_lst sk_n mj (v:=x2) rfl,r2,Option.bind_some]
 show (run FT (n+120+1)).Lp _ _ _ _=_
 exact lp_lst_end mj rfl
end
end
section
noncomputable def cmpL:Expr→Expr
 | .Compare a _ _ _=>a
 | _=>.Constant .none 0 ⟨0,0,0,0⟩
noncomputable def c2:Expr:=argN 0 (cmpL (ifT (ga 2)))
theorem c2_eq:∃ p,c2=.ListComp (cElt c2) [⟨cTgt c2,cIter c2,cIfs c2,0⟩] (cSc c2) p:=⟨_,rfl⟩
noncomputable def kdc:List (Str × NameKind):=relabelK kdL (cSc c2).names
theorem lc_sign:locOk kdc (Str.ofString "sign")=true:=Eq.trans (by kernel_rfl!) (Eq.refl true)
theorem sc_sign:stoOk kdc (Str.ofString "sign")=true:=Eq.trans (by kernel_rfl!) (Eq.refl true)
theorem gc_b1:globOk kdc (Str.ofString "in_table_b1")=true:=Eq.trans (by kernel_rfl!) (Eq.refl true)
theorem gc_b3:globOk kdc (Str.ofString "map_table_b3")=true:=Eq.trans (by kernel_rfl!) (Eq.refl true)
noncomputable def CsOk (L:List (Nat × Option (List Nat))):Prop:=∀ x∈L,match x.2 with
 | some m=>(x.1,m)∈C26
 | none=>inB1 x.1=true
section
variable {n s:Nat}{σ:Sig}{μ:Mu}
theorem c2_elt {c:Nat}{m:List Nat}(h1:look σ (N "sign")=some (.str [c]))(hc:∀ st,callUF (run FT (n+119)) (mkUF (pb 14)) [.str [c]] st=some (.str m,st)):(run FT (n+120)).E (cElt c2) ⟨kdc,σ,μ⟩=some (.str m,⟨kdc,σ,μ⟩):=by
 conv in cElt c2=>whnf
 simp only [QC,esNil,Option.bind_some,Option.map_some,List.all_cons,List.all_nil,Bool.and_true,QD,lc_sign,gc_b3, *]
theorem c2_if {c:Nat}(h1:look σ (N "sign")=some (.str [c])):allT (run FT (n+120)) (cIfs c2) ⟨kdc,σ,μ⟩=some (!inB1 c,⟨kdc,σ,μ⟩):=by
 have g:∀ st,callUF (run FT (n+117)) (mkUF (pb 12)) [.str [c]] st=some (.bool (inB1 c),st):=fun st=>b1_call (n:=n+97)
 conv in cIfs c2=>whnf
 generalize inB1 c=b at *
 cases b
 ·simp only [gq11]
  simp only [QC,esNil,tNot,tCall,Option.bind_some,Option.map_some,List.all_cons,List.all_nil,Bool.and_true,ite_true,Bool.not_false,QD,tru_b,lc_sign,gc_b1, *]
 ·simp only [gq11]
  simp only [QC,esNil,tNot,tCall,Option.bind_some,Option.map_some,List.all_cons,List.all_nil,Bool.and_true,ite_false,Bool.false_eq_true,Bool.not_true,QD,tru_b,lc_sign,gc_b1, *]
theorem c2_tgt {c:Nat}:giveTo (cTgt c2) (.str [c]) ⟨kdc,σ,μ⟩=some ⟨kdc,put σ (N "sign") (.str [c]),μ⟩:=by
 conv in cTgt c2=>whnf
 simp only [gq8,gq9]
 simp only [QC,sc_sign, *]
theorem c2_loop:∀ (L:List (Nat × Option (List Nat))) (σ:Sig) (acc:List AV),CsOk L→acc.length+L.length < 1000 →
  ∃ σ',(run FT (n+L.length+121)).Cm (cElt c2) (cTgt c2) (cIfs c2) (.vals (L.map fun x=>AV.str [x.1])) acc ⟨kdc,σ,μ⟩=some (acc++(L.filterMap (·.2)).map AV.str,⟨kdc,σ',μ⟩)
 | [],σ,acc,h,hl=>by
  refine ⟨σ,?_⟩
  rw [List.length_nil,show n+0+121=n+120+1 by kt_len,cmEq]
  show some _=_
  simp
 | (c,x)::L,σ,acc,h,hl=>by
  have hx:=h _ (List.mem_cons_self ..)
  have hL:CsOk L:=fun y hy=>h y (List.mem_cons_of_mem _ hy)
  simp only [List.length_cons] at hl
  rw [List.length_cons,show n+(L.length+1)+121=n+L.length+121+1 by kt_len,cmEq]
  have hif:=c2_if (n:=n+L.length+1) (σ:=put σ (N "sign") (.str [c])) (μ:=μ) (look_same ..)
  rw [show n+L.length+1+120=n+L.length+121 by kt_len] at hif
  cases x with
  | none=>
   have hx:inB1 c=true:=hx
   refine x1_0 (c2_loop L (put σ (N "sign") (.str [c])) acc hL (by kt_len)) fun σ' r=>?_
   refine ⟨σ',?_⟩
   show (some (some (AV.str [c],AIt.vals (L.map fun x=>AV.str [x.1])))).bind _=_
   rw [Option.bind_some]
   show (giveTo (cTgt c2) (.str [c]) ⟨kdc,σ,μ⟩).bind _=_
   rw [c2_tgt,Option.bind_some]
   show (allT (run FT (n+L.length+121)) (cIfs c2) _).bind _=_
   rw [hif,hx,Option.bind_some]
   exact r
  | some m=>
   have hx:(c,m)∈C26:=hx
   refine x1_0 (c2_loop L (put σ (N "sign") (.str [c])) (acc++[.str m]) hL (by simp;kt_len)) fun σ' r=>?_
   refine ⟨σ',?_⟩
   have he:=c2_elt (n:=n+L.length+1) (σ:=put σ (N "sign") (.str [c])) (μ:=μ) (look_same ..) (fun st=>b3_call (n:=n+L.length+20) (p:=(c,m)) hx)
   rw [show n+L.length+1+120=n+L.length+121 by kt_len] at he
   show (some (some (AV.str [c],AIt.vals (L.map fun x=>AV.str [x.1])))).bind _=_
   rw [Option.bind_some]
   show (giveTo (cTgt c2) (.str [c]) ⟨kdc,σ,μ⟩).bind _=_
   rw [c2_tgt,Option.bind_some]
   show (allT (run FT (n+L.length+121)) (cIfs c2) _).bind _=_
   rw [hif,b1_no' hx,Option.bind_some]
   show ((run FT (n+L.length+121)).E (cElt c2) _).bind _=_
   rw [he,Option.bind_some]
   dsimp only
   rw [if_pos (by unfold topK;kt_len),r]
   simp [List.filterMap_cons]
theorem ga2_ok {L:List (Nat × Option (List Nat))}{t:List Nat}(hL:CsOk L)(hl:L.length < 20)(h1:look σ (N "typed")=some (.str (L.map (·.1))))(h2:look σ (N "text")=some (.str t))(ht:((L.filterMap (·.2)).flatten)=t)(htl:t.length < 1000)(h3:∃ v,look σ (N "texts")=some v) :
  ∃ o,(run FT (n+200)).S (ga 2) ⟨kdL,σ,μ⟩=some (.next,⟨kdL,σ,μ++[o]⟩):=by
 refine x1_0 h3 fun v h3=>?_
 have hit:stepIt (run FT (n+195)) (cIter c2) ⟨kdL,σ,μ⟩=some (.vals (L.map fun x=>AV.str [x.1]),⟨kdL,σ,μ⟩):=by
  have g2:((run FT (n+195)).E (cIter c2) ⟨kdL,σ,μ⟩)=some (.str (L.map (·.1)),⟨kdL,σ,μ⟩):=by
   conv in cIter c2=>whnf
   simp only [QC,Option.map_some, *]
  have:stepIt (run FT (n+195)) (cIter c2) ⟨kdL,σ,μ⟩=((run FT (n+195)).E (cIter c2) ⟨kdL,σ,μ⟩).bind fun (v,st')=>(itOf st' v).map fun i=>(i,st'):=rfl
  rw [this,g2,Option.bind_some]
  show (itOf ⟨kdL,σ,μ⟩ (.str (L.map (·.1)))).map _=_
  have:itOf ⟨kdL,σ,μ⟩ (.str (L.map (·.1)))=some (.vals (L.map fun x=>AV.str [x.1])):=by
   show some (AIt.vals ((L.map (·.1)).map fun c=>AV.str [c]))=_
   rw [List.map_map];rfl
  rw [this];rfl
 refine x1_0 (c2_loop (n:=n+74 - L.length) (μ:=μ) L [] [] hL (by simp;kt_len)) fun σ' hlp=>?_
 rw [show n+74 - L.length+L.length+121=n+195 from nsl (by kt_len) rfl] at hlp
 refine x1_0 c2_eq fun p hc=>?_
 have hcomp:=eComp (n:=n+195) (c:=c2) (p:=p) (kd:=kdL) (σ:=σ) (μ:=μ) hc (by kernel_rfl!) (hasLoc_of h3) (by kernel_rfl!) hit hlp
 simp only [List.nil_append] at hcomp
 have hm:meth (.str []) (nm (Str.ofString "join")) [.ref μ.length] ⟨kdL,σ,μ++[AObj.list ((L.filterMap (·.2)).map AV.str) ((L.filterMap (·.2)).map AV.str).length]⟩=some (.str t,⟨kdL,σ,μ++[AObj.list ((L.filterMap (·.2)).map AV.str) ((L.filterMap (·.2)).map AV.str).length]⟩):=by
  have:=mJoin (l:=L.filterMap (·.2)) (i:=μ.length) (kk:=((L.filterMap (·.2)).map AV.str).length) (kd:=kdL) (σ:=σ) (μ:=μ++[AObj.list ((L.filterMap (·.2)).map AV.str) ((L.filterMap (·.2)).map AV.str).length]) app_new (by rw [ht];kt_len)
  rw [ht] at this
  exact this
 have ek:∀ μ μ':Mu,kindOk μ μ' (.str [])=true:=fun _ _=>rfl
 have ne:∀ μ,cmpA μ .NotEq (.str t) (.str t)=some (.bool false):=fun μ=>by
  show (some (t==t)).map (fun x=>AV.bool (!x))=_
  simp
 have e7:∃ k p2 p3 p4 p5 p6 p7 a,ga 2=.If (.Compare (.Call (.Attribute (.Constant (.str (Str.ofString "")) k p2) (Str.ofString "join") p3) [c2] [] p4) [.NotEq] [.Name (Str.ofString "text") p6] p7) a [] p5∧p3.endLine=p4.line:=⟨_,_,_,_,_,_,_,_,rfl,rfl⟩
 refine x8_1 e7 fun k p2 p3 p4 p5 p6 p7 a e7 e8=>?_
 have es:notStar c2=true:=rfl
 refine ⟨AObj.list ((L.filterMap (·.2)).map AV.str) ((L.filterMap (·.2)).map AV.str).length,?_⟩
 rw [e7]
 clear e7 hc hlp hit ht
 generalize AObj.list ((L.filterMap (·.2)).map AV.str) ((L.filterMap (·.2)).map AV.str).length=o at *
 simp only [QC,eConst,esNil,ssNil,sIf,Option.bind_some,Option.map_some,ite_true,ite_false,Bool.false_eq_true,gq5,QM,cNil,tru_b, *]
end
end
section
noncomputable def wd (a b:Nat):List Nat:=W6 a++W6 b
theorem ell_all (n:Nat):((List.range 6).all fun a=>(List.range 6).all fun b=>[[],[104],[112]].all fun m=>ellC n (wd a b) m)=true:=by kernel_rfl!
noncomputable def joinB (t:List Nat):Bool:=decide (JoinOk ⟨⟨dots⟩⟩ (PyProof.Rows.signs ⟨⟨t⟩⟩))&&(Txt.join ⟨⟨dots⟩⟩ (PyProof.Rows.signs ⟨⟨t⟩⟩)).cps.toList==dotJ t
theorem join_all:((List.range 6).all fun a=>(List.range 6).all fun b=>[[],[104],[112]].all fun m=>joinB (wd a b++m))=true:=by kernel_rfl!
theorem all36 {P:Nat→Nat→List Nat→Bool}(h:((List.range 6).all fun a=>(List.range 6).all fun b=>[[],[104],[112]].all fun m=>P a b m)=true){a b:Nat}(ha:a < 6)(hb:b < 6){m:List Nat}(hm:m∈[[],[104],[112]]):P a b m=true:=
 List.all_eq_true.1 (List.all_eq_true.1 (List.all_eq_true.1 h a (by simpa using ha)) b (by simpa using hb)) m hm
theorem mJoinD {t:List Nat}{st:St}(h:joinB t=true):meth (.str dots) (nm (Str.ofString "join")) [.str t] st=some (.str (dotJ t),st):=by
 have e:meth (.str dots) (nm (Str.ofString "join")) [.str t] st=if JoinOk ⟨⟨dots⟩⟩ (PyProof.Rows.signs ⟨⟨t⟩⟩) then some (.str (Txt.join ⟨⟨dots⟩⟩ (PyProof.Rows.signs ⟨⟨t⟩⟩)).cps.toList,st) else Option.none:=by kernel_rfl!
 unfold joinB at h
 rw [Bool.and_eq_true,decide_eq_true_eq,beq_iff_eq] at h
 rw [e,if_pos h.1,h.2]
theorem ell_call {n:Nat}{t m:List Nat}{st:St}(h:ellC n t m=true):callUF (run FT (n+100)) (mkUF (pb 6)) [.str (dotJ (t++m)),.str t] st=some (.bool (m==[]),st):=by
 refine x1_0 (isBool_ok h) fun st' h'=>?_
 exact callUF_ok h' (by rw [ps6];rfl) rfl
noncomputable def whT:Stmt→Expr
 | .While t _ _ _=>t
 | _=>.Constant .none 0 ⟨0,0,0,0⟩
noncomputable def whB:Stmt→List Stmt
 | .While _ b _ _=>b
 | _=>[]
theorem ga5_wh:∃ p,ga 5=.While (whT (ga 5)) (whB (ga 5)) [] p:=⟨_,rfl⟩
section
variable {n s:Nat}{σ:Sig}{μ:Mu}{t m:List Nat}
theorem ga3_body (h1:look σ (N "text")=some (.str t))(h2:look σ (N "more")=some (.str m))(ht:t.length < 100)(hm:m.length < 100)(hj:joinB (t++m)=true)(he:∀ n,ellC n t m=true):(run FT (n+120)).SS (forB (ga 3)) ⟨kdL,σ,μ⟩=some (.next,⟨kdL,σ,μ⟩):=by
 have g1:=add_s (a:=t) (b:=m) (by kt_len) (by kt_len)
 have g2:∀ st,meth (.str dots) (nm (Str.ofString "join")) [.str (t++m)] st=some (.str (dotJ (t++m)),st):=fun st=>mJoinD hj
 have g3:∀ st,callUF (run FT (n+116)) (mkUF (pb 6)) [.str (dotJ (t++m)),.str t] st=some (.bool (m==[]),st):=fun st=>ell_call (n:=n+16) (he _)
 have ek:∀ μ μ':Mu,kindOk μ μ' (.str dots)=true:=fun _ _=>rfl
 clear hj he ht hm
 conv in forB (ga 3)=>whnf
 simp only [QC,eConst,eBin,esNil,ssNil,ssCons,sRet,sIf,Option.bind_some,Option.map_some,List.all_cons,List.all_nil,Bool.and_true,beq_self_eq_true,ite_true,ite_false,Bool.false_eq_true,Bool.not_true,gq5,gq6,QM,QD,cDots,cNil,tru_b,eq_s,isnot_b, *]
theorem ga3_it:(run FT (n+20)).E (forI (ga 3)) ⟨kdL,σ,μ⟩=some (.tup [.str [],.str [104],.str [112]],⟨kdL,σ,μ⟩):=by kernel_rfl!
theorem ga3_ok (h1:look σ (N "text")=some (.str t))(ht:t.length < 50)(hj:∀ m∈[[],[104],[112]],joinB (t++m)=true)(he:∀ n,∀ m∈[[],[104],[112]],ellC n t m=true):∃ σ',(run FT (n+150)).S (ga 3) ⟨kdL,σ,μ⟩=some (.next,⟨kdL,σ',μ⟩)∧Ag ["more"] σ σ':=by
 refine x2_0 ga3_for fun p q e=>?_
 have hit:stepIt (run FT (n+149)) (forI (ga 3)) ⟨kdL,σ,μ⟩=some (.vals [.str [],.str [104],.str [112]],⟨kdL,σ,μ⟩):=by
  have:stepIt (run FT (n+149)) (forI (ga 3)) ⟨kdL,σ,μ⟩=((run FT (n+149)).E (forI (ga 3)) ⟨kdL,σ,μ⟩).bind fun (v,st')=>(itOf st' v).map fun i=>(i,st'):=rfl
  rw [this,show n+149=n+129+20 by kt_len,ga3_it];rfl
 have a:∀ (v:AV) (σ1:Sig),Ag ["more"] σ σ1→Ag ["more"] σ (put σ1 (N "more") v):=fun s σ1 h=>h.put (by decide)
 have b1:=a (.str []) σ (Ag.refl _ _)
 have b2:=a (.str [104]) _ b1
 have b3:=a (.str [112]) _ b2
 refine ⟨_,?_,b3⟩
 conv=>lhs;rw [e]
 rw [sFor]
 rw [hit,Option.bind_some]
 show (run FT (n+148+1)).Lp _ _ _ _=_
 rw [lp_val sk_more]
 show ((run FT (n+28+120)).SS _ _).bind _=_
 rw [ga3_body (m:=[]) ((b1 _ (by decide)).trans h1) (look_same ..) (by kt_len) (by decide) (hj _ (by decide)) (fun n=>he n _ (by decide)),Option.bind_some]
 show (run FT (n+147+1)).Lp _ _ _ _=_
 rw [lp_val sk_more]
 show ((run FT (n+27+120)).SS _ _).bind _=_
 rw [ga3_body (m:=[104]) ((b2 _ (by decide)).trans h1) (look_same ..) (by kt_len) (by decide) (hj _ (by decide)) (fun n=>he n _ (by decide)),Option.bind_some]
 show (run FT (n+146+1)).Lp _ _ _ _=_
 rw [lp_val sk_more]
 show ((run FT (n+26+120)).SS _ _).bind _=_
 rw [ga3_body (m:=[112]) ((b3 _ (by decide)).trans h1) (look_same ..) (by kt_len) (by decide) (hj _ (by decide)) (fun n=>he n _ (by decide)),Option.bind_some]
 rfl
theorem ga4_ok:(run FT (n+20)).S (ga 4) ⟨kdL,σ,μ⟩=some (.next,⟨kdL,put σ (N "run") (.int 1),μ⟩):=by
 conv in ga 4=>whnf
 simp only [QC,eConst,Option.bind_some,Option.map_some,gq4, *]
theorem ga5_end (h1:look σ (N "text")=some (.str t))(h2:look σ (N "run")=some (.int (t.length:Int)))(ht:t.length < 100):(run FT (n+20)).T (whT (ga 5)) ⟨kdL,σ,μ⟩=some (false,⟨kdL,σ,μ⟩):=by
 have g1:∀ r st,prim FT r (nm (Str.ofString "len")) [.str t] st=some (.int t.length,st):=fun r st=>pLenS (strOk_of (by kt_len))
 have g2:cmpA μ .Lt (.int (t.length:Int)) (.int (t.length:Int))=some (.bool false):=by
  show some (AV.bool (decide ((t.length:Int) < t.length)))=_
  rw [decide_eq_false (by kt_len)]
 conv in whT (ga 5)=>whnf
 simp only [QC,eConst,esNil,tBool,tsOne,tsCons,Option.bind_some,Option.map_some,List.all_cons,List.all_nil,Bool.and_true,gq4,tru_b, *]
theorem ga5_test {i c d:Nat}(h1:look σ (N "text")=some (.str t))(h2:look σ (N "run")=some (.int (i:Int)))(ht:t.length < 100)(hi:t[i]?=some d)(h0:t[0]?=some c):(run FT (n+20)).T (whT (ga 5)) ⟨kdL,σ,μ⟩=some ([d]==[c],⟨kdL,σ,μ⟩):=by
 have hl:i < t.length:=(List.getElem?_eq_some_iff.1 hi).1
 have g1:∀ r st,prim FT r (nm (Str.ofString "len")) [.str t] st=some (.int t.length,st):=fun r st=>pLenS (strOk_of (by kt_len))
 have g2:cmpA μ .Lt (.int (i:Int)) (.int (t.length:Int))=some (.bool true):=by
  show some (AV.bool (decide ((i:Int) < t.length)))=_
  rw [decide_eq_true (by kt_len)]
 have g3:getA μ (.str t) (.int (i:Int))=some (.str [d]):=getA_str hi (by kt_len)
 have g4:getA μ (.str t) (.int 0)=some (.str [c]):=getA_str (i:=0) h0 (by kt_len)
 clear hi h0 hl
 conv in whT (ga 5)=>whnf
 simp only [QC,eConst,esNil,tBool,tsOne,tsCons,Option.bind_some,Option.map_some,List.all_cons,List.all_nil,Bool.and_true,gq4,tru_b,eq_s, *]
theorem ga5_body {i:Nat}(h2:look σ (N "run")=some (.int (i:Int))):(run FT (n+20)).SS (whB (ga 5)) ⟨kdL,σ,μ⟩=some (.next,⟨kdL,put σ (N "run") (.int (i+1:Nat)),μ⟩):=by
 have e:(i:Int)+1=(i+1:Nat):=by kt_len
 conv in whB (ga 5)=>whnf
 simp only [QC,eConst,ssNil,ssCons,Option.bind_some,Option.map_some,gq4,aug_add, *]
structure RunAt (t:List Nat)(r:Nat):Prop where
 pos:1≤r
 le:r≤t.length
 len:t.length≤4
 same:∀ i,i < r→∃ c,t[i]?=some c∧t[0]?=some c
 stop:r=t.length∨∃ c d,t[r]?=some d∧t[0]?=some c∧d≠c
theorem ga5_loop {r:Nat}(H:RunAt t r):∀ (m i:Nat) (σ:Sig),i+m=r→look σ (N "text")=some (.str t)→look σ (N "run")=some (.int (i:Int)) →
  ∃ σ',(run FT (n+m+21)).Wh (whT (ga 5)) (whB (ga 5)) ⟨kdL,σ,μ⟩=some (.next,⟨kdL,σ',μ⟩)∧Ag ["run"] σ σ'∧look σ' (N "run")=some (.int (r:Int))
 | 0,i,σ,h,h1,h2=>by
  have hir:i=r:=by kt_len
  subst hir
  refine ⟨σ,?_,Ag.refl _ _,h2⟩
  have ht:(run FT (n+20)).T (whT (ga 5)) ⟨kdL,σ,μ⟩=some (false,⟨kdL,σ,μ⟩):=by
   rcases H.stop with e | ⟨c,d,e1,e2,e3⟩
   ·exact ga5_end h1 (by rw [h2,e]) (by have:=H.len;kt_len)
   ·rw [ga5_test h1 h2 (by have:=H.len;kt_len) e1 e2,beq_eq_false_iff_ne.2 (by simpa using e3)]
  show (run FT (n+20+1)).Wh _ _ _=_
  rw [whEq,ht];rfl
 | m+1,i,σ,h,h1,h2=>by
  refine x1_1 (H.same i (by kt_len)) fun c e1 e2=>?_
  have ht:(run FT (n+m+1+20)).T (whT (ga 5)) ⟨kdL,σ,μ⟩=some (true,⟨kdL,σ,μ⟩):=by
   rw [ga5_test h1 h2 (by have:=H.len;kt_len) e1 e2,beq_self_eq_true]
  refine x1_2 (ga5_loop H m (i+1) (put σ (N "run") (.int (i+1:Nat))) (by kt_len) (by kt_ors;exact h1) (look_same ..)) fun σ' r' a h'=>?_
  refine ⟨σ',?_,((Ag.refl _ _).put (by decide)).trans a,h'⟩
  rw [show n+(m+1)+21=n+m+1+20+1 by kt_len,whEq,ht,Option.bind_some]
  show ((run FT (n+m+1+20)).SS (whB (ga 5)) _).bind _=_
  rw [ga5_body h2,Option.bind_some]
  rw [show n+m+1+20=n+m+21 by kt_len]
  exact r'
theorem ga5_ok {r:Nat}(H:RunAt t r)(h1:look σ (N "text")=some (.str t))(h2:look σ (N "run")=some (.int 1)):∃ σ',(run FT (n+50)).S (ga 5) ⟨kdL,σ,μ⟩=some (.next,⟨kdL,σ',μ⟩)∧Ag ["run"] σ σ'∧look σ' (N "run")=some (.int (r:Int)):=by
 have:=H.pos
 have:=H.le
 have:=H.len
 refine x1_2 (ga5_loop (n:=n+29 - r) (μ:=μ) H (r - 1) 1 σ (by kt_len) h1 h2) fun σ' r' a h'=>?_
 rw [show n+29 - r+(r - 1)+21=n+49 by kt_len] at r'
 refine x1_0 ga5_wh fun p e=>?_
 refine ⟨σ',?_,a,h'⟩
 conv=>lhs;rw [e]
 rw [sWhile]
 exact r'
theorem ga6_ok {f:Int}(h1:look σ (N "first")=some (.int f)):(run FT (n+20)).S (ga 6) ⟨kdL,σ,μ⟩=some (.next,⟨kdL,put (put (put σ (N "worth") (.int 0)) (N "stalk") (.ref (μ.length+1))) (N "pile") (.ref μ.length),μ++[.acc [] 0 f,.list [] 0]⟩):=by
 have g1:∀ r σ,prim FT r (nm (Str.ofString "_Accumulator")) [.int f] ⟨kdL,σ,μ⟩=some (.ref μ.length,⟨kdL,σ,μ++[.acc [] 0 f]⟩):=fun r σ=>pNew
 have e1:(μ++[AObj.acc [] 0 f]).length=μ.length+1:=by simp
 have e2:μ++[AObj.acc [] 0 f]++[AObj.list [] 0]=μ++[AObj.acc [] 0 f,AObj.list [] 0]:=by simp
 conv in ga 6=>whnf
 rw [sAsTup1 [Str.ofString "pile",Str.ofString "stalk",Str.ofString "worth"] rfl (by kernel_rfl!)]
 simp only [QC,eConst,eTup,eList,esNil,alloc_eq,Option.bind_some,Option.map_some,List.all_cons,List.all_nil,Bool.and_true,List.length_cons,List.length_nil,ite_true,gq4,QD, *]
 rfl
end
end
section
noncomputable def wtN (r i:Nat):Nat:=if i < r then 8 else 8 / 2 ^ (i - r+1)
noncomputable def pcN (f r:Nat)(t:List Nat)(i:Nat):Pc:=(t.getD i 0,f+wtN r i - 8,wtN r i)
noncomputable def mkP (f r:Nat)(t:List Nat):List Pc:=(List.range t.length).map (pcN f r t)
theorem mul_sp {k:Nat}(h:k≤8):binA .Mult (.str [32]) (.int (k:Int))=some (.str (sp k)):=by
 refine ltn9 (show k < 9 by kt_len) ?_ ?_ ?_ ?_ ?_ ?_ ?_ ?_ ?_ <;> kernel_rfl!
theorem ps9:(mkUF (pb 9)).ps=[N "s",N "amount"]:=by kernel_rfl!
theorem pad_call {n c f w:Nat}{st:St}(hc:c=104∨c=112)(hf:f≤8)(hw:w=8∨w=4∨w=2∨w=1) :
  callUF (run FT (n+100)) (mkUF (pb 9)) [.str (sp f++[c]++sp (8 - f)),.int ((8:Int) - (w:Int))] st=some (.str (sp (f+w - 8)++[c]++sp (w - (f+w - 8))),st):=by
 have h:=List.all_eq_true.1 (List.all_eq_true.1 (List.all_eq_true.1 (pad_all n) c (by simpa using hc)) f (by rw [List.mem_range];kt_len)) w (by simpa using hw)
 refine x1_0 (isStr_ok h) fun st' h'=>?_
 exact callUF_ok h' (by rw [ps9];rfl) rfl
theorem wtN_or {t:List Nat}{r i:Nat}(H:RunAt t r)(hi:i < t.length):wtN r i=8∨wtN r i=4∨wtN r i=2∨wtN r i=1:=by
 have:=H.pos;have:=H.len
 unfold wtN
 split
 ·exact .inl rfl
 ·have h:i - r+1=1∨i - r+1=2∨i - r+1=3:=by kt_len
  rcases h with h | h | h <;> rw [h] <;> simp
section
variable {n s f r i c w:Nat}{σ:Sig}{μ:Mu}{t m:List Nat}
theorem gp0_ok (H:RunAt t r)(hi:i < t.length)(h1:look σ (N "place")=some (.int (i:Int)))(h2:look σ (N "run")=some (.int (r:Int))):(run FT (n+20)).S (gp 0) ⟨kdL,σ,μ⟩=some (.next,⟨kdL,put σ (N "weight") (.int (wtN r i:Nat)),μ⟩):=by
 have hr:=H.pos;have hl:=H.len
 by_cases h:i < r
 ·have c1:cmpA μ .Lt (.int (i:Int)) (.int (r:Int))=some (.bool true):=by
   show some (AV.bool (decide ((i:Int) < r)))=_
   rw [decide_eq_true (by kt_len)]
  have e:((wtN r i:Nat):Int)=8:=by unfold wtN;rw [if_pos h];rfl
  clear h
  conv in gp 0=>whnf
  simp only [QC,eConst,eBin,eIf,Option.bind_some,Option.map_some,ite_true,gq4,tru_b,sub_i,add_i, *]
 ·have c1:cmpA μ .Lt (.int (i:Int)) (.int (r:Int))=some (.bool false):=by
   show some (AV.bool (decide ((i:Int) < r)))=_
   rw [decide_eq_false (by kt_len)]
  have e:(i:Int) - (r:Int)+1=((i - r+1:Nat):Int):=by kt_len
  have hw:wtN r i=8 / 2 ^ (i - r+1):=by unfold wtN;rw [if_neg h]
  have b1:binA .Pow (.int 2) (.int ((i - r+1:Nat):Int))=some (.int ((2 ^ (i - r+1):Nat):Int)):=by
   have h:i - r+1=1∨i - r+1=2∨i - r+1=3:=by kt_len
   rcases h with h | h | h <;> rw [h] <;> kernel_rfl!
  have b2:binA .FloorDiv (.int 8) (.int ((2 ^ (i - r+1):Nat):Int))=some (.int ((8 / 2 ^ (i - r+1):Nat):Int)):=by
   have h:i - r+1=1∨i - r+1=2∨i - r+1=3:=by kt_len
   rcases h with h | h | h <;> rw [h] <;> kernel_rfl!
  rw [hw]
  clear h hr hl hi H hw
  conv in gp 0=>whnf
  simp only [QC,eConst,eBin,eIf,Option.bind_some,Option.map_some,ite_false,Bool.false_eq_true,gq4,tru_b,sub_i,add_i, *]
theorem gp1_ok (h1:look σ (N "front")=some (.int (f:Int)))(h2:look σ (N "weight")=some (.int (w:Int))):(run FT (n+20)).S (gp 1) ⟨kdL,σ,μ⟩=some (.next,⟨kdL,put σ (N "left") (.int ((f+w - 8:Nat):Int)),μ⟩):=by
 have g1:∀ r st,prim FT r (nm (Str.ofString "max")) [.int 0,.int ((f:Int)+(w:Int) - 8)] st=some (.int ((f+w - 8:Nat):Int),st):=fun r st=>by
  rw [pMax]
  have:(if (f:Int)+(w:Int) - 8 > 0 then (f:Int)+(w:Int) - 8 else 0)=((f+w - 8:Nat):Int):=by split <;> kt_len
  rw [this]
 conv in gp 1=>whnf
 simp only [QC,eConst,eBin,esNil,Option.bind_some,Option.map_some,List.all_cons,List.all_nil,Bool.and_true,gq4,sub_i,add_i, *]
theorem gp2_ok (h1:look σ (N "front")=some (.int (f:Int)))(h2:look σ (N "text")=some (.str t))(h3:look σ (N "place")=some (.int (i:Int)))(h4:look σ (N "weight")=some (.int (w:Int)))(hi:t[i]?=some c)(hl:t.length < 100)(hc:c=104∨c=112)(hf:f≤8)(hw:w=8∨w=4∨w=2∨w=1) :
  (run FT (n+120)).S (gp 2) ⟨kdL,σ,μ⟩=some (.next,⟨kdL,put σ (N "piece") (.str (sp (f+w - 8)++[c]++sp (w - (f+w - 8)))),μ⟩):=by
 have hil:i < t.length:=(List.getElem?_eq_some_iff.1 hi).1
 have g1:=mul_sp hf
 have g2:binA .Mult (.str [32]) (.int ((8 - f:Nat):Int))=some (.str (sp (8 - f))):=mul_sp (by kt_len)
 have e:(8:Int) - (f:Int)=((8 - f:Nat):Int):=(Int.ofNat_sub (by kt_len)).symm
 have g3:getA μ (.str t) (.int (i:Int))=some (.str [c]):=getA_str hi (by kt_len)
 have g4:binA .Add (.str (sp f)) (.str [c])=some (.str (sp f++[c])):=add_s (by rw [sp_len];kt_len) (by simp)
 have g5:binA .Add (.str (sp f++[c])) (.str (sp (8 - f)))=some (.str (sp f++[c]++sp (8 - f))):=add_s (by rw [List.length_append,sp_len];simp;kt_len) (by rw [sp_len];kt_len)
 have g6:∀ st,callUF (run FT (n+118)) (mkUF (pb 9)) [.str (sp f++[c]++sp (8 - f)),.int ((8:Int) - (w:Int))] st=some (.str (sp (f+w - 8)++[c]++sp (w - (f+w - 8))),st):=fun st=>pad_call (n:=n+18) hc hf hw
 clear hi hl hc hf hw hil
 conv in gp 2=>whnf
 simp only [QC,eConst,eBin,esNil,Option.bind_some,Option.map_some,List.all_cons,List.all_nil,Bool.and_true,gq4,gq5,QD,cSp,sub_i, *]
theorem gp3_ok {lf:Nat}(h1:look σ (N "left")=some (.int (lf:Int)))(h2:look σ (N "text")=some (.str t))(h3:look σ (N "place")=some (.int (i:Int)))(h4:look σ (N "weight")=some (.int (w:Int)))(h5:look σ (N "piece")=some (.str (sp lf++[c]++sp (w - lf))))(hi:t[i]?=some c)(hl:t.length < 100)(hf:lf≤w)(hw:w≤8) :
  (run FT (n+40)).S (gp 3) ⟨kdL,σ,μ⟩=some (.next,⟨kdL,σ,μ⟩):=by
 have hil:i < t.length:=(List.getElem?_eq_some_iff.1 hi).1
 have g1:binA .Mult (.str [32]) (.int (lf:Int))=some (.str (sp lf)):=mul_sp (by kt_len)
 have g2:binA .Mult (.str [32]) (.int ((w - lf:Nat):Int))=some (.str (sp (w - lf))):=mul_sp (by kt_len)
 have e:(w:Int) - (lf:Int)=((w - lf:Nat):Int):=by kt_len
 have g3:getA μ (.str t) (.int (i:Int))=some (.str [c]):=getA_str hi (by kt_len)
 have g4:binA .Add (.str (sp lf)) (.str [c])=some (.str (sp lf++[c])):=add_s (by rw [sp_len];kt_len) (by simp)
 have g5:binA .Add (.str (sp lf++[c])) (.str (sp (w - lf)))=some (.str (sp lf++[c]++sp (w - lf))):=add_s (by rw [List.length_append,sp_len];simp;kt_len) (by rw [sp_len];kt_len)
 have g6:cmpA μ .NotEq (.str (sp lf++[c]++sp (w - lf))) (.str (sp lf++[c]++sp (w - lf)))=some (.bool false):=by
  show (some (sp lf++[c]++sp (w - lf)==sp lf++[c]++sp (w - lf))).map (fun x=>AV.bool (!x))=_
  simp
 clear hi hl hf hw hil
 conv in gp 3=>whnf
 simp only [QC,eConst,eBin,ssNil,ssCons,sRet,sIf,Option.bind_some,Option.map_some,ite_false,Bool.false_eq_true,gq5,gq6,cSp,tru_b,sub_i, *]
theorem gp4_ok {lf q kq:Nat}{L:List AV}{f0:Int}(h0:look σ (N "pile")=some (.ref q))(h1:look σ (N "left")=some (.int (lf:Int)))(h5:look σ (N "piece")=some (.str (sp lf++[c]++sp (w - lf))))(mq:μ[q]?=some (.acc L kq f0))(hk:kq < 1000)(hf:lf≤w)(hw:w≤8) :
  (run FT (n+40)).S (gp 4) ⟨kdL,σ,μ⟩=some (.next,⟨kdL,σ,μ.set q (.acc (L++[pcV (c,lf,w)]) (kq+1) f0)⟩):=by
 have z:(sp lf++[c]++sp (w - lf)).length=w+1:=by simp [sp_len];kt_len
 have g1:∀ σ μ,sliceA (.str (sp lf++[c]++sp (w - lf))) none (some (lf:Int)) ⟨kdL,σ,μ⟩=some (.str (sp lf),⟨kdL,σ,μ⟩):=fun σ μ=>by
  rw [slice_s (by kt_len) (by kt_len)]
  rw [List.append_assoc,List.take_append_of_le_length (by rw [sp_len];exact Nat.le_refl _),List.take_of_length_le (by rw [sp_len];exact Nat.le_refl _)]
 have g2:∀ σ μ,sliceA (.str (sp lf++[c]++sp (w - lf))) (some (lf:Int)) none ⟨kdL,σ,μ⟩=some (.str (c::sp (w - lf)),⟨kdL,σ,μ⟩):=fun σ μ=>by
  rw [slice_s2 (by kt_len) (by kt_len)]
  rw [List.append_assoc,List.drop_append_of_le_length (by rw [sp_len];exact Nat.le_refl _),List.drop_of_length_le (by rw [sp_len];exact Nat.le_refl _)];rfl
 have g3:∀ σ,meth (.ref q) (nm (Str.ofString "push")) [.str (sp lf),.str (c::sp (w - lf))] ⟨kdL,σ,μ⟩=some (.none,⟨kdL,σ,μ.set q (.acc (L++[pcV (c,lf,w)]) (kq+1) f0)⟩):=fun σ=>mPush mq (by unfold topK;kt_len)
 have g4:kindOk μ μ (.ref q)=true:=kindS mq
 clear z mq hk hf hw
 conv in gp 4=>whnf
 simp only [QC,eSlice,esNil,partNone,partSome,Option.bind_some,Option.map_some,ite_true,QM, *]
theorem gp5_ok {lf q kq:Nat}{L:List AV}(h0:look σ (N "stalk")=some (.ref q))(h1:look σ (N "left")=some (.int (lf:Int)))(h5:look σ (N "piece")=some (.str (sp lf++[c]++sp (w - lf))))(mq:μ[q]?=some (.list L kq))(hk:kq < 1000)(hf:lf≤w)(hw:w≤8) :
  (run FT (n+40)).S (gp 5) ⟨kdL,σ,μ⟩=some (.next,⟨kdL,σ,μ.set q (.list (L++[pcV (c,lf,w)]) (kq+1))⟩):=by
 have z:(sp lf++[c]++sp (w - lf)).length=w+1:=by simp [sp_len];kt_len
 have g1:∀ σ μ,sliceA (.str (sp lf++[c]++sp (w - lf))) none (some (lf:Int)) ⟨kdL,σ,μ⟩=some (.str (sp lf),⟨kdL,σ,μ⟩):=fun σ μ=>by
  rw [slice_s (by kt_len) (by kt_len)]
  rw [List.append_assoc,List.take_append_of_le_length (by rw [sp_len];exact Nat.le_refl _),List.take_of_length_le (by rw [sp_len];exact Nat.le_refl _)]
 have g2:∀ σ μ,sliceA (.str (sp lf++[c]++sp (w - lf))) (some (lf:Int)) none ⟨kdL,σ,μ⟩=some (.str (c::sp (w - lf)),⟨kdL,σ,μ⟩):=fun σ μ=>by
  rw [slice_s2 (by kt_len) (by kt_len)]
  rw [List.append_assoc,List.drop_append_of_le_length (by rw [sp_len];exact Nat.le_refl _),List.drop_of_length_le (by rw [sp_len];exact Nat.le_refl _)];rfl
 have g3:∀ σ,meth (.ref q) (nm (Str.ofString "append")) [.tup [.str (sp lf),.str (c::sp (w - lf))]] ⟨kdL,σ,μ⟩=some (.none,⟨kdL,σ,μ.set q (.list (L++[pcV (c,lf,w)]) (kq+1))⟩):=fun σ=>mAppend mq (by unfold topK;kt_len)
 have g4:kindOk μ μ (.ref q)=true:=kindS mq
 clear z mq hk hf hw
 conv in gp 5=>whnf
 simp only [QC,eTup,eSlice,esNil,partNone,partSome,Option.bind_some,Option.map_some,List.all_cons,List.all_nil,Bool.and_true,List.length_cons,List.length_nil,ite_true,QM,QD, *]
theorem gp6_ok {W:Int}(h1:look σ (N "worth")=some (.int W))(h2:look σ (N "text")=some (.str t))(h3:look σ (N "place")=some (.int (i:Int)))(h4:look σ (N "weight")=some (.int (w:Int)))(hi:t[i]?=some c)(hl:t.length < 100) :
  (run FT (n+40)).S (gp 6) ⟨kdL,σ,μ⟩=some (.next,⟨kdL,put σ (N "worth") (.int (W+if [c]==[112] then (w:Int) else -(w:Int))),μ⟩):=by
 have hil:i < t.length:=(List.getElem?_eq_some_iff.1 hi).1
 have g3:getA μ (.str t) (.int (i:Int))=some (.str [c]):=getA_str hi (by kt_len)
 clear hi hl hil
 cases hb:([c]==[112])
 ·have g:cmpA μ .Eq (.str [c]) (.str [112])=some (.bool false):=by rw [eq_s,hb]
  conv in gp 6=>whnf
  simp only [QC,eConst,eUSub,eIf,Option.bind_some,Option.map_some,ite_false,Bool.false_eq_true,gq5,cP,tru_b,aug_add, *]
 ·have g:cmpA μ .Eq (.str [c]) (.str [112])=some (.bool true):=by rw [eq_s,hb]
  conv in gp 6=>whnf
  simp only [QC,eConst,eUSub,eIf,Option.bind_some,Option.map_some,ite_true,gq5,cP,tru_b,aug_add, *]
end
end
section
noncomputable def gpWs:List String:=["place","weight","left","piece","worth"]
noncomputable def SetAt2 (M M':Nat)(μ μ':Mu):Prop:=μ'.length=μ.length∧∀ i,i≠M→i≠M'→μ'[i]?=μ[i]?
theorem SetAt2.trans {M M':Nat}{μ μ' μ'':Mu}(h:SetAt2 M M' μ μ')(h':SetAt2 M M' μ' μ''):SetAt2 M M' μ μ'':=⟨h'.1.trans h.1,fun i hi hj=>(h'.2 i hi hj).trans (h.2 i hi hj)⟩
structure GpL (f r q k:Nat)(t:List Nat)(σ:Sig):Prop where
 text:look σ (N "text")=some (.str t)
 run:look σ (N "run")=some (.int (r:Int))
 front:look σ (N "front")=some (.int (f:Int))
 pile:look σ (N "pile")=some (.ref q)
 stalk:look σ (N "stalk")=some (.ref k)
theorem GpL.next {f r q k:Nat}{t:List Nat}{σ σ':Sig}(G:GpL f r q k t σ)(a:Ag gpWs σ σ'):GpL f r q k t σ':=
 ⟨(a _ (by decide)).trans G.text,(a _ (by decide)).trans G.run,(a _ (by decide)).trans G.front,(a _ (by decide)).trans G.pile,(a _ (by decide)).trans G.stalk⟩
section
variable {n f r q k:Nat}{t:List Nat}{f0:Int}
theorem gp_body {σ:Sig}{μ:Mu}{i kq kk:Nat}{L L':List AV}{W:Int}(G:GpL f r q k t σ)(H:RunAt t r)(hf:f≤8)(ht:∀ c∈t,c=104∨c=112)(hi:i < t.length)(hpl:look σ (N "place")=some (.int (i:Int)))(hw:look σ (N "worth")=some (.int W))(hqk:q≠k)
  (mq:μ[q]?=some (.acc L kq f0)) (mk:μ[k]?=some (.list L' kk)) (hkq:kq < 1000) (hkk:kk < 1000) :
  ∃ σ' μ',(run FT (n+130)).SS (forB (ga 7)) ⟨kdL,σ,μ⟩=some (.next,⟨kdL,σ',μ'⟩)∧Ag gpWs σ σ'∧SetAt2 q k μ μ'∧μ'[q]?=some (.acc (L++[pcV (pcN f r t i)]) (kq+1) f0)∧μ'[k]?=some (.list (L'++[pcV (pcN f r t i)]) (kk+1)) ∧
   look σ' (N "worth")=some (.int (W+if [(pcN f r t i).1]==[112] then ((pcN f r t i).2.2:Int) else -((pcN f r t i).2.2:Int))):=by
 have hw4:=wtN_or H hi
 have hlen:=H.len
 have hc:t[i]?=some (t.getD i 0):=by simp [hi]
 have hcc:t.getD i 0=104∨t.getD i 0=112:=ht _ (List.mem_of_getElem? hc)
 have hle:f+wtN r i - 8≤wtN r i:=Nat.sub_le_iff_le_add.2 (by rw [Nat.add_comm f];exact Nat.add_le_add_left (by kt_len) _)
 have hw8:wtN r i≤8:=by kt_len
 generalize hcd:t.getD i 0=c at *
 generalize hwd:wtN r i=w at *
 have hp:pcN f r t i=(c,f+w - 8,w):=by unfold pcN;rw [hcd,hwd]
 rw [hp,gps]
 have w0:=gp0_ok (n:=n+109) (σ:=σ) (μ:=μ) H hi hpl G.run
 rw [hwd] at w0
 refine en w0 ?_
 refine en (gp1_ok (n:=n+108) (f:=f) (w:=w) (by kt_ors;exact G.front) (look_same ..)) ?_
 refine en (gp2_ok (n:=n+7) (f:=f) (w:=w) (t:=t) (i:=i) (c:=c) (by kt_ors;exact G.front) (by kt_ors;exact G.text) (by kt_ors;exact hpl) (by kt_ors) hc (by kt_len) hcc hf hw4) ?_
 refine en (gp3_ok (n:=n+86) (lf:=f+w - 8) (w:=w) (t:=t) (i:=i) (c:=c) (by kt_ors) (by kt_ors;exact G.text) (by kt_ors;exact hpl) (by kt_ors) (look_same ..) hc (by kt_len) hle hw8) ?_
 refine en (gp4_ok (n:=n+85) (lf:=f+w - 8) (w:=w) (c:=c) (q:=q) (by kt_ors;exact G.pile) (by kt_ors) (look_same ..) mq hkq hle hw8) ?_
 have mk1:(μ.set q (.acc (L++[pcV (c,f+w - 8,w)]) (kq+1) f0))[k]?=some (.list L' kk):=by rw [List.getElem?_set_ne hqk];exact mk
 refine en (gp5_ok (n:=n+84) (lf:=f+w - 8) (w:=w) (c:=c) (q:=k) (by kt_ors;exact G.stalk) (by kt_ors) (look_same ..) mk1 hkk hle hw8) ?_
 refine en (gp6_ok (n:=n+83) (w:=w) (t:=t) (i:=i) (c:=c) (W:=W) (by kt_ors;exact hw) (by kt_ors;exact G.text) (by kt_ors;exact hpl) (by kt_ors) hc (by kt_len)) ?_
 refine ⟨_,_,rfl,((((Ag.refl _ _).put (by decide)).put (by decide)).put (by decide)).put (by decide),⟨by simp,fun j hj hj'=>by rw [List.getElem?_set_ne (Ne.symm hj'),List.getElem?_set_ne (Ne.symm hj)]⟩,?_,get_set mk1,look_same ..⟩
 rw [List.getElem?_set_ne (Ne.symm hqk)]
 exact get_set mq
theorem mkP_len:(mkP f r t).length=t.length:=by simp [mkP]
theorem mkP_take {i:Nat}(hi:i < t.length):(mkP f r t).take (i+1)=(mkP f r t).take i++[pcN f r t i]:=by
 rw [List.take_add_one]
 simp [mkP,hi]
theorem gp_loop {p:Pos}(H:RunAt t r)(hf:f≤8)(ht:∀ c∈t,c=104∨c=112)(hqk:q≠k):∀ (m i:Nat) (σ:Sig) (μ:Mu),i+m=t.length→GpL f r q k t σ →
  look σ (N "worth")=some (.int (Wo 112 ((mkP f r t).take i)))→μ[q]?=some (.acc (((mkP f r t).take i).map pcV) i f0)→μ[k]?=some (.list (((mkP f r t).take i).map pcV) i) →
  ∃ σ' μ',(run FT (n+m+131)).Lp (.Name (Str.ofString "place") p) (.vals ((List.range' i m).map fun (j:Nat)=>AV.int (j:Int))) (forB (ga 7)) ⟨kdL,σ,μ⟩=some (.next,⟨kdL,σ',μ'⟩)∧Ag gpWs σ σ'∧SetAt2 q k μ μ'∧μ'[q]?=some (.acc ((mkP f r t).map pcV) t.length f0)∧μ'[k]?=some (.list ((mkP f r t).map pcV) t.length) ∧
   look σ' (N "worth")=some (.int (Wo 112 (mkP f r t)))
 | 0,i,σ,μ,h,G,hw,mq,mk=>by
  have hi:i=t.length:=by kt_len
  have e:(mkP f r t).take i=mkP f r t:=by rw [List.take_of_length_le];rw [mkP_len];kt_len
  rw [e] at hw mq mk
  exact ⟨σ,μ,rfl,Ag.refl _ _,⟨rfl,fun _ _ _=>rfl⟩,by rw [mq,hi],by rw [mk,hi],hw⟩
 | m+1,i,σ,μ,h,G,hw,mq,mk=>by
  have hi:i < t.length:=by kt_len
  have hlen:=H.len
  have a0:Ag gpWs σ (put σ (N "place") (.int (i:Int))):=(Ag.refl _ _).put (by decide)
  refine x2_5 (gp_body (n:=n+m+1) (σ:=put σ (N "place") (.int (i:Int))) (G.next a0) H hf ht hi (look_same ..) (by kt_ors;exact hw) hqk mq mk (by kt_len) (by kt_len)) fun σ1 μ1 r1 a1 s1 q1 k1 w1=>?_
  have e1:=mkP_take (f:=f) (r:=r) hi
  have e2:((mkP f r t).take i).map pcV++[pcV (pcN f r t i)]=((mkP f r t).take (i+1)).map pcV:=by rw [e1,List.map_append];rfl
  rw [e2] at q1 k1
  have e3:Wo 112 ((mkP f r t).take i)+(if [(pcN f r t i).1]==[112] then ((pcN f r t i).2.2:Int) else -((pcN f r t i).2.2:Int))=Wo 112 ((mkP f r t).take (i+1)):=by
   rw [e1,Wo_app]
   show _=_+((if [(pcN f r t i).1]==[112] then ((pcN f r t i).2.2:Int) else -((pcN f r t i).2.2:Int))+0)
   rw [Int.add_zero]
  rw [e3] at w1
  obtain ⟨σ2,μ2,r2,a2,s2,q2,k2,w2⟩:=gp_loop H hf ht hqk m (i+1) σ1 μ1 (by kt_len) ((G.next a0).next a1) w1 q1 k1
  refine ⟨σ2,μ2,?_,(a0.trans a1).trans a2,s1.trans s2,q2,k2,w2⟩
  rw [List.range'_succ,List.map_cons,show n+(m+1)+131=n+m+131+1 by kt_len,lp_int sk_place]
  rw [show n+m+131=n+m+1+130 by kt_len,r1,Option.bind_some]
  exact r2
end
end
section
noncomputable def ga7':Unit:=()
section
variable {n s k q:Nat}{σ:Sig}{μ:Mu}{t:List Nat}{nl l L:List AV}
theorem ga1_it (h1:look σ (N "numbers")=some (.ref 0))(h2:look σ (N "s")=some (.int (s:Int)))(m0:μ[0]?=some (.list nl k))(hs:s < 3)(hsl:sliceL nl (some (2*(s:Int))) (some (2*(s:Int)+2))=l):(run FT (n+20)).E (forI (ga 1)) ⟨kdL,σ,μ⟩=some (.ref μ.length,⟨kdL,σ,μ++[.list l k]⟩):=by
 have g1:binA .Mult (.int 2) (.int (s:Int))=some (.int (2*(s:Int))):=by
  show (if small 2&&small (s:Int) then _ else _)=_
  rw [small_nat (by kt_len)];rfl
 have g2:∀ σ,sliceA (.ref 0) (some (2*(s:Int))) (some (2*(s:Int)+2)) ⟨kdL,σ,μ⟩=some (.ref μ.length,⟨kdL,σ,μ++[.list l k]⟩):=fun σ=>by
  show (match μ[0]? with | some (.list l kk)=>some (St.alloc ⟨kdL,σ,μ⟩ (.list (sliceL l (some (2*(s:Int))) (some (2*(s:Int)+2))) kk)) | _=>Option.none)=_
  rw [m0]
  show some (St.alloc _ _)=_
  rw [hsl];rfl
 clear hsl m0
 conv in forI (ga 1)=>whnf
 simp only [QC,eConst,eBin,eSlice,partSome,Option.bind_some,Option.map_some,gq4,add_i, *]
theorem ga7_args (h1:look σ (N "text")=some (.str t))(hl:t.length < 1000):(run FT (n+20)).Es (rgA (forI (ga 7))) ⟨kdL,σ,μ⟩=some ([.int (t.length:Int)],⟨kdL,σ,μ⟩):=by
 have g1:∀ r st,prim FT r (nm (Str.ofString "len")) [.str t] st=some (.int t.length,st):=fun r st=>pLenS (strOk_of (by kt_len))
 conv in rgA (forI (ga 7))=>whnf
 simp only [QC,esNil,Option.bind_some,Option.map_some,List.all_cons,List.all_nil,Bool.and_true, *]
theorem ga8_ok (h1:look σ (N "texts")=some (.ref 1))(h2:look σ (N "text")=some (.str t))(m:μ[1]?=some (.list L k))(hk:k < 1000):(run FT (n+20)).S (ga 8) ⟨kdL,σ,μ⟩=some (.next,⟨kdL,σ,μ.set 1 (.list (L++[.str t]) (k+1))⟩):=by
 have g1:∀ σ,meth (.ref 1) (nm (Str.ofString "append")) [.str t] ⟨kdL,σ,μ⟩=some (.none,⟨kdL,σ,μ.set 1 (.list (L++[.str t]) (k+1))⟩):=fun σ=>mAppend m (by unfold topK;kt_len)
 have g2:kindOk μ μ (.ref 1)=true:=kindS m
 clear m hk
 conv in ga 8=>whnf
 simp only [QC,esNil,Option.bind_some,Option.map_some,ite_true,QM, *]
theorem ga9_ok (h1:look σ (N "piles")=some (.ref 2))(h2:look σ (N "pile")=some (.ref q))(m:μ[2]?=some (.list L k))(hk:k < 1000):(run FT (n+20)).S (ga 9) ⟨kdL,σ,μ⟩=some (.next,⟨kdL,σ,μ.set 2 (.list (L++[.ref q]) (k+1))⟩):=by
 have g1:∀ σ,meth (.ref 2) (nm (Str.ofString "append")) [.ref q] ⟨kdL,σ,μ⟩=some (.none,⟨kdL,σ,μ.set 2 (.list (L++[.ref q]) (k+1))⟩):=fun σ=>mAppend m (by unfold topK;kt_len)
 have g2:kindOk μ μ (.ref 2)=true:=kindS m
 clear m hk
 conv in ga 9=>whnf
 simp only [QC,esNil,Option.bind_some,Option.map_some,ite_true,QM, *]
theorem ga10_ok (h1:look σ (N "stalks")=some (.ref 3))(h2:look σ (N "stalk")=some (.ref q))(m:μ[3]?=some (.list L k))(hk:k < 1000):(run FT (n+20)).S (ga 10) ⟨kdL,σ,μ⟩=some (.next,⟨kdL,σ,μ.set 3 (.list (L++[.ref q]) (k+1))⟩):=by
 have g1:∀ σ,meth (.ref 3) (nm (Str.ofString "append")) [.ref q] ⟨kdL,σ,μ⟩=some (.none,⟨kdL,σ,μ.set 3 (.list (L++[.ref q]) (k+1))⟩):=fun σ=>mAppend m (by unfold topK;kt_len)
 have g2:kindOk μ μ (.ref 3)=true:=kindS m
 clear m hk
 conv in ga 10=>whnf
 simp only [QC,esNil,Option.bind_some,Option.map_some,ite_true,QM, *]
theorem ga11_ok {w:Int}(h1:look σ (N "worths")=some (.ref 4))(h2:look σ (N "worth")=some (.int w))(m:μ[4]?=some (.list L k))(hk:k < 1000):(run FT (n+20)).S (ga 11) ⟨kdL,σ,μ⟩=some (.next,⟨kdL,σ,μ.set 4 (.list (L++[.int w]) (k+1))⟩):=by
 have g1:∀ σ,meth (.ref 4) (nm (Str.ofString "append")) [.int w] ⟨kdL,σ,μ⟩=some (.none,⟨kdL,σ,μ.set 4 (.list (L++[.int w]) (k+1))⟩):=fun σ=>mAppend m (by unfold topK;kt_len)
 have g2:kindOk μ μ (.ref 4)=true:=kindS m
 clear m hk
 conv in ga 11=>whnf
 simp only [QC,esNil,Option.bind_some,Option.map_some,ite_true,QM, *]
theorem lw3_ok {nl:List AV}{k:Nat}:(run FT (n+20)).S (lw 3) ⟨kdL,σ,[.list nl k]⟩=some (.next,⟨kdL,put (put (put (put σ (N "texts") (.ref 1)) (N "piles") (.ref 2)) (N "stalks") (.ref 3)) (N "worths") (.ref 4),[.list nl k,.list [] 0,.list [] 0,.list [] 0,.list [] 0]⟩):=by
 conv in lw 3=>whnf
 rw [sAsTup0 rfl (by kernel_rfl!)]
 simp only [QC,eTup,eList,esNil,alloc_eq,Option.bind_some,Option.map_some,List.all_cons,List.all_nil,Bool.and_true,List.length_cons,List.length_nil,ite_true,gq1,gq2,gq3,QD, *]
 rfl
end
structure NumOk (x:AV)(m:List Nat)(P:List (Nat × List Nat))(c:Nat):Prop where
 call:∀ n st,callUF (run FT (n+100)) (mkUF (pb 16)) [x] st=some (.tup [.str (P.map (·.1)++[c]),.str m],st)
 mem:∀ p∈P,p∈C26
 code:inB1 c=true
 mean:(P.map (·.2)).flatten=m
 lenP:P.length≤2
 lenM:m.length≤2
theorem NumOk.b1 {x:AV}{m:List Nat}{P:List (Nat × List Nat)}{c:Nat}(H:NumOk x m P c)(i d:Nat)(h:(P.map (·.1)++[c])[i]?=some d):inB1 d=decide (i+1=(P.map (·.1)++[c]).length):=by
 by_cases hi:i < P.length
 ·rw [List.getElem?_append_left (by simpa using hi)] at h
  have:d=(P[i]).1:=by simpa [hi] using h.symm
  subst this
  rw [b1_no' (H.mem _ (List.getElem_mem hi)),decide_eq_false]
  simp;kt_len
 ·rw [List.getElem?_append_right (by simp;kt_len)] at h
  have h0:i - P.length=0:=by
   have:=(List.getElem?_eq_some_iff.1 h).1
   simp at this;kt_len
  simp [h0] at h
  subst h
  rw [H.code,decide_eq_true]
  simp;kt_len
noncomputable def csOf (P:List (Nat × List Nat))(c:Nat):List (Nat × Option (List Nat)):=P.map (fun p=>(p.1,some p.2))++[(c,none)]
theorem NumOk.cs {x:AV}{m:List Nat}{P:List (Nat × List Nat)}{c:Nat}(H:NumOk x m P c):CsOk (csOf P c)∧(csOf P c).map (·.1)=P.map (·.1)++[c]∧((csOf P c).filterMap (·.2)).flatten=m∧(csOf P c).length≤3:=by
 refine ⟨fun y hy=>?_,?_,?_,?_⟩
 ·unfold csOf at hy
  rcases List.mem_append.1 hy with h | h
  ·refine x1_1 (List.mem_map.1 h) fun p hp hq2=>?_;subst hq2
   exact H.mem p hp
  ·simp at h;subst h;exact H.code
 ·simp [csOf]
 ·rw [← H.mean];simp [csOf,List.filterMap_append,List.filterMap_map,Function.comp_def]
 ·have:=H.lenP;simp [csOf];kt_len
theorem txt_mkP (f r:Nat)(t:List Nat):txt (mkP f r t)=t:=by
 apply List.ext_getElem
 ·simp [txt,mkP]
 ·intro i h1 h2
  simp [txt,mkP,pcN,h2]
theorem num_lin (q:Int)(r:Nat):NumOk (.lin 3888 q (r:Int)) (W6 (rA r)) (tyP (rA r) (rO r) (rB r)) (cd (rK r)):=by
 refine x0_2 (tyP_ok (a:=rA r) (o:=rO r) (b:=rB r) (Nat.mod_lt _ (by decide)) (Nat.mod_lt _ (by decide)) (Nat.mod_lt _ (by decide))) fun h1 h2 h3=>?_
 have hl:=tyW_len (rA r) (rO r) (rB r)
 refine ⟨fun n st=>by rw [h2];exact ty_call,h1,b1_cd' (Nat.mod_lt _ (by decide)),h3,?_,?_⟩
 ·rw [← h2,List.length_map] at hl;exact hl
 ·have h:rA r < 6:=Nat.mod_lt _ (by decide)
  generalize rA r=a at h
  refine ltn6 (show a < 6 by kt_len) ?_ ?_ ?_ ?_ ?_ ?_ <;> decide
end
section
structure Bst (f:Int)(fr:Nat)(nl:List AV)(s:Nat)(P:Nat→List Pc)(K Q:Nat→Nat)(σ:Sig)(μ:Mu):Prop where
 numbers:look σ (N "numbers")=some (.ref 0)
 first:look σ (N "first")=some (.int f)
 front:look σ (N "front")=some (.int (fr:Int))
 texts:look σ (N "texts")=some (.ref 1)
 piles:look σ (N "piles")=some (.ref 2)
 stalks:look σ (N "stalks")=some (.ref 3)
 worths:look σ (N "worths")=some (.ref 4)
 m0:∃ k,μ[0]?=some (.list nl k)
 m1:μ[1]?=some (.list ((List.range s).map fun u=>AV.str (txt (P u))) s)
 m2:μ[2]?=some (.list ((List.range s).map fun u=>AV.ref (Q u)) s)
 m3:μ[3]?=some (.list ((List.range s).map fun u=>AV.ref (K u)) s)
 m4:μ[4]?=some (.list ((List.range s).map fun u=>AV.int (Wo 112 (P u))) s)
 mK:∀ u,u < s→∃ k,μ[K u]?=some (.list ((P u).map pcV) k)
 mQ:∀ u,u < s→∃ k,μ[Q u]?=some (.acc ((P u).map pcV) k f)
 inj:∀ u u',u < s→u' < s→u≠u'→Q u≠Q u'
 K4:∀ u,u < s→4 < K u
 Q4:∀ u,u < s→4 < Q u
noncomputable def bWs:List String:=["s","typed","text","n","signs","meant","place","more","run","pile","stalk","worth","weight","left","piece"]
structure WdOk (t:List Nat)(r:Nat):Prop where
 run:RunAt t r
 let_:∀ c∈t,c=104∨c=112
 join:∀ m∈[[],[104],[112]],joinB (t++m)=true
 ell:∀ n,∀ m∈[[],[104],[112]],ellC n t m=true
theorem map_range_succ {α:Type}(g g':Nat→α)(s:Nat)(v:α)(h:∀ u,u < s→g' u=g u)(hv:g' s=v):(List.range s).map g++[v]=(List.range (s+1)).map g':=by
 rw [List.range_succ,List.map_append,List.map_singleton,hv]
 congr 1
 exact List.map_congr_left fun u hu=>(h u (by simpa using hu)).symm
theorem ga_step {n s fr r:Nat}{f:Int}{nl:List AV}{P:Nat→List Pc}{K Q:Nat→Nat}{σ:Sig}{μ:Mu}{x1 x2:AV}{m1 m2:List Nat}{P1 P2:List (Nat × List Nat)}{c1 c2:Nat}
  (B:Bst f fr nl s P K Q σ μ) (hs:s < 3) (hsv:look σ (N "s")=some (.int (s:Int))) (hf:fr≤8) (hsl:sliceL nl (some (2*(s:Int))) (some (2*(s:Int)+2))=[x1,x2])
  (N1:NumOk x1 m1 P1 c1) (N2:NumOk x2 m2 P2 c2) (H:WdOk (m1++m2) r) (hP:P s=mkP fr r (m1++m2)) :
  ∃ σ' μ' K' Q',(run FT (n+220)).SS (forB (lw 4)) ⟨kdL,σ,μ⟩=some (.next,⟨kdL,σ',μ'⟩)∧Bst f fr nl (s+1) P K' Q' σ' μ'∧Ag bWs σ σ':=by
 suffices h:Ends ((run FT (n+220)).SS (forB (lw 4)) ⟨kdL,σ,μ⟩) kdL (fun σ' μ'=>∃ K' Q',Bst f fr nl (s+1) P K' Q' σ' μ'∧Ag bWs σ σ') by
  obtain ⟨σ',μ',r,K',Q',b,a⟩:=h
  exact ⟨σ',μ',K',Q',r,b,a⟩
 refine Ends.post fun PP hPP=>?_
 refine x1_0 (B.m0) fun k0 m0=>?_
 have lt4:4 < μ.length:=get_lt B.m4
 have l1:=N1.lenP;have l2:=N2.lenP;have l3:=N1.lenM;have l4:=N2.lenM
 generalize ht:m1++m2=t at H hP
 have htl:t.length≤4:=by rw [← ht,List.length_append];kt_len
 rw [gas]
 refine en (ga0_ok (n:=n+199)) ?_
 generalize hσ0:put (put σ (N "typed") (.str [])) (N "text") (.str [])=σ0
 have a0:Ag bWs σ σ0:=by rw [← hσ0];exact ((Ag.refl _ _).put (by decide)).put (by decide)
 have ty0:look σ0 (N "typed")=some (.str []):=by rw [← hσ0];kt_ors
 have tx0:look σ0 (N "text")=some (.str []):=by rw [← hσ0,look_same]
 have sv0:look σ0 (N "s")=some (.int (s:Int)):=by rw [← hσ0];kt_ors;exact hsv
 refine x2_0 ga1_for fun p q e1=>?_
 have hit:stepIt (run FT (n+217)) (forI (ga 1)) ⟨kdL,σ0,μ⟩=some (.lst μ.length 0,⟨kdL,σ0,μ++[.list [x1,x2] k0]⟩):=by
  have:stepIt (run FT (n+217)) (forI (ga 1)) ⟨kdL,σ0,μ⟩=((run FT (n+217)).E (forI (ga 1)) ⟨kdL,σ0,μ⟩).bind fun (v,st')=>(itOf st' v).map fun i=>(i,st'):=rfl
  rw [this,show n+217=n+197+20 by kt_len,ga1_it ((a0 _ (by decide)).trans B.numbers) sv0 m0 hs hsl,Option.bind_some]
  show (itOf ⟨kdL,σ0,μ++[.list [x1,x2] k0]⟩ (.ref μ.length)).map _=_
  have:itOf ⟨kdL,σ0,μ++[.list [x1,x2] k0]⟩ (.ref μ.length)=some (.lst μ.length 0):=it_ref app_new
  rw [this];rfl
 refine x1_3 (gn_loop (n:=n+94) (p:=p) (σ:=σ0) (μ:=μ++[.list [x1,x2] k0]) (j:=μ.length) (kk:=k0) app_new ty0 tx0 N1.call N2.call (by simp;kt_len) (by kt_len) (by simp;kt_len) (by kt_len) N1.b1 N2.b1) fun σ1 r1 a1 ty1 tx1=>?_
 have s1:(run FT (n+218)).S (ga 1) ⟨kdL,σ0,μ⟩=some (.next,⟨kdL,σ1,μ++[.list [x1,x2] k0]⟩):=by
  conv=>lhs;rw [e1]
  rw [sFor,hit,Option.bind_some]
  exact r1
 refine en s1 ?_
 have b1:Ag bWs σ σ1:=a0.trans (a1.mono (by decide))
 rw [ht] at tx1
 refine x0_3 (N1.cs) fun o1 o2 o3 o4=>?_
 refine x0_3 (N2.cs) fun q1 q2 q3 q4=>?_
 refine x1_0 (ga2_ok (n:=n+17) (σ:=σ1) (μ:=μ++[.list [x1,x2] k0]) (L:=csOf P1 c1++csOf P2 c2) (t:=t) (fun y hy=>(List.mem_append.1 hy).elim (o1 y) (q1 y)) (by rw [List.length_append];kt_len) (by rw [List.map_append,o2,q2];exact ty1) tx1 (by rw [List.filterMap_append,List.flatten_append,o3,q3,ht]) (by kt_len) ⟨_,(b1 _ (by decide)).trans B.texts⟩) fun o s2=>?_
 refine en s2 ?_
 have hμ2:∃ tl,μ++[AObj.list [x1,x2] k0]++[o]=μ++tl:=⟨_,List.append_assoc ..⟩
 refine x1_0 hμ2 fun tl hμ2=>?_
 rw [hμ2]
 generalize hμ3:μ++tl=μ3
 have kp3:∀ (i:Nat) (o:AObj),μ[i]?=some o→μ3[i]?=some o:=fun i o e=>by rw [← hμ3];exact app_get e
 have ln3:μ.length≤μ3.length:=by rw [← hμ3];simp
 refine x1_1 (ga3_ok (n:=n+66) (σ:=σ1) (μ:=μ3) tx1 (by kt_len) H.join H.ell) fun σ3 r3 a3=>?_
 refine en r3 ?_
 have tx3:look σ3 (N "text")=some (.str t):=(a3 _ (by decide)).trans tx1
 have b3:Ag bWs σ σ3:=b1.trans (a3.mono (by decide))
 refine en (ga4_ok (n:=n+195)) ?_
 refine x1_2 (ga5_ok (n:=n+164) (σ:=put σ3 (N "run") (.int 1)) (μ:=μ3) H.run (by kt_ors;exact tx3) (look_same ..)) fun σ5 r5 a5 ru5=>?_
 refine en r5 ?_
 have b5:Ag bWs σ σ5:=(b3.put (by decide)).trans (a5.mono (by decide))
 have tx5:look σ5 (N "text")=some (.str t):=(a5 _ (by decide)).trans (by kt_ors;exact tx3)
 refine en (ga6_ok (n:=n+193) (f:=f) ((b5 _ (by decide)).trans B.first)) ?_
 generalize hσ6:put (put (put σ5 (N "worth") (.int 0)) (N "stalk") (.ref (μ3.length+1))) (N "pile") (.ref μ3.length)=σ6
 have a6:Ag ["worth","stalk","pile"] σ5 σ6:=by rw [← hσ6];exact (((Ag.refl _ _).put (by decide)).put (by decide)).put (by decide)
 have b6:Ag bWs σ σ6:=b5.trans (a6.mono (by decide))
 have w6:look σ6 (N "worth")=some (.int 0):=by rw [← hσ6];kt_ors
 have st6:look σ6 (N "stalk")=some (.ref (μ3.length+1)):=by rw [← hσ6];kt_ors
 have pi6:look σ6 (N "pile")=some (.ref μ3.length):=by rw [← hσ6,look_same]
 have tx6:look σ6 (N "text")=some (.str t):=(a6 _ (by decide)).trans tx5
 have G6:GpL fr r μ3.length (μ3.length+1) t σ6:=⟨tx6,(a6 _ (by decide)).trans ru5,(b6 _ (by decide)).trans B.front,pi6,st6⟩
 have q6:(μ3++[AObj.acc [] 0 f,AObj.list [] 0])[μ3.length]?=some (.acc [] 0 f):=app_new
 have k6:(μ3++[AObj.acc [] 0 f,AObj.list [] 0])[μ3.length+1]?=some (.list [] 0):=by
  rw [List.getElem?_append_right (by kt_len)];simp
 refine x2_0 ga7_for fun p7 q7 e7=>?_
 refine x2_5 (gp_loop (n:=n+80 - t.length) (p:=p7) (f0:=f) H.run hf H.let_ (by kt_len:μ3.length≠μ3.length+1) t.length 0 σ6 (μ3++[.acc [] 0 f,.list [] 0]) (by kt_len) G6 w6 q6 k6) fun σ7 μ7 r7 a7 s7 mq7 mk7 w7=>?_
 rw [show n+80 - t.length+t.length+131=n+211 from nsl (by kt_len) rfl] at r7
 have hfor:=for_range (n:=n+211) (vs:=[.int (t.length:Int)]) (a:=0) (b:=(t.length:Int)) (c:=1) (σ:=σ6) (μ:=μ3++[.acc [] 0 f,.list [] 0]) e7 (by kernel_rfl!) (ga7_args (n:=n+191) tx6 (by kt_len)) rfl (small_up (m:=t.length) (by kt_len))
 rw [size_up,rng_up,List.range_eq_range'] at hfor
 refine en (hfor.trans r7) ?_
 have b7:Ag bWs σ σ7:=b6.trans (a7.mono (by decide))
 have ln7:μ7.length=μ3.length+2:=by rw [s7.1];simp
 have kp7:∀ (i:Nat) (o:AObj),μ[i]?=some o→μ7[i]?=some o:=fun i o e=>by
  have:=get_lt e
  rw [s7.2 i (by kt_len) (by kt_len)]
  exact app_get (kp3 _ _ e)
 have tx7:look σ7 (N "text")=some (.str t):=(a7 _ (by decide)).trans tx6
 refine en (ga8_ok (n:=n+191) ((b7 _ (by decide)).trans B.texts) tx7 (kp7 _ _ B.m1) (by kt_len)) ?_
 generalize hμ8:μ7.set 1 _=μ8
 have kp8:∀ (i:Nat),i≠1→μ8[i]?=μ7[i]?:=fun i hi=>by rw [← hμ8,List.getElem?_set_ne (Ne.symm hi)]
 have n8:μ8[1]?=some (.list ((List.range s).map (fun u=>AV.str (txt (P u)))++[.str t]) (s+1)):=by rw [← hμ8];exact get_set (kp7 _ _ B.m1)
 refine en (ga9_ok (n:=n+190) (q:=μ3.length) ((b7 _ (by decide)).trans B.piles) ((a7 _ (by decide)).trans pi6) ((kp8 2 (by decide)).trans (kp7 _ _ B.m2)) (by kt_len)) ?_
 generalize hμ9:μ8.set 2 _=μ9
 have kp9:∀ (i:Nat),i≠2→μ9[i]?=μ8[i]?:=fun i hi=>by rw [← hμ9,List.getElem?_set_ne (Ne.symm hi)]
 have n9:μ9[2]?=some (.list ((List.range s).map (fun u=>AV.ref (Q u))++[.ref μ3.length]) (s+1)):=by rw [← hμ9];exact get_set ((kp8 2 (by decide)).trans (kp7 _ _ B.m2))
 refine en (ga10_ok (n:=n+189) (q:=μ3.length+1) ((b7 _ (by decide)).trans B.stalks) ((a7 _ (by decide)).trans st6) ((kp9 3 (by decide)).trans ((kp8 3 (by decide)).trans (kp7 _ _ B.m3))) (by kt_len)) ?_
 generalize hμ10:μ9.set 3 _=μ10
 have kp10:∀ (i:Nat),i≠3→μ10[i]?=μ9[i]?:=fun i hi=>by rw [← hμ10,List.getElem?_set_ne (Ne.symm hi)]
 have n10:μ10[3]?=some (.list ((List.range s).map (fun u=>AV.ref (K u))++[.ref (μ3.length+1)]) (s+1)):=by rw [← hμ10];exact get_set ((kp9 3 (by decide)).trans ((kp8 3 (by decide)).trans (kp7 _ _ B.m3)))
 have o4':μ10[4]?=some (.list ((List.range s).map fun u=>AV.int (Wo 112 (P u))) s):=(kp10 4 (by decide)).trans ((kp9 4 (by decide)).trans ((kp8 4 (by decide)).trans (kp7 _ _ B.m4)))
 refine en (ga11_ok (n:=n+188) (w:=Wo 112 (mkP fr r t)) ((b7 _ (by decide)).trans B.worths) w7 o4' (by kt_len)) ?_
 generalize hμ11:μ10.set 4 _=μ11
 have kp11:∀ (i:Nat),i≠4→μ11[i]?=μ10[i]?:=fun i hi=>by rw [← hμ11,List.getElem?_set_ne (Ne.symm hi)]
 have n11:μ11[4]?=some (.list ((List.range s).map (fun u=>AV.int (Wo 112 (P u)))++[.int (Wo 112 (mkP fr r t))]) (s+1)):=by rw [← hμ11];exact get_set o4'
 have far:∀ i,4 < i→μ11[i]?=μ7[i]?:=fun i hi=>(kp11 i (by kt_len)).trans ((kp10 i (by kt_len)).trans ((kp9 i (by kt_len)).trans (kp8 i (by kt_len))))
 refine ⟨σ7,μ11,rfl,hPP _ _ ⟨fun u=>if u=s then μ3.length+1 else K u,fun u=>if u=s then μ3.length else Q u,?_,b7⟩⟩
 exact
 {numbers:=(b7 _ (by decide)).trans B.numbers
  first:=(b7 _ (by decide)).trans B.first
  front:=(b7 _ (by decide)).trans B.front
  texts:=(b7 _ (by decide)).trans B.texts
  piles:=(b7 _ (by decide)).trans B.piles
  stalks:=(b7 _ (by decide)).trans B.stalks
  worths:=(b7 _ (by decide)).trans B.worths
  m0:=⟨k0,(kp11 0 (by decide)).trans ((kp10 0 (by decide)).trans ((kp9 0 (by decide)).trans ((kp8 0 (by decide)).trans (kp7 _ _ m0))))⟩
  m1:=by
   rw [kp11 1 (by decide),kp10 1 (by decide),kp9 1 (by decide),n8,map_range_succ (g':=fun u=>AV.str (txt (P u))) _ _ _ (fun _ _=>rfl) (by rw [hP,txt_mkP])]
  m2:=by
   rw [kp11 2 (by decide),kp10 2 (by decide),n9,map_range_succ (g':=fun u=>AV.ref (if u=s then μ3.length else Q u)) _ _ _ (fun u hu=>by rw [if_neg (by kt_len)]) (by rw [if_pos rfl])]
  m3:=by
   rw [kp11 3 (by decide),n10,map_range_succ (g':=fun u=>AV.ref (if u=s then μ3.length+1 else K u)) _ _ _ (fun u hu=>by rw [if_neg (by kt_len)]) (by rw [if_pos rfl])]
  m4:=by
   rw [n11,map_range_succ (g':=fun u=>AV.int (Wo 112 (P u))) _ _ _ (fun _ _=>rfl) (by rw [hP])]
  mK:=fun u hu=>by
   by_cases e:u=s
   ·subst e
    rw [if_pos rfl,far _ (by kt_len),mk7,hP]
    exact ⟨_,rfl⟩
   ·refine x1_0 (B.mK u (by kt_len)) fun k h=>?_
    rw [if_neg e,far _ (B.K4 u (by kt_len)),kp7 _ _ h]
    exact ⟨_,rfl⟩
  mQ:=fun u hu=>by
   by_cases e:u=s
   ·subst e
    rw [if_pos rfl,far _ (by kt_len),mq7,hP]
    exact ⟨_,rfl⟩
   ·refine x1_0 (B.mQ u (by kt_len)) fun k h=>?_
    rw [if_neg e,far _ (B.Q4 u (by kt_len)),kp7 _ _ h]
    exact ⟨_,rfl⟩
  inj:=fun u u' hu hu' hne=>by
   have lq:∀ u,u < s→Q u < μ.length:=fun u hu=>let ⟨k,h⟩:=B.mQ u hu;get_lt h
   by_cases e:u=s
   ·have e':u'≠s:=by kt_len
    rw [if_pos e,if_neg e']
    have:=lq u' (by kt_len);kt_len
   ·rw [if_neg e]
    by_cases e':u'=s
    ·rw [if_pos e']
     have:=lq u (by kt_len);kt_len
    ·rw [if_neg e']
     exact B.inj u u' (by kt_len) (by kt_len) hne
  K4:=fun u hu=>by
   by_cases e:u=s
   ·rw [if_pos e];kt_len
   ·rw [if_neg e];exact B.K4 u (by kt_len)
  Q4:=fun u hu=>by
   by_cases e:u=s
   ·rw [if_pos e];kt_len
   ·rw [if_neg e];exact B.Q4 u (by kt_len)}
end
section
noncomputable def rn (t:List Nat):Nat:=1+((t.drop 1).takeWhile (·==t.getD 0 0)).length
noncomputable def runB (t:List Nat)(r:Nat):Bool:=decide (1≤r∧r≤t.length∧t.length≤4)&&(List.range r).all (fun i=>decide (t.getD i 0=t.getD 0 0))&&(decide (r=t.length)||decide (t.getD r 0≠t.getD 0 0))&&t.all (fun c=>c==104||c==112)
theorem runB_ok {t:List Nat}{r:Nat}(h:runB t r=true):RunAt t r∧∀ c∈t,c=104∨c=112:=by
 unfold runB at h
 rw [Bool.and_eq_true,Bool.and_eq_true,Bool.and_eq_true,decide_eq_true_eq,Bool.or_eq_true,decide_eq_true_eq,decide_eq_true_eq] at h
 obtain ⟨⟨⟨⟨h1,h2,h3⟩,h4⟩,h5⟩,h6⟩:=h
 have hg:∀ i,i < t.length→t[i]?=some (t.getD i 0):=fun i hi=>by simp [hi]
 refine ⟨⟨h1,h2,h3,fun i hi=>⟨t.getD 0 0,?_,hg 0 (by kt_len)⟩,?_⟩,fun c hc=>by simpa using List.all_eq_true.1 h6 c hc⟩
 ·have:=List.all_eq_true.1 h4 i (by simpa using hi)
  rw [decide_eq_true_eq] at this
  rw [hg i (by kt_len),this]
 ·by_cases e:r=t.length
  ·exact .inl e
  ·exact .inr ⟨_,_,hg r (by kt_len),hg 0 (by kt_len),h5.resolve_left e⟩
theorem run_all:((List.range 6).all fun a=>(List.range 6).all fun b=>runB (wd a b) (rn (wd a b)))=true:=by decide +kernel
theorem ok_all:((List.range 6).all fun a=>(List.range 6).all fun b=>(List.range 9).all fun f=>okAll (mkP f (rn (wd a b)) (wd a b)))=true:=by decide +kernel
noncomputable def wW (t:List Nat):Int:=Wo 112 (mkP 0 (rn t) t)
noncomputable def collB (t u:List Nat):Bool:=decide (collI (t++[109]) (u++[109])=(if decide (wW t > wW u)=true then 1 else 0) - (if decide (wW t < wW u)=true then 1 else 0))
theorem coll_all:((List.range 6).all fun a=>(List.range 6).all fun b=>(List.range 6).all fun c=>(List.range 6).all fun d=>collB (wd a b) (wd c d))=true:=by decide +kernel
theorem Wo_congr {o:Nat}{l l':List Pc}(h:l.map (fun p=>(p.1,p.2.2))=l'.map (fun p=>(p.1,p.2.2))):Wo o l=Wo o l':=by
 induction l generalizing l' with
 | nil=>cases l' with
  | nil=>rfl
  | cons p l'=>cases h
 | cons p l ih=>cases l' with
  | nil=>cases h
  | cons q l'=>
   simp only [List.map_cons,List.cons.injEq,Prod.mk.injEq] at h
   simp only [Wo,ih h.2,h.1.1,h.1.2]
theorem Wo_mkP (f r:Nat)(t:List Nat):Wo 112 (mkP f r t)=Wo 112 (mkP 0 r t):=Wo_congr (by simp [mkP,pcN,Function.comp_def])
theorem wd_ok {a b:Nat}(ha:a < 6)(hb:b < 6):WdOk (wd a b) (rn (wd a b)):=by
 have h:=runB_ok (List.all_eq_true.1 (List.all_eq_true.1 run_all a (by simpa using ha)) b (by simpa using hb))
 exact ⟨h.1,h.2,fun m hm=>all36 join_all ha hb hm,fun n m hm=>all36 (ell_all n) ha hb hm⟩
theorem okAll_wd {a b f:Nat}(ha:a < 6)(hb:b < 6)(hf:f < 9):okAll (mkP f (rn (wd a b)) (wd a b))=true:=
 List.all_eq_true.1 (List.all_eq_true.1 (List.all_eq_true.1 ok_all a (by simpa using ha)) b (by simpa using hb)) f (by simpa using hf)
theorem coll_wd {a b c d f:Nat}(ha:a < 6)(hb:b < 6)(hc:c < 6)(hd:d < 6):collI (wd a b++[109]) (wd c d++[109])=(if decide (Wo 112 (mkP f (rn (wd a b)) (wd a b)) > Wo 112 (mkP f (rn (wd c d)) (wd c d)))=true then 1 else 0) - (if decide (Wo 112 (mkP f (rn (wd a b)) (wd a b)) < Wo 112 (mkP f (rn (wd c d)) (wd c d)))=true then 1 else 0):=by
 have h:=List.all_eq_true.1 (List.all_eq_true.1 (List.all_eq_true.1 (List.all_eq_true.1 coll_all a (by simpa using ha)) b (by simpa using hb)) c (by simpa using hc)) d (by simpa using hd)
 unfold collB wW at h
 rw [decide_eq_true_eq] at h
 rw [Wo_mkP f,Wo_mkP f]
 exact h
theorem mkP_ok {f r:Nat}{t:List Nat}(H:RunAt t r)(ht:∀ c∈t,c=104∨c=112)(hf:f≤8):∀ p∈mkP f r t,PcOk p:=by
 intro p hp
 refine x1_1 (List.mem_map.1 hp) fun i hi hq2=>?_;subst hq2
 rw [List.mem_range] at hi
 have hw:=wtN_or H hi
 refine ⟨?_,?_,?_⟩
 ·exact Nat.sub_le_iff_le_add.2 (by rw [Nat.add_comm f];exact Nat.add_le_add_left (by kt_len) _)
 ·show wtN r i≤8;kt_len
 ·show t.getD i 0=104∨t.getD i 0=112
  exact ht _ (List.mem_of_getElem? (i:=i) (by simp [hi]))
structure StkOk (fr:Nat)(nl:List AV)(s:Nat)(p:List Pc)(a b:Nat):Prop where
 ex:∃ x1 x2 P1 P2 c1 c2,sliceL nl (some (2*(s:Int))) (some (2*(s:Int)+2))=[x1,x2]∧NumOk x1 (W6 a) P1 c1∧NumOk x2 (W6 b) P2 c2
 a6:a < 6
 b6:b < 6
 eq:p=mkP fr (rn (wd a b)) (wd a b)
theorem Bst.put_s {s fr:Nat}{f:Int}{nl:List AV}{P:Nat→List Pc}{K Q:Nat→Nat}{σ:Sig}{μ:Mu}{v:AV}(B:Bst f fr nl s P K Q σ μ):Bst f fr nl s P K Q (put σ (N "s") v) μ:=
 {B with
  numbers:=by kt_ors;exact B.numbers
  first:=by kt_ors;exact B.first
  front:=by kt_ors;exact B.front
  texts:=by kt_ors;exact B.texts
  piles:=by kt_ors;exact B.piles
  stalks:=by kt_ors;exact B.stalks
  worths:=by kt_ors;exact B.worths}
theorem lw4_for:∃ p q,lw 4=.For (.Name (Str.ofString "s") p) (forI (lw 4)) (forB (lw 4)) [] q:=⟨_,_,rfl⟩
theorem lw4_args {n:Nat}{σ:Sig}{μ:Mu}:(run FT (n+20)).Es (rgA (forI (lw 4))) ⟨kdL,σ,μ⟩=some ([.int 3],⟨kdL,σ,μ⟩):=by kernel_rfl!
section
variable {n fr:Nat}{f:Int}{nl:List AV}{P:Nat→List Pc}{A C:Nat→Nat}
theorem ga_step' {s:Nat}{K Q:Nat→Nat}{σ:Sig}{μ:Mu}(B:Bst f fr nl s P K Q σ μ)(hs:s < 3)(hf:fr≤8)(H:StkOk fr nl s (P s) (A s) (C s)) :
  ∃ σ' μ' K' Q',(run FT (n+220)).SS (forB (lw 4)) ⟨kdL,put σ (N "s") (.int (s:Int)),μ⟩=some (.next,⟨kdL,σ',μ'⟩)∧Bst f fr nl (s+1) P K' Q' σ' μ'∧Ag bWs σ σ':=by
 refine x6_2 (H.ex) fun x1 x2 P1 P2 c1 c2 h1 N1 N2=>?_
 refine x4_2 (ga_step (n:=n) B.put_s hs (look_same ..) hf h1 N1 N2 (wd_ok H.a6 H.b6) H.eq) fun σ' μ' K' Q' r b a=>?_
 exact ⟨σ',μ',K',Q',r,b,((Ag.refl _ _).put (by decide)).trans a⟩
theorem lw4_ok {K Q:Nat→Nat}{σ:Sig}{μ:Mu}(B:Bst f fr nl 0 P K Q σ μ)(hf:fr≤8)(H:∀ s,s < 3→StkOk fr nl s (P s) (A s) (C s)) :
  ∃ σ' μ' K' Q',(run FT (n+240)).S (lw 4) ⟨kdL,σ,μ⟩=some (.next,⟨kdL,σ',μ'⟩)∧Bst f fr nl 3 P K' Q' σ' μ'∧Ag bWs σ σ':=by
 refine x2_0 lw4_for fun p q he=>?_
 have hfor:=for_range (n:=n+239) (vs:=[.int 3]) (a:=0) (b:=3) (c:=1) (σ:=σ) (μ:=μ) he (by kernel_rfl!) (lw4_args (n:=n+219)) rfl (small_up (m:=3) (by decide))
 have hr:rng 0 (Builtin.Range.rangeSize 0 3 1) 1=[.int ((0:Nat):Int),.int ((1:Nat):Int),.int ((2:Nat):Int)]:=by kernel_rfl!
 rw [hr] at hfor
 refine x4_2 (ga_step' (n:=n+18) B (by decide) hf (H 0 (by decide))) fun σ1 μ1 K1 Q1 r1 B1 a1=>?_
 refine x4_2 (ga_step' (n:=n+17) B1 (by decide) hf (H 1 (by decide))) fun σ2 μ2 K2 Q2 r2 B2 a2=>?_
 refine x4_2 (ga_step' (n:=n+16) B2 (by decide) hf (H 2 (by decide))) fun σ3 μ3 K3 Q3 r3 B3 a3=>?_
 refine ⟨σ3,μ3,K3,Q3,?_,B3,(a1.trans a2).trans a3⟩
 rw [hfor]
 show (run FT (n+238+1)).Lp _ _ _ _=_
 rw [lp_int sk_s,r1,Option.bind_some]
 show (run FT (n+237+1)).Lp _ _ _ _=_
 rw [lp_int sk_s,r2,Option.bind_some]
 show (run FT (n+236+1)).Lp _ _ _ _=_
 rw [lp_int sk_s,r3,Option.bind_some]
 rfl
end
end
section
noncomputable def fa0:Stmt:=(forB (lw 5)).getD 0 (.Pass ⟨0,0,0,0⟩)
noncomputable def cb (i:Nat):Stmt:=(forB fa0).getD i (.Pass ⟨0,0,0,0⟩)
theorem fas:forB (lw 5)=[fa0]:=by kernel_rfl!
theorem cbs:forB fa0=[cb 0,cb 1]:=by kernel_rfl!
theorem lw5_for:∃ p q,lw 5=.For (.Name (Str.ofString "a") p) (forI (lw 5)) (forB (lw 5)) [] q:=⟨_,_,rfl⟩
theorem fa0_for:∃ p q,fa0=.For (.Name (Str.ofString "b") p) (forI fa0) (forB fa0) [] q:=⟨_,_,rfl⟩
theorem lw5_args {n:Nat}{σ:Sig}{μ:Mu}:(run FT (n+20)).Es (rgA (forI (lw 5))) ⟨kdL,σ,μ⟩=some ([.int 3],⟨kdL,σ,μ⟩):=by kernel_rfl!
theorem fa0_args {n:Nat}{σ:Sig}{μ:Mu}:(run FT (n+20)).Es (rgA (forI fa0)) ⟨kdL,σ,μ⟩=some ([.int 3],⟨kdL,σ,μ⟩):=by kernel_rfl!
noncomputable def sgnD (x y:Int):Int:=(if decide (x > y)=true then 1 else 0) - (if decide (x < y)=true then 1 else 0)
section
variable {n a b k1 k4:Nat}{σ:Sig}{μ:Mu}{L1 L4:List AV}{ta tb:List Nat}{wa wb:Int}
theorem cb0_ok (h1:look σ (N "texts")=some (.ref 1))(h2:look σ (N "a")=some (.int (a:Int)))(h3:look σ (N "b")=some (.int (b:Int)))(m1:μ[1]?=some (.list L1 k1))(la:L1[a]?=some (.str ta))(lb:L1[b]?=some (.str tb))(hta:ta.length < 1000)(htb:tb.length < 1000)(ha:a < 1000)(hb:b < 1000) :
  (run FT (n+40)).S (cb 0) ⟨kdL,σ,μ⟩=some (.next,⟨kdL,put σ (N "told") (.int (collI (ta++[109]) (tb++[109]))),μ⟩):=by
 have g1:getA μ (.ref 1) (.int (a:Int))=some (.str ta):=getA_list m1 la (by kt_len)
 have g1':getA μ (.ref 1) (.int (b:Int))=some (.str tb):=getA_list m1 lb (by kt_len)
 have g2:binA .Add (.str ta) (.str [109])=some (.str (ta++[109])):=add_s (by kt_len) (by decide)
 have g3:binA .Add (.str tb) (.str [109])=some (.str (tb++[109])):=add_s (by kt_len) (by decide)
 have g4:∀ st,callUF (run FT (n+38)) (mkUF (pb 8)) [.str (ta++[109]),.str (tb++[109])] st=some (.int (collI (ta++[109]) (tb++[109])),st):=fun st=>pColl (n:=n+18)
 conv in cb 0=>whnf
 simp only [QC,eConst,eBin,esNil,Option.bind_some,Option.map_some,List.all_cons,List.all_nil,Bool.and_true,gq5,QD,cM, *]
theorem cb1_ok (h1:look σ (N "worths")=some (.ref 4))(h2:look σ (N "a")=some (.int (a:Int)))(h3:look σ (N "b")=some (.int (b:Int)))(h4:look σ (N "told")=some (.int (sgnD wa wb)))(m4:μ[4]?=some (.list L4 k4))(la:L4[a]?=some (.int wa))(lb:L4[b]?=some (.int wb))(ha:a < 1000)(hb:b < 1000) :
  (run FT (n+40)).S (cb 1) ⟨kdL,σ,μ⟩=some (.next,⟨kdL,σ,μ⟩):=by
 have g1:getA μ (.ref 4) (.int (a:Int))=some (.int wa):=getA_list m4 la (by kt_len)
 have g1':getA μ (.ref 4) (.int (b:Int))=some (.int wb):=getA_list m4 lb (by kt_len)
 have c1:cmpA μ .Gt (.int wa) (.int wb)=some (.bool (decide (wa > wb))):=rfl
 have c2:cmpA μ .Lt (.int wa) (.int wb)=some (.bool (decide (wa < wb))):=rfl
 have b1:binA .Sub (.bool (decide (wa > wb))) (.bool (decide (wa < wb)))=some (.int (sgnD wa wb)):=rfl
 have c3:cmpA μ .NotEq (.int (sgnD wa wb)) (.int (sgnD wa wb))=some (.bool false):=by
  show (some (sgnD wa wb==sgnD wa wb)).map (fun x=>AV.bool (!x))=_
  simp
 have g3:(nm (Str.ofString "isinstance")==nm (Str.ofString "isinstance"))=true:=by rw [beq_self_eq_true]
 have g4:(nm (Str.ofString "bool")==[98,111,111,108])=true:=by kernel_rfl!
 generalize sgnD wa wb=z at *
 generalize decide (wa > wb)=d1 at *
 generalize decide (wa < wb)=d2 at *
 clear m4 la lb
 conv in cb 1=>whnf
 simp only [QC,eConst,eBin,tBool,tCall,tsOne,tsCons,ssNil,ssCons,sRet,sIf,Option.bind_some,Option.map_some,List.all_cons,List.all_nil,Bool.and_true,beq_self_eq_true,ite_false,Bool.false_eq_true,gq6,tru_b, *]
theorem lw6_ok {m:Nat}{w0 w1 w2:Int}{k:Nat}(h1:look σ (N "worths")=some (.ref 4))(h2:look σ (N "mover")=some (.int (m:Int)))(m4:μ[4]?=some (.list [.int w0,.int w1,.int w2] k))(s0:w0.natAbs < 1000)(s1:w1.natAbs < 1000)(s2:w2.natAbs < 1000) :
  (run FT (n+40)).S (lw 6) ⟨kdL,σ,μ⟩=some (.next,⟨kdL,put σ (N "winner") (.int (if w0+w1+w2=0 then 1 - (m:Int) else if w0+w1+w2 > 0 then 1 else 0)),μ⟩):=by
 have g1:∀ r σ,prim FT r (nm (Str.ofString "sum")) [.ref 4] ⟨kdL,σ,μ⟩=some (.int (w0+w1+w2),⟨kdL,σ,μ⟩):=fun r σ=>by
  rw [pSum (ns:=[w0,w1,w2]) m4 rfl]
  ·simp only [List.sum_cons,List.sum_nil]
   rw [Int.add_zero,Int.add_assoc]
  ·have hs:∀ z:Int,z.natAbs < 1000→small z=true:=fun z hz=>decide_eq_true (by unfold topK;kt_len)
   simp [hs _ s0,hs _ s1,hs _ s2]
 have g2:cmpA μ .Eq (.int (w0+w1+w2)) (.int 0)=some (.bool (decide (w0+w1+w2=0))):=by
  show some (AV.bool (w0+w1+w2==0))=_
  congr 2
 have g3:cmpA μ .Gt (.int (w0+w1+w2)) (.int 0)=some (.bool (decide (w0+w1+w2 > 0))):=rfl
 have g4:∀ r b st,prim FT r (nm (Str.ofString "int")) [.bool b] st=some (.int (if b then 1 else 0),st):=fun r b st=>pIntB
 generalize w0+w1+w2=z at *
 clear m4
 by_cases hz:z=0
 ·have e:decide (z=0)=true:=decide_eq_true hz
  rw [if_pos hz]
  rw [e] at g2
  clear e hz
  conv in lw 6=>whnf
  simp only [QC,eConst,eBin,eIf,esNil,Option.bind_some,Option.map_some,List.all_cons,List.all_nil,Bool.and_true,ite_true,gq4,tru_b,sub_i, *]
 ·have e:decide (z=0)=false:=decide_eq_false hz
  rw [if_neg hz]
  rw [e] at g2
  clear e hz
  by_cases hp:z > 0
  ·have e:decide (z > 0)=true:=decide_eq_true hp
   rw [if_pos hp]
   rw [e] at g3
   clear e hp
   conv in lw 6=>whnf
   simp only [QC,eConst,eBin,eIf,esNil,Option.bind_some,Option.map_some,List.all_cons,List.all_nil,Bool.and_true,ite_true,ite_false,Bool.false_eq_true,gq4,tru_b,sub_i, *]
  ·have e:decide (z > 0)=false:=decide_eq_false hp
   rw [if_neg hp]
   rw [e] at g3
   clear e hp
   conv in lw 6=>whnf
   simp only [QC,eConst,eBin,eIf,esNil,Option.bind_some,Option.map_some,List.all_cons,List.all_nil,Bool.and_true,ite_false,Bool.false_eq_true,gq4,tru_b,sub_i, *]
end
section
variable {n:Nat}{μ:Mu}
noncomputable def cWs:List String:=["a","b","told"]
structure Pairs (ts:Nat→List Nat)(ws:Nat→Int)(μ:Mu):Prop where
 m1:∃ k,μ[1]?=some (.list [.str (ts 0),.str (ts 1),.str (ts 2)] k)
 m4:∃ k,μ[4]?=some (.list [.int (ws 0),.int (ws 1),.int (ws 2)] k)
 len:∀ s,s < 3→(ts s).length < 100
 told:∀ a b,a < 3→b < 3→collI (ts a++[109]) (ts b++[109])=sgnD (ws a) (ws b)
theorem cb_body {ts:Nat→List Nat}{ws:Nat→Int}(H:Pairs ts ws μ){a b:Nat}{σ:Sig}(ha:a < 3)(hb:b < 3)(h1:look σ (N "texts")=some (.ref 1))(h4:look σ (N "worths")=some (.ref 4))(h2:look σ (N "a")=some (.int (a:Int))) :
  ∃ σ',(run FT (n+50)).SS (forB fa0) ⟨kdL,put σ (N "b") (.int (b:Int)),μ⟩=some (.next,⟨kdL,σ',μ⟩)∧Ag ["b","told"] σ σ':=by
 refine x1_0 (H.m1) fun k1 m1=>?_
 refine x1_0 (H.m4) fun k4 m4=>?_
 have la:=H.len a ha
 have lb:=H.len b hb
 have t:=H.told a b ha hb
 rw [cbs]
 refine es (cb0_ok (n:=n+9) (a:=a) (b:=b) (by kt_ors;exact h1) (by kt_ors;exact h2) (look_same ..) m1 (three (fun s=>AV.str (ts s)) ha) (three (fun s=>AV.str (ts s)) hb) (by kt_len) (by kt_len) (by kt_len) (by kt_len)) ?_
 rw [t]
 refine es (cb1_ok (n:=n+8) (a:=a) (b:=b) (wa:=ws a) (wb:=ws b) (by kt_ors;exact h4) (by kt_ors;exact h2) (by kt_ors) (look_same ..) m4 (three (fun s=>AV.int (ws s)) ha) (three (fun s=>AV.int (ws s)) hb) (by kt_len) (by kt_len)) ?_
 exact ⟨_,rfl,((Ag.refl _ _).put (by decide)).put (by decide)⟩
theorem fa_body {ts:Nat→List Nat}{ws:Nat→Int}(H:Pairs ts ws μ){a:Nat}{σ:Sig}(ha:a < 3)(h1:look σ (N "texts")=some (.ref 1))(h4:look σ (N "worths")=some (.ref 4)) :
  ∃ σ',(run FT (n+70)).SS (forB (lw 5)) ⟨kdL,put σ (N "a") (.int (a:Int)),μ⟩=some (.next,⟨kdL,σ',μ⟩)∧Ag cWs σ σ':=by
 refine x2_0 fa0_for fun p q he=>?_
 have hfor:=for_range (n:=n+68) (vs:=[.int 3]) (a:=0) (b:=3) (c:=1) (σ:=put σ (N "a") (.int (a:Int))) (μ:=μ) he (by kernel_rfl!) (fa0_args (n:=n+48)) rfl (small_up (m:=3) (by decide))
 have hr:rng 0 (Builtin.Range.rangeSize 0 3 1) 1=[.int ((0:Nat):Int),.int ((1:Nat):Int),.int ((2:Nat):Int)]:=by kernel_rfl!
 rw [hr] at hfor
 have b0:Ag ["a"] σ (put σ (N "a") (.int (a:Int))):=(Ag.refl _ _).put (by decide)
 have x1:look (put σ (N "a") (.int (a:Int))) (N "texts")=some (.ref 1):=(b0 _ (by decide)).trans h1
 have x4:look (put σ (N "a") (.int (a:Int))) (N "worths")=some (.ref 4):=(b0 _ (by decide)).trans h4
 have xa:look (put σ (N "a") (.int (a:Int))) (N "a")=some (.int (a:Int)):=look_same ..
 refine x1_1 (cb_body (n:=n+17) (b:=0) H ha (by decide) x1 x4 xa) fun σ1 r1 a1=>?_
 refine x1_1 (cb_body (n:=n+16) (b:=1) H ha (by decide) ((a1 _ (by decide)).trans x1) ((a1 _ (by decide)).trans x4) ((a1 _ (by decide)).trans xa)) fun σ2 r2 a2=>?_
 have a12:=a1.trans a2
 refine x1_1 (cb_body (n:=n+15) (b:=2) H ha (by decide) ((a12 _ (by decide)).trans x1) ((a12 _ (by decide)).trans x4) ((a12 _ (by decide)).trans xa)) fun σ3 r3 a3=>?_
 refine ⟨σ3,?_,(b0.mono (by decide)).trans ((a12.trans a3).mono (by decide))⟩
 rw [fas]
 have hL:(run FT (n+68)).Lp (.Name (Str.ofString "b") p) (.vals [.int ((0:Nat):Int),.int ((1:Nat):Int),.int ((2:Nat):Int)]) (forB fa0) ⟨kdL,put σ (N "a") (.int (a:Int)),μ⟩=some (.next,⟨kdL,σ3,μ⟩):=by
  show (run FT (n+67+1)).Lp _ _ _ _=_
  rw [lp_int sk_b,r1,Option.bind_some]
  show (run FT (n+66+1)).Lp _ _ _ _=_
  rw [lp_int sk_b,r2,Option.bind_some]
  show (run FT (n+65+1)).Lp _ _ _ _=_
  rw [lp_int sk_b,r3,Option.bind_some]
  rfl
 rw [ss_next (hfor.trans hL),ssNil]
theorem lw5_ok {ts:Nat→List Nat}{ws:Nat→Int}(H:Pairs ts ws μ){σ:Sig}(h1:look σ (N "texts")=some (.ref 1))(h4:look σ (N "worths")=some (.ref 4)) :
  ∃ σ',(run FT (n+90)).S (lw 5) ⟨kdL,σ,μ⟩=some (.next,⟨kdL,σ',μ⟩)∧Ag cWs σ σ':=by
 refine x2_0 lw5_for fun p q he=>?_
 have hfor:=for_range (n:=n+89) (vs:=[.int 3]) (a:=0) (b:=3) (c:=1) (σ:=σ) (μ:=μ) he (by kernel_rfl!) (lw5_args (n:=n+69)) rfl (small_up (m:=3) (by decide))
 have hr:rng 0 (Builtin.Range.rangeSize 0 3 1) 1=[.int ((0:Nat):Int),.int ((1:Nat):Int),.int ((2:Nat):Int)]:=by kernel_rfl!
 rw [hr] at hfor
 refine x1_1 (fa_body (n:=n+18) (a:=0) H (by decide) h1 h4) fun σ1 r1 a1=>?_
 refine x1_1 (fa_body (n:=n+17) (a:=1) H (by decide) ((a1 _ (by decide)).trans h1) ((a1 _ (by decide)).trans h4)) fun σ2 r2 a2=>?_
 have a12:=a1.trans a2
 refine x1_1 (fa_body (n:=n+16) (a:=2) H (by decide) ((a12 _ (by decide)).trans h1) ((a12 _ (by decide)).trans h4)) fun σ3 r3 a3=>?_
 refine ⟨σ3,?_,a12.trans a3⟩
 rw [hfor]
 show (run FT (n+88+1)).Lp _ _ _ _=_
 rw [lp_int sk_a,r1,Option.bind_some]
 show (run FT (n+87+1)).Lp _ _ _ _=_
 rw [lp_int sk_a,r2,Option.bind_some]
 show (run FT (n+86+1)).Lp _ _ _ _=_
 rw [lp_int sk_a,r3,Option.bind_some]
 rfl
end
end
section
theorem lw7_for:∃ p q,lw 7=.For (.Name (Str.ofString "turn") p) (forI (lw 7)) (forB (lw 7)) [] q:=⟨_,_,rfl⟩
theorem lw7_args {n:Nat}{σ:Sig}{μ:Mu}:(run FT (n+20)).Es (rgA (forI (lw 7))) ⟨kdL,σ,μ⟩=some ([.int 13],⟨kdL,σ,μ⟩):=by kernel_rfl!
theorem lawRest:(fBody (pb 17)).drop 2=[lw 2,lw 3,lw 4,lw 5,lw 6,lw 7,lw 8]:=by kernel_rfl!
theorem Wo_bound (o:Nat)(l:List Pc)(h:∀ p∈l,PcOk p):(Wo o l).natAbs≤8*l.length:=by
 induction l with
 | nil=>simp [Wo]
 | cons p l ih=>
  have hp:=(h p (List.mem_cons_self ..)).2.1
  have:=ih fun q hq=>h q (List.mem_cons_of_mem _ hq)
  simp only [Wo,List.length_cons]
  rw [Nat.mul_succ,Nat.add_comm (8*_)]
  split
  ·exact Nat.le_trans (Int.natAbs_add_le _ _) (Nat.add_le_add (by rw [Int.natAbs_natCast];exact hp) this)
  ·exact Nat.le_trans (Int.natAbs_add_le _ _) (Nat.add_le_add (by rw [Int.natAbs_neg,Int.natAbs_natCast];exact hp) this)
theorem law_run {fr m:Nat}{q6:Int}{r6:Nat}{nl:List AV}{P:Nat→List Pc}{A C:Nat→Nat}(h6:nl[6]?=some (.lin 54 q6 (r6:Int)))(hfr:fr=r6 / 3 % 9)(hm:m=r6 / 27 % 2)(H:∀ s,s < 3→StkOk fr nl s (P s) (A s) (C s))(hnl:∀ i,i < 7→∃ y,nl[7+i]?=some (.int y)) :
  ∃ st',(run FT 600).SS ((fBody (pb 17)).drop 2) ⟨kdL,[(nNumbers,.ref 0)],[.list nl 14]⟩=some (.ret (.bool true),st'):=by
 have hf8:fr≤8:=by kt_len
 have hm2:m < 2:=by kt_len
 have d1:∀ (x:Int) (m:Int),0 < m→x.fdiv m=x / m:=fun x m h=>Int.fdiv_eq_ediv_of_nonneg _ (by kt_len)
 have d2:∀ (x:Int) (m:Int),0 < m→x.fmod m=x % m:=fun x m h=>Int.fmod_eq_emod_of_nonneg _ (by kt_len)
 have e1:((r6:Int).fdiv 27).fmod 2=(m:Int):=by rw [d1 _ _ (by decide),d2 _ _ (by decide)];kt_len
 have e2:((r6:Int).fdiv 3).fmod 9=(fr:Int):=by rw [d1 _ _ (by decide),d2 _ _ (by decide)];kt_len
 have e3:(r6:Int).fmod 3=((r6 % 3:Nat):Int):=by rw [d2 _ _ (by decide)];kt_len
 have hnum:look [(nNumbers,AV.ref 0)] (N "numbers")=some (.ref 0):=by
  rw [show N "numbers"=nNumbers from nm_numbers];rfl
 rw [lawRest]
 have s2:=lw2_ok (n:=579) (σ:=[(nNumbers,.ref 0)]) (μ:=[.list nl 14]) hnum rfl h6
 rw [e1,e2,e3] at s2
 refine re s2 ?_
 refine re (lw3_ok (n:=578)) ?_
 generalize hσ:put (put (put (put (put (put (put [(nNumbers,AV.ref 0)] (nm (Str.ofString "mover")) (.int (m:Int))) (nm (Str.ofString "front")) (.int (fr:Int))) (nm (Str.ofString "first")) (.int ((r6 % 3:Nat):Int))) (N "texts") (.ref 1)) (N "piles") (.ref 2)) (N "stalks") (.ref 3)) (N "worths") (.ref 4)=σ3
 have B0:Bst ((r6 % 3:Nat):Int) fr nl 0 P (fun _=>0) (fun _=>0) σ3 [.list nl 14,.list [] 0,.list [] 0,.list [] 0,.list [] 0]:=by
  rw [← hσ]
  exact
  {numbers:=by simp only [look_ne,ne_eq,String.reduceEq,not_false_eq_true];exact hnum
   first:=by kt_ors
   front:=by kt_ors
   texts:=by kt_ors
   piles:=by kt_ors
   stalks:=by kt_ors
   worths:=look_same ..
   m0:=⟨14,rfl⟩
   m1:=rfl
   m2:=rfl
   m3:=rfl
   m4:=rfl
   mK:=fun u hu=>absurd hu (Nat.not_lt_zero _)
   mQ:=fun u hu=>absurd hu (Nat.not_lt_zero _)
   inj:=fun u _ hu=>absurd hu (Nat.not_lt_zero _)
   K4:=fun u hu=>absurd hu (Nat.not_lt_zero _)
   Q4:=fun u hu=>absurd hu (Nat.not_lt_zero _)}
 have mv3:look σ3 (N "mover")=some (.int (m:Int)):=by
  rw [← hσ];kt_ors
 clear hσ s2
 refine x4_2 (lw4_ok (n:=357) B0 hf8 H) fun σ4 μ4 K Q r4 B a4=>?_
 refine re r4 ?_
 have mv4:look σ4 (N "mover")=some (.int (m:Int)):=(a4 _ (by decide)).trans mv3
 have hP:∀ s,s < 3→P s=mkP fr (rn (wd (A s) (C s))) (wd (A s) (C s)):=fun s hs=>(H s hs).eq
 have hW:∀ s,s < 3→WdOk (wd (A s) (C s)) (rn (wd (A s) (C s))):=fun s hs=>wd_ok (H s hs).a6 (H s hs).b6
 have hok:∀ s,s < 3→∀ p∈P s,PcOk p:=fun s hs=>by rw [hP s hs];exact mkP_ok (hW s hs).run (hW s hs).let_ hf8
 have hlen:∀ s,s < 3→(P s).length≤4:=fun s hs=>by rw [hP s hs,mkP_len];exact (hW s hs).run.len
 have htx:∀ s,s < 3→txt (P s)=wd (A s) (C s):=fun s hs=>by rw [hP s hs,txt_mkP]
 have hall:∀ s,s < 3→okAll (P s)=true:=fun s hs=>by rw [hP s hs];exact okAll_wd (H s hs).a6 (H s hs).b6 (by kt_len)
 have m1:μ4[1]?=some (.list [.str (txt (P 0)),.str (txt (P 1)),.str (txt (P 2))] 3):=B.m1
 have m2:μ4[2]?=some (.list [.ref (Q 0),.ref (Q 1),.ref (Q 2)] 3):=B.m2
 have m3:μ4[3]?=some (.list [.ref (K 0),.ref (K 1),.ref (K 2)] 3):=B.m3
 have m4:μ4[4]?=some (.list [.int (Wo 112 (P 0)),.int (Wo 112 (P 1)),.int (Wo 112 (P 2))] 3):=B.m4
 have Pr:Pairs (fun s=>txt (P s)) (fun s=>Wo 112 (P s)) μ4:=by
  refine ⟨⟨_,m1⟩,⟨_,m4⟩,fun s hs=>?_,fun a b ha hb=>?_⟩
  ·have:=hlen s hs
   simp only [txt,List.length_map];kt_len
  ·simp only [htx a ha,htx b hb]
   rw [hP a ha,hP b hb]
   exact coll_wd (H a ha).a6 (H a ha).b6 (H b hb).a6 (H b hb).b6
 refine x1_1 (lw5_ok (n:=506) Pr B.texts B.worths) fun σ5 r5 a5=>?_
 refine re r5 ?_
 have mv5:look σ5 (N "mover")=some (.int (m:Int)):=(a5 _ (by decide)).trans mv4
 have hb:∀ s,s < 3→(Wo 112 (P s)).natAbs < 1000:=fun s hs=>by
  have:=Wo_bound 112 (P s) (hok s hs)
  have:=hlen s hs
  kt_len
 refine re (lw6_ok (n:=555) (m:=m) ((a5 _ (by decide)).trans B.worths) mv5 m4 (hb 0 (by decide)) (hb 1 (by decide)) (hb 2 (by decide))) ?_
 have hTot:Tot 112 P=Wo 112 (P 0)+Wo 112 (P 1)+Wo 112 (P 2):=rfl
 have hNeg:Tot 104 P=- Tot 112 P:=by
  have h0:=Wo_neg (P 0) (hok 0 (by decide))
  have h1:=Wo_neg (P 1) (hok 1 (by decide))
  have h2:=Wo_neg (P 2) (hok 2 (by decide))
  unfold Tot
  kt_len
 rw [← hTot]
 obtain ⟨w,hw2,hw,hT1,hT2⟩:∃ w:Nat,w < 2∧(if Tot 112 P=0 then 1 - (m:Int) else if Tot 112 P > 0 then 1 else 0)=(w:Int)∧(m=w→0 < Tot (ownC w) P)∧(m≠w→0≤Tot (ownC w) P):=by
  by_cases h0:Tot 112 P=0
  ·refine ⟨1 - m,by kt_len,by rw [if_pos h0];kt_len,fun e=>by kt_len,fun _=>?_⟩
   have:Tot (ownC (1 - m)) P=0:=by
    rcases ownC_or (1 - m) with e | e <;> rw [e] <;> kt_len
   kt_len
  ·by_cases h1:Tot 112 P > 0
   ·refine ⟨1,by kt_len,by rw [if_neg h0,if_pos h1];rfl,fun _=>h1,fun _=>Int.le_of_lt h1⟩
   ·have h2:0 < Tot (ownC 0) P:=by show 0 < Tot 104 P;kt_len
    exact ⟨0,by kt_len,by rw [if_neg h0,if_neg h1];rfl,fun _=>h2,fun _=>Int.le_of_lt h2⟩
 rw [hw]
 generalize hσ6:put σ5 (N "winner") (.int (w:Int))=σ6
 have a6:Ag ["winner"] σ5 σ6:=by rw [← hσ6];exact (Ag.refl _ _).put (by decide)
 have G:GSt ((r6 % 3:Nat):Int) nl P K Q σ6 μ4:=
  {numbers:=(a6 _ (by decide)).trans ((a5 _ (by decide)).trans B.numbers)
   first:=(a6 _ (by decide)).trans ((a5 _ (by decide)).trans B.first)
   texts:=(a6 _ (by decide)).trans ((a5 _ (by decide)).trans B.texts)
   piles:=(a6 _ (by decide)).trans ((a5 _ (by decide)).trans B.piles)
   stalks:=(a6 _ (by decide)).trans ((a5 _ (by decide)).trans B.stalks)
   m0:=B.m0
   m1:=⟨_,m1⟩
   m2:=⟨_,m2⟩
   m3:=⟨_,m3⟩
   mK:=B.mK
   mQ:=B.mQ
   inj:=B.inj
   K3:=fun s hs=>by have:=B.K4 s hs;kt_len
   ok:=hok
   len:=hlen}
 refine x2_0 lw7_for fun p q he=>?_
 have hfor:=for_range (n:=593) (vs:=[.int 13]) (a:=0) (b:=13) (c:=1) (σ:=σ6) (μ:=μ4) he (by kernel_rfl!) (lw7_args (n:=573)) rfl (small_up (m:=13) (by decide))
 have hr:rng 0 (Builtin.Range.rangeSize 0 13 1) 1=(List.range' 0 13).map fun (j:Nat)=>AV.int (j:Int):=by kernel_rfl!
 rw [hr] at hfor
 have hpc:pieces P+0≤12:=by
  have:=hlen 0 (by decide);have:=hlen 1 (by decide);have:=hlen 2 (by decide)
  unfold pieces;kt_len
 refine x1_0 (game (n:=380) (p:=p) hw2 (by kt_len) (by kt_len) hnl 13 0 m P K σ6 μ4 (by decide) hpc hm2 G hall hT1 hT2 ((a6 _ (by decide)).trans mv5) (by rw [← hσ6,look_same])) fun st' r7=>?_
 rw [show (380+13+200:Nat)=593 from rfl] at r7
 rw [r7] at hfor
 refine ⟨st',?_⟩
 show (run FT (593+1+1)).SS _ _=_
 exact ss_ret hfor
end
section
theorem absL_get (ns:List Int)(j i:Nat):(absL j ns)[i]?=(ns[i]?).map (absI (j+i)):=by
 induction ns generalizing j i with
 | nil=>rfl
 | cons y l ih=>
  cases i with
  | zero=>rfl
  | succ i=>
   show (absL (j+1) l)[i]?=(l[i]?).map (absI (j+(i+1)))
   rw [ih,show j+1+i=j+(i+1) by kt_len]
theorem sliceL_two {α:Type}(l:List α)(a:Nat)(h:a+2≤l.length):sliceL l (some (a:Int)) (some ((a:Int)+2))=(l.drop a).take 2:=by
 unfold sliceL
 have e:sliceBounds (some (a:Int)) (some ((a:Int)+2)) none l.length=((a:Int),((a+2:Nat):Int),1):=by
  unfold sliceBounds
  have h1:¬ ((a:Int) < 0):=by kt_len
  have h2:¬ ((a:Int)+2 < 0):=by kt_len
  simp [h1,h2];kt_len
 rw [e]
 show (sliceRange (a:Int) ((a+2:Nat):Int) 1).filterMap (fun i=>l[i]?)=_
 rw [sliceRange_one,fm_range,show a+2 - a=2 by kt_len]
theorem take2 {α:Type}{l:List α}{a:Nat}{x y:α}(h1:l[a]?=some x)(h2:l[a+1]?=some y):(l.drop a).take 2=[x,y]:=by
 obtain ⟨ha,e1⟩:=List.getElem?_eq_some_iff.1 h1
 obtain ⟨hb,e2⟩:=List.getElem?_eq_some_iff.1 h2
 rw [List.drop_eq_getElem_cons ha,List.drop_eq_getElem_cons hb,e1,e2];rfl
theorem law_fact:LawFact:=by
 intro ns h14 hnn
 have hg:∀ i,i < 14→ns[i]?=some (ns.getD i 0):=fun i hi=>by simp [h14,hi]
 have ha:∀ i,i < 6→(absL 0 ns)[i]?=some (.lin 3888 (ns.getD i 0 / 3888) (((ns.getD i 0 % 3888).toNat:Nat):Int)):=fun i hi=>by
  rw [absL_get,hg i (by kt_len),Nat.zero_add,Option.map_some]
  unfold absI
  rw [if_pos hi,Int.toNat_of_nonneg (Int.emod_nonneg _ (by decide))]
 have h6:(absL 0 ns)[6]?=some (.lin 54 (ns.getD 6 0 / 54) (((ns.getD 6 0 % 54).toNat:Nat):Int)):=by
  rw [absL_get,hg 6 (by decide),Option.map_some]
  unfold absI
  rw [if_neg (by decide),if_pos (by decide),Int.toNat_of_nonneg (Int.emod_nonneg _ (by decide))]
 have hr:∀ x,rA x < 6:=fun x=>Nat.mod_lt _ (by decide)
 obtain ⟨st',r⟩:=law_run (P:=fun s=>mkP ((ns.getD 6 0 % 54).toNat / 3 % 9) (rn (wd (rA (ns.getD (2*s) 0 % 3888).toNat) (rA (ns.getD (2*s+1) 0 % 3888).toNat))) (wd (rA (ns.getD (2*s) 0 % 3888).toNat) (rA (ns.getD (2*s+1) 0 % 3888).toNat)))
  (A:=fun s=>rA (ns.getD (2*s) 0 % 3888).toNat) (C:=fun s=>rA (ns.getD (2*s+1) 0 % 3888).toNat) (nl:=absL 0 ns) h6 rfl rfl
  (fun s hs=>⟨⟨_,_,_,_,_,_,by
   rw [show (2:Int)*(s:Int)=((2*s:Nat):Int) by kt_len]
   exact (sliceL_two _ _ (by rw [absL_len];kt_len)).trans (take2 (ha (2*s) (by kt_len)) (ha (2*s+1) (by kt_len))),num_lin _ _,num_lin _ _⟩,hr _,hr _,rfl⟩)
  (fun i hi=>⟨ns.getD (7+i) 0,by
   rw [absL_get,hg (7+i) (by kt_len),Option.map_some,Nat.zero_add]
   unfold absI
   rw [if_neg (by kt_len),if_neg (by kt_len)]⟩)
 exact ⟨600,st',by decide,r⟩
theorem all_done:PySem.Challenge.rw_wr0047_01.Holds:=holds47 (walk law_fact)
end
end Q47
theorem PySem.Challenge.cw_wr0047_01_holds : PySem.Challenge.rw_wr0047_01.Holds := by
  exact Q47.all_done
