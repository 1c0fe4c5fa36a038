import PyProof.Rows.All
import Wide.All
import Wide.FinOn
import OpenK.ZGo
import KE.BitLaws
import KE.KCallOwn
import KE.KFromBytes
import KE.KNestM
import KE.KRevIter
import KE.KItem
import KE.KSuper
import KE.KStar
import PySem.Challenge.RW_yj0036_01
set_option Elab.async false
set_option maxRecDepth 100000
set_option linter.all false
set_option autoImplicit false
set_option bootstrap.genMatcherCode false
set_option compiler.extract_closed false
set_option genSizeOf false
section
open PySem PySem.W PySem.W.X PySem.W.ZRun PyProof.Rows
namespace Mine.Internal
set_option maxHeartbeats 0
set_option cbv.maxSteps 100000000
noncomputable def hz_pick {α:Type} {a:α} (b:α) (_:a=b→True):α:=b
noncomputable def fin.tw5206623992110303472:Program:=hz_pick (a:=PySem.Challenge.pw_yj0036_01) _ (fun(_:type_of% (show PySem.Challenge.pw_yj0036_01=_ from by conv=>lhs;cbv))=>trivial)
end Mine.Internal
namespace Mine.Internal.hd
noncomputable abbrev s (l:List Nat):Str:=⟨⟨l⟩⟩
noncomputable abbrev E (P:Params) (l:List Nat) (t:Nat) (v:Value):DictEntry:=⟨PyData.keyHash P ⟨⟨l⟩⟩,.str ⟨⟨l⟩⟩ t,v⟩
noncomputable abbrev pwB:List Stmt:=PySem.Challenge.pw_yj0036_01.main.body
noncomputable def top (k:Nat):Stmt:=pwB[k]?.getD (.Pass ⟨0,0,0,0⟩)
noncomputable def dA:Arguments:=⟨[],[],none,[],[],none,[]⟩
noncomputable def sAll:Stmt→Bool × PySem.Expr × List Stmt × Arguments × Scope
 | .FunctionDef _ a b _ _ _ s ..=>(true,default,b,a,s)
 | .ClassDef _ _ _ b ..=>(false,default,b,dA,default)
 | .For _ _ b _ _=>(false,default,b,dA,default)
 | .If t b _ _=>(false,t,b,dA,default)
 | .Assign _ e _=>(false,e,[],dA,default)
 | .Return (some e) _=>(false,e,[],dA,default)
 | _=>(false,default,[],dA,default)
noncomputable def sE (s:Stmt):PySem.Expr:=(sAll s).2.1
noncomputable def fB (s:Stmt):List Stmt:=(sAll s).2.2.1
noncomputable def fP (s:Stmt):Arguments:=(sAll s).2.2.2.1
noncomputable def fS (s:Stmt):Scope:=(sAll s).2.2.2.2
noncomputable def lg (k:Nat):Str:=(docOf [.Expr (sE (Mine.Internal.fin.tw5206623992110303472.main.body[k]?.getD (.Pass ⟨0,0,0,0⟩))) ⟨0,0,0,0⟩]).getD ⟨⟨[]⟩⟩
noncomputable def sub (k j:Nat):Stmt:=(fB (top k))[j]?.getD (.Pass ⟨0,0,0,0⟩)
noncomputable def fst (l:List Stmt):Stmt:=l.headD (.Pass ⟨0,0,0,0⟩)
noncomputable def nest (l:List Stmt):Stmt:=(l.find? fun s=>(sAll s).1).getD (.Pass ⟨0,0,0,0⟩)
noncomputable abbrev S0:Str:=s [47,99,108,97,105,109,47,99,117,116,46,112,121]
noncomputable abbrev S1:Str:=s [99,112,121,51,49,51,46,101,109,97,105,108,46,104,101,97,100,101,114]
noncomputable abbrev S2:Str:=s [99,112,121,51,49,51,46,100,105,102,102,108,105,98]
noncomputable abbrev S3:Str:=s [115,101,108,102]
noncomputable abbrev S4:Str:=s [99,112,121,51,49,51,46,117,114,108,108,105,98,46,114,111,98,111,116,112,97,114,115,101,114]
noncomputable abbrev S5:Str:=s [95,95,105,110,105,116,95,95]
noncomputable abbrev S6:Str:=s [108,97,119,95,121,106,48,48,51,54,95,48,49]
noncomputable abbrev S7:Str:=s [73,83,95,67,72,65,82,65,67,84,69,82,95,74,85,78,75]
noncomputable abbrev S8:Str:=s [109,101,114,103,101,95,101,110,116,114,105,101,115]
noncomputable abbrev S9:Str:=s [95,86,97,108,117,101,70,111,114,109,97,116,116,101,114,46,97,100,100,95,116,114,97,110,115,105,116,105,111,110]
noncomputable abbrev S10:Str:=s [95,105,110,116,50,100,105,103,105,116,115]
noncomputable abbrev S11:Str:=s [95,100,105,103,105,116,115,50,105,110,116]
noncomputable abbrev S12:Str:=s [95,100,105,118,109,111,100,95,112,111,115]
noncomputable abbrev S13:Str:=s [72,116,109,108,68,105,102,102,46,95,116,97,98,95,110,101,119,108,105,110,101,95,114,101,112,108,97,99,101]
noncomputable abbrev S14:Str:=s [95,86,97,108,117,101,70,111,114,109,97,116,116,101,114,46,95,97,112,112,101,110,100,95,99,104,117,110,107]
noncomputable abbrev S15:Str:=s [95,108,97,119,95,102,111,108,100,101,100]
noncomputable abbrev S16:Str:=s [95,108,97,119,95,109,97,114,107,101,100]
noncomputable abbrev S17:Str:=s [95,108,97,119,95,114,101,99,111,114,100]
noncomputable abbrev S18:Str:=s [95,108,97,119,95,110,117,109,98,101,114]
noncomputable abbrev S19:Str:=s [99,112,121,51,49,51,46,95,112,121,108,111,110,103]
noncomputable abbrev S20:Str:=s [95,95,115,116,114,95,95]
noncomputable abbrev S21:Str:=s [95,86,97,108,117,101,70,111,114,109,97,116,116,101,114,46,95,97,115,99,105,105,95,115,112,108,105,116]
noncomputable abbrev S22:Str:=s [95,86,97,108,117,101,70,111,114,109,97,116,116,101,114,46,95,109,97,120,108,101,110,103,116,104,115]
noncomputable abbrev S23:Str:=s [95,108,97,119,95,99,101,108,108,115]
noncomputable abbrev S24:Str:=s [95,86,97,108,117,101,70,111,114,109,97,116,116,101,114,46,95,95,105,110,105,116,95,95]
noncomputable abbrev S25:Str:=s [95,86,97,108,117,101,70,111,114,109,97,116,116,101,114,46,110,101,119,108,105,110,101]
noncomputable abbrev S26:Str:=s [72,116,109,108,68,105,102,102,46,95,99,111,108,108,101,99,116,95,108,105,110,101,115]
noncomputable abbrev S27:Str:=s [72,116,109,108,68,105,102,102,46,95,99,111,110,118,101,114,116,95,102,108,97,103,115]
noncomputable abbrev S28:Str:=s [95,86,97,108,117,101,70,111,114,109,97,116,116,101,114]
noncomputable abbrev S29:Str:=s [95,65,99,99,117,109,117,108,97,116,111,114,46,112,97,114,116,95,99,111,117,110,116]
noncomputable abbrev S30:Str:=s [72,116,109,108,68,105,102,102,46,95,108,105,110,101,95,119,114,97,112,112,101,114]
noncomputable abbrev S31:Str:=s [95,86,97,108,117,101,70,111,114,109,97,116,116,101,114,46,95,95,115,116,114,95,95]
noncomputable abbrev S32:Str:=s [95,65,99,99,117,109,117,108,97,116,111,114,46,105,115,95,111,110,108,121,119,115]
noncomputable abbrev S33:Str:=s [95,95,99,108,97,115,115,95,95]
noncomputable abbrev S34:Str:=s [95,100,105,118,50,110,49,110]
noncomputable abbrev S35:Str:=s [95,100,105,118,51,110,50,110]
noncomputable abbrev S36:Str:=s [95,65,99,99,117,109,117,108,97,116,111,114]
noncomputable abbrev S37:Str:=s [95,95,119,101,97,107,114,101,102,95,95]
noncomputable def zo_40 (P:Params):Obj:=⟨.type "dict",none,.dict #[E P [98,117,105,108,116,105,110,115] 162 (.ref 4),E P [95,95,109,97,105,110,95,95] 163 (.ref 5)] 2,#[]⟩
noncomputable def zo_41 (P:Params):Obj:=⟨.none,none,.dict #[] 0,#[]⟩
noncomputable def zo_42 (P:Params):Obj:=⟨.type "dict",none,.dict #[E P [95,95,110,97,109,101,95,95] 165 (.str S6 713),E P [95,95,100,111,99,95,95] 166 .none,E P [95,95,112,97,99,107,97,103,101,95,95] 167 .none,E P [95,95,108,111,97,100,101,114,95,95] 168 (.builtin "__main__.__loader__#opaque"),E P [95,95,115,112,101,99,95,95] 169 .none,E P [95,95,97,110,110,111,116,97,116,105,111,110,115,95,95] 170 (.ref 6),E P [95,95,98,117,105,108,116,105,110,115,95,95] 171 (.ref 4),E P [95,95,102,105,108,101,95,95] 173 (.str S0 172),E P [95,95,99,97,99,104,101,100,95,95] 174 .none,E P [95,119,97,108,108] 193 (.ref 21),E P [73,83,95,67,72,65,82,65,67,84,69,82,95,74,85,78,75] 204 (.ref 29),E P [102,105,108,101,95,116,101,109,112,108,97,116,101,95,100,105,102,102,108,105,98] 206 (.str (lg 3) 205),E P [115,116,121,108,101,115,95,100,105,102,102,108,105,98] 208 (.str (lg 4) 207),E P [116,97,98,108,101,95,116,101,109,112,108,97,116,101,95,100,105,102,102,108,105,98] 210 (.str (lg 5) 209),E P [108,101,103,101,110,100,95,100,105,102,102,108,105,98] 212 (.str (lg 6) 211),E P [72,116,109,108,68,105,102,102] 361 (.ref 113),E P [95,68,73,86,95,76,73,77,73,84] 365 (.int 4000 364),E P [95,100,105,118,50,110,49,110] 382 (.ref 124),E P [95,100,105,118,51,110,50,110] 396 (.ref 131),E P [95,105,110,116,50,100,105,103,105,116,115] 407 (.ref 138),E P [95,100,105,103,105,116,115,50,105,110,116] 418 (.ref 145),E P [95,100,105,118,109,111,100,95,112,111,115] 433 (.ref 152),E P [78,76] 437 (.str (s [10]) 436),E P [69,77,80,84,89,83,84,82,73,78,71] 439 (.str (s []) 438),E P [95,86,97,108,117,101,70,111,114,109,97,116,116,101,114] 547 (.ref 225),E P [95,65,99,99,117,109,117,108,97,116,111,114] 643 (.ref 309),E P [69,110,116,114,121] 703 (.ref 351),E P [109,101,114,103,101,95,101,110,116,114,105,101,115] 712 (.ref 362),E P [95,108,97,119,95,109,97,114,107,101,100] 725 (.ref 369),E P [95,108,97,119,95,99,101,108,108,115] 735 (.ref 376),E P [95,108,97,119,95,102,111,108,100,101,100] 745 (.ref 383),E P [95,108,97,119,95,114,101,99,111,114,100] 753 (.ref 390),E P [95,108,97,119,95,110,117,109,98,101,114] 763 (.ref 397),E P [108,97,119] 769 (.ref 402)] 34,#[]⟩
noncomputable def zo_43 (P:Params):Obj:=⟨.type "module",some 0,.plain,#[]⟩
noncomputable def zo_45 (P:Params):Obj:=⟨.type "dict",none,.dict #[] 0,#[]⟩
noncomputable def zo_70 (P:Params):Obj:=⟨.type "tuple",none,.seq #[.int 8 231,.none,.none,.ref 29] 0,#[]⟩
noncomputable def zo_76 (P:Params):Obj:=⟨.type "code",none,.fields #[.str S5 232,.str (s [72,116,109,108,68,105,102,102,46,95,95,105,110,105,116,95,95]) 233,.str S0 234,.int 18 0,.int 5 0,.int 0 0,.int 0 0,.int 3 0,.ref 38,.bool true,.int 181 0,.ref 39,.none,.ref 40,.ref 41,.ref 42,.int 240 0,.int 18 0,.str S0 241],#[]⟩
noncomputable def zo_77 (P:Params):Obj:=⟨.type "function",none,.func ⟨S5,(s [72,116,109,108,68,105,102,102,46,95,95,105,110,105,116,95,95]),(fP (sub 7 5)),.stmts (fB (sub 7 5)),(fS (sub 7 5)),3,[],.ref 37,.none,.none,.str S2 194,none,.ref 43,.none,0⟩,#[]⟩
noncomputable def zo_79 (P:Params):Obj:=⟨.type "dict",none,.dict #[E P [99,104,97,114,115,101,116] 247 (.str (s [117,116,102,45,56]) 246)] 1,#[]⟩
noncomputable def zo_99 (P:Params):Obj:=⟨.type "code",none,.fields #[.str (s [95,115,112,108,105,116,95,108,105,110,101]) 271,.str (s [72,116,109,108,68,105,102,102,46,95,115,112,108,105,116,95,108,105,110,101]) 272,.str S0 273,.int 30 0,.int 4 0,.int 0 0,.int 0 0,.int 3 0,.ref 61,.bool true,.int 181 0,.ref 62,.none,.ref 63,.ref 64,.ref 65,.int 285 0,.int 30 0,.str S0 286],#[]⟩
noncomputable def zo_100 (P:Params):Obj:=⟨.type "function",none,.func ⟨(s [95,115,112,108,105,116,95,108,105,110,101]),(s [72,116,109,108,68,105,102,102,46,95,115,112,108,105,116,95,108,105,110,101]),(fP (sub 7 8)),.stmts (fB (sub 7 8)),(fS (sub 7 8)),3,[],.none,.none,.none,.str S2 194,none,.ref 66,.none,0⟩,#[]⟩
noncomputable def zo_145 (P:Params):Obj:=⟨.type "dict",none,.dict #[E P [95,95,109,111,100,117,108,101,95,95] 220 (.str S2 194),E P [95,95,102,105,114,115,116,108,105,110,101,110,111,95,95] 224 (.int 11 223),E P [95,102,105,108,101,95,116,101,109,112,108,97,116,101] 225 (.str (lg 3) 205),E P [95,115,116,121,108,101,115] 226 (.str (lg 4) 207),E P [95,116,97,98,108,101,95,116,101,109,112,108,97,116,101] 227 (.str (lg 5) 209),E P [95,108,101,103,101,110,100] 228 (.str (lg 6) 211),E P [95,100,101,102,97,117,108,116,95,112,114,101,102,105,120] 230 (.int 0 229),E P [95,95,105,110,105,116,95,95] 242 (.ref 44),E P [109,97,107,101,95,102,105,108,101] 261 (.ref 53),E P [95,116,97,98,95,110,101,119,108,105,110,101,95,114,101,112,108,97,99,101] 270 (.ref 60),E P [95,115,112,108,105,116,95,108,105,110,101] 287 (.ref 67),E P [95,108,105,110,101,95,119,114,97,112,112,101,114] 295 (.ref 74),E P [95,99,111,108,108,101,99,116,95,108,105,110,101,115] 303 (.ref 81),E P [95,102,111,114,109,97,116,95,108,105,110,101] 314 (.ref 88),E P [95,109,97,107,101,95,112,114,101,102,105,120] 321 (.ref 95),E P [95,99,111,110,118,101,114,116,95,102,108,97,103,115] 333 (.ref 102),E P [109,97,107,101,95,116,97,98,108,101] 349 (.ref 110),E P [95,95,115,116,97,116,105,99,95,97,116,116,114,105,98,117,116,101,115,95,95] 354 (.ref 111),E P [95,95,100,105,99,116,95,95] 356 (.ref 114),E P [95,95,119,101,97,107,114,101,102,95,95] 358 (.ref 115),E P [95,95,100,111,99,95,95] 359 .none] 4,#[]⟩
noncomputable def zo_146 (P:Params):Obj:=⟨.type "type",none,.cls ⟨(s [72,116,109,108,68,105,102,102]),[.type "object"],[.ref 113,.type "object"],112,(s [72,116,109,108,68,105,102,102]),true,[],[],false,none,false⟩,#[some (.ref 30),none,some (.str (s [72,116,109,108,68,105,102,102]) 213),some (.str (s [72,116,109,108,68,105,102,102]) 221),some (.builtin "object.__new__"),some (.bool true)]⟩
noncomputable def zo_154 (P:Params):Obj:=⟨.type "code",none,.fields #[.str S34 366,.str S34 367,.str S0 368,.int 80 0,.int 3 0,.int 0 0,.int 0 0,.int 3 0,.ref 118,.bool true,.int 181 0,.ref 119,.none,.ref 120,.ref 121,.ref 122,.int 380 0,.int 80 0,.str S0 381],#[]⟩
noncomputable def zo_155 (P:Params):Obj:=⟨.type "function",none,.func ⟨S34,S34,(fP (top 10)),.stmts (fB (top 10)),(fS (top 10)),3,[],.none,.none,.none,.str S19 362,none,.ref 123,.none,0⟩,#[]⟩
noncomputable def zo_164 (P:Params):Obj:=⟨.none,none,.fields #[],#[]⟩
noncomputable def zo_168 (P:Params):Obj:=⟨.type "code",none,.fields #[.str S10 397,.str S10 398,.str S0 399,.int 106 0,.int 2 0,.int 0 0,.int 0 0,.int 3 0,.ref 132,.bool true,.int 181 0,.ref 133,.none,.ref 134,.ref 135,.ref 136,.int 405 0,.int 106 0,.str S0 406],#[]⟩
noncomputable def zo_169 (P:Params):Obj:=⟨.type "function",none,.func ⟨S10,S10,(fP (top 12)),.stmts (fB (top 12)),(fS (top 12)),3,[],.none,.none,.none,.str S19 362,none,.ref 137,.none,0⟩,#[]⟩
noncomputable def zo_171 (P:Params):Obj:=⟨.none,none,.fields #[],#[]⟩
noncomputable def zo_175 (P:Params):Obj:=⟨.type "code",none,.fields #[.str S11 408,.str S11 409,.str S0 410,.int 122 0,.int 2 0,.int 0 0,.int 0 0,.int 3 0,.ref 139,.bool true,.int 181 0,.ref 140,.none,.ref 141,.ref 142,.ref 143,.int 416 0,.int 122 0,.str S0 417],#[]⟩
noncomputable def zo_176 (P:Params):Obj:=⟨.type "function",none,.func ⟨S11,S11,(fP (top 13)),.stmts (fB (top 13)),(fS (top 13)),3,[],.none,.none,.none,.str S19 362,none,.ref 144,.none,0⟩,#[]⟩
noncomputable def zo_182 (P:Params):Obj:=⟨.type "code",none,.fields #[.str S12 419,.str S12 420,.str S0 421,.int 131 0,.int 2 0,.int 0 0,.int 0 0,.int 3 0,.ref 146,.bool true,.int 181 0,.ref 147,.none,.ref 148,.ref 149,.ref 150,.int 431 0,.int 131 0,.str S0 432],#[]⟩
noncomputable def zo_183 (P:Params):Obj:=⟨.type "function",none,.func ⟨S12,S12,(fP (top 14)),.stmts (fB (top 14)),(fS (top 14)),3,[],.none,.none,.none,.str S19 362,none,.ref 151,.none,0⟩,#[]⟩
noncomputable def zo_189 (P:Params):Obj:=⟨.type "code",none,.fields #[.str S5 452,.str S24 453,.str S0 454,.int 147 0,.int 5 0,.int 0 0,.int 0 0,.int 3 0,.ref 160,.bool true,.int 181 0,.ref 161,.none,.ref 162,.ref 163,.ref 164,.int 460 0,.int 147 0,.str S0 461],#[]⟩
noncomputable def zo_190 (P:Params):Obj:=⟨.type "function",none,.func ⟨S5,S24,(fP (sub 18 0)),.stmts (fB (sub 18 0)),(fS (sub 18 0)),3,[],.none,.none,.none,.str S1 434,none,.ref 165,.none,0⟩,#[]⟩
noncomputable def zo_196 (P:Params):Obj:=⟨.type "code",none,.fields #[.str (s [95,115,116,114]) 463,.str (s [95,86,97,108,117,101,70,111,114,109,97,116,116,101,114,46,95,115,116,114]) 464,.str S0 465,.int 155 0,.int 2 0,.int 0 0,.int 0 0,.int 3 0,.ref 167,.bool true,.int 181 0,.ref 168,.none,.ref 169,.ref 170,.ref 171,.int 468 0,.int 155 0,.str S0 469],#[]⟩
noncomputable def zo_197 (P:Params):Obj:=⟨.type "function",none,.func ⟨(s [95,115,116,114]),(s [95,86,97,108,117,101,70,111,114,109,97,116,116,101,114,46,95,115,116,114]),(fP (sub 18 1)),.stmts (fB (sub 18 1)),(fS (sub 18 1)),3,[],.none,.none,.none,.str S1 434,none,.ref 172,.none,0⟩,#[]⟩
noncomputable def zo_210 (P:Params):Obj:=⟨.type "code",none,.fields #[.str (s [110,101,119,108,105,110,101]) 478,.str S25 479,.str S0 480,.int 162 0,.int 1 0,.int 0 0,.int 0 0,.int 3 0,.ref 181,.bool true,.int 181 0,.ref 182,.none,.ref 183,.ref 184,.ref 185,.int 483 0,.int 162 0,.str S0 484],#[]⟩
noncomputable def zo_211 (P:Params):Obj:=⟨.type "function",none,.func ⟨(s [110,101,119,108,105,110,101]),S25,(fP (sub 18 3)),.stmts (fB (sub 18 3)),(fS (sub 18 3)),3,[],.none,.none,.none,.str S1 434,none,.ref 186,.none,0⟩,#[]⟩
noncomputable def zo_245 (P:Params):Obj:=⟨.type "code",none,.fields #[.str (s [95,97,112,112,101,110,100,95,99,104,117,110,107]) 520,.str S14 521,.str S0 522,.int 185 0,.int 3 0,.int 0 0,.int 0 0,.int 3 0,.ref 216,.bool true,.int 181 0,.ref 217,.none,.ref 218,.ref 219,.ref 220,.int 531 0,.int 185 0,.str S0 532],#[]⟩
noncomputable def zo_246 (P:Params):Obj:=⟨.type "function",none,.func ⟨(s [95,97,112,112,101,110,100,95,99,104,117,110,107]),S14,(fP (sub 18 8)),.stmts (fB (sub 18 8)),(fS (sub 18 8)),3,[],.none,.none,.none,.str S1 434,none,.ref 221,.none,0⟩,#[]⟩
noncomputable def zo_248 (P:Params):Obj:=⟨.type "dict",none,.dict #[E P [95,95,109,111,100,117,108,101,95,95] 447 (.str S1 434),E P [95,95,102,105,114,115,116,108,105,110,101,110,111,95,95] 451 (.int 145 450),E P [95,95,105,110,105,116,95,95] 462 (.ref 166),E P [95,115,116,114] 470 (.ref 173),E P [95,95,115,116,114,95,95] 477 (.ref 180),E P [110,101,119,108,105,110,101] 485 (.ref 187),E P [97,100,100,95,116,114,97,110,115,105,116,105,111,110] 492 (.ref 194),E P [102,101,101,100] 502 (.ref 201),E P [95,109,97,120,108,101,110,103,116,104,115] 509 (.ref 208),E P [95,97,115,99,105,105,95,115,112,108,105,116] 519 (.ref 215),E P [95,97,112,112,101,110,100,95,99,104,117,110,107] 533 (.ref 222),E P [95,95,115,116,97,116,105,99,95,97,116,116,114,105,98,117,116,101,115,95,95] 540 (.ref 223),E P [95,95,100,105,99,116,95,95] 542 (.ref 226),E P [95,95,119,101,97,107,114,101,102,95,95] 544 (.ref 227),E P [95,95,100,111,99,95,95] 545 .none] 4,#[]⟩
noncomputable def zo_249 (P:Params):Obj:=⟨.type "type",none,.cls ⟨S28,[.type "object"],[.ref 225,.type "object"],224,S28,true,[],[],false,none,false⟩,#[none,none,some (.str S28 440),some (.str S28 448),some (.builtin "object.__new__"),some (.bool true)]⟩
noncomputable def zo_253 (P:Params):Obj:=⟨.type "cell",none,.cell (some (.ref 309)),#[]⟩
noncomputable def zo_254 (P:Params):Obj:=⟨.type "tuple",none,.seq #[.int 0 560] 0,#[]⟩
noncomputable def zo_261 (P:Params):Obj:=⟨.type "code",none,.fields #[.str S5 561,.str (s [95,65,99,99,117,109,117,108,97,116,111,114,46,95,95,105,110,105,116,95,95]) 562,.str S0 563,.int 213 0,.int 2 0,.int 0 0,.int 0 0,.int 3 0,.ref 240,.bool true,.int 181 0,.ref 241,.none,.ref 242,.ref 243,.ref 244,.int 567 0,.int 213 0,.str S0 568],#[]⟩
noncomputable def zo_262 (P:Params):Obj:=⟨.type "function",none,.func ⟨S5,(s [95,65,99,99,117,109,117,108,97,116,111,114,46,95,95,105,110,105,116,95,95]),(fP (sub 19 0)),.stmts (fB (sub 19 0)),(fS (sub 19 0)),3,[⟨S33,233⟩],.ref 238,.none,.none,.str S1 434,none,.ref 245,.ref 239,0⟩,#[]⟩
noncomputable def zo_268 (P:Params):Obj:=⟨.type "code",none,.fields #[.str (s [112,117,115,104]) 570,.str (s [95,65,99,99,117,109,117,108,97,116,111,114,46,112,117,115,104]) 571,.str S0 572,.int 217 0,.int 3 0,.int 0 0,.int 0 0,.int 3 0,.ref 247,.bool true,.int 181 0,.ref 248,.none,.ref 249,.ref 250,.ref 251,.int 576 0,.int 217 0,.str S0 577],#[]⟩
noncomputable def zo_269 (P:Params):Obj:=⟨.type "function",none,.func ⟨(s [112,117,115,104]),(s [95,65,99,99,117,109,117,108,97,116,111,114,46,112,117,115,104]),(fP (sub 19 1)),.stmts (fB (sub 19 1)),(fS (sub 19 1)),3,[],.none,.none,.none,.str S1 434,none,.ref 252,.none,0⟩,#[]⟩
noncomputable def zo_270 (P:Params):Obj:=⟨.type "tuple",none,.seq #[.int 0 579] 0,#[]⟩
noncomputable def zo_276 (P:Params):Obj:=⟨.type "code",none,.fields #[.str (s [112,111,112,95,102,114,111,109]) 580,.str (s [95,65,99,99,117,109,117,108,97,116,111,114,46,112,111,112,95,102,114,111,109]) 581,.str S0 582,.int 220 0,.int 2 0,.int 0 0,.int 0 0,.int 3 0,.ref 255,.bool true,.int 181 0,.ref 256,.none,.ref 257,.ref 258,.ref 259,.int 586 0,.int 220 0,.str S0 587],#[]⟩
noncomputable def zo_277 (P:Params):Obj:=⟨.type "function",none,.func ⟨(s [112,111,112,95,102,114,111,109]),(s [95,65,99,99,117,109,117,108,97,116,111,114,46,112,111,112,95,102,114,111,109]),(fP (sub 19 2)),.stmts (fB (sub 19 2)),(fS (sub 19 2)),3,[],.ref 254,.none,.none,.str S1 434,none,.ref 260,.none,0⟩,#[]⟩
noncomputable def zo_284 (P:Params):Obj:=⟨.type "code",none,.fields #[.str (s [112,111,112]) 589,.str (s [95,65,99,99,117,109,117,108,97,116,111,114,46,112,111,112]) 590,.str S0 591,.int 225 0,.int 1 0,.int 0 0,.int 0 0,.int 3 0,.ref 263,.bool true,.int 181 0,.ref 264,.none,.ref 265,.ref 266,.ref 267,.int 594 0,.int 225 0,.str S0 595],#[]⟩
noncomputable def zo_285 (P:Params):Obj:=⟨.type "function",none,.func ⟨(s [112,111,112]),(s [95,65,99,99,117,109,117,108,97,116,111,114,46,112,111,112]),(fP (sub 19 3)),.stmts (fB (sub 19 3)),(fS (sub 19 3)),3,[⟨S33,233⟩],.none,.none,.none,.str S1 434,none,.ref 268,.ref 262,0⟩,#[]⟩
noncomputable def zo_287 (P:Params):Obj:=⟨.none,none,.fields #[],#[]⟩
noncomputable def zo_291 (P:Params):Obj:=⟨.type "code",none,.fields #[.str (s [95,95,108,101,110,95,95]) 597,.str (s [95,65,99,99,117,109,117,108,97,116,111,114,46,95,95,108,101,110,95,95]) 598,.str S0 599,.int 230 0,.int 1 0,.int 0 0,.int 0 0,.int 3 0,.ref 270,.bool true,.int 181 0,.ref 271,.none,.ref 272,.ref 273,.ref 274,.int 601 0,.int 230 0,.str S0 602],#[]⟩
noncomputable def zo_292 (P:Params):Obj:=⟨.type "function",none,.func ⟨(s [95,95,108,101,110,95,95]),(s [95,65,99,99,117,109,117,108,97,116,111,114,46,95,95,108,101,110,95,95]),(fP (sub 19 4)),.stmts (fB (sub 19 4)),(fS (sub 19 4)),3,[],.none,.none,.none,.str S1 434,none,.ref 275,.none,0⟩,#[]⟩
noncomputable def zo_294 (P:Params):Obj:=⟨.none,none,.fields #[],#[]⟩
noncomputable def zo_298 (P:Params):Obj:=⟨.type "code",none,.fields #[.str S20 604,.str (s [95,65,99,99,117,109,117,108,97,116,111,114,46,95,95,115,116,114,95,95]) 605,.str S0 606,.int 233 0,.int 1 0,.int 0 0,.int 0 0,.int 3 0,.ref 277,.bool true,.int 181 0,.ref 278,.none,.ref 279,.ref 280,.ref 281,.int 608 0,.int 233 0,.str S0 609],#[]⟩
noncomputable def zo_299 (P:Params):Obj:=⟨.type "function",none,.func ⟨S20,(s [95,65,99,99,117,109,117,108,97,116,111,114,46,95,95,115,116,114,95,95]),(fP (sub 19 5)),.stmts (fB (sub 19 5)),(fS (sub 19 5)),3,[],.none,.none,.none,.str S1 434,none,.ref 282,.none,0⟩,#[]⟩
noncomputable def zo_300 (P:Params):Obj:=⟨.type "tuple",none,.seq #[.none] 0,#[]⟩
noncomputable def zo_306 (P:Params):Obj:=⟨.type "code",none,.fields #[.str (s [114,101,115,101,116]) 611,.str (s [95,65,99,99,117,109,117,108,97,116,111,114,46,114,101,115,101,116]) 612,.str S0 613,.int 236 0,.int 2 0,.int 0 0,.int 0 0,.int 3 0,.ref 285,.bool true,.int 181 0,.ref 286,.none,.ref 287,.ref 288,.ref 289,.int 616 0,.int 236 0,.str S0 617],#[]⟩
noncomputable def zo_307 (P:Params):Obj:=⟨.type "function",none,.func ⟨(s [114,101,115,101,116]),(s [95,65,99,99,117,109,117,108,97,116,111,114,46,114,101,115,101,116]),(fP (sub 19 6)),.stmts (fB (sub 19 6)),(fS (sub 19 6)),3,[],.ref 284,.none,.none,.str S1 434,none,.ref 290,.none,0⟩,#[]⟩
noncomputable def zo_313 (P:Params):Obj:=⟨.type "code",none,.fields #[.str (s [105,115,95,111,110,108,121,119,115]) 619,.str S32 620,.str S0 621,.int 242 0,.int 1 0,.int 0 0,.int 0 0,.int 3 0,.ref 292,.bool true,.int 181 0,.ref 293,.none,.ref 294,.ref 295,.ref 296,.int 623 0,.int 242 0,.str S0 624],#[]⟩
noncomputable def zo_314 (P:Params):Obj:=⟨.type "function",none,.func ⟨(s [105,115,95,111,110,108,121,119,115]),S32,(fP (sub 19 7)),.stmts (fB (sub 19 7)),(fS (sub 19 7)),3,[],.none,.none,.none,.str S1 434,none,.ref 297,.none,0⟩,#[]⟩
noncomputable def zo_321 (P:Params):Obj:=⟨.type "code",none,.fields #[.str (s [112,97,114,116,95,99,111,117,110,116]) 626,.str S29 627,.str S0 628,.int 245 0,.int 1 0,.int 0 0,.int 0 0,.int 3 0,.ref 300,.bool true,.int 181 0,.ref 301,.none,.ref 302,.ref 303,.ref 304,.int 631 0,.int 245 0,.str S0 632],#[]⟩
noncomputable def zo_322 (P:Params):Obj:=⟨.type "function",none,.func ⟨(s [112,97,114,116,95,99,111,117,110,116]),S29,(fP (sub 19 8)),.stmts (fB (sub 19 8)),(fS (sub 19 8)),3,[⟨S33,233⟩],.none,.none,.none,.str S1 434,none,.ref 305,.ref 299,0⟩,#[]⟩
noncomputable def zo_324 (P:Params):Obj:=⟨.type "dict",none,.dict #[E P [95,95,109,111,100,117,108,101,95,95] 555 (.str S1 434),E P [95,95,102,105,114,115,116,108,105,110,101,110,111,95,95] 559 (.int 211 558),E P [95,95,105,110,105,116,95,95] 569 (.ref 246),E P [112,117,115,104] 578 (.ref 253),E P [112,111,112,95,102,114,111,109] 588 (.ref 261),E P [112,111,112] 596 (.ref 269),E P [95,95,108,101,110,95,95] 603 (.ref 276),E P [95,95,115,116,114,95,95] 610 (.ref 283),E P [114,101,115,101,116] 618 (.ref 291),E P [105,115,95,111,110,108,121,119,115] 625 (.ref 298),E P [112,97,114,116,95,99,111,117,110,116] 633 (.ref 306),E P [95,95,115,116,97,116,105,99,95,97,116,116,114,105,98,117,116,101,115,95,95] 635 (.ref 307),E P [95,95,100,105,99,116,95,95] 638 (.ref 310),E P [95,95,119,101,97,107,114,101,102,95,95] 640 (.ref 311),E P [95,95,100,111,99,95,95] 641 .none] 5,#[]⟩
noncomputable def zo_325 (P:Params):Obj:=⟨.type "type",none,.cls ⟨S36,[.type "list"],[.ref 309,.type "list",.type "object"],308,S36,true,[],[],false,none,false⟩,#[some (.ref 230),none,some (.str S36 548),some (.str S36 556),some (.builtin "list.__new__"),some (.bool true)]⟩
noncomputable def zo_333 (P:Params):Obj:=⟨.type "code",none,.fields #[.str S5 658,.str (s [69,110,116,114,121,46,95,95,105,110,105,116,95,95]) 659,.str S0 660,.int 250 0,.int 1 0,.int 0 0,.int 0 0,.int 3 0,.ref 321,.bool true,.int 181 0,.ref 322,.none,.ref 323,.ref 324,.ref 325,.int 662 0,.int 250 0,.str S0 663],#[]⟩
noncomputable def zo_334 (P:Params):Obj:=⟨.type "function",none,.func ⟨S5,(s [69,110,116,114,121,46,95,95,105,110,105,116,95,95]),(fP (sub 21 0)),.stmts (fB (sub 21 0)),(fS (sub 21 0)),3,[],.none,.none,.none,.str S4 644,none,.ref 326,.none,0⟩,#[]⟩
noncomputable def zo_347 (P:Params):Obj:=⟨.type "code",none,.fields #[.str (s [97,112,112,108,105,101,115,95,116,111]) 675,.str (s [69,110,116,114,121,46,97,112,112,108,105,101,115,95,116,111]) 676,.str S0 677,.int 273 0,.int 2 0,.int 0 0,.int 0 0,.int 3 0,.ref 335,.bool true,.int 181 0,.ref 336,.none,.ref 337,.ref 338,.ref 339,.int 681 0,.int 273 0,.str S0 682],#[]⟩
noncomputable def zo_348 (P:Params):Obj:=⟨.type "function",none,.func ⟨(s [97,112,112,108,105,101,115,95,116,111]),(s [69,110,116,114,121,46,97,112,112,108,105,101,115,95,116,111]),(fP (sub 21 2)),.stmts (fB (sub 21 2)),(fS (sub 21 2)),3,[],.none,.none,.none,.str S4 644,none,.ref 340,.none,0⟩,#[]⟩
noncomputable def zo_357 (P:Params):Obj:=⟨.type "dict",none,.dict #[E P [95,95,109,111,100,117,108,101,95,95] 653 (.str S4 644),E P [95,95,102,105,114,115,116,108,105,110,101,110,111,95,95] 657 (.int 248 656),E P [95,95,105,110,105,116,95,95] 664 (.ref 327),E P [95,95,115,116,114,95,95] 674 (.ref 334),E P [97,112,112,108,105,101,115,95,116,111] 683 (.ref 341),E P [97,108,108,111,119,97,110,99,101] 691 (.ref 348),E P [95,95,115,116,97,116,105,99,95,97,116,116,114,105,98,117,116,101,115,95,95] 696 (.ref 349),E P [95,95,100,105,99,116,95,95] 698 (.ref 352),E P [95,95,119,101,97,107,114,101,102,95,95] 700 (.ref 353),E P [95,95,100,111,99,95,95] 701 .none] 4,#[]⟩
noncomputable def zo_358 (P:Params):Obj:=⟨.type "type",none,.cls ⟨(s [69,110,116,114,121]),[.type "object"],[.ref 351,.type "object"],350,(s [69,110,116,114,121]),true,[],[],false,none,false⟩,#[none,none,some (.str (s [69,110,116,114,121]) 646),some (.str (s [69,110,116,114,121]) 654),some (.builtin "object.__new__"),some (.bool true)]⟩
noncomputable def zo_366 (P:Params):Obj:=⟨.type "code",none,.fields #[.str S8 704,.str S8 705,.str S0 706,.int 286 0,.int 2 0,.int 0 0,.int 0 0,.int 3 0,.ref 356,.bool true,.int 181 0,.ref 357,.none,.ref 358,.ref 359,.ref 360,.int 710 0,.int 286 0,.str S0 711],#[]⟩
noncomputable def zo_367 (P:Params):Obj:=⟨.type "function",none,.func ⟨S8,S8,(fP (top 22)),.stmts (fB (top 22)),(fS (top 22)),3,[],.none,.none,.none,.str S4 644,none,.ref 361,.none,0⟩,#[]⟩
noncomputable def zo_373 (P:Params):Obj:=⟨.type "code",none,.fields #[.str S16 715,.str S16 716,.str S0 717,.int 294 0,.int 1 0,.int 0 0,.int 0 0,.int 3 0,.ref 363,.bool true,.int 181 0,.ref 364,.none,.ref 365,.ref 366,.ref 367,.int 723 0,.int 294 0,.str S0 724],#[]⟩
noncomputable def zo_374 (P:Params):Obj:=⟨.type "function",none,.func ⟨S16,S16,(fP (top 24)),.stmts (fB (top 24)),(fS (top 24)),3,[],.none,.none,.none,.str S6 713,none,.ref 368,.none,0⟩,#[]⟩
noncomputable def zo_380 (P:Params):Obj:=⟨.type "code",none,.fields #[.str S23 726,.str S23 727,.str S0 728,.int 304 0,.int 1 0,.int 0 0,.int 0 0,.int 3 0,.ref 370,.bool true,.int 181 0,.ref 371,.none,.ref 372,.ref 373,.ref 374,.int 733 0,.int 304 0,.str S0 734],#[]⟩
noncomputable def zo_381 (P:Params):Obj:=⟨.type "function",none,.func ⟨S23,S23,(fP (top 25)),.stmts (fB (top 25)),(fS (top 25)),3,[],.none,.none,.none,.str S6 713,none,.ref 375,.none,0⟩,#[]⟩
noncomputable def zo_387 (P:Params):Obj:=⟨.type "code",none,.fields #[.str S15 736,.str S15 737,.str S0 738,.int 315 0,.int 2 0,.int 0 0,.int 0 0,.int 3 0,.ref 377,.bool true,.int 181 0,.ref 378,.none,.ref 379,.ref 380,.ref 381,.int 743 0,.int 315 0,.str S0 744],#[]⟩
noncomputable def zo_388 (P:Params):Obj:=⟨.type "function",none,.func ⟨S15,S15,(fP (top 26)),.stmts (fB (top 26)),(fS (top 26)),3,[],.none,.none,.none,.str S6 713,none,.ref 382,.none,0⟩,#[]⟩
noncomputable def zo_394 (P:Params):Obj:=⟨.type "code",none,.fields #[.str S17 746,.str S17 747,.str S0 748,.int 320 0,.int 1 0,.int 0 0,.int 0 0,.int 3 0,.ref 384,.bool true,.int 181 0,.ref 385,.none,.ref 386,.ref 387,.ref 388,.int 751 0,.int 320 0,.str S0 752],#[]⟩
noncomputable def zo_395 (P:Params):Obj:=⟨.type "function",none,.func ⟨S17,S17,(fP (top 27)),.stmts (fB (top 27)),(fS (top 27)),3,[],.none,.none,.none,.str S6 713,none,.ref 389,.none,0⟩,#[]⟩
noncomputable def zo_401 (P:Params):Obj:=⟨.type "code",none,.fields #[.str S18 754,.str S18 755,.str S0 756,.int 324 0,.int 2 0,.int 0 0,.int 0 0,.int 3 0,.ref 391,.bool true,.int 181 0,.ref 392,.none,.ref 393,.ref 394,.ref 395,.int 761 0,.int 324 0,.str S0 762],#[]⟩
noncomputable def zo_402 (P:Params):Obj:=⟨.type "function",none,.func ⟨S18,S18,(fP (top 28)),.stmts (fB (top 28)),(fS (top 28)),3,[],.none,.none,.none,.str S6 713,none,.ref 396,.none,0⟩,#[]⟩
noncomputable def zo_406 (P:Params):Obj:=⟨.type "code",none,.fields #[.str (s [108,97,119]) 764,.str (s [108,97,119]) 765,.str S0 766,.int 329 0,.int 1 0,.int 0 0,.int 0 0,.int 3 0,.ref 398,.bool true,.int 181 0,.ref 399,.none,.none,.none,.ref 400,.int 767 0,.int 329 0,.str S0 768],#[]⟩
noncomputable def zo_407 (P:Params):Obj:=⟨.type "function",none,.func ⟨(s [108,97,119]),(s [108,97,119]),(fP (top 29)),.stmts (fB (top 29)),(fS (top 29)),3,[],.none,.none,.none,.str S6 713,none,.ref 401,.none,0⟩,#[]⟩
noncomputable def heap_407 (P:Params):Frag:=[(1,zo_40 P),(2,zo_41 P),(3,zo_42 P),(4,zo_43 P),(6,zo_45 P),(37,zo_70 P),(43,zo_76 P),(44,zo_77 P),(46,zo_79 P),(66,zo_99 P),(67,zo_100 P),(112,zo_145 P),(113,zo_146 P),(123,zo_154 P),(124,zo_155 P),(133,zo_164 P),(137,zo_168 P),(138,zo_169 P),(140,zo_171 P),(144,zo_175 P),(145,zo_176 P),(151,zo_182 P),(152,zo_183 P),(165,zo_189 P),(166,zo_190 P),(172,zo_196 P),(173,zo_197 P),(186,zo_210 P),(187,zo_211 P),(221,zo_245 P),(222,zo_246 P),(224,zo_248 P),(225,zo_249 P),(233,zo_253 P),(238,zo_254 P),(245,zo_261 P),(246,zo_262 P),(252,zo_268 P),(253,zo_269 P),(254,zo_270 P),(260,zo_276 P),(261,zo_277 P),(268,zo_284 P),(269,zo_285 P),(271,zo_287 P),(275,zo_291 P),(276,zo_292 P),(278,zo_294 P),(282,zo_298 P),(283,zo_299 P),(284,zo_300 P),(290,zo_306 P),(291,zo_307 P),(297,zo_313 P),(298,zo_314 P),(305,zo_321 P),(306,zo_322 P),(308,zo_324 P),(309,zo_325 P),(326,zo_333 P),(327,zo_334 P),(340,zo_347 P),(341,zo_348 P),(350,zo_357 P),(351,zo_358 P),(361,zo_366 P),(362,zo_367 P),(368,zo_373 P),(369,zo_374 P),(375,zo_380 P),(376,zo_381 P),(382,zo_387 P),(383,zo_388 P),(389,zo_394 P),(390,zo_395 P),(396,zo_401 P),(397,zo_402 P),(401,zo_406 P),(402,zo_407 P)]
end Mine.Internal.hd
end
section
open PySem PySem.W PySem.W.X PySem.W.ZRun PyProof.Rows
namespace Mine.Internal
set_option maxRecDepth 100000
set_option maxHeartbeats 0
theorem hz_str (s:String) (y:Str) (h:s=String.ofList (y.cps.toList.map Char.ofNat)) (hv:(y.cps.toList.all fun n=>Nat.blt n 55296)=true):Str.ofString s=y:=by
 rw[h,PySem.W.Fast.ofString_ofList,List.map_map]
 have q:∀ l:List Nat,(l.all fun n=>Nat.blt n 55296)=true→l.map (Char.toNat∘Char.ofNat)=l:=by
  intro l hl
  induction l with
  | nil=>rfl
  | cons n r ih=>
   have h':=Bool.and_eq_true_iff.mp (hl:(Nat.blt n 55296&&r.all fun n=>Nat.blt n 55296)=true)
   have hn:n<55296:=Nat.blt_eq.mp h'.1
   have e:(Char.ofNat n).toNat=n:=by
    have v:n.isValidChar:=.inl hn
    rw[Char.ofNat,dif_pos v];simp[Char.toNat,Char.ofNatAux]
   rw[List.map_cons,ih h'.2];exact congrArg (·::r) e
 rw[q _ hv]
theorem hz_eq {ts:List PySem.Expr} {a:Nat} {b p:Pos} {s:String} {y:Str} (h:s=String.ofList (y.cps.toList.map Char.ofNat)) (hv:(y.cps.toList.all fun n=>Nat.blt n 55296)=true):some (Stmt.Assign ts (.Constant (.str (Str.ofString s)) a b) p)=some (Stmt.Assign ts (.Constant (.str y) a b) p):=by rw[hz_str s y h hv]
theorem hz_list {l m:List Stmt} (h0:l[0]?=m.head?) (h1:l[1]?=m.tail.head?) (h2:l[2]?=m.tail.tail.head?) (h3:l[3]?=m[3]?) (h4:l[4]?=m[4]?) (h5:l[5]?=m[5]?) (h6:l[6]?=m[6]?) (h7:l.drop 7=m.tail.tail.tail.tail.tail.tail.tail):l=m:=List.ext_getElem? fun
 | 0=>h0.trans List.head?_eq_getElem?
 | 1=>h1.trans (List.head?_eq_getElem?.trans List.getElem?_tail)
 | 2=>h2.trans (List.head?_eq_getElem?.trans (List.getElem?_tail.trans List.getElem?_tail))
 | 3=>h3
 | 4=>h4
 | 5=>h5
 | 6=>h6
 | j+7=>by
  have a:(l.drop 7)[j]?=l[7+j]?:=List.getElem?_drop
  rw[Nat.add_comm 7 j] at a
  rw[← a,h7,List.getElem?_tail,List.getElem?_tail,List.getElem?_tail,List.getElem?_tail,List.getElem?_tail,List.getElem?_tail,List.getElem?_tail]
noncomputable def hz_put (r:Program) (b:List Stmt):Program:={r with main:={r.main with body:=b}}
theorem hz_prog {p q:Program} (h:p.main.body=q.main.body) (h2:hz_put p []=hz_put q []):p=q:=show hz_put (hz_put p []) p.main.body=hz_put (hz_put q []) q.main.body by rw[h,h2]
theorem fin.te5206623992110303472:PySem.Challenge.pw_yj0036_01=fin.tw5206623992110303472:=hz_prog (hz_list (by kernel_rfl) (by kernel_rfl) (by kernel_rfl) (hz_eq (by kernel_rfl) (by kernel_rfl)) (hz_eq (by kernel_rfl) (by kernel_rfl)) (hz_eq (by kernel_rfl) (by kernel_rfl)) (hz_eq (by kernel_rfl) (by kernel_rfl)) (by kernel_rfl)) (by kernel_rfl)
theorem hz_cong {a b:Bool} {l m:List Str} {p:List Stmt} (ha:a=b) (hl:l=m) (h:noRoadLSs {strict:=b,foot:=none,bare:=m} p=true):noRoadLSs {strict:=a,foot:=none,bare:=l} p=true:=by subst ha hl;exact h
theorem hz_not {a:Bool} (h:a=true):(!a)=false:=by rw[h];rfl
theorem hz_filt {f:Str→Bool} {a b c:Str} (ha:(!f a)=true) (hb:(!f b)=true) (hc:(!f c)=true):[a,b,c].filter f=[]:=by
 have q:∀ {x:Bool},(!x)=true→x=false:=fun {x} h=>by cases x;rfl;cases h
 rw[List.filter_cons,q ha,List.filter_cons,q hb,List.filter_cons,q hc];rfl
theorem hz_all {lk:Look}:∀ {p:List Stmt},p.all (noRoadLS lk)=true→noRoadLSs lk p=true
 | [],_=>rfl
 | s::r,h=>by
  have h':=Bool.and_eq_true_iff.mp (h:(noRoadLS lk s&&r.all (noRoadLS lk))=true)
  have e:noRoadLSs lk (s::r)=(noRoadLS lk s&&noRoadLSs lk r):=rfl
  rw[e,h'.1,hz_all h'.2];rfl
noncomputable def hz_road (x:Str):Bool:=x.cps.toList.any (fun c=>c==123||c==125)||(x.cps.toList.any (·==46)&&!x.cps.toList.any (·≤32))
theorem hz_asg {lk:Look} {ts:List PySem.Expr} {x:Str} {a:Nat} {b p:Pos} (h:((lk.stores ts&&noRoadLs lk ts&&(underscores x||lk.word x))&& !hz_road x)=true):[Stmt.Assign ts (.Constant (.str x) a b) p].all (noRoadLS lk)=true:=by
 have h':=Bool.and_eq_true_iff.mp h
 have r:roadStr x=hz_road x:=by unfold roadStr hz_road;simp only[Array.any_toList]
 have q:[Stmt.Assign ts (.Constant (.str x) a b) p].all (noRoadLS lk)=(lk.stores ts&&noRoadLs lk ts&&((underscores x||lk.word x)&&(!roadStr x||(!x.endsWith ".__"&&!x.endsWith "._"&&(PySem.W.wordsOf x).all fun w=>underscores w||(lk.word w&&(lk.foot.isNone||lk.out.field w)&&(!w.opensWith "__"||w.endsWith "__"))))) && true):=rfl
 rw[q,r,h'.2,Bool.true_or,Bool.and_true,Bool.and_true];exact h'.1
theorem hz_cut (k:Nat) {f:Stmt→Bool} {p:List Stmt} (h1:(p.take k).all f=true) (h2:(p.drop k).all f=true):p.all f=true:=by
 rw[← List.take_append_drop k p,List.all_append,h1,h2];rfl
theorem hz_facts {K:Params→Frag} {as:List Addr} {n t:Nat} {w:World} {s:Shared} (y:obsZ as s=valZ K n t w) (e:∀ P,as=(K P).map (·.1)):AllIn s.heap (K w.params)∧InK K w s.heap∧s.heap.objs.size=n∧s.toks=t:=z_facts e y
end Mine.Internal
end
section
open PySem PySem.W PyProof.Rows
namespace Mine.Internal
def aR:Lean.Syntax:=.node .none ``Lean.Parser.Tactic.tacticSeq #[.node .none ``Lean.Parser.Tactic.tacticSeq1Indented #[.node .none `null #[.node .none ``Lean.Parser.Tactic.intros #[.atom .none "intros",.node .none `null #[]],.atom .none ";",.node .none ``Lean.Parser.Tactic.tacticRfl #[.atom .none "rfl"]]]]
theorem mA {α:Type} {a:α} {l:List α}:a∈a::l:=.head _
theorem mB {α:Type} {a b:α} {l:List α}:a∈b::a::l:=.tail _ mA
theorem mC {α:Type} {a b c:α} {l:List α}:a∈b::c::a::l:=.tail _ mB
theorem mD {α:Type} {a b c d:α} {l:List α}:a∈b::c::d::a::l:=.tail _ mC
theorem box {G:Prop} (f:∀ X:Prop,(G→X)→X):G:=f G id
noncomputable def dEs:Data→Array DictEntry
 | .dict es _=>es
 | _=>#[]
noncomputable def dEp:Data→Nat
 | .dict _ n=>n
 | _=>0
noncomputable def dFs:Data→Array Value
 | .fields vs=>vs
 | _=>#[]
noncomputable def isFs:Data→Bool
 | .fields _=>true
 | _=>false
theorem isFs_eq {d:Data} (h:isFs d=true):d=.fields (dFs d):=by
 cases d with
 | fields vs=>rfl
 | _=>cases h
noncomputable def dCls:Data→ClassData
 | .cls cd=>cd
 | _=>default
noncomputable def vRef:Value→Addr
 | .ref a=>a
 | _=>0
noncomputable def isS:Value→Bool
 | .str ..=>true
 | _=>false
theorem isS_eq {v:Value} (h:isS v=true):∃ n t,v=.str n t:=by
 cases v with
 | str n t=>exact⟨n,t,rfl⟩
 | _=>cases h
noncomputable abbrev PH:=Addr→Option Obj
noncomputable def Sub (Φ:PH) (h:Heap):Prop:=∀ a o,Φ a=some o→h.get? a=some o
noncomputable def PH.le (Φ Φ':PH):Prop:=∀ a o,Φ a=some o→Φ' a=some o
noncomputable def PH.put (Φ:PH) (a:Addr) (o:Obj):PH:=fun b=>if b=a then some o else Φ b
theorem PH.le.refl (Φ:PH):PH.le Φ Φ:=fun _ _ e=>e
theorem PH.le.trans {Φ₁ Φ₂ Φ₃:PH} (x:PH.le Φ₁ Φ₂) (y:PH.le Φ₂ Φ₃):PH.le Φ₁ Φ₃:=fun a o e=>y a o (x a o e)
theorem PH.put_self (Φ:PH) (a:Addr) (o:Obj):Φ.put a o a=some o:=by simp[PH.put]
theorem PH.put_other (Φ:PH) {a b:Addr} (o:Obj) (h:b≠a):Φ.put a o b=Φ b:=by simp[PH.put,h]
theorem PH.le_put {Φ:PH} {a:Addr} (o:Obj) (h:Φ a=none):PH.le Φ (Φ.put a o):=fun b o' e=>by
 by_cases hb:b=a
 ·subst hb;rw[h] at e;cases e
 ·rw[PH.put_other Φ o hb];exact e
inductive AV where
 | none
 | bool (b:Bool)
 | int (i:Int)
 | str (s:Str)
 | tup (xs:List AV)
 | lst (xs:List AV)
 | obj (C:Addr) (fs:List (Str × AV))
 | ref (a:Addr)
 | raw (v:Value)
 | sat (P:PH→Value→Prop)
noncomputable def isTup (o:Obj) (vs:Array Value):Prop:=∃ n,o={cls:=.type "tuple",data:=.seq vs n}
noncomputable def isLst (o:Obj) (vs:Array Value):Prop:=∃ n,o={cls:=.type "list",data:=.seq vs n}
theorem isTup.split {o:Obj} {vs:Array Value} (h:isTup o vs):o.cls=.type "tuple"∧∃ n,o.data=.seq vs n:=by
 obtain⟨n,rfl⟩:=h;exact⟨rfl,n,rfl⟩
theorem isLst.split {o:Obj} {vs:Array Value} (h:isLst o vs):o.cls=.type "list"∧o.dict=none∧∃ n,o.data=.seq vs n:=by
 obtain⟨n,rfl⟩:=h;exact⟨rfl,rfl,n,rfl⟩
mutual
noncomputable def Rep (Φ:PH):AV→Value→Prop
 | .none,v=>v=.none
 | .bool b,v=>v=.bool b
 | .int i,v=>∃ t,v=.int i t
 | .str s,v=>∃ t,v=.str s t
 | .tup xs,v=>∃ a o vs,v=.ref a∧Φ a=some o∧isTup o vs∧RepL Φ xs vs.toList
 | .lst xs,v=>∃ a o vs,v=.ref a∧Φ a=some o∧isLst o vs∧RepL Φ xs vs.toList
 | .obj C fs,v=>∃ a o d od es n,v=.ref a∧Φ a=some o∧o.cls=.ref C∧o.dict=some d∧o.data=.plain∧Φ d=some od∧od.data=.dict es n∧StrKeys es∧UniqKeys es∧RepF Φ fs (nsFind es)∧∀ x,x∉fs.map (·.1)→nsFind es x=none
 | .ref a,v=>v=.ref a
 | .raw u,v=>v=u
 | .sat P,v=>∃ Φ₀,PH.le Φ₀ Φ∧P Φ₀ v
noncomputable def RepL (Φ:PH):List AV→List Value→Prop
 | [],vs=>vs=[]
 | x::xs,vs=>∃ v ws,vs=v::ws∧Rep Φ x v∧RepL Φ xs ws
noncomputable def RepF (Φ:PH):List (Str × AV)→(Str→Option Value)→Prop
 | [],_=>True
 | x::xs,get=>(∃ v,get x.1=some v∧Rep Φ x.2 v)∧RepF Φ xs get
end
mutual
theorem Rep.mono {Φ Φ':PH} (h:PH.le Φ Φ'):∀ (x:AV) (v:Value),Rep Φ x v→Rep Φ' x v
 | .none,v,r=>r
 | .bool b,v,r=>r
 | .int i,v,r=>r
 | .str s,v,r=>r
 | .tup xs,v,r=>by
  obtain⟨a,o,vs,e,ho,ht,hl⟩:=r
  exact⟨a,o,vs,e,h _ _ ho,ht,RepL.mono h xs _ hl⟩
 | .lst xs,v,r=>by
  obtain⟨a,o,vs,e,ho,ht,hl⟩:=r
  exact⟨a,o,vs,e,h _ _ ho,ht,RepL.mono h xs _ hl⟩
 | .obj C fs,v,r=>by
  obtain⟨a,o,d,od,es,n,e,ho,h1,h2,h3,h4,h5,h6,h8,hl,h7⟩:=r
  exact⟨a,o,d,od,es,n,e,h _ _ ho,h1,h2,h3,h _ _ h4,h5,h6,h8,RepF.mono h fs _ hl,h7⟩
 | .ref a,v,r=>r
 | .raw u,v,r=>r
 | .sat P,v,r=>by
  obtain⟨Φ₀,l,p⟩:=r
  exact⟨Φ₀,l.trans h,p⟩
theorem RepL.mono {Φ Φ':PH} (h:PH.le Φ Φ'):∀ (xs:List AV) (vs:List Value),RepL Φ xs vs→RepL Φ' xs vs
 | [],vs,r=>r
 | x::xs,vs,r=>by
  obtain⟨v,ws,e,hx,hl⟩:=r
  exact⟨v,ws,e,Rep.mono h x v hx,RepL.mono h xs ws hl⟩
theorem RepF.mono {Φ Φ':PH} (h:PH.le Φ Φ'):∀ (xs:List (Str × AV)) (get:Str→Option Value),RepF Φ xs get→RepF Φ' xs get
 | [],get,r=>r
 | x::xs,get,r=>by
  obtain⟨⟨v,hv,hx⟩,hl⟩:=r
  exact⟨⟨v,hv,Rep.mono h x.2 v hx⟩,RepF.mono h xs get hl⟩
end
section
variable {Φ:PH}
theorem rep_int {i:Int} {t:Tok}:Rep Φ (.int i) (.int i t):=⟨_,rfl⟩
theorem rep_str {s:Str} {t:Tok}:Rep Φ (.str s) (.str s t):=⟨_,rfl⟩
theorem rep_bool {b:Bool}:Rep Φ (.bool b) (.bool b):=rfl
theorem rep_none:Rep Φ .none .none:=rfl
theorem rep_raw {v:Value}:Rep Φ (.raw v) v:=rfl
theorem rep_sat {P:PH→Value→Prop} {v:Value} (h:P Φ v):Rep Φ (.sat P) v:=by exact⟨Φ,PH.le.refl _,h⟩
theorem rep_ref {a:Addr}:Rep Φ (.ref a) (.ref a):=rfl
theorem repL_nil:RepL Φ [] []:=rfl
theorem repL_cons {x:AV} {xs:List AV} {v:Value} {vs:List Value} (h:Rep Φ x v) (hs:RepL Φ xs vs):RepL Φ (x::xs) (v::vs):=⟨v,vs,rfl,h,hs⟩
theorem repL_length:∀ {xs:List AV} {vs:List Value},RepL Φ xs vs→vs.length=xs.length
 | [],vs,r=>by replace r:_=_:=r;subst r;rfl
 | x::xs,vs,r=>by
  obtain⟨v,ws,e,_,hl⟩:=r
  subst e;simp[repL_length hl]
theorem repL_append:∀ {xs ys:List AV} {vs ws:List Value},RepL Φ xs vs→RepL Φ ys ws→RepL Φ (xs++ys) (vs++ws)
 | [],ys,vs,ws,r,q=>by replace r:_=_:=r;subst r;exact q
 | x::xs,ys,vs,ws,r,q=>by
  obtain⟨v,us,e,hx,hl⟩:=r
  subst e
  exact repL_cons hx (repL_append hl q)
theorem repL_get:∀ {xs:List AV} {vs:List Value} {i:Nat} {x:AV},RepL Φ xs vs→xs[i]?=some x→∃ v,vs[i]?=some v∧Rep Φ x v
 | [],vs,i,x,r,e=>by simp at e
 | y::xs,vs,0,x,r,e=>by
  obtain⟨v,us,e',hx,hl⟩:=r
  subst e'
  simp only[List.getElem?_cons_zero,Option.some.injEq] at e
  subst e
  exact⟨v,rfl,hx⟩
 | y::xs,vs,i+1,x,r,e=>by
  obtain⟨v,us,e',hx,hl⟩:=r
  subst e'
  simp only[List.getElem?_cons_succ] at e ⊢
  exact repL_get hl e
theorem repL_cons_inv {x:AV} {xs:List AV} {vs:List Value} (h:RepL Φ (x::xs) vs):∃ v ws,vs=v::ws∧Rep Φ x v∧RepL Φ xs ws:=h
@[elab_as_elim] theorem repL_cons_elim {x:AV} {xs:List AV} {motive:List Value→Prop} {vs:List Value} (h:RepL Φ (x::xs) vs) (k:∀ v ws,Rep Φ x v→RepL Φ xs ws→motive (v::ws)):motive vs:=
 Exists.elim h fun v h=>h.elim fun ws h=>h.1▸k v ws h.2.1 h.2.2
theorem memc {α:Type} {a b:α} {l:List α} (h:b∈a::l):a=b∨b∈l:=(List.mem_cons.mp h).imp Eq.symm id
theorem sw {α β:Type} {a b:α} {c d:β} {R:Prop} (h:(a=b∧c=d)∨R):(b=a∧d=c)∨R:=h.imp (fun e=>⟨e.1.symm,e.2.symm⟩) id
theorem sw3 {α:Type} {c x y z:α} (h:c=x∨c=y∨c=z):x=c∨y=c∨z=c:=h.imp Eq.symm fun h=>h.imp Eq.symm Eq.symm
theorem sw2 {α:Type} {c x y:α} (h:c=x∨c=y):x=c∨y=c:=h.imp Eq.symm Eq.symm
theorem repL_nil_inv {vs:List Value} (h:RepL Φ [] vs):vs=[]:=h
theorem repL_take:∀ {xs:List AV} {vs:List Value} (n:Nat),RepL Φ xs vs→RepL Φ (xs.take n) (vs.take n)
 | xs,vs,0,r=>by simpa using repL_nil
 | [],vs,n+1,r=>by have:=repL_nil_inv r;subst this;simpa using repL_nil
 | x::xs,vs,n+1,r=>by
  obtain⟨v,ws,rfl,hx,hl⟩:=repL_cons_inv r
  simpa using repL_cons hx (repL_take n hl)
end
noncomputable def tabs:List Addr:=[133,140,271,278]
noncomputable def KB (w:World):Frag:=(Mine.Internal.hd.heap_407 w.params).filter fun p=>!(tabs.contains p.1)
noncomputable abbrev PR:Program:=PySem.Challenge.rw_yj0036_01.row.prog
noncomputable def No:Value→Shared→Prop:=fun _ _=>False
noncomputable abbrev W {α:Type} (w:World) (A:Around) (t:Sem α) (Q:α→Shared→Prop) (s:Shared):Prop:=wpAny (model PR w) A t Q No s
theorem W.mono {α:Type} {w:World} {A:Around} {t:Sem α} {Q Q':α→Shared→Prop} {s:Shared} (h:W w A t Q s) (hQ:∀ a s,Q a s→Q' a s):W w A t Q' s:=
 wpAny_mono h hQ fun _ _ e=>e
structure Room (d:Nat) (A:Around):Prop where
 hd:A.handled=none
 depth:A.depth+d≤900
 units:A.units+8*d≤9000
 pos:0<d
theorem Room.lt {d:Nat} {A:Around} (r:Room d A):A.depth<recursionLimit:=by
 have:=r.depth;have:=r.pos;show A.depth<1000;lia
theorem Room.c {d:Nat} {A:Around} (r:Room d A):A.units<cLine:=by
 have:=r.units;have:=r.pos;show A.units<9900;lia
theorem Room.in1 {d:Nat} {A:Around} (r:Room (d+1) A) (hd:0<d):Room d A.in1:=
 ⟨r.hd,by have:=r.depth;show A.depth+d≤900;lia,by have:=r.units;show A.units+1+8*d≤9000;lia,hd⟩
theorem Room.deeper {d:Nat} {A:Around} {env:Env} (r:Room (d+1) A) (hd:0<d):Room d (A.deeper env):=
 ⟨r.hd,by have:=r.depth;simp only[Around.deeper];lia,by have:=r.units;simp only[Around.deeper_units];lia,hd⟩
end Mine.Internal
end
section
open PySem PySem.W PyProof.Rows
namespace Mine.Internal
structure Glob where
 w:World
 os:OsState
noncomputable def Bins (Φ:PH):Prop:=∃ o es ep,Φ builtinsNs=some o∧o.data=.dict es ep∧StrKeys es∧∀ x:Str,x≠"__name__"→nsFind es x=bootBuiltins x
noncomputable def IsCodeAt (Φ:PH) (v:Value) (q:Str):Prop:=∃ c o vs t,v=.ref c∧Φ c=some o∧o.data=.fields vs∧vs[1]?=some (.str q t)
noncomputable def tabRow (P:Addr):Int × Int × Str:=
 if P=133 then(109,4,{cps:={toList:=[95,105,110,116,50,100,105,103,105,116,115,46,60,108,111,99,97,108,115,62,46,105,110,110,101,114]}})
 else if P=140 then(124,4,{cps:={toList:=[95,100,105,103,105,116,115,50,105,110,116,46,60,108,111,99,97,108,115,62,46,105,110,110,101,114]}})
 else if P=271 then(231,19,{cps:={toList:=[95,65,99,99,117,109,117,108,97,116,111,114,46,95,95,108,101,110,95,95,46,60,108,111,99,97,108,115,62,46,60,103,101,110,101,120,112,114,62]}})
 else(234,32,{cps:={toList:=[95,65,99,99,117,109,117,108,97,116,111,114,46,95,95,115,116,114,95,95,46,60,108,111,99,97,108,115,62,46,60,103,101,110,101,120,112,114,62]}})
noncomputable def TabOk (Φ:PH) (h:Heap) (P:Addr):Prop:=
 ∃ vs:List Value,h.get? P=some {cls:=.none,data:=.fields vs.toArray} ∧
  (vs=[]∨∃ c,vs=[rawInt (tabRow P).1,rawInt (tabRow P).2.1,c]∧IsCodeAt Φ c (tabRow P).2.2)
structure Hp (g:Glob) (Φ Ψ:PH) (s:Shared):Prop where
 k:∀ a o,(KB g.w).lookup a=some o→Φ a=some o
 b:Bins Φ
 fr:Sub Φ s.heap
 mu:Sub Ψ s.heap
 dis:∀ a,Φ a=none∨Ψ a=none
 tab:∀ P∈tabs,Φ P=none∧Ψ P=none∧TabOk Φ s.heap P
 gens:AllBare s.gens
 os:s.os=g.os
theorem IsCodeAt.mono {Φ Φ':PH} (h:PH.le Φ Φ') {v:Value} {q:Str} (x:IsCodeAt Φ v q):IsCodeAt Φ' v q:=
 x.imp fun c x=>x.imp fun o x=>x.imp fun vs x=>x.imp fun t x=>⟨x.1,h _ _ x.2.1,x.2.2⟩
theorem TabOk.mono {Φ Φ':PH} (h:PH.le Φ Φ') {hp hp':Heap} {P:Addr} (e:hp'.get? P=hp.get? P) (x:TabOk Φ hp P):TabOk Φ' hp' P:=by
 obtain⟨vs,h1,h2⟩:=x
 refine⟨vs,e.trans h1,?_⟩
 rcases h2 with h2 | ⟨c,h2,h3⟩
 ·exact .inl h2
 ·exact .inr ⟨c,h2,h3.mono h⟩
theorem Bins.mono {Φ Φ':PH} (h:PH.le Φ Φ') (x:Bins Φ):Bins Φ':=
 let ⟨o,es,ep,e,r⟩:=x;⟨o,es,ep,h _ _ e,r⟩
section
variable {g:Glob} {Φ Ψ:PH} {s:Shared}
theorem get_new (h:Heap):h.get? h.objs.size=none:=by
 cases q:h.get? h.objs.size with
 | none=>rfl
 | some o=>exact absurd (Heap.lt_size q) (Nat.lt_irrefl _)
theorem Hp.freshΦ (x:Hp g Φ Ψ s):Φ s.heap.objs.size=none:=by
 cases q:Φ s.heap.objs.size with
 | none=>rfl
 | some o=>have:=x.fr _ _ q;rw[get_new] at this;cases this
theorem Hp.freshΨ (x:Hp g Φ Ψ s):Ψ s.heap.objs.size=none:=by
 cases q:Ψ s.heap.objs.size with
 | none=>rfl
 | some o=>have:=x.mu _ _ q;rw[get_new] at this;cases this
theorem Hp.tok (x:Hp g Φ Ψ s) (t:Nat):Hp g Φ Ψ {s with toks:=t}:=⟨x.k,x.b,x.fr,x.mu,x.dis,x.tab,x.gens,x.os⟩
theorem get_push_old {h:Heap} {o:Obj} {a:Addr} (ha:a≠h.objs.size) (hs:(h.get? a).isSome=true):(h.push o).get? a=h.get? a:=by
 cases q:h.get? a with
 | none=>rw[q] at hs;cases hs
 | some o'=>exact Heap.get?_push_of_some _ q
theorem Hp.tabNe (x:Hp g Φ Ψ s) {P:Addr} (hP:P∈tabs):P≠s.heap.objs.size∧(s.heap.get? P).isSome=true:=by
 obtain⟨vs,e,_⟩:=(x.tab P hP).2.2
 exact⟨Nat.ne_of_lt (Heap.lt_size e),by rw[e];rfl⟩
theorem Hp.allocΦ (x:Hp g Φ Ψ s) {o:Obj} (hf:o.isFreed=false):Hp g (Φ.put s.heap.objs.size o) Ψ {s with heap:=s.heap.push o}:=by
 refine⟨fun a o' e=>?_,x.b.mono (PH.le_put o x.freshΦ),fun a o' e=>?_,fun a o' e=>Heap.get?_push_of_some _ (x.mu a o' e),fun a=>?_,fun P hP=>?_,x.gens,x.os⟩
 ·exact PH.le_put o x.freshΦ _ _ (x.k a o' e)
 ·by_cases ha:a=s.heap.objs.size
  ·subst ha;rw[PH.put_self] at e;cases e;exact Heap.get?_push_size _ hf
  ·rw[PH.put_other Φ o ha] at e;exact Heap.get?_push_of_some _ (x.fr a o' e)
 ·by_cases ha:a=s.heap.objs.size
  ·subst ha;exact .inr x.freshΨ
  ·rw[PH.put_other Φ o ha];exact x.dis a
 ·obtain⟨h1,h2⟩:=x.tabNe hP
  exact⟨by rw[PH.put_other Φ o h1];exact(x.tab P hP).1,(x.tab P hP).2.1,(x.tab P hP).2.2.mono (PH.le_put o x.freshΦ) (get_push_old h1 h2)⟩
theorem Hp.allocΨ (x:Hp g Φ Ψ s) {o:Obj} (hf:o.isFreed=false):Hp g Φ (Ψ.put s.heap.objs.size o) {s with heap:=s.heap.push o}:=by
 refine⟨x.k,x.b,fun a o' e=>Heap.get?_push_of_some _ (x.fr a o' e),fun a o' e=>?_,fun a=>?_,fun P hP=>?_,x.gens,x.os⟩
 ·by_cases ha:a=s.heap.objs.size
  ·subst ha;rw[PH.put_self] at e;cases e;exact Heap.get?_push_size _ hf
  ·rw[PH.put_other Ψ o ha] at e;exact Heap.get?_push_of_some _ (x.mu a o' e)
 ·by_cases ha:a=s.heap.objs.size
  ·subst ha;exact .inl x.freshΦ
  ·rw[PH.put_other Ψ o ha];exact x.dis a
 ·obtain⟨h1,h2⟩:=x.tabNe hP
  exact⟨(x.tab P hP).1,by rw[PH.put_other Ψ o h1];exact(x.tab P hP).2.1,(x.tab P hP).2.2.mono (PH.le.refl _) (get_push_old h1 h2)⟩
theorem Hp.allocX (x:Hp g Φ Ψ s) (o:Obj):Hp g Φ Ψ {s with heap:=s.heap.push o}:=by
 refine⟨x.k,x.b,fun a o' e=>Heap.get?_push_of_some _ (x.fr a o' e),fun a o' e=>Heap.get?_push_of_some _ (x.mu a o' e),x.dis,fun P hP=>?_,x.gens,x.os⟩
 obtain⟨h1,h2⟩:=x.tabNe hP
 exact⟨(x.tab P hP).1,(x.tab P hP).2.1,(x.tab P hP).2.2.mono (PH.le.refl _) (get_push_old h1 h2)⟩
theorem Hp.weaken (x:Hp g Φ Ψ s) {Ψ':PH} (h:PH.le Ψ' Ψ):Hp g Φ Ψ' s:=by
 refine⟨x.k,x.b,x.fr,fun a o e=>x.mu a o (h a o e),fun a=>?_,fun P hP=>⟨(x.tab P hP).1,?_,(x.tab P hP).2.2⟩,x.gens,x.os⟩
 ·rcases x.dis a with e | e
  ·exact .inl e
  ·refine .inr ?_
   cases q:Ψ' a with
   | none=>rfl
   | some o=>rw[h a o q] at e;cases e
 ·cases q:Ψ' P with
  | none=>rfl
  | some o=>have:=(x.tab P hP).2.1;rw[h P o q] at this;cases this
theorem Hp.same (x:Hp g Φ Ψ s) {a:Addr} {o o':Obj} {h':Heap} (ha:Ψ a=some o) (hs:Heap.SameBut a s.heap h') (ho:h'.get? a=some o'):Hp g Φ (Ψ.put a o') {s with heap:=h'}:=by
 have hΦ:Φ a=none:=(x.dis a).resolve_right (by rw[ha];exact fun e=>nomatch e)
 refine⟨x.k,x.b,fun b ob e=>?_,fun b ob e=>?_,fun b=>?_,fun P hP=>?_,x.gens,x.os⟩
 ·have hb:b≠a:=fun q=>by rw[q,hΦ] at e;cases e
  exact(hs.2 b hb).trans (x.fr b ob e)
 ·by_cases hb:b=a
  ·subst hb;rw[PH.put_self] at e;cases e;exact ho
  ·rw[PH.put_other Ψ o' hb] at e;exact(hs.2 b hb).trans (x.mu b ob e)
 ·by_cases hb:b=a
  ·subst hb;exact .inl hΦ
  ·rw[PH.put_other Ψ o' hb];exact x.dis b
 ·have hb:P≠a:=fun q=>by have:=(x.tab P hP).2.1;rw[q,ha] at this;cases this
  exact⟨(x.tab P hP).1,by rw[PH.put_other Ψ o' hb];exact(x.tab P hP).2.1,(x.tab P hP).2.2.mono (PH.le.refl _) (hs.2 P hb)⟩
theorem Hp.update (x:Hp g Φ Ψ s) {a:Addr} {o:Obj} {f:Obj→Obj} (ha:Ψ a=some o) (hf:(f o).isFreed=false):Hp g Φ (Ψ.put a (f o)) {s with heap:=s.heap.update a f}:=
 x.same ha (Heap.SameBut.update ..) (Heap.get?_update_self f (x.mu _ _ ha) hf)
noncomputable def PH.drop (Ψ:PH) (a:Addr):PH:=fun b=>if b=a then none else Ψ b
theorem PH.drop_le (Ψ:PH) (a:Addr):PH.le (Ψ.drop a) Ψ:=fun b o e=>by
 unfold PH.drop at e
 by_cases h:b=a
 ·rw[if_pos h] at e;cases e
 ·rw[if_neg h] at e;exact e
theorem PH.drop_other (Ψ:PH) {a b:Addr} (h:b≠a):Ψ.drop a b=Ψ b:=by simp[PH.drop,h]
theorem Hp.freeze (x:Hp g Φ Ψ s) {a:Addr} {o:Obj} (ha:Ψ a=some o):Hp g (Φ.put a o) (Ψ.drop a) s:=by
 have hΦ:Φ a=none:=(x.dis a).resolve_right (by rw[ha];exact fun e=>nomatch e)
 have y:=x.weaken (PH.drop_le Ψ a)
 refine⟨fun b ob e=>PH.le_put o hΦ _ _ (x.k b ob e),x.b.mono (PH.le_put o hΦ),fun b ob e=>?_,y.mu,fun b=>?_,fun P hP=>?_,x.gens,x.os⟩
 ·by_cases hb:b=a
  ·subst hb;rw[PH.put_self] at e;cases e;exact x.mu _ _ ha
  ·rw[PH.put_other Φ o hb] at e;exact x.fr b ob e
 ·by_cases hb:b=a
  ·subst hb;exact .inr (by simp[PH.drop])
  ·rw[PH.put_other Φ o hb];exact y.dis b
 ·have hb:P≠a:=fun q=>by have:=(x.tab P hP).2.1;rw[q,ha] at this;cases this
  exact⟨by rw[PH.put_other Φ o hb];exact(x.tab P hP).1,(y.tab P hP).2.1,(x.tab P hP).2.2.mono (PH.le_put o hΦ) rfl⟩
theorem Hp.getΦ (x:Hp g Φ Ψ s) {a:Addr} {o:Obj} (e:Φ a=some o):s.heap.get? a=some o:=x.fr a o e
theorem Hp.getΨ (x:Hp g Φ Ψ s) {a:Addr} {o:Obj} (e:Ψ a=some o):s.heap.get? a=some o:=x.mu a o e
theorem Hp.kin (x:Hp g Φ Ψ s):(KB g.w).In s.heap:=fun a o e=>x.fr a o (x.k a o e)
end
inductive OV where
 | lst (xs:List AV)
 | sub (C d:Addr) (xs:List AV)
 | dict (fs:List (Str × AV))
noncomputable def RepO (Φ:PH):OV→Obj→Prop
 | .lst xs,o=>∃ vs,isLst o vs∧RepL Φ xs vs.toList
 | .sub C d xs,o=>o.cls=.ref C∧o.dict=some d∧∃ vs n,o.data=.seq vs n∧RepL Φ xs vs.toList
 | .dict fs,o=>∃ es n,o.data=.dict es n∧StrKeys es∧UniqKeys es∧RepF Φ fs (nsFind es)∧∀ x,x∉fs.map (·.1)→nsFind es x=none
theorem RepO.mono {Φ Φ':PH} (h:PH.le Φ Φ'):∀ (ov:OV) (o:Obj),RepO Φ ov o→RepO Φ' ov o:=by
 intro ov o q
 cases ov with
 | lst xs=>exact q.imp fun vs q=>⟨q.1,RepL.mono h _ _ q.2⟩
 | sub C d xs=>exact⟨q.1,q.2.1,q.2.2.imp fun vs q=>q.imp fun n q=>⟨q.1,RepL.mono h _ _ q.2⟩⟩
 | dict fs=>
  obtain⟨es,n,e,k,u,r,z⟩:=q
  exact⟨es,n,e,k,u,RepF.mono h _ _ r,z⟩
theorem RepO.nf {Φ:PH}:∀ (ov:OV) (o:Obj),RepO Φ ov o→∀ vs,o.data≠.fields vs:=by
 intro ov o h ws q
 cases ov with
 | lst xs=>
  obtain⟨vs,h,_⟩:=h
  obtain⟨n,e⟩:=h
  rw[e] at q;cases q
 | sub C d xs=>
  obtain⟨vs,n,e,_⟩:=h.2.2
  cases e.symm.trans q
 | dict fs=>
  obtain⟨es,n,e,_⟩:=h
  cases e.symm.trans q
noncomputable abbrev Ow:=List (Addr × OV)
theorem noO {α β:Type} [BEq α] {P:α→β→Prop} (b:α) (ov:β) (q:List.lookup b ([]:List (α × β))=some ov):P b ov:=by cases q
theorem noM {P:Addr→Prop} (b:Addr) (q:b∈([]:List Addr)):P b:=by cases q
structure Sig where
 vars:List (Str × AV)
 own:Ow:=[]
 frz:List Str:=[]
 mt:List Addr:=[]
noncomputable abbrev Sig.ow (σ:Sig) (o:Ow) (m:List Addr):Sig:=⟨σ.vars,o,σ.frz,m⟩
noncomputable def Sig.put (σ:Sig) (x:Str) (av:AV):Sig:=⟨(x,av)::σ.vars,σ.own,σ.frz,σ.mt⟩
noncomputable abbrev Sig.set (σ:Sig) (a:Addr) (ov:OV):Sig:=⟨σ.vars,(a,ov)::σ.own,σ.frz,σ.mt⟩
inductive OwnAt (Φ Ψ:PH) (a:Addr) (ov:OV):Prop
 | mk (o:Obj) (e:Ψ a=some o) (r:RepO Φ ov o)
noncomputable def Owns (Φ Ψ:PH) (ω:Ow):Prop:=∀ a ov,ω.lookup a=some ov→OwnAt Φ Ψ a ov
theorem Owns.mono {Φ Φ' Ψ:PH} {ω:Ow} (h:PH.le Φ Φ') (x:Owns Φ Ψ ω):Owns Φ' Ψ ω:=fun a ov e=>let ⟨o,p,r⟩:=x a ov e;⟨o,p,r.mono h⟩
theorem Owns.nil {Φ Ψ:PH}:Owns Φ Ψ []:=fun a ov e=>by simp at e
structure EnvOk (sc:Scope) (env:Env):Prop where
 scE:env.scope=sc
 gl:env.globals=mainGlobals
 bi:env.builtins=builtinsNs
 kd:sc.kind=.function
noncomputable def kindIn (sc:Scope) (x:Str):Option NameKind:=sc.names.lookup x
theorem EnvOk.kind {sc:Scope} {env:Env} (h:EnvOk sc env) (x:Str):env.kindOf x=kindIn sc x:=by unfold Env.kindOf kindIn;rw[h.scE]
inductive LocIn (sc:Scope) (env:Env) (Ψ:PH) (fr:Str→Option Value):Prop
 | mk (o:Obj) (es:Array DictEntry) (ep:Nat) (e:Ψ env.locals=some o) (h1:o.data=.dict es ep) (h2:StrKeys es) (h3:∀ x,kindIn sc x=some .local→nsFind es x=fr x)
inductive CelIn (env:Env) (Φ Ψ:PH) (v:Option Value) (x:Str):Prop
 | mk (c:Addr) (o:Obj) (e:env.cells.lookup x=some c) (z:Φ c=some o∨Ψ c=some o) (h:o.data=.cell v)
structure FrameIn (sc:Scope) (env:Env) (Φ Ψ:PH) (fr:Str→Option Value):Prop where
 loc:LocIn sc env Ψ fr
 cel:∀ x,kindIn sc x=some .cell∨kindIn sc x=some .free→CelIn env Φ Ψ (fr x) x
theorem FrameIn.mono {sc:Scope} {env:Env} {Φ Φ' Ψ:PH} {fr:Str→Option Value} (h:PH.le Φ Φ') (x:FrameIn sc env Φ Ψ fr):FrameIn sc env Φ' Ψ fr:=
 ⟨x.loc,fun y k=>let ⟨c,o,e,z,r⟩:=x.cel y k;⟨c,o,e,z.imp (h _ _) id,r⟩⟩
noncomputable def varKind (sc:Scope) (x:Str):Bool:=match kindIn sc x with
 | some .local | some .cell=>true
 | some .free=>!(x==("__classdict__":Str))
 | _=>false
inductive VarIn (sc:Scope) (Φ:PH) (fr:Str→Option Value) (x:Str) (av:AV):Prop
 | mk (k:varKind sc x=true) (v:Value) (e:fr x=some v) (r:Rep Φ av v)
noncomputable def Vars (sc:Scope) (Φ:PH) (fr:Str→Option Value) (vs:List (Str × AV)):Prop:=
 ∀ x av,vs.lookup x=some av→VarIn sc Φ fr x av
theorem Vars.mono {sc:Scope} {Φ Φ':PH} {fr:Str→Option Value} {σ:List (Str × AV)} (h:PH.le Φ Φ') (x:Vars sc Φ fr σ):Vars sc Φ' fr σ:=
 fun y av e=>let ⟨k,v,hv,r⟩:=x y av e;⟨k,v,hv,Rep.mono h _ _ r⟩
inductive PreFr (sc:Scope) (env:Env) (Φ Ψ:PH) (vs:List (Str × AV)):Prop
 | mk (fr:Str→Option Value) (hf:FrameIn sc env Φ Ψ fr) (hv:Vars sc Φ fr vs)
structure Pre (g:Glob) (sc:Scope) (σ:Sig) (env:Env) (Φ Ψ:PH) (s:Shared):Prop where
 ev:EnvOk sc env
 hp:Hp g Φ Ψ s
 fr:PreFr sc env Φ Ψ σ.vars
 own:Owns Φ Ψ σ.own
theorem Pre.next {g:Glob} {sc:Scope} {σ:Sig} {env:Env} {Φ Φ' Ψ:PH} {s s':Shared} (x:Pre g sc σ env Φ Ψ s) (h:PH.le Φ Φ') (y:Hp g Φ' Ψ s'):Pre g sc σ env Φ' Ψ s':=
 ⟨x.ev,y,let ⟨fr,a,b⟩:=x.fr;⟨fr,a.mono h,b.mono h⟩,x.own.mono h⟩
inductive Ret (g:Glob) (Φ Ψ:PH) (av:AV) (v:Value) (s:Shared):Prop
 | mk (Φ':PH) (l:PH.le Φ Φ') (h:Hp g Φ' Ψ s) (r:Rep Φ' av v)
inductive RetL (g:Glob) (Φ Ψ:PH) (avs:List AV) (vs:List Value) (s:Shared):Prop
 | mk (Φ':PH) (l:PH.le Φ Φ') (h:Hp g Φ' Ψ s) (r:RepL Φ' avs vs)
inductive RetB (g:Glob) (Φ Ψ:PH) (b c:Bool) (s:Shared):Prop
 | mk (e:c=b) (Φ':PH) (l:PH.le Φ Φ') (h:Hp g Φ' Ψ s)
noncomputable def Ev (g:Glob) (d:Nat) (sc:Scope) (σ:Sig) (e:PySem.Expr) (av:AV):Prop:=
 ∀ A env Φ Ψ s,Room d A→Pre g sc σ env Φ Ψ s→W g.w A (eval e env) (Ret g Φ Ψ av) s
noncomputable def Ts (g:Glob) (d:Nat) (sc:Scope) (σ:Sig) (e:PySem.Expr) (b:Bool):Prop:=
 ∀ A env Φ Ψ s,Room d A→Pre g sc σ env Φ Ψ s→W g.w A (isTrue e env (eval e env)) (RetB g Φ Ψ b) s
theorem Ev.as {g:Glob} {d:Nat} {sc:Scope} {σ:Sig} {x:PySem.Expr} {a b:AV} (e:a=b) (h:Ev g d sc σ x a):Ev g d sc σ x b:=e▸h
theorem Ev.asI {g:Glob} {d:Nat} {sc:Scope} {σ:Sig} {x:PySem.Expr} {a b:Int} (e:a=b) (h:Ev g d sc σ x (.int a)):Ev g d sc σ x (.int b):=e▸h
theorem Ev.sa {g:Glob} {d:Nat} {sc:Scope} {σ:Sig} {x:PySem.Expr} {a b:AV} (e:b=a) (h:Ev g d sc σ x a):Ev g d sc σ x b:=e▸h
theorem Ev.saI {g:Glob} {d:Nat} {sc:Scope} {σ:Sig} {x:PySem.Expr} {a b:Int} (e:b=a) (h:Ev g d sc σ x (.int a)):Ev g d sc σ x (.int b):=e▸h
theorem Ts.as {g:Glob} {d:Nat} {sc:Scope} {σ:Sig} {x:PySem.Expr} {a b:Bool} (e:a=b) (h:Ts g d sc σ x a):Ts g d sc σ x b:=e▸h
noncomputable def Fn (g:Glob) (d:Nat) (ω:Ow) (f:Value) (args:List AV) (kw:List (Str × AV)) (av:AV):Prop:=
 ∀ A Φ Ψ s vs ks,Room d A→Hp g Φ Ψ s→Owns Φ Ψ ω→RepL Φ args vs→ks.map (·.1)=kw.map (·.1)→RepL Φ (kw.map (·.2)) (ks.map (·.2))→W g.w A (call f vs ks) (Ret g Φ Ψ av) s
noncomputable def Op2 (g:Glob) (d:Nat) (op:Value→Value→Sem Value) (a b c:AV):Prop:=
 ∀ A Φ Ψ s v u,Room d A→Hp g Φ Ψ s→Rep Φ a v→Rep Φ b u→W g.w A (op v u) (Ret g Φ Ψ c) s
section
variable {g:Glob} {d:Nat} {sc:Scope} {σ:Sig}
theorem Ret.intro {Φ Ψ:PH} {av:AV} {v:Value} {s':Shared} (h:Hp g Φ Ψ s') (r:Rep Φ av v):Ret g Φ Ψ av v s':=⟨Φ,PH.le.refl _,h,r⟩
theorem Ret.up {Φ Φ' Ψ:PH} {av:AV} {v:Value} {s':Shared} (h:PH.le Φ Φ') (r:Ret g Φ' Ψ av v s'):Ret g Φ Ψ av v s':=
 let ⟨Φ₂,a,b,c⟩:=r;⟨Φ₂,h.trans a,b,c⟩
theorem Ev.int (i:Int) {k:Nat} {p:Pos}:Ev g d sc σ (.Constant (.int i) k p) (.int i):=fun _ _ _ _ _ _ x=>
 wpAny_Constant_int (Ret.intro (x.hp.tok _) rep_int)
theorem Ev.str (i:Str) {k:Nat} {p:Pos}:Ev g d sc σ (.Constant (.str i) k p) (.str i):=fun _ _ _ _ _ _ x=>
 wpAny_Constant_str (Ret.intro (x.hp.tok _) rep_str)
theorem Ev.bool (i:Bool) {k:Nat} {p:Pos}:Ev g d sc σ (.Constant (.bool i) k p) (.bool i):=fun _ _ _ _ _ _ x=>
 wpAny_Constant_bool (Ret.intro x.hp rep_bool)
theorem Ev.none {k:Nat} {p:Pos}:Ev g d sc σ (.Constant .none k p) .none:=fun _ _ _ _ _ _ x=>
 wpAny_Constant_none (Ret.intro x.hp rep_none)
theorem wp_local {A:Around} {env:Env} {x:Str} {Ψ Φ:PH} {fr:Str→Option Value} {s:Shared} {v:Value} {Q:Value→Shared→Prop} {w:World} (he:EnvOk sc env) (hp:Hp g Φ Ψ s) (hf:FrameIn sc env Φ Ψ fr)
  (hk:varKind sc x=true) (hv:fr x=some v) (h:Q v s):W w A (loadName env x) Q s:=by
 have hkd:env.scope.kind=.function:=by rw[he.scE];exact he.kd
 have hk0:=he.kind x
 unfold varKind at hk
 generalize hq:kindIn sc x=q at hk hk0
 cases q with
 | none=>cases hk
 | some q=>
  cases q with
  | «local»=>
   let ⟨o,es,ep,h1,h2,h3,h4⟩:=hf.loc
   exact wpAny_loadName_local hkd hk0 ⟨o,es,ep,hp.getΨ h1,h2,h3,fun _=>rfl⟩ ((h4 x hq).trans hv) h
  | cell=>
   let ⟨c,o,h1,h2,h3⟩:=hf.cel x (.inl hq)
   exact wpAny_loadName_cell hkd hk0 h1 ⟨o,h2.elim hp.getΦ hp.getΨ,hv▸h3⟩ h
  | free=>
   let ⟨c,o,h1,h2,h3⟩:=hf.cel x (.inr hq)
   exact wpAny_loadName_free hkd hk0 h1 ⟨o,h2.elim hp.getΦ hp.getΨ,hv▸h3⟩ h (by simpa using hk)
  | _=>cases hk
end
end Mine.Internal
end
section
open PySem PySem.W PySem.Calls PyProof.Rows
namespace Mine.Internal
section
variable {g:Glob} {d:Nat} {sc:Scope} {σ:Sig} {ω:Ow}
theorem Ev.run {e:PySem.Expr} {av:AV} {A:Around} {env:Env} {Φ Ψ:PH} {s:Shared} {Q:Value→Shared→Prop} (h:Ev g d sc σ e av) (r:Room d A) (x:Pre g sc σ env Φ Ψ s)
  (k:∀ Φ' v s',PH.le Φ Φ'→Pre g sc σ env Φ' Ψ s'→Rep Φ' av v→Q v s'):W g.w A (eval e env) Q s:=
 (h A env Φ Ψ s r x).mono fun v s' q0=>q0.casesOn fun Φ' l hp rp=>k Φ' v s' l (x.next l hp) rp
theorem Ts.run {e:PySem.Expr} {b:Bool} {A:Around} {env:Env} {Φ Ψ:PH} {s:Shared} {Q:Bool→Shared→Prop} (h:Ts g d sc σ e b) (r:Room d A) (x:Pre g sc σ env Φ Ψ s)
  (k:∀ Φ' s',PH.le Φ Φ'→Pre g sc σ env Φ' Ψ s'→Q b s'):W g.w A (isTrue e env (eval e env)) Q s:=
 (h A env Φ Ψ s r x).mono fun v s' q0=>q0.casesOn fun e Φ' l hp=>e▸k Φ' s' l (x.next l hp)
theorem RetB.up {Φ Φ' Ψ:PH} {b c:Bool} {s':Shared} (h:PH.le Φ Φ') (r:RetB g Φ' Ψ b c s'):RetB g Φ Ψ b c s':=
 let ⟨e,Φ₂,a,x⟩:=r;⟨e,Φ₂,h.trans a,x⟩
theorem Ev.name {x:Str} {p:Pos} {av:AV} (h:σ.vars.lookup x=some av) (hd:(x==("__debug__":Str))=false:=by decide):Ev g d sc σ (.Name x p) av:=fun A env Φ Ψ s r pr=>by
 obtain⟨fr,hf,hv⟩:=pr.fr
 obtain⟨hk,v,hx,rp⟩:=hv x av h
 exact wpAny_Name (wp_local pr.ev pr.hp hf hk hx (Ret.intro pr.hp rp)) hd
noncomputable def strKeysB (es:Array DictEntry):Bool:=es.toList.all fun e=>isS e.key
theorem strKeys_of {es:Array DictEntry} (h:strKeysB es=true):StrKeys es:=fun e he=>isS_eq (List.all_eq_true.mp h e (Array.mem_toList_iff.mpr he))
noncomputable def globK (w:World) (x:Str):Option (Option Value):=some (nsFind (dEs (Mine.Internal.hd.zo_42 w.params).data) x)
theorem globH {w:World} {h:Heap} (hk:(KB w).In h) {x:Str} {v:Option Value} (e:globK w x=some v):∃ mg,h.Ns mainGlobals mg∧mg x=v:=
 ⟨nsFind (dEs (Mine.Internal.hd.zo_42 w.params).data),⟨Mine.Internal.hd.zo_42 w.params,dEs (Mine.Internal.hd.zo_42 w.params).data,dEp (Mine.Internal.hd.zo_42 w.params).data,hk _ _ (by kernel_rfl),rfl,strKeys_of (by kernel_rfl),fun _=>rfl⟩,Option.some.inj e⟩
theorem globK_at {Φ Ψ:PH} {s:Shared} (hp:Hp g Φ Ψ s) {x:Str} {v:Option Value} (h:globK g.w x=some v):∃ mg,s.heap.Ns mainGlobals mg∧mg x=v:=globH hp.kin h
theorem loadGlobK {A:Around} {env:Env} {s:Shared} {x:Str} {Q:Value→Shared→Prop} (he:EnvOk sc env) (hk:kindIn sc x=some .globalImplicit) (h:wpAny (model PR g.w) A (loadGlobal env x) Q No s):W g.w A (loadName env x) Q s:=by
 rw[loadName_read (by rw[he.scE];exact he.kd) ((he.kind x).trans hk)]
 exact h
theorem Ev.glob {x:Str} {p:Pos} {v:Value} {av:AV} (hk:kindIn sc x=some .globalImplicit) (h:globK g.w x=some (some v)) (hr:∀ Φ,Rep Φ av v) (hd:(x==("__debug__":Str))=false:=by decide) :
  Ev g d sc σ (.Name x p) av:=fun A env Φ Ψ s r pr=>by
 obtain⟨mg,hg,hv⟩:=globK_at pr.hp h
 refine wpAny_Name (loadGlobK pr.ev hk ?_) hd
 refine Calls.loadGlobal_global (mg:=mg) (by rw[pr.ev.gl];exact hg) hv (Ret.intro pr.hp (hr _))
theorem Ev.bi {x:Str} {p:Pos} {v:Value} (hk:kindIn sc x=some .globalImplicit) (h:globK g.w x=some Option.none) (hb:bootBuiltins x=some v) (hn:x≠"__name__":=by decide) (hd:(x==("__debug__":Str))=false:=by decide) :
  Ev g d sc σ (.Name x p) (.raw v):=fun A env Φ Ψ s r pr=>by
 refine box fun bX bk=>?_
 obtain⟨mg,hg,hv⟩:=globK_at pr.hp h
 obtain⟨o,es,ep,ho,h1,h2,h3⟩:=pr.hp.b
 refine bk ?_
 clear bk bX
 have nb:s.heap.Ns builtinsNs (nsFind es):=⟨o,es,ep,pr.hp.getΦ ho,h1,h2,fun _=>rfl⟩
 refine wpAny_Name (loadGlobK pr.ev hk ?_) hd
 exact Calls.loadGlobal_builtin (mg:=mg) (by rw[pr.ev.gl];exact hg) hv (by rw[pr.ev.bi];exact nb) (by rw[h3 x hn];exact hb) (Ret.intro pr.hp rep_raw)
theorem Ev.bin {op:Operator} {l r:PySem.Expr} {p:Pos} {a b c:AV} (h1:Ev g d sc σ l a) (h2:Ev g d sc σ r b) (h:Op2 g d (binaryOp op) a b c):Ev g d sc σ (.BinOp l op r p) c:=fun _ _ _ _ _ rm x=>
 wpAny_BinOp (h1.run rm x fun _ _ _ l₁ x₁ r₁=>h2.run rm x₁ fun _ _ _ l₂ x₂ r₂=>(h _ _ _ _ _ _ rm x₂.hp (Rep.mono l₂ _ _ r₁) r₂).mono fun _ _ q=>Ret.up (l₁.trans l₂) q)
theorem Ev.cmp {op:CmpOp} {l r:PySem.Expr} {p:Pos} {a b c:AV} (h1:Ev g d sc σ l a) (h2:Ev g d sc σ r b) (h:Op2 g d (compareOp op) a b c) (hm:autoParam (behindInMarks op r=false) aR):Ev g d sc σ (.Compare l [op] [r] p) c:=fun _ _ _ _ _ rm x=>
 wpAny_Compare1 (h1.run rm x fun _ _ _ l₁ x₁ r₁=>h2.run rm x₁ fun _ _ _ l₂ x₂ r₂=>(h _ _ _ _ _ _ rm x₂.hp (Rep.mono l₂ _ _ r₁) r₂).mono fun _ _ q=>Ret.up (l₁.trans l₂) q) hm
theorem Ts.cmp {op:CmpOp} {l r:PySem.Expr} {p:Pos} {a b:AV} {c:Bool} (h1:Ev g d sc σ l a) (h2:Ev g d sc σ r b) (h:Op2 g d (compareOp op) a b (.bool c)) (hm:autoParam (behindInMarks op r=false) aR):Ts g d sc σ (.Compare l [op] [r] p) c:=fun _ _ _ _ _ rm x=>
 wpAny_isTrue_Compare1 (h1.run rm x fun _ _ _ l₁ x₁ r₁=>h2.run rm x₁ fun _ _ _ l₂ x₂ r₂=>(h _ _ _ _ _ _ rm x₂.hp (Rep.mono l₂ _ _ r₁) r₂).mono fun v s' q0=>q0.casesOn fun Φ' l₃ hp rp=>by
  replace rp:_=_:=rp;subst rp
  exact wpAny_truthy_bool ⟨rfl,Φ',(l₁.trans l₂).trans l₃,hp⟩) hm
theorem Ts.not {e:PySem.Expr} {p:Pos} {b:Bool} (h:Ts g d sc σ e b):Ts g d sc σ (.UnaryOp .Not e p) (!b):=fun _ _ _ _ _ rm x=>
 isTrue_not (h.run rm x fun _ _ l y=>⟨rfl,_,l,y.hp⟩)
theorem Ev.not {e:PySem.Expr} {p:Pos} {a:AV} {b:Bool} (h:Ev g d sc σ e a) (ht:∀ A Φ Ψ s v,Room d A→Hp g Φ Ψ s→Owns Φ Ψ σ.own→Rep Φ a v→W g.w A (truthy v) (RetB g Φ Ψ b) s):Ev g d sc σ (.UnaryOp .Not e p) (.bool !b):=fun _ _ _ _ _ rm x=>
 UnaryOp_ (h.run rm x fun _ _ _ l y r=>not_of ((ht _ _ _ _ _ rm y.hp y.own r).mono fun _ _ q0=>q0.casesOn fun e _ l₂ hp=>⟨_,l.trans l₂,hp,e▸rep_bool⟩))
noncomputable def Tr (g:Glob) (d:Nat) (ω:Ow) (a:AV) (b:Bool):Prop:=∀ A Φ Ψ s v,Room d A→Hp g Φ Ψ s→Owns Φ Ψ ω→Rep Φ a v→W g.w A (truthy v) (RetB g Φ Ψ b) s
theorem RetB.intro {Φ Ψ:PH} {b:Bool} {s':Shared} (h:Hp g Φ Ψ s'):RetB g Φ Ψ b b s':=⟨rfl,Φ,PH.le.refl _,h⟩
theorem Tr.bool {b:Bool}:Tr g d ω (.bool b) b:=fun A Φ Ψ s v r hp ho rp=>by
 replace rp:_=_:=rp;subst rp;exact wpAny_truthy_bool (RetB.intro hp)
theorem Tr.none:Tr g d ω .none false:=fun A Φ Ψ s v r hp ho rp=>by
 replace rp:_=_:=rp;subst rp;exact truthy_none (RetB.intro hp)
theorem Tr.int {i:Int}:Tr g d ω (.int i) (i != 0):=fun A Φ Ψ s v r hp ho rp=>by
 obtain⟨t,rfl⟩:=rp;exact PyProof.Rows.truthy_int (RetB.intro hp)
noncomputable def small (n:Nat):Prop:=n≤1000000
theorem sml {n:Nat} (h:Nat.ble n 1000000=true):small n:=Nat.le_of_ble_eq_true h
theorem small_lt {n:Nat} (h:small n):(n:Int)<9223372036854775808:=by unfold small at h;omega
theorem small_line {n:Nat} (h:small n):n≤sizeLine:=by unfold small at h;rw[sizeLine_eq];lia
theorem Tr.str {x:Str} (h:small x.length):Tr g d ω (.str x) ((x.length:Int) != 0):=fun A Φ Ψ s v r hp ho rp=>by
 obtain⟨t,rfl⟩:=rp
 exact PySem.P.truthy_str (by have:=small_lt h;show ¬ (x.length:Int)≥9223372036854775808;lia) (RetB.intro (hp.tok _))
theorem lst_inv {Φ:PH} {xs:List AV} {v:Value} (h:Rep Φ (.lst xs) v):∃ a o vs,v=.ref a∧Φ a=some o∧isLst o vs∧RepL Φ xs vs.toList:=h
theorem tup_inv {Φ:PH} {xs:List AV} {v:Value} (h:Rep Φ (.tup xs) v):∃ a o vs,v=.ref a∧Φ a=some o∧isTup o vs∧RepL Φ xs vs.toList:=h
@[elab_as_elim] theorem lst_elim {Φ:PH} {xs:List AV} {motive:Value→Prop} {v:Value} (h:Rep Φ (.lst xs) v) (k:∀ a o vs,Φ a=some o→isLst o vs→RepL Φ xs vs.toList→motive (.ref a)):motive v:=
 Exists.elim h fun a h=>h.elim fun o h=>h.elim fun vs h=>h.1▸k a o vs h.2.1 h.2.2.1 h.2.2.2
@[elab_as_elim] theorem tup_elim {Φ:PH} {xs:List AV} {motive:Value→Prop} {v:Value} (h:Rep Φ (.tup xs) v) (k:∀ a o vs,Φ a=some o→isTup o vs→RepL Φ xs vs.toList→motive (.ref a)):motive v:=
 Exists.elim h fun a h=>h.elim fun o h=>h.elim fun vs h=>h.1▸k a o vs h.2.1 h.2.2.1 h.2.2.2
theorem isList_of {Φ Ψ:PH} {s:Shared} (hp:Hp g Φ Ψ s) {a:Addr} {o:Obj} {vs:Array Value} (e:Φ a=some o) (h:isLst o vs):s.heap.IsList a vs:=⟨o,hp.getΦ e,h.split.1,h.split.2.2⟩
theorem isTup_of {Φ Ψ:PH} {s:Shared} (hp:Hp g Φ Ψ s) {a:Addr} {o:Obj} {vs:Array Value} (e:Φ a=some o) (h:isTup o vs):IsTup s.heap a vs:=⟨o,hp.getΦ e,h.split.1,h.split.2⟩
theorem size_of {Φ:PH} {xs:List AV} {vs:Array Value} (h:RepL Φ xs vs.toList):vs.size=xs.length:=by
 have:=repL_length h;simpa using this
theorem Tr.lst {xs:List AV} (h:small xs.length):Tr g d ω (.lst xs) (!xs.isEmpty):=fun A Φ Ψ s v r hp ho rp=>by
 refine lst_elim rp fun a o vs ho' hl hx=>?_
 have hs:=size_of hx
 refine wpAny_truthy_list (isList_of hp ho' hl) (by rw[hs];exact small_lt h) ?_
 have e:vs.isEmpty=xs.isEmpty:=by
  cases xs with
  | nil=>have:vs.size=0:=hs;simpa [Array.isEmpty] using this
  | cons x xs=>exact(fun(this:vs.size≠0)=>by simpa [Array.isEmpty] using this) (by rw[hs];simp)
 rw[e];exact RetB.intro (hp.tok _)
theorem Ts.ev {e:PySem.Expr} {a:AV} {b:Bool} (h:Ev g d sc σ e a) (ht:Tr g d σ.own a b) (he:autoParam (∀ env whole,isTrue e env whole=(do let v ←whole;standAt e.pos;holding [v] (truthy v))) aR):Ts g d sc σ e b:=fun _ _ _ _ _ rm x=>
 isTrue_plain (h.run rm x fun _ _ _ l y r=>(ht _ _ _ _ _ rm y.hp y.own r).mono fun _ _ q=>RetB.up l q) (he _ _)
theorem Ts.and1 {x y:PySem.Expr} {p:Pos} {b:Bool} (h1:Ts g d sc σ x true) (h2:Ts g d sc σ y b):Ts g d sc σ (.BoolOp .And [x,y] p) b:=fun _ _ _ _ _ rm pr=>
 isTrue_and (h1.run rm pr fun _ _ l₁ x₁=>isTrue_and (h2.run rm x₁ fun _ _ l₂ x₂=>by
  cases b
  ·exact⟨rfl,_,l₁.trans l₂,x₂.hp⟩
  ·exact isTrue_and_nil ⟨rfl,_,l₁.trans l₂,x₂.hp⟩))
theorem Ts.and0 {x y:PySem.Expr} {p:Pos} (h1:Ts g d sc σ x false):Ts g d sc σ (.BoolOp .And [x,y] p) false:=fun _ _ _ _ _ rm pr=>
 isTrue_and (h1.run rm pr fun _ _ l₁ x₁=>⟨rfl,_,l₁,x₁.hp⟩)
theorem Ts.or0 {x y:PySem.Expr} {p:Pos} {b:Bool} (h1:Ts g d sc σ x false) (h2:Ts g d sc σ y b):Ts g d sc σ (.BoolOp .Or [x,y] p) b:=fun _ _ _ _ _ rm pr=>
 isTrue_or (h1.run rm pr fun _ _ l₁ x₁=>isTrue_or (h2.run rm x₁ fun _ _ l₂ x₂=>by
  cases b
  ·exact isTrue_or_nil ⟨rfl,_,l₁.trans l₂,x₂.hp⟩
  ·exact⟨rfl,_,l₁.trans l₂,x₂.hp⟩))
theorem Ts.or1 {x y:PySem.Expr} {p:Pos} (h1:Ts g d sc σ x true):Ts g d sc σ (.BoolOp .Or [x,y] p) true:=fun _ _ _ _ _ rm pr=>
 isTrue_or (h1.run rm pr fun _ _ l₁ x₁=>⟨rfl,_,l₁,x₁.hp⟩)
theorem Ev.ite {t x y:PySem.Expr} {p:Pos} {b:Bool} {a:AV} (h:Ts g d sc σ t b) (h1:b=true→Ev g d sc σ x a) (h2:b=false→Ev g d sc σ y a):Ev g d sc σ (.IfExp t x y p) a:=fun _ _ _ _ _ rm pr=>
 IfExp_ (h.run rm pr fun _ _ l₁ x₁=>by
  cases b with
  | true=>exact(h1 rfl).run rm x₁ fun _ _ _ l₂ x₂ r₂=>⟨_,l₁.trans l₂,x₂.hp,r₂⟩
  | false=>exact(h2 rfl).run rm x₁ fun _ _ _ l₂ x₂ r₂=>⟨_,l₁.trans l₂,x₂.hp,r₂⟩)
theorem Ev.and1 {x y:PySem.Expr} {p:Pos} {a b:AV} (h1:Ev g d sc σ x a) (ht:Tr g d σ.own a true) (h2:Ev g d sc σ y b):Ev g d sc σ (.BoolOp .And [x,y] p) b:=fun _ _ _ _ _ rm pr=>
 wpAny_And2 (h1.run rm pr fun _ _ _ l₁ x₁ r₁=>(ht _ _ _ _ _ rm x₁.hp x₁.own r₁).mono fun _ _ q0=>q0.casesOn fun e _ l₂ hp=>by
  subst e
  exact h2.run rm (x₁.next l₂ hp) fun _ _ _ l₃ x₃ r₃=>⟨_,(l₁.trans l₂).trans l₃,x₃.hp,r₃⟩)
theorem Ev.or0 {x y:PySem.Expr} {p:Pos} {a b:AV} (h1:Ev g d sc σ x a) (ht:Tr g d σ.own a false) (h2:Ev g d sc σ y b):Ev g d sc σ (.BoolOp .Or [x,y] p) b:=fun _ _ _ _ _ rm pr=>
 wpAny_Or2 (h1.run rm pr fun _ _ _ l₁ x₁ r₁=>(ht _ _ _ _ _ rm x₁.hp x₁.own r₁).mono fun _ _ q0=>q0.casesOn fun e _ l₂ hp=>by
  subst e
  exact h2.run rm (x₁.next l₂ hp) fun _ _ _ l₃ x₃ r₃=>⟨_,(l₁.trans l₂).trans l₃,x₃.hp,r₃⟩)
noncomputable def EvL (g:Glob) (d:Nat) (sc:Scope) (σ:Sig) (es:List PySem.Expr) (avs:List AV):Prop:=
 ∀ A env Φ Ψ s pos,Room d A→Pre g sc σ env Φ Ψ s→W g.w A (spliced (backTo pos (starEach es env))) (RetL g Φ Ψ avs) s
theorem EvL.nil:EvL g d sc σ [] []:=fun _ _ _ _ _ _ _ x=>wpAny_items_nil ⟨_,PH.le.refl _,x.hp,repL_nil⟩
theorem EvL.cons {e:PySem.Expr} {es:List PySem.Expr} {a:AV} {as:List AV} (h1:Ev g d sc σ e a) (h2:EvL g d sc σ es as) (he:autoParam (∀ env,starEach (e::es) env=(false,eval e env)::starEach es env) aR):EvL g d sc σ (e::es) (a::as):=fun _ _ _ _ _ _ rm x=>
 wpAny_items_cons (h1.run rm x fun _ _ _ l₁ x₁ r₁=>(h2 _ _ _ _ _ _ rm x₁).mono fun _ _ q0=>q0.casesOn fun Φ' l₂ hp r₂=>⟨Φ',l₁.trans l₂,hp,repL_cons (Rep.mono l₂ _ _ r₁) r₂⟩) (he _)
theorem EvL.run {es:List PySem.Expr} {avs:List AV} {A:Around} {env:Env} {Φ Ψ:PH} {s:Shared} {pos:Pos} {Q:List Value→Shared→Prop} (h:EvL g d sc σ es avs) (r:Room d A) (x:Pre g sc σ env Φ Ψ s)
  (k:∀ Φ' v s',PH.le Φ Φ'→Pre g sc σ env Φ' Ψ s'→RepL Φ' avs v→Q v s'):W g.w A (spliced (backTo pos (starEach es env))) Q s:=
 (h A env Φ Ψ s pos r x).mono fun v s' q0=>q0.casesOn fun Φ' l hp rp=>k Φ' v s' l (x.next l hp) rp
theorem newΦ {Φ Ψ:PH} {s:Shared} (hp:Hp g Φ Ψ s) (o:Obj) (hf:o.isFreed=false):PH.le Φ (Φ.put s.heap.objs.size o)∧Hp g (Φ.put s.heap.objs.size o) Ψ {s with heap:=s.heap.push o}:=⟨PH.le_put o hp.freshΦ,hp.allocΦ hf⟩
theorem ret_tup {Φ Ψ:PH} {s:Shared} {avs:List AV} {vs:List Value} (hp:Hp g Φ Ψ s) (r:RepL Φ avs vs) :
  Ret g Φ Ψ (.tup avs) (.ref s.heap.objs.size) {s with heap:=s.heap.push {cls:=.type "tuple",data:=.seq vs.toArray}}:=by
 obtain⟨l,hp'⟩:=newΦ hp {cls:=.type "tuple",data:=.seq vs.toArray} rfl
 refine⟨_,l,hp',?_⟩
 exact⟨_,_,vs.toArray,rfl,PH.put_self _ _ _,⟨0,rfl⟩,by simpa using RepL.mono l _ _ r⟩
theorem ret_lst {Φ Ψ:PH} {s:Shared} {avs:List AV} {vs:List Value} (hp:Hp g Φ Ψ s) (r:RepL Φ avs vs) :
  Ret g Φ Ψ (.lst avs) (.ref s.heap.objs.size) {s with heap:=s.heap.push {cls:=.type "list",data:=.seq vs.toArray}}:=by
 obtain⟨l,hp'⟩:=newΦ hp {cls:=.type "list",data:=.seq vs.toArray} rfl
 refine⟨_,l,hp',?_⟩
 exact⟨_,_,vs.toArray,rfl,PH.put_self _ _ _,⟨0,rfl⟩,by simpa using RepL.mono l _ _ r⟩
theorem Ev.tup {es:List PySem.Expr} {k:Nat} {p:Pos} {avs:List AV} (h:EvL g d sc σ es avs) (hs:small avs.length):Ev g d sc σ (.Tuple es k p) (.tup avs):=fun _ _ _ _ _ rm x=>
 wpAny_Tuple (h.run rm x fun _ vs _ l₁ x₁ r₁=>⟨by rw[repL_length r₁];exact small_line hs,Ret.up l₁ (ret_tup x₁.hp r₁)⟩)
theorem Ev.lst {es:List PySem.Expr} {p:Pos} {avs:List AV} (h:EvL g d sc σ es avs) (hs:small avs.length):Ev g d sc σ (.List es p) (.lst avs):=fun _ _ _ _ _ rm x=>
 wpAny_List (h.run rm x fun _ vs _ l₁ x₁ r₁=>⟨by rw[repL_length r₁];exact small_line hs,Ret.up l₁ (ret_lst x₁.hp r₁)⟩)
end
end Mine.Internal
end
section
open PySem PySem.W PySem.Calls PyProof.Rows PyProof PySem.SeqAt
namespace Mine.Internal
mutual
noncomputable def pd:AV→PyData
 | .none=>.none
 | .bool b=>.bool b
 | .int i=>.int i
 | .str s=>.str s
 | .tup xs=>.tuple (pds xs)
 | .lst xs=>.list (pds xs)
 | .obj _ _=>.none
 | .ref _=>.none
 | .raw _=>.none
 | .sat _=>.none
noncomputable def pds:List AV→List PyData
 | []=>[]
 | x::xs=>pd x::pds xs
end
mutual
noncomputable def isData:AV→Bool
 | .none | .bool _ | .int _ | .str _=>true
 | .tup xs | .lst xs=>areData xs
 | .obj .. | .ref _ | .raw _ | .sat _=>false
noncomputable def areData:List AV→Bool
 | []=>true
 | x::xs=>isData x&&areData xs
end
mutual
theorem rep_reads {Φ:PH} {h:Heap} (sub:Sub Φ h):∀ (x:AV) (v:Value),isData x=true→Rep Φ x v→∃ as,Reads h v (pd x) as
 | .none,v,_,r=>by replace r:_=_:=r;subst r;exact⟨_,.none⟩
 | .bool b,v,_,r=>by replace r:_=_:=r;subst r;exact⟨_,.bool b⟩
 | .int i,v,_,r=>by obtain⟨t,rfl⟩:=r;exact⟨_,.int i t⟩
 | .str s,v,_,r=>by obtain⟨t,rfl⟩:=r;exact⟨_,.str s t⟩
 | .tup xs,v,hd,r=>by
  refine box fun bX bk=>?_
  obtain⟨a,o,vs,rfl,ho,hh,hl⟩:=r
  obtain⟨h1,n,h2⟩:=hh.split
  obtain⟨as,q⟩:=repL_reads sub xs vs.toList hd hl
  refine bk ?_
  clear bk bX
  exact⟨as,.tuple (sub _ _ ho) h1 h2 q⟩
 | .lst xs,v,hd,r=>by
  refine box fun bX bk=>?_
  obtain⟨a,o,vs,rfl,ho,hh,hl⟩:=r
  obtain⟨h1,_,n,h2⟩:=hh.split
  obtain⟨as,q⟩:=repL_reads sub xs vs.toList hd hl
  refine bk ?_
  clear bk bX
  exact⟨a::as,.list (sub _ _ ho) h1 h2 q⟩
 | .obj ..,_,hd,_=>absurd hd Bool.false_ne_true
 | .ref _,_,hd,_=>absurd hd Bool.false_ne_true
 | .raw _,_,hd,_=>absurd hd Bool.false_ne_true
 | .sat _,_,hd,_=>absurd hd Bool.false_ne_true
theorem repL_reads {Φ:PH} {h:Heap} (sub:Sub Φ h):∀ (xs:List AV) (vs:List Value),areData xs=true→RepL Φ xs vs→∃ as,ReadsAll h vs (pds xs) as
 | [],vs,_,r=>by replace r:_=_:=r;subst r;exact⟨[],.nil⟩
 | x::xs,vs,hd,r=>by
  refine box fun bX bk=>?_
  obtain⟨v,ws,rfl,hx,hl⟩:=r
  have hd':isData x=true∧areData xs=true:=Bool.and_eq_true_iff.mp hd
  obtain⟨a1,q1⟩:=rep_reads sub x v hd'.1 hx
  obtain⟨a2,q2⟩:=repL_reads sub xs ws hd'.2 hl
  refine bk ?_
  clear bk bX
  exact⟨a1++a2,.cons q1 q2⟩
end
structure Plain (x:AV):Prop where
 data:isData x=true
 shape:shaped (pd x)=true
noncomputable def plainB (x:AV):Bool:=isData x&&shaped (pd x)
theorem Plain.of {x:AV} (h:plainB x=true):Plain x:=⟨(Bool.and_eq_true_iff.mp h).1,(Bool.and_eq_true_iff.mp h).2⟩
section
variable {g:Glob} {d:Nat}
theorem u64 {A:Around} (r:Room d A):A.units+65<cLine:=by
 have:=r.units;have:=r.pos;show A.units+65<9900;lia
theorem Op2.eq {a b:AV} (ha:Plain a) (hb:Plain b):Op2 g d (compareOp .Eq) a b (.bool (PyData.eqv (pd a) (pd b))):=fun A Φ Ψ s v u r hp ra rb=>by
 obtain⟨as,qa⟩:=rep_reads hp.fr a v ha.data ra
 obtain⟨bs,qb⟩:=rep_reads hp.fr b u hb.data rb
 exact compareEq_shaped qa qb ha.shape hb.shape (by have:=u64 r;lia) (Ret.intro hp rep_bool)
theorem Op2.ne {a b:AV} (ha:Plain a) (hb:Plain b):Op2 g d (compareOp .NotEq) a b (.bool (!PyData.eqv (pd a) (pd b))):=fun A Φ Ψ s v u r hp ra rb=>by
 obtain⟨as,qa⟩:=rep_reads hp.fr a v ha.data ra
 obtain⟨bs,qb⟩:=rep_reads hp.fr b u hb.data rb
 exact compareNe_shaped qa qb ha.shape hb.shape (by have:=u64 r;lia) (Ret.intro hp rep_bool)
theorem Op2.inL {a:AV} {xs:List AV} (ha:Plain a) (hb:Plain (.lst xs)):Op2 g d (compareOp .In) a (.lst xs) (.bool ((pds xs).any fun y=>PyData.eqv y (pd a))):=fun A Φ Ψ s v u r hp ra rb=>by
 obtain⟨as,qa⟩:=rep_reads hp.fr a v ha.data ra
 obtain⟨bs,qb⟩:=rep_reads hp.fr _ u hb.data rb
 have hs:=hb.shape
 exact in_list_reads qb qa (canLay_of_shaped hs) (canLay_of_shaped ha.shape) (room_in_shaped ha.shape (u64 r)) (Ret.intro hp rep_bool)
theorem Op2.ninL {a:AV} {xs:List AV} (ha:Plain a) (hb:Plain (.lst xs)):Op2 g d (compareOp .NotIn) a (.lst xs) (.bool (!(pds xs).any fun y=>PyData.eqv y (pd a))):=fun A Φ Ψ s v u r hp ra rb=>by
 obtain⟨as,qa⟩:=rep_reads hp.fr a v ha.data ra
 obtain⟨bs,qb⟩:=rep_reads hp.fr _ u hb.data rb
 have hs:=hb.shape
 exact notIn_list_reads qb qa (canLay_of_shaped hs) (canLay_of_shaped ha.shape) (room_in_shaped ha.shape (u64 r)) (Ret.intro hp rep_bool)
theorem Op2.ninT {a:AV} {xs:List AV} (ha:Plain a) (hb:Plain (.tup xs)):Op2 g d (compareOp .NotIn) a (.tup xs) (.bool (!(pds xs).any fun y=>PyData.eqv y (pd a))):=fun A Φ Ψ s v u r hp ra rb=>by
 obtain⟨as,qa⟩:=rep_reads hp.fr a v ha.data ra
 obtain⟨bs,qb⟩:=rep_reads hp.fr _ u hb.data rb
 have hs:=hb.shape
 exact notIn_tuple_reads qb qa (canLay_of_shaped hs) (canLay_of_shaped ha.shape) (room_in_shaped ha.shape (u64 r)) (Ret.intro hp rep_bool)
theorem int_inv {Φ:PH} {i:Int} {v:Value} (h:Rep Φ (.int i) v):∃ t,v=.int i t:=h
theorem str_inv {Φ:PH} {x:Str} {v:Value} (h:Rep Φ (.str x) v):∃ t,v=.str x t:=h
@[elab_as_elim] theorem int_elim {Φ:PH} {i:Int} {motive:Value→Prop} {v:Value} (h:Rep Φ (.int i) v) (k:∀ t,motive (.int i t)):motive v:=let ⟨t,e⟩:=int_inv h;e▸k t
@[elab_as_elim] theorem str_elim {Φ:PH} {x:Str} {motive:Value→Prop} {v:Value} (h:Rep Φ (.str x) v) (k:∀ t,motive (.str x t)):motive v:=let ⟨t,e⟩:=str_inv h;e▸k t
theorem Op2.ints {op:Value→Value→Sem Value} {i j:Int} {c:AV} (h:∀ A Φ Ψ s t u,Room d A→Hp g Φ Ψ s→W g.w A (op (.int i t) (.int j u)) (Ret g Φ Ψ c) s):Op2 g d op (.int i) (.int j) c:=fun A Φ Ψ s v u r hp ra rb=>by
 refine int_elim ra fun t=>?_
 refine int_elim rb fun t'=>?_
 exact h A Φ Ψ s t t' r hp
theorem Op2.strs {op:Value→Value→Sem Value} {i j:Str} {c:AV} (h:∀ A Φ Ψ s t u,Room d A→Hp g Φ Ψ s→W g.w A (op (.str i t) (.str j u)) (Ret g Φ Ψ c) s):Op2 g d op (.str i) (.str j) c:=fun A Φ Ψ s v u r hp ra rb=>by
 refine str_elim ra fun t=>?_
 refine str_elim rb fun t'=>?_
 exact h A Φ Ψ s t t' r hp
variable {i j:Int}
theorem Op2.add:Op2 g d (binaryOp .Add) (.int i) (.int j) (.int (i+j)):=.ints fun A Φ Ψ s t u r hp=>PyProof.Rows.add_int (Ret.intro (hp.tok _) rep_int)
theorem Op2.sub:Op2 g d (binaryOp .Sub) (.int i) (.int j) (.int (i-j)):=.ints fun A Φ Ψ s t u r hp=>PyProof.Rows.sub_int (Ret.intro (hp.tok _) rep_int)
theorem Op2.mul (h:IntMulOk i j):Op2 g d (binaryOp .Mult) (.int i) (.int j) (.int (i*j)):=.ints fun A Φ Ψ s t u r hp=>PyProof.Rows.mul_int (Ret.intro (hp.tok _) rep_int) h
theorem Op2.div (hj:j≠0) (h:j.natAbs.log2<9000):Op2 g d (binaryOp .FloorDiv) (.int i) (.int j) (.int (i.fdiv j)):=.ints fun A Φ Ψ s t u r hp=>
 PyProof.Rows.floordiv_int hj (Ret.intro (hp.tok _) rep_int) (.inl (PyProof.noPylong_of_log2 h))
theorem Op2.mod (hj:j≠0):Op2 g d (binaryOp .Mod) (.int i) (.int j) (.int (i.fmod j)):=.ints fun A Φ Ψ s t u r hp=>PyProof.Rows.mod_int' hj (Ret.intro (hp.tok _) rep_int)
theorem Op2.pow (hj:0≤j) (h:(Builtin.Int.intBits i:Int)*j≤2^27):Op2 g d (binaryOp .Pow) (.int i) (.int j) (.int (i^j.toNat)):=.ints fun A Φ Ψ s t u r hp=>PyProof.Rows.pow_int hj h (Ret.intro (hp.tok _) rep_int)
theorem Op2.shl (hj:0≤j) (h:(Builtin.Int.intBits i:Int)+j≤2^27):Op2 g d (binaryOp .LShift) (.int i) (.int j) (.int (i*2^j.toNat)):=.ints fun A Φ Ψ s t u r hp=>PyProof.Rows.lshift_int hj h (Ret.intro (hp.tok _) rep_int)
theorem Op2.shr (hj:0≤j):Op2 g d (binaryOp .RShift) (.int i) (.int j) (.int (i.fdiv (2^j.toNat))):=.ints fun A Φ Ψ s t u r hp=>PyProof.Rows.rshift_int hj (Ret.intro (hp.tok _) rep_int)
theorem Op2.xor:Op2 g d (binaryOp .BitXor) (.int i) (.int j) (.int (Builtin.bitXor i j)):=.ints fun A Φ Ψ s t u r hp=>PyProof.Rows.xor_int (Ret.intro (hp.tok _) rep_int)
theorem Op2.iadd:Op2 g d (inplaceOp .Add) (.int i) (.int j) (.int (i+j)):=.ints fun A Φ Ψ s t u r hp=>PyProof.Rows.iadd_int (Ret.intro (hp.tok _) rep_int)
theorem Op2.lt:Op2 g d (compareOp .Lt) (.int i) (.int j) (.bool (decide (i<j))):=.ints fun A Φ Ψ s t u r hp=>PyProof.Rows.lt_int (Ret.intro hp rep_bool)
theorem Op2.gt:Op2 g d (compareOp .Gt) (.int i) (.int j) (.bool (decide (j<i))):=.ints fun A Φ Ψ s t u r hp=>PyProof.Rows.gt_int (Ret.intro hp rep_bool)
theorem Op2.le:Op2 g d (compareOp .LtE) (.int i) (.int j) (.bool (decide (i≤j))):=.ints fun A Φ Ψ s t u r hp=>PyProof.Rows.le_int (Ret.intro hp rep_bool)
theorem Op2.eqi:Op2 g d (compareOp .Eq) (.int i) (.int j) (.bool (i==j)):=.ints fun A Φ Ψ s t u r hp=>PyProof.Rows.eq_int (Ret.intro hp rep_bool)
theorem Op2.nei:Op2 g d (compareOp .NotEq) (.int i) (.int j) (.bool (i != j)):=.ints fun A Φ Ψ s t u r hp=>PyProof.Rows.ne_int (Ret.intro hp rep_bool)
variable {x y:Str}
theorem Op2.adds (h:small (x.length+y.length)):Op2 g d (binaryOp .Add) (.str x) (.str y) (.str (x++y)):=.strs fun A Φ Ψ s t u r hp=>SB.add (fun t' k=>Ret.intro (hp.tok _) rep_str) (small_line h)
theorem Op2.iadds (h:small (x.length+y.length)):Op2 g d (inplaceOp .Add) (.str x) (.str y) (.str (x++y)):=.strs fun A Φ Ψ s t u r hp=>SB.iadd (fun t' k=>Ret.intro (hp.tok _) rep_str) (small_line h)
theorem Op2.ins:Op2 g d (compareOp .In) (.str y) (.str x) (.bool (Txt.contains x y)):=.strs fun A Φ Ψ s t u r hp=>SB.contains (Ret.intro hp rep_bool)
theorem Op2.eqs:Op2 g d (compareOp .Eq) (.str x) (.str y) (.bool (x==y)):=.strs fun A Φ Ψ s t u r hp=>PyProof.Rows.eq_str (Ret.intro hp rep_bool)
theorem Op2.isNone {a:AV} {b:Bool} (hb:∀ Φ v,Rep Φ a v→(v==.none)=b):Op2 g d (compareOp .Is) a .none (.bool b):=fun A Φ Ψ s v u r hp ra rb=>by
 replace rb:_=_:=rb;subst rb
 exact is_none (by rw[hb Φ v ra];exact Ret.intro hp rep_bool)
theorem Op2.isNotBool {a b:Bool}:Op2 g d (compareOp .IsNot) (.bool a) (.bool b) (.bool (a != b)):=fun A Φ Ψ s v u r hp ra rb=>by
 replace ra:_=_:=ra;replace rb:_=_:=rb;subst ra;subst rb
 show W g.w A (isSame (Value.bool a) (Value.bool b)>>=fun r=>(pure (Value.bool (!r)):Sem Value)) _ _
 refine wpAny_bind (m:=isSame (.bool a) (.bool b)) ?_
 show W g.w A (pure (Value.bool a==Value.bool b)) _ _
 refine wpAny_pure (wpAny_pure ?_)
 have e:(!(Value.bool a==Value.bool b))=(a != b):=by cases a<;>cases b<;>rfl
 rw[e];exact Ret.intro hp rep_bool
theorem Op2.addL {xs ys:List AV} (h:small (xs.length+ys.length)):Op2 g d (binaryOp .Add) (.lst xs) (.lst ys) (.lst (xs++ys)):=fun A Φ Ψ s v u r hp ra rb=>by
 refine lst_elim ra fun a o vs ho hl hx=>?_
 refine lst_elim rb fun b o2 ws ho2 hl2 hy=>?_
 refine box fun bX bk=>?_
 obtain⟨n,rfl⟩:=hl
 obtain⟨m,rfl⟩:=hl2
 refine bk ?_
 clear bk bX
 have g1:=hp.getΦ ho
 have g2:=hp.getΦ ho2
 have z:=repL_append hx hy
 have e:vs++ws=(vs.toList++ws.toList).toArray:=by simp
 refine concat_meets ⟨_,g1,rfl⟩ ⟨_,g2,rfl⟩ noFill_list_add seq_list_add PySem.F.slot_list_add PySem.F.entry_list_add (PySem.F.args_list_add_2 _ _) (list_addW a b vs ws n m Option.none Option.none #[] #[] ?_) ⟨g1,g2,?_⟩
 ·rw[size_of hx,size_of hy];exact small_line h
 ·rw[e];exact ret_lst hp z
end
end Mine.Internal
end
section
open PySem PySem.W PySem.Calls PyProof.Rows PyProof PySem.SeqAt
namespace Mine.Internal
section
variable {g:Glob} {d:Nat} {sc:Scope} {σ:Sig}
theorem seqIndex_nat {i:Int} {n:Nat} (h0:0≤i) (h:i.toNat<n):seqIndex? i n=some i.toNat:=by
 unfold seqIndex?
 have h1:¬ i<0:=by lia
 simp only[h1,if_false]
 rw[if_pos]
 simp
 lia
theorem subTail {A:Around} {value slice:PySem.Expr} {o i:Value} {s:Shared} {Q:Value→Shared→Prop} (h:ItemOn (model PR g.w) A No o i Q s)
  (hs:subscripted slice false o i=operate [o,i] (getItem o i)):W g.w A (subscriptTail value slice o i) Q s:=by
 refine box fun bX bk=>?_
 obtain⟨T,id,hl,hT,hg⟩:=h
 refine bk ?_
 clear bk bX
 unfold subscriptTail
 refine wpAny_bind ?_
 rw[getitemInPython_of_ne hT.not_modules]
 refine wpAny_bind (wpAny_specialOf hT hl ?_)
 have fin:wpAny (model PR g.w) A (subscripted slice false o i) (fun r s₃=>wpAny (model PR g.w) A (letTemporaryGo value o r>>=fun _=>pure r) Q No s₃) No s:=by
  rw[hs]
  exact wpAny_operating (wpAny_mono hg (fun r s₃ h₃=>wpAny_bind (wpAny_letTemporaryGo (wpAny_pure h₃))) fun _ _ x=>x)
 first
  | exact wpAny_pure (wpAny_bind fin)
  | exact wpAny_bind (wpAny_pure (wpAny_bind fin))
  | exact wpAny_bind fin
theorem Ev.sub {value slice:PySem.Expr} {pos:Pos} {a b c:AV} (h1:Ev g d sc σ value a) (h2:Ev g d sc σ slice b)
  (h:∀ A Φ Ψ s v u,Room d A→Hp g Φ Ψ s→Rep Φ a v→Rep Φ b u→ItemOn (model PR g.w) A No v u (Ret g Φ Ψ c) s)
  (hs:autoParam (∀ o i,subscripted slice false o i=operate [o,i] (getItem o i)) aR):Ev g d sc σ (.Subscript value slice pos) c:=fun A env Φ Ψ s r x=>
 Subscript_ (h1.run r x fun Φ₁ v s₁ l₁ x₁ r₁=>h2.run r x₁ fun Φ₂ u s₂ l₂ x₂ r₂=>
  (subTail (h A Φ₂ Ψ s₂ v u r x₂.hp (Rep.mono l₂ _ _ r₁) r₂) (hs _ _)).mono fun _ _ q=>Ret.up (l₁.trans l₂) q)
theorem Ev.item {value slice:PySem.Expr} {pos:Pos} {xs:List AV} {i:Int} {c:AV} (h1:Ev g d sc σ value (.lst xs)) (h2:Ev g d sc σ slice (.int i)) (h0:0≤i) (hx:xs[i.toNat]?=some c) (hsm:small xs.length)
  (hs:autoParam (∀ o i,subscripted slice false o i=operate [o,i] (getItem o i)) aR):Ev g d sc σ (.Subscript value slice pos) c:=
 Ev.sub h1 h2 (fun A Φ Ψ s v u r hp ra rb=>by
  refine lst_elim ra fun a o vs ho hl hv=>?_
  refine int_elim rb fun t=>?_
  obtain⟨y,hy,ry⟩:=repL_get hv hx
  have hlt:i.toNat<xs.length:=(List.getElem?_eq_some_iff.mp hx).1
  refine⟨"list",_,list_getitem_lookup,(isList_of hp ho hl).typeIs,?_⟩
  exact wpAny_getItem_list (isList_of hp ho hl) h0 (by have:=small_lt hsm;(clear ry hy hv hl ho rb ra hp r hs hsm hx h0 h2 h1;lia)) (by simpa using hy) (Ret.intro hp ry)) hs
theorem Ev.itemT {value slice:PySem.Expr} {pos:Pos} {xs:List AV} {i:Int} {c:AV} (h1:Ev g d sc σ value (.tup xs)) (h2:Ev g d sc σ slice (.int i)) (h0:0≤i) (hx:xs[i.toNat]?=some c) (hsm:small xs.length)
  (hs:autoParam (∀ o i,subscripted slice false o i=operate [o,i] (getItem o i)) aR):Ev g d sc σ (.Subscript value slice pos) c:=
 Ev.sub h1 h2 (fun A Φ Ψ s v u r hp ra rb=>by
  refine tup_elim ra fun a o vs ho hl hv=>?_
  refine int_elim rb fun t=>?_
  obtain⟨y,hy,ry⟩:=repL_get hv hx
  have hlt:i.toNat<xs.length:=(List.getElem?_eq_some_iff.mp hx).1
  have hsz:=size_of hv
  refine⟨"tuple",_,PyProof.Rows.slot_tuple_getitem.lookup,(isTup_of hp ho hl).typeIs,?_⟩
  have hi:i<9223372036854775808:=by have:=small_lt hsm;(clear hsz ry hy hv hl ho rb ra hp r hs hsm hx h0 h2 h1;lia)
  refine PyProof.Rows.getItem_tuple (isTup_of hp ho hl) (by(clear hi hsz hlt ry hy hv hl ho rb ra hp r hs hsm hx h2 h1;lia)) hi (j:=i.toNat) ?_ (by simpa using hy) (Ret.intro hp ry)
  exact seqIndex_nat h0 (by rw[hsz];exact hlt)) hs
theorem Ev.itemS {value slice:PySem.Expr} {pos:Pos} {x:Str} {i:Int} {c:Nat} (h1:Ev g d sc σ value (.str x)) (h2:Ev g d sc σ slice (.int i)) (h0:0≤i) (hx:x.cps[i.toNat]?=some c) (hsm:small x.length)
  (hs:autoParam (∀ o i,subscripted slice false o i=operate [o,i] (getItem o i)) aR):Ev g d sc σ (.Subscript value slice pos) (.str ⟨#[c]⟩):=
 Ev.sub h1 h2 (fun A Φ Ψ s v u r hp ra rb=>by
  refine str_elim ra fun t=>?_
  refine int_elim rb fun t'=>?_
  have hlt:i.toNat<x.cps.size:=(Array.getElem?_eq_some_iff.mp hx).1
  have hi:i<9223372036854775808:=by have:=small_lt hsm;unfold Str.length at this;(clear rb ra hp r hs hsm hx h0 h2 h1;lia)
  have hc:Txt.charAt x i=some c:=by
   unfold Txt.charAt
   rw[seqIndex_nat (n:=x.length) h0 hlt]
   simpa using hx
  have e:Txt.item x i=⟨#[c]⟩:=by unfold Txt.item;rw[hc];rfl
  refine SB.item ?_ (by rw[hc];rfl) ?_
  ·unfold fitsSsize
   simp
   (clear e hc hlt rb ra hp r hs hsm hx h2 h1;lia)
  ·rw[e];exact Ret.intro (hp.tok _) rep_str) hs
theorem Ev.neg {e:PySem.Expr} {pos:Pos} {i:Int} (h:Ev g d sc σ e (.int i)):Ev g d sc σ (.UnaryOp .USub e pos) (.int (-i)):=fun A env Φ Ψ s r x=>
 UnaryOp_ (h.run r x fun Φ₁ v s₁ l₁ x₁ r₁=>by
  refine int_elim r₁ fun t=>?_
  exact PyProof.Rows.neg_int (Ret.up l₁ (Ret.intro (x₁.hp.tok _) rep_int)))
noncomputable def cut (xs:List AV) (lo hi st:Option Int):List AV:=
 ((sliceRange (sliceBounds lo hi st xs.length).1 (sliceBounds lo hi st xs.length).2.1 (sliceBounds lo hi st xs.length).2.2).filterMap (xs[·]?))
theorem repL_pick {Φ:PH} {xs:List AV} {vs:List Value} (h:RepL Φ xs vs):∀ is:List Nat,RepL Φ (is.filterMap (xs[·]?)) (is.filterMap (vs[·]?))
 | []=>by simpa using repL_nil
 | i::is=>by
  have ih:=repL_pick h is
  have hl:=repL_length h
  cases q:xs[i]? with
  | none=>
   have:vs[i]?=none:=by
    rw[List.getElem?_eq_none_iff] at q ⊢;lia
   simp only[List.filterMap_cons,q,this];exact ih
  | some x=>
   refine box fun bX bk=>?_
   obtain⟨v,hv,rv⟩:=repL_get h q
   refine bk ?_
   clear bk bX
   simp only[List.filterMap_cons,q,hv];exact repL_cons rv ih
theorem repL_cut {Φ:PH} {xs:List AV} {vs:Array Value} (h:RepL Φ xs vs.toList) (lo hi st:Option Int):RepL Φ (cut xs lo hi st) (slicePick vs lo hi st).toList:=by
 have z:=repL_pick h (sliceRange (sliceBounds lo hi st xs.length).1 (sliceBounds lo hi st xs.length).2.1 (sliceBounds lo hi st xs.length).2.2)
 unfold cut slicePick
 rw[size_of h]
 simpa using z
noncomputable def EvP (g:Glob) (d:Nat) (sc:Scope) (σ:Sig):Option PySem.Expr→Option Int→Prop
 | none,none=>True
 | some e,some i=>Ev g d sc σ e (.int i)
 | _,_=>False
theorem EvP.run {x:Option PySem.Expr} {lo:Option Int} {A:Around} {env:Env} {Φ Ψ:PH} {s:Shared} {Q:Value→Shared→Prop} (h:EvP g d sc σ x lo) (r:Room d A) (pr:Pre g sc σ env Φ Ψ s)
  (k:∀ Φ' v s',PH.le Φ Φ'→Pre g sc σ env Φ' Ψ s'→IsPart v lo→Q v s'):W g.w A (evalPart x env) Q s:=by
 cases x with
 | none=>cases lo with
  | none=>exact wpAny_pure (k Φ _ s (PH.le.refl _) pr .none)
  | some i=>exact h.elim
 | some e=>cases lo with
  | none=>exact h.elim
  | some i=>
   refine Ev.run (e:=e) h r pr fun Φ' v s' l x' rp=>?_
   refine int_elim rp fun t=>?_
   exact k Φ' _ s' l x' (.int i t)
theorem Ev.slice {value:PySem.Expr} {lower upper:Option PySem.Expr} {p pos:Pos} {xs:List AV} {lo hi:Option Int} (h:Ev g d sc σ value (.lst xs)) (hl:EvP g d sc σ lower lo) (hu:EvP g d sc σ upper hi) (hs:small xs.length)
  (ht:autoParam (∀ o r,letTemporaryGo value o r=pure ()) aR):Ev g d sc σ (.Subscript value (.Slice lower upper Option.none p) pos) (.lst (cut xs lo hi Option.none)):=fun A env Φ Ψ s r x=>
 wpAny_Subscript_Slice (T:="list") list_getitem_lookup (h.run r x fun Φ₁ v s₁ l₁ x₁ r₁=>wpAny_Slice (hl.run r x₁ fun Φ₂ vl s₂ l₂ x₂ p₂=>hu.run r x₂ fun Φ₃ vu s₃ l₃ x₃ p₃=>by
  refine lst_elim (Rep.mono (l₂.trans l₃) _ _ r₁) fun a o vs ho hll hv=>?_
  refine wpAny_pure ?_
  have hp:=x₃.hp.allocX {cls:=.type "slice",data:=.fields #[vl,vu,.none]}
  have hL:=isList_of hp ho hll
  refine⟨hL.typeIs,wpAny_getItem_list_slice hL (Heap.IsSliceOf.new ..) p₂ p₃ .none (by decide) ?_ (by rw[size_of hv];exact small_line hs)⟩
  refine Ret.up ((l₁.trans l₂).trans l₃) ?_
  have e:(slicePick vs lo hi Option.none)=(slicePick vs lo hi Option.none).toList.toArray:=by simp
  rw[e]
  exact ret_lst hp (repL_cut hv lo hi Option.none))) ht
theorem Ev.sliceSt {value st:PySem.Expr} {lower upper:Option PySem.Expr} {p pos:Pos} {xs:List AV} {lo hi:Option Int} {k:Int} (h:Ev g d sc σ value (.lst xs)) (hl:EvP g d sc σ lower lo) (hu:EvP g d sc σ upper hi) (hst:EvP g d sc σ (some st) (some k)) (hk:k≠0) (hs:small xs.length)
  (ht:autoParam (∀ o r,letTemporaryGo value o r=pure ()) aR):Ev g d sc σ (.Subscript value (.Slice lower upper (some st) p) pos) (.lst (cut xs lo hi (some k))):=fun A env Φ Ψ s r x=>
 wpAny_Subscript_Slice_step (T:="list") list_getitem_lookup (h.run r x fun Φ₁ v s₁ l₁ x₁ r₁=>wpAny_Slice (hl.run r x₁ fun Φ₂ vl s₂ l₂ x₂ p₂=>hu.run r x₂ fun Φ₃ vu s₃ l₃ x₃ p₃=>hst.run r x₃ fun Φ₄ vt s₄ l₄ x₄ p₄=>by
  refine lst_elim (Rep.mono ((l₂.trans l₃).trans l₄) _ _ r₁) fun a o vs ho hll hv=>?_
  have hp:=x₄.hp.allocX {cls:=.type "slice",data:=.fields #[vl,vu,vt]}
  have hL:=isList_of hp ho hll
  refine⟨hL.typeIs,wpAny_getItem_list_slice hL (Heap.IsSliceOf.new ..) p₂ p₃ p₄ (by simpa using hk) ?_ (by rw[size_of hv];exact small_line hs)⟩
  refine Ret.up (((l₁.trans l₂).trans l₃).trans l₄) ?_
  have e:(slicePick vs lo hi (some k))=(slicePick vs lo hi (some k)).toList.toArray:=by simp
  rw[e]
  exact ret_lst hp (repL_cut hv lo hi (some k)))) ht
theorem partValue_of {v:Value} {lo:Option Int} (h:IsPart v lo):∃ l:Option (Int × Tok),v=partValue l∧l.map (·.1)=lo:=by
 cases h with
 | none=>exact⟨Option.none,rfl,rfl⟩
 | int i t=>exact⟨some (i,t),rfl,rfl⟩
theorem Ev.sliceS {value:PySem.Expr} {lower upper:Option PySem.Expr} {p pos:Pos} {x:Str} {lo hi:Option Int} (h:Ev g d sc σ value (.str x)) (hl:EvP g d sc σ lower lo) (hu:EvP g d sc σ upper hi) (hs:small x.length)
  (ht:autoParam (∀ o r,letTemporaryGo value o r=pure ()) aR):Ev g d sc σ (.Subscript value (.Slice lower upper Option.none p) pos) (.str (Txt.slice x lo hi)):=fun A env Φ Ψ s r pr=>
 wpAny_Subscript_str_slice (h.run r pr fun Φ₁ v s₁ l₁ x₁ r₁=>hl.run r x₁ fun Φ₂ vl s₂ l₂ x₂ p₂=>hu.run r x₂ fun Φ₃ vu s₃ l₃ x₃ p₃=>by
  refine str_elim r₁ fun t=>?_
  obtain⟨l,rfl,rfl⟩:=partValue_of p₂
  obtain⟨u,rfl,rfl⟩:=partValue_of p₃
  refine⟨x,t,l,u,rfl,rfl,rfl,?_⟩
  refine post_val_or_str ⟨Nat.le_trans (Txt.slice_le x _ _) (small_line hs),fun t' k=>?_⟩
  exact Ret.up ((l₁.trans l₂).trans l₃) (Ret.intro ((x₃.hp.allocX _).tok _) rep_str)) ht
theorem repL_rep {Φ:PH} {xs:List AV} {vs:List Value} (h:RepL Φ xs vs):∀ n:Nat,RepL Φ (List.replicate n xs).flatten (List.replicate n vs).flatten
 | 0=>by simpa using repL_nil
 | n+1=>by simpa [List.replicate_succ] using repL_append h (repL_rep h n)
theorem Op2.mulL {xs:List AV} {i:Int} (hi:i<1000000) (hi0:-1000000<i) (hne:xs.isEmpty=false) (h:small (xs.length*i.toNat)):Op2 g d (binaryOp .Mult) (.lst xs) (.int i) (.lst (List.replicate i.toNat xs).flatten):=fun A Φ Ψ s v u r hp ra rb=>by
 refine box fun bX bk=>?_
 obtain⟨a,o,vs,rfl,ho,⟨n,rfl⟩,hx⟩:=lst_inv ra
 refine bk ?_
 clear bk bX
 refine int_elim rb fun t=>?_
 have g1:=hp.getΦ ho
 have hsz:=size_of hx
 have hemp:vs.isEmpty=false:=by
  cases xs with
  | nil=>cases hne
  | cons x xs=>simp only[List.length_cons] at hsz;simp[Array.isEmpty,hsz]
 have hm:vs.size*i.toNat≤1000000:=by rw[hsz];exact h
 refine wpAny_binaryOp_repeat_ref (T:="list") (U:="int") (by decide) ⟨_,g1,rfl⟩ (fun s'=>typeIs_int s' i t) noFill_list_mul F.fills_int_mul F.slot_int_rmul repeat_list F.slot_int_index.lookup
  (call_meets F.slot_int_rmul (typeIs_int s i t) F.entry_int_rmul (F.args_int_rmul_2 _ _) (int___rmul___int_list i t a vs n)
   ⟨g1,rfl,⟨_,g1,rfl⟩,call_meets F.slot_list_mul ⟨_,g1,rfl⟩ F.entry_list_mul (F.args_list_mul_2 _ _)
    (AutoListH.list___mul___list_int_3 a vs n i t (by simp[Builtin.List.listFitsIndex];(clear hm hemp hsz g1 ho hx ra rb hp r h hne;lia)) (by(clear hemp hsz g1 ho hx ra rb hp r h hne hi0 hi;lia)) (by simp[Builtin.List.listTooLong,sizeLine];(clear hemp hsz g1 ho hx ra rb hp r h hne hi0 hi;lia)))
    ⟨g1,?_⟩⟩)
 rw[if_neg (by rw[hemp];exact Bool.false_ne_true),listMul_foldl]
 have z:=repL_rep hx i.toNat
 have q:=ret_lst hp z
 simpa using q
end
end Mine.Internal
end
section
open PySem PySem.W PySem.Calls PyProof.Rows PyProof PySem.SeqAt
namespace Mine.Internal
section
variable {g:Glob} {d:Nat} {sc:Scope} {σ:Sig} {ω:Ow}
noncomputable def Keep (g:Glob) (f:Value):Prop:=∀ Φ Ψ s,Hp g Φ Ψ s→∃ k,(k=Keeper.frame∨k=Keeper.machine∨k=Keeper.boundFrame)∧Looks (model PR g.w) s.heap (keeperOf f) k
theorem Keep.bi (id:String):Keep g (.builtin id):=fun Φ Ψ s hp=>⟨.machine,.inr (.inl rfl),Looks.now⟩
theorem Keep.ty (id:String):Keep g (.type id):=fun Φ Ψ s hp=>⟨.machine,.inr (.inl rfl),Looks.now⟩
theorem Keep.k {f:Value} (h:keepIn (KB g.w) f=true):Keep g f:=fun Φ Ψ s hp=>keeps_K h s.heap hp.kin
theorem evalArgs_nilW {A:Around} {s:Shared} {f:Value} {Q:Args→Shared→Prop} (h:W g.w A (spliced []) (fun vs s'=>Q ⟨vs,[]⟩ s') s):W g.w A (evalArgs f true [] []) Q s:=by
 unfold evalArgs
 show W g.w A (spliced []>>=_) Q s
 refine wpAny_bind (h.mono fun vs s' q=>wpAny_bind (wpAny_pure ?_))
 refine wpAny_holding ?_
 exact wpAny_bind (wpAny_pure (wpAny_bind (wpAny_pure (wpAny_pure q))))
theorem evalArgs_W {A:Around} {env:Env} {Φ Ψ:PH} {s:Shared} {f:Value} {pos:Pos} {es:List PySem.Expr} {avs:List AV} {Q:Args→Shared→Prop} (r:Room d A) (x:Pre g sc σ env Φ Ψ s) (h:EvL g d sc σ es avs)
  (hst:∀ env,((backTo pos (starEach es env)).any (·.1))=false)
  (k:∀ Φ' vs s',PH.le Φ Φ'→Pre g sc σ env Φ' Ψ s'→RepL Φ' avs vs→Q ⟨vs,[]⟩ s'):W g.w A (evalArgs f true (backTo pos (starEach es env)) []) Q s:=by
 have hs:=hst env
 have go:=h A env Φ Ψ s pos r x
 have fin:∀ vs s',RetL g Φ Ψ avs vs s'→Q ⟨vs,[]⟩ s':=fun vs s' q0=>q0.casesOn fun Φ' l hp rp=>k Φ' vs s' l (x.next l hp) rp
 cases hb:backTo pos (starEach es env) with
 | nil=>
  rw[hb] at go
  exact evalArgs_nilW (go.mono fin)
 | cons p rest=>
  obtain⟨st,t⟩:=p
  rw[hb] at hs go
  have hst':st=false:=by simp only[List.any_cons,Bool.or_eq_false_iff] at hs;exact hs.1
  subst hst'
  exact Calls.evalArgs_plain (go.mono fin)
theorem callWith_W {A:Around} {env:Env} {Φ Ψ:PH} {s:Shared} {f:Value} {pos:Pos} {first:List Value} {favs:List AV} {es:List PySem.Expr} {avs:List AV} {c:AV} (r:Room d A) (x:Pre g sc σ env Φ Ψ s) (hf:RepL Φ favs first) (hk:Keep g f)
  (h:EvL g d sc σ es avs) (hfn:Fn g d σ.own f (favs++avs) [] c) (hst:∀ env,((backTo pos (starEach es env)).any (·.1))=false) :
  W g.w A (callWith pos f first (backTo pos (starEach es env)) []) (Ret g Φ Ψ c) s:=by
 refine callWith_of (P:=fun h=>∃ k,(k=Keeper.frame∨k=Keeper.machine∨k=Keeper.boundFrame)∧Looks (model PR g.w) h (keeperOf f) k) ?_ (fun h q=>q) ?_
 ·rw[hst env];rfl
 ·refine evalArgs_W r x h hst fun Φ' vs s' l x' rp=>⟨hk Φ' Ψ s' x'.hp,?_⟩
  exact W.mono (hfn A Φ' Ψ s' (first++vs) [] r x'.hp x'.own (repL_append (RepL.mono l _ _ hf) rp) rfl repL_nil) fun _ _ q=>Ret.up l q
theorem Ev.call {id:Str} {p pos:Pos} {f:Value} {es:List PySem.Expr} {avs:List AV} {c:AV} (h1:Ev g d sc σ (.Name id p) (.raw f)) (hk:Keep g f) (h:EvL g d sc σ es avs) (hfn:Fn g d σ.own f avs [] c)
  (hst:autoParam (∀ env,((backTo pos (starEach es env)).any (·.1))=false) aR):Ev g d sc σ (.Call (.Name id p) es [] pos) c:=fun A env Φ Ψ s r x=>by
 rw[arm_eval_Call_Name']
 refine wpAny_bind (h1.run r x fun Φ₁ v s₁ l₁ x₁ r₁=>?_)
 replace r₁:_=_:=r₁
 subst r₁
 exact W.mono (callWith_W r x₁ repL_nil hk h hfn hst) fun _ _ q=>Ret.up l₁ q
inductive GPost (g:Glob) (Φ Ψ:PH) (f:Value) (favs:List AV) (p:Value × List Value) (s:Shared):Prop
 | mk (e:p.1=f) (Φ':PH) (l:PH.le Φ Φ') (h:Hp g Φ' Ψ s) (r:RepL Φ' favs p.2)
noncomputable def Gm (g:Glob) (d:Nat) (a:AV) (name:Str) (f:Value) (favs:List AV):Prop:=
 ∀ A Φ Ψ s v pl,Room d A→Hp g Φ Ψ s→Rep Φ a v→W g.w A (getMethod v name pl) (GPost g Φ Ψ f favs) s
theorem Ev.meth {o:PySem.Expr} {name:Str} {apos pos:Pos} {a:AV} {f:Value} {favs:List AV} {es:List PySem.Expr} {avs:List AV} {c:AV} (h1:Ev g d sc σ o a) (hm:Gm g d a name f favs) (hk:Keep g f) (h:EvL g d sc σ es avs) (hfn:Fn g d σ.own f (favs++avs) [] c)
  (hbase:autoParam (∀ env,attributeBase o name env (eval o env)=eval o env) aR) (hline:autoParam ((apos.endLine==pos.line)=true) aR)
  (hform:autoParam (∀ env,methodCallForm (es.length+([]:List Keyword).length) (backTo pos (starEach es env)) (backToKw pos (keywordEach [] env))=true) aR)
  (hst:autoParam (∀ env,((backTo pos (starEach es env)).any (·.1))=false) aR):Ev g d sc σ (.Call (.Attribute o name apos) es [] pos) c:=fun A env Φ Ψ s r x=>by
 rw[arm_eval_Call,hbase env]
 refine wpAny_bind (h1.run r x fun Φ₁ v s₁ l₁ x₁ r₁=>wpAny_bind (wpAny_standAt ?_))
 have hpos:methodCallPos true o env apos pos=pure pos:=by unfold methodCallPos;simp[hline]
 unfold methodCall
 rw[hform env]
 refine wpAny_bind (wpAny_holding ?_)
 show W g.w A (getMethod v name (do return (←importBound o env).getD true)) _ _
 refine W.mono (hm A Φ₁ Ψ s₁ v _ r x₁.hp r₁) ?_
 rintro⟨f',first⟩ s₂ ⟨rfl,Φ₂,l₂,hp₂,hr₂⟩
 refine wpAny_bind (wpAny_of_eq hpos ?_)
 exact W.mono (callWith_W r (x₁.next l₂ hp₂) hr₂ hk h hfn hst) fun _ _ q=>Ret.up (l₁.trans l₂) q
theorem Gm.str {x name:Str} {id:String} (slot:Slot "str" name id) (hty:typeOf (.builtin id)=pure (.type "method_descriptor")):Gm g d (.str x) name (.builtin id) [.str x]:=fun A Φ Ψ s v pl r hp ra=>by
 refine str_elim ra fun t=>?_
 exact getMethod_builtin (typeIs_str s x t) F.plainAttrs_str slot hty (fun a e=>nomatch e) ⟨rfl,Φ,PH.le.refl _,hp,repL_cons rep_str repL_nil⟩
theorem Fn.one {f:Value} {a c:AV} (h:∀ A Φ Ψ s v,Room d A→Hp g Φ Ψ s→Owns Φ Ψ ω→Rep Φ a v→W g.w A (PySem.call f [v] []) (Ret g Φ Ψ c) s):Fn g d ω f [a] [] c:=fun A Φ Ψ s vs ks r hp ho ra hk rk=>by
 refine repL_cons_elim ra fun v ws hv hw=>?_
 have:=repL_nil_inv hw
 subst this
 have:ks=[]:=by simpa using hk
 subst this
 exact h A Φ Ψ s v r hp ho hv
theorem Fn.two {f:Value} {a b c:AV} (h:∀ A Φ Ψ s v u,Room d A→Hp g Φ Ψ s→Owns Φ Ψ ω→Rep Φ a v→Rep Φ b u→W g.w A (PySem.call f [v,u] []) (Ret g Φ Ψ c) s):Fn g d ω f [a,b] [] c:=fun A Φ Ψ s vs ks r hp ho ra hk rk=>by
 refine repL_cons_elim ra fun v ws hv hw=>?_
 refine repL_cons_elim hw fun u us hu hw'=>?_
 have:=repL_nil_inv hw'
 subst this
 have:ks=[]:=by simpa using hk
 subst this
 exact h A Φ Ψ s v u r hp ho hv hu
theorem Fn.len {xs:List AV} (h:small xs.length):Fn g d ω (.builtin "len") [.lst xs] [] (.int xs.length):=.one fun A Φ Ψ s v r hp how ra=>by
 refine lst_elim ra fun a o vs ho hl hv=>?_
 have hs:=size_of hv
 refine call_len_list (isList_of hp ho hl) (by rw[hs];exact small_lt h) ?_
 rw[hs]
 exact Ret.intro (hp.tok _) rep_int
end
end Mine.Internal
end
section
open PySem PySem.W PySem.Calls PyProof.Rows PyProof PySem.SeqAt
namespace Mine.Internal
section
variable {g:Glob} {d:Nat} {sc:Scope} {σ:Sig} {env:Env} {A:Around} {Φ Ψ:PH} {s:Shared}
noncomputable def VSlot (sc:Scope) (env:Env) (x:Str) (a:Addr):Prop:=(kindIn sc x=some .local∧a=env.locals)∨(kindIn sc x=some .cell∧env.cells.lookup x=some a)
theorem Vars.put {fr:Str→Option Value} {vs:List (Str × AV)} {x:Str} {av:AV} {v:Value} (h:Vars sc Φ fr vs) (hk:varKind sc x=true) (r:Rep Φ av v) :
  Vars sc Φ (fun y=>if y=x then some v else fr y) ((x,av)::vs):=fun y a e=>by
 rw[List.lookup_cons] at e
 by_cases hy:y=x
 ·subst hy
  rw[beq_self_eq_true] at e
  cases e
  exact⟨hk,v,by simp,r⟩
 ·have hb:(y==x)=false:=beq_eq_false_iff_ne.mpr hy
  rw[hb] at e
  obtain⟨k,w,q,r'⟩:=h y a e
  exact⟨k,w,by simp only[hy,if_false];exact q,r'⟩
theorem wp_store {x:Str} {av:AV} {v:Value} {Q:Unit→Shared→Prop} (pr:Pre g sc σ env Φ Ψ s) (hk:kindIn sc x=some .local∨kindIn sc x=some .cell)
  (hc:∀ c,kindIn sc x=some .cell→env.cells.lookup x=some c→Φ c=none)
  (inj:∀ y c,kindIn sc x=some .cell→env.cells.lookup x=some c→env.cells.lookup y=some c→y=x)
  (own:∀ a,VSlot sc env x a→σ.own.lookup a=none) (rp:Rep Φ av v)
  (h:∀ Ψ' s',Pre g sc (σ.put x av) env Φ Ψ' s'→(∀ b,¬ VSlot sc env x b→Ψ' b=Ψ b)→Q () s'):W g.w A (storeName env x v) Q s:=by
 refine box fun bX bk=>?_
 obtain⟨fr,hf,hv⟩:=pr.fr
 refine bk ?_
 clear bk bX
 have hkd:env.scope.kind=.function:=by rw[pr.ev.scE];exact pr.ev.kd
 have hvk:varKind sc x=true:=by unfold varKind;rcases hk with e | e<;>rw[e]
 have ownF:∀ (a:Addr) (o':Obj),VSlot sc env x a→Owns Φ (Ψ.put a o') σ.own:=fun a o' sl b ov e=>by
  have hb:b≠a:=fun q=>by rw[q,own a sl] at e;cases e
  let ⟨oo,q,r⟩:=pr.own b ov e;exact⟨oo,(PH.put_other Ψ o' hb).trans q,r⟩
 refine box fun bX bk=>?_
 obtain⟨o,es,ep,h1,h2,h3,h4⟩:=hf.loc
 refine bk ?_
 clear bk bX
 rcases hk with hk | hk
 ·have ns:s.heap.Ns env.locals (nsFind es):=⟨o,es,ep,pr.hp.getΨ h1,h2,h3,fun _=>rfl⟩
  have sl:VSlot sc env x env.locals:=.inl ⟨hk,rfl⟩
  refine wpAny_storeName_local (by rw[pr.ev.kind];exact hk) ns (fun h' ns' sb=>?_) (by rw[hkd];rfl)
  refine box fun bX bk=>?_
  obtain⟨o',es',ep',g1,g2,g3,g4⟩:=ns'
  refine bk ?_
  clear bk bX
  refine h (Ψ.put env.locals o') _ ⟨pr.ev,(pr.hp.same h1 sb g1).tok _,⟨fun y=>if y=x then some v else fr y,⟨⟨o',es',ep',PH.put_self _ _ _,g2,g3,fun y hy=>?_⟩,fun y hy=>?_⟩,hv.put hvk rp⟩,ownF _ _ sl⟩ fun b hb=>PH.put_other _ _ fun q=>hb (q▸sl)
  ·rw[g4 y]
   by_cases q:y=x
   ·simp[q]
   ·simp only[q,if_false];exact h4 y hy
  ·have q:y≠x:=fun q=>by rw[q,hk] at hy;rcases hy with e | e<;>cases e
   refine box fun bX bk=>?_
   obtain⟨c,oc,e1,e2,e3⟩:=hf.cel y hy
   refine bk ?_
   clear bk bX
   refine⟨c,oc,e1,?_,by simp only[q,if_false];exact e3⟩
   rcases e2 with e2 | e2
   ·exact .inl e2
   ·have hcl:c≠env.locals:=fun q=>by rw[q,h1] at e2;cases e2;rw[h2] at e3;cases e3
    exact .inr (by rw[PH.put_other Ψ o' hcl];exact e2)
 ·refine box fun bX bk=>?_
  obtain⟨c,oc,e1,e2,e3⟩:=hf.cel x (.inl hk)
  refine bk ?_
  clear bk bX
  have sl:VSlot sc env x c:=.inr ⟨hk,e1⟩
  have e2':Ψ c=some oc:=e2.resolve_left (by rw[hc c hk e1];exact fun e=>nomatch e)
  refine wpAny_storeName_cell hkd (by rw[pr.ev.kind];exact hk) e1 ⟨oc,pr.hp.getΨ e2',e3⟩ fun h' ic sb=>?_
  refine box fun bX bk=>?_
  obtain⟨o',g1,g2⟩:=ic
  refine bk ?_
  clear bk bX
  have hcl:env.locals≠c:=fun q=>by rw[←q,h1] at e2';cases e2';rw[h2] at e3;cases e3
  refine h (Ψ.put c o') _ ⟨pr.ev,pr.hp.same e2' sb g1,⟨fun y=>if y=x then some v else fr y,⟨⟨o,es,ep,by rw[PH.put_other Ψ o' hcl];exact h1,h2,h3,fun y hy=>?_⟩,fun y hy=>?_⟩,hv.put hvk rp⟩,ownF _ _ sl⟩ fun b hb=>PH.put_other _ _ fun q=>hb (q▸sl)
  ·have q:y≠x:=fun q=>by rw[q,hk] at hy;cases hy
   simp only[q,if_false];exact h4 y hy
  ·by_cases q:y=x
   ·subst q
    exact⟨c,o',e1,.inr (PH.put_self _ _ _),by simpa using g2⟩
   ·refine box fun bX bk=>?_
    obtain⟨c',oc',f1,f2,f3⟩:=hf.cel y hy
    refine bk ?_
    clear bk bX
    refine⟨c',oc',f1,?_,by simp only[q,if_false];exact f3⟩
    rcases f2 with f2 | f2
    ·exact .inl f2
    ·have hcc:c'≠c:=fun z=>q (inj y c hk e1 (z▸f1))
     exact .inr (by rw[PH.put_other Ψ o' hcc];exact f2)
noncomputable def IsFr (sc:Scope) (env:Env) (z:List Str) (a:Addr):Prop:=a=env.locals∨∃ x,kindIn sc x=some .cell∧x∉z∧env.cells.lookup x=some a
theorem VSlot.isFr {x:Str} {a:Addr} {z:List Str} (h:VSlot sc env x a) (hz:kindIn sc x=some .local∨x∉z):IsFr sc env z a:=by
 rcases h with ⟨_,e⟩ | ⟨k,e⟩
 ·exact .inl e
 ·exact .inr ⟨x,k,hz.resolve_left (by rw[k];exact fun e=>nomatch e),e⟩
inductive AtPre (g:Glob) (sc:Scope) (env:Env) (σ:Sig) (B Φ:PH) (s:Shared):Prop
 | mk (Ψ:PH) (pr:Pre g sc σ env Φ Ψ s) (hb:PH.le B Ψ)
structure At (g:Glob) (sc:Scope) (env:Env) (σ:Sig) (B Φ:PH) (s:Shared):Prop where
 pre:AtPre g sc env σ B Φ s
 out:∀ a,IsFr sc env σ.frz a→B a=none∧σ.own.lookup a=none
 mine:∀ a∈σ.mt,B a=none∧(σ.own.lookup a).isSome=true
 cel:∀ x c,kindIn sc x=some .cell→x∉σ.frz→env.cells.lookup x=some c→Φ c=none
 inj:∀ x y c,kindIn sc x=some .cell→x∉σ.frz→env.cells.lookup x=some c→env.cells.lookup y=some c→y=x
noncomputable def stB (sc:Scope) (σ:Sig) (x:Str):Bool:=kindIn sc x==some .local||(kindIn sc x==some .cell&&!σ.frz.contains x)
theorem stB_kind {x:Str} (h:stB sc σ x=true):kindIn sc x=some .local∨(kindIn sc x=some .cell∧x∉σ.frz):=
 (Bool.or_eq_true_iff.mp h).imp beq_iff_eq.mp fun h=>⟨beq_iff_eq.mp (Bool.and_eq_true_iff.mp h).1,by simpa using (Bool.and_eq_true_iff.mp h).2⟩
variable {B Φ₀:PH}
theorem At.next {Φ' Ψ':PH} {s':Shared} (x:At g sc env σ B Φ s) (h:PH.le Φ Φ') (y:Pre g sc σ env Φ' Ψ' s') (hb:PH.le B Ψ') (hcl:∀ a,IsFr sc env σ.frz a→Φ a=none→Φ' a=none):At g sc env σ B Φ' s':=
 ⟨⟨Ψ',y,hb⟩,x.out,x.mine,fun z c k f e=>hcl c (.inr ⟨z,k,f,e⟩) (x.cel z c k f e),x.inj⟩
theorem At.store {x:Str} {av:AV} {v:Value} {Q:Unit→Shared→Prop} (h:At g sc env σ B Φ s) (hx:stB sc σ x=true) (rp:Rep Φ av v) (k:∀ s',At g sc env (σ.put x av) B Φ s'→Q () s'):W g.w A (storeName env x v) Q s:=by
 obtain⟨Ψ,pr,hb⟩:=h.pre
 have hk:=stB_kind hx
 have hz:kindIn sc x=some .local∨x∉σ.frz:=hk.imp id (·.2)
 have hn:kindIn sc x=some .cell→x∉σ.frz:=fun hk'=>hz.resolve_left (by rw[hk'];exact fun e=>nomatch e)
 refine wp_store pr (hk.imp id (·.1)) (fun c hk' e=>h.cel x c hk' (hn hk') e) (fun y c hk' e e'=>h.inj x y c hk' (hn hk') e e') (fun a sl=>(h.out a (sl.isFr hz)).2) rp fun Ψ' s' pr' same=>k s' ⟨⟨Ψ',pr',fun b o e=>?_⟩,h.out,h.mine,h.cel,h.inj⟩
 rw[same b fun sl=>by rw[(h.out b (sl.isFr hz)).1] at e;cases e]
 exact hb b o e
theorem At.frame {Ψ':PH} {s':Shared} (x:At g sc env σ B Φ s) {Φ':PH} (h:PH.le Φ Φ') (y:Pre g sc σ env Φ' Ψ' s') (hb:PH.le B Ψ')
  (hown:∀ a,IsFr sc env σ.frz a→Φ a=none→(Ψ' a).isSome=true):At g sc env σ B Φ' s':=
 x.next h y hb fun a fa e=>(y.hp.dis a).resolve_right fun q=>by have:=hown a fa e;rw[q] at this;cases this
theorem Pre.owned (y:Pre g sc σ env Φ Ψ s) {a:Addr} {z:List Str} (fa:IsFr sc env z a) (e:Φ a=none):(Ψ a).isSome=true:=by
 obtain⟨fr,hf,_⟩:=y.fr
 rcases fa with q | ⟨x,k,_,l⟩
 ·obtain⟨o,_,_,h1,_⟩:=hf.loc
  rw[q,h1];rfl
 ·obtain⟨c,o,e1,e2,_⟩:=hf.cel x (.inl k)
  rw[l] at e1;cases e1
  rcases e2 with e2 | e2
  ·rw[e] at e2;cases e2
  ·rw[e2];rfl
theorem Ev.at {e:PySem.Expr} {av:AV} {Q:Value→Shared→Prop} (h:Ev g d sc σ e av) (r:Room d A) (x:At g sc env σ B Φ s) (k:∀ Φ' v s',PH.le Φ Φ'→At g sc env σ B Φ' s'→Rep Φ' av v→Q v s'):W g.w A (eval e env) Q s:=by
 obtain⟨Ψ,pr,hb⟩:=x.pre
 exact h.run r pr fun Φ' v s' l y rp=>k Φ' v s' l (x.frame l y hb fun a fa e=>pr.owned fa e) rp
theorem Ts.at {e:PySem.Expr} {b:Bool} {Q:Bool→Shared→Prop} (h:Ts g d sc σ e b) (r:Room d A) (x:At g sc env σ B Φ s) (k:∀ Φ' s',PH.le Φ Φ'→At g sc env σ B Φ' s'→Q b s'):W g.w A (isTrue e env (eval e env)) Q s:=by
 obtain⟨Ψ,pr,hb⟩:=x.pre
 exact h.run r pr fun Φ' s' l y=>k Φ' s' l (x.frame l y hb fun a fa e=>pr.owned fa e)
noncomputable def Bk (g:Glob) (sc:Scope) (env:Env) (A:Around) (Φ₀ B:PH) (σ:Sig) (b:List Stmt) (Q:Flow→Shared→Prop):Prop:=
 ∀ Φ s,PH.le Φ₀ Φ→At g sc env σ B Φ s→W g.w A (execs b env) Q s
noncomputable def cont (g:Glob) (env:Env) (A:Around) (rest:List Stmt) (Q:Flow→Shared→Prop):Flow→Shared→Prop:=fun f s=>match f with
 | .next=>W g.w A (execs rest env) Q s
 | f=>Q f s
variable {rest:List Stmt} {Q:Flow→Shared→Prop}
theorem Bk.nil (h:∀ Φ s,PH.le Φ₀ Φ→At g sc env σ B Φ s→Q .next s):Bk g sc env A Φ₀ B σ [] Q:=fun Φ s l x=>wpAny_execs_nil (h Φ s l x)
theorem Bk.go (h:Bk g sc env A Φ₀ B σ rest Q):Bk g sc env A Φ₀ B σ [] (cont g env A rest Q):=.nil fun Φ s l x=>h Φ s l x
theorem Bk.step {st:Stmt} (h:∀ Φ s,PH.le Φ₀ Φ→At g sc env σ B Φ s→W g.w A (exec st env) (cont g env A rest Q) s):Bk g sc env A Φ₀ B σ (st::rest) Q:=fun Φ s l x=>
 wpAny_execs_cons ((h Φ s l x).mono fun f s' q=>by cases f<;>exact q)
theorem Bk.assign {x:Str} {p pos:Pos} {e:PySem.Expr} {av:AV} (r:Room d A) (h:Ev g d sc σ e av) (hx:stB sc σ x=true) (k:Bk g sc env A Φ₀ B (σ.put x av) rest Q)
  (hs:autoParam (swapsWith e (some (.Name x p)) pos.line env=pure false) aR):Bk g sc env A Φ₀ B σ (.Assign [.Name x p] e pos::rest) Q:=.step fun Φ s l y=>
 wpAny_Assign_Name (h.at r y fun Φ' v s' l' y' rp=>y'.store hx rp fun s'' y''=>k Φ' s'' (l.trans l') y'') hs
theorem Bk.ret {e:PySem.Expr} {pos:Pos} {av:AV} (r:Room d A) (h:Ev g d sc σ e av) (k:∀ Φ v s,PH.le Φ₀ Φ→At g sc env σ B Φ s→Rep Φ av v→Q (.ret v) s):Bk g sc env A Φ₀ B σ (.Return (some e) pos::rest) Q:=.step fun Φ s l y=>
 wpAny_Return_some (h.at r y fun Φ' v s' l' y' rp=>k Φ' v s' (l.trans l') y' rp)
theorem Bk.ret0 {pos:Pos} (k:∀ Φ s,PH.le Φ₀ Φ→At g sc env σ B Φ s→Q (.ret .none) s):Bk g sc env A Φ₀ B σ (.Return Option.none pos::rest) Q:=.step fun Φ s l y=>
 wpAny_Return_none (k Φ s l y)
theorem Bk.ite {t:PySem.Expr} {b1 b2:List Stmt} {pos:Pos} {b:Bool} (r:Room d A) (h:Ts g d sc σ t b) (h1:b=true→Bk g sc env A Φ₀ B σ b1 (cont g env A rest Q)) (h2:b=false→Bk g sc env A Φ₀ B σ b2 (cont g env A rest Q)) :
  Bk g sc env A Φ₀ B σ (.If t b1 b2 pos::rest) Q:=.step fun Φ s l y=>
 wpAny_If (h.at r y fun Φ' s' l' y'=>by
  cases b with
  | true=>exact h1 rfl Φ' s' (l.trans l') y'
  | false=>exact h2 rfl Φ' s' (l.trans l') y')
theorem Bk.brk {pos:Pos} (k:∀ Φ s,PH.le Φ₀ Φ→At g sc env σ B Φ s→Q .brk s):Bk g sc env A Φ₀ B σ (.Break pos::rest) Q:=.step fun Φ s l y=>by
 show W g.w A (standAt pos>>=fun _=>pure Flow.brk) _ s
 exact wpAny_bind (wpAny_standAt (wpAny_pure (k Φ s l y)))
theorem Bk.aug {x:Str} {p pos:Pos} {op:Operator} {e:PySem.Expr} {a b c:AV} (r:Room d A) (hx:stB sc σ x=true) (h0:σ.vars.lookup x=some a) (h:Ev g d sc σ e b) (ho:Op2 g d (inplaceOp op) a b c)
  (k:Bk g sc env A Φ₀ B (σ.put x c) rest Q):Bk g sc env A Φ₀ B σ (.AugAssign (.Name x p) op e pos::rest) Q:=.step fun Φ s l y=>by
 obtain⟨Ψ,pr,hb⟩:=y.pre
 obtain⟨fr,hf,hv⟩:=pr.fr
 obtain⟨hk,v,hx',rp⟩:=hv x a h0
 refine wpAny_AugAssign_Name (wp_local pr.ev pr.hp hf hk hx' (h.at r y fun Φ' v' s' l' y' rp'=>?_))
 obtain⟨Ψ',pr',hb'⟩:=y'.pre
 refine(ho A Φ' Ψ' s' v v' r pr'.hp (Rep.mono l' _ _ rp) rp').mono fun u s'' q0=>q0.casesOn fun Φ'' l'' hp'' rp''=>?_
 have y'':=y'.frame l'' (pr'.next l'' hp'') hb' fun a fa e=>pr'.owned fa e
 exact y''.store hx rp'' fun s3 y3=>k Φ'' s3 ((l.trans l').trans l'') y3
theorem At.vars {σ':Sig} (x:At g sc env σ B Φ s) (hv:∀ y av,σ'.vars.lookup y=some av→σ.vars.lookup y=some av) (ho:σ'.own=σ.own) (hf:σ'.frz=σ.frz) (hm:σ'.mt=σ.mt):At g sc env σ' B Φ s:=by
 obtain⟨Ψ,pr,hb⟩:=x.pre
 refine⟨⟨Ψ,⟨pr.ev,pr.hp,?_,by rw[ho];exact pr.own⟩,hb⟩,by rw[ho,hf];exact x.out,by rw[ho,hm];exact x.mine,by rw[hf];exact x.cel,by rw[hf];exact x.inj⟩
 obtain⟨fr,a,b⟩:=pr.fr
 exact⟨fr,a,fun y av e=>b y av (hv y av e)⟩
end
end Mine.Internal
end
section
open PySem PySem.W PySem.Calls PyProof.Rows PyProof PySem.SeqAt
namespace Mine.Internal
section
variable {g:Glob} {d:Nat} {sc:Scope} {σ:Sig} {env:Env} {A:Around} {Φ Ψ B Φ₀:PH} {s:Shared}
theorem Hp.ext (x:Hp g Φ Ψ s) {h':Heap} {tk:Nat} (k:∀ b o,s.heap.get? b=some o→h'.get? b=some o):Hp g Φ Ψ {s with heap:=h',toks:=tk}:=
 ⟨x.k,x.b,fun a o e=>k a o (x.fr a o e),fun a o e=>k a o (x.mu a o e),x.dis,fun P hP=>by
  obtain⟨h1,h2,h3⟩:=x.tab P hP
  refine⟨h1,h2,?_⟩
  obtain⟨vs,e,r⟩:=h3
  exact⟨vs,k _ _ e,r⟩,x.gens,x.os⟩
theorem Hp.but (x:Hp g Φ Ψ s) {a:Addr} {o o':Obj} {h':Heap} {tk:Nat} (ha:Ψ a=some o) (k:∀ b o,b≠a→s.heap.get? b=some o→h'.get? b=some o) (e:h'.get? a=some o'):Hp g Φ (Ψ.put a o') {s with heap:=h',toks:=tk}:=by
 have hΦ:Φ a=none:=(x.dis a).resolve_right (by rw[ha];exact fun e=>nomatch e)
 refine⟨x.k,x.b,fun b ob eb=>?_,fun b ob eb=>?_,fun b=>?_,fun P hP=>?_,x.gens,x.os⟩
 ·have hb:b≠a:=fun q=>by rw[q,hΦ] at eb;cases eb
  exact k b ob hb (x.fr b ob eb)
 ·by_cases hb:b=a
  ·subst hb;rw[PH.put_self] at eb;cases eb;exact e
  ·rw[PH.put_other Ψ o' hb] at eb;exact k b ob hb (x.mu b ob eb)
 ·by_cases hb:b=a
  ·subst hb;exact .inl hΦ
  ·rw[PH.put_other Ψ o' hb];exact x.dis b
 ·have hb:P≠a:=fun q=>by have:=(x.tab P hP).2.1;rw[q,ha] at this;cases this
  refine box fun bX bk=>?_
  obtain⟨h1,h2,vs,e1,r⟩:=x.tab P hP
  refine bk ?_
  clear bk bX
  exact⟨h1,by rw[PH.put_other Ψ o' hb];exact h2,vs,k _ _ hb e1,r⟩
theorem Hp.lose (x:Hp g Φ Ψ s) {a:Addr} {o:Obj} {h':Heap} {tk:Nat} (ha:Ψ a=some o) (k:∀ b o,b≠a→s.heap.get? b=some o→h'.get? b=some o):Hp g Φ (Ψ.drop a) {s with heap:=h',toks:=tk}:=by
 have hΦ:Φ a=none:=(x.dis a).resolve_right (by rw[ha];exact fun e=>nomatch e)
 have y:=x.weaken (PH.drop_le Ψ a)
 refine⟨x.k,x.b,fun b ob eb=>?_,fun b ob eb=>?_,y.dis,fun P hP=>?_,x.gens,x.os⟩
 ·have hb:b≠a:=fun q=>by rw[q,hΦ] at eb;cases eb
  exact k b ob hb (x.fr b ob eb)
 ·by_cases hb:b=a
  ·subst hb;simp[PH.drop] at eb
  ·rw[PH.drop_other Ψ hb] at eb;exact k b ob hb (x.mu b ob eb)
 ·have hb:P≠a:=fun q=>by have:=(x.tab P hP).2.1;rw[q,ha] at this;cases this
  refine box fun bX bk=>?_
  obtain⟨h1,_,vs,e1,r⟩:=x.tab P hP
  refine bk ?_
  clear bk bX
  exact⟨h1,(y.tab P hP).2.1,vs,k _ _ hb e1,r⟩
structure Itr (g:Glob) (I:Addr) (xs:List AV) (St:Nat→Heap→Prop) (fp:List Addr) (Φ:PH):Prop where
 wk:∃ P,(∀ A:Around,A.handled=none→Walks PR g.w A I fp [I] xs.length P St)∧∀ i v,P i v→∃ x,xs[i]?=some x∧Rep Φ x v
 fpΦ:∀ b∈fp,b=I∨∃ o,Φ b=some o
 has:∀ i h,St i h→∃ o T,h.get? I=some o∧o.cls=.type T∧["enumerate","zip","dict_itemiterator","dict_reverseitemiterator","odict_iterator","itertools.zip_longest","itertools.pairwise"].contains T=false∧∃ vs,o.data=.fields vs
theorem Itr.mono {I:Addr} {xs:List AV} {St:Nat→Heap→Prop} {fp:List Addr} {Φ':PH} (x:Itr g I xs St fp Φ) (h:PH.le Φ Φ'):Itr g I xs St fp Φ':=
 ⟨let ⟨P,a,b⟩:=x.wk;⟨P,a,fun i v p=>let ⟨y,e,r⟩:=b i v p;⟨y,e,Rep.mono h _ _ r⟩⟩,fun b hb=>(x.fpΦ b hb).imp id fun q0=>q0.casesOn fun o e=>⟨o,h _ _ e⟩,x.has⟩
noncomputable def IterV (g:Glob) (d:Nat) (av:AV) (xs:List AV):Prop:=∀ A Φ Ψ s v (Q:Value→Shared→Prop),Room d A→Hp g Φ Ψ s→Rep Φ av v →
 (∀ I o St fp s',Φ I=none→Ψ I=none→Hp g Φ (Ψ.put I o) s'→St 0 s'.heap→Itr g I xs St fp Φ→Q (.ref I) s')→W g.w A (pyIter v) Q s
theorem IterV.lst {xs:List AV}:IterV g d (.lst xs) xs:=fun A Φ Ψ s v Q r hp rp k=>by
 refine lst_elim rp fun a o vs ho hl hx=>?_
 have hL:=isList_of hp ho hl
 have ha:a≠s.heap.objs.size:=fun q=>by have:=hp.freshΦ;rw[←q,ho] at this;cases this
 refine wpAny_pyIter_list hL (k _ _ (fun i h=>h.IsListIter s.heap.objs.size a i∧h.IsList a vs) [s.heap.objs.size,a] _ hp.freshΦ hp.freshΨ (hp.allocΨ (o:={cls:=.type "list_iterator",data:=.fields #[.ref a,.int 0 0]}) rfl) ⟨⟨_,Heap.get?_push_size _ rfl,rfl,rfl⟩,hL.at fun o e=>Heap.get?_push_of_some _ e⟩ ⟨⟨fun i v=>vs[i]?=some v,?_,fun i v e=>?_⟩,fun b hb=>?_,fun i h hh=>?_⟩)
 ·intro A' hA
  have:=Walks.list (prog:=PR) (w:=g.w) (A:=A') hA s.heap.objs.size a ha vs
  rw[size_of hx] at this
  exact this
 ·have hlt:i<xs.length:=by have:=(Array.getElem?_eq_some_iff.mp e).1;rw[size_of hx] at this;exact this
  obtain⟨v',e',r'⟩:=repL_get hx (List.getElem?_eq_getElem hlt)
  refine⟨_,List.getElem?_eq_getElem hlt,?_⟩
  rw[Array.getElem?_toList,e] at e'
  cases e';exact r'
 ·simp only[List.mem_cons,List.not_mem_nil,or_false] at hb
  exact hb.imp id fun q=>⟨o,by rw[q];exact ho⟩
 ·obtain⟨⟨o,e1,e2,e3⟩,_⟩:=hh
  exact⟨o,_,e1,e2,by decide,_,e3⟩
noncomputable def chars (x:Str):List AV:=x.cps.toList.map fun c=>.str ⟨#[c]⟩
theorem chars_length (x:Str):(chars x).length=x.cps.size:=by simp[chars]
theorem IterV.str {x:Str}:IterV g d (.str x) (chars x):=fun A Φ Ψ s v Q r hp rp k=>by
 refine str_elim rp fun t=>?_
 have it:∀ (ty:String) (St:Nat→Heap→Prop),(∀ i h,St i h→∃ o,h.get? s.heap.objs.size=some o∧o.cls=.type ty∧∃ vs,o.data=.fields vs) →
   (["enumerate","zip","dict_itemiterator","dict_reverseitemiterator","odict_iterator","itertools.zip_longest","itertools.pairwise"].contains ty=false) →
   (∀ A':Around,A'.handled=none→Walks PR g.w A' s.heap.objs.size [s.heap.objs.size] [s.heap.objs.size] x.cps.size (SignAt x) St)→Itr g s.heap.objs.size (chars x) St [s.heap.objs.size] Φ:=fun ty St hs hn hw=>
  ⟨⟨SignAt x,by rw[chars_length];exact hw,fun i v q0=>q0.elim fun c q0=>q0.elim fun u q0=>q0.elim fun e hv=>⟨.str ⟨#[c]⟩,by unfold chars;rw[List.getElem?_map,Array.getElem?_toList,e];rfl,by rw[hv];exact rep_str⟩⟩,fun b hb=>.inl (by simpa using hb),fun i h q=>let ⟨o,e1,e2,e3⟩:=hs i h q;⟨o,ty,e1,e2,hn,e3⟩⟩
 cases ha:x.cps.all (·<128)
 ·exact wpAny_pyIter_wide ha (k _ _ _ _ _ hp.freshΦ hp.freshΨ (hp.allocΨ (o:={cls:=.type "str_iterator",data:=.fields #[.str x t,.int 0 0]}) rfl) ⟨_,Heap.get?_push_size _ rfl,rfl,rfl⟩ (it "str_iterator" _ (fun i h q0=>q0.elim fun o q0=>q0.elim fun e1 q0=>q0.elim fun e2 e3=>⟨o,e1,e2,_,e3⟩) (by decide) fun A' hA=>Walks.strWide hA _ x t))
 ·exact wpAny_pyIter_ascii ha (k _ _ _ _ _ hp.freshΦ hp.freshΨ (hp.allocΨ (o:={cls:=.type "str_ascii_iterator",data:=.fields #[.str x t,.int 0 0]}) rfl) ⟨_,Heap.get?_push_size _ rfl,rfl,rfl⟩ (it "str_ascii_iterator" _ (fun i h q0=>q0.elim fun o q0=>q0.elim fun e1 q0=>q0.elim fun e2 e3=>⟨o,e1,e2,_,e3⟩) (by decide) fun A' hA=>Walks.strAscii hA _ x t))
noncomputable def rngAV (a b c:Int):AV:=.sat fun Φ v=>∃ r t u w,v=.ref r∧Φ r=some {cls:=.type "range",dict:=none,data:=.fields #[.int a t,.int b u,.int c w],slots:=#[]}
noncomputable def rngL (a c:Int) (n:Nat):List AV:=(List.range n).map fun(i:Nat)=>AV.int (a+(i:Int)*c)
theorem rngL_length (a c:Int) (n:Nat):(rngL a c n).length=n:=by simp[rngL]
theorem IterV.rng {a b c:Int} {n:Nat} (hs:Builtin.Range.small a b c=true) (hn:Builtin.Range.rangeSize a b c=(n:Int)):IterV g d (rngAV a b c) (rngL a c n):=fun A Φ Ψ s v Q r hp rp k=>by
 unfold rngAV at rp
 refine box fun bX bk=>?_
 obtain⟨Φ₁,l,q,t,u,w,rfl,e⟩:=rp
 refine bk ?_
 clear bk bX
 refine wpAny_pyIter_range (hp.getΦ (l _ _ e)) hs ?_
 rw[hn]
 refine k _ _ (fun i h=>IsRangeIter h s.heap.objs.size (a+(i:Nat)*c) ((n:Int)-(i:Nat)) c) [s.heap.objs.size] _ hp.freshΦ hp.freshΨ (hp.allocΨ (o:={cls:=.type "range_iterator",data:=.fields #[rawInt a,rawInt n,rawInt c]}) rfl) ?_ ⟨⟨fun i v=>i<n∧∃ t,v=.int (a+i*c) t,?_,?_⟩,fun b hb=>.inl (by simpa using hb),fun i h hh=>⟨_,_,hh,rfl,by decide,_,rfl⟩⟩
 ·show IsRangeIter _ _ _ _ _
  have e0:a+((0:Nat):Int)*c=a:=by simp
  have e1:(n:Int)-((0:Nat):Int)=n:=by simp
  rw[e0,e1]
  exact Heap.get?_push_size _ rfl
 ·intro A' hA
  rw[rngL_length]
  exact(Walks.range (prog:=PR) (w:=g.w) (A:=A') hA s.heap.objs.size a c n).bound
 ·rintro i v ⟨hi,t,rfl⟩
  exact⟨.int (a+(i:Int)*c),by unfold rngL;rw[List.getElem?_map,List.getElem?_range hi];rfl,rep_int⟩
theorem At.base {I:Addr} {o:Obj} {s':Shared} {Ψ:PH} (x:At g sc env σ B Φ s) (pr:Pre g sc σ env Φ Ψ s) (hb:PH.le B Ψ) (h1:Φ I=none) (h2:Ψ I=none) (hp:Hp g Φ (Ψ.put I o) s') :
  At g sc env σ (B.put I o) Φ s'∧B I=none:=by
 have hB:B I=none:=by
  cases q:B I with
  | none=>rfl
  | some o'=>rw[hb _ _ q] at h2;cases h2
 have hne:∀ b ob,Ψ b=some ob→b≠I:=fun b ob e q=>by rw[q,h2] at e;cases e
 have hfr:∀ a,IsFr sc env σ.frz a→a≠I:=fun a fa q=>by
  subst q
  have:=pr.owned fa h1
  rw[h2] at this;cases this
 refine⟨⟨⟨Ψ.put I o,⟨pr.ev,hp,?_,?_⟩,?_⟩,fun a fa=>⟨?_,(x.out a fa).2⟩,fun a ha=>⟨?_,(x.mine a ha).2⟩,x.cel,x.inj⟩,hB⟩
 ·obtain⟨fr,hf,hv⟩:=pr.fr
  refine⟨fr,⟨?_,fun y hy=>?_⟩,hv⟩
  ·obtain⟨o',es,ep,e1,r1,r2,r3⟩:=hf.loc
   exact⟨o',es,ep,by rw[PH.put_other Ψ o (hne _ _ e1)];exact e1,r1,r2,r3⟩
  ·obtain⟨c,o',e1,e2,r⟩:=hf.cel y hy
   refine⟨c,o',e1,e2.imp id fun e2=>?_,r⟩
   rw[PH.put_other Ψ o (hne _ _ e2)];exact e2
 ·intro a ov e
  obtain⟨o',e1,r⟩:=pr.own a ov e
  exact⟨o',by rw[PH.put_other Ψ o (hne _ _ e1)];exact e1,r⟩
 ·intro b ob e
  by_cases q:b=I
  ·subst q;rw[PH.put_self] at e ⊢;exact e
  ·rw[PH.put_other B o q] at e;rw[PH.put_other Ψ o q];exact hb b ob e
 ·rw[PH.put_other B o (hfr a fa)];exact(x.out a fa).1
 ·obtain⟨ov,e⟩:=Option.isSome_iff_exists.mp (x.mine a ha).2
  obtain⟨o',e1,r⟩:=pr.own a ov e
  rw[PH.put_other B o (hne _ _ e1)];exact(x.mine a ha).1
theorem At.low {B':PH} (x:At g sc env σ B' Φ s) (h:PH.le B B'):At g sc env σ B Φ s:=by
 have hn:∀ a,B' a=none→B a=none:=fun a e=>by
  cases q:B a with
  | none=>rfl
  | some o=>rw[h _ _ q] at e;cases e
 obtain⟨Ψ,pr,hb⟩:=x.pre
 exact⟨⟨Ψ,pr,h.trans hb⟩,fun a fa=>⟨hn a (x.out a fa).1,(x.out a fa).2⟩,fun a ha=>⟨hn a (x.mine a ha).1,(x.mine a ha).2⟩,x.cel,x.inj⟩
theorem At.iter {av:AV} {xs:List AV} {v:Value} {Q:Value→Shared→Prop} (h:IterV g d av xs) (r:Room d A) (x:At g sc env σ B Φ s) (rp:Rep Φ av v)
  (k:∀ I o St fp s',B I=none→At g sc env σ (B.put I o) Φ s'→St 0 s'.heap→Itr g I xs St fp Φ→Q (.ref I) s'):W g.w A (pyIter v) Q s:=by
 obtain⟨Ψ,pr,hb⟩:=x.pre
 refine h A Φ Ψ s v Q r pr.hp rp fun I o St fp s' h1 h2 hp st it=>?_
 obtain⟨y,hB⟩:=x.base pr hb h1 h2 hp
 exact k I o St fp s' hB y st it
theorem At.other {I:Addr} {o o':Obj} {h':Heap} {tk:Nat} (x:At g sc env σ B Φ s) (hI:B I=some o) (hnc:∃ vs,o.data=.fields vs) (k:∀ b o,b≠I→s.heap.get? b=some o→h'.get? b=some o) (e:h'.get? I=some o') :
  At g sc env σ (B.put I o') Φ {s with heap:=h',toks:=tk}:=by
 obtain⟨Ψ,pr,hb⟩:=x.pre
 have hΨ:=hb _ _ hI
 have hfr:∀ a,IsFr sc env σ.frz a→a≠I:=fun a fa q=>by rw[q] at fa;have:=(x.out I fa).1;rw[hI] at this;cases this
 have hown:∀ a ov,σ.own.lookup a=some ov→a≠I:=fun a ov ea q=>by
  obtain⟨oo,e1,r⟩:=pr.own a ov ea
  rw[q,hΨ] at e1;cases e1
  obtain⟨vs,hv⟩:=hnc
  exact r.nf _ _ vs hv
 have hp:=pr.hp.but (tk:=tk) hΨ k e
 refine⟨⟨Ψ.put I o',⟨pr.ev,hp,?_,?_⟩,?_⟩,fun a fa=>⟨?_,(x.out a fa).2⟩,fun a ha=>⟨?_,(x.mine a ha).2⟩,x.cel,x.inj⟩
 ·obtain⟨fr,hf,hv⟩:=pr.fr
  refine⟨fr,⟨?_,fun y hy=>?_⟩,hv⟩
  ·obtain⟨ol,es,ep,e1,r1,r2,r3⟩:=hf.loc
   exact⟨ol,es,ep,by rw[PH.put_other Ψ o' (hfr _ (.inl rfl))];exact e1,r1,r2,r3⟩
  ·obtain⟨c,oc,e1,e2,r⟩:=hf.cel y hy
   by_cases q:c=I
   ·subst q
    rcases e2 with e2 | e2
    ·exact⟨c,oc,e1,.inl e2,r⟩
    ·rw[hΨ] at e2;cases e2;obtain⟨vs,q⟩:=hnc;rw[q] at r;cases r
   ·exact⟨c,oc,e1,e2.imp id fun e2=>by rw[PH.put_other Ψ o' q];exact e2,r⟩
 ·intro a ov ea
  obtain⟨oo,e1,r⟩:=pr.own a ov ea
  exact⟨oo,by rw[PH.put_other Ψ o' (hown a ov ea)];exact e1,r⟩
 ·intro b ob eb
  by_cases q:b=I
  ·subst q;rw[PH.put_self] at eb ⊢;exact eb
  ·rw[PH.put_other B o' q] at eb;rw[PH.put_other Ψ o' q];exact hb b ob eb
 ·rw[PH.put_other B o' (hfr a fa)];exact(x.out a fa).1
 ·obtain⟨ov,ea⟩:=Option.isSome_iff_exists.mp (x.mine a ha).2
  rw[PH.put_other B o' (hown a ov ea)];exact(x.mine a ha).1
end
end Mine.Internal
end
section
open PySem PySem.W PySem.Calls PyProof.Rows PyProof PySem.SeqAt
namespace Mine.Internal
section
variable {g:Glob} {d:Nat} {sc:Scope} {σ:Sig} {env:Env} {A:Around} {Φ Ψ B Φ₀:PH} {s:Shared} {rest:List Stmt} {Q:Flow→Shared→Prop}
theorem At.item {I:Addr} {xs:List AV} {St:Nat→Heap→Prop} {fp:List Addr} {o:Obj} {i:Nat} {x:AV} {Q:Option Value→Shared→Prop} (it:Itr g I xs St fp Φ) (r:Room d A) (y:At g sc env σ B Φ s) (hI:B I=some o) (st:St i s.heap) (hx:xs[i]?=some x)
  (k:∀ v o' s',At g sc env σ (B.put I o') Φ s'→St (i+1) s'.heap→Rep Φ x v→Q (some v) s'):W g.w A (pyNext (.ref I)) Q s:=by
 refine box fun bX bk=>?_
 obtain⟨P,wk,hP⟩:=it.wk
 refine bk ?_
 clear bk bX
 have hlt:i<xs.length:=(List.getElem?_eq_some_iff.mp hx).1
 refine(wk A r.hd).item i s Q No hlt st fun v h' tk pv st' keep=>?_
 refine box fun bX bk=>?_
 obtain⟨o',T,e1,_⟩:=it.has _ _ st'
 obtain⟨Ψ,pr,hb⟩:=y.pre
 obtain⟨o0,_,f1,_,_,f2⟩:=it.has _ _ st
 refine bk ?_
 clear bk bX
 have:o=o0:=by have:=pr.hp.getΨ (hb _ _ hI);rw[f1] at this;cases this;rfl
 subst this
 refine box fun bX bk=>?_
 obtain⟨x',hx',rp⟩:=hP i v pv
 refine bk ?_
 clear bk bX
 rw[hx] at hx';cases hx'
 exact k v o' _ (y.other hI f2 (fun b o hb e=>keep b o (fun q=>hb (List.mem_singleton.mp q)) e) e1) st' rp
theorem At.done {I:Addr} {xs:List AV} {St:Nat→Heap→Prop} {fp:List Addr} {o:Obj} {Q:Option Value→Shared→Prop} {B₀:PH} (it:Itr g I xs St fp Φ) (r:Room d A) (y:At g sc env σ B Φ s) (hI:B I=some o) (h0:B₀ I=none) (hB:PH.le B₀ B) (st:St xs.length s.heap)
  (k:∀ s',At g sc env σ B₀ Φ s'→Q Option.none s'):W g.w A (pyNext (.ref I)) Q s:=by
 obtain⟨P,wk,hP⟩:=it.wk
 refine(wk A r.hd).done s Q No st fun h' tk keep=>?_
 obtain⟨Ψ,pr,hb⟩:=y.pre
 have hΨ:=hb _ _ hI
 obtain⟨o0,_,f1,_,_,f2⟩:=it.has _ _ st
 have:o=o0:=by have:=pr.hp.getΨ (hb _ _ hI);rw[f1] at this;cases this;rfl
 subst this
 have hp:=pr.hp.lose (tk:=tk) hΨ (fun b o hb e=>keep b o (fun q=>hb (List.mem_singleton.mp q)) e)
 have z:=y.low hB
 have hfr:∀ a,IsFr sc env σ.frz a→a≠I:=fun a fa q=>by rw[q] at fa;have:=(y.out I fa).1;rw[hI] at this;cases this
 have hown:∀ a ov,σ.own.lookup a=some ov→a≠I:=fun a ov ea q=>by
  obtain⟨oo,e1,r⟩:=pr.own a ov ea
  rw[q,hΨ] at e1;cases e1
  obtain⟨vs,hv⟩:=f2
  exact r.nf _ _ vs hv
 refine k _ ⟨⟨Ψ.drop I,⟨pr.ev,hp,?_,fun a ov ea=>?_⟩,fun b ob e=>?_⟩,z.out,z.mine,z.cel,z.inj⟩
 ·obtain⟨fr,hf,hv⟩:=pr.fr
  refine⟨fr,⟨?_,fun w hy=>?_⟩,hv⟩
  ·obtain⟨ol,es,ep,e1,r1,r2,r3⟩:=hf.loc
   exact⟨ol,es,ep,by rw[PH.drop_other Ψ (hfr _ (.inl rfl))];exact e1,r1,r2,r3⟩
  ·obtain⟨c,oc,e1,e2,r⟩:=hf.cel w hy
   refine⟨c,oc,e1,e2.imp id fun e2=>?_,r⟩
   have:c≠I:=fun q=>by subst q;rw[hΨ] at e2;cases e2;obtain⟨vs,hv⟩:=f2;rw[hv] at r;cases r
   rw[PH.drop_other Ψ this];exact e2
 ·obtain⟨oo,e1,r⟩:=pr.own a ov ea
  exact⟨oo,by rw[PH.drop_other Ψ (hown a ov ea)];exact e1,r⟩
 ·have:b≠I:=fun q=>by rw[q,h0] at e;cases e
  rw[PH.drop_other Ψ this];exact hb _ _ (hB _ _ e)
theorem Itr.stand {I:Addr} {xs:List AV} {St:Nat→Heap→Prop} {fp:List Addr} {i:Nat} {h h':Heap} (it:Itr g I xs St fp Φ) (st:St i h) (hI:h.get? I=h'.get? I) (hf:Sub Φ h) (hf':Sub Φ h'):St i h':=by
 obtain⟨P,wk,hP⟩:=it.wk
 refine(wk {} rfl).frame i h h' st fun b hb o e=>?_
 rcases it.fpΦ b hb with q | ⟨ob,q⟩
 ·rw[q] at e ⊢;rw[←hI];exact e
 ·rw[hf _ _ q] at e;cases e;exact hf' _ _ q
theorem At.sub (y:At g sc env σ B Φ s):Sub Φ s.heap:=let ⟨_,pr,_⟩:=y.pre;pr.hp.fr
theorem At.getB (y:At g sc env σ B Φ s) {a:Addr} {o:Obj} (e:B a=some o):s.heap.get? a=some o:=let ⟨_,pr,hb⟩:=y.pre;pr.hp.getΨ (hb _ _ e)
theorem Itr.own {I:Addr} {xs:List AV} {St:Nat→Heap→Prop} {fp:List Addr} {i:Nat} {target:PySem.Expr} {v:Value} {Q:Unit→Shared→Prop} (it:Itr g I xs St fp Φ) (st:St i s.heap) (k:Q () s):W g.w A (letOwnedTupleGo target (.ref I) v) Q s:=by
 refine box fun bX bk=>?_
 obtain⟨o,T,e1,e2,e3,_⟩:=it.has _ _ st
 refine bk ?_
 clear bk bX
 have key:∀ f:Value→Sem Unit,(∀ a,f (.ref a)=(load I>>=fun o=>match o.cls,o.data with
   | .type n,.fields vs=>if (["enumerate","zip","dict_itemiterator","dict_reverseitemiterator","odict_iterator","itertools.zip_longest","itertools.pairwise"].contains n&&vs[0]?==some (rawInt a))=true then(do rule "for.unpacks-the-owned-tuple";updateField I 0 .none) else pure ()
   | _,_=>pure ()))→∀ a,W g.w A (f (.ref a)) Q s:=fun f hf a=>by
  rw[hf]
  refine wpAny_bind (wpAny_load e1 ?_)
  cases o with
  | mk cls dict data slots=>
   cases e2
   cases data<;>first | exact wpAny_pure k | skip
   dsimp only
   rw[e3]
   exact wpAny_pure k
 cases target<;>first
  | exact wpAny_pure k
  | (cases v<;>first | exact wpAny_pure k | exact key (fun v=>letOwnedTupleGo (.Tuple [] 0 default) (.ref I) v) (fun _=>rfl) _)
noncomputable def Tgt (g:Glob) (d:Nat) (sc:Scope) (target:PySem.Expr) (σ:Sig) (x:AV) (σ':Sig):Prop:=
 ∀ env A B Φ s v (Q:Unit→Shared→Prop),Room d A→At g sc env σ B Φ s→Rep Φ x v→(∀ s',At g sc env σ' B Φ s'→Q () s')→W g.w A (assign target env v) Q s
theorem Tgt.name {x:Str} {p:Pos} {av:AV} (hx:stB sc σ x=true):Tgt g d sc (.Name x p) σ av (σ.put x av):=fun env A B Φ s v Q r y rp k=>
 wpAny_assign_Name (y.store hx rp k)
theorem At.ext {h':Heap} {tk:Nat} (y:At g sc env σ B Φ s) (k:∀ b o,s.heap.get? b=some o→h'.get? b=some o):At g sc env σ B Φ {s with heap:=h',toks:=tk}:=
 let ⟨Ψ,pr,hb⟩:=y.pre
 ⟨⟨Ψ,pr.next (PH.le.refl _) (pr.hp.ext k),hb⟩,y.out,y.mine,y.cel,y.inj⟩
theorem Tgt.pair {a b:Str} {p q pos:Pos} {n:Nat} {x y:AV} (ha:stB sc σ a=true) (hb:stB sc (σ.put a x) b=true):Tgt g d sc (.Tuple [.Name a p,.Name b q] n pos) σ (.tup [x,y]) ((σ.put a x).put b y):=fun env A B Φ s v Q r z rp k=>by
 refine tup_elim rp fun t o vs ho hl hv=>?_
 refine box fun bX bk=>?_
 obtain⟨v1,ws,e1,r1,hv⟩:=repL_cons_inv hv
 obtain⟨v2,ws',e2,r2,hv⟩:=repL_cons_inv hv
 refine bk ?_
 clear bk bX
 have e3:=repL_nil_inv hv
 subst e3 e2
 refine box fun bX bk=>?_
 obtain⟨Ψ,pr,hb'⟩:=z.pre
 refine bk ?_
 clear bk bX
 have hT:s.heap.IsTuple t vs:=isTup_of pr.hp ho hl
 have hsz:vs.size=2:=by rw[←Array.length_toList,e1];rfl
 refine wpAny_assign_Tuple r.hd hT (by rw[hsz];rfl) rfl fun h' he=>?_
 rw[e1]
 have z':At g sc env σ B Φ {s with heap:=h'}:=z.ext fun b o e=>he b o (Nat.ne_of_lt (Heap.lt_size e)) e
 show W g.w A (holding [v2] (assign (.Name a p) env v1)>>=fun _=>assignInOrder [assign (.Name b q) env] [v2]) Q _
 refine wpAny_bind (wpAny_holding (wpAny_assign_Name (z'.store ha r1 fun s₁ z₁=>?_)))
 show W g.w A (holding [] (assign (.Name b q) env v2)>>=fun _=>assignInOrder [] []) Q _
 refine wpAny_bind (wpAny_holding (wpAny_assign_Name (z₁.store hb r2 fun s₂ z₂=>?_)))
 exact wpAny_pure (k _ z₂)
theorem Bk.assignT {elts:List PySem.Expr} {n:Nat} {tpos pos:Pos} {e:PySem.Expr} {av:AV} {σ':Sig} (r:Room d A) (h:Ev g d sc σ e av) (ht:Tgt g d sc (.Tuple elts n tpos) σ av σ') (k:Bk g sc env A Φ₀ B σ' rest Q)
  (hs:autoParam (swapsWithSole [.Tuple elts n tpos] e pos.line env=pure false) aR)
  (hw:∀ env,env.scope=sc→swappedStores [.Tuple elts n tpos] e env=pure Option.none):Bk g sc env A Φ₀ B σ (.Assign [.Tuple elts n tpos] e pos::rest) Q:=.step fun Φ s l y=>by
 have hsc:env.scope=sc:=by obtain⟨Ψ,pr,_⟩:=y.pre;exact pr.ev.scE
 exact Assign_Tuple (h.at r y fun Φ' v s' l' y' rp=>ht env A B Φ' s' v _ r y' rp fun s'' y''=>k Φ' s'' (l.trans l') y'') hs (hw env hsc)
noncomputable def loopQ (g:Glob) (sc:Scope) (env:Env) (Φ₀ B:PH) (I R:Sig→Prop) (Q:Flow→Shared→Prop):Flow→Shared→Prop:=fun f s=>match f with
 | .next | .cont=>∃ σ Φ,I σ∧PH.le Φ₀ Φ∧At g sc env σ B Φ s
 | .brk=>∃ σ Φ,R σ∧PH.le Φ₀ Φ∧At g sc env σ B Φ s
 | .ret v=>Q (.ret v) s
variable {I:Nat→Sig→Prop} {R:Sig→Prop}
theorem Bk.while {test:PySem.Expr} {body orelse:List Stmt} {pos:Pos} (r:Room d A) (n:Nat) (h0:I n σ)
  (turn:∀ n σ,I n σ→∃ b,Ts g d sc σ test b∧(b=true→Bk g sc env A Φ₀ B σ body (loopQ g sc env Φ₀ B (fun σ'=>∃ m,m<n∧I m σ') R Q))∧(b=false→Bk g sc env A Φ₀ B σ orelse (cont g env A rest Q)))
  (brk:∀ σ,R σ→Bk g sc env A Φ₀ B σ rest Q):Bk g sc env A Φ₀ B σ (.While test body orelse pos::rest) Q:=.step fun Φ s l y=>by
 refine wpAny_While (codeAny_whileLoop (fun n s=>∃ σ Φ,I n σ∧PH.le Φ₀ Φ∧At g sc env σ B Φ s) ?_ n ⟨σ,Φ,h0,l,y⟩)
 rintro n s ⟨σ,Φ,hI,l,y⟩
 refine box fun bX bk=>?_
 obtain⟨b,ht,hb1,hb0⟩:=turn n σ hI
 refine bk ?_
 clear bk bX
 refine wpAny_mono (ht.at r y fun Φ' s' l' y'=>?_) (fun _ _ q=>q) fun _ _ e=>e.elim
 cases b with
 | true=>
  simp -iota only[if_true]
  refine wpAny_mono (hb1 rfl Φ' s' (l.trans l') y') (fun f s3 q=>?_) fun _ _ e=>e.elim
  cases f with
  | next=>obtain⟨σ',Φ'',⟨m,hm,hI'⟩,l'',y''⟩:=q;exact⟨m,hm,σ',Φ'',hI',l'',y''⟩
  | cont=>obtain⟨σ',Φ'',⟨m,hm,hI'⟩,l'',y''⟩:=q;exact⟨m,hm,σ',Φ'',hI',l'',y''⟩
  | brk=>obtain⟨σ',Φ'',hR,l'',y''⟩:=q;exact brk σ' hR Φ'' s3 l'' y''
  | ret v=>exact q
 | false=>
  simp -iota only[Bool.false_eq_true,if_false]
  exact wpAny_mono (hb0 rfl Φ' s' (l.trans l') y') (fun f s3 q=>q) fun _ _ e=>e.elim
noncomputable def EvIt (g:Glob) (d:Nat) (sc:Scope) (σ:Sig) (e:PySem.Expr) (xs:List AV):Prop:=∀ A env B Φ s (Q:Value→Shared→Prop),Room d A→At g sc env σ B Φ s →
 (∀ Φ' I o St fp s',PH.le Φ Φ'→B I=none→At g sc env σ (B.put I o) Φ' s'→St 0 s'.heap→Itr g I xs St fp Φ'→Q (.ref I) s')→W g.w A (eval e env) (fun x s₁=>W g.w A (pyIter x) Q s₁) s
theorem EvIt.of {e:PySem.Expr} {av:AV} {xs:List AV} (h:Ev g d sc σ e av) (hi:IterV g d av xs):EvIt g d sc σ e xs:=fun A env B Φ s Q r y k=>
 h.at r y fun Φ' v s' l' y' rp=>At.iter hi r y' rp fun I o St fp s'' hB y'' st it=>k Φ' I o St fp s'' l' hB y'' st it
theorem Bk.for {target it:PySem.Expr} {body orelse:List Stmt} {pos:Pos} {xs:List AV} (r:Room d A) (h:EvIt g d sc σ it xs) (I:Nat→Sig→Prop) (R:Sig→Prop) (h0:I 0 σ)
  (turn:∀ i x σi B' Φ₁,xs[i]?=some x→I i σi→PH.le B B'→PH.le Φ₀ Φ₁→∃ σ',Tgt g d sc target σi x σ'∧Bk g sc env A Φ₁ B' σ' body (loopQ g sc env Φ₁ B' (I (i+1)) R Q))
  (fin:∀ σn,I xs.length σn→Bk g sc env A Φ₀ B σn orelse (cont g env A rest Q))
  (brk:∀ σb,R σb→Bk g sc env A Φ₀ B σb rest Q)
  (hs:autoParam (∀ env x,foldedSetIterable it env x=pure x) aR):Bk g sc env A Φ₀ B σ (.For target it body orelse pos::rest) Q:=.step fun Φ s l y=>by
 refine wpAny_For (h A env B Φ s _ r y fun Φ₁ J o St fp s₁ l₁ hB y₁ st it=>?_) (hs env)
 refine codeAny_forLoop_any (fun n s=>∃ i σi Φ' o',n=xs.length-i∧i≤xs.length∧I i σi∧PH.le Φ₁ Φ'∧At g sc env σi (B.put J o') Φ' s∧St i s.heap) ?_ (xs.length-0) ⟨0,σ,Φ₁,o,rfl,Nat.zero_le _,h0,PH.le.refl _,y₁,st⟩
 rintro n s ⟨i,σi,Φ',o',rfl,hi,hI,l',y',st'⟩
 have it':=it.mono l'
 have lB:∀ ob,PH.le B (B.put J ob):=fun ob=>PH.le_put ob hB
 by_cases hlt:i<xs.length
 ·have hx:xs[i]?=some xs[i]:=List.getElem?_eq_getElem hlt
  refine wpAny_mono (At.item it' r y' (PH.put_self _ _ _) st' hx fun v o₂ s₂ y₂ st₂ rp=>?_) (fun _ _ q=>q) fun _ _ e=>e.elim
  have y₂:At g sc env σi (B.put J o₂) Φ' s₂:=by
   have e:(B.put J o').put J o₂=B.put J o₂:=by funext b;unfold PH.put;split<;>rfl
   rw[←e];exact y₂
  show wpAny (model PR g.w) A (letOwnedTupleGo target (.ref J) v) _ _ s₂
  refine wpAny_mono (it'.own st₂ ?_) (fun _ _ q=>q) fun _ _ e=>e.elim
  obtain⟨σ',ht,hb⟩:=turn i xs[i] σi (B.put J o₂) Φ' hx hI (lB _) ((l.trans l₁).trans l')
  refine wpAny_mono (ht env A _ Φ' s₂ v _ r y₂ rp fun s₃ y₃=>?_) (fun _ _ q=>q) fun _ _ e=>e.elim
  refine wpAny_mono (hb Φ' s₃ (PH.le.refl _) y₃) (fun f s₄ q=>?_) fun _ _ e=>e.elim
  have st₃:St (i+1) s₃.heap:=it'.stand st₂ (by rw[y₂.getB (PH.put_self _ _ _),y₃.getB (PH.put_self _ _ _)]) y₂.sub y₃.sub
  have nxt:(∃ σ'' Φ'',I (i+1) σ''∧PH.le Φ' Φ''∧At g sc env σ'' (B.put J o₂) Φ'' s₄)→∃ m,m<xs.length-i∧∃ i' σi Φ' o',m=xs.length-i'∧i'≤xs.length∧I i' σi∧PH.le Φ₁ Φ'∧At g sc env σi (B.put J o') Φ' s₄∧St i' s₄.heap:=by
   rintro⟨σ'',Φ'',h1,h2,h3⟩
   refine⟨xs.length-(i+1),by omega,i+1,σ'',Φ'',o₂,rfl,hlt,h1,l'.trans h2,h3,?_⟩
   exact it'.stand st₃ (by rw[y₃.getB (PH.put_self _ _ _),h3.getB (PH.put_self _ _ _)]) y₃.sub (fun a o e=>h3.sub a o (h2 a o e))
  cases f with
  | next=>exact nxt q
  | cont=>exact nxt q
  | brk=>obtain⟨σ'',Φ'',hR,l'',y''⟩:=q;exact brk σ'' hR Φ'' s₄ (((l.trans l₁).trans l').trans l'') (y''.low (lB _))
  | ret v=>exact q
 ·have hin:i=xs.length:=by omega
  subst hin
  refine wpAny_mono (At.done it' r y' (PH.put_self _ _ _) hB (lB _) st' fun s₂ y₂=>?_) (fun _ _ q=>q) fun _ _ e=>e.elim
  exact wpAny_mono (fin σi hI Φ' s₂ ((l.trans l₁).trans l') y₂) (fun f s₃ q=>q) fun _ _ e=>e.elim
end
end Mine.Internal
end
section
open PySem PySem.W PySem.Calls PyProof.Rows PyProof PySem.SeqAt
namespace Mine.Internal
section
variable {g:Glob} {d:Nat} {sc:Scope} {σ:Sig} {env:Env} {A:Around} {Φ Ψ B Φ₀:PH} {s:Shared} {rest:List Stmt} {Q:Flow→Shared→Prop}
noncomputable def cellObj:Obj:={cls:=.type "cell",data:=.cell Option.none}
structure Laid (g:Glob) (Φ Ψ:PH) (s:Shared) (names:List (Str × NameKind)) (acc:List (Str × Addr)) (S:Str→Prop) (Ψ':PH):Prop where
 hp:Hp g Φ Ψ' {s with heap:=pushCells s.heap names}
 le:PH.le Ψ Ψ'
 low:∀ x c,(cellsFrom s.heap.objs.size names acc).lookup x=some c→c<(pushCells s.heap names).objs.size
 old:∀ x,(x,NameKind.cell)∉names→(cellsFrom s.heap.objs.size names acc).lookup x=acc.lookup x
 new:∀ x,(x,NameKind.cell)∈names→∃ c,(cellsFrom s.heap.objs.size names acc).lookup x=some c∧Ψ' c=some cellObj∧Φ c=none∧Ψ c=none
 inj:∀ x y c,(S x∨(x,NameKind.cell)∈names)→(cellsFrom s.heap.objs.size names acc).lookup x=some c→(cellsFrom s.heap.objs.size names acc).lookup y=some c→y=x
 ext:∀ a,Ψ a=none→Φ a=none→(Ψ' a=none∨∃ x,(x,NameKind.cell)∈names∧(cellsFrom s.heap.objs.size names acc).lookup x=some a)
theorem lay_cells:∀ (names:List (Str × NameKind)) (acc:List (Str × Addr)) (S:Str→Prop) (Ψ:PH) (s:Shared),Hp g Φ Ψ s→(names.map (·.1)).Nodup→(∀ x c,acc.lookup x=some c→c<s.heap.objs.size) →
  (∀ x,S x→x∉names.map (·.1))→(∀ x y c,S x→acc.lookup x=some c→acc.lookup y=some c→y=x)→∃ Ψ',Laid g Φ Ψ s names acc S Ψ'
 | [],acc,S,Ψ,s,hp,hu,hl,hS,hi=>⟨Ψ,by
   refine⟨hp,PH.le.refl _,hl,fun _ _=>rfl,fun x hx=>(nomatch hx),fun x y c hx=>hi x y c (hx.resolve_right fun h=>nomatch h),fun a h _=>.inl h⟩⟩
 | (n,k)::r,acc,S,Ψ,s,hp,hu,hl,hS,hi=>by
  have hur:(r.map (·.1)).Nodup:=(List.nodup_cons.mp hu).2
  have hnr:n∉r.map (·.1):=(List.nodup_cons.mp hu).1
  by_cases hk:k=.cell
  ·subst hk
   have hp':Hp g Φ (Ψ.put s.heap.objs.size cellObj) {s with heap:=s.heap.push cellObj}:=hp.allocΨ rfl
   obtain⟨Ψ',L⟩:=lay_cells r ((n,s.heap.objs.size)::acc) (fun x=>S x∨x=n) _ _ hp' hur (fun x c e=>by
     rw[Heap.size_push]
     rw[List.lookup_cons] at e
     split at e
     ·cases e;exact Nat.lt_succ_self _
     ·exact Nat.lt_succ_of_lt (hl x c e)) (fun x hx=>by
     rcases hx with hx | rfl
     ·exact fun h=>hS x hx (List.mem_cons_of_mem _ h)
     ·exact hnr) (fun x y c hx e1 e2=>by
     rw[List.lookup_cons] at e1 e2
     by_cases h1:x=n
     ·subst h1
      rw[beq_self_eq_true] at e1
      cases e1
      by_cases h2:y=x
      ·exact h2
      ·have hb:(y==x)=false:=beq_eq_false_iff_ne.mpr h2
       rw[hb] at e2
       exact absurd (hl y _ e2) (Nat.lt_irrefl _)
     ·have hb:(x==n)=false:=beq_eq_false_iff_ne.mpr h1
      rw[hb] at e1
      by_cases h2:y=n
      ·subst h2
       rw[beq_self_eq_true] at e2
       cases e2
       exact absurd (hl x _ e1) (Nat.lt_irrefl _)
      ·have hb':(y==n)=false:=beq_eq_false_iff_ne.mpr h2
       rw[hb'] at e2
       exact hi x y c (hx.resolve_right h1) e1 e2)
   have e1:pushCells s.heap ((n,.cell)::r)=pushCells (s.heap.push cellObj) r:=rfl
   have e2:cellsFrom s.heap.objs.size ((n,.cell)::r) acc=cellsFrom (s.heap.push cellObj).objs.size r ((n,s.heap.objs.size)::acc):=by rw[Heap.size_push];rfl
   have hpn:(x:Str)→¬ (x,NameKind.cell)∈r→x=n→(cellsFrom (s.heap.push cellObj).objs.size r ((n,s.heap.objs.size)::acc)).lookup x=some s.heap.objs.size:=fun x hx h=>by
    rw[L.old x hx,h,List.lookup_cons,beq_self_eq_true]
   have hnr':(n,NameKind.cell)∉r:=fun h=>hnr (List.mem_map.mpr ⟨_,h,rfl⟩)
   refine⟨Ψ',⟨by rw[e1];exact L.hp,(PH.le_put _ hp.freshΨ).trans L.le,by rw[e1,e2];exact L.low,fun x hx=>?_,fun x hx=>?_,fun x y c hx=>?_,fun a h1 h2=>?_⟩⟩
   ·rw[e2,L.old x fun h=>hx (List.mem_cons_of_mem _ h),List.lookup_cons]
    have:(x==n)=false:=beq_eq_false_iff_ne.mpr fun q=>hx (by rw[q];exact List.mem_cons_self)
    rw[this]
   ·rw[e2]
    by_cases h:x=n
    ·subst h
     exact⟨s.heap.objs.size,hpn x hnr' rfl,L.le _ _ (PH.put_self _ _ _),hp.freshΦ,hp.freshΨ⟩
    ·obtain⟨c,q1,q2,q3,q4⟩:=L.new x (by rcases List.mem_cons.mp hx with q | q<;>first | exact q | (cases q;exact absurd rfl h))
     refine⟨c,q1,q2,q3,?_⟩
     by_cases hc:c=s.heap.objs.size
     ·rw[hc];exact hp.freshΨ
     ·rwa [PH.put_other _ _ hc] at q4
   ·rw[e2]
    refine L.inj x y c ?_
    rcases hx with h | h
    ·exact .inl (.inl h)
    ·rcases List.mem_cons.mp h with q | q
     ·cases q;exact .inl (.inr rfl)
     ·exact .inr q
   ·rw[e2]
    by_cases hc:a=s.heap.objs.size
    ·subst hc
     exact .inr ⟨n,List.mem_cons_self,hpn n hnr' rfl⟩
    ·rcases L.ext a (by rw[PH.put_other _ _ hc];exact h1) h2 with q | ⟨x,q1,q2⟩
     ·exact .inl q
     ·exact .inr ⟨x,List.mem_cons_of_mem _ q1,q2⟩
  ·have hb:(k==NameKind.cell)=false:=by simpa using hk
   obtain⟨Ψ',L⟩:=lay_cells r acc S Ψ s hp hur hl (fun x hx h=>hS x hx (List.mem_cons_of_mem _ h)) hi
   have e1:pushCells s.heap ((n,k)::r)=pushCells s.heap r:=by rw[pushCells];rw[if_neg (by rw[hb];exact Bool.false_ne_true)]
   have e2:cellsFrom s.heap.objs.size ((n,k)::r) acc=cellsFrom s.heap.objs.size r acc:=by rw[cellsFrom];rw[if_neg (by rw[hb];exact Bool.false_ne_true)]
   have hm:∀ x,(x,NameKind.cell)∈(n,k)::r↔(x,NameKind.cell)∈r:=fun x=>by
    rw[List.mem_cons]
    exact⟨fun h=>h.resolve_left fun q=>hk (by cases q;rfl),.inr⟩
   refine⟨Ψ',⟨by rw[e1];exact L.hp,L.le,by rw[e1,e2];exact L.low,fun x hx=>by rw[e2];exact L.old x fun h=>hx ((hm x).mpr h),fun x hx=>by rw[e2];exact L.new x ((hm x).mp hx),fun x y c hx=>by rw[e2];exact L.inj x y c (hx.imp id (hm x).mp),fun a h1 h2=>?_⟩⟩
   rw[e2]
   exact(L.ext a h1 h2).imp id fun q0=>q0.elim fun x q0=>q0.elim fun q1 q2=>⟨x,(hm x).mpr q1,q2⟩
theorem lookup_of_mem {α:Type}:∀ {l:List (Str × α)} {x:Str} {k:α},(l.map (·.1)).Nodup→(x,k)∈l→l.lookup x=some k
 | (n,v)::r,x,k,hu,h=>by
  rw[List.lookup_cons]
  have hn:=(List.nodup_cons.mp hu).1
  rcases List.mem_cons.mp h with q | q
  ·cases q;rw[beq_self_eq_true]
  ·have:x≠n:=fun e=>hn (e▸List.mem_map.mpr ⟨_,q,rfl⟩)
   rw[beq_eq_false_iff_ne.mpr this]
   exact lookup_of_mem (List.nodup_cons.mp hu).2 q
noncomputable def cellVal (Φ B:PH) (c:Addr):Option Value:=match (Φ c).or (B c) with
 | some o=>(match o.data with
  | .cell v=>v
  | _=>none)
 | none=>none
theorem cellVal_eq {c:Addr} {o:Obj} {v:Option Value} (hd:B c=some o→Φ c=none) (h:Φ c=some o∨B c=some o) (e:o.data=.cell v):cellVal Φ B c=v:=by
 have:(Φ c).or (B c)=some o:=by
  rcases h with h | h
  ·rw[h];rfl
  ·rw[hd h,h];rfl
 unfold cellVal
 rw[this]
 dsimp only
 rw[e]
noncomputable def frOf (sc:Scope) (cl:List (Str × Addr)) (Φ B:PH) (x:Str):Option Value:=match kindIn sc x,cl.lookup x with
 | some .free,some c=>cellVal Φ B c
 | _,_=>none
theorem frOf_local {cl:List (Str × Addr)} {x:Str} (h:kindIn sc x=some .local):frOf sc cl Φ B x=none:=by unfold frOf;rw[h]
theorem frOf_cell {cl:List (Str × Addr)} {x:Str} (h:kindIn sc x=some .cell):frOf sc cl Φ B x=none:=by unfold frOf;rw[h]
theorem frOf_free {cl:List (Str × Addr)} {x:Str} {c:Addr} (h:kindIn sc x=some .free) (e:cl.lookup x=some c):frOf sc cl Φ B x=cellVal Φ B c:=by unfold frOf;rw[h,e]
theorem wp_newEnv {cl:List (Str × Addr)} {cv:List (Str × AV)} {ω:Ow} {qual:Str} {func:Option Addr} {code:Value} {around:Option Env} {env':Env→Env} {sc':Scope} {frz:List Str} {mt:List Addr} {binds:List (Str × Value)} {Q:Env→Shared→Prop}
  (hp:Hp g Φ Ψ s) (hu:(sc.names.map (·.1)).Nodup) (hk:sc.kind=.function)
  (hΨ:PH.le B Ψ) (how:Owns Φ Ψ ω) (hmine:∀ a∈mt,B a=none∧(ω.lookup a).isSome=true)
  (hcl:∀ x c,cl.lookup x=some c→∃ o,(Φ c=some o∨B c=some o)∧∃ v,o.data=.cell v)
  (hfree:∀ x,kindIn sc x=some .free→∃ c,cl.lookup x=some c)
  (hcv:∀ x av,cv.lookup x=some av→varKind sc' x=true∧kindIn sc x=some .free∧∃ c o v,cl.lookup x=some c∧(Φ c=some o∨B c=some o)∧o.data=.cell (some v)∧Rep Φ av v)
  (henv:∀ L cells,(env' (newEnv sc L mainGlobals cells qual func code around builtinsNs)).locals=L∧(env' (newEnv sc L mainGlobals cells qual func code around builtinsNs)).cells=cells∧EnvOk sc' (env' (newEnv sc L mainGlobals cells qual func code around builtinsNs)))
  (hloc:∀ x,kindIn sc' x=some .local→kindIn sc x=some .local)
  (hcel:∀ x,kindIn sc' x=some .cell∨kindIn sc' x=some .free→kindIn sc x=some .cell∨kindIn sc x=some .free)
  (hfrz:∀ x,kindIn sc' x=some .cell→x∉frz→kindIn sc x=some .cell)
  (k:∀ env s',(∃ L cells,env=newEnv sc L mainGlobals cells qual func code around builtinsNs)→At g sc' (env' env) ⟨cv,ω,frz,mt⟩ B Φ s'→W g.w A (forIn binds PUnit.unit fun x (_:PUnit)=>storeName env x.1 x.2>>=fun _=>pure (ForInStep.yield PUnit.unit)) (fun _=>Q env) s'):W g.w A (newFunctionEnv sc mainGlobals cl binds qual func code around builtinsNs) Q s:=by
 unfold newFunctionEnv
 refine wpAny_bind (wpAny_alloc ?_)
 have hp1:=hp.allocΨ (o:={cls:=.type (if around.isSome then "dict" else "frame"),data:=.dict #[]}) rfl
 have hne:∀ b ob,Ψ b=some ob→b≠s.heap.objs.size:=fun b ob e q=>by rw[q,hp.freshΨ] at e;cases e
 have hcl':∀ x c,cl.lookup x=some c→∃ o,s.heap.get? c=some o:=fun x c e=>by
  obtain⟨o,h1,_⟩:=hcl x c e
  exact⟨o,h1.elim hp.getΦ fun h=>hp.getΨ (hΨ _ _ h)⟩
 obtain⟨Ψ',L⟩:=lay_cells (g:=g) (Φ:=Φ) sc.names cl (fun _=>False) _ _ hp1 hu (fun x c e=>by
  obtain⟨o,h1⟩:=hcl' x c e
  rw[Heap.size_push];exact Nat.lt_succ_of_lt (Heap.lt_size h1)) (fun x h=>h.elim) (fun x y c h=>h.elim)
 refine wpAny_bind (wpAny_layCells _ (fun name kind cells=>by cases hkc:kind==NameKind.cell<;>simp[hkc]) _ _ _ _ ?_)
 obtain⟨cells,hcells⟩:∃ cells,cells=cellsFrom (s.heap.push {cls:=.type (if around.isSome then "dict" else "frame"),data:=.dict #[]}).objs.size sc.names cl:=⟨_,rfl⟩
 rw[←hcells]
 have hx:∀ x,kindIn sc x=some .cell↔(x,NameKind.cell)∈sc.names:=fun x=>⟨fun h=>mem_of_lookup h,fun h=>lookup_of_mem hu h⟩
 obtain⟨en,hen⟩:∃ en,en=newEnv sc s.heap.objs.size mainGlobals cells qual func code around builtinsNs:=⟨_,rfl⟩
 obtain⟨e1,e2,e3⟩:=henv s.heap.objs.size cells
 rw[←hen] at e1 e2 e3
 have Lle:PH.le Ψ Ψ':=(PH.le_put _ hp.freshΨ).trans L.le
 have cellNew:∀ x c,kindIn sc x=some .cell→cells.lookup x=some c→Ψ' c=some cellObj∧Φ c=none∧Ψ c=none:=fun x c hk' e=>by
  obtain⟨c',q1,q2,q3,q4⟩:=L.new x ((hx x).mp hk')
  rw[←hcells,e] at q1;cases q1
  refine⟨q2,q3,?_⟩
  by_cases hc:c=s.heap.objs.size
  ·rw[hc];exact hp.freshΨ
  ·rwa [PH.put_other _ _ hc] at q4
 have cellOld:∀ x,kindIn sc x≠some .cell→cells.lookup x=cl.lookup x:=fun x hk'=>by rw[hcells];exact L.old x fun h=>hk' ((hx x).mpr h)
 have hB:∀ a,Φ a=none→Ψ a=none→B a=none:=fun a _ h=>by
  cases q:B a with
  | none=>rfl
  | some o=>rw[hΨ _ _ q] at h;cases h
 have isfr:∀ a,IsFr sc' (env' en) frz a→Φ a=none∧Ψ a=none:=fun a fa=>by
  rcases fa with q | ⟨x,q1,q2,q3⟩
  ·rw[e1] at q;rw[q];exact⟨hp.freshΦ,hp.freshΨ⟩
  ·rw[e2] at q3
   exact(cellNew x a (hfrz x q1 q2) q3).2
 have fin:At g sc' (env' en) ⟨cv,ω,frz,mt⟩ B Φ {s with heap:=pushCells (s.heap.push {cls:=.type (if around.isSome then "dict" else "frame"),data:=.dict #[]}) sc.names}:=by
  refine⟨⟨Ψ',⟨e3,L.hp,?_,fun a ov e=>let ⟨o,q1,q2⟩:=how a ov e;⟨o,Lle _ _ q1,q2⟩⟩,hΨ.trans Lle⟩,fun a fa=>⟨hB a (isfr a fa).1 (isfr a fa).2,?_⟩,hmine,fun x c q1 q2 q3=>(isfr c (.inr ⟨x,q1,q2,q3⟩)).1,fun x y c q1 q2 q3 q4=>?_⟩
  ·have hdis:∀ c o,B c=some o→Φ c=none:=fun c o h=>(hp.dis c).resolve_right (by rw[hΨ _ _ h];exact fun e=>nomatch e)
   refine⟨frOf sc cl Φ B,⟨⟨_,#[],0,by rw[e1];exact L.le _ _ (PH.put_self _ _ _),rfl,fun e he=>(by simp at he),fun x hl=>?_⟩,fun x hc=>?_⟩,fun x av e=>?_⟩
   ·rw[frOf_local (hloc x hl)];rfl
   ·rcases hcel x hc with q | q
    ·obtain⟨c,q1,q2,_⟩:=L.new x ((hx x).mp q)
     exact⟨c,cellObj,by rw[e2,hcells];exact q1,.inr q2,by rw[frOf_cell q];rfl⟩
    ·obtain⟨c,q1⟩:=hfree x q
     obtain⟨o,q2,v,q3⟩:=hcl x c q1
     refine⟨c,o,by rw[e2,cellOld x (by rw[q];exact fun h=>nomatch h)];exact q1,q2.imp id fun h=>Lle _ _ (hΨ _ _ h),?_⟩
     rw[frOf_free q q1,cellVal_eq (hdis c o) q2 q3];exact q3
   ·obtain⟨q1,q2,c,o,v,q3,q4,q5,q6⟩:=hcv x av e
    exact⟨q1,v,by rw[frOf_free q2 q3,cellVal_eq (hdis c o) q4 q5],q6⟩
  ·show ω.lookup a=none
   cases q:ω.lookup a with
   | none=>rfl
   | some ov=>
    obtain⟨o,q1,_⟩:=how a ov q
    have:=(isfr a fa).2
    rw[q1] at this;cases this
  ·rw[e2] at q3 q4
   rw[hcells] at q3 q4
   exact L.inj x y c (.inr ((hx x).mp (hfrz x q1 q2))) q3 q4
 have last:∀ e,e=en→W g.w A ((forIn binds PUnit.unit fun x (_:PUnit)=>storeName e x.1 x.2>>=fun _=>pure (ForInStep.yield PUnit.unit))>>=fun _=>pure e) Q {s with heap:=pushCells (s.heap.push {cls:=.type (if around.isSome then "dict" else "frame"),data:=.dict #[]}) sc.names}:=fun e he=>by
  exact wpAny_bind (he▸(k en _ ⟨_,_,hen⟩ fin).mono fun _ _ q=>wpAny_pure (he▸q))
 cases around with
 | none=>exact last _ hen.symm
 | some o=>exact last _ (by rw[hen];rfl)
end
end Mine.Internal
end
section
open PySem PySem.W PySem.Calls PyProof.Rows PyProof PySem.SeqAt
namespace Mine.Internal
section
variable {g:Glob} {d:Nat} {sc:Scope} {σ:Sig} {env:Env} {A:Around} {Φ Ψ B Φ₀:PH} {s:Shared} {rest:List Stmt}
noncomputable def putAll (σ:Sig):List Str→List AV→Sig
 | n::ns,a::as=>putAll (σ.put n a) ns as
 | _,_=>σ
theorem wp_binds:∀ (binds:List (Str × Value)) (avs:List AV) (σ:Sig) (s:Shared) (Q:PUnit→Shared→Prop),At g sc env σ B Φ s→RepL Φ avs (binds.map (·.2))→((binds.map (·.1)).all fun x=>stB sc σ x)=true →
  (∀ s',At g sc env (putAll σ (binds.map (·.1)) avs) B Φ s'→Q PUnit.unit s')→W g.w A (forIn binds PUnit.unit fun x (_:PUnit)=>storeName env x.1 x.2>>=fun _=>pure (ForInStep.yield PUnit.unit)) Q s
 | [],avs,σ,s,Q,y,ra,hst,k=>by
  rw[List.forIn_nil]
  have:avs=[]:=by
   cases avs with
   | nil=>rfl
   | cons a as=>obtain⟨v,ws,e,_⟩:=repL_cons_inv ra;cases e
  subst this
  exact wpAny_pure (k s y)
 | (n,v)::r,avs,σ,s,Q,y,ra,hst,k=>by
  rw[List.forIn_cons]
  cases avs with
  | nil=>have:=repL_nil_inv ra;cases this
  | cons a as=>
   refine box fun bX bk=>?_
   obtain⟨v',ws,e,r1,r2⟩:=repL_cons_inv ra
   refine bk ?_
   clear bk bX
   cases e
   have h2:stB sc σ n=true∧((r.map (·.1)).all fun x=>stB sc σ x)=true:=by simpa using hst
   refine wpAny_bind (wpAny_bind (y.store h2.1 r1 fun s' y'=>wpAny_pure ?_))
   exact wp_binds r as _ s' Q y' r2 h2.2 k
noncomputable def flowVal:Flow→Value
 | .ret v=>v
 | _=>.none
inductive FQ (g:Glob) (sc:Scope) (env:Env) (Φ₀ B:PH) (ω:Ow) (P:AV→Ow→Prop) (f:Flow) (s:Shared):Prop
 | mk (Φ:PH) (σ:Sig) (av:AV) (ω':Ow) (l:PH.le Φ₀ Φ) (y:At g sc env σ B Φ s) (r:Rep Φ av (flowVal f)) (p:P av ω') (h:∀ a ov,ω'.lookup a=some ov→σ.own.lookup a=some ov∧((ω.lookup a).isSome=true∨a∈σ.mt))
inductive MPost (g:Glob) (Φ Ψ:PH) (mt:List Addr) (ω:Ow) (P:AV→Ow→Prop) (v:Value) (s:Shared):Prop
 | mk (Φ' Ψ':PH) (av:AV) (ω':Ow) (l:PH.le Φ Φ') (h:Hp g Φ' Ψ' s) (how:Owns Φ' Ψ' ω') (keep:∀ a o,a∉mt→Ψ a=some o→Ψ' a=some o) (r:Rep Φ' av v) (p:P av ω') (new:∀ a ov,ω'.lookup a=some ov→(ω.lookup a).isSome=true∨Ψ a=none)
noncomputable def FnM (g:Glob) (d:Nat) (mt:List Addr) (ω:Ow) (f:Value) (args:List AV) (kw:List (Str × AV)) (P:AV→Ow→Prop):Prop:=
 ∀ A Φ Ψ s vs ks,Room d A→Hp g Φ Ψ s→Owns Φ Ψ ω→RepL Φ args vs→ks.map (·.1)=kw.map (·.1)→RepL Φ (kw.map (·.2)) (ks.map (·.2)) →
  W g.w A (call f vs ks) (MPost g Φ Ψ mt ω P) s
theorem FnM.fn {ω:Ow} {f:Value} {args:List AV} {kw:List (Str × AV)} {av:AV} (h:FnM g d [] ω f args kw (fun a _=>a=av)):Fn g d ω f args kw av:=fun A Φ Ψ s vs ks r hp ho ra e rk=>
 (h A Φ Ψ s vs ks r hp ho ra e rk).mono fun v s' q=>by
  cases q with
  | mk Φ' Ψ' av' ω' l hp' _ keep rp e _=>exact⟨Φ',l,hp'.weaken (fun a o q=>keep a o List.not_mem_nil q),e▸rp⟩
theorem Hp.nolimit (hp:Hp g Φ Ψ s):s.heap.NoLimit:=by
 have h:∃ o,(KB g.w).lookup cStatics=some o∧∃ n,o.data=.dict #[] n:=⟨Mine.Internal.hd.zo_41 g.w.params,by kernel_rfl,_,rfl⟩
 refine box fun bX bk=>?_
 obtain⟨o,e1,n,e2⟩:=h
 refine bk ?_
 clear bk bX
 exact⟨fun _=>none,⟨o,#[],n,hp.getΦ (hp.k _ _ e1),e2,fun e he=>by simp -iota at he,fun x=>rfl⟩,rfl⟩
noncomputable def retR (Q:Value→Shared→Prop):Result→Shared→Prop:=fun r s'=>match r with
 | .ok (.ret v)=>Q v s'
 | .ok _=>False
 | .error e=>No e s'
noncomputable def FnC (g:Glob) (d:Nat) (mt:List Addr) (ω:Ow) (f:Value) (args:List AV) (kw:List (Str × AV)) (P:AV→Ow→Prop):Prop:=
 ∀ A Φ Ψ s vs ks,Room d A→Hp g Φ Ψ s→Owns Φ Ψ ω→RepL Φ args vs→ks.map (·.1)=kw.map (·.1)→RepL Φ (kw.map (·.2)) (ks.map (·.2))→codeAny (model PR g.w) A (.call f ⟨vs,ks⟩) (retR (MPost g Φ Ψ mt ω P)) s
theorem FnC.fnM {mt:List Addr} {ω:Ow} {f:Value} {args:List AV} {kw:List (Str × AV)} {P:AV→Ow→Prop} (h:FnC g d mt ω f args kw P):FnM g d mt ω f args kw P:=fun A Φ Ψ s vs ks r hp ho ra e rk=>wpAny_call (h A Φ Ψ s vs ks r hp ho ra e rk)
theorem call_C {fa:Addr} {o:Obj} {fd:FuncData} {body:List Stmt} {vs:List Value} {ks:List (Str × Value)} {binds:List (Str × Value)} {avs:List AV} {ps:List Str} {cv:List (Str × AV)} {ω:Ow} {mt:List Addr} {P:AV→Ow→Prop}
  (r:Room (d+1) A) (hd0:0<d) (hp:Hp g Φ Ψ s) (ho:Owns Φ Ψ ω) (hmt:∀ a∈mt,(ω.lookup a).isSome=true)
  (hfa:s.heap.get? fa=some o) (hfd:o.data=.func fd) (hbody:fd.body=.stmts body) (hcode:s.heap.CodeRec fd.code fd.qualname)
  (hco:fd.scope.isCoroutine=false) (hgen:fd.scope.isGenerator=false) (hkd:fd.scope.kind=.function) (hu:(fd.scope.names.map (·.1)).Nodup) (hgl:fd.globals=mainGlobals) (hbi:fd.builtins=builtinsNs)
  (hbind:BindsTo s fd ⟨vs,ks⟩ binds) (hps:binds.map (·.1)=ps) (ravs:RepL Φ avs (binds.map (·.2)))
  (hst:(ps.all fun x=>stB fd.scope ⟨cv,ω,[],mt⟩ x)=true)
  (hcl:∀ x c,fd.closure.lookup x=some c→∃ o,Φ c=some o∧∃ v,o.data=.cell v)
  (hfree:∀ x,kindIn fd.scope x=some .free→∃ c,fd.closure.lookup x=some c)
  (hcv:∀ x av,cv.lookup x=some av→varKind fd.scope x=true∧kindIn fd.scope x=some .free∧∃ c o v,fd.closure.lookup x=some c∧Φ c=some o∧o.data=.cell (some v)∧Rep Φ av v)
  (k:∀ A env B,Room d A→(∃ L cells,env=newEnv fd.scope L mainGlobals cells (fd.qualname++".<locals>.") (some fa) fd.code none builtinsNs)→Bk g fd.scope env A Φ B (putAll ⟨cv,ω,[],mt⟩ ps avs) body (FQ g fd.scope env Φ B ω P)) :
  codeAny (model PR g.w) A (.call (.ref fa) ⟨vs,ks⟩) (retR (MPost g Φ Ψ mt ω P)) s:=by
 have hB:PH.le (fun a=>if a∈mt then none else Ψ a) Ψ:=fun a ob e=>by
  by_cases h:a∈mt
  ·simp[h] at e
  ·simpa [h] using e
 have hB':∀ a ob,a∉mt→Ψ a=some ob→(fun a=>if a∈mt then none else Ψ a) a=some ob:=fun a ob h e=>by simp[h,e]
 refine codeAny_call_function r.lt hfa hfd hco hgen hbody hcode (hbind _ _ _ _ ?_)
 rw[hgl,hbi]
 refine wpAny_mono (E:=No) (wp_newEnv (sc:=fd.scope) (sc':=fd.scope) (cv:=cv) (ω:=ω) (frz:=[]) (mt:=mt) (env':=id) (B:=fun a=>if a∈mt then none else Ψ a) hp hu hkd hB ho (fun a h=>⟨by simp[h],hmt a h⟩)
  (fun x c e=>let ⟨o,h1,h2⟩:=hcl x c e;⟨o,.inl h1,h2⟩) hfree (fun x av e=>let ⟨h1,h2,c,o,v,h3,h4,h5⟩:=hcv x av e;⟨h1,h2,c,o,v,h3,.inl h4,h5⟩)
  (fun L cells=>⟨rfl,rfl,⟨rfl,rfl,rfl,hkd⟩⟩) (fun x h=>h) (fun x h=>h) (fun x h _=>h) fun env s' he y=>?_) (fun _ _ q=>q) fun _ _ e=>e.elim
 have y':At g fd.scope env ⟨cv,ω,[],mt⟩ (fun a=>if a∈mt then none else Ψ a) Φ s':=y
 refine wp_binds binds avs _ s' _ y' ravs (by rw[hps];exact hst) fun s'' y''=>?_
 rw[hps] at y''
 refine⟨?_,?_⟩
 ·obtain⟨Ψ'',pr,_⟩:=y''.pre
  exact pr.hp.nolimit
 ·refine codeAny_func ?_
  refine wpAny_mono (k (A.deeper env) env _ (r.deeper hd0) he Φ s'' (PH.le.refl _) y'') (fun f s3 q=>?_) fun _ _ e=>e.elim
  obtain⟨Φ',σ',av,ω',l,y3,rp,hP,hω⟩:=q
  obtain⟨Ψ3,pr,hb⟩:=y3.pre
  refine⟨Φ',Ψ3,av,ω',l,pr.hp,fun a ov e=>pr.own a ov (hω a ov e).1,fun a ob h e=>hb _ _ (hB' a ob h e),?_,hP,fun a ov e=>?_⟩
  ·cases f<;>exact rp
  ·rcases(hω a ov e).2 with h | h
   ·exact .inl h
   ·have h0:=(y3.mine a h).1
    by_cases hm:a∈mt
    ·exact .inl (hmt a hm)
    ·simp only[hm,if_false] at h0;exact .inr h0
noncomputable def codeB (K:Frag) (fd:FuncData):Bool:=fd.code==.ref (vRef fd.code)&&(K.lookup (vRef fd.code)).any fun o=>isFs o.data&&((dFs o.data)[1]?).any fun v=>isS v&&v.isStr fd.qualname
theorem codeB_rec {w:World} {fd:FuncData} {h:Heap} (hin:(KB w).In h) (e:codeB (KB w) fd=true):h.CodeRec fd.code fd.qualname:=by
 obtain⟨h1,h2⟩:=Bool.and_eq_true_iff.mp e
 obtain⟨o,ho,h3⟩:=Option.any_eq_true _ _ |>.mp h2
 obtain⟨h4,h5⟩:=Bool.and_eq_true_iff.mp h3
 obtain⟨v,hv,h6⟩:=Option.any_eq_true _ _ |>.mp h5
 obtain⟨h7,h8⟩:=Bool.and_eq_true_iff.mp h6
 obtain⟨n,t,e⟩:=isS_eq h7
 rw[e] at hv h8
 exact⟨_,o,_,t,beq_iff_eq.mp h1,hin _ _ ho,isFs_eq h4,hv.trans (by rw[beq_iff_eq.mp (show(n==fd.qualname)=true from h8)])⟩
structure FdOk (w:World) (fd:FuncData):Prop where
 hco:fd.scope.isCoroutine=false:=by rfl
 hgen:fd.scope.isGenerator=false:=by rfl
 hkd:fd.scope.kind=.function:=by rfl
 hu:(fd.scope.names.map (·.1)).Nodup:=by decide
 hgl:fd.globals=mainGlobals:=by rfl
 hbi:fd.builtins=builtinsNs:=by rfl
 hcode:codeB (KB w) fd=true:=by kernel_rfl
theorem FnC.bodyE {fa:Addr} {o:Obj} {fd:FuncData} {body:List Stmt} {args:List AV} {kw:List (Str × AV)} {avs:List AV} {ps:List Str} {ω:Ow} {mt:List Addr} {P:AV→Ow→Prop}
  (hfa:(KB g.w).lookup fa=some o) (hfd:o.data=.func fd) (hbody:fd.body=.stmts body) (ok:FdOk g.w fd)
  (hclo:fd.closure=[]) (hfr:(fd.scope.names.all fun p=>!(p.2==.free))=true)
  (hbind:∀ Φ Ψ s vs ks,Hp g Φ Ψ s→RepL Φ args vs→ks.map (·.1)=kw.map (·.1)→RepL Φ (kw.map (·.2)) (ks.map (·.2))→∃ binds,BindsTo s fd ⟨vs,ks⟩ binds∧binds.map (·.1)=ps∧RepL Φ avs (binds.map (·.2)))
  (hst:(ps.all fun x=>stB fd.scope ⟨[],[],[],[]⟩ x)=true) (hmt:∀ a∈mt,(ω.lookup a).isSome=true) (hd0:0<d)
  (k:∀ A env Φ B,Room d A→(∃ L cells,env=newEnv fd.scope L mainGlobals cells (fd.qualname++".<locals>.") (some fa) fd.code none builtinsNs)→Bk g fd.scope env A Φ B (putAll ⟨[],ω,[],mt⟩ ps avs) body (FQ g fd.scope env Φ B ω P)):FnC g (d+1) mt ω (.ref fa) args kw P:=fun A Φ Ψ s vs ks r hp ho ra e rk=>by
 refine box fun bX bk=>?_
 obtain⟨binds,hb,hps,hav⟩:=hbind Φ Ψ s vs ks hp ra e rk
 refine bk ?_
 clear bk bX
 refine call_C r hd0 hp ho hmt (hp.getΦ (hp.k _ _ hfa)) hfd hbody (codeB_rec hp.kin ok.hcode) ok.hco ok.hgen ok.hkd ok.hu ok.hgl ok.hbi hb hps hav hst (by rw[hclo];intro x c q;cases q) (fun x q=>?_) noO fun A env B r he=>k A env Φ B r he
 have:=List.all_eq_true.mp hfr _ (mem_of_lookup q)
 cases this
theorem FnC.body {fa:Addr} {o:Obj} {fd:FuncData} {body:List Stmt} {args:List AV} {kw:List (Str × AV)} {avs:List AV} {ps:List Str} {ω:Ow} {mt:List Addr} {P:AV→Ow→Prop}
  (hfa:(KB g.w).lookup fa=some o) (hfd:o.data=.func fd) (hbody:fd.body=.stmts body) (ok:FdOk g.w fd)
  (hclo:fd.closure=[]) (hfr:(fd.scope.names.all fun p=>!(p.2==.free))=true)
  (hbind:∀ Φ Ψ s vs ks,Hp g Φ Ψ s→RepL Φ args vs→ks.map (·.1)=kw.map (·.1)→RepL Φ (kw.map (·.2)) (ks.map (·.2))→∃ binds,BindsTo s fd ⟨vs,ks⟩ binds∧binds.map (·.1)=ps∧RepL Φ avs (binds.map (·.2)))
  (hst:(ps.all fun x=>stB fd.scope ⟨[],[],[],[]⟩ x)=true) (hmt:∀ a∈mt,(ω.lookup a).isSome=true) (hd0:0<d)
  (k:∀ A env Φ B,Room d A→Bk g fd.scope env A Φ B (putAll ⟨[],ω,[],mt⟩ ps avs) body (FQ g fd.scope env Φ B ω P)):FnC g (d+1) mt ω (.ref fa) args kw P:=FnC.bodyE hfa hfd hbody ok hclo hfr hbind hst hmt hd0 fun A env Φ B r _=>k A env Φ B r
theorem FnM.body {fa:Addr} {o:Obj} {fd:FuncData} {body:List Stmt} {args:List AV} {kw:List (Str × AV)} {avs:List AV} {ps:List Str} {ω:Ow} {mt:List Addr} {P:AV→Ow→Prop}
  (hfa:(KB g.w).lookup fa=some o) (hfd:o.data=.func fd) (hbody:fd.body=.stmts body) (ok:FdOk g.w fd)
  (hclo:fd.closure=[]) (hfr:(fd.scope.names.all fun p=>!(p.2==.free))=true)
  (hbind:∀ Φ Ψ s vs ks,Hp g Φ Ψ s→RepL Φ args vs→ks.map (·.1)=kw.map (·.1)→RepL Φ (kw.map (·.2)) (ks.map (·.2))→∃ binds,BindsTo s fd ⟨vs,ks⟩ binds∧binds.map (·.1)=ps∧RepL Φ avs (binds.map (·.2)))
  (hst:(ps.all fun x=>stB fd.scope ⟨[],[],[],[]⟩ x)=true) (hmt:∀ a∈mt,(ω.lookup a).isSome=true) (hd0:0<d)
  (k:∀ A env Φ B,Room d A→Bk g fd.scope env A Φ B (putAll ⟨[],ω,[],mt⟩ ps avs) body (FQ g fd.scope env Φ B ω P)):FnM g (d+1) mt ω (.ref fa) args kw P:=(FnC.body hfa hfd hbody ok hclo hfr hbind hst hmt hd0 k).fnM
noncomputable def AllVs:Nat→(List Value→Prop)→Prop
 | 0,P=>P []
 | n+1,P=>∀ a,AllVs n fun l=>P (a::l)
theorem AllVs.get:∀ {n:Nat} {P:List Value→Prop},AllVs n P→∀ vs:List Value,vs.length=n→P vs:=by
 intro n
 induction n with
 | zero=>
  intro P h vs e
  cases vs with
  | nil=>exact h
  | cons a l=>cases e
 | succ n ih=>
  intro P h vs e
  cases vs with
  | nil=>cases e
  | cons a l=>exact ih (h a) l (Nat.succ.inj e)
theorem bind_pos {fd:FuncData} {args:List AV} {ps:List Str} (h:AllVs args.length fun vs=>bindArgs fd ⟨vs,[]⟩=pure (ps.zip vs)) (hl:ps.length=args.length) (Φ Ψ:PH) (s:Shared) (vs:List Value) (ks:List (Str × Value)) (hp:Hp g Φ Ψ s)
  (ra:RepL Φ args vs) (e:ks.map (·.1)=([]:List (Str × AV)).map (·.1)) (rk:RepL Φ (([]:List (Str × AV)).map (·.2)) (ks.map (·.2))):∃ binds,BindsTo s fd ⟨vs,ks⟩ binds∧binds.map (·.1)=ps∧RepL Φ args (binds.map (·.2)):=by
 have:ks=[]:=by simpa using e
 subst this
 have hlen:=repL_length ra
 refine⟨ps.zip vs,.of_eq (h.get vs hlen),?_,?_⟩
 ·rw[List.map_fst_zip];lia
 ·rw[List.map_snd_zip];exact ra
  lia
theorem FQ.ret {ω:Ow} {P:AV→Ow→Prop} {B' Φ':PH} {av:AV} {f:Flow} {ω':Ow} (y:At g sc env σ B' Φ' s) (l:PH.le Φ₀ Φ') (lb:PH.le B B') (rp:Rep Φ' av (flowVal f)) (hP:P av ω')
  (hω:∀ a ov,ω'.lookup a=some ov→σ.own.lookup a=some ov∧((ω.lookup a).isSome=true∨a∈σ.mt)):FQ g sc env Φ₀ B ω P f s:=⟨Φ',σ,av,ω',l,y.low lb,rp,hP,hω⟩
end
end Mine.Internal
end
section
open PySem PySem.W PySem.Calls PyProof.Rows PyProof PySem.SeqAt
namespace Mine.Internal
noncomputable abbrev n_figures:Str:={cps:={toList:=[102,105,103,117,114,101,115]}}
noncomputable abbrev n_base:Str:={cps:={toList:=[98,97,115,101]}}
noncomputable abbrev n_number:Str:={cps:={toList:=[110,117,109,98,101,114]}}
noncomputable abbrev n_row:Str:={cps:={toList:=[114,111,119]}}
noncomputable abbrev n_text:Str:={cps:={toList:=[116,101,120,116]}}
noncomputable abbrev n_mark:Str:={cps:={toList:=[109,97,114,107]}}
noncomputable abbrev n_letter:Str:={cps:={toList:=[108,101,116,116,101,114]}}
noncomputable abbrev n_kind:Str:={cps:={toList:=[107,105,110,100]}}
noncomputable abbrev n_line:Str:={cps:={toList:=[108,105,110,101]}}
noncomputable abbrev n_cells:Str:={cps:={toList:=[99,101,108,108,115]}}
noncomputable abbrev n_letters:Str:={cps:={toList:=[108,101,116,116,101,114,115]}}
noncomputable abbrev n_width:Str:={cps:={toList:=[119,105,100,116,104]}}
noncomputable abbrev n_page:Str:={cps:={toList:=[112,97,103,101]}}
noncomputable abbrev n_agents:Str:={cps:={toList:=[97,103,101,110,116,115]}}
noncomputable abbrev n_record:Str:={cps:={toList:=[114,101,99,111,114,100]}}
noncomputable abbrev n_script:Str:={cps:={toList:=[115,99,114,105,112,116]}}
noncomputable abbrev n_heaps:Str:={cps:={toList:=[104,101,97,112,115]}}
noncomputable abbrev n_marks:Str:={cps:={toList:=[109,97,114,107,115]}}
noncomputable abbrev n_widths:Str:={cps:={toList:=[119,105,100,116,104,115]}}
noncomputable abbrev n_bits:Str:={cps:={toList:=[98,105,116,115]}}
noncomputable abbrev n_asked:Str:={cps:={toList:=[97,115,107,101,100]}}
noncomputable abbrev n_shared:Str:={cps:={toList:=[115,104,97,114,101,100]}}
noncomputable abbrev n_total:Str:={cps:={toList:=[116,111,116,97,108]}}
noncomputable abbrev n_laid:Str:={cps:={toList:=[108,97,105,100]}}
noncomputable abbrev n_bare:Str:={cps:={toList:=[98,97,114,101]}}
noncomputable abbrev n_columns:Str:={cps:={toList:=[99,111,108,117,109,110,115]}}
noncomputable abbrev n_answers:Str:={cps:={toList:=[97,110,115,119,101,114,115]}}
noncomputable abbrev n_due:Str:={cps:={toList:=[100,117,101]}}
noncomputable abbrev n_self:Str:={cps:={toList:=[115,101,108,102]}}
noncomputable abbrev n_data_list:Str:={cps:={toList:=[100,97,116,97,95,108,105,115,116]}}
noncomputable abbrev n_line_num:Str:={cps:={toList:=[108,105,110,101,95,110,117,109]}}
noncomputable abbrev n_size:Str:={cps:={toList:=[115,105,122,101]}}
noncomputable abbrev n_max:Str:={cps:={toList:=[109,97,120]}}
noncomputable abbrev n_i:Str:={cps:={toList:=[105]}}
noncomputable abbrev n_n:Str:={cps:={toList:=[110]}}
noncomputable abbrev n_line1:Str:={cps:={toList:=[108,105,110,101,49]}}
noncomputable abbrev n_line2:Str:={cps:={toList:=[108,105,110,101,50]}}
noncomputable abbrev n_a:Str:={cps:={toList:=[97]}}
noncomputable abbrev n_b:Str:={cps:={toList:=[98]}}
noncomputable abbrev n_r:Str:={cps:={toList:=[114]}}
noncomputable abbrev n_a_digits:Str:={cps:={toList:=[97,95,100,105,103,105,116,115]}}
noncomputable abbrev n_inner:Str:={cps:={toList:=[105,110,110,101,114]}}
noncomputable abbrev n_x:Str:={cps:={toList:=[120]}}
noncomputable abbrev n_L:Str:={cps:={toList:=[76]}}
noncomputable abbrev n_R:Str:={cps:={toList:=[82]}}
noncomputable abbrev n_digits:Str:={cps:={toList:=[100,105,103,105,116,115]}}
noncomputable abbrev n_q_digits:Str:={cps:={toList:=[113,95,100,105,103,105,116,115]}}
noncomputable abbrev n_headerlen:Str:={cps:={toList:=[104,101,97,100,101,114,108,101,110]}}
noncomputable abbrev n_maxlen:Str:={cps:={toList:=[109,97,120,108,101,110]}}
noncomputable abbrev n_continuation_ws:Str:={cps:={toList:=[99,111,110,116,105,110,117,97,116,105,111,110,95,119,115]}}
noncomputable abbrev n_splitchars:Str:={cps:={toList:=[115,112,108,105,116,99,104,97,114,115]}}
noncomputable abbrev n_linesep:Str:={cps:={toList:=[108,105,110,101,115,101,112]}}
noncomputable abbrev n_fws:Str:={cps:={toList:=[102,119,115]}}
noncomputable abbrev n_string:Str:={cps:={toList:=[115,116,114,105,110,103]}}
noncomputable abbrev n_ch:Str:={cps:={toList:=[99,104]}}
noncomputable abbrev n_initial_size:Str:={cps:={toList:=[105,110,105,116,105,97,108,95,115,105,122,101]}}
noncomputable abbrev n_startval:Str:={cps:={toList:=[115,116,97,114,116,118,97,108]}}
noncomputable abbrev n_useragent:Str:={cps:={toList:=[117,115,101,114,97,103,101,110,116]}}
noncomputable abbrev n_tabsize:Str:={cps:={toList:=[116,97,98,115,105,122,101]}}
noncomputable abbrev n_wrapcolumn:Str:={cps:={toList:=[119,114,97,112,99,111,108,117,109,110]}}
noncomputable abbrev n_linejunk:Str:={cps:={toList:=[108,105,110,101,106,117,110,107]}}
noncomputable abbrev n_charjunk:Str:={cps:={toList:=[99,104,97,114,106,117,110,107]}}
noncomputable abbrev n_u_maxlen:Str:={cps:={toList:=[95,109,97,120,108,101,110]}}
noncomputable abbrev n_u_continuation_ws:Str:={cps:={toList:=[95,99,111,110,116,105,110,117,97,116,105,111,110,95,119,115]}}
noncomputable abbrev n_u_continuation_ws_len:Str:={cps:={toList:=[95,99,111,110,116,105,110,117,97,116,105,111,110,95,119,115,95,108,101,110]}}
noncomputable abbrev n_u_splitchars:Str:={cps:={toList:=[95,115,112,108,105,116,99,104,97,114,115]}}
noncomputable abbrev n_u_lines:Str:={cps:={toList:=[95,108,105,110,101,115]}}
noncomputable abbrev n_u_current_line:Str:={cps:={toList:=[95,99,117,114,114,101,110,116,95,108,105,110,101]}}
noncomputable abbrev n_u_initial_size:Str:={cps:={toList:=[95,105,110,105,116,105,97,108,95,115,105,122,101]}}
noncomputable abbrev n_useragents:Str:={cps:={toList:=[117,115,101,114,97,103,101,110,116,115]}}
noncomputable abbrev n_rulelines:Str:={cps:={toList:=[114,117,108,101,108,105,110,101,115]}}
noncomputable abbrev n_delay:Str:={cps:={toList:=[100,101,108,97,121]}}
noncomputable abbrev n_req_rate:Str:={cps:={toList:=[114,101,113,95,114,97,116,101]}}
noncomputable abbrev n_u_tabsize:Str:={cps:={toList:=[95,116,97,98,115,105,122,101]}}
noncomputable abbrev n_u_wrapcolumn:Str:={cps:={toList:=[95,119,114,97,112,99,111,108,117,109,110]}}
noncomputable abbrev n_u_linejunk:Str:={cps:={toList:=[95,108,105,110,101,106,117,110,107]}}
noncomputable abbrev n_u_charjunk:Str:={cps:={toList:=[95,99,104,97,114,106,117,110,107]}}
noncomputable abbrev n_class:Str:={cps:={toList:=[95,95,99,108,97,115,115,95,95]}}
section
variable {g:Glob} {d:Nat} {sc:Scope} {σ:Sig} {env:Env} {A:Around} {Φ Ψ B Φ₀:PH} {s:Shared} {rest:List Stmt} {Q:Flow→Shared→Prop} {R:Sig→Prop}
noncomputable def Knows:List (Str × AV)→List (Str × AV)→Prop
 | [],_=>True
 | p::r,l=>l.lookup p.1=some p.2∧Knows r l
theorem Knows.get:∀ {l l':List (Str × AV)},Knows l l'→∀ y av,l.lookup y=some av→l'.lookup y=some av
 | [],_,_,y,av,e=>by simp at e
 | (n,v)::r,l',h,y,av,e=>by
  rw[List.lookup_cons] at e
  split at e
  ·rename_i q
   cases e
   rw[beq_iff_eq.mp q];exact h.1
  ·exact h.2.get y av e
theorem At.know {σ':Sig} (y:At g sc env σ B Φ s) (h:Knows σ'.vars σ.vars) (ho:σ'.own=σ.own) (hf:σ'.frz=σ.frz) (hm:σ'.mt=σ.mt):At g sc env σ' B Φ s:=y.vars h.get ho hf hm
theorem Bk.nextS {J:Sig→Prop} (σ':Sig) (hJ:J σ') (h:Knows σ'.vars σ.vars) (ho:autoParam (σ'.own=σ.own) aR) (hf:autoParam (σ'.frz=σ.frz) aR) (hm:autoParam (σ'.mt=σ.mt) aR):Bk g sc env A Φ₀ B σ [] (loopQ g sc env Φ₀ B J R Q):=
 .nil fun Φ s l y=>⟨σ',Φ,hJ,l,y.know h ho hf hm⟩
theorem Bk.know (σ':Sig) {b:List Stmt} (k:Bk g sc env A Φ₀ B σ' b Q) (h:Knows σ'.vars σ.vars) (ho:autoParam (σ'.own=σ.own) aR) (hf:autoParam (σ'.frz=σ.frz) aR) (hm:autoParam (σ'.mt=σ.mt) aR):Bk g sc env A Φ₀ B σ b Q:=fun Φ s l y=>k Φ s l (y.know h ho hf hm)
theorem Bk.forS {target it:PySem.Expr} {body:List Stmt} {pos:Pos} {xs:List AV} (r:Room d A) (S:Nat→Sig) (h0:Knows (S 0).vars σ.vars) (h:EvIt g d sc (S 0) it xs)
  (turn:∀ i x B' Φ₁,xs[i]?=some x→PH.le B B'→PH.le Φ₀ Φ₁→∃ σ',Tgt g d sc target (S i) x σ'∧Bk g sc env A Φ₁ B' σ' body (loopQ g sc env Φ₁ B' (fun σ=>σ=S (i+1)) (fun _=>False) Q))
  (fin:Bk g sc env A Φ₀ B (S xs.length) rest Q)
  (ho:autoParam ((S 0).own=σ.own) aR) (hf:autoParam ((S 0).frz=σ.frz) aR) (hm:autoParam ((S 0).mt=σ.mt) aR)
  (hs:autoParam (∀ env x,foldedSetIterable it env x=pure x) aR):Bk g sc env A Φ₀ B σ (.For target it body [] pos::rest) Q:=
 Bk.know (S 0) (Bk.for r h (fun i σi=>σi=S i) (fun _=>False) rfl (fun i x σi B' Φ₁ hx hI lb lΦ=>by subst hI;exact turn i x B' Φ₁ hx lb lΦ) (fun σn hI=>by subst hI;exact Bk.go fin) (fun _ h=>h.elim) hs) h0 ho hf hm
theorem Bk.retQ {e:PySem.Expr} {pos:Pos} {av:AV} {ω:Ow} {P:AV→Ow→Prop} {B' Φ₁:PH} (r:Room d A) (h:Ev g d sc σ e av) (hP:P av []) (lb:PH.le B B':=by first | exact PH.le.refl _ | assumption) (lΦ:PH.le Φ₀ Φ₁:=by first | exact PH.le.refl _ | assumption) :
  Bk g sc env A Φ₁ B' σ (.Return (some e) pos::rest) (FQ g sc env Φ₀ B ω P):=
 Bk.ret r h fun Φ v s l y rp=>FQ.ret y (lΦ.trans l) lb rp hP noO
end
end Mine.Internal
end
section
open PySem PySem.W PySem.Calls PyProof.Rows PyProof PySem.SeqAt
namespace Mine.Internal
section
variable {g:Glob} {d:Nat} {sc:Scope} {σ:Sig} {env:Env} {A:Around} {Φ Ψ B Φ₀:PH} {s:Shared} {rest:List Stmt} {Q:Flow→Shared→Prop}
theorem At.change {Φ' Ψ':PH} {s':Shared} {own':Ow} {mt':List Addr} {mt:List Addr} {Ψ:PH} (y:At g sc env σ B Φ s) (pr:Pre g sc σ env Φ Ψ s) (hb:PH.le B Ψ) (l:PH.le Φ Φ') (hp:Hp g Φ' Ψ' s') (keep:∀ a o,a∉mt→Ψ a=some o→Ψ' a=some o)
  (hmt:∀ a∈mt,a∈σ.mt) (how:Owns Φ' Ψ' own') (hnew:∀ a ov,own'.lookup a=some ov→(σ.own.lookup a).isSome=true∨Ψ a=none) (hmt':∀ a∈mt',(a∈σ.mt∨Ψ a=none)∧(own'.lookup a).isSome=true):At g sc env (σ.ow own' mt') B Φ' s':=by
 have nB:∀ a,Ψ a=none→B a=none:=fun a h=>by
  cases q:B a with
  | none=>rfl
  | some o=>rw[hb _ _ q] at h;cases h
 have frn:∀ a,IsFr sc env σ.frz a→a∉mt:=fun a fa h=>by
  have h1:=(y.out a fa).2
  have h2:=(y.mine a (hmt a h)).2
  rw[h1] at h2;cases h2
 have Bn:∀ a o,B a=some o→a∉mt:=fun a o e h=>by
  have:=(y.mine a (hmt a h)).1
  rw[e] at this;cases this
 have celn:∀ a o,Ψ a=some o→(∃ v,o.data=.cell v)→a∉mt:=fun a o e ⟨v,hv⟩ h=>by
  obtain⟨ov,h2⟩:=Option.isSome_iff_exists.mp (y.mine a (hmt a h)).2
  obtain⟨o',e',r⟩:=pr.own a ov h2
  rw[e] at e';cases e'
  cases ov with
  | lst xs=>obtain⟨vs,⟨n,q⟩,_⟩:=r;rw[q] at hv;cases hv
  | sub C d xs=>obtain⟨_,_,vs,n,q,_⟩:=r;rw[q] at hv;cases hv
  | dict fs=>obtain⟨es,n,q,_⟩:=r;rw[q] at hv;cases hv
 have frOwn:∀ a,IsFr sc env σ.frz a→Φ a=none→∃ o,Ψ a=some o:=fun a fa e=>Option.isSome_iff_exists.mp (pr.owned fa e)
 have frΦ:∀ a,IsFr sc env σ.frz a→Φ a=none:=fun a fa=>by
  rcases fa with q | ⟨x,h1,h2,h3⟩
  ·obtain⟨fr,hf,_⟩:=pr.fr
   obtain⟨o,_,_,e,_⟩:=hf.loc
   rw[←q] at e
   exact(pr.hp.dis a).resolve_right (by rw[e];exact fun e=>nomatch e)
  ·exact y.cel x a h1 h2 h3
 have pr':Pre g sc (σ.ow own' mt') env Φ' Ψ' s':=by
  refine⟨pr.ev,hp,?_,how⟩
  obtain⟨fr,hf,hv⟩:=pr.fr
  refine⟨fr,⟨?_,fun x hx=>?_⟩,hv.mono l⟩
  ·obtain⟨o,es,ep,e,r1,r2,r3⟩:=hf.loc
   exact⟨o,es,ep,keep _ _ (frn _ (.inl rfl)) e,r1,r2,r3⟩
  ·obtain⟨c,o,e1,e2,e3⟩:=hf.cel x hx
   exact⟨c,o,e1,e2.imp (l _ _) (fun e=>keep _ _ (celn _ _ e ⟨_,e3⟩) e),e3⟩
 refine⟨⟨Ψ',pr',fun a o e=>keep a o (Bn a o e) (hb _ _ e)⟩,fun a fa=>⟨(y.out a fa).1,?_⟩,fun a ha=>⟨(hmt' a ha).1.elim (fun h=>(y.mine a h).1) (nB a),(hmt' a ha).2⟩,fun x c h1 h2 h3=>?_,y.inj⟩
 ·cases q:own'.lookup a with
  | none=>rfl
  | some ov=>
   rcases hnew a ov q with h | h
   ·rw[(y.out a fa).2] at h;cases h
   ·obtain⟨o,e⟩:=frOwn a fa (frΦ a fa)
    rw[h] at e;cases e
 ·have fa:IsFr sc env σ.frz c:=.inr ⟨x,h1,h2,h3⟩
  obtain⟨o,e⟩:=frOwn c fa (frΦ c fa)
  exact(hp.dis c).resolve_right (by rw[keep c o (frn c fa) e];exact fun e=>nomatch e)
inductive XPost (g:Glob) (sc:Scope) (env:Env) (σ:Sig) (B Φ:PH) (av:AV) (v:Value) (s:Shared):Prop
 | mk (Φ':PH) (l:PH.le Φ Φ') (y:At g sc env σ B Φ' s) (r:Rep Φ' av v)
noncomputable def EvX (g:Glob) (d:Nat) (sc:Scope) (σ:Sig) (e:PySem.Expr) (av:AV) (σ':Sig):Prop:=
 ∀ A env B Φ s,Room d A→At g sc env σ B Φ s→W g.w A (eval e env) (XPost g sc env σ' B Φ av) s
theorem EvX.of {e:PySem.Expr} {av:AV} (h:Ev g d sc σ e av):EvX g d sc σ e av σ:=fun A env B Φ s r y=>h.at r y fun Φ' v s' l y' rp=>⟨Φ',l,y',rp⟩
theorem EvX.run {e:PySem.Expr} {av:AV} {σ':Sig} {Q:Value→Shared→Prop} (h:EvX g d sc σ e av σ') (r:Room d A) (y:At g sc env σ B Φ s) (k:∀ Φ' v s',PH.le Φ Φ'→At g sc env σ' B Φ' s'→Rep Φ' av v→Q v s'):W g.w A (eval e env) Q s:=
 (h A env B Φ s r y).mono fun v s' q0=>q0.casesOn fun Φ' l y' rp=>k Φ' v s' l y' rp
noncomputable def notRef:AV→Bool
 | .none | .bool _ | .int _ | .str _=>true
 | _=>false
theorem notRef_of {av:AV} {v:Value} (h:notRef av=true) (r:Rep Φ av v):∀ a,v≠.ref a:=fun a e=>by
 subst e
 cases av with
 | none=>replace r:_=_:=r;cases r
 | bool b=>replace r:_=_:=r;cases r
 | int i=>obtain⟨t,e⟩:=r;cases e
 | str i=>obtain⟨t,e⟩:=r;cases e
 | _=>exact absurd h Bool.false_ne_true
theorem Bk.expr {e:PySem.Expr} {pos:Pos} {av:AV} {σ':Sig} (r:Room d A) (h:EvX g d sc σ e av σ') (hn:notRef av=true) (k:Bk g sc env A Φ₀ B σ' rest Q)
  (hi:∀ env,sc.kind=.function→env.scope=sc→interactive env=false:=by intro env h1 h2;unfold interactive;rw[h2,h1];rfl) (hs:autoParam (∀ env,swapsWith e Option.none pos.line env=pure false) aR):Bk g sc env A Φ₀ B σ (.Expr e pos::rest) Q:=.step fun Φ s l y=>by
 obtain⟨Ψ,pr,_⟩:=y.pre
 refine wpAny_Expr (h.run r y fun Φ' v s' l' y' rp=>?_) (hi env pr.ev.kd pr.ev.scE) (hs env)
 have:=notRef_of hn rp
 cases v with
 | ref a=>exact absurd rfl (this a)
 | _=>exact k Φ' s' (l.trans l') y'
theorem Bk.assignX {x:Str} {p pos:Pos} {e:PySem.Expr} {av:AV} {σ':Sig} (r:Room d A) (h:EvX g d sc σ e av σ') (hx:stB sc σ' x=true) (k:Bk g sc env A Φ₀ B (σ'.put x av) rest Q)
  (hs:autoParam (swapsWith e (some (.Name x p)) pos.line env=pure false) aR):Bk g sc env A Φ₀ B σ (.Assign [.Name x p] e pos::rest) Q:=.step fun Φ s l y=>
 wpAny_Assign_Name (h.run r y fun Φ' v s' l' y' rp=>y'.store hx rp fun s'' y''=>k Φ' s'' (l.trans l') y'') hs
theorem FnM.at {mt:List Addr} {ω:Ow} {f:Value} {args:List AV} {kw:List (Str × AV)} {P:AV→Ow→Prop} {vs:List Value} {ks:List (Str × Value)} {Q:Value→Shared→Prop}
  (h:FnM g d mt ω f args kw P) (r:Room d A) (y:At g sc env σ B Φ s) (hω:∀ a ov,ω.lookup a=some ov→σ.own.lookup a=some ov) (hmt:∀ a∈mt,a∈σ.mt) (ra:RepL Φ args vs) (e:ks.map (·.1)=kw.map (·.1)) (rk:RepL Φ (kw.map (·.2)) (ks.map (·.2)))
  (k:∀ Φ' v s' av ω',PH.le Φ Φ'→Rep Φ' av v→P av ω'→(∀ own' mt',(∀ b ov,own'.lookup b=some ov→ω'.lookup b=some ov∨(b∉mt∧σ.own.lookup b=some ov))→(∀ b∈mt',(own'.lookup b).isSome=true∧(b∈σ.mt∨(ω.lookup b=none∧(ω'.lookup b).isSome=true))) →
   (∀ b,ω.lookup b=none→(ω'.lookup b).isSome=true→σ.own.lookup b=none)→At g sc env (σ.ow own' mt') B Φ' s')→Q v s'):W g.w A (call f vs ks) Q s:=by
 obtain⟨Ψ,pr,hb⟩:=y.pre
 refine(h A Φ Ψ s vs ks r pr.hp (fun a ov q=>pr.own a ov (hω a ov q)) ra e rk).mono fun v s' q0=>q0.casesOn fun Φ' Ψ' av ω' l hp' how keep rp hP new=>?_
 refine k Φ' v s' av ω' l rp hP fun own' mt' h1 h2 h3=>y.change pr hb l hp' keep hmt (fun a ov q=>?_) (fun a ov q=>?_) fun a ha=>⟨?_,(h2 a ha).1⟩
 ·rcases h1 a ov q with h | ⟨hn,h⟩
  ·exact how a ov h
  ·obtain⟨o,e1,e2⟩:=pr.own a ov h
   exact⟨o,keep a o hn e1,e2.mono l⟩
 ·rcases h1 a ov q with h | ⟨hn,h⟩
  ·rcases new a ov h with h | h
   ·obtain⟨ov',h⟩:=Option.isSome_iff_exists.mp h
    rw[hω a ov' h];exact .inl rfl
   ·exact .inr h
  ·rw[h];exact .inl rfl
 ·rcases(h2 a ha).2 with h | ⟨h,h'⟩
  ·exact .inl h
  ·obtain⟨ov,h'⟩:=Option.isSome_iff_exists.mp h'
   rcases new a ov h' with q | q
   ·rw[h] at q;cases q
   ·exact .inr q
theorem At.alloc {o:Obj} {ov:OV} (y:At g sc env σ B Φ s) (hf:o.isFreed=false) (hr:RepO Φ ov o):σ.own.lookup s.heap.objs.size=none∧At g sc env (σ.ow ((s.heap.objs.size,ov)::σ.own) (s.heap.objs.size::σ.mt)) B Φ {s with heap:=s.heap.push o}:=by
 obtain⟨Ψ,pr,hb⟩:=y.pre
 have hn:σ.own.lookup s.heap.objs.size=none:=by
  cases q:σ.own.lookup s.heap.objs.size with
  | none=>rfl
  | some ov=>obtain⟨o,e,_⟩:=pr.own _ ov q;rw[pr.hp.freshΨ] at e;cases e
 have hne:∀ b ob,Ψ b=some ob→b≠s.heap.objs.size:=fun b ob e q=>by rw[q,pr.hp.freshΨ] at e;cases e
 refine⟨hn,y.change (mt:=[]) pr hb (PH.le.refl _) (pr.hp.allocΨ hf) (fun a o' _ e=>by rw[PH.put_other _ _ (hne a _ e)];exact e) (fun a h=>nomatch h) (fun a ov' e=>?_) (fun a ov' e=>?_) fun a ha=>?_⟩
 ·rw[List.lookup_cons] at e
  split at e
  ·rename_i q;cases e;rw[beq_iff_eq.mp q];exact⟨o,PH.put_self _ _ _,hr⟩
  ·obtain⟨ob,e1,e2⟩:=pr.own a ov' e
   exact⟨ob,by rw[PH.put_other _ _ (hne a _ e1)];exact e1,e2⟩
 ·rw[List.lookup_cons] at e
  split at e
  ·rename_i q;rw[beq_iff_eq.mp q];exact .inr pr.hp.freshΨ
  ·rw[e];exact .inl rfl
 ·rcases List.mem_cons.mp ha with q | q
  ·subst q;exact⟨.inr pr.hp.freshΨ,by simp⟩
  ·refine⟨.inl q,?_⟩
   rw[List.lookup_cons]
   split
   ·rfl
   ·exact(y.mine a q).2
theorem Bk.newList {x:Str} {p p' pos:Pos} {es:List PySem.Expr} {avs:List AV} (r:Room d A) (h:EvL g d sc σ es avs) (hs:small avs.length) (hx:stB sc σ x=true)
  (k:∀ a,σ.own.lookup a=none→Bk g sc env A Φ₀ B (Sig.put (σ.ow ((a,.lst avs)::σ.own) (a::σ.mt)) x (.ref a)) rest Q):Bk g sc env A Φ₀ B σ (.Assign [.Name x p] (.List es p') pos::rest) Q:=.step fun Φ s l y=>by
 obtain⟨Ψ,pr,hb⟩:=y.pre
 refine wpAny_Assign_Name (wpAny_List (h.run r pr fun Φ' vs s' l' pr' rp=>⟨by rw[repL_length rp];exact small_line hs,?_⟩)) rfl
 have y':At g sc env σ B Φ' s':=y.frame l' pr' hb fun a fa e=>pr.owned fa e
 obtain⟨hn,y2⟩:=y'.alloc (o:={cls:=.type "list",data:=.seq vs.toArray}) (ov:=.lst avs) rfl ⟨vs.toArray,⟨0,rfl⟩,by simpa using rp⟩
 exact y2.store hx rep_ref fun s'' y3=>k _ hn Φ' s'' (l.trans l') y3
theorem At.freeze {a:Addr} {xs:List AV} {own':Ow} {mt':List Addr} (y:At g sc env σ B Φ s) (ha:σ.own.lookup a=some (.lst xs)) (hm:a∈σ.mt)
  (ho:∀ b ov,own'.lookup b=some ov→b≠a∧σ.own.lookup b=some ov) (hm':∀ b∈mt',b∈σ.mt∧(own'.lookup b).isSome=true):∃ Φ',PH.le Φ Φ'∧Rep Φ' (.lst xs) (.ref a)∧At g sc env (σ.ow own' mt') B Φ' s:=by
 refine box fun bX bk=>?_
 obtain⟨Ψ,pr,hb⟩:=y.pre
 obtain⟨o,e,vs,hl,hr⟩:=pr.own a _ ha
 refine bk ?_
 clear bk bX
 have hΦ:Φ a=none:=(pr.hp.dis a).resolve_right (by rw[e];exact fun e=>nomatch e)
 have l:PH.le Φ (Φ.put a o):=PH.le_put o hΦ
 refine⟨Φ.put a o,l,?_,y.change (mt:=[a]) pr hb l (pr.hp.freeze e) (fun b ob hb' e'=>?_) (fun b hb'=>by simp -iota at hb';exact hb'▸hm) (fun b ov q=>?_) (fun b ov q=>.inl (by rw[(ho b ov q).2];rfl)) fun b q=>⟨.inl (hm' b q).1,(hm' b q).2⟩⟩
 ·exact⟨a,o,vs,rfl,PH.put_self _ _ _,hl,RepL.mono l _ _ hr⟩
 ·rw[PH.drop_other Ψ (fun q=>hb' (List.mem_singleton.mpr q))];exact e'
 ·refine box fun bX bk=>?_
  obtain⟨h1,h2⟩:=ho b ov q
  obtain⟨ob,e1,e2⟩:=pr.own b ov h2
  refine bk ?_
  clear bk bX
  exact⟨ob,by rw[PH.drop_other Ψ h1];exact e1,e2.mono l⟩
theorem Bk.freeze {x:Str} {a:Addr} {xs:List AV} {own':Ow} {mt':List Addr} {b:List Stmt} (hx:σ.vars.lookup x=some (.ref a)) (ha:σ.own.lookup a=some (.lst xs)) (hm:a∈σ.mt)
  (ho:∀ b ov,own'.lookup b=some ov→b≠a∧σ.own.lookup b=some ov) (hm':∀ b∈mt',b∈σ.mt∧(own'.lookup b).isSome=true)
  (k:Bk g sc env A Φ₀ B ⟨(x,.lst xs)::σ.vars,own',σ.frz,mt'⟩ b Q):Bk g sc env A Φ₀ B σ b Q:=fun Φ s l y=>by
 refine box fun bX bk=>?_
 obtain⟨Φ',l',rp,y'⟩:=y.freeze ha hm ho hm'
 refine bk ?_
 clear bk bX
 refine k Φ' s (l.trans l') ?_
 refine box fun bX bk=>?_
 obtain⟨Ψ,pr,hb⟩:=y'.pre
 obtain⟨fr,hf,hv⟩:=pr.fr
 obtain⟨hk,v,h1,h2⟩:=hv x _ hx
 refine bk ?_
 clear bk bX
 replace h2:_=_:=h2
 subst h2
 refine⟨⟨Ψ,⟨pr.ev,pr.hp,⟨fr,hf,fun z av e=>?_⟩,pr.own⟩,hb⟩,y'.out,y'.mine,y'.cel,y'.inj⟩
 dsimp only at e
 rw[List.lookup_cons] at e
 split at e
 ·rename_i q;cases e;rw[beq_iff_eq.mp q];exact⟨hk,_,h1,rp⟩
 ·exact hv z av e
theorem upd_lst {a:Addr} {vs ws:Array Value} {n:Nat} {s:Shared} {f:Array Value→Array Value} (hp:Hp g Φ Ψ s) (e:Ψ a=some {cls:=.type "list",data:=.seq vs n}) (hf:f vs=ws) :
  ∃ m,Hp g Φ (Ψ.put a {cls:=.type "list",data:=.seq ws m}) {s with heap:=s.heap.update a (Obj.mapSeq f)}:=by
 have hd:Obj.mapSeq f {cls:=.type "list",data:=.seq vs n}={cls:=.type "list",data:=.seq ws (n+1)}∨Obj.mapSeq f {cls:=.type "list",data:=.seq vs n}={cls:=.type "list",data:=.seq ws n}:=by
  simp only[Obj.mapSeq,hf]
  first | exact .inl rfl | exact .inr rfl | (split<;>first | exact .inl rfl | exact .inr rfl) | simp
 rcases hd with hd | hd
 ·exact⟨n+1,hd▸hp.update e (by rw[hd];rfl)⟩
 ·exact⟨n,hd▸hp.update e (by rw[hd];rfl)⟩
end
end Mine.Internal
end
section
open PySem PySem.W PySem.Calls PyProof.Rows PyProof PySem.SeqAt
namespace Mine.Internal
section
variable {g:Glob} {d:Nat} {sc:Scope} {σ:Sig} {env:Env} {A:Around} {Φ Ψ B Φ₀:PH} {s:Shared} {rest:List Stmt} {Q:Flow→Shared→Prop}
noncomputable def CallsTo (g:Glob) (d:Nat) (sc:Scope) (σ:Sig) (f:Value) (args:List AV) (av:AV) (σ':Sig):Prop:=
 ∀ A env B Φ s vs,Room d A→At g sc env σ B Φ s→RepL Φ args vs→W g.w A (call f vs []) (XPost g sc env σ' B Φ av) s
theorem CallsTo.own1 {f:Value} {args:List AV} {av:AV} {a:Addr} {ov ov':OV} {vars:List (Str × AV)} {frz:List Str} (h:FnM g d [a] [(a,ov)] f args [] (fun r ω'=>r=av∧ω'=[(a,ov')])):CallsTo g d sc ⟨vars,[(a,ov)],frz,[a]⟩ f args av ⟨vars,[(a,ov')],frz,[a]⟩:=fun A env B Φ s vs r y ra=>
 h.at r y (fun b o e=>e) (fun b e=>e) ra rfl repL_nil fun Φ' v s' av' ω' l rp hP k=>by
  obtain⟨rfl,rfl⟩:=hP
  exact⟨Φ',l,k [(a,ov')] [a] (fun b o e=>.inl e) (fun b hb=>⟨by simp at hb;simp[hb],.inl hb⟩) (fun b h1 h2=>h1),rp⟩
theorem CallsTo.own {f:Value} {args:List AV} {av:AV} {a:Addr} {ov ov':OV} {own':Ow} (h:FnM g d [a] [(a,ov)] f args [] (fun r ω'=>r=av∧ω'=[(a,ov')])) (ha:σ.own.lookup a=some ov) (hm:a∈σ.mt)
  (ho:∀ b o,own'.lookup b=some o→(b=a∧o=ov')∨(b≠a∧σ.own.lookup b=some o)) (hs:∀ b∈σ.mt,(own'.lookup b).isSome=true):CallsTo g d sc σ f args av (σ.ow own' σ.mt):=fun A env B Φ s vs r y ra=>
 h.at r y (fun b o e=>by
   rw[List.lookup_cons] at e
   split at e
   ·rename_i q;cases e;rw[beq_iff_eq.mp q];exact ha
   ·simp at e) (fun b e=>by simp at e;rw[e];exact hm) ra rfl repL_nil fun Φ' v s' av' ω' l rp hP k=>by
  obtain⟨rfl,rfl⟩:=hP
  refine⟨Φ',l,k own' σ.mt (fun b o e=>?_) (fun b hb=>⟨hs b hb,.inl hb⟩) (fun b h1 h2=>?_),rp⟩
  ·rcases sw (ho b o e) with ⟨rfl,rfl⟩ | ⟨h1,h2⟩
   ·exact .inl (by simp)
   ·exact .inr ⟨by simpa using h1,h2⟩
  ·rw[List.lookup_cons] at h1 h2
   split at h1
   ·cases h1
   ·rename_i q;rw[q] at h2;simp at h2
theorem EvL.at {es:List PySem.Expr} {avs:List AV} {pos:Pos} {Q:List Value→Shared→Prop} (h:EvL g d sc σ es avs) (r:Room d A) (x:At g sc env σ B Φ s) (k:∀ Φ' v s',PH.le Φ Φ'→At g sc env σ B Φ' s'→RepL Φ' avs v→Q v s'):W g.w A (spliced (backTo pos (starEach es env))) Q s:=by
 obtain⟨Ψ,pr,hb⟩:=x.pre
 exact h.run r pr fun Φ' v s' l y rp=>k Φ' v s' l (x.frame l y hb fun a fa e=>pr.owned fa e) rp
theorem evalArgs_At {f:Value} {pos:Pos} {es:List PySem.Expr} {avs:List AV} {Q:Args→Shared→Prop} (r:Room d A) (x:At g sc env σ B Φ s) (h:EvL g d sc σ es avs)
  (hst:((backTo pos (starEach es env)).any (·.1))=false)
  (k:∀ Φ' vs s',PH.le Φ Φ'→At g sc env σ B Φ' s'→RepL Φ' avs vs→Q ⟨vs,[]⟩ s'):W g.w A (evalArgs f true (backTo pos (starEach es env)) []) Q s:=by
 have go:W g.w A (spliced (backTo pos (starEach es env))) (fun vs s'=>Q ⟨vs,[]⟩ s') s:=h.at r x k
 cases hb:backTo pos (starEach es env) with
 | nil=>
  rw[hb] at go
  exact evalArgs_nilW go
 | cons p rest=>
  obtain⟨st,t⟩:=p
  rw[hb] at hst go
  have hst':st=false:=by simp only[List.any_cons,Bool.or_eq_false_iff] at hst;exact hst.1
  subst hst'
  exact Calls.evalArgs_plain go
theorem callWith_At {f:Value} {pos:Pos} {first:List Value} {favs:List AV} {es:List PySem.Expr} {avs:List AV} {c:AV} {σ':Sig} (r:Room d A) (x:At g sc env σ B Φ s) (hf:RepL Φ favs first) (hk:Keep g f)
  (h:EvL g d sc σ es avs) (hfn:CallsTo g d sc σ f (favs++avs) c σ') (hst:((backTo pos (starEach es env)).any (·.1))=false) :
  W g.w A (callWith pos f first (backTo pos (starEach es env)) []) (XPost g sc env σ' B Φ c) s:=by
 refine callWith_of (P:=fun h=>∃ k,(k=Keeper.frame∨k=Keeper.machine∨k=Keeper.boundFrame)∧Looks (model PR g.w) h (keeperOf f) k) ?_ (fun h q=>q) ?_
 ·rw[hst];rfl
 ·refine evalArgs_At r x h hst fun Φ' vs s' l x' rp=>⟨?_,?_⟩
  ·obtain⟨Ψ,pr,_⟩:=x'.pre
   exact hk Φ' Ψ s' pr.hp
  ·exact W.mono (hfn A env B Φ' s' (first++vs) r x' (repL_append (RepL.mono l _ _ hf) rp)) fun _ _ q0=>q0.casesOn fun Φ'' l'' q q'=>⟨Φ'',l.trans l'',q,q'⟩
inductive GAPost (g:Glob) (sc:Scope) (env:Env) (σ:Sig) (B Φ:PH) (f:Value) (favs:List AV) (p:Value × List Value) (s:Shared):Prop
 | mk (e:p.1=f) (Φ':PH) (l:PH.le Φ Φ') (y:At g sc env σ B Φ' s) (r:RepL Φ' favs p.2)
noncomputable def GmA (g:Glob) (d:Nat) (sc:Scope) (σ:Sig) (a:AV) (name:Str) (f:Value) (favs:List AV):Prop:=
 ∀ A env B Φ s v pl,Room d A→At g sc env σ B Φ s→Rep Φ a v→W g.w A (getMethod v name pl) (GAPost g sc env σ B Φ f favs) s
theorem GmA.of {a:AV} {name:Str} {f:Value} {favs:List AV} (h:Gm g d a name f favs):GmA g d sc σ a name f favs:=fun A env B Φ s v pl r y rp=>by
 obtain⟨Ψ,pr,hb⟩:=y.pre
 exact(h A Φ Ψ s v pl r pr.hp rp).mono fun p s' q0=>q0.casesOn fun e Φ' l hp q=>⟨e,Φ',l,y.frame l (pr.next l hp) hb fun a fa e=>pr.owned fa e,q⟩
theorem EvX.meth {o:PySem.Expr} {name:Str} {apos pos:Pos} {a:AV} {f:Value} {favs:List AV} {es:List PySem.Expr} {avs:List AV} {c:AV} {σ₁ σ':Sig} (h1:EvX g d sc σ o a σ₁) (hm:GmA g d sc σ₁ a name f favs) (hk:Keep g f) (h:EvL g d sc σ₁ es avs) (hfn:CallsTo g d sc σ₁ f (favs++avs) c σ')
  (hbase:autoParam (∀ env,env.scope=sc→attributeBase o name env (eval o env)=eval o env) aR) (hline:autoParam ((apos.endLine==pos.line)=true) aR)
  (hform:autoParam (∀ env,methodCallForm (es.length+([]:List Keyword).length) (backTo pos (starEach es env)) (backToKw pos (keywordEach [] env))=true) aR)
  (hst:autoParam (∀ env,((backTo pos (starEach es env)).any (·.1))=false) aR):EvX g d sc σ (.Call (.Attribute o name apos) es [] pos) c σ':=fun A env B Φ s r y=>by
 have hsc:env.scope=sc:=by obtain⟨Ψ,pr,_⟩:=y.pre;exact pr.ev.scE
 rw[arm_eval_Call,hbase env hsc]
 refine wpAny_bind (h1.run r y fun Φ₁ v s₁ l₁ y₁ r₁=>wpAny_bind (wpAny_standAt ?_))
 have hpos:methodCallPos true o env apos pos=pure pos:=by unfold methodCallPos;simp[hline]
 unfold methodCall
 rw[hform env]
 refine wpAny_bind (wpAny_holding ?_)
 show W g.w A (getMethod v name (do return (←importBound o env).getD true)) _ _
 refine W.mono (hm A env B Φ₁ s₁ v _ r y₁ r₁) ?_
 rintro⟨f',first⟩ s₂ ⟨rfl,Φ₂,l₂,y₂,hr₂⟩
 refine wpAny_bind (wpAny_of_eq hpos ?_)
 exact W.mono (callWith_At r y₂ hr₂ hk h hfn (hst env)) fun _ _ q0=>q0.casesOn fun Φ₃ l₃ q q'=>⟨Φ₃,(l₁.trans l₂).trans l₃,q,q'⟩
theorem GmA.list {a:Addr} {xs:List AV} {name:Str} {id:String} (ha:σ.own.lookup a=some (.lst xs)) (slot:Slot "list" name id) (hty:typeOf (.builtin id)=pure (.type "method_descriptor")):GmA g d sc σ (.ref a) name (.builtin id) [.ref a]:=fun A env B Φ s v pl r y rp=>by
 replace rp:_=_:=rp
 subst rp
 refine box fun bX bk=>?_
 obtain⟨Ψ,pr,hb⟩:=y.pre
 obtain⟨o,e,vs,⟨n,rfl⟩,_⟩:=pr.own a _ ha
 refine bk ?_
 clear bk bX
 exact getMethod_builtin ⟨_,pr.hp.getΨ e,rfl⟩ PySem.F.plainAttrs_list slot hty (fun b q=>by cases q;exact⟨_,pr.hp.getΨ e,rfl⟩) ⟨rfl,Φ,PH.le.refl _,y,repL_cons rep_ref repL_nil⟩
theorem repL_snoc {xs:List AV} {vs:Array Value} {x:AV} {v:Value} (h:RepL Φ xs vs.toList) (hx:Rep Φ x v):RepL Φ (xs++[x]) (vs.push v).toList:=by
 rw[Array.toList_push];exact repL_append h (repL_cons hx repL_nil)
theorem FnM.list {a:Addr} {xs ys:List AV} {id:String} {args:List AV} {c:AV}
  (h:∀ A Φ Ψ s vs n ws,Room d A→Hp g Φ Ψ s→Ψ a=some {cls:=.type "list",data:=.seq vs n}→RepL Φ xs vs.toList→RepL Φ args ws →
   W g.w A (call (.builtin id) (.ref a::ws)) (fun v s'=>∃ us m Φ',PH.le Φ Φ'∧Hp g Φ' (Ψ.put a {cls:=.type "list",data:=.seq us m}) s'∧RepL Φ' ys us.toList∧Rep Φ' c v) s) :
  FnM g d [a] [(a,.lst xs)] (.builtin id) (.ref a::args) [] (fun r ω'=>r=c∧ω'=[(a,.lst ys)]):=fun A Φ Ψ s vs ks r hp ho ra e rk=>by
 refine repL_cons_elim ra fun v ws hv hw=>?_
 replace hv:_=_:=hv
 subst hv
 have:ks=[]:=by simpa using e
 subst this
 refine box fun bX bk=>?_
 obtain⟨o,eo,vs,⟨n,rfl⟩,hr⟩:=ho a (.lst xs) (by simp)
 refine bk ?_
 clear bk bX
 refine(h A Φ Ψ s vs n ws r hp eo hr hw).mono fun v s' q0=>q0.elim fun us q0=>q0.elim fun m q0=>q0.elim fun Φ' q0=>q0.elim fun l q0=>q0.elim fun hp' q0=>q0.elim fun hy hc=>⟨Φ',_,c,[(a,.lst ys)],l,hp',fun b ov q=>?_,fun b o hb q=>?_,hc,⟨rfl,rfl⟩,fun b ov q=>.inl ?_⟩
 ·rw[List.lookup_cons] at q
  split at q
  ·rename_i z;cases q;rw[beq_iff_eq.mp z];exact⟨_,PH.put_self _ _ _,us,⟨m,rfl⟩,hy⟩
  ·simp at q
 ·rw[PH.put_other _ _ (by simpa using hb)];exact q
 ·rw[List.lookup_cons] at q ⊢
  split at q<;>simp_all
theorem FnM.append {a:Addr} {xs:List AV} {x:AV} (h:small xs.length):FnM g d [a] [(a,.lst xs)] (.builtin "list.append") [.ref a,x] [] (fun r ω'=>r=.none∧ω'=[(a,.lst (xs++[x]))]):=FnM.list fun A Φ Ψ s vs n ws r hp e hr hw=>by
 refine repL_cons_elim hw fun v ws' hv hw'=>?_
 have:=repL_nil_inv hw'
 subst this
 refine wpAny_list_append_plain ⟨n,hp.getΨ e⟩ (fun h' ⟨m,hl⟩ sb=>?_) (by rw[size_of hr];exact small_line h)
 exact⟨vs.push v,m,Φ,PH.le.refl _,hp.same e sb hl,repL_snoc hr hv,rep_none⟩
theorem FnM.extend {a:Addr} {xs ys:List AV} (h:small (xs.length+ys.length)) (h0:small xs.length):FnM g d [a] [(a,.lst xs)] (.builtin "list.extend") [.ref a,.lst ys] [] (fun r ω'=>r=.none∧ω'=[(a,.lst (xs++ys))]):=FnM.list fun A Φ Ψ s vs n ws r hp e hr hw=>by
 refine repL_cons_elim hw fun v ws' hv hw'=>?_
 have:=repL_nil_inv hw'
 subst this
 refine box fun bX bk=>?_
 obtain⟨b,o,us,rfl,eo,⟨m,rfl⟩,hu⟩:=lst_inv hv
 refine bk ?_
 clear bk bX
 have s1:=size_of hr
 have s2:=size_of hu
 have hz:¬(!vs.isEmpty&&Builtin.List.listTooLong (vs.size+us.size))=true:=by
  have:Builtin.List.listTooLong (vs.size+us.size)=false:=by
   rw[s1,s2]
   exact decide_eq_false (Nat.not_lt_of_le (small_line h))
  rw[this];simp
 refine call_meets PySem.F.slot_list_extend ⟨_,hp.getΨ e,rfl⟩ PySem.F.entry_list_extend (PySem.F.args_list_extend_2 _ _) (AutoSeq1.list_extend_list_list_0 a vs n b us m hz (by rw[s1];exact small_line h0) (by rw[s1,s2];exact Nat.le_succ_of_le (small_line h))) ⟨hp.getΨ e,hp.getΦ eo,?_⟩
 refine box fun bX bk=>?_
 obtain⟨m',hp'⟩:=upd_lst (f:=fun x=>x++us) hp e rfl
 refine bk ?_
 clear bk bX
 exact⟨vs++us,m',Φ,PH.le.refl _,hp',by simpa using repL_append hr hu,rep_none⟩
theorem FnM.reverse {a:Addr} {xs:List AV} (h:small xs.length):FnM g d [a] [(a,.lst xs)] (.builtin "list.reverse") [.ref a] [] (fun r ω'=>r=.none∧ω'=[(a,.lst xs.reverse)]):=FnM.list fun A Φ Ψ s vs n ws r hp e hr hw=>by
 have:=repL_nil_inv hw
 subst this
 refine call_meets PySem.F.slot_list_reverse ⟨_,hp.getΨ e,rfl⟩ PySem.F.entry_list_reverse (PySem.F.args_list_reverse_1 _) (AutoSeq1.list_reverse_list_0 a vs n (by rw[size_of hr];exact small_line h)) ⟨hp.getΨ e,?_⟩
 obtain⟨m',hp'⟩:=upd_lst (f:=fun x=>x.reverse) hp e rfl
 refine⟨vs.reverse,m',Φ,PH.le.refl _,hp',?_,rep_none⟩
 have rr:∀ (xs:List AV) (vs:List Value),RepL Φ xs vs→RepL Φ xs.reverse vs.reverse:=by
  intro xs
  induction xs with
  | nil=>intro vs h;have:=repL_nil_inv h;subst this;simpa using repL_nil
  | cons x xs ih=>
   intro vs h
   refine repL_cons_elim h fun v ws h1 h2=>?_
   simpa using repL_append (ih ws h2) (repL_cons h1 repL_nil)
 simpa using rr _ _ hr
end
end Mine.Internal
end
section
open PySem PySem.W PySem.Calls PyProof.Rows PyProof PySem.SeqAt
namespace Mine.Internal
section
variable {g:Glob} {d:Nat} {sc:Scope} {σ:Sig}
theorem Ts.or {x y:PySem.Expr} {p:Pos} {b c:Bool} (h1:Ts g d sc σ x b) (h2:Ts g d sc σ y c):Ts g d sc σ (.BoolOp .Or [x,y] p) (b||c):=by
 cases b
 ·exact Ts.or0 h1 h2
 ·exact Ts.or1 h1
theorem Ts.and {x y:PySem.Expr} {p:Pos} {b c:Bool} (h1:Ts g d sc σ x b) (h2:Ts g d sc σ y c):Ts g d sc σ (.BoolOp .And [x,y] p) (b&&c):=by
 cases b
 ·exact Ts.and0 h1
 ·exact Ts.and1 h1 h2
theorem Fn.any {ω:Ow} {f:Value} {args:List AV} {kw:List (Str × AV)} {av:AV} (h:Fn g d [] f args kw av):Fn g d ω f args kw av:=fun A Φ Ψ s vs ks r hp _ ra e rk=>h A Φ Ψ s vs ks r hp Owns.nil ra e rk
end
section
variable {g:Glob} {d:Nat} {sc:Scope} {σ:Sig} {env:Env} {A:Around} {Φ₀ B:PH} {rest:List Stmt} {Q:Flow→Shared→Prop}
noncomputable def joinQ (g:Glob) (sc:Scope) (env:Env) (Φ₀ B:PH) (σ:Sig):Flow→Shared→Prop:=fun f s=>f=.next∧∃ Φ,PH.le Φ₀ Φ∧At g sc env σ B Φ s
theorem Bk.iteJ {t:PySem.Expr} {b1 b2:List Stmt} {pos:Pos} {b:Bool} (r:Room d A) (h:Ts g d sc σ t b) (σ':Sig) (h1:b=true→Bk g sc env A Φ₀ B σ b1 (joinQ g sc env Φ₀ B σ')) (h2:b=false→Bk g sc env A Φ₀ B σ b2 (joinQ g sc env Φ₀ B σ')) (k:Bk g sc env A Φ₀ B σ' rest Q) :
  Bk g sc env A Φ₀ B σ (.If t b1 b2 pos::rest) Q:=by
 have go:∀ bb,Bk g sc env A Φ₀ B σ bb (joinQ g sc env Φ₀ B σ')→Bk g sc env A Φ₀ B σ bb (cont g env A rest Q):=fun bb h Φ s l y=>(h Φ s l y).mono fun f s' q0=>q0.elim fun e q0=>q0.elim fun Φ' q0=>q0.elim fun l' y'=>by
  subst e;exact k Φ' s' l' y'
 exact Bk.ite r h (fun e=>go _ (h1 e)) (fun e=>go _ (h2 e))
theorem Bk.join (σ':Sig) (h:Knows σ'.vars σ.vars) (ho:autoParam (σ'.own=σ.own) aR) (hf:autoParam (σ'.frz=σ.frz) aR) (hm:autoParam (σ'.mt=σ.mt) aR):Bk g sc env A Φ₀ B σ [] (joinQ g sc env Φ₀ B σ'):=
 .nil fun Φ s l y=>⟨rfl,Φ,l,y.know h ho hf hm⟩
end
structure PlainD (n:Nat) (x:AV):Prop where
 data:isData x=true
 lay:(pd x).canLay0=true
 dep:(pd x).depth≤n
theorem PlainD.plain {n:Nat} {x:AV} (h:PlainD n x) (hn:n≤64:=by omega):Plain x:=⟨h.data,by unfold shaped;rw[h.lay,decide_eq_true (Nat.le_trans h.dep hn)];rfl⟩
theorem PlainD.int {n:Nat} {i:Int}:PlainD n (.int i):=⟨rfl,rfl,Nat.zero_le _⟩
theorem PlainD.none {n:Nat}:PlainD n .none:=⟨rfl,rfl,Nat.zero_le _⟩
theorem PlainD.str {n:Nat} {x:Str} (h:PyData.strOk x=true):PlainD n (.str x):=⟨rfl,h,Nat.zero_le _⟩
theorem plainAll {n:Nat}:∀ {xs:List AV},(∀ x∈xs,PlainD n x)→areData xs=true∧PyData.canLayAll0 (pds xs)=true∧PyData.depthAll (pds xs)≤n
 | [],_=>⟨rfl,rfl,Nat.zero_le _⟩
 | x::xs,h=>by
  obtain⟨h1,h2,h3⟩:=plainAll (fun y hy=>h y (List.mem_cons_of_mem _ hy))
  have hx:=h x List.mem_cons_self
  exact⟨Bool.and_eq_true_iff.mpr ⟨hx.data,h1⟩,Bool.and_eq_true_iff.mpr ⟨hx.lay,h2⟩,Nat.max_le.mpr ⟨hx.dep,h3⟩⟩
theorem PlainD.lst {n:Nat} {xs:List AV} (h:∀ x∈xs,PlainD n x):PlainD (n+1) (.lst xs):=by
 obtain⟨h1,h2,h3⟩:=plainAll h
 exact⟨h1,h2,Nat.succ_le_succ h3⟩
theorem PlainD.tup {n:Nat} {xs:List AV} (h:∀ x∈xs,PlainD n x):PlainD (n+1) (.tup xs):=by
 obtain⟨h1,h2,h3⟩:=plainAll h
 exact⟨h1,h2,Nat.succ_le_succ h3⟩
theorem PlainD.tup2 {n:Nat} {x y:AV} (h1:PlainD n x) (h2:PlainD n y):PlainD (n+1) (.tup [x,y]):=.tup fun z hz=>by
 rcases memc hz with rfl | hz
 ·exact h1
 ·rw[List.mem_singleton.mp hz];exact h2
section
variable {g:Glob} {d:Nat} {sc:Scope} {σ:Sig} {env:Env} {A:Around} {Φ Ψ B Φ₀:PH} {s:Shared} {rest:List Stmt} {Q:Flow→Shared→Prop}
noncomputable def plainV:AV→Bool
 | .raw _ | .sat _=>false
 | _=>true
theorem handed_of {av:AV} {v:Value} (h:plainV av=true) (r:Rep Φ av v):handedIn v=true:=by
 cases v<;>try rfl
 rename_i i
 exfalso
 cases av with
 | raw=>exact absurd h Bool.false_ne_true
 | sat=>exact absurd h Bool.false_ne_true
 | int i=>obtain⟨t,e⟩:=r;cases e
 | str i=>obtain⟨t,e⟩:=r;cases e
 | tup i=>obtain⟨a,o,vs,e,_⟩:=r;cases e
 | lst i=>obtain⟨a,o,vs,e,_⟩:=r;cases e
 | obj i j=>obtain⟨a,o,d,od,es,n,e,_⟩:=r;cases e
 | _=>replace r:_=_:=r;cases r
theorem RepF.get {fs:List (Str × AV)} {get:Str→Option Value} (h:RepF Φ fs get):∀ {x:Str} {av:AV},fs.lookup x=some av→∃ v,get x=some v∧Rep Φ av v:=by
 induction fs with
 | nil=>intro x av e;simp at e
 | cons p r ih=>
  intro x av e
  rw[List.lookup_cons] at e
  split at e
  ·rename_i q;cases e;rw[beq_iff_eq.mp q];exact h.1
  ·exact ih h.2 e
theorem lookIn_of {name:Str} {o:Obj} {es:Array DictEntry} {n:Nat} (hd:o.data=.dict es n) (hk:StrKeys es):lookIn name o=some (nsFind es name):=by
 unfold lookIn
 rw[hd]
 dsimp only
 have hany:es.toList.any (·.refKey)=false:=by
  rw[List.any_eq_false];intro e he;obtain⟨n,t,h⟩:=hk e (Array.mem_toList_iff.mp he);simp[DictEntry.refKey,h]
 unfold nsFind findBy
 rw[←Array.find?_toList]
 cases es.toList.find? (fun e=>e.key.isStr name) with
 | some e=>rfl
 | none=>dsimp only;rw[hany];rfl
noncomputable def attrOk (w:World) (C:Addr) (name:Str):Bool:=plainGet (KB w) C name&&hasDictIn (KB w) C&&(match findIn (KB w) (.ref C) name with
 | some attr=>noGet (KB w) attr
 | none=>false)
theorem attr_get {C x:Addr} {ox od:Obj} {es:Array DictEntry} {n:Nat} {name:Str} {v:Value} {Q:Value→Shared→Prop} {expr:Bool} (hp:Hp g Φ Ψ s) (hok:attrOk g.w C name=true) (I:InstAt s.heap x ox C (some od)) (hd:od.data=.dict es n) (hk:StrKeys es)
  (hv:nsFind es name=some v) (hh:handedIn v=true) (h:Q v {s with toks:=s.toks+1}):W g.w A (getAttr (.ref x) name expr) Q s:=by
 unfold attrOk at hok
 simp only[Bool.and_eq_true] at hok
 refine box fun bX bk=>?_
 obtain⟨⟨h1,h2⟩,h3⟩:=hok
 refine bk ?_
 clear bk bX
 split at h3
 ·rename_i attr q
  exact get_value hp.kin I (plainGet_of h1).1 (findObj_own h2 q h3 (by rw[lookIn_of hd hk,hv])) hh h
 ·cases h3
theorem Ev.attr {value:PySem.Expr} {name:Str} {pos:Pos} {C:Addr} {fs:List (Str × AV)} {av:AV} (h:Ev g d sc σ value (.obj C fs)) (hok:attrOk g.w C name=true) (hl:fs.lookup name=some av) (hv:plainV av=true)
  (hb:autoParam (∀ env,attributeBase value name env (eval value env)=eval value env) aR):Ev g d sc σ (.Attribute value name pos) av:=fun A env Φ Ψ s r x=>by
 refine Attribute_any_ (h.run r x fun Φ' v s' l x' rp=>?_) (by rw[arm_eval_Attribute,hb env])
 refine box fun bX bk=>?_
 obtain⟨a,o,dd,od,es,n,rfl,ho,h1,h2,h3,h4,h5,h6,h8,hf,h7⟩:=rp
 obtain⟨u,e1,e2⟩:=RepF.get hf hl
 refine bk ?_
 clear bk bX
 refine attr_get x'.hp hok ⟨x'.hp.getΦ ho,h1,by unfold notCls;rw[h3],by rw[h2];exact x'.hp.getΦ h4⟩ h5 h6 e1 (handed_of hv e2) ?_
 exact⟨Φ',l,x'.hp.tok _,e2⟩
noncomputable def instAV (C dd:Addr):AV:=.sat fun Φ v=>∃ x,v=.ref x∧Φ x=some (instObj C dd)
theorem inst_inv {C dd:Addr} {v:Value} (h:Rep Φ (instAV C dd) v):∃ x,v=.ref x∧Φ x=some (instObj C dd):=by
 unfold instAV at h
 refine box fun bX bk=>?_
 obtain⟨Φ₁,l,x,e,h⟩:=h
 refine bk ?_
 clear bk bX
 exact⟨x,e,l _ _ h⟩
theorem Ev.attrI {value:PySem.Expr} {name:Str} {pos:Pos} {C dd:Addr} {fs:List (Str × AV)} {av:AV} (h:Ev g d sc σ value (instAV C dd)) (ho:σ.own.lookup dd=some (.dict fs)) (hok:attrOk g.w C name=true) (hl:fs.lookup name=some av) (hv:plainV av=true)
  (hb:autoParam (∀ env,attributeBase value name env (eval value env)=eval value env) aR):Ev g d sc σ (.Attribute value name pos) av:=fun A env Φ Ψ s r x=>by
 refine Attribute_any_ (h.run r x fun Φ' v s' l x' rp=>?_) (by rw[arm_eval_Attribute,hb env])
 refine box fun bX bk=>?_
 obtain⟨a,rfl,ha⟩:=inst_inv rp
 refine bk ?_
 clear bk bX
 refine box fun bX bk=>?_
 obtain⟨od,e0,es,n,h5,h6,h8,hf,h7⟩:=x'.own dd _ ho
 obtain⟨u,e1,e2⟩:=RepF.get hf hl
 refine bk ?_
 clear bk bX
 refine attr_get (od:=od) x'.hp hok ⟨x'.hp.getΦ ha,rfl,rfl,x'.hp.getΨ e0⟩ h5 h6 e1 (handed_of hv e2) ?_
 exact⟨Φ',l,x'.hp.tok _,e2⟩
noncomputable def methOk (w:World) (C:Addr) (name:Str) (f:Addr):Bool:=plainGet (KB w) C name&&(findIn (KB w) (.ref C) name==some (some (.ref f)))&&(typeIn (KB w) (.ref f)==some (.type "function"))
theorem meth_get {C x f:Addr} {ox od:Obj} {es:Array DictEntry} {n:Nat} {name:Str} {Q:Value × List Value→Shared→Prop} {pl:Sem Bool} (hp:Hp g Φ Ψ s) (hok:methOk g.w C name f=true) (I:InstAt s.heap x ox C (some od)) (hd:od.data=.dict es n) (hk:StrKeys es)
  (hv:nsFind es name=none) (h:Q (.ref f,[.ref x]) s):W g.w A (getMethod (.ref x) name pl) Q s:=by
 unfold methOk at hok
 simp only[Bool.and_eq_true] at hok
 obtain⟨⟨h1,h2⟩,h3⟩:=hok
 exact method_fn hp.kin I (plainGet_of h1).1 (plainGet_of h1).2 (beq_iff_eq.mp h2) (beq_iff_eq.mp h3) (by show(lookIn name od).map _=_;rw[lookIn_of hd hk,hv];rfl) h
theorem Gm.obj {C f:Addr} {fs:List (Str × AV)} {name:Str} (hok:methOk g.w C name f=true) (hn:name∉fs.map (·.1)):Gm g d (.obj C fs) name (.ref f) [.obj C fs]:=fun A Φ Ψ s v pl r hp rp=>by
 have rp':=rp
 refine box fun bX bk=>?_
 obtain⟨a,o,dd,od,es,n,rfl,ho,h1,h2,h3,h4,h5,h6,h8,hf,h7⟩:=rp
 refine bk ?_
 clear bk bX
 refine meth_get hp hok ⟨hp.getΦ ho,h1,by unfold notCls;rw[h3],by rw[h2];exact hp.getΦ h4⟩ h5 h6 (h7 name hn) ?_
 exact⟨rfl,Φ,PH.le.refl _,hp,repL_cons rp' repL_nil⟩
theorem GmA.inst {C dd f:Addr} {fs:List (Str × AV)} {name:Str} (ho:σ.own.lookup dd=some (.dict fs)) (hok:methOk g.w C name f=true) (hn:name∉fs.map (·.1)):GmA g d sc σ (instAV C dd) name (.ref f) [instAV C dd]:=fun A env B Φ s v pl r y rp=>by
 have rp':=rp
 refine box fun bX bk=>?_
 obtain⟨a,rfl,ha⟩:=inst_inv rp
 refine bk ?_
 clear bk bX
 refine box fun bX bk=>?_
 obtain⟨Ψ,pr,hb⟩:=y.pre
 obtain⟨od,e0,es,n,h5,h6,h8,hf,h7⟩:=pr.own dd _ ho
 refine bk ?_
 clear bk bX
 refine meth_get (od:=od) pr.hp hok ⟨pr.hp.getΦ ha,rfl,rfl,pr.hp.getΨ e0⟩ h5 h6 (h7 name hn) ?_
 exact⟨rfl,Φ,PH.le.refl _,y,repL_cons rp' repL_nil⟩
end
section
open PySem.Builtin PySem.Builtin.Str
section
variable {g:Glob} {d:Nat} {ω:Ow} {Φ Ψ:PH} {s:Shared}
theorem Fn.strLen {x:Str} (h:small x.length):Fn g d ω (.builtin "len") [.str x] [] (.int x.length):=.one fun A Φ Ψ s v r hp how ra=>by
 refine str_elim ra fun t=>?_
 exact PySem.P.len_str (by have:=small_lt h;lia) (Ret.intro ((hp.tok _).tok _) rep_int)
theorem Fn.count {x y:Str}:Fn g d ω (.builtin "str.count") [.str x,.str y] [] (.int (Txt.count x y)):=.two fun A Φ Ψ s v u r hp how ra rb=>by
 refine str_elim ra fun t=>?_
 refine str_elim rb fun t'=>?_
 exact SC.count (Ret.intro (hp.tok _) rep_int)
theorem Fn.isspace {x:Str}:Fn g d ω (.builtin "str.isspace") [.str x] [] (.bool (Txt.isspace x)):=.one fun A Φ Ψ s v r hp how ra=>by
 refine str_elim ra fun t=>?_
 exact SC.isspace (Ret.intro hp rep_bool)
theorem Fn.lower {x:Str} (hf:tooLong (Txt.lower x).length=false):Fn g d ω (.builtin "str.lower") [.str x] [] (.str (Txt.lower x)):=.one fun A Φ Ψ s v r hp how ra=>by
 refine str_elim ra fun t=>?_
 exact SC.lower hf (Ret.intro (hp.tok _) rep_str)
theorem Fn.upper {x:Str} (hf:tooLong (Txt.upper x).length=false):Fn g d ω (.builtin "str.upper") [.str x] [] (.str (Txt.upper x)):=.one fun A Φ Ψ s v r hp how ra=>by
 refine str_elim ra fun t=>?_
 exact SC.upper hf (Ret.intro (hp.tok _) rep_str)
noncomputable def strL (l:List Str):AV:=.lst (l.map AV.str)
theorem repL_strValues:∀ {l:List (Str × Tok)},RepL Φ ((l.map (·.1)).map AV.str) (strValues l)
 | []=>repL_nil
 | p::r=>repL_cons rep_str (repL_strValues (l:=r))
theorem repL_strs_inv:∀ {l:List Str} {vs:List Value},RepL Φ (l.map AV.str) vs→∃ m:List (Str × Tok),vs=strValues m∧m.map (·.1)=l
 | [],vs,h=>⟨[],repL_nil_inv h,rfl⟩
 | x::l,vs,h=>by
  refine repL_cons_elim h fun v ws h1 h2=>?_
  refine str_elim h1 fun t=>?_
  obtain⟨m,rfl,rfl⟩:=repL_strs_inv h2
  exact⟨(x,t)::m,rfl,rfl⟩
theorem Fn.split {x y:Str} (hy:(y.length==0)=false) (hx:small x.length) (hsz:(partsBetween x (occurrences x y 0 x.length (x.length+1)) y.length).length≤sizeLine):Fn g d ω (.builtin "str.split") [.str x,.str y] [] (strL (Txt.split x y)):=.two fun A Φ Ψ s v u r hp how ra rb=>by
 refine str_elim ra fun t=>?_
 refine str_elim rb fun t'=>?_
 have fin:∀ (l:List (Str × Tok)) (tk:Nat),l.map (·.1)=Txt.split x y→Ret g Φ Ψ (strL (Txt.split x y)) (.ref s.heap.objs.size) {s with toks:=tk,heap:=s.heap.push {cls:=.type "list",data:=.seq (strValues l).toArray}}:=fun l tk e=>by
  have:=ret_lst (hp.tok tk) (repL_strValues (Φ:=Φ) (l:=l))
  rw[e] at this
  exact this
 cases h1:(decide (x.length<y.length)||decide (strKind x<strKind y))
 ·cases hf:(occurrences x y 0 x.length (x.length+1)).isEmpty
  ·refine call_meets F.slot_str_split (typeIs_str _ _ _) F.entry_str_split (F.args_str_split_2 _ _) (meets_str_split_sep x y t t' h1 hy hf (small_line hx) hsz) ?_
   show wants _ _ _ {s with toks:=_,heap:=s.heap.push {cls:=.type "list",data:=.seq (strsFrom s.toks (partsBetween x (occurrences x y 0 x.length (x.length+1)) y.length)).toArray}}
   rw[strsFrom_eq]
   exact fin (numbered s.toks _) _ ((numbered_texts _ _).trans ((if_neg (ne_true_of_eq_false h1)).trans (if_neg (ne_true_of_eq_false hf))).symm)
  ·exact call_meets F.slot_str_split (typeIs_str _ _ _) F.entry_str_split (F.args_str_split_2 _ _) (meets_str_split_not_found x y t t' h1 hy hf)
    (fin [(x,t)] _ ((if_neg (ne_true_of_eq_false h1)).trans (if_pos hf)).symm)
 ·exact call_meets F.slot_str_split (typeIs_str _ _ _) F.entry_str_split (F.args_str_split_2 _ _) (meets_str_split_cannot_occur x y t t' h1)
   (fin [(x,t)] _ (if_pos h1).symm)
theorem Fn.join {x:Str} {l:List Str} (hok:JoinOk x l=true):Fn g d ω (.builtin "str.join") [.str x,strL l] [] (.str (Txt.join x l)):=.two fun A Φ Ψ s v u r hp how ra rb=>by
 refine str_elim ra fun t=>?_
 refine lst_elim rb fun a o vs ho hl hv=>?_
 obtain⟨m,e1,e2⟩:=repL_strs_inv hv
 have e3:vs=(strValues m).toArray:=by rw[←e1]
 subst e3
 exact SC.join (isList_of hp ho hl) e2 hok fun t' k=>Ret.intro (hp.tok k) rep_str
theorem Ev.strMeth {sc:Scope} {σ:Sig} {o:PySem.Expr} {name:Str} {apos pos:Pos} {x:Str} {id:String} {es:List PySem.Expr} {avs:List AV} {c:AV} (h1:Ev g d sc σ o (.str x)) (slot:Slot "str" name id) (hty:typeOf (.builtin id)=pure (.type "method_descriptor"))
  (h:EvL g d sc σ es avs) (hfn:Fn g d σ.own (.builtin id) (.str x::avs) [] c)
  (hbase:autoParam (∀ env,attributeBase o name env (eval o env)=eval o env) aR) (hline:autoParam ((apos.endLine==pos.line)=true) aR)
  (hform:autoParam (∀ env,methodCallForm (es.length+([]:List Keyword).length) (backTo pos (starEach es env)) (backToKw pos (keywordEach [] env))=true) aR)
  (hst:autoParam (∀ env,((backTo pos (starEach es env)).any (·.1))=false) aR):Ev g d sc σ (.Call (.Attribute o name apos) es [] pos) c:=
 Ev.meth h1 (Gm.str slot hty) (Keep.bi _) h hfn hbase hline hform hst
end
end
section
variable {g:Glob} {d:Nat} {sc:Scope} {σ:Sig} {env:Env} {A:Around} {Φ₀ B:PH} {rest:List Stmt} {Q:Flow→Shared→Prop}
noncomputable abbrev n_append:Str:={cps:={toList:=[97,112,112,101,110,100]}}
theorem Bk.app1 {x:Str} {e:PySem.Expr} {p apos cpos pos:Pos} {a:Addr} {xs:List AV} {av:AV} (r:Room d A) (hx:σ.vars.lookup x=some (.ref a)) (ho:σ.own=[(a,.lst xs)]) (hm:σ.mt=[a]) (h:Ev g d sc σ e av) (hs:small xs.length)
  (k:Bk g sc env A Φ₀ B (σ.ow ([(a,.lst (xs++[av]))]) ([a])) rest Q)
  (he:autoParam (∀ env,starEach [e] env=(false,eval e env)::starEach [] env) aR) (hline:autoParam ((apos.endLine==cpos.line)=true) aR) (hd:(x==("__debug__":Str))=false:=by decide)
  (hform:autoParam (∀ env,methodCallForm ([e].length+([]:List Keyword).length) (backTo cpos (starEach [e] env)) (backToKw cpos (keywordEach [] env))=true) aR)
  (hst:autoParam (∀ env,((backTo cpos (starEach [e] env)).any (·.1))=false) aR) :
  Bk g sc env A Φ₀ B σ (.Expr (.Call (.Attribute (.Name x p) n_append apos) [e] [] cpos) pos::rest) Q:=by
 obtain⟨vars,own,frz,mt⟩:=σ
 dsimp only at hx ho hm
 subst ho hm
 exact Bk.expr r (EvX.meth (EvX.of (Ev.name hx hd)) (GmA.list (xs:=xs) (by simp) PySem.F.slot_list_append PySem.type_list_append) (Keep.bi _) (EvL.cons h EvL.nil he) (CallsTo.own1 (FnM.append hs)) (fun _ _=>rfl) hline hform hst) rfl k
theorem own1_ok {a:Addr} {o o':OV} (b:Addr) (ov:OV) (q:List.lookup b [(a,o)]=some ov):List.lookup b [(a,o)]=some ov∧((List.lookup b [(a,o')]).isSome=true∨b∈[a]):=by
 refine⟨q,.inr ?_⟩
 rw[List.lookup_cons] at q
 split at q
 ·rename_i z;rw[beq_iff_eq.mp z];simp
 ·simp at q
end
theorem len_app (x y:Str):(x++y).length=x.length+y.length:=by show(x.cps++y.cps).size=_;simp[Str.length]
section
variable {g:Glob} {d:Nat} {sc:Scope} {σ:Sig} {env:Env} {A:Around} {Φ₀ B:PH} {rest:List Stmt}
theorem FQ.none {Φ₁ B':PH} {ω:Ow} {P:AV→Ow→Prop} {ω':Ow} (hP:P .none ω') (hω:∀ a ov,ω'.lookup a=some ov→σ.own.lookup a=some ov∧((ω.lookup a).isSome=true∨a∈σ.mt))
  (lb:PH.le B B':=by first | exact PH.le.refl _ | assumption) (lΦ:PH.le Φ₀ Φ₁:=by first | exact PH.le.refl _ | assumption) :
  (∀ Φ s,PH.le Φ₁ Φ→At g sc env σ B' Φ s→FQ g sc env Φ₀ B ω P (.ret .none) s)∧(∀ Φ s,PH.le Φ₁ Φ→At g sc env σ B' Φ s→FQ g sc env Φ₀ B ω P .next s):=
 ⟨fun Φ s l y=>FQ.ret y (lΦ.trans l) lb rep_none hP hω,fun Φ s l y=>FQ.ret y (lΦ.trans l) lb rep_none hP hω⟩
end
section
variable {g:Glob} {d:Nat} {sc:Scope} {σ:Sig} {env:Env} {A:Around} {Φ Ψ Φ₀ B:PH} {rest:List Stmt} {Q:Flow→Shared→Prop}
noncomputable def makeOk (w:World) (C fI:Addr):Bool:=makesIn (KB w) C&&(findIn (KB w) (.ref C) "__init__"==some (some (.ref fI)))&&(typeIn (KB w) (.ref fI)==some (.type "function"))
theorem repD_empty {Φ:PH}:RepO Φ (.dict []) emptyDict:=⟨#[],0,rfl,fun e he=>by simp at he,by unfold UniqKeys;simp,trivial,fun x _=>rfl⟩
noncomputable def NewI (C:Addr) (P:Addr→Ow→Prop) (av:AV) (ω':Ow):Prop:=∀ X:AV→Ow→Prop,(∀ dd ω',P dd ω'→X (instAV C dd) ω')→X av ω'
theorem FnC.make {C fI:Addr} {args:List AV} {kw:List (Str × AV)} {P:Addr→Ow→Prop} (hok:makeOk g.w C fI=true) (hd0:0<d)
  (init:∀ dd,FnC g d [dd] [(dd,.dict [])] (.ref fI) (instAV C dd::args) kw (fun r ω'=>r=.none∧P dd ω')):FnC g (d+1) [] [] (.ref C) args kw (NewI C P):=fun A Φ Ψ s vs ks r hp ho ra e rk=>by
 unfold makeOk at hok
 simp only[Bool.and_eq_true] at hok
 obtain⟨⟨h1,h2⟩,h3⟩:=hok
 obtain⟨hh,gg,dr,t,os⟩:=s
 have hp1:=hp.allocΨ (o:=emptyDict) rfl
 have hp2:=hp1.allocΦ (o:=instObj C hh.objs.size) rfl
 have hsz:(hh.push emptyDict).objs.size=hh.objs.size+1:=Heap.size_push ..
 dsimp only at hp1 hp2
 rw[hsz] at hp2
 have hl:PH.le Φ (Φ.put (hh.objs.size+1) (instObj C hh.objs.size)):=PH.le_put _ (by
  have:=hp1.freshΦ;dsimp only at this;rwa [hsz] at this)
 have hne:∀ b ob,Ψ b=some ob→b≠hh.objs.size:=fun b ob e q=>by have:=hp.freshΨ;dsimp only at this;rw[q,this] at e;cases e
 refine make_core (makes_of hp.kin h1) (looks_findIn hp.kin (beq_iff_eq.mp h2)) (fun self=>bind_fn hp.kin self (beq_iff_eq.mp h3)) (.inl rfl) ?_
 have rm:Room d (A.under (.builtin "type.__call__" ⟨.ref C::vs,ks⟩)):=by
  have hu:(Code.builtin "type.__call__" ⟨.ref C::vs,ks⟩).cUnits=1:=rfl
  have h1:=r.depth
  have h2:=r.units
  refine⟨r.hd,?_,?_,hd0⟩
  ·rw[depth_under_kw];(clear hu hne hl hsz hp2 hp1 hp h3 rk e ra ho r init hd0;lia)
  ·show A.units+(Code.builtin "type.__call__" ⟨.ref C::vs,ks⟩).cUnits+8*d≤9000
   rw[hu];(clear hu hne hl hsz hp2 hp1 hp h3 rk e ra ho r init hd0;lia)
 refine codeAny_mono (init hh.objs.size _ _ (Ψ.put hh.objs.size emptyDict) _ (.ref (hh.objs.size+1)::vs) ks rm hp2 (fun a ov q=>?_) (repL_cons (rep_sat ⟨_,rfl,PH.put_self _ _ _⟩) (RepL.mono hl _ _ ra)) e (RepL.mono hl _ _ rk)) fun r s' q=>?_
 ·rw[List.lookup_cons] at q
  split at q
  ·rename_i z;cases q;rw[beq_iff_eq.mp z];exact⟨_,PH.put_self _ _ _,repD_empty⟩
  ·simp at q
 ·cases r with
  | error e=>exact q
  | ok f=>
   cases f with
   | ret v=>
    obtain⟨Φ',Ψ',av,ω',l,hp',how,keep,rp,⟨rfl,hP⟩,new⟩:=q
    replace rp:_=_:=rp
    refine⟨rp,Φ',Ψ',_,ω',hl.trans l,hp',how,fun a o _ e=>keep a o (by simpa using hne a o e) (by rw[PH.put_other _ _ (hne a o e)];exact e),?_,fun X k=>k hh.objs.size _ hP,fun a ov e=>?_⟩
    ·exact rep_sat ⟨_,rfl,l _ _ (PH.put_self _ _ _)⟩
    ·rcases new a ov e with h | h
     ·rw[List.lookup_cons] at h
      split at h
      ·rename_i z;rw[beq_iff_eq.mp z];exact .inr hp.freshΨ
      ·simp at h
     ·by_cases z:a=hh.objs.size
      ·rw[z];exact .inr hp.freshΨ
      ·rw[PH.put_other _ _ z] at h;exact .inr h
   | _=>exact q
end
section
variable {g:Glob} {d:Nat} {sc:Scope} {σ:Sig} {env:Env} {A:Around} {Φ Ψ Φ₀ B:PH} {s:Shared} {rest:List Stmt} {Q:Flow→Shared→Prop}
inductive KPost (g:Glob) (sc:Scope) (env:Env) (K:AV→Sig→Prop) (B Φ:PH) (v:Value) (s:Shared):Prop
 | mk (Φ':PH) (av:AV) (σ':Sig) (k:K av σ') (l:PH.le Φ Φ') (y:At g sc env σ' B Φ' s) (r:Rep Φ' av v)
noncomputable def EvK (g:Glob) (d:Nat) (sc:Scope) (σ:Sig) (e:PySem.Expr) (K:AV→Sig→Prop):Prop:=
 ∀ A env B Φ s,Room d A→At g sc env σ B Φ s→W g.w A (eval e env) (KPost g sc env K B Φ) s
theorem EvK.of {e:PySem.Expr} {av:AV} {σ':Sig} (h:EvX g d sc σ e av σ'):EvK g d sc σ e (fun a t=>a=av∧t=σ'):=fun A env B Φ s r y=>(h A env B Φ s r y).mono fun v s' q0=>q0.casesOn fun Φ' l y' rp=>⟨Φ',av,σ',⟨rfl,rfl⟩,l,y',rp⟩
noncomputable def NewL (σ:Sig) (avs:List AV) (av:AV) (σ':Sig):Prop:=∀ X:AV→Sig→Prop,(∀ a,σ.own.lookup a=none→X (.ref a) (σ.ow ((a,.lst avs)::σ.own) (a::σ.mt)))→X av σ'
theorem NewL.elim {σ:Sig} {avs:List AV} {X:AV→Sig→Prop} (k:∀ a,σ.own.lookup a=none→X (.ref a) (σ.ow ((a,.lst avs)::σ.own) (a::σ.mt))) (av:AV) (σ':Sig) (h:NewL σ avs av σ'):X av σ':=h X k
theorem EvK.listR {es:List PySem.Expr} {p:Pos} {avs:List AV} {Q:Value→Shared→Prop} (h:EvL g d sc σ es avs) (hs:small avs.length) (r:Room d A) (y:At g sc env σ B Φ s) (k:∀ Φ' a s',PH.le Φ Φ'→σ.own.lookup a=none→At g sc env (σ.ow ((a,.lst avs)::σ.own) (a::σ.mt)) B Φ' s'→Q (.ref a) s'):W g.w A (eval (.List es p) env) Q s:=by
 refine box fun bX bk=>?_
 obtain⟨Ψ,pr,hb⟩:=y.pre
 refine bk ?_
 clear bk bX
 refine wpAny_List (h.run r pr fun Φ' vs s' l' pr' rp=>⟨by rw[repL_length rp];exact small_line hs,?_⟩)
 have y':At g sc env σ B Φ' s':=y.frame l' pr' hb fun a fa e=>pr.owned fa e
 refine box fun bX bk=>?_
 obtain⟨hn,y2⟩:=y'.alloc (o:={cls:=.type "list",data:=.seq vs.toArray}) (ov:=.lst avs) rfl ⟨vs.toArray,⟨0,rfl⟩,rp⟩
 refine bk ?_
 clear bk bX
 exact k Φ' _ _ l' hn y2
theorem EvK.list {es:List PySem.Expr} {p:Pos} {avs:List AV} (h:EvL g d sc σ es avs) (hs:small avs.length):EvK g d sc σ (.List es p) (NewL σ avs):=fun A env B Φ s r y=>
 EvK.listR h hs r y fun Φ' _ _ l' hn y'=>⟨Φ',_,_,fun X k=>k _ hn,l',y',rep_ref⟩
theorem Bk.assignK {x:Str} {p pos:Pos} {e:PySem.Expr} {K:AV→Sig→Prop} (r:Room d A) (h:EvK g d sc σ e K) (k:∀ av σ',K av σ'→stB sc σ' x=true∧Bk g sc env A Φ₀ B (σ'.put x av) rest Q)
  (hs:autoParam (swapsWith e (some (.Name x p)) pos.line env=pure false) aR):Bk g sc env A Φ₀ B σ (.Assign [.Name x p] e pos::rest) Q:=.step fun Φ s l y=>
 wpAny_Assign_Name ((h A env B Φ s r y).mono fun v s' q0=>q0.casesOn fun Φ' av σ' hK l' y' rp=>y'.store (k av σ' hK).1 rp fun s'' y''=>(k av σ' hK).2 Φ' s'' (l.trans l') y'') hs
noncomputable def fsPut (fs:List (Str × AV)) (x:Str) (av:AV):List (Str × AV):=(x,av)::fs.filter fun p=>!(p.1==x)
theorem RepF.filter {fs:List (Str × AV)} {get get':Str→Option Value} {p:Str × AV→Bool} (h:RepF Φ fs get) (hg:∀ q∈fs,p q=true→get' q.1=get q.1):RepF Φ (fs.filter p) get':=by
 induction fs with
 | nil=>exact trivial
 | cons q r ih=>
  have ih':=ih h.2 fun z hz=>hg z (List.mem_cons_of_mem _ hz)
  rw[List.filter_cons]
  split
  ·rename_i hp
   refine box fun bX bk=>?_
   obtain⟨⟨v,h1,h2⟩,_⟩:=h
   refine bk ?_
   clear bk bX
   exact⟨⟨v,by rw[hg q List.mem_cons_self hp];exact h1,h2⟩,ih'⟩
  ·exact ih'
theorem repO_put {fs:List (Str × AV)} {h:Heap} {dd:Addr} {x:Str} {av:AV} {v:Value} {get:Str→Option Value} (hf:RepF Φ fs get) (h0:∀ y,y∉fs.map (·.1)→get y=none) (hn:h.Ns1 dd (fun y=>if y=x then some v else get y)) (rp:Rep Φ av v) :
  ∃ o,h.get? dd=some o∧RepO Φ (.dict (fsPut fs x av)) o:=by
 refine box fun bX bk=>?_
 obtain⟨o,es,ep,e1,e2,e3,e4,e5⟩:=hn
 refine bk ?_
 clear bk bX
 refine⟨o,e1,es,ep,e2,e3,e4,?_,fun y hy=>?_⟩
 ·unfold fsPut
  refine⟨⟨v,by rw[e5];simp,rp⟩,hf.filter fun q hq hp=>?_⟩
  have:q.1≠x:=by simpa using hp
  rw[e5];simp[this]
 ·rw[e5]
  have h1:y≠x:=fun q=>hy (by unfold fsPut;simp[q])
  simp only[h1,if_false]
  refine h0 y fun hm=>hy ?_
  refine box fun bX bk=>?_
  obtain⟨q,hq,rfl⟩:=List.mem_map.mp hm
  refine bk ?_
  clear bk bX
  unfold fsPut
  simp only[List.map_cons,List.mem_cons]
  exact .inr (List.mem_map.mpr ⟨q,List.mem_filter.mpr ⟨hq,by simpa using h1⟩,rfl⟩)
theorem osa_own {K:Frag} {C x dx:Addr} {ox od:Obj} {name:Str} {v:Value} {tk:Tok} {m:Str→Option Value} {ns:List Str} {R:Result→Shared→Prop} (X:K.In s.heap) (I:W.InstAt s.heap x ox C (some od)) (hd:ox.dict=some dx) (hp:plainOver K C=true) (ht:takerIn K C name=some none) (hh:hasDictIn K C=true)
  (hn:s.heap.Ns1 dx m) (hw:Within m ns) (hz:ns.length≤1000)
  (h:∀ h',h'.Ns1 dx (fun y=>if y=name then some v else m y)→Heap.SameBut dx s.heap h'→R (.ok (.ret .none)) {s with heap:=h',toks:=s.toks+1}) :
  codeAny (model PR g.w) A (.call (.builtin "object.__setattr__") ⟨[.ref x,.str name tk,v],[]⟩) R s:=by
 refine osa_open X I hp ht fun b=>?_
 refine box fun bX bk=>?_
 obtain⟨cd,hc,hd'⟩:=any_some hh
 obtain⟨hx,hcl,hno,-⟩:=I
 obtain⟨oc,odi,oda,osl⟩:=ox
 refine bk ?_
 clear bk bX
 dsimp only at hcl hd
 subst hcl hd
 refine wpAny_bind (wpAny_pure (wpAny_bind (wpAny_bind (wpAny_loadPart hx (wpAny_bind ((looks_clsIn X hc).here ?_))))))
 rw[hd']
 refine wpAny_pure (a:=some dx) (wpAny_bind (wpAny_pure (wpAny_bind (wpAny_nsSet1 hn fun h' hn' hs=>?_))))
 refine box fun bX bk=>?_
 obtain⟨o,es,ep,e1,e2,e3⟩:=hn'.count (hw.cons name v)
 refine bk ?_
 clear bk bX
 refine wpAny_bind (wpAny_lookBehind e1 (by rw[e2];exact pastItsLine_dict (by rw[sizeLine_eq];simp only[List.length_cons] at e3;lia)) ?_)
 exact wpAny_pure (h h' hn' hs)
noncomputable def setOk (w:World) (C:Addr) (name:Str):Bool:=(findIn (KB w) (.ref C) "__setattr__"==some (some (.builtin "object.__setattr__")))&&plainOver (KB w) C&&(takerIn (KB w) C name==some none)&&hasDictIn (KB w) C
theorem At.setInst {C dd:Addr} {fs:List (Str × AV)} {name:Str} {av:AV} {u v:Value} {own':Ow} {Q:Unit→Shared→Prop} (y:At g sc env σ B Φ s) (ru:Rep Φ (instAV C dd) u) (ho:σ.own.lookup dd=some (.dict fs)) (hm:dd∈σ.mt) (hok:setOk g.w C name=true) (hz:fs.length≤1000) (rv:Rep Φ av v)
  (hown:∀ b o,own'.lookup b=some o→(b=dd∧o=.dict (fsPut fs name av))∨(b≠dd∧σ.own.lookup b=some o)) (hs:∀ b∈σ.mt,(own'.lookup b).isSome=true)
  (k:∀ s',At g sc env (σ.ow own' σ.mt) B Φ s'→Q () s'):W g.w A (setAttr u name v) Q s:=by
 unfold setOk at hok
 simp only[Bool.and_eq_true] at hok
 refine box fun bX bk=>?_
 obtain⟨⟨⟨h1,h2⟩,h3⟩,h4⟩:=hok
 refine bk ?_
 clear bk bX
 obtain⟨x,rfl,hx⟩:=inst_inv ru
 refine box fun bX bk=>?_
 obtain⟨Ψ,pr,hb⟩:=y.pre
 obtain⟨od,e0,es,n,h5,h6,h8,hf,h7⟩:=pr.own dd _ ho
 refine bk ?_
 clear bk bX
 have I:W.InstAt s.heap x (instObj C dd) C (some od):=⟨pr.hp.getΦ hx,rfl,rfl,pr.hp.getΨ e0⟩
 refine set_plain pr.hp.kin I (beq_iff_eq.mp h1) ?_
 refine osa_own (g:=g) (ns:=fs.map (·.1)) (s:={s with toks:=s.toks+1}) pr.hp.kin I rfl h2 (beq_iff_eq.mp h3) h4 ⟨od,es,n,pr.hp.getΨ e0,h5,h6,h8,fun _=>rfl⟩ (fun z hz=>?_) (by simpa using hz) fun h' hn' hs'=>?_
 ·by_cases q:z∈fs.map (·.1)
  ·exact q
  ·exact absurd (h7 z q) hz
 ·refine box fun bX bk=>?_
  obtain⟨o',e1,e2⟩:=repO_put hf h7 hn' rv
  refine bk ?_
  clear bk bX
  have hp':Hp g Φ (Ψ.put dd o') {s with heap:=h',toks:=s.toks+1+1}:=(pr.hp.same e0 hs' e1).tok _
  refine k _ (y.change (mt:=[dd]) pr hb (PH.le.refl _) hp' (fun a o ha e=>by rw[PH.put_other _ _ (by simpa using ha)];exact e) (fun a ha=>by simp at ha;rw[ha];exact hm) (fun a ov e=>?_) (fun a ov e=>.inl ?_) fun a ha=>⟨.inl ha,hs a ha⟩)
  ·rcases sw (hown a ov e) with ⟨rfl,rfl⟩ | ⟨q1,q2⟩
   ·exact⟨o',PH.put_self _ _ _,e2⟩
   ·refine box fun bX bk=>?_
    obtain⟨ob,z1,z2⟩:=pr.own a ov q2
    refine bk ?_
    clear bk bX
    exact⟨ob,by rw[PH.put_other _ _ q1];exact z1,z2⟩
  ·rcases sw (hown a ov e) with ⟨rfl,rfl⟩ | ⟨q1,q2⟩
   ·rw[ho];rfl
   ·rw[q2];rfl
theorem lk_cons {dd b:Addr} {n o:OV} {l:Ow} (h:List.lookup b ((dd,n)::l)=some o):(b=dd∧o=n)∨(b≠dd∧l.lookup b=some o):=by
 rw[List.lookup_cons] at h
 split at h
 ·rename_i q;cases h;exact .inl ⟨beq_iff_eq.mp q,rfl⟩
 ·rename_i q;exact .inr ⟨fun z=>by subst z;simp at q,h⟩
theorem lk_ne {a b:Addr} {o:OV} {l:Ow} (h:b≠a):List.lookup b ((a,o)::l)=l.lookup b:=by
 rw[List.lookup_cons]
 have:(b==a)=false:=beq_eq_false_iff_ne.mpr h
 rw[this]
theorem lkc {dd b:Addr} {n o:OV} {l:Ow} (h:List.lookup b ((dd,n)::l)=some o):(dd=b∧n=o)∨(b≠dd∧l.lookup b=some o):=sw (lk_cons h)
theorem lk_eq {a:Addr} {o:OV} {l:Ow}:List.lookup a ((a,o)::l)=some o:=by rw[List.lookup_cons,beq_self_eq_true]
theorem lk_s {a b:Addr} {o:OV} {l:Ow} {r:Option OV} (h:b≠a) (e:l.lookup b=r):List.lookup b ((a,o)::l)=r:=(lk_ne h).trans e
theorem lk_n1 {a b:Addr} {x:OV} {l:Ow} (h:List.lookup b ((a,x)::l)=none):b≠a:=fun q=>by rw[q,lk_eq] at h;cases h
theorem lk_n2 {a b:Addr} {x:OV} {l:Ow} (h:List.lookup b ((a,x)::l)=none):l.lookup b=none:=(lk_ne (lk_n1 h)).symm.trans h
noncomputable def OwnIn (src:Ow) (mt:List Addr):Ow→Prop
 | []=>True
 | (a,x)::r=>(src.lookup a=some x∧a∈mt)∧OwnIn src mt r
theorem OwnIn.all {src:Ow} {mt:List Addr}:∀ {l:Ow},OwnIn src mt l→∀ b ov,l.lookup b=some ov→src.lookup b=some ov∧b∈mt
 | [],_,b,ov,q=>by cases q
 | (a,x)::r,h,b,ov,q=>by
  rcases lkc q with ⟨rfl,rfl⟩ | ⟨_,q⟩
  ·exact h.1
  ·exact h.2.all b ov q
theorem OwnIn.fin {src ω l:Ow} {mt:List Addr} (h:OwnIn src mt l):∀ b ov,l.lookup b=some ov→src.lookup b=some ov∧((ω.lookup b).isSome=true∨b∈mt):=fun b ov q=>⟨(h.all b ov q).1,.inr (h.all b ov q).2⟩
theorem OwnIn.mem {src:Ow} {mt:List Addr}:∀ {l:Ow},OwnIn src mt l→∀ b,b∈l.map (·.1)→b∈mt∧(l.lookup b).isSome=true
 | (a,x)::r,h,b,q=>by
  by_cases e:b=a
  ·rw[e,lk_eq];exact⟨h.1.2,rfl⟩
  ·rw[lk_ne e]
   exact h.2.mem b ((List.mem_cons.mp q).resolve_left e)
theorem Bk.setI {value o:PySem.Expr} {name:Str} {p pos:Pos} {K:AV→Sig→Prop} {C dd:Addr} {fs:List (Str × AV)} (r:Room d A) (h:EvK g d sc σ value K) (hok:setOk g.w C name=true) (hz:fs.length≤1000)
  (k:∀ av σ',K av σ'→σ'.own.lookup dd=some (.dict fs)∧dd∈σ'.mt∧Ev g d sc σ' o (instAV C dd)∧Bk g sc env A Φ₀ B (σ'.set dd (.dict (fsPut fs name av))) rest Q)
  (hs:autoParam (swapsWith value (some (.Attribute o name p)) pos.line env=pure false) aR):Bk g sc env A Φ₀ B σ (.Assign [.Attribute o name p] value pos::rest) Q:=.step fun Φ s l y=>
 plainObj_wpAny_Assign_Attribute ((h A env B Φ s r y).mono fun v s' q0=>q0.casesOn fun Φ' av σ' hK l' y' rp=>by
  obtain⟨h1,h2,h4,h7⟩:=k av σ' hK
  refine h4.at r y' fun Φ'' u s'' l'' y'' ru=>?_
  refine y''.setInst ru h1 h2 hok hz (Rep.mono l'' _ _ rp) (fun b o e=>lk_cons e) (fun b hb=>?_) fun s3 y3=>h7 Φ'' s3 ((l.trans l').trans l'') y3
  by_cases q:b=dd
  ·rw[q,lk_eq];rfl
  ·rw[lk_ne q];exact(y''.mine b hb).2) hs
theorem Bk.setE {value o:PySem.Expr} {name:Str} {p pos:Pos} {av:AV} {σ':Sig} {C dd:Addr} {fs:List (Str × AV)} (r:Room d A) (h:EvX g d sc σ value av σ') (hok:setOk g.w C name=true) (hz:fs.length≤1000)
  (h1:σ'.own.lookup dd=some (.dict fs)) (h2:dd∈σ'.mt) (h4:Ev g d sc σ' o (instAV C dd)) (k:Bk g sc env A Φ₀ B (σ'.set dd (.dict (fsPut fs name av))) rest Q)
  (hs:autoParam (swapsWith value (some (.Attribute o name p)) pos.line env=pure false) aR):Bk g sc env A Φ₀ B σ (.Assign [.Attribute o name p] value pos::rest) Q:=
 Bk.setI r (EvK.of h) hok hz (fun _ _ e=>by rw[e.1,e.2];exact⟨h1,h2,h4,k⟩) hs
theorem lookup_app:∀ (l m:Ow) (b:Addr),(l++m).lookup b=(l.lookup b).or (m.lookup b)
 | [],m,b=>by simp
 | (k,v)::r,m,b=>by
  rw[List.cons_append,List.lookup_cons,List.lookup_cons]
  split
  ·rfl
  ·exact lookup_app r m b
theorem mem_lookup:∀ {l:Ow} {b:Addr},b∈l.map (·.1)→(l.lookup b).isSome=true
 | (k,v)::r,b,h=>by
  rw[List.lookup_cons]
  split
  ·rfl
  ·rename_i q
   have hne:b≠k:=fun e=>by subst e;simp at q
   simp only[List.map_cons,List.mem_cons] at h
   exact mem_lookup (h.resolve_left hne)
noncomputable def MadeK (σ:Sig) (P:AV→Ow→Prop) (av:AV) (σ':Sig):Prop:=∀ X:Sig→Prop,(∀ ω',P av ω'→(∀ a,(ω'.lookup a).isSome=true→σ.own.lookup a=none)→X (σ.ow (ω'++σ.own) (ω'.map (·.1)++σ.mt)))→X σ'
theorem MadeK.elim {σ:Sig} {C:Addr} {P:Addr→Ow→Prop} {X:AV→Sig→Prop} (k:∀ dd ω',P dd ω'→(∀ a,(ω'.lookup a).isSome=true→σ.own.lookup a=none)→X (instAV C dd) (σ.ow (ω'++σ.own) (ω'.map (·.1)++σ.mt))) (av:AV) (σ':Sig) (h:MadeK σ (NewI C P) av σ'):X av σ':=
 h (X av) fun _ p=>p (fun av ω'=>(∀ a,(ω'.lookup a).isSome=true→σ.own.lookup a=none)→X av (σ.ow (ω'++σ.own) (ω'.map (·.1)++σ.mt))) k
theorem FnM.made {f:Value} {args:List AV} {kw:List (Str × AV)} {P:AV→Ow→Prop} {vs:List Value} {ks:List (Str × Value)} (h:FnM g d [] [] f args kw P) (r:Room d A) (y:At g sc env σ B Φ s) (ra:RepL Φ args vs) (e:ks.map (·.1)=kw.map (·.1)) (rk:RepL Φ (kw.map (·.2)) (ks.map (·.2))) :
  W g.w A (call f vs ks) (KPost g sc env (MadeK σ P) B Φ) s:=by
 obtain⟨Ψ,pr,hb⟩:=y.pre
 refine(h A Φ Ψ s vs ks r pr.hp Owns.nil ra e rk).mono fun v s' q0=>q0.casesOn fun Φ' Ψ' av ω' l hp' how keep rp hP new=>?_
 have hnew:∀ a,(ω'.lookup a).isSome=true→Ψ a=none:=fun a q=>by
  obtain⟨ov,q⟩:=Option.isSome_iff_exists.mp q
  exact(new a ov q).resolve_left (by simp)
 have hown:∀ a,(ω'.lookup a).isSome=true→σ.own.lookup a=none:=fun a q=>by
  cases z:σ.own.lookup a with
  | none=>rfl
  | some ov=>obtain⟨o,e1,_⟩:=pr.own a ov z;rw[hnew a q] at e1;cases e1
 refine⟨Φ',av,_,fun X k=>k ω' hP hown,l,y.change (mt:=[]) pr hb l hp' (fun a o _ e=>keep a o (by simp) e) (fun a h=>nomatch h) (fun a ov e=>?_) (fun a ov e=>?_) (fun a ha=>?_),rp⟩
 ·rw[lookup_app] at e
  cases q:ω'.lookup a with
  | some ov'=>rw[q] at e;cases e;exact how a ov q
  | none=>
   rw[q] at e
   obtain⟨o,e1,e2⟩:=pr.own a ov e
   exact⟨o,keep a o (by simp) e1,e2.mono l⟩
 ·rw[lookup_app] at e
  cases q:ω'.lookup a with
  | some ov'=>exact .inr (hnew a (by rw[q];rfl))
  | none=>rw[q] at e;rw[show σ.own.lookup a=some ov from e];exact .inl rfl
 ·rcases List.mem_append.mp ha with h | h
  ·have:=mem_lookup h
   refine⟨.inr (hnew a this),?_⟩
   rw[lookup_app]
   obtain⟨ov,q⟩:=Option.isSome_iff_exists.mp this
   rw[q];rfl
  ·refine⟨.inl h,?_⟩
   rw[lookup_app]
   cases q:ω'.lookup a with
   | some ov=>rfl
   | none=>exact(y.mine a h).2
theorem callWith_K {f:Value} {pos:Pos} {first:List Value} {favs:List AV} {es:List PySem.Expr} {avs:List AV} {K:AV→Sig→Prop} (r:Room d A) (x:At g sc env σ B Φ s) (hf:RepL Φ favs first) (hk:Keep g f)
  (h:EvL g d sc σ es avs) (hfn:∀ A env B Φ s vs,Room d A→At g sc env σ B Φ s→RepL Φ (favs++avs) vs→W g.w A (call f vs []) (KPost g sc env K B Φ) s) (hst:((backTo pos (starEach es env)).any (·.1))=false) :
  W g.w A (callWith pos f first (backTo pos (starEach es env)) []) (KPost g sc env K B Φ) s:=by
 refine callWith_of (P:=fun h=>∃ k,(k=Keeper.frame∨k=Keeper.machine∨k=Keeper.boundFrame)∧Looks (model PR g.w) h (keeperOf f) k) ?_ (fun h q=>q) ?_
 ·rw[hst];rfl
 ·refine evalArgs_At r x h hst fun Φ' vs s' l x' rp=>⟨?_,?_⟩
  ·obtain⟨Ψ,pr,_⟩:=x'.pre
   exact hk Φ' Ψ s' pr.hp
  ·exact W.mono (hfn A env B Φ' s' (first++vs) r x' (repL_append (RepL.mono l _ _ hf) rp)) fun _ _ q0=>q0.casesOn fun Φ'' av σ' hK l'' q q'=>⟨Φ'',av,σ',hK,l.trans l'',q,q'⟩
theorem EvK.made {id:Str} {p pos:Pos} {f:Value} {es:List PySem.Expr} {avs:List AV} {P:AV→Ow→Prop} (h1:Ev g d sc σ (.Name id p) (.raw f)) (hk:Keep g f) (h:EvL g d sc σ es avs) (hfn:FnM g d [] [] f avs [] P)
  (hst:autoParam (∀ env,((backTo pos (starEach es env)).any (·.1))=false) aR):EvK g d sc σ (.Call (.Name id p) es [] pos) (MadeK σ P):=fun A env B Φ s r y=>by
 rw[arm_eval_Call_Name']
 refine wpAny_bind (h1.at r y fun Φ₁ v s₁ l₁ y₁ r₁=>?_)
 replace r₁:_=_:=r₁
 subst r₁
 exact W.mono (callWith_K r y₁ repL_nil hk h (fun A env B Φ s vs r y ra=>hfn.made r y ra rfl repL_nil) (hst env)) fun _ _ q0=>q0.casesOn fun Φ'' av σ' hK l'' q q'=>⟨Φ'',av,σ',hK,l₁.trans l'',q,q'⟩
theorem CallsTo.ownS {f:Value} {args:List AV} {av:AV} {a:Addr} {ov ov':OV} (h:FnM g d [a] [(a,ov)] f args [] (fun r ω'=>r=av∧ω'=[(a,ov')])) (ha:σ.own.lookup a=some ov) (hm:a∈σ.mt):CallsTo g d sc σ f args av (σ.set a ov'):=fun A env B Φ s vs r y ra=>
 CallsTo.own h ha hm (fun b o e=>lk_cons e) (fun b hb=>by
  by_cases q:b=a
  ·rw[q,lk_eq];rfl
  ·rw[lk_ne q];exact(y.mine b hb).2) A env B Φ s vs r y ra
theorem At.freezeI {dd:Addr} {fs:List (Str × AV)} {own':Ow} {mt':List Addr} (y:At g sc env σ B Φ s) (ha:σ.own.lookup dd=some (.dict fs)) (hm:dd∈σ.mt)
  (ho:∀ b ov,own'.lookup b=some ov→b≠dd∧σ.own.lookup b=some ov) (hm':∀ b∈mt',b∈σ.mt∧(own'.lookup b).isSome=true):∃ Φ',PH.le Φ Φ'∧(∀ C v,Rep Φ (instAV C dd) v→Rep Φ' (.obj C fs) v)∧At g sc env (σ.ow own' mt') B Φ' s:=by
 refine box fun bX bk=>?_
 obtain⟨Ψ,pr,hb⟩:=y.pre
 obtain⟨o,e,es,n,h5,h6,h8,hf,h7⟩:=pr.own dd _ ha
 refine bk ?_
 clear bk bX
 have hΦ:Φ dd=none:=(pr.hp.dis dd).resolve_right (by rw[e];exact fun e=>nomatch e)
 have l:PH.le Φ (Φ.put dd o):=PH.le_put o hΦ
 refine⟨Φ.put dd o,l,fun C v rv=>?_,y.change (mt:=[dd]) pr hb l (pr.hp.freeze e) (fun b ob hb' e'=>?_) (fun b hb'=>by simp -iota at hb';exact hb'▸hm) (fun b ov q=>?_) (fun b ov q=>.inl (by rw[(ho b ov q).2];rfl)) fun b q=>⟨.inl (hm' b q).1,(hm' b q).2⟩⟩
 ·refine box fun bX bk=>?_
  obtain⟨x,rfl,hx⟩:=inst_inv rv
  refine bk ?_
  clear bk bX
  exact⟨x,_,dd,o,es,n,rfl,l _ _ hx,rfl,rfl,rfl,PH.put_self _ _ _,h5,h6,h8,RepF.mono l _ _ hf,h7⟩
 ·rw[PH.drop_other Ψ (fun q=>hb' (List.mem_singleton.mpr q))];exact e'
 ·refine box fun bX bk=>?_
  obtain⟨h1,h2⟩:=ho b ov q
  obtain⟨ob,e1,e2⟩:=pr.own b ov h2
  refine bk ?_
  clear bk bX
  exact⟨ob,by rw[PH.drop_other Ψ h1];exact e1,e2.mono l⟩
theorem OwnIn.ne {src:Ow} {mt:List Addr} {l:Ow} {a:Addr} (h:OwnIn src mt l) (h0:l.lookup a=none):∀ b ov,l.lookup b=some ov→b≠a∧src.lookup b=some ov:=fun b ov q=>⟨fun e=>(by rw[e,h0] at q;cases q),(h.all b ov q).1⟩
theorem At.freezeS {a:Addr} {xs:List AV} (own':Ow) (mt':List Addr) {X:Prop} (y:At g sc env σ B Φ s) (ha:σ.own.lookup a=some (.lst xs)) (hm:a∈σ.mt) (h:OwnIn σ.own σ.mt own') (h0:own'.lookup a=none) (e:own'.map (·.1)=mt')
  (k:∀ Φ',PH.le Φ Φ'→Rep Φ' (.lst xs) (.ref a)→At g sc env (σ.ow own' mt') B Φ' s→X):X:=by
 subst e
 obtain⟨Φ',h1,h2,h3⟩:=y.freeze ha hm (h.ne h0) (mt':=own'.map (·.1)) fun b hb=>h.mem b hb
 exact k Φ' h1 h2 h3
theorem At.freezeIS {dd:Addr} {fs:List (Str × AV)} (own':Ow) (mt':List Addr) {X:Prop} (y:At g sc env σ B Φ s) (ha:σ.own.lookup dd=some (.dict fs)) (hm:dd∈σ.mt) (h:OwnIn σ.own σ.mt own') (h0:own'.lookup dd=none) (e:own'.map (·.1)=mt')
  (k:∀ Φ',PH.le Φ Φ'→(∀ C v,Rep Φ (instAV C dd) v→Rep Φ' (.obj C fs) v)→At g sc env (σ.ow own' mt') B Φ' s→X):X:=by
 subst e
 obtain⟨Φ',h1,h2,h3⟩:=y.freezeI ha hm (h.ne h0) (mt':=own'.map (·.1)) fun b hb=>h.mem b hb
 exact k Φ' h1 h2 h3
theorem Bk.freezeS {x:Str} {a:Addr} {xs:List AV} (own':Ow) (mt':List Addr) {rest:List Stmt} {Q:Flow→Shared→Prop} {Φ₀:PH} (hx:σ.vars.lookup x=some (.ref a)) (ha:σ.own.lookup a=some (.lst xs)) (hm:a∈σ.mt) (h:OwnIn σ.own σ.mt own') (h0:own'.lookup a=none) (e:own'.map (·.1)=mt')
  (k:Bk g sc env A Φ₀ B ⟨(x,.lst xs)::σ.vars,own',σ.frz,mt'⟩ rest Q):Bk g sc env A Φ₀ B σ rest Q:=Bk.freeze hx ha hm (h.ne h0) (e▸h.mem) k
theorem rep_obj_map {C:Addr} {fs fs':List (Str × AV)} {v:Value} (h:Rep Φ (.obj C fs) v) (hk:fs.map (·.1)=fs'.map (·.1)) (hc:∀ get,RepF Φ fs get→RepF Φ fs' get):Rep Φ (.obj C fs') v:=by
 refine box fun bX bk=>?_
 obtain⟨a,o,dd,od,es,n,h0,ho,h1,h2,h3,h4,h5,h6,h8,hf,h7⟩:=h
 refine bk ?_
 clear bk bX
 exact⟨a,o,dd,od,es,n,h0,ho,h1,h2,h3,h4,h5,h6,h8,hc _ hf,by rw[←hk];exact h7⟩
theorem Hp.adopt (x:Hp g Φ Ψ s) {a:Addr} {o:Obj} (e:s.heap.get? a=some o) (h1:Φ a=none) (h2:Ψ a=none) (h3:a∉tabs):Hp g (Φ.put a o) Ψ s:=by
 refine⟨fun b ob eb=>PH.le_put o h1 _ _ (x.k b ob eb),x.b.mono (PH.le_put o h1),fun b ob eb=>?_,x.mu,fun b=>?_,fun P hP=>?_,x.gens,x.os⟩
 ·by_cases hb:b=a
  ·subst hb;rw[PH.put_self] at eb;cases eb;exact e
  ·rw[PH.put_other Φ o hb] at eb;exact x.fr b ob eb
 ·by_cases hb:b=a
  ·subst hb;exact .inr h2
  ·rw[PH.put_other Φ o hb];exact x.dis b
 ·have hb:P≠a:=fun q=>h3 (q▸hP)
  obtain⟨z1,z2,z3⟩:=x.tab P hP
  exact⟨by rw[PH.put_other Φ o hb];exact z1,z2,z3.mono (PH.le_put o h1) rfl⟩
noncomputable def closL (cells:List (Str × Addr)):List (Str × NameKind)→List (Str × Addr)→List (Str × Addr)
 | [],acc=>acc
 | (n,k)::r,acc=>if k==.free then(match cells.lookup n with
  | some c=>closL cells r ((n,c)::acc)
  | none=>closL cells r acc) else closL cells r acc
theorem closL_f {cells:List (Str × Addr)} {n:Str} {r:List (Str × NameKind)} {acc:List (Str × Addr)} {c:Addr} (h:cells.lookup n=some c):closL cells ((n,.free)::r) acc=closL cells r ((n,c)::acc):=by
 show(match cells.lookup n with | some c=>closL cells r ((n,c)::acc) | none=>closL cells r acc)=_
 rw[h]
theorem closL_n {cells:List (Str × Addr)} {n:Str} {k:NameKind} {r:List (Str × NameKind)} {acc:List (Str × Addr)} (h:(k==.free)=false):closL cells ((n,k)::r) acc=closL cells r acc:=if_neg (by rw[h];exact Bool.false_ne_true)
theorem closureFor_is {sc':Scope} (h:∀ x,(x,NameKind.free)∈sc'.names→∃ c,env.cells.lookup x=some c):closureFor sc' env=pure (closL env.cells sc'.names []):=by
 have go:∀ (names:List (Str × NameKind)) (acc:List (Str × Addr)),(∀ x,(x,NameKind.free)∈names→∃ c,env.cells.lookup x=some c) →
   (forIn names acc fun(x:Str × NameKind) (r:List (Str × Addr))=>if x.2==.free then(do let c ←cellOf env x.1;pure (ForInStep.yield ((x.1,c)::r))) else(pure (ForInStep.yield r):Sem (ForInStep (List (Str × Addr)))))=pure (closL env.cells names acc):=by
  intro names
  induction names with
  | nil=>intro acc _;rfl
  | cons p r ih=>
   intro acc h
   obtain⟨n,k⟩:=p
   rw[List.forIn_cons]
   by_cases hk:k=.free
   ·subst hk
    obtain⟨c,hc⟩:=h n List.mem_cons_self
    have:cellOf env n=pure c:=by unfold cellOf;rw[hc]
    simp only[beq_self_eq_true,if_true,this,pure_bind]
    rw[ih _ fun x hx=>h x (List.mem_cons_of_mem _ hx)]
    rw[closL_f hc]
   ·have hb:(k==NameKind.free)=false:=by simpa using hk
    simp only[hb,Bool.false_eq_true,if_false,pure_bind]
    rw[ih _ fun x hx=>h x (List.mem_cons_of_mem _ hx)]
    rw[closL_n hb]
 have e:=go sc'.names [] h
 have e2:((forIn sc'.names [] fun(x:Str × NameKind) (r:List (Str × Addr))=>if x.2==.free then(do let c ←cellOf env x.1;pure (ForInStep.yield ((x.1,c)::r))) else(pure (ForInStep.yield r):Sem (ForInStep (List (Str × Addr)))))>>=fun cs=>pure cs)=pure (closL env.cells sc'.names []):=by rw[e];rfl
 exact e2
theorem closL_lookup (cells:List (Str × Addr)):∀ (names:List (Str × NameKind)) (acc:List (Str × Addr)),(names.map (·.1)).Nodup→(∀ x,(x,NameKind.free)∈names→∃ c,cells.lookup x=some c)→∀ x,(closL cells names acc).lookup x=if (x,NameKind.free)∈names then cells.lookup x else acc.lookup x
 | [],acc,_,_,x=>by simp[show closL cells [] acc=acc from rfl]
 | (n,k)::r,acc,hu,h,x=>by
  have hn:=(List.nodup_cons.mp hu).1
  have hur:=(List.nodup_cons.mp hu).2
  have hr:∀ y,(y,NameKind.free)∈r→∃ c,cells.lookup y=some c:=fun y hy=>h y (List.mem_cons_of_mem _ hy)
  by_cases hk:k=.free
  ·subst hk
   refine box fun bX bk=>?_
   obtain⟨c,hc⟩:=h n List.mem_cons_self
   refine bk ?_
   clear bk bX
   rw[closL_f hc,closL_lookup cells r _ hur hr x]
   by_cases hx:x=n
   ·subst hx
    have:(x,NameKind.free)∉r:=fun q=>hn (List.mem_map.mpr ⟨_,q,rfl⟩)
    simp[this,hc]
   ·have hb:(x==n)=false:=beq_eq_false_iff_ne.mpr hx
    by_cases hm:(x,NameKind.free)∈r
    ·simp[hm]
    ·simp[hm,List.lookup_cons,hb,hx]
  ·have hb:(k==NameKind.free)=false:=by simpa using hk
   rw[closL_n hb,closL_lookup cells r _ hur hr x]
   have:((x,NameKind.free)∈(n,k)::r)↔(x,NameKind.free)∈r:=by
    rw[List.mem_cons]
    exact⟨fun q=>q.resolve_left fun z=>hk (by cases z;rfl),.inr⟩
   simp only[this]
theorem Bk.setAt {o i value:PySem.Expr} {p pos:Pos} {a:Addr} {xs:List AV} {k:Int} {av:AV} (r:Room d A) (hv:Ev g d sc σ value av) (ho:Ev g d sc σ o (.ref a)) (hi:Ev g d sc σ i (.int k)) (ha:σ.own.lookup a=some (.lst xs)) (hm:a∈σ.mt) (h0:0≤k) (hk:k.toNat<xs.length) (hsm:small xs.length)
  (kk:Bk g sc env A Φ₀ B (σ.set a (.lst (xs.set k.toNat av))) rest Q) (hs:autoParam (swapsWith value (some (.Subscript o i p)) pos.line env=pure false) aR):Bk g sc env A Φ₀ B σ (.Assign [.Subscript o i p] value pos::rest) Q:=.step fun Φ s l y=>
 wpAny_Assign_Subscript (hv.at r y fun Φ₁ v s₁ l₁ y₁ r₁=>ho.at r y₁ fun Φ₂ ov s₂ l₂ y₂ r₂=>hi.at r y₂ fun Φ₃ iv s₃ l₃ y₃ r₃=>by
  replace r₂:_=_:=r₂
  subst r₂
  refine int_elim r₃ fun t=>?_
  refine box fun bX bk=>?_
  obtain⟨Ψ,pr,hb⟩:=y₃.pre
  obtain⟨oo,e,vs,⟨n,rfl⟩,hr⟩:=pr.own a _ ha
  refine bk ?_
  clear bk bX
  have hsz:=size_of hr
  have hlt:=small_lt hsm
  refine ki_setAt (pr.hp.getΨ e) h0 (by(clear hsz e hr hb pr r₃ y₃ l₃ y₂ l₂ r₁ y₁ l₁ y l hs kk hsm h0 hm ha hi ho hv r;lia)) (by(clear hlt e hr hb pr r₃ y₃ l₃ y₂ l₂ r₁ y₁ l₁ y l hs kk hsm h0 hm ha hi ho hv r;lia)) ?_
  obtain⟨m',hp'⟩:=upd_lst (f:=fun x=>x.setIfInBounds k.toNat v) pr.hp e rfl
  have rs:∀ (xs:List AV) (vs:List Value) (j:Nat),RepL Φ₃ xs vs→RepL Φ₃ (xs.set j av) (vs.set j v):=by
   intro xs
   induction xs with
   | nil=>intro vs j h;have:=repL_nil_inv h;subst this;simpa using repL_nil
   | cons x xs ih=>
    intro vs j h
    refine repL_cons_elim h fun u ws q1 q2=>?_
    cases j with
    | zero=>exact repL_cons (Rep.mono (l₂.trans l₃) _ _ r₁) q2
    | succ j=>exact repL_cons q1 (ih ws j q2)
  refine kk Φ₃ _ (((l.trans l₁).trans l₂).trans l₃) (y₃.change (mt:=[a]) pr hb (PH.le.refl _) hp' (fun b ob hb' e'=>by rw[PH.put_other _ _ (by simpa using hb')];exact e') (fun b hb'=>by simp at hb';exact hb'▸hm) (fun b ov q=>?_) (fun b ov q=>.inl ?_) fun b hb'=>⟨.inl hb',?_⟩)
  ·rcases lkc q with ⟨rfl,rfl⟩ | ⟨q1,q2⟩
   ·refine⟨_,PH.put_self _ _ _,_,⟨m',rfl⟩,?_⟩
    rw[Array.toList_setIfInBounds];exact rs xs _ _ hr
   ·refine box fun bX bk=>?_
    obtain⟨ob,z1,z2⟩:=pr.own b ov q2
    refine bk ?_
    clear bk bX
    exact⟨ob,by rw[PH.put_other _ _ q1];exact z1,z2⟩
  ·rcases lkc q with ⟨rfl,rfl⟩ | ⟨q1,q2⟩
   ·rw[ha];rfl
   ·rw[q2];rfl
  ·by_cases q:b=a
   ·rw[q,lk_eq];rfl
   ·rw[lk_ne q];exact(y₃.mine b hb').2) hs
theorem Hp.builtinsAt (hp:Hp g Φ Ψ s) {P:Addr} (hP:P∈tabs):∃ mg,s.heap.Ns mainGlobals mg∧s.heap.BuiltinsAt mg P:=
 (globK_at hp (x:="__builtins__") (v:=some (.ref 4)) (by kernel_rfl)).imp fun mg h=>⟨h.1,4,Mine.Internal.hd.zo_43 g.w.params,h.2,by decide,by decide,(by rintro rfl;revert hP;decide),hp.getΦ (hp.k _ _ (by kernel_rfl)),rfl,rfl,rfl⟩
theorem main_ne_tab {P:Addr} (hP:P∈tabs):mainGlobals≠P:=by
 intro q;subst q;revert hP;decide
noncomputable def nestFd (name qual:Str) (params:Arguments) (body:List Stmt) (scope:Scope) (clos:List (Str × Addr)) (doc pm c ctv:Value):FuncData:=fnX name qual params body scope clos .none .none doc pm Option.none c ctv
noncomputable def nestAV (name qual:Str) (params:Arguments) (body:List Stmt) (scope:Scope) (clos:List (Str × Addr)):AV:=.sat fun Φ v=>∃ f doc pm c ctv,v=.ref f∧Φ f=some {cls:=.type "function",data:=.func (nestFd name qual params body scope clos doc pm c ctv)}∧IsCodeAt Φ c qual
theorem nest_inv {name qual:Str} {params:Arguments} {body:List Stmt} {scope:Scope} {clos:List (Str × Addr)} {v:Value} (h:Rep Φ (nestAV name qual params body scope clos) v) :
  ∃ f doc pm c ctv,v=.ref f∧Φ f=some {cls:=.type "function",data:=.func (nestFd name qual params body scope clos doc pm c ctv)}∧IsCodeAt Φ c qual:=by
 unfold nestAV at h
 refine box fun bX bk=>?_
 obtain⟨Φ₁,l,f,doc,pm,c,ctv,e,h1,h2⟩:=h
 refine bk ?_
 clear bk bX
 exact⟨f,doc,pm,c,ctv,e,l _ _ h1,h2.mono l⟩
theorem make_nest {name qual:Str} {params:Arguments} {body:List Stmt} {scope:Scope} {pos:Pos} {firstLine:Nat} {c P:Addr} {clos:List (Str × Addr)} {Q:Value→Shared→Prop} (hp:Hp g Φ Ψ s) (hP:P∈tabs) (hcl:closureFor scope env=pure clos) (hge:env.globals=mainGlobals) (hcode:env.code=.ref c) (hC:codeHdIn (KB g.w) c P=true)
  (hrow:tabRow P=((pos.line:Int),(pos.col:Int),qual)) (k:∀ v Φ' s',PH.le Φ Φ'→Hp g Φ' Ψ s'→Rep Φ' (nestAV name qual params body scope clos) v→Q v s'):W g.w A (makeFunction name qual params (.stmts body) scope env [] [] [] pos firstLine) Q s:=by
 refine box fun bX bk=>?_
 obtain⟨mg,hg,hb⟩:=hp.builtinsAt hP
 obtain⟨p1,p2,vs,e,hv⟩:=hp.tab P hP
 refine bk ?_
 clear bk bX
 have C:CodeHd s.heap c P:=codeHd_of_K hp.kin hC
 have tabsLt:∀ a∈tabs,a<s.heap.objs.size:=fun a ha=>by obtain⟨_,_,vs,e,_⟩:=hp.tab a ha;exact Heap.lt_size e
 rw[hrow] at hv
 rcases hv with rfl | ⟨cv,rfl,hcv⟩
 ·refine makeFunction_K hcl hge hg hcode C e trivial rfl (main_ne_tab hP) hb fun c' ctv doc h' tk hx hge' hlt hrec htb=>?_
  refine box fun bX bk=>?_
  obtain⟨c2,oc,us,t,q1,q2,q3,q4⟩:=hrec
  refine bk ?_
  clear bk bX
  cases q1
  have fr:∀ a,s.heap.objs.size≤a→s.heap.get? a=none:=fun a ha=>Heap.get?_none_of_le ha
  have hΦ:Φ c'=none:=by
   cases q:Φ c' with
   | none=>rfl
   | some o=>have:=hp.fr _ _ q;rw[fr c' hge'] at this;cases this
  have hΨ:Ψ c'=none:=by
   cases q:Ψ c' with
   | none=>rfl
   | some o=>have:=hp.mu _ _ q;rw[fr c' hge'] at this;cases this
  have ht:c'∉tabs:=fun q=>absurd (tabsLt c' q) (Nat.not_lt.mpr hge')
  have l1:PH.le Φ (Φ.put c' oc):=PH.le_put oc hΦ
  have hp1:Hp g (Φ.put c' oc) Ψ {s with heap:=h',toks:=tk}:=by
   refine⟨fun b ob eb=>l1 _ _ (hp.k b ob eb),hp.b.mono l1,fun b ob eb=>?_,fun b ob eb=>hx b ob (fun q=>by rw[q,p2] at eb;cases eb) (hp.mu b ob eb),fun b=>?_,fun P' hP'=>?_,hp.gens,hp.os⟩
   ·by_cases q:b=c'
    ·subst q;rw[PH.put_self] at eb;cases eb;exact q2
    ·rw[PH.put_other Φ oc q] at eb
     exact hx b ob (fun q=>by rw[q,p1] at eb;cases eb) (hp.fr b ob eb)
   ·by_cases q:b=c'
    ·subst q;exact .inr hΨ
    ·rw[PH.put_other Φ oc q];exact hp.dis b
   ·refine box fun bX bk=>?_
    obtain⟨z1,z2,vs',z3,z4⟩:=hp.tab P' hP'
    refine bk ?_
    clear bk bX
    have hne:P'≠c':=fun q=>ht (q▸hP')
    refine⟨by rw[PH.put_other Φ oc hne];exact z1,z2,?_⟩
    by_cases q:P'=P
    ·subst q
     refine⟨[rawInt pos.line,rawInt pos.col,.ref c'],by rw[htb];rfl,.inr ⟨.ref c',by rw[hrow],?_⟩⟩
     rw[hrow]
     exact⟨c',oc,us,t,rfl,PH.put_self _ _ _,q3,q4⟩
    ·refine⟨vs',hx _ _ q z3,z4.imp id fun q0=>q0.elim fun c q0=>q0.elim fun e1 e2=>⟨c,e1,e2.mono l1⟩⟩
  have hp2:=hp1.allocΦ (o:=fnMade name qual params body scope clos doc ((mg "__name__").getD .none) c' ctv) rfl
  have l2:=PH.le_put (fnMade name qual params body scope clos doc ((mg "__name__").getD .none) c' ctv) hp1.freshΦ
  refine k _ _ _ (l1.trans l2) hp2 (rep_sat ⟨_,doc,_,.ref c',ctv,rfl,PH.put_self _ _ _,?_⟩)
  exact⟨c',oc,us,t,rfl,l2 _ _ (PH.put_self _ _ _),q3,q4⟩
 ·refine makeFunction_hit hcl hge hg hcode C e trivial (cv:=cv) (by simp[codeAmong,rawInt]) hb fun ctv doc h' tk hk hsz=>?_
  have hp1:Hp g Φ Ψ {s with heap:=h',toks:=tk}:=hp.ext hk
  have hp2:=hp1.allocΦ (o:={cls:=.type "function",data:=.func (fnX name qual params body scope clos .none .none doc ((mg "__name__").getD .none) Option.none cv ctv)}) rfl
  have l2:=PH.le_put {cls:=.type "function",data:=.func (fnX name qual params body scope clos .none .none doc ((mg "__name__").getD .none) Option.none cv ctv)} hp1.freshΦ
  exact k _ _ _ l2 hp2 (rep_sat ⟨_,doc,_,cv,ctv,rfl,PH.put_self _ _ _,hcv.mono l2⟩)
theorem Bk.nestDef {name:Str} {params:Arguments} {body:List Stmt} {scope:Scope} {pos:Pos} {c P:Addr} {qual0:Str} {func:Option Addr} (he:∃ L cells,env=newEnv sc L mainGlobals cells qual0 func (.ref c) Option.none builtinsNs)
  (hP:P∈tabs) (hC:codeHdIn (KB g.w) c P=true) (hrow:tabRow P=((pos.line:Int),(pos.col:Int),qual0++name)) (hfree:∀ x,(x,NameKind.free)∈scope.names→kindIn sc x=some .cell∨kindIn sc x=some .free)
  (hkx:(kindIn sc name==some .globalExplicit)=false) (hd0:params.defaults=[]) (hk0:params.kw_defaults=[]) (ha:∀ env,annTrees params Option.none env=[]) (hx:stB sc σ name=true)
  (k:Bk g sc env A Φ₀ B (σ.put name (nestAV name (qual0++name) params body scope (closL env.cells scope.names []))) rest Q):Bk g sc env A Φ₀ B σ (.FunctionDef name params body [] Option.none [] scope Option.none name pos::rest) Q:=.step fun Φ s l y=>by
 obtain⟨Ψ,pr,hb⟩:=y.pre
 have hcells:∀ x,(x,NameKind.free)∈scope.names→∃ c,env.cells.lookup x=some c:=fun x hx=>by
  obtain⟨fr,hf,_⟩:=pr.fr
  obtain⟨c,o,e,_⟩:=hf.cel x (hfree x hx)
  exact⟨c,e⟩
 have hq:qualnameIn env name name=qual0++name:=by
  unfold qualnameIn
  rw[pr.ev.kind,hkx]
  obtain⟨L,cells,rfl⟩:=he
  rfl
 have hcode:env.code=.ref c:=by obtain⟨L,cells,rfl⟩:=he;rfl
 refine nestDef_K hd0 hk0 (ha env) ?_
 rw[hq]
 refine make_nest pr.hp hP (closureFor_is hcells) pr.ev.gl hcode hC hrow fun v Φ' s' l' hp' rp=>?_
 have y':At g sc env σ B Φ' s':=y.frame l' (pr.next l' hp') hb fun a fa e=>pr.owned fa e
 exact y'.store hx rp fun s'' y''=>k Φ' s'' (l.trans l') y''
theorem At.freezeCell {x:Str} {av:AV} (y:At g sc env σ B Φ s) (hk:kindIn sc x=some .cell) (hz:x∉σ.frz) (hx:σ.vars.lookup x=some av):∃ Φ' c o v,PH.le Φ Φ'∧env.cells.lookup x=some c∧Φ' c=some o∧o.data=.cell (some v)∧Rep Φ' av v∧At g sc env ⟨σ.vars,σ.own,x::σ.frz,σ.mt⟩ B Φ' s:=by
 refine box fun bX bk=>?_
 obtain⟨Ψ,pr,hb⟩:=y.pre
 obtain⟨fr,hf,hv⟩:=pr.fr
 obtain⟨hvk,v,e1,e2⟩:=hv x av hx
 obtain⟨c,o,h1,h2,h3⟩:=hf.cel x (.inl hk)
 refine bk ?_
 clear bk bX
 have hΦ:Φ c=none:=y.cel x c hk hz h1
 have hΨ:Ψ c=some o:=h2.resolve_left (by rw[hΦ];exact fun e=>nomatch e)
 have l:PH.le Φ (Φ.put c o):=PH.le_put o hΦ
 have hfc:IsFr sc env σ.frz c:=.inr ⟨x,hk,hz,h1⟩
 have hne:∀ a,IsFr sc env (x::σ.frz) a→a≠c:=fun a fa q=>by
  subst q
  rcases fa with z | ⟨w,z1,z2,z3⟩
  ·refine box fun bX bk=>?_
   obtain⟨ol,es,ep,w1,w2,_⟩:=hf.loc
   refine bk ?_
   clear bk bX
   rw[←z,hΨ] at w1;cases w1;rw[h3] at w2;cases w2
  ·have:=y.inj w x a z1 (fun q=>z2 (List.mem_cons_of_mem _ q)) z3 h1
   exact z2 (by rw[this];exact List.mem_cons_self)
 have frs:∀ a,IsFr sc env (x::σ.frz) a→IsFr sc env σ.frz a:=fun a fa=>fa.imp id fun q0=>q0.elim fun w q0=>q0.elim fun z1 q0=>q0.elim fun z2 z3=>⟨w,z1,fun q=>z2 (List.mem_cons_of_mem _ q),z3⟩
 have ownn:∀ a ov,σ.own.lookup a=some ov→a≠c:=fun a ov e q=>by rw[q,(y.out c hfc).2] at e;cases e
 refine⟨Φ.put c o,c,o,v,l,h1,PH.put_self _ _ _,by rw[h3,e1],Rep.mono l _ _ e2,⟨⟨Ψ.drop c,⟨pr.ev,pr.hp.freeze hΨ,⟨fr,⟨?_,fun w hw=>?_⟩,hv.mono l⟩,fun a ov e=>?_⟩,fun a ob e=>?_⟩,fun a fa=>y.out a (frs a fa),y.mine,fun w c' z1 z2 z3=>?_,fun w z c' z1 z2=>y.inj w z c' z1 (fun q=>z2 (List.mem_cons_of_mem _ q))⟩⟩
 ·refine box fun bX bk=>?_
  obtain⟨ol,es,ep,w1,w2,w3,w4⟩:=hf.loc
  refine bk ?_
  clear bk bX
  have:env.locals≠c:=hne _ (.inl rfl)
  exact⟨ol,es,ep,by rw[PH.drop_other Ψ this];exact w1,w2,w3,w4⟩
 ·refine box fun bX bk=>?_
  obtain⟨c',o',z1,z2,z3⟩:=hf.cel w hw
  refine bk ?_
  clear bk bX
  refine⟨c',o',z1,?_,z3⟩
  by_cases q:c'=c
  ·subst q
   rw[hΨ] at z2
   have:o=o':=by
    rcases z2 with z2 | z2
    ·rw[hΦ] at z2;cases z2
    ·cases z2;rfl
   exact .inl (by rw[PH.put_self,this])
  ·exact z2.imp (l _ _) fun e=>by rw[PH.drop_other Ψ q];exact e
 ·refine box fun bX bk=>?_
  obtain⟨ob,z1,z2⟩:=pr.own a ov e
  refine bk ?_
  clear bk bX
  exact⟨ob,by rw[PH.drop_other Ψ (ownn a ov e)];exact z1,z2.mono l⟩
 ·have:a≠c:=fun q=>by rw[q,(y.out c hfc).1] at e;cases e
  rw[PH.drop_other Ψ this];exact hb _ _ e
 ·have:c'≠c:=hne _ (.inr ⟨w,z1,z2,z3⟩)
  rw[PH.put_other _ _ this]
  exact y.cel w c' z1 (fun q=>z2 (List.mem_cons_of_mem _ q)) z3
theorem nest_rec {name qual:Str} {params:Arguments} {body:List Stmt} {scope:Scope} {clos:List (Str × Addr)} {doc pm c ctv:Value} (hp:Hp g Φ Ψ s) (h:IsCodeAt Φ c qual):s.heap.CodeRec (nestFd name qual params body scope clos doc pm c ctv).code (nestFd name qual params body scope clos doc pm c ctv).qualname:=by
 refine box fun bX bk=>?_
 obtain⟨c',o,vs,t,e,h1,h2,h3⟩:=h
 refine bk ?_
 clear bk bX
 exact⟨c',o,vs,t,e,hp.getΦ h1,h2,h3⟩
end
theorem and_high (x s:Nat):x &&& (x/2^s*2^s)=x/2^s*2^s:=by
 apply Nat.eq_of_testBit_eq
 intro i
 rw[Nat.testBit_and,Nat.testBit_mul_two_pow,Nat.testBit_div_two_pow]
 by_cases h:s≤i
 ·have:i-s+s=i:=by omega
  simp[h,this]
 ·simp[h]
theorem fdiv_cast (x s:Nat):((x:Int).fdiv (2^s))=((x/2^s:Nat):Int):=by
 have:(2:Int)^s=((2^s:Nat):Int):=by push_cast;rfl
 rw[this,←Int.ofNat_fdiv]
theorem xor_low (x s:Nat):Builtin.bitXor (x:Int) (((x/2^s:Nat):Int)*2^s)=((x%2^s:Nat):Int):=by
 have e:((x/2^s:Nat):Int)*2^s=((x/2^s*2^s:Nat):Int):=by push_cast;rfl
 rw[e,bitXor_and,bitAnd_pp (by(clear e;lia)) (by(clear e;lia))]
 rw[Int.toNat_natCast,Int.toNat_natCast,and_high]
 have h:=Nat.div_add_mod x (2^s)
 have h2:x/2^s*2^s=2^s*(x/2^s):=Nat.mul_comm _ _
 (clear e;lia)
section
variable {g:Glob} {d:Nat} {ω:Ow}
theorem bits_le {x m:Nat} (h:x<2^m):Builtin.Int.intBits (x:Int)≤m:=intBits_le_iff.mpr h
theorem Fn.bitLength {i:Int}:Fn g d ω (.builtin "int.bit_length") [.int i] [] (.int (Builtin.Int.intBits i)):=.one fun A Φ Ψ s v r hp how ra=>by
 refine int_elim ra fun t=>?_
 exact call_int_bit_length (Ret.intro (hp.tok _) rep_int)
theorem Ev.bitLength {sc:Scope} {σ:Sig} {o:PySem.Expr} {apos pos:Pos} {i:Int} (h1:Ev g d sc σ o (.int i))
  (hbase:autoParam (∀ env,attributeBase o ("bit_length":Str) env (eval o env)=eval o env) aR) (hline:autoParam ((apos.endLine==pos.line)=true) aR):Ev g d sc σ (.Call (.Attribute o {cps:={toList:=[98,105,116,95,108,101,110,103,116,104]}} apos) [] [] pos) (.int (Builtin.Int.intBits i)):=
 Ev.meth (favs:=[.int i]) (f:=.builtin "int.bit_length") h1 (fun A Φ Ψ s v pl r hp ra=>by
  refine int_elim ra fun t=>?_
  exact getMethod_int_bit_length ⟨rfl,Φ,PH.le.refl _,hp,repL_cons rep_int repL_nil⟩) (Keep.bi _) EvL.nil Fn.bitLength hbase hline
theorem Fn.divmod {i j:Int} (hj:j≠0) (hl:j.natAbs.log2<9000):Fn g d ω (.builtin "divmod") [.int i,.int j] [] (.tup [.int (i.fdiv j),.int (i.fmod j)]):=.two fun A Φ Ψ s v u r hp how ra rb=>by
 refine int_elim ra fun t=>?_
 refine int_elim rb fun t'=>?_
 have h:=ret_tup (Φ:=Φ) (hp.tok (s.toks+1+1)) (avs:=[.int (i.fdiv j),.int (i.fmod j)]) (vs:=[.int (i.fdiv j) s.toks,.int (i.fmod j) (s.toks+1)]) (repL_cons rep_int (repL_cons rep_int repL_nil))
 exact divmod_int hj h (.inl (PyProof.noPylong_of_log2 hl))
end
section
variable {g:Glob} {d:Nat} {sc:Scope} {σ:Sig} {env:Env} {A:Around} {Φ₀ B:PH} {rest rest' rest'':List Stmt}
theorem Bk.retQ1 {e:PySem.Expr} {pos:Pos} {av:AV} {ω:Ow} {P:AV→Ow→Prop} {B' Φ₁:PH} (r:Room d A) (h:Ev g d sc σ e av) (hP:P av []) (lb:PH.le B B':=by first | exact PH.le.refl _ | assumption) (lΦ:PH.le Φ₀ Φ₁:=by first | exact PH.le.refl _ | assumption) :
  Bk g sc env A Φ₁ B' σ (.Return (some e) pos::rest) (cont g env A rest' (FQ g sc env Φ₀ B ω P)):=
 Bk.ret r h fun Φ v s l y rp=>FQ.ret y (lΦ.trans l) lb rp hP noO
end
section
variable {g:Glob} {d:Nat} {sc:Scope} {σ:Sig} {env:Env} {A:Around} {Φ Ψ Φ₀ B:PH} {s:Shared} {rest:List Stmt} {Q:Flow→Shared→Prop}
structure CalV (g:Glob) (d:Nat) (sc:Scope) (σ:Sig) (fav:AV) (args:List AV) (av:AV) (σ':Sig):Prop where
 keep:∀ Φ (s:Shared) v,Sub Φ s.heap→Rep Φ fav v→∃ k,(k=Keeper.frame∨k=Keeper.machine∨k=Keeper.boundFrame)∧Looks (model PR g.w) s.heap (keeperOf v) k
 run:∀ A env B Φ s v vs,Room d A→At g sc env σ B Φ s→Rep Φ fav v→RepL Φ args vs→W g.w A (call v vs []) (XPost g sc env σ' B Φ av) s
theorem EvX.callV {id:Str} {p pos:Pos} {fav:AV} {es:List PySem.Expr} {avs:List AV} {c:AV} {σ':Sig} (h1:Ev g d sc σ (.Name id p) fav) (h:EvL g d sc σ es avs) (hfn:CalV g d sc σ fav avs c σ')
  (hst:autoParam (∀ env,((backTo pos (starEach es env)).any (·.1))=false) aR):EvX g d sc σ (.Call (.Name id p) es [] pos) c σ':=fun A env B Φ s r y=>by
 rw[arm_eval_Call_Name']
 refine wpAny_bind (h1.at r y fun Φ₁ v s₁ l₁ y₁ r₁=>?_)
 refine callWith_of (P:=fun h=>∃ k,(k=Keeper.frame∨k=Keeper.machine∨k=Keeper.boundFrame)∧Looks (model PR g.w) h (keeperOf v) k) ?_ (fun h q=>q) ?_
 ·rw[hst env];rfl
 ·refine evalArgs_At r y₁ h (hst env) fun Φ' vs s' l x' rp=>⟨?_,?_⟩
  ·exact hfn.keep Φ' s' v x'.sub (Rep.mono l _ _ r₁)
  ·exact W.mono (hfn.run A env B Φ' s' v vs r x' (Rep.mono l _ _ r₁) rp) fun _ _ q0=>q0.casesOn fun Φ'' l'' q q'=>⟨Φ'',(l₁.trans l).trans l'',q,q'⟩
theorem At.mpost {a:Addr} {ov ov':OV} {av:AV} {m:Sem Value} (y:At g sc env σ B Φ s) (ha:σ.own.lookup a=some ov) (hm:a∈σ.mt) (hW:∀ Ψ,Hp g Φ Ψ s→Owns Φ Ψ [(a,ov)]→W g.w A m (MPost g Φ Ψ [a] [(a,ov)] (fun r ω'=>r=av∧ω'=[(a,ov')])) s) :
  W g.w A m (XPost g sc env (σ.set a ov') B Φ av) s:=by
 obtain⟨Ψ,pr,hb⟩:=y.pre
 refine(hW Ψ pr.hp (fun b o e=>by
  rcases lkc e with ⟨rfl,rfl⟩ | ⟨q1,q2⟩
  ·exact pr.own _ _ ha
  ·simp -iota at q2)).mono fun v s' q0=>q0.casesOn fun Φ' Ψ' av' ω' l hp' how keep rp hP new=>?_
 obtain⟨rfl,rfl⟩:=hP
 refine⟨Φ',l,y.change pr hb l hp' keep (fun b hb'=>by simp -iota at hb';rw[hb'];exact hm) (fun b o q=>?_) (fun b o q=>.inl ?_) fun b hb'=>⟨.inl hb',?_⟩,rp⟩
 ·rcases lkc q with ⟨rfl,rfl⟩ | ⟨q1,q2⟩
  ·exact how _ _ lk_eq
  ·obtain⟨ob,z1,z2⟩:=pr.own b o q2
   exact⟨ob,keep b ob (fun q=>q1 (List.mem_singleton.mp q)) z1,z2.mono l⟩
 ·rcases lkc q with ⟨rfl,rfl⟩ | ⟨q1,q2⟩
  ·rw[ha];rfl
  ·rw[q2];rfl
 ·by_cases q:b=a
  ·rw[q,lk_eq];rfl
  ·rw[lk_ne q];exact(y.mine b hb').2
end
section
variable {g:Glob}
noncomputable def intRow:List Nat→List AV:=List.map fun(i:Nat)=>AV.int (i:Int)
noncomputable def digsF (n:Nat):Nat→Nat→Nat→List Nat
 | 0,_,x=>[x]
 | t+1,k,x=>if k≤1 then [x] else digsF n t (k/2) (x%2^(k/2*n))++digsF n t (k-k/2) (x/2^(k/2*n))
theorem digsF_eq (n:Nat):∀ t u k x:Nat,k≤t→k≤u→digsF n t k x=digsF n u k x
 | 0,0,_,_,_,_=>rfl
 | 0,_+1,_,_,h,_=>(if_pos (Nat.le_trans h (Nat.zero_le 1))).symm
 | _+1,0,_,_,_,h=>if_pos (Nat.le_trans h (Nat.zero_le 1))
 | t+1,u+1,k,x,h1,h2=>by
  show ite _ _ _=ite _ _ _
  by_cases h:k≤1
  ·rw[if_pos h,if_pos h]
  ·rw[if_neg h,if_neg h,digsF_eq n t u _ _ (by(clear h h2;omega)) (by(clear h h1;omega)),digsF_eq n t u _ _ (by(clear h2;omega)) (by(clear h1;omega))]
noncomputable def digs (n k x:Nat):List Nat:=digsF n k k x
theorem digs_one (n k x:Nat) (h:k≤1):digs n k x=[x]:=by
 match k,h with
 | 0,_=>rfl
 | 1,_=>rfl
theorem digs_more (n k x:Nat) (h:¬ k≤1):digs n k x=digs n (k/2) (x%2^(k/2*n))++digs n (k-k/2) (x/2^(k/2*n)):=by
 match k,h with
 | 0,h=>exact absurd (Nat.zero_le 1) h
 | t+1,h=>
  show(if t+1≤1 then _ else _)=_
  rw[if_neg h]
  unfold digs
  rw[digsF_eq n t _ _ _ (by omega) (Nat.le_refl _),digsF_eq n t _ _ _ (by omega) (Nat.le_refl _)]
theorem digs_length (n:Nat):∀ (k x:Nat),1≤k→(digs n k x).length=k:=by
 intro k
 induction k using Nat.strongRecOn with
 | _ k ih=>
  intro x hk
  by_cases h:k≤1
  ·rw[digs_one n k x h];simp;lia
  ·rw[digs_more n k x h,List.length_append,ih (k/2) (by lia) _ (by lia),ih (k-k/2) (by lia) _ (by lia)]
   lia
noncomputable def spl (xs:List AV) (L:Nat) (ys:List AV):List AV:=xs.take L++ys++xs.drop (L+ys.length)
theorem spl_one (xs:List AV) (L:Nat) (y:AV) (h:L<xs.length):xs.set L y=spl xs L [y]:=by
 unfold spl
 rw[List.set_eq_take_append_cons_drop,if_pos h]
 simp
theorem spl_len (xs:List AV) (L:Nat) (ys:List AV) (h:L+ys.length≤xs.length):(spl xs L ys).length=xs.length:=by
 unfold spl;simp;lia
theorem spl_spl (xs:List AV) (L:Nat) (ys zs:List AV) (h:L+ys.length+zs.length≤xs.length):spl (spl xs L ys) (L+ys.length) zs=spl xs L (ys++zs):=by
 unfold spl
 have h1:(xs.take L).length=L:=by simp;lia
 have e1:(xs.take L++ys++xs.drop (L+ys.length)).take (L+ys.length)=xs.take L++ys:=by
  rw[List.take_append_of_le_length (by rw[List.length_append,h1];lia)]
  exact List.take_of_length_le (by rw[List.length_append,h1];lia)
 have e2:(xs.take L++ys++xs.drop (L+ys.length)).drop (L+ys.length+zs.length)=xs.drop (L+(ys++zs).length):=by
  rw[List.drop_append]
  have h2:(xs.take L++ys).length=L+ys.length:=by rw[List.length_append,h1]
  rw[h2,List.drop_eq_nil_of_le (by rw[h2];lia),List.nil_append,List.drop_drop]
  congr 1
  rw[List.length_append];lia
 rw[e1,e2]
 simp
end
noncomputable def nodupB:List Str→Bool
 | []=>true
 | x::r=>!(r.contains x)&&nodupB r
theorem nodupB_ok:∀ {l:List Str},nodupB l=true→l.Nodup
 | [],_=>List.nodup_nil
 | x::r,h=>by
  obtain⟨h1,h2⟩:=Bool.and_eq_true_iff.mp h
  exact List.nodup_cons.mpr ⟨by simpa using h1,nodupB_ok h2⟩
section
variable {g:Glob} {d:Nat} {sc:Scope} {σ:Sig} {env:Env} {A:Around} {Φ Ψ Φ₀ B:PH} {s:Shared} {rest:List Stmt} {Q:Flow→Shared→Prop}
theorem EvK.mulL {l r:PySem.Expr} {p:Pos} {xs:List AV} {i:Int} (h1:Ev g d sc σ l (.lst xs)) (h2:Ev g d sc σ r (.int i)) (hi:i<1000000) (hi0:-1000000<i) (hne:xs.isEmpty=false) (h:small (xs.length*i.toNat)) :
  EvK g d sc σ (.BinOp l .Mult r p) (NewL σ (List.replicate i.toNat xs).flatten):=fun A env B Φ s rm y=>by
 refine wpAny_BinOp (h1.at rm y fun Φ₁ v s₁ l₁ y₁ r₁=>h2.at rm y₁ fun Φ₂ u s₂ l₂ y₂ r₂=>?_)
 refine box fun bX bk=>?_
 obtain⟨a,o,vs,rfl,ho,⟨n,rfl⟩,hx⟩:=lst_inv (Rep.mono l₂ _ _ r₁)
 refine bk ?_
 clear bk bX
 refine int_elim r₂ fun t=>?_
 refine box fun bX bk=>?_
 obtain⟨Ψ,pr,hb⟩:=y₂.pre
 refine bk ?_
 clear bk bX
 have g1:=pr.hp.getΦ ho
 have hsz:=size_of hx
 have hemp:vs.isEmpty=false:=by
  cases xs with
  | nil=>cases hne
  | cons x xs=>simp only[List.length_cons] at hsz;simp[Array.isEmpty,hsz]
 have hm:vs.size*i.toNat≤1000000:=by rw[hsz];exact h
 refine wpAny_binaryOp_repeat_ref (T:="list") (U:="int") (by decide) ⟨_,g1,rfl⟩ (fun s'=>typeIs_int s' i t) noFill_list_mul F.fills_int_mul F.slot_int_rmul repeat_list F.slot_int_index.lookup
  (call_meets F.slot_int_rmul (typeIs_int s₂ i t) F.entry_int_rmul (F.args_int_rmul_2 _ _) (int___rmul___int_list i t a vs n)
   ⟨g1,rfl,⟨_,g1,rfl⟩,call_meets F.slot_list_mul ⟨_,g1,rfl⟩ F.entry_list_mul (F.args_list_mul_2 _ _)
    (AutoListH.list___mul___list_int_3 a vs n i t (by simp[Builtin.List.listFitsIndex];(clear hm hemp hsz g1 hb pr ho hx r₁ r₂ y₂ l₂ y₁ l₁ y rm h hne h2 h1;lia)) (by(clear hemp hsz g1 hb pr ho hx r₁ r₂ y₂ l₂ y₁ l₁ y rm h hne hi0 hi h2 h1;lia)) (by simp[Builtin.List.listTooLong,sizeLine];(clear hemp hsz g1 hb pr ho hx r₁ r₂ y₂ l₂ y₁ l₁ y rm h hne hi0 hi h2 h1;lia)))
    ⟨g1,?_⟩⟩)
 rw[if_neg (by rw[hemp];exact Bool.false_ne_true),listMul_foldl]
 have z:=repL_rep hx i.toNat
 obtain⟨hn,y3⟩:=y₂.alloc (o:={cls:=.type "list",data:=.seq (List.replicate i.toNat vs.toList).flatten.toArray}) (ov:=.lst (List.replicate i.toNat xs).flatten) rfl ⟨_,⟨0,rfl⟩,by simpa using z⟩
 refine⟨Φ₂,_,_,fun X k=>k _ hn,l₁.trans l₂,?_,rep_ref⟩
 first
  | exact y3
  | (simpa using y3)
theorem At.learnC {x:Str} {c:Addr} {o:Obj} {v:Value} {av':AV} (y:At g sc env σ B Φ s) (hk:kindIn sc x=some .cell) (hc:env.cells.lookup x=some c) (ho:Φ c=some o) (hd:o.data=.cell (some v)) (r:Rep Φ av' v):At g sc env ⟨(x,av')::σ.vars,σ.own,σ.frz,σ.mt⟩ B Φ s:=by
 refine box fun bX bk=>?_
 obtain⟨Ψ,pr,hb⟩:=y.pre
 obtain⟨fr,hf,hv⟩:=pr.fr
 obtain⟨c',o',h1,h2,h3⟩:=hf.cel x (.inl hk)
 refine bk ?_
 clear bk bX
 rw[hc] at h1;cases h1
 have:o'=o:=by
  rcases h2 with h2 | h2
  ·rw[ho] at h2;cases h2;rfl
  ·rcases pr.hp.dis c with h | h
   ·rw[ho] at h;cases h
   ·rw[h] at h2;cases h2
 subst this
 rw[hd] at h3
 have hfx:fr x=some v:=by injection h3 with q;exact q.symm
 refine⟨⟨Ψ,⟨pr.ev,pr.hp,⟨fr,hf,fun z a e=>?_⟩,pr.own⟩,hb⟩,y.out,y.mine,y.cel,y.inj⟩
 dsimp only at e
 rw[List.lookup_cons] at e
 split at e
 ·rename_i q;cases e;rw[beq_iff_eq.mp q];exact⟨by unfold varKind;rw[hk],v,hfx,r⟩
 ·exact hv z a e
theorem Fn.lenO {ω:Ow} {a:Addr} {xs:List AV} (ha:ω.lookup a=some (.lst xs)) (h:small xs.length):Fn g d ω (.builtin "len") [.ref a] [] (.int xs.length):=.one fun A Φ Ψ s v r hp how ra=>by
 replace ra:_=_:=ra
 subst ra
 refine box fun bX bk=>?_
 obtain⟨o,e,vs,⟨n,rfl⟩,hr⟩:=how a _ ha
 refine bk ?_
 clear bk bX
 have hs:=size_of hr
 refine call_len_list (items:=vs) ⟨_,hp.getΨ e,rfl,n,rfl⟩ (by rw[hs];exact small_lt h) ?_
 rw[hs]
 exact Ret.intro (hp.tok _) rep_int
structure PalV (g:Glob) (d:Nat) (fav:AV) (args:List AV) (av:AV):Prop where
 keep:∀ Φ (s:Shared) v,Sub Φ s.heap→Rep Φ fav v→∃ k,(k=Keeper.frame∨k=Keeper.machine∨k=Keeper.boundFrame)∧Looks (model PR g.w) s.heap (keeperOf v) k
 run:∀ A Φ Ψ s v vs,Room d A→Hp g Φ Ψ s→Rep Φ fav v→RepL Φ args vs→W g.w A (call v vs []) (Ret g Φ Ψ av) s
theorem Ev.callV {id:Str} {p pos:Pos} {fav:AV} {es:List PySem.Expr} {avs:List AV} {c:AV} (h1:Ev g d sc σ (.Name id p) fav) (h:EvL g d sc σ es avs) (hfn:PalV g d fav avs c)
  (hst:autoParam (∀ env,((backTo pos (starEach es env)).any (·.1))=false) aR):Ev g d sc σ (.Call (.Name id p) es [] pos) c:=fun A env Φ Ψ s r x=>by
 rw[arm_eval_Call_Name']
 refine wpAny_bind (h1.run r x fun Φ₁ v s₁ l₁ x₁ r₁=>?_)
 refine callWith_of (P:=fun h=>∃ k,(k=Keeper.frame∨k=Keeper.machine∨k=Keeper.boundFrame)∧Looks (model PR g.w) h (keeperOf v) k) ?_ (fun h q=>q) ?_
 ·rw[hst env];rfl
 ·refine evalArgs_W r x₁ h hst fun Φ' vs s' l x' rp=>⟨hfn.keep Φ' s' v x'.hp.fr (Rep.mono l _ _ r₁),?_⟩
  exact W.mono (hfn.run A Φ' Ψ s' v vs r x'.hp (Rep.mono l _ _ r₁) rp) fun _ _ q=>Ret.up (l₁.trans l) q
theorem MPost.ret {Φ Ψ:PH} {av:AV} {v:Value} {s':Shared} (h:MPost g Φ Ψ [] [] (fun r _=>r=av) v s'):Ret g Φ Ψ av v s':=by
 obtain⟨Φ',Ψ',av',ω',l,hp',_,keep,rp,rfl,_⟩:=h
 exact⟨Φ',l,hp'.weaken (fun a o q=>keep a o List.not_mem_nil q),rp⟩
end
section
noncomputable def valR (n:Nat):List Nat→Nat
 | []=>0
 | x::xs=>x+2^n*valR n xs
theorem valR_c {n x:Nat} {xs:List Nat}:valR n (x::xs)=x+2^n*valR n xs:=rfl
theorem valR_append (n:Nat):∀ (xs ys:List Nat),valR n (xs++ys)=valR n xs+2^(xs.length*n)*valR n ys
 | [],ys=>by show valR n ys=0+2^(0*n)*valR n ys;simp
 | x::xs,ys=>by
  rw[List.cons_append,valR_c,valR_c,valR_append n xs ys,List.length_cons,Nat.mul_add,←Nat.mul_assoc,←Nat.pow_add]
  have:n+xs.length*n=(xs.length+1)*n:=by rw[Nat.add_mul,Nat.one_mul,Nat.add_comm]
  rw[this];lia
theorem valR_lt (n:Nat):∀ (xs:List Nat),(∀ x∈xs,x<2^10000)→valR n xs<2^(10000+(n+1)*xs.length)
 | [],_=>by exact Nat.two_pow_pos _
 | x::xs,h=>by
  have ih:=valR_lt n xs fun y hy=>h y (List.mem_cons_of_mem _ hy)
  have hx:=h x List.mem_cons_self
  rw[valR_c,List.length_cons]
  have e:10000+(n+1)*(xs.length+1)=(n+(10000+(n+1)*xs.length))+1:=by rw[Nat.mul_add];(clear hx ih h;lia)
  have h1:2^n*valR n xs<2^n*2^(10000+(n+1)*xs.length):=Nat.mul_lt_mul_of_pos_left ih (Nat.two_pow_pos _)
  rw[←Nat.pow_add] at h1
  have h2:2^10000≤2^(n+(10000+(n+1)*xs.length)):=Nat.pow_le_pow_right (by(clear h1 e hx ih h;lia)) (by(clear h1 e hx ih h;lia))
  rw[e,Nat.pow_succ]
  (clear e ih h;lia)
end
section
variable {g:Glob} {d:Nat} {sc:Scope} {σ:Sig} {env:Env} {A:Around} {Φ Ψ Φ₀ B:PH} {s:Shared} {rest:List Stmt} {Q:Flow→Shared→Prop}
theorem EvIt.rev {id:Str} {p pos:Pos} {e:PySem.Expr} {xs:List AV} (h1:Ev g d sc σ (.Name id p) (.raw (.type "reversed"))) (h:Ev g d sc σ e (.lst xs))
  (he:autoParam (∀ env,starEach [e] env=(false,eval e env)::starEach [] env) aR) (hst:autoParam (∀ env,((backTo pos (starEach [e] env)).any (·.1))=false) aR):EvIt g d sc σ (.Call (.Name id p) [e] [] pos) xs.reverse:=fun A env B Φ s Q r y k=>by
 rw[arm_eval_Call_Name']
 refine wpAny_bind (h1.at r y fun Φ₁ v s₁ l₁ y₁ r₁=>?_)
 replace r₁:_=_:=r₁
 subst r₁
 refine callWith_of (P:=fun h=>∃ k,(k=Keeper.frame∨k=Keeper.machine∨k=Keeper.boundFrame)∧Looks (model PR g.w) h (keeperOf (.type "reversed")) k) ?_ (fun h q=>q) ?_
 ·rw[hst env];rfl
 ·refine evalArgs_At r y₁ (EvL.cons h EvL.nil he) (hst env) fun Φ₂ vs s₂ l₂ y₂ rp=>⟨?_,?_⟩
  ·obtain⟨Ψ,pr,_⟩:=y₂.pre
   exact Keep.ty (g:=g) "reversed" Φ₂ Ψ s₂ pr.hp
  ·refine repL_cons_elim rp fun v ws hv hw=>?_
   have:=repL_nil_inv hw
   subst this
   refine lst_elim hv fun a o us ho hl hx=>?_
   obtain⟨Ψ,pr,hb⟩:=y₂.pre
   have hL:=isList_of pr.hp ho hl
   have ha:a≠s₂.heap.objs.size:=fun q=>by have:=pr.hp.freshΦ;rw[←q,ho] at this;cases this
   show W g.w A (call (.type "reversed") [.ref a]) _ _
   refine call_reversed_list hL ?_
   have hp':=pr.hp.allocΨ (o:=revObj a ((us.size:Int)-1)) rfl
   obtain⟨y₃,hB⟩:=y₂.base pr hb pr.hp.freshΦ pr.hp.freshΨ hp'
   have hit:(s₂.heap.push (revObj a ((us.size:Int)-1))).IsRevIter s₂.heap.objs.size a ((us.size:Int)-1):=⟨_,Heap.get?_push_size _ rfl,rfl,rfl⟩
   have hsz:=size_of hx
   refine wpAny_pyIter_revIter hit (k Φ₂ _ _ (fun i h=>i≤us.size∧h.IsRevIter s₂.heap.objs.size a ((us.size:Int)-1-(i:Int))∧h.IsList a us) [s₂.heap.objs.size,a] _ (l₁.trans l₂) hB y₃ ⟨Nat.zero_le _,by simpa using hit,hL.at fun o e=>Heap.get?_push_of_some _ e⟩ ⟨⟨fun i v=>us[us.size-1-i]?=some v∧i<us.size,?_,?_⟩,fun b hb'=>?_,fun i h hh=>?_⟩)
   ·intro A' hA
    rw[List.length_reverse,←hsz]
    have W:=Walks.listRev (prog:=PR) (w:=g.w) (A:=A') hA s₂.heap.objs.size a ha us
    exact⟨W.sub,W.frame,fun i s Q E hi st hQ=>W.item i s Q E hi st fun v h' tk pv=>hQ v h' tk ⟨pv,hi⟩,W.done,W.self⟩
   ·rintro i v ⟨e,hi⟩
    have hlt:us.size-1-i<xs.length:=by lia
    obtain⟨v',e',r'⟩:=repL_get hx (List.getElem?_eq_getElem hlt)
    rw[Array.getElem?_toList,e] at e'
    cases e'
    refine⟨_,?_,r'⟩
    rw[List.getElem?_reverse (by lia)]
    have:xs.length-1-i=us.size-1-i:=by lia
    rw[this]
    exact List.getElem?_eq_getElem hlt
   ·simp only[List.mem_cons,List.not_mem_nil,or_false] at hb'
    exact hb'.imp (fun q=>q) fun q=>⟨o,by rw[q];exact ho⟩
   ·obtain⟨_,⟨o,e1,e2,e3⟩,_⟩:=hh
    exact⟨o,_,e1,e2,by decide,_,e3⟩
noncomputable def relS (sc scope:Scope):Scope:={scope with names:=scope.names.map fun(n,k)=>if (k==.free&&sc.kind==.function&&kindIn sc n==some .cell) then(n,.cell) else(n,k)}
theorem relS_eq (h:EnvOk sc env) (scope:Scope):relabel scope env=relS sc scope:=by
 unfold relabel relS
 have:∀ n,env.kindOf n=kindIn sc n:=h.kind
 simp only[this,h.scE]
noncomputable def relK (sc:Scope) (n:Str) (k:NameKind):NameKind:=if (k==.free&&sc.kind==.function&&kindIn sc n==some .cell) then .cell else k
theorem relS_kind (sc scope:Scope) (x:Str):kindIn (relS sc scope) x=(kindIn scope x).map (relK sc x):=by
 unfold kindIn relS
 dsimp only
 induction scope.names with
 | nil=>rfl
 | cons p r ih=>
  obtain⟨n,k⟩:=p
  have e:(if ((n,k).snd==NameKind.free&&sc.kind==ScopeKind.function&&kindIn sc (n,k).fst==some NameKind.cell)=true then((n,k).fst,NameKind.cell) else((n,k).fst,(n,k).snd))=(n,relK sc n k):=by
   unfold relK
   dsimp only
   split<;>rfl
  rw[List.map_cons,e,List.lookup_cons,List.lookup_cons]
  by_cases hx:x=n
  ·subst hx;rw[beq_self_eq_true];rfl
  ·rw[beq_eq_false_iff_ne.mpr hx];exact ih
noncomputable def inhV (σ:Sig) (scope:Scope):List (Str × AV):=σ.vars.filter fun p=>kindIn scope p.1==some .free
theorem inhV_get {scope:Scope} {x:Str} {av:AV} (h:(inhV σ scope).lookup x=some av):kindIn scope x=some .free∧σ.vars.lookup x=some av:=by
 unfold inhV at h
 revert h
 generalize σ.vars=l
 induction l with
 | nil=>intro h;simp at h
 | cons p r ih=>
  obtain⟨n,a⟩:=p
  intro h
  rw[List.filter_cons] at h
  split at h
  ·rename_i hk
   rw[List.lookup_cons] at h ⊢
   by_cases hx:x=n
   ·subst hx
    rw[beq_self_eq_true] at h ⊢
    exact⟨by simpa using hk,h⟩
   ·rw[beq_eq_false_iff_ne.mpr hx] at h ⊢
    exact ih h
  ·rename_i hk
   obtain⟨h1,h2⟩:=ih h
   refine⟨h1,?_⟩
   have hx:x≠n:=fun q=>by subst q;rw[h1] at hk;simp at hk
   rw[List.lookup_cons,beq_eq_false_iff_ne.mpr hx]
   exact h2
noncomputable def inhF (scope:Scope):List Str:=(scope.names.filter fun p=>p.2==.free).map (·.1)
theorem inhF_mem {scope:Scope} {x:Str} (h:kindIn scope x=some .free):x∈inhF scope:=List.mem_map.mpr ⟨_,List.mem_filter.mpr ⟨mem_of_lookup h,rfl⟩,rfl⟩
inductive BPost (g:Glob) (sc:Scope) (env:Env) (σ:Sig) (B Φ:PH) (b c:Bool) (s:Shared):Prop
 | mk (e:c=b) (Φ':PH) (l:PH.le Φ Φ') (y:At g sc env σ B Φ' s)
noncomputable def IfsB (g:Glob) (d:Nat) (sc:Scope) (σ:Sig) (ifs:List PySem.Expr) (b:Bool):Prop:=∀ A env B Φ s,Room d A→At g sc env σ B Φ s →
 W g.w A (forIn ifs true fun c r=>if r=true then do let ok ←isTrue c env (eval c env);pure (ForInStep.yield ok) else pure (ForInStep.yield r)) (BPost g sc env σ B Φ b) s
theorem IfsB.nil:IfsB g d sc σ [] true:=fun A env B Φ s r y=>wpAny_tests_nil ⟨rfl,Φ,PH.le.refl _,y⟩
theorem IfsB.one {c:PySem.Expr} {b:Bool} (h:Ts g d sc σ c b):IfsB g d sc σ [c] b:=fun A env B Φ s r y=>wpAny_tests_one (h.at r y fun Φ' s' l y'=>⟨rfl,Φ',l,y'⟩)
noncomputable abbrev testsOf (ifs:List PySem.Expr) (env:Env):Sem Bool:=forIn ifs true fun c r=>if r=true then do let ok ←isTrue c env (eval c env);pure (ForInStep.yield ok) else pure (ForInStep.yield r)
noncomputable def turnTree (target:PySem.Expr) (ifs:List PySem.Expr) (p:Pos) (body again:Sem Fin) (it:Value) (env:Env):Sem Fin:=
 standAt p>>=fun _=>pyNext it>>=fun r=>match r with
  | none=>pure (.done .next)
  | some v=>letOwnedTupleGo target it v>>=fun _=>assign target env v>>=fun _=>testsOf ifs env>>=fun ok=>
   if ok=true then body else again
noncomputable def emitTree (elt:PySem.Expr) (acc:Value) (env:Env):Sem Unit:=eval elt env>>=fun x=>call (.builtin "list.append") [acc,x]>>=fun _=>pure ()
theorem turn_one (elt target iter:PySem.Expr) (ifs:List PySem.Expr) (scope:Scope) (pos:Pos) (it acc:Value) (env:Env) :
  compTurn (.ListComp elt [⟨target,iter,ifs,0⟩] scope pos) 0 it acc env=turnTree target ifs iter.pos (emitTree elt acc env>>=fun _=>again (.compLoop (.ListComp elt [⟨target,iter,ifs,0⟩] scope pos) 0 it acc env)) (again (.compLoop (.ListComp elt [⟨target,iter,ifs,0⟩] scope pos) 0 it acc env)) it env:=by
 rw[compTurn_list]
 rfl
theorem turn_two0 (elt target iter t2 i2:PySem.Expr) (ifs ifs2:List PySem.Expr) (scope:Scope) (pos:Pos) (it acc:Value) (env:Env) :
  compTurn (.ListComp elt [⟨target,iter,ifs,0⟩,⟨t2,i2,ifs2,0⟩] scope pos) 0 it acc env=turnTree target ifs iter.pos
   (eval i2 env>>=fun x=>standAt i2.pos>>=fun _=>foldedSetIterable i2 env x>>=fun x=>holding [x] (pyIter x)>>=fun it2=>runOwn (.compStart (.ListComp elt [⟨target,iter,ifs,0⟩,⟨t2,i2,ifs2,0⟩] scope pos) 1 it2 acc env) env>>=fun _=>again (.compLoop (.ListComp elt [⟨target,iter,ifs,0⟩,⟨t2,i2,ifs2,0⟩] scope pos) 0 it acc env)) (again (.compLoop (.ListComp elt [⟨target,iter,ifs,0⟩,⟨t2,i2,ifs2,0⟩] scope pos) 0 it acc env)) it env:=by rfl
theorem turn_two1 (elt target iter t2 i2:PySem.Expr) (ifs ifs2:List PySem.Expr) (scope:Scope) (pos:Pos) (it acc:Value) (env:Env) :
  compTurn (.ListComp elt [⟨target,iter,ifs,0⟩,⟨t2,i2,ifs2,0⟩] scope pos) 1 it acc env=turnTree t2 ifs2 i2.pos (emitTree elt acc env>>=fun _=>again (.compLoop (.ListComp elt [⟨target,iter,ifs,0⟩,⟨t2,i2,ifs2,0⟩] scope pos) 1 it acc env)) (again (.compLoop (.ListComp elt [⟨target,iter,ifs,0⟩,⟨t2,i2,ifs2,0⟩] scope pos) 1 it acc env)) it env:=by rfl
end
section
variable {g:Glob} {d:Nat} {sc:Scope} {env:Env} {A:Around} {Φ Φ₁ B₀:PH} {s:Shared}
theorem comp_loop {elt:PySem.Expr} {gens:List Comprehension} {scope:Scope} {pos:Pos} {depth:Nat} {target:PySem.Expr} {ifs:List PySem.Expr} {p:Pos} {body:Sem Fin} {I D:Addr} {xs:List AV} {St:Nat→Heap→Prop} {fp:List Addr} {vars:List (Str × AV)} {frz:List Str} (r:Room d A) (f:Nat→List AV) (it:Itr g I xs St fp Φ₁)
  (heq:compTurn (.ListComp elt gens scope pos) depth (.ref I) (.ref D) env=turnTree target ifs p body (again (.compLoop (.ListComp elt gens scope pos) depth (.ref I) (.ref D) env)) (.ref I) env)
  (turn:∀ i x,xs[i]?=some x→∃ vars' b,(∀ own mt,Tgt g d sc target ⟨vars,own,frz,mt⟩ x ⟨vars',own,frz,mt⟩)∧(∀ z a,vars.lookup z=some a→vars'.lookup z=some a)∧(∀ own mt,IfsB g d sc ⟨vars',own,frz,mt⟩ ifs b)∧(b=false→f i=[]) ∧
   (b=true→∀ B Φ s zs,PH.le Φ₁ Φ→At g sc env ⟨vars',[(D,.lst zs)],frz,[D]⟩ B Φ s→zs.length+(f i).length≤10000→W g.w A body (fun fin s'=>fin=.again (.compLoop (.ListComp elt gens scope pos) depth (.ref I) (.ref D) env)∧∃ Φ',PH.le Φ Φ'∧At g sc env ⟨vars',[(D,.lst (zs++f i))],frz,[D]⟩ B Φ' s') s))
  (hI0:B₀ I=none) (zs0:List AV) (hlen:zs0.length+((List.range xs.length).flatMap f).length≤10000) {o:Obj} (l₁:PH.le Φ₁ Φ) (y:At g sc env ⟨vars,[(D,.lst zs0)],frz,[D]⟩ (B₀.put I o) Φ s) (st:St 0 s.heap) :
  codeAny (model PR g.w) A (.compLoop (.ListComp elt gens scope pos) depth (.ref I) (.ref D) env) (fun r s'=>r=.ok .next∧∃ Φ',PH.le Φ Φ'∧At g sc env ⟨vars,[(D,.lst (zs0++(List.range xs.length).flatMap f))],frz,[D]⟩ B₀ Φ' s') s:=by
 have hle:∀ i,i≤xs.length→((List.range i).flatMap f).length≤((List.range xs.length).flatMap f).length:=fun i hi=>by
  have:List.range xs.length=List.range i++(List.range (xs.length-i)).map (i+·):=by rw[←List.range_add];congr 1;(clear st y l₁ hlen hI0 turn heq it r;lia)
  rw[this,List.flatMap_append,List.length_append];(clear this hi st y l₁ hlen hI0 turn heq it r;lia)
 refine codeAny_loop rfl (fun n s=>∃ i Φ' o',n=xs.length-i∧i≤xs.length∧PH.le Φ Φ'∧At g sc env ⟨vars,[(D,.lst (zs0++(List.range i).flatMap f))],frz,[D]⟩ (B₀.put I o') Φ' s∧St i s.heap) ?_ xs.length ⟨0,Φ,o,rfl,Nat.zero_le _,PH.le.refl _,by simpa using y,st⟩
 rintro n s ⟨i,Φ',o',rfl,hi,l',y',st'⟩
 show wpAny _ A ((compTurn (.ListComp elt gens scope pos) depth (.ref I) (.ref D) env).onRaise (fun x=>do noteFrame x env;theTreesLotGoes x)) _ _ s
 refine wpAny_noted ?_
 rw[heq]
 unfold turnTree
 have it':=it.mono (l₁.trans l')
 refine wpAny_bind (wpAny_standAt (wpAny_bind ?_))
 by_cases hlt:i<xs.length
 ·have hx:xs[i]?=some xs[i]:=List.getElem?_eq_getElem hlt
  refine box fun bX bk=>?_
  obtain⟨vars',b,ht,hk,hifs,hf0,hb⟩:=turn i xs[i] hx
  refine bk ?_
  clear bk bX
  refine wpAny_mono (At.item it' r y' (PH.put_self _ _ _) st' hx fun v o₂ s₂ y₂ st₂ rp=>?_) (fun _ _ q=>q) fun _ _ e=>e.elim
  have y₂:At g sc env ⟨vars,[(D,.lst (zs0++(List.range i).flatMap f))],frz,[D]⟩ (B₀.put I o₂) Φ' s₂:=by
   have e:(B₀.put I o').put I o₂=B₀.put I o₂:=by funext b;unfold PH.put;split<;>rfl
   rw[←e];exact y₂
  show wpAny (model PR g.w) A (letOwnedTupleGo target (.ref I) v>>=_) _ _ s₂
  refine wpAny_bind (wpAny_mono (it'.own st₂ ?_) (fun _ _ q=>q) fun _ _ e=>e.elim)
  refine wpAny_bind (wpAny_mono (ht _ _ env A _ Φ' s₂ v _ r y₂ rp fun s₃ y₃=>?_) (fun _ _ q=>q) fun _ _ e=>e.elim)
  refine wpAny_bind (wpAny_mono (hifs _ _ A env _ Φ' s₃ r y₃) (fun ok s₄ q0=>q0.casesOn fun hok Φ₄ l₄ y₄=>?_) fun _ _ e=>e.elim)
  subst hok
  have done:∀ (fin:Fin) (s₅:Shared),(fin=.again (.compLoop (.ListComp elt gens scope pos) depth (.ref I) (.ref D) env)∧∃ Φ₅,PH.le Φ₄ Φ₅∧At g sc env ⟨vars',[(D,.lst ((zs0++(List.range i).flatMap f)++f i))],frz,[D]⟩ (B₀.put I o₂) Φ₅ s₅) →
    (match fin with
     | .done f=>(Except.ok f:Result)=.ok .next∧False
     | .again c'=>c'=.compLoop (.ListComp elt gens scope pos) depth (.ref I) (.ref D) env∧∃ m,m<xs.length-i∧∃ i' Φ' o',m=xs.length-i'∧i'≤xs.length∧PH.le Φ Φ'∧At g sc env ⟨vars,[(D,.lst (zs0++(List.range i').flatMap f))],frz,[D]⟩ (B₀.put I o') Φ' s₅∧St i' s₅.heap):=by
   rintro fin s₅ ⟨rfl,Φ₅,l₅,y₅⟩
   refine⟨rfl,xs.length-(i+1),by(clear y₅ l₅ hb hf0 hifs y₄ l₄ y₃ rp st₂ hk ht hx it' st' y' l' hi hle st y l₁ hlen hI0 turn heq it r;lia),i+1,Φ₅,o₂,rfl,hlt,(l'.trans l₄).trans l₅,?_,?_⟩
   ·have:zs0++(List.range (i+1)).flatMap f=(zs0++(List.range i).flatMap f)++f i:=by rw[List.range_succ,List.flatMap_append];simp
    rw[this]
    exact y₅.vars hk rfl rfl rfl
   ·have st₄:=it'.stand st₂ (by rw[y₂.getB (PH.put_self _ _ _),y₄.getB (PH.put_self _ _ _)]) y₂.sub (fun a o e=>y₄.sub a o (l₄ a o e))
    exact it'.stand st₄ (by rw[y₄.getB (PH.put_self _ _ _),y₅.getB (PH.put_self _ _ _)]) (fun a o e=>y₄.sub a o (l₄ a o e)) (fun a o e=>y₅.sub a o (l₅ _ _ (l₄ a o e)))
  cases ok with
  | true=>
   simp only[if_true]
   have hz:(zs0++(List.range i).flatMap f).length+(f i).length≤10000:=by
    have:=hle (i+1) hlt
    rw[List.range_succ,List.flatMap_append] at this
    simp at this
    rw[List.length_append]
    simp
    simp at hlen
    (clear hb hf0 hifs done y₄ l₄ y₃ rp st₂ hk ht hx hlt it' st' y' l' hi hle st y l₁ hI0 turn heq it r;lia)
   refine wpAny_mono (hb rfl _ Φ₄ s₄ _ (l₁.trans (l'.trans l₄)) y₄ hz) (fun fin s₅ q=>?_) fun _ _ e=>e.elim
   have:=done fin s₅ q
   obtain⟨rfl,q⟩:=q
   exact this
  | false=>
   first | refine PySem.W.KFB.if_not rfl ?_ | simp only[Bool.false_eq_true,if_false]
   have:=done (.again (.compLoop (.ListComp elt gens scope pos) depth (.ref I) (.ref D) env)) s₄ ⟨rfl,Φ₄,PH.le.refl _,by rw[hf0 rfl,List.append_nil];exact y₄⟩
   exact wpAny_pure this
 ·have hin:i=xs.length:=by(clear it' st' y' l' hle st y l₁ hlen hI0 turn heq it r;lia)
  subst hin
  refine wpAny_mono (At.done it' r y' (PH.put_self _ _ _) hI0 (PH.le_put _ hI0) st' fun s₂ y₂=>?_) (fun _ _ q=>q) fun _ _ e=>e.elim
  exact wpAny_pure ⟨rfl,Φ',l',y₂⟩
theorem comp_emit {elt:PySem.Expr} {D:Addr} {vars:List (Str × AV)} {frz:List Str} {av:AV} {c:Code} (r:Room d A) (h:∀ own mt,Ev g d sc ⟨vars,own,frz,mt⟩ elt av) {B Φ:PH} {s:Shared} {zs:List AV} (y:At g sc env ⟨vars,[(D,.lst zs)],frz,[D]⟩ B Φ s) (hz:zs.length+1≤10000) :
  W g.w A (emitTree elt (.ref D) env>>=fun _=>again c) (fun fin s'=>fin=.again c∧∃ Φ',PH.le Φ Φ'∧At g sc env ⟨vars,[(D,.lst (zs++[av]))],frz,[D]⟩ B Φ' s') s:=by
 unfold emitTree
 refine wpAny_bind (wpAny_bind ((h _ _).at r y fun Φ₁ v s₁ l₁ y₁ r₁=>wpAny_bind ?_))
 refine(CallsTo.own1 (FnM.append (g:=g) (d:=d) (a:=D) (xs:=zs) (x:=av) (by unfold small;(clear r₁ y₁ l₁ y h r;lia))) A env B Φ₁ s₁ [.ref D,v] r y₁ (repL_cons rep_ref (repL_cons r₁ repL_nil))).mono fun v' s₂ q0=>q0.casesOn fun Φ₂ l₂ y₂ _=>?_
 exact wpAny_pure (wpAny_pure ⟨rfl,Φ₂,l₁.trans l₂,y₂⟩)
end
section
variable {g:Glob} {d:Nat} {sc:Scope} {σ:Sig} {env:Env} {A:Around} {Φ Ψ Φ₀ B:PH} {s:Shared} {rest:List Stmt}
noncomputable def compB (sc scope:Scope):Bool:=nodupB (scope.names.map (·.1))&&(scope.kind==.function)&&scope.names.all fun p=>!(p.2==.free)||(kindIn sc p.1==some .cell||(kindIn sc p.1==some .free))
theorem start_list {elt target iter:PySem.Expr} {ifs:List PySem.Expr} {more:List Comprehension} {scope:Scope} {pos:Pos} {I:Addr} {acc:Value} {xs:List AV} {St:Nat→Heap→Prop} {fp:List Addr} {R:Result→Shared→Prop} (r:Room d A) (it:Itr g I xs St fp Φ) (st:St 0 s.heap)
  (h0:codeAny (model PR g.w) A (.compLoop (.ListComp elt (⟨target,iter,ifs,0⟩::more) scope pos) 0 (.ref I) acc env) R s):codeAny (model PR g.w) A (.compStart (.ListComp elt (⟨target,iter,ifs,0⟩::more) scope pos) 0 (.ref I) acc env) R s:=by
 refine box fun bX bk=>?_
 obtain⟨P,wk,_⟩:=it.wk
 refine bk ?_
 clear bk bX
 exact codeAny_compStart_list h0 ((wk A r.hd).self 0 _ _ _ st h0)
theorem start_two1 {elt:PySem.Expr} {g0:Comprehension} {t2 i2:PySem.Expr} {ifs2:List PySem.Expr} {scope:Scope} {pos:Pos} {I:Addr} {acc:Value} {xs:List AV} {St:Nat→Heap→Prop} {fp:List Addr} {R:Result→Shared→Prop} (r:Room d A) (it:Itr g I xs St fp Φ) (st:St 0 s.heap)
  (h0:codeAny (model PR g.w) A (.compLoop (.ListComp elt [g0,⟨t2,i2,ifs2,0⟩] scope pos) 1 (.ref I) acc env) R s):codeAny (model PR g.w) A (.compStart (.ListComp elt [g0,⟨t2,i2,ifs2,0⟩] scope pos) 1 (.ref I) acc env) R s:=by
 refine box fun bX bk=>?_
 obtain⟨P,wk,_⟩:=it.wk
 refine bk ?_
 clear bk bX
 have h:=(wk A r.hd).self 0 s (fun it' s'=>codeAny (model PR g.w) A (.compLoop (.ListComp elt [g0,⟨t2,i2,ifs2,0⟩] scope pos) 1 it' acc env) R s') (notedBy (model PR g.w) A env fun x s'=>R (.error x) s') st h0
 refine codeAny_of_tree ?_
 show wpAny _ _ ((compStart (.ListComp elt [g0,⟨t2,i2,ifs2,0⟩] scope pos) 1 (.ref I) acc env).onRaise (fun x=>do noteFrame x env;standAt theWindowsPlace)) _ _ s
 refine wpAny_notedAt ?_
 unfold compStart
 show wpAny _ _ (ask>>=_) _ _ s
 refine wpAny_bind (wpAny_askSetting (wpAny_ite ?_))
 split
 ·first
   | exact wpAny_bind (wpAny_pure (wpAny_pure (And.intro rfl h0)))
   | exact wpAny_pure (And.intro rfl h0)
 ·first
   | exact wpAny_bind (wpAny_rule (wpAny_bind (wpAny_standAt (wpAny_bind (wpAny_mono h (fun it' s' h'=>wpAny_pure (And.intro rfl h')) fun _ _ x=>x)))))
   | (refine wpAny_bind (wpAny_rule ?_);show wpAny _ _ (standAt i2.pos>>=_) _ _ s;exact wpAny_bind (wpAny_standAt (wpAny_bind (wpAny_mono h (fun it' s' h'=>wpAny_pure (And.intro rfl h')) fun _ _ x=>x))))
theorem comp_core {elt target iter:PySem.Expr} {ifs:List PySem.Expr} {more:List Comprehension} {scope:Scope} {pos fpos:Pos} {av:AV} {xs ys:List AV} {use:Option (Value→Sem Unit)} {Q:Value→Shared→Prop} (r:Room d A) (pr:Pre g sc σ env Φ Ψ s)
  (h1:Ev g d sc σ iter av) (hi:IterV g d av xs) (hB:compB sc scope=true)
  (hbody:∀ cenv Φ s I o St fp B₀ D,Itr g I xs St fp Φ→B₀ I=none→At g (relS sc scope) cenv ⟨inhV σ scope,[(D,.lst [])],inhF scope,[D]⟩ (B₀.put I o) Φ s→St 0 s.heap →
   codeAny (model PR g.w) A (.compStart (.ListComp elt (⟨target,iter,ifs,0⟩::more) scope pos) 0 (.ref I) (.ref D) cenv) (fun r s'=>r=.ok .next∧∃ Φ',PH.le Φ Φ'∧At g (relS sc scope) cenv ⟨inhV σ scope,[(D,.lst ys)],inhF scope,[D]⟩ B₀ Φ' s') s)
  (k:∀ Φ' Ψ' D C o s',PH.le Φ Φ'→Hp g Φ' Ψ' s'→Rep Φ' (.lst ys) (.ref D)→PH.le Ψ Ψ'→Ψ C=none→Ψ' C=some o→(∃ es ep,o.data=.dict es ep∧StrKeys es)→compPost (model PR g.w) A No use Q (.ref D) C (.ok .next) s')
  (hs:autoParam (∀ env x,foldedSetIterable iter env x=pure x) aR) :
  W g.w A (comprehension (.ListComp elt (⟨target,iter,ifs,0⟩::more) scope pos) scope env fpos (newList []) false (eval iter env) use) Q s:=by
 unfold compB at hB
 simp only[Bool.and_eq_true,beq_iff_eq] at hB
 refine box fun bX bk=>?_
 obtain⟨⟨hnd,hkd⟩,hall⟩:=hB
 refine bk ?_
 clear bk bX
 have hu:=nodupB_ok hnd
 have hfk:∀ x,(x,NameKind.free)∈scope.names→kindIn sc x=some .cell∨kindIn sc x=some .free:=fun x hx=>by
  have:=List.all_eq_true.mp hall _ hx
  simpa using this
 refine box fun bX bk=>?_
 obtain⟨fr,hf,hv⟩:=pr.fr
 refine bk ?_
 clear bk bX
 have hcells:∀ x,(x,NameKind.free)∈scope.names→∃ c,env.cells.lookup x=some c:=fun x hx=>let ⟨c,_,e,_,_⟩:=hf.cel x (hfk x hx);⟨c,e⟩
 have hclos:=closureFor_is (env:=env) (sc':=scope) hcells
 have hcl:=closL_lookup env.cells scope.names [] hu hcells
 refine wpAny_comprehension_free (cl:=closL env.cells scope.names []) rfl (hs env) hclos hkd (fun x hx hl=>by obtain⟨n,k⟩:=x;dsimp only at hl ⊢;subst hl;exact lookup_of_mem hu hx) ?_
 refine h1.run r pr fun Φ₁ v s₁ l₁ x₁ r₁=>?_
 refine hi A Φ₁ Ψ s₁ v _ r x₁.hp r₁ fun I o St fp s₂ hI1 hI2 hp₂ st it=>?_
 refine wpAny_newObj_type ?_ (by size_fits)
 have hp₃:=hp₂.allocΨ (o:={cls:=.type "list",data:=.seq ([]:List Value).toArray}) rfl
 have hbne:∀ b ob,(Ψ.put I o) b=some ob→b≠s₂.heap.objs.size:=fun b ob e q=>by rw[q,hp₂.freshΨ] at e;cases e
 rw[x₁.ev.gl]
 have hIlt:I≠s₂.heap.objs.size:=hbne I o (PH.put_self _ _ _)
 refine wp_newEnv (sc:=scope) (sc':=relS sc scope) (cv:=inhV σ scope) (ω:=[(s₂.heap.objs.size,.lst [])]) (frz:=inhF scope) (mt:=[s₂.heap.objs.size]) (binds:=[]) (B:=Ψ.put I o) (env':=fun e=>{e with scope:=relS sc scope}) hp₃ hu hkd
  (fun b ob e=>by rw[PH.put_other _ _ (hbne b ob e)];exact e)
  (fun a ov e=>by
   rcases lkc e with ⟨rfl,rfl⟩ | ⟨_,e⟩
   ·exact⟨_,PH.put_self _ _ _,#[],⟨0,rfl⟩,repL_nil⟩
   ·simp at e)
  (fun a ha=>by rw[List.mem_singleton.mp ha];exact⟨hp₂.freshΨ,by rw[lk_eq];rfl⟩)
  (fun x c e=>?_) (fun x e=>?_) (fun x av' e=>?_) (fun L cells=>⟨rfl,rfl,⟨rfl,rfl,x₁.ev.bi,hkd⟩⟩) (fun x e=>?_) (fun x e=>?_) (fun x e hz=>?_) fun cenv s₄ _ y₄=>?_
 ·rw[hcl] at e
  split at e
  ·rename_i hm
   refine box fun bX bk=>?_
   obtain⟨fr₁,hf₁,_⟩:=x₁.fr
   obtain⟨c',o',z1,z2,z3⟩:=hf₁.cel x (hfk x hm)
   refine bk ?_
   clear bk bX
   rw[e] at z1;cases z1
   refine⟨o',z2.imp id fun z=>?_,_,z3⟩
   have:c≠I:=fun q=>by rw[q,hI2] at z;cases z
   rw[PH.put_other _ _ this];exact z
  ·simp at e
 ·have hm:=mem_of_lookup e
  rw[hcl,if_pos hm]
  exact hcells x hm
 ·refine box fun bX bk=>?_
  obtain⟨q1,q2⟩:=inhV_get e
  have hm:=mem_of_lookup q1
  obtain⟨fr₁,hf₁,hv₁⟩:=x₁.fr
  obtain⟨q3,u,q4,q5⟩:=hv₁ x _ q2
  obtain⟨c,o',z1,z2,z3⟩:=hf₁.cel x (hfk x hm)
  refine bk ?_
  clear bk bX
  refine⟨?_,q1,c,o',u,by rw[hcl,if_pos hm];exact z1,z2.imp id fun z=>?_,by rw[z3,q4],q5⟩
  ·unfold varKind
   rw[relS_kind,q1,Option.map_some]
   rcases hfk x hm with z | z
   ·have e:relK sc x .free=.cell:=by unfold relK;rw[z,x₁.ev.kd];rfl
    rw[e]
   ·have e:relK sc x .free=.free:=by unfold relK;rw[z];simp
    rw[e]
    unfold varKind at q3;rw[z] at q3;exact q3
  ·have:c≠I:=fun q=>by rw[q,hI2] at z;cases z
   rw[PH.put_other _ _ this];exact z
 ·rw[relS_kind] at e
  refine box fun bX bk=>?_
  obtain⟨k,e1,e2⟩:=Option.map_eq_some_iff.mp e
  refine bk ?_
  clear bk bX
  rw[e1]
  unfold relK at e2
  split at e2
  ·cases e2
  ·rw[e2]
 ·rw[relS_kind] at e
  rcases e with e | e
  ·refine box fun bX bk=>?_
   obtain⟨k,e1,e2⟩:=Option.map_eq_some_iff.mp e
   refine bk ?_
   clear bk bX
   rw[e1]
   unfold relK at e2
   split at e2
   ·rename_i hh;simp only[Bool.and_eq_true,beq_iff_eq] at hh;rw[hh.1.1];exact .inr rfl
   ·rw[e2];exact .inl rfl
  ·refine box fun bX bk=>?_
   obtain⟨k,e1,e2⟩:=Option.map_eq_some_iff.mp e
   refine bk ?_
   clear bk bX
   rw[e1]
   unfold relK at e2
   split at e2
   ·cases e2
   ·rw[e2];exact .inr rfl
 ·rw[relS_kind] at e
  refine box fun bX bk=>?_
  obtain⟨k,e1,e2⟩:=Option.map_eq_some_iff.mp e
  refine bk ?_
  clear bk bX
  have hnf:k≠.free:=fun q=>hz (inhF_mem (by rw[e1,q]))
  unfold relK at e2
  split at e2
  ·rename_i hh;simp only[Bool.and_eq_true,beq_iff_eq] at hh;exact absurd hh.1.1 hnf
  ·rw[e1,e2]
 ·rw[List.forIn_nil]
  refine wpAny_pure ?_
  rw[relS_eq x₁.ev]
  refine codeAny_mono (hbody {cenv with scope:=relS sc scope} Φ₁ s₄ I o St fp Ψ s₂.heap.objs.size it hI2 y₄ ?_) fun r s' q=>?_
  ·have e1:s₄.heap.get? I=some o:=y₄.getB (PH.put_self _ _ _)
   have e2:s₂.heap.get? I=some o:=hp₂.getΨ (PH.put_self _ _ _)
   exact it.stand st (by rw[e1,e2]) hp₂.fr y₄.sub
  ·refine box fun bX bk=>?_
   obtain⟨rfl,Φ',l',y'⟩:=q
   refine bk ?_
   clear bk bX
   refine box fun bX bk=>?_
   obtain⟨Φ₂,l₂,r₂,y₂⟩:=y'.freeze (a:=s₂.heap.objs.size) (xs:=ys) (own':=[]) (mt':=[]) lk_eq (by simp) noO noM
   obtain⟨Ψ',pr',hb'⟩:=y₂.pre
   obtain⟨fr',hf',_⟩:=pr'.fr
   obtain⟨ol,es,ep,w1,w2,w3,_⟩:=hf'.loc
   refine bk ?_
   clear bk bX
   exact k Φ₂ Ψ' _ _ ol s' ((l₁.trans l').trans l₂) pr'.hp r₂ hb' (y₂.out _ (.inl rfl)).1 w1 ⟨es,ep,w2,w3⟩
end
section
variable {g:Glob} {d:Nat} {sc:Scope} {σ:Sig} {env:Env} {A:Around} {Φ Ψ Φ₀ B:PH} {s:Shared} {rest:List Stmt} {Q:Flow→Shared→Prop}
structure Turn (g:Glob) (d:Nat) (sc:Scope) (vars:List (Str × AV)) (frz:List Str) (target:PySem.Expr) (ifs:List PySem.Expr) (x:AV) (vars':List (Str × AV)) (b:Bool):Prop where
 tgt:∀ own mt,Tgt g d sc target ⟨vars,own,frz,mt⟩ x ⟨vars',own,frz,mt⟩
 know:∀ z a,vars.lookup z=some a→vars'.lookup z=some a
 ifs:∀ own mt,IfsB g d sc ⟨vars',own,frz,mt⟩ ifs b
theorem knowCons {vars:List (Str × AV)} {x:Str} {av:AV} (h:vars.lookup x=none):∀ z a,vars.lookup z=some a→List.lookup z ((x,av)::vars)=some a:=fun z a e=>by
 have:z≠x:=fun q=>by rw[q,h] at e;cases e
 rw[List.lookup_cons,beq_eq_false_iff_ne.mpr this];exact e
theorem Turn.name {x:Str} {p:Pos} {av:AV} {vars:List (Str × AV)} {frz:List Str} {ifs:List PySem.Expr} {b:Bool} (hx:∀ own mt,stB sc ⟨vars,own,frz,mt⟩ x=true) (hn:vars.lookup x=none) (h:∀ own mt,IfsB g d sc ⟨(x,av)::vars,own,frz,mt⟩ ifs b):Turn g d sc vars frz (.Name x p) ifs av ((x,av)::vars) b:=
 ⟨fun own mt=>Tgt.name (hx own mt),knowCons hn,h⟩
theorem Turn.pair {x y:Str} {p q r:Pos} {n:Nat} {a b:AV} {vars:List (Str × AV)} {frz:List Str} {ifs:List PySem.Expr} {t:Bool} (hx:∀ own mt,stB sc ⟨vars,own,frz,mt⟩ x=true) (hy:∀ own mt,stB sc ⟨vars,own,frz,mt⟩ y=true) (hn:vars.lookup x=none) (hn2:vars.lookup y=none) (hxy:(y==x)=false)
  (h:∀ own mt,IfsB g d sc ⟨(y,b)::(x,a)::vars,own,frz,mt⟩ ifs t):Turn g d sc vars frz (.Tuple [.Name x p,.Name y q] n r) ifs (.tup [a,b]) ((y,b)::(x,a)::vars) t:=
 ⟨fun own mt=>Tgt.pair (hx own mt) (hy own mt),fun z w e=>knowCons (by rw[List.lookup_cons,hxy];exact hn2) z w (knowCons hn z w e),h⟩
theorem comp1_body {elt target iter:PySem.Expr} {ifs:List PySem.Expr} {scope:Scope} {pos:Pos} {xs:List AV} {vars:List (Str × AV)} {frz:List Str} (r:Room d A) (f:Nat→List AV) (hlen:((List.range xs.length).flatMap f).length≤10000)
  (turn:∀ i x,xs[i]?=some x→∃ vars' b av',Turn g d sc vars frz target ifs x vars' b∧(b=true→(∀ own mt,Ev g d sc ⟨vars',own,frz,mt⟩ elt av')∧f i=[av'])∧(b=false→f i=[]))
  (cenv:Env) (Φ:PH) (s:Shared) (I:Addr) (o:Obj) (St:Nat→Heap→Prop) (fp:List Addr) (B₀:PH) (D:Addr) (it:Itr g I xs St fp Φ) (hI:B₀ I=none) (y:At g sc cenv ⟨vars,[(D,.lst [])],frz,[D]⟩ (B₀.put I o) Φ s) (st:St 0 s.heap) :
  codeAny (model PR g.w) A (.compStart (.ListComp elt [⟨target,iter,ifs,0⟩] scope pos) 0 (.ref I) (.ref D) cenv) (fun r s'=>r=.ok .next∧∃ Φ',PH.le Φ Φ'∧At g sc cenv ⟨vars,[(D,.lst ((List.range xs.length).flatMap f))],frz,[D]⟩ B₀ Φ' s') s:=by
 refine start_list r it st ?_
 have:=comp_loop (elt:=elt) (gens:=[⟨target,iter,ifs,0⟩]) (scope:=scope) (pos:=pos) (depth:=0) (D:=D) (vars:=vars) (frz:=frz) (zs0:=[]) r f it (turn_one elt target iter ifs scope pos (.ref I) (.ref D) cenv) (fun i x hx=>?_) hI (by simpa using hlen) (PH.le.refl _) y st
 ·simpa using this
 ·refine box fun bX bk=>?_
  obtain⟨vars',b,av',ht,h1,h2⟩:=turn i x hx
  refine bk ?_
  clear bk bX
  refine⟨vars',b,ht.tgt,ht.know,ht.ifs,h2,fun hb B Φ s zs l y hz=>?_⟩
  refine box fun bX bk=>?_
  obtain⟨h3,h4⟩:=h1 hb
  refine bk ?_
  clear bk bX
  rw[h4] at hz ⊢
  exact comp_emit r h3 y hz
theorem Ev.compG {elt target iter:PySem.Expr} {ifs:List PySem.Expr} {more:List Comprehension} {scope:Scope} {pos:Pos} {av:AV} {xs ys:List AV}
  (h1:Ev g d sc σ iter av) (hi:IterV g d av xs) (hB:compB sc scope=true)
  (hbody:∀ A cenv Φ s I o St fp B₀ D,Room d A→Itr g I xs St fp Φ→B₀ I=Option.none→At g (relS sc scope) cenv ⟨inhV σ scope,[(D,.lst [])],inhF scope,[D]⟩ (B₀.put I o) Φ s→St 0 s.heap →
   codeAny (model PR g.w) A (.compStart (.ListComp elt (⟨target,iter,ifs,0⟩::more) scope pos) 0 (.ref I) (.ref D) cenv) (fun r s'=>r=.ok .next∧∃ Φ',PH.le Φ Φ'∧At g (relS sc scope) cenv ⟨inhV σ scope,[(D,.lst ys)],inhF scope,[D]⟩ B₀ Φ' s') s)
  (hs:autoParam (∀ env x,foldedSetIterable iter env x=pure x) aR):Ev g d sc σ (.ListComp elt (⟨target,iter,ifs,0⟩::more) scope pos) (.lst ys):=fun A env Φ Ψ s r pr=>by
 rw[eval_ListComp]
 refine comp_core r pr h1 hi hB (fun cenv Φ s I o St fp B₀ D=>hbody A cenv Φ s I o St fp B₀ D r) (fun Φ' Ψ' D C o s' l hp rp hle hC hC' q0=>q0.elim fun es q0=>q0.elim fun ep q0=>q0.elim fun e1 e2=>?_) hs
 refine⟨nsFind es,⟨o,es,ep,hp.getΨ hC',e1,e2,fun _=>rfl⟩,fun h' sb=>?_⟩
 have hp2:Hp g Φ' (Ψ'.drop C) {s' with heap:=h'}:=hp.lose hC' (fun b ob hb e=>by rw[sb.2 b hb];exact e)
 exact⟨Φ',l,hp2.weaken (fun b ob e=>by
  have:b≠C:=fun q=>by rw[q,hC] at e;cases e
  rw[PH.drop_other _ this];exact hle _ _ e),rp⟩
theorem Ev.comp1 {elt target iter:PySem.Expr} {scope:Scope} {pos:Pos} {av:AV} {xs:List AV} (h:Nat→AV) (h1:Ev g d sc σ iter av) (hi:IterV g d av xs) (hB:compB sc scope=true) (hlen:xs.length≤10000)
  (turn:∀ i x,xs[i]?=some x→∃ vars',Turn g d (relS sc scope) (inhV σ scope) (inhF scope) target [] x vars' true∧∀ own mt,Ev g d (relS sc scope) ⟨vars',own,inhF scope,mt⟩ elt (h i))
  (hs:autoParam (∀ env x,foldedSetIterable iter env x=pure x) aR):Ev g d sc σ (.ListComp elt [⟨target,iter,[],0⟩] scope pos) (.lst ((List.range xs.length).map h)):=by
 have e:(List.range xs.length).map h=(List.range xs.length).flatMap (fun i=>[h i]):=by
  generalize List.range xs.length=l
  induction l with
  | nil=>rfl
  | cons a l ih=>rw[List.map_cons,List.flatMap_cons,ih];rfl
 rw[e]
 refine Ev.compG h1 hi hB (fun A cenv Φ s I o St fp B₀ D r=>comp1_body r (fun i=>[h i]) (by rw[←e];simpa using hlen) (fun i x hx=>?_) cenv Φ s I o St fp B₀ D) hs
 obtain⟨vars',ht,he⟩:=turn i x hx
 exact⟨vars',true,h i,ht,fun _=>⟨he,rfl⟩,fun q=>nomatch q⟩
theorem Ev.compIf {elt target iter c:PySem.Expr} {scope:Scope} {pos:Pos} {av:AV} {xs:List AV} (p:Nat→Bool) (h:Nat→AV) (h1:Ev g d sc σ iter av) (hi:IterV g d av xs) (hB:compB sc scope=true) (hlen:xs.length≤10000)
  (turn:∀ i x,xs[i]?=some x→∃ vars',Turn g d (relS sc scope) (inhV σ scope) (inhF scope) target [c] x vars' (p i)∧(p i=true→∀ own mt,Ev g d (relS sc scope) ⟨vars',own,inhF scope,mt⟩ elt (h i)))
  (hs:autoParam (∀ env x,foldedSetIterable iter env x=pure x) aR):Ev g d sc σ (.ListComp elt [⟨target,iter,[c],0⟩] scope pos) (.lst (((List.range xs.length).filter p).map h)):=by
 have e:((List.range xs.length).filter p).map h=(List.range xs.length).flatMap (fun i=>if p i then [h i] else []):=by
  generalize List.range xs.length=l
  induction l with
  | nil=>rfl
  | cons a l ih=>rw[List.filter_cons,List.flatMap_cons];cases hp:p a<;>simp[hp,ih]
 rw[e]
 refine Ev.compG h1 hi hB (fun A cenv Φ s I o St fp B₀ D r=>comp1_body r (fun i=>if p i then [h i] else []) ?_ (fun i x hx=>?_) cenv Φ s I o St fp B₀ D) hs
 ·rw[←e,List.length_map]
  have:=List.length_filter_le p (List.range xs.length)
  rw[List.length_range] at this;lia
 ·obtain⟨vars',ht,he⟩:=turn i x hx
  exact⟨vars',p i,h i,ht,fun hb=>⟨he hb,by rw[hb];rfl⟩,fun hb=>by rw[hb];rfl⟩
theorem comp2_body {elt target iter t2 i2:PySem.Expr} {ifs ifs2:List PySem.Expr} {scope:Scope} {pos:Pos} {xs:List AV} {vars:List (Str × AV)} {frz:List Str} (r:Room d A) (f:Nat→List AV) (hlen:((List.range xs.length).flatMap f).length≤10000)
  (turn:∀ i x,xs[i]?=some x→∃ vars' b,Turn g d sc vars frz target ifs x vars' b∧(b=false→f i=[])∧(b=true→∃ av2 xs2 f2,(∀ own mt,Ev g d sc ⟨vars',own,frz,mt⟩ i2 av2)∧IterV g d av2 xs2∧f i=(List.range xs2.length).flatMap f2 ∧
   ∀ j y,xs2[j]?=some y→∃ vars'' b2 av',Turn g d sc vars' frz t2 ifs2 y vars'' b2∧(b2=true→(∀ own mt,Ev g d sc ⟨vars'',own,frz,mt⟩ elt av')∧f2 j=[av'])∧(b2=false→f2 j=[])))
  (hs2:∀ env x,foldedSetIterable i2 env x=pure x)
  (cenv:Env) (Φ:PH) (s:Shared) (I:Addr) (o:Obj) (St:Nat→Heap→Prop) (fp:List Addr) (B₀:PH) (D:Addr) (it:Itr g I xs St fp Φ) (hI:B₀ I=none) (y:At g sc cenv ⟨vars,[(D,.lst [])],frz,[D]⟩ (B₀.put I o) Φ s) (st:St 0 s.heap) :
  codeAny (model PR g.w) A (.compStart (.ListComp elt [⟨target,iter,ifs,0⟩,⟨t2,i2,ifs2,0⟩] scope pos) 0 (.ref I) (.ref D) cenv) (fun r s'=>r=.ok .next∧∃ Φ',PH.le Φ Φ'∧At g sc cenv ⟨vars,[(D,.lst ((List.range xs.length).flatMap f))],frz,[D]⟩ B₀ Φ' s') s:=by
 refine start_list r it st ?_
 have:=comp_loop (elt:=elt) (gens:=[⟨target,iter,ifs,0⟩,⟨t2,i2,ifs2,0⟩]) (scope:=scope) (pos:=pos) (depth:=0) (D:=D) (vars:=vars) (frz:=frz) (zs0:=[]) r f it (turn_two0 elt target iter t2 i2 ifs ifs2 scope pos (.ref I) (.ref D) cenv) (fun i x hx=>?_) hI (by simpa using hlen) (PH.le.refl _) y st
 ·simpa using this
 ·refine box fun bX bk=>?_
  obtain⟨vars',b,ht,h2,h1⟩:=turn i x hx
  refine bk ?_
  clear bk bX
  refine⟨vars',b,ht.tgt,ht.know,ht.ifs,h2,fun hb B Φ s zs l y hz=>?_⟩
  refine box fun bX bk=>?_
  obtain⟨av2,xs2,f2,hi2,hit,hf,ht2⟩:=h1 hb
  refine bk ?_
  clear bk bX
  refine wpAny_bind ((hi2 _ _).at r y fun Φ₁ v s₁ l₁ y₁ r₁=>wpAny_bind (wpAny_standAt (wpAny_bind (wpAny_of_eq (hs2 cenv v) (wpAny_bind (wpAny_holding ?_))))))
  refine At.iter hit r y₁ r₁ fun I2 o2 St2 fp2 s₂ hB y₂ st2 it2=>?_
  refine wpAny_bind (wpAny_runOwn ?_)
  refine codeAny_mono (start_two1 r it2 st2 (comp_loop (elt:=elt) (gens:=[⟨target,iter,ifs,0⟩,⟨t2,i2,ifs2,0⟩]) (scope:=scope) (pos:=pos) (depth:=1) (D:=D) (vars:=vars') (frz:=frz) (zs0:=zs) r f2 it2 (turn_two1 elt target iter t2 i2 ifs ifs2 scope pos (.ref I2) (.ref D) cenv) (fun j y' hy=>?_) hB (by rw[←hf];exact hz) (PH.le.refl _) y₂ st2)) fun r' s' q=>?_
  ·refine box fun bX bk=>?_
   obtain⟨vars'',b2,av',ht',h3,h4⟩:=ht2 j y' hy
   refine bk ?_
   clear bk bX
   refine⟨vars'',b2,ht'.tgt,ht'.know,ht'.ifs,h4,fun hb2 B Φ s zs l y hz=>?_⟩
   refine box fun bX bk=>?_
   obtain⟨h5,h6⟩:=h3 hb2
   refine bk ?_
   clear bk bX
   rw[h6] at hz ⊢
   exact comp_emit r h5 y hz
  ·refine box fun bX bk=>?_
   obtain⟨rfl,Φ₃,l₃,y₃⟩:=q
   refine bk ?_
   clear bk bX
   exact wpAny_pure ⟨rfl,Φ₃,l₁.trans l₃,by rw[hf];exact y₃⟩
theorem Ev.comp2 {elt target iter t2 i2:PySem.Expr} {ifs ifs2:List PySem.Expr} {scope:Scope} {pos:Pos} {av:AV} {xs:List AV} (f:Nat→List AV) (h1:Ev g d sc σ iter av) (hi:IterV g d av xs) (hB:compB sc scope=true) (hlen:((List.range xs.length).flatMap f).length≤10000)
  (turn:∀ i x,xs[i]?=some x→∃ vars' b,Turn g d (relS sc scope) (inhV σ scope) (inhF scope) target ifs x vars' b∧(b=false→f i=[])∧(b=true→∃ av2 xs2 f2,(∀ own mt,Ev g d (relS sc scope) ⟨vars',own,inhF scope,mt⟩ i2 av2)∧IterV g d av2 xs2∧f i=(List.range xs2.length).flatMap f2 ∧
   ∀ j y,xs2[j]?=some y→∃ vars'' b2 av',Turn g d (relS sc scope) vars' (inhF scope) t2 ifs2 y vars'' b2∧(b2=true→(∀ own mt,Ev g d (relS sc scope) ⟨vars'',own,inhF scope,mt⟩ elt av')∧f2 j=[av'])∧(b2=false→f2 j=[])))
  (hs:autoParam (∀ env x,foldedSetIterable iter env x=pure x) aR) (hs2:autoParam (∀ env x,foldedSetIterable i2 env x=pure x) aR) :
  Ev g d sc σ (.ListComp elt [⟨target,iter,ifs,0⟩,⟨t2,i2,ifs2,0⟩] scope pos) (.lst ((List.range xs.length).flatMap f)):=
 Ev.compG h1 hi hB (fun A cenv Φ s I o St fp B₀ D r=>comp2_body r f hlen turn hs2 cenv Φ s I o St fp B₀ D) hs
theorem At.forget {C:Addr} {o:Obj} {h':Heap} (y:At g sc env σ (B.put C o) Φ s) (hC:B C=none) (hd:∃ es ep,o.data=.dict es ep) (ho:σ.own.lookup C=none) (sb:Heap.SameBut C s.heap h'):At g sc env σ B Φ {s with heap:=h'}:=by
 obtain⟨Ψ,pr,hb⟩:=y.pre
 have hΨ:=hb _ _ (PH.put_self B C o)
 have hp:=pr.hp.lose (tk:=s.toks) hΨ (h':=h') (fun b ob hb e=>by rw[sb.2 b hb];exact e)
 have z:=y.low (PH.le_put o hC)
 have hfr:∀ a,IsFr sc env σ.frz a→a≠C:=fun a fa q=>by rw[q] at fa;have:=(y.out C fa).1;rw[PH.put_self] at this;cases this
 refine⟨⟨Ψ.drop C,⟨pr.ev,hp,?_,fun a ov ea=>?_⟩,fun b ob e=>?_⟩,z.out,z.mine,z.cel,z.inj⟩
 ·obtain⟨fr,hf,hv⟩:=pr.fr
  refine⟨fr,⟨?_,fun w hy=>?_⟩,hv⟩
  ·obtain⟨ol,es,ep,e1,r1,r2,r3⟩:=hf.loc
   exact⟨ol,es,ep,by rw[PH.drop_other Ψ (hfr _ (.inl rfl))];exact e1,r1,r2,r3⟩
  ·obtain⟨c,oc,e1,e2,r⟩:=hf.cel w hy
   refine⟨c,oc,e1,e2.imp id fun e2=>?_,r⟩
   have:c≠C:=fun q=>by subst q;rw[hΨ] at e2;cases e2;obtain⟨es,ep,hv⟩:=hd;rw[hv] at r;cases r
   rw[PH.drop_other Ψ this];exact e2
 ·obtain⟨oo,e1,r⟩:=pr.own a ov ea
  have:a≠C:=fun q=>by rw[q,ho] at ea;cases ea
  exact⟨oo,by rw[PH.drop_other Ψ this];exact e1,r⟩
 ·have:b≠C:=fun q=>by rw[q,hC] at e;cases e
  rw[PH.drop_other Ψ this];exact hb _ _ (PH.le_put o hC _ _ e)
theorem Bk.assignComp {elt target iter:PySem.Expr} {ifs:List PySem.Expr} {more:List Comprehension} {scope:Scope} {pos p spos:Pos} {av:AV} {xs ys:List AV} {x:Str} (r:Room d A)
  (hsw:∀ env,env.scope=sc→swapsWith (.ListComp elt (⟨target,iter,ifs,0⟩::more) scope pos) (some (.Name x p)) spos.line env=pure true) (hx:stB sc σ x=true)
  (h1:Ev g d sc σ iter av) (hi:IterV g d av xs) (hB:compB sc scope=true)
  (hbody:∀ A cenv Φ s I o St fp B₀ D,Room d A→Itr g I xs St fp Φ→B₀ I=none→At g (relS sc scope) cenv ⟨inhV σ scope,[(D,.lst [])],inhF scope,[D]⟩ (B₀.put I o) Φ s→St 0 s.heap →
   codeAny (model PR g.w) A (.compStart (.ListComp elt (⟨target,iter,ifs,0⟩::more) scope pos) 0 (.ref I) (.ref D) cenv) (fun r s'=>r=.ok .next∧∃ Φ',PH.le Φ Φ'∧At g (relS sc scope) cenv ⟨inhV σ scope,[(D,.lst ys)],inhF scope,[D]⟩ B₀ Φ' s') s)
  (k:Bk g sc env A Φ₀ B (σ.put x (.lst ys)) rest Q) (hs:autoParam (∀ env x,foldedSetIterable iter env x=pure x) aR) :
  Bk g sc env A Φ₀ B σ (.Assign [.Name x p] (.ListComp elt (⟨target,iter,ifs,0⟩::more) scope pos) spos::rest) Q:=.step fun Φ s l y=>by
 obtain⟨Ψ,pr,hb⟩:=y.pre
 rw[exec_Assign_Name_used _ _ _ _ (hsw env pr.ev.scE)]
 refine wpAny_bind (wpAny_standAt (wpAny_bind ?_))
 show W g.w A (do let _ ←comprehension (.ListComp elt (⟨target,iter,ifs,0⟩::more) scope pos) scope env _ (PySem.newList []) false (eval iter env) (some (PySem.assign (.Name x p) env))) _ s
 refine wpAny_bind (wpAny_mono (comp_core (use:=some (PySem.assign (.Name x p) env)) (Q:=fun _ s'=>cont g env A rest Q .next s') r pr h1 hi hB (fun cenv Φ s I o St fp B₀ D=>hbody A cenv Φ s I o St fp B₀ D r) (fun Φ' Ψ' D C o s' l' hp rp hle hC hC' q0=>q0.elim fun es q0=>q0.elim fun ep q0=>q0.elim fun e1 e2=>?_) hs) (fun _ s' hq=>wpAny_pure (wpAny_pure hq)) fun _ _ e=>e)
 have hBC:B C=none:=by
  cases q:B C with
  | none=>rfl
  | some ob=>rw[hb _ _ q] at hC;cases hC
 have y':At g sc env σ B Φ' s':=by
  refine y.change (mt:=[]) pr hb l' hp (fun a o _ e=>hle _ _ e) (fun a h=>nomatch h) (fun a ov e=>?_) (fun a ov e=>.inl (by rw[e];rfl)) (fun a ha=>⟨.inl ha,(y.mine a ha).2⟩)
  obtain⟨ob,z1,z2⟩:=pr.own a ov e
  exact⟨ob,hle _ _ z1,z2.mono l'⟩
 have hoC:σ.own.lookup C=none:=by
  cases q:σ.own.lookup C with
  | none=>rfl
  | some ov=>obtain⟨ob,z1,_⟩:=pr.own C ov q;rw[hC] at z1;cases z1
 have frn:∀ a,IsFr sc env σ.frz a→a≠C:=fun a fa q=>by
  obtain⟨fr,hf,_⟩:=pr.fr
  rcases fa with z | ⟨w,z1,z2,z3⟩
  ·obtain⟨ol,_,_,w1,_⟩:=hf.loc
   rw[←z,q,hC] at w1;cases w1
  ·have h0:=y.cel w a z1 z2 z3
   have:=pr.owned (.inr ⟨w,z1,z2,z3⟩) h0
   rw[q,hC] at this;cases this
 have y'':At g sc env σ (B.put C o) Φ' s':=by
  obtain⟨Ψ2,pr2,hb2⟩:=y'.pre
  refine⟨⟨Ψ',⟨(let ⟨_,q,_⟩:=y'.pre;q.ev),hp,?_,?_⟩,fun b ob e=>?_⟩,fun a fa=>⟨by rw[PH.put_other _ _ (frn a fa)];exact(y.out a fa).1,(y.out a fa).2⟩,fun a ha=>⟨?_,(y.mine a ha).2⟩,y'.cel,y'.inj⟩
  ·obtain⟨fr,hf,hv⟩:=pr.fr
   refine⟨fr,⟨?_,fun w hw=>?_⟩,hv.mono l'⟩
   ·obtain⟨ol,es,ep,w1,r1,r2,r3⟩:=hf.loc
    exact⟨ol,es,ep,hle _ _ w1,r1,r2,r3⟩
   ·obtain⟨c,oc,z1,z2,z3⟩:=hf.cel w hw
    exact⟨c,oc,z1,z2.imp (l' _ _) (hle _ _),z3⟩
  ·intro a ov e
   obtain⟨ob,z1,z2⟩:=pr.own a ov e
   exact⟨ob,hle _ _ z1,z2.mono l'⟩
  ·by_cases q:b=C
   ·subst q;rw[PH.put_self] at e;cases e;exact hC'
   ·rw[PH.put_other _ _ q] at e;exact hle _ _ (hb _ _ e)
  ·have:a≠C:=fun q=>by
    have:=(y.mine a ha).2
    rw[q,hoC] at this;cases this
   rw[PH.put_other _ _ this];exact(y.mine a ha).1
 show W g.w A (PySem.assign (.Name x p) env (.ref D)) _ s'
 refine wpAny_assign_Name (y''.store hx rp fun s3 y3=>?_)
 have e3:s3.heap.get? C=some o:=y3.getB (PH.put_self _ _ _)
 refine⟨nsFind es,⟨o,es,ep,e3,e1,e2,fun _=>rfl⟩,fun h' sb=>?_⟩
 exact k Φ' _ (l.trans l') (y3.forget hBC ⟨es,ep,e1⟩ hoC sb)
end
section
variable {g:Glob} {d:Nat} {sc:Scope} {σ:Sig} {env:Env} {A:Around} {Φ Ψ Φ₀ B:PH} {s:Shared} {ω:Ow}
theorem MPost.freezeI {C:Addr} {fs:List (Str × AV)} {v:Value} {s':Shared} (h:MPost g Φ Ψ [] [] (NewI C fun dd ω'=>ω'=[(dd,.dict fs)]) v s'):Ret g Φ Ψ (.obj C fs) v s':=by
 refine box fun bX bk=>?_
 obtain⟨Φ',Ψ',av',ω',l,hp,how,keep,rp,hP,new⟩:=h
 refine bk ?_
 clear bk bX
 obtain⟨dd,rfl,rfl⟩:=hP (fun av ω'=>∃ dd,av=instAV C dd∧ω'=[(dd,.dict fs)]) fun dd _ p=>⟨dd,rfl,p⟩
 refine box fun bX bk=>?_
 obtain⟨o,e,es,n,h5,h6,h8,hf,h7⟩:=how dd _ lk_eq
 refine bk ?_
 clear bk bX
 have hd:Ψ dd=none:=(new dd _ lk_eq).resolve_left (by simp)
 have hΦ:Φ' dd=none:=(hp.dis dd).resolve_right (by rw[e];exact fun e=>nomatch e)
 have l2:PH.le Φ' (Φ'.put dd o):=PH.le_put o hΦ
 obtain⟨x,rfl,hx⟩:=inst_inv rp
 refine⟨Φ'.put dd o,l.trans l2,(hp.freeze e).weaken fun a ob ea=>?_,?_⟩
 ·have:a≠dd:=fun q=>by rw[q,hd] at ea;cases ea
  rw[PH.drop_other _ this];exact keep a ob (by simp) ea
 ·exact⟨x,_,dd,o,es,n,rfl,l2 _ _ hx,rfl,rfl,rfl,PH.put_self _ _ _,h5,h6,h8,RepF.mono l2 _ _ hf,h7⟩
theorem FnM.freezeI {C:Addr} {fs:List (Str × AV)} {f:Value} {args:List AV} {kw:List (Str × AV)} (h:FnM g d [] [] f args kw (NewI C fun dd ω'=>ω'=[(dd,.dict fs)])):Fn g d ω f args kw (.obj C fs):=fun A Φ Ψ s vs ks r hp _ ra e rk=>
 (h A Φ Ψ s vs ks r hp Owns.nil ra e rk).mono fun v s' q=>MPost.freezeI q
theorem Ev.callKw1 {id name:Str} {p pos kp:Pos} {f:Value} {e:PySem.Expr} {a c:AV} (h1:Ev g d sc σ (.Name id p) (.raw f)) (hk:Keep g f) (h:Ev g d sc σ e a) (hfn:Fn g d σ.own f [] [(name,a)] c):Ev g d sc σ (.Call (.Name id p) [] [⟨some name,e,kp⟩] pos) c:=fun A env Φ Ψ s r x=>by
 rw[arm_eval_Call_Name']
 refine wpAny_bind (h1.run r x fun Φ₁ v s₁ l₁ x₁ r₁=>?_)
 replace r₁:_=_:=r₁
 subst r₁
 refine callWith_of (P:=fun h=>∃ k,(k=Keeper.frame∨k=Keeper.machine∨k=Keeper.boundFrame)∧Looks (model PR g.w) h (keeperOf v) k) rfl (fun h q=>q) ?_
 refine evalArgs_kw_nil rfl ?_
 refine kwAll_cons (h.run r x₁ fun Φ₂ u s₂ l₂ x₂ r₂=>kwAll_nil ⟨hk Φ₂ Ψ s₂ x₂.hp,?_⟩)
 exact W.mono (hfn A Φ₂ Ψ s₂ [] [(name,u)] r x₂.hp x₂.own repL_nil rfl (repL_cons r₂ repL_nil)) fun _ _ q=>Ret.up (l₁.trans l₂) q
end
section
variable {w:World} {A:Around} {E:Value→Shared→Prop} {s:Shared}
theorem entry_set_getattribute:entryFor table "set.__getattribute__"=some Builtin.«object.__getattribute__»:=
 entryFor_alias (id':="object.__getattribute__") (by kernel_rfl) (by decide +kernel) (by decide +kernel) (by kernel_rfl)
noncomputable def boundIn (S:Addr):Obj:={cls:=.type "builtin_function_or_method",data:=.fields #[.builtin "set.__contains__",.ref S]}
theorem args_set_getattribute_2 (a b:Value):argsOk "set.__getattribute__" ⟨[a,b],[]⟩:=by unfold argsOk;kernel_rfl
theorem lookup_set_contains:typeLookup (.type "set") ("__contains__":Str)=pure (some (.builtin "set.__contains__")):=PySem.F.slot_set_contains.lookup
theorem slot_md_get:Slot "method_descriptor" "__get__" "method_descriptor.__get__":=
 .of (owner:="method_descriptor") (n:="__get__") (by rw[typeLookup_type,builtinLookup_eq_fast];kernel_rfl) (by decide +kernel) (by decide +kernel) (by decide +kernel)
  (by first | exact .inl (by decide +kernel) | exact .inr (by decide +kernel)) (by rw[isSubtype_type];kernel_rfl)
theorem entry_md_get:entryFor table "method_descriptor.__get__"=some Builtin.«method_descriptor.__get__»:=entryFor_of_tree (by kernel_rfl)
theorem args_md_get (a b c:Value):argsOk "method_descriptor.__get__" ⟨[a,b,c],[]⟩:=by unfold argsOk;kernel_rfl
theorem md_noset:typeLookup (.type "method_descriptor") "__set__"=pure none:=by rw[typeLookup_type,builtinLookup_eq_fast];kernel_rfl
theorem md_nodel:typeLookup (.type "method_descriptor") "__delete__"=pure none:=by rw[typeLookup_type,builtinLookup_eq_fast];kernel_rfl
theorem sub_set_set:isSubtype (.type "set") (.type "set")=pure true:=by rw[isSubtype_type];kernel_rfl
theorem told_no:Manifest.toldItsClass.contains "set.__contains__"=false:=by first | decide +kernel | kernel_rfl
theorem run_md_get {S:Addr} {P:Fin→Shared→Prop} (hT:s.TypeIs (.ref S) "set") (h:P (.done (.ret (.ref s.heap.objs.size))) {s with heap:=s.heap.push (boundIn S)}) {prog:Program} {E:Value→Shared→Prop} :
  wpAny (model prog w) A (Builtin.«method_descriptor.__get__» ⟨[.builtin "set.__contains__",.ref S,.type "set"],[]⟩) P E s:=by
 unfold Builtin.«method_descriptor.__get__»
 refine wpAny_bind (wpAny_of_eq (a:=(.builtin "set.__contains__",some (.ref S),some (.type "set"))) (by first | rfl | kernel_rfl) ?_)
 dsimp only
 rw[told_no]
 first | refine PySem.W.KFB.if_not rfl ?_ | simp only[Bool.false_eq_true,if_false]
 refine wpAny_bind (wpAny_bind (wpAny_of_eq (a:=(("__contains__":Str),.type "set")) (by first | rfl | kernel_rfl) ?_))
 dsimp only
 refine wpAny_bind (wpAny_isInstance hT sub_set_set ?_)
 first | refine PySem.W.KFB.if_not rfl ?_ | simp only[Bool.not_true,Bool.false_eq_true,if_false]
 refine wpAny_pure ?_
 exact wpAny_bind (wpAny_newObj_type (wpAny_pure h))
theorem meets_set_getattr (S:Addr) (u:Tok):Meets (Builtin.«object.__getattribute__» ⟨[.ref S,.str ("__contains__":Str) u],[]⟩) (fun A R s=>(∃ es ep t,s.heap.get? S=some {cls:=.type "set",dict:=none,data:=.set es ep t,slots:=#[]})∧R (.ok (.ret (.ref s.heap.objs.size))) {s with heap:=s.heap.push (boundIn S)}):=
 Meets.of_wp fun prog w A R s hs=>by
  refine box fun bX bk=>?_
  obtain⟨hp,g,d,tk,os⟩:=s
  obtain⟨⟨es,ep,t,hx⟩,hs⟩:=hs
  refine bk ?_
  clear bk bX
  have hT:(⟨hp,g,d,tk,os⟩:Shared).TypeIs (.ref S) "set":=⟨_,hx,rfl⟩
  have f1:=lookup_set_contains
  have f2:=PySem.F.type_set_contains
  have f3:=slot_md_get.lookup
  have f4:=md_noset
  have f5:=md_nodel
  unfold Builtin.«object.__getattribute__»
  repeat (any_goals (first | assumption | wp_step))
  refine codeAny_call_builtin slot_md_get.plain entry_md_get (slot_md_get.check _ _ _ _ _ _ _ _ f2 (args_md_get _ _ _) (run_md_get hT ?_))
  exact wpAny_pure ⟨_,rfl,hs⟩
theorem getattr_set_contains {prog:Program} {S:Addr} {Q:Value→Shared→Prop} (hx:∃ es ep t,s.heap.get? S=some {cls:=.type "set",dict:=none,data:=.set es ep t,slots:=#[]})
  (h:Q (.ref s.heap.objs.size) {s with heap:=s.heap.push (boundIn S),toks:=s.toks+1}):wpAny (model prog w) A (getAttr (.ref S) ("__contains__":Str) true) Q E s:=by
 obtain⟨es,ep,t,hx⟩:=hx
 obtain⟨hp,g,d,tk,os⟩:=s
 have hT:∀ tk',(⟨hp,g,d,tk',os⟩:Shared).TypeIs (.ref S) "set":=fun _=>⟨_,hx,rfl⟩
 have f3:=PySem.F.slot_set_getattribute.lookup
 have f4:=PySem.F.slot_set_getattribute.bind (.ref S)
 unfold getAttr getAttrBy
 repeat (any_goals (first | assumption | exact hT _ | ((with_reducible show wpAny _ _ (call (Value.builtin "set.__getattribute__") _ _) _ _ _);refine call_meets PySem.F.slot_set_getattribute (hT _) entry_set_getattribute (args_set_getattribute_2 _ _) (meets_set_getattr S _) ⟨⟨es,ep,t,hx⟩,?_⟩) | wp_step))
 exact wpAny_pure h
end
section
variable {w:World} {A:Around} {E:Value→Shared→Prop} {s:Shared} {prog:Program}
theorem sub_set_module:isSubtype (.type "set") (.type "module")=pure false:=by rw[isSubtype_type];kernel_rfl
theorem kind_set_contains:builtinKind "set.__contains__"=some .method:=by kernel_rfl
theorem sig_set_contains:Manifest.signature? "set.__contains__"=some {machinery:=.oneArg,full:="set.__contains__",short:="__contains__",receiver:=.self,params:=[{name:="object",kind:=.posOnly,required:=true}]}:=by
 rw[signature?_of (id:="set.__contains__") (n:=['_','_','s','n','i','a','t','n','o','c','_','_']) (o:=['t','e','s']) (by kernel_rfl) PySem.F.owner_set];kernel_rfl
theorem varargs_contains:Manifest.varargsMethods.contains "set.__contains__"=false:=by first | decide +kernel | kernel_rfl
theorem last_set:(Bind.lastOf "set":String)="set":=by first | decide +kernel | kernel_rfl | (unfold Bind.lastOf;simp +decide [String.splitOn,String.splitOnAux])
theorem last_contains:(Bind.lastOf "set.__contains__":String)="__contains__":=by first | decide +kernel | kernel_rfl | (unfold Bind.lastOf;simp +decide [String.splitOn,String.splitOnAux])
theorem check_bound_contains {S:Addr} {v:Value} {es:Array (Int × Value)} {ep:Nat} {t:SetTable} {Q:Unit→Shared→Prop} (hx:s.heap.get? S=some {cls:=.type "set",dict:=none,data:=.set es ep t,slots:=#[]}) (h:Q () s):wpAny (model prog w) A (checkBoundCall "set.__contains__" ⟨[.ref S,v],[]⟩) Q E s:=by
 have hT:s.TypeIs (.ref S) "set":=⟨_,hx,rfl⟩
 unfold checkBoundCall
 rw[sig_set_contains]
 dsimp only
 rw[kind_set_contains]
 dsimp only
 rw[if_neg (by decide)]
 refine wpAny_bind (wpAny_isInstance hT sub_set_module ?_)
 rw[varargs_contains]
 refine PySem.W.KFB.if_not rfl ?_
 refine wpAny_bind (m:=isType (.ref S)) ?_
 refine wpAny_mono (Q:=fun b s'=>b=false∧s'=s) (E:=fun _ _=>False) ?_ ?_ (fun _ _ e=>e.elim)
 ·unfold isType
  obtain⟨hp,g,d,tk,os⟩:=s
  repeat (first | assumption | wp_step)
  exact⟨rfl,rfl⟩
 ·rintro b s' ⟨rfl,rfl⟩
  first | refine PySem.W.KFB.if_not rfl ?_ | refine PySem.W.KFB.if_not rfl ?_
  refine wpAny_bind (wpAny_typeOf hT ?_)
  dsimp only
  have e:(toString (Bind.lastOf "set")++toString "."++toString (Bind.lastOf "set.__contains__"):String)="set.__contains__":=by rw[last_set,last_contains];decide
  rw[e]
  have z:=PySem.F.args_set_contains_2 (.ref S) v
  unfold argsOk at z
  rw[sig_set_contains] at z
  dsimp only at z
  rw[z]
  exact wpAny_pure h
theorem entry_contains:entryFor table "set.__contains__"=some Builtin.«frozenset.__contains__»:=PySem.entry_set_contains
theorem quiet_contains {as:Args}:(Code.builtin "set.__contains__" as).quiet=true:=Code.quiet_builtin _ (by decide +kernel)
theorem call_bound_contains {K:Type} [DecidableEq K] {knd:PySem.KeyKind prog w K} {S Bd:Addr} {k:K} {key:Value} {f:K→Bool} {n:Nat} {Q:Value→Shared→Prop} (hb:s.heap.get? Bd=some (boundIn S)) (hkey:knd.is k key=true) (hsc:key.scannable=true) (hS:s.heap.SetOf knd S f n)
  (h:Q (.bool (f k)) {s with toks:=s.toks+1}):wpAny (model prog w) A (call (.ref Bd) [key]) Q E s:=by
 refine wpAny_call (codeAny_of_tree ?_)
 show wpAny _ A.in1 (callAny (.ref Bd) ⟨[key],[]⟩) _ _ s
 unfold callAny
 refine wpAny_bind (wpAny_load hb ?_)
 simp -iota only[boundIn,show(Value.type "builtin_function_or_method"==Value.type "method"||Value.type "builtin_function_or_method"==Value.type "builtin_function_or_method"||Value.type "builtin_function_or_method"==Value.type "method-wrapper")=true by decide,if_true]
 refine PySem.W.KFB.if_so (by decide) ?_
 refine box fun bX bk=>?_
 obtain⟨o,es,ep,t,ho,hex,hd,hrest⟩:=id hS
 obtain⟨c,dct,dat,sl⟩:=o
 obtain⟨h1,h2,h3⟩:=hex
 refine bk ?_
 clear bk bX
 dsimp only at h1 h2 h3 hd
 subst h1 h2 h3 hd
 refine wpAny_bind (check_bound_contains ho ?_)
 refine wpAny_bind (wpAny_pure (wpAny_pure ?_))
 refine⟨quiet_contains,codeAny_builtin entry_contains ?_⟩
 show wpAny _ _ (Builtin.«frozenset.__contains__» ⟨[.ref S,key],[]⟩) _ _ s
 unfold Builtin.«frozenset.__contains__» Builtin.Frozenset.oneOther
 rw[List.isEmpty_nil,bind_assoc]
 unfold Builtin.Frozenset.addrOf Builtin.Frozenset.withSetAsKey setContains
 refine wpAny_bind (wpAny_pure ?_)
 try dsimp only
 refine wpAny_bind (wpAny_pure ?_)
 try dsimp only
 refine wpAny_bind (wpAny_tryCatch ?_)
 refine wpAny_holding ?_
 refine wpAny_bind (knd.pyHash hkey ?_)
 refine wpAny_bind (wpAny_setFind_of (s:={s with toks:=s.toks+1}) hkey hsc hS fun r hr=>?_)
 refine wpAny_pure ?_
 show wpAny _ _ (ret (Value.bool r.isSome)) _ _ _
 rw[hr]
 exact wpAny_pure h
theorem slot_filter_iter:Slot "filter" "__iter__" "filter.__iter__":=
 .of (owner:="filter") (n:="__iter__") (by rw[typeLookup_type,builtinLookup_eq_fast];kernel_rfl) (by decide +kernel) (by decide +kernel) (by decide +kernel)
  (by first | exact .inl (by decide +kernel) | exact .inr (by decide +kernel)) (by rw[isSubtype_type];kernel_rfl)
theorem slot_filter_next:Slot "filter" "__next__" "filter.__next__":=
 .of (owner:="filter") (n:="__next__") (by rw[typeLookup_type,builtinLookup_eq_fast];kernel_rfl) (by decide +kernel) (by decide +kernel) (by decide +kernel)
  (by first | exact .inl (by decide +kernel) | exact .inr (by decide +kernel)) (by rw[isSubtype_type];kernel_rfl)
theorem slot_filter_init:Slot "filter" "__init__" "object.__init__":=
 .of (owner:="object") (n:="__init__") (by rw[typeLookup_type,builtinLookup_eq_fast];kernel_rfl) (by decide +kernel) (by decide +kernel) (by decide +kernel)
  (by first | exact .inl (by decide +kernel) | exact .inr (by decide +kernel)) (by rw[isSubtype_type];kernel_rfl)
theorem entry_filter_next:entryFor table "filter.__next__"=some Builtin.«filter.__next__»:=entryFor_of_tree (by kernel_rfl)
theorem entry_filter_iter:entryFor table "filter.__iter__"=some Builtin.«dict_keyiterator.__iter__»:=
 entryFor_alias (id':="dict_keyiterator.__iter__") (by kernel_rfl) (by first | rfl | decide +kernel | (unfold String.splitOn;simp +decide [String.splitOnAux])) (by decide +kernel) (by kernel_rfl)
theorem entry_filter_new:entryFor table "filter.__new__"=some Builtin.«filter.__new__»:=entryFor_of_tree (by kernel_rfl)
theorem args_filter_next_1 (a:Value):argsOk "filter.__next__" ⟨[a],[]⟩:=by unfold argsOk;kernel_rfl
theorem args_filter_iter_1 (a:Value):argsOk "filter.__iter__" ⟨[a],[]⟩:=by unfold argsOk;kernel_rfl
theorem mro_filter:mroOf (.type "filter")=pure [.type "filter",.type "object"]:=by rw[mroOf_type];kernel_rfl
theorem lookup_filter_new:typeLookup (.type "filter") "__new__"=pure (some (.builtin "filter.__new__")):=by rw[typeLookup_type,builtinLookup_eq_fast];kernel_rfl
theorem called_filter:TypeCalled "filter" "filter.__new__" "object.__init__":=
 ⟨by decide +kernel,by decide +kernel,⟨_,_,mro_filter⟩,madeBy_type mro_filter lookup_filter_new (by decide +kernel),by decide +kernel,by rw[isSubtype_type];kernel_rfl,slot_filter_init⟩
theorem typeCall_filter_2 (a b:Value):checkTypeCall "filter" ⟨[a,b],[]⟩=pure ():=by kernel_rfl
theorem newCall_filter_2 (a b:Value):checkBuiltinCall "filter.__new__" ⟨[.type "filter",a,b],[]⟩=pure ():=by kernel_rfl
theorem sub_filter:isSubtype (.type "filter") (.type "filter")=pure true:=by rw[isSubtype_type];kernel_rfl
theorem filter_no_len:typeLookup (.type "filter") "__len__"=pure none:=by rw[typeLookup_type,builtinLookup_eq_fast];kernel_rfl
theorem filter_no_hint:typeLookup (.type "filter") "__length_hint__"=pure none:=by rw[typeLookup_type,builtinLookup_eq_fast];kernel_rfl
theorem plain_filter_next:plainId "filter.__next__"=true:=by decide +kernel
noncomputable abbrev IsFilter (h:Heap) (F B I:Addr):Prop:=h.get? F=some {cls:=.type "filter",dict:=none,data:=.fields #[.ref B,.ref I],slots:=#[]}
theorem pyIter_filter {F B I:Addr} {Q:Value→Shared→Prop} (hz:IsFilter s.heap F B I) (h:Q (.ref F) s):wpAny (model prog w) A (pyIter (.ref F)) Q E s:=by
 have hT:s.TypeIs (.ref F) "filter":=⟨_,hz,rfl⟩
 refine wpAny_pyIter_slot hT slot_filter_iter (wpAny_call_entry slot_filter_iter hT entry_filter_iter ?_ (args_filter_iter_1 _))
 show wpAny _ _ (ret (.ref F)) _ _ s
 exact wpAny_pure ⟨_,rfl,"filter",_,hT,slot_filter_next.lookup,h⟩
theorem meets_filter_new (B l:Addr) (xs:Array Value) :
  Meets (Builtin.«filter.__new__» ⟨[.type "filter",.ref B,.ref l],[]⟩) (fun _ R s=>s.heap.IsList l xs ∧
   R (.ok (.ret (.ref (s.heap.objs.size+1)))) {s with heap:=(s.heap.push {cls:=.type "list_iterator",data:=.fields #[.ref l,.int 0 0]}).push {cls:=.type "filter",data:=.fields #[.ref B,.ref s.heap.objs.size]}}):=
 .of_wp fun prog w A R s h=>by
  obtain⟨hp,g,d,tk,os⟩:=s;obtain⟨hl1,h⟩:=h
  have hsub:=sub_filter
  have hL1:Heap.IsList (Shared.heap ⟨hp,g,d,tk,os⟩) l xs:=hl1
  wp_walk using wpAny_pyIter_list hL1
  have e:(hp.push {cls:=.type "list_iterator",data:=.fields #[.ref l,.int 0 0]}).objs.size=hp.objs.size+1:=Heap.size_push ..
  refine⟨_,rfl,?_⟩
  rw[e]
  exact h
theorem call_filter {B l:Addr} {xs:Array Value} {Q:Value→Shared→Prop} (hl:s.heap.IsList l xs)
  (h:∀ h',IsFilter h' (s.heap.objs.size+1) B s.heap.objs.size→h'.IsListIter s.heap.objs.size l 0→h'.objs.size=s.heap.objs.size+2 →
   (∀ c o,s.heap.get? c=some o→h'.get? c=some o)→Q (.ref (s.heap.objs.size+1)) {s with heap:=h'}) :
  wpAny (model prog w) A (call (.type "filter") [.ref B,.ref l]) Q E s:=by
 refine callType_new called_filter (by decide) (typeCall_filter_2 _ _) (newCall_filter_2 _ _) (fun obj=>PySem.F.args_object_init_3 obj _ _) entry_filter_new (meets_filter_new B l xs) ⟨hl,?_⟩
 have hz:(s.heap.push {cls:=.type "list_iterator",data:=.fields #[.ref l,.int 0 0]}).objs.size=s.heap.objs.size+1:=Heap.size_push ..
 have he:=Heap.get?_push_size (s.heap.push {cls:=.type "list_iterator",data:=.fields #[.ref l,.int 0 0]}) (o:={cls:=.type "filter",data:=.fields #[.ref B,.ref s.heap.objs.size]}) rfl
 rw[hz] at he
 exact⟨⟨_,he,rfl⟩,h _ he ⟨_,Heap.get?_push_of_some _ (Heap.get?_push_size _ rfl),rfl,rfl⟩ (by rw[Heap.size_push,hz]) fun b o x=>Heap.get?_push_of_some _ (Heap.get?_push_of_some _ x)⟩
theorem callNext_item {it l:Addr} {i:Nat} {items} {x:Value} {Q:Option Value→Shared→Prop} (hit:s.heap.IsListIter it l i) (hl:s.heap.IsList l items) (hx:items[i]?=some x)
  (hQ:∀ h',h'.IsListIter it l (i+1)→Heap.SameBut it s.heap h'→Q (some x) {s with heap:=h'}):wpAny (model prog w) A (callSpecial? (.ref it) "__next__") Q E s:=by
 refine box fun bX bk=>?_
 obtain⟨o,ho,hc,hd⟩:=id hit
 obtain⟨ol,hol,_,nl,hdl⟩:=hl
 refine bk ?_
 clear bk bX
 refine wpAny_callSpecial?_slot (name:=Str.ofString "__next__") hit.typeIs slot_listiter_next (wpAny_call_entry slot_listiter_next hit.typeIs entry_listiter_next ?_ (args_listiter_next _))
 show wpAny _ _ (field (.ref it) 0>>=_) _ _ s
 refine wpAny_bind (wpAny_field ho hd (x:=.ref l) rfl ?_)
 show wpAny _ _ (if (Value.ref l==Value.none)=true then _ else _) _ _ s
 rw[if_neg (show ¬ ((Value.ref l==Value.none)=true) from Bool.false_ne_true)]
 show wpAny _ _ (field (.ref it) 1>>=_) _ _ s
 refine wpAny_bind (wpAny_field ho hd (x:=.int i 0) rfl ?_)
 show wpAny _ _ (seqItems? (.ref l)>>=_) _ _ s
 refine wpAny_bind (wpAny_seqItems hol hdl ?_)
 simp only[Int.toNat_natCast,hx]
 refine wpAny_bind (wpAny_setField ho hd (by simp) (wpAny_pure ⟨x,rfl,hQ _ ?_ (Heap.SameBut.update ..)⟩))
 exact⟨_,Heap.get?_update_self _ ho (Obj.isFreed_of_fields (Obj.data_mapFields hd _)),(Obj.cls_mapFields ..).trans hc,by
  rw[Obj.data_mapFields hd];simp[rawInt]⟩
theorem callNext_end {it l:Addr} {i:Nat} {items} {Q:Option Value→Shared→Prop} (hh:A.handled=none) (hit:s.heap.IsListIter it l i) (hl:s.heap.IsList l items) (hx:items[i]?=none)
  (hE:∀ h' e,Heap.ExtBut it s.heap h'→(∃ o,h'.get? e=some o∧o.cls=.type "StopIteration")→E (.ref e) {s with heap:=h'}):wpAny (model prog w) A (callSpecial? (.ref it) "__next__") Q E s:=by
 refine box fun bX bk=>?_
 obtain⟨o,ho,hc,hd⟩:=id hit
 obtain⟨ol,hol,_,nl,hdl⟩:=hl
 refine bk ?_
 clear bk bX
 refine wpAny_callSpecial?_slot (name:=Str.ofString "__next__") hit.typeIs slot_listiter_next (wpAny_call_entry slot_listiter_next hit.typeIs entry_listiter_next ?_ (args_listiter_next _))
 show wpAny _ _ (field (.ref it) 0>>=_) _ _ s
 refine wpAny_bind (wpAny_field ho hd (x:=.ref l) rfl ?_)
 show wpAny _ _ (if (Value.ref l==Value.none)=true then _ else _) _ _ s
 rw[if_neg (show ¬ ((Value.ref l==Value.none)=true) from Bool.false_ne_true)]
 show wpAny _ _ (field (.ref it) 1>>=_) _ _ s
 refine wpAny_bind (wpAny_field ho hd (x:=.int i 0) rfl ?_)
 show wpAny _ _ (seqItems? (.ref l)>>=_) _ _ s
 refine wpAny_bind (wpAny_seqItems hol hdl ?_)
 simp only[Int.toNat_natCast,hx]
 refine wpAny_bind (wpAny_rule (wpAny_bind (wpAny_setField ho hd (by simp) ?_)))
 show wpAny _ _ (newExc (.type "StopIteration") []>>=_) _ _ _
 refine wpAny_bind ?_
 rw[newExc,newTuple]
 refine wpAny_bind (wpAny_newObj_type ?_ (by size_fits))
 refine wpAny_bind (m:=firstArgMember _ _) (wpAny_of_eq (a:=Value.none) (by first | rfl | (unfold firstArgMember;rfl)) ?_)
 refine wpAny_newObj_type ?_ (by size_fits)
 unfold raiseNew
 refine wpAny_bind (wpAny_handled ?_)
 first | rw[show A.in1.handled=none from hh] | rw[hh]
 refine wpAny_bind (wpAny_pure (wpAny_throw ?_))
 exact hE _ _ (((Heap.SameBut.update ..).extBut.push _).push _) ⟨_,Heap.get?_push_size _ rfl,rfl⟩
end
section
variable {w:World} {A:Around} {E:Value→Shared→Prop} {s:Shared}
structure FAt (w:World) (l0:List (Str × Tok)) (p:Str→Bool) (n:Nat) (F B I l S:Addr) (j:Nat) (s:Shared):Prop where
 f:IsFilter s.heap F B I
 i:s.heap.IsListIter I l j
 l:s.heap.IsList l (strValues l0).toArray
 b:s.heap.get? B=some (boundIn S)
 s:s.heap.SetOf (PySem.strKind PR w) S p n
noncomputable abbrev GEq:Array GenState→Array GenState→Prop:=fun a b=>b=a
theorem FAt.step {l0:List (Str × Tok)} {p:Str→Bool} {n:Nat} {F B I l S:Addr} {j j':Nat} {s s':Shared} (x:FAt w l0 p n F B I l S j s) (hne:F≠I∧B≠I∧l≠I∧S≠I) (hi:s'.heap.IsListIter I l j') (hk:∀ b o,b≠I→s.heap.get? b=some o→s'.heap.get? b=some o):FAt w l0 p n F B I l S j' s':=by
 refine⟨hk _ _ hne.1 x.f,hi,x.l.at fun o e=>hk _ _ hne.2.2.1 e,hk _ _ hne.2.1 x.b,?_⟩
 refine box fun bX bk=>?_
 obtain⟨o,es,ep,t,ho,r⟩:=x.s
 refine bk ?_
 clear bk bX
 exact⟨o,es,ep,t,hk _ _ hne.2.2.2 ho,r⟩
theorem strV_get {l0:List (Str × Tok)} {j:Nat} (h:j<l0.length):(strValues l0).toArray[j]?=some (.str l0[j].1 l0[j].2):=by
 rw[List.getElem?_toArray]
 have:∀ (l:List (Str × Tok)) (j:Nat) (h:j<l.length),(strValues l)[j]?=some (.str l[j].1 l[j].2):=by
  intro l
  induction l with
  | nil=>intro j h;simp -iota at h
  | cons q r ih=>
   intro j h
   cases j with
   | zero=>rfl
   | succ j=>exact ih j (by simpa using h)
 exact this l0 j h
theorem strV_len {l0:List (Str × Tok)}:(strValues l0).length=l0.length:=by
 induction l0 with
 | nil=>rfl
 | cons q r ih=>show(strValues r).length+1=_;rw[ih];rfl
theorem filter_next {l0:List (Str × Tok)} {p:Str→Bool} {n:Nat} {F B I l S:Addr} (hne:F≠I∧B≠I∧l≠I∧S≠I) {R:Result→Shared→Prop} (hh:A.handled=none):∀ (k j:Nat) (s:Shared),k=l0.length-j→j≤l0.length→FAt w l0 p n F B I l S j s →
  (∀ j' x t s',j'≤l0.length→(l0.drop j).filter (fun q=>p q.1)=(x,t)::(l0.drop j').filter (fun q=>p q.1)→FAt w l0 p n F B I l S j' s'→Moved [I] GEq s s'→R (.ok (.ret (.str x t))) s') →
  ((l0.drop j).filter (fun q=>p q.1)=[]→∀ s' e,Moved [I] GEq s s'→(∃ o,s'.heap.get? e=some o∧o.cls=.type "StopIteration")→R (.error (.ref e)) s') →
  wpAny (model PR w) A.in1 (Builtin.«filter.__next__» ⟨[.ref F],[]⟩) (fun fin s'=>match fin with | .done f=>R (.ok f) s' | .again c'=>c'.quiet=true∧codeAny (model PR w) A c' R s') (fun e s'=>R (.error e) s') s:=by
 intro k
 induction k with
 | zero=>
  intro j s hk hj x hI hE
  have hj':j=l0.length:=by omega
  subst hj'
  show wpAny _ A.in1 (field (.ref F) 0>>=_) _ _ s
  refine wpAny_bind (wpAny_field x.f rfl (x:=.ref B) rfl ?_)
  show wpAny _ A.in1 (field (.ref F) 1>>=_) _ _ s
  refine wpAny_bind (wpAny_field x.f rfl (x:=.ref I) rfl ?_)
  refine wpAny_bind (callNext_end (by exact hh) x.i x.l (by rw[List.getElem?_toArray];exact List.getElem?_eq_none (by rw[strV_len];exact Nat.le_refl _)) fun h' e hx he=>?_)
  exact hE (by simp) _ e ⟨fun b o hb eo=>hx b o (fun q=>hb (List.mem_singleton.mpr q)) eo,rfl,rfl,rfl,Nat.le_refl _⟩ he
 | succ k ih=>
  intro j s hk hj x hI hE
  have hlt:j<l0.length:=by omega
  have hd:l0.drop j=l0[j]::l0.drop (j+1):=List.drop_eq_getElem_cons hlt
  show wpAny _ A.in1 (field (.ref F) 0>>=_) _ _ s
  refine wpAny_bind (wpAny_field x.f rfl (x:=.ref B) rfl ?_)
  show wpAny _ A.in1 (field (.ref F) 1>>=_) _ _ s
  refine wpAny_bind (wpAny_field x.f rfl (x:=.ref I) rfl ?_)
  refine wpAny_bind (callNext_item x.i x.l (strV_get hlt) fun h' hi' hs'=>?_)
  have x':FAt w l0 p n F B I l S (j+1) {s with heap:=h'}:=x.step hne hi' fun b o hb e=>hs'.extBut b o hb e
  refine wpAny_bind (wpAny_holding ?_)
  refine PySem.W.KFB.if_not (by rfl) ?_
  refine wpAny_bind (call_bound_contains (knd:=PySem.strKind PR w) (k:=l0[j].1) x'.b (by simp[PySem.strKind,Value.isStrOf]) (by rfl) x'.s ?_)
  refine wpAny_holding (wpAny_truthy_bool ?_)
  have x'':FAt w l0 p n F B I l S (j+1) {s with heap:=h',toks:=s.toks+1}:=x'.step hne x'.i fun b o hb e=>e
  have mv:Moved [I] GEq s {s with heap:=h',toks:=s.toks+1}:=⟨fun b o hb eo=>hs'.extBut b o (fun q=>hb (List.mem_singleton.mpr q)) eo,rfl,rfl,rfl,Nat.le_succ _⟩
  cases hp:p l0[j].1 with
  | true=>
   refine PySem.W.KFB.if_so rfl (wpAny_pure ?_)
   exact hI (j+1) _ _ _ hlt (by rw[hd,List.filter_cons,if_pos hp]) x'' mv
  | false=>
   refine PySem.W.KFB.if_not rfl (wpAny_pure ⟨plainId_quiet plain_filter_next _,codeAny_builtin entry_filter_next ?_⟩)
   rw[Around.under_plainId plain_filter_next _]
   have hf:(l0.drop j).filter (fun q=>p q.1)=(l0.drop (j+1)).filter (fun q=>p q.1):=by rw[hd,List.filter_cons,if_neg (by simp -iota [hp])]
   refine ih (j+1) _ (by omega) hlt x'' (fun j' y t s' h1 h2 h3 h4=>hI j' y t s' h1 (by rw[hf];exact h2) h3 (Moved.trans (fun a b c e1 e2=>e2.trans e1) mv h4)) (fun h1 s' e h2 h3=>hE (by rw[hf];exact h1) s' e (Moved.trans (fun a b c e1 e2=>e2.trans e1) mv h2) h3)
noncomputable def FGives (w:World) (l0:List (Str × Tok)) (p:Str→Bool) (n:Nat) (F B I l S:Addr) (j:Nat) (s:Shared):Result→Shared→Prop:=fun r s'=>
 (∃ j' x t,r=.ok (.ret (.str x t))∧j'≤l0.length∧(l0.drop j).filter (fun q=>p q.1)=(x,t)::(l0.drop j').filter (fun q=>p q.1)∧FAt w l0 p n F B I l S j' s'∧Moved [I] GEq s s') ∨
 (∃ e,r=.error (.ref e)∧(l0.drop j).filter (fun q=>p q.1)=[]∧Moved [I] GEq s s'∧∃ o,s'.heap.get? e=some o∧o.cls=.type "StopIteration")
theorem filter_call {l0:List (Str × Tok)} {p:Str→Bool} {n:Nat} {F B I l S:Addr} (hne:F≠I∧B≠I∧l≠I∧S≠I) (hh:A.handled=none) {j:Nat} (h1:j≤l0.length) (x:FAt w l0 p n F B I l S j s) :
  codeAny (model PR w) A (.call (.builtin "filter.__next__") ⟨[.ref F],[]⟩) (FGives w l0 p n F B I l S j s) s:=by
 have hT:s.TypeIs (.ref F) "filter":=⟨_,x.f,rfl⟩
 refine codeAny_call_builtin slot_filter_next.plain entry_filter_next (slot_filter_next.check _ _ _ _ _ _ _ _ hT (args_filter_next_1 _) ?_)
 exact filter_next hne hh _ j s rfl h1 x (fun j' y t s' q1 q2 q3 q4=>.inl ⟨j',y,t,rfl,q1,q2,q3,q4⟩) (fun q1 s' e q2 q3=>.inr ⟨e,rfl,q1,q2,q3⟩)
theorem Walks.filter {l0:List (Str × Tok)} {p:Str→Bool} {n:Nat} {F B I l S:Addr} (hne:F≠I∧B≠I∧l≠I∧S≠I) (hh:A.handled=none) :
  WalksS PR w A F [F,B,I,l,S] [I] GEq (l0.filter (fun q=>p q.1)).length (fun i v=>∃ q,(l0.filter (fun q=>p q.1))[i]?=some q∧v=.str q.1 q.2)
   (fun i s=>∃ j,j≤l0.length∧(l0.drop j).filter (fun q=>p q.1)=(l0.filter (fun q=>p q.1)).drop i∧FAt w l0 p n F B I l S j s) where
 sub:=fun b hb=>by simp -iota at hb;simp -iota [hb]
 grefl:=fun _=>rfl
 gtrans:=fun _ _ _ h1 h2=>h2.trans h1
 frame:=fun i s h' tk ⟨j,h1,h2,x⟩ _ hk=>⟨j,h1,h2,by
  refine⟨hk _ mA _ x.f,x.i.at fun o e=>hk _ mC o e,x.l.at fun o e=>hk _ mD o e,hk _ mB _ x.b,?_⟩
  refine box fun bX bk=>?_
  obtain⟨o,es,ep,t,ho,r⟩:=x.s
  refine bk ?_
  clear bk bX
  exact⟨o,es,ep,t,hk _ (by simp) _ ho,r⟩⟩
 item:=fun i s Q E hi ⟨j,h1,h2,x⟩ hQ=>by
  have hT:s.TypeIs (.ref F) "filter":=⟨_,x.f,rfl⟩
  have hd:(l0.filter (fun q=>p q.1)).drop i=(l0.filter (fun q=>p q.1))[i]::(l0.filter (fun q=>p q.1)).drop (i+1):=List.drop_eq_getElem_cons hi
  unfold pyNext
  refine wpAny_bind (wpAny_attempt (wpAny_callSpecial?_slot (name:=Str.ofString "__next__") hT slot_filter_next (wpAny_call (codeAny_mono (filter_call hne hh h1 x) fun r s' q=>?_))))
  rcases q with ⟨j',y,t,rfl,q1,q2,q3,q4⟩ | ⟨e,rfl,q1,q2,q3⟩
  ·rw[h2,hd] at q2
   obtain⟨q5,q6⟩:=List.cons.inj q2
   exact wpAny_pure (hQ _ _ ⟨(y,t),by rw[List.getElem?_eq_getElem hi,q5],rfl⟩ ⟨j',q1,q6.symm,q3⟩ q4)
  ·rw[h2,hd] at q1;cases q1
 done:=fun s Q E ⟨j,h1,h2,x⟩ hQ=>by
  have hT:s.TypeIs (.ref F) "filter":=⟨_,x.f,rfl⟩
  rw[List.drop_length] at h2
  unfold pyNext
  refine wpAny_bind (wpAny_attempt (wpAny_callSpecial?_slot (name:=Str.ofString "__next__") hT slot_filter_next (wpAny_call (codeAny_mono (filter_call hne hh h1 x) fun r s' q=>?_))))
  rcases q with ⟨j',y,t,rfl,q1,q2,q3,q4⟩ | ⟨e,rfl,q1,q2,q3⟩
  ·rw[h2] at q2;cases q2
  ·refine box fun bX bk=>?_
   obtain⟨o,ho,hc⟩:=q3
   refine bk ?_
   clear bk bX
   refine wpAny_bind (wpAny_isInstance (T:="StopIteration") (b:=true) ⟨o,ho,hc⟩ isSubtype_stop ?_)
   exact wpAny_pure (hQ _ q2)
 self:=fun i s Q E ⟨j,h1,h2,x⟩ hQ=>pyIter_filter x.f hQ
end
section
variable {w:World} {A:Around} {s:Shared}
variable {I:Addr} {fp wr:List Addr} {G:Array GenState→Array GenState→Prop} {n:Nat} {P:Nat→Value→Prop} {St:Nat→Shared→Prop}
theorem extend_filter {R:Result→Shared→Prop} (W:WalksS PR w A.in1 I fp wr G n P St) (hT:∀ i s,St i s→s.TypeIs (.ref I) "filter") (S:Addr) (c₀:Nat) (hst:St 0 s) (hSf:S∉fp) (hI:I∈fp) (hS:s.heap.get? S=some {cls:=.type "list",data:=.seq #[] c₀})
  (hR:∀ s' acc' c',Moved (S::wr) G s s'→s'.heap.get? S=some {cls:=.type "list",dict:=none,data:=.seq acc' c',slots:=#[]}→ItemsOf P acc' n→R (.ok (.ret .none)) s') (hn:n≤sizeLine) :
  wpAny (model PR w) A.in1 (Builtin.List.listExtendWith (.ref S) (.ref I) .none)
   (fun fin s'=>match fin with | .done f=>R (.ok f) s' | .again c'=>c'.quiet=true∧codeAny (model PR w) A c' R s') (fun e s'=>R (.error e) s') s:=by
 have hSI:S≠I:=fun e=>hSf (e▸hI)
 have oth:∀ b o,b≠S→s.heap.get? b=some o→((s.heap.update S (Obj.mapSeq (·.push Value.none))).update S (Obj.mapSeq (·.pop))).get? b=some o:=
  fun b o hb e=>(Heap.get?_update_other _ _ (Ne.symm hb)).trans ((Heap.get?_update_other _ _ (Ne.symm hb)).trans e)
 unfold Builtin.List.listExtendWith
 refine wpAny_bind (wpAny_typeOf (hT 0 _ hst) ?_)
 have h1:Builtin.List.listSameRef (.ref S) (.ref I)=false:=by simp[Builtin.List.listSameRef,hSI]
 have h2:(Value.type "filter"==Value.type "list")=false:=by decide
 have h3:(Value.type "filter"==Value.type "tuple")=false:=by decide
 simp -iota only[h1,h2,h3,Bool.or_false,Bool.false_eq_true,if_false]
 refine wpAny_bind (W.self 0 _ _ _ hst (wpAny_bind (wpAny_holding ?_)))
 unfold Builtin.List.listLengthHint
 refine wpAny_bind (wpAny_specialOf (hT 0 _ hst) filter_no_len ?_)
 show wpAny _ A.in1 (specialOf (Value.ref I) (Str.ofString "__length_hint__")>>=_) _ _ _
 refine wpAny_bind (wpAny_specialOf (hT 0 _ hst) filter_no_hint (wpAny_pure ?_))
 show wpAny _ A.in1 (rule "list.extend.makes-room">>=fun _=>Builtin.List.listTouch (.ref S)>>=fun _=>again (.builtin "list.extend.loop" ⟨[.ref S,.ref I,.none],[]⟩)) _ _ _
 refine wpAny_bind (wpAny_rule (wpAny_bind ?_))
 show wpAny _ A.in1 (updateSeq S (·.push .none)>>=fun _=>updateSeq S (·.pop)) _ _ _
 refine wpAny_bind (wpAny_updateSeq hS rfl ?_)
 have hS₂:=Heap.get?_update_self (Obj.mapSeq (·.push Value.none)) hS rfl
 refine wpAny_updateSeq (hz:=by seq_fits) hS₂ rfl ?_
 have hS₃:=Heap.get?_update_self (Obj.mapSeq (·.pop)) hS₂ rfl
 refine wpAny_pure ⟨plainId_quiet PySem.F.plain_extend_loop _,codeAny_extend_loopS W hn _ hSf _ n 0 _ _ _ rfl (Nat.zero_le _) (W.frame 0 s _ s.toks hst (Nat.le_refl _) fun b hb o e=>oth b o (fun h=>hSf (h▸hb)) e) hS₃ (ItemsOf.nil P) fun s' acc' c' hm hS' hacc=>?_⟩
 exact hR s' acc' c' (Moved.trans W.gtrans ((Moved.refl W.grefl).then_heap (Nat.le_refl _) fun b o hb e=>oth b o (fun h=>hb (h▸List.mem_cons_self)) e) hm) hS' hacc
theorem call_list_filter {Q:Value→Shared→Prop} {E:Value→Shared→Prop} (W:WalksS PR w A.in1.in1 I fp wr G n P St) (hT:∀ i s,St i s→s.TypeIs (.ref I) "filter") (hst:St 0 s) (hfp:∀ b∈fp,b<s.heap.objs.size) (hI:I∈fp)
  (hQ:∀ s' acc' c',Moved (s.heap.objs.size::wr) G {s with heap:=s.heap.push {cls:=.type "list",data:=.seq #[]}} s' →
   s'.heap.get? s.heap.objs.size=some {cls:=.type "list",dict:=none,data:=.seq acc' c',slots:=#[]}→ItemsOf P acc' n→Q (.ref s.heap.objs.size) s') (hn:n≤sizeLine) :
  wpAny (model PR w) A (call (.type "list") [.ref I]) Q E s:=by
 have hSf:s.heap.objs.size∉fp:=fun hm=>Nat.lt_irrefl _ (hfp _ hm)
 refine callType_codes (Q₁:=fun obj s₁=>obj=.ref s.heap.objs.size∧s₁={s with heap:=s.heap.push {cls:=.type "list",data:=.seq #[]}}) PySem.F.called_list (PySem.F.typeCall_list_1 _) PySem.F.entry_list_init (code_list_new _ ⟨rfl,rfl⟩) fun obj s₁ h₁=>?_
 obtain⟨rfl,rfl⟩:=h₁
 have hS:(s.heap.push {cls:=.type "list",data:=.seq #[]}).get? s.heap.objs.size=some {cls:=.type "list",data:=.seq #[]}:=Heap.get?_push_size _ rfl
 have hst₁:=W.frame 0 s (s.heap.push {cls:=.type "list",data:=.seq #[]}) s.toks hst (Nat.le_refl _) fun b _ o e=>Heap.get?_push_of_some _ e
 refine⟨⟨_,hS,rfl⟩,PySem.F.args_list_init_2 _ _,?_⟩
 show wpAny _ A.in1.in1 (do let old ←Builtin.List.listItems (.ref s.heap.objs.size);Builtin.List.listUpdate (.ref s.heap.objs.size) (fun _=>#[]);letGo old.toList.reverse;Builtin.List.listExtendWith (.ref s.heap.objs.size) (.ref I) .none) _ _ _
 refine wpAny_bind ?_
 unfold Builtin.List.listItems
 refine wpAny_bind (wpAny_seqItems hS rfl (wpAny_pure ?_))
 show wpAny _ A.in1.in1 (updateSeq s.heap.objs.size (fun _=>#[])>>=fun _=>letGo (#[]:Array Value).toList.reverse>>=fun _=>Builtin.List.listExtendWith (.ref s.heap.objs.size) (.ref I) .none) _ _ _
 refine wpAny_bind (wpAny_updateSeq hS rfl ?_)
 have hS₂:=Heap.get?_update_self (Obj.mapSeq (fun _=>(#[]:Array Value))) hS rfl
 have oth:∀ b o,b≠s.heap.objs.size→(s.heap.push {cls:=.type "list",data:=.seq #[]}).get? b=some o→((s.heap.push {cls:=.type "list",data:=.seq #[]}).update s.heap.objs.size (Obj.mapSeq (fun _=>(#[]:Array Value)))).get? b=some o:=
  fun b o hb e=>(Heap.get?_update_other _ _ (Ne.symm hb)).trans e
 refine wpAny_bind (wpAny_letGo ?_)
 refine extend_filter W hT _ _ (W.frame 0 _ _ s.toks hst₁ (Nat.le_refl _) fun b hb o e=>oth b o (fun h=>hSf (h▸hb)) e) hSf hI hS₂ (fun s' acc' c' hm hS' hacc=>?_) hn
 exact⟨rfl,hQ s' acc' c' (Moved.trans W.gtrans ((Moved.refl W.grefl).then_heap (Nat.le_refl _) fun b o hb e=>oth b o (fun h=>hb (h▸List.mem_cons_self)) e) hm) hS' hacc⟩
variable {I:Addr} {fp wr:List Addr} {G:Array GenState→Array GenState→Prop} {n:Nat} {P:Nat→Value→Prop} {St:Nat→Shared→Prop}
theorem set_loop_strs {R:Result→Shared→Prop} (W:WalksS PR w A.in1 I fp wr G n P St) (S:Addr) (hSf:S∉fp) (xs:List Str) (hval:∀ i v,P i v→∃ x t,xs[i]?=some x∧v=.str x t) (hb:n+1<scanBound) :
  ∀ (k i:Nat) (s:Shared),n-i=k→i≤n→St i s→(∃ m,m≤i∧s.heap.SetOf (PySem.strKind PR w) S (fun k'=>decide (k'∈xs.take i)) m) →
   (∀ s' m,m≤n→Moved (S::wr) G s s'→s'.heap.SetOf (PySem.strKind PR w) S (fun k'=>decide (k'∈xs.take n)) m→R (.ok (.ret .none)) s') →
   codeAny (model PR w) A (.builtin "set.update.loop" ⟨[.ref S,.ref I],[]⟩) R s:=by
 have hSw:S∉wr:=fun h=>hSf (W.sub _ h)
 have hsub:∀ b∈wr,b∈S::wr:=fun b hb=>List.mem_cons_of_mem _ hb
 intro k
 induction k with
 | zero=>
  intro i s hk hi hst ⟨m,hm0,hS⟩ hR
  have hin:i=n:=by omega
  subst hin
  refine codeAny_builtin PyProof.Rows.F.entry_set_update_loop ?_
  rw[Around.under_plainId PyProof.Rows.F.plain_set_update_loop _]
  show wpAny _ A.in1 (pyNext (.ref I)>>=_) _ _ s
  refine wpAny_bind (W.done s _ _ hst fun s' hm=>?_)
  show wpAny _ A.in1 (ret Value.none) _ _ s'
  refine box fun bX bk=>?_
  obtain⟨o,es,ep,t,ho,rest⟩:=hS
  refine bk ?_
  clear bk bX
  exact wpAny_pure (hR s' m hm0 (hm.mono hsub) ⟨o,es,ep,t,hm.heap S _ hSw ho,rest⟩)
 | succ k ih=>
  intro i s hk hi hst ⟨m,hm0,hS⟩ hR
  have hlt:i<n:=by omega
  refine codeAny_builtin PyProof.Rows.F.entry_set_update_loop ?_
  rw[Around.under_plainId PyProof.Rows.F.plain_set_update_loop _]
  show wpAny _ A.in1 (pyNext (.ref I)>>=_) _ _ s
  refine wpAny_bind (W.item i s _ _ hlt hst fun v s' hP hst' hm=>?_)
  obtain⟨x,t,hx,rfl⟩:=hval i v hP
  have hS':s'.heap.SetOf (PySem.strKind PR w) S (fun k'=>decide (k'∈xs.take i)) m:=by
   refine box fun bX bk=>?_
   obtain⟨o,es,ep,tb,ho,rest⟩:=hS
   refine bk ?_
   clear bk bX
   exact⟨o,es,ep,tb,hm.heap S _ hSw ho,rest⟩
  show wpAny _ A.in1 (holding [Value.str x t] (setAdd S (.str x t))>>=_) _ _ s'
  refine wpAny_bind (wpAny_holding ?_)
  unfold setAdd
  refine wpAny_holding ?_
  have hkey:(PySem.strKind PR w).is x (.str x t)=true:=by simp[PySem.strKind,Value.isStrOf]
  refine wpAny_bind ((PySem.strKind PR w).pyHash (k:=x) hkey ?_)
  refine wpAny_setAddHashed_of (knd:=PySem.strKind PR w) (s:={s' with toks:=s'.toks+1}) hkey rfl hS' (by omega) fun h' hsb hS2=>?_
  have hSi:∃ m',m'≤i+1∧h'.SetOf (PySem.strKind PR w) S (fun k'=>decide (k'∈xs.take (i+1))) m':=by
   refine⟨_,?_,PyProof.Rows.SetOf_congr hS2 (fun k'=>?_) rfl⟩
   ·split<;>omega
   ·rw[List.take_add_one,hx,Bool.eq_iff_iff]
    simp
  refine wpAny_pure ⟨plainId_quiet PyProof.Rows.F.plain_set_update_loop _,ih (i+1) _ (by omega) hlt (W.frame _ s' _ _ hst' (Nat.le_succ _) fun b hb o e=>?_) hSi fun s'' m' hm' hm'' hS''=>?_⟩
  ·rw[hsb.2 b (fun h:b=S=>hSf (by rw[←h];exact hb))];exact e
  ·refine hR s'' m' hm' (Moved.trans W.gtrans ((hm.mono hsub).then_heap (Nat.le_succ _) fun b o hb e=>?_) hm'') hS''
   rw[hsb.2 b (fun h:b=S=>hb (by rw[h];exact List.mem_cons_self))];exact e
end
section
set_option maxHeartbeats 3200000
section
variable {w:World} {A:Around} {s:Shared} {E:Value→Shared→Prop}
noncomputable abbrev freshSet (led:Bool):Obj:={cls:=.type "set",dict:=none,data:=.set #[] 0 (.fresh 0 0 led)}
theorem set_init_strs {l:Addr} {l0:List (Str × Tok)} {led:Bool} {s:Shared} {R:Result→Shared→Prop} (hh:A.handled=none) (hl:s.heap.IsList l (strValues l0).toArray) (hb:l0.length+1<scanBound)
  (hR:∀ h' tk m,h'.SetOf (PySem.strKind PR w) s.heap.objs.size (fun k=>decide (k∈l0.map (·.1))) m→(∀ b o,s.heap.get? b=some o→h'.get? b=some o)→R (.ok (.ret .none)) {s with heap:=h',toks:=tk}) :
  codeAny (model PR w) A (.call (.builtin "set.__init__") ⟨[.ref s.heap.objs.size,.ref l],[]⟩) R {s with heap:=s.heap.push (freshSet led)}:=by
 have hS:(s.heap.push (freshSet led)).get? s.heap.objs.size=some (freshSet led):=Heap.get?_push_size _ rfl
 have hT:Shared.TypeIs {s with heap:=s.heap.push (freshSet led)} (.ref s.heap.objs.size) "set":=⟨_,hS,rfl⟩
 refine codeAny_call_builtin PySem.F.called_set.init.plain PySem.F.entry_set_init (check_set_init_1 hT ?_)
 obtain⟨ol,hol,hcl,nl,hdl⟩:=hl
 obtain⟨ocls,odict,odata,oslots⟩:=ol
 simp only at hcl hdl
 subst hcl;subst hdl
 have hol':(s.heap.push (freshSet led)).get? l=some {cls:=.type "list",dict:=odict,data:=.seq (strValues l0).toArray nl,slots:=oslots}:=Heap.get?_push_of_some _ hol
 have hsls:=PySem.F.sub_list_set
 have hslf:=PySem.F.sub_list_frozenset
 have hne:(Value.type "list"==Value.type "dict")=false:=by decide
 have hl1:(s.heap.push (freshSet led)).IsList l (strValues l0).toArray:=⟨_,hol',rfl,nl,rfl⟩
 obtain⟨hp,gg,dr,tk0,os⟩:=s
 unfold Builtin.«set.__init__» noKeywords Builtin.Frozenset.updateFrom
 generalize hPI:pyIter=PI
 wp_walk
 subst hPI
 refine wpAny_pyIter_list hl1 (wpAny_bind (wpAny_runValue ?_))
 have hlS:l<hp.objs.size:=Heap.lt_size hol
 have hsz:(hp.push (freshSet led)).objs.size=hp.objs.size+1:=Heap.size_push ..
 have hneI:l≠(hp.push (freshSet led)).objs.size:=by rw[hsz];exact Nat.ne_of_lt (Nat.lt_succ_of_lt hlS)
 have hSf:hp.objs.size∉[(hp.push (freshSet led)).objs.size,l]:=by
  rw[hsz];simp only[List.mem_cons,List.not_mem_nil,or_false,not_or]
  exact⟨Nat.ne_of_lt (Nat.lt_succ_self _),Nat.ne_of_gt hlS⟩
 refine set_loop_strs ((Walks.list (by exact hh) _ l hneI (strValues l0).toArray).toS) hp.objs.size hSf (l0.map (·.1)) (fun i v hv=>?_) (by rw[List.size_toArray,strV_len];exact hb) ((strValues l0).toArray.size-0) 0 _ (by(clear hSf hneI hsz hlS hl1 hol' hol hT hS hR hne hslf hsls hb hh;lia)) (Nat.zero_le _) ⟨⟨_,Heap.get?_push_size _ rfl,rfl,rfl⟩,hl1.push _⟩ ⟨0,Nat.le_refl _,?_⟩ fun s' m _ hm hS'=>?_
 ·have hi:i<l0.length:=by
   have:=(Array.getElem?_eq_some_iff.mp hv).1
   rw[List.size_toArray,strV_len] at this;exact this
  rw[strV_get hi] at hv
  exact⟨l0[i].1,l0[i].2,by rw[List.getElem?_map,List.getElem?_eq_getElem hi];rfl,by cases hv;rfl⟩
 ·have hget:((hp.push (freshSet led)).push {cls:=.type "list_iterator",data:=.fields #[.ref l,.int 0 0]}).get? hp.objs.size=some (freshSet led):=Heap.get?_push_of_some _ hS
  exact PyProof.Rows.SetOf_congr ((PyProof.Rows.setObjOf_fresh (knd:=PySem.strKind PR w) led).setOf hget (by unfold scanBound;(clear hget hSf hneI hsz hlS hl1 hol' hol hT hS hR hne hslf hsls hb hh;lia))) (fun k=>by simp) rfl
 ·obtain⟨h',g',d',tk',os'⟩:=s'
  have eg:g'=gg:=hm.gens
  have ed:d'=dr:=hm.drawn
  have eo:os'=os:=hm.os
  subst eg;subst ed;subst eo
  refine wpAny_pure ?_
  show wpAny _ _ (ret Value.none) _ _ _
  refine wpAny_pure (hR h' tk' m (PyProof.Rows.SetOf_congr hS' (fun k=>?_) rfl) fun b o e=>?_)
  ·rw[List.take_of_length_le (by rw[List.size_toArray,strV_len,List.length_map];exact Nat.le_refl _)]
  ·have hb1:b<hp.objs.size:=Heap.lt_size e
   exact hm.heap b o (by
    rw[hsz];simp only[List.mem_cons,List.not_mem_nil,or_false,not_or]
    exact⟨Nat.ne_of_lt hb1,Nat.ne_of_lt (Nat.lt_succ_of_lt hb1)⟩) (Heap.get?_push_of_some _ (Heap.get?_push_of_some _ e))
theorem call_set_strs {l:Addr} {l0:List (Str × Tok)} {Q:Value→Shared→Prop} (hh:A.handled=none) (hl:s.heap.IsList l (strValues l0).toArray) (hb:l0.length+1<scanBound)
  (hQ:∀ h' tk m,h'.SetOf (PySem.strKind PR w) s.heap.objs.size (fun k=>decide (k∈l0.map (·.1))) m→(∀ b o,s.heap.get? b=some o→h'.get? b=some o)→Q (.ref s.heap.objs.size) {s with heap:=h',toks:=tk}) :
  wpAny (model PR w) A (call (.type "set") [.ref l]) Q E s:=by
 obtain⟨c,tl,hmro⟩:=PySem.F.called_set.mro
 have hmade:=PySem.F.called_set.made
 have hsub:=PySem.F.called_set.sub
 refine wpAny_call (codeAny_of_tree ?_)
 show wpAny _ _ (callAny (.type "set") _) _ _ _
 refine wpAny_pure ⟨Code.quiet_builtin _ (by decide +kernel),codeAny_builtin PySem.F.entry_type_call ?_⟩
 rw[Around.under_plain (weight_type_call_type "set" [.ref l] []) rfl]
 have h1:=PySem.F.called_set.notType
 have h2:=PySem.F.called_set.canCreate
 have hct:=PySem.F.typeCall_set_1 (.ref l)
 repeat (any_goals (first | assumption | wp_step))
 refine codeAny_mono (code_set_new_1 (.ref l) (E:=E) (Q₁:=fun obj s₁=>∃ led:Bool,obj=.ref s.heap.objs.size∧s₁={s with heap:=s.heap.push (freshSet led)}) fun led=>⟨led,rfl,rfl⟩) fun r s₁ hr=>?_
 cases r with
 | error e=>exact hr
 | ok fl=>
  cases fl with
  | ret obj=>
   obtain⟨led,rfl,rfl⟩:=hr
   have hS:(s.heap.push (freshSet led)).get? s.heap.objs.size=some (freshSet led):=Heap.get?_push_size _ rfl
   have hT:Shared.TypeIs {s with heap:=s.heap.push (freshSet led)} (.ref s.heap.objs.size) "set":=⟨_,hS,rfl⟩
   have hli:=PySem.F.called_set.init.lookup
   have hbi:=PySem.F.called_set.init.bind (.ref s.heap.objs.size)
   repeat (any_goals (first | assumption | wp_step))
   refine codeAny_mono (set_init_strs (R:=wants (fun r s₂=>r=.none∧∃ h' tk m,s₂={s with heap:=h',toks:=tk}∧h'.SetOf (PySem.strKind PR w) s.heap.objs.size (fun k=>decide (k∈l0.map (·.1))) m∧(∀ b o,s.heap.get? b=some o→h'.get? b=some o)) E) (by exact hh) hl hb fun h' tk m h3 h4=>⟨rfl,h',tk,m,rfl,h3,h4⟩) fun r₂ s₂ hr₂=>?_
   cases r₂ with
   | error e=>exact hr₂
   | ok fl₂=>
    cases fl₂ with
    | ret r=>
     obtain⟨rfl,h',tk,m,rfl,h3,h4⟩:=hr₂
     repeat (any_goals (first | assumption | wp_step))
     exact hQ _ _ _ h3 h4
    | _=>exact hr₂.elim
  | _=>exact hr.elim
end
end
section
variable {g:Glob} {d:Nat} {sc:Scope} {σ:Sig} {Φ Ψ:PH} {s:Shared}
noncomputable def IsStrSet (w:World) (a:Addr) (o:Obj) (xs:List Str):Prop:=∃ m es ep t,o={cls:=.type "set",dict:=none,data:=.set es ep t,slots:=#[]}∧∀ h:Heap,h.get? a=some o→h.SetOf (PySem.strKind PR w) a (fun k=>decide (k∈xs)) m
noncomputable def setAV (w:World) (xs:List Str):AV:=.sat fun Φ v=>∃ a o,v=.ref a∧Φ a=some o∧IsStrSet w a o xs
noncomputable def boundAV (w:World) (xs:List Str):AV:=.sat fun Φ v=>∃ b a o,v=.ref b∧Φ b=some (boundIn a)∧Φ a=some o∧IsStrSet w a o xs
theorem set_inv {w:World} {xs:List Str} {v:Value} (h:Rep Φ (setAV w xs) v):∃ a o,v=.ref a∧Φ a=some o∧IsStrSet w a o xs:=by
 unfold setAV at h
 refine box fun bX bk=>?_
 obtain⟨Φ₁,l,a,o,e,h1,h2⟩:=h
 refine bk ?_
 clear bk bX
 exact⟨a,o,e,l _ _ h1,h2⟩
theorem bound_inv {w:World} {xs:List Str} {v:Value} (h:Rep Φ (boundAV w xs) v):∃ b a o,v=.ref b∧Φ b=some (boundIn a)∧Φ a=some o∧IsStrSet w a o xs:=by
 unfold boundAV at h
 refine box fun bX bk=>?_
 obtain⟨Φ₁,l,b,a,o,e,h1,h2,h3⟩:=h
 refine bk ?_
 clear bk bX
 exact⟨b,a,o,e,l _ _ h1,l _ _ h2,h3⟩
theorem isStrSet_of {w:World} {a:Addr} {xs:List Str} {m:Nat} {h:Heap} (x:h.SetOf (PySem.strKind PR w) a (fun k=>decide (k∈xs)) m):∃ o,h.get? a=some o∧IsStrSet w a o xs:=by
 refine box fun bX bk=>?_
 obtain⟨o,es,ep,t,ho,hex,hd,r⟩:=x
 obtain⟨c,dct,dat,sl⟩:=o
 obtain⟨h1,h2,h3⟩:=hex
 refine bk ?_
 clear bk bX
 dsimp only at h1 h2 h3 hd
 subst h1 h2 h3 hd
 exact⟨_,ho,m,es,ep,t,rfl,fun h' e=>⟨_,es,ep,t,e,⟨rfl,rfl,rfl⟩,rfl,r⟩⟩
theorem Fn.setOf {ω:Ow} {xs:List Str} (hs:xs.length+1<scanBound):Fn g d ω (.type "set") [strL xs] [] (setAV g.w xs):=.one fun A Φ Ψ s v r hp how ra=>by
 refine lst_elim ra fun a o vs ho hl hx=>?_
 obtain⟨l0,e0,rfl⟩:=repL_strs_inv hx
 have hL:s.heap.IsList a (strValues l0).toArray:=by rw[←e0];simpa using isList_of hp ho hl
 refine call_set_strs r.hd hL (by simpa using hs) fun h' tk m hS hk=>?_
 have hp1:Hp g Φ Ψ {s with heap:=h',toks:=tk}:=hp.ext hk
 obtain⟨o',ho',hset⟩:=isStrSet_of hS
 have hp2:=hp1.adopt ho' hp.freshΦ hp.freshΨ (fun q=>(hp.tabNe q).1 rfl)
 exact⟨_,PH.le_put o' hp.freshΦ,hp2,rep_sat ⟨_,o',rfl,PH.put_self _ _ _,hset⟩⟩
theorem Ev.boundM {e:PySem.Expr} {pos:Pos} {xs:List Str} (h:Ev g d sc σ e (setAV g.w xs)) (hb:autoParam (∀ env,attributeBase e ("__contains__":Str) env (eval e env)=eval e env) aR):Ev g d sc σ (.Attribute e ("__contains__":Str) pos) (boundAV g.w xs):=fun A env Φ Ψ s r x=>by
 refine Attribute_any_ (h.run r x fun Φ' v s' l x' rp=>?_) (by rw[arm_eval_Attribute,hb env])
 refine box fun bX bk=>?_
 obtain⟨a,o,rfl,ho,hset⟩:=set_inv rp
 obtain⟨m,es,ep,t,rfl,hset'⟩:=id hset
 refine bk ?_
 clear bk bX
 refine getattr_set_contains ⟨es,ep,t,x'.hp.getΦ ho⟩ ?_
 refine box fun bX bk=>?_
 obtain⟨l2,hp2⟩:=newΦ x'.hp (boundIn a) rfl
 refine bk ?_
 clear bk bX
 exact⟨_,l.trans l2,hp2.tok _,rep_sat ⟨_,a,_,rfl,PH.put_self _ _ _,l2 _ _ ho,hset⟩⟩
theorem Hp.moved {wr:List Addr} {s':Shared} (x:Hp g Φ Ψ s) (m:Moved wr GEq s s') (hw:∀ b∈wr,Φ b=Option.none∧Ψ b=Option.none∧b∉tabs):Hp g Φ Ψ s':=by
 refine⟨x.k,x.b,fun b o e=>m.heap b o (fun q=>by rw[(hw b q).1] at e;cases e) (x.fr b o e),fun b o e=>m.heap b o (fun q=>by rw[(hw b q).2.1] at e;cases e) (x.mu b o e),x.dis,fun P hP=>?_,?_,m.os.trans x.os⟩
 ·refine box fun bX bk=>?_
  obtain⟨h1,h2,vs,e,h3⟩:=x.tab P hP
  refine bk ?_
  clear bk bX
  exact⟨h1,h2,vs,m.heap P _ (fun q=>(hw P q).2.2 hP) e,h3⟩
 ·have:s'.gens=s.gens:=m.gens
  rw[this];exact x.gens
structure FiltAt (g:Glob) (Φ₁ Ψ:PH) (xs ys:List Str) (F:Addr) (s:Shared) where
 ex:∃ Φ' B I l S n l0,PH.le Φ₁ Φ'∧Hp g Φ' Ψ s∧(F≠I∧B≠I∧l≠I∧S≠I)∧l0.map (·.1)=ys∧FAt g.w l0 (fun k=>decide (k∈xs)) n F B I l S 0 s∧Φ' I=Option.none∧Ψ I=Option.none∧I∉tabs
theorem call_filter_at {B:Value} {l:Value} {xs ys:List Str} {A:Around} {Φ₁:PH} (l₁:PH.le Φ₁ Φ) (hp:Hp g Φ Ψ s) (rb:Rep Φ (boundAV g.w xs) B) (rl:Rep Φ (strL ys) l):W g.w A (call (.type "filter") [B,l]) (fun v s'=>∃ F,v=.ref F∧FiltAt g Φ₁ Ψ xs ys F s') s:=by
 refine box fun bX bk=>?_
 obtain⟨b,S,oS,rfl,hb,hS,hset⟩:=bound_inv rb
 refine bk ?_
 clear bk bX
 refine lst_elim rl fun a o vs ho hl hx=>?_
 refine box fun bX bk=>?_
 obtain⟨l0,e0,e1⟩:=repL_strs_inv hx
 refine bk ?_
 clear bk bX
 have hL:s.heap.IsList a (strValues l0).toArray:=by rw[←e0];simpa using isList_of hp ho hl
 have lt:∀ x ob,Φ x=some ob→x≠s.heap.objs.size:=fun x ob e=>Nat.ne_of_lt (Heap.lt_size (hp.getΦ e))
 refine call_filter hL fun h' hf hi hsz hk=>?_
 refine box fun bX bk=>?_
 obtain⟨m,es,ep,t,rfl,hset'⟩:=hset
 refine bk ?_
 clear bk bX
 refine⟨_,rfl,⟨Φ,b,s.heap.objs.size,a,S,m,l0,l₁,hp.ext (tk:=s.toks) hk,⟨Nat.succ_ne_self _,lt _ _ hb,lt _ _ ho,lt _ _ hS⟩,e1,⟨hf,hi,hL.at fun o e=>hk _ _ e,hk _ _ (hp.getΦ hb),hset' _ (hk _ _ (hp.getΦ hS))⟩,hp.freshΦ,hp.freshΨ,fun q=>(hp.tabNe q).1 rfl⟩⟩
theorem call_list_filt {F:Addr} {xs ys:List Str} {A:Around} {Φ₁:PH} {d:Nat} (r:Room d A) (hs:small ys.length) (x:FiltAt g Φ₁ Ψ xs ys F s):W g.w A (call (.type "list") [.ref F]) (Ret g Φ₁ Ψ (strL (ys.filter (fun k=>decide (k∈xs))))) s:=by
 refine box fun bX bk=>?_
 obtain⟨Φ,B,I,l,S,n,l0,l₁,hp,hne,e1,hf,h1,h2,h3⟩:=x.ex
 refine bk ?_
 clear bk bX
 have hlen:l0.length=ys.length:=by rw[←e1,List.length_map]
 have lI:I<s.heap.objs.size:=by obtain⟨o,e,_⟩:=hf.i;exact Heap.lt_size e
 have ll:l<s.heap.objs.size:=by obtain⟨o,e,_⟩:=hf.l;exact Heap.lt_size e
 have lS:S<s.heap.objs.size:=by obtain⟨o,_,_,_,e,_⟩:=hf.s;exact Heap.lt_size e
 refine call_list_filter (Walks.filter (w:=g.w) (A:=A.in1.in1) (l0:=l0) (p:=fun k=>decide (k∈xs)) (n:=n) hne (by exact r.hd)) (fun i s' st=>?_) ⟨0,Nat.zero_le _,rfl,hf⟩ (fun b hb=>?_) List.mem_cons_self (fun s' acc c' hm hL hacc=>?_) ?_
 ·obtain⟨j,_,_,y⟩:=st;exact⟨_,y.f,rfl⟩
 ·simp only[List.mem_cons,List.not_mem_nil,or_false] at hb
  rcases hb with rfl | rfl | rfl | rfl | rfl
  ·exact Heap.lt_size hf.f
  ·exact Heap.lt_size hf.b
  ·exact lI
  ·exact ll
  ·exact lS
 ·have hp1:Hp g Φ Ψ {s with heap:=s.heap.push {cls:=.type "list",data:=.seq #[]}}:=hp.ext (tk:=s.toks) fun b o e=>Heap.get?_push_of_some _ e
  have tI:s.heap.objs.size∉tabs:=fun q=>(hp.tabNe q).1 rfl
  have hp2:Hp g Φ Ψ s':=hp1.moved hm fun b hb=>by
   simp only[List.mem_cons,List.not_mem_nil,or_false] at hb
   rcases hb with rfl | rfl
   ·exact⟨hp.freshΦ,hp.freshΨ,tI⟩
   ·exact⟨h1,h2,h3⟩
  have hp3:=hp2.adopt hL hp.freshΦ hp.freshΨ tI
  have l3:=PH.le_put (Φ:=Φ) (a:=s.heap.objs.size) {cls:=.type "list",dict:=Option.none,data:=.seq acc c',slots:=#[]} hp.freshΦ
  have ea:acc.toList=strValues (l0.filter (fun q=>decide (q.1∈xs))):=by
   refine List.ext_getElem? fun j=>?_
   by_cases hj:j<acc.size
   ·refine box fun bX bk=>?_
    obtain⟨q,hq,hv⟩:=hacc.2 j acc[j] (Array.getElem?_eq_getElem hj)
    refine bk ?_
    clear bk bX
    have hj':j<(l0.filter (fun q=>decide (q.1∈xs))).length:=by have:=hacc.1;(clear hv hq l3 hp3 hp2 tI hp1 hacc hL hm lS ll lI hlen h3 h2 h1 hf e1 hne hp l₁ x hs r;lia)
    have z:=strV_get hj'
    rw[List.getElem?_toArray] at z
    rw[z,Array.getElem?_toList,Array.getElem?_eq_getElem hj,hv]
    rw[List.getElem?_eq_getElem hj'] at hq
    cases hq;rfl
   ·rw[List.getElem?_eq_none (by simpa using hj),List.getElem?_eq_none (by rw[strV_len];have:=hacc.1;(clear l3 hp3 hp2 tI hp1 hacc hL hm lS ll lI hlen h3 h2 h1 hf e1 hne hp l₁ x hs r;lia))]
  refine⟨_,l₁.trans l3,hp3,?_⟩
  unfold strL
  refine⟨_,_,acc,rfl,PH.put_self _ _ _,⟨c',rfl⟩,?_⟩
  rw[ea]
  have z:=repL_strValues (Φ:=Φ.put s.heap.objs.size {cls:=.type "list",dict:=Option.none,data:=.seq acc c',slots:=#[]}) (l:=l0.filter (fun q=>decide (q.1∈xs)))
  have e2:(l0.filter (fun q=>decide (q.1∈xs))).map (·.1)=ys.filter (fun k=>decide (k∈xs)):=by rw[←e1,List.filter_map];rfl
  rw[e2] at z
  exact z
 ·refine Nat.le_trans (List.length_filter_le _ _) ?_
  rw[hlen];exact small_line hs
theorem Ev.listFilter {lid fid:Str} {p1 p2 q1 q2:Pos} {e1 e2:PySem.Expr} {xs ys:List Str} (hn1:Ev g d sc σ (.Name lid p1) (.raw (.type "list"))) (hn2:Ev g d sc σ (.Name fid p2) (.raw (.type "filter"))) (h1:Ev g d sc σ e1 (boundAV g.w xs)) (h2:Ev g d sc σ e2 (strL ys)) (hs:small ys.length)
  (he1:autoParam (∀ env,starEach [e1,e2] env=(false,eval e1 env)::starEach [e2] env) aR) (he2:autoParam (∀ env,starEach [e2] env=(false,eval e2 env)::starEach [] env) aR)
  (he:autoParam (∀ env,starEach [.Call (.Name fid p2) [e1,e2] [] q2] env=(false,eval (.Call (.Name fid p2) [e1,e2] [] q2) env)::starEach [] env) aR)
  (hst:autoParam (∀ env,((backTo q2 (starEach [e1,e2] env)).any (·.1))=false) aR) :
  Ev g d sc σ (.Call (.Name lid p1) [.Call (.Name fid p2) [e1,e2] [] q2] [] q1) (strL (ys.filter (fun k=>decide (k∈xs)))):=fun A env Φ Ψ s r x=>by
 rw[arm_eval_Call_Name']
 refine wpAny_bind (hn1.run r x fun Φ₁ v s₁ l₁ x₁ r₁=>?_)
 replace r₁:_=_:=r₁
 subst r₁
 have key:W g.w A (eval (.Call (.Name fid p2) [e1,e2] [] q2) env) (fun v s'=>∃ F,v=.ref F∧FiltAt g Φ₁ Ψ xs ys F s') s₁:=by
  rw[arm_eval_Call_Name']
  refine wpAny_bind (hn2.run r x₁ fun Φ₂ v s₂ l₂ x₂ r₂=>?_)
  replace r₂:_=_:=r₂
  subst r₂
  refine callWith_of (P:=fun h=>∃ k,(k=Keeper.frame∨k=Keeper.machine∨k=Keeper.boundFrame)∧Looks (model PR g.w) h (keeperOf (.type "filter")) k) (by rw[hst env];rfl) (fun h q=>q) ?_
  refine evalArgs_W r x₂ (EvL.cons h1 (EvL.cons h2 EvL.nil he2) he1) hst fun Φ₃ vs s₃ l₃ x₃ rp=>⟨Keep.ty (g:=g) "filter" Φ₃ Ψ s₃ x₃.hp,?_⟩
  refine repL_cons_elim rp fun b ws hb hw=>?_
  refine repL_cons_elim hw fun l ws hl hw=>?_
  have:=repL_nil_inv hw
  subst this
  exact call_filter_at (l₂.trans l₃) x₃.hp hb hl
 have hst':((backTo q1 (starEach [.Call (.Name fid p2) [e1,e2] [] q2] env)).any (·.1))=false:=by rw[he env];rfl
 refine callWith_of (P:=fun h=>∃ k,(k=Keeper.frame∨k=Keeper.machine∨k=Keeper.boundFrame)∧Looks (model PR g.w) h (keeperOf (.type "list")) k) (by rw[hst'];rfl) (fun h q=>q) ?_
 have go:W g.w A (spliced (backTo q1 (starEach [.Call (.Name fid p2) [e1,e2] [] q2] env))) (fun vs s'=>∃ F,vs=[.ref F]∧FiltAt g Φ₁ Ψ xs ys F s') s₁:=wpAny_items_cons (key.mono fun v s' q0=>q0.elim fun F q0=>q0.elim fun e q=>wpAny_items_nil ⟨F,by rw[e],q⟩) (he env)
 cases hb:backTo q1 (starEach [.Call (.Name fid p2) [e1,e2] [] q2] env) with
 | nil=>rw[he env] at hb;cases hb
 | cons p rest=>
  refine box fun bX bk=>?_
  obtain⟨st,t⟩:=p
  refine bk ?_
  clear bk bX
  rw[hb] at hst' go
  have hst'':st=false:=by simp only[List.any_cons,Bool.or_eq_false_iff] at hst';exact hst'.1
  subst hst''
  refine Calls.evalArgs_plain (go.mono fun vs s' q0=>q0.elim fun F q0=>q0.elim fun e q=>?_)
  subst e
  refine box fun bX bk=>?_
  obtain⟨Φ',_,_,_,_,_,_,_,hp,_⟩:=q.ex
  refine bk ?_
  clear bk bX
  exact⟨Keep.ty (g:=g) "list" Φ' Ψ s' hp,W.mono (call_list_filt r hs q) fun _ _ z=>Ret.up l₁ z⟩
end
section
variable {w:World} {A:Around} {E:Value→Shared→Prop} {s:Shared} {M:Model}
noncomputable def SubL (h:Heap) (a:Addr) (us:Array Value):Prop:=∃ o n,h.get? a=some o∧o.data=.seq us n
theorem SubL.keep {h h':Heap} {a:Addr} {us:Array Value} (x:SubL h a us) (k:∀ o,h.get? a=some o→h'.get? a=some o):SubL h' a us:=let ⟨o,n,e,d⟩:=x;⟨o,n,k _ e,d⟩
theorem check_sub {id owner n:String} {a C:Addr} {o:Obj} {rest:List Value} {kw:List (Str × Value)} {Q:Unit→Shared→Prop} (hsplit:splitId id=some (owner,n))
  (hkind:(Manifest.find? owner).bind (·.attrs.lookup n)=some .slot∨(Manifest.find? owner).bind (·.attrs.lookup n)=some .method)
  (ho:s.heap.get? a=some o) (hc:o.cls=.ref C) (hsub:Looks M s.heap (isSubtype (.ref C) (.type owner)) true) (ha:argsOk id ⟨.ref a::rest,kw⟩) (h:Q () s):wpAny M A (checkBuiltinCall id ⟨.ref a::rest,kw⟩) Q E s:=by
 have hk:builtinKind id=(Manifest.find? owner).bind (·.attrs.lookup n):=by simp only[builtinKind,hsplit]
 have hi:wpAny M A (isInstance (.ref a) (.type owner)) (fun b s'=>b=true∧s'=s) E s:=by
  simp only[isInstance,typeOf]
  exact wpAny_bind (wpAny_bind (wpAny_load ho (wpAny_pure (by rw[hc];exact hsub.here ⟨rfl,rfl⟩))))
 rcases hkind with hh | hh <;>
 ·simp only[checkBuiltinCall,hk,hh,hsplit]
  refine wpAny_bind (wpAny_mono hi (fun b s' q=>?_) fun _ _ e=>e)
  obtain⟨rfl,rfl⟩:=q
  first | refine PySem.W.KFB.if_not rfl ?_ | simp only[Bool.not_true,Bool.false_eq_true,if_false]
  cases hsig:Manifest.signature? id with
  | none=>exact wpAny_pure h
  | some sig=>
   simp only[argsOk,hsig] at ha
   have h2:Bind.checkArgs id sig ⟨.ref a::rest,kw⟩=pure ():=ha
   show wpAny M A (Bind.checkArgs id sig ⟨.ref a::rest,kw⟩) Q E s'
   rw[h2];exact wpAny_pure h
end
section
variable {w:World} {A:Around} {E:Value→Shared→Prop} {s:Shared}
theorem sub_next_item {it l:Addr} {i:Nat} {items:Array Value} {x:Value} {Q:Option Value→Shared→Prop} (hit:s.heap.IsListIter it l i) (hl:SubL s.heap l items) (hx:items[i]?=some x)
  (hQ:∀ h',h'.IsListIter it l (i+1)→Heap.SameBut it s.heap h'→Q (some x) {s with heap:=h'}):wpAny (model PR w) A (pyNext (.ref it)) Q E s:=by
 refine box fun bX bk=>?_
 obtain⟨o,ho,hc,hd⟩:=id hit
 obtain⟨ol,nl,hol,hdl⟩:=hl
 refine bk ?_
 clear bk bX
 unfold pyNext
 refine wpAny_bind (wpAny_attempt (wpAny_callSpecial?_slot (name:=Str.ofString "__next__") hit.typeIs slot_listiter_next (wpAny_call_entry slot_listiter_next hit.typeIs entry_listiter_next ?_ (args_listiter_next _))))
 show wpAny _ _ (field (.ref it) 0>>=_) _ _ s
 refine wpAny_bind (wpAny_field ho hd (x:=.ref l) rfl ?_)
 show wpAny _ _ (if (Value.ref l==Value.none)=true then _ else _) _ _ s
 rw[if_neg (show ¬ ((Value.ref l==Value.none)=true) from Bool.false_ne_true)]
 show wpAny _ _ (field (.ref it) 1>>=_) _ _ s
 refine wpAny_bind (wpAny_field ho hd (x:=.int i 0) rfl ?_)
 show wpAny _ _ (seqItems? (.ref l)>>=_) _ _ s
 refine wpAny_bind (wpAny_seqItems hol hdl ?_)
 simp only[Int.toNat_natCast,hx]
 refine wpAny_bind (wpAny_setField ho hd (by simp) (wpAny_pure ⟨x,rfl,wpAny_pure (hQ _ ?_ (Heap.SameBut.update ..))⟩))
 exact⟨_,Heap.get?_update_self _ ho (Obj.isFreed_of_fields (Obj.data_mapFields hd _)),(Obj.cls_mapFields ..).trans hc,by
  rw[Obj.data_mapFields hd];simp[rawInt]⟩
theorem sub_next_end {it l:Addr} {i:Nat} {items:Array Value} {Q:Option Value→Shared→Prop} (hh:A.handled=none) (hit:s.heap.IsListIter it l i) (hl:SubL s.heap l items) (hx:items[i]?=none)
  (hQ:∀ h',Heap.ExtBut it s.heap h'→Q none {s with heap:=h'}):wpAny (model PR w) A (pyNext (.ref it)) Q E s:=by
 refine box fun bX bk=>?_
 obtain⟨o,ho,hc,hd⟩:=id hit
 obtain⟨ol,nl,hol,hdl⟩:=hl
 refine bk ?_
 clear bk bX
 unfold pyNext
 refine wpAny_bind (wpAny_attempt (wpAny_callSpecial?_slot (name:=Str.ofString "__next__") hit.typeIs slot_listiter_next (wpAny_call_entry slot_listiter_next hit.typeIs entry_listiter_next ?_ (args_listiter_next _))))
 show wpAny _ _ (field (.ref it) 0>>=_) _ _ s
 refine wpAny_bind (wpAny_field ho hd (x:=.ref l) rfl ?_)
 show wpAny _ _ (if (Value.ref l==Value.none)=true then _ else _) _ _ s
 rw[if_neg (show ¬ ((Value.ref l==Value.none)=true) from Bool.false_ne_true)]
 show wpAny _ _ (field (.ref it) 1>>=_) _ _ s
 refine wpAny_bind (wpAny_field ho hd (x:=.int i 0) rfl ?_)
 show wpAny _ _ (seqItems? (.ref l)>>=_) _ _ s
 refine wpAny_bind (wpAny_seqItems hol hdl ?_)
 simp only[Int.toNat_natCast,hx]
 refine wpAny_bind (wpAny_rule (wpAny_bind (wpAny_setField ho hd (by simp) ?_)))
 show wpAny _ _ (newExc (.type "StopIteration") []>>=_) _ _ _
 refine wpAny_bind ?_
 rw[newExc,newTuple]
 refine wpAny_bind (wpAny_newObj_type ?_ (by size_fits))
 refine wpAny_bind (m:=firstArgMember _ _) (wpAny_of_eq (a:=Value.none) (by first | rfl | (unfold firstArgMember;rfl)) ?_)
 refine wpAny_newObj_type ?_ (by size_fits)
 unfold raiseNew
 refine wpAny_bind (wpAny_handled ?_)
 first | rw[show A.in1.handled=none from hh] | rw[hh]
 refine wpAny_bind (wpAny_pure (wpAny_throw ?_))
 refine wpAny_bind (wpAny_isInstance (T:="StopIteration") (b:=true) ⟨_,Heap.get?_push_size _ rfl,rfl⟩ isSubtype_stop ?_)
 exact wpAny_pure (hQ _ (((Heap.SameBut.update ..).extBut.push _).push _))
structure SubI (w:World) (s:Shared) (a C:Addr):Prop where
 kin:(KB w).In s.heap
 at_:∃ o,s.heap.get? a=some o∧o.cls=.ref C
theorem SubI.special {a C:Addr} {name:Str} {r:Option Value} {Q:Option Value→Shared→Prop} (x:SubI w s a C) (hf:findIn (KB w) (.ref C) name=some r) (h:Q r s):wpAny (model PR w) A (specialOf (.ref a) name) Q E s:=by
 obtain⟨o,ho,hc⟩:=x.at_
 simp only[specialOf,typeOf]
 exact wpAny_bind (wpAny_bind (wpAny_load ho (wpAny_pure (by rw[hc];exact(looks_findIn x.kin hf).here h))))
structure OwnedBy (w:World) (C:Addr) (id owner n:String):Prop where
 split:splitId id=some (owner,n)
 kind:(Manifest.find? owner).bind (·.attrs.lookup n)=some .slot∨(Manifest.find? owner).bind (·.attrs.lookup n)=some .method
 sub:subIn (KB w) (.ref C) (.type owner)=some true
 plain:plainId id=true
theorem call_sub {id owner n:String} {a C:Addr} {B:Builtin} {rest:List Value} {Q:Value→Shared→Prop} (x:SubI w s a C) (ob:OwnedBy w C id owner n) (he:entryFor table id=some B) (ha:argsOk id ⟨.ref a::rest,[]⟩)
  (h:wpAny (model PR w) A.in1 (B ⟨.ref a::rest,[]⟩) (fun fin s'=>∃ v,fin=.done (.ret v)∧Q v s') E s):wpAny (model PR w) A (call (.builtin id) (.ref a::rest)) Q E s:=by
 obtain⟨o,ho,hc⟩:=x.at_
 refine wpAny_call (codeAny_call_builtin ob.plain he (check_sub ob.split ob.kind ho hc (looks_subIn x.kin ob.sub) ha ?_))
 exact wpAny_mono h (fun fin s' q0=>q0.elim fun v q0=>q0.elim fun e q=>by subst e;exact q) fun _ _ e=>e
theorem pyIter_sub {a C:Addr} {us:Array Value} {Q:Value→Shared→Prop} (x:SubI w s a C) (ob:OwnedBy w C "list.__iter__" "list" "__iter__") (hf:findIn (KB w) (.ref C) "__iter__"=some (some (.builtin "list.__iter__")))
  (hQ:Q (.ref s.heap.objs.size) {s with heap:=s.heap.push {cls:=.type "list_iterator",data:=.fields #[.ref a,.int 0 0]}}):wpAny (model PR w) A (pyIter (.ref a)) Q E s:=by
 unfold pyIter
 refine wpAny_bind (x.special hf ?_)
 dsimp only
 refine wpAny_bind (m:=callSpecialIfBoundUnlessNone? _ _ _) ?_
 rw[callSpecialIfBoundUnlessNone?,bindSpecialIfBound?]
 refine wpAny_holding (wpAny_bind (wpAny_bind (x.special hf ?_)))
 simp -iota only[slot_list_iter.bind]
 refine wpAny_bind (wpAny_askSetting (wpAny_ite ?_))
 have fin:wpAny (model PR w) A (if (Value.builtin "list.__iter__"==Value.none)=true then((do rule "iter.none";raiseError "TypeError" s!"'{← typeNameOf (.ref a)}' object is not iterable")>>=fun v=>pure (some v)) else(call (.builtin "list.__iter__") [.ref a]>>=fun v=>pure (some v)))
   (fun r s'=>wpAny (model PR w) A (match r with | some it=>(do match ←specialOf it "__next__" with | none=>(do rule "iter.non-iterator";raiseError "TypeError" s!"iter() returned non-iterator of type '{← typeNameOf it}'") | some _=>pure it) | none=>(do match ←bindSpecialIfBound? (.ref a) "__getitem__" with | none=>(do rule "iter.not-iterable";raiseError "TypeError" s!"'{← typeNameOf (.ref a)}' object is not iterable") | some _=>(do rule "iter.getitem-fallback";newFields "iterator" [.ref a,←mkInt 0]))) Q E s') E s:=by
  rw[show(Value.builtin "list.__iter__"==Value.none)=false from rfl]
  first | refine PySem.W.KFB.if_not rfl ?_ | refine PySem.W.KFB.if_not rfl ?_
  refine wpAny_bind (call_sub x ob entry_list_iter (args_list_iter _) ?_)
  show wpAny _ _ (do ret (←newFields "list_iterator" [.ref a,rawInt 0])) _ _ s
  refine wpAny_bind (wpAny_newObj_type (wpAny_pure ⟨_,rfl,wpAny_pure ?_⟩))
  exact wpAny_bind (wpAny_specialOf (T:="list_iterator") ⟨_,Heap.get?_push_size _ rfl,rfl⟩ slot_listiter_next.lookup (wpAny_pure hQ))
 split
 ·exact wpAny_bind (wpAny_pure (wpAny_pure fin))
 ·exact wpAny_tryCatch (wpAny_bind (wpAny_pure (wpAny_pure fin)))
theorem Walks.subPairs (hh:A.handled=none) (I ax:Addr) (hne:ax≠I) (items:Array Value) (Ts:Nat→Addr) (vals:Nat→Array Value)
  (hit:∀ j,j<items.size→items[j]?=some (.ref (Ts j))) (hTI:∀ j,j<items.size→Ts j≠I) :
  WalksU PR w A I (I::ax::(List.range items.size).map Ts) [I] items.size (fun j v=>j<items.size∧v=vals j)
   (fun j h=>h.IsListIter I ax j∧SubL h ax items∧∀ k,k<items.size→h.IsTuple (Ts k) (vals k))
   (fun j T h=>(j<items.size∧T=Ts j)∧h.IsListIter I ax (j+1)∧SubL h ax items∧∀ k,k<items.size→h.IsTuple (Ts k) (vals k)) where
 sub:=fun b hb=>by simp -iota at hb;simp -iota [hb]
 frame:=fun _ _ _ st hk=>⟨st.1.at fun o e=>hk I mA o e,st.2.1.keep fun o e=>hk ax mB o e,
  fun k hk'=>(st.2.2 k hk').at fun o e=>hk (Ts k) (List.mem_cons_of_mem _ (List.mem_cons_of_mem _ (List.mem_map.mpr ⟨k,List.mem_range.mpr hk',rfl⟩))) o e⟩
 item:=fun i s Q E hi st hQ=>by
  refine sub_next_item st.1 st.2.1 (x:=.ref (Ts i)) (hit i hi) fun h' hit' hs'=>?_
  have tup:∀ k,k<items.size→h'.IsTuple (Ts k) (vals k):=fun k hk'=>(st.2.2 k hk').extBut hs'.extBut (hTI k hk')
  exact hQ (Ts i) (vals i) h' s.toks ⟨hi,rfl⟩ (tup i hi) ⟨⟨hi,rfl⟩,hit',st.2.1.keep fun o e=>hs'.extBut _ _ hne e,tup⟩ fun b o hb e=>hs'.extBut b o (fun h=>hb (by simp -iota [h])) e
 go:=fun _ _ _ _ _ s Q _ hm hQ=>wpAny_letOwnedTupleGo_listiter hm.2.1 (hQ s.heap hm.2 fun _ _ _ e=>e)
 apart:=fun j T _ hm hmem=>by
  rcases List.mem_cons.mp hmem with e | e
  ·exact hTI j hm.1.1 (hm.1.2▸e)
  ·cases e
 done:=fun s Q E st hQ=>sub_next_end hh st.1 st.2.1 (by simp) fun h' he'=>hQ h' s.toks fun b o hb e=>he' b o (fun h=>hb (by simp -iota [h])) e
 self:=fun _ _ _ _ st hQ=>wpAny_pyIter_listiter st.1 hQ
end
section
variable {g:Glob} {d:Nat} {sc:Scope} {σ:Sig} {env:Env} {A:Around} {Φ Ψ:PH} {s:Shared}
theorem gen_code {c P:Addr} {qual:Str} {scope:Scope} {pos:Pos} {Q:Value→Shared→Prop} (hp:Hp g Φ Ψ s) (hP:P∈tabs) (hcode:env.code=.ref c) (hC:codeHdIn (KB g.w) c P=true) (hrow:tabRow P=((pos.line:Int),(pos.col:Int),qual))
  (k:∀ v Φ' h' tk,PH.le Φ Φ'→Hp g Φ' Ψ {s with heap:=h',toks:=tk}→(∀ b o,b≠P→s.heap.get? b=some o→h'.get? b=some o)→(∀ b,b<s.heap.objs.size→Φ' b=Φ b)→s.heap.objs.size≤h'.objs.size→Q v {s with heap:=h',toks:=tk}):W g.w A (genexprCode env pos qual scope) Q s:=by
 obtain⟨p1,p2,vs,e,hv⟩:=hp.tab P hP
 have C:CodeHd s.heap c P:=codeHd_of_K hp.kin hC
 have tabsLt:∀ a∈tabs,a<s.heap.objs.size:=fun a ha=>by obtain⟨_,_,vs,e,_⟩:=hp.tab a ha;exact Heap.lt_size e
 rw[hrow] at hv
 rcases hv with rfl | ⟨cv,rfl,hcv⟩
 ·refine wpAny_genexprCodeX hcode (C.code e trivial) (C.tab e) rfl fun c' h' tk hx hge hlt hcode' hrec htab _=>?_
  obtain⟨c2,oc,us,t,q1,q2,q3,q4⟩:=hrec
  cases q1
  have fr:∀ a,s.heap.objs.size≤a→s.heap.get? a=none:=fun a ha=>Heap.get?_none_of_le ha
  have hΦ:Φ c'=none:=by
   cases q:Φ c' with
   | none=>rfl
   | some o=>have:=hp.fr _ _ q;rw[fr c' hge] at this;cases this
  have hΨ:Ψ c'=none:=by
   cases q:Ψ c' with
   | none=>rfl
   | some o=>have:=hp.mu _ _ q;rw[fr c' hge] at this;cases this
  have ht:c'∉tabs:=fun q=>absurd (tabsLt c' q) (Nat.not_lt.mpr hge)
  have l1:PH.le Φ (Φ.put c' oc):=PH.le_put oc hΦ
  refine k _ (Φ.put c' oc) h' tk l1 ?_ (fun b o hb eo=>hx b o hb eo) (fun b hb=>PH.put_other _ _ (fun q=>by rw[q] at hb;exact absurd hb (Nat.not_lt.mpr hge))) (Nat.le_trans hge (Nat.le_of_lt hlt))
  refine⟨fun b ob eb=>l1 _ _ (hp.k b ob eb),hp.b.mono l1,fun b ob eb=>?_,fun b ob eb=>hx b ob (fun q=>by rw[q,p2] at eb;cases eb) (hp.mu b ob eb),fun b=>?_,fun P' hP'=>?_,hp.gens,hp.os⟩
  ·by_cases q:b=c'
   ·subst q;rw[PH.put_self] at eb;cases eb;exact q2
   ·rw[PH.put_other Φ oc q] at eb
    exact hx b ob (fun q=>by rw[q,p1] at eb;cases eb) (hp.fr b ob eb)
  ·by_cases q:b=c'
   ·subst q;exact .inr hΨ
   ·rw[PH.put_other Φ oc q];exact hp.dis b
  ·obtain⟨z1,z2,vs',z3,z4⟩:=hp.tab P' hP'
   have hne:P'≠c':=fun q=>ht (q▸hP')
   refine⟨by rw[PH.put_other Φ oc hne];exact z1,z2,?_⟩
   by_cases q:P'=P
   ·subst q
    refine⟨[rawInt pos.line,rawInt pos.col,.ref c'],by rw[htab.2];rfl,.inr ⟨.ref c',by rw[hrow],?_⟩⟩
    rw[hrow]
    exact⟨c',oc,us,t,rfl,PH.put_self _ _ _,q3,q4⟩
   ·refine⟨vs',hx _ _ q z3,z4.imp id fun q0=>q0.elim fun c q0=>q0.elim fun e1 e2=>⟨c,e1,e2.mono l1⟩⟩
 ·refine wpAny_genexprCode_hit hcode (C.code e trivial) (c':=cv) (by simp[codeAmong,rawInt]) ?_
  exact k cv Φ s.heap s.toks (PH.le.refl _) (hp.tok _) (fun b o _ e=>e) (fun b _=>rfl) (Nat.le_refl _)
theorem Hp.gens' {gens:Array GenState} (x:Hp g Φ Ψ s) (h:AllBare gens):Hp g Φ Ψ {s with gens:=gens}:=⟨x.k,x.b,x.fr,x.mu,x.dis,x.tab,h,x.os⟩
theorem Hp.movedQ {wr:List Addr} {s':Shared} {gi:Nat} (x:Hp g Φ Ψ s) (m:Moved wr (GenOnlyQ gi) s s') (hw:∀ b∈wr,Φ b=Option.none∧Ψ b=Option.none∧b∉tabs):Hp g Φ Ψ s':=by
 refine⟨x.k,x.b,fun b o e=>m.heap b o (fun q=>by rw[(hw b q).1] at e;cases e) (x.fr b o e),fun b o e=>m.heap b o (fun q=>by rw[(hw b q).2.1] at e;cases e) (x.mu b o e),x.dis,fun P hP=>?_,?_,m.os.trans x.os⟩
 ·refine box fun bX bk=>?_
  obtain⟨h1,h2,vs,e,h3⟩:=x.tab P hP
  refine bk ?_
  clear bk bX
  exact⟨h1,h2,vs,m.heap P _ (fun q=>(hw P q).2.2 hP) e,h3⟩
 ·exact GenOnlyQ.bare m.gens x.gens
structure GenM (g:Glob) (A:Around) (Φ₁ Ψ:PH) (n:Nat) (F:Nat→Value→Prop) (a:Addr) (s:Shared):Prop where
 ex:∃ Φ fp wr gi St,PH.le Φ₁ Φ∧Hp g Φ Ψ s∧WalksS PR g.w A.in4 a fp wr (GenOnlyQ gi) n F St∧St 0 s∧(∀ i s',St i s'→s'.TypeIs (.ref a) "generator")∧(∀ b∈fp,b<s.heap.objs.size)∧a∈fp∧∀ b∈wr,Φ b=Option.none∧Ψ b=Option.none∧b∉tabs
noncomputable def pairAV (p:Str × Str):AV:=.tup [.str p.1,.str p.2]
theorem pair_at {pairs:List (Str × Str)} {us:List Value} (h:RepL Φ (pairs.map pairAV) us):∀ (j:Nat) (p:Str × Str),pairs[j]?=some p→∃ T n t u,us[j]?=some (.ref T)∧Φ T=some {cls:=.type "tuple",data:=.seq #[.str p.1 t,.str p.2 u] n}:=by
 intro j p hj
 obtain⟨v,e,rv⟩:=repL_get h (i:=j) (x:=pairAV p) (by rw[List.getElem?_map,hj];rfl)
 refine box fun bX bk=>?_
 obtain⟨T,o,vs,rfl,ho,⟨n,rfl⟩,hx⟩:=tup_inv rv
 refine bk ?_
 clear bk bX
 refine box fun bX bk=>?_
 obtain⟨v1,w1,e1,r1,h1⟩:=repL_cons_inv hx
 obtain⟨v2,w2,e2,r2,h2⟩:=repL_cons_inv h1
 refine bk ?_
 clear bk bX
 have:=repL_nil_inv h2
 subst this;subst e2
 refine box fun bX bk=>?_
 obtain⟨t,rfl⟩:=str_inv r1
 obtain⟨u,rfl⟩:=str_inv r2
 refine bk ?_
 clear bk bX
 refine⟨T,n,t,u,e,?_⟩
 rw[ho]
 have:vs=#[.str p.1 t,.str p.2 u]:=by
  have:=congrArg List.toArray e1
  simpa using this
 rw[this]
noncomputable def refOf (us:List Value) (j:Nat):Addr:=match us[j]? with
 | some (.ref a)=>a
 | _=>0
noncomputable def valsOf (h:Heap) (a:Addr):Array Value:=match h.get? a with
 | some o=>(match o.data with
  | .seq vs _=>vs
  | _=>#[])
 | none=>#[]
theorem passing_all (n:Nat):passing (fun _=>true) n 0=List.range n:=by
 unfold passing
 rw[List.drop_zero]
 exact List.filter_eq_self.mpr (by simp)
theorem exI9 {α0 α1 α2 α3 α4 α5 α6 α7 α8:Type} {P:α0→α1→α2→α3→α4→α5→α6→α7→α8→Prop} (x0:α0) (x1:α1) (x2:α2) (x3:α3) (x4:α4) (x5:α5) (x6:α6) (x7:α7) (x8:α8) (h:P x0 x1 x2 x3 x4 x5 x6 x7 x8):∃ x0 x1 x2 x3 x4 x5 x6 x7 x8,P x0 x1 x2 x3 x4 x5 x6 x7 x8:=⟨x0,x1,x2,x3,x4,x5,x6,x7,x8,h⟩
theorem gen_make {elt iter:PySem.Expr} {xa xb:Str} {pa pb pt pos:Pos} {kt:Nat} {scope:Scope} {c P ax C dd:Addr} {pairs:List (Str × Str)} {F:Nat→Value→Prop} (r:Room d A) (x:Pre g sc σ env Φ Ψ s) (hP:P∈tabs) (hcode:env.code=.ref c) (hC:codeHdIn (KB g.w) c P=true) (hrow:tabRow P=((pos.line:Int),(pos.col:Int),env.qual++"<genexpr>"))
  (hco:scope.isCoroutine=false) (hfree:∀ x,(x,NameKind.free)∉scope.names) (hcell:∀ y∈scope.names,y.2≠.cell) (h0:scope.names.lookup (".0":Str)=some NameKind.local) (hxa:scope.names.lookup xa=some .local) (hxb:scope.names.lookup xb=some .local) (hab:xa≠xb) (hkind:scope.kind=.function)
  (hiter:Ev g d sc σ iter (.ref ax)) (ha:σ.own.lookup ax=some (.sub C dd (pairs.map pairAV))) (hob:OwnedBy g.w C "list.__iter__" "list" "__iter__") (hfi:findIn (KB g.w) (.ref C) "__iter__"=some (some (.builtin "list.__iter__")))
  (helt:∀ (cenv:Env) (A':Around) (E':Value→Shared→Prop) i (s₂:Shared) m₂ (p:Str × Str) t u,cenv.scope=scope→cenv.globals=mainGlobals→cenv.builtins=builtinsNs→A'.handled=none→pairs[i]?=some p→s₂.heap.Ns cenv.locals m₂→m₂ xa=some (.str p.1 t)→m₂ xb=some (.str p.2 u)→(KB g.w).In s₂.heap→(∃ Φ₀,Bins Φ₀∧Sub Φ₀ s₂.heap) →
   wpAny (model PR g.w) A' (eval elt cenv) (fun v s₃=>F i v∧Keeps s₂ s₃) E' s₂)
  (hs:autoParam (∀ env x,genFold iter env x=pure x) aR) :
  W g.w A (eval (.GeneratorExp elt [⟨.Tuple [.Name xa pa,.Name xb pb] kt pt,iter,[],0⟩] scope pos) env) (fun v s'=>∃ a,v=.ref a∧GenM g A Φ Ψ pairs.length F a s') s:=by
 refine wpAny_GeneratorExp_walksQT r.hd hco (closureFor_is fun x hx=>absurd hx (hfree x)) hcell h0 hxa hxb hab hkind r.lt ?_ (hs env)
 refine hiter.run r x fun Φ₁ v s₁ l₁ x₁ r₁=>?_
 replace r₁:_=_:=r₁
 subst r₁
 refine box fun X k=>?_
 refine box fun bX bk=>?_
 obtain⟨ox,hox,hcls,hdict,us,m,hdat,hrep⟩:=x₁.own ax _ ha
 refine bk ?_
 clear bk bX
 refine k ?_
 clear k X
 have hax:=x₁.hp.getΨ hox
 refine pyIter_sub (us:=us) ⟨x₁.hp.kin,ox,hax,hcls⟩ hob hfi ?_
 have hp₂:Hp g Φ₁ Ψ {s₁ with heap:=s₁.heap.push {cls:=.type "list_iterator",data:=.fields #[.ref ax,.int 0 0]}}:=x₁.hp.ext (tk:=s₁.toks) fun b o e=>Heap.get?_push_of_some _ e
 have hI:(s₁.heap.push {cls:=.type "list_iterator",data:=.fields #[.ref ax,.int 0 0]}).get? s₁.heap.objs.size=some {cls:=.type "list_iterator",data:=.fields #[.ref ax,.int 0 0]}:=Heap.get?_push_size _ rfl
 have hIP:s₁.heap.objs.size≠P:=fun q=>(x₁.hp.tabNe hP).1 q.symm
 refine⟨hp₂.nolimit,?_⟩
 refine gen_code hp₂ hP hcode hC hrow fun code Φ₃ h₃ tk₃ l₃ hp₃ hk₃ hΦ₃ hsz₃=>?_
 refine box fun X k=>?_
 refine box fun bX bk=>?_
 obtain⟨mg,hns,bm,ob,hb1,hb2,hb3,hb4,hb5,hb6,hb7,hb8⟩:=hp₃.builtinsAt hP
 refine bk ?_
 clear bk bX
 refine k ?_
 clear k X
 have hgl:env.globals=mainGlobals:=x.ev.gl
 refine wpAny_builtinsFor (by rw[hgl];exact hns) hb1 hb2 hb5 hb6 hb7 hb8 ?_
 have hlen:us.size=pairs.length:=by have:=repL_length hrep;simpa using this
 have hat:∀ j (hj:j<us.size),∃ T n t u,us[j]?=some (.ref T)∧Φ₁ T=some {cls:=.type "tuple",data:=.seq #[.str (pairs[j]'(hlen▸hj)).1 t,.str (pairs[j]'(hlen▸hj)).2 u] n}:=fun j hj=>by
  have:=pair_at hrep j _ (List.getElem?_eq_getElem (hlen▸hj))
  simpa using this
 have lt₁:∀ b o,Φ₁ b=some o→b<s₁.heap.objs.size:=fun b o e=>Heap.lt_size (x₁.hp.getΦ e)
 have tup:∀ j (hj:j<us.size),∃ t u,us[j]?=some (.ref (refOf us.toList j))∧refOf us.toList j≠s₁.heap.objs.size∧h₃.IsTuple (refOf us.toList j) (valsOf h₃ (refOf us.toList j))∧valsOf h₃ (refOf us.toList j)=#[.str (pairs[j]'(hlen▸hj)).1 t,.str (pairs[j]'(hlen▸hj)).2 u]:=fun j hj=>by
  refine box fun bX bk=>?_
  obtain⟨T,n,t,u,e1,e2⟩:=hat j hj
  refine bk ?_
  clear bk bX
  have eT:refOf us.toList j=T:=by unfold refOf;rw[Array.getElem?_toList,e1]
  have e3:h₃.get? T=some {cls:=.type "tuple",data:=.seq #[.str (pairs[j]'(hlen▸hj)).1 t,.str (pairs[j]'(hlen▸hj)).2 u] n}:=hp₃.getΦ (l₃ _ _ e2)
  have eV:valsOf h₃ T=#[.str (pairs[j]'(hlen▸hj)).1 t,.str (pairs[j]'(hlen▸hj)).2 u]:=by unfold valsOf;rw[e3]
  rw[eT]
  exact⟨t,u,e1,Nat.ne_of_lt (lt₁ _ _ e2),⟨_,e3,rfl,n,by rw[eV]⟩,eV⟩
 have hI₃:h₃.get? s₁.heap.objs.size=some {cls:=.type "list_iterator",data:=.fields #[.ref ax,.int 0 0]}:=hk₃ _ _ hIP hI
 have hszI:s₁.heap.objs.size<(s₁.heap.push {cls:=.type "list_iterator",data:=.fields #[.ref ax,.int 0 0]}).objs.size:=by rw[Heap.size_push];exact Nat.lt_succ_self _
 have hΦI:Φ₃ s₁.heap.objs.size=Option.none:=by rw[hΦ₃ _ hszI];exact x₁.hp.freshΦ
 have hax₃:h₃.get? ax=some ox:=hp₃.getΨ hox
 refine exI9 s₁.heap.objs.size _ [s₁.heap.objs.size] us.size _ _ _ (fun _=>true) F ⟨rfl,fun A' hA=>Walks.subPairs (w:=g.w) hA s₁.heap.objs.size ax (Nat.ne_of_lt (Heap.lt_size hax)) us (refOf us.toList) (fun j=>valsOf h₃ (refOf us.toList j)) (fun j hj=>(tup j hj).choose_spec.choose_spec.1) (fun j hj=>(tup j hj).choose_spec.choose_spec.2.1),?_,⟨⟨_,hI₃,rfl,rfl⟩,⟨ox,m,hax₃,hdat⟩,fun j hj=>(tup j hj).choose_spec.choose_spec.2.2.1⟩,?_,hp₃.nolimit,?_,?_,?_⟩
 ·rintro j vals ⟨hj,rfl⟩
  refine box fun bX bk=>?_
  obtain⟨t,u,_,_,_,e⟩:=tup j hj
  refine bk ?_
  clear bk bX
  exact⟨_,_,e⟩
 ·intro b hb
  rcases memc hb with rfl | hb
  ·exact Heap.lt_size hI₃
  ·rcases memc hb with rfl | hb
   ·exact Heap.lt_size hax₃
   ·refine box fun bX bk=>?_
    obtain⟨j,hj,rfl⟩:=List.mem_map.mp hb
    refine bk ?_
    clear bk bX
    refine box fun bX bk=>?_
    obtain⟨_,_,_,_,⟨o,e,_⟩,_⟩:=tup j (List.mem_range.mp hj)
    refine bk ?_
    clear bk bX
    exact Heap.lt_size e
 ·intro hm
  have e:=List.mem_singleton.mp hm
  refine box fun bX bk=>?_
  obtain⟨mc,⟨o,es,ep,ho,hd,_⟩,_⟩:=hp₃.nolimit
  refine bk ?_
  clear bk bX
  dsimp only at ho
  rw[e,hI₃] at ho;cases ho;cases hd
 ·intro href hk
  have hsub:∀ (s₂:Shared),(∀ b∈List.range h₃.objs.size,b∉[s₁.heap.objs.size]→∀ o,href.get? b=some o→s₂.heap.get? b=some o)→Sub Φ₃ s₂.heap:=fun s₂ hh b o e=>hh b (List.mem_range.mpr (Heap.lt_size (hp₃.getΦ e))) (fun hm=>by rw[List.mem_singleton.mp hm,hΦI] at e;cases e) o (hk _ _ (hp₃.getΦ e))
  refine⟨fun A' E' i va vb s₂ m₂ hA hPt hn e1 e2 hh=>wpAny_pure ⟨rfl,s₂.heap,s₂.toks,rfl,fun _ _ e=>e⟩,fun A' E' i va vb s₂ m₂ hA hPt _ hn e1 e2 hh=>?_⟩
  refine box fun bX bk=>?_
  obtain⟨hi,hv⟩:=hPt
  obtain⟨t,u,_,_,_,e⟩:=tup i hi
  refine bk ?_
  clear bk bX
  rw[e] at hv
  have h1:va=.str (pairs[i]'(hlen▸hi)).1 t∧vb=.str (pairs[i]'(hlen▸hi)).2 u:=by simpa using hv
  have hS:=hsub s₂ hh
  exact helt (genEnv scope (closL env.cells scope.names []) h₃.objs.size code builtinsNs env) A' E' i s₂ m₂ _ t u rfl hgl rfl hA (List.getElem?_eq_getElem (hlen▸hi)) hn (by rw[e1,h1.1]) (by rw[e2,h1.2]) (fun a o e=>hS _ _ (hp₃.k a o e)) ⟨Φ₃,hp₃.b,hS⟩
 ·intro a h₅ tk gs hgb hag hsz₅ hk₅ W hat0
  rw[passing_all,List.length_range,hlen] at W
  rw[hlen] at hat0
  have hp₅:Hp g Φ₃ Ψ {s₁ with heap:=h₅,toks:=tk,gens:=s₁.gens.push gs}:=(hp₃.ext (tk:=tk) hk₅).gens' (x₁.hp.gens.push hgb)
  refine⟨a,rfl,⟨Φ₃,_,_,_,_,l₁.trans l₃,hp₅,W.imp (fun j y q0=>q0.elim fun i q0=>q0.elim fun e1 e2=>?_),hat0,fun i s' st=>st.1.typeIs,?_,List.mem_cons_self,?_⟩⟩
  ·have:i=j:=by
    rw[List.getElem?_eq_some_iff] at e1
    refine box fun bX bk=>?_
    obtain⟨h1,h2⟩:=e1
    refine bk ?_
    clear bk bX
    simpa using h2.symm
   rw[←this];exact e2
  ·intro b hb
   show b<h₅.objs.size
   rw[hsz₅]
   rcases memc hb with rfl | hb
   ·exact Nat.lt_succ_self _
   ·rcases memc hb with rfl | hb
    ·exact Nat.lt_succ_of_lt hag
    ·exact Nat.lt_succ_of_lt (Nat.lt_trans (List.mem_range.mp hb) hag)
  ·intro b hb
   rcases memc hb with rfl | hb
   ·exact⟨hp₃.freshΦ,hp₃.freshΨ,fun q=>(hp₃.tabNe q).1 rfl⟩
   ·rw[List.mem_singleton.mp hb]
    exact⟨hΦI,x₁.hp.freshΨ,fun q=>(x₁.hp.tabNe q).1 rfl⟩
theorem args_sum2 (a b:Value):argsOk "sum" ⟨[a,b],[]⟩:=by unfold argsOk;kernel_rfl
theorem sum_gen {a:Addr} {n:Nat} {F:Nat→Value→Prop} {t:Tok} (val:Nat→Int) (hval:∀ i v,F i v→∃ t,v=.int (val i) t) (x:GenM g A Φ Ψ n F a s):W g.w A (call (.builtin "sum") [.ref a,.int 0 t]) (Ret g Φ Ψ (.int (preSum val n))) s:=by
 refine box fun bX bk=>?_
 obtain⟨Φ',fp,wr,gi,St,l,hp,W,hst,hT,hfp,hin,hwr⟩:=x.ex
 refine bk ?_
 clear bk bX
 refine call_function_tree PySem.F.kind_sum PySem.F.plain_sum PySem.F.entry_sum (args_sum2 _ _) ?_
 unfold Builtin.«sum»
 rw[if_neg (by simp)]
 refine wpAny_bind (wpAny_of_eq (show Builtin.Builtins.bindParams "sum" ["start"] 0 ⟨[.int 0 t],[]⟩=pure [some (.int 0 t)] from rfl) ?_)
 refine wpAny_bind (W.in4_1.self 0 _ _ _ hst ?_)
 dsimp only
 rw[if_pos (by decide)]
 refine wpAny_bind (wpAny_rule ?_)
 refine wpAny_bind (wpAny_mkInt ?_)
 refine wpAny_bind (wpAny_pure ?_)
 simp -iota only[List.forIn_cons,List.forIn_nil]
 refine wpAny_bind (wpAny_bind (wpAny_bind (wpAny_isInstance (T:="int") (b:=false) (typeIs_int _ _ _) PySem.sub_int_str ?_)))
 refine PySem.W.KFB.if_not rfl ?_
 refine wpAny_pure (wpAny_bind (wpAny_bind (wpAny_isInstance (T:="int") (b:=false) (typeIs_int _ _ _) PySem.sub_int_bytes ?_)))
 refine PySem.W.KFB.if_not rfl ?_
 refine wpAny_pure (wpAny_bind (wpAny_bind (wpAny_isInstance (T:="int") (b:=false) (typeIs_int _ _ _) PySem.sub_int_bytearray ?_)))
 refine PySem.W.KFB.if_not rfl ?_
 refine wpAny_pure (wpAny_pure ?_)
 refine wpAny_bind (wpAny_newObj_type ?_)
 have hSf:s.heap.objs.size∉fp:=fun hm=>Nat.lt_irrefl _ (hfp _ hm)
 refine wpAny_pure ⟨plainId_quiet PySem.F.plain_sum_loop _,codeAny_sum_loopAnyS W.in4_1 val hval s.heap.objs.size hSf n 0 _ s.toks 0 0 (.inl rfl) rfl (Nat.zero_le _)
  (W.frame 0 s _ _ hst (by first | exact Nat.le_refl _ | exact Nat.le_succ _ | lia) fun b _ o e=>Heap.get?_push_of_some _ e) (Heap.get?_push_size _ rfl) fun s' t' hm=>?_⟩
 have hm':=hm.drop_new (by first | exact Nat.le_refl _ | exact Nat.le_succ _ | lia)
 exact⟨Φ',l,hp.movedQ hm' hwr,rep_int⟩
theorem join_gen {a:Addr} {n:Nat} {F:Nat→Value→Prop} {sep:Str} {t:Tok} (tx:Nat→Str) (htx:∀ i v,F i v→∃ u,v=.str (tx i) u) (hn:small n) (hok:JoinOk sep ((List.range n).map tx)=true) (x:GenM g A Φ Ψ n F a s):W g.w A (call (.builtin "str.join") [.str sep t,.ref a]) (Ret g Φ Ψ (.str (Txt.join sep ((List.range n).map tx)))) s:=by
 refine box fun bX bk=>?_
 obtain⟨Φ',fp,wr,gi,St,l,hp,W,hst,hT,hfp,hin,hwr⟩:=x.ex
 refine bk ?_
 clear bk bX
 refine SC.joinGen W.in4_2 hT hst hfp hin (fun i v hv=>let ⟨u,e⟩:=htx i v hv;⟨tx i,u,e⟩) (fun s' l' hm hacc=>?_) (small_line hn)
 have e:l'.map (·.1)=(List.range n).map tx:=by
  have hlen:l'.length=n:=by have:=hacc.1;rw[List.size_toArray,strV_len] at this;exact this
  refine List.ext_getElem (by simp[hlen]) fun j h1 h2=>?_
  have hj:j<l'.length:=by simpa using h1
  refine box fun bX bk=>?_
  obtain⟨u,eu⟩:=htx j _ (hacc.2 j _ (strV_get hj))
  refine bk ?_
  clear bk bX
  simp only[List.getElem_map,List.getElem_range]
  exact(Value.str.inj eu).1
 rw[e]
 exact⟨hok,fun t' k=>⟨Φ',l,(hp.movedQ hm hwr).tok _,rep_str⟩⟩
end
section
variable {w:World} {A:Around} {E:Value→Shared→Prop} {s:Shared} {x C:Addr} {ox:Obj} {od:Option Obj} {name:Str}
theorem entry_list_ga:entryFor table "list.__getattribute__"=some Builtin.«object.__getattribute__»:=PySem.am_entry_list_getattribute
theorem getL_value {v:Value} {expr:Bool} {Q:Value→Shared→Prop} (X:(KB w).In s.heap) (I:W.InstAt s.heap x ox C od) (hga:findIn (KB w) (.ref C) "__getattribute__"=some (some (.builtin "list.__getattribute__"))) (hk:findIn (KB w) (.ref C) "__getattr__"=some none) (ob:OwnedBy w C "list.__getattribute__" "list" "__getattribute__")
  (hf:findObj (KB w) C od name=some (.value v)) (hh:handedIn v=true) (h:Q v {s with toks:=s.toks+1}):wpAny (model PR w) A (getAttr (.ref x) name expr) Q E s:=by
 obtain⟨hh',g,d,t,os⟩:=s
 have L0:=I.type (M:=model PR w)
 have L1:=looks_find (M:=model PR w) X I hf
 have Lg:=looks_findIn (M:=model PR w) X hga
 have Lk:=looks_findIn (M:=model PR w) X hk
 unfold getAttr getAttrBy
 refine wpAny_bind (wpAny_mkText (wpAny_holding (wpAny_bind (L0.at (wpAny_bind (Lg.at ?_))))))
 dsimp only
 refine PySem.W.KFB.if_not (by rfl) ?_
 unfold getAttrByItsOwn hookBefore callGetattribute boundAndCalled
 refine wpAny_bind (m:=if onTheHeap (Value.ref C)=true then typeLookup (Value.ref C) "__getattr__" else pure none) (PySem.W.KFB.if_so (by rfl) (Lk.at ?_))
 refine wpAny_bind (wpAny_attempt (wpAny_holding ?_))
 rw[show(expr&&onTheHeap (Value.builtin "list.__getattribute__"))=false by cases expr<;>rfl]
 first | refine PySem.W.KFB.if_not rfl ?_ | simp only[Bool.false_eq_true,if_false]
 refine wpAny_bind (wpAny_of_eq (PySem.F.slot_list_getattribute.bind _) ?_)
 refine call_sub (s:=⟨hh',g,d,t+1,os⟩) ⟨X,ox,I.at_,I.cls⟩ ob entry_list_ga (PySem.F.args_list_getattribute_2 _ _) ?_
 unfold Builtin.«object.__getattribute__»
 refine wpAny_bind (wpAny_of_eq (a:=(Value.ref x,[Value.str name t])) (by rfl) ?_)
 dsimp only
 refine wpAny_bind (wpAny_of_eq (a:=name) (by rfl) ?_)
 refine wpAny_bind (L0.at (wpAny_bind (L1.at ?_)))
 refine wpAny_pure ⟨v,rfl,?_⟩
 show wpAny _ _ (handedOut v) _ _ _
 rw[handedOut_of hh];exact wpAny_pure h
end
section
variable {w:World} {A:Around} {E:Value→Shared→Prop} {s:Shared} {x C:Addr} {ox:Obj} {od:Option Obj} {name:Str} {pl:Sem Bool} {Q:Value × List Value→Shared→Prop}
theorem canon_list_ga:(Manifest.canonical "list.__getattribute__" != "object.__getattribute__")=false:=by decide +kernel
theorem methL {f:Value} {T:Value} (X:(KB w).In s.heap) (I:W.InstAt s.heap x ox C od) (hga:findIn (KB w) (.ref C) "__getattribute__"=some (some (.builtin "list.__getattribute__"))) (hk:findIn (KB w) (.ref C) "__getattr__"=some none)
  (hf:findIn (KB w) (.ref C) name=some (some f)) (ht:Looks (model PR w) s.heap (typeOf f) T) (hT:T=.type "function"∨T=.type "method_descriptor"∨T=.type "wrapper_descriptor") (hs:W.shadowIn od name=some false) (h:Q (f,[.ref x]) s) :
  wpAny (model PR w) A (getMethod (.ref x) name pl) Q E s:=by
 have hcan:=canon_list_ga
 unfold getMethod specialOf
 refine wpAny_bind (wpAny_bind (I.type.here ((looks_findIn X hga).here ?_)))
 dsimp only
 rw[hcan,if_neg (by decide)]
 refine wpAny_bind (wpAny_bind (I.type.here ((looks_findIn X hk).here ?_)))
 refine wpAny_bind (wpAny_bind (I.type.here ((looks_findIn X hf).here (wpAny_bind (ht.here ?_)))))
 rw[if_neg (by rcases hT with rfl | rfl | rfl<;>decide +kernel)]
 refine wpAny_bind (wpAny_loadPart I.at_ ?_)
 have hd:=I.dict
 cases e:ox.dict with
 | none=>exact wpAny_bind (wpAny_rule (wpAny_pure h))
 | some dx=>
  cases od with
  | none=>rw[e] at hd;exact hd.elim
  | some o=>
   rw[e] at hd
   obtain⟨r,a,b⟩:=Option.map_eq_some_iff.mp hs
   refine wpAny_bind (wpAny_bind (wpAny_loadPart hd ?_))
   rw[nsLook_of a]
   refine wpAny_pure ?_
   rw[b]
   exact wpAny_bind (wpAny_rule (wpAny_pure h))
end
section
variable {w:World} {A:Around} {s:Shared} {x C:Addr} {od:Option Obj} {name:Str}
theorem refuse_list (self:Value):PySem.refuseLoop self "__setattr__" [.type "list",.type "object"]=pure ():=by kernel_rfl
theorem refuse_sub (self:Value):PySem.refuseLoop self "__setattr__" [.ref C,.type "list",.type "object"]=pure ():=by rw[PySem.refuseLoop_ref];exact refuse_list self
theorem osaL_open {ox:Obj} {tk:Tok} {v:Value} {cd:ClassData} {R:Result→Shared→Prop} (X:(KB w).In s.heap) (I:W.InstAt s.heap x ox C od) (hc:W.clsIn (KB w) C=some cd) (hm:cd.mro=[.ref C,.type "list",.type "object"]) (ht:W.takerIn (KB w) C name=some none)
  (h:∀ b,wpAny (model PR w) A.in1 (Builtin.ObjectAttr.storeInOwnDict (.ref x) (.ref C) (.str name tk) name v b)
   (fun fin s'=>match fin with | .done f=>R (.ok f) s' | .again c'=>c'.quiet=true∧codeAny (model PR w) A c' R s') (fun e s'=>R (.error e) s') s) :
  codeAny (model PR w) A (.call (.builtin "object.__setattr__") ⟨[.ref x,.str name tk,v],[]⟩) R s:=by
 have SF:=PySem.F.store_object
 have sub:Looks (model PR w) s.heap (isInstance (.ref x) (.type "object")) true:=I.type.andThen (W.looks_mroIn X (by unfold W.mroIn;rw[hc,Option.bind_some,hm];rfl))
 refine codeAny_call_builtin SF.slot.plain SF.entry (@W.check_slot (model PR w) _ _ s "object.__setattr__" "object" "__setattr__" (.ref x) [.str name tk,v] [] _ SF.kind SF.split sub (SF.args (.ref x) (.str name tk) v) ?_)
 obtain⟨attr,ha,hr⟩:=Option.bind_eq_some_iff.mp ht
 have hml:Looks (model PR w) s.heap (mroOf (.ref C)) cd.mro:=(W.looks_clsIn X hc).andThen .now
 have L3:Looks (model PR w) s.heap (Builtin.ObjectAttr.storeTaker? attr) none:=by
  cases attr with
  | none=>cases hr;exact .now
  | some a=>
   obtain⟨b,hb,hb'⟩:=Option.map_eq_some_iff.mp hr
   cases b with
   | true=>cases hb'
   | false=>exact(W.looks_takesIn X hb).andThen .now
 rw[W.osa_eq,PySem.refuse_eq]
 refine wpAny_bind (wpAny_bind (I.type.here (wpAny_bind (hml.here ?_))))
 rw[hm,refuse_sub]
 refine wpAny_pure (wpAny_bind (I.type.here (wpAny_bind ((looks_findIn X ha).here (wpAny_bind (L3.here ?_))))))
 exact h _
end
section
variable {g:Glob} {d:Nat} {sc:Scope} {σ:Sig} {env:Env} {A:Around} {Φ Ψ Φ₀ B:PH} {s:Shared} {rest:List Stmt} {Q:Flow→Shared→Prop}
noncomputable def getL (w:World) (C:Addr):Bool:=(findIn (KB w) (.ref C) "__getattribute__"==some (some (.builtin "list.__getattribute__")))&&(findIn (KB w) (.ref C) "__getattr__"==some none)&&(subIn (KB w) (.ref C) (.type "list")==some true)
noncomputable def attrOkL (w:World) (C:Addr) (name:Str):Bool:=getL w C&&hasDictIn (KB w) C&&(match findIn (KB w) (.ref C) name with
 | some attr=>noGet (KB w) attr
 | none=>false)
theorem ownedGet {w:World} {C:Addr} (h:subIn (KB w) (.ref C) (.type "list")=some true):OwnedBy w C "list.__getattribute__" "list" "__getattribute__":=⟨by kernel_rfl,.inl (by decide +kernel),h,by decide +kernel⟩
theorem attr_getL {C x:Addr} {ox od:Obj} {es:Array DictEntry} {n:Nat} {name:Str} {v:Value} {Q:Value→Shared→Prop} {expr:Bool} (hp:Hp g Φ Ψ s) (hok:attrOkL g.w C name=true) (I:InstAt s.heap x ox C (some od)) (hd:od.data=.dict es n) (hk:StrKeys es)
  (hv:nsFind es name=some v) (hh:handedIn v=true) (h:Q v {s with toks:=s.toks+1}):W g.w A (getAttr (.ref x) name expr) Q s:=by
 unfold attrOkL getL at hok
 simp only[Bool.and_eq_true] at hok
 refine box fun bX bk=>?_
 obtain⟨⟨⟨⟨h1,h2⟩,h3⟩,h4⟩,h5⟩:=hok
 refine bk ?_
 clear bk bX
 split at h5
 ·rename_i attr q
  exact getL_value hp.kin I (beq_iff_eq.mp h1) (beq_iff_eq.mp h2) (ownedGet (beq_iff_eq.mp h3)) (findObj_own h4 q h5 (by rw[lookIn_of hd hk,hv])) hh h
 ·cases h5
theorem Ev.attrL {value:PySem.Expr} {name:Str} {pos:Pos} {a C dd:Addr} {xs:List AV} {fs:List (Str × AV)} {av:AV} (h:Ev g d sc σ value (.ref a)) (ha:σ.own.lookup a=some (.sub C dd xs)) (ho:σ.own.lookup dd=some (.dict fs)) (hok:attrOkL g.w C name=true) (hl:fs.lookup name=some av) (hv:plainV av=true)
  (hb:autoParam (∀ env,attributeBase value name env (eval value env)=eval value env) aR):Ev g d sc σ (.Attribute value name pos) av:=fun A env Φ Ψ s r x=>by
 refine Attribute_any_ (h.run r x fun Φ' v s' l x' rp=>?_) (by rw[arm_eval_Attribute,hb env])
 replace rp:_=_:=rp
 subst rp
 refine box fun bX bk=>?_
 obtain⟨ox,g0,g1,g2,us,m,g3,_⟩:=x'.own a _ ha
 obtain⟨od,e0,es,n,h5,h6,h8,hf,h7⟩:=x'.own dd _ ho
 obtain⟨u,e1,e2⟩:=RepF.get hf hl
 refine bk ?_
 clear bk bX
 refine attr_getL (od:=od) x'.hp hok ⟨x'.hp.getΨ g0,g1,by unfold notCls;rw[g3],by rw[g2];exact x'.hp.getΨ e0⟩ h5 h6 e1 (handed_of hv e2) ?_
 exact⟨Φ',l,x'.hp.tok _,e2⟩
noncomputable def methOkL (w:World) (C:Addr) (name:Str) (f:Addr):Bool:=getL w C&&(findIn (KB w) (.ref C) name==some (some (.ref f)))&&(typeIn (KB w) (.ref f)==some (.type "function"))
noncomputable def methOkB (w:World) (C:Addr) (name:Str) (id:String):Bool:=getL w C&&(findIn (KB w) (.ref C) name==some (some (.builtin id)))
theorem GmA.subL {a C dd f:Addr} {xs:List AV} {fs:List (Str × AV)} {name:Str} (hs:σ.own.lookup a=some (.sub C dd xs)) (ho:σ.own.lookup dd=some (.dict fs)) (hok:methOkL g.w C name f=true) (hn:name∉fs.map (·.1)):GmA g d sc σ (.ref a) name (.ref f) [.ref a]:=fun A env B Φ s v pl r y rp=>by
 replace rp:_=_:=rp
 subst rp
 refine box fun bX bk=>?_
 obtain⟨Ψ,pr,hb⟩:=y.pre
 obtain⟨ox,g0,g1,g2,us,m,g3,_⟩:=pr.own a _ hs
 obtain⟨od,e0,es,n,h5,h6,h8,hf,h7⟩:=pr.own dd _ ho
 refine bk ?_
 clear bk bX
 unfold methOkL getL at hok
 simp only[Bool.and_eq_true] at hok
 refine box fun bX bk=>?_
 obtain⟨⟨⟨⟨k1,k2⟩,k3⟩,k4⟩,k5⟩:=hok
 refine bk ?_
 clear bk bX
 refine methL (od:=some od) (T:=.type "function") pr.hp.kin ⟨pr.hp.getΨ g0,g1,by unfold notCls;rw[g3],by rw[g2];exact pr.hp.getΨ e0⟩ (beq_iff_eq.mp k1) (beq_iff_eq.mp k2) (beq_iff_eq.mp k4) (looks_typeIn pr.hp.kin (beq_iff_eq.mp k5)) (.inl rfl) (by show(lookIn name od).map _=_;rw[lookIn_of h5 h6,h7 name hn];rfl) ?_
 exact⟨rfl,Φ,PH.le.refl _,y,repL_cons rep_ref repL_nil⟩
theorem GmA.subB {a C dd:Addr} {id:String} {T:String} {xs:List AV} {fs:List (Str × AV)} {name:Str} (hs:σ.own.lookup a=some (.sub C dd xs)) (ho:σ.own.lookup dd=some (.dict fs)) (hok:methOkB g.w C name id=true) (ht:typeOf (.builtin id)=pure (.type T)) (hT:T="method_descriptor"∨T="wrapper_descriptor") (hn:name∉fs.map (·.1)):GmA g d sc σ (.ref a) name (.builtin id) [.ref a]:=fun A env B Φ s v pl r y rp=>by
 replace rp:_=_:=rp
 subst rp
 refine box fun bX bk=>?_
 obtain⟨Ψ,pr,hb⟩:=y.pre
 obtain⟨ox,g0,g1,g2,us,m,g3,_⟩:=pr.own a _ hs
 obtain⟨od,e0,es,n,h5,h6,h8,hf,h7⟩:=pr.own dd _ ho
 refine bk ?_
 clear bk bX
 unfold methOkB getL at hok
 simp only[Bool.and_eq_true] at hok
 refine box fun bX bk=>?_
 obtain⟨⟨⟨k1,k2⟩,k3⟩,k4⟩:=hok
 refine bk ?_
 clear bk bX
 refine methL (od:=some od) (T:=.type T) pr.hp.kin ⟨pr.hp.getΨ g0,g1,by unfold notCls;rw[g3],by rw[g2];exact pr.hp.getΨ e0⟩ (beq_iff_eq.mp k1) (beq_iff_eq.mp k2) (beq_iff_eq.mp k4) (Looks.of_pure ht) (by rcases hT with rfl | rfl<;>simp) (by show(lookIn name od).map _=_;rw[lookIn_of h5 h6,h7 name hn];rfl) ?_
 exact⟨rfl,Φ,PH.le.refl _,y,repL_cons rep_ref repL_nil⟩
theorem osaL_own {C x dx:Addr} {ox od:Obj} {cd:ClassData} {name:Str} {v:Value} {tk:Tok} {m:Str→Option Value} {ns:List Str} {R:Result→Shared→Prop} (X:(KB g.w).In s.heap) (I:W.InstAt s.heap x ox C (some od)) (hd:ox.dict=some dx) (hc:W.clsIn (KB g.w) C=some cd) (hm:cd.mro=[.ref C,.type "list",.type "object"]) (hdd:cd.hasDict=true) (ht:W.takerIn (KB g.w) C name=some none)
  (hn:s.heap.Ns1 dx m) (hw:Within m ns) (hz:ns.length≤1000)
  (h:∀ h',h'.Ns1 dx (fun y=>if y=name then some v else m y)→Heap.SameBut dx s.heap h'→R (.ok (.ret .none)) {s with heap:=h',toks:=s.toks+1}) :
  codeAny (model PR g.w) A (.call (.builtin "object.__setattr__") ⟨[.ref x,.str name tk,v],[]⟩) R s:=by
 refine osaL_open X I hc hm ht fun b=>?_
 refine box fun bX bk=>?_
 obtain⟨hx,hcl,hno,-⟩:=I
 obtain⟨oc,odi,oda,osl⟩:=ox
 refine bk ?_
 clear bk bX
 dsimp only at hcl hd
 subst hcl hd
 refine wpAny_bind (wpAny_pure (wpAny_bind (wpAny_bind (wpAny_loadPart hx (wpAny_bind ((looks_clsIn X hc).here ?_))))))
 rw[hdd]
 refine wpAny_pure (a:=some dx) (wpAny_bind (wpAny_pure (wpAny_bind (wpAny_nsSet1 hn fun h' hn' hs=>?_))))
 refine box fun bX bk=>?_
 obtain⟨o,es,ep,e1,e2,e3⟩:=hn'.count (hw.cons name v)
 refine bk ?_
 clear bk bX
 refine wpAny_bind (wpAny_lookBehind e1 (by rw[e2];exact pastItsLine_dict (by rw[sizeLine_eq];simp only[List.length_cons] at e3;lia)) ?_)
 exact wpAny_pure (h h' hn' hs)
noncomputable def setOkL (w:World) (C:Addr) (name:Str):Bool:=(findIn (KB w) (.ref C) "__setattr__"==some (some (.builtin "object.__setattr__")))&&(W.takerIn (KB w) C name==some none)&&(match W.clsIn (KB w) C with
 | some cd=>cd.mro==[.ref C,.type "list",.type "object"]&&cd.hasDict
 | none=>false)
theorem At.setSub {a C dd:Addr} {xs:List AV} {fs:List (Str × AV)} {name:Str} {av:AV} {v:Value} {own':Ow} {Q:Unit→Shared→Prop} (y:At g sc env σ B Φ s) (ha:σ.own.lookup a=some (.sub C dd xs)) (ho:σ.own.lookup dd=some (.dict fs)) (hm:dd∈σ.mt) (hok:setOkL g.w C name=true) (hz:fs.length≤1000) (rv:Rep Φ av v)
  (hown:∀ b o,own'.lookup b=some o→(b=dd∧o=.dict (fsPut fs name av))∨(b≠dd∧σ.own.lookup b=some o)) (hs:∀ b∈σ.mt,(own'.lookup b).isSome=true)
  (k:∀ s',At g sc env (σ.ow own' σ.mt) B Φ s'→Q () s'):W g.w A (setAttr (.ref a) name v) Q s:=by
 unfold setOkL at hok
 simp -iota only[Bool.and_eq_true] at hok
 refine box fun bX bk=>?_
 obtain⟨⟨h1,h2⟩,h3⟩:=hok
 refine bk ?_
 clear bk bX
 obtain⟨cd,hc,hcd⟩:∃ cd,W.clsIn (KB g.w) C=some cd∧(cd.mro==[.ref C,.type "list",.type "object"]&&cd.hasDict)=true:=by
  split at h3
  ·rename_i cd q;exact⟨cd,q,h3⟩
  ·cases h3
 simp -iota only[Bool.and_eq_true] at hcd
 refine box fun bX bk=>?_
 obtain⟨Ψ,pr,hb⟩:=y.pre
 obtain⟨ox,g0,g1,g2,us,m,g3,_⟩:=pr.own a _ ha
 obtain⟨od,e0,es,n,h5,h6,h8,hf,h7⟩:=pr.own dd _ ho
 refine bk ?_
 clear bk bX
 have I:W.InstAt s.heap a ox C (some od):=⟨pr.hp.getΨ g0,g1,by unfold W.notCls;rw[g3],by rw[g2];exact pr.hp.getΨ e0⟩
 refine set_plain pr.hp.kin I (beq_iff_eq.mp h1) ?_
 refine osaL_own (g:=g) (ns:=fs.map (·.1)) (s:={s with toks:=s.toks+1}) pr.hp.kin I g2 hc (beq_iff_eq.mp hcd.1) hcd.2 (beq_iff_eq.mp h2) ⟨od,es,n,pr.hp.getΨ e0,h5,h6,h8,fun _=>rfl⟩ (fun z hz=>?_) (by simpa using hz) fun h' hn' hs'=>?_
 ·by_cases q:z∈fs.map (·.1)
  ·exact q
  ·exact absurd (h7 z q) hz
 ·refine box fun bX bk=>?_
  obtain⟨o',e1,e2⟩:=repO_put hf h7 hn' rv
  refine bk ?_
  clear bk bX
  have hp':Hp g Φ (Ψ.put dd o') {s with heap:=h',toks:=s.toks+1+1}:=(pr.hp.same e0 hs' e1).tok _
  refine k _ (y.change (mt:=[dd]) pr hb (PH.le.refl _) hp' (fun a o ha e=>by rw[PH.put_other _ _ (fun q=>ha (List.mem_singleton.mpr q))];exact e) (fun a ha=>by simp -iota at ha;rw[ha];exact hm) (fun a ov e=>?_) (fun a ov e=>.inl ?_) fun a ha=>⟨.inl ha,hs a ha⟩)
  ·rcases sw (hown a ov e) with ⟨rfl,rfl⟩ | ⟨q1,q2⟩
   ·exact⟨o',PH.put_self _ _ _,e2⟩
   ·refine box fun bX bk=>?_
    obtain⟨ob,z1,z2⟩:=pr.own a ov q2
    refine bk ?_
    clear bk bX
    exact⟨ob,by rw[PH.put_other _ _ q1];exact z1,z2⟩
  ·rcases sw (hown a ov e) with ⟨rfl,rfl⟩ | ⟨q1,q2⟩
   ·rw[ho];rfl
   ·rw[q2];rfl
theorem Bk.setS {value o:PySem.Expr} {name:Str} {p pos:Pos} {K:AV→Sig→Prop} {a C dd:Addr} {fs:List (Str × AV)} (r:Room d A) (h:EvK g d sc σ value K) (hok:setOkL g.w C name=true) (hz:fs.length≤1000)
  (k:∀ av σ',K av σ'→(∃ xs,σ'.own.lookup a=some (.sub C dd xs))∧σ'.own.lookup dd=some (.dict fs)∧dd∈σ'.mt∧Ev g d sc σ' o (.ref a)∧Bk g sc env A Φ₀ B (σ'.set dd (.dict (fsPut fs name av))) rest Q)
  (hs:autoParam (swapsWith value (some (.Attribute o name p)) pos.line env=pure false) aR):Bk g sc env A Φ₀ B σ (.Assign [.Attribute o name p] value pos::rest) Q:=.step fun Φ s l y=>
 plainObj_wpAny_Assign_Attribute ((h A env B Φ s r y).mono fun v s' q0=>q0.casesOn fun Φ' av σ' hK l' y' rp=>by
  refine box fun bX bk=>?_
  obtain⟨⟨xs,h0⟩,h1,h2,h4,h7⟩:=k av σ' hK
  refine bk ?_
  clear bk bX
  refine h4.at r y' fun Φ'' u s'' l'' y'' ru=>?_
  replace ru:_=_:=ru
  subst ru
  refine y''.setSub h0 h1 h2 hok hz (Rep.mono l'' _ _ rp) (fun b o e=>lk_cons e) (fun b hb=>?_) fun s3 y3=>h7 Φ'' s3 ((l.trans l').trans l'') y3
  by_cases q:b=dd
  ·rw[q,lk_eq];rfl
  ·rw[lk_ne q];exact(y''.mine b hb).2) hs
end
section
variable {g:Glob} {d:Nat} {sc:Scope} {σ:Sig} {env:Env} {A:Around} {Φ Ψ Φ₀ B:PH} {s:Shared}
noncomputable def AnsS (g:Glob) (C dd:Addr) (Φ Ψ:PH) (a:Addr) (ys:List AV) (c:AV) (fin:Fin) (s':Shared):Prop:=∀ X:Prop,(∀ v us m' o',fin=.done (.ret v)→o'.cls=.ref C→o'.dict=some dd→o'.data=.seq us m'→Hp g Φ (Ψ.put a o') s'→RepL Φ ys us.toList→Rep Φ c v→X)→X
theorem FnM.subM {a C dd:Addr} {xs ys:List AV} {id owner n:String} {B:Builtin} {args:List AV} {c:AV} (ob:OwnedBy g.w C id owner n) (he:entryFor table id=some B) (ha:∀ ws:List Value,ws.length=args.length→argsOk id ⟨.ref a::ws,[]⟩)
  (h:∀ (A:Around) Φ Ψ s (vs:Array Value) m ws o,A.handled=none→Hp g Φ Ψ s→Ψ a=some o→o.cls=.ref C→o.dict=some dd→o.data=.seq vs m→RepL Φ xs vs.toList→RepL Φ args ws →
   W g.w A (B ⟨.ref a::ws,[]⟩) (AnsS g C dd Φ Ψ a ys c) s) :
  FnM g d [a] [(a,.sub C dd xs)] (.builtin id) (.ref a::args) [] (fun r ω'=>r=c∧ω'=[(a,.sub C dd ys)]):=fun A Φ Ψ s vs ks r hp ho ra e rk=>by
 refine repL_cons_elim ra fun v ws hv hw=>?_
 replace hv:_=_:=hv
 subst hv
 have:ks=[]:=by simpa using e
 subst this
 refine box fun bX bk=>?_
 obtain⟨o,eo,h1,h2,vs,m,h3,hr⟩:=ho a (.sub C dd xs) (by simp)
 refine bk ?_
 clear bk bX
 refine call_sub ⟨hp.kin,o,hp.getΨ eo,h1⟩ ob he (ha ws (repL_length hw)) ((h A.in1 Φ Ψ s vs m ws o (by exact r.hd) hp eo h1 h2 h3 hr hw).mono fun fin s' q=>q _ fun v us m' o' e z1 z2 z3 hp' hy hc=>⟨v,e,Φ,_,c,[(a,.sub C dd ys)],PH.le.refl _,hp',fun b ov q=>?_,fun b o hb q=>?_,hc,⟨rfl,rfl⟩,fun b ov q=>.inl ?_⟩)
 ·rw[List.lookup_cons] at q
  split at q
  ·rename_i z;cases q;rw[beq_iff_eq.mp z];exact⟨_,PH.put_self _ _ _,z1,z2,us,m',z3,hy⟩
  ·cases q
 ·rw[PH.put_other _ _ (fun q=>hb (List.mem_singleton.mpr q))];exact q
 ·rw[List.lookup_cons] at q ⊢
  split
  ·rfl
  ·rename_i z;rw[z] at q;simp -iota at q
theorem upd_sub {a C dd:Addr} {o:Obj} {vs:Array Value} {m:Nat} {f:Array Value→Array Value} (hp:Hp g Φ Ψ s) (e:Ψ a=some o) (h1:o.cls=.ref C) (h2:o.dict=some dd) (h3:o.data=.seq vs m) :
  ∃ o' m',o'.cls=.ref C∧o'.dict=some dd∧o'.data=.seq (f vs) m'∧Hp g Φ (Ψ.put a o') {s with heap:=s.heap.update a (Obj.mapSeq f)}:=by
 refine box fun bX bk=>?_
 obtain⟨c,dt,dat,sl⟩:=o
 refine bk ?_
 clear bk bX
 dsimp only at h1 h2 h3
 subst h1 h2 h3
 have z:=Heap.get?_update_self (Obj.mapSeq f) (hp.getΨ e) rfl
 exact⟨_,_,rfl,rfl,rfl,hp.same e (Heap.SameBut.update ..) z⟩
theorem FnM.appendS {a C dd:Addr} {xs:List AV} {x:AV} (ob:OwnedBy g.w C "list.append" "list" "append") (h:small xs.length):FnM g d [a] [(a,.sub C dd xs)] (.builtin "list.append") [.ref a,x] [] (fun r ω'=>r=.none∧ω'=[(a,.sub C dd (xs++[x]))]):=
 FnM.subM ob entry_list_append (AllVs.get (n:=1) fun _=>args_list_append _ _) fun A Φ Ψ s vs m ws o hA hp eo h1 h2 h3 hr hw=>by
  refine repL_cons_elim hw fun v ws' hv hw'=>?_
  have:=repL_nil_inv hw'
  subst this
  have hs:=size_of hr
  show W g.w A (updateSeq a (·.push v)>>=fun _=>ret .none) _ s
  refine wpAny_bind (wpAny_updateSeq (hp.getΨ eo) h3 ?_ (by rw[hs];exact small_line h) (by rw[Array.size_push,hs];exact Nat.succ_le_succ (small_line h)))
  refine box fun bX bk=>?_
  obtain⟨o',m',z1,z2,z3,hp'⟩:=upd_sub (f:=(·.push v)) hp eo h1 h2 h3
  refine bk ?_
  clear bk bX
  exact wpAny_pure fun X k=>k _ (vs.push v) m' o' rfl z1 z2 z3 hp' (repL_snoc hr hv) rep_none
end
section
variable {g:Glob} {d:Nat} {sc:Scope} {σ:Sig} {env:Env} {A:Around} {Φ Ψ Φ₀ B:PH} {s:Shared} {rest:List Stmt} {Q:Flow→Shared→Prop}
noncomputable abbrev WAt {α:Type} (w:World) (A:Around) (c:Code) (t:Sem α) (Q:α→Shared→Prop) (s:Shared):Prop:=_root_.PySem.wpAt (model PR w) A c t Q No s
noncomputable def BkAt (g:Glob) (sc:Scope) (env:Env) (A:Around) (Φ₀ B:PH) (σ:Sig) (c:Code) (b:List Stmt) (Q:Flow→Shared→Prop):Prop:=
 ∀ Φ s,PH.le Φ₀ Φ→At g sc env σ B Φ s→WAt g.w A c (execs b env) Q s
theorem BkAt.of {c:Code} {b:List Stmt} (h:Bk g sc env A Φ₀ B σ b Q):BkAt g sc env A Φ₀ B σ c b Q:=fun Φ s l y=>wpAt_of_wpAny (h Φ s l y)
noncomputable def contAt (g:Glob) (env:Env) (A:Around) (c:Code) (rest:List Stmt) (Q:Flow→Shared→Prop):Flow→Shared→Prop:=fun f s=>match f with
 | .next=>WAt g.w A c (execs rest env) Q s
 | f=>Q f s
theorem BkAt.step {c:Code} {st:Stmt} (h:Bk g sc env A Φ₀ B σ [st] (contAt g env A c rest Q)):BkAt g sc env A Φ₀ B σ c (st::rest) Q:=fun Φ s l y=>by
 refine ks_wpAt_execs_cons (wpAt_of_wpAny (fun Γ p hΓ=>?_))
 have h':=h Φ s l y Γ p hΓ
 rw[execs_cons,Sem.wp_bind'] at h'
 refine Sem.wp_mono (model PR g.w) Γ _ (fun f p' s' q=>?_) (fun _ _ _ e=>e) _ _ h'
 cases f with
 | next=>simp only[execs_nil,Sem.wp_pure'] at q;exact q
 | _=>simp only[Sem.wp_pure'] at q;exact q
theorem Bk.goAt {c:Code} (h:BkAt g sc env A Φ₀ B σ c rest Q):Bk g sc env A Φ₀ B σ [] (contAt g env A c rest Q):=.nil fun Φ s l y=>h Φ s l y
inductive RPost (g:Glob) (sc:Scope) (env:Env) (B Φ₀ Φ:PH) (Q:Flow→Shared→Prop) (v:Value) (s:Shared):Prop
 | mk (Φ':PH) (σ':Sig) (av:AV) (l:PH.le Φ Φ') (y:At g sc env σ' B Φ' s) (r:Rep Φ' av v) (k:∀ Φ₁ v s,PH.le Φ₀ Φ₁→At g sc env σ' B Φ₁ s→Rep Φ₁ av v→Q (.ret v) s)
theorem BkAt.retAt {c:Code} {e:PySem.Expr} {pos:Pos} (h:∀ Φ s,At g sc env σ B Φ s→WAt g.w A c (eval e env) (RPost g sc env B Φ₀ Φ Q) s):BkAt g sc env A Φ₀ B σ c (.Return (some e) pos::rest) Q:=fun Φ s l y=>
 ks_wpAt_execs_cons (ks_wpAt_Return_some (ks_wpAt_mono (h Φ s y) (fun v s' q0=>q0.casesOn fun Φ' σ' av l' y' rp k=>k Φ' v s' (l.trans l') y' rp) fun _ _ e=>e))
theorem call_CAt {fa:Addr} {o:Obj} {fd:FuncData} {body:List Stmt} {vs:List Value} {ks:List (Str × Value)} {binds:List (Str × Value)} {avs:List AV} {ps:List Str} {cv:List (Str × AV)} {ω:Ow} {mt:List Addr} {P:AV→Ow→Prop}
  (r:Room (d+1) A) (hd0:0<d) (hp:Hp g Φ Ψ s) (ho:Owns Φ Ψ ω) (hmt:∀ a∈mt,(ω.lookup a).isSome=true)
  (hfa:s.heap.get? fa=some o) (hfd:o.data=.func fd) (hbody:fd.body=.stmts body) (hcode:s.heap.CodeRec fd.code fd.qualname)
  (hco:fd.scope.isCoroutine=false) (hgen:fd.scope.isGenerator=false) (hkd:fd.scope.kind=.function) (hu:(fd.scope.names.map (·.1)).Nodup) (hgl:fd.globals=mainGlobals) (hbi:fd.builtins=builtinsNs)
  (hbind:BindsTo s fd ⟨vs,ks⟩ binds) (hps:binds.map (·.1)=ps) (ravs:RepL Φ avs (binds.map (·.2)))
  (hst:(ps.all fun x=>stB fd.scope ⟨cv,ω,[],mt⟩ x)=true)
  (hcl:∀ x c,fd.closure.lookup x=some c→∃ o,Φ c=some o∧∃ v,o.data=.cell v)
  (hfree:∀ x,kindIn fd.scope x=some .free→∃ c,fd.closure.lookup x=some c)
  (hcv:∀ x av,cv.lookup x=some av→varKind fd.scope x=true∧kindIn fd.scope x=some .free∧∃ c o v,fd.closure.lookup x=some c∧Φ c=some o∧o.data=.cell (some v)∧Rep Φ av v)
  (k:∀ A env B,Room d A→(∃ L cells,env=newEnv fd.scope L mainGlobals cells (fd.qualname++".<locals>.") (some fa) fd.code none builtinsNs)→BkAt g fd.scope env A Φ B (putAll ⟨cv,ω,[],mt⟩ ps avs) (.func body env) body (FQ g fd.scope env Φ B ω P)) :
  codeAny (model PR g.w) A (.call (.ref fa) ⟨vs,ks⟩) (retR (MPost g Φ Ψ mt ω P)) s:=by
 have hB:PH.le (fun a=>if a∈mt then none else Ψ a) Ψ:=fun a ob e=>by
  by_cases h:a∈mt
  ·simp[h] at e
  ·simpa [h] using e
 have hB':∀ a ob,a∉mt→Ψ a=some ob→(fun a=>if a∈mt then none else Ψ a) a=some ob:=fun a ob h e=>by simp[h,e]
 refine codeAny_call_function r.lt hfa hfd hco hgen hbody hcode (hbind _ _ _ _ ?_)
 rw[hgl,hbi]
 refine wpAny_mono (E:=No) (wp_newEnv (sc:=fd.scope) (sc':=fd.scope) (cv:=cv) (ω:=ω) (frz:=[]) (mt:=mt) (env':=id) (B:=fun a=>if a∈mt then none else Ψ a) hp hu hkd hB ho (fun a h=>⟨by simp[h],hmt a h⟩)
  (fun x c e=>let ⟨o,h1,h2⟩:=hcl x c e;⟨o,.inl h1,h2⟩) hfree (fun x av e=>let ⟨h1,h2,c,o,v,h3,h4,h5⟩:=hcv x av e;⟨h1,h2,c,o,v,h3,.inl h4,h5⟩)
  (fun L cells=>⟨rfl,rfl,⟨rfl,rfl,rfl,hkd⟩⟩) (fun x h=>h) (fun x h=>h) (fun x h _=>h) fun env s' he y=>?_) (fun _ _ q=>q) fun _ _ e=>e.elim
 have y':At g fd.scope env ⟨cv,ω,[],mt⟩ (fun a=>if a∈mt then none else Ψ a) Φ s':=y
 refine wp_binds binds avs _ s' _ y' ravs (by rw[hps];exact hst) fun s'' y''=>?_
 rw[hps] at y''
 refine⟨?_,?_⟩
 ·obtain⟨Ψ'',pr,_⟩:=y''.pre
  exact pr.hp.nolimit
 ·refine ks_codeAny_funcAt ?_
  refine ks_wpAt_mono (k (A.deeper env) env _ (r.deeper hd0) he Φ s'' (PH.le.refl _) y'') (fun f s3 q=>?_) fun _ _ e=>e.elim
  obtain⟨Φ',σ',av,ω',l,y3,rp,hP,hω⟩:=q
  obtain⟨Ψ3,pr,hb⟩:=y3.pre
  refine⟨Φ',Ψ3,av,ω',l,pr.hp,fun a ov e=>pr.own a ov (hω a ov e).1,fun a ob h e=>hb _ _ (hB' a ob h e),?_,hP,fun a ov e=>?_⟩
  ·cases f<;>exact rp
  ·rcases(hω a ov e).2 with h | h
   ·exact .inl h
   ·have h0:=(y3.mine a h).1
    by_cases hm:a∈mt
    ·exact .inl (hmt a hm)
    ·simp only[hm,if_false] at h0;exact .inr h0
theorem FnC.bodySup {fa cc C:Addr} {o oc:Obj} {fd:FuncData} {body:List Stmt} {args:List AV} {kw:List (Str × AV)} {avs:List AV} {ps:List Str} {ω:Ow} {mt:List Addr} {P:AV→Ow→Prop}
  (hfa:(KB g.w).lookup fa=some o) (hfd:o.data=.func fd) (hbody:fd.body=.stmts body) (ok:FdOk g.w fd)
  (hclo:fd.closure=[(n_class,cc)]) (hfr:(fd.scope.names.all fun p=>!(p.2==.free)||(p.1==n_class))=true) (hkc:kindIn fd.scope n_class=some .free)
  (hcc:(KB g.w).lookup cc=some oc) (hoc:oc.data=.cell (some (.ref C)))
  (hbind:∀ Φ Ψ s vs ks,Hp g Φ Ψ s→RepL Φ args vs→ks.map (·.1)=kw.map (·.1)→RepL Φ (kw.map (·.2)) (ks.map (·.2))→∃ binds,BindsTo s fd ⟨vs,ks⟩ binds∧binds.map (·.1)=ps∧RepL Φ avs (binds.map (·.2)))
  (hst:(ps.all fun x=>stB fd.scope ⟨[],[],[],[]⟩ x)=true) (hmt:∀ a∈mt,(ω.lookup a).isSome=true) (hd0:0<d)
  (k:∀ A env Φ B,Room d A→(∃ L cells,env=newEnv fd.scope L mainGlobals cells (fd.qualname++".<locals>.") (some fa) fd.code none builtinsNs)→BkAt g fd.scope env A Φ B (putAll ⟨[(n_class,.ref C)],ω,[],mt⟩ ps avs) (.func body env) body (FQ g fd.scope env Φ B ω P)):FnC g (d+1) mt ω (.ref fa) args kw P:=fun A Φ Ψ s vs ks r hp ho ra e rk=>by
 refine box fun bX bk=>?_
 obtain⟨binds,hb,hps,hav⟩:=hbind Φ Ψ s vs ks hp ra e rk
 refine bk ?_
 clear bk bX
 have hc:=hp.k _ _ hcc
 refine call_CAt (cv:=[(n_class,.ref C)]) r hd0 hp ho hmt (hp.getΦ (hp.k _ _ hfa)) hfd hbody (codeB_rec hp.kin ok.hcode) ok.hco ok.hgen ok.hkd ok.hu ok.hgl ok.hbi hb hps hav hst ?_ (fun x q=>?_) (fun x av q=>?_) fun A env B r he=>k A env Φ B r he
 ·rw[hclo];intro x c q
  rw[List.lookup_cons] at q
  split at q
  ·cases q;exact⟨oc,hc,_,hoc⟩
  ·simp at q
 ·have:=List.all_eq_true.mp hfr _ (mem_of_lookup q)
  have hx:x=n_class:=by simpa using this
  exact⟨cc,by rw[hclo,hx,List.lookup_cons,beq_self_eq_true]⟩
 ·rw[List.lookup_cons] at q
  split at q
  ·rename_i z
   cases q
   have hx:=beq_iff_eq.mp z
   subst hx
   exact⟨by unfold varKind;rw[hkc];decide,hkc,cc,oc,.ref C,by rw[hclo,List.lookup_cons,beq_self_eq_true],hc,hoc,rep_ref⟩
  ·simp at q
theorem wp_bi {x:Str} {v:Value} {Q:Value→Shared→Prop} (he:EnvOk sc env) (hp:Hp g Φ Ψ s) (hk:kindIn sc x=some .globalImplicit) (h:globK g.w x=some Option.none) (hb:bootBuiltins x=some v) (hn:x≠"__name__") (q:Q v s):W g.w A (loadName env x) Q s:=by
 refine box fun bX bk=>?_
 obtain⟨mg,hg,hv⟩:=globK_at hp h
 obtain⟨o,es,ep,ho,h1,h2,h3⟩:=hp.b
 refine bk ?_
 clear bk bX
 have nb:s.heap.Ns builtinsNs (nsFind es):=⟨o,es,ep,hp.getΦ ho,h1,h2,fun _=>rfl⟩
 exact loadGlobK he hk (Calls.loadGlobal_builtin (mg:=mg) (by rw[he.gl];exact hg) hv (by rw[he.bi];exact nb) (by rw[h3 x hn];exact hb) q)
theorem sup_node {body:List Stmt} {p0 p1:Pos} {attr:Str} {whole:Sem Value} {f cc C a dd:Addr} {of oc oC:Obj} {fd:FuncData} {ar:Arg} {vs:Array Value} {file:Str} {tf:Tok} {cd:ClassData} {xs:List AV}
  (y:At g sc env σ B Φ s) (hks:kindIn sc ("super":Str)=some .globalImplicit) (hkc:kindIn sc ("__class__":Str)=some .free) (hat:(attr==("__class__":Str))=false) (hfu:env.func=some f)
  (hf:(KB g.w).lookup f=some of) (hfd:of.data=.func fd) (hp:(fd.params.posonlyargs++fd.params.args).head?=some ar) (hco:env.code=.ref cc) (hcc:(KB g.w).lookup cc=some oc) (hoc:oc.data=.fields vs) (hvs:vs[2]?=some (.str file tf))
  (hfile:((PR.main.file:Str)==file)=true) (htop:(PR.main.scope.names.lookup ("super":Str)).isSome=false) (hgl:globK g.w ("super":Str)=some Option.none)
  (hvc:σ.vars.lookup ("__class__":Str)=some (.ref C)) (hva:σ.vars.lookup ar.arg=some (.ref a)) (ha:σ.own.lookup a=some (.sub C dd xs))
  (hC:(KB g.w).lookup C=some oC) (hCd:oC.data=.cls cd) (hsub:subIn (KB g.w) (.ref C) (.ref C)=some true) :
  WAt g.w A (.func body env) (attributeBase (.Call (.Name ("super":Str) p0) [] [] p1) attr env whole) (fun v s'=>∃ so Φ',v=.ref so∧PH.le Φ Φ'∧Φ' so=some (ks_superObj C a C)∧At g sc env σ B Φ' s') s:=by
 refine box fun bX bk=>?_
 obtain⟨Ψ,pr,hb⟩:=y.pre
 obtain⟨fr,hfi,hv⟩:=pr.fr
 refine bk ?_
 clear bk bX
 have hp0:=pr.hp
 refine ks_wpAt_super_base (env:=env) (by rw[pr.ev.kind];exact hks) (by rw[pr.ev.kind];exact hkc) hat hfu (hp0.getΦ (hp0.k _ _ hf)) hfd hp hco (hp0.getΦ (hp0.k _ _ hcc)) hoc hvs hfile htop ?_
 refine wp_bi pr.ev hp0 hks hgl (v:=.type "super") (by rfl) (by decide) ⟨rfl,?_⟩
 refine box fun bX bk=>?_
 obtain⟨hk1,v1,e1,r1⟩:=hv _ _ hvc
 refine bk ?_
 clear bk bX
 replace r1:_=_:=r1
 subst r1
 refine wp_local pr.ev hp0 hfi hk1 e1 ?_
 refine box fun bX bk=>?_
 obtain⟨hk2,v2,e2,r2⟩:=hv _ _ hva
 refine bk ?_
 clear bk bX
 replace r2:_=_:=r2
 subst r2
 refine wp_local pr.ev hp0 hfi hk2 e2 ?_
 refine box fun bX bk=>?_
 obtain⟨ox,g0,g1,g2,us,m,g3,_⟩:=pr.own a _ ha
 have k1:=hp0.getΦ (hp0.k _ _ hC)
 have k2:=hp0.getΨ g0
 obtain⟨hh,gg,dr,t,os⟩:=s
 refine bk ?_
 clear bk bX
 refine ks_wpAny_isType_cls k1 hCd ⟨rfl,?_⟩
 refine ks_wpAny_call_super k1 hCd k2 g1 (fun c e=>by rw[g3] at e;cases e) (looks_subIn hp0.kin hsub) (fun h' e k=>?_)
 have hp1:Hp g Φ Ψ {(⟨hh,gg,dr,t,os⟩:Shared) with heap:=h'}:=hp0.ext (tk:=t) k
 have n1:Φ hh.objs.size=none:=hp0.freshΦ
 have n2:Ψ hh.objs.size=none:=hp0.freshΨ
 have hp2:=hp1.adopt e n1 n2 (fun q=>(hp0.tabNe q).1 rfl)
 have l:PH.le Φ (Φ.put hh.objs.size (ks_superObj C a C)):=PH.le_put _ n1
 exact⟨_,_,rfl,l,PH.put_self _ _ _,y.frame l (pr.next l hp2) hb fun a fa e=>pr.owned fa e⟩
end
section
variable {w:World} {A:Around} {E:Value→Shared→Prop} {s:Shared}
noncomputable abbrev boundObj (bt id:String) (a:Addr):Obj:={cls:=.type bt,dict:=none,data:=.fields #[.builtin id,.ref a],slots:=#[]}
theorem SubI.inst {a C:Addr} {base:Value} {b:Bool} {Q:Bool→Shared→Prop} (x:SubI w s a C) (h:subIn (KB w) (.ref C) base=some b) (q:Q b s):wpAny (model PR w) A (isInstance (.ref a) base) Q E s:=by
 obtain⟨o,ho,hc⟩:=x.at_
 simp only[isInstance,typeOf]
 exact wpAny_bind (wpAny_bind (wpAny_load ho (wpAny_pure (by rw[hc];exact(looks_subIn x.kin h).here q))))
theorem told_pop:Manifest.toldItsClass.contains "list.pop"=false:=by first | decide +kernel | kernel_rfl
theorem slot_wd_get:Slot "wrapper_descriptor" "__get__" "wrapper_descriptor.__get__":=
 .of (owner:="wrapper_descriptor") (n:="__get__") (by rw[typeLookup_type,builtinLookup_eq_fast];kernel_rfl) (by decide +kernel) (by decide +kernel) (by decide +kernel)
  (by first | exact .inl (by decide +kernel) | exact .inr (by decide +kernel)) (by rw[isSubtype_type];kernel_rfl)
theorem entry_wd_get:entryFor table "wrapper_descriptor.__get__"=some Builtin.«wrapper_descriptor.__get__»:=entryFor_of_tree (by kernel_rfl)
theorem args_wd_get (a b c:Value):argsOk "wrapper_descriptor.__get__" ⟨[a,b,c],[]⟩:=by unfold argsOk;kernel_rfl
theorem get_pop {a C:Addr} {P:Fin→Shared→Prop} (x:SubI w s a C) (hs:subIn (KB w) (.ref C) (.type "list")=some true) (h:P (.done (.ret (.ref s.heap.objs.size))) {s with heap:=s.heap.push (boundObj "builtin_function_or_method" "list.pop" a)}) :
  wpAny (model PR w) A (Builtin.«method_descriptor.__get__» ⟨[.builtin "list.pop",.ref a,.ref C],[]⟩) P E s:=by
 unfold Builtin.«method_descriptor.__get__»
 refine wpAny_bind (wpAny_of_eq (a:=(.builtin "list.pop",some (.ref a),some (.ref C))) (by first | rfl | kernel_rfl) ?_)
 dsimp only
 rw[told_pop]
 first | refine PySem.W.KFB.if_not rfl ?_ | simp only[Bool.false_eq_true,if_false]
 refine wpAny_bind (wpAny_bind (wpAny_of_eq (a:=(("pop":Str),.type "list")) (by first | rfl | kernel_rfl) ?_))
 dsimp only
 refine wpAny_bind (x.inst hs ?_)
 first | refine PySem.W.KFB.if_not rfl ?_ | simp only[Bool.not_true,Bool.false_eq_true,if_false]
 refine wpAny_pure ?_
 exact wpAny_bind (wpAny_newObj_type (wpAny_pure h))
theorem get_len {a C:Addr} {P:Fin→Shared→Prop} (x:SubI w s a C) (hs:subIn (KB w) (.ref C) (.type "list")=some true) (h:P (.done (.ret (.ref s.heap.objs.size))) {s with heap:=s.heap.push (boundObj "method-wrapper" "list.__len__" a)}) :
  wpAny (model PR w) A (Builtin.«wrapper_descriptor.__get__» ⟨[.builtin "list.__len__",.ref a,.ref C],[]⟩) P E s:=by
 unfold Builtin.«wrapper_descriptor.__get__»
 refine wpAny_bind (wpAny_of_eq (a:=(.builtin "list.__len__",some (.ref a),some (.ref C))) (by first | rfl | kernel_rfl) ?_)
 dsimp only
 refine wpAny_bind (wpAny_bind (wpAny_of_eq (a:=(("__len__":Str),.type "list")) (by first | rfl | kernel_rfl) ?_))
 dsimp only
 refine wpAny_bind (x.inst hs ?_)
 first | refine PySem.W.KFB.if_not rfl ?_ | refine PySem.W.KFB.if_not rfl ?_
 refine wpAny_pure ?_
 exact wpAny_bind (wpAny_newObj_type (wpAny_pure h))
theorem get_init {a C:Addr} {P:Fin→Shared→Prop} (x:SubI w s a C) (hs:subIn (KB w) (.ref C) (.type "list")=some true) (h:P (.done (.ret (.ref s.heap.objs.size))) {s with heap:=s.heap.push (boundObj "method-wrapper" "list.__init__" a)}) :
  wpAny (model PR w) A (Builtin.«wrapper_descriptor.__get__» ⟨[.builtin "list.__init__",.ref a,.ref C],[]⟩) P E s:=by
 unfold Builtin.«wrapper_descriptor.__get__»
 refine wpAny_bind (wpAny_of_eq (a:=(.builtin "list.__init__",some (.ref a),some (.ref C))) (by first | rfl | kernel_rfl) ?_)
 dsimp only
 refine wpAny_bind (wpAny_bind (wpAny_of_eq (a:=(("__init__":Str),.type "list")) (by first | rfl | kernel_rfl) ?_))
 dsimp only
 refine wpAny_bind (x.inst hs ?_)
 first | refine PySem.W.KFB.if_not rfl ?_ | refine PySem.W.KFB.if_not rfl ?_
 refine wpAny_pure ?_
 exact wpAny_bind (wpAny_newObj_type (wpAny_pure h))
structure SupM (w:World) (C:Addr) (name:Str) (id T gid bt:String) (G:Builtin):Prop where
 mro:∃ cd,clsIn (KB w) C=some cd∧(cd.mro.dropWhile (· != .ref C)).drop 1=[.type "list",.type "object"]
 along:alongIn (KB w) name [.type "list",.type "object"]=some (some (.builtin id))
 op:nsIn (KB w) cStatics "thirdparty.any"=some none
 ty:typeOf (.builtin id)=pure (.type T)
 slot:Slot T "__get__" gid
 entry:entryFor table gid=some G
 args:∀ a b c:Value,argsOk gid ⟨[a,b,c],[]⟩
 hn:(name==("__class__":Str))=false
 get:∀ (A:Around) (E:Value→Shared→Prop) (P:Fin→Shared→Prop) (s:Shared) (a:Addr),SubI w s a C→P (.done (.ret (.ref s.heap.objs.size))) {s with heap:=s.heap.push (boundObj bt id a)}→wpAny (model PR w) A (G ⟨[.builtin id,.ref a,.ref C],[]⟩) P E s
theorem SubI.ne {a C:Addr} {cd:ClassData} (x:SubI w s a C) (hc:clsIn (KB w) C=some cd) (hd:∀ o,s.heap.get? a=some o→∀ c,o.data≠.cls c):a≠C:=by
 rintro rfl
 unfold clsIn at hc
 split at hc
 ·rename_i c d cd' sl ho
  exact hd _ (x.kin _ _ ho) _ rfl
 ·cases hc
theorem sup_ga {C so a:Addr} {name:Str} {id T gid bt:String} {G:Builtin} {tk:Tok} {Q:Fin→Shared→Prop} (m:SupM w C name id T gid bt G) (x:SubI w s a C) (hd:∀ o,s.heap.get? a=some o→∀ c,o.data≠.cls c)
  (hso:s.heap.get? so=some (ks_superObj C a C)) (hq:Q (.done (.ret (.ref s.heap.objs.size))) {s with heap:=s.heap.push (boundObj bt id a)}):wpAny (model PR w) A (Builtin.«super.__getattribute__» ⟨[.ref so,.str name tk],[]⟩) Q E s:=by
 obtain⟨cd,hc,hl⟩:=m.mro
 have hne:(Value.ref a==Value.ref C)=false:=by simp[x.ne hc hd]
 have hno:=looks_opaque (M:=model PR w) (C:=C) x.kin m.op
 have hC:Looks (model PR w) s.heap (mroOf (.ref C)) cd.mro:=fun A Q E s k q=>wpAny_bind ((looks_clsIn x.kin hc) A _ E s k (wpAny_pure q))
 have hdt:(ks_superObj C a C).data=.fields #[.ref C,.ref a,.ref C]:=rfl
 have f0:(#[.ref C,.ref a,.ref C]:Array Value)[0]?=some (.ref C):=rfl
 have f1:(#[.ref C,.ref a,.ref C]:Array Value)[1]?=some (.ref a):=rfl
 have f2:(#[.ref C,.ref a,.ref C]:Array Value)[2]?=some (.ref C):=rfl
 have hn:=m.hn
 have hty:=m.ty
 have hlk:=m.slot.lookup
 have hX:=x.kin
 have hal:=m.along
 have hT:s.TypeIs (.builtin id) T:=hty
 have hG:=m.get
 obtain⟨h,g,d,t,os⟩:=s
 unfold Builtin.«super.__getattribute__»
 repeat (first
  | (with_reducible refine wpAny_field hso hdt f0 ?_) | (with_reducible refine wpAny_field hso hdt f1 ?_) | (with_reducible refine wpAny_field hso hdt f2 ?_)
  | (with_reducible refine ks_wpAny_notOpaque hno ?_)
  | (with_reducible refine Looks.at hC ?_;rw[hl])
  | (refine ks_forIn_along hX (fun _ _=>rfl) rfl ?_ hal)
  | (with_reducible refine wpAny_typeOf hT ?_)
  | (with_reducible refine wpAny_call_entry m.slot hT m.entry ?_ (m.args _ _ _))
  | (with_reducible refine hG _ _ _ _ _ x ?_)
  | (with_reducible refine⟨_,rfl,?_⟩)
  | (simp only[hn,hne,Bool.or_false,Bool.false_eq_true,if_false])
  | wp_step
  | dsimp only)
 all_goals exact hq
theorem sup_method {C so a:Addr} {name:Str} {id T gid bt:String} {G:Builtin} {pl:Sem Bool} {Q:Value × List Value→Shared→Prop} (m:SupM w C name id T gid bt G) (x:SubI w s a C) (hd:∀ o,s.heap.get? a=some o→∀ c,o.data≠.cls c)
  (hso:s.heap.get? so=some (ks_superObj C a C)) (hq:Q (.ref s.heap.objs.size,[]) {s with heap:=s.heap.push (boundObj bt id a),toks:=s.toks+1}):wpAny (model PR w) A (getMethod (.ref so) name pl) Q E s:=by
 obtain⟨h,g,d,t,os⟩:=s
 have hlk:=PySem.F.ks_slot_super_ga.lookup
 have hcan:=PySem.F.ks_canon_super_ga
 have hT:∀ t',(⟨h,g,d,t',os⟩:Shared).TypeIs (.ref so) "super":=fun _=>⟨_,hso,rfl⟩
 unfold getMethod
 refine wpAny_bind (wpAny_specialOf (hT _) hlk ?_)
 show wpAny _ _ (if (Manifest.canonical "super.__getattribute__" != "object.__getattribute__")=true then _ else _) _ _ _
 rw[if_pos hcan]
 unfold getAttr getAttrBy
 refine wpAny_bind (wpAny_bind (wpAny_mkText (wpAny_holding (wpAny_bind (wpAny_typeOf (hT _) (wpAny_bind (wpAny_of_eq hlk ?_)))))))
 show wpAny _ _ (getAttrByItsOwn (.ref so) (.str name t) (.type "super") (.builtin "super.__getattribute__") true false) _ _ _
 unfold getAttrByItsOwn hookBefore callGetattribute boundAndCalled
 refine wpAny_bind (wpAny_of_eq (show(if onTheHeap (.type "super") then typeLookup (.type "super") "__getattr__" else pure none)=pure none from rfl) ?_)
 refine wpAny_bind (wpAny_attempt (wpAny_holding ?_))
 show wpAny _ _ (bindSpecial (.builtin "super.__getattribute__") (.ref so)>>=_) _ _ _
 refine wpAny_bind (wpAny_of_eq (PySem.F.ks_slot_super_ga.bind _) ?_)
 refine wpAny_mono (Q:=fun v s'=>v=.ref h.objs.size∧s'=⟨h.push (boundObj bt id a),g,d,t+1,os⟩) (E:=fun _ _=>False)
  (wpAny_call_entry PySem.F.ks_slot_super_ga (hT _) PySem.F.ks_entry_super_ga (sup_ga (s:=⟨h,g,d,t+1,os⟩) m ⟨x.kin,x.at_⟩ hd hso ⟨_,rfl,rfl,rfl⟩) (PySem.F.ks_gaArgs_super _ _)) (fun v s' hv=>?_) fun _ _ z=>z.elim
 obtain⟨rfl,rfl⟩:=hv
 exact wpAny_pure (wpAny_pure hq)
theorem call_boundS {bt id:String} {a Bd:Addr} {ws:List Value} {Bi:Builtin} {Q:Value→Shared→Prop} (hb:s.heap.get? Bd=some (boundObj bt id a)) (hbt:bt="builtin_function_or_method"∨bt="method-wrapper")
  (hchk:∀ (A:Around) (Q:Unit→Shared→Prop) (E:Value→Shared→Prop),Q () s→wpAny (model PR w) A (checkBoundCall id ⟨.ref a::ws,[]⟩) Q E s) (hp:plainId id=true) (he:entryFor table id=some Bi)
  (h:wpAny (model PR w) A.in1 (Bi ⟨.ref a::ws,[]⟩) (fun fin s'=>∃ v,fin=.done (.ret v)∧Q v s') E s):wpAny (model PR w) A (call (.ref Bd) ws) Q E s:=by
 refine wpAny_call (codeAny_of_tree ?_)
 show wpAny _ A.in1 (callAny (.ref Bd) ⟨ws,[]⟩) _ _ s
 unfold callAny
 refine wpAny_bind (wpAny_load hb ?_)
 have hc:(Value.type bt==Value.type "method"||Value.type bt==Value.type "builtin_function_or_method"||Value.type bt==Value.type "method-wrapper")=true:=by rcases hbt with rfl | rfl<;>decide
 have hm:(Value.type bt != Value.type "method")=true:=by rcases hbt with rfl | rfl<;>decide
 simp -iota only[hc,if_true]
 refine PySem.W.KFB.if_so hm ?_
 refine wpAny_bind (hchk _ _ _ ?_)
 refine wpAny_bind (wpAny_pure (wpAny_pure ?_))
 refine⟨plainId_quiet hp _,codeAny_builtin he ?_⟩
 rw[Around.under_plainId hp _]
 exact wpAny_mono h (fun fin s' q0=>q0.elim fun v q0=>q0.elim fun e q=>by subst e;exact q) fun _ _ e=>e
theorem sig_pop:Manifest.signature? "list.pop"=some {machinery:=.positional,full:="list.pop",short:="pop",receiver:=.self,params:=[{name:="index",kind:=.posOnly,required:=false}]}:=by
 rw[signature?_of (id:="list.pop") (n:=['p','o','p']) (o:=['t','s','i','l']) (by kernel_rfl) PySem.F.owner_list];kernel_rfl
theorem kind_pop:builtinKind "list.pop"=some .method:=by kernel_rfl
theorem varargs_pop:Manifest.varargsMethods.contains "list.pop"=false:=by first | decide +kernel | kernel_rfl
theorem last_pop:(Bind.lastOf "list.pop":String)="pop":=by first | decide +kernel | kernel_rfl | (unfold Bind.lastOf;simp +decide [String.splitOn,String.splitOnAux])
theorem clsB_at (x:(KB w).In s.heap):∃ o cd,s.heap.get? 309=some o∧o.cls=.type "type"∧o.data=.cls cd∧cd.qualname.toString="_Accumulator":=
 ⟨Mine.Internal.hd.zo_325 w.params,dCls (Mine.Internal.hd.zo_325 w.params).data,x _ _ (by kernel_rfl),by kernel_rfl,by kernel_rfl,by kernel_rfl⟩
theorem check_pop {a:Addr} {Q:Unit→Shared→Prop} (x:SubI w s a 309) (hd:∀ o,s.heap.get? a=some o→∀ c,o.data≠.cls c) (h:Q () s):wpAny (model PR w) A (checkBoundCall "list.pop" ⟨[.ref a],[]⟩) Q E s:=by
 obtain⟨oa,hoa,hca⟩:=x.at_
 obtain⟨oC,cd,hC,hCc,hCd,hq⟩:=clsB_at x.kin
 have x':=x
 unfold checkBoundCall
 rw[sig_pop]
 dsimp only
 rw[kind_pop]
 dsimp only
 rw[if_neg (by decide)]
 refine wpAny_bind (x.inst (b:=false) (by kernel_rfl) ?_)
 rw[varargs_pop]
 refine PySem.W.KFB.if_not rfl ?_
 obtain⟨hh,g,d,t,os⟩:=s
 refine wpAny_bind (m:=isType (.ref a)) (ks_wpAny_isType_inst hoa (hd _ hoa) ?_)
 refine PySem.W.KFB.if_not rfl ?_
 refine wpAny_bind (m:=typeOf (.ref a)) ?_
 unfold typeOf
 refine wpAny_bind (wpAny_load hoa (wpAny_pure ?_))
 rw[hca]
 dsimp only
 refine wpAny_bind (m:=classData 309) ?_
 unfold classData
 refine wpAny_bind (wpAny_load hC ?_)
 rw[hCd]
 refine wpAny_pure ?_
 refine wpAny_bind (wpAny_bind (wpAny_load hC (wpAny_pure ?_)))
 rw[hCc,hq]
 have e:(toString "_Accumulator"++toString "."++toString (Bind.lastOf "list.pop"):String)="_Accumulator.pop":=by rw[last_pop];decide
 refine PySem.W.KFB.if_so (by decide) ?_
 rw[e]
 have z:Bind.checkArgs "list.pop" {machinery:=.positional,full:="_Accumulator.pop",short:="pop",receiver:=.self,params:=[{name:="index",kind:=.posOnly,required:=false}]} ⟨[.ref a],[]⟩=pure ():=by kernel_rfl
 rw[z]
 first | exact wpAny_pure h | exact wpAny_bind (wpAny_pure (wpAny_pure h))
theorem kind_llen:builtinKind "list.__len__"=some .slot:=by kernel_rfl
theorem kind_linit:builtinKind "list.__init__"=some .slot:=by kernel_rfl
theorem check_bslot {id:String} {a:Addr} {Q:Unit→Shared→Prop} (hk:builtinKind id=some .slot) (ha:argsOk id ⟨[.ref a],[]⟩) (h:Q () s) {prog:Program}:wpAny (model prog w) A (checkBoundCall id ⟨[.ref a],[]⟩) Q E s:=by
 unfold checkBoundCall
 unfold argsOk at ha
 cases hs:Manifest.signature? id with
 | none=>exact wpAny_pure h
 | some sig=>
  rw[hs] at ha
  dsimp only at ha ⊢
  rw[hk]
  dsimp only
  rw[if_pos (by decide),ha]
  first | exact wpAny_pure h | exact wpAny_bind (wpAny_pure (wpAny_pure h))
theorem keep_bound {M:Model} {h:Heap} {Bd a:Addr} {bt id:String} (hb:h.get? Bd=some (boundObj bt id a)) (hbt:bt="builtin_function_or_method"∨bt="method-wrapper"):Looks M h (keeperOf (.ref Bd)) .machine:=fun A Q E s k q=>by
 unfold keeperOf
 refine wpAny_bind (wpAny_load (k _ _ hb) ?_)
 have hm:(Value.type bt != Value.type "method")=true:=by rcases hbt with rfl | rfl<;>decide
 have hc:(Value.type bt==Value.type "builtin_function_or_method"||Value.type bt==Value.type "method-wrapper")=true:=by rcases hbt with rfl | rfl<;>decide
 dsimp only
 refine PySem.W.KFB.if_so hm ?_
 rw[if_pos hc]
 exact wpAny_pure q
theorem acc_mro (w:World):∃ cd,clsIn (KB w) 309=some cd∧(cd.mro.dropWhile (· != .ref 309)).drop 1=[.type "list",.type "object"]:=⟨dCls (Mine.Internal.hd.zo_325 w.params).data,by kernel_rfl,by kernel_rfl⟩
theorem supPop (w:World):SupM w 309 "pop" "list.pop" "method_descriptor" "method_descriptor.__get__" "builtin_function_or_method" Builtin.«method_descriptor.__get__»:=
 ⟨acc_mro w,by kernel_rfl,by kernel_rfl,PySem.F.type_list_pop,slot_md_get,entry_md_get,args_md_get,by decide,fun A E P s a x h=>get_pop x (by kernel_rfl) h⟩
theorem supLen (w:World):SupM w 309 "__len__" "list.__len__" "wrapper_descriptor" "wrapper_descriptor.__get__" "method-wrapper" Builtin.«wrapper_descriptor.__get__»:=
 ⟨acc_mro w,by kernel_rfl,by kernel_rfl,by show builtinType _=_;rw[builtinType_eq_fast];kernel_rfl,slot_wd_get,entry_wd_get,args_wd_get,by decide,fun A E P s a x h=>get_len x (by kernel_rfl) h⟩
theorem supInit (w:World):SupM w 309 "__init__" "list.__init__" "wrapper_descriptor" "wrapper_descriptor.__get__" "method-wrapper" Builtin.«wrapper_descriptor.__get__»:=
 ⟨acc_mro w,by kernel_rfl,by kernel_rfl,by show builtinType _=_;rw[builtinType_eq_fast];kernel_rfl,slot_wd_get,entry_wd_get,args_wd_get,by decide,fun A E P s a x h=>get_init x (by kernel_rfl) h⟩
end
section
variable {g:Glob} {d:Nat} {sc:Scope} {σ:Sig} {env:Env} {A:Around} {Φ Ψ Φ₀ B:PH} {s:Shared} {rest:List Stmt}
structure SupE (g:Glob) (sc:Scope) (env:Env) (C:Addr) (x:Str):Prop where
 hks:kindIn sc ("super":Str)=some .globalImplicit
 hkc:kindIn sc ("__class__":Str)=some .free
 fn:∃ f of fd ar,env.func=some f∧(KB g.w).lookup f=some of∧of.data=.func fd∧(fd.params.posonlyargs++fd.params.args).head?=some ar∧ar.arg=x
 code:∃ cc oc vs file tf,env.code=.ref cc∧(KB g.w).lookup cc=some oc∧oc.data=.fields vs∧vs[2]?=some (.str file tf)∧((PR.main.file:Str)==file)=true
 htop:(PR.main.scope.names.lookup ("super":Str)).isSome=false
 hgl:globK g.w ("super":Str)=some Option.none
 cls:∃ oC cd,(KB g.w).lookup C=some oC∧oC.data=.cls cd
 hsub:subIn (KB g.w) (.ref C) (.ref C)=some true
theorem sup_at {body:List Stmt} {p0 p1 apos pos:Pos} {C a dd:Addr} {x name:Str} {xs:List AV} {id T gid bt:String} {G Bi:Builtin} {Q:Value→Shared→Prop} (r:Room d A) (se:SupE g sc env C x) (m:SupM g.w C name id T gid bt G) (hbt:bt="builtin_function_or_method"∨bt="method-wrapper")
  (y:At g sc env σ B Φ s) (hvc:σ.vars.lookup ("__class__":Str)=some (.ref C)) (hva:σ.vars.lookup x=some (.ref a)) (ha:σ.own.lookup a=some (.sub C dd xs))
  (hchk:∀ (A:Around) s (Q:Unit→Shared→Prop) (E:Value→Shared→Prop),SubI g.w s a C→(∀ o,s.heap.get? a=some o→∀ c,o.data≠.cls c)→Q () s→wpAny (model PR g.w) A (checkBoundCall id ⟨[.ref a],[]⟩) Q E s) (hp:plainId id=true) (he:entryFor table id=some Bi)
  (hcall:∀ (A:Around) Φ' s',A.handled=none→PH.le Φ Φ'→At g sc env σ B Φ' s'→W g.w A (Bi ⟨[.ref a],[]⟩) (fun fin s'=>∃ v,fin=.done (.ret v)∧Q v s') s')
  (hline:autoParam ((apos.endLine==pos.line)=true) aR) :
  WAt g.w A (.func body env) (eval (.Call (.Attribute (.Call (.Name ("super":Str) p0) [] [] p1) name apos) [] [] pos) env) Q s:=by
 refine box fun bX bk=>?_
 obtain⟨f,of,fd,ar,q1,q2,q3,q4,rfl⟩:=se.fn
 refine bk ?_
 clear bk bX
 refine box fun bX bk=>?_
 obtain⟨cc,oc,vs,file,tf,z1,z2,z3,z4,z5⟩:=se.code
 obtain⟨oC,cd,u1,u2⟩:=se.cls
 refine bk ?_
 clear bk bX
 have hpos:methodCallPos true (.Call (.Name ("super":Str) p0) [] [] p1) env apos pos=pure pos:=by unfold methodCallPos;simp -iota [hline]
 rw[arm_eval_Call]
 refine _root_.PySem.wpAt_bind (ks_wpAt_mono (sup_node y se.hks se.hkc m.hn q1 q2 q3 q4 z1 z2 z3 z4 z5 se.htop se.hgl hvc hva ha u1 u2 se.hsub) (fun v s₁ q0=>q0.elim fun so q0=>q0.elim fun Φ₁ q0=>q0.elim fun e q0=>q0.elim fun l₁ q0=>q0.elim fun hso y₁=>?_) fun _ _ e=>e)
 subst e
 refine _root_.PySem.wpAt_of_wpAny (wpAny_bind (wpAny_standAt ?_))
 unfold methodCall
 have hform:methodCallForm (([]:List PySem.Expr).length+([]:List Keyword).length) (backTo pos (starEach [] env)) (backToKw pos (keywordEach [] env))=true:=by rfl
 rw[hform]
 refine wpAny_bind (wpAny_holding ?_)
 show W g.w A (getMethod (.ref so) name _) _ _
 refine box fun bX bk=>?_
 obtain⟨Ψ,pr,hb⟩:=y₁.pre
 obtain⟨oa,g0,g1,g2,us,mm,g3,_⟩:=pr.own a _ ha
 refine bk ?_
 clear bk bX
 have hSub:SubI g.w s₁ a C:=⟨pr.hp.kin,oa,pr.hp.getΨ g0,g1⟩
 have hnc:∀ (h:Heap),h.get? a=some oa→∀ o,h.get? a=some o→∀ c,o.data≠.cls c:=fun h e o e' c q=>by rw[e] at e';cases e';rw[g3] at q;cases q
 refine sup_method m hSub (hnc _ (pr.hp.getΨ g0)) (pr.hp.getΦ hso) ?_
 refine wpAny_bind (wpAny_of_eq hpos ?_)
 have hp1:Hp g Φ₁ Ψ {s₁ with heap:=s₁.heap.push (boundObj bt id a),toks:=s₁.toks+1}:=pr.hp.ext fun b o e=>Heap.get?_push_of_some _ e
 have hbd:(s₁.heap.push (boundObj bt id a)).get? s₁.heap.objs.size=some (boundObj bt id a):=Heap.get?_push_size _ rfl
 have y₂:At g sc env σ B Φ₁ {s₁ with heap:=s₁.heap.push (boundObj bt id a),toks:=s₁.toks+1}:=y₁.ext fun b o e=>Heap.get?_push_of_some _ e
 refine callWith_of (P:=fun h=>∃ k,(k=Keeper.frame∨k=Keeper.machine∨k=Keeper.boundFrame)∧Looks (model PR g.w) h (keeperOf (.ref s₁.heap.objs.size)) k) rfl (fun h q=>q) ?_
 refine evalArgs_nilW (wpAny_items_nil (env:=env) (pos:=pos) ⟨⟨.machine,.inr (.inl rfl),keep_bound hbd hbt⟩,?_⟩)
 show W g.w A (call (.ref s₁.heap.objs.size) []) Q _
 refine call_boundS (s:={s₁ with heap:=s₁.heap.push (boundObj bt id a),toks:=s₁.toks+1}) hbd hbt (fun A Q E q=>hchk A _ Q E ⟨hp1.kin,oa,hp1.getΨ g0,g1⟩ (hnc _ (hp1.getΨ g0)) q) hp he ?_
 exact hcall A.in1 Φ₁ _ (by exact r.hd) l₁ y₂
inductive SPost (g:Glob) (a C dd:Addr) (Φ Ψ:PH) (ys:List AV) (c:AV) (fin:Fin) (s:Shared):Prop
 | mk (v:Value) (e:fin=.done (.ret v)) (us:Array Value) (m':Nat) (o':Obj) (Φ':PH) (z1:o'.cls=.ref C) (z2:o'.dict=some dd) (z3:o'.data=.seq us m') (l:PH.le Φ Φ') (h:Hp g Φ' (Ψ.put a o') s) (hy:RepL Φ' ys us.toList) (hc:Rep Φ' c v)
inductive DPost (g:Glob) (sc:Scope) (env:Env) (σ:Sig) (B Φ:PH) (av:AV) (fin:Fin) (s:Shared):Prop
 | mk (v:Value) (e:fin=.done (.ret v)) (Φ':PH) (l:PH.le Φ Φ') (y:At g sc env σ B Φ' s) (r:Rep Φ' av v)
noncomputable def SubB (g:Glob) (a C dd:Addr) (Bi:Builtin) (xs ys args:List AV) (c:AV):Prop:=∀ (A:Around) Φ Ψ s (vs:Array Value) m ws o,A.handled=none→Hp g Φ Ψ s→Ψ a=some o→o.cls=.ref C→o.dict=some dd→o.data=.seq vs m→RepL Φ xs vs.toList→RepL Φ args ws →
 W g.w A (Bi ⟨.ref a::ws,[]⟩) (SPost g a C dd Φ Ψ ys c) s
theorem SubB.at {a C dd:Addr} {Bi:Builtin} {xs ys args:List AV} {c:AV} {ws:List Value} (h:SubB g a C dd Bi xs ys args c) (hA:A.handled=none) (y:At g sc env σ B Φ s) (ha:σ.own.lookup a=some (.sub C dd xs)) (hm:a∈σ.mt) (ra:RepL Φ args ws) :
  W g.w A (Bi ⟨.ref a::ws,[]⟩) (DPost g sc env (σ.set a (.sub C dd ys)) B Φ c) s:=by
 refine box fun bX bk=>?_
 obtain⟨Ψ,pr,hb⟩:=y.pre
 obtain⟨o,g0,g1,g2,us,m,g3,g4⟩:=pr.own a _ ha
 refine bk ?_
 clear bk bX
 refine(h A Φ Ψ s us m ws o hA pr.hp g0 g1 g2 g3 g4 ra).mono fun fin s' q0=>q0.casesOn fun v e us' m' o' Φ' z1 z2 z3 l hp' hy hc=>⟨v,e,Φ',l,?_,hc⟩
 refine y.change (mt:=[a]) pr hb l hp' (fun b o hb' e=>by rw[PH.put_other _ _ (fun q=>hb' (List.mem_singleton.mpr q))];exact e) (fun b hb'=>by simp -iota at hb';rw[hb'];exact hm) (fun b ov q=>?_) (fun b ov q=>.inl ?_) fun b hb'=>⟨.inl hb',?_⟩
 ·rcases lkc q with ⟨rfl,rfl⟩ | ⟨q1,q2⟩
  ·exact⟨_,PH.put_self _ _ _,z1,z2,us',m',z3,hy⟩
  ·refine box fun bX bk=>?_
   obtain⟨ob,w1,w2⟩:=pr.own b ov q2
   refine bk ?_
   clear bk bX
   exact⟨ob,by rw[PH.put_other _ _ q1];exact w1,w2.mono l⟩
 ·rcases lkc q with ⟨rfl,rfl⟩ | ⟨q1,q2⟩
  ·rw[ha];rfl
  ·rw[q2];rfl
 ·by_cases q:b=a
  ·rw[q,lk_eq];rfl
  ·rw[lk_ne q];exact(y.mine b hb').2
theorem SubB.pop {a C dd:Addr} {xs:List AV} {x:AV} (h:small (xs.length+1)):SubB g a C dd Builtin.«list.pop» (xs++[x]) xs [] x:=fun A Φ Ψ s vs m ws o hA hp eo h1 h2 h3 hr hw=>by
 have:=repL_nil_inv hw
 subst this
 have hs:=size_of hr
 rw[List.length_append] at hs
 have hs':vs.size=xs.length+1:=hs
 refine box fun bX bk=>?_
 obtain⟨v,hv,rv⟩:=repL_get hr (i:=xs.length) (x:=x) (by simp)
 refine bk ?_
 clear bk bX
 have hv':vs[xs.length]?=some v:=by rw[←Array.getElem?_toList];exact hv
 unfold Builtin.«list.pop»
 refine wpAny_bind (wpAny_of_eq (a:=(.ref a,[])) (by rfl) ?_)
 dsimp only
 refine wpAny_bind (wpAny_pure ?_)
 refine PySem.W.KFB.if_not (by decide) ?_
 refine wpAny_bind (m:=Builtin.List.listItems (.ref a)) ?_
 unfold Builtin.List.listItems
 refine wpAny_bind (wpAny_seqItems (hp.getΨ eo) h3 (wpAny_pure ?_))
 have hne:vs.isEmpty=false:=by simp[Array.isEmpty,hs']
 refine PySem.W.KFB.if_not (by rw[hne]) ?_
 have hsi:seqIndex? (-1) vs.size=some xs.length:=by
  unfold seqIndex?
  rw[hs']
  simp
  first | lia | (constructor<;>lia) | skip
 rw[hsi]
 simp only[Option.bind_some,hv',Option.map_some]
 have hsm:vs.size≤sizeLine:=by rw[hs'];exact small_line h
 refine wpAny_bind (wpAny_updateSeq (hp.getΨ eo) h3 ?_ hsm ?_)
 ·refine box fun bX bk=>?_
  obtain⟨o',m',z1,z2,z3,hp'⟩:=upd_sub (f:=(·.eraseIdxIfInBounds xs.length)) hp eo h1 h2 h3
  refine bk ?_
  clear bk bX
  refine wpAny_pure ⟨_,rfl,_,m',o',Φ,z1,z2,z3,PH.le.refl _,hp',?_,rv⟩
  have ht:=repL_take xs.length hr
  rw[List.take_left] at ht
  have e:(vs.eraseIdxIfInBounds xs.length).toList=vs.toList.take xs.length:=by
   rw[Array.toList_eraseIdxIfInBounds,List.eraseIdx_eq_take_drop_succ,List.drop_eq_nil_of_le (by simp[hs']),List.append_nil]
  rw[e];exact ht
 ·have:(vs.eraseIdxIfInBounds xs.length).size≤vs.size:=by
   rw[←Array.length_toList,←Array.length_toList,Array.toList_eraseIdxIfInBounds]
   exact List.length_eraseIdx_le ..
  exact Nat.le_trans this (Nat.le_succ_of_le hsm)
theorem SubB.init {a C dd:Addr}:SubB g a C dd Builtin.«list.__init__» [] [] [] .none:=fun A Φ Ψ s vs m ws o hA hp eo h1 h2 h3 hr hw=>by
 have:=repL_nil_inv hw
 subst this
 have hs:=size_of hr
 have hz:vs=#[]:=by simpa using hs
 subst hz
 unfold Builtin.«list.__init__»
 dsimp only
 first
  | refine PySem.W.KFB.if_not (b:=!([]:List (Str × Value)).isEmpty) (by rfl) ?_
  | refine PySem.W.KFB.if_not rfl ?_
 try refine PySem.W.KFB.if_not (by decide) ?_
 refine wpAny_bind (m:=Builtin.List.listItems (.ref a)) ?_
 unfold Builtin.List.listItems
 refine wpAny_bind (wpAny_seqItems (hp.getΨ eo) h3 (wpAny_pure ?_))
 refine wpAny_bind (wpAny_updateSeq (hp.getΨ eo) h3 ?_ (Nat.zero_le _) (Nat.zero_le _))
 refine box fun bX bk=>?_
 obtain⟨o',m',z1,z2,z3,hp'⟩:=upd_sub (f:=fun _=>#[]) hp eo h1 h2 h3
 refine bk ?_
 clear bk bX
 refine wpAny_bind (m:=letGo _) (wpAny_pure ?_)
 exact wpAny_pure ⟨_,rfl,#[],m',o',Φ,z1,z2,z3,PH.le.refl _,hp',repL_nil,rep_none⟩
theorem sub_len {a C dd:Addr} {xs:List AV} (hA:A.handled=none) (y:At g sc env σ B Φ s) (ha:σ.own.lookup a=some (.sub C dd xs)) (hsm:small xs.length) :
  W g.w A (Builtin.«list.__len__» ⟨[.ref a],[]⟩) (DPost g sc env σ B Φ (.int xs.length)) s:=by
 refine box fun bX bk=>?_
 obtain⟨Ψ,pr,hb⟩:=y.pre
 obtain⟨o,g0,g1,g2,us,m,g3,g4⟩:=pr.own a _ ha
 refine bk ?_
 clear bk bX
 have hs:=size_of g4
 unfold Builtin.«list.__len__»
 refine wpAny_bind (wpAny_of_eq (a:=(.ref a,[])) (by rfl) ?_)
 dsimp only
 refine wpAny_bind (m:=seqSize a) ?_
 unfold seqSize
 refine wpAny_bind (wpAny_loadPart (pr.hp.getΨ g0) ?_)
 rw[g3]
 refine wpAny_pure ?_
 rw[hs]
 refine wpAny_bind (wpAny_mkInt (wpAny_pure ⟨_,rfl,Φ,PH.le.refl _,?_,rep_int⟩))
 exact y.ext (h':=s.heap) fun b o e=>e
end
section
open PySem.Builtin PySem.Builtin.Str
section
variable {g:Glob} {d:Nat} {sc:Scope} {σ:Sig} {env:Env} {A:Around} {Φ Ψ Φ₀ B:PH} {s:Shared} {rest:List Stmt} {Q:Flow→Shared→Prop} {ω:Ow}
noncomputable def GmP (g:Glob) (d:Nat) (sc:Scope) (σ:Sig) (a:AV) (name:Str) (f:Value) (favs:List AV):Prop:=
 ∀ A env Φ Ψ s v pl,Room d A→Pre g sc σ env Φ Ψ s→Rep Φ a v→W g.w A (getMethod v name pl) (GPost g Φ Ψ f favs) s
theorem GmP.subL {a C dd f:Addr} {xs:List AV} {fs:List (Str × AV)} {name:Str} (hs:σ.own.lookup a=some (.sub C dd xs)) (ho:σ.own.lookup dd=some (.dict fs)) (hok:methOkL g.w C name f=true) (hn:name∉fs.map (·.1)):GmP g d sc σ (.ref a) name (.ref f) [.ref a]:=fun A env Φ Ψ s v pl r pr rp=>by
 replace rp:_=_:=rp
 subst rp
 refine box fun bX bk=>?_
 obtain⟨ox,g0,g1,g2,us,m,g3,_⟩:=pr.own a _ hs
 obtain⟨od,e0,es,n,h5,h6,h8,hf,h7⟩:=pr.own dd _ ho
 refine bk ?_
 clear bk bX
 unfold methOkL getL at hok
 simp only[Bool.and_eq_true] at hok
 refine box fun bX bk=>?_
 obtain⟨⟨⟨⟨k1,k2⟩,k3⟩,k4⟩,k5⟩:=hok
 refine bk ?_
 clear bk bX
 refine methL (od:=some od) (T:=.type "function") pr.hp.kin ⟨pr.hp.getΨ g0,g1,by unfold notCls;rw[g3],by rw[g2];exact pr.hp.getΨ e0⟩ (beq_iff_eq.mp k1) (beq_iff_eq.mp k2) (beq_iff_eq.mp k4) (looks_typeIn pr.hp.kin (beq_iff_eq.mp k5)) (.inl rfl) (by show(lookIn name od).map _=_;rw[lookIn_of h5 h6,h7 name hn];rfl) ?_
 exact⟨rfl,Φ,PH.le.refl _,pr.hp,repL_cons rep_ref repL_nil⟩
theorem Ev.methP {o:PySem.Expr} {name:Str} {apos pos:Pos} {a:AV} {f:Value} {favs:List AV} {es:List PySem.Expr} {avs:List AV} {c:AV} (h1:Ev g d sc σ o a) (hm:GmP g d sc σ a name f favs) (hk:Keep g f) (h:EvL g d sc σ es avs) (hfn:Fn g d σ.own f (favs++avs) [] c)
  (hbase:autoParam (∀ env,attributeBase o name env (eval o env)=eval o env) aR) (hline:autoParam ((apos.endLine==pos.line)=true) aR)
  (hform:autoParam (∀ env,methodCallForm (es.length+([]:List Keyword).length) (backTo pos (starEach es env)) (backToKw pos (keywordEach [] env))=true) aR)
  (hst:autoParam (∀ env,((backTo pos (starEach es env)).any (·.1))=false) aR):Ev g d sc σ (.Call (.Attribute o name apos) es [] pos) c:=fun A env Φ Ψ s r x=>by
 rw[arm_eval_Call,hbase env]
 refine wpAny_bind (h1.run r x fun Φ₁ v s₁ l₁ x₁ r₁=>wpAny_bind (wpAny_standAt ?_))
 have hpos:methodCallPos true o env apos pos=pure pos:=by unfold methodCallPos;simp[hline]
 unfold methodCall
 rw[hform env]
 refine wpAny_bind (wpAny_holding ?_)
 show W g.w A (getMethod v name (do return (←importBound o env).getD true)) _ _
 refine W.mono (hm A env Φ₁ Ψ s₁ v _ r x₁ r₁) ?_
 rintro⟨f',first⟩ s₂ ⟨rfl,Φ₂,l₂,hp₂,hr₂⟩
 refine wpAny_bind (wpAny_of_eq hpos ?_)
 exact W.mono (callWith_W r (x₁.next l₂ hp₂) hr₂ hk h hfn hst) fun _ _ q=>Ret.up (l₁.trans l₂) q
theorem CallsTo.ownW {f:Value} {args:List AV} {av:AV} {ω ω':Ow} {mt:List Addr} (h:FnM g d mt ω f args [] (fun r o=>r=av∧o=ω')) (hω:∀ b ov,ω.lookup b=some ov→σ.own.lookup b=some ov) (hmt:∀ b∈mt,b∈σ.mt) (hk:∀ b,(ω'.lookup b).isSome=true→(ω.lookup b).isSome=true) (hm':∀ b∈mt,(ω'.lookup b).isSome=true) :
  CallsTo g d sc σ f args av (σ.ow (ω'++σ.own) σ.mt):=fun A env B Φ s vs r y ra=>by
 refine h.at r y hω hmt ra rfl repL_nil fun Φ' v s' av' ω'' l rp hP k=>?_
 obtain⟨rfl,rfl⟩:=hP
 refine⟨Φ',l,k (ω''++σ.own) σ.mt (fun b o e=>?_) (fun b hb=>⟨?_,.inl hb⟩) (fun b h1 h2=>?_),rp⟩
 ·rw[lookup_app] at e
  cases q:ω''.lookup b with
  | some ov=>rw[q] at e;cases e;exact .inl rfl
  | none=>
   rw[q] at e
   refine .inr ⟨fun hb=>?_,e⟩
   have:=hm' b hb
   rw[q] at this;cases this
 ·rw[lookup_app]
  cases q:ω''.lookup b with
  | some ov=>rfl
  | none=>exact(y.mine b hb).2
 ·have:=hk b h2
  rw[h1] at this;cases this
theorem At.ownTo {own':Ow} {mt':List Addr} (y:At g sc env σ B Φ s) (h:∀ b ov,own'.lookup b=some ov→σ.own.lookup b=some ov) (hm:∀ b∈mt',b∈σ.mt∧(own'.lookup b).isSome=true):At g sc env (σ.ow own' mt') B Φ s:=by
 obtain⟨Ψ,pr,hb⟩:=y.pre
 refine⟨⟨Ψ,⟨pr.ev,pr.hp,pr.fr,fun b ov e=>pr.own b ov (h b ov e)⟩,hb⟩,fun a fa=>⟨(y.out a fa).1,?_⟩,fun b hb=>⟨(y.mine b (hm b hb).1).1,(hm b hb).2⟩,y.cel,y.inj⟩
 cases q:own'.lookup a with
 | none=>rfl
 | some ov=>have:=h a ov q;rw[(y.out a fa).2] at this;cases this
theorem Bk.ownTo (own':Ow) (mt':List Addr) {b:List Stmt} (k:Bk g sc env A Φ₀ B (σ.ow own' mt') b Q) (h:∀ b ov,own'.lookup b=some ov→σ.own.lookup b=some ov) (hm:∀ b∈mt',b∈σ.mt∧(own'.lookup b).isSome=true):Bk g sc env A Φ₀ B σ b Q:=fun Φ s l y=>k Φ s l (y.ownTo h hm)
theorem Bk.ownS (own':Ow) (mt':List Addr) {b:List Stmt} (k:Bk g sc env A Φ₀ B (σ.ow own' mt') b Q) (h:OwnIn σ.own σ.mt own') (e:own'.map (·.1)=mt':=by rfl):Bk g sc env A Φ₀ B σ b Q:=by
 subst e
 exact Bk.ownTo own' _ k (fun b ov q=>(h.all b ov q).1) fun b hb=>h.mem b hb
theorem InstAt.sub {a C dd:Addr} {xs:List AV} {fs:List (Str × AV)} (hp:Hp g Φ Ψ s) (ho:Owns Φ Ψ ω) (ha:ω.lookup a=some (.sub C dd xs)) (hd:ω.lookup dd=some (.dict fs)):∃ ox od,InstAt s.heap a ox C (some od):=by
 refine box fun bX bk=>?_
 obtain⟨ox,g0,g1,g2,us,m,g3,_⟩:=ho a _ ha
 obtain⟨od,e0,_⟩:=ho dd _ hd
 refine bk ?_
 clear bk bX
 exact⟨ox,od,hp.getΨ g0,g1,by unfold notCls;rw[g3],by rw[g2];exact hp.getΨ e0⟩
theorem Fn.lenU {a C dd f:Addr} {xs:List AV} {fs:List (Str × AV)} {n:Int} (ha:ω.lookup a=some (.sub C dd xs)) (hd:ω.lookup dd=some (.dict fs)) (hs:findIn (KB g.w) (.ref C) "__len__"=some (some (.ref f))) (hf:isFn (KB g.w) (.ref f)=true) (h0:0≤n) (h1:n<2^63) (hd0:0<d)
  (h:Fn g d ω (.ref f) [.ref a] [] (.int n)):Fn g (d+1) ω (.builtin "len") [.ref a] [] (.int n):=.one fun A Φ Ψ s v r hp how ra=>by
 replace ra:_=_:=ra
 subst ra
 obtain⟨ox,od,I⟩:=InstAt.sub hp how ha hd
 refine Calls.call_function_entry kind_len plain_len entry_len (args_len1 _) ?_
 unfold Builtin.«len»
 refine wpAny_bind (m:=oneArg "len" _) (wpAny_pure ?_)
 refine wpAny_bind (m:=callSpecial? (.ref a) (Str.ofString "__len__")) (special_fn hp.kin I hs (beq_iff_eq.mp hf) (wpAny_mono (h A.in1 Φ Ψ s [.ref a] [] (r.in1 hd0) hp how (repL_cons rep_ref repL_nil) rfl repL_nil) (fun v s' hr=>?_) fun _ _ y=>y))
 obtain⟨Φ',l,hp',rv⟩:=hr
 refine int_elim rv fun t=>?_
 refine wpAny_bind (wpAny_holding (wpAny_pure ?_))
 refine wpAny_bind (wpAny_letGo ?_)
 show wpAny _ _ (if n<0 then _ else _) _ _ _
 rw[if_neg (by(clear rv hp' l I how hp r h hd0 h1 hf hs hd ha;lia))]
 show wpAny _ _ (if n≥2^63 then _ else _) _ _ _
 rw[if_neg (by(clear rv hp' l I how hp r h hd0 h0 hf hs hd ha;lia))]
 exact wpAny_bind (wpAny_mkInt (wpAny_pure ⟨_,rfl,Φ',l,hp'.tok _,rep_int⟩))
theorem Fn.strU {a C dd f:Addr} {xs:List AV} {fs:List (Str × AV)} {x:Str} (ha:ω.lookup a=some (.sub C dd xs)) (hd:ω.lookup dd=some (.dict fs)) (hs:findIn (KB g.w) (.ref C) "__str__"=some (some (.ref f))) (hf:isFn (KB g.w) (.ref f)=true) (hd0:0<d)
  (h:Fn g d ω (.ref f) [.ref a] [] (.str x)):Fn g (d+2) ω (.type "str") [.ref a] [] (.str x):=.one fun A Φ Ψ s v r hp how ra=>by
 replace ra:_=_:=ra
 subst ra
 refine box fun bX bk=>?_
 obtain⟨ox,od,I⟩:=InstAt.sub hp how ha hd
 refine bk ?_
 clear bk bX
 have r2:Room d A.in1.in1:=(r.in1 (Nat.succ_pos d)).in1 hd0
 refine kso_call r2.c hp.kin I hs hf ?_
 refine wpAny_mono (h A.in1.in1 Φ Ψ s [.ref a] [] r2 hp how (repL_cons rep_ref repL_nil) rfl repL_nil) (fun v s' hr=>?_) fun _ _ y=>y
 refine box fun bX bk=>?_
 obtain⟨Φ',l,hp',rv⟩:=hr
 refine bk ?_
 clear bk bX
 refine str_elim rv fun t=>?_
 exact⟨Φ',l,hp',rep_str⟩
end
end
section
open PySem.Builtin
section
variable {w:World} {A:Around} {R:Result→Shared→Prop} {h:Heap} {g:Array GenState} {d:Drawn} {t:Nat} {os:OsState} {C:Addr}
structure MakesIn (K:Frag) (C:Addr) (oc:Value) (od:Option Addr) (cd:ClassData) (sl:Array (Option Value)):Prop where
 ho:K.lookup C=some ⟨oc,od,.cls cd,sl⟩
 e1:cd.abstract=false
 e2:cd.hasDel=false
 e3:(sl.toList[4]?).join=some (.builtin "list.__new__")
 e4:cd.mro.isEmpty=false
 e5:cd.mro.contains (.ref C)=true
 e6:cd.mro.contains (.type "list")=true
 e7:specialIn K (.ref C) "__call__"=some (some (.builtin "type.__call__"))
 e8:instIn K (.ref C) (.type "type")=some true
theorem makesIn_acc (w:World):MakesIn (KB w) 309 (Mine.Internal.hd.zo_325 w.params).cls (Mine.Internal.hd.zo_325 w.params).dict (dCls (Mine.Internal.hd.zo_325 w.params).data) (Mine.Internal.hd.zo_325 w.params).slots:=⟨by kernel_rfl,by kernel_rfl,by kernel_rfl,by kernel_rfl,by kernel_rfl,by kernel_rfl,by kernel_rfl,by kernel_rfl,by kernel_rfl⟩
structure MakesL (M:Model) (h:Heap) (C:Addr):Prop where
 obj:∃ oc od cd sl,h.get? C=some ⟨oc,od,.cls cd,sl⟩∧cd.abstract=false∧cd.hasDel=false∧cd.mro.isEmpty=false
 made:Looks M h (Bind.madeBy (.ref C)) (some "list.__new__")
 base:Looks M h (Bind.staticBase (.ref C)) (.ref C)
 self:Looks M h (isSubtype (.ref C) (.ref C)) true
 top:Looks M h (isSubtype (.ref C) (.type "list")) true
 call:Looks M h (specialOf (.ref C) "__call__") (some (.builtin "type.__call__"))
 typ:Looks M h (isInstance (.ref C) (.type "type")) true
theorem makesL_of {K:Frag} {M:Model} {oc:Value} {od:Option Addr} {cd:ClassData} {sl:Array (Option Value)} (X:K.In h) (e:MakesIn K C oc od cd sl):MakesL M h C:=by
 obtain⟨ho,e1,e2,e3,e4,e5,e6,e7,e8⟩:=e
 have hc:clsIn K C=some cd:=by unfold clsIn;rw[ho]
 have hm:Looks M h (mroOf (.ref C)) cd.mro:=(looks_clsIn X hc).andThen .now
 obtain⟨c,l,hl⟩:∃ c l,cd.mro=c::l:=by cases q:cd.mro with | nil=>rw[q] at e4;cases e4 | cons c l=>exact⟨c,l,rfl⟩
 have made:Looks M h (Bind.madeBy (.ref C)) (some "list.__new__"):=by
  intro A Q E s k q
  unfold Bind.madeBy
  refine wpAny_bind (hm A _ E s k ?_)
  rw[hl,List.forIn_cons]
  refine wpAny_bind (wpAny_bind (wpAny_bind (wpAny_bind (wpAny_loadPart (k _ _ (X _ _ ho)) (wpAny_pure ?_)))))
  dsimp only
  rw[←Array.getElem?_toList,e3]
  exact wpAny_pure (wpAny_pure (wpAny_pure q))
 refine⟨⟨oc,od,cd,sl,X _ _ ho,e1,e2,e4⟩,made,?_,looks_mroIn X ?_,looks_mroIn X ?_,looks_specialIn X e7,looks_instIn X e8⟩
 ·intro A Q E s k q
  unfold Bind.staticBase
  refine wpAny_bind (hm A _ E s k ?_)
  rw[hl,List.forIn_cons]
  exact wpAny_bind (wpAny_bind (wpAny_bind (made A _ E s k (wpAny_pure (wpAny_pure (wpAny_pure q))))))
 ·unfold mroIn;rw[hc,Option.bind_some,if_neg (by rw[e4];decide),e5]
 ·unfold mroIn;rw[hc,Option.bind_some,if_neg (by rw[e4];decide),e6]
noncomputable abbrev listObj (C dx:Addr):Obj:={cls:=.ref C,dict:=some dx,data:=.seq #[]}
theorem split_lnew:splitId "list.__new__"=some ("list","__new__"):=by decide +kernel
theorem kind_lnew:builtinKind "list.__new__"=some .builtinFn:=by kernel_rfl
theorem args_lnew (a b:Value):argsOk "list.__new__" ⟨[a,b],[]⟩:=by unfold argsOk;kernel_rfl
theorem new_KL {v:Value} (Y:MakesL (model PR w) h C) (hq:R (.ok (.ret (.ref (h.objs.size+1)))) ⟨(h.push emptyDict).push (listObj C h.objs.size),g,d,t,os⟩) :
  codeAny (model PR w) A (.call (.builtin "list.__new__") ⟨[.ref C,v],[]⟩) R ⟨h,g,d,t,os⟩:=by
 refine box fun bX bk=>?_
 obtain⟨⟨oc,od,cd,sl,hC,e1,e2,e4⟩,made,base,self,top,call,typ⟩:=Y
 refine bk ?_
 clear bk bX
 refine codeAny_call_builtin_code (plainId_quiet PySem.F.plain_list_new _) ?_
 have ha:=args_lnew (.ref C) v
 have hIs:∀ {A:Around} {Q:Bool→Shared→Prop} {E:Value→Shared→Prop},Q true ⟨h,g,d,t,os⟩→wpAny (model PR w) A (isType (.ref C)) Q E ⟨h,g,d,t,os⟩:=fun q=>ks_wpAny_isType_cls hC rfl q
 have hcan:(Manifest.canonical "list.__new__" != Manifest.canonical "list.__new__")=false:=by simp
 unfold checkBuiltinCall
 rw[kind_lnew]
 dsimp only
 rw[split_lnew]
 dsimp only
 rw[if_pos (by decide)]
 refine wpAny_bind (hIs ?_)
 refine PySem.W.KFB.if_not rfl ?_
 refine wpAny_bind (top.here ?_)
 refine PySem.W.KFB.if_not rfl ?_
 refine wpAny_bind (base.here ?_)
 refine wpAny_bind (made.here ?_)
 dsimp only
 rw[hcan]
 refine PySem.W.KFB.if_not rfl ?_
 have fin:codeAny (model PR w) A (.builtin "list.__new__" ⟨[.ref C,v],[]⟩) R ⟨h,g,d,t,os⟩:=by
  refine codeAny_builtin_stack PySem.F.entry_list_new rfl fun p st=>?_
  dsimp only
  rw[owner_list_new]
  refine wpAny_bind (hIs ?_)
  refine PySem.W.KFB.if_not rfl ?_
  refine wpAny_bind (top.here ?_)
  refine PySem.W.KFB.if_not rfl ?_
  refine wpAny_bind (wpAny_pure ?_)
  refine PySem.W.KFB.if_not (by rfl) ?_
  refine wpAny_bind (wpAny_newObj_type ?_)
  dsimp only
  refine wpAny_bind ?_
  show wpAny _ _ (newObjAsIs _ _ _) _ _ _
  unfold newObjAsIs classHasDel
  refine wpAny_bind (wpAny_alloc (wpAny_bind (wpAny_bind (wpAny_load (Heap.get?_push_of_some _ (Heap.get?_push_of_some _ hC)) (wpAny_pure ?_)))))
  rw[e2]
  refine wpAny_pure (wpAny_pure ?_)
  show R _ _
  rw[Heap.size_push]
  exact hq
 cases hsig:Manifest.signature? "list.__new__" with
 | none=>exact wpAny_pure fin
 | some sig=>
  unfold argsOk at ha
  rw[hsig] at ha
  have h2:Bind.checkArgs "list.__new__" sig ⟨[.ref C,v],[]⟩=pure ():=ha
  show wpAny (model PR w) _ (Bind.checkArgs "list.__new__" sig ⟨[.ref C,v],[]⟩) _ _ _
  rw[h2];exact wpAny_pure fin
end
end
section
open PySem.Builtin
section
variable {w:World} {A:Around} {R:Result→Shared→Prop} {h:Heap} {g:Array GenState} {d:Drawn} {t:Nat} {os:OsState} {C:Addr}
theorem make_coreL {v init:Value} (Y:MakesL (model PR w) h C) (hi:Looks (model PR w) h (typeLookup (.ref C) "__init__") (some init))
  (hb:∀ self,Looks (model PR w) h (bindSpecial init self) (init,[self]))
  (hq:codeAny (model PR w) (A.under (.builtin "type.__call__" ⟨[.ref C,v],[]⟩)) (.call init ⟨[.ref (h.objs.size+1),v],[]⟩) (InitBack (h.objs.size+1) R) ⟨(h.push emptyDict).push (listObj C h.objs.size),g,d,t,os⟩) :
  codeAny (model PR w) A (.call (.ref C) ⟨[v],[]⟩) R ⟨h,g,d,t,os⟩:=by
 have Y':=Y
 refine box fun bX bk=>?_
 obtain⟨⟨oc,od,cd,sl,hC,e1,e2,e4⟩,made,base,self,top,call,typ⟩:=Y
 refine bk ?_
 clear bk bX
 refine codeAny_of_tree ?_
 show wpAny _ _ (callAny (.ref C) _) _ _ _
 refine nd_load hC ?_
 show wpAny _ _ (callAny.viaDunder (.ref C) _) _ _ _
 unfold callAny.viaDunder
 refine wpAny_bind (call.at ?_)
 dsimp only
 rw[tc_bind]
 refine wpAny_bind (wpAny_pure (wpAny_bind (wpAny_pure ?_)))
 refine wpAny_pure (a:=Fin.again (.call (.builtin "type.__call__") ⟨[.ref C,v],[]⟩)) (And.intro rfl ?_)
 refine codeAny_call_builtin_at (Code.quiet_builtin _ (by decide +kernel)) entry_typeCall (check_slot tc_kind tc_split typ (tc_args _ _ _) ?_)
 unfold Builtin.«type.__call__»
 have hm:Looks (model PR w) h (mroOf (.ref C)) cd.mro:=((Looks.ld (part:=none) hC).andThen .now).andThen .now
 repeat (first | simp only[e4,Bool.false_eq_true,if_false] | with_reducible refine wpAny_call ?_ | lk)
 refine new_KL Y' ?_
 have k:∀ b o,h.get? b=some o→((h.push emptyDict).push (listObj C h.objs.size)).get? b=some o:=fun b o e=>Heap.get?_push_of_some _ (Heap.get?_push_of_some _ e)
 have hx:((h.push emptyDict).push (listObj C h.objs.size)).get? (h.objs.size+1)=some (listObj C h.objs.size):=by heap_get
 have t1:Looks (model PR w) ((h.push emptyDict).push (listObj C h.objs.size)) (typeOf (.ref (h.objs.size+1))) (.ref C):=(Looks.ld hx).andThen .now
 have s1:=self.keeps k
 have i1:=hi.keeps k
 have b1:=(hb (.ref (h.objs.size+1))).keeps k
 unfold isInstance callSpecial? specialOf
 repeat (first | with_reducible refine wpAny_call ?_ | lk)
 refine codeAny_mono hq fun r s' z=>?_
 rcases r with e | (v | _ | _ | _)<;>first | exact z | exact z.elim | skip
 obtain⟨rfl,z⟩:=z
 repeat (first | simp only[bne_self_eq_false,Bool.false_eq_true,if_false] | lk)
 first | exact z | exact wpAny_pure z
end
section
variable {g:Glob} {d:Nat} {sc:Scope} {σ:Sig} {env:Env} {A:Around} {Φ Ψ Φ₀ B:PH} {rest:List Stmt} {Q:Flow→Shared→Prop}
noncomputable def makeOkL (w:World) (C fI:Addr):Bool:=(findIn (KB w) (.ref C) "__init__"==some (some (.ref fI)))&&(typeIn (KB w) (.ref fI)==some (.type "function"))
noncomputable def NewS (P:Addr→Addr→Ow→Prop) (av:AV) (ω':Ow):Prop:=∀ X:AV→Ow→Prop,(∀ a dd ω',dd≠a→P a dd ω'→X (.ref a) ω')→X av ω'
theorem FnC.makeL {C fI:Addr} {oc:Value} {od:Option Addr} {cd:ClassData} {sl:Array (Option Value)} {arg:AV} {P:Addr→Addr→Ow→Prop} (h1:MakesIn (KB g.w) C oc od cd sl) (hok:makeOkL g.w C fI=true) (hd0:0<d)
  (init:∀ a dd,dd≠a→FnC g d [a,dd] [(a,.sub C dd []),(dd,.dict [])] (.ref fI) [.ref a,arg] [] (fun r ω'=>r=.none∧P a dd ω')):FnC g (d+1) [] [] (.ref C) [arg] [] (NewS P):=fun A Φ Ψ s vs ks r hp ho ra e rk=>by
 obtain⟨h2,h3⟩:=Bool.and_eq_true_iff.mp hok
 refine repL_cons_elim ra fun u ws hu hw=>?_
 have:=repL_nil_inv hw
 subst this
 have:ks=[]:=by simpa using e
 subst this
 obtain⟨hh,gg,dr,t,os⟩:=s
 have hp1:=hp.allocΨ (o:=emptyDict) rfl
 have hp2:=hp1.allocΨ (o:=listObj C hh.objs.size) rfl
 have hsz:(hh.push emptyDict).objs.size=hh.objs.size+1:=Heap.size_push ..
 dsimp only at hp1 hp2
 rw[hsz] at hp2
 have hne:∀ b ob,Ψ b=some ob→b≠hh.objs.size:=fun b ob e q=>by have:=hp.freshΨ;dsimp only at this;rw[q,this] at e;cases e
 have hne1:∀ b ob,Ψ b=some ob→b≠hh.objs.size+1:=fun b ob e=>by
  have:=Heap.lt_size (hp.getΨ e)
  exact Nat.ne_of_lt (Nat.lt_succ_of_lt this)
 refine make_coreL (makesL_of hp.kin h1) (looks_findIn hp.kin (beq_iff_eq.mp h2)) (fun self=>bind_fn hp.kin self (beq_iff_eq.mp h3)) ?_
 have rm:Room d (A.under (.builtin "type.__call__" ⟨[.ref C,u],[]⟩)):=by
  have hu:(Code.builtin "type.__call__" ⟨[.ref C,u],[]⟩).cUnits=1:=rfl
  have h1:=r.depth
  have h2:=r.units
  refine⟨r.hd,?_,?_,hd0⟩
  ·rw[depth_under_kw];(clear hne1 hne hsz hp2 hp1 hp rk e hw h3 ra ho r init hd0;lia)
  ·show A.units+(Code.builtin "type.__call__" ⟨[.ref C,u],[]⟩).cUnits+8*d≤9000
   rw[hu];(clear hne1 hne hsz hp2 hp1 hp rk e hw h3 ra ho r init hd0;lia)
 have hadd:hh.objs.size≠hh.objs.size+1:=Nat.ne_of_lt (Nat.lt_succ_self _)
 refine codeAny_mono (init (hh.objs.size+1) hh.objs.size hadd _ Φ ((Ψ.put hh.objs.size emptyDict).put (hh.objs.size+1) (listObj C hh.objs.size)) _ [.ref (hh.objs.size+1),u] [] rm hp2 (fun a ov q=>?_) (repL_cons rep_ref (repL_cons hu repL_nil)) rfl repL_nil) fun r s' q=>?_
 ·rcases lkc q with ⟨rfl,rfl⟩ | ⟨q1,q⟩
  ·exact⟨_,PH.put_self _ _ _,rfl,rfl,#[],0,rfl,repL_nil⟩
  ·rcases lkc q with ⟨rfl,rfl⟩ | ⟨q2,q⟩
   ·exact⟨_,by rw[PH.put_other _ _ q1];exact PH.put_self _ _ _,repD_empty⟩
   ·simp at q
 ·cases r with
  | error e=>exact q
  | ok f=>
   cases f with
   | ret v=>
    obtain⟨Φ',Ψ',av,ω',l,hp',how,keep,rp,⟨rfl,hP⟩,new⟩:=q
    replace rp:_=_:=rp
    refine⟨rp,Φ',Ψ',_,ω',l,hp',how,fun a o _ e=>keep a o (by simp[hne a o e,hne1 a o e]) (by rw[PH.put_other _ _ (hne1 a o e),PH.put_other _ _ (hne a o e)];exact e),rep_ref,fun X k=>k _ _ _ hadd hP,fun a ov e=>?_⟩
    have fresh:∀ a,((Ψ.put hh.objs.size emptyDict).put (hh.objs.size+1) (listObj C hh.objs.size)) a=none→Ψ a=none:=fun a h=>by
     by_cases z1:a=hh.objs.size+1
     ·rw[z1,PH.put_self] at h;cases h
     ·rw[PH.put_other _ _ z1] at h
      by_cases z:a=hh.objs.size
      ·rw[z,PH.put_self] at h;cases h
      ·rw[PH.put_other _ _ z] at h;exact h
    have n0:Ψ hh.objs.size=none:=hp.freshΨ
    have n1:Ψ (hh.objs.size+1)=none:=by
     cases q:Ψ (hh.objs.size+1) with
     | none=>rfl
     | some o=>exact absurd rfl (hne1 _ _ q)
    rcases new a ov e with h | h
    ·obtain⟨ov',h⟩:=Option.isSome_iff_exists.mp h
     rcases lkc h with ⟨rfl,_⟩ | ⟨q1,h⟩
     ·exact .inr n1
     ·rcases lkc h with ⟨rfl,_⟩ | ⟨q2,h⟩
      ·exact .inr n0
      ·simp at h
    ·exact .inr (fresh a h)
   | _=>exact q
theorem MadeK.elimL {σ:Sig} {P:Addr→Addr→Ow→Prop} {X:AV→Sig→Prop} (k:∀ a dd ω',dd≠a→P a dd ω'→(∀ b,(ω'.lookup b).isSome=true→σ.own.lookup b=none)→X (.ref a) (σ.ow (ω'++σ.own) (ω'.map (·.1)++σ.mt))) (av:AV) (σ':Sig) (h:MadeK σ (NewS P) av σ'):X av σ':=
 h (X av) fun _ p=>p (fun av ω'=>(∀ a,(ω'.lookup a).isSome=true→σ.own.lookup a=none)→X av (σ.ow (ω'++σ.own) (ω'.map (·.1)++σ.mt))) k
end
end
section
open PySem.Builtin PySem.Builtin.List
section
variable {w:World} {A:Around} {E:Value→Shared→Prop} {s:Shared}
theorem SubI.inPython {a C:Addr} {id:String} {Q:Bool→Shared→Prop} (x:SubI w s a C) (hf:findIn (KB w) (.ref C) "__getitem__"=some (some (.builtin id))) (q:Q false s):wpAny (model PR w) A (getitemInPython (.ref a)) Q E s:=by
 unfold getitemInPython
 refine wpAny_bind (x.special hf ?_)
 exact wpAny_pure q
theorem SubI.seqKey {a C:Addr} {k:Value} {name:Str} {Q:Value→Shared→Prop} (x:SubI w s a C) (hd:subIn (KB w) (.ref C) (.type "collections.deque")=some false) (q:Q k s):wpAny (model PR w) A (sequenceKey (.ref a) k name) Q E s:=by
 obtain⟨o,ho,hc⟩:=x.at_
 unfold sequenceKey
 unfold typeOf
 refine wpAny_bind (wpAny_bind (wpAny_load ho (wpAny_pure ?_)))
 rw[hc]
 dsimp only
 refine wpAny_bind (m:=seqItemTypes.anyM fun n=>isSubtype (.ref C) (.type n)) ?_
 show wpAny _ _ (isSubtype (.ref C) (.type "collections.deque")>>=_) _ _ s
 refine wpAny_bind ((looks_subIn x.kin hd).here ?_)
 first
  | exact wpAny_pure (wpAny_pure q)
  | (refine wpAny_pure ?_;exact PySem.W.KFB.if_so (by rfl) (wpAny_pure q))
  | (refine wpAny_pure ?_;simp;exact wpAny_pure q)
theorem SubI.callSpecial {a C:Addr} {id owner n:String} {name:Str} {args:List Value} {Bi:Builtin} {Q:Option Value→Shared→Prop} (x:SubI w s a C) (ob:OwnedBy w C id owner n) (hf:findIn (KB w) (.ref C) name=some (some (.builtin id))) (hb:∀ v,bindSpecial (.builtin id) v=pure (.builtin id,[v])) (he:entryFor table id=some Bi) (ha:argsOk id ⟨.ref a::args,[]⟩)
  (h:wpAny (model PR w) A.in1 (Bi ⟨.ref a::args,[]⟩) (fun fin s'=>∃ v,fin=.done (.ret v)∧Q (some v) s') E s):wpAny (model PR w) A (callSpecial? (.ref a) name args) Q E s:=by
 unfold callSpecial?
 refine wpAny_bind (x.special hf ?_)
 dsimp only
 refine wpAny_holding (wpAny_bind (wpAny_of_eq (hb _) ?_))
 refine wpAny_bind ?_
 exact wpAny_mono (call_sub (Q:=fun v s'=>Q (some v) s') x ob he ha h) (fun v s' q=>wpAny_pure q) fun _ _ e=>e
end
end
section
open PySem.Builtin PySem.Builtin.List
section
variable {g:Glob} {d:Nat} {sc:Scope} {σ:Sig} {env:Env} {A:Around} {Φ Ψ Φ₀ B:PH} {s:Shared} {rest:List Stmt} {Q:Flow→Shared→Prop}
structure ItemsL (w:World) (C:Addr):Prop where
 get:findIn (KB w) (.ref C) "__getitem__"=some (some (.builtin "list.__getitem__"))
 set:findIn (KB w) (.ref C) "__setitem__"=some (some (.builtin "list.__setitem__"))
 obg:OwnedBy w C "list.__getitem__" "list" "__getitem__"
 obs:OwnedBy w C "list.__setitem__" "list" "__setitem__"
 deq:subIn (KB w) (.ref C) (.type "collections.deque")=some false
theorem accItems (w:World):ItemsL w 309:=⟨by kernel_rfl,by kernel_rfl,⟨by kernel_rfl,by first | exact .inl (by decide +kernel) | exact .inr (by decide +kernel),by kernel_rfl,by decide +kernel⟩,⟨by kernel_rfl,by first | exact .inl (by decide +kernel) | exact .inr (by decide +kernel),by kernel_rfl,by decide +kernel⟩,by kernel_rfl⟩
theorem subGet {w:World} {E:Value→Shared→Prop} {a C:Addr} {k:Value} {Q:Value→Shared→Prop} (x:SubI w s a C) (il:ItemsL w C) (h:wpAny (model PR w) A.in1 (Builtin.«list.__getitem__» ⟨[.ref a,k],[]⟩) (fun fin s'=>∃ v,fin=.done (.ret v)∧Q v s') E s):wpAny (model PR w) A (getItem (.ref a) k) Q E s:=by
 unfold getItem
 refine wpAny_holding (wpAny_bind (x.seqKey il.deq ?_))
 refine wpAny_bind (x.callSpecial il.obg il.get slot_list_getitem.bind entry_list_getitem (args_list_getitem _ _) ?_)
 exact wpAny_mono h (fun fin s' q0=>q0.elim fun v q0=>q0.elim fun e q=>⟨v,e,wpAny_pure q⟩) fun _ _ e=>e
theorem subSlice {w:World} {E:Value→Shared→Prop} {a sl:Addr} {items:Array Value} {n:Nat} {o:Obj} {vl vu vs:Value} {lo hi st:Option Int} {Q:Value→Shared→Prop} (ho:s.heap.get? a=some o) (hd:o.data=.seq items n)
  (hs:s.heap.IsSliceOf sl vl vu vs) (pl:IsPart vl lo) (pu:IsPart vu hi) (ps:IsPart vs st) (h0:st≠some 0)
  (h:Q (.ref s.heap.objs.size) {s with heap:=s.heap.push {cls:=.type "list",data:=.seq (slicePick items lo hi st)}})
  (hsz:items.size≤sizeLine):wpAny (model PR w) A (Builtin.«list.__getitem__» ⟨[.ref a,.ref sl],[]⟩) (fun fin s'=>∃ v,fin=.done (.ret v)∧Q v s') E s:=by
 refine box fun bX bk=>?_
 obtain⟨os,hos,hcs,hds⟩:=id hs
 refine bk ?_
 clear bk bX
 have hTs:s.TypeIs (.ref sl) "slice":=⟨os,hos,hcs⟩
 show wpAny _ _ (Builtin.List.listSubscript? (.ref sl)>>=_) _ _ s
 refine wpAny_bind ?_
 unfold Builtin.List.listSubscript?
 refine wpAny_bind (wpAny_specialOf hTs slice_no_index ?_)
 refine PySem.W.KFB.if_so rfl ?_
 refine wpAny_pure ?_
 show wpAny _ _ (typeOf (.ref sl)>>=_) _ _ s
 refine wpAny_bind (wpAny_typeOf hTs ?_)
 rw[if_neg (by decide)]
 rw[listSliceParts_eq]
 have hstep:¬ ((rawPart st==rawInt 0)=true):=by
  cases st with
  | none=>exact Bool.false_ne_true
  | some c=>
   intro hh
   have:c=0:=by simpa [rawPart,rawInt] using hh
   exact h0 (by rw[this])
 refine wpAny_bind (wpAny_bind (wpAny_field hos hds (x:=vs) rfl (wpAny_bind (wpAny_listPart ps ?_))))
 rw[if_neg hstep]
 refine wpAny_bind (wpAny_field hos hds (x:=vl) rfl (wpAny_bind (wpAny_listPart pl ?_)))
 refine wpAny_bind (wpAny_field hos hds (x:=vu) rfl (wpAny_bind (wpAny_listPart pu (wpAny_pure ?_))))
 refine wpAny_bind (m:=Builtin.List.listItems (.ref a)) ?_
 unfold Builtin.List.listItems
 refine wpAny_bind (wpAny_seqItems ho hd (wpAny_pure ?_))
 refine wpAny_bind (wpAny_of_eq (sliceIndices_raw lo hi st items.size h0) ?_)
 exact wpAny_bind (wpAny_newObj_type (wpAny_pure ⟨_,rfl,h⟩) (Nat.le_trans (slicePick_size_le items lo hi st) hsz))
theorem Ev.sliceU {value:PySem.Expr} {lower upper:Option PySem.Expr} {p pos:Pos} {a C dd:Addr} {xs:List AV} {lo hi:Option Int} (il:ItemsL g.w C) (h:Ev g d sc σ value (.ref a)) (ha:σ.own.lookup a=some (.sub C dd xs)) (hl:EvP g d sc σ lower lo) (hu:EvP g d sc σ upper hi) (hs:small xs.length):Ev g d sc σ (.Subscript value (.Slice lower upper Option.none p) pos) (.lst (cut xs lo hi Option.none)):=fun A env Φ Ψ s r x=>by
 rw[eval_Subscript]
 refine wpAny_bind (h.run r x fun Φ₁ v s₁ l₁ x₁ r₁=>wpAny_bind (wpAny_holding (wpAny_Slice (hl.run r x₁ fun Φ₂ vl s₂ l₂ x₂ p₂=>hu.run r x₂ fun Φ₃ vu s₃ l₃ x₃ p₃=>?_))))
 replace r₁:_=_:=r₁
 subst r₁
 refine wpAny_pure (wpAny_bind (wpAny_standAt ?_))
 have hp:=x₃.hp.allocX {cls:=.type "slice",data:=.fields #[vl,vu,.none]}
 refine box fun bX bk=>?_
 obtain⟨o,g0,g1,g2,us,m,g3,g4⟩:=x₃.own a _ ha
 refine bk ?_
 clear bk bX
 have hS:SubI g.w {s₃ with heap:=s₃.heap.push {cls:=.type "slice",data:=.fields #[vl,vu,.none]}} a C:=⟨hp.kin,o,hp.getΨ g0,g1⟩
 refine wpAny_bind (hS.inPython il.get (wpAny_bind ?_))
 show wpAny _ _ (operate [_,.ref a] (getItem (.ref a) _)) _ _ _
 refine wpAny_operating (subGet hS il (subSlice (hp.getΨ g0) g3 (Heap.IsSliceOf.new ..) p₂ p₃ .none (by simp) (wpAny_bind (wpAny_letTemporaryGo (wpAny_pure ?_))) (by rw[size_of g4];exact small_line hs)))
 refine Ret.up ((l₁.trans l₂).trans l₃) ?_
 have e:(slicePick us lo hi Option.none)=(slicePick us lo hi Option.none).toList.toArray:=by simp
 rw[e]
 exact ret_lst hp (repL_cut g4 lo hi Option.none)
theorem Ev.itemU {value slice:PySem.Expr} {pos:Pos} {a C dd:Addr} {xs:List AV} {i:Int} {c:AV} (il:ItemsL g.w C) (h1:Ev g d sc σ value (.ref a)) (ha:σ.own.lookup a=some (.sub C dd xs)) (h2:Ev g d sc σ slice (.int i)) (h0:0≤i) (hx:xs[i.toNat]?=some c) (hsm:small xs.length)
  (hs:autoParam (∀ o i,subscripted slice false o i=operate [o,i] (getItem o i)) aR):Ev g d sc σ (.Subscript value slice pos) c:=fun A env Φ Ψ s r x=>by
 rw[eval_Subscript]
 refine wpAny_bind (h1.run r x fun Φ₁ v s₁ l₁ x₁ r₁=>wpAny_bind (wpAny_holding (h2.run r x₁ fun Φ₂ u s₂ l₂ x₂ r₂=>wpAny_bind (wpAny_standAt ?_))))
 replace r₁:_=_:=r₁
 subst r₁
 refine int_elim r₂ fun t=>?_
 refine box fun bX bk=>?_
 obtain⟨o,g0,g1,g2,us,m,g3,g4⟩:=x₂.own a _ ha
 have hS:SubI g.w s₂ a C:=⟨x₂.hp.kin,o,x₂.hp.getΨ g0,g1⟩
 obtain⟨y,hy,ry⟩:=repL_get g4 hx
 refine bk ?_
 clear bk bX
 have hlt:i.toNat<xs.length:=(List.getElem?_eq_some_iff.mp hx).1
 refine wpAny_bind (hS.inPython il.get (wpAny_bind ?_))
 rw[hs]
 refine wpAny_operating (subGet hS il ?_)
 show wpAny _ _ (Builtin.List.listSubscript? (.int i t)>>=_) _ _ _
 have hfit:i<2^63:=by have:=small_lt hsm;lia
 refine wpAny_bind (wpAny_listSubscript_int (fitsIndex_of h0 hfit) ?_)
 clear hfit
 obtain⟨j,rfl⟩:=Int.eq_ofNat_of_zero_le h0
 have hx':us[j]?=some y:=by rw[←Array.getElem?_toList];exact hy
 show wpAny _ _ ((seqItemAt a j>>=fun r=>pure (r.map (j,·)))>>=_) _ _ _
 refine wpAny_bind (wpAny_bind (wpAny_seqItemAt (x₂.hp.getΨ g0) g3 (wpAny_pure ?_)))
 rw[hx']
 have fin:W g.w A (letTemporaryGo value (.ref a) y>>=fun _=>pure y) (Ret g Φ Ψ c) s₂:=wpAny_bind (wpAny_letTemporaryGo (wpAny_pure (Ret.up (l₁.trans l₂) (Ret.intro x₂.hp ry))))
 first
  | exact wpAny_bind (wpAny_pure (wpAny_pure ⟨y,rfl,fin⟩))
  | exact wpAny_pure ⟨y,rfl,fin⟩
theorem subSet {w:World} {E:Value→Shared→Prop} {a C:Addr} {k v:Value} {Q:Unit→Shared→Prop} (x:SubI w s a C) (il:ItemsL w C) (h:wpAny (model PR w) A.in1 (Builtin.«list.__setitem__» ⟨[.ref a,k,v],[]⟩) (fun fin s'=>∃ v,fin=.done (.ret v)∧Q () s') E s):wpAny (model PR w) A (setItem (.ref a) k v) Q E s:=by
 unfold setItem
 refine wpAny_holding (wpAny_bind (x.seqKey il.deq ?_))
 refine wpAny_bind (x.callSpecial il.obs il.set PySem.F.slot_list_setitem.bind PySem.F.entry_list_setitem (PySem.F.args_list_setitem_3 _ _ _) ?_)
 exact wpAny_mono h (fun fin s' q0=>q0.elim fun v q0=>q0.elim fun e q=>⟨v,e,wpAny_pure q⟩) fun _ _ e=>e
theorem subSetSlice {a C dd sl:Addr} {xs new:List AV} {vl v:Value} {lo:Option Int} {o:Obj} {us:Array Value} {m:Nat} (hA:A.handled=none) (hp:Hp g Φ Ψ s) (eo:Ψ a=some o) (h1:o.cls=.ref C) (h2:o.dict=some dd) (h3:o.data=.seq us m) (hr:RepL Φ xs us.toList) (rv:Rep Φ (.lst new) v)
  (hs:s.heap.IsSliceOf sl vl .none .none) (pl:IsPart vl lo) (h0:0≤(sliceBounds lo Option.none Option.none xs.length).1) (hn:(sliceBounds lo Option.none Option.none xs.length).1≤xs.length) (hsm:small (xs.length+new.length)) :
  W g.w A (Builtin.«list.__setitem__» ⟨[.ref a,.ref sl,v],[]⟩) (AnsS g C dd Φ Ψ a (xs.take (sliceBounds lo Option.none Option.none xs.length).1.toNat++new) .none) s:=by
 refine lst_elim rv fun b ob ws eb hl hw=>?_
 refine box fun bX bk=>?_
 obtain⟨os,hos,hcs,hds⟩:=id hs
 refine bk ?_
 clear bk bX
 have hTs:s.TypeIs (.ref sl) "slice":=⟨os,hos,hcs⟩
 have hL:=isList_of hp eb hl
 have hab:a≠b:=fun q=>by
  subst q
  rcases hp.dis a with e | e
  ·rw[e] at eb;cases eb
  ·rw[e] at eo;cases eo
 have hsame:Builtin.List.listSameRef (.ref a) (.ref b)=false:=by simp[Builtin.List.listSameRef,hab]
 have hsz:=size_of hr
 have hsw:=size_of hw
 refine box fun bX bk=>?_
 obtain⟨ob',hob,hbc,nb,hbd⟩:=id hL
 refine bk ?_
 clear bk bX
 unfold Builtin.«list.__setitem__»
 refine wpAny_bind (wpAny_of_eq (a:=(.ref a,[.ref sl,.ref b])) (by rfl) ?_)
 dsimp only
 refine wpAny_bind (m:=Builtin.List.listSubscript? (.ref sl)) ?_
 unfold Builtin.List.listSubscript?
 refine wpAny_bind (wpAny_specialOf hTs slice_no_index ?_)
 refine PySem.W.KFB.if_so rfl ?_
 refine wpAny_pure ?_
 dsimp only
 refine wpAny_bind (wpAny_typeOf hTs ?_)
 refine PySem.W.KFB.if_not (by decide) ?_
 rw[listSliceParts_eq]
 have hstep:(rawPart Option.none==rawInt 0)=false:=rfl
 refine wpAny_bind (wpAny_bind (wpAny_field hos hds (x:=.none) rfl (wpAny_bind (wpAny_listPart .none ?_))))
 refine PySem.W.KFB.if_not hstep ?_
 refine wpAny_bind (wpAny_field hos hds (x:=vl) rfl (wpAny_bind (wpAny_listPart pl ?_)))
 refine wpAny_bind (wpAny_field hos hds (x:=.none) rfl (wpAny_bind (wpAny_listPart .none (wpAny_pure ?_))))
 dsimp only
 rw[hsame]
 first | refine PySem.W.KFB.if_not rfl ?_ | refine PySem.W.KFB.if_not rfl ?_
 refine wpAny_bind (m:=Builtin.List.listAllItems (.ref b) _) ?_
 unfold Builtin.List.listAllItems
 refine wpAny_bind (wpAny_typeOf hL.typeIs ?_)
 refine PySem.W.KFB.if_so (by decide) ?_
 unfold Builtin.List.listItems
 refine wpAny_bind (wpAny_seqItems hob hbd (wpAny_pure ?_))
 refine wpAny_bind (wpAny_bind (wpAny_seqItems (hp.getΨ eo) h3 (wpAny_pure ?_)))
 refine wpAny_bind (wpAny_of_eq (sliceIndices_raw lo Option.none Option.none us.size (by decide)) ?_)
 rw[←hsz] at h0 hn
 have e1:(sliceBounds lo Option.none Option.none us.size).2.2=1:=rfl
 have e2:(sliceBounds lo Option.none Option.none us.size).2.1=us.size:=rfl
 obtain⟨st,hst⟩:∃ st:Nat,(sliceBounds lo Option.none Option.none us.size).1=(st:Int):=Int.eq_ofNat_of_zero_le h0
 have e0:sliceBounds lo Option.none Option.none us.size=((st:Int),(us.size:Int),1):=by rw[←hst,←e2,←e1]
 have hst2:st≤us.size:=by rw[hst] at hn;(clear e0 hst e2 e1 hstep hbd hbc hob hsw hsz hsame hab hL hTs hds hcs hos hw hl eb hsm h0 pl hs rv hr h3 h2 h1 eo hp hA;lia)
 rw[←hsz,e0]
 dsimp only
 refine PySem.W.KFB.if_so (by decide) ?_
 refine wpAny_bind (wpAny_rule ?_)
 have hlong:Builtin.List.listTooLong (us.size+ws.size)=false:=by
  rw[hsz,hsw]
  exact decide_eq_false (Nat.not_lt_of_le (small_line hsm))
 refine PySem.W.KFB.if_not hlong ?_
 refine box fun bX bk=>?_
 obtain⟨o',m',z1,z2,z3,hp'⟩:=upd_sub (f:=fun xs=>xs.extract 0 (st:Int).toNat++ws++xs.extract (max (st:Int) (us.size:Int)).toNat xs.size) hp eo h1 h2 h3
 refine bk ?_
 clear bk bX
 have hm:(max (st:Int) (us.size:Int)).toNat=us.size:=by(clear hp' z3 z2 z1 hlong hst2 e0 e2 e1 hstep hbd hbc hob hsw hsz hsame hab hL hTs hds hcs hos hw hl eb hsm h0 pl hs rv hr h3 h2 h1 eo hp hA;lia)
 have hus:(us.extract 0 st++ws++us.extract us.size us.size).toList=us.toList.take st++ws.toList:=by
  simp
 refine wpAny_bind (wpAny_updateSeq (hp.getΨ eo) h3 ?_ (by rw[hsz];unfold small at hsm;rw[sizeLine_eq];(clear hus hm hp' z3 z2 z1 hlong hst2 e0 hst e2 e1 hstep hbd hbc hob hsw hsz hsame hab hL hTs hds hcs hos hw hl eb hn h0 pl hs rv hr h3 h2 h1 eo hp hA;lia)) ?_)
 ·refine wpAny_bind (wpAny_letGo ?_)
  refine wpAny_pure fun X k=>k _ _ m' o' rfl z1 z2 z3 hp' ?_ rep_none
  rw[hm,Int.toNat_natCast,hus]
  exact repL_append (repL_take st hr) hw
 ·rw[hm,Int.toNat_natCast,←Array.length_toList,hus,List.length_append,List.length_take]
  have:ws.toList.length=new.length:=by rw[Array.length_toList,hsw]
  have h5:us.toList.length=xs.length:=by rw[Array.length_toList,hsz]
  unfold small at hsm
  rw[sizeLine_eq]
  (clear h5 hus hm hp' z3 z2 z1 hlong hst2 e0 e2 e1 hstep hbd hbc hob hsw hsame hab hL hTs hds hcs hos hw hl eb h0 pl hs rv hr h3 h2 h1 eo hp hA;lia)
theorem Bk.setSlice {o value:PySem.Expr} {lower:Option PySem.Expr} {sp p pos:Pos} {a C dd:Addr} {xs new:List AV} {lo:Option Int} (r:Room d A) (il:ItemsL g.w C) (hv:Ev g d sc σ value (.lst new)) (ho:Ev g d sc σ o (.ref a)) (hl:EvP g d sc σ lower lo) (ha:σ.own.lookup a=some (.sub C dd xs)) (hm:a∈σ.mt)
  (h0:0≤(sliceBounds lo Option.none Option.none xs.length).1) (hn:(sliceBounds lo Option.none Option.none xs.length).1≤xs.length) (hsm:small (xs.length+new.length))
  (kk:Bk g sc env A Φ₀ B (σ.set a (.sub C dd (xs.take (sliceBounds lo Option.none Option.none xs.length).1.toNat++new))) rest Q) (hs:autoParam (swapsWith value (some (.Subscript o (.Slice lower Option.none Option.none sp) p)) pos.line env=pure false) aR) :
  Bk g sc env A Φ₀ B σ (.Assign [.Subscript o (.Slice lower Option.none Option.none sp) p] value pos::rest) Q:=.step fun Φ s l y=>
 wpAny_Assign_Subscript (hv.at r y fun Φ₁ v s₁ l₁ y₁ r₁=>ho.at r y₁ fun Φ₂ ov s₂ l₂ y₂ r₂=>by
  replace r₂:_=_:=r₂
  subst r₂
  refine box fun bX bk=>?_
  obtain⟨Ψ,pr,hb⟩:=y₂.pre
  refine bk ?_
  clear bk bX
  refine wpAny_Slice (hl.run r pr fun Φ₃ vl s₃ l₃ x₃ p₃=>wpAny_pure (wpAny_pure ?_))
  have hp:=x₃.hp.allocX {cls:=.type "slice",data:=.fields #[vl,.none,.none]}
  have y₃:At g sc env σ B Φ₃ s₃:=y₂.frame l₃ x₃ hb fun b fb e=>pr.owned fb e
  have y₄:At g sc env σ B Φ₃ {s₃ with heap:=s₃.heap.push {cls:=.type "slice",data:=.fields #[vl,.none,.none]}}:=y₃.ext (tk:=s₃.toks) fun b ob e=>Heap.get?_push_of_some _ e
  refine box fun bX bk=>?_
  obtain⟨Ψ₄,pr₄,hb₄⟩:=y₄.pre
  obtain⟨oa,g0,g1,g2,us,m,g3,g4⟩:=pr₄.own a _ ha
  refine bk ?_
  clear bk bX
  have hS:SubI g.w {s₃ with heap:=s₃.heap.push {cls:=.type "slice",data:=.fields #[vl,.none,.none]}} a C:=⟨pr₄.hp.kin,oa,pr₄.hp.getΨ g0,g1⟩
  refine subSet hS il (W.mono (subSetSlice (by exact r.hd) pr₄.hp g0 g1 g2 g3 g4 (Rep.mono (l₂.trans l₃) _ _ r₁) (Heap.IsSliceOf.new ..) p₃ h0 hn hsm) fun fin s₅ q=>q _ fun v us' m' o' e z1 z2 z3 hp' hy _=>⟨v,e,?_⟩)
  refine kk Φ₃ s₅ (((l.trans l₁).trans l₂).trans l₃) (y₄.change (mt:=[a]) pr₄ hb₄ (PH.le.refl _) hp' (fun b ob hb' e'=>by rw[PH.put_other _ _ (fun q=>hb' (List.mem_singleton.mpr q))];exact e') (fun b hb'=>by simp -iota at hb';exact hb'▸hm) (fun b ov q=>?_) (fun b ov q=>.inl ?_) fun b hb'=>⟨.inl hb',?_⟩)
  ·rcases lkc q with ⟨rfl,rfl⟩ | ⟨q1,q2⟩
   ·exact⟨_,PH.put_self _ _ _,z1,z2,us',m',z3,hy⟩
   ·refine box fun bX bk=>?_
    obtain⟨ob,w1,w2⟩:=pr₄.own b ov q2
    refine bk ?_
    clear bk bX
    exact⟨ob,by rw[PH.put_other _ _ q1];exact w1,w2⟩
  ·rcases lkc q with ⟨rfl,rfl⟩ | ⟨q1,q2⟩
   ·rw[ha];rfl
   ·rw[q2];rfl
  ·by_cases q:b=a
   ·rw[q,lk_eq];rfl
   ·rw[lk_ne q];exact(y₄.mine b hb').2) hs
end
end
section
theorem pick_drop {α:Type} (xs:List α) (i:Nat):∀ k,i+k≤xs.length→((List.range k).map (i+·)).filterMap (xs[·]?)=(xs.drop i).take k
 | 0,_=>by simp
 | k+1,h=>by
  rw[List.range_succ,List.map_append,List.filterMap_append,pick_drop xs i k (by lia),List.take_add_one,List.getElem?_drop]
  have hk:i+k<xs.length:=by lia
  simp[List.getElem?_eq_getElem hk]
theorem cut_eq (xs:List AV) (lo hi:Option Int) (a b:Nat) (e1:lo.elim 0 (clipAt xs.length)=a) (e2:hi.elim xs.length (clipAt xs.length)=b) (h:a≤b) (hb:b≤xs.length):cut xs lo hi Option.none=(xs.drop a).take (b-a):=by
 unfold cut
 rw[sliceBounds_plain,e1,e2]
 show(sliceRange (a:Int) (b:Int) 1).filterMap _=_
 rw[sliceRange_one,pick_drop xs a (b-a) (by rw[Nat.add_sub_cancel' h];exact hb)]
theorem cut_from (xs:List AV) (i:Nat) (h:i≤xs.length):cut xs (some (i:Int)) Option.none Option.none=xs.drop i:=by
 rw[cut_eq xs (some (i:Int)) Option.none i xs.length ((clipAt_nat _ _).trans (Nat.min_eq_left h)) rfl h (Nat.le_refl _)]
 exact List.take_of_length_le (Nat.le_of_eq List.length_drop)
theorem cut_to (xs:List AV) (j:Nat) (h:j≤xs.length):cut xs Option.none (some (j:Int)) Option.none=xs.take j:=
 cut_eq xs _ _ 0 j rfl ((clipAt_nat _ _).trans (Nat.min_eq_left h)) (Nat.zero_le _) h
theorem cut_mid (xs:List AV) (i j:Nat) (h:i≤j) (hi:i≤xs.length):cut xs (some (i:Int)) (some (j:Int)) Option.none=(xs.drop i).take (j-i):=by
 rw[cut_eq xs (some (i:Int)) (some (j:Int)) i (min j xs.length) ((clipAt_nat _ _).trans (Nat.min_eq_left hi)) (clipAt_nat _ _) (Nat.le_min.mpr ⟨h,hi⟩) (Nat.min_le_right _ _)]
 by_cases hj:j≤xs.length
 ·rw[Nat.min_eq_left hj]
 ·rw[Nat.min_eq_right (Nat.le_of_not_le hj),List.take_of_length_le (Nat.le_of_eq List.length_drop),List.take_of_length_le (by rw[List.length_drop];exact Nat.sub_le_sub_right (Nat.le_of_not_le hj) i)]
theorem rangeDown (n:Nat):sliceRange ((n:Int)-1) (-1) (-1)=(List.range n).map (fun i=>n-1-i):=by
 unfold sliceRange
 have h0:¬ ((-1:Int)>0):=by decide
 simp only[h0,if_false]
 have e:(if ((n:Int)-1>-1) then(((n:Int)-1 - -1 - -1-1)/(- -1)) else 0)=(n:Int):=by
  split
  ·have:(- -1:Int)=1:=by decide
   rw[this,Int.ediv_one];lia
  ·lia
 rw[e,Int.toNat_natCast]
 refine List.map_congr_left fun i hi=>?_
 have:=List.mem_range.mp hi
 lia
theorem cut_rev (xs:List AV):cut xs Option.none Option.none (some (-1))=xs.reverse:=by
 unfold cut
 have e1:(sliceBounds Option.none Option.none (some (-1)) xs.length).1=(xs.length:Int)-1:=by simp[sliceBounds]
 have e2:(sliceBounds Option.none Option.none (some (-1)) xs.length).2.1=-1:=by simp[sliceBounds]
 have e3:(sliceBounds Option.none Option.none (some (-1)) xs.length).2.2=-1:=by simp[sliceBounds]
 rw[e1,e2,e3,rangeDown]
 have key:∀ k,k≤xs.length→((List.range k).map (fun i=>xs.length-1-i)).filterMap (xs[·]?)=xs.reverse.take k:=by
  intro k
  induction k with
  | zero=>intro _;simp
  | succ k ih=>
   intro h
   rw[List.range_succ,List.map_append,List.filterMap_append,ih (by(clear ih e3 e2 e1;omega)),List.take_add_one,List.getElem?_reverse (by(clear ih e3 e2 e1;omega))]
   have hk:xs.length-1-k<xs.length:=by(clear ih e3 e2 e1;omega)
   simp[List.getElem?_eq_getElem hk]
 rw[key _ (Nat.le_refl _)]
 exact List.take_of_length_le (by simp)
end
section
open PySem.Builtin
section
variable {w:World} {A:Around} {E:Value→Shared→Prop} {s:Shared} {x C f:Addr} {ox:Obj} {od:Obj} {name:Str}
theorem findObj_fn (hh:hasDictIn (KB w) C=true) (ha:findIn (KB w) (.ref C) name=some (some (.ref f))) (hn:specialIn (KB w) (.ref f) "__get__"=some (some (.builtin "function.__get__"))) (ht:takesIn (KB w) (.ref f)=some false) (hc:copiedNames.contains name=false) (hl:lookIn name od=some Option.none) :
  findObj (KB w) C (some od) name=some (.bind (.builtin "function.__get__") (.ref f)):=by
 refine box fun bX bk=>?_
 obtain⟨cd,hcd,hd⟩:=any_some hh
 refine bk ?_
 clear bk bX
 unfold findObj
 rw[hcd,Option.bind_some,ha,Option.bind_some]
 have ho:W.ownOf cd (some od) name=some Option.none:=by unfold W.ownOf;rw[if_pos hd];exact hl
 dsimp only
 rw[hn,ho,Option.bind_some]
 dsimp only
 rw[ht,Option.bind_some]
 dsimp only
 rw[Option.bind_some]
 dsimp only
 rw[hc]
 rfl
noncomputable abbrev methObj (f x:Addr):Obj:={cls:=.type "method",dict:=none,data:=.fields #[.ref f,.ref x],slots:=#[]}
theorem getL_fn {of:Obj} {expr:Bool} {Q:Value→Shared→Prop} (X:(KB w).In s.heap) (I:W.InstAt s.heap x ox C (some od)) (hga:findIn (KB w) (.ref C) "__getattribute__"=some (some (.builtin "list.__getattribute__"))) (hk:findIn (KB w) (.ref C) "__getattr__"=some none) (ob:OwnedBy w C "list.__getattribute__" "list" "__getattribute__")
  (hf:findObj (KB w) C (some od) name=some (.bind (.builtin "function.__get__") (.ref f))) (hof:s.heap.get? f=some of) (hofc:of.cls=.type "function") (h:Q (.ref s.heap.objs.size) {s with heap:=s.heap.push (methObj f x),toks:=s.toks+1}):wpAny (model PR w) A (getAttr (.ref x) name expr) Q E s:=by
 obtain⟨hh',g,d,t,os⟩:=s
 have L0:=I.type (M:=model PR w)
 have L1:=looks_find (M:=model PR w) X I hf
 have Lg:=looks_findIn (M:=model PR w) X hga
 have Lk:=looks_findIn (M:=model PR w) X hk
 unfold getAttr getAttrBy
 refine wpAny_bind (wpAny_mkText (wpAny_holding (wpAny_bind (L0.at (wpAny_bind (Lg.at ?_))))))
 dsimp only
 refine PySem.W.KFB.if_not (by rfl) ?_
 unfold getAttrByItsOwn hookBefore callGetattribute boundAndCalled
 refine wpAny_bind (m:=if onTheHeap (Value.ref C)=true then typeLookup (Value.ref C) "__getattr__" else pure none) (PySem.W.KFB.if_so (by rfl) (Lk.at ?_))
 refine wpAny_bind (wpAny_attempt (wpAny_holding ?_))
 rw[show(expr&&onTheHeap (Value.builtin "list.__getattribute__"))=false by cases expr<;>rfl]
 first | refine PySem.W.KFB.if_not rfl ?_ | simp only[Bool.false_eq_true,if_false]
 refine wpAny_bind (wpAny_of_eq (PySem.F.slot_list_getattribute.bind _) ?_)
 refine call_sub (s:=⟨hh',g,d,t+1,os⟩) ⟨X,ox,I.at_,I.cls⟩ ob entry_list_ga (PySem.F.args_list_getattribute_2 _ _) ?_
 unfold Builtin.«object.__getattribute__»
 refine wpAny_bind (wpAny_of_eq (a:=(Value.ref x,[Value.str name t])) (by rfl) ?_)
 dsimp only
 refine wpAny_bind (wpAny_of_eq (a:=name) (by rfl) ?_)
 refine wpAny_bind (L0.at (wpAny_bind (L1.at ?_)))
 show wpAny _ _ (holding [.ref f] (call (.builtin "function.__get__") [.ref f,.ref x,.ref C])>>=fun v=>ret v) _ _ _
 refine wpAny_bind (wpAny_holding (wpAny_call_entry PySem.F.ks_slot_function_get (⟨_,hof,hofc⟩:(⟨hh',g,d,t+1,os⟩:Shared).TypeIs (.ref f) "function") PySem.F.ks_entry_function_get ?_ (PySem.F.ks_getArgs_function _ _ _)))
 unfold Builtin.«function.__get__»
 refine wpAny_bind (wpAny_of_eq (a:=(.ref f,some (.ref x),some (.ref C))) (by first | rfl | kernel_rfl) ?_)
 dsimp only
 refine wpAny_bind (wpAny_newObj_type (wpAny_pure ⟨_,rfl,wpAny_pure ⟨_,rfl,?_⟩⟩))
 first
  | exact wpAny_pure h
  | (show wpAny _ _ (handedOut _) _ _ _;rw[handedOut_of rfl];exact wpAny_pure h)
theorem keep_meth {M:Model} {h:Heap} {Bd:Addr} {of:Obj} {fd:FuncData} (hb:h.get? Bd=some (methObj f x)) (hf:h.get? f=some of) (hfd:of.data=.func fd):Looks M h (keeperOf (.ref Bd)) .boundFrame:=fun A Q E s k q=>by
 unfold keeperOf
 refine wpAny_bind (wpAny_load (k _ _ hb) ?_)
 dsimp only
 refine PySem.W.KFB.if_not (by decide) ?_
 show wpAny _ _ (load f>>=_) _ _ _
 refine wpAny_bind (wpAny_load (k _ _ hf) ?_)
 rw[hfd]
 exact wpAny_pure q
end
section
variable {g:Glob} {d:Nat} {sc:Scope} {σ:Sig} {env:Env} {A:Around} {Φ Ψ Φ₀ B:PH} {s:Shared} {rest:List Stmt} {Q:Flow→Shared→Prop}
theorem At.mpostW {m:Sem Value} {av:AV} {ω ω':Ow} {mt:List Addr} (y:At g sc env σ B Φ s) (hω:∀ b ov,ω.lookup b=some ov→σ.own.lookup b=some ov) (hmt:∀ b∈mt,b∈σ.mt) (hk:∀ b,(ω'.lookup b).isSome=true→(ω.lookup b).isSome=true) (hm':∀ b∈mt,(ω'.lookup b).isSome=true)
  (hW:∀ Ψ,Hp g Φ Ψ s→Owns Φ Ψ ω→W g.w A m (MPost g Φ Ψ mt ω (fun r o=>r=av∧o=ω')) s):W g.w A m (XPost g sc env (σ.ow (ω'++σ.own) σ.mt) B Φ av) s:=by
 obtain⟨Ψ,pr,hb⟩:=y.pre
 refine(hW Ψ pr.hp (fun b ov q=>pr.own b ov (hω b ov q))).mono fun v s' q0=>q0.casesOn fun Φ' Ψ' av' ω'' l hp' how keep rp hP new=>?_
 obtain⟨rfl,rfl⟩:=hP
 refine⟨Φ',l,y.change pr hb l hp' keep hmt (fun b ov e=>?_) (fun b ov e=>.inl ?_) fun b hb'=>⟨.inl hb',?_⟩,rp⟩
 ·rw[lookup_app] at e
  cases q:ω''.lookup b with
  | some ov'=>rw[q] at e;cases e;exact how b ov q
  | none=>
   rw[q] at e
   have hnb:b∉mt:=fun hb'=>by have:=hm' b hb';rw[q] at this;cases this
   obtain⟨ob,z1,z2⟩:=pr.own b ov e
   exact⟨ob,keep b ob hnb z1,z2.mono l⟩
 ·rw[lookup_app] at e
  cases q:ω''.lookup b with
  | some ov'=>
   obtain⟨ov2,h2⟩:=Option.isSome_iff_exists.mp (hk b (by rw[q];rfl))
   rw[hω b ov2 h2];rfl
  | none=>rw[q] at e;rw[show σ.own.lookup b=some ov from e];rfl
 ·rw[lookup_app]
  cases q:ω''.lookup b with
  | some ov=>rfl
  | none=>exact(y.mine b hb').2
noncomputable def starOkL (w:World) (C:Addr) (name:Str) (f:Addr):Bool:=methOkL w C name f&&hasDictIn (KB w) C&&(specialIn (KB w) (.ref f) "__get__"==some (some (.builtin "function.__get__")))&&(takesIn (KB w) (.ref f)==some false)&&!(copiedNames.contains name)
theorem EvX.star {o e:PySem.Expr} {name:Str} {apos pos sp:Pos} {a C dd f:Addr} {of:Obj} {fd:FuncData} {xs elems:List AV} {fs:List (Str × AV)} {c:AV} {ω ω':Ow} {mt:List Addr} (h1:Ev g d sc σ o (.ref a)) (hs:σ.own.lookup a=some (.sub C dd xs)) (ho:σ.own.lookup dd=some (.dict fs)) (hok:starOkL g.w C name f=true) (ob:OwnedBy g.w C "list.__getattribute__" "list" "__getattribute__") (hn:name∉fs.map (·.1))
  (hof:(KB g.w).lookup f=some of) (hofc:of.cls=.type "function") (hfd:of.data=.func fd) (h2:Ev g d sc σ e (.tup elems)) (hsm:small elems.length) (hfn:FnC g d mt ω (.ref f) (.ref a::elems) [] (fun r o=>r=c∧o=ω'))
  (hω:∀ b ov,ω.lookup b=some ov→σ.own.lookup b=some ov) (hmt:∀ b∈mt,b∈σ.mt) (hk:∀ b,(ω'.lookup b).isSome=true→(ω.lookup b).isSome=true) (hm':∀ b∈mt,(ω'.lookup b).isSome=true)
  (hbase:autoParam (∀ env,env.scope=sc→attributeBase o name env (eval o env)=eval o env) aR)
  (hform:autoParam (∀ env,methodCallForm ([PySem.Expr.Starred e sp].length+([]:List Keyword).length) (backTo pos (starEach [.Starred e sp] env)) (backToKw pos (keywordEach [] env))=false) aR)
  (hst:autoParam (∀ env,starEach [.Starred e sp] env=[(true,eval e env)]) aR):EvX g d sc σ (.Call (.Attribute o name apos) [.Starred e sp] [] pos) c (σ.ow (ω'++σ.own) σ.mt):=fun A env B Φ s r y=>by
 have hsc:env.scope=sc:=by obtain⟨Ψ,pr,_⟩:=y.pre;exact pr.ev.scE
 unfold starOkL methOkL getL at hok
 simp only[Bool.and_eq_true,Bool.not_eq_true'] at hok
 refine box fun bX bk=>?_
 obtain⟨⟨⟨⟨⟨⟨⟨⟨k1,k2⟩,k3⟩,k4⟩,k5⟩,k6⟩,k7⟩,k8⟩,k9⟩:=hok
 refine bk ?_
 clear bk bX
 rw[arm_eval_Call,hbase env hsc]
 refine wpAny_bind (h1.at r y fun Φ₁ v s₁ l₁ y₁ r₁=>wpAny_bind (wpAny_standAt ?_))
 replace r₁:_=_:=r₁
 subst r₁
 have hpos:methodCallPos false o env apos pos=pure pos:=by unfold methodCallPos;rfl
 unfold methodCall calleeOf
 rw[hform env]
 refine box fun bX bk=>?_
 obtain⟨Ψ,pr,hb⟩:=y₁.pre
 obtain⟨ox,g0,g1,g2,us,m,g3,_⟩:=pr.own a _ hs
 obtain⟨od,e0,es,n,h5,h6,h8,hf,h7⟩:=pr.own dd _ ho
 refine bk ?_
 clear bk bX
 have I:W.InstAt s₁.heap a ox C (some od):=⟨pr.hp.getΨ g0,g1,by unfold notCls;rw[g3],by rw[g2];exact pr.hp.getΨ e0⟩
 have hfo:=pr.hp.getΦ (pr.hp.k _ _ hof)
 have hfind:=findObj_fn (od:=od) k6 (beq_iff_eq.mp k4) (beq_iff_eq.mp k7) (beq_iff_eq.mp k8) k9 (by rw[lookIn_of h5 h6,h7 name hn])
 refine wpAny_bind (wpAny_holding ?_)
 first | refine PySem.W.KFB.if_not rfl ?_ | simp only[Bool.false_eq_true,if_false]
 refine wpAny_bind (getL_fn pr.hp.kin I (beq_iff_eq.mp k1) (beq_iff_eq.mp k2) ob hfind hfo hofc (wpAny_pure ?_))
 refine wpAny_bind (wpAny_of_eq hpos ?_)
 have n1:Φ₁ s₁.heap.objs.size=none:=pr.hp.freshΦ
 have n2:Ψ s₁.heap.objs.size=none:=pr.hp.freshΨ
 have hbd:(s₁.heap.push (methObj f a)).get? s₁.heap.objs.size=some (methObj f a):=Heap.get?_push_size _ rfl
 have hp₁:Hp g Φ₁ Ψ {s₁ with heap:=s₁.heap.push (methObj f a),toks:=s₁.toks+1}:=pr.hp.ext fun b o e=>Heap.get?_push_of_some _ e
 have hp₂:=hp₁.adopt hbd n1 n2 (fun q=>(pr.hp.tabNe q).1 rfl)
 have lm:PH.le Φ₁ (Φ₁.put s₁.heap.objs.size (methObj f a)):=PH.le_put _ n1
 have y₂:=y₁.frame lm (pr.next lm hp₂) hb fun a fa e=>pr.owned fa e
 have hM:(Φ₁.put s₁.heap.objs.size (methObj f a)) s₁.heap.objs.size=some (methObj f a):=PH.put_self _ _ _
 rw[hst env]
 refine ks_call (P:=fun h=>∃ k,(k=Keeper.frame∨k=Keeper.machine∨k=Keeper.boundFrame)∧Looks (model PR g.w) h (keeperOf (.ref s₁.heap.objs.size)) k) rfl (fun h q=>q) ?_
 refine ks_lone (h2.at r y₂ fun Φ₃ v s₃ l₃ y₃ r₃=>?_)
 refine tup_elim r₃ fun T oT ws hT hl hv=>?_
 refine box fun bX bk=>?_
 obtain⟨Ψ₃,pr₃,hb₃⟩:=y₃.pre
 have hTup:=isTup_of pr₃.hp hT hl
 obtain⟨oT',hT1,hT2,nT,hT3⟩:=id hTup
 refine bk ?_
 clear bk bX
 unfold StarOf notIterableAtAll
 refine wpAny_bind (wpAny_specialOf hTup.typeIs PySem.F.slot_tuple_iter.lookup (wpAny_pure ⟨rfl,?_⟩))
 refine wpAny_collect_seq T (.inr rfl) hT1 hT2 hT3 (fun h' hk'=>?_) (by rw[size_of hv];exact small_line hsm)
 have y₄:At g sc env σ B Φ₃ {s₃ with heap:=h'}:=y₃.ext (tk:=s₃.toks) hk'
 have hB:h'.get? s₁.heap.objs.size=some (methObj f a):=y₄.sub _ _ (l₃ _ _ hM)
 have hF:h'.get? f=some of:=hk' _ _ (pr₃.hp.getΦ (pr₃.hp.k _ _ hof))
 refine⟨⟨.boundFrame,.inr (.inr rfl),keep_meth hB hF hfd⟩,?_⟩
 refine W.mono (At.mpostW y₄ hω hmt hk hm' fun Ψ' hp' how'=>wpAny_call (ks_codeAny_call_bound hB (hfn A Φ₃ Ψ' _ (.ref a::ws.toList) [] r hp' how' (repL_cons rep_ref hv) rfl repL_nil))) fun v s' q0=>q0.casesOn fun Φ' l' q q'=>⟨Φ',((l₁.trans lm).trans l₃).trans l',q,q'⟩
end
end
section
open PySem.Builtin PySem.Builtin.Str
section
variable {g:Glob} {d:Nat} {ω:Ow}
theorem Fn.three {f:Value} {a b c r:AV} (h:∀ A Φ Ψ s v u z,Room d A→Hp g Φ Ψ s→Owns Φ Ψ ω→Rep Φ a v→Rep Φ b u→Rep Φ c z→W g.w A (PySem.call f [v,u,z] []) (Ret g Φ Ψ r) s):Fn g d ω f [a,b,c] [] r:=fun A Φ Ψ s vs ks rm hp ho ra hk rk=>by
 refine repL_cons_elim ra fun v ws hv hw=>?_
 refine repL_cons_elim hw fun u us hu hw'=>?_
 refine repL_cons_elim hw' fun z zs hz hw''=>?_
 have:=repL_nil_inv hw''
 subst this
 have:ks=[]:=by simpa using hk
 subst this
 exact h A Φ Ψ s v u z rm hp ho hv hu hz
theorem ret_rng {Φ Ψ:PH} {s:Shared} {a b c:Int} {t u v:Tok} {tk:Nat} (hp:Hp g Φ Ψ s):Ret g Φ Ψ (rngAV a b c) (.ref s.heap.objs.size) {s with heap:=s.heap.push {cls:=.type "range",data:=.fields #[.int a t,.int b u,.int c v]},toks:=tk}:=by
 obtain⟨l,hp'⟩:=newΦ hp {cls:=.type "range",data:=.fields #[.int a t,.int b u,.int c v]} rfl
 exact⟨_,l,hp'.tok tk,rep_sat ⟨_,t,u,v,rfl,PH.put_self _ _ _⟩⟩
theorem Fn.range1 {n:Int}:Fn g d ω (.type "range") [.int n] [] (rngAV 0 n 1):=.one fun A Φ Ψ s v r hp how ra=>by
 refine int_elim ra fun t=>?_
 exact call_range_1 (ret_rng hp)
theorem Fn.range3 {a b c:Int} (hc:c≠0) (hl:c.natAbs.log2<9000):Fn g d ω (.type "range") [.int a,.int b,.int c] [] (rngAV a b c):=.three fun A Φ Ψ s v u z r hp how ra rb rc=>by
 refine int_elim ra fun t=>?_
 refine int_elim rb fun t'=>?_
 refine int_elim rc fun t''=>?_
 exact call_range_3 hc (ret_rng hp) (.inl (PyProof.noPylong_of_log2 hl))
theorem rsize1 (n:Nat):Builtin.Range.rangeSize 0 (n:Int) 1=(n:Int):=by
 unfold Builtin.Range.rangeSize
 simp
 lia
theorem rsmall1 (n:Nat) (hs:n≤1000000):Builtin.Range.small 0 (n:Int) 1=true:=by
 unfold Builtin.Range.small
 rw[rsize1]
 unfold Builtin.Range.rangeFitsLong
 simp
 omega
theorem IterV.range1 (n:Nat) (hs:n≤1000000):IterV g d (rngAV 0 (n:Int) 1) (rngL 0 1 n):=IterV.rng (rsmall1 n hs) (rsize1 n)
theorem Fn.joinO {x:Str} {a:Addr} {l:List Str} (ha:ω.lookup a=some (.lst (l.map AV.str))) (hok:JoinOk x l=true):Fn g d ω (.builtin "str.join") [.str x,.ref a] [] (.str (Txt.join x l)):=.two fun A Φ Ψ s v u r hp how ra rb=>by
 refine str_elim ra fun t=>?_
 replace rb:_=_:=rb
 subst rb
 refine box fun bX bk=>?_
 obtain⟨o,e,vs,⟨n,rfl⟩,hv⟩:=how a _ ha
 obtain⟨m,e1,e2⟩:=repL_strs_inv hv
 refine bk ?_
 clear bk bX
 have e3:vs=(strValues m).toArray:=by rw[←e1]
 subst e3
 exact SC.join ⟨_,hp.getΨ e,rfl,n,rfl⟩ e2 hok fun t' k=>Ret.intro (hp.tok k) rep_str
end
end
section
variable {g:Glob} {d:Nat} {sc:Scope} {σ:Sig} {env:Env} {A:Around} {Φ Ψ Φ₀ B:PH} {s:Shared} {rest:List Stmt} {Q:Flow→Shared→Prop}
theorem GenM.tok {n:Nat} {F:Nat→Value→Prop} {a:Addr} (x:GenM g A Φ Ψ n F a s):GenM g A Φ Ψ n F a {s with toks:=s.toks+1}:=by
 refine box fun bX bk=>?_
 obtain⟨Φ',fp,wr,gi,St,l,hp,W,hst,hT,hfp,hin,hwr⟩:=x.ex
 refine bk ?_
 clear bk bX
 exact⟨Φ',fp,wr,gi,St,l,hp.tok _,W,W.frame 0 s s.heap _ hst (Nat.le_succ _) fun b _ o e=>e,hT,hfp,hin,hwr⟩
theorem attrS_exact {x name:Str} {p pos:Pos} {a C dd:Addr} {xs:List AV} {fs:List (Str × AV)} {av:AV} {R:Value→Shared→Prop} (pr:Pre g sc σ env Φ Ψ s) (hx:σ.vars.lookup x=some (.ref a)) (ha:σ.own.lookup a=some (.sub C dd xs)) (ho:σ.own.lookup dd=some (.dict fs)) (hok:attrOkL g.w C name=true) (hl:fs.lookup name=some av) (hv:plainV av=true)
  (h:∀ v,Rep Φ av v→R v {s with toks:=s.toks+1}) (hd:(x==("__debug__":Str))=false:=by decide) (hb:autoParam (attributeBase (.Name x p) name env (eval (.Name x p) env)=eval (.Name x p) env) aR):W g.w A (eval (.Attribute (.Name x p) name pos) env) R s:=by
 refine box fun bX bk=>?_
 obtain⟨fr,hf,hvr⟩:=pr.fr
 obtain⟨hk,v,hxv,rp⟩:=hvr x _ hx
 refine bk ?_
 clear bk bX
 replace rp:_=_:=rp
 subst rp
 refine Attribute_any_ (wpAny_Name (wp_local pr.ev pr.hp hf hk hxv ?_) hd) (by rw[arm_eval_Attribute,hb])
 refine box fun bX bk=>?_
 obtain⟨ox,g0,g1,g2,us,m,g3,_⟩:=pr.own a _ ha
 obtain⟨od,e0,es,n,h5,h6,h8,hf',h7⟩:=pr.own dd _ ho
 obtain⟨u,e1,e2⟩:=RepF.get hf' hl
 refine bk ?_
 clear bk bX
 exact attr_getL (od:=od) pr.hp hok ⟨pr.hp.getΨ g0,g1,by unfold notCls;rw[g3],by rw[g2];exact pr.hp.getΨ e0⟩ h5 h6 e1 (handed_of hv e2) (h u e2)
theorem Bk.retW {e:PySem.Expr} {pos:Pos} {av:AV} (h:∀ Φ Ψ s,Pre g sc σ env Φ Ψ s→W g.w A (eval e env) (Ret g Φ Ψ av) s) (k:∀ Φ v s,PH.le Φ₀ Φ→At g sc env σ B Φ s→Rep Φ av v→Q (.ret v) s):Bk g sc env A Φ₀ B σ (.Return (some e) pos::rest) Q:=.step fun Φ s l y=>by
 obtain⟨Ψ,pr,hb⟩:=y.pre
 exact wpAny_Return_some ((h Φ Ψ s pr).mono fun v s' q0=>q0.casesOn fun Φ' l' hp rp=>k Φ' v s' (l.trans l') (y.frame l' (pr.next l' hp) hb fun a fa e=>pr.owned fa e) rp)
theorem sum_W {id x name:Str} {p0 p1 p2 pos:Pos} {ge:PySem.Expr} {a C dd:Addr} {xs:List AV} {fs:List (Str × AV)} {n:Nat} {F:Nat→Value→Prop} (r:Room d A) (pr:Pre g sc σ env Φ Ψ s) (h1:Ev g d sc σ (.Name id p0) (.raw (.builtin "sum")))
  (hge:∀ Φ s,Pre g sc σ env Φ Ψ s→W g.w A (eval ge env) (fun v s'=>∃ a,v=.ref a∧GenM g A Φ Ψ n F a s') s) (hx:σ.vars.lookup x=some (.ref a)) (ha:σ.own.lookup a=some (.sub C dd xs)) (ho:σ.own.lookup dd=some (.dict fs)) (hok:attrOkL g.w C name=true) (hl:fs.lookup name=some (.int 0))
  (val:Nat→Int) (hval:∀ i v,F i v→∃ t,v=.int (val i) t)
  (he1:starEach [ge,.Attribute (.Name x p1) name p2] env=(false,eval ge env)::starEach [.Attribute (.Name x p1) name p2] env) (he2:autoParam (starEach [.Attribute (.Name x p1) name p2] env=(false,eval (.Attribute (.Name x p1) name p2) env)::starEach [] env) aR)
  (hst:((backTo pos (starEach [ge,.Attribute (.Name x p1) name p2] env)).any (·.1))=false) (hd:(x==("__debug__":Str))=false:=by decide) (hb:autoParam (attributeBase (.Name x p1) name env (eval (.Name x p1) env)=eval (.Name x p1) env) aR) :
  W g.w A (eval (.Call (.Name id p0) [ge,.Attribute (.Name x p1) name p2] [] pos) env) (Ret g Φ Ψ (.int (preSum val n))) s:=by
 rw[arm_eval_Call_Name']
 refine wpAny_bind (h1.run r pr fun Φ₁ v s₁ l₁ x₁ r₁=>?_)
 replace r₁:_=_:=r₁
 subst r₁
 refine callWith_of (P:=fun h=>∃ k,(k=Keeper.frame∨k=Keeper.machine∨k=Keeper.boundFrame)∧Looks (model PR g.w) h (keeperOf (.builtin "sum")) k) (by rw[hst];rfl) (fun h q=>q) ?_
 have go:W g.w A (spliced (backTo pos (starEach [ge,.Attribute (.Name x p1) name p2] env))) (fun vs s'=>∃ b t,vs=[.ref b,.int 0 t]∧GenM g A Φ₁ Ψ n F b s') s₁:=by
  refine wpAny_items_cons ((hge Φ₁ s₁ x₁).mono fun v s' q0=>q0.elim fun b q0=>q0.elim fun e q=>?_) he1
  refine box fun bX bk=>?_
  obtain⟨Φ',fp,wr,gi,St,l,hp,_⟩:=q.ex
  refine bk ?_
  clear bk bX
  refine wpAny_items_cons (attrS_exact (x₁.next l hp) hx ha ho hok hl rfl (fun v' rv=>?_) hd hb) he2
  obtain⟨t,rfl⟩:=int_inv rv
  exact wpAny_items_nil ⟨b,t,by rw[e],q.tok⟩
 cases hb':backTo pos (starEach [ge,.Attribute (.Name x p1) name p2] env) with
 | nil=>rw[he1] at hb';cases hb'
 | cons p rest=>
  refine box fun bX bk=>?_
  obtain⟨st,t⟩:=p
  refine bk ?_
  clear bk bX
  rw[hb'] at hst go
  have hst':st=false:=by simp only[List.any_cons,Bool.or_eq_false_iff] at hst;exact hst.1
  subst hst'
  refine Calls.evalArgs_plain (go.mono fun vs s' q0=>q0.elim fun b q0=>q0.elim fun t q0=>q0.elim fun e q=>?_)
  subst e
  refine box fun bX bk=>?_
  obtain⟨Φ',_,_,_,_,_,hp,_⟩:=q.ex
  refine bk ?_
  clear bk bX
  exact⟨Keep.bi (g:=g) "sum" Φ' Ψ s' hp,W.mono (sum_gen val hval q) fun _ _ z=>Ret.up l₁ z⟩
theorem join_W {o:PySem.Expr} {apos pos:Pos} {ge:PySem.Expr} {sep:Str} {n:Nat} {F:Nat→Value→Prop} (r:Room d A) (pr:Pre g sc σ env Φ Ψ s) (h1:Ev g d sc σ o (.str sep))
  (hge:∀ Φ s,Pre g sc σ env Φ Ψ s→W g.w A (eval ge env) (fun v s'=>∃ a,v=.ref a∧GenM g A Φ Ψ n F a s') s) (tx:Nat→Str) (htx:∀ i v,F i v→∃ u,v=.str (tx i) u) (hn:small n) (hok:JoinOk sep ((List.range n).map tx)=true)
  (he1:starEach [ge] env=(false,eval ge env)::starEach [] env) (hst:((backTo pos (starEach [ge] env)).any (·.1))=false)
  (hbase:attributeBase o ("join":Str) env (eval o env)=eval o env) (hline:(apos.endLine==pos.line)=true)
  (hform:methodCallForm ([ge].length+([]:List Keyword).length) (backTo pos (starEach [ge] env)) (backToKw pos (keywordEach [] env))=true) :
  W g.w A (eval (.Call (.Attribute o ("join":Str) apos) [ge] [] pos) env) (Ret g Φ Ψ (.str (Txt.join sep ((List.range n).map tx)))) s:=by
 rw[arm_eval_Call,hbase]
 refine wpAny_bind (h1.run r pr fun Φ₁ v s₁ l₁ x₁ r₁=>wpAny_bind (wpAny_standAt ?_))
 obtain⟨t,rfl⟩:=str_inv r₁
 have hpos:methodCallPos true o env apos pos=pure pos:=by unfold methodCallPos;simp[hline]
 unfold methodCall
 rw[hform]
 refine wpAny_bind (wpAny_holding ?_)
 show W g.w A (getMethod (.str sep t) "join" (do return (←importBound o env).getD true)) _ _
 refine W.mono (Gm.str (g:=g) (d:=d) PySem.F.slot_str_join PySem.F.type_str_join A Φ₁ Ψ s₁ _ _ r x₁.hp r₁) ?_
 rintro⟨f',first⟩ s₂ ⟨rfl,Φ₂,l₂,hp₂,hr₂⟩
 refine wpAny_bind (wpAny_of_eq hpos ?_)
 refine box fun bX bk=>?_
 obtain⟨v1,w1,rfl,rv1,rw1⟩:=repL_cons_inv hr₂
 refine bk ?_
 clear bk bX
 have:=repL_nil_inv rw1
 subst this
 obtain⟨t',rfl⟩:=str_inv rv1
 have x₂:=x₁.next l₂ hp₂
 refine callWith_of (P:=fun h=>∃ k,(k=Keeper.frame∨k=Keeper.machine∨k=Keeper.boundFrame)∧Looks (model PR g.w) h (keeperOf (.builtin "str.join")) k) (by rw[hst];rfl) (fun h q=>q) ?_
 have go:W g.w A (spliced (backTo pos (starEach [ge] env))) (fun vs s'=>∃ b,vs=[.ref b]∧GenM g A Φ₂ Ψ n F b s') s₂:=by
  refine wpAny_items_cons ((hge Φ₂ s₂ x₂).mono fun v s' q0=>q0.elim fun b q0=>q0.elim fun e q=>?_) he1
  exact wpAny_items_nil ⟨b,by rw[e],q⟩
 cases hb':backTo pos (starEach [ge] env) with
 | nil=>rw[he1] at hb';cases hb'
 | cons p rest=>
  refine box fun bX bk=>?_
  obtain⟨st,tt⟩:=p
  refine bk ?_
  clear bk bX
  rw[hb'] at hst go
  have hst':st=false:=by simp only[List.any_cons,Bool.or_eq_false_iff] at hst;exact hst.1
  subst hst'
  refine Calls.evalArgs_plain (go.mono fun vs s' q0=>q0.elim fun b q0=>q0.elim fun e q=>?_)
  subst e
  refine box fun bX bk=>?_
  obtain⟨Φ',_,_,_,_,_,hp,_⟩:=q.ex
  refine bk ?_
  clear bk bX
  exact⟨Keep.bi (g:=g) "str.join" Φ' Ψ s' hp,W.mono (join_gen tx htx hn hok q) fun _ _ z=>Ret.up (l₁.trans l₂) z⟩
end
section
variable {g:Glob} {A:Around} {E:Value→Shared→Prop} {s:Shared} {cenv:Env} {m:Str→Option Value}
structure GenX (g:Glob) (cenv:Env) (m:Str→Option Value) (s:Shared):Prop where
 kd:cenv.scope.kind=.function
 gl:cenv.globals=mainGlobals
 bi:cenv.builtins=builtinsNs
 ns:s.heap.Ns cenv.locals m
 kin:(KB g.w).In s.heap
 b:∃ Φ₀,Bins Φ₀∧Sub Φ₀ s.heap
theorem GenX.tok (x:GenX g cenv m s) (k:Nat):GenX g cenv m {s with toks:=k}:=⟨x.kd,x.gl,x.bi,x.ns,x.kin,x.b⟩
theorem GenX.name {x:Str} {p:Pos} {v:Value} {Q:Value→Shared→Prop} (X:GenX g cenv m s) (hx:cenv.kindOf x=some .local) (hm:m x=some v) (h:Q v s) (hd:(x==("__debug__":Str))=false:=by decide):wpAny (model PR g.w) A (eval (.Name x p) cenv) Q E s:=
 wpAny_Name (wpAny_loadName_local X.kd hx X.ns hm h) hd
theorem GenX.bin {x:Str} {p:Pos} {v:Value} {Q:Value→Shared→Prop} (X:GenX g cenv m s) (hx:cenv.kindOf x=some .globalImplicit) (hg:globK g.w x=some Option.none) (hb:bootBuiltins x=some v) (h:Q v s) (hn:x≠"__name__":=by decide) (hd:(x==("__debug__":Str))=false:=by decide):wpAny (model PR g.w) A (eval (.Name x p) cenv) Q E s:=by
 refine box fun bX bk=>?_
 obtain⟨mg,hg,hv⟩:=globH X.kin hg
 obtain⟨Φ₀,⟨o,es,ep,ho,h1,h2,h3⟩,hS⟩:=X.b
 refine bk ?_
 clear bk bX
 have nb:s.heap.Ns builtinsNs (nsFind es):=⟨o,es,ep,hS _ _ ho,h1,h2,fun _=>rfl⟩
 exact wpAny_Name (ks_loadName_global X.kd hx (Calls.loadGlobal_builtin (mg:=mg) (by rw[X.gl];exact hg) hv (by rw[X.bi];exact nb) (by rw[h3 x hn];exact hb) h)) hd
theorem GenX.glob {x:Str} {p:Pos} {v:Value} {Q:Value→Shared→Prop} (X:GenX g cenv m s) (hx:cenv.kindOf x=some .globalImplicit) (hg:globK g.w x=some (some v)) (h:Q v s) (hd:(x==("__debug__":Str))=false:=by decide):wpAny (model PR g.w) A (eval (.Name x p) cenv) Q E s:=by
 obtain⟨mg,hg,hv⟩:=globH X.kin hg
 exact wpAny_Name (ks_loadName_global X.kd hx (Calls.loadGlobal_global (mg:=mg) (by rw[X.gl];exact hg) hv h)) hd
theorem GenX.len {x:Str} {p0 p1 pos:Pos} {y:Str} {t:Tok} {Q:Value→Shared→Prop} (X:GenX g cenv m s) (hl:cenv.kindOf ("len":Str)=some .globalImplicit) (hg:globK g.w ("len":Str)=some Option.none) (hx:cenv.kindOf x=some .local) (hm:m x=some (.str y t)) (hs:small y.length)
  (h:Q (.int y.length (s.toks+1)) {s with toks:=s.toks+1+1}) (hd:(x==("__debug__":Str))=false:=by decide) (he:autoParam (starEach [.Name x p1] cenv=(false,eval (.Name x p1) cenv)::starEach [] cenv) aR):wpAny (model PR g.w) A (eval (.Call (.Name ("len":Str) p0) [.Name x p1] [] pos) cenv) Q E s:=by
 rw[arm_eval_Call_Name']
 refine wpAny_bind (X.bin hl hg (v:=.builtin "len") (by rfl) ?_)
 have hst:((backTo pos (starEach [.Name x p1] cenv)).any (·.1))=false:=by rw[he];rfl
 refine callWith_of (P:=fun h=>∃ k,(k=Keeper.frame∨k=Keeper.machine∨k=Keeper.boundFrame)∧Looks (model PR g.w) h (keeperOf (.builtin "len")) k) (by rw[hst];rfl) (fun h q=>q) ?_
 have go:wpAny (model PR g.w) A (spliced (backTo pos (starEach [.Name x p1] cenv))) (fun vs s'=>vs=[.str y t]∧s'=s) E s:=wpAny_items_cons (X.name hx hm (wpAny_items_nil ⟨rfl,rfl⟩) hd) he
 cases hb':backTo pos (starEach [.Name x p1] cenv) with
 | nil=>rw[he] at hb';cases hb'
 | cons p rest=>
  obtain⟨st,tt⟩:=p
  rw[hb'] at hst go
  have hst':st=false:=by simp only[List.any_cons,Bool.or_eq_false_iff] at hst;exact hst.1
  subst hst'
  refine Calls.evalArgs_plain (wpAny_mono go (fun vs s' q0=>q0.casesOn fun e1 e2=>?_) fun _ _ e=>e)
  subst e1 e2
  exact⟨⟨.machine,.inr (.inl rfl),Looks.now⟩,PySem.P.len_str (by have:=small_lt hs;lia) h⟩
end
section
variable {g:Glob} {d:Nat}
noncomputable def scanO (w:Int):List Nat→Int→Str→Nat→Option (Nat × Str)
 | [],n,mk,i=>some (i,mk)
 | [c],n,mk,i=>if n<w then
   if c=0 then none
   else if c=1 then some (i+1,⟨#[]⟩) else some (i+1,mk)
  else some (i,mk)
 | c::m::cs,n,mk,i=>if n<w then
   if c=0 then scanO w cs n ⟨#[m]⟩ (i+2)
   else if c=1 then scanO w (m::cs) n ⟨#[]⟩ (i+1)
   else scanO w (m::cs) (n+1) mk (i+1)
  else some (i,mk)
theorem scanO_1 {w:Int} {c:Nat} {n:Int} {mk:Str} {i:Nat}:scanO w [c] n mk i=if n<w then(if c=0 then none else if c=1 then some (i+1,⟨#[]⟩) else some (i+1,mk)) else some (i,mk):=rfl
theorem scanO_2 {w:Int} {c m:Nat} {cs:List Nat} {n:Int} {mk:Str} {i:Nat}:scanO w (c::m::cs) n mk i=if n<w then(if c=0 then scanO w cs n ⟨#[m]⟩ (i+2) else if c=1 then scanO w (m::cs) n ⟨#[]⟩ (i+1) else scanO w (m::cs) (n+1) mk (i+1)) else some (i,mk):=rfl
theorem scanO_stop {w:Int} {cs:List Nat} {n:Int} {mk:Str} {i:Nat} (h:¬ n<w∨cs=[]):scanO w cs n mk i=some (i,mk):=by
 match cs with
 | []=>rfl
 | [c]=>rw[scanO_1,if_neg (h.resolve_right (by simp))]
 | c::m::r=>rw[scanO_2,if_neg (h.resolve_right (by simp))]
theorem scanO_zero {w:Int} {cs:List Nat} {n:Int} {mk:Str} {i:Nat} {r:Nat × Str} (h:n<w) (e:scanO w (0::cs) n mk i=some r):∃ m cs',cs=m::cs'∧scanO w cs' n ⟨#[m]⟩ (i+2)=some r:=by
 match cs with
 | []=>rw[scanO_1,if_pos h,if_pos rfl] at e;cases e
 | m::cs'=>rw[scanO_2,if_pos h,if_pos rfl] at e;exact⟨m,cs',rfl,e⟩
theorem scanO_one {w:Int} {cs:List Nat} {n:Int} {mk:Str} {i:Nat} {r:Nat × Str} (h:n<w) (e:scanO w (1::cs) n mk i=some r):scanO w cs n ⟨#[]⟩ (i+1)=some r:=by
 match cs with
 | []=>rw[scanO_1,if_pos h,if_neg (by decide),if_pos rfl] at e;exact e
 | m::cs'=>rw[scanO_2,if_pos h,if_neg (by decide),if_pos rfl] at e;exact e
theorem scanO_else {w:Int} {c:Nat} {cs:List Nat} {n:Int} {mk:Str} {i:Nat} {r:Nat × Str} (h:n<w) (h0:c≠0) (h1:c≠1) (e:scanO w (c::cs) n mk i=some r):scanO w cs (n+1) mk (i+1)=some r:=by
 match cs with
 | []=>rw[scanO_1,if_pos h,if_neg h0,if_neg h1] at e;exact e
 | m::cs'=>rw[scanO_2,if_pos h,if_neg h0,if_neg h1] at e;exact e
theorem scanO_mark (w:Int):∀ (cs:List Nat) (n:Int) (mk:Str) (i i':Nat) (mk':Str),scanO w cs n mk i=some (i',mk')→mk.length≤1→mk'.length≤1
 | [],n,mk,i,i',mk',e,h=>by cases e;exact h
 | [c],n,mk,i,i',mk',e,h=>by
  rw[scanO_1] at e
  split at e
  ·split at e
   ·cases e
   ·split at e
    ·cases e;exact Nat.zero_le _
    ·cases e;exact h
  ·cases e;exact h
 | c::m::cs,n,mk,i,i',mk',e,h=>by
  rw[scanO_2] at e
  split at e
  ·split at e
   ·exact scanO_mark w cs _ _ _ _ _ e (Nat.le_refl _)
   ·split at e
    ·exact scanO_mark w (m::cs) _ _ _ _ _ e (Nat.zero_le _)
    ·exact scanO_mark w (m::cs) _ _ _ _ _ e h
  ·cases e;exact h
noncomputable def lineOne (x:Str) (i:Nat) (mk:Str):Str:=if ((mk.length:Int) != 0)=true then Txt.slice x Option.none (some (i:Int))++⟨#[1]⟩ else Txt.slice x Option.none (some (i:Int))
noncomputable def lineTwo (x:Str) (i:Nat) (mk:Str):Str:=if ((mk.length:Int) != 0)=true then(⟨#[0]⟩++mk)++Txt.slice x (some (i:Int)) Option.none else Txt.slice x (some (i:Int)) Option.none
noncomputable def splitF (w:Int):Nat→AV→Bool→Str→Option (List (AV × Str))
 | 0,_,_,_=>Option.none
 | k+1,num,tr,x=>if x.length≤10000 then
   if tr=false then some [(num,x)]
   else if (decide ((x.length:Int)≤w)||decide ((x.length:Int)-Txt.count x ⟨#[0]⟩*3≤w))=true then some [(num,x)]
   else match scanO w x.cps.toList 0 ⟨#[]⟩ 0 with
    | Option.none=>Option.none
    | some (i,mk)=>(splitF w k (.str ⟨#[62]⟩) true (lineTwo x i mk)).map ((num,lineOne x i mk)::·)
  else Option.none
noncomputable def htmlAV (w:Int):AV:=.obj 113 [(n_u_charjunk,.ref 29),(n_u_linejunk,.none),(n_u_wrapcolumn,.int w),(n_u_tabsize,.int 8)]
noncomputable def lineAVs (ls:List (AV × Str)):List AV:=ls.map fun p=>.tup [p.1,.str p.2]
theorem fn_split_line (w:Int):∀ (k:Nat) (num:AV) (tr:Bool) (x:Str) (ls:List (AV × Str)) (a:Addr) (xs:List AV),splitF w k num tr x=some ls→(∀ d ω,Tr g d ω num tr)→small (xs.length+k) →
  FnM g (d+1+k) [a] [(a,.lst xs)] (.ref 67) [htmlAV w,.ref a,num,.str x] [] (fun r ω'=>r=.none∧ω'=[(a,.lst (xs++lineAVs ls))])
 | 0,num,tr,x,ls,a,xs,e,_,_=>by cases e
 | k+1,num,tr,x,ls,a,xs,e,htr,hsm=>by
  change ite _ _ _=_ at e
  split at e
  ·rename_i hx
   have hxs:small x.length:=by unfold small;(clear e hsm htr;lia)
   have hsm':small xs.length:=by unfold small at *;(clear hxs e hx htr;lia)
   refine FnM.body (d:=d+1+k) (o:=Mine.Internal.hd.zo_100 g.w.params) (by kernel_rfl) rfl rfl {} rfl (by decide) (bind_pos (ps:=[n_self,n_data_list,n_line_num,n_text]) (by exact fun _ _ _ _=>rfl) rfl) (by kernel_rfl) (by simp) (by(clear hsm' hxs e hx hsm htr;lia)) fun A env Φ B r=>?_
   ·refine Bk.ite r (Ts.not (Ts.ev (Ev.name rfl) (htr _ _))) (fun hb=>?_) (fun hb=>Bk.go ?_)
    ·have ht:tr=false:=by simpa using hb
     rw[if_pos ht] at e
     have e':=Option.some.inj e
     refine Bk.app1 r rfl rfl rfl (by exact(Ev.tup (EvL.cons (Ev.name rfl) (EvL.cons (Ev.name rfl) EvL.nil)) (sml rfl))) hsm' ?_
     exact Bk.ret0 (FQ.none ⟨rfl,by rw[←e'];rfl⟩ own1_ok).1
    have ht:tr=true:=by simpa using hb
    rw[if_neg (by rw[ht];decide)] at e
    refine Bk.assign r (Ev.call (Ev.bi rfl (by kernel_rfl) rfl) (Keep.bi _) (by exact(EvL.cons (Ev.name rfl) EvL.nil)) (Fn.strLen hxs)) rfl ?_
    refine Bk.assign r (Ev.attr (Ev.name rfl) (by kernel_rfl) rfl rfl) rfl ?_
    refine Bk.ite r (Ts.or (by exact(Ts.cmp (Ev.name rfl) (Ev.name rfl) Op2.le)) (Ts.cmp (Ev.bin (by exact(Ev.name rfl)) (Ev.bin (Ev.strMeth (Ev.name rfl) PySem.F.slot_str_count PySem.F.type_str_count (by exact(EvL.cons (Ev.str _) EvL.nil)) Fn.count) (Ev.int _) (Op2.mul (IntMulOk.of_right (by decide)))) Op2.sub) (Ev.name rfl) Op2.le)) (fun hb2=>?_) (fun hb2=>Bk.go ?_)
    ·rw[show Str.ofString "\x00"=(⟨#[0]⟩:Str) from rfl] at hb2
     rw[if_pos hb2] at e
     have e':=Option.some.inj e
     refine Bk.app1 r rfl rfl rfl (by exact(Ev.tup (EvL.cons (Ev.name rfl) (EvL.cons (Ev.name rfl) EvL.nil)) (sml rfl))) hsm' ?_
     exact Bk.ret0 (FQ.none ⟨rfl,by rw[←e'];rfl⟩ own1_ok).1
    rw[show Str.ofString "\x00"=(⟨#[0]⟩:Str) from rfl] at hb2
    rw[if_neg (fun q=>Bool.false_ne_true (hb2.symm.trans q))] at e
    split at e
    ·cases e
    ·rename_i i mk hsc
     obtain⟨ls',hls,els⟩:=Option.map_eq_some_iff.mp e
     refine Bk.assign r (by exact(Ev.int _)) rfl (Bk.assign r (by exact(Ev.int _)) rfl (Bk.assign r (by exact(Ev.str _)) rfl ?_))
     obtain⟨S,hS⟩:∃ S:Nat→Int→Str→Sig,S=fun i n mk=>⟨[(n_i,.int i),(n_n,.int n),(n_mark,.str mk),(n_size,.int x.length),(n_max,.int w),(n_self,htmlAV w),(n_data_list,.ref a),(n_line_num,num),(n_text,.str x)],[(a,.lst xs)],[],[a]⟩:=⟨_,rfl⟩
     refine Bk.know (S 0 0 ⟨#[]⟩) ?_ (by rw[hS];exact⟨rfl,rfl,rfl,rfl,rfl,rfl,rfl,rfl,rfl,trivial⟩) (by rw[hS];rfl) (by rw[hS];rfl) (by rw[hS];rfl)
     have el:∀ {X:Nat→Sig→Prop},(∀ j n mk',j≤x.cps.size→scanO w (x.cps.toList.drop j) n mk' j=some (i,mk)→X (x.cps.size-j) (S j n mk'))→∀ m σ,(∀ X:Nat→Sig→Prop,(∀ j n mk',j≤x.cps.size→scanO w (x.cps.toList.drop j) n mk' j=some (i,mk)→X (x.cps.size-j) (S j n mk'))→X m σ)→X m σ:=fun k m σ h=>h _ k
     refine Bk.while r (I:=fun m σ=>∀ X:Nat→Sig→Prop,(∀ j n mk',j≤x.cps.size→scanO w (x.cps.toList.drop j) n mk' j=some (i,mk)→X (x.cps.size-j) (S j n mk'))→X m σ) (R:=fun _=>False) x.cps.size (fun X k=>k 0 0 _ (Nat.zero_le _) (by simpa using hsc)) (el fun j n mk' hj hsj=>?_) (fun _ h=>h.elim)
     rw[hS]
     refine⟨_,by exact(Ts.and (Ts.cmp (Ev.name rfl) (Ev.name rfl) Op2.lt) (Ts.cmp (Ev.name rfl) (Ev.name rfl) Op2.lt)),fun hb=>?_,fun hb=>?_⟩
     ·have hb':n<w∧(j:Int)<x.length:=by simpa using hb
      have hjl:j<x.cps.size:=by have:=hb'.2;unfold Str.length at this;(clear hb' hsj hj hS e hls hsc hb2 ht r hsm' hxs hx hsm htr;lia)
      obtain⟨c,hc⟩:∃ c,x.cps[j]?=some c:=⟨_,Array.getElem?_eq_getElem hjl⟩
      have hdr:x.cps.toList.drop j=c::x.cps.toList.drop (j+1):=by
       have hlt:j<x.cps.toList.length:=by simpa using hjl
       rw[List.drop_eq_getElem_cons hlt]
       congr 1
       have h2:x.cps.toList[j]?=some c:=by rw[Array.getElem?_toList];exact hc
       exact(List.getElem?_eq_some_iff.mp h2).2
      rw[hdr] at hsj
      have hit:x.cps[(j:Int).toNat]?=some c:=by simpa using hc
      refine Bk.ite r (Ts.cmp (Ev.itemS (Ev.name rfl) (Ev.name rfl) (by(clear hit hdr hc hsj hjl hb' hj hS e hls hsc hb2 ht r hsm' hxs hx hsm htr;lia)) hit hxs) (Ev.str _) Op2.eqs) (fun hb2=>?_) (fun hb2=>?_)
      ·have h0:c=0:=by
        have:=beq_iff_eq.mp (show((⟨#[c]⟩:Str)==⟨#[0]⟩)=true from hb2)
        simpa using this
       refine box fun bX bk=>?_
       obtain⟨m,cs',hm,hs'⟩:=scanO_zero hb'.1 (h0▸hsj)
       have hj1:j+1<x.cps.size:=by
        have:(x.cps.toList.drop (j+1)).length=x.cps.size-(j+1):=by simp
        rw[hm] at this;simp -iota at this;(clear hs' hm hit hdr hc hsj hjl hb' hj hS e hls hsc ht r hsm' hxs hx hsm htr;lia)
       have hm2:x.cps[((j:Int)+1).toNat]?=some m:=by
        have h3:((j:Int)+1).toNat=j+1:=by(clear hj1 hs' hm hit hdr hc hsj hjl hb' hj hS e hls hsc ht r hsm' hxs hx hsm htr;lia)
        rw[h3,←Array.getElem?_toList,←List.head?_drop,hm];rfl
       have hcs:cs'=x.cps.toList.drop (j+2):=by
        have:x.cps.toList.drop (j+2)=(x.cps.toList.drop (j+1)).drop 1:=by rw[List.drop_drop]
        rw[this,hm];rfl
       refine bk ?_
       clear bk bX
       refine Bk.aug r rfl rfl (Ev.int 1) Op2.iadd (Bk.assign r (Ev.itemS (Ev.name rfl) (Ev.name rfl) (by(clear hcs hm2 hj1 hs' hm hit hdr hc hsj hjl hb' hj hS e hls hsc ht r hsm' hxs hx hsm htr;lia)) hm2 hxs) rfl (Bk.aug r rfl rfl (Ev.int 1) Op2.iadd (Bk.go ?_)))
       have e2:((j:Int)+1+1)=((j+2:Nat):Int):=by(clear hcs hm2 hj1 hs' hm hit hdr hc hsj hjl hb' hj hS e hls hsc ht r hsm' hxs hx hsm htr;lia)
       refine Bk.nextS (S (j+2) n ⟨#[m]⟩) ⟨x.cps.size-(j+2),by lia,fun X k=>by rw[hS];exact k (j+2) n _ (by lia) (by rw[←hcs];exact hs')⟩ ?_ (by rw[hS];rfl) (by rw[hS];rfl) (by rw[hS];rfl)
       rw[hS]
       refine⟨?_,rfl,rfl,rfl,rfl,rfl,rfl,rfl,rfl,trivial⟩
       rw[←e2];rfl
      ·have h0:c≠0:=fun q=>by subst q;replace hb2:((⟨#[0]⟩:Str)==⟨#[0]⟩)=false:=hb2;simp -iota at hb2
       refine Bk.ite r (Ts.cmp (Ev.itemS (Ev.name rfl) (Ev.name rfl) (by(clear h0 hit hdr hc hsj hjl hb' hj hS e hls hsc ht r hsm' hxs hx hsm htr;lia)) hit hxs) (Ev.str _) Op2.eqs) (fun hb3=>?_) (fun hb3=>?_)
       ·have h1:c=1:=by
         have:=beq_iff_eq.mp (show((⟨#[c]⟩:Str)==⟨#[1]⟩)=true from hb3)
         simpa using this
        have hs':=scanO_one hb'.1 (h1▸hsj)
        refine Bk.aug r rfl rfl (Ev.int 1) Op2.iadd (Bk.assign r (Ev.str _) rfl (Bk.go (Bk.go ?_)))
        refine Bk.nextS (S (j+1) n ⟨#[]⟩) ⟨x.cps.size-(j+1),by lia,fun X k=>by rw[hS];exact k (j+1) _ _ (by lia) hs'⟩ ?_ (by rw[hS];rfl) (by rw[hS];rfl) (by rw[hS];rfl)
        rw[hS]
        exact⟨rfl,rfl,rfl,rfl,rfl,rfl,rfl,rfl,rfl,trivial⟩
       ·have h1:c≠1:=fun q=>by subst q;replace hb3:((⟨#[1]⟩:Str)==⟨#[1]⟩)=false:=hb3;simp -iota at hb3
        have hs':=scanO_else hb'.1 h0 h1 hsj
        refine Bk.aug r rfl rfl (Ev.int 1) Op2.iadd (Bk.aug r rfl rfl (Ev.int 1) Op2.iadd (Bk.go (Bk.go ?_)))
        refine Bk.nextS (S (j+1) (n+1) mk') ⟨x.cps.size-(j+1),by lia,fun X k=>by rw[hS];exact k (j+1) _ _ (by lia) hs'⟩ ?_ (by rw[hS];rfl) (by rw[hS];rfl) (by rw[hS];rfl)
        rw[hS]
        exact⟨rfl,rfl,rfl,rfl,rfl,rfl,rfl,rfl,rfl,trivial⟩
     ·have hstop:scanO w (x.cps.toList.drop j) n mk' j=some (j,mk'):=scanO_stop (by
       have hb':n<w→(x.length:Int)≤j:=by simpa using hb
       by_cases h:n<w
       ·refine .inr (List.drop_eq_nil_of_le ?_)
        have:=hb' h;unfold Str.length at this;simp;(clear h hb' hsj hj hS e hls hsc hb2 ht r hsm' hxs hx hsm htr;lia)
       ·exact .inl h)
      have e2:=Option.some.inj (hstop.symm.trans hsj)
      refine Bk.go (Bk.know ⟨[(n_i,.int i),(n_mark,.str mk),(n_self,htmlAV w),(n_data_list,.ref a),(n_line_num,num),(n_text,.str x)],[(a,.lst xs)],[],[a]⟩ ?_ ⟨by rw[←(Prod.mk.inj e2).1];rfl,by rw[←(Prod.mk.inj e2).2];rfl,rfl,rfl,rfl,rfl,trivial⟩)
      refine Bk.assign r (Ev.sliceS (Ev.name rfl) (lo:=Option.none) (hi:=some (i:Int)) trivial (Ev.name (av:=.int i) rfl) hxs) rfl ?_
      refine Bk.assign r (Ev.sliceS (Ev.name rfl) (lo:=some (i:Int)) (hi:=Option.none) (Ev.name (av:=.int i) rfl) trivial hxs) rfl ?_
      have l1:(Txt.slice x Option.none (some (i:Int))).length≤x.length:=Txt.slice_le x _ _
      have l2:(Txt.slice x (some (i:Int)) Option.none).length≤x.length:=Txt.slice_le x _ _
      have lm:mk.length≤1:=scanO_mark _ _ _ _ _ _ _ hsc (Nat.zero_le _)
      refine Bk.iteJ r (Ts.ev (Ev.name rfl) (Tr.str (by unfold small;(clear l2 l1 hstop hj hS e hls hsc hb2 ht r hsm' hxs hx hsm htr;lia)))) ⟨[(n_line1,.str (lineOne x i mk)),(n_line2,.str (lineTwo x i mk)),(n_self,htmlAV w),(n_data_list,.ref a),(n_line_num,num),(n_text,.str x)],[(a,.lst xs)],[],[a]⟩ (fun hb=>?_) (fun hb=>?_) ?_
      ·refine Bk.assign r (Ev.bin (Ev.name rfl) (Ev.str _) (Op2.adds ?_)) rfl (Bk.assign r (Ev.bin (Ev.bin (Ev.str _) (Ev.name rfl) (Op2.adds ?_)) (Ev.name rfl) (Op2.adds ?_)) rfl (Bk.join _ ⟨?_,?_,rfl,rfl,rfl,rfl,trivial⟩))
       ·show _+1≤1000000;(clear lm l2 hstop hj hS e hls hsc hb2 ht r hsm' hxs hsm htr;lia)
       ·show 1+_≤1000000;(clear l2 l1 hstop hj hS e hls hsc hb2 ht r hsm' hxs hx hsm htr;lia)
       ·unfold small;rw[len_app];show 1+_+_≤1000000;(clear l1 hstop hj hS e hls hsc hb2 ht r hsm' hxs hsm htr;lia)
       ·unfold lineOne;rw[if_pos hb];rfl
       ·unfold lineTwo;rw[if_pos hb];rfl
      ·refine Bk.join _ ⟨?_,?_,rfl,rfl,rfl,rfl,trivial⟩
       ·unfold lineOne;rw[if_neg (by rw[hb];decide)];rfl
       ·unfold lineTwo;rw[if_neg (by rw[hb];decide)];rfl
      refine Bk.app1 r rfl rfl rfl (by exact(Ev.tup (EvL.cons (Ev.name rfl) (EvL.cons (Ev.name rfl) EvL.nil)) (sml rfl))) hsm' ?_
      have ih:=fn_split_line w k (.str ⟨#[62]⟩) true (lineTwo x i mk) ls' a (xs++[.tup [num,.str (lineOne x i mk)]]) hls (fun d ω=>Tr.str (x:=⟨#[62]⟩) (by show 1≤1000000;(clear lm l2 l1 hstop hj hS e hls hsc hb2 ht r hsm' hxs hx hsm htr;lia))) (by unfold small at *;simp;(clear lm l2 l1 hstop hj hS e hls hsc hb2 ht r hsm' hxs hx htr;lia))
      refine Bk.expr r (EvX.meth (EvX.of (Ev.name rfl)) (GmA.of (Gm.obj (f:=67) (by kernel_rfl) (show _∉[n_u_charjunk,n_u_linejunk,n_u_wrapcolumn,n_u_tabsize] by decide))) (Keep.k (by kernel_rfl)) (by exact(EvL.cons (Ev.name rfl) (EvL.cons (Ev.str _) (EvL.cons (Ev.name rfl) EvL.nil)))) (CallsTo.own1 ih)) rfl ?_
      refine Bk.nil (FQ.none ⟨rfl,?_⟩ own1_ok).2
      show _=_
      rw[←els]
      simp -iota [lineAVs]
  ·cases e
end
section
variable {g:Glob} {d:Nat} {ω:Ow}
theorem kw_one {Φ:PH} {n:Str} {x:AV}:∀ {ks:List (Str × Value)},ks.map (·.1)=[(n,x)].map (·.1)→RepL Φ ([(n,x)].map (·.2)) (ks.map (·.2))→∃ u,ks=[(n,u)]∧Rep Φ x u
 | [],e,_=>nomatch e
 | (k,u)::r,e,rk=>by
  have h1:k=n:=(List.cons.inj e).1
  have h2:r=[]:=List.map_eq_nil_iff.mp (List.cons.inj e).2
  subst h1 h2
  exact⟨u,rfl,by obtain⟨v,ws,e',hu,_⟩:=repL_cons_inv rk;cases e';exact hu⟩
theorem fn_html_init (w:Int) (dd:Addr):FnC g (d+2) [dd] [(dd,.dict [])] (.ref 44) [instAV 113 dd] [(n_wrapcolumn,.int w)] (fun r ω'=>r=.none∧ω'=[(dd,.dict [(n_u_charjunk,.ref 29),(n_u_linejunk,.none),(n_u_wrapcolumn,.int w),(n_u_tabsize,.int 8)])]):=by
 refine FnC.body (o:=Mine.Internal.hd.zo_77 g.w.params) (avs:=[instAV 113 dd,.int 8,.int w,.none,.ref 29]) (ps:=[n_self,n_tabsize,n_wrapcolumn,n_linejunk,n_charjunk]) (by kernel_rfl) rfl rfl {} rfl (by decide) (fun Φ Ψ s vs ks hp ra e rk=>?_) (by kernel_rfl) (by simp) (Nat.succ_pos d) fun A env Φ B r=>?_
 ·refine repL_cons_elim ra fun v ws hv hw=>?_
  have:=repL_nil_inv hw
  subst this
  obtain⟨u,rfl,hu⟩:=kw_one e rk
  ·have ho:=hp.getΦ (hp.k 37 (Mine.Internal.hd.zo_70 g.w.params) (by kernel_rfl))
   refine⟨[(n_self,v),(n_tabsize,.int 8 231),(n_wrapcolumn,u),(n_linejunk,.none),(n_charjunk,.ref 29)],.of_defaults (T:=37) rfl ho rfl rfl rfl,rfl,repL_cons hv (repL_cons rep_int (repL_cons hu (repL_cons rep_none (repL_cons rep_ref repL_nil))))⟩
 ·refine Bk.setE (C:=113) (dd:=dd) r (EvX.of (Ev.name rfl)) (by kernel_rfl) (fs:=[]) (Nat.le_of_ble_eq_true rfl) lk_eq (mA) (Ev.name rfl) ?_
  refine Bk.setE (C:=113) (dd:=dd) r (EvX.of (Ev.name rfl)) (by kernel_rfl) (fs:=[(n_u_tabsize,.int 8)]) (Nat.le_of_ble_eq_true rfl) lk_eq (mA) (Ev.name rfl) ?_
  refine Bk.setE (C:=113) (dd:=dd) r (EvX.of (Ev.name rfl)) (by kernel_rfl) (fs:=[(n_u_wrapcolumn,.int w),(n_u_tabsize,.int 8)]) (Nat.le_of_ble_eq_true rfl) lk_eq (mA) (Ev.name rfl) ?_
  refine Bk.setE (C:=113) (dd:=dd) r (EvX.of (Ev.name rfl)) (by kernel_rfl) (fs:=[(n_u_linejunk,.none),(n_u_wrapcolumn,.int w),(n_u_tabsize,.int 8)]) (Nat.le_of_ble_eq_true rfl) lk_eq (mA) (Ev.name rfl) ?_
  refine Bk.nil (FQ.none (ω':=[(dd,.dict [(n_u_charjunk,.ref 29),(n_u_linejunk,.none),(n_u_wrapcolumn,.int w),(n_u_tabsize,.int 8)])]) ⟨rfl,rfl⟩ (fun b ov q=>?_)).2
  rcases lkc q with ⟨rfl,rfl⟩ | ⟨q1,q⟩
  ·exact⟨lk_eq,.inr (mA)⟩
  ·simp at q
theorem fn_html (w:Int):Fn g (d+3) ω (.ref 113) [] [(n_wrapcolumn,.int w)] (htmlAV w):=
 FnM.freezeI (FnC.fnM (FnC.make (P:=fun dd ω'=>ω'=[(dd,.dict [(n_u_charjunk,.ref 29),(n_u_linejunk,.none),(n_u_wrapcolumn,.int w),(n_u_tabsize,.int 8)])]) (fI:=44) (by kernel_rfl) (Nat.succ_pos _) (fun dd=>fn_html_init w dd)))
noncomputable def entryFs (u l:AV):List (Str × AV):=[(n_req_rate,.none),(n_delay,.none),(n_rulelines,l),(n_useragents,u)]
noncomputable def EntryO (dd:Addr) (ω':Ow):Prop:=∀ X:Ow→Prop,(∀ u l,u≠dd→l≠dd→l≠u→X [(dd,.dict (entryFs (.ref u) (.ref l))),(u,.lst []),(l,.lst [])])→X ω'
theorem EntryO.elim {dd:Addr} {X:Ow→Prop} (k:∀ u l,u≠dd→l≠dd→l≠u→X [(dd,.dict (entryFs (.ref u) (.ref l))),(u,.lst []),(l,.lst [])]) (ω':Ow) (h:EntryO dd ω'):X ω':=h X k
theorem fn_entry_init (dd:Addr):FnC g (d+2) [dd] [(dd,.dict [])] (.ref 327) [instAV 351 dd] [] (fun r ω'=>r=.none∧EntryO dd ω'):=by
 refine FnC.body (o:=Mine.Internal.hd.zo_334 g.w.params) (by kernel_rfl) rfl rfl {} rfl (by decide) (bind_pos (ps:=[n_self]) (by exact fun _=>rfl) rfl) (by kernel_rfl) (by simp) (Nat.succ_pos d) fun A env Φ B r=>?_
 ·refine Bk.setI (C:=351) (dd:=dd) r (EvK.list EvL.nil (sml rfl)) (by kernel_rfl) (fs:=[]) (by decide) ?_
  refine NewL.elim fun u hu=>?_
  have hud:u≠dd:=lk_n1 hu
  refine⟨lk_s hud.symm lk_eq,mB,Ev.name rfl,?_⟩
  refine Bk.setI (C:=351) (dd:=dd) r (EvK.list EvL.nil (sml rfl)) (by kernel_rfl) (fs:=[(n_useragents,.ref u)]) (by simp) ?_
  refine NewL.elim fun l hl=>?_
  have hld:l≠dd:=lk_n1 hl
  have hlu:l≠u:=lk_n1 (lk_n2 hl)
  refine⟨lk_s hld.symm lk_eq,mC,Ev.name rfl,?_⟩
  refine Bk.setE (C:=351) (dd:=dd) r (EvX.of Ev.none) (by kernel_rfl) (fs:=[(n_rulelines,.ref l),(n_useragents,.ref u)]) (by simp) lk_eq mC (Ev.name rfl) ?_
  refine Bk.setE (C:=351) (dd:=dd) r (EvX.of Ev.none) (by kernel_rfl) (fs:=[(n_delay,.none),(n_rulelines,.ref l),(n_useragents,.ref u)]) (by simp) lk_eq mC (Ev.name rfl) ?_
  exact Bk.nil (FQ.none (ω':=[(dd,.dict (entryFs (.ref u) (.ref l))),(u,.lst []),(l,.lst [])]) ⟨rfl,fun X k=>k u l hud hld hlu⟩ (OwnIn.fin ⟨⟨lk_eq,mC⟩,⟨lk_s hud (lk_s hud (lk_s hud (lk_s hlu.symm (lk_s hud lk_eq)))),mB⟩,⟨lk_s hld (lk_s hld (lk_s hld lk_eq)),mA⟩,trivial⟩)).2
theorem gl_Entry {w:World}:globK w ("Entry":Str)=some (some (.ref 351)):=by kernel_rfl
noncomputable def RecO (agents:List AV) (av:AV) (ω':Ow):Prop:=∀ X:AV→Ow→Prop,(∀ b,X (.obj 351 (entryFs (.lst agents) (.ref b))) [(b,.lst [])])→X av ω'
theorem MadeK.elimR {σ:Sig} {agents:List AV} {X:AV→Sig→Prop} (k:∀ b,X (.obj 351 (entryFs (.lst agents) (.ref b))) (σ.ow ((b,.lst [])::σ.own) (b::σ.mt))) (av:AV) (σ':Sig) (h:MadeK σ (RecO agents) av σ'):X av σ':=
 h (X av) fun _ p _=>p (fun av ω'=>X av (σ.ow (ω'++σ.own) (ω'.map (·.1)++σ.mt))) k
theorem fn_law_record (agents:List AV) (hs:small agents.length):FnC g (d+4) [] [] (.ref 390) [.lst agents] [] (RecO agents):=by
 refine FnC.body (o:=Mine.Internal.hd.zo_395 g.w.params) (by kernel_rfl) rfl rfl {} rfl (by decide) (bind_pos (ps:=[n_agents]) (by exact fun _=>rfl) rfl) (by kernel_rfl) (by decide) (Nat.succ_pos _) fun A env Φ B r=>?_
 ·refine Bk.assignK r (EvK.made (Ev.glob (av:=.raw (.ref 351)) rfl gl_Entry (fun _=>rep_raw)) (Keep.k (by kernel_rfl)) (by exact EvL.nil) (FnC.make (fI:=327) (by kernel_rfl) (Nat.succ_pos _) (fun dd=>fn_entry_init dd)).fnM) ?_
  refine MadeK.elim fun dd=>EntryO.elim fun u l hud hld hlu hnew=>⟨rfl,?_⟩
  have lu:∀ t:Ow,List.lookup u ((dd,.dict (entryFs (.ref u) (.ref l)))::(u,.lst [])::t)=some (.lst []):=fun t=>lk_s hud lk_eq
  refine Bk.expr r (EvX.meth (EvX.of (Ev.attrI (Ev.name rfl) (C:=351) (dd:=dd) (fs:=entryFs (.ref u) (.ref l)) (av:=.ref u) lk_eq (by kernel_rfl) rfl rfl)) (GmA.list (xs:=[]) (lu _) PySem.F.slot_list_extend PySem.F.type_list_extend) (Keep.bi _) (by exact(EvL.cons (Ev.name rfl) EvL.nil)) (CallsTo.ownS (FnM.extend (xs:=[]) (by simpa using hs) (by simp -iota [small])) (lu _) (mB))) rfl ?_
  refine Bk.ret r (Ev.name rfl) fun Φ' v s l' y rp=>?_
  refine y.freezeS (a:=u) (xs:=agents) [(dd,.dict (entryFs (.ref u) (.ref l))),(l,.lst [])] [dd,l] lk_eq mB ⟨⟨lk_s hud.symm lk_eq,mA⟩,⟨lk_s hlu (lk_s hld (lk_s hlu lk_eq)),mC⟩,trivial⟩ (lk_s hud (lk_s hlu.symm rfl)) rfl fun Φ₁ l₁ r₁ y₁=>?_
  refine y₁.freezeIS (dd:=dd) (fs:=entryFs (.ref u) (.ref l)) [(l,.lst [])] [l] lk_eq mA ⟨⟨lk_s hld lk_eq,mB⟩,trivial⟩ (lk_s hld.symm rfl) rfl fun Φ₂ l₂ r₂ y₂=>?_
  have r₃:=r₂ 351 v (Rep.mono l₁ _ _ rp)
  have r₄:Rep Φ₂ (.obj 351 (entryFs (.lst agents) (.ref l))) v:=rep_obj_map r₃ rfl fun get h=>by
   unfold entryFs at h ⊢
   refine box fun bX bk=>?_
   obtain⟨h1,h2,h3,⟨w,h4,h5⟩,h6⟩:=h
   refine bk ?_
   clear bk bX
   replace h5:_=_:=h5
   exact⟨h1,h2,h3,⟨w,h4,by rw[h5];exact Rep.mono l₂ _ _ r₁⟩,h6⟩
  exact FQ.ret (ω':=[(l,.lst [])]) y₂ ((l'.trans l₁).trans l₂) (PH.le.refl _) r₄ (fun X k=>k l) (OwnIn.fin ⟨⟨lk_eq,mA⟩,trivial⟩)
end
section
open PySem.Builtin PySem.Builtin.Str
section
variable {g:Glob} {d:Nat} {ω:Ow}
theorem ok_star:PyData.strOk ⟨#[42]⟩=true:=by simp[PyData.strOk]
noncomputable def agentIn (u a:Str):Bool:=!(a==(⟨#[42]⟩:Str))&&Txt.contains u (Txt.lower a)
noncomputable def appliesTo (ags:List Str) (u:Str):Bool:=ags.any (agentIn u)
theorem fn_applies_to (ags:List Str) (rl:AV) (u s0:Str) (more:List Str) (hu:small u.length) (hp:(partsBetween u (occurrences u ⟨#[47]⟩ 0 u.length (u.length+1)) 1).length≤1000000) (hsp:Txt.split u ⟨#[47]⟩=s0::more) (hm:small (s0::more).length) (hl:tooLong (Txt.lower s0).length=false)
  (ha:∀ a∈ags,PyData.strOk a=true∧tooLong (Txt.lower a).length=false) (hpl:small ags.length) :
  Fn g (d+2) ω (.ref 341) [.obj 351 (entryFs (strL ags) rl),.str u] [] (.bool (appliesTo ags (Txt.lower s0))):=by
 refine Fn.any (FnM.fn (FnM.body (o:=Mine.Internal.hd.zo_348 g.w.params) (by kernel_rfl) rfl rfl {} rfl (by decide) (bind_pos (ps:=[n_self,n_useragent]) (by exact fun _ _=>rfl) rfl) (by kernel_rfl) noM (Nat.succ_pos d) fun A env Φ B r=>?_))
 ·refine Bk.ite r (Ts.cmp (Ev.name rfl) Ev.none (Op2.isNone (b:=false) (fun Φ v rp=>by obtain⟨t,rfl⟩:=str_inv rp;rfl))) (fun h=>nomatch h) (fun _=>Bk.go ?_)
  refine Bk.assign r (Ev.strMeth (x:=s0) (Ev.item (xs:=(s0::more).map AV.str) (c:=.str s0) (Ev.strMeth (Ev.name rfl) PySem.F.slot_str_split PySem.F.type_str_split (by exact(EvL.cons (Ev.str _) EvL.nil)) ?_) (Ev.int 0) (by lia) rfl (by simpa using hm)) PySem.F.slot_str_lower PySem.F.type_str_lower (by exact EvL.nil) (Fn.lower hl)) rfl ?_
  ·rw[←hsp]
   exact Fn.split rfl hu (Nat.le_trans hp (by rw[sizeLine_eq];lia))
  ·obtain⟨S,hS⟩:∃ S:Sig,S=⟨[(n_useragent,.str (Txt.lower s0)),(n_self,.obj 351 (entryFs (strL ags) rl))],[],[],[]⟩:=⟨_,rfl⟩
   refine Bk.know S ?_ (by rw[hS];exact⟨rfl,rfl,trivial⟩) (by rw[hS];rfl) (by rw[hS];rfl) (by rw[hS];rfl)
   refine Bk.for r (xs:=ags.map AV.str) (EvIt.of (Ev.attr (fs:=entryFs (strL ags) rl) (av:=strL ags) (Ev.name (by rw[hS];rfl)) (by kernel_rfl) rfl rfl) IterV.lst) (fun i σ=>σ=S∧(ags.take i).any (agentIn (Txt.lower s0))=false) (fun _=>False) ⟨rfl,rfl⟩ ?_ ?_ (fun _ h=>h.elim)
   ·rintro i x σ B' Φ₁ hx ⟨rfl,hI⟩ lb lΦ
    obtain⟨a,haa,rfl⟩:∃ a,ags[i]?=some a∧AV.str a=x:=by
     rw[List.getElem?_map,Option.map_eq_some_iff] at hx;exact hx
    obtain⟨h1,h2⟩:=ha a (List.mem_of_getElem? haa)
    have nxt:agentIn (Txt.lower s0) a=false→(ags.take (i+1)).any (agentIn (Txt.lower s0))=false:=fun h=>by
     rw[List.take_add_one,haa,List.any_append,hI];simp[h]
    refine⟨_,Tgt.name (by rw[hS];rfl),?_⟩
    rw[hS]
    refine Bk.ite r (Ts.cmp (Ev.name rfl) (Ev.str _) (Op2.ne (PlainD.str (n:=0) h1).plain (PlainD.str (n:=0) ok_star).plain)) (fun hb=>?_) (fun hb=>?_)
    ·refine Bk.assign r (Ev.strMeth (Ev.name rfl) PySem.F.slot_str_lower PySem.F.type_str_lower (by exact EvL.nil) (Fn.lower h2)) rfl ?_
     refine Bk.ite r (by exact(Ts.cmp (Ev.name rfl) (Ev.name rfl) Op2.ins)) (fun hb2=>?_) (fun hb2=>?_)
     ·have hin:agentIn (Txt.lower s0) a=true:=by
       unfold agentIn
       have hb':(!(a==(⟨#[42]⟩:Str)))=true:=hb
       rw[hb',hb2];rfl
      have hall:appliesTo ags (Txt.lower s0)=true:=by
       unfold appliesTo
       exact List.any_eq_true.mpr ⟨a,List.mem_of_getElem? haa,hin⟩
      rw[hall]
      refine Bk.ret r (Ev.bool true) fun Φ v s l y rp=>?_
      exact FQ.ret (ω':=[]) y (lΦ.trans l) lb rp rfl noO
     ·refine Bk.go (Bk.go (Bk.nextS σ ⟨hS,nxt ?_⟩ (by rw[hS];exact⟨rfl,rfl,trivial⟩) (by rw[hS];rfl) (by rw[hS];rfl) (by rw[hS];rfl)))
      unfold agentIn
      rw[hb2,Bool.and_false]
    ·refine Bk.go (Bk.nextS σ ⟨hS,nxt ?_⟩ (by rw[hS];exact⟨rfl,rfl,trivial⟩) (by rw[hS];rfl) (by rw[hS];rfl) (by rw[hS];rfl))
     unfold agentIn
     have hb':(!(a==(⟨#[42]⟩:Str)))=false:=hb
     rw[hb',Bool.false_and]
   ·rintro σ ⟨rfl,hI⟩
    rw[List.length_map,List.take_of_length_le (Nat.le_refl _)] at hI
    refine Bk.go ?_
    have hall:appliesTo ags (Txt.lower s0)=false:=hI
    rw[hall]
    exact Bk.retQ r (Ev.bool false) rfl
end
end
section
variable {g:Glob} {d:Nat} {ω:Ow}
theorem lh_none {Φ:PH} {v:Value} (h:Rep Φ .none v):(v==.none)=true:=by replace h:_=_:=h;subst h;rfl
theorem fn_merge (a1 a2:List Str) (r1 r2:List AV) (h1:a1.length≤1000) (h2:a2.length≤1000) (h3:r1.length+r2.length≤1000) :
  Fn g (d+4) ω (.ref 362) [.obj 351 (entryFs (strL a1) (.lst r1)),.obj 351 (entryFs (strL a2) (.lst r2))] [] (.obj 351 (entryFs (strL (a1.filter (fun k=>decide (k∈a2)))) (.lst (r1++r2)))):=by
 refine Fn.any (FnM.fn (FnC.fnM (FnC.body (o:=Mine.Internal.hd.zo_367 g.w.params) (by kernel_rfl) rfl rfl {} rfl (by decide) (bind_pos (ps:=[⟨#[101,49]⟩,⟨#[101,50]⟩]) (by exact fun _ _=>rfl) rfl) (by kernel_rfl) noM (Nat.succ_pos _) fun A env Φ B r=>?_)))
 ·refine Bk.assignK r (EvK.made (Ev.glob (av:=.raw (.ref 351)) rfl gl_Entry (fun _=>rep_raw)) (Keep.k (by kernel_rfl)) (by exact EvL.nil) (FnC.make (fI:=327) (by kernel_rfl) (Nat.succ_pos _) (fun dd=>fn_entry_init dd)).fnM) ?_
  refine MadeK.elim fun dd=>EntryO.elim fun u l hud hld hlu hnew=>⟨rfl,?_⟩
  refine Bk.setE (C:=351) (dd:=dd) (fs:=entryFs (.ref u) (.ref l)) r (EvX.of (Ev.listFilter (xs:=a2) (ys:=a1) (Ev.bi rfl (by kernel_rfl) rfl) (Ev.bi rfl (by kernel_rfl) rfl)
   (Ev.boundM (Ev.call (Ev.bi rfl (by kernel_rfl) rfl) (Keep.ty _) (EvL.cons (Ev.attr (C:=351) (fs:=entryFs (strL a2) (.lst r2)) (av:=strL a2) (Ev.name rfl) (by kernel_rfl) rfl rfl) EvL.nil) (Fn.setOf (by unfold scanBound;(clear hnew hlu hld hud r h3 h1;lia)))))
   (Ev.attr (C:=351) (fs:=entryFs (strL a1) (.lst r1)) (av:=strL a1) (Ev.name rfl) (by kernel_rfl) rfl rfl) (by unfold small;(clear hnew hlu hld hud r h3 h2;lia)))) (by kernel_rfl) (by simp[entryFs]) lk_eq mA (Ev.name rfl) ?_
  refine Bk.setE (C:=351) (dd:=dd) (fs:=[(n_useragents,strL (a1.filter (fun k=>decide (k∈a2)))),(n_req_rate,.none),(n_delay,.none),(n_rulelines,.ref l)]) r
   (EvX.of (Ev.bin (c:=.lst (r1++r2)) (Ev.attr (C:=351) (fs:=entryFs (strL a1) (.lst r1)) (av:=.lst r1) (Ev.name rfl) (by kernel_rfl) rfl rfl) (Ev.attr (C:=351) (fs:=entryFs (strL a2) (.lst r2)) (av:=.lst r2) (Ev.name rfl) (by kernel_rfl) rfl rfl) (Op2.addL (by unfold small;(clear hnew hlu hld hud r h2 h1;lia))))) (by kernel_rfl) (by simp) lk_eq mA (Ev.name rfl) ?_
  refine Bk.setE (C:=351) (dd:=dd) (fs:=[(n_rulelines,.lst (r1++r2)),(n_useragents,strL (a1.filter (fun k=>decide (k∈a2)))),(n_req_rate,.none),(n_delay,.none)]) r
   (EvX.of (Ev.ite (b:=true) (a:=.none) (Ts.cmp (Ev.attr (C:=351) (fs:=entryFs (strL a2) (.lst r2)) (av:=.none) (Ev.name rfl) (by kernel_rfl) rfl rfl) Ev.none (Op2.isNone (b:=true) fun Φ v h=>lh_none h)) (fun _=>Ev.attr (C:=351) (fs:=entryFs (strL a1) (.lst r1)) (av:=.none) (Ev.name rfl) (by kernel_rfl) rfl rfl) (fun h=>nomatch h))) (by kernel_rfl) (by simp) lk_eq mA (Ev.name rfl) ?_
  refine Bk.setE (C:=351) (dd:=dd) (fs:=[(n_delay,.none),(n_rulelines,.lst (r1++r2)),(n_useragents,strL (a1.filter (fun k=>decide (k∈a2)))),(n_req_rate,.none)]) r
   (EvX.of (Ev.ite (b:=true) (a:=.none) (Ts.cmp (Ev.attr (C:=351) (fs:=entryFs (strL a2) (.lst r2)) (av:=.none) (Ev.name rfl) (by kernel_rfl) rfl rfl) Ev.none (Op2.isNone (b:=true) fun Φ v h=>lh_none h)) (fun _=>Ev.attr (C:=351) (fs:=entryFs (strL a1) (.lst r1)) (av:=.none) (Ev.name rfl) (by kernel_rfl) rfl rfl) (fun h=>nomatch h))) (by kernel_rfl) (by simp) lk_eq mA (Ev.name rfl) ?_
  refine Bk.ret r (Ev.name rfl) fun Φ' v s l' y rp=>?_
  refine y.freezeIS (dd:=dd) (fs:=entryFs (strL (a1.filter (fun k=>decide (k∈a2)))) (.lst (r1++r2))) [] [] lk_eq mA trivial rfl rfl fun Φ₂ l₂ r₂ y₂=>?_
  exact FQ.ret (ω':=[]) y₂ (l'.trans l₂) (PH.le.refl _) (r₂ 351 v rp) rfl noO
noncomputable def pairLen (p:Str × Str):Nat:=p.1.length+p.2.length
noncomputable def accOwn (a dd:Addr) (pairs:List (Str × Str)) (ω:Ow):Prop:=ω.lookup a=some (.sub 309 dd (pairs.map pairAV))∧ω.lookup dd=some (.dict [(n_u_initial_size,.int 0)])
theorem accIter (w:World):OwnedBy w 309 "list.__iter__" "list" "__iter__":=⟨by kernel_rfl,.inl (by decide +kernel),by kernel_rfl,by decide +kernel⟩
theorem accIterF (w:World):findIn (KB w) (.ref 309) "__iter__"=some (some (.builtin "list.__iter__")):=by kernel_rfl
theorem elt_len {pairs:List (Str × Str)} (hs:∀ p∈pairs,small p.1.length∧small p.2.length) {xa xb:Str} {p0 p1 p2 p3 q1 q2 q3:Pos} {cenv:Env} {A':Around} {E':Value→Shared→Prop} {i:Nat} {s₂:Shared} {m₂:Str→Option Value} {p:Str × Str} {t u:Tok} (X:GenX g cenv m₂ s₂) (hl:cenv.kindOf ("len":Str)=some .globalImplicit) (ha:cenv.kindOf xa=some .local) (hb:cenv.kindOf xb=some .local) (hp:pairs[i]?=some p)
  (h1:m₂ xa=some (.str p.1 t)) (h2:m₂ xb=some (.str p.2 u)) (hda:(xa==("__debug__":Str))=false) (hdb:(xb==("__debug__":Str))=false) :
  wpAny (model PR g.w) A' (eval (.BinOp (.Call (.Name ("len":Str) p0) [.Name xa p1] [] q1) .Add (.Call (.Name ("len":Str) p2) [.Name xb p3] [] q2) q3) cenv) (fun v s₃=>(∃ p,pairs[i]?=some p∧∃ t,v=.int (pairLen p) t)∧Keeps s₂ s₃) E' s₂:=by
 obtain⟨z1,z2⟩:=hs p (List.mem_of_getElem? hp)
 have hg:globK g.w ("len":Str)=some Option.none:=by kernel_rfl
 refine wpAny_BinOp (X.len hl hg ha h1 z1 ?_ hda)
 refine(X.tok _).len hl hg hb h2 z2 ?_ hdb
 exact wpAny_add_int ⟨⟨p,hp,_,by exact rfl⟩,⟨s₂.heap,_,rfl,fun _ _ e=>e⟩⟩
theorem fn_acc_len (a dd:Addr) (pairs:List (Str × Str)) (ho:accOwn a dd pairs ω) (hs:∀ p∈pairs,small p.1.length∧small p.2.length) :
  Fn g (d+2) ω (.ref 276) [.ref a] [] (.int (preSum (fun i=>((pairs[i]?.map pairLen).getD 0:Nat)) pairs.length)):=by
 refine FnM.fn (FnC.fnM (FnC.bodyE (o:=Mine.Internal.hd.zo_292 g.w.params) (by kernel_rfl) rfl rfl {} rfl (by decide) (bind_pos (ps:=[n_self]) (by exact fun _=>rfl) rfl) (by kernel_rfl) (fun _ h=>nomatch h) (Nat.succ_pos d) fun A env Φ B r he=>?_))
 ·have hcode:env.code=.ref 275:=by obtain⟨L,cells,rfl⟩:=he;rfl
  have hq:tabRow 271=((231:Int),(19:Int),env.qual++"<genexpr>"):=by obtain⟨L,cells,rfl⟩:=he;kernel_rfl
  refine Bk.retW (av:=.int (preSum (fun i=>((pairs[i]?.map pairLen).getD 0:Nat)) pairs.length)) (fun Φ Ψ s pr=>?_) (fun Φ v s l y rp=>FQ.ret (ω':=ω) y l (PH.le.refl _) rp rfl fun b ov q=>by exact⟨q,.inl (by rw[q];rfl)⟩)
  refine sum_W (F:=fun i v=>∃ p,pairs[i]?=some p∧∃ t,v=.int (pairLen p) t) r pr (Ev.bi rfl (by kernel_rfl) rfl) (fun Φ s pr=>?_) (a:=a) (C:=309) (dd:=dd) (xs:=pairs.map pairAV) (fs:=[(n_u_initial_size,.int 0)]) rfl ho.1 ho.2 (by kernel_rfl) rfl _ (fun i v q0=>q0.elim fun p q0=>q0.elim fun h1 q0=>q0.elim fun t h2=>⟨t,by rw[h2,h1];rfl⟩) rfl rfl rfl
  refine gen_make (P:=271) (c:=275) r pr (by decide) hcode (by kernel_rfl) hq rfl (by intro x h;simp -iota at h) (by decide) rfl rfl rfl (by decide) rfl (Ev.name rfl) ho.1 (accIter g.w) (accIterF g.w) (fun cenv A' E' i s₂ m₂ p t u h1 h2 h3 h4 h5 h6 h7 h8 h9 h10=>?_)
  exact elt_len hs ⟨by rw[h1],h2,h3,h6,h9,h10⟩ (by unfold Env.kindOf;rw[h1];rfl) (by unfold Env.kindOf;rw[h1];rfl) (by unfold Env.kindOf;rw[h1];rfl) h5 h7 h8 (by decide) (by decide)
end
section
variable {g:Glob} {d:Nat}
noncomputable def accL (a dd:Addr) (pairs:List (Str × Str)):Ow:=[(a,.sub 309 dd (pairs.map pairAV)),(dd,.dict [(n_u_initial_size,.int 0)])]
theorem accOwn_of {a dd:Addr} {pairs:List (Str × Str)} (h:dd≠a):accOwn a dd pairs (accL a dd pairs):=⟨lk_eq,by unfold accL;rw[lk_ne h,lk_eq]⟩
theorem ownApp (w:World):OwnedBy w 309 "list.append" "list" "append":=⟨by kernel_rfl,.inr (by decide +kernel),by kernel_rfl,by decide +kernel⟩
theorem fnC_acc_push (a dd:Addr) (pairs:List (Str × Str)) (x y:Str) (hne:dd≠a) (hs:small pairs.length) :
  FnC g (d+2) [a] (accL a dd pairs) (.ref 253) [.ref a,.str x,.str y] [] (fun r ω'=>r=.none∧ω'=accL a dd (pairs++[(x,y)])):=by
 refine FnC.body (o:=Mine.Internal.hd.zo_269 g.w.params) (by kernel_rfl) rfl rfl {} rfl (by decide) (bind_pos (ps:=[n_self,n_fws,n_string]) (by exact fun _ _ _=>rfl) rfl) (by kernel_rfl) (by simp -iota [accL]) (Nat.succ_pos d) fun A env Φ B r=>?_
 ·refine Bk.expr r (EvX.meth (EvX.of (Ev.name rfl)) (GmA.subB (dd:=dd) (C:=309) (fs:=[(n_u_initial_size,.int 0)]) (accOwn_of hne).1 (accOwn_of hne).2 (by kernel_rfl) PySem.F.type_list_append (.inl rfl) (by decide)) (Keep.bi _) (EvL.cons (Ev.tup (avs:=[.str x,.str y]) (by exact(EvL.cons (Ev.name rfl) (EvL.cons (Ev.name rfl) EvL.nil))) (sml rfl)) EvL.nil) (CallsTo.ownS (FnM.appendS (dd:=dd) (ownApp g.w) (by simpa using hs)) (accOwn_of hne).1 (mA))) rfl ?_
  refine Bk.nil (FQ.none (ω':=accL a dd (pairs++[(x,y)])) ⟨rfl,rfl⟩ (fun b ov q=>?_)).2
  unfold accL at q
  rcases lkc q with ⟨rfl,rfl⟩ | ⟨q1,q⟩
  ·exact⟨by rw[lk_eq,List.map_append];rfl,.inr (mA)⟩
  ·refine⟨by rw[lk_ne q1];show List.lookup b (accL a dd pairs)=_;unfold accL;rw[lk_ne q1];exact q,.inl ?_⟩
   unfold accL
   rw[lk_ne q1,q];rfl
theorem fn_acc_push (a dd:Addr) (pairs:List (Str × Str)) (x y:Str) (hne:dd≠a) (hs:small pairs.length) :
  FnM g (d+2) [a] (accL a dd pairs) (.ref 253) [.ref a,.str x,.str y] [] (fun r ω'=>r=.none∧ω'=accL a dd (pairs++[(x,y)])):=(fnC_acc_push a dd pairs x y hne hs).fnM
end
section
variable {g:Glob} {d:Nat} {sc:Scope} {σ:Sig} {env:Env} {A:Around} {Φ₀ B:PH} {rest:List Stmt} {Q:Flow→Shared→Prop} {ω:Ow}
noncomputable def vS:Value→Str
 | .str x _=>x
 | _=>⟨#[]⟩
noncomputable def codeFileB (K:Frag) (cc:Addr):Bool:=(K.lookup cc).any fun o=>isFs o.data&&((dFs o.data)[2]?).any fun v=>isS v&&(PR.main.file:Str)==vS v
theorem codeFile_at {w:World} {cc:Addr} (h:codeFileB (KB w) cc=true):∃ oc vs file tf,(KB w).lookup cc=some oc∧oc.data=.fields vs∧vs[2]?=some (.str file tf)∧((PR.main.file:Str)==file)=true:=by
 obtain⟨o,ho,h3⟩:=Option.any_eq_true _ _ |>.mp h
 obtain⟨h4,h5⟩:=Bool.and_eq_true_iff.mp h3
 obtain⟨v,hv,h6⟩:=Option.any_eq_true _ _ |>.mp h5
 obtain⟨h7,h8⟩:=Bool.and_eq_true_iff.mp h6
 obtain⟨n,t,e⟩:=isS_eq h7
 rw[e] at hv h8
 exact⟨o,_,n,t,ho,isFs_eq h4,hv,h8⟩
theorem cls_at {w:World} {C:Addr} {cd:ClassData} (h:clsIn (KB w) C=some cd):∃ oC cd,(KB w).lookup C=some oC∧oC.data=.cls cd:=by
 unfold clsIn at h
 split at h
 ·rename_i c d cd' sl q;exact⟨_,_,q,rfl⟩
 ·cases h
theorem SupE.of {fa cc:Addr} {of:Obj} {fd:FuncData} {ar:Arg} {qual:Str} (he:∃ L cells,env=newEnv sc L mainGlobals cells qual (some fa) (.ref cc) none builtinsNs) (hks:kindIn sc ("super":Str)=some .globalImplicit) (hkc:kindIn sc ("__class__":Str)=some .free)
  (hf:(KB g.w).lookup fa=some of) (hfd:of.data=.func fd) (hh:(fd.params.posonlyargs++fd.params.args).head?=some ar) (hB:codeFileB (KB g.w) cc=true) {x:Str} (hx:ar.arg=x):SupE g sc env 309 x:=by
 refine box fun bX bk=>?_
 obtain⟨L,cells,rfl⟩:=he
 refine bk ?_
 clear bk bX
 refine box fun bX bk=>?_
 obtain⟨oc,vs,file,tf,z1,z2,z3,z4⟩:=codeFile_at hB
 obtain⟨cd,hcd,_⟩:=acc_mro g.w
 refine bk ?_
 clear bk bX
 exact⟨hks,hkc,⟨fa,of,fd,ar,rfl,hf,hfd,hh,hx⟩,⟨cc,oc,vs,file,tf,rfl,z1,z2,z3,z4⟩,by kernel_rfl,by kernel_rfl,cls_at hcd,by kernel_rfl⟩
theorem plain_llen:plainId "list.__len__"=true:=by decide +kernel
theorem plain_lpop:plainId "list.pop"=true:=by decide +kernel
theorem plain_linit:plainId "list.__init__"=true:=by decide +kernel
theorem entry_llen:entryFor table "list.__len__"=some Builtin.«list.__len__»:=entryFor_of_tree (by kernel_rfl)
theorem entry_linit:entryFor table "list.__init__"=some Builtin.«list.__init__»:=entryFor_of_tree (by kernel_rfl)
theorem args_llen (a:Value):argsOk "list.__len__" ⟨[a],[]⟩:=by unfold argsOk;kernel_rfl
theorem args_linit (a:Value):argsOk "list.__init__" ⟨[a],[]⟩:=by unfold argsOk;kernel_rfl
theorem fn_part_count {a dd:Addr} {xs:List AV} (ha:ω.lookup a=some (.sub 309 dd xs)) (hs:small xs.length):Fn g (d+2) ω (.ref 306) [.ref a] [] (.int xs.length):=by
 refine FnM.fn (FnC.fnM (FnC.bodySup (C:=309) (cc:=233) (o:=Mine.Internal.hd.zo_322 g.w.params) (by kernel_rfl) rfl rfl {} rfl (by decide) rfl (oc:=Mine.Internal.hd.zo_253 g.w.params) (by kernel_rfl) rfl (bind_pos (ps:=[n_self]) (by exact fun _=>rfl) rfl) (by kernel_rfl) (fun _ h=>nomatch h) (Nat.succ_pos d) fun A env Φ B r he=>?_))
 ·refine BkAt.retAt fun Φ s y=>?_
  refine sup_at (C:=309) (dd:=dd) (xs:=xs) (x:=n_self) r (SupE.of (of:=Mine.Internal.hd.zo_322 g.w.params) he rfl rfl (by kernel_rfl) rfl rfl (by kernel_rfl) rfl) (supLen g.w) (.inr rfl) y rfl rfl ha (fun A s Q E _ _ q=>check_bslot kind_llen (args_llen _) q) plain_llen entry_llen (fun A Φ' s' hA l y'=>?_)
  refine(sub_len hA y' ha hs).mono fun fin s'' q0=>q0.casesOn fun v e Φ'' l'' y'' rp=>⟨v,e,Φ'',_,_,l.trans l'',y'',rp,fun Φ₁ v s l y rp=>FQ.ret (ω':=ω) y l (PH.le.refl _) rp rfl fun b ov q=>by exact⟨q,.inl (by rw[q];rfl)⟩⟩
end
section
open PySem.Builtin PySem.Builtin.Str
section
variable {g:Glob} {d:Nat} {ω:Ow}
theorem gl_EMPTY {w:World}:∃ t,globK w ("EMPTYSTRING":Str)=some (some (.str ⟨#[]⟩ t)):=⟨_,by rfl⟩
noncomputable def pairTx (p:Str × Str):Str:=Txt.join ⟨#[]⟩ [p.1,p.2]
noncomputable def pairOk (p:Str × Str):Prop:=p.1.length+p.2.length≤100
theorem txJoin_eq (sep:Str) (l:List Str):Txt.join sep l=Str.join sep l:=by first | exact StrLaws.glued_eq_join sep l | exact glued_eq_join sep l | rfl
theorem pairTx_eq (p:Str × Str):pairTx p=p.1++p.2:=by
 unfold pairTx
 rw[txJoin_eq]
 show p.1++⟨#[]⟩++p.2=_
 have:p.1++(⟨#[]⟩:Str)=p.1:=by cases p.1 with | mk c=>show(⟨c++#[]⟩:Str)=_;simp
 rw[this]
theorem range_map_get {α β:Type} (l:List α) (f:α→β) (b:β):(List.range l.length).map (fun i=>(l[i]?.map f).getD b)=l.map f:=by
 refine List.ext_getElem (by simp) fun i h1 h2=>?_
 have hi:i<l.length:=by simpa using h1
 simp -iota [List.getElem?_eq_getElem hi]
theorem sum_pairs {l:List (Str × Str)} (hs:∀ p∈l,pairOk p):((l.map pairTx).map (·.length)).sum≤l.length*100:=by
 induction l with
 | nil=>simp
 | cons p r ih=>
  have h1:=hs p List.mem_cons_self
  have h2:=ih fun q hq=>hs q (List.mem_cons_of_mem _ hq)
  unfold pairOk at h1
  simp -iota only[List.map_cons,List.sum_cons,List.length_cons,pairTx_eq,len_app] at h2 ⊢
  lia
theorem elt_join {pairs:List (Str × Str)} (hs:∀ p∈pairs,pairOk p) {xa xb:Str} {p0 p1 p2 q0 q1 q2:Pos} {kt:Nat} {cenv:Env} {A':Around} {E':Value→Shared→Prop} {i:Nat} {s₂:Shared} {m₂:Str→Option Value} {p:Str × Str} {t u:Tok} (X:GenX g cenv m₂ s₂) (hl:cenv.kindOf ("EMPTYSTRING":Str)=some .globalImplicit) (ha:cenv.kindOf xa=some .local) (hb:cenv.kindOf xb=some .local) (hp:pairs[i]?=some p)
  (h1:m₂ xa=some (.str p.1 t)) (h2:m₂ xb=some (.str p.2 u)) (hda:(xa==("__debug__":Str))=false) (hdb:(xb==("__debug__":Str))=false) (hline:(q0.endLine==q2.line)=true) :
  wpAny (model PR g.w) A' (eval (.Call (.Attribute (.Name ("EMPTYSTRING":Str) p0) ("join":Str) q0) [.Tuple [.Name xa p1,.Name xb p2] kt q1] [] q2) cenv) (fun v s₃=>(∃ p,pairs[i]?=some p∧∃ t,v=.str (pairTx p) t)∧Keeps s₂ s₃) E' s₂:=by
 have z:=hs p (List.mem_of_getElem? hp)
 obtain⟨t0,hg⟩:=gl_EMPTY (w:=g.w)
 have hbase:attributeBase (.Name ("EMPTYSTRING":Str) p0) ("join":Str) cenv (eval (.Name ("EMPTYSTRING":Str) p0) cenv)=eval (.Name ("EMPTYSTRING":Str) p0) cenv:=by rfl
 have he1:starEach [.Tuple [.Name xa p1,.Name xb p2] kt q1] cenv=(false,eval (.Tuple [.Name xa p1,.Name xb p2] kt q1) cenv)::starEach [] cenv:=by rfl
 have he2:starEach [.Name xa p1,.Name xb p2] cenv=(false,eval (.Name xa p1) cenv)::starEach [.Name xb p2] cenv:=by rfl
 have he3:starEach [.Name xb p2] cenv=(false,eval (.Name xb p2) cenv)::starEach [] cenv:=by rfl
 have hpos:methodCallPos true (.Name ("EMPTYSTRING":Str) p0) cenv q0 q2=pure q2:=by unfold methodCallPos;simp[hline]
 have hst:((backTo q2 (starEach [.Tuple [.Name xa p1,.Name xb p2] kt q1] cenv)).any (·.1))=false:=by rw[he1];rfl
 rw[arm_eval_Call,hbase]
 refine wpAny_bind (X.glob hl hg (wpAny_bind (wpAny_standAt ?_)))
 unfold methodCall
 have hform:methodCallForm (([.Tuple [.Name xa p1,.Name xb p2] kt q1]:List PySem.Expr).length+([]:List Keyword).length) (backTo q2 (starEach [.Tuple [.Name xa p1,.Name xb p2] kt q1] cenv)) (backToKw q2 (keywordEach [] cenv))=true:=by rfl
 rw[hform]
 refine wpAny_bind (wpAny_holding ?_)
 show wpAny _ _ (getMethod (.str ⟨#[]⟩ t0) "join" _) _ _ _
 refine PySem.GM.join ?_
 refine wpAny_bind (wpAny_of_eq hpos ?_)
 refine callWith_of (P:=fun h=>∃ k,(k=Keeper.frame∨k=Keeper.machine∨k=Keeper.boundFrame)∧Looks (model PR g.w) h (keeperOf (.builtin "str.join")) k) (by rw[hst];rfl) (fun h q=>q) ?_
 have go:wpAny (model PR g.w) A' (spliced (backTo q2 (starEach [.Tuple [.Name xa p1,.Name xb p2] kt q1] cenv))) (fun vs s'=>vs=[.ref s₂.heap.objs.size]∧s'={s₂ with heap:=s₂.heap.push {cls:=.type "tuple",data:=.seq #[.str p.1 t,.str p.2 u]}}) E' s₂:=by
  refine wpAny_items_cons (wpAny_Tuple ?_) he1
  refine wpAny_items_cons (X.name ha h1 ?_ hda) he2
  refine wpAny_items_cons (X.name hb h2 ?_ hdb) he3
  exact wpAny_items_nil ⟨by show 2≤sizeLine;rw[sizeLine_eq];lia,wpAny_items_nil ⟨rfl,rfl⟩⟩
 have fin:∀ s',s'={s₂ with heap:=s₂.heap.push {cls:=.type "tuple",data:=.seq #[.str p.1 t,.str p.2 u]}}→wpAny (model PR g.w) A' (call (.builtin "str.join") [.str ⟨#[]⟩ t0,.ref s₂.heap.objs.size]) (fun v s₃=>(∃ p,pairs[i]?=some p∧∃ t,v=.str (pairTx p) t)∧Keeps s₂ s₃) E' s':=fun s' e=>by
  subst e
  refine join_tupleW (ys:=[p.1,p.2]) ⟨_,Heap.get?_push_size _ rfl,rfl,_,rfl⟩ (by first | exact .cons (.cons .nil) | (constructor;constructor;constructor)) (by decide) ?_ (fun t' k=>⟨⟨p,hp,t',rfl⟩,_,k,rfl,fun b o e=>Heap.get?_push_of_some _ e⟩)
  unfold pairOk at z
  simp;lia
 cases hb':backTo q2 (starEach [.Tuple [.Name xa p1,.Name xb p2] kt q1] cenv) with
 | nil=>rw[he1] at hb';cases hb'
 | cons pp rest=>
  obtain⟨st,tt⟩:=pp
  rw[hb'] at hst go
  have hst':st=false:=by simp only[List.any_cons,Bool.or_eq_false_iff] at hst;exact hst.1
  subst hst'
  refine Calls.evalArgs_plain (wpAny_mono go (fun vs s' q0=>q0.casesOn fun e1 e2=>?_) fun _ _ e=>e)
  subst e1
  exact⟨⟨.machine,.inr (.inl rfl),Looks.now⟩,fin s' e2⟩
theorem fn_acc_str (a dd:Addr) (pairs:List (Str × Str)) (ho:accOwn a dd pairs ω) (hs:∀ p∈pairs,pairOk p) (hl:pairs.length≤1000) :
  Fn g (d+2) ω (.ref 283) [.ref a] [] (.str (Txt.join ⟨#[]⟩ (pairs.map pairTx))):=by
 rw[←range_map_get pairs pairTx ⟨#[]⟩]
 refine FnM.fn (FnC.fnM (FnC.bodyE (o:=Mine.Internal.hd.zo_299 g.w.params) (by kernel_rfl) rfl rfl {} rfl (by decide) (bind_pos (ps:=[n_self]) (by exact fun _=>rfl) rfl) (by kernel_rfl) (fun _ h=>nomatch h) (Nat.succ_pos d) fun A env Φ B r he=>?_))
 ·have hcode:env.code=.ref 282:=by obtain⟨L,cells,rfl⟩:=he;rfl
  have hq:tabRow 278=((234:Int),(32:Int),env.qual++"<genexpr>"):=by obtain⟨L,cells,rfl⟩:=he;kernel_rfl
  obtain⟨t0,hg⟩:=gl_EMPTY (w:=g.w)
  refine Bk.retW (fun Φ Ψ s pr=>?_) (fun Φ v s l y rp=>FQ.ret (ω':=ω) y l (PH.le.refl _) rp rfl fun b ov q=>by exact⟨q,.inl (by rw[q];rfl)⟩)
  refine join_W (sep:=⟨#[]⟩) (n:=pairs.length) (F:=fun i v=>∃ p,pairs[i]?=some p∧∃ t,v=.str (pairTx p) t) r pr (Ev.glob rfl hg (fun _=>rep_str)) (fun Φ s pr=>?_) _ (fun i v q0=>q0.elim fun p q0=>q0.elim fun h1 q0=>q0.elim fun t h2=>⟨t,by rw[h2,h1];rfl⟩) (by unfold small;lia) ?_ rfl rfl rfl rfl rfl
  ·refine gen_make (P:=278) (c:=282) r pr (by decide) hcode (by kernel_rfl) hq rfl (by intro x h;simp -iota at h) (by decide) rfl rfl rfl (by decide) rfl (Ev.name rfl) ho.1 (accIter g.w) (accIterF g.w) (fun cenv A' E' i s₂ m₂ p t u h1 h2 h3 h4 h5 h6 h7 h8 h9 h10=>?_)
   exact elt_join hs ⟨by rw[h1],h2,h3,h6,h9,h10⟩ (by unfold Env.kindOf;rw[h1];rfl) (by unfold Env.kindOf;rw[h1];rfl) (by unfold Env.kindOf;rw[h1];rfl) h5 h7 h8 (by decide) (by decide) rfl
  ·refine joinOk_of_weight ?_ (by decide)
   rw[range_map_get]
   have:=sum_pairs hs
   rw[List.length_map]
   lia
end
end
section
variable {g:Glob} {d:Nat} {sc:Scope} {σ:Sig} {env:Env} {A:Around} {Φ₀ B:PH} {rest:List Stmt} {Q:Flow→Shared→Prop} {ω:Ow}
theorem BkAt.exprAt {c:Code} {e:PySem.Expr} {pos:Pos} {σ':Sig} (h:∀ Φ s,At g sc env σ B Φ s→WAt g.w A c (eval e env) (fun v s'=>∃ Φ',PH.le Φ Φ'∧At g sc env σ' B Φ' s') s) (k:BkAt g sc env A Φ₀ B σ' c rest Q)
  (hi:interactive env=false) (hs:swapsWith e Option.none pos.line env=pure false):BkAt g sc env A Φ₀ B σ c (.Expr e pos::rest) Q:=fun Φ s l y=>
 ks_wpAt_execs_cons (ks_wpAt_Expr_any (ks_wpAt_mono (h Φ s y) (fun v s' q0=>q0.elim fun Φ' q0=>q0.elim fun l' y'=>k Φ' s' (l.trans l') y') fun _ _ e=>e) hi hs)
theorem accL_any {a dd:Addr} {p q:List (Str × Str)} (b:Addr) (h:((accL a dd p).lookup b).isSome=true):((accL a dd q).lookup b).isSome=true:=by
 unfold accL at *
 rw[List.lookup_cons] at h ⊢
 split at h
 ·rfl
 ·rw[List.lookup_cons] at h ⊢
  split at h
  ·rfl
  ·simp -iota at h
theorem acc_end {a dd:Addr} {p q:List (Str × Str)} {own:Ow} (ho:∀ b ov,(accL a dd p).lookup b=some ov→own.lookup b=some ov) (hm:a∈[a]) :
  ∀ b ov,(accL a dd p).lookup b=some ov→own.lookup b=some ov∧(((accL a dd q).lookup b).isSome=true∨b∈[a]):=fun b ov e=>⟨ho b ov e,.inl (accL_any b (by rw[e];rfl))⟩
theorem accL_set {a dd:Addr} {p q:List (Str × Str)} (b:Addr) (ov:OV) (e:(accL a dd q).lookup b=some ov):((a,OV.sub 309 dd (q.map pairAV))::accL a dd p).lookup b=some ov:=by
 unfold accL at *
 rcases lkc e with ⟨rfl,rfl⟩ | ⟨h1,h2⟩
 ·exact lk_eq
 ·rw[lk_ne h1,lk_ne h1];exact h2
theorem fn_acc_pop (a dd:Addr) (pairs:List (Str × Str)) (p:Str × Str) (hne:dd≠a) (hs:small (pairs.length+1)) :
  FnM g (d+3) [a] (accL a dd (pairs++[p])) (.ref 269) [.ref a] [] (fun r ω'=>r=pairAV p∧ω'=accL a dd pairs):=by
 have hl:(accL a dd (pairs++[p])).lookup a=some (.sub 309 dd ((pairs++[p]).map pairAV)):=(accOwn_of hne).1
 have hl2:(accL a dd (pairs++[p])).lookup a=some (.sub 309 dd (pairs.map pairAV++[pairAV p])):=by rw[hl,List.map_append];rfl
 refine FnC.fnM (FnC.bodySup (C:=309) (cc:=233) (o:=Mine.Internal.hd.zo_285 g.w.params) (by kernel_rfl) rfl rfl {} rfl (by decide) rfl (oc:=Mine.Internal.hd.zo_253 g.w.params) (by kernel_rfl) rfl (bind_pos (ps:=[n_self]) (by exact fun _=>rfl) rfl) (by kernel_rfl) (by simp -iota [accL]) (Nat.succ_pos _) fun A env Φ B r he=>?_)
 ·refine BkAt.step (Bk.ite r (Ts.cmp (Ev.methP (Ev.name rfl) (GmP.subL (f:=306) (C:=309) (dd:=dd) (fs:=[(n_u_initial_size,.int 0)]) hl (accOwn_of hne).2 (by kernel_rfl) (by decide)) (Keep.k (by kernel_rfl)) EvL.nil (fn_part_count hl (by simpa [small] using hs))) (Ev.int 0) Op2.eqi) (fun hb=>?_) (fun _=>Bk.go (Bk.goAt ?_)))
  ·exfalso
   simp -iota at hb
   omega
  ·refine BkAt.retAt fun Φ s y=>?_
   refine sup_at (C:=309) (dd:=dd) (xs:=pairs.map pairAV++[pairAV p]) (x:=n_self) r (SupE.of (of:=Mine.Internal.hd.zo_285 g.w.params) he rfl rfl (by kernel_rfl) rfl rfl (by kernel_rfl) rfl) (supPop g.w) (.inl rfl) y rfl rfl hl2 (fun A s Q E x hd q=>check_pop x hd q) plain_lpop PySem.F.entry_list_pop (fun A Φ' s' hA l y'=>?_)
   refine((SubB.pop (by simpa [small] using hs)).at hA y' hl2 (mA) repL_nil).mono fun fin s'' q0=>q0.casesOn fun v e Φ'' l'' y'' rp=>⟨v,e,Φ'',_,_,l.trans l'',y'',rp,fun Φ₁ v s l y rp=>FQ.ret (ω':=accL a dd pairs) y l (PH.le.refl _) rp ⟨rfl,rfl⟩ (acc_end accL_set mA)⟩
theorem bind_def {fd:FuncData} {args davs:List AV} {ps:List Str} {T:Addr} {oT:Obj} {items:Array Value} {n:Nat} {dv:List Value} (hd:fd.defaults=.ref T) (hT:(KB g.w).lookup T=some oT) (hi:oT.data=.seq items n)
  (h:AllVs args.length fun vs=>∃ k,bindArgs fd ⟨vs,[]⟩=seqItems? fd.defaults>>=k∧k (some items)=pure (ps.zip (vs++dv))) (hl:ps.length=args.length+dv.length) (hdv:∀ Φ,RepL Φ davs dv) (Φ Ψ:PH) (s:Shared) (vs:List Value) (ks:List (Str × Value)) (hp:Hp g Φ Ψ s)
  (ra:RepL Φ args vs) (e:ks.map (·.1)=([]:List (Str × AV)).map (·.1)) (rk:RepL Φ (([]:List (Str × AV)).map (·.2)) (ks.map (·.2))):∃ binds,BindsTo s fd ⟨vs,ks⟩ binds∧binds.map (·.1)=ps∧RepL Φ (args++davs) (binds.map (·.2)):=by
 have:ks=[]:=by simpa using e
 subst this
 have hlen:=repL_length ra
 obtain⟨k,h1,h2⟩:=h.get vs hlen
 refine⟨ps.zip (vs++dv),.of_defaults hd (hp.getΦ (hp.k _ _ hT)) hi h1 h2,?_,?_⟩
 ·rw[List.map_fst_zip];rw[List.length_append];lia
 ·rw[List.map_snd_zip]
  ·exact repL_append ra (hdv Φ)
  ·rw[List.length_append];lia
theorem lk2 {a dd:Addr} {x y:OV} (h:dd≠a):List.lookup dd [(a,x),(dd,y)]=some y:=by rw[lk_ne h,lk_eq]
theorem fn_acc_init (a dd:Addr) (hne:dd≠a):FnC g (d+2) [a,dd] [(a,.sub 309 dd []),(dd,.dict [])] (.ref 246) [.ref a,.int 0] [] (fun r ω'=>r=.none∧ω'=accL a dd []):=by
 refine FnC.bodySup (C:=309) (cc:=233) (o:=Mine.Internal.hd.zo_262 g.w.params) (by kernel_rfl) rfl rfl {} rfl (by decide) rfl (oc:=Mine.Internal.hd.zo_253 g.w.params) (by kernel_rfl) rfl (bind_def (ps:=[n_self,n_initial_size]) (dv:=[]) (davs:=[]) (T:=238) (oT:=Mine.Internal.hd.zo_254 g.w.params) rfl (by kernel_rfl) rfl (by exact fun _ _=>⟨_,rfl,rfl⟩) rfl (fun _=>repL_nil)) (by kernel_rfl) ?_ (Nat.succ_pos _) fun A env Φ B r he=>?_
 ·intro b hb
  rcases memc hb with rfl | hb
  ·rw[lk_eq];rfl
  ·rw[List.mem_singleton.mp hb,lk2 hne];rfl
 ·refine BkAt.step (Bk.setS (C:=309) (a:=a) (dd:=dd) (fs:=[]) r (EvK.of (EvX.of (Ev.name rfl))) (by kernel_rfl) (by decide) ?_)
  rintro av σ' ⟨rfl,rfl⟩
  refine⟨⟨[],lk_eq⟩,lk2 hne,mB,Ev.name rfl,Bk.goAt ?_⟩
  have hl:List.lookup a ((dd,OV.dict (fsPut [] n_u_initial_size (.int 0)))::[(a,OV.sub 309 dd []),(dd,.dict [])])=some (.sub 309 dd []):=by rw[lk_ne hne.symm,lk_eq]
  refine BkAt.exprAt (σ':=⟨[(n_initial_size,.int 0),(n_self,.ref a),(n_class,.ref 309)],(a,.sub 309 dd [])::(dd,.dict (fsPut [] n_u_initial_size (.int 0)))::[(a,.sub 309 dd []),(dd,.dict [])],[],[a,dd]⟩) (fun Φ s y=>?_) (BkAt.of (Bk.nil ?_)) (by obtain⟨L,cells,rfl⟩:=he;rfl) rfl
  ·refine sup_at (C:=309) (dd:=dd) (xs:=[]) (x:=n_self) r (SupE.of (of:=Mine.Internal.hd.zo_262 g.w.params) he rfl rfl (by kernel_rfl) rfl rfl (by kernel_rfl) rfl) (supInit g.w) (.inr rfl) y rfl rfl hl (fun A s Q E _ _ q=>check_bslot kind_linit (args_linit _) q) plain_linit entry_linit (fun A Φ' s' hA l y'=>?_)
   exact(SubB.init.at hA y' hl (mA) repL_nil).mono fun fin s'' q0=>q0.casesOn fun v e Φ'' l'' y'' rp=>⟨v,e,Φ'',l.trans l'',y''⟩
  ·refine(FQ.none (ω':=accL a dd []) ⟨rfl,rfl⟩ (fun b ov q=>?_)).2
   unfold accL at q
   rcases lkc q with ⟨rfl,rfl⟩ | ⟨q1,q⟩
   ·exact⟨lk_eq,.inr (mA)⟩
   ·rcases lkc q with ⟨rfl,rfl⟩ | ⟨q2,q⟩
    ·exact⟨by rw[lk_ne q1,lk_eq];rfl,.inr (mB)⟩
    ·cases q
end
section
open PySem.Builtin PySem.Builtin.Str
section
variable {g:Glob} {d:Nat} {sc:Scope} {σ:Sig} {env:Env} {A:Around} {Φ₀ B:PH} {rest:List Stmt} {Q:Flow→Shared→Prop} {ω:Ow}
theorem fn_acc_pop_from (a dd:Addr) (pairs:List (Str × Str)) (i:Nat) (hi:i≤pairs.length) (hne:dd≠a) (hs:small pairs.length) :
  FnM g (d+2) [a] (accL a dd pairs) (.ref 261) [.ref a,.int i] [] (fun r ω'=>r=.lst ((pairs.drop i).map pairAV)∧ω'=accL a dd (pairs.take i)):=by
 have hl:(accL a dd pairs).lookup a=some (.sub 309 dd (pairs.map pairAV)):=(accOwn_of hne).1
 refine FnC.fnM (FnC.body (o:=Mine.Internal.hd.zo_277 g.w.params) (by kernel_rfl) rfl rfl {} rfl (by decide) (bind_def (ps:=[n_self,n_i]) (dv:=[]) (davs:=[]) (T:=254) (oT:=Mine.Internal.hd.zo_270 g.w.params) rfl (by kernel_rfl) rfl (by exact fun _ _=>⟨_,rfl,rfl⟩) rfl (fun _=>repL_nil)) (by kernel_rfl) (by simp -iota [accL]) (Nat.succ_pos _) fun A env Φ B r=>?_)
 ·have hsm:small (pairs.map pairAV).length:=by simpa using hs
  have hb1:(sliceBounds (some (i:Int)) Option.none Option.none (pairs.map pairAV).length).1=(i:Int):=by simp[sliceBounds];(clear hsm r hl hs hne;lia)
  refine Bk.assign r (Ev.sliceU (accItems g.w) (Ev.name rfl) hl (lo:=some (i:Int)) (hi:=Option.none) (Ev.name (av:=.int i) rfl) trivial hsm) rfl ?_
  refine Bk.setSlice (new:=[]) (lo:=some (i:Int)) r (accItems g.w) (Ev.lst EvL.nil (sml rfl)) (Ev.name rfl) (Ev.name (av:=.int i) rfl) hl (mA) (by rw[hb1];(clear hb1 hsm r hl hs hne hi;lia)) (by rw[hb1];simpa using hi) (by simpa using hs) ?_
  have e:(pairs.map pairAV).take i++([]:List AV)=(pairs.take i).map pairAV:=by simp -iota [List.map_take]
  rw[cut_from _ _ (by simpa using hi),hb1,Int.toNat_natCast,e,←List.map_drop]
  refine Bk.ret r (Ev.name rfl) fun Φ v s l y rp=>?_
  exact FQ.ret (ω':=accL a dd (pairs.take i)) y l (PH.le.refl _) rp ⟨rfl,rfl⟩ (acc_end accL_set mA)
theorem fn_acc_reset1 (a dd:Addr) (pairs new:List (Str × Str)) (hne:dd≠a) (hs:small (pairs.length+new.length)) :
  FnM g (d+2) [a,dd] (accL a dd pairs) (.ref 291) [.ref a,.lst (new.map pairAV)] [] (fun r ω'=>r=.none∧ω'=accL a dd new):=by
 have hl:(accL a dd pairs).lookup a=some (.sub 309 dd (pairs.map pairAV)):=(accOwn_of hne).1
 have hl2:(accL a dd pairs).lookup dd=some (.dict [(n_u_initial_size,.int 0)]):=(accOwn_of hne).2
 have hmt:∀ b∈[a,dd],((accL a dd pairs).lookup b).isSome=true:=by
  intro b hb
  rcases memc hb with rfl | hb
  ·rw[hl];rfl
  ·rw[List.mem_singleton.mp hb,hl2];rfl
 refine FnC.fnM (FnC.body (o:=Mine.Internal.hd.zo_307 g.w.params) (by kernel_rfl) rfl rfl {} rfl (by decide) (bind_def (ps:=[n_self,n_startval]) (dv:=[]) (davs:=[]) (T:=284) (oT:=Mine.Internal.hd.zo_300 g.w.params) rfl (by kernel_rfl) rfl (by exact fun _ _=>⟨_,rfl,rfl⟩) rfl (fun _=>repL_nil)) (by kernel_rfl) hmt (Nat.succ_pos _) fun A env Φ B r=>?_)
 ·have hb1:(sliceBounds Option.none Option.none Option.none (pairs.map pairAV).length).1=0:=by simp[sliceBounds]
  refine Bk.iteJ r (Ts.cmp (Ev.name rfl) Ev.none (Op2.isNone (b:=false) (fun Φ v rp=>by obtain⟨b,o,vs,rfl,_⟩:=lst_inv rp;rfl))) ⟨[(n_startval,.lst (new.map pairAV)),(n_self,.ref a)],accL a dd pairs,[],[a,dd]⟩ (fun hb=>?_) (fun hb=>?_) ?_
  ·cases hb
  ·exact Bk.join _ ⟨rfl,rfl,trivial⟩
  ·refine Bk.setSlice (new:=new.map pairAV) (lo:=Option.none) r (accItems g.w) (Ev.name rfl) (Ev.name rfl) trivial hl mA (by rw[hb1];lia) (by rw[hb1];lia) (by simpa using hs) ?_
   have e:(pairs.map pairAV).take ((0:Int).toNat)++new.map pairAV=new.map pairAV:=by simp
   rw[hb1,e]
   refine Bk.setS (C:=309) (a:=a) (dd:=dd) (fs:=[(n_u_initial_size,.int 0)]) r (EvK.of (EvX.of (Ev.int 0))) (by kernel_rfl) (by decide) ?_
   rintro av σ' ⟨rfl,rfl⟩
   refine⟨⟨_,lk_eq⟩,by rw[lk_ne hne];exact hl2,by simp,Ev.name rfl,?_⟩
   refine Bk.nil (FQ.none (ω':=accL a dd new) ⟨rfl,rfl⟩ (fun b ov q=>?_)).2
   unfold accL at q
   rcases lkc q with ⟨rfl,rfl⟩ | ⟨q1,q⟩
   ·exact⟨by rw[lk_ne hne.symm,lk_eq],.inr mA⟩
   ·rcases lkc q with ⟨rfl,rfl⟩ | ⟨q2,q⟩
    ·exact⟨by rw[lk_eq];rfl,.inr mB⟩
    ·cases q
theorem fn_acc_reset0 (a dd:Addr) (pairs:List (Str × Str)) (hne:dd≠a) (hs:small (pairs.length+0)) :
  FnM g (d+2) [a,dd] (accL a dd pairs) (.ref 291) [.ref a] [] (fun r ω'=>r=.none∧ω'=accL a dd ([]:List (Str × Str))):=by
 have hl:(accL a dd pairs).lookup a=some (.sub 309 dd (pairs.map pairAV)):=(accOwn_of hne).1
 have hl2:(accL a dd pairs).lookup dd=some (.dict [(n_u_initial_size,.int 0)]):=(accOwn_of hne).2
 have hmt:∀ b∈[a,dd],((accL a dd pairs).lookup b).isSome=true:=by
  intro b hb
  rcases memc hb with rfl | hb
  ·rw[hl];rfl
  ·rw[List.mem_singleton.mp hb,hl2];rfl
 refine FnC.fnM (FnC.body (o:=Mine.Internal.hd.zo_307 g.w.params) (by kernel_rfl) rfl rfl {} rfl (by decide) (bind_def (ps:=[n_self,n_startval]) (dv:=[.none]) (davs:=[.none]) (T:=284) (oT:=Mine.Internal.hd.zo_300 g.w.params) rfl (by kernel_rfl) rfl (by exact fun _=>⟨_,rfl,rfl⟩) rfl (fun _=>repL_cons rep_none repL_nil)) (by kernel_rfl) hmt (Nat.succ_pos _) fun A env Φ B r=>?_)
 ·have hb1:(sliceBounds Option.none Option.none Option.none (pairs.map pairAV).length).1=0:=by simp[sliceBounds]
  refine Bk.iteJ r (Ts.cmp (Ev.name rfl) Ev.none (Op2.isNone (b:=true) (fun Φ v rp=>by replace rp:_=_:=rp;subst rp;rfl))) ⟨[(n_startval,.lst (([]:List (Str × Str)).map pairAV)),(n_self,.ref a)],accL a dd pairs,[],[a,dd]⟩ (fun hb=>?_) (fun hb=>?_) ?_
  ·exact Bk.assign r (Ev.lst EvL.nil (sml rfl)) rfl (Bk.join _ ⟨rfl,rfl,trivial⟩)
  ·cases hb
  ·refine Bk.setSlice (new:=([]:List (Str × Str)).map pairAV) (lo:=Option.none) r (accItems g.w) (Ev.name rfl) (Ev.name rfl) trivial hl mA (by rw[hb1];lia) (by rw[hb1];lia) (by simpa using hs) ?_
   have e:(pairs.map pairAV).take ((0:Int).toNat)++([]:List (Str × Str)).map pairAV=([]:List (Str × Str)).map pairAV:=by simp
   rw[hb1,e]
   refine Bk.setS (C:=309) (a:=a) (dd:=dd) (fs:=[(n_u_initial_size,.int 0)]) r (EvK.of (EvX.of (Ev.int 0))) (by kernel_rfl) (by decide) ?_
   rintro av σ' ⟨rfl,rfl⟩
   refine⟨⟨_,lk_eq⟩,by rw[lk_ne hne];exact hl2,by simp,Ev.name rfl,?_⟩
   refine Bk.nil (FQ.none (ω':=accL a dd ([]:List (Str × Str))) ⟨rfl,rfl⟩ (fun b ov q=>?_)).2
   unfold accL at q
   rcases lkc q with ⟨rfl,rfl⟩ | ⟨q1,q⟩
   ·exact⟨by rw[lk_ne hne.symm,lk_eq],.inr mA⟩
   ·rcases lkc q with ⟨rfl,rfl⟩ | ⟨q2,q⟩
    ·exact⟨by rw[lk_eq];rfl,.inr mB⟩
    ·cases q
end
end
section
open PySem.Builtin PySem.Builtin.Str
section
variable {g:Glob} {d:Nat} {sc:Scope} {σ:Sig} {env:Env} {A:Around} {Φ₀ B:PH} {rest:List Stmt} {Q:Flow→Shared→Prop} {ω:Ow}
noncomputable def accN (pairs:List (Str × Str)):Nat:=(pairs.map pairLen).sum
theorem preSum_nat (f:Nat→Nat):∀ n,preSum (fun i=>((f i:Nat):Int)) n=(((List.range n).map f).sum:Nat)
 | 0=>by simp[preSum]
 | n+1=>by
  rw[List.range_succ,List.map_append,List.sum_append]
  have:=preSum_nat f n
  simp[preSum] at this ⊢
  omega
theorem accN_eq (pairs:List (Str × Str)):preSum (fun i=>((pairs[i]?.map pairLen).getD 0:Nat)) pairs.length=(accN pairs:Nat):=by
 rw[preSum_nat,range_map_get];rfl
theorem accN_le {l:List (Str × Str)} (hs:∀ p∈l,pairOk p):accN l≤l.length*100:=by
 unfold accN
 induction l with
 | nil=>simp
 | cons p r ih=>
  have h1:=hs p List.mem_cons_self
  have h2:=ih fun q hq=>hs q (List.mem_cons_of_mem _ hq)
  unfold pairOk at h1
  have h3:pairLen p=p.1.length+p.2.length:=rfl
  simp only[List.map_cons,List.sum_cons,List.length_cons] at h2 ⊢
  lia
theorem ok_small {l:List (Str × Str)} (hs:∀ p∈l,pairOk p):∀ p∈l,small p.1.length∧small p.2.length:=fun p hp=>by
 have:=hs p hp
 unfold pairOk at this
 unfold small
 lia
theorem fn_len_acc (a dd:Addr) (pairs:List (Str × Str)) (ho:accOwn a dd pairs ω) (hs:∀ p∈pairs,pairOk p) (hl:pairs.length≤1000):Fn g (d+3) ω (.builtin "len") [.ref a] [] (.int (accN pairs:Nat)):=by
 have hb:=accN_le hs
 refine Fn.lenU (f:=276) ho.1 ho.2 (by kernel_rfl) (by kernel_rfl) (by lia) (by lia) (Nat.succ_pos _) ?_
 rw[←accN_eq]
 exact fn_acc_len a dd pairs ho (ok_small hs)
theorem fn_str_acc (a dd:Addr) (pairs:List (Str × Str)) (ho:accOwn a dd pairs ω) (hs:∀ p∈pairs,pairOk p) (hl:pairs.length≤1000):Fn g (d+4) ω (.type "str") [.ref a] [] (.str (Txt.join ⟨#[]⟩ (pairs.map pairTx))):=
 Fn.strU (f:=283) ho.1 ho.2 (by kernel_rfl) (by kernel_rfl) (Nat.succ_pos _) (fn_acc_str a dd pairs ho hs hl)
theorem len_body {a C dd f:Addr} {xs:List AV} {fs:List (Str × AV)} {n:Int} {Φ Ψ:PH} {s:Shared} (r:Room d A) (hp:Hp g Φ Ψ s) (how:Owns Φ Ψ ω) (ha:ω.lookup a=some (.sub C dd xs)) (hd:ω.lookup dd=some (.dict fs)) (hs:findIn (KB g.w) (.ref C) "__len__"=some (some (.ref f))) (hf:isFn (KB g.w) (.ref f)=true) (h0:0≤n) (h1:n<2^63)
  (h:Fn g d ω (.ref f) [.ref a] [] (.int n)):W g.w A (Builtin.«len» ⟨[.ref a],[]⟩) (fun fin s'=>∃ v,fin=.done (.ret v)∧Ret g Φ Ψ (.int n) v s') s:=by
 obtain⟨ox,od,I⟩:=InstAt.sub hp how ha hd
 unfold Builtin.«len»
 refine wpAny_bind (m:=oneArg "len" _) (wpAny_pure ?_)
 refine wpAny_bind (m:=callSpecial? (.ref a) (Str.ofString "__len__")) (special_fn hp.kin I hs (beq_iff_eq.mp hf) (wpAny_mono (h A Φ Ψ s [.ref a] [] r hp how (repL_cons rep_ref repL_nil) rfl repL_nil) (fun v s' hr=>?_) fun _ _ y=>y))
 obtain⟨Φ',l,hp',rv⟩:=hr
 refine int_elim rv fun t=>?_
 refine wpAny_bind (wpAny_holding (wpAny_pure ?_))
 refine wpAny_bind (wpAny_letGo ?_)
 show wpAny _ _ (if n<0 then _ else _) _ _ _
 rw[if_neg (by(clear rv hp' l I h h1 hf hs hd ha how hp r;lia))]
 show wpAny _ _ (if n≥2^63 then _ else _) _ _ _
 rw[if_neg (by(clear rv hp' l I h h0 hf hs hd ha how hp r;lia))]
 exact wpAny_bind (wpAny_mkInt (wpAny_pure ⟨_,rfl,Φ',l,hp'.tok _,rep_int⟩))
theorem Tr.subU {a C dd f:Addr} {xs:List AV} {fs:List (Str × AV)} {n:Int} (ha:ω.lookup a=some (.sub C dd xs)) (hd:ω.lookup dd=some (.dict fs)) (hb:findIn (KB g.w) (.ref C) "__bool__"=some Option.none) (hs:findIn (KB g.w) (.ref C) "__len__"=some (some (.ref f))) (hf:isFn (KB g.w) (.ref f)=true) (h0:0≤n) (h1:n<2^63) (hd0:0<d)
  (h:Fn g d ω (.ref f) [.ref a] [] (.int n)):Tr g (d+1) ω (.ref a) (n != 0):=fun A Φ Ψ s v r hp how ra=>by
 replace ra:_=_:=ra
 subst ra
 obtain⟨ox,od,I⟩:=InstAt.sub hp how ha hd
 unfold truthy
 refine wpAny_bind (m:=callSpecial? (.ref a) (Str.ofString "__bool__")) (wpAny_bind (wpAny_bind (I.type.here ((looks_findIn hp.kin hb).here (wpAny_pure ?_)))))
 refine wpAny_bind (wpAny_bind (I.type.here ((looks_findIn hp.kin hs).here ?_)))
 refine PySem.W.KFB.if_not (by rfl) ?_
 refine wpAny_bind (wpAny_runValue (codeAny_builtin entry_len ?_))
 rw[Around.under_plainId plain_len _]
 refine wpAny_mono (len_body (A:=A.in1) (r.in1 hd0) hp how ha hd hs hf h0 h1 h) (fun fin s' ⟨v,e,Φ',l,hp',rv⟩=>?_) fun _ _ e=>e.elim
 subst e
 refine int_elim rv fun t=>?_
 exact wpAny_pure ⟨rfl,Φ',l,hp'⟩
theorem fn_is_onlyws (a dd:Addr) (pairs:List (Str × Str)) (ho:accOwn a dd pairs ω) (hs:∀ p∈pairs,pairOk p) (hl:pairs.length≤1000) (hn:accN pairs≠0):Fn g (d+5) ω (.ref 298) [.ref a] [] (.bool (Txt.isspace (Txt.join ⟨#[]⟩ (pairs.map pairTx)))):=by
 have hb:=accN_le hs
 refine FnM.fn (FnC.fnM (FnC.body (o:=Mine.Internal.hd.zo_314 g.w.params) (by kernel_rfl) rfl rfl {} rfl (by decide) (bind_pos (ps:=[n_self]) (by exact fun _=>rfl) rfl) (by kernel_rfl) (fun _ h=>nomatch h) (Nat.succ_pos _) fun A env Φ B r=>?_))
 ·have htr:Tr g (d+4) ω (.ref a) true:=by
   have:=Tr.subU (g:=g) (d:=d+3) (n:=(accN pairs:Nat)) ho.1 ho.2 (by kernel_rfl) (f:=276) (by kernel_rfl) (by kernel_rfl) (by lia) (by lia) (Nat.succ_pos _) (by rw[←accN_eq];exact fn_acc_len (d:=d+1) a dd pairs ho (ok_small hs))
   have e:(((accN pairs:Nat):Int) != 0)=true:=by simp;exact hn
   rw[e] at this
   exact this
  refine Bk.ret r (av:=.bool (Txt.isspace (Txt.join ⟨#[]⟩ (pairs.map pairTx)))) (Ev.and1 (Ev.cmp (Ev.attrL (Ev.name rfl) (C:=309) ho.1 ho.2 (by kernel_rfl) rfl rfl) (Ev.int 0) Op2.eqi) Tr.bool (Ev.or0 (Ev.not (b:=true) (Ev.name rfl) htr) Tr.bool (Ev.strMeth (Ev.call (Ev.bi rfl (by kernel_rfl) rfl) (Keep.ty _) (by exact(EvL.cons (Ev.name rfl) EvL.nil)) (fn_str_acc a dd pairs ho hs hl)) PySem.F.slot_str_isspace PySem.F.type_str_isspace EvL.nil Fn.isspace))) fun Φ v s l y rp=>?_
  exact FQ.ret (ω':=ω) y l (PH.le.refl _) rp rfl fun b ov q=>by exact⟨q,.inl (by rw[q];rfl)⟩
end
end
section
open PySem.Builtin PySem.Builtin.Str
section
variable {g:Glob} {d:Nat} {sc:Scope} {σ:Sig} {env:Env} {A:Around} {Φ₀ B:PH} {rest:List Stmt} {Q:Flow→Shared→Prop} {ω:Ow}
structure PgD (pd a ad l:Addr):Prop where
 h1:a≠pd
 h2:ad≠pd
 h3:l≠pd
 h4:ad≠a
 h5:l≠a
 h6:l≠ad
noncomputable def pageFs (m:Int) (a l:Addr):List (Str × AV):=[(n_u_current_line,.ref a),(n_u_lines,.ref l),(n_u_splitchars,.str ⟨#[32]⟩),(n_u_continuation_ws_len,.int 1),(n_u_continuation_ws,.str ⟨#[32]⟩),(n_u_maxlen,.int m)]
noncomputable def pageO (pd a ad l:Addr) (m:Int) (lines:List Str) (pairs:List (Str × Str)):Ow:=[(pd,.dict (pageFs m a l)),(a,.sub 309 ad (pairs.map pairAV)),(ad,.dict [(n_u_initial_size,.int 0)]),(l,.lst (lines.map AV.str))]
section
variable {pd a ad l:Addr} {m:Int} {lines:List Str} {p q:List (Str × Str)}
theorem pageO_pd:(pageO pd a ad l m lines p).lookup pd=some (.dict (pageFs m a l)):=lk_eq
theorem pageO_a (D:PgD pd a ad l):(pageO pd a ad l m lines p).lookup a=some (.sub 309 ad (p.map pairAV)):=by unfold pageO;rw[lk_ne D.h1,lk_eq]
theorem pageO_ad (D:PgD pd a ad l):(pageO pd a ad l m lines p).lookup ad=some (.dict [(n_u_initial_size,.int 0)]):=by unfold pageO;rw[lk_ne D.h2,lk_ne D.h4,lk_eq]
theorem pageO_l (D:PgD pd a ad l):(pageO pd a ad l m lines p).lookup l=some (.lst (lines.map AV.str)):=by unfold pageO;rw[lk_ne D.h3,lk_ne D.h5,lk_ne D.h6,lk_eq]
theorem pageO_acc (D:PgD pd a ad l):accOwn a ad p (pageO pd a ad l m lines p):=⟨pageO_a D,pageO_ad D⟩
theorem pageO_accL (D:PgD pd a ad l):∀ b ov,(accL a ad p).lookup b=some ov→(pageO pd a ad l m lines p).lookup b=some ov:=fun b ov e=>by
 unfold accL at e
 rcases lkc e with ⟨rfl,rfl⟩ | ⟨h1,e⟩
 ·exact pageO_a D
 ·rcases lkc e with ⟨rfl,rfl⟩ | ⟨h2,e⟩
  ·exact pageO_ad D
  ·simp at e
theorem pageO_cases {b:Addr} {ov:OV} (e:(pageO pd a ad l m lines p).lookup b=some ov):(b=pd∧ov=.dict (pageFs m a l))∨(b=a∧ov=.sub 309 ad (p.map pairAV))∨(b=ad∧ov=.dict [(n_u_initial_size,.int 0)])∨(b=l∧ov=.lst (lines.map AV.str)):=by
 unfold pageO at e
 rcases lk_cons e with h | ⟨_,e⟩
 ·exact .inl h
 ·rcases lk_cons e with h | ⟨_,e⟩
  ·exact .inr (.inl h)
  ·rcases lk_cons e with h | ⟨_,e⟩
   ·exact .inr (.inr (.inl h))
   ·rcases lk_cons e with h | ⟨_,e⟩
    ·exact .inr (.inr (.inr h))
    ·simp at e
theorem pageO_c {b:Addr} {ov:OV} (e:(pageO pd a ad l m lines p).lookup b=some ov):(pd=b∧.dict (pageFs m a l)=ov)∨(a=b∧.sub 309 ad (p.map pairAV)=ov)∨(ad=b∧.dict [(n_u_initial_size,.int 0)]=ov)∨(l=b∧.lst (lines.map AV.str)=ov):=
 sw ((pageO_cases e).imp id fun h=>sw (h.imp id fun h=>sw (h.imp id fun h=>⟨h.1.symm,h.2.symm⟩)))
theorem pageO_setA (D:PgD pd a ad l):∀ b ov,(pageO pd a ad l m lines q).lookup b=some ov→(accL a ad q++pageO pd a ad l m lines p).lookup b=some ov:=fun b ov e=>by
 rcases pageO_c e with ⟨rfl,rfl⟩ | ⟨rfl,rfl⟩ | ⟨rfl,rfl⟩ | ⟨rfl,rfl⟩
 ·show List.lookup _ ((a,_)::(ad,_)::pageO pd a ad l m lines p)=_
  rw[lk_ne D.h1.symm,lk_ne D.h2.symm];exact pageO_pd
 ·exact lk_eq
 ·show List.lookup _ ((a,_)::(ad,_)::_)=_
  rw[lk_ne D.h4,lk_eq]
 ·show List.lookup _ ((a,_)::(ad,_)::pageO pd a ad l m lines p)=_
  rw[lk_ne D.h5,lk_ne D.h6];exact pageO_l D
theorem pageO_setL (D:PgD pd a ad l) {x:Str} {xs:List AV} (hx:xs=(lines++[x]).map AV.str):∀ b ov,(pageO pd a ad l m (lines++[x]) p).lookup b=some ov→((l,OV.lst xs)::pageO pd a ad l m lines p).lookup b=some ov:=fun b ov e=>by
 subst hx
 rcases pageO_c e with ⟨rfl,rfl⟩ | ⟨rfl,rfl⟩ | ⟨rfl,rfl⟩ | ⟨rfl,rfl⟩
 ·rw[lk_ne D.h3.symm];exact pageO_pd
 ·rw[lk_ne D.h5.symm];exact pageO_a D
 ·rw[lk_ne D.h6.symm];exact pageO_ad D
 ·exact lk_eq
theorem pageO_mem (D:PgD pd a ad l) {mt:List Addr} (h:∀ b∈mt,b∈[pd,a,ad,l]):∀ b∈mt,((pageO pd a ad l m lines p).lookup b).isSome=true:=fun b hb=>by
 have:=h b hb
 simp at this
 rcases this with rfl | rfl | rfl | rfl
 ·rw[pageO_pd];rfl
 ·rw[pageO_a D];rfl
 ·rw[pageO_ad D];rfl
 ·rw[pageO_l D];rfl
theorem accL_mem {mt:List Addr} (hne:ad≠a) (h:∀ b∈mt,b∈[a,ad]):∀ b∈mt,((accL a ad p).lookup b).isSome=true:=fun b hb=>by
 have:=h b hb
 simp at this
 rcases this with rfl | rfl
 ·rw[(accOwn_of hne).1];rfl
 ·rw[(accOwn_of hne).2];rfl
end
noncomputable def chunkOf (x:Str):Str × Str:=(⟨#[32]⟩,x)
noncomputable def lineOf (ps:List (Str × Str)):Str:=Txt.join ⟨#[]⟩ (ps.map pairTx)
theorem fn_append_chunk {pd a ad l:Addr} (D:PgD pd a ad l) (m:Int) (lines:List Str) (pairs:List (Str × Str)) (x:Str) (hs:∀ p∈pairs,pairOk p) (hx:pairOk (chunkOf x)) (hl:pairs.length≤900) (hll:lines.length≤900) (hov:m<(accN (pairs++[chunkOf x]):Nat)→pairs≠[]) :
  FnM g (d+8) [a,ad,l] (pageO pd a ad l m lines pairs) (.ref 222) [instAV 225 pd,.str ⟨#[32]⟩,.str x] [] (fun r ω'=>r=.none∧ω'=if m<(accN (pairs++[chunkOf x]):Nat) then pageO pd a ad l m (lines++[lineOf pairs]) [chunkOf x] else pageO pd a ad l m lines (pairs++[chunkOf x])):=by
 obtain⟨ps,hps⟩:∃ ps,ps=pairs++[chunkOf x]:=⟨_,rfl⟩
 have hpsk:∀ p∈ps,pairOk p:=by rw[hps];intro p hp;rcases List.mem_append.mp hp with h | h;exact hs p h;rw[List.mem_singleton.mp h];exact hx
 have hpsl:ps.length=pairs.length+1:=by rw[hps];simp
 rw[←hps] at hov ⊢
 refine FnC.fnM (FnC.body (o:=Mine.Internal.hd.zo_246 g.w.params) (by kernel_rfl) rfl rfl {} rfl (by decide) (bind_pos (ps:=[n_self,n_fws,n_string]) (by exact fun _ _ _=>rfl) rfl) (by kernel_rfl) (pageO_mem D (fun _=>List.mem_cons_of_mem _)) (Nat.succ_pos _) fun A env Φ B r=>?_)
 ·refine Bk.expr r (EvX.meth (EvX.of (Ev.attrI (Ev.name rfl) (C:=225) (dd:=pd) (fs:=pageFs m a l) (av:=.ref a) pageO_pd (by kernel_rfl) rfl rfl)) (GmA.subL (f:=253) (C:=309) (dd:=ad) (fs:=[(n_u_initial_size,.int 0)]) (pageO_a D) (pageO_ad D) (by kernel_rfl) (by decide)) (Keep.k (by kernel_rfl)) (by exact(EvL.cons (Ev.name rfl) (EvL.cons (Ev.name rfl) EvL.nil)))
   (CallsTo.ownW (fn_acc_push a ad pairs ⟨#[32]⟩ x D.h4 (by unfold small;(clear r hpsl hpsk hps hov hll hx hs D;lia))) (pageO_accL D) (by simp[putAll,Sig.put]) (fun b h=>accL_any b h) (accL_mem D.h4 (by simp)))) rfl ?_
  refine Bk.ownTo (pageO pd a ad l m lines ps) [a,ad,l] ?_ (by rw[hps];exact pageO_setA D) (fun b hb=>⟨hb,pageO_mem D (fun _=>List.mem_cons_of_mem _) b hb⟩)
  refine Bk.ite r (Ts.cmp (Ev.call (Ev.bi rfl (by kernel_rfl) rfl) (Keep.bi _) (EvL.cons (Ev.attrI (Ev.name rfl) (C:=225) (dd:=pd) (fs:=pageFs m a l) (av:=.ref a) pageO_pd (by kernel_rfl) rfl rfl) EvL.nil) (fn_len_acc (d:=d+4) a ad ps (pageO_acc D) hpsk (by(clear r hpsk hps hov hll hx hs D;lia)))) (Ev.attrI (Ev.name rfl) (C:=225) (dd:=pd) (fs:=pageFs m a l) (av:=.int m) pageO_pd (by kernel_rfl) rfl rfl) Op2.gt) (fun hb=>?_) (fun hb=>Bk.go ?_)
  ·have hlt:m<(accN ps:Nat):=by simpa using hb
   rw[if_pos hlt]
   have hne:=hov hlt
   have hpl:1≤pairs.length:=by
    cases pairs with
    | nil=>exact absurd rfl hne
    | cons _ _=>simp
   have hget:ps[pairs.length]?=some (chunkOf x):=by rw[hps];simp
   have hget':(ps.map pairAV)[((pairs.length:Nat):Int).toNat]?=some (.tup [.str ⟨#[32]⟩,.str x]):=by rw[Int.toNat_natCast,List.getElem?_map,hget];rfl
   have e1:(((ps.map pairAV).length:Nat):Int)-1=(pairs.length:Int):=by rw[List.length_map,hpsl];(clear hget' hget hpl hne hlt hb r hpsl hpsk hps hov hll hl hx hs D;lia)
   have hsmp:small (ps.map pairAV).length:=by unfold small;rw[List.length_map];(clear e1 hget' hget hpl hne hlt hb r hpsk hps hov hll hx hs D;lia)
   have hsz:Builtin.Range.rangeSize (pairs.length:Int) 0 (-1)=(pairs.length:Int):=by
    unfold Builtin.Range.rangeSize
    have e2:(-(-1):Int)=1:=by decide
    rw[if_neg (by decide),if_pos (by(clear e2 hsmp e1 hget' hget hne hlt hb r hpsl hpsk hps hov hll hl hx hs D;lia)),e2,Int.ediv_one]
    (clear e2 hsmp e1 hget' hget hpl hne hlt hb r hpsl hpsk hps hov hll hl hx hs D;lia)
   have hsm:Builtin.Range.small (pairs.length:Int) 0 (-1)=true:=by
    unfold Builtin.Range.small
    rw[hsz]
    unfold Builtin.Range.rangeFitsLong
    simp
    (clear hsz hsmp e1 hget' hget hpl hne hlt hb r hpsl hpsk hps hov hll hx hs D;lia)
   have hsp:Txt.isspace (⟨#[32]⟩:Str)=true:=by decide +kernel
   obtain⟨V0,hV0⟩:∃ V0:List (Str × AV),V0=[(n_self,instAV 225 pd),(n_fws,.str ⟨#[32]⟩),(n_string,.str x)]:=⟨_,rfl⟩
   obtain⟨V1,hV1⟩:∃ V1:List (Str × AV),V1=[(n_fws,.str ⟨#[32]⟩),(n_i,.int pairs.length),(n_ch,.str ⟨#[32]⟩),(n_self,instAV 225 pd),(n_string,.str x)]:=⟨_,rfl⟩
   refine Bk.know ⟨V0,pageO pd a ad l m lines ps,[],[a,ad,l]⟩ ?_ (by rw[hV0];exact⟨rfl,rfl,rfl,trivial⟩)
   refine Bk.for r (xs:=chars ⟨#[32]⟩) (EvIt.of (Ev.attrI (Ev.name (by rw[hV0];rfl)) (C:=225) (dd:=pd) (fs:=pageFs m a l) (av:=.str ⟨#[32]⟩) pageO_pd (by kernel_rfl) rfl rfl) IterV.str) (fun i σ=>i=0∧σ=⟨V0,pageO pd a ad l m lines ps,[],[a,ad,l]⟩) (fun σ=>σ=⟨V1,pageO pd a ad l m lines ps,[],[a,ad,l]⟩) ⟨rfl,rfl⟩ ?_ ?_ ?_
   ·rintro i c σi B' Φ₁ hc ⟨rfl,rfl⟩ lb lΦ
    have hc':c=.str ⟨#[32]⟩:=by simp[chars] at hc;exact hc.symm
    subst hc'
    refine⟨_,Tgt.name (by rfl),?_⟩
    refine Bk.for r (xs:=rngL (pairs.length:Int) (-1) pairs.length) (EvIt.of (Ev.call (avs:=[.int (pairs.length:Int),.int 0,.int (-1)]) (Ev.bi rfl (by kernel_rfl) rfl) (Keep.ty _) (EvL.cons (by
      refine Ev.asI e1 ?_
      exact Ev.bin (Ev.methP (Ev.attrI (Ev.name (by rw[hV0];rfl)) (C:=225) (dd:=pd) (fs:=pageFs m a l) (av:=.ref a) pageO_pd (by kernel_rfl) rfl rfl) (GmP.subL (f:=306) (C:=309) (dd:=ad) (fs:=[(n_u_initial_size,.int 0)]) (pageO_a D) (pageO_ad D) (by kernel_rfl) (by decide)) (Keep.k (by kernel_rfl)) EvL.nil (fn_part_count (d:=d+5) (pageO_a D) hsmp)) (Ev.int 1) Op2.sub) (EvL.cons (Ev.int 0) (EvL.cons (Ev.neg (Ev.int 1)) EvL.nil))) (Fn.range3 (by decide) (by decide))) (IterV.rng hsm hsz))
     (fun i σ=>i=0∧σ=Sig.put ⟨V0,pageO pd a ad l m lines ps,[],[a,ad,l]⟩ n_ch (.str ⟨#[32]⟩)) (fun σ=>σ=⟨V1,pageO pd a ad l m lines ps,[],[a,ad,l]⟩) ⟨rfl,rfl⟩ ?_ ?_ ?_
    ·rintro i c σi B'' Φ₂ hc ⟨rfl,rfl⟩ lb lΦ
     have hc':c=.int pairs.length:=by
      unfold rngL at hc
      rw[List.getElem?_map,List.getElem?_range (by(clear hV1 hV0 hsp hsm hsz hsmp e1 hget' hget hne hlt hb r hpsl hpsk hps hov hll hl hx hs D;lia))] at hc
      simp at hc
      exact hc.symm
     subst hc'
     refine⟨_,Tgt.name (by rfl),?_⟩
     refine Bk.ite r (Ts.ev (Ev.strMeth (x:=⟨#[32]⟩) (Ev.name rfl) PySem.F.slot_str_isspace PySem.F.type_str_isspace EvL.nil Fn.isspace) Tr.bool) (fun hb=>?_) (fun hb=>?_)
     ·refine Bk.assign r (Ev.itemT (Ev.itemU (accItems g.w) (Ev.attrI (Ev.name (by rw[hV0];rfl)) (C:=225) (dd:=pd) (fs:=pageFs m a l) (av:=.ref a) pageO_pd (by kernel_rfl) rfl rfl) (pageO_a D) (Ev.name rfl) (by(clear hV1 hV0 hsp hsm hsz hsmp e1 hget' hget hpl hne hlt r hpsl hpsk hps hov hll hl hx hs D;lia)) hget' hsmp) (Ev.int 0) (by(clear hV1 hV0 hsp hsm hsz hsmp e1 hget' hget hpl hne hlt r hpsl hpsk hps hov hll hl hx hs D;lia)) (by rfl) (by simp[small])) (by rfl) ?_
      refine Bk.ite r (Ts.and (Ts.ev (Ev.name rfl) (Tr.str (x:=⟨#[32]⟩) (by show 1≤1000000;(clear hV1 hV0 hsp hsm hsz hsmp e1 hget' hget hpl hne hlt r hpsl hpsk hps hov hll hl hx hs D;lia)))) (Ts.cmp (Ev.itemS (x:=⟨#[32]⟩) (c:=32) (Ev.name rfl) (Ev.int 0) (by(clear hV1 hV0 hsp hsm hsz hsmp e1 hget' hget hpl hne hlt r hpsl hpsk hps hov hll hl hx hs D;lia)) (by rfl) (by show 1≤1000000;(clear hV1 hV0 hsp hsm hsz hsmp e1 hget' hget hpl hne hlt r hpsl hpsk hps hov hll hl hx hs D;lia))) (Ev.name (av:=.str ⟨#[32]⟩) rfl) Op2.eqs)) (fun hb=>?_) (fun hb=>?_)
      ·exact Bk.brk fun Φ s l' y=>show ∃ σ' Φ',σ'=(⟨V1,pageO pd a ad l m lines ps,[],[a,ad,l]⟩:Sig)∧PH.le _ Φ'∧At g _ env σ' _ Φ' s from⟨_,Φ,rfl,l',(y.know (by rw[hV1];exact⟨rfl,rfl,rfl,by rw[hV0];rfl,by rw[hV0];rfl,trivial⟩) rfl rfl rfl)⟩
      ·exact absurd hb (by decide)
     ·rw[hsp] at hb;cases hb
    ·rintro σn ⟨h,_⟩
     rw[rngL_length] at h
     (clear hc lΦ lb hV1 hV0 hsp hsm hsz hsmp e1 hget' hget hne hlt hb r hpsl hpsk hps hov hll hl hx hs D;lia)
    ·rintro σb rfl
     exact Bk.brk fun Φ s l' y=>show ∃ σ' Φ',σ'=(⟨V1,pageO pd a ad l m lines ps,[],[a,ad,l]⟩:Sig)∧PH.le _ Φ'∧At g _ env σ' _ Φ' s from⟨_,Φ,rfl,l',y⟩
   ·rintro σn ⟨h,_⟩
    exact absurd h (by decide)
   ·rintro σb rfl
    have ht:ps.take pairs.length=pairs:=by rw[hps];simp
    have hd:ps.drop pairs.length=[chunkOf x]:=by rw[hps];simp
    refine Bk.assignX r (EvX.meth (EvX.of (Ev.attrI (Ev.name (by rw[hV1];rfl)) (C:=225) (dd:=pd) (fs:=pageFs m a l) (av:=.ref a) pageO_pd (by kernel_rfl) rfl rfl)) (GmA.subL (f:=261) (C:=309) (dd:=ad) (fs:=[(n_u_initial_size,.int 0)]) (pageO_a D) (pageO_ad D) (by kernel_rfl) (by decide)) (Keep.k (by kernel_rfl)) (EvL.cons (Ev.name (av:=.int pairs.length) (by rw[hV1];rfl)) EvL.nil)
     (CallsTo.ownW (fn_acc_pop_from (d:=d+5) a ad ps pairs.length (by(clear hd ht hV1 hV0 hsp hsm hsz hsmp e1 hget' hget hpl hne hlt hb r hpsk hps hov hll hl hx hs D;lia)) D.h4 (by unfold small;(clear hd ht hV1 hV0 hsp hsm hsz hsmp e1 hget' hget hpl hne hlt hb r hpsk hps hov hll hx hs D;lia))) (pageO_accL D) (by simp) (fun b h=>accL_any b h) (accL_mem D.h4 (by simp)))) (by rfl) ?_
    rw[ht,hd]
    refine Bk.ownTo (pageO pd a ad l m lines pairs) [a,ad,l] ?_ (pageO_setA D) (fun b hb=>⟨hb,pageO_mem D (fun _=>List.mem_cons_of_mem _) b hb⟩)
    refine Bk.expr r (EvX.meth (EvX.of (Ev.attrI (Ev.name (by rw[hV1];rfl)) (C:=225) (dd:=pd) (fs:=pageFs m a l) (av:=.ref l) pageO_pd (by kernel_rfl) rfl rfl)) (GmA.list (pageO_l D) PySem.F.slot_list_append PySem.type_list_append) (Keep.bi _) (EvL.cons (Ev.call (Ev.bi rfl (by kernel_rfl) rfl) (Keep.ty _) (EvL.cons (Ev.attrI (Ev.name (by rw[hV1];rfl)) (C:=225) (dd:=pd) (fs:=pageFs m a l) (av:=.ref a) pageO_pd (by kernel_rfl) rfl rfl) EvL.nil) (fn_str_acc (d:=d+3) a ad pairs (pageO_acc D) hs (by(clear hd ht hV1 hV0 hsp hsm hsz hsmp e1 hget' hget hpl hne hlt hb r hpsl hpsk hps hov hll hx hs D;lia)))) EvL.nil)
     (CallsTo.ownS (FnM.append (by unfold small;rw[List.length_map];(clear hd ht hV1 hV0 hsp hsm hsz hsmp e1 hget' hget hpl hne hlt hb r hpsl hpsk hps hov hl hx hs D;lia))) (pageO_l D) (by simp))) rfl ?_
    refine Bk.ownTo (pageO pd a ad l m (lines++[lineOf pairs]) pairs) [a,ad,l] ?_ (pageO_setL D (by rw[List.map_append];rfl)) (fun b hb=>⟨hb,pageO_mem D (fun _=>List.mem_cons_of_mem _) b hb⟩)
    refine Bk.expr r (EvX.meth (EvX.of (Ev.attrI (Ev.name (by rw[hV1];rfl)) (C:=225) (dd:=pd) (fs:=pageFs m a l) (av:=.ref a) pageO_pd (by kernel_rfl) rfl rfl)) (GmA.subL (f:=291) (C:=309) (dd:=ad) (fs:=[(n_u_initial_size,.int 0)]) (pageO_a D) (pageO_ad D) (by kernel_rfl) (by decide)) (Keep.k (by kernel_rfl)) (EvL.cons (Ev.name (av:=.lst ([chunkOf x].map pairAV)) rfl) EvL.nil)
     (CallsTo.ownW (fn_acc_reset1 (d:=d+5) a ad pairs [chunkOf x] D.h4 (by unfold small;simp;(clear hd ht hV1 hV0 hsp hsm hsz hsmp e1 hget' hget hpl hne hlt hb r hpsl hpsk hps hov hll hx hs D;lia))) (pageO_accL D) (by simp) (fun b h=>accL_any b h) (accL_mem D.h4 (fun _ h=>h)))) rfl ?_
    refine Bk.ownTo (pageO pd a ad l m (lines++[lineOf pairs]) [chunkOf x]) [a,ad,l] ?_ (pageO_setA D) (fun b hb=>⟨hb,pageO_mem D (fun _=>List.mem_cons_of_mem _) b hb⟩)
    refine Bk.go (Bk.nil (FQ.none (ω':=pageO pd a ad l m (lines++[lineOf pairs]) [chunkOf x]) ⟨rfl,rfl⟩ (fun b ov q=>⟨q,.inl (by
     have:=pageO_mem (m:=m) (lines:=lines) (p:=pairs) D (mt:=[b]) (by
      intro c hc;rw[List.mem_singleton.mp hc]
      rcases pageO_c q with ⟨rfl,_⟩ | ⟨rfl,_⟩ | ⟨rfl,_⟩ | ⟨rfl,_⟩<;>simp) b (by simp)
     exact this)⟩)).2)
  ·have hlt:¬ m<(accN ps:Nat):=by simpa using hb
   rw[if_neg hlt]
   exact Bk.nil (FQ.none (ω':=pageO pd a ad l m lines ps) ⟨rfl,rfl⟩ (fun b ov q=>⟨q,.inl (by
    have:=pageO_mem (m:=m) (lines:=lines) (p:=pairs) D (mt:=[b]) (by
     intro c hc;rw[List.mem_singleton.mp hc]
     rcases pageO_c q with ⟨rfl,_⟩ | ⟨rfl,_⟩ | ⟨rfl,_⟩ | ⟨rfl,_⟩<;>simp) b (by simp)
    exact this)⟩)).2
end
end
variable {g:Glob} {d:Nat} {ω:Ow}
noncomputable def markStep (st:Str × Str) (p:Str × Str):Str × Str:=
 let t1:=if !(((⟨#[]⟩:Str)==st.2)||((p.2==st.2)||false)) then st.1++⟨#[1]⟩ else st.1
 let t2:=if !(((⟨#[]⟩:Str)==p.2)||((st.2==p.2)||false)) then t1++(⟨#[0]⟩++p.2) else t1
 (t2++p.1,p.2)
noncomputable def markRun (row:List (Str × Str)):Str × Str:=row.foldl markStep (⟨#[]⟩,⟨#[]⟩)
theorem markRun_snoc (r:List (Str × Str)) (p:Str × Str):markRun (r++[p])=markStep (markRun r) p:=by simp -iota [markRun,List.foldl_append]
theorem ok_nil:PyData.strOk ⟨#[]⟩=true:=by simp -iota [PyData.strOk]
noncomputable def rowAV (row:List (Str × Str)):AV:=.lst (row.map fun p=>.tup [.str p.1,.str p.2])
noncomputable def short (p:Str × Str):Prop:=p.1.length≤1∧p.2.length≤1∧PyData.strOk p.1=true∧PyData.strOk p.2=true
theorem markStep_len (st p:Str × Str) (hp:short p):(markStep st p).1.length≤st.1.length+4:=by
 obtain⟨h1,h2,_⟩:=hp
 have e1:(⟨#[1]⟩:Str).length=1:=rfl
 have e0:(⟨#[0]⟩:Str).length=1:=rfl
 unfold markStep
 simp only[len_app]
 split<;>split<;>(try simp only[len_app,e1,e0])<;>(clear e0 e1;lia)
theorem markRun_len (r:List (Str × Str)) (h:∀ p∈r,short p):(markRun r).1.length≤4*r.length:=by
 have:∀ r:List (Str × Str),(∀ p∈r,short p)→(markRun r.reverse).1.length≤4*r.length:=by
  intro r
  induction r with
  | nil=>intro _;exact Nat.le_refl _
  | cons c cs ih=>
   intro h
   rw[List.reverse_cons,markRun_snoc]
   have:=markStep_len (markRun cs.reverse) c (h c List.mem_cons_self)
   have:=ih fun p hp=>h p (List.mem_cons_of_mem _ hp)
   simp only[List.length_cons];lia
 simpa using this r.reverse (by simpa using h)
theorem fn_law_marked (row:List (Str × Str)) (hr:∀ p∈row,short p) (hl:row.length≤1000):Fn g (d+2) ω (.ref 369) [rowAV row] [] (.str (markRun (row++[(⟨#[]⟩,⟨#[]⟩)])).1):=by
 refine Fn.any (FnM.fn (FnM.body (o:=Mine.Internal.hd.zo_374 g.w.params) (by kernel_rfl) rfl rfl {} rfl (by decide) (bind_pos (ps:=[n_row]) (by exact fun _=>rfl) rfl) (by kernel_rfl) (by decide) (Nat.succ_pos d) fun A env Φ B r=>?_))
 ·refine Bk.assignT r (by exact(Ev.tup (EvL.cons (Ev.str _) (EvL.cons (Ev.str _) EvL.nil)) (sml rfl))) (Tgt.pair rfl rfl) ?_ rfl (fun env h=>by cases env;cases h;rfl)
  obtain⟨R,hR⟩:∃ R,R=row++[((⟨#[]⟩:Str),(⟨#[]⟩:Str))]:=⟨_,rfl⟩
  have hRs:∀ p∈R,short p:=by
   rw[hR];intro p hp
   rcases List.mem_append.mp hp with h | h
   ·exact hr p h
   ·simp -iota at h;subst h;exact⟨Nat.zero_le _,Nat.zero_le _,ok_nil,ok_nil⟩
  have hRl:R.length≤1001:=by rw[hR];simp;(clear hRs hR r hr;lia)
  have hst:∀ i c,R[i]?=some c→markRun (R.take (i+1))=markStep (markRun (R.take i)) c:=fun i c h=>by
   rw[List.take_add_one,h];exact markRun_snoc _ _
  have hln:∀ i,(markRun (R.take i)).1.length≤4*1001:=fun i=>by
   have:=markRun_len (R.take i) (fun p hp=>hRs p (List.mem_of_mem_take hp))
   have h2:(R.take i).length≤R.length:=by simp -iota [List.length_take];(clear this hst hRl hRs hR r hl hr;lia)
   (clear hst hRs hR r hl hr;lia)
  have hR2:row.map (fun p=>AV.tup [.str p.1,.str p.2])++[AV.tup [.str ⟨#[]⟩,.str ⟨#[]⟩]]=R.map (fun p=>AV.tup [.str p.1,.str p.2]):=by rw[hR];simp
  refine Bk.forS r (xs:=R.map (fun p=>AV.tup [.str p.1,.str p.2])) (fun i=>⟨[(n_text,.str (markRun (R.take i)).1),(n_mark,.str (markRun (R.take i)).2),(n_row,rowAV row)],[],[],[]⟩) ⟨rfl,rfl,rfl,trivial⟩ ?_ (fun i y B' Φ₁ hy lb lΦ=>?_) ?_
  ·rw[←hR2]
   refine EvIt.of (Ev.bin (Ev.name (av:=rowAV row) rfl) (by exact(Ev.lst (EvL.cons (Ev.tup (EvL.cons (Ev.str _) (EvL.cons (Ev.str _) EvL.nil)) (sml rfl)) EvL.nil) (sml rfl))) (Op2.addL ?_)) IterV.lst
   simp -iota [small];(clear hR2 hln hst hRl hRs hR r hr;lia)
  ·obtain⟨c,hc,rfl⟩:∃ c,R[i]?=some c∧AV.tup [.str c.1,.str c.2]=y:=by
    rw[List.getElem?_map,Option.map_eq_some_iff] at hy
    exact hy
   refine⟨_,Tgt.pair rfl rfl,?_⟩
   have hs:=hst i c hc
   have hli:=hln i
   have hsh:short c:=hRs c (List.mem_of_getElem? hc)
   have hmk:PyData.strOk (markRun (R.take i)).2=true:=by
    cases i with
    | zero=>exact ok_nil
    | succ j=>
     have hj:j<R.length:=by have:=(List.getElem?_eq_some_iff.mp hc).1;(clear hli hs hy hc hsh lΦ lb hR2 hln hst hRl hRs hR r hl hr;lia)
     rw[hst j R[j] (List.getElem?_eq_getElem hj)]
     exact(hRs R[j] (List.getElem_mem hj)).2.2.2
   refine Bk.iteJ r (Ts.cmp (Ev.name rfl) (Ev.tup (EvL.cons (Ev.str _) (EvL.cons (Ev.name rfl) EvL.nil)) (sml rfl)) (Op2.ninT (PlainD.str (n:=0) hmk).plain (PlainD.tup2 (PlainD.str (n:=0) ok_nil) (PlainD.str hsh.2.2.2)).plain))
    ⟨[(n_text,.str (if !(((⟨#[]⟩:Str)==(markRun (R.take i)).2)||((c.2==(markRun (R.take i)).2)||false)) then(markRun (R.take i)).1++⟨#[1]⟩ else(markRun (R.take i)).1)),(n_mark,.str (markRun (R.take i)).2),(n_letter,.str c.1),(n_kind,.str c.2),(n_row,rowAV row)],[],[],[]⟩ (fun hb=>?_) (fun hb=>?_) ?_
   ·refine Bk.aug r rfl rfl (Ev.str _) (Op2.iadds ?_) (Bk.join _ ⟨?_,rfl,rfl,rfl,rfl,trivial⟩)
    ·show(markRun (R.take i)).1.length+1≤1000000;(clear hb hmk hsh hs hy hc lΦ lb hR2 hln hst hRl hRs hR r hl hr;lia)
    ·exact congrArg (fun t=>some (AV.str t)) (if_pos hb).symm
   ·exact Bk.join _ ⟨congrArg (fun t=>some (AV.str t)) (if_neg (fun q=>Bool.false_ne_true (hb.symm.trans q))).symm,rfl,rfl,rfl,rfl,trivial⟩
   obtain⟨T1,hT1⟩:∃ T1,T1=(if !(((⟨#[]⟩:Str)==(markRun (R.take i)).2)||((c.2==(markRun (R.take i)).2)||false)) then(markRun (R.take i)).1++⟨#[1]⟩ else(markRun (R.take i)).1):=⟨_,rfl⟩
   have hT1l:T1.length≤4*1001+1:=by
    have e1:(⟨#[1]⟩:Str).length=1:=rfl
    rw[hT1];split<;>(try simp -iota only[len_app,e1])<;>(clear e1 hT1 hmk hsh hs hy hc lΦ lb hR2 hln hst hRl hRs hR r hl hr;lia)
   rw[←hT1]
   refine Bk.iteJ r (Ts.cmp (Ev.name rfl) (Ev.tup (EvL.cons (Ev.str _) (EvL.cons (Ev.name rfl) EvL.nil)) (sml rfl)) (Op2.ninT (PlainD.str (n:=0) hsh.2.2.2).plain (PlainD.tup2 (PlainD.str (n:=0) ok_nil) (PlainD.str hmk)).plain))
    ⟨[(n_text,.str (if !(((⟨#[]⟩:Str)==c.2)||(((markRun (R.take i)).2==c.2)||false)) then T1++(⟨#[0]⟩++c.2) else T1)),(n_mark,.str (markRun (R.take i)).2),(n_letter,.str c.1),(n_kind,.str c.2),(n_row,rowAV row)],[],[],[]⟩ (fun hb=>?_) (fun hb=>?_) ?_
   ·refine Bk.aug r rfl rfl (Ev.bin (Ev.str _) (Ev.name rfl) (Op2.adds ?_)) (Op2.iadds ?_) (Bk.join _ ⟨?_,rfl,rfl,rfl,rfl,trivial⟩)
    ·have e0:(Str.ofString "\x00").length=1:=rfl
     have:=hsh.2.1
     unfold small;rw[e0];(clear e0 hb hT1l hT1 hmk hsh hli hs hy hc lΦ lb hR2 hln hst hRl hRs hR r hl hr;lia)
    ·have e0:(Str.ofString "\x00").length=1:=rfl
     have:=hsh.2.1
     unfold small;rw[len_app,e0];(clear e0 hb hT1 hmk hsh hli hs hy hc lΦ lb hR2 hln hst hRl hRs hR r hl hr;lia)
    ·exact congrArg (fun t=>some (AV.str t)) (if_pos hb).symm
   ·exact Bk.join _ ⟨congrArg (fun t=>some (AV.str t)) (if_neg (fun q=>Bool.false_ne_true (hb.symm.trans q))).symm,rfl,rfl,rfl,rfl,trivial⟩
   refine Bk.aug r rfl rfl (Ev.name rfl) (Op2.iadds ?_) ?_
   ·have e0:(⟨#[0]⟩:Str).length=1:=rfl
    have:=hsh.2.1
    have:=hsh.1
    unfold small;split<;>(try simp -iota only[len_app,e0])<;>(clear e0 hT1 hmk hsh hli hs hy hc lΦ lb hR2 hln hst hRl hRs hR r hl hr;lia)
   refine Bk.assign r (by exact(Ev.name rfl)) rfl ?_
   refine Bk.nextS _ rfl ?_
   rw[hs,hT1]
   exact⟨rfl,rfl,rfl,trivial⟩
  ·have e:R.take (R.map fun p=>AV.tup [.str p.1,.str p.2]).length=R:=by rw[List.length_map];exact List.take_of_length_le (Nat.le_refl _)
   rw[e,hR]
   exact Bk.retQ r (by exact(Ev.name rfl)) rfl
section
open PySem.Builtin PySem.Builtin.Str
section
variable {g:Glob} {d:Nat} {sc:Scope} {σ:Sig} {env:Env} {A:Around} {Φ₀ B:PH} {rest:List Stmt} {Q:Flow→Shared→Prop} {ω:Ow}
theorem pageO_keep {pd a ad l:Addr} {m:Int} {lines lines':List Str} {p q:List (Str × Str)} (D:PgD pd a ad l) {mt:List Addr}:∀ b ov,(pageO pd a ad l m lines' q).lookup b=some ov→((pageO pd a ad l m lines p).lookup b).isSome=true∨b∈mt:=fun b ov e=>.inl (by
 have:=pageO_mem (m:=m) (lines:=lines) (p:=p) D (mt:=[b]) (by
  intro c hc;rw[List.mem_singleton.mp hc]
  rcases pageO_c e with ⟨rfl,_⟩ | ⟨rfl,_⟩ | ⟨rfl,_⟩ | ⟨rfl,_⟩<;>simp) b (by simp)
 exact this)
theorem acc_obga (w:World):OwnedBy w 309 "list.__getattribute__" "list" "__getattribute__":=⟨by kernel_rfl,by first | exact .inl (by decide +kernel) | exact .inr (by decide +kernel),by kernel_rfl,by decide +kernel⟩
theorem fn_newline {pd a ad l:Addr} (D:PgD pd a ad l) (m:Int) (lines:List Str) (init:List (Str × Str)) (x:Str) (hs:∀ p∈init++[chunkOf x],pairOk p) (hl:init.length≤900) (hll:lines.length≤900) (hn:accN (init++[chunkOf x])≠0)
  (hsp:Txt.isspace (lineOf (init++[chunkOf x]))=false) (hxo:PyData.strOk x=true) (hxe:PyData.eqv (Mine.Internal.pd (pairAV (chunkOf x))) (Mine.Internal.pd (.tup [.str ⟨#[32]⟩,.str ⟨#[]⟩]))=false) :
  FnM g (d+9) [a,ad,l] (pageO pd a ad l m lines (init++[chunkOf x])) (.ref 187) [instAV 225 pd] [] (fun r ω'=>r=.none∧ω'=pageO pd a ad l m (lines++[lineOf (init++[chunkOf x])]) []):=by
 obtain⟨ps,hps⟩:∃ ps,ps=init++[chunkOf x]:=⟨_,rfl⟩
 have hpsl:ps.length=init.length+1:=by rw[hps];simp
 have hsi:∀ p∈init,pairOk p:=fun p hp=>hs p (List.mem_append_left _ hp)
 have ok32:PyData.strOk (⟨#[32]⟩:Str)=true:=by simp[PyData.strOk]
 refine FnC.fnM (FnC.body (o:=Mine.Internal.hd.zo_211 g.w.params) (by kernel_rfl) rfl rfl {} rfl (by decide) (bind_pos (ps:=[n_self]) (by exact fun _=>rfl) rfl) (by kernel_rfl) (pageO_mem D (fun _=>List.mem_cons_of_mem _)) (Nat.succ_pos _) fun A env Φ B r=>?_)
 ·refine Bk.assignX r (EvX.meth (EvX.of (Ev.attrI (Ev.name rfl) (C:=225) (dd:=pd) (fs:=pageFs m a l) (av:=.ref a) pageO_pd (by kernel_rfl) rfl rfl)) (GmA.subL (f:=269) (C:=309) (dd:=ad) (fs:=[(n_u_initial_size,.int 0)]) (pageO_a D) (pageO_ad D) (by kernel_rfl) (by decide)) (Keep.k (by kernel_rfl)) EvL.nil
   (CallsTo.ownW (fn_acc_pop (d:=d+5) a ad init (chunkOf x) D.h4 (by unfold small;(clear r ok32 hsi hpsl hps hxe hxo hsp hn hll hs D;lia))) (pageO_accL D) (by simp[putAll,Sig.put]) (fun b h=>accL_any b h) (accL_mem D.h4 (by simp)))) (by rfl) ?_
  refine Bk.ownTo (pageO pd a ad l m lines init) [a,ad,l] ?_ (pageO_setA D) (fun b hb=>⟨hb,pageO_mem D (fun _=>List.mem_cons_of_mem _) b hb⟩)
  refine Bk.ite r (Ts.cmp (Ev.name (av:=pairAV (chunkOf x)) rfl) (Ev.tup (EvL.cons (Ev.str _) (EvL.cons (Ev.str _) EvL.nil)) (by simp[small])) (Op2.ne (PlainD.tup2 (PlainD.str (n:=0) ok32) (PlainD.str hxo)).plain (PlainD.tup2 (PlainD.str (n:=0) ok32) (PlainD.str ok_nil)).plain)) (fun hb=>?_) (fun hb=>?_)
  ·refine Bk.expr r (EvX.star (elems:=[.str ⟨#[32]⟩,.str x]) (f:=253) (of:=Mine.Internal.hd.zo_269 g.w.params) (Ev.attrI (Ev.name rfl) (C:=225) (dd:=pd) (fs:=pageFs m a l) (av:=.ref a) pageO_pd (by kernel_rfl) rfl rfl) (pageO_a D) (pageO_ad D) (by kernel_rfl) (acc_obga g.w) (by decide) (by kernel_rfl) rfl rfl (Ev.name rfl) (by simp[small]) (fnC_acc_push (d:=d+6) a ad init ⟨#[32]⟩ x D.h4 (by unfold small;(clear hb r ok32 hsi hpsl hps hxe hxo hsp hn hll hs D;lia))) (pageO_accL D) (by simp) (fun b h=>accL_any b h) (accL_mem D.h4 (by simp))) rfl ?_
   refine Bk.ownTo (pageO pd a ad l m lines ps) [a,ad,l] ?_ (by rw[hps];exact pageO_setA D) (fun b hb=>⟨hb,pageO_mem D (fun _=>List.mem_cons_of_mem _) b hb⟩)
   rw[←hps] at hs hn hsp ⊢
   refine Bk.go ?_
   refine Bk.ite r (Ts.cmp (Ev.call (Ev.bi rfl (by kernel_rfl) rfl) (Keep.bi _) (EvL.cons (Ev.attrI (Ev.name rfl) (C:=225) (dd:=pd) (fs:=pageFs m a l) (av:=.ref a) pageO_pd (by kernel_rfl) rfl rfl) EvL.nil) (fn_len_acc (d:=d+5) a ad ps (pageO_acc D) hs (by(clear hb r ok32 hsi hps hs hn hsp hxe hxo hll D;lia)))) (Ev.int 0) Op2.gt) (fun hb=>?_) (fun hb=>?_)
   ·refine Bk.ite r (b:=false) (Ts.and0 (Ts.as hsp (Ts.ev (Ev.methP (Ev.attrI (Ev.name rfl) (C:=225) (dd:=pd) (fs:=pageFs m a l) (av:=.ref a) pageO_pd (by kernel_rfl) rfl rfl) (GmP.subL (f:=298) (C:=309) (dd:=ad) (fs:=[(n_u_initial_size,.int 0)]) (pageO_a D) (pageO_ad D) (by kernel_rfl) (by decide)) (Keep.k (by kernel_rfl)) EvL.nil (fn_is_onlyws (d:=d+3) a ad ps (pageO_acc D) hs (by(clear r ok32 hsi hps hs hn hsp hxe hxo hll D;lia)) hn)) Tr.bool))) (fun h=>nomatch h) (fun _=>?_)
    refine Bk.expr r (EvX.meth (EvX.of (Ev.attrI (Ev.name rfl) (C:=225) (dd:=pd) (fs:=pageFs m a l) (av:=.ref l) pageO_pd (by kernel_rfl) rfl rfl)) (GmA.list (pageO_l D) PySem.F.slot_list_append PySem.type_list_append) (Keep.bi _) (EvL.cons (Ev.call (Ev.bi rfl (by kernel_rfl) rfl) (Keep.ty _) (EvL.cons (Ev.attrI (Ev.name rfl) (C:=225) (dd:=pd) (fs:=pageFs m a l) (av:=.ref a) pageO_pd (by kernel_rfl) rfl rfl) EvL.nil) (fn_str_acc (d:=d+4) a ad ps (pageO_acc D) hs (by(clear r ok32 hsi hps hs hn hsp hxe hxo hll D;lia)))) EvL.nil)
     (CallsTo.ownS (FnM.append (by unfold small;rw[List.length_map];(clear r ok32 hsi hpsl hps hs hn hsp hxe hxo hl D;lia))) (pageO_l D) (by simp))) rfl ?_
    refine Bk.ownTo (pageO pd a ad l m (lines++[lineOf ps]) ps) [a,ad,l] ?_ (pageO_setL D (by rw[List.map_append];rfl)) (fun b hb=>⟨hb,pageO_mem D (fun _=>List.mem_cons_of_mem _) b hb⟩)
    refine Bk.go (Bk.go ?_)
    refine Bk.expr r (EvX.meth (EvX.of (Ev.attrI (Ev.name rfl) (C:=225) (dd:=pd) (fs:=pageFs m a l) (av:=.ref a) pageO_pd (by kernel_rfl) rfl rfl)) (GmA.subL (f:=291) (C:=309) (dd:=ad) (fs:=[(n_u_initial_size,.int 0)]) (pageO_a D) (pageO_ad D) (by kernel_rfl) (by decide)) (Keep.k (by kernel_rfl)) EvL.nil
     (CallsTo.ownW (fn_acc_reset0 (d:=d+6) a ad ps D.h4 (by unfold small;simp;(clear r ok32 hsi hps hs hn hsp hxe hxo hll D;lia))) (pageO_accL D) (by simp) (fun b h=>accL_any b h) (accL_mem D.h4 (fun _ h=>h)))) rfl ?_
    refine Bk.ownTo (pageO pd a ad l m (lines++[lineOf ps]) []) [a,ad,l] ?_ (pageO_setA D) (fun b hb=>⟨hb,pageO_mem D (fun _=>List.mem_cons_of_mem _) b hb⟩)
    exact Bk.nil (FQ.none (ω':=pageO pd a ad l m (lines++[lineOf ps]) []) ⟨rfl,rfl⟩ (fun b ov q=>⟨q,pageO_keep D b ov q⟩)).2
   ·exfalso
    simp at hb
    (clear r ok32 hsi hpsl hps hs hsp hxe hxo hll hl D;lia)
  ·exfalso
   have hb':(!PyData.eqv (Mine.Internal.pd (pairAV (chunkOf x))) (Mine.Internal.pd (.tup [.str ⟨#[32]⟩,.str ⟨#[]⟩])))=false:=hb
   rw[hxe] at hb'
   cases hb'
end
end
section
open PySem.Builtin PySem.Builtin.Str
section
variable {g:Glob} {d:Nat} {sc:Scope} {σ:Sig} {env:Env} {A:Around} {Φ₀ B:PH} {rest:List Stmt} {Q:Flow→Shared→Prop} {ω:Ow}
theorem Bk.retX {e:PySem.Expr} {pos:Pos} {av:AV} {σ':Sig} (r:Room d A) (h:EvX g d sc σ e av σ') (k:∀ Φ v s,PH.le Φ₀ Φ→At g sc env σ' B Φ s→Rep Φ av v→Q (.ret v) s):Bk g sc env A Φ₀ B σ (.Return (some e) pos::rest) Q:=.step fun Φ s l y=>
 wpAny_Return_some (h.run r y fun Φ' v s' l' y' rp=>k Φ' v s' (l.trans l') y' rp)
theorem fn_vf_str {pd a ad l:Addr} (D:PgD pd a ad l) (m:Int) (lines:List Str) (init:List (Str × Str)) (x nl:Str) (hs:∀ p∈init++[chunkOf x],pairOk p) (hl:init.length≤900) (hll:lines.length≤900) (hn:accN (init++[chunkOf x])≠0)
  (hsp:Txt.isspace (lineOf (init++[chunkOf x]))=false) (hxo:PyData.strOk x=true) (hxe:PyData.eqv (Mine.Internal.pd (pairAV (chunkOf x))) (Mine.Internal.pd (.tup [.str ⟨#[32]⟩,.str ⟨#[]⟩]))=false) (hj:JoinOk nl (lines++[lineOf (init++[chunkOf x])])=true) :
  FnM g (d+10) [a,ad,l] (pageO pd a ad l m lines (init++[chunkOf x])) (.ref 173) [instAV 225 pd,.str nl] [] (fun r ω'=>r=.str (Txt.join nl (lines++[lineOf (init++[chunkOf x])]))∧ω'=pageO pd a ad l m (lines++[lineOf (init++[chunkOf x])]) []):=by
 refine FnC.fnM (FnC.body (o:=Mine.Internal.hd.zo_197 g.w.params) (by kernel_rfl) rfl rfl {} rfl (by decide) (bind_pos (ps:=[n_self,n_linesep]) (by exact fun _ _=>rfl) rfl) (by kernel_rfl) (pageO_mem D (fun _=>List.mem_cons_of_mem _)) (Nat.succ_pos _) fun A env Φ B r=>?_)
 ·refine Bk.expr r (EvX.meth (EvX.of (Ev.name rfl)) (GmA.inst (C:=225) (dd:=pd) (f:=187) (fs:=pageFs m a l) pageO_pd (by kernel_rfl) (show _∉[n_u_current_line,n_u_lines,n_u_splitchars,n_u_continuation_ws_len,n_u_continuation_ws,n_u_maxlen] by decide)) (Keep.k (by kernel_rfl)) EvL.nil
   (CallsTo.ownW (fn_newline D m lines init x hs hl hll hn hsp hxo hxe) (fun b ov e=>e) (fun b hb=>hb) (fun b h=>by
    obtain⟨ov,h⟩:=Option.isSome_iff_exists.mp h
    exact(pageO_keep (mt:=[]) D b ov h).resolve_right (by simp)) (pageO_mem D (fun _=>List.mem_cons_of_mem _)))) rfl ?_
  refine Bk.ownTo (pageO pd a ad l m (lines++[lineOf (init++[chunkOf x])]) []) [a,ad,l] ?_ (fun b ov e=>?_) (fun b hb=>⟨hb,pageO_mem D (fun _=>List.mem_cons_of_mem _) b hb⟩)
  ·refine Bk.ret r (Ev.strMeth (Ev.name rfl) PySem.F.slot_str_join PySem.F.type_str_join (EvL.cons (Ev.attrI (Ev.name rfl) (C:=225) (dd:=pd) (fs:=pageFs m a l) (av:=.ref l) pageO_pd (by kernel_rfl) rfl rfl) EvL.nil) (Fn.joinO (pageO_l D) hj)) fun Φ v s l' y rp=>?_
   exact FQ.ret (ω':=pageO pd a ad l m (lines++[lineOf (init++[chunkOf x])]) []) y l' (PH.le.refl _) rp ⟨rfl,rfl⟩ (fun b ov q=>⟨q,pageO_keep D b ov q⟩)
  ·show List.lookup b (pageO pd a ad l m (lines++[lineOf (init++[chunkOf x])]) []++_)=_
   rw[lookup_app,e];rfl
noncomputable def PageK (pd:Addr) (m:Int) (ω':Ow):Prop:=∀ X:Ow→Prop,(∀ a ad l,PgD pd a ad l→X (pageO pd a ad l m [] []))→X ω'
theorem PageK.elim {pd:Addr} {m:Int} {X:Ow→Prop} (k:∀ a ad l,PgD pd a ad l→X (pageO pd a ad l m [] [])) (ω':Ow) (h:PageK pd m ω'):X ω':=h X k
set_option maxHeartbeats 1000000 in
theorem fn_vf_init (m:Int) (pd:Addr):FnC g (d+6) [pd] [(pd,.dict [])] (.ref 166) [instAV 225 pd,.int 0,.int m,.str ⟨#[32]⟩,.str ⟨#[32]⟩] [] (fun r ω'=>r=.none∧PageK pd m ω'):=by
 refine FnC.body (o:=Mine.Internal.hd.zo_190 g.w.params) (by kernel_rfl) rfl rfl {} rfl (by decide) (bind_pos (ps:=[n_self,n_headerlen,n_maxlen,n_continuation_ws,n_splitchars]) (by exact fun _ _ _ _ _=>rfl) rfl) (by kernel_rfl) (by simp) (Nat.succ_pos _) fun A env Φ B r=>?_
 ·refine Bk.setE (C:=225) (dd:=pd) r (EvX.of (Ev.name rfl)) (by kernel_rfl) (fs:=[]) (Nat.le_of_ble_eq_true rfl) lk_eq mA (Ev.name rfl) ?_
  refine Bk.setE (C:=225) (dd:=pd) r (EvX.of (Ev.name rfl)) (by kernel_rfl) (fs:=[(n_u_maxlen,.int m)]) (Nat.le_of_ble_eq_true rfl) lk_eq mA (Ev.name rfl) ?_
  refine Bk.setE (C:=225) (dd:=pd) r (EvX.of (Ev.call (c:=.int 1) (Ev.bi rfl (by kernel_rfl) rfl) (Keep.bi _) (by exact(EvL.cons (Ev.name rfl) EvL.nil)) (Fn.strLen (x:=⟨#[32]⟩) (by show 1≤1000000;lia)))) (by kernel_rfl) (fs:=[(n_u_continuation_ws,.str ⟨#[32]⟩),(n_u_maxlen,.int m)]) (Nat.le_of_ble_eq_true rfl) lk_eq mA (Ev.name rfl) ?_
  refine Bk.setE (C:=225) (dd:=pd) r (EvX.of (Ev.name rfl)) (by kernel_rfl) (fs:=[(n_u_continuation_ws_len,.int 1),(n_u_continuation_ws,.str ⟨#[32]⟩),(n_u_maxlen,.int m)]) (Nat.le_of_ble_eq_true rfl) lk_eq mA (Ev.name rfl) ?_
  refine Bk.setI (C:=225) (dd:=pd) r (EvK.list EvL.nil (by simp[small])) (by kernel_rfl) (fs:=[(n_u_splitchars,.str ⟨#[32]⟩),(n_u_continuation_ws_len,.int 1),(n_u_continuation_ws,.str ⟨#[32]⟩),(n_u_maxlen,.int m)]) (Nat.le_of_ble_eq_true rfl) ?_
  refine NewL.elim fun l hl=>?_
  have hlp:l≠pd:=lk_n1 hl
  refine⟨lk_s hlp.symm lk_eq,mB,Ev.name rfl,?_⟩
  refine Bk.ownS [(pd,.dict [(n_u_lines,.ref l),(n_u_splitchars,.str ⟨#[32]⟩),(n_u_continuation_ws_len,.int 1),(n_u_continuation_ws,.str ⟨#[32]⟩),(n_u_maxlen,.int m)]),(l,.lst [])] [pd,l] ?_ ⟨⟨lk_eq,mB⟩,⟨lk_s hlp lk_eq,mA⟩,trivial⟩
  refine Bk.setI (C:=225) (dd:=pd) r (EvK.made (Ev.glob (av:=.raw (.ref 309)) rfl (by kernel_rfl) (fun _=>rep_raw)) (Keep.k (by kernel_rfl)) (by exact(EvL.cons (Ev.name rfl) EvL.nil)) (FnC.makeL (fI:=246) (P:=fun a ad ω'=>ω'=accL a ad []) (makesIn_acc g.w) (by kernel_rfl) (Nat.succ_pos _) (fun a dd hne=>fn_acc_init (d:=d+2) a dd hne)).fnM) (by kernel_rfl) (fs:=[(n_u_lines,.ref l),(n_u_splitchars,.str ⟨#[32]⟩),(n_u_continuation_ws_len,.int 1),(n_u_continuation_ws,.str ⟨#[32]⟩),(n_u_maxlen,.int m)]) (Nat.le_of_ble_eq_true rfl) ?_
  refine MadeK.elimL fun a ad ω' hne hP hnew=>?_
  subst hP
  have ha:=hnew a (by rw[(accOwn_of hne).1];rfl)
  have had:=hnew ad (by rw[(accOwn_of hne).2];rfl)
  have hap:a≠pd:=lk_n1 ha
  have hadp:ad≠pd:=lk_n1 had
  have hal:l≠a:=(lk_n1 (lk_n2 ha)).symm
  have hadl:l≠ad:=(lk_n1 (lk_n2 had)).symm
  refine⟨lk_s hap.symm (lk_s hadp.symm lk_eq),mC,Ev.name rfl,?_⟩
  exact Bk.nil (FQ.none (ω':=pageO pd a ad l m [] []) ⟨rfl,fun X k=>k a ad l ⟨hap,hadp,hlp,hne,hal,hadl⟩⟩ (OwnIn.fin ⟨⟨lk_eq,mC⟩,⟨lk_s hap lk_eq,mA⟩,⟨lk_s hadp (lk_s hne lk_eq),mB⟩,⟨lk_s hlp (lk_s hal (lk_s hadl (lk_s hlp lk_eq))),mD⟩,trivial⟩)).2
end
end
section
open PySem.Builtin PySem.Builtin.Str
section
variable {g:Glob} {d:Nat} {sc:Scope} {σ:Sig} {env:Env} {A:Around} {Φ₀ B:PH} {rest:List Stmt} {Q:Flow→Shared→Prop} {ω:Ow}
noncomputable def foldStep (m:Nat) (st:List Str × List (Str × Str)) (x:Str):List Str × List (Str × Str):=if m<accN (st.2++[chunkOf x]) then(st.1++[lineOf st.2],[chunkOf x]) else(st.1,st.2++[chunkOf x])
noncomputable def foldRun (m:Nat) (cs:List Nat):List Str × List (Str × Str):=cs.foldl (fun st c=>foldStep m st ⟨#[c]⟩) ([],[])
theorem foldRun_snoc (m:Nat) (cs:List Nat) (c:Nat):foldRun m (cs++[c])=foldStep m (foldRun m cs) ⟨#[c]⟩:=by simp[foldRun,List.foldl_append]
theorem chunk_ok (c:Nat):pairOk (chunkOf ⟨#[c]⟩):=by show 1+1≤100;lia
structure FoldI (m:Nat) (cs:List Nat):Prop where
 ok:∀ p∈(foldRun m cs).2,pairOk p
 len:(foldRun m cs).2.length≤cs.length
 lns:(foldRun m cs).1.length≤cs.length
theorem foldI (m:Nat) (cs:List Nat):FoldI m cs:=by
 have key:∀ cs:List Nat,FoldI m cs.reverse:=by
  intro cs
  induction cs with
  | nil=>exact⟨fun p hp=>by simp[foldRun] at hp,Nat.le_refl _,Nat.le_refl _⟩
  | cons c cs ih=>
   obtain⟨h1,h2,h3⟩:=ih
   rw[List.reverse_cons]
   refine⟨?_,?_,?_⟩<;>rw[foldRun_snoc]<;>unfold foldStep<;>split
   ·intro p hp;rw[List.mem_singleton.mp hp];exact chunk_ok c
   ·intro p hp
    rcases List.mem_append.mp hp with h | h
    ·exact h1 p h
    ·rw[List.mem_singleton.mp h];exact chunk_ok c
   ·simp
   ·simp at h2 ⊢;(clear h3 h1;lia)
   ·simp at h3 ⊢;(clear h2 h1;lia)
   ·simp at h3 ⊢;(clear h2 h1;lia)
 have:=key cs.reverse
 rwa [List.reverse_reverse] at this
theorem fold_last (m:Nat) (cs:List Nat) (c:Nat):∃ init,(foldRun m (cs++[c])).2=init++[chunkOf ⟨#[c]⟩]:=by
 rw[foldRun_snoc]
 unfold foldStep
 split
 ·exact⟨[],rfl⟩
 ·exact⟨_,rfl⟩
theorem accN_one (c:Nat):accN ([]++[chunkOf ⟨#[c]⟩])=2:=rfl
noncomputable def foldedText (m:Nat) (cs:List Nat):Str:=Txt.join ⟨#[10]⟩ ((foldRun m cs).1++[lineOf (foldRun m cs).2])
set_option maxHeartbeats 1000000 in
theorem fn_law_folded (w:Nat) (hw:1≤w) (hw2:w≤1000) (cs:List Nat) (c:Nat) (hl:cs.length≤800) (hn:accN (foldRun (2*w) (cs++[c])).2≠0)
  (hsp:Txt.isspace (lineOf (foldRun (2*w) (cs++[c])).2)=false) (hxo:PyData.strOk ⟨#[c]⟩=true) (hxe:PyData.eqv (Mine.Internal.pd (pairAV (chunkOf ⟨#[c]⟩))) (Mine.Internal.pd (.tup [.str ⟨#[32]⟩,.str ⟨#[]⟩]))=false) (hj:JoinOk ⟨#[10]⟩ ((foldRun (2*w) (cs++[c])).1++[lineOf (foldRun (2*w) (cs++[c])).2])=true) :
  Fn g (d+12) ω (.ref 383) [.str ⟨(cs++[c]).toArray⟩,.int w] [] (.str (foldedText (2*w) (cs++[c]))):=by
 obtain⟨C,hC⟩:∃ C,C=cs++[c]:=⟨_,rfl⟩
 have hCl:C.length≤801:=by rw[hC];simp;(clear hC hj hxe hxo hsp hn hw2 hw;lia)
 refine Fn.any (FnM.fn (FnC.fnM (FnC.body (o:=Mine.Internal.hd.zo_388 g.w.params) (by kernel_rfl) rfl rfl {} rfl (by decide) (bind_pos (ps:=[n_letters,n_width]) (by exact fun _ _=>rfl) rfl) (by kernel_rfl) noM (Nat.succ_pos _) fun A env Φ B r=>?_)))
 ·refine Bk.assignK r (EvK.made (avs:=[.int 0,.int ((2*w:Nat):Int),.str ⟨#[32]⟩,.str ⟨#[32]⟩]) (Ev.glob (av:=.raw (.ref 225)) rfl (by kernel_rfl) (fun _=>rep_raw)) (Keep.k (by kernel_rfl)) (EvL.cons (Ev.int 0) (EvL.cons (by
    have e:((2*w:Nat):Int)=2*(w:Int):=by push_cast;rfl
    refine Ev.saI e ?_
    exact Ev.bin (Ev.int 2) (Ev.name rfl) (Op2.mul (IntMulOk.of_left (by decide)))) (EvL.cons (Ev.str _) (EvL.cons (Ev.str _) EvL.nil)))) (FnC.make (P:=fun dd=>PageK dd ((2*w:Nat):Int)) (fI:=166) (by kernel_rfl) (Nat.succ_pos _) (fun dd=>fn_vf_init (d:=d+4) _ dd)).fnM) ?_
  refine MadeK.elim fun pd=>PageK.elim fun a ad l D hnew=>⟨rfl,?_⟩
  refine Bk.ownTo (pageO pd a ad l ((2*w:Nat):Int) [] []) [a,ad,l] ?_ (fun b ov q=>?_) (fun b hb=>?_)
  ·rw[←hC] at hn hsp hj ⊢
   have hst:∀ i c,C[i]?=some c→foldRun (2*w) (C.take (i+1))=foldStep (2*w) (foldRun (2*w) (C.take i)) ⟨#[c]⟩:=fun i c h=>by
    rw[List.take_add_one,h];exact foldRun_snoc _ _ _
   refine Bk.forS r (xs:=chars ⟨C.toArray⟩) (fun i=>⟨[(n_page,instAV 225 pd),(n_letters,.str ⟨C.toArray⟩),(n_width,.int w)],pageO pd a ad l ((2*w:Nat):Int) (foldRun (2*w) (C.take i)).1 (foldRun (2*w) (C.take i)).2,[],[a,ad,l]⟩) ⟨rfl,rfl,rfl,trivial⟩ (EvIt.of (Ev.name rfl) IterV.str) (fun i y B' Φ₁ hy lb lΦ=>?_) ?_
   ·obtain⟨c',hc',rfl⟩:∃ c',C[i]?=some c'∧AV.str ⟨#[c']⟩=y:=by
     unfold chars at hy
     rw[List.getElem?_map,Option.map_eq_some_iff] at hy
     exact hy
    have I:=foldI (2*w) (C.take i)
    have hti:(C.take i).length≤C.length:=by simp[List.length_take];(clear I hy hc' lΦ lb hst hnew D r hCl hC hn hsp hj hxe hxo hl hw2 hw;lia)
    have hl1:=I.len
    have hl2:=I.lns
    refine⟨_,Tgt.name (by rfl),?_⟩
    refine Bk.expr r (EvX.meth (EvX.of (Ev.name rfl)) (GmA.inst (C:=225) (dd:=pd) (f:=222) (fs:=pageFs ((2*w:Nat):Int) a l) pageO_pd (by kernel_rfl) (show _∉[n_u_current_line,n_u_lines,n_u_splitchars,n_u_continuation_ws_len,n_u_continuation_ws,n_u_maxlen] by decide)) (Keep.k (by kernel_rfl)) (EvL.cons (Ev.str _) (EvL.cons (Ev.name rfl) EvL.nil))
     (CallsTo.ownW (fn_append_chunk (d:=d+3) D ((2*w:Nat):Int) (foldRun (2*w) (C.take i)).1 (foldRun (2*w) (C.take i)).2 ⟨#[c']⟩ I.ok (chunk_ok c') (by(clear hl2 I hy hc' lΦ lb hst hnew D r hC hn hsp hj hxe hxo hl hw2 hw;lia)) (by(clear hl1 I hy hc' lΦ lb hst hnew D r hC hn hsp hj hxe hxo hl hw2 hw;lia)) (fun h q=>by
       rw[q,accN_one] at h
       have:(2*w:Nat)<2:=by exact_mod_cast h
       (clear this q hl2 hl1 hti I hy hc' lΦ lb hst hnew D r hCl hC hn hsp hj hxe hxo hl hw2;lia))) (fun b ov e=>e) (fun b hb=>hb) (fun b h=>?_) ?_)) rfl ?_
    ·split at h <;>
     ·obtain⟨ov,h⟩:=Option.isSome_iff_exists.mp h
      exact(pageO_keep (mt:=[]) D b ov h).resolve_right (by simp)
    ·split<;>exact pageO_mem D (fun _=>List.mem_cons_of_mem _)
    ·have hs:=hst i c' hc'
     refine Bk.ownTo (pageO pd a ad l ((2*w:Nat):Int) (foldRun (2*w) (C.take (i+1))).1 (foldRun (2*w) (C.take (i+1))).2) [a,ad,l] ?_ (fun b ov e=>?_) (fun b hb=>⟨hb,pageO_mem D (fun _=>List.mem_cons_of_mem _) b hb⟩)
     ·exact Bk.nextS _ rfl ⟨rfl,rfl,rfl,trivial⟩
     ·show List.lookup b ((if ((2*w:Nat):Int)<_ then _ else _)++_)=_
      rw[lookup_app]
      rw[hs] at e
      unfold foldStep at e
      by_cases h:2*w<accN ((foldRun (2*w) (C.take i)).2++[chunkOf ⟨#[c']⟩])
      ·rw[if_pos h] at e
       rw[if_pos (by exact_mod_cast h),e];rfl
      ·rw[if_neg h] at e
       rw[if_neg (by exact_mod_cast h),e];rfl
   ·have e:C.take (chars ⟨C.toArray⟩).length=C:=by rw[chars_length];exact List.take_of_length_le (by simp)
    rw[e]
    have I:=foldI (2*w) C
    have hl1:=I.len
    have hl2:=I.lns
    obtain⟨init,hi⟩:=fold_last (2*w) cs c
    rw[←hC] at hi
    have hok:=I.ok
    unfold foldedText
    rw[hi] at hn hsp hj hok hl1 ⊢
    simp only[List.length_append,List.length_cons,List.length_nil] at hl1
    refine Bk.retX r (EvX.meth (EvX.of (Ev.name rfl)) (GmA.inst (C:=225) (dd:=pd) (f:=173) (fs:=pageFs ((2*w:Nat):Int) a l) pageO_pd (by kernel_rfl) (show _∉[n_u_current_line,n_u_lines,n_u_splitchars,n_u_continuation_ws_len,n_u_continuation_ws,n_u_maxlen] by decide)) (Keep.k (by kernel_rfl)) (EvL.cons (Ev.str _) EvL.nil)
     (CallsTo.ownW (fn_vf_str (d:=d+1) D ((2*w:Nat):Int) (foldRun (2*w) C).1 init ⟨#[c]⟩ ⟨#[10]⟩ hok (by(clear hok hi hn hsp hj hl2 I e hst hnew D r hC hxe hxo hl hw2 hw;lia)) (by(clear hl1 hok hi hn hsp hj I e hst hnew D r hC hxe hxo hl hw2 hw;lia)) hn hsp hxo hxe hj) (fun b ov e=>e) (fun b hb=>hb) (fun b h=>by
      obtain⟨ov,h⟩:=Option.isSome_iff_exists.mp h
      exact(pageO_keep (mt:=[]) D b ov h).resolve_right (by simp)) (pageO_mem D (fun _=>List.mem_cons_of_mem _)))) fun Φ v s l' y rp=>?_
    exact FQ.ret (ω':=[]) y l' (PH.le.refl _) rp rfl noO
  ·show List.lookup b (pageO pd a ad l ((2*w:Nat):Int) [] []++_)=_
   rw[lookup_app,q];rfl
  ·refine⟨?_,pageO_mem D (fun _=>List.mem_cons_of_mem _) b hb⟩
   show b∈[pd,a,ad,l]++_
   simp at hb ⊢
   rcases hb with h | h | h<;>simp[h]
end
end
section
variable {g:Glob} {d:Nat} {ω:Ow}
noncomputable def bodyOf (o:Obj):List Stmt:=match o.data with
 | .func fd=>(match fd.body with
  | .stmts b=>b
  | _=>[])
 | _=>[]
noncomputable def nestP (l:List Stmt):Arguments:=Mine.Internal.hd.fP (Mine.Internal.hd.nest l)
noncomputable def nestB (l:List Stmt):List Stmt:=Mine.Internal.hd.fB (Mine.Internal.hd.nest l)
noncomputable def nestS (l:List Stmt):Scope:=Mine.Internal.hd.fS (Mine.Internal.hd.nest l)
theorem half_facts {k:Nat} (h:¬ k≤1):1≤k/2∧k/2<k∧1≤k-k/2∧k-k/2<k∧k/2+(k-k/2)=k:=
 have h2:2≤k:=Nat.lt_of_not_le h
 have h0:0<k:=Nat.lt_of_lt_of_le (by decide) h2
 have a:1≤k/2:=Nat.div_pos h2 (by decide)
 have b:k/2<k:=Nat.div_lt_self h0 (by decide)
 ⟨a,b,Nat.sub_pos_of_lt b,Nat.sub_lt h0 a,Nat.add_sub_cancel' (Nat.le_of_lt b)⟩
theorem half_le {k m:Nat} (h:k≤m) (hm:m≤1000):k/2≤500:=Nat.div_le_div_right (c:=2) (Nat.le_trans h hm)
theorem rdh (a b:Nat) (h:b+1≤a):a-b-1+b+1=a:=by rw[Nat.sub_sub,Nat.add_assoc,Nat.sub_add_cancel h]
theorem lt64 {n:Nat} (h:n≤1000):-2^64<(n:Int)∧(n:Int)<2^64:=by omega
theorem bits27 {a b:Nat} (h1:a≤10000) (h2:b≤500*1000):(a:Int)+(b:Int)≤2^27:=by lia
theorem mid_eq (L k:Nat):((L:Int)+((L+k:Nat):Int)).fdiv (2^(1:Int).toNat)=((L+k/2:Nat):Int):=by
 have e:(L:Int)+((L+k:Nat):Int)=((L+L+k:Nat):Int):=by rw[Nat.add_assoc,Int.natCast_add L (L+k)]
 rw[e,show(1:Int).toNat=1 from rfl,fdiv_cast (L+L+k) 1]
 exact congrArg Nat.cast (show(L+L+k)/2=L+k/2 by rw[←Nat.two_mul,Nat.mul_add_div (by decide)])
theorem mid_mul (L k n:Nat):(((L+k/2:Nat):Int)-(L:Int))*(n:Int)=((k/2*n:Nat):Int):=by
 have:((L+k/2:Nat):Int)-(L:Int)=((k/2:Nat):Int):=by rw[Int.natCast_add,Int.add_comm,Int.add_sub_cancel]
 rw[this];push_cast;rfl
theorem end_eq (L k:Nat):((L:Int)+1==((L+k:Nat):Int))=decide (k=1):=by
 by_cases h:k=1
 ·subst h;simp
 ·simp[h];lia
theorem gl_DIV {w:World}:∃ t,globK w ("_DIV_LIMIT":Str)=some (some (.int 4000 t)):=⟨_,by rfl⟩
theorem fn_div2n1n (a b:Int) (n:Int) (hb:b≠0) (hl:b.natAbs.log2<9000) (h:(Builtin.Int.intBits a:Int)-n≤4000):Fn g (d+2) ω (.ref 124) [.int a,.int b,.int n] [] (.tup [.int (a.fdiv b),.int (a.fmod b)]):=by
 refine Fn.any (FnM.fn (FnM.body (o:=Mine.Internal.hd.zo_155 g.w.params) (by kernel_rfl) rfl rfl {} rfl (by decide) (bind_pos (ps:=[n_a,n_b,n_n]) (by exact fun _ _ _=>rfl) rfl) (by kernel_rfl) (by decide) (Nat.succ_pos d) fun A env Φ B r=>?_))
 ·obtain⟨t,ht⟩:=gl_DIV (w:=g.w)
  refine Bk.ite r (b:=true) ?_ (fun _=>?_) (fun h=>nomatch h)
  ·have e:(decide ((Builtin.Int.intBits a:Int)-n≤4000))=true:=decide_eq_true h
   refine Ts.as e ?_
   exact Ts.cmp (Ev.bin (Ev.bitLength (Ev.name rfl)) (Ev.name rfl) Op2.sub) (Ev.glob rfl ht (fun _=>rep_int)) Op2.le
  ·exact Bk.retQ1 r (Ev.call (Ev.bi rfl (by kernel_rfl) rfl) (Keep.bi _) (by exact(EvL.cons (Ev.name rfl) (EvL.cons (Ev.name rfl) EvL.nil))) (Fn.divmod hb hl)) rfl
end
section
variable {g:Glob} {d:Nat} {sc:Scope} {σ:Sig} {env:Env} {A:Around} {Φ Ψ B Φ₀ Φ':PH} {s:Shared}
noncomputable def CellAt (Φ:PH) (c:Addr) (v:Value):Prop:=∃ o,Φ c=some o∧o.data=.cell (some v)
theorem CellAt.mono {c:Addr} {v:Value} (h:CellAt Φ c v) (l:PH.le Φ Φ'):CellAt Φ' c v:=h.imp fun _ q=>⟨l _ _ q.1,q.2⟩
noncomputable def CellsAt (Φ:PH) (clos:List (Str × Addr)):Prop:=∀ x c,clos.lookup x=some c→∃ v,CellAt Φ c v
inductive N3 (x1 q:Str) (P:Arguments) (Bd:List Stmt) (S:Scope) (av:AV) (n:Int) (Φ:PH) (f:Addr):Prop
 | mk (clos:List (Str × Addr)) (c1 c2 c3:Addr) (h1:clos.lookup x1=some c1) (h2:clos.lookup n_inner=some c2) (h3:clos.lookup n_n=some c3) (h4:CellsAt Φ clos) (v:Value) (q1:CellAt Φ c1 v) (s1:Rep Φ av v) (q2:CellAt Φ c2 (.ref f)) (t:Tok) (q3:CellAt Φ c3 (.int n t)) (doc pm c ctv:Value)
  (q4:Φ f=some {cls:=.type "function",data:=.func (nestFd n_inner q P Bd S clos doc pm c ctv)}) (q5:IsCodeAt Φ c q)
noncomputable def n3AV (x1 q:Str) (P:Arguments) (Bd:List Stmt) (S:Scope) (av:AV) (n:Int):AV:=.sat fun Φ v=>∃ f,v=.ref f∧N3 x1 q P Bd S av n Φ f
section
theorem lvc {x y:Str} {a b:AV} {l:List (Str × AV)} (h:List.lookup y ((x,a)::l)=some b):(x=y∧a=b)∨l.lookup y=some b:=by
 rw[List.lookup_cons] at h
 by_cases e:(y==x)=true
 ·rw[e] at h;cases h;exact .inl ⟨(beq_iff_eq.mp e).symm,rfl⟩
 ·rw[eq_false_of_ne_true e] at h;exact .inr h
variable {x1 q:Str} {P:Arguments} {Bd:List Stmt} {S:Scope} {av:AV} {n:Int}
theorem N3.mono {f:Addr} (h:N3 x1 q P Bd S av n Φ f) (l:PH.le Φ Φ'):N3 x1 q P Bd S av n Φ' f:=by
 cases h with
 | mk clos c1 c2 c3 h1 h2 h3 h4 v q1 s1 q2 t q3 doc pm c ctv q4 q5=>
  exact .mk clos c1 c2 c3 h1 h2 h3 (fun x c e=>(h4 x c e).imp fun _ z=>z.mono l) v (q1.mono l) (Rep.mono l _ _ s1) (q2.mono l) t (q3.mono l) doc pm c ctv (l _ _ q4) (q5.mono l)
@[elab_as_elim] theorem n3_elim {X:Value→Prop} {v:Value} (h:Rep Φ (n3AV x1 q P Bd S av n) v) (k:∀ f,N3 x1 q P Bd S av n Φ f→X (.ref f)):X v:=by
 obtain⟨Φ₁,l,f,e,h⟩:=h
 rw[e]
 exact k f (h.mono l)
theorem n3_keep {fav:AV} (hfav:fav=n3AV x1 q P Bd S av n) (Φ:PH) (s:Shared) (v:Value) (hs:Sub Φ s.heap) (hv:Rep Φ fav v):∃ k,(k=Keeper.frame∨k=Keeper.machine∨k=Keeper.boundFrame)∧Looks (model PR g.w) s.heap (keeperOf v) k:=by
 rw[hfav] at hv
 refine n3_elim hv fun f hf=>?_
 cases hf with
 | mk clos c1 c2 c3 h1 h2 h3 h4 v q1 s1 q2 t q3 doc pm c ctv q4 q5=>exact keeps_F s.heap ⟨_,_,_,_,hs _ _ q4⟩
noncomputable def free3 (S:Scope) (x1:Str):Bool:=S.names.all fun p=>!(p.2==.free)||(p.1==x1||p.1==n_inner||p.1==n_n)
theorem free3_of (h:free3 S x1=true) {x:Str} (hm:(x,NameKind.free)∈S.names):x1=x∨n_inner=x∨n_n=x:=by
 have:=List.all_eq_true.mp h _ hm
 simp only[beq_self_eq_true,Bool.not_true,Bool.false_or,Bool.or_eq_true,beq_iff_eq] at this
 exact sw3 (or_assoc.mp this)
theorem n3_make {fav:AV} (hfav:n3AV x1 q P Bd S av n=fav) (y:At g sc env σ B Φ s) (k1:kindIn sc x1=some .cell) (k2:kindIn sc n_inner=some .cell) (k3:kindIn sc n_n=some .cell)
  (hz:σ.frz=[]) (z2:n_inner∉[x1]) (z3:n_n∉[n_inner,x1])
  (e1:σ.vars.lookup x1=some av) (e2:σ.vars.lookup n_inner=some (nestAV n_inner q P Bd S (closL env.cells S.names []))) (e3:σ.vars.lookup n_n=some (.int n))
  (hu:nodupB (S.names.map (·.1))=true) (hf:free3 S x1=true) (m1:S.names.lookup x1=some .free) (m2:S.names.lookup n_inner=some .free) (m3:S.names.lookup n_n=some .free) :
  ∃ Φ',PH.le Φ Φ'∧At g sc env ⟨(n_inner,fav)::σ.vars,σ.own,n_n::n_inner::x1::σ.frz,σ.mt⟩ B Φ' s:=by
 subst hfav
 refine box fun X kX=>?_
 obtain⟨Φ1,c1,o1,v1,l1,q1,q2,q3,q4,y1⟩:=y.freezeCell k1 (hz▸List.not_mem_nil) e1
 obtain⟨Φ2,c2,o2,v2,l2,w1,w2,w3,w4,y2⟩:=y1.freezeCell k2 (hz▸z2) e2
 obtain⟨Φ3,c3,o3,v3,l3,u1,u2,u3,u4,y3⟩:=y2.freezeCell k3 (hz▸z3) e3
 obtain⟨t3,e4⟩:=int_inv u4
 obtain⟨f,doc,pm,c,ctv,e5,i1,i2⟩:=nest_inv w4
 have hcl:∀ x,(closL env.cells S.names []).lookup x=if (x,NameKind.free)∈S.names then env.cells.lookup x else none:=closL_lookup env.cells S.names [] (nodupB_ok hu) fun x hx=>by
  rcases free3_of hf hx with rfl | rfl | rfl
  ·exact⟨c1,q1⟩
  ·exact⟨c2,w1⟩
  ·exact⟨c3,u1⟩
 have p1:CellAt Φ3 c1 v1:=⟨o1,l3 _ _ (l2 _ _ q2),q3⟩
 have p2:CellAt Φ3 c2 (.ref f):=⟨o2,l3 _ _ w2,by rw[w3,e5]⟩
 have p3:CellAt Φ3 c3 (.int n t3):=⟨o3,u2,by rw[u3,e4]⟩
 have I:N3 x1 q P Bd S av n Φ3 f:=.mk (closL env.cells S.names []) c1 c2 c3 ((hcl _).trans ((if_pos (mem_of_lookup m1)).trans q1)) ((hcl _).trans ((if_pos (mem_of_lookup m2)).trans w1)) ((hcl _).trans ((if_pos (mem_of_lookup m3)).trans u1))
  (fun x c' e=>by
   rw[hcl] at e
   by_cases hm:(x,NameKind.free)∈S.names
   ·rw[if_pos hm] at e
    rcases free3_of hf hm with rfl | rfl | rfl
    ·cases q1.symm.trans e;exact⟨_,p1⟩
    ·cases w1.symm.trans e;exact⟨_,p2⟩
    ·cases u1.symm.trans e;exact⟨_,p3⟩
   ·rw[if_neg hm] at e;cases e) v1 p1 (Rep.mono (l2.trans l3) _ _ q4) p2 t3 p3 doc pm c ctv (l3 _ _ i1) (i2.mono l3)
 exact kX ⟨Φ3,l1.trans (l2.trans l3),y3.learnC (x:=n_inner) k2 w1 (l3 _ _ w2) w3 (rep_sat ⟨f,e5,I⟩)⟩
theorem n3_call {fav:AV} {v:Value} {vs:List Value} {avs:List AV} {ps:List Str} {ω:Ow} {mt:List Addr} {R:AV→Ow→Prop} (hfav:n3AV x1 q P Bd S av n=fav) (r:Room (d+1) A) (hd0:0<d) (hp:Hp g Φ Ψ s) (ho:Owns Φ Ψ ω) (hmt:∀ a∈mt,(ω.lookup a).isSome=true) (hv:Rep Φ fav v)
  (hc:S.isCoroutine=false) (hg:S.isGenerator=false) (hk:S.kind=.function) (hu:nodupB (S.names.map (·.1))=true) (hf:free3 S x1=true) (m1:varKind S x1=true) (m2:varKind S n_inner=true) (m3:varKind S n_n=true) (j1:kindIn S x1=some .free) (j2:kindIn S n_inner=some .free) (j3:kindIn S n_n=some .free)
  (hb:∀ clos doc pm c ctv,AllVs avs.length fun vs=>bindArgs (nestFd n_inner q P Bd S clos doc pm c ctv) ⟨vs,[]⟩=pure (ps.zip vs)) (hl:ps.length=avs.length) (ra:RepL Φ avs vs) (hst:(ps.all fun x=>stB S ⟨[(x1,av),(n_inner,fav),(n_n,.int n)],ω,[],mt⟩ x)=true)
  (k:∀ A env B,Room d A→Bk g S env A Φ B (putAll ⟨[(x1,av),(n_inner,fav),(n_n,.int n)],ω,[],mt⟩ ps avs) Bd (FQ g S env Φ B ω R)):W g.w A (call v vs []) (MPost g Φ Ψ mt ω R) s:=by
 subst hfav
 refine n3_elim (X:=fun v=>Rep Φ (n3AV x1 q P Bd S av n) v→W g.w A (call v vs []) (MPost g Φ Ψ mt ω R) s) hv (fun f hf' hv=>?_) hv
 cases hf' with
 | mk clos c1 c2 c3 h1 h2 h3 h4 v1 q1 s1 q2 t q3 doc pm c ctv q4 q5=>
  refine box fun bX bk=>?_
  obtain⟨binds,b1,b2,b3⟩:=bind_pos (hb clos doc pm c ctv) hl Φ Ψ s vs [] hp ra rfl repL_nil
  refine bk ?_
  clear bk bX
  refine wpAny_call (call_C (fd:=nestFd n_inner q P Bd S clos doc pm c ctv) (body:=Bd) (binds:=binds) (ps:=ps) (avs:=avs) (cv:=[(x1,av),(n_inner,n3AV x1 q P Bd S av n),(n_n,.int n)]) r hd0 hp ho hmt (hp.getΦ q4) rfl rfl (nest_rec hp q5) hc hg hk (nodupB_ok hu) rfl rfl b1 b2 b3 hst
   (fun y cc e=>(h4 y cc e).elim fun v ⟨o,z1,z2⟩=>⟨o,z1,_,z2⟩) (fun y e=>?_) ?_ fun A env B r _=>k A env B r)
  ·rcases free3_of hf (mem_of_lookup e) with rfl | rfl | rfl
   ·exact⟨_,h1⟩
   ·exact⟨_,h2⟩
   ·exact⟨_,h3⟩
  ·have cv:∀ {x:Str} {a:AV} {c:Addr} {v:Value},varKind S x=true→kindIn S x=some .free→clos.lookup x=some c→CellAt Φ c v→Rep Φ a v→varKind S x=true∧kindIn S x=some .free∧∃ c o v,clos.lookup x=some c∧Φ c=some o∧o.data=.cell (some v)∧Rep Φ a v:=
    fun i1 i2 i3 ⟨o,i4,i5⟩ i6=>⟨i1,i2,_,o,_,i3,i4,i5,i6⟩
   intro y a e
   rcases lvc e with ⟨rfl,rfl⟩ | e
   ·exact cv m1 j1 h1 q1 s1
   ·rcases lvc e with ⟨rfl,rfl⟩ | e
    ·exact cv m2 j2 h2 q2 hv
    ·rcases lvc e with ⟨rfl,rfl⟩ | e
     ·exact cv m3 j3 h3 q3 rep_int
     ·cases e
end
end
section
variable {g:Glob}
noncomputable def d2P (w:World):Arguments:=nestP (bodyOf (Mine.Internal.hd.zo_176 w.params))
noncomputable def d2B (w:World):List Stmt:=nestB (bodyOf (Mine.Internal.hd.zo_176 w.params))
noncomputable def d2S (w:World):Scope:=nestS (bodyOf (Mine.Internal.hd.zo_176 w.params))
noncomputable def d2q:Str:={cps:={toList:=[95,100,105,103,105,116,115,50,105,110,116,46,60,108,111,99,97,108,115,62,46,105,110,110,101,114]}}
noncomputable def d2AV (w:World) (n:Nat) (xs:List Nat):AV:=n3AV n_digits d2q (d2P w) (d2B w) (d2S w) (.lst (intRow xs)) n
theorem d2_call (n:Nat) (hn:n≤1000) (xs:List Nat) (hxs:xs.length≤100) (hb:∀ x∈xs,x<2^10000):∀ (k:Nat),1≤k→k≤100→∀ (d L:Nat) (R:Int),L+k≤xs.length→R=((L+k:Nat):Int) →
  PalV g (d+k+1) (d2AV g.w n xs) [.int L,.int R] (.int (valR n ((xs.drop L).take k):Nat)):=by
 intro k
 induction k using Nat.strongRecOn with
 | _ k ih=>
  intro hk1 hk d L R hL hR
  subst hR
  refine⟨n3_keep rfl,fun A Φ Ψ s v vs r hp hv ra=>?_⟩
  refine wpAny_mono (n3_call (ps:=[n_L,n_R]) (ω:=[]) (mt:=[]) (R:=fun r _=>r=.int (valR n ((xs.drop L).take k):Nat)) (d:=d+k) rfl r (Nat.add_pos_right d hk1) hp Owns.nil noM hv rfl rfl rfl (by kernel_rfl) (by kernel_rfl) (by kernel_rfl) (by kernel_rfl) (by kernel_rfl) (by kernel_rfl) (by kernel_rfl) (by kernel_rfl) (fun _ _ _ _ _=>by exact fun _ _=>rfl) rfl ra rfl fun A env B r=>?_) (fun v s' h=>MPost.ret h) fun _ _ e=>e
  ·have hk':=end_eq L k
   refine Bk.ite r (b:=decide (k=1)) (Ts.as hk' (Ts.cmp (Ev.bin (Ev.name rfl) (Ev.int 1) Op2.add) (Ev.name rfl) Op2.eqi)) (fun hb1=>?_) (fun hb1=>Bk.go ?_)
   ·have h1:k=1:=of_decide_eq_true hb1
    subst h1
    have hget:xs[L]?=some xs[L]:=List.getElem?_eq_getElem (by(clear hb1 hk' ra hk hk1 ih hv hp hb hxs hn;lia))
    have e:valR n ((xs.drop L).take 1)=xs[L]:=by
     have hlt:L<xs.length:=by(clear hget hb1 hk' ra hk hk1 ih hv hp hb hxs hn;lia)
     rw[List.drop_eq_getElem_cons hlt,List.take_succ_cons,List.take_zero];show xs[L]+2^n*0=_
     (clear hget hb1 hk' ra hk hk1 ih hv hp hb hxs hn;lia)
    rw[e]
    exact Bk.retQ1 r (Ev.item (Ev.name rfl) (Ev.name rfl) (by(clear e hget hb1 hk' ra hL hk hk1 ih hv hp hb hxs hn;lia)) (by rw[Int.toNat_natCast];unfold intRow;rw[List.getElem?_map,hget];rfl) (by unfold intRow;simp[small];(clear e hget hb1 hk' ra hL hk hk1 ih hv hp hb hn;lia))) rfl
   ·have h1:¬ k≤1:=fun q=>of_decide_eq_false hb1 (Nat.le_antisymm q hk1)
    have e1:=mid_eq L k
    refine box fun bX bk=>?_
    obtain⟨p1,p2,p3,p4,p5⟩:=half_facts h1
    refine bk ?_
    clear bk bX
    refine Bk.assign (av:=.int ((L+k/2:Nat):Int)) r (Ev.asI e1 (Ev.bin (Ev.bin (Ev.name rfl) (Ev.name rfl) Op2.add) (Ev.int 1) (Op2.shr (by decide)))) rfl ?_
    have e2:=mid_mul L k n
    refine Bk.assign (av:=.int ((k/2*n:Nat):Int)) r (Ev.asI e2 (Ev.bin (Ev.bin (Ev.name rfl) (Ev.name rfl) Op2.sub) (Ev.name rfl) (Op2.mul (IntMulOk.of_right (intBits_le_64 (lt64 hn).1 (lt64 hn).2))))) rfl ?_
    have rd1:d+k-k/2-1+k/2+1=d+k:=rdh _ _ (Nat.le_trans p2 (Nat.le_add_left k d))
    have rd2:d+k-(k-k/2)-1+(k-k/2)+1=d+k:=rdh _ _ (Nat.le_trans p4 (Nat.le_add_left k d))
    have c1:=ih (k/2) p2 p1 (Nat.le_trans (Nat.le_of_lt p2) hk) (d+k-k/2-1) L ((L+k/2:Nat):Int) (Nat.le_trans (Nat.add_le_add_left (Nat.le_of_lt p2) L) hL) rfl
    have c2:=ih (k-k/2) p4 p3 (Nat.le_trans (Nat.le_of_lt p4) hk) (d+k-(k-k/2)-1) (L+k/2) ((L+k:Nat):Int) (by rw[Nat.add_assoc,p5];exact hL) (by rw[Nat.add_assoc,p5])
    rw[rd1] at c1
    rw[rd2] at c2
    have hsp:(xs.drop L).take k=(xs.drop L).take (k/2)++(xs.drop (L+k/2)).take (k-k/2):=by
     rw[←List.drop_drop,←List.take_add]
     rw[p5]
    have hl1:((xs.drop L).take (k/2)).length=k/2:=by rw[List.length_take,List.length_drop];exact Nat.min_eq_left (Nat.le_trans (Nat.le_of_lt p2) (Nat.le_sub_of_add_le (by rw[Nat.add_comm];exact hL)))
    have hv2:valR n ((xs.drop (L+k/2)).take (k-k/2))<2^200000:=by
     refine Nat.lt_of_lt_of_le (valR_lt n _ fun x hx=>hb x (List.mem_of_mem_drop (List.mem_of_mem_take hx))) (Nat.pow_le_pow_right (by(clear hl1 hsp c2 c1 rd2 rd1 e2 p5 p4 p3 p2 p1 e1 h1 hb1 hk' ra hv hp hL hk hk1 ih hb hxs hn;lia)) ?_)
     have:((xs.drop (L+k/2)).take (k-k/2)).length≤100:=by simp;(clear hl1 hsp c2 c1 rd2 rd1 e2 p5 p4 p3 p2 p1 e1 h1 hb1 hk' ra hv hp hL hk hk1 ih hb hn;lia)
     have:(n+1)*((xs.drop (L+k/2)).take (k-k/2)).length≤1001*100:=Nat.mul_le_mul (by(clear this hl1 hsp c2 c1 rd2 rd1 e2 p5 p4 p3 p2 p1 e1 h1 hb1 hk' ra hv hp hL hk hk1 ih hb hxs;lia)) this
     (clear hl1 hsp c2 c1 rd2 rd1 e2 p5 p4 p3 p2 p1 e1 h1 hb1 hk' ra hv hp hL hk hk1 ih hb hxs hn;lia)
    have hb2:k/2*n≤500*1000:=Nat.mul_le_mul (half_le hk (by decide)) hn
    have e3:((valR n ((xs.drop (L+k/2)).take (k-k/2)):Nat):Int)*2^(((k/2*n:Nat):Int)).toNat+((valR n ((xs.drop L).take (k/2)):Nat):Int)=((valR n ((xs.drop L).take k):Nat):Int):=by
     rw[hsp,valR_append,hl1,Int.toNat_natCast]
     push_cast
     rw[Int.mul_comm];(clear hb2 hv2 hl1 hsp c2 c1 rd2 rd1 e2 p5 p4 p3 p2 p1 e1 h1 hb1 hk' ra hv hp hL hk hk1 ih hb hxs hn;lia)
    rw[←e3]
    exact Bk.retQ r (Ev.bin (Ev.bin (Ev.callV (Ev.name rfl) (by exact(EvL.cons (Ev.name rfl) (EvL.cons (Ev.name rfl) EvL.nil))) c2) (Ev.name rfl) (Op2.shl (by(clear e3 hb2 hv2 hl1 hsp c2 c1 rd2 rd1 e2 p5 p4 p3 p2 p1 e1 h1 hb1 hk' ra hv hp hL hk hk1 ih hb hxs hn;lia)) (by have:=bits_le hv2;(clear e3 hv2 hl1 hsp c2 c1 rd2 rd1 e2 p5 p4 p3 p2 p1 e1 h1 hb1 hk' ra hv hp hL hk hk1 ih hb hxs hn;lia)))) (Ev.callV (Ev.name rfl) (by exact(EvL.cons (Ev.name rfl) (EvL.cons (Ev.name rfl) EvL.nil))) c1) Op2.add) rfl
noncomputable def i2P (w:World):Arguments:=nestP (bodyOf (Mine.Internal.hd.zo_169 w.params))
noncomputable def i2B (w:World):List Stmt:=nestB (bodyOf (Mine.Internal.hd.zo_169 w.params))
noncomputable def i2S (w:World):Scope:=nestS (bodyOf (Mine.Internal.hd.zo_169 w.params))
noncomputable def i2q:Str:={cps:={toList:=[95,105,110,116,50,100,105,103,105,116,115,46,60,108,111,99,97,108,115,62,46,105,110,110,101,114]}}
noncomputable def i2AV (w:World) (n:Nat) (a:Addr):AV:=n3AV n_a_digits i2q (i2P w) (i2B w) (i2S w) (.ref a) n
theorem i2_cal (n:Nat) (a:Addr) {D:Nat} {sc:Scope} {σ:Sig} {L k x:Nat} {xs:List AV} {R:Int} (ho:σ.own.lookup a=some (.lst xs)) (hm:a∈σ.mt) (hR:R=((L+k:Nat):Int))
  (h:∀ (A:Around) (Φ Ψ:PH) (s:Shared) (v:Value) (vs:List Value),Room D A→Hp g Φ Ψ s→Owns Φ Ψ [(a,.lst xs)]→Rep Φ (i2AV g.w n a) v→RepL Φ [.int x,.int L,.int ((L+k:Nat):Int)] vs→W g.w A (call v vs []) (MPost g Φ Ψ [a] [(a,.lst xs)] (fun r ω'=>r=.none∧ω'=[(a,.lst (spl xs L (intRow (digs n k x))))])) s) :
  CalV g D sc σ (i2AV g.w n a) [.int x,.int L,.int R] .none (σ.set a (.lst (spl xs L (intRow (digs n k x))))):=by
 subst hR
 exact⟨n3_keep rfl,fun A env B Φ s v vs r y hv ra=>y.mpost ho hm fun Ψ hp how=>h A Φ Ψ s v vs r hp how hv ra⟩
theorem i2_call (n:Nat) (a:Addr) (hn:n≤1000):∀ (k:Nat),1≤k→k≤1000→∀ (d L x:Nat) (xs:List AV) (A:Around) (Φ Ψ:PH) (s:Shared) (v:Value) (vs:List Value),L+k≤xs.length→xs.length≤1000→x<2^10000→Room (d+k+1) A→Hp g Φ Ψ s→Owns Φ Ψ [(a,.lst xs)] →
  Rep Φ (i2AV g.w n a) v→RepL Φ [.int x,.int L,.int ((L+k:Nat):Int)] vs→W g.w A (call v vs []) (MPost g Φ Ψ [a] [(a,.lst xs)] (fun r ω'=>r=.none∧ω'=[(a,.lst (spl xs L (intRow (digs n k x))))])) s:=by
 intro k
 induction k using Nat.strongRecOn with
 | _ k ih=>
  intro hk1 hk d L x xs A Φ Ψ s v vs hL hxs hx r hp ho hv ra
  refine n3_call (ps:=[n_x,n_L,n_R]) (d:=d+k) rfl r (Nat.add_pos_right d hk1) hp ho (by simp) hv rfl rfl rfl (by kernel_rfl) (by kernel_rfl) (by kernel_rfl) (by kernel_rfl) (by kernel_rfl) (by kernel_rfl) (by kernel_rfl) (by kernel_rfl) (fun _ _ _ _ _=>by exact fun _ _ _=>rfl) rfl ra rfl fun A env B r=>?_
  ·have hk':=end_eq L k
   refine Bk.ite r (b:=decide (k=1)) (Ts.as hk' (Ts.cmp (Ev.bin (Ev.name rfl) (Ev.int 1) Op2.add) (Ev.name rfl) Op2.eqi)) (fun hb=>?_) (fun hb=>?_)
   ·have h1:k=1:=of_decide_eq_true hb
    subst h1
    refine Bk.setAt r (Ev.name rfl) (Ev.name rfl) (Ev.name rfl) (a:=a) (xs:=xs) (by simp[putAll,Sig.put]) (by simp[putAll,Sig.put]) (by(clear hb hk' ra hL hk hk1 ih hv ho hp hx hxs hn;lia)) (by simp;(clear hb hk' ra hk hk1 ih hv ho hp hx hxs hn;lia)) (by unfold small;(clear hb hk' ra hL hk hk1 ih hv ho hp hx hn;lia)) ?_
    refine Bk.ret0 fun Φ' s' l y=>FQ.ret (ω':=[(a,.lst (spl xs L (intRow (digs n 1 x))))]) y l (PH.le.refl _) rep_none ⟨rfl,rfl⟩ (fun b ov q=>?_)
    rcases lkc q with ⟨rfl,rfl⟩ | ⟨q1,q⟩
    ·refine⟨?_,.inl (by simp)⟩
     rw[lk_eq,digs_one n 1 x (by(clear q y l hb hk' ra hL hk hk1 ih hv ho hp hx hxs hn;lia)),Int.toNat_natCast,spl_one xs L _ (by(clear q y l hb hk' ra hk hk1 ih hv ho hp hx hxs hn;lia))];rfl
    ·simp at q
   ·have h1:¬ k≤1:=fun q=>of_decide_eq_false hb (Nat.le_antisymm q hk1)
    refine Bk.go ?_
    have e1:=mid_eq L k
    refine box fun bX bk=>?_
    obtain⟨p1,p2,p3,p4,p5⟩:=half_facts h1
    refine bk ?_
    clear bk bX
    refine Bk.assign (av:=.int ((L+k/2:Nat):Int)) r (Ev.asI e1 (Ev.bin (Ev.bin (Ev.name rfl) (Ev.name rfl) Op2.add) (Ev.int 1) (Op2.shr (by decide)))) rfl ?_
    have e2:=mid_mul L k n
    refine Bk.assign (av:=.int ((k/2*n:Nat):Int)) r (Ev.asI e2 (Ev.bin (Ev.bin (Ev.name rfl) (Ev.name rfl) Op2.sub) (Ev.name rfl) (Op2.mul (IntMulOk.of_right (intBits_le_64 (lt64 hn).1 (lt64 hn).2))))) rfl ?_
    have e3:((x:Int).fdiv (2^(((k/2*n:Nat):Int)).toNat))=((x/2^(k/2*n):Nat):Int):=by rw[Int.toNat_natCast];exact fdiv_cast x _
    refine Bk.assign (av:=.int ((x/2^(k/2*n):Nat):Int)) r (Ev.asI e3 (Ev.bin (Ev.name rfl) (Ev.name rfl) (Op2.shr (Int.natCast_nonneg _)))) rfl ?_
    have e4:Builtin.bitXor (x:Int) (((x/2^(k/2*n):Nat):Int)*2^(((k/2*n:Nat):Int)).toNat)=((x%2^(k/2*n):Nat):Int):=by rw[Int.toNat_natCast];exact xor_low x _
    have hb1:Builtin.Int.intBits ((x/2^(k/2*n):Nat):Int)≤10000:=bits_le (Nat.lt_of_le_of_lt (Nat.div_le_self _ _) hx)
    have hb2:k/2*n≤500*1000:=Nat.mul_le_mul (half_le hk (Nat.le_refl _)) hn
    refine Bk.assign (av:=.int ((x%2^(k/2*n):Nat):Int)) r (Ev.asI e4 (Ev.bin (Ev.name rfl) (Ev.bin (Ev.name rfl) (Ev.name rfl) (Op2.shl (Int.natCast_nonneg _) (bits27 hb1 hb2))) Op2.xor)) rfl ?_
    have hlo:x%2^(k/2*n)<2^10000:=Nat.lt_of_le_of_lt (Nat.mod_le _ _) hx
    have hhi:x/2^(k/2*n)<2^10000:=Nat.lt_of_le_of_lt (Nat.div_le_self _ _) hx
    have d1:(intRow (digs n (k/2) (x%2^(k/2*n)))).length=k/2:=by unfold intRow;rw[List.length_map,digs_length n _ _ p1]
    have d2:(intRow (digs n (k-k/2) (x/2^(k/2*n)))).length=k-k/2:=by unfold intRow;rw[List.length_map,digs_length n _ _ p3]
    have hd1:L+(intRow (digs n (k/2) (x%2^(k/2*n)))).length≤xs.length:=by rw[d1];exact Nat.le_trans (Nat.add_le_add_left (Nat.le_of_lt p2) L) hL
    have rd1:∀ A,Room (d+k) A→Room (d+k-k/2-1+k/2+1) A:=fun A r=>by
     have:d+k-k/2-1+k/2+1=d+k:=rdh _ _ (Nat.le_trans p2 (Nat.le_add_left k d))
     rw[this];exact r
    have rd2:∀ A,Room (d+k) A→Room (d+k-(k-k/2)-1+(k-k/2)+1) A:=fun A r=>by
     have:d+k-(k-k/2)-1+(k-k/2)+1=d+k:=rdh _ _ (Nat.le_trans p4 (Nat.le_add_left k d))
     rw[this];exact r
    refine Bk.expr r (EvX.callV (Ev.name rfl) (by exact(EvL.cons (Ev.name rfl) (EvL.cons (Ev.name rfl) (EvL.cons (Ev.name rfl) EvL.nil)))) (i2_cal (k:=k/2) n a (by simp[putAll,Sig.put]) (by simp[putAll,Sig.put]) rfl (fun A Φ Ψ s v vs r hp ho hv ra=>ih (k/2) p2 p1 (Nat.le_trans (Nat.le_of_lt p2) hk) (d+k-k/2-1) L _ xs A Φ Ψ s v vs (Nat.le_trans (Nat.add_le_add_left (Nat.le_of_lt p2) L) hL) hxs hlo (rd1 A r) hp ho hv ra))) rfl ?_
    refine Bk.expr r (EvX.callV (Ev.name rfl) (by exact(EvL.cons (Ev.name rfl) (EvL.cons (Ev.name rfl) (EvL.cons (Ev.name rfl) EvL.nil)))) (i2_cal (L:=L+k/2) (k:=k-k/2) (xs:=spl xs L (intRow (digs n (k/2) (x%2^(k/2*n))))) n a lk_eq (by simp[putAll,Sig.put]) (by rw[Nat.add_assoc,p5]) (fun A Φ Ψ s v vs r hp ho hv ra=>ih (k-k/2) p4 p3 (Nat.le_trans (Nat.le_of_lt p4) hk) (d+k-(k-k/2)-1) (L+k/2) _ _ A Φ Ψ s v vs (by rw[spl_len _ _ _ hd1,Nat.add_assoc,p5];exact hL) (by rw[spl_len _ _ _ hd1];exact hxs) hhi (rd2 A r) hp ho hv ra))) rfl ?_
    refine Bk.nil (FQ.none (ω':=[(a,.lst (spl xs L (intRow (digs n k x))))]) ⟨rfl,rfl⟩ (fun b ov q=>?_)).2
    rcases lkc q with ⟨rfl,rfl⟩ | ⟨q1,q⟩
    ·refine⟨?_,.inl (by simp)⟩
     rw[lk_eq]
     congr 2
     have:=spl_spl xs L (intRow (digs n (k/2) (x%2^(k/2*n)))) (intRow (digs n (k-k/2) (x/2^(k/2*n)))) (by(clear q rd2 rd1 hd1 hhi hlo hb2 hb1 e4 e3 e2 p5 p4 p3 p2 p1 e1 h1 hb hk' ra hv ho hp hx hxs hk hk1 ih hn;lia))
     rw[d1] at this
     rw[this,digs_more n k x h1]
     unfold intRow
     rw[List.map_append]
    ·simp at q
end
section
variable {g:Glob} {d:Nat} {ω:Ow}
noncomputable def int2digits (n x:Nat):List Nat:=if x=0 then [] else digs n ((Builtin.Int.intBits (x:Int)+n-1)/n) x
theorem bits_pos {x:Nat} (h:x≠0):1≤Builtin.Int.intBits (x:Int):=by
 have:¬ Builtin.Int.intBits (x:Int)≤0:=fun q=>by
  have:=intBits_le_iff.mp q
  simp at this;(clear q;lia)
 (clear h;lia)
theorem rep_zeros (K:Nat):(List.replicate K [AV.int 0]).flatten=List.replicate K (AV.int 0):=by
 induction K with
 | zero=>rfl
 | succ K ih=>rw[List.replicate_succ,List.flatten_cons,ih,List.replicate_succ];rfl
theorem fn_int2digits (n x:Nat) (hn1:1≤n) (hn:n≤1000) (hx:x<2^10000) (hK:(Builtin.Int.intBits (x:Int)+n-1)/n≤100):Fn g (d+104) ω (.ref 138) [.int x,.int n] [] (.lst (intRow (int2digits n x))):=by
 refine Fn.any (FnM.fn (FnC.fnM (FnC.bodyE (d:=d+103) (o:=Mine.Internal.hd.zo_169 g.w.params) (by kernel_rfl) rfl rfl {} rfl (by decide) (bind_pos (ps:=[n_a,n_n]) (by exact fun _ _=>rfl) rfl) (by kernel_rfl) (by simp) (by(clear hK hx hn hn1;lia)) fun A env Φ B r he=>?_)))
 ·obtain⟨K,hKd⟩:∃ K,K=(Builtin.Int.intBits (x:Int)+n-1)/n:=⟨_,rfl⟩
  have e1:(((Builtin.Int.intBits (x:Int):Nat):Int)+(n:Int)-1).fdiv (n:Int)=(K:Int):=by
   have:((Builtin.Int.intBits (x:Int):Nat):Int)+(n:Int)-1=((Builtin.Int.intBits (x:Int)+n-1:Nat):Int):=by(clear hKd he r hK hx hn;lia)
   rw[this,hKd,←Int.ofNat_fdiv]
  have hK':K≤100:=hKd▸hK
  refine Bk.assignK r (EvK.mulL (xs:=[.int 0]) (i:=(K:Int)) (Ev.lst (EvL.cons (Ev.int 0) EvL.nil) (by simp[small])) (by
   refine Ev.asI e1 ?_
   exact Ev.bin (Ev.bin (Ev.bin (Ev.bitLength (Ev.name rfl)) (Ev.name rfl) Op2.add) (Ev.int 1) Op2.sub) (Ev.name rfl) (Op2.div (by(clear hK' e1 hKd he r hK hx hn;lia)) (by
    have:((n:Int).natAbs)=n:=by simp
    rw[this]
    have h0:n≠0:=by(clear this hK' e1 hKd he r hK hx hn;lia)
    rw[Nat.log2_lt h0]
    exact Nat.lt_of_le_of_lt hn (Nat.lt_of_lt_of_le (show 1000<2^10 by decide) (Nat.pow_le_pow_right (by(clear h0 this hK' e1 hKd he r hK hx hn hn1;lia)) (by(clear h0 this hK' e1 hKd he r hK hx hn hn1;lia))))))) (by(clear hK' e1 he r hx hn hn1;lia)) (by(clear hK' e1 hKd he r hK hx hn hn1;lia)) rfl (by simp[small];(clear hK' e1 he r hx hn hn1;lia))) ?_
  refine NewL.elim fun a ha=>⟨rfl,?_⟩
  rw[Int.toNat_natCast,rep_zeros]
  refine Bk.nestDef (c:=137) (P:=133) he (by decide) (by kernel_rfl) rfl (fun z hz=>?_) rfl rfl rfl (fun _=>rfl) rfl ?_
  ·simp at hz
   rcases hz with rfl | rfl | rfl<;>exact .inl rfl
  refine Bk.ite r (b:=decide (x≠0)) ?_ (fun hb=>?_) (fun hb=>?_)
  ·have:(((x:Nat):Int) != 0)=decide (x≠0):=by
    by_cases h:x=0<;>simp[h]
   refine Ts.as this ?_
   exact Ts.ev (Ev.name rfl) Tr.int
  ·have hx0:x≠0:=of_decide_eq_true hb
   have hK1:1≤K:=by
    rw[hKd]
    have:=bits_pos hx0
    exact(Nat.le_div_iff_mul_le (by(clear this hx0 hb ha hK' e1 hKd he r hK hx hn;lia))).mpr (by(clear hx0 hb ha hK' e1 hKd he r hK hx hn hn1;lia))
   intro Φ' s' l y
   refine box fun bX bk=>?_
   obtain⟨Φ3,l3,y4⟩:=n3_make (x1:=n_a_digits) (fav:=i2AV g.w n a) rfl y rfl rfl rfl rfl (by decide) (by decide) rfl rfl rfl (by kernel_rfl) (by kernel_rfl) (by kernel_rfl) (by kernel_rfl) (by kernel_rfl)
   refine bk ?_
   clear bk bX
   have lz:(List.replicate K (AV.int 0)).length=K:=by simp
   refine(?_:Bk g _ env A Φ B _ _ _) Φ3 s' (l.trans l3) y4
   have hcal:∀ sc vars frz,CalV g (d+103) sc ⟨vars,[(a,.lst (List.replicate K (AV.int 0)))],frz,[a]⟩ (i2AV g.w n a) [.int x,.int ((0:Nat):Int),.int ((K:Nat):Int)] .none ⟨vars,[(a,.lst (spl (List.replicate K (AV.int 0)) 0 (intRow (digs n K x)))),(a,.lst (List.replicate K (AV.int 0)))],frz,[a]⟩:=fun sc vars frz=>i2_cal (g:=g) (D:=d+103) (L:=0) (k:=K) (x:=x) (xs:=List.replicate K (AV.int 0)) n a (σ:=⟨vars,[(a,.lst (List.replicate K (AV.int 0)))],frz,[a]⟩) lk_eq (by simp) (R:=((K:Nat):Int)) (by simp) (fun A Φ Ψ s v vs r hp ho hv ra=>i2_call n a hn K hK1 (by(clear ra hv ho hp lz y4 l3 y l hK1 hx0 hb ha hK' e1 he hx hn hn1;lia)) (d+102-K) 0 x _ A Φ Ψ s v vs (by simp) (by simp;(clear ra hv ho hp lz y4 l3 y l hK1 hx0 hb ha hK' e1 he hx hn hn1;lia)) hx (by
    have:d+102-K+K+1=d+103:=by(clear ra hv ho hp lz y4 l3 y l hK1 hx0 hb ha hK' e1 he hx hn hn1;lia)
    rw[this];exact r) hp ho hv ra)
   refine Bk.expr r (EvX.callV (Ev.name rfl) (EvL.cons (Ev.name (av:=.int x) rfl) (EvL.cons (Ev.int 0) (EvL.cons (Ev.call (Ev.bi rfl (by kernel_rfl) rfl) (Keep.bi _) (EvL.cons (Ev.name (av:=.ref a) rfl) EvL.nil) (Fn.lenO (xs:=List.replicate K (AV.int 0)) lk_eq (by simp[small];(clear hcal lz y4 l3 y l hK1 hx0 hb ha hK' e1 he r hx hn hn1;lia)))) EvL.nil))) (by rw[lz];exact hcal _ _ _)) rfl ?_
   refine Bk.go (Bk.freeze (own':=[]) (mt':=[]) (x:=n_a_digits) (a:=a) rfl lk_eq mA noO noM ?_)
   have hres:spl (List.replicate K (AV.int 0)) 0 (intRow (digs n K x))=intRow (int2digits n x):=by
    unfold int2digits
    rw[if_neg hx0,←hKd]
    unfold spl
    have:(intRow (digs n K x)).length=K:=by unfold intRow;rw[List.length_map,digs_length n _ _ hK1]
    rw[this];simp
   rw[hres]
   exact Bk.retQ r (Ev.name rfl) rfl
  ·have hx0:x=0:=by simpa using hb
   have hK0:K=0:=by
    rw[hKd,hx0]
    have:Builtin.Int.intBits ((0:Nat):Int)=0:=rfl
    rw[this]
    exact Nat.div_eq_of_lt (by(clear this hx0 hb ha hK' e1 hKd he r hK hx hn;lia))
   refine Bk.go (Bk.freeze (own':=[]) (mt':=[]) (x:=n_a_digits) (a:=a) rfl lk_eq mA noO noM ?_)
   have:int2digits n x=[]:=by unfold int2digits;rw[if_pos hx0]
   rw[this,hK0]
   exact Bk.retQ r (Ev.name rfl) rfl
theorem fn_digits2int (n:Nat) (hn:n≤1000) (xs:List Nat) (hxs:xs.length≤100) (hb:∀ x∈xs,x<2^10000):Fn g (d+104) ω (.ref 145) [.lst (intRow xs),.int n] [] (.int (valR n xs:Nat)):=by
 refine Fn.any (FnM.fn (FnC.fnM (FnC.bodyE (d:=d+103) (o:=Mine.Internal.hd.zo_176 g.w.params) (by kernel_rfl) rfl rfl {} rfl (by decide) (bind_pos (ps:=[n_digits,n_n]) (by exact fun _ _=>rfl) rfl) (by kernel_rfl) (by simp) (by(clear hb hxs hn;lia)) fun A env Φ B r he=>?_)))
 ·refine Bk.nestDef (c:=144) (P:=140) he (by decide) (by kernel_rfl) rfl (fun z hz=>?_) rfl rfl rfl (fun _=>rfl) rfl ?_
  ·simp at hz
   rcases hz with rfl | rfl | rfl<;>exact .inl rfl
  intro Φ' s' l y
  obtain⟨Φ3,l3,y4⟩:=n3_make (x1:=n_digits) (fav:=d2AV g.w n xs) rfl y rfl rfl rfl rfl (by decide) (by decide) rfl rfl rfl (by kernel_rfl) (by kernel_rfl) (by kernel_rfl) (by kernel_rfl) (by kernel_rfl)
  have hlen:(intRow xs).length=xs.length:=by simp[intRow]
  have hsm:small (intRow xs).length:=by rw[hlen];unfold small;(clear hlen y4 l3 y l he r hb hn;lia)
  refine(?_:Bk g _ env A Φ B _ _ _) Φ3 s' (l.trans l3) y4
  refine Bk.retQ r (Ev.ite (b:=!(intRow xs).isEmpty) (Ts.ev (Ev.name rfl) (Tr.lst hsm)) (fun hb1=>?_) (fun hb1=>?_)) rfl
  ·have hpos:1≤xs.length:=by
    cases xs with
    | nil=>cases hb1
    | cons x r=>simp
   have hc:=d2_call (g:=g) n hn xs hxs hb xs.length hpos hxs (d+102-xs.length) 0 ((intRow xs).length:Int) (by simp) (by rw[hlen];simp)
   have e1:d+102-xs.length+xs.length+1=d+103:=by(clear hc hpos hb1 hsm hlen y4 l3 y l he r hb hn;lia)
   rw[e1] at hc
   have e2:(xs.drop 0).take xs.length=xs:=by simp
   rw[e2] at hc
   exact Ev.callV (Ev.name rfl) (EvL.cons (Ev.int 0) (EvL.cons (Ev.call (Ev.bi rfl (by kernel_rfl) rfl) (Keep.bi _) (EvL.cons (Ev.name (av:=.lst (intRow xs)) rfl) EvL.nil) (Fn.len hsm)) EvL.nil)) hc
  ·have hx0:xs=[]:=by
    cases xs with
    | nil=>rfl
    | cons x r=>cases hb1
   subst hx0
   exact Ev.int 0
theorem digs_val (n:Nat):∀ (k x:Nat),valR n (digs n k x)=x:=by
 intro k
 induction k using Nat.strongRecOn with
 | _ k ih=>
  intro x
  by_cases h:k≤1
  ·rw[digs_one n k x h];simp[valR]
  ·rw[digs_more n k x h,valR_append,ih (k/2) (by omega),ih (k-k/2) (by omega),digs_length n _ _ (by omega)]
   exact Nat.mod_add_div x _
theorem int2digits_val (n x:Nat):valR n (int2digits n x)=x:=by
 unfold int2digits
 split
 ·rename_i h;rw[h];rfl
 ·exact digs_val n _ x
theorem digs_le (n:Nat):∀ (k x y:Nat),y∈digs n k x→y≤x:=by
 intro k
 induction k using Nat.strongRecOn with
 | _ k ih=>
  intro x y hy
  by_cases h:k≤1
  ·rw[digs_one n k x h] at hy;simp at hy;(clear h ih;lia)
  ·rw[digs_more n k x h] at hy
   rcases List.mem_append.mp hy with hy | hy
   ·exact Nat.le_trans (ih (k/2) (by(clear ih;lia)) _ _ hy) (Nat.mod_le _ _)
   ·exact Nat.le_trans (ih (k-k/2) (by(clear ih;lia)) _ _ hy) (Nat.div_le_self _ _)
theorem int2digits_le (n x y:Nat) (h:y∈int2digits n x):y≤x:=by
 unfold int2digits at h
 split at h
 ·simp at h
 ·exact digs_le n _ x y h
theorem int2digits_length (n x:Nat):(int2digits n x).length≤max 1 ((Builtin.Int.intBits (x:Int)+n-1)/n):=by
 unfold int2digits
 split
 ·simp
 ·by_cases h:1≤(Builtin.Int.intBits (x:Int)+n-1)/n
  ·rw[digs_length n _ _ h];omega
  ·rw[digs_one n _ _ (by omega)];simp;omega
noncomputable def divStep (n b:Nat) (st:List Nat × Nat) (y:Nat):List Nat × Nat:=(st.1++[(st.2*2^n+y)/b],(st.2*2^n+y)%b)
noncomputable def divRun (n b:Nat) (ys:List Nat):List Nat × Nat:=ys.foldl (divStep n b) ([],0)
theorem divRun_snoc (n b:Nat) (ys:List Nat) (y:Nat):divRun n b (ys++[y])=divStep n b (divRun n b ys) y:=by simp[divRun,List.foldl_append]
theorem divRun_ok (n b:Nat) (hb:0<b):∀ ys:List Nat,valR n ys=valR n (divRun n b ys.reverse).1.reverse*b+(divRun n b ys.reverse).2∧(divRun n b ys.reverse).2<b
 | []=>⟨by simp[divRun,valR],hb⟩
 | y::ys=>by
  obtain⟨h1,h2⟩:=divRun_ok n b hb ys
  rw[List.reverse_cons,divRun_snoc]
  obtain⟨st,hst⟩:∃ st,st=divRun n b ys.reverse:=⟨_,rfl⟩
  rw[←hst] at h1 h2 ⊢
  obtain⟨qs,r⟩:=st
  unfold divStep
  simp only at h1 h2 ⊢
  refine⟨?_,Nat.mod_lt _ hb⟩
  rw[List.reverse_append,List.reverse_singleton,List.singleton_append,valR,valR,h1]
  have:=Nat.div_add_mod (r*2^n+y) b
  have e1:b*((r*2^n+y)/b)=(r*2^n+y)/b*b:=Nat.mul_comm _ _
  have e2:2^n*(valR n qs.reverse*b+r)=2^n*valR n qs.reverse*b+r*2^n:=by rw[Nat.mul_add,Nat.mul_assoc,Nat.mul_comm (2^n) r]
  have e3:((r*2^n+y)/b+2^n*valR n qs.reverse)*b=(r*2^n+y)/b*b+2^n*valR n qs.reverse*b:=Nat.add_mul _ _ _
  (clear hst h1 h2 hb;lia)
theorem divRun_div (n b:Nat) (hb:0<b) (ys:List Nat):valR n (divRun n b ys.reverse).1.reverse=valR n ys/b∧(divRun n b ys.reverse).2=valR n ys%b:=by
 obtain⟨h1,h2⟩:=divRun_ok n b hb ys
 rw[h1]
 constructor
 ·rw[Nat.add_comm,Nat.add_mul_div_right _ _ hb,Nat.div_eq_of_lt h2,Nat.zero_add]
 ·rw[Nat.add_comm,Nat.add_mul_mod_self_right,Nat.mod_eq_of_lt h2]
theorem divRun_len (n b:Nat) (ys:List Nat):(divRun n b ys).1.length=ys.length:=by
 have:∀ ys:List Nat,(divRun n b ys.reverse).1.length=ys.length:=by
  intro ys
  induction ys with
  | nil=>rfl
  | cons y ys ih=>rw[List.reverse_cons,divRun_snoc];unfold divStep;simp[ih]
 simpa using this ys.reverse
theorem divRun_small (n b:Nat) (hb:0<b) (hb2:b<2^1000) (hn:n≤1000) (ys:List Nat) (hy:∀ y∈ys,y<2^3000):∀ q∈(divRun n b ys).1,q<2^10000:=by
 have key:∀ ys:List Nat,(∀ y∈ys,y<2^3000)→∀ q∈(divRun n b ys.reverse).1,q<2^10000:=by
  intro ys
  induction ys with
  | nil=>intro _ q hq;simp[divRun] at hq
  | cons y ys ih=>
   intro h q hq
   rw[List.reverse_cons,divRun_snoc] at hq
   unfold divStep at hq
   rcases List.mem_append.mp hq with hq | hq
   ·exact ih (fun z hz=>h z (List.mem_cons_of_mem _ hz)) q hq
   ·rw[List.mem_singleton] at hq
    subst hq
    have h2:=(divRun_ok n b hb ys).2
    have h3:=h y List.mem_cons_self
    have h4:(divRun n b ys.reverse).2*2^n≤2^1000*2^1000:=Nat.mul_le_mul (by lia) (Nat.pow_le_pow_right (by lia) hn)
    refine Nat.lt_of_le_of_lt (Nat.div_le_self _ _) ?_
    have h5:(2:Nat)^1000*2^1000=2^2000:=by rw[←Nat.pow_add]
    have h6:(2:Nat)^2000≤2^3000:=Nat.pow_le_pow_right (by lia) (by lia)
    have h7:(2:Nat)^3000+2^3000=2^3001:=by rw[Nat.pow_succ];lia
    have h8:(2:Nat)^3001≤2^10000:=Nat.pow_le_pow_right (by lia) (by lia)
    lia
 have:=key ys.reverse (by simpa using hy)
 simpa using this
theorem fn_divmod_pos (a b:Nat) (hb:0<b) (hb2:b<2^1000) (ha:a<2^3000) (hK:(Builtin.Int.intBits (a:Int)+Builtin.Int.intBits (b:Int)-1)/Builtin.Int.intBits (b:Int)≤100) :
  Fn g (d+106) ω (.ref 152) [.int a,.int b] [] (.tup [.int (a/b:Nat),.int (a%b:Nat)]):=by
 refine Fn.any (FnM.fn (FnM.body (d:=d+105) (o:=Mine.Internal.hd.zo_183 g.w.params) (by kernel_rfl) rfl rfl {} rfl (by decide) (bind_pos (ps:=[n_a,n_b]) (by exact fun _ _=>rfl) rfl) (by kernel_rfl) (by simp) (by(clear hK ha hb2 hb;lia)) fun A env Φ B r=>?_))
 ·obtain⟨n,hn⟩:∃ n,n=Builtin.Int.intBits (b:Int):=⟨_,rfl⟩
  rw[←hn] at hK
  have hn1:1≤n:=hn▸bits_pos (by(clear hn hK r ha hb2;lia))
  have hn2:n≤1000:=hn▸bits_le hb2
  have ha2:a<2^10000:=Nat.lt_of_lt_of_le ha (Nat.pow_le_pow_right (by(clear hn2 hn1 hn hK r ha hb2 hb;lia)) (by(clear hn2 hn1 hn hK r ha hb2 hb;lia)))
  refine Bk.assign (av:=.int (n:Int)) r (by rw[hn];exact Ev.bitLength (Ev.name rfl)) rfl ?_
  refine Bk.assign r (Ev.call (Ev.glob (v:=.ref 138) (av:=.raw (.ref 138)) rfl (by kernel_rfl) (fun _=>rep_raw)) (Keep.k (by kernel_rfl)) (by exact(EvL.cons (Ev.name rfl) (EvL.cons (Ev.name rfl) EvL.nil))) (fn_int2digits (d:=d+1) n a hn1 hn2 ha2 hK)) rfl ?_
  refine Bk.assign r (Ev.int 0) rfl ?_
  refine Bk.newList r EvL.nil (by simp[small]) rfl fun l hl=>?_
  obtain⟨ds,hds⟩:∃ ds,ds=int2digits n a:=⟨_,rfl⟩
  have hdl:ds.length≤100:=by
   have:=int2digits_length n a
   rw[←hds] at this;(clear hds hl ha2 hn2 hn1 hn r ha hb2 hb;lia)
  have hdb:∀ y∈ds.reverse,y<2^3000:=fun y hy=>Nat.lt_of_le_of_lt (int2digits_le n a y (by rw[←hds];simpa using hy)) ha
  rw[←hds]
  have hrev:(intRow ds).reverse=intRow ds.reverse:=by unfold intRow;rw[List.map_reverse]
  have hst:∀ i c,ds.reverse[i]?=some c→divRun n b (ds.reverse.take (i+1))=divStep n b (divRun n b (ds.reverse.take i)) c:=fun i c h=>by
   rw[List.take_add_one,h];exact divRun_snoc _ _ _ _
  have hbd:∀ i,(divRun n b (ds.reverse.take i)).2<b:=fun i=>by
   have:=(divRun_ok n b hb (ds.reverse.take i).reverse).2
   simpa using this
  have hln:∀ i,(divRun n b (ds.reverse.take i)).1.length≤100:=fun i=>by rw[divRun_len];simp;(clear hbd hst hrev hdb hds hl ha2 hn2 hn1 hn hK r ha hb2 hb;lia)
  refine Bk.forS r (xs:=(intRow ds).reverse) (fun i=>⟨[(n_r,.int ((divRun n b (ds.reverse.take i)).2:Nat)),(n_q_digits,.ref l),(n_a_digits,.lst (intRow ds)),(n_n,.int n),(n_a,.int a),(n_b,.int b)],[(l,.lst (intRow (divRun n b (ds.reverse.take i)).1))],[],[l]⟩) ⟨rfl,rfl,rfl,rfl,rfl,rfl,trivial⟩ (EvIt.rev (Ev.bi rfl (by kernel_rfl) rfl) (Ev.name rfl)) (fun i y B' Φ₁ hy lb lΦ=>?_) ?_
  ·obtain⟨c,hc,rfl⟩:∃ c:Nat,ds.reverse[i]?=some c∧AV.int c=y:=by
    rw[hrev] at hy
    unfold intRow at hy
    rw[List.getElem?_map,Option.map_eq_some_iff] at hy;exact hy
   refine⟨_,Tgt.name rfl,?_⟩
   have hs:=hst i c hc
   have hc3:=hdb c (List.mem_of_getElem? hc)
   obtain⟨v,hv⟩:∃ v,v=(divRun n b (ds.reverse.take i)).2*2^n+c:=⟨_,rfl⟩
   have hb':=hbd i
   have hv3:v<2^3001:=by
    have h4:(divRun n b (ds.reverse.take i)).2*2^n≤2^1000*2^1000:=Nat.mul_le_mul (by(clear hv hc3 hs hy hc lΦ lb hln hbd hst hrev hdb hdl hds hl ha2 hn2 hn1 hn hK r ha hb;lia)) (Nat.pow_le_pow_right (by(clear hb' hv hc3 hs hy hc lΦ lb hln hbd hst hrev hdb hdl hds hl ha2 hn2 hn1 hn hK r ha hb2 hb;lia)) hn2)
    have h5:(2:Nat)^1000*2^1000=2^2000:=by rw[←Nat.pow_add]
    have h6:(2:Nat)^2000≤2^3000:=Nat.pow_le_pow_right (by(clear h5 h4 hb' hv hc3 hs hy hc lΦ lb hln hbd hst hrev hdb hdl hds hl ha2 hn2 hn1 hn hK r ha hb2 hb;lia)) (by(clear h5 h4 hb' hv hc3 hs hy hc lΦ lb hln hbd hst hrev hdb hdl hds hl ha2 hn2 hn1 hn hK r ha hb2 hb;lia))
    have h7:(2:Nat)^3000+2^3000=2^3001:=by rw[Nat.pow_succ];(clear h6 h5 h4 hb' hv hc3 hs hy hc lΦ lb hln hbd hst hrev hdb hdl hds hl ha2 hn2 hn1 hn hK r ha hb2 hb;lia)
    (clear h7 h6 h5 hb' hs hy hc lΦ lb hln hbd hst hrev hdb hdl hds hl ha2 hn2 hn1 hn hK r ha hb2 hb;lia)
   have e1:(((divRun n b (ds.reverse.take i)).2:Nat):Int)*2^((n:Int)).toNat+(c:Int)=(v:Int):=by
    rw[Int.toNat_natCast,hv];push_cast;rfl
   have hdv:Fn g (d+105) [(l,.lst (intRow (divRun n b (ds.reverse.take i)).1))] (.ref 124) [.int v,.int b,.int n] [] (.tup [.int (v/b:Nat),.int (v%b:Nat)]):=by
    have:=fn_div2n1n (g:=g) (d:=d+103) (ω:=[(l,.lst (intRow (divRun n b (ds.reverse.take i)).1))]) (v:Int) (b:Int) (n:Int) (by(clear e1 hv3 hb' hv hc3 hs hy hc lΦ lb hln hbd hst hrev hdb hdl hds hl ha2 hn2 hn1 hn hK r ha hb2;lia)) (by
     have:((b:Int).natAbs)=b:=by simp
     rw[this]
     have h0:b≠0:=by(clear this e1 hv3 hb' hv hc3 hs hy hc lΦ lb hln hbd hst hrev hdb hdl hds hl ha2 hn2 hn1 hn hK r ha hb2;lia)
     rw[Nat.log2_lt h0]
     exact Nat.lt_of_lt_of_le hb2 (Nat.pow_le_pow_right (by(clear h0 this e1 hv3 hb' hv hc3 hs hy hc lΦ lb hln hbd hst hrev hdb hdl hds hl ha2 hn2 hn1 hn hK r ha hb2 hb;lia)) (by(clear h0 this e1 hv3 hb' hv hc3 hs hy hc lΦ lb hln hbd hst hrev hdb hdl hds hl ha2 hn2 hn1 hn hK r ha hb2 hb;lia)))) (by have:=bits_le hv3;(clear e1 hv3 hb' hv hc3 hs hy hc lΦ lb hln hbd hst hrev hdb hdl hds hl ha2 hn2 hn1 hn hK r ha hb2 hb;lia))
    rw[←Int.ofNat_fdiv] at this
    have e2:(v:Int).fmod (b:Int)=((v%b:Nat):Int):=by
     rw[Int.fmod_eq_emod_of_nonneg _ (by(clear this e1 hv3 hb' hv hc3 hs hy hc lΦ lb hln hbd hst hrev hdb hdl hds hl ha2 hn2 hn1 hn hK r ha hb2 hb;lia))];rfl
    rw[e2] at this
    exact this
   refine Bk.assignT r (Ev.call (Ev.glob (v:=.ref 124) (av:=.raw (.ref 124)) rfl (by kernel_rfl) (fun _=>rep_raw)) (Keep.k (by kernel_rfl)) (EvL.cons (a:=.int (v:Int)) (Ev.asI e1 (Ev.bin (Ev.bin (Ev.name rfl) (Ev.name rfl) (Op2.shl (by(clear hdv e1 hv3 hb' hv hc3 hs hy hc lΦ lb hln hbd hst hrev hdb hdl hds hl ha2 hn2 hn1 hn hK r ha hb2 hb;lia)) (by have:=bits_le (Nat.lt_trans hb' hb2);(clear hdv e1 hv3 hb' hv hc3 hs hy hc lΦ lb hln hbd hst hrev hdb hdl hds hl ha2 hn1 hn hK r ha hb2 hb;lia)))) (Ev.name rfl) Op2.add)) (EvL.cons (Ev.name rfl) (EvL.cons (Ev.name rfl) EvL.nil))) hdv) (Tgt.pair rfl rfl) ?_ rfl (fun env h=>by cases env;cases h;rfl)
   refine Bk.app1 r rfl rfl rfl (Ev.name rfl) (by have:=hln i;unfold small intRow;simp;(clear hdv e1 hv3 hb' hv hc3 hs hy hc lΦ lb hln hbd hst hrev hdb hdl hds hl ha2 hn2 hn1 hn hK r ha hb2 hb;lia)) ?_
   refine Bk.nextS _ rfl ?_ ?_ rfl rfl
   ·rw[hs];unfold divStep;rw[←hv];exact⟨rfl,rfl,rfl,rfl,rfl,rfl,trivial⟩
   ·rw[hs];unfold divStep;rw[←hv]
    show [(l,OV.lst (intRow (_++[_])))]=_
    unfold intRow
    rw[List.map_append];rfl
  ·have hfull:ds.reverse.take (intRow ds).reverse.length=ds.reverse:=by rw[hrev];unfold intRow;rw[List.length_map];exact List.take_of_length_le (Nat.le_refl _)
   rw[hfull]
   have hl2:(intRow (divRun n b ds.reverse).1).length≤100:=by unfold intRow;rw[List.length_map,divRun_len];simp;(clear hfull hln hbd hst hrev hdb hds hl ha2 hn2 hn1 hn hK r ha hb2 hb;lia)
   refine Bk.expr r (EvX.meth (EvX.of (Ev.name rfl)) (GmA.list (xs:=intRow (divRun n b ds.reverse).1) lk_eq PySem.F.slot_list_reverse PySem.F.type_list_reverse) (Keep.bi _) EvL.nil (CallsTo.own1 (FnM.reverse (by unfold small;(clear hfull hln hbd hst hrev hdb hdl hds hl ha2 hn2 hn1 hn hK r ha hb2 hb;lia))))) rfl ?_
   have hrev2:(intRow (divRun n b ds.reverse).1).reverse=intRow (divRun n b ds.reverse).1.reverse:=by unfold intRow;rw[List.map_reverse]
   rw[hrev2]
   refine Bk.freeze (own':=[]) (mt':=[]) (x:=n_q_digits) (a:=l) rfl lk_eq mA noO noM ?_
   refine Bk.assign r (Ev.call (Ev.glob (v:=.ref 145) (av:=.raw (.ref 145)) rfl (by kernel_rfl) (fun _=>rep_raw)) (Keep.k (by kernel_rfl)) (EvL.cons (Ev.name rfl) (EvL.cons (Ev.name rfl) EvL.nil)) (fn_digits2int (d:=d+1) n hn2 (divRun n b ds.reverse).1.reverse (by rw[List.length_reverse,divRun_len];simp;(clear hrev2 hl2 hfull hln hbd hst hrev hdb hds hl ha2 hn2 hn1 hn hK r ha hb2 hb;lia)) (fun q hq=>divRun_small n b hb hb2 hn2 ds.reverse hdb q (by simpa using hq)))) rfl ?_
   obtain⟨f1,f2⟩:=divRun_div n b hb ds
   rw[hds,int2digits_val] at f1 f2
   rw[hds,f1,f2]
   exact Bk.retQ r (by exact(Ev.tup (EvL.cons (Ev.name rfl) (EvL.cons (Ev.name rfl) EvL.nil)) (by simp[small]))) rfl
end
variable {g:Glob} {d:Nat} {ω:Ow}
noncomputable def cellStep (st:Str × List AV) (c:Nat):Str × List AV:=
 if (⟨#[c]⟩:Str)==⟨#[0]⟩||st.1==⟨#[0]⟩ then(⟨#[c]⟩,st.2)
 else if (⟨#[c]⟩:Str)==⟨#[1]⟩ then(⟨#[]⟩,st.2)
 else(st.1,st.2++[.tup [.str ⟨#[c]⟩,.str st.1]])
noncomputable def cellRun (cs:List Nat):Str × List AV:=cs.foldl cellStep (⟨#[]⟩,[])
theorem ofs0:Str.ofString "\x00"=(⟨#[0]⟩:Str):=rfl
theorem ofs1:Str.ofString "\x01"=(⟨#[1]⟩:Str):=rfl
theorem cellRun_snoc (cs:List Nat) (c:Nat):cellRun (cs++[c])=cellStep (cellRun cs) c:=by simp[cellRun,List.foldl_append]
theorem cellStep_len (st:Str × List AV) (c:Nat):(cellStep st c).2.length≤st.2.length+1:=by
 unfold cellStep;split
 ·simp
 ·split<;>simp
theorem cellRun_len (cs:List Nat):(cellRun cs).2.length≤cs.length:=by
 have:∀ cs:List Nat,(cellRun cs.reverse).2.length≤cs.length:=by
  intro cs
  induction cs with
  | nil=>simp[cellRun]
  | cons c cs ih=>rw[List.reverse_cons,cellRun_snoc];have:=cellStep_len (cellRun cs.reverse) c;simp only[List.length_cons];lia
 simpa using this cs.reverse
theorem fn_law_cells (x:Str) (hx:small x.length):Fn g (d+2) ω (.ref 376) [.str x] [] (.lst (cellRun x.cps.toList).2):=by
 refine Fn.any (FnM.fn (FnM.body (o:=Mine.Internal.hd.zo_381 g.w.params) (by kernel_rfl) rfl rfl {} rfl (by decide) (bind_pos (ps:=[n_line]) (by exact fun _=>rfl) rfl) (by kernel_rfl) noM (Nat.succ_pos d) fun A env Φ B r=>?_))
 ·refine Bk.newList r EvL.nil (by simp[small]) rfl fun a ha=>?_
  refine Bk.assign r (by exact(Ev.str _)) rfl ?_
  have hst:∀ i c,x.cps.toList[i]?=some c→cellRun (x.cps.toList.take (i+1))=cellStep (cellRun (x.cps.toList.take i)) c:=fun i c h=>by
   rw[List.take_add_one,h];exact cellRun_snoc _ _
  have hln:∀ i,small (cellRun (x.cps.toList.take i)).2.length:=fun i=>by
   have:=cellRun_len (x.cps.toList.take i)
   have h2:(x.cps.toList.take i).length≤x.cps.size:=by simp[List.length_take];(clear this hst ha r hx;lia)
   unfold small Str.length at *;(clear hst ha r;lia)
  refine Bk.forS r (fun i=>⟨[(n_cells,.ref a),(n_mark,.str (cellRun (x.cps.toList.take i)).1),(n_line,.str x)],[(a,.lst (cellRun (x.cps.toList.take i)).2)],[],[a]⟩) ⟨rfl,rfl,rfl,trivial⟩ (EvIt.of (by exact(Ev.name rfl)) IterV.str) (fun i y B' Φ₁ hy lb lΦ=>?_) ?_
  ·obtain⟨c,hc,rfl⟩:∃ c,x.cps.toList[i]?=some c∧AV.str ⟨#[c]⟩=y:=by
    unfold chars at hy
    rw[List.getElem?_map,Option.map_eq_some_iff] at hy
    exact hy
   refine⟨_,Tgt.name rfl,?_⟩
   have hs:=hst i c hc
   refine Bk.ite r (by exact(Ts.or (Ts.cmp (Ev.name rfl) (Ev.str _) Op2.eqs) (Ts.cmp (Ev.name rfl) (Ev.str _) Op2.eqs))) (fun hb=>?_) (fun hb=>?_)
   ·rw[ofs0] at hb
    refine Bk.assign r (by exact(Ev.name rfl)) rfl ?_
    have e:cellRun (x.cps.toList.take (i+1))=(⟨#[c]⟩,(cellRun (x.cps.toList.take i)).2):=by rw[hs];unfold cellStep;rw[if_pos hb]
    refine Bk.go (Bk.nextS _ rfl ?_ ?_ rfl rfl)
    ·rw[e];exact⟨rfl,rfl,rfl,trivial⟩
    ·rw[e];rfl
   ·rw[ofs0] at hb
    refine Bk.ite r (by exact(Ts.cmp (Ev.name rfl) (Ev.str _) Op2.eqs)) (fun hb2=>?_) (fun hb2=>?_)
    ·rw[ofs1] at hb2
     refine Bk.assign r (by exact(Ev.str _)) rfl ?_
     have e:cellRun (x.cps.toList.take (i+1))=(⟨#[]⟩,(cellRun (x.cps.toList.take i)).2):=by rw[hs];unfold cellStep;rw[if_neg (by rw[hb];exact Bool.false_ne_true),if_pos hb2]
     refine Bk.go (Bk.go (Bk.nextS _ rfl ?_ ?_ rfl rfl))
     ·rw[e];exact⟨rfl,rfl,rfl,trivial⟩
     ·rw[e];try rfl
    ·rw[ofs1] at hb2
     refine Bk.expr r (EvX.meth (EvX.of (Ev.name rfl)) (GmA.list List.lookup_cons_self PySem.F.slot_list_append PySem.type_list_append) (Keep.bi _) (by exact(EvL.cons (Ev.tup (EvL.cons (Ev.name rfl) (EvL.cons (Ev.name rfl) EvL.nil)) (by simp[small])) EvL.nil)) (CallsTo.own1 (FnM.append (hln i)))) rfl ?_
     have e:cellRun (x.cps.toList.take (i+1))=((cellRun (x.cps.toList.take i)).1,(cellRun (x.cps.toList.take i)).2++[.tup [.str ⟨#[c]⟩,.str (cellRun (x.cps.toList.take i)).1]]):=by rw[hs];unfold cellStep;rw[if_neg (by rw[hb];exact Bool.false_ne_true),if_neg (by rw[hb2];exact Bool.false_ne_true)]
     refine Bk.go (Bk.go (Bk.nextS _ rfl ?_ ?_ rfl rfl))
     ·rw[e];exact⟨rfl,rfl,rfl,trivial⟩
     ·rw[e];try rfl
  ·have e:x.cps.toList.take (chars x).length=x.cps.toList:=by rw[chars_length];exact List.take_of_length_le (by simp)
   refine Bk.freeze (own':=[]) (mt':=[]) (x:=n_cells) (a:=a) rfl List.lookup_cons_self mA noO noM ?_
   rw[e]
   exact Bk.retQ r (by exact(Ev.name rfl)) rfl
section
variable {g:Glob} {d:Nat} {ω:Ow}
noncomputable def num (b:Int) (xs:List Int):Int:=xs.foldl (fun n x=>b*n+x) 0
theorem num_snoc (b:Int) (xs:List Int) (i:Nat) (x:Int) (h:xs[i]?=some x):num b (xs.take (i+1))=b*num b (xs.take i)+x:=by
 unfold num
 rw[List.take_add_one,h]
 simp -iota [List.foldl_append]
theorem fn_law_number (xs:List Int) (b:Int) (hb:Builtin.Int.intBits b≤64):Fn g (d+2) ω (.ref 397) [.lst (xs.map AV.int),.int b] [] (.int (num b xs)):=by
 refine FnM.fn (FnM.body (o:=Mine.Internal.hd.zo_402 g.w.params) (by kernel_rfl) rfl rfl {} rfl (by decide) (bind_pos (ps:=[n_figures,n_base]) (by exact fun _ _=>rfl) rfl) (by kernel_rfl) (fun _ h=>nomatch h) (Nat.succ_pos d) fun A env Φ B r=>?_)
 ·refine Bk.assign r (by exact(Ev.int _)) rfl ?_
  refine Bk.forS r (fun i=>⟨[(n_number,.int (num b (xs.take i))),(n_figures,.lst (xs.map AV.int)),(n_base,.int b)],ω,[],[]⟩) ⟨rfl,rfl,rfl,trivial⟩ (EvIt.of (by exact(Ev.name rfl)) IterV.lst) (fun i x B' Φ₁ hx lb lΦ=>?_) ?_
  ·obtain⟨y,hy,rfl⟩:∃ y,xs[i]?=some y∧AV.int y=x:=by simpa using hx
   refine⟨_,Tgt.name rfl,?_⟩
   refine Bk.assign r (Ev.bin (Ev.bin (Ev.name rfl) (Ev.name rfl) (Op2.mul (IntMulOk.of_left hb))) (Ev.name rfl) Op2.add) rfl ?_
   refine Bk.nextS _ rfl ⟨?_,rfl,rfl,trivial⟩
   rw[num_snoc b xs i y hy];rfl
  ·exact Bk.retQ r (by exact(Ev.name rfl)) (by simp)
end
section
open PySem.Builtin PySem.Builtin.Str
section
variable {g:Glob} {d:Nat} {sc:Scope} {σ:Sig} {env:Env} {A:Around} {Φ Ψ Φ₀ B:PH} {s:Shared} {rest:List Stmt} {Q:Flow→Shared→Prop} {ω:Ow}
noncomputable def scOf (o:Obj):Scope:=match o.data with
 | .func fd=>fd.scope
 | _=>default
theorem Bk.assignC {x:Str} {p pos:Pos} {e:PySem.Expr} {av:AV} (r:Room d A) (h:Ev g d sc σ e av) (hx:stB sc σ x=true) (k:Bk g sc env A Φ₀ B (σ.put x av) rest Q)
  (hs:∀ env,env.scope=sc→swapsWith e (some (.Name x p)) pos.line env=pure false):Bk g sc env A Φ₀ B σ (.Assign [.Name x p] e pos::rest) Q:=.step fun Φ s l y=>by
 have hsc:env.scope=sc:=by obtain⟨Ψ,pr,_⟩:=y.pre;exact pr.ev.scE
 exact wpAny_Assign_Name (h.at r y fun Φ' v s' l' y' rp=>y'.store hx rp fun s'' y''=>k Φ' s'' (l.trans l') y'') (hs env hsc)
theorem Bk.augAt {o i value:PySem.Expr} {tp pos:Pos} {op:Operator} {a:Addr} {xs:List AV} {k:Int} {old v new:AV} (r:Room d A) (ho:Ev g d sc σ o (.ref a)) (hi:Ev g d sc σ i (.int k)) (hv:Ev g d sc σ value v) (hop:Op2 g d (inplaceOp op) old v new) (ha:σ.own.lookup a=some (.lst xs)) (hm:a∈σ.mt) (h0:0≤k) (hx:xs[k.toNat]?=some old) (hsm:small xs.length)
  (kk:Bk g sc env A Φ₀ B (σ.set a (.lst (xs.set k.toNat new))) rest Q)
  (hst:autoParam (∀ ov iv new,augStore i ov iv new=(do holding [new,ov,iv] (setItem ov iv new);release [new,ov,iv] [];pure .next)) aR):Bk g sc env A Φ₀ B σ (.AugAssign (.Subscript o i tp) op value pos::rest) Q:=.step fun Φ s l y=>
 wpAny_AugAssign_SubscriptAny (ho.at r y fun Φ₁ ov s₁ l₁ y₁ r₁=>hi.at r y₁ fun Φ₂ iv s₂ l₂ y₂ r₂=>by
  replace r₁:_=_:=r₁
  subst r₁
  refine int_elim r₂ fun t=>?_
  have hk:k.toNat<xs.length:=(List.getElem?_eq_some_iff.mp hx).1
  have hlt:=small_lt hsm
  refine box fun bX bk=>?_
  obtain⟨Ψ,pr,hb⟩:=y₂.pre
  obtain⟨oo,e,vs,⟨n,rfl⟩,hr⟩:=pr.own a _ ha
  obtain⟨y0,hy0,ry0⟩:=repL_get hr hx
  refine bk ?_
  clear bk bX
  refine wpAny_getItem_list (items:=vs) ⟨_,pr.hp.getΨ e,rfl,n,rfl⟩ h0 (by(clear ry0 hy0 e hr hb pr r₂ y₂ l₂ y₁ l₁ y l hst kk hsm hx h0 hm ha hop hv hi ho r;lia)) (by simpa using hy0) ?_
  refine hv.at r y₂ fun Φ₃ u s₃ l₃ y₃ r₃=>?_
  refine box fun bX bk=>?_
  obtain⟨Ψ₃,pr₃,hb₃⟩:=y₃.pre
  refine bk ?_
  clear bk bX
  refine W.mono (hop A Φ₃ Ψ₃ s₃ _ _ r pr₃.hp (Rep.mono l₃ _ _ ry0) r₃) fun nv s₄ q0=>q0.casesOn fun Φ₄ l₄ hp₄ r₄=>?_
  have y₄:At g sc env σ B Φ₄ s₄:=y₃.frame l₄ (pr₃.next l₄ hp₄) hb₃ fun a fa e=>pr₃.owned fa e
  refine box fun bX bk=>?_
  obtain⟨Ψ₄,pr₄,hb₄⟩:=y₄.pre
  obtain⟨oo',e',vs',⟨n',rfl⟩,hr'⟩:=pr₄.own a _ ha
  refine bk ?_
  clear bk bX
  have hsz:=size_of hr'
  refine ki_setAt (pr₄.hp.getΨ e') h0 (by(clear hsz e' hr' hb₄ pr₄ y₄ r₄ hp₄ l₄ hb₃ pr₃ r₃ y₃ l₃ ry0 hy0 e hr hb pr r₂ y₂ l₂ y₁ l₁ y l hst kk hsm hx h0 hm ha hop hv hi ho r;lia)) (by(clear e' hr' hb₄ pr₄ y₄ r₄ hp₄ l₄ hb₃ pr₃ r₃ y₃ l₃ ry0 hy0 e hr hb pr hlt r₂ y₂ l₂ y₁ l₁ y l hst kk hsm hx h0 hm ha hop hv hi ho r;lia)) ?_
  refine box fun bX bk=>?_
  obtain⟨m',hp'⟩:=upd_lst (f:=fun x=>x.setIfInBounds k.toNat nv) pr₄.hp e' rfl
  refine bk ?_
  clear bk bX
  have rs:∀ (xs:List AV) (vs:List Value) (j:Nat),RepL Φ₄ xs vs→RepL Φ₄ (xs.set j new) (vs.set j nv):=by
   intro xs
   induction xs with
   | nil=>intro vs j h;have:=repL_nil_inv h;subst this;simpa using repL_nil
   | cons x xs ih=>
    intro vs j h
    refine repL_cons_elim h fun u ws q1 q2=>?_
    cases j with
    | zero=>exact repL_cons r₄ q2
    | succ j=>exact repL_cons q1 (ih ws j q2)
  refine kk Φ₄ _ ((((l.trans l₁).trans l₂).trans l₃).trans l₄) (y₄.change (mt:=[a]) pr₄ hb₄ (PH.le.refl _) hp' (fun b ob hb' e'=>by rw[PH.put_other _ _ (fun q=>hb' (List.mem_singleton.mpr q))];exact e') (fun b hb'=>by simp -iota at hb';exact hb'▸hm) (fun b ov q=>?_) (fun b ov q=>.inl ?_) fun b hb'=>⟨.inl hb',?_⟩)
  ·rcases lkc q with ⟨rfl,rfl⟩ | ⟨q1,q2⟩
   ·refine⟨_,PH.put_self _ _ _,_,⟨m',rfl⟩,?_⟩
    rw[Array.toList_setIfInBounds];exact rs xs _ _ hr'
   ·refine box fun bX bk=>?_
    obtain⟨ob,z1,z2⟩:=pr₄.own b ov q2
    refine bk ?_
    clear bk bX
    exact⟨ob,by rw[PH.put_other _ _ q1];exact z1,z2⟩
  ·rcases lkc q with ⟨rfl,rfl⟩ | ⟨q1,q2⟩
   ·rw[ha];rfl
   ·rw[q2];rfl
  ·by_cases q:b=a
   ·rw[q,lk_eq];rfl
   ·rw[lk_ne q];exact(y₄.mine b hb').2) hst
noncomputable def NewLL (σ:Sig) (av:AV) (σ':Sig):Prop:=∀ X:AV→Sig→Prop,(∀ a b,b≠a→X (.tup [.ref a,.ref b]) (σ.ow ((b,.lst [])::(a,.lst [])::σ.own) (b::a::σ.mt)))→X av σ'
theorem NewLL.elim {σ:Sig} {X:AV→Sig→Prop} (k:∀ a b,b≠a→X (.tup [.ref a,.ref b]) (σ.ow ((b,.lst [])::(a,.lst [])::σ.own) (b::a::σ.mt))) (av:AV) (σ':Sig) (h:NewLL σ av σ'):X av σ':=h X k
theorem EvK.twoLists {p1 p2 p:Pos} {k:Nat}:EvK g d sc σ (.Tuple [.List [] p1,.List [] p2] k p) (NewLL σ):=fun A env B Φ s r y=>
 wpAny_Tuple (wpAny_items_cons (EvK.listR EvL.nil (sml rfl) r y fun Φ₁ a s₁ l₁ ha y₁=>wpAny_items_cons (EvK.listR EvL.nil (sml rfl) r y₁ fun Φ₂ b s₂ l₂ hb y₂=>wpAny_items_nil ⟨by rw[sizeLine_eq];exact Nat.le_of_ble_eq_true rfl,by
  obtain⟨Ψ,pr,hbb⟩:=y₂.pre
  obtain⟨l₃,hp'⟩:=newΦ pr.hp {cls:=.type "tuple",data:=.seq [.ref a,.ref b].toArray} rfl
  exact⟨_,_,_,fun X k=>k a b (lk_n1 hb),(l₁.trans l₂).trans l₃,y₂.frame l₃ (pr.next l₃ hp') hbb fun a fa e=>pr.owned fa e,⟨_,_,[.ref a,.ref b].toArray,rfl,PH.put_self _ _ _,⟨0,rfl⟩,repL_cons rep_ref (repL_cons rep_ref repL_nil)⟩⟩⟩) rfl) rfl)
inductive XLPost (g:Glob) (sc:Scope) (env:Env) (σ:Sig) (B Φ:PH) (avs:List AV) (vs:List Value) (s:Shared):Prop
 | mk (Φ':PH) (l:PH.le Φ Φ') (y:At g sc env σ B Φ' s) (r:RepL Φ' avs vs)
noncomputable def EvLX (g:Glob) (d:Nat) (sc:Scope) (σ:Sig) (es:List PySem.Expr) (avs:List AV) (σ':Sig):Prop:=
 ∀ A env B Φ s pos,Room d A→At g sc env σ B Φ s→W g.w A (spliced (backTo pos (starEach es env))) (XLPost g sc env σ' B Φ avs) s
theorem EvLX.nil:EvLX g d sc σ [] [] σ:=fun A env B Φ s pos r y=>wpAny_items_nil ⟨Φ,PH.le.refl _,y,repL_nil⟩
theorem EvLX.cons {e:PySem.Expr} {es:List PySem.Expr} {a:AV} {as:List AV} {σ₁ σ₂:Sig} (h1:EvX g d sc σ e a σ₁) (h2:EvLX g d sc σ₁ es as σ₂) (he:autoParam (∀ env,starEach (e::es) env=(false,eval e env)::starEach es env) aR):EvLX g d sc σ (e::es) (a::as) σ₂:=fun A env B Φ s pos r y=>
 wpAny_items_cons (h1.run r y fun Φ₁ v s₁ l₁ y₁ r₁=>W.mono (h2 A env B Φ₁ s₁ pos r y₁) fun vs s₂ q0=>q0.casesOn fun Φ₂ l₂ y₂ r₂=>⟨Φ₂,l₁.trans l₂,y₂,repL_cons (Rep.mono l₂ _ _ r₁) r₂⟩) (he _)
theorem EvX.lst {es:List PySem.Expr} {p:Pos} {avs:List AV} {σ':Sig} (h:EvLX g d sc σ es avs σ') (hs:small avs.length):EvX g d sc σ (.List es p) (.lst avs) σ':=fun A env B Φ s r y=>by
 refine wpAny_List (W.mono (h A env B Φ s _ r y) fun vs s' ⟨Φ',l',y',rp⟩=>⟨by rw[repL_length rp];exact small_line hs,?_⟩)
 refine box fun bX bk=>?_
 obtain⟨Ψ,pr,hb⟩:=y'.pre
 obtain⟨l₂,hp'⟩:=newΦ pr.hp {cls:=.type "list",data:=.seq vs.toArray} rfl
 refine bk ?_
 clear bk bX
 refine⟨_,l'.trans l₂,y'.frame l₂ (pr.next l₂ hp') hb fun a fa e=>pr.owned fa e,?_⟩
 exact⟨_,_,vs.toArray,rfl,PH.put_self _ _ _,⟨0,rfl⟩,by simpa using RepL.mono l₂ _ _ rp⟩
theorem Bk.iteX {lft rgt:PySem.Expr} {op:CmpOp} {p pos:Pos} {b1 b2:List Stmt} {a b:AV} {c:Bool} {σ':Sig} (r:Room d A) (h1:EvX g d sc σ lft a σ') (h2:Ev g d sc σ' rgt b) (h:Op2 g d (compareOp op) a b (.bool c)) (k1:c=true→Bk g sc env A Φ₀ B σ' b1 (cont g env A rest Q)) (k2:c=false→Bk g sc env A Φ₀ B σ' b2 (cont g env A rest Q))
  (hm:autoParam (behindInMarks op rgt=false) aR):Bk g sc env A Φ₀ B σ (.If (.Compare lft [op] [rgt] p) b1 b2 pos::rest) Q:=.step fun Φ s l y=>by
 refine wpAny_If (wpAny_isTrue_Compare1 (h1.run r y fun Φ₁ v s₁ l₁ y₁ r₁=>h2.at r y₁ fun Φ₂ u s₂ l₂ y₂ r₂=>?_) hm)
 obtain⟨Ψ,pr,hb⟩:=y₂.pre
 refine W.mono (h A Φ₂ Ψ s₂ v u r pr.hp (Rep.mono l₂ _ _ r₁) r₂) fun w s₃ q0=>q0.casesOn fun Φ₃ l₃ hp rp=>?_
 replace rp:_=_:=rp
 subst rp
 have y₃:=y₂.frame l₃ (pr.next l₃ hp) hb fun a fa e=>pr.owned fa e
 refine wpAny_truthy_bool ?_
 cases c with
 | true=>exact k1 rfl Φ₃ s₃ (((l.trans l₁).trans l₂).trans l₃) y₃
 | false=>exact k2 rfl Φ₃ s₃ (((l.trans l₁).trans l₂).trans l₃) y₃
theorem Bk.swapK {a b:Str} {p q tpos pos:Pos} {n:Nat} {e:PySem.Expr} {K:AV→Sig→Prop} (r:Room d A) (h:EvK g d sc σ e K)
  (k:∀ av σ',K av σ'→∃ x y,av=.tup [x,y]∧stB sc σ' b=true∧stB sc (σ'.put b y) a=true∧Bk g sc env A Φ₀ B ((σ'.put b y).put a x) rest Q)
  (hw:∀ env,env.scope=sc→swappedStores [.Tuple [.Name a p,.Name b q] n tpos] e env=pure (some [a,b])) (hs:autoParam (swapsWithSole [.Tuple [.Name a p,.Name b q] n tpos] e pos.line env=pure false) aR):Bk g sc env A Φ₀ B σ (.Assign [.Tuple [.Name a p,.Name b q] n tpos] e pos::rest) Q:=.step fun Φ s l z=>by
 have hsc:env.scope=sc:=by obtain⟨Ψ,pr,_⟩:=z.pre;exact pr.ev.scE
 refine Assign_Tuple_swapped (W.mono (h A env B Φ s r z) fun v s' q0=>q0.casesOn fun Φ' av σ' hK l' y' rp=>?_) hs (hw env hsc)
 refine box fun bX bk=>?_
 obtain⟨x,y,rfl,hb,ha,kk⟩:=k av σ' hK
 refine bk ?_
 clear bk bX
 refine tup_elim rp fun t o vs ho hl hv=>?_
 refine box fun bX bk=>?_
 obtain⟨v1,ws,e1,r1,hv⟩:=repL_cons_inv hv
 obtain⟨v2,ws',e2,r2,hv⟩:=repL_cons_inv hv
 refine bk ?_
 clear bk bX
 have e3:=repL_nil_inv hv
 subst e3 e2
 refine box fun bX bk=>?_
 obtain⟨Ψ,pr,hb'⟩:=y'.pre
 refine bk ?_
 clear bk bX
 have hT:s'.heap.IsTuple t vs:=isTup_of pr.hp ho hl
 have hsz:vs.size=2:=by rw[←Array.length_toList,e1];rfl
 have hn:([a,b]:List Str).length=vs.size:=by rw[hsz];rfl
 rw[hn]
 refine wpAny_unpackItems_tuple r.hd hT fun h' he=>?_
 rw[e1]
 have z':At g sc env σ' B Φ' {s' with heap:=h'}:=y'.ext (tk:=s'.toks) fun b o e=>he b o (Nat.ne_of_lt (Heap.lt_size e)) e
 show W g.w A (holding [v1] (bindName env b v2)>>=fun _=>assignInOrder [bindName env a] [v1]) _ _
 refine wpAny_bind (wpAny_holding (wpAny_bindName (z'.store hb r2 fun s₁ z₁=>?_)))
 show W g.w A (holding [] (bindName env a v1)>>=fun _=>assignInOrder [] []) _ _
 refine wpAny_bind (wpAny_holding (wpAny_bindName (z₁.store ha r1 fun s₂ z₂=>?_)))
 exact wpAny_pure (kk Φ' s₂ (l.trans l') z₂)
end
end
section
open PySem.Builtin PySem.Builtin.Str
section
variable {g:Glob} {d:Nat} {sc:Scope} {σ:Sig}
theorem range_filter_get {α β:Type} (l:List α) (p:α→Bool) (h:α→β) (b:β):((List.range l.length).filter (fun i=>(l[i]?.map p).getD false)).map (fun i=>(l[i]?.map h).getD b)=(l.filter p).map h:=by
 have key:∀ k,k≤l.length→((List.range k).filter (fun i=>(l[i]?.map p).getD false)).map (fun i=>(l[i]?.map h).getD b)=((l.take k).filter p).map h:=by
  intro k
  induction k with
  | zero=>intro _;simp
  | succ k ih=>
   intro hk
   have hlt:k<l.length:=hk
   rw[List.range_succ,List.filter_append,List.map_append,ih (by lia),List.take_add_one,List.getElem?_eq_getElem hlt]
   rw[List.filter_append,List.map_append]
   congr 1
   cases hp:p l[k]<;>simp[List.getElem?_eq_getElem hlt,hp]
 rw[key _ (Nat.le_refl _),List.take_of_length_le (Nat.le_refl _)]
theorem Ev.compL {α:Type} {elt target iter:PySem.Expr} {scope:Scope} {pos:Pos} {av:AV} (l:List α) (f h:α→AV) (h1:Ev g d sc σ iter av) (hi:IterV g d av (l.map f)) (hB:compB sc scope=true) (hlen:l.length≤10000)
  (turn:∀ y∈l,∃ vars',Turn g d (relS sc scope) (inhV σ scope) (inhF scope) target [] (f y) vars' true∧∀ own mt,Ev g d (relS sc scope) ⟨vars',own,inhF scope,mt⟩ elt (h y))
  (hs:autoParam (∀ env x,foldedSetIterable iter env x=pure x) aR):Ev g d sc σ (.ListComp elt [⟨target,iter,[],0⟩] scope pos) (.lst (l.map h)):=by
 have e:=range_map_get l h .none
 have:=Ev.comp1 (elt:=elt) (target:=target) (scope:=scope) (pos:=pos) (fun i=>(l[i]?.map h).getD .none) h1 hi hB (by simpa using hlen) (fun i x hx=>?_) hs
 ·rw[List.length_map,e] at this;exact this
 ·rw[List.getElem?_map,Option.map_eq_some_iff] at hx
  obtain⟨y,hy,rfl⟩:=hx
  obtain⟨v,h2,h3⟩:=turn y (List.mem_of_getElem? hy)
  exact⟨v,h2,by rw[hy];exact h3⟩
theorem Ev.compLIf {α:Type} {elt target iter c:PySem.Expr} {scope:Scope} {pos:Pos} {av:AV} (l:List α) (f h:α→AV) (p:α→Bool) (h1:Ev g d sc σ iter av) (hi:IterV g d av (l.map f)) (hB:compB sc scope=true) (hlen:l.length≤10000)
  (turn:∀ y∈l,∃ vars',Turn g d (relS sc scope) (inhV σ scope) (inhF scope) target [c] (f y) vars' (p y)∧(p y=true→∀ own mt,Ev g d (relS sc scope) ⟨vars',own,inhF scope,mt⟩ elt (h y)))
  (hs:autoParam (∀ env x,foldedSetIterable iter env x=pure x) aR):Ev g d sc σ (.ListComp elt [⟨target,iter,[c],0⟩] scope pos) (.lst ((l.filter p).map h)):=by
 have e:=range_filter_get l p h .none
 have:=Ev.compIf (elt:=elt) (target:=target) (c:=c) (scope:=scope) (pos:=pos) (fun i=>(l[i]?.map p).getD false) (fun i=>(l[i]?.map h).getD .none) h1 hi hB (by simpa using hlen) (fun i x hx=>?_) hs
 ·rw[List.length_map,e] at this;exact this
 ·rw[List.getElem?_map,Option.map_eq_some_iff] at hx
  obtain⟨y,hy,rfl⟩:=hx
  obtain⟨v,h2,h3⟩:=turn y (List.mem_of_getElem? hy)
  exact⟨v,by rw[hy];exact h2,by rw[hy];exact h3⟩
theorem rngL_eq (n:Nat):rngL 0 1 n=(List.range n).map (fun(i:Nat)=>AV.int (i:Int)):=by
 unfold rngL
 refine List.map_congr_left fun i _=>?_
 simp
theorem IterV.range (n:Nat) (hs:n≤1000000):IterV g d (rngAV 0 (n:Int) 1) ((List.range n).map (fun(i:Nat)=>AV.int (i:Int))):=by rw[←rngL_eq];exact IterV.range1 n hs
noncomputable def drawI (h:Int) (k:Nat):Int:=(h.fdiv (4*15^k)).fmod 15
noncomputable def heapsStep (ns:List Int) (st:Int × Int) (k:Nat):Int × Int:=if k%2=0 then(st.1+(ns[k]?.getD 0),st.2) else(st.1,st.2+(ns[k]?.getD 0))
noncomputable def heapsRun (ns:List Int) (n:Nat):Int × Int:=(List.range n).foldl (heapsStep ns) (3379,230)
theorem heapsRun_succ (ns:List Int) (n:Nat):heapsRun ns (n+1)=heapsStep ns (heapsRun ns n) n:=by unfold heapsRun;rw[List.range_succ,List.foldl_append];rfl
noncomputable def lettersS:Str:=⟨#[97,98,99,100,101,102,103,104,105,106,107,108,109,110,111]⟩
noncomputable def letterS (k:Nat):Str:=⟨#[97+k]⟩
noncomputable def kindC (f k:Nat):Nat:=[43,45,94].getD ((f+k/5)%3) 0
noncomputable def kindS (f:Nat) (marks:List Nat) (k:Nat):Str:=if marks.contains k then⟨#[kindC f k]⟩ else⟨#[]⟩
noncomputable def rowP (f:Nat) (marks:List Nat):List (Str × Str):=(List.range 15).map fun k=>(letterS k,kindS f marks k)
noncomputable def marksOf (ds:List Int):List Nat:=(List.range 15).filter fun k=>ds.contains (k:Int)
noncomputable def widthsOf (h:Int):List Nat:=[2^(1+(h.fmod 4).toNat),3^(1+((h.fdiv 4).fmod 2).toNat),5,[7,11,13].getD ((h.fdiv 8).fmod 3).toNat 0]
noncomputable def beginOf (h:Int):Nat:=((h.fdiv 24).fmod 4).toNat
noncomputable def rotW (h:Int):List Nat:=(widthsOf h).drop (beginOf h)++(widthsOf h).take (beginOf h)
noncomputable def bitsOf (h:Int):Nat:=3+((h.fdiv 96).fmod 6).toNat
noncomputable def kindOf1 (h:Int):Nat:=((h.fdiv 576).fmod 3).toNat
end
end
section
open PySem.Builtin PySem.Builtin.Str
section
variable {g:Glob} {d:Nat} {sc:Scope} {σ:Sig} {ω:Ow}
noncomputable def askL (ms:List Nat):List Str:=⟨#[42]⟩::ms.map fun k=>Txt.upper (letterS k)
noncomputable def textOf (f:Nat) (ms:List Nat):Str:=(markRun (rowP f ms++[(⟨#[]⟩,⟨#[]⟩)])).1
noncomputable def intsL (l:List Nat):AV:=.lst (l.map fun(n:Nat)=>AV.int (n:Int))
noncomputable def askedAV (ms:List Nat) (b:Addr):AV:=.obj 351 (entryFs (strL (askL ms)) (.ref b))
theorem three_at (j:Nat) (h:j<3):[AV.int 7,AV.int 11,AV.int 13][j]?=some (.int (([7,11,13].getD j 0:Nat):Int)):=by
 cases j with
 | zero=>rfl
 | succ j=>
  cases j with
  | zero=>rfl
  | succ j=>
   cases j with
   | zero=>rfl
   | succ j=>exact absurd h (Nat.not_lt_of_le (Nat.le_add_left 3 j))
theorem heaps_at (a b:Int) (i:Nat) (h:i<2):[AV.int a,AV.int b][i]?=some (.int (if i=0 then a else b)):=by
 cases i with
 | zero=>rfl
 | succ i=>
  cases i with
  | zero=>rfl
  | succ i=>exact absurd h (Nat.not_lt_of_le (Nat.le_add_left 2 i))
theorem mem_range15 (ds:List Int):∀ k∈marksOf ds,k<15:=fun k hk=>List.mem_range.mp (List.mem_filter.mp hk).1
theorem letters_at (k:Nat) (h:k<15):lettersS.cps[((k:Nat):Int).toNat]?=some (97+k):=by
 rw[Int.toNat_natCast]
 have:∀ k,k<15→lettersS.cps[k]?=some (97+k):=by decide
 exact this k h
theorem Str.letter_ok (k:Nat) (h:k<15):PyData.strOk (letterS k)=true:=by
 have:∀ k,k<15→PyData.strOk (letterS k)=true:=by decide +kernel
 exact this k h
theorem kind_ok (f:Nat) (ms:List Nat) (k:Nat):PyData.strOk (kindS f ms k)=true:=by
 unfold kindS kindC
 have:∀ j,j<3→PyData.strOk (⟨#[[43,45,94].getD j 0]⟩:Str)=true:=by decide +kernel
 split
 ·exact this _ (Nat.mod_lt _ (by lia))
 ·exact ok_nil
theorem row_short (f:Nat) (ms:List Nat):∀ p∈rowP f ms,short p:=by
 intro p hp
 unfold rowP at hp
 obtain⟨k,hk,rfl⟩:=List.mem_map.mp hp
 refine⟨Nat.le_refl _,?_,Str.letter_ok k (List.mem_range.mp hk),kind_ok f ms k⟩
 unfold kindS
 split
 ·exact Nat.le_refl _
 ·exact Nat.zero_le _
theorem fdiv_nat_bits (n:Nat) (h:n<2^1000):((n:Int)).natAbs.log2<9000:=by
 rw[Int.natAbs_natCast]
 by_cases h0:n=0
 ·rw[h0];decide
 ·rw[Nat.log2_lt h0]
  exact Nat.lt_of_lt_of_le h (Nat.pow_le_pow_right (by(clear h0 h;lia)) (by(clear h0 h;lia)))
theorem fmod_toNat (a:Int) (n:Nat) (h:0<n):((a.fmod n).toNat:Int)=a.fmod n∧(a.fmod n).toNat<n:=by
 have h1:=Int.fmod_nonneg_of_pos a (b:=n) (by omega)
 have h2:=Int.fmod_lt_of_pos a (b:=n) (by(clear h1;omega))
 (clear h;omega)
theorem fmI (a m:Int) (n:Nat) (hm:m=n) (h:0<n):0≤a.fmod m∧a.fmod m<m:=by
 subst hm
 have:=fmod_toNat a n h
 omega
theorem one_add {x:Int} (h:0≤x):(1+x).toNat=1+x.toNat:=by lia
theorem pw1 {x:Int} (h:0≤x):0≤1+x:=by lia
theorem pw2 {x:Int} (h:x<4):((2:Nat):Int)*(1+x)≤2^27:=by lia
theorem bt1 {x:Int} (h:0≤x):((3+x.toNat:Nat):Int)=3+x:=by lia
theorem bt2 {x:Int} (h:0≤x) (h':x<6):3+x.toNat≤8:=by lia
theorem modd {n:Nat} (h:¬ n%2=0):n%2=1:=by lia
theorem cut4 {b:Nat}:4-b+min b 4≤1000000:=by omega
theorem pow15 (k:Nat) (h:k<4):(4*15^k:Int)=((4*15^k:Nat):Int)∧(4*15^k:Nat)<2^1000∧0<(4*15^k:Nat):=by
 have:∀ k,k<4→(4*15^k:Int)=((4*15^k:Nat):Int)∧(4*15^k:Nat)<2^1000∧0<(4*15^k:Nat):=by decide +kernel
 exact this k h
theorem eqv_int (a b:Int):PyData.eqv (.int a) (.int b)=(a==b):=by rfl
theorem in_draws (ds:List Int) (k:Int):(pds (ds.map AV.int)).any (fun y=>PyData.eqv y (.int k))=ds.contains k:=by
 induction ds with
 | nil=>rfl
 | cons x r ih=>
  simp only[List.map_cons,pds,pd,List.any_cons,eqv_int,ih,List.contains_cons]
  congr 1
  exact Bool.eq_iff_iff.mpr ⟨fun h=>by simpa using (beq_iff_eq.mp h).symm,fun h=>by simpa using (beq_iff_eq.mp h).symm⟩
theorem in_ints (ms:List Nat) (k:Nat):(pds (ms.map fun(n:Nat)=>AV.int (n:Int))).any (fun y=>PyData.eqv y (.int (k:Int)))=ms.contains k:=by
 have e:(ms.map fun(n:Nat)=>AV.int (n:Int))=(ms.map fun(n:Nat)=>(n:Int)).map AV.int:=by rw[List.map_map];rfl
 rw[e,in_draws]
 induction ms with
 | nil=>rfl
 | cons x r ih=>
  simp only[List.map_cons,List.contains_cons] at ih ⊢
  rw[ih (by rw[List.map_map];rfl)]
  congr 1
  exact Bool.eq_iff_iff.mpr ⟨fun h=>by have:=beq_iff_eq.mp h;simp;lia,fun h=>by have:=beq_iff_eq.mp h;simp;lia⟩
theorem plain_ints (ms:List Nat):Plain (intsL ms):=(PlainD.lst (n:=0) (fun x hx=>by obtain⟨k,_,rfl⟩:=List.mem_map.mp hx;exact PlainD.int)).plain
theorem add_fmod3 (a:Int) (m:Nat):(a+(m:Int)).fmod 3=((((a.fmod 3).toNat+m)%3:Nat):Int):=by
 have h1:=fmod_toNat a 3 (by lia)
 have e1:a.fmod 3=a%3:=Int.fmod_eq_emod_of_nonneg _ (by lia)
 have e2:(a+(m:Int)).fmod 3=(a+(m:Int))%3:=Int.fmod_eq_emod_of_nonneg _ (by lia)
 rw[e2]
 have h3:((3:Nat):Int)=3:=rfl
 rw[h3,e1] at h1
 rw[e1]
 lia
theorem kind_at (f k:Nat):(⟨#[43,45,94]⟩:Str).cps[(((f+k/5)%3:Nat):Int).toNat]?=some (kindC f k):=by
 rw[Int.toNat_natCast]
 unfold kindC
 have:∀ j,j<3→(#[43,45,94]:Array Nat)[j]?=some ([43,45,94].getD j 0):=by decide
 exact this _ (Nat.mod_lt _ (by lia))
theorem fdiv_nat (a b:Nat):((a:Int)).fdiv (b:Int)=((a/b:Nat):Int):=(Int.ofNat_fdiv a b).symm
theorem upper_ok (k:Nat) (h:k<15):tooLong (Txt.upper (letterS k)).length=false:=by
 have:∀ k,k<15→tooLong (Txt.upper (letterS k)).length=false:=by decide +kernel
 exact this k h
noncomputable def sigL (f:Nat) (ms ws:List Nat) (e:Nat) (b:Addr) (sh:AV) (tot:Nat) (own:Ow) (mt:List Addr):Sig:=⟨[(n_shared,sh),(n_total,.int (tot:Int)),(n_letters,.str lettersS),(n_marks,intsL ms),(n_widths,intsL ws),(n_bits,.int (e:Int)),(n_base,.int ((2^e:Nat):Int)),(n_row,rowAV (rowP f ms)),(n_text,.str (textOf f ms)),(n_asked,askedAV ms b)],own,[],mt⟩
set_option maxHeartbeats 4000000 in
theorem fn_law (ns:List Int) (hns:ns.length≤63)
  (tail:∀ (A:Around) (env:Env) (Φ B:PH) (b:Addr) (f:Nat) (ms ws:List Nat) (e:Nat),Room (d+200) A→(∃ H:Int × Int,f=kindOf1 H.2∧ws=rotW H.2∧e=bitsOf H.2∧ms=marksOf ((List.range (H.1.fmod 4).toNat).map (drawI H.1)))→Bk g (scOf (Mine.Internal.hd.zo_407 g.w.params)) env A Φ B (sigL f ms ws e b .none 0 [] []) ((bodyOf (Mine.Internal.hd.zo_407 g.w.params)).drop 15) (FQ g (scOf (Mine.Internal.hd.zo_407 g.w.params)) env Φ B [] (fun r _=>r=.bool true))) :
  Fn g (d+201) ω (.ref 402) [.lst (ns.map AV.int)] [] (.bool true):=by
 refine Fn.any (FnM.fn (FnC.fnM (FnC.body (o:=Mine.Internal.hd.zo_407 g.w.params) (by kernel_rfl) rfl rfl {hu:=nodupB_ok (by decide +kernel)} rfl (by decide) (bind_pos (ps:=[n_script]) (by exact fun _=>rfl) rfl) (by kernel_rfl) noM (Nat.succ_pos _) fun A env Φ B r=>?_)))
 ·refine Bk.newList (avs:=[.int 3379,.int 230]) r (by exact(EvL.cons (Ev.int _) (EvL.cons (Ev.int _) EvL.nil))) (by simp[small]) rfl fun a ha=>?_
  have hsm2:∀ (x y:AV),small [x,y].length:=fun _ _=>by simp[small]
  refine Bk.forS r (xs:=(List.range ns.length).map (fun(i:Nat)=>AV.int (i:Int))) (fun i=>⟨[(n_heaps,.ref a),(n_script,.lst (ns.map AV.int))],[(a,.lst [.int (heapsRun ns i).1,.int (heapsRun ns i).2])],[],[a]⟩) ⟨rfl,rfl,trivial⟩
   (EvIt.of (Ev.call (avs:=[.int (ns.length:Int)]) (Ev.bi rfl (by kernel_rfl) rfl) (Keep.ty _) (EvL.cons (by
    have:=Fn.len (g:=g) (d:=d+200) (ω:=[(a,.lst [.int (heapsRun ns 0).1,.int (heapsRun ns 0).2])]) (xs:=ns.map AV.int) (by unfold small;rw[List.length_map];(clear hsm2 ha r tail;lia))
    rw[List.length_map] at this
    exact Ev.call (Ev.bi rfl (by kernel_rfl) rfl) (Keep.bi _) (by exact(EvL.cons (Ev.name rfl) EvL.nil)) this) EvL.nil) Fn.range1) (IterV.range _ (by(clear hsm2 ha r tail;lia)))) (fun i x B' Φ₁ hx lb lΦ=>?_) ?_
  ·rw[List.getElem?_map,Option.map_eq_some_iff] at hx
   refine box fun bX bk=>?_
   obtain⟨i',hi',rfl⟩:=hx
   refine bk ?_
   clear bk bX
   obtain⟨hlt,hie⟩:i<ns.length∧i'=i:=by
    rw[List.getElem?_eq_some_iff] at hi'
    refine box fun bX bk=>?_
    obtain⟨h1,h2⟩:=hi'
    refine bk ?_
    clear bk bX
    simp at h1 h2
    exact⟨h1,h2.symm⟩
   subst hie
   refine⟨_,Tgt.name rfl,?_⟩
   have hm:((i':Int)).fmod 2=((i'%2:Nat):Int):=by rw[Int.fmod_eq_emod_of_nonneg _ (by decide)];rfl
   have hidx:[AV.int (heapsRun ns i').1,AV.int (heapsRun ns i').2][((i'%2:Nat):Int).toNat]?=some (.int (if i'%2=0 then(heapsRun ns i').1 else(heapsRun ns i').2)):=by
    rw[Int.toNat_natCast];exact heaps_at _ _ _ (Nat.mod_lt _ (by(clear hm hlt hi' lΦ lb hsm2 ha r tail hns;lia)))
   refine Bk.augAt (k:=((i'%2:Nat):Int)) (v:=.int (ns[i']?.getD 0)) r (Ev.name rfl) (Ev.asI hm (Ev.bin (Ev.name rfl) (Ev.int 2) (Op2.mod (by decide)))) (Ev.item (Ev.name rfl) (Ev.name (av:=.int (i':Int)) rfl) (Int.natCast_nonneg _) (by rw[Int.toNat_natCast,List.getElem?_map,List.getElem?_eq_getElem hlt];rfl) (by unfold small;rw[List.length_map];(clear hidx hm hlt hi' lΦ lb hsm2 ha r tail;lia))) Op2.iadd lk_eq (by simp[Sig.put]) (by(clear hidx hm hlt hi' lΦ lb hsm2 ha r tail hns;lia)) hidx (hsm2 _ _) ?_
   refine Bk.ownTo [(a,.lst [.int (heapsRun ns (i'+1)).1,.int (heapsRun ns (i'+1)).2])] [a] ?_ (fun b ov q=>?_) (fun b hb=>⟨hb,by rw[List.mem_singleton.mp hb,lk_eq];rfl⟩)
   ·exact Bk.nextS _ rfl ⟨rfl,rfl,trivial⟩
   ·rcases lkc q with ⟨rfl,rfl⟩ | ⟨q1,q⟩
    ·rw[lk_eq,heapsRun_succ,Int.toNat_natCast]
     unfold heapsStep
     by_cases h:i'%2=0
     ·rw[if_pos h,if_pos h,h];rfl
     ·have h1:i'%2=1:=modd h
      rw[if_neg h,if_neg h,h1];rfl
    ·simp at q
  ·rw[List.length_map,List.length_range]
   obtain⟨H,hH⟩:∃ H,H=heapsRun ns ns.length:=⟨_,rfl⟩
   rw[←hH]
   refine Bk.freeze (own':=[]) (mt':=[]) (x:=n_heaps) (a:=a) rfl lk_eq mA noO noM ?_
   refine Bk.assign r (Ev.str _) rfl ?_
   have h04:=fmod_toNat H.1 4 (by(clear hH hsm2 ha r tail hns;lia))
   obtain⟨n,hn⟩:∃ n,n=(H.1.fmod 4).toNat:=⟨_,rfl⟩
   rw[show((4:Nat):Int)=4 from rfl,←hn] at h04
   have hsmH:small [AV.int H.1,AV.int H.2].length:=by simp[small]
   obtain⟨ds,hds⟩:∃ ds,ds=(List.range n).map (drawI H.1):=⟨_,rfl⟩
   have hds2:ds.map AV.int=(List.range n).map (fun i=>AV.int (drawI H.1 i)):=by rw[hds,List.map_map];rfl
   refine Bk.assignC (av:=.lst (ds.map AV.int)) r ?_ rfl ?_ (fun env h=>by cases env;cases h;rfl)
   ·rw[hds2]
    refine Ev.compL (List.range n) (fun(i:Nat)=>AV.int (i:Int)) _ (Ev.call (avs:=[.int (n:Int)]) (Ev.bi rfl (by kernel_rfl) rfl) (Keep.ty _) (EvL.cons (by
      refine Ev.saI h04.1 ?_
      exact Ev.bin (Ev.item (Ev.name rfl) (Ev.int 0) (by decide) rfl hsmH) (Ev.int 4) (Op2.mod (by decide))) EvL.nil) Fn.range1) (IterV.range n (Nat.le_trans (Nat.le_of_lt h04.2) (by decide))) (by decide) (by simp;(clear hds2 hds hsmH hn hH hsm2 ha r tail hns;lia)) (fun y hy=>?_)
    have hy4:y<4:=Nat.lt_trans (List.mem_range.mp hy) h04.2
    refine box fun bX bk=>?_
    obtain⟨p1,p2,p3⟩:=pow15 y hy4
    refine bk ?_
    clear bk bX
    refine⟨_,Turn.name (fun _ _=>rfl) rfl (fun _ _=>IfsB.nil),fun own mt=>?_⟩
    refine Ev.bin (Ev.bin (Ev.item (Ev.name rfl) (Ev.int 0) (by decide) rfl hsmH) (Ev.bin (Ev.int 4) (Ev.bin (Ev.int 15) (Ev.name rfl) (Op2.pow (i:=15) (j:=(y:Int)) (by(clear p3 p2 p1 hy4 hy hds2 hds hsmH hn h04 hH hsm2 ha r tail hns;lia)) ?_)) (Op2.mul (i:=4) (j:=15^y) (IntMulOk.of_left (by decide)))) (Op2.div (i:=H.1) (j:=4*15^y) (by rw[p1];(clear p2 p1 hy4 hy hds2 hds hsmH hn h04 hH hsm2 ha r tail hns;lia)) (by rw[p1];exact fdiv_nat_bits _ p2))) (Ev.int 15) (Op2.mod (by decide))
    have:Builtin.Int.intBits 15=4:=by decide
    rw[this]
    (clear this p3 p2 p1 hy hds2 hds hsmH hn h04 hH hsm2 ha r tail hns;lia)
   refine Bk.assignC (av:=intsL (marksOf ds)) r ?_ rfl ?_ (fun env h=>by cases env;cases h;rfl)
   ·refine Ev.compLIf (List.range 15) (fun(i:Nat)=>AV.int (i:Int)) (fun(i:Nat)=>AV.int (i:Int)) (fun k=>ds.contains (k:Int)) (Ev.call (avs:=[.int ((15:Nat):Int)]) (Ev.bi rfl (by kernel_rfl) rfl) (Keep.ty _) (EvL.cons (Ev.int 15) EvL.nil) Fn.range1) (IterV.range 15 (by decide)) (by decide) (by simp) (fun y hy=>?_)
    refine⟨_,Turn.name (fun _ _=>rfl) rfl (fun _ _=>?_),fun _ own mt=>Ev.name rfl⟩
    refine IfsB.one ?_
    rw[←in_draws]
    exact Ts.cmp (Ev.name rfl) (Ev.name rfl) (Op2.inL (PlainD.int (n:=0)).plain (PlainD.lst (n:=0) (fun x hx=>by obtain⟨k,_,rfl⟩:=List.mem_map.mp hx;exact PlainD.int)).plain)
   obtain⟨ms,hms⟩:∃ ms,ms=marksOf ds:=⟨_,rfl⟩
   have hm15:∀ k∈ms,k<15:=by rw[hms];exact mem_range15 ds
   have hml:ms.length≤15:=by
    rw[hms];unfold marksOf
    refine Nat.le_trans (List.length_filter_le _ _) ?_
    simp
   rw[←hms]
   have i2:Builtin.Int.intBits 2=2:=by decide
   have i3:Builtin.Int.intBits 3=2:=by decide
   have h14b:0≤H.2.fmod 4∧H.2.fmod 4<4:=fmI _ 4 4 rfl (by decide)
   have h12b:0≤(H.2.fdiv 4).fmod 2∧(H.2.fdiv 4).fmod 2<2:=fmI _ 2 2 rfl (by decide)
   have h83b:0≤(H.2.fdiv 8).fmod 3∧(H.2.fdiv 8).fmod 3<3:=fmI _ 3 3 rfl (by decide)
   have h24b:0≤(H.2.fdiv 24).fmod 4∧(H.2.fdiv 24).fmod 4<4:=fmI _ 4 4 rfl (by decide)
   have h96b:0≤(H.2.fdiv 96).fmod 6∧(H.2.fdiv 96).fmod 6<6:=fmI _ 6 6 rfl (by decide)
   have w0:((2^(1+(H.2.fmod 4).toNat):Nat):Int)=2^(1+H.2.fmod 4).toNat:=by
    have:(1+H.2.fmod 4).toNat=1+(H.2.fmod 4).toNat:=one_add h14b.1
    rw[this];push_cast;rfl
   have w1:((3^(1+((H.2.fdiv 4).fmod 2).toNat):Nat):Int)=3^(1+(H.2.fdiv 4).fmod 2).toNat:=by
    have:(1+(H.2.fdiv 4).fmod 2).toNat=1+((H.2.fdiv 4).fmod 2).toNat:=one_add h12b.1
    rw[this];push_cast;rfl
   have w3:[AV.int 7,AV.int 11,AV.int 13][((H.2.fdiv 8).fmod 3).toNat]?=some (.int (([7,11,13].getD ((H.2.fdiv 8).fmod 3).toNat 0:Nat):Int)):=by
    exact three_at _ ((Int.toNat_lt h83b.1).2 h83b.2)
   have hwl:(widthsOf H.2).length=4:=rfl
   refine Bk.assign (av:=intsL (widthsOf H.2)) r (Ev.lst (avs:=[.int ((2^(1+(H.2.fmod 4).toNat):Nat):Int),.int ((3^(1+((H.2.fdiv 4).fmod 2).toNat):Nat):Int),.int ((5:Nat):Int),.int (([7,11,13].getD ((H.2.fdiv 8).fmod 3).toNat 0:Nat):Int)]) (EvL.cons (by
     refine Ev.saI w0 ?_
     exact Ev.bin (Ev.int 2) (Ev.bin (Ev.int 1) (Ev.bin (Ev.item (Ev.name rfl) (Ev.int 1) (by decide) rfl hsmH) (Ev.int 4) (Op2.mod (by decide))) Op2.add) (Op2.pow (pw1 h14b.1) (by rw[i2];exact pw2 h14b.2))) (EvL.cons (by
     refine Ev.saI w1 ?_
     exact Ev.bin (Ev.int 3) (Ev.bin (Ev.int 1) (Ev.bin (Ev.bin (Ev.item (Ev.name rfl) (Ev.int 1) (by decide) rfl hsmH) (Ev.int 4) (Op2.div (by decide) (by decide))) (Ev.int 2) (Op2.mod (by decide))) Op2.add) (Op2.pow (pw1 h12b.1) (by rw[i3];exact pw2 (Int.lt_of_lt_of_le h12b.2 (by decide))))) (EvL.cons (Ev.int 5) (EvL.cons (Ev.item (Ev.lst (by exact(EvL.cons (Ev.int _) (EvL.cons (Ev.int _) (EvL.cons (Ev.int _) EvL.nil)))) (by simp[small])) (Ev.bin (Ev.bin (Ev.item (Ev.name rfl) (Ev.int 1) (by decide) rfl hsmH) (Ev.int 8) (Op2.div (by decide) (by decide))) (Ev.int 3) (Op2.mod (by decide))) (by(clear hwl w3 w1 w0 h96b h24b h12b h14b i3 i2 hml hm15 hms hds2 hds hsmH hn h04 hH hsm2 ha r tail hns;lia)) w3 (by simp[small])) EvL.nil)))) (by simp[small])) rfl ?_
   have hb0:((beginOf H.2:Nat):Int)=(H.2.fdiv 24).fmod 4:=Int.toNat_of_nonneg h24b.1
   have hb4:beginOf H.2≤4:=Nat.le_of_lt ((Int.toNat_lt h24b.1).2 h24b.2)
   refine Bk.assign (av:=.int (beginOf H.2:Nat)) r (by
    refine Ev.saI hb0 ?_
    exact Ev.bin (Ev.bin (Ev.item (Ev.name rfl) (Ev.int 1) (by decide) rfl hsmH) (Ev.int 24) (Op2.div (by decide) (by decide))) (Ev.int 4) (Op2.mod (by decide))) rfl ?_
   have hrot:intsL (rotW H.2)=.lst (cut ((widthsOf H.2).map fun(n:Nat)=>AV.int (n:Int)) (some (beginOf H.2:Int)) Option.none Option.none++cut ((widthsOf H.2).map fun(n:Nat)=>AV.int (n:Int)) Option.none (some (beginOf H.2:Int)) Option.none):=by
    rw[cut_from _ _ (by rw[List.length_map,hwl];exact hb4),cut_to _ _ (by rw[List.length_map,hwl];exact hb4)]
    unfold intsL rotW
    rw[List.map_append,List.map_drop,List.map_take]
   have hsmW:small ((widthsOf H.2).map fun(n:Nat)=>AV.int (n:Int)).length:=by rw[List.length_map,hwl];simp[small]
   refine Bk.assign (av:=intsL (rotW H.2)) r (by
    refine Ev.sa hrot ?_
    refine Ev.bin (Ev.slice (Ev.name (av:=intsL (widthsOf H.2)) rfl) (lo:=some (beginOf H.2:Int)) (hi:=Option.none) (Ev.name (av:=.int (beginOf H.2:Nat)) rfl) trivial hsmW) (Ev.slice (Ev.name (av:=intsL (widthsOf H.2)) rfl) (lo:=Option.none) (hi:=some (beginOf H.2:Int)) trivial (Ev.name (av:=.int (beginOf H.2:Nat)) rfl) hsmW) (Op2.addL ?_)
    rw[cut_from _ _ (by rw[List.length_map,hwl];exact hb4),cut_to _ _ (by rw[List.length_map,hwl];exact hb4)]
    simp[small,hwl];exact cut4) rfl ?_
   have hbt:((bitsOf H.2:Nat):Int)=3+(H.2.fdiv 96).fmod 6:=bt1 h96b.1
   have hbt8:bitsOf H.2≤8:=bt2 h96b.1 h96b.2
   refine Bk.assign (av:=.int (bitsOf H.2:Nat)) r (by
    refine Ev.saI hbt ?_
    exact Ev.bin (Ev.int 3) (Ev.bin (Ev.bin (Ev.item (Ev.name rfl) (Ev.int 1) (by decide) rfl hsmH) (Ev.int 96) (Op2.div (by decide) (by decide))) (Ev.int 6) (Op2.mod (by decide))) Op2.add) rfl ?_
   refine Bk.assign (av:=.int ((2^bitsOf H.2:Nat):Int)) r (by
    have:((2^bitsOf H.2:Nat):Int)=2^((bitsOf H.2:Nat):Int).toNat:=by rw[Int.toNat_natCast];push_cast;rfl
    refine Ev.saI this ?_
    exact Ev.bin (Ev.int 2) (Ev.name rfl) (Op2.pow (by(clear this hbt8 hbt hsmW hrot hb4 hb0 hwl w3 w1 w0 h96b h24b h83b h12b h14b i3 i2 hml hm15 hms hds2 hds hsmH hn h04 hH hsm2 ha r tail hns;lia)) (by rw[i2];(clear this hbt8 hsmW hrot hb4 hb0 hwl w3 w1 w0 h24b h83b h12b h14b i3 i2 hml hm15 hms hds2 hds hsmH hn h04 hH hsm2 ha r tail hns;lia)))) rfl ?_
   have hf0:kindOf1 H.2=((H.2.fdiv 576).fmod 3).toNat:=rfl
   refine Bk.assignC (av:=rowAV (rowP (kindOf1 H.2) ms)) r ?_ rfl ?_ (fun env h=>by cases env;cases h;rfl)
   ·have e:rowAV (rowP (kindOf1 H.2) ms)=.lst ((List.range 15).map fun k=>AV.tup [.str (letterS k),.str (kindS (kindOf1 H.2) ms k)]):=by unfold rowAV rowP;rw[List.map_map];rfl
    rw[e]
    refine Ev.compL (List.range 15) (fun(i:Nat)=>AV.int (i:Int)) _ (Ev.call (avs:=[.int ((15:Nat):Int)]) (Ev.bi rfl (by kernel_rfl) rfl) (Keep.ty _) (EvL.cons (Ev.int 15) EvL.nil) Fn.range1) (IterV.range 15 (by decide)) (by decide) (by simp) (fun y hy=>?_)
    have hy15:y<15:=List.mem_range.mp hy
    refine⟨_,Turn.name (fun _ _=>rfl) rfl (fun _ _=>IfsB.nil),fun own mt=>?_⟩
    refine Ev.tup (EvL.cons (Ev.itemS (x:=lettersS) (Ev.name rfl) (Ev.name rfl) (Int.natCast_nonneg _) (letters_at y hy15) (by show 15≤1000000;decide)) (EvL.cons (Ev.ite (b:=ms.contains y) (by
     rw[←in_ints]
     exact Ts.cmp (Ev.name rfl) (Ev.name (av:=intsL ms) rfl) (Op2.inL (PlainD.int (n:=0)).plain (plain_ints ms))) (fun hb=>?_) (fun hb=>?_)) EvL.nil)) (by simp[small])
    ·have e2:kindS (kindOf1 H.2) ms y=⟨#[kindC (kindOf1 H.2) y]⟩:=by unfold kindS;rw[if_pos hb]
     rw[e2]
     have hidx:((((kindOf1 H.2)+y/5)%3:Nat):Int)=(H.2.fdiv 576+((y:Int)).fdiv 5).fmod 3:=by
      have:=fdiv_nat y 5
      rw[show((5:Nat):Int)=5 from rfl] at this
      rw[this,add_fmod3];rfl
     exact Ev.itemS (x:=⟨#[43,45,94]⟩) (i:=((((kindOf1 H.2)+y/5)%3:Nat):Int)) (Ev.str _) (by
      refine Ev.saI hidx ?_
      exact Ev.bin (Ev.bin (Ev.bin (Ev.item (Ev.name rfl) (Ev.int 1) (by decide) rfl hsmH) (Ev.int 576) (Op2.div (by decide) (by decide))) (Ev.bin (Ev.name rfl) (Ev.int 5) (Op2.div (by decide) (by decide))) Op2.add) (Ev.int 3) (Op2.mod (by decide))) (Int.natCast_nonneg _) (kind_at _ _) (by show 3≤1000000;decide)
    ·have e2:kindS (kindOf1 H.2) ms y=⟨#[]⟩:=by unfold kindS;rw[if_neg (by rw[hb];decide)]
     rw[e2]
     exact Ev.str _
   refine Bk.assign (av:=.str (textOf (kindOf1 H.2) ms)) r (Ev.call (Ev.glob (av:=.raw (.ref 369)) rfl (by kernel_rfl) (fun _=>rep_raw)) (Keep.k (by kernel_rfl)) (EvL.cons (Ev.name rfl) EvL.nil) (fn_law_marked (d:=d+198) (rowP (kindOf1 H.2) ms) (row_short _ _) (by simp[rowP]))) rfl ?_
   have hask:(askL ms).map AV.str=[AV.str ⟨#[42]⟩]++ms.map (fun k=>AV.str (Txt.upper (letterS k))):=by unfold askL;rw[List.map_cons,List.map_map];rfl
   refine Bk.assignK r (EvK.made (Ev.glob (av:=.raw (.ref 390)) rfl (by kernel_rfl) (fun _=>rep_raw)) (Keep.k (by kernel_rfl)) (EvL.cons (a:=.lst ((askL ms).map AV.str)) (by
    rw[hask]
    refine Ev.bin (Ev.lst (EvL.cons (Ev.str _) EvL.nil) (by simp[small])) (Ev.compL ms (fun(i:Nat)=>AV.int (i:Int)) _ (Ev.name (av:=intsL ms) rfl) IterV.lst (by decide) (by(clear hask hf0 hbt8 hbt hsmW hrot hb4 hb0 hwl w3 w1 w0 h96b h24b h83b h12b h14b i3 i2 hm15 hms hds2 hds hsmH hn h04 hH hsm2 ha r tail hns;lia)) (fun y hy=>?_)) (Op2.addL (by unfold small;simp;(clear hask hf0 hbt8 hbt hsmW hrot hb4 hb0 hwl w3 w1 w0 h96b h24b h83b h12b h14b i3 i2 hm15 hms hds2 hds hsmH hn h04 hH hsm2 ha r tail hns;lia)))
    have hy15:y<15:=hm15 y hy
    refine⟨_,Turn.name (fun _ _=>rfl) rfl (fun _ _=>IfsB.nil),fun own mt=>?_⟩
    exact Ev.strMeth (x:=letterS y) (Ev.itemS (x:=lettersS) (Ev.name rfl) (Ev.name rfl) (Int.natCast_nonneg _) (letters_at y hy15) (by show 15≤1000000;decide)) PySem.F.slot_str_upper PySem.F.type_str_upper EvL.nil (Fn.upper (upper_ok y hy15))) EvL.nil) (fn_law_record (d:=d+196) ((askL ms).map AV.str) (by unfold small askL;simp;(clear hask hf0 hbt8 hbt hsmW hrot hb4 hb0 hwl w3 w1 w0 h96b h24b h83b h12b h14b i3 i2 hm15 hms hds2 hds hsmH hn h04 hH hsm2 ha r tail hns;lia))).fnM) ?_
   refine MadeK.elimR fun b=>⟨rfl,?_⟩
   refine Bk.ownTo [] [] ?_ noO noM
   refine Bk.assign r Ev.none rfl (Bk.assign r (Ev.int 0) rfl ?_)
   refine Bk.know (sigL (kindOf1 H.2) ms (rotW H.2) (bitsOf H.2) b .none 0 [] []) (tail A env Φ B b _ _ _ _ r ⟨H,rfl,rfl,rfl,by rw[hms,hds,hn]⟩) ⟨rfl,rfl,rfl,rfl,rfl,rfl,rfl,rfl,rfl,rfl,trivial⟩
end
end
section
open PySem.Builtin PySem.Builtin.Str
section
variable {g:Glob} {d:Nat} {sc:Scope} {σ:Sig} {env:Env} {A:Around} {Φ Ψ Φ₀ B:PH} {s:Shared} {rest:List Stmt} {Q:Flow→Shared→Prop} {ω:Ow}
noncomputable def chN (w:Nat):Nat:=(14+w)/w
noncomputable def chunkP (f:Nat) (ms:List Nat) (w j:Nat):List (Str × Str):=((rowP f ms).drop (j*w)).take w
noncomputable def prAV (p:Str × Str):AV:=.tup [.str p.1,.str p.2]
noncomputable def pageAV (f:Nat) (ms:List Nat) (w:Nat):AV:=.lst ((List.range (chN w)).map fun j=>AV.lst ((chunkP f ms w j).map prAV))
noncomputable def numd (lines:List Str):List (AV × Str):=match lines with
 | []=>[]
 | x::r=>(.int 1,x)::r.map fun y=>(.str ⟨#[62]⟩,y)
noncomputable def lnAV (q:AV × Str):AV:=.tup [q.1,.str q.2]
structure SplitOk (f:Nat) (ms:List Nat) (w:Nat) (lines:List Str):Prop where
 len:lines.length=chN w
 split:splitF (w:Int) 20 (.int 1) true (textOf f ms)=some (numd lines)
 short:∀ L∈lines,L.length≤1000
 cells:lines.map (fun L=>AV.lst (cellRun L.cps.toList).2)=(List.range (chN w)).map fun j=>AV.lst ((chunkP f ms w j).map prAV)
 counts:∀ L∈lines,Txt.count L ⟨#[0]⟩=Txt.count L ⟨#[1]⟩
theorem numd_map (lines:List Str) {α:Type} (h:Str→α):(numd lines).map (fun q=>h q.2)=lines.map h:=by
 cases lines with
 | nil=>rfl
 | cons x r=>simp[numd,List.map_map]
theorem numd_len (lines:List Str):(numd lines).length=lines.length:=by cases lines<;>simp[numd]
theorem numd_nums (lines:List Str) (h:lines≠[]):(numd lines).map (fun q=>q.1)=[AV.int 1]++List.replicate (lines.length-1) (AV.str ⟨#[62]⟩):=by
 cases lines with
 | nil=>exact absurd rfl h
 | cons x r=>
  have:∀ r:List Str,r.map ((fun q:AV × Str=>q.1)∘fun y=>(AV.str ⟨#[62]⟩,y))=List.replicate r.length (AV.str ⟨#[62]⟩):=by
   intro r
   induction r with
   | nil=>rfl
   | cons _ _ ih=>rw[List.map_cons,ih];rfl
  simp[numd,List.map_map,this]
theorem numd_mem {lines:List Str} {q:AV × Str} (h:q∈numd lines):q.2∈lines∧(q.1=.int 1∨q.1=.str ⟨#[62]⟩):=by
 cases lines with
 | nil=>simp[numd] at h
 | cons x r=>
  rcases memc h with rfl | h
  ·exact⟨List.mem_cons_self,.inl rfl⟩
  ·obtain⟨y,hy,rfl⟩:=List.mem_map.mp h
   exact⟨List.mem_cons_of_mem _ hy,.inr rfl⟩
theorem Plain.eqv {x:AV} (h:Plain x):PyData.eqv (pd x) (pd x)=true:=by
 have:=h.shape
 unfold shaped at this
 simp only[Bool.and_eq_true] at this
 exact eqv_refl _ this.1
theorem Plain.nev {x:AV} (h:Plain x):(!PyData.eqv (pd x) (pd x))=false:=by rw[h.eqv];rfl
theorem Op2.neSelf {x:AV} (h:Plain x):Op2 g d (compareOp .NotEq) x x (.bool false):=by
 have:=Op2.ne (g:=g) (d:=d) h h
 rwa [h.nev] at this
theorem pr_plain {f:Nat} {ms:List Nat} {p:Str × Str} (h:p∈rowP f ms):PlainD 1 (prAV p):=by
 obtain⟨_,_,h1,h2⟩:=row_short f ms p h
 exact PlainD.tup2 (PlainD.str (n:=0) h1) (PlainD.str h2)
theorem page_plain (f:Nat) (ms:List Nat) (w:Nat):Plain (pageAV f ms w):=(PlainD.lst (n:=2) (fun x hx=>by
 obtain⟨j,_,rfl⟩:=List.mem_map.mp hx
 exact PlainD.lst (n:=1) (fun y hy=>by
  obtain⟨p,hp,rfl⟩:=List.mem_map.mp hy
  exact pr_plain (List.mem_of_mem_drop (List.mem_of_mem_take hp))))).plain
theorem text_len (f:Nat) (ms:List Nat):(textOf f ms).length≤64:=by
 have h:=markRun_len (rowP f ms++[((⟨#[]⟩:Str),(⟨#[]⟩:Str))]) (fun p hp=>by
  rcases List.mem_append.mp hp with h | h
  ·exact row_short f ms p h
  ·rw[List.mem_singleton.mp h];exact⟨Nat.zero_le _,Nat.zero_le _,ok_nil,ok_nil⟩)
 have h2:(rowP f ms++[((⟨#[]⟩:Str),(⟨#[]⟩:Str))]).length=16:=by simp[rowP]
 rw[h2] at h
 exact h
theorem Op2.nes {x y:Str}:Op2 g d (compareOp .NotEq) (.str x) (.str y) (.bool (x != y)):=.strs fun A Φ Ψ s t u r hp=>PyProof.Rows.ne_str (Ret.intro hp rep_bool)
theorem splitF_bare {f:Nat} {ms:List Nat} {w:Nat} (num:AV):splitF (w:Int) 1 num false (textOf f ms)=some [(num,textOf f ms)]:=by
 have:=text_len f ms
 show ite _ _ _=_
 rw[if_pos (by lia),if_pos rfl]
end
end
section
open PySem.Builtin PySem.Builtin.Str
section
variable {g:Glob} {d:Nat} {A:Around} {env:Env} {Φ Ψ Φ₀ B:PH} {s:Shared} {rest:List Stmt} {Q:Flow→Shared→Prop}
noncomputable def forB (l:List Stmt):List Stmt:=Mine.Internal.hd.fB (Mine.Internal.hd.fst l)
noncomputable abbrev lawSc (w:World):Scope:=scOf (Mine.Internal.hd.zo_407 w.params)
noncomputable abbrev turnB (w:World):List Stmt:=forB ((bodyOf (Mine.Internal.hd.zo_407 w.params)).drop 15)
noncomputable def sigT (f:Nat) (ms ws:List Nat) (e:Nat) (b:Addr) (sh:AV) (tot w:Nat) (own:Ow) (mt:List Addr) (vs:List (Str × AV)):Sig:=⟨vs++(n_width,.int (w:Int))::(sigL f ms ws e b sh tot own mt).vars,own,[],mt⟩
noncomputable def laidAV (lines:List Str):AV:=.lst ((numd lines).map lnAV)
noncomputable def bareAV (f:Nat) (ms:List Nat):AV:=.lst [.tup [.str ⟨#[]⟩,.str (textOf f ms)],.tup [.none,.str (textOf f ms)]]
set_option maxHeartbeats 4000000 in
theorem turn_1 {f:Nat} {ms ws:List Nat} {e w:Nat} {b:Addr} {sh:AV} {tot:Nat} {lines:List Str} (r:Room (d+200) A) (hw:2≤w∧w≤16) (so:SplitOk f ms w lines)
  (tail:Bk g (lawSc g.w) env A Φ₀ B (sigT f ms ws e b sh tot w [] [] [(n_page,pageAV f ms w),(n_laid,laidAV lines),(n_bare,bareAV f ms)]) ((turnB g.w).drop 4) Q) :
  Bk g (lawSc g.w) env A Φ₀ B (sigT f ms ws e b sh tot w [] [] []) (turnB g.w) Q:=by
 have htx:=text_len f ms
 refine Bk.swapK r EvK.twoLists ?_ (fun env h=>by cases env;cases h;rfl)
 refine NewLL.elim fun la ba hne=>⟨_,_,rfl,rfl,rfl,?_⟩
 refine Bk.assign r (Ev.callKw1 (Ev.glob (av:=.raw (.ref 113)) rfl (by kernel_rfl) (fun _=>rep_raw)) (Keep.k (by kernel_rfl)) (Ev.name rfl) (fn_html (d:=d+197) (w:Int))) rfl ?_
 have hgm:∀ {σ:Sig},GmA g (d+200) (lawSc g.w) σ (htmlAV w) ({cps:={toList:=[95,115,112,108,105,116,95,108,105,110,101]}}:Str) (.ref 67) [htmlAV w]:=GmA.of (Gm.obj (f:=67) (by kernel_rfl) (show _∉[n_u_charjunk,n_u_linejunk,n_u_wrapcolumn,n_u_tabsize] by decide))
 have hs1:FnM g (d+200) [la] [(la,.lst [])] (.ref 67) [htmlAV w,.ref la,.int 1,.str (textOf f ms)] [] (fun r ω'=>r=.none∧ω'=[(la,.lst ([]++lineAVs (numd lines)))]):=fn_split_line (d:=d+179) (w:Int) 20 (.int 1) true (textOf f ms) _ la [] so.split (fun d ω=>Tr.int) (by simp[small])
 have hs2:FnM g (d+200) [ba] [(ba,.lst [])] (.ref 67) [htmlAV w,.ref ba,.str ⟨#[]⟩,.str (textOf f ms)] [] (fun r ω'=>r=.none∧ω'=[(ba,.lst ([]++lineAVs [(.str ⟨#[]⟩,textOf f ms)]))]):=fn_split_line (d:=d+198) (w:Int) 1 (.str ⟨#[]⟩) false (textOf f ms) _ ba [] (splitF_bare _) (fun d ω=>Tr.str (x:=⟨#[]⟩) (by show 0≤1000000;(clear hs1 hgm hne htx tail so hw r;lia))) (by simp[small])
 have hs3:FnM g (d+200) [ba] [(ba,.lst ([]++lineAVs [(.str ⟨#[]⟩,textOf f ms)]))] (.ref 67) [htmlAV w,.ref ba,.none,.str (textOf f ms)] [] (fun r ω'=>r=.none∧ω'=[(ba,.lst (([]++lineAVs [(.str ⟨#[]⟩,textOf f ms)])++lineAVs [(.none,textOf f ms)]))]):=fn_split_line (d:=d+198) (w:Int) 1 .none false (textOf f ms) _ ba _ (splitF_bare _) (fun d ω=>Tr.none) (by simp[small,lineAVs])
 refine Bk.iteX (a:=.lst [.none,.none,.none]) r (EvX.lst (EvLX.cons (EvX.meth (EvX.of (Ev.name rfl)) hgm (Keep.k (by kernel_rfl)) (EvL.cons (Ev.name rfl) (EvL.cons (Ev.int 1) (EvL.cons (Ev.name rfl) EvL.nil))) (CallsTo.ownS hs1 (lk_s hne.symm lk_eq) mB))
  (EvLX.cons (EvX.meth (EvX.of (Ev.name rfl)) hgm (Keep.k (by kernel_rfl)) (EvL.cons (Ev.name rfl) (EvL.cons (Ev.str _) (EvL.cons (Ev.name rfl) EvL.nil))) (CallsTo.ownS hs2 (lk_s hne lk_eq) mA))
  (EvLX.cons (EvX.meth (EvX.of (Ev.name rfl)) hgm (Keep.k (by kernel_rfl)) (EvL.cons (Ev.name rfl) (EvL.cons Ev.none (EvL.cons (Ev.name rfl) EvL.nil))) (CallsTo.ownS hs3 lk_eq mA)) EvLX.nil))) (by simp[small])) (Ev.lst (EvL.cons Ev.none (EvL.cons Ev.none (EvL.cons Ev.none EvL.nil))) (by simp[small])) (Op2.neSelf (Plain.of (by decide))) (fun h=>nomatch h) (fun _=>Bk.go ?_)
 refine Bk.freezeS (x:=n_laid) (a:=la) (xs:=[]++lineAVs (numd lines)) [(ba,.lst (([]++lineAVs [(.str ⟨#[]⟩,textOf f ms)])++lineAVs [(.none,textOf f ms)]))] [ba] rfl (lk_s hne.symm (lk_s hne.symm lk_eq)) mB ⟨⟨lk_eq,mA⟩,trivial⟩ (lk_s hne.symm rfl) rfl ?_
 refine Bk.freezeS (x:=n_bare) (a:=ba) (xs:=([]++lineAVs [(.str ⟨#[]⟩,textOf f ms)])++lineAVs [(.none,textOf f ms)]) [] [] rfl lk_eq mA trivial rfl rfl ?_
 have hpg:pageAV f ms w=.lst ((numd lines).map fun q=>AV.lst (cellRun q.2.cps.toList).2):=by
  rw[numd_map lines (fun L=>AV.lst (cellRun L.cps.toList).2),so.cells];rfl
 refine Bk.assignC (av:=pageAV f ms w) r ?_ rfl ?_ (fun env h=>by cases env;cases h;rfl)
 ·refine Ev.sa hpg ?_
  refine Ev.compL (numd lines) lnAV _ (Ev.name (av:=laidAV lines) rfl) IterV.lst (by kernel_rfl) (by rw[numd_len,so.len];unfold chN;have:=Nat.div_le_self (14+w) w;(clear hpg hs3 hs2 hs1 hgm hne htx tail so r;lia)) (fun q hq=>?_)
  refine⟨_,Turn.pair (fun _ _=>rfl) (fun _ _=>rfl) rfl rfl rfl (fun _ _=>IfsB.nil),fun own mt=>?_⟩
  exact Ev.call (Ev.glob (av:=.raw (.ref 376)) rfl (by kernel_rfl) (fun _=>rep_raw)) (Keep.k (by kernel_rfl)) (EvL.cons (Ev.name rfl) EvL.nil) (fn_law_cells (d:=d+198) q.2 (by have:=so.short q.2 (numd_mem hq).1;unfold small;(clear hq hpg hs3 hs2 hs1 hgm hne htx tail so hw r;lia)))
 exact Bk.know _ tail ⟨rfl,rfl,rfl,rfl,rfl,rfl,rfl,rfl,rfl,rfl,rfl,rfl,rfl,rfl,trivial⟩
end
end
section
open PySem.Builtin PySem.Builtin.Str
section
variable {g:Glob} {d:Nat} {A:Around} {env:Env} {Φ Ψ Φ₀ B:PH} {s:Shared} {rest:List Stmt} {Q:Flow→Shared→Prop}
noncomputable def ifT (l:List Stmt):PySem.Expr:=Mine.Internal.hd.sE (Mine.Internal.hd.fst l)
noncomputable def sigU (f:Nat) (ms ws:List Nat) (e:Nat) (b:Addr) (sh:AV) (tot w:Nat) (lines:List Str):Sig:=sigT f ms ws e b sh tot w [] [] [(n_page,pageAV f ms w),(n_laid,laidAV lines),(n_bare,bareAV f ms)]
theorem rng_facts:∀ w:Nat,w<17→2≤w→Builtin.Range.small 0 15 (w:Int)=true∧Builtin.Range.rangeSize 0 15 (w:Int)=(chN w:Int)∧(w:Int).natAbs.log2<9000∧(chN w-1)*w≤14∧1≤chN w∧chN w≤8:=by decide +kernel
theorem ok_app (x y:Str) (h1:PyData.strOk x=true) (h2:PyData.strOk y=true):PyData.strOk (x++y)=true:=by
 unfold PyData.strOk at *
 have:(x++y).cps=x.cps++y.cps:=rfl
 rw[this,Array.all_append,h1,h2];rfl
theorem step_ok (st p:Str × Str) (hst:PyData.strOk st.1=true) (hp:short p):PyData.strOk (markStep st p).1=true:=by
 have e1:PyData.strOk (⟨#[1]⟩:Str)=true:=by decide +kernel
 have e0:PyData.strOk (⟨#[0]⟩:Str)=true:=by decide +kernel
 unfold markStep
 refine ok_app _ _ ?_ hp.2.2.1
 have h:PyData.strOk (if !(((⟨#[]⟩:Str)==st.2)||((p.2==st.2)||false)) then st.1++(⟨#[1]⟩:Str) else st.1)=true:=by
  split
  ·exact ok_app _ _ hst e1
  ·exact hst
 split
 ·exact ok_app _ _ h (ok_app _ _ e0 hp.2.2.2)
 ·exact h
theorem run_ok (r:List (Str × Str)) (h:∀ p∈r,short p) (st:Str × Str) (hst:PyData.strOk st.1=true):PyData.strOk (r.foldl markStep st).1=true:=by
 induction r generalizing st with
 | nil=>exact hst
 | cons p r ih=>exact ih (fun q hq=>h q (List.mem_cons_of_mem _ hq)) _ (step_ok st p hst (h p List.mem_cons_self))
theorem text_ok (f:Nat) (ms:List Nat):PyData.strOk (textOf f ms)=true:=run_ok _ (fun p hp=>by
 rcases List.mem_append.mp hp with h | h
 ·exact row_short f ms p h
 ·rw[List.mem_singleton.mp h];exact⟨Nat.zero_le _,Nat.zero_le _,ok_nil,ok_nil⟩) _ ok_nil
theorem t_cells {f:Nat} {ms ws:List Nat} {e w:Nat} {b:Addr} {sh:AV} {tot:Nat} {lines:List Str} (hw:2≤w∧w≤16):Ts g (d+200) (lawSc g.w) (sigU f ms ws e b sh tot w lines) (ifT ((turnB g.w).drop 4)) false:=by
 refine box fun bX bk=>?_
 obtain⟨q1,q2,q3,q4,q5,q6⟩:=rng_facts w (by lia) hw.1
 refine bk ?_
 clear bk bX
 refine Ts.or (b:=false) (c:=false) ?_ ?_
 ·refine Ts.cmp (Ev.name (av:=pageAV f ms w) rfl) (b:=pageAV f ms w) ?_ (Op2.neSelf (page_plain f ms w))
  refine Ev.compL (List.range (chN w)) (fun(i:Nat)=>AV.int (0+(i:Int)*(w:Int))) _ (Ev.call (avs:=[.int 0,.int 15,.int (w:Int)]) (Ev.bi rfl (by kernel_rfl) rfl) (Keep.ty _) (EvL.cons (Ev.int 0) (EvL.cons (Ev.int 15) (EvL.cons (Ev.name rfl) EvL.nil))) (Fn.range3 (by(clear q6 q5 q4 q3 q2 q1;lia)) q3)) (IterV.rng q1 q2) (by kernel_rfl) (by simp;(clear q5 q4 q3 q2 q1 hw;lia)) (fun j hj=>?_)
  have hj':j<chN w:=List.mem_range.mp hj
  have hjw:j*w≤14:=Nat.le_trans (Nat.mul_le_mul_right w (by(clear hj q6 q5 q4 q3 q2 q1 hw;lia):j≤chN w-1)) q4
  refine⟨_,Turn.name (fun _ _=>rfl) rfl (fun _ _=>IfsB.nil),fun own mt=>?_⟩
  have hc:AV.lst ((chunkP f ms w j).map prAV)=.lst (cut ((rowP f ms).map prAV) (some ((j*w:Nat):Int)) (some ((j*w+w:Nat):Int)) Option.none):=by
   rw[cut_mid _ _ _ (by(clear hjw hj' hj q6 q5 q4 q3 q2 q1 hw;lia)) (by rw[List.length_map];unfold rowP;simp;(clear hj' hj q6 q5 q4 q3 q2 q1 hw;lia))]
   unfold chunkP
   rw[List.map_take,List.map_drop,show j*w+w-j*w=w by(clear hjw hj' hj q6 q5 q4 q3 q2 q1 hw;lia)]
  have e0:(0+(j:Int)*(w:Int))=((j*w:Nat):Int):=by push_cast;(clear hc hjw hj' hj q6 q5 q4 q3 q2 q1 hw;lia)
  have e1:((j*w+w:Nat):Int)=(0+(j:Int)*(w:Int))+(w:Int):=by push_cast;(clear e0 hc hjw hj' hj q6 q5 q4 q3 q2 q1 hw;lia)
  refine Ev.sa hc ?_
  refine Ev.slice (lo:=some ((j*w:Nat):Int)) (hi:=some ((j*w+w:Nat):Int)) (Ev.name (av:=rowAV (rowP f ms)) rfl) ?_ ?_ (by unfold small;simp -iota [rowP])
  ·exact Ev.name (av:=.int ((j*w:Nat):Int)) (by rw[←e0];rfl)
  ·refine Ev.saI e1 ?_
   exact Ev.bin (Ev.name rfl) (Ev.name rfl) Op2.add
 ·have hp:Plain (bareAV f ms):=by
   have ho:PyData.strOk (textOf f ms)=true:=text_ok f ms
   have hl:(textOf f ms).length≤1000000:=Nat.le_trans (text_len f ms) (by(clear ho q6 q5 q4 q3 q2 q1 hw;lia))
   exact(PlainD.lst (n:=1) (fun x hx=>by
    rcases memc hx with rfl | hx
    ·exact PlainD.tup2 (PlainD.str (n:=0) ok_nil) (PlainD.str ho)
    ·rcases memc hx with rfl | hx
     ·exact PlainD.tup2 (PlainD.none (n:=0)) (PlainD.str ho)
     ·simp -iota at hx)).plain
  exact Ts.cmp (Ev.name (av:=bareAV f ms) rfl) (Ev.lst (EvL.cons (Ev.tup (EvL.cons (Ev.str _) (EvL.cons (Ev.name rfl) EvL.nil)) (sml rfl)) (EvL.cons (Ev.tup (EvL.cons Ev.none (EvL.cons (Ev.name rfl) EvL.nil)) (sml rfl)) EvL.nil)) (sml rfl)) (Op2.neSelf hp)
theorem t_counts {f:Nat} {ms ws:List Nat} {e w:Nat} {b:Addr} {sh:AV} {tot:Nat} {lines:List Str} (hw:2≤w∧w≤16) (so:SplitOk f ms w lines):Ts g (d+200) (lawSc g.w) (sigU f ms ws e b sh tot w lines) (ifT ((turnB g.w).drop 5)) false:=by
 obtain⟨q1,q2,q3,q4,q5,q6⟩:=rng_facts w (by lia) hw.1
 have hf:(numd lines).filter (fun q=>Txt.count q.2 ⟨#[0]⟩ != Txt.count q.2 ⟨#[1]⟩)=[]:=by
  rw[List.filter_eq_nil_iff]
  intro q hq
  rw[so.counts q.2 (numd_mem hq).1]
  simp
 have he:(AV.lst (((numd lines).filter (fun q=>Txt.count q.2 ⟨#[0]⟩ != Txt.count q.2 ⟨#[1]⟩)).map (fun q=>AV.str q.2)))=.lst []:=by rw[hf];rfl
 refine Ts.cmp (a:=.lst []) ?_ (Ev.lst EvL.nil (by simp[small])) (Op2.neSelf (Plain.of (by decide)))
 refine Ev.as he ?_
 refine Ev.compLIf (numd lines) lnAV _ _ (Ev.name (av:=laidAV lines) rfl) IterV.lst (by kernel_rfl) (by rw[numd_len,so.len];lia) (fun q hq=>?_)
 refine⟨_,Turn.pair (fun _ _=>rfl) (fun _ _=>rfl) rfl rfl rfl (fun _ _=>IfsB.one (Ts.cmp (Ev.strMeth (x:=q.2) (Ev.name rfl) PySem.F.slot_str_count PySem.F.type_str_count (EvL.cons (Ev.str _) EvL.nil) Fn.count) (Ev.strMeth (x:=q.2) (Ev.name rfl) PySem.F.slot_str_count PySem.F.type_str_count (EvL.cons (Ev.str _) EvL.nil) Fn.count) Op2.nei)),fun _ own mt=>Ev.name rfl⟩
theorem nums_flat (n:Nat):(List.replicate n [AV.str ⟨#[62]⟩]).flatten=List.replicate n (AV.str ⟨#[62]⟩):=by
 induction n with
 | zero=>rfl
 | succ n ih=>rw[List.replicate_succ,List.flatten_cons,ih];rfl
theorem t_nums {f:Nat} {ms ws:List Nat} {e w:Nat} {b:Addr} {sh:AV} {tot:Nat} {lines:List Str} (hw:2≤w∧w≤16) (so:SplitOk f ms w lines):Ts g (d+200) (lawSc g.w) (sigU f ms ws e b sh tot w lines) (ifT ((turnB g.w).drop 6)) false:=by
 obtain⟨q1,q2,q3,q4,q5,q6⟩:=rng_facts w (by(clear so;lia)) hw.1
 have hn:=numd_nums lines (fun q=>by have:=so.len;rw[q] at this;simp -iota at this;(clear q q6 q4 q3 q2 q1 so hw;lia))
 have hi:((chN w:Int)-1).toNat=chN w-1:=by(clear hn q6 q5 q4 q3 q2 q1 so hw;lia)
 have hp:Plain (.lst ((numd lines).map (fun q=>q.1))):=(PlainD.lst (n:=1) (fun x hx=>by
  obtain⟨q,hq,rfl⟩:=List.mem_map.mp hx
  rcases(numd_mem hq).2 with h | h
  ·rw[h];exact PlainD.int
  ·rw[h];exact PlainD.str (by decide +kernel))).plain
 refine Ts.cmp (a:=.lst ((numd lines).map (fun q=>q.1))) (b:=.lst ((numd lines).map (fun q=>q.1))) ?_ ?_ (Op2.neSelf hp)
 ·refine Ev.compL (numd lines) lnAV _ (Ev.name (av:=laidAV lines) rfl) IterV.lst (by kernel_rfl) (by rw[numd_len,so.len];(clear hp hi hn q5 q4 q3 q2 q1 so hw;lia)) (fun q hq=>?_)
  exact⟨_,Turn.pair (fun _ _=>rfl) (fun _ _=>rfl) rfl rfl rfl (fun _ _=>IfsB.nil),fun own mt=>Ev.name rfl⟩
 ·rw[hn,so.len,←nums_flat,←hi]
  refine Ev.bin (Ev.lst (EvL.cons (Ev.int 1) EvL.nil) (sml rfl)) (Ev.bin (Ev.lst (EvL.cons (Ev.str ⟨#[62]⟩) EvL.nil) (sml rfl)) (Ev.bin (a:=.int (chN w)) (Ev.call (Ev.bi rfl (by kernel_rfl) rfl) (Keep.bi _) (EvL.cons (Ev.name (av:=pageAV f ms w) rfl) EvL.nil) ?_) (Ev.int 1) Op2.sub) (Op2.mulL (by(clear hp hi hn q5 q4 q3 q2 q1 so hw;lia)) (by(clear hp hi hn q6 q5 q4 q3 q2 q1 so hw;lia)) rfl (by unfold small;simp;(clear hp hi hn q5 q4 q3 q2 q1 so hw;lia)))) (Op2.addL (by unfold small;rw[nums_flat];simp;(clear hp hi hn q5 q4 q3 q2 q1 so hw;lia)))
  have:=Fn.len (g:=g) (d:=d+200) (ω:=(sigU f ms ws e b sh tot w lines).own) (xs:=(List.range (chN w)).map fun j=>AV.lst ((chunkP f ms w j).map prAV)) (by unfold small;simp;(clear hp hi hn q5 q4 q3 q2 q1 so hw;lia))
  rw[List.length_map,List.length_range] at this
  exact this
end
end
section
open PySem.Builtin PySem.Builtin.Str
section
noncomputable def lettersAt (w j:Nat):List Str:=(((List.range 15).map letterS).drop (j*w)).take w
noncomputable def pageLines (w:Nat):List Str:=(List.range (chN w)).map fun j=>(⟨#[32]⟩:Str)++Txt.join ⟨#[32]⟩ (lettersAt w j)
noncomputable def cs14:List Nat:=(List.range 14).map (97+·)
theorem fold_facts:∀ w:Nat,w<17→2≤w→accN (foldRun (2*w) (cs14++[111])).2≠0∧Txt.isspace (lineOf (foldRun (2*w) (cs14++[111])).2)=false∧JoinOk ⟨#[10]⟩ ((foldRun (2*w) (cs14++[111])).1++[lineOf (foldRun (2*w) (cs14++[111])).2])=true∧JoinOk ⟨#[10]⟩ (pageLines w)=true∧foldedText (2*w) (cs14++[111])=Txt.join ⟨#[10]⟩ (pageLines w):=by decide +kernel
theorem line_facts:∀ w:Nat,w<17→2≤w→∀ j,j<8→JoinOk ⟨#[32]⟩ (lettersAt w j)=true∧(Txt.join ⟨#[32]⟩ (lettersAt w j)).length≤100:=by decide +kernel
theorem chunk_letters (f:Nat) (ms:List Nat) (w j:Nat):(chunkP f ms w j).map (·.1)=lettersAt w j:=by
 unfold chunkP lettersAt rowP
 rw[List.map_take,List.map_drop,List.map_map]
 rfl
noncomputable def placesL (w k:Nat):List Nat:=((List.range (chN w)).filter fun j=>decide (j*w+k<15)).map fun j=>j*w+k
noncomputable def colS (w k:Nat):Str:=Txt.join ⟨#[]⟩ ((placesL w k).map letterS)
noncomputable def colA (w k:Nat):Str:=(if w%2=0 then colS w k else Txt.upper (colS w k))++⟨#[42]⟩
noncomputable def askU (w k:Nat):Str:=(((if w%2=0 then colS w k else Txt.upper (colS w k))++⟨#[42,47]⟩)++lettersS)++⟨#[47]⟩
theorem col_facts:∀ w:Nat,w<17→2≤w→∀ k,k<w→JoinOk ⟨#[]⟩ ((placesL w k).map letterS)=true∧tooLong (Txt.upper (colS w k)).length=false∧(colS w k).length≤8∧(Txt.upper (colS w k)).length≤8∧(colS w k).cps.toList=(placesL w k).map (97+·):=by decide +kernel
theorem cut47:∀ {p A J R:List Nat},p++47::J=A++47::R→47∉p→47∉A→p=A∧J=R
 | [],[],J,R,h,_,_=>⟨rfl,(List.cons.inj h).2⟩
 | [],a::A,J,R,h,_,hA=>absurd (List.cons.inj h).1 (fun q=>hA (q▸List.mem_cons_self))
 | a::p,[],J,R,h,hp,_=>absurd (List.cons.inj h).1 (fun q=>hp (q▸List.mem_cons_self))
 | a::p,b::A,J,R,h,hp,hA=>by
  have h':=List.cons.inj h
  have r:=cut47 (p:=p) (A:=A) h'.2 (fun q=>hp (List.mem_cons_of_mem _ q)) (fun q=>hA (List.mem_cons_of_mem _ q))
  rw[h'.1,r.1]
  exact⟨rfl,r.2⟩
noncomputable def slash:Str:=⟨#[47]⟩
theorem join_cons {p q:Str} {r:List Str}:(Str.join slash (p::q::r)).cps.toList=p.cps.toList++47::(Str.join slash (q::r)).cps.toList:=by
 show((p++slash)++Str.join slash (q::r)).cps.toList=_
 rw[PySem.Str.cps_append,PySem.Str.cps_append,Array.toList_append,Array.toList_append,List.append_assoc]
 rfl
theorem join_one {p:Str}:Str.join slash [p]=p:=rfl
theorem uniq1 {P:List Str} {A R:List Nat} (f:∀ p∈P,47∉p.cps.toList) (e:(Str.join slash P).cps.toList=A++47::R) (hA:47∉A):∃ P',P=⟨A.toArray⟩::P'∧(Str.join slash P').cps.toList=R∧P'≠[]:=by
 have hm:47∈A++47::R:=List.mem_append_right _ List.mem_cons_self
 rw[←e] at hm
 cases P with
 | nil=>exact absurd hm (by decide)
 | cons p P=>
  cases P with
  | nil=>exact absurd hm (f p List.mem_cons_self)
  | cons q r=>
   rw[join_cons] at e
   have c:=cut47 e (f p List.mem_cons_self) hA
   exact⟨q::r,congrArg (fun l=>(⟨l⟩:Str)::q::r) (Array.toList_inj.mp c.1),c.2,List.cons_ne_nil _ _⟩
theorem uniq0 {P:List Str} {A:List Nat} (n:P≠[]) (e:(Str.join slash P).cps.toList=A) (hA:47∉A):P=[⟨A.toArray⟩]:=by
 cases P with
 | nil=>exact absurd rfl n
 | cons p P=>
  cases P with
  | nil=>exact congrArg (fun l=>[(⟨l⟩:Str)]) (Array.toList_inj.mp e)
  | cons q r=>
   rw[join_cons] at e
   exact absurd (e▸List.mem_append_right _ List.mem_cons_self) hA
theorem split3 {x:Str} {A B:List Nat} (hx:x.cps.toList=A++47::(B++[47])) (hA:47∉A) (hB:47∉B):Txt.split x slash=[⟨A.toArray⟩,⟨B.toArray⟩,⟨#[]⟩]:=by
 have f:=StrLaws.split_free x 47
 have e:(Str.join slash (Txt.split x slash)).cps.toList=A++47::(B++[47]):=(congrArg (fun s:Str=>s.cps.toList) (StrLaws.join_split x slash)).trans hx
 obtain⟨P,h1,h2,h3⟩:=uniq1 f e hA
 have f':∀ p∈P,47∉p.cps.toList:=fun p hp=>f p (h1▸List.mem_cons_of_mem _ hp)
 obtain⟨P',h4,h5,h6⟩:=uniq1 f' h2 hB
 have h7:=uniq0 h6 h5 (by decide)
 exact h1.trans (by rw[h4,h7])
theorem parts3 {x a b c:Str} (h:Txt.split x slash=[a,b,c]):(partsBetween x (occurrences x slash 0 x.length (x.length+1)) 1).length≤1000000:=by
 unfold Txt.split at h
 by_cases c1:(decide (x.length<slash.length)||decide (strKind x<strKind slash))=true
 ·rw[if_pos c1] at h;cases h
 ·rw[if_neg c1] at h
  by_cases c2:(occurrences x slash 0 x.length (x.length+1)).isEmpty=true
  ·rw[if_pos c2] at h;cases h
  ·rw[if_neg c2] at h
   replace h:partsBetween x (occurrences x slash 0 x.length (x.length+1)) 1=_:=h
   rw[h]
   exact Nat.le_of_ble_eq_true rfl
noncomputable def lowL (w k:Nat):List Nat:=(placesL w k).map (97+·)
noncomputable def colL (w k:Nat):List Nat:=if w%2=0 then lowL w k else(placesL w k).map (65+·)
theorem place_facts:∀ w:Nat,w<17→2≤w→∀ k,k<w→(∀ m∈placesL w k,m<15)∧(placesL w k).length≤8∧∀ m,m<15→decide (97+m∈lowL w k++[42])=(m%w==k):=by decide +kernel
theorem big_facts:∀ m,m<15→Txt.lower (Txt.upper (letterS m))=⟨#[97+m]⟩∧(Txt.upper (letterS m)==⟨#[42]⟩)=false:=by decide +kernel
theorem sign_facts:∀ m,m<15→lo1 (97+m)=97+m∧lo1 (65+m)=97+m∧up1 (97+m)=65+m∧(97+m<128∧97+m≠47)∧(65+m<128∧65+m≠47):=by decide
theorem colS_low {w k:Nat} (c5:(colS w k).cps.toList=lowL w k) (p1:∀ m∈placesL w k,m<15):(Txt.upper (colS w k)).cps.toList=(placesL w k).map (65+·):=by
 have hA:∀ c∈(colS w k).cps.toList,c<128:=fun c hc=>by
  rw[c5] at hc
  obtain⟨m,hm,rfl⟩:=List.mem_map.mp hc
  exact(sign_facts m (p1 m hm)).2.2.2.1.1
 rw[upper_ascii hA]
 show((colS w k).cps.map up1).toList=_
 rw[Array.toList_map,c5]
 unfold lowL
 rw[List.map_map]
 exact List.map_congr_left fun m hm=>(sign_facts m (p1 m hm)).2.2.1
theorem colA_is {w k:Nat} (c5:(colS w k).cps.toList=lowL w k) (p1:∀ m∈placesL w k,m<15):(if w%2=0 then colS w k else Txt.upper (colS w k)).cps.toList=colL w k:=by
 unfold colL
 by_cases h:w%2=0
 ·rw[if_pos h,if_pos h];exact c5
 ·rw[if_neg h,if_neg h];exact colS_low c5 p1
theorem colL_low {w k:Nat} (p1:∀ m∈placesL w k,m<15):(colL w k).map lo1=lowL w k∧(∀ c∈colL w k,c<128∧c≠47):=by
 unfold colL
 by_cases h:w%2=0
 ·rw[if_pos h]
  unfold lowL
  refine⟨?_,fun c hc=>?_⟩
  ·rw[List.map_map]
   exact List.map_congr_left fun m hm=>(sign_facts m (p1 m hm)).1
  ·obtain⟨m,hm,rfl⟩:=List.mem_map.mp hc
   exact(sign_facts m (p1 m hm)).2.2.2.1
 ·rw[if_neg h]
  unfold lowL
  refine⟨?_,fun c hc=>?_⟩
  ·rw[List.map_map]
   exact List.map_congr_left fun m hm=>(sign_facts m (p1 m hm)).2.1
  ·obtain⟨m,hm,rfl⟩:=List.mem_map.mp hc
   exact(sign_facts m (p1 m hm)).2.2.2.2
theorem ask_facts (w:Nat) (hw:w<17) (h2:2≤w) (k:Nat) (hk:k<w):(partsBetween (askU w k) (occurrences (askU w k) ⟨#[47]⟩ 0 (askU w k).length ((askU w k).length+1)) 1).length≤1000000∧Txt.split (askU w k) ⟨#[47]⟩=[colA w k,lettersS,⟨#[]⟩]∧tooLong (Txt.lower (colA w k)).length=false∧(∀ m,m<15→agentIn (Txt.lower (colA w k)) (Txt.upper (letterS m))=(m%w==k)):=by
 have p:=place_facts w hw h2 k hk
 have c5:(colS w k).cps.toList=lowL w k:=(col_facts w hw h2 k hk).2.2.2.2
 have e:=colA_is c5 p.1
 have q:=colL_low p.1
 have eA:(colA w k).cps.toList=colL w k++[42]:=by
  unfold colA
  rw[PySem.Str.cps_append,Array.toList_append,e]
 have eU:(askU w k).cps.toList=(colL w k++[42])++47::(lettersS.cps.toList++[47]):=by
  unfold askU
  rw[PySem.Str.cps_append,PySem.Str.cps_append,PySem.Str.cps_append,Array.toList_append,Array.toList_append,Array.toList_append,e,List.append_assoc,List.append_assoc,List.append_assoc]
  rfl
 have hA:47∉colL w k++[42]:=fun h=>by
  rcases List.mem_append.mp h with h | h
  ·exact(q.2 47 h).2 rfl
  ·exact absurd h (by decide)
 have s:=split3 eU hA (by decide)
 have a:(⟨(colL w k++[42]).toArray⟩:Str)=colA w k:=PySem.Str.ext' (Array.toList_inj.mp eA.symm)
 rw[a] at s
 have l:Txt.lower (colA w k)=⟨(lowL w k++[42]).toArray⟩:=by
  have hB:∀ c∈(colA w k).cps.toList,c<128:=fun c hc=>by
   rw[eA] at hc
   rcases List.mem_append.mp hc with h | h
   ·exact(q.2 c h).1
   ·rw[List.mem_singleton.mp h];decide
  rw[lower_ascii hB]
  refine congrArg PySem.Str.mk (Array.toList_inj.mp ?_)
  rw[Array.toList_map,eA,List.map_append,q.1]
  rfl
 refine⟨parts3 s,s,?_,fun m hm=>?_⟩
 ·rw[l]
  have n:(⟨(lowL w k++[42]).toArray⟩:Str).length≤9:=by
   show(lowL w k++[42]).length≤9
   rw[List.length_append]
   unfold lowL
   rw[List.length_map]
   exact Nat.succ_le_succ p.2.1
  exact decide_eq_false (Nat.not_lt.mpr (Nat.le_trans n (by decide)))
 ·have b:=big_facts m hm
  unfold agentIn
  rw[b.1,b.2,l]
  exact(StrLaws.found_one _ _).trans (p.2.2 m hm)
theorem ag_facts:∀ m,m<15→PyData.strOk (Txt.upper (letterS m))=true∧tooLong (Txt.lower (Txt.upper (letterS m))).length=false:=by decide +kernel
noncomputable def ansB (ms:List Nat) (w k:Nat):Bool:=ms.any fun m=>m%w==k
theorem ask_ans (ms:List Nat) (hm:∀ m∈ms,m<15) (w k:Nat) (hw:w<17) (hw2:2≤w) (hk:k<w):appliesTo (askL ms) (Txt.lower (colA w k))=ansB ms w k:=by
 obtain⟨_,_,_,h⟩:=ask_facts w hw hw2 k hk
 unfold appliesTo askL ansB
 rw[List.any_cons,List.any_map]
 have e:agentIn (Txt.lower (colA w k)) (⟨#[42]⟩:Str)=false:=rfl
 rw[e,Bool.false_or]
 clear e
 induction ms with
 | nil=>rfl
 | cons x r ih=>
  rw[List.any_cons,List.any_cons,ih (fun m hm'=>hm m (List.mem_cons_of_mem _ hm'))]
  exact congrArg (fun t=>t||r.any fun m=>m%w==k) (h x (hm x List.mem_cons_self))
noncomputable def recL (ms:List Nat) (w:Nat):List Str:=(List.range w).flatMap fun k=>if ansB ms w k then(placesL w k).map letterS else []
end
end
section
open PySem.Builtin PySem.Builtin.Str
section
variable {g:Glob} {d:Nat} {A:Around} {env:Env} {Φ Ψ Φ₀ B:PH} {s:Shared} {rest:List Stmt} {Q:Flow→Shared→Prop}
set_option maxHeartbeats 1000000 in
theorem t_folded {f:Nat} {ms ws:List Nat} {e w:Nat} {b:Addr} {sh:AV} {tot:Nat} {lines:List Str} (hw:2≤w∧w≤16):Ts g (d+200) (lawSc g.w) (sigU f ms ws e b sh tot w lines) (ifT ((turnB g.w).drop 7)) false:=by
 refine box fun bX bk=>?_
 obtain⟨p1,p2,p3,p4,p5⟩:=fold_facts w (by omega) hw.1
 refine bk ?_
 clear bk bX
 obtain⟨q1,q2,q3,q4,q5,q6⟩:=rng_facts w (by(clear p5 p4 p3 p2 p1;omega)) hw.1
 have h:=fn_law_folded (g:=g) (d:=d+188) (ω:=(sigU f ms ws e b sh tot w lines).own) w (by omega) (by omega) cs14 111 (by decide) p1 p2 (by decide +kernel) (by decide +kernel) p3
 have hop:Op2 g (d+200) (compareOp .NotEq) (.str (foldedText (2*w) (cs14++[111]))) (.str (Txt.join ⟨#[10]⟩ (pageLines w))) (.bool false):=by
  have:=Op2.nes (g:=g) (d:=d+200) (x:=foldedText (2*w) (cs14++[111])) (y:=Txt.join ⟨#[10]⟩ (pageLines w))
  rw[p5] at this ⊢
  simpa using this
 refine Ts.cmp (Ev.call (avs:=[.str lettersS,.int (w:Int)]) (Ev.glob (av:=.raw (.ref 383)) rfl (by kernel_rfl) (fun _=>rep_raw)) (Keep.k (by kernel_rfl)) (EvL.cons (Ev.name rfl) (EvL.cons (Ev.name rfl) EvL.nil)) h) ?_ hop
 refine Ev.strMeth (x:=⟨#[10]⟩) (Ev.str _) PySem.F.slot_str_join PySem.F.type_str_join (EvL.cons (a:=strL (pageLines w)) ?_ EvL.nil) (Fn.join p4)
 have e:strL (pageLines w)=.lst ((List.range (chN w)).map fun j=>AV.str ((⟨#[32]⟩:Str)++Txt.join ⟨#[32]⟩ (lettersAt w j))):=by unfold strL pageLines;rw[List.map_map];rfl
 refine Ev.sa e ?_
 refine Ev.compL (List.range (chN w)) (fun j=>AV.lst ((chunkP f ms w j).map prAV)) _ (Ev.name (av:=pageAV f ms w) rfl) IterV.lst (by kernel_rfl) (by simp;(clear hop h q5 q4 q3 q2 q1 p5 p4 p3 p2 p1 hw;omega)) (fun j hj=>?_)
 obtain⟨r1,r2⟩:=line_facts w (by omega) hw.1 j (by have:=List.mem_range.mp hj;omega)
 refine⟨_,Turn.name (fun _ _=>rfl) rfl (fun _ _=>IfsB.nil),fun own mt=>?_⟩
 refine Ev.bin (Ev.str _) (Ev.strMeth (x:=⟨#[32]⟩) (Ev.str _) PySem.F.slot_str_join PySem.F.type_str_join (EvL.cons (a:=strL (lettersAt w j)) ?_ EvL.nil) (Fn.join r1)) (Op2.adds (by unfold small;show 1+_≤1000000;(clear r1 hj hop h q6 q5 q4 q3 q2 q1 p5 p4 p3 p2 p1 hw;omega)))
 have e2:strL (lettersAt w j)=.lst ((chunkP f ms w j).map fun p=>AV.str p.1):=by unfold strL;rw[←chunk_letters f ms,List.map_map];rfl
 refine Ev.sa e2 ?_
 refine Ev.compL (chunkP f ms w j) prAV _ (Ev.name (av:=AV.lst ((chunkP f ms w j).map prAV)) rfl) IterV.lst (by kernel_rfl) (by unfold chunkP rowP;simp;(clear e2 r2 r1 hj hop h q6 q5 q4 q3 q2 q1 p5 p4 p3 p2 p1 hw;omega)) (fun p hp=>?_)
 exact⟨_,Turn.pair (fun _ _=>rfl) (fun _ _=>rfl) rfl rfl rfl (fun _ _=>IfsB.nil),fun own mt=>Ev.name rfl⟩
end
end
section
open PySem.Builtin PySem.Builtin.Str
section
variable {g:Glob} {d:Nat} {A:Around} {env:Env} {Φ Ψ Φ₀ B:PH} {s:Shared} {rest:List Stmt} {Q:Flow→Shared→Prop}
noncomputable def asgE (l:List Stmt):PySem.Expr:=Mine.Internal.hd.sE (Mine.Internal.hd.fst l)
noncomputable def colsAV (w:Nat):AV:=.lst ((List.range w).map fun k=>AV.str (colS w k))
noncomputable def ansAV (ms:List Nat) (w:Nat):AV:=.lst ((List.range w).map fun k=>AV.bool (ansB ms w k))
theorem chunk_len (f:Nat) (ms:List Nat) (w j:Nat):(chunkP f ms w j).length=min w (15-j*w):=by
 unfold chunkP rowP;simp
theorem chunk_at (f:Nat) (ms:List Nat) (w j k:Nat) (hk:k<w) (h:j*w+k<15):(chunkP f ms w j)[k]?=some (letterS (j*w+k),kindS f ms (j*w+k)):=by
 unfold chunkP rowP
 rw[List.getElem?_take_of_lt hk,List.getElem?_drop,List.getElem?_map,List.getElem?_range h]
 rfl
theorem ev_columns {f:Nat} {ms ws:List Nat} {e w:Nat} {b:Addr} {sh:AV} {tot:Nat} {lines:List Str} (hw:2≤w∧w≤16):Ev g (d+200) (lawSc g.w) (sigU f ms ws e b sh tot w lines) (asgE ((turnB g.w).drop 8)) (colsAV w):=by
 refine box fun bX bk=>?_
 obtain⟨q1,q2,q3,q4,q5,q6⟩:=rng_facts w (by omega) hw.1
 refine bk ?_
 clear bk bX
 refine Ev.compL (List.range w) (fun(i:Nat)=>AV.int (i:Int)) _ (Ev.call (avs:=[.int (w:Int)]) (Ev.bi rfl (by kernel_rfl) rfl) (Keep.ty _) (EvL.cons (Ev.name rfl) EvL.nil) Fn.range1) (IterV.range w (by(clear q6 q5 q4 q3 q2 q1;omega))) (by kernel_rfl) (by simp;(clear q6 q5 q4 q3 q2 q1;omega)) (fun k hk=>?_)
 have hk':k<w:=List.mem_range.mp hk
 obtain⟨c1,c2,c3,c4,c5⟩:=col_facts w (by(clear hk' hk q6 q5 q4 q3 q2 q1;omega)) hw.1 k hk'
 refine⟨_,Turn.name (fun _ _=>rfl) rfl (fun _ _=>IfsB.nil),fun own mt=>?_⟩
 refine Ev.strMeth (x:=⟨#[]⟩) (Ev.str _) PySem.F.slot_str_join PySem.F.type_str_join (EvL.cons (a:=strL ((placesL w k).map letterS)) ?_ EvL.nil) (Fn.join c1)
 have e2:strL ((placesL w k).map letterS)=.lst (((List.range (chN w)).filter fun j=>decide (j*w+k<15)).map fun j=>AV.str (letterS (j*w+k))):=by unfold strL placesL;rw[List.map_map,List.map_map];rfl
 refine Ev.sa e2 ?_
 refine Ev.compLIf (List.range (chN w)) (fun j=>AV.lst ((chunkP f ms w j).map prAV)) _ _ (Ev.name (av:=pageAV f ms w) rfl) IterV.lst (by kernel_rfl) (by simp;(clear e2 c5 c4 c3 c2 c1 hk' hk q5 q4 q3 q2 q1 hw;omega)) (fun j hj=>?_)
 have hj':j<chN w:=List.mem_range.mp hj
 have hjw:j*w≤14:=Nat.le_trans (Nat.mul_le_mul_right w (by(clear hj e2 c5 c4 c3 c2 c1 hk' hk q6 q5 q4 q3 q2 q1 hw;omega):j≤chN w-1)) q4
 have hlen:=chunk_len f ms w j
 have hsm:small ((chunkP f ms w j).map prAV).length:=by unfold small;rw[List.length_map];(clear hjw hj' hj e2 c5 c4 c3 c2 c1 hk' hk q6 q5 q4 q3 q2 q1 hw;omega)
 refine⟨_,Turn.name (fun _ _=>rfl) rfl (fun _ _=>IfsB.one ?_),fun hp own mt=>?_⟩
 ·have hd:decide (j*w+k<15)=decide ((k:Int)<(((chunkP f ms w j).map prAV).length:Int)):=by
   rw[List.length_map,hlen]
   exact decide_eq_decide.mpr (by(clear hsm hlen hjw hj' hj e2 c5 c4 c3 c2 c1 hk q6 q5 q4 q3 q2 q1 hw;omega))
  refine Ts.as hd.symm ?_
  exact Ts.cmp (Ev.name rfl) (Ev.call (Ev.bi rfl (by kernel_rfl) rfl) (Keep.bi _) (EvL.cons (Ev.name (av:=AV.lst ((chunkP f ms w j).map prAV)) rfl) EvL.nil) (Fn.len hsm)) Op2.lt
 ·have h15:j*w+k<15:=by simpa using hp
  refine Ev.itemT (xs:=[.str (letterS (j*w+k)),.str (kindS f ms (j*w+k))]) (i:=0) (Ev.item (i:=(k:Int)) (Ev.name (av:=AV.lst ((chunkP f ms w j).map prAV)) rfl) (Ev.name rfl) (by(clear h15 hp hsm hlen hjw hj' hj e2 c5 c4 c3 c2 c1 hk' hk q6 q5 q4 q3 q2 q1 hw;omega)) (by rw[Int.toNat_natCast,List.getElem?_map,chunk_at f ms w j k hk' h15];rfl) hsm) (Ev.int 0) (by(clear h15 hp hsm hlen hjw hj' hj e2 c5 c4 c3 c2 c1 hk' hk q6 q5 q4 q3 q2 q1 hw;omega)) rfl (sml rfl)
noncomputable def sigV (f:Nat) (ms ws:List Nat) (e:Nat) (b:Addr) (sh:AV) (tot w:Nat) (lines:List Str):Sig:=sigT f ms ws e b sh tot w [] [] [(n_columns,colsAV w),(n_page,pageAV f ms w),(n_laid,laidAV lines),(n_bare,bareAV f ms)]
set_option maxHeartbeats 1000000 in
theorem ev_answers {f:Nat} {ms ws:List Nat} {e w:Nat} {b:Addr} {sh:AV} {tot:Nat} {lines:List Str} (hw:2≤w∧w≤16) (hm:∀ m∈ms,m<15) (hml:ms.length≤15):Ev g (d+200) (lawSc g.w) (sigV f ms ws e b sh tot w lines) (asgE ((turnB g.w).drop 9)) (ansAV ms w):=by
 refine Ev.compL (List.range w) (fun k=>AV.str (colS w k)) _ (Ev.name (av:=colsAV w) rfl) IterV.lst (by kernel_rfl) (by simp;(clear hml hm;lia)) (fun k hk=>?_)
 have hk':k<w:=List.mem_range.mp hk
 obtain⟨c1,c2,c3,c4,c5⟩:=col_facts w (by(clear hk' hk hml hm;lia)) hw.1 k hk'
 obtain⟨a1,a2,a3,a4⟩:=ask_facts w (by(clear c5 c4 c3 c2 c1 hk' hk hml hm;lia)) hw.1 k hk'
 have hcl:(if w%2=0 then colS w k else Txt.upper (colS w k)).length≤8:=by split<;>assumption
 refine⟨_,Turn.name (fun _ _=>rfl) rfl (fun _ _=>IfsB.nil),fun own mt=>?_⟩
 have hx:[AV.str (colS w k),AV.str (Txt.upper (colS w k))][((w:Int).fmod 2).toNat]?=some (.str (if w%2=0 then colS w k else Txt.upper (colS w k))):=by
  have:((w:Int).fmod 2).toNat=w%2:=by rw[Int.fmod_eq_emod_of_nonneg _ (by(clear hcl a4 a3 a2 a1 c5 c4 c3 c2 c1 hk' hk hml hm hw;lia))];(clear hcl a4 a3 a2 a1 c5 c4 c3 c2 c1 hk' hk hml hm hw;lia)
  rw[this]
  rcases Nat.mod_two_eq_zero_or_one w with h | h
  ·rw[h];rfl
  ·rw[h];rfl
 have hu0:0≤(w:Int).fmod 2:=by rw[Int.fmod_eq_emod_of_nonneg _ (by(clear hx hcl a4 a3 a2 a1 c5 c4 c3 c2 c1 hk' hk hml hm hw;lia))];(clear hx hcl a4 a3 a2 a1 c5 c4 c3 c2 c1 hk' hk hml hm hw;lia)
 have hlu:(askU w k).length≤40:=by
  unfold askU
  simp -iota only[len_app]
  show _+2+15+1≤40
  (clear hu0 hx a4 a3 a2 a1 c5 c4 c3 c2 c1 hk' hk hml hm hw;lia)
 have hs2:∀ x y:AV,small [x,y].length:=fun _ _=>by simp -iota [small]
 have hfn:=fn_applies_to (g:=g) (d:=d+198) (ω:=own) (askL ms) (.ref b) (askU w k) (colA w k) [lettersS,⟨#[]⟩] (by unfold small;(clear hs2 hu0 hx hcl a4 a3 a2 a1 c5 c4 c3 c2 c1 hk' hk hml hm hw;lia)) a1 a2 (sml rfl) a3 (fun a ha=>by
  rcases memc ha with rfl | ha
  ·exact⟨by decide +kernel,by decide +kernel⟩
  ·obtain⟨m,hm',rfl⟩:=List.mem_map.mp ha
   exact ag_facts m (hm m hm')) (by unfold small askL;simp;(clear hs2 hlu hu0 hx hcl a4 a3 a2 a1 c5 c4 c3 c2 c1 hk' hk hm hw;lia))
 rw[ask_ans ms hm w k (by(clear hfn hs2 hlu hu0 hx hcl a4 a3 a2 a1 c5 c4 c3 c2 c1 hk' hk hml hm;lia)) hw.1 hk'] at hfn
 refine Ev.meth (a:=askedAV ms b) (Ev.name rfl) (Gm.obj (f:=341) (by kernel_rfl) (show _∉[n_req_rate,n_delay,n_rulelines,n_useragents] by decide)) (Keep.k (by kernel_rfl)) (EvL.cons (a:=.str (askU w k)) ?_ EvL.nil) hfn
 unfold askU
 refine Ev.bin (Ev.bin (Ev.bin (Ev.item (i:=(w:Int).fmod 2) (Ev.lst (EvL.cons (Ev.name rfl) (EvL.cons (Ev.strMeth (x:=colS w k) (Ev.name rfl) PySem.F.slot_str_upper PySem.F.type_str_upper EvL.nil (Fn.upper c2)) EvL.nil)) (hs2 _ _)) (Ev.bin (Ev.name rfl) (Ev.int 2) (Op2.mod (by decide))) hu0 hx (hs2 _ _)) (Ev.str _) (Op2.adds ?_)) (Ev.name (av:=.str lettersS) rfl) (Op2.adds ?_)) (Ev.str _) (Op2.adds ?_)
 ·show _+2≤1000000;(clear hfn hs2 hlu hu0 hx a4 a3 a2 a1 c5 c4 c3 c2 c1 hk' hk hml hm hw;lia)
 ·rw[len_app];show _+2+15≤1000000;(clear hfn hs2 hlu hu0 hx a4 a3 a2 a1 c5 c4 c3 c2 c1 hk' hk hml hm hw;lia)
 ·rw[len_app,len_app];show _+2+15+1≤1000000;(clear hfn hs2 hlu hu0 hx a4 a3 a2 a1 c5 c4 c3 c2 c1 hk' hk hml hm hw;lia)
end
end
section
open PySem.Builtin PySem.Builtin.Str
section
noncomputable def figsL (ms:List Nat) (w:Nat):List Nat:=(List.range w).map fun k=>if ansB ms w k then 1 else 0
noncomputable def rotL (ms:List Nat) (w:Nat):List Nat:=(figsL ms w).drop (15%w)++(figsL ms w).take (15%w)
noncomputable def aN (e:Nat) (ms:List Nat) (w:Nat):Nat:=valR e (figsL ms w).reverse*(2^e)^15
noncomputable def bN (e w:Nat):Nat:=(2^e)^w-1
noncomputable abbrev ShO:=Option (List Str × List Nat)
noncomputable def shAV:ShO→AV
 | none=>.none
 | some (a,rl)=>.obj 351 (entryFs (strL a) (intsL rl))
noncomputable def shStep (o:ShO) (rec:List Str) (w:Nat):ShO:=match o with
 | none=>some (rec,[w])
 | some (a,rl)=>some (a.filter (fun k=>decide (k∈rec)),rl++[w])
noncomputable def shSmall:ShO→Prop
 | none=>True
 | some (a,rl)=>a.length≤200∧rl.length≤4
theorem places_len:∀ w:Nat,w<17→2≤w→∀ k,k<w→(placesL w k).length≤8:=by decide +kernel
theorem flat_len {α β:Type} (l:List α) (f:α→List β) (n:Nat) (h:∀ x∈l,(f x).length≤n):(l.flatMap f).length≤l.length*n:=by
 induction l with
 | nil=>simp
 | cons x r ih=>
  rw[List.flatMap_cons,List.length_append,List.length_cons,Nat.add_mul,Nat.one_mul]
  have:=ih fun y hy=>h y (List.mem_cons_of_mem _ hy)
  have:=h x List.mem_cons_self
  lia
theorem rec_len (ms:List Nat) (w:Nat) (hw:2≤w∧w≤16):(recL ms w).length≤128:=by
 unfold recL
 have:=flat_len (List.range w) (fun k=>if ansB ms w k then(placesL w k).map letterS else []) 8 (fun k hk=>by
  split
  ·rw[List.length_map];exact places_len w (by(clear hk;lia)) hw.1 k (List.mem_range.mp hk)
  ·simp)
 rw[List.length_range] at this
 lia
theorem figs_len (ms:List Nat) (w:Nat):(figsL ms w).length=w:=by unfold figsL;simp
theorem figs_le (ms:List Nat) (w:Nat):∀ x∈figsL ms w,x≤1:=by
 intro x hx
 obtain⟨k,_,rfl⟩:=List.mem_map.mp hx
 split<;>omega
theorem valR_bound (n:Nat):∀ xs:List Nat,(∀ x∈xs,x<2^n)→valR n xs<2^(xs.length*n)
 | [],_=>by simp[valR]
 | x::xs,h=>by
  have ih:=valR_bound n xs fun y hy=>h y (List.mem_cons_of_mem _ hy)
  have hx:=h x List.mem_cons_self
  rw[valR_c,List.length_cons,Nat.add_mul,Nat.one_mul,Nat.add_comm (xs.length*n),Nat.pow_add]
  calc x+2^n*valR n xs<2^n+2^n*valR n xs:=by(clear ih h;lia)
   _=2^n*(valR n xs+1):=by rw[Nat.mul_add,Nat.mul_one,Nat.add_comm]
   _≤2^n*2^(xs.length*n):=Nat.mul_le_mul_left _ ih
theorem aN_lt (e:Nat) (ms:List Nat) (w:Nat) (he:3≤e∧e≤8) (hw:2≤w∧w≤16):aN e ms w<2^248:=by
 have h:=valR_bound e (figsL ms w).reverse (fun x hx=>by
  have:=figs_le ms w x (List.mem_reverse.mp hx)
  have:2^1≤2^e:=Nat.pow_le_pow_right (by(clear this hx hw he;lia)) (by(clear this hx hw;lia))
  (clear hx hw he;lia))
 rw[List.length_reverse,figs_len] at h
 unfold aN
 rw[←Nat.pow_mul]
 have h1:w*e≤128:=Nat.le_trans (Nat.mul_le_mul hw.2 he.2) (by(clear h hw he;lia))
 calc valR e (figsL ms w).reverse*2^(e*15)<2^(w*e)*2^(e*15):=Nat.mul_lt_mul_of_pos_right h (Nat.pow_pos (by(clear h1 h hw he;lia)))
  _=2^(w*e+e*15):=(Nat.pow_add ..).symm
  _≤2^248:=Nat.pow_le_pow_right (by(clear h1 h hw he;lia)) (by(clear h hw;lia))
theorem bN_facts (e w:Nat) (he:3≤e∧e≤8) (hw:2≤w∧w≤16):63≤bN e w∧bN e w<2^1000:=by
 unfold bN
 rw[←Nat.pow_mul]
 have h1:e*w≤128:=Nat.le_trans (Nat.mul_le_mul he.2 hw.2) (by(clear hw he;omega))
 have h2:6≤e*w:=Nat.le_trans (by(clear h1 hw he;omega)) (Nat.mul_le_mul he.1 hw.1)
 have h3:2^6≤2^(e*w):=Nat.pow_le_pow_right (by(clear h2 h1 hw he;omega)) h2
 have h4:2^(e*w)≤2^1000:=Nat.pow_le_pow_right (by(clear h3 h2 h1 hw he;omega)) (by(clear h3 h2 hw he;omega))
 (clear h2 h1 hw he;omega)
theorem div_bits (e:Nat) (ms:List Nat) (w:Nat) (he:3≤e∧e≤8) (hw:2≤w∧w≤16):(Builtin.Int.intBits (aN e ms w:Int)+Builtin.Int.intBits (bN e w:Int)-1)/Builtin.Int.intBits (bN e w:Int)≤100:=by
 have h1:=bits_le (aN_lt e ms w he hw)
 have h2:3≤Builtin.Int.intBits (bN e w:Int):=by
  have:=(bN_facts e w he hw).1
  apply Decidable.byContradiction
  intro q
  have:Builtin.Int.intBits (bN e w:Int)≤2:=by(clear this h1 hw he;lia)
  have:=intBits_le_iff.mp this
  simp at this
  (clear q h1 hw he;lia)
 refine Nat.div_le_of_le_mul ?_
 (clear hw he;lia)
end
end
section
open PySem.Builtin PySem.Builtin.Str
section
variable {g:Glob} {d:Nat} {sc:Scope} {σ:Sig} {A:Around} {env:Env} {Φ Ψ Φ₀ B:PH} {s:Shared} {rest:List Stmt} {Q:Flow→Shared→Prop}
theorem Bk.freezeV {x:Str} {a:Addr} {xs:List AV} {av av':AV} {own':Ow} {mt':List Addr} {b:List Stmt} (hx:σ.vars.lookup x=some av) (hc:∀ Φ v,Rep Φ (.lst xs) (.ref a)→Rep Φ av v→Rep Φ av' v) (ha:σ.own.lookup a=some (.lst xs)) (hm:a∈σ.mt)
  (ho:∀ b ov,own'.lookup b=some ov→b≠a∧σ.own.lookup b=some ov) (hm':∀ b∈mt',b∈σ.mt∧(own'.lookup b).isSome=true)
  (k:Bk g sc env A Φ₀ B ⟨(x,av')::σ.vars,own',σ.frz,mt'⟩ b Q):Bk g sc env A Φ₀ B σ b Q:=fun Φ s l y=>by
 refine box fun bX bk=>?_
 obtain⟨Φ',l',rp,y'⟩:=y.freeze ha hm ho hm'
 refine bk ?_
 clear bk bX
 refine k Φ' s (l.trans l') ?_
 refine box fun bX bk=>?_
 obtain⟨Ψ,pr,hb⟩:=y'.pre
 obtain⟨fr,hf,hv⟩:=pr.fr
 obtain⟨hk,v,h1,h2⟩:=hv x _ hx
 refine bk ?_
 clear bk bX
 refine⟨⟨Ψ,⟨pr.ev,pr.hp,⟨fr,hf,fun z av e=>?_⟩,pr.own⟩,hb⟩,y'.out,y'.mine,y'.cel,y'.inj⟩
 dsimp only at e
 rw[List.lookup_cons] at e
 split at e
 ·rename_i q;cases e;rw[beq_iff_eq.mp q];exact⟨hk,_,h1,hc _ v rp h2⟩
 ·exact hv z av e
theorem rep_entry {Φ:PH} {u:AV} {b:Addr} {xs:List AV} {v:Value} (h0:Rep Φ (.lst xs) (.ref b)) (h:Rep Φ (.obj 351 (entryFs u (.ref b))) v):Rep Φ (.obj 351 (entryFs u (.lst xs))) v:=by
 refine box fun bX bk=>?_
 obtain⟨a,o,d,od,es,n,e,ho,h1,h2,h3,h4,h5,h6,h8,hl,h7⟩:=h
 refine bk ?_
 clear bk bX
 refine⟨a,o,d,od,es,n,e,ho,h1,h2,h3,h4,h5,h6,h8,?_,h7⟩
 refine box fun bX bk=>?_
 obtain⟨r1,r2,⟨v3,g3,r3⟩,r4⟩:=hl
 refine bk ?_
 clear bk bX
 refine⟨r1,r2,⟨v3,g3,?_⟩,r4⟩
 replace r3:_=_:=r3
 rw[r3]
 exact h0
theorem lh_obj {Φ:PH} {C:Addr} {fs:List (Str × AV)} {v:Value} (h:Rep Φ (.obj C fs) v):(v==.none)=false:=by
 refine box fun bX bk=>?_
 obtain⟨a,o,d,od,es,n,e,_⟩:=h
 refine bk ?_
 clear bk bX
 rw[e];rfl
noncomputable def sigX (f:Nat) (ms ws:List Nat) (e:Nat) (b:Addr) (sh:AV) (tot w:Nat) (lines:List Str):Sig:=sigT f ms ws e b sh tot w [] [] [(n_answers,ansAV ms w),(n_columns,colsAV w),(n_page,pageAV f ms w),(n_laid,laidAV lines),(n_bare,bareAV f ms)]
theorem t_bools {f:Nat} {ms ws:List Nat} {e w:Nat} {b:Addr} {sh:AV} {tot:Nat} {lines:List Str} (hw:2≤w∧w≤16):Ts g (d+200) (lawSc g.w) (sigX f ms ws e b sh tot w lines) (ifT ((turnB g.w).drop 10)) false:=by
 have hf:(List.range w).filter (fun k=>(ansB ms w k != true)&&(ansB ms w k != false))=[]:=by
  rw[List.filter_eq_nil_iff]
  intro k _
  cases ansB ms w k<;>simp
 have he:(AV.lst (((List.range w).filter (fun k=>(ansB ms w k != true)&&(ansB ms w k != false))).map (fun k=>AV.bool (ansB ms w k))))=.lst []:=by rw[hf];rfl
 refine Ts.cmp (a:=.lst []) ?_ (Ev.lst EvL.nil (by simp[small])) (Op2.neSelf (Plain.of (by decide)))
 refine Ev.as he ?_
 refine Ev.compLIf (List.range w) (fun k=>AV.bool (ansB ms w k)) _ _ (Ev.name (av:=ansAV ms w) rfl) IterV.lst (by kernel_rfl) (by simp;lia) (fun k hk=>?_)
 exact⟨_,Turn.name (fun _ _=>rfl) rfl (fun _ _=>IfsB.one (Ts.and (Ts.cmp (Ev.name rfl) (Ev.bool _) Op2.isNotBool) (Ts.cmp (Ev.name rfl) (Ev.bool _) Op2.isNotBool))),fun _ own mt=>Ev.name rfl⟩
noncomputable def callA:PySem.Expr→PySem.Expr
 | .Call _ (a::_) _ _=>a
 | _=>default
set_option maxHeartbeats 1000000 in
theorem ev_rec {f:Nat} {ms ws:List Nat} {e w:Nat} {b:Addr} {sh:AV} {tot:Nat} {lines:List Str} (hw:2≤w∧w≤16):Ev g (d+200) (lawSc g.w) (sigX f ms ws e b sh tot w lines) (callA (asgE ((turnB g.w).drop 11))) (strL (recL ms w)):=by
 have hsm:∀ h:Nat→AV,small ((List.range w).map h).length:=fun h=>by unfold small;simp;lia
 obtain⟨F,hF⟩:∃ F:Nat→List AV,F=fun k=>if ansB ms w k then(placesL w k).map (fun p=>AV.str (letterS p)) else []:=⟨_,rfl⟩
 have e0:strL (recL ms w)=.lst ((List.range ((List.range w).map (fun(i:Nat)=>AV.int (i:Int))).length).flatMap F):=by
  unfold strL recL
  rw[List.length_map,List.length_range,List.map_flatMap]
  congr 1
  refine congrArg (fun f=>(List.range w).flatMap f) (funext fun k=>?_)
  rw[hF]
  dsimp only
  split
  ·rw[List.map_map];rfl
  ·rfl
 have hl:((List.range ((List.range w).map (fun(i:Nat)=>AV.int (i:Int))).length).flatMap F).length≤10000:=by
  have:=rec_len ms w hw
  unfold strL at e0
  have e1:=congrArg (fun x:AV=>match x with | .lst l=>l.length | _=>0) e0
  dsimp only at e1
  rw[List.length_map] at e1
  (clear e0 hF hsm hw;lia)
 refine Ev.sa e0 ?_
 refine Ev.comp2 (xs:=(List.range w).map (fun(i:Nat)=>AV.int (i:Int))) F (Ev.call (avs:=[.int (w:Int)]) (Ev.bi rfl (by kernel_rfl) rfl) (Keep.ty _) (EvL.cons (Ev.name rfl) EvL.nil) Fn.range1) (IterV.range w (by(clear hl e0 hF hsm;lia))) (by kernel_rfl) hl (fun i x hx=>?_)
 rw[List.getElem?_map,Option.map_eq_some_iff] at hx
 obtain⟨i',hi',rfl⟩:=hx
 obtain⟨hlt,hie⟩:i<w∧i'=i:=by
  rw[List.getElem?_eq_some_iff] at hi'
  refine box fun bX bk=>?_
  obtain⟨h1,h2⟩:=hi'
  refine bk ?_
  clear bk bX
  simp at h1 h2
  exact⟨h1,h2.symm⟩
 subst hie
 obtain⟨c1,c2,c3,c4,c5⟩:=col_facts w (by(clear hlt hi' hl e0 hF hsm;lia)) hw.1 i' hlt
 have hat:∀ h:Nat→AV,((List.range w).map h)[((i':Nat):Int).toNat]?=some (h i'):=fun h=>by rw[Int.toNat_natCast,List.getElem?_map,List.getElem?_range hlt];rfl
 refine⟨_,ansB ms w i',Turn.name (fun _ _=>rfl) rfl (fun _ _=>IfsB.one (Ts.ev (Ev.item (Ev.name (av:=ansAV ms w) rfl) (Ev.name (av:=.int (i':Int)) rfl) (by(clear hat c5 c4 c3 c2 c1 hlt hi' hl e0 hF hsm hw;lia)) (hat _) (hsm _)) Tr.bool)),fun hb=>?_,fun hb=>?_⟩
 ·rw[hF];exact if_neg (by rw[hb];decide)
 ·have hch:chars (colS w i')=(placesL w i').map (fun p=>AV.str (letterS p)):=by unfold chars;rw[c5,List.map_map];rfl
  refine⟨.str (colS w i'),_,fun j=>[((((placesL w i').map (fun p=>AV.str (letterS p)))[j]?).map (fun x=>x)).getD .none],fun own mt=>Ev.item (Ev.name (av:=colsAV w) rfl) (Ev.name (av:=.int (i':Int)) rfl) (by(clear hch hb hat c5 c4 c3 c2 c1 hlt hi' hl e0 hF hsm hw;lia)) (hat _) (hsm _),IterV.str,?_,fun j y hy=>?_⟩
  ·rw[hch,hF]
   refine(if_pos hb).trans ?_
   have:=range_map_get ((placesL w i').map (fun p=>AV.str (letterS p))) (fun x=>x) .none
   rw[List.map_id',List.map_eq_flatMap] at this
   exact this.symm
  ·rw[hch] at hy
   exact⟨_,true,y,Turn.name (fun _ _=>rfl) rfl (fun _ _=>IfsB.nil),fun _=>⟨fun own mt=>Ev.name rfl,by dsimp only;rw[hy];rfl⟩,fun h=>nomatch h⟩
end
end
section
open PySem.Builtin PySem.Builtin.Str
section
variable {g:Glob} {d:Nat} {sc:Scope} {σ:Sig} {A:Around} {env:Env} {Φ Ψ Φ₀ B:PH} {s:Shared} {rest:List Stmt} {Q:Flow→Shared→Prop}
theorem e9 (e:Nat) (he:3≤e∧e≤8):Builtin.Int.intBits ((2^e:Nat):Int)≤9:=bits_le (Nat.pow_lt_pow_right (by(clear he;lia)) (by lia))
theorem a3000 (e:Nat) (ms:List Nat) (w:Nat) (he:3≤e∧e≤8) (hw:2≤w∧w≤16):aN e ms w<2^3000:=Nat.lt_of_lt_of_le (aN_lt e ms w he hw) (Nat.pow_le_pow_right (by lia) (by lia))
theorem fmod15 (w:Nat) (hw:1≤w):(15:Int).fmod (w:Int)=((15%w:Nat):Int):=by
 rw[Int.fmod_eq_emod_of_nonneg _ (by(clear hw;lia))];rfl
set_option maxHeartbeats 4000000 in
theorem turn_all {f:Nat} {ms ws:List Nat} {e w:Nat} {b:Addr} {o:ShO} {tot:Nat} {lines:List Str} (r:Room (d+200) A) (hw:2≤w∧w≤16) (he:3≤e∧e≤8) (so:SplitOk f ms w lines) (hm:∀ m∈ms,m<15) (hml:ms.length≤15) (hso:shSmall o)
  (hleft:((aN e ms w%bN e w:Nat):Int)=num ((2^e:Nat):Int) ((rotL ms w).map fun(n:Nat)=>(n:Int)))
  (tail:Bk g (lawSc g.w) env A Φ₀ B (sigL f ms ws e b (shAV (shStep o (recL ms w) w)) (tot+aN e ms w/bN e w) [] []) [] Q) :
  Bk g (lawSc g.w) env A Φ₀ B (sigT f ms ws e b (shAV o) tot w [] [] []) (turnB g.w) Q:=by
 refine turn_1 r hw so ?_
 refine Bk.ite r (t_cells (lines:=lines) hw) (fun h=>nomatch h) (fun _=>Bk.go ?_)
 refine Bk.ite r (t_counts hw so) (fun h=>nomatch h) (fun _=>Bk.go ?_)
 refine Bk.ite r (t_nums hw so) (fun h=>nomatch h) (fun _=>Bk.go ?_)
 refine Bk.ite r (t_folded (lines:=lines) hw) (fun h=>nomatch h) (fun _=>Bk.go ?_)
 refine Bk.assignC (av:=colsAV w) r (ev_columns (lines:=lines) hw) rfl ?_ (fun env h=>by cases env;cases h;rfl)
 refine Bk.assignC (av:=ansAV ms w) r (ev_answers (lines:=lines) hw hm hml) rfl ?_ (fun env h=>by cases env;cases h;rfl)
 refine Bk.ite r (t_bools (lines:=lines) hw) (fun h=>nomatch h) (fun _=>Bk.go ?_)
 have hrl:=rec_len ms w hw
 have hsm:∀ h:Nat→AV,small ((List.range w).map h).length:=fun h=>by unfold small;simp;(clear hrl tail hleft hso hml hm so he r;omega)
 refine Bk.assignK r (EvK.made (Ev.glob (av:=.raw (.ref 390)) rfl (by kernel_rfl) (fun _=>rep_raw)) (Keep.k (by kernel_rfl)) (EvL.cons (ev_rec (lines:=lines) hw) EvL.nil) (fn_law_record (d:=d+196) ((recL ms w).map AV.str) (by unfold small;rw[List.length_map];(clear hsm tail hleft hso hml hm so he hw r;omega))).fnM) ?_
 refine MadeK.elimR fun c=>⟨rfl,?_⟩
 refine Bk.expr r (EvX.meth (EvX.of (Ev.attr (C:=351) (fs:=entryFs (strL (recL ms w)) (.ref c)) (av:=.ref c) (Ev.name rfl) (by kernel_rfl) rfl rfl)) (GmA.list (xs:=[]) lk_eq PySem.F.slot_list_append PySem.type_list_append) (Keep.bi _) (EvL.cons (Ev.name rfl) EvL.nil) (CallsTo.ownS (FnM.append (by simp[small])) lk_eq (by simp[putAll,Sig.put]))) rfl ?_
 refine Bk.freezeV (x:=n_record) (a:=c) (xs:=[.int (w:Int)]) (av':=.obj 351 (entryFs (strL (recL ms w)) (.lst [.int (w:Int)]))) (own':=[]) (mt':=[]) rfl (fun Φ v=>rep_entry) lk_eq (by simp[putAll,Sig.put]) noO noM ?_
 refine Bk.assign (av:=shAV (shStep o (recL ms w) w)) r ?_ rfl ?_
 ·cases o with
  | none=>exact Ev.ite (b:=true) (Ts.cmp (Ev.name (av:=.none) rfl) Ev.none (Op2.isNone (b:=true) fun Φ v h=>lh_none h)) (fun _=>Ev.name rfl) (fun h=>nomatch h)
  | some p=>
   obtain⟨a,rl⟩:=p
   obtain⟨z1,z2⟩:=hso
   have hfm:=fn_merge (g:=g) (d:=d+196) (ω:=[]) a (recL ms w) (rl.map fun(n:Nat)=>AV.int (n:Int)) [.int (w:Int)] (by(clear z2 tail hsm hrl hleft hml hm so he hw r;omega)) (by(clear z2 z1 tail hsm hleft hml hm so he hw r;omega)) (by simp;(clear z1 tail hsm hrl hleft hml hm so he hw r;omega))
   have e1:(rl.map fun(n:Nat)=>AV.int (n:Int))++[AV.int (w:Int)]=(rl++[w]).map fun(n:Nat)=>AV.int (n:Int):=by rw[List.map_append];rfl
   rw[e1] at hfm
   exact Ev.ite (b:=false) (Ts.cmp (Ev.name (av:=shAV (some (a,rl))) rfl) Ev.none (Op2.isNone (b:=false) fun Φ v h=>lh_obj h)) (fun h=>nomatch h) (fun _=>Ev.call (Ev.glob (av:=.raw (.ref 362)) rfl (by kernel_rfl) (fun _=>rep_raw)) (Keep.k (by kernel_rfl)) (EvL.cons (Ev.name (av:=shAV (some (a,rl))) rfl) (EvL.cons (Ev.name rfl) EvL.nil)) hfm)
 refine Bk.assignC (av:=.lst (intRow (figsL ms w))) r ?_ rfl ?_ (fun env h=>by cases env;cases h;rfl)
 ·have e2:intRow (figsL ms w)=(List.range w).map fun k=>AV.int ((if ansB ms w k then 1 else 0:Nat):Int):=by unfold intRow figsL;rw[List.map_map];rfl
  rw[e2]
  refine Ev.compL (List.range w) (fun k=>AV.bool (ansB ms w k)) _ (Ev.name (av:=ansAV ms w) rfl) IterV.lst (by kernel_rfl) (by simp;(clear e2 hsm hrl tail hleft hso hml hm so he r;omega)) (fun k hk=>?_)
  refine⟨_,Turn.name (fun _ _=>rfl) rfl (fun _ _=>IfsB.nil),fun own mt=>?_⟩
  refine Ev.ite (b:=ansB ms w k) (Ts.ev (Ev.name rfl) Tr.bool) (fun h=>?_) (fun h=>?_)
  ·rw[if_pos h];exact Ev.int 1
  ·rw[if_neg (by rw[h];decide)];exact Ev.int 0
 have hfl:=figs_len ms w
 have hfs:small (intRow (figsL ms w)).length:=by unfold small intRow;rw[List.length_map];(clear hsm hrl tail hleft hso hml hm so he r;omega)
 have hb9:=e9 e he
 obtain⟨b1,b2⟩:=bN_facts e w he hw
 have hA:((aN e ms w:Nat):Int)=((valR e (figsL ms w).reverse:Nat):Int)*((2^e:Nat):Int)^(15:Int).toNat:=by unfold aN;push_cast;rfl
 have hB:((bN e w:Nat):Int)=((2^e:Nat):Int)^((w:Int)).toNat-1:=by
  unfold bN at b1 ⊢
  rw[Int.toNat_natCast,Int.ofNat_sub (by(clear hA b2 hb9 hfs hfl hsm hrl tail hleft hso hml hm so he hw r;omega))]
  push_cast;rfl
 have hV:valR e (figsL ms w).reverse<2^128:=by
  have h:=valR_bound e (figsL ms w).reverse (fun x hx=>by
   have:=figs_le ms w x (List.mem_reverse.mp hx)
   have:2^1≤2^e:=Nat.pow_le_pow_right (by(clear this hx hB hA b2 b1 hb9 hfs hfl hsm hrl tail hleft hso hml hm so he hw r;omega)) (by(clear this hx hB hA b2 b1 hb9 hfs hfl hsm hrl tail hleft hso hml hm so hw r;omega))
   (clear hx hB hA b2 b1 hb9 hfs hfl hsm hrl tail hleft hso hml hm so he hw r;omega))
  rw[List.length_reverse,figs_len] at h
  have h1:w*e≤128:=Nat.le_trans (Nat.mul_le_mul hw.2 he.2) (by(clear h hB hA b2 b1 hb9 hfs hfl hsm hrl tail hleft hso hml hm so he hw r;omega))
  exact Nat.lt_of_lt_of_le h (Nat.pow_le_pow_right (by(clear h1 h hB hA b2 b1 hb9 hfs hfl hsm hrl tail hleft hso hml hm so he hw r;omega)) h1)
 have hp15:((2^e:Nat):Int)^(15:Int).toNat=(((2^e)^15:Nat):Int):=by push_cast;rfl
 have hp15b:Builtin.Int.intBits ((((2^e)^15:Nat)):Int)≤200:=bits_le (by rw[←Nat.pow_mul];exact Nat.pow_lt_pow_right (by(clear hp15 hV hB hA b2 b1 hb9 hfs hfl hsm hrl tail hleft hso hml hm so he hw r;omega)) (by(clear hp15 hV hB hA b2 b1 hb9 hfs hfl hsm hrl tail hleft hso hml hm so hw r;omega)))
 refine Bk.assignT (av:=.tup [.int ((aN e ms w/bN e w:Nat):Int),.int ((aN e ms w%bN e w:Nat):Int)]) r (Ev.call (avs:=[.int (aN e ms w:Nat),.int (bN e w:Nat)]) (Ev.glob (av:=.raw (.ref 152)) rfl (by kernel_rfl) (fun _=>rep_raw)) (Keep.k (by kernel_rfl)) (EvL.cons ?_ (EvL.cons ?_ EvL.nil)) (fn_divmod_pos (d:=d+94) (aN e ms w) (bN e w) (by(clear hp15b hp15 hV hB hA b2 hb9 hfs hfl hsm hrl tail hleft hso hml hm so he hw r;omega)) b2 (a3000 e ms w he hw) (div_bits e ms w he hw))) (Tgt.pair rfl rfl) ?_ rfl (fun env h=>by cases env;cases h;rfl)
 ·refine Ev.saI hA ?_
  refine Ev.bin (a:=.int (valR e (figsL ms w).reverse:Nat)) (Ev.call (avs:=[.lst (intRow (figsL ms w).reverse),.int (e:Int)]) (Ev.glob (av:=.raw (.ref 145)) rfl (by kernel_rfl) (fun _=>rep_raw)) (Keep.k (by kernel_rfl)) (EvL.cons ?_ (EvL.cons (Ev.name rfl) EvL.nil)) (fn_digits2int (d:=d+96) e (by(clear hp15b hp15 hV hB hA b2 b1 hb9 hfs hfl hsm hrl tail hleft hso hml hm so hw r;omega)) (figsL ms w).reverse (by rw[List.length_reverse];(clear hp15b hp15 hV hB hA b2 b1 hb9 hfs hsm hrl tail hleft hso hml hm so he r;omega)) (fun x hx=>by
   have:=figs_le ms w x (List.mem_reverse.mp hx)
   have:2^1≤2^10000:=Nat.pow_le_pow_right (by(clear this hx hp15b hp15 hV hB hA b2 b1 hb9 hfs hfl hsm hrl tail hleft hso hml hm so he hw r;omega)) (by(clear this hx hp15b hp15 hV hB hA b2 b1 hb9 hfs hfl hsm hrl tail hleft hso hml hm so he hw r;omega))
   (clear hx hp15b hp15 hV hB hA b2 b1 hb9 hfs hfl hsm hrl tail hleft hso hml hm so he hw r;omega)))) (Ev.bin (Ev.name rfl) (Ev.int 15) (Op2.pow (by(clear hp15b hp15 hV hB hA b2 b1 hb9 hfs hfl hsm hrl tail hleft hso hml hm so he hw r;omega)) (by(clear hp15b hp15 hV hB hA b2 b1 hfs hfl hsm hrl tail hleft hso hml hm so he hw r;omega)))) (Op2.mul ?_)
  ·have e3:intRow (figsL ms w).reverse=cut (intRow (figsL ms w)) Option.none Option.none (some (-1)):=by
    rw[cut_rev];unfold intRow;rw[List.map_reverse]
   rw[e3]
   exact Ev.sliceSt (Ev.name rfl) (lo:=Option.none) (hi:=Option.none) trivial trivial (Ev.neg (Ev.int 1)) (by(clear e3 hp15b hp15 hV hB hA b2 b1 hb9 hfs hfl hsm hrl tail hleft hso hml hm so he hw r;omega)) hfs
  ·rw[hp15]
   exact IntMulOk.of_bits (Nat.le_trans (bits_le hV) (by decide)) (Nat.le_trans hp15b (by decide))
 ·refine Ev.saI hB ?_
  refine Ev.bin (Ev.bin (Ev.name rfl) (Ev.name rfl) (Op2.pow (by(clear hp15b hp15 hV hB hA b2 b1 hb9 hfs hfl hsm hrl tail hleft hso hml hm so he hw r;omega)) ?_)) (Ev.int 1) Op2.sub
  have h1:=Nat.mul_le_mul hb9 hw.2
  have h2:((Builtin.Int.intBits ((2^e:Nat):Int)*w:Nat):Int)≤144:=by(clear hp15b hp15 hV hB hA b2 b1 hb9 hfs hfl hsm hrl tail hleft hso hml hm so he hw r;omega)
  rw[Int.natCast_mul] at h2
  (clear h2 hp15b hp15 hV hB hA b2 b1 hb9 hfs hfl hsm hrl tail hleft hso hml hm so he hw r;omega)
 have hcut:AV.lst ((((rotL ms w).map fun(n:Nat)=>(n:Int))).map AV.int)=.lst (cut (intRow (figsL ms w)) (some ((15%w:Nat):Int)) Option.none Option.none++cut (intRow (figsL ms w)) Option.none (some ((15%w:Nat):Int)) Option.none):=by
  have hlt:15%w≤(intRow (figsL ms w)).length:=by unfold intRow;rw[List.length_map,hfl];exact Nat.le_of_lt (Nat.mod_lt _ (by(clear hp15b hp15 hV hB hA b2 b1 hb9 hfs hfl hsm hrl tail hleft hso hml hm so he r;omega)))
  rw[cut_from _ _ hlt,cut_to _ _ hlt]
  unfold rotL intRow
  rw[List.map_map,List.map_append,List.map_drop,List.map_take]
  rfl
 refine Bk.ite (b:=false) r (Ts.cmp (a:=.int ((aN e ms w%bN e w:Nat):Int)) (b:=.int (num ((2^e:Nat):Int) ((rotL ms w).map fun(n:Nat)=>(n:Int)))) (Ev.name rfl) (Ev.call (avs:=[.lst ((((rotL ms w).map fun(n:Nat)=>(n:Int))).map AV.int),.int ((2^e:Nat):Int)]) (Ev.glob (av:=.raw (.ref 397)) rfl (by kernel_rfl) (fun _=>rep_raw)) (Keep.k (by kernel_rfl)) (EvL.cons ?_ (EvL.cons (Ev.name rfl) EvL.nil)) (fn_law_number (d:=d+198) _ _ (by(clear hcut hp15b hp15 hV hB hA b2 b1 hfs hfl hsm hrl tail hleft hso hml hm so he hw r;omega)))) ?_) (fun h=>nomatch h) (fun _=>Bk.go ?_)
 ·refine Ev.sa hcut ?_
  refine Ev.bin (Ev.slice (Ev.name rfl) (lo:=some ((15%w:Nat):Int)) (hi:=Option.none) ?_ trivial hfs) (Ev.slice (Ev.name rfl) (lo:=Option.none) (hi:=some ((15%w:Nat):Int)) trivial ?_ hfs) (Op2.addL ?_)
  ·refine Ev.asI (fmod15 w (by(clear hcut hp15b hp15 hV hB hA b2 b1 hb9 hfs hfl hsm hrl tail hleft hso hml hm so he r;omega))) ?_
   exact Ev.bin (Ev.int 15) (Ev.name rfl) (Op2.mod (by(clear hcut hp15b hp15 hV hB hA b2 b1 hb9 hfs hfl hsm hrl tail hleft hso hml hm so he r;omega)))
  ·refine Ev.asI (fmod15 w (by(clear hcut hp15b hp15 hV hB hA b2 b1 hb9 hfs hfl hsm hrl tail hleft hso hml hm so he r;omega))) ?_
   exact Ev.bin (Ev.int 15) (Ev.name rfl) (Op2.mod (by(clear hcut hp15b hp15 hV hB hA b2 b1 hb9 hfs hfl hsm hrl tail hleft hso hml hm so he r;omega)))
  ·have hlt:15%w≤(intRow (figsL ms w)).length:=by unfold intRow;rw[List.length_map,hfl];exact Nat.le_of_lt (Nat.mod_lt _ (by(clear hcut hp15b hp15 hV hB hA b2 b1 hb9 hfs hfl hsm hrl tail hleft hso hml hm so he r;omega)))
   rw[cut_from _ _ hlt,cut_to _ _ hlt,List.length_drop,List.length_take]
   unfold small at hfs ⊢
   (clear hlt hcut hp15b hp15 hV hB hA b2 b1 hb9 hfl hsm hrl tail hleft hso hml hm so he hw r;omega)
 ·have:=Op2.nei (g:=g) (d:=d+200) (i:=((aN e ms w%bN e w:Nat):Int)) (j:=num ((2^e:Nat):Int) ((rotL ms w).map fun(n:Nat)=>(n:Int)))
  rw[hleft] at this ⊢
  simpa using this
 refine Bk.aug r rfl rfl (Ev.name rfl) Op2.iadd ?_
 refine Bk.know _ tail ⟨rfl,?_,rfl,rfl,rfl,rfl,rfl,rfl,rfl,rfl,trivial⟩
 exact congrArg (fun t=>some (AV.int t)) (by push_cast;rfl)
end
end
section
open PySem.Builtin PySem.Builtin.Str
section
noncomputable def shRun (ms:List Nat) (l:List Nat):ShO:=l.foldl (fun o w=>shStep o (recL ms w) w) none
noncomputable def totRun (e:Nat) (ms:List Nat) (l:List Nat):Nat:=(l.map fun w=>aN e ms w/bN e w).sum
noncomputable def dueB (ms ws:List Nat) (p:Nat):Bool:=ws.all fun w=>(ms.map (·%w)).contains (p%w)
noncomputable def dueL (ms:List Nat) (a b c d:Nat):List Nat:=if a*b*c*d≤14^ms.length then(List.range 15).filter (dueB ms [a,b,c,d]) else ms
noncomputable def fourB (figs:List Nat) (p:Nat):Bool:=decide (14-p<figs.length)&&(figs[14-p]?.getD 0==4)
noncomputable def orderL (due:List Nat) (a:Nat):List Str:=(List.range a).flatMap fun c=>(due.filter fun p=>p%a==c).map letterS
structure LawOk (f:Nat) (ms:List Nat) (a b c d e:Nat):Prop where
 wr:∀ w∈[a,b,c,d],2≤w∧w≤16
 er:3≤e∧e≤8
 m15:∀ m∈ms,m<15
 mlen:ms.length≤15
 split:∀ w∈[a,b,c,d],∃ lines,SplitOk f ms w lines
 left:∀ w∈[a,b,c,d],((aN e ms w%bN e w:Nat):Int)=num ((2^e:Nat):Int) ((rotL ms w).map fun(n:Nat)=>(n:Int))
 dig:(List.range 15).filter (fourB (int2digits e (totRun e ms [a,b,c,d])))=dueL ms a b c d
 ord:shRun ms [a,b,c,d]=some (orderL (dueL ms a b c d) a,[a,b,c,d])
noncomputable def shB:ShO→Nat→Prop
 | none,_=>True
 | some (a,rl),n=>a.length≤128∧rl.length≤n
theorem shB_run (ms:List Nat):∀ (l:List Nat),(∀ w∈l,2≤w∧w≤16)→∀ o n,shB o n→shB (l.foldl (fun o w=>shStep o (recL ms w) w) o) (n+l.length)
 | [],_,o,n,h=>h
 | w::r,hl,o,n,h=>by
  have:=shB_run ms r (fun x hx=>hl x (List.mem_cons_of_mem _ hx)) (shStep o (recL ms w) w) (n+1) (by
   cases o with
   | none=>exact⟨rec_len ms w (hl w List.mem_cons_self),Nat.le_add_left _ _⟩
   | some p=>
    obtain⟨a,rl⟩:=p
    obtain⟨h1,h2⟩:=h
    refine⟨Nat.le_trans (List.length_filter_le _ _) h1,?_⟩
    rw[List.length_append]
    exact Nat.add_le_add_right h2 1)
  rw[List.length_cons,Nat.add_comm r.length,←Nat.add_assoc]
  exact this
theorem sh_small (ms:List Nat) (l:List Nat) (h:∀ w∈l,2≤w∧w≤16) (hl:l.length≤4):shSmall (shRun ms l):=by
 have:=shB_run ms l h none 0 trivial
 unfold shRun
 revert this
 cases l.foldl (fun o w=>shStep o (recL ms w) w) none with
 | none=>exact fun _=>trivial
 | some p=>
  obtain⟨a,rl⟩:=p
  rintro⟨h1,h2⟩
  exact⟨by(clear h2 hl h;lia),by(clear h1 h;lia)⟩
theorem shRun_succ (ms:List Nat) (l:List Nat) (i w:Nat) (h:l[i]?=some w):shRun ms (l.take (i+1))=shStep (shRun ms (l.take i)) (recL ms w) w:=by
 unfold shRun
 rw[List.take_add_one,h,List.foldl_append]
 rfl
theorem totRun_succ (e:Nat) (ms:List Nat) (l:List Nat) (i w:Nat) (h:l[i]?=some w):totRun e ms (l.take (i+1))=totRun e ms (l.take i)+aN e ms w/bN e w:=by
 unfold totRun
 rw[List.take_add_one,h,List.map_append,List.sum_append]
 simp
theorem tot_lt (e:Nat) (ms:List Nat) (a b c d:Nat) (he:3≤e∧e≤8) (hw:∀ w∈[a,b,c,d],2≤w∧w≤16):totRun e ms [a,b,c,d]<2^250:=by
 have key:∀ w∈[a,b,c,d],aN e ms w/bN e w<2^248:=fun w h=>Nat.lt_of_le_of_lt (Nat.div_le_self _ _) (aN_lt e ms w he (hw w h))
 have h1:=key a mA
 have h2:=key b mB
 have h3:=key c mC
 have h4:=key d mD
 unfold totRun
 simp -iota only[List.map_cons,List.map_nil,List.sum_cons,List.sum_nil]
 lia
theorem due_len (ms:List Nat) (a b c d:Nat) (h:ms.length≤15):(dueL ms a b c d).length≤15:=by
 unfold dueL
 split
 ·exact Nat.le_trans (List.length_filter_le _ _) (by decide)
 ·exact h
theorem due_lt (ms:List Nat) (a b c d:Nat) (h:∀ m∈ms,m<15):∀ p∈dueL ms a b c d,p<15:=by
 intro p hp
 unfold dueL at hp
 split at hp
 ·exact List.mem_range.mp (List.mem_filter.mp hp).1
 ·exact h p hp
theorem order_len (due:List Nat) (a:Nat) (h:due.length≤15) (ha:a≤16):(orderL due a).length≤240:=by
 unfold orderL
 have:=flat_len (List.range a) (fun c=>(due.filter fun p=>p%a==c).map letterS) 15 (fun k _=>by
  rw[List.length_map]
  exact Nat.le_trans (List.length_filter_le _ _) h)
 rw[List.length_range] at this
 omega
end
end
section
open PySem.Builtin PySem.Builtin.Str
section
variable {g:Glob} {d:Nat} {sc:Scope} {σ:Sig} {A:Around} {env:Env} {Φ Ψ Φ₀ B:PH} {s:Shared} {rest:List Stmt} {Q:Flow→Shared→Prop}
theorem nat_mod_int (p w:Nat):((p:Int)).fmod (w:Int)=((p%w:Nat):Int):=by
 rw[Int.fmod_eq_emod_of_nonneg _ (by lia)];rfl
theorem eqv_nil (xs:List AV):PyData.eqv (pd (.lst xs)) (pd (.lst []))=xs.isEmpty:=by
 cases xs with
 | nil=>rfl
 | cons x r=>rfl
theorem due_empty (ms ws:List Nat) (p:Nat):(((ws.filter fun w=>!(ms.map (·%w)).contains (p%w))).map fun(n:Nat)=>AV.int (n:Int)).isEmpty=dueB ms ws p:=by
 unfold dueB
 induction ws with
 | nil=>rfl
 | cons w r ih=>
  rw[List.filter_cons,List.all_cons]
  cases h:(ms.map (·%w)).contains (p%w) with
  | true=>simpa using ih
  | false=>simp
noncomputable def sigF (f:Nat) (ms ws:List Nat) (e:Nat) (b:Addr) (sh:AV) (tot:Nat) (vs:List (Str × AV)):Sig:=⟨vs++(sigL f ms ws e b sh tot [] []).vars,[],[],[]⟩
noncomputable abbrev lawB (w:World):List Stmt:=bodyOf (Mine.Internal.hd.zo_407 w.params)
theorem item_int (ws:List Nat) (i k:Nat) (h:ws[i]?=some k):(ws.map fun(n:Nat)=>AV.int (n:Int))[((i:Nat):Int).toNat]?=some (.int (k:Int)):=by rw[Int.toNat_natCast,List.getElem?_map,h];rfl
noncomputable def ifB (l:List Stmt):List Stmt:=Mine.Internal.hd.fB (Mine.Internal.hd.fst l)
set_option maxHeartbeats 1000000 in
theorem ev_due {f:Nat} {ms:List Nat} {ws:List Nat} {e:Nat} {b:Addr} {sh:AV} {tot:Nat} (hm:ms.length≤15) (hws:ws.length≤4) (hw:∀ w∈ws,2≤w∧w≤16) (m15:∀ m∈ms,m<15):Ev g (d+200) (lawSc g.w) (sigF f ms ws e b sh tot [(n_due,intsL ms)]) (asgE (ifB ((lawB g.w).drop 17))) (intsL ((List.range 15).filter (dueB ms ws))):=by
 refine Ev.compLIf (List.range 15) (fun(i:Nat)=>AV.int (i:Int)) (fun(i:Nat)=>AV.int (i:Int)) (dueB ms ws) (Ev.call (avs:=[.int ((15:Nat):Int)]) (Ev.bi rfl (by kernel_rfl) rfl) (Keep.ty _) (EvL.cons (Ev.int 15) EvL.nil) Fn.range1) (IterV.range 15 (by(clear m15 hw hws hm;lia))) (by kernel_rfl) (by decide) (fun p hp=>?_)
 refine⟨_,Turn.name (fun _ _=>rfl) rfl (fun own mt=>IfsB.one ?_),fun _ own mt=>Ev.name rfl⟩
 rw[←due_empty,←eqv_nil]
 refine Ts.cmp ?_ (Ev.lst EvL.nil (sml rfl)) (Op2.eq (plain_ints _) (Plain.of (by decide)))
 refine Ev.compLIf ws (fun(i:Nat)=>AV.int (i:Int)) (fun(i:Nat)=>AV.int (i:Int)) _ (Ev.name (av:=intsL ws) rfl) IterV.lst (by kernel_rfl) (by(clear hp m15 hw hm;lia)) (fun w hw'=>?_)
 obtain⟨w1,w2⟩:=hw w hw'
 refine⟨_,Turn.name (fun _ _=>rfl) rfl (fun own mt=>IfsB.one ?_),fun _ own mt=>Ev.name rfl⟩
 rw[←in_ints,List.map_map]
 refine Ts.cmp (a:=.int ((p%w:Nat):Int)) (b:=.lst (ms.map fun m=>AV.int ((m%w:Nat):Int))) ?_ ?_ (Op2.ninL (PlainD.int (n:=0)).plain (PlainD.lst (n:=0) (fun x hx=>by obtain⟨k,_,rfl⟩:=List.mem_map.mp hx;exact PlainD.int)).plain)
 ·rw[←nat_mod_int]
  exact Ev.bin (Ev.name rfl) (Ev.name rfl) (Op2.mod (by(clear w2 hw' hp m15 hw hws hm;lia)))
 ·refine Ev.compL ms (fun(i:Nat)=>AV.int (i:Int)) _ (Ev.name (av:=intsL ms) rfl) IterV.lst (by kernel_rfl) (by(clear w2 w1 hw' hp m15 hw hws;lia)) (fun m hm'=>?_)
  refine⟨_,Turn.name (fun _ _=>rfl) rfl (fun _ _=>IfsB.nil),fun own mt=>?_⟩
  rw[←nat_mod_int]
  exact Ev.bin (Ev.name rfl) (Ev.name rfl) (Op2.mod (by(clear hm' w2 hw' hp m15 hw hws hm;lia)))
noncomputable def sigG (f:Nat) (ms:List Nat) (a b' c d e:Nat) (b:Addr) (sh:AV) (tot:Nat):Sig:=sigF f ms [a,b',c,d] e b sh tot [(n_figures,.lst (intRow (int2digits e tot))),(n_due,intsL (dueL ms a b' c d))]
theorem t_four {f:Nat} {ms:List Nat} {a b' c d' e:Nat} {b:Addr} {sh:AV} {tot:Nat} (hdl:small (int2digits e tot).length) (hdig:(List.range 15).filter (fourB (int2digits e tot))=dueL ms a b' c d'):Ts g (d+200) (lawSc g.w) (sigG f ms a b' c d' e b sh tot) (ifT ((lawB g.w).drop 19)) false:=by
 obtain⟨D,hD⟩:∃ D,D=int2digits e tot:=⟨_,rfl⟩
 unfold sigG
 rw[←hD] at hdl hdig ⊢
 refine Ts.cmp (a:=intsL (dueL ms a b' c d')) (b:=intsL (dueL ms a b' c d')) ?_ (Ev.name rfl) (Op2.neSelf (plain_ints _))
 rw[←hdig]
 refine Ev.compLIf (List.range 15) (fun(i:Nat)=>AV.int (i:Int)) (fun(i:Nat)=>AV.int (i:Int)) (fourB D) (Ev.call (avs:=[.int ((15:Nat):Int)]) (Ev.bi rfl (by kernel_rfl) rfl) (Keep.ty _) (EvL.cons (Ev.int 15) EvL.nil) Fn.range1) (IterV.range 15 (by(clear hD hdl hdig;lia))) (by kernel_rfl) (by decide) (fun p hp=>?_)
 have hp15:p<15:=List.mem_range.mp hp
 have hsm:small (intRow D).length:=by unfold intRow;rw[List.length_map];exact hdl
 refine⟨_,Turn.name (fun _ _=>rfl) rfl (fun own mt=>IfsB.one ?_),fun _ own mt=>Ev.name rfl⟩
 have hcast:((14-p:Nat):Int)=14-(p:Int):=by(clear hsm hp hD hdl hdig;lia)
 have hlen:=Fn.len (g:=g) (d:=d+200) (ω:=own) hsm
 have hll:(intRow D).length=D.length:=by unfold intRow;rw[List.length_map]
 rw[hll] at hlen
 by_cases hlt:14-p<D.length
 ·have e1:fourB D p=((D[14-p]:Int)==4):=by
   unfold fourB
   rw[decide_eq_true hlt,Bool.true_and,List.getElem?_eq_getElem hlt]
   show(D[14-p]==4)=_
   exact Bool.eq_iff_iff.mpr ⟨fun h=>by have:=beq_iff_eq.mp h;simp;(clear h hll hlen hcast hsm hp15 hp hD hdl hdig;lia),fun h=>by have:=beq_iff_eq.mp h;simp;(clear h hll hlen hcast hsm hp15 hp hD hdl hdig;lia)⟩
  have e2:decide (((14-p:Nat):Int)<(D.length:Int))=true:=decide_eq_true (by(clear e1 hll hlen hcast hsm hp15 hp hD hdl hdig;lia))
  refine Ts.as e1.symm ?_
  refine Ts.and1 ?_ ?_
  ·rw[←e2,hcast]
   exact Ts.cmp (Ev.bin (Ev.int 14) (Ev.name rfl) Op2.sub) (Ev.call (Ev.bi rfl (by kernel_rfl) rfl) (Keep.bi _) (EvL.cons (Ev.name (av:=.lst (intRow D)) rfl) EvL.nil) hlen) Op2.lt
  ·refine Ts.cmp (Ev.item (i:=((14-p:Nat):Int)) (c:=.int (D[14-p]:Nat)) (Ev.name (av:=.lst (intRow D)) rfl) ?_ (by(clear e2 e1 hlt hll hlen hcast hsm hp15 hp hD hdl hdig;lia)) ?_ hsm) (Ev.int 4) Op2.eqi
   ·rw[hcast];exact Ev.bin (Ev.int 14) (Ev.name rfl) Op2.sub
   ·rw[Int.toNat_natCast];unfold intRow;rw[List.getElem?_map,List.getElem?_eq_getElem hlt];rfl
 ·have e1:fourB D p=false:=by unfold fourB;rw[decide_eq_false hlt,Bool.false_and]
  have e2:decide (((14-p:Nat):Int)<(D.length:Int))=false:=decide_eq_false (by(clear e1 hll hlen hcast hsm hp15 hp hD hdl hdig;lia))
  refine Ts.as e1.symm ?_
  refine Ts.and0 ?_
  rw[←e2,hcast]
  exact Ts.cmp (Ev.bin (Ev.int 14) (Ev.name rfl) Op2.sub) (Ev.call (Ev.bi rfl (by kernel_rfl) rfl) (Keep.bi _) (EvL.cons (Ev.name (av:=.lst (intRow D)) rfl) EvL.nil) hlen) Op2.lt
end
end
section
open PySem.Builtin PySem.Builtin.Str
section
variable {g:Glob} {d:Nat} {sc:Scope} {σ:Sig} {A:Around} {env:Env} {Φ Ψ Φ₀ B:PH} {s:Shared} {rest:List Stmt} {Q:Flow→Shared→Prop}
theorem Op2.eqSelf {x:AV} (h:Plain x):Op2 g d (compareOp .Eq) x x (.bool true):=by
 have:=Op2.eq (g:=g) (d:=d) h h
 rwa [h.eqv] at this
theorem order_plain (due:List Nat) (a:Nat) (h:∀ p∈due,p<15):Plain (strL (orderL due a)):=(PlainD.lst (n:=0) (fun x hx=>by
 obtain⟨y,hy,rfl⟩:=List.mem_map.mp hx
 obtain⟨c,_,hy⟩:=List.mem_flatMap.mp hy
 obtain⟨p,hp,rfl⟩:=List.mem_map.mp hy
 exact PlainD.str (Str.letter_ok p (h p (List.mem_filter.mp hp).1)))).plain
theorem pow_cast14 (n:Nat):((14^n:Nat):Int)=(14:Int)^((n:Nat):Int).toNat:=by rw[Int.toNat_natCast];push_cast;rfl
set_option maxHeartbeats 4000000 in
theorem law_loop {f:Nat} {ms:List Nat} {a b' c d' e:Nat} {b:Addr} (r:Room (d+200) A) (ok:LawOk f ms a b' c d' e)
  (tail:Bk g (lawSc g.w) env A Φ₀ B (sigL f ms [a,b',c,d'] e b (shAV (shRun ms [a,b',c,d'])) (totRun e ms [a,b',c,d']) [] []) ((lawB g.w).drop 16) Q) :
  Bk g (lawSc g.w) env A Φ₀ B (sigL f ms [a,b',c,d'] e b .none 0 [] []) ((lawB g.w).drop 15) Q:=by
 refine Bk.forS r (xs:=([a,b',c,d']).map fun(n:Nat)=>AV.int (n:Int)) (fun i=>sigL f ms [a,b',c,d'] e b (shAV (shRun ms ([a,b',c,d'].take i))) (totRun e ms ([a,b',c,d'].take i)) [] []) ⟨rfl,rfl,rfl,rfl,rfl,rfl,rfl,rfl,rfl,rfl,trivial⟩ (EvIt.of (Ev.name (av:=intsL [a,b',c,d']) rfl) IterV.lst) (fun i x B' Φ₁ hx lb lΦ=>?_) ?_
 ·rw[List.getElem?_map,Option.map_eq_some_iff] at hx
  obtain⟨w,hi,rfl⟩:=hx
  have hw:=List.mem_of_getElem? hi
  obtain⟨lines,so⟩:=ok.split w hw
  refine⟨_,Tgt.name rfl,?_⟩
  refine turn_all (lines:=lines) (o:=shRun ms ([a,b',c,d'].take i)) (tot:=totRun e ms ([a,b',c,d'].take i)) r (ok.wr w hw) ok.er so ok.m15 ok.mlen (sh_small ms _ (fun y hy=>ok.wr y (List.mem_of_mem_take hy)) (by rw[List.length_take];exact Nat.min_le_right _ _)) (ok.left w hw) ?_
  refine Bk.nextS _ rfl ⟨?_,?_,rfl,rfl,rfl,rfl,rfl,rfl,rfl,rfl,trivial⟩
  ·exact congrArg (fun t=>some (shAV t)) (shRun_succ ms _ i w hi).symm
  ·exact congrArg (fun t:Nat=>some (AV.int (t:Int))) (totRun_succ e ms _ i w hi).symm
 ·exact tail
theorem flat_if {α:Type} (p:Nat→Bool) (h:Nat→α) (n:Nat):(List.range n).flatMap (fun j=>if p j=true then [h j] else [])=((List.range n).filter p).map h:=by
 induction (List.range n) with
 | nil=>rfl
 | cons x r ih=>
  rw[List.flatMap_cons,ih,List.filter_cons]
  split
  ·rfl
  ·rfl
set_option maxHeartbeats 4000000 in
theorem law_end {f:Nat} {ms:List Nat} {a b' c d' e:Nat} {b:Addr} {Φ₁ B':PH} (lb:PH.le B B') (lΦ:PH.le Φ₀ Φ₁) (r:Room (d+200) A) (ok:LawOk f ms a b' c d' e) :
  Bk g (lawSc g.w) env A Φ₁ B' (sigL f ms [a,b',c,d'] e b (shAV (shRun ms [a,b',c,d'])) (totRun e ms [a,b',c,d']) [] []) ((lawB g.w).drop 16) (FQ g (lawSc g.w) env Φ₀ B [] (fun r _=>r=.bool true)):=by
 obtain⟨T,hT⟩:∃ T,T=totRun e ms [a,b',c,d']:=⟨_,rfl⟩
 have hTl:=tot_lt e ms a b' c d' ok.er ok.wr
 have hdig:=ok.dig
 rw[←hT] at hTl hdig ⊢
 have hml:=ok.mlen
 have her:=ok.er
 have hwa:=ok.wr a mA
 have hwb:=ok.wr b' mB
 have hwc:=ok.wr c mC
 have hwd:=ok.wr d' mD
 rw[ok.ord]
 obtain⟨sh,hsh⟩:∃ sh,sh=shAV (some (orderL (dueL ms a b' c d') a,[a,b',c,d'])):=⟨_,rfl⟩
 rw[←hsh]
 refine Bk.assign r (Ev.name (av:=intsL ms) rfl) rfl ?_
 have hs4:small ([a,b',c,d'].map fun(n:Nat)=>AV.int (n:Int)).length:=by simp -iota [small]
 have hsM:small (ms.map fun(n:Nat)=>AV.int (n:Int)).length:=by unfold small;rw[List.length_map];(clear hs4 hsh hwd hwc hwb hwa her hdig hTl hT ok r lΦ lb;lia)
 have i64:∀ n:Nat,n≤16→Builtin.Int.intBits (n:Int)≤64:=fun n h=>bits_le (Nat.lt_of_le_of_lt h (by decide))
 refine Bk.iteJ (b:=decide (((a:Int)*b'*c*d')≤(14:Int)^((ms.length:Nat):Int).toNat)) r (Ts.cmp (Ev.bin (Ev.bin (Ev.bin (Ev.item (i:=((0:Nat):Int)) (Ev.name (av:=intsL [a,b',c,d']) rfl) (Ev.int 0) (by(clear i64 hsM hs4 hsh hwd hwc hwb hwa her hml hdig hTl hT ok r lΦ lb;lia)) (item_int _ 0 a rfl) hs4) (Ev.item (i:=((1:Nat):Int)) (Ev.name (av:=intsL [a,b',c,d']) rfl) (Ev.int 1) (by(clear i64 hsM hs4 hsh hwd hwc hwb hwa her hml hdig hTl hT ok r lΦ lb;lia)) (item_int _ 1 b' rfl) hs4) (Op2.mul (IntMulOk.of_right (i64 _ hwb.2)))) (Ev.item (i:=((2:Nat):Int)) (Ev.name (av:=intsL [a,b',c,d']) rfl) (Ev.int 2) (by(clear i64 hsM hs4 hsh hwd hwc hwb hwa her hml hdig hTl hT ok r lΦ lb;lia)) (item_int _ 2 c rfl) hs4) (Op2.mul (IntMulOk.of_right (i64 _ hwc.2)))) (Ev.item (i:=((3:Nat):Int)) (Ev.name (av:=intsL [a,b',c,d']) rfl) (Ev.int 3) (by(clear i64 hsM hs4 hsh hwd hwc hwb hwa her hml hdig hTl hT ok r lΦ lb;lia)) (item_int _ 3 d' rfl) hs4) (Op2.mul (IntMulOk.of_right (i64 _ hwd.2))))
   (Ev.bin (b:=.int (ms.length:Int)) (Ev.int 14) (Ev.call (Ev.bi rfl (by kernel_rfl) rfl) (Keep.bi _) (EvL.cons (Ev.name (av:=intsL ms) rfl) EvL.nil) ?_) (Op2.pow (by(clear i64 hsM hs4 hsh hwd hwc hwb hwa her hml hdig hTl hT ok r lΦ lb;lia)) ?_)) Op2.le)
  (sigF f ms [a,b',c,d'] e b sh T [(n_due,intsL (dueL ms a b' c d'))]) (fun hb=>?_) (fun hb=>?_) ?_
 ·have:=Fn.len (g:=g) (d:=d+200) (ω:=[]) hsM
  rw[List.length_map] at this
  exact this
 ·have:Builtin.Int.intBits 14=4:=by decide
  rw[this];(clear this i64 hsM hs4 hsh hwd hwc hwb hwa her hdig hTl hT ok r lΦ lb;lia)
 ·have hle:a*b'*c*d'≤14^ms.length:=by
   have:=of_decide_eq_true hb
   rw[←pow_cast14] at this
   exact_mod_cast this
  have hdu:dueL ms a b' c d'=(List.range 15).filter (dueB ms [a,b',c,d']):=if_pos hle
  refine Bk.assignC (av:=intsL ((List.range 15).filter (dueB ms [a,b',c,d']))) r (ev_due (f:=f) (e:=e) (b:=b) (sh:=sh) (tot:=T) hml (by simp) ok.wr ok.m15) rfl ?_ (fun env h=>by cases env;cases h;rfl)
  refine Bk.join _ ⟨?_,rfl,rfl,rfl,rfl,rfl,rfl,rfl,rfl,rfl,rfl,trivial⟩
  exact congrArg (fun t=>some (intsL t)) hdu.symm
 ·have hnle:¬ a*b'*c*d'≤14^ms.length:=by
   have:=of_decide_eq_false hb
   rw[←pow_cast14] at this
   exact_mod_cast this
  have hdu:dueL ms a b' c d'=ms:=if_neg hnle
  refine Bk.join _ ⟨?_,rfl,rfl,rfl,rfl,rfl,rfl,rfl,rfl,rfl,rfl,trivial⟩
  exact congrArg (fun t=>some (intsL t)) hdu.symm
 have hK:(Builtin.Int.intBits (T:Int)+e-1)/e≤100:=by
  have:=bits_le hTl
  refine Nat.div_le_of_le_mul ?_
  have:3*100≤e*100:=Nat.mul_le_mul_right _ her.1
  (clear i64 hsM hs4 hsh hwd hwc hwb hwa her hml hdig hTl hT ok r lΦ lb;lia)
 refine Bk.assign (av:=.lst (intRow (int2digits e T))) r (Ev.call (avs:=[.int (T:Int),.int (e:Int)]) (Ev.glob (av:=.raw (.ref 138)) rfl (by kernel_rfl) (fun _=>rep_raw)) (Keep.k (by kernel_rfl)) (EvL.cons (Ev.name rfl) (EvL.cons (Ev.name rfl) EvL.nil)) (fn_int2digits (d:=d+96) e T (by(clear hK i64 hsM hs4 hsh hwd hwc hwb hwa hml hdig hTl hT ok r lΦ lb;lia)) (by(clear hK i64 hsM hs4 hsh hwd hwc hwb hwa hml hdig hTl hT ok r lΦ lb;lia)) (Nat.lt_of_lt_of_le hTl (Nat.pow_le_pow_right (by(clear hK i64 hsM hs4 hsh hwd hwc hwb hwa her hml hdig hTl hT ok r lΦ lb;lia)) (by(clear hK i64 hsM hs4 hsh hwd hwc hwb hwa her hml hdig hTl hT ok r lΦ lb;lia)))) hK)) rfl ?_
 have hdl:small (int2digits e T).length:=by
  unfold int2digits small
  split
  ·simp
  ·rename_i h0
   rw[digs_length _ _ _ (Nat.div_pos (by have:=bits_pos h0;(clear h0 hK i64 hsM hs4 hsh hwd hwc hwb hwa her hml hdig hTl hT ok r lΦ lb;lia)) (by(clear h0 hK i64 hsM hs4 hsh hwd hwc hwb hwa hml hdig hTl hT ok r lΦ lb;lia)))];(clear h0 i64 hsM hs4 hsh hwd hwc hwb hwa her hml hdig hTl hT ok r lΦ lb;lia)
 refine Bk.ite r (t_four hdl hdig) (fun h=>nomatch h) (fun _=>Bk.go ?_)
 obtain⟨du,hdu⟩:∃ du,du=dueL ms a b' c d':=⟨_,rfl⟩
 have hdlen:=due_len ms a b' c d' hml
 have hdlt:=due_lt ms a b' c d' ok.m15
 unfold sigF
 rw[←hdu] at hdlen hdlt hsh ⊢
 have hol:=order_len du a hdlen hwa.2
 have hrl:((List.range a).map (fun(i:Nat)=>AV.int (i:Int))).length=a:=by rw[List.length_map,List.length_range]
 obtain⟨F,hF⟩:∃ F:Nat→List AV,F=fun k=>(du.filter fun p=>p%a==k).map (fun p=>AV.str (letterS p)):=⟨_,rfl⟩
 have e0:AV.lst ((List.range ((List.range a).map (fun(i:Nat)=>AV.int (i:Int))).length).flatMap F)=strL (orderL du a):=by
  unfold strL orderL
  rw[hrl,List.map_flatMap,hF]
  congr 1
  refine congrArg (fun f=>(List.range a).flatMap f) (funext fun k=>?_)
  rw[List.map_map];rfl
 have hl:((List.range ((List.range a).map (fun(i:Nat)=>AV.int (i:Int))).length).flatMap F).length≤10000:=by
  have e1:=congrArg (fun x:AV=>match x with | .lst l=>l.length | _=>0) e0
  unfold strL at e1
  dsimp only at e1
  have hlm:((orderL du a).map AV.str).length=(orderL du a).length:=List.length_map _
  rw[hlm] at e1
  (clear hlm e0 hF hrl hdlt hdlen hdu hsh hdl hK i64 hsM hs4 hwd hwc hwb hwa her hml hdig hTl hT ok r lΦ lb;lia)
 have hm15:∀ (p:Nat),p<15→((p:Nat):Int).fmod (a:Int)=((p%a:Nat):Int):=fun p _=>nat_mod_int p a
 refine Bk.assignComp (xs:=(List.range a).map (fun(i:Nat)=>AV.int (i:Int))) (ys:=(List.range ((List.range a).map (fun(i:Nat)=>AV.int (i:Int))).length).flatMap F) r (fun env h=>by cases env;cases h;rfl) rfl (Ev.call (avs:=[.int (a:Int)]) (Ev.bi rfl (by kernel_rfl) rfl) (Keep.ty _) (EvL.cons (Ev.item (i:=((0:Nat):Int)) (Ev.name (av:=intsL [a,b',c,d']) rfl) (Ev.int 0) (by(clear hm15 hl e0 hF hrl hol hdlt hdlen hdu hsh hdl hK i64 hsM hs4 hwd hwc hwb hwa her hml hdig hTl hT ok r lΦ lb;lia)) (item_int _ 0 a rfl) hs4) EvL.nil) Fn.range1) (IterV.range a (by(clear hm15 hl e0 hF hrl hol hdlt hdlen hdu hsh hdl hK i64 hsM hs4 hwd hwc hwb her hml hdig hTl hT ok r lΦ lb;lia))) (by kernel_rfl)
  (fun A cenv Φ s I o St fp B₀ D r=>comp2_body r F hl (fun i x hx=>?_) (by intro _ _;rfl) cenv Φ s I o St fp B₀ D) ?_
 ·rw[List.getElem?_map,Option.map_eq_some_iff] at hx
  obtain⟨i',hi',rfl⟩:=hx
  obtain⟨hlt,hie⟩:i<a∧i'=i:=by
   rw[List.getElem?_eq_some_iff] at hi'
   refine box fun bX bk=>?_
   obtain⟨h1,h2⟩:=hi'
   refine bk ?_
   clear bk bX
   simp -iota at h1 h2
   exact⟨h1,h2.symm⟩
  subst hie
  refine⟨_,true,Turn.name (fun _ _=>rfl) rfl (fun _ _=>IfsB.nil),(fun h=>nomatch h),fun _=>?_⟩
  refine⟨intsL du,_,fun j=>if ((du[j]?.map fun p=>p%a==i').getD false)=true then [((du[j]?.map fun p=>AV.str (letterS p)).getD .none)] else [],fun own mt=>Ev.name rfl,IterV.lst,?_,fun j y hy=>?_⟩
  ·rw[List.length_map,hF,flat_if]
   exact(range_filter_get du (fun p=>p%a==i') (fun p=>AV.str (letterS p)) .none).symm
  ·rw[List.getElem?_map,Option.map_eq_some_iff] at hy
   obtain⟨p,hp,rfl⟩:=hy
   have hp15:p<15:=hdlt p (List.mem_of_getElem? hp)
   refine⟨_,(p%a==i'),.str (letterS p),Turn.name (fun _ _=>rfl) rfl (fun own mt=>IfsB.one ?_),fun hb=>⟨fun own mt=>?_,?_⟩,fun hb=>?_⟩
   ·have e1:(p%a==i')=(((p%a:Nat):Int)==(i':Int)):=Bool.eq_iff_iff.mpr ⟨fun h=>by have:=beq_iff_eq.mp h;simp;(clear h hp15 hp hlt hi' hm15 hl e0 hF hrl hol hdlt hdlen hdu hsh hdl hK i64 hsM hs4 hwd hwc hwb hwa her hml hdig hTl hT ok lΦ lb;lia),fun h=>by have:=beq_iff_eq.mp h;simp;(clear h hp15 hp hlt hi' hm15 hl e0 hF hrl hol hdlt hdlen hdu hsh hdl hK i64 hsM hs4 hwd hwc hwb hwa her hml hdig hTl hT ok lΦ lb;lia)⟩
    refine Ts.as e1.symm ?_
    refine Ts.cmp ?_ (Ev.name rfl) Op2.eqi
    rw[←nat_mod_int]
    exact Ev.bin (Ev.name rfl) (Ev.item (i:=((0:Nat):Int)) (Ev.name (av:=intsL [a,b',c,d']) rfl) (Ev.int 0) (by(clear e1 hp15 hp hlt hi' hm15 hl e0 hF hrl hol hdlt hdlen hdu hsh hdl hK i64 hsM hs4 hwd hwc hwb hwa her hml hdig hTl hT ok lΦ lb;lia)) (item_int _ 0 a rfl) hs4) (Op2.mod (by(clear e1 hp15 hp hlt hi' hm15 hl e0 hF hrl hol hdlt hdlen hdu hsh hdl hK i64 hsM hs4 hwd hwc hwb her hml hdig hTl hT ok lΦ lb;lia)))
   ·exact Ev.itemS (x:=lettersS) (Ev.name rfl) (Ev.name (av:=.int (p:Int)) rfl) (by(clear hb hp15 hp hlt hi' hm15 hl e0 hF hrl hol hdlt hdlen hdu hsh hdl hK i64 hsM hs4 hwd hwc hwb hwa her hml hdig hTl hT ok lΦ lb;lia)) (letters_at p hp15) (by show 15≤1000000;(clear hb hp15 hp hlt hi' hm15 hl e0 hF hrl hol hdlt hdlen hdu hsh hdl hK i64 hsM hs4 hwd hwc hwb hwa her hml hdig hTl hT ok lΦ lb;lia))
   ·dsimp only
    rw[hp]
    exact if_pos hb
   ·dsimp only
    rw[hp]
    exact if_neg (by show ¬ (p%a==i')=true;rw[hb];decide)
 rw[e0]
 subst hsh
 have hop:=order_plain du a hdlt
 refine Bk.retQ (av:=.bool true) r ?_ rfl lb lΦ
 exact Ev.and1 (Ev.cmp (Ev.attr (C:=351) (fs:=entryFs (strL (orderL du a)) (intsL [a,b',c,d'])) (av:=strL (orderL du a)) (Ev.name rfl) (by kernel_rfl) rfl rfl) (Ev.name (av:=strL (orderL du a)) rfl) (Op2.eqSelf hop)) Tr.bool (Ev.cmp (Ev.attr (C:=351) (fs:=entryFs (strL (orderL du a)) (intsL [a,b',c,d'])) (av:=intsL [a,b',c,d']) (Ev.name rfl) (by kernel_rfl) rfl rfl) (Ev.name (av:=intsL [a,b',c,d']) rfl) (Op2.eqSelf (plain_ints _)))
end
end
section
open PySem.Builtin PySem.Builtin.Str
section
noncomputable def hor (B:Nat) (l:List Nat):Nat:=l.foldl (fun n x=>B*n+x) 0
theorem hor_snoc (B:Nat) (l:List Nat) (x:Nat):hor B (l++[x])=B*hor B l+x:=by unfold hor;rw[List.foldl_append];rfl
theorem hor_app (B:Nat) (a b:List Nat):hor B (a++b)=hor B a*B^b.length+hor B b:=by
 have key:∀ b:List Nat,hor B (a++b.reverse)=hor B a*B^b.length+hor B b.reverse:=by
  intro b
  induction b with
  | nil=>simp[hor]
  | cons x r ih=>
   rw[List.reverse_cons,←List.append_assoc,hor_snoc,ih,hor_snoc,List.length_cons,Nat.pow_succ,Nat.mul_add,←Nat.add_assoc]
   congr 2
   rw[←Nat.mul_assoc,Nat.mul_comm B,Nat.mul_assoc,Nat.mul_comm B]
 have:=key b.reverse
 rw[List.reverse_reverse,List.length_reverse] at this
 exact this
theorem hor_cons (B x:Nat) (l:List Nat):hor B (x::l)=x*B^l.length+hor B l:=by
 have:=hor_app B [x] l
 rw[show hor B [x]=x by unfold hor;simp] at this
 exact this
theorem valR_hor (n:Nat) (l:List Nat):valR n l.reverse=hor (2^n) l:=by
 have key:∀ l:List Nat,valR n l=hor (2^n) l.reverse:=by
  intro l
  induction l with
  | nil=>rfl
  | cons x r ih=>rw[valR_c,List.reverse_cons,hor_snoc,ih];lia
 have:=key l.reverse
 rwa [List.reverse_reverse] at this
theorem num_hor (B:Nat) (l:List Nat):num (B:Int) (l.map fun(n:Nat)=>(n:Int))=((hor B l:Nat):Int):=by
 have key:∀ (l:List Nat) (n:Nat),(l.map fun(n:Nat)=>(n:Int)).foldl (fun n x=>(B:Int)*n+x) (n:Int)=((l.foldl (fun n x=>B*n+x) n:Nat):Int):=by
  intro l
  induction l with
  | nil=>intro n;rfl
  | cons x r ih=>
   intro n
   rw[List.map_cons,List.foldl_cons,List.foldl_cons,←ih]
   congr 1
 exact key l 0
theorem hor_small (B:Nat) (hB:8≤B):∀ l:List Nat,(∀ x∈l,x≤1)→hor B l*7+1≤B^l.length
 | [],_=>by simp[hor]
 | x::r,h=>by
  have ih:=hor_small B hB r fun y hy=>h y (List.mem_cons_of_mem _ hy)
  have hx:=h x List.mem_cons_self
  rw[hor_cons,List.length_cons,Nat.pow_succ]
  have h1:x*B^r.length≤1*B^r.length:=Nat.mul_le_mul_right _ hx
  have h2:B^r.length*8≤B^r.length*B:=Nat.mul_le_mul_left _ hB
  (clear hx h hB;lia)
noncomputable def rotC (c:Nat→Nat) (w i:Nat):List Nat:=(List.range w).map fun k=>c ((i+k)%w)
theorem rotC_step (B:Nat) (c:Nat→Nat) (v i:Nat):B*hor B (rotC c (v+1) i)=c (i%(v+1))*(B^(v+1)-1)+hor B (rotC c (v+1) (i+1))∨B=0:=by
 by_cases hB:B=0
 ·exact .inr hB
 refine .inl ?_
 obtain⟨M,hM⟩:∃ M,M=(List.range v).map fun k=>c ((i+1+k)%(v+1)):=⟨_,rfl⟩
 have e1:rotC c (v+1) i=c (i%(v+1))::M:=by
  unfold rotC
  rw[List.range_succ_eq_map,List.map_cons,List.map_map,hM]
  congr 1
  refine List.map_congr_left fun k _=>?_
  show c ((i+(k+1))%(v+1))=_
  rw[show i+(k+1)=i+1+k by(clear hM hB;lia)]
 have e2:rotC c (v+1) (i+1)=M++[c (i%(v+1))]:=by
  unfold rotC
  rw[List.range_succ,List.map_append,hM,List.map_singleton,show i+1+v=i+(v+1) by(clear e1 hM hB;lia),Nat.add_mod_right]
 have hl:M.length=v:=by rw[hM];simp
 rw[e1,e2,hor_cons,hor_snoc,hl]
 have hp:1≤B^(v+1):=Nat.pow_pos (by(clear hl e2 e1 hM;lia))
 obtain⟨x,hx⟩:∃ x,x=c (i%(v+1)):=⟨_,rfl⟩
 rw[←hx,Nat.mul_add,Nat.mul_sub,Nat.mul_one,Nat.pow_succ,Nat.mul_left_comm,Nat.mul_comm B]
 have:x≤x*(B^v*B):=Nat.le_mul_of_pos_right _ (by rw[←Nat.pow_succ];exact hp)
 (clear hx hp hl e2 e1 hM hB;lia)
noncomputable def sumS (B:Nat) (c:Nat→Nat) (w i:Nat):Nat:=hor B ((List.range i).map fun p=>c (p%w))
theorem rot_all (B:Nat) (hB:0<B) (c:Nat→Nat) (v:Nat):∀ i,hor B (rotC c (v+1) 0)*B^i=(B^(v+1)-1)*sumS B c (v+1) i+hor B (rotC c (v+1) i)
 | 0=>by simp[sumS,hor]
 | i+1=>by
  have ih:=rot_all B hB c v i
  have st:=(rotC_step B c v i).resolve_right (by(clear ih;lia))
  have e:sumS B c (v+1) (i+1)=B*sumS B c (v+1) i+c (i%(v+1)):=by
   unfold sumS;rw[List.range_succ,List.map_append,List.map_singleton,hor_snoc]
  rw[Nat.pow_succ,←Nat.mul_assoc,ih,e,Nat.add_mul,Nat.mul_comm (hor B (rotC c (v+1) i)),st,Nat.mul_add,←Nat.add_assoc]
  congr 1
  rw[Nat.mul_comm (c (i%(v+1)))]
  congr 1
  rw[Nat.mul_assoc,Nat.mul_comm _ B]
noncomputable def ansN (ms:List Nat) (w k:Nat):Nat:=if ansB ms w k then 1 else 0
theorem figs_rot (ms:List Nat) (w:Nat):figsL ms w=rotC (ansN ms w) w 0:=by
 unfold figsL rotC
 refine List.map_congr_left fun k hk=>?_
 rw[Nat.zero_add,Nat.mod_eq_of_lt (List.mem_range.mp hk)]
 rfl
theorem turn_range:∀ w,w<17→2≤w→(List.range w).drop (15%w)++(List.range w).take (15%w)=(List.range w).map fun k=>(15+k)%w:=by decide +kernel
theorem rotL_rot (ms:List Nat) (w:Nat) (hw:2≤w∧w≤16):rotL ms w=rotC (ansN ms w) w 15:=by
 unfold rotL rotC figsL
 rw[←List.map_drop,←List.map_take,←List.map_append,turn_range w (by lia) hw.1,List.map_map]
 rfl
theorem rotC_le (ms:List Nat) (w i:Nat):∀ x∈rotC (ansN ms w) w i,x≤1:=by
 intro x hx
 obtain⟨k,_,rfl⟩:=List.mem_map.mp hx
 unfold ansN
 split<;>omega
theorem div_parts (e:Nat) (ms:List Nat) (w:Nat) (he:3≤e∧e≤8) (hw:2≤w∧w≤16):aN e ms w=bN e w*sumS (2^e) (ansN ms w) w 15+hor (2^e) (rotL ms w)∧hor (2^e) (rotL ms w)<bN e w:=by
 have hB:2^3≤2^e:=Nat.pow_le_pow_right (by(clear hw he;omega)) he.1
 obtain⟨v,rfl⟩:∃ v,w=v+1:=⟨w-1,by(clear hB he;omega)⟩
 refine⟨?_,?_⟩
 ·unfold aN bN
  rw[valR_hor,figs_rot,rotL_rot ms _ hw]
  exact rot_all (2^e) (by(clear hw he;omega)) (ansN ms (v+1)) v 15
 ·rw[rotL_rot ms _ hw]
  have h:=hor_small (2^e) (by(clear hw he;omega)) (rotC (ansN ms (v+1)) (v+1) 15) (rotC_le ms _ _)
  have hl:(rotC (ansN ms (v+1)) (v+1) 15).length=v+1:=by unfold rotC;simp
  have hb:=(bN_facts e (v+1) he hw).1
  rw[hl] at h
  unfold bN at hb ⊢
  (clear hl hw hB he;omega)
theorem left_eq (e:Nat) (ms:List Nat) (w:Nat) (he:3≤e∧e≤8) (hw:2≤w∧w≤16):((aN e ms w%bN e w:Nat):Int)=num ((2^e:Nat):Int) ((rotL ms w).map fun(n:Nat)=>(n:Int)):=by
 obtain⟨h1,h2⟩:=div_parts e ms w he hw
 rw[num_hor,h1,Nat.mul_add_mod,Nat.mod_eq_of_lt h2]
theorem said_eq (e:Nat) (ms:List Nat) (w:Nat) (he:3≤e∧e≤8) (hw:2≤w∧w≤16):aN e ms w/bN e w=sumS (2^e) (ansN ms w) w 15:=by
 obtain⟨h1,h2⟩:=div_parts e ms w he hw
 rw[h1,Nat.mul_add_div (by(clear h1 hw he;lia)),Nat.div_eq_of_lt h2,Nat.add_zero]
theorem hor_add (B:Nat) (f g:Nat→Nat):∀ n,hor B ((List.range n).map f)+hor B ((List.range n).map g)=hor B ((List.range n).map fun p=>f p+g p)
 | 0=>rfl
 | n+1=>by
  rw[List.range_succ,List.map_append,List.map_append,List.map_append,List.map_singleton,List.map_singleton,List.map_singleton,hor_snoc,hor_snoc,hor_snoc,←hor_add B f g n,Nat.mul_add]
  lia
noncomputable def fourC (ms:List Nat) (a b c d p:Nat):Nat:=ansN ms a (p%a)+ansN ms b (p%b)+ansN ms c (p%c)+ansN ms d (p%d)
theorem tot_eq (e:Nat) (ms:List Nat) (a b c d:Nat) (he:3≤e∧e≤8) (hw:∀ w∈[a,b,c,d],2≤w∧w≤16):totRun e ms [a,b,c,d]=hor (2^e) ((List.range 15).map (fourC ms a b c d)):=by
 unfold totRun
 simp only[List.map_cons,List.map_nil,List.sum_cons,List.sum_nil,Nat.add_zero]
 rw[said_eq e ms a he (hw a (by simp)),said_eq e ms b he (hw b (by simp)),said_eq e ms c he (hw c (by simp)),said_eq e ms d he (hw d (by simp))]
 unfold sumS
 rw[←Nat.add_assoc,←Nat.add_assoc,hor_add,hor_add,hor_add]
 rfl
theorem digit_at (n:Nat):∀ (xs:List Nat) (i:Nat),(∀ x∈xs,x<2^n)→xs[i]?.getD 0=valR n xs/(2^n)^i%2^n
 | [],i,_=>by simp[valR]
 | x::xs,0,h=>by
  have:=h x List.mem_cons_self
  rw[valR_c,Nat.pow_zero,Nat.div_one,Nat.add_mul_mod_self_left,Nat.mod_eq_of_lt this]
  rfl
 | x::xs,i+1,h=>by
  have hx:=h x List.mem_cons_self
  have ih:=digit_at n xs i fun y hy=>h y (List.mem_cons_of_mem _ hy)
  have hp:0<2^n:=Nat.pow_pos (by lia)
  rw[valR_c,Nat.pow_succ,Nat.mul_comm ((2^n)^i),←Nat.div_div_eq_div_mul,Nat.add_mul_div_left _ _ hp,Nat.div_eq_of_lt hx,Nat.zero_add,←ih]
  rfl
theorem digs_lt (n:Nat):∀ (k x:Nat),1≤k→x<2^(k*n)→∀ y∈digs n k x,y<2^n:=by
 intro k
 induction k using Nat.strongRecOn with
 | _ k ih=>
  intro x hk hx y hy
  by_cases h:k≤1
  ·rw[digs_one n k x h,List.mem_singleton] at hy
   have:k=1:=by lia
   rw[this,Nat.one_mul] at hx
   rw[hy];exact hx
  ·rw[digs_more n k x h] at hy
   rcases List.mem_append.mp hy with hy | hy
   ·exact ih (k/2) (by lia) _ (by lia) (Nat.mod_lt _ (Nat.pow_pos (by lia))) y hy
   ·refine ih (k-k/2) (by lia) _ (by lia) ?_ y hy
    refine Nat.div_lt_of_lt_mul ?_
    rw[←Nat.pow_add,←Nat.add_mul,show k/2+(k-k/2)=k by lia]
    exact hx
theorem int2digits_lt (n x:Nat) (hn:1≤n):∀ y∈int2digits n x,y<2^n:=by
 intro y hy
 unfold int2digits at hy
 split at hy
 ·simp at hy
 ·rename_i h0
  have hb:=bits_pos h0
  refine digs_lt n _ x (Nat.div_pos (by(clear hy h0 hn;omega)) (by(clear hb hy h0;omega))) ?_ y hy
  have h1:Builtin.Int.intBits (x:Int)≤(Builtin.Int.intBits (x:Int)+n-1)/n*n:=by
   have:=Nat.div_add_mod (Builtin.Int.intBits (x:Int)+n-1) n
   have h2:=Nat.mod_lt (Builtin.Int.intBits (x:Int)+n-1) (show 0<n by(clear this hb hy h0;omega))
   rw[Nat.mul_comm] at this
   (clear hb hy h0 hn;omega)
  have h2:=intBits_le_iff.mp h1
  simpa using h2
theorem fourC_le (ms:List Nat) (a b c d p:Nat):fourC ms a b c d p≤4:=by
 have:∀ w k,ansN ms w k≤1:=fun w k=>by unfold ansN;split<;>lia
 have h1:=this a (p%a)
 have h2:=this b (p%b)
 have h3:=this c (p%c)
 have h4:=this d (p%d)
 unfold fourC
 lia
theorem four_digit (e:Nat) (ms:List Nat) (a b c d:Nat) (he:3≤e∧e≤8) (hw:∀ w∈[a,b,c,d],2≤w∧w≤16) (p:Nat) (hp:p<15):fourB (int2digits e (totRun e ms [a,b,c,d])) p=(fourC ms a b c d p==4):=by
 obtain⟨D,hD⟩:∃ D,D=int2digits e (totRun e ms [a,b,c,d]):=⟨_,rfl⟩
 have hv:valR e D=hor (2^e) ((List.range 15).map (fourC ms a b c d)):=by rw[hD,int2digits_val,tot_eq e ms a b c d he hw]
 have h8:2^3≤2^e:=Nat.pow_le_pow_right (by(clear hv hD hp hw he;omega)) he.1
 have h1:=digit_at e D (14-p) (by rw[hD];exact int2digits_lt e _ (by(clear h8 hv hD hp hw;omega)))
 have h2:=digit_at e ((List.range 15).map (fourC ms a b c d)).reverse (14-p) (fun x hx=>by
  obtain⟨q,_,rfl⟩:=List.mem_map.mp (List.mem_reverse.mp hx)
  have:=fourC_le ms a b c d q
  (clear hx h1 hv hD hp hw he;omega))
 rw[hv,←valR_hor,←h2] at h1
 have h3:(((List.range 15).map (fourC ms a b c d)).reverse)[14-p]?=some (fourC ms a b c d p):=by
  rw[List.getElem?_reverse (by simp;(clear h2 h1 h8 hv hD hp hw he;omega))]
  simp only[List.length_map,List.length_range]
  rw[show 15-1-(14-p)=p by(clear h2 h1 h8 hv hD hw he;omega),List.getElem?_map,List.getElem?_range hp]
  rfl
 rw[h3] at h1
 rw[←hD]
 unfold fourB
 rw[h1]
 by_cases hlt:14-p<D.length
 ·rw[decide_eq_true hlt,Bool.true_and];rfl
 ·rw[decide_eq_false hlt,Bool.false_and]
  rw[List.getElem?_eq_none (by(clear h3 h2 h1 h8 hv hD hp hw he;omega))] at h1
  have:fourC ms a b c d p=0:=by simpa using h1.symm
  rw[this];rfl
theorem ans_due (ms:List Nat) (w p:Nat):ansB ms w (p%w)=(ms.map (·%w)).contains (p%w):=by
 unfold ansB
 induction ms with
 | nil=>rfl
 | cons m r ih=>
  rw[List.any_cons,List.map_cons,List.contains_cons,ih]
  congr 1
  exact Bool.eq_iff_iff.mpr ⟨fun h=>by have:=beq_iff_eq.mp h;simp[this],fun h=>by have:=beq_iff_eq.mp h;simp[this]⟩
theorem four_due (ms:List Nat) (a b c d p:Nat):(fourC ms a b c d p==4)=dueB ms [a,b,c,d] p:=by
 unfold fourC dueB ansN
 simp only[List.all_cons,List.all_nil,Bool.and_true]
 rw[←ans_due,←ans_due,←ans_due,←ans_due]
 cases ansB ms a (p%a)<;>cases ansB ms b (p%b)<;>cases ansB ms c (p%c)<;>cases ansB ms d (p%d)<;>rfl
theorem dig_filter (e:Nat) (ms:List Nat) (a b c d:Nat) (he:3≤e∧e≤8) (hw:∀ w∈[a,b,c,d],2≤w∧w≤16):(List.range 15).filter (fourB (int2digits e (totRun e ms [a,b,c,d])))=(List.range 15).filter (dueB ms [a,b,c,d]):=
 List.filter_congr fun p hp=>by rw[four_digit e ms a b c d he hw p (List.mem_range.mp hp),four_due]
end
end
section
open PySem.Builtin PySem.Builtin.Str
section
noncomputable def splitL (w:Int):Nat→Str→Option (List Str)
 | 0,_=>Option.none
 | k+1,x=>if x.length≤10000 then
   if (decide ((x.length:Int)≤w)||decide ((x.length:Int)-Txt.count x ⟨#[0]⟩*3≤w))=true then some [x]
   else match scanO w x.cps.toList 0 ⟨#[]⟩ 0 with
    | Option.none=>Option.none
    | some (i,mk)=>(splitL w k (lineTwo x i mk)).map (lineOne x i mk::·)
  else Option.none
theorem splitL_s {w:Int} {k:Nat} {x:Str} (h:x.length≤10000):splitL w (k+1) x=if (decide ((x.length:Int)≤w)||decide ((x.length:Int)-Txt.count x ⟨#[0]⟩*3≤w))=true then some [x] else match scanO w x.cps.toList 0 ⟨#[]⟩ 0 with
 | Option.none=>Option.none
 | some (i,mk)=>(splitL w k (lineTwo x i mk)).map (lineOne x i mk::·):=if_pos h
noncomputable def numG (num:AV):List Str→List (AV × Str)
 | []=>[]
 | x::r=>(num,x)::r.map fun y=>(.str ⟨#[62]⟩,y)
theorem numG_gt (ls:List Str):numG (.str ⟨#[62]⟩) ls=ls.map fun y=>(AV.str ⟨#[62]⟩,y):=by cases ls<;>rfl
theorem splitF_of (w:Int):∀ (k:Nat) (num:AV) (x:Str) (ls:List Str),splitL w k x=some ls→splitF w k num true x=some (numG num ls)
 | 0,num,x,ls,h=>by cases h
 | k+1,num,x,ls,h=>by
  change ite _ _ _=_ at h
  show ite _ _ _=_
  split at h
  ·rename_i h1
   rw[if_pos h1,if_neg (by decide)]
   split at h
   ·rename_i h2
    cases h
    rw[if_pos h2];rfl
   ·rename_i h2
    rw[if_neg h2]
    split at h
    ·cases h
    ·rename_i i mk h3
     try rw[h3]
     rw[Option.map_eq_some_iff] at h
     obtain⟨r,hr,rfl⟩:=h
     try dsimp only
     rw[splitF_of w k _ _ r hr,numG_gt]
     rfl
  ·cases h
noncomputable def cellPS (st:Str × List (Str × Str)) (c:Nat):Str × List (Str × Str):=
 if (⟨#[c]⟩:Str)==⟨#[0]⟩||st.1==⟨#[0]⟩ then(⟨#[c]⟩,st.2)
 else if (⟨#[c]⟩:Str)==⟨#[1]⟩ then(⟨#[]⟩,st.2)
 else(st.1,st.2++[(⟨#[c]⟩,st.1)])
noncomputable def cellP (cs:List Nat):Str × List (Str × Str):=cs.foldl cellPS (⟨#[]⟩,[])
theorem cellP_eq (cs:List Nat):cellRun cs=((cellP cs).1,(cellP cs).2.map prAV):=by
 have key:∀ (cs:List Nat) (st:Str × List (Str × Str)),cs.foldl cellStep (st.1,st.2.map prAV)=((cs.foldl cellPS st).1,(cs.foldl cellPS st).2.map prAV):=by
  intro cs
  induction cs with
  | nil=>intro st;rfl
  | cons c cs ih=>
   intro st
   have:cellStep (st.1,st.2.map prAV) c=((cellPS st c).1,(cellPS st c).2.map prAV):=by
    unfold cellStep cellPS
    dsimp only
    split
    ·rfl
    ·split
     ·rfl
     ·rw[List.map_append];rfl
   rw[List.foldl_cons,List.foldl_cons,this,ih]
 exact key cs (⟨#[]⟩,[])
end
end
section
open PySem.Builtin PySem.Builtin.Str PySem.StrLaws
section
theorem count_run (x:Str) (c:Nat):∀ (m cur:Nat) (st:Array Nat × Nat),cur+m=x.length+1→st.fst.size=(x.cps.toList.take cur).count c→st.snd≤cur →
  (forIn (List.range' cur m) st (occBody x ⟨#[c]⟩ x.length (x.length+1))).run.fst.size=x.cps.toList.count c
 | 0,cur,st,h,h1,h2=>by
  have e:x.cps.toList.take cur=x.cps.toList:=List.take_of_length_le (by simp -iota [Str.length] at h ⊢;(clear h2 h1;lia))
  rw[e] at h1
  exact h1
 | m+1,cur,st,h,h1,h2=>by
  rw[List.range'_succ,List.forIn_cons]
  unfold occBody
  have hc:=subAt_one x c cur
  have hs:st.fst.size≤cur:=by rw[h1];exact Nat.le_trans List.count_le_length (by rw[List.length_take];exact Nat.min_le_left _ _)
  by_cases hx:x.cps.toList[cur]?=some c
  ·obtain⟨q1,q2⟩:=hc.mpr hx
   rw[if_pos ⟨⟨⟨by(clear q2 q1 hx hc h2 h1;lia),h2⟩,q1⟩,q2⟩]
   refine count_run x c m (cur+1) _ (by(clear q2 q1 hx hs hc h2 h1;lia)) ?_ (Nat.le_refl _)
   rw[Array.size_push,h1,List.take_add_one,hx,List.count_append]
   simp
  ·rw[if_neg (fun q=>hx (hc.mp ⟨q.1.2,q.2⟩))]
   refine count_run x c m (cur+1) _ (by(clear hx hs hc h2 h1;lia)) ?_ (by show st.snd≤cur+1;(clear hx hs hc h1 h;lia))
   show st.fst.size=_
   rw[h1,List.take_add_one,List.count_append]
   cases hq:x.cps.toList[cur]? with
   | none=>simp
   | some v=>
    have:v≠c:=fun e=>hx (by rw[hq,e])
    simp -iota [this]
theorem count_one (x:Str) (c:Nat):Txt.count x ⟨#[c]⟩=((x.cps.toList.count c:Nat):Int):=by
 have:=count_run x c (x.length+1) 0 (#[],0) (by lia) rfl (Nat.le_refl _)
 show(((occurrences x ⟨#[c]⟩ 0 x.length (x.length+1)).length:Nat):Int)=_
 rw[occ_eq,Array.length_toList]
 show(((forIn (List.range' 0 (x.length+1)) ((#[]:Array Nat),0) (occBody x ⟨#[c]⟩ x.length (x.length+1))).run.fst.size:Nat):Int)=_
 rw[this]
theorem slice_to (x:Str) (i:Nat) (h:i≤x.cps.toList.length):Txt.slice x Option.none (some (i:Int))=⟨(x.cps.toList.take i).toArray⟩:=by
 have:=sliceText_to (x:=x) (j:=(i:Int)) ⟨by lia,by lia⟩
 rw[List.drop_zero,show((i:Int)-0).toNat=i by lia] at this
 exact this
theorem slice_from (x:Str) (i:Nat) (h:i≤x.cps.toList.length):Txt.slice x (some (i:Int)) Option.none=⟨(x.cps.toList.drop i).toArray⟩:=by
 have:=sliceText_from (x:=x) (i:=(i:Int)) ⟨by omega,by omega⟩
 rw[Int.toNat_natCast,List.take_of_length_le (by rw[List.length_drop];omega)] at this
 exact this
noncomputable def strK (k:Nat):Str:=if k=0 then⟨#[]⟩ else⟨#[k]⟩
noncomputable def itemN (mk:Nat) (p:Nat × Nat):List Nat:=(if mk≠0∧p.2≠mk then [1] else [])++((if p.2≠0∧mk≠p.2 then [0,p.2] else [])++[p.1])
noncomputable def closeN (mk:Nat):List Nat:=if mk≠0 then [1] else []
noncomputable def openN (mk:Nat):List Nat:=if mk≠0 then [0,mk] else []
noncomputable def prefN:Nat→List (Nat × Nat)→List Nat
 | _,[]=>[]
 | mk,p::r=>itemN mk p++prefN p.2 r
noncomputable def lastK:Nat→List (Nat × Nat)→Nat
 | mk,[]=>mk
 | _,p::r=>lastK p.2 r
theorem prefN_c {mk:Nat} {p:Nat × Nat} {r:List (Nat × Nat)}:prefN mk (p::r)=itemN mk p++prefN p.2 r:=rfl
theorem lastK_c {mk:Nat} {p:Nat × Nat} {r:List (Nat × Nat)}:lastK mk (p::r)=lastK p.2 r:=rfl
noncomputable def contN (mk:Nat) (row:List (Nat × Nat)):List Nat:=prefN mk row++closeN (lastK mk row)
noncomputable def fromN (mk:Nat) (row:List (Nat × Nat)):List Nat:=openN mk++contN mk row
noncomputable def toP (p:Nat × Nat):Str × Str:=(⟨#[p.1]⟩,strK p.2)
noncomputable def goodP (p:Nat × Nat):Prop:=2≤p.1∧(p.2=0∨2≤p.2)
noncomputable def goodK (k:Nat):Prop:=k=0∨2≤k
theorem prefN_app:∀ (mk:Nat) (a b:List (Nat × Nat)),prefN mk (a++b)=prefN mk a++prefN (lastK mk a) b
 | mk,[],b=>rfl
 | mk,p::r,b=>by rw[List.cons_append,prefN,prefN,lastK,prefN_app p.2 r b,List.append_assoc]
theorem lastK_app:∀ (mk:Nat) (a b:List (Nat × Nat)),lastK mk (a++b)=lastK (lastK mk a) b
 | mk,[],b=>rfl
 | mk,p::r,b=>by rw[List.cons_append,lastK,lastK,lastK_app p.2 r b]
theorem lastK_good:∀ (mk:Nat) (row:List (Nat × Nat)),goodK mk→(∀ p∈row,goodP p)→goodK (lastK mk row)
 | mk,[],h,_=>h
 | mk,p::r,_,h=>lastK_good p.2 r (h p List.mem_cons_self).2 fun q hq=>h q (List.mem_cons_of_mem _ hq)
theorem contN_split (mk:Nat) (a b:List (Nat × Nat)):contN mk (a++b)=prefN mk a++contN (lastK mk a) b:=by
 unfold contN;rw[prefN_app,lastK_app,List.append_assoc]
theorem beq_strK (a b:Nat):(strK a==strK b)=decide (a=b):=by
 unfold strK
 have h0:∀ k:Nat,((⟨#[k]⟩:Str)==⟨#[]⟩)=false:=fun k=>rfl
 have h1:∀ k:Nat,((⟨#[]⟩:Str)==⟨#[k]⟩)=false:=fun k=>rfl
 have h2:∀ a b:Nat,((⟨#[a]⟩:Str)==⟨#[b]⟩)=decide (a=b):=fun a b=>by
  by_cases h:a=b
  ·subst h;simp
  ·have:((⟨#[a]⟩:Str)==⟨#[b]⟩)=false:=beq_eq_false_iff_ne.mpr fun q=>h (by injection q with q;injection q with q;injection q)
   rw[this,decide_eq_false h]
 split<;>split
 ·rename_i h1 h2;subst h1 h2;rfl
 ·rename_i e1 e2;rw[h1];exact(decide_eq_false (by lia)).symm
 ·rename_i e1 e2;rw[h0];exact(decide_eq_false (by lia)).symm
 ·rw[h2]
theorem step_cps (t:Str) (mk:Nat) (p:Nat × Nat):(markStep (t,strK mk) (toP p)).1.cps.toList=t.cps.toList++itemN mk p∧(markStep (t,strK mk) (toP p)).2=strK p.2:=by
 refine⟨?_,rfl⟩
 unfold markStep toP itemN
 dsimp only
 have e0:(⟨#[]⟩:Str)=strK 0:=rfl
 rw[e0,beq_strK,beq_strK,beq_strK,beq_strK,Bool.or_false,Bool.or_false]
 have c1:∀ x y:Str,(x++y).cps.toList=x.cps.toList++y.cps.toList:=fun x y=>by show(x.cps++y.cps).toList=_;simp
 by_cases hm:mk=0
 ·subst hm
  by_cases hk:p.2=0
  ·rw[hk];simp -iota [c1]
  ·have h3:¬ 0=p.2:=fun q=>hk q.symm
   have e2:(strK p.2).cps.toList=[p.2]:=by unfold strK;rw[if_neg hk]
   simp -iota [c1,hk,h3,e2]
 ·have h3:¬ 0=mk:=fun q=>hm q.symm
  by_cases hk:p.2=0
  ·rw[hk];simp -iota [c1,hm,h3]
  ·have h4:¬ 0=p.2:=fun q=>hk q.symm
   have e2:(strK p.2).cps.toList=[p.2]:=by unfold strK;rw[if_neg hk]
   by_cases he:p.2=mk
   ·rw[he];simp -iota [c1,hm,h3]
   ·have h5:¬ mk=p.2:=fun q=>he q.symm
    simp -iota [c1,hm,h3,hk,h4,he,h5,e2]
theorem run_cps:∀ (row:List (Nat × Nat)) (t:Str) (mk:Nat),((row.map toP).foldl markStep (t,strK mk)).1.cps.toList=t.cps.toList++prefN mk row∧((row.map toP).foldl markStep (t,strK mk)).2=strK (lastK mk row)
 | [],t,mk=>⟨(List.append_nil _).symm,rfl⟩
 | p::r,t,mk=>by
  obtain⟨h1,h2⟩:=step_cps t mk p
  have ih:=run_cps r (markStep (t,strK mk) (toP p)).1 p.2
  rw[←h2] at ih
  rw[List.map_cons,List.foldl_cons,prefN_c,lastK_c]
  refine⟨?_,ih.2⟩
  rw[←List.append_assoc,←h1]
  exact ih.1
theorem scan_step (w:Int) (c:Nat) (cs:List Nat) (n:Int) (mk:Str) (i:Nat) (h:n<w) (h0:c≠0) (h1:c≠1):scanO w (c::cs) n mk i=scanO w cs (n+1) mk (i+1):=by
 cases cs with
 | nil=>rw[scanO_1,if_pos h,if_neg h0,if_neg h1];rfl
 | cons m r=>rw[scanO_2,if_pos h,if_neg h0,if_neg h1]
theorem scan_close (w:Int) (cs:List Nat) (n:Int) (mk:Str) (i:Nat) (h:n<w):scanO w (1::cs) n mk i=scanO w cs n ⟨#[]⟩ (i+1):=by
 cases cs with
 | nil=>rw[scanO_1,if_pos h,if_neg (by decide),if_pos rfl];rfl
 | cons m r=>rw[scanO_2,if_pos h,if_neg (by decide),if_pos rfl]
theorem scan_open (w:Int) (k:Nat) (cs:List Nat) (n:Int) (mk:Str) (i:Nat) (h:n<w):scanO w (0::k::cs) n mk i=scanO w cs n ⟨#[k]⟩ (i+2):=by
 rw[scanO_2,if_pos h,if_pos rfl]
theorem scan_item (w:Int) (mk:Nat) (p:Nat × Nat) (cs:List Nat) (n:Int) (i:Nat) (h:n<w) (hp:goodP p):scanO w (itemN mk p++cs) n (strK mk) i=scanO w cs (n+1) (strK p.2) (i+(itemN mk p).length):=by
 obtain⟨h1,h2⟩:=hp
 have s1:=fun(mk:Str) (i:Nat)=>scan_step w p.1 cs n mk i h (by lia) (by lia)
 unfold itemN
 by_cases hm:mk=0
 ·subst hm
  by_cases hk:p.2=0
  ·rw[hk];simpa using s1 _ _
  ·have h3:¬ 0=p.2:=fun q=>hk q.symm
   have e2:strK p.2=⟨#[p.2]⟩:=by unfold strK;rw[if_neg hk]
   simp -iota only[ne_eq,not_true_eq_false,false_and,if_false,hk,h3,not_false_eq_true,and_self,if_true,List.nil_append,List.cons_append]
   rw[scan_open w _ _ _ _ _ h,s1,e2]
   rfl
 ·by_cases hk:p.2=0
  ·have h3:¬ 0=mk:=fun q=>hm q.symm
   rw[hk]
   simp -iota only[ne_eq,hm,h3,not_false_eq_true,and_self,if_true,not_true_eq_false,false_and,if_false,List.nil_append,List.cons_append]
   rw[scan_close w _ _ _ _ h,s1]
   rfl
  ·have e2:strK p.2=⟨#[p.2]⟩:=by unfold strK;rw[if_neg hk]
   by_cases he:p.2=mk
   ·rw[he]
    simp -iota only[ne_eq,hm,not_true_eq_false,and_false,if_false,List.nil_append,List.cons_append]
    rw[s1]
    rfl
   ·have h5:¬ mk=p.2:=fun q=>he q.symm
    simp -iota only[ne_eq,hm,hk,he,h5,not_false_eq_true,and_self,if_true,List.nil_append,List.cons_append]
    rw[scan_close w _ _ _ _ h,scan_open w _ _ _ _ _ h,s1,e2]
    rfl
theorem scan_pref (w:Int):∀ (row:List (Nat × Nat)) (mk:Nat) (cs:List Nat) (n:Int) (i:Nat),n+row.length≤w→(∀ p∈row,goodP p) →
  scanO w (prefN mk row++cs) n (strK mk) i=scanO w cs (n+row.length) (strK (lastK mk row)) (i+(prefN mk row).length)
 | [],mk,cs,n,i,h,hg=>by simp[prefN,lastK]
 | p::r,mk,cs,n,i,h,hg=>by
  rw[List.length_cons] at h
  rw[prefN_c,List.append_assoc,scan_item w mk p _ n i (by lia) (hg p List.mem_cons_self),scan_pref w r p.2 cs (n+1) _ (by lia) (fun q hq=>hg q (List.mem_cons_of_mem _ hq)),lastK_c,List.length_append,List.length_cons]
  congr 1
  ·push_cast;lia
  ·lia
theorem item_count (mk:Nat) (p:Nat × Nat) (hp:goodP p):(itemN mk p).length=1+(itemN mk p).count 1+2*(itemN mk p).count 0∧(itemN mk p).count 0+(closeN mk).length=(itemN mk p).count 1+(closeN p.2).length:=by
 obtain⟨h1,h2⟩:=hp
 have a0:¬ p.1=0:=by(clear h2;lia)
 have a1:¬ p.1=1:=by(clear a0 h2;lia)
 unfold itemN closeN
 by_cases hm:mk=0
 ·subst hm
  by_cases hk:p.2=0
  ·rw[hk];simp -iota [List.count_cons,a0,a1]
  ·have h3:¬ 0=p.2:=fun q=>hk q.symm
   have b1:¬ p.2=1:=by(clear h3 hk a1 a0 h1;lia)
   simp -iota [List.count_cons,a0,a1,hk,h3,b1]
 ·have h3:¬ 0=mk:=fun q=>hm q.symm
  by_cases hk:p.2=0
  ·rw[hk];simp -iota [List.count_cons,a0,a1,hm,h3]
  ·have b1:¬ p.2=1:=by(clear hk h3 hm a1 a0 h1;lia)
   by_cases he:p.2=mk
   ·rw[he];simp -iota [List.count_cons,a0,a1,hm]
   ·have h5:¬ mk=p.2:=fun q=>he q.symm
    simp -iota [List.count_cons,a0,a1,hk,hm,he,h5,b1]
theorem pref_count:∀ (row:List (Nat × Nat)) (mk:Nat),(∀ p∈row,goodP p)→(prefN mk row).length=row.length+(prefN mk row).count 1+2*(prefN mk row).count 0∧(prefN mk row).count 0+(closeN mk).length=(prefN mk row).count 1+(closeN (lastK mk row)).length
 | [],mk,_=>by simp[prefN,lastK]
 | p::r,mk,hg=>by
  obtain⟨i1,i2⟩:=item_count mk p (hg p List.mem_cons_self)
  obtain⟨j1,j2⟩:=pref_count r p.2 (fun q hq=>hg q (List.mem_cons_of_mem _ hq))
  rw[prefN,lastK_c,List.length_append,List.count_append,List.count_append,List.length_cons]
  lia
theorem from_count (row:List (Nat × Nat)) (mk:Nat) (hk:goodK mk) (hg:∀ p∈row,goodP p):(fromN mk row).count 0=(fromN mk row).count 1∧(fromN mk row).length=row.length+3*(fromN mk row).count 0:=by
 obtain⟨j1,j2⟩:=pref_count row mk hg
 have ho:(openN mk).count 0=(closeN mk).length∧(openN mk).count 1=0∧(openN mk).length=2*(closeN mk).length:=by
  unfold openN closeN
  by_cases hm:mk=0
  ·subst hm;simp
  ·have:¬ mk=1:=by rcases hk with h | h<;>(clear hm j2 j1 hg;lia)
   simp -iota [List.count_cons,hm,this]
 have hc:∀ k:Nat,(closeN k).count 0=0∧(closeN k).count 1=(closeN k).length:=fun k=>by
  unfold closeN
  by_cases hm:k=0
  ·subst hm;simp
  ·simp -iota [hm]
 obtain⟨c1,c2⟩:=hc (lastK mk row)
 obtain⟨o1,o2,o3⟩:=ho
 unfold fromN contN
 rw[List.count_append,List.count_append,List.count_append,List.count_append,List.length_append,List.length_append]
 (clear hc hg hk;lia)
end
end
section
open PySem.Builtin PySem.Builtin.Str PySem.StrLaws
section
theorem cellP_app (a b:List Nat) (st:Str × List (Str × Str)):(a++b).foldl cellPS st=b.foldl cellPS (a.foldl cellPS st):=List.foldl_append ..
theorem beq_one (a b:Nat):((⟨#[a]⟩:Str)==⟨#[b]⟩)=decide (a=b):=by
 by_cases h:a=b
 ·subst h;simp
 ·have:((⟨#[a]⟩:Str)==⟨#[b]⟩)=false:=beq_eq_false_iff_ne.mpr fun q=>h (by injection q with q;injection q with q;injection q)
  rw[this,decide_eq_false h]
theorem strK_zero (k:Nat) (h:goodK k):(strK k==⟨#[0]⟩)=false:=by
 unfold strK
 split
 ·rfl
 ·rw[beq_one];exact decide_eq_false (by rcases h with h | h<;>omega)
theorem cell_letter (k c:Nat) (hk:goodK k) (hc:2≤c) (acc:List (Str × Str)):cellPS (strK k,acc) c=(strK k,acc++[(⟨#[c]⟩,strK k)]):=by
 unfold cellPS
 rw[beq_one,beq_one,strK_zero k hk,decide_eq_false (by lia:¬ c=0),decide_eq_false (by lia:¬ c=1)]
 rfl
theorem cell_close (k:Nat) (hk:goodK k) (acc:List (Str × Str)):cellPS (strK k,acc) 1=(strK 0,acc):=by
 unfold cellPS
 rw[beq_one,beq_one,strK_zero k hk,decide_eq_false (by omega:¬ 1=0),decide_eq_true rfl]
 rfl
theorem cell_open (k m:Nat) (hm:2≤m) (acc:List (Str × Str)):cellPS (cellPS (strK k,acc) 0) m=(strK m,acc):=by
 have e:cellPS (strK k,acc) 0=(⟨#[0]⟩,acc):=by unfold cellPS;rw[beq_one,decide_eq_true rfl];rfl
 rw[e]
 have e2:strK m=⟨#[m]⟩:=by unfold strK;rw[if_neg (by omega)]
 rw[e2]
 unfold cellPS
 rw[beq_one,beq_one,decide_eq_true (rfl:(0:Nat)=0),Bool.or_true]
 rfl
theorem cell_item (mk:Nat) (p:Nat × Nat) (hm:goodK mk) (hp:goodP p) (acc:List (Str × Str)):(itemN mk p).foldl cellPS (strK mk,acc)=(strK p.2,acc++[toP p]):=by
 obtain⟨h1,h2⟩:=hp
 unfold itemN toP
 by_cases hz:mk=0
 ·subst hz
  by_cases hk:p.2=0
  ·rw[hk]
   simp -iota only[ne_eq,not_true_eq_false,false_and,if_false,List.nil_append,List.foldl_cons,List.foldl_nil]
   exact cell_letter 0 p.1 (.inl rfl) h1 acc
  ·have h3:¬ 0=p.2:=fun q=>hk q.symm
   simp -iota only[ne_eq,not_true_eq_false,false_and,if_false,hk,h3,not_false_eq_true,and_self,if_true,List.nil_append,List.cons_append,List.foldl_cons,List.foldl_nil]
   rw[cell_open 0 p.2 (by(clear h3 hm h1;lia))]
   exact cell_letter p.2 p.1 h2 h1 acc
 ·by_cases hk:p.2=0
  ·have h3:¬ 0=mk:=fun q=>hz q.symm
   rw[hk]
   simp -iota only[ne_eq,hz,h3,not_false_eq_true,and_self,if_true,not_true_eq_false,false_and,if_false,List.nil_append,List.cons_append,List.foldl_cons,List.foldl_nil]
   rw[cell_close mk hm]
   exact cell_letter 0 p.1 (.inl rfl) h1 acc
  ·by_cases he:p.2=mk
   ·rw[he]
    simp -iota only[ne_eq,hz,not_true_eq_false,and_false,if_false,List.nil_append,List.foldl_cons,List.foldl_nil]
    exact cell_letter mk p.1 hm h1 acc
   ·have h5:¬ mk=p.2:=fun q=>he q.symm
    simp -iota only[ne_eq,hz,hk,he,h5,not_false_eq_true,and_self,if_true,List.nil_append,List.cons_append,List.foldl_cons,List.foldl_nil]
    rw[cell_close mk hm,cell_open 0 p.2 (by(clear h5 he hz h1 hm;lia))]
    exact cell_letter p.2 p.1 h2 h1 acc
theorem cell_pref:∀ (row:List (Nat × Nat)) (mk:Nat) (acc:List (Str × Str)),goodK mk→(∀ p∈row,goodP p)→(prefN mk row).foldl cellPS (strK mk,acc)=(strK (lastK mk row),acc++row.map toP)
 | [],mk,acc,_,_=>by simp[prefN,lastK]
 | p::r,mk,acc,hm,hg=>by
  have hp:=hg p List.mem_cons_self
  rw[prefN_c,cellP_app,cell_item mk p hm hp,cell_pref r p.2 _ hp.2 (fun q hq=>hg q (List.mem_cons_of_mem _ hq)),lastK_c,List.map_cons,List.append_assoc]
  rfl
theorem cell_from (row:List (Nat × Nat)) (mk:Nat) (hm:goodK mk) (hg:∀ p∈row,goodP p):(cellP (fromN mk row)).2=row.map toP:=by
 have ho:(openN mk).foldl cellPS (⟨#[]⟩,[])=(strK mk,[]):=by
  unfold openN
  by_cases hz:mk=0
  ·subst hz;rfl
  ·rw[if_pos hz]
   exact cell_open 0 mk (by rcases hm with h | h<;>(clear hg;lia)) []
 unfold cellP fromN contN
 rw[cellP_app,cellP_app,ho,cell_pref row mk [] hm hg,List.nil_append]
 unfold closeN
 split
 ·rw[List.foldl_cons,List.foldl_nil,cell_close _ (lastK_good mk row hm hg)]
 ·rfl
structure LineOk (L:Str):Prop where
 short:L.length≤1000
 counts:Txt.count L ⟨#[0]⟩=Txt.count L ⟨#[1]⟩
theorem line_ok (row:List (Nat × Nat)) (mk:Nat) (hm:goodK mk) (hg:∀ p∈row,goodP p) (hl:row.length≤100):LineOk ⟨(fromN mk row).toArray⟩:=by
 obtain⟨h1,h2⟩:=from_count row mk hm hg
 have hpf:=(pref_count row mk hg)
 have hlen:∀ (r:List (Nat × Nat)) (m:Nat),(prefN m r).length≤4*r.length:=by
  intro r
  induction r with
  | nil=>intro m;simp[prefN]
  | cons p r ih=>
   intro m
   rw[prefN_c,List.length_append,List.length_cons]
   have:=ih p.2
   have hi:(itemN m p).length≤4:=by unfold itemN;split<;>split<;>simp
   (clear ih hpf h2 h1 hl hg hm;lia)
 have hx:(fromN mk row).length≤1000:=by
  unfold fromN contN
  rw[List.length_append,List.length_append]
  have:=hlen row mk
  have a:(openN mk).length≤2:=by unfold openN;split<;>simp
  have b:(closeN (lastK mk row)).length≤1:=by unfold closeN;split<;>simp
  (clear hlen hpf h2 h1 hg hm;lia)
 refine⟨by show(fromN mk row).toArray.size≤1000;simpa using hx,?_⟩
 rw[count_one,count_one]
 show(((fromN mk row).count 0:Nat):Int)=(((fromN mk row).count 1:Nat):Int)
 rw[h1]
theorem strK_len (k:Nat):(((strK k).length:Int) != 0)=decide (k≠0):=by
 unfold strK
 split
 ·rename_i h;subst h;rfl
 ·rename_i h;rw[decide_eq_true h];rfl
theorem split_spec (w:Nat) (hw:1≤w):∀ (k mk:Nat) (row:List (Nat × Nat)),row≠[]→row.length≤k*w→row.length≤100→goodK mk→(∀ p∈row,goodP p) →
  ∃ ls,splitL (w:Int) k ⟨(fromN mk row).toArray⟩=some ls∧(∀ L∈ls,LineOk L)∧ls.map (fun L=>(cellP L.cps.toList).2)=(List.range ((row.length-1+w)/w)).map fun j=>((row.map toP).drop (j*w)).take w
 | 0,mk,row,hne,hk,_,_,_=>by
  rw[Nat.zero_mul] at hk
  exact absurd (List.length_eq_zero_iff.mp (by(clear hne hw;lia))) hne
 | k+1,mk,row,hne,hk,h100,hm,hg=>by
  have hpos:0<row.length:=List.length_pos_iff.mpr hne
  obtain⟨h1,h2⟩:=from_count row mk hm hg
  have lo:=line_ok row mk hm hg h100
  have hlen:(⟨(fromN mk row).toArray⟩:Str).length=(fromN mk row).length:=by show(fromN mk row).toArray.size=_;simp
  rw[splitL_s (Nat.le_trans lo.short (by(clear hlen lo h2 h1 hpos hg hm h100 hk hne hw;lia)))]
  have hcnt:Txt.count ⟨(fromN mk row).toArray⟩ ⟨#[0]⟩=(((fromN mk row).count 0:Nat):Int):=count_one _ 0
  by_cases hle:row.length≤w
  ·rw[if_pos (by
    rw[hcnt,hlen,Bool.or_eq_true]
    exact .inr (decide_eq_true (by(clear hcnt hlen lo h1 hpos hg hm h100 hk hne hw;lia))))]
   refine⟨_,rfl,fun L hL=>by rw[List.mem_singleton.mp hL];exact lo,?_⟩
   have e1:(row.length-1+w)/w=1:=by
    rw[Nat.add_div_right _ (by(clear hle hcnt hlen lo h2 h1 hpos hg hm h100 hk hne;lia)),Nat.div_eq_of_lt (by(clear hcnt hlen lo h2 h1 hpos hg hm h100 hk hne;lia))]
   rw[e1,List.map_singleton]
   show [(cellP (fromN mk row)).2]=[((row.map toP).drop (0*w)).take w]
   rw[cell_from row mk hm hg,Nat.zero_mul,List.drop_zero,List.take_of_length_le (by rw[List.length_map];exact hle)]
  ·rw[if_neg (by
    rw[hcnt,hlen,Bool.or_eq_true]
    rintro(q | q)
    ·have:=of_decide_eq_true q;(clear q hcnt hlen lo h1 hpos hg hm h100 hk hne hw;lia)
    ·have:=of_decide_eq_true q;(clear q hcnt hlen lo h1 hpos hg hm h100 hk hne hw;lia))]
   obtain⟨A,hA⟩:∃ A,A=row.take w:=⟨_,rfl⟩
   obtain⟨R,hR⟩:∃ R,R=row.drop w:=⟨_,rfl⟩
   have hAR:A++R=row:=by rw[hA,hR,List.take_append_drop]
   have hAl:A.length=w:=by rw[hA,List.length_take];(clear hAR hR hA hcnt hlen lo h2 h1 hpos hg hm h100 hk hne hw;lia)
   have hRl:R.length=row.length-w:=by rw[hR,List.length_drop]
   have hgA:∀ p∈A,goodP p:=fun p hp=>hg p (by rw[hA] at hp;exact List.mem_of_mem_take hp)
   have hgR:∀ p∈R,goodP p:=fun p hp=>hg p (by rw[hR] at hp;exact List.mem_of_mem_drop hp)
   have hmA:=lastK_good mk A hm hgA
   obtain⟨mA,hmA'⟩:∃ mA,mA=lastK mk A:=⟨_,rfl⟩
   rw[←hmA'] at hmA
   have hfrom:fromN mk row=(openN mk++prefN mk A)++contN mA R:=by
    unfold fromN
    rw[←hAR,contN_split,←hmA',List.append_assoc]
   have hscan:scanO (w:Int) (fromN mk row) 0 ⟨#[]⟩ 0=some ((openN mk++prefN mk A).length,strK mA):=by
    have ho:∀ cs:List Nat,scanO (w:Int) (openN mk++cs) 0 ⟨#[]⟩ 0=scanO (w:Int) cs 0 (strK mk) (openN mk).length:=fun cs=>by
     unfold openN
     by_cases hz:mk=0
     ·subst hz;rfl
     ·rw[if_pos hz]
      have e2:strK mk=⟨#[mk]⟩:=by unfold strK;rw[if_neg hz]
      rw[e2]
      exact scan_open _ _ _ _ _ _ (by(clear e2 hz hfrom hmA' hmA hgR hgA hRl hAl hAR hR hA hle hcnt hlen lo h2 h1 hpos hg hm h100 hk hne;lia))
    rw[hfrom,List.append_assoc,ho,scan_pref (w:Int) A mk _ 0 _ (by(clear ho hfrom hmA' hmA hgR hgA hRl hAR hR hA hle hcnt hlen lo h2 h1 hpos hg hm h100 hk hne hw;lia)) hgA,←hmA',scanO_stop (.inl (by(clear ho hfrom hmA' hmA hgR hgA hRl hAR hR hA hle hcnt hlen lo h2 h1 hpos hg hm h100 hk hne hw;lia))),List.length_append]
   have hi:(openN mk++prefN mk A).length≤(fromN mk row).length:=by rw[hfrom,List.length_append (as:=openN mk++prefN mk A)];(clear hscan hfrom hmA' hmA hgR hgA hRl hAl hAR hR hA hle hcnt hlen lo h2 h1 hpos hg hm h100 hk hne hw;lia)
   obtain⟨ls,q1,q2,q3⟩:=split_spec w hw k mA R (fun q=>by rw[q] at hRl;simp -iota at hRl;(clear q hi hscan hfrom hmA' hmA hgR hgA hAl hAR hR hA hcnt hlen lo h2 h1 hpos hg hm h100 hk hne hw;lia)) (by rw[Nat.add_mul] at hk;(clear hi hscan hfrom hmA' hmA hgR hgA hAl hAR hR hA hle hcnt hlen lo h2 h1 hpos hg hm h100 hne hw;lia)) (by(clear hi hscan hfrom hmA' hmA hgR hgA hAl hAR hR hA hle hcnt hlen lo h2 h1 hpos hg hm hk hne hw;lia)) hmA hgR
   have hone:lineOne ⟨(fromN mk row).toArray⟩ (openN mk++prefN mk A).length (strK mA)=⟨(fromN mk A).toArray⟩:=by
    unfold lineOne
    rw[strK_len,slice_to _ _ hi]
    have e:(fromN mk row).toArray.toList.take (openN mk++prefN mk A).length=openN mk++prefN mk A:=by
     rw[List.toList_toArray,hfrom,List.take_left']
     rfl
    show(if decide (mA≠0)=true then(⟨((fromN mk row).toArray.toList.take (openN mk++prefN mk A).length).toArray⟩:Str)++⟨#[1]⟩ else⟨((fromN mk row).toArray.toList.take (openN mk++prefN mk A).length).toArray⟩)=_
    rw[e]
    unfold fromN contN closeN
    rw[←hmA']
    by_cases hz:mA=0
    ·rw[if_neg (by simp -iota [hz]),if_neg (by simp -iota [hz]),List.append_nil]
    ·rw[if_pos (by simp -iota [hz]),if_pos hz,←List.append_assoc]
     show(⟨(openN mk++prefN mk A).toArray++#[1]⟩:Str)=_
     congr 1
     simp
   have htwo:lineTwo ⟨(fromN mk row).toArray⟩ (openN mk++prefN mk A).length (strK mA)=⟨(fromN mA R).toArray⟩:=by
    unfold lineTwo
    rw[strK_len,slice_from _ _ hi]
    have e:(fromN mk row).toArray.toList.drop (openN mk++prefN mk A).length=contN mA R:=by
     rw[List.toList_toArray,hfrom,List.drop_left']
     rfl
    show(if decide (mA≠0)=true then((⟨#[0]⟩:Str)++strK mA)++(⟨((fromN mk row).toArray.toList.drop (openN mk++prefN mk A).length).toArray⟩:Str) else⟨((fromN mk row).toArray.toList.drop (openN mk++prefN mk A).length).toArray⟩)=_
    rw[e]
    unfold fromN openN
    by_cases hz:mA=0
    ·rw[if_neg (by simp -iota [hz]),if_neg (by simp -iota [hz]),List.nil_append]
    ·rw[if_pos (by simp -iota [hz]),if_pos hz]
     have e2:strK mA=⟨#[mA]⟩:=by unfold strK;rw[if_neg hz]
     rw[e2]
     show(⟨(#[0]++#[mA])++(contN mA R).toArray⟩:Str)=_
     congr 1
     simp
   refine⟨⟨(fromN mk A).toArray⟩::ls,?_,fun L hL=>?_,?_⟩
   ·show(match scanO (w:Int) (fromN mk row).toArray.toList 0 ⟨#[]⟩ 0 with
     | Option.none=>Option.none
     | some (i,m)=>(splitL (w:Int) k (lineTwo ⟨(fromN mk row).toArray⟩ i m)).map (lineOne ⟨(fromN mk row).toArray⟩ i m::·))=_
    rw[List.toList_toArray,hscan]
    dsimp only
    rw[htwo,q1,hone]
    rfl
   ·rcases memc hL with rfl | hL
    ·exact line_ok A mk hm hgA (by(clear hL htwo hone q3 q2 q1 hi hscan hfrom hmA' hmA hgR hgA hRl hAR hR hA hcnt hlen lo h2 h1 hpos hg hm hk hne hw;lia))
    ·exact q2 L hL
   ·have e1:(row.length-1+w)/w=(R.length-1+w)/w+1:=by
     rw[Nat.add_div_right _ (by(clear htwo hone q3 q2 q1 hi hscan hfrom hmA' hmA hgR hgA hRl hAl hAR hR hA hle hcnt hlen lo h2 h1 hpos hg hm h100 hk hne;lia)),Nat.add_div_right _ (by(clear htwo hone q3 q2 q1 hi hscan hfrom hmA' hmA hgR hgA hRl hAl hAR hR hA hle hcnt hlen lo h2 h1 hpos hg hm h100 hk hne;lia))]
     have:row.length-1=(R.length-1)+w:=by(clear htwo hone q3 q2 q1 hi hscan hfrom hmA' hmA hgR hgA hAl hAR hR hA hcnt hlen lo h2 h1 hpos hg hm h100 hk hne hw;lia)
     rw[this,Nat.add_div_right _ (by(clear this htwo hone q3 q2 q1 hi hscan hfrom hmA' hmA hgR hgA hRl hAl hAR hR hA hle hcnt hlen lo h2 h1 hpos hg hm h100 hk hne;lia))]
    rw[e1,List.range_succ_eq_map,List.map_cons,List.map_cons,q3,List.map_map]
    congr 1
    ·show(cellP (fromN mk A)).2=((row.map toP).drop (0*w)).take w
     rw[cell_from A mk hm hgA,Nat.zero_mul,List.drop_zero,hA,List.map_take]
    ·refine List.map_congr_left fun j _=>?_
     show((R.map toP).drop (j*w)).take w=((row.map toP).drop ((j+1)*w)).take w
     rw[hR,List.map_drop,List.drop_drop,Nat.add_mul,Nat.one_mul,Nat.add_comm w]
noncomputable def rowN (f:Nat) (ms:List Nat):List (Nat × Nat):=(List.range 15).map fun k=>(97+k,if ms.contains k then kindC f k else 0)
theorem kindC_good (f k:Nat):2≤kindC f k:=by
 unfold kindC
 have:∀ j,j<3→2≤[43,45,94].getD j 0:=by decide
 exact this _ (Nat.mod_lt _ (by lia))
theorem rowN_toP (f:Nat) (ms:List Nat):(rowN f ms).map toP=rowP f ms:=by
 unfold rowN rowP
 rw[List.map_map]
 refine List.map_congr_left fun k _=>?_
 show((⟨#[97+k]⟩:Str),strK (if ms.contains k then kindC f k else 0))=(letterS k,kindS f ms k)
 unfold kindS strK
 have:=kindC_good f k
 by_cases h:ms.contains k=true
 ·rw[if_pos h,if_pos h,if_neg (by lia)];rfl
 ·rw[if_neg h,if_neg h,if_pos rfl];rfl
theorem rowN_good (f:Nat) (ms:List Nat):∀ p∈rowN f ms,goodP p:=by
 intro p hp
 obtain⟨k,_,rfl⟩:=List.mem_map.mp hp
 refine⟨by show 2≤97+k;lia,?_⟩
 show(if ms.contains k then kindC f k else 0)=0∨2≤(if ms.contains k then kindC f k else 0)
 split
 ·exact .inr (kindC_good f k)
 ·exact .inl rfl
theorem textOf_cps (f:Nat) (ms:List Nat):textOf f ms=⟨(fromN 0 (rowN f ms)).toArray⟩:=by
 have h:=run_cps (rowN f ms) ⟨#[]⟩ 0
 rw[rowN_toP] at h
 have e0:(⟨#[]⟩:Str)=strK 0:=rfl
 unfold textOf markRun
 rw[List.foldl_append,List.foldl_cons,List.foldl_nil]
 obtain⟨h1,h2⟩:=h
 obtain⟨T,hT⟩:∃ T,T=(rowP f ms).foldl markStep ((⟨#[]⟩:Str),strK 0):=⟨_,rfl⟩
 show(markStep ((rowP f ms).foldl markStep ((⟨#[]⟩:Str),strK 0)) ((⟨#[]⟩:Str),(⟨#[]⟩:Str))).1=_
 rw[←hT] at h1 h2 ⊢
 obtain⟨t,m⟩:=T
 dsimp only at h1 h2
 rw[h2]
 apply Str.ext'
 apply Array.toList_inj.mp
 unfold markStep fromN contN closeN
 dsimp only
 rw[e0,beq_strK,beq_strK,beq_strK,Bool.or_false]
 have c1:∀ x y:Str,(x++y).cps.toList=x.cps.toList++y.cps.toList:=fun x y=>by show(x.cps++y.cps).toList=_;simp
 by_cases hz:lastK 0 (rowN f ms)=0
 ·simp[c1,hz,openN,h1,strK]
 ·have h3:¬ 0=lastK 0 (rowN f ms):=fun q=>hz q.symm
  simp[c1,hz,h3,openN,h1,strK]
theorem split_ok (f:Nat) (ms:List Nat) (w:Nat) (hw:2≤w∧w≤16):∃ lines,SplitOk f ms w lines:=by
 have hlen:(rowN f ms).length=15:=by unfold rowN;simp
 obtain⟨ls,q1,q2,q3⟩:=split_spec w (by(clear hlen;lia)) 20 0 (rowN f ms) (fun q=>by rw[q] at hlen;simp at hlen) (by lia) (by(clear hw;lia)) (.inl rfl) (rowN_good f ms)
 rw[rowN_toP,hlen] at q3
 refine⟨ls,?_,?_,fun L hL=>(q2 L hL).short,?_,fun L hL=>(q2 L hL).counts⟩
 ·have:=congrArg List.length q3
  rw[List.length_map,List.length_map,List.length_range] at this
  exact this
 ·have:=splitF_of (w:Int) 20 (.int 1) (textOf f ms) ls (by rw[textOf_cps];exact q1)
  rw[this]
  cases ls<;>rfl
 ·have:=congrArg (List.map fun c:List (Str × Str)=>AV.lst (c.map prAV)) q3
  rw[List.map_map,List.map_map] at this
  refine Eq.trans (List.map_congr_left fun L _=>?_) this
  show AV.lst (cellRun L.cps.toList).2=AV.lst ((cellP L.cps.toList).2.map prAV)
  rw[cellP_eq]
end
end
section
open PySem.Builtin PySem.Builtin.Str
section
noncomputable def distN (p m:Nat):Nat:=(p-m)+(m-p)
noncomputable def prodD (p:Nat):List Nat→Nat
 | []=>1
 | m::r=>distN p m*prodD p r
theorem prodD_c {p m:Nat} {r:List Nat}:prodD p (m::r)=distN p m*prodD p r:=rfl
theorem dist_dvd (p m w:Nat) (h:m%w=p%w):w∣distN p m:=by
 refine(Nat.dvd_add_right ?_).mpr ?_
 ·exact Nat.dvd_of_mod_eq_zero (Nat.sub_mod_eq_zero_of_mod_eq h.symm)
 ·exact Nat.dvd_of_mod_eq_zero (Nat.sub_mod_eq_zero_of_mod_eq h)
theorem prodD_dvd (p w:Nat):∀ ms:List Nat,(∃ m∈ms,m%w=p%w)→w∣prodD p ms
 | [],⟨m,h,_⟩=>by simp at h
 | x::r,⟨m,h,e⟩=>by
  rw[prodD_c]
  rcases memc h with rfl | h
  ·exact Nat.dvd_mul_right_of_dvd (dist_dvd p _ w e) _
  ·exact Nat.dvd_mul_left_of_dvd (prodD_dvd p w r ⟨m,h,e⟩) _
theorem prodD_le (p:Nat) (hp:p<15):∀ ms:List Nat,(∀ m∈ms,m<15)→prodD p ms≤14^ms.length
 | [],_=>Nat.le_refl _
 | x::r,h=>by
  have:=h x List.mem_cons_self
  rw[prodD_c,List.length_cons,Nat.pow_succ,Nat.mul_comm]
  exact Nat.mul_le_mul (prodD_le p hp r fun m hm=>h m (List.mem_cons_of_mem _ hm)) (by unfold distN;omega)
theorem prodD_pos (p:Nat):∀ ms:List Nat,p∉ms→0<prodD p ms
 | [],_=>by show _≤1;lia
 | x::r,h=>by
  rw[prodD_c]
  refine Nat.mul_pos ?_ (prodD_pos p r fun q=>h (List.mem_cons_of_mem _ q))
  have:p≠x:=fun e=>h (e▸List.mem_cons_self)
  unfold distN
  lia
structure Cop (a b c d:Nat):Prop where
 ab:Nat.Coprime a b
 abc:Nat.Coprime (a*b) c
 abcd:Nat.Coprime (a*b*c) d
theorem Cop.dvd {a b c d:Nat} (h:Cop a b c d) {X:Nat} (ha:a∣X) (hb:b∣X) (hc:c∣X) (hd:d∣X):a*b*c*d∣X:=
 h.abcd.mul_dvd_of_dvd_of_dvd (h.abc.mul_dvd_of_dvd_of_dvd (h.ab.mul_dvd_of_dvd_of_dvd ha hb) hc) hd
theorem due_mem (ms:List Nat) (ws:List Nat) (p:Nat):dueB ms ws p=true↔∀ w∈ws,∃ m∈ms,m%w=p%w:=by
 unfold dueB
 rw[List.all_eq_true]
 refine forall_congr' fun w=>forall_congr' fun _=>?_
 rw[List.contains_iff_mem,List.mem_map]
theorem due_marks (ms:List Nat) (a b c d:Nat) (h15:∀ m∈ms,m<15) (hc:Cop a b c d) (hgt:¬ a*b*c*d≤14^ms.length) (p:Nat) (hp:p<15):dueB ms [a,b,c,d] p=true↔p∈ms:=by
 rw[due_mem]
 constructor
 ·intro h
  refine Classical.byContradiction fun hn=>hgt ?_
  have hd:a*b*c*d∣prodD p ms:=hc.dvd (prodD_dvd p a ms (h a mA)) (prodD_dvd p b ms (h b mB)) (prodD_dvd p c ms (h c mC)) (prodD_dvd p d ms (h d mD))
  exact Nat.le_trans (Nat.le_of_dvd (prodD_pos p ms hn) hd) (prodD_le p hp ms h15)
 ·intro h w _
  exact⟨p,h,rfl⟩
theorem due_law (ds:List Int) (a b c d:Nat) (hc:Cop a b c d):(List.range 15).filter (dueB (marksOf ds) [a,b,c,d])=dueL (marksOf ds) a b c d:=by
 unfold dueL
 split
 ·rfl
 ·rename_i hgt
  have h15:∀ m∈marksOf ds,m<15:=fun m hm=>List.mem_range.mp (List.mem_filter.mp hm).1
  have e:marksOf ds=(List.range 15).filter fun(k:Nat)=>ds.contains (k:Int):=rfl
  refine Eq.trans (List.filter_congr fun p hp=>?_) e.symm
  have hp':=List.mem_range.mp hp
  have h1:=due_marks (marksOf ds) a b c d h15 hc hgt p hp'
  have h2:p∈marksOf ds↔ds.contains (p:Int)=true:=by
   rw[e,List.mem_filter]
   exact⟨fun h=>h.2,fun h=>⟨hp,h⟩⟩
  exact Bool.eq_iff_iff.mpr (h1.trans h2)
theorem places_eq:∀ w:Nat,w<17→2≤w→∀ k,k<w→placesL w k=(List.range 15).filter fun p=>p%w==k:=by decide +kernel
theorem flat_congr {α β:Type} {l:List α} {f h:α→List β} (e:∀ x∈l,f x=h x):l.flatMap f=l.flatMap h:=by
 induction l with
 | nil=>rfl
 | cons x r ih=>rw[List.flatMap_cons,List.flatMap_cons,e x List.mem_cons_self,ih fun y hy=>e y (List.mem_cons_of_mem _ hy)]
theorem rec_flat (ms:List Nat) (w:Nat) (hw:2≤w∧w≤16):recL ms w=(List.range w).flatMap fun k=>((List.range 15).filter fun p=>ansB ms w k&&(p%w==k)).map letterS:=by
 unfold recL
 refine flat_congr fun k hk=>?_
 rw[places_eq w (by(clear hk;omega)) hw.1 k (List.mem_range.mp hk)]
 cases ansB ms w k with
 | true=>simp
 | false=>simp
theorem letter_inj {p q:Nat} (h:letterS p=letterS q):p=q:=by
 unfold letterS at h
 injection h with h
 injection h with h
 injection h with h
 lia
theorem rec_mem (ms:List Nat) (w p:Nat) (hw:2≤w∧w≤16) (hp:p<15):decide (letterS p∈recL ms w)=ansB ms w (p%w):=by
 have:letterS p∈recL ms w↔ansB ms w (p%w)=true:=by
  rw[rec_flat ms w hw,List.mem_flatMap]
  constructor
  ·rintro⟨k,_,hk⟩
   obtain⟨q,hq,e⟩:=List.mem_map.mp hk
   have:=letter_inj e
   subst this
   have h2:=(List.mem_filter.mp hq).2
   rw[Bool.and_eq_true] at h2
   rw[beq_iff_eq.mp h2.2]
   exact h2.1
  ·intro h
   refine⟨p%w,List.mem_range.mpr (Nat.mod_lt _ (by omega)),List.mem_map.mpr ⟨p,List.mem_filter.mpr ⟨List.mem_range.mpr hp,?_⟩,rfl⟩⟩
   rw[h];simp
 exact Bool.eq_iff_iff.mpr (decide_eq_true_iff.trans this)
theorem rec_filter (ms:List Nat) (w:Nat) (P:Nat→Nat→Bool) (a:Nat) (hw:2≤w∧w≤16):((List.range a).flatMap fun k=>((List.range 15).filter (P k)).map letterS).filter (fun x=>decide (x∈recL ms w))=(List.range a).flatMap fun k=>((List.range 15).filter fun p=>ansB ms w (p%w)&&P k p).map letterS:=by
 rw[List.filter_flatMap]
 refine flat_congr fun k _=>?_
 rw[List.filter_map,List.filter_filter]
 congr 1
 refine List.filter_congr fun p hp=>?_
 show(decide (letterS p∈recL ms w)&&P k p)=_
 rw[rec_mem ms w p hw (List.mem_range.mp hp)]
theorem ord_law (ms:List Nat) (a b c d:Nat) (hw:∀ w∈[a,b,c,d],2≤w∧w≤16):shRun ms [a,b,c,d]=some (orderL ((List.range 15).filter (dueB ms [a,b,c,d])) a,[a,b,c,d]):=by
 have e:shRun ms [a,b,c,d]=some ((((recL ms a).filter (fun k=>decide (k∈recL ms b))).filter (fun k=>decide (k∈recL ms c))).filter (fun k=>decide (k∈recL ms d)),[a,b,c,d]):=rfl
 rw[e,rec_flat ms a (hw a (by simp)),rec_filter ms b _ a (hw b (by simp)),rec_filter ms c _ a (hw c (by simp)),rec_filter ms d _ a (hw d (by simp))]
 unfold orderL
 congr 2
 refine flat_congr fun k _=>?_
 rw[List.filter_filter]
 congr 1
 refine List.filter_congr fun p _=>?_
 unfold dueB
 simp only[List.all_cons,List.all_nil,Bool.and_true]
 rw[←ans_due,←ans_due,←ans_due,←ans_due]
 by_cases hk:p%a=k
 ·subst hk
  cases ansB ms a (p%a)<;>cases ansB ms b (p%b)<;>cases ansB ms c (p%c)<;>cases ansB ms d (p%d)<;>simp
 ·have:(p%a==k)=false:=beq_eq_false_iff_ne.mpr hk
  rw[this];simp
noncomputable def rotP (i j q s:Nat):List Nat:=([2^(1+i),3^(1+j),5,[7,11,13].getD q 0]).drop s++([2^(1+i),3^(1+j),5,[7,11,13].getD q 0]).take s
set_option synthInstance.maxSize 4000 in
set_option synthInstance.maxHeartbeats 400000 in
theorem rot_facts:∀ i,i<4→∀ j,j<2→∀ q,q<3→∀ s,s<4→rotP i j q s=[(rotP i j q s).getD 0 0,(rotP i j q s).getD 1 0,(rotP i j q s).getD 2 0,(rotP i j q s).getD 3 0]∧(∀ w∈rotP i j q s,2≤w∧w≤16) ∧
  Nat.gcd ((rotP i j q s).getD 0 0) ((rotP i j q s).getD 1 0)=1∧Nat.gcd ((rotP i j q s).getD 0 0*(rotP i j q s).getD 1 0) ((rotP i j q s).getD 2 0)=1∧Nat.gcd ((rotP i j q s).getD 0 0*(rotP i j q s).getD 1 0*(rotP i j q s).getD 2 0) ((rotP i j q s).getD 3 0)=1:=by decide +kernel
theorem rotW_P (h:Int):∃ a b c d,rotW h=[a,b,c,d]∧(∀ w∈[a,b,c,d],2≤w∧w≤16)∧Cop a b c d:=by
 have h14:=(fmod_toNat h 4 (by lia)).2
 have h12:=(fmod_toNat (h.fdiv 4) 2 (by(clear h14;lia))).2
 have h83:=(fmod_toNat (h.fdiv 8) 3 (by(clear h12 h14;lia))).2
 have h24:=(fmod_toNat (h.fdiv 24) 4 (by(clear h83 h12 h14;lia))).2
 refine box fun bX bk=>?_
 obtain⟨f1,f2,f3,f4,f5⟩:=rot_facts (h.fmod 4).toNat h14 ((h.fdiv 4).fmod 2).toNat h12 ((h.fdiv 8).fmod 3).toNat h83 ((h.fdiv 24).fmod 4).toNat h24
 refine bk ?_
 clear bk bX
 refine⟨_,_,_,_,f1,?_,⟨f3,f4,f5⟩⟩
 rw[←f1]
 exact f2
theorem law_ok (H:Int × Int):∃ a b c d,rotW H.2=[a,b,c,d]∧LawOk (kindOf1 H.2) (marksOf ((List.range (H.1.fmod 4).toNat).map (drawI H.1))) a b c d (bitsOf H.2):=by
 refine box fun bX bk=>?_
 obtain⟨a,b,c,d,e,hw,hc⟩:=rotW_P H.2
 refine bk ?_
 clear bk bX
 have h96:=(fmod_toNat (H.2.fdiv 96) 6 (by lia)).2
 have her:3≤bitsOf H.2∧bitsOf H.2≤8:=by rw[show((6:Nat):Int)=6 from rfl] at h96;unfold bitsOf;lia
 have h15:=mem_range15 ((List.range (H.1.fmod 4).toNat).map (drawI H.1))
 have hdl:=due_law ((List.range (H.1.fmod 4).toNat).map (drawI H.1)) a b c d hc
 refine⟨a,b,c,d,e,hw,her,h15,?_,fun w hw'=>split_ok _ _ w (hw w hw'),fun w hw'=>left_eq _ _ w her (hw w hw'),?_,?_⟩
 ·unfold marksOf
  exact Nat.le_trans (List.length_filter_le _ _) (by decide)
 ·rw[dig_filter _ _ a b c d her hw,hdl]
 ·rw[ord_law _ a b c d hw,hdl]
end
end
section
open PySem.Builtin PySem.Builtin.Str
section
variable {g:Glob} {d:Nat} {ω:Ow}
theorem law_true (ns:List Int) (hns:ns.length≤63):Fn g (d+201) ω (.ref 402) [.lst (ns.map AV.int)] [] (.bool true):=by
 refine fn_law ns hns fun A env Φ B b f ms ws e r q0=>q0.elim fun H q0=>q0.elim fun hf q0=>q0.elim fun hw q0=>q0.elim fun he hm=>?_
 refine box fun bX bk=>?_
 obtain⟨a,b',c,d',hr,ok⟩:=law_ok H
 refine bk ?_
 clear bk bX
 rw[←hf,←he,←hm] at ok
 rw[hw,hr]
 exact law_loop r ok (law_end (PH.le.refl _) (PH.le.refl _) r ok)
end
end
section
open PySem.Builtin PySem.Builtin.Str
section
noncomputable def phiOf (s:Shared):PH:=fun a=>if tabs.contains a then none else s.heap.get? a
noncomputable def psiOf:PH:=fun _=>none
theorem frag_filter (f:Addr→Bool):∀ (K:Frag) (a:Addr) (o:Obj),(K.filter fun p=>f p.1).lookup a=some o→K.lookup a=some o∧f a=true
 | [],a,o,h=>by simp -iota at h
 | p::K,a,o,h=>by
  rw[List.filter_cons] at h
  rw[List.lookup_cons]
  cases hp:f p.1 with
  | true=>
   rw[hp,if_pos rfl,List.lookup_cons] at h
   cases ha:(a==p.1) with
   | true=>
    rw[ha] at h
    rw[beq_iff_eq.mp ha]
    exact⟨h,hp⟩
   | false=>
    rw[ha] at h
    exact frag_filter f K a o h
  | false=>
   rw[hp] at h
   have ih:=frag_filter f K a o h
   have hne:(a==p.1)=false:=beq_eq_false_iff_ne.mpr fun q=>by rw[q,hp] at ih;exact Bool.false_ne_true ih.2
   rw[hne]
   exact ih
theorem start {w:World} {s:Shared} {mb:Str→Option Value} (hb:s.heap.Ns builtinsNs mb) (hbb:∀ x:Str,x≠"__name__"→mb x=bootBuiltins x) (KX:(Mine.Internal.hd.heap_407 w.params).In s.heap) (hg:s.gens=#[]):Hp ⟨w,s.os⟩ (phiOf s) psiOf s:=by
 refine⟨fun a o h=>?_,?_,fun a o h=>?_,(fun a o h=>nomatch h),fun a=>.inr rfl,fun P hP=>⟨?_,rfl,?_⟩,AllBare.of_eq hg,rfl⟩
 ·obtain⟨h1,h2⟩:=frag_filter (fun a=>!(tabs.contains a)) _ a o h
  unfold phiOf
  rw[if_neg (by simpa using h2)]
  exact KX a o h1
 ·obtain⟨o,es,ep,h1,h2,h3,h4⟩:=hb
  refine⟨o,es,ep,?_,h2,h3,fun x hx=>(h4 x).trans (hbb x hx)⟩
  unfold phiOf
  rw[if_neg (by decide)]
  exact h1
 ·unfold phiOf at h
  split at h
  ·cases h
  ·exact h
 ·unfold phiOf
  rw[if_pos (by simpa using hP)]
 ·refine⟨[],?_,.inl rfl⟩
  have hm:P=133∨P=140∨P=271∨P=278:=by simpa [tabs] using hP
  rcases hm with rfl | rfl | rfl | rfl<;>exact KX _ _ (by kernel_rfl)
theorem code_tabs {w:World} {h:Heap} (KX:(Mine.Internal.hd.heap_407 w.params).In h) (P:Addr) (hP:P∈tabs):isCodeTable h P∧h.get? P=some {cls:=.none,data:=.fields #[]}:=by
 have hm:P=133∨P=140∨P=271∨P=278:=by simpa [tabs] using hP
 rcases hm with rfl | rfl | rfl | rfl
 ·exact⟨⟨137,_,_,KX 137 (Mine.Internal.hd.zo_168 w.params) (by kernel_rfl),rfl,rfl,rfl⟩,KX _ _ (by kernel_rfl)⟩
 ·exact⟨⟨144,_,_,KX 144 (Mine.Internal.hd.zo_175 w.params) (by kernel_rfl),rfl,rfl,rfl⟩,KX _ _ (by kernel_rfl)⟩
 ·exact⟨⟨275,_,_,KX 275 (Mine.Internal.hd.zo_291 w.params) (by kernel_rfl),rfl,rfl,rfl⟩,KX _ _ (by kernel_rfl)⟩
 ·exact⟨⟨282,_,_,KX 282 (Mine.Internal.hd.zo_298 w.params) (by kernel_rfl),rfl,rfl,rfl⟩,KX _ _ (by kernel_rfl)⟩
theorem finish {w:World} {s s':Shared} {Φ' Ψ':PH} (KX:(Mine.Internal.hd.heap_407 w.params).In s.heap) (l:PH.le (phiOf s) Φ') (hp:Hp ⟨w,s.os⟩ Φ' Ψ' s'):OldK s.heap s'.heap∧s'.os=s.os∧AllBare s'.gens:=by
 have hmain:∀ b o,s.heap.get? b=some o→b∉tabs→s'.heap.get? b=some o:=fun b o h hb=>by
  refine hp.fr b o (l b o ?_)
  unfold phiOf
  rw[if_neg (by simpa using hb)]
  exact h
 refine⟨⟨fun b o h=>?_,fun b o h=>?_⟩,hp.os,hp.gens⟩
 ·by_cases hb:b∈tabs
  ·obtain⟨h1,h2⟩:=code_tabs KX b hb
   have ho:o={cls:=.none,data:=.fields #[]}:=Option.some.inj (h.symm.trans h2)
   subst ho
   refine box fun bX bk=>?_
   obtain⟨_,_,vs,h3,_⟩:=hp.tab b hb
   refine bk ?_
   clear bk bX
   refine .inr (.inl ⟨h1,rfl,#[],vs.toArray,rfl,?_⟩)
   rw[h3]
   simp
  ·exact .inl (hmain b o h hb)
 ·by_cases hb:b∈tabs
  ·refine box fun bX bk=>?_
   obtain⟨_,_,vs,h3,_⟩:=hp.tab b hb
   refine bk ?_
   clear bk bX
   exact⟨_,h3⟩
  ·exact⟨o,hmain b o h hb⟩
theorem repL_ints {Φ:PH}:∀ {vs:List Value} {ns:List Int},IntsAre vs ns→RepL Φ (ns.map AV.int) vs:=by
 intro vs ns h
 induction h with
 | nil=>exact repL_nil
 | cons _ _ _ ih=>exact repL_cons rep_int ih
theorem law_spec {w:World} {s:Shared} {mb:Str→Option Value} {a:Addr} {vs:List Value} {ns:List Int} {E:Value→Shared→Prop} (hb:s.heap.Ns builtinsNs mb) (hbb:∀ x:Str,x≠"__name__"→mb x=bootBuiltins x) (KX:(Mine.Internal.hd.heap_407 w.params).In s.heap) (hg:s.gens=#[])
  (hl:s.heap.get? a=some {cls:=.type "list",data:=.seq vs.toArray}) (hi:IntsAre vs ns) (hn:ns.length≤63) :
  wpAny (model PR w) callerA (call (.ref 402) [.ref a]) (fun v s'=>v=.bool true∧OldK s.heap s'.heap∧s'.os=s.os∧AllBare s'.gens) E s:=by
 have hp:=start hb hbb KX hg
 have hat:a∉tabs:=fun q=>by
  have:=(code_tabs KX a q).2
  rw[hl] at this
  cases this
 have hr:Rep (phiOf s) (.lst (ns.map AV.int)) (.ref a):=by
  refine⟨a,_,vs.toArray,rfl,?_,⟨0,rfl⟩,by simpa using repL_ints hi⟩
  unfold phiOf
  rw[if_neg (by simpa using hat)]
  exact hl
 have r:Room (0+201) callerA:=⟨rfl,by decide,by decide,by lia⟩
 have h:=law_true (g:=⟨w,s.os⟩) (d:=0) (ω:=[]) ns hn callerA (phiOf s) psiOf s [.ref a] [] r hp Owns.nil (repL_cons hr repL_nil) rfl repL_nil
 refine wpAny_mono h (fun v s' q0=>q0.casesOn fun Φ' l hp' rp=>?_) (fun e s h=>nomatch h)
 replace rp:_=_:=rp
 exact⟨rp,finish KX l hp'⟩
end
end
end Mine.Internal
end
open PySem PySem.W PySem.W.X PySem.W.ZRun PyProof.Rows
namespace Mine.Internal
set_option maxRecDepth 100000
set_option maxHeartbeats 0
theorem fin.tw14717104965654827632:True:=⟨⟩
theorem fin.tw2997195945616827337:True:=⟨⟩
theorem fin.tw15060389059637966924:True:=⟨⟩
theorem fin.tw15769320126003076942:True:=⟨⟩
theorem fin.tw3233654318801388196:True:=⟨⟩
theorem fin.tw8074854014012763077:True:=⟨⟩
theorem fin.tw14970609926787006698:True:=⟨⟩
theorem fin.tw527239855510694294:True:=⟨⟩
theorem fin.tw9822703877738316990:True:=⟨⟩
theorem fin.tw785063308392394509:True:=⟨⟩
theorem fin.tw17926336732246972301:True:=⟨⟩
theorem fin.tw5365614706600341893:True:=⟨⟩
theorem fin.tw17947855937866180311:True:=⟨⟩
theorem fin.tw7573387467589781930:True:=⟨⟩
theorem fin.tw17847797694146547210:True:=⟨⟩
theorem fin.tw13201259499184358158:True:=⟨⟩
theorem fin.tw12678214073441076977:True:=⟨⟩
theorem fin.tw15823391529297474742:True:=⟨⟩
theorem fin.tw2492570918341819422:True:=⟨⟩
theorem fin.tw14189798632008999920:True:=⟨⟩
theorem fin.tw4900414538470888502:True:=⟨⟩
theorem fin.tw9299894284079962059:True:=⟨⟩
theorem fin.tw2031063368204847517:True:=⟨⟩
theorem fin.tw8887452806578850105:True:=⟨⟩
theorem fin.tw5069866849533177661:True:=⟨⟩
theorem fin.tw2811155540874876421:True:=⟨⟩
theorem fin.tw14724539102541419253:True:=⟨⟩
theorem fin.tw7751378007512693198:True:=⟨⟩
theorem fin.tw12235806261642066753:True:=⟨⟩
theorem fin.tw7010983504953074502:True:=⟨⟩
theorem fin.tw8246133333111583036:True:=⟨⟩
theorem fin.tw15641097027251677618:True:=⟨⟩
theorem fin.tw9179204565505889302:True:=⟨⟩
theorem fin.tw3691588411210575895:True:=⟨⟩
theorem fin.tw11045319791820356882:True:=⟨⟩
theorem fin.tw11197282016795396688:True:=⟨⟩
theorem fin.tw12868312817505955301:True:=⟨⟩
theorem fin.tw2273188289598735980:True:=⟨⟩
theorem fin.tw13085333943451744006:True:=⟨⟩
theorem fin.tw11961879638816577216:True:=⟨⟩
theorem fin.tw4264292415823370469:True:=⟨⟩
theorem fin.tw10441067973268328454:True:=⟨⟩
theorem fin.tw13038057658836130092:True:=⟨⟩
theorem fin.tw7708179594870548008:True:=⟨⟩
theorem fin.tw2519857692237330892:True:=⟨⟩
theorem fin.tw17359139877741220023:True:=⟨⟩
theorem fin.tw6077553646441198183:True:=⟨⟩
theorem fin.tw16833661942743464047:True:=⟨⟩
theorem fin.tw6902515978392755350:True:=⟨⟩
theorem fin.tw7441778724304284313:True:=⟨⟩
theorem fin.tw16896332422564289004:True:=⟨⟩
theorem fin.tw12346608159890255584:True:=⟨⟩
theorem fin.tw8394080742107282166:True:=⟨⟩
theorem fin.tw4399970324551338015:True:=⟨⟩
theorem fin.tw7291792676613816622:True:=⟨⟩
theorem fin.tw15119442732992042659:True:=⟨⟩
theorem fin.tw10685094272514934257:True:=⟨⟩
theorem fin.tw2271205192808257058:True:=⟨⟩
theorem fin.tw6701422461307972906:True:=⟨⟩
theorem fin.tw16416554776961594016:True:=⟨⟩
theorem fin.tw2006828153175544763:True:=⟨⟩
theorem fin.tw8658873654539409516:True:=⟨⟩
theorem fin.tw8915033664442910184:True:=⟨⟩
theorem fin.tw11043966644813519337:True:=⟨⟩
theorem fin.tw1397657815950354155:True:=⟨⟩
theorem fin.tw12034523817083142315:True:=⟨⟩
theorem fin.tw8877684137606625005:True:=⟨⟩
theorem fin.tw9649206158762160326:True:=⟨⟩
theorem fin.tw6079201236369886794:True:=⟨⟩
theorem fin.tw15588965087285738454:True:=⟨⟩
theorem fin.tw7738695813858971153:True:=⟨⟩
theorem fin.tw13028615986156162535:True:=⟨⟩
theorem fin.tw1397422826449149744:True:=⟨⟩
theorem fin.tw956063135791029447:True:=⟨⟩
theorem fin.tw7128279937109139266:True:=⟨⟩
theorem fin.tw6153440733053680925:True:=⟨⟩
theorem fin.tw14061964066483013425:True:=⟨⟩
theorem fin.tw15827863055069253127:True:=⟨⟩
theorem fin.tw7469085624659896379:True:=⟨⟩
theorem fin.tw4173546429283833730:True:=⟨⟩
theorem fin.tw15160940737782935207:True:=⟨⟩
theorem fin.tw10045581328685175165:True:=⟨⟩
theorem fin.tw4559856864138708893:True:=⟨⟩
theorem fin.tw2397913833255696883:True:=⟨⟩
theorem fin.tw1251628031383236465:True:=⟨⟩
theorem fin.tw7954726495280535216:True:=⟨⟩
theorem fin.tw17759323069116231149:True:=⟨⟩
theorem fin.tw13980917802174331150:True:=⟨⟩
theorem fin.tw2813705558967899321:True:=⟨⟩
theorem fin.tw2427791535819567298:True:=⟨⟩
theorem fin.tw4803182457186961112:True:=⟨⟩
theorem fin.tw17542325642933519176:True:=⟨⟩
theorem fin.tw14269763726145213893:True:=⟨⟩
theorem fin.tw13066258162626837284:True:=⟨⟩
theorem fin.tw10049716669050476580:True:=⟨⟩
theorem fin.tw10718367305643522220:True:=⟨⟩
theorem fin.tw13715375619589627328:True:=⟨⟩
theorem fin.tw7916782427278743977:True:=⟨⟩
theorem fin.tw3916899241173532027:True:=⟨⟩
theorem fin.tw13723711126784389949:True:=⟨⟩
theorem fin.tw11347142054657344768:True:=⟨⟩
theorem fin.tw14650462116757365996:True:=⟨⟩
theorem fin.tw11595894190904052131:True:=⟨⟩
theorem fin.tw2060388945867652126:True:=⟨⟩
theorem fin.tw11221257687117105272:True:=⟨⟩
theorem fin.tw2267327392047381278:True:=⟨⟩
theorem fin.tw10077434093560077766:True:=⟨⟩
theorem fin.tw6978382882274375089:True:=⟨⟩
theorem fin.tw8269318730167041276:True:=⟨⟩
theorem fin.tw12470053387133831662:True:=⟨⟩
theorem fin.tw5841978512441811291:True:=⟨⟩
theorem fin.tw4798494511808190164:True:=⟨⟩
theorem fin.tw7586113803783805277:True:=⟨⟩
theorem fin.tw9990882478908475406:True:=⟨⟩
theorem fin.tw2144000467487682021:True:=⟨⟩
theorem fin.tw12154618163640666275:True:=⟨⟩
theorem fin.tw12497289140506202031:True:=⟨⟩
theorem fin.tw18387454436990155822:True:=⟨⟩
theorem fin.tw391348574097492045:True:=⟨⟩
theorem fin.tw15443175795919792451:True:=⟨⟩
theorem fin.tw5237867907636113075:True:=⟨⟩
theorem fin.tw18257287281932233980:True:=⟨⟩
theorem fin.tw2554861612006305768:True:=⟨⟩
theorem fin.tw8972970666352644703:True:=⟨⟩
theorem fin.tw6853605262358715391:True:=⟨⟩
theorem fin.tw8810828360662668156:True:=⟨⟩
theorem fin.tw4419700965946463289:True:=⟨⟩
theorem fin.tw673460851399834745:True:=⟨⟩
theorem fin.tw11111581451734826948:True:=⟨⟩
theorem fin.tw13555867216605768983:True:=⟨⟩
theorem fin.tw15072332444188371036:True:=⟨⟩
theorem fin.tw17494052193680148033:True:=⟨⟩
theorem fin.tw7349110783817377020:True:=⟨⟩
theorem fin.tw16491595787973568826:True:=⟨⟩
theorem fin.tw10787110037192699442:True:=⟨⟩
theorem fin.tw8860984049419898866:True:=⟨⟩
theorem fin.tw8472856442373727401:True:=⟨⟩
theorem fin.tw5163466266295717726:True:=⟨⟩
theorem fin.tw3849695229168725695:True:=⟨⟩
theorem fin.tw3732602587188284689:True:=⟨⟩
theorem fin.tw13600283826362042795:True:=⟨⟩
theorem fin.tw17634851271557442346:True:=⟨⟩
theorem fin.tw11602431659562402827:True:=⟨⟩
theorem fin.tw11566253163613101468:True:=⟨⟩
theorem fin.tw16508917602404585200:True:=⟨⟩
theorem fin.tw16059421744786523721:True:=⟨⟩
theorem fin.tw9242446078950434162:True:=⟨⟩
theorem fin.tw4136109767003768620:True:=⟨⟩
theorem fin.tw16312542854368893341:True:=⟨⟩
theorem fin.tw17542380775221497049:True:=⟨⟩
theorem fin.tw6661191135457068866:True:=⟨⟩
theorem fin.tw9688150110434263646:True:=⟨⟩
theorem fin.tw16137094934480068754:True:=⟨⟩
theorem fin.tw2527092289080166336:True:=⟨⟩
theorem fin.tw3406426736174884306:True:=⟨⟩
theorem fin.tw2846807319890319073:True:=⟨⟩
theorem fin.tw2205456846027643703:True:=⟨⟩
theorem fin.tw1542420007713972980:True:=⟨⟩
theorem fin.tw13232767253998286194:True:=⟨⟩
theorem fin.tw13425567592545887107:True:=⟨⟩
theorem fin.tw660790319719121240:True:=⟨⟩
theorem fin.tw2182624514530950008:True:=⟨⟩
theorem fin.tw13919837020764447680:True:=⟨⟩
theorem fin.tw12182861950611234280:True:=⟨⟩
theorem fin.tw8138229535232876854:True:=⟨⟩
theorem fin.tw9823165734311108416:True:=⟨⟩
theorem fin.tw6394719071305635673:True:=⟨⟩
theorem fin.tw13518473962828273966:True:=⟨⟩
theorem fin.tw11392214452562153442:True:=⟨⟩
theorem fin.tw12839055633146768960:True:=⟨⟩
theorem fin.tw7067564855871787213:True:=⟨⟩
theorem fin.tw6921520699699638266:True:=⟨⟩
theorem fin.tw15917801441637667883:True:=⟨⟩
theorem fin.tw9568073427866818740:True:=⟨⟩
theorem fin.tw721328405366542333:True:=⟨⟩
theorem fin.tw5105862072034755161:True:=⟨⟩
theorem fin.tw17726253655519872977:True:=⟨⟩
theorem fin.tw12748027658218814063:True:=⟨⟩
theorem fin.tw5457743562300023649:True:=⟨⟩
theorem fin.tw5128284254039792557:True:=⟨⟩
theorem fin.tw4718225689526625029:True:=⟨⟩
theorem fin.tw4395744958593950817:True:=⟨⟩
theorem fin.tw13911047928371424606:True:=⟨⟩
theorem fin.tw12366553206247759118:True:=⟨⟩
theorem fin.tw11609314454148321441:True:=⟨⟩
theorem fin.tw10567703353790762281:True:=⟨⟩
theorem fin.tw10432870762950616413:True:=⟨⟩
theorem fin.tw8491673610575332716:True:=⟨⟩
theorem fin.tw862293262481046605:True:=⟨⟩
theorem fin.tw15918665191587455123:True:=⟨⟩
theorem fin.tw7224884505312571278:True:=⟨⟩
theorem fin.tw4731185703727130594:True:=⟨⟩
theorem fin.tw1210148498818215999:True:=⟨⟩
theorem fin.tw9213166536759673804:True:=⟨⟩
theorem fin.tw6964757140453763400:True:=⟨⟩
theorem fin.tw17115091948778174957:True:=⟨⟩
theorem fin.tw14261384421789576864:True:=⟨⟩
theorem fin.tw2625646761171673252:True:=⟨⟩
theorem fin.tw18039943945697508175:True:=⟨⟩
theorem fin.tw12958872267390705572:True:=⟨⟩
theorem fin.tw123878362349918016:True:=⟨⟩
theorem fin.tw5948373610072077788:True:=⟨⟩
theorem fin.tw13478942515504203175:True:=⟨⟩
theorem fin.tw13264550348663985200:True:=⟨⟩
theorem fin.tw10979520797368172729:True:=⟨⟩
theorem fin.tw7873070642646139136:True:=⟨⟩
theorem fin.tw15740266103327560829:True:=⟨⟩
theorem fin.tw3893833047011844286:True:=⟨⟩
theorem fin.tw15903824764237965935:True:=⟨⟩
theorem fin.tw3890023627703281224:True:=⟨⟩
theorem fin.tw8365743793711880192:True:=⟨⟩
theorem fin.tw11225883757785870687:True:=⟨⟩
theorem fin.tw5688409788066561604:True:=⟨⟩
theorem fin.tw1183522770506123450:True:=⟨⟩
theorem fin.tw4564711651812877762:True:=⟨⟩
theorem fin.tw11220281960019044751:True:=⟨⟩
theorem fin.tw13129487762761546903:True:=⟨⟩
theorem fin.tw13640206995623981597:True:=⟨⟩
theorem fin.tw12327465200081919187:True:=⟨⟩
theorem fin.tw10545880230675361294:True:=⟨⟩
theorem fin.tw17809544782537893610:True:=⟨⟩
theorem fin.tw12238118793411104752:True:=⟨⟩
theorem fin.tw14938097941278944458:True:=⟨⟩
theorem fin.tw9619474579928378584:True:=⟨⟩
theorem fin.tw9263931652836087666:True:=⟨⟩
theorem fin.tw8081854481820950763:True:=⟨⟩
theorem fin.tw4398747031826438935:True:=⟨⟩
theorem fin.tw17707612339954570508:True:=⟨⟩
theorem fin.tw16408049737135900905:True:=⟨⟩
theorem fin.tw12911334536544405255:True:=⟨⟩
theorem fin.tw6594717890923909948:True:=⟨⟩
theorem fin.tw1284528060797134925:True:=⟨⟩
theorem fin.tw5549831696386149878:True:=⟨⟩
theorem fin.tw8739037796400882192:True:=⟨⟩
theorem fin.tw3733802132108762297:True:=⟨⟩
theorem fin.tw12556308681331889966:True:=⟨⟩
theorem fin.tw5747594763666966481:True:=⟨⟩
theorem fin.tw18301457518658671746:True:=⟨⟩
theorem fin.tw13716613835050916899:True:=⟨⟩
theorem fin.tw10055949405748422064:True:=⟨⟩
theorem fin.tw14915061341540661651:True:=⟨⟩
theorem fin.tw6443042903320774773:True:=⟨⟩
theorem fin.tw15718407255413821731:True:=⟨⟩
theorem in_part {K K' : Frag} {h : Heap} (e : K' = K.filter fun p => (K'.map (·.1)).contains p.1) (x : K.In h) : K'.In h := fun a o z => x a o (frag_filter (fun a => (K'.map (·.1)).contains a) K a o (e ▸ z)).1
set_option Elab.async true
theorem fin : PySem.Challenge.rw_yj0036_01.Holds := by
  w_on
  refine holds_law ?sd fun said => ?_
  (case sd =>
    delta OpenLaw.wellSaid OpenRow.wellSaid OpenRow.partSaid looksOpen
    repeat' (with_reducible refine look_both ?_ ?_)
    all_goals first
      | (with_reducible refine hz_cong (hz_not ?_) (hz_filt ?_ ?_ ?_) (hz_all ?_))
        (iterate 4 (k_qdec))
        (refine hz_cut 3 (by k_qdec) ?_;refine hz_cut 1 (hz_asg (by k_qdec)) ?_;refine hz_cut 1 (by k_qdec) ?_;refine hz_cut 1 (hz_asg (by k_qdec)) ?_;refine hz_cut 1 (hz_asg (by k_qdec)) ?_;refine hz_cut 5 (by k_qdec) ?_;refine hz_cut 5 (by k_qdec) ?_;refine hz_cut 5 (by k_qdec) ?_;refine hz_cut 3 (by k_qdec) ?_;refine hz_cut 2 (by k_qdec) ?_;refine hz_cut 1 (by k_qdec) ?_; k_qdec)
      | k_qdec
      | rfl)
  (z_head; (case hw => w_witness2))
  k_fill
  intro w s₀ s₁ mg mb G y fa o pm cd doc dV kV ho hd hcd hD hmg hg args vals as L hpre hlay hrd hwl hlo
  have Z := hz_facts y (fun P => rfl)
  have KX := InK.keeps w s₀.heap s₁.heap Z.2.1 L.keeps
  have KY : (Mine.Internal.hd.heap_407 w.params).In s₁.heap := by
    refine in_part ?_ KX
    kernel_rfl
  refine Ground.open G ?_
  intro T B D TE TW
  wrow_args hpre hlay hrd hwl hlo
  rename_i hL _ _ _ hI _ _ hn
  have hob := script_obj L hL
  x_fa T KY hmg
  clear hd hcd hD ho B D TE TW
  refine wpAny_mono (law_spec (mb := mb) T.b T.builtins KY hg hob hI (by omega)) (fun v s' q => ?_) (fun e s h => h)
  obtain ⟨rfl, q1, q2, q3⟩ := q
  refine ⟨.inl ⟨_, _, [], rfl, fun _ => rfl, .bool _, ?_, fun _ => ⟨List.nodup_nil, by simp⟩⟩, q1, q2, q3⟩
  first
    | rfl
    | decide
    | wrow_post
    | kernel_rfl
end Mine.Internal
theorem PySem.Challenge.cw_yj0036_01_holds : PySem.Challenge.rw_yj0036_01.Holds :=
  Mine.Internal.fin
