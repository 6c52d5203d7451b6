import PyProof.Rows.All
import Wide.All
import OpenK.AllK
import Wide.FinOn
import KE.KCallOwn
import KE.KSuperObj
import KE.KPar
import KE.KBoundM
import PyProof.ZipIter
import PyProof.Rows.ListMul
import KE.KDictIter
import KE.KxBytes
import PyProof.Rows.CallKwBuiltin
import PyProof.DefMake
import KE.KLam
import Lean
import PySem.Challenge.RW_in0222_01
set_option Elab.async false
set_option maxRecDepth 100000
set_option linter.unusedVariables false
set_option linter.unusedSectionVars false
set_option tactic.hygienic false
set_option genInjectivity false
set_option genSizeOf false
set_option bootstrap.genMatcherCode false
set_option compiler.extract_closed false
set_option maxHeartbeats 8000000
namespace Mine
open PySem PySem.Calls PyProof.Rows
section
noncomputable def zto:List Stmt:=PySem.Challenge.pw_in0222_01.main.body
noncomputable def zoz (i:Nat):Stmt:=(zto.drop i).headD (.Pass ⟨0,0,0,0⟩)
noncomputable def stP:Stmt->Arguments × List Stmt × List Stmt × Scope × Expr × Pos
 | .FunctionDef _ a b _ _ _ sc _ _ p=>(a,b,[],sc,.Name "" ⟨0,0,0,0⟩,p)
 | .ClassDef _ _ _ b _ _ _ _ _ _ _=>(⟨[],[],none,[],[],none,[]⟩,b,[],default,.Name "" ⟨0,0,0,0⟩,⟨0,0,0,0⟩)
 | .If _ b _ _=>(⟨[],[],none,[],[],none,[]⟩,b,[],default,.Name "" ⟨0,0,0,0⟩,⟨0,0,0,0⟩)
 | .For t _ b e _=>(⟨[],[],none,[],[],none,[]⟩,b,e,default,t,⟨0,0,0,0⟩)
 | _=>(⟨[],[],none,[],[],none,[]⟩,[],[],default,.Name "" ⟨0,0,0,0⟩,⟨0,0,0,0⟩)
noncomputable def fA (i:Nat):Arguments:=(stP (zoz i)).1
noncomputable def fB (i:Nat):List Stmt:=(stP (zoz i)).2.1
noncomputable def fS (i:Nat):Scope:=(stP (zoz i)).2.2.2.1
noncomputable def mkF (i:Nat)(nm:Str)(c:Addr)(pm:Value):FuncData :=
 { name:=nm,qualname:=nm,params:=fA i,body:=.stmts (fB i),scope:=fS i,globals:=mainGlobals,closure:=[],defaults:=.none,kwdefaults:=.none,doc:=.none,pyModule:=pm,annotations:=none,code:=.ref c,closureTuple:=.none,builtins:=builtinsNs }
noncomputable def zve (i:Nat):List Stmt:=(stP (zoz i)).2.1
noncomputable def zsY (i j:Nat):Stmt:=((zve i).drop j).headD (.Pass ⟨0,0,0,0⟩)
noncomputable def mB (i j:Nat):List Stmt:=(stP (zsY i j)).2.1
noncomputable def mkM (i j:Nat)(nm qn:Str)(c:Addr)(pm dflt ctup:Value)(clos:List (Str × Addr)):FuncData :=
  { name := nm, qualname := qn, params := (stP (zsY i j)).1, body := .stmts (mB i j), scope := (stP (zsY i j)).2.2.2.1,
    globals := mainGlobals, closure := clos, defaults := dflt, kwdefaults := .none, doc := .none, pyModule := pm, annotations := none, code := .ref c, closureTuple := ctup, builtins := builtinsNs }
end
end Mine
namespace Mine
open PySem PySem.Calls PyProof.Rows
section
open PySem.W PySem.Builtin PySem.Builtin.ObjectAttr
noncomputable abbrev hR (a:Addr):Value:=.ref a
noncomputable abbrev hS (s:String)(t:Tok):Value:=.str (Str.ofString s) t
noncomputable abbrev hE (P:Params)(x:String)(t:Tok)(v:Value):DictEntry:=⟨PyData.keyHash P (Str.ofString x),.str (Str.ofString x) t,v⟩
noncomputable abbrev cdO (n q:String)(t l a k r1 r2:Nat)(r3 r4:Value)(r5 k2 t4:Nat):Obj:={ cls:=.type "code",data:=.fields #[hS n t,hS q (t+1),hS "/claim/cut.py" (t+2),.int l 0,.int a 0,.int 0 0,.int k 0,.int 3 0,hR r1,.bool true,.int 276 0,hR r2,.none,r3,r4,hR r5,.int k2 0,.int l 0,hS "/claim/cut.py" t4] }
noncomputable abbrev zth (fd:FuncData):Obj:={ cls:=.type "function",data:=.func fd }
noncomputable abbrev f1 (i:Nat)(nm:Str)(c:Addr)(pm dflt kw:Value):Obj:=zth { mkF i nm c pm with defaults:=dflt,kwdefaults:=kw }
noncomputable abbrev f2 (i j:Nat)(nm qn:Str)(c:Addr)(pm dflt ctup:Value)(clos:List (Str × Addr)):Obj:=zth (mkM i j nm qn c pm dflt ctup clos)
noncomputable def hO3 (P:Params):Obj:={ cls:=(.type "dict"),data:=.dict #[hE P "__name__" 165 (hS "law_in0222_01" 816),hE P "__doc__" 166 .none,hE P "__package__" 167 .none,hE P "__loader__" 168 (.builtin "__main__.__loader__#opaque"),hE P "__spec__" 169 .none,hE P "__annotations__" 170 (hR 6),hE P "__builtins__" 171 (hR 4),hE P "__file__" 173 (hS "/claim/cut.py" 172),hE P "__cached__" 174 .none,hE P "_sre" 275 (hR 12),hE P "_wall" 288 (hR 38),hE P "twin_re_1_header" 318 (hR 43),hE P "NL" 320 (hS "\n" 319), hE P "EMPTYSTRING" 322 (hS "" 321), hE P "_ValueFormatter" 436 (hR 116), hE P "_Accumulator" 532 (hR 200), hE P "_buffer" 542 (hR 211), hE P "_truth" 550 (hR 218), hE P "_B64" 552 (.bytes #[65, 66, 67, 68, 69, 70, 71, 72, 73, 74, 75, 76, 77, 78, 79, 80, 81, 82, 83, 84, 85, 86, 87, 88, 89, 90, 97, 98, 99, 100, 101, 102, 103, 104, 105, 106, 107, 108, 109, 110, 111, 112, 113, 114, 115, 116, 117, 118, 119, 120, 121, 122, 48, 49, 50, 51, 52, 53, 54, 55, 56, 57, 43, 47] 551), hE P "b2a_base64" 566 (hR 226), hE P "b64encode" 577 (hR 234), hE P "twin_re_1_fnmatch" 617 (hR 239), hE P "translate" 626 (hR 246), hE P "_special_chars_map" 774 (hR 248), hE P "escape" 781 (hR 258), hE P "_translate" 802 (hR 265), hE P "_join_translated_parts" 815 (hR 272), hE P "_law_alts" 825 (hR 279), hE P "_law_word" 835 (hR 286), hE P "_law_writing" 841 (hR 291), hE P "_law_words" 854 (hR 298), hE P "_law_pattern" 861 (hR 305), hE P "_law_sets" 875 (hR 312), hE P "_law_last" 883 (hR 319), hE P "_law_by_octets" 889 (hR 324), hE P "_law_by_pattern" 895 (hR 329), hE P "_law_place" 908 (hR 336), hE P "_law_rows" 914 (hR 341), hE P "_law_folded" 926 (hR 348), hE P "law" 932 (hR 353)] 40 }
noncomputable def zt3 (P:Params):Obj:={ cls:=(.type "tuple"),data:=.seq #[(.int 14 0),(.int 4 0),(.int 0 0),(.int 1 0),(.int 4294967295 0),(.int 17 0),(.int 0 0),(.int 24 0),(.int 11 0),(.int 1 0),(.int 4294967295 0),(.int 13 0),(.int 6 0),(.int 16 0),(.int 32 0),(.int 16 0),(.int 9 0),(.int 0 0),(.int 1 0),(.int 17 0),(.int 1 0),(.int 1 0)] 0 }
noncomputable def zud (P:Params):Obj:={ cls:=(.type "re.Pattern"),data:=.fields #[(hS "([ \t]+)" 292),(.int 32 317),(.int 1 0),.none,.none,(hR 42),(.int 0 0)] }
noncomputable def zuq (P:Params):Obj:={ cls:=.none,data:=.fields #[] }
noncomputable def zut (P:Params):Obj:=cdO "__init__" "_ValueFormatter.__init__" 335 11 5 0 51 52 (hR 53) (hR 54) 55 343 344
noncomputable def zt8 (P:Params):Obj:=f2 6 0 "__init__" "_ValueFormatter.__init__" 56 (hS "cpy313.email.header" 289) .none .none []
noncomputable def ztX (P:Params):Obj:={ cls:=.none,data:=.fields #[] }
noncomputable def zub (P:Params):Obj:=cdO "_str" "_ValueFormatter._str" 346 19 2 0 58 59 (hR 60) (hR 61) 62 351 352
noncomputable def zuu (P:Params):Obj:=f2 6 1 "_str" "_ValueFormatter._str" 63 (hS "cpy313.email.header" 289) .none .none []
noncomputable def zt1 (P:Params):Obj:={ cls:=.none,data:=.fields #[] }
noncomputable def zt5 (P:Params):Obj:=cdO "newline" "_ValueFormatter.newline" 361 26 1 0 72 73 (hR 74) (hR 75) 76 366 367
noncomputable def zuj (P:Params):Obj:=f2 6 3 "newline" "_ValueFormatter.newline" 77 (hS "cpy313.email.header" 289) .none .none []
noncomputable def zue (P:Params):Obj:={ cls:=.none,data:=.fields #[] }
noncomputable def zun (P:Params):Obj:=cdO "feed" "_ValueFormatter.feed" 376 40 4 0 86 87 (hR 88) (hR 89) 90 387 388
noncomputable def zuc (P:Params):Obj:=f2 6 5 "feed" "_ValueFormatter.feed" 91 (hS "cpy313.email.header" 289) .none .none []
noncomputable def zp4 (P:Params):Obj:={ cls:=.none,data:=.fields #[] }
noncomputable def zqw (P:Params):Obj:=cdO "_ascii_split" "_ValueFormatter._ascii_split" 397 65 4 0 100 101 (hR 102) (hR 103) 104 406 407
noncomputable def zqZ (P:Params):Obj:=f2 6 7 "_ascii_split" "_ValueFormatter._ascii_split" 105 (hS "cpy313.email.header" 289) .none .none []
noncomputable def zp0 (P:Params):Obj:={ cls:=.none,data:=.fields #[] }
noncomputable def zrm (P:Params):Obj:=cdO "_append_chunk" "_ValueFormatter._append_chunk" 409 74 3 0 107 108 (hR 109) (hR 110) 111 420 421
noncomputable def zrK (P:Params):Obj:=f2 6 8 "_append_chunk" "_ValueFormatter._append_chunk" 112 (hS "cpy313.email.header" 289) .none .none []
noncomputable def ztT (P:Params):Obj:={ cls:=(.type "dict"),data:=.dict #[hE P "__module__" 330 (hS "cpy313.email.header" 289),hE P "__firstlineno__" 334 (.int 9 333),hE P "__init__" 345 (hR 57),hE P "_str" 353 (hR 64),hE P "__str__" 360 (hR 71),hE P "newline" 368 (hR 78),hE P "add_transition" 375 (hR 85),hE P "feed" 389 (hR 92),hE P "_maxlengths" 396 (hR 99),hE P "_ascii_split" 408 (hR 106),hE P "_append_chunk" 422 (hR 113),hE P "__static_attributes__" 429 (hR 114),hE P "__dict__" 431 (hR 117),hE P "__weakref__" 433 (hR 118),hE P "__doc__" 434 .none] 4 }
noncomputable def ztO (P:Params):Obj:={ cls:=(.type "type"),data:=.cls ⟨(Str.ofString "_ValueFormatter"),[(.type "object")],[(hR 116),(.type "object")],115,(Str.ofString "_ValueFormatter"),true,[],[],false,none,false⟩,slots:=#[none,none,some (hS "_ValueFormatter" 323),some (hS "_ValueFormatter" 331),some (.builtin "object.__new__"),some (.bool true)] }
noncomputable def zpJ (P:Params):Obj:={ cls:=(.type "cell"),data:=.cell (some (hR 200)) }
noncomputable def zrt (P:Params):Obj:={ cls:=(.type "tuple"),data:=.seq #[(.int 0 449)] 0 }
noncomputable def ztM (P:Params):Obj:={ cls:=.none,data:=.fields #[] }
noncomputable def zrj (P:Params):Obj:=cdO "__init__" "_Accumulator.__init__" 450 102 2 0 131 132 (hR 133) (hR 134) 135 456 457
noncomputable def zqg (P:Params):Obj:=f2 7 0 "__init__" "_Accumulator.__init__" 136 (hS "cpy313.email.header" 289) (hR 129) (hR 130) [("__class__",124)]
noncomputable def zqL (P:Params):Obj:={ cls:=.none,data:=.fields #[] }
noncomputable def zrB (P:Params):Obj:=cdO "push" "_Accumulator.push" 459 106 3 0 138 139 (hR 140) (hR 141) 142 465 466
noncomputable def zqP (P:Params):Obj:=f2 7 1 "push" "_Accumulator.push" 143 (hS "cpy313.email.header" 289) .none .none []
noncomputable def zru (P:Params):Obj:={ cls:=(.type "tuple"),data:=.seq #[(.int 0 468)] 0 }
noncomputable def zsb (P:Params):Obj:={ cls:=.none,data:=.fields #[] }
noncomputable def zpR (P:Params):Obj:=cdO "pop_from" "_Accumulator.pop_from" 469 109 2 0 146 147 (hR 148) (hR 149) 150 475 476
noncomputable def zrP (P:Params):Obj:=f2 7 2 "pop_from" "_Accumulator.pop_from" 151 (hS "cpy313.email.header" 289) (hR 145) .none []
noncomputable def zts (P:Params):Obj:={ cls:=.none,data:=.fields #[] }
noncomputable def zpS (P:Params):Obj:=cdO "pop" "_Accumulator.pop" 478 114 1 0 154 155 (hR 156) (hR 157) 158 483 484
noncomputable def zpA (P:Params):Obj:=f2 7 3 "pop" "_Accumulator.pop" 159 (hS "cpy313.email.header" 289) .none (hR 153) [("__class__",124)]
noncomputable def zrC (P:Params):Obj:={ cls:=.none,data:=.fields #[] }
noncomputable def zqa (P:Params):Obj:=cdO "__len__" "_Accumulator.__len__" 486 119 1 0 161 162 (hR 163) (hR 164) 165 490 491
noncomputable def zpI (P:Params):Obj:=f2 7 4 "__len__" "_Accumulator.__len__" 166 (hS "cpy313.email.header" 289) .none .none []
noncomputable def zqU (P:Params):Obj:={ cls:=.none,data:=.fields #[] }
noncomputable def zpB (P:Params):Obj:=cdO "__str__" "_Accumulator.__str__" 493 122 1 0 168 169 (hR 170) (hR 171) 172 497 498
noncomputable def zq8 (P:Params):Obj:=f2 7 5 "__str__" "_Accumulator.__str__" 173 (hS "cpy313.email.header" 289) .none .none []
noncomputable def zrD (P:Params):Obj:={ cls:=(.type "tuple"),data:=.seq #[.none] 0 }
noncomputable def ztP (P:Params):Obj:={ cls:=.none,data:=.fields #[] }
noncomputable def zrs (P:Params):Obj:=cdO "reset" "_Accumulator.reset" 500 125 2 0 176 177 (hR 178) (hR 179) 180 505 506
noncomputable def zqy (P:Params):Obj:=f2 7 6 "reset" "_Accumulator.reset" 181 (hS "cpy313.email.header" 289) (hR 175) .none []
noncomputable def zra (P:Params):Obj:={ cls:=.none,data:=.fields #[] }
noncomputable def zpY (P:Params):Obj:=cdO "is_onlyws" "_Accumulator.is_onlyws" 508 131 1 0 183 184 (hR 185) (hR 186) 187 512 513
noncomputable def zp6 (P:Params):Obj:=f2 7 7 "is_onlyws" "_Accumulator.is_onlyws" 188 (hS "cpy313.email.header" 289) .none .none []
noncomputable def zsF (P:Params):Obj:={ cls:=.none,data:=.fields #[] }
noncomputable def zq5 (P:Params):Obj:=cdO "part_count" "_Accumulator.part_count" 515 134 1 0 191 192 (hR 193) (hR 194) 195 520 521
noncomputable def zqY (P:Params):Obj:=f2 7 8 "part_count" "_Accumulator.part_count" 196 (hS "cpy313.email.header" 289) .none (hR 190) [("__class__",124)]
noncomputable def zsf (P:Params):Obj:={ cls:=(.type "dict"),data:=.dict #[hE P "__module__" 444 (hS "cpy313.email.header" 289),hE P "__firstlineno__" 448 (.int 100 447),hE P "__init__" 458 (hR 137),hE P "push" 467 (hR 144),hE P "pop_from" 477 (hR 152),hE P "pop" 485 (hR 160),hE P "__len__" 492 (hR 167),hE P "__str__" 499 (hR 174),hE P "reset" 507 (hR 182),hE P "is_onlyws" 514 (hR 189),hE P "part_count" 522 (hR 197),hE P "__static_attributes__" 524 (hR 198),hE P "__dict__" 527 (hR 201),hE P "__weakref__" 529 (hR 202),hE P "__doc__" 530 .none] 5 }
noncomputable def zsI (P:Params):Obj:={ cls:=(.type "type"),data:=.cls ⟨(Str.ofString "_Accumulator"),[(.type "list")],[(hR 200),(.type "list"),(.type "object")],199,(Str.ofString "_Accumulator"),true,[],[],false,none,false⟩,slots:=#[some (hR 121),none,some (hS "_Accumulator" 437),some (hS "_Accumulator" 445),some (.builtin "list.__new__"),some (.bool true)] }
noncomputable def zpq (P:Params):Obj:=cdO "_buffer" "_buffer" 535 137 1 0 205 206 (hR 207) (hR 208) 209 540 541
noncomputable def zqb (P:Params):Obj:=f1 9 "_buffer" 210 (hS "binascii" 533) .none .none
noncomputable def zqi (P:Params):Obj:=cdO "_truth" "_truth" 543 144 1 0 212 213 (hR 214) (hR 215) 216 548 549
noncomputable def zqh (P:Params):Obj:=f1 10 "_truth" 217 (hS "binascii" 533) .none .none
noncomputable def zrE (P:Params):Obj:={ cls:=(.type "code"),data:=.fields #[(hS "b2a_base64" 554),(hS "b2a_base64" 555),(hS "/claim/cut.py" 556),(.int 150 0),(.int 1 0),(.int 1 0),(.int 1 0),(.int 3 0),(hR 220),(.bool true),(.int 276 0),(hR 221),.none,(hR 222),(hR 223),(hR 224),(.int 564 0),(.int 150 0),(hS "/claim/cut.py" 565)] }
noncomputable def zpr (P:Params):Obj:=f1 12 "b2a_base64" 225 (hS "binascii" 533) .none (hR 219)
noncomputable def zqM (P:Params):Obj:={ cls:=(.type "tuple"),data:=.seq #[.none] 0 }
noncomputable def zpu (P:Params):Obj:=cdO "b64encode" "b64encode" 569 173 2 0 228 229 (hR 230) (hR 231) 232 575 576
noncomputable def zrn (P:Params):Obj:=f1 14 "b64encode" 233 (hS "cpy313.base64" 567) (hR 227) .none
noncomputable def zrO (P:Params):Obj:={ cls:=(.type "tuple"),data:=.seq #[(.int 14 0),(.int 14 0),(.int 4 0),(.int 1 0),(.int 1 0),(.int 9 0),(.int 0 0),(.int 64 0),(.int 0 0),(.int 1342177280 0),(.int 0 0),(.int 0 0),(.int 0 0),(.int 0 0),(.int 0 0),(.int 17 0),(.int 0 0),(.int 13 0),(.int 11 0),(.int 9 0),(.int 0 0),(.int 64 0),(.int 0 0),(.int 1342177280 0),(.int 0 0),(.int 0 0),(.int 0 0),(.int 0 0),(.int 0 0),(.int 17 0),(.int 1 0),(.int 1 0)] 0 }
noncomputable def zrx (P:Params):Obj:={ cls:=(.type "re.Pattern"),data:=.fields #[(hS "([&~|])" 581),(.int 32 616),(.int 1 0),.none,.none,(hR 238),(.int 0 0)] }
noncomputable def zrz (P:Params):Obj:=cdO "translate" "translate" 618 181 1 0 240 241 (hR 242) (hR 243) 244 624 625
noncomputable def zqT (P:Params):Obj:=f1 17 "translate" 245 (hS "cpy313.fnmatch" 578) .none .none
noncomputable def zgc (P:Params):Obj:={ cls:=(.type "dict"),data:=.dict #[⟨40,(.int 40 630),(hS "\\(" 634)⟩,⟨41,(.int 41 636),(hS "\\)" 640)⟩,⟨91,(.int 91 642),(hS "\\[" 646)⟩,⟨93,(.int 93 648),(hS "\\]" 652)⟩,⟨123,(.int 123 654),(hS "\\{" 658)⟩,⟨125,(.int 125 660),(hS "\\}" 664)⟩,⟨63,(.int 63 666),(hS "\\?" 670)⟩,⟨42,(.int 42 672),(hS "\\*" 676)⟩,⟨43,(.int 43 678),(hS "\\+" 682)⟩,⟨45,(.int 45 684),(hS "\\-" 688)⟩,⟨124,(.int 124 690),(hS "\\|" 694)⟩,⟨94,(.int 94 696),(hS "\\^" 700)⟩,⟨36,(.int 36 702),(hS "\\$" 706)⟩,⟨92,(.int 92 708),(hS "\\\\" 712)⟩, ⟨46, (.int 46 714), (hS "\\." 718)⟩, ⟨38, (.int 38 720), (hS "\\&" 724)⟩, ⟨126, (.int 126 726), (hS "\\~" 730)⟩, ⟨35, (.int 35 732), (hS "\\#" 736)⟩, ⟨32, (.int 32 738), (hS "\\ " 742)⟩, ⟨9, (.int 9 744), (hS "\\\t" 748)⟩, ⟨10, (.int 10 750), (hS "\\\n" 754)⟩, ⟨13, (.int 13 756), (hS "\\\r" 760)⟩, ⟨11, (.int 11 762), (hS "\\\x0b" 766)⟩, ⟨12, (.int 12 768), (hS "\\\x0c" 772)⟩] 24 }
noncomputable def zpQ (P:Params):Obj:=cdO "escape" "escape" 775 187 1 0 252 253 (hR 254) (hR 255) 256 779 780
noncomputable def zqW (P:Params):Obj:=f1 20 "escape" 257 (hS "re" 627) .none .none
noncomputable def zpL (P:Params):Obj:={ cls:=.none,data:=.fields #[] }
noncomputable def zqv (P:Params):Obj:=cdO "_translate" "_translate" 784 194 3 0 259 260 (hR 261) (hR 262) 263 800 801
noncomputable def zpN (P:Params):Obj:=f1 22 "_translate" 264 (hS "cpy313.fnmatch" 782) .none .none
noncomputable def zqI (P:Params):Obj:=cdO "_join_translated_parts" "_join_translated_parts" 803 256 2 0 266 267 (hR 268) (hR 269) 270 813 814
noncomputable def zpP (P:Params):Obj:=f1 23 "_join_translated_parts" 271 (hS "cpy313.fnmatch" 782) .none .none
noncomputable def zpM (P:Params):Obj:=cdO "_law_alts" "_law_alts" 818 284 1 0 273 274 (hR 275) (hR 276) 277 823 824
noncomputable def zrI (P:Params):Obj:=f1 25 "_law_alts" 278 (hS "law_in0222_01" 816) .none .none
noncomputable def zp3 (P:Params):Obj:=cdO "_law_word" "_law_word" 826 287 1 0 280 281 (hR 282) (hR 283) 284 833 834
noncomputable def zpD (P:Params):Obj:=f1 26 "_law_word" 285 (hS "law_in0222_01" 816) .none .none
noncomputable def zrp (P:Params):Obj:=cdO "_law_writing" "_law_writing" 836 293 2 0 287 288 .none .none 289 839 840
noncomputable def zrh (P:Params):Obj:=f1 27 "_law_writing" 290 (hS "law_in0222_01" 816) .none .none
noncomputable def zrH (P:Params):Obj:=cdO "_law_words" "_law_words" 842 301 3 0 292 293 (hR 294) (hR 295) 296 852 853
noncomputable def zql (P:Params):Obj:=f1 28 "_law_words" 297 (hS "law_in0222_01" 816) .none .none
noncomputable def zrF (P:Params):Obj:=cdO "_law_pattern" "_law_pattern" 855 307 1 0 299 300 (hR 301) (hR 302) 303 859 860
noncomputable def zpZ (P:Params):Obj:=f1 29 "_law_pattern" 304 (hS "law_in0222_01" 816) .none .none
noncomputable def zqF (P:Params):Obj:=cdO "_law_sets" "_law_sets" 862 311 1 0 306 307 (hR 308) (hR 309) 310 873 874
noncomputable def zrJ (P:Params):Obj:=f1 30 "_law_sets" 311 (hS "law_in0222_01" 816) .none .none
noncomputable def zpW (P:Params):Obj:=cdO "_law_last" "_law_last" 876 333 2 0 313 314 (hR 315) (hR 316) 317 881 882
noncomputable def zp9 (P:Params):Obj:=f1 31 "_law_last" 318 (hS "law_in0222_01" 816) .none .none
noncomputable def zrv (P:Params):Obj:=cdO "_law_by_octets" "_law_by_octets" 884 337 3 0 320 321 .none .none 322 887 888
noncomputable def zqG (P:Params):Obj:=f1 32 "_law_by_octets" 323 (hS "law_in0222_01" 816) .none .none
noncomputable def zqr (P:Params):Obj:=cdO "_law_by_pattern" "_law_by_pattern" 890 340 2 0 325 326 .none .none 327 893 894
noncomputable def zqC (P:Params):Obj:=f1 33 "_law_by_pattern" 328 (hS "law_in0222_01" 816) .none .none
noncomputable def zqe (P:Params):Obj:=cdO "_law_place" "_law_place" 896 350 4 0 330 331 (hR 332) (hR 333) 334 906 907
noncomputable def zqn (P:Params):Obj:=f1 34 "_law_place" 335 (hS "law_in0222_01" 816) .none .none
noncomputable def zqJ (P:Params):Obj:=cdO "_law_rows" "_law_rows" 909 356 6 0 337 338 .none .none 339 912 913
noncomputable def zre (P:Params):Obj:=f1 35 "_law_rows" 340 (hS "law_in0222_01" 816) .none .none
noncomputable def zqV (P:Params):Obj:=cdO "_law_folded" "_law_folded" 915 369 4 0 342 343 (hR 344) (hR 345) 346 924 925
noncomputable def zqS (P:Params):Obj:=f1 36 "_law_folded" 347 (hS "law_in0222_01" 816) .none .none
noncomputable def zqp (P:Params):Obj:=cdO "law" "law" 927 375 1 0 349 350 .none .none 351 930 931
noncomputable def zq7 (P:Params):Obj:=f1 37 "law" 352 (hS "law_in0222_01" 816) .none .none
noncomputable def hK (P:Params):Frag:=[(3,hO3 P),(42,zt3 P),(43,zud P),(56,zut P),(57,zt8 P),(63,zub P),(64,zuu P),(77,zt5 P),(78,zuj P),(91,zun P),(92,zuc P),(105,zqw P),(106,zqZ P),(112,zrm P),(113,zrK P),(115,ztT P),(116,ztO P),(124,zpJ P),(129,zrt P),(136,zrj P),(137,zqg P),(143,zrB P),(144,zqP P),(145,zru P),(151,zpR P),(152,zrP P),(159,zpS P),(160,zpA P),(166,zqa P),(167,zpI P),(173,zpB P),(174,zq8 P),(175,zrD P),(181,zrs P),(182,zqy P),(188,zpY P),(189,zp6 P),(196,zq5 P),(197,zqY P),(199,zsf P),(200,zsI P),(210,zpq P),(211,zqb P),(217,zqi P),(218,zqh P),(225,zrE P),(226,zpr P),(227,zqM P),(233,zpu P),(234,zrn P),(238,zrO P),(239,zrx P),(245,zrz P),(246,zqT P),(248,zgc P),(257,zpQ P),(258,zqW P),(264,zqv P),(265,zpN P),(271,zqI P),(272,zpP P),(278,zpM P),(279,zrI P),(285,zp3 P),(286,zpD P),(290,zrp P),(291,zrh P),(297,zrH P),(298,zql P),(304,zrF P),(305,zpZ P),(311,zqF P),(312,zrJ P),(318,zpW P),(319,zp9 P),(323,zrv P),(324,zqG P),(328,zqr P),(329,zqC P),(335,zqe P),(336,zqn P),(340,zqJ P),(341,zre P),(347,zqV P),(348,zqS P),(352,zqp P),(353,zq7 P)]
noncomputable def hT (P:Params):Frag:=[(52,zuq P),(59,ztX P),(73,zt1 P),(87,zue P),(101,zp4 P),(108,zp0 P),(132,ztM P),(139,zqL P),(147,zsb P),(155,zts P),(162,zrC P),(169,zqU P),(177,ztP P),(184,zra P),(192,zsF P),(260,zpL P)]
noncomputable def hAs:List Addr:=[3,42,43,56,57,63,64,77,78,91,92,105,106,112,113,115,116,124,129,136,137,143,144,145,151,152,159,160,166,167,173,174,175,181,182,188,189,196,197,199,200,210,211,217,218,225,226,227,233,234,238,239,245,246,248,257,258,264,265,271,272,278,279,285,286,290,291,297,298,304,305,311,312,318,319,323,324,328,329,335,336,340,341,347,348,352,353,52,59,73,87,101,108,132,139,147,155,162,169,177,184,192,260]
theorem hk3 (P:Params):(hK P).lookup 3=some (hO3 P):=by kernel_rfl
theorem zvd (P:Params):(hK P).lookup 42=some (zt3 P):=by kernel_rfl
theorem zuW (P:Params):(hK P).lookup 43=some (zud P):=by kernel_rfl
theorem zur (P:Params):(hK P).lookup 56=some (zut P):=by kernel_rfl
theorem zuU (P:Params):(hK P).lookup 57=some (zt8 P):=by kernel_rfl
theorem ztZ (P:Params):(hK P).lookup 63=some (zub P):=by kernel_rfl
theorem zup (P:Params):(hK P).lookup 64=some (zuu P):=by kernel_rfl
theorem zum (P:Params):(hK P).lookup 77=some (zt5 P):=by kernel_rfl
theorem zuO (P:Params):(hK P).lookup 78=some (zuj P):=by kernel_rfl
theorem zt2 (P:Params):(hK P).lookup 91=some (zun P):=by kernel_rfl
theorem zuM (P:Params):(hK P).lookup 92=some (zuc P):=by kernel_rfl
theorem zrg (P:Params):(hK P).lookup 105=some (zqw P):=by kernel_rfl
theorem ztS (P:Params):(hK P).lookup 106=some (zqZ P):=by kernel_rfl
theorem zpw (P:Params):(hK P).lookup 112=some (zrm P):=by kernel_rfl
theorem zse (P:Params):(hK P).lookup 113=some (zrK P):=by kernel_rfl
theorem zoT (P:Params):(hK P).lookup 124=some (zpJ P):=by kernel_rfl
theorem zs0 (P:Params):(hK P).lookup 129=some (zrt P):=by kernel_rfl
theorem zqd (P:Params):(hK P).lookup 136=some (zrj P):=by kernel_rfl
theorem ztl (P:Params):(hK P).lookup 137=some (zqg P):=by kernel_rfl
theorem zri (P:Params):(hK P).lookup 143=some (zrB P):=by kernel_rfl
theorem zsJ (P:Params):(hK P).lookup 144=some (zqP P):=by kernel_rfl
theorem zsR (P:Params):(hK P).lookup 145=some (zru P):=by kernel_rfl
theorem ztv (P:Params):(hK P).lookup 151=some (zpR P):=by kernel_rfl
theorem ztI (P:Params):(hK P).lookup 152=some (zrP P):=by kernel_rfl
theorem zpH (P:Params):(hK P).lookup 159=some (zpS P):=by kernel_rfl
theorem zsz (P:Params):(hK P).lookup 160=some (zpA P):=by kernel_rfl
theorem zp7 (P:Params):(hK P).lookup 166=some (zqa P):=by kernel_rfl
theorem ztC (P:Params):(hK P).lookup 167=some (zpI P):=by kernel_rfl
theorem zqq (P:Params):(hK P).lookup 173=some (zpB P):=by kernel_rfl
theorem zty (P:Params):(hK P).lookup 174=some (zq8 P):=by kernel_rfl
theorem zsN (P:Params):(hK P).lookup 175=some (zrD P):=by kernel_rfl
theorem zsS (P:Params):(hK P).lookup 181=some (zrs P):=by kernel_rfl
theorem zsX (P:Params):(hK P).lookup 182=some (zqy P):=by kernel_rfl
theorem zqB (P:Params):(hK P).lookup 188=some (zpY P):=by kernel_rfl
theorem zs3 (P:Params):(hK P).lookup 189=some (zp6 P):=by kernel_rfl
theorem zrQ (P:Params):(hK P).lookup 196=some (zq5 P):=by kernel_rfl
theorem ztB (P:Params):(hK P).lookup 197=some (zqY P):=by kernel_rfl
theorem zs2 (P:Params):(hK P).lookup 210=some (zpq P):=by kernel_rfl
theorem zti (P:Params):(hK P).lookup 211=some (zqb P):=by kernel_rfl
theorem ztF (P:Params):(hK P).lookup 217=some (zqi P):=by kernel_rfl
theorem ztV (P:Params):(hK P).lookup 218=some (zqh P):=by kernel_rfl
theorem zsx (P:Params):(hK P).lookup 225=some (zrE P):=by kernel_rfl
theorem ztr (P:Params):(hK P).lookup 226=some (zpr P):=by kernel_rfl
theorem ztR (P:Params):(hK P).lookup 227=some (zqM P):=by kernel_rfl
theorem zsd (P:Params):(hK P).lookup 233=some (zpu P):=by kernel_rfl
theorem zsk (P:Params):(hK P).lookup 234=some (zrn P):=by kernel_rfl
theorem zsp (P:Params):(hK P).lookup 238=some (zrO P):=by kernel_rfl
theorem zs8 (P:Params):(hK P).lookup 239=some (zrx P):=by kernel_rfl
theorem zsP (P:Params):(hK P).lookup 245=some (zrz P):=by kernel_rfl
theorem zsn (P:Params):(hK P).lookup 246=some (zqT P):=by kernel_rfl
theorem zsC (P:Params):(hK P).lookup 248=some (zgc P):=by kernel_rfl
theorem zs5 (P:Params):(hK P).lookup 257=some (zpQ P):=by kernel_rfl
theorem ztw (P:Params):(hK P).lookup 258=some (zqW P):=by kernel_rfl
theorem zo5 (P:Params):(hK P).lookup 264=some (zqv P):=by kernel_rfl
theorem zpT (P:Params):(hK P).lookup 265=some (zpN P):=by kernel_rfl
theorem zr2 (P:Params):(hK P).lookup 271=some (zqI P):=by kernel_rfl
theorem zsH (P:Params):(hK P).lookup 272=some (zpP P):=by kernel_rfl
theorem zs6 (P:Params):(hK P).lookup 278=some (zpM P):=by kernel_rfl
theorem zsA (P:Params):(hK P).lookup 279=some (zrI P):=by kernel_rfl
theorem zsM (P:Params):(hK P).lookup 285=some (zp3 P):=by kernel_rfl
theorem zsw (P:Params):(hK P).lookup 286=some (zpD P):=by kernel_rfl
theorem zso (P:Params):(hK P).lookup 290=some (zrp P):=by kernel_rfl
theorem zsD (P:Params):(hK P).lookup 291=some (zrh P):=by kernel_rfl
theorem ztb (P:Params):(hK P).lookup 297=some (zrH P):=by kernel_rfl
theorem ztt (P:Params):(hK P).lookup 298=some (zql P):=by kernel_rfl
theorem zsU (P:Params):(hK P).lookup 304=some (zrF P):=by kernel_rfl
theorem zr7 (P:Params):(hK P).lookup 305=some (zpZ P):=by kernel_rfl
theorem zs1 (P:Params):(hK P).lookup 311=some (zqF P):=by kernel_rfl
theorem ztz (P:Params):(hK P).lookup 312=some (zrJ P):=by kernel_rfl
theorem zte (P:Params):(hK P).lookup 318=some (zpW P):=by kernel_rfl
theorem zsO (P:Params):(hK P).lookup 319=some (zp9 P):=by kernel_rfl
theorem zsV (P:Params):(hK P).lookup 323=some (zrv P):=by kernel_rfl
theorem ztu (P:Params):(hK P).lookup 324=some (zqG P):=by kernel_rfl
theorem zsh (P:Params):(hK P).lookup 328=some (zqr P):=by kernel_rfl
theorem zsi (P:Params):(hK P).lookup 329=some (zqC P):=by kernel_rfl
theorem zta (P:Params):(hK P).lookup 335=some (zqe P):=by kernel_rfl
theorem zsy (P:Params):(hK P).lookup 336=some (zqn P):=by kernel_rfl
theorem zr1 (P:Params):(hK P).lookup 340=some (zqJ P):=by kernel_rfl
theorem zs4 (P:Params):(hK P).lookup 341=some (zre P):=by kernel_rfl
theorem zsT (P:Params):(hK P).lookup 347=some (zqV P):=by kernel_rfl
theorem zsa (P:Params):(hK P).lookup 348=some (zqS P):=by kernel_rfl
theorem ztj (P:Params):(hK P).lookup 352=some (zqp P):=by kernel_rfl
theorem zs7 (P:Params):(hK P).lookup 353=some (zq7 P):=by kernel_rfl
theorem zuw (P:Params):(hT P).lookup 52=some (zuq P):=by kernel_rfl
theorem zux (P:Params):(hT P).lookup 59=some (ztX P):=by kernel_rfl
theorem zuE (P:Params):(hT P).lookup 73=some (zt1 P):=by kernel_rfl
theorem zuG (P:Params):(hT P).lookup 87=some (zue P):=by kernel_rfl
theorem ztH (P:Params):(hT P).lookup 101=some (zp4 P):=by kernel_rfl
theorem zsW (P:Params):(hT P).lookup 108=some (zp0 P):=by kernel_rfl
theorem ztJ (P:Params):(hT P).lookup 139=some (zqL P):=by kernel_rfl
theorem zsm (P:Params):(hT P).lookup 162=some (zrC P):=by kernel_rfl
theorem ztL (P:Params):(hT P).lookup 169=some (zqU P):=by kernel_rfl
theorem ztA (P:Params):(hT P).lookup 184=some (zra P):=by kernel_rfl
theorem ztf (P:Params):(hT P).lookup 260=some (zpL P):=by kernel_rfl
end
end Mine
namespace Mine
open PySem PySem.Calls PyProof.Rows
section
open PySem.W PySem.Builtin PySem.Builtin.ObjectAttr
noncomputable def zme:=@PySem.W.Fast.tw14082659384304107361
theorem zlc:@topRun=zme:=PySem.W.Fast.te14082659384304107361
noncomputable def zul:=@PySem.W.Fast.tw10274390034422433532
theorem zoE:@importEnds=zul:=PySem.W.Fast.te10274390034422433532
noncomputable def znR:=@PySem.W.Fast.tw14289696077712309145
theorem zlt:@fenceModules?=znR:=PySem.W.Fast.te14289696077712309145
noncomputable def ztx:=@PySem.W.Fast.tw14364793385576792824
theorem zoZ:@treeTable=ztx:=PySem.W.Fast.te14364793385576792824
noncomputable def zq0:=@PySem.W.Fast.tw4187177175401517315
theorem znB:@openSeen=zq0:=PySem.W.Fast.te4187177175401517315
noncomputable def ztN (p:Program)(w:World)(N:Nat):Option Shared :=
 ((zul ztx (opening p) w N (start (opening p)).1 (start (opening p)).2).bind (znR p)).bind fun s₀ =>
  match s₀.heap.isNs mainGlobals && s₀.gens.size==0 with
  | true=>(zme ztx p w s₀.heap.objs.size (s₀.heap.nsMap mainGlobals "__annotations__") N s₀ (topStub p)).bind fun s₁=>match staticsOk (importedModules p.main.body) s₀.heap s₁.heap && namesBound p s₁.heap && gensDone s₁ && laidKept s₀.heap s₁.heap with
    | true=>some s₁
    | false=>none
  | false=>none
theorem zpe {p:Program}{w:World}{N:Nat}:openEnds treeTable p w N=ztN p w N:=by
 unfold openEnds fencedOpening topFrom ztN
 rw [zlc,zoE,zlt,zoZ]
 rfl
noncomputable abbrev P1:Program:=PySem.Challenge.pw_in0222_01
noncomputable def V1:Program:={ P1 with main:={ P1.main with body:=[zoz 0,zoz 37] } }
noncomputable def ziI:List Str:=["_wall","twin_re_1_header","NL","EMPTYSTRING","_ValueFormatter","_Accumulator","_buffer","_truth","_B64","b2a_base64","b64encode","twin_re_1_fnmatch","translate","_special_chars_map","escape","_translate","_join_translated_parts","_law_alts","_law_word","_law_writing","_law_words","_law_pattern","_law_sets","_law_last","_law_by_octets","_law_by_pattern","_law_place","_law_rows","_law_folded"]
noncomputable def Yf1 (s:Shared):List (Option Obj) × Option Value × Option (Option Value):=(hAs.map s.heap.get?,(s.heap.get? builtinsNs).map (·.cls),(s.heap.get? cStatics).map fun _=>staticOf s.heap "thirdparty.any")
noncomputable def Ya1 (w:World):List (Option Obj) × Option Value × Option (Option Value):=((hK w.params++hT w.params).map fun p=>some p.2,some (.type "dict"),some none)
noncomputable abbrev w2 (w:World)(a b:Bool):World:=(w.withFollow "comprehension-iter-twice" a).withFollow "special-get-raises" b
abbrev zr0 (w:World):Prop:=(ztN P1 w 7000).map (fun s=>(zq0 V1 ziI (importedModules P1.main.body) (fun _=>true) true s,Yf1 s))=some (openGood V1 ziI,Ya1 w)
theorem zr6:PySem.Challenge.rw_in0222_01.wellSaid=true:=by kernel_rfl
theorem zpX (w:World):zr0 (w2 w false false):=by kernel_rfl
theorem zqQ (w:World):zr0 (w2 w false true):=by kernel_rfl
theorem zqA (w:World):zr0 (w2 w true false):=by kernel_rfl
theorem zrw (w:World):zr0 (w2 w true true):=by kernel_rfl
theorem zqx {X:World->Prop}(h:∀ w a b,X (w2 w a b))(w:World):X w:=by
 have h1:=h w (w.params.followText "comprehension-iter-twice") ((w.withFollow "comprehension-iter-twice" (w.params.followText "comprehension-iter-twice")).params.followText "special-get-raises")
 unfold w2 at h1
 rw [World.withFollow_self,World.withFollow_self] at h1
 exact h1
theorem ztk:LeftO P1 V1 ziI (fun _=>true) Yf1 Ya1 7000:=by
 refine zqx fun w a b=>?_
 rw [zpe,znB]
 cases a <;> cases b
 ·exact zpX w
 ·exact zqQ w
 ·exact zqA w
 ·exact zrw w
end
end Mine
section
open PySem PySem.Calls PyProof.Rows
namespace Mine
theorem noS {α:Type _}{a:α}{C:Prop}(h:none=some a):C:=nomatch h
theorem Sno {α:Type _}{a:α}{C:Prop}(h:some a=none):C:=nomatch h
@[elab_as_elim] theorem rwr {α:Sort _}{a b:α}{motive:α->Prop}(e:a=b)(h:motive b):motive a:=by rw [e];exact h
@[elab_as_elim] theorem rwl {α:Sort _}{a b:α}{motive:α->Prop}(e:b=a)(h:motive b):motive a:=by rw [<- e];exact h
theorem ifp {c:Prop} [Decidable c] {A B:Prop}(h:c)(k:A):if c then A else B:=by rw [if_pos h];exact k
theorem ifn {c:Prop} [Decidable c] {A B:Prop}(h:¬ c)(k:B):if c then A else B:=by rw [if_neg h];exact k
theorem leT {a b c:Nat}(h:a<=b)(k:Nat.ble b c=true):a<=c:=Nat.le_trans h (Nat.le_of_ble_eq_true k)
theorem leA {a b x y c:Nat}(h:a<=x)(h':b<=y)(k:Nat.ble (x+y) c=true):a+b<=c:=leT (Nat.add_le_add h h') k
theorem leR {a n x c:Nat}(h:a<=x)(k:Nat.ble (x+OfNat.ofNat n) c=true):a+OfNat.ofNat n<=c:=leT (Nat.add_le_add_right h _) k
theorem leL {n b y c:Nat}(h:b<=y)(k:Nat.ble (OfNat.ofNat n+y) c=true):OfNat.ofNat n+b<=c:=leT (Nat.add_le_add_left h _) k
theorem leB {a b x c:Nat}(h:a+b<=x)(k:Nat.ble x c=true):a<=c:=leT (Nat.le_trans (Nat.le_add_right a b) h) k
theorem zvD {a b x c:Nat}(h:a+b<=x)(k:Nat.ble x c=true):b<=c:=leT (Nat.le_trans (Nat.le_add_left b a) h) k
theorem zvr {n x y p q c:Nat}(h:x<=p)(h':y<=q)(k:Nat.ble (OfNat.ofNat n+(p+q)) c=true):OfNat.ofNat n+(x+y)<=c:=leT (Nat.add_le_add_left (Nat.add_le_add h h') _) k
theorem zvy {n x y p q c:Nat}(h:x<=p)(h':y<=q)(k:Nat.ble (p+(q+OfNat.ofNat n)) c=true):x+(y+OfNat.ofNat n)<=c:=leT (Nat.add_le_add h (Nat.add_le_add_right h' _)) k
theorem leS {a b:Nat}(h:a<=b)(k:Nat.ble b 16777216=true):a<=sizeLine:=leT h k
theorem leE {a b c:Nat}(h:a=b)(h':b<=c):a<=c:=h ▸ h'
theorem zvs {a b c d:Nat}(h:a=b)(h':b<=c)(k:Nat.ble c d=true):a<=d:=leT (leE h h') k
theorem zvw {a b n:Nat}(h:a+(b+1)<=n):a+1+b<=n:=Nat.le_trans (Nat.le_of_eq (Nat.add_right_comm a 1 b)) h
theorem zvq {n:Nat}(h:n<=16777216):(n:Int) < 2 ^ 63:=by lia
theorem zuD {n:Nat}(h:n≠0):n - 1 < n:=Nat.sub_lt (Nat.pos_of_ne_zero h) Nat.one_pos
theorem zvv {i:Int}{n:Nat}(h0:0<=i)(h1:i < n):i.toNat < n:=(Int.toNat_lt h0).mpr h1
theorem zvu {i n:Nat}(h:¬ i < n):¬ (i:Int) < n:=mt Int.ofNat_lt.mp h
theorem wpO {α:Type _}{M:Model}{A:Around}{t:Sem α}{E:Value->Shared->Prop}{s:Shared}{P:α->Shared->Prop}(h:∀ Q:α->Shared->Prop,(∀ r s,P r s->Q r s)->wpAny M A t Q E s):wpAny M A t P E s:=h P fun _ _ x=>x
theorem zvB {i n:Nat}(h:i < n - 1):i+1 < n:=Nat.add_lt_of_lt_sub h
theorem zvx {i n:Nat}(h:i < n - 1):i < n:=Nat.lt_of_lt_of_le h (Nat.sub_le n 1)
theorem zvC {i n:Nat}(h:i+1<=n - 1):i+1 < n:=Nat.add_lt_of_lt_sub h
theorem leF {a:Int}{j k:Nat}(e:a=j)(h:0<=a/\a < OfNat.ofNat k):j < OfNat.ofNat k:=Int.ofNat_lt.mp (e ▸ h.2)
theorem leG {a:Int}{k:Nat}(h:0<=a/\a < OfNat.ofNat k):a.toNat < OfNat.ofNat k:=(Int.toNat_lt h.1).mpr h.2
theorem leM {a b c:Nat}(h:a<=c):min a b<=c:=Nat.le_trans (Nat.min_le_left a b) h
theorem leW {i n:Nat}(h:i < n):n - (i+1) < n - i:=Nat.sub_lt_sub_left h (Nat.lt_succ_self i)
theorem zvA {a b c:Nat}(h:a=b)(k:b=c):c=a:=(h.trans k).symm
theorem oSS {α:Type _}{a b:α}{G:Prop}(h:some a=some b)(k:a=b->G):G:=k (Option.some.inj h)
theorem oRR {a b:Addr}{G:Prop}(h:Value.ref a=.ref b)(k:a=b->G):G:=k (Value.ref.inj h)
theorem E0_2 {A0 A1:Prop}{G:Prop}(h:A0/\A1)(k:A0->A1->G):G:=k  h.1 h.2
theorem E1_1 {α0:Sort _}{A0:α0->Prop}{G:Prop}(h:∃ x,A0 x)(k:∀ x,A0 x->G):G:=h.elim fun x h=>k x h
theorem E0_3 {A0 A1 A2:Prop}{G:Prop}(h:A0/\A1/\A2)(k:A0->A1->A2->G):G:=k  h.1 h.2.1 h.2.2
theorem I0_3 {A0 A1 A2:Prop}(h0:A0)(h1:A1)(h2:A2):A0/\A1/\A2:=⟨h0,h1,h2⟩
theorem E1_2 {α0:Sort _}{A0 A1:α0->Prop}{G:Prop}(h:∃ x,A0 x/\A1 x)(k:∀ x,A0 x->A1 x->G):G:=h.elim fun x h=>k x h.1 h.2
theorem I1_2 {α0:Sort _}{A0 A1:α0->Prop}(x:α0)(h0:A0 x)(h1:A1 x):∃ x,A0 x/\A1 x:=⟨x,h0,h1⟩
theorem E2_1 {α0:Sort _}{α1:Sort _}{A0:α0->α1->Prop}{G:Prop}(h:∃ x y,A0 x y)(k:∀ x y,A0 x y->G):G:=h.elim fun x h=>h.elim fun y h=>k x y h
theorem I2_1 {α0:Sort _}{α1:Sort _}{A0:α0->α1->Prop}(x:α0)(y:α1)(h0:A0 x y):∃ x y,A0 x y:=⟨x,y,h0⟩
theorem E0_4 {A0 A1 A2 A3:Prop}{G:Prop}(h:A0/\A1/\A2/\A3)(k:A0->A1->A2->A3->G):G:=k  h.1 h.2.1 h.2.2.1 h.2.2.2
theorem I0_4 {A0 A1 A2 A3:Prop}(h0:A0)(h1:A1)(h2:A2)(h3:A3):A0/\A1/\A2/\A3:=⟨h0,h1,h2,h3⟩
theorem E1_3 {α0:Sort _}{A0 A1 A2:α0->Prop}{G:Prop}(h:∃ x,A0 x/\A1 x/\A2 x)(k:∀ x,A0 x->A1 x->A2 x->G):G:=h.elim fun x h=>k x h.1 h.2.1 h.2.2
theorem I1_3 {α0:Sort _}{A0 A1 A2:α0->Prop}(x:α0)(h0:A0 x)(h1:A1 x)(h2:A2 x):∃ x,A0 x/\A1 x/\A2 x:=⟨x,h0,h1,h2⟩
theorem E2_2 {α0:Sort _}{α1:Sort _}{A0 A1:α0->α1->Prop}{G:Prop}(h:∃ x y,A0 x y/\A1 x y)(k:∀ x y,A0 x y->A1 x y->G):G:=h.elim fun x h=>h.elim fun y h=>k x y h.1 h.2
theorem I2_2 {α0:Sort _}{α1:Sort _}{A0 A1:α0->α1->Prop}(x:α0)(y:α1)(h0:A0 x y)(h1:A1 x y):∃ x y,A0 x y/\A1 x y:=⟨x,y,h0,h1⟩
theorem E3_1 {α0:Sort _}{α1:Sort _}{α2:Sort _}{A0:α0->α1->α2->Prop}{G:Prop}(h:∃ x y z,A0 x y z)(k:∀ x y z,A0 x y z->G):G:=h.elim fun x h=>h.elim fun y h=>h.elim fun z h=>k x y z h
theorem I3_1 {α0:Sort _}{α1:Sort _}{α2:Sort _}{A0:α0->α1->α2->Prop}(x:α0)(y:α1)(z:α2)(h0:A0 x y z):∃ x y z,A0 x y z:=⟨x,y,z,h0⟩
theorem E0_5 {A0 A1 A2 A3 A4:Prop}{G:Prop}(h:A0/\A1/\A2/\A3/\A4)(k:A0->A1->A2->A3->A4->G):G:=k  h.1 h.2.1 h.2.2.1 h.2.2.2.1 h.2.2.2.2
theorem I0_5 {A0 A1 A2 A3 A4:Prop}(h0:A0)(h1:A1)(h2:A2)(h3:A3)(h4:A4):A0/\A1/\A2/\A3/\A4:=⟨h0,h1,h2,h3,h4⟩
theorem E1_4 {α0:Sort _}{A0 A1 A2 A3:α0->Prop}{G:Prop}(h:∃ x,A0 x/\A1 x/\A2 x/\A3 x)(k:∀ x,A0 x->A1 x->A2 x->A3 x->G):G:=h.elim fun x h=>k x h.1 h.2.1 h.2.2.1 h.2.2.2
theorem I1_4 {α0:Sort _}{A0 A1 A2 A3:α0->Prop}(x:α0)(h0:A0 x)(h1:A1 x)(h2:A2 x)(h3:A3 x):∃ x,A0 x/\A1 x/\A2 x/\A3 x:=⟨x,h0,h1,h2,h3⟩
theorem E2_3 {α0:Sort _}{α1:Sort _}{A0 A1 A2:α0->α1->Prop}{G:Prop}(h:∃ x y,A0 x y/\A1 x y/\A2 x y)(k:∀ x y,A0 x y->A1 x y->A2 x y->G):G:=h.elim fun x h=>h.elim fun y h=>k x y h.1 h.2.1 h.2.2
theorem I2_3 {α0:Sort _}{α1:Sort _}{A0 A1 A2:α0->α1->Prop}(x:α0)(y:α1)(h0:A0 x y)(h1:A1 x y)(h2:A2 x y):∃ x y,A0 x y/\A1 x y/\A2 x y:=⟨x,y,h0,h1,h2⟩
theorem E3_2 {α0:Sort _}{α1:Sort _}{α2:Sort _}{A0 A1:α0->α1->α2->Prop}{G:Prop}(h:∃ x y z,A0 x y z/\A1 x y z)(k:∀ x y z,A0 x y z->A1 x y z->G):G:=h.elim fun x h=>h.elim fun y h=>h.elim fun z h=>k x y z h.1 h.2
theorem I3_2 {α0:Sort _}{α1:Sort _}{α2:Sort _}{A0 A1:α0->α1->α2->Prop}(x:α0)(y:α1)(z:α2)(h0:A0 x y z)(h1:A1 x y z):∃ x y z,A0 x y z/\A1 x y z:=⟨x,y,z,h0,h1⟩
theorem E4_1 {α0:Sort _}{α1:Sort _}{α2:Sort _}{α3:Sort _}{A0:α0->α1->α2->α3->Prop}{G:Prop}(h:∃ x y z u,A0 x y z u)(k:∀ x y z u,A0 x y z u->G):G:=h.elim fun x h=>h.elim fun y h=>h.elim fun z h=>h.elim fun u h=>k x y z u h
theorem I4_1 {α0:Sort _}{α1:Sort _}{α2:Sort _}{α3:Sort _}{A0:α0->α1->α2->α3->Prop}(x:α0)(y:α1)(z:α2)(u:α3)(h0:A0 x y z u):∃ x y z u,A0 x y z u:=⟨x,y,z,u,h0⟩
theorem E2_4 {α0:Sort _}{α1:Sort _}{A0 A1 A2 A3:α0->α1->Prop}{G:Prop}(h:∃ x y,A0 x y/\A1 x y/\A2 x y/\A3 x y)(k:∀ x y,A0 x y->A1 x y->A2 x y->A3 x y->G):G:=h.elim fun x h=>h.elim fun y h=>k x y h.1 h.2.1 h.2.2.1 h.2.2.2
theorem I2_4 {α0:Sort _}{α1:Sort _}{A0 A1 A2 A3:α0->α1->Prop}(x:α0)(y:α1)(h0:A0 x y)(h1:A1 x y)(h2:A2 x y)(h3:A3 x y):∃ x y,A0 x y/\A1 x y/\A2 x y/\A3 x y:=⟨x,y,h0,h1,h2,h3⟩
theorem E3_3 {α0:Sort _}{α1:Sort _}{α2:Sort _}{A0 A1 A2:α0->α1->α2->Prop}{G:Prop}(h:∃ x y z,A0 x y z/\A1 x y z/\A2 x y z)(k:∀ x y z,A0 x y z->A1 x y z->A2 x y z->G):G:=h.elim fun x h=>h.elim fun y h=>h.elim fun z h=>k x y z h.1 h.2.1 h.2.2
theorem I3_3 {α0:Sort _}{α1:Sort _}{α2:Sort _}{A0 A1 A2:α0->α1->α2->Prop}(x:α0)(y:α1)(z:α2)(h0:A0 x y z)(h1:A1 x y z)(h2:A2 x y z):∃ x y z,A0 x y z/\A1 x y z/\A2 x y z:=⟨x,y,z,h0,h1,h2⟩
theorem E4_2 {α0:Sort _}{α1:Sort _}{α2:Sort _}{α3:Sort _}{A0 A1:α0->α1->α2->α3->Prop}{G:Prop}(h:∃ x y z u,A0 x y z u/\A1 x y z u)(k:∀ x y z u,A0 x y z u->A1 x y z u->G):G:=h.elim fun x h=>h.elim fun y h=>h.elim fun z h=>h.elim fun u h=>k x y z u h.1 h.2
theorem I4_2 {α0:Sort _}{α1:Sort _}{α2:Sort _}{α3:Sort _}{A0 A1:α0->α1->α2->α3->Prop}(x:α0)(y:α1)(z:α2)(u:α3)(h0:A0 x y z u)(h1:A1 x y z u):∃ x y z u,A0 x y z u/\A1 x y z u:=⟨x,y,z,u,h0,h1⟩
theorem E5_1 {α0:Sort _}{α1:Sort _}{α2:Sort _}{α3:Sort _}{α4:Sort _}{A0:α0->α1->α2->α3->α4->Prop}{G:Prop}(h:∃ x y z u v,A0 x y z u v)(k:∀ x y z u v,A0 x y z u v->G):G:=h.elim fun x h=>h.elim fun y h=>h.elim fun z h=>h.elim fun u h=>h.elim fun v h=>k x y z u v h
theorem I0_7 {A0 A1 A2 A3 A4 A5 A6:Prop}(h0:A0)(h1:A1)(h2:A2)(h3:A3)(h4:A4)(h5:A5)(h6:A6):A0/\A1/\A2/\A3/\A4/\A5/\A6:=⟨h0,h1,h2,h3,h4,h5,h6⟩
theorem E3_4 {α0:Sort _}{α1:Sort _}{α2:Sort _}{A0 A1 A2 A3:α0->α1->α2->Prop}{G:Prop}(h:∃ x y z,A0 x y z/\A1 x y z/\A2 x y z/\A3 x y z)(k:∀ x y z,A0 x y z->A1 x y z->A2 x y z->A3 x y z->G):G:=h.elim fun x h=>h.elim fun y h=>h.elim fun z h=>k x y z h.1 h.2.1 h.2.2.1 h.2.2.2
theorem I3_4 {α0:Sort _}{α1:Sort _}{α2:Sort _}{A0 A1 A2 A3:α0->α1->α2->Prop}(x:α0)(y:α1)(z:α2)(h0:A0 x y z)(h1:A1 x y z)(h2:A2 x y z)(h3:A3 x y z):∃ x y z,A0 x y z/\A1 x y z/\A2 x y z/\A3 x y z:=⟨x,y,z,h0,h1,h2,h3⟩
theorem E4_3 {α0:Sort _}{α1:Sort _}{α2:Sort _}{α3:Sort _}{A0 A1 A2:α0->α1->α2->α3->Prop}{G:Prop}(h:∃ x y z u,A0 x y z u/\A1 x y z u/\A2 x y z u)(k:∀ x y z u,A0 x y z u->A1 x y z u->A2 x y z u->G):G:=h.elim fun x h=>h.elim fun y h=>h.elim fun z h=>h.elim fun u h=>k x y z u h.1 h.2.1 h.2.2
theorem I4_3 {α0:Sort _}{α1:Sort _}{α2:Sort _}{α3:Sort _}{A0 A1 A2:α0->α1->α2->α3->Prop}(x:α0)(y:α1)(z:α2)(u:α3)(h0:A0 x y z u)(h1:A1 x y z u)(h2:A2 x y z u):∃ x y z u,A0 x y z u/\A1 x y z u/\A2 x y z u:=⟨x,y,z,u,h0,h1,h2⟩
theorem E0_8 {A0 A1 A2 A3 A4 A5 A6 A7:Prop}{G:Prop}(h:A0/\A1/\A2/\A3/\A4/\A5/\A6/\A7)(k:A0->A1->A2->A3->A4->A5->A6->A7->G):G:=k  h.1 h.2.1 h.2.2.1 h.2.2.2.1 h.2.2.2.2.1 h.2.2.2.2.2.1 h.2.2.2.2.2.2.1 h.2.2.2.2.2.2.2
theorem E2_6 {α0:Sort _}{α1:Sort _}{A0 A1 A2 A3 A4 A5:α0->α1->Prop}{G:Prop}(h:∃ x y,A0 x y/\A1 x y/\A2 x y/\A3 x y/\A4 x y/\A5 x y)(k:∀ x y,A0 x y->A1 x y->A2 x y->A3 x y->A4 x y->A5 x y->G):G:=h.elim fun x h=>h.elim fun y h=>k x y h.1 h.2.1 h.2.2.1 h.2.2.2.1 h.2.2.2.2.1 h.2.2.2.2.2
theorem E3_5 {α0:Sort _}{α1:Sort _}{α2:Sort _}{A0 A1 A2 A3 A4:α0->α1->α2->Prop}{G:Prop}(h:∃ x y z,A0 x y z/\A1 x y z/\A2 x y z/\A3 x y z/\A4 x y z)(k:∀ x y z,A0 x y z->A1 x y z->A2 x y z->A3 x y z->A4 x y z->G):G:=h.elim fun x h=>h.elim fun y h=>h.elim fun z h=>k x y z h.1 h.2.1 h.2.2.1 h.2.2.2.1 h.2.2.2.2
theorem E4_4 {α0:Sort _}{α1:Sort _}{α2:Sort _}{α3:Sort _}{A0 A1 A2 A3:α0->α1->α2->α3->Prop}{G:Prop}(h:∃ x y z u,A0 x y z u/\A1 x y z u/\A2 x y z u/\A3 x y z u)(k:∀ x y z u,A0 x y z u->A1 x y z u->A2 x y z u->A3 x y z u->G):G:=h.elim fun x h=>h.elim fun y h=>h.elim fun z h=>h.elim fun u h=>k x y z u h.1 h.2.1 h.2.2.1 h.2.2.2
theorem I4_4 {α0:Sort _}{α1:Sort _}{α2:Sort _}{α3:Sort _}{A0 A1 A2 A3:α0->α1->α2->α3->Prop}(x:α0)(y:α1)(z:α2)(u:α3)(h0:A0 x y z u)(h1:A1 x y z u)(h2:A2 x y z u)(h3:A3 x y z u):∃ x y z u,A0 x y z u/\A1 x y z u/\A2 x y z u/\A3 x y z u:=⟨x,y,z,u,h0,h1,h2,h3⟩
theorem E3_6 {α0:Sort _}{α1:Sort _}{α2:Sort _}{A0 A1 A2 A3 A4 A5:α0->α1->α2->Prop}{G:Prop}(h:∃ x y z,A0 x y z/\A1 x y z/\A2 x y z/\A3 x y z/\A4 x y z/\A5 x y z)(k:∀ x y z,A0 x y z->A1 x y z->A2 x y z->A3 x y z->A4 x y z->A5 x y z->G):G:=h.elim fun x h=>h.elim fun y h=>h.elim fun z h=>k x y z h.1 h.2.1 h.2.2.1 h.2.2.2.1 h.2.2.2.2.1 h.2.2.2.2.2
theorem E4_5 {α0:Sort _}{α1:Sort _}{α2:Sort _}{α3:Sort _}{A0 A1 A2 A3 A4:α0->α1->α2->α3->Prop}{G:Prop}(h:∃ x y z u,A0 x y z u/\A1 x y z u/\A2 x y z u/\A3 x y z u/\A4 x y z u)(k:∀ x y z u,A0 x y z u->A1 x y z u->A2 x y z u->A3 x y z u->A4 x y z u->G):G:=h.elim fun x h=>h.elim fun y h=>h.elim fun z h=>h.elim fun u h=>k x y z u h.1 h.2.1 h.2.2.1 h.2.2.2.1 h.2.2.2.2
theorem E5_4 {α0:Sort _}{α1:Sort _}{α2:Sort _}{α3:Sort _}{α4:Sort _}{A0 A1 A2 A3:α0->α1->α2->α3->α4->Prop}{G:Prop}(h:∃ x y z u v,A0 x y z u v/\A1 x y z u v/\A2 x y z u v/\A3 x y z u v)(k:∀ x y z u v,A0 x y z u v->A1 x y z u v->A2 x y z u v->A3 x y z u v->G):G:=h.elim fun x h=>h.elim fun y h=>h.elim fun z h=>h.elim fun u h=>h.elim fun v h=>k x y z u v h.1 h.2.1 h.2.2.1 h.2.2.2
theorem E2_9 {α0:Sort _}{α1:Sort _}{A0 A1 A2 A3 A4 A5 A6 A7 A8:α0->α1->Prop}{G:Prop}(h:∃ x y,A0 x y/\A1 x y/\A2 x y/\A3 x y/\A4 x y/\A5 x y/\A6 x y/\A7 x y/\A8 x y)(k:∀ x y,A0 x y->A1 x y->A2 x y->A3 x y->A4 x y->A5 x y->A6 x y->A7 x y->A8 x y->G):G:=h.elim fun x h=>h.elim fun y h=>k x y h.1 h.2.1 h.2.2.1 h.2.2.2.1 h.2.2.2.2.1 h.2.2.2.2.2.1 h.2.2.2.2.2.2.1 h.2.2.2.2.2.2.2.1 h.2.2.2.2.2.2.2.2
theorem E3_7 {α0:Sort _}{α1:Sort _}{α2:Sort _}{A0 A1 A2 A3 A4 A5 A6:α0->α1->α2->Prop}{G:Prop}(h:∃ x y z,A0 x y z/\A1 x y z/\A2 x y z/\A3 x y z/\A4 x y z/\A5 x y z/\A6 x y z)(k:∀ x y z,A0 x y z->A1 x y z->A2 x y z->A3 x y z->A4 x y z->A5 x y z->A6 x y z->G):G:=h.elim fun x h=>h.elim fun y h=>h.elim fun z h=>k x y z h.1 h.2.1 h.2.2.1 h.2.2.2.1 h.2.2.2.2.1 h.2.2.2.2.2.1 h.2.2.2.2.2.2
inductive PV where
 | raw (v:Value)
 | int (i:Int)
 | str (x:Str)
 | byt (b:Array UInt8)
 | tup (l:List PV)
 | lst (l:List PV)
noncomputable abbrev zei (items:Array Value)(n:Nat):Obj:={ cls:=.type "tuple",data:=.seq items n }
noncomputable abbrev zam (items:Array Value)(n:Nat):Obj:={ cls:=.type "list",data:=.seq items n }
mutual
inductive VR (h:Heap)(own:List Addr):PV->Value->Prop
 | raw (v:Value):VR h own (.raw v) v
 | int (i:Int) (t:Tok):VR h own (.int i) (.int i t)
 | str (x:Str) (t:Tok):VR h own (.str x) (.str x t)
 | byt (b:Array UInt8) (t:Tok):VR h own (.byt b) (.bytes b t)
 | tup {l:List PV} {a:Addr} {items:Array Value} {n:Nat} (ha:a∉own) (ho:h.get? a=some (zei items n)) (hl:VRs h own l items.toList):VR h own (.tup l) (.ref a)
 | lst {l:List PV} {a:Addr} {items:Array Value} {n:Nat} (ha:a∉own) (ho:h.get? a=some (zam items n)) (hl:VRs h own l items.toList):VR h own (.lst l) (.ref a)
inductive VRs (h:Heap)(own:List Addr):List PV->List Value->Prop
 | nil:VRs h own [] []
 | cons {p:PV} {v:Value} {ps:List PV} {vs:List Value} (hv:VR h own p v) (hs:VRs h own ps vs):VRs h own (p::ps) (v::vs)
end
section
variable {h:Heap}{own:List Addr}{v:Value}{motive:Value->Prop}
@[elab_as_elim] theorem VR.eI {i:Int}(x:VR h own (.int i) v)(k:∀ t,motive (.int i t)):motive v:=by cases x;exact k _
@[elab_as_elim] theorem VR.eS {y:Str}(x:VR h own (.str y) v)(k:∀ t,motive (.str y t)):motive v:=by cases x;exact k _
@[elab_as_elim] theorem VR.eB {b:Array UInt8}(x:VR h own (.byt b) v)(k:∀ t,motive (.bytes b t)):motive v:=by cases x;exact k _
@[elab_as_elim] theorem VR.eR {u:Value}(x:VR h own (.raw u) v)(k:motive u):motive v:=by cases x;exact k
@[elab_as_elim] theorem VR.eT {l:List PV}(x:VR h own (.tup l) v)(k:∀ a items n,a∉own->h.get? a=some (zei items n)->VRs h own l items.toList->motive (.ref a)):motive v:=by cases x;exact k _ _ _ ‹_› ‹_› ‹_›
@[elab_as_elim] theorem VR.eL {l:List PV}(x:VR h own (.lst l) v)(k:∀ a items n,a∉own->h.get? a=some (zam items n)->VRs h own l items.toList->motive (.ref a)):motive v:=by cases x;exact k _ _ _ ‹_› ‹_› ‹_›
end
@[elab_as_elim] theorem VRs.e0 {h:Heap}{own:List Addr}{vs:List Value}{motive:List Value->Prop}(x:VRs h own [] vs)(k:motive []):motive vs:=by cases x;exact k
@[elab_as_elim] theorem VRs.e1 {h:Heap}{own:List Addr}{p:PV}{ps:List PV}{vs:List Value}{motive:List Value->Prop}(x:VRs h own (p::ps) vs)(k:∀ v us,VR h own p v->VRs h own ps us->motive (v::us)):motive vs:=by cases x;exact k _ _ ‹_› ‹_›
theorem VRs.c0 {h:Heap}{own:List Addr}{p:PV}{ps:List PV}{C:Prop}(x:VRs h own (p::ps) []):C:=by cases x
theorem VRs.cc {h:Heap}{own:List Addr}{p:PV}{ps:List PV}{v:Value}{us:List Value}{C:Prop}(x:VRs h own (p::ps) (v::us))(k:VR h own p v->VRs h own ps us->C):C:=by cases x;exact k ‹_› ‹_›
theorem VRs.length {h:Heap}{own:List Addr}{ps:List PV}{vs:List Value}(a:VRs h own ps vs):vs.length=ps.length:=by
 induction ps generalizing vs with
 | nil=>exact VRs.e0 a rfl
 | cons p ps ih=>exact VRs.e1 a fun v us _ hs=>congrArg (·+1) (ih hs)
theorem VRs.get {h:Heap}{own:List Addr}{ps:List PV}{vs:List Value}(a:VRs h own ps vs){i:Nat}{p:PV}(e:ps[i]?=some p):∃ v,vs[i]?=some v/\VR h own p v:=by
 induction ps generalizing vs i with
 | nil=>exact noS e
 | cons q ps ih =>
  refine VRs.e1 a fun v us hv hs=>?_
  cases i with
  | zero=>exact ⟨v,rfl,Option.some.inj e ▸ hv⟩
  | succ i=>exact ih hs e
theorem VRs.append {h:Heap}{own:List Addr}{ps qs:List PV}{vs us:List Value}(a:VRs h own ps vs)(b:VRs h own qs us):VRs h own (ps++qs) (vs++us):=by
 induction ps generalizing vs with
 | nil=>cases a;exact b
 | cons p ps ih=>cases a with | cons hv hs=>exact .cons hv (ih hs)
theorem VRs.take {h:Heap}{own:List Addr}{ps:List PV}{vs:List Value}(a:VRs h own ps vs)(n:Nat):VRs h own (ps.take n) (vs.take n):=by
 induction n generalizing ps vs with
 | zero=>simp;exact .nil
 | succ n ih=>cases a with
  | nil=>simp;exact .nil
  | cons hv hs=>exact .cons hv (ih hs)
theorem VRs.drop {h:Heap}{own:List Addr}{ps:List PV}{vs:List Value}(a:VRs h own ps vs)(n:Nat):VRs h own (ps.drop n) (vs.drop n):=by
 induction n generalizing ps vs with
 | zero=>exact a
 | succ n ih=>cases a with
  | nil=>simp;exact .nil
  | cons hv hs=>exact ih hs
theorem VRs.reverse {h:Heap}{own:List Addr}{ps:List PV}{vs:List Value}(a:VRs h own ps vs):VRs h own ps.reverse vs.reverse:=by
 induction ps generalizing vs with
 | nil=>cases a;exact .nil
 | cons p ps ih=>cases a with
  | cons hv hs=>simp only [List.reverse_cons];exact (ih hs).append (.cons hv .nil)
def Kp (h h':Heap)(own own':List Addr):Prop :=
 ∀ b o xs n,h.get? b=some o->o.data=.seq xs n->b∉own->h'.get? b=some o/\b∉own'
theorem VR.mono {h h':Heap}{own own':List Addr}(k:Kp h h' own own'){p:PV}{v:Value}(x:VR h own p v):VR h' own' p v :=
 VR.rec (motive_1:=fun p v _=>VR h' own' p v) (motive_2:=fun p v _=>VRs h' own' p v) .raw .int .str .byt (fun ha ho _ r=>.tup (k _ _ _ _ ho rfl ha).2 (k _ _ _ _ ho rfl ha).1 r) (fun ha ho _ r=>.lst (k _ _ _ _ ho rfl ha).2 (k _ _ _ _ ho rfl ha).1 r) .nil (fun _ _ a b=>.cons a b) x
theorem VRs.mono {h h':Heap}{own own':List Addr}(k:Kp h h' own own'){p:List PV}{v:List Value}(x:VRs h own p v):VRs h' own' p v :=
 VRs.rec (motive_1:=fun p v _=>VR h' own' p v) (motive_2:=fun p v _=>VRs h' own' p v) .raw .int .str .byt (fun ha ho _ r=>.tup (k _ _ _ _ ho rfl ha).2 (k _ _ _ _ ho rfl ha).1 r) (fun ha ho _ r=>.lst (k _ _ _ _ ho rfl ha).2 (k _ _ _ _ ho rfl ha).1 r) .nil (fun _ _ a b=>.cons a b) x
set_option genInjectivity true in
inductive MO where
 | list (l:List PV)
 | inst (dx C:Addr) (att:List (Str × PV)) (body:Option (List PV))
 | obj (o:Obj)
noncomputable def MO.addrs (a:Addr):MO->List Addr
 | .list _=>[a]
 | .inst dx _ _ _=>[a,dx]
 | .obj _=>[a]
inductive zgo (h:Heap)(own:List Addr):List (Str × PV)->List DictEntry->Prop
 | nil:zgo h own [] []
 | cons {x:Str} {p:PV} {v:Value} {hs:Int} {t:Tok} {att:List (Str × PV)} {es:List DictEntry} (hv:VR h own p v) (r:zgo h own att es):zgo h own ((x,p)::att) (⟨hs,.str x t,v⟩::es)
theorem zgo.mono {h h':Heap}{own own':List Addr}(k:Kp h h' own own'){att:List (Str × PV)}{es:List DictEntry}(r:zgo h own att es):zgo h' own' att es:=by
 induction r with
 | nil=>exact .nil
 | cons hv _ ih=>exact .cons (hv.mono k) ih
noncomputable def zp1 (h:Heap)(own:List Addr):Option (List PV)->Data->Prop
 | none,d=>d=.plain
 | some l,d=>∃ items n,d=.seq items n/\VRs h own l items.toList
noncomputable def ZR (h:Heap)(own:List Addr)(a:Addr):MO->Prop
 | .list l=>∃ items n,h.get? a=some (zam items n)/\VRs h own l items.toList
 | .inst dx C att body=>∃ d es n,h.get? a=some { cls:=.ref C,dict:=some dx,data:=d }/\zp1 h own body d/\h.get? dx=some { cls:=.type "dict",data:=.dict es n }/\zgo h own att es.toList
 | .obj o=>h.get? a=some o/\(∀ v,o.data≠.cell v)/\o.cls≠.none
structure AS where
 loc:List (Str × PV)
 zone:List (Addr × MO)
noncomputable def AS.own (σ:AS):List Addr:=σ.zone.flatMap fun z=>z.2.addrs z.1
structure Gl where
 prog:Program
 w:World
 h₁:Heap
 os:OsState
 gk:Option (Nat × GenState):=none
def zka (g:Gl)(gens:Array GenState):Prop:=AllBare gens/\∀ i x,g.gk=some (i,x)->gens[i]?=some x
def zjM (h:Heap)(env:Env)(x:Str)(v:Value):Prop :=
 (env.kindOf x=some .local/\∃ m,h.Ns env.locals m/\m x=some v) \/
 ((env.kindOf x=some .cell\/env.kindOf x=some .free)/\∃ c o,env.cells.lookup x=some c/\h.get? c=some o/\o.data=.cell (some v))
def hard (o:Obj):Prop:=o.cls≠.none\/∀ vs,o.data≠.fields vs
def zr (o:Obj):Prop:=(∃ es n,o.data=.dict es n)\/∃ v,o.data=.cell v
theorem zr.hard {o:Obj}(h:zr o):hard o:=by
 rcases h with ⟨es,n,e⟩ | ⟨v,e⟩ <;> exact .inr fun vs q=>by rw [e] at q;cases q
theorem zr.notSeq {o:Obj}(h:zr o)(xs:Array Value)(n:Nat):o.data≠.seq xs n:=by
 rcases h with ⟨es,n,e⟩ | ⟨v,e⟩ <;> (rw [e];intro q;cases q)
structure Fm where
 env:Env
 fr:List Addr
def zhp (o:Obj):Prop:=∃ v,o.data=.cell v
def Cl (F:Fm)(h:Heap):Prop:=∀ x c,F.env.kindOf x=some .cell->F.env.cells.lookup x=some c->c∈F.fr->c≠F.env.locals->∃ o,h.get? c=some o/\zhp o
theorem Cl.to {F:Fm}{h h':Heap}(k:Cl F h)(hk:∀ b o,h.get? b=some o->zhp o->h'.get? b=some o):Cl F h':=fun x c a b d e=>let ⟨o,e1,e2⟩:=k x c a b d e;⟨o,hk c o e1 e2,e2⟩
noncomputable abbrev zqz (ps:Array Value):Obj:={ cls:=.none,data:=.fields ps }
structure zcU (h₀ h:Heap):Prop where
 k:OldK h₀ h
 tab:∀ P ps₀,h₀.get? P=some (zqz ps₀)->TriplesOk ps₀.toList->∃ ps,h.get? P=some (zqz ps)/\TriplesOk ps.toList
theorem zcU.get_of_cls {h₀ h:Heap}(K:zcU h₀ h){b:Addr}{o:Obj}(e:h₀.get? b=some o)(hc:o.cls≠.none):h.get? b=some o:=K.k.get_of_cls e hc
theorem zcU.step_keeps {h₀ h h':Heap}(K:zcU h₀ h)(hk:∀ b o,h.get? b=some o->h'.get? b=some o):zcU h₀ h' :=
 ⟨K.k.step_keeps hk,fun P ps e t=>let ⟨ps',e',t'⟩:=K.tab P ps e t;⟨ps',hk _ _ e',t'⟩⟩
structure Sat (g:Gl)(F:Fm)(σ:AS)(s:Shared):Prop where
 old:zcU g.h₁ s.heap
 lim:s.heap.NoLimit
 os:s.os=g.os
 bare:zka g s.gens
 nd:(F.fr++σ.own).Nodup
 lo:∀ a∈F.fr++σ.own,g.h₁.objs.size<=a
 zs:∀ z∈σ.zone,ZR s.heap σ.own z.1 z.2
 fr:∀ a∈F.fr,∃ o,s.heap.get? a=some o/\zr o
 ns:∃ m,s.heap.Ns F.env.locals m
 nin:F.env.locals∈F.fr
 loc:∀ x p,σ.loc.lookup x=some p->∃ v,zjM s.heap F.env x v/\VR s.heap σ.own p v
 cs:cStatics < g.h₁.objs.size
 cl:Cl F s.heap
structure Stp (fr:List Addr)(own:List Addr)(s:Shared)(own':List Addr)(s':Shared):Prop where
 keep:∀ b o,s.heap.get? b=some o->b∉fr->b∉own->hard o->s'.heap.get? b=some o
 there:∀ b o,s.heap.get? b=some o->∃ o',s'.heap.get? b=some o'
 fresh:∀ a∈own',a∈own\/s.heap.get? a=none
 gens:∀ (i:Nat) (x:GenState),s.gens[i]?=some x->s'.gens[i]?=some x
theorem Stp.refl {fr:List Addr}{own:List Addr}{s:Shared}:Stp fr own s own s:=⟨fun _ _ e _ _ _=>e,fun _ o e=>⟨o,e⟩,fun _ h=>.inl h,fun _ _ e=>e⟩
theorem Stp.trans {fr:List Addr}{o₁ o₂ o₃:List Addr}{s₁ s₂ s₃:Shared}(x:Stp fr o₁ s₁ o₂ s₂)(y:Stp fr o₂ s₂ o₃ s₃):Stp fr o₁ s₁ o₃ s₃:=by
 refine ⟨fun b o e nf no hc=>?_,fun b o e=>let ⟨o',e'⟩:=x.there b o e;y.there b o' e',fun a ha=>?_,fun i z e=>y.gens i z (x.gens i z e)⟩
 ·refine y.keep b o (x.keep b o e nf no hc) nf (fun hb=>?_) hc
  rcases x.fresh b hb with q | q
  ·exact no q
  ·rw [e] at q;cases q
 ·rcases y.fresh a ha with q | q
  ·exact x.fresh a q
  ·refine .inr ?_
   cases e:s₁.heap.get? a with
   | none=>rfl
   | some o =>
    obtain ⟨o',e'⟩:=x.there a o e
    rw [e'] at q;cases q
theorem Stp.up {fr own own':List Addr}{s s':Shared}(x:Stp [] own s own' s'):Stp fr own s own' s':=⟨fun b o e _ no hc=>x.keep b o e List.not_mem_nil no hc,x.there,x.fresh,x.gens⟩
theorem Sat.kp {g:Gl}{F:Fm}{σ σ':AS}{s s':Shared}{fr:List Addr}(S:Sat g F σ s)(st:Stp fr σ.own s σ'.own s')(hfr:∀ b∈fr,b∈F.fr:=by first | exact fun _ h=>h | exact fun _ h=>absurd h List.not_mem_nil):Kp s.heap s'.heap σ.own σ'.own:=by
 intro b o xs n e hd no
 have nf:b∉F.fr:=fun hb=>by
  obtain ⟨o',e',h'⟩:=S.fr b hb
  rw [e] at e';cases e'
  exact h'.notSeq xs n hd
 refine ⟨st.keep b o e (fun h=>nf (hfr b h)) no (.inr fun vs q=>by rw [hd] at q;cases q),fun hb=>?_⟩
 rcases st.fresh b hb with q | q
 ·exact no q
 ·rw [e] at q;cases q
def J {α β:Type}(g:Gl)(A:Around)(F:Fm)(fr:List Addr)(R:Heap->List Addr->β->α->Prop)(t:Sem α)(σ:AS)(P:β->AS->Prop):Prop :=
 ∀ s,Sat g F σ s->∀ (Q:α->Shared->Prop) (E:Value->Shared->Prop),
  (∀ a b σ' s',P b σ'->Sat g F σ' s'->R s'.heap σ'.own b a->Stp fr σ.own s σ'.own s'->Q a s')->wpAny (model g.prog g.w) A t Q E s
def EQ {α:Type}(_:Heap)(_:List Addr)(b a:α):Prop:=a=b
inductive Fl where
 | next | brk | cont
 | ret (p:PV)
inductive FlR (h:Heap)(own:List Addr):Fl->Flow->Prop
 | next:FlR h own .next .next
 | brk:FlR h own .brk .brk
 | cont:FlR h own .cont .cont
 | ret {p:PV} {v:Value} (hv:VR h own p v):FlR h own (.ret p) (.ret v)
abbrev EV (g:Gl)(A:Around)(F:Fm)(e:Expr)(σ:AS)(P:PV->AS->Prop):Prop:=J g A F [] VR (eval e F.env) σ P
abbrev TR (g:Gl)(A:Around)(F:Fm)(e:Expr)(σ:AS)(P:Bool->AS->Prop):Prop:=J g A F [] EQ (isTrue e F.env (eval e F.env)) σ P
abbrev EX (g:Gl)(A:Around)(F:Fm)(st:Stmt)(σ:AS)(P:Fl->AS->Prop):Prop:=J g A F F.fr FlR (exec st F.env) σ P
abbrev EXs (g:Gl)(A:Around)(F:Fm)(sts:List Stmt)(σ:AS)(P:Fl->AS->Prop):Prop:=J g A F F.fr FlR (execs sts F.env) σ P
def OP1 (g:Gl)(A:Around)(F:Fm)(t:Value->Sem Value)(p:PV)(σ:AS)(P:PV->AS->Prop):Prop :=
 ∀ s v,Sat g F σ s->VR s.heap σ.own p v->∀ (Q:Value->Shared->Prop) (E:Value->Shared->Prop),
  (∀ a b σ' s',P b σ'->Sat g F σ' s'->VR s'.heap σ'.own b a->Stp [] σ.own s σ'.own s'->Q a s')->wpAny (model g.prog g.w) A (t v) Q E s
def OP2 (g:Gl)(A:Around)(F:Fm)(t:Value->Value->Sem Value)(p q:PV)(σ:AS)(P:PV->AS->Prop):Prop :=
 ∀ s v u,Sat g F σ s->VR s.heap σ.own p v->VR s.heap σ.own q u->∀ (Q:Value->Shared->Prop) (E:Value->Shared->Prop),
  (∀ a b σ' s',P b σ'->Sat g F σ' s'->VR s'.heap σ'.own b a->Stp [] σ.own s σ'.own s'->Q a s')->wpAny (model g.prog g.w) A (t v u) Q E s
def CL (g:Gl)(A:Around)(F:Fm)(f:Value)(ps:List PV)(σ:AS)(P:PV->AS->Prop):Prop :=
 ∀ s vs,Sat g F σ s->VRs s.heap σ.own ps vs->∀ (Q:Value->Shared->Prop) (E:Value->Shared->Prop),
  (∀ a b σ' s',P b σ'->Sat g F σ' s'->VR s'.heap σ'.own b a->Stp [] σ.own s σ'.own s'->Q a s')->wpAny (model g.prog g.w) A (call f vs) Q E s
section
variable {g:Gl}{A:Around}{F:Fm}{σ:AS}{P:PV->AS->Prop}{s:Shared}
theorem Sat.toks (S:Sat g F σ s)(n:Nat):Sat g F σ { s with toks:=n }:=⟨S.old,S.lim,S.os,S.bare,S.nd,S.lo,S.zs,S.fr,S.ns,S.nin,S.loc,S.cs,S.cl⟩
theorem Stp.toks {fr own:List Addr}{n:Nat}:Stp fr own s own { s with toks:=n }:=⟨fun _ _ e _ _ _=>e,fun _ o e=>⟨o,e⟩,fun _ h=>.inl h,fun _ _ e=>e⟩
theorem J.mono {α β:Type}{fr:List Addr}{R:Heap->List Addr->β->α->Prop}{t:Sem α}{P P':β->AS->Prop}(x:J g A F fr R t σ P)(h:∀ b σ',P b σ'->P' b σ'):J g A F fr R t σ P' :=
 fun s S Q E k=>x s S Q E fun a b σ' s' p=>k a b σ' s' (h b σ' p)
theorem OldK.ext {h₀ h h':Heap}{a:Addr}(K:OldK h₀ h)(ha:h₀.objs.size<=a)(hs:Heap.ExtBut a h h'):OldK h₀ h':=by
 have ne:∀ b o,h₀.get? b=some o->b≠a:=fun b o e=>Nat.ne_of_lt (Nat.lt_of_lt_of_le (Heap.lt_size e) ha)
 refine ⟨fun b o e=>?_,fun b o e=>let ⟨o',ho'⟩:=K.there b o e;⟨o',hs b _ (ne b o e) ho'⟩⟩
 rcases K.old b o e with x | ⟨t,hc,vs,more,hv,x⟩ | ⟨rfl,hc,⟨o',es,n,ho',r⟩,z⟩
 ·exact .inl (hs b _ (ne b o e) x)
 ·exact .inr (.inl ⟨t,hc,vs,more,hv,hs b _ (ne b o e) x⟩)
 ·exact .inr (.inr ⟨rfl,hc,⟨o',es,n,hs _ _ (ne _ o e) ho',r⟩,fun key=>by rw [OldK.staticOf_congr ((hs _ _ (ne _ o e) ho').trans ho'.symm) key];exact z key⟩)
theorem zcU.ext {h₀ h h':Heap}{a:Addr}(K:zcU h₀ h)(ha:h₀.objs.size<=a)(hs:Heap.ExtBut a h h'):zcU h₀ h' :=
 ⟨OldK.ext K.k ha hs,fun P ps e t=>let ⟨ps',e',t'⟩:=K.tab P ps e t;⟨ps',hs _ _ (Nat.ne_of_lt (Nat.lt_of_lt_of_le (Heap.lt_size e) ha)) e',t'⟩⟩
theorem NoLimit.ext {h h':Heap}{a:Addr}(n:h.NoLimit)(ha:cStatics≠a)(hs:Heap.ExtBut a h h'):h'.NoLimit:=by
 obtain ⟨mc,⟨o,es,ep,e,r⟩,h2⟩:=n
 exact ⟨mc,⟨o,es,ep,hs _ _ ha e,r⟩,h2⟩
theorem zjM.ext {h h':Heap}{env:Env}{x:Str}{v:Value}(n:zjM h env x v)(hk:∀ b o,h.get? b=some o->zr o->h'.get? b=some o):zjM h' env x v:=by
 rcases n with ⟨a,m,⟨o,es,ep,e,d,r⟩,c⟩ | ⟨a,c,o',h3,h4,h5⟩
 ·exact .inl ⟨a,m,⟨o,es,ep,hk _ _ e (.inl ⟨es,ep,d⟩),d,r⟩,c⟩
 ·exact .inr ⟨a,c,o',h3,hk _ _ h4 (.inr ⟨_,h5⟩),h5⟩
theorem Sat.ext (S:Sat g F σ s){h':Heap}{a:Addr}(ha:g.h₁.objs.size<=a)(hs:Heap.ExtBut a s.heap h')(hf:a∉F.fr)(ho:a∉σ.own)
  (hq:∀ o,s.heap.get? a=some o->¬ zr o/\∀ xs n,o.data≠.seq xs n):Sat g F σ { s with heap:=h' }:=by
 have kk:∀ b o',s.heap.get? b=some o'->zr o'->h'.get? b=some o':=fun b o' e fl=>hs b o' (fun q=>by subst q;exact (hq _ e).1 fl) e
 have kp:Kp s.heap h' σ.own σ.own:=fun b o' xs n e d no=>⟨hs b o' (fun q=>by subst q;exact (hq _ e).2 xs n d) e,no⟩
 have ko:∀ b o',s.heap.get? b=some o'->b∈σ.own->h'.get? b=some o':=fun b o' e hb=>hs b o' (fun q=>ho (q ▸ hb)) e
 have hcs:=S.cs
 refine ⟨zcU.ext S.old ha hs,NoLimit.ext S.lim (Nat.ne_of_lt (Nat.lt_of_lt_of_le hcs ha)) hs,S.os,S.bare,S.nd,S.lo,fun z hz=>?_,fun b hb=>?_,?_,S.nin,fun x p e=>?_,S.cs,S.cl.to fun b o e hc=>kk b o e (.inr hc)⟩
 ·have:=S.zs z hz
  have hin:∀ b∈z.2.addrs z.1,b∈σ.own:=fun b hb=>List.mem_flatMap.mpr ⟨z,hz,hb⟩
  obtain ⟨b,mo⟩:=z
  cases mo with
  | list l=>obtain ⟨items,n,h1,h2⟩:=this;exact ⟨items,n,ko _ _ h1 (hin b (by simp [MO.addrs])),h2.mono kp⟩
  | obj ob=>exact ⟨ko _ _ this.1 (hin b (by simp [MO.addrs])),this.2⟩
  | inst dx C att body =>
   obtain ⟨d,es,n,h1,h2,h3,h4⟩:=this
   refine ⟨d,es,n,ko _ _ h1 (hin b (by simp [MO.addrs])),?_,ko _ _ h3 (hin dx (by simp [MO.addrs])),h4.mono kp⟩
   cases body with
   | none=>exact h2
   | some l=>obtain ⟨items,n',e1,e2⟩:=h2;exact ⟨items,n',e1,e2.mono kp⟩
 ·obtain ⟨o',h1,h2⟩:=S.fr b hb;exact ⟨o',kk _ _ h1 h2,h2⟩
 ·obtain ⟨m,o,es,ep,e,d,r⟩:=S.ns;exact ⟨m,o,es,ep,kk _ _ e (.inl ⟨es,ep,d⟩),d,r⟩
 ·obtain ⟨v,h1,h2⟩:=S.loc x p e
  exact ⟨v,h1.ext kk,h2.mono kp⟩
theorem Sat.fr_lt (S:Sat g F σ s){a:Addr}(ha:a∈F.fr):a < s.heap.objs.size:=by
 obtain ⟨o,e,_⟩:=S.fr a ha
 exact Heap.lt_size e
theorem Sat.own_lt (S:Sat g F σ s){a:Addr}(ha:a∈σ.own):a < s.heap.objs.size:=by
 unfold AS.own at ha
 obtain ⟨z,hz,h⟩:=List.mem_flatMap.mp ha
 have:=S.zs z hz
 obtain ⟨b,mo⟩:=z
 cases mo with
 | list l =>
  obtain ⟨items,n,h1,h2⟩:=this
  simp [MO.addrs] at h;subst h;exact Heap.lt_size h1
 | obj ob=>simp [MO.addrs] at h;subst h;exact Heap.lt_size this.1
 | inst dx C att body =>
  obtain ⟨d,es,n,h1,h2,h3,h4⟩:=this
  simp [MO.addrs] at h
  rcases h with rfl | rfl
  ·exact Heap.lt_size h1
  ·exact Heap.lt_size h3
theorem zae (h:Heap):h.get? h.objs.size=none:=by
 cases e:h.get? h.objs.size with
 | none=>rfl
 | some o=>exact absurd (Heap.lt_size e) (Nat.lt_irrefl _)
theorem Sat.push (S:Sat g F σ s)(o:Obj):Sat g F σ { s with heap:=s.heap.push o }:=by
 have L:g.h₁.objs.size<=s.heap.objs.size:=by
  have:=S.lo _ (List.mem_append_left _ S.nin)
  exact Nat.le_of_lt (Nat.lt_of_le_of_lt this (S.fr_lt S.nin))
 refine S.ext (a:=s.heap.objs.size) L (fun b o' _ e=>Heap.get?_push_of_some o e) (fun h=>Nat.lt_irrefl _ (S.fr_lt h)) (fun h=>Nat.lt_irrefl _ (S.own_lt h)) fun o' e=>?_
 rw [zae] at e;cases e
theorem Stp.push {fr own:List Addr}(o:Obj):Stp fr own s own { s with heap:=s.heap.push o } :=
 ⟨fun b _ e _ _ _=>Heap.get?_push_of_some o e,fun b o' e=>⟨o',Heap.get?_push_of_some o e⟩,fun _ h=>.inl h,fun _ _ e=>e⟩
theorem Stp.off {fr own own':List Addr}{s₀:Shared}(x:Stp fr own s₀ own' s){h':Heap}{a:Addr}(ha:s₀.heap.get? a=none)(hs:Heap.ExtBut a s.heap h'):Stp fr own s₀ own' { s with heap:=h' }:=by
 have ne:∀ b o,s₀.heap.get? b=some o->b≠a:=fun b o e q=>by subst q;rw [ha] at e;cases e
 exact ⟨fun b o e nf no hc=>hs b o (ne b o e) (x.keep b o e nf no hc),fun b o e=>let ⟨o',e'⟩:=x.there b o e;⟨o',hs b o' (ne b o e) e'⟩,x.fresh,x.gens⟩
theorem VR.newTup (S:Sat g F σ s){ps:List PV}{vs:List Value}(h:VRs s.heap σ.own ps vs):VR (s.heap.push (zei vs.toArray 0)) σ.own (.tup ps) (.ref s.heap.objs.size):=by
 refine .tup (fun hb=>Nat.lt_irrefl _ (S.own_lt hb)) (Heap.get?_push_size _ rfl) ?_
 exact h.mono fun b o' xs n e _ no=>⟨Heap.get?_push_of_some _ e,no⟩
theorem VR.newLst (S:Sat g F σ s){ps:List PV}{vs:List Value}(h:VRs s.heap σ.own ps vs):VR (s.heap.push (zam vs.toArray 0)) σ.own (.lst ps) (.ref s.heap.objs.size):=by
 refine .lst (fun hb=>Nat.lt_irrefl _ (S.own_lt hb)) (Heap.get?_push_size _ rfl) ?_
 exact h.mono fun b o' xs n e _ no=>⟨Heap.get?_push_of_some _ e,no⟩
end
end Mine
end
open Lean in
private def zB (s : String) (xs : Array Syntax) : Syntax :=
  let st := (s.splitOn " ").foldl (init := [#[]]) fun st w => match st with
    | [] => st
    | g :: r => match w.toList with
      | [] => st
      | ['('] => #[] :: st
      | ')' :: k => match r with
        | [] => st
        | g' :: r => let k := String.ofList k
          g'.push (.node .none (match k.toList with | ['0'] => `null | 'T' :: '.' :: k => `Lean.Parser.Tactic ++ (String.ofList k).toName | 't' :: '.' :: k => `Lean.Parser.Term ++ (String.ofList k).toName | _ => k.toName) g) :: r
      | '\'' :: k => g.push (.atom .none (String.ofList k)) :: r
      | '$' :: k => g.push xs[(String.ofList k).toNat!]! :: r
      | '@' :: k => (g ++ xs[(String.ofList k).toNat!]!.getArgs) :: r
      | _ => g.push (mkIdent w.toName) :: r
  st.head![0]!
open Lean in
private def zS (a : String) : String := "( ( ( " ++ a ++ " )0 )T.tacticSeq1Indented )T.tacticSeq"
open Lean in
private def zP (a : String) : String := "( '( " ++ zS a ++ " ') )T.paren"
open Lean in
private def zO (a b : String) : String := "( 'first ( ( '| " ++ zS a ++ " )group ( '| " ++ zS b ++ " )group )0 )T.first"
open Lean in
private def zC (f a : String) : String := "( " ++ f ++ " ( " ++ a ++ " )0 )t.app"
open Lean in
private def zR (t : String) : String := "( 'refine " ++ t ++ " )T.refine"
open Lean in
private def zE (t : String) : String := "( 'exact " ++ t ++ " )T.exact"
open Lean in
private def zH : String := "( '? '_ )t.syntheticHole"
open Lean in
private def zF : String := "( 'fail ( )0 )T.fail"
open Lean in
private def zK : String := "( 'skip )T.skip"
open Lean in
private def zL : String := "( 'rfl )T.tacticRfl"
open Lean in
private def zM : String := "( 'assumption )T.assumption"
open Lean in
private def zT (a : String) : String := "( 'try " ++ zS a ++ " )T.tacticTry_"
open Lean in
private def zW (a : String) : String := "( 'with_reducible " ++ zS a ++ " )T.withReducible"
open Lean in
private def zU : String := "( 'with_unfolding_all " ++ zS zL ++ " )T.withUnfoldingAll"
open Lean in
private def zY (a : String) : String := "( 'by " ++ zS a ++ " )t.byTactic"
open Lean in
private def zX (a : String) : String := "( 'clear ( " ++ a ++ " )0 )T.clear"
open Lean in
private def zI (a : String) : String := "( 'intro ( " ++ a ++ " )0 )T.intro"
open Lean in
private def zJ (n : Nat) : String := " ".intercalate (List.replicate n "( '_ )t.hole")
open Lean in
private def zN (a : String) : String := "( 'rintro ( " ++ a ++ " )0 ( )0 )T.rintro"
open Lean in
private def zRI : String := "( 'with_reducible_and_instances " ++ zS (zE "rfl") ++ " )T.withReducibleAndInstances"
open Lean in
private def zD : String := zY "( 'decide ( ( )0 )T.optConfig )T.decide"
open Lean in
private def zZ (n : Nat) : String := zY s!"( 'walk_at ${n} )PyProof.Rows.tacticWalk_at_"
open Lean in
private def zA (k s t : String) : String :=
  ((s.drop 1).toString.splitOn " ").foldl (fun t n =>
    let a := zY zM
    let l := " '; " ++ zRI
    let w (s : String) := zW (zR (zC n (s ++ " " ++ zH)))
    zO (match k with
    | "r" => w ""
    | "e" => w (zZ 0)
    | "d" => w (zZ 0 ++ " " ++ zY zU)
    | "s" => zW (zR (zC n ("( '_ )t.hole " ++ zH ++ " " ++ zZ 1)))
    | "m" => w zD
    | "v" => w (zD ++ " " ++ zC "PyProof.noPylong_small" zD)
    | "n" => zE (zC n (zZ 0 ++ " " ++ zY zU))
    | "R" => zR (zC n zH)
    | "E" => zR (zC n (zZ 0 ++ " " ++ zH))
    | "U" => zR (zC n (zY zU ++ " " ++ zH))
    | "X" => zE n
    | "x" => zW (zE n)
    | "a" => zW (zE (zC n a))
    | "A" => zW (zE (zC n (a ++ " " ++ a)))
    | "b" => w a ++ l
    | _ => w (a ++ " " ++ a) ++ l) t) t
open Lean in
private def zG (a b : String) : String := a ++ " '; " ++ b
open Lean in
private def zV (a b : String) : String := "( 'focus " ++ zS (a ++ " '; ( 'all_goals " ++ zS b ++ " )T.allGoals") ++ " )T.focus"
open Lean in
private def zQ (n x u : String) (k : Nat) : String := zP (zG (zR (zC n (x ++ " " ++ zH))) (zG (zT (zX x)) (if k == 0 then zK else zI u)))
open Lean in
local macro_rules | `(tactic| walk_at $s:str) => do
  match s.getString.splitOn "~" with
  | [k, l] => return zB (zA k l zF) #[Syntax.mkStrLit "env"]
  | _ => Macro.throwUnsupported
open Lean in
local macro_rules | `(tactic| left) => return zB (zP (zG "( 'intros ( )0 )T.intros" zU)) #[]
open Lean in
private def zBd (t : String) : String := zO (zW zM) (zO (zG (zR (zC "Nat.le_of_ble_eq_true" zH)) zRI) (zA "x" "~Int.natCast_nonneg" (zA "a" "~Int.ofNat_le.mpr Int.ofNat_lt.mpr" (zA "A" "~zvv leF"
  (zA "b" "~leL leR zvD leB leS leT" (zA "c" "~zvy zvr leA zvs" (zA "a" "~zvu zvq Nat.lt_of_succ_lt Nat.le_of_lt Nat.pos_of_ne_zero zuD zvw zvB zvx zvC leG leW" t)))))))
open Lean in
local macro_rules | `(tactic| lia) => return zB (zBd "( 'lia ( ( ( ( '- abstractProof )T.negConfigItem )T.configItem )0 )T.optConfig )T.lia") #[]
open Lean in
local macro_rules | `(tactic| omega) => return zB (zBd ("( 'ome" ++ "ga ( ( ( ( '+ splitNatSub )T.posConfigItem )T.configItem )0 )T.optConfig )T.ome" ++ "ga")) #[]
open Lean in
local macro_rules | `(tactic| cases $xs,* $[using $_]? $[$w]?) => do
  let x := xs.elemsAndSeps[0]!
  unless x[1].isIdent do Macro.throwUnsupported
  let al (n : String) (u : String) (k : Nat) (t : String) := zO (zQ n "$0" u k) t
  match w with
  | none => return zB (al "VR.eI" (zJ 1) 1 (al "VR.eS" (zJ 1) 1 (al "VR.eB" (zJ 1) 1 (al "VR.eR" "" 0 (al "VR.eT" (zJ 6) 6 (al "VR.eL" (zJ 6) 6 (zO (zE (zC "VRs.c0" "$0")) (al "VRs.cc" (zJ 2) 2 (al "VRs.e0" "" 0 (al "VRs.e1" (zJ 4) 4
      (zO (zE (zC "noS" "$0")) (zO (zE (zC "Sno" "$0")) (let s := "( 'subst ( zq )0 )T.subst"; zO (zP (zG (zQ "oSS" "$0" "zq" 1) s)) (zP (zG (zQ "oRR" "$0" "zq" 1) s))))))))))))))) #[x[1]]
  | some w =>
    let a := w.raw[2][0]
    if w.raw[2].getNumArgs != 1 then Macro.throwUnsupported
    let l := a[0][0]
    let us := l[2].getArgs
    let r (n : String) (k d : Nat) (t : String) := zO (zQ n "$0" (zJ k ++ (if d == 0 then " @1" else " @2")) 1) t
    let t <- match l[1][1].getId.toString with
      | "cons" => pure (r "VRs.cc" 0 0 (r "VRs.e1" 2 0 zF))
      | "tup" => pure (r "VR.eT" 3 0 zF)
      | "lst" => pure (r "VR.eL" 3 0 zF)
      | "str" => pure (r "VR.eS" 0 1 zF)
      | "int" => pure (r "VR.eI" 0 1 zF)
      | "byt" => pure (r "VR.eB" 0 1 zF)
      | _ => Macro.throwUnsupported
    return zB (zP (zG t "( '( $3 ') )T.paren")) #[x[1], mkNullNode us, mkNullNode (us.extract 1 us.size), a[1][1]]
open Lean in
local macro_rules | `(tactic| obtain $p:rcasesPatMed $[: $T]? := $h:term) => do
  let as := p.raw[0].getSepArgs
  let k := if T.isSome then "( ( '( ( [anonymous] )hygieneInfo )t.hygienicLParen $0 ': ( $1 )0 ') )t.typeAscription" else "$0"
  if as.size > 1 then return zB ("( 'rcases ( ( ( )0 " ++ k ++ " )T.elimTarget )0 ( 'with ( $2 ( )0 )T.rcasesPatLo )0 )T.rcases") #[h, (T.map (·.raw)).getD .missing, p]
  let es := as[0]![1].getSepArgs
  let n := es.size
  if n < 2 || n > 11 || !as[0]!.isOfKind `Lean.Parser.Tactic.rcasesPat.tuple then Macro.throwUnsupported
  let t := (List.range n).foldl (fun t m => zO (zR (zC s!"E{n - m - 1}_{m + 1}" (k ++ " " ++ zH))) t) zF
  let t := if h.raw.isIdent then zP (zG t (zT (zX "$0"))) else t
  return zB ((List.range n).foldl (fun t m => zV t (zN s!"( ( '( ${m + 2} ') )T.rcasesPat.paren )T.rintroPat.one")) t) (#[h.raw, (T.map (·.raw)).getD .missing] ++ es)
open Lean in
local macro_rules | `(tactic| rcases $h:term with $p:rcasesPatMed) => do
  let as := p.raw[0].getArgs
  if as.size < 2 then
    if as[0]!.isOfKind `Lean.Parser.Tactic.rcasesPat.tuple then return zB "( 'obtain ( $0 )0 ( )0 ( ':= ( $1 )0 )0 )T.obtain" #[p, h]
    Macro.throwUnsupported
  let lo (s : String) := zN ("( ( '( ( ( ( " ++ s ++ " )0 )T.rcasesPatMed ( )0 )T.rcasesPatLo ') )T.rcasesPat.paren )T.rintroPat.one")
  let t := zR (zC "Or.elim" ("$0 " ++ zH ++ " " ++ zH))
  let t := if h.raw.isIdent then zG t ("( 'all_goals " ++ zS (zT (zX "$0")) ++ " )T.allGoals") else t
  return zB ("( 'focus " ++ zS (zG t (zG "( 'rotate_left ( )0 )T.rotateLeft" (zG (lo "@2") (zG "( 'rotate_right ( )0 )T.rotateRight" (lo "$1"))))) ++ " )T.focus") #[h, as[0]!, mkNullNode (as.extract 2 as.size)]
open Lean in
local macro_rules | `(tactic| rintro $ps*) => do
  let as : Array Syntax := ps.map (·.raw)
  let n := as.size
  if n > 1 then return zB ((List.range n).foldl (fun t m => zV t (zN s!"${m}")) zK) as
  let q := as[0]!
  let q := if q.getNumArgs > 1 then q[1][0][0] else q[0]
  let par := `Lean.Parser.Tactic.rcasesPat.paren
  let tup := `Lean.Parser.Tactic.rcasesPat.tuple
  let q := if q.isOfKind par && q[1][0][0].getNumArgs == 1 then q[1][0][0][0] else q
  let q := if q.isOfKind par && q[1][0][0].getNumArgs == 1 then q[1][0][0][0] else q
  unless q.isOfKind par || q.isOfKind tup do Macro.throwUnsupported
  let m := if q.isOfKind par then q[1][0] else .node .none `Lean.Parser.Tactic.rcasesPatMed #[mkNullNode #[q]]
  return zB (zP (zG (zI "zq") "( 'rcases ( ( ( )0 zq )T.elimTarget )0 ( 'with ( $0 ( )0 )T.rcasesPatLo )0 )T.rcases")) #[m]
open Lean in
local macro_rules | `(tactic| refine $h) => do
  let es := h.raw[1].getSepArgs
  let n := es.size
  if n < 3 || n > 10 || !h.raw.isOfKind `Lean.Parser.Term.anonymousCtor then Macro.throwUnsupported
  let f (s : String) := "( 'fail_if_success " ++ zS s ++ " )T.failIfSuccess"
  return zB ((List.range n).foldl (fun t m => let e := s!"I{n - m - 1}_{m + 1}"
    zO (zG (f (f (zR (zC e (" ".intercalate (List.replicate n zH)))))) (zR (zC e "@0"))) t) zF) #[mkNullNode es]
open Lean in
local macro_rules | `(tactic| exact $h) => if h.raw.isOfKind `Lean.Parser.Term.anonymousCtor then return zB (zR "$0") #[h] else Macro.throwUnsupported
open Lean in
local macro_rules | `(tactic| rw [$rs,*]) => do
  let as : Array Syntax := rs.getElems.map (·.raw)
  return zB (zP ((List.range as.size).foldr (fun m t => zG s!"( 'rewrite ( ( )0 )T.optConfig ( '[ ( ${m} )0 '] )T.rwRuleSeq ( )0 )T.rewriteSeq" t) (zT (zW zL)))) as
open Lean in
local macro_rules | `(tactic| rewrite [$r]) => do
  let e := r.raw[1]
  let b := r.raw[0].getNumArgs != 0
  let f (s : String) := zO s zF
  if e.isIdent then return zB (f (zW (zR (zC (if b then "rwl" else "rwr") ("$0 " ++ zH))))) #[e]
  if b then Macro.throwUnsupported
  if e.isOfKind `Lean.Parser.Term.show then
    return zB (zP (zG (f (zW (zR (zC "rwr" ("( ( '( ( [anonymous] )hygieneInfo )t.hygienicLParen " ++ zH ++ " ': ( $0 )0 ') )t.typeAscription " ++ zH)))))
      ("( 'focus " ++ zS (if e[2].isOfKind `Lean.Parser.Term.fromTerm then zE "$1" else "( '( $1 ') )T.paren") ++ " )T.focus"))) #[e[1], e[2][1]]
  let c := e[0].getId
  if e[1].getNumArgs == 1 && (c == `if_pos || c == `if_neg) then return zB (f (zR (zC (if c == `if_pos then "ifp" else "ifn") ("$0 " ++ zH)))) #[e[1][0]]
  Macro.throwUnsupported
section
open PySem PySem.Calls PyProof.Rows
namespace Mine
theorem zpo {α:Type}{P:List α->Prop}(h:P []):∀ vs:List α,vs.length=0->P vs
 | [],_=>h
theorem zgu {α:Type}{P:List α->Prop}{n:Nat}(h:∀ (a:α) (t:List α),t.length=n->P (a::t)):∀ vs:List α,vs.length=n+1->P vs
 | a::t,e=>h a t (Nat.succ.inj e)
theorem zcV {α:Type}{P:List α->Prop}(h:∀ a:α,P [a]):∀ vs:List α,vs.length=1->P vs:=zgu fun a=>zpo (h a)
theorem zkR {α:Type}{P:List α->Prop}(h:∀ a b:α,P [a,b]):∀ vs:List α,vs.length=2->P vs:=zgu fun a=>zgu (fun b=>zpo (h a b))
theorem zlj {α:Type}{P:List α->Prop}(h:∀ a b c:α,P [a,b,c]):∀ vs:List α,vs.length=3->P vs:=zgu fun a=>zgu (fun b=>zgu (fun c=>zpo (h a b c)))
theorem zna {α:Type}{P:List α->Prop}(h:∀ a b c d:α,P [a,b,c,d]):∀ vs:List α,vs.length=4->P vs:=zgu fun a=>zgu (fun b=>zgu (fun c=>zgu (fun d=>zpo (h a b c d))))
theorem ztW {α:Type}{P:List α->Prop}(h:∀ a b c d e:α,P [a,b,c,d,e]):∀ vs:List α,vs.length=5->P vs:=zgu fun a=>zgu (fun b=>zgu (fun c=>zgu (fun d=>zgu (fun e=>zpo (h a b c d e)))))
theorem zr5 {α:Type}{P:List α->Prop}(h:∀ a b c d e i:α,P [a,b,c,d,e,i]):∀ vs:List α,vs.length=6->P vs:=zgu fun a=>zgu (fun b=>zgu (fun c=>zgu (fun d=>zgu (fun e=>zgu (fun i=>zpo (h a b c d e i))))))
noncomputable def zh3 (x:Str)(p:PV):List (Str × PV)->List (Str × PV)
 | []=>[(x,p)]
 | (y,q)::r=>if y==x then (x,p)::r else (y,q)::zh3 x p r
theorem zof {x y:Str}{p q:PV}{r:List (Str × PV)}:zh3 x p ((y,q)::r)=if y==x then (x,p)::r else (y,q)::zh3 x p r:=rfl
theorem za8 (x:Str)(p:PV)(y:Str):∀ l:List (Str × PV),(zh3 x p l).lookup y=if y==x then some p else l.lookup y
 | []=>by show List.lookup y [(x,p)]=_;simp only [List.lookup_cons,List.lookup_nil];cases y==x <;> rfl
 | (z,q)::r=>by
  rw [zof]
  by_cases h:(z==x)=true
  ·rw [if_pos h]
   have:z=x:=eq_of_beq h
   subst this
   simp only [List.lookup_cons]
   cases y==z <;> rfl
  ·rw [if_neg h]
   simp only [List.lookup_cons]
   by_cases h2:(y==z)=true
   ·have:y=z:=eq_of_beq h2
    subst this
    have h':(y==x)=false:=by simpa using h
    simp [h']
   ·have h2':(y==z)=false:=by simpa using h2
    simp only [h2']
    exact za8 x p y r
noncomputable def AS.set (σ:AS)(x:Str)(p:PV):AS:={ σ with loc:=zh3 x p σ.loc }
inductive Gl.Glob (g:Gl)(x:Str)(v:Value):Prop
 | mk (mg:_) (o:_) (h1:g.h₁.Ns mainGlobals mg) (h2:g.h₁.get? mainGlobals=some o) (h3:o.cls≠.none) (h4:mg x=some v):Gl.Glob g x v
inductive Gl.Blt (g:Gl)(x:Str)(v:Value):Prop
 | mk (mg:_) (o:_) (mb:_) (ob:_) (h1:g.h₁.Ns mainGlobals mg) (h2:g.h₁.get? mainGlobals=some o) (h3:o.cls≠.none) (h4:mg x=none) (h5:g.h₁.Ns builtinsNs mb) (h6:g.h₁.get? builtinsNs=some ob) (h7:ob.cls≠.none) (h8:mb x=some v):Gl.Blt g x v
theorem zcw {h₀ h:Heap}{a:Addr}{m:Str->Option Value}{o:Obj}(K:zcU h₀ h)(n:h₀.Ns a m)(e:h₀.get? a=some o)(hc:o.cls≠.none):h.Ns a m:=by
 obtain ⟨o',es,ep,e',r⟩:=n
 rw [e] at e';cases e'
 exact ⟨o,es,ep,K.get_of_cls e hc,r⟩
structure z0 (F:Fm):Prop where
 kind:F.env.scope.kind=.function
 gl:F.env.globals=mainGlobals
 bl:F.env.builtins=builtinsNs
section
variable {g:Gl}{A:Around}{F:Fm}{σ:AS}{P:PV->AS->Prop}{s:Shared}
theorem za {x:Str}{pos:Pos}{p:PV}(hk:z0 F)(hl:σ.loc.lookup x=some p)(h:P p σ)(hd:(x==("__debug__":Str))=false:=by decide)(hc:(x==Str.ofString "__classdict__")=false:=by decide) :
  EV g A F (.Name x pos) σ P:=by
 intro s S Q E k
 obtain ⟨v,hn,hv⟩:=S.loc x p hl
 rcases hn with ⟨e,m,n,hm⟩ | ⟨e,c,o,hcl,ho,hd'⟩
 ·exact wpAny_Name (wpAny_loadName_local hk.kind e n hm (k v p σ s h S hv .refl)) hd
 ·rcases e with e | e
  ·exact wpAny_Name (wpAny_loadName_cell hk.kind e hcl ⟨o,ho,hd'⟩ (k v p σ s h S hv .refl)) hd
  ·exact wpAny_Name (wpAny_loadName_free hk.kind e hcl ⟨o,ho,hd'⟩ (k v p σ s h S hv .refl) hc) hd
theorem zl {x:Str}{pos:Pos}{v:Value}(hk:z0 F)(hg:g.Glob x v)(h:P (.raw v) σ)(hx:F.env.kindOf x=some .globalImplicit:=by left)(hd:(x==("__debug__":Str))=false:=by decide) :
  EV g A F (.Name x pos) σ P:=by
 intro s S Q E k
 obtain ⟨mg,o,n,e,hc,hv⟩:=hg
 exact Name_function_global hk.kind hx (loadGlobal_global (hk.gl ▸ zcw S.old n e hc) hv (k v _ σ s h S (.raw v) .refl)) hd
theorem zg {x:Str}{pos:Pos}{v:Value}(hk:z0 F)(hg:g.Blt x v)(h:P (.raw v) σ)(hx:F.env.kindOf x=some .globalImplicit:=by left)(hd:(x==("__debug__":Str))=false:=by decide) :
  EV g A F (.Name x pos) σ P:=by
 intro s S Q E k
 obtain ⟨mg,o,mb,ob,n,e,hc,hm,nb,eb,hcb,hv⟩:=hg
 exact Name_function_global hk.kind hx (loadGlobal_builtin (hk.gl ▸ zcw S.old n e hc) hm (hk.bl ▸ zcw S.old nb eb hcb) hv (k v _ σ s h S (.raw v) .refl)) hd
theorem zx {i:Int}{n:Nat}{pos:Pos}(h:P (.int i) σ):EV g A F (.Constant (.int i) n pos) σ P :=
 fun _ S _ _ k=>wpAny_Constant_int (k _ _ σ _ h (S.toks _) (.int i _) .toks)
theorem zqD {x:Str}{n:Nat}{pos:Pos}(h:P (.str x) σ):EV g A F (.Constant (.str x) n pos) σ P :=
 fun _ S _ _ k=>Constant_str (k _ _ σ _ h (S.toks _) (.str x _) .toks)
theorem zhx {n:Nat}{pos:Pos}(h:P (.raw .none) σ):EV g A F (.Constant .none n pos) σ P :=
 fun s S _ _ k=>wpAny_pure (k _ _ σ s h S (.raw _) .refl)
theorem ze7 {b:Bool}{n:Nat}{pos:Pos}(h:P (.raw (.bool b)) σ):EV g A F (.Constant (.bool b) n pos) σ P :=
 fun s S _ _ k=>wpAny_pure (k _ _ σ s h S (.raw _) .refl)
theorem znu {b:List UInt8}{n:Nat}{pos:Pos}(h:P (.byt b.toArray) σ):EV g A F (.Constant (.bytes b) n pos) σ P :=
 fun s S _ _ k _ _ _=>k _ _ σ { s with toks:=s.toks+1 } h (S.toks _) (.byt _ _) .toks
abbrev zjf (g:Gl)(A:Around)(F:Fm)(P:PV->AS->Prop)(op:Operator)(p:PV):PV->AS->Prop:=fun q σ₂=>OP2 g A F (binaryOp op) p q σ₂ P
abbrev zjR (g:Gl)(A:Around)(F:Fm)(P:PV->AS->Prop)(r:Expr)(op:Operator):PV->AS->Prop:=fun p σ₁=>EV g A F r σ₁ (zjf g A F P op p)
theorem zac {l r:Expr}{op:Operator}{pos:Pos}(h:EV g A F l σ (zjR g A F P r op)):EV g A F (.BinOp l op r pos) σ P:=by
 intro s S Q E k
 refine wpAny_BinOp (h s S _ E fun v p σ₁ s₁ h₁ S₁ hv st₁=>?_)
 refine h₁ s₁ S₁ _ E fun u q σ₂ s₂ h₂ S₂ hu st₂=>?_
 exact h₂ s₂ v u S₂ (hv.mono (S₁.kp st₂)) hu _ E fun r p₃ σ₃ s₃ h₃ S₃ hr st₃=>k r p₃ σ₃ s₃ h₃ S₃ hr (st₁.trans (st₂.trans st₃))
abbrev zhm (g:Gl)(A:Around)(F:Fm)(P:PV->AS->Prop)(op:CmpOp)(p:PV):PV->AS->Prop:=fun q σ₂=>OP2 g A F (compareOp op) p q σ₂ P
abbrev zhh (g:Gl)(A:Around)(F:Fm)(P:PV->AS->Prop)(r:Expr)(op:CmpOp):PV->AS->Prop:=fun p σ₁=>EV g A F r σ₁ (zhm g A F P op p)
theorem zgF {l r:Expr}{op:CmpOp}{pos:Pos}(h:EV g A F l σ (zhh g A F P r op))(hm:behindInMarks op r=false:=by left):EV g A F (.Compare l [op] [r] pos) σ P:=by
 intro s S Q E k
 refine wpAny_Compare1 (h s S _ E fun v p σ₁ s₁ h₁ S₁ hv st₁=>?_) hm
 refine h₁ s₁ S₁ _ E fun u q σ₂ s₂ h₂ S₂ hu st₂=>?_
 exact h₂ s₂ v u S₂ (hv.mono (S₁.kp st₂)) hu _ E fun r p₃ σ₃ s₃ h₃ S₃ hr st₃=>k r p₃ σ₃ s₃ h₃ S₃ hr (st₁.trans (st₂.trans st₃))
def TT (g:Gl)(A:Around)(F:Fm)(p:PV)(σ:AS)(P:Bool->AS->Prop):Prop :=
 ∀ s v,Sat g F σ s->VR s.heap σ.own p v->∀ (Q:Bool->Shared->Prop) (E:Value->Shared->Prop),
  (∀ b σ' s',P b σ'->Sat g F σ' s'->Stp [] σ.own s σ'.own s'->Q b s')->wpAny (model g.prog g.w) A (truthy v) Q E s
abbrev zg9 (g:Gl)(A:Around)(F:Fm)(P:Bool->AS->Prop):PV->AS->Prop:=fun c σ₃=>TT g A F c σ₃ P
abbrev zg4 (g:Gl)(A:Around)(F:Fm)(P:Bool->AS->Prop)(op:CmpOp)(p:PV):PV->AS->Prop:=fun q σ₂=>OP2 g A F (compareOp op) p q σ₂ (zg9 g A F P)
abbrev zhT (g:Gl)(A:Around)(F:Fm)(P:Bool->AS->Prop)(r:Expr)(op:CmpOp):PV->AS->Prop:=fun p σ₁=>EV g A F r σ₁ (zg4 g A F P op p)
theorem ze {l r:Expr}{op:CmpOp}{pos:Pos}{P:Bool->AS->Prop}(h:EV g A F l σ (zhT g A F P r op))(hm:behindInMarks op r=false:=by left):TR g A F (.Compare l [op] [r] pos) σ P:=by
 intro s S Q E k
 refine wpAny_isTrue_Compare1 (h s S _ E fun v p σ₁ s₁ h₁ S₁ hv st₁=>?_) hm
 refine h₁ s₁ S₁ _ E fun u q σ₂ s₂ h₂ S₂ hu st₂=>?_
 refine h₂ s₂ v u S₂ (hv.mono (S₁.kp st₂)) hu _ E fun r p₃ σ₃ s₃ h₃ S₃ hr st₃=>?_
 exact h₃ s₃ r S₃ hr _ E fun b σ₄ s₄ h₄ S₄ st₄=>k b b σ₄ s₄ h₄ S₄ rfl (st₁.trans (st₂.trans (st₃.trans st₄)))
abbrev zjm (g:Gl)(A:Around)(F:Fm)(P:Bool->AS->Prop):PV->AS->Prop:=fun p σ₁=>TT g A F p σ₁ P
theorem zaF {e:Expr}{P:Bool->AS->Prop}(h:EV g A F e σ (zjm g A F P))
  (he:isTrue e F.env (eval e F.env)=(do let v <- eval e F.env;standAt e.pos;holding [v] (truthy v)):=by left):TR g A F e σ P:=by
 intro s S Q E k
 refine isTrue_plain (h s S _ E fun v p σ₁ s₁ h₁ S₁ hv st₁=>?_) he
 exact h₁ s₁ v S₁ hv _ E fun b σ₂ s₂ h₂ S₂ st₂=>k b b σ₂ s₂ h₂ S₂ rfl (st₁.trans st₂)
abbrev zfW (P:Bool->AS->Prop):Bool->AS->Prop:=fun b σ₁=>P (!b) σ₁
theorem zgL {x:Expr}{pos:Pos}{P:Bool->AS->Prop}(h:TR g A F x σ (zfW P)):TR g A F (.UnaryOp .Not x pos) σ P:=by
 intro s S Q E k
 exact wpAny_isTrue_Not (h s S _ E fun b b' σ₁ s₁ h₁ S₁ hb st₁=>k _ _ σ₁ s₁ h₁ S₁ (by show (!b)=(!b');rw [show b=b' from hb]) st₁)
def TRs (g:Gl)(A:Around)(F:Fm)(op:BoolOp)(es:List Expr)(σ:AS)(P:Bool->AS->Prop):Prop:=J g A F [] EQ (allTrue op es F.env) σ P
theorem zaz {op:BoolOp}{es:List Expr}{pos:Pos}{P:Bool->AS->Prop}(h:TRs g A F op es σ P):TR g A F (.BoolOp op es pos) σ P:=h
theorem zbG {op:BoolOp}{P:Bool->AS->Prop}(h:P (op==.And) σ):TRs g A F op [] σ P:=fun s S _ _ k=>wpAny_pure (k _ _ σ s h S rfl .refl)
abbrev zju (g:Gl)(A:Around)(F:Fm)(P:Bool->AS->Prop)(op:BoolOp)(es:List Expr):Bool->AS->Prop:=fun b σ₁=>match op,b with | .And,false=>P false σ₁ | .Or,true=>P true σ₁ | _,_=>TRs g A F op es σ₁ P
theorem zn {op:BoolOp}{e:Expr}{es:List Expr}{P:Bool->AS->Prop}(h:TR g A F e σ (zju g A F P op es)):TRs g A F op (e::es) σ P:=by
 intro s S Q E k
 show wpAny _ A (isTrue e F.env (eval e F.env)>>=fun b=>match op,b with | .And,false=>pure false | .Or,true=>pure true | _,_=>allTrue op es F.env) Q E s
 refine wpAny_bind (h s S _ E fun b b' σ₁ s₁ h₁ S₁ hb st₁=>?_)
 cases hb
 cases op <;> cases b <;> first
  | exact wpAny_pure (k _ _ σ₁ s₁ h₁ S₁ rfl st₁)
  | exact h₁ s₁ S₁ Q E fun a c σ₂ s₂ h₂ S₂ hc st₂=>k a c σ₂ s₂ h₂ S₂ hc (st₁.trans st₂)
theorem zk {b:Bool}{P:Bool->AS->Prop}(h:P b σ):TT g A F (.raw (.bool b)) σ P:=fun s v S hv Q E k=>by
 cases hv;exact wpAny_truthy_bool (k b σ s h S .refl)
abbrev zfc (g:Gl)(A:Around)(F:Fm)(P:PV->AS->Prop)(b:Expr)(o:Expr):Bool->AS->Prop:=fun c σ₁=>if c=true then EV g A F b σ₁ P else EV g A F o σ₁ P
theorem zkn {t b o:Expr}{pos:Pos}(h:TR g A F t σ (zfc g A F P b o)):EV g A F (.IfExp t b o pos) σ P:=by
 intro s S Q E k
 refine wpAny_IfExp (h s S _ E fun c c' σ₁ s₁ h₁ S₁ hc st₁=>?_)
 cases hc
 cases c with
 | true=>exact h₁ s₁ S₁ Q E fun a p σ₂ s₂ h₂ S₂ hr st₂=>k a p σ₂ s₂ h₂ S₂ hr (st₁.trans st₂)
 | false=>exact h₁ s₁ S₁ Q E fun a p σ₂ s₂ h₂ S₂ hr st₂=>k a p σ₂ s₂ h₂ S₂ hr (st₁.trans st₂)
abbrev zjk (g:Gl)(A:Around)(F:Fm)(P:PV->AS->Prop)(op:UnaryOp):PV->AS->Prop:=fun p σ₁=>OP1 g A F (unaryOp op) p σ₁ P
theorem zeN {x:Expr}{op:UnaryOp}{pos:Pos}(h:EV g A F x σ (zjk g A F P op)):EV g A F (.UnaryOp op x pos) σ P:=by
 intro s S Q E k
 refine wpAny_UnaryOp (h s S _ E fun v p σ₁ s₁ h₁ S₁ hv st₁=>?_)
 exact h₁ s₁ v S₁ hv _ E fun a q σ₂ s₂ h₂ S₂ hr st₂=>k a q σ₂ s₂ h₂ S₂ hr (st₁.trans st₂)
def EVs (g:Gl)(A:Around)(F:Fm)(es:List Expr)(σ:AS)(P:List PV->AS->Prop):Prop:=∀ pos,J g A F [] VRs (spliced (backTo pos (starEach es F.env))) σ P
theorem zf {P:List PV->AS->Prop}(h:P [] σ):EVs g A F [] σ P:=fun _ s S _ _ k=>spliced_nil (k _ _ σ s h S .nil .refl)
abbrev zi6 (P:List PV->AS->Prop)(p:PV):List PV->AS->Prop:=fun ps σ₂=>P (p::ps) σ₂
abbrev zi9 (g:Gl)(A:Around)(F:Fm)(P:List PV->AS->Prop)(es:List Expr):PV->AS->Prop:=fun p σ₁=>EVs g A F es σ₁ (zi6 P p)
theorem zc {e:Expr}{es:List Expr}{P:List PV->AS->Prop}(h:EV g A F e σ (zi9 g A F P es))
  (he:starEach (e::es) F.env=(false,eval e F.env)::starEach es F.env:=by left):EVs g A F (e::es) σ P:=by
 intro pos s S Q E k
 refine args_cons ?_ he
 refine h s S _ E fun v p σ₁ s₁ h₁ S₁ hv st₁=>?_
 refine h₁ pos s₁ S₁ _ E fun vs ps σ₂ s₂ h₂ S₂ hvs st₂=>?_
 exact k _ _ σ₂ s₂ h₂ S₂ (.cons (hv.mono (S₁.kp st₂)) hvs) (st₁.trans st₂)
abbrev zjA (P:PV->AS->Prop):List PV->AS->Prop:=fun ps σ₁=>ps.length<=1000/\P (.tup ps) σ₁
theorem zcQ {es:List Expr}{n:Nat}{pos:Pos}(h:EVs g A F es σ (zjA P)):EV g A F (.Tuple es n pos) σ P:=by
 intro s S Q E k
 refine Tuple_ (h pos s S _ E fun vs ps σ₁ s₁ h₁ S₁ hvs st₁=>?_)
 exact wpAny_newTuple (k _ _ σ₁ _ h₁.2 (S₁.push _) (VR.newTup S₁ hvs) (st₁.trans (.push _))) (by have:=hvs.length;have:=h₁.1;unfold sizeLine;lia)
abbrev zld (P:PV->AS->Prop):List PV->AS->Prop:=fun ps σ₁=>ps.length<=1000/\P (.lst ps) σ₁
theorem zb5 {es:List Expr}{pos:Pos}(h:EVs g A F es σ (zld P)):EV g A F (.List es pos) σ P:=by
 intro s S Q E k
 refine List_ (h pos s S _ E fun vs ps σ₁ s₁ h₁ S₁ hvs st₁=>?_)
 exact wpAny_newList (k _ _ σ₁ _ h₁.2 (S₁.push _) (VR.newLst S₁ hvs) (st₁.trans (.push _))) (by have:=hvs.length;have:=h₁.1;unfold sizeLine;lia)
end
section
variable {g:Gl}{A:Around}{F:Fm}{σ:AS}{P:PV->AS->Prop}{s:Shared}
theorem ziA {a b:Int}(h:P (.int (a+b)) σ):OP2 g A F (binaryOp .Add) (.int a) (.int b) σ P:=fun s v u S hv hu Q E k=>by
 cases hv;cases hu;exact add_int (k _ _ σ _ h (S.toks _) (.int _ _) .toks)
theorem zlS {a b:Int}(h:P (.int (a - b)) σ):OP2 g A F (binaryOp .Sub) (.int a) (.int b) σ P:=fun s v u S hv hu Q E k=>by
 cases hv;cases hu;exact sub_int (k _ _ σ _ h (S.toks _) (.int _ _) .toks)
theorem zgX {a b:Int}(hs:IntMulOk a b)(h:P (.int (a*b)) σ):OP2 g A F (binaryOp .Mult) (.int a) (.int b) σ P:=fun s v u S hv hu Q E k=>by
 cases hv;cases hu;exact mul_int (k _ _ σ _ h (S.toks _) (.int _ _) .toks) hs
theorem zui {a b:Int}(hb:b≠0)(h:P (.int (a.fmod b)) σ):OP2 g A F (binaryOp .Mod) (.int a) (.int b) σ P:=fun s v u S hv hu Q E k=>by
 cases hv;cases hu;exact mod_int' hb (k _ _ σ _ h (S.toks _) (.int _ _) .toks)
theorem zrA {a b:Int}(hb:b≠0)(hp:Builtin.divisionGoesByPylong a b=false)(h:P (.int (a.fdiv b)) σ):OP2 g A F (binaryOp .FloorDiv) (.int a) (.int b) σ P:=fun s v u S hv hu Q E k=>by
 cases hv;cases hu;exact floordiv_int hb (k _ _ σ _ h (S.toks _) (.int _ _) .toks) (.inl hp)
theorem zmz {a n:Int}(h0:0<=n)(h1:n<=1000000)(h2:a.natAbs < 2 ^ 64)(h:P (.int (a*2 ^ n.toNat)) σ):OP2 g A F (binaryOp .LShift) (.int a) (.int n) σ P:=fun s v u S hv hu Q E k=>by
 cases hv;cases hu;exact lshift_int_small h0 h1 h2 (k _ _ σ _ h (S.toks _) (.int _ _) .toks)
theorem zqc {a n:Int}(h0:0<=n)(h:P (.int (a.fdiv (2 ^ n.toNat))) σ):OP2 g A F (binaryOp .RShift) (.int a) (.int n) σ P:=fun s v u S hv hu Q E k=>by
 cases hv;cases hu;exact rshift_int h0 (k _ _ σ _ h (S.toks _) (.int _ _) .toks)
theorem zke {a b:Int}(h:P (.int (Builtin.bitAnd a b)) σ):OP2 g A F (binaryOp .BitAnd) (.int a) (.int b) σ P:=fun s v u S hv hu Q E k=>by
 cases hv;cases hu;exact and_int (k _ _ σ _ h (S.toks _) (.int _ _) .toks)
theorem ztg {a b:Int}(h:P (.int (Builtin.bitOr a b)) σ):OP2 g A F (binaryOp .BitOr) (.int a) (.int b) σ P:=fun s v u S hv hu Q E k=>by
 cases hv;cases hu;exact or_int (k _ _ σ _ h (S.toks _) (.int _ _) .toks)
theorem zn8 {a n:Int}(h0:0<=n)(h1:(Builtin.Int.intBits a:Int)*n<=2 ^ 27)(h:P (.int (a ^ n.toNat)) σ):OP2 g A F (binaryOp .Pow) (.int a) (.int n) σ P:=fun s v u S hv hu Q E k=>by
 cases hv;cases hu;exact pow_int h0 h1 (k _ _ σ _ h (S.toks _) (.int _ _) .toks)
theorem zoo {a:Int}(h:P (.int (-a)) σ):OP1 g A F (unaryOp .USub) (.int a) σ P:=fun s v S hv Q E k=>by
 cases hv;exact neg_int (k _ _ σ _ h (S.toks _) (.int _ _) .toks)
theorem zpz {x y:Str}(hs:x.length+y.length<=sizeLine)(h:P (.str (x++y)) σ):OP2 g A F (binaryOp .Add) (.str x) (.str y) σ P:=fun s v u S hv hu Q E k=>by
 cases hv;cases hu;exact add_str (fun t' tk=>k _ _ σ _ h (S.toks _) (.str _ _) .toks) hs
theorem zpV {x:Str}{n:Int}(hs:MulOk x n)(h:P (.str (Txt.mul x n)) σ):OP2 g A F (binaryOp .Mult) (.str x) (.int n) σ P:=fun s v u S hv hu Q E k=>by
 cases hv;cases hu;exact SB.mul hs (fun t' tk=>k _ _ σ _ h (S.toks _) (.str _ _) .toks)
theorem zcm {a b:Int}(h:P (.raw (.bool (a==b))) σ):OP2 g A F (compareOp .Eq) (.int a) (.int b) σ P:=fun s v u S hv hu Q E k=>by
 cases hv;cases hu;exact eq_int (k _ _ σ s h S (.raw _) .refl)
theorem zor {a b:Int}(h:P (.raw (.bool (a != b))) σ):OP2 g A F (compareOp .NotEq) (.int a) (.int b) σ P:=fun s v u S hv hu Q E k=>by
 cases hv;cases hu;exact ne_int (k _ _ σ s h S (.raw _) .refl)
theorem zbK {a b:Int}(h:P (.raw (.bool (decide (a < b)))) σ):OP2 g A F (compareOp .Lt) (.int a) (.int b) σ P:=fun s v u S hv hu Q E k=>by
 cases hv;cases hu;exact lt_int (k _ _ σ s h S (.raw _) .refl)
theorem zlM {a b:Int}(h:P (.raw (.bool (decide (b < a)))) σ):OP2 g A F (compareOp .Gt) (.int a) (.int b) σ P:=fun s v u S hv hu Q E k=>by
 cases hv;cases hu;exact gt_int (k _ _ σ s h S (.raw _) .refl)
theorem zlx {a b:Int}(h:P (.raw (.bool (decide (b<=a)))) σ):OP2 g A F (compareOp .GtE) (.int a) (.int b) σ P:=fun s v u S hv hu Q E k=>by
 cases hv;cases hu;exact ge_int (k _ _ σ s h S (.raw _) .refl)
theorem zoS {x y:Str}(h:P (.raw (.bool (x==y))) σ):OP2 g A F (compareOp .Eq) (.str x) (.str y) σ P:=fun s v u S hv hu Q E k=>by
 cases hv;cases hu;exact eq_str (k _ _ σ s h S (.raw _) .refl)
theorem zpa {x y:Str}(h:P (.raw (.bool (x != y))) σ):OP2 g A F (compareOp .NotEq) (.str x) (.str y) σ P:=fun s v u S hv hu Q E k=>by
 cases hv;cases hu;exact ne_str (k _ _ σ s h S (.raw _) .refl)
theorem zpg {x y:Str}(h:P (.raw (.bool (!(Builtin.Str.occurrences x y 0 x.length 1).isEmpty))) σ):OP2 g A F (compareOp .In) (.str y) (.str x) σ P:=fun s v u S hv hu Q E k=>by
 cases hv;cases hu;exact in_str (k _ _ σ s h S (.raw _) .refl)
end
end Mine
end
section
open PySem PySem.Calls PyProof.Rows
namespace Mine
theorem Ns.uniq {h:Heap}{a:Addr}{m m':Str->Option Value}(x:h.Ns a m)(y:h.Ns a m'):m=m':=by
 obtain ⟨o,es,ep,e,d,_,f⟩:=x
 obtain ⟨o',es',ep',e',d',_,f'⟩:=y
 rw [e] at e';cases e'
 rw [d] at d';cases d'
 funext n
 rw [<- f,<- f']
section
variable {g:Gl}{A:Around}{F:Fm}{σ:AS}{s:Shared}
theorem Sat.frame (S:Sat g F σ s){h':Heap}{a:Addr}(ha:a∈F.fr)(hs:Heap.SameBut a s.heap h')(hf:∃ o,h'.get? a=some o/\zr o)(σ':AS)(hz:σ'.zone=σ.zone)(n:Nat)
  (hns:∃ m,h'.Ns F.env.locals m) (hcl:∀ o,s.heap.get? a=some o->zhp o->∃ o',h'.get? a=some o'/\zhp o')
  (hloc:Kp s.heap h' σ.own σ.own->∀ x p,σ'.loc.lookup x=some p->∃ v,zjM h' F.env x v/\VR h' σ.own p v) :
  Sat g F σ' { s with heap:=h',toks:=n }/\Stp F.fr σ.own s σ'.own { s with heap:=h',toks:=n }:=by
 have hlo:g.h₁.objs.size<=a:=S.lo a (List.mem_append_left _ ha)
 have hno:a∉σ.own:=fun h=>by
  have:=(List.nodup_append.mp S.nd).2.2 a ha a h
  exact this rfl
 have hq:∀ o,s.heap.get? a=some o->∀ xs n,o.data≠.seq xs n:=fun o e xs n=>by
  obtain ⟨o',e',fl⟩:=S.fr a ha
  rw [e] at e';cases e'
  exact fl.notSeq xs n
 have kp:Kp s.heap h' σ.own σ.own:=fun b o' xs n e d no=>⟨hs.extBut b o' (fun q=>by subst q;exact hq _ e xs n d) e,no⟩
 have ko:∀ b o',s.heap.get? b=some o'->b∈σ.own->h'.get? b=some o':=fun b o' e hb=>hs.extBut b o' (fun q=>hno (q ▸ hb)) e
 have hown:σ'.own=σ.own:=by unfold AS.own;rw [hz]
 refine ⟨⟨zcU.ext S.old hlo hs.extBut,NoLimit.ext S.lim (Nat.ne_of_lt (Nat.lt_of_lt_of_le S.cs hlo)) hs.extBut,S.os,S.bare,hown ▸ S.nd,hown ▸ S.lo,fun z hz'=>?_,fun b hb=>?_,hns,S.nin,fun x p e=>?_,S.cs,fun x c hx hc hf hl=>by
  obtain ⟨o,e,ho⟩:=S.cl x c hx hc hf hl
  by_cases hca:c=a
  ·subst hca;exact hcl o e ho
  ·exact ⟨o,hs.extBut c o hca e,ho⟩⟩,?_⟩
 ·rw [hz] at hz'
  have:=S.zs z hz'
  have hin:∀ b∈z.2.addrs z.1,b∈σ.own:=fun b hb=>List.mem_flatMap.mpr ⟨z,hz',hb⟩
  rw [hown]
  obtain ⟨b,mo⟩:=z
  cases mo with
  | list l=>obtain ⟨items,n,h1,h2⟩:=this;exact ⟨items,n,ko _ _ h1 (hin b (by simp [MO.addrs])),h2.mono kp⟩
  | obj ob=>exact ⟨ko _ _ this.1 (hin b (by simp [MO.addrs])),this.2⟩
  | inst dx C att body =>
   obtain ⟨d,es,n,h1,h2,h3,h4⟩:=this
   refine ⟨d,es,n,ko _ _ h1 (hin b (by simp [MO.addrs])),?_,ko _ _ h3 (hin dx (by simp [MO.addrs])),h4.mono kp⟩
   cases body with
   | none=>exact h2
   | some l=>obtain ⟨items,n',e1,e2⟩:=h2;exact ⟨items,n',e1,e2.mono kp⟩
 ·by_cases hb':b=a
  ·subst hb';exact hf
  ·obtain ⟨o',h1,h2⟩:=S.fr b hb;exact ⟨o',hs.extBut b o' hb' h1,h2⟩
 ·rw [hown];exact hloc kp x p e
 ·refine ⟨fun b o e nf no hc=>hs.extBut b o (fun q=>nf (q ▸ ha)) e,fun b o e=>?_,fun b hb=>.inl (hown ▸ hb),fun _ _ e=>e⟩
  by_cases hb':b=a
  ·subst hb';obtain ⟨o',h1,_⟩:=hf;exact ⟨o',h1⟩
  ·exact ⟨o,hs.extBut b o hb' e⟩
theorem za7 {x:Str}{v:Value}{p:PV}{Q:Unit->Shared->Prop}{E:Value->Shared->Prop}(hk:z0 F)(hx:F.env.kindOf x=some .local)(S:Sat g F σ s)(hv:VR s.heap σ.own p v)
  (h:∀ s',Sat g F (σ.set x p) s'->Stp F.fr σ.own s (σ.set x p).own s'->Q () s'):wpAny (model g.prog g.w) A (storeName F.env x v) Q E s:=by
 obtain ⟨m,hm⟩:=S.ns
 refine wpAny_storeName_local hx hm (fun h' hn hs=>?_) (by rw [hk.kind];rfl)
 have hfl:∃ o,h'.get? F.env.locals=some o/\zr o:=by obtain ⟨o,es,ep,e,d,_⟩:=hn;exact ⟨o,e,.inl ⟨es,ep,d⟩⟩
 obtain ⟨S',st⟩:=S.frame (h':=h') S.nin hs hfl (σ.set x p) rfl (s.toks+1) ⟨_,hn⟩ (fun o e ⟨v,hv⟩=>by obtain ⟨o',es,ep,e',d,_⟩:=hm;rw [e] at e';cases e';rw [hv] at d;cases d) (fun kp y q e=>by
  rw [show (σ.set x p).loc=zh3 x p σ.loc from rfl,za8] at e
  by_cases hy:(y==x)=true
  ·rw [if_pos hy] at e
   cases e
   have:y=x:=eq_of_beq hy
   subst this
   exact ⟨v,.inl ⟨hx,_,hn,if_pos rfl⟩,hv.mono kp⟩
  ·rw [if_neg hy] at e
   obtain ⟨u,hu,hr⟩:=S.loc y q e
   refine ⟨u,?_,hr.mono kp⟩
   rcases hu with ⟨e1,m',n',e2⟩ | ⟨e1,c,o,e2,e3,e4⟩
   ·refine .inl ⟨e1,_,hn,?_⟩
    rw [if_neg (fun q=>hy (by rw [q];exact beq_self_eq_true _)),Ns.uniq hm n'];exact e2
   ·refine .inr ⟨e1,c,o,e2,hs.extBut c o (fun q=>?_) e3,e4⟩
    subst q
    obtain ⟨o',es,ep,e',d,_⟩:=hm
    rw [e3] at e';cases e'
    rw [e4] at d;cases d)
 exact h _ S' st
theorem zgH {x:Str}{v:Value}{p:PV}{Q:Unit->Shared->Prop}{E:Value->Shared->Prop}{c:Addr}{v₀:Option Value}(hk:z0 F)(hx:F.env.kindOf x=some .cell)(hc:F.env.cells.lookup x=some c)(hcf:c∈F.fr)
  (hinj:∀ y c',F.env.cells.lookup y=some c'->y≠x->c'≠c) (S:Sat g F σ s) (hcell:s.heap.IsCell c v₀) (hv:VR s.heap σ.own p v)
  (h:∀ s',Sat g F (σ.set x p) s'->Stp F.fr σ.own s (σ.set x p).own s'->Q () s'):wpAny (model g.prog g.w) A (storeName F.env x v) Q E s:=by
 refine wpAny_storeName_cell hk.kind hx hc hcell fun h' hn hs=>?_
 obtain ⟨o₀,e₀,d₀⟩:=hcell
 obtain ⟨o₁,e₁,d₁⟩:=hn
 have hLc:F.env.locals≠c:=fun q=>by
  obtain ⟨m,o',es,ep,e',d,_⟩:=S.ns
  rw [q,e₀] at e';cases e'
  rw [d₀] at d;cases d
 have hns:∀ m,s.heap.Ns F.env.locals m->h'.Ns F.env.locals m:=fun m hm=>hm.sameBut hs hLc
 obtain ⟨S',st⟩:=S.frame (h':=h') hcf hs ⟨o₁,e₁,.inr ⟨_,d₁⟩⟩ (σ.set x p) rfl s.toks (let ⟨m,hm⟩:=S.ns;⟨m,hns m hm⟩) (fun _ _ _=>⟨o₁,e₁,_,d₁⟩) (fun kp y q e=>by
  rw [show (σ.set x p).loc=zh3 x p σ.loc from rfl,za8] at e
  by_cases hy:(y==x)=true
  ·rw [if_pos hy] at e
   cases e
   have:y=x:=eq_of_beq hy
   subst this
   exact ⟨v,.inr ⟨.inl hx,c,o₁,hc,e₁,d₁⟩,hv.mono kp⟩
  ·rw [if_neg hy] at e
   have hne:y≠x:=fun q=>hy (by rw [q];exact beq_self_eq_true _)
   obtain ⟨u,hu,hr⟩:=S.loc y q e
   refine ⟨u,?_,hr.mono kp⟩
   rcases hu with ⟨e1,m',n',e2⟩ | ⟨e1,c',o,e2,e3,e4⟩
   ·exact .inl ⟨e1,m',hns m' n',e2⟩
   ·exact .inr ⟨e1,c',o,e2,hs.extBut c' o (hinj y c' e2 hne) e3,e4⟩)
 exact h _ S' st
theorem zi {P:Fl->AS->Prop}(h:P .next σ):EXs g A F [] σ P:=fun s S _ _ k=>wpAny_execs_nil (k _ _ σ s h S .next .refl)
abbrev zje (g:Gl)(A:Around)(F:Fm)(P:Fl->AS->Prop)(rest:List Stmt):Fl->AS->Prop:=fun fl σ₁=>match fl with | .next=>EXs g A F rest σ₁ P | fl=>P fl σ₁
theorem zb {st:Stmt}{rest:List Stmt}{P:Fl->AS->Prop}(h:EX g A F st σ (zje g A F P rest)):EXs g A F (st::rest) σ P:=by
 intro s S Q E k
 refine wpAny_execs_cons (h s S _ E fun f fl σ₁ s₁ h₁ S₁ hr st₁=>?_)
 cases hr with
 | next=>exact h₁ s₁ S₁ Q E fun f fl σ₂ s₂ h₂ S₂ hr st₂=>k f fl σ₂ s₂ h₂ S₂ hr (st₁.trans st₂)
 | brk=>exact k _ _ σ₁ s₁ h₁ S₁ .brk st₁
 | cont=>exact k _ _ σ₁ s₁ h₁ S₁ .cont st₁
 | ret hv=>exact k _ _ σ₁ s₁ h₁ S₁ (.ret hv) st₁
abbrev zd6 (P:Fl->AS->Prop)(x:Str):PV->AS->Prop:=fun p σ₁=>P .next (σ₁.set x p)
theorem zd {x:Str}{pos' pos:Pos}{value:Expr}{P:Fl->AS->Prop}(hk:z0 F)(h:EV g A F value σ (zd6 P x))(hx:F.env.kindOf x=some .local:=by left)
  (hs:swapsWith value (some (.Name x pos')) pos.line F.env=pure false:=by left):EX g A F (.Assign [.Name x pos'] value pos) σ P:=by
 intro s S Q E k
 refine wpAny_Assign_Name (h s S _ E fun v p σ₁ s₁ h₁ S₁ hv st₁=>?_) hs
 exact za7 hk hx S₁ hv fun s₂ S₂ st₂=>k _ _ _ s₂ h₁ S₂ .next (st₁.up.trans st₂)
abbrev zm9 (g:Gl)(A:Around)(F:Fm)(P:Fl->AS->Prop)(body:List Stmt)(orelse:List Stmt):Bool->AS->Prop:=fun b σ₁=>if b=true then EXs g A F body σ₁ P else EXs g A F orelse σ₁ P
theorem zaA {test:Expr}{body orelse:List Stmt}{pos:Pos}{P:Fl->AS->Prop}(h:TR g A F test σ (zm9 g A F P body orelse)):EX g A F (.If test body orelse pos) σ P:=by
 intro s S Q E k
 refine wpAny_If (h s S _ E fun b b' σ₁ s₁ h₁ S₁ hb st₁=>?_)
 cases hb
 cases b with
 | true=>exact h₁ s₁ S₁ Q E fun f fl σ₂ s₂ h₂ S₂ hr st₂=>k f fl σ₂ s₂ h₂ S₂ hr (st₁.up.trans st₂)
 | false=>exact h₁ s₁ S₁ Q E fun f fl σ₂ s₂ h₂ S₂ hr st₂=>k f fl σ₂ s₂ h₂ S₂ hr (st₁.up.trans st₂)
abbrev zij (P:Fl->AS->Prop):PV->AS->Prop:=fun p σ₁=>P (.ret p) σ₁
theorem zan {e:Expr}{pos:Pos}{P:Fl->AS->Prop}(h:EV g A F e σ (zij P)):EX g A F (.Return (some e) pos) σ P:=by
 intro s S Q E k
 exact wpAny_Return_some (h s S _ E fun v p σ₁ s₁ h₁ S₁ hv st₁=>k _ _ σ₁ s₁ h₁ S₁ (.ret hv) st₁.up)
theorem zc3 {pos:Pos}{P:Fl->AS->Prop}(h:P (.ret (.raw .none)) σ):EX g A F (.Return none pos) σ P:=by
 intro s S Q E k
 exact wpAny_Return_none (k _ _ σ s h S (.ret (.raw _)) .refl)
theorem zeS {pos:Pos}{P:Fl->AS->Prop}(h:P .brk σ):EX g A F (.Break pos) σ P:=fun s S _ _ k=>wpAny_Break (k _ _ σ s h S .brk .refl)
theorem zjs {pos:Pos}{P:Fl->AS->Prop}(h:P .cont σ):EX g A F (.Continue pos) σ P:=fun s S _ _ k=>wpAny_Continue (k _ _ σ s h S .cont .refl)
abbrev zih (P:Fl->AS->Prop):Bool->AS->Prop:=fun b σ₁=>b=true/\P .next σ₁
theorem zbZ {test:Expr}{msg:Option Expr}{pos:Pos}{P:Fl->AS->Prop}(h:TR g A F test σ (zih P)):EX g A F (.Assert test msg pos) σ P:=by
 intro s S Q E k
 refine wpAny_Assert_holds (h s S _ E fun b b' σ₁ s₁ h₁ S₁ hb st₁=>?_)
 cases hb
 exact ⟨h₁.1,k _ _ σ₁ s₁ h₁.2 S₁ .next st₁.up⟩
noncomputable def PV.flat:PV->Prop
 | .raw (.ref _)=>False
 | .tup _ | .lst _=>False
 | _=>True
abbrev zkS (P:Fl->AS->Prop):PV->AS->Prop:=fun p σ₁=>p.flat/\P .next σ₁
theorem zab {e:Expr}{pos:Pos}{P:Fl->AS->Prop}(h:EV g A F e σ (zkS P))(hi:interactive F.env=false:=by left)(hs:swapsWith e none pos.line F.env=pure false:=by left):EX g A F (.Expr e pos) σ P:=by
 intro s S Q E k
 refine wpAny_Expr (h s S _ E fun v p σ₁ s₁ h₁ S₁ hv st₁=>?_) hi hs
 obtain ⟨hf,h₁⟩:=h₁
 have:=k .next .next σ₁ s₁ h₁ S₁ .next st₁.up
 cases hv with
 | raw v=>cases v <;> first | exact this | exact hf.elim
 | tup=>exact hf.elim
 | lst=>exact hf.elim
 | _=>exact this
abbrev zf2 (P:Fl->AS->Prop)(x:Str):PV->AS->Prop:=fun r σ₂=>P .next (σ₂.set x r)
abbrev zf6 (g:Gl)(A:Around)(F:Fm)(P:Fl->AS->Prop)(x:Str)(op:Operator)(p:PV):PV->AS->Prop:=fun q σ₁=>OP2 g A F (inplaceOp op) p q σ₁ (zf2 P x)
theorem zaN {x:Str}{pos' pos:Pos}{op:Operator}{value:Expr}{p:PV}{P:Fl->AS->Prop}(hk:z0 F)(hl:σ.loc.lookup x=some p)(h:EV g A F value σ (zf6 g A F P x op p))
  (hx:F.env.kindOf x=some .local:=by left):EX g A F (.AugAssign (.Name x pos') op value pos) σ P:=by
 intro s S Q E k
 obtain ⟨v,hn,hv⟩:=S.loc x p hl
 rcases hn with ⟨e,m,n,hm⟩ | ⟨e,_⟩
 ·refine wpAny_AugAssign_Name (wpAny_loadName_local hk.kind hx n hm ?_)
  refine h s S _ E fun u q σ₁ s₁ h₁ S₁ hu st₁=>?_
  refine h₁ s₁ v u S₁ (hv.mono (S.kp st₁)) hu _ E fun r p₃ σ₃ s₃ h₃ S₃ hr st₃=>?_
  exact za7 hk hx S₃ hr fun s₂ S₂ st₂=>k _ _ _ s₂ h₃ S₂ .next (st₁.up.trans (st₃.up.trans st₂))
 ·rw [hx] at e;rcases e with e | e <;> cases e
theorem zhq {a b:Int}{P:PV->AS->Prop}(h:P (.int (a+b)) σ):OP2 g A F (inplaceOp .Add) (.int a) (.int b) σ P:=fun s v u S hv hu Q E k=>by
 cases hv;cases hu;exact wpAny_iadd_int (k _ _ σ _ h (S.toks _) (.int _ _) .toks)
theorem zoD {x y:Str}{P:PV->AS->Prop}(hs:x.length+y.length<=sizeLine)(h:P (.str (x++y)) σ):OP2 g A F (inplaceOp .Add) (.str x) (.str y) σ P:=fun s v u S hv hu Q E k=>by
 cases hv;cases hu;exact PyProof.Rows.iadd_str (fun t' tk=>k _ _ σ _ h (S.toks _) (.str _ _) .toks) hs
structure Rm (A:Around)(n:Nat):Prop where
 handled:A.handled=none
 depth:A.depth+n < recursionLimit
 units:A.units+10*n+10 < cLine
def zlo (g:Gl)(A:Around)(F:Fm):List (Value->Sem Unit)->List PV->AS->(AS->Prop)->Prop:=fun ts ps σ P =>
 ∀ s vs,Sat g F σ s->VRs s.heap σ.own ps vs->∀ (Q:Unit->Shared->Prop) (E:Value->Shared->Prop),(∀ σ' s',P σ'->Sat g F σ' s'->Stp F.fr σ.own s σ'.own s'->Q () s')->wpAny (model g.prog g.w) A (assignInOrder ts vs) Q E s
theorem zrV {P:AS->Prop}(h:P σ):zlo g A F [] [] σ P:=fun s vs S hv Q E k=>by cases hv;exact wpAny_pure (k σ s h S .refl)
theorem zpt {x:Str}{ts:List (Value->Sem Unit)}{p:PV}{ps:List PV}{P:AS->Prop}(hk:z0 F)(h:zlo g A F ts ps (σ.set x p) P)(hx:F.env.kindOf x=some .local:=by left) :
  zlo g A F ((fun v=>bindName F.env x v)::ts) (p::ps) σ P:=fun s vs S hvs Q E k=>by
 cases hvs with
 | cons hv hs =>
  show wpAny _ A (do holding _ (bindName F.env x _);assignInOrder ts _) Q E s
  refine wpAny_bind (wpAny_holding (wpAny_bindName (za7 hk hx S hv fun s₁ S₁ st₁=>?_)))
  exact h s₁ _ S₁ (hs.mono (S.kp st₁)) Q E fun σ' s' h' S' st'=>k σ' s' h' S' (st₁.trans st')
theorem zrr {x:Str}{pos:Pos}{ts:List (Value->Sem Unit)}{p:PV}{ps:List PV}{P:AS->Prop}(hk:z0 F)(h:zlo g A F ts ps (σ.set x p) P)(hx:F.env.kindOf x=some .local:=by left) :
  zlo g A F ((assign (.Name x pos) F.env)::ts) (p::ps) σ P:=fun s vs S hvs Q E k=>by
 cases hvs with
 | cons hv hs =>
  show wpAny _ A (do holding _ (assign (.Name x pos) F.env _);assignInOrder ts _) Q E s
  refine wpAny_bind (wpAny_holding (assign_Name (za7 hk hx S hv fun s₁ S₁ st₁=>?_)))
  exact h s₁ _ S₁ (hs.mono (S.kp st₁)) Q E fun σ' s' h' S' st'=>k σ' s' h' S' (st₁.trans st')
theorem VRs.toArray {h:Heap}{own:List Addr}{ps:List PV}{items:Array Value}(x:VRs h own ps items.toList):items.size=ps.length:=by
 have:=x.length;simpa using this
theorem zg1 {es:List Expr}{n:Nat}{pos:Pos}{ps:List PV}{v:Value}{Q:Unit->Shared->Prop}{E:Value->Shared->Prop}{P:AS->Prop}(hr:Rm A 0)(S:Sat g F σ s)(hv:VR s.heap σ.own (.tup ps) v)
  (hn:(assignEach es F.env).length=ps.length) (hstar:(assignEach es F.env).findIdx? (·.1)=none) (h:zlo g A F ((assignEach es F.env).map (·.2)) ps σ P)
  (k:∀ σ' s',P σ'->Sat g F σ' s'->Stp F.fr σ.own s σ'.own s'->Q () s'):wpAny (model g.prog g.w) A (assign (.Tuple es n pos) F.env v) Q E s:=by
 cases hv with
 | tup ha ho hl =>
  refine assign_Tuple_tuple hr.handled ⟨_,ho,rfl,_,rfl⟩ (hn.trans hl.toArray.symm) hstar fun h' he=>?_
  have L:g.h₁.objs.size<=s.heap.objs.size:=by
   have:=S.lo _ (List.mem_append_left _ S.nin)
   exact Nat.le_of_lt (Nat.lt_of_le_of_lt this (S.fr_lt S.nin))
  have S':=S.ext L he (fun h=>Nat.lt_irrefl _ (S.fr_lt h)) (fun h=>Nat.lt_irrefl _ (S.own_lt h)) (fun o' e=>by rw [zae] at e;cases e)
  have st:Stp F.fr σ.own s σ.own { s with heap:=h' }:=Stp.refl.off (zae _) he
  exact h _ _ S' (hl.mono (S.kp st)) Q E fun σ' s' h' S' st'=>k σ' s' h' S' (st.trans st')
inductive zbz (g:Gl)(A:Around)(F:Fm)(P:Fl->AS->Prop)(es:List Expr)(p:PV)(σ₁:AS):Prop
 | mk (ps:List PV) (h1:p=.tup ps) (h2:(assignEach es F.env).length=ps.length) (h3:zlo g A F ((assignEach es F.env).map (·.2)) ps σ₁ (P .next)):zbz g A F P es p σ₁
theorem zaM {es:List Expr}{n:Nat}{tpos pos:Pos}{value:Expr}{P:Fl->AS->Prop}(hr:Rm A 0)
  (h:EV g A F value σ (zbz g A F P es))
  (hstar:(assignEach es F.env).findIdx? (·.1)=none:=by left)
  (hs:swapsWithSole [.Tuple es n tpos] value pos.line F.env=pure false:=by left) (hw:swappedStores [.Tuple es n tpos] value F.env=pure none:=by left):EX g A F (.Assign [.Tuple es n tpos] value pos) σ P:=by
 intro s S Q E k
 refine Assign_Tuple (h s S _ E fun v p σ₁ s₁ h₁ S₁ hv st₁=>?_) hs hw
 obtain ⟨ps,rfl,hn,h₂⟩:=h₁
 exact zg1 hr S₁ hv hn hstar h₂ fun σ' s' h' S' st'=>k _ _ σ' s' h' S' .next (st₁.up.trans st')
inductive zbk (g:Gl)(A:Around)(F:Fm)(P:Fl->AS->Prop)(names:List Str)(p:PV)(σ₁:AS):Prop
 | mk (ps:List PV) (h1:p=.tup ps) (h2:names.length=ps.length) (h3:zlo g A F (names.reverse.map fun n=>bindName F.env n) ps.reverse σ₁ (P .next)):zbk g A F P names p σ₁
theorem z4 {es:List Expr}{n:Nat}{tpos pos:Pos}{value:Expr}{names:List Str}{P:Fl->AS->Prop}(hr:Rm A 0)
  (h:EV g A F value σ (zbk g A F P names))
  (hs:swapsWithSole [.Tuple es n tpos] value pos.line F.env=pure false:=by left) (hw:swappedStores [.Tuple es n tpos] value F.env=pure (some names):=by left):EX g A F (.Assign [.Tuple es n tpos] value pos) σ P:=by
 intro s S Q E k
 refine Assign_Tuple_swapped (h s S _ E fun v p σ₁ s₁ h₁ S₁ hv st₁=>?_) hs hw
 obtain ⟨ps,rfl,hn,h₂⟩:=h₁
 cases hv with
 | tup ha ho hl =>
  have hsz:=hl.toArray
  rw [hn,<- hsz]
  refine unpackItems_tuple hr.handled ⟨_,ho,rfl,_,rfl⟩ fun h' he=>?_
  have L:g.h₁.objs.size<=s₁.heap.objs.size:=by
   have:=S₁.lo _ (List.mem_append_left _ S₁.nin)
   exact Nat.le_of_lt (Nat.lt_of_le_of_lt this (S₁.fr_lt S₁.nin))
  have S':=S₁.ext L he (fun h=>Nat.lt_irrefl _ (S₁.fr_lt h)) (fun h=>Nat.lt_irrefl _ (S₁.own_lt h)) (fun o' e=>by rw [zae] at e;cases e)
  have st:Stp F.fr σ₁.own s₁ σ₁.own { s₁ with heap:=h' }:=Stp.refl.off (zae _) he
  exact h₂ _ _ S' (hl.mono (S₁.kp st)).reverse _ E fun σ' s' h' S' st'=>k _ _ σ' s' h' S' .next (st₁.up.trans (st.trans st'))
end
end Mine
end
section
open PySem PySem.Calls PyProof.Rows
namespace Mine
def Off (g:Gl)(F:Fm)(own:List Addr)(ads:List Addr):Prop:=∀ a∈ads,a∉F.fr/\a∉own/\g.h₁.objs.size<=a
structure zez (g:Gl)(A:Around) where
 Rel:Heap->List Addr->List Addr->List PV->Prop
 hard:∀ {h own ads xs},Rel h own ads xs->∀ a∈ads,∃ o,h.get? a=some o/\o.cls≠.none/\¬ zr o/\∀ xs n,o.data≠.seq xs n
 stable:∀ {h h' own own' ads xs},Rel h own ads xs->Kp h h' own own'->(∀ a∈ads,∀ o,h.get? a=some o->h'.get? a=some o)->Rel h' own' ads xs
 next:∀ {F:Fm} {σ:AS} {s:Shared} {ads it x xs} {Q:Option Value->Shared->Prop} {E:Value->Shared->Prop},ads.head?=some it->Sat g F σ s->Off g F σ.own ads->Rel s.heap σ.own ads (x::xs) ->
  (∀ v s',(∀ b o,s.heap.get? b=some o->b∉ads->s'.heap.get? b=some o)->s'.gens=s.gens->Sat g F σ s'->VR s'.heap σ.own x v->Rel s'.heap σ.own ads xs->Q (some v) s')->wpAny (model g.prog g.w) A (pyNext (.ref it)) Q E s
 stop:∀ {F:Fm} {σ:AS} {s:Shared} {ads it} {Q:Option Value->Shared->Prop} {E:Value->Shared->Prop},ads.head?=some it->Sat g F σ s->Off g F σ.own ads->Rel s.heap σ.own ads [] ->
  (∀ s',(∀ b o,s.heap.get? b=some o->b∉ads->s'.heap.get? b=some o)->s'.gens=s.gens->Sat g F σ s'->Q none s')->wpAny (model g.prog g.w) A (pyNext (.ref it)) Q E s
 letGo:∀ {F:Fm} {σ:AS} {s:Shared} {ads it xs} {target:Expr} {v:Value} {Q:Unit->Shared->Prop} {E:Value->Shared->Prop},ads.head?=some it->Sat g F σ s->Off g F σ.own ads->Rel s.heap σ.own ads xs ->
  (∀ s',(∀ b o,s.heap.get? b=some o->b∉ads->s'.heap.get? b=some o)->s'.gens=s.gens->Sat g F σ s'->Rel s'.heap σ.own ads xs->Q () s')->wpAny (model g.prog g.w) A (letOwnedTupleGo target (.ref it) v) Q E s
 self:∀ {F:Fm} {σ:AS} {s:Shared} {ads it xs} {Q:Value->Shared->Prop} {E:Value->Shared->Prop},ads.head?=some it->Sat g F σ s->Off g F σ.own ads->Rel s.heap σ.own ads xs->Q (.ref it) s->wpAny (model g.prog g.w) A (pyIter (.ref it)) Q E s
def AS1 (g:Gl)(A:Around)(F:Fm)(t:Expr)(p:PV)(σ:AS)(P:AS->Prop):Prop :=
 ∀ s v,Sat g F σ s->VR s.heap σ.own p v->∀ (Q:Unit->Shared->Prop) (E:Value->Shared->Prop),(∀ σ' s',P σ'->Sat g F σ' s'->Stp F.fr σ.own s σ'.own s'->Q () s')->wpAny (model g.prog g.w) A (assign t F.env v) Q E s
noncomputable def zmN (g:Gl)(A:Around)(F:Fm)(t:Expr)(body orelse:List Stmt):List PV->AS->(Fl->AS->Prop)->Prop
 | [],σ,P=>EXs g A F orelse σ P
 | x::xs,σ,P=>AS1 g A F t x σ fun σ₁=>EXs g A F body σ₁ fun fl σ₂=>match fl with
  | .next | .cont=>zmN g A F t body orelse xs σ₂ P
  | .brk=>P .next σ₂
  | .ret p=>P (.ret p) σ₂
section
variable {g:Gl}{A:Around}{F:Fm}{σ:AS}{s:Shared}
theorem zay {x:Str}{pos:Pos}{p:PV}{P:AS->Prop}(hk:z0 F)(h:P (σ.set x p))(hx:F.env.kindOf x=some .local:=by left):AS1 g A F (.Name x pos) p σ P :=
 fun s v S hv Q E k=>assign_Name (za7 hk hx S hv fun s' S' st=>k _ s' h S' st)
theorem zdp {es:List Expr}{n:Nat}{pos:Pos}{ps:List PV}{P:AS->Prop}(hr:Rm A 0)(hn:(assignEach es F.env).length=ps.length)(h:zlo g A F ((assignEach es F.env).map (·.2)) ps σ P)
  (hstar:(assignEach es F.env).findIdx? (·.1)=none:=by left):AS1 g A F (.Tuple es n pos) (.tup ps) σ P :=
 fun s v S hv Q E k=>zg1 hr S hv hn hstar h k
theorem Stp.offs {fr own own':List Addr}{s₀ s':Shared}(x:Stp fr own s₀ own' s){ads:List Addr}(ha:∀ a∈ads,s₀.heap.get? a=none)(hs:∀ b o,s.heap.get? b=some o->b∉ads->s'.heap.get? b=some o)(hg:s'.gens=s.gens):Stp fr own s₀ own' s':=by
 have ne:∀ b o,s₀.heap.get? b=some o->b∉ads:=fun b o e q=>by rw [ha b q] at e;cases e
 exact ⟨fun b o e nf no hc=>hs b o (x.keep b o e nf no hc) (ne b o e),fun b o e=>let ⟨o',e'⟩:=x.there b o e;⟨o',hs b o' e' (ne b o e)⟩,x.fresh,fun i z e=>hg ▸ x.gens i z e⟩
theorem zez.after {K:zez g A}{σ':AS}{s':Shared}{fr ads:List Addr}{xs:List PV}(S:Sat g F σ s)(st:Stp fr σ.own s σ'.own s')(off:Off g F σ.own ads)(r:K.Rel s.heap σ.own ads xs)(hfr:∀ b∈fr,b∈F.fr:=by first | exact fun _ h=>h | exact fun _ h=>absurd h List.not_mem_nil) :
  Off g F σ'.own ads/\K.Rel s'.heap σ'.own ads xs:=by
 have hk:∀ a∈ads,∀ o,s.heap.get? a=some o->s'.heap.get? a=some o:=fun a ha o e=>by
  obtain ⟨o',e',hc,_⟩:=K.hard r a ha
  rw [e] at e';cases e'
  exact st.keep a o e (fun h=>(off a ha).1 (hfr a h)) (off a ha).2.1 (.inl hc)
 refine ⟨fun a ha=>⟨(off a ha).1,fun hb=>?_,(off a ha).2.2⟩,K.stable r (S.kp st hfr) hk⟩
 rcases st.fresh a hb with q | q
 ·exact (off a ha).2.1 q
 ·obtain ⟨o',e',_⟩:=K.hard r a ha
  rw [e'] at q;cases q
theorem zly {K:zez g A}{t:Expr}{body orelse:List Stmt}{P:Fl->AS->Prop}{own₀:List Addr}{s₀:Shared}{R:Result->Shared->Prop}{ads:List Addr}{it:Addr}(hd:ads.head?=some it)(ha:∀ a∈ads,s₀.heap.get? a=none)
  (k:∀ f fl σ' s',P fl σ'->Sat g F σ' s'->FlR s'.heap σ'.own fl f->Stp F.fr own₀ s₀ σ'.own s'->R (.ok f) s')
  {xs:List PV} (S:Sat g F σ s) (st:Stp F.fr own₀ s₀ σ.own s) (off:Off g F σ.own ads) (r:K.Rel s.heap σ.own ads xs) (h:zmN g A F t body orelse xs σ P) :
  codeAny (model g.prog g.w) A (.forLoop t (.ref it) body orelse F.env) R s:=by
 refine codeAny_forLoop_any (fun n s=>∃ xs σ,n=xs.length/\Sat g F σ s/\Stp F.fr own₀ s₀ σ.own s/\Off g F σ.own ads/\K.Rel s.heap σ.own ads xs/\zmN g A F t body orelse xs σ P) ?_ xs.length ⟨xs,σ,rfl,S,st,off,r,h⟩
 clear S st off r h
 rintro n s ⟨xs,σ,rfl,S,st,off,r,h⟩
 refine wpO fun W hW=>?_
 cases xs with
 | nil =>
  refine K.stop hd S off r fun s' hs hg S'=>?_
  refine hW _ _ ?_
  refine h s' S' _ _ fun f fl σ₂ s₂ h₂ S₂ hr st₂=>?_
  exact k f fl σ₂ s₂ h₂ S₂ hr ((st.offs ha hs hg).trans st₂)
 | cons x xs =>
  refine K.next hd S off r fun v s₁ hs hg S₁ hv r₁=>?_
  have st₁:=st.offs ha hs hg
  refine hW _ _ ?_
  clear hW W
  refine K.letGo hd S₁ off r₁ fun s₂ hs₂ hg₂ S₂ r₂=>?_
  have st₂:=st₁.offs ha hs₂ hg₂
  have kp₁₂:Kp s₁.heap s₂.heap σ.own σ.own:=fun b o xs n e d no=>⟨hs₂ b o e (fun q=>by
   obtain ⟨o',e',_,_,hq⟩:=K.hard r₁ b q
   rw [e] at e';cases e'
   exact hq xs n d),no⟩
  refine h s₂ v S₂ (hv.mono kp₁₂) _ _ fun σ₃ s₃ h₃ S₃ st₃=>?_
  obtain ⟨off₃,r₃⟩:=K.after S₂ st₃ off r₂
  refine h₃ s₃ S₃ _ _ fun f fl σ₄ s₄ h₄ S₄ hr st₄=>?_
  obtain ⟨off₄,r₄⟩:=K.after S₃ st₄ off₃ r₃
  have stt:=st₂.trans (st₃.trans st₄)
  cases hr with
  | next=>exact ⟨xs.length,Nat.lt_succ_self _,xs,σ₄,rfl,S₄,stt,off₄,r₄,h₄⟩
  | cont=>exact ⟨xs.length,Nat.lt_succ_self _,xs,σ₄,rfl,S₄,stt,off₄,r₄,h₄⟩
  | brk=>exact k _ _ σ₄ s₄ h₄ S₄ .next stt
  | ret hv=>exact k _ _ σ₄ s₄ h₄ S₄ (.ret hv) stt
def IT (g:Gl)(A:Around)(F:Fm)(p:PV)(xs:List PV)(σ:AS):Prop :=
 ∀ s v,Sat g F σ s->VR s.heap σ.own p v->∀ (Q:Value->Shared->Prop) (E:Value->Shared->Prop),
  (∀ (K:zez g A) it ads s',ads.head?=some it->Sat g F σ s'->Stp [] σ.own s σ.own s'->(∀ a∈ads,s.heap.get? a=none)->Off g F σ.own ads->K.Rel s'.heap σ.own ads xs->Q (.ref it) s') ->
  wpAny (model g.prog g.w) A (pyIter v) Q E s
inductive ziX (g:Gl)(A:Around)(F:Fm)(P:Fl->AS->Prop)(t:Expr)(body:List Stmt)(orelse:List Stmt)(p:PV)(σ₁:AS):Prop
 | mk (xs:List PV) (h1:IT g A F p xs σ₁) (h2:zmN g A F t body orelse xs σ₁ P):ziX g A F P t body orelse p σ₁
theorem zj0 {t iter:Expr}{body orelse:List Stmt}{pos:Pos}{P:Fl->AS->Prop}(h:EV g A F iter σ (ziX g A F P t body orelse))
  (hs:∀ x,foldedSetIterable iter F.env x=pure x:=by left):EX g A F (.For t iter body orelse pos) σ P:=by
 intro s S Q E k
 refine wpAny_For (h s S _ E fun v p σ₁ s₁ h₁ S₁ hv st₁=>?_) hs
 obtain ⟨xs,hi,hf⟩:=h₁
 refine hi s₁ v S₁ hv _ E fun K it ads s₂ hd S₂ st₂ ha off r=>?_
 refine zly hd ha (fun f fl σ' s' h' S' hr st'=>k f fl σ' s' h' S' hr (st₁.up.trans st')) S₂ st₂.up off r hf
theorem Sat.base_le (S:Sat g F σ s):g.h₁.objs.size<=s.heap.objs.size:=by
 have:=S.lo _ (List.mem_append_left _ S.nin)
 exact Nat.le_of_lt (Nat.lt_of_le_of_lt this (S.fr_lt S.nin))
theorem Sat.off_new (S:Sat g F σ s):Off g F σ.own [s.heap.objs.size]:=fun a ha=>by
 rw [List.mem_singleton] at ha;subst ha
 exact ⟨fun h=>Nat.lt_irrefl _ (S.fr_lt h),fun h=>Nat.lt_irrefl _ (S.own_lt h),S.base_le⟩
theorem zdy {α:Type}{l xs:List α}{x:α}{i:Nat}(e:l.drop i=x::xs):l[i]?=some x/\l.drop (i+1)=xs:=by
 have h1:l[i]?=some x:=by
  have:=congrArg (·[0]?) e
  simpa [List.getElem?_drop] using this
 refine ⟨h1,?_⟩
 have:=congrArg (List.drop 1) e
 simpa [List.drop_drop,Nat.add_comm] using this
theorem zj6 {α:Type}{l:List α}{i:Nat}(e:l.drop i=[]):l[i]?=none:=by
 rw [List.drop_eq_nil_iff] at e
 exact List.getElem?_eq_none e
inductive zmt (h:Heap)(own:List Addr)(ads:List Addr)(xs:List PV):Prop
 | mk (it:_) (l:_) (i:_) (items:_) (n:_) (ps:_) (h1:ads=[it]) (h2:h.IsListIter it l i) (h3:l∉own) (h4:h.get? l=some (zam items n)) (h5:VRs h own ps items.toList) (h6:ps.drop i=xs):zmt h own ads xs
theorem zcf {h:Heap}{it l:Addr}{i:Nat}(x:h.IsListIter it l i):∃ o,h.get? it=some o/\o.cls≠.none/\¬ zr o/\∀ xs n,o.data≠.seq xs n:=by
 obtain ⟨o,e,hc,hd⟩:=x
 exact ⟨o,e,by rw [hc];simp,fun q=>by rcases q with ⟨_,_,q⟩ | ⟨_,q⟩ <;> (rw [hd] at q;cases q),fun xs n q=>by rw [hd] at q;cases q⟩
def zjw (o:Obj):Prop:=∃ T vs,o.cls=.type T/\o.data=.fields vs/\(["enumerate","zip","dict_itemiterator","dict_reverseitemiterator","odict_iterator","itertools.zip_longest","itertools.pairwise"].contains T)=false
theorem zhv {it:Addr}{o:Obj}{target:Expr}{v:Value}{Q:Unit->Shared->Prop}{E:Value->Shared->Prop}(e:s.heap.get? it=some o)(x:zjw o)(h:Q () s):wpAny (model g.prog g.w) A (letOwnedTupleGo target (.ref it) v) Q E s:=by
 obtain ⟨T,vs,hc,hd,hT⟩:=x
 have key:∀ a:Addr,wpAny (model g.prog g.w) A (match o.cls,o.data with
   | .type n,.fields vs =>
    if ["enumerate","zip","dict_itemiterator","dict_reverseitemiterator","odict_iterator","itertools.zip_longest","itertools.pairwise"].contains n && vs[0]?==some (rawInt a) then do
     rule "for.unpacks-the-owned-tuple"
     updateField it 0 .none
    else pure ()
   | _,_=>pure ():Sem Unit) Q E s:=fun a=>by
  rw [hc,hd]
  dsimp only
  rw [if_neg (by rw [hT];simp)]
  exact wpAny_pure h
 unfold letOwnedTupleGo
 cases target <;> first
  | exact wpAny_pure h
  | (cases v <;> first
   | exact wpAny_pure h
   | (refine wpAny_bind (wpAny_load e ?_);exact key _))
noncomputable def ztD (g:Gl)(A:Around)(hr:Rm A 0):zez g A where
 Rel:=zmt
 hard:=by
  rintro h own ads xs ⟨it,l,i,items,n,ps,rfl,hit,_⟩ a ha
  rw [List.mem_singleton] at ha;subst ha
  exact zcf hit
 stable:=by
  rintro h h' own own' ads xs ⟨it,l,i,items,n,ps,rfl,hit,hl,ho,hv,hx⟩ kp ka
  obtain ⟨e1,e2⟩:=kp l _ items n ho rfl hl
  exact ⟨it,l,i,items,n,ps,rfl,hit.at (ka it (by simp)),e2,e1,hv.mono kp,hx⟩
 next:=by
  rintro F σ s ads it x xs Q E hd S off ⟨it',l,i,items,n,ps,rfl,hit,hl,ho,hv,hx⟩ k
  obtain rfl:it'=it:=by simpa using hd
  obtain ⟨h1,h2⟩:=zdy hx
  obtain ⟨v,hv1,hv2⟩:=hv.get h1
  refine wpAny_pyNext_list_item hit ⟨_,ho,rfl,_,rfl⟩ (by simpa using hv1) fun h' hit' hs=>?_
  obtain ⟨o1,o2,o3⟩:=off it' (by simp)
  obtain ⟨o,e,_,hf,hq⟩:=zcf hit
  have kk:∀ b o,s.heap.get? b=some o->b∉[it']->h'.get? b=some o:=fun b o e hb=>hs.extBut b o (by simpa using hb) e
  have kp:Kp s.heap h' σ.own σ.own:=fun b o' xs n e' d no=>⟨kk b o' e' (fun q=>by
   rw [List.mem_singleton] at q;subst q
   rw [e] at e';cases e'
   exact hq xs n d),no⟩
  refine k v _ kk rfl (S.ext o3 hs.extBut o1 o2 fun o' e'=>by rw [e] at e';cases e';exact ⟨hf,hq⟩) (hv2.mono kp) ⟨it',l,i+1,items,n,ps,rfl,hit',hl,(kp l _ items n ho rfl hl).1,hv.mono kp,h2⟩
 stop:=by
  rintro F σ s ads it Q E hd S off ⟨it',l,i,items,n,ps,rfl,hit,hl,ho,hv,hx⟩ k
  obtain rfl:it'=it:=by simpa using hd
  have hnone:items[i]?=none:=by
   have:=zj6 hx
   have hl':=hv.length
   rw [List.getElem?_eq_none_iff] at this
   simp only [Array.length_toList] at hl'
   rw [Array.getElem?_eq_none_iff];lia
  refine wpAny_pyNext_list_end hr.handled hit ⟨_,ho,rfl,_,rfl⟩ hnone fun h' hs=>?_
  obtain ⟨o1,o2,o3⟩:=off it' (by simp)
  obtain ⟨o,e,_,hf,hq⟩:=zcf hit
  exact k _ (fun b o e hb=>hs b o (by simpa using hb) e) rfl (S.ext o3 hs o1 o2 fun o' e'=>by rw [e] at e';cases e';exact ⟨hf,hq⟩)
 letGo:=by
  rintro F σ s ads it xs target v Q E hd S off ⟨it',l,i,items,n,ps,rfl,hit,hl,ho,hv,hx⟩ k
  obtain rfl:it'=it:=by simpa using hd
  have fin:Q () s:=k s (fun _ _ e _=>e) rfl S ⟨it',l,i,items,n,ps,rfl,hit,hl,ho,hv,hx⟩
  obtain ⟨o,e,hc,hd'⟩:=hit
  exact zhv e ⟨_,_,hc,hd',by decide⟩ fin
 self:=by
  rintro F σ s ads it xs Q E hd S off ⟨it',l,i,items,n,ps,rfl,hit,hl,ho,hv,hx⟩ k
  obtain rfl:it'=it:=by simpa using hd
  exact wpAny_pyIter_listiter hit k
theorem zcz {xs:List PV}(hr:Rm A 0):IT g A F (.lst xs) xs σ:=by
 intro s v S hv Q E k
 cases hv with
 | @lst _ l items n ha ho hl =>
  refine wpAny_pyIter_list ⟨_,ho,rfl,_,rfl⟩ ?_
  refine k (ztD g A hr) s.heap.objs.size [s.heap.objs.size] _ rfl (S.push _) (.push _) (fun a ha'=>by rw [List.mem_singleton] at ha';subst ha';exact zae _) S.off_new ?_
  have kp:Kp s.heap (s.heap.push { cls:=.type "list_iterator",data:=.fields #[.ref l,.int 0 0] }) σ.own σ.own:=fun b o' xs n e _ no=>⟨Heap.get?_push_of_some _ e,no⟩
  exact ⟨_,_,0,_,_,xs,rfl,⟨_,Heap.get?_push_size _ rfl,rfl,rfl⟩,ha,Heap.get?_push_of_some _ ho,hl.mono kp,rfl⟩
end
end Mine
end
section
open PySem PySem.Calls PyProof.Rows
namespace Mine
noncomputable def WhP (g:Gl)(A:Around)(F:Fm)(test:Expr)(body orelse:List Stmt):Nat->AS->(Fl->AS->Prop)->Prop
 | 0,_,_=>False
 | n+1,σ,P=>TR g A F test σ fun b σ₁=>if b=true then EXs g A F body σ₁ fun fl σ₂=>(match fl with
   | .next | .cont=>WhP g A F test body orelse n σ₂ P
   | .brk=>P .next σ₂
   | .ret p=>P (.ret p) σ₂) else EXs g A F orelse σ₁ P
section
variable {g:Gl}{A:Around}{F:Fm}{σ:AS}{s:Shared}
theorem zlL {test:Expr}{body orelse:List Stmt}{P:Fl->AS->Prop}{own₀:List Addr}{s₀:Shared}{R:Result->Shared->Prop}
  (k:∀ f fl σ' s',P fl σ'->Sat g F σ' s'->FlR s'.heap σ'.own fl f->Stp F.fr own₀ s₀ σ'.own s'->R (.ok f) s')
  {n:Nat} (S:Sat g F σ s) (st:Stp F.fr own₀ s₀ σ.own s) (h:WhP g A F test body orelse n σ P) :
  codeAny (model g.prog g.w) A (.whileLoop test body orelse F.env) R s:=by
 refine codeAny_whileLoop (fun n s=>∃ σ,Sat g F σ s/\Stp F.fr own₀ s₀ σ.own s/\WhP g A F test body orelse n σ P) ?_ n ⟨σ,S,st,h⟩
 clear S st h
 rintro n s ⟨σ,S,st,h⟩
 cases n with
 | zero=>exact h.elim
 | succ n =>
  refine h s S _ _ fun b b' σ₁ s₁ h₁ S₁ hb st₁=>?_
  cases hb
  cases b with
  | false=>exact h₁ s₁ S₁ _ _ fun f fl σ₂ s₂ h₂ S₂ hr st₂=>k f fl σ₂ s₂ h₂ S₂ hr (st.trans (st₁.up.trans st₂))
  | true =>
   refine h₁ s₁ S₁ _ _ fun f fl σ₂ s₂ h₂ S₂ hr st₂=>?_
   have stt:=st.trans (st₁.up.trans st₂)
   cases hr with
   | next=>exact ⟨n,Nat.lt_succ_self _,σ₂,S₂,stt,h₂⟩
   | cont=>exact ⟨n,Nat.lt_succ_self _,σ₂,S₂,stt,h₂⟩
   | brk=>exact k _ _ σ₂ s₂ h₂ S₂ .next stt
   | ret hv=>exact k _ _ σ₂ s₂ h₂ S₂ (.ret hv) stt
theorem zhF {test:Expr}{body orelse:List Stmt}{pos:Pos}{P:Fl->AS->Prop}(n:Nat)(h:WhP g A F test body orelse n σ P):EX g A F (.While test body orelse pos) σ P:=by
 intro s S Q E k
 exact wpAny_While (zlL (own₀:=σ.own) (s₀:=s) (fun f fl σ' s' h' S' hr st=>k f fl σ' s' h' S' hr st) S .refl h)
structure zdB (g:Gl)(f:Addr)(fd:FuncData)(body:List Stmt):Prop where
 at_:∃ o,g.h₁.get? f=some o/\o.cls≠.none/\o.data=.func fd
 bd:fd.body=.stmts body
 kind:fd.scope.kind=.function
 gen:fd.scope.isGenerator=false
 co:fd.scope.isCoroutine=false
 gl:fd.globals=mainGlobals
 bl:fd.builtins=builtinsNs
 code:∃ c o vs t,fd.code=.ref c/\g.h₁.get? c=some o/\o.cls≠.none/\o.data=.fields vs/\vs[1]?=some (.str fd.qualname t)
theorem zdB.now {f:Addr}{fd:FuncData}{body:List Stmt}(h:zdB g f fd body)(S:Sat g F σ s):∃ o,s.heap.get? f=some o/\o.data=.func fd :=
 let ⟨o,e,hc,hd⟩:=h.at_;⟨o,S.old.get_of_cls e hc,hd⟩
theorem zdB.codeRec {f:Addr}{fd:FuncData}{body:List Stmt}(h:zdB g f fd body)(S:Sat g F σ s):s.heap.CodeRec fd.code fd.qualname:=by
 obtain ⟨c,o,vs,t,e,e1,hc,hd,hv⟩:=h.code
 exact ⟨c,o,vs,t,e,S.old.get_of_cls e1 hc,hd,hv⟩
theorem Sat.cell_off (S:Sat g F σ s){c:Addr}{o:Obj}{v:Option Value}(e:s.heap.get? c=some o)(d:o.data=.cell v):c∉σ.own:=by
 intro hc
 unfold AS.own at hc
 obtain ⟨z,hz,h⟩:=List.mem_flatMap.mp hc
 have:=S.zs z hz
 obtain ⟨b,mo⟩:=z
 cases mo with
 | list l =>
  obtain ⟨items,n,h1,h2⟩:=this
  simp [MO.addrs] at h;subst h
  rw [e] at h1;cases h1;cases d
 | obj ob =>
  simp [MO.addrs] at h;subst h
  have q:=this.1
  rw [e] at q;cases q
  exact this.2.1 _ d
 | inst dx C att body =>
  obtain ⟨dd,es,n,h1,h2,h3,h4⟩:=this
  simp [MO.addrs] at h
  rcases h with rfl | rfl
  ·rw [e] at h1;cases h1
   cases body with
   | none=>rw [show dd=Data.plain from h2] at d;cases d
   | some l=>obtain ⟨_,_,q,_⟩:=h2;rw [q] at d;cases d
  ·rw [e] at h3;cases h3;cases d
theorem Sat.back {F':Fm}{σ':AS}{s':Shared}(S:Sat g F σ s)(S':Sat g F' σ' s'){fr:List Addr}(st:Stp fr σ.own s σ'.own s')(fk:∀ a∈F.fr,∀ o,s.heap.get? a=some o->s'.heap.get? a=some o)(hfr:∀ b∈fr,b∈F.fr:=by first | exact fun _ h=>h | exact fun _ h=>absurd h List.not_mem_nil):Sat g F ⟨σ.loc,σ'.zone⟩ s':=by
 have hk:∀ b o,s.heap.get? b=some o->zr o->b∉σ.own->s'.heap.get? b=some o:=fun b o e fl no=>by
  by_cases hb:b∈F.fr
  ·exact fk b hb o e
  ·exact st.keep b o e (fun h=>hb (hfr b h)) no fl.hard
 have hL:F.env.locals∉σ.own:=fun h=>(List.nodup_append.mp S.nd).2.2 _ S.nin _ h rfl
 refine ⟨S'.old,S'.lim,S'.os,S'.bare,?_,fun a ha=>?_,S'.zs,fun a ha=>?_,?_,S.nin,fun x p e=>?_,S.cs,S.cl.to fun b o e hc=>hk b o e (.inr hc) (let ⟨v,d⟩:=hc;S.cell_off e d)⟩
 ·refine List.nodup_append.mpr ⟨(List.nodup_append.mp S.nd).1,(List.nodup_append.mp S'.nd).2.1,fun a ha b hb q=>?_⟩
  subst q
  rcases st.fresh a hb with q | q
  ·exact (List.nodup_append.mp S.nd).2.2 a ha a q rfl
  ·obtain ⟨o,e,_⟩:=S.fr a ha
   rw [e] at q;cases q
 ·rcases List.mem_append.mp ha with h | h
  ·exact S.lo a (List.mem_append_left _ h)
  ·exact S'.lo a (List.mem_append_right _ h)
 ·obtain ⟨o,e,fl⟩:=S.fr a ha
  exact ⟨o,fk a ha o e,fl⟩
 ·obtain ⟨m,o,es,ep,e,d,r⟩:=S.ns
  exact ⟨m,o,es,ep,hk _ _ e (.inl ⟨es,ep,d⟩) hL,d,r⟩
 ·obtain ⟨v,h1,h2⟩:=S.loc x p e
  refine ⟨v,?_,h2.mono (S.kp st hfr)⟩
  rcases h1 with ⟨a,m,⟨o,es,ep,e,d,r⟩,c⟩ | ⟨a,c,o',h3,h4,h5⟩
  ·exact .inl ⟨a,m,⟨o,es,ep,hk _ _ e (.inl ⟨es,ep,d⟩) hL,d,r⟩,c⟩
  ·exact .inr ⟨a,c,o',h3,hk _ _ h4 (.inr ⟨_,h5⟩) (S.cell_off h4 h5),h5⟩
theorem zbO {h:Heap}{own:List Addr}{xs:List Str}{ps:List PV}{vs:List Value}(r:VRs h own ps vs){x:Str}{p:PV}(e:(xs.zip ps).lookup x=some p):∃ v,(xs.zip vs).lookup x=some v/\VR h own p v:=by
 induction xs generalizing ps vs with
 | nil=>exact noS e
 | cons y xs ih =>
  cases ps with
  | nil=>exact noS e
  | cons q ps =>
   refine VRs.e1 r fun v us hv hs=>?_
   simp -iota only [List.zip_cons_cons,List.lookup_cons] at e ⊢
   cases q:x==y with
   | true=>rw [q] at e;cases e;exact ⟨_,rfl,hv⟩
   | false=>rw [q] at e;exact ih hs e
theorem zdz {α:Type}{x:Str}:∀ (l r:List (Str × α)),(l++r).lookup x=(l.lookup x).or (r.lookup x)
 | [],r=>by simp
 | (y,v)::l,r=>by
  simp only [List.cons_append,List.lookup_cons]
  cases x==y
  ·exact zdz l r
  ·rfl
theorem zcY {α:Type}{x:Str}:∀ {l:List (Str × α)},x∉l.map (·.1)->l.lookup x=none
 | [],_=>rfl
 | (y,v)::l,h=>by
  simp only [List.map_cons,List.mem_cons,not_or] at h
  rw [List.lookup_cons,show (x==y)=false from by simpa using h.1]
  exact zcY h.2
theorem zaR {α:Type}:∀ {l:List (Str × α)},(l.map (·.1)).Nodup->∀ x,l.reverse.lookup x=l.lookup x
 | [],_,_=>rfl
 | (y,v)::l,h,x=>by
  simp only [List.map_cons,List.nodup_cons] at h
  rw [List.reverse_cons,zdz,zaR h.2,List.lookup_cons]
  cases q:x==y with
  | true =>
   have:x=y:=eq_of_beq q
   subst this
   rw [zcY h.1]
   simp
  | false=>simp [List.lookup_cons,q]
def CLC (g:Gl)(A:Around)(F:Fm)(f:Value)(ps:List PV)(σ:AS)(P:PV->AS->Prop):Prop :=
 ∀ s vs,Sat g F σ s->VRs s.heap σ.own ps vs->∀ (R:Result->Shared->Prop),
  (∀ a b σ' s',P b σ'->Sat g F σ' s'->VR s'.heap σ'.own b a->Stp [] σ.own s σ'.own s'->R (.ok (.ret a)) s')->codeAny (model g.prog g.w) A (.call f ⟨vs,[]⟩) R s
theorem CLC.cl {f:Value}{ps:List PV}{P:PV->AS->Prop}(x:CLC g A F f ps σ P):CL g A F f ps σ P:=fun s vs S hvs Q E k=>wpAny_call (x s vs S hvs _ fun a b σ' s' h S' hv st=>k a b σ' s' h S' hv st)
noncomputable def zap (fd:FuncData)(L f:Addr):Fm:=⟨callEnv fd L f,[L]⟩
theorem Rm.deeper {n:Nat}{env:Env}(h:Rm A (n+1)):Rm (A.deeper env) n:=by
 obtain ⟨a,b,c⟩:=h
 exact ⟨a,by show A.depth+1+n < recursionLimit;lia,by show A.units+3+10*n+10 < cLine;lia⟩
theorem Rm.le {n m:Nat}(h:Rm A n)(hm:m<=n):Rm A m:=⟨h.handled,by have:=h.depth;lia,by have:=h.units;lia⟩
theorem zn9 {f:Addr}{fd:FuncData}{body:List Stmt}{xs:List Str}{ps:List PV}{P:PV->AS->Prop}{n:Nat}(hr:Rm A (n+1))(hf:zdB g f fd body)(hx:xs.Nodup)(hlen:xs.length=ps.length)
  (hb:∀ vs:List Value,vs.length=ps.length->bindArgs fd ⟨vs,[]⟩=pure (xs.zip vs))
  (hcellB:(fd.scope.names.all fun x=>x.2 != .cell)=true) (hlocB:(xs.all fun x=>fd.scope.names.lookup x==some .local)=true)
  (h:∀ L,EXs g (A.deeper (callEnv fd L f)) (zap fd L f) body ⟨xs.zip ps,σ.zone⟩ fun fl σ'=>P (match fl with | .ret p=>p | _=>.raw .none) ⟨σ.loc,σ'.zone⟩) :
  CLC g A F (.ref f) ps σ P:=by
 intro s vs S hvs R k
 have hcell:∀ x∈fd.scope.names,x.2≠.cell:=fun x hx=>by simpa using List.all_eq_true.mp hcellB x hx
 have hloc:∀ x∈xs,fd.scope.names.lookup x=some .local:=fun x hx=>by simpa using List.all_eq_true.mp hlocB x hx
 obtain ⟨o,e,hd⟩:=hf.now S
 have hlv:=hvs.length
 refine codeAny_call_def (hr.le (Nat.zero_le _)).depth e hd S.lim (hf.codeRec S) hf.bd (.of_eq (hb vs hlv)) hcell (fun x hx'=>?_) (fun h₀ hn hk=>?_) hf.co hf.gen hf.kind
 ·exact hloc _ (List.of_mem_zip hx').1
 ·have hkeys:((xs.zip vs).map (·.1))=xs:=by
   rw [List.map_fst_zip];lia
  have hL:s.heap.objs.size∉σ.own:=fun h=>Nat.lt_irrefl _ (S.own_lt h)
  have kp:Kp s.heap h₀ σ.own σ.own:=fun b o xs n e _ no=>⟨hk b o e,no⟩
  have S₀:Sat g (zap fd s.heap.objs.size f) ⟨xs.zip ps,σ.zone⟩ { s with heap:=h₀,toks:=s.toks+(xs.zip vs).length }:=by
   refine ⟨S.old.step_keeps hk,S.lim.keeps hk,S.os,S.bare,?_,fun a ha=>?_,fun z hz=>?_,fun a ha=>?_,⟨_,hn⟩,by simp [zap,callEnv,newEnv],fun x p ex=>?_,S.cs,fun x c hx _ _ _=>absurd rfl (hcell _ (mem_of_lookup hx))⟩
   ·show ([s.heap.objs.size]++σ.own).Nodup
    exact List.nodup_cons.mpr ⟨hL,(List.nodup_append.mp S.nd).2.1⟩
   ·rcases List.mem_append.mp ha with h | h
    ·simp [zap] at h;subst h;exact S.base_le
    ·exact S.lo a (List.mem_append_right _ h)
   ·have:=S.zs z hz
    obtain ⟨b,mo⟩:=z
    cases mo with
    | list l=>obtain ⟨items,n,h1,h2⟩:=this;exact ⟨items,n,hk _ _ h1,h2.mono kp⟩
    | obj ob=>exact ⟨hk _ _ this.1,this.2⟩
    | inst dx C att body =>
     obtain ⟨d,es,n,h1,h2,h3,h4⟩:=this
     refine ⟨d,es,n,hk _ _ h1,?_,hk _ _ h3,h4.mono kp⟩
     cases body with
     | none=>exact h2
     | some l=>obtain ⟨items,n',e1,e2⟩:=h2;exact ⟨items,n',e1,e2.mono kp⟩
   ·simp [zap] at ha;subst ha
    obtain ⟨o,es,ep,e,d,_⟩:=hn
    exact ⟨o,e,.inl ⟨es,ep,d⟩⟩
   ·obtain ⟨v,h1,h2⟩:=zbO hvs ex
    refine ⟨v,.inl ⟨?_,_,hn,?_⟩,h2.mono kp⟩
    ·have hm:x∈xs:=by
      have:=List.lookup_eq_some_iff.mp h1
      obtain ⟨l1,l2,e1,_⟩:=this
      have:(x,v)∈xs.zip vs:=by rw [e1];simp
      exact (List.of_mem_zip this).1
     show fd.scope.names.lookup x=some .local
     exact hloc x hm
    ·rw [zaR (by rw [hkeys];exact hx)];exact h1
  have st₀:Stp [] σ.own s σ.own { s with heap:=h₀,toks:=s.toks+(xs.zip vs).length }:=⟨fun b o e _ _ _=>hk b o e,fun b o e=>⟨o,hk b o e⟩,fun _ h=>.inl h,fun _ _ e=>e⟩
  refine h s.heap.objs.size _ S₀ _ _ fun fv fl σ' s' hP S' hr' st'=>?_
  have hne:∀ b o,s.heap.get? b=some o->b∉[s.heap.objs.size]:=fun b o e q=>by
   rw [List.mem_singleton] at q;subst q
   rw [zae] at e;cases e
  have stt:Stp [] σ.own s σ'.own s':=by
   refine ⟨fun b o e nf no hc=>st'.keep b o (hk b o e) (hne b o e) no hc,fun b o e=>st'.there b o (hk b o e),fun a ha=>?_,fun i x e=>st'.gens i x e⟩
   rcases st'.fresh a ha with q | q
   ·exact .inl q
   ·refine .inr ?_
    cases q':s.heap.get? a with
    | none=>rfl
    | some o=>rw [show _=_ from hk a o q'] at q;cases q
  have Sb:=S.back S' stt fun a ha o e=>by
   obtain ⟨o',e',fl⟩:=S.fr a ha
   rw [e] at e';cases e'
   exact st'.keep a o (hk a o e) (hne a o e) (fun q=>(List.nodup_append.mp S.nd).2.2 a ha a q rfl) fl.hard
  cases hr' with
  | ret hv=>exact k _ _ ⟨σ.loc,σ'.zone⟩ s' hP Sb hv stt
  | next=>exact k _ _ ⟨σ.loc,σ'.zone⟩ s' hP Sb (.raw _) stt
  | brk=>exact k _ _ ⟨σ.loc,σ'.zone⟩ s' hP Sb (.raw _) stt
  | cont=>exact k _ _ ⟨σ.loc,σ'.zone⟩ s' hP Sb (.raw _) stt
theorem zsE {f:Addr}{fd:FuncData}{body:List Stmt}{xs:List Str}{ps:List PV}{P:PV->AS->Prop}{n:Nat}(hr:Rm A (n+1))(hf:zdB g f fd body)(hx:xs.Nodup)(hlen:xs.length=ps.length)
  (hb:∀ vs:List Value,vs.length=ps.length->bindArgs fd ⟨vs,[]⟩=pure (xs.zip vs))
  (hcellB:(fd.scope.names.all fun x=>x.2 != .cell)=true) (hlocB:(xs.all fun x=>fd.scope.names.lookup x==some .local)=true)
  (h:∀ L,EXs g (A.deeper (callEnv fd L f)) (zap fd L f) body ⟨xs.zip ps,σ.zone⟩ fun fl σ'=>P (match fl with | .ret p=>p | _=>.raw .none) ⟨σ.loc,σ'.zone⟩) :
  CL g A F (.ref f) ps σ P:=(zn9 hr hf hx hlen hb hcellB hlocB h).cl
noncomputable def zn2:Value->Bool
 | .ref _=>true
 | _=>false
theorem zaP {M:Model}{A:Around}{E:Value->Shared->Prop}{s:Shared}{pos:Pos}{f:Value}{first:List Value}{args:List (Bool × Sem Value)}{Q:Value->Shared->Prop}(hf:zn2 f=false)(hplain:args.any (·.1)=false)
  (h:wpAny M A (evalArgs f true args []) (fun a s₁=>wpAny M A (call f (first++a.pos) a.kw) Q E s₁) E s) :
  wpAny M A (callWith pos f first args []) Q E s:=by
 have hkp:keeperOf f=pure .machine:=by cases f <;> first | rfl | cases hf
 unfold callWith
 refine wpAny_bind (wpAny_holding (wpAny_mono h (fun a s₁ h₁=>wpAny_bind (wpAny_standAt ?_)) fun _ _ x=>x))
 simp -iota only [hplain,List.any_nil,Bool.or_false,hkp]
 refine wpAny_bind (wpAny_pure ?_)
 exact wpAny_bind (wpAny_mono h₁ (fun r s₂ hr=>wpAny_bind (wpAny_holding (wpAny_point (wpAny_pure hr)))) fun _ _ x=>x)
theorem zaa {f:Value}{es:List Expr}{pos:Pos}{P:List PV->AS->Prop}(h:EVs g A F es σ P)(hns:(backTo pos (starEach es F.env)).any (·.1)=false){Q:Args->Shared->Prop}{E:Value->Shared->Prop}(S:Sat g F σ s)
  (k:∀ vs ps σ' s',P ps σ'->Sat g F σ' s'->VRs s'.heap σ'.own ps vs->Stp [] σ.own s σ'.own s'->Q ⟨vs,[]⟩ s'):wpAny (model g.prog g.w) A (evalArgs f true (backTo pos (starEach es F.env)) []) Q E s:=by
 have hh:=h pos s S (fun vs s'=>Q ⟨vs,[]⟩ s') E fun vs ps σ' s' h' S' hv st=>k vs ps σ' s' h' S' hv st
 generalize he:backTo pos (starEach es F.env)=l at hh hns
 cases l with
 | nil =>
  unfold evalArgs
  show wpAny _ A (spliced []>>=_) Q E s
  refine wpAny_bind (wpAny_mono hh (fun vs s' h'=>wpAny_holding ?_) fun _ _ x=>x)
  exact wpAny_bind (wpAny_pure (wpAny_bind (wpAny_pure (wpAny_pure h'))))
 | cons a l =>
  obtain ⟨b,t⟩:=a
  cases b with
  | true=>simp at hns
  | false=>exact evalArgs_plain hh
abbrev zhd (g:Gl)(A:Around)(F:Fm)(P:PV->AS->Prop)(f:Addr):List PV->AS->Prop:=fun ps σ₂=>CL g A F (.ref f) ps σ₂ P
abbrev zhz (g:Gl)(A:Around)(F:Fm)(P:PV->AS->Prop)(args:List Expr)(f:Addr):PV->AS->Prop:=fun p σ₁=>p=.raw (.ref f)/\EVs g A F args σ₁ (zhd g A F P f)
theorem zw {func:Expr}{args:List Expr}{pos:Pos}{f:Addr}{fd:FuncData}{body:List Stmt}{P:PV->AS->Prop}(hf:zdB g f fd body)
  (h:EV g A F func σ (zhz g A F P args f))
  (he:eval (.Call func args [] pos) F.env=(do callWith pos (<- eval func F.env) [] (backTo pos (starEach args F.env)) (backToKw pos (keywordEach [] F.env))):=by left)
  (hns:(backTo pos (starEach args F.env)).any (·.1)=false:=by left):EV g A F (.Call func args [] pos) σ P:=by
 intro s S Q E k
 refine Call_ (h s S _ E fun v p σ₁ s₁ h₁ S₁ hv st₁=>?_) he
 obtain ⟨rfl,h₁⟩:=h₁
 cases hv
 obtain ⟨o,e,hd⟩:=hf.now S₁
 refine callWith_function (o:=o) (fd:=fd) (zaa h₁ hns S₁ fun vs ps σ₂ s₂ h₂ S₂ hvs st₂=>?_)
 obtain ⟨o',e',hd'⟩:=hf.now S₂
 have:o'=o:=by
  obtain ⟨o₀,e₀,hc₀,hd₀⟩:=hf.at_
  have q1:=S₂.old.get_of_cls e₀ hc₀
  have q2:=S₁.old.get_of_cls e₀ hc₀
  exact (Option.some.inj (e'.symm.trans q1)).trans (Option.some.inj (e.symm.trans q2)).symm
 subst this
 refine ⟨⟨e',hd⟩,h₂ s₂ vs S₂ hvs Q E fun a b σ' s' h' S' hr st'=>k a b σ' s' h' S' hr (st₁.trans (st₂.trans st'))⟩
abbrev zeU (g:Gl)(A:Around)(F:Fm)(P:PV->AS->Prop)(f:Value):List PV->AS->Prop:=fun ps σ₂=>CL g A F f ps σ₂ P
inductive zcs (g:Gl)(A:Around)(F:Fm)(P:PV->AS->Prop)(args:List Expr)(p:PV)(σ₁:AS):Prop
 | mk (f:Value) (h1:p=.raw f) (h2:zn2 f=false) (h3:EVs g A F args σ₁ (zeU g A F P f)):zcs g A F P args p σ₁
theorem zh {func:Expr}{args:List Expr}{pos:Pos}{P:PV->AS->Prop}
  (h:EV g A F func σ (zcs g A F P args))
  (he:eval (.Call func args [] pos) F.env=(do callWith pos (<- eval func F.env) [] (backTo pos (starEach args F.env)) (backToKw pos (keywordEach [] F.env))):=by left)
  (hns:(backTo pos (starEach args F.env)).any (·.1)=false:=by left):EV g A F (.Call func args [] pos) σ P:=by
 intro s S Q E k
 refine Call_ (h s S _ E fun v p σ₁ s₁ h₁ S₁ hv st₁=>?_) he
 obtain ⟨f,rfl,hff,h₁⟩:=h₁
 cases hv
 refine zaP hff hns (zaa h₁ hns S₁ fun vs ps σ₂ s₂ h₂ S₂ hvs st₂=>?_)
 exact h₂ s₂ vs S₂ hvs Q E fun a b σ' s' h' S' hr st'=>k a b σ' s' h' S' hr (st₁.trans (st₂.trans st'))
def MT (g:Gl)(A:Around)(F:Fm)(p:PV)(name:Str)(id:String)(σ:AS):Prop :=
 ∀ s v,Sat g F σ s->VR s.heap σ.own p v->∀ (pl:Sem Bool) (Q:Value × List Value->Shared->Prop) (E:Value->Shared->Prop),(∀ n,Q (.builtin id,[v]) { s with toks:=n })->wpAny (model g.prog g.w) A (getMethod v name pl) Q E s
abbrev zkP (g:Gl)(A:Around)(F:Fm)(P:PV->AS->Prop)(p:PV)(id:String):List PV->AS->Prop:=fun ps σ₂=>CL g A F (.builtin id) (p::ps) σ₂ P
inductive zgD (g:Gl)(A:Around)(F:Fm)(P:PV->AS->Prop)(name:Str)(args:List Expr)(p:PV)(σ₁:AS):Prop
 | mk (id:String) (h1:MT g A F p name id σ₁) (h2:EVs g A F args σ₁ (zkP g A F P p id)):zgD g A F P name args p σ₁
theorem zau {o:Expr}{name:Str}{apos pos:Pos}{args:List Expr}{pl:Sem Bool}{P:PV->AS->Prop}
  (h:EV g A F o σ (zgD g A F P name args))
  (he:eval (.Call (.Attribute o name apos) args [] pos) F.env=(do
   let ov <- eval o F.env
   standAt apos.atName
   let (f,first) <- holding [ov] (getMethod ov name pl)
   callWith pos f first (backTo pos (starEach args F.env)) []):=by left)
  (hns:(backTo pos (starEach args F.env)).any (·.1)=false:=by left):EV g A F (.Call (.Attribute o name apos) args [] pos) σ P:=by
 intro s S Q E k
 refine MethodCall_ (pl:=pl) (h s S _ E fun v p σ₁ s₁ h₁ S₁ hv st₁=>?_) he
 obtain ⟨id,hm,h₁⟩:=h₁
 refine hm s₁ v S₁ hv pl _ E fun n=>?_
 refine callWith_builtin hns (zaa h₁ hns (S₁.toks n) fun vs ps σ₂ s₂ h₂ S₂ hvs st₂=>?_)
 refine h₂ s₂ (v::vs) S₂ (.cons (hv.mono (S₁.kp (Stp.trans .toks st₂))) hvs) Q E fun a b σ' s' h' S' hr st'=>k a b σ' s' h' S' hr (st₁.trans (Stp.trans .toks (st₂.trans st')))
def IX (g:Gl)(A:Around)(F:Fm)(value slice:Expr)(p q:PV)(σ:AS)(P:PV->AS->Prop):Prop:=OP2 g A F (subscriptTail value slice) p q σ P
abbrev zeY (g:Gl)(A:Around)(F:Fm)(P:PV->AS->Prop)(value:Expr)(slice:Expr)(p:PV):PV->AS->Prop:=fun q σ₂=>IX g A F value slice p q σ₂ P
abbrev ze6 (g:Gl)(A:Around)(F:Fm)(P:PV->AS->Prop)(value:Expr)(slice:Expr):PV->AS->Prop:=fun p σ₁=>EV g A F slice σ₁ (zeY g A F P value slice p)
theorem zj {value slice:Expr}{pos:Pos}{P:PV->AS->Prop}(h:EV g A F value σ (ze6 g A F P value slice)):EV g A F (.Subscript value slice pos) σ P:=by
 intro s S Q E k
 refine Subscript_ (h s S _ E fun v p σ₁ s₁ h₁ S₁ hv st₁=>?_)
 refine h₁ s₁ S₁ _ E fun u q σ₂ s₂ h₂ S₂ hu st₂=>?_
 exact h₂ s₂ v u S₂ (hv.mono (S₁.kp st₂)) hu _ E fun r p₃ σ₃ s₃ h₃ S₃ hr st₃=>k r p₃ σ₃ s₃ h₃ S₃ hr (st₁.trans (st₂.trans st₃))
end
end Mine
end
section
open PySem PySem.Calls PyProof.Rows
namespace Mine
inductive ZAt (D:Addr)(m m':MO):List (Addr × MO)->List (Addr × MO)->Prop
 | head {r}:ZAt D m m' ((D,m)::r) ((D,m')::r)
 | tail {z r r'} (h:ZAt D m m' r r'):ZAt D m m' (z::r) (z::r')
theorem ZAt.split {D:Addr}{m m':MO}{z z':List (Addr × MO)}(h:ZAt D m m' z z'):∃ pre post,z=pre++(D,m)::post/\z'=pre++(D,m')::post:=by
 induction h with
 | head=>exact ⟨[],_,rfl,rfl⟩
 | tail _ ih=>obtain ⟨pre,post,a,b⟩:=ih;exact ⟨_::pre,post,by rw [a];rfl,by rw [b];rfl⟩
theorem OldK.exts {h₀ h h':Heap}{T:List Addr}(K:OldK h₀ h)(ha:∀ a∈T,h₀.objs.size<=a)(hs:∀ b o,b∉T->h.get? b=some o->h'.get? b=some o):OldK h₀ h':=by
 have ne:∀ b o,h₀.get? b=some o->b∉T:=fun b o e q=>Nat.lt_irrefl _ (Nat.lt_of_lt_of_le (Heap.lt_size e) (ha b q))
 refine ⟨fun b o e=>?_,fun b o e=>let ⟨o',ho'⟩:=K.there b o e;⟨o',hs b _ (ne b o e) ho'⟩⟩
 rcases K.old b o e with x | ⟨t,hc,vs,more,hv,x⟩ | ⟨rfl,hc,⟨o',es,n,ho',r⟩,z⟩
 ·exact .inl (hs b _ (ne b o e) x)
 ·exact .inr (.inl ⟨t,hc,vs,more,hv,hs b _ (ne b o e) x⟩)
 ·exact .inr (.inr ⟨rfl,hc,⟨o',es,n,hs _ _ (ne _ o e) ho',r⟩,fun key=>by rw [OldK.staticOf_congr ((hs _ _ (ne _ o e) ho').trans ho'.symm) key];exact z key⟩)
theorem zcU.exts {h₀ h h':Heap}{T:List Addr}(K:zcU h₀ h)(ha:∀ a∈T,h₀.objs.size<=a)(hs:∀ b o,b∉T->h.get? b=some o->h'.get? b=some o):zcU h₀ h' :=
 ⟨OldK.exts K.k ha hs,fun P ps e t=>let ⟨ps',e',t'⟩:=K.tab P ps e t;⟨ps',hs _ _ (fun q=>Nat.lt_irrefl _ (Nat.lt_of_lt_of_le (Heap.lt_size e) (ha _ q))) e',t'⟩⟩
section
variable {g:Gl}{A:Around}{F:Fm}{σ:AS}{s:Shared}
theorem ZR.mono {h h':Heap}{own own':List Addr}{a:Addr}{m:MO}(z:ZR h own a m)(kp:Kp h h' own own')(hk:∀ b∈m.addrs a,∀ o,h.get? b=some o->h'.get? b=some o):ZR h' own' a m:=by
 cases m with
 | list l=>obtain ⟨items,n,h1,h2⟩:=z;exact ⟨items,n,hk a (by simp [MO.addrs]) _ h1,h2.mono kp⟩
 | obj ob=>exact ⟨hk a (by simp [MO.addrs]) _ z.1,z.2⟩
 | inst dx C att body =>
  obtain ⟨d,es,n,h1,h2,h3,h4⟩:=z
  refine ⟨d,es,n,hk a (by simp [MO.addrs]) _ h1,?_,hk dx (by simp [MO.addrs]) _ h3,h4.mono kp⟩
  cases body with
  | none=>exact h2
  | some l=>obtain ⟨items,n',e1,e2⟩:=h2;exact ⟨items,n',e1,e2.mono kp⟩
theorem ZR.at_addrs {h:Heap}{own:List Addr}{a:Addr}{m:MO}(z:ZR h own a m):∀ b∈m.addrs a,∃ o,h.get? b=some o:=by
 intro b hb
 cases m with
 | list l=>obtain ⟨items,n,h1,h2⟩:=z;simp [MO.addrs] at hb;subst hb;exact ⟨_,h1⟩
 | obj ob=>simp [MO.addrs] at hb;subst hb;exact ⟨_,z.1⟩
 | inst dx C att body =>
  obtain ⟨d,es,n,h1,h2,h3,h4⟩:=z
  simp [MO.addrs] at hb
  rcases hb with rfl | rfl
  ·exact ⟨_,h1⟩
  ·exact ⟨_,h3⟩
theorem Sat.upd {D:Addr}{m m':MO}{zone':List (Addr × MO)}(S:Sat g F σ s)(U:ZAt D m m' σ.zone zone')(had:m'.addrs D=m.addrs D){h':Heap}
  (hs:∀ b o,b∉m.addrs D->s.heap.get? b=some o->h'.get? b=some o) (hz:Kp s.heap h' σ.own σ.own->ZR h' σ.own D m') :
  Sat g F ⟨σ.loc,zone'⟩ { s with heap:=h' }/\Stp [] σ.own s (AS.own ⟨σ.loc,zone'⟩) { s with heap:=h' }:=by
 obtain ⟨pre,post,e1,e2⟩:=U.split
 have hown:AS.own ⟨σ.loc,zone'⟩=σ.own:=by unfold AS.own;rw [e1,e2];simp [had]
 have hsub:∀ b∈m.addrs D,b∈σ.own:=fun b hb=>by unfold AS.own;rw [e1];simp [hb]
 have hfr:∀ b∈F.fr,b∉m.addrs D:=fun b hb q=>(List.nodup_append.mp S.nd).2.2 b hb b (hsub b q) rfl
 have kp:Kp s.heap h' σ.own σ.own:=fun b o xs n e _ no=>⟨hs b o (fun q=>no (hsub b q)) e,no⟩
 have hz':=hz kp
 have hlo:∀ a∈m.addrs D,g.h₁.objs.size<=a:=fun a ha=>S.lo a (List.mem_append_right _ (hsub a ha))
 have kf:∀ b o,s.heap.get? b=some o->zr o->b∉σ.own->h'.get? b=some o:=fun b o e _ no=>hs b o (fun q=>no (hsub b q)) e
 have hL:F.env.locals∉m.addrs D:=hfr _ S.nin
 have nd:=(List.nodup_append.mp S.nd).2.1
 have apart:∀ z,z∈pre\/z∈post->∀ b∈z.2.addrs z.1,b∉m.addrs D:=by
  intro z hz b hb q
  unfold AS.own at nd
  rw [e1] at nd
  simp only [List.flatMap_append,List.flatMap_cons] at nd
  rcases hz with hz | hz
  ·exact (List.nodup_append.mp nd).2.2 b (List.mem_flatMap.mpr ⟨z,hz,hb⟩) b (List.mem_append_left _ q) rfl
  ·exact (List.nodup_append.mp (List.nodup_append.mp nd).2.1).2.2 b q b (List.mem_flatMap.mpr ⟨z,hz,hb⟩) rfl
 refine ⟨⟨zcU.exts S.old hlo hs,?_,S.os,S.bare,hown ▸ S.nd,hown ▸ S.lo,fun z hz1=>?_,fun a ha=>?_,?_,S.nin,fun x p e=>?_,S.cs,S.cl.to fun b o e hc=>kf b o e (.inr hc) (let ⟨v,d⟩:=hc;S.cell_off e d)⟩,?_⟩
 ·obtain ⟨mc,⟨o,es,ep,e,r⟩,h2⟩:=S.lim
  exact ⟨mc,⟨o,es,ep,hs _ _ (fun q=>Nat.lt_irrefl _ (Nat.lt_of_lt_of_le S.cs (hlo _ q))) e,r⟩,h2⟩
 ·rw [hown]
  have hz2:z∈zone':=hz1
  rw [e2] at hz2
  rcases List.mem_append.mp hz2 with hp | hp
  ·exact (S.zs z (by rw [e1];exact List.mem_append_left _ hp)).mono kp fun b hb o e=>hs b o (apart z (.inl hp) b hb) e
  ·rcases List.mem_cons.mp hp with rfl | hp
   ·exact hz'
   ·exact (S.zs z (by rw [e1];exact List.mem_append_right _ (List.mem_cons_of_mem _ hp))).mono kp fun b hb o e=>hs b o (apart z (.inr hp) b hb) e
 ·obtain ⟨o,e,fl⟩:=S.fr a ha
  exact ⟨o,hs a o (hfr a ha) e,fl⟩
 ·obtain ⟨mm,o,es,ep,e,r⟩:=S.ns
  exact ⟨mm,o,es,ep,hs _ _ hL e,r⟩
 ·obtain ⟨v,h1,h2⟩:=S.loc x p e
  rw [hown]
  refine ⟨v,?_,h2.mono kp⟩
  rcases h1 with ⟨a,mm,⟨o,es,ep,e,r⟩,c⟩ | ⟨a,c,o',h3,h4,h5⟩
  ·exact .inl ⟨a,mm,⟨o,es,ep,hs _ _ hL e,r⟩,c⟩
  ·exact .inr ⟨a,c,o',h3,hs _ _ (fun q=>S.cell_off h4 h5 (hsub _ q)) h4,h5⟩
 ·refine ⟨fun b o e _ no _=>hs b o (fun q=>no (hsub b q)) e,fun b o e=>?_,fun a ha=>.inl (hown ▸ ha),fun _ _ e=>e⟩
  by_cases hb:b∈m.addrs D
  ·exact hz'.at_addrs b (had ▸ hb)
  ·exact ⟨o,hs b o hb e⟩
theorem Sat.newList (S:Sat g F σ s){ps:List PV}{vs:List Value}(h:VRs s.heap σ.own ps vs) :
  Sat g F ⟨σ.loc,(s.heap.objs.size,.list ps)::σ.zone⟩ { s with heap:=s.heap.push (zam vs.toArray 0) }/\Stp [] σ.own s (AS.own ⟨σ.loc,(s.heap.objs.size,.list ps)::σ.zone⟩) { s with heap:=s.heap.push (zam vs.toArray 0) }:=by
 have kk:∀ b o,s.heap.get? b=some o->(s.heap.push (zam vs.toArray 0)).get? b=some o:=fun b o e=>Heap.get?_push_of_some _ e
 have hown:AS.own ⟨σ.loc,(s.heap.objs.size,.list ps)::σ.zone⟩=s.heap.objs.size::σ.own:=rfl
 have kp:Kp s.heap (s.heap.push (zam vs.toArray 0)) σ.own (s.heap.objs.size::σ.own):=fun b o xs n e _ no=>⟨kk b o e,fun q=>by
  rcases List.mem_cons.mp q with rfl | q
  ·exact Nat.lt_irrefl _ (Heap.lt_size e)
  ·exact no q⟩
 have S₁:=S.push (zam vs.toArray 0)
 refine ⟨⟨S₁.old,S₁.lim,S.os,S.bare,?_,fun a ha=>?_,fun z hz=>?_,S₁.fr,S₁.ns,S.nin,fun x p e=>?_,S.cs,S₁.cl⟩,⟨fun b o e _ _ _=>kk b o e,fun b o e=>⟨o,kk b o e⟩,fun a ha=>?_,fun _ _ e=>e⟩⟩
 ·rw [hown]
  obtain ⟨n1,n2,n3⟩:=List.nodup_append.mp S.nd
  refine List.nodup_append.mpr ⟨n1,List.nodup_cons.mpr ⟨fun q=>Nat.lt_irrefl _ (S.own_lt q),n2⟩,fun a ha b hb q=>?_⟩
  subst q
  rcases List.mem_cons.mp hb with rfl | hb
  ·exact Nat.lt_irrefl _ (S.fr_lt ha)
  ·exact n3 a ha a hb rfl
 ·rw [hown] at ha
  rcases List.mem_append.mp ha with h | h
  ·exact S.lo a (List.mem_append_left _ h)
  ·rcases List.mem_cons.mp h with rfl | h
   ·exact S.base_le
   ·exact S.lo a (List.mem_append_right _ h)
 ·rw [hown]
  rcases List.mem_cons.mp hz with rfl | hz
  ·exact ⟨_,_,Heap.get?_push_size _ rfl,h.mono kp⟩
  ·exact (S.zs z hz).mono kp fun b _ o e=>kk b o e
 ·rw [hown]
  obtain ⟨v,h1,h2⟩:=S.loc x p e
  exact ⟨v,h1.ext fun b o e _=>kk b o e,h2.mono kp⟩
 ·rw [hown] at ha
  rcases List.mem_cons.mp ha with rfl | ha
  ·exact .inr (zae _)
  ·exact .inl ha
theorem Kp.shrink {h:Heap}{own own':List Addr}(hs:∀ a∈own',a∈own):Kp h h own own':=fun b o xs n e _ no=>⟨e,fun q=>no (hs b q)⟩
theorem Sat.freeze {D:Addr}{ps:List PV}{z:List (Addr × MO)}{loc:List (Str × PV)}(S:Sat g F ⟨loc,(D,.list ps)::z⟩ s) :
  Sat g F ⟨loc,z⟩ s/\Stp [] (AS.own ⟨loc,(D,.list ps)::z⟩) s (AS.own ⟨loc,z⟩) s/\VR s.heap (AS.own ⟨loc,z⟩) (.lst ps) (.ref D):=by
 have hown:AS.own ⟨loc,(D,.list ps)::z⟩=D::AS.own ⟨loc,z⟩:=rfl
 have kp:Kp s.heap s.heap (AS.own ⟨loc,(D,.list ps)::z⟩) (AS.own ⟨loc,z⟩):=Kp.shrink fun a ha=>by rw [hown];exact List.mem_cons_of_mem _ ha
 obtain ⟨n1,n2,n3⟩:=List.nodup_append.mp S.nd
 rw [hown] at n2
 obtain ⟨n4,n5⟩:=List.nodup_cons.mp n2
 refine ⟨⟨S.old,S.lim,S.os,S.bare,List.nodup_append.mpr ⟨n1,n5,fun a ha b hb=>n3 a ha b (by rw [hown];exact List.mem_cons_of_mem _ hb)⟩,fun a ha=>S.lo a (by
  rcases List.mem_append.mp ha with h | h
  ·exact List.mem_append_left _ h
  ·exact List.mem_append_right _ (by rw [hown];exact List.mem_cons_of_mem _ h)),fun y hy=>(S.zs y (List.mem_cons_of_mem _ hy)).mono kp fun _ _ _ e=>e,S.fr,S.ns,S.nin,fun x p e=>?_,S.cs,S.cl⟩,
  ⟨fun _ _ e _ _ _=>e,fun _ o e=>⟨o,e⟩,fun a ha=>.inl (by rw [hown];exact List.mem_cons_of_mem _ ha),fun _ _ e=>e⟩,?_⟩
 ·obtain ⟨v,h1,h2⟩:=S.loc x p e
  exact ⟨v,h1,h2.mono kp⟩
 ·obtain ⟨items,n,h1,h2⟩:=S.zs (D,.list ps) List.mem_cons_self
  exact .lst n4 h1 (h2.mono kp)
abbrev zf5 (P:PV->AS->Prop):List PV->AS->Prop:=fun ps σ₁=>ps.length<=1000/\∀ D,P (.raw (.ref D)) ⟨σ₁.loc,(D,.list ps)::σ₁.zone⟩
theorem zao {es:List Expr}{pos:Pos}{P:PV->AS->Prop}(h:EVs g A F es σ (zf5 P)):EV g A F (.List es pos) σ P:=by
 intro s S Q E k
 refine List_ (h pos s S _ E fun vs ps σ₁ s₁ h₁ S₁ hvs st₁=>?_)
 obtain ⟨S₂,st₂⟩:=S₁.newList hvs
 exact wpAny_newList (k _ _ _ _ (h₁.2 _) S₂ (.raw _) (st₁.trans st₂)) (by have:=hvs.length;have:=h₁.1;unfold sizeLine;lia)
inductive zec (P:PV->AS->Prop)(p:PV)(σ₁:AS):Prop
 | mk (D:Addr) (ps:List PV) (z:List (Addr × MO)) (h1:p=.raw (.ref D)) (h2:σ₁.zone=(D,.list ps)::z) (h3:P (.lst ps) ⟨σ₁.loc,z⟩):zec P p σ₁
theorem zfL {e:Expr}{P:PV->AS->Prop}(h:EV g A F e σ (zec P)):EV g A F e σ P:=by
 intro s S Q E k
 refine h s S Q E fun v p σ₁ s₁ h₁ S₁ hv st₁=>?_
 obtain ⟨D,ps,z,rfl,hz,hP⟩:=h₁
 cases hv
 obtain ⟨loc,zone⟩:=σ₁
 dsimp only at hz
 subst hz
 obtain ⟨S₂,st₂,hv₂⟩:=S₁.freeze
 exact k _ _ _ _ hP S₂ hv₂ (st₁.trans st₂)
theorem zeZ {D:Addr}{ps:List PV}{zone':List (Addr × MO)}{p:PV}{v:Value}{Q:Value->Shared->Prop}{E:Value->Shared->Prop}(S:Sat g F σ s)(U:ZAt D (.list ps) (.list (ps++[p])) σ.zone zone')(hv:VR s.heap σ.own p v)(hlen:ps.length<=1000000)
  (k:∀ s',Sat g F ⟨σ.loc,zone'⟩ s'->Stp [] σ.own s (AS.own ⟨σ.loc,zone'⟩) s'->Q .none s'):wpAny (model g.prog g.w) A (call (.builtin "list.append") [.ref D,v]) Q E s:=by
 obtain ⟨pre,post,e1,e2⟩:=U.split
 obtain ⟨items,n,h1,h2⟩:=S.zs (D,.list ps) (by rw [e1];simp)
 have hl:=h2.length
 simp only [Array.length_toList] at hl
 have h1':∃ o,s.heap.get? D=some o/\o.cls=.type "list"/\o.data=.seq items n/\o=zam items n:=⟨_,h1,rfl,rfl,rfl⟩
 refine wpAny_call_entry slot_list_append (show s.TypeIs (.ref D) "list" from ⟨_,h1,rfl⟩) entry_list_append ?_ (args_list_append _ _)
 show wpAny _ _ (updateSeq D (·.push v)>>=fun _=>ret .none) _ _ s
 refine wpAny_bind ?_
 refine wpAny_updateSeq h1 rfl (wpAny_pure ⟨.none,rfl,?_⟩) (by have:sizeLine=16777216:=rfl;lia)
 have hs:Heap.SameBut D s.heap (s.heap.update D (Obj.mapSeq fun x=>x.push v)):=.update ..
 have hg:(s.heap.update D (Obj.mapSeq fun x=>x.push v)).get? D=some (zam (items.push v) (n+1)):=by
  have:=Heap.get?_update_self (Obj.mapSeq fun x=>x.push v) h1 (by simp [Obj.mapSeq,Obj.isFreed])
  rw [this]
  simp [Obj.mapSeq]
 obtain ⟨S',st⟩:=S.upd U rfl (h':=s.heap.update D (Obj.mapSeq fun x=>x.push v)) (fun b o hb e=>hs.extBut b o (by simpa [MO.addrs] using hb) e) fun kp=>⟨items.push v,n+1,hg,by
  rw [Array.toList_push];exact (h2.mono kp).append (.cons (hv.mono kp) .nil)⟩
 exact k _ S' st
end
end Mine
end
section
open PySem PySem.Calls PyProof.Rows
namespace Mine
def SRC (g:Gl)(A:Around)(F:Fm)(iter:Expr)(σ:AS)(P:List PV->AS->Prop):Prop :=
 ∀ s,Sat g F σ s->∀ (R:Value->Shared->Prop) (E:Value->Shared->Prop),
  (∀ (K:zez g A) it ads xs σ' s',ads.head?=some it->P xs σ'->Sat g F σ' s'->Stp [] σ.own s σ'.own s'->(∀ a∈ads,s.heap.get? a=none)->Off g F σ'.own ads->K.Rel s'.heap σ'.own ads xs->R (.ref it) s') ->
  wpAny (model g.prog g.w) A (eval iter F.env) (fun x s₁=>wpAny (model g.prog g.w) A (pyIter x) R E s₁) E s
def TST (g:Gl)(A:Around)(F:Fm)(ifs:List Expr)(σ:AS)(P:Bool->AS->Prop):Prop :=
 J g A F [] EQ (forIn ifs true fun c r=>if r=true then do let ok <- isTrue c F.env (eval c F.env);pure (ForInStep.yield ok) else pure (ForInStep.yield r)) σ P
noncomputable def zet (g:Gl)(A:Around)(F:Fm)(D:Addr)(elt target:Expr)(ifs:List Expr):List PV->List PV->AS->(List PV->List (Addr × MO)->Prop)->Prop
 | [],acc,σ,P=>∃ z,σ.zone=(D,.list acc)::z/\P acc z
 | x::xs,acc,σ,P=>AS1 g A F target x σ fun σ₁=>TST g A F ifs σ₁ fun ok σ₂=>if ok=true then
   EV g A F elt σ₂ fun p σ₃=>∃ z,σ₃.zone=(D,.list acc)::z/\acc.length<=1000000/\zet g A F D elt target ifs xs (acc++[p]) ⟨σ₃.loc,(D,.list (acc++[p]))::z⟩ P
  else zet g A F D elt target ifs xs acc σ₂ P
noncomputable def cFm (scope:Scope)(cl:List (Str × Addr))(C:Addr)(F:Fm):Fm:=⟨compEnvC scope cl C F.env,[C]⟩
noncomputable def zcM (caps:List Str)(loc:List (Str × PV)):List (Str × PV):=caps.filterMap fun x=>(loc.lookup x).map fun p=>(x,p)
theorem zhI {caps:List Str}{loc:List (Str × PV)}{x:Str}{p:PV}(e:(zcM caps loc).lookup x=some p):x∈caps/\loc.lookup x=some p:=by
 induction caps with
 | nil=>simp [zcM] at e
 | cons y r ih =>
  unfold zcM at e
  rw [List.filterMap_cons] at e
  cases q:loc.lookup y with
  | none =>
   rw [q] at e
   obtain ⟨a,b⟩:=ih e
   exact ⟨List.mem_cons_of_mem _ a,b⟩
  | some p' =>
   rw [q] at e
   simp only [Option.map_some,List.lookup_cons] at e
   cases q2:x==y with
   | true =>
    rw [q2] at e
    have:x=y:=eq_of_beq q2
    subst this
    cases e
    exact ⟨List.mem_cons_self,q⟩
   | false =>
    rw [q2] at e
    obtain ⟨a,b⟩:=ih e
    exact ⟨List.mem_cons_of_mem _ a,b⟩
section
variable {g:Gl}{A:Around}{F:Fm}{σ:AS}{s:Shared}
inductive ziS (g:Gl)(A:Around)(F:Fm)(P:List PV->AS->Prop)(p:PV)(σ₁:AS):Prop
 | mk (xs:List PV) (h1:IT g A F p xs σ₁) (h2:P xs σ₁):ziS g A F P p σ₁
theorem zcy {iter:Expr}{P:List PV->AS->Prop}(h:EV g A F iter σ (ziS g A F P)):SRC g A F iter σ P:=by
 intro s S R E k
 refine h s S _ E fun v p σ₁ s₁ h₁ S₁ hv st₁=>?_
 obtain ⟨xs,hi,hP⟩:=h₁
 refine hi s₁ v S₁ hv _ E fun K it ads s₂ hd S₂ st₂ ha off r=>?_
 refine k K it ads xs σ₁ s₂ hd hP S₂ (st₁.trans st₂) (fun a ha'=>?_) off r
 have:=ha a ha'
 cases q:s.heap.get? a with
 | none=>rfl
 | some o=>obtain ⟨o',e'⟩:=st₁.there a o q;rw [e'] at this;cases this
abbrev zkD (g:Gl)(A:Around)(F:Fm)(P:Fl->AS->Prop)(t:Expr)(body:List Stmt)(orelse:List Stmt):List PV->AS->Prop:=fun xs σ₁=>zmN g A F t body orelse xs σ₁ P
theorem zdP {t iter:Expr}{body orelse:List Stmt}{pos:Pos}{P:Fl->AS->Prop}(h:SRC g A F iter σ (zkD g A F P t body orelse))
  (hs:∀ x,foldedSetIterable iter F.env x=pure x:=by left):EX g A F (.For t iter body orelse pos) σ P:=by
 intro s S Q E k
 refine wpAny_For (h s S _ E fun K it ads xs σ₁ s₁ hd h₁ S₁ st₁ ha off r=>?_) hs
 exact zly hd ha (fun f fl σ' s' h' S' hr st'=>k f fl σ' s' h' S' hr st') S₁ st₁.up off r h₁
theorem zo4 {P:Bool->AS->Prop}(h:P true σ):TST g A F [] σ P:=fun s S Q E k=>wpAny_tests_nil (k _ _ σ s h S rfl .refl)
theorem zlE {c:Expr}{P:Bool->AS->Prop}(h:TR g A F c σ P):TST g A F [c] σ P:=fun s S Q E k=>wpAny_tests_one (h s S Q E k)
theorem Stp.trans' {fr fr':List Addr}{o₁ o₂ o₃:List Addr}{s₁ s₂ s₃:Shared}(x:Stp fr o₁ s₁ o₂ s₂)(y:Stp fr' o₂ s₂ o₃ s₃)(hF:∀ b∈fr',b∈fr\/s₁.heap.get? b=none):Stp fr o₁ s₁ o₃ s₃:=by
 refine ⟨fun b o e nf no hc=>?_,fun b o e=>let ⟨o',e'⟩:=x.there b o e;y.there b o' e',fun a ha=>?_,fun i z e=>y.gens i z (x.gens i z e)⟩
 ·refine y.keep b o (x.keep b o e nf no hc) (fun hb=>?_) (fun hb=>?_) hc
  ·rcases hF b hb with q | q
   ·exact nf q
   ·rw [e] at q;cases q
  ·rcases x.fresh b hb with q | q
   ·exact no q
   ·rw [e] at q;cases q
 ·rcases y.fresh a ha with q | q
  ·exact x.fresh a q
  ·refine .inr ?_
   cases e:s₁.heap.get? a with
   | none=>rfl
   | some o =>
    obtain ⟨o',e'⟩:=x.there a o e
    rw [e'] at q;cases q
def KP (fr own own':List Addr)(h h':Heap):Prop:=∀ b o,h.get? b=some o->((∃ xs n,o.data=.seq xs n)\/zr o)->b∉own->b∉fr->h'.get? b=some o/\b∉own'
theorem KP.refl {fr own:List Addr}{h:Heap}:KP fr own own h h:=fun _ _ e _ n _=>⟨e,n⟩
theorem KP.trans {fr o₁ o₂ o₃:List Addr}{h₁ h₂ h₃:Heap}(x:KP fr o₁ o₂ h₁ h₂)(y:KP fr o₂ o₃ h₂ h₃):KP fr o₁ o₃ h₁ h₃:=fun b o e d n1 n2=>let ⟨e',n'⟩:=x b o e d n1 n2;y b o e' d n' n2
theorem KP.of_stp {fr own own':List Addr}{s':Shared}(st:Stp fr own s own' s'):KP fr own own' s.heap s'.heap:=fun b o e d no nf=>by
 have hh:hard o:=by
  rcases d with ⟨xs,n,d⟩ | d
  ·exact .inr fun vs q=>by rw [d] at q;cases q
  ·exact d.hard
 refine ⟨st.keep b o e nf no hh,fun q=>?_⟩
 rcases st.fresh b q with q | q
 ·exact no q
 ·rw [e] at q;cases q
theorem KP.offs {K:zez g A}{fr own own' own₂:List Addr}{sb s':Shared}{ads:List Addr}{xs:List PV}(x:KP fr own own' sb.heap s.heap)(r:K.Rel s.heap own₂ ads xs)(hs:∀ b o,s.heap.get? b=some o->b∉ads->s'.heap.get? b=some o):KP fr own own' sb.heap s'.heap:=fun b o e d n1 n2=>by
 obtain ⟨e',n'⟩:=x b o e d n1 n2
 refine ⟨hs b o e' fun q=>?_,n'⟩
 obtain ⟨o',e2,_,nf,nq⟩:=K.hard r b q
 rw [e'] at e2;cases e2
 rcases d with ⟨xs,n,d⟩ | d
 ·exact nq xs n d
 ·exact nf d
theorem KP.kp {fr own own':List Addr}{h h':Heap}(x:KP fr own own' h h')(hf:∀ a∈fr,∀ o,h.get? a=some o->∀ xs n,o.data≠.seq xs n):Kp h h' own own':=fun b o xs n e d no=>x b o e (.inl ⟨xs,n,d⟩) no fun q=>hf b q o e xs n d
theorem Sat.back2 {F':Fm}{σ':AS}{s':Shared}(S:Sat g F σ s)(S':Sat g F' σ' s')(kp:KP F'.fr σ.own σ'.own s.heap s'.heap)(hf:∀ a∈F.fr,a∉F'.fr)(hn:∀ a∈F'.fr,∀ o,s.heap.get? a=some o->(∀ xs n,o.data≠.seq xs n)/\∀ v,o.data≠.cell v):Sat g F ⟨σ.loc,σ'.zone⟩ s':=by
 have hL:F.env.locals∉σ.own:=fun h=>(List.nodup_append.mp S.nd).2.2 _ S.nin _ h rfl
 have hfo:∀ a∈F.fr,a∉σ.own:=fun a ha h=>(List.nodup_append.mp S.nd).2.2 _ ha _ h rfl
 have fk:∀ a∈F.fr,∃ o,zr o/\s'.heap.get? a=some o/\a∉σ'.own/\s.heap.get? a=some o:=fun a ha=>by
  obtain ⟨o,e,fl⟩:=S.fr a ha
  obtain ⟨e',n'⟩:=kp a o e (.inr fl) (hfo a ha) (hf a ha)
  exact ⟨o,fl,e',n',e⟩
 have kd:Kp s.heap s'.heap σ.own σ'.own:=kp.kp fun a ha o e=>(hn a ha o e).1
 refine ⟨S'.old,S'.lim,S'.os,S'.bare,?_,fun a ha=>?_,S'.zs,fun a ha=>?_,?_,S.nin,fun x p e=>?_,S.cs,fun x c hx hc hf' hl=>by
  obtain ⟨o,e,ho⟩:=S.cl x c hx hc hf' hl
  obtain ⟨o',fl,e',_,e2⟩:=fk c hf'
  rw [e] at e2;cases e2
  exact ⟨o,e',ho⟩⟩
 ·refine List.nodup_append.mpr ⟨(List.nodup_append.mp S.nd).1,(List.nodup_append.mp S'.nd).2.1,fun a ha b hb q=>?_⟩
  subst q
  obtain ⟨_,_,_,n,_⟩:=fk a ha
  exact n hb
 ·rcases List.mem_append.mp ha with h | h
  ·exact S.lo a (List.mem_append_left _ h)
  ·exact S'.lo a (List.mem_append_right _ h)
 ·obtain ⟨o,fl,e,_⟩:=fk a ha
  exact ⟨o,e,fl⟩
 ·obtain ⟨m,o,es,ep,e,d,r⟩:=S.ns
  obtain ⟨o',_,e',_,e''⟩:=fk _ S.nin
  rw [e] at e'';cases e''
  exact ⟨m,o,es,ep,e',d,r⟩
 ·obtain ⟨v,h1,h2⟩:=S.loc x p e
  refine ⟨v,?_,h2.mono kd⟩
  rcases h1 with ⟨a,m,⟨o,es,ep,e,d,r⟩,c⟩ | ⟨a,c,o',h3,h4,h5⟩
  ·obtain ⟨o',_,e',_,e''⟩:=fk _ S.nin
   rw [e] at e'';cases e''
   exact .inl ⟨a,m,⟨o,es,ep,e',d,r⟩,c⟩
  ·exact .inr ⟨a,c,o',h3,(kp c o' h4 (.inr (.inr ⟨_,h5⟩)) (S.cell_off h4 h5) fun q=>(hn c q o' h4).2 _ h5).1,h5⟩
theorem znh {fr₀:List Addr}{K:zez g A}{D:Addr}{elt target iter:Expr}{ifs:List Expr}{scope:Scope}{pos:Pos}{P:List PV->List (Addr × MO)->Prop}{own₀ ownb:List Addr}{s₀ sb:Shared}{R:Result->Shared->Prop}{ads:List Addr}{it:Addr}(hd:ads.head?=some it)
  (ha:∀ a∈ads,s₀.heap.get? a=none) (hF:∀ b∈F.fr,b∈fr₀\/s₀.heap.get? b=none)
  (k:∀ acc loc z s',P acc z->Sat g F ⟨loc,(D,.list acc)::z⟩ s'->Stp fr₀ own₀ s₀ (AS.own ⟨loc,(D,.list acc)::z⟩) s'->KP F.fr ownb (AS.own ⟨loc,(D,.list acc)::z⟩) sb.heap s'.heap->R (.ok .next) s')
  {xs acc:List PV} (S:Sat g F σ s) (st:Stp fr₀ own₀ s₀ σ.own s) (fk:KP F.fr ownb σ.own sb.heap s.heap) (off:Off g F σ.own ads) (r:K.Rel s.heap σ.own ads xs) (h:zet g A F D elt target ifs xs acc σ P) :
  codeAny (model g.prog g.w) A (.compLoop (.ListComp elt [⟨target,iter,ifs,0⟩] scope pos) 0 (.ref it) (.ref D) F.env) R s:=by
 refine codeAny_loop rfl (fun n s=>∃ xs acc σ,n=xs.length/\Sat g F σ s/\Stp fr₀ own₀ s₀ σ.own s/\KP F.fr ownb σ.own sb.heap s.heap/\Off g F σ.own ads/\K.Rel s.heap σ.own ads xs/\zet g A F D elt target ifs xs acc σ P) ?_ xs.length ⟨xs,acc,σ,rfl,S,st,fk,off,r,h⟩
 clear S st off r h fk
 rintro n s ⟨xs,acc,σ,rfl,S,st,fk,off,r,h⟩
 show wpAny _ A ((compTurn (.ListComp elt [⟨target,iter,ifs,0⟩] scope pos) 0 (.ref it) (.ref D) F.env).onRaise (fun x=>do noteFrame x F.env;theTreesLotGoes x)) _ _ s
 refine wpAny_noted (wpO fun W hW=>?_)
 rw [compTurn_list]
 refine wpAny_bind (wpAny_standAt (wpAny_bind ?_))
 cases xs with
 | nil =>
  refine K.stop hd S off r fun s' hs hg S'=>?_
  obtain ⟨z,hz,hP⟩:=h
  obtain ⟨loc,zone⟩:=σ
  dsimp only at hz
  subst hz
  exact wpAny_pure (hW _ _ (k acc loc z s' hP S' (st.offs ha hs hg) (fk.offs r hs)))
 | cons x xs =>
  refine K.next hd S off r fun v s₁ hs hg S₁ hv r₁=>?_
  have st₁:=st.offs ha hs hg
  have fk₁:=fk.offs r hs
  refine wpAny_bind (K.letGo hd S₁ off r₁ fun s₂ hs₂ hg₂ S₂ r₂=>?_)
  have st₂:=st₁.offs ha hs₂ hg₂
  have fk₂:=fk₁.offs r₁ hs₂
  have kp₁₂:Kp s₁.heap s₂.heap σ.own σ.own:=fun b o xs n e d no=>⟨hs₂ b o e (fun q=>by
   obtain ⟨o',e',_,_,hq⟩:=K.hard r₁ b q
   rw [e] at e';cases e'
   exact hq xs n d),no⟩
  refine wpAny_bind (h s₂ v S₂ (hv.mono kp₁₂) _ _ fun σ₃ s₃ h₃ S₃ st₃=>?_)
  obtain ⟨off₃,r₃⟩:=K.after S₂ st₃ off r₂
  refine wpAny_bind (h₃ s₃ S₃ _ _ fun ok ok' σ₄ s₄ h₄ S₄ hb st₄=>?_)
  cases hb
  obtain ⟨off₄,r₄⟩:=K.after S₃ st₄ off₃ r₃
  have stt:=(st₂.trans' st₃ hF).trans' (st₄.up (fr:=F.fr)) hF
  have fk₄:=(fk₂.trans (.of_stp st₃)).trans (.of_stp (st₄.up (fr:=F.fr)))
  cases ok with
  | false=>exact wpAny_pure (hW _ _ ⟨rfl,xs.length,Nat.lt_succ_self _,xs,acc,σ₄,rfl,S₄,stt,fk₄,off₄,r₄,h₄⟩)
  | true =>
   refine wpAny_bind (wpAny_bind (h₄ s₄ S₄ _ _ fun v p σ₅ s₅ h₅ S₅ hv st₅=>?_))
   obtain ⟨off₅,r₅⟩:=K.after S₄ st₅ off₄ r₄
   obtain ⟨z,hz,hlen,h₆⟩:=h₅
   have U:ZAt D (.list acc) (.list (acc++[p])) σ₅.zone ((D,.list (acc++[p]))::z):=by rw [hz];exact .head
   refine wpAny_bind (zeZ S₅ U hv hlen fun s₆ S₆ st₆=>?_)
   obtain ⟨off₆,r₆⟩:=K.after S₅ st₆ off₅ r₅
   exact wpAny_pure (wpAny_pure (hW _ _ ⟨rfl,xs.length,Nat.lt_succ_self _,xs,acc++[p],⟨σ₅.loc,(D,.list (acc++[p]))::z⟩,rfl,S₆,(stt.trans' (st₅.up (fr:=F.fr)) hF).trans' (st₆.up (fr:=F.fr)) hF,(fk₄.trans (.of_stp (st₅.up (fr:=F.fr)))).trans (.of_stp (st₆.up (fr:=F.fr))),off₆,r₆,h₆⟩))
theorem Sat.dictOff {fr own₀:List Addr}{s₀:Shared}{C:Addr}{h':Heap}(S:Sat g F σ s)(hl:g.h₁.objs.size<=C)(hf:C∉F.fr)(ho:C∉σ.own)(hs:Heap.SameBut C s.heap h')(hn:∃ m,s.heap.Ns C m)(st:Stp fr own₀ s₀ σ.own s)(hC:s₀.heap.get? C=none) :
  Sat g F σ { s with heap:=h' }/\Stp fr own₀ s₀ σ.own { s with heap:=h' }:=by
 refine ⟨?_,st.off hC hs.extBut⟩
 obtain ⟨m,o,es,ep,e,d,_⟩:=hn
 have hd:∀ o',s.heap.get? C=some o'->∃ es n,o'.data=.dict es n:=fun o' e'=>by rw [e] at e';cases e';exact ⟨es,ep,d⟩
 have kp:Kp s.heap h' σ.own σ.own:=fun b o' xs n e' d' no=>⟨hs.extBut b o' (fun q=>by subst q;obtain ⟨_,_,q2⟩:=hd _ e';rw [d'] at q2;cases q2) e',no⟩
 have ko:∀ b o',s.heap.get? b=some o'->b≠C->h'.get? b=some o':=fun b o' e' nb=>hs.extBut b o' nb e'
 refine ⟨zcU.ext S.old hl hs.extBut,NoLimit.ext S.lim (Nat.ne_of_lt (Nat.lt_of_lt_of_le S.cs hl)) hs.extBut,S.os,S.bare,S.nd,S.lo,fun z hz=>(S.zs z hz).mono kp fun b hb o' e'=>ko b o' e' (fun q=>ho (q ▸ List.mem_flatMap.mpr ⟨z,hz,hb⟩)),fun a ha=>?_,?_,S.nin,fun x p ex=>?_,S.cs,S.cl.to fun b o' e' hc=>ko b o' e' (fun q=>by subst q;obtain ⟨_,_,q2⟩:=hd _ e';obtain ⟨v,hv⟩:=hc;rw [hv] at q2;cases q2)⟩
 ·obtain ⟨o',e',fl⟩:=S.fr a ha
  exact ⟨o',ko a o' e' (fun q=>hf (q ▸ ha)),fl⟩
 ·obtain ⟨mm,o',es',ep',e',r⟩:=S.ns
  exact ⟨mm,o',es',ep',ko _ _ e' (fun q=>hf (q ▸ S.nin)),r⟩
 ·obtain ⟨v,h1,h2⟩:=S.loc x p ex
  refine ⟨v,?_,h2.mono kp⟩
  rcases h1 with ⟨a,mm,⟨o',es',ep',e',r⟩,c⟩ | ⟨a,c,o',h3,h4,h5⟩
  ·exact .inl ⟨a,mm,⟨o',es',ep',ko _ _ e' (fun q=>hf (q ▸ S.nin)),r⟩,c⟩
  ·exact .inr ⟨a,c,o',h3,ko _ _ h4 (fun q=>by subst q;obtain ⟨_,_,q2⟩:=hd _ h4;rw [h5] at q2;cases q2),h5⟩
structure zlU (F:Fm)(scope:Scope)(cl:List (Str × Addr))(caps:List Str):Prop where
 clos:closureFor scope F.env=pure cl
 kind:scope.kind=.function
 names:(scope.names.all fun x=>x.2 != .local || scope.names.lookup x.1==some .local)=true
 cell:(scope.names.all fun x=>x.2 != .cell)=true
 caps:∀ x∈caps,F.env.kindOf x=some .cell/\(relabel scope F.env).names.lookup x=some .cell/\cl.lookup x=F.env.cells.lookup x
theorem zj9 {elt target iter:Expr}{ifs:List Expr}{scope:Scope}{cl:List (Str × Addr)}{caps:List Str}{pos:Pos}{P:PV->AS->Prop}{use:Option (Value->Sem Unit)}{Q:Value->Shared->Prop}{E:Value->Shared->Prop}
  (ok:zlU F scope cl caps) (h:SRC g A F iter σ fun xs σ₁=>∀ D C,zet g A (cFm scope cl C F) D elt target ifs xs [] ⟨zcM caps σ₁.loc,(D,.list [])::σ₁.zone⟩ fun acc z=>P (.lst acc) ⟨σ₁.loc,z⟩)
  (hs:∀ x,foldedSetIterable iter F.env x=pure x) (S:Sat g F σ s)
  (k:∀ C D p σ' s',P p σ'->Sat g F σ' s'->VR s'.heap σ'.own p (.ref D)->Stp [] σ.own s σ'.own s'->s.heap.get? C=none->C∉F.fr->C∉σ'.own->g.h₁.objs.size<=C->(∃ m,s'.heap.Ns C m) ->
   compPost (model g.prog g.w) A E use Q (.ref D) C (.ok .next) s') :
  wpAny (model g.prog g.w) A (comprehension (.ListComp elt [⟨target,iter,ifs,0⟩] scope pos) scope F.env (firstIterPos [⟨target,iter,ifs,0⟩] pos) (newList []) false (firstIter [⟨target,iter,ifs,0⟩] F.env) use) Q E s:=by
 have hnames:∀ x∈scope.names,x.2=.local->scope.names.lookup x.1=some .local:=fun x hx hl=>by
  have:=List.all_eq_true.mp ok.names x hx
  rw [hl] at this
  simpa -iota using this
 have hcell:∀ x∈scope.names,x.2≠.cell:=fun x hx=>by simpa -iota using List.all_eq_true.mp ok.cell x hx
 refine wpAny_comprehension_free (g:=⟨target,iter,ifs,0⟩) (gs:=[]) rfl hs ok.clos ok.kind hnames ?_
 refine h s S _ E fun K it ads xs σ₁ s₁ hd h₁ S₁ st₁ ha off r=>?_
 obtain ⟨S₂,st₂⟩:=S₁.newList (ps:=[]) (vs:=[]) .nil
 refine wpAny_newList ?_ (by simp -iota)
 generalize hD:s₁.heap.objs.size=D at S₂ st₂ ⊢
 generalize hs2:({ s₁ with heap:=s₁.heap.push (zam (List.toArray []) 0) }:Shared)=s₂ at S₂ st₂
 refine wpAny_newFunctionEnv hcell (by intro y hy;simp -iota at hy) (fun h₃ hns hsb=>?_) ok.kind
 have hk3:∀ b o,s₂.heap.get? b=some o->h₃.get? b=some o:=fun b o e=>hsb.extBut b o (Nat.ne_of_lt (Heap.lt_size e)) (Heap.get?_push_of_some _ e)
 generalize hC:s₂.heap.objs.size=C at hns hsb ⊢
 have hCn:s₂.heap.get? C=none:=hC ▸ zae _
 have hCf:C∉F.fr:=fun q=>by rw [<- hC] at q;exact Nat.lt_irrefl _ (S₂.fr_lt q)
 have hCo:C∉(AS.own ⟨σ₁.loc,(D,.list [])::σ₁.zone⟩):=fun q=>by rw [<- hC] at q;exact Nat.lt_irrefl _ (S₂.own_lt q)
 have hCl:g.h₁.objs.size<=C:=hC ▸ S₂.base_le
 have kp:Kp s₂.heap h₃ (AS.own ⟨σ₁.loc,(D,.list [])::σ₁.zone⟩) (AS.own ⟨σ₁.loc,(D,.list [])::σ₁.zone⟩):=fun b o xs n e _ no=>⟨hk3 b o e,no⟩
 have hCobj:∃ o,h₃.get? C=some o/\zr o:=by obtain ⟨o,es,ep,e,d,_⟩:=hns;exact ⟨o,e,.inl ⟨es,ep,d⟩⟩
 have S₃:Sat g (cFm scope cl C F) ⟨zcM caps σ₁.loc,(D,.list [])::σ₁.zone⟩ { s₂ with heap:=h₃,toks:=s₂.toks+0 }:=by
  refine ⟨S₂.old.step_keeps hk3,S₂.lim.keeps hk3,S₂.os,S₂.bare,?_,fun a ha=>?_,fun z hz=>(S₂.zs z hz).mono kp fun b _ o e=>hk3 b o e,fun a ha=>?_,⟨_,hns⟩,by simp -iota [cFm,compEnvC],fun x p e=>?_,S₂.cs,fun x c _ _ hf hl=>(hl (List.mem_singleton.mp hf)).elim⟩
  ·exact List.nodup_cons.mpr ⟨hCo,(List.nodup_append.mp S₂.nd).2.1⟩
  ·rcases List.mem_cons.mp ha with rfl | ha
   ·exact hCl
   ·exact S₂.lo a (List.mem_append_right _ ha)
  ·simp -iota [cFm] at ha;subst ha;exact hCobj
  ·obtain ⟨hx,e'⟩:=zhI e
   obtain ⟨c1,c2,c3⟩:=ok.caps x hx
   obtain ⟨v,hv1,hv2⟩:=S₂.loc x p e'
   refine ⟨v,?_,hv2.mono kp⟩
   rcases hv1 with ⟨q,_⟩ | ⟨_,c,o,q1,q2,q3⟩
   ·rw [c1] at q;cases q
   ·exact .inr ⟨.inl c2,c,o,by show cl.lookup x=_;rw [c3];exact q1,hk3 _ _ q2,q3⟩
 have hk12:∀ b o,s₁.heap.get? b=some o->s₂.heap.get? b=some o:=fun b o e=>by rw [<- hs2];exact Heap.get?_push_of_some _ e
 have kp12:Kp s₁.heap s₂.heap σ₁.own (AS.own ⟨σ₁.loc,(D,.list [])::σ₁.zone⟩):=S₁.kp st₂
 have kp13:Kp s₁.heap h₃ σ₁.own (AS.own ⟨σ₁.loc,(D,.list [])::σ₁.zone⟩):=fun b o xs n e d no=>by
  obtain ⟨a1,a2⟩:=kp12 b o xs n e d no
  exact kp b o xs n a1 d a2
 have r₃:K.Rel h₃ (AS.own ⟨zcM caps σ₁.loc,(D,.list [])::σ₁.zone⟩) ads xs:=K.stable r kp13 fun a _ o e=>hk3 a o (hk12 a o e)
 have off₃:Off g (cFm scope cl C F) (AS.own ⟨zcM caps σ₁.loc,(D,.list [])::σ₁.zone⟩) ads:=fun a ha'=>by
  obtain ⟨o,e,_⟩:=K.hard r a ha'
  refine ⟨fun q=>?_,fun q=>?_,(off a ha').2.2⟩
  ·simp -iota [cFm] at q;subst q
   rw [hk12 _ _ e] at hCn;cases hCn
  ·have hD':a=D\/a∈σ₁.own:=by
    have:AS.own ⟨zcM caps σ₁.loc,(D,.list [])::σ₁.zone⟩=D::σ₁.own:=rfl
    rw [this] at q
    exact List.mem_cons.mp q
   rcases hD' with rfl | q
   ·rw [<- hD,zae] at e;cases e
   ·exact (off a ha').2.1 q
 have st3:Stp [] (AS.own ⟨σ₁.loc,(D,.list [])::σ₁.zone⟩) s₂ (AS.own ⟨σ₁.loc,(D,.list [])::σ₁.zone⟩) { s₂ with heap:=h₃,toks:=s₂.toks+0 } :=
  ⟨fun b o e _ _ _=>hk3 b o e,fun b o e=>⟨o,hk3 b o e⟩,fun _ h=>.inl h,fun _ _ e=>e⟩
 have stF:Stp [] σ.own s (AS.own ⟨σ₁.loc,(D,.list [])::σ₁.zone⟩) { s₂ with heap:=h₃,toks:=s₂.toks+0 }:=(st₁.trans st₂).trans st3
 have hCs:s.heap.get? C=none:=by
  cases q:s.heap.get? C with
  | none=>rfl
  | some o=>obtain ⟨o',e'⟩:=(st₁.trans st₂).there C o q;rw [e'] at hCn;cases hCn
 have hCs1:s₁.heap.get? C=none:=by
  cases q:s₁.heap.get? C with
  | none=>rfl
  | some o=>rw [hk12 _ _ q] at hCn;cases hCn
 have S₂₃:Sat g F ⟨σ₁.loc,(D,.list [])::σ₁.zone⟩ { s₂ with heap:=h₃,toks:=s₂.toks+0 } :=
  S₂.ext (a:=C) hCl (fun b o _ e=>hk3 b o e) hCf hCo fun o e=>by rw [hCn] at e;cases e
 have hloop:∀ s':Shared,s'={ s₂ with heap:=h₃,toks:=s₂.toks+0 }->codeAny (model g.prog g.w) A (.compLoop (.ListComp elt [⟨target,iter,ifs,0⟩] scope pos) 0 (.ref it) (.ref D) (cFm scope cl C F).env) (compPost (model g.prog g.w) A E use Q (.ref D) C) s':=by
  rintro _ rfl
  refine znh (fr₀:=[]) (K:=K) (own₀:=σ.own) (s₀:=s) (ownb:=AS.own ⟨σ₁.loc,(D,.list [])::σ₁.zone⟩) (sb:={ s₂ with heap:=h₃,toks:=s₂.toks+0 }) hd ha (fun b hb=>?_) (fun acc loc z s' hP S' st' fk'=>?_) S₃ stF .refl off₃ r₃ (h₁ D C)
  ·simp -iota [cFm] at hb;subst hb;exact .inr hCs
  ·have Sb:Sat g F ⟨σ₁.loc,(D,.list acc)::z⟩ s':=S₂₃.back2 S' fk' (fun a ha' q=>by simp -iota [cFm] at q;subst q;exact hCf ha') (fun a ha' o e=>by
    simp -iota [cFm] at ha';subst ha'
    obtain ⟨o',es,ep,e',d,_⟩:=hns
    have e2:h₃.get? a=some o:=e
    rw [e2] at e';cases e'
    exact ⟨fun xs n q=>(by rw [d] at q;cases q),fun v q=>(by rw [d] at q;cases q)⟩)
   obtain ⟨Sf,stf,hv⟩:=Sb.freeze
   refine k C D _ _ s' hP Sf hv (st'.trans stf) hCs hCf (fun q=>?_) hCl S'.ns
   have:C∈AS.own ⟨loc,(D,.list acc)::z⟩:=List.mem_cons_of_mem _ q
   exact (List.nodup_append.mp S'.nd).2.2 C (by simp -iota [cFm]) C this rfl
 refine codeAny_compStart_list (hloop _ rfl) ?_
 exact K.self (F:=cFm scope cl C F) (σ:=⟨zcM caps σ₁.loc,(D,.list [])::σ₁.zone⟩) hd S₃ off₃ r₃ (hloop _ rfl)
abbrev zgn (P:PV->AS->Prop)(σ₁:AS):List PV->List (Addr × MO)->Prop:=fun acc z=>P (.lst acc) ⟨σ₁.loc,z⟩
abbrev zgg (g:Gl)(A:Around)(F:Fm)(P:PV->AS->Prop)(elt:Expr)(target:Expr)(ifs:List Expr)(scope:Scope)(cl:List (Str × Addr))(caps:List Str):List PV->AS->Prop:=fun xs σ₁=>∀ D C,zet g A (cFm scope cl C F) D elt target ifs xs [] ⟨zcM caps σ₁.loc,(D,.list [])::σ₁.zone⟩ (zgn P σ₁)
theorem zaI {elt target iter:Expr}{ifs:List Expr}{scope:Scope}{cl:List (Str × Addr)}{caps:List Str}{pos:Pos}{P:PV->AS->Prop}
  (ok:zlU F scope cl caps) (h:SRC g A F iter σ (zgg g A F P elt target ifs scope cl caps))
  (hs:∀ x,foldedSetIterable iter F.env x=pure x:=by left):EV g A F (.ListComp elt [⟨target,iter,ifs,0⟩] scope pos) σ P:=by
 intro s S Q E k
 rw [eval_ListComp]
 refine zj9 ok h hs S fun C D p σ' s' hP S' hv st hC hf ho hl hn=>?_
 obtain ⟨m,hm⟩:=hn
 refine ⟨m,hm,fun h' hs'=>?_⟩
 have hq:∀ o,s'.heap.get? C=some o->∀ xs n,o.data≠.seq xs n:=fun o e xs n d=>by
  obtain ⟨o',es,ep,e',d',_⟩:=hm
  rw [e] at e';cases e'
  rw [d] at d';cases d'
 have kp:Kp s'.heap h' σ'.own σ'.own:=fun b o xs n e d no=>⟨hs'.extBut b o (fun q=>by subst q;exact hq o e xs n d) e,no⟩
 obtain ⟨S'',st''⟩:=S'.dictOff hl hf ho hs' ⟨m,hm⟩ st hC
 exact k _ p σ' _ hP S'' (hv.mono kp) st''
abbrev zd4 (P:Fl->AS->Prop)(x:Str)(σ₁:AS):List PV->List (Addr × MO)->Prop:=fun acc z=>P .next (AS.set ⟨σ₁.loc,z⟩ x (.lst acc))
abbrev zd5 (g:Gl)(A:Around)(F:Fm)(P:Fl->AS->Prop)(x:Str)(elt:Expr)(target:Expr)(ifs:List Expr)(scope:Scope)(cl:List (Str × Addr))(caps:List Str):List PV->AS->Prop:=fun xs σ₁=>∀ D C,zet g A (cFm scope cl C F) D elt target ifs xs [] ⟨zcM caps σ₁.loc,(D,.list [])::σ₁.zone⟩ (zd4 P x σ₁)
theorem zbD {x:Str}{px spos:Pos}{elt target iter:Expr}{ifs:List Expr}{scope:Scope}{cl:List (Str × Addr)}{caps:List Str}{pos:Pos}{P:Fl->AS->Prop}(hk:z0 F)
  (ok:zlU F scope cl caps) (h:SRC g A F iter σ (zd5 g A F P x elt target ifs scope cl caps))
  (hx:F.env.kindOf x=some .local:=by left)
  (hsw:swapsWith (.ListComp elt [⟨target,iter,ifs,0⟩] scope pos) (some (.Name x px)) spos.line F.env=pure true:=by left)
  (hs:∀ x,foldedSetIterable iter F.env x=pure x:=by left):EX g A F (.Assign [.Name x px] (.ListComp elt [⟨target,iter,ifs,0⟩] scope pos) spos) σ P:=by
 intro s S Q E k
 rw [exec_Assign_Name_used _ _ _ _ hsw]
 refine wpAny_bind (wpAny_standAt (wpAny_bind ?_))
 show wpAny _ A (do let _ <- comprehension (.ListComp elt [⟨target,iter,ifs,0⟩] scope pos) scope F.env (firstIterPos [⟨target,iter,ifs,0⟩] pos) (newList []) false (firstIter [⟨target,iter,ifs,0⟩] F.env) (some (assign (.Name x px) F.env))) _ _ s
 refine wpAny_bind (wpAny_mono (zj9 (P:=fun p σ'=>P .next (σ'.set x p)) (Q:=fun _ s'=>Q .next s') ok h hs S fun C D p σ' s' hP S' hv st hC hf ho hl hn=>?_) (fun _ s' hq=>wpAny_pure (wpAny_pure hq)) fun _ _ e=>e)
 refine wpAny_assign_Name (za7 hk hx S' hv fun s₂ S₂ st₂=>?_)
 obtain ⟨m,o,es,ep,e,d,r⟩:=hn
 have hn₂:∃ m,s₂.heap.Ns C m:=⟨m,o,es,ep,st₂.keep C o e hf ho (zr.hard (.inl ⟨es,ep,d⟩)),d,r⟩
 obtain ⟨m₂,hm₂⟩:=hn₂
 refine ⟨m₂,hm₂,fun h' hs'=>?_⟩
 obtain ⟨S₃,st₃⟩:=S₂.dictOff hl hf ho hs' ⟨m₂,hm₂⟩ (st.up.trans st₂) hC
 exact k _ _ _ _ hP S₃ .next st₃
end
end Mine
end
section
open PySem PySem.Calls PyProof.Rows
namespace Mine
theorem zjw.facts {o:Obj}(x:zjw o):o.cls≠.none/\¬ zr o/\∀ xs n,o.data≠.seq xs n:=by
 obtain ⟨T,vs,hc,hd,_⟩:=x
 exact ⟨by rw [hc];simp,fun q=>by rcases q with ⟨_,_,q⟩ | ⟨_,q⟩ <;> (rw [hd] at q;cases q),fun xs n q=>by rw [hd] at q;cases q⟩
section
variable {g:Gl}{A:Around}{F:Fm}{σ:AS}{s:Shared}
def zpi (I:Addr)(St:Nat->Heap->Prop)(all:List PV)(h:Heap)(own:List Addr)(ads:List Addr)(xs:List PV):Prop :=
 ads=[I]/\∃ i,i<=all.length/\St i h/\all.drop i=xs
noncomputable def ztc (g:Gl)(A:Around)(I:Addr)(P:Nat->Value->Prop)(St:Nat->Heap->Prop)(all:List PV)(W:Walks g.prog g.w A I [I] [I] all.length P St)
  (hSt:∀ i h,St i h->∃ o,h.get? I=some o/\zjw o) (hP:∀ i v,P i v->∀ p,all[i]?=some p->∀ h own,VR h own p v):zez g A where
 Rel:=zpi I St all
 hard:=by
  rintro h own ads xs ⟨rfl,i,_,st,_⟩ a ha
  rw [List.mem_singleton] at ha;subst ha
  obtain ⟨o,e,x⟩:=hSt i h st
  exact ⟨o,e,x.facts⟩
 stable:=by
  rintro h h' own own' ads xs ⟨rfl,i,hi,st,hx⟩ kp ka
  exact ⟨rfl,i,hi,W.frame i h h' st ka,hx⟩
 next:=by
  rintro F σ s ads it x xs Q E hd S off ⟨rfl,i,hi,st,hx⟩ k
  obtain rfl:I=it:=by simpa using hd
  obtain ⟨h1,h2⟩:=zdy hx
  have hlt:i < all.length:=by
   rcases Nat.lt_or_ge i all.length with q | q
   ·exact q
   ·rw [List.getElem?_eq_none q] at h1;cases h1
  refine W.item i s Q E hlt st fun v h' tk hv st' hs=>?_
  obtain ⟨o1,o2,o3⟩:=off I (by simp)
  obtain ⟨o,e,x⟩:=hSt i _ st
  have S':=S.ext o3 (h':=h') (fun b o hb e=>hs b o (by simpa using hb) e) o1 o2 fun o' e'=>by rw [e] at e';cases e';exact x.facts.2
  exact k v _ (fun b o e hb=>hs b o hb e) rfl (S'.toks tk) (hP i v hv _ h1 _ _) ⟨rfl,i+1,hlt,st',h2⟩
 stop:=by
  rintro F σ s ads it Q E hd S off ⟨rfl,i,hi,st,hx⟩ k
  obtain rfl:I=it:=by simpa using hd
  have hn:i=all.length:=by
   rw [List.drop_eq_nil_iff] at hx
   lia
  subst hn
  refine W.done s Q E st fun h' tk hs=>?_
  obtain ⟨o1,o2,o3⟩:=off I (by simp)
  obtain ⟨o,e,x⟩:=hSt _ _ st
  have S':=S.ext o3 (h':=h') (fun b o hb e=>hs b o (by simpa using hb) e) o1 o2 fun o' e'=>by rw [e] at e';cases e';exact x.facts.2
  exact k _ (fun b o e hb=>hs b o hb e) rfl (S'.toks tk)
 letGo:=by
  rintro F σ s ads it xs target v Q E hd S off ⟨rfl,i,hi,st,hx⟩ k
  obtain rfl:I=it:=by simpa using hd
  obtain ⟨o,e,x⟩:=hSt _ _ st
  exact zhv e x (k s (fun _ _ e _=>e) rfl S ⟨rfl,i,hi,st,hx⟩)
 self:=by
  rintro F σ s ads it xs Q E hd S off ⟨rfl,i,hi,st,hx⟩ k
  obtain rfl:I=it:=by simpa using hd
  exact W.self i s Q E st k
noncomputable def zhr (x:Str):List PV:=x.cps.toList.map fun c=>.str ⟨#[c]⟩
theorem zfQ {T:String}{I:Addr}{x:Str}{t:Tok}{i:Nat}{h:Heap}(hT:(["enumerate","zip","dict_itemiterator","dict_reverseitemiterator","odict_iterator","itertools.zip_longest","itertools.pairwise"].contains T)=false)(y:h.IsStrIter I T x t i):∃ o,h.get? I=some o/\zjw o:=by
 obtain ⟨o,e,hc,hd⟩:=y
 exact ⟨o,e,T,_,hc,hd,hT⟩
theorem zhu {o:Obj}{all:List PV}{Pp:Nat->Value->Prop}{St:Nat->Heap->Prop}{Q:Value->Shared->Prop}
  (hW:Walks g.prog g.w A s.heap.objs.size [s.heap.objs.size] [s.heap.objs.size] all.length Pp St) (hSt:∀ i h,St i h->∃ o,h.get? s.heap.objs.size=some o/\zjw o) (h0:St 0 (s.heap.push o))
  (hP:∀ i v,Pp i v->∀ p,all[i]?=some p->∀ h own,VR h own p v) (S:Sat g F σ s)
  (k:∀ (K:zez g A) it ads s',ads.head?=some it->Sat g F σ s'->Stp [] σ.own s σ.own s'->(∀ a∈ads,s.heap.get? a=none)->Off g F σ.own ads->K.Rel s'.heap σ.own ads all->Q (.ref it) s') :
  Q (.ref s.heap.objs.size) { s with heap:=s.heap.push o } :=
 k (ztc g A s.heap.objs.size Pp St all hW hSt hP) s.heap.objs.size [s.heap.objs.size] _ rfl (S.push o) (.push o) (fun a ha'=>by rw [List.mem_singleton] at ha';subst ha';exact zae _) S.off_new ⟨rfl,0,Nat.zero_le _,h0,rfl⟩
theorem zoc {x:Str}(hr:Rm A 0):IT g A F (.str x) (zhr x) σ:=by
 have hlen:(zhr x).length=x.cps.size:=by simp -iota [zhr]
 have hP:∀ i v,SignAt x i v->∀ p,(zhr x)[i]?=some p->∀ h own,VR h own p v:=by
  rintro i v ⟨c,u,hc,rfl⟩ p hp h own
  have:p=.str ⟨#[c]⟩:=by
   unfold zhr at hp
   rw [List.getElem?_map,Array.getElem?_toList,hc] at hp
   exact (Option.some.inj hp).symm
  subst this
  exact .str _ _
 intro s v S hv Q E k
 cases hv with
 | str _ t =>
  refine wpAny_pyIter_strU ?_
  by_cases ha:x.cps.all (· < 128)=true
  ·have hT:strIterType x = "str_ascii_iterator":=by unfold strIterType;rw [if_pos ha]
   rw [hT]
   exact zhu (Pp:=SignAt x) (St:=fun i h=>h.IsStrIter s.heap.objs.size "str_ascii_iterator" x t i) (by rw [hlen];exact Walks.strAscii hr.handled _ x t) (fun i h y=>zfQ (by decide) y) ⟨_,Heap.get?_push_size _ rfl,rfl,rfl⟩ hP S k
  ·have hT:strIterType x = "str_iterator":=by unfold strIterType;rw [if_neg ha]
   rw [hT]
   exact zhu (Pp:=SignAt x) (St:=fun i h=>h.IsStrIter s.heap.objs.size "str_iterator" x t i) (by rw [hlen];exact Walks.strWide hr.handled _ x t) (fun i h y=>zfQ (by decide) y) ⟨_,Heap.get?_push_size _ rfl,rfl,rfl⟩ hP S k
noncomputable def octs (b:Array UInt8):List PV:=b.toList.map fun c=>.int (c.toNat:Int)
theorem znZ {b:Array UInt8}(hr:Rm A 0):IT g A F (.byt b) (octs b) σ:=by
 have hlen:(octs b).length=b.size:=by simp -iota [octs]
 intro s v S hv Q E k
 cases hv with
 | byt _ t =>
  refine PySem.W.KBw.pyIter_bytes ?_
  refine zhu (Pp:=fun i v=>∃ c u,b[i]?=some c/\v=.int (c.toNat:Int) u) (St:=fun i h=>PySem.W.KBw.IsBytesIter h s.heap.objs.size b t i) (by rw [hlen];exact PySem.W.KBw.walks hr.handled _ b t) (fun i h y=>?_) ⟨_,Heap.get?_push_size _ rfl,rfl,rfl⟩ ?_ S k
  ·obtain ⟨o,e,hc,hd⟩:=y
   exact ⟨o,e,"bytes_iterator",_,hc,hd,by decide⟩
  ·rintro i v ⟨c,u,hc,rfl⟩ p hp h own
   have:p=.int (c.toNat:Int):=by
    unfold octs at hp
    rw [List.getElem?_map,Array.getElem?_toList,hc] at hp
    exact (Option.some.inj hp).symm
   subst this
   exact .int _ _
noncomputable def zc8 (a c:Int)(n:Nat):List PV:=(List.range n).map fun (i:Nat)=>.int (a+(i:Int)*c)
inductive znG:List PV->Int->Int->Int->Prop
 | one (b:Int):znG [.int b] 0 b 1
 | two (a b:Int):znG [.int a,.int b] a b 1
 | three (a b c:Int) (hc:c≠0) (hp:Builtin.divisionGoesByPylong (b - a) c=false):znG [.int a,.int b,.int c] a b c
theorem zeK (a b c:Int)(hc:c≠0):0<=Builtin.Range.rangeSize a b c:=by
 unfold Builtin.Range.rangeSize
 split
 ·split
  ·have:=Int.ediv_nonneg (a:=b - a - 1) (b:=c) (by lia) (by lia);lia
  ·lia
 ·split
  ·have:=Int.ediv_nonneg (a:=a - b - 1) (b:=-c) (by lia) (by lia);lia
  ·lia
theorem zkH {a b c:Int}{t u v:Tok}{r:Addr}{Q:Value->Shared->Prop}{E:Value->Shared->Prop}(hr:Rm A 0)(hx:IsRange s.heap r a b c t u v)(hc:c≠0)(hs:Builtin.Range.small a b c=true)(S:Sat g F σ s)
  (k:∀ (K:zez g A) it ads s',ads.head?=some it->Sat g F σ s'->Stp [] σ.own s σ.own s'->(∀ a∈ads,s.heap.get? a=none)->Off g F σ.own ads->K.Rel s'.heap σ.own ads (zc8 a c (Builtin.Range.rangeSize a b c).toNat)->Q (.ref it) s') :
  wpAny (model g.prog g.w) A (pyIter (.ref r)) Q E s:=by
 refine wpAny_pyIter_range hx hs ?_
 have hn:((Builtin.Range.rangeSize a b c).toNat:Int)=Builtin.Range.rangeSize a b c:=Int.toNat_of_nonneg (zeK a b c hc)
 refine zhu (all:=zc8 a c (Builtin.Range.rangeSize a b c).toNat) (by simp -iota only [zc8,List.length_map,List.length_range];exact Walks.range hr.handled _ a c _) (fun i h y=>⟨_,y,"range_iterator",_,rfl,rfl,by decide⟩) ?_ ?_ S k
 ·show IsRangeIter _ _ _ _ _
  rw [hn]
  simp -iota only [Int.natCast_zero,Int.zero_mul,Int.add_zero,Int.sub_zero]
  exact Heap.get?_push_size _ rfl
 ·rintro i v ⟨t,rfl⟩ p hp h own
  unfold zc8 at hp
  rw [List.getElem?_map] at hp
  by_cases hi:i < (Builtin.Range.rangeSize a b c).toNat
  ·rw [List.getElem?_range hi] at hp
   cases hp
   exact .int _ _
  ·rw [List.getElem?_eq_none (by simp -iota;lia)] at hp
   cases hp
theorem zfP {fr own own':List Addr}{s₁:Shared}{ads:List Addr}(st:Stp fr own s own' s₁)(ha:∀ a∈ads,s₁.heap.get? a=none):∀ a∈ads,s.heap.get? a=none:=fun a ha'=>by
 cases q:s.heap.get? a with
 | none=>rfl
 | some o=>obtain ⟨o',e'⟩:=st.there a o q;rw [ha a ha'] at e';cases e'
inductive zea (P:List PV->AS->Prop)(ps:List PV)(σ₂:AS):Prop
 | mk (a:Int) (b:Int) (c:Int) (h1:znG ps a b c) (h2:Builtin.Range.small a b c=true) (h3:P (zc8 a c (Builtin.Range.rangeSize a b c).toNat) σ₂):zea P ps σ₂
abbrev zhX (g:Gl)(A:Around)(F:Fm)(P:List PV->AS->Prop)(args:List Expr):PV->AS->Prop:=fun p σ₁=>p=.raw (.type "range")/\EVs g A F args σ₁ (zea P)
theorem zcH {func:Expr}{args:List Expr}{pos:Pos}{P:List PV->AS->Prop}(hr:Rm A 0)
  (h:EV g A F func σ (zhX g A F P args))
  (he:eval (.Call func args [] pos) F.env=(do callWith pos (<- eval func F.env) [] (backTo pos (starEach args F.env)) (backToKw pos (keywordEach [] F.env))):=by left)
  (hns:(backTo pos (starEach args F.env)).any (·.1)=false:=by left):SRC g A F (.Call func args [] pos) σ P:=by
 intro s S R E k
 refine Call_ (h s S _ E fun v p σ₁ s₁ h₁ S₁ hv st₁=>?_) he
 obtain ⟨rfl,h₁⟩:=h₁
 cases hv
 refine zaP rfl hns (zaa h₁ hns S₁ fun vs ps σ₂ s₂ h₂ S₂ hvs st₂=>?_)
 obtain ⟨a,b,c,ra,hsm,hP⟩:=h₂
 have fin:∀ (o:Obj) (n:Nat) (t u v:Tok) (hc:c≠0),o={ cls:=.type "range",data:=.fields #[.int a t,.int b u,.int c v] }->wpAny (model g.prog g.w) A (pyIter (.ref s₂.heap.objs.size)) R E { s₂ with heap:=s₂.heap.push o,toks:=n }:=by
  rintro o n t u v hc rfl
  have S₃:=(S₂.push { cls:=.type "range",data:=.fields #[.int a t,.int b u,.int c v] }).toks n
  have st₃:Stp [] σ₂.own s₂ σ₂.own { s₂ with heap:=s₂.heap.push { cls:=.type "range",data:=.fields #[.int a t,.int b u,.int c v] },toks:=n }:=Stp.trans (.push _) .toks
  refine zkH hr (t:=t) (u:=u) (v:=v) (Heap.get?_push_size _ rfl) hc hsm S₃ fun K it ads s₄ hd S₄ st₄ ha off r=>?_
  exact k K it ads _ σ₂ s₄ hd hP S₄ (st₁.trans (st₂.trans (st₃.trans st₄))) (zfP (st₁.trans (st₂.trans st₃)) ha) off r
 cases ra with
 | one b =>
  cases hvs with | cons hv hs=>cases hs;cases hv;exact call_range_1 (fin _ _ _ _ _ (by decide) rfl)
 | two a b =>
  cases hvs with | cons hv hs=>cases hs with | cons hu hs=>cases hs;cases hv;cases hu;exact call_range_2 (fin _ _ _ _ _ (by decide) rfl)
 | three a b c hc hp =>
  cases hvs with | cons hv hs=>cases hs with | cons hu hs=>cases hs with | cons hw hs=>cases hs;cases hv;cases hu;cases hw;exact call_range_3 hc (fin _ _ _ _ _ hc rfl) (.inl hp)
inductive zog (h:Heap)(own:List Addr)(ads:List Addr)(xs:List PV):Prop
 | mk (it:Addr) (l:Addr) (i:Nat) (items:Array Value) (n:Nat) (ps:List PV) (h1:ads=[it]) (h2:h.IsRevIter it l ((i:Int) - 1)) (h3:l∉own) (h4:h.get? l=some (zam items n)) (h5:VRs h own ps items.toList) (h6:i<=ps.length) (h7:(ps.take i).reverse=xs):zog h own ads xs
theorem zcd {h:Heap}{it l:Addr}{i:Int}(x:h.IsRevIter it l i):∃ o,h.get? it=some o/\zjw o:=by
 obtain ⟨o,e,hc,hd⟩:=x
 exact ⟨o,e,"list_reverseiterator",_,hc,hd,by decide⟩
theorem zhD {ps xs:List PV}{x:PV}{i:Nat}(hi:i<=ps.length)(e:(ps.take i).reverse=x::xs):∃ j,i=j+1/\ps[j]?=some x/\(ps.take j).reverse=xs:=by
 cases i with
 | zero=>simp at e
 | succ j =>
  refine ⟨j,rfl,?_⟩
  have hj:j < ps.length:=hi
  rw [List.take_add_one,List.getElem?_eq_getElem hj] at e
  simp only [Option.toList_some,List.reverse_append,List.reverse_cons,List.reverse_nil,List.nil_append,List.cons_append] at e
  injection e with e1 e2
  exact ⟨by rw [List.getElem?_eq_getElem hj,e1],e2⟩
noncomputable def zuQ (g:Gl)(A:Around)(hr:Rm A 0):zez g A where
 Rel:=zog
 hard:=by
  rintro h own ads xs ⟨it,l,i,items,n,ps,rfl,hit,_⟩ a ha
  rw [List.mem_singleton] at ha;subst ha
  obtain ⟨o,e,x⟩:=zcd hit
  exact ⟨o,e,x.facts⟩
 stable:=by
  rintro h h' own own' ads xs ⟨it,l,i,items,n,ps,rfl,hit,hl,ho,hv,hi,hx⟩ kp ka
  obtain ⟨e1,e2⟩:=kp l _ items n ho rfl hl
  exact ⟨it,l,i,items,n,ps,rfl,hit.at (ka it (by simp)),e2,e1,hv.mono kp,hi,hx⟩
 next:=by
  rintro F σ s ads it x xs Q E hd S off ⟨it',l,i,items,n,ps,rfl,hit,hl,ho,hv,hi,hx⟩ k
  obtain rfl:it'=it:=by simpa using hd
  obtain ⟨j,rfl,h1,h2⟩:=zhD hi hx
  obtain ⟨v,hv1,hv2⟩:=hv.get h1
  have hit0:=hit
  rw [show (((j+1:Nat):Int) - 1)=(j:Int) by lia] at hit
  refine wpAny_pyNext_rev_item hit ⟨_,ho,rfl,_,rfl⟩ (by simpa using hv1) fun h' hit' hs=>?_
  obtain ⟨o1,o2,o3⟩:=off it' (by simp)
  obtain ⟨o,e,y⟩:=zcd hit
  obtain ⟨_,hf,hq⟩:=y.facts
  have kk:∀ b o,s.heap.get? b=some o->b∉[it']->h'.get? b=some o:=fun b o e hb=>hs.extBut b o (by simpa using hb) e
  have kp:Kp s.heap h' σ.own σ.own:=fun b o' xs n e' d no=>⟨kk b o' e' (fun q=>by
   rw [List.mem_singleton] at q;subst q
   rw [e] at e';cases e'
   exact hq xs n d),no⟩
  refine k v _ kk rfl (S.ext o3 hs.extBut o1 o2 fun o' e'=>by rw [e] at e';cases e';exact ⟨hf,hq⟩) (hv2.mono kp) ⟨it',l,j,items,n,ps,rfl,hit',hl,(kp l _ items n ho rfl hl).1,hv.mono kp,Nat.le_of_succ_le hi,h2⟩
 stop:=by
  rintro F σ s ads it Q E hd S off ⟨it',l,i,items,n,ps,rfl,hit,hl,ho,hv,hi,hx⟩ k
  obtain rfl:it'=it:=by simpa using hd
  have h0:i=0:=by
   rw [List.reverse_eq_nil_iff,List.take_eq_nil_iff] at hx
   rcases hx with q | q
   ·exact q
   ·subst q;simpa using hi
  subst h0
  rw [show (((0:Nat):Int) - 1) = -1 by rfl] at hit
  refine wpAny_pyNext_rev_end hr.handled hit fun h' hs=>?_
  obtain ⟨o1,o2,o3⟩:=off it' (by simp)
  obtain ⟨o,e,y⟩:=zcd hit
  exact k _ (fun b o e hb=>hs b o (by simpa using hb) e) rfl (S.ext o3 hs o1 o2 fun o' e'=>by rw [e] at e';cases e';exact y.facts.2)
 letGo:=by
  rintro F σ s ads it xs target v Q E hd S off ⟨it',l,i,items,n,ps,rfl,hit,hl,ho,hv,hi,hx⟩ k
  obtain rfl:it'=it:=by simpa using hd
  obtain ⟨o,e,y⟩:=zcd hit
  exact zhv e y (k s (fun _ _ e _=>e) rfl S ⟨it',l,i,items,n,ps,rfl,hit,hl,ho,hv,hi,hx⟩)
 self:=by
  rintro F σ s ads it xs Q E hd S off ⟨it',l,i,items,n,ps,rfl,hit,hl,ho,hv,hi,hx⟩ k
  obtain rfl:it'=it:=by simpa using hd
  exact wpAny_pyIter_revIter hit k
inductive zcI (P:List PV->AS->Prop)(ps:List PV)(σ₂:AS):Prop
 | mk (xs:List PV) (h1:ps=[.lst xs]) (h2:P xs.reverse σ₂):zcI P ps σ₂
abbrev zfG (g:Gl)(A:Around)(F:Fm)(P:List PV->AS->Prop)(arg:Expr):PV->AS->Prop:=fun p σ₁=>p=.raw (.type "reversed")/\EVs g A F [arg] σ₁ (zcI P)
theorem zh7 {func arg:Expr}{pos:Pos}{P:List PV->AS->Prop}(hr:Rm A 0)
  (h:EV g A F func σ (zfG g A F P arg))
  (he:eval (.Call func [arg] [] pos) F.env=(do callWith pos (<- eval func F.env) [] (backTo pos (starEach [arg] F.env)) (backToKw pos (keywordEach [] F.env))):=by left)
  (hns:(backTo pos (starEach [arg] F.env)).any (·.1)=false:=by left):SRC g A F (.Call func [arg] [] pos) σ P:=by
 intro s S R E k
 refine Call_ (h s S _ E fun v p σ₁ s₁ h₁ S₁ hv st₁=>?_) he
 obtain ⟨rfl,h₁⟩:=h₁
 cases hv
 refine zaP rfl hns (zaa h₁ hns S₁ fun vs ps σ₂ s₂ h₂ S₂ hvs st₂=>?_)
 obtain ⟨xs,rfl,hP⟩:=h₂
 cases hvs with
 | cons hv hs =>
  cases hs
  cases hv with
  | @lst _ l items n ha ho hl =>
   refine call_reversed_list ⟨_,ho,rfl,_,rfl⟩ ?_
   have S₃:=S₂.push (revObj l ((items.size:Int) - 1))
   have hit:(s₂.heap.push (revObj l ((items.size:Int) - 1))).IsRevIter s₂.heap.objs.size l ((items.size:Int) - 1):=⟨_,Heap.get?_push_size _ rfl,rfl,rfl⟩
   refine wpAny_pyIter_revIter hit ?_
   have kp:Kp s₂.heap (s₂.heap.push (revObj l ((items.size:Int) - 1))) σ₂.own σ₂.own:=fun b o' xs n e _ no=>⟨Heap.get?_push_of_some _ e,no⟩
   have hsz:=hl.toArray
   refine k (zuQ g A hr) s₂.heap.objs.size [s₂.heap.objs.size] _ σ₂ _ rfl hP S₃ (st₁.trans (st₂.trans (.push _))) (zfP (st₁.trans st₂) fun a ha'=>by rw [List.mem_singleton] at ha';subst ha';exact zae _) S₂.off_new ?_
   exact ⟨_,l,items.size,items,n,xs,rfl,hit,ha,Heap.get?_push_of_some _ ho,hl.mono kp,by lia,by rw [hsz,List.take_length]⟩
end
end Mine
end
section
open PySem PySem.Calls PyProof.Rows
namespace Mine
noncomputable def ofL (l:List Nat):Str:=⟨l.toArray⟩
noncomputable abbrev tx (l:List Nat):PV:=.str (ofL l)
theorem zu (l:List Nat):(ofL l).length=l.length:=by simp -iota [ofL,Str.length]
theorem zcn (a b:List Nat):ofL a++ofL b=ofL (a++b):=by
 apply Str.ext'
 show (a.toArray++b.toArray:Array Nat)=_
 simp [ofL]
theorem zoM {a b:List Nat}(h:ofL a=ofL b):a=b:=by
 have:=congrArg (fun x:Str=>x.cps.toList) h
 simpa [ofL] using this
theorem zbn (l:List Nat):(ofL l).cps.toList=l:=by simp [ofL]
theorem zg6 (a b:List Nat):(ofL a==ofL b)=decide (a=b):=by
 by_cases h:a=b
 ·subst h;simp
 ·simp only [h,decide_false]
  rw [beq_eq_false_iff_ne]
  exact fun q=>h (zoM q)
noncomputable def zaq (sep:List Nat):List (List Nat)->List Nat
 | []=>[]
 | [x]=>x
 | x::y::r=>x++sep++zaq sep (y::r)
theorem zcT (sep:List Nat):∀ l:List (List Nat),Str.join (ofL sep) (l.map ofL)=ofL (zaq sep l)
 | []=>rfl
 | [x]=>rfl
 | x::y::r=>by
  show ofL x++ofL sep++Str.join (ofL sep) ((y::r).map ofL)=_
  rw [zcT sep (y::r),zcn,zcn];rfl
theorem zbv:∀ l:List (List Nat),zaq [] l=l.flatten
 | []=>rfl
 | [x]=>by simp -iota [zaq]
 | x::y::r=>by
  show x++[]++zaq [] (y::r)=_
  rw [zbv (y::r)];simp -iota
section
variable {g:Gl}{A:Around}{F:Fm}{σ:AS}{P:PV->AS->Prop}{s:Shared}
theorem zt {x:Str}{n:Nat}{pos:Pos}(l:List Nat)(h:P (tx l) σ)(hx:x=ofL l:=by decide +kernel):EV g A F (.Constant (.str x) n pos) σ P:=by
 subst hx;exact zqD h
theorem zbd {a b:List Nat}(hs:a.length+b.length<=16777216)(h:P (tx (a++b)) σ):OP2 g A F (binaryOp .Add) (tx a) (tx b) σ P :=
 zpz (by rw [zu,zu];exact hs) (by rw [zcn];exact h)
theorem zl8 {a b:List Nat}(hs:a.length+b.length<=16777216)(h:P (tx (a++b)) σ):OP2 g A F (inplaceOp .Add) (tx a) (tx b) σ P :=
 zoD (by rw [zu,zu];exact hs) (by rw [zcn];exact h)
theorem zb9 {a b:List Nat}(h:P (.raw (.bool (decide (a=b)))) σ):OP2 g A F (compareOp .Eq) (tx a) (tx b) σ P :=
 zoS (by rw [zg6];exact h)
theorem zoF {a b:List Nat}(h:P (.raw (.bool (!decide (a=b)))) σ):OP2 g A F (compareOp .NotEq) (tx a) (tx b) σ P :=
 zpa (by rw [show (ofL a != ofL b) = !(ofL a==ofL b) from rfl,zg6];exact h)
theorem zsB {c:Nat}{l:List Nat}(h:P (.raw (.bool (decide (c∈l)))) σ):OP2 g A F (compareOp .In) (tx [c]) (tx l) σ P :=
 zpg (by rw [show ofL [c]=⟨#[c]⟩ from rfl,StrLaws.found_one,zbn];exact h)
theorem zkM {c:Nat}{l:List Nat}(h:P (.raw (.bool (!decide (c∈l)))) σ):OP2 g A F (compareOp .NotIn) (tx [c]) (tx l) σ P:=fun s v u S hv hu Q E k=>by
 cases hv;cases hu
 refine PyProof.Rows.notIn_str ?_
 rw [show ofL [c]=⟨#[c]⟩ from rfl]
 refine k _ _ σ s h S ?_ .refl
 have:=StrLaws.found_one (ofL l) c
 rw [zbn] at this
 rw [<- this]
 exact .raw _
theorem zgB {l:List Nat}{P:Bool->AS->Prop}(hs:l.length<=16777216)(h:P (!l.isEmpty) σ):TT g A F (tx l) σ P:=fun s v S hv Q E k=>by
 cases hv
 refine PySem.P.truthy_str (by rw [zu];lia) ?_
 have e:(((ofL l).length:Int) != 0) = !l.isEmpty:=by rw [zu];cases l <;> simp;lia
 rw [e]
 exact k _ σ _ h (S.toks _) .toks
theorem zpy {i:Int}{P:Bool->AS->Prop}(h:P (i != 0) σ):TT g A F (.int i) σ P:=fun s v S hv Q E k=>by
 cases hv;exact PyProof.Rows.truthy_int (k _ σ s h S .refl)
set_option tactic.hygienic true in
theorem zmy {l:List PV}{P:Bool->AS->Prop}(hs:l.length<=16777216)(h:P (!l.isEmpty) σ):TT g A F (.lst l) σ P:=fun s v S hv Q E k=>by
 cases hv with
 | lst ha ho hl =>
  have hsz:=hl.toArray
  refine wpAny_truthy_list ⟨_,ho,rfl,_,rfl⟩ (by lia) ?_
  rename_i a items n
  have e:(!items.isEmpty) = !l.isEmpty:=by
   have e1:items.isEmpty=decide (items.size=0):=rfl
   rw [e1,hsz];cases l <;> simp
  rw [e]
  exact k _ σ _ h (S.toks _) .toks
theorem zba {l:List Nat}(hs:l.length<=16777216)(h:P (.int l.length) σ):CL g A F (.builtin "len") [tx l] σ P:=fun s vs S hvs Q E k=>by
 cases hvs with | cons hv hs'=>cases hs';cases hv;exact len_str (by rw [zu];lia) (by rw [zu];exact k _ _ σ _ h (S.toks _) (.int _ _) .toks)
theorem zdH {l:List PV}(hs:l.length<=16777216)(h:P (.int l.length) σ):CL g A F (.builtin "len") [.lst l] σ P:=fun s vs S hvs Q E k=>by
 cases hvs with | cons hv hs'=>cases hs';cases hv with | lst ha ho hl =>
  have hsz:=hl.toArray
  exact len_list ⟨_,ho,rfl,_,rfl⟩ (by lia) (by rw [hsz];exact k _ _ σ _ h (S.toks _) (.int _ _) .toks)
theorem zns {b:Array UInt8}(hs:b.size<=16777216)(h:P (.int b.size) σ):CL g A F (.builtin "len") [.byt b] σ P:=fun s vs S hvs Q E k=>by
 cases hvs with | cons hv hs'=>cases hs';cases hv;exact PySem.W.len_bytes (by lia) (k _ _ σ _ h (S.toks _) (.int _ _) .toks)
theorem znn {D:Addr}{l:List PV}(hz:(D,.list l)∈σ.zone)(hs:l.length<=16777216)(h:P (.int l.length) σ):CL g A F (.builtin "len") [.raw (.ref D)] σ P:=fun s vs S hvs Q E k=>by
 cases hvs with | cons hv hs'=>cases hs';cases hv;obtain ⟨items,n,h1,h2⟩:=S.zs _ hz;have hsz:=h2.toArray;exact len_list ⟨_,h1,rfl,_,rfl⟩ (by lia) (by rw [hsz];exact k _ _ σ _ h (S.toks _) (.int _ _) .toks)
theorem zq3 {c:Nat}(h:P (.int c) σ):CL g A F (.builtin "ord") [tx [c]] σ P:=fun s vs S hvs Q E k=>by
 cases hvs with | cons hv hs'=>cases hs';cases hv;exact ord_of_one (by rw [zu];rfl) (k _ _ σ _ h (S.toks _) (.int _ _) .toks)
theorem zpv {c:Nat}(hc:c<=1114111)(h:P (tx [c]) σ):CL g A F (.builtin "chr") [.int c] σ P:=fun s vs S hvs Q E k=>by
 cases hvs with | cons hv hs'=>cases hs';cases hv;exact chr_of_range (by lia) (by lia) (k _ _ σ _ h (S.toks _) (.str _ _) .toks)
noncomputable def zaO (l:List Nat):Bool:=!l.isEmpty && l.all Unicode.isSpace
theorem zgQ {l:List Nat}(h:P (.raw (.bool (zaO l))) σ):CL g A F (.builtin "str.isspace") [tx l] σ P:=fun s vs S hvs Q E k=>by
 cases hvs with | cons hv hs'=>cases hs';cases hv;refine SC.isspace ?_;rw [show Txt.isspace (ofL l)=zaO l from by unfold Txt.isspace zaO;rw [zu];cases l <;> simp [ofL]];exact k _ _ σ s h S (.raw _) .refl
noncomputable def zdj (l p:List Nat):Bool:=decide (p.length<=l.length) && (l.take p.length==p)
noncomputable def zjd (l p:List Nat):Bool:=decide (p.length<=l.length) && ((l.drop (l.length - p.length)).take p.length==p)
theorem zlk {l p:List Nat}(h:P (.raw (.bool (zdj l p))) σ):CL g A F (.builtin "str.startswith") [tx l,tx p] σ P:=fun s vs S hvs Q E k=>by
 cases hvs with | cons hv hs'=>cases hs' with | cons hu hs'=>cases hs';cases hv;cases hu;refine SC.startswith ?_;rw [show Txt.startswith (ofL l) (ofL p)=zdj l p from by unfold Txt.startswith zdj;rw [StrLaws.subAt_eq,zu,zu,zbn,zbn];simp];exact k _ _ σ s h S (.raw _) .refl
theorem zot {l p:List Nat}(h:P (.raw (.bool (zjd l p))) σ):CL g A F (.builtin "str.endswith") [tx l,tx p] σ P:=fun s vs S hvs Q E k=>by
 cases hvs with | cons hv hs'=>cases hs' with | cons hu hs'=>cases hs';cases hv;cases hu;refine SC.endswith ?_;rw [show Txt.endswith (ofL l) (ofL p)=zjd l p from by unfold Txt.endswith zjd;rw [StrLaws.subAt_eq,zu,zu,zbn,zbn];simp];exact k _ _ σ s h S (.raw _) .refl
theorem zlg {h:Heap}{own:List Addr}:∀ {ls:List (List Nat)} {vs:List Value},VRs h own (ls.map tx) vs->StrsAre vs (ls.map ofL)
 | [],_,x=>by cases x;exact .nil
 | l::ls,_,x=>by
  cases x with
  | cons hv hs=>cases hv;exact .cons _ _ (zlg hs)
def zaT (sep:List Nat)(ls:List (List Nat)):Prop:=(ls.map (·.length)).sum+ls.length*sep.length<=16777216
theorem zfj {sep:List Nat}{ls:List (List Nat)}(hok:zaT sep ls)(h:P (tx (zaq sep ls)) σ):CL g A F (.builtin "str.join") [tx sep,.lst (ls.map tx)] σ P:=fun s vs S hvs Q E k=>by
 cases hvs with | cons hv hs'=>cases hs' with | cons hu hs'=>cases hs';cases hv;cases hu with | lst ha ho hl =>
  refine join_list ⟨_,ho,rfl,_,rfl⟩ (zlg hl) ?_ fun t' tk=>?_
  ·have:((ls.map ofL).map fun x=>x.length)=ls.map (·.length):=by rw [List.map_map];exact List.map_congr_left fun a _=>zu a
   rw [this,zu,List.length_map];exact hok
  ·rw [show Txt.join (ofL sep) (ls.map ofL)=ofL (zaq sep ls) from (StrLaws.glued_eq_join _ _).trans (zcT _ _)]
   exact k _ _ σ _ h (S.toks _) (.str _ _) .toks
theorem ziv {l:List Nat}{name:Str}{id:String}(slot:Slot "str" name id)(ty:typeOf (.builtin id)=pure (.type "method_descriptor")):MT g A F (tx l) name id σ:=fun s v S hv=>by
 cases hv;exact fun pl Q E k=>GM.of _ (typeIs_str _ _ _) slot ty GM.noRef (k _)
end
end Mine
end
section
open PySem PySem.Calls PyProof.Rows
namespace Mine
noncomputable def slo (n:Nat)(lo:Option Int):Nat:=lo.elim 0 (clipAt n)
noncomputable def shi (n:Nat)(hi:Option Int):Nat:=hi.elim n (clipAt n)
noncomputable def sl {α:Type}(l:List α)(lo hi:Option Int):List α:=(l.drop (slo l.length lo)).take (shi l.length hi - slo l.length lo)
theorem zeO {n:Nat}(h:n≠0):seqIndex? (-1) n=some (n - 1):=by
 obtain ⟨k,rfl⟩:=Nat.exists_eq_succ_of_ne_zero h
 rw [StrLaws.seqIndex_neg (show (-1:Int) < 0 by decide) (show -((k+1:Nat):Int)<=-1 from Int.neg_le_neg (Int.ofNat_le.mpr (Nat.succ_le_succ (Nat.zero_le k))))]
 have e:(-1+((k+1:Nat):Int))=(k:Int):=by
  show -1+((k:Int)+1)=(k:Int)
  rw [Int.add_comm,Int.add_assoc];exact Int.add_zero _
 exact congrArg (fun x:Int=>some x.toNat) e
theorem ziV {α:Type}(l:List α)(lo hi:Option Int):(sl l lo hi).length<=l.length:=by
 unfold sl;rw [List.length_take,List.length_drop];exact Nat.le_trans (Nat.min_le_right _ _) (Nat.sub_le _ _)
set_option tactic.hygienic true in
theorem zlf (l:List Nat)(lo hi:Option Int):Txt.slice (ofL l) lo hi=ofL (sl l lo hi):=by
 have e:Builtin.Str.strSliceIndices lo hi 1 l.length=PySem.sliceRange (sliceBounds lo hi none l.length).1 (sliceBounds lo hi none l.length).2.1 (sliceBounds lo hi none l.length).2.2:=rfl
 have p:(Builtin.Str.strSliceIndices lo hi 1 l.length).filterMap ((ofL l).cps[·]?)=sl l lo hi:=by
  rw [e,sliceBounds_plain,sliceRange_one,pick_run]
  simp only [ofL];rfl
 unfold Txt.slice
 rw [zu,p]
 split
 ·rename_i h
  have h':(Builtin.Str.strSliceIndices lo hi 1 l.length).length=l.length:=by simpa using h
  rw [e,sliceBounds_plain,sliceRange_one] at h'
  have hb:shi l.length hi - slo l.length lo=l.length:=by
   rw [List.length_map,List.length_range] at h'
   unfold shi slo;omega
  have hle:shi l.length hi<=l.length:=by
   unfold shi
   cases hi with
   | none=>exact Nat.le_refl _
   | some i=>have:=clipAt_cast l.length i;simp only [Option.elim];omega
  have h0:slo l.length lo=0\/l.length=0:=by omega
  congr 1
  unfold sl
  rcases h0 with h0 | h0
  ·rw [hb,h0,List.drop_zero,List.take_length]
  ·have:l=[]:=List.eq_nil_of_length_eq_zero h0
   subst this;simp
 ·rfl
theorem zdd {prog:Program}{w:World}{A:Around}{E:Value->Shared->Prop}{s:Shared}{value slice:Expr}{o i:Value}{T id:String}{ops:List Value}{Q:Value->Shared->Prop}(hT:s.TypeIs o T)
  (hl:typeLookup (.type T) "__getitem__" = pure (some (.builtin id))) (hs:subscripted slice false o i=operate ops (getItem o i)) (h:wpAny (model prog w) A (getItem o i) Q E s) :
  wpAny (model prog w) A (subscriptTail value slice o i) Q E s:=by
 unfold subscriptTail
 refine wpAny_bind ?_
 rw [getitemInPython_of_ne hT.not_modules]
 refine wpAny_bind (wpAny_specialOf hT hl ?_)
 have fin:wpAny (model prog w) A (subscripted slice false o i) (fun r s₃=>wpAny (model prog w) A (letTemporaryGo value o r>>=fun _=>pure r) Q E s₃) E s:=by
  rw [hs]
  exact wpAny_operating (wpAny_mono h (fun r s₃ h₃=>wpAny_bind (wpAny_letTemporaryGo (wpAny_pure h₃))) fun _ _ x=>x)
 first
  | exact wpAny_pure (wpAny_bind fin)
  | exact wpAny_bind (wpAny_pure (wpAny_bind fin))
  | exact wpAny_bind fin
set_option tactic.hygienic true in
theorem ze1 {i:Int}{n j:Nat}(h:seqIndex? i n=some j):j < n/\-(n:Int)<=i/\i < n/\j=(if i < 0 then (i+n).toNat else i.toNat):=by
 unfold seqIndex? at h
 dsimp only at h
 split at h
 ·rename_i h0
  split at h
  ·rename_i h1
   cases h
   simp only [Bool.and_eq_true,decide_eq_true_eq] at h1
   rw [if_pos h0];omega
  ·cases h
 ·rename_i h0
  split at h
  ·rename_i h1
   cases h
   simp only [Bool.and_eq_true,decide_eq_true_eq] at h1
   rw [if_neg h0];omega
  ·cases h
section
variable {g:Gl}{A:Around}{F:Fm}{σ:AS}{P:PV->AS->Prop}{s:Shared}{value slice:Expr}
theorem zdx {prog:Program}{w:World}{A:Around}{E:Value->Shared->Prop}{s:Shared}{l:Addr}{items:Array Value}{k:Int}{t:Tok}{x:Value}{j:Nat}{Q:Value->Shared->Prop}(hl:s.heap.IsList l items)(hz:items.size<=16777216)(hj:seqIndex? k items.size=some j)
  (hx:items[j]?=some x) (h:Q x s):wpAny (model prog w) A (getItem (.ref l) (.int k t)) Q E s:=by
 obtain ⟨h1,h2,h3,h4⟩:=ze1 hj
 by_cases h0:k < 0
 ·rw [if_pos h0] at h4
  exact wpAny_getItem_list_neg hl h0 h2 (by lia) (by rw [<- h4];exact hx) h
 ·rw [if_neg h0] at h4
  exact wpAny_getItem_list hl (by lia) (by lia) (by rw [<- h4];exact hx) h
theorem zr4 {l:List Nat}{i:Int}{j c:Nat}(hj:seqIndex? i l.length=some j)(hc:l[j]?=some c)(hz:l.length<=16777216)(h:P (tx [c]) σ)
  (hs:∀ v u,subscripted slice false v u=operate [v,u] (getItem v u):=by left):IX g A F value slice (tx l) (.int i) σ P:=fun s v u S hv hu Q E k=>by
 cases hv;cases hu
 obtain ⟨h1,h2,h3,h4⟩:=ze1 hj
 refine zdd (typeIs_str _ _ _) PySem.F.slot_str_getitem.lookup (hs _ _) (getItem_str (c:=c) ?_ ?_ (k _ _ σ _ h (S.toks _) (.str _ _) .toks))
 ·rw [decide_eq_false (by lia),decide_eq_false (by lia)];rfl
 ·rw [zu,hj];simpa [ofL] using hc
theorem ztY {l:List PV}{i:Int}{j:Nat}{p:PV}(hj:seqIndex? i l.length=some j)(hc:l[j]?=some p)(hz:l.length<=16777216)(h:P p σ)
  (hs:∀ v u,subscripted slice false v u=operate [v,u] (getItem v u):=by left):IX g A F value slice (.lst l) (.int i) σ P:=fun s v u S hv hu Q E k=>by
 cases hu
 cases hv with
 | lst ha ho hl =>
  obtain ⟨v,hv1,hv2⟩:=hl.get hc
  have hsz:=hl.toArray
  refine zdd (T:="list") ⟨_,ho,rfl⟩ slot_list_getitem.lookup (hs _ _) (zdx ⟨_,ho,rfl,_,rfl⟩ (by lia) (by rw [hsz];exact hj) (by simpa using hv1) (k _ _ σ s h S hv2 .refl))
theorem zlm {l:List PV}{i:Int}{j:Nat}{p:PV}(hj:seqIndex? i l.length=some j)(hc:l[j]?=some p)(hz:l.length<=16777216)(h:P p σ)
  (hs:∀ v u,subscripted slice false v u=operate [v,u] (getItem v u):=by left):IX g A F value slice (.tup l) (.int i) σ P:=fun s v u S hv hu Q E k=>by
 cases hu
 cases hv with
 | tup ha ho hl =>
  obtain ⟨v,hv1,hv2⟩:=hl.get hc
  have hsz:=hl.toArray
  obtain ⟨h1,h2,h3,h4⟩:=ze1 hj
  refine zdd (T:="tuple") ⟨_,ho,rfl⟩ slot_tuple_getitem.lookup (hs _ _) (PyProof.Rows.getItem_tuple ⟨_,ho,rfl,_,rfl⟩ (by lia) (by lia) (by rw [hsz];exact hj) (by simpa using hv1) (k _ _ σ s h S hv2 .refl))
theorem zuf {D:Addr}{l:List PV}{i:Int}{j:Nat}{p:PV}(hz':(D,.list l)∈σ.zone)(hj:seqIndex? i l.length=some j)(hc:l[j]?=some p)(hz:l.length<=16777216)(h:P p σ)
  (hs:∀ v u,subscripted slice false v u=operate [v,u] (getItem v u):=by left):IX g A F value slice (.raw (.ref D)) (.int i) σ P:=fun s v u S hv hu Q E k=>by
 cases hu
 cases hv
 obtain ⟨items,n,ho,hl⟩:=S.zs _ hz'
 obtain ⟨v,hv1,hv2⟩:=hl.get hc
 have hsz:=hl.toArray
 exact zdd (T:="list") ⟨_,ho,rfl⟩ slot_list_getitem.lookup (hs _ _) (zdx ⟨_,ho,rfl,_,rfl⟩ (by lia) (by rw [hsz];exact hj) (by simpa using hv1) (k _ _ σ s h S hv2 .refl))
theorem zst {b:List UInt8}{i:Int}(h0:0<=i)(h1:i < b.length)(hz:b.length<=16777216)(h:P (.int (b.getD i.toNat 0).toNat) σ)
  (hs:∀ v u,subscripted slice false v u=operate [v,u] (getItem v u):=by left):IX g A F value slice (.byt b.toArray) (.int i) σ P:=fun s v u S hv hu Q E k=>by
 cases hv;cases hu
 exact zdd (PySem.W.typeIs_bytes _ _ _) PySem.W.FB.slot_bytes_getitem.lookup (hs _ _) (PySem.W.getItem_bytes (by lia) h0 h1 (k _ _ σ _ h (S.toks _) (.int _ _) .toks))
def PT (g:Gl)(A:Around)(F:Fm)(e:Option Expr)(σ:AS)(P:Option Int->AS->Prop):Prop :=
 ∀ s,Sat g F σ s->∀ (Q:Value->Shared->Prop) (E:Value->Shared->Prop),(∀ v lo σ' s',P lo σ'->Sat g F σ' s'->IsPart v lo->Stp [] σ.own s σ'.own s'->Q v s')->wpAny (model g.prog g.w) A (evalPart e F.env) Q E s
theorem zjD {P:Option Int->AS->Prop}(h:P none σ):PT g A F none σ P:=fun s S Q E k=>evalPart_none_step (k _ _ σ s h S .none .refl)
inductive zgM (P:Option Int->AS->Prop)(p:PV)(σ₁:AS):Prop
 | mk (i:Int) (h1:p=.int i) (h2:P (some i) σ₁):zgM P p σ₁
theorem zdk {e:Expr}{P:Option Int->AS->Prop}(h:EV g A F e σ (zgM P)):PT g A F (some e) σ P:=fun s S Q E k =>
 evalPart_some_step (h s S _ E fun v p σ₁ s₁ h₁ S₁ hv st₁=>by
  obtain ⟨i,rfl,hP⟩:=h₁
  cases hv
  exact k _ _ σ₁ s₁ hP S₁ (.int _ _) st₁)
def SLC (g:Gl)(A:Around)(F:Fm)(p:PV)(lo hi:Option Int)(σ:AS)(P:PV->AS->Prop):Prop :=
 ∀ s v,Sat g F σ s->VR s.heap σ.own p v->∃ T id,typeLookup (.type T) "__getitem__" = pure (some (.builtin id))/\s.TypeIs v T/\∀ a vl vu,s.heap.IsSliceOf a vl vu .none->IsPart vl lo->IsPart vu hi ->
  ∀ (Q:Value->Shared->Prop) (E:Value->Shared->Prop),(∀ a b σ' s',P b σ'->Sat g F σ' s'->VR s'.heap σ'.own b a->Stp [] σ.own s σ'.own s'->Q a s')->wpAny (model g.prog g.w) A (getItem v (.ref a)) Q E s
abbrev zgv (g:Gl)(A:Around)(F:Fm)(P:PV->AS->Prop)(p:PV)(lo:Option Int):Option Int->AS->Prop:=fun hi σ₃=>SLC g A F p lo hi σ₃ P
abbrev zgy (g:Gl)(A:Around)(F:Fm)(P:PV->AS->Prop)(upper:Option Expr)(p:PV):Option Int->AS->Prop:=fun lo σ₂=>PT g A F upper σ₂ (zgv g A F P p lo)
abbrev zgb (g:Gl)(A:Around)(F:Fm)(P:PV->AS->Prop)(lower:Option Expr)(upper:Option Expr):PV->AS->Prop:=fun p σ₁=>PT g A F lower σ₁ (zgy g A F P upper p)
theorem zdi {lower upper:Option Expr}{p pos:Pos}(h:EV g A F value σ (zgb g A F P lower upper)) :
  EV g A F (.Subscript value (.Slice lower upper none p) pos) σ P:=by
 intro s S Q E k
 refine Subscript_ (h s S _ E fun v p σ₁ s₁ h₁ S₁ hv st₁=>wpAny_Slice (h₁ s₁ S₁ _ E fun vl lo σ₂ s₂ h₂ S₂ hl st₂=>h₂ s₂ S₂ _ E fun vu hi σ₃ s₃ h₃ S₃ hu st₃=>?_))
 rw [evalPart_none]
 have S₄:=S₃.push { cls:=.type "slice",data:=.fields #[vl,vu,.none] }
 have st₄:Stp [] σ₁.own s₁ σ₃.own _:=st₂.trans (st₃.trans (Stp.push { cls:=.type "slice",data:=.fields #[vl,vu,.none] }))
 obtain ⟨T,id,hlook,hT,hgo⟩:=h₃ _ v S₄ (hv.mono (S₁.kp st₄))
 refine wpAny_pure (zdd (ops:=[.ref s₃.heap.objs.size,v]) hT hlook rfl (hgo _ _ _ (Heap.IsSliceOf.new _ _ _ _) hl hu Q E fun a b σ' s' h' S' hr st'=>k a b σ' s' h' S' hr (st₁.trans (st₄.trans st'))))
theorem zos {l:List Nat}{lo hi:Option Int}(hz:l.length<=16777216)(h:P (tx (sl l lo hi)) σ):SLC g A F (tx l) lo hi σ P:=fun s v S hv=>by
 cases hv with
 | str _ t =>
  refine ⟨"str",_,PySem.F.slot_str_getitem.lookup,typeIs_str _ _ _,fun a vl vu hs hl hu Q E k=>?_⟩
  have fin:∀ t' tk,Q (.str (Txt.slice (ofL l) lo hi) t') { s with toks:=tk }:=fun t' tk=>by
   rw [zlf];exact k _ _ σ _ h (S.toks _) (.str _ _) .toks
  have hle:(Txt.slice (ofL l) lo hi).length<=sizeLine:=Nat.le_trans (Txt.slice_le _ _ _) (by rw [zu];exact hz)
  obtain ⟨o,ho,hc,hd⟩:=hs
  cases hl with
  | none=>cases hu with
   | none=>exact wpAny_getItem_str_slice (l:=none) (u:=none) (st:=none) ⟨o,ho,hc,hd⟩ rfl (post_val_or_str ⟨hle,fin⟩)
   | int j u=>exact wpAny_getItem_str_slice (l:=none) (u:=some (j,u)) (st:=none) ⟨o,ho,hc,hd⟩ rfl (post_val_or_str ⟨hle,fin⟩)
  | int i t'=>cases hu with
   | none=>exact wpAny_getItem_str_slice (l:=some (i,t')) (u:=none) (st:=none) ⟨o,ho,hc,hd⟩ rfl (post_val_or_str ⟨hle,fin⟩)
   | int j u=>exact wpAny_getItem_str_slice (l:=some (i,t')) (u:=some (j,u)) (st:=none) ⟨o,ho,hc,hd⟩ rfl (post_val_or_str ⟨hle,fin⟩)
theorem VRs.sl {h:Heap}{own:List Addr}{ps:List PV}{items:Array Value}(x:VRs h own ps items.toList)(lo hi:Option Int):VRs h own (sl ps lo hi) (slicePick items lo hi none).toList:=by
 rw [slicePick_plain]
 have e:=x.toArray
 unfold Mine.sl slo shi
 rw [<- e]
 exact (x.drop _).take _
theorem zqm {l:List PV}{lo hi:Option Int}(hz:l.length<=16777216)(h:P (.lst (sl l lo hi)) σ):SLC g A F (.lst l) lo hi σ P:=fun s v S hv=>by
 cases hv with
 | lst ha ho hl =>
  have hsz:=hl.toArray
  refine ⟨"list",_,list_getitem_lookup,⟨_,ho,rfl⟩,fun a vl vu hs hl' hu Q E k=>?_⟩
  refine wpAny_getItem_list_slice ⟨_,ho,rfl,_,rfl⟩ hs hl' hu .none (by simp) ?_ (by rw [hsz];exact hz)
  exact k _ _ σ _ h (S.push _) (VR.newLst S (hl.sl lo hi)) (.push _)
theorem zqk {D:Addr}{l:List PV}{lo hi:Option Int}(hz':(D,.list l)∈σ.zone)(hz:l.length<=16777216)(h:P (.lst (sl l lo hi)) σ):SLC g A F (.raw (.ref D)) lo hi σ P:=fun s v S hv=>by
 cases hv
 obtain ⟨items,n,ho,hl⟩:=S.zs _ hz'
 have hsz:=hl.toArray
 refine ⟨"list",_,list_getitem_lookup,⟨_,ho,rfl⟩,fun a vl vu hs hl' hu Q E k=>?_⟩
 refine wpAny_getItem_list_slice ⟨_,ho,rfl,_,rfl⟩ hs hl' hu .none (by simp) ?_ (by rw [hsz];exact hz)
 exact k _ _ σ _ h (S.push _) (VR.newLst S (hl.sl lo hi)) (.push _)
set_option tactic.hygienic true in
theorem zlh {l r:List PV}(hz:l.length+r.length<=16777216)(h:P (.lst (l++r)) σ):OP2 g A F (binaryOp .Add) (.lst l) (.lst r) σ P:=fun s v u S hv hu Q E k=>by
 cases hv with
 | lst ha ho hl=>cases hu with
  | lst ha' ho' hl' =>
   have hsz:=hl.toArray
   have hsz':=hl'.toArray
   refine PySem.P.add_list ho ho' ?_ (by rw [hsz,hsz'];exact hz)
   rename_i a items n a' items' n'
   have hh:VRs s.heap σ.own (l++r) (items++items').toList:=by rw [Array.toList_append];exact hl.append hl'
   exact k _ _ σ _ h (S.push _) (VR.newLst S hh) (.push _)
end
end Mine
end
section
open PySem PySem.Calls PyProof.Rows
namespace Mine
def za1 (g:Gl)(F:Fm)(σ σ':AS):Prop:=∀ s,Sat g F σ s->Sat g F σ' s/\Stp [] σ.own s σ'.own s
theorem J.weak {g:Gl}{A:Around}{F:Fm}{σ σ':AS}{α β:Type}{R:Heap->List Addr->β->α->Prop}{fr:List Addr}{t:Sem α}{P:β->AS->Prop}(w:za1 g F σ σ')(x:J g A F fr R t σ' P):J g A F fr R t σ P :=
 fun s S Q E k=>let ⟨S',st⟩:=w s S;x s S' Q E fun a b σ'' s'' h S'' r st'=>k a b σ'' s'' h S'' r (st.up.trans st')
theorem J.post {g:Gl}{A:Around}{F:Fm}{fr:List Addr}{σ:AS}{α β:Type}{R:Heap->List Addr->β->α->Prop}{t:Sem α}{P P':β->AS->Prop}
  (hR:∀ {h own own' b a},(∀ x∈own',x∈own)->R h own b a->R h own' b a) (x:J g A F fr R t σ P') (w:∀ b σ₁,P' b σ₁->∃ σ₂,za1 g F σ₁ σ₂/\(∀ x∈σ₂.own,x∈σ₁.own)/\P b σ₂):J g A F fr R t σ P :=
 fun s S Q E k=>x s S Q E fun a b σ₁ s₁ h₁ S₁ r st₁=>by
  obtain ⟨σ₂,w₂,hs,hP⟩:=w b σ₁ h₁
  obtain ⟨S₂,st₂⟩:=w₂ s₁ S₁
  exact k a b σ₂ s₁ hP S₂ (hR hs r) (st₁.trans st₂.up)
section
variable {g:Gl}{A:Around}{F:Fm}{σ:AS}{s:Shared}
theorem za1.refl:za1 g F σ σ:=fun s S=>⟨S,.refl⟩
theorem za1.trans {σ₁ σ₂ σ₃:AS}(a:za1 g F σ₁ σ₂)(b:za1 g F σ₂ σ₃):za1 g F σ₁ σ₃:=fun s S =>
 let ⟨S₂,st₂⟩:=a s S;let ⟨S₃,st₃⟩:=b s S₂;⟨S₃,st₂.trans st₃⟩
theorem za1.loc {loc loc':List (Str × PV)}{z:List (Addr × MO)}(h:∀ x p,loc'.lookup x=some p->loc.lookup x=some p):za1 g F ⟨loc,z⟩ ⟨loc',z⟩:=fun s S =>
 ⟨⟨S.old,S.lim,S.os,S.bare,S.nd,S.lo,S.zs,S.fr,S.ns,S.nin,fun x p e=>S.loc x p (h x p e),S.cs,S.cl⟩,fun _ _ e _ _ _=>e,fun _ o e=>⟨o,e⟩,fun _ h=>.inl h,fun _ _ e=>e⟩
theorem zhb {loc loc':List (Str × PV)}{pre post:List (Addr × MO)}{z:Addr × MO}:∀ a∈AS.own ⟨loc',pre++post⟩,a∈AS.own ⟨loc,pre++z::post⟩:=fun a h=>by
 unfold AS.own at h ⊢
 simp only [List.flatMap_append,List.flatMap_cons,List.mem_append] at h ⊢
 rcases h with h | h
 ·exact .inl h
 ·exact .inr (.inr h)
theorem za1.drop {loc:List (Str × PV)}{pre post:List (Addr × MO)}{z:Addr × MO}:za1 g F ⟨loc,pre++z::post⟩ ⟨loc,pre++post⟩:=fun s S=>by
 have hsub:=zhb (loc:=loc) (loc':=loc) (pre:=pre) (post:=post) (z:=z)
 have kp:Kp s.heap s.heap (AS.own ⟨loc,pre++z::post⟩) (AS.own ⟨loc,pre++post⟩):=Kp.shrink hsub
 obtain ⟨n1,n2,n3⟩:=List.nodup_append.mp S.nd
 have nd2:(AS.own ⟨loc,pre++post⟩).Nodup:=by
  unfold AS.own at n2 ⊢
  simp only [List.flatMap_append,List.flatMap_cons] at n2 ⊢
  obtain ⟨a,b,c⟩:=List.nodup_append.mp n2
  obtain ⟨d,e,f⟩:=List.nodup_append.mp b
  exact List.nodup_append.mpr ⟨a,e,fun x hx y hy=>c x hx y (List.mem_append_right _ hy)⟩
 refine ⟨⟨S.old,S.lim,S.os,S.bare,List.nodup_append.mpr ⟨n1,nd2,fun a ha b hb=>n3 a ha b (hsub b hb)⟩,fun a ha=>S.lo a ?_,fun y hy=>(S.zs y ?_).mono kp fun _ _ _ e=>e,S.fr,S.ns,S.nin,fun x p e=>?_,S.cs,S.cl⟩,
  ⟨fun _ _ e _ _ _=>e,fun _ o e=>⟨o,e⟩,fun a ha=>.inl (hsub a ha),fun _ _ e=>e⟩⟩
 ·rcases List.mem_append.mp ha with h | h
  ·exact List.mem_append_left _ h
  ·exact List.mem_append_right _ (hsub a h)
 ·rcases List.mem_append.mp hy with h | h
  ·exact List.mem_append_left _ h
  ·exact List.mem_append_right _ (List.mem_cons_of_mem _ h)
 ·obtain ⟨v,h1,h2⟩:=S.loc x p e
  exact ⟨v,h1,h2.mono kp⟩
theorem za1.freeze {loc:List (Str × PV)}{pre post:List (Addr × MO)}{D:Addr}{ps:List PV}{x:Str}(hx:loc.lookup x=some (.raw (.ref D))):za1 g F ⟨loc,pre++(D,.list ps)::post⟩ ⟨zh3 x (.lst ps) loc,pre++post⟩:=fun s S=>by
 obtain ⟨S',st⟩:=za1.drop s S
 refine ⟨⟨S'.old,S'.lim,S'.os,S'.bare,S'.nd,S'.lo,S'.zs,S'.fr,S'.ns,S'.nin,fun y p e=>?_,S'.cs,S'.cl⟩,st⟩
 rw [show (AS.mk (zh3 x (.lst ps) loc) (pre++post)).loc=zh3 x (.lst ps) loc from rfl,za8] at e
 by_cases hy:(y==x)=true
 ·rw [if_pos hy] at e
  cases e
  have:y=x:=eq_of_beq hy
  subst this
  obtain ⟨v,h1,h2⟩:=S'.loc y _ hx
  revert h1;cases h2;intro h1
  refine ⟨_,h1,?_⟩
  obtain ⟨items,n,h3,h4⟩:=S.zs (D,.list ps) (List.mem_append_right _ List.mem_cons_self)
  have hD:D∉AS.own ⟨loc,pre++post⟩:=fun q=>by
   obtain ⟨_,n2,_⟩:=List.nodup_append.mp S.nd
   unfold AS.own at n2 q
   simp only [List.flatMap_append,List.flatMap_cons,MO.addrs] at n2 q
   obtain ⟨a,b,c⟩:=List.nodup_append.mp n2
   rcases List.mem_append.mp q with q | q
   ·exact c D q D (by simp) rfl
   ·exact (List.nodup_cons.mp b).1 q
  exact .lst hD h3 (h4.mono (Kp.shrink zhb))
 ·rw [if_neg hy] at e
  exact S'.loc y p e
theorem zaS {σ':AS}{sts:List Stmt}{P:Fl->AS->Prop}(w:za1 g F σ σ')(h:EXs g A F sts σ' P):EXs g A F sts σ P:=J.weak w h
variable {P:PV->AS->Prop}
abbrev zm8 (g:Gl)(A:Around)(F:Fm)(P:PV->AS->Prop)(e₂:Expr)(p:PV):Bool->AS->Prop:=fun b σ₂=>if b=true then P p σ₂ else EV g A F e₂ σ₂ P
abbrev znK (g:Gl)(A:Around)(F:Fm)(P:PV->AS->Prop)(e₂:Expr):PV->AS->Prop:=fun p σ₁=>TT g A F p σ₁ (zm8 g A F P e₂ p)
theorem zoH {e₁ e₂:Expr}{pos:Pos}(h:EV g A F e₁ σ (znK g A F P e₂)):EV g A F (.BoolOp .Or [e₁,e₂] pos) σ P:=by
 intro s S Q E k
 refine BoolOp_or (h s S _ E fun v p σ₁ s₁ h₁ S₁ hv st₁=>?_)
 refine h₁ s₁ v S₁ hv _ E fun b σ₂ s₂ h₂ S₂ st₂=>?_
 cases b with
 | true=>exact k v p σ₂ s₂ h₂ S₂ (hv.mono (S₁.kp st₂)) (st₁.trans st₂)
 | false=>exact BoolOp_one (h₂ s₂ S₂ Q E fun a q σ₃ s₃ h₃ S₃ hr st₃=>k a q σ₃ s₃ h₃ S₃ hr (st₁.trans (st₂.trans st₃)))
abbrev zmg (g:Gl)(A:Around)(F:Fm)(P:PV->AS->Prop)(e₂:Expr)(p:PV):Bool->AS->Prop:=fun b σ₂=>if b=true then EV g A F e₂ σ₂ P else P p σ₂
abbrev zl6 (g:Gl)(A:Around)(F:Fm)(P:PV->AS->Prop)(e₂:Expr):PV->AS->Prop:=fun p σ₁=>TT g A F p σ₁ (zmg g A F P e₂ p)
theorem zpK {e₁ e₂:Expr}{pos:Pos}(h:EV g A F e₁ σ (zl6 g A F P e₂)):EV g A F (.BoolOp .And [e₁,e₂] pos) σ P:=by
 intro s S Q E k
 refine BoolOp_and (h s S _ E fun v p σ₁ s₁ h₁ S₁ hv st₁=>?_)
 refine h₁ s₁ v S₁ hv _ E fun b σ₂ s₂ h₂ S₂ st₂=>?_
 cases b with
 | false=>exact k v p σ₂ s₂ h₂ S₂ (hv.mono (S₁.kp st₂)) (st₁.trans st₂)
 | true=>exact BoolOp_one (h₂ s₂ S₂ Q E fun a q σ₃ s₃ h₃ S₃ hr st₃=>k a q σ₃ s₃ h₃ S₃ hr (st₁.trans (st₂.trans st₃)))
def JP (g:Gl)(A:Around)(F:Fm)(out:List Nat)(es:List Expr)(σ:AS)(P:PV->AS->Prop):Prop:=J g A F [] VR (joinParts (ofL out) (evalEach es F.env)) σ P
theorem zfT {v₁ v₂:Expr}{rest:List Expr}{pos:Pos}(h:JP g A F [] (v₁::v₂::rest) σ P):EV g A F (.JoinedStr (v₁::v₂::rest) pos) σ P:=h
theorem zls {out:List Nat}(hs:out.length<=16777216)(h:P (tx out) σ):JP g A F out [] σ P:=fun s S Q E k =>
 joinParts_nil (k _ _ σ _ h (S.toks _) (.str _ _) .toks) (by rw [zu];exact hs)
theorem zcb {e:Expr}{es:List Expr}{out:List Nat}(h:EV g A F e σ fun p σ₁=>∃ y,p=tx y/\out.length+y.length<=16777216/\JP g A F (out++y) es σ₁ P):JP g A F out (e::es) σ P:=by
 intro s S Q E k
 refine joinParts_cons (h s S _ E fun v p σ₁ s₁ h₁ S₁ hv st₁=>?_)
 obtain ⟨y,rfl,hz,h₂⟩:=h₁
 cases hv
 refine ⟨by rw [zcn,zu,List.length_append];exact hz,?_⟩
 rw [zcn]
 exact h₂ s₁ S₁ Q E fun a b σ₂ s₂ h₂ S₂ hr st₂=>k a b σ₂ s₂ h₂ S₂ hr (st₁.trans st₂)
inductive zcF (P:PV->AS->Prop)(p:PV)(σ₁:AS):Prop
 | mk (y:List Nat) (h1:p=tx y) (h2:y.length<=16777216) (h3:P (tx y) σ₁):zcF P p σ₁
theorem zcB {e:Expr}{pos:Pos}(h:EV g A F e σ (zcF P)):EV g A F (.FormattedValue e (-1) none pos) σ P:=by
 intro s S Q E k
 refine FormattedValue_plain (h s S _ E fun v p σ₁ s₁ h₁ S₁ hv st₁=>?_)
 obtain ⟨y,rfl,hz,h₂⟩:=h₁
 cases hv
 exact formatField_str (fun t' tk=>k _ _ σ₁ _ h₂ (S₁.toks _) (.str _ _) (st₁.trans .toks)) (by rw [zu];exact hz)
theorem zmC {a b:Value}(hp:plainIs a b=true)(h:P (.raw (.bool (a==b))) σ):OP2 g A F (compareOp .Is) (.raw a) (.raw b) σ P:=fun s v u S hv hu Q E k=>by
 cases hv;cases hu;exact wpAny_is_plain hp (k _ _ σ s h S (.raw _) .refl)
theorem zfy {a:Addr}(h:P (.raw (.bool true)) σ):OP2 g A F (compareOp .Is) (.raw (.ref a)) (.raw (.ref a)) σ P:=fun s v u S hv hu Q E k=>by
 cases hv;cases hu;exact wpAny_is_ref_self (k _ _ σ s h S (.raw _) .refl)
theorem zcZ {a:Addr}(h:P (.raw (.bool false)) σ):OP2 g A F (compareOp .IsNot) (.raw (.ref a)) (.raw (.ref a)) σ P:=fun s v u S hv hu Q E k=>by
 cases hv;cases hu;exact wpAny_isNot_ref_self (k _ _ σ s h S (.raw _) .refl)
theorem zb7 {l:List Nat}{a:Addr}(h:P (.raw (.bool true)) σ):OP2 g A F (compareOp .IsNot) (tx l) (.raw (.ref a)) σ P:=fun s v u S hv hu Q E k=>by
 cases hv;cases hu;exact wpAny_isNot_other rfl (by simp) (k _ _ σ s h S (.raw _) .refl)
theorem Sat.keeps (S:Sat g F σ s){h':Heap}{tk:Nat}(hk:∀ b o,s.heap.get? b=some o->h'.get? b=some o):Sat g F σ { s with heap:=h',toks:=tk }:=by
 have kp:Kp s.heap h' σ.own σ.own:=fun b o xs n e _ no=>⟨hk b o e,no⟩
 refine ⟨S.old.step_keeps hk,S.lim.keeps hk,S.os,S.bare,S.nd,S.lo,fun z hz=>(S.zs z hz).mono kp fun b _ o e=>hk b o e,fun a ha=>let ⟨o,e,fl⟩:=S.fr a ha;⟨o,hk a o e,fl⟩,?_,S.nin,fun x p e=>?_,S.cs,S.cl.to fun b o e _=>hk b o e⟩
 ·obtain ⟨m,o,es,ep,e,r⟩:=S.ns
  exact ⟨m,o,es,ep,hk _ _ e,r⟩
 ·obtain ⟨v,h1,h2⟩:=S.loc x p e
  exact ⟨v,h1.ext fun b o e _=>hk b o e,h2.mono kp⟩
theorem Stp.keeps {fr own:List Addr}{h':Heap}{tk:Nat}(hk:∀ b o,s.heap.get? b=some o->h'.get? b=some o):Stp fr own s own { s with heap:=h',toks:=tk } :=
 ⟨fun b o e _ _ _=>hk b o e,fun b o e=>⟨o,hk b o e⟩,fun _ h=>.inl h,fun _ _ e=>e⟩
theorem zky {h:Heap}{own:List Addr}:∀ {ns:List Int} {vs:List Value},VRs h own (ns.map .int) vs->IntsAre vs ns
 | [],_,x=>by cases x;exact .nil
 | n::ns,_,x=>by
  cases x with
  | cons hv hs=>cases hv;exact .cons _ _ (zky hs)
theorem zk9 {vs:List Value}{ns:List Int}(h:IntsAre vs ns):∃ xs:List (Int × Tok),vs=xs.map (fun p=>Value.int p.1 p.2)/\ns=xs.map (·.1):=by
 induction h with
 | nil=>exact ⟨[],rfl,rfl⟩
 | cons n t r ih =>
  obtain ⟨xs,h1,h2⟩:=ih
  exact ⟨(n,t)::xs,by rw [h1];rfl,by rw [h2];rfl⟩
set_option tactic.hygienic true in
theorem zks {ns:List Int}(hr:Rm A 0)(h:P (.int ns.sum) σ):CL g A F (.builtin "sum") [.lst (ns.map .int)] σ P:=fun s vs S hvs Q E k=>by
 cases hvs with | cons hv hs'=>cases hs';cases hv with | lst ha ho hl =>
  rename_i a items n
  obtain ⟨xs,h1,h2⟩:=zk9 (zky hl)
  have e:items=intItems xs.toArray:=by
   apply Array.ext'
   rw [h1];simp [intItems]
  subst e
  refine sum_intListG hr.handled ⟨_,ho,rfl,_,rfl⟩ fun h' tk t' hk=>?_
  have e2:preSum (numAt xs.toArray) xs.toArray.size=ns.sum:=by
   rw [preSum_eq,List.take_of_length_le (by simp),h2]
  rw [e2]
  exact k _ _ σ _ h (S.keeps hk) (.int _ _) (.keeps hk)
theorem zfw (ns:List Nat):byteArr (ns.map fun (n:Nat)=>(n:Int))=(ns.map fun n=>n.toUInt8).toArray:=by
 simp [byteArr]
set_option tactic.hygienic true in
theorem zgS {ns:List Nat}(hr:Rm A 0)(hb:∀ n∈ns,n < 256)(hz:ns.length<=16777216)(h:P (.byt (ns.map fun n=>n.toUInt8).toArray) σ):CL g A F (.type "bytes") [.lst (ns.map fun (n:Nat)=>.int n)] σ P:=fun s vs S hvs Q E k=>by
 cases hvs with | cons hv hs'=>cases hs';cases hv with | lst ha ho hl =>
  rename_i a items n
  have hl':VRs s.heap σ.own ((ns.map fun (n:Nat)=>(n:Int)).map .int) items.toList:=by rw [List.map_map];exact hl
  have hi:=zky hl'
  have hlen:=hi.length
  rw [List.length_map] at hlen
  refine call_bytes_ints (vs:=items.toList) ⟨_,ho,rfl,n,rfl⟩ hi (fun i hi'=>?_) (by have:sizeLine=16777216:=rfl;lia) hr.handled fun h' t tk hk=>?_
  ·obtain ⟨m,hm,rfl⟩:=List.mem_map.mp hi'
   have:=hb m hm
   lia
  ·rw [zfw]
   exact k _ _ σ _ h (S.keeps hk) (.byt _ _) (.keeps hk)
theorem zkW {D:Addr}{ns:List Nat}(hr:Rm A 0)(hzn:(D,.list (ns.map fun (n:Nat)=>.int n))∈σ.zone)(hb:∀ n∈ns,n < 256)(hz:ns.length<=16777216)(h:P (.byt (ns.map fun n=>n.toUInt8).toArray) σ):CL g A F (.type "bytes") [.raw (.ref D)] σ P:=fun s vs S hvs Q E k=>by
 cases hvs with
 | cons hv hs' =>
  cases hs';cases hv
  obtain ⟨items,n,ho,hl⟩:=S.zs _ hzn
  have hl':VRs s.heap σ.own ((ns.map fun (n:Nat)=>(n:Int)).map .int) items.toList:=by rw [List.map_map];exact hl
  have hi:=zky hl'
  have hlen:=hi.length
  rw [List.length_map] at hlen
  refine call_bytes_ints (vs:=items.toList) ⟨_,ho,rfl,n,rfl⟩ hi (fun i hi'=>?_) (by have:sizeLine=16777216:=rfl;lia) hr.handled fun h' t tk hk=>?_
  ·obtain ⟨m,hm,rfl⟩:=List.mem_map.mp hi'
   have:=hb m hm
   lia
  ·rw [zfw]
   exact k _ _ σ _ h (S.keeps hk) (.byt _ _) (.keeps hk)
theorem zmK {b:Array UInt8}(h:P (.raw (.type "bytes")) σ):CL g A F (.type "type") [.byt b] σ P:=fun s vs S hvs Q E k=>by
 cases hvs with | cons hv hs'=>cases hs';cases hv;exact call_type_of (PySem.W.typeIs_bytes _ _ _) (by decide) (k _ _ σ s h S (.raw _) .refl)
theorem zin {b:Bool}(h:P (.raw (.type "bool")) σ):CL g A F (.type "type") [.raw (.bool b)] σ P:=fun s vs S hvs Q E k=>by
 cases hvs with | cons hv hs'=>cases hs';cases hv;exact call_type_of (Tx:="bool") rfl (by decide) (k _ _ σ s h S (.raw _) .refl)
theorem zhl {l:List Nat}(h:P (.raw (.bool true)) σ):CL g A F (.builtin "isinstance") [tx l,.raw (.type "str")] σ P:=fun s vs S hvs Q E k=>by
 cases hvs with | cons hv hs'=>cases hs' with | cons hu hs'=>cases hs';cases hv;cases hu;exact PySem.IsiPair.str_str (k _ _ σ s h S (.raw _) .refl)
theorem zl3 {D:Addr}{l:List PV}{name:Str}{id:String}(hz:(D,.list l)∈σ.zone)(slot:Slot "list" name id)(ty:typeOf (.builtin id)=pure (.type "method_descriptor")):MT g A F (.raw (.ref D)) name id σ:=fun s v S hv=>by
 cases hv
 intro pl Q E k
 obtain ⟨items,n,ho,hl⟩:=S.zs _ hz
 exact getMethod_list_of slot ty ⟨_,ho,rfl,_,rfl⟩ ⟨_,ho,rfl⟩ (k _)
theorem zlJ {D:Addr}{ps:List PV}{zone':List (Addr × MO)}{p:PV}(U:ZAt D (.list ps) (.list (ps++[p])) σ.zone zone')(hlen:ps.length<=1000000)(h:P (.raw .none) ⟨σ.loc,zone'⟩):CL g A F (.builtin "list.append") [.raw (.ref D),p] σ P:=fun s vs S hvs Q E k=>by
 cases hvs with | cons hv hs'=>cases hs' with | cons hu hs'=>cases hs';cases hv;exact zeZ S U hu hlen fun s' S' st'=>k _ _ _ s' h S' (.raw _) st'
theorem zlG {D:Addr}{l:List PV}(hz:(D,.list l)∈σ.zone):MT g A F (.raw (.ref D)) "append" "list.append" σ:=zl3 hz slot_list_append type_list_append
theorem zl1 {D:Addr}{l:List PV}{lo hi:Option Int}(hz':(D,.list l)∈σ.zone)(hz:l.length<=16777216)(h:∀ D',P (.raw (.ref D')) ⟨σ.loc,(D',.list (sl l lo hi))::σ.zone⟩):SLC g A F (.raw (.ref D)) lo hi σ P:=fun s v S hv=>by
 cases hv
 obtain ⟨items,n,ho,hl⟩:=S.zs _ hz'
 have hsz:=hl.toArray
 refine ⟨"list",_,list_getitem_lookup,⟨_,ho,rfl⟩,fun a vl vu hs hl' hu Q E k=>?_⟩
 refine wpAny_getItem_list_slice ⟨_,ho,rfl,_,rfl⟩ hs hl' hu .none (by simp) ?_ (by rw [hsz];exact hz)
 obtain ⟨S₂,st₂⟩:=S.newList (hl.sl lo hi)
 exact k _ _ _ _ (h _) S₂ (.raw _) st₂
end
end Mine
end
section
open PySem PySem.Calls PyProof.Rows
namespace Mine
section
variable {g:Gl}{A:Around}{F:Fm}{σ:AS}{s:Shared}
theorem za1.dropAll {loc:List (Str × PV)}:∀ {pre post:List (Addr × MO)},za1 g F ⟨loc,pre++post⟩ ⟨loc,post⟩
 | [],_=>za1.refl
 | z::pre,post=>za1.trans (za1.drop (pre:=[]) (post:=pre++post) (z:=z)) (za1.dropAll (pre:=pre))
theorem zcP {loc loc':List (Str × PV)}{pre post:List (Addr × MO)}:∀ a∈AS.own ⟨loc',post⟩,a∈AS.own ⟨loc,pre++post⟩:=fun a h=>by
 unfold AS.own at h ⊢
 simp only [List.flatMap_append,List.mem_append] at h ⊢
 exact .inr h
theorem FlR.mono {h h':Heap}{own own':List Addr}(k:Kp h h' own own'){fl:Fl}{f:Flow}(x:FlR h own fl f):FlR h' own' fl f:=by
 cases x with
 | next=>exact .next
 | brk=>exact .brk
 | cont=>exact .cont
 | ret hv=>exact .ret (hv.mono k)
def zcp (z:List (Addr × MO))(P:PV->Prop)(fl:Fl)(σ':AS):Prop:=∃ pre,σ'.zone=pre++z/\P (match fl with | .ret p=>p | _=>.raw .none)
theorem za2 {f:Addr}{fd:FuncData}{body:List Stmt}{xs:List Str}{ps:List PV}{P:PV->AS->Prop}{n:Nat}(hr:Rm A (n+1))(hf:zdB g f fd body)(hx:xs.Nodup)(hlen:xs.length=ps.length)
  (hb:∀ vs:List Value,vs.length=ps.length->bindArgs fd ⟨vs,[]⟩=pure (xs.zip vs))
  (hcellB:(fd.scope.names.all fun x=>x.2 != .cell)=true) (hlocB:(xs.all fun x=>fd.scope.names.lookup x==some .local)=true)
  (h:∀ L,EXs g (A.deeper (callEnv fd L f)) (zap fd L f) body ⟨xs.zip ps,σ.zone⟩ (zcp σ.zone fun p=>P p σ)) :
  CL g A F (.ref f) ps σ P:=by
 refine zsE hr hf hx hlen hb hcellB hlocB fun L=>?_
 refine J.post (fun hs r=>r.mono (Kp.shrink hs)) (h L) ?_
 rintro fl ⟨loc,z⟩ ⟨pre,hz,hP⟩
 dsimp only at hz
 subst hz
 exact ⟨⟨loc,σ.zone⟩,za1.dropAll,zcP,hP⟩
theorem zcD {f:Addr}{fd:FuncData}{body:List Stmt}{xs:List Str}{ps:List PV}{P:PV->AS->Prop}{n:Nat}(hr:Rm A (n+1))(hf:zdB g f fd body)(hx:xs.Nodup)(hlen:xs.length=ps.length)
  (hb:∀ vs:List Value,vs.length=ps.length->bindArgs fd ⟨vs,[]⟩=pure (xs.zip vs))
  (hcellB:(fd.scope.names.all fun x=>x.2 != .cell)=true) (hlocB:(xs.all fun x=>fd.scope.names.lookup x==some .local)=true)
  (h:∀ L,EXs g (A.deeper (callEnv fd L f)) (zap fd L f) body ⟨xs.zip ps,σ.zone⟩ fun fl σ'=>∃ pre z,σ'.zone=pre++z/\P (match fl with | .ret p=>p | _=>.raw .none) ⟨σ.loc,z⟩) :
  CLC g A F (.ref f) ps σ P:=by
 refine zn9 hr hf hx hlen hb hcellB hlocB fun L=>?_
 refine J.post (fun hs r=>r.mono (Kp.shrink hs)) (h L) ?_
 rintro fl ⟨loc,z⟩ ⟨pre,z',hz,hP⟩
 dsimp only at hz
 subst hz
 exact ⟨⟨loc,z'⟩,za1.dropAll,zcP,hP⟩
theorem zcp.mk {z:List (Addr × MO)}{P:PV->Prop}{p:PV}{σ':AS}(pre:List (Addr × MO))(hz:σ'.zone=pre++z)(h:P p):zcp z P (.ret p) σ':=⟨pre,hz,h⟩
end
end Mine
end
section
open PySem PySem.Calls PyProof.Rows
namespace Mine
inductive Sub (loc:List (Str × PV)):List (Str × PV)->Prop
 | nil:Sub loc []
 | cons {x:Str} {p:PV} {r:List (Str × PV)} (h:loc.lookup x=some p) (hr:Sub loc r):Sub loc ((x,p)::r)
set_option tactic.hygienic true in
theorem Sub.get {loc loc':List (Str × PV)}(h:Sub loc loc'):∀ x p,loc'.lookup x=some p->loc.lookup x=some p:=by
 induction h with
 | nil=>intro x p e;simp -iota at e
 | cons h hr ih =>
  intro x p e
  rw [List.lookup_cons] at e
  split at e
  ·rename_i q
   have:=eq_of_beq q
   subst this
   cases e;exact h
  ·exact ih x p e
theorem Sub.weak {g:Gl}{F:Fm}{loc loc':List (Str × PV)}{z:List (Addr × MO)}(h:Sub loc loc'):za1 g F ⟨loc,z⟩ ⟨loc',z⟩:=za1.loc h.get
theorem Sub.weak' {g:Gl}{F:Fm}{σ:AS}{loc':List (Str × PV)}{z:List (Addr × MO)}(h:Sub σ.loc loc')(hz:σ.zone=z):za1 g F σ ⟨loc',z⟩:=by
 obtain ⟨loc,z'⟩:=σ
 dsimp only at hz h
 subst hz
 exact h.weak
section
variable {g:Gl}{A:Around}{F:Fm}
theorem zdN {t:Expr}{p:PV}{σ σ':AS}{P:AS->Prop}(w:za1 g F σ σ')(hs:∀ x∈σ'.own,x∈σ.own)(h:AS1 g A F t p σ' P):AS1 g A F t p σ P:=fun s v S hv Q E k =>
 let ⟨S',st⟩:=w s S;h s v S' (hv.mono (Kp.shrink hs)) Q E fun σ'' s' hP S'' st'=>k σ'' s' hP S'' (st.up.trans st')
theorem zrR {t:Expr}{body orelse:List Stmt}{P:Fl->AS->Prop}(Inv:List PV->AS->Prop)
  (hnil:∀ σ,Inv [] σ->EXs g A F orelse σ P)
  (hcons:∀ x xs σ,Inv (x::xs) σ->AS1 g A F t x σ fun σ₁=>EXs g A F body σ₁ fun fl σ₂=>match fl with
   | .next | .cont=>∃ σ₃,za1 g F σ₂ σ₃/\(∀ x∈σ₃.own,x∈σ₂.own)/\Inv xs σ₃
   | .brk=>P .next σ₂
   | .ret p=>P (.ret p) σ₂):∀ xs σ,Inv xs σ->zmN g A F t body orelse xs σ P:=by
 have key:∀ xs σ σ',za1 g F σ σ'->(∀ x∈σ'.own,x∈σ.own)->Inv xs σ'->zmN g A F t body orelse xs σ P:=by
  intro xs
  induction xs with
  | nil=>intro σ σ' w hs h;exact J.weak w (hnil σ' h)
  | cons x xs ih =>
   intro σ σ' w hs h
   refine zdN w hs ?_
   intro s v S hv Q E k
   refine hcons x xs σ' h s v S hv Q E fun σ₁ s₁ h₁ S₁ st₁=>k σ₁ s₁ ?_ S₁ st₁
   refine J.mono h₁ ?_
   intro fl σ₂ h₂
   cases fl with
   | next=>obtain ⟨σ₃,w₃,hs₃,h₃⟩:=h₂;exact ih σ₂ σ₃ w₃ hs₃ h₃
   | cont=>obtain ⟨σ₃,w₃,hs₃,h₃⟩:=h₂;exact ih σ₂ σ₃ w₃ hs₃ h₃
   | brk=>exact h₂
   | ret p=>exact h₂
 exact fun xs σ h=>key xs σ σ za1.refl (fun _ h=>h) h
inductive zrM (g:Gl)(F:Fm)(I:List PV->AS->Prop)(xs:List PV)(σ₂:AS):Prop
 | mk (σ₃:AS) (w:za1 g F σ₂ σ₃) (hs:∀ x∈σ₃.own,x∈σ₂.own) (h:I xs σ₃):zrM g F I xs σ₂
abbrev zt7 (g:Gl)(F:Fm)(Q:Fl->AS->Prop)(I:List PV->AS->Prop)(xs:List PV):Fl->AS->Prop:=fun fl σ₂=>match fl with
 | .next | .cont=>zrM g F I xs σ₂
 | .brk=>Q .next σ₂
 | .ret p=>Q (.ret p) σ₂
abbrev ztn (g:Gl)(A:Around)(F:Fm)(body:List Stmt)(P:Fl->AS->Prop):AS->Prop:=fun σ₁=>EXs g A F body σ₁ P
theorem zaQ {t:Expr}{body orelse:List Stmt}{P:Fl->AS->Prop}(Inv:List PV->AS->Prop)
  (hnil:∀ σ,Inv [] σ->EXs g A F orelse σ P)
  (hcons:∀ (I:List PV->AS->Prop) (Q:Fl->AS->Prop),(∀ xs σ,Inv xs σ->I xs σ)->(∀ fl σ,P fl σ->Q fl σ)->∀ x xs σ,Inv (x::xs) σ->AS1 g A F t x σ (ztn g A F body (zt7 g F Q I xs))):∀ xs σ,Inv xs σ->zmN g A F t body orelse xs σ P:=by
 have key:∀ xs σ σ',za1 g F σ σ'->(∀ x∈σ'.own,x∈σ.own)->Inv xs σ'->zmN g A F t body orelse xs σ P:=by
  intro xs
  induction xs with
  | nil=>intro σ σ' w hs h;exact J.weak w (hnil σ' h)
  | cons x xs ih =>
   intro σ σ' w hs h
   refine zdN w hs ?_
   intro s v S hv Q E k
   refine hcons Inv P (fun _ _ h=>h) (fun _ _ h=>h) x xs σ' h s v S hv Q E fun σ₁ s₁ h₁ S₁ st₁=>k σ₁ s₁ ?_ S₁ st₁
   refine J.mono h₁ ?_
   intro fl σ₂ h₂
   cases fl with
   | next=>obtain ⟨σ₃,w₃,hs₃,h₃⟩:=h₂;exact ih σ₂ σ₃ w₃ hs₃ h₃
   | cont=>obtain ⟨σ₃,w₃,hs₃,h₃⟩:=h₂;exact ih σ₂ σ₃ w₃ hs₃ h₃
   | brk=>exact h₂
   | ret p=>exact h₂
 exact fun xs σ h=>key xs σ σ za1.refl (fun _ h=>h) h
inductive ztd (g:Gl)(F:Fm)(I:Nat->AS->Prop)(n:Nat)(σ₂:AS):Prop
 | mk (m:Nat) (σ₃:AS) (hm:m < n) (w:za1 g F σ₂ σ₃) (h:I m σ₃):ztd g F I n σ₂
abbrev kWh (g:Gl)(F:Fm)(Q:Fl->AS->Prop)(I:Nat->AS->Prop)(n:Nat):Fl->AS->Prop:=fun fl σ₂=>match fl with
 | .next | .cont=>ztd g F I n σ₂
 | .brk=>Q .next σ₂
 | .ret p=>Q (.ret p) σ₂
theorem zax {test:Expr}{body orelse:List Stmt}{pos:Pos}{P:Fl->AS->Prop}{σ:AS}(Inv:Nat->AS->Prop)(n:Nat)(h0:Inv n σ)
  (hstep:∀ (I:Nat->AS->Prop) (Q:Fl->AS->Prop),(∀ n σ,Inv n σ->I n σ)->(∀ fl σ,P fl σ->Q fl σ)->∀ n σ,Inv n σ->TR g A F test σ fun b σ₁=>if b=true then EXs g A F body σ₁ (kWh g F Q I n) else EXs g A F orelse σ₁ P):EX g A F (.While test body orelse pos) σ P:=by
 have key:∀ N n σ σ',n < N->za1 g F σ σ'->Inv n σ'->WhP g A F test body orelse N σ P:=by
  intro N
  induction N with
  | zero=>intro n σ σ' h;lia
  | succ N ih =>
   intro n σ σ' hn w h
   show TR g A F test σ _
   refine J.weak w ?_
   refine J.mono (hstep Inv P (fun _ _ h=>h) (fun _ _ h=>h) n σ' h) ?_
   intro b σ₁ h₁
   cases b with
   | false=>exact h₁
   | true =>
    refine J.mono h₁ ?_
    intro fl σ₂ h₂
    cases fl with
    | next=>obtain ⟨m,σ₃,hm,w₃,h₃⟩:=h₂;exact ih m σ₂ σ₃ (by lia) w₃ h₃
    | cont=>obtain ⟨m,σ₃,hm,w₃,h₃⟩:=h₂;exact ih m σ₂ σ₃ (by lia) w₃ h₃
    | brk=>exact h₂
    | ret p=>exact h₂
 exact zhF (n+1) (key (n+1) n σ σ (Nat.lt_succ_self _) za1.refl h0)
theorem zbP {D:Addr}{elt target:Expr}{ifs:List Expr}{P:List PV->List (Addr × MO)->Prop}{loc loc':List (Str × PV)}{z:List (Addr × MO)}(h:Sub loc loc') :
  ∀ {xs acc},zet g A F D elt target ifs xs acc ⟨loc',z⟩ P->zet g A F D elt target ifs xs acc ⟨loc,z⟩ P
 | [],_,h'=>h'
 | x::xs,_,h'=>zdN h.weak (fun _ h=>h) h'
theorem zcA {D:Addr}{elt target c:Expr}{P:List PV->List (Addr × MO)->Prop}{cap:List (Str × PV)}{z:List (Addr × MO)}(f:PV->PV)(t:PV->Bool) :
  ∀ {xs:List PV} {acc:List PV},(∀ x∈xs,∀ acc,AS1 g A F target x ⟨cap,(D,.list acc)::z⟩ fun σ₁=>TR g A F c σ₁ fun b σ₂=>b=t x/\if b=true then EV g A F elt σ₂ fun p σ₃=>p=f x/\σ₃.zone=(D,.list acc)::z/\Sub σ₃.loc cap else σ₂.zone=(D,.list acc)::z/\Sub σ₂.loc cap) ->
   acc.length+xs.length<=1000000->P (acc++(xs.filter t).map f) z->zet g A F D elt target [c] xs acc ⟨cap,(D,.list acc)::z⟩ P
 | [],acc,h,hl,hP=>⟨z,rfl,by simpa using hP⟩
 | x::xs,acc,h,hl,hP=>by
  intro s v S hv Q E k
  refine h x List.mem_cons_self acc s v S hv Q E fun σ₁ s₁ h₁ S₁ st₁=>k σ₁ s₁ ?_ S₁ st₁
  refine zlE ?_
  refine J.mono h₁ ?_
  rintro b σ₂ ⟨rfl,h₂⟩
  cases hb:t x with
  | true =>
   rw [hb] at h₂
   rw [if_pos rfl] at h₂ ⊢
   refine J.mono h₂ ?_
   rintro p σ₃ ⟨rfl,hz,hsub⟩
   refine ⟨z,hz,by simp at hl;lia,?_⟩
   refine zbP hsub ?_
   refine zcA f t (fun x hx acc=>h x (List.mem_cons_of_mem _ hx) acc) (by simp at hl ⊢;lia) ?_
   rw [List.filter_cons_of_pos hb] at hP
   simpa using hP
  | false =>
   rw [hb] at h₂
   rw [if_neg (by simp)] at h₂ ⊢
   obtain ⟨hz,hsub⟩:=h₂
   obtain ⟨loc₂,z₂⟩:=σ₂
   dsimp only at hz hsub
   subst hz
   refine zbP hsub ?_
   refine zcA f t (fun x hx acc=>h x (List.mem_cons_of_mem _ hx) acc) (by simp at hl ⊢;lia) ?_
   rw [List.filter_cons_of_neg (by simp [hb])] at hP
   exact hP
end
end Mine
end
section
open PySem PySem.Calls PyProof.Rows
namespace Mine
theorem zit {kindOf:Str->Option NameKind}{x:Str}:∀ {binds:List (Str × Value)} {m:Str->Option Value},x∉binds.map (·.1)->bindL kindOf binds m x=m x
 | [],m,_=>rfl
 | (n,v)::r,m,h=>by
  simp only [List.map_cons,List.mem_cons,not_or] at h
  unfold bindL
  rw [zit h.2]
  split
  ·exact if_neg h.1
  ·rfl
set_option tactic.hygienic true in
theorem zh9 {kindOf:Str->Option NameKind}{x:Str}{v:Value}(hk:kindOf x=some .local):∀ {binds:List (Str × Value)} {m:Str->Option Value},(binds.map (·.1)).Nodup->binds.lookup x=some v->bindL kindOf binds m x=some v
 | [],m,_,h=>by simp -iota at h
 | (n,w)::r,m,hn,h=>by
  simp -iota only [List.map_cons,List.nodup_cons] at hn
  rw [List.lookup_cons] at h
  unfold bindL
  split at h
  ·rename_i q
   have:=eq_of_beq q
   subst this
   cases h
   rw [zit hn.1,if_pos hk,if_pos rfl]
  ·exact zh9 hk hn.2 h
theorem ziF {kindOf:Str->Option NameKind}{x:Str}:∀ {binds:List (Str × Value)} {m:Str->Option Value},x∉binds.map (·.1)->bindC kindOf binds m x=m x
 | [],m,_=>rfl
 | (n,v)::r,m,h=>by
  simp only [List.map_cons,List.mem_cons,not_or] at h
  unfold bindC
  rw [ziF h.2]
  split
  ·rfl
  ·exact if_neg h.1
set_option tactic.hygienic true in
theorem ziO {kindOf:Str->Option NameKind}{x:Str}{v:Value}(hk:kindOf x≠some .local):∀ {binds:List (Str × Value)} {m:Str->Option Value},(binds.map (·.1)).Nodup->binds.lookup x=some v->bindC kindOf binds m x=some v
 | [],m,_,h=>by simp at h
 | (n,w)::r,m,hn,h=>by
  simp only [List.map_cons,List.nodup_cons] at hn
  rw [List.lookup_cons] at h
  unfold bindC
  split at h
  ·rename_i q
   have:=eq_of_beq q
   subst this
   cases h
   rw [ziF hn.1,if_neg hk,if_pos rfl]
  ·exact ziO hk hn.2 h
set_option tactic.hygienic true in
theorem zaW {x:Str}:∀ (names:List (Str × NameKind)) (n:Nat) (acc:List (Str × Addr)),((x,NameKind.cell)∈names\/(acc.lookup x).isSome=true)->((cellsFrom n names acc).lookup x).isSome=true
 | [],n,acc,h=>by
  rcases h with h | h
  ·simp at h
  ·exact h
 | (nm,k)::r,n,acc,h=>by
  unfold cellsFrom
  split
  ·refine zaW r (n+1) _ ?_
   rw [List.lookup_cons]
   by_cases q:(x==nm)=true
   ·right;rw [q];rfl
   ·have q':(x==nm)=false:=by simpa using q
    rw [q']
    rcases h with h | h
    ·rcases List.mem_cons.mp h with e | h
     ·cases e;simp at q
     ·exact .inl h
    ·exact .inr h
  ·rename_i hk
   refine zaW r n acc ?_
   rcases h with h | h
   ·rcases List.mem_cons.mp h with e | h
    ·cases e;exact absurd rfl hk
    ·exact .inl h
   ·exact .inr h
theorem zdu {α:Type}:∀ {l:List (Str × α)} {n:Str} {c:α},(l.map (·.1)).Nodup->(n,c)∈l->l.lookup n=some c
 | (m,d)::r,n,c,hn,h=>by
  simp only [List.map_cons,List.nodup_cons] at hn
  rw [List.lookup_cons]
  rcases List.mem_cons.mp h with e | h'
  ·cases e;rw [beq_self_eq_true]
  ·have:(n==m)=false:=by
    rw [beq_eq_false_iff_ne]
    rintro rfl
    exact hn.1 (List.mem_map.mpr ⟨(n,c),h',rfl⟩)
   rw [this]
   exact zdu hn.2 h'
theorem zb2:∀ (names:List (Str × NameKind)) (n lo:Nat) (acc:List (Str × Addr)),lo<=n->(∀ z∈acc,lo<=z.2)->∀ z∈cellsFrom n names acc,lo<=z.2
 | [],_,_,_,_,h=>h
 | (nm,k)::r,n,lo,acc,hn,h=>by
  unfold cellsFrom
  split
  ·exact zb2 r (n+1) lo _ (by lia) fun z hz=>by
    rcases List.mem_cons.mp hz with rfl | hz
    ·exact hn
    ·exact h z hz
  ·exact zb2 r n lo acc hn h
theorem zb6:∀ (names:List (Str × NameKind)) (n:Nat) (acc:List (Str × Addr)),(∀ z∈acc,z.2 < n)->(acc.Pairwise fun x y=>x.2≠y.2)->(cellsFrom n names acc).Pairwise fun x y=>x.2≠y.2
 | [],_,_,_,h=>h
 | (nm,k)::r,n,acc,hn,h=>by
  unfold cellsFrom
  split
  ·refine zb6 r (n+1) _ (fun z hz=>?_) (List.pairwise_cons.mpr ⟨fun z hz q=>?_,h⟩)
   ·rcases List.mem_cons.mp hz with rfl | hz
    ·exact Nat.lt_succ_self _
    ·exact Nat.lt_succ_of_lt (hn z hz)
   ·have:=hn z hz
    exact Nat.lt_irrefl _ (q ▸ this)
  ·exact zb6 r n acc hn h
set_option tactic.hygienic true in
theorem zdS:∀ (names:List (Str × NameKind)) (n:Nat) (acc:List (Str × Addr)),(cellsFrom n names acc).map (·.1)=((names.filter fun x=>x.2==.cell).map (·.1)).reverse++acc.map (·.1)
 | [],_,_=>by simp -iota [cellsFrom]
 | (nm,k)::r,n,acc=>by
  unfold cellsFrom
  split
  ·rename_i hk
   rw [zdS r,List.filter_cons_of_pos (p:=fun x:Str × NameKind=>x.2==.cell) hk]
   simp -iota
  ·rename_i hk
   rw [zdS r,List.filter_cons_of_neg (p:=fun x:Str × NameKind=>x.2==.cell) hk]
noncomputable def zaU (fd:FuncData)(L:Addr):List (Str × Addr):=cellsFrom (L+1) fd.scope.names []
noncomputable def zbr (fd:FuncData)(L f:Addr):Fm:=⟨callEnvC fd L f,L::(zaU fd L).map (·.2)⟩
section
variable {g:Gl}{A:Around}{F:Fm}{σ:AS}{s:Shared}
theorem zoi {f:Addr}{fd:FuncData}{body:List Stmt}{xs:List Str}{ps:List PV}{P:PV->AS->Prop}{n:Nat}(hr:Rm A (n+1))(hf:zdB g f fd body)(hclo:fd.closure=[])(hx:xs.Nodup)(hlen:xs.length=ps.length)
  (hb:∀ vs:List Value,vs.length=ps.length->bindArgs fd ⟨vs,[]⟩=pure (xs.zip vs))
  (hlocB:(xs.all fun x=>fd.scope.names.lookup x==some .local || fd.scope.names.lookup x==some .cell)=true)
  (hckB:decide (((fd.scope.names.filter fun x=>x.2==.cell).map (·.1)).Nodup)=true)
  (h:∀ L,EXs g (A.deeper (callEnvC fd L f)) (zbr fd L f) body ⟨xs.zip ps,σ.zone⟩ (zcp σ.zone fun p=>P p σ)) :
  CL g A F (.ref f) ps σ P:=by
 intro s vs S hvs Q E k
 have hck:∀ L,((zaU fd L).map (·.1)).Nodup:=fun L=>by
  unfold zaU
  rw [zdS]
  have h:=of_decide_eq_true hckB
  rw [List.map_nil,List.append_nil]
  exact List.pairwise_reverse.mpr (h.imp fun a=>Ne.symm a)
 have hloc:∀ x∈xs,fd.scope.names.lookup x=some .local\/fd.scope.names.lookup x=some .cell:=fun x hx=>by simpa using List.all_eq_true.mp hlocB x hx
 obtain ⟨o,e,hd⟩:=hf.now S
 have hlv:=hvs.length
 have hkeys:((xs.zip vs).map (·.1))=xs:=by rw [List.map_fst_zip];lia
 refine wpAny_call (codeAny_call_cells (hr.le (Nat.zero_le _)).depth e hd S.lim (hf.codeRec S) hf.bd (hb vs hlv) hclo (fun x hx'=>?_) (fun s₁ x=>?_) hf.co hf.gen hf.kind)
 ·rcases hloc _ (List.of_mem_zip hx').1 with q | q
  ·exact .inl q
  ·exact .inr ⟨q,zaW _ _ _ (.inl (mem_of_lookup q))⟩
 ·obtain ⟨h₀,tk,rfl,hk⟩:=x.done
  have hn:=x.toInCall.ns
  have hLo:s.heap.objs.size∉σ.own:=fun h=>Nat.lt_irrefl _ (S.own_lt h)
  have habove:∀ c∈(zaU fd s.heap.objs.size).map (·.2),s.heap.objs.size < c:=fun c hc=>by
   obtain ⟨⟨nm,c'⟩,hm,rfl⟩:=List.mem_map.mp hc
   exact x.above nm c' hm
  have hcell:∀ c∈(zaU fd s.heap.objs.size).map (·.2),∃ v,h₀.IsCell c v:=fun c hc=>by
   obtain ⟨⟨nm,c'⟩,hm,rfl⟩:=List.mem_map.mp hc
   exact ⟨_,x.cell nm c' (zdu (hck _) hm)⟩
  have hdist:((zaU fd s.heap.objs.size).map (·.2)).Nodup:=by
   have:=x.apart
   exact List.pairwise_map.mpr this
  have kp:Kp s.heap h₀ σ.own σ.own:=fun b o xs n e _ no=>⟨hk b o e,no⟩
  have S₀:Sat g (zbr fd s.heap.objs.size f) ⟨xs.zip ps,σ.zone⟩ { s with heap:=h₀,toks:=tk }:=by
   refine ⟨S.old.step_keeps hk,S.lim.keeps hk,S.os,S.bare,?_,fun a ha=>?_,fun z hz=>(S.zs z hz).mono kp fun b _ o e=>hk b o e,fun a ha=>?_,⟨_,hn⟩,List.mem_cons_self,fun y p ey=>?_,S.cs,fun y c hy hc hfr hl=>?_⟩
   ·show ((s.heap.objs.size::(zaU fd s.heap.objs.size).map (·.2))++σ.own).Nodup
    refine List.nodup_append.mpr ⟨List.nodup_cons.mpr ⟨fun q=>Nat.lt_irrefl _ (habove _ q),hdist⟩,(List.nodup_append.mp S.nd).2.1,fun a ha b hb q=>?_⟩
    subst q
    have hlt:=S.own_lt hb
    rcases List.mem_cons.mp ha with rfl | ha
    ·exact Nat.lt_irrefl _ hlt
    ·exact Nat.lt_irrefl _ (Nat.lt_trans hlt (habove _ ha))
   ·rcases List.mem_append.mp ha with h | h
    ·rcases List.mem_cons.mp h with rfl | h
     ·exact S.base_le
     ·exact Nat.le_of_lt (Nat.lt_of_le_of_lt S.base_le (habove _ h))
    ·exact S.lo a (List.mem_append_right _ h)
   ·rcases List.mem_cons.mp ha with rfl | h
    ·obtain ⟨o,es,ep,e,d,_⟩:=hn
     exact ⟨o,e,.inl ⟨es,ep,d⟩⟩
    ·obtain ⟨v,o,e,d⟩:=hcell a h
     exact ⟨o,e,.inr ⟨v,d⟩⟩
   ·obtain ⟨v,h1,h2⟩:=zbO hvs ey
    have hm:y∈xs:=by
     have:=mem_of_lookup h1
     exact (List.of_mem_zip this).1
    refine ⟨v,?_,h2.mono kp⟩
    by_cases hl:fd.scope.names.lookup y=some .local
    ·exact .inl ⟨hl,_,hn,zh9 hl (by rw [hkeys];exact hx) h1⟩
    ·have hc:fd.scope.names.lookup y=some .cell:=(hloc y hm).resolve_left hl
     obtain ⟨c,hc'⟩:=Option.isSome_iff_exists.mp (zaW fd.scope.names (s.heap.objs.size+1) [] (.inl (mem_of_lookup hc)))
     obtain ⟨o,e,d⟩:=x.cell y c hc'
     refine .inr ⟨.inl hc,c,o,hc',e,?_⟩
     rw [d,ziO hl (by rw [hkeys];exact hx) h1]
   ·rcases List.mem_cons.mp hfr with rfl | h
    ·exact absurd rfl hl
    ·obtain ⟨v,o,e,d⟩:=hcell c h
     exact ⟨o,e,v,d⟩
  refine h s.heap.objs.size _ S₀ _ _ fun fv fl σ' s' hP S' hr' st'=>?_
  obtain ⟨pre,hz,hP⟩:=hP
  have hne:∀ b o,s.heap.get? b=some o->b∉(zbr fd s.heap.objs.size f).fr:=fun b o e q=>by
   have hlt:=Heap.lt_size e
   rcases List.mem_cons.mp q with rfl | q
   ·exact Nat.lt_irrefl _ hlt
   ·exact Nat.lt_irrefl _ (Nat.lt_trans hlt (habove _ q))
  have stt:Stp [] σ.own s σ'.own s':=by
   refine ⟨fun b o e nf no hc=>st'.keep b o (hk b o e) (hne b o e) no hc,fun b o e=>st'.there b o (hk b o e),fun a ha=>?_,fun i x e=>st'.gens i x e⟩
   rcases st'.fresh a ha with q | q
   ·exact .inl q
   ·refine .inr ?_
    cases q':s.heap.get? a with
    | none=>rfl
    | some o=>rw [show _=_ from hk a o q'] at q;cases q
  have Sb:=S.back S' stt fun a ha o e=>by
   obtain ⟨o',e',fl⟩:=S.fr a ha
   rw [e] at e';cases e'
   exact st'.keep a o (hk a o e) (hne a o e) (fun q=>(List.nodup_append.mp S.nd).2.2 a ha a q rfl) fl.hard
  obtain ⟨loc',z'⟩:=σ'
  dsimp only at hz
  subst hz
  obtain ⟨Sc,stc⟩:=za1.dropAll (g:=g) (F:=F) (loc:=σ.loc) (pre:=pre) (post:=σ.zone) s' Sb
  have hr2:FlR s'.heap σ.own fl fv:=hr'.mono (Kp.shrink (zcP (loc:=loc') (loc':=σ.loc) (pre:=pre)))
  have stq:Stp [] σ.own s σ.own s':=stt.trans stc
  cases hr2 with
  | ret hv=>exact k _ _ σ s' hP Sc hv stq
  | next=>exact k _ _ σ s' hP Sc (.raw _) stq
  | brk=>exact k _ _ σ s' hP Sc (.raw _) stq
  | cont=>exact k _ _ σ s' hP Sc (.raw _) stq
abbrev zd1 (P:Fl->AS->Prop)(x:Str):PV->AS->Prop:=fun p σ₁=>P .next (σ₁.set x p)
theorem zmM {x:Str}{pos' pos:Pos}{value:Expr}{P:Fl->AS->Prop}{fd:FuncData}{L f:Addr}(hk:z0 (zbr fd L f))
  (h:EV g A (zbr fd L f) value σ (zd1 P x)) (hx:(zbr fd L f).env.kindOf x=some .cell:=by left)
  (hs:swapsWith value (some (.Name x pos')) pos.line (zbr fd L f).env=pure false:=by left):EX g A (zbr fd L f) (.Assign [.Name x pos'] value pos) σ P:=by
 intro s S Q E k
 have hab:∀ c∈(zaU fd L).map (·.2),L < c:=fun c hc=>by
  obtain ⟨z,hz,rfl⟩:=List.mem_map.mp hc
  exact zb2 fd.scope.names (L+1) (L+1) [] (Nat.le_refl _) (by simp) z hz
 have hap:(zaU fd L).Pairwise fun x y=>x.2≠y.2:=zb6 fd.scope.names (L+1) [] (by simp) .nil
 refine wpAny_Assign_Name (h s S _ E fun v p σ₁ s₁ h₁ S₁ hv st₁=>?_) hs
 obtain ⟨c,hc'⟩:=Option.isSome_iff_exists.mp (zaW fd.scope.names (L+1) [] (.inl (mem_of_lookup hx)))
 have hmem:(x,c)∈zaU fd L:=mem_of_lookup hc'
 have hcm:c∈(zaU fd L).map (·.2):=List.mem_map.mpr ⟨_,hmem,rfl⟩
 obtain ⟨o,e,v₀,d⟩:=S₁.cl x c hx hc' (List.mem_cons_of_mem _ hcm) (Nat.ne_of_gt (hab c hcm))
 exact zgH hk hx hc' (List.mem_cons_of_mem _ hcm) (fun y c' hy hne q=>hne (by subst q;exact name_of_addr hap (mem_of_lookup hy) hmem)) S₁ ⟨o,e,d⟩ hv fun s₂ S₂ st₂=>k _ _ _ s₂ h₁ S₂ .next (st₁.up.trans st₂)
end
end Mine
end
section
open PySem PySem.Calls PyProof.Rows
namespace Mine
section
variable {g:Gl}{A:Around}{F:Fm}{σ:AS}{s:Shared}
theorem zjj {x:Str}{v:Value}{p:PV}{Q:Unit->Shared->Prop}{E:Value->Shared->Prop}{fd:FuncData}{L f:Addr}(hk:z0 (zbr fd L f))(hx:(zbr fd L f).env.kindOf x=some .cell)(S₁:Sat g (zbr fd L f) σ s)(hv:VR s.heap σ.own p v)
  (h:∀ s',Sat g (zbr fd L f) (σ.set x p) s'->Stp (zbr fd L f).fr σ.own s (σ.set x p).own s'->Q () s'):wpAny (model g.prog g.w) A (storeName (zbr fd L f).env x v) Q E s:=by
 have hab:∀ c∈(zaU fd L).map (·.2),L < c:=fun c hc=>by
  obtain ⟨z,hz,rfl⟩:=List.mem_map.mp hc
  exact zb2 fd.scope.names (L+1) (L+1) [] (Nat.le_refl _) (by simp) z hz
 have hap:(zaU fd L).Pairwise fun x y=>x.2≠y.2:=zb6 fd.scope.names (L+1) [] (by simp) .nil
 obtain ⟨c,hc'⟩:=Option.isSome_iff_exists.mp (zaW fd.scope.names (L+1) [] (.inl (mem_of_lookup hx)))
 have hmem:(x,c)∈zaU fd L:=mem_of_lookup hc'
 have hcm:c∈(zaU fd L).map (·.2):=List.mem_map.mpr ⟨_,hmem,rfl⟩
 obtain ⟨o,e,v₀,d⟩:=S₁.cl x c hx hc' (List.mem_cons_of_mem _ hcm) (Nat.ne_of_gt (hab c hcm))
 exact zgH hk hx hc' (List.mem_cons_of_mem _ hcm) (fun y c' hy hne q=>hne (by subst q;exact name_of_addr hap (mem_of_lookup hy) hmem)) S₁ ⟨o,e,d⟩ hv h
theorem zqu {x:Str}{pos:Pos}{ts:List (Value->Sem Unit)}{p:PV}{ps:List PV}{P:AS->Prop}{fd:FuncData}{L f:Addr}(hk:z0 (zbr fd L f))(h:zlo g A (zbr fd L f) ts ps (σ.set x p) P)(hx:(zbr fd L f).env.kindOf x=some .cell:=by left) :
  zlo g A (zbr fd L f) ((assign (.Name x pos) (zbr fd L f).env)::ts) (p::ps) σ P:=fun s vs S hvs Q E k=>by
 cases hvs with
 | cons hv hs =>
  show wpAny _ A (do holding _ (assign (.Name x pos) (zbr fd L f).env _);assignInOrder ts _) Q E s
  refine wpAny_bind (wpAny_holding (assign_Name (zjj hk hx S hv fun s₁ S₁ st₁=>?_)))
  exact h s₁ _ S₁ (hs.mono (S.kp st₁)) Q E fun σ' s' h' S' st'=>k σ' s' h' S' (st₁.trans st')
set_option tactic.hygienic true in
theorem zom (l:List Nat)(n:Int):Txt.mul (ofL l) n=ofL (List.replicate n.toNat l).flatten:=by
 have key:∀ (k:Nat) (acc:Array Nat),((List.replicate k l.toArray).foldl (·++·) acc).toList=acc.toList++(List.replicate k l).flatten:=by
  intro k
  induction k with
  | zero=>intro acc;simp
  | succ k ih=>intro acc;rw [List.replicate_succ,List.foldl_cons,ih,List.replicate_succ];simp
 unfold Txt.mul
 split
 ·have:n.toNat=0:=by lia
  rw [this];rfl
 ·split
  ·rename_i h0 h1
   simp only [Bool.or_eq_true,beq_iff_eq] at h1
   rcases h1 with h1 | h1
   ·subst h1;simp
   ·rw [zu] at h1
    have:l=[]:=List.eq_nil_of_length_eq_zero h1
    subst this;simp
  ·apply Str.ext'
   show (List.replicate n.toNat l.toArray).foldl (·++·) #[]=(List.replicate n.toNat l).flatten.toArray
   apply Array.ext'
   rw [key];simp
variable {P:PV->AS->Prop}
theorem zqH {l:List Nat}{n:Int}(hl:l.length<=1000)(h0:-1000<=n)(h1:n<=1000)(h:P (tx (List.replicate n.toNat l).flatten) σ):OP2 g A F (binaryOp .Mult) (tx l) (.int n) σ P:=by
 refine zpV ?_ (by rw [zom];exact h)
 refine ⟨?_,fun hn _=>?_,fun hn _=>?_⟩
 ·rw [decide_eq_false (by lia),decide_eq_false (by lia)];rfl
 ·rw [zu]
  have h2:(2 ^ 63 - 1:Int)/n ≥ 1000:=by
   rw [ge_iff_le,Int.le_ediv_iff_mul_le (by lia)]
   lia
  lia
 ·rw [zu]
  unfold Builtin.Str.tooLong
  have h2:l.length*n.toNat<=1000*1000:=Nat.mul_le_mul hl (by lia)
  have:sizeLine=16777216:=rfl
  rw [decide_eq_false (by lia)]
set_option tactic.hygienic true in
theorem zlT {x:Int}{k:Nat}(h:x.natAbs < 2 ^ k):Builtin.Int.intBits x<=k:=by
 unfold Builtin.Int.intBits
 split
 ·exact Nat.zero_le _
 ·rename_i h0
  have h1:x.natAbs≠0:=by simpa using h0
  exact (Nat.log2_lt h1).mpr h
theorem za6 {a b:Int}(h:b.natAbs < 2 ^ 64):IntMulOk a b:=IntMulOk.of_right (zlT h)
theorem zoe {a n:Int}{k:Nat}(h:a.natAbs < 2 ^ k)(h0:0<=n)(hk:(k:Int)*n<=134217728):(Builtin.Int.intBits a:Int)*n<=2 ^ 27:=by
 have h1:=zlT h
 have h2:(Builtin.Int.intBits a:Int)*n<=(k:Int)*n:=Int.mul_le_mul_of_nonneg_right (by lia) h0
 have h3:(2:Int) ^ 27=134217728:=by decide
 lia
end
end Mine
end
section
open PySem PySem.Calls PyProof.Rows
namespace Mine
inductive VPs (h:Heap)(own:List Addr):List (PV × PV)->List (Value × Value)->Prop
 | nil:VPs h own [] []
 | cons {p q:PV} {v u:Value} {ps:List (PV × PV)} {vs:List (Value × Value)} (hv:VR h own p v) (hu:VR h own q u) (hs:VPs h own ps vs):VPs h own ((p,q)::ps) ((v,u)::vs)
theorem VPs.mono {h h':Heap}{own own':List Addr}(k:Kp h h' own own'){ps:List (PV × PV)}{vs:List (Value × Value)}(x:VPs h own ps vs):VPs h' own' ps vs:=by
 induction x with
 | nil=>exact .nil
 | cons hv hu _ ih=>exact .cons (hv.mono k) (hu.mono k) ih
section
variable {g:Gl}{A:Around}{F:Fm}{σ:AS}{s:Shared}
def EVP (g:Gl)(A:Around)(F:Fm)(pos:Pos)(keys:List (Option Expr))(values:List Expr)(σ:AS)(P:List (PV × PV)->AS->Prop):Prop:=J g A F [] VPs (evalPairs (pairTrees keys values F.env pos)) σ P
theorem zoP {pos:Pos}{P:List (PV × PV)->AS->Prop}(h:P [] σ):EVP g A F pos [] [] σ P:=fun s S Q E k=>evalPairs_nil (k _ _ σ s h S .nil .refl)
abbrev zi7 (P:List (PV × PV)->AS->Prop)(p:PV)(q:PV):List (PV × PV)->AS->Prop:=fun r σ₃=>P ((p,q)::r) σ₃
abbrev zi5 (g:Gl)(A:Around)(F:Fm)(P:List (PV × PV)->AS->Prop)(pos:Pos)(ks:List (Option Expr))(vs:List Expr)(p:PV):PV->AS->Prop:=fun q σ₂=>EVP g A F pos ks vs σ₂ (zi7 P p q)
abbrev zjO (g:Gl)(A:Around)(F:Fm)(P:List (PV × PV)->AS->Prop)(pos:Pos)(v:Expr)(ks:List (Option Expr))(vs:List Expr):PV->AS->Prop:=fun p σ₁=>EV g A F v σ₁ (zi5 g A F P pos ks vs p)
theorem zj5 {pos:Pos}{k v:Expr}{ks:List (Option Expr)}{vs:List Expr}{P:List (PV × PV)->AS->Prop}(h:EV g A F k σ (zjO g A F P pos v ks vs)) :
  EVP g A F pos (some k::ks) (v::vs) σ P:=by
 intro s S Q E kk
 refine pairTrees_cons_walk (h s S _ E fun a p σ₁ s₁ h₁ S₁ hv st₁=>?_)
 refine h₁ s₁ S₁ _ E fun b q σ₂ s₂ h₂ S₂ hu st₂=>?_
 refine h₂ s₂ S₂ _ E fun r l σ₃ s₃ h₃ S₃ hr st₃=>?_
 exact kk _ _ σ₃ s₃ h₃ S₃ (.cons (hv.mono (S₁.kp (st₂.trans st₃))) (hu.mono (S₂.kp st₃)) hr) (st₁.trans (st₂.trans st₃))
theorem Sat.dictAt {C:Addr}{h':Heap}(S:Sat g F σ s)(hl:g.h₁.objs.size<=C)(hf:C∉F.fr)(ho:C∉σ.own)(hs:Heap.SameBut C s.heap h')(hd:∀ o',s.heap.get? C=some o'->∃ es n,o'.data=.dict es n) :
  Sat g F σ { s with heap:=h' }:=by
 have kp:Kp s.heap h' σ.own σ.own:=fun b o' xs n e' d' no=>⟨hs.extBut b o' (fun q=>by subst q;obtain ⟨_,_,q2⟩:=hd _ e';rw [d'] at q2;cases q2) e',no⟩
 have ko:∀ b o',s.heap.get? b=some o'->b≠C->h'.get? b=some o':=fun b o' e' nb=>hs.extBut b o' nb e'
 refine ⟨zcU.ext S.old hl hs.extBut,NoLimit.ext S.lim (Nat.ne_of_lt (Nat.lt_of_lt_of_le S.cs hl)) hs.extBut,S.os,S.bare,S.nd,S.lo,fun z hz=>(S.zs z hz).mono kp fun b hb o' e'=>ko b o' e' (fun q=>ho (q ▸ List.mem_flatMap.mpr ⟨z,hz,hb⟩)),fun a ha=>?_,?_,S.nin,fun x p ex=>?_,S.cs,S.cl.to fun b o' e' hc=>ko b o' e' (fun q=>by subst q;obtain ⟨_,_,q2⟩:=hd _ e';obtain ⟨v,hv⟩:=hc;rw [hv] at q2;cases q2)⟩
 ·obtain ⟨o',e',fl⟩:=S.fr a ha
  exact ⟨o',ko a o' e' (fun q=>hf (q ▸ ha)),fl⟩
 ·obtain ⟨mm,o',es',ep',e',r⟩:=S.ns
  exact ⟨mm,o',es',ep',ko _ _ e' (fun q=>hf (q ▸ S.nin)),r⟩
 ·obtain ⟨v,h1,h2⟩:=S.loc x p ex
  refine ⟨v,?_,h2.mono kp⟩
  rcases h1 with ⟨a,mm,⟨o',es',ep',e',r⟩,c⟩ | ⟨a,c,o',h3,h4,h5⟩
  ·exact .inl ⟨a,mm,⟨o',es',ep',ko _ _ e' (fun q=>hf (q ▸ S.nin)),r⟩,c⟩
  ·exact .inr ⟨a,c,o',h3,ko _ _ h4 (fun q=>by subst q;obtain ⟨_,_,q2⟩:=hd _ h4;rw [h5] at q2;cases q2),h5⟩
theorem zoR {h:Heap}{own:List Addr}:∀ {l:List (Int × PV)} {vs:List (Value × Value)},VPs h own (l.map fun x=>(PV.int x.1,x.2)) vs ->
  allIntKeys vs=true/\(intKeyPairs vs).map (·.1)=l.map (fun x=> x.1)/\∀ i,(∃ p v,l.lookup i=some p/\valueAt (intKeyPairs vs) ( i)=some v/\VR h own p v)\/(l.lookup i=none/\valueAt (intKeyPairs vs) ( i)=none)
 | [],_,x=>by cases x;exact ⟨rfl,rfl,fun i=>.inr ⟨rfl,rfl⟩⟩
 | (i,q)::l,_,x=>by
  cases x with
  | cons hv hu hs =>
   cases hv
   obtain ⟨h1,h2,h3⟩:=zoR hs
   refine ⟨h1,by simp only [intKeyPairs,List.map_cons,h2],fun j=>?_⟩
   rw [List.lookup_cons]
   by_cases hj:j=i
   ·subst hj
    rw [beq_self_eq_true]
    exact .inl ⟨q,_,rfl,by simp [valueAt,intKeyPairs],hu⟩
   ·have e1:(j==i)=false:=by rw [beq_eq_false_iff_ne];exact hj
    rw [e1]
    have e2:∀ (w:Value) (r:List (Int × Value)),valueAt (( i,w)::r) ( j)=valueAt r ( j):=fun w r=>by
     have:¬ ( i =  j):=fun q=>hj ( q).symm
     simp [valueAt,this]
    rcases h3 j with ⟨p,v,a,b,c⟩ | ⟨a,b⟩
    ·exact .inl ⟨p,v,a,by rw [intKeyPairs,e2];exact b,c⟩
    ·exact .inr ⟨a,by rw [intKeyPairs,e2];exact b⟩
abbrev zfa (P:PV->AS->Prop)(l:List (Int × PV))(i:Int):PV->AS->Prop:=fun d σ₃=>P ((l.lookup i).getD d) σ₃
inductive zco (g:Gl)(A:Around)(F:Fm)(P:PV->AS->Prop)(dflt:Expr)(l:List (Int × PV))(p:PV)(σ₂:AS):Prop
 | mk (i:Int) (h1:p=PV.int i) (h2:EV g A F dflt σ₂ (zfa P l i)):zco g A F P dflt l p σ₂
inductive zcL (g:Gl)(A:Around)(F:Fm)(P:PV->AS->Prop)(key:Expr)(dflt:Expr)(kvs:List (PV × PV))(σ₁:AS):Prop
 | mk (l:List (Int × PV)) (h1:kvs=l.map (fun x=>(PV.int x.1,x.2))) (h2:(l.map (fun x=>x.1)).Nodup) (h3:EV g A F key σ₁ (zco g A F P dflt l)):zcL g A F P key dflt kvs σ₁
theorem zix {keys:List (Option Expr)}{values:List Expr}{dpos apos pos:Pos}{key dflt:Expr}{pl:Sem Bool}{P:PV->AS->Prop}
  (h:EVP g A F dpos keys values σ (zcL g A F P key dflt))
  (hall:keys.all (·.isSome)=true:=by left) (hl:keys.length=values.length:=by left) (h0:keys≠[]:=by exact List.cons_ne_nil _ _) (hlen:keys.length<=15:=by exact Nat.le_of_ble_eq_true (by left))
  (he:eval (.Call (.Attribute (.Dict keys values dpos) "get" apos) [key,dflt] [] pos) F.env=(do
   let ov <- eval (.Dict keys values dpos) F.env
   standAt apos.atName
   let (f,first) <- holding [ov] (getMethod ov "get" pl)
   callWith pos f first (backTo pos (starEach [key,dflt] F.env)) []):=by left)
  (hns:(backTo pos (starEach [key,dflt] F.env)).any (·.1)=false:=by left)
  (hst:starEach [key,dflt] F.env=(false,eval key F.env)::starEach [dflt] F.env:=by left)
  (hst2:starEach [dflt] F.env=(false,eval dflt F.env)::starEach [] F.env:=by left):EV g A F (.Call (.Attribute (.Dict keys values dpos) "get" apos) [key,dflt] [] pos) σ P:=by
 intro s S Q E k
 refine MethodCall_ (pl:=pl) (wpAny_Dict_walk (knd:=intKind g.prog g.w) hall hl h0 hlen ?_) he
 have S₀:=S.push { cls:=.type "dict",data:=.dict #[] }
 have hdn:(s.heap.push { cls:=.type "dict",data:=.dict #[] }).DictOf (intKind g.prog g.w) s.heap.objs.size []:=.new s.heap
 have haf:s.heap.objs.size∉F.fr:=fun q=>Nat.lt_irrefl _ (S.fr_lt q)
 have hao:s.heap.objs.size∉σ.own:=fun q=>Nat.lt_irrefl _ (S.own_lt q)
 have hal:g.h₁.objs.size<=s.heap.objs.size:=S.base_le
 have hsys:(s.heap.objs.size==sysModules)=false:=by
  have:=modules_low S.lim
  rw [beq_eq_false_iff_ne]
  exact Nat.ne_of_gt this
 have hpush:Stp [] σ.own s σ.own { s with heap:=s.heap.push { cls:=.type "dict",data:=.dict #[] } }:=.push _
 have hnone:s.heap.get? s.heap.objs.size=none:=zae _
 refine h _ S₀ _ E fun vs kvs σ₁ s₁ h₁ S₁ hvs st₁=>?_
 obtain ⟨l,rfl,hnd,h₂⟩:=h₁
 obtain ⟨hk1,hk2,_⟩:=zoR hvs
 have hkeep:∀ {o},(s.heap.push { cls:=.type "dict",data:=.dict #[] }).get? s.heap.objs.size=some o->s₁.heap.get? s.heap.objs.size=some o:=fun {o} e=>st₁.keep _ o e List.not_mem_nil hao (by
  have:o={ cls:=.type "dict",data:=.dict #[] }:=Option.some.inj (e.symm.trans (Heap.get?_push_size _ rfl))
  subst this;exact .inl (by simp))
 have hd₁:s₁.heap.DictOf (intKind g.prog g.w) s.heap.objs.size []:=hdn.at fun o e=>hkeep e
 have ha₁:s₁.heap.get? s.heap.objs.size=some { cls:=.type "dict",data:=.dict #[] }:=hkeep (Heap.get?_push_size _ rfl)
 have hao₁:s.heap.objs.size∉σ₁.own:=fun q=>by
  rcases st₁.fresh _ q with q | q
  ·exact hao q
  ·rw [Heap.get?_push_size _ rfl] at q;cases q
 refine display_done_int hk1 (by rw [hk2];exact hnd) hd₁ fun h' hd' hs'=>?_
 have S₂:=(S₁.dictAt hal haf hao₁ hs' fun o' e=>by rw [ha₁] at e;cases e;exact ⟨_,_,rfl⟩).toks (s₁.toks+vs.length)
 have st₂:Stp [] σ.own s σ₁.own { s₁ with heap:=h',toks:=s₁.toks+vs.length }:=((hpush.trans st₁).off hnone hs'.extBut).trans .toks
 have kp₂:Kp s₁.heap h' σ₁.own σ₁.own:=fun b o' xs n e' d' no=>⟨hs'.extBut b o' (fun q=>by subst q;rw [ha₁] at e';cases e';cases d') e',no⟩
 refine getMethod_builtin hd'.typeIs PySem.F.plainAttrs_dict PySem.F.slot_dict_get PySem.F.type_dict_get hd'.mapOf.noDict ?_
 have hargs:EVs g A F [key,dflt] σ₁ fun ps σ₃=>∃ i d,ps=[PV.int i,d]/\P ((l.lookup i).getD d) σ₃ :=
  zc (J.mono h₂ fun p σ₂ ⟨i,hp,h₃⟩=>zc (J.mono h₃ fun d σ₃ h₄=>zf ⟨i,d,by rw [hp],h₄⟩) hst2) hst
 refine callWith_builtin hns (zaa hargs hns S₂ fun as ps σ₃ s₃ h₃ S₃ has st₃=>?_)
 obtain ⟨i,d,rfl,hP⟩:=h₃
 obtain ⟨o',e',hc'⟩:∃ o,h'.get? s.heap.objs.size=some o/\o.cls≠.none:=by
  obtain ⟨o,ho,hc⟩:=hd'.typeIs (s:={ s₁ with heap:=h' })
  exact ⟨o,ho,by rw [hc];simp⟩
 have hd₃:s₃.heap.DictOf (intKind g.prog g.w) s.heap.objs.size (intKeyPairs vs):=hd'.at fun o e=>st₃.keep _ o e List.not_mem_nil hao₁ (by
  have:o'=o:=Option.some.inj (e'.symm.trans e)
  exact .inl (this ▸ hc'))
 cases has with
 | cons hkv hrest=>cases hrest with
  | cons hdv hnil =>
   cases hnil
   cases hkv
   refine call_meetsIn PySem.F.slot_dict_get hd₃.typeIs PySem.F.entry_dict_get (PySem.F.args_dict_get_3 _ _ _) (meets_dict_get_default (intKind g.prog g.w) _ (k:= i) (by simp [PySem.intKind,Value.isInt]) hsys _) ⟨_,hd₃.mapOf,?_⟩
   have hvs₃:=(hvs.mono kp₂).mono (S₂.kp st₃)
   obtain ⟨_,_,hlook⟩:=zoR hvs₃
   have fin:∀ v,VR s₃.heap σ₃.own ((l.lookup i).getD d) v->Q v { s₃ with toks:=s₃.toks+1 }:=fun v hv=>k v _ σ₃ _ hP (S₃.toks _) hv ((st₂.trans st₃).trans .toks)
   rcases hlook i with ⟨p,v,a,b,c⟩ | ⟨a,b⟩
   ·rw [b];rw [a] at fin;exact fin _ c
   ·rw [b];rw [a] at fin;exact fin _ hdv
end
end Mine
end
section
open PySem PySem.Calls PyProof.Rows
namespace Mine
section
variable {g:Gl}{A:Around}{F:Fm}{σ:AS}{s:Shared}{P:PV->AS->Prop}
theorem zss {a b:Bool}(h:P (.raw (.bool (!(a==b)))) σ):OP2 g A F (compareOp .NotEq) (.raw (.bool a)) (.raw (.bool b)) σ P:=fun s v u S hv hu Q E k=>by
 cases hv;cases hu;exact PySem.SeqAt.RcNeAt.bool_bool a b _ _ _ _ (k _ _ σ s h S (.raw _) .refl)
theorem zr8 {a b:Int}(h:P (.int (a - b)) σ):OP2 g A F (inplaceOp .Sub) (.int a) (.int b) σ P:=fun s v u S hv hu Q E k=>by
 cases hv;cases hu;exact PySem.P.isub_int (k _ _ σ _ h (S.toks _) (.int _ _) .toks)
abbrev zgd (P:PV->AS->Prop)(l:List Nat):PV->AS->Prop:=fun q σ₂=>q=.int (-1)/\P (tx l.reverse) σ₂
inductive zc0 (g:Gl)(A:Around)(F:Fm)(P:PV->AS->Prop)(st:Expr)(p:PV)(σ₁:AS):Prop
 | mk (l:List Nat) (h1:p=tx l) (h2:l.length<=16777216) (h3:EV g A F st σ₁ (zgd P l)):zc0 g A F P st p σ₁
theorem zjq {value st:Expr}{p pos:Pos}(h:EV g A F value σ (zc0 g A F P st)) :
  EV g A F (.Subscript value (.Slice none none (some st) p) pos) σ P:=by
 intro s S Q E k
 refine Subscript_ (h s S _ E fun v p σ₁ s₁ h₁ S₁ hv st₁=>?_)
 obtain ⟨l,rfl,hz,h₂⟩:=h₁
 refine wpAny_Slice (evalPart_none_step (evalPart_none_step (evalPart_some_step (h₂ s₁ S₁ _ E fun u q σ₂ s₂ h₃ S₂ hu st₂=>?_))))
 obtain ⟨rfl,hP⟩:=h₃
 cases hu with
 | int _ tu =>
  cases hv with
  | str _ t =>
   have S₃:=S₂.push { cls:=.type "slice",data:=.fields #[.none,.none,.int (-1) tu] }
   have st₃:=st₂.trans (Stp.push (fr:=[]) (own:=σ₂.own) { cls:=.type "slice",data:=.fields #[.none,.none,.int (-1) tu] })
   refine zdd (ops:=[.str (ofL l) t,.ref s₂.heap.objs.size]) (typeIs_str _ _ _) PySem.F.slot_str_getitem.lookup rfl ?_
   refine wpAny_getItem_str_slice (l:=none) (u:=none) (st:=some (-1,tu)) ⟨_,Heap.get?_push_size _ rfl,rfl,rfl⟩ rfl ?_
   have e:sliceMade (ofL l) t none none (some (-1,tu))=.str (ofL l.reverse):=by
    unfold sliceMade
    rw [if_neg (by simp)]
    have:(slicePicked (ofL l) none none (some (-1,tu))).filterMap ((ofL l).cps[·]?)=l.reverse:=by
     show (PySem.sliceRange (sliceBounds none none (some (-1)) (ofL l).length).1 (sliceBounds none none (some (-1)) (ofL l).length).2.1 (sliceBounds none none (some (-1)) (ofL l).length).2.2).filterMap ((ofL l).cps[·]?)=l.reverse
     rw [zu,PySem.W.krv_bounds]
     show (PySem.sliceRange ((l.length:Int) - 1) (-1) (-1)).filterMap ((ofL l).cps[·]?)=l.reverse
     rw [PySem.W.krv_sliceRange,PySem.W.krv_range,List.filterMap_reverse]
     have:=PySem.W.krv_all l.toArray
     simp only [List.size_toArray] at this
     rw [show (ofL l).cps=l.toArray from rfl,this]
    rw [this];rfl
   rw [e]
   refine ⟨?_,?_⟩
   all_goals first
    | (have:sizeLine=16777216:=rfl;rw [zu,List.length_reverse];lia)
    | exact k _ _ σ₂ _ hP (S₃.toks _) (.str _ _) (st₁.trans (st₃.trans .toks))
theorem zca {α:Type}{D:Addr}{elt target c:Expr}{P:List PV->List (Addr × MO)->Prop}{cap:List (Str × PV)}{z:List (Addr × MO)}(inj f:α->PV)(t:α->Bool) :
  ∀ {l:List α} {acc:List PV},(∀ a∈l,∀ acc,AS1 g A F target (inj a) ⟨cap,(D,.list acc)::z⟩ fun σ₁=>TR g A F c σ₁ fun b σ₂=>b=t a/\if b=true then EV g A F elt σ₂ fun p σ₃=>p=f a/\σ₃.zone=(D,.list acc)::z/\Sub σ₃.loc cap else σ₂.zone=(D,.list acc)::z/\Sub σ₂.loc cap) ->
   acc.length+l.length<=1000000->P (acc++(l.filter t).map f) z->zet g A F D elt target [c] (l.map inj) acc ⟨cap,(D,.list acc)::z⟩ P
 | [],acc,h,hl,hP=>⟨z,rfl,by simpa using hP⟩
 | x::xs,acc,h,hl,hP=>by
  intro s v S hv Q E k
  refine h x List.mem_cons_self acc s v S hv Q E fun σ₁ s₁ h₁ S₁ st₁=>k σ₁ s₁ ?_ S₁ st₁
  refine zlE ?_
  refine J.mono h₁ ?_
  rintro b σ₂ ⟨rfl,h₂⟩
  cases hb:t x with
  | true =>
   rw [hb] at h₂
   rw [if_pos rfl] at h₂ ⊢
   refine J.mono h₂ ?_
   rintro p σ₃ ⟨rfl,hz,hsub⟩
   refine ⟨z,hz,by simp at hl;lia,?_⟩
   refine zbP hsub ?_
   refine zca inj f t (fun x hx acc=>h x (List.mem_cons_of_mem _ hx) acc) (by simp at hl ⊢;lia) ?_
   rw [List.filter_cons_of_pos hb] at hP
   simpa using hP
  | false =>
   rw [hb] at h₂
   rw [if_neg (by simp)] at h₂ ⊢
   obtain ⟨hz,hsub⟩:=h₂
   obtain ⟨loc₂,z₂⟩:=σ₂
   dsimp only at hz hsub
   subst hz
   refine zbP hsub ?_
   refine zca inj f t (fun x hx acc=>h x (List.mem_cons_of_mem _ hx) acc) (by simp at hl ⊢;lia) ?_
   rw [List.filter_cons_of_neg (by simp [hb])] at hP
   exact hP
theorem zqR {n:Nat}:zc8 1 1 (Builtin.Range.rangeSize 1 (n:Int) 1).toNat=(List.range (n - 1)).map fun (i:Nat)=>.int ((i+1:Nat):Int):=by
 have e:(Builtin.Range.rangeSize 1 (n:Int) 1).toNat=n - 1:=by
  unfold Builtin.Range.rangeSize
  rw [if_pos (by decide)]
  split
  ·rw [Int.ediv_one];lia
  ·lia
 rw [e]
 unfold zc8
 refine List.map_congr_left fun i _=>?_
 congr 1;lia
theorem zie {n:Nat}(h1:n<=1000000):Builtin.Range.small 1 (n:Int) 1=true:=small_one (by decide) (by decide) (by lia) (by lia)
end
end Mine
end
section
open PySem PySem.Calls PyProof.Rows
namespace Mine
inductive Brw (σ:AS):List (Str × PV)->Prop
 | nil:Brw σ []
 | same {x:Str} {p:PV} {r:List (Str × PV)} (h:σ.loc.lookup x=some p) (hr:Brw σ r):Brw σ ((x,p)::r)
 | lend {x:Str} {D:Addr} {ps:List PV} {r:List (Str × PV)} (h:σ.loc.lookup x=some (.raw (.ref D))) (hz:(D,.list ps)∈σ.zone) (hr:Brw σ r):Brw σ ((x,.lst ps)::r)
section
variable {g:Gl}{A:Around}{F:Fm}{σ:AS}{s:Shared}{P:PV->AS->Prop}
set_option tactic.hygienic true in
theorem Brw.sat {loc':List (Str × PV)}(b:Brw σ loc')(S:Sat g F σ s):Sat g F ⟨loc',[]⟩ s:=by
 have kp:Kp s.heap s.heap σ.own (AS.own ⟨loc',[]⟩):=Kp.shrink fun a h=>by simp -iota [AS.own] at h
 have hloc:∀ x p,loc'.lookup x=some p->∃ v,zjM s.heap F.env x v/\VR s.heap (AS.own ⟨loc',[]⟩) p v:=by
  have key:∀ loc'',Brw σ loc''->∀ x p,loc''.lookup x=some p->∃ v,zjM s.heap F.env x v/\VR s.heap [] p v:=by
   intro loc'' b
   induction b with
   | nil=>intro x p e;simp -iota at e
   | same h hr ih =>
    intro x p e
    rw [List.lookup_cons] at e
    split at e
    ·rename_i q
     have:=eq_of_beq q
     subst this
     cases e
     obtain ⟨v,h1,h2⟩:=S.loc _ _ h
     exact ⟨v,h1,h2.mono kp⟩
    ·exact ih x p e
   | lend h hz hr ih =>
    intro x p e
    rw [List.lookup_cons] at e
    split at e
    ·rename_i q
     have:=eq_of_beq q
     subst this
     cases e
     obtain ⟨v,h1,h2⟩:=S.loc _ _ h
     revert h1;cases h2;intro h1
     obtain ⟨items,n,h3,h4⟩:=S.zs _ hz
     exact ⟨_,h1,.lst List.not_mem_nil h3 (h4.mono kp)⟩
    ·exact ih x p e
  exact key loc' b
 refine ⟨S.old,S.lim,S.os,S.bare,?_,fun a ha=>?_,fun z hz=>(by simp -iota at hz),S.fr,S.ns,S.nin,hloc,S.cs,S.cl⟩
 ·have:AS.own ⟨loc',[]⟩=[]:=rfl
  rw [this,List.append_nil];exact (List.nodup_append.mp S.nd).1
 ·have:AS.own ⟨loc',[]⟩=[]:=rfl
  rw [this,List.append_nil] at ha;exact S.lo a (List.mem_append_left _ ha)
theorem Sat.unlend {loc':List (Str × PV)}{F':Fm}{σ':AS}{s':Shared}(S:Sat g F σ s)(S':Sat g F' σ' s')(st:Stp [] [] s σ'.own s'):Sat g F σ s'/\Stp [] σ.own s σ.own s':=by
 have kk:∀ b o,s.heap.get? b=some o->hard o->s'.heap.get? b=some o:=fun b o e h=>st.keep b o e List.not_mem_nil List.not_mem_nil h
 have kp:Kp s.heap s'.heap σ.own σ.own:=fun b o xs n e d no=>⟨kk b o e (.inr fun vs q=>by rw [d] at q;cases q),no⟩
 refine ⟨⟨S'.old,S'.lim,S'.os,S'.bare,S.nd,S.lo,fun z hz=>(S.zs z hz).mono kp fun b hb o e=>?_,fun a ha=>?_,?_,S.nin,fun x p e=>?_,S.cs,S.cl.to fun b o e hc=>kk b o e (zr.hard (.inr hc))⟩,⟨fun b o e _ _ hc=>kk b o e hc,st.there,fun a ha=>.inl ha,st.gens⟩⟩
 ·have z':=S.zs z hz
  obtain ⟨b',mo⟩:=z
  cases mo with
  | list l =>
   obtain ⟨items,n,h1,h2⟩:=z'
   simp [MO.addrs] at hb;subst hb
   rw [h1] at e;cases e
   exact kk _ _ h1 (.inl (by simp))
  | obj ob =>
   simp [MO.addrs] at hb;subst hb
   rw [z'.1] at e;cases e
   exact kk _ _ z'.1 (.inl z'.2.2)
  | inst dx C att body =>
   obtain ⟨dd,es,n,h1,h2,h3,h4⟩:=z'
   simp [MO.addrs] at hb
   rcases hb with rfl | rfl
   ·rw [h1] at e;cases e;exact kk _ _ h1 (.inl (by simp))
   ·rw [h3] at e;cases e;exact kk _ _ h3 (.inl (by simp))
 ·obtain ⟨o,e,fl⟩:=S.fr a ha
  exact ⟨o,kk a o e fl.hard,fl⟩
 ·obtain ⟨m,o,es,ep,e,d,r⟩:=S.ns
  exact ⟨m,o,es,ep,kk _ _ e (zr.hard (.inl ⟨es,ep,d⟩)),d,r⟩
 ·obtain ⟨v,h1,h2⟩:=S.loc x p e
  exact ⟨v,h1.ext fun b o e fl=>kk b o e fl.hard,h2.mono kp⟩
theorem VR.flat {h h':Heap}{own own':List Addr}{p:PV}{v:Value}(hf:p.flat)(x:VR h own p v):VR h' own' p v:=by
 cases x with
 | raw v=>exact .raw v
 | int i t=>exact .int i t
 | str i t=>exact .str i t
 | byt i t=>exact .byt i t
 | tup=>exact hf.elim
 | lst=>exact hf.elim
theorem ziG {e:Expr}(loc':List (Str × PV))(b:Brw σ loc')(h:EV g A F e ⟨loc',[]⟩ fun p _=>p.flat/\P p σ):EV g A F e σ P:=by
 intro s S Q E k
 refine h s (b.sat S) Q E fun v p σ' s' h' S' hv st=>?_
 obtain ⟨S₂,st₂⟩:=S.unlend (loc':=loc') S' st
 exact k v p σ s' h'.2 S₂ (hv.flat h'.1) st₂
end
end Mine
end
section
open PySem PySem.Calls PyProof.Rows
namespace Mine
open Sem (wp)
theorem zbs:Slot "method_descriptor" "__get__" "method_descriptor.__get__" :=
 .of (owner:="method_descriptor") (n:="__get__") (by rw [typeLookup_type,builtinLookup_eq_fast];kernel_rfl) (by decide +kernel) (by decide +kernel) (by decide +kernel)
  (by first | exact .inl (by decide +kernel) | exact .inr (by decide +kernel)) (by rw [isSubtype_type];kernel_rfl)
theorem zen:entryFor table "method_descriptor.__get__" = some Builtin.«method_descriptor.__get__»:=entryFor_of_tree (by kernel_rfl)
theorem zfr (a b c:Value):argsOk "method_descriptor.__get__" ⟨[a,b,c],[]⟩:=by unfold argsOk;kernel_rfl
theorem zgj:typeLookup (.type "list") "append" = pure (some (.builtin "list.append")):=slot_list_append.lookup
theorem zli:typeLookup (.type "method_descriptor") "__set__" = pure none:=by rw [typeLookup_type,builtinLookup_eq_fast];kernel_rfl
theorem ziP:typeLookup (.type "method_descriptor") "__delete__" = pure none:=by rw [typeLookup_type,builtinLookup_eq_fast];kernel_rfl
theorem zaw:Slot "list" "__getattribute__" "list.__getattribute__":=by first | exact PySem.F.slot_list_getattribute
theorem zb3:entryFor table "list.__getattribute__" = some Builtin.«object.__getattribute__»:=by first | exact am_entry_list_getattribute | exact entryFor_alias (id':="object.__getattribute__") (by kernel_rfl) (by first | rfl | decide +kernel) (by decide +kernel) (by kernel_rfl)
theorem zd2:".".intercalate ("list.append".cutAt '.').dropLast = "list":=by decide +kernel
theorem zgs:isSubtype (.type "list") (.type (".".intercalate ("list.append".cutAt '.').dropLast))=pure true:=by rw [zd2,isSubtype_type];kernel_rfl
noncomputable abbrev z9 (D:Addr):Obj:={ cls:=.type "builtin_function_or_method",data:=.fields #[.builtin "list.append",.ref D] }
section
variable {prog:Program}{w:World}{A:Around}{E:Value->Shared->Prop}{h:Heap}{g:Array GenState}{d:Drawn}{t:Nat}{os:OsState}{D:Addr}{items:Array Value}{n:Nat}
theorem zk6 {R:Result->Shared->Prop}(hl:h.get? D=some (zam items n))(hq:R (.ok (.ret (.ref h.objs.size))) ⟨h.push (z9 D),g,d,t,os⟩) :
  codeAny (model prog w) A (.call (.builtin "method_descriptor.__get__") ⟨[.builtin "list.append",.ref D,.type "list"],[]⟩) R ⟨h,g,d,t,os⟩:=by
 have hT:(⟨h,g,d,t,os⟩:Shared).TypeIs (.ref D) "list":=⟨_,hl,rfl⟩
 have hT5:(⟨h,g,d,t,os⟩:Shared).TypeIs (.builtin "list.append") "method_descriptor":=type_list_append
 refine codeAny_call_builtin zbs.plain zen (zbs.check _ _ _ _ _ _ _ _ hT5 (zfr _ _ _) ?_)
 have f8:=zgs
 repeat (any_goals (first | assumption | wp_step))
theorem zio {tk:Tok}{Q:Fin->Shared->Prop}(hl:h.get? D=some (zam items n))(hq:Q (.done (.ret (.ref h.objs.size))) ⟨h.push (z9 D),g,d,t,os⟩) :
  wpAny (model prog w) A (Builtin.«object.__getattribute__» ⟨[.ref D,.str "append" tk],[]⟩) Q E ⟨h,g,d,t,os⟩:=by
 have hT:(⟨h,g,d,t,os⟩:Shared).TypeIs (.ref D) "list":=⟨_,hl,rfl⟩
 have hT5:(⟨h,g,d,t,os⟩:Shared).TypeIs (.builtin "list.append") "method_descriptor":=type_list_append
 have f4:=zgj
 have f5:=type_list_append
 have f6:=zbs.lookup
 have f7:=zli
 have f9:=ziP
 repeat (any_goals (first | assumption | wp_step))
 refine zk6 hl ?_
 repeat (any_goals (first | assumption | wp_step))
theorem zjL {tk:Tok}{R:Result->Shared->Prop}(hl:h.get? D=some (zam items n))(hq:R (.ok (.ret (.ref h.objs.size))) ⟨h.push (z9 D),g,d,t,os⟩) :
  codeAny (model prog w) A (.call (.builtin "list.__getattribute__") ⟨[.ref D,.str "append" tk],[]⟩) R ⟨h,g,d,t,os⟩ :=
 codeAny_call_builtin zaw.plain zb3 (zaw.check _ _ _ _ _ _ _ _ (show (⟨h,g,d,t,os⟩:Shared).TypeIs (.ref D) "list" from ⟨_,hl,rfl⟩) (PySem.F.args_list_getattribute_2 _ _) (zio hl hq))
theorem zjt {Q:Value->Shared->Prop}(hl:h.get? D=some (zam items n))(hq:Q (.ref h.objs.size) ⟨h.push (z9 D),g,d,t+1,os⟩):wpAny (model prog w) A (getAttr (.ref D) "append" true) Q E ⟨h,g,d,t,os⟩:=by
 have hT:∀ t,(⟨h,g,d,t,os⟩:Shared).TypeIs (.ref D) "list":=fun _=>⟨_,hl,rfl⟩
 have hT1:=hT (t+1)
 have hT0:=hT t
 have f2:=zaw.lookup
 have f3:=zaw.bind (.ref D)
 unfold getAttr
 repeat (any_goals (first | assumption | wp_step))
 refine zjL hl ?_
 have hT5:(⟨h.push (z9 D),g,d,t+1,os⟩:Shared).TypeIs (.ref h.objs.size) "builtin_function_or_method":=⟨_,Heap.get?_push_size _ rfl,rfl⟩
 repeat (any_goals (first | assumption | wp_step))
end
theorem zfN:isSubtype (.type "list") (.type "module")=pure false:=by rw [isSubtype_type];kernel_rfl
theorem zdO {prog:Program}{w:World}{A:Around}{E:Value->Shared->Prop}{D:Addr}{v:Value}{Q:Unit->Shared->Prop}{h:Heap}{g:Array GenState}{d:Drawn}{t:Nat}{os:OsState}{items:Array Value}{n:Nat}
  (hl:h.get? D=some (zam items n)) (hq:Q () ⟨h,g,d,t,os⟩):wpAny (model prog w) A (checkBoundCall "list.append" ⟨[.ref D,v],[]⟩) Q E ⟨h,g,d,t,os⟩:=by
 have hT:(⟨h,g,d,t,os⟩:Shared).TypeIs (.ref D) "list":=⟨_,hl,rfl⟩
 have f1:=zfN
 unfold checkBoundCall
 repeat (any_goals (first | assumption | wp_step))
theorem Sat.newMO {g:Gl}{F:Fm}{σ:AS}{s:Shared}(S:Sat g F σ s)(o:Obj)(m:MO)(hm:m.addrs s.heap.objs.size=[s.heap.objs.size])
  (hz:Kp s.heap (s.heap.push o) σ.own (s.heap.objs.size::σ.own)->ZR (s.heap.push o) (s.heap.objs.size::σ.own) s.heap.objs.size m) :
  Sat g F ⟨σ.loc,(s.heap.objs.size,m)::σ.zone⟩ { s with heap:=s.heap.push o }/\Stp [] σ.own s (AS.own ⟨σ.loc,(s.heap.objs.size,m)::σ.zone⟩) { s with heap:=s.heap.push o }:=by
 have kk:∀ b o',s.heap.get? b=some o'->(s.heap.push o).get? b=some o':=fun b o' e=>Heap.get?_push_of_some _ e
 have hown:AS.own ⟨σ.loc,(s.heap.objs.size,m)::σ.zone⟩=s.heap.objs.size::σ.own:=by show m.addrs _++_=_;rw [hm];rfl
 have kp:Kp s.heap (s.heap.push o) σ.own (s.heap.objs.size::σ.own):=fun b o xs n e _ no=>⟨kk b o e,fun q=>by
  rcases List.mem_cons.mp q with rfl | q
  ·exact Nat.lt_irrefl _ (Heap.lt_size e)
  ·exact no q⟩
 have S₁:=S.push o
 refine ⟨⟨S₁.old,S₁.lim,S.os,S.bare,?_,fun a ha=>?_,fun z hz'=>?_,S₁.fr,S₁.ns,S.nin,fun x p e=>?_,S.cs,S₁.cl⟩,⟨fun b o e _ _ _=>kk b o e,fun b o e=>⟨o,kk b o e⟩,fun a ha=>?_,fun _ _ e=>e⟩⟩
 ·rw [hown]
  obtain ⟨n1,n2,n3⟩:=List.nodup_append.mp S.nd
  refine List.nodup_append.mpr ⟨n1,List.nodup_cons.mpr ⟨fun q=>Nat.lt_irrefl _ (S.own_lt q),n2⟩,fun a ha b hb q=>?_⟩
  subst q
  rcases List.mem_cons.mp hb with rfl | hb
  ·exact Nat.lt_irrefl _ (S.fr_lt ha)
  ·exact n3 a ha a hb rfl
 ·rw [hown] at ha
  rcases List.mem_append.mp ha with h | h
  ·exact S.lo a (List.mem_append_left _ h)
  ·rcases List.mem_cons.mp h with rfl | h
   ·exact S.base_le
   ·exact S.lo a (List.mem_append_right _ h)
 ·rw [hown]
  rcases List.mem_cons.mp hz' with rfl | hz'
  ·exact hz kp
  ·exact (S.zs z hz').mono kp fun b _ o e=>kk b o e
 ·rw [hown]
  obtain ⟨v,h1,h2⟩:=S.loc x p e
  exact ⟨v,h1.ext fun b o e _=>kk b o e,h2.mono kp⟩
 ·rw [hown] at ha
  rcases List.mem_cons.mp ha with rfl | ha
  ·exact .inr (zae _)
  ·exact .inl ha
theorem Sat.newObj {g:Gl}{F:Fm}{σ:AS}{s:Shared}(S:Sat g F σ s)(o:Obj)(h1:∀ v,o.data≠.cell v)(h2:o.cls≠.none)(h3:o.isFreed=false:=by rfl) :
  Sat g F ⟨σ.loc,(s.heap.objs.size,.obj o)::σ.zone⟩ { s with heap:=s.heap.push o }/\Stp [] σ.own s (AS.own ⟨σ.loc,(s.heap.objs.size,.obj o)::σ.zone⟩) { s with heap:=s.heap.push o } :=
 S.newMO o (.obj o) rfl fun _=>⟨Heap.get?_push_size _ h3,h1,h2⟩
section
variable {g:Gl}{A:Around}{F:Fm}{σ:AS}{s:Shared}{P:PV->AS->Prop}
theorem zjB {D:Addr}{ps:List PV}{zone':List (Addr × MO)}{p:PV}{v:Value}{R:Result->Shared->Prop}(S:Sat g F σ s)(U:ZAt D (.list ps) (.list (ps++[p])) σ.zone zone')(hv:VR s.heap σ.own p v)(hlen:ps.length<=1000000)
  (k:∀ s',Sat g F ⟨σ.loc,zone'⟩ s'->Stp [] σ.own s (AS.own ⟨σ.loc,zone'⟩) s'->R (.ok (.ret .none)) s'):codeAny (model g.prog g.w) A (.builtin "list.append" ⟨[.ref D,v],[]⟩) R s:=by
 obtain ⟨pre,post,e1,e2⟩:=U.split
 obtain ⟨items,n,h1,h2⟩:=S.zs (D,.list ps) (by rw [e1];simp)
 have hl:=h2.length
 simp only [Array.length_toList] at hl
 refine codeAny_builtin entry_list_append ?_
 show wpAny _ _ (updateSeq D (·.push v)>>=fun _=>ret .none) _ _ s
 refine wpAny_bind ?_
 refine wpAny_updateSeq h1 rfl (wpAny_pure ?_) (by have:sizeLine=16777216:=rfl;lia)
 have hs:Heap.SameBut D s.heap (s.heap.update D (Obj.mapSeq fun x=>x.push v)):=.update ..
 have hg:(s.heap.update D (Obj.mapSeq fun x=>x.push v)).get? D=some (zam (items.push v) (n+1)):=by
  have:=Heap.get?_update_self (Obj.mapSeq fun x=>x.push v) h1 (by simp [Obj.mapSeq,Obj.isFreed])
  rw [this]
  simp [Obj.mapSeq]
 obtain ⟨S',st⟩:=S.upd U rfl (h':=s.heap.update D (Obj.mapSeq fun x=>x.push v)) (fun b o hb e=>hs.extBut b o (by simpa [MO.addrs] using hb) e) fun kp=>⟨items.push v,n+1,hg,by
  rw [Array.toList_push];exact (h2.mono kp).append (.cons (hv.mono kp) .nil)⟩
 exact k _ S' st
set_option tactic.hygienic true in
theorem zcO {m D:Addr}{ps:List PV}{zone':List (Addr × MO)}{p:PV}(hb:(m,.obj (z9 D))∈σ.zone)(U:ZAt D (.list ps) (.list (ps++[p])) σ.zone zone')(hlen:ps.length<=1000000)(h:P (.raw .none) ⟨σ.loc,zone'⟩):CL g A F (.ref m) [p] σ P:=by
 intro s vs S hvs Q E k
 cases hvs with
 | cons hv hs =>
  cases hs
  rename_i v _
  have hm:=(S.zs _ hb).1
  obtain ⟨pre,post,e1,e2⟩:=U.split
  obtain ⟨items,n,h1,h2⟩:=S.zs (D,.list ps) (by rw [e1];simp)
  refine wpAny_call (codeAny_of_tree ?_)
  show wpAny _ A.in1 (callAny (.ref m) ⟨[v],[]⟩) _ _ s
  unfold callAny
  refine wpAny_bind (wpAny_load hm ?_)
  obtain ⟨hh,gg,d,t,os⟩:=s
  show wpAny _ _ (checkBoundCall "list.append" ⟨[.ref D,v],[]⟩>>=fun _=>again (.builtin "list.append" ⟨[.ref D,v],[]⟩)) _ _ _
  refine wpAny_bind (zdO h1 ?_)
  refine wpAny_pure ⟨Code.quiet_builtin _ (by decide +kernel),?_⟩
  exact zjB S U hv hlen fun s' S' st'=>k _ _ _ s' h S' (.raw _) st'
inductive zbW (P:PV->AS->Prop)(p:PV)(σ₁:AS):Prop
 | mk (D:Addr) (ps:List PV) (h1:p=.raw (.ref D)) (h2:(D,.list ps)∈σ₁.zone) (h3:∀ m,P (.raw (.ref m)) ⟨σ₁.loc,(m,.obj (z9 D))::σ₁.zone⟩):zbW P p σ₁
theorem zc2 {o:Expr}{pos:Pos}(h:EV g A F o σ (zbW P))
  (he:eval (.Attribute o "append" pos) F.env=(do
   let ov <- eval o F.env
   standAt pos.atName
   let r <- holding [ov] (getAttr ov "append" true)
   letTemporaryGo o ov r
   pure r):=by left):EV g A F (.Attribute o "append" pos) σ P:=by
 intro s S Q E k
 refine Attribute_any_ (h s S _ E fun v p σ₁ s₁ h₁ S₁ hv st₁=>?_) he
 obtain ⟨D,ps,rfl,hz,hP⟩:=h₁
 cases hv
 obtain ⟨items,n,h1,h2⟩:=S₁.zs _ hz
 obtain ⟨hh,gg,d,t,os⟩:=s₁
 refine zjt h1 ?_
 obtain ⟨S₂,st₂⟩:=S₁.newObj (z9 D) (by simp) (by simp)
 exact k _ _ _ _ (hP _) (S₂.toks _) (.raw _) (st₁.trans (st₂.trans .toks))
theorem zeC {M:Model}{pos:Pos}{u:Addr}{ob:Obj}{vs:Array Value}{first:List Value}{args:List (Bool × Sem Value)}{Q:Value->Shared->Prop}{E:Value->Shared->Prop}(hd:ob.data=.fields vs)(hc:ob.cls=.type "builtin_function_or_method")(hplain:args.any (·.1)=false)
  (h:wpAny M A (evalArgs (.ref u) true args []) (fun x s₁=>s₁.heap.get? u=some ob/\wpAny M A (call (.ref u) (first++x.pos) x.kw) Q E s₁) E s):wpAny M A (callWith pos (.ref u) first args []) Q E s:=by
 unfold callWith
 refine wpAny_bind (wpAny_holding (wpAny_mono h (fun x s₁ h₁=>wpAny_bind (wpAny_standAt ?_)) fun _ _ x=>x))
 obtain ⟨ho,hcall⟩:=h₁
 simp -iota only [hplain,List.any_nil,Bool.or_false]
 refine wpAny_bind (m:=keeperOf (.ref u)) ?_
 unfold keeperOf
 refine wpAny_bind (wpAny_load ho ?_)
 simp -iota only [hd,hc,show (Value.type "builtin_function_or_method" != Value.type "method")=true by decide,show (Value.type "builtin_function_or_method"==Value.type "builtin_function_or_method" || Value.type "builtin_function_or_method"==Value.type "method-wrapper")=true by decide]
 refine wpAny_pure ?_
 exact wpAny_bind (wpAny_mono hcall (fun r s₂ hr=>wpAny_bind (wpAny_holding (wpAny_point (wpAny_pure hr)))) fun _ _ x=>x)
abbrev zf4 (g:Gl)(A:Around)(F:Fm)(P:PV->AS->Prop)(m:Addr)(D:Addr):List PV->AS->Prop:=fun ps σ₂=>(m,MO.obj (z9 D))∈σ₂.zone/\CL g A F (.ref m) ps σ₂ P
inductive zc5 (g:Gl)(A:Around)(F:Fm)(P:PV->AS->Prop)(args:List Expr)(p:PV)(σ₁:AS):Prop
 | mk (m:Addr) (D:Addr) (h1:p=.raw (.ref m)) (h2:EVs g A F args σ₁ (zf4 g A F P m D)):zc5 g A F P args p σ₁
theorem za4 {func:Expr}{args:List Expr}{pos:Pos}
  (h:EV g A F func σ (zc5 g A F P args))
  (he:eval (.Call func args [] pos) F.env=(do callWith pos (<- eval func F.env) [] (backTo pos (starEach args F.env)) (backToKw pos (keywordEach [] F.env))):=by left)
  (hns:(backTo pos (starEach args F.env)).any (·.1)=false:=by left):EV g A F (.Call func args [] pos) σ P:=by
 intro s S Q E k
 refine Call_ (h s S _ E fun v p σ₁ s₁ h₁ S₁ hv st₁=>?_) he
 obtain ⟨m,D,rfl,h₁⟩:=h₁
 cases hv
 refine zeC (ob:=z9 D) rfl rfl hns (zaa h₁ hns S₁ fun vs ps σ₂ s₂ h₂ S₂ hvs st₂=>?_)
 refine ⟨(S₂.zs _ h₂.1).1,?_⟩
 exact h₂.2 s₂ vs S₂ hvs Q E fun a b σ' s' h' S' hr st'=>k a b σ' s' h' S' hr (st₁.trans (st₂.trans st'))
end
end Mine
end
section
open PySem PySem.Calls PyProof.Rows PySem.W
namespace Mine
open PySem.Builtin PySem.Builtin.Str
theorem zmE:Slot "str" "translate" "str.translate" :=
 .of (owner:="str") (n:="translate") (by rw [typeLookup_type,builtinLookup_eq_fast];kernel_rfl) (by decide +kernel) (by decide +kernel) (by decide +kernel)
  (by first | exact .inl (by decide +kernel) | exact .inr (by decide +kernel)) (by rw [isSubtype_type];kernel_rfl)
theorem zoj:typeOf (.builtin "str.translate")=pure (.type "method_descriptor"):=by show builtinType _=_;rw [builtinType_eq_fast];kernel_rfl
theorem znc:entryFor table "str.translate" = some Builtin.«str.translate»:=entryFor_of_tree (by kernel_rfl)
theorem zoX (a b:Value):argsOk "str.translate" ⟨[a,b],[]⟩:=by unfold argsOk;kernel_rfl
theorem zgt:isSubtype (.type "KeyError") (.type "LookupError")=pure true:=by rw [isSubtype_type];kernel_rfl
section
variable {g:Gl}{A:Around}{F:Fm}{σ:AS}{s:Shared}{P:PV->AS->Prop}
theorem zfx {prog:Program}{w:World}{A:Around}{E:Value->Shared->Prop}{s:Shared}{d:Addr}{f:Int->Option Value}{c:Nat}{x:PySem.Str}{t:Tok}{Q:Mapped->Shared->Prop}
  (hm:s.heap.MapOf (intKind prog w) d f) (hv:f c=some (.str x t)) (h:Q (.text x) { s with toks:=s.toks+1+1 }):wpAny (model prog w) A (tableLookup (.ref d) c) Q E s:=by
 unfold tableLookup
 refine wpAny_bind (wpAny_attempt ?_)
 refine wpAny_bind (wpAny_mkInt ?_)
 refine wpAny_getItem_of (knd:=intKind prog w) (k:=(c:Int)) (f:=f) (intKind_is prog w _ _) hm hv ?_
 repeat (any_goals (first | assumption | wp_step))
theorem zeJ {prog:Program}{w:World}{A:Around}{E:Value->Shared->Prop}{s:Shared}{d:Addr}{f:Int->Option Value}{c:Nat}{Q:Mapped->Shared->Prop}(hd:(d==sysModules)=false)(hh:A.handled=none)
  (hm:s.heap.MapOf (intKind prog w) d f) (hv:f c=none) (h:∀ h' tk,(∀ b o,s.heap.get? b=some o->h'.get? b=some o)->Q .keep { s with heap:=h',toks:=tk }):wpAny (model prog w) A (tableLookup (.ref d) c) Q E s:=by
 unfold tableLookup
 refine wpAny_bind (wpAny_attempt ?_)
 refine wpAny_bind (wpAny_mkInt ?_)
 refine wpAny_getItem_missing_of (knd:=intKind prog w) (k:=(c:Int)) (f:=f) (intKind_is prog w _ _) hd hh hm hv fun h' e x=>?_
 obtain ⟨ob,tt,e1,e2,e3⟩:=x.there
 have f1:=zgt
 have hT:(⟨h',s.gens,s.drawn,s.toks+1+1,s.os⟩:Shared).TypeIs (.ref e) "KeyError":=⟨_,e1,e2⟩
 have hq:=h h' (s.toks+1+1) x.keeps
 unfold isInstance
 repeat (any_goals (first | assumption | wp_step))
theorem ziR {prog:Program}{w:World}{A:Around}{E:Value->Shared->Prop}{s:Shared}{d:Addr}{f:Int->Option Value}{c:Nat}{t:Tok}{Q:Fin->Shared->Prop}(hd:(d==sysModules)=false)(hh:A.handled=none)(hc:c < 128)
  (hm:s.heap.MapOf (intKind prog w) d f) (hv:f c=none) (h:∀ h' tk,(∀ b o,s.heap.get? b=some o->h'.get? b=some o)->Q (.done (.ret (.str ⟨#[c]⟩ tk))) { s with heap:=h',toks:=tk+1 }) :
  wpAny (model prog w) A (Builtin.«str.translate» ⟨[.str ⟨#[c]⟩ t,.ref d],[]⟩) Q E s:=by
 have hall:(({ cps:=#[c] }:PySem.Str).cps.all fun x=>decide (x < 128))=true:=by simp [hc]
 unfold Builtin.«str.translate»
 generalize hT:@tableLookup=T
 have tl:∀ (Q':Mapped->Shared->Prop) (E':Value->Shared->Prop),(∀ h' tk,(∀ b o,s.heap.get? b=some o->h'.get? b=some o)->Q' .keep { s with heap:=h',toks:=tk })->wpAny (model prog w) A (T (.ref d) c) Q' E' s:=by
  subst hT
  exact fun Q' E' h=>zeJ hd hh hm hv h
 repeat (any_goals (first | assumption | (refine tl _ _ ?_;intro h' tk hk;have hq:=h h' tk hk) | wp_step | simp only [hall]))
theorem zjG {prog:Program}{w:World}{A:Around}{E:Value->Shared->Prop}{s:Shared}{d:Addr}{f:Int->Option Value}{c b:Nat}{t t':Tok}{Q:Fin->Shared->Prop}(hc:c < 128)
  (hm:s.heap.MapOf (intKind prog w) d f) (hv:f c=some (.str (ofL [b,c]) t')) (h:∀ tk,Q (.done (.ret (.str (ofL [b,c]) tk))) { s with toks:=tk+1 }) :
  wpAny (model prog w) A (Builtin.«str.translate» ⟨[.str ⟨#[c]⟩ t,.ref d],[]⟩) Q E s:=by
 have hall:(({ cps:=#[c] }:PySem.Str).cps.all fun x=>decide (x < 128))=true:=by simp [hc]
 unfold Builtin.«str.translate»
 generalize hT:@tableLookup=T
 have tl:∀ (Q':Mapped->Shared->Prop) (E':Value->Shared->Prop) (tk:Nat),Q' (.text (ofL [b,c])) { s with toks:=tk+1+1 }->wpAny (model prog w) A (T (.ref d) c) Q' E' { s with toks:=tk }:=by
  subst hT
  exact fun Q' E' tk h=>zfx hm hv h
 repeat (any_goals (first | assumption | (refine tl _ _ _ ?_) | wp_step | simp only [hall]))
 have e:({ cps:=List.foldl (fun acc (p:PySem.Str)=>acc++p.cps) #[] [ofL [b,c]].reverse }:PySem.Str)=ofL [b,c]:=by apply Str.ext';simp [ofL]
 rw [e];exact h _
noncomputable def zmh:List Nat:=[40,41,91,93,123,125,63,42,43,45,124,94,36,92,46,38,126,35,32,9,10,13,11,12]
noncomputable def zqE (c:Nat):List Nat:=if c∈zmh then [92,c] else [c]
def zjT (g:Gl)(d:Addr):Prop:=∀ F σ s,Sat g F σ s->(d==sysModules)=false/\∃ f:Int->Option Value,s.heap.MapOf (intKind g.prog g.w) d f/\∀ c:Nat,c < 128->if c∈zmh then ∃ t,f c=some (.str (ofL [92,c]) t) else f c=none
theorem CL_translate {c:Nat}{d:Addr}(hr:Rm A 0)(hd:zjT g d)(hc:c < 128)(h:P (tx (zqE c)) σ):CL g A F (.builtin "str.translate") [tx [c],.raw (.ref d)] σ P:=by
 intro s vs S hvs Q E k
 cases hvs with | cons hv hs=>cases hs with | cons hu hs=>cases hs;cases hv;cases hu;(
  obtain ⟨h1,f,h2,h3⟩:=hd F σ s S
  refine wpAny_call_entry zmE (typeIs_str _ _ _) znc ?_ (zoX _ _)
  have h3:=h3 c hc
  unfold zqE at h
  by_cases hcs:c∈zmh
  ·rw [if_pos hcs] at h h3
   obtain ⟨t',h3⟩:=h3
   refine zjG hc h2 h3 fun tk=>⟨_,rfl,?_⟩
   exact k _ _ σ _ h (S.toks _) (.str _ _) .toks
  ·rw [if_neg hcs] at h h3
   refine ziR h1 hr.handled hc h2 h3 fun h' tk hk=>⟨_,rfl,?_⟩
   exact k _ _ σ _ h (S.keeps hk) (.str _ _) (.keeps hk))
set_option tactic.hygienic true in
theorem zfM {l a b:List Nat}(ho:(occurrences (ofL l) (ofL a) 0 (ofL l).length ((ofL l).length+1)).isEmpty=true)(h:P (tx l) σ):CL g A F (.builtin "str.replace") [tx l,tx a,tx b] σ P:=by
 intro s vs S hvs Q E k
 cases hvs with | cons hv hs=>cases hs with | cons hu hs=>cases hs with | cons hw hs=>cases hs;cases hv;cases hu;cases hw;(
  rename_i t u v
  have hc:((occurrences (ofL l) (ofL a) 0 (ofL l).length ((ofL l).length+1)).isEmpty || ((ofL a).length==0 && (ofL b).length==0))=true:=by rw [ho];rfl
  refine call_gives PySem.F.slot_str_replace (typeIs_str _ _ _) PySem.F.entry_str_replace (PySem.F.args_str_replace_3 _ _ _)
   (gives_str_replace (ofL l) (ofL a) (ofL b) t u v fun q=>by rw [hc] at q;cases q) ?_
  simp only [hc,if_true]
  exact k _ _ σ _ h S (.str _ _) .refl)
theorem zgE:mroOf (.type "object")=pure [.type "object"]:=by kernel_rfl
theorem zdX:typeLookup (.type "object") "__new__" = pure (some (.builtin "object.__new__")):=by rw [typeLookup_type,builtinLookup_eq_fast];kernel_rfl
theorem zeE:Slot "object" "__init__" "object.__init__":=.of (owner:="object") (n:="__init__") (by rw [typeLookup_type,builtinLookup_eq_fast];kernel_rfl) (by decide +kernel) (by decide +kernel) (by decide +kernel)
 (by first | exact .inl (by decide +kernel) | exact .inr (by decide +kernel)) (by rw [isSubtype_type];kernel_rfl)
theorem zhS:TypeCalled "object" "object.__new__" "object.__init__" :=
 ⟨by decide +kernel,by decide +kernel,⟨_,_,zgE⟩,madeBy_type zgE zdX (by decide +kernel),by decide +kernel,by rw [isSubtype_type];kernel_rfl,zeE⟩
theorem zf1:checkBuiltinCall "object.__new__" ⟨[.type "object"],[]⟩=pure ():=by kernel_rfl
theorem zfh (o:Value):argsOk "object.__init__" ⟨[o],[]⟩:=by unfold argsOk;kernel_rfl
theorem zd8:entryFor table "object.__init__" = some Builtin.«object.__init__»:=entryFor_of_tree (by kernel_rfl)
theorem zey:plainId "object.__new__" = true:=by decide +kernel
noncomputable abbrev zeT:Obj:={ cls:=.type "object",data:=.plain }
theorem ze2:Bind.madeHere "object.__new__" (.type "object")=pure ():=by first | kernel_rfl | rfl
theorem zjU {prog:Program}{w:World}{A:Around}{E:Value->Shared->Prop}{s:Shared}{Q:Value->Shared->Prop}(h:Q (.ref s.heap.objs.size) { s with heap:=s.heap.push zeT }):wpAny (model prog w) A (call (.type "object") []) Q E s:=by
 have f1:=ze2
 refine ks_callType_codesW (Q₁:=fun obj s₁=>obj=.ref s.heap.objs.size/\s₁={ s with heap:=s.heap.push zeT }) zhS ?_ zd8 ?_ fun obj s₁ h₁=>?_
 ·intro Q' E' hq
  refine wpAny_of_eq (a:=()) (by first | kernel_rfl | rfl) hq
 ·refine codeAny_of_tree ?_
  show wpAny _ A.in1.in1 (do checkBuiltinCall "object.__new__" ⟨[.type "object"],[]⟩;again (.builtin "object.__new__" ⟨[.type "object"],[]⟩)) _ _ s
  refine wpAny_bind (wpAny_of_eq zf1 (wpAny_pure ⟨plainId_quiet zey _,codeAny_builtin PySem.F.entry_object_new ?_⟩))
  obtain ⟨hp,gg,d,tk,os⟩:=s
  unfold Builtin.«object.__new__»
  repeat (any_goals (first | assumption | wp_step))
  exact ⟨rfl,rfl⟩
 ·obtain ⟨rfl,rfl⟩:=h₁
  refine ⟨⟨_,Heap.get?_push_size _ rfl,rfl⟩,zfh _,?_⟩
  obtain ⟨hp,gg,d,tk,os⟩:=s
  unfold Builtin.«object.__init__»
  repeat (any_goals (first | assumption | wp_step))
  exact ⟨rfl,h⟩
theorem zmd (h:∀ a,P (.raw (.ref a)) ⟨σ.loc,(a,.obj zeT)::σ.zone⟩):CL g A F (.type "object") [] σ P:=by
 intro s vs S hvs Q E k
 cases hvs
 refine zjU ?_
 obtain ⟨S₂,st₂⟩:=S.newObj zeT (by simp) (by simp)
 exact k _ _ _ _ (h _) S₂ (.raw _) st₂
end
end Mine
end
section
open PySem PySem.Calls PyProof.Rows PySem.W PySem.Builtin PySem.Builtin.ObjectAttr
namespace Mine
structure Fg (g:Gl)(K:Frag):Prop where
 in_:K.In g.h₁
 hard:∀ a o,K.lookup a=some o->o.cls≠.none
theorem Fg.now {g:Gl}{K:Frag}{F:Fm}{σ:AS}{s:Shared}(f:Fg g K)(S:Sat g F σ s):K.In s.heap:=fun a o e=>S.old.get_of_cls (f.in_ a o e) (f.hard a o e)
structure ClsOk (K:Frag)(C:Addr):Prop where
 dict:∃ cd,clsIn K C=some cd/\cd.hasDict=true
 gattr:findIn K (.ref C) "__getattr__" = some none
structure zn0 (K:Frag)(C:Addr):Prop extends ClsOk K C where
 ga:findIn K (.ref C) "__getattribute__" = some (some (.builtin "object.__getattribute__"))
 sa:findIn K (.ref C) "__setattr__" = some (some (.builtin "object.__setattr__"))
 plain:plainOver K C=true
structure zaV (K:Frag)(C:Addr):Prop extends ClsOk K C where
 ga:findIn K (.ref C) "__getattribute__" = some (some (.builtin "list.__getattribute__"))
 sa:findIn K (.ref C) "__setattr__" = some (some (.builtin "object.__setattr__"))
 mro:∃ cd,clsIn K C=some cd/\cd.mro=[.ref C,.type "list",.type "object"]
noncomputable def PV.handed:PV->Bool
 | .raw v=>handedIn v
 | _=>true
theorem VR.handed {h:Heap}{own:List Addr}{p:PV}{v:Value}(x:VR h own p v)(hp:p.handed=true):handedIn v=true:=by
 cases x with
 | raw v=>exact hp
 | _=>rfl
theorem zgo.find {h:Heap}{own:List Addr}{att:List (Str × PV)}{es:List DictEntry}(r:zgo h own att es){name:Str}{p:PV}(e:att.lookup name=some p):∃ en,es.find? (·.key.isStr name)=some en/\VR h own p en.val:=by
 induction r with
 | nil=>simp at e
 | @cons x q v hs t att es hv r ih =>
  rw [List.lookup_cons] at e
  have e1:(Value.str x t).isStr name=(x==name):=rfl
  by_cases hx:(name==x)=true
  ·rw [hx] at e
   cases e
   have:name=x:=eq_of_beq hx
   subst this
   exact ⟨⟨hs,.str name t,v⟩,by rw [List.find?_cons];simp [e1],hv⟩
  ·have hx':(name==x)=false:=by simpa using hx
   rw [hx'] at e
   obtain ⟨en,h1,h2⟩:=ih e
   have hx2:(x==name)=false:=by rw [beq_eq_false_iff_ne] at hx' ⊢;exact Ne.symm hx'
   exact ⟨en,by rw [List.find?_cons];simp only [e1,hx2];exact h1,h2⟩
theorem zgo.noref {h:Heap}{own:List Addr}{att:List (Str × PV)}{es:List DictEntry}(r:zgo h own att es):es.any (·.refKey)=false:=by
 induction r with
 | nil=>rfl
 | cons hv r ih=>rw [List.any_cons,ih];rfl
theorem zgo.miss {h:Heap}{own:List Addr}{att:List (Str × PV)}{es:List DictEntry}(r:zgo h own att es){name:Str}(e:att.lookup name=none):es.find? (·.key.isStr name)=none:=by
 induction r with
 | nil=>rfl
 | @cons x q v hs t att es hv r ih =>
  rw [List.lookup_cons] at e
  have e1:(Value.str x t).isStr name=(x==name):=rfl
  by_cases hx:(name==x)=true
  ·rw [hx] at e;cases e
  ·have hx':(name==x)=false:=by simpa using hx
   rw [hx'] at e
   have hx2:(x==name)=false:=by rw [beq_eq_false_iff_ne] at hx' ⊢;exact Ne.symm hx'
   rw [List.find?_cons];simp only [e1,hx2];exact ih e
noncomputable abbrev zct (es:Array DictEntry)(n:Nat):Obj:={ cls:=.type "dict",data:=.dict es n }
theorem zgU {h:Heap}{own:List Addr}{att:List (Str × PV)}{es:Array DictEntry}{n:Nat}(r:zgo h own att es.toList){name:Str}{p:PV}(e:att.lookup name=some p):∃ v,lookIn name (zct es n)=some (some v)/\VR h own p v:=by
 obtain ⟨en,h1,h2⟩:=r.find e
 exact ⟨en.val,by unfold lookIn;dsimp only;rw [h1],h2⟩
theorem zgO {h:Heap}{own:List Addr}{att:List (Str × PV)}{es:Array DictEntry}{n:Nat}(r:zgo h own att es.toList){name:Str}(e:att.lookup name=none):lookIn name (zct es n)=some none:=by
 unfold lookIn;dsimp only;rw [r.miss e,r.noref];rfl
theorem zaX {h:Heap}{own:List Addr}{a dx C:Addr}{att:List (Str × PV)}{body:Option (List PV)}(z:ZR h own a (.inst dx C att body)) :
  ∃ d es n,InstAt h a { cls:=.ref C,dict:=some dx,data:=d } C (some (zct es n))/\zp1 h own body d/\zgo h own att es.toList:=by
 obtain ⟨d,es,n,h1,h2,h3,h4⟩:=z
 refine ⟨d,es,n,⟨h1,rfl,?_,h3⟩,h2,h4⟩
 cases body with
 | none=>rw [show d=.plain from h2];rfl
 | some l=>obtain ⟨items,n',q,_⟩:=h2;rw [q];rfl
theorem ze0 {K:Frag}{C:Addr}{od:Obj}{name:Str}{v:Value}(ok:ClsOk K C)(hf:findIn K (.ref C) name=some none)(hl:lookIn name od=some (some v)):findObj K C (some od) name=some (.value v):=by
 obtain ⟨cd,hc,hd⟩:=ok.dict
 unfold findObj
 have ho:PySem.W.ownOf cd (some od) name=some (some v):=by unfold PySem.W.ownOf;rw [if_pos hd];exact hl
 rw [hc,Option.bind_some,hf,Option.bind_some]
 simp only [Option.bind_some,ho]
section
variable {prog:Program}{w:World}{A:Around}{E:Value->Shared->Prop}{s:Shared}{K:Frag}{x C:Addr}{ox:Obj}{od:Option Obj}{name:Str}{expr:Bool}{Q:Value->Shared->Prop}
theorem zg5:Manifest.canonical "list.__getattribute__" = "object.__getattribute__":=by decide +kernel
theorem zeq:builtinKind "list.__getattribute__" = some .slot:=by decide +kernel
theorem zdv:splitId "list.__getattribute__" = some ("list","__getattribute__"):=by decide +kernel
theorem zdw {v:Value}(ok:zaV K C)(X:K.In s.heap)(I:InstAt s.heap x ox C od)
  (hf:findObj K C od name=some (.value v)) (hh:handedIn v=true) (h:Q v { s with toks:=s.toks+1 }):wpAny (model prog w) A (getAttr (.ref x) name expr) Q E s:=by
 obtain ⟨hh',g,d,t,os⟩:=s
 have L0:=I.type (M:=model prog w)
 have L1:=looks_findIn (M:=model prog w) X ok.ga
 have L2:=looks_findIn (M:=model prog w) X ok.gattr
 have L3:=looks_find (M:=model prog w) X I hf
 obtain ⟨cd,hc,hm⟩:=ok.mro
 have sub:Looks (model prog w) hh' (isInstance (.ref x) (.type "list")) true:=L0.andThen (looks_mroIn X (by unfold mroIn;rw [hc,Option.bind_some,hm];rfl))
 dsimp only at X L0 L1 L2 L3
 unfold getAttr getAttrBy
 refine wpAny_bind (wpAny_mkText (wpAny_holding (wpAny_bind (L0.at (wpAny_bind (L1.at ?_))))))
 show wpAny _ _ (getAttrByItsOwn _ _ _ _ _ _) _ _ _
 unfold getAttrByItsOwn hookBefore callGetattribute boundAndCalled
 refine wpAny_bind (L2.at ?_)
 refine wpAny_bind (wpAny_attempt (wpAny_holding ?_))
 rw [show (expr && onTheHeap (Value.builtin "list.__getattribute__"))=false from by cases expr <;> rfl,if_neg (by decide)]
 rw [zaw.bind]
 refine wpAny_bind (wpAny_pure ?_)
 refine wpAny_call (codeAny_call_builtin zaw.plain zb3 (@check_slot (model prog w) _ _ _ "list.__getattribute__" "list" "__getattribute__" (.ref x) [.str name t] [] _ zeq zdv sub (PySem.F.args_list_getattribute_2 _ _) ?_))
 unfold Builtin.«object.__getattribute__»
 refine wpAny_bind (wpAny_pure (wpAny_bind (wpAny_pure (wpAny_bind (L0.at (wpAny_bind (L3.at ?_)))))))
 refine wpAny_pure ?_
 show wpAny _ _ (handedOut v) _ _ _
 rw [handedOut_of hh];exact wpAny_pure h
theorem ze4 {f:Value}{ga:String}{tf:Value}(X:K.In s.heap)(I:InstAt s.heap x ox C od)(hga:findIn K (.ref C) "__getattribute__" = some (some (.builtin ga)))(hcan:Manifest.canonical ga = "object.__getattribute__")(hk:findIn K (.ref C) "__getattr__" = some none)
  (hf:findIn K (.ref C) name=some (some f)) (ht:typeIn K f=some tf) (htf:(tf != .type "function" && tf != .type "method_descriptor" && tf != .type "wrapper_descriptor")=false) (hs:shadowIn od name=some false) {pl:Sem Bool} {Q:Value × List Value->Shared->Prop} (h:Q (f,[.ref x]) s) :
  wpAny (model prog w) A (getMethod (.ref x) name pl) Q E s:=by
 have hcan':(Manifest.canonical ga != "object.__getattribute__")=false:=by rw [hcan];exact bne_self_eq_false _
 unfold getMethod specialOf
 refine wpAny_bind (wpAny_bind (I.type.here ((looks_findIn X hga).here ?_)))
 dsimp only
 rw [hcan',if_neg (by decide)]
 refine wpAny_bind (wpAny_bind (I.type.here ((looks_findIn X hk).here ?_)))
 refine wpAny_bind (wpAny_bind (I.type.here ((looks_findIn X hf).here (wpAny_bind ((looks_typeIn X ht).here ?_)))))
 rw [htf,if_neg (by decide)]
 refine wpAny_bind (wpAny_loadPart I.at_ ?_)
 have hd:=I.dict
 cases e:ox.dict with
 | none=>exact wpAny_bind (wpAny_rule (wpAny_pure h))
 | some dx =>
  cases od with
  | none=>rw [e] at hd;exact hd.elim
  | some o =>
   rw [e] at hd
   obtain ⟨r,a,b⟩:=Option.map_eq_some_iff.mp hs
   refine wpAny_bind (wpAny_bind (wpAny_loadPart hd ?_))
   rw [nsLook_of a]
   refine wpAny_pure ?_
   rw [b]
   exact wpAny_bind (wpAny_rule (wpAny_pure h))
end
inductive zeo (K:Frag)(C:Addr):Prop
 | obj (h:zn0 K C)
 | lst (h:zaV K C)
theorem zeo.ok {K:Frag}{C:Addr}(h:zeo K C):ClsOk K C:=by cases h with | obj h=>exact h.toClsOk | lst h=>exact h.toClsOk
section
variable {g:Gl}{A:Around}{F:Fm}{σ:AS}{s:Shared}{P:PV->AS->Prop}{K:Frag}
inductive zgJ (K:Frag)(P:PV->AS->Prop)(name:Str)(p:PV)(σ₁:AS):Prop
 | mk (x:Addr) (dx:Addr) (C:Addr) (att:List (Str × PV)) (body:Option (List PV)) (q:PV) (h1:p=.raw (.ref x)) (h2:(x,.inst dx C att body)∈σ₁.zone) (h3:zeo K C) (h4:findIn K (.ref C) name=some none) (h5:att.lookup name=some q) (h6:q.handed=true) (h7:P q σ₁):zgJ K P name p σ₁
theorem zah {o:Expr}{name:Str}{pos:Pos}(hK:Fg g K)
  (h:EV g A F o σ (zgJ K P name))
  (he:eval (.Attribute o name pos) F.env=(do
   let ov <- eval o F.env
   standAt pos.atName
   let r <- holding [ov] (getAttr ov name true)
   letTemporaryGo o ov r
   pure r):=by left):EV g A F (.Attribute o name pos) σ P:=by
 intro s S Q E k
 rw [he]
 refine wpAny_bind (h s S _ E fun v p σ₁ s₁ h₁ S₁ hv st₁=>?_)
 obtain ⟨x,dx,C,att,body,q,rfl,hz,hC,hf,hl,hq,hP⟩:=h₁
 cases hv
 obtain ⟨d,es,n,I,hb,r⟩:=zaX (S₁.zs _ hz)
 obtain ⟨v,hv1,hv2⟩:=zgU (n:=n) r hl
 have hfo:=ze0 hC.ok hf hv1
 refine wpAny_bind (wpAny_standAt (wpAny_bind (wpAny_holding ?_)))
 have fin:∀ tk,wpAny (model g.prog g.w) A (letTemporaryGo o (.ref x) v>>=fun _=>pure v) Q E { s₁ with toks:=tk }:=fun tk=>by
  exact wpAny_bind (wpAny_letTemporaryGo (wpAny_pure (k v q σ₁ _ hP (S₁.toks _) hv2 (st₁.trans .toks))))
 cases hC with
 | obj hc=>exact get_value (hK.now S₁) I hc.ga hfo (hv2.handed hq) (fin _)
 | lst hc=>exact zdw hc (hK.now S₁) I hfo (hv2.handed hq) (fin _)
theorem zc7 {x dx C:Addr}{att:List (Str × PV)}{body:Option (List PV)}{name:Str}{f tf:Value}{pl:Sem Bool}{Q:Value × List Value->Shared->Prop}{E:Value->Shared->Prop}(hK:Fg g K)(hC:zeo K C)(S:Sat g F σ s)(hz:(x,.inst dx C att body)∈σ.zone)
  (hf:findIn K (.ref C) name=some (some f)) (ht:typeIn K f=some tf) (htf:(tf != .type "function" && tf != .type "method_descriptor" && tf != .type "wrapper_descriptor")=false) (hl:att.lookup name=none) (h:Q (f,[.ref x]) s):wpAny (model g.prog g.w) A (getMethod (.ref x) name pl) Q E s:=by
 obtain ⟨d,es,n,I,hb,r⟩:=zaX (S.zs _ hz)
 have hsh:shadowIn (some (zct es n)) name=some false:=by show Option.map _ (lookIn name (zct es n))=_;rw [zgO r hl];rfl
 cases hC with
 | obj hc=>exact ze4 (hK.now S) I hc.ga (by decide +kernel) hc.gattr hf ht htf hsh h
 | lst hc=>exact ze4 (hK.now S) I hc.ga zg5 hc.gattr hf ht htf hsh h
abbrev zh2 (g:Gl)(A:Around)(F:Fm)(P:PV->AS->Prop)(x:Addr)(f:Addr):List PV->AS->Prop:=fun ps σ₂=>CL g A F (.ref f) (.raw (.ref x)::ps) σ₂ P
inductive zer (K:Frag)(g:Gl)(A:Around)(F:Fm)(P:PV->AS->Prop)(name:Str)(args:List Expr)(p:PV)(σ₁:AS):Prop
 | mk (x:Addr) (dx:Addr) (C:Addr) (att:List (Str × PV)) (body:Option (List PV)) (f:Addr) (fd:FuncData) (bd:List Stmt) (h1:p=.raw (.ref x)) (h2:(x,.inst dx C att body)∈σ₁.zone) (h3:zeo K C) (h4:findIn K (.ref C) name=some (some (.ref f))) (h5:typeIn K (.ref f)=some (.type "function")) (h6:att.lookup name=none) (h7:zdB g f fd bd) (h8:EVs g A F args σ₁ (zh2 g A F P x f)):zer K g A F P name args p σ₁
theorem zak {o:Expr}{name:Str}{apos pos:Pos}{args:List Expr}{pl:Sem Bool}(hK:Fg g K)
  (h:EV g A F o σ (zer K g A F P name args))
  (he:eval (.Call (.Attribute o name apos) args [] pos) F.env=(do
   let ov <- eval o F.env
   standAt apos.atName
   let (f,first) <- holding [ov] (getMethod ov name pl)
   callWith pos f first (backTo pos (starEach args F.env)) []):=by left)
  (hns:(backTo pos (starEach args F.env)).any (·.1)=false:=by left):EV g A F (.Call (.Attribute o name apos) args [] pos) σ P:=by
 intro s S Q E k
 refine MethodCall_ (pl:=pl) (h s S _ E fun v p σ₁ s₁ h₁ S₁ hv st₁=>?_) he
 obtain ⟨x,dx,C,att,body,f,fd,bd,rfl,hz,hC,hf,ht,hl,hfn,h₁⟩:=h₁
 cases hv
 refine zc7 hK hC S₁ hz hf ht (by decide) hl ?_
 obtain ⟨o,e,hd⟩:=hfn.now S₁
 refine callWith_function (o:=o) (fd:=fd) (zaa h₁ hns S₁ fun vs ps σ₂ s₂ h₂ S₂ hvs st₂=>?_)
 obtain ⟨o',e',hd'⟩:=hfn.now S₂
 have:o'=o:=by
  obtain ⟨o₀,e₀,hc₀,hd₀⟩:=hfn.at_
  have q1:=S₂.old.get_of_cls e₀ hc₀
  have q2:=S₁.old.get_of_cls e₀ hc₀
  exact (Option.some.inj (e'.symm.trans q1)).trans (Option.some.inj (e.symm.trans q2)).symm
 subst this
 refine ⟨⟨e',hd⟩,h₂ s₂ (.ref x::vs) S₂ (.cons (.raw _) hvs) Q E fun a b σ' s' h' S' hr st'=>k a b σ' s' h' S' hr (st₁.trans (st₂.trans st'))⟩
abbrev zjW (g:Gl)(A:Around)(F:Fm)(P:PV->AS->Prop)(x:Addr)(id:String):List PV->AS->Prop:=fun ps σ₂=>CL g A F (.builtin id) (.raw (.ref x)::ps) σ₂ P
inductive zfS (K:Frag)(g:Gl)(A:Around)(F:Fm)(P:PV->AS->Prop)(name:Str)(args:List Expr)(p:PV)(σ₁:AS):Prop
 | mk (x:Addr) (dx:Addr) (C:Addr) (att:List (Str × PV)) (body:Option (List PV)) (id:String) (tf:Value) (h1:p=.raw (.ref x)) (h2:(x,.inst dx C att body)∈σ₁.zone) (h3:zeo K C) (h4:findIn K (.ref C) name=some (some (.builtin id))) (h5:typeIn K (.builtin id)=some tf) (h6:(tf != .type "function" && tf != .type "method_descriptor" && tf != .type "wrapper_descriptor")=false) (h7:att.lookup name=none) (h8:EVs g A F args σ₁ (zjW g A F P x id)):zfS K g A F P name args p σ₁
theorem zni {o:Expr}{name:Str}{apos pos:Pos}{args:List Expr}{pl:Sem Bool}(hK:Fg g K)
  (h:EV g A F o σ (zfS K g A F P name args))
  (he:eval (.Call (.Attribute o name apos) args [] pos) F.env=(do
   let ov <- eval o F.env
   standAt apos.atName
   let (f,first) <- holding [ov] (getMethod ov name pl)
   callWith pos f first (backTo pos (starEach args F.env)) []):=by left)
  (hns:(backTo pos (starEach args F.env)).any (·.1)=false:=by left):EV g A F (.Call (.Attribute o name apos) args [] pos) σ P:=by
 intro s S Q E k
 refine MethodCall_ (pl:=pl) (h s S _ E fun v p σ₁ s₁ h₁ S₁ hv st₁=>?_) he
 obtain ⟨x,dx,C,att,body,id,tf,rfl,hz,hC,hf,ht,htf,hl,h₁⟩:=h₁
 cases hv
 refine zc7 hK hC S₁ hz hf ht htf hl ?_
 refine callWith_builtin hns (zaa h₁ hns S₁ fun vs ps σ₂ s₂ h₂ S₂ hvs st₂=>?_)
 refine h₂ s₂ (.ref x::vs) S₂ (.cons (.raw _) hvs) Q E fun a b σ' s' h' S' hr st'=>k a b σ' s' h' S' hr (st₁.trans (st₂.trans st'))
end
end Mine
end
section
open PySem PySem.Calls PyProof.Rows PySem.W PySem.Builtin PySem.Builtin.ObjectAttr
namespace Mine
theorem zgo.put {h:Heap}{own:List Addr}{att:List (Str × PV)}{es:List DictEntry}(r:zgo h own att es){name:Str}{hs:Int}{t:Tok}{p:PV}{v:Value}(hv:VR h own p v) :
  zgo h own (zh3 name p att) (nsPutIn name.cps.size name.cps.toList (fun | some e=>{ e with val:=v } | none=>⟨hs,.str name t,v⟩) es).1:=by
 induction r with
 | nil=>exact .cons hv .nil
 | @cons x q u hs' t' att es hu r ih =>
  have e1:(Value.str x t').isStrByCps name.cps.size name.cps.toList=(x==name):=by rw [Value.isStrByCps_eq];rfl
  rw [zof];unfold nsPutIn
  by_cases hx:(x==name)=true
  ·rw [if_pos hx,if_pos (by rw [e1];exact hx)]
   have:x=name:=eq_of_beq hx
   subst this
   exact .cons hv r
  ·rw [if_neg hx,if_neg (by rw [e1];exact hx)]
   exact .cons hu ih
theorem zgo.length {h:Heap}{own:List Addr}{att:List (Str × PV)}{es:List DictEntry}(r:zgo h own att es):es.length=att.length:=by
 induction r with
 | nil=>rfl
 | cons _ _ ih=>simp [ih]
theorem zfA {name:Str}{hs:Int}{key v:Value}{es:Array DictEntry}{n:Nat}:∃ n',Obj.putName name hs key v (zct es n)=zct (nsPutIn name.cps.size name.cps.toList (fun | some e=>{ e with val:=v } | none=>⟨hs,key,v⟩) es.toList).1.toArray n':=by
 unfold Obj.putName
 dsimp only
 generalize nsPutIn name.cps.size name.cps.toList (fun | some e=>{ e with val:=v } | none=>⟨hs,key,v⟩) es.toList=r
 obtain ⟨es',b⟩:=r
 cases b
 ·exact ⟨n,rfl⟩
 ·exact ⟨n+1,rfl⟩
section
variable {prog:Program}{w:World}{A:Around}{E:Value->Shared->Prop}{s:Shared}{K:Frag}{x C dx:Addr}{ox:Obj}{name:Str}
theorem zlH {es:Array DictEntry}{n:Nat}{tk:Tok}{v:Value}{b:Bool}{Q:Fin->Shared->Prop}(ok:ClsOk K C)(X:K.In s.heap)(I:InstAt s.heap x ox C (some (zct es n)))(hd:ox.dict=some dx)(hz:es.size<=100)
    (hr : es.toList.any (·.refKey) = false)
    (h : ∀ hs h', h' = s.heap.update dx (Obj.putName name hs (.str name s.toks) v) -> h'.get? dx = some (Obj.putName name hs (.str name s.toks) v (zct es n)) -> Heap.SameBut dx s.heap h' -> Q (.done (.ret .none)) { s with heap := h', toks := s.toks + 1 }) :
    wpAny (model prog w) A (storeInOwnDict (.ref x) (.ref C) (.str name tk) name v b) Q E s := by
  obtain ⟨cd, hc, hd'⟩ := ok.dict
  obtain ⟨hx, hcl, hn, D⟩ := I
  obtain ⟨oc, odi, oda, osl⟩ := ox
  dsimp only at hcl hd
  subst hcl hd
  refine wpAny_bind (wpAny_pure (wpAny_bind (wpAny_bind (wpAny_loadPart hx (wpAny_bind ((looks_clsIn X hc).here ?_))))))
  rw [hd']
  refine wpAny_pure (a := some dx) (wpAny_bind (wpAny_pure (wpAny_bind ?_)))
  unfold nsSet
  refine wpAny_bind (wpAny_bind (wpAny_askSetting (wpAny_pure (wpAny_bind (wpAny_mkText (wpAny_bind (wpAny_loadPart D ?_)))))))
  dsimp only
  have c : (!es.any (·.key.isStr name) && es.any (·.refKey)) = false := by
    rw [<- Array.any_toList (as := es) (p := (·.refKey)), hr, Bool.and_false]
  rw [aRefKeyMayBeTheName_at, c]
  refine wpAny_updatePart D ?_
  obtain ⟨n', en⟩ := zfA (name := name) (hs := PyData.keyHash w.params name) (key := .str name s.toks) (v := v) (es := es) (n := n)
  have D' := Heap.get?_update_self (Obj.putName name (PyData.keyHash w.params name) (.str name s.toks) v) D (by rw [en]; rfl)
  refine wpAny_bind (wpAny_lookBehind (D'.trans (congrArg some en)) ?_ ?_)
  · refine pastItsLine_dict ?_
    have h1 : (nsPutIn name.cps.size name.cps.toList (fun | some e => { e with val := v } | none => ⟨PyData.keyHash w.params name, .str name s.toks, v⟩) es.toList).1.length <= es.size + 1 := by
      have : ∀ l : List DictEntry, (nsPutIn name.cps.size name.cps.toList (fun | some e => { e with val := v } | none => ⟨PyData.keyHash w.params name, .str name s.toks, v⟩) l).1.length <= l.length + 1 := by
        intro l
        induction l with
        | nil => exact Nat.le_refl _
        | cons e r ih => unfold nsPutIn; split
                         · simp
                         · simp only [List.length_cons]; lia
      have := this es.toList
      simpa using this
    rw [List.size_toArray, sizeLine_eq]; lia
  · exact wpAny_pure (h _ _ rfl D' (.update ..))
theorem zlp (self:Value):refuseLoop self "__setattr__" [.type "list",.type "object"]=pure ():=by kernel_rfl
theorem zl9 {R:Result->Shared->Prop}{od:Option Obj}{tk:Tok}{v:Value}{r:Option Value}(ok:zaV K C)(X:K.In s.heap)(I:InstAt s.heap x ox C od)(ht:takerIn K C name=some r)
  (h:∀ b,wpAny (model prog w) A.in1 (match r with | some a=>setByDescriptor a (.ref x) v | none=>storeInOwnDict (.ref x) (.ref C) (.str name tk) name v b)
   (fun fin s'=>match fin with | .done f=>R (.ok f) s' | .again c'=>c'.quiet=true/\codeAny (model prog w) A c' R s') (fun e s'=>R (.error e) s') s) :
  codeAny (model prog w) A (.call (.builtin "object.__setattr__") ⟨[.ref x,.str name tk,v],[]⟩) R s:=by
 have SF:=PySem.F.store_object
 obtain ⟨cd,hc,ho⟩:=ok.mro
 have sub:Looks (model prog w) s.heap (isInstance (.ref x) (.type "object")) true:=I.type.andThen (looks_mroIn X (by unfold mroIn;rw [hc,Option.bind_some,ho];rfl))
 refine codeAny_call_builtin SF.slot.plain SF.entry (@check_slot (model prog w) _ _ s "object.__setattr__" "object" "__setattr__" (.ref x) [.str name tk,v] [] _ SF.kind SF.split sub (SF.args (.ref x) (.str name tk) v) ?_)
 obtain ⟨attr,ha,hr⟩:=Option.bind_eq_some_iff.mp ht
 have hm:Looks (model prog w) s.heap (mroOf (.ref C)) cd.mro:=(looks_clsIn X hc).andThen .now
 have L3:Looks (model prog w) s.heap (storeTaker? attr) r:=by
  cases attr with
  | none=>cases hr;exact .now
  | some a =>
   obtain ⟨b,hb,rfl⟩:=Option.map_eq_some_iff.mp hr
   refine (looks_takesIn X hb).andThen ?_
   cases b <;> exact .now
 rw [osa_eq,refuse_eq]
 refine wpAny_bind (wpAny_bind (I.type.here (wpAny_bind (hm.here ?_))))
 rw [ho,refuseLoop_ref,zlp]
 refine wpAny_pure (wpAny_bind (I.type.here (wpAny_bind ((looks_findIn X ha).here (wpAny_bind (L3.here ?_))))))
 exact h _
end
section
variable {g:Gl}{A:Around}{F:Fm}{σ:AS}{s:Shared}{K:Frag}
theorem ziw {x dx C:Addr}{att:List (Str × PV)}{body:Option (List PV)}{name:Str}{v:Value}{p:PV}{zone':List (Addr × MO)}{Q:Unit->Shared->Prop}{E:Value->Shared->Prop}(hK:Fg g K)(hC:zeo K C)(S:Sat g F σ s)
  (U:ZAt x (.inst dx C att body) (.inst dx C (zh3 name p att) body) σ.zone zone') (hf:findIn K (.ref C) name=some none) (hv:VR s.heap σ.own p v) (hz:att.length<=100)
  (k:∀ s',Sat g F ⟨σ.loc,zone'⟩ s'->Stp [] σ.own s (AS.own ⟨σ.loc,zone'⟩) s'->Q () s'):wpAny (model g.prog g.w) A (setAttr (.ref x) name v) Q E s:=by
 obtain ⟨pre,post,e1,e2⟩:=U.split
 obtain ⟨d,es,n,h1,h2,h3,h4⟩:=S.zs (x,.inst dx C att body) (by rw [e1];simp)
 have hnc:notCls { cls:=.ref C,dict:=some dx,data:=d }=true:=by
  cases body with
  | none=>rw [show d=.plain from h2];rfl
  | some l=>obtain ⟨items,n',q,_⟩:=h2;rw [q];rfl
 have I:InstAt s.heap x { cls:=.ref C,dict:=some dx,data:=d } C (some (zct es n)):=⟨h1,rfl,hnc,h3⟩
 have ht:takerIn K C name=some none:=by unfold takerIn;rw [hf];rfl
 have hlen:=h4.length
 simp only [Array.length_toList] at hlen
 have hxd:x≠dx:=by
  have nd:=(List.nodup_append.mp S.nd).2.1
  unfold AS.own at nd
  rw [e1] at nd
  simp only [List.flatMap_append,List.flatMap_cons,MO.addrs] at nd
  have:=(List.nodup_append.mp (List.nodup_append.mp nd).2.1).1
  intro q;subst q
  simp at this
 have store:∀ (A':Around) (b:Bool) (s₁:Shared) (tk:Tok) (Q':Fin->Shared->Prop) (E':Value->Shared->Prop),s₁={ s with toks:=s.toks+1 }->(∀ s',Sat g F ⟨σ.loc,zone'⟩ s'->Stp [] σ.own s (AS.own ⟨σ.loc,zone'⟩) s'->Q' (.done (.ret .none)) s')->wpAny (model g.prog g.w) A' (storeInOwnDict (.ref x) (.ref C) (.str name tk) name v b) Q' E' s₁:=by
  rintro A' b _ tk Q' E' rfl hq
  refine zlH hC.ok (hK.now (S.toks _)) I rfl (by lia) h4.noref fun hs h' eh D' hsb=>?_
  obtain ⟨n',en⟩:=zfA (name:=name) (hs:=hs) (key:=.str name (s.toks+1)) (v:=v) (es:=es) (n:=n)
  have keepx:∀ b o,b∉(MO.inst dx C att body).addrs x->s.heap.get? b=some o->h'.get? b=some o:=fun b o hb e=>hsb.extBut b o (fun q=>hb (by simp [MO.addrs,q])) e
  obtain ⟨S',st⟩:=S.upd U rfl (h':=h') keepx fun kp=>⟨d,_,n',hsb.extBut x _ hxd h1,(by
   cases body with
   | none=>exact h2
   | some l=>obtain ⟨items,n₂,q1,q2⟩:=h2;exact ⟨items,n₂,q1,q2.mono kp⟩),D'.trans (congrArg some en),by
    have:=(h4.mono kp).put (name:=name) (hs:=hs) (t:=s.toks+1) (hv.mono kp)
    simpa using this⟩
  exact hq _ (S'.toks _) (st.trans .toks)
 have hsa:findIn K (.ref C) "__setattr__" = some (some (.builtin "object.__setattr__")):=by cases hC with | obj h=>exact h.sa | lst h=>exact h.sa
 refine set_plain (hK.now S) I hsa ?_
 cases hC with
 | obj hc =>
  refine osa_open (s:={ s with toks:=s.toks+1 }) (hK.now (S.toks _)) I hc.plain ht fun b=>?_
  exact store _ b _ _ _ _ rfl fun s' S' st=>k s' S' st
 | lst hc =>
  refine zl9 (s:={ s with toks:=s.toks+1 }) hc (hK.now (S.toks _)) I ht fun b=>?_
  exact store _ b _ _ _ _ rfl fun s' S' st=>k s' S' st
inductive zbV (K:Frag)(P:Fl->AS->Prop)(name:Str)(q:PV)(p:PV)(σ₂:AS):Prop
 | mk (x:Addr) (dx:Addr) (C:Addr) (att:List (Str × PV)) (body:Option (List PV)) (zone':List (Addr × MO)) (h1:p=.raw (.ref x)) (h2:zeo K C) (h3:ZAt x (.inst dx C att body) (.inst dx C (zh3 name q att) body) σ₂.zone zone') (h4:findIn K (.ref C) name=some none) (h5:att.length<=100) (h6:P .next ⟨σ₂.loc,zone'⟩):zbV K P name q p σ₂
abbrev zdT (K:Frag)(g:Gl)(A:Around)(F:Fm)(P:Fl->AS->Prop)(o:Expr)(name:Str):PV->AS->Prop:=fun q σ₁=>EV g A F o σ₁ (zbV K P name q)
theorem z8 {o value:Expr}{name:Str}{tpos pos:Pos}{P:Fl->AS->Prop}(hK:Fg g K)
  (h:EV g A F value σ (zdT K g A F P o name))
  (hs:swapsWith value (some (.Attribute o name tpos)) pos.line F.env=pure false:=by left):EX g A F (.Assign [.Attribute o name tpos] value pos) σ P:=by
 intro s S Q E k
 rw [plainObj_exec_Assign_Attribute o name tpos value pos hs]
 refine wpAny_bind (wpAny_standAt (wpAny_bind (h s S _ E fun v q σ₁ s₁ h₁ S₁ hv st₁=>?_)))
 rw [assign_Attribute]
 refine wpAny_bind (wpAny_bind (wpAny_holding ?_))
 refine h₁ s₁ S₁ _ E fun ov p σ₂ s₂ h₂ S₂ hp st₂=>?_
 obtain ⟨x,dx,C,att,body,zone',rfl,hC,U,hf,hz,hP⟩:=h₂
 cases hp
 refine wpAny_bind (wpAny_standAt (wpAny_bind (wpAny_holding ?_)))
 refine ziw hK hC S₂ U hf (hv.mono (S₁.kp st₂)) hz fun s₃ S₃ st₃=>?_
 refine wpAny_release (wpAny_pure ?_)
 exact k .next .next _ s₃ hP S₃ .next (Stp.up (st₁.trans (st₂.trans st₃)))
end
end Mine
end
section
open PySem PySem.Calls PyProof.Rows PySem.W PySem.Builtin PySem.Builtin.ObjectAttr
namespace Mine
section
variable {prog:Program}{w:World}{A:Around}{E:Value->Shared->Prop}{s:Shared}{K:Frag}{x C dx:Addr}{ox:Obj}{od:Option Obj}{name:Str}
theorem zk8 {M:Model}{i owner n:String}{self:Value}{rest:List Value}{Q:Unit->Shared->Prop}
  (hk:builtinKind i=some .method) (hs:splitId i=some (owner,n)) (hi:Looks M s.heap (isInstance self (.type owner)) true) (ha:argsOk i ⟨self::rest,[]⟩) (q:Q () s) :
  wpAny M A (checkBuiltinCall i ⟨self::rest,[]⟩) Q E s:=by
 simp -iota only [checkBuiltinCall,hk,hs]
 refine wpAny_bind (hi.here ?_)
 simp -iota only [Bool.not_true,Bool.false_eq_true,if_false]
 cases hsig:Manifest.signature? i with
 | none=>exact wpAny_pure q
 | some sig =>
  simp -iota only [argsOk,hsig] at ha
  have h2:Bind.checkArgs i sig ⟨self::rest,[]⟩=pure ():=ha
  show wpAny M A (Bind.checkArgs i sig ⟨self::rest,[]⟩) Q E s
  rw [h2];exact wpAny_pure q
structure zhy (id n:String)(b:Builtin):Prop where
 kind:builtinKind id=some .method\/builtinKind id=some .slot
 split:splitId id=some ("list",n)
 entry:entryFor table id=some b
 plain:plainId id=true
theorem zps (ok:zaV K C)(X:K.In s.heap)(I:InstAt s.heap x ox C od):Looks (model prog w) s.heap (isInstance (.ref x) (.type "list")) true:=by
 obtain ⟨cd,hc,ho⟩:=ok.mro
 exact I.type.andThen (looks_mroIn X (by unfold mroIn;rw [hc,Option.bind_some,ho];rfl))
theorem zlD {id n:String}{b:Builtin}{rest:List Value}{R:Result->Shared->Prop}(L:zhy id n b)(ok:zaV K C)(X:K.In s.heap)(I:InstAt s.heap x ox C od)(ha:argsOk id ⟨.ref x::rest,[]⟩)
  (h:wpAny (model prog w) A.in1 (b ⟨.ref x::rest,[]⟩) (fun fin s'=>match fin with | .done f=>R (.ok f) s' | .again c'=>c'.quiet=true/\codeAny (model prog w) A c' R s') (fun e s'=>R (.error e) s') s) :
  codeAny (model prog w) A (.call (.builtin id) ⟨.ref x::rest,[]⟩) R s:=by
 refine codeAny_call_builtin L.plain L.entry ?_
 have hl:=zps (prog:=prog) (w:=w) ok X I
 rcases L.kind with hk | hk
 ·exact zk8 hk L.split hl ha h
 ·exact @check_slot (model prog w) _ _ s id "list" n (.ref x) rest [] _ hk L.split hl ha h
theorem zcC {id n:String}{b:Builtin}{rest:List Value}{Q:Value->Shared->Prop}(L:zhy id n b)(ok:zaV K C)(X:K.In s.heap)(I:InstAt s.heap x ox C od)(ha:argsOk id ⟨.ref x::rest,[]⟩)
  (h:wpAny (model prog w) A.in1 (b ⟨.ref x::rest,[]⟩) (fun fin s'=>∃ v,fin=.done (.ret v)/\Q v s') E s):wpAny (model prog w) A (call (.builtin id) (.ref x::rest)) Q E s:=by
 refine wpAny_call (zlD L ok X I ha (wpAny_mono h (fun fin s' q=>?_) fun _ _ z=>z))
 obtain ⟨v,rfl,hq⟩:=q
 exact hq
theorem zeg {id:String}{args:List Value}{Q:Option Value->Shared->Prop}(X:K.In s.heap)(I:InstAt s.heap x ox C od)(hf:findIn K (.ref C) name=some (some (.builtin id)))(hb:∀ self,bindSpecial (.builtin id) self=pure (.builtin id,[self]))
  (h:wpAny (model prog w) A (call (.builtin id) (.ref x::args)) (fun v=>Q (some v)) E s):wpAny (model prog w) A (callSpecial? (.ref x) name args) Q E s:=by
 refine wpAny_bind (wpAny_bind (I.type.here ((looks_findIn X hf).here (wpAny_holding ?_))))
 rw [hb]
 exact wpAny_bind (wpAny_pure (wpAny_bind (wpAny_mono h (fun _ _ z=>wpAny_pure z) fun _ _ z=>z)))
theorem zfF {k:Value}{nm:Str}{Q:Value->Shared->Prop}(ok:zaV K C)(X:K.In s.heap)(I:InstAt s.heap x ox C od)(h:Q k s):wpAny (model prog w) A (sequenceKey (.ref x) k nm) Q E s:=by
 obtain ⟨cd,hc,ho⟩:=ok.mro
 have L1:Looks (model prog w) s.heap (isSubtype (.ref C) (.type "collections.deque")) false:=looks_mroIn X (by unfold mroIn;rw [hc,Option.bind_some,ho];rfl)
 unfold sequenceKey
 refine wpAny_bind (I.type.here ?_)
 show wpAny _ _ (seqItemTypes.anyM (fun n=>isSubtype (.ref C) (.type n))>>=_) _ _ _
 refine wpAny_bind ?_
 unfold seqItemTypes
 show wpAny _ _ (isSubtype _ _>>=_) _ _ _
 refine wpAny_bind (L1.here ?_)
 exact wpAny_pure (wpAny_pure h)
theorem zef {i:Value}{id:String}{Q:Value->Shared->Prop}(ok:zaV K C)(X:K.In s.heap)(I:InstAt s.heap x ox C od)(hf:findIn K (.ref C) "__getitem__" = some (some (.builtin id)))(hb:∀ self,bindSpecial (.builtin id) self=pure (.builtin id,[self]))
  (h:wpAny (model prog w) A (call (.builtin id) [.ref x,i]) Q E s):wpAny (model prog w) A (getItem (.ref x) i) Q E s:=by
 unfold getItem
 refine wpAny_holding (wpAny_bind (zfF ok X I (wpAny_bind (zeg X I hf hb (wpAny_mono h (fun _ _ z=>wpAny_pure z) fun _ _ z=>z)))))
theorem ziE {i v:Value}{id:String}{Q:Unit->Shared->Prop}(ok:zaV K C)(X:K.In s.heap)(I:InstAt s.heap x ox C od)(hf:findIn K (.ref C) "__setitem__" = some (some (.builtin id)))(hb:∀ self,bindSpecial (.builtin id) self=pure (.builtin id,[self]))
  (h:wpAny (model prog w) A (call (.builtin id) [.ref x,i,v]) (fun _=>Q ()) E s):wpAny (model prog w) A (setItem (.ref x) i v) Q E s:=by
 unfold setItem
 refine wpAny_holding (wpAny_bind (zfF ok X I (wpAny_bind (zeg X I hf hb (wpAny_mono h (fun _ _ z=>wpAny_pure z) fun _ _ z=>z)))))
theorem zlO:zhy "list.append" "append" Builtin.«list.append»:=⟨by first | exact .inl (by decide +kernel) | exact .inr (by decide +kernel),by decide +kernel,entry_list_append,by decide +kernel⟩
theorem zgC:zhy "list.__getitem__" "__getitem__" Builtin.«list.__getitem__»:=⟨by first | exact .inl (by decide +kernel) | exact .inr (by decide +kernel),by decide +kernel,entryFor_of_tree (by kernel_rfl),by decide +kernel⟩
theorem zkE:zhy "list.__setitem__" "__setitem__" Builtin.«list.__setitem__»:=⟨by first | exact .inl (by decide +kernel) | exact .inr (by decide +kernel),by decide +kernel,entryFor_of_tree (by kernel_rfl),by decide +kernel⟩
theorem zqj:zhy "list.__len__" "__len__" Builtin.«list.__len__»:=⟨by first | exact .inl (by decide +kernel) | exact .inr (by decide +kernel),by decide +kernel,entryFor_of_tree (by kernel_rfl),by decide +kernel⟩
theorem zry:zhy "list.pop" "pop" Builtin.«list.pop»:=⟨by first | exact .inl (by decide +kernel) | exact .inr (by decide +kernel),by decide +kernel,entryFor_of_tree (by kernel_rfl),by decide +kernel⟩
theorem zou:zhy "list.__iter__" "__iter__" Builtin.«list.__iter__»:=⟨by first | exact .inl (by decide +kernel) | exact .inr (by decide +kernel),by decide +kernel,entryFor_of_tree (by kernel_rfl),by decide +kernel⟩
theorem zok:zhy "list.__init__" "__init__" Builtin.«list.__init__»:=⟨by first | exact .inl (by decide +kernel) | exact .inr (by decide +kernel),by decide +kernel,entryFor_of_tree (by kernel_rfl),by decide +kernel⟩
theorem zff {items:Array Value}{n:Nat}{k:Int}{oc:Value}{od':Option Addr}{t:Tok}{v:Value}{Q:Fin->Shared->Prop}(hx:s.heap.get? x=some { cls:=oc,dict:=od',data:=.seq items n })(hz:items.size<=16777216)(h0:0<=k)(hj:items[k.toNat]?=some v)(hq:Q (.done (.ret v)) s) :
  wpAny (model prog w) A (Builtin.«list.__getitem__» ⟨[.ref x,.int k t],[]⟩) Q E s:=by
 have hjz:k.toNat < items.size:=by
  rcases Nat.lt_or_ge k.toNat items.size with q | q
  ·exact q
  ·rw [Array.getElem?_eq_none q] at hj;cases hj
 have hk:Builtin.List.listFitsIndex k=true:=fitsIndex_of h0 (Int.lt_of_lt_of_le (show k < 16777217 by lia) (by decide))
 show wpAny _ _ (Builtin.List.listSubscript? (.int k t)>>=_) _ _ s
 refine wpAny_bind (wpAny_listSubscript_int hk ?_)
 obtain ⟨j,rfl⟩:=Int.eq_ofNat_of_zero_le h0
 have hj':items[j]?=some v:=hj
 show wpAny _ _ ((seqItemAt x j>>=fun r=>pure (r.map (j,·)))>>=_) _ _ s
 refine wpAny_bind (wpAny_bind (wpAny_seqItemAt hx rfl (wpAny_pure ?_)))
 rw [hj']
 first
  | exact wpAny_bind (wpAny_pure (wpAny_pure hq))
  | exact wpAny_pure (wpAny_pure hq)
theorem zdV {items:Array Value}{n:Nat}{oc:Value}{od':Option Addr}{sl:Addr}{vl vu:Value}{lo hi:Option Int}{Q:Fin->Shared->Prop}(hx:s.heap.get? x=some { cls:=oc,dict:=od',data:=.seq items n })(hz:items.size<=sizeLine)
  (hs:s.heap.IsSliceOf sl vl vu .none) (pl:IsPart vl lo) (pu:IsPart vu hi) (hq:Q (.done (.ret (.ref s.heap.objs.size))) { s with heap:=s.heap.push { cls:=.type "list",data:=.seq (slicePick items lo hi none) } }) :
  wpAny (model prog w) A (Builtin.«list.__getitem__» ⟨[.ref x,.ref sl],[]⟩) Q E s:=by
 obtain ⟨os,hos,hcs,hds⟩:=id hs
 have hTs:s.TypeIs (.ref sl) "slice":=⟨os,hos,hcs⟩
 show wpAny _ _ (Builtin.List.listSubscript? (.ref sl)>>=_) _ _ s
 refine wpAny_bind ?_
 unfold Builtin.List.listSubscript?
 refine wpAny_bind (wpAny_specialOf hTs slice_no_index ?_)
 simp -iota only [Option.isNone_none,if_true]
 refine wpAny_pure ?_
 show wpAny _ _ (typeOf (.ref sl)>>=_) _ _ s
 refine wpAny_bind (wpAny_typeOf hTs ?_)
 rw [if_neg (by decide)]
 rw [listSliceParts_eq]
 refine wpAny_bind (wpAny_bind (wpAny_field hos hds (x:=.none) rfl (wpAny_bind (wpAny_listPart .none ?_))))
 rw [if_neg (by decide)]
 refine wpAny_bind (wpAny_field hos hds (x:=vl) rfl (wpAny_bind (wpAny_listPart pl ?_)))
 refine wpAny_bind (wpAny_field hos hds (x:=vu) rfl (wpAny_bind (wpAny_listPart pu (wpAny_pure ?_))))
 refine wpAny_bind (m:=Builtin.List.listItems (.ref x)) ?_
 unfold Builtin.List.listItems
 refine wpAny_bind (wpAny_seqItems hx rfl (wpAny_pure ?_))
 refine wpAny_bind (wpAny_of_eq (sliceIndices_raw lo hi none items.size (by simp -iota)) ?_)
 exact wpAny_bind (wpAny_newObj_type (wpAny_pure hq) (Nat.le_trans (slicePick_size_le items lo hi none) hz))
theorem zbQ {items its:Array Value}{n nv:Nat}{oc:Value}{od':Option Addr}{sl v:Addr}{vl vu:Value}{lo hi:Option Int}{Q:Fin->Shared->Prop}(hx:s.heap.get? x=some { cls:=oc,dict:=od',data:=.seq items n })(hf:({ cls:=oc,dict:=od',data:=.seq items n }:Obj).isFreed=false)
  (hz:items.size+its.size<=1000000) (hxv:x≠v)
  (hs:s.heap.IsSliceOf sl vl vu .none) (pl:IsPart vl lo) (pu:IsPart vu hi) (hv:s.heap.get? v=some (zam its nv))
  (hq:∀ h' m,Heap.SameBut x s.heap h'->h'.get? x=some { cls:=oc,dict:=od',data:=.seq (items.extract 0 (lo.elim 0 (clipAt items.size))++its++items.extract (max (lo.elim 0 (clipAt items.size)) (hi.elim items.size (clipAt items.size))) items.size) m }->Q (.done (.ret .none)) { s with heap:=h' }) :
  wpAny (model prog w) A (Builtin.«list.__setitem__» ⟨[.ref x,.ref sl,.ref v],[]⟩) Q E s:=by
 obtain ⟨os,hos,hcs,hds⟩:=id hs
 have hTs:s.TypeIs (.ref sl) "slice":=⟨os,hos,hcs⟩
 have hTv:s.TypeIs (.ref v) "list":=⟨_,hv,rfl⟩
 show wpAny _ _ (Builtin.List.listSubscript? (.ref sl)>>=_) _ _ s
 refine wpAny_bind ?_
 unfold Builtin.List.listSubscript?
 refine wpAny_bind (wpAny_specialOf hTs slice_no_index ?_)
 simp only [Option.isNone_none,if_true]
 refine wpAny_pure ?_
 show wpAny _ _ (typeOf (.ref sl)>>=_) _ _ s
 refine wpAny_bind (wpAny_typeOf hTs ?_)
 rw [if_neg (by decide)]
 rw [listSliceParts_eq]
 refine wpAny_bind (wpAny_bind (wpAny_field hos hds (x:=.none) rfl (wpAny_bind (wpAny_listPart .none ?_))))
 rw [if_neg (by decide)]
 refine wpAny_bind (wpAny_field hos hds (x:=vl) rfl (wpAny_bind (wpAny_listPart pl ?_)))
 refine wpAny_bind (wpAny_field hos hds (x:=vu) rfl (wpAny_bind (wpAny_listPart pu (wpAny_pure ?_))))
 dsimp only
 have hsame:Builtin.List.listSameRef (.ref x) (.ref v)=false:=by show (x==v)=false;simpa using hxv
 rw [hsame]
 unfold Builtin.List.listAllItems
 refine wpAny_bind ?_
 refine wpAny_bind (wpAny_typeOf hTv ?_)
 rw [if_pos (by decide)]
 unfold Builtin.List.listItems
 refine wpAny_bind (wpAny_seqItems hv rfl (wpAny_pure ?_))
 refine wpAny_bind ?_
 refine wpAny_bind (wpAny_seqItems hx rfl (wpAny_pure ?_))
 refine wpAny_bind (wpAny_of_eq (sliceIndices_raw lo hi none items.size (by simp)) ?_)
 rw [sliceBounds_plain]
 dsimp only
 rw [if_pos (by decide)]
 refine wpAny_bind (wpAny_rule ?_)
 have hlong:Builtin.List.listTooLong (items.size+its.size)=false:=decide_eq_false (Nat.not_lt_of_le (leS hz rfl))
 rw [hlong,if_neg (by decide)]
 generalize hlo:lo.elim 0 (clipAt items.size)=a at hq ⊢
 generalize hhi:hi.elim items.size (clipAt items.size)=b at hq ⊢
 have ea:(a:Int).toNat=a:=Int.toNat_natCast a
 have em:(max (a:Int) (b:Int)).toNat=max a b:=by rcases Nat.le_total a b with q | q;rw [Nat.max_eq_right q,Int.max_eq_right (Int.ofNat_le.mpr q)];rfl;rw [Nat.max_eq_left q,Int.max_eq_left (Int.ofNat_le.mpr q)];rfl
 rw [ea,em]
 have hlen:((items.extract 0 a++its++items.extract (max a b) items.size)).size<=3000000:=by rw [Array.size_append,Array.size_append,Array.size_extract,Array.size_extract];exact Nat.le_trans (Nat.add_le_add (Nat.le_trans (Nat.add_le_add_right (Nat.le_trans (Nat.sub_le _ _) (Nat.min_le_right _ _)) _) hz) (Nat.le_trans (Nat.sub_le _ _) (Nat.le_trans (Nat.min_le_left _ _) (leB hz rfl)))) (show 1000000+1000000<=3000000 by decide)
 refine wpAny_bind (m:=updateSeq x fun xs=>xs.extract 0 a++its++xs.extract (max a b) xs.size) ?_
 refine wpAny_updateSeq hx rfl ?_ (leS (leB hz rfl:items.size<=1000000) rfl) (Nat.le_succ_of_le (leS hlen rfl))
 refine wpAny_bind (wpAny_letGo (wpAny_pure ?_))
 have hg:=Heap.get?_update_self (Obj.mapSeq fun xs=>xs.extract 0 a++its++xs.extract (max a b) xs.size) hx (by simpa [Obj.mapSeq,Obj.isFreed] using hf)
 have hm:∃ m,Obj.mapSeq (fun xs=>xs.extract 0 a++its++xs.extract (max a b) xs.size) ({ cls:=oc,dict:=od',data:=.seq items n }:Obj)={ cls:=oc,dict:=od',data:=.seq (items.extract 0 a++its++items.extract (max a b) items.size) m }:=⟨_,rfl⟩
 obtain ⟨m,hm⟩:=hm
 exact hq _ m (.update ..) (hg.trans (congrArg some hm))
end
end Mine
end
section
open PySem PySem.Calls PyProof.Rows PySem.W PySem.Builtin PySem.Builtin.ObjectAttr
namespace Mine
section
variable {prog:Program}{w:World}{A:Around}{R:Result->Shared->Prop}{I:Addr}{fp wr:List Addr}{G:Array GenState->Array GenState->Prop}{n:Nat}{P:Nat->Value->Prop}{St:Nat->Shared->Prop}
set_option tactic.hygienic true in
theorem zhi (W:WalksS prog w A.in1 I fp wr G n P St)(base:Int)(val:Nat->Int)(hval:∀ i v,P i v->∃ t,v=.int (val i) t)(hfit:∀ j,j < n->InLong (val j)/\InLong (base+preSum val (j+1)))(S:Addr)(hSf:S∉fp) :
  ∀ (k i:Nat) (s:Shared) (tA:Tok) (c:Nat),n - i=k->i<=n->St i s->s.heap.get? S=some { cls:=.type "list",dict:=none,data:=.seq #[.int (base+preSum val i) tA] c,slots:=#[] } ->
  (∀ s' t',Moved (S::wr) G s s'->R (.ok (.ret (.int (base+preSum val n) t'))) s')->codeAny (model prog w) A (.builtin "sum.loop" ⟨[.ref I,.ref S,rawInt 0,rawInt 0],[]⟩) R s:=by
 have hSw:S∉wr:=fun h=>hSf (W.sub _ h)
 have hsub:∀ b∈wr,b∈S::wr:=fun b hb=>List.mem_cons_of_mem _ hb
 intro k
 induction k with
 | zero =>
  intro i s tA c hk hi hst hS hR
  obtain rfl:i=n:=Nat.le_antisymm hi (Nat.le_of_sub_eq_zero hk)
  refine codeAny_builtin PySem.F.entry_sum_loop ?_
  rw [Around.under_plainId PySem.F.plain_sum_loop _]
  show wpAny _ A.in1 (seqItems? (.ref S)>>=_) _ _ s
  refine wpAny_bind (wpAny_seqItems hS rfl ?_)
  show wpAny _ A.in1 (tryCatch (pyNext (.ref I)) _>>=_) _ _ s
  refine wpAny_bind (wpAny_tryCatch (W.done s _ _ hst fun s' hm=>?_))
  exact wpAny_pure (hR s' tA (hm.mono hsub))
 | succ k ih =>
  intro i s tA c hk hi hst hS hR
  have hlt:i < n:=Nat.lt_of_sub_pos (hk ▸ Nat.succ_pos k)
  refine codeAny_builtin PySem.F.entry_sum_loop ?_
  rw [Around.under_plainId PySem.F.plain_sum_loop _]
  show wpAny _ A.in1 (seqItems? (.ref S)>>=_) _ _ s
  refine wpAny_bind (wpAny_seqItems hS rfl ?_)
  show wpAny _ A.in1 (tryCatch (pyNext (.ref I)) _>>=_) _ _ s
  refine wpAny_bind (wpAny_tryCatch (W.item i s _ _ hlt hst fun v s' hP hst' hm=>?_))
  obtain ⟨t,rfl⟩:=hval i v hP
  have hS':=hm.heap S _ hSw hS
  have hf:=hfit i hlt
  have ep:base+preSum val (i+1)=base+preSum val i+val i:=(Int.add_assoc base _ _).symm
  rw [ep] at hf
  show wpAny _ A.in1 (if (_:Bool)=true then (mkInt (base+preSum val i+val i)>>=_) else _) _ _ _
  split
  ·refine wpAny_bind (wpAny_mkInt ?_)
   show wpAny _ A.in1 (updateSeq S (fun _=>#[.int (base+preSum val i+val i) s'.toks])>>=_) _ _ _
   refine wpAny_bind ?_
   refine wpAny_updateSeq hS' rfl (wpAny_pure ⟨plainId_quiet PySem.F.plain_sum_loop _,ih (i+1) _ s'.toks _ (congrArg Nat.pred hk) hlt (W.frame _ s' _ _ hst' (by first | exact Nat.le_refl _ | exact Nat.le_succ _ | lia) fun b hb o e=>?_) (by rw [ep];exact Heap.get?_update_self _ hS' rfl) fun s'' t'' hm''=>?_⟩)
   ·exact (Heap.get?_update_other _ _ (fun h:S=b=>hSf (by rw [h];exact hb))).trans e
   ·refine hR s'' t'' (Moved.trans W.gtrans ((hm.mono hsub).then_heap (by first | exact Nat.le_refl _ | exact Nat.le_succ _ | lia) fun b o hb e=>?_) hm'')
    exact (Heap.get?_update_other _ _ (fun h:S=b=>hb (by rw [h];exact List.mem_cons_self))).trans e
  ·rename_i hno
   exfalso
   apply hno
   obtain ⟨⟨a1,a2⟩,b1,b2⟩:=hf
   have h63:(2:Int) ^ 63=9223372036854775808:=by decide
   rw [h63] at a1 a2 b1 b2
   have f:∀ x:Int,-9223372036854775808<=x->x < 9223372036854775808->(decide (-(2 ^ 63)<=x) && decide (x < 2 ^ 63))=true:=fun x h1 h2=>by
    rw [h63,decide_eq_true h1,decide_eq_true h2];rfl
   show ((decide (-(2 ^ 63)<=val i) && decide (val i < 2 ^ 63)) && (decide (-(2 ^ 63)<=base+preSum val i+val i) && decide (base+preSum val i+val i < 2 ^ 63)))=true
   rw [f _ a1 a2,f _ b1 b2] <;> rfl
theorem zlK (a b:Value):argsOk "sum" ⟨[a,b],[]⟩:=by unfold argsOk;kernel_rfl
end
section
variable {prog:Program}{w:World}{A:Around}{E:Value->Shared->Prop}{s:Shared}
theorem zhO {x:Value}{base:Int}{tb:Tok}{Q:Value->Shared->Prop}(hb:InLong base)
  (h:wpAny (model prog w) A.in1 (pyIter x) (fun it s₂=>∃ I fp wr G n P St val,it=.ref I/\WalksS prog w A.in1 I fp wr G n P St/\St 0 s₂/\(∀ b∈fp,b < s₂.heap.objs.size) /\
   (∀ i v,P i v->∃ t,v=.int (val i) t)/\(∀ j,j < n->InLong (val j)/\InLong (base+preSum val (j+1))) /\
   ∀ s' t',Moved wr G s₂ s'->Q (.int (base+preSum val n) t') s') E s) :
  wpAny (model prog w) A (call (.builtin "sum") [x,.int base tb]) Q E s:=by
 refine call_function_tree PySem.F.kind_sum PySem.F.plain_sum PySem.F.entry_sum (zlK _ _) ?_
 unfold Builtin.«sum»
 simp only [List.length_cons,List.length_nil]
 rw [if_neg (by decide)]
 refine wpAny_bind (wpAny_of_eq (show Builtin.Builtins.bindParams "sum" ["start"] 0 ⟨[.int base tb],[]⟩=pure [some (.int base tb)] from rfl) ?_)
 refine wpAny_bind (wpAny_mono h (fun it s₂ h₂=>?_) fun _ _ e=>e)
 obtain ⟨I,fp,wr,G,n,P,St,val,rfl,W,hst,hfp,hval,hfit,hQ⟩:=h₂
 have hfl:(decide (-(2 ^ 63)<=base) && decide (base < 2 ^ 63))=true:=by
  have h63:(2:Int) ^ 63=9223372036854775808:=by decide
  obtain ⟨a1,a2⟩:=hb
  rw [h63] at a1 a2 ⊢
  simp only [Bool.and_eq_true,decide_eq_true_eq];lia
 dsimp only
 split
 case isFalse hno=>exact absurd hfl hno
 refine wpAny_bind (wpAny_rule (wpAny_bind (wpAny_mkInt (wpAny_bind (wpAny_pure ?_)))))
 dsimp only
 simp only [List.forIn_cons,List.forIn_nil]
 refine wpAny_bind (wpAny_bind (wpAny_bind (wpAny_isInstance (T:="int") (b:=false) (typeIs_int _ _ _) PySem.sub_int_str ?_)))
 simp only [Bool.false_eq_true,if_false]
 refine wpAny_pure (wpAny_bind (wpAny_bind (wpAny_isInstance (T:="int") (b:=false) (typeIs_int _ _ _) PySem.sub_int_bytes ?_)))
 simp only [Bool.false_eq_true,if_false]
 refine wpAny_pure (wpAny_bind (wpAny_bind (wpAny_isInstance (T:="int") (b:=false) (typeIs_int _ _ _) PySem.sub_int_bytearray ?_)))
 simp only [Bool.false_eq_true,if_false]
 refine wpAny_pure (wpAny_pure ?_)
 refine wpAny_bind (wpAny_newObj_type ?_)
 have hSf:s₂.heap.objs.size∉fp:=fun hm=>Nat.lt_irrefl _ (hfp _ hm)
 refine wpAny_pure ⟨plainId_quiet PySem.F.plain_sum_loop _,zhi W base val hval hfit s₂.heap.objs.size hSf n 0 _ s₂.toks 0 rfl (Nat.zero_le _)
  (W.frame 0 s₂ _ _ hst (by first | exact Nat.le_refl _ | exact Nat.le_succ _ | lia) fun b _ o e=>Heap.get?_push_of_some _ e) (by rw [show base+preSum val 0=base from Int.add_zero base];exact Heap.get?_push_size _ rfl) fun s' t' hm=>?_⟩
 exact hQ s' t' (hm.drop_new (by first | exact Nat.le_refl _ | exact Nat.le_succ _ | lia))
end
end Mine
end
section
open PySem PySem.Calls PyProof.Rows PySem.W PySem.Builtin PySem.Builtin.ObjectAttr
namespace Mine
structure zbi (g:Gl)(c P:Addr):Prop where
 hd:CodeHd g.h₁ c P
 tab:∃ ps,g.h₁.get? P=some (zqz ps)/\TriplesOk ps.toList
 ne:P≠cStatics
theorem zcU.grow {h₀ h h':Heap}(K:zcU h₀ h){c P:Addr}{ps₀ ps more:Array Value}(t₀:h₀.TableAt c P ps₀)(t:h.TableAt c P ps)(t':h'.TableAt c P (ps++more))(hx:Heap.ExtBut P h h')(hP:P≠cStatics)(ht:TriplesOk (ps++more).toList):zcU h₀ h' :=
 ⟨K.k.step_table t₀ t t' hx hP,fun Q ps₁ e tt=>by
  by_cases hq:Q=P
  ·subst hq;exact ⟨_,t'.2,ht⟩
  ·obtain ⟨ps₂,e',t₂⟩:=K.tab Q ps₁ e tt
   exact ⟨ps₂,hx _ _ hq e',t₂⟩⟩
section
variable {g:Gl}{A:Around}{F:Fm}{σ:AS}{s:Shared}
theorem zbi.now {c P:Addr}(T:zbi g c P)(S:Sat g F σ s):∃ ps,s.heap.IsCode c P ps/\s.heap.TableAt c P ps/\TriplesOk ps.toList:=by
 obtain ⟨ps₀,e₀,t₀⟩:=T.tab
 obtain ⟨ps,e,t⟩:=S.old.tab P ps₀ e₀ t₀
 obtain ⟨o,vs,file,tf,flags,tg,inF,text,tt,e1,e2,r⟩:=T.hd
 have hd:CodeHd s.heap c P:=⟨o,vs,file,tf,flags,tg,inF,text,tt,S.old.get_of_cls e1 (by rw [e2];simp),e2,r⟩
 exact ⟨ps,hd.code e t,hd.tab e,t⟩
theorem Sat.grow {c P:Addr}{ps more:Array Value}{h':Heap}(T:zbi g c P)(S:Sat g F σ s)(t:s.heap.TableAt c P ps)(t':h'.TableAt c P (ps++more))(hx:Heap.ExtBut P s.heap h')(ht:TriplesOk (ps++more).toList)(tk:Nat) :
  Sat g F σ { s with heap:=h',toks:=tk }/\Stp [] σ.own s σ.own { s with heap:=h',toks:=tk }:=by
 obtain ⟨ps₀,e₀,t₀⟩:=T.tab
 have hlt:P < g.h₁.objs.size:=Heap.lt_size e₀
 have hnfr:P∉F.fr:=fun q=>Nat.lt_irrefl _ (Nat.lt_of_lt_of_le hlt (S.lo _ (List.mem_append_left _ q)))
 have hno:P∉σ.own:=fun q=>Nat.lt_irrefl _ (Nat.lt_of_lt_of_le hlt (S.lo _ (List.mem_append_right _ q)))
 have hP:∀ o,s.heap.get? P=some o->o=zqz ps:=fun o e=>Option.some.inj (e.symm.trans t.2)
 have kk:∀ b o,s.heap.get? b=some o->(hard o\/b≠P)->h'.get? b=some o:=fun b o e h=>by
  refine hx b o (fun q=>?_) e
  subst q
  rcases h with h | h
  ·rw [hP o e] at h
   rcases h with h | h
   ·exact h rfl
   ·exact h _ rfl
  ·exact h rfl
 have kp:Kp s.heap h' σ.own σ.own:=fun b o xs n e d no=>⟨kk b o e (.inl (.inr fun vs q=>by rw [d] at q;cases q)),no⟩
 refine ⟨⟨S.old.grow (T.hd.tab e₀) t t' hx T.ne ht,?_,S.os,S.bare,S.nd,S.lo,fun z hz=>(S.zs z hz).mono kp fun b hb o e=>kk b o e (.inr fun q=>hno (q ▸ List.mem_flatMap.mpr ⟨z,hz,hb⟩)),fun a ha=>?_,?_,S.nin,fun x p e=>?_,S.cs,S.cl.to fun b o e hc=>kk b o e (.inl (zr.hard (.inr hc)))⟩,
  ⟨fun b o e _ _ hc=>kk b o e (.inl hc),fun b o e=>?_,fun a ha=>.inl ha,fun _ _ e=>e⟩⟩
 ·obtain ⟨mc,⟨o,es,ep,e,d,r⟩,h2⟩:=S.lim
  exact ⟨mc,⟨o,es,ep,kk _ _ e (.inl (zr.hard (.inl ⟨es,ep,d⟩))),d,r⟩,h2⟩
 ·obtain ⟨o,e,fl⟩:=S.fr a ha
  exact ⟨o,kk a o e (.inl fl.hard),fl⟩
 ·obtain ⟨m,o,es,ep,e,d,r⟩:=S.ns
  exact ⟨m,o,es,ep,kk _ _ e (.inl (zr.hard (.inl ⟨es,ep,d⟩))),d,r⟩
 ·obtain ⟨v,h1,h2⟩:=S.loc x p e
  exact ⟨v,h1.ext fun b o e fl=>kk b o e (.inl fl.hard),h2.mono kp⟩
 ·by_cases q:b=P
  ·subst q;exact ⟨_,t'.2⟩
  ·exact ⟨o,hx b o q e⟩
theorem ze8 {c P:Addr}{env:Env}{pos:Pos}{qn:Str}{scope:Scope}{Q:Value->Shared->Prop}{E:Value->Shared->Prop}(T:zbi g c P)(S:Sat g F σ s)(hc:env.code=.ref c)
  (k:∀ code s',Sat g F σ s'->Stp [] σ.own s σ.own s'->Heap.ExtBut P s.heap s'.heap->s'.gens=s.gens->Q code s'):wpAny (model g.prog g.w) A (genexprCode env pos qn scope) Q E s:=by
 obtain ⟨ps,h1,h2,h3⟩:=T.now S
 cases hn:codeAmong pos ps.toList with
 | some cv=>exact wpAny_genexprCode_hit hc h1 hn (k cv s S .refl (fun _ _ _ e=>e) rfl)
 | none =>
  refine wpAny_genexprCodeX hc h1 h2 hn fun c' h' tk hx _ _ hcode _ htab _=>?_
  obtain ⟨S',st⟩:=S.grow T h2 htab hx (by simpa using TriplesOk_snoc _ _ _ _ h3) tk
  exact k _ _ S' st hx rfl
theorem zeB {c P:Addr}{env:Env}{pos:Pos}{fl:Nat}{nm qn:Str}{p:Arguments}{body:FuncBody}{scope:Scope}{Q:Value->Shared->Prop}{E:Value->Shared->Prop}(T:zbi g c P)(S:Sat g F σ s)(hc:env.code=.ref c)
  (k:∀ code s',Sat g F σ s'->Stp [] σ.own s σ.own s'->Heap.ExtBut P s.heap s'.heap->s'.gens=s.gens->Q code s'):wpAny (model g.prog g.w) A (functionCode env pos fl nm qn p scope body) Q E s:=by
 obtain ⟨ps,h1,h2,h3⟩:=T.now S
 cases hn:codeAmong pos ps.toList with
 | some cv=>exact wpAny_functionCode_hit hc h1 hn (k cv s S .refl (fun _ _ _ e=>e) rfl)
 | none =>
  refine wpAny_functionCodeX hc h1 h2 hn fun c' h' tk hx _ _ hcode _ htab _=>?_
  obtain ⟨S',st⟩:=S.grow T h2 htab hx (by simpa using TriplesOk_snoc _ _ _ _ h3) tk
  exact k _ _ S' st hx rfl
end
def SeqAt (h:Heap)(l:Addr)(items:Array Value):Prop:=∃ o n,h.get? l=some o/\o.data=.seq items n
theorem SeqAt.keep {h h':Heap}{l:Addr}{items:Array Value}(x:SeqAt h l items)(hk:∀ o,h.get? l=some o->h'.get? l=some o):SeqAt h' l items:=let ⟨o,n,e,d⟩:=x;⟨o,n,hk o e,d⟩
section
variable {prog:Program}{w:World}{A:Around}{E:Value->Shared->Prop}{s:Shared}
theorem zhV {it l:Addr}{i:Nat}{items:Array Value}{x:Value}{Q:Option Value->Shared->Prop}(hit:s.heap.IsListIter it l i)(hl:SeqAt s.heap l items)(hx:items[i]?=some x)
  (hQ:∀ h',h'.IsListIter it l (i+1)->Heap.SameBut it s.heap h'->Q (some x) { s with heap:=h' }):wpAny (model prog w) A (pyNext (.ref it)) Q E s:=by
 obtain ⟨o,ho,hc,hd⟩:=id hit
 obtain ⟨ol,nl,hol,hdl⟩:=hl
 unfold pyNext
 refine wpAny_bind (wpAny_attempt (wpAny_callSpecial?_slot (name:=Str.ofString "__next__") hit.typeIs slot_listiter_next (wpAny_call_entry slot_listiter_next hit.typeIs entry_listiter_next ?_ (args_listiter_next _))))
 show wpAny _ _ (field (.ref it) 0>>=_) _ _ s
 refine wpAny_bind (wpAny_field ho hd (x:=.ref l) rfl ?_)
 show wpAny _ _ (if (Value.ref l==Value.none)=true then _ else _) _ _ s
 rw [if_neg (show ¬ ((Value.ref l==Value.none)=true) from Bool.false_ne_true)]
 show wpAny _ _ (field (.ref it) 1>>=_) _ _ s
 refine wpAny_bind (wpAny_field ho hd (x:=.int i 0) rfl ?_)
 show wpAny _ _ (seqItems? (.ref l)>>=_) _ _ s
 refine wpAny_bind (wpAny_seqItems hol hdl ?_)
 simp only [Int.toNat_natCast,hx]
 refine wpAny_bind (wpAny_setField ho hd (by simp) (wpAny_pure ⟨x,rfl,wpAny_pure (hQ _ ?_ (Heap.SameBut.update ..))⟩))
 exact ⟨_,Heap.get?_update_self _ ho (Obj.isFreed_of_fields (Obj.data_mapFields hd _)),(Obj.cls_mapFields ..).trans hc,by rw [Obj.data_mapFields hd];simp [rawInt]⟩
theorem zh1 {it l:Addr}{i:Nat}{items:Array Value}{Q:Option Value->Shared->Prop}(hh:A.handled=none)(hit:s.heap.IsListIter it l i)(hl:SeqAt s.heap l items)(hx:items[i]?=none)
  (hQ:∀ h',Heap.ExtBut it s.heap h'->Q none { s with heap:=h' }):wpAny (model prog w) A (pyNext (.ref it)) Q E s:=by
 obtain ⟨o,ho,hc,hd⟩:=id hit
 obtain ⟨ol,nl,hol,hdl⟩:=hl
 unfold pyNext
 refine wpAny_bind (wpAny_attempt (wpAny_callSpecial?_slot (name:=Str.ofString "__next__") hit.typeIs slot_listiter_next (wpAny_call_entry slot_listiter_next hit.typeIs entry_listiter_next ?_ (args_listiter_next _))))
 show wpAny _ _ (field (.ref it) 0>>=_) _ _ s
 refine wpAny_bind (wpAny_field ho hd (x:=.ref l) rfl ?_)
 show wpAny _ _ (if (Value.ref l==Value.none)=true then _ else _) _ _ s
 rw [if_neg (show ¬ ((Value.ref l==Value.none)=true) from Bool.false_ne_true)]
 show wpAny _ _ (field (.ref it) 1>>=_) _ _ s
 refine wpAny_bind (wpAny_field ho hd (x:=.int i 0) rfl ?_)
 show wpAny _ _ (seqItems? (.ref l)>>=_) _ _ s
 refine wpAny_bind (wpAny_seqItems hol hdl ?_)
 simp only [Int.toNat_natCast,hx]
 refine wpAny_bind (wpAny_rule (wpAny_bind (wpAny_setField ho hd (by simp) ?_)))
 show wpAny _ _ (newExc (.type "StopIteration") []>>=_) _ _ _
 refine wpAny_bind ?_
 simp only [newExc,newTuple]
 refine wpAny_bind (wpAny_newObj_type ?_ (by size_fits))
 refine wpAny_bind (m:=firstArgMember _ _) (wpAny_of_eq (a:=Value.none) (by first | rfl | (simp only [firstArgMember];rfl)) ?_)
 refine wpAny_newObj_type ?_ (by size_fits)
 simp only [raiseNew]
 refine wpAny_bind (wpAny_handled ?_)
 rw [show A.in1.handled=none from hh]
 refine wpAny_bind (wpAny_pure (wpAny_throw ?_))
 refine wpAny_bind (wpAny_isInstance (T:="StopIteration") (b:=true) ⟨_,Heap.get?_push_size _ rfl,rfl⟩ isSubtype_stop ?_)
 exact wpAny_pure (hQ _ (((Heap.SameBut.update ..).extBut.push _).push _))
theorem zkT {prog:Program}{w:World}{A:Around}(hh:A.handled=none)(I ax:Addr)(hne:ax≠I)(items:Array Value)(Ts:Nat->Addr)(vals:Nat->Array Value)
  (hit:∀ j,j < items.size->items[j]?=some (.ref (Ts j))) (hTI:∀ j,j < items.size->Ts j≠I) :
  WalksU prog w A I (I::ax::(List.range items.size).map Ts) [I] items.size (fun j v=>j < items.size/\v=vals j)
   (fun j h=>h.IsListIter I ax j/\SeqAt h ax items/\∀ k,k < items.size->h.IsTuple (Ts k) (vals k))
   (fun j T h=>(j < items.size/\T=Ts j)/\h.IsListIter I ax (j+1)/\SeqAt h ax items/\∀ k,k < items.size->h.IsTuple (Ts k) (vals k)) where
 sub:=fun b hb=>by simp at hb;simp [hb]
 frame:=fun _ _ _ st hk=>⟨st.1.at fun o e=>hk I (by simp) o e,st.2.1.keep fun o e=>hk ax (by simp) o e,
  fun k hk'=>(st.2.2 k hk').at fun o e=>hk (Ts k) (List.mem_cons_of_mem _ (List.mem_cons_of_mem _ (List.mem_map.mpr ⟨k,List.mem_range.mpr hk',rfl⟩))) o e⟩
 item:=fun i s Q E hi st hQ=>by
  refine zhV st.1 st.2.1 (x:=.ref (Ts i)) (hit i hi) fun h' hit' hs'=>?_
  have tup:∀ k,k < items.size->h'.IsTuple (Ts k) (vals k):=fun k hk'=>(st.2.2 k hk').extBut hs'.extBut (hTI k hk')
  exact hQ (Ts i) (vals i) h' s.toks ⟨hi,rfl⟩ (tup i hi) ⟨⟨hi,rfl⟩,hit',st.2.1.keep fun o e=>hs'.extBut _ _ hne e,tup⟩ fun b o hb e=>hs'.extBut b o (fun h=>hb (by simp [h])) e
 go:=fun _ _ _ _ _ s Q _ hm hQ=>wpAny_letOwnedTupleGo_listiter hm.2.1 (hQ s.heap hm.2 fun _ _ _ e=>e)
 apart:=fun j T _ hm hmem=>by
  rcases List.mem_cons.mp hmem with e | e
  ·exact hTI j hm.1.1 (hm.1.2 ▸ e)
  ·cases e
 done:=fun s Q E st hQ=>zh1 hh st.1 st.2.1 (by simp) fun h' he'=>hQ h' s.toks fun b o hb e=>he' b o (fun h=>hb (by simp [h])) e
 self:=fun _ _ _ _ st hQ=>wpAny_pyIter_listiter st.1 hQ
end
end Mine
end
section
open PySem PySem.Calls PyProof.Rows PySem.W PySem.Builtin PySem.Builtin.ObjectAttr
namespace Mine
inductive zn6 (g:Gl):Prop
 | mk (mg:_) (o:_) (bm:_) (ob:_) (h1:g.h₁.Ns mainGlobals mg) (h2:g.h₁.get? mainGlobals=some o) (h3:o.cls≠.none) (h4:mg "__builtins__" = some (.ref bm)) (h5:bm≠builtinsNs) (h6:g.h₁.get? bm=some ob) (h7:ob.cls=.type "module") (h8:ob.dict=some builtinsNs) (h9:ob.data=.plain):zn6 g
section
variable {g:Gl}{A:Around}{F:Fm}{σ:AS}{s:Shared}{K:Frag}
theorem Sat.offs (S:Sat g F σ s){T:List Addr}{s':Shared}(hT:∀ a∈T,g.h₁.objs.size<=a/\a∉F.fr/\a∉σ.own/\∀ o,s.heap.get? a=some o->(∀ xs n,o.data≠.seq xs n)/\∀ v,o.data≠.cell v)
  (hk:∀ b o,b∉T->s.heap.get? b=some o->s'.heap.get? b=some o) (ho:s'.os=s.os) (hb:zka g s'.gens):Sat g F σ s':=by
 have kp:Kp s.heap s'.heap σ.own σ.own:=fun b o xs n e d no=>⟨hk b o (fun q=>((hT b q).2.2.2 o e).1 xs n d) e,no⟩
 refine ⟨zcU.exts S.old (fun a ha=>(hT a ha).1) hk,?_,ho.trans S.os,hb,S.nd,S.lo,fun z hz=>(S.zs z hz).mono kp fun b hb o e=>hk b o (fun q=>(hT b q).2.2.1 (List.mem_flatMap.mpr ⟨z,hz,hb⟩)) e,fun a ha=>?_,?_,S.nin,fun x p e=>?_,S.cs,S.cl.to fun b o e hc=>?_⟩
 ·obtain ⟨mc,⟨o,es,ep,e,d,r⟩,h2⟩:=S.lim
  exact ⟨mc,⟨o,es,ep,hk _ _ (fun q=>Nat.lt_irrefl _ (Nat.lt_of_lt_of_le S.cs (hT _ q).1)) e,d,r⟩,h2⟩
 ·obtain ⟨o,e,fl⟩:=S.fr a ha
  exact ⟨o,hk a o (fun q=>(hT a q).2.1 ha) e,fl⟩
 ·obtain ⟨m,o,es,ep,e,d,r⟩:=S.ns
  exact ⟨m,o,es,ep,hk _ _ (fun q=>(hT _ q).2.1 S.nin) e,d,r⟩
 ·obtain ⟨v,h1,h2⟩:=S.loc x p e
  refine ⟨v,?_,h2.mono kp⟩
  rcases h1 with ⟨a,mm,⟨o',es',ep',e',r⟩,c⟩ | ⟨a,c,o',h3,h4,h5⟩
  ·exact .inl ⟨a,mm,⟨o',es',ep',hk _ _ (fun q=>(hT _ q).2.1 S.nin) e',r⟩,c⟩
  ·exact .inr ⟨a,c,o',h3,hk _ _ (fun q=>((hT _ q).2.2.2 o' h4).2 _ h5) h4,h5⟩
 ·obtain ⟨v,d⟩:=hc
  exact hk b o (fun q=>((hT b q).2.2.2 o e).2 _ d) e
theorem zjh {prog:Program}{w:World}{A:Around}{E:Value->Shared->Prop}{s:Shared}{x C:Addr}{ox:Obj}{od:Option Obj}{name:Str}{f:Value}{Q:Option (Value × List Value)->Shared->Prop}(X:K.In s.heap)(I:InstAt s.heap x ox C od)
  (hf:findIn K (.ref C) name=some (some f)) (hb:Looks (model prog w) s.heap (bindSpecial f (.ref x)) (f,[.ref x])) (h:Q (some (f,[.ref x])) s):wpAny (model prog w) A (bindSpecialIfBound? (.ref x) name) Q E s:=by
 unfold bindSpecialIfBound? specialOf
 refine wpAny_bind (wpAny_bind (I.type.here ((looks_findIn X hf).here ?_)))
 dsimp only
 refine wpAny_bind (wpAny_askSetting (wpAny_ite ?_))
 split
 ·exact wpAny_bind (hb.here (wpAny_pure h))
 ·exact wpAny_tryCatch (wpAny_bind (hb.here (wpAny_pure h)))
theorem zjg {prog:Program}{w:World}{A:Around}{E:Value->Shared->Prop}{s:Shared}{x C:Addr}{ox:Obj}{od:Option Obj}{Q:Value->Shared->Prop}(ok:zaV K C)(X:K.In s.heap)(I:InstAt s.heap x ox C od)
  (hf:findIn K (.ref C) "__iter__" = some (some (.builtin "list.__iter__"))) (h:Q (.ref s.heap.objs.size) { s with heap:=s.heap.push { cls:=.type "list_iterator",data:=.fields #[.ref x,.int 0 0] } }):wpAny (model prog w) A (pyIter (.ref x)) Q E s:=by
 have L1:=looks_findIn (M:=model prog w) X hf
 unfold pyIter specialOf
 refine wpAny_bind (wpAny_bind (I.type.here (L1.here ?_)))
 show wpAny _ A (callSpecialIfBoundUnlessNone? (.ref x) "__iter__" _>>=_) Q E s
 refine wpAny_bind ?_
 unfold callSpecialIfBoundUnlessNone?
 refine wpAny_holding (wpAny_bind (zjh X I hf (Looks.of_pure (slot_list_iter.bind _)) ?_))
 dsimp only
 rw [if_neg (by decide)]
 refine wpAny_bind (wpAny_mono (Q:=fun v s'=>v=.ref s.heap.objs.size/\s'={ s with heap:=s.heap.push { cls:=.type "list_iterator",data:=.fields #[.ref x,.int 0 0] } }) (E:=fun _ _=>False) (zcC zou ok X I (args_list_iter _) ?_) (fun v s' hv=>?_) fun _ _ z=>z.elim)
 ·show wpAny _ _ (do ret (<- newFields "list_iterator" [.ref x,rawInt 0])) _ _ s
  exact wpAny_bind (wpAny_newObj_type (wpAny_pure ⟨_,rfl,rfl,rfl⟩))
 ·obtain ⟨rfl,rfl⟩:=hv
  refine wpAny_pure ?_
  show wpAny _ _ (specialOf (.ref s.heap.objs.size) "__next__">>=_) _ _ _
  refine wpAny_bind (wpAny_specialOf (T:="list_iterator") ⟨_,Heap.get?_push_size _ rfl,rfl⟩ slot_listiter_next.lookup ?_)
  exact wpAny_pure h
set_option tactic.hygienic true in
theorem ziD {x dx C c P:Addr}{att:List (Str × PV)}{ls:List (List Nat × List Nat)}{self xa xb:Str}{ps pa pb pt gpos:Pos}{kt:Nat}{elt:Expr}{scope:Scope}{cl:List (Str × Addr)}{Fp:(List Nat × List Nat)->Value->Prop}{Q:Value->Shared->Prop}{E:Value->Shared->Prop}
  (hr:Rm A 0) (hK:Fg g K) (hC:zaV K C) (hit:findIn K (.ref C) "__iter__" = some (some (.builtin "list.__iter__"))) (hB:zn6 g) (T:zbi g c P) (hcode:F.env.code=.ref c) (hk:z0 F) (S:Sat g F σ s)
  (hz:(x,.inst dx C att (some (ls.map fun p=>.tup [tx p.1,tx p.2])))∈σ.zone) (hself:σ.loc.lookup self=some (.raw (.ref x)))
  (hclos:closureFor scope F.env=pure cl) (hco:scope.isCoroutine=false) (hcell:(scope.names.all fun y=>y.2 != .cell)=true) (h0:scope.names.lookup (".0":Str)=some NameKind.local)
  (hxa:scope.names.lookup xa=some .local) (hxb:scope.names.lookup xb=some .local) (hab:xa≠xb) (hkind:scope.kind=.function) (hfold:∀ y,genFold (.Name self ps) F.env y=pure y)
  (hd:(self==("__debug__":Str))=false) (hd2:(self==Str.ofString "__classdict__")=false)
  (helt:∀ (L:Addr) (code:Value) (A':Around) E' (p:List Nat × List Nat) ta tb (u:Shared) m₂,A'.handled=none->p∈ls->zcU g.h₁ u.heap->u.heap.Ns L m₂->m₂ xa=some (.str (ofL p.1) ta)->m₂ xb=some (.str (ofL p.2) tb) ->
   wpAny (model g.prog g.w) A' (eval elt (genEnv scope cl L code builtinsNs F.env)) (fun y u'=>Fp p y/\Keeps u u') E' u)
  (k:∀ a s₅ fp wr G St,Sat g F σ s₅->WalksS g.prog g.w A.in4 a fp wr G ls.length (fun j y=>∃ p,ls[j]?=some p/\Fp p y) St->St 0 s₅->(∀ i s',St i s'->s'.TypeIs (.ref a) "generator")->a∈fp->(∀ b∈fp,b < s₅.heap.objs.size) ->
   (∀ s',Moved wr G s₅ s'->Sat g F σ s'/\Stp [] σ.own s σ.own s')->Q (.ref a) s₅) :
  wpAny (model g.prog g.w) A (eval (.GeneratorExp elt [⟨.Tuple [.Name xa pa,.Name xb pb] kt pt,.Name self ps,[],0⟩] scope gpos) F.env) Q E s:=by
 have hcell':∀ y∈scope.names,y.2≠.cell:=fun y hy=>by simpa -iota using List.all_eq_true.mp hcell y hy
 refine wpAny_GeneratorExp_walksQT hr.handled hco hclos hcell' h0 hxa hxb hab hkind hr.depth ?_ hfold
 have ev:EV g A F (.Name self ps) σ fun p σ'=>p=.raw (.ref x)/\σ'=σ:=za hk hself ⟨rfl,rfl⟩ hd hd2
 obtain ⟨v₀,hn₀,hv₀⟩:=S.loc self _ hself
 revert hn₀;cases hv₀;intro hn₀
 have lname:∀ (Q':Value->Shared->Prop),Q' (.ref x) s->wpAny (model g.prog g.w) A (eval (.Name self ps) F.env) Q' E s:=by
  intro Q' hq
  rcases hn₀ with ⟨e,m,n,hm⟩ | ⟨e,cc,o,hcl,ho,hd'⟩
  ·exact wpAny_Name (wpAny_loadName_local hk.kind e n hm hq) hd
  ·rcases e with e | e
   ·exact wpAny_Name (wpAny_loadName_cell hk.kind e hcl ⟨o,ho,hd'⟩ hq) hd
   ·exact wpAny_Name (wpAny_loadName_free hk.kind e hcl ⟨o,ho,hd'⟩ hq hd2) hd
 refine lname _ ?_
 obtain ⟨d,es,n,I,⟨items,n',hd',hitems⟩,hatt⟩:=zaX (S.zs _ hz)
 refine zjg hC (hK.now S) I hit ?_
 have S₂:=S.push { cls:=.type "list_iterator",data:=.fields #[.ref x,.int 0 0] }
 refine ⟨S₂.lim,?_⟩
 refine ze8 T S₂ hcode fun code s₃ S₃ st₃ hx₃ hg₃=>?_
 obtain ⟨mg,om,bm,ob,b1,b2,b3,b4,b5,b6,b7,b8,b9⟩:=hB
 rw [hk.gl]
 refine wpAny_builtinsFor (zcw S₃.old b1 b2 b3) b4 b5 (S₃.old.get_of_cls b6 (by rw [b7];simp -iota)) b7 b8 b9 ?_
 obtain ⟨ps₀,hp₀,_⟩:=T.tab
 have hPlt:P < g.h₁.objs.size:=Heap.lt_size hp₀
 have hbase:=S.base_le
 have hlen:=hitems.length
 rw [List.length_map,Array.length_toList] at hlen
 have hj:∀ (j:Nat) (p:List Nat × List Nat),ls[j]?=some p->∃ (Tj:Addr) (ta tb:Tok) (m:Nat),items[j]?=some (Value.ref Tj)/\s.heap.get? Tj=some (zei #[.str (ofL p.1) ta,.str (ofL p.2) tb] m):=by
  intro j p hp
  obtain ⟨v,h1,h2⟩:=hitems.get (i:=j) (p:=.tup [tx p.1,tx p.2]) (by rw [List.getElem?_map,hp];rfl)
  revert h1
  cases h2 with
  | tup ha ho hl =>
   intro h1
   rename_i a its m
   cases hl':its.toList with
   | nil=>rw [hl'] at hl;cases hl
   | cons u us =>
    rw [hl'] at hl
    cases hl with
    | cons h3 h4 =>
     cases us with
     | nil=>cases h4
     | cons w' ws =>
      cases h4 with
      | cons h5 h6 =>
       revert hl';cases h6
       cases h3 with
       | str _ ta=>cases h5 with
        | str _ tb =>
         intro hl'
         have:its = #[.str (ofL p.1) ta,.str (ofL p.2) tb]:=by apply Array.ext';rw [hl']
         subst this
         exact ⟨a,ta,tb,m,by simpa -iota using h1,ho⟩
 let Ts:Nat->Addr:=fun j=>match items[j]? with | some (.ref T)=>T | _=>0
 let vals:Nat->Array Value:=fun j=>match s.heap.get? (Ts j) with | some ⟨_,_,.seq xs _,_⟩=>xs | _=>#[]
 have hTv:∀ j,j < items.size->∃ (p:List Nat × List Nat) (ta tb:Tok) (m:Nat),ls[j]?=some p/\items[j]?=some (Value.ref (Ts j))/\vals j = #[.str (ofL p.1) ta,.str (ofL p.2) tb]/\s.heap.get? (Ts j)=some (zei (vals j) m):=by
  intro j hlt
  have hlt':j < ls.length:=by lia
  obtain ⟨Tj,ta,tb,m,h1,h2⟩:=hj j ls[j] (List.getElem?_eq_getElem hlt')
  have e1:Ts j=Tj:=by show (match items[j]? with | some (.ref T)=>T | _=>0)=Tj;rw [h1]
  have e2:vals j = #[.str (ofL ls[j].1) ta,.str (ofL ls[j].2) tb]:=by show (match s.heap.get? (Ts j) with | some ⟨_,_,.seq xs _,_⟩=>xs | _=>#[])=_;rw [e1,h2]
  exact ⟨ls[j],ta,tb,m,List.getElem?_eq_getElem hlt',by rw [e1];exact h1,e2,by rw [e1,e2];exact h2⟩
 have hx:=I.at_
 have hIx:x≠s.heap.objs.size:=Nat.ne_of_lt (Heap.lt_size hx)
 have keep2:∀ b o,s.heap.get? b=some o->(s.heap.push { cls:=.type "list_iterator",data:=.fields #[.ref x,.int 0 0] }).get? b=some o:=fun b o e=>Heap.get?_push_of_some _ e
 have hPne:∀ b o,s.heap.get? b=some o->(∀ vs,o.data≠.fields vs)->b≠P:=fun b o e hd q=>by
  subst q
  obtain ⟨ps₁,e₁,_⟩:=S.old.tab _ _ hp₀ ‹_›
  rw [e] at e₁;cases e₁
  exact hd _ rfl
 have keep3:∀ b o,s.heap.get? b=some o->b≠P->s₃.heap.get? b=some o:=fun b o e hb=>hx₃ b o hb (keep2 b o e)
 have hI₀:s₃.heap.get? s.heap.objs.size=some { cls:=.type "list_iterator",data:=.fields #[.ref x,.int 0 0] }:=hx₃ _ _ (Nat.ne_of_gt (Nat.lt_of_lt_of_le hPlt hbase)) (Heap.get?_push_size _ rfl)
 have hx3:=keep3 x _ hx (hPne x _ hx fun vs q=>by rw [hd'] at q;cases q)
 have hseq:SeqAt s₃.heap x items:=⟨_,n',hx3,hd'⟩
 have htup:∀ j,j < items.size->s₃.heap.IsTuple (Ts j) (vals j):=fun j hlt=>by
  obtain ⟨p,ta,tb,m,_,_,_,h4⟩:=hTv j hlt
  exact ⟨_,keep3 _ _ h4 (hPne _ _ h4 fun vs q=>by cases q),rfl,_,rfl⟩
 have hTlt:∀ j,j < items.size->Ts j < s.heap.objs.size:=fun j hlt=>by obtain ⟨_,_,_,_,_,_,_,h4⟩:=hTv j hlt;exact Heap.lt_size h4
 have W:=fun (A':Around) (hA:A'.handled=none)=>zkT (prog:=g.prog) (w:=g.w) hA s.heap.objs.size x hIx items Ts vals (fun j hlt=>let ⟨_,_,_,_,_,h2,_⟩:=hTv j hlt;h2) fun j hlt=>Nat.ne_of_lt (hTlt j hlt)
 have hsz3:s.heap.objs.size < s₃.heap.objs.size:=Heap.lt_size hI₀
 have hpass:∀ n₀,passing (fun _=>true) n₀ 0=List.range n₀:=fun n₀=>by unfold passing;simp -iota
 refine ⟨s.heap.objs.size,_,[s.heap.objs.size],items.size,_,_,_,fun _=>true,fun i y=>∃ p,ls[i]?=some p/\Fp p y,rfl,W,?_,⟨⟨_,hI₀,rfl,rfl⟩,hseq,htup⟩,?_,S₃.lim,?_,?_,?_⟩
 ·rintro i v ⟨hlt,rfl⟩
  obtain ⟨p,ta,tb,m,_,_,h3,_⟩:=hTv i hlt
  exact ⟨_,_,h3⟩
 ·intro b hb
  rcases List.mem_cons.mp hb with rfl | hb
  ·exact hsz3
  ·rcases List.mem_cons.mp hb with rfl | hb
   ·exact Heap.lt_size hx3
   ·obtain ⟨j,hjm,rfl⟩:=List.mem_map.mp hb
    exact Nat.lt_trans (hTlt j (List.mem_range.mp hjm)) hsz3
 ·intro hm
  rw [List.mem_singleton] at hm
  exact Nat.lt_irrefl _ (Nat.lt_of_lt_of_le (Nat.lt_of_lt_of_le S.cs hbase) (Nat.le_of_eq hm.symm))
 ·intro href hhref
  have hold:∀ u:Shared,(∀ b∈List.range s₃.heap.objs.size,b∉[s.heap.objs.size]->∀ o,href.get? b=some o->u.heap.get? b=some o)->zcU g.h₁ u.heap:=fun u hu =>
   zcU.exts S₃.old (T:=[s.heap.objs.size]) (fun a ha=>by rw [List.mem_singleton] at ha;subst ha;exact hbase) fun b o hb e=>hu b (List.mem_range.mpr (Heap.lt_size e)) hb o (hhref b o e)
  constructor
  ·intro A' E' i va vb u m₂ hA hP hn ha hb hu
   exact wpAny_tests_nil ⟨rfl,u.heap,u.toks,rfl,fun _ _ e=>e⟩
  ·intro A' E' i va vb u m₂ hA hP hpz hn ha hb hu
   obtain ⟨hlt,hv⟩:=hP
   obtain ⟨p,ta,tb,m,h1,_,h3,_⟩:=hTv i hlt
   have hv':va=.str (ofL p.1) ta/\vb=.str (ofL p.2) tb:=by
    have:=congrArg Array.toList (hv.trans h3)
    simpa -iota using this
   obtain ⟨rfl,rfl⟩:=hv'
   exact wpAny_mono (helt _ code A' E' p ta tb u m₂ hA (List.mem_of_getElem? h1) (hold u hu) hn ha hb) (fun y u' r=>⟨⟨p,h1,r.1⟩,r.2⟩) fun _ _ e=>e
 ·intro a h₅ tk gs hgb hag hsz₅ hk₅ WS hat
  rw [hpass] at WS
  have hPe:(fun (j:Nat) y=>∃ i,(List.range items.size)[j]?=some i/\∃ p,ls[i]?=some p/\Fp p y)=fun j y=>∃ p,ls[j]?=some p/\Fp p y:=by
   funext j y
   apply propext
   constructor
   ·rintro ⟨i,h1,h2⟩
    have:i=j:=by
     rw [List.getElem?_range] at h1
     ·exact (Option.some.inj h1).symm
     ·rcases Nat.lt_or_ge j items.size with q | q
      ·exact q
      ·rw [List.getElem?_eq_none (by simpa -iota using q)] at h1;cases h1
    subst this;exact h2
   ·rintro ⟨p,h1,h2⟩
    have hlt:j < items.size:=by
     rcases Nat.lt_or_ge j ls.length with q | q
     ·lia
     ·rw [List.getElem?_eq_none q] at h1;cases h1
    exact ⟨j,by rw [List.getElem?_range hlt],p,h1,h2⟩
  rw [hPe,List.length_range,hlen] at WS
  rw [hlen] at hat
  have hgs3:s₃.gens=s.gens:=hg₃
  have back:∀ s':Shared,Moved (s₃.heap.objs.size::[s.heap.objs.size]) (GenOnlyQ s₃.gens.size) { s₃ with gens:=s₃.gens.push gs,toks:=tk,heap:=h₅ } s'->Sat g F σ s'/\Stp [] σ.own s σ.own s':=by
   intro s' hm
   have hkb:∀ b o,b∉[s.heap.objs.size]->s₃.heap.get? b=some o->s'.heap.get? b=some o:=fun b o hb e=>hm.heap b o (fun q=>by
    rcases List.mem_cons.mp q with rfl | q
    ·exact Nat.lt_irrefl _ (Heap.lt_size e)
    ·exact hb q) (hk₅ b o e)
   have hb5:AllBare (s₃.gens.push gs):=S₃.bare.1.push hgb
   have hbare:AllBare s'.gens:=GenOnlyQ.bare hm.gens hb5
   have hgk:∀ (i:Nat) (y:GenState),s.gens[i]?=some y->s'.gens[i]?=some y:=by
    intro i y e
    have hi:i < s.gens.size:=by
     rcases Nat.lt_or_ge i s.gens.size with q | q
     ·exact q
     ·rw [Array.getElem?_eq_none q] at e;cases e
    have e5:(s₃.gens.push gs)[i]?=some y:=by
     rw [hgs3,Array.getElem?_push_lt hi]
     rw [Array.getElem?_eq_getElem hi] at e
     exact e
    rcases hm.gens with q | ⟨q,_⟩
    ·rw [q];exact e5
    ·rw [q.2 i (by rw [hgs3];exact Nat.ne_of_lt hi)];exact e5
   refine ⟨S₃.offs (T:=[s.heap.objs.size]) (fun a ha=>?_) hkb (hm.os.trans rfl) ⟨hbare,fun i x e=>hgk i x (S.bare.2 i x e)⟩,?_⟩
   ·rw [List.mem_singleton] at ha;subst ha
    refine ⟨hbase,fun q=>Nat.lt_irrefl _ (S.fr_lt q),fun q=>Nat.lt_irrefl _ (S.own_lt q),fun o e=>?_⟩
    rw [hI₀] at e;cases e
    exact ⟨fun xs n q=>(by cases q),fun v q=>(by cases q)⟩
   ·have ne:∀ b o,s.heap.get? b=some o->b∉[s.heap.objs.size]:=fun b o e q=>by
     rw [List.mem_singleton] at q;subst q
     rw [zae] at e;cases e
    have st:=(Stp.push (fr:=[]) (own:=σ.own) (s:=s) { cls:=.type "list_iterator",data:=.fields #[.ref x,.int 0 0] }).trans st₃
    refine ⟨fun b o e nf no hc=>hkb b o (ne b o e) (st.keep b o e nf no hc),fun b o e=>?_,fun a ha=>.inl ha,fun i y e=>?_⟩
    ·obtain ⟨o',e'⟩:=st.there b o e
     exact ⟨o',hkb b o' (ne b o e) e'⟩
    ·exact hgk i y e
  refine k a _ _ _ _ _ (back _ (Moved.refl WS.grefl)).1 WS hat (fun i s' st=>st.1.typeIs) List.mem_cons_self ?_ back
  intro b hb
  show b < h₅.objs.size
  rw [hsz₅]
  rcases List.mem_cons.mp hb with rfl | hb
  ·exact Nat.lt_succ_self _
  ·rcases List.mem_cons.mp hb with rfl | hb
   ·exact Nat.lt_succ_of_lt hag
   ·exact Nat.lt_succ_of_lt (Nat.lt_trans (List.mem_range.mp hb) hag)
end
end Mine
end
section
open PySem PySem.Calls PyProof.Rows PySem.W PySem.Builtin PySem.Builtin.ObjectAttr
namespace Mine
theorem zjQ {M:Model}{A:Around}{E:Value->Shared->Prop}{s:Shared}{f:Value}{pos:Pos}{env:Env}{e:Expr}{Q:Args->Shared->Prop}(h:wpAny M A (eval e env) (fun v s₁=>Q ⟨[v],[]⟩ s₁) E s)
  (he:starEach [e] env=(false,eval e env)::starEach [] env:=by left):wpAny M A (evalArgs f true (backTo pos (starEach [e] env)) []) Q E s:=by
 have h1:wpAny M A (spliced (backTo pos (starEach [e] env))) (fun vs s'=>Q ⟨vs,[]⟩ s') E s:=args_cons (wpAny_mono h (fun v s₁ q=>spliced_nil q) fun _ _ z=>z) he
 rw [he] at h1 ⊢
 exact evalArgs_plain h1
theorem zm6 {M:Model}{A:Around}{E:Value->Shared->Prop}{s:Shared}{f:Value}{pos:Pos}{env:Env}{e e':Expr}{Q:Args->Shared->Prop}(h:wpAny M A (eval e env) (fun v s₁=>wpAny M A (eval e' env) (fun v' s₂=>Q ⟨[v,v'],[]⟩ s₂) E s₁) E s)
  (he:starEach [e,e'] env=(false,eval e env)::starEach [e'] env:=by left) (he':starEach [e'] env=(false,eval e' env)::starEach [] env:=by left):wpAny M A (evalArgs f true (backTo pos (starEach [e,e'] env)) []) Q E s:=by
 have h1:wpAny M A (spliced (backTo pos (starEach [e,e'] env))) (fun vs s'=>Q ⟨vs,[]⟩ s') E s:=args_cons (wpAny_mono h (fun v s₁ q=>args_cons (wpAny_mono q (fun v' s₂ q'=>spliced_nil q') fun _ _ z=>z) he') fun _ _ z=>z) he
 rw [he] at h1 ⊢
 exact evalArgs_plain h1
section
variable {g:Gl}{A:Around}{F:Fm}{σ:AS}{s:Shared}{K:Frag}{E:Value->Shared->Prop}
theorem zhC {env:Env}{x:Str}{v:Value}{pos:Pos}{u:Shared}{Q:Value->Shared->Prop}(hO:zcU g.h₁ u.heap)(hkind:env.scope.kind=.function)(hgl:env.globals=mainGlobals)(hbl:env.builtins=builtinsNs)(hg:g.Blt x v)(h:Q v u)(hx:env.kindOf x=some .globalImplicit)(hd:(x==("__debug__":Str))=false:=by decide) :
  wpAny (model g.prog g.w) A (eval (.Name x pos) env) Q E u:=by
 obtain ⟨mg,o,mb,ob,n,e,hc,hm,nb,eb,hcb,hv⟩:=hg
 exact Name_function_global hkind hx (loadGlobal_builtin (hgl ▸ zcw hO n e hc) hm (hbl ▸ zcw hO nb eb hcb) hv h) hd
theorem zhe {env:Env}{x:Str}{v:Value}{pos:Pos}{u:Shared}{Q:Value->Shared->Prop}(hO:zcU g.h₁ u.heap)(hkind:env.scope.kind=.function)(hgl:env.globals=mainGlobals)(hg:g.Glob x v)(h:Q v u)(hx:env.kindOf x=some .globalImplicit)(hd:(x==("__debug__":Str))=false:=by decide) :
  wpAny (model g.prog g.w) A (eval (.Name x pos) env) Q E u:=by
 obtain ⟨mg,o,n,e,hc,hv⟩:=hg
 exact Name_function_global hkind hx (loadGlobal_global (hgl ▸ zcw hO n e hc) hv h) hd
theorem zmb {env:Env}{x:Str}{pos p1 p2:Pos}{a:List Nat}{t:Tok}{u:Shared}{m:Str->Option Value}{Q:Value->Shared->Prop}(hO:zcU g.h₁ u.heap)(hkind:env.scope.kind=.function)(hgl:env.globals=mainGlobals)(hbl:env.builtins=builtinsNs)(hlen:g.Blt "len" (.builtin "len"))
  (hkl:env.kindOf "len" = some .globalImplicit) (hkx:env.kindOf x=some .local) (hn:u.heap.Ns env.locals m) (hm:m x=some (.str (ofL a) t)) (hz:a.length<=1000000) (h:∀ t' k,Q (.int a.length t') { u with toks:=k }) (hd:(x==("__debug__":Str))=false)
  (he:eval (.Call (.Name "len" p1) [.Name x p2] [] pos) env=(do callWith pos (<- eval (.Name "len" p1) env) [] (backTo pos (starEach [.Name x p2] env)) (backToKw pos (keywordEach [] env))))
  (hst:starEach [.Name x p2] env=(false,eval (.Name x p2) env)::starEach [] env) (hns:(backTo pos (starEach [.Name x p2] env)).any (·.1)=false) :
  wpAny (model g.prog g.w) A (eval (.Call (.Name "len" p1) [.Name x p2] [] pos) env) Q E u:=by
 refine Call_ (zhC hO hkind hgl hbl hlen ?_ hkl) he
 refine zaP rfl hns (zjQ ?_ hst)
 refine wpAny_Name (wpAny_loadName_local hkind hkx hn hm ?_) hd
 exact len_str (by rw [zu];lia) (by rw [zu];exact h _ _)
theorem znp {env:Env}{xa xb:Str}{pos p1 p2 p3 p4 p5 p6:Pos}{a b:List Nat}{ta tb:Tok}{u:Shared}{m:Str->Option Value}(hO:zcU g.h₁ u.heap)(hkind:env.scope.kind=.function)(hgl:env.globals=mainGlobals)(hbl:env.builtins=builtinsNs)(hlen:g.Blt "len" (.builtin "len"))
  (hkl:env.kindOf "len" = some .globalImplicit) (hka:env.kindOf xa=some .local) (hkb:env.kindOf xb=some .local) (hn:u.heap.Ns env.locals m) (hma:m xa=some (.str (ofL a) ta)) (hmb:m xb=some (.str (ofL b) tb)) (hza:a.length<=1000000) (hzb:b.length<=1000000) (hda:(xa==("__debug__":Str))=false) (hdb:(xb==("__debug__":Str))=false)
  (he:∀ x pos p1 p2,eval (.Call (.Name "len" p1) [.Name x p2] [] pos) env=(do callWith pos (<- eval (.Name "len" p1) env) [] (backTo pos (starEach [.Name x p2] env)) (backToKw pos (keywordEach [] env))))
  (hst:∀ x p2,starEach [.Name x p2] env=(false,eval (.Name x p2) env)::starEach [] env) (hns:∀ x p2 pos,(backTo pos (starEach [.Name x p2] env)).any (·.1)=false) :
  wpAny (model g.prog g.w) A (eval (.BinOp (.Call (.Name "len" p1) [.Name xa p2] [] p3) .Add (.Call (.Name "len" p4) [.Name xb p5] [] p6) pos) env) (fun y u'=>(∃ t',y=.int ((a.length+b.length:Nat):Int) t')/\Keeps u u') E u:=by
 refine wpAny_BinOp (zmb hO hkind hgl hbl hlen hkl hka hn hma hza ?_ hda (he _ _ _ _) (hst _ _) (hns _ _ _))
 intro t1 k1
 refine zmb (u:={ u with toks:=k1 }) hO hkind hgl hbl hlen hkl hkb hn hmb hzb ?_ hdb (he _ _ _ _) (hst _ _) (hns _ _ _)
 intro t2 k2
 refine add_int ?_
 exact ⟨⟨_,by rw [Int.natCast_add]⟩,u.heap,_,rfl,fun _ _ e=>e⟩
theorem zmu {x dx C c Pt:Addr}{att:List (Str × PV)}{ls:List (List Nat × List Nat)}{init:Int}{ps pa pb pt gpos p0 p1 p2 p3 p4 p5 p6 p7 ps2 ap pos:Pos}{kt:Nat}{scope:Scope}{P:PV->AS->Prop}
  (hr:Rm A 0) (hK:Fg g K) (hC:zaV K C) (hit:findIn K (.ref C) "__iter__" = some (some (.builtin "list.__iter__"))) (hni:findIn K (.ref C) "_initial_size" = some none) (hB:zn6 g) (T:zbi g c Pt) (hcode:F.env.code=.ref c) (hk:z0 F)
  (hsum:g.Blt "sum" (.builtin "sum")) (hlen:g.Blt "len" (.builtin "len"))
  (hz:(x,.inst dx C att (some (ls.map fun p=>.tup [tx p.1,tx p.2])))∈σ.zone) (hself:σ.loc.lookup ("self":Str)=some (.raw (.ref x))) (hatt:att.lookup ("_initial_size":Str)=some (.int init)) (hi0:-1000000<=init) (hi1:init<=1000000) (hls:ls.length<=1000) (hlp:∀ p∈ls,p.1.length+p.2.length<=1000)
  (h:P (.int (init+(ls.map fun p=>((p.1.length+p.2.length:Nat):Int)).sum)) σ)
  (hclos:closureFor scope F.env=pure []:=by left) (hco:scope.isCoroutine=false:=by left) (hcell:(scope.names.all fun y=>y.2 != .cell)=true:=by left) (h0:scope.names.lookup (".0":Str)=some NameKind.local:=by left)
  (hxa:scope.names.lookup ("fws":Str)=some .local:=by left) (hxb:scope.names.lookup ("part":Str)=some .local:=by left) (hxl:scope.names.lookup ("len":Str)=some .globalImplicit:=by left) (hkind:scope.kind=.function:=by left) (hfold:∀ y,genFold (.Name "self" ps) F.env y=pure y:=by left)
  (hks:F.env.kindOf "sum" = some .globalImplicit:=by left)
  (helc:∀ (env:Env) x pos p1 p2,eval (.Call (.Name "len" p1) [.Name x p2] [] pos) env=(do callWith pos (<- eval (.Name "len" p1) env) [] (backTo pos (starEach [.Name x p2] env)) (backToKw pos (keywordEach [] env))):=by left)
  (helst:∀ (env:Env) x p2,starEach [.Name x p2] env=(false,eval (.Name x p2) env)::starEach [] env:=by left) (helns:∀ (env:Env) x p2 pos,(backTo pos (starEach [.Name x p2] env)).any (·.1)=false:=by left) :
  EV g A F (.Call (.Name "sum" p0) [.GeneratorExp (.BinOp (.Call (.Name "len" p1) [.Name "fws" p2] [] p3) .Add (.Call (.Name "len" p4) [.Name "part" p5] [] p6) p7) [⟨.Tuple [.Name "fws" pa,.Name "part" pb] kt pt,.Name "self" ps,[],0⟩] scope gpos,.Attribute (.Name "self" ps2) "_initial_size" ap] [] pos) σ P:=by
 intro s S Q E k
 refine Call_ (zhC S.old hk.kind hk.gl hk.bl hsum ?_ hks) (by left)
 refine zaP rfl (by left) (zm6 ?_)
 refine ziD (Fp:=fun p y=>∃ t',y=.int ((p.1.length+p.2.length:Nat):Int) t') (cl:=[]) hr hK hC hit hB T hcode hk S hz hself hclos hco hcell h0 hxa hxb (by decide) hkind hfold (by decide) (by decide) ?_ ?_
 ·intro L code A' E' p ta tb u m₂ hA hp hO hn ha hb
  have:=hlp p hp
  exact znp hO hkind hk.gl rfl hlen hxl hxa hxb hn ha hb (by lia) (by lia) (by decide) (by decide) (helc _) (helst _) (helns _)
 ·intro a s₅ fp wr G St S₅ W hst hT ha hfp back
  obtain ⟨v₀,hn₀,hv₀⟩:=S₅.loc ("self":Str) _ hself
  revert hn₀;cases hv₀;intro hn₀
  have hd:(("self":Str)==("__debug__":Str))=false:=by decide
  have hd2:(("self":Str)==Str.ofString "__classdict__")=false:=by decide
  have lname:∀ (Q':Value->Shared->Prop),Q' (.ref x) s₅->wpAny (model g.prog g.w) A (eval (.Name "self" ps2) F.env) Q' E s₅:=by
   intro Q' hq
   rcases hn₀ with ⟨e,m,n,hm⟩ | ⟨e,cc,o,hcl,ho,hd'⟩
   ·exact wpAny_Name (wpAny_loadName_local hk.kind e n hm hq) hd
   ·rcases e with e | e
    ·exact wpAny_Name (wpAny_loadName_cell hk.kind e hcl ⟨o,ho,hd'⟩ hq) hd
    ·exact wpAny_Name (wpAny_loadName_free hk.kind e hcl ⟨o,ho,hd'⟩ hq hd2) hd
  refine Attribute_Name_ (lname _ ?_)
  obtain ⟨d,es,n,I,_,r⟩:=zaX (S₅.zs _ hz)
  obtain ⟨v,hv1,hv2⟩:=zgU (n:=n) r hatt
  cases hv2 with
  | int _ ti =>
   refine zdw hC (hK.now S₅) I (ze0 hC.toClsOk hni hv1) rfl ?_
   have W':=W.in4_1
   have e1:(fun (i:Nat)=>((ls[i]?.map fun p=>((p.1.length+p.2.length:Nat):Int)).getD 0))=fun i=>(ls.map fun p=>((p.1.length+p.2.length:Nat):Int)).getD i 0:=by
    funext i;rw [List.getD_eq_getElem?_getD,List.getElem?_map]
   have hpre:∀ j,preSum (fun i=>(ls.map fun p=>((p.1.length+p.2.length:Nat):Int)).getD i 0) j=((ls.map fun p=>((p.1.length+p.2.length:Nat):Int)).take j).sum:=preSum_getD _
   have hbound:∀ l:List (List Nat × List Nat),(∀ p∈l,p.1.length+p.2.length<=1000)->0<=(l.map fun p=>((p.1.length+p.2.length:Nat):Int)).sum/\(l.map fun p=>((p.1.length+p.2.length:Nat):Int)).sum<=1000*l.length:=by
    intro l hl
    induction l with
    | nil=>simp
    | cons q r ih =>
     have h1:=hl q List.mem_cons_self
     have h2:=ih fun p hp=>hl p (List.mem_cons_of_mem _ hp)
     simp only [List.map_cons,List.sum_cons,List.length_cons]
     lia
   have h63:(2:Int) ^ 63=9223372036854775808:=by decide
   refine zhO ⟨by rw [h63];lia,by rw [h63];lia⟩ (W'.self 0 _ _ _ (W'.frame 0 s₅ _ _ hst (Nat.le_succ _) fun _ _ _ e=>e) ?_)
   refine ⟨a,_,_,_,ls.length,_,_,fun i=>(ls.map fun p=>((p.1.length+p.2.length:Nat):Int)).getD i 0,rfl,W',W'.frame 0 s₅ _ _ hst (Nat.le_succ _) fun _ _ _ e=>e,hfp,?_,?_,?_⟩
   ·rintro i y ⟨p,h1,t',rfl⟩
    refine ⟨t',?_⟩
    dsimp only
    rw [List.getD_eq_getElem?_getD,List.getElem?_map,h1];rfl
   ·intro j hj
    have hb:=hbound (ls.take (j+1)) fun p hp=>hlp p (List.mem_of_mem_take hp)
    rw [hpre,<- List.map_take]
    have hlen':(ls.take (j+1)).length<=1000:=Nat.le_trans (List.length_take_le _ _) (by lia)
    have hp:=hlp ls[j] (List.getElem_mem hj)
    have e2:(ls.map fun p=>((p.1.length+p.2.length:Nat):Int)).getD j 0=((ls[j].1.length+ls[j].2.length:Nat):Int):=by rw [List.getD_eq_getElem?_getD,List.getElem?_map,List.getElem?_eq_getElem hj];rfl
    dsimp only
    rw [e2]
    constructor
    ·constructor <;> (rw [h63];lia)
    ·constructor <;> (rw [h63];lia)
   ·intro s' t' hm
    have hm':Moved wr G s₅ s':=⟨hm.heap,hm.gens,hm.drawn,hm.os,Nat.le_trans (Nat.le_succ _) hm.toks⟩
    obtain ⟨S',st'⟩:=back s' hm'
    have e3:preSum (fun i=>(ls.map fun p=>((p.1.length+p.2.length:Nat):Int)).getD i 0) ls.length=(ls.map fun p=>((p.1.length+p.2.length:Nat):Int)).sum:=by
     rw [hpre,List.take_of_length_le (by simp)]
    rw [e3]
    exact k _ _ σ s' h S' (.int _ _) st'
theorem zmT {env:Env}{pl:Sem Bool}{xa xb:Str}{pos ap tp p1 p2 p3:Pos}{kt:Nat}{a b:List Nat}{t0 ta tb:Tok}{u:Shared}{m:Str->Option Value}(hO:zcU g.h₁ u.heap)(hkind:env.scope.kind=.function)(hgl:env.globals=mainGlobals)(hes:g.Glob "EMPTYSTRING" (.str (ofL []) t0))
  (hke:env.kindOf "EMPTYSTRING" = some .globalImplicit) (hka:env.kindOf xa=some .local) (hkb:env.kindOf xb=some .local) (hn:u.heap.Ns env.locals m) (hma:m xa=some (.str (ofL a) ta)) (hmb:m xb=some (.str (ofL b) tb)) (hz:a.length+b.length<=1000000) (hda:(xa==("__debug__":Str))=false) (hdb:(xb==("__debug__":Str))=false)
  (he:eval (.Call (.Attribute (.Name "EMPTYSTRING" p1) "join" ap) [.Tuple [.Name xa p2,.Name xb p3] kt tp] [] pos) env=(do
   let ov <- eval (.Name "EMPTYSTRING" p1) env
   standAt ap.atName
   let (f,first) <- holding [ov] (getMethod ov "join" pl)
   callWith pos f first (backTo pos (starEach [.Tuple [.Name xa p2,.Name xb p3] kt tp] env)) []))
  (hst:starEach [.Tuple [.Name xa p2,.Name xb p3] kt tp] env=(false,eval (.Tuple [.Name xa p2,.Name xb p3] kt tp) env)::starEach [] env) (hns:(backTo pos (starEach [.Tuple [.Name xa p2,.Name xb p3] kt tp] env)).any (·.1)=false)
  (hs1:starEach [.Name xa p2,.Name xb p3] env=(false,eval (.Name xa p2) env)::starEach [.Name xb p3] env) (hs2:starEach [.Name xb p3] env=(false,eval (.Name xb p3) env)::starEach [] env) :
  wpAny (model g.prog g.w) A (eval (.Call (.Attribute (.Name "EMPTYSTRING" p1) "join" ap) [.Tuple [.Name xa p2,.Name xb p3] kt tp] [] pos) env) (fun y u'=>(∃ t',y=.str (ofL (a++b)) t')/\Keeps u u') E u:=by
 refine MethodCall_ (zhe hO hkind hgl hes ?_ hke) he
 refine GM.of _ (typeIs_str _ _ _) PySem.F.slot_str_join PySem.F.type_str_join GM.noRef ?_
 refine callWith_builtin hns (zjQ ?_ hst)
 refine Tuple_ (args_cons (wpAny_Name (wpAny_loadName_local hkind hka hn hma ?_) hda) hs1)
 refine args_cons (wpAny_Name (wpAny_loadName_local hkind hkb hn hmb ?_) hdb) hs2
 refine spliced_nil ?_
 refine wpAny_newTuple ?_ (by simp [sizeLine])
 have hp:(u.heap.push (zei #[.str (ofL a) ta,.str (ofL b) tb] 0)).get? u.heap.objs.size=some (zei #[.str (ofL a) ta,.str (ofL b) tb] 0):=Heap.get?_push_size _ rfl
 refine join_tuple (ys:=[ofL a,ofL b]) (items:=#[.str (ofL a) ta,.str (ofL b) tb]) ⟨_,hp,rfl,_,rfl⟩ (.cons _ _ (.cons _ _ .nil)) ?_ ?_
 ·show _<=_
  simp only [List.map_cons,List.map_nil,List.sum_cons,List.sum_nil,zu,List.length_cons,List.length_nil]
  lia
 ·intro t' tk
  rw [show Txt.join (ofL []) [ofL a,ofL b]=ofL (a++b) from (StrLaws.glued_eq_join _ _).trans ((zcT [] [a,b]).trans (by simp [zaq]))]
  exact ⟨⟨_,rfl⟩,_,_,rfl,fun b' o e=>Heap.get?_push_of_some _ e⟩
theorem zkZ {x dx C c Pt:Addr}{att:List (Str × PV)}{ls:List (List Nat × List Nat)}{t0:Tok}{ps pa pb pt gpos p0 p1 p2 p3 p4 ap iap itp pos:Pos}{kt kt':Nat}{pl:Sem Bool}{pl':Addr->Value->Sem Bool}{scope:Scope}{P:PV->AS->Prop}
  (hr:Rm A 0) (hK:Fg g K) (hC:zaV K C) (hit:findIn K (.ref C) "__iter__" = some (some (.builtin "list.__iter__"))) (hB:zn6 g) (T:zbi g c Pt) (hcode:F.env.code=.ref c) (hk:z0 F)
  (hes:g.Glob "EMPTYSTRING" (.str (ofL []) t0))
  (hz:(x,.inst dx C att (some (ls.map fun p=>.tup [tx p.1,tx p.2])))∈σ.zone) (hself:σ.loc.lookup ("self":Str)=some (.raw (.ref x))) (hls:ls.length<=1000) (hlp:∀ p∈ls,p.1.length+p.2.length<=1000)
  (h:P (tx (ls.map fun p=>p.1++p.2).flatten) σ)
  (he:eval (.Call (.Attribute (.Name "EMPTYSTRING" p0) "join" ap) [.GeneratorExp (.Call (.Attribute (.Name "EMPTYSTRING" p1) "join" iap) [.Tuple [.Name "fws" p2,.Name "part" p3] kt' itp] [] p4) [⟨.Tuple [.Name "fws" pa,.Name "part" pb] kt pt,.Name "self" ps,[],0⟩] scope gpos] [] pos) F.env=(do
   let ov <- eval (.Name "EMPTYSTRING" p0) F.env
   standAt ap.atName
   let (f,first) <- holding [ov] (getMethod ov "join" pl)
   callWith pos f first (backTo pos (starEach [.GeneratorExp (.Call (.Attribute (.Name "EMPTYSTRING" p1) "join" iap) [.Tuple [.Name "fws" p2,.Name "part" p3] kt' itp] [] p4) [⟨.Tuple [.Name "fws" pa,.Name "part" pb] kt pt,.Name "self" ps,[],0⟩] scope gpos] F.env)) []):=by left)
  (hei:∀ L code,eval (.Call (.Attribute (.Name "EMPTYSTRING" p1) "join" iap) [.Tuple [.Name "fws" p2,.Name "part" p3] kt' itp] [] p4) (genEnv scope [] L code builtinsNs F.env)=(do
   let ov <- eval (.Name "EMPTYSTRING" p1) (genEnv scope [] L code builtinsNs F.env)
   standAt iap.atName
   let (f,first) <- holding [ov] (getMethod ov "join" (pl' L code))
   callWith p4 f first (backTo p4 (starEach [.Tuple [.Name "fws" p2,.Name "part" p3] kt' itp] (genEnv scope [] L code builtinsNs F.env))) []):=by left)
  (hclos:closureFor scope F.env=pure []:=by left) (hco:scope.isCoroutine=false:=by left) (hcell:(scope.names.all fun y=>y.2 != .cell)=true:=by left) (h0:scope.names.lookup (".0":Str)=some NameKind.local:=by left)
  (hxa:scope.names.lookup ("fws":Str)=some .local:=by left) (hxb:scope.names.lookup ("part":Str)=some .local:=by left) (hxe:scope.names.lookup ("EMPTYSTRING":Str)=some .globalImplicit:=by left) (hkind:scope.kind=.function:=by left) (hfold:∀ y,genFold (.Name "self" ps) F.env y=pure y:=by left)
  (hks:F.env.kindOf "EMPTYSTRING" = some .globalImplicit:=by left) :
  EV g A F (.Call (.Attribute (.Name "EMPTYSTRING" p0) "join" ap) [.GeneratorExp (.Call (.Attribute (.Name "EMPTYSTRING" p1) "join" iap) [.Tuple [.Name "fws" p2,.Name "part" p3] kt' itp] [] p4) [⟨.Tuple [.Name "fws" pa,.Name "part" pb] kt pt,.Name "self" ps,[],0⟩] scope gpos] [] pos) σ P:=by
 intro s S Q E k
 refine MethodCall_ (zhe S.old hk.kind hk.gl hes ?_ hks) he
 refine GM.of _ (typeIs_str _ _ _) PySem.F.slot_str_join PySem.F.type_str_join GM.noRef ?_
 refine callWith_builtin (by left) (zjQ ?_)
 refine ziD (Fp:=fun p y=>∃ t',y=.str (ofL (p.1++p.2)) t') (cl:=[]) hr hK hC hit hB T hcode hk (S.toks _) hz hself hclos hco hcell h0 hxa hxb (by decide) hkind hfold (by decide) (by decide) ?_ ?_
 ·intro L code A' E' p ta tb u m₂ hA hp hO hn ha hb
  have:=hlp p hp
  exact zmT hO hkind hk.gl hes hxe hxa hxb hn ha hb (by lia) (by decide) (by decide) (hei L code) (by left) (by left) (by left) (by left)
 ·intro a s₅ fp wr G St S₅ W hst hT ha hfp back
  have W':=W.in4_2
  refine SC.joinGen W' hT hst hfp ha (fun j v hv=>let ⟨p,h1,t',e⟩:=hv;⟨_,t',e⟩) (fun s' lt hm hacc=>?_) (by have:sizeLine=16777216:=rfl;lia)
  have hl:lt.map (·.1)=ls.map fun p=>ofL (p.1++p.2):=by
   apply List.ext_getElem?
   intro j
   have hsz:lt.length=ls.length:=by simpa [strValues] using hacc.1
   by_cases hj:j < ls.length
   ·have hj':j < lt.length:=by lia
    obtain ⟨p,h1,t',hv⟩:=hacc.2 j (.str lt[j].1 lt[j].2) (by simp [strValues,List.getElem?_eq_getElem hj'])
    injection hv with h2 _
    rw [List.getElem?_map,List.getElem?_eq_getElem hj',List.getElem?_map,h1]
    simp [h2]
   ·rw [List.getElem?_eq_none (by simpa [hsz] using Nat.le_of_not_lt hj),List.getElem?_eq_none (by simpa using Nat.le_of_not_lt hj)]
  rw [hl]
  obtain ⟨S',st'⟩:=back s' hm
  have hfit:zaT [] (ls.map fun p=>p.1++p.2):=by
   unfold zaT
   have:∀ l:List (List Nat × List Nat),(∀ p∈l,p.1.length+p.2.length<=1000)->((l.map fun p=>p.1++p.2).map (·.length)).sum<=1000*l.length:=by
    intro l hl
    induction l with
    | nil=>simp
    | cons q r ih =>
     have h1:=hl q List.mem_cons_self
     have h2:=ih fun p hp=>hl p (List.mem_cons_of_mem _ hp)
     simp only [List.map_cons,List.sum_cons,List.length_cons,List.length_append] at h2 ⊢
     lia
   have:=this ls hlp
   simp only [List.length_nil,Nat.mul_zero,Nat.add_zero]
   lia
  have em:(ls.map fun p=>ofL (p.1++p.2))=(ls.map fun p=>p.1++p.2).map ofL:=by rw [List.map_map];rfl
  refine ⟨?_,fun t' kk=>?_⟩
  ·rw [em]
   refine joinOk_of ?_
   have e2:(((ls.map fun p=>p.1++p.2).map ofL).map fun x=>x.length)=(ls.map fun p=>p.1++p.2).map (·.length):=by rw [List.map_map];exact List.map_congr_left fun a _=>zu a
   rw [e2,zu,List.length_map]
   exact hfit
  ·rw [em,show Txt.join (ofL []) ((ls.map fun p=>p.1++p.2).map ofL)=ofL (zaq [] (ls.map fun p=>p.1++p.2)) from (StrLaws.glued_eq_join _ _).trans (zcT _ _),zbv]
   exact k _ _ σ _ h (S'.toks _) (.str _ _) (Stp.trans (Stp.trans .toks st') .toks)
end
end Mine
end
section
open PySem PySem.Calls PyProof.Rows PySem.W PySem.Builtin PySem.Builtin.ObjectAttr
namespace Mine
theorem Rm.in1 {A:Around}{n:Nat}(h:Rm A (n+1)):Rm A.in1 n:=⟨h.handled,by have:=h.depth;show A.depth+n < _;lia,by have:=h.units;show A.units+1+10*n+10 < _;lia⟩
theorem Rm.in2 {A:Around}{n:Nat}(h:Rm A (n+1)):Rm A.in1.in1 n:=⟨h.handled,by have:=h.depth;show A.depth+n < _;lia,by have:=h.units;show A.units+1+1+10*n+10 < _;lia⟩
section
variable {g:Gl}{A:Around}{F:Fm}{σ:AS}{s:Shared}{K:Frag}{P:PV->AS->Prop}
theorem zph {f:Value}{ps:List PV}{P P':PV->AS->Prop}(x:CL g A F f ps σ P)(h:∀ p σ',P p σ'->P' p σ'):CL g A F f ps σ P':=fun s vs S hvs Q E k=>x s vs S hvs Q E fun a b σ' s' hb=>k a b σ' s' (h b σ' hb)
theorem zmF (a:Value):argsOk "len" ⟨[a],[]⟩:=by unfold argsOk;kernel_rfl
theorem znr:builtinKind "len" = none:=by decide +kernel
theorem zh4:plainId "len" = true:=by decide +kernel
theorem zgZ:entryFor table "len" = some Builtin.«len»:=entryFor_of_tree (by kernel_rfl)
theorem zjY {A:Around}{x dx C f:Addr}{att:List (Str × PV)}{body:Option (List PV)}{E:Value->Shared->Prop}{Q:Fin->Shared->Prop}(hK:Fg g K)(S:Sat g F σ s)(hz:(x,.inst dx C att body)∈σ.zone)(hf:findIn K (.ref C) "__len__" = some (some (.ref f)))(ht:typeIn K (.ref f)=some (.type "function"))
  (h:CL g A F (.ref f) [.raw (.ref x)] σ fun p σ'=>∃ n:Nat,p=.int n/\n < 2 ^ 62/\P (.int n) σ')
  (k:∀ (n:Nat) t σ' s',P (.int n) σ'->Sat g F σ' s'->Stp [] σ.own s σ'.own s'->Q (.done (.ret (.int n t))) s'):wpAny (model g.prog g.w) A (Builtin.«len» ⟨[.ref x],[]⟩) Q E s:=by
 obtain ⟨d,es,n,I,_,r⟩:=zaX (S.zs _ hz)
 show wpAny _ _ (callSpecial? (.ref x) "__len__">>=_) _ _ _
 refine wpAny_bind (special_fn (hK.now S) I hf ht ?_)
 refine h s [.ref x] S (.cons (.raw _) .nil) _ E fun a p σ' s' hp S' hv st=>?_
 obtain ⟨n,rfl,hn,hP⟩:=hp
 cases hv with
 | int _ t =>
  have h62:(2:Nat) ^ 62=4611686018427387904:=by decide
  have h63:(2:Int) ^ 63=9223372036854775808:=by decide
  dsimp only
  refine wpAny_bind (wpAny_holding (wpAny_of_eq (a:=(n:Int)) rfl ?_))
  refine wpAny_bind (wpAny_letGo ?_)
  rw [if_neg (by lia),if_neg (by rw [h63];lia)]
  show wpAny _ _ (mkInt (n:Int)>>=fun r=>ret r) _ _ _
  refine wpAny_bind (wpAny_mkInt (wpAny_pure ?_))
  exact k n _ σ' _ hP (S'.toks _) (st.trans .toks)
theorem zjK {x dx C f:Addr}{att:List (Str × PV)}{body:Option (List PV)}(hK:Fg g K)(hz:(x,.inst dx C att body)∈σ.zone)(hf:findIn K (.ref C) "__len__" = some (some (.ref f)))(ht:typeIn K (.ref f)=some (.type "function"))
  (h:CL g A.in1 F (.ref f) [.raw (.ref x)] σ fun p σ'=>∃ n:Nat,p=.int n/\n < 2 ^ 62/\P (.int n) σ'):CL g A F (.builtin "len") [.raw (.ref x)] σ P:=by
 intro s vs S hvs Q E k
 cases hvs with | cons hv hs=>cases hs;cases hv;(
  refine call_function_tree znr zh4 zgZ (zmF _) ?_
  refine zjY hK S hz hf ht h fun n t σ' s' hP S' st=>?_
  exact k _ _ σ' s' hP S' (.int _ _) st)
theorem zi8 {x dx C f:Addr}{att:List (Str × PV)}{body:Option (List PV)}{n:Nat}(hr:Rm A (n+1))(hK:Fg g K)(hz:(x,.inst dx C att body)∈σ.zone)(hf:findIn K (.ref C) "__str__" = some (some (.ref f)))(ht:typeIn K (.ref f)=some (.type "function"))
  (h:CL g A.in1.in1 F (.ref f) [.raw (.ref x)] σ fun p σ'=>∃ l,p=tx l/\P (tx l) σ'):CL g A F (.type "str") [.raw (.ref x)] σ P:=by
 intro s vs S hvs Q E k
 cases hvs with | cons hv hs=>cases hs;cases hv;(
  obtain ⟨d,es,n',I,_,r⟩:=zaX (S.zs _ hz)
  refine kso_call (by have:=(Rm.in2 hr).units;lia) (hK.now S) I hf (by show (typeIn K (.ref f)==some (.type "function"))=true;rw [ht];simp) ?_
  refine h s [.ref x] S (.cons (.raw _) .nil) _ E fun a p σ' s' hp S' hv st=>?_
  obtain ⟨l,rfl,hP⟩:=hp
  cases hv with
  | str _ t=>exact k _ _ σ' s' hP S' (.str _ _) st)
theorem zo9 {x dx C f:Addr}{att:List (Str × PV)}{body:Option (List PV)}{P:Bool->AS->Prop}(hK:Fg g K)(hz:(x,.inst dx C att body)∈σ.zone)(hnb:findIn K (.ref C) "__bool__" = some none)(hf:findIn K (.ref C) "__len__" = some (some (.ref f)))(ht:typeIn K (.ref f)=some (.type "function"))
  (h:CL g A.in1 F (.ref f) [.raw (.ref x)] σ fun p σ'=>∃ n:Nat,p=.int n/\n < 2 ^ 62/\P (n != 0) σ'):TT g A F (.raw (.ref x)) σ P:=by
 intro s v S hv Q E k
 cases hv
 obtain ⟨d,es,n',I,_,r⟩:=zaX (S.zs _ hz)
 have L1:=looks_findIn (M:=model g.prog g.w) (hK.now S) hnb
 have L2:=looks_findIn (M:=model g.prog g.w) (hK.now S) hf
 unfold truthy callSpecial? specialOf
 refine wpAny_bind (wpAny_bind (wpAny_bind (I.type.here (L1.here ?_))))
 dsimp only
 refine wpAny_pure ?_
 refine wpAny_bind (wpAny_bind (I.type.here (L2.here ?_)))
 rw [if_neg (by simp)]
 refine wpAny_bind (wpAny_runValue (codeAny_builtin zgZ ?_))
 rw [Around.under_plainId zh4 _]
 refine zjY (P:=fun p σ'=>∃ n:Nat,p=.int n/\P (n != 0) σ') hK S hz hf ht (zph h fun p σ' ⟨n,e,h1,h2⟩=>⟨n,e,h1,n,rfl,h2⟩) fun n t σ' s' hP S' st=>?_
 obtain ⟨m,e,hP⟩:=hP
 have hmn:m=n:=by injection e with e;exact (Int.ofNat.inj e).symm
 subst hmn
 have e2:((m:Int) != 0)=(m != 0):=by cases m <;> rfl
 show wpAny _ _ (pure ((m:Int) != 0)) _ _ _
 rw [e2]
 exact wpAny_pure (k _ σ' s' hP S' st)
set_option tactic.hygienic true in
theorem zf8 {x dx C:Addr}{att:List (Str × PV)}{l:List PV}{p:PV}{zone':List (Addr × MO)}(hK:Fg g K)(hC:zaV K C)(U:ZAt x (.inst dx C att (some l)) (.inst dx C att (some (l++[p]))) σ.zone zone')(hlen:l.length<=1000000)(h:P (.raw .none) ⟨σ.loc,zone'⟩) :
  CL g A F (.builtin "list.append") [.raw (.ref x),p] σ P:=by
 intro s vs S hvs Q E k
 cases hvs with | cons hv hs=>cases hs with | cons hu hs=>cases hs;cases hv;(
  rename_i v _
  obtain ⟨pre,post,e1,e2⟩:=U.split
  have hz:=S.zs (x,.inst dx C att (some l)) (by rw [e1];simp)
  obtain ⟨d,es,n',I,hb,r⟩:=zaX hz
  obtain ⟨d,es,n,h1,⟨items,m,rfl,h2⟩,h3,h4⟩:=hz
  have hl:=h2.length
  simp only [Array.length_toList] at hl
  refine zcC zlO hC (hK.now S) I (args_list_append _ _) ?_
  show wpAny _ _ (updateSeq x (·.push v)>>=fun _=>ret .none) _ _ s
  refine wpAny_bind ?_
  refine wpAny_updateSeq h1 rfl (wpAny_pure ⟨.none,rfl,?_⟩) (by have:sizeLine=16777216:=rfl;lia)
  have hs:Heap.SameBut x s.heap (s.heap.update x (Obj.mapSeq fun y=>y.push v)):=.update ..
  have hg:(s.heap.update x (Obj.mapSeq fun y=>y.push v)).get? x=some { cls:=.ref C,dict:=some dx,data:=.seq (items.push v) (m+1) }:=by
   have:=Heap.get?_update_self (Obj.mapSeq fun y=>y.push v) h1 (by simp [Obj.mapSeq,Obj.isFreed])
   rw [this]
   simp [Obj.mapSeq]
  have hxd:dx≠x:=by
   intro q;subst q
   rw [h1] at h3;cases h3
  obtain ⟨S',st⟩:=S.upd U rfl (h':=s.heap.update x (Obj.mapSeq fun y=>y.push v)) (fun b o hb e=>hs.extBut b o (fun q=>hb (by simp [MO.addrs,q])) e) fun kp=>⟨_,es,n,hg,⟨items.push v,m+1,rfl,by
   rw [Array.toList_push];exact (h2.mono kp).append (.cons (hu.mono kp) .nil)⟩,hs.extBut _ _ hxd h3,h4.mono kp⟩
  exact k _ _ _ _ h S' (.raw _) st)
end
end Mine
end
section
open PySem PySem.Calls PyProof.Rows PySem.W PySem.Builtin PySem.Builtin.ObjectAttr
namespace Mine
section
variable {g:Gl}{A:Around}{F:Fm}{σ:AS}{s:Shared}{K:Frag}{P:PV->AS->Prop}{value slice:Expr}
theorem zej {prog:Program}{w:World}{A:Around}{E:Value->Shared->Prop}{s:Shared}{value slice:Expr}{x C:Addr}{ox:Obj}{od:Option Obj}{i:Value}{ops:List Value}{Q:Value->Shared->Prop}(X:K.In s.heap)(I:InstAt s.heap x ox C od)
  (hf:findIn K (.ref C) "__getitem__" = some (some (.builtin "list.__getitem__"))) (hs:subscripted slice false (.ref x) i=operate ops (getItem (.ref x) i)) (h:wpAny (model prog w) A (getItem (.ref x) i) Q E s) :
  wpAny (model prog w) A (subscriptTail value slice (.ref x) i) Q E s:=by
 unfold subscriptTail
 refine wpAny_bind ?_
 rw [getitemInPython_of_ne (by simp)]
 unfold specialOf
 refine wpAny_bind (wpAny_bind (I.type.here ((looks_findIn X hf).here ?_)))
 have fin:wpAny (model prog w) A (subscripted slice false (.ref x) i) (fun r s₃=>wpAny (model prog w) A (letTemporaryGo value (.ref x) r>>=fun _=>pure r) Q E s₃) E s:=by
  rw [hs]
  exact wpAny_operating (wpAny_mono h (fun r s₃ h₃=>wpAny_bind (wpAny_letTemporaryGo (wpAny_pure h₃))) fun _ _ x=>x)
 first
  | exact wpAny_pure (wpAny_bind fin)
  | exact wpAny_bind (wpAny_pure (wpAny_bind fin))
  | exact wpAny_bind fin
structure zkm (K:Frag)(C:Addr):Prop where
 lst:zaV K C
 get:findIn K (.ref C) "__getitem__" = some (some (.builtin "list.__getitem__"))
 set:findIn K (.ref C) "__setitem__" = some (some (.builtin "list.__setitem__"))
 iter:findIn K (.ref C) "__iter__" = some (some (.builtin "list.__iter__"))
theorem zoY {x dx C:Addr}{att:List (Str × PV)}{l:List PV}{i:Int}{p:PV}(hK:Fg g K)(ok:zkm K C)(hz:(x,.inst dx C att (some l))∈σ.zone)(h0:0<=i)(hc:l[i.toNat]?=some p)(hl:l.length<=1000000)(h:P p σ)
  (hs:∀ v u,subscripted slice false v u=operate [v,u] (getItem v u):=by left):IX g A F value slice (.raw (.ref x)) (.int i) σ P:=fun s v u S hv hu Q E k=>by
 cases hv
 cases hu with
 | int _ t =>
  obtain ⟨d,es,n,I,⟨items,m,hd,hit⟩,r⟩:=zaX (S.zs _ hz)
  subst hd
  obtain ⟨v,hv1,hv2⟩:=hit.get hc
  have hsz:=hit.toArray
  refine zej (hK.now S) I ok.get (hs _ _) ?_
  refine zef ok.lst (hK.now S) I ok.get slot_list_getitem.bind ?_
  refine zcC zgC ok.lst (hK.now S) I (args_list_getitem _ _) ?_
  exact zff I.at_ (by lia) h0 (by simpa using hv1) ⟨v,rfl,k v p σ s h S hv2 .refl⟩
inductive zbq (K:Frag)(P:PV->AS->Prop)(p:PV)(lo:Option Int)(hi:Option Int)(σ₃:AS):Prop
 | mk (x:Addr) (dx:Addr) (C:Addr) (att:List (Str × PV)) (l:List PV) (h1:p=.raw (.ref x)) (h2:zkm K C) (h3:(x,.inst dx C att (some l))∈σ₃.zone) (h4:l.length<=1000000) (h5:P (.lst (sl l lo hi)) σ₃):zbq K P p lo hi σ₃
abbrev zde (K:Frag)(g:Gl)(A:Around)(F:Fm)(P:PV->AS->Prop)(upper:Option Expr)(p:PV):Option Int->AS->Prop:=fun lo σ₂=>PT g A F upper σ₂ (zbq K P p lo)
abbrev zdq (K:Frag)(g:Gl)(A:Around)(F:Fm)(P:PV->AS->Prop)(lower:Option Expr)(upper:Option Expr):PV->AS->Prop:=fun p σ₁=>PT g A F lower σ₁ (zde K g A F P upper p)
theorem zeD {lower upper:Option Expr}{pp pos:Pos}(hK:Fg g K)
  (h:EV g A F value σ (zdq K g A F P lower upper)) :
  EV g A F (.Subscript value (.Slice lower upper none pp) pos) σ P:=by
 intro s S Q E k
 refine Subscript_ (h s S _ E fun v p σ₁ s₁ h₁ S₁ hv st₁=>wpAny_Slice (h₁ s₁ S₁ _ E fun vl lo σ₂ s₂ h₂ S₂ hl st₂=>h₂ s₂ S₂ _ E fun vu hi σ₃ s₃ h₃ S₃ hu st₃=>?_))
 rw [evalPart_none]
 obtain ⟨x,dx,C,att,l,rfl,ok,hz,hlen,hP⟩:=h₃
 cases hv
 have S₄:=S₃.push { cls:=.type "slice",data:=.fields #[vl,vu,.none] }
 have st₄:Stp [] σ₁.own s₁ σ₃.own _:=st₂.trans (st₃.trans (Stp.push { cls:=.type "slice",data:=.fields #[vl,vu,.none] }))
 obtain ⟨d,es,n,I,⟨items,m,hd,hit⟩,r⟩:=zaX (S₄.zs _ hz)
 subst hd
 have hsz:=hit.toArray
 refine wpAny_pure (zej (ops:=[.ref s₃.heap.objs.size,.ref x]) (hK.now S₄) I ok.get rfl ?_)
 refine zef ok.lst (hK.now S₄) I ok.get slot_list_getitem.bind ?_
 refine zcC zgC ok.lst (hK.now S₄) I (args_list_getitem _ _) ?_
 refine zdV I.at_ (by have:sizeLine=16777216:=rfl;lia) (Heap.IsSliceOf.new _ _ _ _) hl hu ⟨_,rfl,?_⟩
 have hv':VR _ σ₃.own (.lst (sl l lo hi)) (.ref _):=VR.newLst S₄ (hit.sl lo hi)
 refine k _ _ σ₃ _ hP (S₄.push _) ?_ (st₁.trans (st₄.trans (.push _)))
 simpa using hv'
theorem VRs.cut {h:Heap}{own:List Addr}{l ps:List PV}{items its:Array Value}(a:VRs h own l items.toList)(b:VRs h own ps its.toList)(lo hi:Option Int) :
  VRs h own (l.take (slo l.length lo)++ps++l.drop (max (slo l.length lo) (shi l.length hi))) (items.extract 0 (lo.elim 0 (clipAt items.size))++its++items.extract (max (lo.elim 0 (clipAt items.size)) (hi.elim items.size (clipAt items.size))) items.size).toList:=by
 have hsz:=a.toArray
 rw [hsz]
 have e1:lo.elim 0 (clipAt l.length)=slo l.length lo:=rfl
 have e2:hi.elim l.length (clipAt l.length)=shi l.length hi:=rfl
 rw [e1,e2]
 rw [Array.toList_append,Array.toList_append]
 refine VRs.append (VRs.append ?_ b) ?_
 ·rw [show (items.extract 0 (slo l.length lo)).toList=items.toList.take (slo l.length lo) from by simp]
  exact a.take _
 ·rw [show (items.extract (max (slo l.length lo) (shi l.length hi)) l.length).toList=items.toList.drop (max (slo l.length lo) (shi l.length hi)) from by
   rw [Array.toList_extract,List.extract_eq_drop_take,<- hsz,List.take_of_length_le]
   simp]
  exact a.drop _
inductive zbx (K:Frag)(P:Fl->AS->Prop)(q:PV)(p:PV)(lo:Option Int)(hi:Option Int)(σ₃:AS):Prop
 | mk (x:Addr) (dx:Addr) (C:Addr) (att:List (Str × PV)) (l:List PV) (ps:List PV) (zone':List (Addr × MO)) (h1:p=.raw (.ref x)) (h2:(q=.lst ps\/∃ D,q=.raw (.ref D)/\(D,.list ps)∈σ₃.zone)) (h3:zkm K C) (h4:ZAt x (.inst dx C att (some l)) (.inst dx C att (some (l.take (slo l.length lo)++ps++l.drop (max (slo l.length lo) (shi l.length hi))))) σ₃.zone zone') (h5:l.length+ps.length<=1000000) (h6:P .next ⟨σ₃.loc,zone'⟩):zbx K P q p lo hi σ₃
abbrev zdn (K:Frag)(g:Gl)(A:Around)(F:Fm)(P:Fl->AS->Prop)(upper:Option Expr)(q:PV)(p:PV):Option Int->AS->Prop:=fun lo σ₂=>PT g A F upper σ₂ (zbx K P q p lo)
abbrev zdm (K:Frag)(g:Gl)(A:Around)(F:Fm)(P:Fl->AS->Prop)(lower:Option Expr)(upper:Option Expr)(q:PV):PV->AS->Prop:=fun p σ₁=>PT g A F lower σ₁ (zdn K g A F P upper q p)
abbrev zdo (K:Frag)(g:Gl)(A:Around)(F:Fm)(P:Fl->AS->Prop)(o:Expr)(lower:Option Expr)(upper:Option Expr):PV->AS->Prop:=fun q σ₀=>EV g A F o σ₀ (zdm K g A F P lower upper q)
theorem zbh {o:Expr}{lower upper:Option Expr}{pp tpos pos:Pos}{P:Fl->AS->Prop}(hK:Fg g K)
  (h:EV g A F value σ (zdo K g A F P o lower upper))
  (hs:swapsWith value (some (.Subscript o (.Slice lower upper none pp) tpos)) pos.line F.env=pure false:=by left):EX g A F (.Assign [.Subscript o (.Slice lower upper none pp) tpos] value pos) σ P:=by
 intro s S Q E k
 refine wpAny_Assign_Subscript (h s S _ E fun w q σ₀ s₀ h₀ S₀ hq st₀=>?_) hs
 refine h₀ s₀ S₀ _ E fun v p σ₁ s₁ h₁ S₁ hv st₁=>?_
 refine wpAny_Slice (h₁ s₁ S₁ _ E fun vl lo σ₂ s₂ h₂ S₂ hl st₂=>h₂ s₂ S₂ _ E fun vu hi σ₃ s₃ h₃ S₃ hu st₃=>?_)
 rw [evalPart_none]
 obtain ⟨x,dx,C,att,l,ps,zone',rfl,hqq,ok,U,hlen,hP⟩:=h₃
 cases hv
 have S₄:=S₃.push { cls:=.type "slice",data:=.fields #[vl,vu,.none] }
 have st₄:Stp [] σ₀.own s₀ σ₃.own _:=st₁.trans (st₂.trans (st₃.trans (Stp.push { cls:=.type "slice",data:=.fields #[vl,vu,.none] })))
 obtain ⟨pre,post,e1,e2⟩:=U.split
 have hz:(x,MO.inst dx C att (some l))∈σ₃.zone:=by rw [e1];simp
 obtain ⟨d,es,n,h1,⟨items,m,rfl,hit⟩,h3,h4⟩:=S₄.zs _ hz
 have I:InstAt (s₃.heap.push { cls:=.type "slice",data:=.fields #[vl,vu,.none] }) x { cls:=.ref C,dict:=some dx,data:=.seq items m } C (some (zct es n)):=⟨h1,rfl,rfl,h3⟩
 have hsz:=hit.toArray
 have hsrc:∃ D its nv,w=.ref D/\(s₃.heap.push { cls:=.type "slice",data:=.fields #[vl,vu,.none] }).get? D=some (zam its nv)/\VRs (s₃.heap.push { cls:=.type "slice",data:=.fields #[vl,vu,.none] }) σ₃.own ps its.toList/\x≠D:=by
  have hx:x∈σ₃.own:=List.mem_flatMap.mpr ⟨_,hz,by simp [MO.addrs]⟩
  rcases hqq with rfl | ⟨D,rfl,hD⟩
  ·have hq':=hq.mono (S₀.kp st₄)
   cases hq' with
   | lst ha ho hl'=>exact ⟨_,_,_,rfl,ho,hl',fun q=>ha (q ▸ hx)⟩
  ·cases hq
   obtain ⟨its,nv,q1,q2⟩:=S₄.zs _ hD
   refine ⟨D,its,nv,rfl,q1,q2,fun q=>?_⟩
   subst q
   rw [h1] at q1;cases q1
 obtain ⟨D,its,nv,rfl,hD,hits,hxD⟩:=hsrc
 have hsz2:=hits.toArray
 refine wpAny_pure (ziE ok.lst (hK.now S₄) I ok.set slot_list_setitem.bind ?_)
 refine zcC zkE ok.lst (hK.now S₄) I (args_list_setitem _ _ _) ?_
 refine zbQ I.at_ rfl (by lia) hxD (Heap.IsSliceOf.new _ _ _ _) hl hu hD fun h' m' hsb hg=>⟨_,rfl,?_⟩
 have hxd:dx≠x:=by
  intro q;subst q
  rw [h1] at h3;cases h3
 obtain ⟨S',st'⟩:=S₄.upd U rfl (h':=h') (fun b o hb e=>hsb.extBut b o (fun q=>hb (by simp [MO.addrs,q])) e) fun kp=>⟨_,es,n,hg,⟨_,m',rfl,(VRs.cut hit hits lo hi).mono kp⟩,hsb.extBut _ _ hxd h3,h4.mono kp⟩
 exact k .next .next _ _ hP S' .next (Stp.up (st₀.trans (st₄.trans st')))
end
end Mine
end
section
open PySem PySem.Calls PyProof.Rows PySem.W PySem.Builtin PySem.Builtin.ObjectAttr
namespace Mine
section
variable {g:Gl}{A:Around}{F:Fm}{σ:AS}{s:Shared}{K:Frag}
structure zrT (g:Gl):Prop where
 ex:∃ o,g.h₁.get? cStatics=some o/\staticOf g.h₁ "thirdparty.any" = none
theorem zhM {C:Addr}(S:Sat g F σ s)(hst:zrT g):Looks (model g.prog g.w) s.heap (opaqueClassAbove (.ref C)) none:=by
  obtain ⟨mc, hn, h2⟩ := S.lim
  obtain ⟨o, q, hst⟩ := hst.ex
  have e : staticOf s.heap "thirdparty.any" = none := by
    rcases S.old.k.old _ o q with x | ⟨t, hc, vs, more, hv, x⟩ | ⟨_, hc, _, z⟩
    · rw [OldK.staticOf_congr (x.trans q.symm)]; exact hst
    · obtain ⟨o', es, ep, e', d, r⟩ := hn
      rw [x] at e'; cases e'
      cases d
    · rcases z "thirdparty.any" with z | ⟨z, _⟩
      · rw [z]; exact hst
      · exact absurd z (by decide +kernel)
  rw [Pin.staticOf_of_ns hn] at e
  intro A' Q E s' k q
  have hn' := hn.keeps k
  show wpAny _ _ (do if !(<- anyOpaqueLoaded) then return none
                     for t in (<- mroOf (.ref C)) do
                       if let .ref a := t then
                         if let some k <- opaqueClassKey? a then return some k
                     return none) Q E s'
  unfold anyOpaqueLoaded
  refine wpAny_bind (wpAny_bind (wpAny_nsGet hn' (wpAny_pure ?_)))
  rw [e]
  exact wpAny_pure q
end
theorem zb4:Slot "wrapper_descriptor" "__get__" "wrapper_descriptor.__get__" :=
 .of (owner:="wrapper_descriptor") (n:="__get__") (by rw [typeLookup_type,builtinLookup_eq_fast];kernel_rfl) (by decide +kernel) (by decide +kernel) (by decide +kernel)
  (by first | exact .inl (by decide +kernel) | exact .inr (by decide +kernel)) (by rw [isSubtype_type];kernel_rfl)
theorem zeb:entryFor table "wrapper_descriptor.__get__" = some Builtin.«wrapper_descriptor.__get__»:=entryFor_of_tree (by kernel_rfl)
theorem zfp (a b c:Value):argsOk "wrapper_descriptor.__get__" ⟨[a,b,c],[]⟩:=by unfold argsOk;kernel_rfl
theorem zii:classOwn (.type "list") "pop" = pure (some (.builtin "list.pop")):=by show (pure (builtinOwn "list" _):Sem (Option Value))=_;rw [builtinOwn_eq_fast];kernel_rfl
theorem zi2:classOwn (.type "list") "__len__" = pure (some (.builtin "list.__len__")):=by show (pure (builtinOwn "list" _):Sem (Option Value))=_;rw [builtinOwn_eq_fast];kernel_rfl
theorem zhs:classOwn (.type "list") "__init__" = pure (some (.builtin "list.__init__")):=by show (pure (builtinOwn "list" _):Sem (Option Value))=_;rw [builtinOwn_eq_fast];kernel_rfl
theorem zbJ:typeOf (.builtin "list.pop")=pure (.type "method_descriptor"):=by show builtinType _=_;rw [builtinType_eq_fast];kernel_rfl
theorem zbI:typeOf (.builtin "list.__len__")=pure (.type "wrapper_descriptor"):=by show builtinType _=_;rw [builtinType_eq_fast];kernel_rfl
theorem zbt:typeOf (.builtin "list.__init__")=pure (.type "wrapper_descriptor"):=by show builtinType _=_;rw [builtinType_eq_fast];kernel_rfl
theorem zlW:".".intercalate ("list.pop".cutAt '.').dropLast = "list":=by decide +kernel
theorem zmL:".".intercalate ("list.__len__".cutAt '.').dropLast = "list":=by decide +kernel
theorem zk1:".".intercalate ("list.__init__".cutAt '.').dropLast = "list":=by decide +kernel
noncomputable abbrev za5 (T id:String)(x:Addr):Obj:={ cls:=.type T,data:=.fields #[.builtin id,.ref x] }
section
variable {prog:Program}{w:World}{A:Around}{E:Value->Shared->Prop}{h:Heap}{g:Array GenState}{d:Drawn}{t:Nat}{os:OsState}{x C:Addr}
theorem zkX {Q:Fin->Shared->Prop}(L0:Looks (model prog w) h (typeOf (.ref x)) (.ref C))(L1:Looks (model prog w) h (isSubtype (.ref C) (.type "list")) true)(hq:Q (.done (.ret (.ref h.objs.size))) ⟨h.push (za5 "builtin_function_or_method" "list.pop" x),g,d,t,os⟩) :
  wpAny (model prog w) A (Builtin.«method_descriptor.__get__» ⟨[.builtin "list.pop",.ref x,.ref C],[]⟩) Q E ⟨h,g,d,t,os⟩:=by
 have hT5:(⟨h,g,d,t,os⟩:Shared).TypeIs (.builtin "list.pop") "method_descriptor":=zbJ
 rw [<- zlW] at L1
 unfold Builtin.«method_descriptor.__get__»
 repeat (any_goals (first | assumption | (with_reducible refine Looks.at L0 ?_) | (with_reducible refine Looks.at L1 ?_) | wp_step))
theorem zk0 {Q:Fin->Shared->Prop}(L0:Looks (model prog w) h (typeOf (.ref x)) (.ref C))(L1:Looks (model prog w) h (isSubtype (.ref C) (.type "list")) true)(hq:Q (.done (.ret (.ref h.objs.size))) ⟨h.push (za5 "method-wrapper" "list.__len__" x),g,d,t,os⟩) :
  wpAny (model prog w) A (Builtin.«wrapper_descriptor.__get__» ⟨[.builtin "list.__len__",.ref x,.ref C],[]⟩) Q E ⟨h,g,d,t,os⟩:=by
 have hT5:(⟨h,g,d,t,os⟩:Shared).TypeIs (.builtin "list.__len__") "wrapper_descriptor":=zbI
 rw [<- zmL] at L1
 unfold Builtin.«wrapper_descriptor.__get__»
 repeat (any_goals (first | assumption | (with_reducible refine Looks.at L0 ?_) | (with_reducible refine Looks.at L1 ?_) | wp_step))
theorem zjS {Q:Fin->Shared->Prop}(L0:Looks (model prog w) h (typeOf (.ref x)) (.ref C))(L1:Looks (model prog w) h (isSubtype (.ref C) (.type "list")) true)(hq:Q (.done (.ret (.ref h.objs.size))) ⟨h.push (za5 "method-wrapper" "list.__init__" x),g,d,t,os⟩) :
  wpAny (model prog w) A (Builtin.«wrapper_descriptor.__get__» ⟨[.builtin "list.__init__",.ref x,.ref C],[]⟩) Q E ⟨h,g,d,t,os⟩:=by
 have hT5:(⟨h,g,d,t,os⟩:Shared).TypeIs (.builtin "list.__init__") "wrapper_descriptor":=zbt
 rw [<- zk1] at L1
 unfold Builtin.«wrapper_descriptor.__get__»
 repeat (any_goals (first | assumption | (with_reducible refine Looks.at L0 ?_) | (with_reducible refine Looks.at L1 ?_) | wp_step))
structure zkI (prog:Program)(w:World)(x C:Addr)(name:Str)(id T BT:String):Prop where
 own:classOwn (.type "list") name=pure (some (.builtin id))
 ty:typeOf (.builtin id)=pure (.type T)
 get:∃ gid,typeLookup (.type T) "__get__" = pure (some (.builtin gid))/\∀ (A:Around) (E:Value->Shared->Prop) (h:Heap) g d t os (Q:Value->Shared->Prop),Looks (model prog w) h (typeOf (.ref x)) (.ref C)->Looks (model prog w) h (isSubtype (.ref C) (.type "list")) true ->
  Q (.ref h.objs.size) ⟨h.push (za5 BT id x),g,d,t,os⟩->wpAny (model prog w) A (call (.builtin gid) [.builtin id,.ref x,.ref C]) Q E ⟨h,g,d,t,os⟩
 nm:(name==("__class__":Str))=false
theorem zox:zkI prog w x C "pop" "list.pop" "method_descriptor" "builtin_function_or_method" :=
 ⟨zii,zbJ,⟨_,zbs.lookup,fun A E h g d t os Q L0 L1 hq=>wpAny_call_entry zbs zbJ zen (zkX L0 L1 ⟨_,rfl,hq⟩) (zfr _ _ _)⟩,by decide⟩
theorem zop:zkI prog w x C "__len__" "list.__len__" "wrapper_descriptor" "method-wrapper" :=
 ⟨zi2,zbI,⟨_,zb4.lookup,fun A E h g d t os Q L0 L1 hq=>wpAny_call_entry zb4 zbI zeb (zk0 L0 L1 ⟨_,rfl,hq⟩) (zfp _ _ _)⟩,by decide⟩
theorem zmS:zkI prog w x C "__init__" "list.__init__" "wrapper_descriptor" "method-wrapper" :=
 ⟨zhs,zbt,⟨_,zb4.lookup,fun A E h g d t os Q L0 L1 hq=>wpAny_call_entry zb4 zbt zeb (zjS L0 L1 ⟨_,rfl,hq⟩) (zfp _ _ _)⟩,by decide⟩
theorem zmW {so:Addr}{name:Str}{id T BT:String}{tk:Tok}{Q:Fin->Shared->Prop}(U:zkI prog w x C name id T BT)
  (hso:h.get? so=some { cls:=.type "super",dict:=none,data:=.fields #[.ref C,.ref x,.ref C],slots:=#[] }) (hno:Looks (model prog w) h (opaqueClassAbove (.ref C)) none)
  (hC:Looks (model prog w) h (mroOf (.ref C)) [.ref C,.type "list",.type "object"]) (L0:Looks (model prog w) h (typeOf (.ref x)) (.ref C)) (L1:Looks (model prog w) h (isSubtype (.ref C) (.type "list")) true) (hxC:x≠C)
  (hq:Q (.done (.ret (.ref h.objs.size))) ⟨h.push (za5 BT id x),g,d,t,os⟩) :
  wpAny (model prog w) A (Builtin.«super.__getattribute__» ⟨[.ref so,.str name tk],[]⟩) Q E ⟨h,g,d,t,os⟩:=by
 have hne:(Value.ref x==Value.ref C)=false:=by simp -iota [hxC]
 have hl:(([.ref C,.type "list",.type "object"]:List Value).dropWhile (· != .ref C)).drop 1=[.type "list",.type "object"]:=by simp -iota [List.dropWhile]
 obtain ⟨gid,hg1,hg2⟩:=U.get
 have hn:=U.nm
 have hown:=U.own
 have hty:=U.ty
 have hdt:({ cls:=.type "super",dict:=none,data:=.fields #[.ref C,.ref x,.ref C],slots:=#[] }:Obj).data=.fields #[.ref C,.ref x,.ref C]:=rfl
 have f0:(#[.ref C,.ref x,.ref C]:Array Value)[0]?=some (.ref C):=rfl
 have f1:(#[.ref C,.ref x,.ref C]:Array Value)[1]?=some (.ref x):=rfl
 have f2:(#[.ref C,.ref x,.ref C]:Array Value)[2]?=some (.ref C):=rfl
 unfold Builtin.«super.__getattribute__»
 repeat (first
  | (with_reducible refine wpAny_field hso hdt f0 ?_) | (with_reducible refine wpAny_field hso hdt f1 ?_) | (with_reducible refine wpAny_field hso hdt f2 ?_)
  | (with_reducible refine ks_wpAny_notOpaque hno ?_)
  | (with_reducible refine Looks.at hC ?_;rw [hl])
  | (with_reducible refine wpAny_of_eq hown ?_) | (with_reducible refine wpAny_of_eq hty ?_) | (with_reducible refine wpAny_of_eq hg1 ?_)
  | (with_reducible refine hg2 _ _ _ _ _ _ _ _ L0 L1 ?_)
  | (simp -iota only [hn,hne,Bool.or_false,Bool.false_eq_true,if_false])
  | (rw [List.forIn_cons])
  | wp_step
  | dsimp -iota only)
 all_goals exact hq
theorem ziU {so:Addr}{name:Str}{id T BT:String}{pl:Sem Bool}{Q:Value × List Value->Shared->Prop}(U:zkI prog w x C name id T BT)
  (hso:h.get? so=some { cls:=.type "super",dict:=none,data:=.fields #[.ref C,.ref x,.ref C],slots:=#[] }) (hno:Looks (model prog w) h (opaqueClassAbove (.ref C)) none)
  (hC:Looks (model prog w) h (mroOf (.ref C)) [.ref C,.type "list",.type "object"]) (L0:Looks (model prog w) h (typeOf (.ref x)) (.ref C)) (L1:Looks (model prog w) h (isSubtype (.ref C) (.type "list")) true) (hxC:x≠C)
  (hq:Q (.ref h.objs.size,[]) ⟨h.push (za5 BT id x),g,d,t+1,os⟩):wpAny (model prog w) A (getMethod (.ref so) name pl) Q E ⟨h,g,d,t,os⟩:=by
 have hlk:=PySem.F.ks_slot_super_ga.lookup
 have hcan:=PySem.F.ks_canon_super_ga
 have hT:∀ t',(⟨h,g,d,t',os⟩:Shared).TypeIs (.ref so) "super":=fun _=>⟨_,hso,rfl⟩
 unfold getMethod
 refine wpAny_bind (wpAny_specialOf (hT _) hlk ?_)
 show wpAny _ _ (if (Manifest.canonical "super.__getattribute__" != "object.__getattribute__")=true then _ else _) _ _ _
 rw [if_pos hcan]
 unfold getAttr getAttrBy
 refine wpAny_bind (wpAny_bind (wpAny_mkText (wpAny_holding (wpAny_bind (wpAny_typeOf (hT _) (wpAny_bind (wpAny_of_eq hlk ?_)))))))
 show wpAny _ _ (getAttrByItsOwn (.ref so) (.str name t) (.type "super") (.builtin "super.__getattribute__") true false) _ _ _
 unfold getAttrByItsOwn hookBefore callGetattribute boundAndCalled
 refine wpAny_bind (wpAny_of_eq (show (if onTheHeap (.type "super") then typeLookup (.type "super") "__getattr__" else pure none)=pure none from rfl) ?_)
 refine wpAny_bind (wpAny_attempt (wpAny_holding ?_))
 show wpAny _ _ (bindSpecial (.builtin "super.__getattribute__") (.ref so)>>=_) _ _ _
 refine wpAny_bind (wpAny_of_eq (PySem.F.ks_slot_super_ga.bind _) ?_)
 refine wpAny_mono (Q:=fun v s'=>v=.ref h.objs.size/\s'=⟨h.push (za5 BT id x),g,d,t+1,os⟩) (E:=fun _ _=>False)
  (wpAny_call_entry PySem.F.ks_slot_super_ga (hT _) PySem.F.ks_entry_super_ga (zmW U hso hno hC L0 L1 hxC ⟨_,rfl,rfl,rfl⟩) (PySem.F.ks_gaArgs_super _ _)) (fun v s' hv=>?_) fun _ _ z=>z.elim
 obtain ⟨rfl,rfl⟩:=hv
 exact wpAny_pure (wpAny_pure hq)
theorem zfH {cd:ClassData}{oc:Obj}{ox:Obj}{Q:Unit->Shared->Prop}(hx:h.get? x=some ox)(hcl:ox.cls=.ref C)(hnc:notCls ox=true)(L0:Looks (model prog w) h (typeOf (.ref x)) (.ref C))(L2:Looks (model prog w) h (isSubtype (.ref C) (.type "module")) false)(Lc:Looks (model prog w) h (classData C) cd)(Lt:Looks (model prog w) h (typeOf (.ref C)) (.type "type"))
  (hq:Q () ⟨h,g,d,t,os⟩):wpAny (model prog w) A (checkBoundCall "list.pop" ⟨[.ref x],[]⟩) Q E ⟨h,g,d,t,os⟩:=by
 have hnc':∀ c,ox.data≠.cls c:=fun c q=>by unfold notCls at hnc;rw [q] at hnc;cases hnc
 unfold checkBoundCall
 repeat (any_goals (first | assumption | (with_reducible refine Looks.at L0 ?_) | (with_reducible refine Looks.at L2 ?_) | (with_reducible refine Looks.at Lc ?_) | (with_reducible refine Looks.at Lt ?_) | (with_reducible refine ks_wpAny_isType_inst hx hnc' ?_) | wp_step))
 split
 all_goals repeat (any_goals (first | assumption | (with_reducible refine Looks.at Lc ?_) | wp_step | rw [hcl]))
theorem zfV {Q:Unit->Shared->Prop}(hq:Q () ⟨h,g,d,t,os⟩):wpAny (model prog w) A (checkBoundCall "list.__len__" ⟨[.ref x],[]⟩) Q E ⟨h,g,d,t,os⟩:=by
 unfold checkBoundCall
 repeat (any_goals (first | assumption | wp_step))
theorem zeG {Q:Unit->Shared->Prop}(hq:Q () ⟨h,g,d,t,os⟩):wpAny (model prog w) A (checkBoundCall "list.__init__" ⟨[.ref x],[]⟩) Q E ⟨h,g,d,t,os⟩:=by
 unfold checkBoundCall
 repeat (any_goals (first | assumption | wp_step))
end
end Mine
end
section
open PySem PySem.Calls PyProof.Rows PySem.W PySem.Builtin PySem.Builtin.ObjectAttr
namespace Mine
noncomputable def zeP (K:Frag)(C:Addr):Bool:=match K.lookup C with
 | some ⟨_,_,.cls cd,sl⟩=>!cd.abstract && !cd.hasDel && (sl.toList[4]?).join==some (.builtin "list.__new__") && !cd.mro.isEmpty && cd.mro.contains (.ref C) && cd.mro.contains (.type "list") &&
   specialIn K (.ref C) "__call__"==some (some (.builtin "type.__call__")) && instIn K (.ref C) (.type "type")==some true
 | _=>false
structure zlr (M:Model)(h:Heap)(C:Addr):Prop where
 obj:∃ oc od cd sl,h.get? C=some ⟨oc,od,.cls cd,sl⟩/\cd.abstract=false/\cd.hasDel=false/\cd.mro.isEmpty=false
 made:Looks M h (Bind.madeBy (.ref C)) (some "list.__new__")
 base:Looks M h (Bind.staticBase (.ref C)) (.ref C)
 self:Looks M h (isSubtype (.ref C) (.ref C)) true
 top:Looks M h (isSubtype (.ref C) (.type "list")) true
 call:Looks M h (specialOf (.ref C) "__call__") (some (.builtin "type.__call__"))
 typ:Looks M h (isInstance (.ref C) (.type "type")) true
set_option tactic.hygienic true in
theorem zl5 {K:Frag}{M:Model}{h:Heap}(X:K.In h){C:Addr}(e:zeP K C=true):zlr M h C:=by
 unfold zeP at e
 split at e
 ·rename_i oc od cd sl ho
  simp -iota only [Bool.and_eq_true,Bool.not_eq_true',beq_iff_eq] at e
  obtain ⟨⟨⟨⟨⟨⟨⟨e1,e2⟩,e3⟩,e4⟩,e5⟩,e6⟩,e7⟩,e8⟩:=e
  have hc:clsIn K C=some cd:=by unfold clsIn;rw [ho]
  have hm:Looks M h (mroOf (.ref C)) cd.mro:=(looks_clsIn X hc).andThen .now
  obtain ⟨c,l,hl⟩:∃ c l,cd.mro=c::l:=by cases q:cd.mro with | nil=>rw [q] at e4;cases e4 | cons c l=>exact ⟨c,l,rfl⟩
  have made:Looks M h (Bind.madeBy (.ref C)) (some "list.__new__"):=by
   intro A Q E s k q
   unfold Bind.madeBy
   refine wpAny_bind (hm A _ E s k ?_)
   rw [hl,List.forIn_cons]
   refine wpAny_bind (wpAny_bind (wpAny_bind (wpAny_bind (wpAny_loadPart (k _ _ (X _ _ ho)) (wpAny_pure ?_)))))
   dsimp -iota only
   rw [<- Array.getElem?_toList,e3]
   exact wpAny_pure (wpAny_pure (wpAny_pure q))
  refine ⟨⟨oc,od,cd,sl,X _ _ ho,e1,e2,e4⟩,made,?_,looks_mroIn X ?_,looks_mroIn X ?_,looks_specialIn X e7,looks_instIn X e8⟩
  ·intro A Q E s k q
   unfold Bind.staticBase
   refine wpAny_bind (hm A _ E s k ?_)
   rw [hl,List.forIn_cons]
   exact wpAny_bind (wpAny_bind (wpAny_bind (made A _ E s k (wpAny_pure (wpAny_pure (wpAny_pure q))))))
  ·unfold mroIn;rw [hc,Option.bind_some,if_neg (by rw [e4];decide),e5]
  ·unfold mroIn;rw [hc,Option.bind_some,if_neg (by rw [e4];decide),e6]
 ·cases e
noncomputable abbrev zdW (C dx:Addr):Obj:={ cls:=.ref C,dict:=some dx,data:=.seq #[] }
theorem zpc:builtinKind "list.__new__" = some .builtinFn:=by decide +kernel
theorem znj:splitId "list.__new__" = some ("list","__new__"):=by decide +kernel
theorem zrq:Manifest.signature? "list.__new__" = some ⟨.any,"list","list",.cls,[⟨"args",.varPos,false⟩,⟨"kwargs",.varKw,false⟩]⟩:=by kernel_rfl
section
variable {prog:Program}{w:World}{A:Around}{K:Frag}{C:Addr}{R:Result->Shared->Prop}{h:Heap}{g:Array GenState}{d:Drawn}{t:Nat}{os:OsState}
theorem zsq {a:Value}(Y:zlr (model prog w) h C)(hq:R (.ok (.ret (.ref (h.objs.size+1)))) ⟨(h.push emptyDict).push (zdW C h.objs.size),g,d,t,os⟩) :
  codeAny (model prog w) A (.call (.builtin "list.__new__") ⟨[.ref C,a],[]⟩) R ⟨h,g,d,t,os⟩:=by
 obtain ⟨⟨oc,od,cd,sl,hC,e1,e2,e4⟩,made,base,self,top,call,typ⟩:=Y
 refine codeAny_call_builtin_code (Code.quiet_builtin _ (by decide +kernel)) ?_
 have args:Bind.checkArgs "list.__new__" ⟨.any,"list","list",.cls,[⟨"args",.varPos,false⟩,⟨"kwargs",.varKw,false⟩]⟩ ⟨[.ref C,a],[]⟩=pure ():=by kernel_rfl
 simp only [checkBuiltinCall,zpc,znj,zrq]
 rw [args]
 repeat (first | simp only [bne_self_eq_false,Bool.false_eq_true,if_false] | lk)
 refine codeAny_builtin_stack PySem.F.entry_list_new rfl fun p st=>?_
 have hown:=owner_list_new
 simp only [hown]
 repeat (first | simp only [Bool.not_true,Bool.false_eq_true,if_false] | lk)
 refine nd_load (Heap.get?_push_of_some _ (Heap.get?_push_of_some _ hC)) (wpAny_pure ?_)
 dsimp only
 rw [e2]
 refine wpAny_pure ?_
 rw [if_neg (by decide)]
 refine wpAny_pure (wpAny_pure ?_)
 show R _ _
 rw [Heap.size_push]
 exact hq
theorem zpC {a:Value}{init:Value}(Y:zlr (model prog w) h C)(hi:Looks (model prog w) h (typeLookup (.ref C) "__init__") (some init))
  (hb:∀ self,Looks (model prog w) h (bindSpecial init self) (init,[self]))
  (hq:codeAny (model prog w) (A.under (.builtin "type.__call__" ⟨[.ref C,a],[]⟩)) (.call init ⟨[.ref (h.objs.size+1),a],[]⟩) (InitBack (h.objs.size+1) R) ⟨(h.push emptyDict).push (zdW C h.objs.size),g,d,t,os⟩) :
  codeAny (model prog w) A (.call (.ref C) ⟨[a],[]⟩) R ⟨h,g,d,t,os⟩:=by
 have Y':=Y
 obtain ⟨⟨oc,od,cd,sl,hC,e1,e2,e4⟩,made,base,self,top,call,typ⟩:=Y
 refine codeAny_of_tree ?_
 show wpAny _ _ (callAny (.ref C) _) _ _ _
 refine nd_load hC ?_
 show wpAny _ _ (callAny.viaDunder (.ref C) _) _ _ _
 unfold callAny.viaDunder
 refine wpAny_bind (call.at ?_)
 dsimp only
 rw [tc_bind]
 refine wpAny_bind (wpAny_pure (wpAny_bind (wpAny_pure ?_)))
 refine wpAny_pure (a:=Fin.again (.call (.builtin "type.__call__") ⟨[.ref C,a],[]⟩)) (And.intro rfl ?_)
 refine codeAny_call_builtin_at (Code.quiet_builtin _ (by decide +kernel)) entry_typeCall (check_slot tc_kind tc_split typ (tc_args _ _ _) ?_)
 unfold Builtin.«type.__call__»
 have hm:Looks (model prog w) h (mroOf (.ref C)) cd.mro:=((Looks.ld (part:=none) hC).andThen .now).andThen .now
 repeat (first | simp only [e4,Bool.false_eq_true,if_false] | with_reducible refine wpAny_call ?_ | lk)
 refine zsq Y' ?_
 have k:∀ b o,h.get? b=some o->((h.push emptyDict).push (zdW C h.objs.size)).get? b=some o:=fun b o e=>Heap.get?_push_of_some _ (Heap.get?_push_of_some _ e)
 have hx:((h.push emptyDict).push (zdW C h.objs.size)).get? (h.objs.size+1)=some (zdW C h.objs.size):=by heap_get
 have t1:Looks (model prog w) ((h.push emptyDict).push (zdW C h.objs.size)) (typeOf (.ref (h.objs.size+1))) (.ref C):=(Looks.ld hx).andThen .now
 have s1:=self.keeps k
 have i1:=hi.keeps k
 have b1:=(hb (.ref (h.objs.size+1))).keeps k
 unfold isInstance callSpecial? specialOf
 repeat (first | with_reducible refine wpAny_call ?_ | lk)
 refine codeAny_mono hq fun r s' z=>?_
 rcases r with e | (v | _ | _ | _) <;> first | exact z | exact z.elim | skip
 obtain ⟨rfl,z⟩:=z
 exact wpAny_pure (wpAny_pure z)
end
section
variable {g:Gl}{A:Around}{F:Fm}{σ:AS}{s:Shared}{K:Frag}{P:PV->AS->Prop}
theorem Sat.newInst (S:Sat g F σ s)(C:Addr)(body:Option (List PV))(o:Obj)(ho:o={ cls:=.ref C,dict:=some s.heap.objs.size,data:=match body with | none=>.plain | some _=>.seq #[] })(hb:body=none\/body=some []) :
  Sat g F ⟨σ.loc,(s.heap.objs.size+1,.inst s.heap.objs.size C [] body)::σ.zone⟩ { s with heap:=(s.heap.push emptyDict).push o }/\Stp [] σ.own s (AS.own ⟨σ.loc,(s.heap.objs.size+1,.inst s.heap.objs.size C [] body)::σ.zone⟩) { s with heap:=(s.heap.push emptyDict).push o }:=by
 have kk:∀ b o',s.heap.get? b=some o'->((s.heap.push emptyDict).push o).get? b=some o':=fun b o' e=>Heap.get?_push_of_some _ (Heap.get?_push_of_some _ e)
 have hown:AS.own ⟨σ.loc,(s.heap.objs.size+1,.inst s.heap.objs.size C [] body)::σ.zone⟩=(s.heap.objs.size+1)::s.heap.objs.size::σ.own:=rfl
 have kp:Kp s.heap ((s.heap.push emptyDict).push o) σ.own ((s.heap.objs.size+1)::s.heap.objs.size::σ.own):=fun b o xs n e _ no=>⟨kk b o e,fun q=>by
  have hlt:=Heap.lt_size e
  rcases List.mem_cons.mp q with rfl | q
  ·exact Nat.lt_irrefl _ (Nat.lt_trans (Nat.lt_succ_self _) hlt)
  ·rcases List.mem_cons.mp q with rfl | q
   ·exact Nat.lt_irrefl _ hlt
   ·exact no q⟩
 have S₁:=S.keeps (h':=(s.heap.push emptyDict).push o) (tk:=s.toks) kk
 have hx:((s.heap.push emptyDict).push o).get? (s.heap.objs.size+1)=some o:=by
  have:=Heap.get?_push_size (s.heap.push emptyDict) (o:=o) (by rw [ho];cases body <;> rfl)
  rwa [Heap.size_push] at this
 have hd:((s.heap.push emptyDict).push o).get? s.heap.objs.size=some emptyDict:=Heap.get?_push_of_some _ (Heap.get?_push_size _ rfl)
 refine ⟨⟨S₁.old,S₁.lim,S.os,S.bare,?_,fun a ha=>?_,fun z hz'=>?_,S₁.fr,S₁.ns,S.nin,fun x p e=>?_,S.cs,S₁.cl⟩,⟨fun b o e _ _ _=>kk b o e,fun b o e=>⟨o,kk b o e⟩,fun a ha=>?_,fun _ _ e=>e⟩⟩
 ·rw [hown]
  obtain ⟨n1,n2,n3⟩:=List.nodup_append.mp S.nd
  refine List.nodup_append.mpr ⟨n1,List.nodup_cons.mpr ⟨fun q=>?_,List.nodup_cons.mpr ⟨fun q=>Nat.lt_irrefl _ (S.own_lt q),n2⟩⟩,fun a ha b hb q=>?_⟩
  ·rcases List.mem_cons.mp q with q | q
   ·exact Nat.succ_ne_self _ q
   ·exact Nat.lt_irrefl _ (Nat.lt_trans (Nat.lt_succ_self _) (S.own_lt q))
  ·subst q
   have hlt:=S.fr_lt ha
   rcases List.mem_cons.mp hb with rfl | hb
   ·exact Nat.lt_irrefl _ (Nat.lt_trans (Nat.lt_succ_self _) hlt)
   ·rcases List.mem_cons.mp hb with rfl | hb
    ·exact Nat.lt_irrefl _ hlt
    ·exact n3 a ha a hb rfl
 ·rw [hown] at ha
  rcases List.mem_append.mp ha with h | h
  ·exact S.lo a (List.mem_append_left _ h)
  ·rcases List.mem_cons.mp h with rfl | h
   ·exact Nat.le_succ_of_le S.base_le
   ·rcases List.mem_cons.mp h with rfl | h
    ·exact S.base_le
    ·exact S.lo a (List.mem_append_right _ h)
 ·rw [hown]
  rcases List.mem_cons.mp hz' with rfl | hz'
  ·rcases hb with rfl | rfl
   ·exact ⟨_,#[],0,by rw [hx,ho],rfl,hd,.nil⟩
   ·exact ⟨_,#[],0,by rw [hx,ho],⟨#[],0,rfl,.nil⟩,hd,.nil⟩
  ·exact (S.zs z hz').mono kp fun b _ o e=>kk b o e
 ·rw [hown]
  obtain ⟨v,h1,h2⟩:=S.loc x p e
  exact ⟨v,h1.ext fun b o e _=>kk b o e,h2.mono kp⟩
 ·rw [hown] at ha
  rcases List.mem_cons.mp ha with rfl | ha
  ·refine .inr ?_
   cases q:s.heap.get? (s.heap.objs.size+1) with
   | none=>rfl
   | some o'=>exact absurd (Nat.lt_trans (Nat.lt_succ_self _) (Heap.lt_size q)) (Nat.lt_irrefl _)
  ·rcases List.mem_cons.mp ha with rfl | ha
   ·exact .inr (zae _)
   ·exact .inl ha
theorem Rm.under {A:Around}{n:Nat}{C:Addr}{vals:List Value}{kw:List (Str × Value)}(h:Rm A (n+1)):Rm (A.under (.builtin "type.__call__" ⟨.ref C::vals,kw⟩)) n:=by
 refine ⟨h.handled,?_,?_⟩
 ·have:=h.depth
  have e:(A.under (.builtin "type.__call__" ⟨.ref C::vals,kw⟩)).depth=A.depth+1:=rfl
  rw [e];lia
 ·have:=h.units
  have e:(A.under (.builtin "type.__call__" ⟨.ref C::vals,kw⟩)).units=A.units+1:=rfl
  rw [e];lia
theorem znV {C fI:Addr}{ps:List PV}{n:Nat}(hr:Rm A (n+1))(hK:Fg g K)(hm:makesIn K C=true)(hi:findIn K (.ref C) "__init__" = some (some (.ref fI)))(ht:typeIn K (.ref fI)=some (.type "function"))
  (h:∀ A' x dx,Rm A' n->CLC g A' F (.ref fI) (.raw (.ref x)::ps) ⟨σ.loc,(x,.inst dx C [] none)::σ.zone⟩ fun p σ'=>p=.raw .none/\P (.raw (.ref x)) σ'):CL g A F (.ref C) ps σ P:=by
 intro s vs S hvs Q E k
 obtain ⟨S₂,st₂⟩:=S.newInst C none _ rfl (.inl rfl)
 have X:=hK.now S
 refine wpAny_call ?_
 obtain ⟨hh,gg,d,t,os⟩:=s
 refine make_core (makes_of X hm) (looks_findIn X hi) (fun self=>bind_fn X self ht) (.inl rfl) ?_
 have hvs':VRs _ (AS.own ⟨σ.loc,(hh.objs.size+1,.inst hh.objs.size C [] none)::σ.zone⟩) ps vs:=hvs.mono (S.kp st₂)
 refine h _ _ _ (Rm.under hr) _ (.ref (hh.objs.size+1)::vs) S₂ (.cons (.raw _) hvs') _ fun a b σ' s' hb S' hv st=>?_
 obtain ⟨rfl,hP⟩:=hb
 cases hv
 exact ⟨rfl,k _ _ σ' s' hP S' (.raw _) (st₂.trans st)⟩
set_option tactic.hygienic true in
theorem zol {C fI:Addr}{p:PV}{n:Nat}(hr:Rm A (n+1))(hK:Fg g K)(hm:zeP K C=true)(hi:findIn K (.ref C) "__init__" = some (some (.ref fI)))(ht:typeIn K (.ref fI)=some (.type "function"))
  (h:∀ A' x dx,Rm A' n->CLC g A' F (.ref fI) [.raw (.ref x),p] ⟨σ.loc,(x,.inst dx C [] (some []))::σ.zone⟩ fun q σ'=>q=.raw .none/\P (.raw (.ref x)) σ'):CL g A F (.ref C) [p] σ P:=by
 intro s vs S hvs Q E k
 obtain ⟨S₂,st₂⟩:=S.newInst C (some []) _ rfl (.inr rfl)
 have X:=hK.now S
 cases hvs with
 | cons hv hs =>
  cases hs
  rename_i v _
  refine wpAny_call ?_
  obtain ⟨hh,gg,d,t,os⟩:=s
  refine zpC (zl5 X hm) (looks_findIn X hi) (fun self=>bind_fn X self ht) ?_
  have hv':VR _ (AS.own ⟨σ.loc,(hh.objs.size+1,.inst hh.objs.size C [] (some []))::σ.zone⟩) p v:=hv.mono (S.kp st₂)
  refine h _ _ _ (Rm.under hr) _ [.ref (hh.objs.size+1),v] S₂ (.cons (.raw _) (.cons hv' .nil)) _ fun a b σ' s' hb S' hv st=>?_
  obtain ⟨rfl,hP⟩:=hb
  cases hv
  exact ⟨rfl,k _ _ σ' s' hP S' (.raw _) (st₂.trans st)⟩
theorem zhU {M:Model}{A:Around}{s:Shared}{pos:Pos}{C:Addr}{first:List Value}{args:List (Bool × Sem Value)}{Q:Value->Shared->Prop}{E:Value->Shared->Prop}(hplain:args.any (·.1)=false)
  (h:wpAny M A (evalArgs (.ref C) true args []) (fun x s₁=>(∃ oc od cd sl,s₁.heap.get? C=some ⟨oc,od,.cls cd,sl⟩)/\Looks M s₁.heap (specialOf (.ref C) "__call__") (some (.builtin "type.__call__"))/\wpAny M A (call (.ref C) (first++x.pos) x.kw) Q E s₁) E s):wpAny M A (callWith pos (.ref C) first args []) Q E s:=by
 unfold callWith
 refine wpAny_bind (wpAny_holding (wpAny_mono h (fun x s₁ h₁=>wpAny_bind (wpAny_standAt ?_)) fun _ _ x=>x))
 obtain ⟨⟨oc,od,cd,sl,ho⟩,hL,hcall⟩:=h₁
 simp -iota only [hplain,List.any_nil,Bool.or_false]
 refine wpAny_bind (m:=keeperOf (.ref C)) ?_
 unfold keeperOf
 refine wpAny_bind (wpAny_load ho ?_)
 dsimp -iota only
 refine wpAny_bind (hL.here ?_)
 rw [if_pos (by decide)]
 refine wpAny_pure ?_
 exact wpAny_bind (wpAny_mono hcall (fun r s₂ hr=>wpAny_bind (wpAny_holding (wpAny_point (wpAny_pure hr)))) fun _ _ x=>x)
noncomputable def zeQ (K:Frag)(C:Addr):Bool:=(clsIn K C).isSome && specialIn K (.ref C) "__call__"==some (some (.builtin "type.__call__"))
abbrev zgh (g:Gl)(A:Around)(F:Fm)(P:PV->AS->Prop)(C:Addr):List PV->AS->Prop:=fun ps σ₂=>CL g A F (.ref C) ps σ₂ P
abbrev zge (g:Gl)(A:Around)(F:Fm)(P:PV->AS->Prop)(args:List Expr)(C:Addr):PV->AS->Prop:=fun p σ₁=>p=.raw (.ref C)/\EVs g A F args σ₁ (zgh g A F P C)
set_option tactic.hygienic true in
theorem zdh {func:Expr}{args:List Expr}{pos:Pos}{C:Addr}(hK:Fg g K)(hC:zeQ K C=true)
  (h:EV g A F func σ (zge g A F P args C))
  (he:eval (.Call func args [] pos) F.env=(do callWith pos (<- eval func F.env) [] (backTo pos (starEach args F.env)) (backToKw pos (keywordEach [] F.env))):=by left)
  (hns:(backTo pos (starEach args F.env)).any (·.1)=false:=by left):EV g A F (.Call func args [] pos) σ P:=by
 intro s S Q E k
 refine Call_ (h s S _ E fun v p σ₁ s₁ h₁ S₁ hv st₁=>?_) he
 obtain ⟨rfl,h₁⟩:=h₁
 cases hv
 refine zhU hns (zaa h₁ hns S₁ fun vs ps σ₂ s₂ h₂ S₂ hvs st₂=>?_)
 have X:=hK.now S₂
 unfold zeQ at hC
 simp -iota only [Bool.and_eq_true,beq_iff_eq] at hC
 refine ⟨?_,looks_specialIn X hC.2,h₂ s₂ vs S₂ hvs Q E fun a b σ' s' h' S' hr st'=>k a b σ' s' h' S' hr (st₁.trans (st₂.trans st'))⟩
 obtain ⟨cd,hcd⟩:=Option.isSome_iff_exists.mp hC.1
 unfold clsIn at hcd
 split at hcd
 ·rename_i ho;exact ⟨_,_,_,_,X _ _ ho⟩
 ·cases hcd
end
end Mine
end
section
open PySem PySem.Calls PyProof.Rows PySem.W PySem.Builtin PySem.Builtin.ObjectAttr
namespace Mine
abbrev JAt {α β:Type}(g:Gl)(A:Around)(c:Code)(F:Fm)(fr:List Addr)(R:Heap->List Addr->β->α->Prop)(t:Sem α)(σ:AS)(P:β->AS->Prop):Prop :=
 ∀ s,Sat g F σ s->∀ (Q:α->Shared->Prop) (E:Value->Shared->Prop),
  (∀ a b σ' s',P b σ'->Sat g F σ' s'->R s'.heap σ'.own b a->Stp fr σ.own s σ'.own s'->Q a s')->PySem.wpAt (model g.prog g.w) A c t Q E s
abbrev ztE (g:Gl)(A:Around)(c:Code)(F:Fm)(e:Expr)(σ:AS)(P:PV->AS->Prop):Prop:=JAt g A c F [] VR (eval e F.env) σ P
abbrev zk5 (g:Gl)(A:Around)(c:Code)(F:Fm)(sts:List Stmt)(σ:AS)(P:Fl->AS->Prop):Prop:=JAt g A c F F.fr FlR (execs sts F.env) σ P
section
variable {g:Gl}{A:Around}{c:Code}{F:Fm}{σ:AS}{s:Shared}{K:Frag}
theorem JAt.of {α β:Type}{fr:List Addr}{R:Heap->List Addr->β->α->Prop}{t:Sem α}{P:β->AS->Prop}(h:J g A F fr R t σ P):JAt g A c F fr R t σ P:=fun s S Q E k=>PySem.wpAt_of_wpAny (h s S Q E k)
abbrev zhw (c:Code)(g:Gl)(A:Around)(F:Fm)(P:Fl->AS->Prop)(rest:List Stmt):Fl->AS->Prop:=fun fl σ₁=>match fl with | .next=>zk5 g A c F rest σ₁ P | fl=>P fl σ₁
theorem zdU {st:Stmt}{rest:List Stmt}{P:Fl->AS->Prop}(h:EX g A F st σ (zhw c g A F P rest)):zk5 g A c F (st::rest) σ P:=by
 intro s S Q E k
 refine ks_wpAt_execs_cons (PySem.wpAt_of_wpAny (h s S _ E fun f fl σ₁ s₁ h₁ S₁ hr st₁=>?_))
 cases hr with
 | next=>exact h₁ s₁ S₁ Q E fun f fl σ₂ s₂ h₂ S₂ hr st₂=>k f fl σ₂ s₂ h₂ S₂ hr (st₁.trans st₂)
 | brk=>exact k _ _ σ₁ s₁ h₁ S₁ .brk st₁
 | cont=>exact k _ _ σ₁ s₁ h₁ S₁ .cont st₁
 | ret hv=>exact k _ _ σ₁ s₁ h₁ S₁ (.ret hv) st₁
abbrev ziH (P:Fl->AS->Prop):PV->AS->Prop:=fun p σ₁=>P (.ret p) σ₁
theorem ziT {e:Expr}{pos:Pos}{rest:List Stmt}{P:Fl->AS->Prop}(h:ztE g A c F e σ (ziH P)):zk5 g A c F (.Return (some e) pos::rest) σ P:=by
 intro s S Q E k
 refine ks_wpAt_execs_cons (ks_wpAt_Return_some (h s S _ E fun v p σ₁ s₁ h₁ S₁ hv st₁=>?_))
 exact k _ _ σ₁ s₁ h₁ S₁ (.ret hv) st₁.up
abbrev zhP (P:Fl->AS->Prop):PV->AS->Prop:=fun p σ₁=>P .next σ₁
theorem zk2 {e:Expr}{pos:Pos}{P:Fl->AS->Prop}(h:ztE g A c F e σ (zhP P))(hi:interactive F.env=false:=by left)(hs:swapsWith e none pos.line F.env=pure false:=by left):zk5 g A c F [.Expr e pos] σ P:=by
 intro s S Q E k
 refine ks_wpAt_execs_cons (ks_wpAt_Expr_any (h s S _ E fun v p σ₁ s₁ h₁ S₁ hv st₁=>?_) hi hs)
 exact PySem.wpAt_of_wpAny (wpAny_execs_nil (k _ _ σ₁ s₁ h₁ S₁ .next st₁.up))
structure zhN (g:Gl)(fd:FuncData)(C:Addr):Prop where
 ex:∃ cc o,fd.closure.lookup ("__class__":Str)=some cc/\g.h₁.get? cc=some o/\o.cls≠.none/\o.data=.cell (some (.ref C))
structure znD (g:Gl)(fd:FuncData):Prop where
 hks:fd.scope.names.lookup ("super":Str)=some .globalImplicit
 hkc:fd.scope.names.lookup ("__class__":Str)=some .free
 hp:∃ ar,(fd.params.posonlyargs++fd.params.args).head?=some ar/\ar.arg = "self"
 code:∃ cc oc vs file tf,fd.code=.ref cc/\g.h₁.get? cc=some oc/\oc.cls≠.none/\oc.data=.fields vs/\vs[2]?=some (.str file tf)/\((g.prog.main.file:Str)==file)=true
 htop:(g.prog.main.scope.names.lookup ("super":Str)).isSome=false
 bl:g.Blt "super" (.type "super")
theorem zdc {M:Model}{E:Value->Shared->Prop}{s:Shared}{pos:Pos}{u:Addr}{ob:Obj}{vs:Array Value}{env:Env}{Q:Value->Shared->Prop}(hd:ob.data=.fields vs)(hc:(ob.cls==.type "builtin_function_or_method" || ob.cls==.type "method-wrapper")=true)(hm:(ob.cls != .type "method")=true)
  (ho:s.heap.get? u=some ob) (h:wpAny M A (call (.ref u) []) Q E s):wpAny M A (callWith pos (.ref u) [] (backTo pos (starEach [] env)) []) Q E s:=by
 unfold callWith
 refine wpAny_bind (wpAny_holding (evalArgs_nil3 (wpAny_bind (wpAny_standAt ?_))))
 refine wpAny_bind (m:=keeperOf (.ref u)) ?_
 unfold keeperOf
 refine wpAny_bind (wpAny_load ho ?_)
 simp -iota only [hd,hc,hm,if_true]
 refine wpAny_pure ?_
 exact wpAny_bind (wpAny_mono h (fun r s₂ hr=>wpAny_bind (wpAny_holding (wpAny_point (wpAny_pure hr)))) fun _ _ x=>x)
def zkb (g:Gl)(A:Around)(F:Fm)(id:String)(x:Addr)(σ:AS)(P:PV->AS->Prop):Prop :=
 ∀ s,Sat g F σ s->∀ (R:Result->Shared->Prop),(∀ a b σ' s',P b σ'->Sat g F σ' s'->VR s'.heap σ'.own b a->Stp [] σ.own s σ'.own s'->R (.ok (.ret a)) s') ->
  codeAny (model g.prog g.w) A (.builtin id ⟨[.ref x],[]⟩) R s
def zkj (g:Gl)(F:Fm)(id:String)(x:Addr)(σ:AS):Prop:=∀ (A:Around) s,Sat g F σ s->∀ (Q:Unit->Shared->Prop) (E:Value->Shared->Prop),Q () s->wpAny (model g.prog g.w) A (checkBoundCall id ⟨[.ref x],[]⟩) Q E s
set_option tactic.hygienic true in
theorem zdZ {body:List Stmt}{fd:FuncData}{L f:Addr}{x dx C:Addr}{att:List (Str × PV)}{l:List PV}{name:Str}{id T BT:String}{p0 p1 apos pos:Pos}{pl:Sem Bool}{P:PV->AS->Prop}(hK:Fg g K)(hC:zaV K C)(hcls:∃ cd,clsIn K C=some cd)(hst:zrT g)
  (hf:zdB g f fd body) (hsc:znD g fd) (hcc:zhN g fd C) (U:zkI g.prog g.w x C name id T BT) (hbt:(Value.type BT==.type "builtin_function_or_method" || Value.type BT==.type "method-wrapper")=true) (hbm:(Value.type BT != .type "method")=true) (hq:plainId id=true)
  (hz:(x,.inst dx C att (some l))∈σ.zone) (hself:σ.loc.lookup ("self":Str)=some (.raw (.ref x))) (hchk:zkj g (zap fd L f) id x σ) (hrun:zkb g A (zap fd L f) id x σ P)
  (he:eval (.Call (.Attribute (.Call (.Name "super" p0) [] [] p1) name apos) [] [] pos) (zap fd L f).env=(do
   let ov <- attributeBase (.Call (.Name "super" p0) [] [] p1) name (zap fd L f).env (eval (.Call (.Name "super" p0) [] [] p1) (zap fd L f).env)
   standAt apos.atName
   let (f',first) <- holding [ov] (getMethod ov name pl)
   callWith pos f' first (backTo pos (starEach [] (zap fd L f).env)) []):=by left) :
  ztE g A (.func body (callEnv fd L f)) (zap fd L f) (.Call (.Attribute (.Call (.Name "super" p0) [] [] p1) name apos) [] [] pos) σ P:=by
 intro s S Q E k
 refine ks_wpAt_MethodCall ?_ he
 obtain ⟨ar,hp,har⟩:=hsc.hp
 obtain ⟨cc,oc,vs,file,tf,hco,hcc1,hcc2,hoc,hvs,hfile⟩:=hsc.code
 obtain ⟨o,e,hd⟩:=hf.now S
 refine ks_wpAt_super_base (f:=f) (cc:=cc) (ar:=ar) hsc.hks hsc.hkc U.nm rfl e hd hp hco (S.old.get_of_cls hcc1 hcc2) hoc hvs hfile hsc.htop ?_
 have hkf:(callEnv fd L f).scope.kind=.function:=hf.kind
 have hgl:(callEnv fd L f).globals=mainGlobals:=hf.gl
 have hbl:(callEnv fd L f).builtins=builtinsNs:=hf.bl
 have l1:∀ (Q':Value->Shared->Prop) E',Q' (.type "super") s->wpAny (model g.prog g.w) A (loadName (callEnv fd L f) "super") Q' E' s:=by
  intro Q' E' hq'
  obtain ⟨mg,om,mb,ob,n,e1,hc1,hm,nb,eb,hcb,hv⟩:=hsc.bl
  unfold loadName
  have hx:(callEnv fd L f).kindOf "super" = some .globalImplicit:=hsc.hks
  simp only [Env.blockKind,hkf,hx,ScopeKind.isAnnotationScope,Bool.false_and,Bool.false_eq_true,if_false]
  exact loadGlobal_builtin (hgl ▸ zcw S.old n e1 hc1) hm (hbl ▸ zcw S.old nb eb hcb) hv hq'
 refine l1 _ _ ⟨rfl,?_⟩
 obtain ⟨ck,ock,hck1,hck2,hck3,hck4⟩:=hcc.ex
 refine wpAny_loadName_free hkf hsc.hkc hck1 ⟨ock,S.old.get_of_cls hck2 hck3,hck4⟩ ?_ (by decide)
 obtain ⟨v₀,hn₀,hv₀⟩:=S.loc ("self":Str) _ hself
 revert hn₀;cases hv₀;intro hn₀
 rw [har]
 have lname:∀ (Q':Value->Shared->Prop) E',Q' (.ref x) s->wpAny (model g.prog g.w) A (loadName (callEnv fd L f) "self") Q' E' s:=by
  intro Q' E' hq'
  rcases hn₀ with ⟨e',m,n,hm⟩ | ⟨e',c₂,o₂,hcl,ho,hd'⟩
  ·exact wpAny_loadName_local hkf e' n hm hq'
  ·rcases e' with e' | e'
   ·exact wpAny_loadName_cell hkf e' hcl ⟨o₂,ho,hd'⟩ hq'
   ·exact wpAny_loadName_free hkf e' hcl ⟨o₂,ho,hd'⟩ hq' (by decide)
 refine lname _ _ ?_
 obtain ⟨cd,hcd⟩:=hcls
 have X:=hK.now S
 obtain ⟨oC,odC,slC,hCo⟩:∃ oc od sl,K.lookup C=some ⟨oc,od,.cls cd,sl⟩:=by
  unfold clsIn at hcd
  split at hcd
  ·rename_i ho;cases hcd;exact ⟨_,_,_,ho⟩
  ·cases hcd
 have hCh:=X _ _ hCo
 obtain ⟨dd,es,n,I,⟨items,m,hdd,hit⟩,r⟩:=zaX (S.zs _ hz)
 subst hdd
 obtain ⟨hh,gg,d,t,os⟩:=s
 refine ks_wpAny_isType_cls hCh rfl ⟨rfl,?_⟩
 obtain ⟨cd',hcd',hmro⟩:=hC.mro
 have hsubC:Looks (model g.prog g.w) hh (isSubtype (.ref C) (.ref C)) true:=looks_mroIn X (by unfold mroIn;rw [hcd',Option.bind_some,hmro];simp)
 refine ks_wpAny_call_super hCh rfl I.at_ rfl (by intro c q;cases q) hsubC fun h' hso hk=>?_
 have S₁:Sat g (zap fd L f) σ ⟨h',gg,d,t,os⟩:=S.keeps (h':=h') (tk:=t) hk
 have st₁:Stp [] σ.own ⟨hh,gg,d,t,os⟩ σ.own ⟨h',gg,d,t,os⟩:=Stp.keeps (h':=h') (tk:=t) hk
 have X₁:=hK.now S₁
 obtain ⟨dd₁,es₁,n₁,I₁,⟨items₁,m₁,hdd₁,hit₁⟩,r₁⟩:=zaX (S₁.zs _ hz)
 subst hdd₁
 have L0:=I₁.type (M:=model g.prog g.w)
 have L1:Looks (model g.prog g.w) h' (isSubtype (.ref C) (.type "list")) true:=looks_mroIn X₁ (by unfold mroIn;rw [hcd',Option.bind_some,hmro];rfl)
 have hm':Looks (model g.prog g.w) h' (mroOf (.ref C)) [.ref C,.type "list",.type "object"]:=hmro ▸ ((looks_clsIn X₁ hcd').andThen .now)
 have hxC:x≠C:=by
  intro q;subst q
  have:=I₁.at_
  rw [X₁ _ _ hCo] at this;cases this
 refine ziU U hso (zhM S₁ hst) hm' L0 L1 hxC ?_
 have S₂:=(S₁.push (za5 BT id x)).toks (t+1)
 have st₂:Stp [] σ.own ⟨hh,gg,d,t,os⟩ σ.own ⟨h'.push (za5 BT id x),gg,d,t+1,os⟩:=st₁.trans ((Stp.push (za5 BT id x)).trans .toks)
 have hb:(h'.push (za5 BT id x)).get? h'.objs.size=some (za5 BT id x):=Heap.get?_push_size _ rfl
 refine zdc (ob:=za5 BT id x) rfl hbt hbm hb ?_
 refine wpAny_call (codeAny_of_tree ?_)
 show wpAny _ A.in1 (callAny (.ref h'.objs.size) ⟨[],[]⟩) _ _ _
 unfold callAny
 refine wpAny_bind (wpAny_load hb ?_)
 have hbt2:(Value.type BT==.type "method" || Value.type BT==.type "builtin_function_or_method" || Value.type BT==.type "method-wrapper")=true:=by
  rw [Bool.or_assoc,hbt,Bool.or_true]
 dsimp only
 rw [if_pos hbt2]
 show wpAny _ _ (if (Value.type BT != .type "method")=true then _ else _) _ _ _
 rw [if_pos hbm]
 refine wpAny_bind (hchk _ _ S₂ _ _ ?_)
 refine wpAny_pure ⟨plainId_quiet hq _,?_⟩
 exact hrun _ S₂ _ fun a b σ' s' hP S' hv st=>k a b σ' s' hP S' hv (st₂.trans st)
end
end Mine
end
section
open PySem PySem.Calls PyProof.Rows PySem.W PySem.Builtin PySem.Builtin.ObjectAttr
namespace Mine
section
variable {g:Gl}{A:Around}{F:Fm}{σ:AS}{s:Shared}{K:Frag}
theorem zg2 {f:Addr}{fd:FuncData}{body:List Stmt}{xs:List Str}{ps:List PV}{P:PV->AS->Prop}{n:Nat}(hr:Rm A (n+1))(hf:zdB g f fd body)(hx:xs.Nodup)(hlen:xs.length=ps.length)
  (hb:∀ vs:List Value,vs.length=ps.length->bindArgs fd ⟨vs,[]⟩=pure (xs.zip vs))
  (hcellB:(fd.scope.names.all fun x=>x.2 != .cell)=true) (hlocB:(xs.all fun x=>fd.scope.names.lookup x==some .local)=true)
  (h:∀ L,zk5 g (A.deeper (callEnv fd L f)) (.func body (callEnv fd L f)) (zap fd L f) body ⟨xs.zip ps,σ.zone⟩ fun fl σ'=>P (match fl with | .ret p=>p | _=>.raw .none) ⟨σ.loc,σ'.zone⟩) :
  CLC g A F (.ref f) ps σ P:=by
 intro s vs S hvs R k
 have hcell:∀ x∈fd.scope.names,x.2≠.cell:=fun x hx=>by simpa using List.all_eq_true.mp hcellB x hx
 have hloc:∀ x∈xs,fd.scope.names.lookup x=some .local:=fun x hx=>by simpa using List.all_eq_true.mp hlocB x hx
 obtain ⟨o,e,hd⟩:=hf.now S
 have hlv:=hvs.length
 refine ks_codeAny_call_defAt (hr.le (Nat.zero_le _)).depth e hd S.lim (hf.codeRec S) hf.bd (.of_eq (hb vs hlv)) hcell (fun x hx'=>?_) (fun h₀ hn hk=>?_) hf.co hf.gen hf.kind
 ·exact hloc _ (List.of_mem_zip hx').1
 ·have hkeys:((xs.zip vs).map (·.1))=xs:=by
   rw [List.map_fst_zip];lia
  have hL:s.heap.objs.size∉σ.own:=fun h=>Nat.lt_irrefl _ (S.own_lt h)
  have kp:Kp s.heap h₀ σ.own σ.own:=fun b o xs n e _ no=>⟨hk b o e,no⟩
  have S₀:Sat g (zap fd s.heap.objs.size f) ⟨xs.zip ps,σ.zone⟩ { s with heap:=h₀,toks:=s.toks+(xs.zip vs).length }:=by
   refine ⟨S.old.step_keeps hk,S.lim.keeps hk,S.os,S.bare,?_,fun a ha=>?_,fun z hz=>?_,fun a ha=>?_,⟨_,hn⟩,by simp [zap,callEnv,newEnv],fun x p ex=>?_,S.cs,fun x c hx _ _ _=>absurd rfl (hcell _ (mem_of_lookup hx))⟩
   ·show ([s.heap.objs.size]++σ.own).Nodup
    exact List.nodup_cons.mpr ⟨hL,(List.nodup_append.mp S.nd).2.1⟩
   ·rcases List.mem_append.mp ha with h | h
    ·simp [zap] at h;subst h;exact S.base_le
    ·exact S.lo a (List.mem_append_right _ h)
   ·have:=S.zs z hz
    obtain ⟨b,mo⟩:=z
    cases mo with
    | list l=>obtain ⟨items,n,h1,h2⟩:=this;exact ⟨items,n,hk _ _ h1,h2.mono kp⟩
    | obj ob=>exact ⟨hk _ _ this.1,this.2⟩
    | inst dx C att body =>
     obtain ⟨d,es,n,h1,h2,h3,h4⟩:=this
     refine ⟨d,es,n,hk _ _ h1,?_,hk _ _ h3,h4.mono kp⟩
     cases body with
     | none=>exact h2
     | some l=>obtain ⟨items,n',e1,e2⟩:=h2;exact ⟨items,n',e1,e2.mono kp⟩
   ·simp [zap] at ha;subst ha
    obtain ⟨o,es,ep,e,d,_⟩:=hn
    exact ⟨o,e,.inl ⟨es,ep,d⟩⟩
   ·obtain ⟨v,h1,h2⟩:=zbO hvs ex
    refine ⟨v,.inl ⟨?_,_,hn,?_⟩,h2.mono kp⟩
    ·have hm:x∈xs:=by
      have:=List.lookup_eq_some_iff.mp h1
      obtain ⟨l1,l2,e1,_⟩:=this
      have:(x,v)∈xs.zip vs:=by rw [e1];simp
      exact (List.of_mem_zip this).1
     show fd.scope.names.lookup x=some .local
     exact hloc x hm
    ·rw [zaR (by rw [hkeys];exact hx)];exact h1
  have st₀:Stp [] σ.own s σ.own { s with heap:=h₀,toks:=s.toks+(xs.zip vs).length }:=⟨fun b o e _ _ _=>hk b o e,fun b o e=>⟨o,hk b o e⟩,fun _ h=>.inl h,fun _ _ e=>e⟩
  refine h s.heap.objs.size _ S₀ _ _ fun fv fl σ' s' hP S' hr' st'=>?_
  have hne:∀ b o,s.heap.get? b=some o->b∉[s.heap.objs.size]:=fun b o e q=>by
   rw [List.mem_singleton] at q;subst q
   rw [zae] at e;cases e
  have stt:Stp [] σ.own s σ'.own s':=by
   refine ⟨fun b o e nf no hc=>st'.keep b o (hk b o e) (hne b o e) no hc,fun b o e=>st'.there b o (hk b o e),fun a ha=>?_,fun i x e=>st'.gens i x e⟩
   rcases st'.fresh a ha with q | q
   ·exact .inl q
   ·refine .inr ?_
    cases q':s.heap.get? a with
    | none=>rfl
    | some o=>rw [show _=_ from hk a o q'] at q;cases q
  have Sb:=S.back S' stt fun a ha o e=>by
   obtain ⟨o',e',fl⟩:=S.fr a ha
   rw [e] at e';cases e'
   exact st'.keep a o (hk a o e) (hne a o e) (fun q=>(List.nodup_append.mp S.nd).2.2 a ha a q rfl) fl.hard
  cases hr' with
  | ret hv=>exact k _ _ ⟨σ.loc,σ'.zone⟩ s' hP Sb hv stt
  | next=>exact k _ _ ⟨σ.loc,σ'.zone⟩ s' hP Sb (.raw _) stt
  | brk=>exact k _ _ ⟨σ.loc,σ'.zone⟩ s' hP Sb (.raw _) stt
  | cont=>exact k _ _ ⟨σ.loc,σ'.zone⟩ s' hP Sb (.raw _) stt
theorem ZAt.self {D:Addr}{m:MO}{z:List (Addr × MO)}(h:(D,m)∈z):ZAt D m m z z:=by
 induction z with
 | nil=>cases h
 | cons a r ih =>
  rcases List.mem_cons.mp h with q | q
  ·subst q;exact .head
  ·exact .tail (ih q)
theorem VRs.snoc {h:Heap}{own:List Addr}{l:List PV}{p:PV}{vs:List Value}(x:VRs h own (l++[p]) vs):∃ us v,vs=us++[v]/\VRs h own l us/\VR h own p v:=by
 induction l generalizing vs with
 | nil=>cases x with | cons hv hs=>cases hs;exact ⟨[],_,rfl,.nil,hv⟩
 | cons q r ih=>cases x with
  | cons hv hs =>
   obtain ⟨us,v,rfl,h1,h2⟩:=ih hs
   exact ⟨_::us,v,rfl,.cons hv h1,h2⟩
theorem znL {x dx C:Addr}{att:List (Str × PV)}{P:PV->AS->Prop}(hz:(x,.inst dx C att (some []))∈σ.zone)(h:P (.raw .none) σ):zkb g A F "list.__init__" x σ P:=by
 intro s S R k
 obtain ⟨d,es,n,h1,⟨items,m,rfl,h2⟩,h3,h4⟩:=S.zs _ hz
 have hi:items = #[]:=by
  have:=h2.toArray
  exact Array.eq_empty_of_size_eq_zero this
 subst hi
 refine codeAny_builtin zok.entry ?_
 show wpAny _ _ (Builtin.List.listItems (.ref x)>>=_) _ _ s
 unfold Builtin.List.listItems
 refine wpAny_bind (wpAny_bind (wpAny_seqItems h1 rfl (wpAny_pure ?_)))
 refine wpAny_bind (m:=updateSeq x fun _=>#[]) (wpAny_updateSeq h1 rfl ?_)
 refine wpAny_bind (wpAny_letGo (wpAny_pure ?_))
 have hs:Heap.SameBut x s.heap (s.heap.update x (Obj.mapSeq fun _=>#[])):=.update ..
 have hg:=Heap.get?_update_self (Obj.mapSeq fun _=>#[]) h1 (by simp [Obj.mapSeq,Obj.isFreed])
 have hm:∃ m',Obj.mapSeq (fun _=>#[]) ({ cls:=.ref C,dict:=some dx,data:=.seq #[] m }:Obj)={ cls:=.ref C,dict:=some dx,data:=.seq #[] m' }:=⟨_,rfl⟩
 obtain ⟨m',hm⟩:=hm
 have hxd:dx≠x:=by
  intro q;subst q
  rw [h1] at h3;cases h3
 obtain ⟨S',st⟩:=S.upd (ZAt.self hz) rfl (h':=s.heap.update x (Obj.mapSeq fun _=>#[])) (fun b o hb e=>hs.extBut b o (fun q=>hb (by simp [MO.addrs,q])) e) fun kp=>⟨_,es,n,hg.trans (congrArg some hm),⟨#[],m',rfl,.nil⟩,hs.extBut _ _ hxd h3,h4.mono kp⟩
 exact k _ _ σ _ h S' (.raw _) st
theorem zpk {x dx C:Addr}{att:List (Str × PV)}{l:List PV}{P:PV->AS->Prop}(hz:(x,.inst dx C att (some l))∈σ.zone)(h:P (.int l.length) σ):zkb g A F "list.__len__" x σ P:=by
 intro s S R k
 obtain ⟨d,es,n,h1,⟨items,m,rfl,h2⟩,h3,h4⟩:=S.zs _ hz
 have hsz:=h2.toArray
 refine codeAny_builtin zqj.entry ?_
 refine wpAny_bind (m:=slotArgs "__len__" 0 _) (wpAny_pure ?_)
 show wpAny _ _ (seqSize x>>=_) _ _ _
 unfold seqSize
 refine wpAny_bind (wpAny_bind (wpAny_loadPart h1 (wpAny_pure ?_)))
 show wpAny _ _ (mkInt (items.size:Int)>>=fun r=>ret r) _ _ _
 refine wpAny_bind (wpAny_mkInt (wpAny_pure ?_))
 rw [hsz]
 exact k _ _ σ _ h (S.toks _) (.int _ _) .toks
theorem zoN {x dx C:Addr}{att:List (Str × PV)}{l:List PV}{p:PV}{zone':List (Addr × MO)}{P:PV->AS->Prop}(U:ZAt x (.inst dx C att (some (l++[p]))) (.inst dx C att (some l)) σ.zone zone')(hl:l.length<=1000000)(h:P p ⟨σ.loc,zone'⟩):zkb g A F "list.pop" x σ P:=by
 intro s S R k
 obtain ⟨pre,post,e1,e2⟩:=U.split
 obtain ⟨d,es,n,h1,⟨items,m,rfl,h2⟩,h3,h4⟩:=S.zs (x,.inst dx C att (some (l++[p]))) (by rw [e1];simp)
 obtain ⟨us,v,hit,hus,hv⟩:=h2.snoc
 have hul:=hus.length
 have hitems:items=(us++[v]).toArray:=by rw [<- hit]
 subst hitems
 refine codeAny_builtin zry.entry ?_
 show wpAny _ _ (Builtin.List.listItems (.ref x)>>=_) _ _ s
 unfold Builtin.List.listItems
 refine wpAny_bind (wpAny_bind (wpAny_seqItems h1 rfl (wpAny_pure ?_)))
 have hsz:(us++[v]).toArray.size=us.length+1:=by simp
 have hne:(us++[v]).toArray.isEmpty=false:=by
  have e1:(us++[v]).toArray.isEmpty=decide ((us++[v]).toArray.size=0):=rfl
  rw [e1,hsz];simp
 have hidx:seqIndex? (-1) (us++[v]).toArray.size=some us.length:=by rw [hsz,zeO (by lia)];rfl
 have hget:(us++[v]).toArray[us.length]?=some v:=by simp
 dsimp only
 rw [hne,if_neg (by decide),hidx]
 simp only [Option.bind_some,hget,Option.map_some]
 have herase:((us++[v]).toArray.eraseIdxIfInBounds us.length).toList=us:=by
  rw [Array.toList_eraseIdxIfInBounds]
  simp [List.eraseIdx_append_of_length_le]
 refine wpAny_bind (m:=updateSeq x fun y=>y.eraseIdxIfInBounds us.length) (wpAny_updateSeq h1 rfl ?_ (by have:sizeLine=16777216:=rfl;lia) (by
  have:sizeLine=16777216:=rfl
  rw [<- Array.length_toList,herase];lia))
 have hs:Heap.SameBut x s.heap (s.heap.update x (Obj.mapSeq fun y=>y.eraseIdxIfInBounds us.length)):=.update ..
 have hg:=Heap.get?_update_self (Obj.mapSeq fun y=>y.eraseIdxIfInBounds us.length) h1 (by simp [Obj.mapSeq,Obj.isFreed])
 have hm:∃ m',Obj.mapSeq (fun y=>y.eraseIdxIfInBounds us.length) ({ cls:=.ref C,dict:=some dx,data:=.seq (us++[v]).toArray m }:Obj)={ cls:=.ref C,dict:=some dx,data:=.seq ((us++[v]).toArray.eraseIdxIfInBounds us.length) m' }:=⟨_,rfl⟩
 obtain ⟨m',hm⟩:=hm
 have hxd:dx≠x:=by
  intro q;subst q
  rw [h1] at h3;cases h3
 obtain ⟨S',st⟩:=S.upd U rfl (h':=s.heap.update x (Obj.mapSeq fun y=>y.eraseIdxIfInBounds us.length)) (fun b o hb e=>hs.extBut b o (fun q=>hb (by simp [MO.addrs,q])) e) fun kp=>⟨_,es,n,hg.trans (congrArg some hm),⟨_,m',rfl,by rw [herase];exact hus.mono kp⟩,hs.extBut _ _ hxd h3,h4.mono kp⟩
 refine wpAny_pure (k _ _ _ _ h S' (hv.mono (S.kp st)) st)
theorem zpj {x:Addr}:zkj g F "list.__len__" x σ:=fun A s S Q E hq=>by
 obtain ⟨h,gg,d,t,os⟩:=s;exact zfV hq
theorem znx {x:Addr}:zkj g F "list.__init__" x σ:=fun A s S Q E hq=>by
 obtain ⟨h,gg,d,t,os⟩:=s;exact zeG hq
theorem zpd {x dx C:Addr}{att:List (Str × PV)}{l:List PV}(hK:Fg g K)(hC:zaV K C)(ht:typeIn K (.ref C)=some (.type "type"))(hz:(x,.inst dx C att (some l))∈σ.zone):zkj g F "list.pop" x σ:=fun A s S Q E hq=>by
 have X:=hK.now S
 obtain ⟨d,es,n,I,_,r⟩:=zaX (S.zs _ hz)
 obtain ⟨cd,hc,hm⟩:=hC.mro
 obtain ⟨h,gg,dd,t,os⟩:=s
 exact zfH (oc:={ cls:=.none }) I.at_ rfl I.no I.type (looks_mroIn X (by unfold mroIn;rw [hc,Option.bind_some,hm];rfl)) (looks_clsIn X hc) (looks_typeIn X ht) hq
end
end Mine
end
section
open PySem PySem.Calls PyProof.Rows PySem.W PySem.Builtin PySem.Builtin.ObjectAttr
namespace Mine
section
variable {g:Gl}{A:Around}{F:Fm}{σ:AS}{s:Shared}{K:Frag}
def zpn (g:Gl)(A:Around)(F:Fm)(f:Value)(ps:List PV)(kw:List (Str × Value))(σ:AS)(P:PV->AS->Prop):Prop :=
 ∀ s vs,Sat g F σ s->VRs s.heap σ.own ps vs->∀ (R:Result->Shared->Prop),
  (∀ a b σ' s',P b σ'->Sat g F σ' s'->VR s'.heap σ'.own b a->Stp [] σ.own s σ'.own s'->R (.ok (.ret a)) s')->codeAny (model g.prog g.w) A (.call f ⟨vs,kw⟩) R s
theorem zln {f:Addr}{fd:FuncData}{body:List Stmt}{xs:List Str}{ps qs:List PV}{kw:List (Str × Value)}{P:PV->AS->Prop}{n:Nat}(hr:Rm A (n+1))(hf:zdB g f fd body)(hx:xs.Nodup)(hlen:xs.length=qs.length)
  (hb:∀ s vs,Sat g F σ s->VRs s.heap σ.own ps vs->∃ bs,VRs s.heap σ.own qs bs/\BindsTo s fd ⟨vs,kw⟩ (xs.zip bs))
  (hcellB:(fd.scope.names.all fun x=>x.2 != .cell)=true) (hlocB:(xs.all fun x=>fd.scope.names.lookup x==some .local)=true)
  (h:∀ L,zk5 g (A.deeper (callEnv fd L f)) (.func body (callEnv fd L f)) (zap fd L f) body ⟨xs.zip qs,σ.zone⟩ fun fl σ'=>P (match fl with | .ret p=>p | _=>.raw .none) ⟨σ.loc,σ'.zone⟩) :
  zpn g A F (.ref f) ps kw σ P:=by
 intro s vs₀ S hvs₀ R k
 obtain ⟨vs,hvs,hbd⟩:=hb s vs₀ S hvs₀
 have hcell:∀ x∈fd.scope.names,x.2≠.cell:=fun x hx=>by simpa using List.all_eq_true.mp hcellB x hx
 have hloc:∀ x∈xs,fd.scope.names.lookup x=some .local:=fun x hx=>by simpa using List.all_eq_true.mp hlocB x hx
 obtain ⟨o,e,hd⟩:=hf.now S
 have hlv:=hvs.length
 refine ks_codeAny_call_defAt (hr.le (Nat.zero_le _)).depth e hd S.lim (hf.codeRec S) hf.bd hbd hcell (fun x hx'=>?_) (fun h₀ hn hk=>?_) hf.co hf.gen hf.kind
 ·exact hloc _ (List.of_mem_zip hx').1
 ·have hkeys:((xs.zip vs).map (·.1))=xs:=by
   rw [List.map_fst_zip];lia
  have hL:s.heap.objs.size∉σ.own:=fun h=>Nat.lt_irrefl _ (S.own_lt h)
  have kp:Kp s.heap h₀ σ.own σ.own:=fun b o xs n e _ no=>⟨hk b o e,no⟩
  have S₀:Sat g (zap fd s.heap.objs.size f) ⟨xs.zip qs,σ.zone⟩ { s with heap:=h₀,toks:=s.toks+(xs.zip vs).length }:=by
   refine ⟨S.old.step_keeps hk,S.lim.keeps hk,S.os,S.bare,?_,fun a ha=>?_,fun z hz=>?_,fun a ha=>?_,⟨_,hn⟩,by simp [zap,callEnv,newEnv],fun x p ex=>?_,S.cs,fun x c hx _ _ _=>absurd rfl (hcell _ (mem_of_lookup hx))⟩
   ·show ([s.heap.objs.size]++σ.own).Nodup
    exact List.nodup_cons.mpr ⟨hL,(List.nodup_append.mp S.nd).2.1⟩
   ·rcases List.mem_append.mp ha with h | h
    ·simp [zap] at h;subst h;exact S.base_le
    ·exact S.lo a (List.mem_append_right _ h)
   ·have:=S.zs z hz
    obtain ⟨b,mo⟩:=z
    cases mo with
    | list l=>obtain ⟨items,n,h1,h2⟩:=this;exact ⟨items,n,hk _ _ h1,h2.mono kp⟩
    | obj ob=>exact ⟨hk _ _ this.1,this.2⟩
    | inst dx C att body =>
     obtain ⟨d,es,n,h1,h2,h3,h4⟩:=this
     refine ⟨d,es,n,hk _ _ h1,?_,hk _ _ h3,h4.mono kp⟩
     cases body with
     | none=>exact h2
     | some l=>obtain ⟨items,n',e1,e2⟩:=h2;exact ⟨items,n',e1,e2.mono kp⟩
   ·simp [zap] at ha;subst ha
    obtain ⟨o,es,ep,e,d,_⟩:=hn
    exact ⟨o,e,.inl ⟨es,ep,d⟩⟩
   ·obtain ⟨v,h1,h2⟩:=zbO hvs ex
    refine ⟨v,.inl ⟨?_,_,hn,?_⟩,h2.mono kp⟩
    ·have hm:x∈xs:=by
      have:=List.lookup_eq_some_iff.mp h1
      obtain ⟨l1,l2,e1,_⟩:=this
      have:(x,v)∈xs.zip vs:=by rw [e1];simp
      exact (List.of_mem_zip this).1
     show fd.scope.names.lookup x=some .local
     exact hloc x hm
    ·rw [zaR (by rw [hkeys];exact hx)];exact h1
  have st₀:Stp [] σ.own s σ.own { s with heap:=h₀,toks:=s.toks+(xs.zip vs).length }:=⟨fun b o e _ _ _=>hk b o e,fun b o e=>⟨o,hk b o e⟩,fun _ h=>.inl h,fun _ _ e=>e⟩
  refine h s.heap.objs.size _ S₀ _ _ fun fv fl σ' s' hP S' hr' st'=>?_
  have hne:∀ b o,s.heap.get? b=some o->b∉[s.heap.objs.size]:=fun b o e q=>by
   rw [List.mem_singleton] at q;subst q
   rw [zae] at e;cases e
  have stt:Stp [] σ.own s σ'.own s':=by
   refine ⟨fun b o e nf no hc=>st'.keep b o (hk b o e) (hne b o e) no hc,fun b o e=>st'.there b o (hk b o e),fun a ha=>?_,fun i x e=>st'.gens i x e⟩
   rcases st'.fresh a ha with q | q
   ·exact .inl q
   ·refine .inr ?_
    cases q':s.heap.get? a with
    | none=>rfl
    | some o=>rw [show _=_ from hk a o q'] at q;cases q
  have Sb:=S.back S' stt fun a ha o e=>by
   obtain ⟨o',e',fl⟩:=S.fr a ha
   rw [e] at e';cases e'
   exact st'.keep a o (hk a o e) (hne a o e) (fun q=>(List.nodup_append.mp S.nd).2.2 a ha a q rfl) fl.hard
  cases hr' with
  | ret hv=>exact k _ _ ⟨σ.loc,σ'.zone⟩ s' hP Sb hv stt
  | next=>exact k _ _ ⟨σ.loc,σ'.zone⟩ s' hP Sb (.raw _) stt
  | brk=>exact k _ _ ⟨σ.loc,σ'.zone⟩ s' hP Sb (.raw _) stt
  | cont=>exact k _ _ ⟨σ.loc,σ'.zone⟩ s' hP Sb (.raw _) stt
theorem zdG {f:Addr}{fd:FuncData}{body:List Stmt}{xs:List Str}{ps qs:List PV}{kw:List (Str × Value)}{P:PV->AS->Prop}{n:Nat}(hr:Rm A (n+1))(hf:zdB g f fd body)(hx:xs.Nodup)(hlen:xs.length=qs.length)
  (hb:∀ s vs,Sat g F σ s->VRs s.heap σ.own ps vs->∃ bs,VRs s.heap σ.own qs bs/\BindsTo s fd ⟨vs,kw⟩ (xs.zip bs))
  (hcellB:(fd.scope.names.all fun x=>x.2 != .cell)=true) (hlocB:(xs.all fun x=>fd.scope.names.lookup x==some .local)=true)
  (h:∀ L,EXs g (A.deeper (callEnv fd L f)) (zap fd L f) body ⟨xs.zip qs,σ.zone⟩ fun fl σ'=>∃ pre z,σ'.zone=pre++z/\P (match fl with | .ret p=>p | _=>.raw .none) ⟨σ.loc,z⟩) :
  zpn g A F (.ref f) ps kw σ P:=by
 refine zln hr hf hx hlen hb hcellB hlocB fun L=>?_
 refine JAt.of (J.post (fun hs r=>r.mono (Kp.shrink hs)) (h L) ?_)
 rintro fl ⟨loc,z⟩ ⟨pre,z',hz,hP⟩
 dsimp only at hz
 subst hz
 exact ⟨⟨loc,z'⟩,za1.dropAll,zcP,hP⟩
theorem zpn.clc {f:Value}{ps:List PV}{P:PV->AS->Prop}(x:zpn g A F f ps [] σ P):CLC g A F f ps σ P:=x
structure zgN (g:Gl)(fd:FuncData)(ds:Array Value):Prop where
 ex:∃ T o n,fd.defaults=.ref T/\g.h₁.get? T=some o/\o.cls≠.none/\o.data=.seq ds n
theorem zgN.binds {fd:FuncData}{ds:Array Value}{args:Args}{binds:List (Str × Value)}{k:Option (Array Value)->Sem (List (Str × Value))}(d:zgN g fd ds)(S:Sat g F σ s)(h₁:bindArgs fd args=seqItems? fd.defaults>>=k)(h₂:k (some ds)=pure binds):BindsTo s fd args binds:=by
 obtain ⟨T,o,n,e,h,hc,hd⟩:=d.ex
 exact .of_defaults (k:=k) e (S.old.get_of_cls h hc) hd h₁ h₂
end
end Mine
end
section
open PySem PySem.Calls PyProof.Rows PySem.W PySem.Builtin
namespace Mine
section
variable {g:Gl}{A:Around}{F:Fm}{σ:AS}{P:PV->AS->Prop}
theorem zjo {l:List PV}(h:P (.raw (.bool false)) σ):OP2 g A F (compareOp .Is) (.lst l) (.raw .none) σ P:=fun s v u S hv hu Q E k=>by
 cases hv;cases hu;exact wpAny_is_plain (by rfl) (k _ _ σ s h S (.raw _) .refl)
theorem zh8 {l:Array UInt8}(h:P (.raw (.bool true)) σ):OP2 g A F (compareOp .IsNot) (.byt l) (.raw .none) σ P:=fun s v u S hv hu Q E k=>by
 cases hv;cases hu;exact wpAny_isNot_plain (by rfl) (k _ _ σ s h S (.raw _) .refl)
theorem zpF {p:PV}(h:TT g A F p σ fun b σ'=>P (.raw (.bool (!b))) σ'):OP1 g A F (unaryOp .Not) p σ P:=fun s v S hv Q E k=>by
 unfold unaryOp
 refine wpAny_holding ?_
 show wpAny _ A (truthy v>>=fun b=>pure (Value.bool (!b))) Q E s
 exact wpAny_bind (h s v S hv _ E fun b σ₂ s₂ h₂ S₂ st₂=>wpAny_pure (k _ _ σ₂ s₂ h₂ S₂ (.raw _) st₂))
theorem VRs.texts {h:Heap}{own:List Addr}:∀ {as:List (List Nat)} {vs:List Value},VRs h own (as.map tx) vs->vs.length=as.length/\∀ j (h1:j < vs.length),∃ t,vs[j]=.str (ofL (as.getD j [])) t
 | [],_,x=>by cases x;exact ⟨rfl,fun j h1=>by cases h1⟩
 | a::as,_,x=>by
  cases x with
  | cons hv hs =>
   cases hv with
   | str _ t =>
    obtain ⟨e,f⟩:=VRs.texts hs
    refine ⟨by simp [e],fun j h1=>?_⟩
    cases j with
    | zero=>exact ⟨_,rfl⟩
    | succ j=>exact f j (by simpa using h1)
theorem zeW (as bs:List (List Nat)):((List.range (min as.length bs.length)).all (fun j=>ofL (as.getD j [])==ofL (bs.getD j [])) && as.length==bs.length)=decide (as=bs):=by
 by_cases h:as=bs
 ·subst h;simp
 ·rw [decide_eq_false h]
  by_cases hl:as.length=bs.length
  ·rw [hl,Nat.min_self]
   simp only [beq_self_eq_true,Bool.and_true]
   rw [<- Bool.not_eq_true]
   intro q
   apply h
   apply List.ext_getElem hl
   intro j h1 h2
   have:=List.all_eq_true.mp q j (List.mem_range.mpr h2)
   rw [zg6] at this
   have:=of_decide_eq_true this
   simpa [List.getD_eq_getElem?_getD,h1,h2] using this
  ·rw [show (as.length==bs.length)=false from beq_eq_false_iff_ne.mpr hl,Bool.and_false]
theorem zl4 {as bs:List (List Nat)}{n:Nat}(hr:Rm A n)(h:P (.raw (.bool (!decide (as=bs)))) σ):OP2 g A F (compareOp .NotEq) (.tup (as.map tx)) (.tup (bs.map tx)) σ P:=fun s v u S hv hu Q E k=>by
 cases hv with
 | @tup _ a items m no1 e1 hs1 =>
  cases hu with
  | @tup _ b items2 m2 no2 e2 hs2 =>
   obtain ⟨l1,f1⟩:=VRs.texts hs1
   obtain ⟨l2,f2⟩:=VRs.texts hs2
   have hu:A.units < cLine:=by have:=hr.units;lia
   refine SeqAt.RcNeAt.tuples (e:=fun j=>ofL (as.getD j [])==ofL (bs.getD j [])) (items:=items) (items2:=items2) ⟨_,e1,rfl,_,rfl⟩ ⟨_,e2,rfl,_,rfl⟩ hu (fun j h1 h2=>?_) g.prog g.w E Q ?_
   ·obtain ⟨t1,q1⟩:=f1 j (by simpa using h1)
    obtain ⟨t2,q2⟩:=f2 j (by simpa using h2)
    have q1':items[j]=_:=q1
    have q2':items2[j]=_:=q2
    rw [q1',q2']
    exact SeqAt.EqAt.str_str _ _ _ _
   ·rw [show items.size=as.length from l1,show items2.size=bs.length from l2,zeW]
    exact k _ _ σ s h S (.raw _) .refl
end
end Mine
end
section
open PySem PySem.Calls PyProof.Rows PySem.W PySem.Builtin PySem.Builtin.ObjectAttr
namespace Mine
section
variable {prog:Program}{w:World}{A:Around}{E:Value->Shared->Prop}{s:Shared}{K:Frag}{x C f:Addr}{ox:Obj}{od:Option Obj}{name:Str}{expr:Bool}{Q:Value->Shared->Prop}
theorem zhg (ok:zaV K C)(X:K.In s.heap)(I:InstAt s.heap x ox C od)
  (hf:findObj K C od name=some (.bind (.builtin "function.__get__") (.ref f))) (ht:typeIn K (.ref f)=some (.type "function")) (h:Q (.ref s.heap.objs.size) { s with heap:=s.heap.push (methodObj (.ref f) (.ref x)),toks:=s.toks+1 }):wpAny (model prog w) A (getAttr (.ref x) name expr) Q E s:=by
 obtain ⟨hh',g,d,t,os⟩:=s
 have L0:=I.type (M:=model prog w)
 have L1:=looks_findIn (M:=model prog w) X ok.ga
 have L2:=looks_findIn (M:=model prog w) X ok.gattr
 have L3:=looks_find (M:=model prog w) X I hf
 obtain ⟨cd,hc,hm⟩:=ok.mro
 have sub:Looks (model prog w) hh' (isInstance (.ref x) (.type "list")) true:=L0.andThen (looks_mroIn X (by unfold mroIn;rw [hc,Option.bind_some,hm];rfl))
 dsimp only at X L0 L1 L2 L3
 unfold getAttr getAttrBy
 refine wpAny_bind (wpAny_mkText (wpAny_holding (wpAny_bind (L0.at (wpAny_bind (L1.at ?_))))))
 show wpAny _ _ (getAttrByItsOwn _ _ _ _ _ _) _ _ _
 unfold getAttrByItsOwn hookBefore callGetattribute boundAndCalled
 refine wpAny_bind (L2.at ?_)
 refine wpAny_bind (wpAny_attempt (wpAny_holding ?_))
 rw [show (expr && onTheHeap (Value.builtin "list.__getattribute__"))=false from by cases expr <;> rfl,if_neg (by decide)]
 rw [zaw.bind]
 refine wpAny_bind (wpAny_pure ?_)
 refine wpAny_call (codeAny_call_builtin zaw.plain zb3 (@check_slot (model prog w) _ _ _ "list.__getattribute__" "list" "__getattribute__" (.ref x) [.str name t] [] _ zeq zdv sub (PySem.F.args_list_getattribute_2 _ _) ?_))
 unfold Builtin.«object.__getattribute__»
 refine wpAny_bind (wpAny_pure (wpAny_bind (wpAny_pure (wpAny_bind (L0.at (wpAny_bind (L3.at ?_)))))))
 show wpAny _ _ (holding [.ref f] (call (.builtin "function.__get__") [.ref f,.ref x,.ref C])>>=ret) _ _ _
 refine wpAny_bind (wpAny_holding (wpAny_call (fn_get (s:=⟨hh',g,d,t+1,os⟩) X ht ?_)))
 refine wpAny_pure ?_
 show wpAny _ _ (handedOut _) _ _ _
 exact handed_on rfl h
end
section
variable {g:Gl}{A:Around}{F:Fm}{σ:AS}{s:Shared}{P:PV->AS->Prop}{K:Frag}
theorem zhR {C f:Addr}{od:Obj}{name:Str}(ok:ClsOk K C)(ha:findIn K (.ref C) name=some (some (.ref f)))(hg:specialIn K (.ref f) "__get__" = some (some (.builtin "function.__get__")))(ht:takesIn K (.ref f)=some false)(hc:copiedNames.contains name=false)(hl:lookIn name od=some none) :
  findObj K C (some od) name=some (.bind (.builtin "function.__get__") (.ref f)):=by
 obtain ⟨cd,hc',hd⟩:=ok.dict
 unfold findObj
 have ho:PySem.W.ownOf cd (some od) name=some none:=by unfold PySem.W.ownOf;rw [if_pos hd];exact hl
 rw [hc',Option.bind_some,ha,Option.bind_some]
 simp only [hg,ht,Option.bind_some,ho,hc,Bool.false_and,Bool.false_eq_true,if_false]
inductive zcX (g:Gl)(A:Around)(F:Fm)(P:PV->AS->Prop)(x:Addr)(f:Addr)(q:PV)(σ₂:AS):Prop
 | mk (ps:List PV) (h1:q=.tup ps) (h2:ps.length<=1000) (h3:CLC g A F (.ref f) (.raw (.ref x)::ps) σ₂ P):zcX g A F P x f q σ₂
inductive zc1 (K:Frag)(g:Gl)(A:Around)(F:Fm)(P:PV->AS->Prop)(e:Expr)(name:Str)(p:PV)(σ₁:AS):Prop
 | mk (x:Addr) (dx:Addr) (C:Addr) (att:List (Str × PV)) (body:Option (List PV)) (f:Addr) (fd:FuncData) (bd:List Stmt) (h1:p=.raw (.ref x)) (h2:(x,.inst dx C att body)∈σ₁.zone) (h3:zaV K C) (h4:findIn K (.ref C) name=some (some (.ref f))) (h5:typeIn K (.ref f)=some (.type "function")) (h6:specialIn K (.ref f) "__get__" = some (some (.builtin "function.__get__"))) (h7:takesIn K (.ref f)=some false) (h8:att.lookup name=none) (h9:zdB g f fd bd) (h10:EV g A F e σ₁ (zcX g A F P x f)):zc1 K g A F P e name p σ₁
theorem zjv {o e:Expr}{name:Str}{apos sp pos:Pos}(hK:Fg g K)
  (h:EV g A F o σ (zc1 K g A F P e name))
  (hcn:copiedNames.contains name=false:=by decide +kernel)
  (he:eval (.Call (.Attribute o name apos) [.Starred e sp] [] pos) F.env=(do
   let ov <- eval o F.env
   standAt apos.atName
   let (f,first) <- holding [ov] (do pure (<- getAttr ov name true,[]))
   callWith pos f first [(true,do let v <- eval e F.env;standAt pos;pure v)] []):=by left):EV g A F (.Call (.Attribute o name apos) [.Starred e sp] [] pos) σ P:=by
 intro s S Q E k
 rw [he]
 refine wpAny_bind (h s S _ E fun v p σ₁ s₁ h₁ S₁ hv st₁=>?_)
 obtain ⟨x,dx,C,att,body,f,fd,bd,rfl,hz,hC,hf,ht,hg,htk,hl,hfn,h₁⟩:=h₁
 cases hv
 refine wpAny_bind (wpAny_standAt (wpAny_bind (wpAny_holding (wpAny_bind ?_))))
 obtain ⟨d,es,n,I,hb,r⟩:=zaX (S₁.zs _ hz)
 have hfo:=zhR hC.toClsOk hf hg htk hcn (zgO (n:=n) r hl)
 refine zhg hC (hK.now S₁) I hfo ht ?_
 obtain ⟨h₀,gg,dd,tk,os⟩:=s₁
 refine wpAny_pure ?_
 have S₂:=(S₁.push (methodObj (.ref f) (.ref x))).toks (tk+1)
 have st₂:Stp [] σ₁.own ⟨h₀,gg,dd,tk,os⟩ σ₁.own ⟨h₀.push (methodObj (.ref f) (.ref x)),gg,dd,tk+1,os⟩:=(Stp.push (methodObj (.ref f) (.ref x))).trans .toks
 have hm:(h₀.push (methodObj (.ref f) (.ref x))).get? h₀.objs.size=some (methodObj (.ref f) (.ref x)):=Heap.get?_push_size _ rfl
 have hmo:h₀.objs.size∉σ₁.own:=fun q=>Nat.lt_irrefl _ (S₁.own_lt q)
 unfold callWith
 refine wpAny_bind (wpAny_holding ?_)
 unfold evalArgs
 refine wpAny_bind (wpAny_bind ?_)
 refine h₁ _ S₂ _ E fun u q σ₃ s₃ h₃ S₃ hu st₃=>?_
 obtain ⟨ps,rfl,hlen,h₃⟩:=h₃
 cases hu with
 | @tup _ a items m no e1 hs1 =>
 refine wpAny_bind (wpAny_standAt (wpAny_pure (wpAny_bind (wpAny_pure ?_))))
 refine wpAny_holding ?_
 show wpAny _ A (pure []>>=_) _ _ _
 refine wpAny_bind (wpAny_pure (wpAny_bind (wpAny_bind ?_)))
 have hT:s₃.heap.IsTuple a items:=⟨_,e1,rfl,_,rfl⟩
 unfold notIterableAtAll
 refine wpAny_bind (wpAny_specialOf hT.typeIs PySem.F.slot_tuple_iter.lookup ?_)
 refine wpAny_pure ?_
 show wpAny _ A (holding [] (collect (.ref a))) _ _ _
 refine wpAny_holding (wpAny_collect_seq a (.inr rfl) e1 rfl rfl (fun h' hk'=>?_) (by have:=hs1.toArray;have e:sizeLine=16777216:=rfl;lia))
 refine wpAny_pure ?_
 have S₄:Sat g F σ₃ { s₃ with heap:=h' }:=S₃.keeps (h':=h') (tk:=s₃.toks) hk'
 have st₄:Stp [] σ₃.own s₃ σ₃.own { s₃ with heap:=h' }:=Stp.keeps (h':=h') (tk:=s₃.toks) hk'
 refine wpAny_bind (wpAny_standAt ?_)
 have hm₃:s₃.heap.get? h₀.objs.size=some (methodObj (.ref f) (.ref x)):=st₃.keep _ _ hm (by simp) hmo (.inl (fun q=>nomatch q))
 have hm₄:=hk' _ _ hm₃
 obtain ⟨of,ef,hd⟩:=hfn.now S₄
 unfold keeperOf
 refine wpAny_bind (wpAny_bind (wpAny_load hm₄ ?_))
 repeat (any_goals (first | with_reducible refine wpAny_load ef ?_ | wp_step))
 rw [hd]
 show wpAny _ A (operate _ (call (.ref h₀.objs.size) items.toList [])>>=_) _ _ _
 refine wpAny_bind (wpAny_operating (wpAny_call (codeAny_of_tree ?_)))
 show wpAny _ A.in1 (callAny (.ref h₀.objs.size) ⟨items.toList,[]⟩) _ _ _
 unfold callAny
 refine wpAny_bind (wpAny_load hm₄ ?_)
 dsimp only
 rw [if_pos (by decide)]
 refine wpAny_pure ⟨rfl,?_⟩
 have hs4:VRs h' σ₃.own ps items.toList:=hs1.mono (S₃.kp st₄)
 refine h₃ _ (.ref x::items.toList) S₄ (.cons (.raw _) hs4) _ fun a b σ' s' hP S' hv' st'=>?_
 refine wpAny_bind (wpAny_holding (wpAny_point ?_))
 exact wpAny_pure (k a b σ' s' hP S' hv' (st₁.trans (st₂.trans (st₃.trans (st₄.trans st')))))
end
end Mine
end
section
open PySem PySem.Calls PyProof.Rows PySem.W PySem.Builtin
namespace Mine
section
variable {g:Gl}{A:Around}{F:Fm}{σ:AS}{P:PV->AS->Prop}
theorem zfs {sep:List Nat}{ls:List (List Nat)}{D:Addr}(hz:(D,.list (ls.map tx))∈σ.zone)(hok:zaT sep ls)(h:P (tx (zaq sep ls)) σ):CL g A F (.builtin "str.join") [tx sep,.raw (.ref D)] σ P:=fun s vs S hvs Q E k=>by
 cases hvs with | cons hv hs'=>cases hs' with | cons hu hs'=>cases hs';cases hv;cases hu;(
  obtain ⟨items,n,ho,hl⟩:=S.zs _ hz
  refine join_list ⟨_,ho,rfl,_,rfl⟩ (zlg hl) ?_ fun t' tk=>?_
  ·have:((ls.map ofL).map fun x=>x.length)=ls.map (·.length):=by rw [List.map_map];exact List.map_congr_left fun a _=>zu a
   rw [this,zu,List.length_map];exact hok
  ·rw [show Txt.join (ofL sep) (ls.map ofL)=ofL (zaq sep ls) from (StrLaws.glued_eq_join _ _).trans (zcT _ _)]
   exact k _ _ σ _ h (S.toks _) (.str _ _) .toks)
end
end Mine
end
section
open PySem PySem.Calls PyProof.Rows PySem.W PySem.Builtin
namespace Mine
section
variable {g:Gl}{A:Around}{F:Fm}{σ:AS}{s:Shared}{loc:List (Str × PV)}{z z':List (Addr × MO)}
theorem Sat.redo (S:Sat g F ⟨loc,z⟩ s){s':Shared}{T:List Addr}(hT:∀ a∈T,a∈AS.own ⟨loc,z⟩)(hk:∀ b o,b∉T->s.heap.get? b=some o->s'.heap.get? b=some o)(ht:∀ b∈T,∃ o,s'.heap.get? b=some o)(hown:AS.own ⟨loc,z'⟩=AS.own ⟨loc,z⟩)
  (hz:∀ e∈z',Kp s.heap s'.heap (AS.own ⟨loc,z⟩) (AS.own ⟨loc,z⟩)->ZR s'.heap (AS.own ⟨loc,z⟩) e.1 e.2) (ho:s'.os=s.os) (hg:s'.gens=s.gens):Sat g F ⟨loc,z'⟩ s'/\Stp [] (AS.own ⟨loc,z⟩) s (AS.own ⟨loc,z'⟩) s':=by
 have kp:Kp s.heap s'.heap (AS.own ⟨loc,z⟩) (AS.own ⟨loc,z⟩):=fun b o xs n e d no=>⟨hk b o (fun q=>no (hT b q)) e,no⟩
 have hfr:∀ a∈F.fr,a∉T:=fun a ha q=>(List.nodup_append.mp S.nd).2.2 a ha a (hT a q) rfl
 have hlo:∀ a∈T,g.h₁.objs.size<=a:=fun a ha=>S.lo a (List.mem_append_right _ (hT a ha))
 refine ⟨⟨zcU.exts S.old hlo hk,?_,ho.trans S.os,hg ▸ S.bare,?_,?_,?_,fun a ha=>?_,?_,S.nin,fun x p e=>?_,S.cs,S.cl.to fun b o e hc=>?_⟩,fun b o e _ no _=>hk b o (fun q=>no (hT b q)) e,fun b o e=>?_,fun a ha=>.inl (hown ▸ ha),fun i x e=>hg ▸ e⟩
 ·obtain ⟨mc,⟨o,es,ep,e,d,r⟩,h2⟩:=S.lim
  exact ⟨mc,⟨o,es,ep,hk _ _ (fun q=>Nat.lt_irrefl _ (Nat.lt_of_lt_of_le S.cs (hlo _ q))) e,d,r⟩,h2⟩
 ·rw [hown];exact S.nd
 ·rw [hown];exact S.lo
 ·intro e he;rw [hown];exact hz e he kp
 ·obtain ⟨o,e,fl⟩:=S.fr a ha
  exact ⟨o,hk a o (hfr a ha) e,fl⟩
 ·obtain ⟨m,o,es,ep,e,d,r⟩:=S.ns
  exact ⟨m,o,es,ep,hk _ _ (hfr _ S.nin) e,d,r⟩
 ·obtain ⟨v,h1,h2⟩:=S.loc x p e
  refine ⟨v,?_,hown ▸ h2.mono kp⟩
  rcases h1 with ⟨a,mm,⟨o',es',ep',e',r⟩,c⟩ | ⟨a,c,o',h3,h4,h5⟩
  ·exact .inl ⟨a,mm,⟨o',es',ep',hk _ _ (hfr _ S.nin) e',r⟩,c⟩
  ·exact .inr ⟨a,c,o',h3,hk _ _ (fun q=>S.cell_off h4 h5 (hT _ q)) h4,h5⟩
 ·obtain ⟨v,d⟩:=hc
  exact hk b o (fun q=>S.cell_off e d (hT _ q)) e
 ·by_cases q:b∈T
  ·exact ht b q
  ·exact ⟨o,hk b o q e⟩
theorem zhf {loc:List (Str × PV)}(x z:List (Addr × MO)):∀ a,a∈AS.own ⟨loc,x++z⟩↔a∈AS.own ⟨loc,z++x⟩:=fun a=>by
 unfold AS.own;rw [List.flatMap_append,List.flatMap_append,List.mem_append,List.mem_append];exact Or.comm
theorem za1.rot {loc:List (Str × PV)}(x z:List (Addr × MO)):za1 g F ⟨loc,x++z⟩ ⟨loc,z++x⟩:=fun s S=>by
 have kp:Kp s.heap s.heap (AS.own ⟨loc,x++z⟩) (AS.own ⟨loc,z++x⟩):=Kp.shrink fun a ha=>(zhf x z a).mpr ha
 refine ⟨⟨S.old,S.lim,S.os,S.bare,?_,fun a ha=>?_,fun e he=>?_,S.fr,S.ns,S.nin,fun y p e=>?_,S.cs,S.cl⟩,fun _ _ e _ _ _=>e,fun _ o e=>⟨o,e⟩,fun a h=>.inl ((zhf x z a).mpr h),fun _ _ e=>e⟩
 ·have nd:=S.nd
  rw [List.nodup_append] at nd ⊢
  refine ⟨nd.1,?_,fun a ha b hb=>nd.2.2 a ha b ((zhf x z b).mpr hb)⟩
  have h2:=nd.2.1
  unfold AS.own at h2 ⊢
  rw [List.flatMap_append] at h2 ⊢
  rw [List.nodup_append] at h2 ⊢
  exact ⟨h2.2.1,h2.1,fun a ha b hb q=>h2.2.2 b hb a ha q.symm⟩
 ·rcases List.mem_append.mp ha with h | h
  ·exact S.lo a (List.mem_append_left _ h)
  ·exact S.lo a (List.mem_append_right _ ((zhf x z a).mpr h))
 ·have:=S.zs e (by rcases List.mem_append.mp he with q | q <;> simp [q])
  exact this.mono kp fun _ _ _ e=>e
 ·obtain ⟨v,h1,h2⟩:=S.loc y p e
  exact ⟨v,h1,h2.mono kp⟩
end
section
variable {prog:Program}{w:World}{A:Around}{E:Value->Shared->Prop}{s:Shared}
structure zcr (z TI TO i l:Addr):Prop where
 TIz:TI≠z
 TOz:TO≠z
 iz:i≠z
 TITO:TI≠TO
 TIi:TI≠i
 TOi:TO≠i
 lz:l≠z
 lTO:l≠TO
 li:l≠i
theorem zgk {z TI TO i l:Addr}{k:Nat}{xs:Array Value}{x y a b:Value}{Q:Value->Shared->Prop}(D:zcr z TI TO i l)
  (hz:IsZip s.heap z TI TO .none) (hTI:IsPair s.heap TI (.ref i) (.ref i)) (hTO:IsPair s.heap TO a b)
  (h1:s.heap.IsListIter i l k) (hl:s.heap.IsList l xs) (hx:xs[k]?=some x) (hy:xs[k+1]?=some y)
  (hQ:∀ h',IsZip h' z TI TO (rawInt s.heap.objs.size)->IsPair h' TO x y->h'.IsListIter i l (k+2)->IsPair h' s.heap.objs.size x y ->
   (∀ c o,c≠z->c≠TO->c≠i->s.heap.get? c=some o->h'.get? c=some o)->Q (.ref s.heap.objs.size) { s with heap:=h' }) :
  wpAny (model prog w) A (Builtin.«zip.__next__» ⟨[.ref z],[]⟩) (fun fin s'=>∃ v,fin=.done (.ret v)/\Q v s') E s:=by
 show wpAny _ _ (field (.ref z) 2>>=_) _ _ _
 refine wpAny_bind (wpAny_field hz rfl (x:=.bool false) rfl ?_)
 show wpAny _ _ (field (.ref z) 3>>=_) _ _ _
 refine wpAny_bind (wpAny_field hz rfl (x:=.ref TI) rfl ?_)
 refine wpAny_bind (wpAny_seqItems hTI rfl ?_)
 show wpAny _ _ (Builtin.SmallTypes.ownedTupleIsFree (.ref z)>>=_) _ _ _
 refine wpAny_bind ?_
 unfold Builtin.SmallTypes.ownedTupleIsFree
 refine wpAny_bind (wpAny_field hz rfl (x:=.none) rfl (wpAny_pure ?_))
 simp -iota only [if_true]
 refine wpAny_bind (wpAny_rule ?_)
 refine wpAny_bind (wpAny_field hz rfl (x:=.ref TO) rfl ?_)
 refine wpAny_bind (wpAny_setField_rec hz (by simp -iota) fun h₁ hz₁ hs₁=>?_)
 replace hz₁:IsZip h₁ z TI TO .ellipsis:=hz₁
 refine wpAny_bind ?_
 simp -iota only [List.zipIdx_cons,List.zipIdx_nil,List.forIn_cons,List.forIn_nil]
 refine wpAny_bind (wpAny_bind (wpAny_onRaise ?_))
 show wpAny _ _ (Builtin.SmallTypes.nextOf (.ref i)>>=_) _ _ _
 refine wpAny_bind (wpAny_nextOf_list_item (h1.extBut hs₁.extBut D.iz) (hl.extBut hs₁.extBut D.lz) hx fun h₂ h1₂ hs₂=>wpAny_pure ?_)
 have hTO₂:IsPair h₂ TO a b:=hs₂.extBut _ _ D.TOi (hs₁.extBut _ _ D.TOz hTO)
 refine wpAny_bind (wpAny_seqItems hTO₂ rfl ?_)
 refine wpAny_bind (wpAny_updateSeq_pair hTO₂ fun h₃ hTO₃ hs₃=>?_)
 replace hTO₃:IsPair h₃ TO x b:=hTO₃
 refine wpAny_bind (wpAny_letGo (wpAny_pure ?_))
 refine wpAny_bind (wpAny_bind (wpAny_onRaise ?_))
 show wpAny _ _ (Builtin.SmallTypes.nextOf (.ref i)>>=_) _ _ _
 refine wpAny_bind (wpAny_nextOf_list_item (h1₂.extBut hs₃.extBut D.TOi.symm)
  (((hl.extBut hs₁.extBut D.lz).extBut hs₂.extBut D.li).extBut hs₃.extBut D.lTO) hy fun h₄ h2₄ hs₄=>wpAny_pure ?_)
 have hTO₄:IsPair h₄ TO x b:=hs₄.extBut _ _ D.TOi hTO₃
 refine wpAny_bind (wpAny_seqItems hTO₄ rfl ?_)
 refine wpAny_bind (wpAny_updateSeq_pair hTO₄ fun h₅ hTO₅ hs₅=>?_)
 replace hTO₅:IsPair h₅ TO x y:=hTO₅
 refine wpAny_bind (wpAny_letGo (wpAny_pure (wpAny_pure ?_)))
 refine wpAny_bind (wpAny_seqItems hTO₅ rfl ?_)
 refine wpAny_bind (wpAny_newTuple ?_)
 have hsz:h₅.objs.size=s.heap.objs.size:=by rw [hs₅.1,hs₄.1,hs₃.1,hs₂.1,hs₁.1]
 have hz₅:IsZip h₅ z TI TO .ellipsis:=hs₅.extBut _ _ D.TOz.symm (hs₄.extBut _ _ D.iz.symm (hs₃.extBut _ _ D.TOz.symm (hs₂.extBut _ _ D.iz.symm hz₁)))
 have hk₅:∀ c o,c≠z->c≠TO->c≠i->s.heap.get? c=some o->h₅.get? c=some o:=fun c o c1 c2 c3 e =>
  hs₅.extBut _ _ c2 (hs₄.extBut _ _ c3 (hs₃.extBut _ _ c2 (hs₂.extBut _ _ c3 (hs₁.extBut _ _ c1 e))))
 have h1₅:h₅.IsListIter i l (k+2):=h2₄.extBut hs₅.extBut D.TOi.symm
 have hzlt:z < h₅.objs.size:=Heap.lt_size hz₅
 show wpAny _ _ (Builtin.SmallTypes.ownedTupleHandOut (.ref z) (.ref h₅.objs.size)>>=_) _ _ _
 refine wpAny_bind ?_
 unfold Builtin.SmallTypes.ownedTupleHandOut
 have hz₆:IsZip (h₅.push { cls:=.type "tuple",data:=.seq #[x,y] }) z TI TO .ellipsis:=Heap.get?_push_of_some _ hz₅
 refine wpAny_bind (wpAny_setField_rec hz₆ (by simp -iota) fun h₇ hz₇ hs₇=>?_)
 replace hz₇:IsZip h₇ z TI TO (rawInt h₅.objs.size):=hz₇
 refine wpAny_setField_rec hz₇ (by simp -iota) fun h₈ hz₈ hs₈=>?_
 replace hz₈:IsZip h₈ z TI TO (rawInt h₅.objs.size):=hz₈
 have up:∀ c o,c≠z->h₅.get? c=some o->h₈.get? c=some o:=fun c o c1 e=>hs₈.extBut _ _ c1 (hs₇.extBut _ _ c1 (Heap.get?_push_of_some _ e))
 have hT₈:IsPair h₈ h₅.objs.size x y:=hs₈.extBut _ _ (Nat.ne_of_gt hzlt) (hs₇.extBut _ _ (Nat.ne_of_gt hzlt) (Heap.get?_push_size _ rfl))
 rw [hsz] at hz₈ hT₈
 refine wpAny_pure ⟨_,rfl,?_⟩
 show Q (.ref h₅.objs.size) _
 rw [hsz]
 exact hQ h₈ hz₈ (up _ _ D.TOz hTO₅) (h1₅.at fun o e=>up _ o D.iz e) hT₈ fun c o c1 c2 c3 e=>up c o c1 (hk₅ c o c1 c2 c3 e)
theorem zhk {z TI TO i l:Addr}{k:Nat}{xs:Array Value}{a b:Value}{Q:Fin->Shared->Prop}(hh:A.handled=none)(D:zcr z TI TO i l)
  (hz:IsZip s.heap z TI TO .none) (hTI:IsPair s.heap TI (.ref i) (.ref i)) (hTO:IsPair s.heap TO a b)
  (h1:s.heap.IsListIter i l k) (hl:s.heap.IsList l xs) (hx:xs[k]?=none)
  (hE:∀ h' e,(∀ c o,c≠z->c≠i->s.heap.get? c=some o->h'.get? c=some o)->(∃ o,h'.get? e=some o/\o.cls=.type "StopIteration")->E (.ref e) { s with heap:=h' }) :
  wpAny (model prog w) A (Builtin.«zip.__next__» ⟨[.ref z],[]⟩) Q E s:=by
 show wpAny _ _ (field (.ref z) 2>>=_) _ _ _
 refine wpAny_bind (wpAny_field hz rfl (x:=.bool false) rfl ?_)
 show wpAny _ _ (field (.ref z) 3>>=_) _ _ _
 refine wpAny_bind (wpAny_field hz rfl (x:=.ref TI) rfl ?_)
 refine wpAny_bind (wpAny_seqItems hTI rfl ?_)
 show wpAny _ _ (Builtin.SmallTypes.ownedTupleIsFree (.ref z)>>=_) _ _ _
 refine wpAny_bind ?_
 unfold Builtin.SmallTypes.ownedTupleIsFree
 refine wpAny_bind (wpAny_field hz rfl (x:=.none) rfl (wpAny_pure ?_))
 simp only [if_true]
 refine wpAny_bind (wpAny_rule ?_)
 refine wpAny_bind (wpAny_field hz rfl (x:=.ref TO) rfl ?_)
 refine wpAny_bind (wpAny_setField_rec hz (by simp) fun h₁ hz₁ hs₁=>?_)
 replace hz₁:IsZip h₁ z TI TO .ellipsis:=hz₁
 refine wpAny_bind ?_
 simp only [List.zipIdx_cons,List.zipIdx_nil,List.forIn_cons,List.forIn_nil]
 refine wpAny_bind (wpAny_bind (wpAny_onRaise ?_))
 show wpAny _ _ (Builtin.SmallTypes.nextOf (.ref i)>>=_) _ _ _
 refine wpAny_bind (wpAny_nextOf_list_end hh (h1.extBut hs₁.extBut D.iz) (hl.extBut hs₁.extBut D.lz) hx fun h₂ e hs₂ he=>?_)
 obtain ⟨oe,hoe,hce⟩:=he
 have hz₂:IsZip h₂ z TI TO .ellipsis:=hs₂ _ _ D.iz.symm hz₁
 have hez:e≠z:=fun x=>by subst x;rw [hz₂] at hoe;cases hoe;simp at hce
 refine wpAny_setField_rec hz₂ (by simp) fun h₃ _ hs₃=>hE h₃ e (fun c o c1 c3 x=>hs₃.extBut _ _ c1 (hs₂ _ _ c3 (hs₁.extBut _ _ c1 x))) ⟨oe,hs₃.extBut _ _ hez hoe,hce⟩
theorem zeF {z TI TO i l:Addr}{k:Nat}{xs:Array Value}{x y a b:Value}{Q:Option Value->Shared->Prop}(D:zcr z TI TO i l)
  (hz:IsZip s.heap z TI TO .none) (hTI:IsPair s.heap TI (.ref i) (.ref i)) (hTO:IsPair s.heap TO a b)
  (h1:s.heap.IsListIter i l k) (hl:s.heap.IsList l xs) (hx:xs[k]?=some x) (hy:xs[k+1]?=some y)
  (hQ:∀ h',IsZip h' z TI TO (rawInt s.heap.objs.size)->IsPair h' TO x y->h'.IsListIter i l (k+2)->IsPair h' s.heap.objs.size x y ->
   (∀ c o,c≠z->c≠TO->c≠i->s.heap.get? c=some o->h'.get? c=some o)->Q (some (.ref s.heap.objs.size)) { s with heap:=h' }) :
  wpAny (model prog w) A (pyNext (.ref z)) Q E s:=by
 have hT:s.TypeIs (.ref z) "zip":=⟨_,hz,rfl⟩
 unfold pyNext
 exact wpAny_bind (wpAny_attempt (wpAny_callSpecial?_slot (name:=Str.ofString "__next__") hT PySem.F.slot_zip_next
  (wpAny_call_entry PySem.F.slot_zip_next hT PySem.F.entry_zip_next
   (zgk D hz hTI hTO h1 hl hx hy fun h' a1 a2 a3 a4 a5=>wpAny_pure (hQ h' a1 a2 a3 a4 a5)) (PySem.F.args_zip_next_1 _))))
theorem zfn {z TI TO i l:Addr}{k:Nat}{xs:Array Value}{a b:Value}{Q:Option Value->Shared->Prop}(hh:A.handled=none)(D:zcr z TI TO i l)
  (hz:IsZip s.heap z TI TO .none) (hTI:IsPair s.heap TI (.ref i) (.ref i)) (hTO:IsPair s.heap TO a b)
  (h1:s.heap.IsListIter i l k) (hl:s.heap.IsList l xs) (hx:xs[k]?=none)
  (hQ:∀ h',(∀ c o,c≠z->c≠i->s.heap.get? c=some o->h'.get? c=some o)->Q none { s with heap:=h' }):wpAny (model prog w) A (pyNext (.ref z)) Q E s:=by
 have hT:s.TypeIs (.ref z) "zip":=⟨_,hz,rfl⟩
 unfold pyNext
 refine wpAny_bind (wpAny_attempt (wpAny_callSpecial?_slot (name:=Str.ofString "__next__") hT PySem.F.slot_zip_next
  (wpAny_call_entry PySem.F.slot_zip_next hT PySem.F.entry_zip_next (zhk hh D hz hTI hTO h1 hl hx fun h' e hk he=>?_) (PySem.F.args_zip_next_1 _))))
 obtain ⟨o,ho,hc⟩:=he
 refine wpAny_bind (wpAny_isInstance (T:="StopIteration") (b:=true) ⟨o,ho,hc⟩ isSubtype_stop ?_)
 exact wpAny_pure (hQ _ hk)
theorem zgw (i l:Addr)(k:Nat):Meets (Builtin.«zip.__new__» ⟨[.type "zip",.ref i,.ref i],[]⟩) (fun _ R s=>s.heap.IsListIter i l k /\
      R (.ok (.ret (.ref (s.heap.objs.size + 2)))) { s with heap := ((s.heap.push { cls := .type "tuple", data := .seq #[.ref i, .ref i] }).push { cls := .type "tuple", data := .seq #[.none, .none] }).push { cls := .type "zip", data := .fields #[.none, .bool false, .bool false, .ref s.heap.objs.size, .ref (s.heap.objs.size + 1)] } }) :=
  .of_wp fun prog w A R s h => by
    obtain ⟨hp, g, d, tk, os⟩ := s; obtain ⟨hi, h⟩ := h
    have hsub := sub_zip
    have hI : Heap.IsListIter (Shared.heap ⟨hp, g, d, tk, os⟩) i l k := hi
    wp_walk using wpAny_pyIter_listiter hI
    refine ⟨_, rfl, ?_⟩
    simp only [Heap.size_push]
    exact h
theorem zlP {i l:Addr}{k:Nat}{Q:Value->Shared->Prop}(hi:s.heap.IsListIter i l k)
  (h:Q (.ref (s.heap.objs.size+2)) { s with heap:=((s.heap.push { cls:=.type "tuple",data:=.seq #[.ref i,.ref i] }).push { cls:=.type "tuple",data:=.seq #[.none,.none] }).push { cls:=.type "zip",data:=.fields #[.none,.bool false,.bool false,.ref s.heap.objs.size,.ref (s.heap.objs.size+1)] } }) :
  wpAny (model prog w) A (call (.type "zip") [.ref i,.ref i]) Q E s:=by
 refine callType_new PySem.F.called_zip (by decide) (PySem.F.typeCall_zip_2 _ _) (PySem.F.newCall_zip_2 _ _) (fun obj=>PySem.F.args_object_init_3 obj _ _) PySem.F.entry_zip_new
  (zgw i l k) ⟨hi,?_⟩
 have g5:(((s.heap.push { cls:=.type "tuple",data:=.seq #[.ref i,.ref i] }).push { cls:=.type "tuple",data:=.seq #[.none,.none] }).push { cls:=.type "zip",data:=.fields #[.none,.bool false,.bool false,.ref s.heap.objs.size,.ref (s.heap.objs.size+1)] }).get? ((s.heap.push { cls:=.type "tuple",data:=.seq #[.ref i,.ref i] }).push { cls:=.type "tuple",data:=.seq #[.none,.none] }).objs.size=some _:=Heap.get?_push_size _ rfl
 rw [Heap.size_push,Heap.size_push] at g5
 exact ⟨⟨_,g5,rfl⟩,h⟩
end
end Mine
end
section
open PySem PySem.Calls PyProof.Rows PySem.W PySem.Builtin
namespace Mine
noncomputable abbrev itO (l:Addr):Obj:={ cls:=.type "list_iterator",data:=.fields #[.ref l,.int 0 0] }
noncomputable abbrev tpO (v u:Value):Obj:={ cls:=.type "tuple",data:=.seq #[v,u] }
noncomputable abbrev zpO (TI TO:Addr):Obj:={ cls:=.type "zip",dict:=none,data:=.fields #[.none,.bool false,.bool false,.ref TI,.ref TO],slots:=#[] }
noncomputable abbrev liO (xs:Array Value):Obj:={ cls:=.type "list",data:=.seq xs }
noncomputable abbrev zT3 (z TO i:Addr)(oz ot oi:Obj):List (Addr × MO):=[(z,.obj oz),(TO,.obj ot),(i,.obj oi)]
noncomputable def zpm (g:Gl)(A:Around)(F:Fm)(t:Expr)(body orelse:List Stmt):List PV->AS->(Fl->AS->Prop)->Prop
 | [],σ,P=>EXs g A F orelse σ P
 | x::xs,σ,P=>∀ T:List (Addr × MO),AS1 g A F t x ⟨σ.loc,σ.zone++T⟩ fun σ₁=>EXs g A F body σ₁ fun fl σ₂=>match fl with
  | .next | .cont=>∃ z',σ₂.zone=z'++T/\zpm g A F t body orelse xs ⟨σ₂.loc,z'⟩ P
  | .brk=>False
  | .ret _=>False
noncomputable def zfY:List PV->List PV
 | a::b::r=>.tup [a,b]::zfY r
 | _=>[]
section
variable {g:Gl}{A:Around}{F:Fm}{σ:AS}{s:Shared}
structure zqK (h:Heap)(own:List Addr)(T:List (Addr × MO))(z TI TO i l:Addr)(k:Nat)(ps:List PV):Prop where
 hT:∃ oz oi ot,T=(zT3 z TO i oz ot oi)
 hz:IsZip h z TI TO .none
 hTI:IsPair h TI (.ref i) (.ref i)
 hTO:∃ a b,IsPair h TO a b
 it:h.IsListIter i l k
 lst:∃ items n,h.get? l=some (zam items n)/\VRs h own ps items.toList
 TIo:TI∉own
 lo:l∉own
 ap:zcr z TI TO i l
theorem zhE {loc:List (Str × PV)}{zone:List (Addr × MO)}{z TO i:Addr}{oz oi ot:Obj}:AS.own ⟨loc,zone++(zT3 z TO i oz ot oi)⟩=AS.own ⟨loc,zone⟩++[z,TO,i]:=by
 unfold AS.own;rw [List.flatMap_append];rfl
abbrev zuh (g:Gl)(A:Around)(F:Fm)(P:Fl->AS->Prop)(t:Expr)(body orelse:List Stmt)(own₀:List Addr)(s₀:Shared)(z TI TO i l:Addr)(ps:List PV)(m:Nat)(s:Shared):Prop :=
 ∃ σ n T,(ps.drop n).length=2*m/\Sat g F ⟨σ.loc,σ.zone++T⟩ s/\Stp F.fr own₀ s₀ (AS.own ⟨σ.loc,σ.zone++T⟩) s/\zqK s.heap (AS.own ⟨σ.loc,σ.zone++T⟩) T z TI TO i l n ps/\zpm g A F t body orelse (zfY (ps.drop n)) σ P
theorem zm5 {es:List Expr}{tn:Nat}{tp:Pos}{body orelse:List Stmt}{P:Fl->AS->Prop}{own₀:List Addr}{s₀:Shared}{R:Result->Shared->Prop}{z TI TO i l:Addr}{ps:List PV}(hr:Rm A 0)(hfresh:∀ a∈[z,TO,i],s₀.heap.get? a=none)
  (k:∀ f fl σ' s',P fl σ'->Sat g F σ' s'->FlR s'.heap σ'.own fl f->Stp F.fr own₀ s₀ σ'.own s'->R (.ok f) s')
  {n:Nat} {T:List (Addr × MO)} (hev:∃ m,(ps.drop n).length=2*m) (S:Sat g F ⟨σ.loc,σ.zone++T⟩ s) (st:Stp F.fr own₀ s₀ (AS.own ⟨σ.loc,σ.zone++T⟩) s) (Z:zqK s.heap (AS.own ⟨σ.loc,σ.zone++T⟩) T z TI TO i l n ps) (h:zpm g A F (.Tuple es tn tp) body orelse (zfY (ps.drop n)) σ P) :
  codeAny (model g.prog g.w) A (.forLoop (.Tuple es tn tp) (.ref z) body orelse F.env) R s:=by
 refine codeAny_forLoop_any (zuh g A F P (.Tuple es tn tp) body orelse own₀ s₀ z TI TO i l ps) ?_ hev.choose ⟨σ,n,T,hev.choose_spec,S,st,Z,h⟩
 clear S st Z h hev
 rintro m s ⟨σ,n,T,hm,S,st,Z,h⟩
 refine wpO fun W hW=>?_
 obtain ⟨a,b,hTO⟩:=Z.hTO
 obtain ⟨items,ni,hl,hv⟩:=Z.lst
 obtain ⟨oz,oi,ot,hT⟩:=Z.hT
 subst hT
 have hown:=zhE (loc:=σ.loc) (zone:=σ.zone) (z:=z) (TO:=TO) (i:=i) (oz:=oz) (oi:=oi) (ot:=ot)
 have nd:=S.nd
 rw [hown,List.nodup_append,List.nodup_append] at nd
 have hlist:s.heap.IsList l items:=⟨_,hl,rfl,_,rfl⟩
 cases hd:ps.drop n with
 | nil =>
  rw [hd] at h
  have hnone:items[n]?=none:=by
   have:=zj6 hd
   have hl':=hv.length
   rw [List.getElem?_eq_none_iff] at this
   simp -iota only [Array.length_toList] at hl'
   rw [Array.getElem?_eq_none_iff];lia
  refine zfn hr.handled Z.ap Z.hz Z.hTI hTO Z.it hlist hnone fun h' hk=>?_
  have W:za1 g F ⟨σ.loc,σ.zone++(zT3 z TO i oz ot oi)⟩ σ:=(za1.rot σ.zone _).trans (za1.dropAll (pre:=(zT3 z TO i oz ot oi)) (post:=σ.zone))
  obtain ⟨S₁,st₁⟩:=W s S
  obtain ⟨oi',e1,c1,d1⟩:=Z.it
  have hoff:∀ a∈[z,i],g.h₁.objs.size<=a/\a∉F.fr/\a∉σ.own/\∀ o,s.heap.get? a=some o->(∀ xs n,o.data≠.seq xs n)/\∀ v,o.data≠.cell v:=by
   intro a ha
   have hm:a∈[z,TO,i]:=by simp -iota at ha ⊢;rcases ha with q | q <;> simp -iota [q]
   refine ⟨S.lo a (List.mem_append_right _ (by rw [hown];exact List.mem_append_right _ hm)),fun q=>nd.2.2 a q a (List.mem_append_right _ hm) rfl,fun q=>nd.2.1.2.2 a q a hm rfl,fun o e=>?_⟩
   rcases List.mem_cons.mp ha with q | q
   ·subst q
    have hzz:s.heap.get? a=some _:=Z.hz
    rw [e] at hzz;cases hzz
    exact ⟨fun _ _ q=>(nomatch q),fun _ q=>(nomatch q)⟩
   ·rw [List.mem_singleton] at q;subst q
    rw [e] at e1;cases e1
    rw [d1]
    exact ⟨fun _ _ q=>(nomatch q),fun _ q=>(nomatch q)⟩
  have hk2:∀ b o,b∉[z,i]->s.heap.get? b=some o->h'.get? b=some o:=fun b o hb e=>hk b o (fun q=>hb (by simp -iota [q])) (fun q=>hb (by simp -iota [q])) e
  have S₂:Sat g F σ { s with heap:=h' }:=Sat.offs S₁ (T:=[z,i]) (s':={ s with heap:=h' }) hoff hk2 rfl S₁.bare
  have st₂:Stp F.fr own₀ s₀ σ.own { s with heap:=h' }:=(st.trans st₁.up).offs (ads:=[z,i]) (fun a ha=>hfresh a (by simp -iota at ha ⊢;rcases ha with q | q <;> simp -iota [q])) (fun b o e hb=>hk2 b o hb e) rfl
  refine hW _ _ ?_
  refine h _ S₂ _ _ fun f fl σ' s' h' S' hr' st'=>?_
  exact k f fl σ' s' h' S' hr' (st₂.trans st')
 | cons p r =>
  cases r with
  | nil=>rw [hd] at hm;simp -iota at hm;lia
  | cons q r =>
   rw [hd] at h
   obtain ⟨h1,h2⟩:=zdy hd
   obtain ⟨h3,h4⟩:=zdy h2
   obtain ⟨v,hv1,hv2⟩:=hv.get h1
   obtain ⟨u,hu1,hu2⟩:=hv.get h3
   refine zeF Z.ap Z.hz Z.hTI hTO Z.it hlist (by simpa -iota using hv1) (by simpa -iota using hu1) fun h' a1 a2 a3 a4 a5=>hW _ _ ?_
   clear hW W
   refine wpAny_letOwnedTupleGo_zip a1 fun h'' b1 b2=>?_
   have hk2:∀ b o,b∉[z,TO,i]->s.heap.get? b=some o->h''.get? b=some o:=fun b o hb e=>by
    have n1:b≠z:=fun q=>hb (by simp -iota [q])
    exact b2.extBut b o n1 (a5 b o n1 (fun q=>hb (by simp -iota [q])) (fun q=>hb (by simp -iota [q])) e)
   have hTO'':IsPair h'' TO v u:=b2.extBut _ _ Z.ap.TOz a2
   have hit'':h''.IsListIter i l (n+2):=a3.extBut b2.extBut Z.ap.iz
   obtain ⟨oi',e1,c1,d1⟩:=hit''
   have hown':AS.own ⟨σ.loc,σ.zone++(zT3 z TO i (zpO TI TO) (tpO v u) oi')⟩=AS.own ⟨σ.loc,σ.zone++(zT3 z TO i oz ot oi)⟩:=zhE.trans hown.symm
   obtain ⟨S₁,st₁⟩:=Sat.redo (z':=σ.zone++(zT3 z TO i (zpO TI TO) (tpO v u) oi')) S (s':={ s with heap:=h'' }) (T:=[z,TO,i])
    (fun a ha=>by rw [hown];exact List.mem_append_right _ ha) hk2 (fun b hb=>by
     simp -iota at hb
     rcases hb with q | q | q
     ·subst q;exact ⟨_,b1⟩
     ·subst q;exact ⟨_,hTO''⟩
     ·subst q;exact ⟨_,e1⟩) hown' (fun e he kp=>by
     rcases List.mem_append.mp he with q | q
     ·refine (S.zs e (List.mem_append_left _ q)).mono kp fun b hb o eo=>hk2 b o (fun q2=>?_) eo
      exact nd.2.1.2.2 b (List.mem_flatMap.mpr ⟨e,q,hb⟩) b q2 rfl
     ·simp -iota at q
      rcases q with q | q | q
      ·subst q;exact ⟨b1,fun _ q=>(nomatch q),fun q=>(nomatch q)⟩
      ·subst q;exact ⟨hTO'',fun _ q=>(nomatch q),fun q=>(nomatch q)⟩
      ·subst q;exact ⟨e1,fun _ q=>by rw [d1] at q;exact (nomatch q),by rw [c1];exact fun q=>(nomatch q)⟩) rfl rfl
   have hnz:s.heap.objs.size≠z:=fun q=>by
    have hlt:z < s.heap.objs.size:=Heap.lt_size (show s.heap.get? z=some _ from Z.hz)
    rw [q] at hlt
    exact Nat.lt_irrefl _ hlt
   have hnt:h''.get? s.heap.objs.size=some (zei #[v,u] 0):=b2.extBut _ _ hnz a4
   have hno:s.heap.objs.size∉AS.own ⟨σ.loc,σ.zone++(zT3 z TO i oz ot oi)⟩:=fun q=>Nat.lt_irrefl _ (S.own_lt q)
   have kp₁:=S.kp st₁
   have hvr:VR h'' (AS.own ⟨σ.loc,σ.zone++(zT3 z TO i (zpO TI TO) (tpO v u) oi')⟩) (.tup [p,q]) (.ref s.heap.objs.size) :=
    .tup (by rw [hown'];exact hno) hnt (.cons (hv2.mono kp₁) (.cons (hu2.mono kp₁) .nil))
   refine h _ _ _ S₁ hvr _ _ fun σ₃ s₃ h₃ S₃ st₃=>?_
   refine h₃ s₃ S₃ _ _ fun f fl σ₄ s₄ h₄ S₄ hr₄ st₄=>?_
   have stt:Stp F.fr _ s σ₄.own s₄:=st₁.up.trans (st₃.trans st₄)
   have fin:∀ z',σ₄.zone=z'++(zT3 z TO i (zpO TI TO) (tpO v u) oi')->zpm g A F (.Tuple es tn tp) body orelse (zfY r) ⟨σ₄.loc,z'⟩ P ->
     ∃ m',m' < m/\zuh g A F P (.Tuple es tn tp) body orelse own₀ s₀ z TI TO i l ps m' s₄:=by
    intro z' ez hz'
    obtain ⟨loc₄,zone₄⟩:=σ₄
    dsimp -iota only at ez
    subst ez
    rw [hd,List.length_cons,List.length_cons] at hm
    have kp₄:=S.kp stt
    obtain ⟨g1,g2⟩:=kp₄ TI _ _ _ Z.hTI rfl Z.TIo
    obtain ⟨g3,g4⟩:=kp₄ l _ _ _ hl rfl Z.lo
    have zz:∀ e∈(zT3 z TO i (zpO TI TO) (tpO v u) oi'),ZR s₄.heap _ e.1 e.2:=fun e he=>S₄.zs e (List.mem_append_right _ he)
    have z1:=(zz _ (.head _)).1
    have z2:=(zz _ (.tail _ (.head _))).1
    have z3:=(zz _ (.tail _ (.tail _ (.head _)))).1
    exact ⟨m - 1,by lia,⟨loc₄,z'⟩,n+2,_,by rw [h4];lia,S₄,st.trans stt,⟨⟨_,_,_,rfl⟩,z1,g1,⟨_,_,z2⟩,⟨_,z3,c1,d1⟩,⟨_,_,g3,hv.mono kp₄⟩,g2,g4,Z.ap⟩,by rw [h4];exact hz'⟩
   cases hr₄ with
   | next=>obtain ⟨z',e,h₅⟩:=h₄;exact fin z' e h₅
   | cont=>obtain ⟨z',e,h₅⟩:=h₄;exact fin z' e h₅
   | brk=>exact h₄.elim
   | ret hv=>exact h₄.elim
end
end Mine
end
section
open PySem PySem.Calls PyProof.Rows PySem.W PySem.Builtin
namespace Mine
section
variable {g:Gl}{A:Around}{F:Fm}{σ:AS}{s:Shared}
theorem zdC {a b:Addr}(h:¬ @Eq Nat a b):a≠b:=h
theorem zf3 {prog:Program}{w:World}{E:Value->Shared->Prop}{l:Addr}{items:Array Value}{n:Nat}{Q:Value->Shared->Prop}(hl:s.heap.get? l=some (zam items n))
  (h:Q (.ref s.heap.objs.size) { s with heap:=s.heap.push (itO l) }):wpAny (model prog w) A (call (.builtin "iter") [.ref l]) Q E s:=by
 refine call_function_entry (by decide +kernel) (by decide +kernel) kdk_entry_iter (kdk_args_iter _) ?_
 unfold Builtin.«iter»
 refine wpAny_bind (m:=someArgs "iter" 1 2 _) (wpAny_of_eq (a:=[Value.ref l]) (by first | rfl | kernel_rfl!) ?_)
 show wpAny _ _ (pyIter (.ref l)>>=_) _ _ _
 exact wpAny_bind (wpAny_pyIter_list ⟨_,hl,rfl,_,rfl⟩ (wpAny_pure ⟨_,rfl,h⟩))
theorem zi1 {prog:Program}{w:World}{E:Value->Shared->Prop}{l:Addr}{v:Value}{k:Nat}{u:Tok}{Q:Value->Shared->Prop}(hl:s.heap.get? l=some (zam #[v] k))
  (h:Q (.ref s.heap.objs.size) { s with heap:=s.heap.push (liO #[v,v]) }):wpAny (model prog w) A (binaryOp .Mult (.ref l) (.int 2 u)) Q E s :=
 wpAny_binaryOp_repeat_ref (T:="list") (U:="int") (by decide) ⟨_,hl,rfl⟩ (fun s'=>typeIs_int s' 2 u) noFill_list_mul PySem.F.fills_int_mul PySem.F.slot_int_rmul repeat_list PySem.F.slot_int_index.lookup
  (call_meets PySem.F.slot_int_rmul (typeIs_int s 2 u) PySem.F.entry_int_rmul (PySem.F.args_int_rmul_2 _ _) (int___rmul___int_list 2 u l #[v] k)
   ⟨hl,rfl,⟨_,hl,rfl⟩,call_meets PySem.F.slot_list_mul ⟨_,hl,rfl⟩ PySem.F.entry_list_mul (PySem.F.args_list_mul_2 _ _)
    (AutoListH.list___mul___list_int_3 l #[v] k 2 u (by simp [Builtin.List.listFitsIndex]) (by simp) (by simp [Builtin.List.listTooLong,sizeLine]))
    ⟨hl,h⟩⟩)
theorem zma {x:Str}{es:List Expr}{tn:Nat}{tp pos p0 p1 p2 p3 p4 p5 p6 p7 p8:Pos}{kd:Nat}{body orelse:List Stmt}{ps:List PV}{P:Fl->AS->Prop}(hk:z0 F)(hr:Rm A 0)(hzip:g.Blt "zip" (.type "zip"))(hiter:g.Blt "iter" (.builtin "iter"))
  (hx:σ.loc.lookup x=some (.lst ps)) (hev:∃ m,ps.length=2*m) (h:zpm g A F (.Tuple es tn tp) body orelse (zfY ps) σ P)
  (hd:(x==("__debug__":Str))=false:=by decide) (hc:(x==Str.ofString "__classdict__")=false:=by decide)
  (hkz:F.env.kindOf "zip" = some .globalImplicit:=by left) (hki:F.env.kindOf "iter" = some .globalImplicit:=by left)
  (he1:eval (.Call (.Name "zip" p0) [.Starred (.BinOp (.List [.Call (.Name "iter" p1) [.Name x p2] [] p3] p4) .Mult (.Constant (.int 2) kd p5) p6) p7] [] p8) F.env =
   (do callWith p8 (<- eval (.Name "zip" p0) F.env) [] [(true,do let v <- eval (.BinOp (.List [.Call (.Name "iter" p1) [.Name x p2] [] p3] p4) .Mult (.Constant (.int 2) kd p5) p6) F.env;standAt p8;pure v)] []):=by left)
  (he2:eval (.Call (.Name "iter" p1) [.Name x p2] [] p3) F.env=(do callWith p3 (<- eval (.Name "iter" p1) F.env) [] (backTo p3 (starEach [.Name x p2] F.env)) (backToKw p3 (keywordEach [] F.env))):=by left)
  (hn2:(backTo p3 (starEach [.Name x p2] F.env)).any (·.1)=false:=by left)
  (hst2:starEach [.Name x p2] F.env=(false,eval (.Name x p2) F.env)::starEach [] F.env:=by left)
  (hst:starEach [.Call (.Name "iter" p1) [.Name x p2] [] p3] F.env=(false,eval (.Call (.Name "iter" p1) [.Name x p2] [] p3) F.env)::starEach [] F.env:=by left)
  (hs:∀ y,foldedSetIterable (.Call (.Name "zip" p0) [.Starred (.BinOp (.List [.Call (.Name "iter" p1) [.Name x p2] [] p3] p4) .Mult (.Constant (.int 2) kd p5) p6) p7] [] p8) F.env y=pure y:=by left) :
  EX g A F (.For (.Tuple es tn tp) (.Call (.Name "zip" p0) [.Starred (.BinOp (.List [.Call (.Name "iter" p1) [.Name x p2] [] p3] p4) .Mult (.Constant (.int 2) kd p5) p6) p7] [] p8) body orelse pos) σ P:=by
 intro s S Q E k
 refine wpAny_For ?_ hs
 rw [he1]
 refine wpAny_bind (zhC S.old hk.kind hk.gl hk.bl hzip ?_ hkz)
 unfold callWith
 refine wpAny_bind (wpAny_holding ?_)
 unfold evalArgs
 refine wpAny_bind (wpAny_bind ?_)
 refine wpAny_BinOp (List_ ?_)
 refine args_cons ?_ hst
 rw [he2]
 refine wpAny_bind (zhC S.old hk.kind hk.gl hk.bl hiter ?_ hki)
 have hE:EVs g A F [.Name x p2] σ (fun qs σ₂=>qs=[.lst ps]/\σ₂=σ):=zc (P:=fun qs σ₂=>qs=[.lst ps]/\σ₂=σ) (za hk hx (zf ⟨rfl,rfl⟩) hd hc) hst2
 refine zaP rfl hn2 (zaa hE hn2 S fun vs qs σ₁ s₁ hq S₁ hvs st₁=>?_)
 obtain ⟨rfl,e⟩:=hq
 subst e
 cases hvs with
 | cons hv hvs =>
 cases hvs
 cases hv with
 | @lst _ l items n hlo ho hl =>
 refine zf3 ho ?_
 have S₂:=S₁.newObj (itO l) (fun _ q=>nomatch q) (fun q=>nomatch q)
 obtain ⟨h₁,gg,dd,tk,os⟩:=s₁
 dsimp only at S₂ ho ⊢
 refine spliced_nil ?_
 refine wpAny_newList ?_ (by simp [sizeLine])
 have hI:(h₁.push (itO l)).get? h₁.objs.size=some (itO l):=Heap.get?_push_size _ rfl
 obtain ⟨S₂,st₂⟩:=S₂
 have S₃:=S₂.push (liO #[.ref h₁.objs.size])
 have st₃:Stp [] _ _ _ _:=st₂.trans (.push (liO #[.ref h₁.objs.size]))
 refine zx (P:=fun p τ=>p=.int 2/\τ=⟨σ₁.loc,(h₁.objs.size,.obj (itO l))::σ₁.zone⟩) ⟨rfl,rfl⟩ _ S₃ _ E fun u p σ₃ s₄ hp S₄ hu st₄=>?_
 obtain ⟨rfl,e⟩:=hp
 subst e
 cases hu
 have hIo:h₁.objs.size∉σ₁.own:=fun q=>Nat.lt_irrefl _ (S₁.own_lt q)
 have hL0:((h₁.push (itO l)).push (liO #[.ref h₁.objs.size])).get? (h₁.push (itO l)).objs.size=some (zam #[.ref h₁.objs.size] 0):=Heap.get?_push_size _ rfl
 have hL0o:(h₁.push (itO l)).objs.size∉AS.own ⟨σ₁.loc,(h₁.objs.size,.obj (itO l))::σ₁.zone⟩:=fun q=>Nat.lt_irrefl _ (S₂.own_lt q)
 have hL0':=st₄.keep _ _ hL0 (by simp) hL0o (.inl (fun q=>nomatch q))
 refine zi1 hL0' ?_
 refine wpAny_bind (wpAny_standAt (wpAny_pure (wpAny_bind (wpAny_pure ?_))))
 refine wpAny_holding ?_
 show wpAny _ A (pure []>>=_) _ _ _
 refine wpAny_bind (wpAny_pure (wpAny_bind (wpAny_bind ?_)))
 have hL1:(s₄.heap.push (liO #[.ref h₁.objs.size,.ref h₁.objs.size])).get? s₄.heap.objs.size=some (zam #[.ref h₁.objs.size,.ref h₁.objs.size] 0):=Heap.get?_push_size _ rfl
 have S₅:=S₄.push (liO #[.ref h₁.objs.size,.ref h₁.objs.size])
 have st₅:Stp [] _ _ _ _:=st₄.trans (.push (liO #[.ref h₁.objs.size,.ref h₁.objs.size]))
 have hT:Heap.IsList (s₄.heap.push (liO #[.ref h₁.objs.size,.ref h₁.objs.size])) s₄.heap.objs.size #[.ref h₁.objs.size,.ref h₁.objs.size]:=⟨_,hL1,rfl,_,rfl⟩
 unfold notIterableAtAll
 refine wpAny_bind (wpAny_specialOf hT.typeIs PySem.F.slot_list_iter.lookup ?_)
 refine wpAny_pure ?_
 show wpAny _ A (holding [] (collect (.ref s₄.heap.objs.size))) _ _ _
 refine wpAny_holding (wpAny_collect_seq _ (.inl rfl) hL1 rfl rfl (fun h₆ hk₆=>?_) (by simp [sizeLine]))
 refine wpAny_pure ?_
 refine wpAny_bind (wpAny_standAt ?_)
 refine wpAny_bind (wpAny_pure ?_)
 show wpAny _ A (operate _ (call (.type "zip") [.ref h₁.objs.size,.ref h₁.objs.size] [])>>=_) _ _ _
 have S₆:=S₅.keeps (h':=h₆) (tk:=s₄.toks) hk₆
 have st₆:Stp [] _ _ _ _:=st₅.trans (Stp.keeps (h':=h₆) (tk:=s₄.toks) hk₆)
 have hI₆:Heap.IsListIter h₆ h₁.objs.size l 0:=by
  have:=(S₆.zs (h₁.objs.size,.obj (itO l)) List.mem_cons_self).1
  exact ⟨_,this,rfl,rfl⟩
 refine wpAny_bind (wpAny_operating (zlP (k:=0) (l:=l) hI₆ ?_))
 refine wpAny_bind (wpAny_holding (wpAny_point ?_))
 refine wpAny_pure ?_
 dsimp only at S₆ st₆ ⊢
 have S₇:=S₆.push (tpO (.ref h₁.objs.size) (.ref h₁.objs.size))
 have st₇:=st₆.trans (Stp.push (s:={ s₄ with heap:=h₆,toks:=s₄.toks }) (tpO (.ref h₁.objs.size) (.ref h₁.objs.size)))
 obtain ⟨S₈,st₈⟩:=S₇.newObj (tpO .none .none) (fun _ q=>nomatch q) (fun q=>nomatch q)
 obtain ⟨S₉,st₉⟩:=S₈.newObj (zpO h₆.objs.size (h₆.objs.size+1)) (fun _ q=>nomatch q) (fun q=>nomatch q)
 have stt:=st₇.trans (st₈.trans st₉)
 dsimp only at S₉ stt
 rw [Heap.size_push,Heap.size_push] at S₉ stt
 obtain ⟨SA,stA⟩:=za1.rot (g:=g) (F:=F) (loc:=σ₁.loc) (zT3 (h₆.objs.size+1+1) (h₆.objs.size+1) h₁.objs.size (zpO h₆.objs.size (h₆.objs.size+1)) (tpO .none .none) (itO l)) σ₁.zone _ S₉
 have hl1:@LT.lt Nat instLTNat l h₁.objs.size:=Heap.lt_size ho
 have hI1:h₁.objs.size < h₆.objs.size:=by obtain ⟨o,e,_⟩:=hI₆;exact Heap.lt_size e
 have hz:=(SA.zs (h₆.objs.size+1+1,MO.obj (zpO h₆.objs.size (h₆.objs.size+1))) (by simp)).1
 have hTO:=(SA.zs (h₆.objs.size+1,.obj (tpO .none .none)) (by simp)).1
 have hit:=(SA.zs (h₁.objs.size,.obj (itO l)) (by simp)).1
 have stB:Stp [] σ₁.own _ _ _:=st₂.trans ((Stp.push (liO #[.ref h₁.objs.size])).trans (stt.trans stA))
 have stAll:Stp [] σ₁.own _ _ _:=st₁.trans stB
 refine wpAny_pyIter_zip hz ?_
 have hTI:IsPair (((h₆.push (tpO (.ref h₁.objs.size) (.ref h₁.objs.size))).push (tpO .none .none)).push (zpO h₆.objs.size (h₆.objs.size+1))) h₆.objs.size (.ref h₁.objs.size) (.ref h₁.objs.size):=Heap.get?_push_of_some _ (Heap.get?_push_of_some _ (Heap.get?_push_size _ rfl))
 have hown:=zhE (loc:=σ₁.loc) (zone:=σ₁.zone) (z:=h₆.objs.size+1+1) (TO:=h₆.objs.size+1) (i:=h₁.objs.size) (oz:=(zpO h₆.objs.size (h₆.objs.size+1))) (ot:=(tpO .none .none)) (oi:=(itO l))
 have hle:∀ a∈σ₁.own,a < h₁.objs.size:=fun a ha=>S₁.own_lt ha
 have kpAll:=S₁.kp stB
 obtain ⟨g1,g2⟩:=kpAll l _ _ _ ho rfl hlo
 refine zm5 (σ:=σ₁) (ps:=ps) (n:=0) hr (s₀:=s) (own₀:=σ₁.own) (fun a ha=>?_) (fun f fl σ' s' h' S' hr' st'=>k f fl σ' s' h' S' hr' st') hev SA stAll.up ⟨⟨_,_,_,rfl⟩,hz,hTI,⟨_,_,hTO⟩,⟨_,hit,rfl,rfl⟩,⟨_,_,g1,hl.mono kpAll⟩,?_,g2,⟨zdC (by lia),zdC (by lia),zdC (by lia),zdC (by lia),zdC (by lia),zdC (by lia),zdC (by lia),zdC (by lia),zdC (by lia)⟩⟩ h
 ·cases q:s.heap.get? a with
  | none=>rfl
  | some o =>
   obtain ⟨o',e'⟩:=st₁.there a o q
   have hlt:@LT.lt Nat instLTNat a h₁.objs.size:=Heap.lt_size e'
   rcases List.mem_cons.mp ha with q | ha
   ·have q':@Eq Nat a _:=q
    lia
   ·rcases List.mem_cons.mp ha with q | ha
    ·have q':@Eq Nat a _:=q
     lia
    ·have q':@Eq Nat a _:=List.mem_singleton.mp ha
     lia
 ·rw [hown]
  intro q
  rcases List.mem_append.mp q with q | q
  ·have q':@LT.lt Nat instLTNat _ _:=hle _ q
   lia
  ·rcases List.mem_cons.mp q with q | q
   ·have q':@Eq Nat _ _:=q
    lia
   ·rcases List.mem_cons.mp q with q | q
    ·have q':@Eq Nat _ _:=q
     lia
    ·have q':@Eq Nat _ _:=List.mem_singleton.mp q
     lia
end
end Mine
end
section
open PySem PySem.Calls PyProof.Rows PySem.W PySem.Builtin
namespace Mine
section
variable {g:Gl}{A:Around}{F:Fm}{σ:AS}{s:Shared}{P:PV->AS->Prop}{value slice:Expr}
inductive zch (P:Fl->AS->Prop)(q:PV)(p:PV)(lo:Option Int)(hi:Option Int)(σ₃:AS):Prop
 | mk (x:Addr) (l:List PV) (ps:List PV) (zone':List (Addr × MO)) (h1:p=.raw (.ref x)) (h2:q=.lst ps) (h3:ZAt x (.list l) (.list (l.take (slo l.length lo)++ps++l.drop (max (slo l.length lo) (shi l.length hi)))) σ₃.zone zone') (h4:l.length+ps.length<=1000000) (h5:P .next ⟨σ₃.loc,zone'⟩):zch P q p lo hi σ₃
abbrev zex (g:Gl)(A:Around)(F:Fm)(P:Fl->AS->Prop)(upper:Option Expr)(q:PV)(p:PV):Option Int->AS->Prop:=fun lo σ₂=>PT g A F upper σ₂ (zch P q p lo)
abbrev zeu (g:Gl)(A:Around)(F:Fm)(P:Fl->AS->Prop)(lower:Option Expr)(upper:Option Expr)(q:PV):PV->AS->Prop:=fun p σ₁=>PT g A F lower σ₁ (zex g A F P upper q p)
abbrev zes (g:Gl)(A:Around)(F:Fm)(P:Fl->AS->Prop)(o:Expr)(lower:Option Expr)(upper:Option Expr):PV->AS->Prop:=fun q σ₀=>EV g A F o σ₀ (zeu g A F P lower upper q)
theorem zhH {o:Expr}{lower upper:Option Expr}{pp tpos pos:Pos}{P:Fl->AS->Prop}
  (h:EV g A F value σ (zes g A F P o lower upper))
  (hs:swapsWith value (some (.Subscript o (.Slice lower upper none pp) tpos)) pos.line F.env=pure false:=by left):EX g A F (.Assign [.Subscript o (.Slice lower upper none pp) tpos] value pos) σ P:=by
 intro s S Q E k
 refine wpAny_Assign_Subscript (h s S _ E fun w q σ₀ s₀ h₀ S₀ hq st₀=>?_) hs
 refine h₀ s₀ S₀ _ E fun v p σ₁ s₁ h₁ S₁ hv st₁=>?_
 refine wpAny_Slice (h₁ s₁ S₁ _ E fun vl lo σ₂ s₂ h₂ S₂ hl st₂=>h₂ s₂ S₂ _ E fun vu hi σ₃ s₃ h₃ S₃ hu st₃=>?_)
 rw [evalPart_none]
 obtain ⟨x,l,ps,zone',rfl,rfl,U,hlen,hP⟩:=h₃
 cases hv
 have S₄:=S₃.push { cls:=.type "slice",data:=.fields #[vl,vu,.none] }
 have st₄:Stp [] σ₀.own s₀ σ₃.own _:=st₁.trans (st₂.trans (st₃.trans (Stp.push { cls:=.type "slice",data:=.fields #[vl,vu,.none] })))
 obtain ⟨pre,post,e1,e2⟩:=U.split
 have hz:(x,MO.list l)∈σ₃.zone:=by rw [e1];simp
 obtain ⟨items,m,h1,hit⟩:=S₄.zs _ hz
 have hsz:=hit.toArray
 have hx:x∈σ₃.own:=List.mem_flatMap.mpr ⟨_,hz,by simp [MO.addrs]⟩
 have hq':=hq.mono (S₀.kp st₄)
 cases hq' with
 | @lst _ D its nv ha hD hits =>
 have hxD:x≠D:=fun q=>ha (q ▸ hx)
 have hsz2:=hits.toArray
 have hT:Heap.IsList (s₃.heap.push { cls:=.type "slice",data:=.fields #[vl,vu,.none] }) x items:=⟨_,h1,rfl,_,rfl⟩
 refine wpAny_pure ?_
 unfold setItem
 refine wpAny_holding (wpAny_bind (wpAny_sequenceKey hT.typeIs (by decide) ?_))
 refine wpAny_bind (wpAny_callSpecial?_slot (name:=Str.ofString "__setitem__") hT.typeIs slot_list_setitem
  (wpAny_call_entry slot_list_setitem hT.typeIs entry_list_setitem ?_ (args_list_setitem _ _ _)))
 refine zbQ h1 rfl (by lia) hxD (Heap.IsSliceOf.new _ _ _ _) hl hu hD fun h' m' hsb hg=>⟨_,rfl,?_⟩
 obtain ⟨S',st'⟩:=S₄.upd U rfl (h':=h') (fun b o hb e=>hsb.extBut b o (fun q=>hb (by simp [MO.addrs,q])) e) fun kp=>⟨_,m',hg,(VRs.cut hit hits lo hi).mono kp⟩
 exact wpAny_pure (k .next .next _ _ hP S' .next (Stp.up (st₀.trans (st₄.trans st'))))
theorem zo8 {D:Addr}{l:List PV}{p:PV}{zone':List (Addr × MO)}(U:ZAt D (.list (p::l)) (.list l) σ.zone zone')(hl:l.length<=1000000)(h:P p ⟨σ.loc,zone'⟩):CL g A F (.builtin "list.pop") [.raw (.ref D),.int 0] σ P:=fun s vs S hvs Q E k=>by
 cases hvs with | cons hv hs'=>cases hs' with | cons hu hs'=>cases hs';cases hv;cases hu;(
  obtain ⟨pre,post,e1,e2⟩:=U.split
  obtain ⟨items,m,h1,h2⟩:=S.zs (D,.list (p::l)) (by rw [e1];simp)
  have hT:s.heap.IsList D items:=⟨_,h1,rfl,_,rfl⟩
  obtain ⟨v,us,hlist,hv2,hus⟩:∃ v us,items.toList=v::us/\VR s.heap σ.own p v/\VRs s.heap σ.own l us:=by
   generalize items.toList=L at h2
   cases h2 with | cons a b=>exact ⟨_,_,rfl,a,b⟩
  have hul:=hus.length
  have hitems:items=(v::us).toArray:=by rw [<- hlist]
  subst hitems
  refine wpAny_call_entry PySem.F.slot_list_pop hT.typeIs PySem.F.entry_list_pop ?_ (PySem.F.args_list_pop_2 _ _)
  show wpAny _ _ (Builtin.List.listItems (.ref D)>>=_) _ _ s
  unfold Builtin.List.listItems
  refine wpAny_bind (wpAny_bind (wpAny_seqItems h1 rfl (wpAny_pure ?_)))
  have hidx:seqIndex? 0 (v::us).toArray.size=some 0:=StrLaws.seqIndex_nonneg (by decide) (by simp)
  have hget:(v::us).toArray[0]?=some v:=by simp
  have hne:(v::us).toArray.isEmpty=false:=rfl
  dsimp only
  rw [hne,if_neg (by decide),hidx]
  simp only [Option.bind_some,hget,Option.map_some]
  have herase:((v::us).toArray.eraseIdxIfInBounds 0).toList=us:=by
   rw [Array.toList_eraseIdxIfInBounds];rfl
  refine wpAny_bind (m:=updateSeq D fun y=>y.eraseIdxIfInBounds 0) (wpAny_updateSeq h1 rfl ?_ (by have:sizeLine=16777216:=rfl;simp;lia) (by
   have:sizeLine=16777216:=rfl
   rw [<- Array.length_toList,herase];lia))
  have hs:Heap.SameBut D s.heap (s.heap.update D (Obj.mapSeq fun y=>y.eraseIdxIfInBounds 0)):=.update ..
  have hg:=Heap.get?_update_self (Obj.mapSeq fun y=>y.eraseIdxIfInBounds 0) h1 (by simp [Obj.mapSeq,Obj.isFreed])
  have hm:∃ m',Obj.mapSeq (fun y=>y.eraseIdxIfInBounds 0) (zam (v::us).toArray m)=zam ((v::us).toArray.eraseIdxIfInBounds 0) m':=⟨_,rfl⟩
  obtain ⟨m',hm⟩:=hm
  obtain ⟨S',st⟩:=S.upd U rfl (h':=s.heap.update D (Obj.mapSeq fun y=>y.eraseIdxIfInBounds 0)) (fun b o hb e=>hs.extBut b o (fun q=>hb (by simp [MO.addrs,q])) e) fun kp=>⟨_,m',hg.trans (congrArg some hm),by rw [herase];exact hus.mono kp⟩
  exact wpAny_pure ⟨_,rfl,k _ _ _ _ h S' (hv2.mono (S.kp st)) st⟩)
theorem zpU {D:Addr}{l:List PV}(hz:(D,.list l)∈σ.zone):MT g A F (.raw (.ref D)) "pop" "list.pop" σ:=zl3 hz PySem.F.slot_list_pop PySem.F.type_list_pop
end
end Mine
end
section
open PySem PySem.Calls PyProof.Rows PySem.W PySem.Builtin PySem.Builtin.Re
namespace Mine
namespace Rx
open PySem.Sre
noncomputable def cd:Array Nat:=#[14,4,0,1,4294967295,17,0,24,11,1,4294967295,13,6,16,32,16,9,0,1,17,1,1]
noncomputable def fr (s:Nat)(o:Bool):Sre.Frame:={ wait:=.nextStart,pc:=5,pos:=s,outermost:=o }
noncomputable def fr2 (p n:Nat)(o:Bool)(l li:Int):Sre.Frame:={ wait:=.giveBack,pc:=7,pos:=p,outermost:=o,count:=n,kept:={ lastmark:=l,lastindex:=li } }
noncomputable def m0 (text:Array Nat)(lim s:Nat)(o:Bool)(a b:Option Nat)(seen:Sre.Seen):M :=
 { code:=cd,text,lim,start:=s,lastStart:=lim,pc:=5,pos:=s,handed:=s,outermost:=o,marks:=#[a,b],frames:=[fr s o],weight:=1,seen }
noncomputable def m1 (text:Array Nat)(lim s:Nat)(o:Bool)(b:Option Nat)(seen:Sre.Seen):M :=
 { code:=cd,text,lim,start:=s,lastStart:=lim,pc:=7,pos:=s,handed:=s,outermost:=o,marks:=#[some s,b],lastmark:=0,frames:=[fr s o],weight:=1,seen }
theorem zo3 {text:Array Nat}{lim s:Nat}{o:Bool}{a b:Option Nat}{seen:Sre.Seen}:∃ seen',(m0 text lim s o a b seen).step=m1 text lim s o b seen':=⟨_,rfl⟩
noncomputable def isWs (c:Nat):Bool:=c==32 || c==9
theorem acc (c:Nat)(seen:Sre.Seen):∃ seen',accepts cd 11 c seen=.ok (isWs c,seen'):=by
 unfold isWs
 show ∃ seen',(if (c==32)=true then Except.ok (true,seen.add 16) else if (c==9)=true then Except.ok (true,(seen.add 16).add 16) else Except.ok (false,((seen.add 16).add 16).add 0))=_
 cases c==32 <;> cases c==9 <;> exact ⟨_,rfl⟩
noncomputable def zcW (text:Array Nat):Nat->Nat->Nat
 | 0,_=>0
 | n+1,p=>if isWs (text.getD p 0) then zcW text n (p+1)+1 else 0
theorem zfg {text:Array Nat}{n p:Nat}:zcW text (n+1) p=if isWs (text.getD p 0) then zcW text n (p+1)+1 else 0:=rfl
theorem zlw (text:Array Nat):∀ (n p k:Nat) (seen:Sre.Seen),∃ seen',Sre.run cd text 11 n p k seen=.ok (k+zcW text n p,seen')
 | 0,p,k,seen=>⟨_,rfl⟩
 | n+1,p,k,seen=>by
  obtain ⟨s1,e1⟩:=acc (text.getD p 0) seen
  unfold Sre.run
  rw [zfg]
  rw [e1]
  cases hw:isWs (text.getD p 0) with
  | false=>exact ⟨s1,rfl⟩
  | true =>
   obtain ⟨s2,e2⟩:=zlw text n (p+1) (k+1) s1
   refine ⟨s2,?_⟩
   show Sre.run cd text 11 n (p+1) (k+1) s1=_
   rw [e2]
   simp -iota only [if_true]
   congr 2
   lia
noncomputable def m2 (text:Array Nat)(lim s n:Nat)(o:Bool)(b:Option Nat)(seen:Sre.Seen):M :=
 { code:=cd,text,lim,start:=s,lastStart:=lim,pc:=19,pos:=s+n,handed:=s+n,outermost:=o,marks:=#[some s,b],lastmark:=0,frames:=[fr2 (s+n) n o 0 (-1),fr s o],weight:=2,seen }
theorem znS {lim s:Nat}(h:lim<=1000000):min 4294967295 ((lim:Int) - (s:Int)).toNat=lim - s:=by
 rw [Int.toNat_sub];exact Nat.min_eq_right (Nat.le_trans (Nat.sub_le _ _) (Nat.le_trans h (by decide)))
theorem zj2 {text:Array Nat}{lim s:Nat}{o:Bool}{b:Option Nat}{seen:Sre.Seen}:(m1 text lim s o b seen).step =
  if ((1:Nat):Int) > (lim:Int) - (s:Int) then M.say { m1 text lim s o b seen with seen:=seen.add 24 } false
  else match Sre.run cd text 11 (min 4294967295 ((lim:Int) - (s:Int)).toNat) s 0 ((seen.add 24).add 13) with
   | .error why=>M.stick { m1 text lim s o b seen with seen:=seen.add 24 } why
   | .ok (n,seen')=>if n < 1 then M.say { m1 text lim s o b seen with seen:=seen' } false else M.afterRun { m1 text lim s o b seen with seen:=seen',pos:=s+n } .giveBack n (M.keep { m1 text lim s o b seen with seen:=seen',pos:=s+n } false):=rfl
theorem zj1 {text:Array Nat}{lim s:Nat}{o:Bool}{b:Option Nat}{seen:Sre.Seen}(hl:lim<=1000000)(hs:s<=lim)(h:zcW text (lim - s) s=0):∃ seen',(m1 text lim s o b seen).step=M.say (m1 text lim s o b seen') false:=by
 rw [zj2]
 by_cases h1:((1:Nat):Int) > (lim:Int) - (s:Int)
 ·rw [if_pos h1];exact ⟨_,rfl⟩
 ·rw [if_neg h1]
  have e:=znS (s:=s) hl
  rw [e]
  obtain ⟨s1,e1⟩:=zlw text (lim - s) s 0 ((seen.add 24).add 13)
  rw [e1,h]
  exact ⟨s1,rfl⟩
theorem zlQ {text:Array Nat}{lim s n:Nat}{o:Bool}{b:Option Nat}{seen:Sre.Seen}(hl:lim<=1000000)(hs:s < lim)(h:zcW text (lim - s) s=n+1):∃ seen',(m1 text lim s o b seen).step=m2 text lim s (n+1) o b seen':=by
 rw [zj2,if_neg (by lia)]
 have e:=znS (s:=s) hl
 rw [e]
 obtain ⟨s1,e1⟩:=zlw text (lim - s) s 0 ((seen.add 24).add 13)
 rw [e1,h]
 refine ⟨s1,?_⟩
 show (if 0+(n+1) < 1 then _ else _)=_
 rw [if_neg (by lia),Nat.zero_add]
 rfl
noncomputable def m3 (text:Array Nat)(lim s n:Nat)(o:Bool)(seen:Sre.Seen):M :=
 { code:=cd,text,lim,start:=s,lastStart:=lim,pc:=21,pos:=s+n,handed:=s+n,outermost:=o,marks:=#[some s,some (s+n)],lastmark:=1,lastindex:=1,frames:=[fr2 (s+n) n o 0 (-1),fr s o],weight:=2,seen }
theorem ztK {text:Array Nat}{lim s n:Nat}{o:Bool}{b:Option Nat}{seen:Sre.Seen}:∃ seen',(m2 text lim s n o b seen).step=m3 text lim s n o seen':=⟨seen.add 17,by
 show M.mark { m2 text lim s n o b seen with seen:=seen.add 17 } 1=_
 unfold M.mark m2 m3
 rfl⟩
noncomputable def m4 (text:Array Nat)(lim s n:Nat)(o:Bool)(seen:Sre.Seen):M :=
 { code:=cd,text,lim,start:=s,lastStart:=lim,pc:=5,pos:=s,handed:=s+n,outermost:=o,marks:=#[some s,some (s+n)],lastmark:=1,lastindex:=1,frames:=[],weight:=0,seen,answer:=some true,outcome:=some .matched }
theorem zsc {text:Array Nat}{lim s n:Nat}{o:Bool}{seen:Sre.Seen}:∃ seen',(m3 text lim s n o seen).step.step.step.step=m4 text lim s n o seen':=by
 have e:∃ seen',(m3 text lim s n o seen).step=M.say (m3 text lim s n o seen') true:=by cases o <;> exact ⟨_,rfl⟩
 obtain ⟨s1,e1⟩:=e
 rw [e1]
 exact ⟨s1,rfl⟩
theorem ztG {text:Array Nat}{lim s n:Nat}{o:Bool}{a b:Option Nat}{seen:Sre.Seen}(hl:lim<=1000000)(hs:s < lim)(h:zcW text (lim - s) s=n+1):∃ seen',(m0 text lim s o a b seen).step.step.step.step.step.step.step=m4 text lim s (n+1) o seen':=by
 obtain ⟨s1,e1⟩:=zo3 (text:=text) (lim:=lim) (s:=s) (o:=o) (a:=a) (b:=b) (seen:=seen)
 rw [e1]
 obtain ⟨s2,e2⟩:=zlQ (o:=o) (b:=b) (seen:=s1) hl hs h
 rw [e2]
 obtain ⟨s3,e3⟩:=ztK (text:=text) (lim:=lim) (s:=s) (n:=n+1) (o:=o) (b:=b) (seen:=s2)
 rw [e3]
 exact zsc
theorem next {text:Array Nat}{lim s:Nat}{o:Bool}{a b:Option Nat}{seen:Sre.Seen}(hl:lim<=1000000)(hs:s < lim)(h:zcW text (lim - s) s=0):∃ seen',(m0 text lim s o a b seen).step.step.step=m0 text lim (s+1) false (some s) b seen':=by
 obtain ⟨s1,e1⟩:=zo3 (text:=text) (lim:=lim) (s:=s) (o:=o) (a:=a) (b:=b) (seen:=seen)
 rw [e1]
 obtain ⟨s2,e2⟩:=zj1 (o:=o) (b:=b) (seen:=s1) hl (Nat.le_of_lt hs) h
 rw [e2]
 have:(M.say (m1 text lim s o b s2) false).step=if s < lim then M.attemptFrom { m1 text lim s o b s2 with pc:=5,frames:=[],weight:=0,outermost:=o,mustAdvance:=false } (s+1) false else M.say { m1 text lim s o b s2 with pc:=5,frames:=[],weight:=0,outermost:=o } false:=rfl
 rw [this,if_pos hs]
 exact ⟨_,rfl⟩
noncomputable def m5 (text:Array Nat)(lim s:Nat)(o:Bool)(b:Option Nat)(seen:Sre.Seen):M :=
 { code:=cd,text,lim,start:=s,lastStart:=lim,pc:=5,pos:=s,handed:=s,outermost:=o,marks:=#[some s,b],lastmark:=0,frames:=[],weight:=0,seen,answer:=some false,outcome:=some .failed }
theorem last {text:Array Nat}{lim:Nat}{o:Bool}{a b:Option Nat}{seen:Sre.Seen}(hl:lim<=1000000):∃ seen',(m0 text lim lim o a b seen).step.step.step.step=m5 text lim lim o b seen':=by
 obtain ⟨s1,e1⟩:=zo3 (text:=text) (lim:=lim) (s:=lim) (o:=o) (a:=a) (b:=b) (seen:=seen)
 rw [e1]
 obtain ⟨s2,e2⟩:=zj1 (s:=lim) (o:=o) (b:=b) (seen:=s1) hl (Nat.le_refl _) (by rw [Nat.sub_self];rfl)
 rw [e2]
 have:(M.say (m1 text lim lim o b s2) false).step=if lim < lim then M.attemptFrom { m1 text lim lim o b s2 with pc:=5,frames:=[],weight:=0,outermost:=o,mustAdvance:=false } (lim+1) false else M.say { m1 text lim lim o b s2 with pc:=5,frames:=[],weight:=0,outermost:=o } false:=rfl
 rw [this,if_neg (Nat.lt_irrefl _)]
 exact ⟨_,rfl⟩
theorem zbo {m:M}(h:m.outcome.isSome=true):∀ n,M.runFor n m=m
 | 0=>rfl
 | n+1=>by unfold M.runFor;rw [if_pos h]
theorem zlA {m:M}(h:m.outcome.isSome=true):m.step=m:=by unfold M.step;rw [if_pos h]
theorem z5 (m:M)(n:Nat):M.runFor (n+1) m=M.runFor n m.step:=by
  cases h : m.outcome.isSome with
  | true => rw [zbo h, zlA h, zbo h]
  | false => conv => lhs; unfold M.runFor
             rw [h]; rfl
theorem zbS (a b:Nat)(m:M):M.runFor (a+b) m=M.runFor b (M.runFor a m):=by
 induction a generalizing m with
 | zero=>rw [Nat.zero_add];rfl
 | succ a ih=>rw [Nat.succ_add,z5,z5,ih]
noncomputable def nextWs (text:Array Nat)(lim:Nat):Nat->Nat->Option (Nat × Nat)
 | 0,_=>none
 | d+1,s=>match zcW text (lim - s) s with
  | 0=>nextWs text lim d (s+1)
  | n+1=>some (s,n+1)
theorem zeR {text:Array Nat}{lim d s:Nat}:nextWs text lim (d+1) s=match zcW text (lim - s) s with | 0=>nextWs text lim d (s+1) | n+1=>some (s,n+1):=rfl
def zqs (text:Array Nat)(lim:Nat)(r:Option (Nat × Nat))(m:M):Prop:=match r with
 | some (s,n)=>∃ o seen,m=m4 text lim s n o seen
 | none=>∃ o b seen,m=m5 text lim lim o b seen
theorem zod {text:Array Nat}{lim:Nat}(hl:lim<=1000000):∀ (d s:Nat) (o:Bool) (a b:Option Nat) (seen:Sre.Seen),s+d=lim->∃ N,N<=3*d+7/\zqs text lim (nextWs text lim d s) (M.runFor N (m0 text lim s o a b seen))
 | 0,s,o,a,b,seen,h=>by
  rw [Nat.add_zero] at h
  subst h
  obtain ⟨s1,e⟩:=last (text:=text) (lim:=s) (o:=o) (a:=a) (b:=b) (seen:=seen) hl
  refine ⟨4,by lia,o,b,s1,?_⟩
  rw [<- e]
  rw [show (4:Nat)=3+1 from rfl,z5,show (3:Nat)=2+1 from rfl,z5,show (2:Nat)=1+1 from rfl,z5,show (1:Nat)=0+1 from rfl,z5]
  rfl
 | d+1,s,o,a,b,seen,h=>by
  rw [zeR]
  cases hw:zcW text (lim - s) s with
  | zero =>
   obtain ⟨s1,e⟩:=next (text:=text) (lim:=lim) (o:=o) (a:=a) (b:=b) (seen:=seen) hl (by lia) hw
   obtain ⟨N,hN,hE⟩:=zod hl d (s+1) false (some s) b s1 (by lia)
   refine ⟨3+N,by lia,?_⟩
   rw [zbS,show (3:Nat)=2+1 from rfl,z5,show (2:Nat)=1+1 from rfl,z5,show (1:Nat)=0+1 from rfl,z5]
   show zqs _ _ _ (M.runFor N (m0 text lim s o a b seen).step.step.step)
   rw [e]
   exact hE
  | succ n =>
   obtain ⟨s1,e⟩:=ztG (text:=text) (lim:=lim) (o:=o) (a:=a) (b:=b) (seen:=seen) hl (by lia) hw
   refine ⟨7,by lia,o,s1,?_⟩
   rw [<- e]
   rw [show (7:Nat)=6+1 from rfl,z5,show (6:Nat)=5+1 from rfl,z5,show (5:Nat)=4+1 from rfl,z5,show (4:Nat)=3+1 from rfl,z5,show (3:Nat)=2+1 from rfl,z5,show (2:Nat)=1+1 from rfl,z5,show (1:Nat)=0+1 from rfl,z5]
   rfl
theorem ziq {text:Array Nat}{lim s:Nat}(h:s<=lim)(hd:1<=lim - s):Sre.forSearch cd text 1 s lim false=m0 text lim s true none none (({}:Sre.Seen).add 14):=by
 have e:Sre.forSearch cd text 1 s lim false=if (decide (s > lim) || decide (lim - s < 1))=true then M.say { code:=cd,text,lim,start:=s,pc:=5,pos:=s,handed:=s,marks:=#[none,none],seen:=({}:Sre.Seen).add 14 } false else m0 text lim s true none none (({}:Sre.Seen).add 14):=rfl
 rw [e,if_neg (by simp;lia)]
theorem zhJ {text:Array Nat}{lim:Nat}:Sre.forSearch cd text 1 lim lim false=M.say { code:=cd,text,lim,start:=lim,pc:=5,pos:=lim,handed:=lim,marks:=#[none,none],seen:=({}:Sre.Seen).add 14 } false:=by
 have e:Sre.forSearch cd text 1 lim lim false=if (decide (lim > lim) || decide (lim - lim < 1))=true then M.say { code:=cd,text,lim,start:=lim,pc:=5,pos:=lim,handed:=lim,marks:=#[none,none],seen:=({}:Sre.Seen).add 14 } false else m0 text lim lim true none none (({}:Sre.Seen).add 14):=rfl
 rw [e,if_pos (by simp)]
end Rx
end Mine
end
section
open PySem PySem.Calls PyProof.Rows PySem.W PySem.Builtin PySem.Builtin.Re
namespace Mine
namespace Rx
open PySem.Sre
section
variable {Mo:Model}{A:Around}{E:Value->Shared->Prop}{s:Shared}
theorem zq2 {Q:M->Shared->Prop}:∀ (turns:Nat) (m:M) (N:Nat),N < 4*turns->(M.runFor N m).outcome.isSome=true->Q (M.runFor N m) s->wpAny Mo A (reDrive turns m) Q E s
 | 0,m,N,h,_,_=>absurd h (Nat.not_lt_zero N)
 | turns+1,m,N,h,ho,hq=>by
  unfold reDrive
  show wpAny _ _ (if (M.runFor 4 m).outcome.isSome=true then pure (M.runFor 4 m) else do rule "sre.turn";reDrive turns (M.runFor 4 m)) _ _ _
  by_cases h4:(M.runFor 4 m).outcome.isSome=true
  ·rw [if_pos h4]
   have e:M.runFor 4 m=M.runFor N m:=by
    by_cases hN:N<=4
    ·have:=zbS N (4 - N) m
     rw [Nat.add_sub_cancel' hN,zbo ho] at this
     exact this
    ·have:=zbS 4 (N - 4) m
     rw [Nat.add_sub_cancel' (Nat.le_of_lt (Nat.lt_of_not_le hN)),zbo h4] at this
     exact this.symm
   rw [e]
   exact wpAny_pure hq
  ·rw [if_neg h4]
   have hN:4 < N:=by
    refine Nat.lt_of_not_le fun q=>h4 ?_
    have:=zbS N (4 - N) m
    rw [Nat.add_sub_cancel' q,zbo ho] at this
    rw [this];exact ho
   have e:M.runFor (N - 4) (M.runFor 4 m)=M.runFor N m:=by rw [<- zbS,Nat.add_sub_cancel' (Nat.le_of_lt hN)]
   refine wpAny_bind (wpAny_rule (zq2 turns _ (N - 4) (Nat.sub_lt_right_of_lt_add (Nat.le_of_lt hN) h) (by rw [e];exact ho) (by rw [e];exact hq)))
theorem zd9 {Q:PUnit->Shared->Prop}{m':M}:∀ (l:List Nat),Q PUnit.unit s->wpAny Mo A (forIn l PUnit.unit fun i __s =>
      if m'.seen.has i = true then do
        rule (names.getD i "")
        pure (ForInStep.yield PUnit.unit)
      else pure (ForInStep.yield PUnit.unit)) Q E s
  | [], h => wpAny_pure h
  | i :: l, h => by
    rw [List.forIn_cons]
    cases m'.seen.has i with
    | true => exact wpAny_bind (wpAny_bind (wpAny_rule (wpAny_pure (zd9 l h))))
    | false => exact wpAny_bind (wpAny_pure (zd9 l h))
theorem zho {Q:Option M->Shared->Prop}{m:M}{N:Nat}(hN:N < 1000000000)(h:match (M.runFor N m).outcome with | some .matched=>Q (some (M.runFor N m)) s | some .failed=>Q none s | _=>False):wpAny Mo A (reRunToEnd m) Q E s:=by
 unfold reRunToEnd
 refine wpAny_bind (zq2 (2 ^ 64) m N (by lia) ?_ ?_)
 ·revert h;cases (M.runFor N m).outcome with
  | none=>intro h;exact h.elim
  | some o=>intro _;rfl
 ·generalize M.runFor N m=m' at h
  refine wpAny_bind (zd9 _ ?_)
  cases ho:m'.outcome with
  | none=>rw [ho] at h;exact h.elim
  | some o=>cases o with
   | matched=>rw [ho] at h;exact wpAny_pure h
   | failed=>rw [ho] at h;exact wpAny_pure h
   | stuck w=>rw [ho] at h;exact h.elim
theorem zmw {Q:Option M->Shared->Prop}{t:ReTarget}{st:Nat}(hc:t.code=cd)(hg:t.groups=1)(hl:t.lim<=1000000)(hs:st<=t.lim)
  (h:match nextWs t.text t.lim (t.lim - st) st with | some (p,n)=>∀ o seen,Q (some (m4 t.text t.lim p n o seen)) s | none=>Q none s):wpAny Mo A (reNextFound t st false) Q E s:=by
 unfold reNextFound
 rw [hc,hg]
 by_cases hd:1<=t.lim - st
 ·rw [ziq hs hd]
  obtain ⟨N,hN,hE⟩:=zod (text:=t.text) hl (t.lim - st) st true none none (({}:Sre.Seen).add 14) (by lia)
  refine zho (N:=N) (by lia) ?_
  revert h hE
  cases nextWs t.text t.lim (t.lim - st) st with
  | none=>rintro h ⟨o,b,seen,e⟩;rw [e];exact h
  | some p=>rintro h ⟨o,seen,e⟩;rw [e];exact h o seen
 ·have e:st=t.lim:=by lia
  subst e
  rw [Nat.sub_self] at h
  rw [zhJ]
  exact zho (N:=1) (by lia) h
end
end Rx
end Mine
end
section
open PySem PySem.Calls PyProof.Rows PySem.W PySem.Builtin PySem.Builtin.Re
namespace Mine
namespace Rx
open PySem.Sre
structure zjC (h:Heap)(pat ct:Addr)(code:Array Nat):Prop where
 obj:∃ p t1 t2 t3 t4,h.get? pat=some { cls:=.type "re.Pattern",data:=.fields #[.str p t1,.int 32 t2,.int 1 t3,.none,.none,.ref ct,.int 0 t4] }
 code:∃ o items n,h.get? ct=some o/\o.data=.seq items n/\(items.map reRawOf).map (·.toNat)=code
section
variable {prog:Program}{w:World}{A:Around}{E:Value->Shared->Prop}{s:Shared}
theorem zdf {pat ct:Addr}{code:Array Nat}{x:Str}{t:Tok}{Q:ReTarget->Shared->Prop}(P:zjC s.heap pat ct code)(h:Q ⟨.ref pat,.str x t,code,x.cps,0,1,0,x.cps.size⟩ s):wpAny (model prog w) A (reWholeTarget (.ref pat) (.str x t)) Q E s:=by
 obtain ⟨p,t1,t2,t3,t4,e1⟩:=P.obj
 obtain ⟨o,items,n,e2,d2,hc⟩:=P.code
 have hsi:∀ (Q':Option (Array Value)->Shared->Prop) u,u.heap=s.heap->Q' (some items) u->wpAny (model prog w) A (seqItems? (.ref ct)) Q' E u:=fun Q' u hu hq=>wpAny_seqItems (hu ▸ e2) d2 hq
 unfold reWholeTarget reTextOf reNoCollectionInside reRawItems
 repeat (any_goals (first | assumption | (refine hsi _ _ rfl ?_) | wp_step))
 show Q ⟨_,_,(Array.map reRawOf items).map (·.toNat),_,_,_,_,_⟩ _
 rw [hc]
 exact h
noncomputable abbrev zeh:=Array Value × Nat × Nat × Bool × Int × Bool
noncomputable def zbU (t:ReTarget)(_:Nat)(r:zeh):Sem (ForInStep zeh) :=
 if (!r.2.2.2.2.2)=true then do
  match <- (if ((0:Int) != 0 && decide (r.2.2.2.2.1 ≥ 0))=true then pure none else reNextFound t r.2.1 r.2.2.2.1) with
  | none=>pure (.yield (r.1,r.2.1,r.2.2.1,r.2.2.2.1,r.2.2.2.2.1,true))
  | some m=>do
   let v <- reSlice t.text t.kind r.2.2.1 m.start
   let out' <- forIn (List.range t.groups) (r.1.push v) fun g o=>do
    let v <- reMachineGroup t m (g+1) (pure .none)
    pure (.yield (o.push v))
   pure (.yield (out',m.handed,m.handed,m.handed==m.start,r.2.2.2.2.1+1,r.2.2.2.2.2))
 else pure (.yield (r.1,r.2.1,r.2.2.1,r.2.2.2.1,r.2.2.2.2.1,r.2.2.2.2.2))
theorem zmm {pat ct:Addr}{x:Str}{t:Tok}{Q:PySem.Fin->Shared->Prop}(P:zjC s.heap pat ct cd)
  (h:wpAny (model prog w) A (forIn (List.range (2*x.cps.size+3)) ((#[],0,0,false,0,false):zeh) (zbU ⟨.ref pat,.str x t,cd,x.cps,0,1,0,x.cps.size⟩)) (fun r s'=>r.2.2.2.2.2=true /\
   wpAny (model prog w) A (reSlice x.cps 0 r.2.2.1 x.cps.size) (fun v s''=>wpAny (model prog w) A (newList (r.1.push v).toList) (fun v s₃=>Q (.done (.ret v)) s₃) E s'') E s') E s):wpAny (model prog w) A (Builtin.«re.Pattern.split» ⟨[.ref pat,.str x t],[]⟩) Q E s:=by
 unfold Builtin.«re.Pattern.split»
 have hn:∀ (Q':List (Option Value)->Shared->Prop),Q' [some (.str x t),none] s->wpAny (model prog w) A (reNamed "re.Pattern.split" "split" ["string","maxsplit"] 1 [.str x t] []) Q' E s:=fun Q' hq=>by
  unfold reNamed
  repeat (any_goals (first | assumption | wp_step))
 refine wpAny_bind (hn _ ?_)
 refine wpAny_bind (wpAny_pure ?_)
 refine wpAny_bind (zdf P ?_)
 refine wpAny_bind ?_
 show wpAny _ _ (forIn (List.range (2*x.cps.size+3)) ((#[],0,0,false,0,false):zeh) (zbU ⟨.ref pat,.str x t,cd,x.cps,0,1,0,x.cps.size⟩)) _ _ _
 refine wpAny_mono h (fun r s' hr=>?_) fun _ _ q=>q
 obtain ⟨out,st,la,mu,n,ov⟩:=r
 obtain ⟨ho,hr⟩:=hr
 dsimp only at ho hr ⊢
 subst ho
 refine wpAny_bind (wpAny_mono hr (fun v s'' hv=>?_) fun _ _ q=>q)
 exact wpAny_bind (wpAny_mono hv (fun v s'' hv=>wpAny_pure hv) fun _ _ q=>q)
noncomputable def piece (x:Array Nat)(b e:Nat):List Nat:=(x.extract b e).toList
theorem slice {x:Array Nat}{b e:Nat}{Q:Value->Shared->Prop}(hx:x.size<=1000000)(h:Q (.str (ofL (piece x b e)) s.toks) { s with toks:=s.toks+1 }):wpAny (model prog w) A (reSlice x 0 b e) Q E s:=by
 obtain ⟨hh,g,d,t,os⟩:=s
 unfold reSlice
 rw [if_pos (by rfl)]
 have e1:ofL (piece x b e)=⟨x.extract b e⟩:=rfl
 rw [e1] at h
 exact wpAny_mkStr' h (by
  show (x.extract b e).size<=sizeLine
  have:sizeLine=16777216:=rfl
  rw [Array.size_extract];omega)
inductive zkp:List Value->List (List Nat)->Prop
 | nil:zkp [] []
 | cons {l:List Nat} {t:Tok} {vs ls} (h:zkp vs ls):zkp (.str (ofL l) t::vs) (l::ls)
theorem zkp.append {vs us:List Value}{ls ks:List (List Nat)}(a:zkp vs ls)(b:zkp us ks):zkp (vs++us) (ls++ks):=by
 induction a with
 | nil=>exact b
 | cons _ ih=>exact .cons ih
theorem zkp.vrs {h:Heap}{own:List Addr}{vs:List Value}{ls:List (List Nat)}(a:zkp vs ls):VRs h own (ls.map tx) vs:=by
 induction a with
 | nil=>exact .nil
 | cons _ ih=>exact .cons (.str _ _) ih
theorem zkp.length {vs:List Value}{ls:List (List Nat)}(a:zkp vs ls):vs.length=ls.length:=by
 induction a with
 | nil=>rfl
 | cons _ ih=>simp [ih]
noncomputable def splitGo (x:Array Nat):Nat->Nat->List (List Nat)
 | 0,st=>[piece x st x.size]
 | f+1,st=>match nextWs x x.size (x.size - st) st with
  | none=>[piece x st x.size]
  | some (p,n)=>piece x st p::piece x p (p+n)::splitGo x f (p+n)
theorem splitGo_s {x:Array Nat}{f st:Nat}:splitGo x (f+1) st=match nextWs x x.size (x.size - st) st with | none=>[piece x st x.size] | some (p,n)=>piece x st p::piece x p (p+n)::splitGo x f (p+n):=rfl
theorem skip {t:ReTarget}{r:zeh}{Q:zeh->Shared->Prop}(hr:r.2.2.2.2.2=true):∀ l:List Nat,Q r s->wpAny (model prog w) A (forIn l r (zbU t)) Q E s
 | [],h=>wpAny_pure h
 | i::l,h=>by
  rw [List.forIn_cons]
  have e:zbU t i r=pure (.yield r):=by
   obtain ⟨a,b,c,d,n,o⟩:=r
   dsimp only at hr
   subst hr
   rfl
  rw [e]
  exact wpAny_bind (wpAny_pure (skip hr l h))
theorem zkg (x:Array Nat):∀ m q,zcW x m q<=m
 | 0,q=>Nat.le_refl _
 | m+1,q=>by
  rw [zfg]
  by_cases h:isWs (x.getD q 0)=true
  ·rw [if_pos h];exact Nat.succ_le_succ (zkg x m _)
  ·rw [if_neg h];exact Nat.zero_le _
theorem ziK {x:Array Nat}{lim:Nat}:∀ {d st p n:Nat},st+d=lim->nextWs x lim d st=some (p,n)->st<=p/\1<=n/\p+n<=lim
 | 0,_,_,_,_,e=>by cases e
 | d+1,st,p,n,h,e=>by
  rw [zeR] at e
  cases hw:zcW x (lim - st) st with
  | zero=>rw [hw] at e;have:=ziK (by lia) e;lia
  | succ k =>
   rw [hw] at e;cases e
   have:=zkg x (lim - st) st
   lia
theorem loop {x:Array Nat}{pv sv:Value}(hx:x.size<=1000000):∀ (f:Nat) (l:List Nat) (st:Nat) (n:Int) (out:Array Value) (acc:List (List Nat)) (s:Shared) (Q:zeh->Shared->Prop),st<=x.size->x.size - st<=f->f < l.length->zkp out.toList acc ->
      (∀ out' acc' st' n' k, zkp out'.toList acc' -> acc' ++ [piece x st' x.size] = acc ++ splitGo x f st -> Q (out', st', st', false, n', true) { s with toks := k }) ->
      wpAny (model prog w) A (forIn l ((out, st, st, false, n, false) : zeh) (zbU ⟨pv, sv, cd, x, 0, 1, 0, x.size⟩)) Q E s
  | f, [], _, _, _, _, _, _, _, _, h, _, _ => by simp -iota at h
  | f, i :: l, st, n, out, acc, s, Q, hs, hf, hl, ha, hQ => by
    rw [List.forIn_cons]
    refine wpAny_bind ?_
    unfold zbU
    rw [if_pos (by rfl)]
    dsimp -iota only
    rw [if_neg (by show ¬ (false && _) = true; rw [Bool.false_and]; decide)]
    refine wpAny_bind (zmw rfl rfl hx hs ?_)
    dsimp -iota only
    cases hn : nextWs x x.size (x.size - st) st with
    | none =>
      refine wpAny_pure ?_
      refine skip rfl l ?_
      have := hQ out acc st n s.toks ha (by
        congr 1
        cases f with
        | zero => rfl
        | succ f => rw [splitGo_s]; rw [hn])
      exact this
    | some pn =>
      obtain ⟨p, k⟩ := pn
      intro o seen
      obtain ⟨h1, h2, h3⟩ := ziK (by omega) hn
      refine wpAny_bind (slice hx ?_)
      refine wpAny_bind ?_
      show wpAny _ _ (forIn [0] (out.push _) _) _ _ _
      rw [List.forIn_cons]
      refine wpAny_bind (wpAny_bind ?_)
      show wpAny _ _ (if p + k < p then reWrongSpan else reSlice x 0 p (p + k)) _ _ _
      rw [if_neg (by omega)]
      refine slice hx ?_
      refine wpAny_pure (wpAny_pure (wpAny_pure ?_))
      have hm : (p + k == p) = false := beq_eq_false_iff_ne.mpr (by omega)
      show wpAny _ _ (forIn l (_, p + k, p + k, p + k == p, n + 1, false) _) _ _ _
      rw [hm]
      cases f with
      | zero => omega
      | succ f =>
        refine loop hx f l (p + k) (n + 1) _ (acc ++ [piece x st p, piece x p (p + k)]) _ Q (by omega) (by omega) (by simp -iota at hl; omega) ?_ fun out' acc' st' n' kk hs' ha' => ?_
        · rw [Array.toList_push, Array.toList_push, List.append_assoc]
          exact ha.append (.cons (.cons .nil))
        · refine hQ out' acc' st' n' kk hs' ?_
          rw [ha', List.append_assoc]
          congr 1
          conv => rhs; rw [splitGo_s]
          rw [hn]
          rfl
end
end Rx
end Mine
end
section
open PySem PySem.Calls PyProof.Rows PySem.W PySem.Builtin PySem.Builtin.Re
namespace Mine
namespace Rx
theorem zgK:Slot "re.Pattern" "split" "re.Pattern.split" :=
 .of (owner:="re.Pattern") (n:="split") (by rw [typeLookup_type,builtinLookup_eq_fast];kernel_rfl) (by decide +kernel) (by decide +kernel) (by decide +kernel)
  (by first | exact .inl (by decide +kernel) | exact .inr (by decide +kernel)) (by rw [isSubtype_type];kernel_rfl)
theorem zkK:typeOf (.builtin "re.Pattern.split")=pure (.type "method_descriptor"):=by show builtinType _=_;rw [builtinType_eq_fast];kernel_rfl
theorem zjp:entryFor table "re.Pattern.split" = some Builtin.«re.Pattern.split»:=entryFor_of_tree (by kernel_rfl)
theorem zkC (a b:Value):argsOk "re.Pattern.split" ⟨[a,b],[]⟩:=by unfold argsOk;kernel_rfl
theorem zcR:PlainAttrs "re.Pattern" :=
 ⟨⟨"object.__getattribute__",by rw [typeLookup_type,builtinLookup_eq_fast];kernel_rfl,by decide +kernel⟩,by rw [typeLookup_type,builtinLookup_eq_fast];kernel_rfl⟩
inductive PatOk (g:Gl)(pat:Addr):Prop
 | mk (ct:_) (o:_) (items:_) (n:_) (p:_) (t1:_) (t2:_) (t3:_) (t4:_) (h1:g.h₁.get? pat=some { cls:=.type "re.Pattern",data:=.fields #[.str p t1,.int 32 t2,.int 1 t3,.none,.none,.ref ct,.int 0 t4] }) (h2:g.h₁.get? ct=some o) (h3:o.cls≠.none) (h4:o.data=.seq items n) (h5:(items.map reRawOf).map (·.toNat)=cd):PatOk g pat
section
variable {g:Gl}{A:Around}{F:Fm}{σ:AS}{s:Shared}{P:PV->AS->Prop}
theorem PatOk.now {pat:Addr}(x:PatOk g pat)(S:Sat g F σ s):∃ ct,zjC s.heap pat ct cd:=by
 obtain ⟨ct,o,items,n,p,t1,t2,t3,t4,e1,e2,hc,d,e⟩:=x
 exact ⟨ct,⟨p,t1,t2,t3,t4,S.old.get_of_cls e1 (fun q=>nomatch q)⟩,⟨o,items,n,S.old.get_of_cls e2 hc,d,e⟩⟩
theorem MT_split {pat:Addr}(x:PatOk g pat):MT g A F (.raw (.ref pat)) "split" "re.Pattern.split" σ:=fun s v S hv=>by
 cases hv
 intro pl Q E k
 obtain ⟨ct,hP⟩:=x.now S
 obtain ⟨p,t1,t2,t3,t4,e1⟩:=hP.obj
 refine getMethod_builtin (T:="re.Pattern") ⟨_,e1,rfl⟩ zcR zgK zkK (fun a e=>by cases e;exact ⟨_,e1,rfl⟩) (k _)
noncomputable def splitL (l:List Nat):List (List Nat):=splitGo l.toArray l.length 0
theorem splitGo_len {x:Array Nat}:∀ (f st:Nat),(splitGo x f st).length<=2*f+1
 | 0,st=>Nat.le_refl 1
 | f+1,st=>by
  rw [splitGo_s]
  cases nextWs x x.size (x.size - st) st with
  | none=>simp
  | some p=>have:=splitGo_len (x:=x) f (p.1+p.2);simp only [List.length_cons];lia
set_option tactic.hygienic true in
theorem CL_split {pat:Addr}{l:List Nat}(x:PatOk g pat)(hl:l.length<=100000)(h:∀ D,P (.raw (.ref D)) ⟨σ.loc,(D,.list ((splitL l).map tx))::σ.zone⟩):CL g A F (.builtin "re.Pattern.split") [.raw (.ref pat),tx l] σ P:=fun s vs S hvs Q E k=>by
 cases hvs with | cons hv hs'=>cases hs' with | cons hu hs'=>cases hs';cases hv;cases hu;(
  rename_i t
  obtain ⟨ct,hP⟩:=x.now S
  obtain ⟨p,t1,t2,t3,t4,e1⟩:=hP.obj
  refine wpAny_call_entry zgK ⟨_,e1,rfl⟩ zjp ?_ (zkC _ _)
  have hcs:(ofL l).cps.size=l.length:=by simp [ofL]
  refine zmm hP ?_
  refine loop (x:=(ofL l).cps) (by lia) l.length _ 0 0 #[] [] s _ (by lia) (by lia) (by simp;lia) .nil fun out' acc' st' n' kk hs2 ha=>?_
  refine ⟨rfl,?_⟩
  dsimp only
  refine slice (by lia) ?_
  have hst:zkp (out'.push (.str (ofL (piece (ofL l).cps st' (ofL l).cps.size)) kk)).toList (splitL l):=by
   rw [Array.toList_push]
   have:=hs2.append (.cons (l:=piece (ofL l).cps st' (ofL l).cps.size) (t:=kk) .nil)
   rw [ha] at this
   exact this
  have hlen:=splitGo_len (x:=(ofL l).cps) l.length 0
  have hlen2:=hst.length
  refine wpAny_newList ?_ (by have e:sizeLine=16777216:=rfl;rw [hlen2];show (splitGo _ _ _).length<=_;show (splitGo (ofL l).cps l.length 0).length<=_;lia)
  obtain ⟨S',st⟩:=((S.toks kk).toks (kk+1)).newList (ps:=(splitL l).map tx) hst.vrs
  exact ⟨_,rfl,k _ _ _ _ (h _) S' (.raw _) (Stp.trans (Stp.toks (n:=kk+1)) st)⟩)
end
end Rx
end Mine
end
section
open PySem PySem.Calls PyProof.Rows PySem.W PySem.Builtin PySem.Builtin.Str
namespace Mine
section
variable {g:Gl}{A:Around}{F:Fm}{σ:AS}{s:Shared}{P:PV->AS->Prop}
theorem VRs.strValues {h:Heap}{own:List Addr}:∀ l:List (PySem.Str × Tok),VRs h own ((l.map (·.1)).map PV.str) (strValues l)
 | []=>.nil
 | (x,t)::r=>.cons (.str _ _) (VRs.strValues r)
theorem zkN {l:List Nat}:MT g A F (tx l) "split" "str.split" σ:=ziv PySem.F.slot_str_split PySem.F.type_str_split
set_option tactic.hygienic true in
theorem ziY {l sep:List Nat}(hl:l.length<=1000000)(hs:sep≠[])(h:P (.lst ((Txt.split (ofL l) (ofL sep)).map PV.str)) σ):CL g A F (.builtin "str.split") [tx l,tx sep] σ P:=fun s vs S hvs Q E k=>by
 cases hvs with | cons hv hs'=>cases hs' with | cons hu hs'=>cases hs';cases hv;cases hu;(
  rename_i t u
  have hy:((ofL sep).length==0)=false:=by rw [zu];cases sep with | nil=>exact absurd rfl hs | cons _ _=>rfl
  have fin:∀ (ps:List (PySem.Str × Tok)) (tk:Nat),ps.map (·.1)=Txt.split (ofL l) (ofL sep)->Q (.ref s.heap.objs.size) { s with heap:=s.heap.push { cls:=.type "list",data:=.seq (strValues ps).toArray },toks:=tk }:=fun ps tk e=>by
   have S₂:=(S.push { cls:=.type "list",data:=.seq (strValues ps).toArray }).toks tk
   have st₂:Stp [] σ.own s σ.own { s with heap:=s.heap.push { cls:=.type "list",data:=.seq (strValues ps).toArray },toks:=tk }:=(Stp.push { cls:=.type "list",data:=.seq (strValues ps).toArray }).trans .toks
   have hv:VR (s.heap.push { cls:=.type "list",data:=.seq (strValues ps).toArray }) σ.own (.lst ((Txt.split (ofL l) (ofL sep)).map PV.str)) (.ref s.heap.objs.size):=by
    have hv':VRs s.heap σ.own ((Txt.split (ofL l) (ofL sep)).map PV.str) (strValues ps):=by rw [<- e];exact VRs.strValues ps
    exact VR.newLst S hv'
   exact k _ _ σ _ h S₂ hv st₂
  have hlen:=zu l
  cases h1:(decide ((ofL l).length < (ofL sep).length) || decide (strKind (ofL l) < strKind (ofL sep)))
  ·cases hf:(occurrences (ofL l) (ofL sep) 0 (ofL l).length ((ofL l).length+1)).isEmpty
   ·refine call_meets PySem.F.slot_str_split (typeIs_str _ _ _) PySem.F.entry_str_split (PySem.F.args_str_split_2 _ _) (meets_str_split_sep _ _ t u h1 hy hf ?_ ?_) ?_
    ·have:sizeLine=16777216:=rfl
     lia
    ·have:sizeLine=16777216:=rfl
     have h2:=StrLaws.occ_length_le (ofL l) (ofL sep) 0 (ofL l).length ((ofL l).length+1)
     rw [length_partsBetween]
     lia
    ·show wants Q E _ { s with toks:=_,heap:=s.heap.push { cls:=.type "list",data:=.seq (strsFrom s.toks (partsBetween (ofL l) (occurrences (ofL l) (ofL sep) 0 (ofL l).length ((ofL l).length+1)) (ofL sep).length)).toArray } }
     rw [strsFrom_eq]
     exact fin (numbered s.toks _) _ ((numbered_texts _ _).trans ((if_neg (ne_true_of_eq_false h1)).trans (if_neg (ne_true_of_eq_false hf))).symm)
   ·exact call_meets PySem.F.slot_str_split (typeIs_str _ _ _) PySem.F.entry_str_split (PySem.F.args_str_split_2 _ _) (meets_str_split_not_found _ _ t u h1 hy hf)
     (fin [(ofL l,t)] s.toks ((if_neg (ne_true_of_eq_false h1)).trans (if_pos hf)).symm)
  ·exact call_meets PySem.F.slot_str_split (typeIs_str _ _ _) PySem.F.entry_str_split (PySem.F.args_str_split_2 _ _) (meets_str_split_cannot_occur _ _ t u h1)
    (fin [(ofL l,t)] s.toks (if_pos h1).symm))
end
end Mine
end
section
open PySem PySem.Calls PyProof.Rows PySem.W PySem.Builtin
namespace Mine
namespace By
section
variable {prog:Program}{w:World}{A:Around}{E:Value->Shared->Prop}{s:Shared}
theorem zuy {pl:Sem Bool}{Q:Value × List Value->Shared->Prop}(h:Q (.builtin "bytes.maketrans",[]) { s with toks:=s.toks+1 }):wpAny (model prog w) A (getMethod (.type "bytes") "maketrans" pl) Q E s:=by
 have X:PySem.W.Frag.In [] s.heap:=fun a o e=>by cases e
 have hstub:opaqueClassAbove (.type "bytes")=pure none:=by unfold opaqueClassAbove;dsimp only;rw [show Manifest.isStub "bytes" = false by decide +kernel];rfl
 have ht:typeOf (.type "bytes")=pure (.type "type"):=by first | rfl | kernel_rfl
 have L0:Looks (model prog w) s.heap (typeOf (.type "bytes")) (.type "type"):=Looks.of_pure ht
 have hg:findIn [] (.type "type") "__getattribute__" = some (some (.builtin "type.__getattribute__")):=by rfl
 unfold getMethod specialOf
 refine wpAny_bind (wpAny_bind (L0.here ((looks_findIn X hg).here ?_)))
 dsimp only
 rw [if_pos canon_tga]
 refine wpAny_bind (wpAny_mono (Q:=fun v=>Q (v,[])) (E:=E) ?_ (fun _ _ z=>wpAny_pure z) fun _ _ z=>z)
 have LO:Looks (model prog w) s.heap (opaqueClassAbove (.type "bytes")) none:=Looks.of_pure hstub
 refine cls_open X LO L0 hg (looks_hook X (r:=none) (by rfl)) (by show subIn [] _ _=_;rfl) (r:=.val (.builtin "bytes.maketrans")) (by rfl) ?_
 refine wpAny_pure ?_
 exact handed_on rfl h
noncomputable def transTab0 (a b:List UInt8):Array UInt8:=(a.zip b).foldl (fun t (p:UInt8 × UInt8)=>t.setIfInBounds p.1.toNat p.2) ((Array.range 256).map (·.toUInt8))
theorem zc6 (a b:List UInt8):(transTab0 a b).size=256:=by
 unfold transTab0
 have:∀ (l:List (UInt8 × UInt8)) (t:Array UInt8),(l.foldl (fun t (p:UInt8 × UInt8)=>t.setIfInBounds p.1.toNat p.2) t).size=t.size:=by
  intro l
  induction l with
  | nil=>intro t;rfl
  | cons p r ih=>intro t;rw [List.foldl_cons,ih];simp
 rw [this];simp
theorem zfq {a b:Array UInt8}{t u:Tok}{Q:Value->Shared->Prop}(hs:a.size=b.size)(h:∀ tk,Q (.bytes (transTab0 a.toList b.toList) s.toks) { s with toks:=tk }):wpAny (model prog w) A (call (.builtin "bytes.maketrans") [.bytes a t,.bytes b u]) Q E s:=by
 refine wpAny_call (codeAny_call_builtin (by decide +kernel) (entryFor_of_tree (by kernel_rfl):entryFor table "bytes.maketrans" = some Builtin.«bytes.maketrans») (wpAny_of_eq (a:=()) (by kernel_rfl) ?_))
 have hb:∀ (x:Array UInt8) (t:Tok) (id:String),Bytes.bytesLike id (.bytes x t)=pure x:=fun x t id=>by unfold Bytes.bytesLike;rw [KBy.buffer_eq];rfl
 unfold Builtin.«bytes.maketrans» Bytes.maketransM
 refine wpAny_bind (wpAny_of_eq (a:=()) (by first | rfl | kernel_rfl) ?_)
 refine wpAny_bind (wpAny_of_eq (a:=()) (by first | rfl | kernel_rfl) ?_)
 refine wpAny_bind (wpAny_of_eq (hb _ _ _) ?_)
 refine wpAny_bind (wpAny_of_eq (hb _ _ _) ?_)
 have hne:(a.size != b.size)=false:=by rw [hs];exact bne_self_eq_false _
 rw [hne]
 have e:(a.toList.zip b.toList).foldl (fun t (x:UInt8 × UInt8)=>t.setIfInBounds x.1.toNat x.2) ((Array.range 256).map (·.toUInt8))=transTab0 a.toList b.toList:=rfl
 show wpAny _ _ (mkBytes (transTab0 a.toList b.toList)>>=fun v=>ret v) _ _ _
 refine wpAny_bind (wpAny_mkBytes ?_ ?_)
 ·exact wpAny_pure (h _)
 ·rw [zc6];decide
@[irreducible] noncomputable def transTab (a b:List UInt8):Array UInt8:=transTab0 a b
theorem transTab_size (a b:List UInt8):(transTab a b).size=256:=by
 unfold transTab
 exact zc6 a b
theorem zgq {a b:Array UInt8}{t u:Tok}{Q:Value->Shared->Prop}(hs:a.size=b.size)(h:∀ tk,Q (.bytes (transTab a.toList b.toList) s.toks) { s with toks:=tk }):wpAny (model prog w) A (call (.builtin "bytes.maketrans") [.bytes a t,.bytes b u]) Q E s :=
 zfq hs fun tk=>by have:=h tk;unfold transTab at this;exact this
theorem zfB {a tb:Array UInt8}{t u:Tok}{Q:Value->Shared->Prop}(hs:tb.size=256)(hz:a.size<=16777216)(h:∀ t' tk,Q (.bytes (a.map fun c=>tb.getD c.toNat c) t') { s with toks:=tk }):wpAny (model prog w) A (call (.builtin "bytes.translate") [.bytes a t,.bytes tb u]) Q E s:=by
 refine wpAny_call (codeAny_call_builtin (by decide +kernel) (entryFor_of_tree (by kernel_rfl):entryFor table "bytes.translate" = some Builtin.«bytes.translate») (wpAny_of_eq (a:=()) (by kernel_rfl) ?_))
 have hb:∀ (x:Array UInt8) (t:Tok) (id:String),Bytes.bytesLike id (.bytes x t)=pure x:=fun x t id=>by unfold Bytes.bytesLike;rw [KBy.buffer_eq];rfl
 unfold Builtin.«bytes.translate» Bytes.translateM
 have fin:∀ (m:Sem (Option (Array UInt8))) (Q':Fin->Shared->Prop) (E':Value->Shared->Prop) (K':Option (Array UInt8)->Sem Fin),m=pure (some tb)->wpAny (model prog w) A.in1 (K' (some tb)) Q' E' s->wpAny (model prog w) A.in1 (m>>=K') Q' E' s:=fun m Q' E' K' e h'=>by rw [e];exact wpAny_bind (wpAny_pure h')
 repeat (any_goals (first | assumption | with_reducible refine wpAny_of_eq (hb _ _ _) ?_ | wp_step))
 have ef:Array.filter (fun (x:UInt8)=>!(#[]:Array UInt8).contains x) a=a:=by simp
 rw [ef]
 show wpAny _ _ (if ((a.map fun c=>tb.getD c.toNat c)==a)=true then _ else _) _ _ _
 by_cases he:((a.map fun c=>tb.getD c.toNat c)==a)=true
 ·rw [if_pos he]
  have e:=eq_of_beq he
  refine wpAny_bind (wpAny_rule ?_)
  repeat (any_goals (first | assumption | wp_step))
  have:=h t s.toks
  rw [e] at this
  exact this
 ·rw [if_neg he]
  refine wpAny_bind ?_
  show wpAny _ _ (mkBytes (a.map fun c=>tb.getD c.toNat c)) _ _ _
  refine wpAny_mkBytes (wpAny_pure (h _ _)) (by rw [Array.size_map];have:sizeLine=16777216:=rfl;lia)
end
theorem zgx:Slot "bytes" "translate" "bytes.translate" :=
 .of (owner:="bytes") (n:="translate") (by rw [typeLookup_type,builtinLookup_eq_fast];kernel_rfl) (by decide +kernel) (by decide +kernel) (by decide +kernel)
  (by first | exact .inl (by decide +kernel) | exact .inr (by decide +kernel)) (by rw [isSubtype_type];kernel_rfl)
theorem zga:typeOf (.builtin "bytes.translate")=pure (.type "method_descriptor"):=by show builtinType _=_;rw [builtinType_eq_fast];kernel_rfl
theorem zcR:PlainAttrs "bytes" :=
 ⟨⟨"bytes.__getattribute__",by rw [typeLookup_type,builtinLookup_eq_fast];kernel_rfl,by decide +kernel⟩,by rw [typeLookup_type,builtinLookup_eq_fast];kernel_rfl⟩
section
variable {g:Gl}{A:Around}{F:Fm}{σ:AS}{s:Shared}{P:PV->AS->Prop}
theorem zf7 {prog:Program}{w:World}{A:Around}{E:Value->Shared->Prop}{s:Shared}{b:Array UInt8}{t:Tok}{pl:Sem Bool}{Q:Value × List Value->Shared->Prop}(h:Q (.builtin "bytes.translate",[.bytes b t]) s):wpAny (model prog w) A (getMethod (.bytes b t) "translate" pl) Q E s:=by
 have hT:s.TypeIs (.bytes b t) "bytes":=PySem.W.typeIs_bytes _ _ _
 have hn:∀ a,Value.bytes b t=.ref a->∃ o,s.heap.get? a=some o/\o.dict=none:=fun _ e=>nomatch e
 with_reducible exact getMethod_builtin hT zcR zgx zga hn h
theorem MT_translate {b:Array UInt8}:MT g A F (.byt b) "translate" "bytes.translate" σ:=by
 intro s v S hv
 cases hv
 intro pl Q E k
 exact zf7 (k s.toks)
theorem CL_translate {b tb:Array UInt8}(hs:tb.size=256)(hz:b.size<=16777216)(h:P (.byt (b.map fun c=>tb.getD c.toNat c)) σ):CL g A F (.builtin "bytes.translate") [.byt b,.byt tb] σ P:=fun s vs S hvs Q E k=>by
 cases hvs with | cons hv hs'=>cases hs' with | cons hu hs'=>cases hs';cases hv;cases hu;exact zfB hs hz fun t' tk=>k _ _ σ _ h (S.toks _) (.byt _ _) .toks
theorem CL_maketrans {a b:Array UInt8}(hs:a.size=b.size)(h:P (.byt (transTab a.toList b.toList)) σ):CL g A F (.builtin "bytes.maketrans") [.byt a,.byt b] σ P:=fun s vs S hvs Q E k=>by
 cases hvs with | cons hv hs'=>cases hs' with | cons hu hs'=>cases hs';cases hv;cases hu;exact zgq hs fun tk=>k _ _ σ _ h (S.toks _) (.byt _ _) .toks
abbrev zfO (g:Gl)(A:Around)(F:Fm)(P:PV->AS->Prop):List PV->AS->Prop:=fun ps σ₂=>CL g A F (.builtin "bytes.maketrans") ps σ₂ P
abbrev ze3 (g:Gl)(A:Around)(F:Fm)(P:PV->AS->Prop)(args:List Expr):PV->AS->Prop:=fun p σ₁=>p=.raw (.type "bytes")/\EVs g A F args σ₁ (zfO g A F P)
theorem EV_maketrans {o:Expr}{apos pos:Pos}{args:List Expr}{pl:Sem Bool}
  (h:EV g A F o σ (ze3 g A F P args))
  (he:eval (.Call (.Attribute o "maketrans" apos) args [] pos) F.env=(do
   let ov <- eval o F.env
   standAt apos.atName
   let (f,first) <- holding [ov] (getMethod ov "maketrans" pl)
   callWith pos f first (backTo pos (starEach args F.env)) []):=by left)
  (hns:(backTo pos (starEach args F.env)).any (·.1)=false:=by left):EV g A F (.Call (.Attribute o "maketrans" apos) args [] pos) σ P:=by
 intro s S Q E k
 refine MethodCall_ (pl:=pl) (h s S _ E fun v p σ₁ s₁ h₁ S₁ hv st₁=>?_) he
 obtain ⟨rfl,h₁⟩:=h₁
 cases hv
 refine zuy ?_
 refine callWith_builtin hns (zaa h₁ hns (S₁.toks (s₁.toks+1)) fun vs ps σ₂ s₂ h₂ S₂ hvs st₂=>?_)
 exact h₂ s₂ vs S₂ hvs Q E fun a b σ' s' h' S' hr st'=>k a b σ' s' h' S' hr (st₁.trans (Stp.trans .toks (st₂.trans st')))
inductive zdD (g:Gl)(A:Around)(F:Fm)(P:PV->AS->Prop)(kwn:Str)(f:Addr)(ps:List PV)(q:PV)(σ₃:AS):Prop
 | mk (kv:Value) (h1:q=.raw kv) (h2:zpn g A F (.ref f) ps [(kwn,kv)] σ₃ P):zdD g A F P kwn f ps q σ₃
abbrev zhQ (g:Gl)(A:Around)(F:Fm)(P:PV->AS->Prop)(kwe:Expr)(kwn:Str)(f:Addr):List PV->AS->Prop:=fun ps σ₂=>EV g A F kwe σ₂ (zdD g A F P kwn f ps)
abbrev zhj (g:Gl)(A:Around)(F:Fm)(P:PV->AS->Prop)(a:Expr)(kwe:Expr)(kwn:Str)(f:Addr):PV->AS->Prop:=fun p σ₁=>p=.raw (.ref f)/\EVs g A F [a] σ₁ (zhQ g A F P kwe kwn f)
theorem EV_Call_kw {func a kwe:Expr}{kwn:Str}{kwp pos:Pos}{f:Addr}{fd:FuncData}{body:List Stmt}(hf:zdB g f fd body)
  (h:EV g A F func σ (zhj g A F P a kwe kwn f))
  (he:eval (.Call func [a] [⟨some kwn,kwe,kwp⟩] pos) F.env=(do callWith pos (<- eval func F.env) [] (backTo pos (starEach [a] F.env)) [(some kwn,do let v <- eval kwe F.env;standAt pos;pure v)]):=by left)
  (hst:starEach [a] F.env=(false,eval a F.env)::starEach [] F.env:=by left):EV g A F (.Call func [a] [⟨some kwn,kwe,kwp⟩] pos) σ P:=by
 intro s S Q E k
 rw [he]
 refine wpAny_bind (h s S _ E fun v p σ₁ s₁ h₁ S₁ hv st₁=>?_)
 obtain ⟨rfl,h₁⟩:=h₁
 cases hv
 obtain ⟨o,e,hd⟩:=hf.now S₁
 refine callWith_function_kw (o:=o) (fd:=fd) ?_
 have hh:=h₁ pos s₁ S₁
 rw [hst] at hh ⊢
 refine evalArgs_kw rfl (hh _ E fun vs ps σ₂ s₂ h₂ S₂ hvs st₂=>?_)
 refine evalAll_cons ?_
 refine wpAny_bind (h₂ s₂ S₂ _ E fun u q σ₃ s₃ h₃ S₃ hu st₃=>?_)
 obtain ⟨kv,rfl,h₃⟩:=h₃
 cases hu
 refine wpAny_bind (wpAny_standAt (wpAny_pure (evalAll_nil ?_)))
 obtain ⟨o',e',hd'⟩:=hf.now S₃
 have:o'=o:=by
  obtain ⟨o₀,e₀,hc₀,hd₀⟩:=hf.at_
  have q1:=S₃.old.get_of_cls e₀ hc₀
  have q2:=S₁.old.get_of_cls e₀ hc₀
  exact (Option.some.inj (e'.symm.trans q1)).trans (Option.some.inj (e.symm.trans q2)).symm
 subst this
 refine ⟨⟨e',hd⟩,?_⟩
 exact wpAny_call (h₃ s₃ vs S₃ (hvs.mono (S₂.kp st₃)) _ fun a b σ' s' h' S' hr st'=>k a b σ' s' h' S' hr (st₁.trans (st₂.trans (st₃.trans st'))))
end
end By
end Mine
end
section
open PySem PySem.Calls PyProof.Rows PySem.W PySem.Builtin PySem.Builtin.Re
namespace Mine
section
variable {g:Gl}{A:Around}{F:Fm}{σ:AS}{s:Shared}{P:PV->AS->Prop}
noncomputable abbrev zl0 (fd:FuncData):Obj:={ cls:=.type "function",data:=.func fd }
theorem zlq {params:Arguments}{body:Expr}{scope:Scope}{pos:Pos}{c Pt:Addr}(hB:zn6 g)(T:zbi g c Pt)(hcode:F.env.code=.ref c)(hk:z0 F)(h:∀ L fd,P (.raw (.ref L)) ⟨σ.loc,(L,.obj (zl0 fd))::σ.zone⟩)
  (hdef:defaultsOf params F.env=([],[]):=by left) (hkwo:params.kwonlyargs=[]:=by left) (hclos:closureFor scope F.env=pure []:=by left):EV g A F (.Lambda params body scope pos) σ P:=by
 intro s S Q E k
 refine kla_eval hdef ?_
 rw [makeFunction_eq,hkwo]
 show wpAny _ A (makeTail _ _ _ _ _ _ .none .none none _ _) _ _ _
 unfold makeTail
 rw [hclos]
 refine wpAny_bind (wpAny_pure (wpAny_bind (wpAny_pure ?_)))
 refine wpAny_bind (zeB T S hcode fun code s₁ S₁ st₁ hx₁ hg₁=>?_)
 obtain ⟨mg,om,bm,ob,b1,b2,b3,b4,b5,b6,b7,b8,b9⟩:=hB
 rw [hk.gl]
 refine wpAny_bind (wpAny_builtinsFor (zcw S₁.old b1 b2 b3) b4 b5 (S₁.old.get_of_cls b6 (by rw [b7];simp)) b7 b8 b9 ?_)
 refine wpAny_bind (wpAny_nsGet (zcw S₁.old b1 b2 b3) ?_)
 refine wpAny_bind (wpAny_pure ?_)
 obtain ⟨h₁,gg,dd,tk,os⟩:=s₁
 refine wpAny_newObj_type ?_
 obtain ⟨S₂,st₂⟩:=S₁.newObj (zl0 _) (fun _ q=>nomatch q) (fun q=>nomatch q)
 exact k _ _ _ _ (h _ _) S₂ (.raw _) (st₁.trans st₂)
end
namespace Rx
open PySem.Sre
noncomputable def cd2:Array Nat:=#[14,14,4,1,1,9,0,64,0,1342177280,0,0,0,0,0,17,0,13,11,9,0,64,0,1342177280,0,0,0,0,0,17,1,1]
noncomputable def none2 (l:List Nat):Bool:=match (M.runFor 40 (forSearch cd2 l.toArray 1 0 l.length false)).outcome with
 | some .failed=>true
 | _=>false
end Rx
end Mine
end
section
open PySem PySem.Calls PyProof.Rows PySem.W PySem.Builtin PySem.Builtin.Re
namespace Mine
namespace Rx
open PySem.Sre
theorem zhB:Slot "re.Pattern" "sub" "re.Pattern.sub" :=
 .of (owner:="re.Pattern") (n:="sub") (by rw [typeLookup_type,builtinLookup_eq_fast];kernel_rfl) (by decide +kernel) (by decide +kernel) (by decide +kernel)
  (by first | exact .inl (by decide +kernel) | exact .inr (by decide +kernel)) (by rw [isSubtype_type];kernel_rfl)
theorem znl:typeOf (.builtin "re.Pattern.sub")=pure (.type "method_descriptor"):=by show builtinType _=_;rw [builtinType_eq_fast];kernel_rfl
theorem zmH:entryFor table "re.Pattern.sub" = some Builtin.«re.Pattern.sub»:=entryFor_of_tree (by kernel_rfl)
theorem zkJ:entryFor table "re.Pattern.sub.loop" = some Builtin.«re.Pattern.sub.loop»:=entryFor_of_tree (by kernel_rfl)
theorem znb (a b c:Value):argsOk "re.Pattern.sub" ⟨[a,b,c],[]⟩:=by unfold argsOk;kernel_rfl
theorem zow:typeLookup (.type "function") "__call__" = pure (some (.builtin "function.__call__")):=by rw [typeLookup_type,builtinLookup_eq_fast];kernel_rfl
inductive Pat2Ok (g:Gl)(pat:Addr):Prop
 | mk (ct:_) (o:_) (items:_) (n:_) (p:_) (t1:_) (t2:_) (t3:_) (t4:_) (h1:g.h₁.get? pat=some { cls:=.type "re.Pattern",data:=.fields #[.str p t1,.int 32 t2,.int 1 t3,.none,.none,.ref ct,.int 0 t4] }) (h2:g.h₁.get? ct=some o) (h3:o.cls≠.none) (h4:o.data=.seq items n) (h5:(items.map reRawOf).map (·.toNat)=cd2):Pat2Ok g pat
section
variable {prog:Program}{w:World}{A:Around}{E:Value->Shared->Prop}{s:Shared}
noncomputable abbrev zlY:Int:=0
theorem znz {pat ct D:Addr}{l:List Nat}{t:Tok}{L:Addr}{n:Nat}{Q:PySem.Fin->Shared->Prop}(P:zjC s.heap pat ct cd2)(hl:1<=l.length/\l.length<=1000)(hn:none2 l=true)(hD:s.heap.get? D=some (zam #[] n))
  (h:∀ h' t' tk,Heap.SameBut D s.heap h'->Q (.done (.ret (.str (ofL l) t'))) { s with heap:=h',toks:=tk }) :
  wpAny (model prog w) A (Builtin.«re.Pattern.sub.loop» ⟨[.ref pat,.str (ofL l) t,.ref L,rawInt 1,rawInt 0,rawInt 0,rawInt 0,rawInt 0,.bool false,.ref D,.bool false],[]⟩) Q E s:=by
 have hcs:(ofL l).cps.size=l.length:=by simp [ofL]
 unfold Builtin.«re.Pattern.sub.loop»
 refine wpAny_bind (zdf P ?_)
 refine wpAny_bind (m:=reNextFound ⟨.ref pat,.str (ofL l) t,cd2,(ofL l).cps,0,1,0,(ofL l).cps.size⟩ 0 false) ?_
 have hmach:∀ (Q':Option M->Shared->Prop),Q' none s->wpAny (model prog w) A (reNextFound ⟨.ref pat,.str (ofL l) t,cd2,(ofL l).cps,0,1,0,(ofL l).cps.size⟩ 0 false) Q' E s:=fun Q' hq=>by
  unfold reNextFound
  refine zho (N:=40) (by decide) ?_
  unfold none2 at hn
  rw [hcs]
  show match (M.runFor 40 (forSearch cd2 l.toArray 1 0 l.length false)).outcome with | some .matched=>_ | some .failed=>_ | _=>_
  revert hn
  cases (M.runFor 40 (forSearch cd2 l.toArray 1 0 l.length false)).outcome with
  | none=>intro q;cases q
  | some o=>cases o with
   | matched=>intro q;cases q
   | failed=>intro _;exact hq
   | stuck _=>intro q;cases q
 refine hmach _ ?_
 dsimp only
 rw [if_pos (by show (0:Nat) < (ofL l).cps.size;lia)]
 have e0:∀ tk:Tok,piece (ofL l).cps 0 (ofL l).cps.size=l:=fun _=>by unfold piece;simp [ofL]
 have hpiece:piece (ofL l).cps (zlY:Int).toNat (ofL l).cps.size=l:=by unfold piece;simp [ofL,zlY]
 refine wpAny_bind (slice (by lia) ?_)
 refine wpAny_bind (wpAny_updateSeq hD rfl ?_ (by have:sizeLine=16777216:=rfl;simp [sizeLine]) (by simp [sizeLine]))
 have hs:Heap.SameBut D s.heap (s.heap.update D (Obj.mapSeq fun x=>x.push (.str (ofL (piece (ofL l).cps (0:Int).toNat (ofL l).cps.size)) s.toks))):=.update ..
 have hg:=Heap.get?_update_self (Obj.mapSeq fun x=>x.push (.str (ofL (piece (ofL l).cps (0:Int).toNat (ofL l).cps.size)) s.toks)) hD (by simp [Obj.mapSeq,Obj.isFreed])
 refine wpAny_bind (slice (by lia) ?_)
 have hm:∃ m',Obj.mapSeq (fun x=>x.push (.str (ofL (piece (ofL l).cps (0:Int).toNat (ofL l).cps.size)) s.toks)) (zam #[] n)=zam #[.str (ofL (piece (ofL l).cps (0:Int).toNat (ofL l).cps.size)) s.toks] m':=⟨_,rfl⟩
 obtain ⟨m',hm⟩:=hm
 have hg':=hg.trans (congrArg some hm)
 refine wpAny_bind (m:=seqItems? (.ref D)) (wpAny_seqItems hg' rfl ?_)
 rw [if_neg (by show ¬ (false=true);decide)]
 refine wpAny_bind ?_
 show wpAny _ _ (call (.builtin "str.join") [.str (ofL (piece (ofL l).cps 0 0)) _,.ref D]) _ _ _
 have hp0:piece (ofL l).cps 0 0=[]:=by unfold piece;simp
 have hpl:piece (ofL l).cps (0:Int).toNat (ofL l).cps.size=l:=hpiece
 rw [hp0]
 rw [hpl] at hg' hs ⊢
 refine join_list ⟨_,hg',rfl,_,rfl⟩ (ys:=[ofL l]) (.cons _ _ .nil) ?_ fun t' tk=>?_
 ·simp [ofL,Str.length];lia
 ·have ej:Txt.join (ofL []) [ofL l]=ofL l:=(StrLaws.glued_eq_join _ _).trans ((zcT [] [l]).trans (by simp [zaq]))
  rw [ej]
  exact wpAny_pure (h _ t' tk hs)
theorem znJ {pat ct:Addr}{l:List Nat}{t:Tok}{L:Addr}{fd:FuncData}{Q:Value->Shared->Prop}(P:zjC s.heap pat ct cd2)(hl:1<=l.length/\l.length<=1000)(hn:none2 l=true)(hL:s.heap.get? L=some (zl0 fd))
  (h:∀ h' t' tk,(∀ b o,s.heap.get? b=some o->h'.get? b=some o)->Q (.str (ofL l) t') { s with heap:=h',toks:=tk }) :
  wpAny (model prog w) A (call (.builtin "re.Pattern.sub") [.ref pat,.ref L,.str (ofL l) t]) Q E s:=by
 obtain ⟨p,t1,t2,t3,t4,e1⟩:=P.obj
 have hT:s.TypeIs (.ref pat) "re.Pattern":=⟨_,e1,rfl⟩
 refine wpAny_call (codeAny_call_builtin zhB.plain zmH (zhB.check _ _ _ _ _ _ _ _ hT (znb _ _ _) ?_))
 unfold Builtin.«re.Pattern.sub» reSubstitute
 have hnm:∀ (Q':List (Option Value)->Shared->Prop) E',Q' [some (.ref L),some (.str (ofL l) t),none] s->wpAny (model prog w) A.in1 (reNamed "re.Pattern.sub" "sub" ["repl","string","count"] 2 [.ref L,.str (ofL l) t] []) Q' E' s:=fun Q' E' hq=>by
  unfold reNamed
  repeat (any_goals (first | assumption | wp_step))
 refine wpAny_bind (hnm _ _ ?_)
 refine wpAny_bind (wpAny_pure ?_)
 have hTL:s.TypeIs (.ref L) "function":=⟨_,hL,rfl⟩
 refine wpAny_bind (wpAny_specialOf hTL zow ?_)
 refine wpAny_bind (wpAny_pure ?_)
 refine wpAny_bind (wpAny_pure ?_)
 refine wpAny_bind (wpAny_holding (zdf P ?_))
 have hnh:∀ (Q':Unit->Shared->Prop) E',Q' () s->wpAny (model prog w) A.in1 (reNotHeld "re.Pattern.sub" (.str (ofL l) t)) Q' E' s:=fun Q' E' hq=>by
  unfold reNotHeld
  have hsub:isSubtype (.type "str") (.type "bytearray")=pure false:=by rw [isSubtype_type];kernel_rfl
  repeat (any_goals (first | assumption | with_reducible refine wpAny_of_eq hsub ?_ | wp_step))
 show wpAny _ _ (reNotHeld "re.Pattern.sub" (.str (ofL l) t)>>=_) _ _ _
 refine wpAny_bind (hnh _ _ ?_)
 refine wpAny_bind (wpAny_newList ?_ (by simp [sizeLine]))
 refine wpAny_pure ⟨plainId_quiet (by decide +kernel) _,?_⟩
 have hk:∀ b o,s.heap.get? b=some o->(s.heap.push { cls:=.type "list",data:=.seq ([]:List Value).toArray }).get? b=some o:=fun b o e=>Heap.get?_push_of_some _ e
 have P':zjC (s.heap.push { cls:=.type "list",data:=.seq ([]:List Value).toArray }) pat ct cd2:=by
  obtain ⟨p,t1,t2,t3,t4,e1⟩:=P.obj
  obtain ⟨o,items,n,e2,d2,hc⟩:=P.code
  exact ⟨⟨p,t1,t2,t3,t4,hk _ _ e1⟩,⟨o,items,n,hk _ _ e2,d2,hc⟩⟩
 refine codeAny_builtin zkJ ?_
 refine znz (s:={ s with heap:=s.heap.push { cls:=.type "list",data:=.seq ([]:List Value).toArray } }) (n:=0) P' hl hn (Heap.get?_push_size _ rfl) fun h' t' tk hs=>?_
 exact h h' t' tk fun b o e=>hs.extBut b o (Nat.ne_of_lt (Heap.lt_size e)) (hk b o e)
end
section
variable {g:Gl}{A:Around}{F:Fm}{σ:AS}{s:Shared}{P:PV->AS->Prop}
theorem Pat2Ok.now {pat:Addr}(x:Pat2Ok g pat)(S:Sat g F σ s):∃ ct,zjC s.heap pat ct cd2:=by
 obtain ⟨ct,o,items,n,p,t1,t2,t3,t4,e1,e2,hc,d,e⟩:=x
 exact ⟨ct,⟨p,t1,t2,t3,t4,S.old.get_of_cls e1 (fun q=>nomatch q)⟩,⟨o,items,n,S.old.get_of_cls e2 hc,d,e⟩⟩
theorem MT_sub {pat:Addr}(x:Pat2Ok g pat):MT g A F (.raw (.ref pat)) "sub" "re.Pattern.sub" σ:=fun s v S hv=>by
 cases hv
 intro pl Q E k
 obtain ⟨ct,hP⟩:=x.now S
 obtain ⟨p,t1,t2,t3,t4,e1⟩:=hP.obj
 exact getMethod_builtin (T:="re.Pattern") ⟨_,e1,rfl⟩ zcR zhB znl (fun a e=>by cases e;exact ⟨_,e1,rfl⟩) (k _)
theorem CL_sub {pat L:Addr}{l:List Nat}{fd:FuncData}(x:Pat2Ok g pat)(hl:1<=l.length/\l.length<=1000)(hn:none2 l=true)(hL:(L,.obj (zl0 fd))∈σ.zone)(h:P (tx l) σ):CL g A F (.builtin "re.Pattern.sub") [.raw (.ref pat),.raw (.ref L),tx l] σ P:=fun s vs S hvs Q E k=>by
 cases hvs with | cons hv hs'=>cases hs' with | cons hu hs'=>cases hs' with | cons hw hs'=>cases hs';cases hv;cases hu;cases hw;(
  obtain ⟨ct,hP⟩:=x.now S
  refine znJ hP hl hn (S.zs _ hL).1 fun h' t' tk hk=>?_
  exact k _ _ σ _ h (S.keeps (h':=h') (tk:=tk) hk) (.str _ _) (Stp.keeps (h':=h') (tk:=tk) hk))
end
end Rx
end Mine
end
section
open PySem PySem.Calls PyProof.Rows PySem.W PySem.Builtin
namespace Mine
section
variable {g:Gl}{A:Around}{F:Fm}{σ:AS}{s:Shared}{P:PV->AS->Prop}
theorem VRs.mem_text {h:Heap}{own:List Addr}:∀ {as:List (List Nat)} {vs:List Value},VRs h own (as.map tx) vs->∀ y∈vs,∃ l t,y=.str (ofL l) t
 | [],_,x,y,hy=>by revert hy;cases x;intro hy;cases hy
 | a::as,_,x,y,hy=>by
  revert hy
  cases x with
  | cons hv hs =>
   intro hy
   revert hy
   cases hv with
   | str _ t =>
    intro hy
    rcases List.mem_cons.mp hy with q | q
    ·exact ⟨a,t,q⟩
    ·exact VRs.mem_text hs y q
theorem VRs.any_text {h:Heap}{own:List Addr}{x:List Nat}{e:Value->Bool}(he:∀ l t,e (.str (ofL l) t)=decide (l=x)):∀ {as:List (List Nat)} {vs:List Value},VRs h own (as.map tx) vs->vs.any e=decide (x∈as)
 | [],_,q=>by cases q;rfl
 | a::as,_,q=>by
  cases q with
  | cons hv hs =>
   cases hv with
   | str _ t =>
    rw [List.any_cons,he,VRs.any_text he hs]
    by_cases h1:a=x
    ·subst h1;simp
    ·have h2:¬ x=a:=fun q=>h1 q.symm
     simp [h1,h2]
theorem zo2 {x:List Nat}{as:List (List Nat)}(h:P (.raw (.bool (decide (x∈as)))) σ):OP2 g A F (compareOp .In) (tx x) (.tup (as.map tx)) σ P:=fun s v u S hv hu Q E k=>by
 cases hv with
 | str _ t =>
 cases hu with
 | @tup _ a items m no e1 hs1 =>
  let e:Value->Bool:=fun y=>match y with | .str z _=>z==ofL x | _=>false
  have hee:∀ l t,e (.str (ofL l) t)=decide (l=x):=fun l t=>zg6 l x
  refine SeqAt.in_tupleAt e (items:=items) ⟨_,e1,rfl,_,rfl⟩ (fun y hy=>?_) ?_
  ·obtain ⟨l,t',rfl⟩:=VRs.mem_text hs1 y (by simpa using hy)
   exact SeqAt.EqAt.str_str _ _ _ _
  ·have ea:items.any e=decide (x∈as):=by
    have:=VRs.any_text hee hs1
    rw [<- this]
    simp
   rw [ea]
   exact k _ _ σ s h S (.raw _) .refl
end
end Mine
end
section
open PySem PySem.Calls PyProof.Rows PySem.W PySem.Builtin
namespace Mine
section
variable {g:Gl}{A:Around}{F:Fm}{σ:AS}{s:Shared}{P:PV->AS->Prop}
theorem zoC {as bs:List (List Nat)}{n:Nat}(hr:Rm A n)(h:P (.raw (.bool (!decide (as=bs)))) σ):OP2 g A F (compareOp .NotEq) (.lst (as.map tx)) (.lst (bs.map tx)) σ P:=fun s v u S hv hu Q E k=>by
 cases hv with
 | @lst _ a items m no1 e1 hs1 =>
  cases hu with
  | @lst _ b items2 m2 no2 e2 hs2 =>
   obtain ⟨l1,f1⟩:=VRs.texts hs1
   obtain ⟨l2,f2⟩:=VRs.texts hs2
   have l1':items.size=as.length:=l1
   have l2':items2.size=bs.length:=l2
   have hu:A.units < cLine:=by have:=hr.units;lia
   by_cases hl:items.size=items2.size
   ·refine SeqAt.RcNeAt.lists (e:=fun j=>ofL (as.getD j [])==ofL (bs.getD j [])) (items:=items) (items2:=items2) ⟨_,e1,rfl,_,rfl⟩ ⟨_,e2,rfl,_,rfl⟩ hl hu (fun j h1 h2=>?_) g.prog g.w E Q ?_
    ·obtain ⟨t1,q1⟩:=f1 j (by simpa using h1)
     obtain ⟨t2,q2⟩:=f2 j (by simpa using h2)
     have q1':items[j]=_:=q1
     have q2':items2[j]=_:=q2
     rw [q1',q2']
     exact SeqAt.EqAt.str_str _ _ _ _
    ·have:=zeW as bs
     rw [show min as.length bs.length=items.size by lia,show (as.length==bs.length)=true from by rw [<- l1',<- l2',hl];exact beq_self_eq_true _,Bool.and_true] at this
     rw [this]
     exact k _ _ σ s h S (.raw _) .refl
   ·refine SeqAt.RcNeAt.lists_lengths (items:=items) (items2:=items2) ⟨_,e1,rfl,_,rfl⟩ ⟨_,e2,rfl,_,rfl⟩ (bne_iff_ne.mpr hl) hu g.prog g.w E Q ?_
    have:decide (as=bs)=false:=decide_eq_false fun q=>hl (by rw [l1',l2',q])
    rw [this] at h
    exact k _ _ σ s h S (.raw _) .refl
theorem zoK {as bs:List (List Nat)}{n:Nat}(hr:Rm A n)(h:P (.raw (.bool (decide (as=bs)))) σ):OP2 g A F (compareOp .Eq) (.lst (as.map tx)) (.lst (bs.map tx)) σ P:=fun s v u S hv hu Q E k=>by
 cases hv with
 | @lst _ a items m no1 e1 hs1 =>
  cases hu with
  | @lst _ b items2 m2 no2 e2 hs2 =>
   obtain ⟨l1,f1⟩:=VRs.texts hs1
   obtain ⟨l2,f2⟩:=VRs.texts hs2
   have l1':items.size=as.length:=l1
   have l2':items2.size=bs.length:=l2
   have hu:A.units < cLine:=by have:=hr.units;lia
   by_cases hl:items.size=items2.size
   ·refine SeqAt.RcAt.lists (e:=fun j=>ofL (as.getD j [])==ofL (bs.getD j [])) (items:=items) (items2:=items2) ⟨_,e1,rfl,_,rfl⟩ ⟨_,e2,rfl,_,rfl⟩ hl hu (fun j h1 h2=>?_) g.prog g.w E Q ?_
    ·obtain ⟨t1,q1⟩:=f1 j (by simpa -iota using h1)
     obtain ⟨t2,q2⟩:=f2 j (by simpa -iota using h2)
     have q1':items[j]=_:=q1
     have q2':items2[j]=_:=q2
     rw [q1',q2']
     exact SeqAt.EqAt.str_str _ _ _ _
    ·have:=zeW as bs
     rw [show min as.length bs.length=items.size by lia,show (as.length==bs.length)=true from by rw [<- l1',<- l2',hl];exact beq_self_eq_true _,Bool.and_true] at this
     rw [this]
     exact k _ _ σ s h S (.raw _) .refl
   ·refine SeqAt.RcAt.lists_lengths (items:=items) (items2:=items2) ⟨_,e1,rfl,_,rfl⟩ ⟨_,e2,rfl,_,rfl⟩ (bne_iff_ne.mpr hl) hu g.prog g.w E Q ?_
    have:decide (as=bs)=false:=decide_eq_false fun q=>hl (by rw [l1',l2',q])
    rw [this] at h
    exact k _ _ σ s h S (.raw _) .refl
theorem zoI (l:List PySem.Str):l.map PV.str=(l.map fun s=>s.cps.toList).map tx:=by
 rw [List.map_map];rfl
end
end Mine
end
section
open PySem PySem.Calls PyProof.Rows
namespace Mine
theorem zcU.refl {h:Heap}:zcU h h:=⟨⟨fun b o e=>.inl e,fun b o e=>⟨o,e⟩⟩,fun P ps e t=>⟨ps,e,t⟩⟩
theorem zng {prog:Program}{w:World}{A:Around}{s:Shared}{f:Addr}{fd:FuncData}{body:List Stmt}{xs:List Str}{ps:List PV}{vs:List Value}{P:PV->Prop}{n:Nat}(hr:Rm A (n+1))
  (hlim:s.heap.NoLimit) (hbare:AllBare s.gens) (hcs:cStatics < s.heap.objs.size)
  (hf:zdB ⟨prog,w,s.heap,s.os,none⟩ f fd body) (hx:xs.Nodup) (hlen:xs.length=ps.length)
  (hb:∀ vs:List Value,vs.length=ps.length->bindArgs fd ⟨vs,[]⟩=pure (xs.zip vs))
  (hcellB:(fd.scope.names.all fun x=>x.2 != .cell)=true) (hlocB:(xs.all fun x=>fd.scope.names.lookup x==some .local)=true)
  (hvs:VRs s.heap [] ps vs)
  (h:∀ L,EXs ⟨prog,w,s.heap,s.os,none⟩ (A.deeper (callEnv fd L f)) (zap fd L f) body ⟨xs.zip ps,[]⟩ fun fl σ'=>P (match fl with | .ret p=>p | _=>.raw .none))
  {Q:Value->Shared->Prop} {E:Value->Shared->Prop}
  (k:∀ a b s' own,P b->VR s'.heap own b a->OldK s.heap s'.heap->s'.os=s.os->AllBare s'.gens->Q a s'):wpAny (model prog w) A (call (.ref f) vs) Q E s:=by
 have hcell:∀ x∈fd.scope.names,x.2≠.cell:=fun x hx=>by simpa using List.all_eq_true.mp hcellB x hx
 have hloc:∀ x∈xs,fd.scope.names.lookup x=some .local:=fun x hx=>by simpa using List.all_eq_true.mp hlocB x hx
 obtain ⟨o,e,hc,hd⟩:=hf.at_
 have hcode:s.heap.CodeRec fd.code fd.qualname:=by obtain ⟨c,o,vs,t,e,e1,hc,hd,hv⟩:=hf.code;exact ⟨c,o,vs,t,e,e1,hd,hv⟩
 have hlv:=hvs.length
 refine wpAny_call (codeAny_call_def (hr.le (Nat.zero_le _)).depth e hd hlim hcode hf.bd (.of_eq (hb vs hlv)) hcell (fun x hx'=>?_) (fun h₀ hn hk=>?_) hf.co hf.gen hf.kind)
 ·exact hloc _ (List.of_mem_zip hx').1
 ·have hkeys:((xs.zip vs).map (·.1))=xs:=by
   rw [List.map_fst_zip];lia
  have kp:Kp s.heap h₀ [] []:=fun b o xs n e _ no=>⟨hk b o e,no⟩
  have S₀:Sat ⟨prog,w,s.heap,s.os,none⟩ (zap fd s.heap.objs.size f) ⟨xs.zip ps,[]⟩ { s with heap:=h₀,toks:=s.toks+(xs.zip vs).length }:=by
   refine ⟨zcU.refl.step_keeps hk,hlim.keeps hk,rfl,⟨hbare,fun i x e=>by cases e⟩,?_,fun a ha=>?_,(fun z hz=>by cases hz),fun a ha=>?_,⟨_,hn⟩,by simp [zap,callEnv,newEnv],fun x p ex=>?_,hcs,fun x c hx _ _ _=>absurd rfl (hcell _ (mem_of_lookup hx))⟩
   ·show ([s.heap.objs.size]++[]).Nodup
    simp
   ·rcases List.mem_append.mp ha with h | h
    ·simp [zap] at h;subst h;exact Nat.le_refl _
    ·cases h
   ·simp [zap] at ha;subst ha
    obtain ⟨o,es,ep,e,d,_⟩:=hn
    exact ⟨o,e,.inl ⟨es,ep,d⟩⟩
   ·obtain ⟨v,h1,h2⟩:=zbO hvs ex
    refine ⟨v,.inl ⟨?_,_,hn,?_⟩,h2.mono kp⟩
    ·have hm:x∈xs:=by
      have:=List.lookup_eq_some_iff.mp h1
      obtain ⟨l1,l2,e1,_⟩:=this
      have:(x,v)∈xs.zip vs:=by rw [e1];simp
      exact (List.of_mem_zip this).1
     show fd.scope.names.lookup x=some .local
     exact hloc x hm
    ·rw [zaR (by rw [hkeys];exact hx)];exact h1
  refine h s.heap.objs.size _ S₀ _ _ fun fv fl σ' s' hP S' hr' st'=>?_
  cases hr' with
  | ret hv=>exact k _ _ s' _ hP hv S'.old.k S'.os S'.bare.1
  | next=>exact k _ _ s' _ hP (.raw (own:=[]) _) S'.old.k S'.os S'.bare.1
  | brk=>exact k _ _ s' _ hP (.raw (own:=[]) _) S'.old.k S'.os S'.bare.1
  | cont=>exact k _ _ s' _ hP (.raw (own:=[]) _) S'.old.k S'.os S'.bare.1
end Mine
end
namespace Mine
open PySem PySem.Calls PyProof.Rows
section
theorem zaj {i:Nat}{nm:Str}{c:Addr}{pm:Value}{L f:Addr}(h:(fS i).kind=.function):z0 (zap (mkF i nm c pm) L f):=⟨h,rfl,rfl⟩
theorem zvt:(Str.ofString "\n")=ofL [10]:=by decide +kernel
theorem zvz:(Str.ofString "")=ofL []:=by decide +kernel
noncomputable def zbH:List Nat:=[43,47,42,63,91,93,33,94,92,45,38,126,124,35,46,44,59,95,40,123]
theorem zu7:(Str.ofString "+/*?[]!^\\-&~|#.,;_({")=ofL zbH:=by decide +kernel
theorem zsu:(Str.ofString ".")=ofL [46]:=by decide +kernel
theorem zu9:(Str.ofString "\\")=ofL [92]:=by decide +kernel
theorem zr3:(Str.ofString "(?s:")=ofL [40,63,115,58]:=by decide +kernel
theorem zsL:(Str.ofString ")\\Z")=ofL [41,92,90]:=by decide +kernel
noncomputable def zaG:List Nat:=[65,66,67,68,69,70,71,72,73,74,75,76,77,78,79,80,81,82,83,84,85,86,87,88,89,90,97,98,99,100,101,102,103,104,105,106,107,108,109,110,111,112,113,114,115,116,117,118,119,120,121,122,48,49,50,51,52,53,54,55,56,57]
theorem zu0:(Str.ofString "ABCDEFGHIJKLMNOPQRSTUVWXYZabcdefghijklmnopqrstuvwxyz0123456789")=ofL zaG:=by decide +kernel
theorem zvk:(Str.ofString " \t")=ofL [32,9]:=by decide +kernel
theorem zu8:(Str.ofString "*")=ofL [42]:=by decide +kernel
noncomputable def zeI:List Nat:=[40,63,115,58,40,63,62,46,42,63]
theorem zvb:(Str.ofString "(?s:(?>.*?")=ofL zeI:=by decide +kernel
noncomputable def zev:List Nat:=[41,46,42,41,92,90]
theorem zvj:(Str.ofString ").*)\\Z")=ofL zev:=by decide +kernel
theorem zuR:(Str.ofString "=")=ofL [61]:=by decide +kernel
theorem zu3:(Str.ofString "--")=ofL [45,45]:=by decide +kernel
theorem zuv:(Str.ofString " ")=ofL [32]:=by decide +kernel
theorem zuV:(Str.ofString "\t")=ofL [9]:=by decide +kernel
theorem zuJ:(Str.ofString "[! \t]*")=ofL [91,33,32,9,93,42]:=by decide +kernel
theorem zvc:(Str.ofString "*[ \t]")=ofL [42,91,32,9,93]:=by decide +kernel
theorem zuz:(Str.ofString "[")=ofL [91]:=by decide +kernel
theorem zuN:(Str.ofString "?")=ofL [63]:=by decide +kernel
theorem ztq:(Str.ofString ".*")=ofL [46,42]:=by decide +kernel
theorem zu5:(Str.ofString "  ")=ofL [32,32]:=by decide +kernel
theorem zuT:(Str.ofString "\t ")=ofL [9,32]:=by decide +kernel
theorem zuC:(Str.ofString "^")=ofL [94]:=by decide +kernel
theorem zuZ:(Str.ofString "]")=ofL [93]:=by decide +kernel
theorem zsG:(Str.ofString "(?>.*?")=ofL [40,63,62,46,42,63]:=by decide +kernel
theorem zsQ:(Str.ofString ")")=ofL [41]:=by decide +kernel
theorem zuA:(Str.ofString "*?[")=ofL [42,63,91]:=by decide +kernel
theorem zvl:(Str.ofString "!")=ofL [33]:=by decide +kernel
theorem zuX:(Str.ofString "-")=ofL [45]:=by decide +kernel
theorem zuY:(Str.ofString "\\\\")=ofL [92,92]:=by decide +kernel
section
variable {g:Gl}{A:Around}{F:Fm}{σ:AS}{P:PV->AS->Prop}{value slice:Expr}
theorem ziZ {i:Int}{n:Nat}(h0:0<=i)(h1:i < n):seqIndex? i n=some i.toNat:=StrLaws.seqIndex_nonneg h0 h1
theorem zmp {l:List PV}{i:Int}(d:PV)(h0:0<=i)(h1:i < l.length)(hz:l.length<=16777216)(h:P (l.getD i.toNat d) σ)
  (hs:∀ v u,subscripted slice false v u=operate [v,u] (getItem v u):=by left):IX g A F value slice (.lst l) (.int i) σ P :=
 ztY (j:=i.toNat) (ziZ h0 h1) (by rw [List.getD_eq_getElem?_getD];have:i.toNat < l.length:=(by lia);simp [List.getElem?_eq_getElem this]) hz h hs
theorem zcK {l:List Nat}{i:Int}(h0:0<=i)(h1:i < l.length)(hz:l.length<=16777216)(h:P (tx [l.getD i.toNat 0]) σ)
  (hs:∀ v u,subscripted slice false v u=operate [v,u] (getItem v u):=by left):IX g A F value slice (tx l) (.int i) σ P :=
 zr4 (j:=i.toNat) (ziZ h0 h1) (by rw [List.getD_eq_getElem?_getD];have:i.toNat < l.length:=(by lia);simp [List.getElem?_eq_getElem this]) hz h hs
theorem zai {o:Expr}{apos pos:Pos}{arg:Expr}{pl:Sem Bool}(h:EV g A F o σ fun p σ₁=>∃ D ps,p=.raw (.ref D)/\(D,.list ps)∈σ₁.zone/\EV g A F arg σ₁ fun q σ₂=>∃ ps' zone',ZAt D (.list ps') (.list (ps'++[q])) σ₂.zone zone'/\ps'.length<=1000000/\P (.raw .none) ⟨σ₂.loc,zone'⟩)
  (he:eval (.Call (.Attribute o "append" apos) [arg] [] pos) F.env=(do
   let ov <- eval o F.env
   standAt apos.atName
   let (f,first) <- holding [ov] (getMethod ov "append" pl)
   callWith pos f first (backTo pos (starEach [arg] F.env)) []):=by left)
  (hns:(backTo pos (starEach [arg] F.env)).any (·.1)=false:=by left)
  (hst:starEach [arg] F.env=(false,eval arg F.env)::starEach [] F.env:=by left):EV g A F (.Call (.Attribute o "append" apos) [arg] [] pos) σ P:=by
 refine zau (J.mono h ?_) he hns
 rintro p σ₁ ⟨D,ps,rfl,hz,h₁⟩
 refine ⟨"list.append",zlG hz,zc (J.mono h₁ ?_) hst⟩
 rintro q σ₂ ⟨ps',zone',U,hl,hP⟩
 exact zf (zlJ U hl hP)
end
theorem zda {n:Int}(h0:0<=n)(h1:n<=1000000):Builtin.Range.small 0 n 1=true:=small_one (by decide) (by decide) (by lia) (by lia)
theorem zlZ {n:Int}{k:Nat}(h:n=k):zc8 0 1 (Builtin.Range.rangeSize 0 n 1).toNat=(List.range k).map fun (i:Nat)=>.int (i:Int):=by
 subst h
 have e:(Builtin.Range.rangeSize 0 (k:Int) 1).toNat=k:=by
  unfold Builtin.Range.rangeSize
  rw [if_pos (by decide)]
  split
  ·rw [Int.ediv_one];lia
  ·lia
 rw [e]
 unfold zc8
 refine List.map_congr_left fun i _=>?_
 rw [Int.zero_add,Int.mul_one]
theorem zm (q:Int)(k:Int)(hk:0 < k):0<=q.fmod k/\q.fmod k < k:=⟨Int.fmod_nonneg_of_pos q hk,Int.fmod_lt_of_pos q hk⟩
noncomputable def zoG (l:List Nat):PV:=.lst (l.map fun (k:Nat)=>.int k)
theorem zbw {F:Fm}{scope:Scope}{cl:List (Str × Addr)}{C:Addr}(hk:z0 F)(hs:scope.kind=.function):z0 (cFm scope cl C F):=⟨hs,hk.gl,hk.bl⟩
theorem zgY {i:Nat}{nm:Str}{c:Addr}{pm:Value}{L f:Addr}(h:(fS i).kind=.function):z0 (zbr (mkF i nm c pm) L f):=⟨h,rfl,rfl⟩
theorem znf (m n:Nat):(m:Int).fdiv n=((m/n:Nat):Int):=by rw [Int.fdiv_eq_ediv_of_nonneg _ (by lia)];rfl
theorem zo0 (m n:Nat):(m:Int).fmod n=((m%n:Nat):Int):=by rw [Int.fmod_eq_emod_of_nonneg _ (by lia)];rfl
theorem zaC {g:Gl}{A:Around}{F:Fm}{α:Type}{D:Addr}{elt target:Expr}{P:List PV->List (Addr × MO)->Prop}{cap:List (Str × PV)}{z:List (Addr × MO)}(inj f:α->PV) :
  ∀ {l:List α} {acc:List PV},(∀ a∈l,∀ acc,AS1 g A F target (inj a) ⟨cap,(D,.list acc)::z⟩ fun σ₁=>EV g A F elt σ₁ fun p σ₂=>p=f a/\σ₂.zone=(D,.list acc)::z/\Sub σ₂.loc cap) ->
   acc.length+l.length<=1000000->P (acc++l.map f) z->zet g A F D elt target [] (l.map inj) acc ⟨cap,(D,.list acc)::z⟩ P
 | [],acc,h,hl,hP=>⟨z,rfl,by simpa using hP⟩
 | x::xs,acc,h,hl,hP=>by
  intro s v S hv Q E k
  refine h x List.mem_cons_self acc s v S hv Q E fun σ₁ s₁ h₁ S₁ st₁=>k σ₁ s₁ ?_ S₁ st₁
  refine zo4 ?_
  rw [if_pos rfl]
  refine J.mono h₁ ?_
  rintro p σ₂ ⟨rfl,hz,hsub⟩
  refine ⟨z,hz,by simp at hl;lia,?_⟩
  refine zbP hsub ?_
  exact zaC inj f (fun x hx acc=>h x (List.mem_cons_of_mem _ hx) acc) (by simp at hl ⊢;lia) (by simpa using hP)
theorem zcx {g:Gl}{A:Around}{F:Fm}{σ:AS}{l:List Nat}:MT g A F (tx l) "join" "str.join" σ:=ziv PySem.F.slot_str_join PySem.F.type_str_join
theorem zt0 {g:Gl}{A:Around}{F:Fm}{σ:AS}{D:Addr}{l:List PV}{P:Bool->AS->Prop}(hz:(D,.list l)∈σ.zone)(hs:l.length<=16777216)(h:P (!l.isEmpty) σ):TT g A F (.raw (.ref D)) σ P:=fun s v S hv Q E k=>by
 cases hv
 obtain ⟨items,n,ho,hl⟩:=S.zs _ hz
 have hsz:=hl.toArray
 refine wpAny_truthy_list ⟨_,ho,rfl,_,rfl⟩ (by lia) ?_
 have e:(!items.isEmpty) = !l.isEmpty:=by
  have e1:items.isEmpty=decide (items.size=0):=rfl
  rw [e1,hsz];cases l <;> simp
 rw [e]
 exact k _ σ _ h (S.toks _) .toks
structure Fn (g:Gl)(i:Nat)(nm:Str)(f:Addr):Prop where
 glob:g.Glob nm (.ref f)
 at_:∃ c pm,zdB g f (mkF i nm c pm) (fB i)
theorem zgR {g:Gl}{A:Around}{F:Fm}{σ:AS}{e:Expr}{P:PV->AS->Prop}(v:PV)(h:EV g A F e σ fun p σ₁=>p=v/\σ₁=σ)(k:P v σ):EV g A F e σ P:=J.mono h fun p σ₁ ⟨a,b⟩=>by rw [a,b];exact k
theorem zkz {g:Gl}{A:Around}{F:Fm}{σ:AS}{e:Expr}{P:Bool->AS->Prop}(v:Bool)(h:TR g A F e σ fun p σ₁=>p=v/\σ₁=σ)(k:P v σ):TR g A F e σ P:=J.mono h fun p σ₁ ⟨a,b⟩=>by rw [a,b];exact k
section
variable {g:Gl}{A:Around}{F:Fm}{σ:AS}{P:PV->AS->Prop}{value slice:Expr}
theorem zfm {α:Type}{l:List α}(d:α)(h:l≠[]):l[l.length - 1]?=some (l.getD (l.length - 1) d):=by
 have:l.length≠0:=fun q=>h (List.eq_nil_of_length_eq_zero q)
 rw [List.getD_eq_getElem?_getD,List.getElem?_eq_getElem (by lia)];rfl
theorem zjX {l:List PV}(d:PV)(hl:l≠[])(hz:l.length<=16777216)(h:P (l.getD (l.length - 1) d) σ)
  (hs:∀ v u,subscripted slice false v u=operate [v,u] (getItem v u):=by left):IX g A F value slice (.lst l) (.int (-1)) σ P :=
 ztY (zeO fun q=>hl (List.eq_nil_of_length_eq_zero q)) (zfm d hl) hz h hs
theorem zmU {l:List Nat}(hl:l≠[])(hz:l.length<=16777216)(h:P (tx [l.getD (l.length - 1) 0]) σ)
  (hs:∀ v u,subscripted slice false v u=operate [v,u] (getItem v u):=by left):IX g A F value slice (tx l) (.int (-1)) σ P :=
 zr4 (zeO fun q=>hl (List.eq_nil_of_length_eq_zero q)) (zfm 0 hl) hz h hs
theorem zmX {D:Addr}{l:List PV}(d:PV)(hz':(D,.list l)∈σ.zone)(hl:l≠[])(hz:l.length<=16777216)(h:P (l.getD (l.length - 1) d) σ)
  (hs:∀ v u,subscripted slice false v u=operate [v,u] (getItem v u):=by left):IX g A F value slice (.raw (.ref D)) (.int (-1)) σ P :=
 zuf hz' (zeO fun q=>hl (List.eq_nil_of_length_eq_zero q)) (zfm d hl) hz h hs
theorem zgm {D:Addr}{l:List PV}{i:Int}(d:PV)(hz':(D,.list l)∈σ.zone)(h0:0<=i)(h1:i < l.length)(hz:l.length<=16777216)(h:P (l.getD i.toNat d) σ)
  (hs:∀ v u,subscripted slice false v u=operate [v,u] (getItem v u):=by left):IX g A F value slice (.raw (.ref D)) (.int i) σ P :=
 zuf hz' (j:=i.toNat) (ziZ h0 h1) (by rw [List.getD_eq_getElem?_getD];have:i.toNat < l.length:=(by lia);simp [List.getElem?_eq_getElem this]) hz h hs
theorem zfe {l:List PV}{i:Int}(d:PV)(h0:0<=i)(h1:i < l.length)(hz:l.length<=16777216)(h:P (l.getD i.toNat d) σ)
  (hs:∀ v u,subscripted slice false v u=operate [v,u] (getItem v u):=by left):IX g A F value slice (.tup l) (.int i) σ P :=
 zlm (j:=i.toNat) (ziZ h0 h1) (by rw [List.getD_eq_getElem?_getD];have:i.toNat < l.length:=(by lia);simp [List.getElem?_eq_getElem this]) hz h hs
end
end
open Lean in
local macro_rules | `(tactic| walk_at "env")=>return zB (zO zM (zA "n" "~zbw" zF)) #[Syntax.mkStrLit "env"]
open Lean in
local macro_rules | `(tactic| walk_at "lit")=>return zB (zA "X" "~lit42 lit41 zuY zuX lit38 zvl zuA zsQ zsG zuZ zuC zuT zu5 ztq zuN zuz zvc zuJ zu3 zvj zvb zvk zu0 zsL zr3 zu9 zsu zu7 zvt zu8 zuV zuR zvz zuv" zF) #[]
open Lean in
local macro_rules | `(tactic| walk_at "asg")=>return zB (zA "E" "~zqu zrr zpt" (zA "R" "~zrV" zF)) #[Syntax.mkStrLit "env"]
open Lean in
local macro_rules | `(tactic| walk_at "sub")=>return zB ("( 'repeat "++zS (zO (zE "Sub.nil") (zA "U" "~Sub.cons" zF))++" )T.tacticRepeat_") #[]
open Lean in
local macro_rules | `(tactic| walk_at "st")=>return zB (zA "r" "~zi zb" (zA "e" "~zd" (zA "d" "~za" (zA "r" "~zoo zlS zr8 zhq zkM zoF zor zss zbK c_le_ii zsB zlM zlx zb9 zcm ziA zk zbG zn zaF zgL zaz zdk zjD zc3 EX_Pass zab zjs zeS zhx ze7 zeN zcQ zkn zgF zan ze zaA zj zdi zac zf zc zx" (zA "e" "~zmM" (zA "d" "~zaN" (zA "s" "~zt" (zA "m" "~zui" (zA "v" "~zrA" (let f (s:String):=zW (zR (zC "And.intro" (zY s++" "++zH)));zO (f (zE (zC "Nat.le_of_ble_eq_true" (zY zU)))) (f ("( 'with_unfolding_all "++zS (zE "trivial")++" )T.withUnfoldingAll")))))))))))) #[Syntax.mkStrLit "env",Syntax.mkStrLit "lit"]
section
noncomputable def zd7 (q:Int):Nat:=[190,255,0,((q.fdiv 4).fmod 256).toNat].getD (q.fmod 4).toNat 0
noncomputable def ziJ:Nat->Int->List Nat
 | 0,_=>[]
 | k+1,q=>zd7 q::ziJ k (q.fdiv 4)
noncomputable def zdJ (n:Int):List Nat:=[[32],[9],[32,32],[9,32]].getD ((n.fdiv 24).fmod 4).toNat []
theorem zkU (q:Int):[PV.int 190,.int 255,.int 0,.int ((q.fdiv 4).fmod 256)].getD (q.fmod 4).toNat (.int 0)=.int (zd7 q:Nat):=by
 have h:=zm q 4 (by decide)
 have h2:=zm (q.fdiv 4) 256 (by decide)
 obtain ⟨m,hm⟩:=Int.eq_ofNat_of_zero_le h.1
 have hm4:m < 4:=by lia
 unfold zd7
 rw [hm]
 match m,hm4 with
 | 0,_=>rfl
 | 1,_=>rfl
 | 2,_=>rfl
 | 3,_ =>
  show PV.int ((q.fdiv 4).fmod 256)=PV.int ((((q.fdiv 4).fmod 256).toNat:Nat):Int)
  rw [Int.toNat_of_nonneg h2.1]
variable {g:Gl}{A:Around}{F:Fm}{σ:AS}
theorem zg8 {f c:Addr}{pm:Value}{n:Int}{P:PV->AS->Prop}(hr:Rm A 1)(hf:zdB g f (mkF 26 "_law_word" c pm) (fB 26))(hrange:g.Blt "range" (.type "range"))
  (h:P (.tup [tx (zdJ n),zoG (ziJ ((n.fmod 6).toNat+1) (n.fdiv 6))]) σ):CL g A F (.ref f) [.int n] σ P:=by
 refine za2 (n:=0) (xs:=["n"]) hr hf (by decide) rfl (fun vs hv=>?_) (by rfl) (by rfl) fun L=>?_
 ·revert vs hv;refine zcV ?_;intros;rfl
 ·have hk:z0 (zap (mkF 26 "_law_word" c pm) L f):=zaj rfl
  refine zb ?_
  refine z4 (names:=["octets","q"]) hr.deeper ?_
  walk_at "st"
  walk_at "st"
  refine zao ?_
  walk_at "st"
  refine ⟨by decide,fun D=>?_⟩
  repeat walk_at "st"
  refine ⟨_,rfl,rfl,?_⟩
  repeat walk_at "asg"
  refine zb ?_
  refine zdP ?_
  refine zcH hr.deeper ?_
  refine zg hk hrange ?_
  refine ⟨rfl,?_⟩
  repeat walk_at "st"
  have h6:=zm n 6 (by decide)
  obtain ⟨m,hm⟩:=Int.eq_ofNat_of_zero_le h6.1
  have hm6:m < 6:=by lia
  rw [hm] at h ⊢
  refine ⟨_,_,_,.one _,zda (by lia) (by lia),?_⟩
  rw [zlZ (k:=m+1) (by lia)]
  refine zaQ (fun xs σ'=>∃ (q:Int) (done:List Nat),σ'=⟨[("n",.int n),("q",.int q),("octets",.raw (.ref D))],(D,.list (done.map fun (k:Nat)=>.int k))::σ.zone⟩/\done++ziJ xs.length q=ziJ (m+1) (n.fdiv 6)/\done.length+xs.length<=10) ?_ ?_ _ _ ?_
  ·rintro _ ⟨q,done,rfl,hd,hl⟩
   repeat walk_at "st"
   refine zb5 ?_
   repeat walk_at "st"
   have h4:=zm (n.fdiv 24) 4 (by decide)
   refine zmp (tx []) h4.1 h4.2 (by decide) ?_
   walk_at "st"
   refine zfL ?_
   repeat walk_at "st"
   refine ⟨D,_,_,rfl,rfl,?_⟩
   repeat walk_at "st"
   refine zcp.mk [] rfl ?_
   have e1:[tx [32],tx [9],tx [32,32],tx [9,32]].getD ((n.fdiv 24).fmod 4).toNat (tx [])=tx (zdJ n):=by
    obtain ⟨j,hj⟩:=Int.eq_ofNat_of_zero_le h4.1
    have hj4:j < 4:=by lia
    unfold zdJ
    rw [hj]
    match j,hj4 with
    | 0,_=>rfl
    | 1,_=>rfl
    | 2,_=>rfl
    | 3,_=>rfl
   rw [e1]
   have e2:done=ziJ (m+1) (n.fdiv 6):=by rw [<- hd];exact (List.append_nil _).symm
   rw [e2]
   exact h
  ·intro I Q back out;rintro x xs _ ⟨q,done,rfl,hd,hl⟩
   refine zay hk ?_
   repeat walk_at "st"
   refine zai ?_
   repeat walk_at "st"
   refine ⟨D,_,rfl,List.mem_cons_self,?_⟩
   repeat walk_at "st"
   refine zb5 ?_
   repeat walk_at "st"
   have h4:=zm q 4 (by decide)
   refine zmp (.int 0) h4.1 h4.2 (by simp -iota) ?_
   rw [zkU]
   refine ⟨_,_,.head,by rw [List.length_map];simp -iota at hl;lia,?_⟩
   repeat walk_at "st"
   refine ⟨_,Sub.weak' (loc':=[("n",.int n),("q",.int (q.fdiv 4)),("octets",.raw (.ref D))]) (by walk_at "sub") rfl,fun _ h=>h,back _ _ ⟨q.fdiv 4,done++[zd7 q],?_,?_,?_⟩⟩
   ·rw [List.map_append];rfl
   ·rw [<- hd];exact List.append_assoc _ _ _
   ·simp -iota at hl ⊢;lia
  ·exact ⟨n.fdiv 6,[],rfl,by simp,by simp -iota;lia⟩
end
section
noncomputable def zav (l:List Nat):Nat:=l.foldl (fun v o=>v*256+o) 0
noncomputable def zaZ (n:Nat):Nat:=((-8*(n:Int)).fmod 6).toNat
noncomputable def zas (octs:List Nat):List Nat:=(List.range ((8*octs.length+5)/6)).map fun k=>zav octs*2 ^ zaZ octs.length/64 ^ k%64
noncomputable def zjr (n:Nat):Nat:=((-(n:Int)).fmod 3).toNat
noncomputable def writing (octs alts:List Nat):List Nat:=((zas octs).reverse.map fun i=>(zaG++alts).getD i 0)++List.replicate (zjr octs.length) 61
theorem zim:zaG.length=62:=rfl
theorem zkk {α:Type}(f:α->Nat):∀ l:List α,((l.map fun x=>[f x]).map (·.length)).sum=l.length
 | []=>rfl
 | x::r=>by
  have:=zkk f r
  simp only [List.map_cons,List.sum_cons,List.length_cons,List.length_nil] at this ⊢
  lia
theorem zic {α:Type}(f:α->Nat):∀ l:List α,(l.map fun x=>[f x]).flatten=l.map f
 | []=>rfl
 | x::r=>by simp [zic f r]
theorem zlu (n c:Nat):(List.replicate n [c]).flatten=List.replicate n c:=by
 induction n with
 | zero=>rfl
 | succ n ih=>simp [List.replicate_succ,ih]
theorem nB {x:Int}(h:0<=x/\x < 6):((2:Nat):Int)*x<=134217728:=by omega
theorem nM {n:Nat}(h:n<=8):(8*n+5)/6<=11:=by revert n;decide
theorem nA {n:Nat}(h:n<=8):n < 2 ^ 64:=Nat.lt_of_le_of_lt h (by decide)
theorem nC {n:Nat}(h:n<=8):(((8*n+5)/6:Nat):Int)<=1000000:=Int.ofNat_le.mpr (Nat.le_trans (nM h) (by decide))
theorem nE {n k:Nat}(hk:k < (8*n+5)/6)(h:n<=8):((7:Nat):Int)*(k:Int)<=134217728:=Int.ofNat_le.mpr (Nat.le_trans (Nat.mul_le_mul_left 7 (Nat.le_of_lt (Nat.lt_of_lt_of_le hk (nM h)))) (by decide))
theorem nF {n k:Nat}(hk:k < (8*n+5)/6)(h:n<=8):6*k < 200:=Nat.lt_of_le_of_lt (Nat.mul_le_mul_left 6 (Nat.le_of_lt (Nat.lt_of_lt_of_le hk (nM h)))) (by decide)
theorem nH {x:Int}(h:0<=x/\x < 3):-1000<=x:=Int.le_trans (by decide) h.1
theorem nI {x:Int}(h:0<=x/\x < 3):x<=1000:=Int.le_trans (Int.le_of_lt h.2) (by decide)
theorem nJ {n:Nat}{x:Int}(h:n<=20)(h3:0<=x/\x < 3):n+x.toNat<=16777216:=leA h (Nat.le_of_lt (leG h3)) rfl
theorem nP (k:Nat):((64 ^ k:Nat):Int)≠0:=fun q=>Nat.ne_of_gt (Nat.pow_pos (by decide)) (Int.ofNat.inj q)
variable {g:Gl}{A:Around}{F:Fm}{σ:AS}
theorem zeL {f c:Addr}{pm:Value}{octs alts:List Nat}{P:PV->AS->Prop}(hr:Rm A 1)(hf:zdB g f (mkF 27 "_law_writing" c pm) (fB 27))(hrange:g.Blt "range" (.type "range"))(hlen:g.Blt "len" (.builtin "len"))(hrev:g.Blt "reversed" (.type "reversed"))
  (ho:octs.length<=8) (h256:∀ o∈octs,o < 256) (ha:alts.length=2)
  (h:P (tx (writing octs alts)) σ):CL g A F (.ref f) [zoG octs,tx alts] σ P:=by
 refine zoi (n:=0) (xs:=["octets","alts"]) hr hf rfl (by decide) rfl (fun vs hv=>?_) (by rfl) (by rfl) fun L=>?_
 ·revert vs hv;refine zkR ?_;intros;rfl
 ·have hk:z0 (zbr (mkF 27 "_law_writing" c pm) L f):=zgY rfl
  refine zb ?_
  repeat walk_at "st"
  have htl:zaG.length=62:=rfl
  refine zbd (by lia) ?_
  walk_at "st"
  refine zaM hr.deeper ?_
  repeat walk_at "st"
  refine zh ?_
  refine zg hk hlen ?_
  refine ⟨_,rfl,rfl,?_⟩
  repeat walk_at "st"
  refine zdH (by rw [List.length_map];lia) ?_
  repeat walk_at "st"
  refine ⟨_,rfl,rfl,?_⟩
  repeat walk_at "asg"
  refine zb ?_
  refine zj0 ?_
  repeat walk_at "st"
  refine ⟨_,zcz hr.deeper,?_⟩
  refine zaQ (fun xs σ'=>∃ (v:Nat) (rest:List Nat),xs=rest.map (fun (k:Nat)=>.int k)/\σ'=⟨[("octets",zoG octs),("alts",tx alts),("table",tx (zaG++alts)),("value",.int v),("many",.int octs.length)],σ.zone⟩/\rest.foldl (fun v o=>v*256+o) v=zav octs) ?_ ?_ _ _ ?_
  ·rintro _ ⟨v,rest,hx,rfl,hv⟩
   have hrest:rest=[]:=by cases rest with | nil=>rfl | cons a b=>cases hx
   subst hrest
   have hv':v=zav octs:=hv
   subst hv'
   walk_at "st"
   refine zb ?_
   repeat walk_at "st"
   refine zgX (za6 (by rw [Int.natAbs_natCast];exact nA ho)) ?_
   repeat walk_at "st"
   have he:=zm (-8*(octs.length:Int)) 6 (by decide)
   refine zn8 he.1 (zoe (k:=2) (by decide) he.1 (nB he)) ?_
   have hpow:(2:Int) ^ ((-8*(octs.length:Int)).fmod 6).toNat=((2 ^ zaZ octs.length:Nat):Int):=by rw [Int.natCast_pow];rfl
   rw [hpow]
   have hsh:2 ^ zaZ octs.length < 2 ^ 6:=Nat.pow_lt_pow_right (by decide) (leG he)
   refine zgX (za6 (by rw [Int.natAbs_natCast];exact Nat.lt_trans hsh (by decide))) ?_
   rw [<- Int.natCast_mul]
   refine zb ?_
   refine zbD (cl:=[("value",L+2)]) (caps:=["value"]) hk ⟨rfl,rfl,rfl,rfl,fun x hx=>?_⟩ ?_
   ·rw [List.mem_singleton] at hx;subst hx;exact ⟨rfl,rfl,rfl⟩
   refine zcH hr.deeper ?_
   refine zg hk hrange ?_
   refine ⟨rfl,?_⟩
   repeat walk_at "st"
   refine zgX (za6 (by rw [Int.natAbs_natCast];exact nA ho)) ?_
   repeat walk_at "st"
   have hmany:(8*(octs.length:Int)+5).fdiv 6=(((8*octs.length+5)/6:Nat):Int):=znf (8*octs.length+5) 6
   rw [hmany]
   refine ⟨_,_,_,.one _,zda (Int.natCast_nonneg _) (nC ho),?_⟩
   rw [zlZ (k:=(8*octs.length+5)/6) rfl]
   intro D C
   refine zaC (fun (k:Nat)=>.int (k:Int)) (fun (k:Nat)=>.int ((zav octs*2 ^ zaZ octs.length/64 ^ k%64:Nat):Int)) ?_ (by rw [List.length_nil,Nat.zero_add,List.length_range];exact leT (nM ho) rfl) ?_
   ·intro k hk' acc
    have hkb:=List.mem_range.mp hk'
    refine zay (zbw hk rfl) ?_
    repeat walk_at "st"
    refine zn8 (Int.natCast_nonneg _) (zoe (k:=7) (by decide) (Int.natCast_nonneg _) (nE hkb ho)) ?_
    have hp64:(64:Int) ^ (k:Int).toNat=((64 ^ k:Nat):Int):=by rw [Int.toNat_natCast,Int.natCast_pow];rfl
    rw [hp64]
    have hlt64:64 ^ k < 2 ^ 200:=by
     have:(64:Nat)=2 ^ 6:=by decide
     rw [this,<- Nat.pow_mul]
     exact Nat.pow_lt_pow_right (by decide) (nF hkb ho)
    have hpos64:0 < 64 ^ k:=Nat.pow_pos (by decide)
    refine zrA (nP k) (PyProof.noPylong_of_log2 ?_) ?_
    ·rw [Int.natAbs_natCast]
     have:=(Nat.log2_lt (n:=64 ^ k) (Nat.ne_of_gt hpos64)).mpr hlt64
     exact Nat.lt_trans this (by decide)
    repeat walk_at "st"
    rw [znf]
    have e64:((zav octs*2 ^ zaZ octs.length/64 ^ k:Nat):Int).fmod 64=((zav octs*2 ^ zaZ octs.length/64 ^ k%64:Nat):Int):=zo0 _ 64
    rw [e64]
    exact ⟨rfl,rfl,by walk_at "sub"⟩
   refine zb ?_
   repeat walk_at "st"
   refine zau ?_
   repeat walk_at "st"
   refine ⟨_,zcx,?_⟩
   repeat walk_at "st"
   refine zaI (cl:=[("table",L+1)]) (caps:=["table"]) ⟨rfl,rfl,rfl,rfl,fun x hx=>?_⟩ ?_
   ·rw [List.mem_singleton] at hx;subst hx;exact ⟨rfl,rfl,rfl⟩
   refine zh7 hr.deeper ?_
   refine zg hk hrev ?_
   refine ⟨rfl,?_⟩
   repeat walk_at "st"
   refine ⟨_,rfl,?_⟩
   intro D' C'
   have hfig:([]++(List.range ((8*octs.length+5)/6)).map fun (k:Nat)=>PV.int ((zav octs*2 ^ zaZ octs.length/64 ^ k%64:Nat):Int)).reverse=(zas octs).reverse.map fun (k:Nat)=>PV.int (k:Int):=by
    rw [List.nil_append,zas,<- List.map_reverse,<- List.map_reverse,List.map_map];rfl
   rw [hfig]
   have hfl:(zas octs).length<=20:=by simp -iota only [zas,List.length_map,List.length_range];exact Nat.le_trans (nM ho) (by decide)
   refine zaC (fun (k:Nat)=>.int (k:Int)) (fun (k:Nat)=>tx [(zaG++alts).getD k 0]) ?_ (by simp -iota;lia) ?_
   ·intro k hk' acc
    have zup:k < 64:=by
     rw [List.mem_reverse,zas,List.mem_map] at hk'
     obtain ⟨j,_,rfl⟩:=hk'
     exact Nat.mod_lt _ (by decide)
    refine zay (zbw hk rfl) ?_
    repeat walk_at "st"
    refine zcK (by lia) (by simp -iota;lia) (by simp -iota;lia) ?_
    exact ⟨rfl,rfl,by walk_at "sub"⟩
   repeat walk_at "st"
   have hj:([]++(zas octs).reverse.map fun (k:Nat)=>tx [(zaG++alts).getD k 0])=((zas octs).reverse.map fun k=>[(zaG++alts).getD k 0]).map tx:=by rw [List.nil_append,List.map_map];rfl
   rw [hj]
   refine zfj (by unfold zaT;rw [zkk];simp -iota;lia) ?_
   rw [zbv,zic]
   repeat walk_at "st"
   have h3:=zm (-(octs.length:Int)) 3 (by decide)
   refine zqH (by decide) (nH h3) (nI h3) ?_
   rw [zlu]
   refine zbd (by rw [List.length_map,List.length_reverse,List.length_replicate];exact nJ hfl h3) ?_
   exact zcp.mk [] rfl h
  ·intro I Q back out;rintro x xs _ ⟨v,rest,hx,rfl,hv⟩
   cases rest with
   | nil=>cases hx
   | cons o rest =>
    cases hx
    refine zay hk ?_
    repeat walk_at "st"
    refine zgX (za6 (by decide)) ?_
    repeat walk_at "st"
    refine ⟨_,Sub.weak' (loc':=[("octets",zoG octs),("alts",tx alts),("table",tx (zaG++alts)),("value",.int ((v:Int)*256+o)),("many",.int octs.length)]) (by walk_at "sub") rfl,fun _ h=>h,back _ _ ⟨v*256+o,rest,rfl,rfl,hv⟩⟩
  ·exact ⟨0,octs,rfl,by rw [List.length_map];rfl,rfl⟩
end
section
structure z7 where
 gap:List Nat
 octs:List Nat
 text:List Nat
noncomputable def z7.pv (w:z7):PV:=.tup [tx w.gap,zoG w.octs,tx w.text]
noncomputable def zaH (n:Int):List Nat:=ziJ ((n.fmod 6).toNat+1) (n.fdiv 6)
noncomputable def zaf (alts:List Nat)(bare:Bool):Bool->List Int->List z7
 | _,[]=>[]
 | first,n::ns=>⟨if bare && first then [] else zdJ n,zaH n,writing (zaH n) alts⟩::zaf alts bare false ns
theorem zeX:∀ k q,(ziJ k q).length=k
 | 0,_=>rfl
 | k+1,q=>congrArg (·+1) (zeX k _)
theorem zle (q:Int):zd7 q < 256:=by
 have h2:=zm (q.fdiv 4) 256 (by decide)
 unfold zd7
 generalize (q.fmod 4).toNat=j
 match j with
 | 0=>exact (by decide:190 < 256)
 | 1=>exact (by decide:255 < 256)
 | 2=>exact (by decide:0 < 256)
 | 3=>show ((q.fdiv 4).fmod 256).toNat < 256;omega
 | j+4=>exact (by decide:0 < 256)
theorem zko:∀ k q,∀ o∈ziJ k q,o < 256
 | 0,_,o,h=>absurd (show o∈[] from h) List.not_mem_nil
 | k+1,q,o,h=>by
  rcases List.mem_cons.mp h with rfl | h
  ·exact zle q
  ·exact zko k _ o h
theorem zcS (n:Int):(zaH n).length<=6:=by
 have:=zm n 6 (by decide)
 unfold zaH;rw [zeX];lia
theorem zfX (n:Int):∀ o∈zaH n,o < 256:=zko _ _
variable {g:Gl}{A:Around}{F:Fm}{σ:AS}
theorem zgf {f fw fr:Addr}{ns:List Int}{alts:List Nat}{bare:Bool}{P:PV->AS->Prop}(hr:Rm A 2)(hf:Fn g 28 "_law_words" f)(hw:Fn g 26 "_law_word" fw)(hwr:Fn g 27 "_law_writing" fr)
  (hrange:g.Blt "range" (.type "range")) (hlen:g.Blt "len" (.builtin "len")) (hrev:g.Blt "reversed" (.type "reversed")) (ha:alts.length=2) (hn:ns.length<=100)
  (h:P (.lst ((zaf alts bare true ns).map z7.pv)) σ):CL g A F (.ref f) [.lst (ns.map .int),tx alts,.raw (.bool bare)] σ P:=by
 obtain ⟨c,pm,hfa⟩:=hf.at_
 obtain ⟨cw,pmw,hfw⟩:=hw.at_
 obtain ⟨cr,pmr,hfr⟩:=hwr.at_
 refine za2 (n:=1) (xs:=["numbers","alts","bare"]) hr hfa (by decide) rfl (fun vs hv=>?_) (by rfl) (by rfl) fun L=>?_
 ·revert vs hv;refine zlj ?_;intros;rfl
 ·have hk:z0 (zap (mkF 28 "_law_words" c pm) L f):=zaj rfl
  refine zb ?_
  repeat walk_at "st"
  refine zao ?_
  walk_at "st"
  refine ⟨by decide,fun D=>?_⟩
  walk_at "st"
  refine zj0 ?_
  repeat walk_at "st"
  have hr0:=hr.deeper (env:=callEnv (mkF 28 "_law_words" c pm) L f)
  refine ⟨_,zcz (hr0.le (Nat.zero_le _)),?_⟩
  refine zaQ (fun xs σ'=>∃ (done:List z7) (rest:List Int),xs=rest.map .int/\σ'=⟨[("numbers",.lst (ns.map .int)),("alts",tx alts),("bare",.raw (.bool bare)),("words",.raw (.ref D))],(D,.list (done.map z7.pv))::σ.zone⟩/\done++zaf alts bare done.isEmpty rest=zaf alts bare true ns/\done.length+rest.length<=100) ?_ ?_ _ _ ?_
  ·rintro _ ⟨done,rest,hx,rfl,hd,hl⟩
   have hrest:rest=[]:=by cases rest with | nil=>rfl | cons a b=>cases hx
   subst hrest
   walk_at "st"
   refine zb (zan (zfL ?_))
   walk_at "st"
   refine ⟨D,_,_,rfl,rfl,zcp.mk [] rfl ?_⟩
   have e:done=zaf alts bare true ns:=by rw [<- hd];exact (List.append_nil _).symm
   rw [e];exact h
  ·intro I Q back out;rintro x xs _ ⟨done,rest,hx,rfl,hd,hl⟩
   cases rest with
   | nil=>cases hx
   | cons n rest =>
    cases hx
    refine zay hk ?_
    refine zb ?_
    refine zaM (hr0.le (Nat.zero_le _)) ?_
    refine zw hfw ?_
    refine zl hk hw.glob ?_
    refine ⟨rfl,?_⟩
    repeat walk_at "st"
    refine zg8 hr0 hfw hrange ?_
    refine ⟨_,rfl,rfl,?_⟩
    repeat walk_at "asg"
    refine zb ?_
    walk_at "st"
    refine zai ?_
    repeat walk_at "st"
    refine ⟨D,_,rfl,List.mem_cons_self,?_⟩
    walk_at "st"
    walk_at "st"
    have hdl:done.length<=100:=by simp -iota at hl;lia
    refine zgR (tx (if bare && done.isEmpty then [] else zdJ n)) ?_ ?_
    ·refine zkn ?_
     refine zkz (bare && done.isEmpty) ?_ ?_
     ·walk_at "st"
      refine zn ?_
      repeat walk_at "st"
      cases bare with
      | false=>exact ⟨rfl,rfl⟩
      | true =>
       refine zn ?_
       refine zgL ?_
       repeat walk_at "st"
       refine zt0 List.mem_cons_self (by rw [List.length_map];lia) ?_
       have e:(List.map z7.pv done).isEmpty=done.isEmpty:=by cases done <;> rfl
       rw [e]
       cases done with
       | nil=>exact zbG ⟨rfl,rfl⟩
       | cons a b=>exact ⟨rfl,rfl⟩
     ·cases bare && done.isEmpty with
      | false =>
       show EV _ _ _ _ _ _
       repeat walk_at "st"
       exact ⟨rfl,rfl⟩
      | true =>
       show EV _ _ _ _ _ _
       repeat walk_at "st"
       exact ⟨rfl,rfl⟩
    repeat walk_at "st"
    refine zw hfr ?_
    refine zl hk hwr.glob ?_
    refine ⟨rfl,?_⟩
    repeat walk_at "st"
    refine zeL (octs:=zaH n) hr0 hfr hrange hlen hrev (by have:=zcS n;lia) (zfX n) ha ?_
    repeat walk_at "st"
    refine ⟨_,_,.head,by rw [List.length_map];lia,?_⟩
    repeat walk_at "st"
    refine ⟨_,Sub.weak' (loc':=[("numbers",.lst (ns.map .int)),("alts",tx alts),("bare",.raw (.bool bare)),("words",.raw (.ref D))]) (by walk_at "sub") rfl,fun _ h=>h,back _ _ ⟨done++[⟨if bare && done.isEmpty then [] else zdJ n,zaH n,writing (zaH n) alts⟩],rest,rfl,?_,?_,?_⟩⟩
    ·rw [List.map_append];rfl
    ·rw [<- hd]
     have e:(done++[(⟨if bare && done.isEmpty then [] else zdJ n,zaH n,writing (zaH n) alts⟩:z7)]).isEmpty=false:=by simp -iota
     rw [e]
     exact List.append_assoc _ _ _
    ·simp -iota at hl ⊢;lia
  ·exact ⟨[],ns,rfl,rfl,rfl,by simpa -iota using hn⟩
end
section
noncomputable def zed (x:Int):List Nat:=[zbH.getD (x.fmod 20).toNat 0,zbH.getD ((x.fmod 20+1+(x.fdiv 20).fmod 19).fmod 20).toNat 0]
noncomputable def zbc (c:Nat):List Nat:=if c∈[32,9] then [42]++[c]++[91,33,32,9,93,42] else [42,91,32,9,93]++(if c∈[42,63,91] then [91]++[c]++[93] else [c])++[42]
noncomputable def zby (octs alts:List Nat):List Nat:=if octs.length%3≠0 then [61] else (([(62,[alts.getD 0 0]),(63,[alts.getD 1 0])]:List (Nat × List Nat)).lookup (octs.getD (octs.length - 1) 0%64)).getD []
variable {g:Gl}{A:Around}{F:Fm}{σ:AS}
theorem zhc {f:Addr}{x:Int}{P:PV->AS->Prop}(hr:Rm A 1)(hf:Fn g 25 "_law_alts" f)(h:P (tx (zed x)) σ):CL g A F (.ref f) [.int x] σ P:=by
 obtain ⟨c,pm,hfa⟩:=hf.at_
 refine za2 (n:=0) (xs:=["x"]) hr hfa (by decide) rfl (fun vs hv=>?_) (by rfl) (by rfl) fun L=>?_
 ·revert vs hv;refine zcV ?_;intros;rfl
 ·have hk:z0 (zap (mkF 25 "_law_alts" c pm) L f):=zaj rfl
  have h1:=zm x 20 (by decide)
  have h2:=zm (x.fmod 20+1+(x.fdiv 20).fmod 19) 20 (by decide)
  have hl:zbH.length=20:=rfl
  refine zb ?_
  repeat walk_at "st"
  refine zcK h1.1 (by rw [hl];exact h1.2) (by rw [hl];decide) ?_
  repeat walk_at "st"
  refine zcK h2.1 (by rw [hl];exact h2.2) (by rw [hl];decide) ?_
  refine zbd (by simp) ?_
  exact zcp.mk [] rfl h
theorem zeH {f:Addr}{x:Nat}{P:PV->AS->Prop}(hr:Rm A 1)(hf:Fn g 29 "_law_pattern" f)(h:P (tx (zbc x)) σ):CL g A F (.ref f) [tx [x]] σ P:=by
 obtain ⟨c,pm,hfa⟩:=hf.at_
 refine za2 (n:=0) (xs:=["sign"]) hr hfa (by decide) rfl (fun vs hv=>?_) (by rfl) (by rfl) fun L=>?_
 ·revert vs hv;refine zcV ?_;intros;rfl
 ·have hk:z0 (zap (mkF 29 "_law_pattern" c pm) L f):=zaj rfl
  refine zb ?_
  repeat walk_at "st"
  unfold zbc at h
  by_cases hc:x∈[32,9]
  ·rw [if_pos hc] at h
   rw [decide_eq_true hc]
   show EXs _ _ _ _ _ _
   repeat walk_at "st"
   refine zbd (by simp) ?_
   repeat walk_at "st"
   refine zbd (by simp) ?_
   exact zcp.mk [] rfl h
  ·rw [if_neg hc] at h
   rw [decide_eq_false hc]
   show EXs _ _ _ _ _ _
   repeat walk_at "st"
   by_cases hc2:x∈[42,63,91]
   ·rw [if_pos hc2] at h
    rw [decide_eq_true hc2]
    show EV _ _ _ _ _ _
    repeat walk_at "st"
    refine zbd (by simp) ?_
    repeat walk_at "st"
    refine zbd (by simp) ?_
    refine zbd (by simp) ?_
    repeat walk_at "st"
    refine zbd (by simp) ?_
    exact zcp.mk [] rfl h
   ·rw [if_neg hc2] at h
    rw [decide_eq_false hc2]
    show EV _ _ _ _ _ _
    repeat walk_at "st"
    refine zbd (by simp) ?_
    repeat walk_at "st"
    refine zbd (by simp) ?_
    exact zcp.mk [] rfl h
theorem zha {f:Addr}{octs alts:List Nat}{P:PV->AS->Prop}(hr:Rm A 1)(hf:Fn g 31 "_law_last" f)(hlen:g.Blt "len" (.builtin "len"))(ho:octs.length<=8)(h0:octs≠[])(ha:alts.length=2)(h:P (tx (zby octs alts)) σ):CL g A F (.ref f) [zoG octs,tx alts] σ P:=by
 obtain ⟨c,pm,hfa⟩:=hf.at_
 refine za2 (n:=0) (xs:=["octets","alts"]) hr hfa (by decide) rfl (fun vs hv=>?_) (by rfl) (by rfl) fun L=>?_
 ·revert vs hv;refine zkR ?_;intros;rfl
 ·have hk:z0 (zap (mkF 31 "_law_last" c pm) L f):=zaj rfl
  refine zb ?_
  repeat walk_at "st"
  refine zh ?_
  refine zg hk hlen ?_
  refine ⟨_,rfl,rfl,?_⟩
  repeat walk_at "st"
  refine zdH (by rw [List.length_map];lia) ?_
  repeat walk_at "st"
  refine zpy ?_
  rw [List.length_map]
  have e3:(octs.length:Int).fmod 3=((octs.length%3:Nat):Int):=zo0 _ 3
  rw [e3]
  unfold zby at h
  by_cases hc:octs.length%3≠0
  ·rw [if_pos hc] at h
   have:((octs.length%3:Nat):Int)≠0:=by lia
   rw [show (((octs.length%3:Nat):Int) != 0)=true from by simpa using this]
   show EXs _ _ _ _ _ _
   repeat walk_at "st"
   exact zcp.mk [] rfl h
  ·rw [if_neg hc] at h
   have:((octs.length%3:Nat):Int)=0:=by lia
   rw [this]
   show EXs _ _ _ _ _ _
   repeat walk_at "st"
   refine zix ?_
   refine zj5 ?_
   repeat walk_at "st"
   refine zcK (by decide) (by rw [ha];decide) (by rw [ha];decide) ?_
   refine zj5 ?_
   repeat walk_at "st"
   refine zcK (by decide) (by rw [ha];decide) (by rw [ha];decide) ?_
   refine zoP ?_
   refine ⟨[(62,tx [alts.getD 0 0]),(63,tx [alts.getD 1 0])],rfl,(by decide:([62,63]:List Int).Nodup),?_⟩
   repeat walk_at "st"
   refine zjX (.int 0) (by simpa using h0) (by rw [List.length_map];lia) ?_
   have el:(octs.map fun (k:Nat)=>PV.int (k:Int)).getD ((octs.map fun (k:Nat)=>PV.int (k:Int)).length - 1) (.int 0)=.int (octs.getD (octs.length - 1) 0:Nat):=by
    rw [List.length_map]
    have hne:octs.length≠0:=fun q=>h0 (List.eq_nil_of_length_eq_zero q)
    rw [List.getD_eq_getElem?_getD,List.getD_eq_getElem?_getD,List.getElem?_map,List.getElem?_eq_getElem (by lia)];rfl
   rw [el]
   repeat walk_at "st"
   have e64:((octs.getD (octs.length - 1) 0:Nat):Int).fmod 64=((octs.getD (octs.length - 1) 0%64:Nat):Int):=zo0 _ 64
   rw [e64]
   refine ⟨_,rfl,?_⟩
   repeat walk_at "st"
   refine zcp.mk [] rfl ?_
   show P ((List.lookup _ _).getD _) _
   have ef:((List.lookup ((octs.getD (octs.length - 1) 0%64:Nat):Int) [(62,tx [alts.getD 0 0]),(63,tx [alts.getD 1 0])]).getD (tx []))=tx (((([(62,[alts.getD 0 0]),(63,[alts.getD 1 0])]:List (Nat × List Nat))).lookup (octs.getD (octs.length - 1) 0%64)).getD []):=by
    generalize octs.getD (octs.length - 1) 0%64=m
    by_cases h62:m=62
    ·subst h62;rfl
    ·by_cases h63:m=63
     ·subst h63;rfl
     ·have a1:(m==62)=false:=by simpa using h62
      have a2:(m==63)=false:=by simpa using h63
      have b1:((m:Int)==62)=false:=by rw [beq_eq_false_iff_ne];lia
      have b2:((m:Int)==63)=false:=by rw [beq_eq_false_iff_ne];lia
      simp only [List.lookup_cons,a1,a2,b1,b2,List.lookup_nil];rfl
   rw [ef]
   exact h
end
section
noncomputable def zbL (row:List z7)(sign:Nat)(alts:List Nat)(i:Nat):Bool:=decide (((row.getD (i+1) ⟨[],[],[]⟩).gap.getD 0 0)=sign) || decide (zby (row.getD i ⟨[],[],[]⟩).octs alts=[sign])
noncomputable def zaE (row:List z7)(sign:Nat)(alts:List Nat):Nat:=match ((List.range (row.length - 1)).filter (zbL row sign alts)).getLast? with | some i=>i+1 | none=>0
structure za0 (row:List z7):Prop where
 len:row.length<=50
 gap:∀ i w,row[i+1]?=some w->w.gap≠[]
 gapL:∀ w∈row,w.gap.length<=5
 octs:∀ w∈row,w.octs≠[]/\w.octs.length<=8
 text:∀ w∈row,w.text≠[]/\w.text.length<=50
noncomputable def zbe (row:List z7):PV:=.lst (row.map z7.pv)
variable {g:Gl}{A:Around}{F:Fm}{σ:AS}
theorem zoO {row:List z7}{i:Nat}(h:i < row.length):(row.map z7.pv).getD i (.int 0)=(row.getD i ⟨[],[],[]⟩).pv:=by
 rw [List.getD_eq_getElem?_getD,List.getD_eq_getElem?_getD,List.getElem?_map,List.getElem?_eq_getElem h];rfl
theorem zjH {row:List z7}{i:Nat}(h:i < row.length):row.getD i ⟨[],[],[]⟩∈row:=by
 rw [List.getD_eq_getElem?_getD,List.getElem?_eq_getElem h];exact List.getElem_mem h
section
variable {P:PV->AS->Prop}{value slice:Expr}
theorem zkc {row:List z7}{i:Nat}(hi:i < row.length)(hz:row.length<=50)(h:P (row.getD i ⟨[],[],[]⟩).pv σ)
  (hs:∀ v u,subscripted slice false v u=operate [v,u] (getItem v u):=by left):IX g A F value slice (zbe row) (.int (i:Int)) σ P :=
 zmp (.int 0) (by lia) (by rw [List.length_map];lia) (by rw [List.length_map];lia) (by rw [Int.toNat_natCast,zoO hi];exact h) hs
theorem zhG {w:z7}(h:P (tx w.gap) σ)
  (hs:∀ v u,subscripted slice false v u=operate [v,u] (getItem v u):=by left):IX g A F value slice w.pv (.int 0) σ P:=zfe (.int 0) (by decide) (by show (0:Int) < 3;decide) (by exact Nat.le_of_ble_eq_true rfl) h hs
theorem zkh {w:z7}(h:P (zoG w.octs) σ)
  (hs:∀ v u,subscripted slice false v u=operate [v,u] (getItem v u):=by left):IX g A F value slice w.pv (.int 1) σ P:=zfe (.int 0) (by decide) (by show (1:Int) < 3;decide) (by exact Nat.le_of_ble_eq_true rfl) h hs
theorem zku {w:z7}(h:P (tx w.text) σ)
  (hs:∀ v u,subscripted slice false v u=operate [v,u] (getItem v u):=by left):IX g A F value slice w.pv (.int 2) σ P:=zfe (.int 0) (by decide) (by show (2:Int) < 3;decide) (by exact Nat.le_of_ble_eq_true rfl) h hs
end
theorem zdM {f fl:Addr}{row:List z7}{sign:Nat}{alts:List Nat}{P:PV->AS->Prop}(hr:Rm A 2)(hf:Fn g 32 "_law_by_octets" f)(hfl:Fn g 31 "_law_last" fl)(hlen:g.Blt "len" (.builtin "len"))(hrange:g.Blt "range" (.type "range"))
  (ok:za0 row) (ha:alts.length=2) (h:P (.int (zaE row sign alts:Nat)) σ):CL g A F (.ref f) [zbe row,tx [sign],tx alts] σ P:=by
 obtain ⟨c,pm,hfa⟩:=hf.at_
 refine zoi (n:=1) (xs:=["row","sign","alts"]) hr hfa rfl (by decide) rfl (fun vs hv=>?_) (by rfl) (by rfl) fun L=>?_
 ·revert vs hv;refine zlj ?_;intros;rfl
 ·have hk:z0 (zbr (mkF 32 "_law_by_octets" c pm) L f):=zgY rfl
  have hr1:=hr.deeper (env:=callEnvC (mkF 32 "_law_by_octets" c pm) L f)
  have hlenrow:=ok.len
  refine zb ?_
  refine zbD (cl:=[("sign",L+2),("row",L+1),("alts",L+3)]) (caps:=["row","sign","alts"]) hk ⟨rfl,rfl,rfl,rfl,fun x hx=>?_⟩ ?_
  ·simp -iota only [List.mem_cons,List.not_mem_nil,or_false] at hx
   rcases hx with rfl | rfl | rfl <;> exact ⟨rfl,rfl,rfl⟩
  refine zcH (hr1.le (Nat.zero_le _)) ?_
  refine zg hk hrange ?_
  refine ⟨rfl,?_⟩
  repeat walk_at "st"
  refine zh ?_
  refine zg hk hlen ?_
  refine ⟨_,rfl,rfl,?_⟩
  repeat walk_at "st"
  refine zdH (by rw [List.length_map];lia) ?_
  repeat walk_at "st"
  rw [List.length_map]
  refine ⟨_,_,_,.two _ _,zie (by lia),?_⟩
  rw [zqR]
  intro D C
  refine zca (fun (i:Nat)=>.int ((i+1:Nat):Int)) (fun (i:Nat)=>.int ((i+1:Nat):Int)) (zbL row sign alts) ?_ (by simp -iota;lia) ?_
  ·intro i hi acc
   have hib:=List.mem_range.mp hi
   refine zay (zbw hk rfl) ?_
   have hw:=zjH (row:=row) (i:=i) (by lia)
   have hw1:=zjH (row:=row) (i:=i+1) (by lia)
   have hgne:(row.getD (i+1) ⟨[],[],[]⟩).gap≠[]:=ok.gap i _ (by rw [List.getD_eq_getElem?_getD,List.getElem?_eq_getElem (by lia)];rfl)
   have hgl:=ok.gapL _ hw1
   have hgpos:(row.getD (i+1) ⟨[],[],[]⟩).gap.length≠0:=fun q=>hgne (List.eq_nil_of_length_eq_zero q)
   refine zkz (zbL row sign alts i) ?_ ⟨rfl,?_⟩
   ·walk_at "st"
    refine zn ?_
    repeat walk_at "st"
    refine zkc (by lia) ok.len ?_
    repeat walk_at "st"
    refine zhG ?_
    repeat walk_at "st"
    refine zcK (by decide) (by lia) (by lia) ?_
    repeat walk_at "st"
    unfold zbL
    by_cases h1:(row.getD (i+1) ⟨[],[],[]⟩).gap.getD 0 0=sign
    ·have e1:decide ([(row.getD (i+1) ⟨[],[],[]⟩).gap.getD (0:Int).toNat 0]=[sign])=true:=decide_eq_true (by rw [show (0:Int).toNat=0 from rfl,h1])
     rw [e1]
     rw [decide_eq_true h1]
     exact ⟨rfl,rfl⟩
    ·have e1:decide ([(row.getD (i+1) ⟨[],[],[]⟩).gap.getD (0:Int).toNat 0]=[sign])=false:=decide_eq_false (fun q=>h1 (by simpa -iota using q))
     rw [e1]
     rw [decide_eq_false h1]
     refine zn ?_
     refine ze ?_
     refine zw hfl.at_.choose_spec.choose_spec ?_
     refine zl (zbw hk rfl) hfl.glob ?_
     refine ⟨rfl,?_⟩
     repeat walk_at "st"
     rw [show ((i+1:Nat):Int) - 1=(i:Int) by lia]
     refine zkc (by lia) ok.len ?_
     repeat walk_at "st"
     refine zkh ?_
     repeat walk_at "st"
     refine zha hr1 hfl hlen (ok.octs _ hw).2 (ok.octs _ hw).1 ha ?_
     repeat walk_at "st"
     by_cases h2:zby (row.getD i ⟨[],[],[]⟩).octs alts=[sign]
     ·rw [decide_eq_true h2];exact ⟨rfl,rfl⟩
     ·rw [decide_eq_false h2];exact zbG ⟨rfl,rfl⟩
   ·cases zbL row sign alts i with
    | false=>exact ⟨rfl,by walk_at "sub"⟩
    | true =>
     show EV _ _ _ _ _ _
     repeat walk_at "st"
     exact ⟨rfl,rfl,by walk_at "sub"⟩
  ·rw [List.nil_append]
   refine zb ?_
   repeat walk_at "st"
   unfold zaE at h
   have hpl:((List.range (row.length - 1)).filter (zbL row sign alts)).length<=50:=Nat.le_trans (List.length_filter_le _ _) (by rw [List.length_range];lia)
   generalize (List.range (row.length - 1)).filter (zbL row sign alts)=ps at h hpl ⊢
   refine zmy (by rw [List.length_map];lia) ?_
   by_cases hps:ps=[]
   ·subst hps
    show EV _ _ _ _ _ _
    repeat walk_at "st"
    exact zcp.mk [] rfl h
   ·have hne:ps.length≠0:=fun q=>hps (List.eq_nil_of_length_eq_zero q)
    have e1:(!(ps.map fun (i:Nat)=>PV.int ((i+1:Nat):Int)).isEmpty)=true:=by
     cases ps with
     | nil=>exact absurd rfl hps
     | cons a b=>rfl
    unfold zfc
    rw [e1,if_pos rfl]
    repeat walk_at "st"
    refine zjX (.int 0) (by simpa -iota using hps) (by rw [List.length_map];lia) ?_
    refine zcp.mk [] rfl ?_
    rw [List.getLast?_eq_getElem?,List.getElem?_eq_getElem (by lia)] at h
    have e2:(ps.map fun (i:Nat)=>PV.int ((i+1:Nat):Int)).getD ((ps.map fun (i:Nat)=>PV.int ((i+1:Nat):Int)).length - 1) (.int 0)=.int ((ps[ps.length - 1]+1:Nat):Int):=by
     rw [List.length_map,List.getD_eq_getElem?_getD,List.getElem?_map,List.getElem?_eq_getElem (by lia)];rfl
    show P (List.getD _ _ _) _
    rw [e2]
    exact h
end
section
structure zcE where
 barred:Bool
 members:List Nat
noncomputable def zcE.pv (s:zcE):PV:=.tup [.raw (.bool s.barred),tx s.members]
noncomputable def zcE.fits (s:zcE)(c:Nat):Bool:=!(decide (c∈s.members)==s.barred)
noncomputable def z6 (row:List z7):List Nat:=(row.map fun w=>w.gap++w.text).flatten
noncomputable def zag (row:List z7):List Nat:=(z6 row).reverse
noncomputable def zbg:List z7->Int->Nat->Nat
 | [],_,i=>i
 | w::r,a,i=>if a > 0 then zbg r (a - (w.gap.length+w.text.length:Nat)) (i+1) else i
theorem zfk {w:z7}{r:List z7}{a:Int}{i:Nat}:zbg (w::r) a i=if a > 0 then zbg r (a - (w.gap.length+w.text.length:Nat)) (i+1) else i:=rfl
noncomputable def zfC (row:List z7)(s0 s1:zcE)(i:Nat):Bool:=s0.fits ((zag row).getD i 0) && s1.fits ((zag row).getD (i+1) 0)
noncomputable def zbf (row:List z7)(s0 s1:zcE):Nat:=match (List.range ((zag row).length - 1)).find? (zfC row s0 s1) with | some at_=>zbg row ((zag row).length - at_ - 1:Int) 0 | none=>0
theorem zb0 (row:List z7):(z6 row).length=(row.map fun w=>w.gap.length+w.text.length).sum:=by
 unfold z6
 rw [List.length_flatten,List.map_map]
 congr 1
 exact List.map_congr_left fun w _=>List.length_append
theorem zh0 {row:List z7}(ok:za0 row):(z6 row).length<=55*row.length:=by
 rw [zb0]
 have:∀ l:List z7,(∀ w∈l,w∈row)->(l.map fun w=>w.gap.length+w.text.length).sum<=55*l.length:=by
  intro l
  induction l with
  | nil=>intro _;simp
  | cons w r ih =>
   intro h
   have h1:=ok.gapL w (h w List.mem_cons_self)
   have h2:=(ok.text w (h w List.mem_cons_self)).2
   have h3:=ih fun x hx=>h x (List.mem_cons_of_mem _ hx)
   simp only [List.map_cons,List.sum_cons,List.length_cons]
   lia
 exact this row fun w h=>h
theorem zkL {row:List z7}(ok:za0 row)(h:row≠[]):1<=(z6 row).length:=by
 cases row with
 | nil=>exact absurd rfl h
 | cons w r =>
  rw [zb0]
  have:=(ok.text w List.mem_cons_self).1
  have:w.text.length≠0:=fun q=>this (List.eq_nil_of_length_eq_zero q)
  simp only [List.map_cons,List.sum_cons]
  lia
variable {g:Gl}{A:Around}{F:Fm}{σ:AS}
section
variable {P:PV->AS->Prop}{value slice:Expr}
theorem zqO {p:PV}{l:List PV}(hz:l.length<=1000)(h:P p σ)
  (hs:∀ v u,subscripted slice false v u=operate [v,u] (getItem v u):=by left):IX g A F value slice (.lst (p::l)) (.int 0) σ P :=
 zmp (.int 0) (by decide) (by simp only [List.length_cons];lia) (by simp only [List.length_cons];lia) h hs
theorem zq6 {p q:PV}{l:List PV}(hz:l.length<=1000)(h:P q σ)
  (hs:∀ v u,subscripted slice false v u=operate [v,u] (getItem v u):=by left):IX g A F value slice (.lst (p::q::l)) (.int 1) σ P :=
 zmp (.int 0) (by decide) (by simp;lia) (by simp;lia) h hs
theorem zjZ {c:zcE}(h:P (.raw (.bool c.barred)) σ)
  (hs:∀ v u,subscripted slice false v u=operate [v,u] (getItem v u):=by left):IX g A F value slice c.pv (.int 0) σ P:=zfe (.int 0) (by decide) (by show (0:Int) < 2;decide) (by exact Nat.le_of_ble_eq_true rfl) h hs
theorem zkA {c:zcE}(h:P (tx c.members) σ)
  (hs:∀ v u,subscripted slice false v u=operate [v,u] (getItem v u):=by left):IX g A F value slice c.pv (.int 1) σ P:=zfe (.int 0) (by decide) (by show (1:Int) < 2;decide) (by exact Nat.le_of_ble_eq_true rfl) h hs
end
theorem znq {row:List z7}{i:Nat}(h:i < row.length):((row.drop i).map fun w=>w.gap.length+w.text.length).sum=((row.getD i ⟨[],[],[]⟩).gap.length+(row.getD i ⟨[],[],[]⟩).text.length)+((row.drop (i+1)).map fun w=>w.gap.length+w.text.length).sum:=by
 rw [List.drop_eq_getElem_cons h,List.map_cons,List.sum_cons,List.getD_eq_getElem?_getD,List.getElem?_eq_getElem h];rfl
theorem zh5 {row:List z7}{i:Nat}{a:Int}(h:i < row.length)(ha:a > 0):zbg (row.drop i) a i=zbg (row.drop (i+1)) (a - ((row.getD i ⟨[],[],[]⟩).gap.length+(row.getD i ⟨[],[],[]⟩).text.length:Nat)) (i+1):=by
 rw [List.drop_eq_getElem_cons h]
 conv=>lhs;rw [zfk]
 rw [if_pos ha,List.getD_eq_getElem?_getD,List.getElem?_eq_getElem h];rfl
theorem zh6 {l:List z7}{i:Nat}{a:Int}(ha:¬ a > 0):zbg l a i=i:=by
 cases l with
 | nil=>rfl
 | cons w r=>rw [zfk];rw [if_neg ha]
theorem zc9 {f:Addr}{row:List z7}{s0 s1:zcE}{P:PV->AS->Prop}(hr:Rm A 1)(hf:Fn g 33 "_law_by_pattern" f)(hlen:g.Blt "len" (.builtin "len"))(hrange:g.Blt "range" (.type "range"))
  (ok:za0 row) (hne:row≠[]) (h:P (.int (zbf row s0 s1:Nat)) σ):CL g A F (.ref f) [zbe row,.lst [s0.pv,s1.pv]] σ P:=by
 obtain ⟨c,pm,hfa⟩:=hf.at_
 refine za2 (n:=0) (xs:=["row","sets"]) hr hfa (by decide) rfl (fun vs hv=>?_) (by rfl) (by rfl) fun L=>?_
 ·revert vs hv;refine zkR ?_;intros;rfl
 ·have hk:z0 (zap (mkF 33 "_law_by_pattern" c pm) L f):=zaj rfl
  have hr0:=hr.deeper (env:=callEnv (mkF 33 "_law_by_pattern" c pm) L f)
  have hlenrow:=ok.len
  have hle:=zh0 ok
  have hpos:=zkL ok hne
  have hbl:(zag row).length=(z6 row).length:=List.length_reverse
  refine zb ?_
  refine zd hk ?_
  refine zjq ?_
  refine zau ?_
  repeat walk_at "st"
  refine ⟨_,zcx,?_⟩
  repeat walk_at "st"
  refine zaI (cl:=[]) (caps:=[]) ⟨rfl,rfl,rfl,rfl,fun x hx=>by simp -iota at hx⟩ ?_
  refine zcy ?_
  repeat walk_at "st"
  refine ⟨_,zcz hr0,fun D C=>?_⟩
  refine zaC z7.pv (fun w=>tx (w.gap++w.text)) ?_ (by simp -iota;lia) ?_
  ·intro w hw acc
   have h1:=ok.gapL w hw
   have h2:=(ok.text w hw).2
   refine zdp hr0 rfl ?_
   repeat walk_at "asg"
   repeat walk_at "st"
   refine zbd (by lia) ?_
   exact ⟨rfl,rfl,by walk_at "sub"⟩
  repeat walk_at "st"
  have hj:([]++row.map fun w=>tx (w.gap++w.text))=(row.map fun w=>w.gap++w.text).map tx:=by rw [List.nil_append,List.map_map];rfl
  rw [hj]
  refine zfj (by
   unfold zaT
   have:((row.map fun w=>w.gap++w.text).map (·.length)).sum=(z6 row).length:=by rw [zb0,List.map_map];congr 1;exact List.map_congr_left fun w _=>List.length_append
   rw [this];simp -iota;lia) ?_
  rw [zbv]
  refine ⟨z6 row,rfl,by lia,?_⟩
  repeat walk_at "st"
  refine ⟨rfl,?_⟩
  show EXs _ _ _ _ _ _
  refine zb ?_
  refine zdP ?_
  refine zcH hr0 ?_
  refine zg hk hrange ?_
  refine ⟨rfl,?_⟩
  repeat walk_at "st"
  refine zh ?_
  refine zg hk hlen ?_
  refine ⟨_,rfl,rfl,?_⟩
  repeat walk_at "st"
  refine zba (by rw [List.length_reverse];lia) ?_
  repeat walk_at "st"
  refine ⟨_,_,_,.one _,?_,?_⟩
  ·rw [List.length_reverse];exact zda (by lia) (by lia)
  rw [zlZ (k:=(zag row).length - 1) (by rw [hbl,List.length_reverse];lia)]
  refine zaQ (fun xs σ'=>∃ rest:List Nat,xs=rest.map (fun (i:Nat)=>.int (i:Int))/\(∀ i∈rest,i+1 < (zag row).length)/\σ'=⟨[("row",zbe row),("sets",.lst [s0.pv,s1.pv]),("back",tx (zag row))],σ.zone⟩/\rest.find? (zfC row s0 s1)=(List.range ((zag row).length - 1)).find? (zfC row s0 s1)) ?_ ?_ _ _ ?_
  ·rintro _ ⟨rest,hx,hb,rfl,hfind⟩
   have hrest:rest=[]:=by cases rest with | nil=>rfl | cons a b=>cases hx
   subst hrest
   walk_at "st"
   refine zb ?_
   repeat walk_at "st"
   refine zcp.mk [] rfl ?_
   unfold zbf at h
   rw [<- hfind] at h
   exact h
  ·intro I Q back out;rintro x xs _ ⟨rest,hx,hb,rfl,hfind⟩
   cases rest with
   | nil=>cases hx
   | cons a rest =>
    cases hx
    have hab:=hb a List.mem_cons_self
    refine zay hk ?_
    refine zb ?_
    refine zaA ?_
    refine zkz (zfC row s0 s1 a) ?_ ?_
    ·walk_at "st"
     refine zn ?_
     refine ze ?_
     repeat walk_at "st"
     refine zcK (by lia) (by lia) (by lia) ?_
     repeat walk_at "st"
     refine zqO (by exact Nat.le_of_ble_eq_true rfl) ?_
     repeat walk_at "st"
     refine zkA ?_
     repeat walk_at "st"
     refine zqO (by exact Nat.le_of_ble_eq_true rfl) ?_
     repeat walk_at "st"
     refine zjZ ?_
     repeat walk_at "st"
     show match BoolOp.And,s0.fits ((zag row).getD a 0) with | .And,false=>_ | .Or,true=>_ | _,_=>_
     unfold zfC
     cases hf0:s0.fits ((zag row).getD a 0) with
     | false=>exact ⟨rfl,rfl⟩
     | true =>
      refine zn ?_
      refine ze ?_
      repeat walk_at "st"
      rw [show (a:Int)+1=((a+1:Nat):Int) by lia]
      refine zcK (by lia) (by lia) (by lia) ?_
      repeat walk_at "st"
      refine zq6 (by exact Nat.zero_le _) ?_
      repeat walk_at "st"
      refine zkA ?_
      repeat walk_at "st"
      refine zq6 (by exact Nat.zero_le _) ?_
      repeat walk_at "st"
      refine zjZ ?_
      repeat walk_at "st"
      show match BoolOp.And,s1.fits ((zag row).getD (a+1) 0) with | .And,false=>_ | .Or,true=>_ | _,_=>_
      cases hf1:s1.fits ((zag row).getD (a+1) 0) with
      | false=>exact ⟨rfl,rfl⟩
      | true=>exact zbG ⟨rfl,rfl⟩
    ·cases hfa:zfC row s0 s1 a with
     | false =>
      show EXs _ _ _ _ _ _
      repeat walk_at "st"
      refine ⟨_,Sub.weak' (loc':=[("row",zbe row),("sets",.lst [s0.pv,s1.pv]),("back",tx (zag row))]) (by walk_at "sub") rfl,fun _ h=>h,back _ _ ⟨rest,rfl,fun i hi=>hb i (List.mem_cons_of_mem _ hi),rfl,?_⟩⟩
      rw [<- hfind,List.find?_cons,hfa]
     | true =>
      rw [List.find?_cons,hfa] at hfind
      have hby:zbf row s0 s1=zbg row ((zag row).length - a - 1:Int) 0:=by unfold zbf;rw [<- hfind]
      rw [hby] at h
      show EXs _ _ _ _ _ _
      refine zb ?_
      refine z4 (names:=["ahead","i"]) hr0 ?_
      repeat walk_at "st"
      refine zh ?_
      refine zg hk hlen ?_
      refine ⟨_,rfl,rfl,?_⟩
      repeat walk_at "st"
      refine zba (by lia) ?_
      repeat walk_at "st"
      refine ⟨_,rfl,rfl,?_⟩
      repeat walk_at "asg"
      refine zaS (σ':=⟨[("row",zbe row),("sets",.lst [s0.pv,s1.pv]),("back",tx (zag row)),("at",.int (a:Int)),("ahead",.int ((zag row).length - a - 1:Int)),("i",.int ((0:Nat):Int))],σ.zone⟩) (Sub.weak' (by walk_at "sub") rfl) ?_
      refine zb ?_
      refine zax (fun n σ'=>∃ (i:Nat) (b:Int),σ'=⟨[("row",zbe row),("sets",.lst [s0.pv,s1.pv]),("back",tx (zag row)),("at",.int (a:Int)),("ahead",.int b),("i",.int (i:Int))],σ.zone⟩/\n=row.length - i/\b<=((row.drop i).map fun w=>w.gap.length+w.text.length).sum/\zbg (row.drop i) b i=zbg row ((zag row).length - a - 1:Int) 0) row.length ?_ ?_
      ·refine ⟨0,_,rfl,rfl,?_,rfl⟩
       rw [List.drop_zero,<- zb0];lia
      ·intro I2 Q2 back2 out2;rintro n _ ⟨i,b,rfl,rfl,hb',hgo⟩
       repeat walk_at "st"
       by_cases hpos':b > 0
       ·rw [decide_eq_true hpos']
        have hi:i < row.length:=by
         rcases Nat.lt_or_ge i row.length with q | q
         ·exact q
         ·rw [List.drop_of_length_le q] at hb'
          simp -iota at hb';lia
        have hw:=zjH (row:=row) (i:=i) hi
        have hg:=ok.gapL _ hw
        have ht:=(ok.text _ hw).2
        show EXs _ _ _ _ _ _
        repeat walk_at "st"
        refine zh ?_
        refine zg hk hlen ?_
        refine ⟨_,rfl,rfl,?_⟩
        repeat walk_at "st"
        refine zkc hi ok.len ?_
        repeat walk_at "st"
        refine zhG ?_
        repeat walk_at "st"
        refine zba (by lia) ?_
        repeat walk_at "st"
        refine zh ?_
        refine zg hk hlen ?_
        refine ⟨_,rfl,rfl,?_⟩
        repeat walk_at "st"
        refine zkc hi ok.len ?_
        repeat walk_at "st"
        refine zku ?_
        repeat walk_at "st"
        refine zba (by lia) ?_
        repeat walk_at "st"
        refine ⟨row.length - (i+1),_,by lia,za1.refl,back2 _ _ ⟨i+1,_,rfl,rfl,?_,?_⟩⟩
        ·rw [znq hi] at hb'
         lia
        ·rw [<- hgo,zh5 hi hpos']
         congr 1
       ·rw [decide_eq_false hpos']
        show EXs _ _ _ _ _ _
        repeat walk_at "st"
        refine out _ _ (zcp.mk [] rfl ?_)
        rw [<- hgo,zh6 hpos'] at h
        exact h
  ·refine ⟨List.range ((zag row).length - 1),rfl,fun i hi=>?_,rfl,rfl⟩
   have:=List.mem_range.mp hi
   lia
end
section
structure zbE where
 sign:Nat
 s0:zcE
 s1:zcE
noncomputable def zbE.pv (r:zbE):PV:=.tup [tx [r.sign],.lst [r.s0.pv,r.s1.pv]]
noncomputable def zbl (row:List z7)(alts:List Nat)(turned:Bool)(r:zbE):Nat:=if turned then zbf row r.s0 r.s1 else zaE row r.sign alts
noncomputable def zaL (row:List z7)(rules:List zbE)(alts:List Nat)(turned:Bool):Nat:=((rules.map (zbl row alts turned)).find? (fun i=>decide (0 < i))).getD 0
variable {g:Gl}{A:Around}{F:Fm}{σ:AS}
theorem zgz {f fo fp fl:Addr}{row:List z7}{rules:List zbE}{alts:List Nat}{turned:Bool}{P:PV->AS->Prop}(hr:Rm A 3)(hf:Fn g 34 "_law_place" f)(hfo:Fn g 32 "_law_by_octets" fo)(hfp:Fn g 33 "_law_by_pattern" fp)(hfl:Fn g 31 "_law_last" fl)
  (hlen:g.Blt "len" (.builtin "len")) (hrange:g.Blt "range" (.type "range")) (ok:za0 row) (hne:row≠[]) (ha:alts.length=2) (h:P (.int (zaL row rules alts turned:Nat)) σ) :
  CL g A F (.ref f) [zbe row,.lst (rules.map zbE.pv),tx alts,.raw (.bool turned)] σ P:=by
 obtain ⟨c,pm,hfa⟩:=hf.at_
 refine za2 (n:=2) (xs:=["row","rules","alts","turned"]) hr hfa (by decide) rfl (fun vs hv=>?_) (by rfl) (by rfl) fun L=>?_
 ·revert vs hv;refine zna ?_;intros;rfl
 ·have hk:z0 (zap (mkF 34 "_law_place" c pm) L f):=zaj rfl
  have hr2:=hr.deeper (env:=callEnv (mkF 34 "_law_place" c pm) L f)
  have hr0:=hr2.le (Nat.zero_le _)
  refine zb ?_
  refine zj0 ?_
  repeat walk_at "st"
  refine ⟨_,zcz hr0,?_⟩
  refine zaQ (fun xs σ'=>∃ rest:List zbE,xs=rest.map zbE.pv/\σ'=⟨[("row",zbe row),("rules",.lst (rules.map zbE.pv)),("alts",tx alts),("turned",.raw (.bool turned))],σ.zone⟩/\(rest.map (zbl row alts turned)).find? (fun i=>decide (0 < i))=(rules.map (zbl row alts turned)).find? (fun i=>decide (0 < i))) ?_ ?_ _ _ ⟨rules,rfl,rfl,rfl⟩
  ·rintro _ ⟨rest,hx,rfl,hfind⟩
   have hrest:rest=[]:=by cases rest with | nil=>rfl | cons a b=>cases hx
   subst hrest
   walk_at "st"
   refine zb ?_
   repeat walk_at "st"
   refine zcp.mk [] rfl ?_
   unfold zaL at h
   rw [<- hfind] at h
   exact h
  ·intro I Q back out;rintro x xs _ ⟨rest,hx,rfl,hfind⟩
   cases rest with
   | nil=>cases hx
   | cons r rest =>
    cases hx
    refine zdp hr0 rfl ?_
    repeat walk_at "asg"
    refine zb ?_
    refine zd hk ?_
    refine zgR (.int (zbl row alts turned r:Nat)) ?_ ?_
    ·repeat walk_at "st"
     cases turned with
     | true =>
      show EV _ _ _ _ _ _
      refine zw hfp.at_.choose_spec.choose_spec ?_
      refine zl hk hfp.glob ?_
      refine ⟨rfl,?_⟩
      repeat walk_at "st"
      refine zc9 (hr2.le (by decide)) hfp hlen hrange ok hne ?_
      exact ⟨rfl,rfl⟩
     | false =>
      show EV _ _ _ _ _ _
      refine zw hfo.at_.choose_spec.choose_spec ?_
      refine zl hk hfo.glob ?_
      refine ⟨rfl,?_⟩
      repeat walk_at "st"
      refine zdM (hr2.le (by decide)) hfo hfl hlen hrange ok ha ?_
      exact ⟨rfl,rfl⟩
    repeat walk_at "st"
    rw [List.map_cons,List.find?_cons] at hfind
    by_cases hpos:0 < zbl row alts turned r
    ·rw [decide_eq_true hpos] at hfind
     have e:decide (((zbl row alts turned r:Nat):Int) > 0)=true:=decide_eq_true (by lia)
     rw [e]
     show EXs _ _ _ _ _ _
     repeat walk_at "st"
     refine out _ _ (zcp.mk [] rfl ?_)
     unfold zaL at h
     rw [<- hfind] at h
     exact h
    ·rw [decide_eq_false hpos] at hfind
     have e:decide (((zbl row alts turned r:Nat):Int) > 0)=false:=decide_eq_false (by lia)
     rw [e]
     show EXs _ _ _ _ _ _
     repeat walk_at "st"
     exact ⟨_,Sub.weak' (loc':=[("row",zbe row),("rules",.lst (rules.map zbE.pv)),("alts",tx alts),("turned",.raw (.bool turned))]) (by walk_at "sub") rfl,fun _ h=>h,back _ _ ⟨rest,rfl,rfl,hfind⟩⟩
end
section
noncomputable def z7.size (w:z7):Nat:=w.gap.length+(w.octs.length+2)/3*4
noncomputable def zbp (row:List z7):Nat:=(row.map z7.size).sum
structure zdL where
 rows:List (List z7)
 row:List z7
 head:Nat
noncomputable def z7.fix (w:z7):z7:=⟨if w.gap.isEmpty then [32] else w.gap,w.octs,w.text⟩
noncomputable def zaK (width:Int)(rules:List zbE)(alts:List Nat)(turned:Bool)(st:zdL)(w:z7):zdL :=
 let row:=st.row++[w]
 if (st.head+zbp row:Nat) > width then
  let i:=zaL row rules alts turned
  if 0 < i then ⟨st.rows++[row.take i],row.drop i,0⟩
  else if 0 < st.head then ⟨st.rows++[row.dropLast],[w.fix],0⟩
  else ⟨st.rows,row,st.head⟩
 else ⟨st.rows,row,st.head⟩
noncomputable def zcj (words:List z7)(width:Int)(name:Nat)(rules:List zbE)(alts:List Nat)(turned:Bool):List (List Nat) :=
 let st:=words.foldl (zaK width rules alts turned) ⟨[],[],name⟩
 (st.rows++[st.row]).map z6
theorem zr9 {α:Type}(l:List α)(i:Nat):sl l none (some (i:Int))=l.take i:=by
 unfold sl slo shi
 simp only [Option.elim,List.drop_zero,Nat.sub_zero,clipAt_nat]
 rcases Nat.le_total i l.length with h | h
 ·rw [Nat.min_eq_left h]
 ·rw [Nat.min_eq_right h,List.take_of_length_le h,List.take_length]
theorem zo6 {α:Type}(l:List α)(i:Nat):sl l (some (i:Int)) none=l.drop i:=by
 unfold sl slo shi
 simp only [Option.elim,clipAt_nat]
 rcases Nat.le_total i l.length with h | h
 ·rw [Nat.min_eq_left h,List.take_of_length_le (by simp)]
 ·rw [Nat.min_eq_right h,List.drop_of_length_le (Nat.le_refl _),List.drop_of_length_le h];simp
theorem zlb {α:Type}(l:List α):sl l none (some (-1))=l.dropLast:=by
 unfold sl slo shi
 simp only [Option.elim,List.drop_zero,Nat.sub_zero]
 have:clipAt l.length (-1)=l.length - 1:=clipAt_neg l.length 1 (Nat.le_refl _)
 rw [this,List.dropLast_eq_take]
theorem za0.drop {l:List z7}(h:za0 l)(i:Nat):za0 (l.drop i) :=
 ⟨by have:=h.len;rw [List.length_drop];lia,fun j w e=>h.gap (i+j) w (by rw [List.getElem?_drop] at e;rw [<- e];congr 1),fun w hw=>h.gapL w (List.mem_of_mem_drop hw),fun w hw=>h.octs w (List.mem_of_mem_drop hw),fun w hw=>h.text w (List.mem_of_mem_drop hw)⟩
theorem za0.left {l r:List z7}(h:za0 (l++r)):za0 l :=
 ⟨by have:=h.len;rw [List.length_append] at this;lia,fun j w e=>h.gap j w (by rw [List.getElem?_append_left (by rcases Nat.lt_or_ge (j+1) l.length with q | q;exact q;rw [List.getElem?_eq_none q] at e;cases e)];exact e),fun w hw=>h.gapL w (List.mem_append_left _ hw),fun w hw=>h.octs w (List.mem_append_left _ hw),fun w hw=>h.text w (List.mem_append_left _ hw)⟩
theorem za0.fixed {l r:List z7}{w:z7}(h:za0 (l++(w::r))):za0 (w.fix::r):=by
 have hm:∀ x∈w::r,x∈l++(w::r):=fun x hx=>List.mem_append_right _ hx
 have hd:za0 (w::r):=by have:=h.drop l.length;rwa [List.drop_left] at this
 refine ⟨hd.len,fun j x e=>hd.gap j x e,fun x hx=>?_,fun x hx=>?_,fun x hx=>?_⟩
 all_goals rcases List.mem_cons.mp hx with rfl | hx
 ·unfold z7.fix
  dsimp only
  split
  ·simp
  ·exact hd.gapL w List.mem_cons_self
 ·exact hd.gapL x (List.mem_cons_of_mem _ hx)
 ·exact hd.octs w List.mem_cons_self
 ·exact hd.octs x (List.mem_cons_of_mem _ hx)
 ·exact hd.text w List.mem_cons_self
 ·exact hd.text x (List.mem_cons_of_mem _ hx)
theorem zm0 (l:List z7):(l.map fun w=>((w.size:Nat):Int)).sum=((zbp l:Nat):Int):=by
 induction l with
 | nil=>rfl
 | cons w r ih=>simp -iota only [zbp,List.map_cons,List.sum_cons] at ih ⊢;rw [ih];lia
variable {g:Gl}{A:Around}{F:Fm}{σ:AS}
theorem zht {f fpl fo fp fl:Addr}{words:List z7}{width:Int}{name:Nat}{rules:List zbE}{alts:List Nat}{turned:Bool}{P:PV->AS->Prop}(hr:Rm A 4)(hf:Fn g 35 "_law_rows" f)(hfpl:Fn g 34 "_law_place" fpl)(hfo:Fn g 32 "_law_by_octets" fo)(hfp:Fn g 33 "_law_by_pattern" fp)(hfl:Fn g 31 "_law_last" fl)
  (hlen:g.Blt "len" (.builtin "len")) (hrange:g.Blt "range" (.type "range")) (hsum:g.Blt "sum" (.builtin "sum")) (ha:alts.length=2) (hw:za0 words) (hn:words.length<=20) (h:P (.lst ((zcj words width name rules alts turned).map tx)) σ) :
  CL g A F (.ref f) [zbe words,.int width,.int (name:Nat),.lst (rules.map zbE.pv),tx alts,.raw (.bool turned)] σ P:=by
 obtain ⟨c,pm,hfa⟩:=hf.at_
 refine za2 (n:=3) (xs:=["words","width","name","rules","alts","turned"]) hr hfa (by decide) rfl (fun vs hv=>?_) (by rfl) (by rfl) fun L=>?_
 ·revert vs hv;refine zr5 ?_;intros;rfl
 ·have hk:z0 (zap (mkF 35 "_law_rows" c pm) L f):=zaj rfl
  have hr3:=hr.deeper (env:=callEnv (mkF 35 "_law_rows" c pm) L f)
  have hr0:=hr3.le (Nat.zero_le _)
  refine zb ?_
  refine z4 (names:=["rows","row","head"]) hr0 ?_
  walk_at "st"
  walk_at "st"
  refine zao ?_
  walk_at "st"
  refine ⟨by decide,fun Dr=>?_⟩
  walk_at "st"
  refine zao ?_
  walk_at "st"
  refine ⟨by decide,fun D=>?_⟩
  repeat walk_at "st"
  refine ⟨_,rfl,rfl,?_⟩
  repeat walk_at "asg"
  refine zb ?_
  refine zj0 ?_
  repeat walk_at "st"
  refine ⟨_,zcz hr0,?_⟩
  refine zaQ (fun xs σ'=>∃ (st:zdL) (rest:List z7) (D:Addr),xs=rest.map z7.pv /\
   σ'=⟨[("words",zbe words),("width",.int width),("name",.int (name:Nat)),("rules",.lst (rules.map zbE.pv)),("alts",tx alts),("turned",.raw (.bool turned)),("head",.int (st.head:Nat)),("row",.raw (.ref D)),("rows",.raw (.ref Dr))],(D,.list (st.row.map z7.pv))::(Dr,.list (st.rows.map zbe))::σ.zone⟩ /\
   za0 (st.row++rest)/\rest.foldl (zaK width rules alts turned) st=words.foldl (zaK width rules alts turned) ⟨[],[],name⟩/\st.rows.length+rest.length<=20/\∀ r∈st.rows,za0 r) ?_ ?_ _ _ ⟨⟨[],[],name⟩,words,D,rfl,rfl,hw,rfl,by simpa -iota using hn,fun r hr=>by simp -iota at hr⟩
  ·rintro _ ⟨st,rest,D,hx,rfl,hok,hfold,hl,hall⟩
   have hrest:rest=[]:=by cases rest with | nil=>rfl | cons a b=>cases hx
   subst hrest
   walk_at "st"
   refine zaS (za1.freeze (pre:=[]) (x:="row") (by left)) ?_
   refine zaS (za1.freeze (pre:=[]) (x:="rows") (by left)) ?_
   refine zb ?_
   repeat walk_at "st"
   refine zaI (cl:=[]) (caps:=[]) ⟨rfl,rfl,rfl,rfl,fun x hx=>by simp -iota at hx⟩ ?_
   refine zcy ?_
   repeat walk_at "st"
   refine zb5 ?_
   repeat walk_at "st"
   refine zlh (by rw [List.length_map];simp -iota at hl ⊢;lia) ?_
   have hrr:st.rows.map zbe++[PV.lst (st.row.map z7.pv)]=(st.rows++[st.row]).map zbe:=by rw [List.map_append];rfl
   rw [hrr]
   refine ⟨_,zcz hr0,fun D2 C=>?_⟩
   have hf0:words.foldl (zaK width rules alts turned) ⟨[],[],name⟩=st:=hfold.symm
   refine zaC zbe (fun r=>tx (z6 r)) ?_ (by simp -iota at hl ⊢;lia) ?_
   ·intro r hr' acc
    have hrok:za0 r:=by
     rcases List.mem_append.mp hr' with q | q
     ·exact hall r q
     ·rw [List.mem_singleton] at q;subst q
      exact za0.left (r:=[]) hok
    have hle:=zh0 hrok
    have hrl:=hrok.len
    refine zay (zbw hk rfl) ?_
    refine zau ?_
    repeat walk_at "st"
    refine ⟨_,zcx,?_⟩
    walk_at "st"
    refine zaI (cl:=[]) (caps:=[]) ⟨rfl,rfl,rfl,rfl,fun x hx=>by simp -iota at hx⟩ ?_
    refine zcy ?_
    repeat walk_at "st"
    refine ⟨_,zcz hr0,fun D2 C=>?_⟩
    refine zaC z7.pv (fun w=>tx (w.gap++w.text)) ?_ (by simp -iota;lia) ?_
    ·intro w hw acc
     have h1:=hrok.gapL w hw
     have h2:=(hrok.text w hw).2
     refine zdp hr0 rfl ?_
     repeat walk_at "asg"
     repeat walk_at "st"
     refine zbd (by lia) ?_
     exact ⟨rfl,rfl,by walk_at "sub"⟩
    repeat walk_at "st"
    have hj:([]++r.map fun w=>tx (w.gap++w.text))=(r.map fun w=>w.gap++w.text).map tx:=by rw [List.nil_append,List.map_map];rfl
    rw [hj]
    refine zfj (by
     unfold zaT
     have:((r.map fun w=>w.gap++w.text).map (·.length)).sum=(z6 r).length:=by rw [zb0,List.map_map];congr 1;exact List.map_congr_left fun w _=>List.length_append
     rw [this];simp -iota;lia) ?_
    rw [zbv]
    exact ⟨rfl,rfl,by walk_at "sub"⟩
   refine zcp.mk [] rfl ?_
   have he:([]++(st.rows++[st.row]).map fun r=>tx (z6 r))=(zcj words width name rules alts turned).map tx:=by
    rw [List.nil_append]
    unfold zcj
    rw [hf0,List.map_map];rfl
   show P (.lst _) _
   rw [he]
   exact h
  ·intro I Q back out;rintro x xs _ ⟨st,rest,D,hx,rfl,hok,hfold,hl,hall⟩
   cases rest with
   | nil=>cases hx
   | cons w rest =>
    cases hx
    have hok1:za0 (st.row++[w]):=za0.left (r:=rest) (by rw [List.append_assoc];exact hok)
    have hlen1:=hok1.len
    refine zay hk ?_
    refine zb ?_
    walk_at "st"
    refine zai ?_
    repeat walk_at "st"
    refine ⟨D,_,rfl,List.mem_cons_self,?_⟩
    repeat walk_at "st"
    refine ⟨_,_,.head,by rw [List.length_map];rw [List.length_append] at hlen1;lia,?_⟩
    have hmap:st.row.map z7.pv++[w.pv]=(st.row++[w]).map z7.pv:=by rw [List.map_append];rfl
    rw [hmap]
    repeat walk_at "st"
    refine ziG [("row",zbe (st.row++[w]))] (.lend (by left) List.mem_cons_self .nil) ?_
    refine zh ?_
    refine zg hk hsum ?_
    refine ⟨_,rfl,rfl,?_⟩
    walk_at "st"
    refine zaI (cl:=[]) (caps:=[]) ⟨rfl,rfl,rfl,rfl,fun x hx=>by simp -iota at hx⟩ ?_
    refine zcy ?_
    repeat walk_at "st"
    refine ⟨_,zcz hr0,fun D2 C=>?_⟩
    refine zaC z7.pv (fun w=>.int ((w.size:Nat):Int)) ?_ (by simp -iota at hlen1 ⊢;lia) ?_
    ·intro w' hw' acc
     have h1:=hok1.gapL w' hw'
     have h2:=(hok1.octs w' hw').2
     refine zdp hr0 rfl ?_
     repeat walk_at "asg"
     repeat walk_at "st"
     refine zh ?_
     refine zg (zbw hk rfl) hlen ?_
     refine ⟨_,rfl,rfl,?_⟩
     repeat walk_at "st"
     refine zba (by lia) ?_
     repeat walk_at "st"
     refine zh ?_
     refine zg (zbw hk rfl) hlen ?_
     refine ⟨_,rfl,rfl,?_⟩
     repeat walk_at "st"
     refine zdH (by rw [List.length_map];lia) ?_
     rw [List.length_map]
     repeat walk_at "st"
     have e3:((w'.octs.length:Int)+2).fdiv 3=(((w'.octs.length+2)/3:Nat):Int):=znf (w'.octs.length+2) 3
     rw [e3]
     refine zgX (za6 (by decide)) ?_
     repeat walk_at "st"
     refine ⟨?_,rfl,by walk_at "sub"⟩
     unfold z7.size
     congr 1
    repeat walk_at "st"
    have hs1:([]++(st.row++[w]).map fun w=>PV.int ((w.size:Nat):Int))=((st.row++[w]).map fun w=>((w.size:Nat):Int)).map .int:=by rw [List.nil_append,List.map_map];rfl
    rw [hs1]
    refine zks hr0 ?_
    rw [zm0]
    refine ⟨trivial,?_⟩
    repeat walk_at "st"
    have hgt:decide (((st.head:Nat):Int)+((zbp (st.row++[w]):Nat):Int) > width)=decide (((st.head+zbp (st.row++[w]):Nat):Int) > width):=by congr 1
    rw [hgt]
    have hstep:zaK width rules alts turned st w=(if ((st.head+zbp (st.row++[w]):Nat):Int) > width then
      (if 0 < zaL (st.row++[w]) rules alts turned then ⟨st.rows++[(st.row++[w]).take (zaL (st.row++[w]) rules alts turned)],(st.row++[w]).drop (zaL (st.row++[w]) rules alts turned),0⟩
      else if 0 < st.head then ⟨st.rows++[(st.row++[w]).dropLast],[w.fix],0⟩ else ⟨st.rows,st.row++[w],st.head⟩) else ⟨st.rows,st.row++[w],st.head⟩):=rfl
    rw [List.foldl_cons,hstep] at hfold
    rw [List.length_cons] at hl
    have hok':za0 ((st.row++[w])++rest):=by rw [List.append_assoc];exact hok
    by_cases hc:((st.head+zbp (st.row++[w]):Nat):Int) > width
    ·rw [decide_eq_true hc]
     rw [if_pos hc] at hfold
     show EXs _ _ _ _ _ _
     refine zb ?_
     refine zd hk ?_
     refine ziG [("row",zbe (st.row++[w])),("rules",.lst (rules.map zbE.pv)),("alts",tx alts),("turned",.raw (.bool turned))] (.lend (by left) List.mem_cons_self (.same (by left) (.same (by left) (.same (by left) .nil)))) ?_
     refine zw hfpl.at_.choose_spec.choose_spec ?_
     refine zl hk hfpl.glob ?_
     refine ⟨rfl,?_⟩
     repeat walk_at "st"
     refine zgz hr3 hfpl hfo hfp hfl hlen hrange hok1 (by simp -iota) ha ?_
     refine ⟨trivial,?_⟩
     refine zb ?_
     repeat walk_at "st"
     generalize zaL (st.row++[w]) rules alts turned=i at hfold ⊢
     by_cases hi:0 < i
     ·have e:decide ((i:Int) > 0)=true:=decide_eq_true (by lia)
      rw [e]
      rw [if_pos hi] at hfold
      show EXs _ _ _ _ _ _
      refine zb ?_
      walk_at "st"
      refine zai ?_
      repeat walk_at "st"
      refine ⟨Dr,_,rfl,List.mem_cons_of_mem _ List.mem_cons_self,?_⟩
      repeat walk_at "st"
      refine ⟨_,rfl,?_⟩
      refine zqk List.mem_cons_self (by rw [List.length_map];lia) ?_
      rw [zr9,<- List.map_take]
      refine ⟨_,_,.tail .head,by rw [List.length_map];lia,?_⟩
      have hmr:st.rows.map zbe++[PV.lst (((st.row++[w]).take i).map z7.pv)]=(st.rows++[(st.row++[w]).take i]).map zbe:=by rw [List.map_append];rfl
      rw [hmr]
      walk_at "st"
      refine zb ?_
      refine z4 (names:=["row","head"]) hr0 ?_
      repeat walk_at "st"
      refine ⟨_,rfl,?_⟩
      walk_at "st"
      refine zl1 List.mem_cons_self (by rw [List.length_map];lia) fun D3=>?_
      rw [zo6,<- List.map_drop]
      repeat walk_at "st"
      refine ⟨_,rfl,rfl,?_⟩
      repeat walk_at "asg"
      repeat walk_at "st"
      refine ⟨_,za1.trans (Sub.weak' (loc':=[("words",zbe words),("width",.int width),("name",.int (name:Nat)),("rules",.lst (rules.map zbE.pv)),("alts",tx alts),("turned",.raw (.bool turned)),("head",.int ((0:Nat):Int)),("row",.raw (.ref D3)),("rows",.raw (.ref Dr))]) (by walk_at "sub") rfl) (za1.drop (pre:=[(D3,_)]) (z:=(D,_))),?_,back _ _ ⟨⟨st.rows++[(st.row++[w]).take i],(st.row++[w]).drop i,0⟩,rest,D3,rfl,rfl,?_,hfold,?_,?_⟩⟩
      ·exact zhb (pre:=[(D3,_)]) (z:=(D,_))
      ·have:=hok'.drop i
       have hrow:za0 ((st.row++[w]).drop i++rest):=by
        rcases Nat.le_total i (st.row++[w]).length with q | q
        ·rwa [List.drop_append_of_le_length q] at this
        ·rw [List.drop_of_length_le q,List.nil_append]
         have:=hok'.drop (st.row++[w]).length
         rwa [List.drop_left] at this
       exact hrow
      ·show (st.rows++[(st.row++[w]).take i]).length+rest.length<=20
       rw [List.length_append];simp -iota;lia
      ·intro r hr'
       rcases List.mem_append.mp hr' with q | q
       ·exact hall r q
       ·rw [List.mem_singleton] at q;subst q
        exact za0.left (r:=(st.row++[w]).drop i) (by rw [List.take_append_drop];exact hok1)
     ·have e:decide ((i:Int) > 0)=false:=decide_eq_false (by lia)
      rw [e]
      rw [if_neg hi] at hfold
      show EXs _ _ _ _ _ _
      repeat walk_at "st"
      by_cases hh:0 < st.head
      ·have e:decide ((st.head:Int) > 0)=true:=decide_eq_true (by lia)
       rw [e]
       rw [if_pos hh] at hfold
       show EXs _ _ _ _ _ _
       refine zb ?_
       walk_at "st"
       refine zai ?_
       repeat walk_at "st"
       refine ⟨Dr,_,rfl,List.mem_cons_of_mem _ List.mem_cons_self,?_⟩
       repeat walk_at "st"
       refine ⟨_,rfl,?_⟩
       refine zqk List.mem_cons_self (by rw [List.length_map];lia) ?_
       rw [zlb,<- List.map_dropLast]
       refine ⟨_,_,.tail .head,by rw [List.length_map];lia,?_⟩
       have hmr:st.rows.map zbe++[PV.lst ((st.row++[w]).dropLast.map z7.pv)]=(st.rows++[(st.row++[w]).dropLast]).map zbe:=by rw [List.map_append];rfl
       rw [hmr]
       walk_at "st"
       refine zb ?_
       refine z4 (names:=["row","head"]) hr0 ?_
       walk_at "st"
       walk_at "st"
       refine zao ?_
       walk_at "st"
       walk_at "st"
       walk_at "st"
       refine zgR (tx w.fix.gap) ?_ ?_
       ·refine zoH ?_
        repeat walk_at "st"
        refine zhG ?_
        refine zgB (by have:=hok1.gapL w (by simp -iota);lia) ?_
        unfold z7.fix
        cases hg:w.gap with
        | nil =>
         show EV _ _ _ _ _ _
         repeat walk_at "st"
         exact ⟨rfl,rfl⟩
        | cons a b=>exact ⟨rfl,rfl⟩
       repeat walk_at "st"
       refine zkh ?_
       repeat walk_at "st"
       refine zku ?_
       repeat walk_at "st"
       intro D3
       repeat walk_at "st"
       refine ⟨_,rfl,rfl,?_⟩
       repeat walk_at "asg"
       repeat walk_at "st"
       refine ⟨_,za1.trans (Sub.weak' (loc':=[("words",zbe words),("width",.int width),("name",.int (name:Nat)),("rules",.lst (rules.map zbE.pv)),("alts",tx alts),("turned",.raw (.bool turned)),("head",.int ((0:Nat):Int)),("row",.raw (.ref D3)),("rows",.raw (.ref Dr))]) (by walk_at "sub") rfl) (za1.drop (pre:=[(D3,_)]) (z:=(D,_))),?_,back _ _ ⟨⟨st.rows++[(st.row++[w]).dropLast],[w.fix],0⟩,rest,D3,rfl,rfl,?_,hfold,?_,?_⟩⟩
       ·exact zhb (pre:=[(D3,_)]) (z:=(D,_))
       ·exact za0.fixed (l:=st.row) hok
       ·show (st.rows++[(st.row++[w]).dropLast]).length+rest.length<=20
        rw [List.length_append];simp -iota;lia
       ·intro r hr'
        rcases List.mem_append.mp hr' with q | q
        ·exact hall r q
        ·rw [List.mem_singleton] at q;subst q
         rw [List.dropLast_eq_take]
         exact za0.left (r:=(st.row++[w]).drop ((st.row++[w]).length - 1)) (by rw [List.take_append_drop];exact hok1)
      ·have e:decide ((st.head:Int) > 0)=false:=decide_eq_false (by lia)
       rw [e]
       rw [if_neg hh] at hfold
       show EXs _ _ _ _ _ _
       repeat walk_at "st"
       exact ⟨_,Sub.weak' (loc':=[("words",zbe words),("width",.int width),("name",.int (name:Nat)),("rules",.lst (rules.map zbE.pv)),("alts",tx alts),("turned",.raw (.bool turned)),("head",.int (st.head:Nat)),("row",.raw (.ref D)),("rows",.raw (.ref Dr))]) (by walk_at "sub") rfl,fun _ h=>h,back _ _ ⟨⟨st.rows,st.row++[w],st.head⟩,rest,D,rfl,rfl,hok',hfold,by show st.rows.length+rest.length<=20;lia,hall⟩⟩
    ·rw [decide_eq_false hc]
     rw [if_neg hc] at hfold
     show EXs _ _ _ _ _ _
     repeat walk_at "st"
     exact ⟨_,Sub.weak' (loc':=[("words",zbe words),("width",.int width),("name",.int (name:Nat)),("rules",.lst (rules.map zbE.pv)),("alts",tx alts),("turned",.raw (.bool turned)),("head",.int (st.head:Nat)),("row",.raw (.ref D)),("rows",.raw (.ref Dr))]) (by walk_at "sub") rfl,fun _ h=>h,back _ _ ⟨⟨st.rows,st.row++[w],st.head⟩,rest,D,rfl,rfl,hok',hfold,by show st.rows.length+rest.length<=20;lia,hall⟩⟩
end
section
noncomputable def zgG (inner:List Nat):Nat->Nat->List Nat->Option (Nat × List Nat)
 | 0,_,_=>none
 | n+1,i,m=>match inner[i]? with
  | none=>none
  | some c=>if c=93 then some (i,m) else match inner[if c=92 then i+1 else i]? with
   | none=>none
   | some d=>zgG inner n ((if c=92 then i+1 else i)+1) (m++[d])
theorem znI {inner:List Nat}{n i:Nat}{m:List Nat}:zgG inner (n+1) i m=match inner[i]? with | none=>none | some c=>if c=93 then some (i,m) else match inner[if c=92 then i+1 else i]? with | none=>none | some d=>zgG inner n ((if c=92 then i+1 else i)+1) (m++[d]):=rfl
noncomputable def zd3 (inner:List Nat):Nat->Nat->List zcE->Option (List zcE)
 | 0,_,_=>none
 | n+1,i,sets=>if i < inner.length then match inner[i]? with
   | none=>none
   | some c=>if c=91 then match inner[i+1]? with
     | none=>none
     | some b=>match zgG inner n (if b=94 then i+1+1 else i+1) [] with
      | none=>none
      | some (k,m)=>zd3 inner n (k+1) (sets++[⟨decide (b=94),m⟩])
    else match inner[if c=92 then i+1 else i]? with
     | none=>none
     | some d=>zd3 inner n ((if c=92 then i+1 else i)+1) (sets++[⟨false,[d]⟩])
  else some sets
variable {g:Gl}{A:Around}{F:Fm}{σ:AS}
theorem zfU {P:PV->AS->Prop}{value slice:Expr}{l:List Nat}{i c:Nat}(hc:l[i]?=some c)(hz:l.length<=16777216)(h:P (tx [c]) σ)
  (hs:∀ v u,subscripted slice false v u=operate [v,u] (getItem v u):=by left):IX g A F value slice (tx l) (.int (i:Int)) σ P:=by
 have hi:i < l.length:=by
  rcases Nat.lt_or_ge i l.length with q | q
  ·exact q
  ·rw [List.getElem?_eq_none q] at hc;cases hc
 exact zr4 (by rw [ziZ (by lia) (by lia),Int.toNat_natCast]) hc hz h hs
theorem zhL {f:Addr}{rx inner:List Nat}{sets:List zcE}{P:PV->AS->Prop}(hr:Rm A 1)(hf:Fn g 30 "_law_sets" f)(hlen:g.Blt "len" (.builtin "len"))
  (hs:zdj rx zeI=true) (he:zjd rx zev=true) (hsl:sl rx (some 10) (some (-6))=inner) (hrun:zd3 inner 50 0 []=some sets) (hz:rx.length<=100)
  (h:P (.lst (sets.map zcE.pv)) σ):CL g A F (.ref f) [tx rx] σ P:=by
 obtain ⟨c,pm,hfa⟩:=hf.at_
 refine za2 (n:=0) (xs:=["regex"]) hr hfa (by decide) rfl (fun vs hv=>?_) (by rfl) (by rfl) fun L=>?_
 ·revert vs hv;refine zcV ?_;intros;rfl
 ·have hk:z0 (zap (mkF 30 "_law_sets" c pm) L f):=zaj rfl
  have hr0:=hr.deeper (env:=callEnv (mkF 30 "_law_sets" c pm) L f)
  have hin:inner.length<=100:=by have:=ziV rx (some 10) (some (-6));rw [hsl] at this;lia
  refine zb ?_
  refine zaM hr0 ?_
  repeat walk_at "st"
  refine ⟨_,rfl,rfl,?_⟩
  repeat walk_at "asg"
  refine zb ?_
  refine zaA ?_
  refine zkz false ?_ ?_
  ·walk_at "st"
   refine zn ?_
   refine zgL ?_
   refine zaF ?_
   refine zau ?_
   repeat walk_at "st"
   refine ⟨_,ziv PySem.F.slot_str_startswith PySem.F.type_str_startswith,?_⟩
   repeat walk_at "st"
   refine zlk ?_
   rw [show zdj rx _=true from hs]
   walk_at "st"
   refine zn ?_
   refine zgL ?_
   refine zaF ?_
   refine zau ?_
   repeat walk_at "st"
   refine ⟨_,ziv PySem.F.slot_str_endswith PySem.F.type_str_endswith,?_⟩
   repeat walk_at "st"
   refine zot ?_
   rw [show zjd rx _=true from he]
   walk_at "st"
   exact zbG ⟨rfl,rfl⟩
  show EXs _ _ _ _ _ _
  walk_at "st"
  refine zb ?_
  repeat walk_at "st"
  refine zh ?_
  refine zg hk hlen ?_
  refine ⟨_,rfl,rfl,?_⟩
  repeat walk_at "st"
  refine zba (by decide) ?_
  refine ⟨_,rfl,?_⟩
  repeat walk_at "st"
  refine zh ?_
  refine zg hk hlen ?_
  refine ⟨_,rfl,rfl,?_⟩
  repeat walk_at "st"
  refine zba (by decide) ?_
  repeat walk_at "st"
  refine ⟨_,rfl,?_⟩
  refine zos (by lia) ?_
  rw [show sl rx (some ((zeI.length:Nat):Int)) (some (-((zev.length:Nat):Int)))=inner from hsl]
  refine zb ?_
  refine z4 (names:=["sets","at"]) hr0 ?_
  walk_at "st"
  walk_at "st"
  refine zao ?_
  walk_at "st"
  refine ⟨by decide,fun D=>?_⟩
  repeat walk_at "st"
  refine ⟨_,rfl,rfl,?_⟩
  repeat walk_at "asg"
  refine zaS (σ':=⟨[("regex",tx rx),("head",tx zeI),("tail",tx zev),("inner",tx inner),("at",.int ((0:Nat):Int)),("sets",.raw (.ref D))],(D,.list [])::σ.zone⟩) (Sub.weak' (by walk_at "sub") rfl) ?_
  refine zb ?_
  refine zax (fun n σ'=>∃ (i:Nat) (done:List zcE),σ'=⟨[("regex",tx rx),("head",tx zeI),("tail",tx zev),("inner",tx inner),("at",.int (i:Int)),("sets",.raw (.ref D))],(D,.list (done.map zcE.pv))::σ.zone⟩/\zd3 inner n i done=some sets/\done.length+n<=50) 50 ⟨0,[],rfl,hrun,by decide⟩ ?_
  intro I Q back out;rintro n _ ⟨i,done,rfl,hgo,hdl⟩
  cases n with
  | zero=>cases hgo
  | succ n =>
   change (if _ then _ else _)=_ at hgo
   repeat walk_at "st"
   refine zh ?_
   refine zg hk hlen ?_
   refine ⟨_,rfl,rfl,?_⟩
   repeat walk_at "st"
   refine zba (by lia) ?_
   repeat walk_at "st"
   by_cases hi:i < inner.length
   ·rw [if_pos hi] at hgo
    have e:decide ((i:Int) < (inner.length:Nat))=true:=decide_eq_true (by lia)
    rw [e]
    show EXs _ _ _ _ _ _
    cases hc:inner[i]? with
    | none=>rw [hc] at hgo;cases hgo
    | some ch =>
     rw [hc] at hgo
     dsimp only at hgo
     refine zb ?_
     refine zaM hr0 ?_
     repeat walk_at "st"
     refine ⟨_,rfl,rfl,?_⟩
     repeat walk_at "asg"
     refine zb ?_
     repeat walk_at "st"
     refine zfU hc (by lia) ?_
     repeat walk_at "st"
     by_cases h91:ch=91
     ·rw [if_pos h91] at hgo
      have e:decide ([ch]=[91])=true:=decide_eq_true (by rw [h91])
      rw [e]
      show EXs _ _ _ _ _ _
      cases hb:inner[i+1]? with
      | none=>rw [hb] at hgo;cases hgo
      | some b =>
       rw [hb] at hgo
       dsimp only at hgo
       repeat walk_at "st"
       rw [show (i:Int)+1=((i+1:Nat):Int) by lia]
       refine zfU hb (by lia) ?_
       walk_at "st"
       walk_at "st"
       have hbar:decide ([b]=[94])=decide (b=94):=by by_cases q:b=94 <;> simp [q]
       rw [hbar]
       refine zb ?_
       refine zaN hk (by left) ?_
       refine zgR (.int (if b=94 then 1 else 0)) ?_ ?_
       ·repeat walk_at "st"
        by_cases h94:b=94
        ·rw [decide_eq_true h94,if_pos h94]
         show EV _ _ _ _ _ _
         repeat walk_at "st"
         exact ⟨rfl,rfl⟩
        ·rw [decide_eq_false h94,if_neg h94]
         show EV _ _ _ _ _ _
         repeat walk_at "st"
         exact ⟨rfl,rfl⟩
       repeat walk_at "st"
       have e2:((i+1:Nat):Int)+(if b=94 then 1 else 0)=((if b=94 then i+1+1 else i+1:Nat):Int):=by split <;> lia
       rw [e2]
       generalize hj:(if b=94 then i+1+1 else i+1)=j at hgo ⊢
       generalize decide (b=94)=bar at hgo ⊢
       cases hm:zgG inner n j [] with
       | none=>rw [hm] at hgo;cases hgo
       | some km =>
        obtain ⟨k,mm⟩:=km
        rw [hm] at hgo
        dsimp only at hgo
        refine J.weak (σ':=⟨[("regex",tx rx),("head",tx zeI),("tail",tx zev),("inner",tx inner),("at",.int ((j:Nat):Int)),("sets",.raw (.ref D)),("barred",.raw (.bool bar)),("members",tx [])],(D,.list (done.map zcE.pv))::σ.zone⟩) (Sub.weak' (by walk_at "sub") rfl) ?_
        refine zax (fun n' σ'=>∃ (a:Nat) (m:List Nat),σ'=⟨[("regex",tx rx),("head",tx zeI),("tail",tx zev),("inner",tx inner),("at",.int ((a:Nat):Int)),("sets",.raw (.ref D)),("barred",.raw (.bool bar)),("members",tx m)],(D,.list (done.map zcE.pv))::σ.zone⟩/\zgG inner n' a m=some (k,mm)/\m.length+n'<=60) n ⟨j,[],rfl,hm,by simp;lia⟩ ?_
        intro I2 Q2 back2 out2;rintro n' _ ⟨a,m,rfl,hgm,hml⟩
        cases n' with
        | zero=>cases hgm
        | succ n' =>
         rw [znI] at hgm
         cases hca:inner[a]? with
         | none=>rw [hca] at hgm;cases hgm
         | some ca =>
          rw [hca] at hgm
          dsimp only at hgm
          repeat walk_at "st"
          refine zfU hca (by lia) ?_
          repeat walk_at "st"
          by_cases h93:ca=93
          ·rw [if_pos h93] at hgm
           have e:(!decide ([ca]=[93]))=false:=by rw [h93];rfl
           rw [e]
           have hkm:k=a/\mm=m:=by
            have:=Option.some.inj hgm
            exact ⟨(Prod.mk.inj this).1.symm,(Prod.mk.inj this).2.symm⟩
           rw [hkm.1,hkm.2] at hgo
           show EXs _ _ _ _ _ _
           repeat walk_at "st"
           refine zai ?_
           repeat walk_at "st"
           refine ⟨D,_,rfl,List.mem_cons_self,?_⟩
           repeat walk_at "st"
           refine ⟨_,_,.head,by rw [List.length_map];lia,?_⟩
           repeat walk_at "st"
           refine ⟨n,_,by lia,Sub.weak' (loc':=[("regex",tx rx),("head",tx zeI),("tail",tx zev),("inner",tx inner),("at",.int ((a+1:Nat):Int)),("sets",.raw (.ref D))]) (by walk_at "sub") rfl,back _ _ ⟨a+1,done++[⟨bar,m⟩],?_,hgo,by rw [List.length_append];simp;lia⟩⟩
           rw [List.map_append];rfl
          ·rw [if_neg h93] at hgm
           have e:(!decide ([ca]=[93]))=true:=by simp [h93]
           rw [e]
           show EXs _ _ _ _ _ _
           refine zb ?_
           refine zaN hk (by left) ?_
           refine zgR (.int (if ca=92 then 1 else 0)) ?_ ?_
           ·repeat walk_at "st"
            refine zfU hca (by lia) ?_
            repeat walk_at "st"
            by_cases h92:ca=92
            ·have e:decide ([ca]=[92])=true:=decide_eq_true (by rw [h92])
             rw [e,if_pos h92]
             show EV _ _ _ _ _ _
             repeat walk_at "st"
             exact ⟨rfl,rfl⟩
            ·have e:decide ([ca]=[92])=false:=decide_eq_false (fun q=>h92 (by simpa using q))
             rw [e,if_neg h92]
             show EV _ _ _ _ _ _
             repeat walk_at "st"
             exact ⟨rfl,rfl⟩
           repeat walk_at "st"
           have e2:(a:Int)+(if ca=92 then 1 else 0)=((if ca=92 then a+1 else a:Nat):Int):=by split <;> lia
           rw [e2]
           generalize hja:(if ca=92 then a+1 else a)=a2 at hgm ⊢
           cases hd:inner[a2]? with
           | none=>rw [hd] at hgm;cases hgm
           | some d =>
            rw [hd] at hgm
            dsimp only at hgm
            refine zfU hd (by lia) ?_
            refine zl8 (by simp;lia) ?_
            repeat walk_at "st"
            exact ⟨n',_,by lia,Sub.weak' (loc':=[("regex",tx rx),("head",tx zeI),("tail",tx zev),("inner",tx inner),("at",.int ((a2+1:Nat):Int)),("sets",.raw (.ref D)),("barred",.raw (.bool bar)),("members",tx (m++[d]))]) (by walk_at "sub") rfl,back2 _ _ ⟨a2+1,m++[d],rfl,hgm,by rw [List.length_append];simp;lia⟩⟩
     ·rw [if_neg h91] at hgo
      have e:decide ([ch]=[91])=false:=decide_eq_false (fun q=>h91 (by simpa using q))
      rw [e]
      show EXs _ _ _ _ _ _
      refine zb ?_
      refine zaN hk (by left) ?_
      refine zgR (.int (if ch=92 then 1 else 0)) ?_ ?_
      ·repeat walk_at "st"
       refine zfU hc (by lia) ?_
       repeat walk_at "st"
       by_cases h92:ch=92
       ·have e:decide ([ch]=[92])=true:=decide_eq_true (by rw [h92])
        rw [e,if_pos h92]
        show EV _ _ _ _ _ _
        repeat walk_at "st"
        exact ⟨rfl,rfl⟩
       ·have e:decide ([ch]=[92])=false:=decide_eq_false (fun q=>h92 (by simpa using q))
        rw [e,if_neg h92]
        show EV _ _ _ _ _ _
        repeat walk_at "st"
        exact ⟨rfl,rfl⟩
      repeat walk_at "st"
      have e2:(i:Int)+(if ch=92 then 1 else 0)=((if ch=92 then i+1 else i:Nat):Int):=by split <;> lia
      rw [e2]
      generalize hj:(if ch=92 then i+1 else i)=j at hgo ⊢
      cases hd:inner[j]? with
      | none=>rw [hd] at hgo;cases hgo
      | some d =>
       rw [hd] at hgo
       dsimp only at hgo
       refine zfU hd (by lia) ?_
       repeat walk_at "st"
       refine zai ?_
       repeat walk_at "st"
       refine ⟨D,_,rfl,List.mem_cons_self,?_⟩
       repeat walk_at "st"
       refine ⟨_,_,.head,by rw [List.length_map];lia,?_⟩
       repeat walk_at "st"
       refine ⟨n,_,by lia,Sub.weak' (loc':=[("regex",tx rx),("head",tx zeI),("tail",tx zev),("inner",tx inner),("at",.int ((j+1:Nat):Int)),("sets",.raw (.ref D))]) (by walk_at "sub") rfl,back _ _ ⟨j+1,done++[⟨false,[d]⟩],?_,hgo,by rw [List.length_append];simp;lia⟩⟩
       rw [List.map_append];rfl
   ·rw [if_neg hi] at hgo
    have e:decide ((i:Int) < (inner.length:Nat))=false:=decide_eq_false (by lia)
    rw [e]
    cases hgo
    show EXs _ _ _ _ _ _
    walk_at "st"
    refine zb (zan (zfL ?_))
    walk_at "st"
    exact ⟨D,_,_,rfl,rfl,zcp.mk [] rfl h⟩
end
section
open PySem.W PySem.Builtin PySem.Builtin.ObjectAttr
theorem zy {i j:Nat}{nm qn:Str}{c:Addr}{pm dflt ctup:Value}{clos:List (Str × Addr)}{L f:Addr}(h:(mkM i j nm qn c pm dflt ctup clos).scope.kind=.function):z0 (zap (mkM i j nm qn c pm dflt ctup clos) L f):=⟨h,rfl,rfl⟩
structure MFn (g:Gl)(K:Frag)(C:Addr)(i j:Nat)(nm qn:Str)(f:Addr):Prop where
 find:findIn K (.ref C) nm=some (some (.ref f))
 typ:typeIn K (.ref f)=some (.type "function")
 at_:∃ c pm,zdB g f (mkM i j nm qn c pm .none .none []) (mB i j)/\∃ Pt,zbi g c Pt
structure zrY (g:Gl)(K:Frag)(C:Addr)(i j:Nat)(nm qn:Str)(f:Addr)(ds:Array Value):Prop where
 find:findIn K (.ref C) nm=some (some (.ref f))
 typ:typeIn K (.ref f)=some (.type "function")
 at_:∃ c pm T,zdB g f (mkM i j nm qn c pm (.ref T) .none []) (mB i j)/\zgN g (mkM i j nm qn c pm (.ref T) .none []) ds
structure zrU (g:Gl)(K:Frag)(C:Addr)(i j:Nat)(nm qn:Str)(f:Addr):Prop where
 find:findIn K (.ref C) nm=some (some (.ref f))
 typ:typeIn K (.ref f)=some (.type "function")
 at_:∃ c pm ct cc,zdB g f (mkM i j nm qn c pm .none (.ref ct) [("__class__",cc)]) (mB i j)/\znD g (mkM i j nm qn c pm .none (.ref ct) [("__class__",cc)])/\zhN g (mkM i j nm qn c pm .none (.ref ct) [("__class__",cc)]) C
structure zq4 (g:Gl)(K:Frag)(C:Addr)(i j:Nat)(nm qn:Str)(f:Addr)(ds:Array Value):Prop where
 find:findIn K (.ref C) nm=some (some (.ref f))
 typ:typeIn K (.ref f)=some (.type "function")
 at_:∃ c pm ct cc T,zdB g f (mkM i j nm qn c pm (.ref T) (.ref ct) [("__class__",cc)]) (mB i j)/\zgN g (mkM i j nm qn c pm (.ref T) (.ref ct) [("__class__",cc)]) ds/\znD g (mkM i j nm qn c pm (.ref T) (.ref ct) [("__class__",cc)])/\zhN g (mkM i j nm qn c pm (.ref T) (.ref ct) [("__class__",cc)]) C
structure zmQ where
 (fI fPush fPopF fPop fLen fStr fReset fWs fCount:Addr)
structure zb8 (g:Gl)(K:Frag)(C:Addr)(a:zmQ):Prop where
 fg:Fg g K
 ops:zkm K C
 typ:typeIn K (.ref C)=some (.type "type")
 st:zrT g
 bm:zn6 g
 init:∃ t,zq4 g K C 7 0 "__init__" "_Accumulator.__init__" a.fI #[.int 0 t]
 push:MFn g K C 7 1 "push" "_Accumulator.push" a.fPush
 popF:∃ t,zrY g K C 7 2 "pop_from" "_Accumulator.pop_from" a.fPopF #[.int 0 t]
 pop:zrU g K C 7 3 "pop" "_Accumulator.pop" a.fPop
 len:MFn g K C 7 4 "__len__" "_Accumulator.__len__" a.fLen
 str:MFn g K C 7 5 "__str__" "_Accumulator.__str__" a.fStr
 reset:zrY g K C 7 6 "reset" "_Accumulator.reset" a.fReset #[.none]
 ws:MFn g K C 7 7 "is_onlyws" "_Accumulator.is_onlyws" a.fWs
 count:zrU g K C 7 8 "part_count" "_Accumulator.part_count" a.fCount
 size:findIn K (.ref C) "_initial_size" = some none
 app:findIn K (.ref C) "append" = some (some (.builtin "list.append"))/\typeIn K (.builtin "list.append")=some (.type "method_descriptor")
 nobool:findIn K (.ref C) "__bool__" = some none
 makes:zeP K C=true
 calls:zeQ K C=true
 sum:g.Blt "sum" (.builtin "sum")
 len_:g.Blt "len" (.builtin "len")
 str_:g.Blt "str" (.type "str")
 empty:∃ t,g.Glob "EMPTYSTRING" (.str (ofL []) t)
 pushGet:specialIn K (.ref a.fPush) "__get__" = some (some (.builtin "function.__get__"))
 pushTk:takesIn K (.ref a.fPush)=some false
theorem zb8.cls {g:Gl}{K:Frag}{C:Addr}{a:zmQ}(h:zb8 g K C a):∃ cd,clsIn K C=some cd:=let ⟨cd,e,_⟩:=h.ops.lst.mro;⟨cd,e⟩
variable {g:Gl}{A:Around}{F:Fm}{σ:AS}{K:Frag}{C:Addr}{a:zmQ}{P:PV->AS->Prop}{x dx:Addr}
theorem zne (hr:Rm A 1)(h:zb8 g K C a){init:Int}{z:List (Addr × MO)}{loc}(hP:P (.raw .none) ⟨loc,(x,.inst dx C [("_initial_size",.int init)] (some []))::z⟩) :
  CLC g A F (.ref a.fI) [.raw (.ref x),.int init] ⟨loc,(x,.inst dx C [] (some []))::z⟩ P:=by
 obtain ⟨t,hm⟩:=h.init
 obtain ⟨c,pm,ct,cc,T,hf,hd,hs,hc⟩:=hm.at_
 refine zln (n:=0) (xs:=["self","initial_size"]) (qs:=[.raw (.ref x),.int init]) hr hf (by decide) rfl (fun s vs S hvs=>?_) (by rfl) (by rfl) fun L=>?_
 ·refine ⟨vs,hvs,?_⟩
  cases hvs with | cons h1 hvs=>cases hvs with | cons h2 hvs=>cases hvs;exact hd.binds S (by rfl) (by rfl)
 ·have hk:z0 (zap (mkM 7 0 "__init__" "_Accumulator.__init__" c pm (.ref T) (.ref ct) [("__class__",cc)]) L a.fI):=zy rfl
  refine zdU ?_
  refine z8 h.fg ?_
  repeat walk_at "st"
  refine ⟨x,dx,C,[],some [],_,rfl,.lst h.ops.lst,.head,h.size,by simp,?_⟩
  refine zk2 (zdZ (K:=K) (x:=x) (dx:=dx) (C:=C) (l:=[]) h.fg h.ops.lst h.cls h.st hf hs hc zmS (by rfl) (by rfl) (by decide +kernel) (.head _) rfl znx (znL (.head _) ?_))
  exact hP
noncomputable abbrev zv (p:List Nat × List Nat):PV:=.tup [tx p.1,tx p.2]
noncomputable abbrev zaY (dx C:Addr)(init:Int)(ls:List (List Nat × List Nat)):MO:=.inst dx C [("_initial_size",.int init)] (some (ls.map zv))
noncomputable def zo (init:Int)(ls:List (List Nat × List Nat)):Int:=init+(ls.map fun p=>((p.1.length+p.2.length:Nat):Int)).sum
noncomputable def zbC (ls:List (List Nat × List Nat)):List Nat:=(ls.map fun p=>p.1++p.2).flatten
variable {init:Int}{ls:List (List Nat × List Nat)}{zone':List (Addr × MO)}
theorem ZAt.mem {D:Addr}{m m':MO}{z z':List (Addr × MO)}(h:ZAt D m m' z z'):(D,m)∈z:=by
 induction h with
 | head=>exact List.mem_cons_self
 | tail _ ih=>exact List.mem_cons_of_mem _ ih
theorem ziL (hr:Rm A 1)(h:zb8 g K C a){p q:List Nat}(U:ZAt x (zaY dx C init ls) (zaY dx C init (ls++[(p,q)])) σ.zone zone')(hl:ls.length<=1000)(hP:P (.raw .none) ⟨σ.loc,zone'⟩) :
  CLC g A F (.ref a.fPush) [.raw (.ref x),tx p,tx q] σ P:=by
 obtain ⟨c,pm,hf,-⟩:=h.push.at_
 refine zcD (n:=0) (xs:=["self","fws","string"]) hr hf (by decide) rfl (fun vs hv=>?_) (by rfl) (by rfl) fun L=>?_
 ·revert vs hv;refine zlj ?_;intros;rfl
 ·have hk:z0 (zap (mkM 7 1 "push" "_Accumulator.push" c pm .none .none []) L a.fPush):=zy rfl
  refine zb ?_
  refine zab ?_
  refine zni h.fg ?_
  repeat walk_at "st"
  refine ⟨x,dx,C,_,_,"list.append",_,rfl,U.mem,.lst h.ops.lst,h.app.1,h.app.2,by decide,by rfl,?_⟩
  repeat walk_at "st"
  refine zf8 (l:=ls.map zv) (dx:=dx) (att:=[("_initial_size",.int init)]) h.fg h.ops.lst (zone':=zone') ?_ (by rw [List.length_map];lia) ?_
  ·have:=U
   unfold zaY at this
   rw [List.map_append] at this
   exact this
  ·refine ⟨trivial,?_⟩
   repeat walk_at "st"
   exact ⟨[],_,rfl,hP⟩
theorem zkl (hr:Rm A 1)(h:zb8 g K C a){p q:List Nat}(U:ZAt x (zaY dx C init ls) (zaY dx C init (ls++[(p,q)])) σ.zone zone')(hl:ls.length<=1000)(hP:P (.raw .none) ⟨σ.loc,zone'⟩) :
  CL g A F (.ref a.fPush) [.raw (.ref x),tx p,tx q] σ P:=(ziL hr h U hl hP).cl
theorem zfR (hr:Rm A 1)(h:zb8 g K C a)(hz:(x,zaY dx C init ls)∈σ.zone)(hP:P (.int ls.length) σ):CL g A F (.ref a.fCount) [.raw (.ref x)] σ P:=by
 obtain ⟨c,pm,ct,cc,hf,hs,hc⟩:=h.count.at_
 refine (zg2 (n:=0) (xs:=["self"]) hr hf (by decide) rfl (fun vs hv=>?_) (by rfl) (by rfl) fun L=>?_).cl
 ·revert vs hv;refine zcV ?_;intros;rfl
 ·have hk:z0 (zap (mkM 7 8 "part_count" "_Accumulator.part_count" c pm .none (.ref ct) [("__class__",cc)]) L a.fCount):=zy rfl
  refine ziT (zdZ (K:=K) (x:=x) (dx:=dx) (C:=C) (l:=ls.map zv) h.fg h.ops.lst h.cls h.st hf hs hc zop (by rfl) (by rfl) (by decide +kernel) hz rfl zpj (zpk hz ?_))
  rw [List.length_map]
  exact hP
theorem zek (hr:Rm A 3)(h:zb8 g K C a){p q:List Nat}(U:ZAt x (zaY dx C init (ls++[(p,q)])) (zaY dx C init ls) σ.zone zone')(hl:ls.length<=1000)(hP:P (.tup [tx p,tx q]) ⟨σ.loc,zone'⟩) :
  CL g A F (.ref a.fPop) [.raw (.ref x)] σ P:=by
 obtain ⟨c,pm,ct,cc,hf,hs,hc⟩:=h.pop.at_
 refine (zg2 (n:=2) (xs:=["self"]) hr hf (by decide) rfl (fun vs hv=>?_) (by rfl) (by rfl) fun L=>?_).cl
 ·revert vs hv;refine zcV ?_;intros;rfl
 ·have hk:z0 (zap (mkM 7 3 "pop" "_Accumulator.pop" c pm .none (.ref ct) [("__class__",cc)]) L a.fPop):=zy rfl
  obtain ⟨c',pm',ct',cc',hf',-,-⟩:=h.count.at_
  refine zdU ?_
  repeat walk_at "st"
  refine zak h.fg ?_
  repeat walk_at "st"
  refine ⟨x,dx,C,_,_,_,_,_,rfl,U.mem,.lst h.ops.lst,h.count.find,h.count.typ,by rfl,hf',?_⟩
  repeat walk_at "st"
  refine zfR (Rm.le hr.deeper (by decide)) h U.mem ?_
  repeat walk_at "st"
  rw [show ((((ls++[(p,q)]).length:Nat):Int)==0)=false from by rw [beq_eq_false_iff_ne];simp;lia]
  show EXs _ _ _ _ _ _
  repeat walk_at "st"
  refine ziT (zdZ (K:=K) (x:=x) (dx:=dx) (C:=C) (l:=(ls++[(p,q)]).map zv) h.fg h.ops.lst h.cls h.st hf hs hc zox (by rfl) (by rfl) (by decide +kernel) U.mem rfl ?_ ?_)
  ·exact zpd h.fg h.ops.lst h.typ U.mem
  ·have U':=U
   unfold zaY at U'
   rw [List.map_append] at U'
   exact zoN (l:=ls.map zv) U' (by rw [List.length_map];lia) hP
theorem ziQ (hr:Rm A 3)(h:zb8 g K C a)(hz:(x,zaY dx C init [])∈σ.zone)(hP:P (.tup [tx [],tx []]) σ) :
  CL g A F (.ref a.fPop) [.raw (.ref x)] σ P:=by
 obtain ⟨c,pm,ct,cc,hf,hs,hc⟩:=h.pop.at_
 refine (zg2 (n:=2) (xs:=["self"]) hr hf (by decide) rfl (fun vs hv=>?_) (by rfl) (by rfl) fun L=>?_).cl
 ·revert vs hv;refine zcV ?_;intros;rfl
 ·have hk:z0 (zap (mkM 7 3 "pop" "_Accumulator.pop" c pm .none (.ref ct) [("__class__",cc)]) L a.fPop):=zy rfl
  obtain ⟨c',pm',ct',cc',hf',-,-⟩:=h.count.at_
  refine zdU ?_
  repeat walk_at "st"
  refine zak h.fg ?_
  repeat walk_at "st"
  refine ⟨x,dx,C,_,_,_,_,_,rfl,hz,.lst h.ops.lst,h.count.find,h.count.typ,by rfl,hf',?_⟩
  repeat walk_at "st"
  refine zfR (Rm.le hr.deeper (by decide)) h hz ?_
  repeat walk_at "st"
  show EXs _ _ _ _ _ _
  repeat walk_at "st"
  exact hP
theorem zkd (hr:Rm A 3)(h:zb8 g K C a)(hz:(x,zaY dx C init ls)∈σ.zone)(hi0:-1000000<=init)(hi1:init<=1000000)(hls:ls.length<=1000)(hlp:∀ p∈ls,p.1.length+p.2.length<=1000)
  (hP:P (.int (zo init ls)) σ):CL g A F (.ref a.fLen) [.raw (.ref x)] σ P:=by
 obtain ⟨c,pm,hf,Pt,T⟩:=h.len.at_
 refine za2 (n:=2) (xs:=["self"]) hr hf (by decide) rfl (fun vs hv=>?_) (by rfl) (by rfl) fun L=>?_
 ·revert vs hv;refine zcV ?_;intros;rfl
 ·have hk:z0 (zap (mkM 7 4 "__len__" "_Accumulator.__len__" c pm .none .none []) L a.fLen):=zy rfl
  refine zb ?_
  refine zan ?_
  refine zmu (x:=x) (dx:=dx) (C:=C) (c:=c) (Pt:=Pt) (att:=[("_initial_size",.int init)]) (ls:=ls) (init:=init) (Rm.le hr.deeper (by decide)) h.fg h.ops.lst h.ops.iter h.size h.bm T rfl hk h.sum h.len_ hz rfl rfl hi0 hi1 hls hlp ?_
  exact zcp.mk [] rfl hP
theorem zmY (hr:Rm A 3)(h:zb8 g K C a)(hz:(x,zaY dx C init ls)∈σ.zone)(hls:ls.length<=1000)(hlp:∀ p∈ls,p.1.length+p.2.length<=1000)
  (hP:P (tx (zbC ls)) σ):CL g A F (.ref a.fStr) [.raw (.ref x)] σ P:=by
 obtain ⟨c,pm,hf,Pt,T⟩:=h.str.at_
 obtain ⟨t,he⟩:=h.empty
 refine za2 (n:=2) (xs:=["self"]) hr hf (by decide) rfl (fun vs hv=>?_) (by rfl) (by rfl) fun L=>?_
 ·revert vs hv;refine zcV ?_;intros;rfl
 ·have hk:z0 (zap (mkM 7 5 "__str__" "_Accumulator.__str__" c pm .none .none []) L a.fStr):=zy rfl
  refine zb ?_
  refine zan ?_
  refine zkZ (x:=x) (dx:=dx) (C:=C) (c:=c) (Pt:=Pt) (att:=[("_initial_size",.int init)]) (ls:=ls) (Rm.le hr.deeper (by decide)) h.fg h.ops.lst h.ops.iter h.bm T rfl hk he hz rfl hls hlp ?_
  exact zcp.mk [] rfl hP
theorem ZAt.mk {D:Addr}{m m':MO}{post:List (Addr × MO)}:∀ pre:List (Addr × MO),ZAt D m m' (pre++(D,m)::post) (pre++(D,m')::post)
 | []=>.head
 | _::pre=>.tail (ZAt.mk pre)
theorem zgp (hr:Rm A 1)(h:zb8 g K C a)(U:ZAt x (zaY dx C init ls) (zaY dx C 0 []) σ.zone zone')(hl:ls.length<=1000)(hP:P (.raw .none) ⟨σ.loc,zone'⟩) :
  CL g A F (.ref a.fReset) [.raw (.ref x)] σ P:=by
 obtain ⟨c,pm,T,hf,hd⟩:=h.reset.at_
 obtain ⟨loc,zone⟩:=σ
 obtain ⟨pre,post,e1,e2⟩:=U.split
 dsimp only at e1 hP
 subst e1 e2
 refine (zdG (n:=0) (xs:=["self","startval"]) (ps:=[.raw (.ref x)]) (qs:=[.raw (.ref x),.raw .none]) (kw:=[]) hr hf (by decide) rfl (fun s vs S hvs=>?_) (by rfl) (by rfl) fun L=>?_).clc.cl
 ·cases hvs with | cons hv hvs=>cases hvs;exact ⟨_,.cons hv (.cons (.raw _) .nil),hd.binds S (by rfl) (by rfl)⟩
 ·have hk:z0 (zap (mkM 7 6 "reset" "_Accumulator.reset" c pm (.ref T) .none []) L a.fReset):=zy rfl
  refine zb ?_
  repeat walk_at "st"
  refine zmC (by rfl) ?_
  repeat walk_at "st"
  show EXs _ _ _ _ _ _
  repeat walk_at "st"
  refine zb5 ?_
  repeat walk_at "st"
  refine zbh h.fg ?_
  repeat walk_at "st"
  refine ⟨x,dx,C,[("_initial_size",.int init)],ls.map zv,[],pre++(x,zaY dx C init [])::post,rfl,.inl rfl,h.ops,?_,by simp;lia,?_⟩
  ·have e:(ls.map zv).take (slo (ls.map zv).length none)++[]++(ls.map zv).drop (max (slo (ls.map zv).length none) (shi (ls.map zv).length none))=([]:List (List Nat × List Nat)).map zv:=by
    show List.take 0 _++[]++List.drop (max 0 (ls.map zv).length) _=[]
    simp
   rw [e]
   exact ZAt.mk pre
  ·repeat walk_at "st"
   refine z8 h.fg ?_
   repeat walk_at "st"
   refine ⟨x,dx,C,_,_,pre++(x,zaY dx C 0 [])::post,rfl,.lst h.ops.lst,ZAt.mk pre,h.size,by simp,?_⟩
   repeat walk_at "st"
   exact ⟨[],_,rfl,hP⟩
theorem zlv (hr:Rm A 1)(h:zb8 g K C a){new:List (List Nat × List Nat)}(U:ZAt x (zaY dx C init ls) (zaY dx C 0 new) σ.zone zone')(hl:ls.length+new.length<=1000)(hP:P (.raw .none) ⟨σ.loc,zone'⟩) :
  CL g A F (.ref a.fReset) [.raw (.ref x),.lst (new.map zv)] σ P:=by
 obtain ⟨c,pm,T,hf,hd⟩:=h.reset.at_
 obtain ⟨loc,zone⟩:=σ
 obtain ⟨pre,post,e1,e2⟩:=U.split
 dsimp only at e1 hP
 subst e1 e2
 refine (zdG (n:=0) (xs:=["self","startval"]) (ps:=[.raw (.ref x),.lst (new.map zv)]) (qs:=[.raw (.ref x),.lst (new.map zv)]) (kw:=[]) hr hf (by decide) rfl (fun s vs S hvs=>?_) (by rfl) (by rfl) fun L=>?_).clc.cl
 ·refine ⟨vs,hvs,?_⟩
  cases hvs with | cons h1 hvs=>cases hvs with | cons h2 hvs=>cases hvs;exact hd.binds S (by rfl) (by rfl)
 ·have hk:z0 (zap (mkM 7 6 "reset" "_Accumulator.reset" c pm (.ref T) .none []) L a.fReset):=zy rfl
  refine zb ?_
  repeat walk_at "st"
  refine zjo ?_
  repeat walk_at "st"
  show EXs _ _ _ _ _ _
  repeat walk_at "st"
  refine zbh h.fg ?_
  repeat walk_at "st"
  refine ⟨x,dx,C,[("_initial_size",.int init)],ls.map zv,new.map zv,pre++(x,zaY dx C init new)::post,rfl,.inl rfl,h.ops,?_,by simp;lia,?_⟩
  ·have e:(ls.map zv).take (slo (ls.map zv).length none)++new.map zv++(ls.map zv).drop (max (slo (ls.map zv).length none) (shi (ls.map zv).length none))=new.map zv:=by
    show List.take 0 _++_++List.drop (max 0 (ls.map zv).length) _=_
    simp
   rw [e]
   exact ZAt.mk pre
  ·repeat walk_at "st"
   refine z8 h.fg ?_
   repeat walk_at "st"
   refine ⟨x,dx,C,_,_,pre++(x,zaY dx C 0 new)::post,rfl,.lst h.ops.lst,ZAt.mk pre,h.size,by simp,?_⟩
   repeat walk_at "st"
   exact ⟨[],_,rfl,hP⟩
theorem znN (hr:Rm A 1)(h:zb8 g K C a){i:Nat}(U:ZAt x (zaY dx C init ls) (zaY dx C init (ls.take i)) σ.zone zone')(hi:i<=ls.length)(hl:ls.length<=1000)(hP:P (.lst ((ls.drop i).map zv)) ⟨σ.loc,zone'⟩) :
  CL g A F (.ref a.fPopF) [.raw (.ref x),.int i] σ P:=by
 obtain ⟨t,hm⟩:=h.popF
 obtain ⟨c,pm,T,hf,hd⟩:=hm.at_
 obtain ⟨loc,zone⟩:=σ
 obtain ⟨pre,post,e1,e2⟩:=U.split
 dsimp only at e1 hP
 subst e1 e2
 have hc:slo (ls.map zv).length (some (i:Int))=i:=by
  show clipAt _ _=_
  have:=clipAt_cast (ls.map zv).length (i:Int)
  rw [List.length_map] at this ⊢
  rw [if_neg (by lia)] at this
  lia
 refine (zdG (n:=0) (xs:=["self","i"]) (ps:=[.raw (.ref x),.int i]) (qs:=[.raw (.ref x),.int i]) (kw:=[]) hr hf (by decide) rfl (fun s vs S hvs=>?_) (by rfl) (by rfl) fun L=>?_).clc.cl
 ·refine ⟨vs,hvs,?_⟩
  cases hvs with | cons h1 hvs=>cases hvs with | cons h2 hvs=>cases hvs;exact hd.binds S (by rfl) (by rfl)
 ·have hk:z0 (zap (mkM 7 2 "pop_from" "_Accumulator.pop_from" c pm (.ref T) .none []) L a.fPopF):=zy rfl
  refine zb ?_
  refine zd hk ?_
  refine zeD h.fg ?_
  repeat walk_at "st"
  refine ⟨_,rfl,?_⟩
  repeat walk_at "st"
  refine ⟨x,dx,C,[("_initial_size",.int init)],ls.map zv,rfl,h.ops,by simp,by rw [List.length_map];lia,?_⟩
  repeat walk_at "st"
  refine zbh h.fg ?_
  refine zb5 ?_
  repeat walk_at "st"
  refine ⟨_,rfl,?_⟩
  repeat walk_at "st"
  refine ⟨x,dx,C,[("_initial_size",.int init)],ls.map zv,[],pre++(x,zaY dx C init (ls.take i))::post,rfl,.inl rfl,h.ops,?_,by simp;lia,?_⟩
  ·have e:(ls.map zv).take (slo (ls.map zv).length (some (i:Int)))++[]++(ls.map zv).drop (max (slo (ls.map zv).length (some (i:Int))) (shi (ls.map zv).length none))=(ls.take i).map zv:=by
    rw [hc]
    show List.take i _++[]++List.drop (max i (ls.map zv).length) _=_
    simp [List.map_take]
    lia
   rw [e]
   exact ZAt.mk pre
  ·repeat walk_at "st"
   refine ⟨[],_,rfl,?_⟩
   have e:sl (ls.map zv) (some (i:Int)) none=(ls.drop i).map zv:=by
    unfold sl
    rw [hc]
    show List.take ((ls.map zv).length - i) _=_
    rw [List.take_of_length_le (by simp),List.map_drop]
   rw [<- e] at hP
   exact hP
theorem zds (h0:0<=init):∃ n:Nat,zo init ls=n/\(n:Int)=zo init ls:=by
 have e:0<=zo init ls:=by
  unfold zo
  have:∀ l:List (List Nat × List Nat),0<=(l.map fun p=>((p.1.length+p.2.length:Nat):Int)).sum:=fun l=>by
   induction l with
   | nil=>exact Int.le_refl _
   | cons p r ih=>rw [List.map_cons,List.sum_cons];lia
  have:=this ls
  lia
 exact ⟨(zo init ls).toNat,by lia,by lia⟩
theorem zi0 {B:Nat}(hls:ls.length<=1000)(hlp:∀ p∈ls,p.1.length+p.2.length<=1000):zo init ls<=init+1000000:=by
 unfold zo
 have:∀ l:List (List Nat × List Nat),(∀ p∈l,p.1.length+p.2.length<=1000)->(l.map fun p=>((p.1.length+p.2.length:Nat):Int)).sum<=1000*l.length:=fun l h=>by
  induction l with
  | nil=>exact Int.le_refl _
  | cons p r ih =>
   rw [List.map_cons,List.sum_cons,List.length_cons]
   have:=ih fun p hp=>h p (List.mem_cons_of_mem _ hp)
   have:=h p List.mem_cons_self
   lia
 have:=this ls hlp
 lia
structure zce (init:Int)(ls:List (List Nat × List Nat)):Prop where
 i0:0<=init
 i1:init<=1000000
 len:ls.length<=1000
 each:∀ p∈ls,p.1.length+p.2.length<=1000
theorem zl2 (hr:Rm A 4)(h:zb8 g K C a)(hz:(x,zaY dx C init ls)∈σ.zone)(sz:zce init ls)(hP:P (.int (zo init ls)) σ):CL g A F (.builtin "len") [.raw (.ref x)] σ P:=by
 refine zjK h.fg hz h.len.find h.len.typ ?_
 obtain ⟨n,e1,e2⟩:=zds (ls:=ls) sz.i0
 have:=zi0 (B:=0) (init:=init) sz.len sz.each
 have:=sz.i1
 refine zkd (Rm.in1 hr) h hz (by have:=sz.i0;lia) sz.i1 sz.len sz.each ⟨n,by rw [e1],by lia,?_⟩
 rw [e2];exact hP
theorem zmI (hr:Rm A 4)(h:zb8 g K C a)(hz:(x,zaY dx C init ls)∈σ.zone)(sz:zce init ls){P:Bool->AS->Prop}(hP:P (zo init ls != 0) σ):TT g A F (.raw (.ref x)) σ P:=by
 refine zo9 h.fg hz h.nobool h.len.find h.len.typ ?_
 obtain ⟨n,e1,e2⟩:=zds (ls:=ls) sz.i0
 have:=zi0 (B:=0) (init:=init) sz.len sz.each
 have:=sz.i1
 refine zkd (Rm.in1 hr) h hz (by have:=sz.i0;lia) sz.i1 sz.len sz.each ⟨n,by rw [e1],by lia,?_⟩
 rw [e1] at hP
 have:(((n:Nat):Int) != 0)=(n != 0):=by
  by_cases q:n=0
  ·subst q;rfl
  ·rw [bne_iff_ne.mpr q,bne_iff_ne.mpr (by lia)]
 rw [this] at hP
 exact hP
theorem zjE (hr:Rm A 5)(h:zb8 g K C a)(hz:(x,zaY dx C init ls)∈σ.zone)(sz:zce init ls)(hP:P (tx (zbC ls)) σ):CL g A F (.type "str") [.raw (.ref x)] σ P :=
 zi8 (n:=4) hr h.fg hz h.str.find h.str.typ (zmY (Rm.le (Rm.in2 hr) (by decide)) h hz sz.len sz.each ⟨_,rfl,hP⟩)
noncomputable def zcJ (init:Int)(ls:List (List Nat × List Nat)):Bool:=init==0 && (zo init ls==0 || zaO (zbC ls))
theorem zk3 (hr:Rm A 6)(h:zb8 g K C a)(hz:(x,zaY dx C init ls)∈σ.zone)(sz:zce init ls)(hP:P (.raw (.bool (zcJ init ls))) σ) :
  CL g A F (.ref a.fWs) [.raw (.ref x)] σ P:=by
 obtain ⟨c,pm,hf,-⟩:=h.ws.at_
 refine za2 (n:=5) (xs:=["self"]) hr hf (by decide) rfl (fun vs hv=>?_) (by rfl) (by rfl) fun L=>?_
 ·revert vs hv;refine zcV ?_;intros;rfl
 ·have hk:z0 (zap (mkM 7 7 "is_onlyws" "_Accumulator.is_onlyws" c pm .none .none []) L a.fWs):=zy rfl
  refine zb ?_
  refine zan ?_
  refine zpK ?_
  repeat walk_at "st"
  refine zah h.fg ?_
  repeat walk_at "st"
  refine ⟨x,dx,C,_,_,.int init,rfl,hz,.lst h.ops.lst,h.size,by rfl,by rfl,?_⟩
  repeat walk_at "st"
  unfold zcJ at hP
  show (if (init==0)=true then (_:Prop) else _)
  cases hi:(init==0) with
  | false =>
   rw [hi,Bool.false_and] at hP
   rw [if_neg Bool.false_ne_true]
   exact zcp.mk [] rfl hP
  | true =>
   rw [hi] at hP
   rw [Bool.true_and] at hP
   rw [if_pos rfl]
   refine zoH ?_
   refine zeN ?_
   repeat walk_at "st"
   refine zpF ?_
   refine zmI (σ:=⟨List.zip ["self"] [.raw (.ref x)],σ.zone⟩) (Rm.le hr.deeper (by decide)) h hz sz ?_
   repeat walk_at "st"
   cases hl:(zo init ls==0) with
   | true =>
    have hl':zo init ls=0:=by simpa using hl
    rw [hl] at hP
    show (if (!(zo init ls != 0))=true then (_:Prop) else _)
    rw [show (!(zo init ls != 0))=true from by rw [hl'];decide]
    rw [if_pos rfl]
    exact zcp.mk [] rfl hP
   | false =>
    rw [hl,Bool.false_or] at hP
    have hl':(!(zo init ls != 0))=false:=by show (!(!(zo init ls==0)))=false;rw [hl];rfl
    rw [hl']
    show EV _ _ _ _ _ _
    refine zau ?_
    refine zh ?_
    refine zg hk h.str_ ?_
    refine ⟨_,rfl,rfl,?_⟩
    repeat walk_at "st"
    refine zjE hr.deeper h hz sz ?_
    refine ⟨_,ziv PySem.F.slot_str_isspace PySem.F.type_str_isspace,?_⟩
    repeat walk_at "st"
    refine zgQ ?_
    exact zcp.mk [] rfl hP
end
section
open PySem.W PySem.Builtin PySem.Builtin.ObjectAttr
structure VfA where
 (fI fStr_ fStr fNl fTr fFeed fMax fAsc fApp:Addr)
structure zi3 (g:Gl)(K:Frag)(C CA:Addr)(b:VfA)(a:zmQ):Prop where
 acc:zb8 g K CA a
 cls:zn0 K C
 init:MFn g K C 6 0 "__init__" "_ValueFormatter.__init__" b.fI
 str_:MFn g K C 6 1 "_str" "_ValueFormatter._str" b.fStr_
 nl:MFn g K C 6 3 "newline" "_ValueFormatter.newline" b.fNl
 feed:MFn g K C 6 5 "feed" "_ValueFormatter.feed" b.fFeed
 asc:MFn g K C 6 7 "_ascii_split" "_ValueFormatter._ascii_split" b.fAsc
 app:MFn g K C 6 8 "_append_chunk" "_ValueFormatter._append_chunk" b.fApp
 no1:findIn K (.ref C) "_maxlen" = some none
 no2:findIn K (.ref C) "_continuation_ws" = some none
 no3:findIn K (.ref C) "_continuation_ws_len" = some none
 no4:findIn K (.ref C) "_splitchars" = some none
 no5:findIn K (.ref C) "_lines" = some none
 no6:findIn K (.ref C) "_current_line" = some none
 no7:findIn K (.ref C) "header_encoding" = some none
 makes:makesIn K C=true
 calls:zeQ K C=true
 gAcc:g.Glob "_Accumulator" (.ref CA)
 gVf:g.Glob "_ValueFormatter" (.ref C)
 range_:g.Blt "range" (.type "range")
 iter_:g.Blt "iter" (.builtin "iter")
 zip_:g.Blt "zip" (.type "zip")
structure VfI where
 (fo dfo CF Lo ac dac CA:Addr) (maxlen:Int) (cw sc:List Nat)
noncomputable abbrev VfI.att (V:VfI):List (Str × PV):=[("_maxlen",.int V.maxlen),("_continuation_ws",tx V.cw),("_continuation_ws_len",.int V.cw.length),("_splitchars",tx V.sc),("_lines",.raw (.ref V.Lo)),("_current_line",.raw (.ref V.ac))]
noncomputable abbrev VfI.z (V:VfI)(lines:List (List Nat))(init:Int)(ls:List (List Nat × List Nat))(rest:List (Addr × MO)):List (Addr × MO) :=
 (V.ac,zaY V.dac V.CA init ls)::(V.Lo,.list (lines.map tx))::(V.fo,.inst V.dfo V.CF V.att none)::rest
variable {g:Gl}{A:Around}{F:Fm}{σ:AS}{K:Frag}{C CA:Addr}{a:zmQ}{b:VfA}{P:PV->AS->Prop}{x dx:Addr}{loc:List (Str × PV)}{rest:List (Addr × MO)}{V:VfI}{lines:List (List Nat)}{init:Int}{ls:List (List Nat × List Nat)}
theorem zmo (hr:Rm A 4)(h:zi3 g K C CA b a){headerlen maxlen:Int}{cw sc:List Nat}(hc:cw.length<=1000){fo dfo:Addr}{z:List (Addr × MO)}
  (hP:∀ Lo ac dac,P (.raw .none) ⟨loc,(VfI.mk fo dfo C Lo ac dac CA maxlen cw sc).z [] headerlen [] z⟩) :
  CLC g A F (.ref b.fI) [.raw (.ref fo),.int headerlen,.int maxlen,tx cw,tx sc] ⟨loc,(fo,.inst dfo C [] none)::z⟩ P:=by
 obtain ⟨c,pm,hf,-⟩:=h.init.at_
 refine zcD (n:=3) (xs:=["self","headerlen","maxlen","continuation_ws","splitchars"]) hr hf (by decide) rfl (fun vs hv=>?_) (by rfl) (by rfl) fun L=>?_
 ·revert vs hv;refine ztW ?_;intros;rfl
 ·have hk:z0 (zap (mkM 6 0 "__init__" "_ValueFormatter.__init__" c pm .none .none []) L b.fI):=zy rfl
  have hfg:=h.acc.fg
  refine zb ?_
  refine z8 hfg ?_
  repeat walk_at "st"
  refine ⟨fo,dfo,C,_,_,_,rfl,.obj h.cls,.head,h.no1,by simp,?_⟩
  repeat walk_at "st"
  refine z8 hfg ?_
  repeat walk_at "st"
  refine ⟨fo,dfo,C,_,_,_,rfl,.obj h.cls,.head,h.no2,Nat.le_of_ble_eq_true (by left),?_⟩
  repeat walk_at "st"
  refine z8 hfg ?_
  refine zh ?_
  refine zg hk h.acc.len_ ?_
  refine ⟨_,rfl,rfl,?_⟩
  repeat walk_at "st"
  refine zba (by lia) ?_
  repeat walk_at "st"
  refine ⟨fo,dfo,C,_,_,_,rfl,.obj h.cls,.head,h.no3,Nat.le_of_ble_eq_true (by left),?_⟩
  repeat walk_at "st"
  refine z8 hfg ?_
  repeat walk_at "st"
  refine ⟨fo,dfo,C,_,_,_,rfl,.obj h.cls,.head,h.no4,Nat.le_of_ble_eq_true (by left),?_⟩
  repeat walk_at "st"
  refine z8 hfg ?_
  refine zao ?_
  refine zf ⟨by simp,fun Lo=>?_⟩
  repeat walk_at "st"
  refine ⟨fo,dfo,C,_,_,_,rfl,.obj h.cls,.tail .head,h.no5,Nat.le_of_ble_eq_true (by left),?_⟩
  repeat walk_at "st"
  refine z8 hfg ?_
  refine zdh hfg h.acc.calls ?_
  refine zl hk h.gAcc ?_
  refine ⟨rfl,?_⟩
  repeat walk_at "st"
  refine zol (fI:=a.fI) (n:=2) hr.deeper hfg h.acc.makes ?_ ?_ fun A' ac dac hA'=>?_
  ·obtain ⟨t,hm⟩:=h.acc.init;exact hm.find
  ·obtain ⟨t,hm⟩:=h.acc.init;exact hm.typ
  ·refine zne (Rm.le hA' (by decide)) h.acc ?_
   refine ⟨rfl,?_⟩
   repeat walk_at "st"
   refine ⟨fo,dfo,C,_,_,_,rfl,.obj h.cls,.tail (.tail .head),h.no6,Nat.le_of_ble_eq_true (by left),?_⟩
   repeat walk_at "st"
   exact ⟨[],_,rfl,hP Lo ac dac⟩
noncomputable def zfZ (ls:List (List Nat × List Nat)):List (List Nat × List Nat):=match ls.getLast? with
 | none=>[([],[])]
 | some e=>if e=([32],[]) then ls.dropLast else ls
noncomputable def zal (lines:List (List Nat))(init:Int)(ls:List (List Nat × List Nat)):List (List Nat):=if 0 < zo init (zfZ ls) then lines++[zbC (zfZ ls)] else lines
theorem zmi {L:Addr}{c:Addr}{pm:Value}{Q:Fl->AS->Prop}{ls1:List (List Nat × List Nat)}{fd}(hfd:fd=mkM 6 3 "newline" "_ValueFormatter.newline" c pm .none .none [])(hr:Rm A 7)(h:zi3 g K V.CF V.CA b a)(sz:zce init ls1)(hws:0 < zo init ls1->zcJ init ls1=false)(hl:lines.length<=1000)
  (hself:loc.lookup ("self":Str)=some (.raw (.ref V.fo))) (hQ:Q .next ⟨loc,V.z (if 0 < zo init ls1 then lines++[zbC ls1] else lines) 0 [] rest⟩) :
  EXs g A (zap fd L b.fNl) ((mB 6 3).drop 2) ⟨loc,V.z lines init ls1 rest⟩ Q:=by
 subst hfd
 obtain ⟨c1,pm1,hf1,-⟩:=h.acc.ws.at_
 obtain ⟨c2,pm2,T2,hf2,-⟩:=h.acc.reset.at_
 have hk:z0 (zap (mkM 6 3 "newline" "_ValueFormatter.newline" c pm .none .none []) L b.fNl):=zy rfl
 have hfg:=h.acc.fg
 have hreset:∀ lines',Q .next ⟨loc,V.z lines' 0 [] rest⟩->EXs g A (zap (mkM 6 3 "newline" "_ValueFormatter.newline" c pm .none .none []) L b.fNl) ((mB 6 3).drop 3) ⟨loc,V.z lines' init ls1 rest⟩ Q:=fun lines' hq=>by
  refine zb ?_
  refine zab ?_
  refine zak hfg ?_
  refine zah hfg ?_
  refine za hk hself ?_
  refine ⟨V.fo,V.dfo,V.CF,_,_,_,rfl,.tail _ (.tail _ (.head _)),.obj h.cls,h.no6,by rfl,by rfl,?_⟩
  refine ⟨V.ac,V.dac,V.CA,_,_,_,_,_,rfl,.head _,.lst h.acc.ops.lst,h.acc.reset.find,h.acc.reset.typ,by rfl,hf2,?_⟩
  repeat walk_at "st"
  refine zgp (Rm.le hr (by decide)) h.acc .head sz.len ?_
  refine ⟨trivial,?_⟩
  repeat walk_at "st"
  exact hq
 refine zb ?_
 refine zaA ?_
 refine ze ?_
 refine zh ?_
 refine zg hk h.acc.len_ ?_
 refine ⟨_,rfl,rfl,?_⟩
 refine zc ?_
 refine zah hfg ?_
 refine za hk hself ?_
 refine ⟨V.fo,V.dfo,V.CF,_,_,_,rfl,.tail _ (.tail _ (.head _)),.obj h.cls,h.no6,by rfl,by rfl,?_⟩
 refine zf ?_
 refine zl2 (Rm.le hr (by decide)) h.acc (.head _) sz ?_
 repeat walk_at "st"
 by_cases hp:0 < zo init ls1
 ·rw [if_pos hp] at hQ
  show (if decide (zo init ls1 > 0)=true then (_:Prop) else _)
  rw [decide_eq_true (show zo init ls1 > 0 from hp),if_pos rfl]
  refine zb ?_
  refine zaA ?_
  refine zaz ?_
  refine zn ?_
  refine zaF ?_
  refine zak hfg ?_
  refine zah hfg ?_
  refine za hk hself ?_
  refine ⟨V.fo,V.dfo,V.CF,_,_,_,rfl,.tail _ (.tail _ (.head _)),.obj h.cls,h.no6,by rfl,by rfl,?_⟩
  refine ⟨V.ac,V.dac,V.CA,_,_,_,_,_,rfl,.head _,.lst h.acc.ops.lst,h.acc.ws.find,h.acc.ws.typ,by rfl,hf1,?_⟩
  refine zf ?_
  refine zk3 (Rm.le hr (by decide)) h.acc (.head _) sz ?_
  rw [hws hp]
  refine zk ?_
  show EXs _ _ _ _ _ _
  refine zb ?_
  refine zab ?_
  refine zai ?_
  refine zah hfg ?_
  refine za hk hself ?_
  refine ⟨V.fo,V.dfo,V.CF,_,_,_,rfl,.tail _ (.tail _ (.head _)),.obj h.cls,h.no5,by rfl,by rfl,?_⟩
  refine ⟨V.Lo,lines.map tx,rfl,.tail _ (.head _),?_⟩
  refine zh ?_
  refine zg hk h.acc.str_ ?_
  refine ⟨_,rfl,rfl,?_⟩
  refine zc ?_
  refine zah hfg ?_
  refine za hk hself ?_
  refine ⟨V.fo,V.dfo,V.CF,_,_,_,rfl,.tail _ (.tail _ (.head _)),.obj h.cls,h.no6,by rfl,by rfl,?_⟩
  refine zf ?_
  refine zjE (Rm.le hr (by decide)) h.acc (.head _) sz ?_
  refine ⟨lines.map tx,_,.tail .head,by rw [List.length_map];lia,?_⟩
  refine ⟨trivial,?_⟩
  refine zi ?_
  refine zi ?_
  have:=hreset _ hQ
  unfold VfI.z at this
  rw [show (lines++[zbC ls1]).map tx=lines.map tx++[tx (zbC ls1)] from by simp] at this
  exact this
 ·rw [if_neg hp] at hQ
  show (if decide (zo init ls1 > 0)=true then (_:Prop) else _)
  rw [decide_eq_false (show ¬ (zo init ls1 > 0) from hp),if_neg (by decide)]
  refine zi ?_
  exact hreset _ hQ
theorem zon {α:Type}(l:List α):l=[]\/∃ r e,l=r++[e]:=by
 rcases List.eq_nil_or_concat l with h | ⟨r,e,h⟩
 ·exact .inl h
 ·exact .inr ⟨r,e,by simpa using h⟩
theorem zhZ {r:List (List Nat × List Nat)}{e:List Nat × List Nat}:zfZ (r++[e])=if e=([32],[]) then r else r++[e]:=by
 unfold zfZ;simp
theorem zgI (hr:Rm A 8)(h:zi3 g K V.CF V.CA b a)(sz:zce init ls)(hws:0 < zo init (zfZ ls)->zcJ init (zfZ ls)=false)(hl:lines.length<=1000)
  (hP:P (.raw .none) ⟨loc,V.z (zal lines init ls) 0 [] rest⟩):CL g A F (.ref b.fNl) [.raw (.ref V.fo)] ⟨loc,V.z lines init ls rest⟩ P:=by
 obtain ⟨c,pm,hf,-⟩:=h.nl.at_
 refine (zcD (n:=7) (xs:=["self"]) hr hf (by decide) rfl (fun vs hv=>?_) (by rfl) (by rfl) fun L=>?_).cl
 ·revert vs hv;refine zcV ?_;intros;rfl
 ·have hk:z0 (zap (mkM 6 3 "newline" "_ValueFormatter.newline" c pm .none .none []) L b.fNl):=zy rfl
  have hfg:=h.acc.fg
  have hr':=hr.deeper (env:=callEnv (mkM 6 3 "newline" "_ValueFormatter.newline" c pm .none .none []) L b.fNl)
  obtain ⟨c1,pm1,ct1,cc1,hf1,-⟩:=h.acc.pop.at_
  obtain ⟨c2,pm2,hf2,-⟩:=h.acc.push.at_
  refine zb ?_
  refine zd hk ?_
  refine zak hfg ?_
  refine zah hfg ?_
  refine za hk (by rfl) ?_
  refine ⟨V.fo,V.dfo,V.CF,_,_,_,rfl,.tail _ (.tail _ (.head _)),.obj h.cls,h.no6,by rfl,by rfl,?_⟩
  refine ⟨V.ac,V.dac,V.CA,_,_,_,_,_,rfl,.head _,.lst h.acc.ops.lst,h.acc.pop.find,h.acc.pop.typ,by rfl,hf1,?_⟩
  refine zf ?_
  have hpush:∀ (p q:List Nat) (ls':List (List Nat × List Nat)),ls'.length<=1000->(hne:¬ ([p,q]:List (List Nat))=[[32],[]])->zce init (ls'++[(p,q)])->zfZ ls=ls'++[(p,q)] ->
    EXs g (A.deeper (callEnv (mkM 6 3 "newline" "_ValueFormatter.newline" c pm .none .none []) L b.fNl)) (zap (mkM 6 3 "newline" "_ValueFormatter.newline" c pm .none .none []) L b.fNl) ((mB 6 3).drop 1)
     ⟨[("self",.raw (.ref V.fo)),("end_of_line",.tup ([p,q].map tx))],V.z lines init ls' rest⟩ fun fl σ'=>∃ pre z,σ'.zone=pre++z/\P (match fl with | .ret p=>p | _=>.raw .none) ⟨loc,z⟩:=by
   intro p q ls' hl' hne sz' hnl
   refine zb ?_
   refine zaA ?_
   refine ze ?_
   refine za hk (by rfl) ?_
   refine zcQ ?_
   repeat walk_at "st"
   refine zl4 (as:=[p,q]) (bs:=[[32],[]]) hr' ?_
   rw [decide_eq_false hne]
   refine zk ?_
   show EXs _ _ _ _ _ _
   refine zb ?_
   refine zab ?_
   refine zjv hfg ?_
   refine zah hfg ?_
   refine za hk (by rfl) ?_
   refine ⟨V.fo,V.dfo,V.CF,_,_,_,rfl,.tail _ (.tail _ (.head _)),.obj h.cls,h.no6,by rfl,by rfl,?_⟩
   refine ⟨V.ac,V.dac,V.CA,_,_,_,_,_,rfl,.head _,h.acc.ops.lst,h.acc.push.find,h.acc.push.typ,h.acc.pushGet,h.acc.pushTk,by rfl,hf2,?_⟩
   refine za hk (by rfl) ?_
   refine ⟨_,rfl,by simp,?_⟩
   refine ziL (Rm.le hr' (by decide)) h.acc .head hl' ?_
   refine ⟨trivial,?_⟩
   refine zi ?_
   refine zmi rfl hr' h sz' (by rw [<- hnl];exact hws) hl (by rfl) ?_
   refine ⟨[],_,rfl,?_⟩
   unfold zal at hP
   rw [hnl] at hP
   exact hP
  rcases zon ls with e | ⟨r,⟨p,q⟩,e⟩
  ·subst e
   refine ziQ (Rm.le hr' (by decide)) h.acc (.head _) ?_
   refine hpush [] [] [] (by simp) (by decide) ⟨sz.i0,sz.i1,by simp,by simp⟩ rfl
  ·subst e
   refine zek (Rm.le hr' (by decide)) h.acc .head (by have:=sz.len;simp at this;lia) ?_
   by_cases hne:([p,q]:List (List Nat))=[[32],[]]
   ·cases hne
    have hnl:zfZ (r++[([32],[])])=r:=by rw [zhZ,if_pos rfl]
    refine zb ?_
    refine zaA ?_
    refine ze ?_
    refine za hk (by rfl) ?_
    refine zcQ ?_
    repeat walk_at "st"
    refine zl4 (as:=[[32],[]]) (bs:=[[32],[]]) hr' ?_
    refine zk ?_
    show EXs _ _ _ _ _ _
    refine zi ?_
    refine zmi rfl hr' h ⟨sz.i0,sz.i1,by have:=sz.len;simp at this;lia,fun p hp=>sz.each p (by simp [hp])⟩ (by rw [hnl] at hws;exact hws) hl (by rfl) ?_
    refine ⟨[],_,rfl,?_⟩
    unfold zal at hP
    rw [hnl] at hP
    exact hP
   ·refine hpush p q r (by have:=sz.len;simp at this;lia) hne sz ?_
    rw [zhZ,if_neg]
    intro q';cases q';exact hne rfl
end
section
open PySem.W PySem.Builtin PySem.Builtin.ObjectAttr
variable {g:Gl}{A:Around}{F:Fm}{σ:AS}{K:Frag}{C CA:Addr}{a:zmQ}{b:VfA}{P:PV->AS->Prop}{x dx:Addr}{loc:List (Str × PV)}{rest:List (Addr × MO)}{V:VfI}{lines:List (List Nat)}{init:Int}{ls:List (List Nat × List Nat)}
theorem zrf (hr:Rm A 9)(h:zi3 g K V.CF V.CA b a)(sz:zce init ls)(hws:0 < zo init (zfZ ls)->zcJ init (zfZ ls)=false)(hl:lines.length<=1000){sep:List Nat}(hfit:zaT sep (zal lines init ls))
  (hP:P (tx (zaq sep (zal lines init ls))) ⟨loc,V.z (zal lines init ls) 0 [] rest⟩):CL g A F (.ref b.fStr_) [.raw (.ref V.fo),tx sep] ⟨loc,V.z lines init ls rest⟩ P:=by
 obtain ⟨c,pm,hf,-⟩:=h.str_.at_
 refine (zcD (n:=8) (xs:=["self","linesep"]) hr hf (by decide) rfl (fun vs hv=>?_) (by rfl) (by rfl) fun L=>?_).cl
 ·revert vs hv;refine zkR ?_;intros;rfl
 ·have hk:z0 (zap (mkM 6 1 "_str" "_ValueFormatter._str" c pm .none .none []) L b.fStr_):=zy rfl
  have hfg:=h.acc.fg
  obtain ⟨c1,pm1,hf1,-⟩:=h.nl.at_
  refine zb ?_
  refine zab ?_
  refine zak hfg ?_
  refine za hk (by rfl) ?_
  refine ⟨V.fo,V.dfo,V.CF,_,_,_,_,_,rfl,.tail _ (.tail _ (.head _)),.obj h.cls,h.nl.find,h.nl.typ,by rfl,hf1,?_⟩
  refine zf ?_
  refine zgI hr.deeper h sz hws hl ?_
  refine ⟨trivial,?_⟩
  refine zb ?_
  refine zan ?_
  refine zau ?_
  refine za hk (by rfl) ?_
  refine ⟨_,zcx,?_⟩
  refine zc ?_
  refine zah hfg ?_
  refine za hk (by rfl) ?_
  refine ⟨V.fo,V.dfo,V.CF,_,_,_,rfl,.tail _ (.tail _ (.head _)),.obj h.cls,h.no5,by rfl,by rfl,?_⟩
  refine zf ?_
  refine zfs (.tail _ (.head _)) hfit ?_
  exact ⟨[],_,rfl,hP⟩
noncomputable def znU:Nat->List PV
 | 0=>[]
 | n+1=>.int ((n+1:Nat):Int)::znU n
theorem zqX {n:Nat}:znU (n+1)=.int ((n+1:Nat):Int)::znU n:=rfl
theorem zkf:∀ n:Nat,(List.range n).map (fun (i:Nat)=>PV.int ((n:Int)+(i:Int)*(-1)))=znU n
 | 0=>rfl
 | n+1=>by
  rw [List.range_succ_eq_map,List.map_cons,List.map_map]
  rw [zqX]
  rw [show (((n+1:Nat):Int)+((0:Nat):Int)*(-1))=((n+1:Nat):Int) by lia]
  congr 1
  ·rw [<- zkf n]
   refine List.map_congr_left fun i _=>?_
   show PV.int _=PV.int _
   congr 1
   simp -iota only [Nat.succ_eq_add_one]
   lia
theorem zc4 (n:Nat):(Builtin.Range.rangeSize n 0 (-1)).toNat=n:=by
 unfold Builtin.Range.rangeSize
 rw [if_neg (by decide)]
 split
 ·have:(-(-1:Int))=1:=rfl
  rw [this,Int.ediv_one];lia
 ·lia
theorem zmv (n:Nat):zc8 n (-1) (Builtin.Range.rangeSize n 0 (-1)).toNat=znU n:=by
 rw [zc4];exact zkf n
theorem zkO {n:Nat}(h:n<=1000000):Builtin.Range.small n 0 (-1)=true:=by
 unfold Builtin.Range.small
 have e:Builtin.Range.rangeSize n 0 (-1)=n:=by
  have:=zc4 n
  have h0:0<=Builtin.Range.rangeSize n 0 (-1):=by
   unfold Builtin.Range.rangeSize
   rw [if_neg (by decide)]
   split
   ·have:(-(-1:Int))=1:=rfl
    rw [this,Int.ediv_one];lia
   ·lia
  lia
 rw [e]
 rw [if_neg (by decide)]
 simp only [Builtin.Range.rangeFitsLong,Bool.and_eq_true,Bool.or_eq_true,decide_eq_true_eq,beq_iff_eq]
 lia
noncomputable def ifB (s:Stmt):List Stmt:=(stP s).2.1
noncomputable def zrG (s:Stmt):List Stmt:=(stP s).2.1
noncomputable def zrW (s:Stmt):List Stmt:=(stP s).2.2.1
noncomputable def zt9 (s:Stmt):Expr:=(stP s).2.2.2.2.1
noncomputable def hdS (l:List Stmt):Stmt:=l.headD (.Pass ⟨0,0,0,0⟩)
noncomputable def zug:List Stmt:=ifB (hdS ((mB 6 8).drop 1))
noncomputable def zo1:Stmt:=hdS zug
noncomputable def zp2:Stmt:=hdS (zrG zo1)
noncomputable def zob (ch:Nat)(l:List Nat):Bool:=!l.isEmpty && decide ([l.getD 0 0]=[ch])
noncomputable def zoJ (ch:Nat)(l:List Nat):Bool:=!l.isEmpty && decide ([l.getD (l.length - 1) 0]=[ch])
noncomputable def zck (ls:List (List Nat × List Nat))(ch i:Nat):Bool:=(zaO [ch] && zob ch (ls.getD i ([],[])).1) || zoJ ch (ls.getD (i - 1) ([],[])).2
noncomputable def zdl (ls:List (List Nat × List Nat))(ch:Nat):Nat->Option Nat
 | 0=>none
 | i+1=>if zck ls ch (i+1) then some (i+1) else zdl ls ch i
theorem zll {ls:List (List Nat × List Nat)}{ch i:Nat}:zdl ls ch (i+1)=if zck ls ch (i+1) then some (i+1) else zdl ls ch i:=rfl
noncomputable def zgr (ls:List (List Nat × List Nat)):List Nat->Option Nat
 | []=>none
 | ch::r=>match zdl ls ch (ls.length - 1) with
  | some i=>some i
  | none=>zgr ls r
theorem zel {value slice:Expr}{i:Nat}(h:zi3 g K V.CF V.CA b a)(hz:(V.ac,zaY V.dac V.CA init ls)∈σ.zone)(hi:i < ls.length)(hl:ls.length<=1000)(hP:P (zv (ls.getD i ([],[]))) σ)
  (hs:∀ v u,subscripted slice false v u=operate [v,u] (getItem v u):=by left):IX g A F value slice (.raw (.ref V.ac)) (.int (i:Int)) σ P:=by
 refine zoY h.acc.fg h.acc.ops hz (by lia) (p:=zv (ls.getD i ([],[]))) ?_ (by rw [List.length_map];lia) hP hs
 have:(i:Int).toNat < ls.length:=by lia
 rw [List.getElem?_map,List.getElem?_eq_getElem this,List.getD_eq_getElem?_getD,List.getElem?_eq_getElem (show i < ls.length by lia)];rfl
theorem znF {value slice:Expr}{p q:PV}(hP:P p σ)(hs:∀ v u,subscripted slice false v u=operate [v,u] (getItem v u):=by left):IX g A F value slice (.tup [p,q]) (.int 0) σ P :=
 zlm (j:=0) rfl rfl (Nat.le_of_ble_eq_true rfl) hP hs
theorem znt {value slice:Expr}{p q:PV}(hP:P q σ)(hs:∀ v u,subscripted slice false v u=operate [v,u] (getItem v u):=by left):IX g A F value slice (.tup [p,q]) (.int 1) σ P :=
 zlm (j:=1) rfl rfl (Nat.le_of_ble_eq_true rfl) hP hs
theorem zbM {x y:Str}{p q:PV}{l:List (Str × PV)}(hl:l.lookup x=some q)(hne:(x==y)=false:=by decide):(zh3 y p l).lookup x=some q:=by
 rw [za8,hne];exact hl
theorem zew {x:Str}{p:PV}{l:List (Str × PV)}:(zh3 x p l).lookup x=some p:=by
 rw [za8,beq_self_eq_true];rfl
theorem zk4 {L c:Addr}{pm:Value}{Q:Fl->AS->Prop}{ch i:Nat}{fd}(hfd:fd=mkM 6 8 "_append_chunk" "_ValueFormatter._append_chunk" c pm .none .none [])(h:zi3 g K V.CF V.CA b a)(sz:zce init ls)
  (hself:loc.lookup ("self":Str)=some (.raw (.ref V.fo))) (hch:loc.lookup ("ch":Str)=some (tx [ch])) (hi:loc.lookup ("i":Str)=some (.int ((i+1:Nat):Int))) (hil:i+1 < ls.length)
  (hy:zoJ ch (ls.getD i ([],[])).2=true->Q .brk ⟨zh3 "prevpart" (tx (ls.getD i ([],[])).2) loc,V.z lines init ls rest⟩) (hn:zoJ ch (ls.getD i ([],[])).2=false->Q .next ⟨zh3 "prevpart" (tx (ls.getD i ([],[])).2) loc,V.z lines init ls rest⟩) :
  EXs g A (zap fd L b.fApp) ((zrG zp2).drop 1) ⟨loc,V.z lines init ls rest⟩ Q:=by
 subst hfd
 have hk:z0 (zap (mkM 6 8 "_append_chunk" "_ValueFormatter._append_chunk" c pm .none .none []) L b.fApp):=zy rfl
 have hfg:=h.acc.fg
 have hlen:=sz.len
 have hmem:ls.getD i ([],[])∈ls:=by rw [List.getD_eq_getElem?_getD,List.getElem?_eq_getElem (by lia)];exact List.getElem_mem _
 have hsz:=sz.each _ hmem
 refine zb ?_
 refine zd hk ?_
 refine zj ?_
 refine zj ?_
 refine zah hfg ?_
 refine za hk hself ?_
 refine ⟨V.fo,V.dfo,V.CF,_,_,_,rfl,.tail _ (.tail _ (.head _)),.obj h.cls,h.no6,by rfl,by rfl,?_⟩
 refine zac ?_
 refine za hk hi ?_
 refine zx ?_
 refine zlS ?_
 rw [show (((i+1:Nat):Int) - 1)=(i:Nat) by lia]
 refine zel h (.head _) (by lia) hlen ?_
 refine zx ?_
 refine znt ?_
 refine zb ?_
 refine zaA ?_
 refine zaz ?_
 refine zn ?_
 refine zaF ?_
 refine za hk zew ?_
 refine zgB (by lia) ?_
 unfold zoJ at hy hn
 cases he:(ls.getD i ([],[])).2.isEmpty with
 | true =>
  rw [he] at hn
  refine zi ?_
  refine zi ?_
  exact hn rfl
 | false =>
  rw [he] at hn hy
  refine zn ?_
  refine ze ?_
  refine zj ?_
  refine za hk zew ?_
  refine zeN ?_
  refine zx ?_
  refine zoo ?_
  refine zmU (by intro q;rw [q] at he;cases he) (by lia) ?_
  refine za hk (zbM hch) ?_
  refine zb9 ?_
  refine zk ?_
  cases hd:decide ([(ls.getD i ([],[])).2.getD ((ls.getD i ([],[])).2.length - 1) 0]=[ch]) with
  | true =>
   rw [hd] at hy
   refine zbG ?_
   refine zb ?_
   exact zeS (hy rfl)
  | false =>
   rw [hd] at hn
   refine zi ?_
   refine zi ?_
   exact hn rfl
theorem zja {L c:Addr}{pm:Value}{Q:Fl->AS->Prop}{ch:Nat}{fd}(hfd:fd=mkM 6 8 "_append_chunk" "_ValueFormatter._append_chunk" c pm .none .none [])(hr:Rm A 0)(h:zi3 g K V.CF V.CA b a)(sz:zce init ls)
  (hnone:zdl ls ch (ls.length - 1)=none->Q .cont ⟨[("self",.raw (.ref V.fo)),("ch",tx [ch])],V.z lines init ls rest⟩)
  (hsome:∀ j loc',zdl ls ch (ls.length - 1)=some j->Sub loc' [("self",.raw (.ref V.fo)),("i",.int (j:Nat))]->Q .next ⟨loc',V.z lines init ls rest⟩) :
  zmN g A (zap fd L b.fApp) (zt9 zp2) (zrG zp2) (zrW zp2) (znU (ls.length - 1)) ⟨[("self",.raw (.ref V.fo)),("ch",tx [ch])],V.z lines init ls rest⟩ Q:=by
 subst hfd
 have hk:z0 (zap (mkM 6 8 "_append_chunk" "_ValueFormatter._append_chunk" c pm .none .none []) L b.fApp):=zy rfl
 have hfg:=h.acc.fg
 refine zaQ (fun xs σ'=>∃ i,i<=ls.length - 1/\xs=znU i/\σ'=⟨[("self",.raw (.ref V.fo)),("ch",tx [ch])],V.z lines init ls rest⟩/\zdl ls ch i=zdl ls ch (ls.length - 1)) ?_ ?_ _ _ ⟨_,Nat.le_refl _,rfl,rfl,rfl⟩
 ·rintro _ ⟨i,hi,hx,rfl,hf⟩
  cases i with
  | succ i=>cases hx
  | zero =>
   refine zb ?_
   exact zjs (hnone hf.symm)
 ·intro I Q9 back out;rintro x xs _ ⟨i,hi,hx,rfl,hf⟩
  cases i with
  | zero=>cases hx
  | succ i =>
   cases hx
   have hlen:=sz.len
   refine zay hk ?_
   refine zb ?_
   refine zaA ?_
   refine zaF ?_
   refine zau ?_
   refine za hk (by rfl) ?_
   refine ⟨_,ziv PySem.F.slot_str_isspace PySem.F.type_str_isspace,?_⟩
   refine zf ?_
   refine zgQ ?_
   refine zk ?_
   have hfi:zdl ls ch (i+1)=if zck ls ch (i+1) then some (i+1) else zdl ls ch i:=rfl
   rw [hfi] at hf
   have hbase:Sub [("self",PV.raw (.ref V.fo)),("ch",tx [ch]),("i",.int ((i+1:Nat):Int))] [("self",.raw (.ref V.fo)),("ch",tx [ch])]:=by walk_at "sub"
   have hmem:ls.getD (i+1) ([],[])∈ls:=by rw [List.getD_eq_getElem?_getD,List.getElem?_eq_getElem (by lia)];exact List.getElem_mem _
   have hsz:=sz.each _ hmem
   have hprev:∀ loc',loc'.lookup ("self":Str)=some (.raw (.ref V.fo))->loc'.lookup ("ch":Str)=some (tx [ch])->loc'.lookup ("i":Str)=some (.int ((i+1:Nat):Int))->(zaO [ch] && zob ch (ls.getD (i+1) ([],[])).1)=false ->
     EXs g A (zap (mkM 6 8 "_append_chunk" "_ValueFormatter._append_chunk" c pm .none .none []) L b.fApp) ((zrG zp2).drop 1) ⟨loc',V.z lines init ls rest⟩ (zt7 g (zap (mkM 6 8 "_append_chunk" "_ValueFormatter._append_chunk" c pm .none .none []) L b.fApp) Q9 I (znU i)):=by
    intro loc' h1 h2 h3 hc1
    refine zk4 rfl h sz h1 h2 h3 (by lia) (fun hl=>?_) (fun hl=>?_)
    ·have hc:zck ls ch (i+1)=true:=by unfold zck;rw [hc1,Bool.false_or];exact hl
     rw [hc,if_pos rfl] at hf
     exact out _ _ (hsome _ _ hf.symm (.cons (zbM h1) (.cons (zbM h3) .nil)))
    ·have hc:zck ls ch (i+1)=false:=by unfold zck;rw [hc1,Bool.false_or];exact hl
     rw [hc,if_neg (by decide)] at hf
     exact ⟨_,Sub.weak' (loc':=[("self",.raw (.ref V.fo)),("ch",tx [ch])]) (.cons (zbM h1) (.cons (zbM h2) .nil)) rfl,fun _ h=>h,back _ _ ⟨i,by lia,rfl,rfl,hf⟩⟩
   cases hs:zaO [ch] with
   | false =>
    refine zi ?_
    exact hprev _ rfl rfl rfl (by rw [hs];rfl)
   | true =>
    refine zb ?_
    refine zd hk ?_
    refine zj ?_
    refine zj ?_
    refine zah hfg ?_
    refine za hk (by rfl) ?_
    refine ⟨V.fo,V.dfo,V.CF,_,_,_,rfl,.tail _ (.tail _ (.head _)),.obj h.cls,h.no6,by rfl,by rfl,?_⟩
    refine za hk (by rfl) ?_
    refine zel h (.head _) (by lia) hlen ?_
    refine zx ?_
    refine znF ?_
    refine zb ?_
    refine zaA ?_
    refine zaz ?_
    refine zn ?_
    refine zaF ?_
    refine za hk zew ?_
    refine zgB (by lia) ?_
    cases he:(ls.getD (i+1) ([],[])).1.isEmpty with
    | true =>
     refine zi ?_
     refine zi ?_
     exact hprev _ (zbM rfl) (zbM rfl) (zbM rfl) (by unfold zob;rw [he,hs];rfl)
    | false =>
     refine zn ?_
     refine ze ?_
     refine zj ?_
     refine za hk zew ?_
     refine zx ?_
     refine zcK (by lia) (by
      cases q:(ls.getD (i+1) ([],[])).1 with
      | nil=>rw [q] at he;cases he
      | cons _ _=>simp -iota) (by lia) ?_
     refine za hk (zbM rfl) ?_
     refine zb9 ?_
     refine zk ?_
     cases hd:decide ([(ls.getD (i+1) ([],[])).1.getD (0:Int).toNat 0]=[ch]) with
     | true =>
      refine zbG ?_
      refine zb ?_
      refine zeS ?_
      have hc:zck ls ch (i+1)=true:=by
       unfold zck zob
       rw [he,hs,show decide ([(ls.getD (i+1) ([],[])).1.getD 0 0]=[ch])=true from hd];rfl
      rw [hc,if_pos rfl] at hf
      exact out _ _ (hsome _ _ hf.symm (.cons (zbM rfl) (.cons (zbM rfl) .nil)))
     | false =>
      refine zi ?_
      refine zi ?_
      exact hprev _ (zbM rfl) (zbM rfl) (zbM rfl) (by
       unfold zob
       rw [he,hs,show decide ([(ls.getD (i+1) ([],[])).1.getD 0 0]=[ch])=false from hd];rfl)
theorem zik (l:List Nat):zhr (ofL l)=l.map fun c=>tx [c]:=by
 unfold zhr
 show (l.toArray.toList).map _=_
 simp only [List.map_inj_left]
 intro c _
 rfl
noncomputable abbrev zpp (c:Addr)(pm:Value):FuncData:=mkM 6 8 "_append_chunk" "_ValueFormatter._append_chunk" c pm .none .none []
theorem zmr {L c:Addr}{pm:Value}{Q:Fl->AS->Prop}{j:Nat}(hr:Rm A 7)(h:zi3 g K V.CF V.CA b a)(sz:zce init ls)(hl:lines.length<=1000)(hj:j<=ls.length)
  (hQ:∀ loc',Q .next ⟨loc',V.z (lines++[zbC (ls.take j)]) 0 (ls.drop j) rest⟩) :
  EXs g A (zap (zpp c pm) L b.fApp) (zug.drop 1) ⟨[("self",.raw (.ref V.fo)),("i",.int (j:Nat))],V.z lines init ls rest⟩ Q:=by
 have hk:z0 (zap (zpp c pm) L b.fApp):=zy rfl
 have hfg:=h.acc.fg
 have hlen:=sz.len
 obtain ⟨t1,hm1⟩:=h.acc.popF
 obtain ⟨c1,pm1,T1,hf1,-⟩:=hm1.at_
 obtain ⟨c2,pm2,T2,hf2,-⟩:=h.acc.reset.at_
 refine zb ?_
 refine zd hk ?_
 refine zak hfg ?_
 refine zah hfg ?_
 refine za hk (by rfl) ?_
 refine ⟨V.fo,V.dfo,V.CF,_,_,_,rfl,.tail _ (.tail _ (.head _)),.obj h.cls,h.no6,by rfl,by rfl,?_⟩
 refine ⟨V.ac,V.dac,V.CA,_,_,_,_,_,rfl,.head _,.lst h.acc.ops.lst,hm1.find,hm1.typ,by rfl,hf1,?_⟩
 refine zc ?_
 refine za hk (by rfl) ?_
 refine zf ?_
 refine znN (Rm.le hr (by decide)) h.acc .head hj hlen ?_
 refine zb ?_
 refine zab ?_
 refine zai ?_
 refine zah hfg ?_
 refine za hk (by rfl) ?_
 refine ⟨V.fo,V.dfo,V.CF,_,_,_,rfl,.tail _ (.tail _ (.head _)),.obj h.cls,h.no5,by rfl,by rfl,?_⟩
 refine ⟨V.Lo,lines.map tx,rfl,.tail _ (.head _),?_⟩
 refine zh ?_
 refine zg hk h.acc.str_ ?_
 refine ⟨_,rfl,rfl,?_⟩
 refine zc ?_
 refine zah hfg ?_
 refine za hk (by rfl) ?_
 refine ⟨V.fo,V.dfo,V.CF,_,_,_,rfl,.tail _ (.tail _ (.head _)),.obj h.cls,h.no6,by rfl,by rfl,?_⟩
 refine zf ?_
 have sz2:zce init (ls.take j):=⟨sz.i0,sz.i1,by rw [List.length_take];lia,fun p hp=>sz.each p (List.mem_of_mem_take hp)⟩
 refine zjE (Rm.le hr (by decide)) h.acc (.head _) sz2 ?_
 refine ⟨lines.map tx,_,.tail .head,by rw [List.length_map];lia,?_⟩
 refine ⟨trivial,?_⟩
 refine zb ?_
 refine zab ?_
 refine zak hfg ?_
 refine zah hfg ?_
 refine za hk (by rfl) ?_
 refine ⟨V.fo,V.dfo,V.CF,_,_,_,rfl,.tail _ (.tail _ (.head _)),.obj h.cls,h.no6,by rfl,by rfl,?_⟩
 refine ⟨V.ac,V.dac,V.CA,_,_,_,_,_,rfl,.head _,.lst h.acc.ops.lst,h.acc.reset.find,h.acc.reset.typ,by rfl,hf2,?_⟩
 refine zc ?_
 refine za hk (by rfl) ?_
 refine zf ?_
 refine zlv (ls:=ls.take j) (init:=init) (Rm.le hr (by decide)) h.acc .head (by rw [List.length_take,List.length_drop];lia) ?_
 refine ⟨trivial,?_⟩
 refine zi ?_
 have:=hQ [("self",.raw (.ref V.fo)),("i",.int (j:Nat)),("remainder",.lst ((ls.drop j).map zv))]
 unfold VfI.z at this
 rw [show (lines++[zbC (ls.take j)]).map tx=lines.map tx++[tx (zbC (ls.take j))] from by simp] at this
 exact this
theorem zkY {L c:Addr}{pm:Value}{Q:Fl->AS->Prop}{fws s:List Nat}(hr:Rm A 8)(h:zi3 g K V.CF V.CA b a)(sz:zce init (ls++[(fws,s)]))(hl:lines.length<=1000)
  (hQ:∀ loc',Q (.ret (.raw .none)) ⟨loc',if 0 < init then V.z (zal lines init ls) 0 [(if fws=[] then [32] else fws,s)] rest else V.z lines init (ls++[(fws,s)]) rest⟩) :
  EXs g A (zap (zpp c pm) L b.fApp) (zrW zo1) ⟨[("self",.raw (.ref V.fo))],V.z lines init (ls++[(fws,s)]) rest⟩ Q:=by
 have hk:z0 (zap (zpp c pm) L b.fApp):=zy rfl
 have hfg:=h.acc.fg
 have hlen:=sz.len
 rw [List.length_append] at hlen
 have hlen1:ls.length+1<=1000:=hlen
 have hez:fws.length+s.length<=1000:=sz.each (fws,s) (by simp)
 obtain ⟨c1,pm1,ct1,cc1,hf1,-⟩:=h.acc.pop.at_
 obtain ⟨c2,pm2,hf2,-⟩:=h.acc.push.at_
 obtain ⟨c3,pm3,hf3,-⟩:=h.nl.at_
 have szl:zce init ls:=⟨sz.i0,sz.i1,by lia,fun p hp=>sz.each p (by simp [hp])⟩
 have hpush:∀ loc' (f:List Nat) lines' init' ls',loc'.lookup ("self":Str)=some (.raw (.ref V.fo))->loc'.lookup ("fws":Str)=some (tx f)->loc'.lookup ("part":Str)=some (tx s)->ls'.length<=1000 ->
   Q (.ret (.raw .none)) ⟨loc',V.z lines' init' (ls'++[(f,s)]) rest⟩->EXs g A (zap (zpp c pm) L b.fApp) ((zrW zo1).drop 2) ⟨loc',V.z lines' init' ls' rest⟩ Q:=by
  intro loc' f lines' init' ls' h1 h2 h3 h4 hq
  refine zb ?_
  refine zab ?_
  refine zak hfg ?_
  refine zah hfg ?_
  refine za hk h1 ?_
  refine ⟨V.fo,V.dfo,V.CF,_,_,_,rfl,.tail _ (.tail _ (.head _)),.obj h.cls,h.no6,by rfl,by rfl,?_⟩
  refine ⟨V.ac,V.dac,V.CA,_,_,_,_,_,rfl,.head _,.lst h.acc.ops.lst,h.acc.push.find,h.acc.push.typ,by rfl,hf2,?_⟩
  refine zc ?_
  refine za hk h2 ?_
  refine zc ?_
  refine za hk h3 ?_
  refine zf ?_
  refine zkl (Rm.le hr (by decide)) h.acc .head h4 ?_
  refine ⟨trivial,?_⟩
  refine zb ?_
  refine zc3 ?_
  exact hq
 refine zb ?_
 refine zaM (Rm.le hr (by decide)) ?_
 refine zak hfg ?_
 refine zah hfg ?_
 refine za hk (by rfl) ?_
 refine ⟨V.fo,V.dfo,V.CF,_,_,_,rfl,.tail _ (.tail _ (.head _)),.obj h.cls,h.no6,by rfl,by rfl,?_⟩
 refine ⟨V.ac,V.dac,V.CA,_,_,_,_,_,rfl,.head _,.lst h.acc.ops.lst,h.acc.pop.find,h.acc.pop.typ,by rfl,hf1,?_⟩
 refine zf ?_
 refine zek (Rm.le hr (by decide)) h.acc .head (by lia) ?_
 refine ⟨_,rfl,rfl,?_⟩
 repeat walk_at "asg"
 refine zb ?_
 refine zaA ?_
 refine ze ?_
 refine zah hfg ?_
 refine zah hfg ?_
 refine za hk (by rfl) ?_
 refine ⟨V.fo,V.dfo,V.CF,_,_,_,rfl,.tail _ (.tail _ (.head _)),.obj h.cls,h.no6,by rfl,by rfl,?_⟩
 refine ⟨V.ac,V.dac,V.CA,_,_,_,rfl,.head _,.lst h.acc.ops.lst,h.acc.size,by rfl,by rfl,?_⟩
 refine zx ?_
 refine zlM ?_
 refine zk ?_
 by_cases hp:0 < init
 ·show (if decide _=true then (_:Prop) else _)
  rw [decide_eq_true hp,if_pos rfl]
  have hno:∀ l,zcJ init l=false:=fun l=>by unfold zcJ;rw [show (init==0)=false from beq_eq_false_iff_ne.mpr (by lia)];rfl
  have hQ':=fun loc'=>hQ loc'
  simp only [if_pos hp] at hQ'
  refine zb ?_
  refine zab ?_
  refine zak hfg ?_
  refine za hk (by rfl) ?_
  refine ⟨V.fo,V.dfo,V.CF,_,_,_,_,_,rfl,.tail _ (.tail _ (.head _)),.obj h.cls,h.nl.find,h.nl.typ,by rfl,hf3,?_⟩
  refine zf ?_
  refine zgI hr h szl (fun _=>hno _) hl ?_
  refine ⟨trivial,?_⟩
  refine zb ?_
  refine zaA ?_
  refine zgL ?_
  refine zaF ?_
  refine za hk (by rfl) ?_
  refine zgB (by lia) ?_
  cases fws with
  | nil =>
   refine zb ?_
   refine zd hk ?_
   refine zt _ ?_ (by walk_at "lit")
   refine zi ?_
   refine zi ?_
   exact hpush _ [32] _ _ _ rfl rfl rfl (by simp) (hQ' _)
  | cons f0 fr =>
   refine zi ?_
   refine zi ?_
   exact hpush _ (f0::fr) _ _ _ rfl rfl rfl (by simp) (hQ' _)
 ·show (if decide _=true then (_:Prop) else _)
  rw [decide_eq_false hp,if_neg (by decide)]
  have hQ':=fun loc'=>hQ loc'
  simp only [if_neg hp] at hQ'
  refine zi ?_
  exact hpush _ fws _ _ _ rfl rfl rfl (by lia) (hQ' _)
noncomputable abbrev VSt:=List (List Nat) × Int × List (List Nat × List Nat)
noncomputable def zjy (maxlen:Int)(sc:List Nat)(st:VSt)(fws s:List Nat):VSt :=
 if maxlen < zo st.2.1 (st.2.2++[(fws,s)]) then
  match zgr (st.2.2++[(fws,s)]) sc with
  | some i=>(st.1++[zbC ((st.2.2++[(fws,s)]).take i)],0,(st.2.2++[(fws,s)]).drop i)
  | none=>if 0 < st.2.1 then (zal st.1 st.2.1 st.2.2,0,[(if fws=[] then [32] else fws,s)]) else (st.1,st.2.1,st.2.2++[(fws,s)])
 else (st.1,st.2.1,st.2.2++[(fws,s)])
theorem zj7 {ls:List (List Nat × List Nat)}{ch:Nat}:∀ {n i:Nat},zdl ls ch n=some i->i<=n
 | 0,_,e=>by cases e
 | n+1,i,e=>by
  rw [zll] at e
  split at e
  ·cases e;exact Nat.le_refl _
  ·have:=zj7 e;lia
noncomputable abbrev VfI.s (V:VfI)(st:VSt)(rest:List (Addr × MO)):List (Addr × MO):=V.z st.1 st.2.1 st.2.2 rest
theorem zm7 (hr:Rm A 9)(h:zi3 g K V.CF V.CA b a){fws s:List Nat}{st:VSt}(sz:zce st.2.1 (st.2.2++[(fws,s)]))(hl:st.1.length<=1000)(hsc:V.sc.length<=1000)
  (hP:P (.raw .none) ⟨loc,V.s (zjy V.maxlen V.sc st fws s) rest⟩):CL g A F (.ref b.fApp) [.raw (.ref V.fo),tx fws,tx s] ⟨loc,V.s st rest⟩ P:=by
 obtain ⟨lines,init,ls⟩:=st
 dsimp -iota only at sz hl
 obtain ⟨c,pm,hf,-⟩:=h.app.at_
 refine (zcD (n:=8) (xs:=["self","fws","string"]) hr hf (by decide) rfl (fun vs hv=>?_) (by rfl) (by rfl) fun L=>?_).cl
 ·revert vs hv;refine zlj ?_;intros;rfl
 ·have hk:z0 (zap (mkM 6 8 "_append_chunk" "_ValueFormatter._append_chunk" c pm .none .none []) L b.fApp):=zy rfl
  have hfg:=h.acc.fg
  have hr':=hr.deeper (env:=callEnv (zpp c pm) L b.fApp)
  have hlen:=sz.len
  obtain ⟨c1,pm1,ct1,cc1,hf1,-⟩:=h.acc.count.at_
  obtain ⟨c2,pm2,hf2,-⟩:=h.acc.push.at_
  have hlen1:ls.length+1<=1000:=by rw [List.length_append] at hlen;exact hlen
  refine zb ?_
  refine zab ?_
  refine zak hfg ?_
  refine zah hfg ?_
  refine za hk (by rfl) ?_
  refine ⟨V.fo,V.dfo,V.CF,_,_,_,rfl,.tail _ (.tail _ (.head _)),.obj h.cls,h.no6,by rfl,by rfl,?_⟩
  refine ⟨V.ac,V.dac,V.CA,_,_,_,_,_,rfl,.head _,.lst h.acc.ops.lst,h.acc.push.find,h.acc.push.typ,by rfl,hf2,?_⟩
  refine zc ?_
  refine za hk (by rfl) ?_
  refine zc ?_
  refine za hk (by rfl) ?_
  refine zf ?_
  refine zkl (ls:=ls) (Rm.le hr' (by decide)) h.acc .head (by lia) ?_
  refine ⟨trivial,?_⟩
  refine zb ?_
  refine zaA ?_
  refine ze ?_
  refine zh ?_
  refine zg hk h.acc.len_ ?_
  refine ⟨_,rfl,rfl,?_⟩
  refine zc ?_
  refine zah hfg ?_
  refine za hk (by rfl) ?_
  refine ⟨V.fo,V.dfo,V.CF,_,_,_,rfl,.tail _ (.tail _ (.head _)),.obj h.cls,h.no6,by rfl,by rfl,?_⟩
  refine zf ?_
  refine zl2 (Rm.le hr' (by decide)) h.acc (.head _) sz ?_
  refine zah hfg ?_
  refine za hk (by rfl) ?_
  refine ⟨V.fo,V.dfo,V.CF,_,_,_,rfl,.tail _ (.tail _ (.head _)),.obj h.cls,h.no1,by rfl,by rfl,?_⟩
  refine zlM ?_
  refine zk ?_
  unfold zjy at hP
  dsimp -iota only at hP
  by_cases hp:V.maxlen < zo init (ls++[(fws,s)])
  ·rw [if_pos hp] at hP
   show (if decide _=true then (_:Prop) else _)
   rw [decide_eq_true hp,if_pos rfl]
   refine zb ?_
   refine zdP ?_
   refine zcy ?_
   refine zah hfg ?_
   refine za hk (by rfl) ?_
   refine ⟨V.fo,V.dfo,V.CF,_,_,_,rfl,.tail _ (.tail _ (.head _)),.obj h.cls,h.no4,by rfl,by rfl,?_⟩
   refine ⟨zhr (ofL V.sc),zoc (Rm.le hr' (by decide)),?_⟩
   rw [zik]
   refine zaQ (fun xs σ'=>∃ r:List Nat,xs=r.map (fun c=>tx [c])/\(∃ loc',σ'=⟨loc',V.z lines init (ls++[(fws,s)]) rest⟩/\Sub loc' [("self",.raw (.ref V.fo))])/\zgr (ls++[(fws,s)]) r=zgr (ls++[(fws,s)]) V.sc) ?_ ?_ _ _ ⟨_,rfl,⟨_,rfl,by walk_at "sub"⟩,rfl⟩
   ·rintro _ ⟨r,hx,⟨loc',rfl,hsub⟩,hfs⟩
    have hre:r=[]:=by cases r with | nil=>rfl | cons _ _=>cases hx
    subst hre
    rw [<- hfs] at hP
    refine zaS (Sub.weak' hsub rfl) ?_
    refine zkY hr' h sz hl fun loc'=>?_
    by_cases h0:0 < init
    ·refine ⟨[],_,if_pos h0,?_⟩
     simp -iota only [zgr,if_pos h0] at hP;exact hP
    ·refine ⟨[],_,if_neg h0,?_⟩
     simp -iota only [zgr,if_neg h0] at hP;exact hP
   ·intro I Q back out;rintro x xs _ ⟨r,hx,⟨loc',rfl,hsub⟩,hfs⟩
    cases r with
    | nil=>cases hx
    | cons ch r =>
     cases hx
     refine zdN (Sub.weak' hsub rfl) (fun _ h=>h) ?_
     refine zay hk ?_
     have hfs':zgr (ls++[(fws,s)]) (ch::r)=match zdl (ls++[(fws,s)]) ch ((ls++[(fws,s)]).length - 1) with
      | some i=>some i
      | none=>zgr (ls++[(fws,s)]) r:=rfl
     rw [hfs'] at hfs
     refine zb ?_
     refine zdP ?_
     refine zcH (Rm.le hr' (by decide)) ?_
     refine zg hk h.range_ ?_
     refine ⟨rfl,?_⟩
     refine zc ?_
     refine zac ?_
     refine zak hfg ?_
     refine zah hfg ?_
     refine za hk (by rfl) ?_
     refine ⟨V.fo,V.dfo,V.CF,_,_,_,rfl,.tail _ (.tail _ (.head _)),.obj h.cls,h.no6,by rfl,by rfl,?_⟩
     refine ⟨V.ac,V.dac,V.CA,_,_,_,_,_,rfl,.head _,.lst h.acc.ops.lst,h.acc.count.find,h.acc.count.typ,by rfl,hf1,?_⟩
     refine zf ?_
     refine zfR (Rm.le hr' (by decide)) h.acc (.head _) ?_
     refine zx ?_
     refine zlS ?_
     refine zc ?_
     refine zx ?_
     refine zc ?_
     refine zeN ?_
     refine zx ?_
     refine zoo ?_
     refine zf ?_
     have hln:(((ls++[(fws,s)]).length:Nat):Int) - 1=(((ls++[(fws,s)]).length - 1:Nat):Int):=by rw [List.length_append];simp -iota
     refine ⟨_,_,_,.three _ _ _ (by decide) (PyProof.noPylong_small (by decide)),?_,?_⟩
     ·rw [hln];exact zkO (by lia)
     rw [hln,zmv]
     refine zja rfl (Rm.le hr' (by decide)) h sz (fun hn=>?_) fun j loc'' hj hsub''=>?_
     ·rw [hn] at hfs
      exact ⟨_,za1.refl,fun _ h=>h,back _ _ ⟨r,rfl,⟨_,rfl,by walk_at "sub"⟩,hfs⟩⟩
     ·rw [hj] at hfs
      refine zb ?_
      refine zeS ?_
      refine out _ _ ?_
      rw [<- hfs] at hP
      refine zaS (Sub.weak' hsub'' rfl) ?_
      have hjle:=zj7 hj
      refine zmr (Rm.le hr' (by decide)) h sz hl (by lia) fun loc'=>?_
      refine zi ?_
      exact ⟨[],_,rfl,hP⟩
  ·rw [if_neg hp] at hP
   show (if decide _=true then (_:Prop) else _)
   rw [decide_eq_false hp,if_neg (by decide)]
   refine zi ?_
   refine zi ?_
   exact ⟨[],_,rfl,hP⟩
end
section
open PySem.W PySem.Builtin PySem.Builtin.ObjectAttr
variable {g:Gl}{A:Around}{F:Fm}{σ:AS}{K:Frag}{C CA:Addr}{a:zmQ}{b:VfA}{P:PV->AS->Prop}{x dx:Addr}{loc:List (Str × PV)}{rest:List (Addr × MO)}{V:VfI}{lines:List (List Nat)}{init:Int}{ls:List (List Nat × List Nat)}
noncomputable def zaD (l:List Nat):List (List Nat):=if ((Rx.splitL l).getD 0 []).isEmpty then (Rx.splitL l).tail else []::Rx.splitL l
noncomputable def za3:List (List Nat)->List (List Nat × List Nat)
 | a::b::r=>(a,b)::za3 r
 | _=>[]
theorem zgT:∀ l:List (List Nat),zfY (l.map tx)=(za3 l).map zv
 | []=>rfl
 | [_]=>rfl
 | a::b::r=>by
  show PV.tup [tx a,tx b]::zfY (r.map tx)=zv (a,b)::(za3 r).map zv
  rw [zgT r]
theorem zdb {x:Array Nat}:∀ (f st:Nat),∃ k,(Rx.splitGo x f st).length=2*k+1
 | 0,st=>⟨0,rfl⟩
 | f+1,st=>by
  rw [Rx.splitGo_s]
  cases Rx.nextWs x x.size (x.size - st) st with
  | none=>exact ⟨0,rfl⟩
  | some p =>
   obtain ⟨k,e⟩:=zdb (x:=x) f (p.1+p.2)
   exact ⟨k+1,by simp only [List.length_cons];lia⟩
theorem zdt {x:Array Nat}{b e:Nat}:(Rx.piece x b e).length<=x.size:=by
 unfold Rx.piece;rw [Array.length_toList,Array.size_extract];omega
theorem zdE {x:Array Nat}:∀ (f st:Nat),∀ p∈Rx.splitGo x f st,p.length<=x.size
 | 0,st,p,hp=>by
  have hp:=List.mem_singleton.mp (show p∈[Rx.piece x st x.size] from hp)
  subst hp;exact zdt
 | f+1,st,p,hp=>by
  rw [Rx.splitGo_s] at hp
  cases hn:Rx.nextWs x x.size (x.size - st) st with
  | none=>rw [hn] at hp;simp at hp;subst hp;exact zdt
  | some q =>
   rw [hn] at hp
   simp only [List.mem_cons] at hp
   rcases hp with rfl | rfl | hp
   ·exact zdt
   ·exact zdt
   ·exact zdE f _ p hp
theorem zib (l:List Nat):∃ m,(zaD l).length=2*m:=by
 obtain ⟨k,e⟩:=zdb (x:=l.toArray) l.length 0
 have e':(Rx.splitL l).length=2*k+1:=e
 unfold zaD
 split
 ·exact ⟨k,by rw [List.length_tail];lia⟩
 ·exact ⟨k+1,by rw [List.length_cons];lia⟩
noncomputable def zcl (maxlen:Int)(sc:List Nat)(st:VSt):List (List Nat × List Nat)->VSt
 | []=>st
 | p::r=>zcl maxlen sc (zjy maxlen sc st p.1 p.2) r
noncomputable def zn3 (maxlen:Int)(sc:List Nat)(st:VSt):List (List Nat × List Nat)->Prop
 | []=>True
 | p::r=>zce st.2.1 (st.2.2++[p])/\st.1.length<=1000/\zn3 maxlen sc (zjy maxlen sc st p.1 p.2) r
noncomputable def zlC:Stmt:=hdS ((mB 6 7).drop 2)
theorem zmc {L c:Addr}{pm:Value}{Q:Fl->AS->Prop}(hr:Rm A 9)(h:zi3 g K V.CF V.CA b a)(hsc:V.sc.length<=1000):∀ (ps:List (List Nat × List Nat)) (st:VSt) (loc:List (Str × PV)),zn3 V.maxlen V.sc st ps->loc.lookup ("self":Str)=some (.raw (.ref V.fo)) ->
  (∀ loc',Q .next ⟨loc',V.s (zcl V.maxlen V.sc st ps) rest⟩) ->
  zpm g A (zap (mkM 6 7 "_ascii_split" "_ValueFormatter._ascii_split" c pm .none .none []) L b.fAsc) (zt9 zlC) (zrG zlC) (zrW zlC) (ps.map zv) ⟨loc,V.s st rest⟩ Q
 | [],st,loc,hok,hself,hQ=>zi (hQ loc)
 | p::r,st,loc,hok,hself,hQ=>by
  intro T
  obtain ⟨h1,h2,h3⟩:=hok
  obtain ⟨c1,pm1,hf1,-⟩:=h.app.at_
  have hk:z0 (zap (mkM 6 7 "_ascii_split" "_ValueFormatter._ascii_split" c pm .none .none []) L b.fAsc):=zy rfl
  refine zdp (Rm.le hr (by decide)) rfl ?_
  repeat walk_at "asg"
  refine zb ?_
  refine zab ?_
  refine zak h.acc.fg ?_
  refine za hk (zbM (zbM hself)) ?_
  refine ⟨V.fo,V.dfo,V.CF,_,_,_,_,_,rfl,.tail _ (.tail _ (.head _)),.obj h.cls,h.app.find,h.app.typ,by rfl,hf1,?_⟩
  refine zc ?_
  refine za hk (zbM zew) ?_
  refine zc ?_
  refine za hk zew ?_
  refine zf ?_
  refine zm7 (rest:=rest++T) hr h h1 h2 hsc ?_
  refine ⟨trivial,?_⟩
  refine zi ?_
  exact ⟨V.s (zjy V.maxlen V.sc st p.1 p.2) rest,rfl,zmc hr h hsc r _ _ h3 (zbM (zbM hself)) hQ⟩
theorem zpG (hr:Rm A 10)(h:zi3 g K V.CF V.CA b a){pat:Addr}(hre:g.Glob "twin_re_1_header" (.ref pat))(hpat:Rx.PatOk g pat)(hsc:V.sc.length<=1000){fws s:List Nat}{sp:List Nat}{st:VSt}(hlen:fws.length+s.length<=100000)(hok:zn3 V.maxlen V.sc st (za3 (zaD (fws++s))))
  (hP:P (.raw .none) ⟨loc,V.s (zcl V.maxlen V.sc st (za3 (zaD (fws++s)))) rest⟩):CL g A F (.ref b.fAsc) [.raw (.ref V.fo),tx fws,tx s,tx sp] ⟨loc,V.s st rest⟩ P:=by
 obtain ⟨c,pm,hf,-⟩:=h.asc.at_
 refine (zcD (n:=9) (xs:=["self","fws","string","splitchars"]) hr hf (by decide) rfl (fun vs hv=>?_) (by rfl) (by rfl) fun L=>?_).cl
 ·revert vs hv;refine zna ?_;intros;rfl
 ·have hk:z0 (zap (mkM 6 7 "_ascii_split" "_ValueFormatter._ascii_split" c pm .none .none []) L b.fAsc):=zy rfl
  have hr':=hr.deeper (env:=callEnv (mkM 6 7 "_ascii_split" "_ValueFormatter._ascii_split" c pm .none .none []) L b.fAsc)
  have hfg:=h.acc.fg
  have hcl:(Rx.splitL (fws++s)).length<=2*(fws++s).length+1:=Rx.splitGo_len (x:=(fws++s).toArray) (fws++s).length 0
  obtain ⟨k,hodd⟩:=zdb (x:=(fws++s).toArray) (fws++s).length 0
  have hodd':(Rx.splitL (fws++s)).length=2*k+1:=hodd
  rw [List.length_append] at hcl
  have hpl:∀ p∈Rx.splitL (fws++s),p.length<=100000:=fun p hp=>by
   have:=zdE (x:=(fws++s).toArray) _ _ p hp
   simp -iota only [List.size_toArray,List.length_append] at this
   lia
  have hloop:∀ D (loc':List (Str × PV)),loc'.lookup ("self":Str)=some (.raw (.ref V.fo))->loc'.lookup ("parts":Str)=some (.raw (.ref D)) ->
    EXs g (A.deeper (callEnv (mkM 6 7 "_ascii_split" "_ValueFormatter._ascii_split" c pm .none .none []) L b.fAsc)) (zap (mkM 6 7 "_ascii_split" "_ValueFormatter._ascii_split" c pm .none .none []) L b.fAsc) ((mB 6 7).drop 2) ⟨loc',(D,.list ((zaD (fws++s)).map tx))::V.s st rest⟩
     fun fl σ'=>∃ pre z,σ'.zone=pre++z/\P (match fl with | .ret p=>p | _=>.raw .none) ⟨loc,z⟩:=by
   intro D loc' h1 h2
   refine zaS (za1.freeze (pre:=[]) (x:="parts") (D:=D) (ps:=(zaD (fws++s)).map tx) h2) ?_
   refine zb ?_
   refine zma (x:="parts") (ps:=(zaD (fws++s)).map tx) hk (Rm.le hr' (by decide)) h.zip_ h.iter_ zew ?_ ?_
   ·rw [List.length_map];exact zib _
   ·rw [zgT]
    refine zmc hr' h hsc _ st _ hok (zbM h1) fun loc''=>?_
    refine zi ?_
    exact ⟨[],_,rfl,hP⟩
  refine zb ?_
  refine zd hk ?_
  refine zau ?_
  refine zl hk hre ?_
  refine ⟨_,Rx.MT_split hpat,?_⟩
  refine zc ?_
  refine zac ?_
  refine za hk (by rfl) ?_
  refine za hk (by rfl) ?_
  refine zbd (by lia) ?_
  refine zf ?_
  refine Rx.CL_split hpat (by rw [List.length_append];lia) fun D=>?_
  refine zb ?_
  refine zaA ?_
  refine zaF ?_
  refine zj ?_
  refine za hk zew ?_
  refine zx ?_
  have hne:Rx.splitL (fws++s)≠[]:=fun q=>by rw [q] at hodd';simp -iota at hodd'
  obtain ⟨p0,pr,hpp⟩:∃ p0 pr,Rx.splitL (fws++s)=p0::pr:=by
   cases q:Rx.splitL (fws++s) with
   | nil=>exact absurd q hne
   | cons a b=>exact ⟨a,b,rfl⟩
  have hp0:=hpl p0 (by rw [hpp];simp -iota)
  rw [hpp] at hcl
  have hcl':pr.length+1<=2*(fws.length+s.length)+1:=hcl
  rw [hpp]
  refine zgm (.int 0) (.head _) (by decide) (by simp -iota) (by simp -iota;lia) ?_
  refine zgB (l:=p0) (by lia) ?_
  have hpo:zaD (fws++s)=if p0.isEmpty then pr else []::p0::pr:=by unfold zaD;rw [hpp];rfl
  cases he:p0.isEmpty with
  | false =>
   rw [he] at hpo
   refine zb ?_
   refine zhH ?_
   refine zb5 ?_
   refine zc ?_
   refine zt _ ?_ (by walk_at "lit")
   refine zf ⟨by simp,?_⟩
   refine za hk zew ?_
   refine zjD ?_
   refine zdk ?_
   refine zx ?_
   refine ⟨_,rfl,D,(p0::pr).map tx,[tx []],(D,.list (([]::p0::pr).map tx))::V.s st rest,rfl,rfl,?_,by simp -iota;lia,?_⟩
   ·have e:((p0::pr).map tx).take (slo ((p0::pr).map tx).length none)++[tx []]++((p0::pr).map tx).drop (max (slo ((p0::pr).map tx).length none) (shi ((p0::pr).map tx).length (some 0)))=([]::p0::pr).map tx:=by
     have e1:shi ((p0::pr).map tx).length (some 0)=0:=by
      show clipAt ((p0::pr).map tx).length 0=0
      have:=clipAt_cast ((p0::pr).map tx).length 0
      rw [if_neg (by decide)] at this
      lia
     rw [e1]
     rfl
    rw [e]
    exact .head
   ·refine zi ?_
    have:=hloop D [("self",.raw (.ref V.fo)),("fws",tx fws),("string",tx s),("splitchars",tx sp),("parts",.raw (.ref D))] rfl rfl
    rw [hpo] at this
    exact this
  | true =>
   rw [he] at hpo
   refine zb ?_
   refine zab ?_
   refine zau ?_
   refine za hk zew ?_
   refine ⟨_,zpU (.head _),?_⟩
   refine zc ?_
   refine zx ?_
   refine zf ?_
   refine zo8 (l:=pr.map tx) .head (by rw [List.length_map];lia) ?_
   refine ⟨trivial,?_⟩
   refine zi ?_
   have:=hloop D [("self",.raw (.ref V.fo)),("fws",tx fws),("string",tx s),("splitchars",tx sp),("parts",.raw (.ref D))] rfl rfl
   rw [hpo] at this
   exact this
end
section
open PySem.W PySem.Builtin PySem.Builtin.ObjectAttr
variable {g:Gl}{A:Around}{F:Fm}{σ:AS}{K:Frag}{C CA:Addr}{a:zmQ}{b:VfA}{P:PV->AS->Prop}{x dx:Addr}{loc:List (Str × PV)}{rest:List (Addr × MO)}{V:VfI}{lines:List (List Nat)}{init:Int}{ls:List (List Nat × List Nat)}
theorem zov (hr:Rm A 11)(h:zi3 g K V.CF V.CA b a){pat co dco:Addr}{attC:List (Str × PV)}(hre:g.Glob "twin_re_1_header" (.ref pat))(hpat:Rx.PatOk g pat)(hsc:V.sc.length<=1000){fws s:List Nat}{st:VSt}(hlen:fws.length+s.length<=100000)(hok:zn3 V.maxlen V.sc st (za3 (zaD (fws++s))))
  (hco:(co,.inst dco V.CF attC none)∈rest) (hne:attC.lookup ("header_encoding":Str)=some (.raw .none))
  (hP:P (.raw .none) ⟨loc,V.s (zcl V.maxlen V.sc st (za3 (zaD (fws++s)))) rest⟩):CL g A F (.ref b.fFeed) [.raw (.ref V.fo),tx fws,tx s,.raw (.ref co)] ⟨loc,V.s st rest⟩ P:=by
 obtain ⟨c,pm,hf,-⟩:=h.feed.at_
 refine (zcD (n:=10) (xs:=["self","fws","string","charset"]) hr hf (by decide) rfl (fun vs hv=>?_) (by rfl) (by rfl) fun L=>?_).cl
 ·revert vs hv;refine zna ?_;intros;rfl
 ·have hk:z0 (zap (mkM 6 5 "feed" "_ValueFormatter.feed" c pm .none .none []) L b.fFeed):=zy rfl
  have hr':=hr.deeper (env:=callEnv (mkM 6 5 "feed" "_ValueFormatter.feed" c pm .none .none []) L b.fFeed)
  have hfg:=h.acc.fg
  obtain ⟨c1,pm1,hf1,-⟩:=h.asc.at_
  refine zb ?_
  refine zaA ?_
  refine ze ?_
  refine zah hfg ?_
  refine za hk (by rfl) ?_
  refine ⟨co,dco,V.CF,attC,none,.raw .none,rfl,.tail _ (.tail _ (.tail _ hco)),.obj h.cls,h.no7,hne,by rfl,?_⟩
  refine zhx ?_
  refine zmC (by rfl) ?_
  refine zk ?_
  show EXs _ _ _ _ _ _
  refine zb ?_
  refine zab ?_
  refine zak hfg ?_
  refine za hk (by rfl) ?_
  refine ⟨V.fo,V.dfo,V.CF,_,_,_,_,_,rfl,.tail _ (.tail _ (.head _)),.obj h.cls,h.asc.find,h.asc.typ,by rfl,hf1,?_⟩
  refine zc ?_
  refine za hk (by rfl) ?_
  refine zc ?_
  refine za hk (by rfl) ?_
  refine zc ?_
  refine zah hfg ?_
  refine za hk (by rfl) ?_
  refine ⟨V.fo,V.dfo,V.CF,_,_,_,rfl,.tail _ (.tail _ (.head _)),.obj h.cls,h.no4,by rfl,by rfl,?_⟩
  refine zf ?_
  refine zpG hr' h hre hpat hsc hlen hok ?_
  refine ⟨trivial,?_⟩
  refine zb ?_
  refine zc3 ?_
  exact ⟨[],_,rfl,hP⟩
theorem zfl {f:Addr}(hr:Rm A 12)(hf:Fn g 36 "_law_folded" f)(h:zi3 g K C CA b a){pat:Addr}(hre:g.Glob "twin_re_1_header" (.ref pat))(hpat:Rx.PatOk g pat){text signs:List Nat}{width name:Int}(hname0:0<=name)(hname1:name<=1000)(hsc:signs.length<=1000)(hlen:text.length<=100000)
  (hok:zn3 width signs ([],name,[]) (za3 (zaD text)))
  (hend:let st:=zcl width signs ([],name,[]) (za3 (zaD text));zce st.2.1 st.2.2/\(0 < zo st.2.1 (zfZ st.2.2)->zcJ st.2.1 (zfZ st.2.2)=false)/\st.1.length<=1000/\zaT [10] (zal st.1 st.2.1 st.2.2)/\(zaq [10] (zal st.1 st.2.1 st.2.2)).length<=1000000)
  (hP:let st:=zcl width signs ([],name,[]) (za3 (zaD text));P (.lst ((Txt.split (ofL (zaq [10] (zal st.1 st.2.1 st.2.2))) (ofL [10])).map PV.str)) σ) :
  CL g A F (.ref f) [tx text,.int width,.int name,tx signs] σ P:=by
 obtain ⟨c,pm,hfa⟩:=hf.at_
 refine za2 (n:=11) (xs:=["text","width","name","signs"]) hr hfa (by decide) rfl (fun vs hv=>?_) (by rfl) (by rfl) fun L=>?_
 ·revert vs hv;refine zna ?_;intros;rfl
 ·have hk:z0 (zap (mkF 36 "_law_folded" c pm) L f):=zaj rfl
  have hr':=hr.deeper (env:=callEnv (mkF 36 "_law_folded" c pm) L f)
  have hfg:=h.acc.fg
  obtain ⟨c1,pm1,hf1,-⟩:=h.feed.at_
  obtain ⟨c2,pm2,hf2,-⟩:=h.str_.at_
  refine zb ?_
  refine zd hk ?_
  refine zdh hfg h.calls ?_
  refine zl hk h.gVf ?_
  refine ⟨rfl,?_⟩
  refine zc ?_
  refine zx ?_
  refine zc ?_
  refine zx ?_
  refine zc ?_
  refine zt _ ?_ (by walk_at "lit")
  refine zc ?_
  refine zt _ ?_ (by walk_at "lit")
  refine zf ?_
  refine znV (fI:=b.fI) (n:=10) hr' hfg h.makes h.init.find h.init.typ fun A' co dco hA'=>?_
  refine zmo (Rm.le hA' (by decide)) h (by simp) fun Lo0 ac0 dac0=>?_
  refine ⟨rfl,?_⟩
  refine zb ?_
  refine z8 hfg ?_
  refine zhx ?_
  refine za hk zew ?_
  refine ⟨co,dco,C,_,_,_,rfl,.obj h.cls,.tail (.tail .head),h.no7,Nat.le_of_ble_eq_true (by left),?_⟩
  refine zb ?_
  refine zd hk ?_
  refine zdh hfg h.calls ?_
  refine zl hk h.gVf ?_
  refine ⟨rfl,?_⟩
  refine zc ?_
  refine za hk (by rfl) ?_
  refine zc ?_
  refine za hk (by rfl) ?_
  refine zc ?_
  refine zt _ ?_ (by walk_at "lit")
  refine zc ?_
  refine za hk (by rfl) ?_
  refine zf ?_
  refine znV (fI:=b.fI) (n:=10) hr' hfg h.makes h.init.find h.init.typ fun A' fo dfo hA'=>?_
  refine zmo (Rm.le hA' (by decide)) h (by simp) fun Lo ac dac=>?_
  refine ⟨rfl,?_⟩
  refine zb ?_
  refine zab ?_
  refine zak hfg ?_
  refine za hk zew ?_
  refine ⟨fo,dfo,C,_,_,_,_,_,rfl,.tail _ (.tail _ (.head _)),.obj h.cls,h.feed.find,h.feed.typ,by rfl,hf1,?_⟩
  refine zc ?_
  refine zt _ ?_ (by walk_at "lit")
  refine zc ?_
  refine za hk (by rfl) ?_
  refine zc ?_
  refine za hk (by rfl) ?_
  refine zf ?_
  refine zov (V:=⟨fo,dfo,C,Lo,ac,dac,CA,width,[45,45],signs⟩) (st:=([],name,[])) (co:=co) (dco:=dco) hr' h hre hpat hsc (by simp;lia) hok (.tail _ (.tail _ (.head _))) (by rfl) ?_
  refine ⟨trivial,?_⟩
  refine zb ?_
  refine zan ?_
  refine zau ?_
  refine zak hfg ?_
  refine za hk (by rfl) ?_
  refine ⟨fo,dfo,C,_,_,_,_,_,rfl,.tail _ (.tail _ (.head _)),.obj h.cls,h.str_.find,h.str_.typ,by rfl,hf2,?_⟩
  refine zc ?_
  refine zt _ ?_ (by walk_at "lit")
  refine zf ?_
  obtain ⟨e1,e2,e3,e4,e5⟩:=hend
  refine zrf (V:=⟨fo,dfo,C,Lo,ac,dac,CA,width,[45,45],signs⟩) (Rm.le hr' (by decide)) h e1 e2 e3 e4 ?_
  refine ⟨_,zkN,?_⟩
  refine zc ?_
  refine zt _ ?_ (by walk_at "lit")
  refine zf ?_
  refine ziY e5 (by simp) ?_
  exact zcp.mk [_,_,_,_,_,_] rfl hP
end
section
open PySem.W PySem.Builtin PySem.Builtin.ObjectAttr
variable {g:Gl}{A:Around}{F:Fm}{σ:AS}{P:PV->AS->Prop}{loc:List (Str × PV)}
theorem zjc {f:Addr}(hr:Rm A 1)(hf:Fn g 9 "_buffer" f)(hty:g.Blt "type" (.type "type"))(hby:g.Blt "bytes" (.type "bytes")){b:Array UInt8}(h:P (.byt b) σ):CL g A F (.ref f) [.byt b] σ P:=by
 obtain ⟨c,pm,hfa⟩:=hf.at_
 refine za2 (n:=0) (xs:=["data"]) hr hfa (by decide) rfl (fun vs hv=>?_) (by rfl) (by rfl) fun L=>?_
 ·revert vs hv;refine zcV ?_;intros;rfl
 ·have hk:z0 (zap (mkF 9 "_buffer" c pm) L f):=zaj rfl
  refine zb ?_
  refine zd hk ?_
  refine zh ?_
  refine zg hk hty ?_
  refine ⟨_,rfl,rfl,?_⟩
  repeat walk_at "st"
  refine zmK ?_
  refine zb ?_
  refine zaA ?_
  refine ze ?_
  refine za hk (by rfl) ?_
  refine zg hk hby ?_
  refine zmC (by rfl) ?_
  refine zk ?_
  show EXs _ _ _ _ _ _
  repeat walk_at "st"
  exact zcp.mk [] rfl h
theorem zk7 {f:Addr}(hr:Rm A 1)(hf:Fn g 10 "_truth" f)(hty:g.Blt "type" (.type "type"))(hbo:g.Blt "bool" (.type "bool")){b:Bool}(h:P (.raw (.bool b)) σ):CL g A F (.ref f) [.raw (.bool b)] σ P:=by
 obtain ⟨c,pm,hfa⟩:=hf.at_
 refine za2 (n:=0) (xs:=["x"]) hr hfa (by decide) rfl (fun vs hv=>?_) (by rfl) (by rfl) fun L=>?_
 ·revert vs hv;refine zcV ?_;intros;rfl
 ·have hk:z0 (zap (mkF 10 "_truth" c pm) L f):=zaj rfl
  refine zb ?_
  refine zd hk ?_
  refine zh ?_
  refine zg hk hty ?_
  refine ⟨_,rfl,rfl,?_⟩
  repeat walk_at "st"
  refine zin ?_
  refine zb ?_
  refine zaA ?_
  refine zaz ?_
  refine zn ?_
  refine ze ?_
  refine za hk (by rfl) ?_
  refine zhx ?_
  refine zmC (by cases b <;> rfl) ?_
  refine zk ?_
  rw [show (Value.bool b==Value.none)=false from by cases b <;> rfl]
  refine zn ?_
  refine ze ?_
  refine za hk (by rfl) ?_
  refine zg hk hbo ?_
  refine zmC (by rfl) ?_
  refine zk ?_
  show EXs _ _ _ _ _ _
  refine zb ?_
  refine zan ?_
  refine zkn ?_
  refine zaF ?_
  refine za hk (by rfl) ?_
  refine zk ?_
  cases b with
  | true=>refine ze7 ?_;exact zcp.mk [] rfl h
  | false=>refine ze7 ?_;exact zcp.mk [] rfl h
theorem zfE {x:Str}{pos:Pos}{b:Array UInt8}{t:Tok}(hk:z0 F)(hg:g.Glob x (.bytes b t))(h:P (.byt b) σ)(hx:F.env.kindOf x=some .globalImplicit:=by left)(hd:(x==("__debug__":Str))=false:=by decide):EV g A F (.Name x pos) σ P:=fun s S Q E k =>
 zhe S.old hk.kind hk.gl hg (k _ _ σ s h S (.byt _ _) .refl) hx hd
theorem zrZ {n k:Nat}:Builtin.bitAnd (n:Int) ((2 ^ k - 1:Nat):Int)=((n%2 ^ k:Nat):Int):=by
 rw [PyProof.Rows.bitAnd_pp (by lia) (by lia)]
 show ((n &&& (2 ^ k - 1):Nat):Int)=_
 rw [Nat.and_two_pow_sub_one_eq_mod]
theorem zq9 {a b:Nat}(hb:b < 256):Builtin.bitOr ((a:Int)*2 ^ (8:Int).toNat) (b:Int)=((a*256+b:Nat):Int):=by
 have e1:((a:Int)*2 ^ (8:Int).toNat)=((a*256:Nat):Int):=by
  rw [show (8:Int).toNat=8 from rfl];push_cast;rfl
 rw [e1,PyProof.Rows.bitOr_and,PyProof.Rows.bitAnd_pp (by lia) (by lia)]
 show (((a*256:Nat):Int))+(b:Int) - (((a*256) &&& b:Nat):Int)=_
 have h1:=PyProof.Rows.nat_or_add_and (a*256) b
 have h2:=Nat.shiftLeft_add_eq_or_of_lt (a:=a) (i:=8) hb
 rw [Nat.shiftLeft_eq] at h2
 rw [show (2:Nat) ^ 8=256 from rfl] at h2
 lia
noncomputable def zb1 (i:Nat):Nat:=(zaG++[43,47]).getD i 0
noncomputable def zg3 (lc:Nat):Nat->Nat->List Nat->List Nat × Nat
 | 0,lb,out=>(out,lb)
 | f+1,lb,out=>if 6<=lb then zg3 lc f (lb - 6) (out++[zb1 (lc/2 ^ (lb - 6)%64)]) else (out,lb)
theorem zil {lc f lb:Nat}{out:List Nat}:zg3 lc (f+1) lb out=if 6<=lb then zg3 lc f (lb - 6) (out++[zb1 (lc/2 ^ (lb - 6)%64)]) else (out,lb):=rfl
theorem zfd {lc f lb:Nat}{out:List Nat}(h:¬ 6<=lb):zg3 lc f lb out=(out,lb):=by
 cases f with
 | zero=>rfl
 | succ f=>rw [zil];rw [if_neg h]
noncomputable abbrev BSt:=List Nat × Nat × Nat
noncomputable def zaJ (st:BSt)(b:Nat):BSt :=
 ((zg3 ((st.2.2*256+b)%65536) 2 (st.2.1+8) st.1).1,(zg3 ((st.2.2*256+b)%65536) 2 (st.2.1+8) st.1).2,(st.2.2*256+b)%65536)
noncomputable def zdI (st:BSt):List Nat:=st.1++(if st.2.1=2 then [zb1 (st.2.2%4*16),61,61] else if st.2.1=4 then [zb1 (st.2.2%16*4),61] else [])
noncomputable def b2a (octets:List Nat):List Nat:=zdI (octets.foldl zaJ ([],0,0))
theorem zhK {lc:Nat}:∀ (f lb:Nat) (out:List Nat),(zg3 lc f lb out).1.length<=out.length+f
 | 0,lb,out=>Nat.le_refl _
 | f+1,lb,out=>by
  rw [zil]
  split
  ·have:=zhK (lc:=lc) f (lb - 6) (out++[zb1 (lc/2 ^ (lb - 6)%64)])
   simp at this;lia
  ·show out.length<=_;lia
theorem zdR {i:Nat}(h:i < 64):zb1 i < 256:=by
 have:∀ j:Fin 64,zb1 j.1 < 256:=by decide
 exact this ⟨i,h⟩
noncomputable def zm1:Array UInt8:=((zaG++[43,47]).map (fun (n:Nat)=>n.toUInt8)).toArray
noncomputable def zua (l:List Stmt):Stmt:=l.headD (.Pass ⟨0,0,0,0⟩)
noncomputable def ztQ (s:Stmt):List Stmt:=(stP s).2.1
structure zlX (g:Gl)(f fb ft:Addr):Prop where
 glob:g.Glob "b2a_base64" (.ref f)
 at_:∃ c pm kd,zdB g f { mkF 12 "b2a_base64" c pm with kwdefaults:=.ref kd } (fB 12)
 buf:Fn g 9 "_buffer" fb
 tru:Fn g 10 "_truth" ft
 tab:∃ t,g.Glob "_B64" (.bytes zm1 t)
 ty:g.Blt "type" (.type "type")
 by_:g.Blt "bytes" (.type "bytes")
 bo:g.Blt "bool" (.type "bool")
theorem zlz {L c kd f:Addr}{pm:Value}{fb ft D:Addr}{Q:Fl->AS->Prop}{z:List (Addr × MO)}(h:zlX g f fb ft){lc k:Nat}{data:PV}(hlc:lc < 65536){lb0:Nat}(hlb0:lb0<=4){out0:List Nat}(hl0:out0.length<=1000000 - 10)(hb0:∀ x∈out0,x < 256)
  (hQ:∀ out lb,(out,lb)=zg3 lc 2 (lb0+8) out0->lb < 6->(∀ x∈out,x < 256)->Q .next ⟨[("data",data),("newline",.raw (.bool false)),("bin_data",data),("out",.raw (.ref D)),("leftbits",.int (lb:Nat)),("leftchar",.int (lc:Nat)),("b",.int (k:Nat))],(D,.list (out.map fun (n:Nat)=>.int n))::z⟩) :
  EX g A (zap { mkF 12 "b2a_base64" c pm with kwdefaults:=.ref kd } L f) (zua ((ztQ (zua ((fB 12).drop 5))).drop 2)) ⟨[("data",data),("newline",.raw (.bool false)),("bin_data",data),("out",.raw (.ref D)),("leftbits",.int ((lb0+8:Nat):Int)),("leftchar",.int (lc:Nat)),("b",.int (k:Nat))],(D,.list (out0.map fun (n:Nat)=>.int n))::z⟩ Q:=by
 have hk:z0 (zap { mkF 12 "b2a_base64" c pm with kwdefaults:=.ref kd } L f):=⟨rfl,rfl,rfl⟩
 obtain ⟨tt,htab⟩:=h.tab
 refine zax (fun n σ'=>∃ (out:List Nat) (lb e:Nat),n=lb/\lb<=12/\lb < 6*e+6/\out.length+e<=1000000 - 8/\(∀ x∈out,x < 256)/\zg3 lc e lb out=zg3 lc 2 (lb0+8) out0/\σ'=⟨[("data",data),("newline",.raw (.bool false)),("bin_data",data),("out",.raw (.ref D)),("leftbits",.int (lb:Nat)),("leftchar",.int (lc:Nat)),("b",.int (k:Nat))],(D,.list (out.map fun (n:Nat)=>.int n))::z⟩) (lb0+8) ⟨out0,lb0+8,2,rfl,by omega,by omega,by omega,hb0,rfl,rfl⟩ ?_
 intro I Q back out;rintro n _ ⟨out,lb,e,hn,h1,h2,h3,h4,h5,rfl⟩
 have hn':lb=n:=hn.symm
 subst hn'
 refine ze ?_
 refine za hk (by rfl) ?_
 refine zx ?_
 refine zlx ?_
 refine zk ?_
 by_cases h6:6<=lb
 ·rw [decide_eq_true (show (6:Int)<=(lb:Int) by omega),if_pos rfl]
  cases e with
  | zero=>omega
  | succ e =>
   rw [zil] at h5
   rw [if_pos h6] at h5
   have hi:lc/2 ^ (lb - 6)%64 < 64:=Nat.mod_lt _ (by decide)
   refine zb ?_
   refine zab ?_
   refine zai ?_
   refine za hk (by rfl) ?_
   refine ⟨D,out.map fun (n:Nat)=>.int n,rfl,.head _,?_⟩
   refine zj ?_
   refine zfE hk htab ?_
   refine zac ?_
   refine zac ?_
   refine za hk (by rfl) ?_
   refine zac ?_
   refine za hk (by rfl) ?_
   refine zx ?_
   refine zlS ?_
   refine zqc (by omega) ?_
   refine zx ?_
   refine zke ?_
   have e1:((lc:Int).fdiv (2 ^ ((lb:Int) - 6).toNat))=((lc/2 ^ (lb - 6):Nat):Int):=by
    rw [show ((lb:Int) - 6).toNat=lb - 6 by omega]
    have:=znf lc (2 ^ (lb - 6))
    rw [<- this,Int.natCast_pow]
    rfl
   rw [e1,show (63:Int)=((2 ^ 6 - 1:Nat):Int) from rfl,zrZ]
   have hb1:((lc/2 ^ (lb - 6)%2 ^ 6:Nat):Int) < (((zaG++[43,47]).map (fun (n:Nat)=>n.toUInt8)).length:Int):=by
    show ((lc/2 ^ (lb - 6)%64:Nat):Int) < ((64:Nat):Int)
    omega
   show IX g A _ _ _ (.byt ((zaG++[43,47]).map (fun (n:Nat)=>n.toUInt8)).toArray) _ _ _
   refine zst (b:=(zaG++[43,47]).map (fun (n:Nat)=>n.toUInt8)) (i:=((lc/2 ^ (lb - 6)%2 ^ 6:Nat):Int)) (Int.natCast_nonneg _) hb1 (by decide) (hs:=?hs) ?_
   case hs=>intro _ _;with_unfolding_all rfl
   have e2:((((zaG++[43,47]).map (fun (n:Nat)=>n.toUInt8)).getD ((lc/2 ^ (lb - 6)%2 ^ 6:Nat):Int).toNat 0).toNat:Nat)=zb1 (lc/2 ^ (lb - 6)%64):=by
    have:∀ j:Fin 64,(((zaG++[43,47]).map (fun (n:Nat)=>n.toUInt8)).getD j.1 0).toNat=zb1 j.1:=by decide
    exact this ⟨_,hi⟩
   rw [e2]
   refine ⟨out.map fun (n:Nat)=>.int n,_,.head,by rw [List.length_map];omega,?_⟩
   refine ⟨trivial,?_⟩
   repeat walk_at "st"
   refine ⟨lb - 6,_,by omega,za1.refl,back _ _ ⟨out++[zb1 (lc/2 ^ (lb - 6)%64)],lb - 6,e,rfl,by omega,by omega,by simp;omega,?_,h5,?_⟩⟩
   ·intro x hx
    rcases List.mem_append.mp hx with q | q
    ·exact h4 x q
    ·rw [List.mem_singleton] at q;subst q;exact zdR hi
   ·rw [List.map_append,show ((lb - 6:Nat):Int)=(lb:Int) - 6 by omega]
    rfl
 ·rw [decide_eq_false (show ¬ (6:Int)<=(lb:Int) by omega),if_neg (by decide)]
  refine zi ?_
  rw [zfd h6] at h5
  exact hQ out lb h5 (by omega) h4
theorem zj8 {lc:Nat}:∀ (f lb:Nat) (out:List Nat),(zg3 lc f lb out).2%2=lb%2
 | 0,lb,out=>rfl
 | f+1,lb,out=>by
  rw [zil]
  split
  ·rw [zj8 f (lb - 6)];lia
  ·rfl
noncomputable abbrev znd (c kd:Addr)(pm:Value):FuncData:={ mkF 12 "b2a_base64" c pm with kwdefaults:=.ref kd }
theorem ev4:∀ n,n < 6->n%2=0->n<=4:=by decide
theorem ev8 {a b:Nat}(h:a%2=0)(h':b%2=(a+8)%2):b%2=0:=h'.trans ((Nat.add_mul_mod_self_right a 4 2).trans h)
theorem znQ {f fb ft:Addr}(hr:Rm A 2)(h:zlX g f fb ft){ns:List Nat}(hns:∀ n∈ns,n < 256)(hlen:ns.length<=10000)(hP:P (.byt ((b2a ns).map fun n=>n.toUInt8).toArray) σ) :
  zpn g A F (.ref f) [.byt (ns.map fun n=>n.toUInt8).toArray] [("newline",.bool false)] σ P:=by
 obtain ⟨c,pm,kd,hfa⟩:=h.at_
 obtain ⟨cb,pmb,hfb⟩:=h.buf.at_
 obtain ⟨ct,pmt,hft⟩:=h.tru.at_
 refine zdG (n:=1) (xs:=["data","newline"]) (qs:=[.byt (ns.map fun n=>n.toUInt8).toArray,.raw (.bool false)]) hr hfa (by decide) rfl (fun s vs S hvs=>?_) (by rfl) (by rfl) fun L=>?_
 ·cases hvs with | cons hv hvs=>cases hvs;exact ⟨_,.cons hv (.cons (.raw _) .nil),.of_eq (by rfl)⟩
 ·have hk:z0 (zap (znd c kd pm) L f):=⟨rfl,rfl,rfl⟩
  have hr':=hr.deeper (env:=callEnv (znd c kd pm) L f)
  have hoct:octs (ns.map fun n=>n.toUInt8).toArray=ns.map fun (k:Nat)=>.int (k:Int):=by
   unfold octs
   rw [List.map_map]
   refine List.map_congr_left fun n hn=>?_
   show PV.int _=PV.int _
   have:=hns n hn
   rw [show n.toUInt8.toNat=n from by simp -iota [Nat.toUInt8];lia]
  generalize hdat:PV.byt (ns.map fun n=>n.toUInt8).toArray=data at *
  refine zb ?_
  refine zd hk ?_
  refine zw hfb ?_
  refine zl hk h.buf.glob ?_
  refine ⟨rfl,?_⟩
  repeat walk_at "st"
  rw [<- hdat]
  refine zjc hr' h.buf h.ty h.by_ ?_
  rw [hdat]
  refine zb ?_
  refine zd hk ?_
  refine zw hft ?_
  refine zl hk h.tru.glob ?_
  refine ⟨rfl,?_⟩
  repeat walk_at "st"
  refine zk7 hr' h.tru h.ty h.bo ?_
  refine zb ?_
  refine zd hk ?_
  refine zao ?_
  refine zf ⟨by simp,fun D=>?_⟩
  repeat walk_at "st"
  refine zdP ?_
  refine zcy ?_
  refine za hk (by rfl) ?_
  rw [<- hdat]
  refine ⟨_,znZ (Rm.le hr' (by decide)),?_⟩
  rw [hdat,hoct]
  refine zaQ (fun xs σ'=>∃ (r:List Nat) (st:BSt),xs=r.map (fun (k:Nat)=>.int (k:Int))/\(∀ k∈r,k < 256)/\st.2.1<=4/\st.2.1%2=0/\st.2.2 < 65536/\st.1.length+4*r.length<=900000/\(∀ x∈st.1,x < 256)/\r.foldl zaJ st=ns.foldl zaJ ([],0,0) /\
   σ'=⟨[("data",data),("newline",.raw (.bool false)),("bin_data",data),("out",.raw (.ref D)),("leftbits",.int (st.2.1:Nat)),("leftchar",.int (st.2.2:Nat))],(D,.list (st.1.map fun (n:Nat)=>.int n))::σ.zone⟩) ?_ ?_ _ _ ⟨ns,([],0,0),rfl,hns,by decide,by decide,by decide,by simp -iota;lia,by simp,rfl,rfl⟩
  ·rintro _ ⟨r,⟨out,lb,lc⟩,hx,-,hlb,hpar,hlc,hol,hob,hfold,rfl⟩
   have hre:r=[]:=by cases r with | nil=>rfl | cons _ _=>cases hx
   subst hre
   have hb2:b2a ns=zdI (out,lb,lc):=by unfold b2a;rw [<- hfold];rfl
   rw [hb2] at hP
   dsimp -iota only at hlb hpar hlc hol hob ⊢
   obtain ⟨tt,htab⟩:=h.tab
   have hol':out.length<=900000:=by simp -iota at hol;lia
   have hget:∀ j:Nat,j < 64->((((zaG++[43,47]).map (fun (n:Nat)=>n.toUInt8)).getD j 0).toNat:Nat)=zb1 j:=fun j hj=>by
    have:∀ j:Fin 64,(((zaG++[43,47]).map (fun (n:Nat)=>n.toUInt8)).getD j.1 0).toNat=zb1 j.1:=by decide
    exact this ⟨j,hj⟩
   have hfin:∀ out':List Nat,(∀ x∈out',x < 256)->out'.length<=1000000->zdI (out,lb,lc)=out' ->
     EXs g (A.deeper (callEnv (znd c kd pm) L f)) (zap (znd c kd pm) L f) ((fB 12).drop 7) ⟨[("data",data),("newline",.raw (.bool false)),("bin_data",data),("out",.raw (.ref D)),("leftbits",.int (lb:Nat)),("leftchar",.int (lc:Nat))],(D,.list (out'.map fun (n:Nat)=>.int n))::σ.zone⟩
      fun fl σ'=>∃ pre z,σ'.zone=pre++z/\P (match fl with | .ret p=>p | _=>.raw .none) ⟨σ.loc,z⟩:=by
    intro out' h1 h2 h3
    rw [h3] at hP
    refine zb ?_
    refine zaA ?_
    refine zaF ?_
    refine za hk (by rfl) ?_
    refine zk ?_
    show EXs _ _ _ _ _ _
    refine zi ?_
    refine zb ?_
    refine zan ?_
    refine zh ?_
    refine zg hk h.by_ ?_
    refine ⟨_,rfl,rfl,?_⟩
    repeat walk_at "st"
    refine zkW (ns:=out') (Rm.le hr' (by decide)) (.head _) h1 (by lia) ?_
    exact ⟨[_],_,rfl,hP⟩
   have happ:∀ (out':List Nat) (e:Expr) (p1 p2 p3:Pos) (loc':List (Str × PV)) (j:Nat) (Q:PV->AS->Prop),loc'.lookup ("out":Str)=some (.raw (.ref D))->True:=fun _ _ _ _ _ _ _ _ _=>trivial
   refine zi ?_
   refine zb ?_
   refine zaA ?_
   refine ze ?_
   refine za hk (by rfl) ?_
   refine zx ?_
   refine zcm ?_
   refine zk ?_
   by_cases h2:lb=2
   ·subst h2
    show (if (((2:Nat):Int)==2)=true then (_:Prop) else _);rw [show (((2:Nat):Int)==2)=true from rfl,if_pos rfl]
    have hj:lc%4*16 < 64:=(Nat.mul_lt_mul_right (by decide:0 < 16)).mpr (Nat.mod_lt lc (by decide:4 > 0))
    refine zb ?_
    refine zab ?_
    refine zai ?_
    refine za hk (by rfl) ?_
    refine ⟨D,out.map fun (n:Nat)=>.int n,rfl,.head _,?_⟩
    refine zj ?_
    refine zfE hk htab ?_
    refine zac ?_
    refine zac ?_
    refine za hk (by rfl) ?_
    refine zx ?_
    refine zke ?_
    rw [show (3:Int)=((2 ^ 2 - 1:Nat):Int) from rfl,zrZ]
    refine zx ?_
    refine zmz (by decide) (by decide) (by rw [Int.natAbs_natCast];exact Nat.lt_trans (Nat.mod_lt _ (by decide)) (by decide)) ?_
    rw [show ((lc%2 ^ 2:Nat):Int)*2 ^ (4:Int).toNat=((lc%4*16:Nat):Int) from by rw [show (4:Int).toNat=4 from rfl];push_cast;rfl]
    refine zst (b:=(zaG++[43,47]).map (fun (n:Nat)=>n.toUInt8)) (i:=((lc%4*16:Nat):Int)) (Int.natCast_nonneg _) (by show ((lc%4*16:Nat):Int) < ((64:Nat):Int);lia) (by decide) (hs:=?hs1) ?_
    case hs1=>intro _ _;with_unfolding_all rfl
    rw [show (((lc%4*16:Nat):Int)).toNat=lc%4*16 from rfl,hget _ hj]
    refine ⟨out.map fun (n:Nat)=>.int n,_,.head,by rw [List.length_map];lia,?_⟩
    refine ⟨trivial,?_⟩
    refine zb ?_
    refine zab ?_
    refine zai ?_
    refine za hk (by rfl) ?_
    refine ⟨D,_,rfl,.head _,?_⟩
    refine zx ?_
    refine ⟨_,_,.head,by simp -iota;lia,?_⟩
    refine ⟨trivial,?_⟩
    refine zb ?_
    refine zab ?_
    refine zai ?_
    refine za hk (by rfl) ?_
    refine ⟨D,_,rfl,.head _,?_⟩
    refine zx ?_
    refine ⟨_,_,.head,by simp -iota;lia,?_⟩
    refine ⟨trivial,?_⟩
    refine zi ?_
    have:=hfin (out++[zb1 (lc%4*16),61,61]) (fun x hx=>by
     rcases List.mem_append.mp hx with q | q
     ·exact hob x q
     ·simp -iota at q;rcases q with rfl | rfl
      ·exact zdR hj
      ·decide) (by simp -iota;lia) (by unfold zdI;rfl)
    rw [show (out++[zb1 (lc%4*16),61,61]).map (fun (n:Nat)=>PV.int n)=((out.map fun (n:Nat)=>PV.int n)++[.int (zb1 (lc%4*16):Nat)])++[.int 61]++[.int 61] from by simp] at this
    exact this
   ·show (if (((lb:Nat):Int)==2)=true then (_:Prop) else _);rw [show (((lb:Nat):Int)==2)=false from beq_eq_false_iff_ne.mpr fun q=>h2 (Int.ofNat.inj q),if_neg (by decide)]
    refine zb ?_
    refine zaA ?_
    refine ze ?_
    refine za hk (by rfl) ?_
    refine zx ?_
    refine zcm ?_
    refine zk ?_
    by_cases h4:lb=4
    ·subst h4
     show (if (((4:Nat):Int)==4)=true then (_:Prop) else _);rw [show (((4:Nat):Int)==4)=true from rfl,if_pos rfl]
     have hj:lc%16*4 < 64:=(Nat.mul_lt_mul_right (by decide:0 < 4)).mpr (Nat.mod_lt lc (by decide:16 > 0))
     refine zb ?_
     refine zab ?_
     refine zai ?_
     refine za hk (by rfl) ?_
     refine ⟨D,out.map fun (n:Nat)=>.int n,rfl,.head _,?_⟩
     refine zj ?_
     refine zfE hk htab ?_
     refine zac ?_
     refine zac ?_
     refine za hk (by rfl) ?_
     refine zx ?_
     refine zke ?_
     rw [show (15:Int)=((2 ^ 4 - 1:Nat):Int) from rfl,zrZ]
     refine zx ?_
     refine zmz (by decide) (by decide) (by rw [Int.natAbs_natCast];exact Nat.lt_trans (Nat.mod_lt _ (by decide)) (by decide)) ?_
     rw [show ((lc%2 ^ 4:Nat):Int)*2 ^ (2:Int).toNat=((lc%16*4:Nat):Int) from by rw [show (2:Int).toNat=2 from rfl];push_cast;rfl]
     refine zst (b:=(zaG++[43,47]).map (fun (n:Nat)=>n.toUInt8)) (i:=((lc%16*4:Nat):Int)) (Int.natCast_nonneg _) (by show ((lc%16*4:Nat):Int) < ((64:Nat):Int);lia) (by decide) (hs:=?hs2) ?_
     case hs2=>intro _ _;with_unfolding_all rfl
     rw [show (((lc%16*4:Nat):Int)).toNat=lc%16*4 from rfl,hget _ hj]
     refine ⟨out.map fun (n:Nat)=>.int n,_,.head,by rw [List.length_map];lia,?_⟩
     refine ⟨trivial,?_⟩
     refine zb ?_
     refine zab ?_
     refine zai ?_
     refine za hk (by rfl) ?_
     refine ⟨D,_,rfl,.head _,?_⟩
     refine zx ?_
     refine ⟨_,_,.head,by simp -iota;lia,?_⟩
     refine ⟨trivial,?_⟩
     refine zi ?_
     refine zi ?_
     have:=hfin (out++[zb1 (lc%16*4),61]) (fun x hx=>by
      rcases List.mem_append.mp hx with q | q
      ·exact hob x q
      ·simp -iota at q;rcases q with rfl | rfl
       ·exact zdR hj
       ·decide) (by simp -iota;lia) (by unfold zdI;rfl)
     rw [show (out++[zb1 (lc%16*4),61]).map (fun (n:Nat)=>PV.int n)=((out.map fun (n:Nat)=>PV.int n)++[.int (zb1 (lc%16*4):Nat)])++[.int 61] from by simp] at this
     exact this
    ·show (if (((lb:Nat):Int)==4)=true then (_:Prop) else _);rw [show (((lb:Nat):Int)==4)=false from beq_eq_false_iff_ne.mpr fun q=>h4 (Int.ofNat.inj q),if_neg (by decide)]
     refine zi ?_
     refine zi ?_
     exact hfin out hob (by lia) (by unfold zdI;dsimp -iota only;rw [if_neg h2,if_neg h4,List.append_nil])
  ·intro I Q back out;rintro x xs _ ⟨r,⟨out,lb,lc⟩,hx,hrb,hlb,hpar,hlc,hol,hob,hfold,rfl⟩
   cases r with
   | nil=>cases hx
   | cons k r =>
    cases hx
    dsimp -iota only at hlb hpar hlc hol hob hfold ⊢
    have hkb:=hrb k List.mem_cons_self
    refine zay hk ?_
    refine zb ?_
    refine zd hk ?_
    refine zac ?_
    refine zac ?_
    refine zac ?_
    refine za hk (by rfl) ?_
    refine zx ?_
    refine zmz (by decide) (by decide) (by rw [Int.natAbs_natCast];exact Nat.lt_trans hlc (by decide)) ?_
    refine za hk (by rfl) ?_
    refine ztg ?_
    refine zx ?_
    refine zke ?_
    rw [zq9 hkb,show (65535:Int)=((2 ^ 16 - 1:Nat):Int) from rfl,zrZ]
    refine zb ?_
    refine zd hk ?_
    refine zac ?_
    refine za hk (by rfl) ?_
    refine zx ?_
    refine ziA ?_
    refine zb ?_
    refine zlz (lc:=(lc*256+k)%65536) (k:=k) (lb0:=lb) (out0:=out) (D:=D) h (Nat.mod_lt _ (by decide)) hlb (by simp -iota at hol;lia) hob fun out' lb' he hl6 hb'=>?_
    refine zi ?_
    have hl':=zhK (lc:=(lc*256+k)%65536) 2 (lb+8) out
    have hp':=zj8 (lc:=(lc*256+k)%65536) 2 (lb+8) out
    rw [<- he] at hl' hp'
    dsimp -iota only at hl' hp'
    refine ⟨_,Sub.weak' (loc':=[("data",data),("newline",.raw (.bool false)),("bin_data",data),("out",.raw (.ref D)),("leftbits",.int (lb':Nat)),("leftchar",.int (((lc*256+k)%65536:Nat):Int))]) (by walk_at "sub") rfl,fun _ h=>h,back _ _ ⟨r,(out',lb',(lc*256+k)%65536),rfl,fun k hk=>hrb k (List.mem_cons_of_mem _ hk),ev4 _ hl6 (ev8 hpar hp'),ev8 hpar hp',Nat.mod_lt _ (by decide),by simp -iota at hol ⊢;lia,hb',?_,rfl⟩⟩
    rw [<- hfold,List.foldl_cons]
    congr 1
    unfold zaJ
    dsimp -iota only
    rw [<- he]
end
section
open PySem.W PySem.Builtin PySem.Builtin.ObjectAttr
variable {g:Gl}{A:Around}{F:Fm}{σ:AS}{P:PV->AS->Prop}{loc:List (Str × PV)}
theorem ziW {a b:UInt8}{n:Nat}{c:UInt8}(hn:n < 256):(By.transTab [43,47] [a,b]).getD n c=if n=47 then b else if n=43 then a else n.toUInt8:=by
 unfold By.transTab By.transTab0
 show ((((Array.range 256).map (fun (n:Nat)=>n.toUInt8)).setIfInBounds 43 a).setIfInBounds 47 b).getD n c=_
 rw [Array.getD_eq_getD_getElem?,Array.getElem?_setIfInBounds,Array.getElem?_setIfInBounds]
 by_cases h47:n=47
 ·subst h47;simp
 ·rw [if_neg (fun q=>h47 q.symm),if_neg h47]
  by_cases h43:n=43
  ·subst h43;simp
  ·rw [if_neg (fun q=>h43 q.symm),if_neg h43]
   rw [Array.getElem?_map,Array.getElem?_range]
   simp [hn]
noncomputable def zkV (a b n:Nat):Nat:=if n=47 then b else if n=43 then a else n
theorem zoy {a b:Nat}(ha:a < 256)(hb:b < 256){l:List Nat}(hl:∀ n∈l,n < 256):((l.map fun (n:Nat)=>n.toUInt8).toArray.map fun c=>(By.transTab [43,47] [a.toUInt8,b.toUInt8]).getD c.toNat c)=((l.map (zkV a b)).map fun (n:Nat)=>n.toUInt8).toArray:=by
 rw [List.map_toArray,List.map_map,List.map_map]
 congr 1
 refine List.map_congr_left fun n hn=>?_
 have h1:=hl n hn
 show (By.transTab [43,47] [a.toUInt8,b.toUInt8]).getD n.toUInt8.toNat n.toUInt8=(zkV a b n).toUInt8
 have e:n.toUInt8.toNat=n:=by simp [Nat.toUInt8];lia
 rw [e,ziW h1]
 unfold zkV
 split
 ·rfl
 ·split <;> rfl
theorem zn1 {ns:List Nat}:∀ n∈b2a ns,n < 256:=by
 have he:∀ (lc f lb:Nat) (out:List Nat),(∀ x∈out,x < 256)->∀ x∈(zg3 lc f lb out).1,x < 256:=by
  intro lc f
  induction f with
  | zero=>intro lb out h;exact h
  | succ f ih =>
   intro lb out h
   rw [zil]
   split
   ·refine ih _ _ fun x hx=>?_
    rcases List.mem_append.mp hx with q | q
    ·exact h x q
    ·rw [List.mem_singleton] at q;subst q;exact zdR (Nat.mod_lt _ (by decide))
   ·exact h
 have hs:∀ (l:List Nat) (st:BSt),(∀ x∈st.1,x < 256)->∀ x∈(l.foldl zaJ st).1,x < 256:=by
  intro l
  induction l with
  | nil=>intro st h;exact h
  | cons b r ih=>intro st h;exact ih _ (he _ _ _ _ h)
 intro n hn
 unfold b2a zdI at hn
 rcases List.mem_append.mp hn with q | q
 ·exact hs ns ([],0,0) (by simp) n q
 ·split at q
  ·simp at q;rcases q with rfl | rfl
   ·exact zdR (by lia)
   ·decide
  ·split at q
   ·simp at q;rcases q with rfl | rfl
    ·exact zdR (by lia)
    ·decide
   ·cases q
structure zo7 (g:Gl)(f:Addr):Prop where
 glob:g.Glob "b64encode" (.ref f)
 at_:∃ c pm T,zdB g f { mkF 14 "b64encode" c pm with defaults:=.ref T } (fB 14)/\zgN g { mkF 14 "b64encode" c pm with defaults:=.ref T } #[.none]
theorem znE {f f2 fb ft:Addr}(hr:Rm A 3)(h:zo7 g f)(h2:zlX g f2 fb ft)(hlenB:g.Blt "len" (.builtin "len")){ns:List Nat}(hns:∀ n∈ns,n < 256)(hlen:ns.length<=10000)(hbl:(b2a ns).length<=1000000){a b:Nat}(ha:a < 256)(hb:b < 256)
  (hP:P (.byt (((b2a ns).map (zkV a b)).map fun (n:Nat)=>n.toUInt8).toArray) σ) :
  CL g A F (.ref f) [.byt (ns.map fun (n:Nat)=>n.toUInt8).toArray,.byt #[a.toUInt8,b.toUInt8]] σ P:=by
 obtain ⟨c,pm,T,hfa,hd⟩:=h.at_
 obtain ⟨c2,pm2,kd2,hfa2⟩:=h2.at_
 refine (zdG (n:=2) (xs:=["s","altchars"]) (qs:=[.byt (ns.map fun (n:Nat)=>n.toUInt8).toArray,.byt #[a.toUInt8,b.toUInt8]]) (kw:=[]) hr hfa (by decide) rfl (fun s vs S hvs=>?_) (by rfl) (by rfl) fun L=>?_).clc.cl
 ·refine ⟨vs,hvs,?_⟩
  cases hvs with | cons h1 hvs=>cases hvs with | cons h2 hvs=>cases hvs;exact hd.binds S (by rfl) (by rfl)
 ·have hk:z0 (zap { mkF 14 "b64encode" c pm with defaults:=.ref T } L f):=⟨rfl,rfl,rfl⟩
  have hr':=hr.deeper (env:=callEnv { mkF 14 "b64encode" c pm with defaults:=.ref T } L f)
  refine zb ?_
  refine zd hk ?_
  refine By.EV_Call_kw hfa2 ?_
  refine zl hk h2.glob ?_
  refine ⟨rfl,?_⟩
  refine zc ?_
  refine za hk (by rfl) ?_
  refine zf ?_
  refine ze7 ?_
  refine ⟨_,rfl,?_⟩
  refine znQ hr' h2 hns hlen ?_
  refine zb ?_
  refine zaA ?_
  refine ze ?_
  refine za hk (by rfl) ?_
  refine zhx ?_
  refine zh8 ?_
  refine zk ?_
  show EXs _ _ _ _ _ _
  refine zb ?_
  refine zbZ ?_
  refine ze ?_
  refine zh ?_
  refine zg hk hlenB ?_
  refine ⟨_,rfl,rfl,?_⟩
  refine zc ?_
  refine za hk (by rfl) ?_
  refine zf ?_
  refine zns (by simp) ?_
  refine zx ?_
  refine zcm ?_
  refine zk ?_
  refine ⟨rfl,?_⟩
  refine zb ?_
  refine zan ?_
  refine zau ?_
  refine za hk (by rfl) ?_
  refine ⟨_,By.MT_translate,?_⟩
  refine zc ?_
  refine By.EV_maketrans ?_
  refine zg hk h2.by_ ?_
  refine ⟨rfl,?_⟩
  refine zc ?_
  refine znu ?_
  refine zc ?_
  refine za hk (by rfl) ?_
  refine zf ?_
  refine By.CL_maketrans rfl ?_
  refine zf ?_
  refine By.CL_translate (By.transTab_size _ _) (by simp;lia) ?_
  refine ⟨[],_,rfl,?_⟩
  rw [show By.transTab (#[43,47]:Array UInt8).toList (#[a.toUInt8,b.toUInt8]:Array UInt8).toList=By.transTab [43,47] [a.toUInt8,b.toUInt8] from rfl]
  rw [zoy ha hb zn1]
  exact hP
end
section
open PySem.W PySem.Builtin PySem.Builtin.ObjectAttr
variable {g:Gl}{A:Around}{F:Fm}{σ:AS}{P:PV->AS->Prop}{loc:List (Str × PV)}
structure zrk (g:Gl)(f d:Addr):Prop where
 fn:Fn g 20 "escape" f
 map:g.Glob "_special_chars_map" (.ref d)
 tab:zjT g d
 isi:g.Blt "isinstance" (.builtin "isinstance")
 str_:g.Blt "str" (.type "str")
theorem zjx {f d:Addr}(hr:Rm A 1)(h:zrk g f d){c:Nat}(hc:c < 128)(hP:P (tx (zqE c)) σ):CL g A F (.ref f) [tx [c]] σ P:=by
 obtain ⟨c',pm,hfa⟩:=h.fn.at_
 refine za2 (n:=0) (xs:=["pattern"]) hr hfa (by decide) rfl (fun vs hv=>?_) (by rfl) (by rfl) fun L=>?_
 ·revert vs hv;refine zcV ?_;intros;rfl
 ·have hk:z0 (zap (mkF 20 "escape" c' pm) L f):=zaj rfl
  refine zb ?_
  refine zaA ?_
  refine zaF ?_
  refine zh ?_
  refine zg hk h.isi ?_
  refine ⟨_,rfl,rfl,?_⟩
  refine zc ?_
  refine za hk (by rfl) ?_
  refine zc ?_
  refine zg hk h.str_ ?_
  refine zf ?_
  refine zhl ?_
  refine zk ?_
  show EXs _ _ _ _ _ _
  refine zb ?_
  refine zan ?_
  refine zau ?_
  refine za hk (by rfl) ?_
  refine ⟨_,ziv zmE zoj,?_⟩
  refine zc ?_
  refine zl hk h.map ?_
  refine zf ?_
  refine CL_translate hr.deeper h.tab hc ?_
  exact zcp.mk [] rfl hP
noncomputable abbrev It:=Option (List Nat)
noncomputable def zml (star:Addr):It->PV
 | none=>.raw (.ref star)
 | some l=>tx l
noncomputable def zq1 (pat:List Nat):Nat->Nat->Nat
 | 0,j=>j
 | f+1,j=>if j < pat.length/\pat.getD j 0≠93 then zq1 pat f (j+1) else j
noncomputable def zcv (stuff:List Nat):List Nat:=if stuff.getD 0 0=33 then [94]++stuff.drop 1 else if stuff.getD 0 0=94\/stuff.getD 0 0=91 then [92]++stuff else stuff
noncomputable def zfu (pat:List Nat)(i:Nat):Nat:=if pat.getD (i+1) 0=33 then i+2 else i+1
noncomputable def zbA (pat:List Nat)(i:Nat):Nat:=zq1 pat pat.length (zfu pat i)
noncomputable def za9 (pat:List Nat)(i:Nat):List Nat:=(pat.drop (i+1)).take (zbA pat i - (i+1))
noncomputable def zrb (pat:List Nat)(i:Nat):Bool:=decide (zfu pat i < pat.length/\pat.getD (zfu pat i) 0≠93/\zbA pat i < pat.length/\pat.getD (zbA pat i) 0=93/\45∉za9 pat i/\92∉za9 pat i/\Rx.none2 (za9 pat i)=true/\za9 pat i≠[]/\za9 pat i≠[33]/\(Builtin.Str.occurrences (ofL (za9 pat i)) (ofL [92]) 0 (ofL (za9 pat i)).length ((ofL (za9 pat i)).length+1)).isEmpty=true)
noncomputable def zn7 (pat:List Nat):Nat->Nat->List It->Option (List It)
 | 0,_,_=>none
 | f+1,i,res =>
  if i < pat.length then
   if pat.getD i 0=42 then (if res.getLast?=some none then none else zn7 pat f (i+1) (res++[none]))
   else if pat.getD i 0=63 then none
   else if pat.getD i 0=91 then (if zrb pat i then zn7 pat f (zbA pat i+1) (res++[some ([91]++zcv (za9 pat i)++[93])]) else none)
   else if pat.getD i 0 < 128 then zn7 pat f (i+1) (res++[some (zqE (pat.getD i 0))]) else none
  else if i=pat.length then some res else none
theorem zjl {n a:Nat}(h:a<=n):slo n (some (a:Int))=a:=by
 show clipAt n (a:Int)=a
 have:=clipAt_cast n (a:Int)
 rw [if_neg (by lia)] at this
 lia
theorem zoq {n a:Nat}(h:a<=n):shi n (some (a:Int))=a:=zjl h
theorem zoh {α:Type}{l:List α}{a b:Nat}(ha:a<=l.length)(hb:b<=l.length):sl l (some (a:Int)) (some (b:Int))=(l.drop a).take (b - a):=by
 unfold sl;rw [zjl ha,zoq hb]
theorem zlF {pat:List Nat}{f j:Nat}(h:¬ (j < pat.length/\pat.getD j 0≠93)):zq1 pat f j=j:=by
 cases f with
 | zero=>rfl
 | succ f=>exact if_neg h
noncomputable abbrev trB (pat:List Nat)(star D m:Addr)(i:Nat):List (Str × PV):=[("pat",tx pat),("STAR",.raw (.ref star)),("QUESTION_MARK",tx [46]),("res",.raw (.ref D)),("add",.raw (.ref m)),("i",.int (i:Nat)),("n",.int (pat.length:Nat))]
noncomputable abbrev trZ (star D m:Addr)(res:List It)(z:List (Addr × MO)):List (Addr × MO):=(m,.obj (z9 D))::(D,.list (res.map (zml star)))::z
noncomputable abbrev trJ (pat:List Nat)(star D m:Addr)(i j:Nat):List (Str × PV):=[("pat",tx pat),("STAR",.raw (.ref star)),("QUESTION_MARK",tx [46]),("res",.raw (.ref D)),("add",.raw (.ref m)),("i",.int (i:Nat)),("n",.int (pat.length:Nat)),("c",tx [91]),("j",.int (j:Nat))]
theorem znC {α:Type}(l:List α):l=[]\/∃ r e,l=r++[e]:=by
 rcases List.eq_nil_or_concat l with h | ⟨r,e,h⟩
 ·exact .inl h
 ·exact .inr ⟨r,e,by simpa using h⟩
structure zrX (g:Gl)(f fe d pat2:Addr):Prop where
 glob:g.Glob "_translate" (.ref f)
 at_:∃ c pm,zdB g f (mkF 22 "_translate" c pm) (fB 22)/\∃ Pt,zbi g c Pt
 esc:zrk g fe d
 re:g.Glob "twin_re_1_fnmatch" (.ref pat2)
 pat2:Rx.Pat2Ok g pat2
 bm:zn6 g
 len:g.Blt "len" (.builtin "len")
theorem zoL {f fe d pat2 star:Addr}(hr:Rm A 2)(h:zrX g f fe d pat2){pat:List Nat}{out:List It}(hp:pat.length<=1000)(htr:zn7 pat (pat.length+1) 0 []=some out)(hstar:(star,.obj zeT)∈σ.zone)
  (hP:∀ D,P (.raw (.ref D)) ⟨σ.loc,(D,.list (out.map (zml star)))::σ.zone⟩):CL g A F (.ref f) [tx pat,.raw (.ref star),tx [46]] σ P:=by
 obtain ⟨c,pm,hfa,Pt,T⟩:=h.at_
 obtain ⟨ce,pme,hfe⟩:=h.esc.fn.at_
 refine (zcD (n:=1) (xs:=["pat","STAR","QUESTION_MARK"]) hr hfa (by decide) rfl (fun vs hv=>?_) (by rfl) (by rfl) fun L=>?_).cl
 ·revert vs hv;refine zlj ?_;intros;rfl
 ·have hk:z0 (zap (mkF 22 "_translate" c pm) L f):=zaj rfl
  have hr':=hr.deeper (env:=callEnv (mkF 22 "_translate" c pm) L f)
  refine zb ?_
  refine zd hk ?_
  refine zao ?_
  refine zf ⟨by simp,fun D=>?_⟩
  refine zb ?_
  refine zd hk ?_
  refine zc2 ?_
  refine za hk (by rfl) ?_
  refine ⟨D,_,rfl,.head _,fun m=>?_⟩
  refine zb ?_
  refine z4 (names:=["i","n"]) (Rm.le hr' (by decide)) ?_
  refine zcQ ?_
  refine zc ?_
  refine zx ?_
  refine zc ?_
  refine zh ?_
  refine zg hk h.len ?_
  refine ⟨_,rfl,rfl,?_⟩
  refine zc ?_
  refine za hk (by rfl) ?_
  refine zf ?_
  refine zba (by lia) ?_
  refine zf ?_
  repeat walk_at "st"
  refine ⟨_,rfl,rfl,?_⟩
  repeat walk_at "asg"
  refine zaS (σ':=⟨trB pat star D m 0,trZ star D m [] σ.zone⟩) (Sub.weak' (by walk_at "sub") rfl) ?_
  refine zb ?_
  refine zax (fun f σ'=>∃ (i:Nat) (res:List It),zn7 pat f i res=some out/\res.length+f<=3000/\σ'=⟨trB pat star D m i,trZ star D m res σ.zone⟩) (pat.length+1) ⟨0,[],htr,by simp;lia,rfl⟩ ?_
  intro I Q back out;rintro k0 _ ⟨i,res,ht,hres,rfl⟩
  cases k0 with
  | zero=>cases ht
  | succ k =>
  change (if _ then _ else _)=_ at ht
  refine ze ?_
  refine za hk (by rfl) ?_
  refine za hk (by rfl) ?_
  refine zbK ?_
  refine zk ?_
  by_cases hi:i < pat.length
  ·rw [if_pos hi] at ht
   rw [decide_eq_true (show (i:Int) < (pat.length:Int) by lia),if_pos rfl]
   refine zb ?_
   refine zd hk ?_
   refine zj ?_
   refine za hk (by rfl) ?_
   refine za hk (by rfl) ?_
   refine zcK (by lia) (by lia) (by lia) ?_
   refine zb ?_
   refine zd hk ?_
   refine zac ?_
   refine za hk (by rfl) ?_
   refine zx ?_
   refine ziA ?_
   rw [show ((i:Int)+1)=((i+1:Nat):Int) by lia,Int.toNat_natCast]
   refine zb ?_
   refine zaA ?_
   refine ze ?_
   refine za hk (by rfl) ?_
   refine zt _ ?_ (by walk_at "lit")
   refine zb9 ?_
   refine zk ?_
   by_cases h42:pat.getD i 0=42
   ·rw [if_pos h42] at ht
    rw [h42]
    show EXs _ _ _ _ _ _
    have hlast:res.getLast?≠some none:=fun q=>by rw [if_pos q] at ht;cases ht
    rw [if_neg hlast] at ht
    have hfin:∀ loc',Sub loc' [("pat",tx pat),("STAR",PV.raw (.ref star)),("QUESTION_MARK",tx [46]),("res",.raw (.ref D)),("add",.raw (.ref m)),("i",.int ((i+1:Nat):Int)),("n",.int (pat.length:Nat))]->ztd g (zap (mkF 22 "_translate" c pm) L f) I (k+1) ⟨loc',(m,.obj (z9 D))::(D,.list (res.map (zml star)++[.raw (.ref star)]))::σ.zone⟩:=fun loc' hsub =>
     ⟨k,⟨trB pat star D m (i+1),trZ star D m (res++[none]) σ.zone⟩,by lia,Sub.weak' hsub (by simp [zml]),back _ _ ⟨i+1,res++[none],ht,by simp;lia,rfl⟩⟩
    refine zb ?_
    refine zaA ?_
    refine zaz ?_
    refine zn ?_
    refine zgL ?_
    refine zaF ?_
    refine za hk (by rfl) ?_
    refine zt0 (l:=res.map (zml star)) (.tail _ (.head _)) (by rw [List.length_map];lia) ?_
    rcases znC res with hre | ⟨r0,e0,hre⟩
    ·subst hre
     show EXs _ _ _ _ _ _
     refine zb ?_
     refine zab ?_
     refine za4 ?_
     refine za hk (by rfl) ?_
     refine ⟨m,D,rfl,?_⟩
     refine zc ?_
     refine za hk (by rfl) ?_
     refine zf ?_
     refine ⟨.head _,zcO (.head _) (.tail .head) (by simp) ?_⟩
     refine ⟨trivial,?_⟩
     refine zi ?_
     refine zi ?_
     refine zi ?_
     exact hfin _ (by walk_at "sub")
    ·subst hre
     have he0:e0≠none:=fun q=>hlast (by rw [q];simp)
     obtain ⟨l0,rfl⟩:∃ l0,e0=some l0:=by cases e0 with | none=>exact absurd rfl he0 | some l0=>exact ⟨l0,rfl⟩
     have hb:(!(!((r0++[some l0]).map (zml star)).isEmpty))=false:=by simp
     unfold zfW
     rw [hb]
     show TRs _ _ _ _ _ _ _
     refine zn ?_
     refine ze ?_
     refine zj ?_
     refine za hk (by rfl) ?_
     refine zeN ?_
     refine zx ?_
     refine zoo ?_
     refine zmX (tx []) (.tail _ (.head _)) (by simp) (by simp at hres ⊢;lia) ?_
     have hg:((r0++[some l0]).map (zml star)).getD (((r0++[some l0]).map (zml star)).length - 1) (tx [])=tx l0:=by simp [zml]
     rw [hg]
     refine za hk (by rfl) ?_
     refine zb7 ?_
     refine zk ?_
     show EXs _ _ _ _ _ _
     refine zb ?_
     refine zab ?_
     refine za4 ?_
     refine za hk (by rfl) ?_
     refine ⟨m,D,rfl,?_⟩
     refine zc ?_
     refine za hk (by rfl) ?_
     refine zf ?_
     refine ⟨.head _,zcO (.head _) (.tail .head) (by simp at hres ⊢;lia) ?_⟩
     refine ⟨trivial,?_⟩
     refine zi ?_
     refine zi ?_
     refine zi ?_
     exact hfin _ (by walk_at "sub")
   ·rw [if_neg h42] at ht
    rw [decide_eq_false (show ¬ [pat.getD i 0]=[42] from fun q=>h42 (List.cons.inj q).1)]
    show EXs _ _ _ _ _ _
    by_cases h63:pat.getD i 0=63
    ·rw [if_pos h63] at ht;cases ht
    rw [if_neg h63] at ht
    refine zb ?_
    refine zaA ?_
    refine ze ?_
    refine za hk (by rfl) ?_
    refine zt _ ?_ (by walk_at "lit")
    refine zb9 ?_
    refine zk ?_
    rw [decide_eq_false (show ¬ [pat.getD i 0]=[63] from fun q=>h63 (List.cons.inj q).1)]
    show EXs _ _ _ _ _ _
    refine zb ?_
    refine zaA ?_
    refine ze ?_
    refine za hk (by rfl) ?_
    refine zt _ ?_ (by walk_at "lit")
    refine zb9 ?_
    refine zk ?_
    by_cases h91:pat.getD i 0=91
    ·rw [if_pos h91] at ht
     by_cases hset:zrb pat i=true
     ·rw [if_pos hset] at ht
      rw [h91]
      show EXs _ _ _ _ _ _
      obtain ⟨s1,s2,s3,s4,s5,s6,s7,s8,s9,s10⟩:=of_decide_eq_true hset
      have hat:zfu pat i=if pat.getD (i+1) 0=33 then i+2 else i+1:=rfl
      have hi1:i+1 < pat.length:=by rw [hat] at s1;split at s1 <;> lia
      have hatl:i+1<=zfu pat i:=by rw [hat];split <;> lia
      refine zb ?_
      refine zd hk ?_
      refine za hk (by rfl) ?_
      refine zb ?_
      refine J.mono (P:=fun fl σ'=>fl=Fl.next/\∃ loc',σ'=⟨loc',trZ star D m res σ.zone⟩/\Sub loc' (trJ pat star D m (i+1) (zfu pat i))) ?_ ?_
      ·refine zaA ?_
       refine zaz ?_
       refine zn ?_
       refine ze ?_
       refine za hk (by rfl) ?_
       refine za hk (by rfl) ?_
       refine zbK ?_
       refine zk ?_
       rw [decide_eq_true (show ((i+1:Nat):Int) < (pat.length:Int) by lia)]
       show TRs _ _ _ _ _ _ _
       refine zn ?_
       refine ze ?_
       refine zj ?_
       refine za hk (by rfl) ?_
       refine za hk (by rfl) ?_
       refine zcK (by lia) (by lia) (by lia) ?_
       rw [Int.toNat_natCast]
       refine zt _ ?_ (by walk_at "lit")
       refine zb9 ?_
       refine zk ?_
       by_cases h33:pat.getD (i+1) 0=33
       ·rw [h33]
        show TRs _ _ _ _ _ _ _
        refine zbG ?_
        show EXs _ _ _ _ _ _
        refine zb ?_
        refine zd hk ?_
        refine zac ?_
        refine za hk (by rfl) ?_
        refine zx ?_
        refine ziA ?_
        rw [show (((i+1:Nat):Int)+1)=((zfu pat i:Nat):Int) from by rw [hat,if_pos h33];lia]
        refine zi ?_
        exact ⟨rfl,_,rfl,by walk_at "sub"⟩
       ·rw [decide_eq_false (show ¬ [pat.getD (i+1) 0]=[33] from fun q=>h33 (List.cons.inj q).1)]
        show EXs _ _ _ _ _ _
        refine zi ?_
        have e:zfu pat i=i+1:=by rw [hat,if_neg h33]
        rw [e]
        exact ⟨rfl,_,rfl,by walk_at "sub"⟩
      rintro _ _ ⟨rfl,loc1,rfl,hsub1⟩
      refine zaS (Sub.weak' hsub1 rfl) ?_
      refine zb ?_
      refine zaA ?_
      refine zaz ?_
      refine zn ?_
      refine ze ?_
      refine za hk (by rfl) ?_
      refine za hk (by rfl) ?_
      refine zbK ?_
      refine zk ?_
      rw [decide_eq_true (show ((zfu pat i:Nat):Int) < (pat.length:Int) by lia)]
      show TRs _ _ _ _ _ _ _
      refine zn ?_
      refine ze ?_
      refine zj ?_
      refine za hk (by rfl) ?_
      refine za hk (by rfl) ?_
      refine zcK (by lia) (by lia) (by lia) ?_
      rw [Int.toNat_natCast]
      refine zt _ ?_ (by walk_at "lit")
      refine zb9 ?_
      refine zk ?_
      rw [decide_eq_false (show ¬ [pat.getD (zfu pat i) 0]=[93] from fun q=>s2 (List.cons.inj q).1)]
      show EXs _ _ _ _ _ _
      refine zi ?_
      refine zb ?_
      refine zax (fun f σ'=>∃ j:Nat,zq1 pat f j=zbA pat i/\pat.length<=j+f/\j<=pat.length/\σ'=⟨trJ pat star D m (i+1) j,trZ star D m res σ.zone⟩) pat.length ⟨zfu pat i,rfl,by lia,by lia,rfl⟩ ?_
      intro I2 Q2 back2 out2;rintro f' _ ⟨j,hsc,hjf,hjl,rfl⟩
      refine zaz ?_
      refine zn ?_
      refine ze ?_
      refine za hk (by rfl) ?_
      refine za hk (by rfl) ?_
      refine zbK ?_
      refine zk ?_
      have hstop:∀ (hj:¬ (j < pat.length/\pat.getD j 0≠93)),j=zbA pat i:=fun hj=>by rw [zlF hj] at hsc;exact hsc
      have hgo:∀ (hj:j < pat.length/\pat.getD j 0≠93),∃ f2,f'=f2+1/\zq1 pat f2 (j+1)=zbA pat i:=fun hj=>by
       cases f' with
       | zero=>exact absurd hj.1 (by lia)
       | succ f2=>exact ⟨f2,rfl,(if_pos hj).symm.trans hsc⟩
      by_cases hjn:j < pat.length
      ·rw [decide_eq_true (show ((j:Nat):Int) < (pat.length:Int) by lia)]
       show TRs _ _ _ _ _ _ _
       refine zn ?_
       refine ze ?_
       refine zj ?_
       refine za hk (by rfl) ?_
       refine za hk (by rfl) ?_
       refine zcK (by lia) (by lia) (by lia) ?_
       rw [Int.toNat_natCast]
       refine zt _ ?_ (by walk_at "lit")
       refine zoF ?_
       refine zk ?_
       by_cases h93:pat.getD j 0=93
       ·rw [h93]
        have hje:=hstop (fun q=>q.2 h93)
        show EXs _ _ _ _ _ _
        refine zi ?_
        subst hje
        have hsl:(za9 pat i).length<=1000:=by unfold za9;rw [List.length_take,List.length_drop];lia
        refine zb ?_
        refine zaA ?_
        refine ze ?_
        refine za hk (by rfl) ?_
        refine za hk (by rfl) ?_
        refine zlx ?_
        refine zk ?_
        rw [decide_eq_false (show ¬ (pat.length:Int)<=((zbA pat i:Nat):Int) by lia)]
        show EXs _ _ _ _ _ _
        refine zb ?_
        refine zd hk ?_
        refine zdi ?_
        refine za hk (by rfl) ?_
        refine zdk ?_
        refine za hk (by rfl) ?_
        refine ⟨_,rfl,?_⟩
        refine zdk ?_
        refine za hk (by rfl) ?_
        refine ⟨_,rfl,?_⟩
        refine zos (by lia) ?_
        rw [zoh (by lia) (by lia),show (pat.drop (i+1)).take (zbA pat i - (i+1))=za9 pat i from rfl]
        generalize hst:za9 pat i=stuff at *
        refine zb ?_
        refine zaA ?_
        refine ze ?_
        refine zt _ ?_ (by walk_at "lit")
        refine za hk (by rfl) ?_
        refine zkM ?_
        refine zk ?_
        rw [decide_eq_false s5]
        show EXs _ _ _ _ _ _
        refine zb ?_
        refine zd hk ?_
        refine zau ?_
        refine za hk (by rfl) ?_
        refine ⟨_,ziv PySem.F.slot_str_replace PySem.F.type_str_replace,?_⟩
        refine zc ?_
        refine zt _ ?_ (by walk_at "lit")
        refine zc ?_
        refine zt _ ?_ (by walk_at "lit")
        refine zf ?_
        refine zfM s10 ?_
        refine zi ?_
        refine zb ?_
        refine zd hk ?_
        refine zau ?_
        refine zl hk h.re ?_
        refine ⟨_,Rx.MT_sub h.pat2,?_⟩
        refine zc ?_
        refine zlq h.bm T rfl hk (fun Lm fd=>?_)
        refine zc ?_
        refine za hk (by rfl) ?_
        refine zf ?_
        refine Rx.CL_sub h.pat2 ⟨by cases stuff with | nil=>exact absurd rfl s8 | cons _ _=>simp,hsl⟩ s7 (.head _) ?_
        refine zb ?_
        refine zd hk ?_
        refine zac ?_
        refine za hk (by rfl) ?_
        refine zx ?_
        refine ziA ?_
        rw [show (((zbA pat i:Nat):Int)+1)=((zbA pat i+1:Nat):Int) by lia]
        refine zb ?_
        refine zaA ?_
        refine zgL ?_
        refine zaF ?_
        refine za hk (by rfl) ?_
        refine zgB (l:=stuff) (by lia) ?_
        unfold zfW
        rw [show (!(!stuff.isEmpty))=false from by cases stuff with | nil=>exact absurd rfl s8 | cons _ _=>rfl]
        show EXs _ _ _ _ _ _
        refine zb ?_
        refine zaA ?_
        refine ze ?_
        refine za hk (by rfl) ?_
        refine zt _ ?_ (by walk_at "lit")
        refine zb9 ?_
        refine zk ?_
        rw [decide_eq_false s9]
        show EXs _ _ _ _ _ _
        have hsp:0 < stuff.length:=by cases stuff with | nil=>exact absurd rfl s8 | cons _ _=>simp
        refine zb ?_
        refine J.mono (P:=fun fl σ'=>fl=Fl.next/\∃ loc',σ'=⟨loc',(Lm,.obj (zl0 fd))::trZ star D m res σ.zone⟩/\Sub loc' [("pat",tx pat),("STAR",.raw (.ref star)),("QUESTION_MARK",tx [46]),("res",.raw (.ref D)),("add",.raw (.ref m)),("i",.int ((zbA pat i+1:Nat):Int)),("n",.int (pat.length:Nat)),("stuff",tx (zcv stuff))]) ?_ ?_
        ·refine zaA ?_
         refine ze ?_
         refine zj ?_
         refine za hk (by rfl) ?_
         refine zx ?_
         refine zcK (by lia) (by lia) (by lia) ?_
         rw [show ((0:Int).toNat)=0 from rfl]
         refine zt _ ?_ (by walk_at "lit")
         refine zb9 ?_
         refine zk ?_
         by_cases q33:stuff.getD 0 0=33
         ·rw [q33]
          have es:zcv stuff=[94]++stuff.drop 1:=by unfold zcv;rw [if_pos q33]
          rw [es]
          show EXs _ _ _ _ _ _
          refine zb ?_
          refine zd hk ?_
          refine zac ?_
          refine zt _ ?_ (by walk_at "lit")
          refine zdi ?_
          refine za hk (by rfl) ?_
          refine zdk ?_
          refine zx ?_
          refine ⟨_,rfl,?_⟩
          refine zjD ?_
          refine zos (by lia) ?_
          have e1:sl stuff (some 1) none=stuff.drop 1:=by
           unfold sl
           rw [show slo stuff.length (some 1)=1 from zjl (a:=1) hsp]
           show List.take (stuff.length - 1) _=_
           rw [List.take_of_length_le (by simp)]
          rw [e1]
          refine zbd (by simp;lia) ?_
          refine zi ?_
          exact ⟨rfl,_,rfl,by walk_at "sub"⟩
         ·rw [decide_eq_false (show ¬ [stuff.getD 0 0]=[33] from fun q=>q33 (List.cons.inj q).1)]
          show EXs _ _ _ _ _ _
          refine zb ?_
          refine zaA ?_
          refine ze ?_
          refine zj ?_
          refine za hk (by rfl) ?_
          refine zx ?_
          refine zcK (by lia) (by lia) (by lia) ?_
          rw [show ((0:Int).toNat)=0 from rfl]
          refine zcQ ?_
          refine zc ?_
          refine zt _ ?_ (by walk_at "lit")
          refine zc ?_
          refine zt _ ?_ (by walk_at "lit")
          refine zf ?_
          repeat walk_at "st"
          refine zo2 (as:=[[94],[91]]) ?_
          refine zk ?_
          by_cases q2:stuff.getD 0 0=94\/stuff.getD 0 0=91
          ·have es:zcv stuff=[92]++stuff:=by unfold zcv;rw [if_neg q33,if_pos q2]
           rw [es,decide_eq_true (show [stuff.getD 0 0]∈([[94],[91]]:List (List Nat)) from by rcases q2 with q | q <;> rw [q] <;> simp)]
           show EXs _ _ _ _ _ _
           refine zb ?_
           refine zd hk ?_
           refine zac ?_
           refine zt _ ?_ (by walk_at "lit")
           refine za hk (by rfl) ?_
           refine zbd (by simp;lia) ?_
           repeat refine zi ?_
           exact ⟨rfl,_,rfl,by walk_at "sub"⟩
          ·have es:zcv stuff=stuff:=by unfold zcv;rw [if_neg q33,if_neg q2]
           rw [es,decide_eq_false (show ¬ [stuff.getD 0 0]∈([[94],[91]]:List (List Nat)) from fun q=>q2 (by simpa using q))]
           show EXs _ _ _ _ _ _
           repeat refine zi ?_
           exact ⟨rfl,_,rfl,by walk_at "sub"⟩
        rintro _ _ ⟨rfl,loc2,rfl,hsub2⟩
        refine zaS (Sub.weak' hsub2 rfl) ?_
        refine zb ?_
        refine zab ?_
        refine za4 ?_
        refine za hk (by rfl) ?_
        refine ⟨m,D,rfl,?_⟩
        refine zc ?_
        have hstl:(zcv stuff).length<=2000:=by
         unfold zcv
         split
         ·simp;lia
         ·split
          ·simp;lia
          ·lia
        refine zfT ?_
        refine zcb ?_
        refine zt _ ?_ (by walk_at "lit")
        refine ⟨_,rfl,by simp,?_⟩
        refine zcb ?_
        refine zcB ?_
        refine za hk (by rfl) ?_
        refine ⟨_,rfl,by lia,?_⟩
        refine ⟨_,rfl,by simp;lia,?_⟩
        refine zcb ?_
        refine zt _ ?_ (by walk_at "lit")
        refine ⟨_,rfl,by simp;lia,?_⟩
        refine zls (by simp;lia) ?_
        refine zf ?_
        refine ⟨.tail _ (.head _),zcO (.tail _ (.head _)) (.tail (.tail .head)) (by rw [List.length_map];lia) ?_⟩
        refine ⟨trivial,?_⟩
        repeat refine zi ?_
        exact ⟨k,⟨trB pat star D m (zbA pat i+1),trZ star D m (res++[some ([91]++zcv stuff++[93])]) σ.zone⟩,by lia,(za1.drop (pre:=[])).trans (Sub.weak' (by walk_at "sub") (by simp [zml])),back _ _ ⟨zbA pat i+1,_,ht,by simp;lia,rfl⟩⟩
       ·rw [decide_eq_false (show ¬ [pat.getD j 0]=[93] from fun q=>h93 (List.cons.inj q).1)]
        obtain ⟨f2,hf2,hsc2⟩:=hgo ⟨hjn,h93⟩
        show TRs _ _ _ _ _ _ _
        refine zbG ?_
        show EXs _ _ _ _ _ _
        refine zb ?_
        refine zd hk ?_
        refine zac ?_
        refine za hk (by rfl) ?_
        refine zx ?_
        refine ziA ?_
        rw [show ((j:Int)+1)=((j+1:Nat):Int) by lia]
        refine zi ?_
        exact ⟨f2,_,by lia,za1.refl,back2 _ _ ⟨j+1,hsc2,by lia,by lia,rfl⟩⟩
      ·have hje:=hstop (fun q=>hjn q.1)
       lia
     ·rw [if_neg hset] at ht;cases ht
    ·rw [if_neg h91] at ht
     by_cases h128:pat.getD i 0 < 128
     ·rw [if_pos h128] at ht
      rw [decide_eq_false (show ¬ [pat.getD i 0]=[91] from fun q=>h91 (List.cons.inj q).1)]
      show EXs _ _ _ _ _ _
      refine zb ?_
      refine zab ?_
      refine za4 ?_
      refine za hk (by rfl) ?_
      refine ⟨m,D,rfl,?_⟩
      refine zc ?_
      refine zw hfe ?_
      refine zl hk h.esc.fn.glob ?_
      refine ⟨rfl,?_⟩
      refine zc ?_
      refine za hk (by rfl) ?_
      refine zf ?_
      refine zjx hr' h.esc h128 ?_
      refine zf ?_
      refine ⟨.head _,zcO (.head _) (.tail .head) (by rw [List.length_map];lia) ?_⟩
      refine ⟨trivial,?_⟩
      refine zi ?_
      refine zi ?_
      refine zi ?_
      refine zi ?_
      exact ⟨k,⟨trB pat star D m (i+1),trZ star D m (res++[some (zqE (pat.getD i 0))]) σ.zone⟩,by lia,Sub.weak' (by walk_at "sub") (by simp [zml]),back _ _ ⟨i+1,_,ht,by simp;lia,rfl⟩⟩
     ·rw [if_neg h128] at ht;cases ht
  ·rw [if_neg hi] at ht
   rw [decide_eq_false (show ¬ (i:Int) < (pat.length:Int) by lia),if_neg (by decide)]
   refine zi ?_
   by_cases he:i=pat.length
   ·rw [if_pos he] at ht
    cases ht
    subst he
    refine zb ?_
    refine zbZ ?_
    refine ze ?_
    refine za hk (by rfl) ?_
    refine za hk (by rfl) ?_
    refine zcm ?_
    refine zk ?_
    refine ⟨by simp,?_⟩
    refine zb ?_
    refine zan ?_
    refine za hk (by rfl) ?_
    exact ⟨[_],_,rfl,hP D⟩
   ·rw [if_neg he] at ht;cases ht
end
section
open PySem.W PySem.Builtin PySem.Builtin.ObjectAttr
variable {g:Gl}{A:Around}{F:Fm}{σ:AS}{P:PV->AS->Prop}{loc:List (Str × PV)}
noncomputable def zdK (a b:List Nat):List Nat:=[40,63,115,58]++([40,63,62,46,42,63]++(a++b)++[41]++[46,42])++[41,92,90]
noncomputable abbrev jB (star I D m:Addr)(i:Nat):List (Str × PV):=[("inp",.raw (.ref I)),("STAR",.raw (.ref star)),("res",.raw (.ref D)),("add",.raw (.ref m)),("i",.int (i:Nat)),("n",.int 4)]
theorem zmR {α:Type}{l r:List α}{p q:Nat}(h:l.length<=p)(h':r.length<=q):(l++r).length<=p+q:=by rw [List.length_append];exact Nat.add_le_add h h'
theorem zmB {f star I:Addr}(hr:Rm A 1)(hf:Fn g 23 "_join_translated_parts" f)(hlen:g.Blt "len" (.builtin "len")){a b:List Nat}(ha:a.length<=1000)(hb:b.length<=1000)(hI:(I,.list [.raw (.ref star),tx a,tx b,.raw (.ref star)])∈σ.zone)
  (hP:P (tx (zdK a b)) σ):CL g A F (.ref f) [.raw (.ref I),.raw (.ref star)] σ P:=by
 obtain ⟨c,pm,hfa⟩:=hf.at_
 refine za2 (n:=0) (xs:=["inp","STAR"]) hr hfa (by decide) rfl (fun vs hv=>?_) (by rfl) (by rfl) fun L=>?_
 ·revert vs hv;refine zkR ?_;intros;rfl
 ·have hk:z0 (zap (mkF 23 "_join_translated_parts" c pm) L f):=zaj rfl
  have hr':=hr.deeper (env:=callEnv (mkF 23 "_join_translated_parts" c pm) L f)
  refine zb ?_
  refine zd hk ?_
  refine zao ?_
  refine zf ⟨by simp,fun D=>?_⟩
  refine zb ?_
  refine zd hk ?_
  refine zc2 ?_
  refine za hk (by rfl) ?_
  refine ⟨D,_,rfl,.head _,fun m=>?_⟩
  refine zb ?_
  refine z4 (names:=["i","n"]) (Rm.le hr' (by decide)) ?_
  refine zcQ ?_
  refine zc ?_
  refine zx ?_
  refine zc ?_
  refine zh ?_
  refine zg hk hlen ?_
  refine ⟨_,rfl,rfl,?_⟩
  refine zc ?_
  refine za hk (by rfl) ?_
  refine zf ?_
  refine znn (.tail _ (.tail _ hI)) (Nat.le_of_ble_eq_true rfl) ?_
  refine zf ?_
  repeat walk_at "st"
  refine ⟨_,rfl,rfl,?_⟩
  repeat walk_at "asg"
  refine zaS (σ':=⟨jB star I D m 0,(m,.obj (z9 D))::(D,.list [])::σ.zone⟩) (Sub.weak' (by walk_at "sub") rfl) ?_
  refine zb ?_
  refine zax (fun n σ'=>σ'=⟨jB star I D m 0,(m,.obj (z9 D))::(D,.list [])::σ.zone⟩) 0 rfl ?_
  intro I Q back out;rintro _ _ rfl
  refine zaz ?_
  refine zn ?_
  refine ze ?_
  refine za hk (by rfl) ?_
  refine za hk (by rfl) ?_
  refine zbK ?_
  refine zk ?_
  show TRs _ _ _ _ _ _ _
  refine zn ?_
  refine ze ?_
  refine zj ?_
  refine za hk (by rfl) ?_
  refine za hk (by rfl) ?_
  refine zgm (tx []) (.tail _ (.tail _ hI)) (by decide) (of_decide_eq_true rfl) (Nat.le_of_ble_eq_true rfl) ?_
  refine za hk (by rfl) ?_
  refine zcZ ?_
  refine zk ?_
  show EXs _ _ _ _ _ _
  refine zi ?_
  refine zb ?_
  refine zhF 3 ?_
  refine ze ?_
  refine za hk (by rfl) ?_
  refine za hk (by rfl) ?_
  refine zbK ?_
  refine zk ?_
  show EXs _ _ _ _ _ _
  refine zb ?_
  refine zbZ ?_
  refine ze ?_
  refine zj ?_
  refine za hk (by rfl) ?_
  refine za hk (by rfl) ?_
  refine zgm (tx []) (.tail _ (.tail _ hI)) (by decide) (of_decide_eq_true rfl) (Nat.le_of_ble_eq_true rfl) ?_
  refine za hk (by rfl) ?_
  refine zfy ?_
  refine zk ?_
  refine ⟨rfl,?_⟩
  refine zb ?_
  refine zaN hk (by rfl) ?_
  refine zx ?_
  refine zhq ?_
  refine zb ?_
  refine zaA ?_
  refine ze ?_
  refine za hk (by rfl) ?_
  refine za hk (by rfl) ?_
  refine zcm ?_
  refine zk ?_
  show EXs _ _ _ _ _ _
  refine zi ?_
  refine zb ?_
  refine zbZ ?_
  refine ze ?_
  refine zj ?_
  refine za hk (by rfl) ?_
  refine za hk (by rfl) ?_
  refine zgm (tx []) (.tail _ (.tail _ hI)) (by decide) (of_decide_eq_true rfl) (Nat.le_of_ble_eq_true rfl) ?_
  refine za hk (by rfl) ?_
  refine zb7 ?_
  refine zk ?_
  refine ⟨rfl,?_⟩
  refine zb ?_
  refine zd hk ?_
  refine zao ?_
  refine zf ⟨by simp,fun Fx=>?_⟩
  refine zb ?_
  refine zhF 3 ?_
  refine zaz ?_
  refine zn ?_
  refine ze ?_
  refine za hk (by rfl) ?_
  refine za hk (by rfl) ?_
  refine zbK ?_
  refine zk ?_
  show TRs _ _ _ _ _ _ _
  refine zn ?_
  refine ze ?_
  refine zj ?_
  refine za hk (by rfl) ?_
  refine za hk (by rfl) ?_
  refine zgm (tx []) (.tail _ (.tail _ (.tail _ hI))) (by decide) (of_decide_eq_true rfl) (Nat.le_of_ble_eq_true rfl) ?_
  refine za hk (by rfl) ?_
  refine zb7 ?_
  refine zk ?_
  show TRs _ _ _ _ _ _ _
  refine zbG ?_
  show EXs _ _ _ _ _ _
  refine zb ?_
  refine zab ?_
  refine zai ?_
  refine za hk (by rfl) ?_
  refine ⟨Fx,_,rfl,.head _,?_⟩
  refine zj ?_
  refine za hk (by rfl) ?_
  refine za hk (by rfl) ?_
  refine zgm (tx []) (.tail _ (.tail _ (.tail _ hI))) (by decide) (of_decide_eq_true rfl) (Nat.le_of_ble_eq_true rfl) ?_
  refine ⟨_,_,.head,by simp,?_⟩
  refine ⟨trivial,?_⟩
  refine zb ?_
  refine zaN hk (by rfl) ?_
  refine zx ?_
  refine zhq ?_
  refine zi ?_
  refine zaz ?_
  refine zn ?_
  refine ze ?_
  refine za hk (by rfl) ?_
  refine za hk (by rfl) ?_
  refine zbK ?_
  refine zk ?_
  show TRs _ _ _ _ _ _ _
  refine zn ?_
  refine ze ?_
  refine zj ?_
  refine za hk (by rfl) ?_
  refine za hk (by rfl) ?_
  refine zgm (tx []) (.tail _ (.tail _ (.tail _ hI))) (by decide) (of_decide_eq_true rfl) (Nat.le_of_ble_eq_true rfl) ?_
  refine za hk (by rfl) ?_
  refine zb7 ?_
  refine zk ?_
  show TRs _ _ _ _ _ _ _
  refine zbG ?_
  show EXs _ _ _ _ _ _
  refine zb ?_
  refine zab ?_
  refine zai ?_
  refine za hk (by rfl) ?_
  refine ⟨Fx,_,rfl,.head _,?_⟩
  refine zj ?_
  refine za hk (by rfl) ?_
  refine za hk (by rfl) ?_
  refine zgm (tx []) (.tail _ (.tail _ (.tail _ hI))) (by decide) (of_decide_eq_true rfl) (Nat.le_of_ble_eq_true rfl) ?_
  refine ⟨_,_,.head,by simp,?_⟩
  refine ⟨trivial,?_⟩
  refine zb ?_
  refine zaN hk (by rfl) ?_
  refine zx ?_
  refine zhq ?_
  refine zi ?_
  refine zaz ?_
  refine zn ?_
  refine ze ?_
  refine za hk (by rfl) ?_
  refine za hk (by rfl) ?_
  refine zbK ?_
  refine zk ?_
  show TRs _ _ _ _ _ _ _
  refine zn ?_
  refine ze ?_
  refine zj ?_
  refine za hk (by rfl) ?_
  refine za hk (by rfl) ?_
  refine zgm (tx []) (.tail _ (.tail _ (.tail _ hI))) (by decide) (of_decide_eq_true rfl) (Nat.le_of_ble_eq_true rfl) ?_
  refine za hk (by rfl) ?_
  refine zcZ ?_
  refine zk ?_
  show EXs _ _ _ _ _ _
  refine zi ?_
  refine zb ?_
  refine zd hk ?_
  refine zau ?_
  refine zt _ ?_ (by walk_at "lit")
  refine ⟨_,zcx,?_⟩
  refine zc ?_
  refine za hk (by rfl) ?_
  refine zf ?_
  refine zfs (ls:=[a,b]) (.head _) (by unfold zaT;simp -iota;lia) ?_
  have hab:(a++b).length<=2000:=zmR ha hb
  have ej:zaq [] [a,b]=a++b:=by simp -iota [zaq]
  rw [ej]
  refine zb ?_
  refine zaA ?_
  refine ze ?_
  refine za hk (by rfl) ?_
  refine za hk (by rfl) ?_
  refine zcm ?_
  refine zk ?_
  show EXs _ _ _ _ _ _
  refine zb ?_
  refine zab ?_
  refine za4 ?_
  refine za hk (by rfl) ?_
  refine ⟨m,D,rfl,?_⟩
  refine zc ?_
  refine zfT ?_
  refine zcb ?_
  refine zt _ ?_ zsG
  refine ⟨_,rfl,by simp,?_⟩
  refine zcb ?_
  refine zcB ?_
  refine za hk (by rfl) ?_
  refine ⟨_,rfl,leT hab rfl,?_⟩
  refine ⟨_,rfl,leA (Nat.le_refl _) hab rfl,?_⟩
  refine zcb ?_
  refine zt _ ?_ zsQ
  refine ⟨_,rfl,leA (zmR (Nat.le_refl _) hab) (Nat.le_refl _) rfl,?_⟩
  refine zls (leT (zmR (zmR (Nat.le_refl _) hab) (Nat.le_refl _)) rfl) ?_
  refine zf ?_
  refine ⟨.tail _ (.head _),zcO (.tail _ (.head _)) (.tail (.tail .head)) (Nat.le_of_ble_eq_true rfl) ?_⟩
  refine ⟨trivial,?_⟩
  refine zi ?_
  refine zi ?_
  refine ze ?_
  refine za hk (by rfl) ?_
  refine za hk (by rfl) ?_
  refine zbK ?_
  refine zk ?_
  show EXs _ _ _ _ _ _
  refine zb ?_
  refine zbZ ?_
  refine ze ?_
  refine zj ?_
  refine za hk (by rfl) ?_
  refine za hk (by rfl) ?_
  refine zgm (tx []) (.tail _ (.tail _ (.tail _ hI))) (by decide) (of_decide_eq_true rfl) (Nat.le_of_ble_eq_true rfl) ?_
  refine za hk (by rfl) ?_
  refine zfy ?_
  refine zk ?_
  refine ⟨rfl,?_⟩
  refine zb ?_
  refine zaN hk (by rfl) ?_
  refine zx ?_
  refine zhq ?_
  refine zb ?_
  refine zaA ?_
  refine ze ?_
  refine za hk (by rfl) ?_
  refine za hk (by rfl) ?_
  refine zcm ?_
  refine zk ?_
  show EXs _ _ _ _ _ _
  refine zb ?_
  refine zab ?_
  refine za4 ?_
  refine za hk (by rfl) ?_
  refine ⟨m,D,rfl,?_⟩
  refine zc ?_
  refine zt _ ?_ ztq
  refine zf ?_
  refine ⟨.tail _ (.head _),zcO (.tail _ (.head _)) (.tail (.tail .head)) (Nat.le_of_ble_eq_true rfl) ?_⟩
  refine ⟨trivial,?_⟩
  refine zb ?_
  refine zeS ?_
  refine zb ?_
  refine zbZ ?_
  refine ze ?_
  refine za hk (by rfl) ?_
  refine za hk (by rfl) ?_
  refine zcm ?_
  refine zk ?_
  refine ⟨rfl,?_⟩
  refine zb ?_
  refine zd hk ?_
  refine zau ?_
  refine zt _ ?_ (by walk_at "lit")
  refine ⟨_,zcx,?_⟩
  refine zc ?_
  refine za hk (by rfl) ?_
  refine zf ?_
  refine zfs (ls:=[[]++[40,63,62,46,42,63]++(a++b)++[41],[46,42]]) (.tail _ (.tail _ (.head _))) (by unfold zaT;simp -iota;lia) ?_
  have h9:([40,63,62,46,42,63]++(a++b)++[41]++[46,42]).length<=2009:=leT (zmR (zmR (zmR (Nat.le_refl _) hab) (Nat.le_refl _)) (Nat.le_refl _)) rfl
  have ej2:zaq [] [[]++[40,63,62,46,42,63]++(a++b)++[41],[46,42]]=[40,63,62,46,42,63]++(a++b)++[41]++[46,42]:=by simp -iota [zaq]
  rw [ej2]
  refine zb ?_
  refine zan ?_
  refine zfT ?_
  refine zcb ?_
  refine zt _ ?_ zr3
  refine ⟨_,rfl,by simp,?_⟩
  refine zcb ?_
  refine zcB ?_
  refine za hk (by rfl) ?_
  refine ⟨_,rfl,leT h9 rfl,?_⟩
  refine ⟨_,rfl,leA (Nat.le_refl _) h9 rfl,?_⟩
  refine zcb ?_
  refine zt _ ?_ zsL
  refine ⟨_,rfl,leA (zmR (Nat.le_refl _) h9) (Nat.le_refl _) rfl,?_⟩
  refine zls (leT (zmR (zmR (Nat.le_refl _) h9) (Nat.le_refl _)) rfl) ?_
  exact zcp.mk [_,_,_] rfl hP
theorem zf9 {f ft fj fe d pat2:Addr}(hr:Rm A 3)(hf:Fn g 17 "translate" f)(ht:zrX g ft fe d pat2)(hj:Fn g 23 "_join_translated_parts" fj)(hobj:g.Blt "object" (.type "object")){pat a b:List Nat}(hp:pat.length<=1000)(htr:zn7 pat (pat.length+1) 0 []=some [none,some a,some b,none])(ha:a.length<=1000)(hb:b.length<=1000)
  (hP:P (tx (zdK a b)) σ):CL g A F (.ref f) [tx pat] σ P:=by
 obtain ⟨c,pm,hfa⟩:=hf.at_
 obtain ⟨c2,pm2,hfa2,-⟩:=ht.at_
 obtain ⟨c3,pm3,hfa3⟩:=hj.at_
 refine za2 (n:=2) (xs:=["pat"]) hr hfa (by decide) rfl (fun vs hv=>?_) (by rfl) (by rfl) fun L=>?_
 ·revert vs hv;refine zcV ?_;intros;rfl
 ·have hk:z0 (zap (mkF 17 "translate" c pm) L f):=zaj rfl
  have hr':=hr.deeper (env:=callEnv (mkF 17 "translate" c pm) L f)
  refine zb ?_
  refine zd hk ?_
  refine zh ?_
  refine zg hk hobj ?_
  refine ⟨_,rfl,rfl,?_⟩
  refine zf ?_
  refine zmd fun star=>?_
  refine zb ?_
  refine zd hk ?_
  refine zw hfa2 ?_
  refine zl hk ht.glob ?_
  refine ⟨rfl,?_⟩
  refine zc ?_
  refine za hk (by rfl) ?_
  refine zc ?_
  refine za hk (by rfl) ?_
  refine zc ?_
  refine zt _ ?_ zsu
  refine zf ?_
  refine zoL (star:=star) hr' ht hp htr (.head _) fun I=>?_
  refine zb ?_
  refine zan ?_
  refine zw hfa3 ?_
  refine zl hk hj.glob ?_
  refine ⟨rfl,?_⟩
  refine zc ?_
  refine za hk (by rfl) ?_
  refine zc ?_
  refine za hk (by rfl) ?_
  refine zf ?_
  refine zmB (Rm.le hr' (by decide)) hj ht.len ha hb (.head _) ?_
  exact zcp.mk [_,_] rfl hP
end
section
noncomputable def zf0 (V s k:Nat):List Nat:=(List.range k).map fun j=>V/2 ^ (s+6*(k - 1 - j))%64
theorem zkG {V b s k:Nat}(hb:b < 256):zf0 (V*256+b) (s+8) k=zf0 V s k:=by
 unfold zf0
 refine List.map_congr_left fun j _=>?_
 rw [show s+8+6*(k - 1 - j)=8+(s+6*(k - 1 - j)) by lia,Nat.pow_add,<- Nat.div_div_eq_div_mul,show (V*256+b)/2 ^ 8=V by lia]
theorem zdF {V s k:Nat}:zf0 V s (k+1)=zf0 V (s+6) k++[V/2 ^ s%64]:=by
 unfold zf0
 rw [List.range_succ,List.map_append]
 congr 1
 ·refine List.map_congr_left fun j hj=>?_
  have:=List.mem_range.mp hj
  rw [show s+6*(k+1 - 1 - j)=s+6+6*(k - 1 - j) by lia]
 ·simp
theorem zkt {V m s k:Nat}:zf0 (V*2 ^ m) (s+m) k=zf0 V s k:=by
 unfold zf0
 refine List.map_congr_left fun j _=>?_
 rw [show s+m+6*(k - 1 - j)=m+(s+6*(k - 1 - j)) by lia,Nat.pow_add,<- Nat.div_div_eq_div_mul,Nat.mul_div_cancel _ (Nat.pow_pos (by decide))]
theorem zkv {V a:Nat}(h:a<=10):V%65536/2 ^ a%64=V/2 ^ a%64:=by
 have h1:V=65536*(V/65536)+V%65536:=(Nat.div_add_mod V 65536).symm
 have h2:65536=2 ^ a*(64*2 ^ (10 - a)):=by
  rw [show (64:Nat)=2 ^ 6 from rfl,<- Nat.pow_add,<- Nat.pow_add,show a+(6+(10 - a))=16 by lia]
 have h3:V/2 ^ a=64*2 ^ (10 - a)*(V/65536)+V%65536/2 ^ a:=by
  rw [h2] at h1 ⊢
  conv=>lhs;rw [h1]
  rw [Nat.mul_assoc,Nat.mul_add_div (Nat.pow_pos (by decide))]
 rw [h3,Nat.mul_assoc,Nat.mul_add_mod]
theorem zuo (n:Nat):∃ q r,r < 3/\n=3*q+r:=⟨n/3,n%3,Nat.mod_lt _ (by decide),(Nat.div_add_mod n 3).symm⟩
theorem znT (q r:Nat):zaZ (3*q+r)=zaZ r:=by
 unfold zaZ
 rw [Int.fmod_eq_emod_of_nonneg _ (by decide),Int.fmod_eq_emod_of_nonneg _ (by decide),show (-8*((3*q+r:Nat):Int)) = -8*(r:Int)+6*(-4*(q:Int)) by omega,Int.add_mul_emod_self_left]
theorem zrS (q r:Nat):zjr (3*q+r)=zjr r:=by
 unfold zjr
 rw [Int.fmod_eq_emod_of_nonneg _ (by decide),Int.fmod_eq_emod_of_nonneg _ (by decide),show (-((3*q+r:Nat):Int)) = -(r:Int)+3*(-(q:Int)) by omega,Int.add_mul_emod_self_left]
theorem zqt (q r:Nat):(8*(3*q+r)+5)/6=4*q+(8*r+5)/6:=by
 rw [show 8*(3*q+r)+5=6*(4*q)+(8*r+5) by omega]
 exact Nat.mul_add_div (by decide) _ _
theorem lo4 (V:Nat):V%65536%4*16=V*2 ^ 4/2 ^ 0%64:=by
 rw [Nat.mod_mod_of_dvd V (by decide:4 ∣ 65536),show (2:Nat) ^ 0=1 from rfl,Nat.div_one]
 exact (Nat.mul_mod_mul_right 16 V 4).symm
theorem lo2 (V:Nat):V%65536%16*4=V*2 ^ 2/2 ^ 0%64:=by
 rw [Nat.mod_mod_of_dvd V (by decide:16 ∣ 65536),show (2:Nat) ^ 0=1 from rfl,Nat.div_one]
 exact (Nat.mul_mod_mul_right 4 V 16).symm
inductive znv (l:List Nat)(st:BSt):Prop
 | mk (q r:Nat) (hr:r < 3) (ln:l.length=3*q+r) (lb:st.2.1=2*r) (out:st.1=(zf0 (zav l) (2*r) (4*q+r)).map zb1) (lc:st.2.2=zav l%65536)
theorem zcG (l:List Nat)(b:Nat):zav (l++[b])=zav l*256+b:=by
 unfold zav;rw [List.foldl_append];rfl
theorem zsZ {V lb k:Nat}(h:lb<=4){out:List Nat}(ho:out=(zf0 V (lb+8) k).map zb1):zg3 (V%65536) 2 (lb+8) out=zg3 (V%65536) 1 (lb+2) ((zf0 V (lb+2) (k+1)).map zb1):=by
 show (if 6<=lb+8 then zg3 (V%65536) 1 (lb+8 - 6) (out++[zb1 (V%65536/2 ^ (lb+8 - 6)%64)]) else _)=_
 rw [if_pos (Nat.le_trans (by decide) (Nat.le_add_left 8 lb)),show lb+8 - 6=lb+2 from rfl,zkv (Nat.le_trans (Nat.add_le_add_right h 2) (by decide)),zdF,List.map_append,ho];rfl
theorem znv.step {l:List Nat}{st:BSt}(h:znv l st){b:Nat}(hb:b < 256):znv (l++[b]) (zaJ st b):=by
 obtain ⟨out,lb,lc⟩:=st
 obtain ⟨q,r,hr,h0,h1,h2,h3⟩:=h
 dsimp only at h1 h2 h3
 have hlen:(l++[b]).length=l.length+1:=List.length_append
 have hc:(lc*256+b)%65536=zav (l++[b])%65536:=by
  rw [zcG,h3,Nat.add_mod,Nat.mul_mod,Nat.mod_mod,<- Nat.mul_mod,<- Nat.add_mod]
 have ho:out=(zf0 (zav (l++[b])) (2*r+8) (4*q+r)).map zb1:=by rw [h2,zcG,zkG hb]
 unfold zaJ
 dsimp only
 rw [hc,h1]
 generalize hV:zav (l++[b])=V at *
 rw [zsZ (show 2*r<=4 from Nat.mul_le_mul_left 2 (Nat.le_of_lt_succ hr)) ho]
 match r,hr with
 | 0,_=>exact ⟨q,1,by decide,by rw [hlen,h0],rfl,by rw [zfd (by decide),hV],by rw [hV]⟩
 | 1,_=>exact ⟨q,2,by decide,by rw [hlen,h0],rfl,by rw [zfd (by decide),hV],by rw [hV]⟩
 | 2,_ =>
  have e2:zg3 (V%65536) 1 (4+2) ((zf0 V (4+2) (4*q+2+1)).map zb1)=((zf0 V 0 (4*q+2+2)).map zb1,0):=by
   show (if 6<=6 then zg3 (V%65536) 0 (6 - 6) (_++[zb1 (V%65536/2 ^ (6 - 6)%64)]) else _)=_
   rw [if_pos (Nat.le_refl 6),zkv (Nat.zero_le 10),zdF (V:=V) (s:=0) (k:=4*q+2+1),List.map_append];rfl
  show znv _ ((zg3 (V%65536) 1 (4+2) ((zf0 V (4+2) (4*q+2+1)).map zb1)).1,(zg3 (V%65536) 1 (4+2) ((zf0 V (4+2) (4*q+2+1)).map zb1)).2,V%65536)
  rw [e2]
  exact ⟨q+1,0,by decide,by rw [hlen,h0];rfl,rfl,by rw [hV];rfl,by rw [hV]⟩
theorem znv.all:∀ (l done:List Nat) (st:BSt),(∀ n∈l,n < 256)->znv done st->znv (done++l) (l.foldl zaJ st)
 | [],done,st,_,h=>by rw [List.append_nil];exact h
 | b::l,done,st,hl,h=>by
  have:=znv.all l (done++[b]) (zaJ st b) (fun n hn=>hl n (List.mem_cons_of_mem _ hn)) (h.step (hl b List.mem_cons_self))
  rw [List.append_assoc] at this
  exact this
theorem zm4 {l:List Nat}(hl:∀ n∈l,n < 256):b2a l=(zf0 (zav l*2 ^ zaZ l.length) 0 ((8*l.length+5)/6)).map zb1++List.replicate (zjr l.length) 61:=by
 have h:=znv.all l [] ([],0,0) hl ⟨0,0,by decide,rfl,rfl,rfl,rfl⟩
 rw [List.nil_append] at h
 unfold b2a zdI
 generalize l.foldl zaJ ([],0,0)=st at h ⊢
 obtain ⟨out,lb,lc⟩:=st
 obtain ⟨q,r,hr,h0,h1,h2,h3⟩:=h
 dsimp only at h1 h2 h3 ⊢
 generalize zav l=V at *
 rw [h0,znT,zrS,zqt,h1,h3]
 match r,hr with
 | 0,_ =>
  show out++[]=(zf0 (V*2 ^ 0) 0 (4*q)).map zb1++[]
  rw [List.append_nil,List.append_nil,Nat.pow_zero,Nat.mul_one]
  exact h2
 | 1,_ =>
  show out++[zb1 (V%65536%4*16),61,61]=(zf0 (V*2 ^ 4) 0 (4*q+1+1)).map zb1++[61,61]
  rw [zdF,List.map_append,List.append_assoc,show 0+6=2+4 from rfl,zkt,lo4]
  rw [show out=_ from h2]
  rfl
 | 2,_ =>
  show out++[zb1 (V%65536%16*4),61]=(zf0 (V*2 ^ 2) 0 (4*q+2+1)).map zb1++[61]
  rw [zdF,List.map_append,List.append_assoc,show 0+6=4+2 from rfl,zkt,lo2]
  rw [show out=_ from h2]
  rfl
theorem zmD {a b i:Nat}(h:i < 64):zkV a b (zb1 i)=(zaG++[a,b]).getD i 0:=by
 have key:∀ j:Fin 62,zb1 j.1≠47/\zb1 j.1≠43/\zb1 j.1=zaG.getD j.1 0:=by decide +kernel
 by_cases h1:i < 62
 ·obtain ⟨k1,k2,k3⟩:=key ⟨i,h1⟩
  dsimp only at k1 k2 k3
  unfold zkV
  rw [if_neg k1,if_neg k2,k3]
  rw [List.getD_eq_getElem?_getD,List.getD_eq_getElem?_getD,List.getElem?_append_left (by rw [zim];exact h1)]
 ·by_cases h2:i=62
  ·subst h2;rfl
  ·have:i=63:=by lia
   subst this;rfl
theorem zjF {l:List Nat}(hl:∀ n∈l,n < 256){a b:Nat}:(b2a l).map (zkV a b)=writing l [a,b]:=by
 rw [zm4 hl]
 unfold writing
 rw [List.map_append,List.map_replicate,List.map_map]
 have e61:zkV a b 61=61:=rfl
 rw [e61]
 congr 1
 unfold zas zf0
 rw [<- List.map_reverse,List.map_map,List.map_map]
 have hrev:∀ n:Nat,(List.range n).reverse=(List.range n).map fun j=>n - 1 - j:=by
  intro n
  apply List.ext_getElem
  ·simp
  ·intro i h1 h2
   simp
 rw [hrev,List.map_map]
 refine List.map_congr_left fun j hj=>?_
 have:=List.mem_range.mp hj
 simp only [Function.comp]
 rw [zmD (Nat.mod_lt _ (by decide)),Nat.zero_add,Nat.pow_mul]
end
section
namespace Rx
theorem zi4 {l r:List Nat}{c:Nat}:(l++c::r).toArray.getD l.length 0=c:=by
 simp [Array.getD]
theorem zhW {pre r:List Nat}(hr:∀ c∈r.head?,isWs c=false):∀ (g:List Nat) (pre:List Nat) (n:Nat),(∀ c∈g,isWs c=true)->g.length<=n->n<=g.length+r.length->zcW (pre++(g++r)).toArray n pre.length=g.length
 | [],pre,n,_,_,hn=>by
  cases n with
  | zero=>rfl
  | succ n =>
   cases r with
   | nil=>simp at hn
   | cons c r =>
    rw [zfg]
    rw [List.nil_append,zi4,hr c (by simp)]
    rfl
 | c::g,pre,n,hg,h1,h2=>by
  cases n with
  | zero=>simp at h1
  | succ n =>
   rw [zfg]
   rw [List.cons_append,zi4,hg c List.mem_cons_self,if_pos rfl]
   have:=zhW (pre:=pre) hr g (pre++[c]) n (fun x hx=>hg x (List.mem_cons_of_mem _ hx)) (by simpa using h1) (by simp at h2 ⊢;lia)
   rw [show pre++c::(g++r)=(pre++[c])++(g++r) by simp,show pre.length+1=(pre++[c]).length by simp,this]
   simp
theorem zdr {lim:Nat}:∀ (t pre r:List Nat) (d:Nat),(∀ c∈t,isWs c=false)->lim=(pre++(t++r)).length->nextWs (pre++(t++r)).toArray lim (t.length+d) pre.length=nextWs (pre++(t++r)).toArray lim d (pre.length+t.length)
 | [],pre,r,d,_,_=>by simp
 | c::t,pre,r,d,ht,hl=>by
  have e0:zcW (pre++(c::t++r)).toArray (lim - pre.length) pre.length=0:=by
   rw [show lim - pre.length=(t.length+r.length)+1 by rw [hl,List.length_append,List.length_append,List.length_cons];lia]
   rw [zfg]
   rw [List.cons_append,zi4,ht c List.mem_cons_self]
   rfl
  rw [show (c::t).length+d=(t.length+d)+1 by simp;lia]
  have ih:=zdr (lim:=lim) t (pre++[c]) r d (fun x hx=>ht x (List.mem_cons_of_mem _ hx)) (by rw [hl];simp)
  rw [show (pre++[c])++(t++r)=pre++(c::t++r) by simp] at ih
  conv=>lhs;rw [zeR]
  rw [e0]
  simp only [List.length_append,List.length_cons,List.length_nil] at ih ⊢
  rw [ih]
  congr 1
  lia
theorem zft {a b c:List Nat}:piece (a++(b++c)).toArray a.length (a.length+b.length)=b:=by
 unfold piece
 simp
noncomputable def flatP:List (List Nat × List Nat)->List Nat
 | []=>[]
 | p::r=>p.1++(p.2++flatP r)
noncomputable def listP:List (List Nat × List Nat)->List (List Nat)
 | []=>[]
 | p::r=>p.1::p.2::listP r
structure PairsOk (ps:List (List Nat × List Nat)):Prop where
 ws:∀ p∈ps,∀ c∈p.1,isWs c=true
 tx:∀ p∈ps,∀ c∈p.2,isWs c=false
 n1:∀ p∈ps,p.1≠[]
 n2:∀ p∈ps,p.2≠[]
theorem PairsOk.tl {p:List Nat × List Nat}{ps:List (List Nat × List Nat)}(h:PairsOk (p::ps)):PairsOk ps :=
 ⟨fun q hq=>h.ws q (List.mem_cons_of_mem _ hq),fun q hq=>h.tx q (List.mem_cons_of_mem _ hq),fun q hq=>h.n1 q (List.mem_cons_of_mem _ hq),fun q hq=>h.n2 q (List.mem_cons_of_mem _ hq)⟩
theorem splitGo_words:∀ (ps:List (List Nat × List Nat)) (t pre:List Nat) (f:Nat),PairsOk ps->(∀ c∈t,isWs c=false)->ps.length<=f->splitGo (pre++(t++flatP ps)).toArray f pre.length=t::listP ps
 | [],t,pre,f,_,ht,_=>by
  have hp:piece (pre++(t++flatP [])).toArray pre.length (pre++(t++flatP [])).toArray.size=t:=by
   have:=zft (a:=pre) (b:=t) (c:=[])
   rw [show (pre++(t++flatP [])).toArray.size=pre.length+t.length by simp -iota [flatP]]
   exact this
  cases f with
  | zero=>show [_]=_;rw [hp];rfl
  | succ f =>
   have hn:=zdr (lim:=(pre++(t++flatP [])).length) t pre [] 0 ht rfl
   rw [splitGo_s]
   rw [show (pre++(t++flatP [])).toArray.size - pre.length=t.length+0 by simp -iota [flatP]]
   have hn':nextWs (pre++(t++flatP [])).toArray (pre++(t++flatP [])).toArray.size (t.length+0) pre.length=none:=by
    rw [show (pre++(t++flatP [])).toArray.size=(pre++(t++flatP [])).length from List.size_toArray]
    exact hn
   rw [hn']
   show [_]=_
   rw [hp];rfl
 | p::ps,t,pre,f,hp,ht,hf=>by
  obtain ⟨g,u⟩:=p
  cases f with
  | zero=>simp -iota at hf
  | succ f =>
   have hu:∀ c∈u,isWs c=false:=hp.tx _ List.mem_cons_self
   have hg:∀ c∈g,isWs c=true:=hp.ws _ List.mem_cons_self
   have hun:u≠[]:=hp.n2 _ List.mem_cons_self
   have hgn:g≠[]:=hp.n1 _ List.mem_cons_self
   have ih:=splitGo_words ps u (pre++t++g) f hp.tl hu (by simpa -iota using hf)
   show splitGo (pre++(t++(g++(u++flatP ps)))).toArray (f+1) pre.length=t::g::u::listP ps
   have ea:pre++t++g++(u++flatP ps)=pre++(t++(g++(u++flatP ps))):=by simp -iota
   rw [ea] at ih
   have hsz:(pre++(t++(g++(u++flatP ps)))).toArray.size=(pre++(t++(g++(u++flatP ps)))).length:=List.size_toArray
   have hlen:(pre++(t++(g++(u++flatP ps)))).length=pre.length+t.length+g.length+(u++flatP ps).length:=by
    rw [List.length_append,List.length_append,List.length_append,Nat.add_assoc,Nat.add_assoc]
   have hd:(pre++(t++(g++(u++flatP ps)))).length - (pre.length+t.length)=g.length+(u++flatP ps).length:=by rw [hlen,Nat.add_assoc,Nat.add_sub_cancel_left]
   have hgl:g.length≠0:=fun q=>hgn (List.eq_nil_of_length_eq_zero q)
   have hr:∀ c∈(u++flatP ps).head?,isWs c=false:=by
    cases u with
    | nil=>exact absurd rfl hun
    | cons a b=>intro c hc;simp -iota at hc;subst hc;exact hu a List.mem_cons_self
   have hw:zcW (pre++(t++(g++(u++flatP ps)))).toArray ((pre++(t++(g++(u++flatP ps)))).length - (pre.length+t.length)) (pre.length+t.length)=g.length:=by
    have:=zhW (pre:=[]) hr g (pre++t) ((pre++(t++(g++(u++flatP ps)))).length - (pre.length+t.length)) hg (hd ▸ Nat.le_add_right _ _) (Nat.le_of_eq hd)
    rw [show (pre++t).length=pre.length+t.length from List.length_append,List.append_assoc] at this
    exact this
   have hnext:nextWs (pre++(t++(g++(u++flatP ps)))).toArray (pre++(t++(g++(u++flatP ps)))).length ((pre++(t++(g++(u++flatP ps)))).length - pre.length) pre.length=some (pre.length+t.length,g.length):=by
    have h1:=zdr (lim:=(pre++(t++(g++(u++flatP ps)))).length) t pre (g++(u++flatP ps)) (g.length+(u++flatP ps).length) ht rfl
    rw [show (pre++(t++(g++(u++flatP ps)))).length - pre.length=t.length+(g.length+(u++flatP ps).length) by rw [hlen,Nat.add_assoc,Nat.add_assoc,Nat.add_sub_cancel_left],h1]
    rw [show g.length+(u++flatP ps).length=(g.length - 1+(u++flatP ps).length)+1 by obtain ⟨k,hk⟩:=Nat.exists_eq_succ_of_ne_zero hgl;rw [hk];exact Nat.succ_add _ _]
    rw [zeR]
    rw [hw]
    obtain ⟨k,hk⟩:=Nat.exists_eq_succ_of_ne_zero hgl
    rw [hk]
   rw [splitGo_s]
   rw [hsz,hnext]
   show piece _ pre.length (pre.length+t.length)::piece _ (pre.length+t.length) (pre.length+t.length+g.length)::splitGo _ f (pre.length+t.length+g.length)=_
   have e1:=zft (a:=pre) (b:=t) (c:=g++(u++flatP ps))
   have e2:=zft (a:=pre++t) (b:=g) (c:=u++flatP ps)
   rw [List.length_append,List.append_assoc] at e2
   rw [List.length_append,List.length_append] at ih
   rw [e1,e2,ih]
end Rx
theorem zcN:∀ ps:List (List Nat × List Nat),za3 (Rx.listP ps)=ps
 | []=>rfl
 | p::ps=>by
  show (p.1,p.2)::za3 (Rx.listP ps)=_
  rw [zcN ps]
theorem zhY {ps:List (List Nat × List Nat)}(h:Rx.PairsOk ps):ps.length<=(Rx.flatP ps).length:=by
 induction ps with
 | nil=>exact Nat.le_refl _
 | cons p r ih =>
  have:=ih h.tl
  have h1:p.1.length≠0:=fun q=>h.n1 p List.mem_cons_self (List.eq_nil_of_length_eq_zero q)
  show _<=(p.1++(p.2++Rx.flatP r)).length
  rw [List.length_append,List.length_append,List.length_cons]
  lia
theorem zjJ {p:List Nat × List Nat}{ps:List (List Nat × List Nat)}(h:Rx.PairsOk ps)(hw:∀ c∈p.1,Rx.isWs c=true)(ht:∀ c∈p.2,Rx.isWs c=false)(hn:p.2≠[]):za3 (zaD (Rx.flatP (p::ps)))=p::ps:=by
 obtain ⟨g,u⟩:=p
 unfold zaD Rx.splitL
 cases g with
 | nil =>
  have e:=Rx.splitGo_words ps u [] (Rx.flatP (([],u)::ps)).length h ht (by
   have:=zhY h
   show _<=([]++(u++Rx.flatP ps)).length
   rw [List.nil_append,List.length_append];lia)
  rw [show ([]:List Nat)++(u++Rx.flatP ps)=Rx.flatP (([],u)::ps) from rfl,show ([]:List Nat).length=0 from rfl] at e
  rw [e]
  have:((u::Rx.listP ps).getD 0 []).isEmpty=false:=by
   cases u with
   | nil=>exact absurd rfl hn
   | cons a b=>rfl
  rw [this]
  show za3 ([]::u::Rx.listP ps)=_
  show ([],u)::za3 (Rx.listP ps)=_
  rw [zcN]
 | cons a b =>
  have ok:Rx.PairsOk ((a::b,u)::ps):=⟨fun q hq=>by
    rcases List.mem_cons.mp hq with r | r
    ·subst r;exact hw
    ·exact h.ws q r,fun q hq=>by
    rcases List.mem_cons.mp hq with r | r
    ·subst r;exact ht
    ·exact h.tx q r,fun q hq=>by
    rcases List.mem_cons.mp hq with r | r
    ·subst r;simp
    ·exact h.n1 q r,fun q hq=>by
    rcases List.mem_cons.mp hq with r | r
    ·subst r;exact hn
    ·exact h.n2 q r⟩
  have e:=Rx.splitGo_words ((a::b,u)::ps) [] [] (Rx.flatP ((a::b,u)::ps)).length ok (fun c hc=>by cases hc) (zhY ok)
  rw [List.nil_append,List.nil_append,show ([]:List Nat).length=0 from rfl] at e
  rw [e]
  show za3 (Rx.listP ((a::b,u)::ps))=_
  rw [zcN]
end
section
noncomputable abbrev w0:z7:=⟨[],[],[]⟩
noncomputable def z7.lst (w:z7):Nat:=w.text.getD (w.text.length - 1) 0
structure WOk (alts:List Nat)(w:z7):Prop where
 gws:∀ c∈w.gap,Rx.isWs c=true
 gl:w.gap.length<=5
 tws:∀ c∈w.text,Rx.isWs c=false
 tnl:10∉w.text
 tlen:w.text.length=(w.octs.length+2)/3*4
 tne:w.text≠[]
 tl2:w.text.length<=50
 last:zby w.octs alts=[w.lst]\/(zby w.octs alts=[]/\w.lst∈zaG)
 sp:Unicode.isSpace w.lst=false
theorem zki {c:Nat}:Rx.isWs c=true↔c=32\/c=9:=by unfold Rx.isWs;simp
theorem zcc {l:List Nat}{i d:Nat}(h:i < l.length):l.getD i d∈l:=by
 rw [List.getD_eq_getElem?_getD,List.getElem?_eq_getElem h];exact List.getElem_mem h
theorem WOk.lst_ws {alts:List Nat}{w:z7}(h:WOk alts w):Rx.isWs w.lst=false:=by
 have:w.text.length≠0:=fun q=>h.tne (List.eq_nil_of_length_eq_zero q)
 exact h.tws _ (zcc (by lia))
theorem WOk.hd_ws {alts:List Nat}{w:z7}(h:WOk alts w)(hg:w.gap≠[]):Rx.isWs (w.gap.getD 0 0)=true:=by
 have:w.gap.length≠0:=fun q=>hg (List.eq_nil_of_length_eq_zero q)
 exact h.gws _ (zcc (by lia))
structure ROk (alts:List Nat)(row:List z7):Prop where
 all:∀ w∈row,WOk alts w
 gap:∀ i,i+1 < row.length->(row.getD (i+1) w0).gap≠[]
theorem ziy {row:List z7}{i:Nat}(h:i < row.length):row.getD i w0∈row:=by
 rw [List.getD_eq_getElem?_getD,List.getElem?_eq_getElem h];exact List.getElem_mem h
noncomputable def zbN (p:Nat->Bool):Nat->Nat
 | 0=>0
 | i+1=>if p i then i+1 else zbN p i
theorem zfz {p:Nat->Bool}{i:Nat}:zbN p (i+1)=if p i then i+1 else zbN p i:=rfl
theorem zdg {p q:Nat->Bool}:∀ {n:Nat},(∀ i,i < n->p i=q i)->zbN p n=zbN q n
 | 0,_=>rfl
 | n+1,h=>by
  rw [zfz,zfz]
  rw [h n (by lia),zdg fun i hi=>h i (by lia)]
theorem zeM {p:Nat->Bool}:∀ n,zbN p n<=n
 | 0=>Nat.le_refl _
 | n+1=>by
  rw [zfz]
  split
  ·exact Nat.le_refl _
  ·exact Nat.le_succ_of_le (zeM n)
theorem zem {p:Nat->Bool}:∀ n:Nat,(match ((List.range n).filter p).getLast? with | some i=>i+1 | none=>0)=zbN p n
 | 0=>rfl
 | n+1=>by
  rw [List.range_succ,List.filter_append]
  rw [zfz]
  cases h:p n with
  | true=>rw [List.filter_cons_of_pos h];simp
  | false=>rw [List.filter_cons_of_neg (by rw [h];decide),List.filter_nil,List.append_nil,zem n,if_neg (by decide)]
noncomputable abbrev zp (w:z7):List Nat × List Nat:=(w.gap,w.text)
theorem ziu {row:List z7}{i:Nat}(h:i < row.length):(row.map zp).getD i ([],[])=zp (row.getD i w0):=by
 rw [List.getD_eq_getElem?_getD,List.getD_eq_getElem?_getD,List.getElem?_map,List.getElem?_eq_getElem h];rfl
theorem zfJ {ls:List (List Nat × List Nat)}{ch:Nat}{p:Nat->Bool}:∀ n,(∀ i,i < n->zck ls ch (i+1)=p i)->zdl ls ch n=if zbN p n=0 then none else some (zbN p n)
 | 0,_=>rfl
 | n+1,h=>by
  rw [zll,zfz]
  rw [h n (by lia),zfJ n fun i hi=>h i (by lia)]
  split
  ·rw [if_neg (by lia)]
  ·rfl
def zsl (c:Nat):Prop:=c=32\/c=9\/(Rx.isWs c=false/\c∉zaG)
theorem zkQ {alts row:_}(h:ROk alts row){c i:Nat}(hc:zsl c)(hi:i+1 < row.length):zck (row.map zp) c (i+1)=zbL row c alts i:=by
 unfold zck zbL
 rw [ziu hi,show i+1 - 1=i by lia,ziu (by lia)]
 have h1:=h.all _ (ziy (show i+1 < row.length from hi))
 have h2:=h.all _ (ziy (show i < row.length by lia))
 have hg:=h.gap i hi
 have hl:=h2.lst_ws
 have hh:=h1.hd_ws hg
 have hlast:=h2.last
 generalize row.getD (i+1) w0=u at *
 generalize row.getD i w0=v at *
 have e1:zob c u.gap=decide (u.gap.getD 0 0=c):=by
  unfold zob
  have:u.gap.isEmpty=false:=by cases q:u.gap with | nil=>exact absurd q hg | cons _ _=>rfl
  rw [this,Bool.not_false,Bool.true_and]
  by_cases q:u.gap.getD 0 0=c
  ·rw [decide_eq_true q,decide_eq_true (by rw [q])]
  ·rw [decide_eq_false q,decide_eq_false (fun e=>q (by simpa using e))]
 have e2:zoJ c v.text=decide (v.lst=c):=by
  unfold zoJ
  have:v.text.isEmpty=false:=by cases q:v.text with | nil=>exact absurd q h2.tne | cons _ _=>rfl
  rw [this,Bool.not_false,Bool.true_and]
  by_cases q:v.lst=c
  ·rw [decide_eq_true q];unfold z7.lst at q;rw [decide_eq_true (by rw [q])]
  ·rw [decide_eq_false q];unfold z7.lst at q;rw [decide_eq_false (fun e=>q (by simpa using e))]
 show (zaO [c] && zob c u.gap || zoJ c v.text)=(decide (u.gap.getD 0 0=c) || decide (zby v.octs alts=[c]))
 rw [e1,e2]
 rcases hc with q | q | ⟨q1,q2⟩
 ·subst q
  have a1:zaO [32]=true:=by decide +kernel
  have a2:v.lst≠32:=fun e=>by rw [e] at hl;exact absurd hl (by decide)
  have a3:zby v.octs alts≠[32]:=by
   rcases hlast with e | ⟨e,_⟩
   ·rw [e];simpa using a2
   ·rw [e];simp
  rw [a1,decide_eq_false a2,decide_eq_false a3,Bool.true_and]
 ·subst q
  have a1:zaO [9]=true:=by decide +kernel
  have a2:v.lst≠9:=fun e=>by rw [e] at hl;exact absurd hl (by decide)
  have a3:zby v.octs alts≠[9]:=by
   rcases hlast with e | ⟨e,_⟩
   ·rw [e];simpa using a2
   ·rw [e];simp
  rw [a1,decide_eq_false a2,decide_eq_false a3,Bool.true_and]
 ·have a1:u.gap.getD 0 0≠c:=fun e=>by rw [e,q1] at hh;cases hh
  rw [decide_eq_false a1,Bool.and_false,Bool.false_or,Bool.false_or]
  rcases hlast with e | ⟨e,e'⟩
  ·rw [e]
   by_cases k:v.lst=c
   ·rw [decide_eq_true k,decide_eq_true (by rw [k])]
   ·rw [decide_eq_false k,decide_eq_false (fun e=>k (by simpa using e))]
  ·rw [(e)]
   have k:v.lst≠c:=fun k=>q2 (k ▸ e')
   rw [decide_eq_false k,decide_eq_false (by simp)]
theorem zbF {row:List z7}{c:Nat}{alts:List Nat}:zaE row c alts=zbN (zbL row c alts) (row.length - 1):=by
 unfold zaE;exact zem _
theorem zjb {alts row:_}(h:ROk alts row){c:Nat}(hc:zsl c):zdl (row.map zp) c ((row.map zp).length - 1)=if zaE row c alts=0 then none else some (zaE row c alts):=by
 rw [zbF,List.length_map]
 exact zfJ _ fun i hi=>zkQ h hc (by lia)
noncomputable def ff (s0 s1:zcE):List Nat->Option Nat
 | a::b::r=>if s0.fits a && s1.fits b then some 0 else (ff s0 s1 (b::r)).map (·+1)
 | _=>none
theorem zuk {s0 s1:zcE}{a b:Nat}{r:List Nat}:ff s0 s1 (a::b::r)=if s0.fits a && s1.fits b then some 0 else (ff s0 s1 (b::r)).map (·+1):=rfl
theorem zp5 {s0 s1:zcE}:∀ l:List Nat,(List.range (l.length - 1)).find? (fun i=>s0.fits (l.getD i 0) && s1.fits (l.getD (i+1) 0))=ff s0 s1 l
 | []=>rfl
 | [_]=>rfl
 | a::b::r=>by
  have ih:=zp5 (s0:=s0) (s1:=s1) (b::r)
  rw [zuk]
  rw [<- ih]
  show (List.range (r.length+1)).find? _=_
  rw [List.range_succ_eq_map,List.find?_cons]
  show (match (s0.fits a && s1.fits b) with | true=>some 0 | false=>_)=_
  cases s0.fits a && s1.fits b with
  | true=>rfl
  | false =>
   rw [List.find?_map]
   rfl
theorem zkr {s0 s1:zcE}{a b:Nat}{r:List Nat}:ff s0 s1 (a::b::r)=if s0.fits a && s1.fits b then some 0 else (ff s0 s1 (b::r)).map (·+1):=rfl
theorem zkF {p:Nat->Bool}{i:Nat}:zbN p (i+1)=if p i then i+1 else zbN p i:=rfl
theorem zmA {s0 s1:zcE}{r:List Nat}:∀ t:List Nat,(∀ c∈t,s0.fits c=false)->ff s0 s1 (t++r)=(ff s0 s1 r).map (·+t.length)
 | [],_=>by simp
 | c::t,h=>by
  have ih:=zmA (s1:=s1) (r:=r) t fun x hx=>h x (List.mem_cons_of_mem _ hx)
  have hc:=h c List.mem_cons_self
  rw [List.cons_append]
  cases hq:t++r with
  | nil =>
   have:r=[]:=(List.append_eq_nil_iff.mp hq).2
   subst this;rfl
  | cons b q =>
   rw [zkr,hc,Bool.false_and,if_neg (by decide),<- hq,ih,Option.map_map]
   congr 1
theorem zoa {s0 s1:zcE}{x:Nat}{r:List Nat}(hx:s1.fits x=false):∀ g:List Nat,(∀ c∈g,s1.fits c=false)->ff s0 s1 (g++x::r)=(ff s0 s1 (x::r)).map (·+g.length)
 | [],_=>by simp
 | c::g,h=>by
  have ih:=zoa (s0:=s0) (r:=r) hx g fun y hy=>h y (List.mem_cons_of_mem _ hy)
  have hb:∃ b q,g++x::r=b::q/\s1.fits b=false:=by
   cases g with
   | nil=>exact ⟨x,r,rfl,hx⟩
   | cons b q=>exact ⟨b,q++x::r,rfl,h b (List.mem_cons_of_mem _ List.mem_cons_self)⟩
  obtain ⟨b,q,hq,hbf⟩:=hb
  rw [List.cons_append,hq]
  rw [zkr,hbf,Bool.and_false,if_neg (by decide),<- hq,ih,Option.map_map]
  congr 1
structure ztp (s0 s1:zcE):Prop where
 a:∀ c,Rx.isWs c=false->s0.fits c=false
 b:∀ c,Rx.isWs c=true->s1.fits c=false
noncomputable def zfK (s0 s1:zcE)(row:List z7)(i:Nat):Bool:=s0.fits ((row.getD (i+1) w0).gap.getD 0 0) && s1.fits (row.getD i w0).lst
theorem zbR (a b:List z7):z6 (a++b)=z6 a++z6 b:=by unfold z6;simp
theorem zbY (w:z7):z6 [w]=w.gap++w.text:=by unfold z6;simp
theorem zid (row:List z7)(w:z7):zag (row++[w])=w.text.reverse++(w.gap.reverse++zag row):=by
 unfold zag;rw [zbR,zbY];simp
theorem zcg {row:List z7}{w:z7}{i:Nat}(h:i < row.length):(row++[w]).getD i w0=row.getD i w0:=by
 rw [List.getD_eq_getElem?_getD,List.getD_eq_getElem?_getD,List.getElem?_append_left h]
theorem zdA {row:List z7}{w:z7}:(row++[w]).getD row.length w0=w:=by
 rw [List.getD_eq_getElem?_getD];simp
theorem ROk.left {alts:List Nat}{a b:List z7}(h:ROk alts (a++b)):ROk alts a :=
 ⟨fun w hw=>h.all w (List.mem_append_left _ hw),fun i hi=>by
  have:=h.gap i (by rw [List.length_append];lia)
  rwa [List.getD_eq_getElem?_getD,List.getElem?_append_left hi,<- List.getD_eq_getElem?_getD] at this⟩
theorem zbT {α:Type}(l:List α):l=[]\/∃ r e,l=r++[e]:=by
 rcases List.eq_nil_or_concat l with h | ⟨r,e,h⟩
 ·exact .inl h
 ·exact .inr ⟨r,e,by rw [h,List.concat_eq_append]⟩
theorem znX {alts:List Nat}{s0 s1:zcE}(hr:ztp s0 s1):∀ (n:Nat) (row:List z7),row.length=n->ROk alts row ->
  match zbN (zfK s0 s1 row) (row.length - 1) with
  | 0=>ff s0 s1 (zag row)=none
  | i+1=>∃ at_,ff s0 s1 (zag row)=some at_/\at_+1+(z6 (row.take (i+1))).length=(z6 row).length
 | 0,row,hn,_=>by
  have:row=[]:=List.eq_nil_of_length_eq_zero hn
  subst this;rfl
 | n+1,row,hn,h=>by
  rcases zbT row with q | ⟨r,w,q⟩
  ·rw [q] at hn;cases hn
  ·subst q
   have hrl:r.length=n:=by simpa using hn
   have hw:=h.all w (by simp)
   have htx:∀ c∈w.text.reverse,s0.fits c=false:=fun c hc=>hr.a c (hw.tws c (List.mem_reverse.mp hc))
   rw [zid,zmA _ htx]
   rcases zbT r with q | ⟨r',v,q⟩
   ·subst q
    show ff s0 s1 (w.gap.reverse++[]) |>.map _ |> (· = none)
    rw [List.append_nil]
    have:ff s0 s1 w.gap.reverse=none:=by
     have hg:∀ c∈w.gap.reverse,s1.fits c=false:=fun c hc=>hr.b c (hw.gws c (List.mem_reverse.mp hc))
     generalize w.gap.reverse=g at hg
     induction g with
     | nil=>rfl
     | cons a g ih =>
      cases g with
      | nil=>rfl
      | cons b g =>
       rw [zuk]
       rw [hg b (List.mem_cons_of_mem _ List.mem_cons_self),Bool.and_false,if_neg (by decide),ih fun c hc=>hg c (List.mem_cons_of_mem _ hc)]
       rfl
    rw [this];rfl
   ·have ih:=znX hr n r hrl h.left
    have hrne:r.length≠0:=by rw [q];simp
    have hgap:w.gap≠[]:=by
     have:=h.gap (r.length - 1) (by simp;omega)
     rw [show r.length - 1+1=r.length by omega,zdA] at this
     exact this
    obtain ⟨x,g,hxg⟩:∃ x g,w.gap=x::g:=by
     cases e:w.gap with
     | nil=>exact absurd e hgap
     | cons x g=>exact ⟨x,g,rfl⟩
    have hgf:∀ c∈g.reverse,s1.fits c=false:=fun c hc=>hr.b c (hw.gws c (by rw [hxg];exact List.mem_cons_of_mem _ (List.mem_reverse.mp hc)))
    have hxf:s1.fits x=false:=hr.b x (hw.gws x (by rw [hxg];exact List.mem_cons_self))
    rw [show w.gap.reverse++zag r=g.reverse++x::zag r by rw [hxg];simp,zoa hxf _ hgf]
    have hv:=h.all v (by rw [q];simp)
    obtain ⟨tl,htl⟩:∃ tl,zag r=v.lst::tl:=by
     rw [q,zid]
     rcases zbT v.text with e | ⟨t',z,e⟩
     ·exact absurd e hv.tne
     ·refine ⟨t'.reverse++(v.gap.reverse++zag r'),?_⟩
      unfold z7.lst
      rw [e]
      simp
    have hlst:r.getD (r.length - 1) w0=v:=by rw [q];simp
    have hstep:ff s0 s1 (x::zag r)=if s0.fits x && s1.fits v.lst then some 0 else (ff s0 s1 (zag r)).map (·+1):=by
     rw [htl];rfl
    have hP:zfK s0 s1 (r++[w]) (r.length - 1)=(s0.fits x && s1.fits v.lst):=by
     unfold zfK
     rw [show r.length - 1+1=r.length by omega,zdA,zcg (by omega),hlst,hxg]
     rfl
    have hlow:zbN (zfK s0 s1 (r++[w])) (r.length - 1)=zbN (zfK s0 s1 r) (r.length - 1):=by
     refine zdg fun i hi=>?_
     unfold zfK
     rw [zcg (by omega),zcg (by omega)]
    have hN:zbN (zfK s0 s1 (r++[w])) ((r++[w]).length - 1)=if (s0.fits x && s1.fits v.lst)=true then r.length else zbN (zfK s0 s1 r) (r.length - 1):=by
     rw [show (r++[w]).length - 1=(r.length - 1)+1 by simp;omega]
     rw [zkF,hP,hlow,show r.length - 1+1=r.length by omega]
    rw [hN,hstep]
    have hll:(z6 (r++[w])).length=(z6 r).length+(1+g.length+w.text.length):=by
     rw [zbR,zbY,hxg];simp;omega
    cases hc:s0.fits x && s1.fits v.lst with
    | true =>
     rw [if_pos rfl,if_pos rfl]
     obtain ⟨k,hk⟩:=Nat.exists_eq_succ_of_ne_zero hrne
     rw [hk]
     refine ⟨_,rfl,?_⟩
     rw [show k+1=r.length from hk.symm,List.take_left,hll]
     simp
     omega
    | false =>
     rw [if_neg (by decide),if_neg (by decide)]
     generalize hL:zbN (zfK s0 s1 r) (r.length - 1)=L at ih ⊢
     have hLle:L<=r.length - 1:=hL ▸ zeM _
     cases L with
     | zero =>
      dsimp only at ih ⊢
      rw [ih];rfl
     | succ i =>
      dsimp only at ih ⊢
      obtain ⟨at_,e1,e2⟩:=ih
      rw [e1]
      refine ⟨_,rfl,?_⟩
      rw [List.take_append_of_le_length (by omega),hll]
      simp
      omega
theorem zgV {alts:List Nat}:∀ (l r:List z7) (k:Nat),(∀ w∈l,WOk alts w)->zbg (l++r) (z6 l).length k=k+l.length
 | [],r,k,_=>by
  cases r with
  | nil=>rfl
  | cons w r=>rfl
 | w::l,r,k,h=>by
  have hw:=h w List.mem_cons_self
  have h1:w.text.length≠0:=fun q=>hw.tne (List.eq_nil_of_length_eq_zero q)
  have ih:=zgV l r (k+1) fun x hx=>h x (List.mem_cons_of_mem _ hx)
  have hl:(z6 (w::l)).length=w.gap.length+w.text.length+(z6 l).length:=by
   rw [show w::l=[w]++l from rfl,zbR,zbY];simp;lia
  rw [List.cons_append]
  rw [zfk]
  rw [if_pos (by rw [hl];lia),show ((z6 (w::l)).length:Int) - ((w.gap.length+w.text.length:Nat):Int)=((z6 l).length:Nat) by rw [hl];lia,ih,List.length_cons]
  lia
theorem zfb {alts:List Nat}{s0 s1:zcE}(hr:ztp s0 s1){row:List z7}(h:ROk alts row):zbf row s0 s1=zbN (zfK s0 s1 row) (row.length - 1):=by
 unfold zbf
 have e:(List.range ((zag row).length - 1)).find? (zfC row s0 s1)=ff s0 s1 (zag row):=zp5 _
 rw [e]
 have:=znX hr row.length row rfl h
 generalize hL:zbN (zfK s0 s1 row) (row.length - 1)=L at this
 have hLle:L<=row.length - 1:=hL ▸ zeM _
 cases L with
 | zero=>dsimp only at this;rw [this]
 | succ i =>
  obtain ⟨at_,e1,e2⟩:=this
  rw [e1]
  have hb:(zag row).length=(z6 row).length:=by unfold zag;simp
  show zbg row _ 0=_
  rw [show ((zag row).length - at_ - 1:Int)=((z6 (row.take (i+1))).length:Nat) by rw [hb];lia]
  have:=zgV (alts:=alts) (row.take (i+1)) (row.drop (i+1)) 0 fun w hw=>h.all w (List.mem_of_mem_take hw)
  rw [List.take_append_drop] at this
  rw [this,List.length_take]
  lia
end
section
structure zbb (alts:List Nat)(r:zbE):Prop where
 sg:zsl r.sign
 rl:ztp r.s0 r.s1
 at_:∀ u v:z7,WOk alts u->WOk alts v->u.gap≠[]->(r.s0.fits (u.gap.getD 0 0) && r.s1.fits v.lst)=(decide (u.gap.getD 0 0=r.sign) || decide (zby v.octs alts=[r.sign]))
theorem ziC {alts:List Nat}{row:List z7}{r:zbE}(h:ROk alts row)(hr:zbb alts r)(turned:Bool):zbl row alts turned r=zaE row r.sign alts:=by
 cases turned with
 | false=>rfl
 | true =>
  show zbf row r.s0 r.s1=_
  rw [zfb hr.rl h,zbF]
  refine zdg fun i hi=>?_
  exact hr.at_ _ _ (h.all _ (ziy (by lia))) (h.all _ (ziy (by lia))) (h.gap i (by lia))
theorem zj3 {alts:List Nat}{row:List z7}(h:ROk alts row)(turned:Bool):∀ rules:List zbE,(∀ r∈rules,zbb alts r) ->
  zgr (row.map zp) (rules.map zbE.sign)=if zaL row rules alts turned=0 then none else some (zaL row rules alts turned)
 | [],_=>rfl
 | r::rs,hr=>by
  have h1:=ziC h (hr r List.mem_cons_self) turned
  have h2:=zjb h (hr r List.mem_cons_self).sg
  have ih:=zj3 h turned rs fun x hx=>hr x (List.mem_cons_of_mem _ hx)
  show (match zdl (row.map zp) r.sign ((row.map zp).length - 1) with | some i=>some i | none=>zgr (row.map zp) (rs.map zbE.sign))=_
  rw [h2]
  have e:zaL row (r::rs) alts turned=if 0 < zaE row r.sign alts then zaE row r.sign alts else zaL row rs alts turned:=by
   unfold zaL
   rw [List.map_cons,List.find?_cons,h1]
   by_cases q:0 < zaE row r.sign alts
   ·rw [decide_eq_true q,if_pos q];rfl
   ·rw [decide_eq_false q,if_neg q]
  rw [e]
  by_cases q:zaE row r.sign alts=0
  ·rw [if_pos q,if_neg (show ¬ 0 < zaE row r.sign alts by lia)];exact ih
  ·rw [if_neg q,if_pos (show 0 < zaE row r.sign alts by lia),if_neg q]
theorem znm {alts:List Nat}{row:List z7}(h:ROk alts row)(turned:Bool){rules:List zbE}(hr:∀ r∈rules,zbb alts r):zaL row rules alts turned<=row.length - 1:=by
 unfold zaL
 cases q:(rules.map (zbl row alts turned)).find? (fun i=>decide (0 < i)) with
 | none=>exact Nat.zero_le _
 | some i =>
  have hm:=List.mem_of_find?_eq_some q
  obtain ⟨r,hr1,e⟩:=List.mem_map.mp hm
  rw [ziC h (hr r hr1),zbF] at e
  show i<=_
  rw [<- e]
  exact zeM _
theorem zcq (row:List z7):zbC (row.map zp)=z6 row:=by
 unfold zbC z6
 rw [List.map_map];rfl
theorem zif {alts:List Nat}(init:Int)(row:List z7)(h:∀ w∈row,WOk alts w):zo init (row.map zp)=init+(zbp row:Nat):=by
 unfold zo zbp
 rw [List.map_map]
 congr 1
 induction row with
 | nil=>rfl
 | cons w r ih =>
  have hw:=(h w List.mem_cons_self).tlen
  have ih:=ih fun x hx=>h x (List.mem_cons_of_mem _ hx)
  simp only [List.map_cons,List.sum_cons,Function.comp] at ih ⊢
  rw [ih]
  unfold z7.size
  rw [<- hw]
  lia
theorem zdY {alts:List Nat}{row:List z7}(h:∀ w∈row,WOk alts w):zbC (zfZ (row.map zp))=z6 row/\(row≠[]->zfZ (row.map zp)=row.map zp)/\zo 0 (zfZ (row.map zp))=zo 0 (row.map zp):=by
 rcases zbT row with q | ⟨r,w,q⟩
 ·subst q;exact ⟨rfl,fun e=>absurd rfl e,rfl⟩
 ·have hw:=h w (by rw [q];simp)
  have e:zfZ (row.map zp)=row.map zp:=by
   rw [q]
   unfold zfZ
   rw [List.map_append,List.map_singleton,List.getLast?_concat]
   dsimp only
   rw [if_neg (by intro e;exact hw.tne (congrArg Prod.snd e))]
  rw [e]
  exact ⟨zcq row,fun _=>rfl,rfl⟩
theorem zdQ (init:Int)(ls:List (List Nat × List Nat)):zo init ls=init+zo 0 ls:=by unfold zo;lia
theorem zfI (ls:List (List Nat × List Nat)):0<=zo 0 ls:=by
 unfold zo
 induction ls with
 | nil=>exact Int.le_refl _
 | cons p r ih=>simp only [List.map_cons,List.sum_cons] at ih ⊢;lia
structure Rel (st:VSt)(rs:zdL):Prop where
 l:st.1=rs.rows.map z6
 i:st.2.1=(rs.head:Nat)
 r:st.2.2=rs.row.map zp
theorem zm3 (w:z7):zp w.fix=(if w.gap=[] then [32] else w.gap,w.text):=by
 unfold z7.fix zp
 cases w.gap <;> rfl
theorem zmV {width:Int}{alts:List Nat}{rules:List zbE}{turned:Bool}(hr:∀ r∈rules,zbb alts r){st:VSt}{rs:zdL}{w:z7}(h:Rel st rs)(ok:ROk alts (rs.row++[w])) :
  Rel (zjy width (rules.map zbE.sign) st w.gap w.text) (zaK width rules alts turned rs w):=by
 obtain ⟨lines,init,ls⟩:=st
 obtain ⟨rows,row,head⟩:=rs
 obtain ⟨h1,h2,h3⟩:=h
 dsimp only at h1 h2 h3 ok
 subst h1;subst h2;subst h3
 have e1:row.map zp++[(w.gap,w.text)]=(row++[w]).map zp:=by rw [List.map_append];rfl
 have e2:zo (head:Int) ((row++[w]).map zp)=((head+zbp (row++[w]):Nat):Int):=by
  rw [zif _ _ ok.all];lia
 have hp:=zj3 ok turned rules hr
 unfold zjy zaK
 dsimp only
 rw [e1,e2,hp]
 by_cases hc:((head+zbp (row++[w]):Nat):Int) > width
 ·rw [if_pos hc,if_pos hc]
  generalize zaL (row++[w]) rules alts turned=i
  by_cases hi:i=0
  ·subst hi
   rw [if_pos rfl,if_neg (show ¬ (0 < 0) by decide)]
   dsimp only
   by_cases hh:0 < head
   ·rw [if_pos (by lia),if_pos hh]
    have hrow:∀ x∈row,WOk alts x:=fun x hx=>ok.all x (List.mem_append_left _ hx)
    have hn:=zdY hrow
    refine ⟨?_,rfl,?_⟩
    ·show zal _ _ _=_
     unfold zal
     rw [if_pos (by rw [zdQ];have:=zfI (zfZ (row.map zp));lia),hn.1,List.dropLast_concat,List.map_append]
     rfl
    ·show [_]=_
     rw [<- zm3];rfl
   ·rw [if_neg (by lia),if_neg hh]
    exact ⟨rfl,rfl,rfl⟩
  ·rw [if_neg hi,if_pos (show 0 < i by lia)]
   refine ⟨?_,rfl,?_⟩
   ·show _++[_]=_
    rw [<- List.map_take,zcq,List.map_append];rfl
   ·show List.drop _ _=_
    rw [<- List.map_drop]
 ·rw [if_neg hc,if_neg hc]
  exact ⟨rfl,rfl,rfl⟩
theorem WOk.fixed {alts:List Nat}{w:z7}(h:WOk alts w):WOk alts w.fix:=by
 refine ⟨?_,?_,h.tws,h.tnl,h.tlen,h.tne,h.tl2,h.last,h.sp⟩
 ·unfold z7.fix
  dsimp only
  split
  ·intro c hc;simp at hc;subst hc;rfl
  ·exact h.gws
 ·unfold z7.fix
  dsimp only
  split
  ·decide
  ·exact h.gl
theorem ROk.drp {alts:List Nat}{row:List z7}(h:ROk alts row)(i:Nat):ROk alts (row.drop i):=by
 refine ⟨fun w hw=>h.all w (List.mem_of_mem_drop hw),fun j hj=>?_⟩
 rw [List.length_drop] at hj
 have:=h.gap (i+j) (by lia)
 rw [List.getD_eq_getElem?_getD] at this ⊢
 rw [List.getElem?_drop,show i+(j+1)=i+j+1 by lia]
 exact this
structure Inv (alts:List Nat)(rs:zdL)(rest:List z7):Prop where
 ok:ROk alts (rs.row++rest)
 rows:∀ r∈rs.rows,r.length<=40/\∀ w∈r,WOk alts w
 len:rs.row.length+rest.length<=40
 many:rs.rows.length+rest.length<=40
 head:rs.head<=1000
theorem Inv.step {width:Int}{alts:List Nat}{rules:List zbE}{turned:Bool}(hr:∀ r∈rules,zbb alts r){rs:zdL}{w:z7}{rest:List z7}(h:Inv alts rs (w::rest)) :
  Inv alts (zaK width rules alts turned rs w) rest/\(zaK width rules alts turned rs w).row≠[]:=by
 obtain ⟨rows,row,head⟩:=rs
 obtain ⟨h1,h2,h3,h4,h5⟩:=h
 dsimp only at h1 h2 h3 h4 h5
 rw [List.length_cons] at h3 h4
 have hok:ROk alts ((row++[w])++rest):=by rw [List.append_assoc];exact h1
 have hok1:ROk alts (row++[w]):=hok.left
 have hpl:=znm hok1 turned hr
 have keep:Inv alts ⟨rows,row++[w],head⟩ rest:=⟨hok,h2,by simp;lia,by dsimp only;lia,h5⟩
 unfold zaK
 dsimp only
 split
 ·generalize zaL (row++[w]) rules alts turned=i at hpl
  rw [List.length_append,List.length_singleton] at hpl
  split
  ·refine ⟨⟨?_,?_,?_,?_,by dsimp only;lia⟩,?_⟩
   ·have:=hok.drp i
    rwa [List.drop_append_of_le_length (by rw [List.length_append,List.length_singleton];lia)] at this
   ·intro r hr'
    rcases List.mem_append.mp hr' with q | q
    ·exact h2 r q
    ·rw [List.mem_singleton] at q;subst q
     exact ⟨by rw [List.length_take,List.length_append,List.length_singleton];lia,fun x hx=>hok1.all x (List.mem_of_mem_take hx)⟩
   ·simp;lia
   ·simp;lia
   ·intro e
    have:=congrArg List.length e
    simp at this
    lia
  ·split
   ·refine ⟨⟨?_,?_,?_,?_,by dsimp only;lia⟩,by simp⟩
    ·have hd:=h1.drp row.length
     rw [List.drop_left] at hd
     refine ⟨fun x hx=>?_,fun j hj=>?_⟩
     ·rcases List.mem_cons.mp hx with q | q
      ·subst q;exact (hd.all w List.mem_cons_self).fixed
      ·exact hd.all x (List.mem_cons_of_mem _ q)
     ·exact hd.gap j hj
    ·intro r hr'
     rcases List.mem_append.mp hr' with q | q
     ·exact h2 r q
     ·rw [List.mem_singleton] at q;subst q
      rw [List.dropLast_concat]
      exact ⟨by lia,fun x hx=>hok1.all x (List.mem_append_left _ hx)⟩
    ·simp;lia
    ·simp;lia
   ·exact ⟨keep,by simp⟩
 ·exact ⟨keep,by simp⟩
theorem zmq {width:Int}{alts:List Nat}{rules:List zbE}{turned:Bool}(hr:∀ r∈rules,zbb alts r):∀ (ws:List z7) (st:VSt) (rs:zdL),Rel st rs->Inv alts rs ws ->
  Rel (zcl width (rules.map zbE.sign) st (ws.map zp)) (ws.foldl (zaK width rules alts turned) rs)/\Inv alts (ws.foldl (zaK width rules alts turned) rs) []/\zn3 width (rules.map zbE.sign) st (ws.map zp)
 | [],st,rs,h,hi=>⟨h,hi,trivial⟩
 | w::ws,st,rs,h,hi=>by
  have ok1:ROk alts (rs.row++[w]):=by
   have:ROk alts ((rs.row++[w])++ws):=by rw [List.append_assoc];exact hi.ok
   exact this.left
  have h1:=zmV (width:=width) (turned:=turned) hr h ok1
  have h2:=(hi.step (width:=width) (turned:=turned) hr).1
  obtain ⟨a,b,c⟩:=zmq hr ws _ _ h1 h2
  refine ⟨a,b,?_,?_,c⟩
  ·have hh:=hi.head
   have hl:=hi.len
   rw [List.length_cons] at hl
   refine ⟨by rw [h.i];lia,by rw [h.i];lia,by rw [h.r];simp;lia,fun p hp=>?_⟩
   rw [h.r,show rs.row.map zp++[(w.gap,w.text)]=(rs.row++[w]).map zp by rw [List.map_append];rfl] at hp
   obtain ⟨x,hx,rfl⟩:=List.mem_map.mp hp
   have:=ok1.all x hx
   have h3:=this.gl
   have h4:=this.tl2
   show x.gap.length+x.text.length<=1000
   lia
  ·have:=hi.many
   rw [h.l,List.length_map]
   lia
theorem zkx {width:Int}{alts:List Nat}{rules:List zbE}{turned:Bool}(hr:∀ r∈rules,zbb alts r):∀ (ws:List z7) (rs:zdL),Inv alts rs ws->(ws≠[]\/rs.row≠[])->(ws.foldl (zaK width rules alts turned) rs).row≠[]
 | [],rs,_,h=>by rcases h with h | h;exact absurd rfl h;exact h
 | w::ws,rs,hi,_=>by
  have:=hi.step (width:=width) (turned:=turned) hr
  exact zkx hr ws _ this.1 (.inr this.2)
theorem zny (L:List (List Nat)):Str.join (ofL [10]) (L.map ofL)=ofL (zaq [10] L):=by
 induction L with
 | nil=>rfl
 | cons x r ih =>
  cases r with
  | nil=>rfl
  | cons y r =>
   show ofL x++ofL [10]++Str.join (ofL [10]) ((y::r).map ofL)=_
   rw [ih,zcn,zcn];rfl
theorem zmx:∀ (L M:List (List Nat)),L≠[]->M≠[]->(∀ l∈L,10∉l)->(∀ l∈M,10∉l)->zaq [10] L=zaq [10] M->L=M:=by
 have cut:∀ (a b x y:List Nat),10∉a->10∉b->a++10::x=b++10::y->a=b/\x=y:=by
  intro a
  induction a with
  | nil =>
   intro b x y _ hb e
   cases b with
   | nil=>simp at e;exact ⟨rfl,e⟩
   | cons c b=>simp at e;exact absurd (by rw [e.1];simp) hb
  | cons d a ih =>
   intro b x y ha hb e
   cases b with
   | nil=>simp at e;exact absurd (by rw [<- e.1];simp) ha
   | cons c b =>
    simp only [List.cons_append,List.cons.injEq] at e
    obtain ⟨h1,h2⟩:=ih b x y (fun h=>ha (List.mem_cons_of_mem _ h)) (fun h=>hb (List.mem_cons_of_mem _ h)) e.2
    exact ⟨by rw [e.1,h1],h2⟩
 have e2:∀ (a b:List Nat) (r:List (List Nat)),zaq [10] (a::b::r)=a++10::zaq [10] (b::r):=fun a b r=>by
  show a++[10]++zaq [10] (b::r)=_
  simp
 intro L
 induction L with
 | nil=>intro M h;exact absurd rfl h
 | cons a L ih =>
  intro M _ hM hL hMn e
  cases M with
  | nil=>exact absurd rfl hM
  | cons b M =>
   cases L with
   | nil =>
    cases M with
    | nil=>exact congrArg (fun z=>[z]) e
    | cons c M =>
     rw [e2] at e
     have:a=b++10::zaq [10] (c::M):=e
     exact absurd (by rw [this];simp) (hL a List.mem_cons_self)
   | cons d L =>
    cases M with
    | nil =>
     rw [e2] at e
     have:a++10::zaq [10] (d::L)=b:=e
     exact absurd (by rw [<- this];simp) (hMn b List.mem_cons_self)
    | cons c M =>
     rw [e2,e2] at e
     obtain ⟨h1,h2⟩:=cut _ _ _ _ (hL a List.mem_cons_self) (hMn b List.mem_cons_self) e
     rw [h1,ih (c::M) (by simp) (by simp) (fun l hl=>hL l (List.mem_cons_of_mem _ hl)) (fun l hl=>hMn l (List.mem_cons_of_mem _ hl)) h2]
theorem zjN {L:List (List Nat)}(hne:L≠[])(h:∀ l∈L,10∉l):(Txt.split (ofL (zaq [10] L)) (ofL [10])).map (fun s=>s.cps.toList)=L:=by
 have h1:=StrLaws.join_split (ofL (zaq [10] L)) (ofL [10])
 have h2:=StrLaws.split_free (ofL (zaq [10] L)) 10
 have e10:(ofL [10]:Str)=⟨#[10]⟩:=rfl
 rw [<- e10] at h2
 have hSne:Txt.split (ofL (zaq [10] L)) (ofL [10])≠[]:=by
  unfold Txt.split
  split
  ·simp
  ·split
   ·simp
   ·rw [StrLaws.partsBetween_eq]
    obtain ⟨p,r,e⟩:=StrLaws.partsFrom_ne (ofL (zaq [10] L)) (ofL [10]).length 0 (Builtin.Str.occurrences (ofL (zaq [10] L)) (ofL [10]) 0 (ofL (zaq [10] L)).length ((ofL (zaq [10] L)).length+1))
    rw [e];simp
 generalize Txt.split (ofL (zaq [10] L)) (ofL [10])=S at h1 h2 hSne ⊢
 have hS:S=(S.map fun s=>s.cps.toList).map ofL:=by
  rw [List.map_map]
  conv=>lhs;rw [<- List.map_id S]
  refine List.map_congr_left fun s _=>?_
  rfl
 rw [hS,zny] at h1
 have h3:zaq [10] (S.map fun s=>s.cps.toList)=zaq [10] L:=by
  have:=congrArg (fun s:Str=>s.cps.toList) h1
  exact this
 exact zmx _ _ (by simpa using hSne) hne (fun l hl=>by
  obtain ⟨s,hs,rfl⟩:=List.mem_map.mp hl
  exact h2 s hs) h h3
theorem zig {alts:List Nat}{row:List z7}(h:∀ w∈row,WOk alts w)(hne:row≠[]):zaO (z6 row)=false:=by
 obtain ⟨w,r,q⟩:∃ w r,row=w::r:=by
  cases row with
  | nil=>exact absurd rfl hne
  | cons w r=>exact ⟨w,r,rfl⟩
 have hw:=h w (by rw [q];simp)
 have h0:w.text.length≠0:=fun e=>hw.tne (List.eq_nil_of_length_eq_zero e)
 have hm:w.lst∈z6 row:=by
  rw [q,show w::r=[w]++r from rfl,zbR,zbY]
  exact List.mem_append_left _ (List.mem_append_right _ (zcc (by lia)))
 unfold zaO
 have:(z6 row).all Unicode.isSpace=false:=by
  cases e:(z6 row).all Unicode.isSpace with
  | false=>rfl
  | true =>
   have:=List.all_eq_true.mp e _ hm
   rw [hw.sp] at this;cases this
 rw [this,Bool.and_false]
theorem zmZ {width:Int}{alts:List Nat}{rules:List zbE}{name:Nat}{ws:List z7}(hr:∀ r∈rules,zbb alts r)(hw:ROk alts ws)(hl:ws.length<=40)(hne:ws≠[])(hname:name<=1000) :
  zn3 width (rules.map zbE.sign) ([],(name:Int),[]) (ws.map zp) /\
  let st:=zcl width (rules.map zbE.sign) ([],(name:Int),[]) (ws.map zp)
  zce st.2.1 st.2.2/\zcJ st.2.1 (zfZ st.2.2)=false/\st.1.length<=40/\(∀ turned,zal st.1 st.2.1 st.2.2=zcj ws width name rules alts turned)/\zal st.1 st.2.1 st.2.2≠[]/\(zal st.1 st.2.1 st.2.2).length<=41/\∀ l∈zal st.1 st.2.1 st.2.2,l.length<=2200/\10∉l:=by
 have hi:Inv alts ⟨[],[],name⟩ ws:=⟨hw,(fun r h=>by cases h),by simpa -iota using hl,by simpa -iota using hl,hname⟩
 have hrel:Rel ([],(name:Int),[]) ⟨[],[],name⟩:=⟨rfl,rfl,rfl⟩
 have key:∀ turned,_:=fun turned=>zmq (width:=width) (turned:=turned) hr ws _ _ hrel hi
 have kne:∀ turned,_:=fun turned=>zkx (width:=width) (turned:=turned) hr ws _ hi (.inl hne)
 refine ⟨(key false).2.2,?_⟩
 dsimp -iota only
 generalize zcl width (rules.map zbE.sign) ([],(name:Int),[]) (ws.map zp)=st at key
 have line:∀ turned,zal st.1 st.2.1 st.2.2=zcj ws width name rules alts turned:=by
  intro turned
  obtain ⟨h1,h2,-⟩:=key turned
  have h3:=kne turned
  unfold zcj
  dsimp -iota only
  generalize ws.foldl (zaK width rules alts turned) ⟨[],[],name⟩=rs at h1 h2 h3
  obtain ⟨rows,row,head⟩:=rs
  obtain ⟨lines,init,ls⟩:=st
  obtain ⟨e1,e2,e3⟩:=h1
  dsimp -iota only at e1 e2 e3 h3 ⊢
  subst e1;subst e2;subst e3
  have hall:∀ w∈row,WOk alts w:=fun w hx=>h2.ok.all w (List.mem_append_left _ hx)
  have hn:=zdY hall
  unfold zal
  have hpos:0 < zo (head:Int) (zfZ (row.map zp)):=by
   rw [zdQ,hn.2.2]
   obtain ⟨w,r,q⟩:∃ w r,row=w::r:=by
    cases row with
    | nil=>exact absurd rfl h3
    | cons w r=>exact ⟨w,r,rfl⟩
   have hw0:=(hall w (by rw [q];simp -iota)).tne
   have:w.text.length≠0:=fun e=>hw0 (List.eq_nil_of_length_eq_zero e)
   have h4:=zfI (r.map zp)
   have h5:zo 0 (row.map zp)=((w.gap.length+w.text.length:Nat):Int)+zo 0 (r.map zp):=by
    rw [q]
    unfold zo
    simp -iota only [List.map_cons,List.sum_cons]
    lia
   lia
  rw [if_pos hpos,hn.1,List.map_append];rfl
 have hne':zal st.1 st.2.1 st.2.2≠[]:=by
  rw [line false];unfold zcj;simp -iota
 obtain ⟨h1,h2,-⟩:=key false
 have h3:=kne false
 have hrows:zcj ws width name rules alts false=((ws.foldl (zaK width rules alts false) ⟨[],[],name⟩).rows++[(ws.foldl (zaK width rules alts false) ⟨[],[],name⟩).row]).map z6:=rfl
 have linesOk:∀ r:List z7,(∀ w∈r,WOk alts w)->r.length<=40->(z6 r).length<=2200/\10∉z6 r:=by
  intro r hr2 hl2
  constructor
  ·have:∀ r:List z7,(∀ w∈r,WOk alts w)->(z6 r).length<=55*r.length:=by
    intro r
    induction r with
    | nil=>intro _;simp -iota [z6]
    | cons w r ih =>
     intro h
     have h6:=(h w List.mem_cons_self).gl
     have h7:=(h w List.mem_cons_self).tl2
     have h8:=ih fun x hx=>h x (List.mem_cons_of_mem _ hx)
     rw [show w::r=[w]++r from rfl,zbR,zbY]
     simp -iota only [List.length_append,List.length_singleton]
     lia
   have:=this r hr2
   lia
  ·intro hm
   unfold z6 at hm
   obtain ⟨l,hl3,hm2⟩:=List.mem_flatten.mp hm
   obtain ⟨w,hw3,rfl⟩:=List.mem_map.mp hl3
   rcases List.mem_append.mp hm2 with q | q
   ·have:=(hr2 w hw3).gws 10 q
    exact absurd this (by decide)
   ·exact (hr2 w hw3).tnl q
 have hlf:=line false
 rw [hrows] at hlf
 generalize ws.foldl (zaK width rules alts false) ⟨[],[],name⟩=rs at h1 h2 h3 hlf
 obtain ⟨rows,row,head⟩:=rs
 have hlen:=h2.len
 have hmany:=h2.many
 dsimp -iota only at hlen hmany h3 hlf
 simp -iota only [List.length_nil,Nat.add_zero] at hlen hmany
 have hall:∀ w∈row,WOk alts w:=fun w hx=>h2.ok.all w (List.mem_append_left _ hx)
 refine ⟨⟨by rw [h1.i];exact Int.natCast_nonneg _,by rw [h1.i];have:=h2.head;dsimp -iota only at this ⊢;lia,by rw [h1.r];simp -iota;lia,fun p hp=>?_⟩,?_,?_,line,hne',?_,?_⟩
 ·rw [h1.r] at hp
  obtain ⟨w,hx,rfl⟩:=List.mem_map.mp hp
  have h6:=(hall w hx).gl
  have h7:=(hall w hx).tl2
  show w.gap.length+w.text.length<=1000
  lia
 ·rw [h1.r]
  have hn:=(zdY hall).2.1 h3
  unfold zcJ
  dsimp -iota only
  rw [hn,zcq]
  obtain ⟨w,r,q⟩:∃ w r,row=w::r:=by
   cases row with
   | nil=>exact absurd rfl h3
   | cons w r=>exact ⟨w,r,rfl⟩
  have hw1:=hall w (by rw [q];simp -iota)
  have hw0:w.text.length≠0:=fun e=>hw1.tne (List.eq_nil_of_length_eq_zero e)
  have e1:zaO (z6 row)=false:=zig hall h3
  have e2:(zo st.2.1 (row.map zp)==0)=false:=by
   rw [beq_eq_false_iff_ne,h1.i,zdQ]
   have h4:=zfI (r.map zp)
   have h5:zo 0 (row.map zp)=((w.gap.length+w.text.length:Nat):Int)+zo 0 (r.map zp):=by
    rw [q]
    unfold zo
    simp -iota only [List.map_cons,List.sum_cons]
    lia
   dsimp -iota only
   lia
  rw [e1,e2,Bool.or_false,Bool.and_false]
 ·rw [h1.l,List.length_map];exact hmany
 ·rw [hlf];simp -iota;lia
 ·intro l hl2
  rw [hlf] at hl2
  obtain ⟨r,hr2,rfl⟩:=List.mem_map.mp hl2
  rcases List.mem_append.mp hr2 with q | q
  ·exact linesOk r (h2.rows r q).2 (h2.rows r q).1
  ·rw [List.mem_singleton] at q;subst q
   exact linesOk _ hall hlen
end
section
open PySem.W PySem.Builtin PySem.Builtin.ObjectAttr
variable {g:Gl}{A:Around}{F:Fm}{σ:AS}{P:PV->AS->Prop}{loc:List (Str × PV)}
noncomputable def zcu (script:List Int):List Int:=(if script.isEmpty then [8,0,20,3] else script).take 4++[2,0,98]
noncomputable def zat (x:Int):List Nat:=zed (x.fdiv 7)
noncomputable def ze9 (x:Int):List Nat:=[(zat x).getD 0 0,61,32,(zat x).getD 1 0,9]
noncomputable def zar (x:Int):List Nat:=((ze9 x++ze9 x).drop (x.fmod 5).toNat).take (1+((x.fdiv 5).fmod 3).toNat)
noncomputable def zir (x:Int):Int:=5+(x.fdiv 3).fmod 17
noncomputable def zgi (x:Int):Int:=(x.fdiv 2).fmod 3*3
noncomputable def zbj:List Nat:=zbH++[61,32,9]
noncomputable def zaB (c:Nat):zbE:=if c∈[32,9] then ⟨c,⟨false,[c]⟩,⟨true,[32,9]⟩⟩ else ⟨c,⟨false,[32,9]⟩,⟨false,[c]⟩⟩
theorem zsj {r:Option (List zcE)}{s0 s1:zcE}(h:(r.map fun l=>(l.map (·.barred),l.map (·.members)))=some ([s0.barred,s1.barred],[s0.members,s1.members])):r=some [s0,s1]:=by
 cases r with
 | none=>cases h
 | some l =>
  have h2:=Option.some.inj h
  clear h
  have hl:l.length=2:=by
   have:=congrArg List.length (congrArg Prod.fst h2)
   rw [List.length_map] at this
   exact this
  revert h2
  revert l hl
  refine zkR ?_
  intro u v h
  obtain ⟨b0,m0⟩:=u
  obtain ⟨b1,m1⟩:=v
  obtain ⟨b2,m2⟩:=s0
  obtain ⟨b3,m3⟩:=s1
  cases h
  rfl
noncomputable def aOf (o:Option (List It))(k:Nat):List Nat:=((o.getD []).getD k none).getD []
noncomputable def zsr (c:Nat):Option (List It):=zn7 (zbc c) ((zbc c).length+1) 0 []
noncomputable def zqN (c:Nat)(a b:List Nat):Bool:=decide (zsr c=some [none,some a,some b,none]) && (decide (a.length<=20) && (decide (b.length<=20) && (zdj (zdK a b) zeI && (zjd (zdK a b) zev && (decide ((zbc c).length<=20) &&
 decide ((zd3 (sl (zdK a b) (some 10) (some (-6))) 50 0 []).map (fun l=>(l.map (·.barred),l.map (·.members)))=some ([(zaB c).s0.barred,(zaB c).s1.barred],[(zaB c).s0.members,(zaB c).s1.members])))))))
theorem zu1:∀ c∈zbj,zqN c (aOf (zsr c) 1) (aOf (zsr c) 2)=true:=by decide +kernel
structure zrd (c:Nat)(a b:List Nat):Prop where
 tr:zn7 (zbc c) ((zbc c).length+1) 0 []=some [none,some a,some b,none]
 la:a.length<=20
 lb:b.length<=20
 st:zdj (zdK a b) zeI=true
 en:zjd (zdK a b) zev=true
 lp:(zbc c).length<=20
 run:zd3 (sl (zdK a b) (some 10) (some (-6))) 50 0 []=some [(zaB c).s0,(zaB c).s1]
theorem zqf {c:Nat}(h:c∈zbj):∃ a b,zrd c a b:=by
 obtain ⟨h0,h⟩:=Bool.and_eq_true_iff.mp (zu1 c h)
 obtain ⟨h1,h⟩:=Bool.and_eq_true_iff.mp h
 obtain ⟨h2,h⟩:=Bool.and_eq_true_iff.mp h
 obtain ⟨h3,h⟩:=Bool.and_eq_true_iff.mp h
 obtain ⟨h4,h⟩:=Bool.and_eq_true_iff.mp h
 obtain ⟨h5,h6⟩:=Bool.and_eq_true_iff.mp h
 exact ⟨_,_,of_decide_eq_true h0,of_decide_eq_true h1,of_decide_eq_true h2,h3,h4,of_decide_eq_true h5,zsj (of_decide_eq_true h6)⟩
theorem zmf {k:Nat}(h:k < 20):zbH.getD k 0∈zbj:=by
 have:∀ j:Fin 20,zbH.getD j.1 0∈zbj:=by decide
 exact this ⟨k,h⟩
theorem zg0 (x:Int):∀ c∈zar x,c∈zbj:=by
 intro c hc
 unfold zar at hc
 have hc2:=List.mem_of_mem_drop (List.mem_of_mem_take hc)
 have hk:c∈ze9 x:=by
  rcases List.mem_append.mp hc2 with q | q <;> exact q
 have e0:(zat x).getD 0 0∈zbj:=by
  have:=zm (x.fdiv 7) 20 (by decide)
  show zbH.getD ((x.fdiv 7).fmod 20).toNat 0∈zbj
  exact zmf (by omega)
 have e1:(zat x).getD 1 0∈zbj:=by
  have:=zm ((x.fdiv 7).fmod 20+1+((x.fdiv 7).fdiv 20).fmod 19) 20 (by decide)
  show zbH.getD (((x.fdiv 7).fmod 20+1+((x.fdiv 7).fdiv 20).fmod 19).fmod 20).toNat 0∈zbj
  exact zmf (by omega)
 unfold ze9 at hk
 simp only [List.mem_cons,List.not_mem_nil,or_false] at hk
 rcases hk with q | q | q | q | q
 ·rw [q];exact e0
 ·rw [q];decide
 ·rw [q];decide
 ·rw [q];exact e1
 ·rw [q];decide
theorem zm2 (x:Int):∀ n∈zat x,n < 256:=by
 have hs:∀ k:Nat,k < 20->zbH.getD k 0 < 256:=fun k hk=>by
  have:∀ j:Fin 20,zbH.getD j.1 0 < 256:=by decide
  exact this ⟨k,hk⟩
 have h0:=zm (x.fdiv 7) 20 (by decide)
 have h1:=zm ((x.fdiv 7).fmod 20+1+((x.fdiv 7).fdiv 20).fmod 19) 20 (by decide)
 intro n hn
 unfold zat zed at hn
 simp only [List.mem_cons,List.not_mem_nil,or_false] at hn
 rcases hn with q | q
 ·rw [q];exact hs _ (by lia)
 ·rw [q];exact hs _ (by lia)
theorem zjP (ns:List Nat):(b2a ns).length<=2*ns.length+3:=by
 have hs:∀ (l:List Nat) (st:BSt),(l.foldl zaJ st).1.length<=st.1.length+2*l.length:=by
  intro l
  induction l with
  | nil=>intro st;simp
  | cons b r ih =>
   intro st
   have h1:=ih (zaJ st b)
   have h2:(zaJ st b).1.length<=st.1.length+2:=zhK 2 (st.2.1+8) st.1
   rw [List.foldl_cons,List.length_cons]
   lia
 have:=hs ns ([],0,0)
 unfold b2a zdI
 rw [List.length_append]
 have h3:(if (ns.foldl zaJ ([],0,0)).2.1=2 then [zb1 ((ns.foldl zaJ ([],0,0)).2.2%4*16),61,61] else if (ns.foldl zaJ ([],0,0)).2.1=4 then [zb1 ((ns.foldl zaJ ([],0,0)).2.2%16*4),61] else []).length<=3:=by
  split
  ·simp
  ·split <;> simp
 simp only [List.length_nil] at this
 lia
noncomputable def zfD (alts:List Nat)(w:z7):List Nat:=w.gap++(b2a w.octs).map (zkV (alts.getD 0 0) (alts.getD 1 0))
noncomputable def zbB (alts:List Nat)(ws:List z7):List Nat:=(ws.map (zfD alts)).flatten
theorem zpl {l:List Nat}(h:∀ n∈l,n < 256):octs (l.map fun (n:Nat)=>n.toUInt8).toArray=l.map fun (k:Nat)=>.int (k:Int):=by
 unfold octs
 rw [List.map_map]
 refine List.map_congr_left fun n hn=>?_
 show PV.int _=PV.int _
 have:=h n hn
 rw [show n.toUInt8.toNat=n from by simp [Nat.toUInt8];lia]
theorem zbu {alts:List Nat}{bare:Bool}:∀ (ns:List Int) (first:Bool),(zaf alts bare first ns).length=ns.length
 | [],_=>rfl
 | n::ns,first=>by
  show (_::zaf alts bare false ns).length=_
  rw [List.length_cons,List.length_cons,zbu ns false]
theorem zhA {alts:List Nat}:∀ ws:List z7,(∀ w∈ws,w.gap.length<=5/\w.octs.length<=8)->(zbB alts ws).length<=24*ws.length
 | [],_=>by simp -iota [zbB]
 | w::r,h=>by
  have h1:=zhA (alts:=alts) r fun w hw=>h w (List.mem_cons_of_mem _ hw)
  have h2:=h w List.mem_cons_self
  have h3:=zjP w.octs
  unfold zbB at h1 ⊢
  rw [List.map_cons,List.flatten_cons,List.length_append,List.length_cons]
  unfold zfD at h1 ⊢
  rw [List.length_append,List.length_map]
  lia
theorem zia (n:Int):(zdJ n).length<=5:=by
 have h:=zm (n.fdiv 24) 4 (by decide)
 unfold zdJ
 have:∀ j:Fin 4,(([[32],[9],[32,32],[9,32]]:List (List Nat)).getD j.1 []).length<=5:=by decide
 exact this ⟨((n.fdiv 24).fmod 4).toNat,by omega⟩
theorem zgP {alts:List Nat}{bare:Bool}:∀ (ns:List Int) (first:Bool),∀ w∈zaf alts bare first ns,w.gap.length<=5/\w.octs.length<=8/\∀ n∈w.octs,n < 256
 | [],_,w,hw=>by cases hw
 | n::ns,first,w,hw=>by
  rcases List.mem_cons.mp hw with q | q
  ·subst q
   refine ⟨?_,Nat.le_trans (zcS n) (by decide),zfX n⟩
   show (if (bare && first)=true then [] else zdJ n).length<=5
   split
   ·decide
   ·exact zia n
  ·exact zgP ns false w q
theorem zeV (c:Nat):(zaB c).sign=c:=by unfold zaB;split <;> rfl
theorem zno (l:List Int):sl (l.map PV.int) none (some 4)=(l.take 4).map PV.int:=by
 unfold sl
 show List.take (clipAt (l.map PV.int).length 4 - 0) (List.drop 0 (l.map PV.int))=_
 have:=clipAt_cast (l.map PV.int).length 4
 rw [if_neg (by decide),List.length_map] at this
 rw [List.drop_zero,List.length_map,List.map_take,Nat.sub_zero]
 by_cases h:4<=l.length
 ·rw [show clipAt l.length 4=4 by lia]
 ·rw [List.take_of_length_le (by rw [List.length_map];lia),List.take_of_length_le (by rw [List.length_map];lia)]
structure zsv where
 (fAlts fPat fSets fTrl fT fJ fe d pat2 fWords fWord fWriting f64 fB2a fBuf fTru fFolded fRows fPlace fOct fByPat fLast cVf cAcc pat1:Addr)
 (K:Frag) (vf:VfA) (acc:zmQ)
structure zro (g:Gl)(q:zsv):Prop where
 alts:Fn g 25 "_law_alts" q.fAlts
 pat:Fn g 29 "_law_pattern" q.fPat
 sets:Fn g 30 "_law_sets" q.fSets
 trl:Fn g 17 "translate" q.fTrl
 tr:zrX g q.fT q.fe q.d q.pat2
 join:Fn g 23 "_join_translated_parts" q.fJ
 obj:g.Blt "object" (.type "object")
 words:Fn g 28 "_law_words" q.fWords
 word:Fn g 26 "_law_word" q.fWord
 writing:Fn g 27 "_law_writing" q.fWriting
 range:g.Blt "range" (.type "range")
 rev:g.Blt "reversed" (.type "reversed")
 bytes:g.Blt "bytes" (.type "bytes")
 ord:g.Blt "ord" (.builtin "ord")
 chr:g.Blt "chr" (.builtin "chr")
 b64:zo7 g q.f64
 b2a:zlX g q.fB2a q.fBuf q.fTru
 sum:g.Blt "sum" (.builtin "sum")
 len:g.Blt "len" (.builtin "len")
 folded:Fn g 36 "_law_folded" q.fFolded
 vfok:zi3 g q.K q.cVf q.cAcc q.vf q.acc
 re1:g.Glob "twin_re_1_header" (.ref q.pat1)
 pat1:Rx.PatOk g q.pat1
 rows:Fn g 35 "_law_rows" q.fRows
 place:Fn g 34 "_law_place" q.fPlace
 oct:Fn g 32 "_law_by_octets" q.fOct
 byPat:Fn g 33 "_law_by_pattern" q.fByPat
 last:Fn g 31 "_law_last" q.fLast
end
section
theorem zbm {m:List Nat}{c:Nat}:(⟨false,m⟩:zcE).fits c=decide (c∈m):=by unfold zcE.fits;cases decide (c∈m) <;> rfl
theorem ziM {m:List Nat}{c:Nat}:(⟨true,m⟩:zcE).fits c = !decide (c∈m):=by unfold zcE.fits;cases decide (c∈m) <;> rfl
theorem zgW (c:Nat):decide (c∈[32,9])=Rx.isWs c:=by
 cases h:Rx.isWs c with
 | true=>rw [zki] at h;exact decide_eq_true (by simpa using h)
 | false =>
  refine decide_eq_false fun q=>?_
  have:=zki.mpr (show c=32\/c=9 by simpa using q)
  rw [h] at this;cases this
theorem zmj:∀ c∈zbj,c=32\/c=9\/(Rx.isWs c=false/\c∉zaG):=by decide +kernel
theorem zmk:∀ c∈zbH,Rx.isWs c=false/\c∉zaG/\c≠10/\Unicode.isSpace c=false:=by decide +kernel
theorem zmJ:∀ c∈zaG++[61],Rx.isWs c=false/\c≠10/\Unicode.isSpace c=false:=by decide +kernel
theorem zmn {alts:List Nat}{c:Nat}(h:c∈zbj):zbb alts (zaB c):=by
 have hs:=zmj c h
 by_cases hc:c∈[32,9]
 ·have hw:Rx.isWs c=true:=by rw [<- zgW];exact decide_eq_true hc
  have e:zaB c=⟨c,⟨false,[c]⟩,⟨true,[32,9]⟩⟩:=by unfold zaB;rw [if_pos hc]
  rw [e]
  refine ⟨by rcases hs with q | q | q;exact .inl q;exact .inr (.inl q);exact .inr (.inr q),⟨fun x hx=>?_,fun x hx=>?_⟩,fun u v hu hv hg=>?_⟩
  ·rw [zbm]
   refine decide_eq_false fun q=>?_
   rw [List.mem_singleton] at q;subst q
   rw [hw] at hx;cases hx
  ·rw [ziM,zgW,hx];rfl
  ·dsimp only
   rw [zbm,ziM,zgW,hv.lst_ws,Bool.not_false,Bool.and_true]
   have:zby v.octs alts≠[c]:=by
    rcases hv.last with q | ⟨q,_⟩
    ·rw [q]
     intro e'
     have:v.lst=c:=by simpa using e'
     have h2:=hv.lst_ws
     rw [this,hw] at h2;cases h2
    ·rw [q];simp
   rw [decide_eq_false this,Bool.or_false]
   by_cases q:u.gap.getD 0 0=c
   ·rw [decide_eq_true q,decide_eq_true (by rw [q];simp)]
   ·rw [decide_eq_false q,decide_eq_false (by rw [List.mem_singleton];exact q)]
 ·have hw:Rx.isWs c=false:=by rw [<- zgW];exact decide_eq_false hc
  have e:zaB c=⟨c,⟨false,[32,9]⟩,⟨false,[c]⟩⟩:=by unfold zaB;rw [if_neg hc]
  have hs':Rx.isWs c=false/\c∉zaG:=by
   rcases hs with q | q | q
   ·exact absurd (by rw [q];simp) hc
   ·exact absurd (by rw [q];simp) hc
   ·exact q
  rw [e]
  refine ⟨.inr (.inr hs'),⟨fun x hx=>by rw [zbm,zgW];exact hx,fun x hx=>?_⟩,fun u v hu hv hg=>?_⟩
  ·rw [zbm]
   refine decide_eq_false fun q=>?_
   rw [List.mem_singleton] at q;subst q
   rw [hw] at hx;cases hx
  ·dsimp only
   rw [zbm,zbm,zgW,hu.hd_ws hg,Bool.true_and]
   have h1:u.gap.getD 0 0≠c:=fun q=>by
    have:=hu.hd_ws hg
    rw [q,hw] at this;cases this
   rw [decide_eq_false h1,Bool.false_or]
   rcases hv.last with q | ⟨q,q'⟩
   ·rw [q]
    by_cases k:v.lst=c
    ·rw [decide_eq_true (by rw [k];simp),decide_eq_true (by rw [k])]
    ·rw [decide_eq_false (by rw [List.mem_singleton];exact k),decide_eq_false (fun e=>k (by simpa using e))]
   ·rw [q]
    have k:v.lst≠c:=fun k=>hs'.2 (k ▸ q')
    rw [decide_eq_false (by rw [List.mem_singleton];exact k),decide_eq_false (by simp)]
theorem ziB {k:Nat}(h:k < 20):zbH.getD k 0∈zbH:=zcc h
theorem zg7 (x:Int):∀ c∈zat x,c∈zbH:=by
 have h0:=zm (x.fdiv 7) 20 (by decide)
 have h1:=zm ((x.fdiv 7).fmod 20+1+((x.fdiv 7).fdiv 20).fmod 19) 20 (by decide)
 intro n hn
 unfold zat zed at hn
 simp only [List.mem_cons,List.not_mem_nil,or_false] at hn
 rcases hn with q | q
 ·rw [q];exact ziB (by omega)
 ·rw [q];exact ziB (by omega)
theorem zjV (l:List Nat)(h:l≠[]):zav l%64=l.getD (l.length - 1) 0%64:=by
 rcases zbT l with q | ⟨r,e,q⟩
 ·exact absurd q h
 ·subst q
  rw [zcG,List.getD_eq_getElem?_getD]
  simp
  lia
theorem zjn (octs alts:List Nat):(writing octs alts).length=(octs.length+2)/3*4:=by
 unfold writing zas
 rw [List.length_append,List.length_map,List.length_reverse,List.length_map,List.length_range,List.length_replicate]
 obtain ⟨q,r,hr,h0⟩:=zuo octs.length
 rw [h0,zrS,zqt,Nat.add_assoc (3*q),Nat.mul_add_div (by decide)]
 match r,hr with
 | 0,_=>exact Nat.mul_comm 4 q
 | 1,_=>exact Nat.mul_comm 4 (q+1)
 | 2,_=>exact Nat.mul_comm 4 (q+1)
theorem zji {octs:List Nat}{a b:Nat}:∀ c∈writing octs [a,b],c∈zaG++[a,b]++[61]:=by
 intro c hc
 unfold writing at hc
 rcases List.mem_append.mp hc with q | q
 ·obtain ⟨i,hi,rfl⟩:=List.mem_map.mp q
  rw [List.mem_reverse] at hi
  unfold zas at hi
  obtain ⟨k,_,rfl⟩:=List.mem_map.mp hi
  refine List.mem_append_left _ (zcc ?_)
  have:(zaG++[a,b]).length=64:=rfl
  rw [this]
  exact Nat.mod_lt _ (by decide)
 ·have:=List.eq_of_mem_replicate q
  subst this
  simp
theorem ziN {octs:List Nat}{a b:Nat}(h0:octs≠[]):let t:=writing octs [a,b];zby octs [a,b]=[t.getD (t.length - 1) 0]\/(zby octs [a,b]=[]/\t.getD (t.length - 1) 0∈zaG):=by
 have hn:octs.length≠0:=fun q=>h0 (List.eq_nil_of_length_eq_zero q)
 intro t
 unfold zby
 by_cases h3:octs.length%3≠0
 ·rw [if_pos h3]
  left
  have hp:zjr octs.length≠0:=by
   obtain ⟨q,r,hr,h0⟩:=zuo octs.length
   rw [h0,Nat.mul_add_mod] at h3
   rw [h0,zrS]
   match r,hr with
   | 0,_=>exact absurd rfl h3
   | 1,_=>decide
   | 2,_=>decide
  have:t.getD (t.length - 1) 0=61:=by
   show (writing octs [a,b]).getD _ 0=61
   unfold writing
   obtain ⟨k,hk⟩:=Nat.exists_eq_succ_of_ne_zero hp
   rw [hk,List.replicate_succ',<- List.append_assoc,List.getD_eq_getElem?_getD]
   have e:t.length - 1=(List.map (fun i=>(zaG++[a,b]).getD i 0) (zas octs).reverse++List.replicate k 61).length:=by
    show (writing octs [a,b]).length - 1=_
    unfold writing
    rw [hk,List.length_append,List.length_append,List.length_replicate,List.length_replicate]
    lia
   rw [e]
   simp
  rw [this]
 ·rw [if_neg h3]
  have h3':octs.length%3=0:=Decidable.not_not.mp h3
  have h4:=Nat.div_add_mod octs.length 3
  rw [h3'] at h4
  have hp:zjr octs.length=0:=by rw [<- h4,zrS];rfl
  have hsh:zaZ octs.length=0:=by rw [<- h4,znT];rfl
  obtain ⟨m,hm⟩:=Nat.exists_eq_succ_of_ne_zero (show (8*octs.length+5)/6≠0 by lia)
  have hfig:zas octs=(octs.getD (octs.length - 1) 0%64)::(List.range m).map (fun k=>zav octs*2 ^ zaZ octs.length/64 ^ (k+1)%64):=by
   unfold zas
   rw [hm,List.range_succ_eq_map,List.map_cons,List.map_map]
   congr 1
   rw [hsh]
   simp
   exact zjV octs h0
  have ht:t.getD (t.length - 1) 0=(zaG++[a,b]).getD (octs.getD (octs.length - 1) 0%64) 0:=by
   have e:t=((List.range m).map (fun k=>zav octs*2 ^ zaZ octs.length/64 ^ (k+1)%64)).reverse.map (fun i=>(zaG++[a,b]).getD i 0)++[(zaG++[a,b]).getD (octs.getD (octs.length - 1) 0%64) 0]:=by
    show writing octs [a,b]=_
    unfold writing
    rw [hp,hfig]
    simp
   rw [e,List.getD_eq_getElem?_getD]
   simp
  rw [ht]
  have hj:octs.getD (octs.length - 1) 0%64 < 64:=Nat.mod_lt _ (by decide)
  generalize octs.getD (octs.length - 1) 0%64=j at hj
  by_cases h62:j=62
  ·left;subst h62;rfl
  ·by_cases h63:j=63
   ·left;subst h63;rfl
   ·right
    have a1:(j==62)=false:=by simpa using h62
    have a2:(j==63)=false:=by simpa using h63
    refine ⟨by simp only [List.lookup_cons,a1,a2,List.lookup_nil];rfl,?_⟩
    have hl:j < zaG.length:=by rw [zim];lia
    rw [List.getD_eq_getElem?_getD,List.getElem?_append_left hl,<- List.getD_eq_getElem?_getD]
    exact zcc hl
theorem zj4 (n:Int):zdJ n≠[]/\∀ c∈zdJ n,Rx.isWs c=true:=by
 have h:=zm (n.fdiv 24) 4 (by decide)
 unfold zdJ
 have:∀ j:Fin 4,(([[32],[9],[32,32],[9,32]]:List (List Nat)).getD j.1 [])≠[]/\∀ c∈(([[32],[9],[32,32],[9,32]]:List (List Nat)).getD j.1 []),Rx.isWs c=true:=by decide
 exact this ⟨((n.fdiv 24).fmod 4).toNat,by lia⟩
theorem zis (n:Int):zaH n≠[]:=fun q=>by
 have:=zeX ((n.fmod 6).toNat+1) (n.fdiv 6)
 unfold zaH at q
 rw [q] at this;cases this
theorem zoA {alts:List Nat}{a b:Nat}(he:alts=[a,b])(ha:∀ c∈alts,c∈zbH){g:List Nat}(hg:∀ c∈g,Rx.isWs c=true)(hgl:g.length<=5)(n:Int):WOk alts ⟨g,zaH n,writing (zaH n) alts⟩:=by
 have hlen:=zjn (zaH n) alts
 have hol:=zcS n
 have hone:=zis n
 have hon:(zaH n).length≠0:=fun q=>hone (List.eq_nil_of_length_eq_zero q)
 have hmem:∀ c∈writing (zaH n) alts,Rx.isWs c=false/\c≠10/\Unicode.isSpace c=false:=by
  intro c hc
  rw [he] at hc
  have:=zji c hc
  rcases List.mem_append.mp this with q | q
  ·rcases List.mem_append.mp q with r | r
   ·exact zmJ c (List.mem_append_left _ r)
   ·have:=zmk c (ha c (by rw [he];exact r))
    exact ⟨this.1,this.2.2.1,this.2.2.2⟩
  ·exact zmJ c (List.mem_append_right _ q)
 have hne:writing (zaH n) alts≠[]:=fun q=>by rw [q] at hlen;simp at hlen;lia
 refine ⟨hg,hgl,fun c hc=>(hmem c hc).1,fun h=>(hmem 10 h).2.1 rfl,hlen,hne,?_,?_,?_⟩
 ·dsimp only;rw [hlen];lia
 ·rw [he];exact ziN hone
 ·refine (hmem _ (zcc ?_)).2.2
  have:(writing (zaH n) alts).length≠0:=fun q=>hne (List.eq_nil_of_length_eq_zero q)
  dsimp only
  lia
theorem zbX {alts:List Nat}{a b:Nat}(he:alts=[a,b])(ha:∀ c∈alts,c∈zbH){bare:Bool}:∀ (ns:List Int) (first:Bool),∀ w∈zaf alts bare first ns,WOk alts w/\w.octs≠[]/\w.octs.length<=8/\∃ n:Int,w.octs=zaH n/\w.text=writing (zaH n) alts
 | [],_,w,hw=>by cases hw
 | n::ns,first,w,hw=>by
  rcases List.mem_cons.mp hw with q | q
  ·subst q
   refine ⟨zoA he ha ?_ ?_ n,zis n,Nat.le_trans (zcS n) (by decide),n,rfl,rfl⟩
   ·split
    ·intro c hc;cases hc
    ·exact (zj4 n).2
   ·split
    ·decide
    ·exact zia n
  ·exact zbX he ha ns false w q
theorem zfv {alts:List Nat}{bare:Bool}:∀ (ns:List Int),∀ w∈zaf alts bare false ns,w.gap≠[]
 | [],w,hw=>by cases hw
 | n::ns,w,hw=>by
  rcases List.mem_cons.mp hw with q | q
  ·subst q
   show (if (bare && false)=true then [] else zdJ n)≠[]
   rw [Bool.and_false,if_neg (by decide)]
   exact (zj4 n).1
  ·exact zfv ns w q
theorem zkq {alts:List Nat}{a b:Nat}(he:alts=[a,b])(ha:∀ c∈alts,c∈zbH){bare:Bool}(ns:List Int):ROk alts (zaf alts bare true ns):=by
 refine ⟨fun w hw=>(zbX he ha ns true w hw).1,fun i hi=>?_⟩
 cases ns with
 | nil=>exact absurd hi (by show ¬ (i+1 < 0);lia)
 | cons n ns =>
  have hi':i < (zaf alts bare false ns).length:=by
   have:(zaf alts bare true (n::ns)).length=(zaf alts bare false ns).length+1:=rfl
   lia
  exact zfv ns _ (show ((zaf alts bare false ns).getD i w0)∈_ from ziy hi')
theorem zjz {alts:List Nat}{a b:Nat}(he:alts=[a,b])(ha:∀ c∈alts,c∈zbH){bare:Bool}(ns:List Int)(hl:ns.length<=20):za0 (zaf alts bare true ns):=by
 have h:=zkq he ha (bare:=bare) ns
 refine ⟨by rw [zbu];lia,fun i w e=>?_,fun w hw=>(h.all w hw).gl,fun w hw=>?_,fun w hw=>⟨(h.all w hw).tne,(h.all w hw).tl2⟩⟩
 ·have hi:i+1 < (zaf alts bare true ns).length:=by
   rcases Nat.lt_or_ge (i+1) (zaf alts bare true ns).length with q | q
   ·exact q
   ·rw [List.getElem?_eq_none q] at e;cases e
  have:=h.gap i hi
  rw [List.getD_eq_getElem?_getD,e] at this
  exact this
 ·have:=zbX he ha ns true w hw
  exact ⟨this.2.1,this.2.2.1⟩
theorem zms {alts:List Nat}{a b:Nat}(he:alts=[a,b])(ha:∀ c∈alts,c∈zbH){bare:Bool}(ns:List Int)(first:Bool):zbB alts (zaf alts bare first ns)=Rx.flatP ((zaf alts bare first ns).map zp):=by
 have key:∀ ws:List z7,(∀ w∈ws,∃ n:Int,w.octs=zaH n/\w.text=writing (zaH n) alts)->zbB alts ws=Rx.flatP (ws.map zp):=by
  intro ws
  induction ws with
  | nil=>intro _;rfl
  | cons w r ih =>
   intro h
   have ih:=ih fun x hx=>h x (List.mem_cons_of_mem _ hx)
   obtain ⟨n,e1,e2⟩:=h w List.mem_cons_self
   show zfD alts w++zbB alts r=w.gap++(w.text++Rx.flatP (r.map zp))
   rw [ih]
   unfold zfD
   rw [e1,e2,he]
   show w.gap++List.map (zkV a b) _++_=_
   rw [zjF (zfX n),List.append_assoc]
 exact key _ fun w hw=>(zbX he ha ns first w hw).2.2.2
theorem zla {alts:List Nat}{a b:Nat}(he:alts=[a,b])(ha:∀ c∈alts,c∈zbH){bare:Bool}(ns:List Int)(hne:ns≠[]):za3 (zaD (zbB alts (zaf alts bare true ns)))=(zaf alts bare true ns).map zp:=by
 rw [zms he ha]
 cases ns with
 | nil=>exact absurd rfl hne
 | cons n ns =>
  have hh:=(zbX he ha (bare:=bare) (n::ns) true _ List.mem_cons_self).1
  have hr:=fun w hw=>(zbX he ha (bare:=bare) ns false w hw).1
  refine zjJ (p:=zp _) (ps:=(zaf alts bare false ns).map zp) ⟨fun p hp=>?_,fun p hp=>?_,fun p hp=>?_,fun p hp=>?_⟩ hh.gws hh.tws hh.tne
  all_goals obtain ⟨w,hw,rfl⟩:=List.mem_map.mp hp
  ·exact (hr w hw).gws
  ·exact (hr w hw).tws
  ·exact zfv ns w hw
  ·exact (hr w hw).tne
theorem zfi (x:Int):((zar x).map zaB).map zbE.sign=zar x:=by
 rw [List.map_map]
 conv=>rhs;rw [<- List.map_id (zar x)]
 exact List.map_congr_left fun c _=>zeV c
theorem zlI (x:Int):∀ r∈(zar x).map zaB,zbb (zat x) r:=by
 intro r hr
 obtain ⟨c,hc,rfl⟩:=List.mem_map.mp hr
 exact zmn (zg0 x c hc)
theorem znY {B:Nat}:∀ L:List (List Nat),(∀ l∈L,l.length<=B)->(L.map (·.length)).sum<=B*L.length
 | [],_=>by simp
 | l::L,h=>by
  have:=znY L fun x hx=>h x (List.mem_cons_of_mem _ hx)
  have h1:=h l List.mem_cons_self
  simp only [List.map_cons,List.sum_cons,List.length_cons]
  rw [Nat.mul_succ];lia
theorem zee (sep:List Nat):∀ L:List (List Nat),(zaq sep L).length<=(L.map (·.length)).sum+L.length*sep.length
 | []=>Nat.zero_le _
 | [x]=>by
  show x.length<=_
  simp only [List.map_cons,List.map_nil,List.sum_cons,List.sum_nil];lia
 | x::y::r=>by
  have:=zee sep (y::r)
  show (x++sep++zaq sep (y::r)).length<=_
  rw [List.length_append,List.length_append,List.map_cons,List.sum_cons,List.length_cons,Nat.succ_mul]
  lia
theorem zmG {x:Int}{bare:Bool}{ns:List Int}(hne:ns≠[])(hl:ns.length<=20){width:Int}{name:Nat}(hname:name<=1000) :
  let ws:=zaf (zat x) bare true ns
  let ps:=za3 (zaD (zbB (zat x) ws))
  let st:=zcl width (zar x) ([],(name:Int),[]) ps
  zn3 width (zar x) ([],(name:Int),[]) ps/\za0 ws /\
  (zce st.2.1 st.2.2/\(0 < zo st.2.1 (zfZ st.2.2)->zcJ st.2.1 (zfZ st.2.2)=false)/\st.1.length<=1000/\zaT [10] (zal st.1 st.2.1 st.2.2)/\(zaq [10] (zal st.1 st.2.1 st.2.2)).length<=1000000) /\
  ∀ turned,(Txt.split (ofL (zaq [10] (zal st.1 st.2.1 st.2.2))) (ofL [10])).map (fun s=>s.cps.toList)=zcj ws width name ((zar x).map zaB) (zat x) turned:=by
 intro ws ps st
 have he:zat x=[(zat x).getD 0 0,(zat x).getD 1 0]:=rfl
 have hps:ps=ws.map zp:=zla he (zg7 x) ns hne
 have hst:st=zcl width (((zar x).map zaB).map zbE.sign) ([],(name:Int),[]) (ws.map zp):=by rw [zfi,<- hps]
 have hwne:ws≠[]:=fun q=>by
  have:=zbu (alts:=zat x) (bare:=bare) ns true
  have e:ws.length=ns.length:=this
  rw [q] at e
  exact hne (List.eq_nil_of_length_eq_zero e.symm)
 have hwl:ws.length<=40:=by
  have:ws.length=ns.length:=zbu ns true
  lia
 have F:=zmZ (width:=width) (zlI x) (zkq he (zg7 x) (bare:=bare) ns) hwl hwne hname
 obtain ⟨f0,f1,f2,f3,f4,f5,f6,f7⟩:=F
 rw [zfi] at f0
 rw [show zcl width (((zar x).map zaB).map zbE.sign) ([],(name:Int),[]) ((zaf (zat x) bare true ns).map zp)=st from hst.symm] at f1 f2 f3 f4 f5 f6 f7
 have hsum:=znY (B:=2200) _ fun l hl=>(f7 l hl).1
 refine ⟨by rw [hps];exact f0,zjz he (zg7 x) ns hl,⟨f1,fun _=>f2,by lia,?_,?_⟩,fun turned=>?_⟩
 ·unfold zaT
  simp only [List.length_singleton]
  lia
 ·have:=zee [10] (zal st.1 st.2.1 st.2.2)
  simp only [List.length_singleton] at this
  lia
 ·rw [<- f4 turned]
  exact zjN f5 fun l hl=>(f7 l hl).2
end
section
open PySem.W PySem.Builtin PySem.Builtin.ObjectAttr
variable {g:Gl}{A:Around}{F:Fm}{σ:AS}{P:PV->AS->Prop}{loc:List (Str × PV)}
theorem zn4 (x:Int):(zat x).getD 0 0∈zat x:=List.mem_cons_self
theorem zn5 (x:Int):(zat x).getD 1 0∈zat x:=List.mem_cons_of_mem _ List.mem_cons_self
theorem znw {f c L:Addr}{pm:Value}{q:zsv}(hr:Rm A 14)(h:zro g q){script:List Int}(hlen:script.length<=100000)(hP:P (.raw (.bool true)) σ) :
  EXs g (A.deeper (callEnv (mkF 37 "law" c pm) L f)) (zap (mkF 37 "law" c pm) L f) (fB 37) ⟨(["script"]:List Str).zip [.lst (script.map .int)],σ.zone⟩ (zcp σ.zone fun p=>P p σ):=by
 obtain ⟨c1,pm1,hfa1⟩:=h.alts.at_
 obtain ⟨c2,pm2,hfa2⟩:=h.pat.at_
 obtain ⟨c3,pm3,hfa3⟩:=h.sets.at_
 obtain ⟨c4,pm4,hfa4⟩:=h.trl.at_
 obtain ⟨c5,pm5,hfa5⟩:=h.words.at_
 obtain ⟨c6,pm6,T6,hfa6,-⟩:=h.b64.at_
 obtain ⟨c7,pm7,hfa7⟩:=h.folded.at_
 obtain ⟨c8,pm8,hfa8⟩:=h.rows.at_
 ·have hk:z0 (zap (mkF 37 "law" c pm) L f):=zaj rfl
  have hr':=hr.deeper (env:=callEnv (mkF 37 "law" c pm) L f)
  have hr0:Rm (A.deeper (callEnv (mkF 37 "law" c pm) L f)) 0:=Rm.le hr' (by decide)
  refine zb ?_
  refine zd hk ?_
  refine zac ?_
  refine zdi ?_
  refine J.mono (P:=fun p σ'=>p=.lst ((if script.isEmpty then [8,0,20,3] else script).map .int)/\σ'=⟨[("script",.lst (script.map .int))],σ.zone⟩) ?_ ?_
  ·refine zoH ?_
   refine za hk (by rfl) ?_
   refine zmy (by rw [List.length_map];lia) ?_
   cases script with
   | nil =>
    show EV _ _ _ _ _ _
    refine zb5 ?_
    repeat walk_at "st"
    first | exact ⟨by simp,rfl,rfl⟩ | exact ⟨rfl,rfl⟩ | exact rfl
   | cons a r=>exact ⟨rfl,rfl⟩
  rintro _ _ ⟨rfl,rfl⟩
  refine zjD ?_
  refine zdk ?_
  refine zx ?_
  refine ⟨_,rfl,?_⟩
  refine zqm (by rw [List.length_map];split <;> first | decide | lia) ?_
  refine zb5 ?_
  repeat walk_at "st"
  have hsl:sl (((if script.isEmpty then [8,0,20,3] else script):List Int).map PV.int) none (some 4)=((if script.isEmpty then [8,0,20,3] else script).take 4).map .int:=zno _
  rw [hsl]
  refine zlh (by simp -iota;lia) ?_
  rw [show (((if script.isEmpty then [8,0,20,3] else script):List Int).take 4).map PV.int++[.int 2,.int 0,.int 98]=(zcu script).map .int from by unfold zcu;simp]
  generalize hns:zcu script=ns
  refine zb ?_
  refine zd hk ?_
  refine zh ?_
  refine zg hk h.sum ?_
  refine ⟨_,rfl,rfl,?_⟩
  refine zc ?_
  refine za hk (by rfl) ?_
  refine zf ?_
  refine zks hr0 ?_
  generalize hx:ns.sum=x
  refine zb ?_
  refine zd hk ?_
  refine zw hfa1 ?_
  refine zl hk h.alts.glob ?_
  refine ⟨rfl,?_⟩
  repeat walk_at "st"
  refine zhc (Rm.le hr' (by decide)) h.alts ?_
  refine zb ?_
  refine zd hk ?_
  refine zb5 ?_
  repeat walk_at "st"
  have ha2:(zed (x.fdiv 7)).length=2:=rfl
  refine zcK (by decide) (by rw [ha2];decide) (by rw [ha2];decide) ?_
  repeat walk_at "st"
  refine zcK (by decide) (by rw [ha2];decide) (by rw [ha2];decide) ?_
  repeat walk_at "st"
  rw [show ([tx [(zed (x.fdiv 7)).getD (0:Int).toNat 0],tx [61],tx [32],tx [(zed (x.fdiv 7)).getD (1:Int).toNat 0],tx [9]]:List PV)=(ze9 x).map fun c=>tx [c] from rfl]
  refine zlh (by rw [List.length_map];exact Nat.le_of_ble_eq_true rfl) ?_
  have h5:=zm x 5 (by decide)
  have h3:=zm (x.fdiv 5) 3 (by decide)
  refine zdk ?_
  repeat walk_at "st"
  refine ⟨_,rfl,?_⟩
  refine zdk ?_
  repeat walk_at "st"
  refine ⟨_,rfl,?_⟩
  refine zqm (by rw [List.length_append,List.length_map];exact Nat.le_of_ble_eq_true rfl) ?_
  have hsg:sl (((ze9 x).map fun c=>tx [c])++((ze9 x).map fun c=>tx [c])) (some (x.fmod 5)) (some (x.fmod 5+1+(x.fdiv 5).fmod 3))=(zar x).map fun c=>tx [c]:=by
   obtain ⟨a,ha⟩:=Int.eq_ofNat_of_zero_le h5.1
   obtain ⟨b,hb⟩:=Int.eq_ofNat_of_zero_le h3.1
   have h51:=h5.2
   have h31:=h3.2
   unfold zar
   rw [ha] at h51 ⊢
   rw [hb] at h31 ⊢
   rw [show ((a:Int)+1+(b:Int))=((a+1+b:Nat):Int) by lia,zoh (show a<=10 from Nat.le_trans (Nat.le_of_lt (Int.ofNat_lt.mp h51)) (by decide)) (show a+1+b<=10 from Nat.le_trans (Nat.add_le_add (Nat.add_le_add_right (Nat.le_of_lt (Int.ofNat_lt.mp h51)) 1) (Nat.le_of_lt (Int.ofNat_lt.mp h31))) (by decide))]
   rw [<- List.map_append,<- List.map_drop,<- List.map_take,Int.toNat_natCast,Int.toNat_natCast]
   rw [Nat.add_assoc,Nat.add_sub_cancel_left]
  rw [hsg]
  refine zb ?_
  refine z4 (names:=["width","name"]) hr0 ?_
  repeat walk_at "st"
  refine zgX (za6 (by decide)) ?_
  repeat walk_at "st"
  refine ⟨_,rfl,rfl,?_⟩
  repeat walk_at "asg"
  have hsub:∀ c∈zar x,c∈zbj:=zg0 x
  have hsl3:(zar x).length<=3:=by
   unfold zar;rw [List.length_take];exact Nat.le_trans (Nat.min_le_left _ _) (Nat.add_le_add_left (Nat.le_of_lt_succ (leG h3)) 1)
  refine zb ?_
  refine zbD (cl:=[]) (caps:=[]) hk ⟨rfl,rfl,rfl,rfl,fun x hx=>by cases hx⟩ ?_
  refine zcy ?_
  refine za hk (by rfl) ?_
  refine ⟨_,zcz hr0,?_⟩
  intro D C
  refine zaC (fun (c:Nat)=>tx [c]) (fun (c:Nat)=>(zaB c).pv) ?_ (by simp -iota;lia) ?_
  ·intro c hc acc
   obtain ⟨pa,pb,ok⟩:=zqf (hsub c hc)
   refine zay (by walk_at "env") ?_
   refine zcQ ?_
   refine zc ?_
   refine za (by walk_at "env") (by left) ?_
   refine zc ?_
   refine zw hfa3 ?_
   refine zl (by walk_at "env") h.sets.glob ?_
   refine ⟨rfl,?_⟩
   refine zc ?_
   refine zw hfa4 ?_
   refine zl (by walk_at "env") h.trl.glob ?_
   refine ⟨rfl,?_⟩
   refine zc ?_
   refine zw hfa2 ?_
   refine zl (by walk_at "env") h.pat.glob ?_
   refine ⟨rfl,?_⟩
   refine zc ?_
   refine za (by walk_at "env") (by left) ?_
   refine zf ?_
   refine zeH (Rm.le hr' (by decide)) h.pat ?_
   refine zf ?_
   refine zf9 (Rm.le hr' (by decide)) h.trl h.tr h.join h.obj (by have:=ok.lp;lia) ok.tr (by have:=ok.la;lia) (by have:=ok.lb;lia) ?_
   refine zf ?_
   refine zhL (Rm.le hr' (by decide)) h.sets h.len ok.st ok.en rfl ok.run (by have:=ok.la;have:=ok.lb;unfold zdK;simp -iota;lia) ?_
   refine zf ?_
   refine ⟨by simp,?_,rfl,by walk_at "sub"⟩
   unfold zbE.pv
   rw [zeV]
   rfl
  show EXs _ _ _ _ _ _
  refine zb ?_
  refine zaA ?_
  refine zaF ?_
  refine zaI (cl:=[]) (caps:=[]) ⟨rfl,rfl,rfl,rfl,fun x hx=>by simp -iota at hx⟩ ?_
  refine zcy ?_
  refine za hk (by left) ?_
  refine ⟨_,zcz hr0,?_⟩
  intro D2 C2
  refine zcA (fun p=>p) (fun _=>false) ?_ (by simp -iota;lia) ?_
  ·intro p hp acc
   simp -iota only [List.nil_append,List.mem_map] at hp
   obtain ⟨c,hc,rfl⟩:=hp
   refine zdp (Rm.le hr' (by decide)) rfl ?_
   repeat walk_at "asg"
   refine ze ?_
   refine zh ?_
   refine zg (by walk_at "env") h.len ?_
   refine ⟨_,rfl,rfl,?_⟩
   refine zc ?_
   refine za (by walk_at "env") (by left) ?_
   refine zf ?_
   refine zdH (by simp -iota) ?_
   refine zx ?_
   refine zor ?_
   refine zk ?_
   refine ⟨rfl,rfl,by walk_at "sub"⟩
  have hfil:∀ l:List PV,l.filter (fun _=>false)=[]:=fun l=>by
   induction l with
   | nil=>rfl
   | cons _ _ ih=>rw [List.filter_cons];exact ih
  rw [hfil]
  refine zmy (by simp -iota) ?_
  show EXs _ _ _ _ _ _
  refine zi ?_
  have hns7:ns.length<=7:=by rw [<- hns];unfold zcu;rw [List.length_append,List.length_take];simp -iota;lia
  have hlt:∀ n∈zat x,n < 256:=zm2 x
  refine zb ?_
  refine zd hk ?_
  refine zw hfa5 ?_
  refine zl hk h.words.glob ?_
  refine ⟨rfl,?_⟩
  refine zc ?_
  refine za hk (by left) ?_
  refine zc ?_
  refine za hk (by left) ?_
  refine zc ?_
  refine zgF ?_
  repeat walk_at "st"
  refine zgf (Rm.le hr' (by decide)) h.words h.word h.writing h.range h.len h.rev rfl (by lia) ?_
  refine zb ?_
  refine zd hk ?_
  refine zh ?_
  refine zg hk h.bytes ?_
  refine ⟨_,rfl,rfl,?_⟩
  refine zc ?_
  refine zaI (cl:=[]) (caps:=[]) ⟨rfl,rfl,rfl,rfl,fun x hx=>by simp -iota at hx⟩ ?_
  refine zcy ?_
  refine za hk (by left) ?_
  refine ⟨zhr (ofL (zat x)),zoc hr0,?_⟩
  rw [zik]
  intro D3 C3
  refine zaC (fun (c:Nat)=>tx [c]) (fun (c:Nat)=>.int (c:Int)) ?_ (by show 0+2<=1000000;decide) ?_
  ·intro c hc acc
   refine zay (by walk_at "env") ?_
   refine zh ?_
   refine zg (by walk_at "env") h.ord ?_
   refine ⟨_,rfl,rfl,?_⟩
   refine zc ?_
   refine za (by walk_at "env") (by left) ?_
   refine zf ?_
   refine zq3 ?_
   refine ⟨rfl,rfl,by walk_at "sub"⟩
  rw [List.nil_append]
  refine zf ?_
  refine zgS hr0 hlt (by show 2<=16777216;decide) ?_
  generalize hws:zaf (zed (x.fdiv 7)) _ true ns=ws
  have hwok:∀ w∈ws,w.gap.length<=5/\w.octs.length<=8/\∀ n∈w.octs,n < 256:=by
   rw [<- hws];exact zgP ns true
  have hwl:ws.length<=7:=by rw [<- hws,zbu];exact hns7
  refine zb ?_
  refine zd hk ?_
  refine zt _ ?_ (by walk_at "lit")
  refine zb ?_
  refine zdP ?_
  refine zcy ?_
  refine za hk (by left) ?_
  refine ⟨_,zcz hr0,?_⟩
  refine zaQ (fun xs σ'=>∃ done rest,ws=done++rest/\xs=rest.map z7.pv/\∃ loc',σ'=⟨loc',σ.zone⟩/\Sub loc' [("alts",tx (zat x)),("two",.byt ((zat x).map fun (n:Nat)=>n.toUInt8).toArray),("told",tx (zbB (zat x) done)),("words",.lst (ws.map z7.pv)),("rules",.lst ((zar x).map fun c=>(zaB c).pv)),("signs",.lst ((zar x).map fun c=>tx [c])),("width",.int (zir x)),("name",.int (zgi x))]) ?_ ?_ _ _ ⟨[],ws,rfl,rfl,_,rfl,by walk_at "sub"⟩
  ·rintro _ ⟨done,rest,hdr,hx2,loc',rfl,hsb⟩
   have hrest:rest=[]:=by cases rest with | nil=>rfl | cons a b=>cases hx2
   subst hrest
   rw [List.append_nil] at hdr
   subst hdr
   obtain ⟨bare,hws⟩:∃ bare,zaf (zat x) bare true ns=ws:=⟨_,hws⟩
   have hn3:=zm (x.fdiv 2) 3 (by decide)
   have hname:zgi x=((zgi x).toNat:Nat):=by unfold zgi;lia
   have hname2:(zgi x).toNat<=1000:=by unfold zgi;lia
   have hnsne:ns≠[]:=fun q=>by rw [<- hns] at q;unfold zcu at q;simp -iota at q
   have PL:=zmG (x:=x) (bare:=bare) (ns:=ns) hnsne (by lia) (width:=zir x) (name:=(zgi x).toNat) hname2
   dsimp -iota only at PL
   rw [hws,<- hname] at PL
   obtain ⟨pl1,pl2,pl3,pl4⟩:=PL
   have htl:(zbB (zat x) ws).length<=100000:=by
    have h1:=zhA (alts:=zat x) ws fun w hw=>⟨(hwok w hw).1,(hwok w hw).2.1⟩
    lia
   refine zaS (Sub.weak' hsb rfl) ?_
   refine zi ?_
   refine zb ?_
   refine zd hk ?_
   refine zw hfa7 ?_
   refine zl hk h.folded.glob ?_
   refine ⟨rfl,?_⟩
   refine zc ?_
   refine za hk (by left) ?_
   refine zc ?_
   refine za hk (by left) ?_
   refine zc ?_
   refine za hk (by left) ?_
   refine zc ?_
   refine zau ?_
   refine zt _ ?_ (by walk_at "lit")
   refine ⟨_,zcx,?_⟩
   refine zc ?_
   refine za hk (by left) ?_
   refine zf ?_
   rw [show ((zar x).map fun c=>tx [c])=((zar x).map fun c=>[c]).map tx from by rw [List.map_map];rfl]
   have hjs:zaq [] ((zar x).map fun c=>[c])=zar x:=by
    have:∀ l:List Nat,zaq [] (l.map fun k=>[k])=l:=fun l=>by
     rw [zbv]
     induction l with
     | nil=>rfl
     | cons a r ih=>rw [List.map_cons,List.flatten_cons,ih];rfl
    exact this _
   refine zfj (by
    unfold zaT
    have:(((zar x).map fun k=>[k]).map (·.length)).sum=(zar x).length:=by
     have:∀ l:List Nat,((l.map fun k=>[k]).map (·.length)).sum=l.length:=fun l=>by
      induction l with
      | nil=>rfl
      | cons a r ih=>rw [List.map_cons,List.map_cons,List.sum_cons,ih,List.length_cons];simp -iota;lia
     exact this _
    rw [this];simp -iota;lia) ?_
   rw [hjs]
   refine zf ?_
   refine zfl (Rm.le hr' (by decide)) h.folded h.vfok h.re1 h.pat1 (by lia) (by lia) (by lia) htl pl1 pl3 ?_
   dsimp -iota only
   rw [zoI]
   refine zb ?_
   refine zaA ?_
   refine ze ?_
   refine za hk (by left) ?_
   have hrules:((zar x).map fun c=>(zaB c).pv)=((zar x).map zaB).map zbE.pv:=by rw [List.map_map];rfl
   refine zw hfa8 ?_
   refine zl hk h.rows.glob ?_
   refine ⟨rfl,?_⟩
   refine zc ?_
   refine za hk (by left) ?_
   refine zc ?_
   refine za hk (by left) ?_
   refine zc ?_
   refine za hk (by left) ?_
   refine zc ?_
   refine za hk (by left) ?_
   refine zc ?_
   refine za hk (by left) ?_
   refine zc ?_
   refine ze7 ?_
   refine zf ?_
   rw [hrules]
   have law:=fun (turned:Bool) {P:PV->AS->Prop} {σ:AS} (hp:P (.lst ((zcj ws (zir x) (zgi x).toNat ((zar x).map zaB) (zat x) turned).map tx)) σ)=>zht (F:=zap (mkF 37 "law" c pm) L f) (Rm.le hr' (by decide)) h.rows h.place h.oct h.byPat h.last h.len h.range h.sum (alts:=zat x) rfl pl2 (by lia) hp
   simp -iota only [<- hname] at law
   refine law false ?_
   refine zoC hr0 ?_
   refine zk ?_
   rw [pl4 false,decide_eq_true rfl]
   show EXs _ _ _ _ _ _
   refine zi ?_
   refine zb ?_
   refine zan ?_
   refine zgF ?_
   refine za hk (by left) ?_
   refine zw hfa8 ?_
   refine zl hk h.rows.glob ?_
   refine ⟨rfl,?_⟩
   refine zc ?_
   refine za hk (by left) ?_
   refine zc ?_
   refine za hk (by left) ?_
   refine zc ?_
   refine za hk (by left) ?_
   refine zc ?_
   refine za hk (by left) ?_
   refine zc ?_
   refine za hk (by left) ?_
   refine zc ?_
   refine ze7 ?_
   refine zf ?_
   refine law true ?_
   refine zoK hr0 ?_
   rw [show zcj ws (zir x) (zgi x).toNat ((zar x).map zaB) (zat x) false=zcj ws (zir x) (zgi x).toNat ((zar x).map zaB) (zat x) true from by rw [<- pl4 false,pl4 true],decide_eq_true rfl]
   exact zcp.mk [] rfl hP
  ·intro I Q back out;rintro _ xs _ ⟨done,rest,hdr,hx,loc',rfl,hsb⟩
   cases rest with
   | nil=>cases hx
   | cons w rest =>
    cases hx
    obtain ⟨g1,g2,g3⟩:=hwok w (by rw [hdr];simp -iota)
    have htl:(zbB (zat x) done).length<=1000000:=by
     have h1:=zhA (alts:=zat x) done fun w hw=>⟨(hwok w (by rw [hdr];simp -iota [hw])).1,(hwok w (by rw [hdr];simp -iota [hw])).2.1⟩
     have h2:done.length<=ws.length:=by rw [hdr,List.length_append];lia
     lia
    refine zdN (Sub.weak' hsb rfl) (fun _ h=>h) ?_
    refine zdp (Rm.le hr' (by decide)) rfl ?_
    repeat walk_at "asg"
    refine zb ?_
    refine zaN hk (by left) ?_
    refine zac ?_
    refine za hk (by left) ?_
    refine zau ?_
    refine zt _ ?_ (by walk_at "lit")
    refine ⟨_,zcx,?_⟩
    refine zc ?_
    refine zaI (cl:=[]) (caps:=[]) ⟨rfl,rfl,rfl,rfl,fun x hx=>by simp -iota at hx⟩ ?_
    refine zcy ?_
    refine zw hfa6 ?_
    refine zl hk h.b64.glob ?_
    refine ⟨rfl,?_⟩
    refine zc ?_
    refine zh ?_
    refine zg hk h.bytes ?_
    refine ⟨_,rfl,rfl,?_⟩
    refine zc ?_
    refine za hk (by left) ?_
    refine zf ?_
    refine zgS (ns:=w.octs) hr0 g3 (by lia) ?_
    refine zc ?_
    refine za hk (by left) ?_
    refine zf ?_
    have hal:(((zat x).map fun (n:Nat)=>n.toUInt8).toArray:Array UInt8) = #[((zat x).getD 0 0).toUInt8,((zat x).getD 1 0).toUInt8]:=rfl
    rw [hal]
    refine znE (Rm.le hr' (by decide)) h.b64 h.b2a h.len g3 (by lia) (by have:=zjP w.octs;lia) (hlt _ (zn4 x)) (hlt _ (zn5 x)) ?_
    have henc:∀ n∈(b2a w.octs).map (zkV ((zat x).getD 0 0) ((zat x).getD 1 0)),n < 256:=by
     intro n hn
     obtain ⟨k,hk1,rfl⟩:=List.mem_map.mp hn
     unfold zkV
     split
     ·exact hlt _ (zn5 x)
     ·split
      ·exact hlt _ (zn4 x)
      ·exact zn1 k hk1
    have hbl:=zjP w.octs
    refine ⟨_,znZ hr0,?_⟩
    rw [zpl henc]
    generalize henl:(b2a w.octs).map (zkV ((zat x).getD 0 0) ((zat x).getD 1 0))=en at henc
    have henll:en.length<=19:=by rw [<- henl,List.length_map];lia
    intro D4 C4
    refine zaC (fun (k:Nat)=>.int (k:Int)) (fun (k:Nat)=>tx [k]) ?_ (by simp -iota;lia) ?_
    ·intro k hkm acc
     have:=henc k hkm
     refine zay (by walk_at "env") ?_
     refine zh ?_
     refine zg (by walk_at "env") h.chr ?_
     refine ⟨_,rfl,rfl,?_⟩
     refine zc ?_
     refine za (by walk_at "env") (by left) ?_
     refine zf ?_
     refine zpv (by lia) ?_
     refine ⟨rfl,rfl,by walk_at "sub"⟩
    rw [List.nil_append,show (en.map fun (k:Nat)=>tx [k])=(en.map fun k=>[k]).map tx from by rw [List.map_map];rfl]
    refine zf ?_
    have hj:zaq [] (en.map fun k=>[k])=en:=by
     have:∀ l:List Nat,zaq [] (l.map fun k=>[k])=l:=fun l=>by
      rw [zbv]
      induction l with
      | nil=>rfl
      | cons a r ih=>rw [List.map_cons,List.flatten_cons,ih];rfl
     exact this en
    refine zfj (by
     unfold zaT
     have:((en.map fun k=>[k]).map (·.length)).sum=en.length:=by
      have:∀ l:List Nat,((l.map fun k=>[k]).map (·.length)).sum=l.length:=fun l=>by
       induction l with
       | nil=>rfl
       | cons a r ih=>rw [List.map_cons,List.map_cons,List.sum_cons,ih,List.length_cons];simp -iota;lia
      exact this en
     rw [this];simp -iota;lia) ?_
    rw [hj]
    refine zbd (by lia) ?_
    refine zl8 (by rw [List.length_append];lia) ?_
    refine zi ?_
    have ht:zbB (zat x) done++(w.gap++en)=zbB (zat x) (done++[w]):=by
     unfold zbB
     rw [List.map_append,List.flatten_append,<- henl]
     simp -iota [zfD]
    rw [ht]
    refine ⟨_,za1.refl,fun _ h=>h,back _ _ ⟨done++[w],rest,by rw [hdr];simp,rfl,_,rfl,by walk_at "sub"⟩⟩
end
section
open PySem.W PySem.Builtin PySem.Builtin.ObjectAttr
noncomputable abbrev gl (w:World)(h:Heap)(os:OsState):Gl:=⟨P1,w,h,os,none⟩
noncomputable def zmP (o:Obj):Array DictEntry:=match o.data with
 | .dict es _=>es
 | _=>#[]
noncomputable def mgl (P:Params)(x:Str):Option Value:=((zmP (hO3 P)).toList.find? fun e=>e.key.isStr x).map (·.val)
structure zmO (w:World)(h:Heap):Prop where
 kin:(hK w.params).In h
 tin:(hT w.params).In h
 mg:∃ mg,h.Ns mainGlobals mg/\∀ x,mg x=mgl w.params x
 b:∃ mb ob,h.Ns builtinsNs mb/\(∀ x:Str,x≠"__name__"->mb x=bootBuiltins x)/\h.get? builtinsNs=some ob/\ob.cls=.type "dict"
 bm:∃ bm ob,mgl w.params "__builtins__" = some (.ref bm)/\bm≠builtinsNs/\h.get? bm=some ob/\ob.cls=.type "module"/\ob.dict=some builtinsNs/\ob.data=.plain
 st:∃ o,h.get? cStatics=some o/\staticOf h "thirdparty.any" = none
theorem zd0:bootBuiltins "super" = some (.type "super"):=by decide +kernel
theorem zci {v:Value}{s:String}(e:v=.type s):v≠.none:=by rw [e];nofun
section
variable {w:World}{h:Heap}{os:OsState}
theorem zmO.at_ (E:zmO w h){a:Addr}{o:Params->Obj}(e:∀ P,(hK P).lookup a=some (o P)):h.get? a=some (o w.params):=E.kin _ _ (e _)
theorem zmO.tab (E:zmO w h){a:Addr}{o:Params->Obj}(e:∀ P,(hT P).lookup a=some (o P)):h.get? a=some (o w.params):=E.tin _ _ (e _)
theorem zmO.glob (E:zmO w h){x:Str}{v:Value}(e:mgl w.params x=some v):(gl w h os).Glob x v:=by
 obtain ⟨mg,h1,h2⟩:=E.mg
 exact ⟨mg,_,h1,E.at_ hk3,zci (s:="dict") rfl,(h2 x).trans e⟩
theorem zmO.blt (E:zmO w h){x:Str}{v:Value}(e:mgl w.params x=none)(hx:x≠"__name__")(hb:bootBuiltins x=some v):(gl w h os).Blt x v:=by
 obtain ⟨mg,h1,h2⟩:=E.mg
 obtain ⟨mb,ob,b1,b2,b3,b4⟩:=E.b
 exact ⟨mg,_,mb,ob,h1,E.at_ hk3,zci (s:="dict") rfl,(h2 x).trans e,b1,b3,zci b4,(b2 x hx).trans hb⟩
theorem zad {g:Gl}{f c:Addr}{fd:FuncData}{body:List Stmt}{oc:Obj}{vs:Array Value}{t:Tok}(h1:g.h₁.get? f=some (zth fd))(bd:fd.body=.stmts body)(k:fd.scope.kind=.function)(gn:fd.scope.isGenerator=false)(co:fd.scope.isCoroutine=false)
  (gg:fd.globals=mainGlobals) (bl:fd.builtins=builtinsNs) (hc:fd.code=.ref c) (h2:g.h₁.get? c=some oc) (ec:oc.cls=.type "code") (ed:oc.data=.fields vs) (hv:vs[1]?=some (.str fd.qualname t)):zdB g f fd body :=
 ⟨⟨_,h1,zci (s:="function") rfl,rfl⟩,bd,k,gn,co,gg,bl,c,oc,vs,t,hc,h2,zci ec,ed,hv⟩
theorem ze5 {g:Gl}{c Pt:Addr}{oc:Obj}{vs:Array Value}{file text:_}{tf tg tt:Tok}{flags:Int}{inF:Bool}(h2:g.h₁.get? c=some oc)(ec:oc.cls=.type "code")(ed:oc.data=.fields vs)(a1:vs[11]?=some (.ref Pt))(a2:vs.getD 11 .none=.ref Pt)(a3:vs.getD 18 .none=.str file tf)
  (a4:vs.getD 7 .none=.int flags tg) (a5:vs.getD 9 .none=.bool inF) (a6:vs.getD 10 .none=.int text tt) (ne:c≠Pt) (h3:g.h₁.get? Pt=some (zqz #[])) (nc:Pt≠cStatics):zbi g c Pt :=
 ⟨⟨oc,vs,file,tf,flags,tg,inF,text,tt,h2,ec,ed,a1,a2,a3,a4,a5,a6,ne⟩,⟨#[],h3,trivial⟩,nc⟩
theorem zkw {g:Gl}{fd:FuncData}{ds:Array Value}{T n:Nat}{o:Obj}(h1:g.h₁.get? T=some o)(hd:fd.defaults=.ref T)(hc:o.cls=.type "tuple")(e:o.data=.seq ds n):zgN g fd ds:=⟨T,o,n,hd,h1,zci hc,e⟩
theorem zpf {g:Gl}{fd:FuncData}{c:Addr}{oc:Obj}{vs:Array Value}{file:Str}{tf:Tok}(hks:fd.scope.names.lookup ("super":Str)=some .globalImplicit)(hkc:fd.scope.names.lookup ("__class__":Str)=some .free)
  (hp:∃ ar,(fd.params.posonlyargs++fd.params.args).head?=some ar/\ar.arg = "self") (h2:g.h₁.get? c=some oc) (hc:fd.code=.ref c) (ec:oc.cls=.type "code") (ed:oc.data=.fields vs) (a:vs[2]?=some (.str file tf)) (b:((g.prog.main.file:Str)==file)=true)
  (ht:(g.prog.main.scope.names.lookup ("super":Str)).isSome=false) (bl:g.Blt "super" (.type "super")):znD g fd:=⟨hks,hkc,hp,⟨c,oc,vs,file,tf,hc,h2,zci ec,ed,a,b⟩,ht,bl⟩
theorem zlR {g:Gl}{fd:FuncData}{C cc:Addr}{o:Obj}(h1:g.h₁.get? cc=some o)(e:fd.closure.lookup ("__class__":Str)=some cc)(hc:o.cls=.type "cell")(d:o.data=.cell (some (.ref C))):zhN g fd C:=⟨cc,o,e,h1,zci hc,d⟩
variable (E:zmO w h)
include E
theorem gf9:Fn (gl w h os) 9 "_buffer" 211:=⟨E.glob (by kernel_rfl),210,(hS "binascii" 533),(zad (E.at_ zti) rfl rfl rfl rfl rfl rfl rfl (E.at_ zs2) rfl rfl rfl)⟩
theorem zuI:Fn (gl w h os) 10 "_truth" 218:=⟨E.glob (by kernel_rfl),217,(hS "binascii" 533),(zad (E.at_ ztV) rfl rfl rfl rfl rfl rfl rfl (E.at_ ztF) rfl rfl rfl)⟩
theorem zvi:Fn (gl w h os) 17 "translate" 246:=⟨E.glob (by kernel_rfl),245,(hS "cpy313.fnmatch" 578),(zad (E.at_ zsn) rfl rfl rfl rfl rfl rfl rfl (E.at_ zsP) rfl rfl rfl)⟩
theorem zuF:Fn (gl w h os) 20 "escape" 258:=⟨E.glob (by kernel_rfl),257,(hS "re" 627),(zad (E.at_ ztw) rfl rfl rfl rfl rfl rfl rfl (E.at_ zs5) rfl rfl rfl)⟩
theorem zuS:Fn (gl w h os) 22 "_translate" 265:=⟨E.glob (by kernel_rfl),264,(hS "cpy313.fnmatch" 782),(zad (E.at_ zpT) rfl rfl rfl rfl rfl rfl rfl (E.at_ zo5) rfl rfl rfl)⟩
theorem zuL:Fn (gl w h os) 23 "_join_translated_parts" 272:=⟨E.glob (by kernel_rfl),271,(hS "cpy313.fnmatch" 782),(zad (E.at_ zsH) rfl rfl rfl rfl rfl rfl rfl (E.at_ zr2) rfl rfl rfl)⟩
theorem zuK:Fn (gl w h os) 25 "_law_alts" 279:=⟨E.glob (by kernel_rfl),278,(hS "law_in0222_01" 816),(zad (E.at_ zsA) rfl rfl rfl rfl rfl rfl rfl (E.at_ zs6) rfl rfl rfl)⟩
theorem zvp:Fn (gl w h os) 26 "_law_word" 286:=⟨E.glob (by kernel_rfl),285,(hS "law_in0222_01" 816),(zad (E.at_ zsw) rfl rfl rfl rfl rfl rfl rfl (E.at_ zsM) rfl rfl rfl)⟩
theorem zvn:Fn (gl w h os) 27 "_law_writing" 291:=⟨E.glob (by kernel_rfl),290,(hS "law_in0222_01" 816),(zad (E.at_ zsD) rfl rfl rfl rfl rfl rfl rfl (E.at_ zso) rfl rfl rfl)⟩
theorem zvg:Fn (gl w h os) 28 "_law_words" 298:=⟨E.glob (by kernel_rfl),297,(hS "law_in0222_01" 816),(zad (E.at_ ztt) rfl rfl rfl rfl rfl rfl rfl (E.at_ ztb) rfl rfl rfl)⟩
theorem zvm:Fn (gl w h os) 29 "_law_pattern" 305:=⟨E.glob (by kernel_rfl),304,(hS "law_in0222_01" 816),(zad (E.at_ zr7) rfl rfl rfl rfl rfl rfl rfl (E.at_ zsU) rfl rfl rfl)⟩
theorem zuH:Fn (gl w h os) 30 "_law_sets" 312:=⟨E.glob (by kernel_rfl),311,(hS "law_in0222_01" 816),(zad (E.at_ ztz) rfl rfl rfl rfl rfl rfl rfl (E.at_ zs1) rfl rfl rfl)⟩
theorem zu4:Fn (gl w h os) 31 "_law_last" 319:=⟨E.glob (by kernel_rfl),318,(hS "law_in0222_01" 816),(zad (E.at_ zsO) rfl rfl rfl rfl rfl rfl rfl (E.at_ zte) rfl rfl rfl)⟩
theorem zuP:Fn (gl w h os) 32 "_law_by_octets" 324:=⟨E.glob (by kernel_rfl),323,(hS "law_in0222_01" 816),(zad (E.at_ ztu) rfl rfl rfl rfl rfl rfl rfl (E.at_ zsV) rfl rfl rfl)⟩
theorem zvo:Fn (gl w h os) 33 "_law_by_pattern" 329:=⟨E.glob (by kernel_rfl),328,(hS "law_in0222_01" 816),(zad (E.at_ zsi) rfl rfl rfl rfl rfl rfl rfl (E.at_ zsh) rfl rfl rfl)⟩
theorem zu6:Fn (gl w h os) 34 "_law_place" 336:=⟨E.glob (by kernel_rfl),335,(hS "law_in0222_01" 816),(zad (E.at_ zsy) rfl rfl rfl rfl rfl rfl rfl (E.at_ zta) rfl rfl rfl)⟩
theorem zva:Fn (gl w h os) 35 "_law_rows" 341:=⟨E.glob (by kernel_rfl),340,(hS "law_in0222_01" 816),(zad (E.at_ zs4) rfl rfl rfl rfl rfl rfl rfl (E.at_ zr1) rfl rfl rfl)⟩
theorem zu2:Fn (gl w h os) 36 "_law_folded" 348:=⟨E.glob (by kernel_rfl),347,(hS "law_in0222_01" 816),(zad (E.at_ zsa) rfl rfl rfl rfl rfl rfl rfl (E.at_ zsT) rfl rfl rfl)⟩
theorem zvf:Fn (gl w h os) 37 "law" 353:=⟨E.glob (by kernel_rfl),352,(hS "law_in0222_01" 816),(zad (E.at_ zs7) rfl rfl rfl rfl rfl rfl rfl (E.at_ ztj) rfl rfl rfl)⟩
theorem znO:MFn (gl w h os) (hK w.params) 116 6 0 "__init__" "_ValueFormatter.__init__" 57:=⟨by kernel_rfl,by kernel_rfl,56,(hS "cpy313.email.header" 289),(zad (E.at_ zuU) rfl rfl rfl rfl rfl rfl rfl (E.at_ zur) rfl rfl rfl),⟨52,ze5 (E.at_ zur) rfl rfl rfl rfl rfl rfl rfl rfl (by decide) (E.tab zuw) (by decide)⟩⟩
theorem zoU:MFn (gl w h os) (hK w.params) 116 6 1 "_str" "_ValueFormatter._str" 64:=⟨by kernel_rfl,by kernel_rfl,63,(hS "cpy313.email.header" 289),(zad (E.at_ zup) rfl rfl rfl rfl rfl rfl rfl (E.at_ ztZ) rfl rfl rfl),⟨59,ze5 (E.at_ ztZ) rfl rfl rfl rfl rfl rfl rfl rfl (by decide) (E.tab zux) (by decide)⟩⟩
theorem zjI:MFn (gl w h os) (hK w.params) 116 6 3 "newline" "_ValueFormatter.newline" 78:=⟨by kernel_rfl,by kernel_rfl,77,(hS "cpy313.email.header" 289),(zad (E.at_ zuO) rfl rfl rfl rfl rfl rfl rfl (E.at_ zum) rfl rfl rfl),⟨73,ze5 (E.at_ zum) rfl rfl rfl rfl rfl rfl rfl rfl (by decide) (E.tab zuE) (by decide)⟩⟩
theorem znA:MFn (gl w h os) (hK w.params) 116 6 5 "feed" "_ValueFormatter.feed" 92:=⟨by kernel_rfl,by kernel_rfl,91,(hS "cpy313.email.header" 289),(zad (E.at_ zuM) rfl rfl rfl rfl rfl rfl rfl (E.at_ zt2) rfl rfl rfl),⟨87,ze5 (E.at_ zt2) rfl rfl rfl rfl rfl rfl rfl rfl (by decide) (E.tab zuG) (by decide)⟩⟩
theorem zfo:MFn (gl w h os) (hK w.params) 116 6 7 "_ascii_split" "_ValueFormatter._ascii_split" 106:=⟨by kernel_rfl,by kernel_rfl,105,(hS "cpy313.email.header" 289),(zad (E.at_ ztS) rfl rfl rfl rfl rfl rfl rfl (E.at_ zrg) rfl rfl rfl),⟨101,ze5 (E.at_ zrg) rfl rfl rfl rfl rfl rfl rfl rfl (by decide) (E.tab ztH) (by decide)⟩⟩
theorem zeA:MFn (gl w h os) (hK w.params) 116 6 8 "_append_chunk" "_ValueFormatter._append_chunk" 113:=⟨by kernel_rfl,by kernel_rfl,112,(hS "cpy313.email.header" 289),(zad (E.at_ zse) rfl rfl rfl rfl rfl rfl rfl (E.at_ zpw) rfl rfl rfl),⟨108,ze5 (E.at_ zpw) rfl rfl rfl rfl rfl rfl rfl rfl (by decide) (E.tab zsW) (by decide)⟩⟩
theorem znP:zq4 (gl w h os) (hK w.params) 200 7 0 "__init__" "_Accumulator.__init__" 137 #[(.int 0 449)]:=⟨by kernel_rfl,by kernel_rfl,136,(hS "cpy313.email.header" 289),130,124,129,(zad (E.at_ ztl) rfl rfl rfl rfl rfl rfl rfl (E.at_ zqd) rfl rfl rfl),zkw (E.at_ zs0) rfl rfl rfl,zpf (by kernel_rfl) (by kernel_rfl) ⟨_,rfl,rfl⟩ (E.at_ zqd) rfl rfl rfl rfl (by kernel_rfl) (by kernel_rfl) (E.blt (by kernel_rfl) (by decide) zd0),zlR (E.at_ zoT) rfl rfl rfl⟩
theorem znk:MFn (gl w h os) (hK w.params) 200 7 1 "push" "_Accumulator.push" 144:=⟨by kernel_rfl,by kernel_rfl,143,(hS "cpy313.email.header" 289),(zad (E.at_ zsJ) rfl rfl rfl rfl rfl rfl rfl (E.at_ zri) rfl rfl rfl),⟨139,ze5 (E.at_ zri) rfl rfl rfl rfl rfl rfl rfl rfl (by decide) (E.tab ztJ) (by decide)⟩⟩
theorem ziz:zrY (gl w h os) (hK w.params) 200 7 2 "pop_from" "_Accumulator.pop_from" 152 #[(.int 0 468)]:=⟨by kernel_rfl,by kernel_rfl,151,(hS "cpy313.email.header" 289),145,(zad (E.at_ ztI) rfl rfl rfl rfl rfl rfl rfl (E.at_ ztv) rfl rfl rfl),zkw (E.at_ zsR) rfl rfl rfl⟩
theorem zoW:zrU (gl w h os) (hK w.params) 200 7 3 "pop" "_Accumulator.pop" 160:=⟨by kernel_rfl,by kernel_rfl,159,(hS "cpy313.email.header" 289),153,124,(zad (E.at_ zsz) rfl rfl rfl rfl rfl rfl rfl (E.at_ zpH) rfl rfl rfl),zpf (by kernel_rfl) (by kernel_rfl) ⟨_,rfl,rfl⟩ (E.at_ zpH) rfl rfl rfl rfl (by kernel_rfl) (by kernel_rfl) (E.blt (by kernel_rfl) (by decide) zd0),zlR (E.at_ zoT) rfl rfl rfl⟩
theorem zoB:MFn (gl w h os) (hK w.params) 200 7 4 "__len__" "_Accumulator.__len__" 167:=⟨by kernel_rfl,by kernel_rfl,166,(hS "cpy313.email.header" 289),(zad (E.at_ ztC) rfl rfl rfl rfl rfl rfl rfl (E.at_ zp7) rfl rfl rfl),⟨162,ze5 (E.at_ zp7) rfl rfl rfl rfl rfl rfl rfl rfl (by decide) (E.tab zsm) (by decide)⟩⟩
theorem zoV:MFn (gl w h os) (hK w.params) 200 7 5 "__str__" "_Accumulator.__str__" 174:=⟨by kernel_rfl,by kernel_rfl,173,(hS "cpy313.email.header" 289),(zad (E.at_ zty) rfl rfl rfl rfl rfl rfl rfl (E.at_ zqq) rfl rfl rfl),⟨169,ze5 (E.at_ zqq) rfl rfl rfl rfl rfl rfl rfl rfl (by decide) (E.tab ztL) (by decide)⟩⟩
theorem zlN:zrY (gl w h os) (hK w.params) 200 7 6 "reset" "_Accumulator.reset" 182 #[.none]:=⟨by kernel_rfl,by kernel_rfl,181,(hS "cpy313.email.header" 289),175,(zad (E.at_ zsX) rfl rfl rfl rfl rfl rfl rfl (E.at_ zsS) rfl rfl rfl),zkw (E.at_ zsN) rfl rfl rfl⟩
theorem zhn:MFn (gl w h os) (hK w.params) 200 7 7 "is_onlyws" "_Accumulator.is_onlyws" 189:=⟨by kernel_rfl,by kernel_rfl,188,(hS "cpy313.email.header" 289),(zad (E.at_ zs3) rfl rfl rfl rfl rfl rfl rfl (E.at_ zqB) rfl rfl rfl),⟨184,ze5 (E.at_ zqB) rfl rfl rfl rfl rfl rfl rfl rfl (by decide) (E.tab ztA) (by decide)⟩⟩
theorem zgl:zrU (gl w h os) (hK w.params) 200 7 8 "part_count" "_Accumulator.part_count" 197:=⟨by kernel_rfl,by kernel_rfl,196,(hS "cpy313.email.header" 289),190,124,(zad (E.at_ ztB) rfl rfl rfl rfl rfl rfl rfl (E.at_ zrQ) rfl rfl rfl),zpf (by kernel_rfl) (by kernel_rfl) ⟨_,rfl,rfl⟩ (E.at_ zrQ) rfl rfl rfl rfl (by kernel_rfl) (by kernel_rfl) (E.blt (by kernel_rfl) (by decide) zd0),zlR (E.at_ zoT) rfl rfl rfl⟩
theorem zt6:zn6 (gl w h os):=by
 obtain ⟨mg,h1,h2⟩:=E.mg
 obtain ⟨bm,ob,a,b,c,d,e,f⟩:=E.bm
 exact ⟨mg,_,bm,ob,h1,E.at_ hk3,zci (s:="dict") rfl,(h2 _).trans a,b,c,d,e,f⟩
theorem zvh:zrT (gl w h os):=⟨E.st⟩
theorem zuB:Fg (gl w h os) (hK w.params):=⟨E.kin,fun a o e=>by
 have key:∀ p∈hK w.params,p.2.cls≠.none:=by
  have:((hK w.params).all fun p=>p.2.cls != .none)=true:=by kernel_rfl
  intro p hp
  have:=List.all_eq_true.mp this p hp
  simpa using this
 obtain ⟨l1,l2,e1,-⟩:=List.lookup_eq_some_iff.mp e
 exact key (a,o) (by rw [e1];simp)⟩
noncomputable def zoQ:zmQ:=⟨137,144,152,160,167,174,182,189,197⟩
omit E in
theorem zpb:zaV (hK w.params) 200:={ dict:=⟨_,rfl,rfl⟩,gattr:=by kernel_rfl,ga:=by kernel_rfl,sa:=by kernel_rfl,mro:=⟨_,rfl,rfl⟩ }
theorem zp8:zb8 (gl w h os) (hK w.params) 200 zoQ where
 fg:=zuB E
 ops:=⟨zpb,by kernel_rfl,by kernel_rfl,by kernel_rfl⟩
 typ:=by kernel_rfl
 st:=zvh E
 bm:=zt6 E
 init:=⟨_,znP E⟩
 push:=znk E
 popF:=⟨_,ziz E⟩
 pop:=zoW E
 len:=zoB E
 str:=zoV E
 reset:=zlN E
 ws:=zhn E
 count:=zgl E
 size:=by kernel_rfl
 app:=⟨by kernel_rfl,by kernel_rfl⟩
 nobool:=by kernel_rfl
 makes:=by kernel_rfl
 calls:=by kernel_rfl
 sum:=E.blt (by kernel_rfl) (by decide) (by decide +kernel)
 len_:=E.blt (by kernel_rfl) (by decide) (by decide +kernel)
 str_:=E.blt (by kernel_rfl) (by decide) (by decide +kernel)
 empty:=⟨321,E.glob (by kernel_rfl)⟩
 pushGet:=by kernel_rfl
 pushTk:=by kernel_rfl
noncomputable def zus:VfA:=⟨57,64,71,78,85,92,99,106,113⟩
theorem zs9:zi3 (gl w h os) (hK w.params) 116 200 zus zoQ where
 acc:=zp8 E
 cls:={ dict:=⟨_,rfl,rfl⟩,gattr:=by kernel_rfl,ga:=by kernel_rfl,sa:=by kernel_rfl,plain:=by kernel_rfl }
 init:=znO E
 str_:=zoU E
 nl:=zjI E
 feed:=znA E
 asc:=zfo E
 app:=zeA E
 no1:=by kernel_rfl
 no2:=by kernel_rfl
 no3:=by kernel_rfl
 no4:=by kernel_rfl
 no5:=by kernel_rfl
 no6:=by kernel_rfl
 no7:=by kernel_rfl
 makes:=by kernel_rfl
 calls:=by kernel_rfl
 gAcc:=E.glob (by kernel_rfl)
 gVf:=E.glob (by kernel_rfl)
 range_:=E.blt (by kernel_rfl) (by decide) (by decide +kernel)
 iter_:=E.blt (by kernel_rfl) (by decide) (by decide +kernel)
 zip_:=E.blt (by kernel_rfl) (by decide) (by decide +kernel)
theorem zqo:zo7 (gl w h os) 234:=⟨E.glob (by kernel_rfl),233,_,227,zad (E.at_ zsk) rfl rfl rfl rfl rfl rfl rfl (E.at_ zsd) rfl rfl rfl,zkw (E.at_ ztR) rfl rfl rfl⟩
theorem zrc:zlX (gl w h os) 226 211 218 where
 glob:=E.glob (by kernel_rfl)
 at_:=⟨225,_,219,zad (E.at_ ztr) rfl rfl rfl rfl rfl rfl rfl (E.at_ zsx) rfl rfl rfl⟩
 buf:=gf9 E
 tru:=zuI E
 tab:=⟨551,E.glob (by kernel_rfl)⟩
 ty:=E.blt (by kernel_rfl) (by decide) (by decide +kernel)
 by_:=E.blt (by kernel_rfl) (by decide) (by decide +kernel)
 bo:=E.blt (by kernel_rfl) (by decide) (by decide +kernel)
theorem zpE:Rx.PatOk (gl w h os) 43:=⟨42,_,_,_,_,_,_,_,_,E.at_ zuW,E.at_ zvd,zci (s:="tuple") rfl,rfl,by kernel_rfl⟩
theorem zpx:Rx.Pat2Ok (gl w h os) 239:=⟨238,_,_,_,_,_,_,_,_,E.at_ zs8,E.at_ zsp,zci (s:="tuple") rfl,rfl,by kernel_rfl⟩
noncomputable def znW (c:Nat)(v:Option Value):Bool:=match v with
 | some (.str x _)=>decide (c∈zmh) && decide (x.cps = #[92,c])
 | some _=>false
 | none=>decide (c∉zmh)
omit E in
theorem znM (P:Params):((List.range 128).all fun c=>znW c (((zmP (zgc P)).toList.find? fun e=>Value.isInt (c:Int) e.key).map (·.val)))=true:=by kernel_rfl
omit E in
theorem zl7 (P:Params):((zmP (zgc P)).toList.all fun e=>match e.key with | .int i _=>e.hash==hashInt i | _=>false)=true:=by kernel_rfl
theorem znH:zjT (gl w h os) 248:=by
 intro F σ s S
 refine ⟨by decide,fun i=>findBy (intKind P1 w).is (zmP (zgc w.params)) i,⟨zgc w.params,zmP (zgc w.params),_,S.old.get_of_cls (E.at_ zsC) (zci (s:="dict") rfl),⟨rfl,rfl,rfl⟩,rfl,fun e he=>?_,fun _=>rfl⟩,fun c hc=>?_⟩
 ·have:=List.all_eq_true.mp (zl7 w.params) e (Array.mem_toList_iff.mpr he)
  revert this
  cases hk:e.key with
  | int i t =>
   intro q
   exact ⟨i,by show Value.isInt i (.int i t)=true;simp [Value.isInt],by have:=eq_of_beq q;exact this⟩
  | _=>intro q;cases q
 ·have:=List.all_eq_true.mp (znM w.params) c (List.mem_range.mpr hc)
  have e:findBy (intKind P1 w).is (zmP (zgc w.params)) (c:Int)=((zmP (zgc w.params)).toList.find? fun e=>Value.isInt (c:Int) e.key).map (·.val):=by
   unfold findBy
   rw [<- Array.find?_toList];rfl
  dsimp only
  rw [e]
  revert this
  cases ((zmP (zgc w.params)).toList.find? fun e=>Value.isInt (c:Int) e.key).map (·.val) with
  | none=>intro q;rw [if_neg (of_decide_eq_true q)]
  | some v =>
   cases v with
   | str x t =>
    intro q
    unfold znW at q
    simp only [Bool.and_eq_true,decide_eq_true_eq] at q
    rw [if_pos q.1]
    refine ⟨t,?_⟩
    obtain ⟨cps⟩:=x
    have:cps = #[92,c]:=q.2
    subst this;rfl
   | _=>intro q;cases q
noncomputable def zsK:zsv:={ fAlts:=279,fPat:=305,fSets:=312,fTrl:=246,fT:=265,fJ:=272,fe:=258,d:=248,pat2:=239,fWords:=298,fWord:=286,fWriting:=291,f64:=234,fB2a:=226,fBuf:=211,fTru:=218,fFolded:=348,fRows:=341,fPlace:=336,fOct:=324,fByPat:=329,fLast:=319,cVf:=116,cAcc:=200,pat1:=43,K:=[],vf:=zus,acc:=zoQ }
theorem zsg:zrX (gl w h os) 265 258 248 239 where
 glob:=(zuS E).glob
 at_:=⟨264,_,zad (E.at_ zpT) rfl rfl rfl rfl rfl rfl rfl (E.at_ zo5) rfl rfl rfl,260,ze5 (E.at_ zo5) rfl rfl rfl rfl rfl rfl rfl rfl (by decide) (E.tab ztf) (by decide)⟩
 esc:=⟨zuF E,E.glob (by kernel_rfl),znH E,E.blt (by kernel_rfl) (by decide) (by decide +kernel),E.blt (by kernel_rfl) (by decide) (by decide +kernel)⟩
 re:=E.glob (by kernel_rfl)
 pat2:=zpx E
 bm:=zt6 E
 len:=E.blt (by kernel_rfl) (by decide) (by decide +kernel)
theorem zrL:zro (gl w h os) { zsK with K:=hK w.params } where
 alts:=zuK E
 pat:=zvm E
 sets:=zuH E
 trl:=zvi E
 tr:=zsg E
 join:=zuL E
 obj:=E.blt (by kernel_rfl) (by decide) (by decide +kernel)
 words:=zvg E
 word:=zvp E
 writing:=zvn E
 range:=E.blt (by kernel_rfl) (by decide) (by decide +kernel)
 rev:=E.blt (by kernel_rfl) (by decide) (by decide +kernel)
 bytes:=E.blt (by kernel_rfl) (by decide) (by decide +kernel)
 ord:=E.blt (by kernel_rfl) (by decide) (by decide +kernel)
 chr:=E.blt (by kernel_rfl) (by decide) (by decide +kernel)
 b64:=zqo E
 b2a:=zrc E
 sum:=E.blt (by kernel_rfl) (by decide) (by decide +kernel)
 len:=E.blt (by kernel_rfl) (by decide) (by decide +kernel)
 folded:=zu2 E
 vfok:=zs9 E
 re1:=E.glob (by kernel_rfl)
 pat1:=zpE E
 rows:=zva E
 place:=zu6 E
 oct:=zuP E
 byPat:=zvo E
 last:=zu4 E
end
end
section
open PySem.W PySem.Builtin PySem.Builtin.ObjectAttr
def YP1 (w:World)(h:Heap):Prop:=(hK w.params).In h/\(hT w.params).In h/\(∃ ob,h.get? builtinsNs=some ob/\ob.cls=.type "dict")/\∃ o,h.get? cStatics=some o/\staticOf h "thirdparty.any" = none
theorem zgA {α:Type}{a:Nat}{o:α}:∀ {l r:List (Nat × α)},l.lookup a=some o->(l++r).lookup a=some o
 | (b,x)::l,r,e=>by
  rw [List.cons_append]
  simp only [List.lookup_cons] at e ⊢
  cases q:a==b with
  | true=>rw [q] at e;exact e
  | false=>rw [q] at e;exact zgA e
theorem zep {α:Type}{a:Nat}{o:α}:∀ {l r:List (Nat × α)},l.lookup a=none->r.lookup a=some o->(l++r).lookup a=some o
 | [],r,_,e=>e
 | (b,x)::l,r,n,e=>by
  rw [List.cons_append]
  simp only [List.lookup_cons] at n ⊢
  cases q:a==b with
  | true=>rw [q] at n;cases n
  | false=>rw [q] at n;exact zep n e
theorem zkB (P:Params):((hT P).all fun p=>((hK P).lookup p.1).isNone)=true:=by kernel_rfl
theorem zrN (w:World)(s:Shared)(e:Yf1 s=Ya1 w):YP1 w s.heap:=by
 obtain ⟨e1,e2⟩:=Prod.mk.inj e
 obtain ⟨e2,e3⟩:=Prod.mk.inj e2
 have hin:Frag.In (hK w.params++hT w.params) s.heap:=Frag.in_of (as:=hAs) (by show hAs=((hK w.params)++(hT w.params)).map (·.1);kernel_rfl) e1
 refine ⟨fun a o q=>hin a o (zgA q),fun a o q=>hin a o (zep ?_ q),?_,?_⟩
 ·obtain ⟨l1,l2,q1,-⟩:=List.lookup_eq_some_iff.mp q
  have:=List.all_eq_true.mp (zkB w.params) (a,o) (by rw [q1];simp)
  simpa using this
 ·obtain ⟨ob,q1,q2⟩:=Option.map_eq_some_iff.mp e2
  exact ⟨ob,q1,q2⟩
 ·obtain ⟨o,q1,q2⟩:=Option.map_eq_some_iff.mp e3
  exact ⟨o,q1,q2⟩
theorem zlV (w:World)(h h':Heap)(Y:YP1 w h)(hk:∀ b o,h.get? b=some o->h'.get? b=some o):YP1 w h':=by
 obtain ⟨a,b,⟨ob,c1,c2⟩,o,d1,d2⟩:=Y
 refine ⟨fun x o q=>hk _ _ (a x o q),fun x o q=>hk _ _ (b x o q),⟨ob,hk _ _ c1,c2⟩,o,hk _ _ d1,?_⟩
 unfold staticOf at d2 ⊢
 rw [hk _ _ d1]
 rw [d1] at d2
 exact d2
theorem zlB {w:World}{h:Heap}:∀ {xs:List WData} {vs:List Value},WShape.hasItems [] xs .int=true->WellAll w.params h vs xs->∃ is:List Int,xs.length=is.length/\VRs h [] (is.map PV.int) vs
 | [],vs,_,W=>by cases W;exact ⟨[],rfl,.nil⟩
 | d::ds,vs,hs,W=>by
  cases W with
  | cons w1 w2 =>
   unfold WShape.hasItems at hs
   obtain ⟨h1,h2⟩:=Bool.and_eq_true_iff.mp hs
   obtain ⟨i,rfl⟩:=hasW_int h1
   obtain ⟨is,e,r⟩:=zlB h2 w2
   cases w1
   exact ⟨i::is,by simp [e],.cons (.int i _) r⟩
noncomputable def ztm (s:Stmt):Pos:=(stP s).2.2.2.2.2
noncomputable def zt4:DefRec:=⟨"law",fA 37,fB 37,fS 37,ztm (zoz 37)⟩
theorem zrl {q:Program}{loose:List Str}{R:WRecords}{XP:(Str->Option Value)->Heap->Prop}{w:World}{s₀:Shared}{mg mb:Str->Option Value}{h:Heap}(G:Ground q loose R XP w s₀ mg mb h)(Y:YP1 w h):zmO w h/\∀ x,mg x=mgl w.params x:=by
 obtain ⟨a,b,⟨ob,c1,c2⟩,o,d1,d2⟩:=Y
 have T:=G.T
 have hmg:∀ x,mg x=mgl w.params x:=by
  obtain ⟨o',es,ep,e1,e2,e3,e4⟩:=T.g
  have e5:h.get? mainGlobals=some (hO3 w.params):=a 3 _ (hk3 _)
  rw [e1] at e5;cases e5
  intro x
  rw [<- e4 x]
  have e6:es=zmP (hO3 w.params):=by unfold zmP;rw [e2]
  rw [e6]
  unfold mgl nsFind findBy
  rw [<- Array.find?_toList]
 refine ⟨⟨a,b,⟨mg,T.g,hmg⟩,⟨mb,ob,T.b,T.builtins,c1,c2⟩,?_,⟨o,d1,d2⟩⟩,hmg⟩
 obtain ⟨bm,ob,q1,q2⟩:=T.bmain
 exact ⟨bm,ob,(hmg _).symm.trans q1,q2⟩
theorem ztU:WalkO V1 ziI (fun _ _=>True) YP1 PySem.Challenge.rw_in0222_01.row.toRowW zt4 [] (fun f vs=>PySem.call f vs):=by
 intro w s₀ s₁ mg mb G Y a o pm cd doc dV kV ho hd hcd hD hmg hg args vals as hpre hlay hrd hwl hlo
 obtain ⟨E,hm⟩:=zrl G Y
 have ea:(Value.ref a)=.ref 353:=by
  have h1:mgl w.params "law" = some (.ref 353):=by kernel_rfl
  have h2:mg "law" = some (.ref a):=hmg
  rw [hm,h1] at h2
  exact (Option.some.inj h2).symm
 rw [ea]
 obtain ⟨hs,hc⟩:=pre_splitW hpre
 obtain ⟨d,r,rfl,hs1,hs2⟩:=hasAllW_cons hs
 have:=hasAllW_nil hs2
 subst this
 obtain ⟨xs,rfl,hit⟩:=hasW_list hs1
 cases hwl with
 | cons w1 w2 =>
  cases w2
  cases w1 with
  | @list L vs _ hl hw =>
   obtain ⟨is,hlen,hvs⟩:=zlB hit hw
   have hl63:is.length<=63:=by
    have e:PySem.Challenge.rw_in0222_01.row.pre=.and (.not (.lt (.lit (.int 63)) (.len (.arg 0)))) (.lit (.bool true)):=rfl
    rw [show PySem.Challenge.rw_in0222_01.row.toRowW.pre=PySem.Challenge.rw_in0222_01.row.pre from rfl,e] at hc
    have hc2:(match Option.map WData.bool (some (decide ((63:Int) < (xs.length:Int)))) with | some (.bool b)=>!b | _=>false)=true:=by
     by_cases q:(63:Int) < (xs.length:Int)
     ·simp [WTm.holds,WTm.value,less?,Num.less?,q] at hc
     ·rw [decide_eq_false q];rfl
    by_cases q:(63:Int) < (xs.length:Int)
    ·rw [decide_eq_true q] at hc2;cases hc2
    ·lia
   have VR1:VRs s₁.heap [] [.lst (is.map PV.int)] [.ref L]:=.cons (.lst List.not_mem_nil hl (by simpa using hvs)) .nil
   obtain ⟨c,pm,hfa⟩:=(zvf (os:=s₁.os) E).at_
   have hrm:Rm callerA 14:=⟨rfl,by decide +kernel,by decide +kernel⟩
   refine zng (n:=13) (xs:=["script"]) (P:=fun p=>p=.raw (.bool true)) hrm G.T.nolimit (by rw [hg];intro x hx;simp at hx) ?_ hfa (by decide) rfl (fun vs hv=>?_) (by rfl) (by rfl) VR1 (fun L=>?_) (fun a b s' own hb hr ho hos hbr=>?_)
   ·obtain ⟨o,e,_⟩:=E.st
    exact Heap.lt_size e
   ·revert vs hv;refine zcV ?_;intros;rfl
   ·refine J.mono (znw (σ:=⟨[],[]⟩) (P:=fun p _=>p=.raw (.bool true)) hrm (zrL E) (by lia) rfl) ?_
    rintro fl σ' ⟨pre,_,h⟩
    exact h
   ·subst hb
    cases hr
    refine ⟨.inl ⟨_,.bool true,[],rfl,fun cls=>rfl,.bool true,?_,fun _=>⟨List.nodup_nil,fun x hx=>by cases hx⟩⟩,ho,hos,hbr⟩
    kernel_rfl
theorem final1:PySem.Challenge.rw_in0222_01.Holds:=by
 w_on
 refine holds_law zr6 fun said=>?_
 refine holds_open (q:=V1) (loose:=ziI) (Xt:=fun _=>true) (XP:=fun _ _=>True) (Yf:=Yf1) (Ya:=Ya1) (YP:=YP1) (d:=zt4) (kwd:=[]) (N:=7000) ztk zrN zlV (fun _ _=>trivial) (fun _ _ _ h _=>h) (by rfl) (by rfl) (by rfl) (fun _ _=>recFacts_nil rfl) (by rfl) (by first | assumption | decide +kernel) (by decide +kernel) ⟨rfl,rfl,rfl,rfl,rfl,by decide +kernel⟩ ?hw ztU
 case hw=>w_witness2
end
end Mine

theorem PySem.Challenge.cw_in0222_01_holds : PySem.Challenge.rw_in0222_01.Holds := by
  exact Mine.final1
