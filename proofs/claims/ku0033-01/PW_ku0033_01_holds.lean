import PyProof.Rows.All
import PyProof.AttrMissHeap
import PyProof.MeetsStr
import PyProof.StrWalks
import PyProof.CollectIter
import PyProof.EnumMake
import PyProof.StrLawsIn
import PyProof.SliceStr2
import PyProof.WalksMore
import PyProof.GenCompD
import PyProof.IsInstance
import PyProof.JoinWalk
import PyProof.ListNew
import PyProof.ListTruth
import PyProof.Rows.GenRowsK
import PyProof.Rows.FStr
import PyProof.StrCalls3
import PyProof.StrCalls5
import PyProof.TypeOfCall
import KE.KDictLaws
import KE.KLam
import KE.KFromBytes
import KE.KOwnIter
import KE.KParD
import KE.KStopIter
import Wide.FinOn
import OpenK.AllK
import Wide.All
import Lean
import PySem.Challenge.RW_ku0033_01
set_option Elab.async false
set_option linter.all false
set_option maxRecDepth 100000
set_option maxHeartbeats 0
set_option compiler.extract_closed false
set_option bootstrap.genMatcherCode false
set_option genInjectivity false
set_option genSizeOfSpec false
section
open PySem PySem.W
namespace Mine
noncomputable section
noncomputable abbrev aF:Program:=PySem.Challenge.pw_ku0033_01
noncomputable def FH:List Stmt->Nat->Stmt
 | [],_=>.Pass ⟨0,0,0,0⟩
 | s::_,0=>s
 | _::r,n+1=>FH r n
def aw (p:Program) (i:Nat):Stmt:=FH p.main.body (i+2)
noncomputable def D2 {α:Type} (d:α) (f:Str->Arguments->List Stmt->Scope->α) (g:List Stmt->α) (s:Stmt):α:=by
 cases s with
 | FunctionDef n a b _ _ _ c=>exact f n a b c
 | ClassDef _ _ _ b=>exact g b
 | _=>exact d
def sub (s:Stmt) (j:Nat):Stmt:=D2 (FH [] j) (λ _ _ _ _=>FH [] j) (λ b=>FH b j) s
def AT (s:Stmt) (qual:Str) (gl:Nat) (clo:List (Str×Addr)) (dv kv doc pm:Value) (an:Option Addr) (cd ct:Value) (bu:Nat):FuncData :=
 D2 default (λ n a b sc=>{ name:=n,qualname:=qual,params:=a,body:=.stmts b,scope:=sc,globals:=gl,closure:=clo,defaults:=dv,kwdefaults:=kv,doc:=doc,pyModule:=pm,annotations:=an,code:=cd,closureTuple:=ct,builtins:=bu }) (λ _=>default) s
noncomputable def FP (l:List Stmt):Str:=by
 cases l with
 | nil=>exact ⟨#[]⟩
 | cons s r =>
  cases s with
  | Expr e =>
   cases e with
   | Constant c =>
    cases c with
    | str s=>exact s
    | _=>exact ⟨#[]⟩
   | _=>exact ⟨#[]⟩
  | _=>exact ⟨#[]⟩
def ck (s:Stmt):Str:=D2 ⟨#[]⟩ (λ _ _ b _=>FP b) FP s
noncomputable def de (P:Params) (x:Str) (t:Nat) (v:Value):DictEntry:=⟨PyData.keyHash P x,.str x t,v⟩
noncomputable def bN:BT->List (Nat×Obj)->BT
 | T,[]=>T
 | T,p::r=>bN (T.ins p.1 p.2) r
noncomputable def env:Env:={ scope:=aF.main.scope,locals:=mainNs,globals:=mainNs,cells:=[],code:=.ref 36,frame:=some 37 }
noncomputable abbrev BO:=Program->Params->Obj
noncomputable def tO (x:Array Value):Obj:=⟨.type "tuple",none,.seq x 0,#[]⟩
noncomputable def nO (x:Array Value):Obj:=⟨.none,none,.fields x,#[]⟩
noncomputable def cO (n:Str) (t:Tok) (q f:Str) (l a b c d:Int) (x:Addr) (g:Bool) (u:Int) (y:Addr) (v3 v4 v5 v6:Value) (m:Int) (o:Int) (z:Tok):Obj :=
 ⟨.type "code",none,.fields #[.str n t,.str q (t+1),.str f (t+2),.int l 0,.int a 0,.int b 0,.int c 0,.int d 0,.ref x,.bool g,.int u 0,.ref y,v3,v4,v5,v6,.int m 0,.int o 0,.str f z],#[]⟩
def gO (s:Stmt) (q:Str):Obj:=⟨.none,none,.func (AT s q 0 [] .none .none .none .none none .none .none 0),#[]⟩
def fO (s:Stmt) (q:Str) (g:Nat) (dv kv doc pm:Value) (cd:Addr) (ct:Value) (b:Nat):Obj:=⟨.type "function",none,.func (AT s q g [] dv kv doc pm none (.ref cd) ct b),#[]⟩
def dr (P:Params) (x:Str) (t:Nat) (v:Addr):DictEntry:=de P x t (.ref v)
def db (P:Params) (x:String) (t:Nat):DictEntry:=de P x t (.builtin x)
def dt (P:Params) (x:String) (t:Nat):DictEntry:=de P x t (.type x)
noncomputable def dO (n:Nat) (l:List DictEntry):Obj:=⟨.type "dict",none,.dict ⟨l⟩ n,#[]⟩
noncomputable def kO (x:Str) (b m:List Value) (n:Addr) (h:Bool) (c:List Value) (f:Array (Option Value)):Obj :=
 ⟨.type "type",none,.cls { name:=x,bases:=b,mro:=m,ns:=n,qualname:=x,hasDict:=h,slotNames:=[],subclasses:=c,abstract:=false,collection:=none,hasDel:=false },f⟩
noncomputable def pO:Obj:=⟨.type "builtin_function_or_method",none,.fields #[.builtin "type.__prepare__",.type "type"],#[]⟩
def kC (n:Str) (t:Nat) (l:Int) (a:Addr):Obj:=cO n t n "/claim/cut.py" l 0 0 0 0 a false 318 (a+1) .none .none .none .none (t+3) l (t+4)
noncomputable def rO (a b:Addr) (m:Value):Obj:=⟨.type "frame",none,.plain,#[some (.ref a),some (.ref 3),some (.ref b),none,some m,none,some (.ref 0)]⟩
noncomputable def sv:Nat->List Str->List Value
 | _,[]=>[]
 | t,x::r=>.str x t::sv (t+1) r
def tZ (t:Nat) (l:List Str):Obj:=tO ⟨sv t l⟩
noncomputable def tV (k:Int):List Nat->List Value
 | l::a::r=>.int l 0::.int k 0::.ref a::tV k r
 | _=>[]
def nV (k:Int) (l:List Nat):Obj:=nO ⟨tV k l⟩
def fB (s:Stmt) (a:Nat) (n:Str) (t:Nat) (q:Str) (l x y d:Int) (v:List Str) (dv doc pm:Value) (k:Bool):List (Nat×Obj) :=
 (a,tO #[])::cond k [(a+1,nO #[])] []++(a+2,tZ (t+3) v)::(a+3,tO #[])::cond k [(a+4,gO s q)] []++[(a+5,cO n t q "/claim/cut.py" l x y 0 d a true 318 (a+1) .none (.ref (a+2)) (.ref (a+3)) (.ref (a+4)) (t+v.length+3) l (t+v.length+4)),(a+6,fO s q 3 dv .none doc pm (a+5) .none 0)]
def e3 (P:Params):List DictEntry:=[de P "__doc__" 166 .none,de P "__package__" 167 .none,de P "__loader__" 168 (.builtin "__main__.__loader__#opaque"),de P "__spec__" 169 .none,dr P "__annotations__" 170 6,dr P "__builtins__" 171 4,de P "__file__" 173 (.str "/claim/cut.py" 172),de P "__cached__" 174 .none,dr P "_sre" 275 12,de P "deque" 317 (.type "collections.deque"),dr P "_wall" 330 44,dr P "_tuplegetter" 389 83,dr P "Match" 517 158,dr P "_calculate_ratio" 525 168,dr P "SequenceMatcher" 711 265,dr P "twin_re_1_fnmatch" 749 274,dr P "_special_chars_map" 897 276,dr P "escape" 904 286,dr P "_translate" 925 293,dr P "twin_re_1_shlex" 965 298,dr P "_whence" 975 305,dr P "_index" 983 312,dr P "UnsupportedOperation" 1005 322,dr P "IOBase" 1037 342,dr P "BufferedIOBase" 1055 357,dr P "TextIOBase" 1073 369,dr P "BytesIO" 1335 599,dr P "StringIO" 1622 846,dr P "_kind" 1633 855,dr P "_fspath" 1642 862,dr P "_check_arg_types" 1652 869,dr P "isabs" 1659 876,dr P "join" 1670 1000,dr P "join_path" 1671 883,dr P "dirname" 1681 890,dr P "shlex" 1828 981,dr P "split" 1839 993,dr P "join_shlex" 1848 1000,dr P "_find_unsafe" 1850 1001,dr P "quote" 1858 1008,dr P "_law_piece" 1866 1013,dr P "_law_sign" 1873 1020,dr P "_law_taken" 1879 1025,dr P "_law_stands" 1885 1030,dr P "_law_found" 1899 1037,dr P "_law_matched" 1908 1044,dr P "_law_longest" 1920 1051,dr P "law" 1926 1056]
def d3 (P:Params) (x:Str) (t n:Nat):Obj:=dO n (de P "__name__" 165 (.str x t)::(e3 P).take (n - 1))
def wv (n:Nat):Obj:=nV 0 (List.take n [3,43,7,50,25,94,68,167,72,174,423,285,430,292,494,304,499,311,506,318,508,331,515,353,517,365,519,377,689,607,895,854,916,861,921,868,926,875,929,882,950,889,959,896,1216,992,1225,999,1230,1007,1238,1012,1242,1019,1248,1024,1251,1029,1253,1036,1268,1043,1271,1050,1281,1055])
noncomputable abbrev m0:Value:=.str "__main__" 164
noncomputable abbrev m1:Value:=.str "cpy313.difflib" 331
noncomputable abbrev m2:Value:=.str "re" 750
noncomputable abbrev m3:Value:=.str "cpy313.fnmatch" 905
noncomputable abbrev m4:Value:=.str "io" 966
noncomputable abbrev m5:Value:=.str "os.path" 1623
noncomputable abbrev m6:Value:=.str "cpy313.shlex" 1682
noncomputable abbrev m7:Value:=.str "law_ku0033_01" 1859
def J5 (p:Program):Bool->List (Nat×Obj):=fB (aw p 0) 38 "_wall" 324 "_wall" 3 1 0 3 ["k"] .none .none m0
def J6 (p:Program):Bool->List (Nat×Obj):=fB (sub (aw p 2) 0) 52 "__init__" 345 "_tuplegetter.__init__" 9 3 0 3 ["self", "index", "doc"] .none .none m1
def C5:BO:=λ p P=>tO #[.none]
def J7 (p:Program):Bool->List (Nat×Obj):=fB (sub (aw p 2) 1) 60 "__get__" 354 "_tuplegetter.__get__" 13 3 0 3 ["self", "obj", "objtype"] (.ref 59) .none m1
def J8 (p:Program):Bool->List (Nat×Obj):=fB (sub (aw p 2) 2) 67 "__set__" 363 "_tuplegetter.__set__" 20 3 0 3 ["self", "obj", "value"] .none .none m1
def J9 (p:Program):Bool->List (Nat×Obj):=fB (sub (aw p 2) 3) 74 "__delete__" 372 "_tuplegetter.__delete__" 23 2 0 3 ["self", "obj"] .none .none m1
def C6:BO:=λ p P=>tZ 380 ["__doc__", "index"]
def C7:BO:=λ p P=>dO 4 [de P "__module__" 340 (.str "cpy313.difflib" 331),de P "__firstlineno__" 344 (.int 7 343),dr P "__init__" 353 58,dr P "__get__" 362 66,dr P "__set__" 371 73,dr P "__delete__" 379 80,dr P "__static_attributes__" 382 81,dr P "__dict__" 384 84,dr P "__weakref__" 386 85,de P "__doc__" 387 .none]
def C8:BO:=λ p P=>kO "_tuplegetter" [(.type "object")] [(.ref 83),(.type "object")] 82 true [] #[none,none,some (.str "_tuplegetter" 333),some (.str "_tuplegetter" 341),some (.builtin "object.__new__"),some (.bool true)]
noncomputable def C9:BO:=λ p P=>⟨(.type "getset_descriptor"),none,(.fields #[(.str "__dict__" 383),(.ref 83),(.builtin "function.__dict__"),(.builtin "function.__dict__#set")]),#[]⟩
noncomputable def Da:BO:=λ p P=>⟨(.type "getset_descriptor"),none,(.fields #[(.str "__weakref__" 385),(.ref 83),(.builtin "ExceptionGroup.__weakref__"),.none]),#[]⟩
def Db:BO:=λ p P=>tO #[(.type "tuple")]
noncomputable def Dc:BO:=λ p P=>⟨(.type "cell"),none,(.cell (some (.ref 158))),#[]⟩
def Dd:BO:=λ p P=>tO #[]
def De:BO:=λ p P=>tZ 406 ["a", "b", "size"]
def Df:BO:=λ p P=>dO 0 []
def Ka (p:Program):Bool->List (Nat×Obj):=fB (sub (aw p 3) 4) 99 "__new__" 411 "Match.__new__" 31 4 0 3 ["_cls", "a", "b", "size"] .none (.str (ck (sub (aw p 3) 4)) 420) m1
def wz:BO:=λ p P=>tO #[]
def wA:BO:=λ p P=>tZ 425 ["cls", "iterable", "result"]
def wB:BO:=λ p P=>tO #[]
def wC:BO:=λ p P=>cO "_make" 422 "Match._make" "/claim/cut.py" 35 2 0 0 3 106 true 318 107 .none (.ref 108) (.ref 109) (.ref 110) 428 35 429
def wE:BO:=λ p P=>⟨(.type "function"),none,(.func (AT (sub (aw p 3) 5) "Match._make" 3 [] .none .none (.str (ck (sub (aw p 3) 5)) 430) (.str "cpy313.difflib" 331) (some 115) (.ref 111) .none 0)),#[]⟩
def wF:BO:=λ p P=>dO 5 [de P "__module__" 432 (.str "cpy313.difflib" 331),de P "__name__" 435 (.str "_make" 434),de P "__qualname__" 438 (.str "Match._make" 437),de P "__doc__" 440 (.str (ck (sub (aw p 3) 5)) 430),dr P "__annotations__" 442 115]
noncomputable def wG:BO:=λ p P=>⟨(.type "classmethod"),(some 113),(.fields #[(.ref 112),(.bool false)]),#[]⟩
def wH:BO:=λ p P=>dO 0 []
def wI:BO:=λ p P=>tO #[(.ref 91)]
def wK:BO:=λ p P=>tZ 447 ["__class__"]
def wM:BO:=λ p P=>tZ 448 ["self", "kwds", "result"]
def wO:BO:=λ p P=>tO #[]
def wP:BO:=λ p P=>cO "_replace" 444 "Match._replace" "/claim/cut.py" 43 1 1 0 11 117 true 318 118 .none (.ref 119) (.ref 120) (.ref 121) 451 43 452
def wQ:BO:=λ p P=>⟨(.type "function"),none,(.func (AT (sub (aw p 3) 6) "Match._replace" 3 [("__class__",91)] .none .none (.str (ck (sub (aw p 3) 6)) 453) (.str "cpy313.difflib" 331) none (.ref 122) (.ref 116) 0)),#[]⟩
def FQ (p:Program):Bool->List (Nat×Obj):=fB (sub (aw p 3) 8) 124 "__repr__" 456 "Match.__repr__" 54 1 0 3 ["self"] .none (.str (ck (sub (aw p 3) 8)) 462) m1
def FR (p:Program):Bool->List (Nat×Obj):=fB (sub (aw p 3) 9) 131 "_asdict" 464 "Match._asdict" 58 1 0 3 ["self"] .none .none m1
def FS (p:Program):Bool->List (Nat×Obj):=fB (sub (aw p 3) 10) 138 "__getnewargs__" 471 "Match.__getnewargs__" 61 1 0 3 ["self"] .none (.str (ck (sub (aw p 3) 10)) 477) m1
def wR:BO:=λ p P=>tZ 479 ["a", "b", "size"]
def wS:BO:=λ p P=>dO 2 [de P "index" 489 (.int 0 483),de P "__doc__" 491 (.str "Alias for field number 0" 484)]
noncomputable def wT:BO:=λ p P=>⟨(.ref 83),(some 146),.plain,#[]⟩
def wU:BO:=λ p P=>dO 2 [de P "index" 499 (.int 1 493),de P "__doc__" 501 (.str "Alias for field number 1" 494)]
noncomputable def wV:BO:=λ p P=>⟨(.ref 83),(some 149),.plain,#[]⟩
def wW:BO:=λ p P=>dO 2 [de P "index" 509 (.int 2 503),de P "__doc__" 511 (.str "Alias for field number 2" 504)]
noncomputable def wX:BO:=λ p P=>⟨(.ref 83),(some 152),.plain,#[]⟩
def wY:BO:=λ p P=>tO #[]
def wZ:BO:=λ p P=>dO 2 [de P "__module__" 397 (.str "cpy313.difflib" 331),de P "__firstlineno__" 401 (.int 25 400),de P "__doc__" 403 (.str (ck (aw p 3)) 402),dr P "__slots__" 405 96,dr P "_fields" 409 97,dr P "_field_defaults" 410 98,dr P "__new__" 421 159,dr P "_make" 443 114,dr P "_replace" 454 123,dr P "__replace__" 455 123,dr P "__repr__" 463 130,dr P "_asdict" 470 137,dr P "__getnewargs__" 478 144,dr P "__match_args__" 482 145,dr P "a" 492 147,dr P "b" 502 150,dr P "size" 512 153,dr P "__static_attributes__" 513 155]
def w9:BO:=λ p P=>kO "Match" [(.type "tuple")] [(.ref 158),(.type "tuple"),(.type "object")] 157 false [] #[some (.ref 88),none,some (.str "Match" 390),some (.str "Match" 398),some .none,some (.bool false)]
noncomputable def xc:BO:=λ p P=>⟨(.type "staticmethod"),none,(.fields #[(.ref 105)]),#[]⟩
def FT (p:Program):Bool->List (Nat×Obj):=fB (aw p 4) 162 "_calculate_ratio" 518 "_calculate_ratio" 68 2 0 3 ["matches", "length"] .none .none m1
def xd:BO:=λ p P=>tO #[.none,(.str "" 541),(.str "" 542),(.bool true)]
def FU (p:Program):Bool->List (Nat×Obj):=fB (sub (aw p 5) 1) 177 "__init__" 543 "SequenceMatcher.__init__" 147 5 0 3 ["self", "isjunk", "a", "b", "autojunk"] (.ref 176) (.str (ck (sub (aw p 5) 1)) 553) m1
def FV (p:Program):Bool->List (Nat×Obj):=fB (sub (aw p 5) 2) 184 "set_seqs" 555 "SequenceMatcher.set_seqs" 175 3 0 3 ["self", "a", "b"] .none (.str (ck (sub (aw p 5) 2)) 563) m1
def FW (p:Program):Bool->List (Nat×Obj):=fB (sub (aw p 5) 3) 191 "set_seq1" 565 "SequenceMatcher.set_seq1" 186 2 0 3 ["self", "a"] .none (.str (ck (sub (aw p 5) 3)) 572) m1
def FX (p:Program):Bool->List (Nat×Obj):=fB (sub (aw p 5) 4) 198 "set_seq2" 574 "SequenceMatcher.set_seq2" 211 2 0 3 ["self", "b"] .none (.str (ck (sub (aw p 5) 4)) 581) m1
def FY (p:Program):Bool->List (Nat×Obj):=fB (sub (aw p 5) 5) 205 "__chain_b" 583 "SequenceMatcher.__chain_b" 238 1 0 3 ["self", "b", "b2j", "i", "elt", "indices", "junk", "isjunk", "popular", "n", "ntest", "idxs"] .none .none m1
def xf:BO:=λ p P=>tO #[(.int 0 601),.none,(.int 0 602),.none]
def FZ (p:Program):Bool->List (Nat×Obj):=fB (sub (aw p 5) 6) 213 "find_longest_match" 603 "SequenceMatcher.find_longest_match" 262 5 0 3 ["self", "alo", "ahi", "blo", "bhi", "a", "b", "b2j", "isbjunk", "besti", "bestj", "bestsize", "j2len", "nothing", "i", "j2lenget", "newj2len", "j", "k"] (.ref 212) (.str (ck (sub (aw p 5) 6)) 627) m1
def F0 (p:Program):Bool->List (Nat×Obj):=fB (sub (aw p 5) 7) 220 "get_matching_blocks" 629 "SequenceMatcher.get_matching_blocks" 337 1 0 3 ["self", "la", "lb", "queue", "matching_blocks", "alo", "ahi", "blo", "bhi", "i", "j", "k", "x", "i1", "j1", "k1", "non_adjacent", "i2", "j2", "k2"] .none (.str (ck (sub (aw p 5) 7)) 654) m1
def F5 (p:Program):Bool->List (Nat×Obj):=fB (sub (aw p 5) 8) 227 "get_opcodes" 656 "SequenceMatcher.get_opcodes" 385 1 0 3 ["self"] .none .none m1
def xg:BO:=λ p P=>tO #[(.int 3 663)]
def F6 (p:Program):Bool->List (Nat×Obj):=fB (sub (aw p 5) 9) 235 "get_grouped_opcodes" 664 "SequenceMatcher.get_grouped_opcodes" 388 2 0 3 ["self", "n"] (.ref 234) .none m1
def F8 (p:Program):Bool->List (Nat×Obj):=fB (sub (aw p 5) 10) 242 "ratio" 672 "SequenceMatcher.ratio" 391 1 0 3 ["self", "matches"] .none (.str (ck (sub (aw p 5) 10)) 679) m1
def F9 (p:Program):Bool->List (Nat×Obj):=fB (sub (aw p 5) 11) 249 "quick_ratio" 681 "SequenceMatcher.quick_ratio" 415 1 0 3 ["self"] .none .none m1
def Ga (p:Program):Bool->List (Nat×Obj):=fB (sub (aw p 5) 12) 256 "real_quick_ratio" 688 "SequenceMatcher.real_quick_ratio" 418 1 0 3 ["self"] .none .none m1
def xh:BO:=λ p P=>tZ 695 ["a", "autojunk", "b", "b2j", "bjunk", "bpopular", "fullbcount", "isjunk", "matching_blocks", "opcodes"]
def xj:BO:=λ p P=>dO 3 [de P "__module__" 533 (.str "cpy313.difflib" 331),de P "__firstlineno__" 537 (.int 72 536),de P "__doc__" 539 (.str (ck (aw p 5)) 538),dr P "__init__" 554 183,dr P "set_seqs" 564 190,dr P "set_seq1" 573 197,dr P "set_seq2" 582 204,dr P "_SequenceMatcher__chain_b" 600 211,dr P "find_longest_match" 628 219,dr P "get_matching_blocks" 655 226,dr P "get_opcodes" 662 233,dr P "get_grouped_opcodes" 671 241,dr P "ratio" 680 248,dr P "quick_ratio" 687 255,dr P "real_quick_ratio" 694 262,dr P "__static_attributes__" 705 263,dr P "__dict__" 707 266,dr P "__weakref__" 709 267]
def xk:BO:=λ p P=>kO "SequenceMatcher" [(.type "object")] [(.ref 265),(.type "object")] 264 true [] #[none,none,some (.str "SequenceMatcher" 526),some (.str "SequenceMatcher" 534),some (.builtin "object.__new__"),some (.bool true)]
noncomputable def xl:BO:=λ p P=>⟨(.type "getset_descriptor"),none,(.fields #[(.str "__dict__" 706),(.ref 265),(.builtin "function.__dict__"),(.builtin "function.__dict__#set")]),#[]⟩
noncomputable def xm:BO:=λ p P=>⟨(.type "getset_descriptor"),none,(.fields #[(.str "__weakref__" 708),(.ref 265),(.builtin "ExceptionGroup.__weakref__"),.none]),#[]⟩
def xn:BO:=λ p P=>tO #[(.int 14 0),(.int 14 0),(.int 4 0),(.int 1 0),(.int 1 0),(.int 9 0),(.int 0 0),(.int 64 0),(.int 0 0),(.int 1342177280 0),(.int 0 0),(.int 0 0),(.int 0 0),(.int 0 0),(.int 0 0),(.int 17 0),(.int 0 0),(.int 13 0),(.int 11 0),(.int 9 0),(.int 0 0),(.int 64 0),(.int 0 0),(.int 1342177280 0),(.int 0 0),(.int 0 0),(.int 0 0),(.int 0 0),(.int 0 0),(.int 17 0),(.int 1 0),(.int 1 0)]
noncomputable def xo:BO:=λ p P=>⟨(.type "re.Pattern"),none,(.fields #[(.str "([&~|])" 713),(.int 32 748),(.int 1 0),.none,.none,(.ref 273),(.int 0 0)]),#[]⟩
def xp:BO:=λ p P=>dO 24 [⟨40,(.int 40 753),(.str "\\(" 757)⟩,⟨41,(.int 41 759),(.str "\\)" 763)⟩,⟨91,(.int 91 765),(.str "\\[" 769)⟩,⟨93,(.int 93 771),(.str "\\]" 775)⟩,⟨123,(.int 123 777),(.str "\\{" 781)⟩,⟨125,(.int 125 783),(.str "\\}" 787)⟩,⟨63,(.int 63 789),(.str "\\?" 793)⟩,⟨42,(.int 42 795),(.str "\\*" 799)⟩,⟨43,(.int 43 801),(.str "\\+" 805)⟩,⟨45,(.int 45 807),(.str "\\-" 811)⟩,⟨124,(.int 124 813),(.str "\\|" 817)⟩,⟨94,(.int 94 819),(.str "\\^" 823)⟩,⟨36,(.int 36 825),(.str "\\$" 829)⟩,⟨92,(.int 92 831),(.str "\\\\" 835)⟩,⟨46,(.int 46 837),(.str "\\." 841)⟩,⟨38,(.int 38 843),(.str "\\&" 847)⟩,⟨126,(.int 126 849),(.str "\\~" 853)⟩,⟨35,(.int 35 855),(.str "\\#" 859)⟩,⟨32,(.int 32 861),(.str "\\ " 865)⟩,⟨9,(.int 9 867),(.str "\\\x09" 871)⟩,⟨10,(.int 10 873),(.str "\\\n" 877)⟩,⟨13,(.int 13 879),(.str "\\\x0d" 883)⟩,⟨11,(.int 11 885),(.str "\\\x0b" 889)⟩,⟨12,(.int 12 891),(.str "\\\x0c" 895)⟩]
def Gb (p:Program):Bool->List (Nat×Obj):=fB (aw p 9) 280 "escape" 898 "escape" 423 1 0 3 ["pattern"] .none .none m2
def Gc (p:Program):Bool->List (Nat×Obj):=fB (aw p 11) 287 "_translate" 907 "_translate" 430 3 0 3 ["pat", "STAR", "QUESTION_MARK", "res", "add", "i", "n", "c", "j", "stuff", "chunks", "k", "chunk"] .none .none m3
def sq:BO:=λ p P=>tO #[(.int 14 0),(.int 17 0),(.int 4 0),(.int 1 0),(.int 1 0),(.int 21 0),(.int 9 0),(.int 0 0),(.int 604043296 0),(.int 1 0),(.int 0 0),(.int 0 0),(.int 0 0),(.int 0 0),(.int 0 0),(.int 8 0),(.int 4 0),(.int 0 0),(.int 13 0),(.int 14 0),(.int 21 0),(.int 9 0),(.int 0 0),(.int 604043296 0),(.int 1 0),(.int 0 0),(.int 0 0),(.int 0 0),(.int 0 0),(.int 0 0),(.int 8 0),(.int 4 0),(.int 0 0),(.int 1 0)]
noncomputable def sr:BO:=λ p P=>⟨(.type "re.Pattern"),none,(.fields #[(.str "[^\\w@%+=:,./-]" 927),(.int 256 964),(.int 0 0),.none,.none,(.ref 297),(.int 0 0)]),#[]⟩
def Gd (p:Program):Bool->List (Nat×Obj):=fB (aw p 14) 299 "_whence" 968 "_whence" 494 2 0 3 ["n", "what"] .none .none m4
def Ge (p:Program):Bool->List (Nat×Obj):=fB (aw p 15) 306 "_index" 976 "_index" 499 2 0 3 ["n", "what"] .none .none m4
def Dg:BO:=λ p P=>⟨.none,none,(.dict #[de P "\x69mport.loaded._sre" 183 (.bool true),
 dr P "class._frozen_importlib.BuiltinImporter" 185 14,
 dr P "watched.\x69mport" 206 18,
 dr P "class._frozen_importlib.ModuleSpec" 216 22,
 de P "sys.modules.booked-epoch" 245 (.int 4 0),
 de P "\x69mport.later-laid._sre" 270 (.bool true),
 dr P "watched.library" 272 27,
 de P "watched.library-objects" 0 (.str "\x0c\x1e" 0),
 de P "watched.library-deep._sre" 273 (.str "\x04\x00\x00\x0b\x04\x00\x00\x0b\x04\x00\x00\x03\x04\x00\x00\x0b\x08\x04dict\x02" 0),
 de P "\x69mport.loaded._collections" 280 (.bool true),
 de P "sys.modules.landed._collections" 294 (.bool true),
 de P "\x69mport.later-laid._collections" 309 (.bool true),
 de P "watched.library-deep._collections" 311 (.str "\x04\x00\x00\x1d\x04\x00\x00\x1d\x04\x00\x00\x03\x04\x00\x00\x1d\x08\x04dict\x02" 0),
 de P "type.__subclasses__.OSError.0" 1002 (.int 322 0),
 de P "type.__subclasses__.OSError.n" 1003 (.int 1 0)] 15),#[]⟩
def ss:BO:=λ p P=>tO #[(.type "OSError"),(.type "ValueError")]
def su:BO:=λ p P=>tO #[]
def sx:BO:=λ p P=>dO 3 [de P "__module__" 991 (.str "io" 996),de P "__firstlineno__" 995 (.int 506 994),dr P "__static_attributes__" 998 320,dr P "__weakref__" 1000 323,de P "__doc__" 1001 .none]
def sy:BO:=λ p P=>kO "UnsupportedOperation" [(.type "OSError"),(.type "ValueError")] [(.ref 322),(.type "OSError"),(.type "ValueError"),(.type "Exception"),(.type "BaseException"),(.type "object")] 321 true [] #[some (.ref 313),none,some (.str "UnsupportedOperation" 984),some (.str "UnsupportedOperation" 992),some (.builtin "OSError.__new__"),some (.bool true)]
noncomputable def sz:BO:=λ p P=>⟨(.type "getset_descriptor"),none,(.fields #[(.str "__weakref__" 999),(.ref 322),(.builtin "ExceptionGroup.__weakref__"),.none]),#[]⟩
def Gf (p:Program):Bool->List (Nat×Obj):=fB (sub (aw p 17) 1) 333 "__new__" 1020 "IOBase.__new__" 511 1 1 15 ["cls", "args", "kwargs"] .none .none m4
def sA:BO:=λ p P=>tO #[]
def sB:BO:=λ p P=>dO 4 [de P "__module__" 1013 (.str "io" 1018),de P "__firstlineno__" 1017 (.int 508 1016),dr P "__new__" 1028 343,dr P "__static_attributes__" 1029 340,dr P "__dict__" 1032 344,dr P "__weakref__" 1034 345,de P "__doc__" 1035 .none]
def sC:BO:=λ p P=>kO "IOBase" [(.type "object")] [(.ref 342),(.type "object")] 341 true [(.ref 357),(.ref 369)] #[none,none,some (.str "IOBase" 1006),some (.str "IOBase" 1014),some .none,some (.bool true)]
noncomputable def sD:BO:=λ p P=>⟨(.type "staticmethod"),none,(.fields #[(.ref 339)]),#[]⟩
noncomputable def sE:BO:=λ p P=>⟨(.type "getset_descriptor"),none,(.fields #[(.str "__dict__" 1031),(.ref 342),(.builtin "function.__dict__"),(.builtin "function.__dict__#set")]),#[]⟩
noncomputable def sF:BO:=λ p P=>⟨(.type "getset_descriptor"),none,(.fields #[(.str "__weakref__" 1033),(.ref 342),(.builtin "ExceptionGroup.__weakref__"),.none]),#[]⟩
def sG:BO:=λ p P=>tO #[(.ref 342)]
def sH:BO:=λ p P=>tO #[]
def sJ:BO:=λ p P=>dO 2 [de P "__module__" 1045 (.str "io" 1050),de P "__firstlineno__" 1049 (.int 515 1048),dr P "__static_attributes__" 1052 355,de P "__doc__" 1053 .none]
def sK:BO:=λ p P=>tO #[(.ref 342)]
def sL:BO:=λ p P=>tO #[]
def sM:BO:=λ p P=>dO 2 [de P "__module__" 1063 (.str "io" 1068),de P "__firstlineno__" 1067 (.int 517 1066),dr P "__static_attributes__" 1070 367,de P "__doc__" 1071 .none]
def sN:BO:=λ p P=>kO "BufferedIOBase" [(.ref 342)] [(.ref 357),(.ref 342),(.type "object")] 356 true [(.ref 599)] #[some (.ref 348),none,some (.str "BufferedIOBase" 1038),some (.str "BufferedIOBase" 1046),some .none,some (.bool true)]
def sO:BO:=λ p P=>tZ 1330 ["__buf", "__pos"]
def sP:BO:=λ p P=>dO 2 [de P "__module__" 1081 (.str "_io" 1086),de P "__firstlineno__" 1085 (.int 519 1084),dr P "__init__" 1095 386,dr P "_BytesIO__check" 1102 393,dr P "_BytesIO__line" 1113 400,dr P "closed" 1121 408,dr P "close" 1128 415,dr P "__enter__" 1135 422,dr P "__exit__" 1143 429,dr P "readable" 1150 436,dr P "writable" 1157 443,dr P "seekable" 1164 450,dr P "isatty" 1171 457,dr P "flush" 1178 464,dr P "fileno" 1185 471,dr P "detach" 1192 478,dr P "getvalue" 1199 485,dr P "getbuffer" 1206 492,dr P "tell" 1213 499,dr P "seek" 1223 507,dr P "truncate" 1231 515,dr P "read" 1243 523,dr P "read1" 1253 531,dr P "readinto" 1263 538,dr P "readinto1" 1271 545,dr P "readline" 1281 553,dr P "readlines" 1289 561,dr P "__iter__" 1296 568,dr P "__next__" 1304 575,dr P "write" 1314 582,dr P "writelines" 1322 589,dr P "__repr__" 1329 596,dr P "__static_attributes__" 1332 597,de P "__doc__" 1333 .none]
def sQ:BO:=λ p P=>kO "BytesIO" [(.ref 357)] [(.ref 599),(.ref 357),(.ref 342),(.type "object")] 598 true [] #[some (.ref 372),none,some (.str "BytesIO" 1074),some (.str "BytesIO" 1082),some .none,some (.bool true)]
def sR:BO:=λ p P=>kO "TextIOBase" [(.ref 342)] [(.ref 369),(.ref 342),(.type "object")] 368 true [(.ref 846)] #[some (.ref 360),none,some (.str "TextIOBase" 1056),some (.str "TextIOBase" 1064),some .none,some (.bool true)]
def sS:BO:=λ p P=>tO #[(.ref 369)]
def sT:BO:=λ p P=>tZ 1350 ["", "\n"]
def Gg (p:Program):Bool->List (Nat×Obj):=fB (sub (aw p 21) 1) 610 "__init__" 1352 "StringIO.__init__" 692 3 0 3 ["self", "initial_value", "newline"] (.ref 609) .none m4
def Gh (p:Program):Bool->List (Nat×Obj):=fB (sub (aw p 21) 2) 617 "__translated" 1361 "StringIO.__translated" 705 2 0 3 ["self", "s", "newline"] .none .none m4
def Gi (p:Program):Bool->List (Nat×Obj):=fB (sub (aw p 21) 3) 624 "__check" 1370 "StringIO.__check" 713 1 0 3 ["self"] .none .none m4
def sU:BO:=λ p P=>tO #[(.int (-1) 1543)]
def Gj (p:Program):Bool->List (Nat×Obj):=fB (sub (aw p 21) 25) 786 "read" 1544 "StringIO.read" 835 2 2 3 ["self", "size", "start", "stop"] (.ref 785) .none m4
def sV:BO:=λ p P=>tZ 1616 ["__buf", "__newline", "__pos"]
def sX:BO:=λ p P=>dO 2 [de P "__module__" 1343 (.str "_io" 1348),de P "__firstlineno__" 1347 (.int 689 1346),dr P "__init__" 1360 616,dr P "_StringIO__translated" 1369 623,dr P "_StringIO__check" 1376 630,dr P "_StringIO__check_dot" 1383 637,dr P "_StringIO__line" 1398 644,dr P "closed" 1406 652,dr P "line_buffering" 1414 660,dr P "newlines" 1422 668,dr P "encoding" 1430 676,dr P "errors" 1438 684,dr P "close" 1445 691,dr P "__enter__" 1452 698,dr P "__exit__" 1460 705,dr P "readable" 1467 712,dr P "writable" 1474 719,dr P "seekable" 1481 726,dr P "isatty" 1488 733,dr P "flush" 1495 740,dr P "fileno" 1502 747,dr P "detach" 1509 754,dr P "getvalue" 1516 761,dr P "tell" 1523 768,dr P "seek" 1533 776,dr P "truncate" 1541 784,dr P "read" 1553 792,dr P "readline" 1563 800,dr P "readlines" 1573 808,dr P "__iter__" 1580 815,dr P "__next__" 1588 822,dr P "write" 1600 829,dr P "writelines" 1608 836,dr P "__repr__" 1615 843,dr P "__static_attributes__" 1619 844,de P "__doc__" 1620 .none]
def sY:BO:=λ p P=>kO "StringIO" [(.ref 369)] [(.ref 846),(.ref 369),(.ref 342),(.type "object")] 845 true [] #[some (.ref 602),none,some (.str "StringIO" 1336),some (.str "StringIO" 1344),some .none,some (.bool true)]
def Gk (p:Program):Bool->List (Nat×Obj):=fB (aw p 23) 849 "_kind" 1625 "_kind" 895 2 0 3 ["name", "x", "t"] .none .none m5
def Gl (p:Program):Bool->List (Nat×Obj):=fB (aw p 24) 856 "_fspath" 1634 "_fspath" 916 2 0 3 ["name", "x", "k"] .none .none m5
def Gm (p:Program):Bool->List (Nat×Obj):=fB (aw p 25) 863 "_check_arg_types" 1643 "_check_arg_types" 921 1 0 7 ["funcname", "args", "s", "k"] .none .none m5
def Gn (p:Program):Bool->List (Nat×Obj):=fB (aw p 26) 870 "isabs" 1653 "isabs" 926 1 0 3 ["s"] .none .none m5
def Go (p:Program):Bool->List (Nat×Obj):=fB (aw p 27) 877 "join" 1660 "join" 929 1 0 7 ["a", "p", "b", "sep", "path"] .none .none m5
def Gp (p:Program):Bool->List (Nat×Obj):=fB (aw p 29) 884 "dirname" 1672 "dirname" 950 1 0 3 ["p", "sep", "i", "head"] .none .none m5
def sZ:BO:=λ p P=>tO #[.none,.none,(.bool false),(.bool false)]
def Gq (p:Program):Bool->List (Nat×Obj):=fB (sub (aw p 31) 1) 899 "__init__" 1699 "shlex.__init__" 962 5 0 3 ["self", "instream", "infile", "posix", "punctuation_chars", "t"] (.ref 898) .none m6
def Gr (p:Program):Bool->List (Nat×Obj):=fB (sub (aw p 31) 2) 906 "punctuation_chars" 1711 "shlex.punctuation_chars" 1003 1 0 3 ["self"] .none .none m6
noncomputable def ta:BO:=λ p P=>⟨(.type "property"),none,(.fields #[(.ref 912),.none,.none,.none,(.str "punctuation_chars" 1718),(.bool false)]),#[]⟩
def Gs (p:Program):Bool->List (Nat×Obj):=fB (sub (aw p 31) 3) 914 "push_token" 1719 "shlex.push_token" 1007 2 0 3 ["self", "tok"] .none .none m6
def tc:BO:=λ p P=>tO #[.none]
def Gu (p:Program):Bool->List (Nat×Obj):=fB (sub (aw p 31) 4) 922 "push_source" 1727 "shlex.push_source" 1010 3 0 3 ["self", "newstream", "newfile"] (.ref 921) (.str (ck (sub (aw p 31) 4)) 1735) m6
def Gv (p:Program):Bool->List (Nat×Obj):=fB (sub (aw p 31) 5) 929 "pop_source" 1737 "shlex.pop_source" 1024 1 0 3 ["self"] .none (.str (ck (sub (aw p 31) 5)) 1743) m6
def Gw (p:Program):Bool->List (Nat×Obj):=fB (sub (aw p 31) 6) 936 "get_token" 1745 "shlex.get_token" 1032 1 0 3 ["self", "tok", "raw", "spec", "newfile", "newstream"] .none (.str (ck (sub (aw p 31) 6)) 1756) m6
def Gx (p:Program):Bool->List (Nat×Obj):=fB (sub (aw p 31) 7) 943 "read_token" 1758 "shlex.read_token" 1060 1 0 3 ["self", "quoted", "escapedstate", "nextchar", "result"] .none .none m6
def Gy (p:Program):Bool->List (Nat×Obj):=fB (sub (aw p 31) 8) 950 "sourcehook" 1769 "shlex.sourcehook" 1197 2 0 3 ["self", "newfile"] .none (.str (ck (sub (aw p 31) 8)) 1776) m6
def td:BO:=λ p P=>tO #[.none,.none]
def Gz (p:Program):Bool->List (Nat×Obj):=fB (sub (aw p 31) 9) 958 "error_leader" 1778 "shlex.error_leader" 1205 3 0 3 ["self", "infile", "lineno"] (.ref 957) .none m6
def GA (p:Program):Bool->List (Nat×Obj):=fB (sub (aw p 31) 10) 965 "__iter__" 1787 "shlex.__iter__" 1208 1 0 3 ["self"] .none .none m6
def GB (p:Program):Bool->List (Nat×Obj):=fB (sub (aw p 31) 11) 972 "__next__" 1794 "shlex.__next__" 1211 1 0 3 ["self", "token"] .none .none m6
def te:BO:=λ p P=>tZ 1802 ["_punctuation_chars", "_pushback_chars", "commenters", "debug", "eof", "escape", "escapedquotes", "filestack", "infile", "instream", "lineno", "posix", "pushback", "quotes", "source", "state", "token", "whitespace", "whitespace_split", "wordchars"]
def th:BO:=λ p P=>dO 3 [de P "__module__" 1691 (.str "cpy313.shlex" 1682),de P "__firstlineno__" 1695 (.int 959 1694),de P "__doc__" 1697 (.str (ck (aw p 31)) 1696),dr P "__init__" 1710 905,dr P "punctuation_chars" 1718 913,dr P "push_token" 1726 920,dr P "push_source" 1736 928,dr P "pop_source" 1744 935,dr P "get_token" 1757 942,dr P "read_token" 1768 949,dr P "sourcehook" 1777 956,dr P "error_leader" 1786 964,dr P "__iter__" 1793 971,dr P "__next__" 1801 978,dr P "__static_attributes__" 1822 979,dr P "__dict__" 1824 982,dr P "__weakref__" 1826 983]
def ti:BO:=λ p P=>kO "shlex" [(.type "object")] [(.ref 981),(.type "object")] 980 true [] #[none,none,some (.str "shlex" 1684),some (.str "shlex" 1692),some (.builtin "object.__new__"),some (.bool true)]
noncomputable def tj:BO:=λ p P=>⟨(.type "getset_descriptor"),none,(.fields #[(.str "__dict__" 1823),(.ref 981),(.builtin "function.__dict__"),(.builtin "function.__dict__#set")]),#[]⟩
noncomputable def tm:BO:=λ p P=>⟨(.type "getset_descriptor"),none,(.fields #[(.str "__weakref__" 1825),(.ref 981),(.builtin "ExceptionGroup.__weakref__"),.none]),#[]⟩
def tn:BO:=λ p P=>tO #[(.bool false),(.bool true)]
def GC (p:Program):Bool->List (Nat×Obj):=fB (aw p 32) 987 "split" 1829 "split" 1216 3 0 3 ["s", "comments", "posix", "lex"] (.ref 986) (.str (ck (aw p 32)) 1838) m6
def GD (p:Program):Bool->List (Nat×Obj):=fB (aw p 33) 994 "join" 1840 "join" 1225 1 0 3 ["split_command"] .none (.str (ck (aw p 33)) 1846) m6
noncomputable def nm:BO:=λ p P=>⟨(.type "builtin_function_or_method"),none,(.fields #[(.builtin "re.Pattern.search"),(.ref 298)]),#[]⟩
def Dh (p:Program):Bool->List (Nat×Obj):=fB (aw p 36) 1002 "quote" 1851 "quote" 1230 1 0 3 ["s"] .none (.str (ck (aw p 36)) 1857) m6
def Di:BO:=λ p P=>d3 P "law_ku0033_01" 1859 49
def nq:BO:=λ p P=>tO #[]
def nt:BO:=λ p P=>cO "_law_piece" 1861 "_law_piece" "/claim/cut.py" 1238 1 0 0 3 1009 true 318 1010 .none .none .none (.ref 1011) 1864 1238 1865
def nu:BO:=λ p P=>fO (aw p 38) "_law_piece" 3 .none .none .none (.str "law_ku0033_01" 1859) 1012 .none 0
def Dj (p:Program):Bool->List (Nat×Obj):=fB (aw p 39) 1014 "_law_sign" 1867 "_law_sign" 1242 1 0 3 ["part"] .none .none m7
def nv:BO:=λ p P=>tO #[]
def nw:BO:=λ p P=>cO "_law_taken" 1874 "_law_taken" "/claim/cut.py" 1248 2 0 0 3 1021 true 318 1022 .none .none .none (.ref 1023) 1877 1248 1878
def ny:BO:=λ p P=>fO (aw p 40) "_law_taken" 3 .none .none .none (.str "law_ku0033_01" 1859) 1024 .none 0
def nz:BO:=λ p P=>tO #[]
def nA:BO:=λ p P=>cO "_law_stands" 1880 "_law_stands" "/claim/cut.py" 1251 2 0 0 3 1026 true 318 1027 .none .none .none (.ref 1028) 1883 1251 1884
def nB:BO:=λ p P=>fO (aw p 41) "_law_stands" 3 .none .none .none (.str "law_ku0033_01" 1859) 1029 .none 0
def Dk (p:Program):Bool->List (Nat×Obj):=fB (aw p 42) 1031 "_law_found" 1886 "_law_found" 1253 2 0 3 ["signs", "stands", "known", "asked", "behind", "grown", "word", "words"] .none .none m7
def Dl (p:Program):Bool->List (Nat×Obj):=fB (aw p 43) 1038 "_law_matched" 1900 "_law_matched" 1268 3 0 3 ["words", "row", "told"] .none .none m7
def Dm (p:Program):Bool->List (Nat×Obj):=fB (aw p 44) 1045 "_law_longest" 1909 "_law_longest" 1271 2 0 3 ["one", "other", "best", "i", "j", "size"] .none .none m7
def nC:BO:=λ p P=>tO #[]
def nD:BO:=λ p P=>cO "law" 1921 "law" "/claim/cut.py" 1281 1 0 0 3 1052 true 318 1053 .none .none .none (.ref 1054) 1924 1281 1925
def nE:BO:=λ p P=>fO (aw p 45) "law" 3 .none .none .none (.str "law_ku0033_01" 1859) 1055 .none 0
def TE (p:Program) (P:Params):BT:=bN .nil ([(0,dO 159 [de P "__name__" 1 (.str "builtins" 160),de P "__doc__" 2 (.builtin "builtins.__doc__:str#opaque"),de P "__package__" 3 (.builtin "builtins.__package__:str#opaque"),de P "__loader__" 4 (.builtin "builtins.__loader__:shared#opaque"),de P "__spec__" 5 (.builtin "builtins.__spec__#opaque"),db P "__build_class__" 6,db P "__import__" 7,db P "abs" 8,db P "all" 9,db P "any" 10,db P "ascii" 11,db P "bin" 12,db P "breakpoint" 13,db P "callable" 14,db P "chr" 15,db P "compile" 16,db P "delattr" 17,db P "dir" 18,db P "divmod" 19,db P "eval" 20,db P "exec" 21,db P "format" 22,db P "getattr" 23,db P "globals" 24,db P "hasattr" 25,db P "hash" 26,db P "hex" 27,db P "id" 28,db P "input" 29,db P "isinstance" 30,db P "issubclass" 31,db P "iter" 32,db P "aiter" 33,db P "len" 34,db P "locals" 35,db P "max" 36,db P "min" 37,db P "next" 38,db P "anext" 39,db P "oct" 40,db P "ord" 41,db P "pow" 42,db P "print" 43,db P "repr" 44,db P "round" 45,db P "setattr" 46,db P "sorted" 47,db P "sum" 48,db P "vars" 49,de P "None" 50 .none,de P "Ellipsis" 51 .ellipsis,de P "NotImplemented" 52 .notImplemented,de P "False" 53 (.bool false),de P "True" 54 (.bool true),dt P "bool" 55,dt P "memoryview" 56,dt P "bytearray" 57,dt P "bytes" 58,dt P "classmethod" 59,dt P "complex" 60,dt P "dict" 61,dt P "enumerate" 62,dt P "filter" 63,dt P "float" 64,dt P "frozenset" 65,dt P "property" 66,dt P "int" 67,dt P "list" 68,dt P "map" 69,dt P "object" 70,dt P "range" 71,dt P "reversed" 72,dt P "set" 73,dt P "slice" 74,dt P "staticmethod" 75,dt P "str" 76,dt P "super" 77,dt P "tuple" 78,dt P "type" 79,dt P "zip" 80,de P "__debug__" 81 (.bool true),dt P "BaseException" 82,dt P "BaseExceptionGroup" 83,dt P "Exception" 84,dt P "GeneratorExit" 85,dt P "KeyboardInterrupt" 86,dt P "SystemExit" 87,dt P "ArithmeticError" 88,dt P "AssertionError" 89,dt P "AttributeError" 90,dt P "BufferError" 91,dt P "EOFError" 92,dt P "ImportError" 93,dt P "LookupError" 94,dt P "MemoryError" 95,dt P "NameError" 96,dt P "OSError" 97,dt P "ReferenceError" 98,dt P "RuntimeError" 99,dt P "StopAsyncIteration" 100,dt P "StopIteration" 101,dt P "SyntaxError" 102,dt P "SystemError" 103,dt P "TypeError" 104,dt P "ValueError" 105,dt P "Warning" 106,dt P "FloatingPointError" 107,dt P "OverflowError" 108,dt P "ZeroDivisionError" 109,dt P "BytesWarning" 110,dt P "DeprecationWarning" 111,dt P "EncodingWarning" 112,dt P "FutureWarning" 113,dt P "ImportWarning" 114,dt P "PendingDeprecationWarning" 115,dt P "ResourceWarning" 116,dt P "RuntimeWarning" 117,dt P "SyntaxWarning" 118,dt P "UnicodeWarning" 119,dt P "UserWarning" 120,dt P "BlockingIOError" 121,dt P "ChildProcessError" 122,dt P "ConnectionError" 123,dt P "FileExistsError" 124,dt P "FileNotFoundError" 125,dt P "InterruptedError" 126,dt P "IsADirectoryError" 127,dt P "NotADirectoryError" 128,dt P "PermissionError" 129,dt P "ProcessLookupError" 130,dt P "TimeoutError" 131,dt P "IndentationError" 132,dt P "_IncompleteInputError" 133,dt P "IndexError" 134,dt P "KeyError" 135,dt P "ModuleNotFoundError" 136,dt P "NotImplementedError" 137,dt P "PythonFinalizationError" 138,dt P "RecursionError" 139,dt P "UnboundLocalError" 140,dt P "UnicodeError" 141,dt P "BrokenPipeError" 142,dt P "ConnectionAbortedError" 143,dt P "ConnectionRefusedError" 144,dt P "ConnectionResetError" 145,dt P "TabError" 146,dt P "UnicodeDecodeError" 147,dt P "UnicodeEncodeError" 148,dt P "UnicodeTranslateError" 149,dt P "ExceptionGroup" 150,de P "EnvironmentError" 151 (.type "OSError"),de P "IOError" 152 (.type "OSError"),db P "open" 153,de P "quit" 154 (.builtin "builtins.quit#opaque"),de P "exit" 155 (.builtin "builtins.exit#opaque"),de P "copyright" 156 (.builtin "builtins.copyright#opaque"),de P "credits" 157 (.builtin "builtins.credits#opaque"),de P "license" 158 (.builtin "builtins.license#opaque"),de P "help" 159 (.builtin "builtins.help#opaque")]),(1,dO 4 [dr P "builtins" 162 4,dr P "__main__" 163 5,dr P "_sre" 244 12,dr P "_collections" 292 30]),(2,⟨.none,none,(.dict #[de P "\x69mport.loaded._sre" 183 (.bool true),
 dr P "class._frozen_importlib.BuiltinImporter" 185 14,
 dr P "watched.\x69mport" 206 18,
 dr P "class._frozen_importlib.ModuleSpec" 216 22,
 de P "sys.modules.booked-epoch" 245 (.int 4 0),
 de P "\x69mport.later-laid._sre" 270 (.bool true),
 dr P "watched.library" 272 27,
 de P "watched.library-objects" 0 (.str "\x0c\x1e" 0),
 de P "watched.library-deep._sre" 273 (.str "\x04\x00\x00\x0b\x04\x00\x00\x0b\x04\x00\x00\x03\x04\x00\x00\x0b\x08\x04dict\x02" 0),
 de P "\x69mport.loaded._collections" 280 (.bool true),
 de P "sys.modules.landed._collections" 294 (.bool true),
 de P "\x69mport.later-laid._collections" 309 (.bool true),
 de P "watched.library-deep._collections" 311 (.str "\x04\x00\x00\x1d\x04\x00\x00\x1d\x04\x00\x00\x03\x04\x00\x00\x1d\x08\x04dict\x02" 0)] 13),#[]⟩),(3,d3 P "__main__" 164 11),(4,⟨(.type "module"),(some 0),.plain,#[]⟩),(5,⟨(.type "module"),(some 3),.plain,#[]⟩),(6,dO 0 []),(7,tO #[]),(8,nO #[]),(9,cO "<module>" 176 "<module>" "/claim/cut.py" 1 0 0 0 0 7 false 175 8 .none .none .none .none 179 1 180),(10,rO 9 3 m0),(11,dO 17 [de P "__name__" 247 (.str "_sre" 246),de P "__doc__" 248 .none,de P "__package__" 250 (.str "" 249),dr P "__loader__" 251 14,dr P "__spec__" 252 26,de P "compile" 253 (.builtin "_sre.compile"),de P "template" 254 (.builtin "_sre.template"),de P "getcodesize" 255 (.builtin "_sre.getcodesize"),de P "ascii_iscased" 256 (.builtin "_sre.ascii_iscased"),de P "unicode_iscased" 257 (.builtin "_sre.unicode_iscased"),de P "ascii_tolower" 258 (.builtin "_sre.ascii_tolower"),de P "unicode_tolower" 259 (.builtin "_sre.unicode_tolower"),de P "MAGIC" 261 (.int 20230612 260),de P "CODESIZE" 263 (.int 4 262),de P "MAXREPEAT" 265 (.int 4294967295 264),de P "MAXGROUPS" 267 (.int 1073741823 266),de P "copyright" 269 (.str " SRE 2.2.2 Copyright (c) 1997-2002 by Secret Labs AB " 268)]),(12,⟨(.type "module"),(some 11),.plain,#[]⟩),(13,dO 14 [de P "__module__" 189 (.str "_frozen_importlib" 186),de P "__firstlineno__" 190 (.int 971 187),de P "__doc__" 191 (.builtin "_frozen_importlib.BuiltinImporter.__doc__:str#opaque"),de P "_ORIGIN" 192 (.str "built-in" 188),de P "find_spec" 193 (.builtin "_frozen_importlib.BuiltinImporter.find_spec#opaque"),de P "create_module" 194 (.builtin "_frozen_importlib.BuiltinImporter.create_module#opaque"),de P "exec_module" 195 (.builtin "_frozen_importlib.BuiltinImporter.exec_module#opaque"),de P "get_code" 196 (.builtin "_frozen_importlib.BuiltinImporter.get_code#opaque"),de P "get_source" 197 (.builtin "_frozen_importlib.BuiltinImporter.get_source#opaque"),de P "is_package" 198 (.builtin "_frozen_importlib.BuiltinImporter.is_package#opaque"),de P "load_module" 199 (.builtin "_frozen_importlib.BuiltinImporter.load_module#opaque"),dr P "__static_attributes__" 200 15,dr P "__dict__" 202 16,dr P "__weakref__" 204 17]),(14,kO "BuiltinImporter" [(.type "object")] [(.ref 14),(.type "object")] 13 true [] #[]),(15,tO #[]),(16,⟨(.type "getset_descriptor"),none,(.fields #[(.str "__dict__" 201),(.ref 14),(.builtin "function.__dict__"),(.builtin "function.__dict__#set")]),#[]⟩),(17,⟨(.type "getset_descriptor"),none,(.fields #[(.str "__weakref__" 203),(.ref 14),(.builtin "ExceptionGroup.__weakref__"),.none]),#[]⟩),(18,⟨.none,none,(.seq #[(.int 13 0),(.str "\x06\u00bd\n__module__\x06\u00ba\x11_frozen_importlib\x06\u00be\x0f__firstlineno__\x04\u00bb\x00\u03cb\x06\u00bf\x07__doc__\x094_frozen_importlib.BuiltinImporter.__doc__:str#opaque\x06\u00c0\x07_ORIGIN\x06\u00bc\x08built-in\x06\u00c1\x09find_spec\x092_frozen_importlib.BuiltinImporter.find_spec#opaque\x06\u00c2\x0dcreate_module\x096_frozen_importlib.BuiltinImporter.create_module#opaque\x06\u00c3\x0bexec_module\x094_frozen_importlib.BuiltinImporter.exec_module#opaque\x06\u00c4\x08get_code\x091_frozen_importlib.BuiltinImporter.get_code#opaque\x06\u00c5\nget_source\x093_frozen_importlib.BuiltinImporter.get_source#opaque\x06\u00c6\nis_package\x093_frozen_importlib.BuiltinImporter.is_package#opaque\x06\u00c7\x0bload_module\x094_frozen_importlib.BuiltinImporter.load_module#opaque\x06\u00c8\x15__static_attributes__\x04\x00\x00\x0f\x06\u00ca\x08__dict__\x04\x00\x00\x10\x06\u00cc\x0b__weakref__\x04\x00\x00\x11" 0),(.bool true),(.bool true),(.str "" 205),(.int 21 0),(.str "\x06\u00e3\n__module__\x06\u00d9\x11_frozen_importlib\x06\u00e4\x0f__firstlineno__\x04\u00da\x00\u0232\x06\u00e5\x07__doc__\x09/_frozen_importlib.ModuleSpec.__doc__:str#opaque\x06\u00e6\x08__init__\x09,_frozen_importlib.ModuleSpec.__init__#opaque\x06\u00e7\x08__repr__\x09,_frozen_importlib.ModuleSpec.__repr__#opaque\x06\u00e8\x06__eq__\x09*_frozen_importlib.ModuleSpec.__eq__#opaque\x06\u00e9\x06cached\x09*_frozen_importlib.ModuleSpec.cached#opaque\x06\u00ea\x06parent\x09*_frozen_importlib.ModuleSpec.parent#opaque\x06\u00eb\x0chas_location\x090_frozen_importlib.ModuleSpec.has_location#opaque\x06\u00ec\x15__static_attributes__\x04\x00\x00\x17\x06\u00ee\x08__dict__\x04\x00\x00\x18\x06\u00f0\x0b__weakref__\x04\x00\x00\x19\x06\u00f1\x08__hash__\x00" 0),(.bool true),(.bool true),(.str "" 242)] 1),#[]⟩),(19,⟨(.type "list"),none,(.seq #[] 0),#[]⟩),(20,dO 9 [de P "name" 208 (.str "_sre" 207),dr P "loader" 209 14,de P "origin" 210 (.str "built-in" 184),de P "loader_state" 211 .none,de P "submodule_search_locations" 212 .none,dr P "_uninitialized_submodules" 213 19,de P "_set_fileattr" 214 (.bool false),de P "_cached" 215 .none,de P "_initializing" 243 (.bool false)]),(21,dO 13 [de P "__module__" 227 (.str "_frozen_importlib" 217),de P "__firstlineno__" 228 (.int 562 218),de P "__doc__" 229 (.builtin "_frozen_importlib.ModuleSpec.__doc__:str#opaque"),de P "__init__" 230 (.builtin "_frozen_importlib.ModuleSpec.__init__#opaque"),de P "__repr__" 231 (.builtin "_frozen_importlib.ModuleSpec.__repr__#opaque"),de P "__eq__" 232 (.builtin "_frozen_importlib.ModuleSpec.__eq__#opaque"),de P "cached" 233 (.builtin "_frozen_importlib.ModuleSpec.cached#opaque"),de P "parent" 234 (.builtin "_frozen_importlib.ModuleSpec.parent#opaque"),de P "has_location" 235 (.builtin "_frozen_importlib.ModuleSpec.has_location#opaque"),dr P "__static_attributes__" 236 23,dr P "__dict__" 238 24,dr P "__weakref__" 240 25,de P "__hash__" 241 .none]),(22,kO "ModuleSpec" [(.type "object")] [(.ref 22),(.type "object")] 21 true [] #[]),(23,tZ 219 ["_cached", "_set_fileattr", "_uninitialized_submodules", "loader", "loader_state", "name", "origin", "submodule_search_locations"]),(24,⟨(.type "getset_descriptor"),none,(.fields #[(.str "__dict__" 237),(.ref 22),(.builtin "function.__dict__"),(.builtin "function.__dict__#set")]),#[]⟩),(25,⟨(.type "getset_descriptor"),none,(.fields #[(.str "__weakref__" 239),(.ref 22),(.builtin "ExceptionGroup.__weakref__"),.none]),#[]⟩),(26,⟨(.ref 22),(some 20),.plain,#[]⟩),(27,⟨.none,none,(.seq #[(.int 11 0),(.str (Str.append "\x06\u00f7\x08__name__\x06\u00f6\x04_sre\x06\u00f8\x07__doc__\x00\x06\u00fa\x0b__package__\x06\u00f9\x00\x06\u00fb\n__loader__\x04\x00\x00\x0e\x06\u00fc\x08__spec__\x04\x00\x00\x1a\x06\u00fd\x07compile\t\x0c_sre.compile\x06\u00fe\x08template\t\x0d_sre.template\x06\u00ff\x0bgetcodesize\t\x10_sre.getcodesize\x06\u0100\x0dascii_iscased\t\x12_sre.ascii_iscased\x06\u0101\x0funicode_iscased\t\x14_sre.unicode_iscased\x06\u0102\x0dascii_tolower\t\x12_sre.ascii_tolower\x06\u0103\x0funicode_tolower\t\x14_sre.unicode_tolower\x06\u0105\x05MAGIC\x04\u0104\x00" (Str.append ⟨#[20230612]⟩ (Str.append "\x06\u0107\x08CODESIZE\x04\u0106\x00\x04\x06\u0109\tMAXREPEAT\x04\u0108\x00" (Str.append ⟨#[4294967295]⟩ (Str.append "\x06\u010b\tMAXGROUPS\x04\u010a\x00" (Str.append ⟨#[1073741823]⟩ ("\x06\u010d\tcopyright\x06\u010c5 SRE 2.2.2 Copyright (c) 1997-2002 by Secret Labs AB "))))))) 0),(.bool true),(.bool false),(.str "_sre" 271),(.int 29 0),(.str "\x06\u0128\x08__name__\x06\u0127\x0c_collections\x06\u0129\x07__doc__\x09\x1f_collections.__doc__:str#opaque\x06\u012b\x0b__package__\x06\u012a\x00\x06\u012c\n__loader__\x04\x00\x00\x0e\x06\u012d\x08__spec__\x04\x00\x00!\x06\u012e\x0f_count_elements\x09\x1c_collections._count_elements\x06\u012f\x05deque\x08\x11collections.deque\x06\u0130\x0bdefaultdict\x08\x17collections.defaultdict\x06\u0131\x0f_deque_iterator\x08\x1bcollections._deque_iterator\x06\u0132\x17_deque_reverse_iterator\x08#collections._deque_reverse_iterator\x06\u0133\x0c_tuplegetter\x08\x18collections._tuplegetter\x06\u0134\x0bOrderedDict\x08\x17collections.OrderedDict" 0),(.bool true),(.bool false),(.str "_collections" 310)] 1),#[]⟩),(28,tZ 277 ["deque"]),(29,dO 12 [de P "__name__" 296 (.str "_collections" 295),de P "__doc__" 297 (.builtin "_collections.__doc__:str#opaque"),de P "__package__" 299 (.str "" 298),dr P "__loader__" 300 14,dr P "__spec__" 301 33,de P "_count_elements" 302 (.builtin "_collections._count_elements"),de P "deque" 303 (.type "collections.deque"),de P "defaultdict" 304 (.type "collections.defaultdict"),de P "_deque_iterator" 305 (.type "collections._deque_iterator"),de P "_deque_reverse_iterator" 306 (.type "collections._deque_reverse_iterator"),de P "_tuplegetter" 307 (.type "collections._tuplegetter"),de P "OrderedDict" 308 (.type "collections.OrderedDict")]),(30,⟨(.type "module"),(some 29),.plain,#[]⟩),(31,⟨(.type "list"),none,(.seq #[] 0),#[]⟩),(32,dO 9 [de P "name" 283 (.str "_collections" 282),dr P "loader" 284 14,de P "origin" 285 (.str "built-in" 281),de P "loader_state" 286 .none,de P "submodule_search_locations" 287 .none,dr P "_uninitialized_submodules" 288 31,de P "_set_fileattr" 289 (.bool false),de P "_cached" 290 .none,de P "_initializing" 291 (.bool false)]),(33,⟨(.ref 22),(some 32),.plain,#[]⟩)])
def TA (p:Program) (P:Params):BT:=bN (TE p P) ([(11,dO 17 [de P "__name__" 247 (.str "_sre" 246),de P "__doc__" 248 .none,de P "__package__" 250 (.str "" 249),de P "__loader__" 251 (.builtin "off-the-table:_sre.__loader__:shared#opaque"),de P "__spec__" 252 (.builtin "off-the-table:_sre.__spec__:shared#opaque"),de P "compile" 253 (.builtin "_sre.compile"),de P "template" 254 (.builtin "off-the-table:_sre.template:shared#opaque"),de P "getcodesize" 255 (.builtin "off-the-table:_sre.getcodesize:shared#opaque"),de P "ascii_iscased" 256 (.builtin "off-the-table:_sre.ascii_iscased:shared#opaque"),de P "unicode_iscased" 257 (.builtin "off-the-table:_sre.unicode_iscased:shared#opaque"),de P "ascii_tolower" 258 (.builtin "off-the-table:_sre.ascii_tolower:shared#opaque"),de P "unicode_tolower" 259 (.builtin "off-the-table:_sre.unicode_tolower:shared#opaque"),de P "MAGIC" 261 (.int 20230612 260),de P "CODESIZE" 263 (.int 4 262),de P "MAXREPEAT" 265 (.int 4294967295 264),de P "MAXGROUPS" 267 (.int 1073741823 266),de P "copyright" 269 (.str " SRE 2.2.2 Copyright (c) 1997-2002 by Secret Labs AB " 268)]),(29,dO 12 [de P "__name__" 296 (.str "_collections" 295),de P "__doc__" 297 (.builtin "off-the-table:_collections.__doc__:shared#opaque"),de P "__package__" 299 (.str "" 298),de P "__loader__" 300 (.builtin "off-the-table:_collections.__loader__:shared#opaque"),de P "__spec__" 301 (.builtin "off-the-table:_collections.__spec__:shared#opaque"),de P "_count_elements" 302 (.builtin "_collections._count_elements"),de P "deque" 303 (.type "collections.deque"),de P "defaultdict" 304 (.type "collections.defaultdict"),de P "_deque_iterator" 305 (.builtin "off-the-table:_collections._deque_iterator:shared#opaque"),de P "_deque_reverse_iterator" 306 (.builtin "off-the-table:_collections._deque_reverse_iterator:shared#opaque"),de P "_tuplegetter" 307 (.type "collections._tuplegetter"),de P "OrderedDict" 308 (.type "collections.OrderedDict")])])
def TB (p:Program) (P:Params):BT:=bN (TA p P) ([(34,tO #[]),(35,nO #[]),(36,kC "<module>" 319 1 34),(37,rO 36 3 m0)])
def T2 (p:Program) (P:Params):BT:=bN (TB p P) ([(3,d3 P "cpy313.difflib" 331 13),(35,wv 4)]++J5 p true++[(45,tO #[]),(46,pO),(47,dO 8 [de P "__module__" 340 (.str "cpy313.difflib" 331),de P "__qualname__" 342 (.str "_tuplegetter" 341),de P "__firstlineno__" 344 (.int 7 343),dr P "__init__" 353 58,dr P "__get__" 362 66,dr P "__set__" 371 73,dr P "__delete__" 379 80,dr P "__static_attributes__" 382 81]),(48,tO #[]),(49,nV 4 [9,57,13,65,20,72,23,79]),(50,kC "_tuplegetter" 335 7 48),(51,rO 50 47 m1)]++J6 p true++[(59,C5 p P)]++J7 p true++J8 p true++J9 p true++[(81,C6 p P),(82,C7 p P),(83,C8 p P),(84,C9 p P),(85,Da p P),(86,⟨(.type "super"),none,(.fields #[(.ref 83),(.ref 83),(.ref 83)]),#[]⟩),(87,⟨(.type "builtin_function_or_method"),none,(.fields #[(.builtin "object.__init_subclass__"),(.ref 83)]),#[]⟩)])
def T3 (p:Program) (P:Params):BT:=bN (T2 p P) ([(3,d3 P "cpy313.difflib" 331 14),(35,wv 6),(88,Db p P),(89,pO),(90,dO 20 [de P "__module__" 397 (.str "cpy313.difflib" 331),de P "__qualname__" 399 (.str "Match" 398),de P "__firstlineno__" 401 (.int 25 400),de P "__doc__" 403 (.str (ck (aw p 3)) 402),dr P "__slots__" 405 96,dr P "_fields" 409 97,dr P "_field_defaults" 410 98,dr P "__new__" 421 105,dr P "_make" 443 114,dr P "_replace" 454 123,dr P "__replace__" 455 123,dr P "__repr__" 463 130,dr P "_asdict" 470 137,dr P "__getnewargs__" 478 144,dr P "__match_args__" 482 145,dr P "a" 492 147,dr P "b" 502 150,dr P "size" 512 153,dr P "__static_attributes__" 513 155,dr P "__classcell__" 514 91]),(91,Dc p P),(92,tO #[]),(93,nV 4 [31,104,36,111,43,122,54,129,58,136,61,143]),(94,kC "Match" 392 25 92),(95,rO 94 90 m1),(96,Dd p P),(97,De p P),(98,Df p P)]++Ka p true++[(106,wz p P),(107,nO #[]),(108,wA p P),(109,wB p P),(110,gO (sub (aw p 3) 5) "Match._make"),(111,wC p P),(112,wE p P),(113,wF p P),(114,wG p P),(115,wH p P),(116,wI p P),(117,wK p P),(118,nO #[]),(119,wM p P),(120,wO p P),(121,gO (sub (aw p 3) 6) "Match._replace"),(122,wP p P),(123,wQ p P)]++FQ p true++FR p true++FS p true++[(145,wR p P),(146,wS p P),(147,wT p P),(148,⟨(.type "frame"),none,(.dict #[dr P "self" 485 147,
 de P "index" 486 (.int 0 483),
 de P "doc" 487 (.str "Alias for field number 0" 484)] 3),#[]⟩),(149,wU p P),(150,wV p P),(151,⟨(.type "frame"),none,(.dict #[dr P "self" 495 150,
 de P "index" 496 (.int 1 493),
 de P "doc" 497 (.str "Alias for field number 1" 494)] 3),#[]⟩),(152,wW p P),(153,wX p P),(154,⟨(.type "frame"),none,(.dict #[dr P "self" 505 153,
 de P "index" 506 (.int 2 503),
 de P "doc" 507 (.str "Alias for field number 2" 504)] 3),#[]⟩),(155,wY p P),(156,⟨(.type "list"),none,(.seq #[] 0),#[]⟩),(157,wZ p P),(158,w9 p P),(159,xc p P),(160,⟨(.type "super"),none,(.fields #[(.ref 158),(.ref 158),(.ref 158)]),#[]⟩),(161,⟨(.type "builtin_function_or_method"),none,(.fields #[(.builtin "object.__init_subclass__"),(.ref 158)]),#[]⟩)])
def T4 (p:Program) (P:Params):BT:=bN (T3 p P) ([(3,d3 P "cpy313.difflib" 331 15),(35,wv 8)]++FT p true)
def T5 (p:Program) (P:Params):BT:=bN (T4 p P) ([(3,d3 P "cpy313.difflib" 331 16),(35,wv 10),(169,tO #[]),(170,pO),(171,dO 17 [de P "__module__" 533 (.str "cpy313.difflib" 331),de P "__qualname__" 535 (.str "SequenceMatcher" 534),de P "__firstlineno__" 537 (.int 72 536),de P "__doc__" 539 (.str (ck (aw p 5)) 538),dr P "__init__" 554 183,dr P "set_seqs" 564 190,dr P "set_seq1" 573 197,dr P "set_seq2" 582 204,dr P "_SequenceMatcher__chain_b" 600 211,dr P "find_longest_match" 628 219,dr P "get_matching_blocks" 655 226,dr P "get_opcodes" 662 233,dr P "get_grouped_opcodes" 671 241,dr P "ratio" 680 248,dr P "quick_ratio" 687 255,dr P "real_quick_ratio" 694 262,dr P "__static_attributes__" 705 263]),(172,tO #[]),(173,nV 4 [147,182,175,189,186,196,211,203,238,210,262,218,337,225,385,232,388,240,391,247,415,254,418,261]),(174,kC "SequenceMatcher" 528 72 172),(175,rO 174 171 m1),(176,xd p P)]++FU p true++FV p true++FW p true++FX p true++FY p true++[(212,xf p P)]++FZ p true++F0 p true++F5 p true++[(234,xg p P)]++F6 p true++F8 p true++F9 p true++Ga p true++[(263,xh p P),(264,xj p P),(265,xk p P),(266,xl p P),(267,xm p P),(268,⟨(.type "super"),none,(.fields #[(.ref 265),(.ref 265),(.ref 265)]),#[]⟩),(269,⟨(.type "builtin_function_or_method"),none,(.fields #[(.builtin "object.__init_subclass__"),(.ref 265)]),#[]⟩)])
def T7 (p:Program) (P:Params):BT:=bN (T5 p P) ([(3,d3 P "re" 750 17),(270,⟨(.type "list"),none,(.seq #[(.int 14 715),(.int 14 716),(.int 4 717),(.int 1 718),(.int 1 719),(.int 9 720),(.int 0 721),(.int 64 722),(.int 0 723),(.int 1342177280 724),(.int 0 725),(.int 0 726),(.int 0 727),(.int 0 728),(.int 0 729),(.int 17 730),(.int 0 731),(.int 13 732),(.int 11 733),(.int 9 734),(.int 0 735),(.int 64 736),(.int 0 737),(.int 1342177280 738),(.int 0 739),(.int 0 740),(.int 0 741),(.int 0 742),(.int 0 743),(.int 17 744),(.int 1 745),(.int 1 746)] 0),#[]⟩),(271,dO 0 []),(272,tO #[.none,.none]),(273,xn p P),(274,xo p P)])
def T8 (p:Program) (P:Params):BT:=bN (T7 p P) ([(3,d3 P "re" 750 18),(275,⟨(.type "bytes_iterator"),none,(.fields #[.none,(.int 24 0)]),#[]⟩),(276,xp p P),(277,dO 2 []),(278,tO #[]),(279,⟨(.type "StopIteration"),none,(.fields #[(.ref 278),.none,.none,.none,(.bool false),.none]),#[]⟩)])
def IY (p:Program) (P:Params):BT:=bN (T8 p P) ([(3,d3 P "io" 966 23),(35,wv 18)]++Gb p true++Gc p true++[(294,⟨(.type "list"),none,(.seq #[(.int 14 929),(.int 17 930),(.int 4 931),(.int 1 932),(.int 1 933),(.int 21 934),(.int 9 935),(.int 0 936),(.int 604043296 937),(.int 1 938),(.int 0 939),(.int 0 940),(.int 0 941),(.int 0 942),(.int 0 943),(.int 8 944),(.int 4 945),(.int 0 946),(.int 13 947),(.int 14 948),(.int 21 949),(.int 9 950),(.int 0 951),(.int 604043296 952),(.int 1 953),(.int 0 954),(.int 0 955),(.int 0 956),(.int 0 957),(.int 0 958),(.int 8 959),(.int 4 960),(.int 0 961),(.int 1 962)] 0),#[]⟩),(295,dO 0 []),(296,tO #[.none]),(297,sq p P),(298,sr p P)]++Gd p true++Ge p true)
def IZ (p:Program) (P:Params):BT:=bN (IY p P) ([(2,Dg p P),(3,d3 P "io" 966 27),(35,wv 26),(313,ss p P),(314,pO),(315,dO 4 [de P "__module__" 991 (.str "io" 996),de P "__qualname__" 993 (.str "UnsupportedOperation" 992),de P "__firstlineno__" 995 (.int 506 994),dr P "__static_attributes__" 998 320]),(316,tO #[]),(317,nO #[]),(318,kC "UnsupportedOperation" 986 506 316),(319,rO 318 315 m4),(320,su p P),(321,sx p P),(322,sy p P),(323,sz p P),(324,⟨(.type "super"),none,(.fields #[(.ref 322),(.ref 322),(.ref 322)]),#[]⟩),(325,⟨(.type "builtin_function_or_method"),none,(.fields #[(.builtin "object.__init_subclass__"),(.ref 322)]),#[]⟩),(326,tO #[]),(327,pO),(328,dO 5 [de P "__module__" 1013 (.str "io" 1018),de P "__qualname__" 1015 (.str "IOBase" 1014),de P "__firstlineno__" 1017 (.int 508 1016),dr P "__new__" 1028 339,dr P "__static_attributes__" 1029 340]),(329,tO #[]),(330,nV 4 [511,338]),(331,kC "IOBase" 1008 508 329),(332,rO 331 328 m4)]++Gf p true++[(340,sA p P),(341,sB p P),(342,sC p P),(343,sD p P),(344,sE p P),(345,sF p P),(346,⟨(.type "super"),none,(.fields #[(.ref 342),(.ref 342),(.ref 342)]),#[]⟩),(347,⟨(.type "builtin_function_or_method"),none,(.fields #[(.builtin "object.__init_subclass__"),(.ref 342)]),#[]⟩),(348,sG p P),(349,pO),(350,dO 4 [de P "__module__" 1045 (.str "io" 1050),de P "__qualname__" 1047 (.str "BufferedIOBase" 1046),de P "__firstlineno__" 1049 (.int 515 1048),dr P "__static_attributes__" 1052 355]),(351,tO #[]),(352,nO #[]),(353,kC "BufferedIOBase" 1040 515 351),(354,rO 353 350 m4),(355,sH p P),(356,sJ p P),(357,kO "BufferedIOBase" [(.ref 342)] [(.ref 357),(.ref 342),(.type "object")] 356 true [] #[some (.ref 348),none,some (.str "BufferedIOBase" 1038),some (.str "BufferedIOBase" 1046),some .none,some (.bool true)]),(358,⟨(.type "super"),none,(.fields #[(.ref 357),(.ref 357),(.ref 357)]),#[]⟩),(359,⟨(.type "builtin_function_or_method"),none,(.fields #[(.builtin "object.__init_subclass__"),(.ref 357)]),#[]⟩),(360,sK p P),(361,pO),(362,dO 4 [de P "__module__" 1063 (.str "io" 1068),de P "__qualname__" 1065 (.str "TextIOBase" 1064),de P "__firstlineno__" 1067 (.int 517 1066),dr P "__static_attributes__" 1070 367]),(363,tO #[]),(364,nO #[]),(365,kC "TextIOBase" 1058 517 363),(366,rO 365 362 m4),(367,sL p P),(368,sM p P),(369,kO "TextIOBase" [(.ref 342)] [(.ref 369),(.ref 342),(.type "object")] 368 true [] #[some (.ref 360),none,some (.str "TextIOBase" 1056),some (.str "TextIOBase" 1064),some .none,some (.bool true)]),(370,⟨(.type "super"),none,(.fields #[(.ref 369),(.ref 369),(.ref 369)]),#[]⟩),(371,⟨(.type "builtin_function_or_method"),none,(.fields #[(.builtin "object.__init_subclass__"),(.ref 369)]),#[]⟩)])
def I0 (p:Program) (P:Params):BT:=bN (IZ p P) ([(3,d3 P "io" 966 28),(35,wv 28),(357,sN p P),(372,tO #[(.ref 357)]),(373,pO),(374,dO 34 [de P "__module__" 1081 (.str "_io" 1086),de P "__qualname__" 1083 (.str "BytesIO" 1082),de P "__firstlineno__" 1085 (.int 519 1084),dr P "__init__" 1095 386,dr P "_BytesIO__check" 1102 393,dr P "_BytesIO__line" 1113 400,dr P "closed" 1121 408,dr P "close" 1128 415,dr P "__enter__" 1135 422,dr P "__exit__" 1143 429,dr P "readable" 1150 436,dr P "writable" 1157 443,dr P "seekable" 1164 450,dr P "isatty" 1171 457,dr P "flush" 1178 464,dr P "fileno" 1185 471,dr P "detach" 1192 478,dr P "getvalue" 1199 485,dr P "getbuffer" 1206 492,dr P "tell" 1213 499,dr P "seek" 1223 507,dr P "truncate" 1231 515,dr P "read" 1243 523,dr P "read1" 1253 531,dr P "readinto" 1263 538,dr P "readinto1" 1271 545,dr P "readline" 1281 553,dr P "readlines" 1289 561,dr P "__iter__" 1296 568,dr P "__next__" 1304 575,dr P "write" 1314 582,dr P "writelines" 1322 589,dr P "__repr__" 1329 596,dr P "__static_attributes__" 1332 597]),(375,tO #[]),(376,nV 4 [522,385,528,392,532,399,546,406,549,414,552,421,556,428,559,435,563,442,567,449,571,456,575,463,578,470,581,477,584,484,587,491,590,498,594,506,611,514,614,522,628,530,631,537,645,544,648,552,655,560,658,567,661,574,668,581,684,588,687,595]),(377,kC "BytesIO" 1076 519 375),(378,rO 377 374 m4),(379,tO #[.none])]++fB (sub (aw p 20) 1) 380 "__init__" 1088 "BytesIO.__init__" 522 2 0 3 ["self", "initial_bytes"] (.ref 379) .none m4 true++fB (sub (aw p 20) 2) 387 "__check" 1096 "BytesIO.__check" 528 1 0 3 ["self"] .none .none m4 true++fB (sub (aw p 20) 3) 394 "__line" 1103 "BytesIO.__line" 532 2 0 3 ["self", "limit", "start", "stop", "i"] .none .none m4 true++fB (sub (aw p 20) 4) 401 "closed" 1114 "BytesIO.closed" 545 1 0 3 ["self"] .none .none m4 true++[(408,⟨(.type "property"),none,(.fields #[(.ref 407),.none,.none,.none,(.str "closed" 1121),(.bool false)]),#[]⟩)]++fB (sub (aw p 20) 5) 409 "close" 1122 "BytesIO.close" 549 1 0 3 ["self"] .none .none m4 true++fB (sub (aw p 20) 6) 416 "__enter__" 1129 "BytesIO.__enter__" 552 1 0 3 ["self"] .none .none m4 true++fB (sub (aw p 20) 7) 423 "__exit__" 1136 "BytesIO.__exit__" 556 1 0 7 ["self", "args"] .none .none m4 true++fB (sub (aw p 20) 8) 430 "readable" 1144 "BytesIO.readable" 559 1 0 3 ["self"] .none .none m4 true++fB (sub (aw p 20) 9) 437 "writable" 1151 "BytesIO.writable" 563 1 0 3 ["self"] .none .none m4 true++fB (sub (aw p 20) 10) 444 "seekable" 1158 "BytesIO.seekable" 567 1 0 3 ["self"] .none .none m4 true++fB (sub (aw p 20) 11) 451 "isatty" 1165 "BytesIO.isatty" 571 1 0 3 ["self"] .none .none m4 true++fB (sub (aw p 20) 12) 458 "flush" 1172 "BytesIO.flush" 575 1 0 3 ["self"] .none .none m4 true++fB (sub (aw p 20) 13) 465 "fileno" 1179 "BytesIO.fileno" 578 1 0 3 ["self"] .none .none m4 true++fB (sub (aw p 20) 14) 472 "detach" 1186 "BytesIO.detach" 581 1 0 3 ["self"] .none .none m4 true++fB (sub (aw p 20) 15) 479 "getvalue" 1193 "BytesIO.getvalue" 584 1 0 3 ["self"] .none .none m4 true++fB (sub (aw p 20) 16) 486 "getbuffer" 1200 "BytesIO.getbuffer" 587 1 0 3 ["self"] .none .none m4 true++fB (sub (aw p 20) 17) 493 "tell" 1207 "BytesIO.tell" 590 1 0 3 ["self"] .none .none m4 true++[(500,tO #[(.int 0 1214)])]++fB (sub (aw p 20) 18) 501 "seek" 1215 "BytesIO.seek" 594 3 3 3 ["self", "pos", "whence"] (.ref 500) .none m4 true++[(508,tO #[.none])]++fB (sub (aw p 20) 19) 509 "truncate" 1224 "BytesIO.truncate" 611 2 2 3 ["self", "size"] (.ref 508) .none m4 true++[(516,tO #[(.int (-1) 1233)])]++fB (sub (aw p 20) 20) 517 "read" 1234 "BytesIO.read" 614 2 2 3 ["self", "size", "start", "stop"] (.ref 516) .none m4 true++[(524,tO #[(.int (-1) 1245)])]++fB (sub (aw p 20) 21) 525 "read1" 1246 "BytesIO.read1" 628 2 2 3 ["self", "size"] (.ref 524) .none m4 true++fB (sub (aw p 20) 22) 532 "readinto" 1254 "BytesIO.readinto" 631 2 2 3 ["self", "buffer", "start", "n"] .none .none m4 true++fB (sub (aw p 20) 23) 539 "readinto1" 1264 "BytesIO.readinto1" 645 2 2 3 ["self", "buffer"] .none .none m4 true++[(546,tO #[(.int (-1) 1273)])]++fB (sub (aw p 20) 24) 547 "readline" 1274 "BytesIO.readline" 648 2 2 3 ["self", "size"] (.ref 546) .none m4 true++[(554,tO #[.none])]++fB (sub (aw p 20) 25) 555 "readlines" 1282 "BytesIO.readlines" 655 2 2 3 ["self", "size"] (.ref 554) .none m4 true++fB (sub (aw p 20) 26) 562 "__iter__" 1290 "BytesIO.__iter__" 658 1 0 3 ["self"] .none .none m4 true++fB (sub (aw p 20) 27) 569 "__next__" 1297 "BytesIO.__next__" 661 1 0 3 ["self", "line"] .none .none m4 true++fB (sub (aw p 20) 28) 576 "write" 1305 "BytesIO.write" 668 2 2 3 ["self", "b", "n", "start"] .none .none m4 true++fB (sub (aw p 20) 29) 583 "writelines" 1315 "BytesIO.writelines" 684 2 2 3 ["self", "lines"] .none .none m4 true++fB (sub (aw p 20) 30) 590 "__repr__" 1323 "BytesIO.__repr__" 687 1 0 3 ["self"] .none .none m4 true++[(597,sO p P),(598,sP p P),(599,sQ p P),(600,⟨(.type "super"),none,(.fields #[(.ref 599),(.ref 599),(.ref 599)]),#[]⟩),(601,⟨(.type "builtin_function_or_method"),none,(.fields #[(.builtin "object.__init_subclass__"),(.ref 599)]),#[]⟩)])
def I1 (p:Program) (P:Params):BT:=bN (I0 p P) ([(3,d3 P "io" 966 29),(35,wv 30),(369,sR p P),(602,sS p P),(603,pO),(604,dO 36 [de P "__module__" 1343 (.str "_io" 1348),de P "__qualname__" 1345 (.str "StringIO" 1344),de P "__firstlineno__" 1347 (.int 689 1346),dr P "__init__" 1360 616,dr P "_StringIO__translated" 1369 623,dr P "_StringIO__check" 1376 630,dr P "_StringIO__check_dot" 1383 637,dr P "_StringIO__line" 1398 644,dr P "closed" 1406 652,dr P "line_buffering" 1414 660,dr P "newlines" 1422 668,dr P "encoding" 1430 676,dr P "errors" 1438 684,dr P "close" 1445 691,dr P "__enter__" 1452 698,dr P "__exit__" 1460 705,dr P "readable" 1467 712,dr P "writable" 1474 719,dr P "seekable" 1481 726,dr P "isatty" 1488 733,dr P "flush" 1495 740,dr P "fileno" 1502 747,dr P "detach" 1509 754,dr P "getvalue" 1516 761,dr P "tell" 1523 768,dr P "seek" 1533 776,dr P "truncate" 1541 784,dr P "read" 1553 792,dr P "readline" 1563 800,dr P "readlines" 1573 808,dr P "__iter__" 1580 815,dr P "__next__" 1588 822,dr P "write" 1600 829,dr P "writelines" 1608 836,dr P "__repr__" 1615 843,dr P "__static_attributes__" 1619 844]),(605,tO #[]),(606,nV 4 [692,615,705,622,713,629,717,636,721,643,754,650,758,658,762,666,766,674,770,682,773,690,776,697,780,704,783,711,787,718,791,725,795,732,799,739,802,746,805,753,808,760,811,767,815,775,832,783,835,791,849,799,856,807,859,814,863,821,870,828,889,835,892,842]),(607,kC "StringIO" 1338 689 605),(608,rO 607 604 m4),(609,sT p P)]++Gg p true++Gh p true++Gi p true++fB (sub (aw p 21) 4) 631 "__check_dot" 1377 "StringIO.__check_dot" 717 1 0 3 ["self"] .none .none m4 true++fB (sub (aw p 21) 5) 638 "__line" 1384 "StringIO.__line" 721 2 0 3 ["self", "limit", "start", "stop", "cut", "newline", "i", "j", "end"] .none .none m4 true++fB (sub (aw p 21) 6) 645 "closed" 1399 "StringIO.closed" 753 1 0 3 ["self"] .none .none m4 true++[(652,⟨(.type "property"),none,(.fields #[(.ref 651),.none,.none,.none,(.str "closed" 1406),(.bool false)]),#[]⟩)]++fB (sub (aw p 21) 7) 653 "line_buffering" 1407 "StringIO.line_buffering" 757 1 0 3 ["self"] .none .none m4 true++[(660,⟨(.type "property"),none,(.fields #[(.ref 659),.none,.none,.none,(.str "line_buffering" 1414),(.bool false)]),#[]⟩)]++fB (sub (aw p 21) 8) 661 "newlines" 1415 "StringIO.newlines" 761 1 0 3 ["self"] .none .none m4 true++[(668,⟨(.type "property"),none,(.fields #[(.ref 667),.none,.none,.none,(.str "newlines" 1422),(.bool false)]),#[]⟩)]++fB (sub (aw p 21) 9) 669 "encoding" 1423 "StringIO.encoding" 765 1 0 3 ["self"] .none .none m4 true++[(676,⟨(.type "property"),none,(.fields #[(.ref 675),.none,.none,.none,(.str "encoding" 1430),(.bool false)]),#[]⟩)]++fB (sub (aw p 21) 10) 677 "errors" 1431 "StringIO.errors" 769 1 0 3 ["self"] .none .none m4 true++[(684,⟨(.type "property"),none,(.fields #[(.ref 683),.none,.none,.none,(.str "errors" 1438),(.bool false)]),#[]⟩)]++fB (sub (aw p 21) 11) 685 "close" 1439 "StringIO.close" 773 1 0 3 ["self"] .none .none m4 true++fB (sub (aw p 21) 12) 692 "__enter__" 1446 "StringIO.__enter__" 776 1 0 3 ["self"] .none .none m4 true++fB (sub (aw p 21) 13) 699 "__exit__" 1453 "StringIO.__exit__" 780 1 0 7 ["self", "args"] .none .none m4 true++fB (sub (aw p 21) 14) 706 "readable" 1461 "StringIO.readable" 783 1 0 3 ["self"] .none .none m4 true++fB (sub (aw p 21) 15) 713 "writable" 1468 "StringIO.writable" 787 1 0 3 ["self"] .none .none m4 true++fB (sub (aw p 21) 16) 720 "seekable" 1475 "StringIO.seekable" 791 1 0 3 ["self"] .none .none m4 true++fB (sub (aw p 21) 17) 727 "isatty" 1482 "StringIO.isatty" 795 1 0 3 ["self"] .none .none m4 true++fB (sub (aw p 21) 18) 734 "flush" 1489 "StringIO.flush" 799 1 0 3 ["self"] .none .none m4 true++fB (sub (aw p 21) 19) 741 "fileno" 1496 "StringIO.fileno" 802 1 0 3 ["self"] .none .none m4 true++fB (sub (aw p 21) 20) 748 "detach" 1503 "StringIO.detach" 805 1 0 3 ["self"] .none .none m4 true++fB (sub (aw p 21) 21) 755 "getvalue" 1510 "StringIO.getvalue" 808 1 0 3 ["self"] .none .none m4 true++fB (sub (aw p 21) 22) 762 "tell" 1517 "StringIO.tell" 811 1 0 3 ["self"] .none .none m4 true++[(769,tO #[(.int 0 1524)])]++fB (sub (aw p 21) 23) 770 "seek" 1525 "StringIO.seek" 815 3 3 3 ["self", "pos", "whence"] (.ref 769) .none m4 true++[(777,tO #[.none])]++fB (sub (aw p 21) 24) 778 "truncate" 1534 "StringIO.truncate" 832 2 2 3 ["self", "pos"] (.ref 777) .none m4 true++[(785,sU p P)]++Gj p true++[(793,tO #[(.int (-1) 1555)])]++fB (sub (aw p 21) 26) 794 "readline" 1556 "StringIO.readline" 849 2 2 3 ["self", "size"] (.ref 793) .none m4 true++[(801,tO #[(.int (-1) 1565)])]++fB (sub (aw p 21) 27) 802 "readlines" 1566 "StringIO.readlines" 856 2 2 3 ["self", "hint"] (.ref 801) .none m4 true++fB (sub (aw p 21) 28) 809 "__iter__" 1574 "StringIO.__iter__" 859 1 0 3 ["self"] .none .none m4 true++fB (sub (aw p 21) 29) 816 "__next__" 1581 "StringIO.__next__" 863 1 0 3 ["self", "line"] .none .none m4 true++fB (sub (aw p 21) 30) 823 "write" 1589 "StringIO.write" 870 2 2 3 ["self", "s", "n", "m", "start", "buf"] .none .none m4 true++fB (sub (aw p 21) 31) 830 "writelines" 1601 "StringIO.writelines" 889 2 2 3 ["self", "lines"] .none .none m4 true++fB (sub (aw p 21) 32) 837 "__repr__" 1609 "StringIO.__repr__" 892 1 0 3 ["self"] .none .none m4 true++[(844,sV p P),(845,sX p P),(846,sY p P),(847,⟨(.type "super"),none,(.fields #[(.ref 846),(.ref 846),(.ref 846)]),#[]⟩),(848,⟨(.type "builtin_function_or_method"),none,(.fields #[(.builtin "object.__init_subclass__"),(.ref 846)]),#[]⟩)])
def I3 (p:Program) (P:Params):BT:=bN (I1 p P) ([(3,dO 36 [de P "__name__" 165 (.str "cpy313.shlex" 1682),de P "__doc__" 166 .none,de P "__package__" 167 .none,de P "__loader__" 168 (.builtin "__main__.__loader__#opaque"),de P "__spec__" 169 .none,dr P "__annotations__" 170 6,dr P "__builtins__" 171 4,de P "__file__" 173 (.str "/claim/cut.py" 172),de P "__cached__" 174 .none,dr P "_sre" 275 12,de P "deque" 317 (.type "collections.deque"),dr P "_wall" 330 44,dr P "_tuplegetter" 389 83,dr P "Match" 517 158,dr P "_calculate_ratio" 525 168,dr P "SequenceMatcher" 711 265,dr P "twin_re_1_fnmatch" 749 274,dr P "_special_chars_map" 897 276,dr P "escape" 904 286,dr P "_translate" 925 293,dr P "twin_re_1_shlex" 965 298,dr P "_whence" 975 305,dr P "_index" 983 312,dr P "UnsupportedOperation" 1005 322,dr P "IOBase" 1037 342,dr P "BufferedIOBase" 1055 357,dr P "TextIOBase" 1073 369,dr P "BytesIO" 1335 599,dr P "StringIO" 1622 846,dr P "_kind" 1633 855,dr P "_fspath" 1642 862,dr P "_check_arg_types" 1652 869,dr P "isabs" 1659 876,dr P "join" 1670 883,dr P "join_path" 1671 883,dr P "dirname" 1681 890]),(35,wv 42)]++Gk p true++Gl p true++Gm p true++Gn p true++Go p true++Gp p true)
def I4 (p:Program) (P:Params):BT:=bN (I3 p P) ([(3,dO 37 [de P "__name__" 165 (.str "cpy313.shlex" 1682),de P "__doc__" 166 .none,de P "__package__" 167 .none,de P "__loader__" 168 (.builtin "__main__.__loader__#opaque"),de P "__spec__" 169 .none,dr P "__annotations__" 170 6,dr P "__builtins__" 171 4,de P "__file__" 173 (.str "/claim/cut.py" 172),de P "__cached__" 174 .none,dr P "_sre" 275 12,de P "deque" 317 (.type "collections.deque"),dr P "_wall" 330 44,dr P "_tuplegetter" 389 83,dr P "Match" 517 158,dr P "_calculate_ratio" 525 168,dr P "SequenceMatcher" 711 265,dr P "twin_re_1_fnmatch" 749 274,dr P "_special_chars_map" 897 276,dr P "escape" 904 286,dr P "_translate" 925 293,dr P "twin_re_1_shlex" 965 298,dr P "_whence" 975 305,dr P "_index" 983 312,dr P "UnsupportedOperation" 1005 322,dr P "IOBase" 1037 342,dr P "BufferedIOBase" 1055 357,dr P "TextIOBase" 1073 369,dr P "BytesIO" 1335 599,dr P "StringIO" 1622 846,dr P "_kind" 1633 855,dr P "_fspath" 1642 862,dr P "_check_arg_types" 1652 869,dr P "isabs" 1659 876,dr P "join" 1670 883,dr P "join_path" 1671 883,dr P "dirname" 1681 890,dr P "shlex" 1828 981]),(35,wv 44),(891,tO #[]),(892,pO),(893,dO 16 [de P "__module__" 1691 (.str "cpy313.shlex" 1682),de P "__qualname__" 1693 (.str "shlex" 1692),de P "__firstlineno__" 1695 (.int 959 1694),de P "__doc__" 1697 (.str (ck (aw p 31)) 1696),dr P "__init__" 1710 905,dr P "punctuation_chars" 1718 913,dr P "push_token" 1726 920,dr P "push_source" 1736 928,dr P "pop_source" 1744 935,dr P "get_token" 1757 942,dr P "read_token" 1768 949,dr P "sourcehook" 1777 956,dr P "error_leader" 1786 964,dr P "__iter__" 1793 971,dr P "__next__" 1801 978,dr P "__static_attributes__" 1822 979]),(894,tO #[]),(895,nV 4 [962,904,1004,911,1007,919,1010,927,1024,934,1032,941,1060,948,1197,955,1205,963,1208,970,1211,977]),(896,kC "shlex" 1686 959 894),(897,rO 896 893 m6),(898,sZ p P)]++Gq p true++Gr p true++[(913,ta p P)]++Gs p true++[(921,tc p P)]++Gu p true++Gv p true++Gw p true++Gx p true++Gy p true++[(957,td p P)]++Gz p true++GA p true++GB p true++[(979,te p P),(980,th p P),(981,ti p P),(982,tj p P),(983,tm p P),(984,⟨(.type "super"),none,(.fields #[(.ref 981),(.ref 981),(.ref 981)]),#[]⟩),(985,⟨(.type "builtin_function_or_method"),none,(.fields #[(.builtin "object.__init_subclass__"),(.ref 981)]),#[]⟩)])
def I5 (p:Program) (P:Params):BT:=bN (I4 p P) ([(3,d3 P "law_ku0033_01" 1859 41),(35,wv 50),(986,tn p P)]++GC p true++GD p true++[(1001,nm p P)]++Dh p true)
def fy (p:Program) (P:Params):BT:=bN (I5 p P) ([(3,Di p P),(35,wv 66),(1009,nq p P),(1010,nO #[]),(1011,gO (aw p 38) "_law_piece"),(1012,nt p P),(1013,nu p P)]++Dj p true++[(1021,nv p P),(1022,nO #[]),(1023,gO (aw p 40) "_law_taken"),(1024,nw p P),(1025,ny p P),(1026,nz p P),(1027,nO #[]),(1028,gO (aw p 41) "_law_stands"),(1029,nA p P),(1030,nB p P)]++Dk p true++Dl p true++Dm p true++[(1052,nC p P),(1053,nO #[]),(1054,gO (aw p 45) "law"),(1055,nD p P),(1056,nE p P)])
noncomputable def xq (p:Nat->Bool):List Nat->Bool
 | []=>false
 | c::r=>match p c with
  | true=>true
  | false=>xq p r
theorem uY (a:Array Nat) (p:Nat->Bool):a.any p=xq p a.toList:=by
 rw [<-Array.any_toList];induction a.toList with
 | nil=>rfl
 | cons c r ih =>
  rw [List.any_cons,ih];show (p c || xq p r)=(match p c with | true=>true | false=>xq p r)
  cases p c<;>rfl
def D3 (a:Array Nat) (p:Nat->Bool) (i j:Nat):Bool:=match Nat.beq i 0 with
 | true=>match Nat.beq j a.size with
  | true=>xq p a.toList
  | false=>a.any p i j
 | false=>a.any p i j
theorem AU:@Array.any Nat=D3:=by
 funext a p i j
 unfold D3;split
 ·rename_i h1;split
  ·rename_i h2;have e1:=Nat.eq_of_beq_eq_true h1;have e2:=Nat.eq_of_beq_eq_true h2;subst e1 e2;exact uY a p
  ·rfl
 ·rfl
inductive IJ (a:Builtin):Builtin->Type
 | refl:IJ a a
theorem IJ.eq {a b:Builtin} (h:IJ a b):a=b:=by cases h; rfl
noncomputable def I6:(G:(Array Nat->(Nat->Bool)->Nat->Nat->Bool)->Builtin)×IJ PySem.W.Fast.tw4202317264376624991 (G (@Array.any Nat)):=by
 refine ⟨?G,?h⟩;case h =>
  delta PySem.W.Fast.tw4202317264376624991
  generalize @Array.any Nat=F;exact .refl
def Kb:Builtin:=I6.1 D3
theorem D4:PySem.W.Fast.tw4202317264376624991=Kb:=I6.2.eq.trans (congrArg I6.1 AU)
noncomputable abbrev kl:String->Option Builtin:=PySem.W.Fast.tw14364793385576792824
def IL (id:String):Option Builtin:=match Nat.beq (PySem.code id) (PySem.code "type.__new__") with
 | true=>some Kb
 | false=>kl id
theorem D5:kl "type.__new__" = some PySem.W.Fast.tw4202317264376624991:=by kernel_rfl
theorem D6:kl=IL:=by
 funext id
 unfold IL;split
 ·rename_i h;rw [PySem.code_inj _ _ (Nat.eq_of_beq_eq_true h),D5,D4]
 ·rfl
noncomputable def bB:List Frame:=[topFrame ⟨0,0,0,0⟩]
noncomputable def tp:List Stmt:=aF.main.body.drop 2
def cE:Code:=.body tp env
theorem D7 (w:World):(λ os=>PySem.W.Fast.tw10110043849684766642 kl aF w 34 (some (.ref 6)) 1 362 (SharedT.mk (TB aF w.params) 38 {} #[] {} 324 os) (piecesOf [aw aF 0,aw aF 1,aw aF 2] env cE ⟨0,0,0,0⟩ bB))
  = (λ os=>some (.next,(SharedT.mk (T2 aF w.params) 88 {} #[] {} 390 os,(cE,⟨7,0,24,54⟩)))):=by
 kernel_rfl
theorem D8 (w:World):(λ os=>PySem.W.Fast.tw10110043849684766642 kl aF w 34 (some (.ref 6)) 1 1047 (SharedT.mk (T2 aF w.params) 88 {} #[] {} 390 os) (piecesOf [aw aF 3] env cE ⟨7,0,24,54⟩ bB))
  = (λ os=>some (.next,(SharedT.mk (T3 aF w.params) 162 {} #[] {} 518 os,(cE,⟨25,0,67,54⟩)))):=by
 kernel_rfl
theorem D9 (w:World):(λ os=>PySem.W.Fast.tw10110043849684766642 kl aF w 34 (some (.ref 6)) 1 31 (SharedT.mk (T3 aF w.params) 162 {} #[] {} 518 os) (piecesOf [aw aF 4] env cE ⟨25,0,67,54⟩ bB))
  = (λ os=>some (.next,(SharedT.mk (T4 aF w.params) 169 {} #[] {} 526 os,(cE,⟨68,0,71,14⟩)))):=by
 kernel_rfl
inductive GE (a:Str):Str->Type
 | refl:GE a a
theorem GE.eq {a b:Str} (h:GE a b):a=b:=by cases h; rfl
noncomputable def Dn:(l:List Char)×GE (ck (aw aF 5)) (Str.ofString (String.ofList l)):=by
 refine ⟨?l,?h⟩;case h =>
  refine (?aux:GE (Str.ofString ?s) (Str.ofString (String.ofList ?l)));exact .refl
def GF:Str:=⟨(Dn.1.map Char.toNat).toArray⟩
theorem AV:ck (aw aF 5)=GF:=Dn.2.eq.trans (PySem.W.Fast.ofString_ofList _)
noncomputable def AW (d:Str) (l:List Stmt):List Stmt:=by
 cases l with
 | nil=>exact []
 | cons s r =>
  cases s with
  | Expr e q =>
   cases e with
   | Constant c k p =>
    cases c with
    | str _=>exact .Expr (.Constant (.str d) k p) q::r
    | _=>exact r
   | _=>exact r
  | _=>exact r
def Ea (d:Str) (s:Stmt):Stmt:=by
 cases s with
 | ClassDef a1 a2 a3 b a5 a6 a7 a8 a9 a10 a11=>exact .ClassDef a1 a2 a3 (AW d b) a5 a6 a7 a8 a9 a10 a11
 | _=>exact .Pass ⟨0,0,0,0⟩
def Do (d:Str):Nat->List Stmt->List Stmt
 | _,[]=>[]
 | 0,s::r=>Ea d s::r
 | n+1,s::r=>s::Do d n r
def Kc (d:Str):Program:={ aF with main:={ aF.main with body:=Do d 7 aF.main.body } }
theorem Eb:Kc (ck (aw aF 5))=aF:=by kernel_rfl
abbrev P5 (p:Program) (w:World):Prop:=(λ os=>PySem.W.Fast.tw10110043849684766642 IL aF w 34 (some (.ref 6)) 1 649 (SharedT.mk (T4 p w.params) 169 {} #[] {} 526 os) (piecesOf [aw p 5] env cE ⟨68,0,71,14⟩ bB))
 = (λ os=>some (.next,(SharedT.mk (T5 p w.params) 270 {} #[] {} 712 os,(cE,⟨72,0,419,16⟩))))
theorem AX (w:World):P5 (Kc GF) w:=by
 unfold P5;kernel_rfl
theorem Ec (w:World):(λ os=>PySem.W.Fast.tw10110043849684766642 IL aF w 34 (some (.ref 6)) 1 649 (SharedT.mk (T4 aF w.params) 169 {} #[] {} 526 os) (piecesOf [aw aF 5] env cE ⟨68,0,71,14⟩ bB))
  = (λ os=>some (.next,(SharedT.mk (T5 aF w.params) 270 {} #[] {} 712 os,(cE,⟨72,0,419,16⟩)))):=by
 have h:=AX w;rw [<-AV,Eb] at h;exact h
theorem Ed (w:World):(λ os=>PySem.W.Fast.tw10110043849684766642 kl aF w 34 (some (.ref 6)) 1 91 (SharedT.mk (T5 aF w.params) 270 {} #[] {} 712 os) (piecesOf [aw aF 6,aw aF 7] env cE ⟨72,0,419,16⟩ bB))
  = (λ os=>some (.next,(SharedT.mk (T7 aF w.params) 275 {} #[] {} 752 os,(cE,⟨421,0,421,8⟩)))):=by
 kernel_rfl
abbrev P8 (w:World):Prop:=(λ os=>PySem.W.Fast.tw10110043849684766642 kl aF w 34 (some (.ref 6)) 1 1343 (SharedT.mk (T7 aF w.params) 275 {} #[] {} 752 os) (piecesOf [aw aF 8] env cE ⟨421,0,421,8⟩ bB))
 = (λ os=>some (.next,(SharedT.mk (T8 aF w.params) 280 {} #[] {} 898 os,(cE,⟨422,0,422,18⟩))))
theorem xr (w:World):P8 ((w.withFollow "special-get-raises" false).withFollow "comprehension-iter-twice" false):=by
 unfold P8; kernel_rfl
theorem xt (w:World):P8 ((w.withFollow "special-get-raises" true).withFollow "comprehension-iter-twice" false):=by
 unfold P8; kernel_rfl
theorem xu (w:World):P8 ((w.withFollow "special-get-raises" false).withFollow "comprehension-iter-twice" true):=by
 unfold P8; kernel_rfl
theorem xw (w:World):P8 ((w.withFollow "special-get-raises" true).withFollow "comprehension-iter-twice" true):=by
 unfold P8; kernel_rfl
theorem Ee (w:World):P8 w:=byRow2 "comprehension-iter-twice" (P:=P8)
 (byRow2 "special-get-raises" (P:=λ w=>P8 (w.withFollow "comprehension-iter-twice" false)) xr xt)
 (byRow2 "special-get-raises" (P:=λ w=>P8 (w.withFollow "comprehension-iter-twice" true)) xu xw) w
theorem AY (w:World):(λ os=>PySem.W.Fast.tw10110043849684766642 kl aF w 34 (some (.ref 6)) 1 232 (SharedT.mk (T8 aF w.params) 280 {} #[] {} 898 os) (piecesOf [aw aF 9,aw aF 10,aw aF 11,aw aF 12,aw aF 13,aw aF 14,aw aF 15] env cE ⟨422,0,422,18⟩ bB))
  = (λ os=>some (.next,(SharedT.mk (IY aF w.params) 313 {} #[] {} 984 os,(cE,⟨499,0,505,12⟩)))):=by
 kernel_rfl
theorem AZ (w:World):(λ os=>PySem.W.Fast.tw10110043849684766642 kl aF w 34 (some (.ref 6)) 1 894 (SharedT.mk (IY aF w.params) 313 {} #[] {} 984 os) (piecesOf [aw aF 16,aw aF 17,aw aF 18,aw aF 19] env cE ⟨499,0,505,12⟩ bB))
  = (λ os=>some (.next,(SharedT.mk (IZ aF w.params) 372 {} #[] {} 1074 os,(cE,⟨517,0,518,21⟩)))):=by
 kernel_rfl
theorem A0 (w:World):(λ os=>PySem.W.Fast.tw10110043849684766642 kl aF w 34 (some (.ref 6)) 1 1278 (SharedT.mk (IZ aF w.params) 372 {} #[] {} 1074 os) (piecesOf [aw aF 20] env cE ⟨517,0,518,21⟩ bB))
  = (λ os=>some (.next,(SharedT.mk (I0 aF w.params) 602 {} #[] {} 1336 os,(cE,⟨519,0,688,17⟩)))):=by
 kernel_rfl
theorem A1 (w:World):(λ os=>PySem.W.Fast.tw10110043849684766642 kl aF w 34 (some (.ref 6)) 1 1578 (SharedT.mk (I0 aF w.params) 602 {} #[] {} 1336 os) (piecesOf [aw aF 21] env cE ⟨519,0,688,17⟩ bB))
  = (λ os=>some (.next,(SharedT.mk (I1 aF w.params) 849 {} #[] {} 1623 os,(cE,⟨689,0,893,17⟩)))):=by
 kernel_rfl
theorem A2 (w:World):(λ os=>PySem.W.Fast.tw10110043849684766642 kl aF w 34 (some (.ref 6)) 1 217 (SharedT.mk (I1 aF w.params) 849 {} #[] {} 1623 os) (piecesOf [aw aF 22,aw aF 23,aw aF 24,aw aF 25,aw aF 26,aw aF 27,aw aF 28,aw aF 29,aw aF 30] env cE ⟨689,0,893,17⟩ bB))
  = (λ os=>some (.next,(SharedT.mk (I3 aF w.params) 891 {} #[] {} 1684 os,(cE,⟨958,0,958,8⟩)))):=by
 kernel_rfl
theorem A3 (w:World):(λ os=>PySem.W.Fast.tw10110043849684766642 kl aF w 34 (some (.ref 6)) 1 641 (SharedT.mk (I3 aF w.params) 891 {} #[] {} 1684 os) (piecesOf [aw aF 31] env cE ⟨958,0,958,8⟩ bB))
  = (λ os=>some (.next,(SharedT.mk (I4 aF w.params) 986 {} #[] {} 1829 os,(cE,⟨959,0,1215,20⟩)))):=by
 kernel_rfl
theorem A4 (w:World):(λ os=>PySem.W.Fast.tw10110043849684766642 kl aF w 34 (some (.ref 6)) 1 141 (SharedT.mk (I4 aF w.params) 986 {} #[] {} 1829 os) (piecesOf [aw aF 32,aw aF 33,aw aF 34,aw aF 35,aw aF 36,aw aF 37] env cE ⟨959,0,1215,20⟩ bB))
  = (λ os=>some (.next,(SharedT.mk (I5 aF w.params) 1009 {} #[] {} 1861 os,(cE,⟨1237,0,1237,8⟩)))):=by
 kernel_rfl
theorem A5 (w:World):(λ os=>PySem.W.Fast.tw10110043849684766642 kl aF w 34 (some (.ref 6)) 1 235 (SharedT.mk (I5 aF w.params) 1009 {} #[] {} 1861 os) (piecesOf [aw aF 38,aw aF 39,aw aF 40,aw aF 41,aw aF 42,aw aF 43,aw aF 44,aw aF 45] env cE ⟨1237,0,1237,8⟩ bB))
  = (λ os=>some (.next,(SharedT.mk (fy aF w.params) 1057 {} #[] {} 1927 os,(cE,⟨1281,0,1293,86⟩)))):=by
 kernel_rfl
def GG (w:World) (os:OsState):Shared:=(SharedT.mk (TA aF w.params) 34 {} #[] {} 318 os).abs
theorem nh:treeTable=kl:=PySem.W.Fast.te14364793385576792824
theorem AM:PySem.Challenge.pw_ku0033_01=aF:=rfl
theorem nF {w:World} {f} (hf:@segRunT=f) {tb:String->Option Builtin} {p:Program} (hT:treeTable=tb) (hP:PySem.Challenge.pw_ku0033_01=p) {n:Nat} {S S':OsState->SharedT} {t:Thread} {fl:Flow} {c:Code} {q:Pos}
  (h:(λ os=>f tb p w 34 (some (.ref 6)) 1 n (S os) t)=(λ os=>some (fl,(S' os,(c,q))))) (os:OsState) :
  segRun treeTable PySem.Challenge.pw_ku0033_01 w 34 (some (.ref 6)) 1 n (S os).abs t=some (fl,(S' os).abs,c,q):=by
 subst hf hT hP;exact segRun_of (congrFun h os)
theorem I7 (w:World):(λ os=>PySem.W.Fast.tw15667345088766844465 kl aF w 34 (some (.ref 6)) 12 (GG w os) (topStub aF)) =
  (λ os=>some ((SharedT.mk (TB aF w.params) 38 {} #[] {} 324 os).abs,(⟨PySem.W.Fast.tw11892475500146522536 kl cE,cE,⟨0,0,0,0⟩,bB⟩:Thread))):=by
 kernel_rfl
theorem Ef (w:World):(λ os=>PySem.W.Fast.tw10110043849684766642 kl aF w 34 (some (.ref 6)) 1 1 (SharedT.mk (TB aF w.params) 38 {} #[] {} 324 os) (blockOf tp env cE ⟨0,0,0,0⟩ bB)) =
  (λ os=>some (.next,(SharedT.mk (TB aF w.params) 38 {} #[] {} 324 os,(cE,⟨0,0,0,0⟩)))):=by
 kernel_rfl
theorem I8 (w:World):(λ os=>topRun kl aF w 34 (some (.ref 6)) 2 (SharedT.mk (fy aF w.params) 1057 {} #[] {} 1927 os).abs ⟨doneF .next,cE,⟨1281,0,1293,86⟩,bB⟩) =
  (λ os=>some ((SharedT.mk (fy aF w.params) 1057 {} #[] {} 1927 os).abs)):=by
 kernel_rfl
theorem GH:tp=[aw aF 0,aw aF 1,aw aF 2]++([aw aF 3]++([aw aF 4]++([aw aF 5]++([aw aF 6,aw aF 7]++([aw aF 8]++([aw aF 9,aw aF 10,aw aF 11,aw aF 12,aw aF 13,aw aF 14,aw aF 15]++([aw aF 16,aw aF 17,aw aF 18,aw aF 19]++([aw aF 20]++([aw aF 21]++([aw aF 22,aw aF 23,aw aF 24,aw aF 25,aw aF 26,aw aF 27,aw aF 28,aw aF 29,aw aF 30]++([aw aF 31]++([aw aF 32,aw aF 33,aw aF 34,aw aF 35,aw aF 36,aw aF 37]++([aw aF 38,aw aF 39,aw aF 40,aw aF 41,aw aF 42,aw aF 43,aw aF 44,aw aF 45]++([])))))))))))))):=by kernel_rfl
theorem xy {w:World} {f} (hf:@topGo=f) {d} (hd:@denote=d) {tb:String->Option Builtin} {p:Program} (hT:treeTable=tb) (hP:PySem.Challenge.pw_ku0033_01=p) {S S':OsState->Shared} {pos:Pos} {B:List Frame}
  (h:(λ os=>f tb p w 34 (some (.ref 6)) 12 (S os) (topStub p))=(λ os=>some (S' os,(⟨d tb cE,cE,pos,B⟩:Thread)))) (os:OsState) :
  topGo treeTable PySem.Challenge.pw_ku0033_01 w 34 (some (.ref 6)) 12 (S os) (topStub PySem.Challenge.pw_ku0033_01)=some (S' os,⟨denote treeTable cE,cE,pos,B⟩):=by
 subst hf hd hT hP;exact congrFun h os
theorem I9 (w:World) (os:OsState):topGo treeTable PySem.Challenge.pw_ku0033_01 w 34 (some (.ref 6)) 12 (GG w os) (topStub PySem.Challenge.pw_ku0033_01)=some ((SharedT.mk (TB aF w.params) 38 {} #[] {} 324 os).abs,⟨denote treeTable cE,cE,⟨0,0,0,0⟩,bB⟩) :=
 xy PySem.W.Fast.te15667345088766844465 PySem.W.Fast.te11892475500146522536 nh AM (S:=GG w) (S':=λ os=>(SharedT.mk (TB aF w.params) 38 {} #[] {} 324 os).abs) (I7 w) os
theorem xz {w:World} {tb:String->Option Builtin} {p:Program} (hT:treeTable=tb) (hP:PySem.Challenge.pw_ku0033_01=p) {S S':OsState->Shared} {t:Thread}
  (h:(λ os=>topRun tb p w 34 (some (.ref 6)) 2 (S os) t)=(λ os=>some (S' os))) (os:OsState):topRun treeTable PySem.Challenge.pw_ku0033_01 w 34 (some (.ref 6)) 2 (S os) t=some (S' os):=by
 subst hT hP;exact congrFun h os
theorem Ja (w:World) (os:OsState):topRun treeTable PySem.Challenge.pw_ku0033_01 w 34 (some (.ref 6)) 2 ((SharedT.mk (fy aF w.params) 1057 {} #[] {} 1927 os).abs) ⟨doneF .next,cE,⟨1281,0,1293,86⟩,bB⟩=some ((SharedT.mk (fy aF w.params) 1057 {} #[] {} 1927 os).abs) :=
 xz nh AM (S:=λ os=>(SharedT.mk (fy aF w.params) 1057 {} #[] {} 1927 os).abs) (S':=λ os=>(SharedT.mk (fy aF w.params) 1057 {} #[] {} 1927 os).abs) (I8 w) os
theorem dJ {w:World} {f} (hf:@segRunT=f) {tb:String->Option Builtin} (hT:treeTable=tb) {n m:Nat} {S S':OsState->SharedT} {l r:List Stmt} {q q':Pos} {os:OsState} {R:Shared}
  (h:(λ os=>f tb aF w 34 (some (.ref 6)) 1 n (S os) (piecesOf l env cE q bB))=(λ os=>some (.next,(S' os,(cE,q')))))
  (k:topRun treeTable aF w 34 (some (.ref 6)) m (S' os).abs (restOf r env cE q' bB)=some R):topRun treeTable aF w 34 (some (.ref 6)) (n+m) (S os).abs (restOf (l++r) env cE q bB)=some R :=
 piece_app (nF hf hT AM h os) k
theorem Jb (w:World) (os:OsState):topRun treeTable PySem.Challenge.pw_ku0033_01 w 34 (some (.ref 6)) (12+(1+(362+(1047+(31+(649+(91+(1343+(232+(894+(1278+(1578+(217+(641+(141+(235+2)))))))))))))))) (GG w os) (topStub PySem.Challenge.pw_ku0033_01)=some ((SharedT.mk (fy aF w.params) 1057 {} #[] {} 1927 os).abs):=by
 have k:=dJ PySem.W.Fast.te10110043849684766642 nh (D7 w) <| dJ PySem.W.Fast.te10110043849684766642 nh (D8 w) <| dJ PySem.W.Fast.te10110043849684766642 nh (D9 w) <| dJ PySem.W.Fast.te10110043849684766642 (nh.trans D6) (Ec w) <| dJ PySem.W.Fast.te10110043849684766642 nh (Ed w) <| dJ PySem.W.Fast.te10110043849684766642 nh (Ee w) <| dJ PySem.W.Fast.te10110043849684766642 nh (AY w) <| dJ PySem.W.Fast.te10110043849684766642 nh (AZ w) <| dJ PySem.W.Fast.te10110043849684766642 nh (A0 w) <| dJ PySem.W.Fast.te10110043849684766642 nh (A1 w) <| dJ PySem.W.Fast.te10110043849684766642 nh (A2 w) <| dJ PySem.W.Fast.te10110043849684766642 nh (A3 w) <| dJ PySem.W.Fast.te10110043849684766642 nh (A4 w) <| dJ PySem.W.Fast.te10110043849684766642 nh (A5 w) (show topRun treeTable aF w 34 (some (.ref 6)) 2 ((SharedT.mk (fy aF w.params) 1057 {} #[] {} 1927 os).abs) (restOf [] env cE ⟨1281,0,1293,86⟩ bB)=some ((SharedT.mk (fy aF w.params) 1057 {} #[] {} 1927 os).abs) from Ja w os)
 rw [<-GH] at k;exact @go_top treeTable PySem.Challenge.pw_ku0033_01 w 34 (some (.ref 6)) 12 (1+(362+(1047+(31+(649+(91+(1343+(232+(894+(1278+(1578+(217+(641+(141+(235+2))))))))))))))) _ _ _ _ _ (I9 w os)
  (@piece_block treeTable PySem.Challenge.pw_ku0033_01 w 34 (some (.ref 6)) env ⟨0,0,0,0⟩ 1 (362+(1047+(31+(649+(91+(1343+(232+(894+(1278+(1578+(217+(641+(141+(235+2)))))))))))))) _ _ _ tp cE ⟨0,0,0,0⟩ ⟨0,0,0,0⟩ (nF PySem.W.Fast.te10110043849684766642 nh AM (S:=(λ os=>SharedT.mk (TB aF w.params) 38 {} #[] {} 324 os)) (S':=(λ os=>SharedT.mk (TB aF w.params) 38 {} #[] {} 324 os)) (Ef w) os) k)
end
end Mine
end
section
open PySem PySem.W
namespace Mine
noncomputable def impEndT (tb:String->Option Builtin) (p:Program) (w:World):Nat->SharedT->Thread->Option SharedT
 | 0,_,_=>none
 | n+1,s,t=>match t.atExitBegin with
  | some l=>match l with
   | []=>some s
   | _::_=>none
  | none=>match stepT (denote tb) p w s t with
   | some (s',t')=>impEndT tb p w n s' t'
   | none=>none
theorem uZ {tb:String->Option Builtin} {p:Program} {w:World}:∀ {n:Nat} {s s':SharedT} {t:Thread},impEndT tb p w n s t=some s'->importEnds tb p w n s.abs t=some s'.abs:=by
 intro n;induction n with
 | zero =>
  intro _ _ _ h;cases h
 | succ n ih =>
  intro s s' t h;unfold impEndT at h;unfold importEnds;cases he:t.atExitBegin with
  | some l=>rw [he] at h; cases l with
   | nil=>cases h; rfl
   | cons a l=>cases h
  | none =>
   rw [he] at h;cases hs:stepT (denote tb) p w s t with
   | none=>rw [hs] at h; cases h
   | some r=>obtain ⟨s₂,t₂⟩:=r; rw [hs] at h; rw [stepT_spec hs]; exact ih h
noncomputable def Jc (p:Program):SharedT:=SharedT.mk .nil 0 {} #[] {} 1 (start p).1.os
theorem Eg (p:Program):(Jc p).abs=(start p).1:=rfl
end Mine
lay_quick Mine.impEndT
namespace Mine
end Mine
end
section
open PySem PySem.W
namespace Mine
noncomputable section
theorem GI (w:World):PySem.W.Fast.tw3490073068932922308 kl (opening aF) w 1090 (Jc (opening aF)) (PySem.W.Fast.tw1435165496053646825 (opening aF)).2=some (SharedT.mk (TE aF w.params) 34 {} #[] {} 318 (start (opening aF)).1.os):=by
 kernel_rfl
theorem Eh (w:World):(λ os=>(PySem.W.Fast.tw14289696077712309145 aF (SharedT.mk (TE aF w.params) 34 {} #[] {} 318 os).abs).map (λ s=>(s.heap,s.gens,s.drawn,s.toks))) =
  λ os=>some ((SharedT.mk (TA aF w.params) 34 {} #[] {} 318 os).abs.heap,(#[]:Array GenState),({}:Drawn),318):=by
 kernel_rfl
theorem GJ (w:World):((absHeap (TA aF w.params) 34 {}).isNs mainGlobals && (#[]:Array GenState).size == 0,(absHeap (TA aF w.params) 34 {}).objs.size,(absHeap (TA aF w.params) 34 {}).nsMap mainGlobals "__annotations__")=(true,34,some (.ref 6)):=by
 kernel_rfl
end
end Mine
end
section
open PySem PySem.W PySem.Calls PyProof.Rows
namespace Mine
noncomputable section
abbrev pw:Program:=PySem.Challenge.pw_ku0033_01
theorem lJ (T:BT) (n:Nat) (l:Life) (g:Array GenState) (d:Drawn) (t:Nat) (os:OsState):(SharedT.mk T n l g d t os).abs=⟨absHeap T n l,g,d,t,os⟩:=rfl
theorem u0 {w:World} {f} (hf:@impEndT=f) {st'} (hs:@start=st') {tb:String->Option Builtin} {p q:Program} (hT:treeTable=tb) (hP:q=p) {TE'} (hE:@TE=TE')
  (h:f tb (opening p) w 1090 (Jc (opening p)) (st' (opening p)).2=some (SharedT.mk (TE' p w.params) 34 {} #[] {} 318 (start (opening p)).1.os)) :
  importEnds treeTable (opening q) w 1090 (start (opening q)).1 (start (opening q)).2=some ⟨absHeap (TE q w.params) 34 {},#[],{},318,(start (opening q)).1.os⟩:=by
 subst hf hs hT hP hE;have h2:=uZ h;rewrite [Eg,lJ] at h2;exact h2
theorem qm {w:World} {f} (hf:@fenceModules?=f) {p q:Program} (hP:q=p) {TE'} (hE:@TE=TE') {TA'} (hA:@TA=TA')
  (h:(λ os=>(f p (SharedT.mk (TE' p w.params) 34 {} #[] {} 318 os).abs).map (λ s=>(s.heap,s.gens,s.drawn,s.toks))) =
   λ os=>some ((SharedT.mk (TA' p w.params) 34 {} #[] {} 318 os).abs.heap,(#[]:Array GenState),({}:Drawn),318)) :
  (λ os=>(fenceModules? q ⟨absHeap (TE q w.params) 34 {},#[],{},318,os⟩).map (λ s=>(s.heap,s.gens,s.drawn,s.toks)))=λ _=>some (absHeap (TA q w.params) 34 {},(#[]:Array GenState),({}:Drawn),318):=by
 subst hf hP hE hA;simp only [lJ] at h;exact h
theorem u3 {w:World} {p q:Program} (hP:q=p) {TA'} (hA:@TA=TA')
  (h:((absHeap (TA' p w.params) 34 {}).isNs mainGlobals && (#[]:Array GenState).size == 0,(absHeap (TA' p w.params) 34 {}).objs.size,(absHeap (TA' p w.params) 34 {}).nsMap mainGlobals "__annotations__")=(true,34,some (Value.ref 6))) :
  ((absHeap (TA q w.params) 34 {}).isNs mainGlobals && (#[]:Array GenState).size == 0,(absHeap (TA q w.params) 34 {}).objs.size,(absHeap (TA q w.params) 34 {}).nsMap mainGlobals "__annotations__")=(true,34,some (Value.ref 6)):=by
 subst hP hA;exact h
theorem xB {w:World} {p q q2:Program} (hP:q=p) {TA'} (hA:@TA=TA') {T'} (hT:@fy=T') {M:Nat} {os:OsState}
  (h:topRun treeTable q2 w 34 (some (.ref 6)) M (SharedT.mk (TA' p w.params) 34 {} #[] {} 318 os).abs (topStub q2)=some (SharedT.mk (T' p w.params) 1057 {} #[] {} 1927 os).abs) :
  topRun treeTable q2 w 34 (some (.ref 6)) M ⟨absHeap (TA q w.params) 34 {},#[],{},318,os⟩ (topStub q2)=some ⟨absHeap (fy q w.params) 1057 {},#[],{},1927,os⟩:=by
 subst hP hA hT;rewrite [lJ,lJ] at h;exact h
theorem GK (N:Nat) (le:Nat.ble 1090 N=true):∀ w:World,(fencedOpening treeTable pw w N).map (λ s=>(s.heap,s.gens,s.drawn,s.toks))=some (absHeap (TA pw w.params) 34 {},(#[]:Array GenState),({}:Drawn),318) :=
 open_cut (He:=λ P=>absHeap (TE pw P) 34 {}) (H₀:=λ P=>absHeap (TA pw P) 34 {}) (ge:=#[]) (de:={}) (ke:=318)
  (λ w=>u0 PySem.W.Fast.te3490073068932922308 PySem.W.Fast.te1435165496053646825 nh AM rfl (GI w)) le
  (λ w=>qm PySem.W.Fast.te14289696077712309145 AM rfl rfl (Eh w))
theorem GL (w:World):((absHeap (TA pw w.params) 34 {}).isNs mainGlobals && (#[]:Array GenState).size == 0,(absHeap (TA pw w.params) 34 {}).objs.size,(absHeap (TA pw w.params) 34 {}).nsMap mainGlobals "__annotations__")=(true,34,some (Value.ref 6)):=u3 AM rfl (GJ w)
theorem Jd (w:World) (os:OsState):GG w os=(SharedT.mk (TA aF w.params) 34 {} #[] {} 318 os).abs:=rfl
theorem Je (w:World) (os:OsState):topRun treeTable pw w 34 (some (.ref 6)) (12+(1+(362+(1047+(31+(649+(91+(1343+(232+(894+(1278+(1578+(217+(641+(141+(235+2)))))))))))))))) ⟨absHeap (TA pw w.params) 34 {},#[],{},318,os⟩ (topStub pw)=some ⟨absHeap (fy pw w.params) 1057 {},#[],{},1927,os⟩:=by
 have h:=Jb w os;rewrite [Jd] at h;exact xB AM rfl rfl h
def GN (l:List Stmt):List Nat->List Stmt
 | []=>[]
 | i::r=>FH l i::GN l r
def bz (p:Program):Program:={ p with main:={ p.main with body:=GN p.main.body [0,1,2,4,5,6,7,8,10,11,13,14,16,17,18,19,20,21,22,23,25,26,27,28,30,31,33,35,36,37,38,40,41,42,43,44,45,46,47] } }
noncomputable def eP:List Str:=[Str.ofString "_tuplegetter",Str.ofString "Match",Str.ofString "SequenceMatcher",
 Str.ofString "twin_re_1_fnmatch",Str.ofString "_special_chars_map",Str.ofString "twin_re_1_shlex",
 Str.ofString "UnsupportedOperation",Str.ofString "IOBase",Str.ofString "BufferedIOBase",
 Str.ofString "TextIOBase",Str.ofString "BytesIO",Str.ofString "StringIO",Str.ofString "join_path",
 Str.ofString "shlex",Str.ofString "split",Str.ofString "join_shlex",Str.ofString "_find_unsafe"]
noncomputable def Xt (q:Program) (s:Shared):Bool:=xlAt q [] s && recOk [] s
theorem GP (w:World):(staticsOk (PySem.W.Fast.tw5923862056798008813 aF.main.body) (absHeap (TA aF w.params) 34 {}) (absHeap (fy aF w.params) 1057 {}) &&
  namesBound aF (absHeap (fy aF w.params) 1057 {}) &&
  laidKept (absHeap (TA aF w.params) 34 {}) (absHeap (fy aF w.params) 1057 {}))=true:=by
 kernel_rfl
theorem GQ (w:World):(λ os=>PySem.W.Fast.tw4187177175401517315 (bz aF) eP (PySem.W.Fast.tw5923862056798008813 aF.main.body) (Xt (bz aF)) true ⟨absHeap (fy aF w.params) 1057 {},#[],{},1927,os⟩) =
  λ _=>openGood (bz aF) eP:=by
 kernel_rfl
theorem qn {w:World} {m} (hm:@importedModules=m) {p q:Program} (hP:q=p) {TA'} (hA:@TA=TA') {T'} (hT:@fy=T')
  (h:(staticsOk (m p.main.body) (absHeap (TA' p w.params) 34 {}) (absHeap (T' p w.params) 1057 {}) && namesBound p (absHeap (T' p w.params) 1057 {}) && laidKept (absHeap (TA' p w.params) 34 {}) (absHeap (T' p w.params) 1057 {}))=true) (os:OsState) :
  (staticsOk (importedModules q.main.body) (absHeap (TA q w.params) 34 {}) (absHeap (fy q w.params) 1057 {}) && namesBound q (absHeap (fy q w.params) 1057 {}) && gensDone ⟨absHeap (fy q w.params) 1057 {},#[],{},1927,os⟩ && laidKept (absHeap (TA q w.params) 34 {}) (absHeap (fy q w.params) 1057 {}))=true:=by
 subst hm hP hA hT;have g:gensDone ⟨absHeap (fy q w.params) 1057 {},#[],{},1927,os⟩=true:=rfl;rw [Bool.and_eq_true] at h;rw [g,Bool.and_true,Bool.and_eq_true];exact h
theorem qo {w:World} {m} (hm:@importedModules=m) {f} (hf:@openSeen=f) {l} (hl:@eP=l) {p q:Program} (hP:q=p) {T'} (hT:@fy=T')
  (h:(λ os=>f (bz p) l (m p.main.body) (Xt (bz p)) true ⟨absHeap (T' p w.params) 1057 {},#[],{},1927,os⟩)=λ _=>openGood (bz p) l) (os:OsState) :
  openSeen (bz q) eP (importedModules q.main.body) (Xt (bz q)) true ⟨absHeap (fy q w.params) 1057 {},#[],{},1927,os⟩=openGood (bz q) eP:=by
 subst hm hf hl hP hT;exact congrFun h os
theorem GR {α β γ:Type} {a a':α} {b b':β} {c c':γ} (h1:a=a') (h2:b=b') (h3:c=c'):(a,b,c)=(a',b',c'):=by rw [h1,h2,h3]
theorem xC {α:Type} {Yf:Shared->α} {Ya:World->α} (hY:∀ (w:World) (os:OsState),Yf ⟨absHeap (fy pw w.params) 1057 {},#[],{},1927,os⟩=Ya w) :
  LeftO pw (bz pw) eP (Xt (bz pw)) Yf Ya 17396:=by
 refine LeftO.of_pieces (H₀:=λ P=>absHeap (TA pw P) 34 {}) (H₁:=λ P=>absHeap (fy pw P) 1057 {}) (gs₀:=#[]) (gs₁:=#[]) (d₀:={}) (d₁:={}) (k₀:=318) (k₁:=1927) (m₀:=34) (ann:=some (.ref 6)) (GK 17396 (by decide +kernel)) GL Je (by decide +kernel) (λ w=>?_)
 funext os
 have a:=qn PySem.W.Fast.te5923862056798008813 AM rfl rfl (GP w) os;have b:=qo PySem.W.Fast.te5923862056798008813 PySem.W.Fast.te4187177175401517315 rfl AM rfl (GQ w) os;exact GR a b (hY w os)
noncomputable def Jf (o:Obj):Bool:=match o.data with
 | .freed=>false
 | _=>true
theorem nG {o:Obj} (h:Jf o=true):alive o=some o:=by
 obtain ⟨c,d,dt,sl⟩:=o;cases dt<;>first | rfl | cases h
theorem tq {t:BT} {n:Nat} {life:Life}:∀ (l:List (Nat×Obj)),l.map (λ p=>t.get p.1)=l.map (λ p=>some p.2)->l.all (λ p=>Nat.blt p.1 n && Jf p.2)=true ->
  (l.map (·.1)).map (absHeap t n life).get?=l.map (λ p=>some p.2)
 | [],_,_=>rfl
 | p::r,h,q=>by
  rw [List.map_cons,List.map_cons] at h;injection h with h1 h2
  rw [List.all_cons,Bool.and_eq_true,Bool.and_eq_true] at q;obtain ⟨⟨q1,q2⟩,q3⟩:=q;rw [List.map_cons,List.map_cons,List.map_cons,tq r h2 q3,abs_get (Nat.le_of_ble_eq_true q1) h1,nG q2]
end
end Mine
end
section
open PySem PySem.W PySem.W.X PySem.Calls PyProof.Rows
namespace Mine
noncomputable section
noncomputable def xD:{ x:DefRec×List (Str×Expr) // defOf (bz pw) "law" = some x }:=⟨_,rfl⟩
theorem headW (H:Hook) (hobs:∀ (w:World) (os:OsState),H.obs ⟨absHeap (fy pw w.params) 1057 {},#[],{},1927,os⟩=H.val w) (said:PySem.Challenge.rw_ku0033_01.row.wellSaid=true) (hw:PySem.Challenge.rw_ku0033_01.row.toRowW.promised)
  (call:WalkO (bz pw) eP (XL (bz pw) []) H.says PySem.Challenge.rw_ku0033_01.row.toRowW xD.1.1 xD.1.2 λ f vs=>PySem.call f vs):PySem.Challenge.rw_ku0033_01.row.Holds:=by
 refine holds_open (q:=bz pw) (loose:=eP) (Xt:=Xt (bz pw)) (XP:=XL (bz pw) []) (Yf:=H.obs) (Ya:=H.val) (YP:=H.says) (d:=xD.1.1) (kwd:=xD.1.2) (N:=17396) ?hl H.of H.keeps ?a1 ?a2 ?a3 ?a4 ?a5 ?a6 ?a7 said ?a9 ?a10 hw call;case a1=>exact (λ s e=>xl_of s (Bool.and_eq_true_iff.mp e).1)
 case a2=>exact XL.keeps
 case a3=>exact xD.2
 case a4=>rfl
 case a5=>rfl
 case a6=>exact (λ s e=>recFacts_of (Bool.and_eq_true_iff.mp e).2)
 case a7=>rfl
 case a9=>decide +kernel
 case a10=>exact ⟨rfl,rfl,rfl,rfl,rfl,by decide +kernel⟩
 case hl=>exact xC hobs
end
end Mine
end
section
open PySem PySem.W
namespace Mine
noncomputable section
theorem xE:PySem.W.Fast.tw9446332074065402090 PySem.Challenge.rw_ku0033_01=true:=by
 delta PySem.W.Fast.tw9446332074065402090
 repeat' (with_reducible refine PySem.W.look_both ?_ ?_)
 all_goals (first | (delta PySem.W.Fast.tw17960256430627541270 PySem.W.Fast.tw2368527892694137696; skip) | skip)
 all_goals repeat' (with_reducible refine PySem.W.look_both ?_ ?_)
 all_goals (first | (delta PySem.W.Fast.tw2436336058641802641; skip) | skip)
 all_goals repeat' (with_reducible refine PySem.W.look_both ?_ ?_)
 all_goals (first | (delta PySem.W.Fast.tw12908688711261696721; skip) | skip)
 all_goals repeat' (with_reducible refine PySem.W.look_both ?_ ?_)
 all_goals decide +kernel
theorem lawSaid:PySem.Challenge.rw_ku0033_01.wellSaid=true:=(congrFun PySem.W.Fast.te9446332074065402090 _).trans xE
end
end Mine
end
section
open PySem PySem.W PySem.W.X PySem.Calls PyProof.Rows
namespace Mine
noncomputable def lK (t : BT) : List (Nat × Obj) -> List (Option Obj)
 | [] => []
 | p :: r => t.get p.1 :: lK t r
noncomputable def iU : List (Nat × Obj) -> List (Option Obj)
 | [] => []
 | p :: r => some p.2 :: iU r
theorem u4 (t : BT) : ∀ l, lK t l = l.map (λ p => t.get p.1) := by
 intro l;induction l with
 | nil =>
  rfl
 | cons p r ih =>
  rw [lK, ih]; rfl
theorem qr : ∀ l : List (Nat × Obj), iU l = l.map (λ p => some p.2) := by
 intro l;induction l with
 | nil =>
  rfl
 | cons p r ih =>
  rw [iU, ih]; rfl
theorem xF {t : BT} {n : Nat} {life : Life} : ∀ (l : List Addr), l.map (λ a => t.get a) = l.map (λ _ => some (tabObj #[])) -> l.all (λ a => Nat.blt a n) = true ->
  l.map (absHeap t n life).get? = l.map (λ _ => some (tabObj #[])) := by
 intro l;induction l with
 | nil =>
  intro _ _;rfl
 | cons a r ih =>
  intro h q;rw [List.map_cons, List.map_cons] at h;injection h with h1 h2
  rw [List.all_cons, Bool.and_eq_true] at q;rw [List.map_cons, List.map_cons, ih h2 q.2, abs_get (Nat.le_of_ble_eq_true q.1) h1, nG rfl]
theorem A6 {K : Params -> Frag} {as : List Addr} (e : ∀ P, as = (K P).map (·.1)) (ts : List Addr) (h1 : ∀ P, lK (fy pw P) (K P) = iU (K P)) (h2 : ∀ P, (K P).all (λ p => Nat.blt p.1 1057 && Jf p.2) = true)
  (h3 : ∀ P, ts.map (λ a => (fy pw P).get a) = ts.map (λ _ => some (tabObj #[]))) (h4 : ts.all (λ a => Nat.blt a 1057) = true)
  (w : World) (os : OsState) : Hook.obs (kmHook K as e ts) ⟨absHeap (fy pw w.params) 1057 {}, #[], {}, 1927, os⟩ = Hook.val (kmHook K as e ts) w := by
 show (as.map (absHeap (fy pw w.params) 1057 {}).get?, ts.map (absHeap (fy pw w.params) 1057 {}).get?) = ((K w.params).map (λ p => some p.2), ts.map λ _ => some (tabObj #[]));rw [e w.params, tq _ (by rw [<- u4, <- qr]; exact h1 _) (h2 _), xF _ (h3 _) h4]
noncomputable def kH (P : Params) : Frag := [(2, Dg pw P), (3, Di pw P)] ++ (J5 pw false ++ (J6 pw false ++ ([(59, C5 pw P)] ++ (J7 pw false ++ (J8 pw false ++ (J9 pw false ++ ([(81, C6 pw P), (82, C7 pw P), (83, C8 pw P), (84, C9 pw P), (85, Da pw P), (88, Db pw P), (91, Dc pw P), (96, Dd pw P), (97, De pw P), (98, Df pw P)] ++ (Ka pw false ++ ([(106, wz pw P), (108, wA pw P), (109, wB pw P), (111, wC pw P), (112, wE pw P), (113, wF pw P), (114, wG pw P), (115, wH pw P), (116, wI pw P), (117, wK pw P), (119, wM pw P), (120, wO pw P), (122, wP pw P), (123, wQ pw P)] ++ (FQ pw false ++ (FR pw false ++ (FS pw false ++ ([(145, wR pw P), (146, wS pw P), (147, wT pw P), (149, wU pw P), (150, wV pw P), (152, wW pw P), (153, wX pw P), (155, wY pw P), (157, wZ pw P), (158, w9 pw P), (159, xc pw P)] ++ (FT pw false ++ ([(176, xd pw P)] ++ (FU pw false ++ (FV pw false ++ (FW pw false ++ (FX pw false ++ (FY pw false ++ ([(212, xf pw P)] ++ (FZ pw false ++ (F0 pw false ++ (F5 pw false ++ ([(234, xg pw P)] ++ (F6 pw false ++ (F8 pw false ++ (F9 pw false ++ (Ga pw false ++ ([(263, xh pw P), (264, xj pw P), (265, xk pw P), (266, xl pw P), (267, xm pw P), (273, xn pw P), (274, xo pw P), (276, xp pw P)] ++ (Gb pw false ++ (Gc pw false ++ ([(297, sq pw P), (298, sr pw P)] ++ (Gd pw false ++ (Ge pw false ++ ([(313, ss pw P), (320, su pw P), (321, sx pw P), (322, sy pw P), (323, sz pw P)] ++ (Gf pw false ++ ([(340, sA pw P), (341, sB pw P), (342, sC pw P), (343, sD pw P), (344, sE pw P), (345, sF pw P), (348, sG pw P), (355, sH pw P), (356, sJ pw P), (357, sN pw P), (360, sK pw P), (367, sL pw P), (368, sM pw P), (369, sR pw P), (597, sO pw P), (598, sP pw P), (599, sQ pw P), (602, sS pw P), (609, sT pw P)] ++ (Gg pw false ++ (Gh pw false ++ (Gi pw false ++ ([(785, sU pw P)] ++ (Gj pw false ++ ([(844, sV pw P), (845, sX pw P), (846, sY pw P)] ++ (Gk pw false ++ (Gl pw false ++ (Gm pw false ++ (Gn pw false ++ (Go pw false ++ (Gp pw false ++ ([(898, sZ pw P)] ++ (Gq pw false ++ (Gr pw false ++ ([(913, ta pw P)] ++ (Gs pw false ++ ([(921, tc pw P)] ++ (Gu pw false ++ (Gv pw false ++ (Gw pw false ++ (Gx pw false ++ (Gy pw false ++ ([(957, td pw P)] ++ (Gz pw false ++ (GA pw false ++ (GB pw false ++ ([(979, te pw P), (980, th pw P), (981, ti pw P), (982, tj pw P), (983, tm pw P), (986, tn pw P)] ++ (GC pw false ++ (GD pw false ++ ([(1001, nm pw P)] ++ (Dh pw false ++ ([(1009, nq pw P), (1012, nt pw P), (1013, nu pw P)] ++ (Dj pw false ++ ([(1021, nv pw P), (1024, nw pw P), (1025, ny pw P), (1026, nz pw P), (1029, nA pw P), (1030, nB pw P)] ++ (Dk pw false ++ (Dl pw false ++ (Dm pw false ++ ([(1052, nC pw P), (1055, nD pw P), (1056, nE pw P)])))))))))))))))))))))))))))))))))))))))))))))))))))))))))))))))))))))))))))))
noncomputable def fA : List Addr -> List Addr
 | [] => []
 | a :: r => a :: (a + 2) :: (a + 3) :: (a + 5) :: (a + 6) :: fA r
noncomputable def kHas : List Addr := [2, 3] ++ (fA [38, 52] ++ ([59] ++ (fA [60, 67, 74] ++ ([81, 82, 83, 84, 85, 88, 91, 96, 97, 98] ++ (fA [99] ++ ([106, 108, 109, 111, 112, 113, 114, 115, 116, 117, 119, 120, 122, 123] ++ (fA [124, 131, 138] ++ ([145, 146, 147, 149, 150, 152, 153, 155, 157, 158, 159] ++ (fA [162] ++ ([176] ++ (fA [177, 184, 191, 198, 205] ++ ([212] ++ (fA [213, 220, 227] ++ ([234] ++ (fA [235, 242, 249, 256] ++ ([263, 264, 265, 266, 267, 273, 274, 276] ++ (fA [280, 287] ++ ([297, 298] ++ (fA [299, 306] ++ ([313, 320, 321, 322, 323] ++ (fA [333] ++ ([340, 341, 342, 343, 344, 345, 348, 355, 356, 357, 360, 367, 368, 369, 597, 598, 599, 602, 609] ++ (fA [610, 617, 624] ++ ([785] ++ (fA [786] ++ ([844, 845, 846] ++ (fA [849, 856, 863, 870, 877, 884] ++ ([898] ++ (fA [899, 906] ++ ([913] ++ (fA [914] ++ ([921] ++ (fA [922, 929, 936, 943, 950] ++ ([957] ++ (fA [958, 965, 972] ++ ([979, 980, 981, 982, 983, 986] ++ (fA [987, 994] ++ ([1001] ++ (fA [1002] ++ ([1009, 1012, 1013] ++ (fA [1014] ++ ([1021, 1024, 1025, 1026, 1029, 1030] ++ (fA [1031, 1038, 1045] ++ ([1052, 1055, 1056]))))))))))))))))))))))))))))))))))))))))))))
theorem kHas_eq (P : Params) : kHas = (kH P).map (·.1) := by kernel_rfl
theorem hookOK (w : World) (os : OsState) : Hook.obs (kmHook kH kHas kHas_eq [288, 1053]) ⟨absHeap (fy pw w.params) 1057 {}, #[], {}, 1927, os⟩ = Hook.val (kmHook kH kHas kHas_eq [288, 1053]) w :=
 A6 kHas_eq [288, 1053] (λ P => by kernel_rfl) (λ P => by kernel_rfl) (λ P => by kernel_rfl) (by decide) w os
end Mine
local macro_rules | `(tactic| o_law) => `(tactic| refine PySem.W.holds_law Mine.lawSaid λ said => ?_)
local macro_rules | `(tactic| k_head) => `(tactic| refine Mine.headW (kmHook Mine.kH Mine.kHas Mine.kHas_eq [288, 1053]) Mine.hookOK (by assumption) ?hw ?hc)
open_top hd for PySem.Challenge.rw_ku0033_01
end
section
open PySem PySem.W PySem.Spec PySem.Calls PyProof.Rows
namespace Mine
noncomputable section
noncomputable section
theorem ab {p0 p1:Prop} {G:Prop} (h:p0∧p1) (f:p0->p1->G):G:=f h.1 h.2
theorem c9 {p0 p1 p2:Prop} {G:Prop} (h:p0∧p1∧p2) (f:p0->p1->p2->G):G:=ab h.2 (f h.1)
theorem eQ {p0 p1 p2 p3:Prop} {G:Prop} (h:p0∧p1∧p2∧p3) (f:p0->p1->p2->p3->G):G:=c9 h.2 (f h.1)
theorem tv {p0 p1 p2 p3 p4:Prop} {G:Prop} (h:p0∧p1∧p2∧p3∧p4) (f:p0->p1->p2->p3->p4->G):G:=eQ h.2 (f h.1)
theorem tw {p0 p1 p2 p3 p4 p5:Prop} {G:Prop} (h:p0∧p1∧p2∧p3∧p4∧p5) (f:p0->p1->p2->p3->p4->p5->G):G:=tv h.2 (f h.1)
theorem GT {p0 p1 p2 p3 p4 p5 p6:Prop} {G:Prop} (h:p0∧p1∧p2∧p3∧p4∧p5∧p6) (f:p0->p1->p2->p3->p4->p5->p6->G):G:=tw h.2 (f h.1)
theorem Dp {p0 p1 p2 p3 p4 p5 p6 p7:Prop} {G:Prop} (h:p0∧p1∧p2∧p3∧p4∧p5∧p6∧p7) (f:p0->p1->p2->p3->p4->p5->p6->p7->G):G:=GT h.2 (f h.1)
theorem GU {p0 p1 p2 p3 p4 p5 p6 p7 p8:Prop} {G:Prop} (h:p0∧p1∧p2∧p3∧p4∧p5∧p6∧p7∧p8) (f:p0->p1->p2->p3->p4->p5->p6->p7->p8->G):G:=Dp h.2 (f h.1)
theorem Ei {p0 p1 p2 p3 p4 p5 p6 p7 p8 p9:Prop} {G:Prop} (h:p0∧p1∧p2∧p3∧p4∧p5∧p6∧p7∧p8∧p9) (f:p0->p1->p2->p3->p4->p5->p6->p7->p8->p9->G):G:=GU h.2 (f h.1)
theorem xG {p0 p1 p2 p3 p4 p5 p6 p7 p8 p9 p10:Prop} {G:Prop} (h:p0∧p1∧p2∧p3∧p4∧p5∧p6∧p7∧p8∧p9∧p10) (f:p0->p1->p2->p3->p4->p5->p6->p7->p8->p9->p10->G):G:=Ei h.2 (f h.1)
theorem Ej {p0 p1 p2 p3 p4 p5 p6 p7 p8 p9 p10 p11:Prop} {G:Prop} (h:p0∧p1∧p2∧p3∧p4∧p5∧p6∧p7∧p8∧p9∧p10∧p11) (f:p0->p1->p2->p3->p4->p5->p6->p7->p8->p9->p10->p11->G):G:=xG h.2 (f h.1)
theorem aj {a0:Sort _} {p0:a0->Prop} {G:Prop} (h:∃ x0,p0 x0) (f:∀ x0,p0 x0->G):G:=h.elim λ x0 h=>f x0 h
theorem ag {a0:Sort _} {p0 p1:a0->Prop} {G:Prop} (h:∃ x0,p0 x0∧p1 x0) (f:∀ x0,p0 x0->p1 x0->G):G:=h.elim λ x0 h=>ab h (f x0)
theorem kP {a0:Sort _} {p0 p1 p2:a0->Prop} {G:Prop} (h:∃ x0,p0 x0∧p1 x0∧p2 x0) (f:∀ x0,p0 x0->p1 x0->p2 x0->G):G:=h.elim λ x0 h=>c9 h (f x0)
theorem xH {a0:Sort _} {p0 p1 p2 p3:a0->Prop} {G:Prop} (h:∃ x0,p0 x0∧p1 x0∧p2 x0∧p3 x0) (f:∀ x0,p0 x0->p1 x0->p2 x0->p3 x0->G):G:=h.elim λ x0 h=>eQ h (f x0)
theorem xI {a0:Sort _} {p0 p1 p2 p3 p4:a0->Prop} {G:Prop} (h:∃ x0,p0 x0∧p1 x0∧p2 x0∧p3 x0∧p4 x0) (f:∀ x0,p0 x0->p1 x0->p2 x0->p3 x0->p4 x0->G):G:=h.elim λ x0 h=>tv h (f x0)
theorem xJ {a0:Sort _} {p0 p1 p2 p3 p4 p5 p6 p7 p8 p9 p10:a0->Prop} {G:Prop} (h:∃ x0,p0 x0∧p1 x0∧p2 x0∧p3 x0∧p4 x0∧p5 x0∧p6 x0∧p7 x0∧p8 x0∧p9 x0∧p10 x0) (f:∀ x0,p0 x0->p1 x0->p2 x0->p3 x0->p4 x0->p5 x0->p6 x0->p7 x0->p8 x0->p9 x0->p10 x0->G):G:=h.elim λ x0 h=>xG h (f x0)
theorem bE {a0:Sort _} {a1:Sort _} {p0:a0->a1->Prop} {G:Prop} (h:∃ x0 x1,p0 x0 x1) (f:∀ x0 x1,p0 x0 x1->G):G:=h.elim λ x0 h=>h.elim λ x1 h=>f x0 x1 h
theorem jg {a0:Sort _} {a1:Sort _} {p0 p1:a0->a1->Prop} {G:Prop} (h:∃ x0 x1,p0 x0 x1∧p1 x0 x1) (f:∀ x0 x1,p0 x0 x1->p1 x0 x1->G):G:=h.elim λ x0 h=>h.elim λ x1 h=>ab h (f x0 x1)
theorem ak {a0:Sort _} {a1:Sort _} {p0 p1 p2:a0->a1->Prop} {G:Prop} (h:∃ x0 x1,p0 x0 x1∧p1 x0 x1∧p2 x0 x1) (f:∀ x0 x1,p0 x0 x1->p1 x0 x1->p2 x0 x1->G):G:=h.elim λ x0 h=>h.elim λ x1 h=>c9 h (f x0 x1)
theorem nH {a0:Sort _} {a1:Sort _} {p0 p1 p2 p3:a0->a1->Prop} {G:Prop} (h:∃ x0 x1,p0 x0 x1∧p1 x0 x1∧p2 x0 x1∧p3 x0 x1) (f:∀ x0 x1,p0 x0 x1->p1 x0 x1->p2 x0 x1->p3 x0 x1->G):G:=h.elim λ x0 h=>h.elim λ x1 h=>eQ h (f x0 x1)
theorem GV {a0:Sort _} {a1:Sort _} {p0 p1 p2 p3 p4 p5:a0->a1->Prop} {G:Prop} (h:∃ x0 x1,p0 x0 x1∧p1 x0 x1∧p2 x0 x1∧p3 x0 x1∧p4 x0 x1∧p5 x0 x1) (f:∀ x0 x1,p0 x0 x1->p1 x0 x1->p2 x0 x1->p3 x0 x1->p4 x0 x1->p5 x0 x1->G):G:=h.elim λ x0 h=>h.elim λ x1 h=>tw h (f x0 x1)
theorem qt {a0:Sort _} {a1:Sort _} {p0 p1 p2 p3 p4 p5 p6 p7 p8 p9 p10 p11:a0->a1->Prop} {G:Prop} (h:∃ x0 x1,p0 x0 x1∧p1 x0 x1∧p2 x0 x1∧p3 x0 x1∧p4 x0 x1∧p5 x0 x1∧p6 x0 x1∧p7 x0 x1∧p8 x0 x1∧p9 x0 x1∧p10 x0 x1∧p11 x0 x1) (f:∀ x0 x1,p0 x0 x1->p1 x0 x1->p2 x0 x1->p3 x0 x1->p4 x0 x1->p5 x0 x1->p6 x0 x1->p7 x0 x1->p8 x0 x1->p9 x0 x1->p10 x0 x1->p11 x0 x1->G):G:=h.elim λ x0 h=>h.elim λ x1 h=>Ej h (f x0 x1)
theorem kQ {a0:Sort _} {a1:Sort _} {a2:Sort _} {p0:a0->a1->a2->Prop} {G:Prop} (h:∃ x0 x1 x2,p0 x0 x1 x2) (f:∀ x0 x1 x2,p0 x0 x1 x2->G):G:=h.elim λ x0 h=>h.elim λ x1 h=>h.elim λ x2 h=>f x0 x1 x2 h
theorem da {a0:Sort _} {a1:Sort _} {a2:Sort _} {p0 p1:a0->a1->a2->Prop} {G:Prop} (h:∃ x0 x1 x2,p0 x0 x1 x2∧p1 x0 x1 x2) (f:∀ x0 x1 x2,p0 x0 x1 x2->p1 x0 x1 x2->G):G:=h.elim λ x0 h=>h.elim λ x1 h=>h.elim λ x2 h=>ab h (f x0 x1 x2)
theorem dK {a0:Sort _} {a1:Sort _} {a2:Sort _} {p0 p1 p2:a0->a1->a2->Prop} {G:Prop} (h:∃ x0 x1 x2,p0 x0 x1 x2∧p1 x0 x1 x2∧p2 x0 x1 x2) (f:∀ x0 x1 x2,p0 x0 x1 x2->p1 x0 x1 x2->p2 x0 x1 x2->G):G:=h.elim λ x0 h=>h.elim λ x1 h=>h.elim λ x2 h=>c9 h (f x0 x1 x2)
theorem tz {a0:Sort _} {a1:Sort _} {a2:Sort _} {p0 p1 p2 p3:a0->a1->a2->Prop} {G:Prop} (h:∃ x0 x1 x2,p0 x0 x1 x2∧p1 x0 x1 x2∧p2 x0 x1 x2∧p3 x0 x1 x2) (f:∀ x0 x1 x2,p0 x0 x1 x2->p1 x0 x1 x2->p2 x0 x1 x2->p3 x0 x1 x2->G):G:=h.elim λ x0 h=>h.elim λ x1 h=>h.elim λ x2 h=>eQ h (f x0 x1 x2)
theorem Dq {a0:Sort _} {a1:Sort _} {a2:Sort _} {p0 p1 p2 p3 p4:a0->a1->a2->Prop} {G:Prop} (h:∃ x0 x1 x2,p0 x0 x1 x2∧p1 x0 x1 x2∧p2 x0 x1 x2∧p3 x0 x1 x2∧p4 x0 x1 x2) (f:∀ x0 x1 x2,p0 x0 x1 x2->p1 x0 x1 x2->p2 x0 x1 x2->p3 x0 x1 x2->p4 x0 x1 x2->G):G:=h.elim λ x0 h=>h.elim λ x1 h=>h.elim λ x2 h=>tv h (f x0 x1 x2)
theorem Dr {a0:Sort _} {a1:Sort _} {a2:Sort _} {p0 p1 p2 p3 p4 p5:a0->a1->a2->Prop} {G:Prop} (h:∃ x0 x1 x2,p0 x0 x1 x2∧p1 x0 x1 x2∧p2 x0 x1 x2∧p3 x0 x1 x2∧p4 x0 x1 x2∧p5 x0 x1 x2) (f:∀ x0 x1 x2,p0 x0 x1 x2->p1 x0 x1 x2->p2 x0 x1 x2->p3 x0 x1 x2->p4 x0 x1 x2->p5 x0 x1 x2->G):G:=h.elim λ x0 h=>h.elim λ x1 h=>h.elim λ x2 h=>tw h (f x0 x1 x2)
theorem xK {a0:Sort _} {a1:Sort _} {a2:Sort _} {p0 p1 p2 p3 p4 p5 p6 p7:a0->a1->a2->Prop} {G:Prop} (h:∃ x0 x1 x2,p0 x0 x1 x2∧p1 x0 x1 x2∧p2 x0 x1 x2∧p3 x0 x1 x2∧p4 x0 x1 x2∧p5 x0 x1 x2∧p6 x0 x1 x2∧p7 x0 x1 x2) (f:∀ x0 x1 x2,p0 x0 x1 x2->p1 x0 x1 x2->p2 x0 x1 x2->p3 x0 x1 x2->p4 x0 x1 x2->p5 x0 x1 x2->p6 x0 x1 x2->p7 x0 x1 x2->G):G:=h.elim λ x0 h=>h.elim λ x1 h=>h.elim λ x2 h=>Dp h (f x0 x1 x2)
theorem tB {a0:Sort _} {a1:Sort _} {a2:Sort _} {a3:Sort _} {p0:a0->a1->a2->a3->Prop} {G:Prop} (h:∃ x0 x1 x2 x3,p0 x0 x1 x2 x3) (f:∀ x0 x1 x2 x3,p0 x0 x1 x2 x3->G):G:=h.elim λ x0 h=>h.elim λ x1 h=>h.elim λ x2 h=>h.elim λ x3 h=>f x0 x1 x2 x3 h
theorem xL {a0:Sort _} {a1:Sort _} {a2:Sort _} {a3:Sort _} {p0 p1 p2:a0->a1->a2->a3->Prop} {G:Prop} (h:∃ x0 x1 x2 x3,p0 x0 x1 x2 x3∧p1 x0 x1 x2 x3∧p2 x0 x1 x2 x3) (f:∀ x0 x1 x2 x3,p0 x0 x1 x2 x3->p1 x0 x1 x2 x3->p2 x0 x1 x2 x3->G):G:=h.elim λ x0 h=>h.elim λ x1 h=>h.elim λ x2 h=>h.elim λ x3 h=>c9 h (f x0 x1 x2 x3)
theorem GW {a0:Sort _} {a1:Sort _} {a2:Sort _} {a3:Sort _} {p0 p1 p2 p3:a0->a1->a2->a3->Prop} {G:Prop} (h:∃ x0 x1 x2 x3,p0 x0 x1 x2 x3∧p1 x0 x1 x2 x3∧p2 x0 x1 x2 x3∧p3 x0 x1 x2 x3) (f:∀ x0 x1 x2 x3,p0 x0 x1 x2 x3->p1 x0 x1 x2 x3->p2 x0 x1 x2 x3->p3 x0 x1 x2 x3->G):G:=h.elim λ x0 h=>h.elim λ x1 h=>h.elim λ x2 h=>h.elim λ x3 h=>eQ h (f x0 x1 x2 x3)
theorem xM {a0:Sort _} {a1:Sort _} {a2:Sort _} {a3:Sort _} {p0 p1 p2 p3 p4:a0->a1->a2->a3->Prop} {G:Prop} (h:∃ x0 x1 x2 x3,p0 x0 x1 x2 x3∧p1 x0 x1 x2 x3∧p2 x0 x1 x2 x3∧p3 x0 x1 x2 x3∧p4 x0 x1 x2 x3) (f:∀ x0 x1 x2 x3,p0 x0 x1 x2 x3->p1 x0 x1 x2 x3->p2 x0 x1 x2 x3->p3 x0 x1 x2 x3->p4 x0 x1 x2 x3->G):G:=h.elim λ x0 h=>h.elim λ x1 h=>h.elim λ x2 h=>h.elim λ x3 h=>tv h (f x0 x1 x2 x3)
theorem Ds {a0:Sort _} {a1:Sort _} {a2:Sort _} {a3:Sort _} {a4:Sort _} {p0:a0->a1->a2->a3->a4->Prop} {G:Prop} (h:∃ x0 x1 x2 x3 x4,p0 x0 x1 x2 x3 x4) (f:∀ x0 x1 x2 x3 x4,p0 x0 x1 x2 x3 x4->G):G:=h.elim λ x0 h=>h.elim λ x1 h=>h.elim λ x2 h=>h.elim λ x3 h=>h.elim λ x4 h=>f x0 x1 x2 x3 x4 h
theorem GX {a0:Sort _} {a1:Sort _} {a2:Sort _} {a3:Sort _} {a4:Sort _} {p0 p1 p2:a0->a1->a2->a3->a4->Prop} {G:Prop} (h:∃ x0 x1 x2 x3 x4,p0 x0 x1 x2 x3 x4∧p1 x0 x1 x2 x3 x4∧p2 x0 x1 x2 x3 x4) (f:∀ x0 x1 x2 x3 x4,p0 x0 x1 x2 x3 x4->p1 x0 x1 x2 x3 x4->p2 x0 x1 x2 x3 x4->G):G:=h.elim λ x0 h=>h.elim λ x1 h=>h.elim λ x2 h=>h.elim λ x3 h=>h.elim λ x4 h=>c9 h (f x0 x1 x2 x3 x4)
theorem Dt {a0:Sort _} {a1:Sort _} {a2:Sort _} {a3:Sort _} {a4:Sort _} {p0 p1 p2 p3 p4 p5:a0->a1->a2->a3->a4->Prop} {G:Prop} (h:∃ x0 x1 x2 x3 x4,p0 x0 x1 x2 x3 x4∧p1 x0 x1 x2 x3 x4∧p2 x0 x1 x2 x3 x4∧p3 x0 x1 x2 x3 x4∧p4 x0 x1 x2 x3 x4∧p5 x0 x1 x2 x3 x4) (f:∀ x0 x1 x2 x3 x4,p0 x0 x1 x2 x3 x4->p1 x0 x1 x2 x3 x4->p2 x0 x1 x2 x3 x4->p3 x0 x1 x2 x3 x4->p4 x0 x1 x2 x3 x4->p5 x0 x1 x2 x3 x4->G):G:=h.elim λ x0 h=>h.elim λ x1 h=>h.elim λ x2 h=>h.elim λ x3 h=>h.elim λ x4 h=>tw h (f x0 x1 x2 x3 x4)
theorem GY {a0:Sort _} {a1:Sort _} {a2:Sort _} {a3:Sort _} {a4:Sort _} {a5:Sort _} {a6:Sort _} {p0:a0->a1->a2->a3->a4->a5->a6->Prop} {G:Prop} (h:∃ x0 x1 x2 x3 x4 x5 x6,p0 x0 x1 x2 x3 x4 x5 x6) (f:∀ x0 x1 x2 x3 x4 x5 x6,p0 x0 x1 x2 x3 x4 x5 x6->G):G:=h.elim λ x0 h=>h.elim λ x1 h=>h.elim λ x2 h=>h.elim λ x3 h=>h.elim λ x4 h=>h.elim λ x5 h=>h.elim λ x6 h=>f x0 x1 x2 x3 x4 x5 x6 h
theorem GZ {a0:Sort _} {a1:Sort _} {a2:Sort _} {a3:Sort _} {a4:Sort _} {a5:Sort _} {a6:Sort _} {a7:Sort _} {p0:a0->a1->a2->a3->a4->a5->a6->a7->Prop} {G:Prop} (h:∃ x0 x1 x2 x3 x4 x5 x6 x7,p0 x0 x1 x2 x3 x4 x5 x6 x7) (f:∀ x0 x1 x2 x3 x4 x5 x6 x7,p0 x0 x1 x2 x3 x4 x5 x6 x7->G):G:=h.elim λ x0 h=>h.elim λ x1 h=>h.elim λ x2 h=>h.elim λ x3 h=>h.elim λ x4 h=>h.elim λ x5 h=>h.elim λ x6 h=>h.elim λ x7 h=>f x0 x1 x2 x3 x4 x5 x6 x7 h
theorem gQ {α:Type} {xs:List α} (h:xs.length=1):∃ a,xs=[a]:=by
 rcases xs with _ | ⟨x0,xs⟩
 ·cases h
 rcases xs with _ | ⟨y,xs⟩
 ·exact ⟨_,rfl⟩
 ·cases h
theorem nI {α:Type} {xs:List α} (h:xs.length=2):∃ a b,xs=[a,b]:=by
 rcases xs with _ | ⟨x0,xs⟩
 ·cases h
 rcases xs with _ | ⟨x1,xs⟩
 ·cases h
 rcases xs with _ | ⟨y,xs⟩
 ·exact ⟨_,_,rfl⟩
 ·cases h
theorem Ek {α:Type} {xs:List α} (h:xs.length=3):∃ a b c,xs=[a,b,c]:=by
 rcases xs with _ | ⟨x0,xs⟩
 ·cases h
 rcases xs with _ | ⟨x1,xs⟩
 ·cases h
 rcases xs with _ | ⟨x2,xs⟩
 ·cases h
 rcases xs with _ | ⟨y,xs⟩
 ·exact ⟨_,_,_,rfl⟩
 ·cases h
theorem Jg {α:Type} {xs:List α} (h:xs.length=4):∃ a b c d,xs=[a,b,c,d]:=by
 rcases xs with _ | ⟨x0,xs⟩
 ·cases h
 rcases xs with _ | ⟨x1,xs⟩
 ·cases h
 rcases xs with _ | ⟨x2,xs⟩
 ·cases h
 rcases xs with _ | ⟨x3,xs⟩
 ·cases h
 rcases xs with _ | ⟨y,xs⟩
 ·exact ⟨_,_,_,_,rfl⟩
 ·cases h
theorem Jh {α:Type} {a x0:α} (h:a∈[x0]):a=x0:=(List.mem_cons.mp h).elim id λ h=>nomatch h
theorem G0 {α:Type} {a x0 x1:α} (h:a∈[x0,x1]):a=x0∨a=x1:=(List.mem_cons.mp h).imp id Jh
theorem El {α:Type} {a x0 x1 x2:α} (h:a∈[x0,x1,x2]):a=x0∨a=x1∨a=x2:=(List.mem_cons.mp h).imp id G0
theorem Kn {α:Type} {a x0 x1 x2 x3:α} (h:a∈[x0,x1,x2,x3]):a=x0∨a=x1∨a=x2∨a=x3:=(List.mem_cons.mp h).imp id El
theorem ac {α:Type} {a:α} {C:Prop} (h:none=some a):C:=nomatch h
theorem aT {C:Prop} (h:false=true):C:=nomatch h
theorem bh (h:Heap):h.get? h.objs.size=none:=by
 cases q:h.get? h.objs.size with
 | none=>rfl
 | some o=>exact absurd (Heap.lt_size q) (Nat.lt_irrefl _)
theorem bd {h:Heap} {a:Addr} {o:Obj} (e:h.get? a=some o):a≠h.objs.size:=λ q=>by rw [q,bh] at e; cases e
end
theorem nJ {α:Type} {M:Model} {A:Around} {Q:α->Shared->Prop} {E:Value->Shared->Prop} {s:Shared} {c:Bool} {a b:Sem α} (h:c=true) (k:wpAny M A a Q E s):wpAny M A (if c=true then a else b) Q E s:=by rw [if_pos h]; exact k
theorem eR {α:Type} {M:Model} {A:Around} {Q:α->Shared->Prop} {E:Value->Shared->Prop} {s:Shared} {c:Bool} {a b:Sem α} (h:c=false) (k:wpAny M A b Q E s):wpAny M A (if c=true then a else b) Q E s:=by rw [if_neg (by rw [h]; exact Bool.false_ne_true)]; exact k
theorem ah {P:Prop} (h:∀ G:Prop,(P->G)->G):P:=h P id
theorem Ji {α:Type} {P:α->Prop} {x:α} (h:P x):∀ a∈[x],P a:=λ _ m=>(List.mem_singleton.mp m).symm▸h
theorem G1 {α:Type} {P:α->Prop} {x:α} {l:List α} (h:P x) (t:∀ a∈l,P a):∀ a∈x::l,P a:=λ a m=>(List.mem_cons.mp m).elim (λ e=>e.symm▸h) (t a)
theorem kn {α:Type} {P:α->Prop} {x y:α} (h:P x) (h2:P y):∀ a∈[x,y],P a:=G1 h (Ji h2)
theorem qu {α:Type} {P:α->Prop} {x y z:α} (h:P x) (h2:P y) (h3:P z):∀ a∈[x,y,z],P a:=G1 h (kn h2 h3)
theorem sI {α:Type _} {a:α} {motive:(b:α)->some a=some b->Prop} (refl:motive a rfl) {b:α} (h:some a=some b):motive b h:=by cases h; exact refl
theorem kR {α:Type} {a:α} {l:List α}:a∈a::l:=List.mem_cons_self
theorem ni {α:Type} {a b:α} {l:List α}:a∈b::a::l:=List.mem_cons_of_mem _ kR
theorem G2 {α:Type} {a b c:α} {l:List α}:a∈c::b::a::l:=List.mem_cons_of_mem _ ni
theorem Ko {α:Type} {a:α} {l r:List α}:a∈a::l++r:=List.mem_append_left _ kR
theorem Kp {α:Type} {a b:α} {l r:List α}:a∈b::a::l++r:=List.mem_append_left _ ni
theorem dS {α:Type} {l:List α}:l=l++[]:=(List.append_nil _).symm
end
end Mine
end
section
open PySem PySem.W PySem.Spec PySem.Calls PyProof.Rows PySem.SeqAt
namespace Mine
noncomputable section
section
variable {prog:Program} {w:World} {A:Around} {E:Value->Shared->Prop} {s:Shared} {K:Frag}
theorem jh (K:Frag):findCls K (.type "tuple") (.type "type") (PySem.Str.ofString "__new__")=some (.val (.builtin "tuple.__new__")):=by kernel_rfl
theorem ji {pl:Sem Bool} {Q:Value×List Value->Shared->Prop} (X:K.In s.heap) (h:Q (.builtin "tuple.__new__",[]) { s with toks:=s.toks+1 }) :
  wpAny (model prog w) A (getMethod (.type "tuple") (PySem.Str.ofString "__new__") pl) Q E s:=by
 have hstub:opaqueClassAbove (.type "tuple")=pure none:=by unfold opaqueClassAbove; dsimp only; rw [show Manifest.isStub "tuple" = false by decide +kernel]; rfl
 have ht:typeOf (.type "tuple")=pure (.type "type"):=by first | rfl | kernel_rfl
 have L0:Looks (model prog w) s.heap (typeOf (.type "tuple")) (.type "type"):=Looks.of_pure ht;have hg:findIn K (.type "type") "__getattribute__" = some (some (.builtin "type.__getattribute__")):=type_tga;unfold getMethod specialOf;refine wpAny_bind (wpAny_bind (L0.here ((looks_findIn X hg).here ?_)));dsimp only;rw [if_pos canon_tga];refine wpAny_bind (wpAny_mono (Q:=λ v=>Q (v,[])) (E:=E) ?_ (λ _ _ z=>wpAny_pure z) λ _ _ z=>z);have LO:Looks (model prog w) s.heap (opaqueClassAbove (.type "tuple")) none:=Looks.of_pure hstub;refine cls_open X LO L0 hg (looks_hook X (r:=none) (by rfl)) (by show subIn K _ _=_; rfl) (jh K) ?_
 exact wpAny_pure (handed_on rfl h)
end
structure AN (M:Model) (h:Heap) (C new:Addr):Prop where
 obj:∃ oc od cd sl,h.get? C=some ⟨oc,od,.cls cd,sl⟩∧cd.hasDel=false∧cd.abstract=false
 base:Looks M h (Bind.staticBase (.ref C)) (.type "tuple")
 made0:Looks M h (Bind.madeBy (.type "tuple")) (some "tuple.__new__")
 made:Looks M h (Bind.madeBy (.ref C)) none
 isty:Looks M h (isType (.ref C)) true
 sub:Looks M h (isSubtype (.ref C) (.type "tuple")) true
 obj0:Looks M h (isSubtype (.ref C) (.type "object")) true
 self:Looks M h (isSubtype (.ref C) (.ref C)) true
 here:Looks M h (Bind.madeHere "tuple.__new__" (.ref C)) ()
 init:Looks M h (typeLookup (.ref C) "__init__") (some (.builtin "object.__init__"))
 mro:∃ l,Looks M h (mroOf (.ref C)) l∧l.isEmpty=false
 call:Looks M h (specialOf (.ref C) "__call__") (some (.builtin "type.__call__"))
 typ:Looks M h (isInstance (.ref C) (.type "type")) true
theorem xN:plainId "tuple.__new__" = true:=by decide +kernel
theorem A7:builtinKind "tuple.__new__" = some .builtinFn:=by decide +kernel
theorem xO:splitId "tuple.__new__" = some ("tuple", "__new__"):=by decide +kernel
noncomputable abbrev Du:Manifest.Signature:=⟨.constructor, "tuple", "tuple",.cls,[⟨"iterable",.posOnly,false⟩]⟩
theorem Em:Manifest.signature? "tuple.__new__" = some Du:=by
 rw [signature?_of (id := "tuple.__new__") (n:=['_', '_', 'w', 'e', 'n', '_', '_']) (o:=['e', 'l', 'p', 'u', 't']) (by kernel_rfl) PySem.F.owner_tuple]; kernel_rfl
theorem A8 (C t:Addr):Bind.checkArgs "tuple.__new__" Du ⟨[.ref C,.ref t],[]⟩=pure ():=by kernel_rfl
section
variable {prog:Program} {w:World} {A:Around} {E:Value->Shared->Prop} {s:Shared} {K:Frag}
theorem nK {C t new:Addr} {items:Array Value} {n:Nat} {R:Result->Shared->Prop} (MO:AN (model prog w) s.heap C new)
  (ht:IsT s.heap t items n) (hz:items.size≤1000)
  (h:∀ (h':Heap) (a:Addr) (o:Obj),(∀ b o,s.heap.get? b=some o->h'.get? b=some o)->h'.get? a=some o->s.heap.get? a=none->o.cls=.ref C->o.data=.seq items 0->R (.ok (.ret (.ref a))) { s with heap:=h' }) :
  codeAny (model prog w) A (.call (.builtin "tuple.__new__") ⟨[.ref C,.ref t],[]⟩) R s:=by
 obtain ⟨hp,g,d,tk,os⟩:=s;obtain ⟨⟨oc,od,cd,sl,hC,e1,e2⟩,base,made0,made,isty,sub,obj0,self,here,init,mro,call,typ⟩:=MO;refine codeAny_call_builtin xN PySem.F.entry_tuple_new ?_;unfold checkBuiltinCall;rw [A7,xO,Em];dsimp only;rw [A8];repeat (first | with_reducible refine wpAny_collect_seq (T := "tuple") t (.inr rfl) ht rfl rfl (λ h' hk=>?_) (by unfold sizeLine; exact Nat.le_trans (by assumption) (by decide)) | lk)
 rw [if_neg (by rw [List.size_toArray,Array.length_toList]; unfold sizeLine; lia)]
 show wpAny _ _ (newObjAsIs _ _ _) _ _ _;unfold newObjAsIs classHasDel;refine wpAny_bind (wpAny_alloc (wpAny_bind (wpAny_bind (wpAny_load (Heap.get?_push_of_some _ (Heap.get?_push_of_some _ (hk _ _ hC))) (wpAny_pure ?_)))));rw [e1];refine wpAny_pure (wpAny_pure ?_);refine h _ _ _ (λ b o e=>Heap.get?_push_of_some _ (Heap.get?_push_of_some _ (hk _ _ e))) (Heap.get?_push_size _ rfl) ?_ rfl (by simp)
 cases q:hp.get? (h'.push { cls:=.type "dict",data:=.dict #[] }).objs.size with
 | none=>rfl
 | some o =>
  have:=Heap.lt_size (hk _ _ q);exact absurd this (Nat.not_lt.mpr (by rw [Heap.size_push]; exact Nat.le_succ _))
theorem G3 (x:Value) (rest:List Value):argsOk "object.__init__" ⟨x::rest,[]⟩:=by unfold argsOk; kernel_rfl
theorem qv {C new:Addr} {vals:List Value} {R:Result->Shared->Prop} (hv:vals≠[]) (MO:AN (model prog w) s.heap C new)
  (hn:∀ {A:Around} {Q:Value->Shared->Prop} {E:Value->Shared->Prop},(∀ tk,Q (.ref new) { s with toks:=tk })->wpAny (model prog w) A (getAttr (.ref C) "__new__") Q E s)
  (hc:∀ tk (R':Result->Shared->Prop),(∀ (a:Addr) (o:Obj) (h':Heap) tk gs,h'.get? a=some o->o.cls=.ref C->AN (model prog w) h' C new->R (.ok (.ret (.ref a))) { s with heap:=h',toks:=tk,gens:=gs } ->
   R' (.ok (.ret (.ref a))) { s with heap:=h',toks:=tk,gens:=gs })->codeAny (model prog w) (A.under (.builtin "type.__call__" ⟨.ref C::vals,[]⟩)) (.call (.ref new) ⟨.ref C::vals,[]⟩) R' { s with toks:=tk }) :
  codeAny (model prog w) A (.call (.ref C) ⟨vals,[]⟩) R s:=by
 obtain ⟨⟨oc,od,cd,sl,hC,e1,e2⟩,base,made0,made,isty,sub,obj0,self,here,init,⟨l,mro,e4⟩,call,typ⟩:=MO;obtain ⟨h,g,d,t,os⟩:=s;refine codeAny_of_tree ?_;show wpAny _ _ (callAny (.ref C) _) _ _ _;refine nd_load hC ?_;show wpAny _ _ (callAny.viaDunder (.ref C) _) _ _ _;unfold callAny.viaDunder;refine wpAny_bind (call.at ?_);dsimp only;rw [tc_bind];refine wpAny_bind (wpAny_pure (wpAny_bind (wpAny_pure ?_)));refine wpAny_pure (a:=Fin.again (.call (.builtin "type.__call__") ⟨.ref C::vals,[]⟩)) (And.intro rfl ?_);refine codeAny_call_builtin_at (Code.quiet_builtin _ (by decide +kernel)) entry_typeCall (check_slot tc_kind tc_split typ (tc_args _ _ _) ?_)
 unfold Builtin.«type.__call__»;repeat (first | with_reducible refine eR e4 ?_ | with_reducible refine eR rfl ?_ | with_reducible refine nJ rfl ?_ | with_reducible refine hn λ tk=>?_ | with_reducible refine wpAny_call ?_ | lk)
 refine hc _ _ λ a o h' tk' gs ho hcl hk hR=>?_;obtain ⟨_,_,_,m1,_,_,o1,s1,_,i1,_,_,_⟩:=hk;have t1:Looks (model prog w) h' (typeOf (.ref a)) (.ref C):=by
  refine (Looks.ld ho).andThen ?_;rw [hcl]; exact .now
 have b1:Looks (model prog w) h' (bindSpecial (.builtin "object.__init__") (.ref a)) (.builtin "object.__init__",[.ref a]):=Looks.of_pure (oi_bind (.ref a));dsimp only;unfold isInstance callSpecial? specialOf;repeat (first | with_reducible refine wpAny_call ?_ | lk)
 refine codeAny_call_builtin oi_plain entry_oi (check_slot oi_kind oi_split (t1.andThen o1) (G3 _ _) ?_);unfold Builtin.«object.__init__»;cases vals with
 | nil=>exact absurd rfl hv
 | cons v vs =>
  repeat lk
  exact hR
end
theorem AN.keeps {M:Model} {h h':Heap} {C new:Addr} (m:AN M h C new) (k:∀ b o,h.get? b=some o->h'.get? b=some o):AN M h' C new:=by
 obtain ⟨⟨oc,od,cd,sl,hC,e1,e2⟩,a1,a2,a3,a4,a5,a6,a7,a8,a9,⟨l,a10,a11⟩,a12,a13⟩:=m;exact ⟨⟨oc,od,cd,sl,k _ _ hC,e1,e2⟩,a1.keeps k,a2.keeps k,a3.keeps k,a4.keeps k,a5.keeps k,a6.keeps k,a7.keeps k,a8.keeps k,a9.keeps k,⟨l,a10.keeps k,a11⟩,a12.keeps k,a13.keeps k⟩
noncomputable def fT (h:Heap) (a:Addr) (items:Array Value):Prop:=∃ o,h.get? a=some o∧∃ n,o.data=.seq items n
theorem fT.at {h h':Heap} {a:Addr} {items:Array Value} (x:fT h a items) (k:∀ o,h.get? a=some o->h'.get? a=some o):fT h' a items:=let ⟨o,e,r⟩:=x; ⟨o,k _ e,r⟩
section
variable {prog:Program} {w:World} {A:Around} {E:Value->Shared->Prop} {s:Shared}
theorem xP {it t:Addr} {i:Nat} {items:Array Value} {Q:Option Value->Shared->Prop} (hit:s.heap.IsTupleIter it t i) (ht:fT s.heap t items) {P:Fin->Shared->Prop}
  (hs:∀ x,items[i]?=some x->∀ h',h'.IsTupleIter it t (i+1)->Heap.SameBut it s.heap h'->P (.done (.ret x)) { s with heap:=h' }) (hx:(items[i]?).isSome=true) :
  wpAny (model prog w) A (Builtin.«tuple_iterator.__next__» ⟨[.ref it],[]⟩) P E s:=by
 obtain ⟨o,ho,hc,hd⟩:=id hit;obtain ⟨ol,hol,nl,hdl⟩:=ht;obtain ⟨x,hx⟩:=Option.isSome_iff_exists.mp hx;show wpAny _ _ (field (.ref it) 0 >>= _) _ _ s;refine wpAny_bind (wpAny_field ho hd (x:=.ref t) rfl ?_);dsimp only;rw [if_neg (show ¬ ((Value.ref t == Value.none)=true) from Bool.false_ne_true)];refine wpAny_bind (wpAny_field ho hd (x:=.int i 0) rfl ?_);refine wpAny_bind (m:=seqItems? (.ref t)) (wpAny_seqItems hol hdl ?_);rw [Int.toNat_natCast];dsimp only;rw [hx];dsimp only;refine wpAny_bind (wpAny_setField ho hd (by simp) (wpAny_pure (hs x hx _ ?_ (Heap.SameBut.update ..))))
 exact ⟨_,Heap.get?_update_self _ ho (Obj.isFreed_of_fields (Obj.data_mapFields hd _)),(Obj.cls_mapFields ..).trans hc,by
  rw [Obj.data_mapFields hd]; simp [rawInt]⟩
theorem qw {it t:Addr} {i:Nat} {items:Array Value} {x:Value} {Q:Option Value->Shared->Prop} (hit:s.heap.IsTupleIter it t i) (ht:fT s.heap t items) (hx:items[i]?=some x)
  (hQ:∀ h',h'.IsTupleIter it t (i+1)->Heap.SameBut it s.heap h'->Q (some x) { s with heap:=h' }):wpAny (model prog w) A (pyNext (.ref it)) Q E s:=by
 unfold pyNext;refine wpAny_bind (wpAny_attempt (wpAny_callSpecial?_slot (name:=Str.ofString "__next__") hit.typeIs PySem.F.slot_tuple_iterator_next
  (wpAny_call_entry PySem.F.slot_tuple_iterator_next hit.typeIs PySem.F.entry_tuple_iterator_next (xP (Q:=λ _ _=>True) hit ht (λ y hy h' h1 h2=>?_) (by rw [hx]; rfl)) (PySem.F.args_tuple_iterator_next_1 _))))
 rw [hx] at hy;cases hy;exact ⟨x,rfl,wpAny_pure (hQ h' h1 h2)⟩
theorem A9 {it t:Addr} {i:Nat} {items:Array Value} {Q:Option Value->Shared->Prop} (hh:A.handled=none) (hit:s.heap.IsTupleIter it t i) (ht:fT s.heap t items) (hx:items[i]?=none)
  (hQ:∀ h',Heap.ExtBut it s.heap h'->Q none { s with heap:=h' }):wpAny (model prog w) A (pyNext (.ref it)) Q E s:=by
 obtain ⟨o,ho,hc,hd⟩:=id hit;obtain ⟨ol,hol,nl,hdl⟩:=ht;unfold pyNext;refine wpAny_bind (wpAny_attempt (wpAny_callSpecial?_slot (name:=Str.ofString "__next__") hit.typeIs PySem.F.slot_tuple_iterator_next
  (wpAny_call_entry PySem.F.slot_tuple_iterator_next hit.typeIs PySem.F.entry_tuple_iterator_next ?_ (PySem.F.args_tuple_iterator_next_1 _))))
 show wpAny _ _ (field (.ref it) 0 >>= _) _ _ s;refine wpAny_bind (wpAny_field ho hd (x:=.ref t) rfl ?_);dsimp only;rw [if_neg (show ¬ ((Value.ref t == Value.none)=true) from Bool.false_ne_true)];refine wpAny_bind (wpAny_field ho hd (x:=.int i 0) rfl ?_);refine wpAny_bind (m:=seqItems? (.ref t)) (wpAny_seqItems hol hdl ?_);rw [Int.toNat_natCast];dsimp only;rw [hx];dsimp only;refine wpAny_bind (wpAny_rule (wpAny_bind (wpAny_setField ho hd (by simp) ?_)))
 have hA:A.in1.handled=none:=hh;unfold Builtin.SmallTypes.stopIteration;refine wpAny_bind ?_;simp only [newExc,newTuple];refine wpAny_bind (wpAny_newObj_type ?_ (by size_fits))
 refine wpAny_bind (m:=firstArgMember _ _) (wpAny_of_eq (a:=Value.none) (by first | rfl | (simp only [firstArgMember]; rfl)) ?_)
 refine wpAny_newObj_type ?_ (by size_fits)
 delta raiseNew
 dsimp only;refine wpAny_bind (wpAny_handled ?_);rw [hA];refine wpAny_bind (wpAny_pure (wpAny_throw ?_));refine wpAny_bind (wpAny_isInstance (T := "StopIteration") (b:=true) ⟨_,Heap.get?_push_size _ rfl,rfl⟩ isSubtype_stop ?_);exact wpAny_pure (hQ _ (((Heap.SameBut.update ..).extBut.push _).push _))
theorem u5 (hh:A.handled=none) (J a:Addr) (hne:a≠J) (items:Array Value) :
  Walks prog w A J [J,a] [J] items.size (λ i v=>items[i]?=some v) (λ i h=>h.IsTupleIter J a i∧fT h a items) where
 sub:=λ b hb=>by simp at hb; simp [hb]
 frame:=λ _ _ _ st hk=>⟨st.1.at λ o e=>hk J (by simp) o e,st.2.at λ o e=>hk a (by simp) o e⟩
 item:=λ i s Q E hi st hQ=>by
  refine qw st.1 st.2 (x:=items[i]) (by simp [hi]) λ h' hit' hs'=>?_
  exact hQ _ h' s.toks (by simp [hi]) ⟨hit',st.2.at λ o e=>hs'.extBut _ o hne e⟩ λ b o hb e=>hs'.extBut b o (λ h=>hb (by simp [h])) e
 done:=λ s Q E st hQ=>A9 hh st.1 st.2 (by simp) λ h' he'=>hQ h' s.toks λ b o hb e=>he' b o (λ h=>hb (by simp [h])) e
 self:=λ _ _ _ _ st hQ=>wpAny_pyIter_tupleiter st.1 hQ
end
structure iN (M:Model) (h:Heap) (C:Addr):Prop where
 iter:Looks M h (typeLookup (.ref C) "__iter__") (some (.builtin "tuple.__iter__"))
 len:Looks M h (typeLookup (.ref C) "__len__") (some (.builtin "tuple.__len__"))
 sub:Looks M h (isSubtype (.ref C) (.type "tuple")) true
theorem iN.keeps {M:Model} {h h':Heap} {C:Addr} (x:iN M h C) (k:∀ b o,h.get? b=some o->h'.get? b=some o):iN M h' C:=⟨x.iter.keeps k,x.len.keeps k,x.sub.keeps k⟩
theorem Ba:builtinKind "tuple.__len__" = some .slot:=by decide +kernel
theorem nL:splitId "tuple.__len__" = some ("tuple", "__len__"):=by decide +kernel
theorem Bb:builtinKind "tuple.__iter__" = some .slot:=by decide +kernel
theorem xQ:splitId "tuple.__iter__" = some ("tuple", "__iter__"):=by decide +kernel
section
variable {prog:Program} {w:World} {A:Around} {E:Value->Shared->Prop} {s:Shared}
theorem xR {C m:Addr} {o:Obj} {Q:Value->Shared->Prop} (IO:iN (model prog w) s.heap C) (hm:s.heap.get? m=some o) (hc:o.cls=.ref C)
  (h:Q (.ref s.heap.objs.size) { s with heap:=s.heap.push { cls:=.type "tuple_iterator",data:=.fields #[.ref m,.int 0 0] } }):wpAny (model prog w) A (pyIter (.ref m)) Q E s:=by
 obtain ⟨hp,g,d,tk,os⟩:=s;obtain ⟨f1,f2,f3⟩:=IO;have t1:Looks (model prog w) hp (typeOf (.ref m)) (.ref C):=by
  refine (Looks.ld hm).andThen ?_;rw [hc]; exact .now
 have b1:Looks (model prog w) hp (bindSpecial (.builtin "tuple.__iter__") (.ref m)) (.builtin "tuple.__iter__",[.ref m]):=Looks.of_pure (PySem.F.slot_tuple_iter.bind (.ref m));unfold pyIter specialOf callSpecialIfBoundUnlessNone?;repeat (first | with_reducible refine wpAny_call ?_ | lk)
 rw [show bindSpecial (.builtin "tuple.__iter__") (.ref m)=pure (.builtin "tuple.__iter__",[.ref m]) from PySem.F.slot_tuple_iter.bind (.ref m)];have tail:∀ {P:Option Value->Shared->Prop},P (some (.ref hp.objs.size)) ⟨hp.push { cls:=.type "tuple_iterator",data:=.fields #[.ref m,.int 0 0] },g,d,tk,os⟩ ->
   wpAny (model prog w) A (call (.builtin "tuple.__iter__") [.ref m] >>= λ r=>pure (some r)) P E ⟨hp,g,d,tk,os⟩:=λ hP=>by
  refine wpAny_bind (wpAny_call ?_);refine codeAny_call_builtin PySem.F.slot_tuple_iter.plain PySem.F.entry_tuple_iter (check_slot Bb xQ (t1.andThen f3) (PySem.F.args_tuple_iter_1 _) ?_);show wpAny _ _ (do ret (<-newFields "tuple_iterator" [.ref m,rawInt 0])) _ _ _
  exact wpAny_bind (wpAny_newObj_type (wpAny_pure (wpAny_pure hP)))
 have nx:Looks (model prog w) (hp.push { cls:=.type "tuple_iterator",data:=.fields #[.ref m,.int 0 0] }) (do let t <-typeOf (.ref hp.objs.size); typeLookup t "__next__") (some (.builtin "tuple_iterator.__next__")):=by
  refine ((Looks.ld (Heap.get?_push_size _ rfl)).andThen .now).andThen (Looks.of_pure PySem.F.slot_tuple_iterator_next.lookup)
 split
 ·refine wpAny_bind (wpAny_pure (wpAny_pure ?_));dsimp only;rw [if_neg (by decide)]
  refine tail ?_;dsimp only;exact wpAny_bind (nx.here (wpAny_pure h))
 ·refine wpAny_tryCatch (wpAny_bind (wpAny_pure (wpAny_pure ?_)));dsimp only;rw [if_neg (by decide)]
  refine tail ?_;dsimp only;exact wpAny_bind (nx.here (wpAny_pure h))
theorem Bc {C m:Addr} {o:Obj} {items:Array Value} {n:Nat} {Q:Value->Shared->Prop} (IO:iN (model prog w) s.heap C) (hm:s.heap.get? m=some o) (hc:o.cls=.ref C) (hd:o.data=.seq items n) (hz:items.size≤1000)
  (h:∀ tk tk',Q (.int items.size tk) { s with toks:=tk' }):wpAny (model prog w) A (call (.builtin "len") [.ref m]) Q E s:=by
 obtain ⟨hp,g,d,tk,os⟩:=s;obtain ⟨f1,f2,f3⟩:=IO;have t1:Looks (model prog w) hp (typeOf (.ref m)) (.ref C):=by
  refine (Looks.ld hm).andThen ?_;rw [hc]; exact .now
 refine Calls.call_function_entry kind_len plain_len entry_len (args_len1 _) ?_;unfold Builtin.«len»;refine wpAny_bind (m:=oneArg "len" _) (wpAny_pure ?_);unfold callSpecial? specialOf;have b1:Looks (model prog w) hp (bindSpecial (.builtin "tuple.__len__") (.ref m)) (.builtin "tuple.__len__",[.ref m]):=Looks.of_pure (PySem.F.slot_tuple_len.bind (.ref m));repeat (first | with_reducible refine wpAny_call ?_ | lk)
 refine codeAny_call_builtin PySem.F.slot_tuple_len.plain PySem.F.entry_tuple_len (check_slot Ba nL (t1.andThen f3) (PySem.F.args_tuple_len_1 _) ?_);unfold Builtin.«tuple.__len__»;refine wpAny_bind (m:=slotArgs "__len__" 0 _) (wpAny_of_eq (a:=(Value.ref m,[])) (by first | rfl | kernel_rfl) ?_)
 dsimp only;unfold Builtin.Tuple.tupleItemsOf;refine wpAny_bind (wpAny_bind (wpAny_seqItems hm hd ?_));refine wpAny_pure ?_;unfold retInt;refine wpAny_bind (wpAny_mkInt (wpAny_pure ?_));refine wpAny_pure ?_;dsimp only;refine wpAny_bind (wpAny_holding (wpAny_pure ?_));refine wpAny_bind (wpAny_letGo ?_);rw [if_neg (show ¬ (items.size:Int) < 0 by simp [*])]
 show wpAny _ _ (if (items.size:Int) ≥ 2 ^ 63 then _ else _) _ _ _
 rw [if_neg (show ¬ (items.size:Int) ≥ 2 ^ 63 by lia)]
 exact wpAny_bind (wpAny_mkInt (wpAny_pure ⟨_,rfl,h _ _⟩))
theorem xS {C m:Addr} {o:Obj} {items:Array Value} {n:Nat} {Q:Bool->Shared->Prop} (IO:iN (model prog w) s.heap C) (hm:s.heap.get? m=some o) (hc:o.cls=.ref C) (hd:o.data=.seq items n) (hz:items.size≤1000)
  (h:∀ b tk',Q b { s with toks:=tk' }):wpAny (model prog w) A (Builtin.List.listLengthHint (.ref m)) Q E s:=by
 obtain ⟨hp,g,d,tk,os⟩:=s;have IO':=IO;obtain ⟨f1,f2,f3⟩:=IO;have t1:Looks (model prog w) hp (typeOf (.ref m)) (.ref C):=by
  refine (Looks.ld hm).andThen ?_;rw [hc]; exact .now
 unfold Builtin.List.listLengthHint specialOf;refine wpAny_bind (wpAny_bind (t1.here (f2.here ?_)));dsimp only;rw [nL];dsimp only;refine wpAny_bind ((t1.andThen f3).here ?_);rw [if_neg (by decide)]
 rw [if_pos (by decide +kernel)]
 refine wpAny_bind (t1.here ?_);dsimp only;refine wpAny_bind (Bc IO' hm hc hd hz λ tk1 tk2=>?_);refine wpAny_bind (m:=asInt? _) (wpAny_pure ?_);exact wpAny_pure (h _ _)
theorem nM {C m:Addr} {o:Obj} {items:Array Value} {n:Nat} {Q:List Value->Shared->Prop} (hA:A.handled=none) (IO:iN (model prog w) s.heap C) (hm:s.heap.get? m=some o) (hc:o.cls=.ref C) (hd:o.data=.seq items n) (hz:items.size≤1000)
  (hQ:∀ h' tk,(∀ b o,s.heap.get? b=some o->h'.get? b=some o)->Q items.toList { s with heap:=h',toks:=tk }):wpAny (model prog w) A (collect (.ref m)) Q E s:=by
 have t0:∀ {h:Heap},h.get? m=some o->Looks (model prog w) h (typeOf (.ref m)) (.ref C):=λ hm=>by
  refine (Looks.ld hm).andThen ?_;rw [hc]; exact .now
 unfold collect;refine wpAny_bind (wpAny_runValue (codeAny_builtin PySem.F.entry_proto_collect ?_));rw [Around.under_plainId PySem.F.plain_proto_collect _];show wpAny _ A.in1 (newList [] >>= λ l=>again (.builtin "list.__iadd__" ⟨[l,.ref m],[]⟩)) _ _ s;refine wpAny_bind (wpAny_newObj_type ?_);refine wpAny_pure ⟨plainId_quiet PySem.F.plain_list_iadd _,codeAny_builtin PySem.F.entry_list_iadd ?_⟩;rw [Around.under_plainId PySem.F.plain_list_iadd _];have hm1:(s.heap.push { cls:=.type "list",data:=.seq ([]:List Value).toArray }).get? m=some o:=Heap.get?_push_of_some _ hm;have IO1:iN (model prog w) (s.heap.push { cls:=.type "list",data:=.seq ([]:List Value).toArray }) C:=IO.keeps λ b o e=>Heap.get?_push_of_some _ e;have h1:Builtin.List.listSameRef (.ref s.heap.objs.size) (.ref m)=false:=by
  have:=bd hm;simp [Builtin.List.listSameRef]; exact λ e=>this e.symm
 show wpAny _ A.in1 (Builtin.List.listExtendWith (.ref s.heap.objs.size) (.ref m) (.ref s.heap.objs.size)) _ _ _;unfold Builtin.List.listExtendWith;refine wpAny_bind ((t0 hm1).here ?_);rw [if_neg (by rw [h1]; simp)]
 refine wpAny_bind (xR IO1 hm1 hc ?_);refine wpAny_bind (wpAny_holding (xS (IO1.keeps λ b o e=>Heap.get?_push_of_some _ e) (Heap.get?_push_of_some _ hm1) hc hd hz λ b tk'=>?_));dsimp only;have hSm:s.heap.objs.size≠m:=λ e=>bd hm e.symm;have hS1:(s.heap.push { cls:=.type "list",data:=.seq ([]:List Value).toArray }).get? s.heap.objs.size=some { cls:=.type "list",data:=.seq ([]:List Value).toArray }:=Heap.get?_push_size _ rfl;generalize hh1:s.heap.push { cls:=.type "list",data:=.seq ([]:List Value).toArray }=H1 at *
 have kp1:∀ b o,s.heap.get? b=some o->H1.get? b=some o:=λ b o e=>by rw [<-hh1]; exact Heap.get?_push_of_some _ e
 have hsz1:H1.objs.size=s.heap.objs.size+1:=by rw [<-hh1,Heap.size_push]
 have loop:∀ (h2:Heap) (tk2:Nat) (c:Nat),h2.get? s.heap.objs.size=some { cls:=.type "list",data:=.seq #[] c }->(∀ b o,b≠s.heap.objs.size->(H1.push { cls:=.type "tuple_iterator",data:=.fields #[.ref m,.int 0 0] }).get? b=some o->h2.get? b=some o) ->
   codeAny (model prog w) A (.builtin "list.extend.loop" ⟨[.ref s.heap.objs.size,.ref H1.objs.size,.ref s.heap.objs.size],[]⟩) (λ r s'=>match r with
    | .ok (.ret v)=>wpAny (model prog w) A (match v with
     | .ref a=>do match (<-load a).data with
      | .seq xs _=>pure xs.toList
      | _=>unsupported "internal:collect"
     | _=>unsupported "internal:collect") Q E s'
    | .ok _=>False
    | .error e=>E e s') { s with heap:=h2,toks:=tk2 }:=λ h2 tk2 c hS hk=>by
  have hJm:m≠H1.objs.size:=bd hm1;have W:=(u5 (prog:=prog) (w:=w) (A:=A.in1) hA H1.objs.size m hJm items).toS;refine codeAny_extend_loopS W (by unfold sizeLine; exact Nat.le_trans (by assumption) (by decide)) _ (λ hmem=>by
   rcases List.mem_cons.mp hmem with e | e
   ·rw [hsz1] at e; exact absurd e (Nat.ne_of_lt (Nat.lt_succ_self _))
   ·exact hSm (List.mem_singleton.mp e)) _ items.size 0 _ #[] c (by simp [*]) (Nat.zero_le _) ?_ hS (ItemsOf.nil _) λ s' acc' c' hmv hS' hacc=>?_
  ·exact ⟨⟨_,hk H1.objs.size _ (by rw [hsz1]; exact Nat.succ_ne_self _) (Heap.get?_push_size _ rfl),rfl,rfl⟩,⟨o,hk m _ (Ne.symm hSm) (Heap.get?_push_of_some _ hm1),n,hd⟩⟩
  ·dsimp only;have eacc:acc'=items:=by
    refine Array.ext_getElem? λ j=>?_;by_cases hj:j < items.size
    ·have hj':j < acc'.size:=by rw [hacc.1]; exact hj
     have:=hacc.2 j _ (Array.getElem?_eq_getElem hj');rw [this,Array.getElem?_eq_getElem hj']
    ·rw [Array.getElem?_eq_none (show acc'.size≤j by rw [hacc.1]; simp_all),Array.getElem?_eq_none (show items.size≤j by simp_all)]
   subst eacc;refine wpAny_bind (wpAny_load hS' (wpAny_pure ?_));obtain ⟨hp',g',d',tk',os'⟩:=s';obtain ⟨q1,q2,q3,q4,q5⟩:=hmv;dsimp only at q2 q3 q4;subst q2 q3 q4;refine hQ hp' tk' λ b ob e=>q1 b ob (λ hmem=>?_) (hk b ob (bd e) (Heap.get?_push_of_some _ (kp1 b ob e)));rcases List.mem_cons.mp hmem with e' | e'
   ·exact bd e e'
   ·exact bd (kp1 b ob e) (List.mem_singleton.mp e')
 have hS2:(H1.push { cls:=.type "tuple_iterator",data:=.fields #[.ref m,.int 0 0] }).get? s.heap.objs.size=some { cls:=.type "list",data:=.seq #[] 0 }:=Heap.get?_push_of_some _ hS1;split
 ·refine wpAny_bind (wpAny_rule (wpAny_bind ?_));unfold Builtin.List.listTouch Builtin.List.listUpdate;refine wpAny_bind (wpAny_updateSeq hS2 rfl ?_);have hS3:=Heap.get?_update_self (Obj.mapSeq (·.push Value.none)) hS2 (by simp [Obj.mapSeq]; rfl)
  refine wpAny_updateSeq hS3 rfl ?_;have hS4:=Heap.get?_update_self (Obj.mapSeq (·.pop)) hS3 (by simp [Obj.mapSeq]; rfl)
  refine wpAny_pure ⟨plainId_quiet PySem.F.plain_extend_loop _,loop _ _ 2 (by rw [hS4]; simp [Obj.mapSeq]) λ b o hb e=>?_⟩
  rw [Heap.get?_update_ne _ _ _ _ hb,Heap.get?_update_ne _ _ _ _ hb]; exact e
 ·exact wpAny_pure ⟨plainId_quiet PySem.F.plain_extend_loop _,loop _ _ 0 hS2 λ b o hb e=>e⟩
end
section
open Sem (wp)
noncomputable abbrev eI (id:String) (self:Value):Obj:={ cls:=.type "builtin_function_or_method",data:=.fields #[.builtin id,self] }
theorem lL:typeLookup (.type "method_descriptor") "__get__" = pure (some (.builtin "method_descriptor.__get__")):=by rw [typeLookup_type,builtinLookup_eq_fast]; kernel_rfl
theorem qx:typeLookup (.type "method_descriptor") "__set__" = pure none:=by rw [typeLookup_type,builtinLookup_eq_fast]; kernel_rfl
theorem qy:typeLookup (.type "method_descriptor") "__delete__" = pure none:=by rw [typeLookup_type,builtinLookup_eq_fast]; kernel_rfl
theorem fz:Slot "method_descriptor" "__get__" "method_descriptor.__get__" :=
 .of (owner := "method_descriptor") (n := "__get__") lL (by decide +kernel) (by decide +kernel) (by decide +kernel)
  (by first | exact .inl (by decide +kernel) | exact .inr (by decide +kernel)) (by rw [isSubtype_type]; kernel_rfl)
theorem jk:entryFor table "method_descriptor.__get__" = some Builtin.«method_descriptor.__get__» := entryFor_of_tree (by kernel_rfl)
theorem lM (a b c:Value):argsOk "method_descriptor.__get__" ⟨[a,b,c],[]⟩:=by unfold argsOk; kernel_rfl
theorem nN (a:Addr):Builtin.«method_descriptor.__get__» ⟨[.builtin "dict.get",.ref a,.type "dict"],[]⟩ =
 ((isInstance (.ref a) (.type "dict") >>= λ b=>if (!b)=true then (do
  rule "descr.get.wrong-instance"
  raiseError "TypeError" s!"descriptor '{("get" : Str).toString}' for '{← typeName (.type "dict")}' objects doesn't apply to a '{← typeNameOf (.ref a)}' object") else pure ()) >>= λ _=>newFields "builtin_function_or_method" [.builtin "dict.get",.ref a] >>= λ v=>ret v):=by kernel_rfl
theorem kq:isSubtype (.type "dict") (.type "dict")=pure true:=by rw [isSubtype_type]; kernel_rfl
theorem kr:entryFor table "dict.__getattribute__" = some Builtin.«object.__getattribute__» :=
 entryFor_alias (id' := "object.__getattribute__") (by kernel_rfl) (by decide +kernel) (by decide +kernel) (by kernel_rfl)
theorem lN:typeLookup (.type "dict") "__getattr__" = pure none:=by rw [typeLookup_type,builtinLookup_eq_fast]; kernel_rfl
theorem gR (a:Addr) (es:Array DictEntry) (k:Nat) (u:Tok) :
  Meets (Builtin.«object.__getattribute__» ⟨[.ref a,.str "get" u],[]⟩) (λ A R s=>s.heap.get? a=some { cls:=.type "dict",data:=.dict es k }∧R (.ok (.ret (.ref s.heap.objs.size))) { s with heap:=s.heap.push (eI "dict.get" (.ref a)) }) :=
 Meets.of_wp λ prog w A R s hs=>by
  obtain ⟨hp,g,d,tk,os⟩:=s;obtain ⟨hx,hs⟩:=hs;have hT:(⟨hp,g,d,tk,os⟩:Shared).TypeIs (.ref a) "dict" := ⟨_,hx,rfl⟩;have f1:=PySem.F.slot_dict_get.lookup;have f2:=PySem.F.type_dict_get;have f3:=lL;have f4:=qx;have f5:=qy;have f6:=kq;unfold Builtin.«object.__getattribute__»;repeat (any_goals (first | assumption | wp_step))
  refine codeAny_call_builtin fz.plain jk (fz.check _ _ _ _ _ _ _ _ f2 (lM _ _ _) ?_);rw [nN];repeat (any_goals (first | assumption | wp_step))
  exact ⟨_,rfl,hs⟩
theorem fU {prog:Program} {w:World} {A:Around} {E:Value->Shared->Prop} {s:Shared} {a:Addr} {es:Array DictEntry} {k:Nat} {Q:Value->Shared->Prop}
  (hx:s.heap.get? a=some { cls:=.type "dict",data:=.dict es k }) (h:Q (.ref s.heap.objs.size) { s with heap:=s.heap.push (eI "dict.get" (.ref a)),toks:=s.toks+1 }) :
  wpAny (model prog w) A (getAttr (.ref a) "get" true) Q E s:=by
 obtain ⟨hp,g,d,tk,os⟩:=s;have hT:∀ tk',(⟨hp,g,d,tk',os⟩:Shared).TypeIs (.ref a) "dict" := λ _=>⟨_,hx,rfl⟩;have f3:=PySem.F.slot_dict_getattribute.lookup;have f4:=PySem.F.slot_dict_getattribute.bind (.ref a);have f5:=lN;unfold getAttr getAttrBy;repeat (any_goals (first | assumption | exact hT _ | ((with_reducible show wpAny _ _ (call (Value.builtin "dict.__getattribute__") _ _) _ _ _); refine call_meets PySem.F.slot_dict_getattribute (hT _) kr (PySem.F.args_dict_getattribute_2 _ _) (gR a es k _) ⟨hx,?_⟩) | wp_step))
 exact handed_on rfl h
theorem qz (a:Addr):Builtin.«method_descriptor.__get__» ⟨[.builtin "set.__contains__",.ref a,.type "set"],[]⟩ =
 ((isInstance (.ref a) (.type "set") >>= λ b=>if (!b)=true then (do
  rule "descr.get.wrong-instance"
  raiseError "TypeError" s!"descriptor '{("__contains__" : Str).toString}' for '{← typeName (.type "set")}' objects doesn't apply to a '{← typeNameOf (.ref a)}' object") else pure ()) >>= λ _=>newFields "builtin_function_or_method" [.builtin "set.__contains__",.ref a] >>= λ v=>ret v):=by kernel_rfl
theorem lO:isSubtype (.type "set") (.type "set")=pure true:=by rw [isSubtype_type]; kernel_rfl
theorem lP:entryFor table "set.__getattribute__" = some Builtin.«object.__getattribute__» :=
 entryFor_alias (id' := "object.__getattribute__") (by kernel_rfl) (by decide +kernel) (by decide +kernel) (by kernel_rfl)
theorem nP:typeLookup (.type "set") "__getattr__" = pure none:=by rw [typeLookup_type,builtinLookup_eq_fast]; kernel_rfl
theorem iO (a:Addr) (led:Bool) (u:Tok) :
  Meets (Builtin.«object.__getattribute__» ⟨[.ref a,.str "__contains__" u],[]⟩) (λ A R s=>s.heap.get? a=some { cls:=.type "set",data:=.set #[] 0 (.fresh 0 0 led) }∧R (.ok (.ret (.ref s.heap.objs.size))) { s with heap:=s.heap.push (eI "set.__contains__" (.ref a)) }) :=
 Meets.of_wp λ prog w A R s hs=>by
  obtain ⟨hp,g,d,tk,os⟩:=s;obtain ⟨hx,hs⟩:=hs;have hT:(⟨hp,g,d,tk,os⟩:Shared).TypeIs (.ref a) "set" := ⟨_,hx,rfl⟩;have f1:=PySem.F.slot_set_contains.lookup;have f2:=PySem.F.type_set_contains;have f3:=lL;have f4:=qx;have f5:=qy;have f6:=lO;unfold Builtin.«object.__getattribute__»;repeat (any_goals (first | assumption | wp_step))
  refine codeAny_call_builtin fz.plain jk (fz.check _ _ _ _ _ _ _ _ f2 (lM _ _ _) ?_);rw [qz];repeat (any_goals (first | assumption | wp_step))
  exact ⟨_,rfl,hs⟩
theorem gj {prog:Program} {w:World} {A:Around} {E:Value->Shared->Prop} {s:Shared} {a:Addr} {led:Bool} {Q:Value->Shared->Prop}
  (hx:s.heap.get? a=some { cls:=.type "set",data:=.set #[] 0 (.fresh 0 0 led) }) (h:Q (.ref s.heap.objs.size) { s with heap:=s.heap.push (eI "set.__contains__" (.ref a)),toks:=s.toks+1 }) :
  wpAny (model prog w) A (getAttr (.ref a) "__contains__" true) Q E s:=by
 obtain ⟨hp,g,d,tk,os⟩:=s;have hT:∀ tk',(⟨hp,g,d,tk',os⟩:Shared).TypeIs (.ref a) "set" := λ _=>⟨_,hx,rfl⟩;have f3:=PySem.F.slot_set_getattribute.lookup;have f4:=PySem.F.slot_set_getattribute.bind (.ref a);have f5:=nP;unfold getAttr getAttrBy;repeat (any_goals (first | assumption | exact hT _ | ((with_reducible show wpAny _ _ (call (Value.builtin "set.__getattribute__") _ _) _ _ _); refine call_meets PySem.F.slot_set_getattribute (hT _) lP (PySem.F.args_set_getattribute_2 _ _) (iO a led _) ⟨hx,?_⟩) | wp_step))
 exact handed_on rfl h
end
section
open Sem (wp)
theorem xT:Manifest.signature? "dict.get" = some ⟨.positional, "dict.get", "get",.self,[⟨"key",.posOnly,true⟩,⟨"default",.posOnly,false⟩]⟩:=by
 rw [signature?_of (id := "dict.get") (n:=['t', 'e', 'g']) (o:=['t', 'c', 'i', 'd']) (by kernel_rfl) PySem.F.owner_dict]; kernel_rfl
theorem u6:builtinKind "dict.get" = some .method:=by decide +kernel
theorem lQ:isSubtype (.type "dict") (.type "module")=pure false:=by rw [isSubtype_type]; kernel_rfl
theorem xU {M:Model} {A:Around} {E:Value->Shared->Prop} {s:Shared} {d:Addr} {x y:Value} {es:Array DictEntry} {k:Nat} {Q:Unit->Shared->Prop} (hx:s.heap.get? d=some { cls:=.type "dict",data:=.dict es k }) (h:Q () s) :
  wpAny M A (checkBoundCall "dict.get" ⟨[.ref d,x,y],[]⟩) Q E s:=by
 obtain ⟨hp,g,dr,tk,os⟩:=s;have hT:(⟨hp,g,dr,tk,os⟩:Shared).TypeIs (.ref d) "dict" := ⟨_,hx,rfl⟩;have f1:=lQ;unfold checkBoundCall;rw [xT,u6];dsimp only;rw [if_neg (by decide)]
 repeat (any_goals (first | assumption | wp_step))
theorem Bd:Manifest.signature? "set.__contains__" = some ⟨.oneArg, "set.__contains__", "__contains__",.self,[⟨"object",.posOnly,true⟩]⟩:=by
 rw [signature?_of (id := "set.__contains__") (n:=['_', '_', 's', 'n', 'i', 'a', 't', 'n', 'o', 'c', '_', '_']) (o:=['t', 'e', 's']) (by kernel_rfl) PySem.F.owner_set]; kernel_rfl
theorem xV:builtinKind "set.__contains__" = some .method:=by decide +kernel
theorem nQ:isSubtype (.type "set") (.type "module")=pure false:=by rw [isSubtype_type]; kernel_rfl
theorem Be {M:Model} {A:Around} {E:Value->Shared->Prop} {s:Shared} {d:Addr} {x:Value} {led:Bool} {Q:Unit->Shared->Prop} (hx:s.heap.get? d=some { cls:=.type "set",data:=.set #[] 0 (.fresh 0 0 led) }) (h:Q () s) :
  wpAny M A (checkBoundCall "set.__contains__" ⟨[.ref d,x],[]⟩) Q E s:=by
 obtain ⟨hp,g,dr,tk,os⟩:=s;have hT:(⟨hp,g,dr,tk,os⟩:Shared).TypeIs (.ref d) "set" := ⟨_,hx,rfl⟩;have f1:=nQ;unfold checkBoundCall;rw [Bd,xV];dsimp only;rw [if_neg (by decide)]
 repeat (any_goals (first | assumption | wp_step))
section
variable {prog:Program} {w:World} {A:Around} {R:Result->Shared->Prop} {s:Shared}
theorem gk {q:Addr} {id:String} {self:Value} {args:List Value} {B:Builtin} (hq:s.heap.get? q=some (eI id self)) (hp:plainId id=true) (hb:entryFor table id=some B)
  (hc:∀ {A:Around} {Q:Unit->Shared->Prop} {E:Value->Shared->Prop},Q () s->wpAny (model prog w) A (checkBoundCall id ⟨self::args,[]⟩) Q E s)
  (h:wpAny (model prog w) A.in1 (B ⟨self::args,[]⟩) (λ fin s'=>match fin with | .done f=>R (.ok f) s' | .again c'=>c'.quiet=true∧codeAny (model prog w) A c' R s') (λ e s'=>R (.error e) s') s) :
  codeAny (model prog w) A (.call (.ref q) ⟨args,[]⟩) R s:=by
 refine codeAny_of_tree ?_;show wpAny _ A.in1 (callAny (.ref q) ⟨args,[]⟩) _ _ s;delta callAny;dsimp only;refine wpAny_bind (wpAny_load hq ?_);dsimp only;rw [if_pos (by decide)]
 refine wpAny_bind (hc (wpAny_pure ⟨plainId_quiet hp _,codeAny_builtin hb ?_⟩));rw [Around.under_plainId hp];exact h
end
end
end
end Mine
end
section
open PySem PySem.W PySem.Spec PySem.Calls PyProof.Rows
namespace Mine
noncomputable section
section
inductive AC where
 | lit (n:Nat) | at (k:Nat)
 deriving DecidableEq
noncomputable abbrev AS:=List AC
noncomputable def fV (s:Str):AS:=s.cps.toList.map .lit
structure lR where
 ps:List Str
 body:Expr
 scope:Scope
 cels:List (Str×Nat)
inductive V where
 | none | bool (b:Bool) | int (i:Int) | str (s:AS) | lin | val (v:Value)
 | eset | ref (i:Nat) | tup (l:List V) | lst (l:List V) | mat (C:Addr) (l:List V) | inst (C:Addr) (d:Nat) | bm (id:String) (x:V) | rng (a b:Int) | clo (c:lR) | iat (k:Nat) | scr | pos (off:Nat) (ch:AS) (e:Bool) | pend | obj | edq | fnc
inductive O where
 | list (l:List V)
 | fld (l:List (Str×V))
 | smap (l:List (AS×V))
 | imap (l:List (Int×V))
 | dnil
 | cell (v:Option V)
 | tab (l:List Pos)
 | tabF (q:Str)
 | tabT
 | acc (l:List V)
structure xW where
 R:Array GenState->Array GenState->Prop
 rf:∀ g,R g g
 tr:∀ {a b c},R a b->R b c->R a c
noncomputable def xW.bare:xW:=⟨λ a b=>AllBare a->AllBare b,λ _ h=>h,λ h k b=>k (h b)⟩
noncomputable def xW.eq:xW:=⟨λ a b=>b=a,λ _=>rfl,λ h k=>k.trans h⟩
structure aZ where
 θ:Nat->Nat
 line:Str
 zs:Nat->Int
 scr:List Int
 base:Nat
 pre:List V
 gr:xW
 fx:List (Nat×Addr)
noncomputable def AC.den (I:aZ):AC->Nat
 | .lit n=>n
 | .at k=>I.θ k
def den (I:aZ) (s:AS):Str:=⟨(s.map (AC.den I)).toArray⟩
theorem Bf (I:aZ) (s:Str):den I (fV s)=s:=by
 obtain ⟨a⟩:=s;unfold den fV;rw [List.map_map];have:(AC.den I∘AC.lit)=id:=rfl;rw [this,List.map_id]
noncomputable abbrev ay (hid ρ:List Addr) (h:Heap):Addr->Obj->Prop:=λ a o=>h.get? a=some o∧a∉hid∧a∉ρ
inductive be:Value->Prop
 | none:be .none
inductive cC:Bool->Value->Prop
 | bool (b:Bool):cC b (.bool b)
inductive aH:Int->Value->Prop
 | int (i:Int) (t:Tok):aH i (.int i t)
inductive aG (I:aZ):AS->Value->Prop
 | str (x:AS) (t:Tok):aG I x (.str (den I x) t)
inductive du (I:aZ):Value->Prop
 | lin (t:Tok):du I (.str I.line t)
inductive aK:Value->Value->Prop
 | val (v:Value):aK v v
inductive bV (ρ:List Addr):Nat->Value->Prop
 | ref {i:Nat} {a:Addr}:ρ[i]?=some a->bV ρ i (.ref a)
inductive d9 (S:Addr->Obj->Prop):Value->Prop
 | eset {a:Addr} {led:Bool}:S a { cls:=.type "set",dict:=none,data:=.set #[] 0 (.fresh 0 0 led) }->d9 S (.ref a)
inductive cM (S:Addr->Obj->Prop) (W:List Value->Prop):Value->Prop
 | tup {a:Addr} {items:Array Value} {n:Nat}:S a { cls:=.type "tuple",data:=.seq items n }->W items.toList->cM S W (.ref a)
inductive dw (S:Addr->Obj->Prop) (W:List Value->Prop):Value->Prop
 | lst {a:Addr} {items:Array Value} {n:Nat}:S a { cls:=.type "list",data:=.seq items n }->W items.toList->dw S W (.ref a)
inductive ii (S:Addr->Obj->Prop) (W:List Value->Prop) (C:Addr):Value->Prop
 | mat {a:Addr} {o:Obj} {items:Array Value} {n:Nat}:S a o->o.cls=.ref C->o.data=.seq items n->W items.toList->ii S W C (.ref a)
inductive ec (S:Addr->Obj->Prop) (ρ:List Addr) (C:Addr) (d:Nat):Value->Prop
 | inst {a dx:Addr}:S a (instObj C dx)->ρ[d]?=some dx->ec S ρ C d (.ref a)
inductive jl (S:Addr->Obj->Prop) (U:Value->Prop) (id:String):Value->Prop
 | bm {a:Addr} {y:Value}:S a { cls:=.type "builtin_function_or_method",data:=.fields #[.builtin id,y] }->U y->jl S U id (.ref a)
inductive ij (S:Addr->Obj->Prop) (a b:Int):Value->Prop
 | rng {c:Addr} {t u v:Tok}:S c { cls:=.type "range",data:=.fields #[.int a t,.int b u,.int 1 v] }->ij S a b (.ref c)
inductive fL (I:aZ):Nat->Value->Prop
 | iat (k:Nat) (t:Tok):fL I k (.int (I.zs k) t)
inductive dc (I:aZ) (off:Nat) (ch:AS) (e:Bool):Value->Prop
 | pos (t:Tok):I.base+off≤I.line.cps.toList.length->ch.map (AC.den I) <+: I.line.cps.toList.drop (I.base+off)->(e=true->I.line.cps.toList.drop (I.base+off)=ch.map (AC.den I))->dc I off ch e (.int ((I.base+off:Nat):Int) t)
inductive cV (I:aZ):Value->Prop
 | pend (t:Tok):cV I (.int (I.line.cps.toList.length:Int) t)
inductive ik (S:Addr->Obj->Prop):Value->Prop
 | obj {a:Addr} {o:Obj}:S a o->ik S (.ref a)
inductive il (S:Addr->Obj->Prop):Value->Prop
 | edq {a:Addr} {vs:Array Value}:S a { cls:=.type "collections.deque",data:=.fields vs }->vs.size=2->il S (.ref a)
inductive jm (S:Addr->Obj->Prop):Value->Prop
 | fnc {a:Addr} {fd:FuncData}:S a { cls:=.type "function",data:=.func fd }->jm S (.ref a)
inductive jo (I:aZ) (S:Addr->Obj->Prop):Value->Prop
 | scr {a:Addr} {items:Array Value} {n:Nat}:S a { cls:=.type "list",data:=.seq items n }->IntsAre items.toList I.scr->jo I S (.ref a)
inductive im (S:Addr->Obj->Prop) (ρ:List Addr) (c:lR):Value->Prop
 | clo {a cd:Addr} {fd:FuncData} {oc:Obj} {vs:Array Value} {t:Tok}:S a { cls:=.type "function",data:=.func fd }->fd.body=.expr c.body->fd.scope=c.scope->fd.globals=mainGlobals->fd.builtins=builtinsNs ->
  (∀ s xs,xs.length=c.ps.length->BindsTo s fd ⟨xs,[]⟩ (c.ps.zip xs))->fd.code=.ref cd->S cd oc->oc.data=.fields vs->vs[1]?=some (.str fd.qualname t) ->
  (∀ x n,(x,n)∈c.cels->∃ ad,fd.closure.lookup x=some ad∧ρ[n]?=some ad)->im S ρ c (.ref a)
inductive bQ:List Value->Prop
 | nil:bQ []
inductive aD (U:Value->Prop) (W:List Value->Prop):List Value->Prop
 | cons {x:Value} {r:List Value}:U x->W r->aD U W (x::r)
mutual
def VR (I:aZ) (S:Addr->Obj->Prop) (ρ:List Addr):V->Value->Prop
 | .none=>be
 | .bool b=>cC b
 | .int i=>aH i
 | .str x=>aG I x
 | .lin=>du I
 | .val v=>aK v
 | .ref i=>bV ρ i
 | .eset=>d9 S
 | .tup l=>cM S (VRs I S ρ l)
 | .lst l=>dw S (VRs I S ρ l)
 | .mat C l=>ii S (VRs I S ρ l) C
 | .inst C d=>ec S ρ C d
 | .bm id x=>jl S (VR I S ρ x) id
 | .rng a b=>ij S a b
 | .iat k=>fL I k
 | .pos off ch e=>dc I off ch e
 | .pend=>cV I
 | .obj=>ik S
 | .edq=>il S
 | .fnc=>jm S
 | .scr=>jo I S
 | .clo c=>im S ρ c
def VRs (I:aZ) (S:Addr->Obj->Prop) (ρ:List Addr):List V->List Value->Prop
 | []=>bQ
 | v::l=>aD (VR I S ρ v) (VRs I S ρ l)
end
section
variable {I:aZ} {S:Addr->Obj->Prop} {ρ:List Addr}
theorem VR.none:VR I S ρ .none .none:=be.none
theorem VR.bool (b:Bool):VR I S ρ (.bool b) (.bool b):=cC.bool b
theorem VR.int (i:Int) (t:Tok):VR I S ρ (.int i) (.int i t):=aH.int i t
theorem VR.str (x:AS) (t:Tok):VR I S ρ (.str x) (.str (den I x) t):=aG.str x t
theorem VR.lin (t:Tok):VR I S ρ .lin (.str I.line t):=du.lin t
theorem VR.val (v:Value):VR I S ρ (.val v) v:=aK.val v
theorem VR.ref {i:Nat} {a:Addr} (h:ρ[i]?=some a):VR I S ρ (.ref i) (.ref a):=bV.ref h
theorem VR.eset {a:Addr} {led:Bool} (h:S a { cls:=.type "set",dict:=Option.none,data:=.set #[] 0 (.fresh 0 0 led) }):VR I S ρ .eset (.ref a):=d9.eset h
theorem VRs.nil:VRs I S ρ [] []:=bQ.nil
theorem VRs.cons {v:V} {x:Value} {l:List V} {r:List Value} (a:VR I S ρ v x) (b:VRs I S ρ l r):VRs I S ρ (v::l) (x::r):=aD.cons a b
theorem VR.tup {l:List V} {a:Addr} {items:Array Value} {n:Nat} (h:S a { cls:=.type "tuple",data:=.seq items n }) (b:VRs I S ρ l items.toList):VR I S ρ (.tup l) (.ref a):=cM.tup h b
theorem VR.lst {l:List V} {a:Addr} {items:Array Value} {n:Nat} (h:S a { cls:=.type "list",data:=.seq items n }) (b:VRs I S ρ l items.toList):VR I S ρ (.lst l) (.ref a):=dw.lst h b
theorem VR.mat {l:List V} {C a:Addr} {o:Obj} {items:Array Value} {n:Nat} (h:S a o) (h1:o.cls=.ref C) (h2:o.data=.seq items n) (b:VRs I S ρ l items.toList):VR I S ρ (.mat C l) (.ref a):=ii.mat h h1 h2 b
theorem VR.inst {C:Addr} {d:Nat} {a dx:Addr} (h:S a (instObj C dx)) (h1:ρ[d]?=some dx):VR I S ρ (.inst C d) (.ref a):=ec.inst h h1
theorem VR.bm {id:String} {x:V} {a:Addr} {y:Value} (h:S a { cls:=.type "builtin_function_or_method",data:=.fields #[.builtin id,y] }) (b:VR I S ρ x y):VR I S ρ (.bm id x) (.ref a):=jl.bm h b
theorem VR.rng {a b:Int} {c:Addr} {t u v:Tok} (h:S c { cls:=.type "range",data:=.fields #[.int a t,.int b u,.int 1 v] }):VR I S ρ (.rng a b) (.ref c):=ij.rng h
theorem VR.iat (k:Nat) (t:Tok):VR I S ρ (.iat k) (.int (I.zs k) t):=fL.iat k t
theorem VR.pos {off:Nat} {ch:AS} {e:Bool} (t:Tok) (h1:I.base+off≤I.line.cps.toList.length) (h2:ch.map (AC.den I) <+: I.line.cps.toList.drop (I.base+off)) (h3:e=true->I.line.cps.toList.drop (I.base+off)=ch.map (AC.den I)):VR I S ρ (.pos off ch e) (.int ((I.base+off:Nat):Int) t):=dc.pos t h1 h2 h3
theorem VR.pend (t:Tok):VR I S ρ .pend (.int (I.line.cps.toList.length:Int) t):=cV.pend t
theorem VR.obj {a:Addr} {o:Obj} (h:S a o):VR I S ρ .obj (.ref a):=ik.obj h
theorem VR.edq {a:Addr} {vs:Array Value} (h:S a { cls:=.type "collections.deque",data:=.fields vs }) (h1:vs.size=2):VR I S ρ .edq (.ref a):=il.edq h h1
theorem VR.fnc {a:Addr} {fd:FuncData} (h:S a { cls:=.type "function",data:=.func fd }):VR I S ρ .fnc (.ref a):=jm.fnc h
theorem VR.scr {a:Addr} {items:Array Value} {n:Nat} (h:S a { cls:=.type "list",data:=.seq items n }) (h1:IntsAre items.toList I.scr):VR I S ρ .scr (.ref a):=jo.scr h h1
theorem VR.clo {c:lR} {a cd:Addr} {fd:FuncData} {oc:Obj} {vs:Array Value} {t:Tok} (a1:S a { cls:=.type "function",data:=.func fd }) (a2:fd.body=.expr c.body) (a3:fd.scope=c.scope) (a4:fd.globals=mainGlobals) (a5:fd.builtins=builtinsNs)
 (a6:∀ s xs,xs.length=c.ps.length->BindsTo s fd ⟨xs,[]⟩ (c.ps.zip xs)) (a7:fd.code=.ref cd) (a8:S cd oc) (a9:oc.data=.fields vs) (a10:vs[1]?=some (.str fd.qualname t)) (a11:∀ x n,(x,n)∈c.cels->∃ ad,fd.closure.lookup x=some ad∧ρ[n]?=some ad):VR I S ρ (.clo c) (.ref a):=im.clo a1 a2 a3 a4 a5 a6 a7 a8 a9 a10 a11
end
section
variable {I:aZ} {S S':Addr->Obj->Prop} {ρ r:List Addr}
theorem cc {i:Nat} {a:Addr} (h:ρ[i]?=some a):(ρ++r)[i]?=some a:=by
 rw [List.getElem?_append_left]; exact h;exact (List.getElem?_eq_some_iff.mp h).1
mutual
theorem VR.mono0 (hS:∀ a o,S a o->S' a o):∀ (v:V) (x:Value),VR I S ρ v x->VR I S' (ρ++r) v x
 | .none,_,h=>by induction h using be.casesOn; exact .none
 | .bool _,_,h=>by induction h using cC.casesOn; exact .bool _
 | .int _,_,h=>by induction h using aH.casesOn; exact .int _ _
 | .str _,_,h=>by induction h using aG.casesOn; exact .str _ _
 | .lin,_,h=>by induction h using du.casesOn; exact .lin _
 | .val _,_,h=>by induction h using aK.casesOn; exact .val _
 | .ref _,_,h=>by induction h using bV.casesOn with | ref e=>exact .ref (cc e)
 | .eset,_,h=>by induction h using d9.casesOn with | eset a=>exact .eset (hS _ _ a)
 | .tup l,_,h=>by induction h using cM.casesOn with | tup a d=>exact .tup (hS _ _ a) (VRs.mono0 hS l _ d)
 | .lst l,_,h=>by induction h using dw.casesOn with | lst a d=>exact .lst (hS _ _ a) (VRs.mono0 hS l _ d)
 | .mat _ l,_,h=>by induction h using ii.casesOn with | mat a b c d=>exact .mat (hS _ _ a) b c (VRs.mono0 hS l _ d)
 | .inst _ _,_,h=>by induction h using ec.casesOn with | inst a b=>exact .inst (hS _ _ a) (cc b)
 | .bm _ x,_,h=>by induction h using jl.casesOn with | bm a b=>exact .bm (hS _ _ a) (VR.mono0 hS x _ b)
 | .rng _ _,_,h=>by induction h using ij.casesOn with | rng a=>exact .rng (hS _ _ a)
 | .iat _,_,h=>by induction h using fL.casesOn; exact .iat _ _
 | .pos _ _ _,_,h=>by induction h using dc.casesOn with | pos t a b c=>exact .pos t a b c
 | .pend,_,h=>by induction h using cV.casesOn; exact .pend _
 | .obj,_,h=>by induction h using ik.casesOn with | obj a=>exact .obj (hS _ _ a)
 | .edq,_,h=>by induction h using il.casesOn with | edq a b=>exact .edq (hS _ _ a) b
 | .fnc,_,h=>by induction h using jm.casesOn with | fnc a=>exact .fnc (hS _ _ a)
 | .scr,_,h=>by induction h using jo.casesOn with | scr a b=>exact .scr (hS _ _ a) b
 | .clo _,_,h=>by
  induction h using im.casesOn with
  | clo a1 a2 a3 a4 a5 a6 a7 a8 a9 a10 a11=>exact .clo (hS _ _ a1) a2 a3 a4 a5 a6 a7 (hS _ _ a8) a9 a10 λ x n m=>let ⟨ad,e1,e2⟩:=a11 x n m; ⟨ad,e1,cc e2⟩
theorem VRs.mono0 (hS:∀ a o,S a o->S' a o):∀ (l:List V) (x:List Value),VRs I S ρ l x->VRs I S' (ρ++r) l x
 | [],_,h=>by induction h using bQ.casesOn; exact .nil
 | v::l,_,h=>by induction h using aD.casesOn with | cons a b=>exact .cons (VR.mono0 hS v _ a) (VRs.mono0 hS l _ b)
end
theorem VR.mono (hS:∀ a o,S a o->S' a o) {v:V} {x:Value} (a:VR I S ρ v x):VR I S' (ρ++r) v x:=VR.mono0 hS v x a
theorem VRs.mono (hS:∀ a o,S a o->S' a o) {l:List V} {x:List Value} (a:VRs I S ρ l x):VRs I S' (ρ++r) l x:=VRs.mono0 hS l x a
theorem VRs.length:∀ {l:List V} {r:List Value},VRs I S ρ l r->l.length=r.length
 | [],_,h=>by induction h using bQ.casesOn; rfl
 | _::_,_,h=>by induction h using aD.casesOn with | cons _ b=>rw [List.length_cons,List.length_cons,VRs.length b]
theorem VRs.get:∀ {l:List V} {r:List Value} {i:Nat} {v:V},VRs I S ρ l r->l[i]?=some v->∃ x,r[i]?=some x∧VR I S ρ v x
 | [],_,_,_,_,h=>by simp at h
 | _::_,_,0,_,W,h=>by cases W with | cons a _=>simp at h; subst h; exact ⟨_,rfl,a⟩
 | _::_,_,i+1,_,W,h=>by cases W with | cons _ b=>simpa using VRs.get b (by simpa using h)
theorem VRs.append:∀ {l l':List V} {r r':List Value},VRs I S ρ l r->VRs I S ρ l' r'->VRs I S ρ (l++l') (r++r')
 | [],_,_,_,W,h=>by cases W; exact h
 | _::_,_,_,_,W,h=>by cases W with | cons a b=>exact .cons a (VRs.append b h)
theorem VRs.take:∀ {l:List V} {r:List Value} (n:Nat),VRs I S ρ l r->VRs I S ρ (l.take n) (r.take n)
 | _,_,0,_=>by simpa using VRs.nil
 | [],_,n+1,W=>by cases W; simpa using VRs.nil
 | _::_,_,n+1,W=>by cases W with | cons a b=>simpa using VRs.cons a (VRs.take n b)
theorem VRs.drop:∀ {l:List V} {r:List Value} (n:Nat),VRs I S ρ l r->VRs I S ρ (l.drop n) (r.drop n)
 | _,_,0,h=>by simpa using h
 | [],_,n+1,W=>by cases W; simpa using VRs.nil
 | _::_,_,n+1,W=>by cases W with | cons a b=>simpa using VRs.drop n b
end
inductive io {κ κ':Type} (f:κ->κ') (I:aZ) (S:Addr->Obj->Prop) (ρ:List Addr):List (κ×V)->List (κ'×Value)->Prop
 | nil:io f I S ρ [] []
 | cons {k:κ} {v:V} {y:Value} {l:List (κ×V)} {r:List (κ'×Value)}:VR I S ρ v y->io f I S ρ l r->io f I S ρ ((k,v)::l) ((f k,y)::r)
inductive ip (P:Params) (I:aZ) (S:Addr->Obj->Prop) (ρ:List Addr):List (Str×V)->List DictEntry->Prop
 | nil:ip P I S ρ [] []
 | cons (x:Str) (t:Tok) {v:V} {y:Value} {l:List (Str×V)} {r:List DictEntry}:VR I S ρ v y->ip P I S ρ l r->ip P I S ρ ((x,v)::l) (⟨PyData.keyHash P x,.str x t,y⟩::r)
noncomputable def ee:List Pos->Pos->Bool
 | [],_=>false
 | p::r,x=>match Nat.beq p.line x.line && Nat.beq p.col x.col with
  | true=>true
  | false=>ee r x
inductive cD (W:List Value->Prop):Obj->Prop
 | list {items:List Value} {n:Nat}:W items->cD W { cls:=.type "list",data:=.seq items.toArray n }
inductive iq (W:List DictEntry->Prop):Obj->Prop
 | fld {es:List DictEntry} {n:Nat}:W es->iq W (dictOf es n)
inductive lS (prog:Program) (w:World) (W:List (Str×Value)->Prop) (b:Obj):Prop
 | smap {kvs:List (Str×Value)} {es:Array DictEntry} {n:Nat}:b.ExactDict->b.data=.dict es n->KeysOf (strKind prog w) es->Pairs (strKind prog w) es.toList kvs->(kvs.map (·.1)).Nodup->W kvs->lS prog w W b
inductive lT (prog:Program) (w:World) (W:List (Int×Value)->Prop) (b:Obj):Prop
 | imap {kvs:List (Int×Value)} {es:Array DictEntry} {n:Nat}:b.ExactDict->b.data=.dict es n->KeysOf (intKind prog w) es->Pairs (intKind prog w) es.toList kvs->(kvs.map (·.1)).Nodup->W kvs->lT prog w W b
inductive lU (b:Obj):Prop
 | dnil {n:Nat}:b.ExactDict->b.data=.dict #[] n->lU b
inductive iV (b:Obj):Prop
 | cellN:b.data=.cell none->iV b
inductive lV (U:Value->Prop) (b:Obj):Prop
 | cell {y:Value}:b.data=.cell (some y)->U y->lV U b
inductive jp (l:List Pos):Obj->Prop
 | tab {ps:Array Value}:TriplesOk ps.toList->(∀ pos,ee l pos=false->codeAmong pos ps.toList=none)->jp l (tabObj ps)
inductive gS (S:Addr->Obj->Prop) (q:Str):Obj->Prop
 | tabF {ps:Array Value}:TriplesOk ps.toList->(∀ pos c,codeAmong pos ps.toList=some c->∃ a oc vs t,c=.ref a∧S a oc∧oc.data=.fields vs∧vs[1]?=some (.str q t))->gS S q (tabObj ps)
inductive eS (W:List Value->Prop):Obj->Prop
 | acc {items:List Value} {n:Nat}:W items->eS W { cls:=.type "list",data:=.seq items.toArray n }
inductive bO:Obj->Prop
 | tabT {ps:Array Value}:TriplesOk ps.toList->bO (tabObj ps)
def OR (prog:Program) (w:World) (I:aZ) (S:Addr->Obj->Prop) (ρ:List Addr):O->Obj->Prop
 | .list l=>cD (VRs I S ρ l)
 | .fld l=>iq (ip w.params I S ρ l)
 | .smap l=>lS prog w (io (den I) I S ρ l)
 | .imap l=>lT prog w (io id I S ρ l)
 | .dnil=>lU
 | .cell none=>iV
 | .cell (some v)=>lV (VR I S ρ v)
 | .tab l=>jp l
 | .tabF q=>gS S q
 | .tabT=>bO
 | .acc l=>eS (VRs I S ρ (I.pre++l))
section
variable {prog:Program} {w:World} {I:aZ} {S:Addr->Obj->Prop} {ρ:List Addr} {b:Obj}
theorem OR.list {l:List V} {items:List Value} {n:Nat} (h:VRs I S ρ l items):OR prog w I S ρ (.list l) { cls:=.type "list",data:=.seq items.toArray n }:=cD.list h
theorem OR.fld {l:List (Str×V)} {es:List DictEntry} {n:Nat} (h:ip w.params I S ρ l es):OR prog w I S ρ (.fld l) (dictOf es n):=iq.fld h
theorem OR.smap {l:List (AS×V)} {kvs:List (Str×Value)} {es:Array DictEntry} {n:Nat} (h1:b.ExactDict) (h2:b.data=.dict es n) (h3:KeysOf (strKind prog w) es) (h4:Pairs (strKind prog w) es.toList kvs) (h5:(kvs.map (·.1)).Nodup) (h6:io (den I) I S ρ l kvs):OR prog w I S ρ (.smap l) b:=lS.smap h1 h2 h3 h4 h5 h6
theorem OR.imap {l:List (Int×V)} {kvs:List (Int×Value)} {es:Array DictEntry} {n:Nat} (h1:b.ExactDict) (h2:b.data=.dict es n) (h3:KeysOf (intKind prog w) es) (h4:Pairs (intKind prog w) es.toList kvs) (h5:(kvs.map (·.1)).Nodup) (h6:io id I S ρ l kvs):OR prog w I S ρ (.imap l) b:=lT.imap h1 h2 h3 h4 h5 h6
theorem OR.dnil {n:Nat} (h1:b.ExactDict) (h2:b.data=.dict #[] n):OR prog w I S ρ .dnil b:=lU.dnil h1 h2
theorem OR.cellN (h:b.data=.cell none):OR prog w I S ρ (.cell none) b:=iV.cellN h
theorem OR.cell {v:V} {y:Value} (h:b.data=.cell (some y)) (h1:VR I S ρ v y):OR prog w I S ρ (.cell (some v)) b:=lV.cell h h1
theorem OR.tab {l:List Pos} {ps:Array Value} (h:TriplesOk ps.toList) (h1:∀ pos,ee l pos=false->codeAmong pos ps.toList=none):OR prog w I S ρ (.tab l) (tabObj ps):=jp.tab h h1
theorem OR.tabF {q:Str} {ps:Array Value} (h:TriplesOk ps.toList) (h1:∀ pos c,codeAmong pos ps.toList=some c->∃ a oc vs t,c=.ref a∧S a oc∧oc.data=.fields vs∧vs[1]?=some (.str q t)):OR prog w I S ρ (.tabF q) (tabObj ps):=gS.tabF h h1
theorem OR.acc {l:List V} {items:List Value} {n:Nat} (h:VRs I S ρ (I.pre++l) items):OR prog w I S ρ (.acc l) { cls:=.type "list",data:=.seq items.toArray n }:=eS.acc h
theorem OR.tabT {ps:Array Value} (h:TriplesOk ps.toList):OR prog w I S ρ .tabT (tabObj ps):=bO.tabT h
end
section
variable {prog:Program} {w:World} {I:aZ} {P:Params} {S S':Addr->Obj->Prop} {ρ r:List Addr}
theorem io.mono {κ κ':Type} {f:κ->κ'} (hS:∀ a o,S a o->S' a o):∀ {l:List (κ×V)} {es:List (κ'×Value)},io f I S ρ l es->io f I S' (ρ++r) l es:=by
 intro l es h;induction h with
 | nil=>exact .nil
 | cons a _ ih=>exact .cons (a.mono hS) ih
theorem ip.mono (hS:∀ a o,S a o->S' a o):∀ {l:List (Str×V)} {es:List DictEntry},ip P I S ρ l es->ip P I S' (ρ++r) l es:=by
 intro l es h;induction h with
 | nil=>exact .nil
 | cons x t a _ ih=>exact .cons x t (a.mono hS) ih
theorem OR.mono (hS:∀ a o,S a o->S' a o) {o:O} {b:Obj} (h:OR prog w I S ρ o b):OR prog w I S' (ρ++r) o b:=by
 match o,h with
 | .list _,h=>induction h using cD.casesOn with | list z=>exact .list (VRs.mono hS z)
 | .fld _,h=>induction h using iq.casesOn with | fld z=>exact .fld (ip.mono hS z)
 | .smap _,h=>induction h using lS.casesOn with | smap a b c d e f=>exact .smap a b c d e (f.mono hS)
 | .imap _,h=>induction h using lT.casesOn with | imap a b c d e f=>exact .imap a b c d e (f.mono hS)
 | .dnil,h=>induction h using lU.casesOn with | dnil a b=>exact .dnil a b
 | .cell none,h=>induction h using iV.casesOn with | cellN a=>exact .cellN a
 | .cell (some _),h=>induction h using lV.casesOn with | cell a c=>exact .cell a (c.mono hS)
 | .tab _,h=>induction h using jp.casesOn with | tab a b=>exact .tab a b
 | .tabF _,h=>induction h using gS.casesOn with | tabF a b=>exact .tabF a λ pos c e=>let ⟨ad,oc,vs,t,e1,e2,e3⟩:=b pos c e; ⟨ad,oc,vs,t,e1,hS _ _ e2,e3⟩
 | .tabT,h=>induction h using bO.casesOn with | tabT a=>exact .tabT a
 | .acc _,h=>induction h using eS.casesOn with | acc z=>exact .acc (VRs.mono hS z)
end
structure Sh (hb:Heap) (prog:Program) (w:World) (I:aZ) (hid ρ:List Addr) (σ:List O) (h:Heap):Prop where
 sm:sysModules∉ρ∧(∃ o,hb.get? 2=some o)∧∀ p∈I.fx,ρ[p.1]?=some p.2
 base:∀ b o,hb.get? b=some o->h.get? b=some o
 nd:ρ.Nodup
 len:ρ.length=σ.length
 off:∀ a∈ρ,hb.get? a=none∧a∉hid∧∃ o,h.get? a=some o
 offH:∀ a∈hid,hb.get? a=none∧∃ o,h.get? a=some o
 ob:∀ (i:Nat) (o:O),σ[i]?=some o->∃ a b,ρ[i]?=some a∧h.get? a=some b∧OR prog w I (ay hid ρ h) ρ o b
structure Ext (mv ρ ρ':List Addr) (h h':Heap):Prop where
 pre:∃ r,ρ'=ρ++r
 keep:∀ b o,h.get? b=some o->b∉ρ->b∉mv->h'.get? b=some o
 new:∀ a∈ρ',a∉ρ->h.get? a=none
theorem dp:∀ {l:List Addr} {i j:Nat} {a:Addr},l.Nodup->l[i]?=some a->l[j]?=some a->i=j
 | [],_,_,_,_,h,_=>by simp at h
 | _::_,0,0,_,_,_,_=>rfl
 | x::l,0,j+1,a,hn,h,h'=>by
  simp at h h';exact absurd (h▸List.mem_of_getElem? h') (List.nodup_cons.mp hn).1
 | x::l,i+1,0,a,hn,h,h'=>by
  simp at h h';exact absurd (h'▸List.mem_of_getElem? h) (List.nodup_cons.mp hn).1
 | x::l,i+1,j+1,a,hn,h,h'=>by
  simp at h h';rw [dp (List.nodup_cons.mp hn).2 h h']
section
variable {hb:Heap} {prog:Program} {w:World} {I:aZ} {mv hid hid' ρ ρ' ρ'':List Addr} {σ:List O} {h h' h'':Heap} {S S':Addr->Obj->Prop}
theorem VR.tr (hp:∃ r,ρ'=ρ++r) (hS:∀ a o,S a o->S' a o) {v:V} {y:Value} (a:VR I S ρ v y):VR I S' ρ' v y:=by
 obtain ⟨r,rfl⟩:=hp; exact a.mono hS
theorem VRs.tr (hp:∃ r,ρ'=ρ++r) (hS:∀ a o,S a o->S' a o) {v:List V} {y:List Value} (a:VRs I S ρ v y):VRs I S' ρ' v y:=by
 obtain ⟨r,rfl⟩:=hp; exact a.mono hS
theorem OR.tr (hp:∃ r,ρ'=ρ++r) (hS:∀ a o,S a o->S' a o) {v:O} {y:Obj} (a:OR prog w I S ρ v y):OR prog w I S' ρ' v y:=by
 obtain ⟨r,rfl⟩:=hp; exact a.mono hS
theorem Ext.refl (mv ρ:List Addr) (h:Heap):Ext mv ρ ρ h h:=⟨⟨[],by simp⟩,λ _ _ e _ _=>e,λ _ m n=>absurd m n⟩
theorem Ext.wk (x:Ext [] ρ ρ' h h'):Ext mv ρ ρ' h h':=⟨x.pre,λ b o e n _=>x.keep b o e n (by simp),x.new⟩
theorem Ext.notin (x:Ext mv ρ ρ' h h') {b:Addr} {o:Obj} (e:h.get? b=some o) (hn:b∉ρ):b∉ρ':=λ m=>by
 rw [x.new b m hn] at e; cases e
theorem Ext.trans (x:Ext mv ρ ρ' h h') (y:Ext mv ρ' ρ'' h' h'') (hm:∀ a∈mv,∃ o,h'.get? a=some o):Ext mv ρ ρ'' h h'':=by
 obtain ⟨r,e⟩:=x.pre;obtain ⟨r',e'⟩:=y.pre;refine ⟨⟨r++r',by rw [e',e,List.append_assoc]⟩,λ b o q n m=>y.keep b o (x.keep b o q n m) (x.notin q n) m,λ a m n=>?_⟩
 by_cases hm':a∈ρ'
 ·exact x.new a hm' n
 ·cases q:h.get? a with
  | none=>rfl
  | some o =>
   have z:=y.new a m hm';by_cases hv:a∈mv
   ·obtain ⟨o',e'⟩:=hm a hv;rw [e'] at z; cases z
   ·rw [x.keep a o q n hv] at z; cases z
theorem Ext.trans0 (x:Ext [] ρ ρ' h h') (y:Ext [] ρ' ρ'' h' h''):Ext [] ρ ρ'' h h'':=x.trans y λ _ m=>(nomatch m)
structure aI (I:aZ) (mv ρ ρ':List Addr) (h:Heap) (g:Array GenState) (h':Heap) (g':Array GenState):Prop extends Ext mv ρ ρ' h h' where
 gb:I.gr.R g g'
theorem Ext.g (x:Ext mv ρ ρ' h h') {g:Array GenState}:aI I mv ρ ρ' h g h' g:=⟨x,I.gr.rf g⟩
instance {I:aZ} {mv ρ ρ':List Addr} {h h':Heap} {g:Array GenState}:Coe (Ext mv ρ ρ' h h') (aI I mv ρ ρ' h g h' g):=⟨λ x=>x.g⟩
instance {I:aZ} {mv ρ ρ':List Addr} {h h':Heap} {g g':Array GenState}:CoeOut (aI I mv ρ ρ' h g h' g') (Ext mv ρ ρ' h h'):=⟨aI.toExt⟩
theorem aI.refl (mv ρ:List Addr) (h:Heap) (g:Array GenState):aI I mv ρ ρ h g h g:=(Ext.refl mv ρ h).g
theorem aI.wk {g g':Array GenState} (x:aI I [] ρ ρ' h g h' g'):aI I mv ρ ρ' h g h' g':=⟨x.toExt.wk,x.gb⟩
theorem aI.trans {g g' g'':Array GenState} (x:aI I mv ρ ρ' h g h' g') (y:aI I mv ρ' ρ'' h' g' h'' g'') (hm:∀ a∈mv,∃ o,h'.get? a=some o):aI I mv ρ ρ'' h g h'' g'':=⟨x.toExt.trans y.toExt hm,I.gr.tr x.gb y.gb⟩
theorem aI.trans0 {g g' g'':Array GenState} (x:aI I [] ρ ρ' h g h' g') (y:aI I [] ρ' ρ'' h' g' h'' g''):aI I [] ρ ρ'' h g h'' g'':=⟨x.toExt.trans0 y.toExt,I.gr.tr x.gb y.gb⟩
theorem Ext.stb (x:Ext mv ρ ρ' h h') (hm:∀ a∈mv,a∈hid):∀ a o,ay hid ρ h a o->ay hid ρ' h' a o :=
 λ a o q=>⟨x.keep a o q.1 q.2.2 λ m=>q.2.1 (hm a m),q.2.1,x.notin q.1 q.2.2⟩
theorem jq:∀ a∈([]:List Addr),a∈hid:=λ _ m=>(nomatch m)
theorem VR.ext (x:Ext [] ρ ρ' h h') {v:V} {y:Value} (a:VR I (ay hid ρ h) ρ v y):VR I (ay hid ρ' h') ρ' v y:=a.tr x.pre (x.stb jq)
theorem VRs.ext (x:Ext [] ρ ρ' h h') {v:List V} {y:List Value} (a:VRs I (ay hid ρ h) ρ v y):VRs I (ay hid ρ' h') ρ' v y:=a.tr x.pre (x.stb jq)
theorem lW (hs:∀ a∈hid,a∈hid'):∀ a o,ay hid' ρ h a o->ay hid ρ h a o:=λ a _ q=>⟨q.1,λ m=>q.2.1 (hs a m),q.2.2⟩
theorem Sh.sub (H:Sh hb prog w I hid' ρ σ h) (hs:∀ a∈hid,a∈hid'):Sh hb prog w I hid ρ σ h :=
 ⟨H.sm,H.base,H.nd,H.len,λ a m=>⟨(H.off a m).1,λ q=>(H.off a m).2.1 (hs a q),(H.off a m).2.2⟩,λ a m=>H.offH a (hs a m),λ i o e=>by
  obtain ⟨a,b,e1,e2,e3⟩:=H.ob i o e;exact ⟨a,b,e1,e2,e3.tr ⟨[],by simp⟩ (lW hs)⟩⟩
theorem Sh.move (H:Sh hb prog w I hid ρ σ h) (hm:∀ a∈mv,a∈hid) (hl:∀ a∈mv,∃ o,h'.get? a=some o) (k:∀ b o,h.get? b=some o->b∉mv->h'.get? b=some o):Ext mv ρ ρ h h'∧Sh hb prog w I hid ρ σ h':=by
 have x:Ext mv ρ ρ h h':=⟨⟨[],by simp⟩,λ b o e _ n=>k b o e n,λ a m n=>absurd m n⟩
 have nb:∀ b o,hb.get? b=some o->b∉mv:=λ b o e m=>by have:=(H.offH b (hm b m)).1; rw [e] at this; cases this
 have nr:∀ a∈ρ,a∉mv:=λ a m q=>(H.off a m).2.1 (hm a q);refine ⟨x,⟨H.sm,λ b o e=>k b o (H.base b o e) (nb b o e),H.nd,H.len,λ a m=>⟨(H.off a m).1,(H.off a m).2.1,?_⟩,λ a m=>⟨(H.offH a m).1,?_⟩,λ i o e=>?_⟩⟩
 ·obtain ⟨o,e⟩:=(H.off a m).2.2;exact ⟨o,k a o e (nr a m)⟩
 ·by_cases q:a∈mv
  ·exact hl a q
  ·obtain ⟨o,e⟩:=(H.offH a m).2;exact ⟨o,k a o e q⟩
 ·obtain ⟨a,b,e1,e2,e3⟩:=H.ob i o e;exact ⟨a,b,e1,k _ _ e2 (nr a (List.mem_of_getElem? e1)),e3.tr x.pre (x.stb hm)⟩
theorem Sh.keeps (H:Sh hb prog w I hid ρ σ h) (k:∀ b o,h.get? b=some o->h'.get? b=some o):Ext [] ρ ρ h h'∧Sh hb prog w I hid ρ σ h' :=
 H.move jq (λ _ m=>(nomatch m)) λ b o e _=>k b o e
theorem Sh.fresh (H:Sh hb prog w I hid ρ σ h):hb.get? h.objs.size=none:=by
 cases q:hb.get? h.objs.size with
 | none=>rfl
 | some o=>have:=H.base _ _ q; rw [bh] at this; cases this
theorem Sh.nextH (H:Sh hb prog w I hid ρ σ h):h.objs.size∉hid:=λ m=>by obtain ⟨o,e⟩:=(H.offH _ m).2; rw [bh] at e; cases e
theorem Sh.nextR (H:Sh hb prog w I hid ρ σ h):h.objs.size∉ρ:=λ m=>by obtain ⟨o,e⟩:=(H.off _ m).2.2; rw [bh] at e; cases e
theorem Sh.alloc (H:Sh hb prog w I hid ρ σ h) (b:Obj):Ext [] ρ ρ h (h.push b)∧Sh hb prog w I hid ρ σ (h.push b) :=
 H.keeps (λ _ _ e=>Heap.get?_push_of_some _ e)
theorem Sh.stbNew (H:Sh hb prog w I hid ρ σ h) {b:Obj} (hf:b.isFreed=false):ay hid ρ (h.push b) h.objs.size b :=
 ⟨Heap.get?_push_size _ hf,H.nextH,H.nextR⟩
theorem Sh.hide (H:Sh hb prog w I hid ρ σ h) {b:Obj} (hf:b.isFreed=false):Sh hb prog w I (h.objs.size::hid) ρ σ (h.push b)∧∀ a o,ay hid ρ h a o->ay (h.objs.size::hid) ρ (h.push b) a o:=by
 have st:∀ a o,ay hid ρ h a o->ay (h.objs.size::hid) ρ (h.push b) a o:=λ a o q=>⟨Heap.get?_push_of_some _ q.1,λ m=>by
  rcases List.mem_cons.mp m with e | m
  ·exact bd q.1 e
  ·exact q.2.1 m,q.2.2⟩
 refine ⟨⟨H.sm,λ b o e=>Heap.get?_push_of_some _ (H.base b o e),H.nd,H.len,λ a m=>⟨(H.off a m).1,λ q=>?_,?_⟩,λ a m=>?_,λ i o e=>?_⟩,st⟩
 ·rcases List.mem_cons.mp q with rfl | q
  ·exact H.nextR m
  ·exact (H.off a m).2.1 q
 ·obtain ⟨o,e⟩:=(H.off a m).2.2;exact ⟨o,Heap.get?_push_of_some _ e⟩
 ·rcases List.mem_cons.mp m with rfl | m
  ·exact ⟨H.fresh,b,Heap.get?_push_size _ hf⟩
  ·obtain ⟨o,e⟩:=(H.offH a m).2;exact ⟨(H.offH a m).1,o,Heap.get?_push_of_some _ e⟩
 ·obtain ⟨a,b',e1,e2,e3⟩:=H.ob i o e;exact ⟨a,b',e1,Heap.get?_push_of_some _ e2,e3.tr ⟨[],by simp⟩ st⟩
theorem Sh.drop {J:Addr} (H:Sh hb prog w I (J::hid) ρ σ h) (hn:J∉hid) (k:∀ b o,b≠J->h.get? b=some o->h'.get? b=some o) :
  Sh hb prog w I hid ρ σ h'∧∀ a o,ay (J::hid) ρ h a o->ay hid ρ h' a o:=by
 have st:∀ a o,ay (J::hid) ρ h a o->ay hid ρ h' a o:=λ a o q=>⟨k a o (λ e=>q.2.1 (e▸List.mem_cons_self ..)) q.1,λ m=>q.2.1 (List.mem_cons_of_mem _ m),q.2.2⟩;have nr:∀ a∈ρ,a≠J:=λ a m e=>(H.off a m).2.1 (e▸List.mem_cons_self ..);refine ⟨⟨H.sm,λ b o e=>k b o (λ q=>by have:=(H.offH J (List.mem_cons_self ..)).1; rw [<-q,e] at this; cases this) (H.base b o e),H.nd,H.len,λ a m=>⟨(H.off a m).1,λ q=>(H.off a m).2.1 (List.mem_cons_of_mem _ q),?_⟩,λ a m=>⟨(H.offH a (List.mem_cons_of_mem _ m)).1,?_⟩,λ i o e=>?_⟩,st⟩
 ·obtain ⟨o,e⟩:=(H.off a m).2.2;exact ⟨o,k a o (nr a m) e⟩
 ·obtain ⟨o,e⟩:=(H.offH a (List.mem_cons_of_mem _ m)).2;exact ⟨o,k a o (λ q=>hn (q▸m)) e⟩
 ·obtain ⟨a,b',e1,e2,e3⟩:=H.ob i o e;exact ⟨a,b',e1,k _ _ (nr a (List.mem_of_getElem? e1)) e2,e3.tr ⟨[],by simp⟩ st⟩
theorem Sh.smAt (H:Sh hb prog w I hid ρ σ h) {a:Addr} (ha:h.objs.size≤a):a≠sysModules:=by
 obtain ⟨o,e⟩:=H.sm.2.1;have h1:2 < h.objs.size:=Heap.lt_size (H.base _ _ e);intro q;have h2:h.objs.size≤1:=by rw [q] at ha; exact ha
 exact absurd (Nat.lt_of_lt_of_le h1 h2) (by decide)
theorem Sh.smPush (H:Sh hb prog w I hid ρ σ h):sysModules∉ρ++[h.objs.size]∧(∃ o,hb.get? 2=some o)∧∀ p∈I.fx,(ρ++[h.objs.size])[p.1]?=some p.2:=⟨λ m=>by
 rcases List.mem_append.mp m with m | m
 ·exact H.sm.1 m
 ·exact H.smAt (Nat.le_refl _) (List.mem_singleton.mp m).symm,H.sm.2.1,λ p m=>cc (H.sm.2.2 p m)⟩
theorem Sh.push (H:Sh hb prog w I hid ρ σ h) {b:Obj} {o:O} (hf:b.isFreed=false) (r:OR prog w I (ay hid ρ h) ρ o b) :
  Ext [] ρ (ρ++[h.objs.size]) h (h.push b)∧Sh hb prog w I hid (ρ++[h.objs.size]) (σ++[o]) (h.push b):=by
 have x:Ext [] ρ (ρ++[h.objs.size]) h (h.push b):=by
  refine ⟨⟨_,rfl⟩,λ b o e _ _=>Heap.get?_push_of_some _ e,λ a m n=>?_⟩;rcases List.mem_append.mp m with m | m
  ·exact absurd m n
  ·rw [List.mem_singleton.mp m]; exact bh h
 refine ⟨x,⟨H.smPush,λ b o e=>Heap.get?_push_of_some _ (H.base b o e),?_,by simp [H.len],λ a m=>?_,λ a m=>?_,λ i o' e=>?_⟩⟩
 ·refine List.nodup_append.mpr ⟨H.nd,by simp,λ a m b' m'=>?_⟩
  rw [List.mem_singleton.mp m']; rintro rfl; exact H.nextR m
 ·rcases List.mem_append.mp m with m | m
  ·obtain ⟨o,e⟩:=(H.off a m).2.2;exact ⟨(H.off a m).1,(H.off a m).2.1,o,Heap.get?_push_of_some _ e⟩
  ·rw [List.mem_singleton.mp m];exact ⟨H.fresh,H.nextH,b,Heap.get?_push_size _ hf⟩
 ·obtain ⟨o,e⟩:=(H.offH a m).2;exact ⟨(H.offH a m).1,o,Heap.get?_push_of_some _ e⟩
 ·by_cases hi:i < σ.length
  ·rw [List.getElem?_append_left hi] at e;obtain ⟨a,b',e1,e2,e3⟩:=H.ob i o' e;exact ⟨a,b',cc e1,Heap.get?_push_of_some _ e2,e3.tr x.pre (x.stb jq)⟩
  ·have hi':i=σ.length:=by
    have:=(List.getElem?_eq_some_iff.mp e).1;simp at this; lia
   subst hi';have:o'=o:=by simpa using e.symm
   subst this;exact ⟨h.objs.size,b,by rw [<-H.len]; simp,Heap.get?_push_size _ hf,r.tr x.pre (x.stb jq)⟩
theorem Sh.set (H:Sh hb prog w I hid ρ σ h) {i:Nat} {a:Addr} {b:Obj} {o:O} (hi:ρ[i]?=some a) (hs:∀ c,c≠a->h'.get? c=h.get? c) (hg:h'.get? a=some b) (r:OR prog w I (ay hid ρ h) ρ o b) :
  Ext [] ρ ρ h h'∧Sh hb prog w I hid ρ (σ.set i o) h':=by
 have hm:=List.mem_of_getElem? hi;have x:Ext [] ρ ρ h h':=⟨⟨[],by simp⟩,λ b o e n _=>(hs b λ q=>n (q▸hm)).trans e,λ a m n=>absurd m n⟩
 have al:∀ c o,h.get? c=some o->∃ o,h'.get? c=some o:=λ c o e=>by
  by_cases q:c=a
  ·exact ⟨b,q▸hg⟩
  ·exact ⟨o,(hs c q).trans e⟩
 refine ⟨x,⟨H.sm,λ b o e=>(hs b λ q=>by have:=(H.off a hm).1; rw [<-q,e] at this; cases this).trans (H.base b o e),H.nd,by rw [List.length_set]; exact H.len,λ a m=>⟨(H.off a m).1,(H.off a m).2.1,(H.off a m).2.2.elim (al a)⟩,λ a m=>⟨(H.offH a m).1,(H.offH a m).2.elim (al a)⟩,λ j o' e=>?_⟩⟩
 by_cases hj:i=j
 ·subst hj;have:o'=o:=by
   rw [List.getElem?_set_self'] at e;cases q:σ[i]? with
   | none=>rw [q] at e; cases e
   | some z=>rw [q] at e; exact (Option.some.inj e).symm
  subst this;exact ⟨a,b,hi,hg,r.tr x.pre (x.stb jq)⟩
 ·rw [List.getElem?_set_ne hj] at e;obtain ⟨a',b',e1,e2,e3⟩:=H.ob j o' e;refine ⟨a',b',e1,(hs a' λ q=>hj ?_).trans e2,e3.tr x.pre (x.stb jq)⟩;subst q;exact dp H.nd hi e1
end
end
section
structure F where
 s0:Option V
 s1:Option V
 s2:Option V
 s3:Option V
 s4:Option V
 s5:Option V
 s6:Option V
 s7:Option V
 s8:Option V
 s9:Option V
 s10:Option V
 s11:Option V
 s12:Option V
 s13:Option V
 s14:Option V
 s15:Option V
 s16:Option V
 s17:Option V
 s18:Option V
 s19:Option V
 s20:Option V
 s21:Option V
 s22:Option V
 s23:Option V
noncomputable def F.list:F->List (Option V):=λ e=>[e.s0,e.s1,e.s2,e.s3,e.s4,e.s5,e.s6,e.s7,e.s8,e.s9,e.s10,e.s11,e.s12,e.s13,e.s14,e.s15,e.s16,e.s17,e.s18,e.s19,e.s20,e.s21,e.s22,e.s23]
noncomputable def F.get (i:Nat):F->Option V:=match i with
 | 0=>F.s0
 | 1=>F.s1
 | 2=>F.s2
 | 3=>F.s3
 | 4=>F.s4
 | 5=>F.s5
 | 6=>F.s6
 | 7=>F.s7
 | 8=>F.s8
 | 9=>F.s9
 | 10=>F.s10
 | 11=>F.s11
 | 12=>F.s12
 | 13=>F.s13
 | 14=>F.s14
 | 15=>F.s15
 | 16=>F.s16
 | 17=>F.s17
 | 18=>F.s18
 | 19=>F.s19
 | 20=>F.s20
 | 21=>F.s21
 | 22=>F.s22
 | 23=>F.s23
 | _=>λ _=>none
noncomputable def F.set (i:Nat):F->V->F:=match i with
 | 0=>λ e v=>F.rec (λ a0 a1 a2 a3 a4 a5 a6 a7 a8 a9 a10 a11 a12 a13 a14 a15 a16 a17 a18 a19 a20 a21 a22 a23=>F.mk (some v) a1 a2 a3 a4 a5 a6 a7 a8 a9 a10 a11 a12 a13 a14 a15 a16 a17 a18 a19 a20 a21 a22 a23) e
 | 1=>λ e v=>F.rec (λ a0 a1 a2 a3 a4 a5 a6 a7 a8 a9 a10 a11 a12 a13 a14 a15 a16 a17 a18 a19 a20 a21 a22 a23=>F.mk a0 (some v) a2 a3 a4 a5 a6 a7 a8 a9 a10 a11 a12 a13 a14 a15 a16 a17 a18 a19 a20 a21 a22 a23) e
 | 2=>λ e v=>F.rec (λ a0 a1 a2 a3 a4 a5 a6 a7 a8 a9 a10 a11 a12 a13 a14 a15 a16 a17 a18 a19 a20 a21 a22 a23=>F.mk a0 a1 (some v) a3 a4 a5 a6 a7 a8 a9 a10 a11 a12 a13 a14 a15 a16 a17 a18 a19 a20 a21 a22 a23) e
 | 3=>λ e v=>F.rec (λ a0 a1 a2 a3 a4 a5 a6 a7 a8 a9 a10 a11 a12 a13 a14 a15 a16 a17 a18 a19 a20 a21 a22 a23=>F.mk a0 a1 a2 (some v) a4 a5 a6 a7 a8 a9 a10 a11 a12 a13 a14 a15 a16 a17 a18 a19 a20 a21 a22 a23) e
 | 4=>λ e v=>F.rec (λ a0 a1 a2 a3 a4 a5 a6 a7 a8 a9 a10 a11 a12 a13 a14 a15 a16 a17 a18 a19 a20 a21 a22 a23=>F.mk a0 a1 a2 a3 (some v) a5 a6 a7 a8 a9 a10 a11 a12 a13 a14 a15 a16 a17 a18 a19 a20 a21 a22 a23) e
 | 5=>λ e v=>F.rec (λ a0 a1 a2 a3 a4 a5 a6 a7 a8 a9 a10 a11 a12 a13 a14 a15 a16 a17 a18 a19 a20 a21 a22 a23=>F.mk a0 a1 a2 a3 a4 (some v) a6 a7 a8 a9 a10 a11 a12 a13 a14 a15 a16 a17 a18 a19 a20 a21 a22 a23) e
 | 6=>λ e v=>F.rec (λ a0 a1 a2 a3 a4 a5 a6 a7 a8 a9 a10 a11 a12 a13 a14 a15 a16 a17 a18 a19 a20 a21 a22 a23=>F.mk a0 a1 a2 a3 a4 a5 (some v) a7 a8 a9 a10 a11 a12 a13 a14 a15 a16 a17 a18 a19 a20 a21 a22 a23) e
 | 7=>λ e v=>F.rec (λ a0 a1 a2 a3 a4 a5 a6 a7 a8 a9 a10 a11 a12 a13 a14 a15 a16 a17 a18 a19 a20 a21 a22 a23=>F.mk a0 a1 a2 a3 a4 a5 a6 (some v) a8 a9 a10 a11 a12 a13 a14 a15 a16 a17 a18 a19 a20 a21 a22 a23) e
 | 8=>λ e v=>F.rec (λ a0 a1 a2 a3 a4 a5 a6 a7 a8 a9 a10 a11 a12 a13 a14 a15 a16 a17 a18 a19 a20 a21 a22 a23=>F.mk a0 a1 a2 a3 a4 a5 a6 a7 (some v) a9 a10 a11 a12 a13 a14 a15 a16 a17 a18 a19 a20 a21 a22 a23) e
 | 9=>λ e v=>F.rec (λ a0 a1 a2 a3 a4 a5 a6 a7 a8 a9 a10 a11 a12 a13 a14 a15 a16 a17 a18 a19 a20 a21 a22 a23=>F.mk a0 a1 a2 a3 a4 a5 a6 a7 a8 (some v) a10 a11 a12 a13 a14 a15 a16 a17 a18 a19 a20 a21 a22 a23) e
 | 10=>λ e v=>F.rec (λ a0 a1 a2 a3 a4 a5 a6 a7 a8 a9 a10 a11 a12 a13 a14 a15 a16 a17 a18 a19 a20 a21 a22 a23=>F.mk a0 a1 a2 a3 a4 a5 a6 a7 a8 a9 (some v) a11 a12 a13 a14 a15 a16 a17 a18 a19 a20 a21 a22 a23) e
 | 11=>λ e v=>F.rec (λ a0 a1 a2 a3 a4 a5 a6 a7 a8 a9 a10 a11 a12 a13 a14 a15 a16 a17 a18 a19 a20 a21 a22 a23=>F.mk a0 a1 a2 a3 a4 a5 a6 a7 a8 a9 a10 (some v) a12 a13 a14 a15 a16 a17 a18 a19 a20 a21 a22 a23) e
 | 12=>λ e v=>F.rec (λ a0 a1 a2 a3 a4 a5 a6 a7 a8 a9 a10 a11 a12 a13 a14 a15 a16 a17 a18 a19 a20 a21 a22 a23=>F.mk a0 a1 a2 a3 a4 a5 a6 a7 a8 a9 a10 a11 (some v) a13 a14 a15 a16 a17 a18 a19 a20 a21 a22 a23) e
 | 13=>λ e v=>F.rec (λ a0 a1 a2 a3 a4 a5 a6 a7 a8 a9 a10 a11 a12 a13 a14 a15 a16 a17 a18 a19 a20 a21 a22 a23=>F.mk a0 a1 a2 a3 a4 a5 a6 a7 a8 a9 a10 a11 a12 (some v) a14 a15 a16 a17 a18 a19 a20 a21 a22 a23) e
 | 14=>λ e v=>F.rec (λ a0 a1 a2 a3 a4 a5 a6 a7 a8 a9 a10 a11 a12 a13 a14 a15 a16 a17 a18 a19 a20 a21 a22 a23=>F.mk a0 a1 a2 a3 a4 a5 a6 a7 a8 a9 a10 a11 a12 a13 (some v) a15 a16 a17 a18 a19 a20 a21 a22 a23) e
 | 15=>λ e v=>F.rec (λ a0 a1 a2 a3 a4 a5 a6 a7 a8 a9 a10 a11 a12 a13 a14 a15 a16 a17 a18 a19 a20 a21 a22 a23=>F.mk a0 a1 a2 a3 a4 a5 a6 a7 a8 a9 a10 a11 a12 a13 a14 (some v) a16 a17 a18 a19 a20 a21 a22 a23) e
 | 16=>λ e v=>F.rec (λ a0 a1 a2 a3 a4 a5 a6 a7 a8 a9 a10 a11 a12 a13 a14 a15 a16 a17 a18 a19 a20 a21 a22 a23=>F.mk a0 a1 a2 a3 a4 a5 a6 a7 a8 a9 a10 a11 a12 a13 a14 a15 (some v) a17 a18 a19 a20 a21 a22 a23) e
 | 17=>λ e v=>F.rec (λ a0 a1 a2 a3 a4 a5 a6 a7 a8 a9 a10 a11 a12 a13 a14 a15 a16 a17 a18 a19 a20 a21 a22 a23=>F.mk a0 a1 a2 a3 a4 a5 a6 a7 a8 a9 a10 a11 a12 a13 a14 a15 a16 (some v) a18 a19 a20 a21 a22 a23) e
 | 18=>λ e v=>F.rec (λ a0 a1 a2 a3 a4 a5 a6 a7 a8 a9 a10 a11 a12 a13 a14 a15 a16 a17 a18 a19 a20 a21 a22 a23=>F.mk a0 a1 a2 a3 a4 a5 a6 a7 a8 a9 a10 a11 a12 a13 a14 a15 a16 a17 (some v) a19 a20 a21 a22 a23) e
 | 19=>λ e v=>F.rec (λ a0 a1 a2 a3 a4 a5 a6 a7 a8 a9 a10 a11 a12 a13 a14 a15 a16 a17 a18 a19 a20 a21 a22 a23=>F.mk a0 a1 a2 a3 a4 a5 a6 a7 a8 a9 a10 a11 a12 a13 a14 a15 a16 a17 a18 (some v) a20 a21 a22 a23) e
 | 20=>λ e v=>F.rec (λ a0 a1 a2 a3 a4 a5 a6 a7 a8 a9 a10 a11 a12 a13 a14 a15 a16 a17 a18 a19 a20 a21 a22 a23=>F.mk a0 a1 a2 a3 a4 a5 a6 a7 a8 a9 a10 a11 a12 a13 a14 a15 a16 a17 a18 a19 (some v) a21 a22 a23) e
 | 21=>λ e v=>F.rec (λ a0 a1 a2 a3 a4 a5 a6 a7 a8 a9 a10 a11 a12 a13 a14 a15 a16 a17 a18 a19 a20 a21 a22 a23=>F.mk a0 a1 a2 a3 a4 a5 a6 a7 a8 a9 a10 a11 a12 a13 a14 a15 a16 a17 a18 a19 a20 (some v) a22 a23) e
 | 22=>λ e v=>F.rec (λ a0 a1 a2 a3 a4 a5 a6 a7 a8 a9 a10 a11 a12 a13 a14 a15 a16 a17 a18 a19 a20 a21 a22 a23=>F.mk a0 a1 a2 a3 a4 a5 a6 a7 a8 a9 a10 a11 a12 a13 a14 a15 a16 a17 a18 a19 a20 a21 (some v) a23) e
 | 23=>λ e v=>F.rec (λ a0 a1 a2 a3 a4 a5 a6 a7 a8 a9 a10 a11 a12 a13 a14 a15 a16 a17 a18 a19 a20 a21 a22 a23=>F.mk a0 a1 a2 a3 a4 a5 a6 a7 a8 a9 a10 a11 a12 a13 a14 a15 a16 a17 a18 a19 a20 a21 a22 (some v)) e
 | _=>λ e _=>e
noncomputable def aU {α:Type} (l:List α) (i:Nat):Option α:=Nat.rec (motive:=λ _=>List α->Option α) (λ l=>List.rec none (λ a _ _=>some a) l) (λ _ ih l=>List.rec none (λ _ r _=>ih r) l) i l
noncomputable def bF {α:Type} (l:List α) (i:Nat) (x:α):List α:=Nat.rec (motive:=λ _=>List α->List α) (λ l=>List.rec [] (λ _ r _=>x::r) l) (λ _ ih l=>List.rec [] (λ a r _=>a::ih r) l) i l
theorem aE {α:Type}:∀ (i:Nat) (l:List α),aU l i=l[i]?
 | 0,[]=>rfl
 | 0,_::_=>rfl
 | _+1,[]=>rfl
 | i+1,_::l=>by
  rw [List.getElem?_cons_succ,<-aE i l]; rfl
theorem cF {α:Type} (x:α):∀ (i:Nat) (l:List α),bF l i x=l.set i x
 | 0,[]=>rfl
 | 0,_::_=>rfl
 | _+1,[]=>rfl
 | i+1,a::l=>by
  rw [List.set_cons_succ,<-cF x i l]; rfl
noncomputable def bA {α:Type} (o:Option (Option α)):Option α:=Option.rec none id o
def F.of (l:List (Option V)):F:=F.mk (bA (aU l 0)) (bA (aU l 1)) (bA (aU l 2)) (bA (aU l 3)) (bA (aU l 4)) (bA (aU l 5)) (bA (aU l 6)) (bA (aU l 7)) (bA (aU l 8)) (bA (aU l 9)) (bA (aU l 10)) (bA (aU l 11)) (bA (aU l 12)) (bA (aU l 13)) (bA (aU l 14)) (bA (aU l 15)) (bA (aU l 16)) (bA (aU l 17)) (bA (aU l 18)) (bA (aU l 19)) (bA (aU l 20)) (bA (aU l 21)) (bA (aU l 22)) (bA (aU l 23))
theorem F.get_list (i:Nat) (e:F):F.get i e=bA e.list[i]?:=match i with
 | 0=>rfl
 | 1=>rfl
 | 2=>rfl
 | 3=>rfl
 | 4=>rfl
 | 5=>rfl
 | 6=>rfl
 | 7=>rfl
 | 8=>rfl
 | 9=>rfl
 | 10=>rfl
 | 11=>rfl
 | 12=>rfl
 | 13=>rfl
 | 14=>rfl
 | 15=>rfl
 | 16=>rfl
 | 17=>rfl
 | 18=>rfl
 | 19=>rfl
 | 20=>rfl
 | 21=>rfl
 | 22=>rfl
 | 23=>rfl
 | n+24=>by
  have:e.list[n+24]?=none:=by rw [List.getElem?_eq_none_iff]; show 24≤n+24; simp [*]
  rw [this]; rfl
theorem F.list_set (i:Nat) (e:F) (v:V):(F.set i e v).list=e.list.set i (some v):=match i with
 | 0=>rfl
 | 1=>rfl
 | 2=>rfl
 | 3=>rfl
 | 4=>rfl
 | 5=>rfl
 | 6=>rfl
 | 7=>rfl
 | 8=>rfl
 | 9=>rfl
 | 10=>rfl
 | 11=>rfl
 | 12=>rfl
 | 13=>rfl
 | 14=>rfl
 | 15=>rfl
 | 16=>rfl
 | 17=>rfl
 | 18=>rfl
 | 19=>rfl
 | 20=>rfl
 | 21=>rfl
 | 22=>rfl
 | 23=>rfl
 | n+24=>by
  rw [List.set_eq_of_length_le (show 24≤n+24 by exact Nat.le_of_ble_eq_true rfl)]; rfl
theorem F.get_set_same {i:Nat} {e:F} {v w:V} (h:F.get i (F.set i e v)=some w):w=v:=by
 rw [F.get_list,F.list_set,List.getElem?_set_self'] at h;cases q:e.list[i]? with
 | none=>rw [q] at h; cases h
 | some z=>rw [q] at h; exact (Option.some.inj h).symm
theorem F.get_set_ne {i j:Nat} {e:F} {v:V} (hn:i≠j):F.get j (F.set i e v)=F.get j e:=by
 rw [F.get_list,F.list_set,List.getElem?_set_ne hn,<-F.get_list]
theorem F.of_list (l:List (Option V)):(F.of l).list=(List.range 24).map (λ i=>bA (aU l i)):=rfl
theorem F.get_of_eq (l:List (Option V)) (i:Nat) (h:i < 24):F.get i (F.of l)=bA (aU l i):=by
 rw [F.get_list,F.of_list,List.getElem?_map,List.getElem?_range h]; rfl
theorem F.get_of (l:List (Option V)) (i:Nat) {w:V} (h:F.get i (F.of l)=some w):l[i]?=some (some w):=by
 rcases Nat.lt_or_ge i 24 with c | c
 ·rw [F.get_of_eq l i c,aE] at h;cases q:l[i]? with
  | none=>rw [q] at h; cases h
  | some z=>rw [q] at h; exact congrArg some h
 ·rw [F.get_list,F.of_list,List.getElem?_eq_none (by rw [List.length_map,List.length_range]; exact c)] at h
  cases h
noncomputable abbrev aq:=List (Str×NameKind)
noncomputable def fC:aq->Str->Nat->Option (Nat×NameKind)
 | [],_,_=>none
 | (y,k)::r,x,n=>cond (y == x) (some (n,k)) (fC r x (Nat.succ n))
def dy (N:aq) (x:Str):Option (Nat×NameKind):=fC N x 0
theorem bn:∀ {N:aq} {x:Str} {n:Nat} {p:Nat×NameKind},fC N x n=some p->N.lookup x=some p.2∧∃ i,p.1=n+i∧N[i]?=some (x,p.2):=by
 intro N;induction N with
 | nil =>
  intro _ _ _ h;cases h
 | cons p9 r ih =>
  obtain ⟨y,k⟩:=p9;intro x n p h;unfold fC at h;cases q:y == x with
  | true =>
   rw [q] at h;cases h;have:=beq_iff_eq.mp q;subst this;exact ⟨by rw [List.lookup_cons,q],0,rfl,rfl⟩
  | false =>
   rw [q] at h;obtain ⟨h1,i,h2,h3⟩:=ih h;refine ⟨?_,i+1,by rw [h2]; exact Nat.succ_add_eq_add_succ _ _,h3⟩
   have:(x == y)=false:=beq_eq_false_iff_ne.mpr λ e=>by rw [e,beq_self_eq_true] at q; cases q
   rw [List.lookup_cons,this]; exact h1
theorem dz {N:aq} {x:Str} {i:Nat} {k:NameKind} (h:dy N x=some (i,k)):N.lookup x=some k:=(bn h).1
noncomputable def au {α β:Type} (x:Option α) (f:α->Option β):Option β:=Option.rec none f x
noncomputable def bs {α β:Type} (x:Option α) (f:α->β):Option β:=Option.rec none (λ a=>some (f a)) x
noncomputable def aB {α:Type} (c:Bool) (x y:α):α:=Bool.rec y x c
theorem xX {α β:Type} {x:Option α} {f:α->Option β} {r:β} (h:au x f=some r):∃ a,x=some a∧f a=some r:=by
 induction x using Option.casesOn with
 | none=>cases h
 | some a=>exact ⟨a,rfl,h⟩
theorem Bg {α β:Type} {x:Option α} {f:α->β} {r:β} (h:bs x f=some r):∃ a,x=some a∧f a=r:=by
 induction x using Option.casesOn with
 | none=>cases h
 | some a=>exact ⟨a,rfl,Option.some.inj h⟩
theorem tC {α:Type} {c:Bool} {x:Option α} {r:α} (h:aB c x none=some r):c=true∧x=some r:=by
 induction c using Bool.casesOn with
 | false=>cases h
 | true=>exact ⟨rfl,h⟩
theorem aa {α β:Type} {x:Option α} {f:α->Option β} {r:β} {G:Prop} (h:au x f=some r) (k:∀ a,x=some a->f a=some r->G):G :=
 (xX h).elim λ a h=>k a h.1 h.2
theorem az {α β:Type} {x:Option α} {f:α->β} {r:β} {G:Prop} (h:bs x f=some r) (k:∀ a,x=some a->f a=r->G):G :=
 (Bg h).elim λ a h=>k a h.1 h.2
theorem ai {α:Type} {c:Bool} {x:Option α} {r:α} {G:Prop} (h:aB c x none=some r) (k:c=true->x=some r->G):G :=
 k (tC h).1 (tC h).2
theorem En {α:Type} {c:Bool} {x:Option α} {r:α} (h:aB c none x=some r):c=false∧x=some r:=by
 induction c using Bool.casesOn with
 | false=>exact ⟨rfl,h⟩
 | true=>cases h
structure AE where
 loc:F
 cel:List (Option Nat)
 tab:Option Nat
structure eJ (α:Type) where
 f:AE->List O->Option α
noncomputable def eJ.no {α:Type}:eJ α:=⟨λ _ _=>none⟩
structure lX (α:Type) where
 f:AE->List O->α->Option (AE×List O)
noncomputable def lX.no {α:Type}:lX α:=⟨λ _ _ _=>none⟩
theorem fM {α:Type} {c:Bool} {x:eJ α} {ae:AE} {σ:List O} {r:α} (h:(aB c x eJ.no).f ae σ=some r):c=true∧x.f ae σ=some r:=by
 induction c using Bool.casesOn with
 | false=>cases h
 | true=>exact ⟨rfl,h⟩
theorem fW {α:Type} {c:Bool} {x:eJ α} {ae:AE} {σ:List O} {r:α} (h:(aB c eJ.no x).f ae σ=some r):c=false∧x.f ae σ=some r:=by
 induction c using Bool.casesOn with
 | false=>exact ⟨rfl,h⟩
 | true=>cases h
theorem G4 {α:Type} {c:Bool} {x:lX α} {ae:AE} {σ:List O} {v:α} {r:AE×List O} (h:(aB c x lX.no).f ae σ v=some r):c=true∧x.f ae σ v=some r:=by
 induction c using Bool.casesOn with
 | false=>cases h
 | true=>exact ⟨rfl,h⟩
end
section
noncomputable def kt {α β:Type} (d:β) (f:α->β) (o:Option α):β:=by
 induction o using Option.casesOn with
 | none=>exact d
 | some a=>exact f a
noncomputable def G5:Expr:=.Constant .none 0 ⟨0,0,0,0⟩
def qA (s:Stmt):Expr:=by
 induction s using Stmt.casesOn with
 | If t _ _ _=>exact t
 | While t _ _ _=>exact t
 | Return e _=>exact e.getD G5
 | Assign _ v _=>exact v
 | _=>exact G5
noncomputable def G6 (s:Stmt):List Stmt:=by
 induction s using Stmt.casesOn with
 | While _ b _ _=>exact b
 | _=>exact []
noncomputable def G7 (s:Stmt):List Expr:=by
 induction s using Stmt.casesOn with
 | Assign ts _ _=>exact ts
 | _=>exact []
def Dv (e:Expr):Expr:=by
 induction e using Expr.casesOn with
 | Call _ as _ _=>exact as.headD G5
 | _=>exact G5
def ir (e:Expr):Expr:=by
 induction e using Expr.casesOn with
 | ListComp e _ _ _=>exact e
 | _=>exact G5
noncomputable def bT (e:Expr):Bool:=by
 induction e using Expr.casesOn with
 | Starred=>exact false
 | _=>exact true
noncomputable def gm (e:Expr):Bool:=by
 induction e using Expr.casesOn with
 | Slice=>exact false
 | _=>exact true
noncomputable def gT (e:Expr):Bool:=by
 induction e using Expr.casesOn with
 | ListComp=>exact true
 | SetComp=>exact true
 | DictComp=>exact true
 | _=>exact false
noncomputable def lY (e:Expr):Bool:=by
 induction e using Expr.casesOn with
 | Set=>exact false
 | _=>exact true
noncomputable def Jj (e:Expr):Bool:=by
 induction e using Expr.casesOn with
 | Name=>exact true
 | _=>exact false
def gU (o:Expr):Bool:=by
 induction o using Expr.casesOn with
 | Call f args kws _=>exact !(Jj f && (args.isEmpty && kws.isEmpty))
 | _=>exact true
noncomputable def ww (e:Expr):Option Str:=by
 induction e using Expr.casesOn with
 | Name id _=>exact some id
 | _=>exact none
noncomputable def u7 (e:Expr):Option (Expr×Str×Pos):=by
 induction e using Expr.casesOn with
 | Attribute o n p=>exact some (o,n,p)
 | _=>exact none
noncomputable def IM (e:Expr):Option (Option Expr×Option Expr×Option Expr×Pos):=by
 induction e using Expr.casesOn with
 | Slice a b c p=>exact some (a,b,c,p)
 | _=>exact none
noncomputable def G8 (e:Expr):Option (List Expr):=by
 induction e using Expr.casesOn with
 | Tuple es _ _=>exact some es
 | _=>exact none
noncomputable def Jk (c:Const):Option Str:=by
 induction c using Const.casesOn with
 | str s=>exact some s
 | _=>exact none
def Eo (e:Expr):Option Str:=by
 induction e using Expr.casesOn with
 | Constant c _ _=>exact Jk c
 | _=>exact none
noncomputable def Kd (e:Expr):Option (Expr×Int×Option Expr):=by
 induction e using Expr.casesOn with
 | FormattedValue v c f _=>exact some (v,c,f)
 | _=>exact none
end
theorem eg {e:Expr} {x:Str} (h:ww e=some x):∃ p,e=.Name x p:=by
 induction e using Expr.casesOn with
 | Name id p=>obtain rfl:=Option.some.inj h; exact ⟨_,rfl⟩
 | _=>exact ac h
theorem tD {e:Expr} {q:Expr×Str×Pos} (h:u7 e=some q):e=.Attribute q.1 q.2.1 q.2.2:=by
 induction e using Expr.casesOn with
 | Attribute=>obtain rfl:=Option.some.inj h; rfl
 | _=>exact ac h
theorem Ep {e:Expr} {q:Option Expr×Option Expr×Option Expr×Pos} (h:IM e=some q):e=.Slice q.1 q.2.1 q.2.2.1 q.2.2.2:=by
 induction e using Expr.casesOn with
 | Slice=>obtain rfl:=Option.some.inj h; rfl
 | _=>exact ac h
theorem Bh {e:Expr} {es:List Expr} (h:G8 e=some es):∃ c p,e=.Tuple es c p:=by
 induction e using Expr.casesOn with
 | Tuple=>obtain rfl:=Option.some.inj h; exact ⟨_,_,rfl⟩
 | _=>exact ac h
theorem tE {e:Expr} {x:Str} (h:Eo e=some x):∃ k p,e=.Constant (.str x) k p:=by
 induction e using Expr.casesOn with
 | Constant c k p =>
  induction c using Const.casesOn with
  | str=>obtain rfl:=Option.some.inj h; exact ⟨_,_,rfl⟩
  | _=>exact ac h
 | _=>exact ac h
theorem Er {e:Expr} {q:Expr×Int×Option Expr} (h:Kd e=some q):∃ p,e=.FormattedValue q.1 q.2.1 q.2.2 p:=by
 induction e using Expr.casesOn with
 | FormattedValue=>obtain rfl:=Option.some.inj h; exact ⟨_,rfl⟩
 | _=>exact ac h
section
noncomputable def nR {α:Type} (l:List α):Option Unit:=by
 rcases l with _ | ⟨a,l⟩
 ·exact some ()
 ·exact none
def ku {α:Type} (l:List α):Option α:=by
 rcases l with _ | ⟨a,l⟩
 ·exact none
 ·exact bs (nR l) λ _=>a
def xY {α:Type} (l:List α):Option (α×α):=by
 rcases l with _ | ⟨a,l⟩
 ·exact none
 ·exact bs (ku l) λ b=>(a,b)
def Bi {α:Type} (l:List α):Option (α×α×α):=by
 rcases l with _ | ⟨a,l⟩
 ·exact none
 ·exact bs (xY l) λ b=>(a,b)
theorem aQ {α β:Type} {o:Option β} {d:α} {f:β->α} {r:α} {C:Prop} (h:(Option.rec d f o:α)=r) (k1:∀ x,o=some x->f x=r->C) (k2:d=r->C):C:=by
 induction o using Option.casesOn with
 | none=>exact k2 h
 | some x=>exact k1 x rfl h
noncomputable def Dw (v:V):Option (Unit):=by
 induction v using V.casesOn with
 | none=>exact some ()
 | _=>exact none
theorem xZ {v:V} {x:Unit} (h:Dw v=some x):v=.none:=by
 induction v using V.casesOn with
 | none=>rfl
 | _=>exact ac h
def cg {α:Type} (d:α) (f:α) (v:V):α:=Option.rec d (λ _=>f) (Dw v)
theorem bj {α:Type} {d:α} {f:α} {v:V} {r:α} {C:Prop} (k1:v=.none->f=r->C) (k2:d=r->C) (h:cg d f v=r):C:=aQ h (λ _ e=>k1 (xZ e)) k2
noncomputable def Dx (v:V):Option (Bool):=by
 induction v using V.casesOn with
 | bool a=>exact some a
 | _=>exact none
theorem ya {v:V} {x:Bool} (h:Dx v=some x):v=.bool x:=by
 induction v using V.casesOn with
 | bool=>exact congrArg V.bool (Option.some.inj h)
 | _=>exact ac h
def jr {α:Type} (d:α) (f:Bool->α) (v:V):α:=Option.rec d (f) (Dx v)
theorem gV {α:Type} {d:α} {f:Bool->α} {v:V} {r:α} {C:Prop} (k1:∀ a,v=.bool a->f a=r->C) (k2:d=r->C) (h:jr d f v=r):C:=aQ h (λ x e=>k1 x (ya e)) k2
noncomputable def u8 (v:V):Option (Int):=by
 induction v using V.casesOn with
 | int a=>exact some a
 | _=>exact none
theorem gn {v:V} {x:Int} (h:u8 v=some x):v=.int x:=by
 induction v using V.casesOn with
 | int=>exact congrArg V.int (Option.some.inj h)
 | _=>exact ac h
def bv {α:Type} (d:α) (f:Int->α) (v:V):α:=Option.rec d (f) (u8 v)
theorem bc {α:Type} {d:α} {f:Int->α} {v:V} {r:α} {C:Prop} (k1:∀ a,v=.int a->f a=r->C) (k2:d=r->C) (h:bv d f v=r):C:=aQ h (λ x e=>k1 x (gn e)) k2
noncomputable def yb (v:V):Option (AS):=by
 induction v using V.casesOn with
 | str a=>exact some a
 | _=>exact none
theorem lZ {v:V} {x:AS} (h:yb v=some x):v=.str x:=by
 induction v using V.casesOn with
 | str=>exact congrArg V.str (Option.some.inj h)
 | _=>exact ac h
def aV {α:Type} (d:α) (f:AS->α) (v:V):α:=Option.rec d (f) (yb v)
theorem ax {α:Type} {d:α} {f:AS->α} {v:V} {r:α} {C:Prop} (k1:∀ a,v=.str a->f a=r->C) (k2:d=r->C) (h:aV d f v=r):C:=aQ h (λ x e=>k1 x (lZ e)) k2
noncomputable def Ha (v:V):Option (Unit):=by
 induction v using V.casesOn with
 | lin=>exact some ()
 | _=>exact none
theorem Bj {v:V} {x:Unit} (h:Ha v=some x):v=.lin:=by
 induction v using V.casesOn with
 | lin=>rfl
 | _=>exact ac h
def eT {α:Type} (d:α) (f:α) (v:V):α:=Option.rec d (λ _=>f) (Ha v)
theorem dA {α:Type} {d:α} {f:α} {v:V} {r:α} {C:Prop} (k1:v=.lin->f=r->C) (k2:d=r->C) (h:eT d f v=r):C:=aQ h (λ _ e=>k1 (Bj e)) k2
noncomputable def yc (v:V):Option (Value):=by
 induction v using V.casesOn with
 | val a=>exact some a
 | _=>exact none
theorem l0 {v:V} {x:Value} (h:yc v=some x):v=.val x:=by
 induction v using V.casesOn with
 | val=>exact congrArg V.val (Option.some.inj h)
 | _=>exact ac h
def dB {α:Type} (d:α) (f:Value->α) (v:V):α:=Option.rec d (f) (yc v)
theorem bo {α:Type} {d:α} {f:Value->α} {v:V} {r:α} {C:Prop} (k1:∀ a,v=.val a->f a=r->C) (k2:d=r->C) (h:dB d f v=r):C:=aQ h (λ x e=>k1 x (l0 e)) k2
noncomputable def Dy (v:V):Option (Unit):=by
 induction v using V.casesOn with
 | eset=>exact some ()
 | _=>exact none
theorem yd {v:V} {x:Unit} (h:Dy v=some x):v=.eset:=by
 induction v using V.casesOn with
 | eset=>rfl
 | _=>exact ac h
def l5 {α:Type} (d:α) (f:α) (v:V):α:=Option.rec d (λ _=>f) (Dy v)
theorem kS {α:Type} {d:α} {f:α} {v:V} {r:α} {C:Prop} (k1:v=.eset->f=r->C) (k2:d=r->C) (h:l5 d f v=r):C:=aQ h (λ _ e=>k1 (yd e)) k2
noncomputable def ye (v:V):Option (Nat):=by
 induction v using V.casesOn with
 | ref a=>exact some a
 | _=>exact none
theorem iW {v:V} {x:Nat} (h:ye v=some x):v=.ref x:=by
 induction v using V.casesOn with
 | ref=>exact congrArg V.ref (Option.some.inj h)
 | _=>exact ac h
def eK {α:Type} (d:α) (f:Nat->α) (v:V):α:=Option.rec d (f) (ye v)
theorem cm {α:Type} {d:α} {f:Nat->α} {v:V} {r:α} {C:Prop} (k1:∀ a,v=.ref a->f a=r->C) (k2:d=r->C) (h:eK d f v=r):C:=aQ h (λ x e=>k1 x (iW e)) k2
noncomputable def nS (v:V):Option (List V):=by
 induction v using V.casesOn with
 | tup a=>exact some a
 | _=>exact none
theorem iX {v:V} {x:List V} (h:nS v=some x):v=.tup x:=by
 induction v using V.casesOn with
 | tup=>exact congrArg V.tup (Option.some.inj h)
 | _=>exact ac h
def eU {α:Type} (d:α) (f:List V->α) (v:V):α:=Option.rec d (f) (nS v)
theorem eV {α:Type} {d:α} {f:List V->α} {v:V} {r:α} {C:Prop} (k1:∀ a,v=.tup a->f a=r->C) (k2:d=r->C) (h:eU d f v=r):C:=aQ h (λ x e=>k1 x (iX e)) k2
noncomputable def Hc (v:V):Option (List V):=by
 induction v using V.casesOn with
 | lst a=>exact some a
 | _=>exact none
theorem Bk {v:V} {x:List V} (h:Hc v=some x):v=.lst x:=by
 induction v using V.casesOn with
 | lst=>exact congrArg V.lst (Option.some.inj h)
 | _=>exact ac h
def jt {α:Type} (d:α) (f:List V->α) (v:V):α:=Option.rec d (f) (Hc v)
theorem eW {α:Type} {d:α} {f:List V->α} {v:V} {r:α} {C:Prop} (k1:∀ a,v=.lst a->f a=r->C) (k2:d=r->C) (h:jt d f v=r):C:=aQ h (λ x e=>k1 x (Bk e)) k2
noncomputable def Es (v:V):Option (Addr×List V):=by
 induction v using V.casesOn with
 | mat a b=>exact some (a,b)
 | _=>exact none
theorem tF {v:V} {x:Addr×List V} (h:Es v=some x):v=.mat x.1 x.2:=by
 induction v using V.casesOn with
 | mat=>exact (by obtain rfl:=Option.some.inj h; rfl)
 | _=>exact ac h
def yf {α:Type} (d:α) (f:Addr->List V->α) (v:V):α:=Option.rec d (λ x=>f x.1 x.2) (Es v)
theorem yg {α:Type} {d:α} {f:Addr->List V->α} {v:V} {r:α} {C:Prop} (k1:∀ a b,v=.mat a b->f a b=r->C) (k2:d=r->C) (h:yf d f v=r):C:=aQ h (λ x e=>k1 x.1 x.2 (tF e)) k2
noncomputable def Dz (v:V):Option (Addr×Nat):=by
 induction v using V.casesOn with
 | inst a b=>exact some (a,b)
 | _=>exact none
theorem yh {v:V} {x:Addr×Nat} (h:Dz v=some x):v=.inst x.1 x.2:=by
 induction v using V.casesOn with
 | inst=>exact (by obtain rfl:=Option.some.inj h; rfl)
 | _=>exact ac h
def cW {α:Type} (d:α) (f:Addr->Nat->α) (v:V):α:=Option.rec d (λ x=>f x.1 x.2) (Dz v)
theorem bU {α:Type} {d:α} {f:Addr->Nat->α} {v:V} {r:α} {C:Prop} (k1:∀ a b,v=.inst a b->f a b=r->C) (k2:d=r->C) (h:cW d f v=r):C:=aQ h (λ x e=>k1 x.1 x.2 (yh e)) k2
noncomputable def Ke (v:V):Option (String×V):=by
 induction v using V.casesOn with
 | bm a b=>exact some (a,b)
 | _=>exact none
theorem Et {v:V} {x:String×V} (h:Ke v=some x):v=.bm x.1 x.2:=by
 induction v using V.casesOn with
 | bm=>exact (by obtain rfl:=Option.some.inj h; rfl)
 | _=>exact ac h
def Bl {α:Type} (d:α) (f:String->V->α) (v:V):α:=Option.rec d (λ x=>f x.1 x.2) (Ke v)
theorem iY {α:Type} {d:α} {f:String->V->α} {v:V} {r:α} {C:Prop} (k1:∀ a b,v=.bm a b->f a b=r->C) (k2:d=r->C) (h:Bl d f v=r):C:=aQ h (λ x e=>k1 x.1 x.2 (Et e)) k2
noncomputable def Hd (v:V):Option (Int×Int):=by
 induction v using V.casesOn with
 | rng a b=>exact some (a,b)
 | _=>exact none
def nT {α:Type} (d:α) (f:Int->Int->α) (v:V):α:=Option.rec d (λ x=>f x.1 x.2) (Hd v)
noncomputable def Hg (v:V):Option (lR):=by
 induction v using V.casesOn with
 | clo a=>exact some a
 | _=>exact none
theorem Bm {v:V} {x:lR} (h:Hg v=some x):v=.clo x:=by
 induction v using V.casesOn with
 | clo=>exact congrArg V.clo (Option.some.inj h)
 | _=>exact ac h
def yi {α:Type} (d:α) (f:lR->α) (v:V):α:=Option.rec d (f) (Hg v)
theorem nU {α:Type} {d:α} {f:lR->α} {v:V} {r:α} {C:Prop} (k1:∀ a,v=.clo a->f a=r->C) (k2:d=r->C) (h:yi d f v=r):C:=aQ h (λ x e=>k1 x (Bm e)) k2
noncomputable def Eu (v:V):Option (Nat):=by
 induction v using V.casesOn with
 | iat a=>exact some a
 | _=>exact none
theorem tG {v:V} {x:Nat} (h:Eu v=some x):v=.iat x:=by
 induction v using V.casesOn with
 | iat=>exact congrArg V.iat (Option.some.inj h)
 | _=>exact ac h
def yj {α:Type} (d:α) (f:Nat->α) (v:V):α:=Option.rec d (f) (Eu v)
theorem nW {α:Type} {d:α} {f:Nat->α} {v:V} {r:α} {C:Prop} (k1:∀ a,v=.iat a->f a=r->C) (k2:d=r->C) (h:yj d f v=r):C:=aQ h (λ x e=>k1 x (tG e)) k2
noncomputable def Hh (v:V):Option (Unit):=by
 induction v using V.casesOn with
 | scr=>exact some ()
 | _=>exact none
theorem Bn {v:V} {x:Unit} (h:Hh v=some x):v=.scr:=by
 induction v using V.casesOn with
 | scr=>rfl
 | _=>exact ac h
def DA {α:Type} (d:α) (f:α) (v:V):α:=Option.rec d (λ _=>f) (Hh v)
theorem yk {α:Type} {d:α} {f:α} {v:V} {r:α} {C:Prop} (k1:v=.scr->f=r->C) (k2:d=r->C) (h:DA d f v=r):C:=aQ h (λ _ e=>k1 (Bn e)) k2
noncomputable def Hi (v:V):Option (Nat×AS×Bool):=by
 induction v using V.casesOn with
 | pos a b c=>exact some (a,b,c)
 | _=>exact none
theorem Bo {v:V} {x:Nat×AS×Bool} (h:Hi v=some x):v=.pos x.1 x.2.1 x.2.2:=by
 induction v using V.casesOn with
 | pos=>exact (by obtain rfl:=Option.some.inj h; rfl)
 | _=>exact ac h
def eX {α:Type} (d:α) (f:Nat->AS->Bool->α) (v:V):α:=Option.rec d (λ x=>f x.1 x.2.1 x.2.2) (Hi v)
theorem cn {α:Type} {d:α} {f:Nat->AS->Bool->α} {v:V} {r:α} {C:Prop} (k1:∀ a b c,v=.pos a b c->f a b c=r->C) (k2:d=r->C) (h:eX d f v=r):C:=aQ h (λ x e=>k1 x.1 x.2.1 x.2.2 (Bo e)) k2
noncomputable def DB (v:V):Option (Unit):=by
 induction v using V.casesOn with
 | pend=>exact some ()
 | _=>exact none
theorem yl {v:V} {x:Unit} (h:DB v=some x):v=.pend:=by
 induction v using V.casesOn with
 | pend=>rfl
 | _=>exact ac h
def ej {α:Type} (d:α) (f:α) (v:V):α:=Option.rec d (λ _=>f) (DB v)
theorem dq {α:Type} {d:α} {f:α} {v:V} {r:α} {C:Prop} (k1:v=.pend->f=r->C) (k2:d=r->C) (h:ej d f v=r):C:=aQ h (λ _ e=>k1 (yl e)) k2
noncomputable def Hj (v:V):Option (Unit):=by
 induction v using V.casesOn with
 | obj=>exact some ()
 | _=>exact none
theorem Bp {v:V} {x:Unit} (h:Hj v=some x):v=.obj:=by
 induction v using V.casesOn with
 | obj=>rfl
 | _=>exact ac h
def ym {α:Type} (d:α) (f:α) (v:V):α:=Option.rec d (λ _=>f) (Hj v)
theorem yn {α:Type} {d:α} {f:α} {v:V} {r:α} {C:Prop} (k1:v=.obj->f=r->C) (k2:d=r->C) (h:ym d f v=r):C:=aQ h (λ _ e=>k1 (Bp e)) k2
noncomputable def Hk (v:V):Option (Unit):=by
 induction v using V.casesOn with
 | edq=>exact some ()
 | _=>exact none
theorem Bq {v:V} {x:Unit} (h:Hk v=some x):v=.edq:=by
 induction v using V.casesOn with
 | edq=>rfl
 | _=>exact ac h
def tH {α:Type} (d:α) (f:α) (v:V):α:=Option.rec d (λ _=>f) (Hk v)
theorem nX {α:Type} {d:α} {f:α} {v:V} {r:α} {C:Prop} (k1:v=.edq->f=r->C) (k2:d=r->C) (h:tH d f v=r):C:=aQ h (λ _ e=>k1 (Bq e)) k2
noncomputable def Hl (v:V):Option (Unit):=by
 induction v using V.casesOn with
 | fnc=>exact some ()
 | _=>exact none
theorem Br {v:V} {x:Unit} (h:Hl v=some x):v=.fnc:=by
 induction v using V.casesOn with
 | fnc=>rfl
 | _=>exact ac h
def DC {α:Type} (d:α) (f:α) (v:V):α:=Option.rec d (λ _=>f) (Hl v)
theorem yo {α:Type} {d:α} {f:α} {v:V} {r:α} {C:Prop} (k1:v=.fnc->f=r->C) (k2:d=r->C) (h:DC d f v=r):C:=aQ h (λ _ e=>k1 (Br e)) k2
noncomputable def yp (v:O):Option (List V):=by
 induction v using O.casesOn with
 | list a=>exact some a
 | _=>exact none
theorem u9 {v:O} {x:List V} (h:yp v=some x):v=.list x:=by
 induction v using O.casesOn with
 | list=>exact congrArg O.list (Option.some.inj h)
 | _=>exact ac h
def fD {α:Type} (d:α) (f:List V->α) (v:O):α:=Option.rec d (f) (yp v)
theorem fX {α:Type} {d:α} {f:List V->α} {v:O} {r:α} {C:Prop} (k1:∀ a,v=.list a->f a=r->C) (k2:d=r->C) (h:fD d f v=r):C:=aQ h (λ x e=>k1 x (u9 e)) k2
noncomputable def DD (v:O):Option (List (Str×V)):=by
 induction v using O.casesOn with
 | fld a=>exact some a
 | _=>exact none
theorem yq {v:O} {x:List (Str×V)} (h:DD v=some x):v=.fld x:=by
 induction v using O.casesOn with
 | fld=>exact congrArg O.fld (Option.some.inj h)
 | _=>exact ac h
def qB {α:Type} (d:α) (f:List (Str×V)->α) (v:O):α:=Option.rec d (f) (DD v)
theorem va {α:Type} {d:α} {f:List (Str×V)->α} {v:O} {r:α} {C:Prop} (k1:∀ a,v=.fld a->f a=r->C) (k2:d=r->C) (h:qB d f v=r):C:=aQ h (λ x e=>k1 x (yq e)) k2
noncomputable def yr (v:O):Option (List (AS×V)):=by
 induction v using O.casesOn with
 | smap a=>exact some a
 | _=>exact none
theorem vb {v:O} {x:List (AS×V)} (h:yr v=some x):v=.smap x:=by
 induction v using O.casesOn with
 | smap=>exact congrArg O.smap (Option.some.inj h)
 | _=>exact ac h
def iZ {α:Type} (d:α) (f:List (AS×V)->α) (v:O):α:=Option.rec d (f) (yr v)
theorem ju {α:Type} {d:α} {f:List (AS×V)->α} {v:O} {r:α} {C:Prop} (k1:∀ a,v=.smap a->f a=r->C) (k2:d=r->C) (h:iZ d f v=r):C:=aQ h (λ x e=>k1 x (vb e)) k2
noncomputable def yt (v:O):Option (List (Int×V)):=by
 induction v using O.casesOn with
 | imap a=>exact some a
 | _=>exact none
theorem vc {v:O} {x:List (Int×V)} (h:yt v=some x):v=.imap x:=by
 induction v using O.casesOn with
 | imap=>exact congrArg O.imap (Option.some.inj h)
 | _=>exact ac h
def i3 {α:Type} (d:α) (f:List (Int×V)->α) (v:O):α:=Option.rec d (f) (yt v)
theorem jv {α:Type} {d:α} {f:List (Int×V)->α} {v:O} {r:α} {C:Prop} (k1:∀ a,v=.imap a->f a=r->C) (k2:d=r->C) (h:i3 d f v=r):C:=aQ h (λ x e=>k1 x (vc e)) k2
noncomputable def yu (v:O):Option (Unit):=by
 induction v using O.casesOn with
 | dnil=>exact some ()
 | _=>exact none
theorem vd {v:O} {x:Unit} (h:yu v=some x):v=.dnil:=by
 induction v using O.casesOn with
 | dnil=>rfl
 | _=>exact ac h
def gp {α:Type} (d:α) (f:α) (v:O):α:=Option.rec d (λ _=>f) (yu v)
theorem fY {α:Type} {d:α} {f:α} {v:O} {r:α} {C:Prop} (k1:v=.dnil->f=r->C) (k2:d=r->C) (h:gp d f v=r):C:=aQ h (λ _ e=>k1 (vd e)) k2
noncomputable def yv (v:O):Option (Option V):=by
 induction v using O.casesOn with
 | cell a=>exact some a
 | _=>exact none
theorem ve {v:O} {x:Option V} (h:yv v=some x):v=.cell x:=by
 induction v using O.casesOn with
 | cell=>exact congrArg O.cell (Option.some.inj h)
 | _=>exact ac h
def fE {α:Type} (d:α) (f:Option V->α) (v:O):α:=Option.rec d (f) (yv v)
theorem jw {α:Type} {d:α} {f:Option V->α} {v:O} {r:α} {C:Prop} (k1:∀ a,v=.cell a->f a=r->C) (k2:d=r->C) (h:fE d f v=r):C:=aQ h (λ x e=>k1 x (ve e)) k2
noncomputable def DE (v:O):Option (List Pos):=by
 induction v using O.casesOn with
 | tab a=>exact some a
 | _=>exact none
theorem yw {v:O} {x:List Pos} (h:DE v=some x):v=.tab x:=by
 induction v using O.casesOn with
 | tab=>exact congrArg O.tab (Option.some.inj h)
 | _=>exact ac h
def yx {α:Type} (d:α) (f:List Pos->α) (v:O):α:=Option.rec d (f) (DE v)
theorem vf {α:Type} {d:α} {f:List Pos->α} {v:O} {r:α} {C:Prop} (k1:∀ a,v=.tab a->f a=r->C) (k2:d=r->C) (h:yx d f v=r):C:=aQ h (λ x e=>k1 x (yw e)) k2
noncomputable def Ew (v:O):Option (Str):=by
 induction v using O.casesOn with
 | tabF a=>exact some a
 | _=>exact none
def Bs {α:Type} (d:α) (f:Str->α) (v:O):α:=Option.rec d (f) (Ew v)
noncomputable def yy (v:O):Option (Unit):=by
 induction v using O.casesOn with
 | tabT=>exact some ()
 | _=>exact none
theorem vg {v:O} {x:Unit} (h:yy v=some x):v=.tabT:=by
 induction v using O.casesOn with
 | tabT=>rfl
 | _=>exact ac h
def gq {α:Type} (d:α) (f:α) (v:O):α:=Option.rec d (λ _=>f) (yy v)
theorem fZ {α:Type} {d:α} {f:α} {v:O} {r:α} {C:Prop} (k1:v=.tabT->f=r->C) (k2:d=r->C) (h:gq d f v=r):C:=aQ h (λ _ e=>k1 (vg e)) k2
noncomputable def DF (v:O):Option (List V):=by
 induction v using O.casesOn with
 | acc a=>exact some a
 | _=>exact none
theorem yz {v:O} {x:List V} (h:DF v=some x):v=.acc x:=by
 induction v using O.casesOn with
 | acc=>exact congrArg O.acc (Option.some.inj h)
 | _=>exact ac h
def jx {α:Type} (d:α) (f:List V->α) (v:O):α:=Option.rec d (f) (DF v)
theorem gW {α:Type} {d:α} {f:List V->α} {v:O} {r:α} {C:Prop} (k1:∀ a,v=.acc a->f a=r->C) (k2:d=r->C) (h:jx d f v=r):C:=aQ h (λ x e=>k1 x (yz e)) k2
noncomputable def yA (v:Value):Option (Addr):=by
 induction v using Value.casesOn with
 | ref a=>exact some a
 | _=>exact none
theorem i4 {v:Value} {x:Addr} (h:yA v=some x):v=.ref x:=by
 induction v using Value.casesOn with
 | ref=>exact congrArg Value.ref (Option.some.inj h)
 | _=>exact ac h
def em {α:Type} (d:α) (f:Addr->α) (v:Value):α:=Option.rec d (f) (yA v)
theorem bM {α:Type} {d:α} {f:Addr->α} {v:Value} {r:α} {C:Prop} (k1:∀ a,v=.ref a->f a=r->C) (k2:d=r->C) (h:em d f v=r):C:=aQ h (λ x e=>k1 x (i4 e)) k2
noncomputable def Hm (v:Value):Option (String):=by
 induction v using Value.casesOn with
 | type a=>exact some a
 | _=>exact none
theorem qC {v:Value} {x:String} (h:Hm v=some x):v=.type x:=by
 induction v using Value.casesOn with
 | type=>exact congrArg Value.type (Option.some.inj h)
 | _=>exact ac h
def dL {α:Type} (d:α) (f:String->α) (v:Value):α:=Option.rec d (f) (Hm v)
theorem bG {α:Type} {d:α} {f:String->α} {v:Value} {r:α} {C:Prop} (k1:∀ a,v=.type a->f a=r->C) (k2:d=r->C) (h:dL d f v=r):C:=aQ h (λ x e=>k1 x (qC e)) k2
noncomputable def kT (v:Value):Option (String):=by
 induction v using Value.casesOn with
 | builtin a=>exact some a
 | _=>exact none
theorem l6 {v:Value} {x:String} (h:kT v=some x):v=.builtin x:=by
 induction v using Value.casesOn with
 | builtin=>exact congrArg Value.builtin (Option.some.inj h)
 | _=>exact ac h
def f0 {α:Type} (d:α) (f:String->α) (v:Value):α:=Option.rec d (f) (kT v)
theorem cK {α:Type} {d:α} {f:String->α} {v:Value} {r:α} {C:Prop} (k1:∀ a,v=.builtin a->f a=r->C) (k2:d=r->C) (h:f0 d f v=r):C:=aQ h (λ x e=>k1 x (l6 e)) k2
noncomputable def Hn (v:AC):Option (Nat):=by
 induction v using AC.casesOn with
 | lit a=>exact some a
 | _=>exact none
theorem Bt {v:AC} {x:Nat} (h:Hn v=some x):v=.lit x:=by
 induction v using AC.casesOn with
 | lit=>exact congrArg AC.lit (Option.some.inj h)
 | _=>exact ac h
def kU {α:Type} (d:α) (f:Nat->α) (v:AC):α:=Option.rec d (f) (Hn v)
theorem gu {α:Type} {d:α} {f:Nat->α} {v:AC} {r:α} {C:Prop} (k1:∀ a,v=.lit a->f a=r->C) (k2:d=r->C) (h:kU d f v=r):C:=aQ h (λ x e=>k1 x (Bt e)) k2
noncomputable def Ho {β:Type} (v:List β):Option (Unit):=by
 induction v using List.casesOn with
 | nil=>exact some ()
 | _=>exact none
theorem Bu {β:Type} {v:List β} {x:Unit} (h:Ho v=some x):v=.nil:=by
 induction v using List.casesOn with
 | nil=>rfl
 | _=>exact ac h
def bg {β:Type} {α:Type} (d:α) (f:α) (v:List β):α:=Option.rec d (λ _=>f) (Ho v)
theorem aM {β:Type} {α:Type} {d:α} {f:α} {v:List β} {r:α} {C:Prop} (k1:v=.nil->f=r->C) (k2:d=r->C) (h:bg d f v=r):C:=aQ h (λ _ e=>k1 (Bu e)) k2
noncomputable def DG {β:Type} (v:List β):Option (β×List β):=by
 induction v using List.casesOn with
 | cons a b=>exact some (a,b)
 | _=>exact none
theorem yB {β:Type} {v:List β} {x:β×List β} (h:DG v=some x):v=.cons x.1 x.2:=by
 induction v using List.casesOn with
 | cons=>exact (by obtain rfl:=Option.some.inj h; rfl)
 | _=>exact ac h
def aR {β:Type} {α:Type} (d:α) (f:β->List β->α) (v:List β):α:=Option.rec d (λ x=>f x.1 x.2) (DG v)
theorem av {β:Type} {α:Type} {d:α} {f:β->List β->α} {v:List β} {r:α} {C:Prop} (k1:∀ a b,v=.cons a b->f a b=r->C) (k2:d=r->C) (h:aR d f v=r):C:=aQ h (λ x e=>k1 x.1 x.2 (yB e)) k2
noncomputable def DH {β:Type} (v:Option β):Option (β):=by
 induction v using Option.casesOn with
 | some a=>exact some a
 | _=>exact none
theorem yC {β:Type} {v:Option β} {x:β} (h:DH v=some x):v=.some x:=by
 induction v using Option.casesOn with
 | some=>exact congrArg Option.some (Option.some.inj h)
 | _=>exact ac h
def l7 {β:Type} {α:Type} (d:α) (f:β->α) (v:Option β):α:=Option.rec d (f) (DH v)
theorem gX {β:Type} {α:Type} {d:α} {f:β->α} {v:Option β} {r:α} {C:Prop} (k1:∀ a,v=.some a->f a=r->C) (k2:d=r->C) (h:l7 d f v=r):C:=aQ h (λ x e=>k1 x (yC e)) k2
noncomputable def yD {β:Type} (v:Option β):Option (Unit):=by
 induction v using Option.casesOn with
 | none=>exact some ()
 | _=>exact none
theorem vh {β:Type} {v:Option β} {x:Unit} (h:yD v=some x):v=.none:=by
 induction v using Option.casesOn with
 | none=>rfl
 | _=>exact ac h
def tI {β:Type} {α:Type} (d:α) (f:α) (v:Option β):α:=Option.rec d (λ _=>f) (yD v)
theorem qD {β:Type} {α:Type} {d:α} {f:α} {v:Option β} {r:α} {C:Prop} (k1:v=.none->f=r->C) (k2:d=r->C) (h:tI d f v=r):C:=aQ h (λ _ e=>k1 (vh e)) k2
noncomputable def DI (v:Bool):Option (Unit):=by
 induction v using Bool.casesOn with
 | true=>exact some ()
 | _=>exact none
theorem yE {v:Bool} {x:Unit} (h:DI v=some x):v=.true:=by
 induction v using Bool.casesOn with
 | true=>rfl
 | _=>exact ac h
def yF {α:Type} (d:α) (f:α) (v:Bool):α:=Option.rec d (λ _=>f) (DI v)
theorem vi {α:Type} {d:α} {f:α} {v:Bool} {r:α} {C:Prop} (k1:v=.true->f=r->C) (k2:d=r->C) (h:yF d f v=r):C:=aQ h (λ _ e=>k1 (yE e)) k2
noncomputable def yG {β γ:Type} {α:Type} (d:α) (f:β->γ->α) (v:β×γ):α:=f v.1 v.2
theorem vj {β γ:Type} {α:Type} {d:α} {f:β->γ->α} {v:β×γ} {r:α} {C:Prop} (k1:∀ a b,v=(a,b)->f a b=r->C) (k2:d=r->C) (h:yG d f v=r):C:=k1 _ _ rfl h
noncomputable def aP {α:Type} (x:α):α:=x
theorem ar {α:Type} {x r:α} (h:aP x=r):x=r:=h
noncomputable def aO {α:Type} (x:α):α:=x
theorem af {α:Type} {x r:α} (h:aO x=r):x=r:=h
theorem Bv {α:Type} {d:α} {f:AS->α} {x:AS} {r:α} (h:aV d f (.str x)=r):f x=r:=h
end
theorem ew {α:Type} {l:List α} {q:Unit} (h:nR l=some q):l=[]:=by
 rcases l with _ | ⟨a,l⟩
 ·rfl
 ·exact ac h
theorem dh {α:Type} {l:List α} {q:α} (h:ku l=some q):l=[q]:=by
 rcases l with _ | ⟨a,l⟩
 ·exact ac h
 ·obtain ⟨u,h1,rfl⟩:=Bg h; rw [ew h1]
noncomputable def Kf (c:AC):Option Nat:=AC.rec (λ _=>none) (λ k=>some k) c
theorem Ex {c:AC} {k:Nat} (h:Kf c=some k):c=.at k:=by
 induction c using AC.casesOn with
 | lit=>exact ac h
 | «at» j=>exact congrArg _ (Option.some.inj h)
def tJ (v:V):Option Nat:=au (yb v) λ x=>au (ku x) Kf
theorem tK {v:V} {k:Nat} (h:tJ v=some k):v=.str [.at k]:=by
 obtain ⟨x,h1,h⟩:=xX h;obtain ⟨c,h2,h⟩:=xX h;rw [lZ h1,dh h2,Ex h]
theorem i5 {α:Type} {l:List α} {q:α×α} (h:xY l=some q):l=[q.1,q.2]:=by
 rcases l with _ | ⟨a,l⟩
 ·exact ac h
 ·obtain ⟨u,h1,rfl⟩:=Bg h; rw [dh h1]
theorem l8 {α:Type} {l:List α} {q:α×α×α} (h:Bi l=some q):l=[q.1,q.2.1,q.2.2]:=by
 rcases l with _ | ⟨a,l⟩
 ·exact ac h
 ·obtain ⟨u,h1,rfl⟩:=Bg h; rw [i5 h1]
theorem f7 {α:Type} {C:Prop} {a b:String} {x y:Option α} {r:α} (h:aB (a == b) x y=some r) (k1:a=b->x=some r->C) (k2:y=some r->C):C:=by
 cases q:a == b with
 | true=>rw [q] at h; exact k1 (beq_iff_eq.mp q) h
 | false=>rw [q] at h; exact k2 h
section
inductive Fl where
 | next | brk | cont | ret (v:V)
structure eO where
 glob:Str->Option V
 call:V->List V->List O->Option (V×List O)
 getM:V->Str->List O->Option (V×List V)
 attr:V->Str->List O->Option (V×List O)
 bin:Operator->V->V->List O->Option (V×List O)
 una:UnaryOp->V->List O->Option (V×List O)
 cmp:CmpOp->V->V->List O->Option Bool
 tru:V->List O->Option Bool
 item:V->V->List O->Option (V×List O)
 cut:V->V->V->List O->Option (V×List O)
 inp:Operator->V->V->List O->Option (V×List O)
 setA:V->Str->V->List O->Option (List O)
 setI:V->V->V->List O->Option (List O)
structure Ev where
 E:aq->Expr->eJ (V×List O)
 T:aq->Expr->eJ (Bool×List O)
def qE:Const->Option V
 | Const.none=>some .none
 | Const.bool b=>some (.bool b)
 | Const.int i=>some (.int i)
 | Const.str s=>some (.str (fV s))
 | _=>none
def yH (i:Nat):eJ V:=⟨λ env σ=>au (aU env.cel i) λ o=>au o λ c=>au (aU σ c) λ o=>(fE none (λ v=>v) o)⟩
def yI (Φ:eO) (id:Str) (i:Nat) (k:NameKind):eJ V:=match k with
 | .local=>⟨λ env _=>F.get i env.loc⟩
 | .globalImplicit=>⟨λ _ _=>Φ.glob id⟩
 | .cell=>yH i
 | .free=>yH i
 | _=>.no
def b9 (Φ:eO) (N:aq) (id:Str):eJ V :=
 aB (id == ("__debug__" : Str) || id == ("__classdict__" : Str)) .no (match dy N id with
  | some p=>yI Φ id p.1 p.2
  | none=>.no)
def tL (ev:Ev) (N:aq):List Expr->eJ (List V×List O)
 | []=>⟨λ _ σ=>some ([],σ)⟩
 | e::r=>aB (bT e) ⟨λ env σ=>au ((ev.E N e).f env σ) λ p=>au ((tL ev N r).f env p.2) λ q=>some (p.1::q.1,q.2)⟩ .no
noncomputable def Jl (ev:Ev) (N:aq):Option Expr->eJ (V×List O)
 | none=>⟨λ _ σ=>some (.none,σ)⟩
 | some e=>ev.E N e
def cp (Φ:eO) (ev:Ev) (N:aq) (e:Expr):eJ (V×List O):=by
 induction e using Expr.casesOn with
 | Constant c _ _=>exact ⟨λ _ σ=>bs (qE c) λ v=>(v,σ)⟩
 | Name id _=>exact ⟨λ env σ=>bs ((b9 Φ N id).f env σ) λ v=>(v,σ)⟩
 | BinOp l op r _=>exact ⟨λ env σ=>au ((ev.E N l).f env σ) λ p=>au ((ev.E N r).f env p.2) λ q=>Φ.bin op p.1 q.1 q.2⟩
 | UnaryOp op x _=>exact ⟨λ env σ=>au ((ev.E N x).f env σ) λ p=>Φ.una op p.1 p.2⟩
 | IfExp t a b _=>exact ⟨λ env σ=>au ((ev.T N t).f env σ) λ p=>aB p.1 ((ev.E N a).f env p.2) ((ev.E N b).f env p.2)⟩
 | Compare l ops rs _ =>
  induction ops using List.casesOn with
  | nil=>exact .no
  | cons op ops =>
  induction ops using List.casesOn with
  | cons=>exact .no
  | nil =>
  induction rs using List.casesOn with
  | nil=>exact .no
  | cons r rs =>
  induction rs using List.casesOn with
  | cons=>exact .no
  | nil=>exact aB (behindInMarks op r) .no ⟨λ env σ=>au ((ev.E N l).f env σ) λ p=>au ((ev.E N r).f env p.2) λ q=>bs (Φ.cmp op p.1 q.1 q.2) λ b=>(.bool b,q.2)⟩
 | Tuple es _ _=>exact ⟨λ env σ=>au ((tL ev N es).f env σ) λ p=>aB (Nat.ble p.1.length 1000) (some (.tup p.1,p.2)) none⟩
 | List es _ =>
  induction es using List.casesOn with
  | nil=>exact ⟨λ _ σ=>some (.ref σ.length,σ++[.list []])⟩
  | cons e es=>exact ⟨λ env σ=>au ((tL ev N (e::es)).f env σ) λ p=>aB (Nat.ble p.1.length 1000) (some (.lst p.1,p.2)) none⟩
 | Dict ks vs _ =>
  induction ks using List.casesOn with
  | cons=>exact .no
  | nil =>
  induction vs using List.casesOn with
  | cons=>exact .no
  | nil=>exact ⟨λ _ σ=>some (.ref σ.length,σ++[.dnil])⟩
 | Call f args kws pos =>
  induction kws using List.casesOn with
  | cons=>exact .no
  | nil=>exact kt ⟨λ env σ=>au ((ev.E N f).f env σ) λ p=>au ((tL ev N args).f env p.2) λ q=>Φ.call p.1 q.1 q.2⟩ (λ a=>aB (a.2.2.endLine == pos.line && gU a.1 && Nat.ble args.length 20) ⟨λ env σ=>au ((ev.E N a.1).f env σ) λ p=>au (Φ.getM p.1 a.2.1 p.2) λ m=>au ((tL ev N args).f env p.2) λ q=>Φ.call m.1 (m.2++q.1) q.2⟩ .no) (u7 f)
 | Attribute o name _=>exact aB (gU o) ⟨λ env σ=>au ((ev.E N o).f env σ) λ p=>Φ.attr p.1 name p.2⟩ .no
 | Subscript v i _=>exact kt ⟨λ env σ=>au ((ev.E N v).f env σ) λ p=>au ((ev.E N i).f env p.2) λ q=>Φ.item p.1 q.1 q.2⟩ (λ a=>kt ⟨λ env σ=>au ((ev.E N v).f env σ) λ p=>au ((Jl ev N a.1).f env p.2) λ q=>au ((Jl ev N a.2.1).f env q.2) λ r=>Φ.cut p.1 q.1 r.1 r.2⟩ (λ _=>.no) a.2.2.1) (IM i)
 | _=>exact .no
def nY (ev:Ev) (N:aq) (op:BoolOp):List Expr->eJ (Bool×List O)
 | []=>⟨λ _ σ=>some ((match op with | .And=>true | .Or=>false),σ)⟩
 | x::r=>match op with
  | .And=>⟨λ env σ=>au ((ev.T N x).f env σ) λ p=>aB p.1 ((nY ev N .And r).f env p.2) (some (false,p.2))⟩
  | .Or=>⟨λ env σ=>au ((ev.T N x).f env σ) λ p=>aB p.1 (some (true,p.2)) ((nY ev N .Or r).f env p.2)⟩
def Hp (Φ:eO) (ev:Ev) (N:aq) (e:Expr):Option (eJ (Bool×List O)):=by
 induction e using Expr.casesOn with
 | UnaryOp op x _ =>
  induction op using UnaryOp.casesOn with
  | Not=>exact some ⟨λ env σ=>bs ((ev.T N x).f env σ) λ p=>(!p.1,p.2)⟩
  | _=>exact some .no
 | BoolOp op vs _=>exact some (nY ev N op vs)
 | Compare l ops rs _ =>
  induction ops using List.casesOn with
  | nil=>exact some .no
  | cons op ops =>
  induction ops using List.casesOn with
  | cons=>exact some .no
  | nil =>
  induction rs using List.casesOn with
  | nil=>exact some .no
  | cons r rs =>
  induction rs using List.casesOn with
  | cons=>exact some .no
  | nil=>exact some (aB (behindInMarks op r) .no ⟨λ env σ=>au ((ev.E N l).f env σ) λ p=>au ((ev.E N r).f env p.2) λ q=>bs (Φ.cmp op p.1 q.1 q.2) λ b=>(b,q.2)⟩)
 | IfExp=>exact some .no
 | _=>exact none
def stepT (Φ:eO) (ev:Ev) (N:aq) (e:Expr):eJ (Bool×List O) :=
 kt ⟨λ env σ=>au ((ev.E N e).f env σ) λ p=>bs (Φ.tru p.1 p.2) λ b=>(b,p.2)⟩ (λ b=>b) (Hp Φ ev N e)
end
structure aC (A:Around) (k:Nat):Prop where
 hh:A.handled=none
 d:A.depth+k < 1000
 u:A.units+8 * k < 9900
noncomputable def tM (o:Obj) (c P:Addr):Prop :=
 ∃ vs file tf flags tg inF text tt,o.cls=.type "code" ∧ o.data=.fields vs∧vs[11]?=some (.ref P)∧vs.getD 11 .none=.ref P∧vs.getD 18 .none=.str file tf ∧
  vs.getD 7 .none=.int flags tg∧vs.getD 9 .none=.bool inF∧vs.getD 10 .none=.int text tt∧c≠P
theorem tM.hd {o:Obj} {c P:Addr} {h:Heap} (x:tM o c P) (e:h.get? c=some o):CodeHd h c P:=by
 refine GZ x λ vs file tf flags tg inF text tt r=>?_; clear x;exact ⟨o,vs,file,tf,flags,tg,inF,text,tt,e,r⟩
noncomputable def tN (ae:AE) (code:Value) (S:Addr->Obj->Prop) (ρ:List Addr):Prop:=∀ i,ae.tab=some i->∃ c P o,code=.ref c∧S c o∧tM o c P∧ρ[i]?=some P
theorem tN.tr {ae:AE} {code:Value} {S S':Addr->Obj->Prop} {ρ ρ':List Addr} (x:tN ae code S ρ) (hp:∃ r,ρ'=ρ++r) (hS:∀ a o,S a o->S' a o):tN ae code S' ρ':=λ i e=>by
 refine tz (x i e) λ c P o e1 e2 e3 e4=>?_;refine aj hp ?_; clear hp; rintro r rfl;exact ⟨c,P,o,e1,hS _ _ e2,e3,cc e4⟩
structure ao (I:aZ) (N:aq) (env:Env) (ae:AE) (hid ρ:List Addr) (h:Heap):Prop where
 kind:env.scope.kind=.function
 names:env.scope.names=N
 gl:env.globals=mainGlobals
 bu:env.builtins=builtinsNs
 hidL:env.locals∈hid
 loc:∃ m,h.Ns env.locals m∧∀ x i k v,dy N x=some (i,k)->F.get i ae.loc=some v->∃ val,m x=some val∧VR I (ay hid ρ h) ρ v val
 cel:∀ x i k c,dy N x=some (i,k)->aU ae.cel i=some (some c)->∃ a,env.cells.lookup x=some a∧ρ[c]?=some a
 code:tN ae env.code (ay hid ρ h) ρ
section
variable {hb:Heap} {prog:Program} {w:World} {I:aZ} {hid ρ ρ':List Addr} {σ:List O} {h h':Heap} {env:Env} {N:aq} {ae:AE}
theorem ao.ext (X:ao I N env ae hid ρ h) (H:Sh hb prog w I hid ρ σ h) (x:Ext [] ρ ρ' h h'):ao I N env ae hid ρ' h':=by
 refine ⟨X.kind,X.names,X.gl,X.bu,X.hidL,?_,λ y i kd v e0 e=>?_,X.code.tr x.pre (x.stb jq)⟩
 ·refine ag X.loc λ m hn hl=>?_;refine ⟨m,hn.at' λ o e=>x.keep _ o e (λ q=>(H.off _ q).2.1 X.hidL) (by simp),λ y i kd v e0 e=>?_⟩
  refine ag (hl y i kd v e0 e) λ val e1 e2=>?_;exact ⟨val,e1,e2.ext x⟩
 ·refine ag (X.cel y i kd v e0 e) λ c e1 e2=>?_;refine aj x.pre λ r e3=>?_;exact ⟨c,e1,by rw [e3]; exact cc e2⟩
end
section
variable (hb:Heap) (prog:Program) (w:World) (I:aZ)
def aA (hid ρ:List Addr) (s:Shared) (r:V×List O) (Q:Value->Shared->Prop):Prop :=
 ∀ ρ' h' tk gs x,aI I [] ρ ρ' s.heap s.gens h' gs->Sh hb prog w I hid ρ' r.2 h'->VR I (ay hid ρ' h') ρ' r.1 x->Q x { s with heap:=h',toks:=tk,gens:=gs }
def nZ (hid ρ:List Addr) (s:Shared) (r:List V×List O) (Q:List Value->Shared->Prop):Prop :=
 ∀ ρ' h' tk gs x,aI I [] ρ ρ' s.heap s.gens h' gs->Sh hb prog w I hid ρ' r.2 h'->VRs I (ay hid ρ' h') ρ' r.1 x->Q x { s with heap:=h',toks:=tk,gens:=gs }
noncomputable def df (hid ρ:List Addr) (s:Shared) (r:Bool×List O) (Q:Bool->Shared->Prop):Prop :=
 ∀ ρ' h' tk gs,aI I [] ρ ρ' s.heap s.gens h' gs->Sh hb prog w I hid ρ' r.2 h'->Q r.1 { s with heap:=h',toks:=tk,gens:=gs }
noncomputable def n5 (hid ρ:List Addr) (s:Shared) (r:List O) (Q:Unit->Shared->Prop):Prop :=
 ∀ ρ' h' tk gs,aI I [] ρ ρ' s.heap s.gens h' gs->Sh hb prog w I hid ρ' r h'->Q () { s with heap:=h',toks:=tk,gens:=gs }
variable (k:Nat)
def aL (σ:List O) (args:List V) (r:V×List O) (t:List Value->Sem Value):Prop :=
 ∀ A s hid ρ xs Q E,aC A k->Sh hb prog w I hid ρ σ s.heap->VRs I (ay hid ρ s.heap) ρ args xs->aA hb prog w I hid ρ s r Q->wpAny (model prog w) A (t xs) Q E s
def t2 (f:Value->Value->Sem Value):List Value->Sem Value:=λ x0=>(aR (unsupported "") (λ a y391=>aO (aR (unsupported "") (λ b y381=>aO (bg (unsupported "") (f a b) y381)) y391)) x0)
def t1 (f:Value->Sem Value):List Value->Sem Value:=λ x0=>(aR (unsupported "") (λ a y391=>aO (bg (unsupported "") (f a) y391)) x0)
noncomputable def aS:List Value->Sem Value
 | f::l=>PySem.call f l []
 | []=>unsupported ""
noncomputable abbrev bp (l u:Value):Obj:={ cls:=.type "slice",data:=.fields #[l,u,.none] }
structure cN (Φ:eO):Prop where
 glob:∀ x v,Φ.glob x=some v->∃ val mg,v=.val val∧hb.Ns mainGlobals mg∧(mg x=some val∨∃ mb,mg x=none∧hb.Ns builtinsNs mb∧mb x=some val)
 call:∀ f args σ r,Φ.call f args σ=some r->aL hb prog w I k σ (f::args) r aS
 keeper:∀ f args σ r,Φ.call f args σ=some r->∀ hid ρ h x,Sh hb prog w I hid ρ σ h->VR I (ay hid ρ h) ρ f x->∃ kp,Looks (model prog w) h (keeperOf x) kp
 getM:∀ o n σ f first,Φ.getM o n σ=some (f,first)->∀ A s hid ρ x pl Q E,aC A k->Sh hb prog w I hid ρ σ s.heap->VR I (ay hid ρ s.heap) ρ o x ->
  (∀ h' tk fx fs,Ext [] ρ ρ s.heap h'->Sh hb prog w I hid ρ σ h'->VR I (ay hid ρ h') ρ f fx->VRs I (ay hid ρ h') ρ first fs->Q (fx,fs) { s with heap:=h',toks:=tk })->wpAny (model prog w) A (getMethod x n pl) Q E s
 attr:∀ o n σ r,Φ.attr o n σ=some r->aL hb prog w I k σ [o] r (t1 λ x=>getAttr x n true)
 bin:∀ op a b σ r,Φ.bin op a b σ=some r->aL hb prog w I k σ [a,b] r (t2 (binaryOp op))
 una:∀ op a σ r,Φ.una op a σ=some r->aL hb prog w I k σ [a] r (t1 (unaryOp op))
 cmp:∀ op a b σ r,Φ.cmp op a b σ=some r->aL hb prog w I k σ [a,b] (.bool r,σ) (t2 (compareOp op))
 tru:∀ a σ b,Φ.tru a σ=some b->∀ A s hid ρ x Q E,aC A k->Sh hb prog w I hid ρ σ s.heap->VR I (ay hid ρ s.heap) ρ a x->df hb prog w I hid ρ s (b,σ) Q->wpAny (model prog w) A (truthy x) Q E s
 item:∀ a b σ r,Φ.item a b σ=some r->∀ A s hid ρ x y Q E,aC A k->Sh hb prog w I hid ρ σ s.heap->VR I (ay hid ρ s.heap) ρ a x->VR I (ay hid ρ s.heap) ρ b y->aA hb prog w I hid ρ s r Q->SubscriptOn (model prog w) A x y Q E s
 cut:∀ a b c σ r,Φ.cut a b c σ=some r->∀ A s hid ρ x l u Q E,aC A k->Sh hb prog w I hid ρ σ s.heap->VR I (ay hid ρ s.heap) ρ a x->VR I (ay hid ρ s.heap) ρ b l->VR I (ay hid ρ s.heap) ρ c u->aA hb prog w I hid ρ s r Q ->
  SubscriptOn (model prog w) A x (.ref s.heap.objs.size) Q E { s with heap:=s.heap.push (bp l u) }
 inp:∀ op a b σ r,Φ.inp op a b σ=some r->aL hb prog w I k σ [a,b] r (t2 (inplaceOp op))
 setA:∀ o n v σ r,Φ.setA o n v σ=some r->∀ A s hid ρ x y Q E,aC A k->Sh hb prog w I hid ρ σ s.heap->VR I (ay hid ρ s.heap) ρ o x->VR I (ay hid ρ s.heap) ρ v y->n5 hb prog w I hid ρ s r Q->wpAny (model prog w) A (setAttr x n y) Q E s
 setI:∀ o i v σ r,Φ.setI o i v σ=some r->∀ A s hid ρ x z y Q E,aC A k->Sh hb prog w I hid ρ σ s.heap->VR I (ay hid ρ s.heap) ρ o x->VR I (ay hid ρ s.heap) ρ i z->VR I (ay hid ρ s.heap) ρ v y->n5 hb prog w I hid ρ s r Q ->
  wpAny (model prog w) A (setItem x z y) Q E s
def eN (ev:Ev):Prop:=∀ N ae σ e r,(ev.E N e).f ae σ=some r->∀ A s hid ρ env Q E,aC A k->ao I N env ae hid ρ s.heap->Sh hb prog w I hid ρ σ s.heap->aA hb prog w I hid ρ s r Q->wpAny (model prog w) A (eval e env) Q E s
def jy (ev:Ev):Prop:=∀ N ae σ e r,(ev.T N e).f ae σ=some r->∀ A s hid ρ env Q E,aC A k->ao I N env ae hid ρ s.heap->Sh hb prog w I hid ρ σ s.heap->df hb prog w I hid ρ s r Q->wpAny (model prog w) A (isTrue e env (eval e env)) Q E s
end
section
variable {hb:Heap} {prog:Program} {w:World} {I:aZ} {k:Nat} {Φ:eO} {ev:Ev} {hid ρ:List Addr} {σ:List O} {A:Around} {s:Shared} {env:Env} {N:aq} {ae:AE} {Q:Value->Shared->Prop} {E:Value->Shared->Prop}
theorem aA.later {ρ':List Addr} {h':Heap} {tk:Nat} {gs:Array GenState} {r:V×List O} (x:aI I [] ρ ρ' s.heap s.gens h' gs) (q:aA hb prog w I hid ρ s r Q):aA hb prog w I hid ρ' { s with heap:=h',toks:=tk,gens:=gs } r Q :=
 λ ρ'' h'' tk' gs' y x' H' V'=>q ρ'' h'' tk' gs' y (x.trans0 x') H' V'
theorem df.later {ρ':List Addr} {h':Heap} {tk:Nat} {gs:Array GenState} {r:Bool×List O} {Q:Bool->Shared->Prop} (x:aI I [] ρ ρ' s.heap s.gens h' gs) (q:df hb prog w I hid ρ s r Q):df hb prog w I hid ρ' { s with heap:=h',toks:=tk,gens:=gs } r Q :=
 λ ρ'' h'' tk' gs' x' H'=>q ρ'' h'' tk' gs' (x.trans0 x') H'
theorem aA.here {r:V×List O} {x:Value} {tk:Nat} (H:Sh hb prog w I hid ρ r.2 s.heap) (v:VR I (ay hid ρ s.heap) ρ r.1 x) (q:aA hb prog w I hid ρ s r Q):Q x { s with toks:=tk } :=
 q ρ s.heap tk s.gens x (aI.refl _ _ _ _) H v
theorem dP {e:Expr} {r:List Expr} (h:bT e=true):starEach (e::r) env=(false,eval e env)::starEach r env:=by
 induction e using Expr.casesOn<;>first | rfl | exact aT h
theorem cG (SE:eN hb prog w I k ev) (R:aC A k):∀ {es:List Expr} {σ:List O} {r:List V×List O} {s:Shared} {ρ:List Addr} {pos:Pos} {Q:List Value->Shared->Prop},(tL ev N es).f ae σ=some r->ao I N env ae hid ρ s.heap->Sh hb prog w I hid ρ σ s.heap ->
  nZ hb prog w I hid ρ s r Q->wpAny (model prog w) A (spliced (backTo pos (starEach es env))) Q E s:=by
 intro es;induction es with
 | nil =>
  intro σ r s ρ pos Q h X H q;induction h using sI;exact wpAny_items_nil (q ρ s.heap s.toks s.gens [] (aI.refl _ _ _ _) H .nil)
 | cons e es ih =>
  intro σ r s ρ pos Q h X H q;refine ah λ G9 fin9=>?_;unfold tL at h;refine ab (fM h) λ hs h=>?_;refine aa h λ p h1 h=>?_;refine aa h λ p2 h2 h=>?_;induction h using sI;refine fin9 ?_; clear fin9 G9;refine wpAny_items_cons (SE _ _ _ _ _ h1 _ _ _ _ _ _ _ R X H λ ρ' h' tk gs x xe H' V'=>?_) (dP hs);refine ih h2 (X.ext H xe) H' λ ρ'' h'' tk' gs' y xe' H'' V''=>?_;exact q ρ'' h'' tk' gs' (x::y) (xe.trans0 xe') H'' (.cons (V'.ext xe') V'')
theorem fN {f:Value} {first:List Value} {pos:Pos} {args:List (Bool×Sem Value)} {kws:List (Option Str×Sem Value)} {Q:Value->Shared->Prop} (hplain:(args.any (·.1) || kws.any (·.1.isNone))=false)
  (h:wpAny (model prog w) A (evalArgs f true args kws) (λ a s₁=>(∃ kp,Looks (model prog w) s₁.heap (keeperOf f) kp)∧wpAny (model prog w) A (call f (first++a.pos) a.kw) Q E s₁) E s):wpAny (model prog w) A (callWith pos f first args kws) Q E s:=by
 unfold callWith;refine wpAny_bind (wpAny_holding (wpAny_mono h (λ a s₁ h₁=>wpAny_bind (wpAny_standAt ?_)) λ _ _ x=>x));refine ab h₁ ?_; clear h₁; rintro j00 h₁; refine aj j00 λ kp L=>?_; clear j00;simp only [hplain];refine wpAny_bind (L.here ?_);have tail:∀ {t:Sem Value},wpAny (model prog w) A t Q E s₁->wpAny (model prog w) A (t >>= λ r=>holding [r] point >>= λ _=>pure r) Q E s₁ :=
  λ ht=>wpAny_bind (wpAny_mono ht (λ r s₂ hr=>wpAny_bind (wpAny_holding (wpAny_point (wpAny_pure hr)))) λ _ _ x=>x)
 have marked (mk:Value):wpAny (model prog w) A (callMarked mk f (first++a.pos) a.kw) Q E s₁:=by unfold callMarked; exact Calls.wpAny_keep h₁
 have op (l:List Value):wpAny (model prog w) A (operate l (call f (first++a.pos) a.kw)) Q E s₁:=wpAny_operate' h₁
 cases kp<;>dsimp only<;>first | exact tail h₁ | exact tail (op _) | (split<;>first | exact tail h₁ | exact tail (marked _))
theorem bq {f:Value} {first:List Value} {pos:Pos} {args:List (Bool×Sem Value)} (hplain:args.any (·.1)=false)
  (h:wpAny (model prog w) A (evalArgs f true args []) (λ a s₁=>(∃ kp,Looks (model prog w) s₁.heap (keeperOf f) kp)∧wpAny (model prog w) A (call f (first++a.pos) a.kw) Q E s₁) E s):wpAny (model prog w) A (callWith pos f first args []) Q E s :=
 fN (by rw [List.any_nil,Bool.or_false]; exact hplain) h
theorem bH {pos:Pos} {es:List Expr} (h:es.all bT=true):(backTo pos (starEach es env)).any (·.1)=false:=by
 induction es with
 | nil=>rfl
 | cons e r ih =>
  rw [List.all_cons,Bool.and_eq_true] at h;rw [dP h.1];show (false || (backTo pos (starEach r env)).any (·.1))=false
  rw [ih h.2]; rfl
theorem kW:∀ {es:List Expr} {σ:List O} {r:List V×List O},(tL ev N es).f ae σ=some r->es.all bT=true:=by
 intro es;induction es with
 | nil =>
  intro _ _ _;rfl
 | cons e es ih =>
  intro σ r h;unfold tL at h;refine ab (fM h) λ hs h=>?_;refine aa h λ p h1 h=>?_;refine aa h λ p2 h2 h=>?_;rw [List.all_cons,hs,ih h2]; rfl
theorem br {f:Value} {pos:Pos} {es:List Expr} {Q:Args->Shared->Prop} (hs:es.all bT=true)
  (h:wpAny (model prog w) A (spliced (backTo pos (starEach es env))) (λ vs s'=>Q ⟨vs,[]⟩ s') E s):wpAny (model prog w) A (evalArgs f true (backTo pos (starEach es env)) []) Q E s:=by
 induction es using List.casesOn with
 | nil =>
  unfold evalArgs;show wpAny _ A (spliced [] >>= _) Q E s;refine wpAny_bind (wpAny_mono h (λ vs s' h'=>wpAny_bind (wpAny_pure ?_)) λ _ _ x=>x);refine wpAny_holding ?_;exact wpAny_bind (wpAny_pure (wpAny_bind (wpAny_pure (wpAny_pure h'))))
 | cons e r =>
  rw [List.all_cons,Bool.and_eq_true] at hs;rw [dP hs.1] at h ⊢;exact evalArgs_plain h
end
section
variable {hb:Heap} {prog:Program} {w:World} {I:aZ} {k:Nat} {Φ:eO} {ev:Ev} {hid ρ:List Addr} {σ:List O} {A:Around} {s:Shared} {env:Env} {N:aq} {ae:AE} {Q:Value->Shared->Prop} {E:Value->Shared->Prop}
theorem ex {o:Expr} {attr:Str} {whole:Sem Value} (h:gU o=true):attributeBase o attr env whole=whole:=by
 induction o using Expr.casesOn with
 | Call f args kws p =>
  induction f using Expr.casesOn with
  | Name =>
   induction args using List.casesOn with
   | cons=>rfl
   | nil =>
    induction kws using List.casesOn with
    | cons=>rfl
    | nil=>exact aT h
  | _=>rfl
 | _=>rfl
theorem vk {i:Expr} (h:gm i=true) (py:Bool) (o x:Value):subscripted i py o x=subscripted (.Name ⟨#[]⟩ ⟨0,0,0,0⟩) py o x:=by
 induction py using Bool.casesOn<;>induction i using Expr.casesOn<;>first | rfl | exact aT h
theorem eY {v:Expr} {i:Expr} {o x:Value} (h:SubscriptOn (model prog w) A o x Q E s)
  (fin:∀ s₂,wpAny (model prog w) A (getItem o x) Q E s₂->wpAny (model prog w) A (subscripted i false o x) Q E s₂) :
  wpAny (model prog w) A (getitemInPython o >>= λ py=>subscripted i py o x >>= λ r=>letTemporaryGo v o r >>= λ _=>pure r) Q E s:=by
 refine ak h λ T id hl hT hg=>?_; clear h;refine wpAny_bind ?_;rw [getitemInPython_of_ne hT.not_modules];refine wpAny_bind (wpAny_specialOf hT hl ?_);exact wpAny_pure (wpAny_bind (wpAny_mono (fin _ hg) (λ r s₃ h₃=>wpAny_bind (wpAny_letTemporaryGo (wpAny_pure h₃))) λ _ _ x=>x))
theorem vm {v:Expr} {lo up st:Option Expr} {p pos:Pos} (hst:st=none)
  (h:wpAny (model prog w) A (eval v env) (λ o s₁=>wpAny (model prog w) A (eval (.Slice lo up none p) env) (λ i s₂=>SubscriptOn (model prog w) A o i Q E s₂) E s₁) E s) :
  wpAny (model prog w) A (eval (.Subscript v (.Slice lo up st p) pos) env) Q E s:=by
 subst hst;rw [arm_eval_Subscript];refine wpAny_bind (wpAny_mono h (λ o s₁ h₁=>wpAny_bind (wpAny_holding (wpAny_mono h₁ (λ i s₂ h₂=>wpAny_bind (wpAny_standAt ?_)) λ _ _ x=>x))) λ _ _ x=>x);exact eY h₂ λ s₂ hg=>wpAny_operate' hg
theorem qF {v i:Expr} {pos:Pos} (hns:gm i=true)
  (h:wpAny (model prog w) A (eval v env) (λ o s₁=>wpAny (model prog w) A (eval i env) (λ x s₂=>SubscriptOn (model prog w) A o x Q E s₂) E s₁) E s) :
  wpAny (model prog w) A (eval (.Subscript v i pos) env) Q E s:=by
 rw [arm_eval_Subscript];refine wpAny_bind (wpAny_mono h (λ o s₁ h₁=>wpAny_bind (wpAny_holding (wpAny_mono h₁ (λ x s₂ h₂=>wpAny_bind (wpAny_standAt ?_)) λ _ _ x=>x))) λ _ _ x=>x);exact eY h₂ λ s₂ hg=>by rw [vk hns]; exact wpAny_operate' hg
theorem tP {id:Str} {i:Nat} {kd:NameKind} {v:V} (hp:dy N id=some (i,kd)) (h:(yH i).f ae σ=some v) (X:ao I N env ae hid ρ s.heap) (H:Sh hb prog w I hid ρ σ s.heap) :
  ∃ c val,env.cells.lookup id=some c∧s.heap.IsCell c (some val)∧VR I (ay hid ρ s.heap) ρ v val:=by
 change (au (aU ae.cel i) λ o=>au o λ c=>au (aU σ c) λ o=>(fE none (λ v=>v) o))=some v at h;refine aa h λ o h1 h=>?_;change (au o λ c=>au (aU σ c) λ o=>(fE none (λ v=>v) o))=some v at h;refine aa h λ c h2 g2=>?_;refine aa g2 λ o' h3 g3=>?_;subst h2;rw [aE] at h3;revert g3; refine jw ?_ λ g3=>?_; rintro _ rfl g3
 ·rename_i v';subst g3;refine ag (X.cel id i kd c hp h1) λ ca e1 e2=>?_;refine ak (H.ob c _ h3) λ a b f1 f2 f3=>?_;rw [e2] at f1;induction f1 using sI;cases f3 with
  | cell g2 g3=>exact ⟨ca,_,e1,⟨b,f2,g2⟩,g3⟩
 ·exact ac g3
theorem cX {x:Str} (hk:env.scope.kind=.function) (hx:env.kindOf x=some .globalImplicit):loadName env x=loadGlobal env x:=by
 unfold loadName Env.blockKind;rw [hk,hx];rfl
theorem jz (OK:cN hb prog w I k Φ) {id:Str} {v:V} (h:(b9 Φ N id).f ae σ=some v) (X:ao I N env ae hid ρ s.heap) (H:Sh hb prog w I hid ρ σ s.heap)
  (q:aA hb prog w I hid ρ s (v,σ) Q):wpAny (model prog w) A (loadName env id) Q E s:=by
 unfold b9 at h;refine ab (fW h) λ hd h=>?_;refine ab (Bool.or_eq_false_iff.mp hd) λ hd hc=>?_;have hk:env.kindOf id=N.lookup id:=by unfold Env.kindOf; rw [X.names]
 split at h
 ·rename_i p hp;obtain ⟨i,kd⟩:=p;have hkd:=dz hp;change (yI Φ id i kd).f ae σ=some v at h;unfold yI at h;split at h
  ·refine ag X.loc λ m hn hl=>?_;refine ag (hl id i _ v hp h) λ val e1 e2=>?_;exact wpAny_loadName_local X.kind (hk.trans hkd) hn e1 (aA.here (tk:=s.toks) H e2 q)
  ·refine ak (OK.glob id v h) ?_; rintro val mg rfl hg hv;have hg':s.heap.Ns env.globals mg:=by rw [X.gl]; exact hg.keeps H.base
   rw [cX X.kind (hk.trans hkd)];rcases hv with hv | ⟨mb,h1,h2,h3⟩
   ·exact loadGlobal_global hg' hv (aA.here (tk:=s.toks) H (.val _) q)
   ·exact loadGlobal_builtin hg' h1 (by rw [X.bu]; exact h2.keeps H.base) h3 (aA.here (tk:=s.toks) H (.val _) q)
  ·refine ak (tP hp h X H) λ c val e1 e2 e3=>?_;exact wpAny_loadName_cell X.kind (hk.trans hkd) e1 e2 (aA.here (tk:=s.toks) H e3 q)
  ·refine ak (tP hp h X H) λ c val e1 e2 e3=>?_;exact wpAny_loadName_free X.kind (hk.trans hkd) e1 e2 (aA.here (tk:=s.toks) H e3 q) hc
  ·exact ac h
 ·exact ac h
theorem bI (OK:cN hb prog w I k Φ) {id:Str} {pos:Pos} {v:V} (h:(b9 Φ N id).f ae σ=some v) (X:ao I N env ae hid ρ s.heap) (H:Sh hb prog w I hid ρ σ s.heap)
  (q:aA hb prog w I hid ρ s (v,σ) Q):wpAny (model prog w) A (eval (.Name id pos) env) Q E s:=by
 refine wpAny_Name (jz OK h X H q) ?_;unfold b9 at h;refine ab (fW h) λ hd h=>?_;exact (Bool.or_eq_false_iff.mp hd).1
theorem n6 {c:Const} {kd:Nat} {pos:Pos} {v:V} (h:qE c=some v) (H:Sh hb prog w I hid ρ σ s.heap)
  (q:aA hb prog w I hid ρ s (v,σ) Q):wpAny (model prog w) A (eval (.Constant c kd pos) env) Q E s:=by
 rw [arm_eval_Constant];unfold qE at h;split at h<;>(first | (first | (first | induction h using sI | (have j9:=Option.some.inj h; clear h; subst j9)) | exact ac h) | skip)
 ·exact wpAny_pure (aA.here (tk:=s.toks) H .none q)
 ·exact wpAny_pure (aA.here (tk:=s.toks) H (.bool _) q)
 ·exact wpAny_Constant_int (k:=kd) (pos:=pos) (env:=env) (aA.here H (.int _ _) q)
 ·rename_i x;refine Constant_str (k:=kd) (pos:=pos) (env:=env) (aA.here H ?_ q);have:=VR.str (I:=I) (S:=ay hid ρ s.heap) (ρ:=ρ) (fV x) s.toks;rw [Bf] at this;exact this
theorem gY (SE:eN hb prog w I k ev) (R:aC A k) {l r:Expr} {p q':V×List O} (h1:(ev.E N l).f ae σ=some p) (h2:(ev.E N r).f ae p.2=some q') (X:ao I N env ae hid ρ s.heap) (H:Sh hb prog w I hid ρ σ s.heap)
  {P:Value->Value->Shared->Prop} (q:∀ ρ' h' tk gs a b,aI I [] ρ ρ' s.heap s.gens h' gs->Sh hb prog w I hid ρ' q'.2 h'->VRs I (ay hid ρ' h') ρ' [p.1,q'.1] [a,b]->P a b { s with heap:=h',toks:=tk,gens:=gs }) :
  wpAny (model prog w) A (eval l env) (λ a s₁=>wpAny (model prog w) A (eval r env) (λ b s₂=>P a b s₂) E s₁) E s:=by
 refine SE _ _ _ _ _ h1 _ _ _ _ _ _ _ R X H λ ρ' h' tk gs a xe H' V'=>?_;refine SE _ _ _ _ _ h2 _ _ _ _ _ _ _ R (X.ext H xe) H' λ ρ'' h'' tk' gs' b xe' H'' V''=>?_;exact q ρ'' h'' tk' gs' a b (xe.trans0 xe') H'' (.cons (V'.ext xe') (.cons V'' .nil))
theorem kX (SE:eN hb prog w I k ev) (R:aC A k) {o:Option Expr} {p:V×List O} (h:(Jl ev N o).f ae σ=some p) (X:ao I N env ae hid ρ s.heap) (H:Sh hb prog w I hid ρ σ s.heap)
  (q:aA hb prog w I hid ρ s p Q):wpAny (model prog w) A (evalPart o env) Q E s:=by
 induction o using Option.casesOn with
 | none=>induction h using sI; exact wpAny_pure (aA.here (tk:=s.toks) H .none q)
 | some e=>exact SE _ _ _ _ _ h _ _ _ _ _ _ _ R X H q
theorem n7 (OK:cN hb prog w I k Φ) (SE:eN hb prog w I k ev) (ST:jy hb prog w I k ev):eN hb prog w I k ⟨cp Φ ev,stepT Φ ev⟩:=by
 intro N ae σ e r h A s hid ρ env Q E R X H q;change (cp Φ ev N e).f ae σ=some r at h;induction e using Expr.casesOn with
 | Constant c k p =>
  dsimp only [cp] at h;refine az h ?_; rintro v hv rfl;exact n6 hv H q
 | Name id p =>
  dsimp only [cp] at h;refine az h ?_; rintro v hv rfl;exact bI OK hv X H q
 | BinOp l op r _ =>
  dsimp only [cp] at h;refine aa h λ p h1 h=>?_;refine aa h λ p2 h2 h=>?_;refine wpAny_BinOp (gY SE R h1 h2 X H λ ρ' h' tk gs a b xe H' V'=>?_);exact OK.bin _ _ _ _ _ h A _ hid ρ' [a,b] Q E R H' V' (q.later xe)
 | UnaryOp op x _ =>
  dsimp only [cp] at h;refine aa h λ p h1 h=>?_;refine wpAny_UnaryOp (SE _ _ _ _ _ h1 _ _ _ _ _ _ _ R X H λ ρ' h' tk gs a xe H' V'=>?_);exact OK.una _ _ _ _ h A _ hid ρ' [a] Q E R H' (.cons V' .nil) (q.later xe)
 | IfExp t a b _ =>
  dsimp only [cp] at h;refine aa h λ p h1 h=>?_;refine wpAny_IfExp (ST _ _ _ _ _ h1 _ _ _ _ _ _ _ R X H λ ρ' h' tk gs xe H'=>?_);cases hp:p.1 with
  | true=>rw [hp] at h; exact SE _ _ _ _ _ h _ _ _ _ _ _ _ R (X.ext H xe) H' (q.later xe)
  | false=>rw [hp] at h; exact SE _ _ _ _ _ h _ _ _ _ _ _ _ R (X.ext H xe) H' (q.later xe)
 | Compare l ops rs _ =>
  induction ops using List.casesOn with
  | nil=>exact ac h
  | cons op ops =>
  induction ops using List.casesOn with
  | cons=>exact ac h
  | nil =>
  induction rs using List.casesOn with
  | nil=>exact ac h
  | cons r rs =>
  induction rs using List.casesOn with
  | cons=>exact ac h
  | nil =>
  refine ah λ G9 fin9=>?_;dsimp only [cp] at h;refine ab (fW h) λ hm h=>?_;refine aa h λ p h1 h=>?_;refine aa h λ p2 h2 h=>?_;refine az h ?_; rintro b h3 rfl;refine fin9 ?_; clear fin9 G9;refine wpAny_Compare1 (gY SE R h1 h2 X H λ ρ' h' tk gs a b xe H' V'=>?_) hm;exact OK.cmp _ _ _ _ _ h3 A _ hid ρ' [a,b] Q E R H' V' (q.later xe)
 | Tuple es _ _ =>
  dsimp only [cp] at h;refine aa h λ p h1 h=>?_;refine ai h λ hl h=>?_;induction h using sI;refine wpAny_Tuple (cG SE R h1 X H λ ρ' h' tk gs xs xe H' V'=>⟨?_,?_⟩)
  ·have:=V'.length; have:=Nat.le_of_ble_eq_true hl; rw [sizeLine_eq]; lia
  ·refine ab (H'.alloc { cls:=.type "tuple",data:=.seq xs.toArray }) λ x2 H2=>?_;exact (q.later xe) ρ' _ tk gs _ x2 H2 (.tup (H'.stbNew rfl) (V'.ext x2))
 | List es _ =>
  induction es using List.casesOn with
  | nil =>
   dsimp only [cp] at h;induction h using sI;refine wpAny_List (wpAny_items_nil ⟨by rw [sizeLine_eq]; decide,?_⟩)
   refine ab (H.push (b:={ cls:=.type "list",data:=.seq ([]:List Value).toArray }) (o:=.list []) rfl (.list .nil)) λ x2 H2=>?_;exact q _ _ s.toks s.gens _ x2 H2 (.ref (by rw [<-H.len]; simp))
  | cons e es =>
   dsimp only [cp] at h;refine aa h λ p h1 h=>?_;refine ai h λ hl h=>?_;induction h using sI;refine wpAny_List (cG SE R h1 X H λ ρ' h' tk gs xs xe H' V'=>⟨?_,?_⟩)
   ·have:=V'.length; have:=Nat.le_of_ble_eq_true hl; rw [sizeLine_eq]; lia
   ·refine ab (H'.alloc { cls:=.type "list",data:=.seq xs.toArray }) λ x2 H2=>?_;exact (q.later xe) ρ' _ tk gs _ x2 H2 (.lst (H'.stbNew rfl) (V'.ext x2))
 | Dict ks vs _ =>
  induction ks using List.casesOn with
  | cons=>exact ac h
  | nil =>
  induction vs using List.casesOn with
  | cons=>exact ac h
  | nil =>
  dsimp only [cp] at h;induction h using sI;refine wpAny_Dict_empty ?_;refine ab (H.push (b:={ cls:=.type "dict",data:=.dict #[] }) (o:=.dnil) rfl (.dnil ⟨rfl,rfl,rfl⟩ rfl)) λ x2 H2=>?_;exact q _ _ s.toks s.gens _ x2 H2 (.ref (by rw [<-H.len]; simp))
 | Call f args kws pos =>
  induction kws using List.casesOn with
  | cons=>exact ac h
  | nil =>
  cases ha:u7 f with
  | some a =>
   refine ah λ G9 fin9=>?_;have hf:=tD ha;obtain ⟨o,name,apos⟩:=a;subst hf;dsimp only [cp,u7,kt] at h;refine ab (fM h) λ hc h=>?_;rw [Bool.and_eq_true,Bool.and_eq_true] at hc;refine ab hc λ j00 hn=>?_; clear hc; refine ab j00 λ hp hb'=>?_; clear j00;refine aa h λ p h1 h=>?_;refine aa h λ m h2 h=>?_;refine aa h λ p2 h3 h=>?_;have hs:=kW h3;refine fin9 ?_; clear fin9 G9;rw [arm_eval_Call,ex hb'];refine wpAny_bind (SE _ _ _ _ _ h1 _ _ _ _ _ _ _ R X H λ ρ' h' tk gs ov xe H' V'=>?_);refine wpAny_bind (wpAny_standAt ?_);have hfew:methodCallForm (args.length+([]:List Keyword).length) (backTo pos (starEach args env)) (backToKw pos (keywordEach [] env))=true:=by
    unfold methodCallForm;have:(backTo pos (starEach args env)).all (!·.1)=true:=by
     have:=bH (pos:=pos) (env:=env) hs;rw [List.any_eq_false] at this;exact List.all_eq_true.mpr λ x hx=>by have:=this x hx; simpa using this
    rw [this];have:=Nat.le_of_ble_eq_true hn;show (true && true && decide (args.length+0+0 < 30))=true;exact decide_eq_true (Nat.lt_of_le_of_lt this (by decide))
   unfold methodCall calleeOf methodCallPos;rw [hfew];simp only [if_true,hp,Bool.not_true,Bool.false_or];refine wpAny_bind (wpAny_holding (OK.getM _ _ _ _ _ h2 _ _ _ _ _ _ _ _ R H' V' λ h'' tk'' fx fs xe2 H'' Vf Vs=>?_));refine wpAny_bind (wpAny_pure ?_);show wpAny (model prog w) A (callWith pos fx fs (backTo pos (starEach args env)) []) Q E _;refine bq (bH hs) (br hs (cG SE R h3 ((X.ext H xe).ext H' xe2) H'' λ ρ3 h3' tk3 gs3 xs xe3 H3 V3=>⟨?_,?_⟩))
   ·exact OK.keeper _ _ _ _ h _ _ _ _ H3 (Vf.ext xe3)
   ·exact OK.call _ _ _ _ h A _ hid ρ3 (fx::(fs++xs)) Q E R H3 (.cons (Vf.ext xe3) ((Vs.ext xe3).append V3)) (((q.later xe).later (tk:=tk'') (gs:=gs) xe2).later xe3)
  | none =>
   dsimp only [cp] at h;rw [ha] at h;dsimp only [kt] at h;refine aa h λ p h1 h=>?_;refine aa h λ p2 h3 h=>?_;have hs:=kW h3;have he:eval (.Call f args [] pos) env=(do callWith pos (<-eval f env) [] (backTo pos (starEach args env)) (backToKw pos (keywordEach [] env))):=by
    induction f using Expr.casesOn<;>first | rfl | cases ha
   rw [he];refine wpAny_bind (SE _ _ _ _ _ h1 _ _ _ _ _ _ _ R X H λ ρ' h' tk gs fx xe H' V'=>?_);show wpAny (model prog w) A (callWith pos fx [] (backTo pos (starEach args env)) []) Q E _;refine bq (bH hs) (br hs (cG SE R h3 (X.ext H xe) H' λ ρ3 h3' tk3 gs3 xs xe3 H3 V3=>⟨?_,?_⟩))
   ·exact OK.keeper _ _ _ _ h _ _ _ _ H3 (V'.ext xe3)
   ·exact OK.call _ _ _ _ h A _ hid ρ3 (fx::([]++xs)) Q E R H3 (.cons (V'.ext xe3) V3) ((q.later xe).later xe3)
 | Attribute o name _ =>
  dsimp only [cp] at h;refine ab (fM h) λ hb' h=>?_;refine aa h λ p h1 h=>?_;rw [arm_eval_Attribute,ex hb'];refine wpAny_bind (SE _ _ _ _ _ h1 _ _ _ _ _ _ _ R X H λ ρ' h' tk gs ov xe H' V'=>?_);refine wpAny_bind (wpAny_standAt (wpAny_bind (wpAny_holding ?_)));refine OK.attr _ _ _ _ h A _ hid ρ' [ov] _ E R H' (.cons V' .nil) λ ρ2 h2 tk2 gs2 x xe2 H2 V2=>?_;exact wpAny_bind (wpAny_letTemporaryGo (wpAny_pure ((q.later xe) ρ2 h2 tk2 gs2 x xe2 H2 V2)))
 | Subscript v i pos =>
  cases ha:IM i with
  | some a =>
   have hf:=Ep ha;obtain ⟨lo,up,st,p4⟩:=a;subst hf;induction st using Option.casesOn with
   | some=>exact ac h
   | none =>
   dsimp only [cp,IM,kt] at h;refine aa h λ p h1 h=>?_;refine aa h λ p2 h2 h=>?_;refine aa h λ p3 h3 h=>?_;refine vm rfl (p:=p4) ?_;refine SE _ _ _ _ _ h1 _ _ _ _ _ _ _ R X H λ ρ1 h1' tk1 gs1 ov xe1 H1 V1=>?_;refine wpAny_Slice (kX SE R h2 (X.ext H xe1) H1 λ ρ2 h2' tk2 gs2 lv xe2 H2 V2=>?_);refine kX SE R h3 ((X.ext H xe1).ext H1 xe2) H2 λ ρ3 h3' tk3 gs3 uv xe3 H3 V3=>?_;rw [evalPart_none];refine wpAny_pure ?_;exact OK.cut _ _ _ _ _ h A _ hid ρ3 ov lv uv Q E R H3 ((V1.ext xe2.toExt).ext xe3.toExt) (V2.ext xe3.toExt) V3 (((q.later (tk:=tk1) (gs:=gs1) xe1).later (tk:=tk2) (gs:=gs2) xe2).later (tk:=tk3) (gs:=gs3) xe3)
  | none =>
   have hns:gm i=true:=by induction i using Expr.casesOn<;>first | rfl | cases ha
   dsimp only [cp] at h;rw [ha] at h;dsimp only [kt] at h;refine aa h λ p h1 h=>?_;refine aa h λ p2 h2 h=>?_;refine qF hns ?_;refine SE _ _ _ _ _ h1 _ _ _ _ _ _ _ R X H λ ρ1 h1' tk1 gs1 ov xe1 H1 V1=>?_;refine SE _ _ _ _ _ h2 _ _ _ _ _ _ _ R (X.ext H xe1) H1 λ ρ2 h2' tk2 gs2 iv xe2 H2 V2=>?_;exact OK.item _ _ _ _ h A _ hid ρ2 ov iv Q E R H2 (V1.ext xe2) V2 ((q.later (tk:=tk1) (gs:=gs1) xe1).later (tk:=tk2) (gs:=gs2) xe2)
 | _=>exact ac h
theorem n8 (ST:jy hb prog w I k ev) (R:aC A k) {op:BoolOp}:∀ {es:List Expr} {σ:List O} {r:Bool×List O} {s:Shared} {ρ:List Addr} {Q:Bool->Shared->Prop},(nY ev N op es).f ae σ=some r->ao I N env ae hid ρ s.heap->Sh hb prog w I hid ρ σ s.heap ->
  df hb prog w I hid ρ s r Q->wpAny (model prog w) A (allTrue op es env) Q E s:=by
 intro es;induction es with
 | nil =>
  intro σ r s ρ Q h X H q;induction h using sI;induction op using BoolOp.casesOn
  ·exact wpAny_allTrue_And_nil (q ρ s.heap s.toks s.gens (aI.refl _ _ _ _) H)
  ·exact wpAny_allTrue_Or_nil (q ρ s.heap s.toks s.gens (aI.refl _ _ _ _) H)
 | cons e es ih =>
  intro σ r s ρ Q h X H q;unfold nY at h;induction op using BoolOp.casesOn with
  | And =>
   refine aa h λ p h1 h=>?_;refine wpAny_allTrue_And_cons (ST _ _ _ _ _ h1 _ _ _ _ _ _ _ R X H λ ρ' h' tk gs xe H'=>?_);cases hp:p.1 with
   | true=>rw [hp] at h; exact ih h (X.ext H xe) H' (q.later xe)
   | false=>rw [hp] at h; induction h using sI; exact q ρ' h' tk gs xe H'
  | Or =>
   refine aa h λ p h1 h=>?_;refine wpAny_allTrue_Or_cons (ST _ _ _ _ _ h1 _ _ _ _ _ _ _ R X H λ ρ' h' tk gs xe H'=>?_);cases hp:p.1 with
   | false=>rw [hp] at h; exact ih h (X.ext H xe) H' (q.later xe)
   | true=>rw [hp] at h; induction h using sI; exact q ρ' h' tk gs xe H'
theorem n9 (OK:cN hb prog w I k Φ) (SE:eN hb prog w I k ev) (ST:jy hb prog w I k ev):jy hb prog w I k ⟨cp Φ ev,stepT Φ ev⟩:=by
 intro N ae σ e r h A s hid ρ env Q E R X H q;change (stepT Φ ev N e).f ae σ=some r at h;cases ht:Hp Φ ev N e with
 | none =>
  dsimp only [stepT] at h;rw [ht] at h;refine aa h λ p h1 h=>?_;refine az h ?_; rintro b h2 rfl;refine wpAny_isTrue_value (SE _ _ _ _ _ h1 _ _ _ _ _ _ _ R X H λ ρ' h' tk gs x xe H' V'=>?_) ?_
  ·exact OK.tru _ _ _ h2 A _ hid ρ' x _ E R H' V' (q.later xe)
  ·induction e using Expr.casesOn with
   | UnaryOp op=>induction op using UnaryOp.casesOn<;>cases ht
   | Compare l ops rs =>
    induction ops using List.casesOn with
    | nil=>cases ht
    | cons _ ops =>
    induction ops using List.casesOn with
    | cons=>cases ht
    | nil =>
    induction rs using List.casesOn with
    | nil=>cases ht
    | cons _ rs=>induction rs using List.casesOn<;>cases ht
   | _=>first | rfl | cases ht
 | some b =>
  replace h:b.f ae σ=some r:=by dsimp only [stepT] at h; rwa [ht] at h
  induction e using Expr.casesOn with
  | UnaryOp op x _ =>
   induction op using UnaryOp.casesOn with
   | Not =>
    induction ht using sI;refine az h ?_; rintro p h1 rfl;exact wpAny_isTrue_Not (ST _ _ _ _ _ h1 _ _ _ _ _ _ _ R X H λ ρ' h' tk gs xe H'=>q ρ' h' tk gs xe H')
   | _=>induction ht using sI; exact ac h
  | BoolOp op vs _=>induction ht using sI; exact wpAny_isTrue_BoolOp (n8 ST R h X H q)
  | Compare l ops rs _ =>
   induction ops using List.casesOn with
   | nil=>induction ht using sI; exact ac h
   | cons op ops =>
   induction ops using List.casesOn with
   | cons=>induction ht using sI; exact ac h
   | nil =>
   induction rs using List.casesOn with
   | nil=>induction ht using sI; exact ac h
   | cons r rs =>
   induction rs using List.casesOn with
   | cons=>induction ht using sI; exact ac h
   | nil =>
   refine ah λ G9 fin9=>?_;induction ht using sI;refine ab (fW h) λ hm h=>?_;refine aa h λ p h1 h=>?_;refine aa h λ p2 h2 h=>?_;refine az h ?_; rintro b h3 rfl;refine fin9 ?_; clear fin9 G9;refine wpAny_isTrue_Compare1 (gY SE R h1 h2 X H λ ρ' h' tk gs a b' xe H' V'=>?_) hm;refine OK.cmp _ _ _ _ _ h3 A _ hid ρ' [a,b'] _ E R H' V' λ ρ2 h2' tk2 gs2 c xe2 H2 V2=>?_;induction V2 using cC.casesOn;exact wpAny_truthy_bool (q ρ2 h2' tk2 gs2 (xe.trans0 xe2) H2)
  | IfExp=>induction ht using sI; exact ac h
  | _=>exact ac ht
end
section
def Bw (i:Nat):lX V:=⟨λ env σ v=>au (aU env.cel i) λ o=>au o λ c=>au (aU σ c) λ o=>(fE none (λ y390=>some (env,bF σ c (.cell (some v)))) o)⟩
def Ey (i:Nat) (k:NameKind):lX V:=match k with
 | .local=>⟨λ env σ v=>some (⟨F.set i env.loc v,env.cel,env.tab⟩,σ)⟩
 | .cell=>Bw i
 | _=>.no
def bX (N:aq) (id:Str):lX V:=match dy N id with
 | some p=>Ey p.1 p.2
 | none=>.no
def fP (N:aq):List Str->lX (List V)
 | []=>⟨λ env σ vs=>(bg none (some (env,σ)) vs)⟩
 | x::xs=>⟨λ env σ vs=>match vs with
  | v::vs=>au ((bX N x).f env σ v) λ p=>(fP N xs).f p.1 p.2 vs
  | []=>none⟩
def gv:List Expr->Option (List Str)
 | []=>some []
 | e::r=>au (ww e) λ id=>bs (gv r) λ l=>id::l
noncomputable def qG (names:List (Str×NameKind)):Env:={ scope:={ kind:=.function,names:=names,isGenerator:=false,isCoroutine:=false },locals:=0,globals:=0,cells:=[] }
def Ez (n:Nat) (P:lX (List V)):lX V:=⟨λ env σ v=>au (nS v) λ l=>aB (l.length == n) (P.f env σ l) none⟩
def EA (n:Nat) (P:lX (List V)):lX V:=⟨λ env σ v=>au (nS v) λ l=>aB (l.length == n) (P.f env σ l.reverse) none⟩
def AO (Φ:eO) (ev:Ev) (N:aq) (t:Expr):lX V:=by
 induction t using Expr.casesOn with
 | Name id _=>exact bX N id
 | Attribute o attr _=>exact ⟨λ env σ v=>au ((ev.E N o).f env σ) λ p=>bs (Φ.setA p.1 attr v p.2) λ σ'=>(env,σ')⟩
 | Subscript o i _=>exact aB (gm i) ⟨λ env σ v=>au ((ev.E N o).f env σ) λ p=>au ((ev.E N i).f env p.2) λ q=>bs (Φ.setI p.1 q.1 v q.2) λ σ'=>(env,σ')⟩ .no
 | Tuple es _ _=>exact kt .no (λ ids=>Ez ids.length (fP N ids)) (gv es)
 | _=>exact .no
noncomputable def Jm (m:Sem (Option (List Str))):Option (Option (List Str)):=by
 cases m with
 | pure a=>exact some a
 | _=>exact none
def yJ (Φ:eO) (ev:Ev) (N:aq) (ts:List Expr):lX V:=by
 induction ts using List.casesOn with
 | nil=>exact .no
 | cons t ts =>
 induction ts using List.casesOn with
 | nil=>exact AO Φ ev N t
 | cons u ts =>
 induction ts using List.casesOn with
 | nil=>exact ⟨λ env σ v=>au ((AO Φ ev N t).f env σ v) λ p=>(AO Φ ev N u).f p.1 p.2 v⟩
 | cons=>exact .no
def jA (Φ:eO) (ev:Ev) (N:aq) (ts:List Expr) (value:Expr):lX V :=
 kt .no (λ o=>kt (yJ Φ ev N ts) (λ names=>EA names.length (fP N names.reverse)) o) (Jm (swappedStores ts value (qG N)))
noncomputable abbrev eM:=aq->Stmt->eJ (Fl×AE×List O)
def bY (X:eM) (N:aq):List Stmt->eJ (Fl×AE×List O)
 | []=>⟨λ env σ=>some (.next,env,σ)⟩
 | st::r=>⟨λ env σ=>au ((X N st).f env σ) λ p=>match p.1 with
  | .next=>(bY X N r).f p.2.1 p.2.2
  | f=>some (f,p.2)⟩
def jB (T:eJ (Bool×List O)) (B:eJ (Fl×AE×List O)):Nat->AE->List O->Option (Fl×AE×List O)
 | 0,_,_=>none
 | n+1,env,σ=>au (T.f env σ) λ p=>aB p.1 (au (B.f env p.2) λ q=>match q.1 with
  | .next=>jB T B n q.2.1 q.2.2
  | .cont=>jB T B n q.2.1 q.2.2
  | .brk=>some (.next,q.2)
  | .ret u=>some (.ret u,q.2)) (some (.next,env,p.2))
noncomputable def EB (o:O):Option (List V):=by
 induction o using O.casesOn with
 | list l=>exact some l
 | _=>exact none
def cB (v:V) (σ:List O):Option (List V):=by
 induction v using V.casesOn with
 | lst l=>exact some l
 | ref i=>exact au (aU σ i) EB
 | _=>exact none
def bw (v:V) (σ:List O):Option (List V):=by
 induction v using V.casesOn with
 | lst l=>exact some l
 | tup l=>exact some l
 | str x=>exact some (x.map λ c=>.str [c])
 | ref i=>exact au (aU σ i) EB
 | rng a b=>exact aB (decide (-1000000≤a) && decide (a≤1000000) && decide (-1000000≤b) && decide (b≤1000000)) (some ((List.range (b - a).toNat).map λ k:Nat=>V.int (a+(k:Int)))) none
 | _=>exact none
def oa (P:lX V) (B:eJ (Fl×AE×List O)) (v:V) (n:Nat):Nat->AE->List O->Option (Fl×AE×List O)
 | 0,env,σ=>au (bw v σ) λ l=>aB (Nat.beq l.length n) (some (.next,env,σ)) none
 | r+1,env,σ=>au (bw v σ) λ l=>aB (Nat.beq l.length n) (au (aU l (n - (r+1))) λ y=>au (P.f env σ y) λ p=>au (B.f p.1 p.2) λ q=>match q.1 with
  | .next=>oa P B v n r q.2.1 q.2.2
  | .cont=>oa P B v n r q.2.1 q.2.2
  | .brk=>some (.next,q.2)
  | .ret u=>some (.ret u,q.2)) none
def gw (Φ:eO) (ev:Ev) (X:eM) (W:Nat) (N:aq) (st:Stmt):eJ (Fl×AE×List O):=by
 induction st using Stmt.casesOn with
 | Expr e _=>exact aB (gT e) .no ⟨λ env σ=>bs ((ev.E N e).f env σ) λ p=>(.next,env,p.2)⟩
 | Pass _=>exact ⟨λ env σ=>some (.next,env,σ)⟩
 | Break _=>exact ⟨λ env σ=>some (.brk,env,σ)⟩
 | Continue _=>exact ⟨λ env σ=>some (.cont,env,σ)⟩
 | Return o _=>exact kt ⟨λ env σ=>some (.ret .none,env,σ)⟩ (λ e=>⟨λ env σ=>bs ((ev.E N e).f env σ) λ p=>(.ret p.1,env,p.2)⟩) o
 | Assign ts value _=>exact aB (gT value) .no ⟨λ env σ=>au ((ev.E N value).f env σ) λ p=>bs ((jA Φ ev N ts value).f env p.2 p.1) λ q=>(.next,q)⟩
 | AugAssign t op value _=>exact kt (kt .no (λ a=>⟨λ env σ=>au ((ev.E N a.1).f env σ) λ p=>au (Φ.attr p.1 a.2.1 p.2) λ old=>au ((ev.E N value).f env old.2) λ q=>au (Φ.inp op old.1 q.1 q.2) λ r=>bs (Φ.setA p.1 a.2.1 r.1 r.2) λ σ'=>(.next,env,σ')⟩) (u7 t)) (λ id=>⟨λ env σ=>au ((b9 Φ N id).f env σ) λ old=>au ((ev.E N value).f env σ) λ p=>au (Φ.inp op old p.1 p.2) λ q=>bs ((bX N id).f env q.2 q.1) λ r=>(.next,r)⟩) (ww t)
 | If t a b _=>exact ⟨λ env σ=>au ((ev.T N t).f env σ) λ p=>aB p.1 ((bY X N a).f env p.2) ((bY X N b).f env p.2)⟩
 | While t body els _=>exact aB els.isEmpty ⟨λ env σ=>jB (ev.T N t) (bY X N body) W env σ⟩ .no
 | For t iter body els _=>exact aB (els.isEmpty && lY iter) ⟨λ env σ=>au (ww t) λ x=>au ((ev.E N iter).f env σ) λ p=>au (bw p.1 p.2) λ l=>oa (bX N x) (bY X N body) p.1 l.length l.length env p.2⟩ .no
 | Assert t _ _=>exact ⟨λ env σ=>au ((ev.T N t).f env σ) λ p=>aB p.1 (some (.next,env,p.2)) none⟩
 | _=>exact .no
end
inductive vn (I:aZ) (S:Addr->Obj->Prop) (ρ:List Addr):Fl->Flow->Prop
 | next:vn I S ρ .next .next
 | brk:vn I S ρ .brk .brk
 | cont:vn I S ρ .cont .cont
 | ret {v:V} {x:Value}:VR I S ρ v x->vn I S ρ (.ret v) (.ret x)
theorem vn.nextE {I:aZ} {S:Addr->Obj->Prop} {ρ:List Addr} {f:Flow} (h:vn I S ρ .next f):f=.next:=by
 cases (h); rfl
section
variable (hb:Heap) (prog:Program) (w:World) (I:aZ)
def bC (N:aq) (hid ρ:List Addr) (s:Shared) (env:Env) (r:Fl×AE×List O) (Q:Flow->Shared->Prop):Prop :=
 ∀ ρ' h' tk gs fl,aI I [env.locals] ρ ρ' s.heap s.gens h' gs->Sh hb prog w I hid ρ' r.2.2 h'->ao I N env r.2.1 hid ρ' h'->vn I (ay hid ρ' h') ρ' r.1 fl->Q fl { s with heap:=h',toks:=tk,gens:=gs }
def dT (N:aq) (hid ρ:List Addr) (s:Shared) (env:Env) (r:AE×List O) (Q:Unit->Shared->Prop):Prop :=
 ∀ ρ' h' tk gs,aI I [env.locals] ρ ρ' s.heap s.gens h' gs->Sh hb prog w I hid ρ' r.2 h'->ao I N env r.1 hid ρ' h'->Q () { s with heap:=h',toks:=tk,gens:=gs }
def dQ (k:Nat) (X:eM):Prop:=∀ N ae σ st r,(X N st).f ae σ=some r->∀ A s hid ρ env Q E,aC A k->ao I N env ae hid ρ s.heap->Sh hb prog w I hid ρ σ s.heap->bC hb prog w I N hid ρ s env r Q->wpAny (model prog w) A (exec st env) Q E s
end
section
variable {hb:Heap} {prog:Program} {w:World} {I:aZ} {k:Nat} {Φ:eO} {ev:Ev} {X:eM} {hid ρ ρ' ρ'':List Addr} {σ:List O} {A:Around} {s:Shared} {env:Env} {N:aq} {ae:AE} {E:Value->Shared->Prop} {h h' h'':Heap}
theorem ao.alive (x:ao I N env ae hid ρ h):∀ a∈[env.locals],∃ o,h.get? a=some o:=λ a m=>by
 refine ag x.loc λ m' j01 _=>?_; refine da j01 λ o _ _ e _=>?_; clear j01;rw [List.mem_singleton.mp m]; exact ⟨o,e⟩
theorem ao.sub (x:ao I N env ae hid ρ h):∀ a∈[env.locals],a∈hid:=λ a m=>by rw [List.mem_singleton.mp m]; exact x.hidL
theorem bC.later {tk:Nat} {gs:Array GenState} {r:Fl×AE×List O} {Q:Flow->Shared->Prop} {ae':AE} (x:aI I [env.locals] ρ ρ' s.heap s.gens h' gs) (Y:ao I N env ae' hid ρ' h') (q:bC hb prog w I N hid ρ s env r Q):bC hb prog w I N hid ρ' { s with heap:=h',toks:=tk,gens:=gs } env r Q :=
 λ ρ'' h'' tk' gs' fl x' H' Y' F'=>q ρ'' h'' tk' gs' fl (x.trans x' Y.alive) H' Y' F'
theorem dT.later {tk:Nat} {gs:Array GenState} {r:AE×List O} {Q:Unit->Shared->Prop} {ae':AE} (x:aI I [env.locals] ρ ρ' s.heap s.gens h' gs) (Y:ao I N env ae' hid ρ' h') (q:dT hb prog w I N hid ρ s env r Q):dT hb prog w I N hid ρ' { s with heap:=h',toks:=tk,gens:=gs } env r Q :=
 λ ρ'' h'' tk' gs' x' H' Y'=>q ρ'' h'' tk' gs' (x.trans x' Y.alive) H' Y'
theorem bJ {id:Str} {v:V} {x:Value} {r:AE×List O} {Q:Unit->Shared->Prop} (e:(bX N id).f ae σ v=some r) (Y:ao I N env ae hid ρ s.heap) (H:Sh hb prog w I hid ρ σ s.heap) (Vx:VR I (ay hid ρ s.heap) ρ v x)
  (q:dT hb prog w I N hid ρ s env r Q):wpAny (model prog w) A (storeName env id x) Q E s:=by
 unfold bX at e;have hk:env.kindOf id=N.lookup id:=by unfold Env.kindOf; rw [Y.names]
 split at e
 ·rename_i p hp;obtain ⟨i,kd⟩:=p;have hl:=dz hp;change (Ey i kd).f ae σ v=some r at e;unfold Ey at e;split at e
  ·induction e using sI;refine ag Y.loc λ m hn hl'=>?_;refine wpAny_storeName_local (hk.trans hl) hn (λ h' hn' hs=>?_) (by rw [Y.kind]; rfl)
   have al:∀ a∈[env.locals],∃ o,h'.get? a=some o:=λ a m=>by
    refine da hn' λ o _ _ e _=>?_; clear hn';rw [List.mem_singleton.mp m]; exact ⟨o,e⟩
   refine ab (H.move Y.sub al (λ b o eb nb=>(hs.2 b λ q=>nb (by rw [q]; exact List.mem_singleton.mpr rfl)).trans eb)) λ x1 H1=>?_
   refine q ρ h' (s.toks+1) s.gens x1 H1 ⟨Y.kind,Y.names,Y.gl,Y.bu,Y.hidL,⟨_,hn',λ y j k' u ep eu=>?_⟩,Y.cel,Y.code.tr x1.pre (x1.stb Y.sub)⟩;have eu':F.get j (F.set i ae.loc v)=some u:=eu;by_cases hy:y=id
   ·subst hy;rw [hp] at ep;cases ep;have:=F.get_set_same eu';subst this;exact ⟨x,by simp,Vx.tr x1.pre (x1.stb Y.sub)⟩
   ·have hij:i≠j:=λ q'=>by
     refine ah λ G9 fin9=>?_;subst q';obtain ⟨_,j1,e1,e2⟩:=bn hp;obtain ⟨_,j2,e3,e4⟩:=bn ep;have:j1=j2:=by simp at e1 e3; exact Eq.trans (Eq.symm (by assumption)) (by assumption)
     subst this;rw [e2] at e4;refine fin9 ?_; clear fin9 G9;exact hy (congrArg Prod.fst (Option.some.inj e4)).symm
    rw [F.get_set_ne hij] at eu';refine ag (hl' y j k' u ep eu') λ val e1 e2=>?_;exact ⟨val,by simp [hy,e1],e2.tr x1.pre (x1.stb Y.sub)⟩
  ·change (au (aU ae.cel i) λ o=>au o λ c=>au (aU σ c) λ o=>(fE none (λ y390=>some (ae,bF σ c (.cell (some v)))) o))=some r at e;refine ah λ G9 fin9=>?_;refine aa e λ o h1 g1=>?_;refine aa g1 λ c h2 g2=>?_;refine aa g2 λ o' h3 g3=>?_;subst h2;rw [aE] at h3;refine fin9 ?_; clear fin9 G9;revert g3; refine jw ?_ λ g3=>?_; rintro _ rfl g3
   ·rename_i v0;refine ah λ G9 fin9=>?_;induction g3 using sI;refine ag (Y.cel id i _ c hp h1) λ ca e1 e2=>?_;refine ak (H.ob c _ h3) λ a b f1 f2 f3=>?_;rw [e2] at f1;induction f1 using sI;have cl:∃ v₀,b.data=.cell v₀:=by
     induction v0 using Option.casesOn with
     | none=>cases f3 with | cellN g2=>exact ⟨_,g2⟩
     | some _=>cases f3 with | cell g2 _=>exact ⟨_,g2⟩
    refine aj cl λ v₀ gd=>?_; clear cl;refine fin9 ?_; clear fin9 G9;refine wpAny_storeName_cell Y.kind (hk.trans hl) e1 ⟨b,f2,gd⟩ λ h' hv hs=>?_;refine ag hv λ o' ho' hd'=>?_; clear hv;refine ab (H.set e2 (λ c' hc'=>hs.2 c' hc') ho' (.cell hd' Vx)) λ x1 H1=>?_;rw [<-cF] at H1;exact q ρ h' s.toks s.gens x1.wk.g H1 (Y.ext H x1)
   ·exact ac g3
  ·exact ac e
 ·exact ac e
theorem og:∀ {ids:List Str} {vs:List V} {xs:List Value} {ae:AE} {σ:List O} {ρ:List Addr} {s:Shared} {r:AE×List O} {Q:Unit->Shared->Prop},(fP N ids).f ae σ vs=some r->ao I N env ae hid ρ s.heap->Sh hb prog w I hid ρ σ s.heap->VRs I (ay hid ρ s.heap) ρ vs xs ->
  dT hb prog w I N hid ρ s env r Q->wpAny (model prog w) A (assignInOrder (ids.map λ n=>bindName env n) xs) Q E s:=by
 intro ids;induction ids with
 | nil =>
  intro vs xs ae σ ρ s r Q e Y H W q;induction vs using List.casesOn with
  | cons _ _=>exact ac e
  | nil =>
  induction W using bQ.casesOn;induction e using sI;exact wpAny_pure (q ρ s.heap s.toks s.gens (aI.refl _ _ _ _) H Y)
 | cons x ids ih =>
  intro vs xs ae σ ρ s r Q e Y H W q;induction vs using List.casesOn with
  | nil=>exact ac e
  | cons v vs =>
  induction W using aD.casesOn with
  | cons Vx Vs =>
  change (au ((bX N x).f ae σ v) λ p=>(fP N ids).f p.1 p.2 vs)=some r at e;refine aa e λ p e1 e2=>?_;unfold assignInOrder;refine wpAny_bind (wpAny_holding (wpAny_bindName (bJ e1 Y H Vx λ ρ' h' tk gs x1 H1 Y1=>?_)));exact ih e2 Y1 H1 (Vs.tr x1.pre (x1.stb Y.sub)) (q.later x1 Y1)
theorem gy:∀ {es:List Expr} {ids:List Str} {vs:List V} {xs:List Value} {ae:AE} {σ:List O} {ρ:List Addr} {s:Shared} {r:AE×List O} {Q:Unit->Shared->Prop},gv es=some ids->(fP N ids).f ae σ vs=some r->ao I N env ae hid ρ s.heap->Sh hb prog w I hid ρ σ s.heap->VRs I (ay hid ρ s.heap) ρ vs xs ->
  dT hb prog w I N hid ρ s env r Q->wpAny (model prog w) A (assignInOrder ((assignEach es env).map (·.2)) xs) Q E s:=by
 intro es;induction es with
 | nil =>
  intro ids vs xs ae σ ρ s r Q n e Y H V q;induction n using sI;induction vs using List.casesOn with
  | nil =>
   induction V using bQ.casesOn;induction e using sI;exact wpAny_pure (q ρ s.heap s.toks s.gens (aI.refl _ _ _ _) H Y)
  | cons _ _=>exact ac e
 | cons t es ih =>
  intro ids vs xs ae σ ρ s r Q n e Y H V q;refine aa n λ id n0 n=>?_;refine aj (eg n0) ?_; rintro pos rfl;refine az n ?_; rintro l n1 rfl;induction vs using List.casesOn with
  | nil=>exact ac e
  | cons v0 vs =>
  induction V using aD.casesOn with
  | cons Vx Vs =>
   change (au ((bX N id).f ae σ _) λ p=>(fP N l).f p.1 p.2 _)=some r at e;refine aa e λ p e1 e2=>?_;show wpAny _ A (assignInOrder (assign (.Name id pos) env::(assignEach es env).map (·.2)) _) Q E s;unfold assignInOrder;refine wpAny_bind (wpAny_holding ?_);rw [arm_assign_Name];refine wpAny_bind (wpAny_standAt (wpAny_bindName (bJ e1 Y H Vx λ ρ' h' tk gs x1 H1 Y1=>?_)));exact ih n1 e2 Y1 H1 (Vs.tr x1.pre (x1.stb Y.sub)) (q.later x1 Y1)
theorem oh:∀ {es:List Expr} {ids:List Str},gv es=some ids->(assignEach es env).length=ids.length∧(assignEach es env).findIdx? (·.1)=none:=by
 intro es;induction es with
 | nil =>
  intro _ h;induction h using sI; exact ⟨rfl,rfl⟩
 | cons t es ih =>
  intro ids h;refine ah λ G9 fin9=>?_;refine aa h λ id n0 n=>?_;refine aj (eg n0) ?_; rintro pos rfl;refine az n ?_; rintro l n1 rfl;refine ab (ih n1) λ a b=>?_;refine fin9 ?_; clear fin9 G9;refine ⟨by show (assignEach es env).length+1=l.length+1; rw [a],?_⟩
  show List.findIdx? (·.1) ((false,assign (.Name id pos) env)::assignEach es env)=none;rw [List.findIdx?_cons,b]; rfl
theorem VRs.size {v:List V} {items:Array Value} {S:Addr->Obj->Prop} (V:VRs I S ρ v items.toList):items.size=v.length:=by
 rw [V.length,Array.length_toList]
theorem eZ {t:Expr} {v:V} {r:AE×List O} (e:(AO Φ ev N t).f ae σ v=some r):bT t=true:=by
 induction t using Expr.casesOn<;>first | rfl | exact ac e
theorem cY {t:Expr} {r:List Expr} (h:bT t=true):assignEach (t::r) env=(false,assign t env)::assignEach r env:=by
 induction t using Expr.casesOn<;>first | rfl | exact aT h
theorem e8 {t:Expr} (h:bT t=true):(assignEach [t] env).map (·.2)=[assign t env]:=by
 rw [cY h]; rfl
theorem jC {t u:Expr} (h:bT t=true) (h':bT u=true):(assignEach [t,u] env).map (·.2)=[assign t env,assign u env]:=by
 rw [cY h,cY h']; rfl
theorem EC {m:Sem (Option (List Str))} {a:Option (List Str)} (h:Jm m=some a):m=.pure a:=by
 cases m with
 | pure=>induction h using sI; rfl
 | _=>exact ac h
theorem VRs.rev {S:Addr->Obj->Prop}:∀ {l:List V} {xs:List Value},VRs I S ρ l xs->VRs I S ρ l.reverse xs.reverse:=by
 intro l;induction l with
 | nil =>
  intro _ W;induction W using bQ.casesOn; exact .nil
 | cons _ _ ih =>
  intro _ W;induction W using aD.casesOn with
  | cons a b=>rw [List.reverse_cons,List.reverse_cons]; exact (ih b).append (.cons a .nil)
theorem gZ (OK:cN hb prog w I k Φ) (SE:eN hb prog w I k ev) (R:aC A k) {t:Expr} {v:V} {x:Value} {r:AE×List O} {Q:Unit->Shared->Prop} (e:(AO Φ ev N t).f ae σ v=some r) (Y:ao I N env ae hid ρ s.heap) (H:Sh hb prog w I hid ρ σ s.heap) (Vx:VR I (ay hid ρ s.heap) ρ v x)
  (q:dT hb prog w I N hid ρ s env r Q):wpAny (model prog w) A (assign t env x) Q E s:=by
 induction t using Expr.casesOn with
 | Name id p =>
  rw [arm_assign_Name];exact wpAny_bind (wpAny_standAt (wpAny_bindName (bJ (id:=id) e Y H Vx q)))
 | Attribute o attr p =>
  dsimp only [AO] at e;refine aa e λ p e1 e=>?_;refine az e ?_; rintro σ' e2 rfl;rw [arm_assign_Attribute];refine wpAny_bind (wpAny_holding (SE _ _ _ _ _ e1 _ _ _ _ _ _ _ R Y H λ ρ1 h1 tk1 gs1 ov x1 H1 V1=>?_));refine wpAny_bind (wpAny_standAt (wpAny_bind (wpAny_holding ?_)));refine OK.setA _ _ _ _ _ e2 A _ hid ρ1 ov x _ E R H1 V1 (Vx.ext x1) λ ρ2 h2 tk2 gs2 x2 H2=>?_;exact wpAny_release (q ρ2 h2 tk2 gs2 (x1.trans0 x2).wk H2 ((Y.ext H x1).ext H1 x2))
 | Subscript o i p =>
  refine ah λ G9 fin9=>?_;dsimp only [AO] at e;refine ab (G4 e) λ hns e=>?_;refine aa e λ p e1 e=>?_;refine aa e λ p2 e2 e=>?_;refine az e ?_; rintro σ' e3 rfl;refine fin9 ?_; clear fin9 G9;rw [arm_assign_Subscript];refine wpAny_bind (wpAny_holding (SE _ _ _ _ _ e1 _ _ _ _ _ _ _ R Y H λ ρ1 h1 tk1 gs1 ov x1 H1 V1=>?_));refine wpAny_bind (wpAny_holding (SE _ _ _ _ _ e2 _ _ _ _ _ _ _ R (Y.ext H x1) H1 λ ρ2 h2 tk2 gs2 iv x2 H2 V2=>?_));refine wpAny_bind (wpAny_standAt (wpAny_bind (wpAny_holding ?_)));refine OK.setI _ _ _ _ _ e3 A _ hid ρ2 ov iv x _ E R H2 (V1.ext x2.toExt) V2 ((Vx.ext x1.toExt).ext x2.toExt) λ ρ3 h3 tk3 gs3 x3 H3=>?_;exact wpAny_release (q ρ3 h3 tk3 gs3 ((x1.trans0 x2).trans0 x3).wk H3 (((Y.ext H x1).ext H1 x2).ext H2 x3))
 | Tuple es c p =>
  cases e1:gv es with
  | none=>dsimp only [AO] at e; rw [e1] at e; exact ac e
  | some ids =>
   dsimp only [AO] at e;rw [e1] at e;refine aa ((show au (nS v) (λ l=>aB (l.length == ids.length) ((fP N ids).f ae σ l) none)=some r from e)) λ l e0 e=>?_;cases iX e0;refine ai e λ hl e=>?_;induction Vx using cM.casesOn with
   | tup a d =>
    rename_i a' items n';refine ab (oh (env:=env) e1) λ g1 g2=>?_;have hl':=beq_iff_eq.mp hl;refine wpAny_assign_Tuple R.hh ⟨_,a.1,rfl,_,rfl⟩ (by rw [g1,d.size,hl']) g2 λ h' hx=>?_
    refine ab (H.keeps λ b o eb=>hx b o (bd eb) eb) λ x1 H1=>?_;exact gy (s:={ s with heap:=h' }) e1 e (Y.ext H x1) H1 (d.ext x1) (q.later (tk:=s.toks) (gs:=s.gens) x1.wk.g (Y.ext H x1))
 | _=>exact ac e
end
section
variable {hb:Heap} {prog:Program} {w:World} {I:aZ} {k:Nat} {Φ:eO} {ev:Ev} {X:eM} {hid ρ ρ' ρ'':List Addr} {σ:List O} {A:Around} {s:Shared} {env:Env} {N:aq} {ae:AE} {E:Value->Shared->Prop} {h h' h'':Heap}
theorem oi {ts:List Expr} {v:Expr} (hk:env.scope.kind=.function):swappedStores ts v env=swappedStores ts v (qG env.scope.names):=by
 have e1:Env.kindOf env=Env.kindOf (qG env.scope.names):=by funext y; rfl
 have e2:Env.blockKind env=Env.blockKind (qG env.scope.names):=by
  unfold Env.blockKind;rw [hk]; rfl
 delta swappedStores
 rw [e1,e2]
theorem jD {v:Expr} {t:Option Expr} {n:Nat} (h:gT v=false):swapsWith v t n env=pure false:=by
 unfold swapsWith;induction v using Expr.casesOn<;>first | rfl | cases h
theorem jE {v:Expr} {ts:List Expr} {n:Nat} (h:gT v=false):swapsWithSole ts v n env=pure false:=by
 unfold swapsWithSole;induction ts using List.casesOn with
 | nil=>rfl
 | cons t ts =>
  induction ts using List.casesOn with
  | nil=>exact jD h
  | cons=>rfl
theorem vo {names:List Str} {l:List V} {xs:List Value} {r:AE×List O} {Q:Unit->Shared->Prop} (e:(fP N names.reverse).f ae σ l.reverse=some r) (Y:ao I N env ae hid ρ s.heap) (H:Sh hb prog w I hid ρ σ s.heap) (V:VRs I (ay hid ρ s.heap) ρ l xs)
  (q:dT hb prog w I N hid ρ s env r Q):wpAny (model prog w) A (assignInOrder (names.reverse.map λ n=>bindName env n) xs.reverse) Q E s :=
 og e Y H V.rev q
theorem fb {ts:List Expr} {value:Expr} {pos:Pos} (h:gT value=false) (Q:Flow->Shared->Prop)
  (hw:wpAny (model prog w) A (eval value env) (λ v s₁=>wpAny (model prog w) A (swappedStores ts value env >>= λ sw=>assignStores env v sw ((assignEach ts env).map (·.2))) Q E s₁) E s):wpAny (model prog w) A (exec (.Assign ts value pos) env) Q E s:=by
 rw [exec_Assign_arm];refine wpAny_bind (wpAny_standAt ?_);rw [jE h];refine wpAny_bind (wpAny_pure ?_);rw [if_neg (by decide)]
 exact wpAny_bind hw
theorem ez (OK:cN hb prog w I k Φ) (SE:eN hb prog w I k ev) (R:aC A k) {ts:List Expr} {value:Expr} {v:V} {x:Value} {r:AE×List O} {Q:Flow->Shared->Prop} (e:(jA Φ ev N ts value).f ae σ v=some r) (Y:ao I N env ae hid ρ s.heap) (H:Sh hb prog w I hid ρ σ s.heap) (Vx:VR I (ay hid ρ s.heap) ρ v x)
  (q:dT hb prog w I N hid ρ s env r (λ _=>Q .next)):wpAny (model prog w) A (swappedStores ts value env >>= λ sw=>assignStores env x sw ((assignEach ts env).map (·.2))) Q E s:=by
 unfold jA at e;have e1:swappedStores ts value env=swappedStores ts value (qG N):=by rw [oi Y.kind,Y.names]
 rw [e1];cases e2:Jm (swappedStores ts value (qG N)) with
 | none=>rw [e2] at e; exact ac e
 | some o =>
 rw [e2] at e;rw [EC e2];induction o using Option.casesOn with
 | none =>
  refine wpAny_bind (wpAny_pure ?_);replace e:(yJ Φ ev N ts).f ae σ v=some r:=e;induction ts using List.casesOn with
  | nil=>exact ac e
  | cons t ts =>
  induction ts using List.casesOn with
  | nil =>
   replace e:(AO Φ ev N t).f ae σ v=some r:=e;show wpAny _ A (do assignAll x ((assignEach [t] env).map (·.2)); pure .next) Q E s
   rw [e8 (eZ e)];exact wpAny_bind (gZ OK SE R e Y H Vx λ ρ' h' tk gs x1 H1 Y1=>wpAny_pure (q ρ' h' tk gs x1 H1 Y1))
  | cons u ts =>
  induction ts using List.casesOn with
  | cons=>exact ac e
  | nil =>
   dsimp only [yJ] at e;refine aa e λ p e1 e=>?_;show wpAny _ A (do assignAll x ((assignEach [t,u] env).map (·.2)); pure .next) Q E s
   rw [jC (eZ e1) (eZ e)];refine wpAny_bind (wpAny_bind (wpAny_holding (gZ OK SE R e1 Y H Vx λ ρ1 h1 tk1 gs1 x1 H1 Y1=>?_)));exact gZ OK SE R e Y1 H1 (Vx.tr x1.pre (x1.stb Y.sub)) λ ρ2 h2 tk2 gs2 x2 H2 Y2=>wpAny_pure ((q.later (tk:=tk1) (gs:=gs1) x1 Y1) ρ2 h2 tk2 gs2 x2 H2 Y2)
 | some names =>
  refine aa ((show au (nS v) (λ l=>aB (l.length == names.length) ((fP N names.reverse).f ae σ l.reverse) none)=some r from e)) λ l e0 e=>?_;cases iX e0;refine ai e λ hl e=>?_;refine wpAny_bind (wpAny_pure ?_);show wpAny _ A (do
   rule "assign.swapped-stores"
   let items <-unpackItems x names.length none
   assignInOrder (names.reverse.map λ n=>bindName env n) items.reverse
   pure .next) Q E s
  refine wpAny_bind (wpAny_rule (wpAny_bind ?_));induction Vx using cM.casesOn with
  | tup a d =>
   rename_i a' items n';have hl':=beq_iff_eq.mp hl;have hz:names.length=items.size:=by rw [d.size,hl']
   rw [hz];refine wpAny_unpackItems_tuple R.hh ⟨_,a.1,rfl,_,rfl⟩ λ h' hx=>?_;refine ab (H.keeps λ b o eb=>hx b o (bd eb) eb) λ x1 H1=>?_;refine wpAny_bind (vo (s:={ s with heap:=h' }) e (Y.ext H x1) H1 (d.ext x1) λ ρ2 h2 tk gs x2 H2 Y2=>?_)
   exact wpAny_pure ((q.later (tk:=s.toks) (gs:=s.gens) x1.wk.g (Y.ext H x1)) ρ2 h2 tk gs x2 H2 Y2)
theorem bC.ofA {r:AE×List O} {Q:Flow->Shared->Prop} (q:bC hb prog w I N hid ρ s env (.next,r) Q):dT hb prog w I N hid ρ s env r (λ _=>Q .next) :=
 λ ρ' h' tk gs x1 H1 Y1=>q ρ' h' tk gs .next x1 H1 Y1 .next
theorem bi (SX:dQ hb prog w I k X) (R:aC A k):∀ {body:List Stmt} {ae:AE} {σ:List O} {ρ:List Addr} {s:Shared} {r:Fl×AE×List O} {Q:Flow->Shared->Prop},(bY X N body).f ae σ=some r->ao I N env ae hid ρ s.heap->Sh hb prog w I hid ρ σ s.heap ->
  bC hb prog w I N hid ρ s env r Q->wpAny (model prog w) A (execs body env) Q E s:=by
 intro body;induction body with
 | nil =>
  intro ae σ ρ s r Q e Y H q;induction e using sI;exact wpAny_execs_nil (q ρ s.heap s.toks s.gens .next (aI.refl _ _ _ _) H Y .next)
 | cons st body ih =>
  intro ae σ ρ s r Q e Y H q;change (au ((X N st).f ae σ) λ p=>match p.1 with
   | .next=>(bY X N body).f p.2.1 p.2.2
   | f=>some (f,p.2))=some r at e
  refine aa e λ p e1 e2=>?_;refine wpAny_execs_cons (SX _ _ _ _ _ e1 _ _ _ _ _ _ _ R Y H λ ρ' h' tk gs fl x1 H1 Y1 F1=>?_);obtain ⟨f,ae',σ'⟩:=p;cases F1 with
  | next=>exact ih e2 Y1 H1 (q.later x1 Y1)
  | brk=>induction e2 using sI; exact q ρ' h' tk gs .brk x1 H1 Y1 .brk
  | cont=>induction e2 using sI; exact q ρ' h' tk gs .cont x1 H1 Y1 .cont
  | ret V=>induction e2 using sI; exact q ρ' h' tk gs _ x1 H1 Y1 (.ret V)
def Jo (hb:Heap) (prog:Program) (w:World) (I:aZ) (N:aq) (hid ρ:List Addr) (s:Shared) (env:Env) (ae:AE) (σ:List O) (ρ':List Addr) (s':Shared):Prop :=
 (∃ h' tk gs,s'={ s with heap:=h',toks:=tk,gens:=gs })∧aI I [env.locals] ρ ρ' s.heap s.gens s'.heap s'.gens∧Sh hb prog w I hid ρ' σ s'.heap∧ao I N env ae hid ρ' s'.heap
theorem Jo.post {s':Shared} {r:Fl×AE×List O} {Q:Flow->Shared->Prop} {ae':AE} {σ':List O} (Nw:Jo hb prog w I N hid ρ s env ae' σ' ρ' s') (q:bC hb prog w I N hid ρ s env r Q):bC hb prog w I N hid ρ' s' env r Q:=by
 refine eQ Nw λ j00 x H Y=>?_; clear Nw; refine kQ j00 ?_; clear j00; rintro h' tk gs rfl;exact q.later x Y
theorem om (ST:jy hb prog w I k ev) (SX:dQ hb prog w I k X) (R:aC A k) {test:Expr} {body:List Stmt} {pos:Pos} {W:Nat} {r:Fl×AE×List O} {Q:Flow->Shared->Prop} (e:jB (ev.T N test) (bY X N body) W ae σ=some r) (Y:ao I N env ae hid ρ s.heap) (H:Sh hb prog w I hid ρ σ s.heap)
  (q:bC hb prog w I N hid ρ s env r Q):wpAny (model prog w) A (exec (.While test body [] pos) env) Q E s:=by
 refine wpAny_While ?_;refine codeAny_whileLoop (λ n s'=>∃ ae' σ' ρ',Jo hb prog w I N hid ρ s env ae' σ' ρ' s'∧jB (ev.T N test) (bY X N body) n ae' σ'=some r) ?_ W
  ⟨ae,σ,ρ,⟨⟨s.heap,s.toks,s.gens,rfl⟩,aI.refl _ _ _ _,H,Y⟩,e⟩
 rintro n s' ⟨ae',σ',ρ',Nw,e'⟩;have q':=Nw.post q;refine eQ Nw λ j00 x1 H1 Y1=>?_; clear Nw; refine kQ j00 ?_; clear j00; rintro h1 tk1 gs1 rfl;induction n using Nat.casesOn with
 | zero=>exact ac e'
 | succ n =>
  refine aa e' λ p e1 e2=>?_;refine ST _ _ _ _ _ e1 _ _ _ _ _ _ _ R Y1 H1 λ ρ2 h2 tk2 gs2 x2 H2=>?_;have Y2:=Y1.ext H1 x2.toExt;have x12:=x1.trans x2.wk Y1.alive;cases hp:p.1 with
  | false =>
   rw [hp] at e2;induction e2 using sI;simp only [Bool.false_eq_true,if_false];exact wpAny_execs_nil (q' ρ2 h2 tk2 gs2 .next x2.wk H2 Y2 .next)
  | true =>
   rw [hp] at e2;simp only [if_true];refine aa e2 λ p2 e3 e4=>?_;refine bi SX R e3 Y2 H2 λ ρ3 h3 tk3 gs3 fl x3 H3 Y3 F3=>?_;have x13:=x12.trans x3 Y2.alive;obtain ⟨f,ae3,σ3⟩:=p2;cases F3 with
   | next=>exact ⟨n,Nat.lt_succ_self n,ae3,σ3,ρ3,⟨⟨h3,tk3,gs3,rfl⟩,x13,H3,Y3⟩,e4⟩
   | cont=>exact ⟨n,Nat.lt_succ_self n,ae3,σ3,ρ3,⟨⟨h3,tk3,gs3,rfl⟩,x13,H3,Y3⟩,e4⟩
   | brk=>induction e4 using sI; exact q' ρ3 h3 tk3 gs3 .next (x2.wk.trans x3 Y2.alive) H3 Y3 .next
   | ret V=>induction e4 using sI; exact q' ρ3 h3 tk3 gs3 _ (x2.wk.trans x3 Y2.alive) H3 Y3 (.ret V)
end
section
variable {hb:Heap} {prog:Program} {w:World} {I:aZ} {k:Nat} {Φ:eO} {ev:Ev} {X:eM} {hid ρ ρ' ρ'':List Addr} {σ:List O} {A:Around} {s:Shared} {env:Env} {N:aq} {ae:AE} {E:Value->Shared->Prop} {h h' h'':Heap}
def dI (h:Heap) (v:V) (x:Value) (J:Addr) (n:Nat):Prop:=(eU (aP (nT (aP (aV (∃ a,x=.ref a∧h.IsListIter J a n) (λ y390=>∃ tx t T,x=.str tx t∧(T = "str_ascii_iterator" ∨ T = "str_iterator")∧h.IsStrIter J T tx t n) v)) (λ a b=>IsRangeIter h J (a+n) (((b - a).toNat:Int) - n) 1) v)) (λ y390=>∃ a,x=.ref a∧h.IsTupleIter J a n) v)
theorem qH {d d':Prop} {f f':List V->Prop} {v:V} (h1:∀ a,f a->f' a) (h2:d->d'):eU d f v->eU d' f' v:=by
 unfold eU;cases nS v with
 | none=>exact h2
 | some a=>exact h1 a
theorem qI {d d':Prop} {f f':Int->Int->Prop} {v:V} (h1:∀ a b,f a b->f' a b) (h2:d->d'):nT d f v->nT d' f' v:=by
 unfold nT;cases Hd v with
 | none=>exact h2
 | some a=>exact h1 a.1 a.2
theorem qJ {d d':Prop} {f f':AS->Prop} {v:V} (h1:∀ a,f a->f' a) (h2:d->d'):aV d f v->aV d' f' v:=by
 unfold aV;cases yb v with
 | none=>exact h2
 | some a=>exact h1 a
theorem dI.at {v:V} {x:Value} {J:Addr} {n:Nat} (i:dI h v x J n) (e:h'.get? J=h.get? J):dI h' v x J n :=
 qH (λ _ ⟨a,e1,o,e2,r⟩=>⟨a,e1,o,e.trans e2,r⟩) (qI (λ _ _ i=>e.trans i) (qJ (λ _ ⟨tx,t,T,e1,e3,o,e2,r⟩=>⟨tx,t,T,e1,e3,o,e.trans e2,r⟩) λ ⟨a,e1,o,e2,r⟩=>⟨a,e1,o,e.trans e2,r⟩)) i
theorem jF {v:V} {σ:List O} {l:List V} (e:bw v σ=some l):(∃ x,v=.str x)∨(∃ i,v=.ref i)∨v=.tup l∨v=.lst l∨∃ a b,v=.rng a b:=by
 induction v using V.casesOn with
 | str x=>exact .inl ⟨x,rfl⟩
 | ref i=>exact .inr (.inl ⟨i,rfl⟩)
 | tup x=>exact .inr (.inr (.inl (congrArg _ (Option.some.inj e))))
 | lst x=>exact .inr (.inr (.inr (.inl (congrArg _ (Option.some.inj e)))))
 | rng a b=>exact .inr (.inr (.inr (.inr ⟨a,b,rfl⟩)))
 | _=>exact ac e
theorem tR {o:O} {l:List V} (h:EB o=some l):o=.list l:=by
 induction o using O.casesOn with
 | list=>induction h using sI; rfl
 | _=>exact ac h
theorem dM {v:V} {x:Value} {l:List V} (e:cB v σ=some l) (H:Sh hb prog w I hid ρ σ h) (Vx:VR I (ay hid ρ h) ρ v x):∃ a items,x=.ref a∧h.IsList a items∧VRs I (ay hid ρ h) ρ l items.toList:=by
 induction v using V.casesOn with
 | lst l =>
  induction e using sI;induction Vx using dw.casesOn with
  | lst a d=>exact ⟨_,_,rfl,⟨_,a.1,rfl,_,rfl⟩,d⟩
 | ref i =>
  refine aa e λ o e1 e2=>?_;cases tR e2;rw [aE] at e1;induction Vx using bV.casesOn with
  | ref hr =>
   refine ak (H.ob _ _ e1) λ a b f1 f2 f3=>?_;rw [hr] at f1;induction f1 using sI;induction f3 using cD.casesOn with
   | list V=>exact ⟨_,_,rfl,⟨_,f2,rfl,_,rfl⟩,by simpa using V⟩
 | _=>exact ac e
theorem yK {a b:Int} (h:(decide (-1000000≤a) && decide (a≤1000000) && decide (-1000000≤b) && decide (b≤1000000))=true):Builtin.Range.small a b 1=true∧Builtin.Range.rangeSize a b 1=((b - a).toNat:Int):=by
 simp only [Bool.and_eq_true,decide_eq_true_eq] at h;refine ab h λ j00 h4=>?_; clear h; refine ab j00 λ j10 h3=>?_; clear j00; refine ab j10 λ h1 h2=>?_; clear j10;have z:Builtin.Range.rangeSize a b 1=((b - a).toNat:Int):=by
  unfold Builtin.Range.rangeSize;by_cases h:a < b
  ·rw [Int.toNat_of_nonneg (Int.sub_nonneg_of_le (Int.le_of_lt h))];simp [h]
  ·rw [Int.toNat_of_nonpos (Int.sub_nonpos_of_le (Int.not_lt.mp h))];simp [h]
 refine ⟨?_,z⟩;unfold Builtin.Range.small;rw [z];unfold Builtin.Range.rangeFitsLong;simp;lia
theorem jG {v:V} {x:Value} {l:List V} {Q:Value->Shared->Prop} (e:bw v σ=some l) (H:Sh hb prog w I hid ρ σ s.heap) (Vx:VR I (ay hid ρ s.heap) ρ v x)
  (q:∀ b:Obj,b.isFreed=false->dI (s.heap.push b) v x s.heap.objs.size 0->Q (.ref s.heap.objs.size) { s with heap:=s.heap.push b }):wpAny (model prog w) A (pyIter x) Q E s:=by
 have li:∀ a items,x=.ref a->s.heap.IsList a items->(∀ h,dI h v x s.heap.objs.size 0=∃ a,x=.ref a∧h.IsListIter s.heap.objs.size a 0)->wpAny (model prog w) A (pyIter x) Q E s:=λ a items ea hl hi=>by
  subst ea;exact wpAny_pyIter_list hl (q _ rfl (by rw [hi]; exact ⟨a,rfl,_,Heap.get?_push_size _ rfl,rfl,rfl⟩))
 rcases jF e with ⟨y0,rfl⟩ | ⟨i0,rfl⟩ | rfl | rfl | ⟨a,b,rfl⟩
 ·induction Vx using aG.casesOn with
  | str t =>
   cases ha:(den I y0).cps.all (· < 128)
   ·exact wpAny_pyIter_wide ha (q _ rfl ⟨_,_,_,rfl,.inr rfl,_,Heap.get?_push_size _ rfl,rfl,rfl⟩)
   ·exact wpAny_pyIter_ascii ha (q _ rfl ⟨_,_,_,rfl,.inl rfl,_,Heap.get?_push_size _ rfl,rfl,rfl⟩)
 ·refine ak (dM (v:=.ref _) (l:=l) e H Vx) λ a items ea hl _=>?_;exact li a items ea hl λ _=>rfl
 ·induction Vx using cM.casesOn with
  | tup a d=>exact wpAny_pyIter_tuple ⟨_,a.1,rfl,_,rfl⟩ (q _ rfl ⟨_,rfl,_,Heap.get?_push_size _ rfl,rfl,rfl⟩)
 ·refine ak (dM (v:=.lst _) (l:=l) e H Vx) λ a items ea hl _=>?_;exact li a items ea hl λ _=>rfl
 ·refine ai e λ hs e=>?_;refine ab (yK hs) λ h1 h2=>?_;induction Vx using ij.casesOn with
  | rng a =>
   refine wpAny_pyIter_range a.1 h1 (q _ rfl ?_);show IsRangeIter _ _ _ _ _;unfold IsRangeIter;rw [Heap.get?_push_size _ rfl,h2];simp
theorem kY {v:V} {x:Value} {l:List V} {y:V} {n:Nat} {J:Addr} {Q:Option Value->Shared->Prop} (e:bw v σ=some l) (hy:l[n]?=some y) (H:Sh hb prog w I hid ρ σ s.heap) (Vx:VR I (ay hid ρ s.heap) ρ v x) (it:dI s.heap v x J n) (hJ:J∈hid)
  (q:∀ h' tk z,Heap.SameBut J s.heap h'->(∃ o,h'.get? J=some o)->dI h' v x J (n+1)->VR I (ay hid ρ h') ρ y z->Q (some z) { s with heap:=h',toks:=tk }):wpAny (model prog w) A (pyNext (.ref J)) Q E s:=by
 have st:∀ h',Heap.SameBut J s.heap h'->∀ a o,ay hid ρ s.heap a o->ay hid ρ h' a o:=λ h' hs a o z=>⟨(hs.2 a λ q=>z.2.1 (q▸hJ)).trans z.1,z.2⟩;have li:cB v σ=some l->(∀ h n,dI h v x J n=∃ a,x=.ref a∧h.IsListIter J a n)->wpAny (model prog w) A (pyNext (.ref J)) Q E s:=λ el hi=>by
  refine ak (dM el H Vx) λ a items ea hl V=>?_;rw [hi] at it;refine ag it λ a' ea' hit=>?_; clear it;rw [ea] at ea';cases ea';refine ag (V.get hy) λ z hz Vz=>?_;refine wpAny_pyNext_list_item hit hl (x:=z) (by rw [<-Array.getElem?_toList]; exact hz) λ h' hit' hs=>?_
  refine ag (id hit') λ o ho _=>?_;exact q h' s.toks z hs ⟨o,ho⟩ (by rw [hi]; exact ⟨a,ea,hit'⟩) (Vz.tr ⟨[],by exact dS⟩ (st h' hs))
 rcases jF e with ⟨y0,rfl⟩ | ⟨i0,rfl⟩ | rfl | rfl | ⟨a,b,rfl⟩
 ·induction Vx using aG.casesOn with
  | str t =>
   induction e using sI;refine dK it λ tx t' T e1 hT hit=>?_; clear it;cases e1;rw [List.getElem?_map] at hy;cases hc:y0[n]? with
   | none=>rw [hc] at hy; exact ac hy
   | some c =>
    rw [hc] at hy;induction hy using sI;have hx:(den I y0).cps[n]?=some (c.den I):=by
     show ((y0.map (AC.den I)).toArray)[n]?=_;rw [List.getElem?_toArray,List.getElem?_map,hc]; rfl
    have fin:∀ h' tk,h'.IsStrIter J T (den I y0) t (n+1)->Heap.SameBut J s.heap h'->Q (some (.str ⟨#[c.den I]⟩ s.toks)) { s with heap:=h',toks:=tk }:=λ h' tk hit' hs=>by
     refine ag (id hit') λ o ho _=>?_;exact q h' tk _ hs ⟨o,ho⟩ ⟨_,_,_,rfl,hT,hit'⟩ (.str [c] _)
    rcases hT with rfl | rfl
    ·exact wpAny_pyNext_ascii_item hit hx λ h' hit' hs=>fin h' _ hit' hs
    ·exact wpAny_pyNext_wide_item hit hx λ h' hit' hs=>fin h' _ hit' hs
 ·exact li e λ _ _=>rfl
 ·induction Vx using cM.casesOn with
  | tup a d =>
   refine ah λ G9 fin9=>?_;cases e;refine ag it λ a' ea' hit=>?_; clear it;cases ea';refine ag (d.get hy) λ z hz Vz=>?_;refine fin9 ?_; clear fin9 G9;refine wpAny_pyNext_tuple_item hit ⟨_,a.1,rfl,_,rfl⟩ (x:=z) (by rw [<-Array.getElem?_toList]; exact hz) λ h' hit' hs=>?_
   refine ag (id hit') λ o ho _=>?_;exact q h' s.toks z hs ⟨o,ho⟩ ⟨_,rfl,hit'⟩ (Vz.tr ⟨[],by exact dS⟩ (st h' hs))
 ·exact li e λ _ _=>rfl
 ·refine ai e λ hs e=>?_;induction e using sI;have hn:n < (b - a).toNat:=by
   have:=(List.getElem?_eq_some_iff.mp hy).1;simpa using this
  have hv:y=.int (a+n):=by
   rw [List.getElem?_map,List.getElem?_range hn] at hy;exact (Option.some.inj hy).symm
  subst hv;refine wpAny_pyNext_range_item it (by lia) λ h' hit' hs=>?_
  refine q h' _ _ hs ⟨_,hit'⟩ ?_ (.int _ _);show IsRangeIter h' J (a+((n+1:Nat):Int)) (((b - a).toNat:Int) - ((n+1:Nat):Int)) 1;have e1:a+((n+1:Nat):Int)=a+n+1:=by simp +arith
  have e2:((b - a).toNat:Int) - ((n+1:Nat):Int)=((b - a).toNat:Int) - n - 1:=by lia
  rw [e1,e2]; exact hit'
theorem oq (hh:A.handled=none) {v:V} {x:Value} {l:List V} {n:Nat} {J:Addr} {Q:Option Value->Shared->Prop} (e:bw v σ=some l) (hn:l.length=n) (H:Sh hb prog w I hid ρ σ s.heap) (Vx:VR I (ay hid ρ s.heap) ρ v x) (it:dI s.heap v x J n)
  (q:∀ h',Heap.ExtBut J s.heap h'->Q none { s with heap:=h' }):wpAny (model prog w) A (pyNext (.ref J)) Q E s:=by
 have li:cB v σ=some l->(∀ h n,dI h v x J n=∃ a,x=.ref a∧h.IsListIter J a n)->wpAny (model prog w) A (pyNext (.ref J)) Q E s:=λ el hi=>by
  refine ak (dM el H Vx) λ a items ea hl V=>?_;rw [hi] at it;refine ag it λ a' ea' hit=>?_; clear it;rw [ea] at ea';cases ea';exact wpAny_pyNext_list_end hh hit hl (by rw [Array.getElem?_eq_none_iff]; rw [V.size]; exact Nat.le_of_eq (by assumption)) q
 rcases jF e with ⟨y0,rfl⟩ | ⟨i0,rfl⟩ | rfl | rfl | ⟨a,b,rfl⟩
 ·induction Vx using aG.casesOn with
  | str t =>
   induction e using sI;refine dK it λ tx t' T e1 hT hit=>?_; clear it;cases e1;have hx:(den I y0).cps[n]?=none:=by
    show ((y0.map (AC.den I)).toArray)[n]?=_;rw [List.getElem?_toArray,List.getElem?_eq_none_iff,List.length_map];rw [List.length_map] at hn; exact Nat.le_of_eq (by assumption)
   rcases hT with rfl | rfl
   ·exact wpAny_pyNext_ascii_end hh hit hx q
   ·exact wpAny_pyNext_wide_end hh hit hx q
 ·exact li e λ _ _=>rfl
 ·induction Vx using cM.casesOn with
  | tup a d =>
   cases e;refine ag it λ a' ea' hit=>?_; clear it;cases ea';exact wpAny_pyNext_tuple_end hh hit ⟨_,a.1,rfl,_,rfl⟩ (by rw [Array.getElem?_eq_none_iff]; rw [d.size]; exact Nat.le_of_eq (by assumption)) q
 ·exact li e λ _ _=>rfl
 ·refine ai e λ hs e=>?_;induction e using sI;refine wpAny_pyNext_range_end hh it ?_ q;simp at hn;simp [*]
theorem ao.hide (Y:ao I N env ae hid ρ h) (H:Sh hb prog w I hid ρ σ h) {b:Obj} (hf:b.isFreed=false):ao I N env ae (h.objs.size::hid) ρ (h.push b):=by
 refine ⟨Y.kind,Y.names,Y.gl,Y.bu,List.mem_cons_of_mem _ Y.hidL,?_,Y.cel,Y.code.tr ⟨[],by exact dS⟩ (H.hide hf).2⟩
 refine ag Y.loc λ m hn hl=>?_;refine ⟨m,hn.at' λ o e=>Heap.get?_push_of_some _ e,λ x i kd v e0 e=>?_⟩;refine ag (hl x i kd v e0 e) λ val e1 e2=>?_;exact ⟨val,e1,e2.tr ⟨[],by exact dS⟩ (H.hide hf).2⟩
theorem ao.turn {J:Addr} (Y:ao I N env ae hid ρ h) (hJ:J∈hid) (hL:J≠env.locals) (hs:Heap.SameBut J h h'):ao I N env ae hid ρ h':=by
 refine ⟨Y.kind,Y.names,Y.gl,Y.bu,Y.hidL,?_,Y.cel,Y.code.tr ⟨[],by exact dS⟩ λ a o z=>⟨(hs.2 a λ q=>z.2.1 (q▸hJ)).trans z.1,z.2⟩⟩
 refine ag Y.loc λ m hn hl=>?_;refine ⟨m,hn.sameBut hs (Ne.symm hL),λ x i kd v e0 e=>?_⟩;refine ag (hl x i kd v e0 e) λ val e1 e2=>?_;exact ⟨val,e1,e2.tr ⟨[],by exact dS⟩ λ a o z=>⟨(hs.2 a λ q=>z.2.1 (q▸hJ)).trans z.1,z.2⟩⟩
theorem ao.drop {J:Addr} (Y:ao I N env ae (J::hid) ρ h) (hL:env.locals∈hid) (hn:J∉hid) (hs:Heap.ExtBut J h h'):ao I N env ae hid ρ h':=by
 refine ⟨Y.kind,Y.names,Y.gl,Y.bu,hL,?_,Y.cel,Y.code.tr ⟨[],by exact dS⟩ λ a o z=>⟨hs a o (λ q=>z.2.1 (q▸List.mem_cons_self ..)) z.1,λ m=>z.2.1 (List.mem_cons_of_mem _ m),z.2.2⟩⟩
 refine ag Y.loc λ m hm hl=>?_;refine ⟨m,hm.at' λ o e=>hs _ o (λ q=>hn (q▸hL)) e,λ x i kd v e0 e=>?_⟩;refine ag (hl x i kd v e0 e) λ val e1 e2=>?_;exact ⟨val,e1,e2.tr ⟨[],by exact dS⟩ λ a o z=>⟨hs a o (λ q=>z.2.1 (q▸List.mem_cons_self ..)) z.1,λ m=>z.2.1 (List.mem_cons_of_mem _ m),z.2.2⟩⟩
theorem l9 {iter:Expr} (h:lY iter=true) (env:Env) (x:Value):foldedSetIterable iter env x=pure x:=by
 induction iter using Expr.casesOn<;>first | rfl | exact aT h
inductive qK (hb:Heap) (prog:Program) (w:World) (I:aZ) (N:aq) (env:Env) (hid ρ:List Addr) (s:Shared) (J:Addr) (h0:Heap) (v:V) (y:Value) (len:Nat) (F:Nat->AE->List O->Option (Fl×AE×List O)) (r:Fl×AE×List O) (n:Nat) (s':Shared):Prop
 | mk (i:Nat) (ae':AE) (σ':List O) (ρ':List Addr) (h':Heap) (tk:Nat) (gs:Array GenState) (e:s'={ s with heap:=h',toks:=tk,gens:=gs }) (x:aI I [J,env.locals] ρ ρ' h0 s.gens h' gs)
  (H:Sh hb prog w I (J::hid) ρ' σ' h') (Y:ao I N env ae' (J::hid) ρ' h') (V:VR I (ay (J::hid) ρ' h') ρ' v y) (it:dI h' v y J i) (hi:i+n=len) (e1:F n ae' σ'=some r):qK hb prog w I N env hid ρ s J h0 v y len F r n s'
theorem yL (SX:dQ hb prog w I k X) (R:aC A k) {x:Str} {px:Pos} {body:List Stmt} {v:V} {y:Value} {l:List V} {r:Fl×AE×List O} {Q:Flow->Shared->Prop} {J:Addr} {b:Obj}
  (e:oa (bX N x) (bY X N body) v l.length l.length ae σ=some r) (Y:ao I N env ae hid ρ s.heap) (H:Sh hb prog w I hid ρ σ s.heap) (Vy:VR I (ay hid ρ s.heap) ρ v y)
  (q:bC hb prog w I N hid ρ s env r Q) (it0:dI (s.heap.push b) v y J 0) (H0:Sh hb prog w I (J::hid) ρ σ (s.heap.push b)) (st0:∀ (a:Addr) (o:Obj),ay hid ρ s.heap a o->ay (J::hid) ρ (s.heap.push b) a o)
  (Y0:ao I N env ae (J::hid) ρ (s.heap.push b)) (hJH:J∉hid) (hJL:J≠env.locals) (hn:∀ c o,s.heap.get? c=some o->c≠J) :
  codeAny (model prog w) A (.forLoop (.Name x px) (.ref J) body [] env) (λ r s'=>match r with | .ok f=>Q f s' | .error e=>cameBackBy (model prog w) A env E e s') { s with heap:=s.heap.push b }:=by
 have bk:∀ {r' h' g'},aI I [J,env.locals] ρ r' (s.heap.push b) s.gens h' g'->aI I [env.locals] ρ r' s.heap s.gens h' g':=λ {r' h' g'} x1 =>
  ⟨⟨x1.pre,λ c o e n m=>x1.keep c o (Heap.get?_push_of_some _ e) n (λ q'=>by
   rcases List.mem_cons.mp q' with q' | q'
   ·exact hn _ _ e q'
   ·exact m q'),λ a m n=>by
   have z:=x1.new a m n;cases q':s.heap.get? a with
   | none=>rfl
   | some o=>rw [Heap.get?_push_of_some _ q'] at z; cases z⟩,x1.gb⟩
 refine codeAny_forLoop (qK hb prog w I N env hid ρ s J (s.heap.push b) v y l.length (oa (bX N x) (bY X N body) v l.length) r) ?_ l.length
  ⟨0,ae,σ,ρ,s.heap.push b,s.toks,s.gens,rfl,aI.refl _ _ _ _,H0,Y0,Vy.tr ⟨[],by exact dS⟩ st0,it0,Nat.zero_add _,e⟩
 rintro n s' ⟨i,ae',σ',ρ',h1,tk1,gs1,rfl,x1,H1,Y1,V1,it1,hi,e1⟩;have hJm:J∈J::hid:=List.mem_cons_self ..;have hm2:∀ a∈[J,env.locals],a∈J::hid:=kn (List.mem_cons_self ..) (List.mem_cons_of_mem _ Y.hidL);have al:∀ {ae2:AE} {ρ2:List Addr} {h2:Heap} {σ2:List O},ao I N env ae2 (J::hid) ρ2 h2->Sh hb prog w I (J::hid) ρ2 σ2 h2->∀ a∈[J,env.locals],∃ o,h2.get? a=some o:=λ _ H2 a m=>(H2.offH a (hm2 a m)).2;induction n using Nat.casesOn with
 | zero =>
  refine aa e1 λ l' g1 g2=>?_;refine ai g2 λ g3 g4=>?_;induction g4 using sI;have hl':=Nat.eq_of_beq_eq_true g3;refine oq (s:={ s with heap:=h1,toks:=tk1,gens:=gs1 }) R.hh g1 (by exact Eq.trans (by assumption) (Eq.symm (by assumption))) H1 V1 it1 λ h2 hs=>?_
  refine wpAny_execs_nil ?_;refine ab (H1.drop hJH (λ c o n e=>hs c o n e)) λ H2 st2=>?_;have x2:aI I [J,env.locals] ρ ρ' (s.heap.push b) s.gens h2 gs1:=⟨⟨x1.pre,λ c o e n m=>hs c o (λ q'=>m (q'▸List.mem_cons_self ..)) (x1.keep c o e n m),x1.new⟩,x1.gb⟩;exact q ρ' h2 tk1 gs1 .next (bk x2) H2 (Y1.drop Y.hidL hJH hs) .next
 | succ n =>
  refine ah λ G9 fin9=>?_;refine aa e1 λ l' g1 g2=>?_;refine ai g2 λ g3 g4=>?_;refine aa g4 λ u g5 g6=>?_;refine aa g6 λ p g7 g8=>?_;refine aa g8 λ p2 g9 g10=>?_;have hi':l.length - (n+1)=i:=by rw [<-hi,Nat.add_sub_cancel]
  rw [hi',aE] at g5;refine fin9 ?_; clear fin9 G9;refine kY (s:={ s with heap:=h1,toks:=tk1,gens:=gs1 }) g1 g5 H1 V1 it1 hJm λ h2 tk2 z hs alJ it2 Vz=>?_
  have mvJ:∀ a∈[J],a∈J::hid:=λ a m=>by rw [List.mem_singleton.mp m]; exact hJm
  refine ab (H1.move mvJ (λ a m=>by rw [List.mem_singleton.mp m]; exact alJ) (λ c o e n=>(hs.2 c λ q'=>n (by rw [q']; exact List.mem_singleton.mpr rfl)).trans e)) λ x2 H2=>?_
  have Y2:=Y1.turn hJm hJL hs;have wJ:∀ {r2 r3 h2 g2 h3 g3},aI I [J] r2 r3 h2 g2 h3 g3->aI I [J,env.locals] r2 r3 h2 g2 h3 g3:=λ x=>⟨⟨x.pre,λ c o e n m=>x.keep c o e n (λ q'=>m (List.mem_singleton.mp q'▸List.mem_cons_self ..)),x.new⟩,x.gb⟩;have wL:∀ {r2 r3 h2 g2 h3 g3},aI I [env.locals] r2 r3 h2 g2 h3 g3->aI I [J,env.locals] r2 r3 h2 g2 h3 g3:=λ x=>⟨⟨x.pre,λ c o e n m=>x.keep c o e n (λ q'=>m (List.mem_cons_of_mem _ q')),x.new⟩,x.gb⟩;have x12:=x1.trans (wJ x2.g) (al Y1 H1);have V2:=V1.tr x2.pre (x2.stb mvJ);refine wpAny_assign_Name (bJ (s:={ s with heap:=h2,toks:=tk2,gens:=gs1 }) g7 Y2 H2 Vz λ ρ3 h3 tk3 gs3 x3 H3 Y3=>?_)
  have x13:=x12.trans (wL x3) (al Y2 H2);have V3:=V2.tr x3.pre (x3.stb Y2.sub);have it3:dI h3 v y J (i+1):=it2.at (by
   refine aj alJ λ o eo=>?_; clear alJ;rw [eo]; exact x3.keep J o eo (λ m=>(H2.off J m).2.1 hJm) (λ m=>hJL (List.mem_singleton.mp m)))
  refine bi SX R g9 Y3 H3 λ ρ4 h4 tk4 gs4 fl x4 H4 Y4 F4=>?_;have x14:=x13.trans (wL x4) (al Y3 H3);have V4:=V3.tr x4.pre (x4.stb Y3.sub);have it4:dI h4 v y J (i+1):=it3.at (by
   refine aj ((H3.offH J hJm).2) λ o eo=>?_;rw [eo]; exact x4.keep J o eo (λ m=>(H3.off J m).2.1 hJm) (λ m=>hJL (List.mem_singleton.mp m)))
  have go:oa (bX N x) (bY X N body) v l.length n p2.2.1 p2.2.2=some r->∃ m,m < n+1∧qK hb prog w I N env hid ρ s J (s.heap.push b) v y l.length (oa (bX N x) (bY X N body) v l.length) r m { s with heap:=h4,toks:=tk4,gens:=gs4 } :=
   λ e=>⟨n,Nat.lt_succ_self n,i+1,p2.2.1,p2.2.2,ρ4,h4,tk4,gs4,rfl,x14,H4,Y4,V4,it4,by lia,e⟩
  have sub:∀ a∈hid,a∈J::hid:=λ a m=>List.mem_cons_of_mem _ m;have out:∀ f fl',vn I (ay (J::hid) ρ4 h4) ρ4 f fl'->r=(f,p2.2)->Q fl' { s with heap:=h4,toks:=tk4,gens:=gs4 }:=λ f fl' F' hr=>by
   refine ab (H4.drop (h':=h4) hJH λ c o n e=>e) λ H5 st5=>?_;refine q ρ4 h4 tk4 gs4 fl' (bk x14) (by rw [hr]; exact H5) (by rw [hr]; exact Y4.drop Y.hidL hJH λ c o n e=>e) ?_
   rw [hr];induction F' using vn.casesOn with
   | next=>exact .next
   | brk=>exact .brk
   | cont=>exact .cont
   | ret V=>exact .ret (V.tr ⟨[],by exact dS⟩ st5)
  obtain ⟨f,ae5,σ5⟩:=p2;cases F4 with
  | next=>exact go g10
  | cont=>exact go g10
  | brk=>induction g10 using sI; exact out _ _ .next rfl
  | ret V=>induction g10 using sI; exact out _ _ (.ret V) rfl
theorem vp (SX:dQ hb prog w I k X) (R:aC A k) {x:Str} {px:Pos} {body:List Stmt} {v:V} {y:Value} {l:List V} {r:Fl×AE×List O} {Q:Flow->Shared->Prop}
  (el:bw v σ=some l) (e:oa (bX N x) (bY X N body) v l.length l.length ae σ=some r) (Y:ao I N env ae hid ρ s.heap) (H:Sh hb prog w I hid ρ σ s.heap) (Vy:VR I (ay hid ρ s.heap) ρ v y)
  (q:bC hb prog w I N hid ρ s env r Q) :
  wpAny (model prog w) A (pyIter y) (λ it s₂=>codeAny (model prog w) A (.forLoop (.Name x px) it body [] env) (λ r s'=>match r with | .ok f=>Q f s' | .error e=>cameBackBy (model prog w) A env E e s') s₂) E s:=by
 refine jG el H Vy λ b hf it0=>?_;refine ab (H.hide hf) λ H0 st0=>?_;have Y0:=Y.hide H hf;have hJH:s.heap.objs.size∉hid:=H.nextH;have hJL:s.heap.objs.size≠env.locals:=λ q'=>hJH (q'▸Y.hidL);exact yL SX R e Y H Vy q it0 H0 st0 Y0 hJH hJL λ c o e=>bd e
theorem ou (OK:cN hb prog w I k Φ) (SE:eN hb prog w I k ev) (ST:jy hb prog w I k ev) (SX:dQ hb prog w I k X) (W:Nat):dQ hb prog w I k (gw Φ ev X W):=by
 intro N ae σ st r e A s hid ρ env Q E R Y H q;induction st using Stmt.casesOn with
 | Expr x p =>
  dsimp only [gw] at e;refine ab (fW e) λ hc e=>?_;refine az e ?_; rintro p e1 rfl;refine wpAny_Expr_any (SE _ _ _ _ _ e1 _ _ _ _ _ _ _ R Y H λ ρ' h' tk gs x x1 H1 V1=>q ρ' h' tk gs .next x1.wk H1 (Y.ext H x1) .next) ?_ (jD hc);unfold interactive;rw [Y.kind]; rfl
 | Pass =>
  induction e using sI; exact wpAny_Pass (q ρ s.heap s.toks s.gens .next (aI.refl _ _ _ _) H Y .next)
 | Break =>
  induction e using sI; exact wpAny_Break (q ρ s.heap s.toks s.gens .brk (aI.refl _ _ _ _) H Y .brk)
 | Continue =>
  induction e using sI; exact wpAny_Continue (q ρ s.heap s.toks s.gens .cont (aI.refl _ _ _ _) H Y .cont)
 | Return o p =>
  induction o using Option.casesOn with
  | none=>induction e using sI; exact wpAny_Return_none (q ρ s.heap s.toks s.gens _ (aI.refl _ _ _ _) H Y (.ret .none))
  | some x =>
   dsimp only [gw,kt] at e;refine az e ?_; rintro p e1 rfl;exact wpAny_Return_some (SE _ _ _ _ _ e1 _ _ _ _ _ _ _ R Y H λ ρ' h' tk gs x x1 H1 V1=>q ρ' h' tk gs _ x1.wk H1 (Y.ext H x1) (.ret V1))
 | Assign ts value p =>
  dsimp only [gw] at e;refine ab (fW e) λ hc e=>?_;refine aa e λ p e1 e=>?_;refine az e ?_; rintro p2 e2 rfl;refine fb hc Q (SE _ _ _ _ _ e1 _ _ _ _ _ _ _ R Y H λ ρ' h' tk gs x x1 H1 V1=>?_);exact ez OK SE R e2 (Y.ext H x1) H1 V1 (q.later (tk:=tk) (gs:=gs) x1.wk (Y.ext H x1)).ofA
 | AugAssign t op value _ =>
  dsimp only [gw] at e;cases h1:ww t with
  | some id =>
   refine ah λ G9 fin9=>?_;refine aj (eg h1) ?_; rintro pn rfl;rw [h1] at e;dsimp only [kt] at e;refine aa e λ old e1 e=>?_;refine aa e λ p e2 e=>?_;refine aa e λ p2 e3 e=>?_;refine az e ?_; rintro p3 e4 rfl;refine fin9 ?_; clear fin9 G9;refine wpAny_AugAssign_Name (jz OK e1 Y H λ ρ1 h1 tk1 gs1 x0 x1 H1 V1=>?_);refine SE _ _ _ _ _ e2 _ _ _ _ _ _ _ R (Y.ext H x1) H1 λ ρ2 h2 tk2 gs2 x3 x2 H2 V2=>?_;refine OK.inp _ _ _ _ _ e3 A _ hid ρ2 [x0,x3] _ E R H2 (.cons (V1.ext x2) (.cons V2 .nil)) λ ρ3 h3 tk3 gs3 x4 x5 H3 V3=>?_;have Y2:=(Y.ext H x1).ext H1 x2.toExt;exact bJ (s:={ s with heap:=h3,toks:=tk3,gens:=gs3 }) e4 (Y2.ext H2 x5) H3 V3 (q.later (tk:=tk3) (gs:=gs3) ((x1.trans0 x2).trans0 x5).wk (Y2.ext H2 x5)).ofA
  | none =>
   rw [h1] at e;cases h2:u7 t with
   | none=>rw [h2] at e; exact ac e
   | some a =>
    refine ah λ G9 fin9=>?_;have ht:=tD h2;obtain ⟨o,attr,pa⟩:=a;subst ht;rw [h2] at e;dsimp only [kt] at e;refine aa e λ p e1 e=>?_;refine aa e λ old e2 e=>?_;refine aa e λ p2 e3 e=>?_;refine aa e λ p3 e4 e=>?_;refine az e ?_; rintro σ' e5 rfl;refine fin9 ?_; clear fin9 G9;refine wpAny_AugAssign_AttributeAny (SE _ _ _ _ _ e1 _ _ _ _ _ _ _ R Y H λ ρ1 h1 tk1 gs1 ov x1 H1 V1=>?_);refine OK.attr _ _ _ _ e2 A _ hid ρ1 [ov] _ E R H1 (.cons V1 .nil) λ ρ2 h2 tk2 gs2 o2 x2 H2 V2=>?_;have Y2:=(Y.ext H x1).ext H1 x2.toExt;refine SE _ _ _ _ _ e3 _ _ _ _ _ _ _ R Y2 H2 λ ρ3 h3 tk3 gs3 v3 x3 H3 V3=>?_;refine OK.inp _ _ _ _ _ e4 A _ hid ρ3 [o2,v3] _ E R H3 (.cons (V2.ext x3) (.cons V3 .nil)) λ ρ4 h4 tk4 gs4 n4 x4 H4 V4=>?_;refine OK.setA _ _ _ _ _ e5 A _ hid ρ4 ov n4 _ E R H4 (((V1.ext x2.toExt).ext x3.toExt).ext x4.toExt) V4 λ ρ5 h5 tk5 gs5 x5 H5=>?_;exact q ρ5 h5 tk5 gs5 .next ((((x1.trans0 x2).trans0 x3).trans0 x4).trans0 x5).wk H5 (((Y2.ext H2 x3).ext H3 x4).ext H4 x5) .next
 | If t a b _ =>
  dsimp only [gw] at e;refine aa e λ p e1 e=>?_;refine wpAny_If (ST _ _ _ _ _ e1 _ _ _ _ _ _ _ R Y H λ ρ' h' tk gs x1 H1=>?_);have Y1:=Y.ext H x1.toExt;cases hp:p.1 with
  | true=>rw [hp] at e; exact bi SX R e Y1 H1 (q.later x1.wk Y1)
  | false=>rw [hp] at e; exact bi SX R e Y1 H1 (q.later x1.wk Y1)
 | While t body els p =>
  induction els using List.casesOn with
  | cons=>exact ac e
  | nil=>exact om ST SX R e Y H q
 | For t iter body els p =>
  induction els using List.casesOn with
  | cons=>exact ac e
  | nil =>
  refine ah λ G9 fin9=>?_;dsimp only [gw] at e;refine ab (fM e) λ hs e=>?_;refine aa e λ x hx e=>?_;refine aj (eg hx) ?_; rintro px rfl;refine aa e λ p e1 e=>?_;refine aa e λ l e2 e=>?_;refine fin9 ?_; clear fin9 G9;refine wpAny_For (SE _ _ _ _ _ e1 _ _ _ _ _ _ _ R Y H λ ρ' h' tk gs x x1 H1 V1=>?_) (l9 hs env);exact vp SX R e2 e (Y.ext H x1) H1 V1 (q.later (tk:=tk) (gs:=gs) x1.wk (Y.ext H x1))
 | Assert t m p =>
  dsimp only [gw] at e;refine aa e λ p e1 e=>?_;refine ai e λ hp e=>?_;induction e using sI;exact wpAny_Assert_holds (ST _ _ _ _ _ e1 _ _ _ _ _ _ _ R Y H λ ρ' h' tk gs x1 H1=>⟨hp,q ρ' h' tk gs .next x1.wk H1 (Y.ext H x1) .next⟩)
 | _=>exact ac e
end
section
noncomputable def km {α:Type} (l:List α):Bool:=Nat.ble l.length 1000
def dC (P:lX V) (T:eJ (Bool×List O)) (B:eJ (V×List O)) (v:V) (n:Nat):Nat->AE->List O->List V->Option (List V×List O)
 | 0,env,σ,acc=>au (bw v σ) λ l=>aB (Nat.beq l.length n) (some (acc,σ)) none
 | r+1,env,σ,acc=>au (bw v σ) λ l=>aB (Nat.beq l.length n) (au (aU l (n - (r+1))) λ y=>au (P.f env σ y) λ p=>au (T.f p.1 p.2) λ t =>
  aB t.1 (au (B.f p.1 t.2) λ q=>aB (km acc) (dC P T B v n r p.1 q.2 (acc++[q.1])) none) (dC P T B v n r p.1 t.2 acc)) none
noncomputable def ED (ev:Ev) (N:aq):List Expr->eJ (Bool×List O)
 | []=>⟨λ _ σ=>some (true,σ)⟩
 | [c]=>ev.T N c
 | _::_::_=>.no
noncomputable def cb (names N:aq):aq:=names.map λ (n,k)=>if (k == .free && N.lookup n == some .cell) then (n,.cell) else (n,k)
def cq (N:aq):aq->Option (List (Option Nat))
 | []=>some []
 | (x,.free)::r=>au (dy N x) λ p=>bs (cq N r) λ l=>some p.1::l
 | (_,_)::r=>bs (cq N r) λ l=>none::l
def Hq (o:Option Nat) (cel:List (Option Nat)):Option (Option Nat):=match o with
 | none=>some none
 | some i=>au (aU cel i) λ o=>au o λ c=>some (some c)
def fc (cel:List (Option Nat)):List (Option Nat)->Option (List (Option Nat))
 | []=>some []
 | o::r=>au (Hq o cel) λ c=>bs (fc cel r) λ l=>c::l
noncomputable def fF (all:aq):aq->Bool
 | []=>true
 | (x,k)::r=>(match k with
  | .cell=>false
  | .local=>(match all.lookup x with
   | some .local=>fF all r
   | _=>false)
  | _=>fF all r)
def gz (s:Scope):Bool:=(match s.kind with
 | .function=>true
 | _=>false) && fF s.names s.names
def yM (ev:Ev) (N:aq) (elt:Expr) (x:Str) (iter:Expr) (ifs:List Expr) (scope:Scope):eJ (V×List O) :=
 aB (gz scope && lY iter) ⟨λ env σ=>au (cq N scope.names) λ plan=>au (fc env.cel plan) λ cel=>au ((ev.E N iter).f env σ) λ p=>au (bw p.1 p.2) λ l =>
  bs (dC (bX (cb scope.names N) x) (ED ev (cb scope.names N) ifs) (ev.E (cb scope.names N) elt) p.1 l.length l.length ⟨F.of [],cel,none⟩ p.2 []) λ q=>(.lst q.1,q.2)⟩ .no
end
section
variable {hb:Heap} {prog:Program} {w:World} {I:aZ} {k:Nat} {Φ:eO} {ev:Ev} {X:eM} {hid hid' ρ ρ' ρ'':List Addr} {σ:List O} {A:Around} {s:Shared} {env:Env} {N:aq} {ae:AE} {E:Value->Shared->Prop} {h h' h'':Heap}
theorem cH {α:Type} {l:List α} (h:km l=true):l.length≤1000:=Nat.le_of_ble_eq_true h
theorem Sh.hideK (H:Sh hb prog w I hid ρ σ h) {J:Addr} (hJ:h.get? J=none) (kp:∀ b o,h.get? b=some o->h'.get? b=some o) (al:∃ o,h'.get? J=some o) :
  Sh hb prog w I (J::hid) ρ σ h'∧∀ a o,ay hid ρ h a o->ay (J::hid) ρ h' a o:=by
 have ne:∀ {a:Addr} {o:Obj},h.get? a=some o->a≠J:=λ e q=>by rw [q,hJ] at e; exact ac e
 have st:∀ a o,ay hid ρ h a o->ay (J::hid) ρ h' a o:=λ a o q=>⟨kp _ _ q.1,λ m=>by
  rcases List.mem_cons.mp m with e | m
  ·exact ne q.1 e
  ·exact q.2.1 m,q.2.2⟩
 refine ⟨⟨H.sm,λ b o e=>kp _ _ (H.base b o e),H.nd,H.len,λ a m=>⟨(H.off a m).1,λ q=>?_,?_⟩,λ a m=>?_,λ i o e=>?_⟩,st⟩
 ·rcases List.mem_cons.mp q with rfl | q
  ·refine aj ((H.off _ m).2.2) λ o e=>?_;exact ne e rfl
  ·exact (H.off a m).2.1 q
 ·refine aj ((H.off a m).2.2) λ o e=>?_;exact ⟨o,kp _ _ e⟩
 ·rcases List.mem_cons.mp m with rfl | m
  ·refine ⟨?_,al⟩;cases q:hb.get? a with
   | none=>rfl
   | some o=>have:=H.base _ _ q; rw [hJ] at this; exact ac this
  ·refine aj ((H.offH a m).2) λ o e=>?_;exact ⟨(H.offH a m).1,o,kp _ _ e⟩
 ·refine ak (H.ob i o e) λ a b' e1 e2 e3=>?_;exact ⟨a,b',e1,kp _ _ e2,e3.tr ⟨[],by exact dS⟩ st⟩
theorem ao.turnL {mv:List Addr} (Y:ao I N env ae hid ρ h) (hm:∀ a∈mv,a∈hid) (hL:env.locals∉mv) (k:∀ b o,h.get? b=some o->b∉mv->h'.get? b=some o):ao I N env ae hid ρ h':=by
 have st:∀ a o,ay hid ρ h a o->ay hid ρ h' a o:=λ a o z=>⟨k a o z.1 λ q=>z.2.1 (hm a q),z.2⟩;refine ⟨Y.kind,Y.names,Y.gl,Y.bu,Y.hidL,?_,Y.cel,Y.code.tr ⟨[],by exact dS⟩ st⟩
 refine ag Y.loc λ m hn hl=>?_;refine ⟨m,hn.at' λ o e=>k _ o e hL,λ x i kd v e0 e=>?_⟩;refine ag (hl x i kd v e0 e) λ val e1 e2=>?_;exact ⟨val,e1,e2.tr ⟨[],by exact dS⟩ st⟩
inductive tT (hb:Heap) (prog:Program) (w:World) (I:aZ) (N:aq) (env:Env) (hid ρ:List Addr) (s:Shared) (J D:Addr) (v:V) (y:Value) (len:Nat) (F:Nat->AE->List O->List V->Option (List V×List O)) (r:List V×List O) (n:Nat) (s':Shared):Prop
 | mk (i:Nat) (ae':AE) (σ':List O) (ρ':List Addr) (h':Heap) (tk:Nat) (gs:Array GenState) (acc:List V) (items:Array Value) (e:s'={ s with heap:=h',toks:=tk,gens:=gs }) (x:aI I [env.locals,D,J] ρ ρ' s.heap s.gens h' gs)
  (H:Sh hb prog w I hid ρ' σ' h') (Y:ao I N env ae' hid ρ' h') (V:VR I (ay hid ρ' h') ρ' v y) (it:dI h' v y J i) (dl:h'.PlainList D items) (W:VRs I (ay hid ρ' h') ρ' acc items.toList) (hi:i+n=len) (e1:F n ae' σ' acc=some r):tT hb prog w I N env hid ρ s J D v y len F r n s'
theorem vq (SE:eN hb prog w I k ev) (R:aC A k) {x:Str} {px:Pos} {elt iter:Expr} {ifs:List Expr} {scope:Scope} {pos:Pos} {J D:Addr} {v:V} {y:Value} {l:List V} {T:eJ (Bool×List O)} {r:List V×List O}
  {RR:Result->Shared->Prop} (hJ:J∈hid) (hD:D∈hid) (hJD:J≠D) (hJC:J≠env.locals) (hDC:D≠env.locals)
  (TS:∀ {ae:AE} {σ:List O} {b:Bool×List O} {ρ:List Addr} {s:Shared} {Q:Bool->Shared->Prop} {E:Value->Shared->Prop},T.f ae σ=some b->ao I N env ae hid ρ s.heap->Sh hb prog w I hid ρ σ s.heap->df hb prog w I hid ρ s b Q ->
   wpAny (model prog w) A (forIn ifs true λ c r=>if r=true then do let ok <-isTrue c env (eval c env); pure (ForInStep.yield ok) else pure (ForInStep.yield r)) Q E s)
  (el:bw v σ=some l) (e:dC (bX N x) T (ev.E N elt) v l.length l.length ae σ []=some r) (Y:ao I N env ae hid ρ s.heap) (H:Sh hb prog w I hid ρ σ s.heap) (Vy:VR I (ay hid ρ s.heap) ρ v y)
  (it0:dI s.heap v y J 0) (dl:s.heap.PlainList D #[])
  (hs':∀ a∈J::hid',a∈hid) (hn':J∉hid')
  (q:∀ ρ' h' tk gs items,aI I [env.locals,D,J] ρ ρ' s.heap s.gens h' gs->Sh hb prog w I hid' ρ' r.2 h'->(∃ m,h'.Ns env.locals m)->h'.PlainList D items->VRs I (ay hid' ρ' h') ρ' r.1 items.toList->RR (.ok .next) { s with heap:=h',toks:=tk,gens:=gs }) :
  codeAny (model prog w) A (.compLoop (.ListComp elt [⟨.Name x px,iter,ifs,0⟩] scope pos) 0 (.ref J) (.ref D) env) RR s:=by
 have hm3:∀ a∈[env.locals,D,J],a∈hid:=qu Y.hidL hD hJ;have al:∀ {ρ2:List Addr} {h2:Heap} {σ2:List O},Sh hb prog w I hid ρ2 σ2 h2->∀ a∈[env.locals,D,J],∃ o,h2.get? a=some o:=λ H2 a m=>(H2.offH a (hm3 a m)).2;refine codeAny_compLoop_tests (tT hb prog w I N env hid ρ s J D v y l.length (dC (bX N x) T (ev.E N elt) v l.length) r) ?_ l.length
  ⟨0,ae,σ,ρ,s.heap,s.toks,s.gens,[],#[],rfl,aI.refl _ _ _ _,H,Y,Vy,it0,dl,.nil,Nat.zero_add _,e⟩
 rintro n s' ⟨i,ae',σ',ρ',h1,tk1,gs1,acc,items,rfl,x1,H1,Y1,V1,it1,dl1,W1,hi,e1⟩;induction n using Nat.casesOn with
 | zero =>
  refine aa e1 λ l' g1 g2=>?_;refine ai g2 λ g3 g4=>?_;induction g4 using sI;have hl':=Nat.eq_of_beq_eq_true g3;refine oq (s:={ s with heap:=h1,toks:=tk1,gens:=gs1 }) R.hh g1 (by exact Eq.trans (by assumption) (Eq.symm (by assumption))) H1 V1 it1 λ h2 hs=>?_
  refine ab ((H1.sub hs').drop (h':=h2) hn' (λ c o n e=>hs c o n e)) λ H2 st2=>?_;refine ag Y1.loc λ m1 n1 _=>?_;refine q ρ' h2 tk1 gs1 items ⟨⟨x1.pre,λ c o e n m=>hs c o (λ q'=>m (by rw [q']; exact G2)) (x1.keep c o e n m),x1.new⟩,x1.gb⟩ H2 ⟨m1,n1.at' λ o e=>hs _ o (Ne.symm hJC) e⟩ (dl1.at λ o e=>hs D o (Ne.symm hJD) e) ?_
  exact W1.tr ⟨[],by exact dS⟩ λ a o z=>st2 a o (lW hs' a o z)
 | succ n =>
  refine ah λ G9 fin9=>?_;refine aa e1 λ l' g1 g2=>?_;refine ai g2 λ g3 g4=>?_;refine aa g4 λ u g5 g6=>?_;refine aa g6 λ p g7 g8=>?_;refine aa g8 λ t g9 g10=>?_;have hi':l.length - (n+1)=i:=by rw [<-hi,Nat.add_sub_cancel]
  rw [hi',aE] at g5;refine fin9 ?_; clear fin9 G9;refine kY (s:={ s with heap:=h1,toks:=tk1,gens:=gs1 }) g1 g5 H1 V1 it1 hJ λ h2 tk2 z hs alJ it2 Vz=>?_
  have mvJ:∀ a∈[J],a∈hid:=λ a m=>by rw [List.mem_singleton.mp m]; exact hJ
  refine ab (H1.move mvJ (λ a m=>by rw [List.mem_singleton.mp m]; exact alJ) (λ c o e n=>(hs.2 c λ q'=>n (by rw [q']; exact List.mem_singleton.mpr rfl)).trans e)) λ x2 H2=>?_
  have Y2:=Y1.turn hJ hJC hs;have w3:∀ {mv r2 r3 h2 g2 h3 g3},(∀ a∈mv,a∈[env.locals,D,J])->aI I mv r2 r3 h2 g2 h3 g3->aI I [env.locals,D,J] r2 r3 h2 g2 h3 g3:=λ hm x=>⟨⟨x.pre,λ c o e n m=>x.keep c o e n (λ q'=>m (hm c q')),x.new⟩,x.gb⟩;have wJ:∀ a∈[J],a∈[env.locals,D,J]:=by simp
  have wL:∀ a∈[env.locals],a∈[env.locals,D,J]:=by simp
  have wD:∀ a∈[D],a∈[env.locals,D,J]:=by simp
  have wN:∀ a∈([]:List Addr),a∈[env.locals,D,J]:=by simp
  have x12:=x1.trans (w3 wJ x2.g) (al H1);have V2:=V1.tr x2.pre (x2.stb mvJ);have W2:=W1.tr x2.pre (x2.stb mvJ);have dl2:h2.PlainList D items:=dl1.at λ o e=>(hs.2 D λ q'=>hJD q'.symm).trans e;refine wpAny_assign_Name (bJ (s:={ s with heap:=h2,toks:=tk2,gens:=gs1 }) g7 Y2 H2 Vz λ ρ3 h3 tk3 gs3 x3 H3 Y3=>?_)
  have x13:=x12.trans (w3 wL x3) (al H2);have V3:=V2.tr x3.pre (x3.stb Y2.sub);have W3:=W2.tr x3.pre (x3.stb Y2.sub);have kL:∀ c∈hid,c≠env.locals->∀ o,h2.get? c=some o->h3.get? c=some o:=λ c hc hne o e=>x3.keep c o e (λ m=>(H2.off c m).2.1 hc) (λ m=>hne (List.mem_singleton.mp m));have it3:dI h3 v y J (i+1):=it2.at (by
   refine aj alJ λ o eo=>?_; clear alJ;rw [eo]; exact kL J hJ hJC o eo)
  have dl3:h3.PlainList D items:=dl2.at λ o e=>kL D hD hDC o e;refine TS g9 Y3 H3 λ ρ4 h4 tk4 gs4 x4 H4=>?_;have x14:=x13.trans (w3 wN x4) (al H3);have V4:=V3.ext x4.toExt;have W4:=W3.ext x4.toExt;have Y4:=Y3.ext H3 x4.toExt;have kN:∀ {ρ3 h3 ρ4 h4 σ3},Sh hb prog w I hid ρ3 σ3 h3->Ext [] ρ3 ρ4 h3 h4->∀ c∈hid,∀ o,h3.get? c=some o->h4.get? c=some o:=λ H3 x4 c hc o e=>x4.keep c o e (λ m=>(H3.off c m).2.1 hc) (by simp)
  have it4:dI h4 v y J (i+1):=it3.at (by
   refine aj ((H3.offH J hJ).2) λ o eo=>?_;rw [eo]; exact kN H3 x4.toExt J hJ o eo)
  have dl4:h4.PlainList D items:=dl3.at λ o e=>kN H3 x4.toExt D hD o e;cases ht:t.1 with
  | false =>
   rw [ht] at g10;simp only [Bool.false_eq_true,if_false];exact ⟨n,Nat.lt_succ_self n,i+1,p.1,t.2,ρ4,h4,tk4,gs4,acc,items,rfl,x14,H4,Y4,V4,it4,dl4,W4,by lia,g10⟩
  | true =>
   rw [ht] at g10;simp only [if_true];refine aa g10 λ q' g11 g12=>?_;refine ai g12 λ g13 g14=>?_;refine SE _ _ _ _ _ g11 _ _ _ _ _ _ _ R Y4 H4 λ ρ5 h5 tk5 gs5 z5 x5 H5 V5=>?_;have x15:=x14.trans (w3 wN x5) (al H4);have dl5:h5.PlainList D items:=dl4.at λ o e=>kN H4 x5.toExt D hD o e;have it5:dI h5 v y J (i+1):=it4.at (by
    refine aj ((H4.offH J hJ).2) λ o eo=>?_;rw [eo]; exact kN H4 x5.toExt J hJ o eo)
   have hz:=cH g13;have hz':=W4.length;refine wpAny_list_append_plain dl5 (λ h6 dl6 hs6=>?_) (by rw [<-Array.length_toList,<-hz']; unfold sizeLine; exact Nat.le_trans (by assumption) (by decide))
   have mvD:∀ a∈[D],a∈hid:=λ a m=>by rw [List.mem_singleton.mp m]; exact hD
   refine aj (id dl6) λ nd6 ed6=>?_;refine ab (H5.move mvD (λ a m=>by rw [List.mem_singleton.mp m]; exact ⟨_,ed6⟩) (λ c o e n=>(hs6.2 c λ q'=>n (by rw [q']; exact List.mem_singleton.mpr rfl)).trans e)) λ x6 H6=>?_
   have Y6:=(Y4.ext H4 x5.toExt).turn hD hDC hs6;have st6:=x6.stb mvD;have it6:dI h6 v y J (i+1):=it5.at (hs6.2 J hJD);refine ⟨n,Nat.lt_succ_self n,i+1,p.1,q'.2,ρ5,h6,tk5,gs5,acc++[q'.1],items.push z5,rfl,x15.trans (w3 wD x6.g) (al H5),H6,Y6,(V4.ext x5.toExt).tr x6.pre st6,it6,dl6,?_,by lia,g14⟩
   rw [Array.toList_push];exact ((W4.ext x5.toExt).append (.cons V5 .nil)).tr x6.pre st6
theorem Bx {names:aq}:∀ {plan:List (Option Nat)} {cel':List (Option Nat)} {acc:List (Str×Addr)},cq N names=some plan->fc ae.cel plan=some cel' ->
  (∀ x i k c,dy N x=some (i,k)->aU ae.cel i=some (some c)->∃ a,env.cells.lookup x=some a∧ρ[c]?=some a) ->
  ∃ cl,forIn names acc (λ (p:Str×NameKind) cs=>if p.2 == .free then do let a <-cellOf env p.1; pure (ForInStep.yield ((p.1,a)::cs)) else pure (ForInStep.yield cs))=(pure cl:Sem _) ∧
   (∀ p∈acc,p∈cl)∧(∀ x a,(x,a)∈cl->(x,a)∈acc∨env.cells.lookup x=some a)∧∀ (i:Nat) (x:Str) (k:NameKind) (c:Nat),names[i]?=some (x,k)->cel'[i]?=some (some c)->∃ a,(x,a)∈cl∧env.cells.lookup x=some a∧ρ[c]?=some a:=by
 induction names with
 | nil =>
  intro plan cel' acc h1 h2 _;induction h1 using sI; induction h2 using sI;exact ⟨acc,by simp,λ _ m=>m,λ _ _ m=>.inl m,λ i x k c e=>by simp at e⟩
 | cons p r ih =>
  intro plan cel' acc h1 h2 hc;obtain ⟨x,kd⟩:=p;by_cases hk:kd=.free
  ·subst hk;refine ah λ G9 fin9=>?_;refine aa h1 λ pl g1 g2=>?_;refine az g2 λ l g3 g4=>?_;subst g4;refine aa h2 λ c0 g5 g6=>?_;refine az g6 λ l' g7 g8=>?_;subst g8;refine aa g5 λ o g9 g10=>?_;refine aa g10 λ c g11 g12=>?_;induction g12 using sI;subst g11;refine ag (hc x pl.1 pl.2 c g1 g9) λ a e1 e2=>?_;refine xH (ih (acc:=(x,a)::acc) g3 g7 hc) λ cl f1 f2 f3 f4=>?_;refine fin9 ?_; clear fin9 G9;refine ⟨cl,?_,λ q m=>f2 q (List.mem_cons_of_mem _ m),λ y b m=>?_,λ i y k' c' e3 e4=>?_⟩
   ·rw [List.forIn_cons];have:cellOf env x=pure a:=by unfold cellOf; rw [e1]
    simp only [beq_self_eq_true,if_true,this,pure_bind];exact f1
   ·rcases f3 y b m with m' | m'
    ·rcases List.mem_cons.mp m' with q | q
     ·cases q; exact .inr e1
     ·exact .inl q
    ·exact .inr m'
   ·induction i using Nat.casesOn with
    | zero =>
     simp at e3 e4;refine ab e3 ?_; clear e3; rintro rfl rfl;subst e4;exact ⟨a,f2 _ (List.mem_cons_self ..),e1,e2⟩
    | succ i=>exact f4 i y k' c' (by simpa using e3) (by simpa using e4)
  ·have hb:(kd == NameKind.free)=false:=by simpa using hk
   refine ah λ G9 fin9=>?_;have hp:cq N ((x,kd)::r)=bs (cq N r) λ l=>none::l:=by cases kd<;>first | rfl | exact absurd rfl hk
   rw [hp] at h1;refine az h1 λ l g3 g4=>?_;subst g4;refine aa h2 λ c0 g5 g6=>?_;refine az g6 λ l' g7 g8=>?_;subst g8;induction g5 using sI;refine xH (ih (acc:=acc) g3 g7 hc) λ cl f1 f2 f3 f4=>?_;refine fin9 ?_; clear fin9 G9;refine ⟨cl,?_,f2,f3,λ i y k' c' e3 e4=>?_⟩
   ·rw [List.forIn_cons];simp only [hb,Bool.false_eq_true,if_false,pure_bind];exact f1
   ·induction i using Nat.casesOn with
    | zero=>simp at e4
    | succ i=>exact f4 i y k' c' (by simpa using e3) (by simpa using e4)
theorem i6 {scope:Scope} {plan:List (Option Nat)} {cel':List (Option Nat)} (h1:cq N scope.names=some plan) (h2:fc ae.cel plan=some cel') (Y:ao I N env ae hid ρ h) :
  ∃ cl,closureFor scope env=pure cl∧∀ (i:Nat) (x:Str) (k:NameKind) (c:Nat),scope.names[i]?=some (x,k)->cel'[i]?=some (some c)->∃ a,cl.lookup x=some a∧ρ[c]?=some a:=by
 refine xH (Bx (acc:=[]) h1 h2 Y.cel) λ cl f1 f2 f3 f4=>?_;refine ⟨cl,?_,λ i x k c e1 e2=>?_⟩
 ·simp only [closureFor];rw [show (λ (x:Str×NameKind) (r:List (Str×Addr))=>(match x with
   | (name,kind)=>if (kind == NameKind.free)=true then do let __do_lift <-cellOf env name; pure (ForInStep.yield ((name,__do_lift)::r)) else pure (ForInStep.yield r):Sem _))=_ from rfl]
  erw [f1]; rfl
 ·refine kP (f4 i x k c e1 e2) λ a e3 e4 e5=>?_;have key:∀ (l:List (Str×Addr)),(∀ y b,(y,b)∈l->env.cells.lookup y=some b)->(x,a)∈l->l.lookup x=some a:=by
   intro l;induction l with
   | nil=>intro _ m; cases m
   | cons p r ih =>
    intro hl m;obtain ⟨y,b⟩:=p;rw [List.lookup_cons];cases q:x == y with
    | true =>
     have:=beq_iff_eq.mp q;subst this;have:=hl x b (List.mem_cons_self ..);rw [e4] at this; induction this using sI; rfl
    | false =>
     rcases List.mem_cons.mp m with q' | q'
     ·cases q'; simp at q
     ·exact ih (λ y b m=>hl y b (List.mem_cons_of_mem _ m)) q'
  exact ⟨a,key cl (λ y b m=>by rcases f3 y b m with q | q; cases q; exact q) e3,e5⟩
end
end
end Mine
end
section
open PySem PySem.W PySem.Spec PySem.Calls PyProof.Rows PySem.SeqAt
namespace Mine
noncomputable section
section
variable {hb:Heap} {prog:Program} {w:World} {I:aZ} {k:Nat} {Φ:eO} {ev:Ev} {X:eM} {hid hid' ρ ρ' ρ'':List Addr} {σ:List O} {A:Around} {s:Shared} {env:Env} {N:aq} {ae:AE} {E:Value->Shared->Prop} {h h' h'':Heap}
theorem qL {all:aq}:∀ {r:aq},fF all r=true->∀ p∈r,p.2≠.cell∧(p.2=.local->all.lookup p.1=some .local):=by
 intro r;induction r with
 | nil =>
  intro _ p m;cases m
 | cons p9 r ih =>
  obtain ⟨x,kd⟩:=p9;intro e p m;unfold fF at e;rcases List.mem_cons.mp m with rfl | m
  ·by_cases h1:kd=.cell
   ·subst h1; exact aT e
   ·refine ⟨h1,λ h2=>?_⟩;have h2:kd=.local:=h2;subst h2;dsimp only at e ⊢;split at e
    ·assumption
    ·exact aT e
  ·have e':fF all r=true:=by
    cases kd<;>first | (exact aT e; done) | exact e | skip
    dsimp only at e;split at e
    ·exact e
    ·exact aT e
   exact ih e' p m
theorem jH {sc:Scope} (e:gz sc=true):sc.kind=.function∧∀ p∈sc.names,p.2≠.cell∧(p.2=.local->sc.names.lookup p.1=some .local):=by
 unfold gz at e;refine ab (Bool.and_eq_true_iff.mp e) λ e1 e2=>?_;refine ⟨?_,qL e2⟩;cases q:sc.kind<;>rw [q] at e1<;>first | rfl | exact aT e1
theorem kx {scope:Scope} (hk:env.scope.kind=.function) (hn:env.scope.names=N):(relabel scope env).names=cb scope.names N:=by
 have e1:∀ x,Env.kindOf env x=N.lookup x:=λ x=>by unfold Env.kindOf; rw [hn]
 unfold relabel cb;simp only [hk,e1];refine List.map_congr_left λ p _=>?_;obtain ⟨x,kd⟩:=p;simp
theorem oz {names:aq} {i:Nat} {x:Str} {kd:NameKind} (h:(cb names N)[i]?=some (x,kd)):∃ k',names[i]?=some (x,k'):=by
 unfold cb at h;rw [List.getElem?_map] at h;cases q:names[i]? with
 | none=>rw [q] at h; exact ac h
 | some p =>
  rw [q] at h;obtain ⟨y,k'⟩:=p;have h:=Option.some.inj h;dsimp only at h;split at h<;>(cases h; exact ⟨_,rfl⟩)
theorem ao.to (Y:ao I N env ae hid ρ h) (hL:env.locals∈hid') (hp:∃ r,ρ'=ρ++r) (st:∀ a o,ay hid ρ h a o->ay hid' ρ' h' a o) (hl:∀ o,h.get? env.locals=some o->h'.get? env.locals=some o):ao I N env ae hid' ρ' h':=by
 refine ⟨Y.kind,Y.names,Y.gl,Y.bu,hL,?_,λ x i kd c e0 e=>?_,Y.code.tr hp st⟩
 ·refine ag Y.loc λ m hn hm=>?_;refine ⟨m,hn.at' hl,λ x i kd v e0 e=>?_⟩;refine ag (hm x i kd v e0 e) λ val e1 e2=>?_;exact ⟨val,e1,e2.tr hp st⟩
 ·refine ag (Y.cel x i kd c e0 e) λ a e1 e2=>?_;refine aj hp ?_; clear hp; rintro r rfl;exact ⟨a,e1,cc e2⟩
theorem vr {v:V} {x:Value} {l:List V} {J:Addr} {Q:Value->Shared->Prop} (e:bw v σ=some l) (it:dI s.heap v x J 0) (hQ:Q (.ref J) s):wpAny (model prog w) A (pyIter (.ref J)) Q E s:=by
 induction v using V.casesOn<;>first
  | (exact ac e; done)
  | ((refine ag it λ a _ hi=>?_; clear it); first | exact wpAny_pyIter_listiter hi hQ | exact wpAny_pyIter_tupleiter hi hQ)
  | ((refine dK it λ _ _ _ _ hT hi=>?_; clear it); rcases hT with rfl | rfl<;>first | exact wpAny_pyIter_striter_ascii hi hQ | exact wpAny_pyIter_striter_wide hi hQ)
  | exact wpAny_pyIter_rangeiter it hQ
theorem oA (ST:jy hb prog w I k ev) (R:aC A k) {ifs:List Expr} {b:Bool×List O} {Q:Bool->Shared->Prop} (e:(ED ev N ifs).f ae σ=some b) (Y:ao I N env ae hid ρ s.heap) (H:Sh hb prog w I hid ρ σ s.heap) (q:df hb prog w I hid ρ s b Q) :
  wpAny (model prog w) A (forIn ifs true λ c r=>if r=true then do let ok <-isTrue c env (eval c env); pure (ForInStep.yield ok) else pure (ForInStep.yield r)) Q E s:=by
 unfold ED at e;split at e
 ·induction e using sI;exact wpAny_tests_nil (q ρ s.heap s.toks s.gens (aI.refl _ _ _ _) H)
 ·exact wpAny_tests_one (ST _ _ _ _ _ e _ _ _ _ _ _ _ R Y H q)
 ·exact ac e
theorem vt (SE:eN hb prog w I k ev) (ST:jy hb prog w I k ev) (R:aC A k) {x:Str} {px:Pos} {elt iter:Expr} {ifs:List Expr} {scope:Scope} {pos:Pos} {r:V×List O} {use:Option (Value->Sem Unit)} {Q:Value->Shared->Prop} {pp:Pos}
  (e:(yM ev N elt x iter ifs scope).f ae σ=some r) (Y:ao I N env ae hid ρ s.heap) (H:Sh hb prog w I hid ρ σ s.heap)
  (fin:∀ ρ' h' tk gs C D,aI I [] ρ ρ' s.heap s.gens h' gs->Sh hb prog w I (C::hid) ρ' r.2 h'->ao I N env ae (C::hid) ρ' h'->(∃ m,h'.Ns C m)->C∉hid->s.heap.get? C=none->VR I (ay (C::hid) ρ' h') ρ' r.1 (.ref D) ->
   compPost (model prog w) A E use Q (.ref D) C (.ok .next) { s with heap:=h',toks:=tk,gens:=gs }) :
  wpAny (model prog w) A (comprehension (.ListComp elt [⟨.Name x px,iter,ifs,0⟩] scope pos) scope env pp (newList []) false (eval iter env) use) Q E s:=by
 refine ah λ G9 fin9=>?_;unfold yM at e;refine ab (fM e) λ hs0 e=>?_;refine ab (Bool.and_eq_true_iff.mp hs0) λ hs hns=>?_;refine aa e λ plan g1 e=>?_;refine aa e λ cel g2 e=>?_;refine aa e λ p g3 e=>?_;refine aa e λ l g4 e=>?_;refine az e ?_; rintro rr g5 rfl;refine ag (i6 g1 g2 Y) λ cl hcl hcel=>?_;refine ab (jH hs) λ hkind hnm=>?_;refine fin9 ?_; clear fin9 G9;refine wpAny_comprehension_free rfl (l9 hns env) hcl hkind (λ y hy hl=>(hnm y hy).2 hl) (SE _ _ _ _ _ g3 _ _ _ _ _ _ _ R Y H λ ρ1 h1 tk1 gs1 y x1 H1 V1=>?_);have Y1:=Y.ext H x1.toExt;refine jG (s:={ s with heap:=h1,toks:=tk1,gens:=gs1 }) g4 H1 V1 λ b hf it0=>?_
 refine ab (H1.hide hf) λ H2 st2=>?_;refine wpAny_newObj_type (wpAny_newFunctionEnv (λ y hy=>(hnm y hy).1) (by intro y hy; simp at hy) (λ h4 hns4 hsb4=>?_) hkind)
 dsimp only at hns4 hsb4 it0 ⊢;generalize hJ:h1.objs.size=J at *
 have hJH:J∉hid:=by rw [<-hJ]; exact H1.nextH
 generalize hB:h1.push b=B2 at *
 refine ab (H2.hide (b:={ cls:=.type "list",dict:=none,data:=.seq ([]:List Value).toArray }) rfl) λ H3 st3=>?_;have hDn:=bh B2;generalize hD:B2.objs.size=D at *
 generalize hB3:B2.push { cls:=.type "list",dict:=none,data:=.seq ([]:List Value).toArray }=B3 at *
 have hlD:B3.PlainList D #[]:=⟨0,by rw [<-hB3,<-hD]; exact Heap.get?_push_size _ rfl⟩
 have hCn:=bh B3;have kp4:∀ b o,B3.get? b=some o->h4.get? b=some o:=λ b o e=>hsb4.extBut b o (bd e) (Heap.get?_push_of_some _ e);refine da (id hns4) λ o4 es4 ep4 ho4 _=>?_;generalize hC:B3.objs.size=C at *
 refine ab (H3.hideK hCn kp4 ⟨o4,ho4⟩) λ H4 st4=>?_;have hDH:D∉J::hid:=by rw [<-hD]; exact H2.nextH
 have hCH:C∉D::J::hid:=by rw [<-hC]; exact H3.nextH
 have hDJ:J≠D:=λ q=>hDH (q▸List.mem_cons_self ..);have hCJ:J≠C:=λ q=>hCH (q▸List.mem_cons_of_mem _ (List.mem_cons_self ..));have hDC:D≠C:=λ q=>hCH (q▸List.mem_cons_self ..);have hLH:=Y1.hidL;have st14:∀ a o,ay hid ρ1 h1 a o->ay (C::D::J::hid) ρ1 h4 a o:=λ a o z=>st4 a o (st3 a o (st2 a o z));have k12:∀ b o,h1.get? b=some o->B2.get? b=some o:=λ c o e=>by rw [<-hB]; exact Heap.get?_push_of_some _ e
 have k23:∀ b o,B2.get? b=some o->B3.get? b=some o:=λ c o e=>by rw [<-hB3]; exact Heap.get?_push_of_some _ e
 have V4:VR I (ay (C::D::J::hid) ρ1 h4) ρ1 p.1 y:=V1.tr ⟨[],by exact dS⟩ st14
 have it4:dI h4 p.1 y J 0:=it0.at (by
  refine aj ((H2.offH J (List.mem_cons_self ..)).2) λ o e=>?_;rw [e]; exact kp4 _ _ (k23 _ _ e))
 have dl4:h4.PlainList D #[]:=hlD.at λ o e=>kp4 _ _ e;have hcN:(relabel scope env).names=cb scope.names N:=kx Y.kind Y.names;have Yc:ao I (cb scope.names N) (compEnvC scope cl C env) ⟨F.of [],cel,none⟩ (C::D::J::hid) ρ1 h4:=by
  refine ⟨hkind,hcN,Y.gl,Y.bu,List.mem_cons_self ..,⟨_,hns4,λ x i kd v _ e=>?_⟩,λ x i kd c hp hi=>?_,λ i e=>by exact ac e⟩
  ·have:=F.get_of _ _ e;simp at this
  ·obtain ⟨_,j,e1,e2⟩:=bn hp;have:i=j:=by simpa using e1
   subst this;refine aj (oz e2) λ k' e3=>?_;rw [aE] at hi;refine ag (hcel i x k' c e3 hi) λ a e4 e5=>?_;refine aj x1.pre λ rx hrx=>?_;exact ⟨a,e4,by rw [hrx]; exact cc e5⟩
 have run:codeAny (model prog w) A (.compLoop (.ListComp elt [⟨.Name x px,iter,ifs,0⟩] scope pos) 0 (.ref J) (.ref D) (compEnvC scope cl C env)) (compPost (model prog w) A E use Q (.ref D) C)
   { s with heap:=h4,toks:=tk1+([]:List (Str×Value)).length,gens:=gs1 }:=by
  refine vq (hid':=C::D::hid) SE R (by exact G2) (by exact ni) hDJ hCJ hDC (λ e Y H q=>oA ST R e Y H q) g4 g5 Yc H4 V4 it4 dl4 (λ a m=>?_) (λ m=>?_) λ ρ5 h5 tk5 gs5 items x5 H5 hns5 dl5 W5=>?_
  ·simp only [List.mem_cons] at m ⊢;rcases m with m | m | m | m<;>simp [m]
  ·simp only [List.mem_cons] at m;rcases m with m | m | m
   ·exact hCJ m
   ·exact hDJ m
   ·exact hJH m
  ·have hDh:D∉C::hid:=λ m=>by
    rcases List.mem_cons.mp m with m | m
    ·exact hDC m
    ·exact hDH (List.mem_cons_of_mem _ m)
   have sub6:∀ a∈D::C::hid,a∈C::D::hid:=λ a m=>by
    simp only [List.mem_cons] at m ⊢;rcases m with m | m | m<;>simp [m]
   refine ab ((H5.sub sub6).drop (h':=h5) hDh (λ c o n e=>e)) λ H6 st6=>?_;have st56:∀ a o,ay (C::D::hid) ρ5 h5 a o->ay (C::hid) ρ5 h5 a o:=λ a o z=>st6 a o (lW sub6 a o z);refine aj dl5 λ nd ed=>?_; clear dl5;have fresh:∀ b o,s.heap.get? b=some o->b∉ρ->b≠C∧b≠D∧b≠J:=λ b o e n=>by
    have e1:=x1.keep b o e n (by simp)
    refine ⟨λ q=>?_,λ q=>?_,λ q=>?_⟩
    ·have:=bd (k23 _ _ (k12 _ _ e1)); rw [hC] at this; exact this q
    ·have:=bd (k12 _ _ e1); rw [hD] at this; exact this q
    ·have:=bd e1; rw [hJ] at this; exact this q
   have al0:∀ b o,s.heap.get? b=some o->∃ o,h1.get? b=some o:=λ b o e=>by
    by_cases m:b∈ρ
    ·refine aj x1.pre λ rx hrx=>?_;exact (H1.off b (by rw [hrx]; exact List.mem_append_left _ m)).2.2
    ·exact ⟨o,x1.keep b o e m (by simp)⟩
   have xx:aI I [] ρ ρ5 s.heap s.gens h5 gs5:=by
    refine ⟨⟨?_,λ b o e n _=>?_,λ a m n=>?_⟩,I.gr.tr x1.gb x5.gb⟩
    ·refine aj x1.pre λ r1 e1=>?_;refine aj x5.pre λ r2 e2=>?_;exact ⟨r1++r2,by rw [e2,e1,List.append_assoc]⟩
    ·refine c9 (fresh b o e n) λ f1 f2 f3=>?_;have e1:=x1.keep b o e n (by simp)
     have n1:=x1.notin e n;exact x5.keep b o (kp4 _ _ (k23 _ _ (k12 _ _ e1))) n1 (by
      intro m;replace m:=El m;rcases m with m | m | m
      ·exact f1 m
      ·exact f2 m
      ·exact f3 m)
    ·by_cases hm:a∈ρ1
     ·exact x1.new a hm n
     ·have z:=x5.new a m hm;cases q:s.heap.get? a with
      | none=>rfl
      | some o =>
       refine aj (al0 a o q) λ o' e'=>?_;have z':h4.get? a=none:=z;rw [kp4 _ _ (k23 _ _ (k12 _ _ e'))] at z'; cases z'
   refine fin ρ5 h5 tk5 gs5 C D xx H6 ?_ hns5 (λ m=>hCH (by simp [m])) ?_ ?_
   ·refine Y.to (List.mem_cons_of_mem _ Y.hidL) xx.pre (λ a o z=>⟨xx.keep a o z.1 z.2.2 (by simp),λ m=>?_,xx.notin z.1 z.2.2⟩) (λ o e=>?_)
    ·rcases List.mem_cons.mp m with m | m
     ·exact (fresh a o z.1 z.2.2).1 m
     ·exact z.2.1 m
    ·exact xx.keep _ o e (λ m=>(H.off _ m).2.1 Y.hidL) (by simp)
   ·cases q:s.heap.get? C with
    | none=>rfl
    | some o =>
     refine aj (al0 C o q) λ o' e'=>?_;rw [k23 _ _ (k12 _ _ e')] at hCn; cases hCn
   ·exact .lst ⟨ed,hDh,λ m=>(H5.off D m).2.1 (by exact ni)⟩ (W5.tr ⟨[],by exact dS⟩ st56)
 exact codeAny_compStart_list run (vr g4 it4 run)
end
section
def tU (a:Arguments):Option Str:=au (nR a.posonlyargs) λ _=>au (ku a.args) λ p=>aB (a.vararg.isNone && a.kwarg.isNone) (au (nR a.kwonlyargs) λ _=>au (nR a.kw_defaults) λ _=>bs (nR a.defaults) λ _=>p.arg) none
noncomputable def gA:aq->List (Option Nat)->List (Str×Nat)
 | (x,_)::r,some c::l=>(x,c)::gA r l
 | _::r,none::l=>gA r l
 | _,_=>[]
noncomputable def Kq {α:Type} (f:List Pos->α) (g d:α) (o:O):α:=by
 induction o using O.casesOn with
 | tab l=>exact f l
 | tabT=>exact g
 | _=>exact d
def EE (N:aq) (params:Arguments) (body:Expr) (scope:Scope) (pos:Pos):eJ (V×List O) :=
 aB (gz scope && !scope.isCoroutine && !scope.isGenerator) ⟨λ env σ=>au (tU params) λ p=>au env.tab λ i=>au (aU σ i) λ o=>Kq (λ l=>aB (ee l pos) none (au (cq N scope.names) λ plan=>bs (fc env.cel plan) λ cel=>(.clo ⟨[p],body,scope,gA scope.names cel⟩,bF σ i (.tab (l++[pos])))))
  (au (cq N scope.names) λ plan=>bs (fc env.cel plan) λ _=>(.fnc,σ)) none o⟩ .no
def yN (ev:Ev) (N:aq) (a:Str) (e:Expr) (b:Str):eJ (V×List O) :=
 aB (Nat.ble (fV a).length 1000 && Nat.ble (fV b).length 1000) ⟨λ env σ=>au ((ev.E N e).f env σ) λ p=>au (yb p.1) λ x=>aB (Nat.ble x.length 1000) (some (.str (fV a++(x++fV b)),p.2)) none⟩ .no
def Hr (gs:List Comprehension):Option (Str×Expr×List Expr):=by
 induction gs using List.casesOn with
 | nil=>exact none
 | cons g r =>
 induction r using List.casesOn with
 | cons=>exact none
 | nil=>exact au (ww g.target) λ x=>aB (g.is_async == 0) (some (x,g.iter,g.ifs)) none
def Kg (vs:List Expr):Option (Str×Expr×Str):=au (Bi vs) λ t=>au (Eo t.1) λ x=>au (Kd t.2.1) λ q=>au (Eo t.2.2) λ y=>aB (q.2.1 == -1 && q.2.2.isNone) (some (x,q.1,y)) none
def Kh (ev:Ev) (N:aq) (e:Expr):Option (eJ (V×List O)):=by
 induction e using Expr.casesOn with
 | ListComp elt gens scope _=>exact bs (Hr gens) λ q=>yM ev N elt q.1 q.2.1 q.2.2 scope
 | Lambda params body scope pos=>exact some (EE N params body scope pos)
 | JoinedStr vs _=>exact bs (Kg vs) λ q=>yN ev N q.1 q.2.1 q.2.2
 | _=>exact none
def jI (Φ:eO) (ev:Ev) (N:aq) (e:Expr):eJ (V×List O):=kt (cp Φ ev N e) (λ b=>b) (Kh ev N e)
end
structure cZ (hb:Heap):Prop where
 at_:∃ mg bm ob,hb.Ns mainGlobals mg∧mg "__builtins__" = some (.ref bm)∧bm≠builtinsNs∧bm≠mainGlobals∧hb.get? bm=some ob∧ob.cls=.type "module" ∧ ob.dict=some builtinsNs∧ob.data=.plain
theorem iP {pos p2:Pos} {c:Value} (l:List Value) (h:TriplesOk l) (hn:codeAmong p2 l=none) (hne:(Nat.beq pos.line p2.line && Nat.beq pos.col p2.col)=false) :
  codeAmong p2 (l++[rawInt pos.line,rawInt pos.col,c])=none:=by
 fun_induction TriplesOk l with
 | case1 =>
  have h1:¬ (pos.line=p2.line∧pos.col=p2.col):=by
   rintro ⟨e1,e2⟩;rw [e1,e2] at hne;simp at hne
  simp [codeAmong,rawInt];lia
 | case2 a t b u x rest ih =>
  simp only [List.cons_append,codeAmong] at hn ⊢;split at hn
  ·cases hn
  ·rename_i hc; rw [if_neg hc]; exact ih h hn
 | case3 l h1 h2=>exact h.elim
theorem gB {a b:Int} {t u:Tok} {c:Value} (l:List Value) (h:TriplesOk l):TriplesOk (l++[.int a t,.int b u,c]):=by
 fun_induction TriplesOk l with
 | case1=>trivial
 | case2 a t b u x rest ih=>exact ih h
 | case3 l h1 h2=>exact h.elim
theorem oB {pos p2:Pos}:∀ {l:List Pos},ee (l++[pos]) p2=false->ee l p2=false∧(Nat.beq pos.line p2.line && Nat.beq pos.col p2.col)=false:=by
 intro l;induction l with
 | nil =>
  intro h;refine ⟨rfl,?_⟩;change ee [pos] p2=false at h;unfold ee at h;split at h
  ·cases h
  ·assumption
 | cons p r ih =>
  intro h;rw [List.cons_append] at h;unfold ee at h ⊢;split at h
  ·cases h
  ·exact ih h
section
variable {hb:Heap} {prog:Program} {w:World} {I:aZ} {k:Nat} {Φ:eO} {ev:Ev} {X:eM} {hid hid' ρ ρ' ρ'':List Addr} {σ:List O} {A:Around} {s:Shared} {env:Env} {N:aq} {ae:AE} {E:Value->Shared->Prop} {h h' h'':Heap}
theorem Sh.setE (H:Sh hb prog w I hid ρ σ h) {i:Nat} {a:Addr} {b:Obj} {o:O} (hi:ρ[i]?=some a) (hs:∀ c o,c≠a->h.get? c=some o->h'.get? c=some o) (hg:h'.get? a=some b) (r:OR prog w I (ay hid ρ h) ρ o b) :
  Ext [] ρ ρ h h'∧Sh hb prog w I hid ρ (σ.set i o) h':=by
 have hm:=List.mem_of_getElem? hi;have x:Ext [] ρ ρ h h':=⟨⟨[],by exact dS⟩,λ b o e n _=>hs b o (λ q=>n (q▸hm)) e,λ a m n=>absurd m n⟩
 have al:∀ c o,h.get? c=some o->∃ o,h'.get? c=some o:=λ c o e=>by
  by_cases q:c=a
  ·exact ⟨b,q▸hg⟩
  ·exact ⟨o,hs c o q e⟩
 refine ⟨x,⟨H.sm,λ b o e=>hs b o (λ q=>by have:=(H.off a hm).1; rw [<-q,e] at this; cases this) (H.base b o e),H.nd,by rw [List.length_set]; exact H.len,λ a m=>⟨(H.off a m).1,(H.off a m).2.1,(H.off a m).2.2.elim (al a)⟩,λ a m=>⟨(H.offH a m).1,(H.offH a m).2.elim (al a)⟩,λ j o' e=>?_⟩⟩
 by_cases hj:i=j
 ·subst hj;have:o'=o:=by
   rw [List.getElem?_set_self'] at e;cases q:σ[i]? with
   | none=>rw [q] at e; exact ac e
   | some z=>rw [q] at e; exact (Option.some.inj e).symm
  subst this;exact ⟨a,b,hi,hg,r.tr x.pre (x.stb jq)⟩
 ·rw [List.getElem?_set_ne hj] at e;refine ak (H.ob j o' e) λ a' b' e1 e2 e3=>?_;refine ⟨a',b',e1,hs a' b' (λ q=>hj ?_) e2,e3.tr x.pre (x.stb jq)⟩;subst q;exact dp H.nd hi e1
theorem yO {fd:FuncData} {p:Str} {an:Option Expr} {pos:Pos} {x:Value} (h:fd.params=⟨[],[⟨p,an,pos⟩],none,[],[],none,[]⟩) (hd:fd.defaults=.none):bindArgs fd ⟨[x],[]⟩=pure [(p,x)]:=by
 have e1:(List.lookup p [(p,x)])=some x:=by rw [List.lookup_cons,beq_self_eq_true]
 have e2:List.filter (λ n=>(List.lookup n [(p,x)]).isNone) [p]=[]:=by rw [List.filter_cons_of_neg (by rw [e1]; exact Bool.false_ne_true)]; rfl
 unfold bindArgs;rw [h,hd];refine (pure_bind (m:=Sem) (([(p,x)],[]):List (Str×Value)×List (Str×Value)) _).trans ?_;refine (pure_bind (m:=Sem) (none:Option (Array Value)) _).trans ?_;refine (if_neg (show ¬ (_=true) from Bool.false_ne_true)).trans ?_;refine (if_neg (show ¬ ((!(List.filter (λ n=>(List.lookup n [(p,x)]).isNone) [p]).isEmpty)=true) from by rw [e2]; exact Bool.false_ne_true)).trans ?_
 refine (pure_bind (m:=Sem) ([(p,x)]:List (Str×Value)) _).trans ?_;refine (pure_bind (m:=Sem) (([(p,x)],[]):List (Str×Value)×List Str) _).trans ?_;refine (if_neg (show ¬ (_=true) from Bool.false_ne_true)).trans ?_;show pure (List.filterMap (λ n=>(List.lookup n [(p,x)]).map λ y=>(n,y)) [p])=_;rw [List.filterMap_cons_some (by rw [e1]; rfl)]; rfl
theorem EF {a b d:List Arg} {c f:Option Arg} {e:List (Option Expr)} {g:List Expr} {q:Arg} (e1:a=[]) (e2:b=[q]) (e3:c=none) (e4:d=[]) (e5:e=[]) (e6:f=none) (e7:g=[]):(⟨a,b,c,d,e,f,g⟩:Arguments)=⟨[],[q],none,[],[],none,[]⟩:=by
 rw [e1,e2,e3,e4,e5,e6,e7]
theorem Hs (q:Arg):∃ an pos,q=⟨q.arg,an,pos⟩:=by
 obtain ⟨a,b,c⟩:=q;exact ⟨b,c,rfl⟩
theorem kZ {params:Arguments} {p:Str} (h:tU params=some p):∃ an pos,params=⟨[],[⟨p,an,pos⟩],none,[],[],none,[]⟩:=by
 refine ah λ G9 fin9=>?_;obtain ⟨a,b,c,d,e,f,g⟩:=params;refine aa h λ _ h1 h=>?_;refine aa h λ q h2 h=>?_;refine ai h λ h3 h=>?_;refine aa h λ _ h4 h=>?_;refine aa h λ _ h5 h=>?_;refine az h λ _ h6 h9=>?_;refine ab (Bool.and_eq_true_iff.mp h3) λ h7 h8=>?_;refine bE (Hs q) λ an pos hq=>?_;rw [h9] at hq;refine fin9 ?_; clear fin9 G9;exact ⟨an,pos,hq▸EF (ew h1) (dh h2) (Option.isNone_iff_eq_none.mp h7) (ew h4) (ew h5) (Option.isNone_iff_eq_none.mp h8) (ew h6)⟩
theorem By {gs:List Comprehension} {q:Str×Expr×List Expr} (h:Hr gs=some q):∃ p,gs=[⟨.Name q.1 p,q.2.1,q.2.2,0⟩]:=by
 induction gs using List.casesOn with
 | nil=>exact ac h
 | cons g r =>
 induction r using List.casesOn with
 | cons=>exact ac h
 | nil =>
 refine aa h λ x h1 h=>?_;refine ai h λ h2 h=>?_;obtain ⟨t,it,ifs,n⟩:=g;refine aj (eg h1) λ p h3=>?_;induction h using sI;subst h3;cases beq_iff_eq.mp h2;exact ⟨_,rfl⟩
theorem EG {vs:List Expr} {q:Str×Expr×Str} (h:Kg vs=some q):∃ k1 p1 p2 k2 p3,vs=[.Constant (.str q.1) k1 p1,.FormattedValue q.2.1 (-1) none p2,.Constant (.str q.2.2) k2 p3]:=by
 refine ah λ G9 fin9=>?_;refine aa h λ t h0 h=>?_;refine aa h λ x h1 h=>?_;refine aa h λ y h2 h=>?_;refine aa h λ z h3 h=>?_;refine ai h λ h4 h=>?_;refine ab (Bool.and_eq_true_iff.mp h4) λ h5 h6=>?_;refine bE (tE h1) λ k1 p1 e1=>?_;refine aj (Er h2) λ p2 e2=>?_;refine bE (tE h3) λ k2 p3 e3=>?_;refine fin9 ?_; clear fin9 G9;refine ⟨k1,p1,p2,k2,p3,?_⟩;rw [l8 h0,e1,e2,e3,beq_iff_eq.mp h5,Option.isNone_iff_eq_none.mp h6,<-Option.some.inj h]
theorem oC:∀ {names:aq} {cel:List (Option Nat)} {x:Str} {c:Nat},(x,c)∈gA names cel->∃ (i:Nat) (k:NameKind),names[i]?=some (x,k)∧cel[i]?=some (some c):=by
 intro names;induction names with
 | nil=>intro cel x c m; induction cel using List.casesOn<;>cases m
 | cons p9 r ih =>
  obtain ⟨y,k⟩:=p9;intro cel x c m;induction cel using List.casesOn with
  | nil=>cases m
  | cons d l =>
  induction d using Option.casesOn with
  | some d =>
   rcases List.mem_cons.mp m with e | m
   ·cases e; exact ⟨0,k,rfl,rfl⟩
   ·refine jg (ih m) λ i k' e1 e2=>?_;exact ⟨i+1,k',by simpa using e1,by simpa using e2⟩
  | none =>
   refine jg (ih (cel:=l) m) λ i k' e1 e2=>?_;exact ⟨i+1,k',by simpa using e1,by simpa using e2⟩
theorem yP {α:Type} {l:List α} {i:Nat} {x:α} (h:l[i]?=some x):l.set i x=l:=by
 refine List.ext_getElem? λ j=>?_;by_cases q:i=j
 ·subst q;rw [List.getElem?_set_self',h]; rfl
 ·rw [List.getElem?_set_ne q]
theorem vv (GO:cZ hb) {params:Arguments} {body:Expr} {scope:Scope} {pos:Pos} {r:V×List O} {Q:Value->Shared->Prop} (e:(EE N params body scope pos).f ae σ=some r) (Y:ao I N env ae hid ρ s.heap) (H:Sh hb prog w I hid ρ σ s.heap) (q:aA hb prog w I hid ρ s r Q) :
  wpAny (model prog w) A (eval (.Lambda params body scope pos) env) Q E s:=by
 unfold EE at e;refine ab (fM e) λ hs e=>?_;rw [Bool.and_eq_true,Bool.and_eq_true] at hs;refine ab hs λ j00 hge=>?_; clear hs; refine ab j00 λ hs hco=>?_; clear j00;refine aa e λ p g0 e=>?_;refine aa e λ i g1 e=>?_;refine aa e λ o g2 e=>?_;induction o using O.casesOn with
 | tab l =>
  refine ah λ G9 fin9=>?_;refine ab (En e) λ g3 e=>?_;refine aa e λ plan g4 e=>?_;refine az e ?_; rintro cel g5 rfl;refine bE (kZ g0) ?_; rintro an pp rfl;refine ag (i6 g4 g5 Y) λ cl hcl hcel=>?_;refine tz (Y.code i g1) λ c P oc k1 k2 k3 k4=>?_;rw [aE] at g2;refine ak (H.ob i _ g2) λ a b f1 f2 f3=>?_;refine fin9 ?_; clear fin9 G9;rw [k4] at f1; induction f1 using sI;induction f3 using jp.casesOn with
  | tab t1 t2 =>
   rename_i ps;refine xK GO.at_ λ mg bm ob b1 b2 b3 b4 b5 b6 b7 b8=>?_;have hPm:=List.mem_of_getElem? k4;have hPb:=(H.off _ hPm).1;have hgP:mainGlobals≠P:=λ q=>by
    refine da b1 λ o' es ep e' _=>?_; clear b1;rw [q,hPb] at e'; exact ac e'
   have hbP:bm≠P:=λ q=>by rw [q,hPb] at b5; exact ac b5
   refine kla_eval rfl (kla_makeFunction (mg:=mg) hcl Y.gl (b1.keeps H.base) k1 (k3.hd k2.1) f2 t1 (t2 pos g3) hgP ⟨bm,ob,b2,b3,b4,hbP,H.base _ _ b5,b6,b7,b8⟩ λ c' ctv h1 tk hx hge' hlt hrec htb=>?_);refine ah λ G9 fin9=>?_;refine GW hrec λ c2 oc2 vs t e2 hoc hd hv=>?_; clear hrec;cases e2;refine ab (H.setE k4 (λ c o n e=>hx c o n e) htb (.tab (l:=l++[pos]) (by
    rw [Array.toList_append]; exact gB _ t1) λ p2 hp=>by
     obtain ⟨h1,h2⟩:=oB hp;rw [Array.toList_append];exact iP _ t1 (t2 p2 h1) h2)) λ x1 H1=>?_
   refine ab (H1.alloc (kla_obj "<lambda>" (env.qual ++ "<lambda>") ⟨[],[⟨p,an,pp⟩],none,[],[],none,[]⟩ body scope cl ((mg "__name__").getD .none) c' ctv)) λ x2 H2=>?_;have fresh:s.heap.get? c'=none:=Heap.get?_none_of_le hge';rw [cF] at q;refine fin9 ?_; clear fin9 G9;refine q ρ _ tk s.gens _ (x1.trans0 x2) H2 (.clo (fd:=kla_fn "<lambda>" (env.qual ++ "<lambda>") ⟨[],[⟨p,an,pp⟩],none,[],[],none,[]⟩ body scope cl ((mg "__name__").getD .none) (.ref c') ctv) (H1.stbNew rfl) rfl rfl rfl rfl ?_ rfl ⟨Heap.get?_push_of_some _ hoc,λ m=>?_,λ m=>?_⟩ hd hv λ x n m=>?_)
   ·intro s xs hl;refine aj (List.length_eq_one_iff.mp hl) ?_; rintro x rfl;exact BindsTo.of_eq (yO rfl rfl)
   ·refine aj ((H.offH _ m).2) λ o' e'=>?_; rw [fresh] at e'; exact ac e'
   ·refine aj ((H.off _ m).2.2) λ o' e'=>?_; rw [fresh] at e'; exact ac e'
   ·refine jg (oC m) λ j kk e3 e4=>?_;exact hcel j x kk n e3 e4
 | tabT =>
  refine ah λ G9 fin9=>?_;refine aa e λ plan g4 e=>?_;refine az e ?_; rintro cel g5 rfl;refine bE (kZ g0) ?_; rintro an pp rfl;refine ag (i6 g4 g5 Y) λ cl hcl hcel=>?_;refine tz (Y.code i g1) λ c P oc k1 k2 k3 k4=>?_;rw [aE] at g2;refine ak (H.ob i _ g2) λ a b f1 f2 f3=>?_;refine fin9 ?_; clear fin9 G9;rw [k4] at f1; induction f1 using sI;induction f3 using bO.casesOn with
  | tabT t1 =>
   rename_i ps;refine xK GO.at_ λ mg bm ob b1 b2 b3 b4 b5 b6 b7 b8=>?_;have hPm:=List.mem_of_getElem? k4;have hPb:=(H.off _ hPm).1;have hgP:mainGlobals≠P:=λ q=>by
    refine da b1 λ o' es ep e' _=>?_; clear b1;rw [q,hPb] at e'; exact ac e'
   have hbP:bm≠P:=λ q=>by rw [q,hPb] at b5; exact ac b5
   cases hc:codeAmong pos ps.toList with
   | none =>
    refine kla_eval rfl (kla_makeFunction (mg:=mg) hcl Y.gl (b1.keeps H.base) k1 (k3.hd k2.1) f2 t1 hc hgP ⟨bm,ob,b2,b3,b4,hbP,H.base _ _ b5,b6,b7,b8⟩ λ c' ctv h1 tk hx hge' hlt hrec htb=>?_);refine ab (H.setE k4 (λ c o n e=>hx c o n e) htb (.tabT (by
     rw [Array.toList_append]; exact gB _ t1))) λ x1 H1=>?_
    rw [yP g2] at H1;refine ab (H1.alloc (kla_obj "<lambda>" (env.qual ++ "<lambda>") ⟨[],[⟨p,an,pp⟩],none,[],[],none,[]⟩ body scope cl ((mg "__name__").getD .none) c' ctv)) λ x2 H2=>?_;exact q ρ _ tk s.gens _ (x1.trans0 x2) H2 (.fnc (H1.stbNew rfl))
   | some cv =>
    refine kla_eval rfl (kla_makeFunctionHit (mg:=mg) hcl Y.gl (b1.keeps H.base) k1 (k3.hd k2.1) f2 t1 hc ⟨bm,ob,b2,b3,b4,hbP,H.base _ _ b5,b6,b7,b8⟩ λ ctv h1 tk hk _=>?_);refine ab (H.keeps hk) λ x1 H1=>?_;refine ab (H1.alloc { cls:=.type "function",data:=.func (kla_fn "<lambda>" (env.qual ++ "<lambda>") ⟨[],[⟨p,an,pp⟩],none,[],[],none,[]⟩ body scope cl ((mg "__name__").getD .none) cv ctv) }) λ x2 H2=>?_;exact q ρ _ tk s.gens _ (x1.trans0 x2) H2 (.fnc (H1.stbNew rfl))
 | _=>exact ac e
theorem yQ (x:Str):(fV x).length=x.length:=by
 unfold fV;rw [List.length_map,Array.length_toList]; rfl
theorem qM (SE:eN hb prog w I k ev) (R:aC A k) {a b:Str} {e0:Expr} {r:V×List O} {k1 k2:Nat} {p1 p2 p3 pos:Pos} {Q:Value->Shared->Prop} (e:(yN ev N a e0 b).f ae σ=some r) (Y:ao I N env ae hid ρ s.heap) (H:Sh hb prog w I hid ρ σ s.heap) (q:aA hb prog w I hid ρ s r Q) :
  wpAny (model prog w) A (eval (.JoinedStr [.Constant (.str a) k1 p1,.FormattedValue e0 (-1) none p2,.Constant (.str b) k2 p3] pos) env) Q E s:=by
 unfold yN at e;refine ab (fM e) λ hc e=>?_;refine aa e λ p e1 e=>?_;rw [Bool.and_eq_true] at hc;have l1:=Nat.le_of_ble_eq_true hc.1;have l2:=Nat.le_of_ble_eq_true hc.2;rw [yQ] at l1 l2;obtain ⟨pv,pσ⟩:=p;refine aa e λ x hx e=>?_;cases lZ hx
 ·refine ai e λ h3 e=>?_;induction e using sI;have l3:=Nat.le_of_ble_eq_true h3;have ll:∀ x y:Str,(x++y).length=x.length+y.length:=strLen_append;have dl:(den I x).length=x.length:=by
   show ((x.map (AC.den I)).toArray).size=_;simp
  refine JoinedStr_many (joinParts_cons (Calls.Constant_str ⟨?_,joinParts_cons (FormattedValue_plain (SE _ _ _ _ _ e1 _ _ _ _ _ _ _ R Y H λ ρ' h' tk gs v x1 H1 V1=>?_))⟩))
  ·rw [ll]; show (Str.empty:Str).length+_≤_;have:(Str.empty:Str).length=0:=rfl;unfold sizeLine; lia
  ·induction V1 using aG.casesOn;refine formatField_str (λ t' tk'=>⟨?_,joinParts_cons (Calls.Constant_str ⟨?_,joinParts_nil ?_ ?_⟩)⟩) (by rw [dl]; unfold sizeLine; exact Nat.le_trans (by assumption) (by decide))
   ·rw [ll,ll,dl];have:(Str.empty:Str).length=0:=rfl;unfold sizeLine; lia
   ·rw [ll,ll,ll,dl];have:(Str.empty:Str).length=0:=rfl;unfold sizeLine; lia
   ·have hs:(Str.empty++a++den I x++b:Str)=den I (fV a++(x++fV b)):=by
     obtain ⟨a⟩:=a;obtain ⟨b⟩:=b;unfold den fV;show (⟨#[]++a++(x.map (AC.den I)).toArray++b⟩:Str)=_;congr 1;simp [AC.den,Function.comp_def]
    rw [hs];exact q ρ' h' _ gs _ x1 H1 (.str _ _)
   ·rw [ll,ll,ll,dl];have:(Str.empty:Str).length=0:=rfl;unfold sizeLine; lia
theorem md (GO:cZ hb) (OK:cN hb prog w I k Φ) (SE:eN hb prog w I k ev) (ST:jy hb prog w I k ev):eN hb prog w I k ⟨jI Φ ev,stepT Φ ev⟩:=by
 intro N ae σ e r he A s hid ρ env Q E R Y H q;change (jI Φ ev N e).f ae σ=some r at he;cases h:Kh ev N e with
 | none=>exact n7 OK SE ST N ae σ _ r (by dsimp only [jI] at he; rwa [h] at he) A s hid ρ env Q E R Y H q
 | some b =>
 replace he:b.f ae σ=some r:=by dsimp only [jI] at he; rwa [h] at he
 induction e using Expr.casesOn with
 | ListComp elt gens scope p =>
  refine az h ?_; rintro g hg rfl;refine aj (By hg) ?_; rintro px rfl;rw [eval_ListComp];refine vt SE ST R he Y H λ ρ' h' tk gs C D xx H' Y' hns hC hCn V'=>?_;refine aj hns λ m hm=>?_; clear hns;refine ⟨m,hm,λ h2 hs=>?_⟩;refine ab (H'.drop (h':=h2) hC λ c o n e=>(hs.2 c n).trans e) λ H2 st=>?_;refine q ρ' h2 tk gs _ ⟨⟨xx.pre,λ b o e n m=>(hs.2 b λ q=>?_).trans (xx.keep b o e n m),xx.new⟩,xx.gb⟩ H2 (V'.tr ⟨[],by exact dS⟩ st)
  rw [q,hCn] at e; exact ac e
 | Lambda params body scope pos=>induction h using sI; exact vv GO he Y H q
 | JoinedStr vs p =>
  refine az h ?_; rintro g hg rfl;refine Ds (EG hg) ?_; rintro _ _ _ _ _ rfl;exact qM SE R he Y H q
 | _=>exact ac h
end
section
def vw (Pi Pv:lX V) (B:eJ (Fl×AE×List O)) (v:V) (n:Nat):Nat->AE->List O->Option (Fl×AE×List O)
 | 0,env,σ=>au (cB v σ) λ l=>aB (Nat.beq l.length n) (some (.next,env,σ)) none
 | r+1,env,σ=>au (cB v σ) λ l=>aB (Nat.beq l.length n) (au (aU l (n - (r+1))) λ y=>au (Pi.f env σ (.int ((n - (r+1):Nat):Int))) λ p1=>au (Pv.f p1.1 p1.2 y) λ p=>au (B.f p.1 p.2) λ q=>match q.1 with
  | .next=>vw Pi Pv B v n r q.2.1 q.2.2
  | .cont=>vw Pi Pv B v n r q.2.1 q.2.2
  | .brk=>some (.next,q.2)
  | .ret u=>some (.ret u,q.2)) none
def me (v:V):Bool:=kt false (λ T=>T == "enumerate") (au (yc v) Hm)
def tX (N:aq) (y:Str):Bool:=kt false (λ p=>p.2 == NameKind.cell) (dy N y)
def Ki (es:List Expr):Option (Str×Str):=by
 induction es using List.casesOn with
 | nil=>exact none
 | cons a r =>
 induction r using List.casesOn with
 | nil=>exact none
 | cons b r =>
 induction r using List.casesOn with
 | cons=>exact none
 | nil=>exact au (ww a) λ x=>bs (ww b) λ y=>(x,y)
def Kj (t:Expr):Option (Str×Str):=au (G8 t) Ki
def Kk (e:Expr):Option (Str×Expr):=by
 induction e using Expr.casesOn with
 | Call f args kws _=>exact au (ww f) λ g=>au (nR kws) λ _=>bs (ku args) λ a=>(g,a)
 | _=>exact none
noncomputable def Ht (e:Expr):Bool:=by
 induction e using Expr.casesOn with
 | ListComp=>exact true
 | _=>exact false
def Kl (Φ:eO) (ev:Ev) (X:eM) (N:aq) (st:Stmt):Option (eJ (Fl×AE×List O)):=by
 induction st using Stmt.casesOn with
 | For t iter body els _=>exact au (Kj t) λ x=>au (Kk iter) λ c=>aB els.isEmpty (some (aB (bT c.2) ⟨λ env σ=>au ((b9 Φ N c.1).f env σ) λ v=>aB (me v) (au ((ev.E N c.2).f env σ) λ p=>au (cB p.1 p.2) λ l=>vw (bX N x.1) (bX N x.2) (bY X N body) p.1 l.length l.length env p.2) none⟩ .no)) none
 | Assign ts value _=>exact aB (Ht value && ts.length == 1) (au ts.head? λ t=>bs (ww t) λ y=>aB (tX N y) ⟨λ env σ=>au ((ev.E N value).f env σ) λ p=>bs ((bX N y).f env p.2 p.1) λ q=>(.next,q)⟩ .no) none
 | _=>exact none
def mf (Φ:eO) (ev:Ev) (X:eM) (W:Nat) (N:aq) (st:Stmt):eJ (Fl×AE×List O):=kt (gw Φ ev X W N st) (λ b=>b) (Kl Φ ev X N st)
end
section
variable {hb:Heap} {prog:Program} {w:World} {I:aZ} {k:Nat} {Φ:eO} {ev:Ev} {X:eM} {hid hid' ρ ρ' ρ'':List Addr} {σ:List O} {A:Around} {s:Shared} {env:Env} {N:aq} {ae:AE} {E:Value->Shared->Prop} {h h' h'':Heap} {L:List Addr}
theorem qN {v:V} (h:me v=true):v=.val (.type "enumerate"):=by
 unfold me at h;cases e:au (yc v) Hm with
 | none=>rw [e] at h; exact aT h
 | some T =>
  rw [e] at h;refine aa e λ x e1 e2=>?_;rw [l0 e1,qC e2,show T = "enumerate" from beq_iff_eq.mp h]
theorem EH {es:List Expr} {q:Str×Str} (h:Ki es=some q):∃ p1 p2,es=[.Name q.1 p1,.Name q.2 p2]:=by
 induction es using List.casesOn with
 | nil=>exact ac h
 | cons a r =>
 induction r using List.casesOn with
 | nil=>exact ac h
 | cons b r =>
 induction r using List.casesOn with
 | cons=>exact ac h
 | nil =>
 refine ah λ G9 fin9=>?_;refine aa ((show au (ww a) (λ x=>bs (ww b) λ y=>(x,y))=some q from h)) λ x h2 h=>?_;refine az h ?_; rintro y h3 rfl;refine aj (eg h2) ?_; rintro _ rfl;refine aj (eg h3) ?_; rintro _ rfl;refine fin9 ?_; clear fin9 G9;exact ⟨_,_,rfl⟩
theorem EI {t:Expr} {q:Str×Str} (h:Kj t=some q):∃ p1 p2 c p,t=.Tuple [.Name q.1 p1,.Name q.2 p2] c p:=by
 refine aa h λ es h1 h=>?_;refine bE (Bh h1) ?_; rintro c p rfl;refine bE (EH h) ?_; rintro p1 p2 rfl;exact ⟨_,_,_,_,rfl⟩
theorem EJ {e:Expr} {q:Str×Expr} (h:Kk e=some q):∃ p1 p,e=.Call (.Name q.1 p1) [q.2] [] p:=by
 induction e using Expr.casesOn with
 | Call f args kws p =>
  refine ah λ G9 fin9=>?_;refine aa h λ g h1 h=>?_;refine aa h λ _ h2 h=>?_;refine az h λ a h3 h=>?_;refine aj (eg h1) λ p1 e1=>?_;refine fin9 ?_; clear fin9 G9;refine ⟨p1,p,?_⟩;rw [e1,ew h2,dh h3,<-h]
 | _=>exact ac h
theorem Bz {e:Expr} (h:Ht e=true):∃ elt gens scope p,e=.ListComp elt gens scope p:=by
 induction e using Expr.casesOn with
 | ListComp=>exact ⟨_,_,_,_,rfl⟩
 | _=>exact aT h
theorem Sh.hideL (H:Sh hb prog w I hid ρ σ h) {L:List Addr} (hJ:∀ a∈L,h.get? a=none) (kp:∀ b o,h.get? b=some o->h'.get? b=some o) (al:∀ a∈L,∃ o,h'.get? a=some o) :
  Sh hb prog w I (L++hid) ρ σ h'∧∀ a o,ay hid ρ h a o->ay (L++hid) ρ h' a o:=by
 have ne:∀ {a:Addr} {o:Obj},h.get? a=some o->a∉L:=λ e q=>by rw [hJ _ q] at e; exact ac e
 have st:∀ a o,ay hid ρ h a o->ay (L++hid) ρ h' a o:=λ a o q=>⟨kp _ _ q.1,λ m=>by
  rcases List.mem_append.mp m with e | m
  ·exact ne q.1 e
  ·exact q.2.1 m,q.2.2⟩
 refine ⟨⟨H.sm,λ b o e=>kp _ _ (H.base b o e),H.nd,H.len,λ a m=>⟨(H.off a m).1,λ q=>?_,?_⟩,λ a m=>?_,λ i o e=>?_⟩,st⟩
 ·rcases List.mem_append.mp q with q | q
  ·refine aj ((H.off _ m).2.2) λ o e=>?_;exact ne e q
  ·exact (H.off a m).2.1 q
 ·refine aj ((H.off a m).2.2) λ o e=>?_;exact ⟨o,kp _ _ e⟩
 ·rcases List.mem_append.mp m with q | m
  ·refine ⟨?_,al a q⟩;cases q':hb.get? a with
   | none=>rfl
   | some o=>have:=H.base _ _ q'; rw [hJ _ q] at this; exact ac this
  ·refine aj ((H.offH a m).2) λ o e=>?_;exact ⟨(H.offH a m).1,o,kp _ _ e⟩
 ·refine ak (H.ob i o e) λ a b' e1 e2 e3=>?_;exact ⟨a,b',e1,kp _ _ e2,e3.tr ⟨[],by exact dS⟩ st⟩
theorem Sh.dropL (H:Sh hb prog w I (L++hid) ρ σ h) (hn:∀ a∈L,a∉hid) (k:∀ b o,b∉L->h.get? b=some o->h'.get? b=some o) :
  Sh hb prog w I hid ρ σ h'∧∀ a o,ay (L++hid) ρ h a o->ay hid ρ h' a o:=by
 have st:∀ a o,ay (L++hid) ρ h a o->ay hid ρ h' a o:=λ a o q=>⟨k a o (λ e=>q.2.1 (List.mem_append_left _ e)) q.1,λ m=>q.2.1 (List.mem_append_right _ m),q.2.2⟩;have nr:∀ a∈ρ,a∉L:=λ a m e=>(H.off a m).2.1 (List.mem_append_left _ e);refine ⟨⟨H.sm,λ b o e=>k b o (λ q=>by have:=(H.offH b (List.mem_append_left _ q)).1; rw [e] at this; cases this) (H.base b o e),H.nd,H.len,λ a m=>⟨(H.off a m).1,λ q=>(H.off a m).2.1 (List.mem_append_right _ q),?_⟩,λ a m=>⟨(H.offH a (List.mem_append_right _ m)).1,?_⟩,λ i o e=>?_⟩,st⟩
 ·refine aj ((H.off a m).2.2) λ o e=>?_;exact ⟨o,k a o (nr a m) e⟩
 ·refine aj ((H.offH a (List.mem_append_right _ m)).2) λ o e=>?_;exact ⟨o,k a o (λ q=>hn a q m) e⟩
 ·refine ak (H.ob i o e) λ a b e1 e2 e3=>?_;exact ⟨a,b,e1,k _ _ (nr a (List.mem_of_getElem? e1)) e2,e3.tr ⟨[],by exact dS⟩ st⟩
inductive tY (hb:Heap) (prog:Program) (w:World) (I:aZ) (N:aq) (env:Env) (hid ρ:List Addr) (s:Shared) (e' J a:Addr) (h0:Heap) (v:V) (len:Nat) (F:Nat->AE->List O->Option (Fl×AE×List O)) (r:Fl×AE×List O) (n:Nat) (s':Shared):Prop
 | mk (i:Nat) (ae':AE) (σ':List O) (ρ':List Addr) (h':Heap) (tk:Nat) (gs:Array GenState) (old:Value) (e:s'={ s with heap:=h',toks:=tk,gens:=gs }) (x:aI I [e',J,env.locals] ρ ρ' h0 s.gens h' gs)
  (H:Sh hb prog w I ([e',J]++hid) ρ' σ' h') (Y:ao I N env ae' ([e',J]++hid) ρ' h') (V:VR I (ay ([e',J]++hid) ρ' h') ρ' v (.ref a)) (ie:IsEnum h' e' J (i:Int) old) (it:h'.IsListIter J a i) (hi:i+n=len) (e1:F n ae' σ'=some r):tY hb prog w I N env hid ρ s e' J a h0 v len F r n s'
theorem vx (SX:dQ hb prog w I k X) (R:aC A k) {xi xv:Str} {pi pv pt:Pos} {x1:Nat} {body:List Stmt} {v:V} {l:List V} {r:Fl×AE×List O} {Q:Flow->Shared->Prop} {a J e':Addr} {h0:Heap}
  (e:vw (bX N xi) (bX N xv) (bY X N body) v l.length l.length ae σ=some r) (Y:ao I N env ae hid ρ s.heap) (H:Sh hb prog w I hid ρ σ s.heap) (Vy:VR I (ay hid ρ s.heap) ρ v (.ref a))
  (q:bC hb prog w I N hid ρ s env r Q) (hk0:∀ (b:Addr) (o:Obj),s.heap.get? b=some o->h0.get? b=some o) (hit0:h0.IsListIter J a 0) (hJn:s.heap.get? J=none) (hJH:J∉hid)
  (he0:IsEnum h0 e' J 0 .none) (hen:s.heap.get? e'=none) (heH:e'∉hid) (hne0:e'≠J) :
  wpAny (model prog w) A (pyIter (.ref e')) (λ it s₂=>codeAny (model prog w) A (.forLoop (.Tuple [.Name xi pi,.Name xv pv] x1 pt) it body [] env) (λ r s'=>match r with | .ok f=>Q f s' | .error e=>cameBackBy (model prog w) A env E e s') s₂) E { s with heap:=h0 }:=by
 refine ag (id hit0) λ oj hoj _=>?_;refine ab (H.hideL (L:=[e',J]) (h':=h0) (kn hen hJn) hk0 (kn ⟨_,he0⟩ ⟨_,hoj⟩)) λ H0 st0=>?_;have hJm:J∈[e',J]++hid:=by exact Kp
 have hem:e'∈[e',J]++hid:=by exact Ko
 have Y0:ao I N env ae ([e',J]++hid) ρ h0:=Y.to (List.mem_append_right _ Y.hidL) ⟨[],by exact dS⟩ st0 (λ o q=>hk0 _ o q)
 have hJL:J≠env.locals:=λ q'=>hJH (q'▸Y.hidL);have heL:e'≠env.locals:=λ q'=>heH (q'▸Y.hidL);have V0:VR I (ay ([e',J]++hid) ρ h0) ρ v (.ref a):=Vy.tr ⟨[],by exact dS⟩ st0
 refine wpAny_pyIter_enum he0 ?_;have bk:∀ {r' h' g'},aI I [e',J,env.locals] ρ r' h0 s.gens h' g'->aI I [env.locals] ρ r' s.heap s.gens h' g':=λ {r' h' g'} x1 =>
  ⟨⟨x1.pre,λ c o q n m=>x1.keep c o (hk0 _ _ q) n (λ q'=>by
   replace q':=El q';rcases q' with q' | q' | q'
   ·rw [q',hen] at q; exact ac q
   ·rw [q',hJn] at q; exact ac q
   ·exact m (by rw [q']; exact List.mem_singleton.mpr rfl)),λ a m n=>by
   have z:=x1.new a m n;cases q':s.heap.get? a with
   | none=>rfl
   | some o=>rw [hk0 _ _ q'] at z; cases z⟩,x1.gb⟩
 refine codeAny_forLoop_any (tY hb prog w I N env hid ρ s e' J a h0 v l.length (vw (bX N xi) (bX N xv) (bY X N body) v l.length) r) ?_ l.length
  ⟨0,ae,σ,ρ,h0,s.toks,s.gens,.none,rfl,aI.refl _ _ _ _,H0,Y0,V0,he0,hit0,Nat.zero_add _,e⟩
 rintro n s' ⟨i,ae',σ',ρ',h1,tk1,gs1,old,rfl,xe1,H1,Y1,V1,ie1,it1,hi,e1⟩;have hm2:∀ a∈[e',J,env.locals],a∈[e',J]++hid:=qu hem hJm (List.mem_append_right _ Y.hidL);have al:∀ {ρ2:List Addr} {h2:Heap} {σ2:List O},Sh hb prog w I ([e',J]++hid) ρ2 σ2 h2->∀ a∈[e',J,env.locals],∃ o,h2.get? a=some o:=λ H2 a m=>(H2.offH a (hm2 a m)).2;have hnL:∀ a∈[e',J],a∉hid:=kn heH hJH;have nloc:env.locals∉[e',J]:=λ m=>by
  rcases List.mem_cons.mp m with q' | q'
  ·exact heL q'.symm
  ·exact hJL (List.mem_singleton.mp q').symm
 induction n using Nat.casesOn with
 | zero =>
  refine ah λ G9 fin9=>?_;refine aa e1 λ l' g1 g2=>?_;refine ai g2 λ g3 g4=>?_;induction g4 using sI;have hl':=Nat.eq_of_beq_eq_true g3;refine ak (dM g1 H1 V1) λ a' items ea hl1 W1=>?_;cases ea;refine fin9 ?_; clear fin9 G9;refine wpAny_pyNext_enum_end R.hh ie1 it1 hl1 (by rw [Array.getElem?_eq_none_iff,W1.size]; simp_all) λ h2 hs=>?_
  refine wpAny_execs_nil ?_;have kp2:∀ b o,b∉[e',J]->h1.get? b=some o->h2.get? b=some o:=λ b o n q'=>hs b o (λ q=>n (by rw [q]; exact ni)) q'
  refine ab (H1.dropL hnL kp2) λ H2 st2=>?_;have x2:aI I [e',J,env.locals] ρ ρ' h0 s.gens h2 gs1:=⟨⟨xe1.pre,λ c o q n m=>hs c o (λ q'=>m (by rw [q']; exact ni)) (xe1.keep c o q n m),xe1.new⟩,xe1.gb⟩
  exact q ρ' h2 tk1 gs1 .next (bk x2) H2 (Y1.to Y.hidL ⟨[],by exact dS⟩ st2 λ o q'=>kp2 _ o nloc q') .next
 | succ n =>
  refine ah λ G9 fin9=>?_;refine aa e1 λ l' g1 g2=>?_;refine ai g2 λ g3 g4=>?_;refine aa g4 λ u g5 g6=>?_;refine aa g6 λ p1 g7 g6=>?_;refine aa g6 λ p g7' g8=>?_;refine aa g8 λ p2 g9 g10=>?_;have hi':l.length - (n+1)=i:=by rw [<-hi,Nat.add_sub_cancel]
  rw [hi',aE] at g5;rw [hi'] at g7;refine ak (dM g1 H1 V1) λ a' items ea hl1 W1=>?_;cases ea;refine ag (W1.get g5) λ z hz Vz=>?_;refine fin9 ?_; clear fin9 G9;refine wpAny_pyNext_enum_item ie1 it1 hl1 (x:=z) (by rw [<-Array.getElem?_toList]; exact hz) hne0 λ h2 heo hit2 ht2 hz2 hk2=>?_
  refine wpAny_letOwnedTupleGo_enum heo λ h3 he3 hs3=>?_;dsimp only at heo hit2 ht2 hz2 hk2 hs3;have he1:e' < h1.objs.size:=Heap.lt_size ie1;refine ag (id it1) λ oj1 hoj1 _=>?_;have hJ1:J < h1.objs.size:=Heap.lt_size hoj1;have ht3:h3.IsTuple h1.objs.size #[.int i tk1,z]:=⟨_,(hs3.2 _ (Nat.ne_of_gt he1)).trans ht2,rfl,_,rfl⟩;have hz3:h3.objs.size=h1.objs.size+1:=hs3.1.trans hz2;refine wpAny_assign_Tuple R.hh ht3 rfl rfl λ h4 hx4=>?_;dsimp only at hx4;have hit3:h3.IsListIter J a (i+1):=hit2.at λ o q'=>(hs3.2 _ hne0.symm).trans q';have hit4:h4.IsListIter J a (i+1):=hit3.at λ o q'=>hx4 _ o (by rw [hz3]; exact Nat.ne_of_lt (Nat.lt_succ_of_lt hJ1)) q'
  have ie4:IsEnum h4 e' J ((i+1:Nat):Int) z:=by
   have:=hx4 _ _ (by rw [hz3]; exact Nat.ne_of_lt (Nat.lt_succ_of_lt he1)) he3
   have e5:((i+1:Nat):Int)=(i:Int)+1:=by push_cast; rfl
   rw [e5]; exact this
  have kp4:∀ b o,h1.get? b=some o->b∉[e',J]->h4.get? b=some o:=λ b o q' n=>by
   have n1:b≠e':=λ q=>n (by rw [q]; exact kR)
   have n2:b≠J:=λ q=>n (by rw [q]; exact ni)
   exact hx4 b o (by rw [hz3]; exact Nat.ne_of_lt (Nat.lt_succ_of_lt (Heap.lt_size q'))) ((hs3.2 b n1).trans (hk2 b o n1 n2 q'))
  have mv4:∀ a∈[e',J],a∈[e',J]++hid:=λ a m=>List.mem_append_left _ m;refine ag (id hit4) λ oj4 hoj4 _=>?_;refine ab (H1.move mv4 (kn ⟨_,ie4⟩ ⟨_,hoj4⟩) kp4) λ x4 H4=>?_;have st4:=x4.stb mv4;have Y4:ao I N env ae' ([e',J]++hid) ρ' h4:=Y1.turnL mv4 nloc kp4;have V4:=V1.tr x4.pre st4;have w3:∀ {mv r2 r3 h2 g2 h3 g3},(∀ a∈mv,a∈[e',J,env.locals])->aI I mv r2 r3 h2 g2 h3 g3->aI I [e',J,env.locals] r2 r3 h2 g2 h3 g3:=λ hm x=>⟨⟨x.pre,λ c o e n m=>x.keep c o e n (λ q'=>m (hm c q')),x.new⟩,x.gb⟩;have wEJ:∀ a∈[e',J],a∈[e',J,env.locals]:=kn (by exact kR) (by exact ni)
  have wL:∀ a∈[env.locals],a∈[e',J,env.locals]:=by simp
  have x14:=xe1.trans (w3 wEJ x4.g) (al H1);have kL:∀ {ρ3 ρ4 h3 h4 σ3},Sh hb prog w I ([e',J]++hid) ρ3 σ3 h3->Ext [env.locals] ρ3 ρ4 h3 h4->∀ c∈[e',J],∀ o,h3.get? c=some o->h4.get? c=some o:=λ H3 x4 c hc o e=>x4.keep c o e (λ m=>(H3.off c m).2.1 (mv4 c hc)) (λ m=>nloc (by rw [<-List.mem_singleton.mp m]; exact hc))
  show wpAny _ A (do holding [z] (assign (.Name xi pi) env (.int i tk1)); do holding [] (assign (.Name xv pv) env z); pure ()) _ _ _
  refine wpAny_bind (wpAny_holding (wpAny_assign_Name (bJ (s:={ s with heap:=h4,toks:=tk1+1,gens:=gs1 }) g7 Y4 H4 (.int _ _) λ ρ5 h5 tk5 gs5 x5 H5 Y5=>?_)))
  have V5:=V4.tr x5.pre (x5.stb Y4.sub);have Vz5:=(Vz.tr x4.pre st4).tr x5.pre (x5.stb Y4.sub);have x15:=x14.trans (w3 wL x5) (al H4);refine wpAny_bind (wpAny_holding (wpAny_assign_Name (bJ (s:={ s with heap:=h5,toks:=tk5,gens:=gs5 }) g7' Y5 H5 Vz5 λ ρ6 h6 tk6 gs6 x6 H6 Y6=>wpAny_pure ?_)))
  have V6:=V5.tr x6.pre (x6.stb Y5.sub);have x16:=x15.trans (w3 wL x6) (al H5);have ie6:IsEnum h6 e' J ((i+1:Nat):Int) z:=kL H5 x6.toExt _ (by exact kR) _ (kL H4 x5.toExt _ (by exact kR) _ ie4)
  have it6:h6.IsListIter J a (i+1):=hit4.at λ o q'=>kL H5 x6.toExt _ (by exact ni) _ (kL H4 x5.toExt _ (by exact ni) _ q')
  refine bi SX R g9 Y6 H6 λ ρ7 h7 tk7 gs7 fl x7 H7 Y7 F7=>?_;have x17:=x16.trans (w3 wL x7) (al H6);have V7:=V6.tr x7.pre (x7.stb Y6.sub);have ie7:IsEnum h7 e' J ((i+1:Nat):Int) z:=kL H6 x7.toExt _ (by exact kR) _ ie6
  have it7:h7.IsListIter J a (i+1):=it6.at λ o q'=>kL H6 x7.toExt _ (by exact ni) _ q'
  have out:∀ f fl',vn I (ay ([e',J]++hid) ρ7 h7) ρ7 f fl'->r=(f,p2.2)->Q fl' { s with heap:=h7,toks:=tk7,gens:=gs7 }:=λ f fl' F' hr=>by
   refine ab (H7.dropL (h':=h7) hnL λ c o n e=>e) λ H8 st8=>?_;refine q ρ7 h7 tk7 gs7 fl' (bk x17) (by rw [hr]; exact H8) (by rw [hr]; exact Y7.to Y.hidL ⟨[],by exact dS⟩ st8 λ o e=>e) ?_
   rw [hr];induction F' using vn.casesOn with
   | next=>exact .next
   | brk=>exact .brk
   | cont=>exact .cont
   | ret V=>exact .ret (V.tr ⟨[],by exact dS⟩ st8)
  obtain ⟨f,ae5,σ5⟩:=p2;cases F7 with
  | next=>exact ⟨n,Nat.lt_succ_self n,i+1,ae5,σ5,ρ7,h7,tk7,gs7,z,rfl,x17,H7,Y7,V7,ie7,it7,by lia,g10⟩
  | cont=>exact ⟨n,Nat.lt_succ_self n,i+1,ae5,σ5,ρ7,h7,tk7,gs7,z,rfl,x17,H7,Y7,V7,ie7,it7,by lia,g10⟩
  | brk=>induction g10 using sI; exact out _ _ .next rfl
  | ret V=>induction g10 using sI; exact out _ _ (.ret V) rfl
theorem qO (SX:dQ hb prog w I k X) (R:aC A k) {xi xv:Str} {pi pv pt:Pos} {x1:Nat} {body:List Stmt} {v:V} {y:Value} {l:List V} {r:Fl×AE×List O} {Q:Flow->Shared->Prop}
  (el:cB v σ=some l) (e:vw (bX N xi) (bX N xv) (bY X N body) v l.length l.length ae σ=some r) (Y:ao I N env ae hid ρ s.heap) (H:Sh hb prog w I hid ρ σ s.heap) (Vy:VR I (ay hid ρ s.heap) ρ v y)
  (q:bC hb prog w I N hid ρ s env r Q) :
  wpAny (model prog w) A (call (.type "enumerate") [y]) (λ xval s₁=>wpAny (model prog w) A (pyIter xval) (λ it s₂=>codeAny (model prog w) A (.forLoop (.Tuple [.Name xi pi,.Name xv pv] x1 pt) it body [] env) (λ r s'=>match r with | .ok f=>Q f s' | .error e=>cameBackBy (model prog w) A env E e s') s₂) E s₁) E s:=by
 refine ak (dM el H Vy) ?_; rintro a items0 rfl hl0 W0;refine call_enumerate_list hl0 λ h0 he0 hit0 _ hk0=>?_;have hen:s.heap.get? (s.heap.objs.size+1)=none:=Heap.get?_none_of_le (Nat.le_succ _);exact vx SX R e Y H Vy q hk0 hit0 (bh s.heap) H.nextH he0 hen (λ m=>by refine aj ((H.offH _ m).2) λ o q=>?_; rw [hen] at q; exact ac q) (Nat.succ_ne_self _)
theorem mh (OK:cN hb prog w I k Φ) (SE:eN hb prog w I k ev) (ST:jy hb prog w I k ev) (SX:dQ hb prog w I k X) (W:Nat):dQ hb prog w I k (mf Φ ev X W):=by
 intro N ae σ st r e A s hid ρ env Q E R Y H q;cases h:Kl Φ ev X N st with
 | none=>exact ou OK SE ST SX W N ae σ _ r (by dsimp only [mf] at e; rwa [h] at e) A s hid ρ env Q E R Y H q
 | some b =>
 replace e:b.f ae σ=some r:=by dsimp only [mf] at e; rwa [h] at e
 induction st using Stmt.casesOn with
 | For t iter body els pos =>
  refine aa h λ j00 h1 h=>?_; obtain ⟨xi,xv⟩:=j00;refine aa h λ j00 h2 h=>?_; obtain ⟨f,arg⟩:=j00;refine ai h λ h3 h=>?_;refine tB (EI h1) ?_; rintro pi pv x1 pt rfl;refine bE (EJ h2) ?_; rintro pf pc rfl;cases List.isEmpty_iff.mp h3;refine ah λ G9 fin9=>?_;induction h using sI;refine ab (fM e) λ hs e=>?_;refine aa e λ v e1 e=>?_;refine ai e λ e2 e=>?_;refine aa e λ p e3 e=>?_;refine aa e λ l e4 e9=>?_;have:=qN e2;subst this;refine fin9 ?_; clear fin9 G9;refine wpAny_For ?_ (l9 rfl env);have he:eval (.Call (.Name f pf) [arg] [] pc) env=(do callWith pc (<-eval (.Name f pf) env) [] (backTo pc (starEach [arg] env)) (backToKw pc (keywordEach [] env))):=rfl
  rw [he];refine wpAny_bind (bI OK e1 Y H λ ρ1 h1 tk1 gs1 fx xe1 H1 V1=>?_);induction V1 using aK.casesOn;have hst:([arg]:List Expr).all bT=true:=by simp [hs]
  show wpAny (model prog w) A (callWith pc (.type "enumerate") [] (backTo pc (starEach [arg] env)) []) _ _ _;have h3:(tL ev N [arg]).f ae σ=some ([p.1],p.2):=by
   show (aB (bT arg) (⟨λ env σ=>au ((ev.E N arg).f env σ) λ p=>au ((tL ev N []).f env p.2) λ q=>some (p.1::q.1,q.2)⟩:eJ _) .no).f ae σ=_;rw [hs];show (au ((ev.E N arg).f ae σ) λ p=>au ((tL ev N []).f ae p.2) λ q=>some (p.1::q.1,q.2))=_;rw [e3]; rfl
  refine bq (bH hst) (br hst (cG SE R h3 (Y.ext H xe1) H1 λ ρ2 h2 tk2 gs2 xs xe2 H2 V2=>⟨⟨.machine,Looks.of_pure rfl⟩,?_⟩));induction V2 using aD.casesOn with
  | cons Vy Vn =>
  induction Vn using bQ.casesOn;have Y2:=(Y.ext H xe1.toExt).ext H1 xe2.toExt;exact qO (s:={ s with heap:=h2,toks:=tk2,gens:=gs2 }) SX R e4 e9 Y2 H2 Vy (q.later (tk:=tk2) (gs:=gs2) (xe1.trans0 xe2).wk Y2)
 | Assign ts value spos =>
  refine ai h λ h0 h=>?_;refine aa h λ t h1 h=>?_;refine az h ?_; rintro y h2 rfl;refine ab (Bool.and_eq_true_iff.mp h0) λ h3 h4=>?_;refine tB (Bz h3) ?_; rintro elt gens scope cpos rfl;refine aj (eg h2) ?_; rintro py rfl;induction ts using List.casesOn with
  | nil=>exact ac h1
  | cons t0 r =>
  induction r using List.casesOn with
  | cons=>exact aT h4
  | nil =>
  refine ah λ G9 fin9=>?_
  (have j9:=Option.some.inj h1; clear h1; subst j9)
  refine ab (fM e) λ hc e=>?_;refine aa e λ p e1 e=>?_;refine az e ?_; rintro p2 e2 rfl;have hk:(env.kindOf y == some NameKind.local)=false:=by
   unfold tX at hc;cases hp:dy N y with
   | none=>rw [hp] at hc; exact aT hc
   | some pk =>
    rw [hp] at hc;obtain ⟨i,kd⟩:=pk;cases (eq_of_beq (show (kd == NameKind.cell)=true from hc));have:=dz hp;have e5:env.kindOf y=N.lookup y:=by unfold Env.kindOf; rw [Y.names]
    rw [e5,this]; rfl
  have sw:swapsWith (.ListComp elt gens scope cpos) (some (.Name y py)) spos.line env=pure false:=by
   unfold swapsWith;simp only [hk,Bool.and_false,Bool.false_and]
  refine fin9 ?_; clear fin9 G9;rw [exec_Assign_arm];refine wpAny_bind (wpAny_standAt ?_);show wpAny _ _ (swapsWith (.ListComp elt gens scope cpos) (some (.Name y py)) spos.line env >>= _) _ _ _;rw [sw];refine wpAny_bind (wpAny_pure ?_);rw [if_neg (by decide)]
  refine wpAny_bind (SE _ _ _ _ _ e1 _ _ _ _ _ _ _ R Y H λ ρ1 h1 tk1 gs1 x x1 H1 V1=>?_);refine wpAny_bind (wpAny_pure ?_);show wpAny _ A (do assignAll x ((assignEach [.Name y py] env).map (·.2)); pure .next) Q E _
  rw [e8 rfl];refine wpAny_bind ?_;show wpAny _ _ (assign (.Name y py) env x) _ _ _;rw [arm_assign_Name];exact wpAny_bind (wpAny_standAt (wpAny_bindName (bJ (s:={ s with heap:=h1,toks:=tk1,gens:=gs1 }) e2 (Y.ext H x1) H1 V1 λ ρ2 h2 tk2 gs2 x2 H2 Y2=>wpAny_pure ((q.later (tk:=tk1) (gs:=gs1) x1.wk (Y.ext H x1)) ρ2 h2 tk2 gs2 .next x2 H2 Y2 .next))))
 | _=>exact ac h
end
end
end Mine
end
section
open PySem PySem.W PySem.Spec PySem.Calls PyProof.Rows
namespace Mine
noncomputable section
section
noncomputable def Kr:Ev:=⟨λ _ _=>.no,λ _ _=>.no⟩
def k8 (Φ:eO) (n:Nat):Ev:=Nat.rec Kr (λ _ ih=>⟨jI Φ ih,stepT Φ ih⟩) n
def qP (Φ:eO) (W:Nat) (n:Nat):eM:=Nat.rec (λ _ _=>.no) (λ n ih=>mf Φ (k8 Φ n) ih W) n
structure i7 where
 body:List Stmt
 names:aq
 ps:List Str
 ds:List V
def bx (ps:List Str) (x:Str) (n:Nat):Option Nat:=match ps with
 | []=>none
 | p::r=>aB (x == p) (some n) (bx r x (Nat.succ n))
def plan (N:aq) (ps:List Str):List (Option Nat):=N.map λ p=>bx ps p.1 0
def aX (vs:List V) (o:Option Nat):Option V:=au o λ i=>aU vs i
def dU (fi:i7) (args:List V):Option F :=
 aB (Nat.ble args.length fi.ps.length && Nat.ble fi.ps.length (args.length+fi.ds.length)) (some (F.of ((plan fi.names fi.ps).map (aX (args++fi.ds.drop (fi.ds.length+args.length - fi.ps.length)))))) none
def cP (X:eM) (fi:i7) (args:List V) (σ:List O):Option (V×List O) :=
 au (dU fi args) λ loc=>au ((bY X fi.names fi.body).f ⟨loc,[],none⟩ σ) λ p=>match p.1 with
  | .ret v=>some (v,p.2.2)
  | .next=>some (.none,p.2.2)
  | _=>none
end
section
variable (hb:Heap) (prog:Program) (w:World) (I:aZ)
def dR (k:Nat) (σ:List O) (f:Addr) (args:List V) (r:V×List O):Prop :=
 ∀ A s hid ρ xs (RR:Result->Shared->Prop),aC A k->Sh hb prog w I hid ρ σ s.heap->VRs I (ay hid ρ s.heap) ρ args xs->aA hb prog w I hid ρ s r (λ v s'=>RR (.ok (.ret v)) s')->codeAny (model prog w) A (.call (.ref f) ⟨xs,[]⟩) RR s
structure bK (f:Addr) (fi:i7):Prop where
 at_:∃ o fd,hb.get? f=some o∧o.data=.func fd∧fd.body=.stmts fi.body∧fd.scope.names=fi.names∧fd.globals=mainGlobals∧fd.closure=[]∧fd.builtins=builtinsNs∧fd.scope.kind=.function ∧
  fd.scope.isCoroutine=false∧fd.scope.isGenerator=false∧hb.CodeRec fd.code fd.qualname ∧
  ∀ (s:Shared) (xs:List Value),(∀ b o,hb.get? b=some o->s.heap.get? b=some o)->xs.length≤fi.ps.length->fi.ps.length≤xs.length+fi.ds.length ->
   ∃ dv:List Value,(∀ S ρ,VRs I S ρ fi.ds dv)∧BindsTo s fd ⟨xs,[]⟩ (fi.ps.zip (xs++dv.drop (dv.length+xs.length - fi.ps.length)))
 loc:∀ p∈fi.ps,fi.names.lookup p=some .local
 psn:fi.ps.Nodup
 nocell:∀ x∈fi.names,x.2≠.cell
end
section
variable {hb:Heap} {prog:Program} {w:World} {I:aZ} {k:Nat} {Φ:eO} {ev:Ev} {X:eM} {hid ρ ρ' ρ'':List Addr} {σ:List O} {A:Around} {s:Shared} {env:Env} {N:aq} {ae:AE} {E:Value->Shared->Prop} {h h' h'':Heap}
theorem bl (GO:cZ hb) (OK:cN hb prog w I k Φ):∀ n,eN hb prog w I k (k8 Φ n)∧jy hb prog w I k (k8 Φ n)
 | 0=>⟨λ _ _ _ _ _ e=>(nomatch (show none=some _ from e)),λ _ _ _ _ _ e=>(nomatch (show none=some _ from e))⟩
 | n+1=>⟨md GO OK (bl GO OK n).1 (bl GO OK n).2,n9 OK (bl GO OK n).1 (bl GO OK n).2⟩
theorem aY (GO:cZ hb) (OK:cN hb prog w I k Φ) (W:Nat):∀ n,dQ hb prog w I k (qP Φ W n)
 | 0=>λ _ _ _ _ _ e=>(nomatch (show none=some _ from e))
 | n+1=>mh OK (bl GO OK n).1 (bl GO OK n).2 (aY GO OK W n) W
inductive iQ (I:aZ) (S:Addr->Obj->Prop) (ρ:List Addr):List (Str×V)->List (Str×Value)->Prop
 | nil:iQ I S ρ [] []
 | cons {x:Str} {v:V} {y:Value} {l:List (Str×V)} {r:List (Str×Value)}:VR I S ρ v y->iQ I S ρ l r->iQ I S ρ ((x,v)::l) ((x,y)::r)
theorem iQ.zip {S:Addr->Obj->Prop}:∀ {ps:List Str} {vs:List V} {xs:List Value},VRs I S ρ vs xs->iQ I S ρ (ps.zip vs) (ps.zip xs)
 | [],_,_,_=>.nil
 | _::_,[],_,W=>by induction W using bQ.casesOn; exact .nil
 | _::_,_::_,_,W=>by induction W using aD.casesOn with | cons a b=>exact .cons a (iQ.zip b)
theorem iQ.app {S:Addr->Obj->Prop}:∀ {l l':List (Str×V)} {r r':List (Str×Value)},iQ I S ρ l r->iQ I S ρ l' r'->iQ I S ρ (l++l') (r++r'):=by
 intro l l' r r' h k;induction h with
 | nil=>exact k
 | cons a _ ih=>exact .cons a ih
theorem iQ.rev {S:Addr->Obj->Prop}:∀ {l:List (Str×V)} {r:List (Str×Value)},iQ I S ρ l r->iQ I S ρ l.reverse r.reverse:=by
 intro l r h;induction h with
 | nil=>exact .nil
 | cons a _ ih=>rw [List.reverse_cons,List.reverse_cons]; exact ih.app (.cons a .nil)
theorem iQ.look {S:Addr->Obj->Prop} {x:Str} {v:V}:∀ {l:List (Str×V)} {r:List (Str×Value)},iQ I S ρ l r->l.lookup x=some v->∃ y,r.lookup x=some y∧VR I S ρ v y:=by
 intro l r h;induction h with
 | nil=>intro h; exact ac h
 | @cons z _ _ _ _ a _ ih =>
  intro h;rw [List.lookup_cons] at h ⊢;cases q:x == z with
  | true=>rw [q] at h; induction h using sI; exact ⟨_,rfl,a⟩
  | false=>rw [q] at h; exact ih h
theorem aC.deeper (R:aC A (k+1)) (env:Env):aC (A.deeper env) k :=
 ⟨R.hh,by have:=R.d; show A.depth+1+k < 1000; lia,by have:=R.u; show A.units+3+8 * k < 9900; lia⟩
theorem eA:∀ {ps:List Str} {x:Str} {n j:Nat},bx ps x n=some j->∃ i,j=n+i∧ps[i]?=some x:=by
 intro ps;induction ps with
 | nil =>
  intro _ _ _ h;exact ac h
 | cons p r ih =>
  intro x n j h;unfold bx at h;cases q:x == p with
  | true=>rw [q] at h; induction h using sI; exact ⟨0,rfl,by rw [beq_iff_eq.mp q]; rfl⟩
  | false =>
   rw [q] at h;refine ag (ih h) λ i h1 h2=>?_;exact ⟨i+1,by simp +arith [*],h2⟩
theorem jJ {α:Type}:∀ {l:List (Str×α)} {x:Str} {v:α},(l.map (·.1)).Nodup->(x,v)∈l->l.lookup x=some v:=by
 intro l;induction l with
 | nil=>intro x v _ hm; cases hm
 | cons p9 l ih =>
  obtain ⟨y,u⟩:=p9;intro x v hn hm;rw [List.map_cons,List.nodup_cons] at hn;rw [List.lookup_cons];rcases List.mem_cons.mp hm with e | m
  ·cases e; simp
  ·have hne:(x == y)=false:=beq_eq_false_iff_ne.mpr λ q=>hn.1 (q▸List.mem_map.mpr ⟨_,m,rfl⟩);rw [hne]; exact ih hn.2 m
theorem t7 {α:Type}:∀ (ps:List Str) (vs:List α),((ps.zip vs).map (·.1)).Sublist ps
 | [],_=>by simp
 | _::_,[]=>by simp
 | p::ps,v::vs=>by simpa using t7 ps vs
theorem jK {α:Type} {ps:List Str} {vs:List α} {j:Nat} {x:Str} {v:α} (hn:ps.Nodup) (h1:ps[j]?=some x) (h2:vs[j]?=some v):(ps.zip vs).reverse.lookup x=some v:=by
 refine jJ ?_ ?_
 ·rw [List.map_reverse]; refine (List.reverse_perm _).nodup_iff.mpr ?_;exact hn.sublist (t7 ps vs)
 ·rw [List.mem_reverse];refine List.mem_of_getElem? (i:=j) ?_;rw [List.getElem?_zip_eq_some];exact ⟨h1,h2⟩
theorem mi {fi:i7} {vs:List V} {x:Str} {i:Nat} {kd:NameKind} {v:V} (hn:fi.ps.Nodup) (hp:dy fi.names x=some (i,kd)) (h:F.get i (F.of ((plan fi.names fi.ps).map (aX vs)))=some v):(fi.ps.zip vs).reverse.lookup x=some v:=by
 refine ah λ G9 fin9=>?_;have h:=F.get_of _ _ h;obtain ⟨_,j,e1,e2⟩:=bn hp;have:i=j:=by simpa using e1
 subst this;unfold plan at h;rw [List.map_map,List.getElem?_map,e2] at h;have h:aX vs (bx fi.ps x 0)=some v:=Option.some.inj h;refine aa h λ m h1 h2=>?_;refine ag (eA h1) λ m' h3 h4=>?_;have:m=m':=by simp [*]
 subst this;rw [aE] at h2;refine fin9 ?_; clear fin9 G9;exact jK hn h4 h2
theorem cr {f:Addr} {fi:i7} (FO:bK hb I f fi) (NL:hb.NoLimit) (SX:dQ hb prog w I k X) {args:List V} {r:V×List O} (e:cP X fi args σ=some r):dR hb prog w I (k+1) σ f args r:=by
 intro A s hid ρ xs RR R H Vs q
 ·refine aa e λ loc e1 e=>?_;refine ah λ G9 fin9=>?_;refine aa e λ p e2 e=>?_;unfold dU at e1;refine ai e1 λ hc e1=>?_;induction e1 using sI;rw [Bool.and_eq_true] at hc;have c1:=Nat.le_of_ble_eq_true hc.1;have c2:=Nat.le_of_ble_eq_true hc.2;refine qt FO.at_ λ o fd g1 g2 g3 g4 g5 g6 g7 g8 g9 g10 g11 g12=>?_;have hlen:=Vs.length;refine ag (g12 s xs H.base (by simp_all) (by simp_all)) λ dv g13 g14=>?_
  have hdl:=(g13 (λ _ _=>False) []).length;have Lr:iQ I (ay hid ρ s.heap) ρ (fi.ps.zip (args++fi.ds.drop (fi.ds.length+args.length - fi.ps.length))) (fi.ps.zip (xs++dv.drop (dv.length+xs.length - fi.ps.length))):=by
   refine iQ.zip (Vs.append ?_);rw [hdl,hlen];exact (g13 _ _).drop _
  refine fin9 ?_; clear fin9 G9;refine (codeAny_call_def (by show A.depth < 1000; have:=R.d; exact Nat.lt_of_le_of_lt (Nat.le_add_right _ _) (by assumption)) (H.base _ _ g1) g2 (NL.keeps H.base) (g11.keeps H.base) g3 g14 (by rw [g4]; exact FO.nocell) ?_ (λ h₁ hns hk₁=>?_) g9 g10 g8)
  ·intro x hx;rw [g4];refine FO.loc x.1 ?_;exact (List.of_mem_zip hx).1
  ·have hn:=bh s.heap;refine da (id hns) λ o' es ep ho' _=>?_;refine ab (H.hideK hn hk₁ ⟨o',ho'⟩) λ H1 st1=>?_;have Y1:ao I fi.names (callEnv fd s.heap.objs.size f) ⟨F.of ((plan fi.names fi.ps).map (aX (args++fi.ds.drop (fi.ds.length+args.length - fi.ps.length)))),[],none⟩ (s.heap.objs.size::hid) ρ h₁:=by
    refine ⟨g8,g4,g5,g7,List.mem_cons_self ..,⟨_,hns,λ x i kd v hp hv=>?_⟩,λ x i kd c hp hi=>(by induction i using Nat.casesOn<;>exact ac hi),λ i e=>(by exact ac e)⟩
    refine ag (Lr.rev.look (mi FO.psn hp hv)) λ y h1 h2=>?_;exact ⟨y,h1,h2.tr ⟨[],by exact dS⟩ st1⟩
   have hJ:s.heap.objs.size∉hid:=H.nextH;refine bi (s:={ s with heap:=h₁,toks:=s.toks+_ }) SX (R.deeper _) e2 Y1 H1 λ ρ2 h2 tk2 gs2 fl x2 H2 Y2 F2=>?_
   refine ab (H2.drop (h':=h2) hJ λ c o _ e=>e) λ H3 st3=>?_;have x3:aI I [] ρ ρ2 s.heap s.gens h2 gs2:=⟨⟨x2.pre,λ c o e n _=>x2.keep c o (hk₁ _ _ e) n (λ m=>bd e (List.mem_singleton.mp m)),λ a m n=>by
    have z:=x2.new a m n;cases q':s.heap.get? a with
    | none=>rfl
    | some o=>rw [hk₁ _ _ q'] at z; cases z⟩,x2.gb⟩
   obtain ⟨f',ae',σ'⟩:=p;cases F2 with
   | next=>induction e using sI; exact q ρ2 h2 tk2 gs2 _ x3 H3 .none
   | ret V=>induction e using sI; exact q ρ2 h2 tk2 gs2 _ x3 H3 (V.tr ⟨[],by exact dS⟩ st3)
   | brk=>exact ac e
   | cont=>exact ac e
theorem dR.op {f:Addr} {args:List V} {r:V×List O} (c:dR hb prog w I k σ f args r):aL hb prog w I k σ (.val (.ref f)::args) r aS:=by
 intro A s hid ρ xs Q E R H Vs q;induction Vs using aD.casesOn with
 | cons Vf Vs =>
  induction Vf using aK.casesOn;exact wpAny_call (c A s hid ρ _ _ R H Vs q)
end
end
end Mine
end
section
open PySem PySem.W PySem.Spec PySem.Calls PyProof.Rows PySem.SeqAt
namespace Mine
noncomputable section
section
noncomputable def ap:aq->Nat->List (Str×Nat)
 | [],_=>[]
 | (x,.cell)::r,n=>(x,n)::ap r (Nat.succ n)
 | (_,_)::r,n=>ap r n
noncomputable def c7:aq->Nat->List (Option Nat)
 | [],_=>[]
 | (_,.cell)::r,n=>some n::c7 r (Nat.succ n)
 | (_,_)::r,n=>none::c7 r n
def iu (N:aq) (ps:List Str):List (Option Nat):=N.map λ p=>match p.2 with
 | .local=>bx ps p.1 0
 | _=>none
def yR (X:eM) (fi:i7) (tab:Option Nat) (args:List V) (σ:List O):Option (V×List O) :=
 aB (Nat.beq args.length fi.ps.length) (au ((bY X fi.names fi.body).f ⟨F.of ((iu fi.names fi.ps).map (aX args)),c7 fi.names σ.length,tab⟩ (σ++(ap fi.names 0).map λ p=>.cell (aX args (bx fi.ps p.1 0)))) λ p=>match p.1 with
  | .ret v=>some (v,p.2.2)
  | .next=>some (.none,p.2.2)
  | _=>none) none
end
theorem cu:∀ {names:aq} {n j:Nat} {x:Str} {c:Nat},(ap names n)[j]?=some (x,c)->c=n+j∧(x,NameKind.cell)∈names∧∀ m,(ap names m)[j]?=some (x,m+j):=by
 intro names;induction names with
 | nil =>
  intro n j x c h;simp [ap] at h
 | cons p9 r ih =>
  obtain ⟨y,k⟩:=p9;intro n j x c h;by_cases hk:k=.cell
  ·subst hk;induction j using Nat.casesOn with
   | zero =>
    simp [ap] at h;refine ab h ?_; clear h; rintro rfl rfl;exact ⟨rfl,List.mem_cons_self ..,λ m=>by simp [ap]⟩
   | succ j =>
    have h':(ap r (Nat.succ n))[j]?=some (x,c):=by simpa [ap] using h
    refine c9 (ih h') λ h1 h2 h3=>?_;exact ⟨by simp +arith [*],List.mem_cons_of_mem _ h2,λ m=>by have:=h3 (Nat.succ m); simp [ap]; rw [this]; simp; exact Nat.succ_add_eq_add_succ _ _⟩
  ·have e:∀ m,ap ((y,k)::r) m=ap r m:=λ m=>by cases k<;>first | rfl | exact absurd rfl hk
   rw [e] at h;refine c9 (ih h) λ h1 h2 h3=>?_;exact ⟨h1,List.mem_cons_of_mem _ h2,λ m=>by rw [e]; exact h3 m⟩
theorem gC:∀ {names:aq} {n:Nat} {x:Str} {c:Nat},(x,c)∈ap names n->(x,NameKind.cell)∈names:=λ {names n x c} m=>by
 refine aj (List.getElem?_of_mem m) λ j hj=>?_;exact (cu hj).2.1
theorem ky:∀ {names:aq} {n:Nat} {x:Str} {b c:Nat},(names.map (·.1)).Nodup->(x,b)∈ap names n->(x,c)∈ap names n->b=c:=by
 intro names;induction names with
 | nil =>
  intro n x b c _ h _;simp [ap] at h
 | cons p9 r ih =>
  obtain ⟨y,k⟩:=p9;intro n x b c hn h h';rw [List.map_cons,List.nodup_cons] at hn;by_cases hk:k=.cell
  ·subst hk;simp only [ap,List.mem_cons] at h h';rcases h with h | h<;>rcases h' with h' | h'
   ·cases h; cases h'; rfl
   ·cases h; exact absurd (List.mem_map.mpr ⟨_,gC h',rfl⟩) hn.1
   ·cases h'; exact absurd (List.mem_map.mpr ⟨_,gC h,rfl⟩) hn.1
   ·exact ih hn.2 h h'
  ·have e:ap ((y,k)::r) n=ap r n:=by cases k<;>first | rfl | exact absurd rfl hk
   rw [e] at h h';exact ih hn.2 h h'
theorem mj:∀ {names:aq} {n m:Nat},(ap names n).length=(ap names m).length:=by
 intro names;induction names with
 | nil =>
  intro n m;rfl
 | cons p9 r ih =>
  obtain ⟨y,k⟩:=p9;intro n m;by_cases hk:k=.cell
  ·subst hk;simp only [ap,List.length_cons];rw [ih (n:=Nat.succ n) (m:=Nat.succ m)]
  ·have e:∀ n,ap ((y,k)::r) n=ap r n:=λ n=>by cases k<;>first | rfl | exact absurd rfl hk
   rw [e,e]; exact ih
theorem qR:∀ {names:aq} {n i c:Nat},(c7 names n)[i]?=some (some c)->∃ x,names[i]?=some (x,NameKind.cell)∧(x,c)∈ap names n:=by
 intro names;induction names with
 | nil =>
  intro n i c h;simp [c7] at h
 | cons p9 r ih =>
  obtain ⟨y,k⟩:=p9;intro n i c h;by_cases hk:k=.cell
  ·subst hk;induction i using Nat.casesOn with
   | zero =>
    simp [c7] at h;subst h;exact ⟨y,rfl,by simp [ap]⟩
   | succ i =>
    refine ag (ih (n:=Nat.succ n) (i:=i) (by simpa [c7] using h)) λ x h1 h2=>?_
    exact ⟨x,by simpa using h1,by simp [ap]; exact .inr h2⟩
  ·have e:ap ((y,k)::r) n=ap r n:=by cases k<;>first | rfl | exact absurd rfl hk
   have e':c7 ((y,k)::r) n=none::c7 r n:=by cases k<;>first | rfl | exact absurd rfl hk
   rw [e'] at h;induction i using Nat.casesOn with
   | zero=>simp at h
   | succ i =>
    refine ag (ih (n:=n) (i:=i) (by simpa using h)) λ x h1 h2=>?_
    exact ⟨x,by simpa using h1,by rw [e]; exact h2⟩
theorem fQ:∀ {names:aq} {n:Nat} {acc:List (Str×Addr)} {p:Str×Addr},p∈cellsFrom n names acc↔p∈acc∨p∈ap names n:=by
 intro names;induction names with
 | nil =>
  intro n acc p;simp [cellsFrom,ap]
 | cons p9 r ih =>
  obtain ⟨y,k⟩:=p9;intro n acc p;by_cases hk:k=.cell
  ·subst hk;simp only [cellsFrom,ap,beq_self_eq_true,if_true];rw [ih];simp only [List.mem_cons];constructor
   ·rintro ((h | h) | h)
    ·exact .inr (.inl h)
    ·exact .inl h
    ·exact .inr (.inr h)
   ·rintro (h | h | h)
    ·exact .inl (.inr h)
    ·exact .inl (.inl h)
    ·exact .inr h
  ·have e:ap ((y,k)::r) n=ap r n:=by cases k<;>first | rfl | exact absurd rfl hk
   have hb:(k == NameKind.cell)=false:=by simpa using hk
   simp only [cellsFrom,hb,Bool.false_eq_true,if_false];rw [ih,e]
theorem yS (kd:Str->Option NameKind) {y:Str}:∀ {binds:List (Str×Value)} {m:Str->Option Value},bindL kd binds m y=match binds.reverse.lookup y with
  | some v=>if kd y=some .local then some v else m y
  | none=>m y:=by
 intro binds;induction binds with
 | nil =>
  intro m;rfl
 | cons p9 r ih =>
  obtain ⟨n,v⟩:=p9;intro m;unfold bindL;rw [ih];rw [List.reverse_cons,List.lookup_append];cases q:r.reverse.lookup y with
  | some u =>
   simp only [Option.some_or];split
   ·rfl
   ·split
    ·rename_i h1 h2;simp only;split
     ·rename_i h3; subst h3; exact absurd h2 h1
     ·rfl
    ·rfl
  | none =>
   simp only [Option.none_or,List.lookup_cons,List.lookup_nil];cases q2:y == n with
   | true =>
    have:=beq_iff_eq.mp q2;subst this;simp;split<;>rename_i h1<;>simp [h1]
   | false =>
    have hne:y≠n:=λ e=>by rw [e,beq_self_eq_true] at q2; cases q2
    simp only;split
    ·simp [hne]
    ·rfl
theorem yT (kd:Str->Option NameKind) {y:Str}:∀ {binds:List (Str×Value)} {m:Str->Option Value},bindC kd binds m y=match binds.reverse.lookup y with
  | some v=>if kd y=some .local then m y else some v
  | none=>m y:=by
 intro binds;induction binds with
 | nil =>
  intro m;rfl
 | cons p9 r ih =>
  obtain ⟨n,v⟩:=p9;intro m;unfold bindC;rw [ih];rw [List.reverse_cons,List.lookup_append];cases q:r.reverse.lookup y with
  | some u =>
   simp only [Option.some_or];split
   ·split
    ·rfl
    ·rename_i h1 h2;simp only;split
     ·rename_i h3; subst h3; exact absurd h1 h2
     ·rfl
   ·rfl
  | none =>
   simp only [Option.none_or,List.lookup_cons,List.lookup_nil];cases q2:y == n with
   | true =>
    have:=beq_iff_eq.mp q2;subst this;simp;split<;>rename_i h1<;>simp [h1]
   | false =>
    have hne:y≠n:=λ e=>by rw [e,beq_self_eq_true] at q2; cases q2
    simp only;split
    ·rfl
    ·simp [hne]
structure DJ (hb:Heap) (f:Addr) (fi:i7):Prop where
 at_:∃ o fd,hb.get? f=some o∧o.data=.func fd∧fd.body=.stmts fi.body∧fd.scope.names=fi.names∧fd.globals=mainGlobals∧fd.closure=[]∧fd.builtins=builtinsNs∧fd.scope.kind=.function ∧
  fd.scope.isCoroutine=false∧fd.scope.isGenerator=false∧hb.CodeRec fd.code fd.qualname∧(∀ xs:List Value,xs.length=fi.ps.length->bindArgs fd ⟨xs,[]⟩=pure (fi.ps.zip xs))
 loc:∀ p∈fi.ps,fi.names.lookup p=some .local∨fi.names.lookup p=some .cell
 psn:fi.ps.Nodup
 nn:(fi.names.map (·.1)).Nodup
noncomputable def t8 (hb:Heap) (f:Addr) (tab:Option Nat) (ρ:List Addr):Prop:=∀ i,tab=some i->∃ o fd c P oc,hb.get? f=some o∧o.data=.func fd∧fd.code=.ref c∧hb.get? c=some oc∧tM oc c P∧ρ[i]?=some P
section
variable {hb:Heap} {prog:Program} {w:World} {I:aZ} {k:Nat} {Φ:eO} {ev:Ev} {X:eM} {hid hid' ρ ρ' ρ'':List Addr} {σ:List O} {A:Around} {s:Shared} {env:Env} {N:aq} {ae:AE} {E:Value->Shared->Prop} {h h' h'':Heap} {L:List Addr}
theorem oD {ps:List Str} {vs:List V} {x:Str} {i:Nat} {kd:NameKind} {v:V} (hn:ps.Nodup) (hp:dy N x=some (i,kd)) (h:F.get i (F.of ((iu N ps).map (aX vs)))=some v):kd=.local∧(ps.zip vs).reverse.lookup x=some v:=by
 have h:=F.get_of _ _ h;obtain ⟨_,j,e1,e2⟩:=bn hp;have:i=j:=by simpa using e1
 subst this;unfold iu at h;rw [List.map_map,List.getElem?_map,e2] at h;have h:=Option.some.inj h;by_cases hk:kd=.local
 ·subst hk;have h:aX vs (bx ps x 0)=some v:=h;refine aa h λ m h1 h2=>?_;refine ag (eA h1) λ m' h3 h4=>?_;have:m=m':=by simp [*]
  subst this;rw [aE] at h2;exact ⟨rfl,jK hn h4 h2⟩
 ·have h:aX vs none=some v:=by cases kd<;>first | exact h | exact absurd rfl hk
  exact ac h
theorem ml:∀ {ps:List Str} {x:Str} {n:Nat},bx ps x n=none->x∉ps:=by
 intro ps;induction ps with
 | nil =>
  intro _ _ _;simp
 | cons p r ih =>
  intro x n h;unfold bx at h;cases q:x == p with
  | true=>rw [q] at h; cases h
  | false =>
   rw [q] at h;intro m;rcases List.mem_cons.mp m with e | m
   ·rw [e,beq_self_eq_true] at q; cases q
   ·exact ih h m
theorem mm {α:Type} {x:Str}:∀ {l:List (Str×α)},x∉l.map (·.1)->l.lookup x=none:=by
 intro l;induction l with
 | nil =>
  intro _;rfl
 | cons p9 r ih =>
  obtain ⟨y,v⟩:=p9;intro h;rw [List.lookup_cons];have hne:(x == y)=false:=beq_eq_false_iff_ne.mpr λ q=>h (by rw [q]; simp)
  rw [hne];exact ih λ m=>h (by simp; exact .inr (by simpa using m))
theorem k9 {f:Addr} {fi:i7} {tab:Option Nat} (FO:DJ hb f fi) (NL:hb.NoLimit) {args:List V} (hl:args.length=fi.ps.length)
  {xs:List Value} {RR:Result->Shared->Prop} (htab:t8 hb f tab ρ) (hdp:A.depth < 1000) (H:Sh hb prog w I hid ρ σ s.heap) (Vs:VRs I (ay hid ρ s.heap) ρ args xs)
  (q:∀ h1 tk1 env ρ1,env.locals=s.heap.objs.size->env.frame=some s.heap.objs.size->env.scope.kind=.function->env.locals∉hid->s.heap.get? env.locals=none->(∃ r,ρ1=ρ++r)->(∀ a∈ρ1,a∉ρ->s.heap.get? a=none)->(∀ b o,s.heap.get? b=some o->h1.get? b=some o) ->
   Sh hb prog w I (env.locals::hid) ρ1 (σ++(ap fi.names 0).map λ p=>.cell (aX args (bx fi.ps p.1 0))) h1->ao I fi.names env ⟨F.of ((iu fi.names fi.ps).map (aX args)),c7 fi.names σ.length,tab⟩ (env.locals::hid) ρ1 h1 ->
   wpAny (model prog w) (A.deeper env) (execs fi.body env) (λ f s'=>RR (.ok (.ret (match f with | .ret v=>v | _=>.none))) s')
    (λ e s'=>wpAny (model prog w) (A.deeper env) (leaving env e) (λ _ s''=>RR (.error e) s'') (λ e' s''=>RR (.error e') s'') s') { s with heap:=h1,toks:=tk1 }) :
  codeAny (model prog w) A (.call (.ref f) ⟨xs,[]⟩) RR s:=by
 refine qt FO.at_ λ o fd g1 g2 g3 g4 g5 g6 g7 g8 g9 g10 g11 g12=>?_;have hlen:=Vs.length;have hbind:=g12 xs (by exact Eq.trans (Eq.symm (by assumption)) (by assumption))
 have Lr:iQ I (ay hid ρ s.heap) ρ (fi.ps.zip args) (fi.ps.zip xs):=iQ.zip Vs;have hkz:∀ x∈fi.ps.zip xs,x.1∈fi.ps:=λ x m=>(List.of_mem_zip m).1;have cellIs:∀ {n:Nat} {x:Str},(x,NameKind.cell)∈fi.names->∃ c,(x,c)∈ap fi.names n:=λ {n x} m=>by
  generalize fi.names=N at m;induction N generalizing n with
  | nil=>cases m
  | cons y r ih =>
   obtain ⟨y,kd⟩:=y;rcases List.mem_cons.mp m with q | m'
   ·cases q; exact ⟨n,by simp [ap]⟩
   ·refine aj (ih (n:=n) m') λ c hc=>?_;refine aj (ih (n:=Nat.succ n) m') λ c' hc'=>?_;cases kd<;>first | exact ⟨c',List.mem_cons_of_mem _ hc'⟩ | exact ⟨c,hc⟩
 have keyC:∀ {n:Nat} {x:Str} {c:Nat},(x,c)∈ap fi.names n->(cellsFrom n fi.names []).lookup x=some c:=λ {n x c} m=>by
  have hm:(x,c)∈cellsFrom n fi.names []:=fQ.mpr (.inr m);have uniq:∀ y b,(y,b)∈cellsFrom n fi.names []->y=x->b=c:=λ y b mb ey=>by
   subst ey;exact ky FO.nn ((fQ.mp mb).resolve_left (by simp)) m
  generalize cellsFrom n fi.names []=cl at hm uniq;induction cl with
  | nil=>cases hm
  | cons y r ih =>
   obtain ⟨y,b⟩:=y;rw [List.lookup_cons];cases qq:x == y with
   | true =>
    have:=uniq y b (List.mem_cons_self ..) (beq_iff_eq.mp qq).symm;rw [this]
   | false =>
    rcases List.mem_cons.mp hm with q | m
    ·cases q; simp at qq
    ·exact ih m λ y b mb=>uniq y b (List.mem_cons_of_mem _ mb)
 refine codeAny_call_cells hdp (H.base _ _ g1) g2 (NL.keeps H.base) (g11.keeps H.base) g3 hbind g6 (λ x hx=>?_) (λ s₁ ic=>?_) g9 g10 g8
 ·rw [g4];rcases FO.loc x.1 (hkz x hx) with h | h
  ·exact .inl h
  ·refine .inr ⟨h,?_⟩;refine aj (cellIs (n:=s.heap.objs.size+1) (mem_of_lookup h)) λ c hc=>?_;rw [keyC hc]; rfl
 ·refine bE ic.toInCall.same ?_; rintro h1 tk1 rfl;have hns:=ic.toInCall.ns;have kp:∀ b o,s.heap.get? b=some o->h1.get? b=some o:=ic.toInCall.keep;have hcell:=ic.cell;have hJ:s.heap.objs.size∉hid:=H.nextH;have fresh:∀ a,s.heap.objs.size≤a->s.heap.get? a=none:=λ a ha=>Heap.get?_none_of_le ha;have hloc:(callEnvC fd s.heap.objs.size f).locals=s.heap.objs.size:=rfl;have hcl:(callEnvC fd s.heap.objs.size f).cells=cellsFrom (s.heap.objs.size+1) fi.names []:=by show cellsFrom _ fd.scope.names []=_; rw [g4]
  have hkd:∀ x,(callEnvC fd s.heap.objs.size f).kindOf x=fi.names.lookup x:=λ x=>by show fd.scope.names.lookup x=_; rw [g4]
  rw [hloc] at hns;rw [hcl] at hcell;generalize hL:s.heap.objs.size=L at *
  refine da (id hns) λ oL _ _ eL _=>?_;have newA:∀ a∈(ap fi.names (L+1)).map (·.2),L+1≤a∧∃ o,h1.get? a=some o:=λ a m=>by
   refine ag (List.mem_map.mp m) ?_; rintro j00 m1 rfl; obtain ⟨x,c⟩:=j00;refine aj (List.getElem?_of_mem m1) λ j hj=>?_;have:=(cu hj).1;refine ag (hcell x c (keyC m1)) λ o eo _=>?_;exact ⟨by show L+1≤c; simp [*],o,eo⟩
  have old:∀ {a o},s.heap.get? a=some o->a < L:=λ {a o} e=>by rw [<-hL]; exact Heap.lt_size e
  have off':∀ {a o},s.heap.get? a=some o->a∉(ap fi.names (L+1)).map (·.2):=λ {a o} e m=>by
   have h1:a < L:=old e;have h2:L+1≤a:=(newA a m).1;exact absurd (Nat.lt_of_lt_of_le h1 (Nat.le_trans (Nat.le_succ L) h2)) (Nat.lt_irrefl _)
  have st:∀ a o,ay hid ρ s.heap a o->ay (L::hid) (ρ++(ap fi.names (L+1)).map (·.2)) h1 a o:=λ a o z=>⟨kp _ _ z.1,λ m=>by
   rcases List.mem_cons.mp m with e | m
   ·exact absurd (old z.1) (by rw [e]; exact Nat.lt_irrefl _)
   ·exact z.2.1 m,λ m=>by
   rcases List.mem_append.mp m with m | m
   ·exact z.2.2 m
   ·exact off' z.1 m⟩
  have alR:∀ a∈ρ,∃ o,s.heap.get? a=some o:=λ a m=>(H.off a m).2.2;have hbN:∀ a,s.heap.get? a=none->hb.get? a=none:=λ a e=>by
   cases q:hb.get? a with
   | none=>rfl
   | some o=>rw [H.base _ _ q] at e; cases e
  have hz:σ.length=ρ.length:=H.len.symm;have H1:Sh hb prog w I (L::hid) (ρ++(ap fi.names (L+1)).map (·.2)) (σ++(ap fi.names 0).map λ p=>.cell (aX args (bx fi.ps p.1 0))) h1:=by
   refine ⟨⟨λ m=>?_,H.sm.2.1,λ p m=>cc (H.sm.2.2 p m)⟩,λ b o e=>kp _ _ (H.base b o e),?_,?_,λ a m=>?_,λ a m=>?_,λ i o e=>?_⟩
   ·rcases List.mem_append.mp m with m | m
    ·exact H.sm.1 m
    ·exact H.smAt (by rw [hL]; exact Nat.le_trans (Nat.le_succ L) (newA _ m).1) rfl
   ·refine List.nodup_append.mpr ⟨H.nd,?_,λ a ma b mb e=>?_⟩
    ·have:((ap fi.names (L+1)).map (·.2))=List.range' (L+1) (ap fi.names (L+1)).length:=by
      refine List.ext_getElem? λ j=>?_;rw [List.getElem?_map];cases q:(ap fi.names (L+1))[j]? with
      | none =>
       have:=List.getElem?_eq_none_iff.mp q;rw [List.getElem?_eq_none (by rw [List.length_range']; exact this)]; rfl
      | some p =>
       have hlt:=(List.getElem?_eq_some_iff.mp q).1;rw [List.getElem?_range' hlt];have:=(cu (x:=p.1) (c:=p.2) q).1;simp [this]
     rw [this]; exact List.nodup_range'
    ·subst e;refine aj (alR a ma) λ o e=>?_;exact off' e mb
   ·rw [List.length_append,List.length_append,List.length_map,List.length_map,hz,mj (n:=L+1) (m:=0)]
   ·rcases List.mem_append.mp m with m | m
    ·refine aj (alR a m) λ o e=>?_;refine ⟨(H.off a m).1,λ q=>?_,o,kp _ _ e⟩;rcases List.mem_cons.mp q with q | q
     ·exact absurd (old e) (by rw [q]; exact Nat.lt_irrefl _)
     ·exact (H.off a m).2.1 q
    ·obtain ⟨h2,o,e⟩:=newA a m;have hn:=fresh a (Nat.le_trans (Nat.le_succ L) h2);refine ⟨hbN a hn,λ q=>?_,o,e⟩;rcases List.mem_cons.mp q with q | q
     ·rw [q] at h2; exact absurd h2 (Nat.not_succ_le_self L)
     ·refine aj ((H.offH a q).2) λ o' e'=>?_;rw [hn] at e'; exact ac e'
   ·rcases List.mem_cons.mp m with rfl | m
    ·exact ⟨hbN _ (fresh _ (Nat.le_refl _)),oL,eL⟩
    ·refine aj ((H.offH a m).2) λ o e=>?_;exact ⟨(H.offH a m).1,o,kp _ _ e⟩
   ·by_cases hi:i < σ.length
    ·rw [List.getElem?_append_left hi] at e;refine ak (H.ob i o e) λ a b e1 e2 e3=>?_;exact ⟨a,b,cc e1,kp _ _ e2,e3.tr ⟨_,rfl⟩ st⟩
    ·have hi:=Nat.le_of_not_lt hi;rw [List.getElem?_append_right hi,List.getElem?_map] at e;cases qp:(ap fi.names 0)[i - σ.length]? with
     | none=>rw [qp] at e; exact ac e
     | some pr =>
      rw [qp] at e;obtain ⟨x,c0⟩:=pr;have e:=(Option.some.inj e).symm;refine c9 (cu qp) λ _ hmem hall=>?_;have hget:=hall (L+1);have hmm:=List.mem_of_getElem? hget;refine ag (hcell x _ (keyC hmm)) λ b eb db=>?_;have hkx:(callEnvC fd L f).kindOf x=some .cell:=by
       rw [hkd]; exact jJ FO.nn hmem
      have hnl:¬ (callEnvC fd L f).kindOf x=some .local:=by rw [hkx]; exact λ h=>nomatch h
      rw [yT] at db;refine ⟨L+1+(i - σ.length),b,?_,eb,?_⟩
      ·rw [List.getElem?_append_right (by rw [<-hz]; exact hi),List.getElem?_map,<-hz,hget]; rfl
      ·subst e;show OR prog w I _ _ (.cell (aX args (bx fi.ps x 0))) b;cases qk:aX args (bx fi.ps x 0) with
       | none =>
        have hnx:(fi.ps.zip xs).reverse.lookup x=none:=by
         cases qf:bx fi.ps x 0 with
         | none =>
          refine mm λ m=>ml qf ?_;refine ag (List.mem_map.mp m) ?_; rintro j00 m1 rfl; obtain ⟨x',y'⟩:=j00;exact (List.of_mem_zip (List.mem_reverse.mp m1)).1
         | some j =>
          exfalso
          rw [qf] at qk;refine ag (eA qf) λ j' h3 h4=>?_;have hj:j=j':=by simp [*]
          subst hj;have hlt:=(List.getElem?_eq_some_iff.mp h4).1;have qk:aU args j=none:=qk;rw [aE,List.getElem?_eq_none_iff] at qk;lia
        rw [hnx] at db;exact .cellN db
       | some v =>
        refine aa qk λ j h3 h4=>?_;refine ag (eA h3) λ j' h5 h6=>?_;have hj:j=j':=by simp [*]
        subst hj;rw [aE] at h4;refine ag (Lr.rev.look (jK FO.psn h6 h4)) λ y hy Vy=>?_;rw [hy] at db;simp only [if_neg hnl] at db;exact .cell db (Vy.tr ⟨_,rfl⟩ st)
  have Y1:ao I fi.names (callEnvC fd L f) ⟨F.of ((iu fi.names fi.ps).map (aX args)),c7 fi.names σ.length,tab⟩ (L::hid) (ρ++(ap fi.names (L+1)).map (·.2)) h1:=by
   refine ⟨g8,g4,g5,g7,List.mem_cons_self ..,⟨_,hns,λ x i kd v hp hv=>?_⟩,λ x i kd c hp hi=>?_,λ i ei=>?_⟩
   ·refine ab (oD FO.psn hp hv) ?_; rintro rfl hlk;refine ag (Lr.rev.look hlk) λ y hy Vy=>?_;refine ⟨y,?_,Vy.tr ⟨_,rfl⟩ st⟩;rw [yS,hy];simp only;rw [if_pos (by rw [hkd]; exact dz hp)]
   ·rw [aE] at hi;refine ag (qR hi) λ x' e1 e2=>?_;obtain ⟨_,j,e3,e4⟩:=bn hp;have hij:i=j:=by simpa using e3
    subst hij;rw [e1] at e4;refine ab (Prod.mk.inj (Option.some.inj e4)) ?_; rintro rfl _;refine aj (List.getElem?_of_mem e2) λ jj hjj=>?_;refine c9 (cu hjj) λ hc _ hall=>?_;have hget:=hall (L+1);refine ⟨L+1+jj,by rw [hcl]; exact keyC (List.mem_of_getElem? hget),?_⟩
    rw [List.getElem?_append_right (by rw [<-hz]; simp [*]),List.getElem?_map]
    have:c - ρ.length=jj:=by rw [<-hz]; simp [*]
    rw [this,hget]; rfl
   ·refine Dt (htab i ei) λ o' fd' c P oc t1 t2 t3 t4 t5 t6=>?_;rw [g1] at t1; induction t1 using sI;rw [g2] at t2; cases t2;have e4:=H.base _ _ t4;refine ⟨c,P,oc,t3,st _ _ ⟨e4,λ m=>?_,λ m=>?_⟩,t5,cc t6⟩
    ·rw [(H.offH _ m).1] at t4; exact ac t4
    ·rw [(H.off _ m).1] at t4; exact ac t4
  have hn:s.heap.get? L=none:=fresh L (Nat.le_refl _);refine q h1 tk1 (callEnvC fd L f) (ρ++(ap fi.names (L+1)).map (·.2)) rfl rfl g8 hJ hn ⟨_,rfl⟩ (λ a m n=>?_) kp H1 Y1;rcases List.mem_append.mp m with m | m
  ·exact absurd m n
  ·exact fresh a (Nat.le_trans (Nat.le_succ L) (newA a m).1)
theorem BA {f:Addr} {fi:i7} {tab:Option Nat} (FO:DJ hb f fi) (NL:hb.NoLimit) (SX:dQ hb prog w I k X) {args:List V} {r:V×List O} (e:yR X fi tab args σ=some r)
  {xs:List Value} {RR:Result->Shared->Prop} (htab:t8 hb f tab ρ) (R:aC A (k+1)) (H:Sh hb prog w I hid ρ σ s.heap) (Vs:VRs I (ay hid ρ s.heap) ρ args xs) (q:aA hb prog w I hid ρ s r (λ v s'=>RR (.ok (.ret v)) s')) :
  codeAny (model prog w) A (.call (.ref f) ⟨xs,[]⟩) RR s:=by
 refine ai e λ hl e=>?_;refine aa e λ p e2 e=>?_;refine k9 FO NL (Nat.eq_of_beq_eq_true hl) htab (by have:=R.d; exact Nat.lt_of_le_of_lt (Nat.le_add_right _ _) (by assumption)) H Vs λ h1 tk1 env ρ1 el ef ek hJ hn hp hnew kp H1 Y1=>?_
 refine bi (s:={ s with heap:=h1,toks:=tk1 }) SX (R.deeper _) e2 Y1 H1 λ ρ2 h2 tk2 gs2 fl x2 H2 Y2 F2=>?_
 refine ab (H2.drop (h':=h2) hJ λ c o _ e=>e) λ H3 st3=>?_;have x3:aI I [] ρ ρ2 s.heap s.gens h2 gs2:=by
  refine aj hp λ r hr=>?_; clear hp;refine ⟨⟨?_,λ c o e n _=>x2.keep c o (kp _ _ e) (λ m=>?_) (λ m=>?_),λ a m n=>?_⟩,x2.gb⟩
  ·refine aj x2.pre λ r' e'=>?_;exact ⟨r++r',by rw [e',hr,List.append_assoc]⟩
  ·have:=hnew c m n;rw [e] at this; cases this
  ·rw [List.mem_singleton.mp m,hn] at e; exact ac e
  ·by_cases hm:a∈ρ1
   ·exact hnew a hm n
   ·have z:=x2.new a m hm;cases q':s.heap.get? a with
    | none=>rfl
    | some o =>
     have z:h1.get? a=none:=z;rw [kp _ _ q'] at z; cases z
 obtain ⟨f',ae',σ'⟩:=p;cases F2 with
 | next=>induction e using sI; exact q ρ2 h2 tk2 gs2 _ x3 H3 .none
 | ret V=>induction e using sI; exact q ρ2 h2 tk2 gs2 _ x3 H3 (V.tr ⟨[],by exact dS⟩ st3)
 | brk=>exact ac e
 | cont=>exact ac e
theorem yU {f:Addr} {fi:i7} (FO:DJ hb f fi) (NL:hb.NoLimit) (SX:dQ hb prog w I k X) {args:List V} {r:V×List O} (e:yR X fi none args σ=some r):dR hb prog w I (k+1) σ f args r :=
 λ A s hid ρ xs RR R H V q=>BA FO NL SX e (λ i ei=>by exact ac ei) R H V q
end
section
def oE:List (Str×Nat)->Str->Option Nat
 | [],_=>none
 | (x,c)::r,y=>aB (x == y) (some c) (oE r y)
def mn (N:aq):List Str->Bool:=λ x0=>(bg (aP (aR (false) (λ p y391=>aO (bg (false) ((match N.lookup p with | some .local=>true | _=>false)) y391)) x0)) (true) x0)
def Hu (ev:Ev) (c:lR) (args:List V) (σ:List O):Option (V×List O) :=
 aB (gz c.scope && !c.scope.isCoroutine && !c.scope.isGenerator && mn c.scope.names c.ps && Nat.beq args.length c.ps.length)
  ((ev.E c.scope.names c.body).f ⟨F.of ((iu c.scope.names c.ps).map (aX args)),c.scope.names.map λ p=>oE c.cels p.1,none⟩ σ) none
def cw (n:Nat) (f:Nat):V->Bool:=Nat.rec (λ _=>false) (λ _ ih v=>(eK (aP (eU (aP (jt (aP (yf (aP (cW (aP (Bl (aP (yi true (λ c=>c.cels.all λ p=>Nat.blt p.2 n) v)) (λ y390 x=>ih x) v)) (λ y390 d=>Nat.blt d n) v)) (λ y390 l=>l.all ih) v)) (λ l=>l.all ih) v)) (λ l=>l.all ih) v)) (λ i=>Nat.blt i n) v)) f
def t9 (n:Nat):O->Bool
 | .list l=>l.all (cw n 5)
 | .fld l=>l.all λ p=>cw n 5 p.2
 | .smap l=>l.all λ p=>cw n 5 p.2
 | .imap l=>l.all λ p=>cw n 5 p.2
 | .dnil=>true
 | .cell none=>true
 | .cell (some v)=>cw n 5 v
 | .tab _=>true
 | .tabF _=>true
 | .tabT=>true
 | .acc _=>false
def mo (n:Nat) (r:V×List O):Option (V×List O):=aB (cw n 5 r.1 && (r.2.take n).all (t9 n)) (some (r.1,r.2.take n)) none
end
section
variable {hb:Heap} {prog:Program} {w:World} {I:aZ} {k:Nat} {Φ:eO} {ev:Ev} {X:eM} {hid hid' ρ ρ' ρ'':List Addr} {σ:List O} {A:Around} {s:Shared} {env:Env} {N:aq} {ae:AE} {E:Value->Shared->Prop} {h h' h'':Heap} {L:List Addr} {n:Nat} {S S':Addr->Obj->Prop}
theorem qT {a b:Nat} (h:Nat.blt a b=true):a < b:=Nat.le_of_ble_eq_true h
theorem gD {i:Nat} {a:Addr} (hi:i < n) (e:ρ[i]?=some a):(ρ.take n)[i]?=some a:=by rw [List.getElem?_take_of_lt hi]; exact e
theorem VR.cut (hS:∀ a o,S a o->S' a o):∀ (f:Nat) {v:V} {x:Value},VR I S ρ v x->cw n f v=true->VR I S' (ρ.take n) v x:=by
 intro f;induction f with
 | zero =>
  intro _ _ _ e;exact aT e
 | succ f ih9 =>
  intro v x a e;have ls:∀ {l:List V} {r:List Value},VRs I S ρ l r->l.all (cw n f)=true->VRs I S' (ρ.take n) l r:=λ {l r} V e=>by
   induction l generalizing r with
   | nil=>induction V using bQ.casesOn; exact .nil
   | cons v l ih =>
    induction V using aD.casesOn with
    | cons a b =>
     rw [List.all_cons,Bool.and_eq_true] at e;exact .cons (ih9 a e.1) (ih b e.2)
  induction v using V.casesOn with
  | none=>induction a using be.casesOn; exact .none
  | bool b=>induction a using cC.casesOn; exact .bool b
  | int i=>induction a using aH.casesOn; exact .int i _
  | str y=>induction a using aG.casesOn; exact .str y _
  | lin=>induction a using du.casesOn; exact .lin _
  | val _=>induction a using aK.casesOn; exact .val _
  | ref _=>induction a using bV.casesOn with | ref h=>exact .ref (gD (qT e) h)
  | eset=>induction a using d9.casesOn with | eset h=>exact .eset (hS _ _ h)
  | tup _=>induction a using cM.casesOn with | tup a d=>exact .tup (hS _ _ a) (ls d e)
  | lst _=>induction a using dw.casesOn with | lst a d=>exact .lst (hS _ _ a) (ls d e)
  | mat _ _=>induction a using ii.casesOn with | mat a b c d=>exact .mat (hS _ _ a) b c (ls d e)
  | inst _ _=>induction a using ec.casesOn with | inst a b=>exact .inst (hS _ _ a) (gD (qT e) b)
  | bm _ _=>induction a using jl.casesOn with | bm a b=>exact .bm (hS _ _ a) (ih9 b e)
  | rng _ _=>induction a using ij.casesOn with | rng a=>exact .rng (hS _ _ a)
  | iat k=>induction a using fL.casesOn; exact .iat k _
  | scr=>induction a using jo.casesOn with | scr a b=>exact .scr (hS _ _ a) b
  | pos _ _ _=>induction a using dc.casesOn with | pos t a b c=>exact .pos t a b c
  | pend=>induction a using cV.casesOn; exact .pend _
  | obj=>induction a using ik.casesOn with | obj a=>exact .obj (hS _ _ a)
  | edq=>induction a using il.casesOn with | edq a b=>exact .edq (hS _ _ a) b
  | fnc=>induction a using jm.casesOn with | fnc a=>exact .fnc (hS _ _ a)
  | clo _ =>
   induction a using im.casesOn with
   | clo a1 a2 a3 a4 a5 a6 a7 a8 a9 a10 a11 =>
   refine .clo (hS _ _ a1) a2 a3 a4 a5 a6 a7 (hS _ _ a8) a9 a10 λ x c m=>?_;refine ag (a11 x c m) λ ad e1 e2=>?_;exact ⟨ad,e1,gD (qT (List.all_eq_true.mp e _ m)) e2⟩
theorem VRs.cut (hS:∀ a o,S a o->S' a o) {f:Nat}:∀ {l:List V} {r:List Value},VRs I S ρ l r->l.all (cw n f)=true->VRs I S' (ρ.take n) l r:=by
 intro l;induction l with
 | nil =>
  intro _ W _;induction W using bQ.casesOn; exact .nil
 | cons v l ih =>
  intro _ W e;induction W using aD.casesOn with
  | cons a b =>
  rw [List.all_cons,Bool.and_eq_true] at e;exact .cons (a.cut hS f e.1) (ih b e.2)
theorem ip.cut {P:Params} (hS:∀ a o,S a o->S' a o):∀ {l:List (Str×V)} {r:List DictEntry},ip P I S ρ l r->(l.all λ p=>cw n 5 p.2)=true->ip P I S' (ρ.take n) l r:=by
 intro l r h;induction h with
 | nil=>intro _; exact .nil
 | cons x t a _ ih =>
  intro e;rw [List.all_cons,Bool.and_eq_true] at e;exact .cons x t (a.cut hS 5 e.1) (ih e.2)
theorem io.cut {κ κ':Type} {f:κ->κ'} (hS:∀ a o,S a o->S' a o):∀ {l:List (κ×V)} {r:List (κ'×Value)},io f I S ρ l r->(l.all λ p=>cw n 5 p.2)=true->io f I S' (ρ.take n) l r:=by
 intro l r h;induction h with
 | nil=>intro _; exact .nil
 | cons a _ ih =>
  intro e;rw [List.all_cons,Bool.and_eq_true] at e;exact .cons (a.cut hS 5 e.1) (ih e.2)
theorem OR.cut (hS:∀ a o,S a o->S' a o) {o:O} {b:Obj} (a:OR prog w I S ρ o b) (e:t9 n o=true):OR prog w I S' (ρ.take n) o b:=by
 induction o using O.casesOn with
 | list _=>induction a using cD.casesOn with | list h=>exact .list (VRs.cut hS h e)
 | fld _=>induction a using iq.casesOn with | fld h=>exact .fld (ip.cut hS h e)
 | smap _=>cases a with | smap a b c d e' f=>exact .smap a b c d e' (f.cut hS e)
 | imap _=>cases a with | imap a b c d e' f=>exact .imap a b c d e' (f.cut hS e)
 | dnil=>cases a with | dnil a b=>exact .dnil a b
 | cell v =>
  induction v using Option.casesOn with
  | none=>cases a with | cellN a=>exact .cellN a
  | some _=>cases a with | cell a c=>exact .cell a (c.cut hS 5 e)
 | tab _=>induction a using jp.casesOn with | tab a b=>exact .tab a b
 | tabF _=>induction a using gS.casesOn with | tabF a b=>exact .tabF a λ pos c e=>let ⟨ad,oc,vs,t,e1,e2,e3⟩:=b pos c e; ⟨ad,oc,vs,t,e1,hS _ _ e2,e3⟩
 | tabT=>induction a using bO.casesOn with | tabT a=>exact .tabT a
 | acc _=>exact aT e
theorem oF {r r':V×List O} (e:mo n r=some r') (H:Sh hb prog w I hid ρ r.2 h) {x:Value} (V:VR I (ay hid ρ h) ρ r.1 x) (hn:∀ p∈I.fx,p.1 < n:=by exact λ _ m=>nomatch m):r'.2=r.2.take n∧Sh hb prog w I hid (ρ.take n) r'.2 h∧VR I (ay hid (ρ.take n) h) (ρ.take n) r'.1 x:=by
 refine ai e λ hc e=>?_;induction e using sI;refine ab (Bool.and_eq_true_iff.mp hc) λ h1 h2=>?_;have hS:∀ a o,ay hid ρ h a o->ay hid (ρ.take n) h a o:=λ a o z=>⟨z.1,z.2.1,λ m=>z.2.2 (List.mem_of_mem_take m)⟩;refine ⟨rfl,⟨⟨λ m=>H.sm.1 (List.mem_of_mem_take m),H.sm.2.1,λ p m=>gD (hn p m) (H.sm.2.2 p m)⟩,H.base,H.nd.sublist (List.take_sublist _ _),by rw [List.length_take,List.length_take,H.len],λ a m=>H.off a (List.mem_of_mem_take m),H.offH,λ i o e=>?_⟩,V.cut hS 5 h1⟩
 have hi:i < n:=by
  have:=(List.getElem?_eq_some_iff.mp e).1;rw [List.length_take] at this;grind
 have e':=e;rw [List.getElem?_take_of_lt hi] at e';refine ak (H.ob i o e') λ a b e1 e2 e3=>?_;exact ⟨a,b,gD hi e1,e2,e3.cut hS (List.all_eq_true.mp h2 _ (List.mem_of_getElem? e))⟩
theorem aL.trunc {args:List V} {r r':V×List O} {t:List Value->Sem Value} (o:aL hb prog w I k σ args r t) (e:mo σ.length r=some r'):aL hb prog w I k σ args r' t:=by
 intro A s hid ρ xs Q E R H V q;refine o A s hid ρ xs Q E R H V λ ρ' h' tk gs x x1 H1 V1=>?_;refine c9 (oF e H1 V1 λ p m=>by
  have:=(List.getElem?_eq_some_iff.mp (H.sm.2.2 p m)).1;rw [H.len] at this;exact this) λ e1 H2 V2=>?_
 refine aj x1.pre λ rr er=>?_;have et:ρ'.take σ.length=ρ:=by rw [er,<-H.len,List.take_left']; rfl
 rw [et] at H2 V2;exact q ρ h' tk gs x ⟨⟨⟨[],by exact dS⟩,x1.keep,λ a m n=>absurd m n⟩,x1.gb⟩ H2 V2
theorem vy:∀ {l:List (Str×Nat)} {x:Str} {c:Nat},oE l x=some c->(x,c)∈l:=by
 intro l;induction l with
 | nil =>
  intro _ _ h;exact ac h
 | cons p9 r ih =>
  obtain ⟨y,d⟩:=p9;intro x c h;unfold oE at h;cases q:y == x with
  | true=>rw [q] at h; induction h using sI; rw [beq_iff_eq.mp q]; exact List.mem_cons_self ..
  | false=>rw [q] at h; exact List.mem_cons_of_mem _ (ih h)
theorem qU {ps:List Str} (h:mn N ps=true):(∀ p∈ps,N.lookup p=some .local)∧ps.Nodup:=by
 unfold mn at h;revert h; refine aM ?_ λ h=>?_; rotate_left; replace h:=ar h; revert h; refine av ?_ λ h=>?_; rintro _ _ rfl h; replace h:=af h; revert h; refine aM ?_ aT; rintro rfl h; rotate_right; rintro rfl h
 ·exact ⟨λ _ m=>(nomatch m),List.nodup_nil⟩
 ·split at h
  ·rename_i e;exact ⟨λ p m=>by rw [List.mem_singleton.mp m]; exact e,by simp⟩
  ·exact aT h
 ·exact aT h
theorem vz (NL:hb.NoLimit) (SE:eN hb prog w I k ev) {c:lR} {args:List V} {r:V×List O} (e:Hu ev c args σ=some r):aL hb prog w I (k+1) σ (.clo c::args) r aS:=by
 intro A s hid ρ xs Q E R H V q;refine ai e λ hc e=>?_;simp only [Bool.and_eq_true,Bool.not_eq_true'] at hc;refine ab hc λ j00 hl=>?_; clear hc; refine ab j00 λ j10 hps=>?_; clear j00; refine ab j10 λ j20 hge=>?_; clear j10; refine ab j20 λ hs hco=>?_; clear j20;have hl:=Nat.eq_of_beq_eq_true hl;refine ab (jH hs) λ hkind hnm=>?_;refine ab (qU hps) λ hloc hnd=>?_;induction V using aD.casesOn with
 | cons Vf Vs =>
  rename_i f xs;induction Vf using im.casesOn with
  | clo a1 a2 a3 a4 a5 a6 a7 a8 a9 a10 a11 =>
   rename_i a cd fd oc vs t;have hlen:=Vs.length;have Lr:iQ I (ay hid ρ s.heap) ρ (c.ps.zip args) (c.ps.zip xs):=iQ.zip Vs;have NL':s.heap.NoLimit:=NL.keeps H.base;refine wpAny_call (kla_callFunE (by show A.depth < 1000; have:=R.d; exact Nat.lt_of_le_of_lt (Nat.le_add_right _ _) (by assumption)) a1.1 rfl (by rw [a3]; exact hco) (by rw [a3]; exact hge) a2 ⟨cd,oc,vs,t,a7,a8.1,a9,a10⟩ ?_)
   refine a6 s xs (by exact Eq.trans (Eq.symm (by assumption)) (by assumption)) _ _ _ _ ?_
   refine wpAny_newFunctionEnv (by rw [a3]; exact λ y hy=>(hnm y hy).1) (λ y hy=>?_) (λ h1 hns hsb=>⟨NL'.fresh _ hsb,?_⟩) (by rw [a3]; exact hkind)
   ·rw [a3]; exact hloc _ (List.of_mem_zip hy).1
   ·have hk1:∀ b o,s.heap.get? b=some o->h1.get? b=some o:=λ b o e=>hsb.extBut b o (bd e) (Heap.get?_push_of_some _ e);have hn:=bh s.heap;refine da (id hns) λ oL _ _ eL _=>?_;refine ab (H.hideK hn hk1 ⟨oL,eL⟩) λ H1 st1=>?_;have hJ:s.heap.objs.size∉hid:=H.nextH;have Y1:ao I c.scope.names (newEnv fd.scope s.heap.objs.size fd.globals fd.closure (fd.qualname ++ ".<locals>.") (some a) fd.code none fd.builtins) ⟨F.of ((iu c.scope.names c.ps).map (aX args)),c.scope.names.map λ p=>oE c.cels p.1,none⟩ (s.heap.objs.size::hid) ρ h1:=by
     refine ⟨by show fd.scope.kind=_; rw [a3]; exact hkind,by show fd.scope.names=_; rw [a3],a4,a5,List.mem_cons_self ..,⟨_,hns,λ x i kd v hp hv=>?_⟩,λ x i kd c' hp hi=>?_,λ i ei=>by exact ac ei⟩
     ·refine ab (oD hnd hp hv) ?_; rintro rfl hlk;refine ag (Lr.rev.look hlk) λ y hy Vy=>?_;exact ⟨y,hy,Vy.tr ⟨[],by exact dS⟩ st1⟩
     ·rw [aE,List.getElem?_map] at hi;obtain ⟨_,j,e3,e4⟩:=bn hp;have hij:i=j:=by simpa using e3
      subst hij;rw [e4] at hi;have hi:=vy (Option.some.inj hi);refine ag (a11 x c' hi) λ ad f1 f2=>?_;exact ⟨ad,f1,f2⟩
    refine kla_codeExpr (SE _ _ _ _ _ e _ _ _ _ _ _ _ (R.deeper _) Y1 H1 λ ρ2 h2 tk2 gs2 x x2 H2 V2=>?_);refine ab (H2.drop (h':=h2) hJ λ c o _ e=>e) λ H3 st3=>?_;have x3:aI I [] ρ ρ2 s.heap s.gens h2 gs2:=⟨⟨x2.pre,λ c o e n m=>x2.keep c o (hk1 _ _ e) n m,λ a m n=>by
     have z:=x2.new a m n;cases q':s.heap.get? a with
     | none=>rfl
     | some o=>have z:h1.get? a=none:=z; rw [hk1 _ _ q'] at z; cases z⟩,x2.gb⟩
    exact q ρ2 h2 tk2 gs2 x x3 H3 (V2.tr ⟨[],by exact dS⟩ st3)
end
end
end Mine
end
section
open PySem PySem.W PySem.Spec PySem.Calls PyProof.Rows
namespace Mine
noncomputable section
section
noncomputable def EK (a b:Int):Int:=match a with
 | .ofNat a=>(match b with | .ofNat b=>.ofNat (Nat.add a b) | .negSucc n=>Int.add (.ofNat a) (.negSucc n))
 | .negSucc n=>Int.add (.negSucc n) b
theorem ua (a b:Int):EK a b=a+b:=by cases a<;>cases b<;>rfl
def Hv (a b:Int):Int:=match a with
 | .ofNat a=>(match b with | .ofNat b=>aB (Nat.ble b a) (.ofNat (Nat.sub a b)) (Int.sub (.ofNat a) (.ofNat b)) | .negSucc n=>Int.sub (.ofNat a) (.negSucc n))
 | .negSucc n=>Int.sub (.negSucc n) b
theorem BB (a b:Int):Hv a b=a - b:=by
 cases a with
 | negSucc n=>rfl
 | ofNat a =>
  cases b with
  | negSucc n=>rfl
  | ofNat b =>
   show aB (Nat.ble b a) (Int.ofNat (Nat.sub a b)) (Int.sub (.ofNat a) (.ofNat b))=_;cases q:Nat.ble b a with
   | false=>rfl
   | true =>
    have:=Nat.le_of_ble_eq_true q;show ((a - b:Nat):Int)=(a:Int) - (b:Int);grind
noncomputable def yV (a b:Int):Bool:=match a with
 | .ofNat a=>(match b with | .ofNat b=>Nat.ble (Nat.succ a) b | .negSucc _=>false)
 | .negSucc n=>match b with | .ofNat b=>true | .negSucc m=>Nat.ble (Nat.succ m) n
theorem ub (a b:Nat):Nat.ble a b=decide (a≤b):=by
 cases q:Nat.ble a b with
 | true=>exact (decide_eq_true (Nat.le_of_ble_eq_true q)).symm
 | false=>exact (decide_eq_false λ h=>by rw [Nat.ble_eq_true_of_le h] at q; cases q).symm
theorem fe (a b:Int):yV a b=decide (a < b):=by
 cases a<;>cases b
 ·show Nat.ble _ _=_;rw [ub]; exact decide_eq_decide.mpr (by simp; rfl)
 ·show false=_;exact (decide_eq_false (by simp only [Int.ofNat_eq_natCast]; lia)).symm
 ·show true=_;exact (decide_eq_true (by simp only [Int.ofNat_eq_natCast]; lia)).symm
 ·show Nat.ble _ _=_;rw [ub]; exact decide_eq_decide.mpr (by lia)
noncomputable def oG (a b:Int):Bool:=match a with
 | .ofNat a=>(match b with | .ofNat b=>Nat.beq a b | .negSucc _=>false)
 | .negSucc n=>match b with | .ofNat b=>false | .negSucc m=>Nat.beq m n
theorem cx (a b:Nat):Nat.beq a b=decide (a=b):=by
 cases q:Nat.beq a b with
 | true=>exact (decide_eq_true (Nat.eq_of_beq_eq_true q)).symm
 | false=>exact (decide_eq_false (Nat.ne_of_beq_eq_false q)).symm
theorem dD (a b:Int):oG a b=decide (a=b):=by
 cases a<;>cases b
 ·show Nat.beq _ _=_;rw [cx]; exact decide_eq_decide.mpr (by simp only [Int.ofNat_eq_natCast]; lia)
 ·show false=_;exact (decide_eq_false (by simp only [Int.ofNat_eq_natCast]; simp [*])).symm
 ·show false=_;exact (decide_eq_false (by simp only [Int.ofNat_eq_natCast]; simp [*])).symm
 ·show Nat.beq _ _=_;rw [cx]; exact decide_eq_decide.mpr (by lia)
noncomputable def vA (a:Int):Bool:=match a with
 | .ofNat a=>Nat.ble a 1000000
 | .negSucc a=>Nat.ble a 1000000
theorem i8 {a:Int} (h:vA a=true):-1000001≤a∧a≤1000000:=by
 cases a with
 | ofNat a=>have:=Nat.le_of_ble_eq_true h; constructor<;>simp<;>lia
 | negSucc a=>have:=Nat.le_of_ble_eq_true h; constructor<;>lia
def eB (f:Int->Int->V) (a b:V) (σ:List O):Option (V×List O):=(bv none (λ a=>((bv none (λ b=>some (f a b,σ)) b))) a)
noncomputable def EL (b:V):Bool:=match b with
 | .int (.ofNat b)=>Nat.ble 1 b && Nat.ble b 1000000
 | _=>false
def Hw (b:V):Bool:=(bv false (λ b=>vA b) b)
def Hx (a b:V) (σ:List O):Option (V×List O):=au (cB a σ) λ l=>au (cB b σ) λ r=>aB (Nat.ble (Nat.add l.length r.length) 1000) (some (.lst (l++r),σ)) none
def qV:V->Bool:=λ x0=>(bv (false) (λ y390=>true) x0)
def Jp {α:Type} (add sub mul mod fdiv d:α) (op:Operator):α:=Operator.casesOn (motive:=λ _=>α) op add sub mul d d mod d d d d d d fdiv
def yW (op:Operator) (a b:V) (σ:List O):Option (V×List O):=Jp (aB (qV a) (eB (λ x y=>.int (EK x y)) a b σ) (Hx a b σ)) (eB (λ x y=>.int (Hv x y)) a b σ)
 (aB (Hw a) (eB (λ x y=>.int (x * y)) a b σ) none) (aB (EL b) (eB (λ x y=>.int (x.fmod y)) a b σ) none) (aB (EL b) (eB (λ x y=>.int (x.fdiv y)) a b σ) none) none op
def BC (op:Operator) (a b:V) (σ:List O):Option (V×List O):=aB (decide (op=.Add)) (eB (λ x y=>.int (EK x y)) a b σ) none
def BD (op:UnaryOp) (a:V) (σ:List O):Option (V×List O):=aB (decide (op=.USub)) (bv none (λ x=>some (.int (-x),σ)) a) none
def yX (f:Int->Int->Bool) (a b:V):Option Bool:=(bv none (λ a=>((bv none (λ b=>some (f a b)) b))) a)
def BE (a:V) (_:List O):Option Bool:=(jr (aP (cg (aP (bv none (λ i=>some (!(oG i 0))) a)) (some false) a)) (λ b=>some b) a)
def Hy (a b:AC):Option Bool:=match a with
 | .lit n=>((kU none (λ m=>some (Nat.beq n m)) b))
 | .at n=>match b with | .at m=>some (Nat.beq n m) | _=>none
def FI:AS->AS->Option Bool
 | [],[]=>some true
 | a::r,b::q=>au (Hy a b) λ t=>aB t (FI r q) (some false)
 | [],_::_=>some false
 | _::_,[]=>some false
def IN (v:V) (σ:List O):Option (List V):=cB v σ
def oH (f:V->V->Option Bool):List V->List V->Option Bool
 | [],[]=>some true
 | a::r,b::q=>au (f a b) λ t=>au (oH f r q) λ u=>some (t && u)
 | _,_=>some false
def mq (f:V->V->Option Bool) (l r:List V):Option Bool:=aB (Nat.beq l.length r.length) (oH f l r) (some false)
def EM (ih:V->V->List O->Option Bool) (a b:V) (σ:List O):Option Bool :=
 bv (aP (aV (aP (eU (au (cB a σ) λ l=>au (cB b σ) λ r=>mq (λ x y=>ih x y σ) l r) (λ l=>eU none (λ r=>aB (Nat.beq l.length r.length) (oH (λ x y=>ih x y σ) l r) none) b) a))
  (λ x=>aV none (λ y=>FI x y) b) a)) (λ x=>bv none (λ y=>some (oG x y)) b) a
def FJ (n:Nat):V->V->List O->Option Bool:=Nat.rec (λ _ _ _=>none) (λ _ ih=>EM ih) n
def Hz (a b:V):Option Bool:=(cg none ((cg (aP (bv (aP (jr (aP (aV (aP (jt (aP (eK (aP (eU none (λ y390=>some false) a)) (λ y390=>some false) a)) (λ y390=>some false) a)) (λ y390=>some false) a)) (λ y390=>some false) a)) (λ y390=>some false) a)) (some true) a)) b)
noncomputable def IP {α:Type} (eq ne lt le gt ge is isn inn nin:α) (op:CmpOp):α:=CmpOp.casesOn (motive:=λ _=>α) op eq ne lt le gt ge is isn inn nin
def qX (op:CmpOp) (a b:V) (σ:List O):Option Bool:=IP (FJ 5 a b σ) (bs (FJ 5 a b σ) λ t=>!t) (yX yV a b) (yX (λ x y=>!(yV y x)) a b) (yX (λ x y=>yV y x) a b)
 (yX (λ x y=>!(yV x y)) a b) (Hz a b) (bs (Hz a b) λ t=>!t) none none op
def Ks (n:Nat) (i:Int):Nat:=match i with
 | .ofNat k=>aB (Nat.ble k n) k n
 | .negSucc k=>n - (k+1)
def f8 (i:Int) (n:Nat):Option Nat:=match i with
 | .ofNat k=>aB (Nat.ble (Nat.succ k) n) (some k) none
 | .negSucc k=>aB (Nat.ble (Nat.succ k) n) (some (Nat.sub n (Nat.succ k))) none
def uc (l:List V) (b:V) (σ:List O):Option (V×List O):=(bv none (λ i=>aB (vA i) (au (f8 i l.length) λ k=>bs (aU l k) λ v=>(v,σ)) none) b)
def ud (a b:V) (σ:List O):Option (V×List O):=eU (au (cB a σ) λ l=>uc l b σ) (λ l=>uc l b σ) a
def part (v:V):Option (Option Int):=(cg (aP (bv none (λ i=>some (some i)) v)) (some none) v)
def EN (a b c:V) (σ:List O):Option (V×List O):=au (cB a σ) λ l=>aB (Nat.ble l.length 1000) (au (part b) λ lo=>au (part c) λ hi =>
 some (.lst ((l.drop (lo.elim 0 (clipAt l.length))).take (hi.elim l.length (clipAt l.length) - lo.elim 0 (clipAt l.length))),σ)) none
end
section
variable {hb:Heap} {prog:Program} {w:World} {I:aZ} {k:Nat} {hid ρ ρ' ρ'':List Addr} {σ:List O} {A:Around} {s:Shared} {E:Value->Shared->Prop} {h h' h'':Heap}
theorem fg {i:Int} {n k:Nat} (h:f8 i n=some k):seqIndex? i n=some k:=by
 cases i with
 | ofNat m =>
  refine ai h λ h1 h2=>?_;have e:=Option.some.inj h2;subst e;have:=Nat.le_of_ble_eq_true h1;have h1:¬ (m:Int) < 0:=by simp [*]
  have h2:(0:Int)≤m:=by simp [*]
  have h3:(m:Int) < n:=by lia
  show (let j:=if (m:Int) < 0 then (m:Int)+n else m; if (decide (0≤j) && decide (j < n))=true then some j.toNat else none)=_
  simp only [h1,h2,h3,if_false,decide_true,Bool.and_self,if_true,Int.toNat_natCast]
 | negSucc m =>
  refine ai h λ h1 h2=>?_;have e:=Option.some.inj h2;rw [<-e];have:=Nat.le_of_ble_eq_true h1;have h1:Int.negSucc m < 0:=by simp [*]
  have h2:(0:Int)≤Int.negSucc m+n:=by lia
  have h3:Int.negSucc m+(n:Int) < n:=by omega
  show (let j:=if Int.negSucc m < 0 then Int.negSucc m+n else Int.negSucc m; if (decide (0≤j) && decide (j < n))=true then some j.toNat else none)=_
  simp only [h1,h2,h3,decide_true,Bool.and_self,if_true];congr 1;show _=n - (m+1);lia
theorem dW {v:V} {x:Value} {l:List V} (e:cB v σ=some l) (H:Sh hb prog w I hid ρ σ h) (Vx:VR I (ay hid ρ h) ρ v x):∃ a items n,x=.ref a∧IsL h a items n∧VRs I (ay hid ρ h) ρ l items.toList:=by
 induction v using V.casesOn with
 | lst l =>
  induction e using sI;induction Vx using dw.casesOn with
  | lst a d=>exact ⟨_,_,_,rfl,a.1,d⟩
 | ref i =>
  refine aa e λ o e1 e2=>?_;cases tR e2;rw [aE] at e1;induction Vx using bV.casesOn with
  | ref hr =>
   refine ak (H.ob _ _ e1) λ a b f1 f2 f3=>?_;rw [hr] at f1;induction f1 using sI;induction f3 using cD.casesOn with
   | list V=>exact ⟨_,_,_,rfl,f2,by simpa using V⟩
 | _=>exact ac e
theorem aA.tok {r:V×List O} {Q:Value->Shared->Prop} {n:Nat} {x:Value} (H:Sh hb prog w I hid ρ r.2 s.heap) (q:aA hb prog w I hid ρ s r Q) (v:VR I (ay hid ρ s.heap) ρ r.1 x):Q x { s with toks:=n }:=aA.here H v q
theorem ci {f:Int->Int->V} {a b:V} {r:V×List O} (h:eB f a b σ=some r):∃ x y,a=.int x∧b=.int y∧r=(f x y,σ):=by
 induction a using V.casesOn<;>first | (exact ac h; done) | skip
 induction b using V.casesOn<;>first | (exact ac h; done) | skip
 induction h using sI;exact ⟨_,_,rfl,rfl,rfl⟩
theorem di {a b:V} {xs:List Value} {S:Addr->Obj->Prop} (V:VRs I S ρ [a,b] xs):∃ x y,xs=[x,y]∧VR I S ρ a x∧VR I S ρ b y:=by
 induction V using aD.casesOn with
 | cons h1 V=>induction V using aD.casesOn with
  | cons h2 V=>induction V using bQ.casesOn; exact ⟨_,_,rfl,h1,h2⟩
theorem wx {a:V} {xs:List Value} {S:Addr->Obj->Prop} (V:VRs I S ρ [a] xs):∃ x,xs=[x]∧VR I S ρ a x:=by
 induction V using aD.casesOn with
 | cons h1 V=>induction V using bQ.casesOn; exact ⟨_,rfl,h1⟩
theorem oI {b:Int} (h:EL (.int b)=true):1≤b∧b≤1000000:=by
 cases b with
 | negSucc n=>exact aT h
 | ofNat n =>
  have h:(Nat.ble 1 n && Nat.ble n 1000000)=true:=h;rw [Bool.and_eq_true] at h;have h1:=Nat.le_of_ble_eq_true h.1;have h2:=Nat.le_of_ble_eq_true h.2;constructor<;>simp<;>lia
theorem vB {a b:V} {r:V×List O} (h:Hx a b σ=some r):aL hb prog w I k σ [a,b] r (t2 (binaryOp .Add)):=by
 intro A s hid ρ xs Q E R H V q;refine ah λ G9 fin9=>?_;refine ak (di V) ?_; rintro x y rfl Vx Vy;refine aa h λ l h1 h=>?_;refine aa h λ m h2 h=>?_;refine ai h λ hl h=>?_;induction h using sI;have hl:=Nat.le_of_ble_eq_true hl;refine dK (dW h1 H Vx) ?_; rintro a1 i1 n1 rfl g1 V1;refine dK (dW h2 H Vy) ?_; rintro a2 i2 n2 rfl g2 V2;have e1:=V1.length;have e2:=V2.length;simp only [Array.length_toList] at e1 e2;have hl:l.length+m.length≤1000:=hl;refine fin9 ?_; clear fin9 G9;refine PySem.P.add_list g1 g2 ?_ (by rw [<-e1,<-e2]; unfold sizeLine; exact Nat.le_trans (by assumption) (by decide))
 refine ab (H.alloc { cls:=.type "list",data:=.seq (i1++i2) }) λ x2 H2=>?_;exact q ρ _ s.toks s.gens _ x2 H2 (.lst (H.stbNew rfl) (by simpa using ((V1.ext x2).append (V2.ext x2))))
theorem fG (NL:hb.NoLimit) (op:Operator) (a b:V) (σ:List O) (r:V×List O) (h:yW op a b σ=some r):aL hb prog w I k σ [a,b] r (t2 (binaryOp op)):=by
 induction op using Operator.casesOn with
 | Add =>
  replace h:aB (qV a) _ _=some r:=h;cases hi:qV a with
  | false=>rw [hi] at h; exact vB h
  | true =>
   rw [hi] at h;refine ak (ci h) ?_; rintro x y rfl rfl rfl;intro A s hid ρ xs Q E R H V q;refine ak (di V) ?_; rintro _ _ rfl Vx Vy;induction Vx using aH.casesOn; induction Vy using aH.casesOn;refine PySem.P.add_int ?_;rw [<-ua];exact aA.tok H q (.int _ _)
 | Sub =>
  refine ak (ci h) ?_; rintro x y rfl rfl rfl;intro A s hid ρ xs Q E R H V q;refine ak (di V) ?_; rintro _ _ rfl Vx Vy;induction Vx using aH.casesOn; induction Vy using aH.casesOn;refine PySem.P.sub_int ?_;rw [<-BB];exact aA.tok H q (.int _ _)
 | Mult =>
  refine ai h λ ht h=>?_;refine ak (ci h) ?_; rintro x y rfl rfl rfl;intro A s hid ρ xs Q E R H V q;refine ak (di V) ?_; rintro _ _ rfl Vx Vy;induction Vx using aH.casesOn; induction Vy using aH.casesOn;refine PySem.P.mul_int (aA.tok H q (.int _ _)) ?_;have:=i8 (show vA x=true from ht);exact IntMulOk.of_left (intBits_le_64 (by omega) (by omega))
 | FloorDiv =>
  refine ai h λ ht h=>?_;refine ak (ci h) ?_; rintro x y rfl rfl rfl;intro A s hid ρ xs Q E R H V q;refine ak (di V) ?_; rintro _ _ rfl Vx Vy;induction Vx using aH.casesOn; induction Vy using aH.casesOn;have:=oI ht;exact floordiv_int (by lia) (aA.tok H q (.int _ _)) (.inl (PyProof.noPylong_small (by grind)))
 | Mod =>
  refine ai h λ ht h=>?_;refine ak (ci h) ?_; rintro x y rfl rfl rfl;intro A s hid ρ xs Q E R H V q;refine ak (di V) ?_; rintro _ _ rfl Vx Vy;induction Vx using aH.casesOn; induction Vy using aH.casesOn;have:=oI ht;exact mod_int' (by lia) (aA.tok H q (.int _ _))
 | _ =>
  exact ac h
theorem lb (op:Operator) (a b:V) (σ:List O) (r:V×List O) (h:BC op a b σ=some r):aL hb prog w I k σ [a,b] r (t2 (inplaceOp op)):=by
 unfold BC at h;refine ai h λ hq h9=>?_;clear h;cases of_decide_eq_true hq
 ·refine ak (ci h9) ?_; rintro x y rfl rfl rfl;intro A s hid ρ xs Q E R H V q;refine ak (di V) ?_; rintro _ _ rfl Vx Vy;induction Vx using aH.casesOn; induction Vy using aH.casesOn;refine PySem.P.iadd_int ?_;rw [<-ua];exact aA.tok H q (.int _ _)
theorem lc (op:UnaryOp) (a:V) (σ:List O) (r:V×List O) (h:BD op a σ=some r):aL hb prog w I k σ [a] r (t1 (unaryOp op)):=by
 unfold BD at h;refine ai h λ hq h9=>?_;clear h;cases of_decide_eq_true hq
 ·revert h9; refine bc ?_ λ h9=>?_; rintro _ rfl h9
  ·induction h9 using sI;intro A s hid ρ xs Q E R H V q;refine ag (wx V) ?_; rintro _ rfl Vx;induction Vx using aH.casesOn;exact PySem.P.neg_int (aA.tok H q (.int _ _))
  ·exact ac h9
theorem lf (a:V) (σ:List O) (b:Bool) (h:BE a σ=some b):∀ A s hid ρ x Q E,aC A k->Sh hb prog w I hid ρ σ s.heap->VR I (ay hid ρ s.heap) ρ a x->df hb prog w I hid ρ s (b,σ) Q->wpAny (model prog w) A (truthy x) Q E s:=by
 intro A s hid ρ x Q E R H V q;have here:=q ρ s.heap s.toks s.gens (aI.refl _ _ _ _) H;unfold BE at h;revert h; refine gV ?_ λ h=>?_; rotate_left; replace h:=ar h; revert h; refine bj ?_ λ h=>?_; rotate_left; replace h:=ar h; revert h; refine bc ?_ λ h=>?_; rintro _ rfl h; rotate_right; rintro rfl h; rotate_right; rintro _ rfl h
 ·induction h using sI; induction V using cC.casesOn; exact wpAny_truthy_bool here
 ·induction h using sI; induction V using be.casesOn; exact truthy_none here
 ·induction h using sI; induction V using aH.casesOn;refine PySem.P.truthy_int ?_;rename_i i t;have:(i != 0)=!(oG i 0):=by rw [dD]; rfl
  rw [this]; exact here
 ·exact ac h
theorem cQ {f:Int->Int->Bool} {a b:V} {t:Bool} (h:yX f a b=some t):∃ x y,a=.int x∧b=.int y∧t=f x y:=by
 induction a using V.casesOn<;>first | (exact ac h; done) | skip
 induction b using V.casesOn<;>first | (exact ac h; done) | skip
 induction h using sI;exact ⟨_,_,rfl,rfl,rfl⟩
noncomputable def aZ.Inj (I:aZ):Prop:=∀ i j,I.θ i=I.θ j->i=j
theorem qY (J:I.Inj) {a b:AC} {t:Bool} (h:Hy a b=some t):decide (a.den I=b.den I)=t:=by
 cases a<;>cases b<;>first | (exact ac h; done) | skip
 ·induction h using sI;rw [cx]; rfl
 ·induction h using sI;rw [cx];exact decide_eq_decide.mpr ⟨J _ _,λ e=>by rw [e]⟩
theorem vC (J:I.Inj):∀ {a b:AS} {t:Bool},FI a b=some t->decide (a.map (AC.den I)=b.map (AC.den I))=t:=by
 intro x9;induction x9 with
 | nil =>
  intro y9 t h;induction y9 using List.casesOn with
  | nil=>induction h using sI; rfl
  | cons _ _=>induction h using sI; rfl
 | cons a r ih =>
  intro y9 t h;induction y9 using List.casesOn with
  | nil=>induction h using sI; rfl
  | cons b q =>
   refine aa h λ u h1 h2=>?_;have e1:=qY J h1;induction u using Bool.casesOn with
   | true =>
    have e2:=ih (show FI r q=some t from h2);rw [<-e2];refine decide_eq_decide.mpr ?_;have:=of_decide_eq_true e1;simp [this]
   | false =>
    induction h2 using sI;have:=of_decide_eq_false e1;exact decide_eq_false λ e=>this (by simpa using (List.cons.inj (by simpa using e)).1)
theorem yY (J:I.Inj) {a b:AS} {t:Bool} (h:FI a b=some t):(den I a == den I b)=t:=by
 rw [<-vC J h,<-SeqAt.str_beq];show ((a.map (AC.den I)).toArray.toList == (b.map (AC.den I)).toArray.toList)=_;simp only [List.toList_toArray];rw [Bool.eq_iff_iff]; simp
end
end
end Mine
end
section
open PySem PySem.W PySem.Spec PySem.Calls PyProof.Rows PySem.SeqAt
namespace Mine
noncomputable section
section
variable {hb:Heap} {prog:Program} {w:World} {I:aZ} {k:Nat} {hid ρ ρ' ρ'':List Addr} {σ:List O} {A:Around} {s:Shared} {E:Value->Shared->Prop} {h h' h'':Heap}
noncomputable def jL (σ:List O) (A:Around) (s:Shared) (x y:Value) (b:Bool):Prop:=EqAt A s x y b∧RcAt A s x y b∧RcNeAt A s x y (!b)∧(x=y->b=true)
theorem yZ {f:V->V->Option Bool}:∀ {l r:List V} {t:Bool},oH f l r=some t->l.length=r.length->∃ e:Nat->Bool,(∀ j a b,l[j]?=some a->r[j]?=some b->f a b=some (e j))∧(List.range l.length).all e=t:=by
 intro l;induction l with
 | nil =>
  intro r t h hl;induction r using List.casesOn with
  | cons _ _=>cases hl
  | nil=>induction h using sI; exact ⟨λ _=>true,λ j a b e=>by simp at e,rfl⟩
 | cons a l ih =>
  intro r t h hl;induction r using List.casesOn with
  | nil=>cases hl
  | cons b r =>
  refine ah λ G9 fin9=>?_;refine aa h λ u h1 h=>?_;refine aa h λ v h2 h=>?_;induction h using sI;refine ag (ih h2 (by simpa using hl)) λ e h3 h4=>?_
  refine fin9 ?_; clear fin9 G9;refine ⟨λ j=>match j with | 0=>u | j+1=>e j,λ j x y e1 e2=>?_,?_⟩
  ·induction j using Nat.casesOn with
   | zero=>simp at e1 e2; subst e1 e2; exact h1
   | succ j=>exact h3 j x y (by simpa using e1) (by simpa using e2)
  ·rw [List.length_cons,List.range_succ_eq_map,List.all_cons,List.all_map,<-h4];rfl
theorem lg (J:I.Inj):∀ (n:Nat) {a b:V} {t:Bool} {x y:Value} {A:Around},FJ n a b σ=some t->Sh hb prog w I hid ρ σ s.heap->VR I (ay hid ρ s.heap) ρ a x->VR I (ay hid ρ s.heap) ρ b y->A.units+n < cLine->jL σ A s x y t:=by
 intro n;induction n with
 | zero =>
  intro _ _ _ _ _ _ h _ _ _ _;exact ac h
 | succ n ih =>
  intro a b t x y A h H Vx Vy hu;have seqs:∀ {l r:List V} {i1 i2:Array Value},Nat.beq l.length r.length=true->oH (λ x y=>FJ n x y σ) l r=some t->VRs I (ay hid ρ s.heap) ρ l i1.toList->VRs I (ay hid ρ s.heap) ρ r i2.toList ->
    i1.size=i2.size∧∃ e:Nat->Bool,(List.range i1.size).all e=t∧∀ j (h1:j < i1.size) (h2:j < i2.size),jL σ A.in1 s i1[j] i2[j] (e j):=by
   intro l r i1 i2 hq e V1 V2;have z1:=V1.size;have z2:=V2.size;have hl:=Nat.eq_of_beq_eq_true hq;refine ag (yZ e hl) λ e' g1 g2=>?_;refine ⟨by simp only [*],e',by rw [z1]; exact g2,λ j h1 h2=>?_⟩
   have a1:l[j]?=some l[j]:=List.getElem?_eq_getElem (by simp_all)
   have a2:r[j]?=some r[j]:=List.getElem?_eq_getElem (by simp_all)
   refine ag (V1.get a1) λ u1 b1 W1=>?_;refine ag (V2.get a2) λ u2 b2 W2=>?_;rw [Array.getElem?_toList,Array.getElem?_eq_getElem h1] at b1;rw [Array.getElem?_toList,Array.getElem?_eq_getElem h2] at b2;induction b1 using sI; induction b2 using sI;exact ih (g1 j _ _ a1 a2) H W1 W2 (by show A.units+1+n < cLine; lia)
  have lists:∀ {l r:List V},cB a σ=some l->cB b σ=some r->mq (λ x y=>FJ n x y σ) l r=some t->jL σ A s x y t:=by
   intro l r e1 e2 e;refine dK (dW e1 H Vx) ?_; rintro a1 i1 n1 rfl g1 V1;refine dK (dW e2 H Vy) ?_; rintro a2 i2 n2 rfl g2 V2;have L1:s.heap.IsList a1 i1:=⟨_,g1,rfl,_,rfl⟩;have L2:s.heap.IsList a2 i2:=⟨_,g2,rfl,_,rfl⟩;have fin:RcAt A s (.ref a1) (.ref a2) t->RcNeAt A s (.ref a1) (.ref a2) (!t)->(a1=a2->t=true)->jL σ A s (.ref a1) (.ref a2) t:=λ r1 r2 r3=>by
    refine ⟨?_,r1,r2,λ q=>r3 (by injection q)⟩
    by_cases hq:a1=a2
    ·rw [r3 hq,hq]; exact EqAt.same _
    ·exact EqAt.of_refs hq r1
   have same:a1=a2->i1=i2:=λ q=>by
    subst q;have g1:s.heap.get? a1=_:=g1;have g2:s.heap.get? a1=_:=g2;rw [g1] at g2; cases g2; rfl
   have hu':A.units < cLine:=by exact Nat.lt_of_le_of_lt (Nat.le_add_right _ _) (by assumption)
   unfold mq at e;cases hq:Nat.beq l.length r.length with
   | true =>
    rw [hq] at e;obtain ⟨hs,e',c1,c2⟩:=seqs hq e V1 V2;subst c1;refine fin (RcAt.lists L1 L2 hs hu' λ j h1 h2=>(c2 j h1 h2).1) (RcNeAt.lists L1 L2 hs hu' λ j h1 h2=>(c2 j h1 h2).1) λ q=>?_;have:=same q;subst this;rw [List.all_eq_true];intro j hj;rw [List.mem_range] at hj;exact (c2 j hj hj).2.2.2 rfl
   | false =>
    rw [hq] at e;induction e using sI;have:=Nat.ne_of_beq_eq_false hq;have z1:=V1.size;have z2:=V2.size;have hs:(i1.size != i2.size)=true:=by simp; simp_all
    refine fin (RcAt.lists_lengths L1 L2 hs hu') (RcNeAt.lists_lengths L1 L2 hs hu') λ q=>?_;have:=same q;subst this;simp at hs
  change EM (FJ n) a b σ=some t at h;unfold EM at h;revert h; refine bc ?_ λ h=>?_; rotate_left; replace h:=ar h; revert h; refine ax ?_ λ h=>?_; rotate_left; replace h:=ar h; revert h; refine eV ?_ λ h=>?_; rintro _ rfl h; rotate_right; rintro _ rfl h; rotate_right; rintro _ rfl h
  ·revert h; refine bc ?_ λ h=>?_; rintro _ rfl h
   ·induction h using sI;induction Vx using aH.casesOn; induction Vy using aH.casesOn;rename_i i t1 j t2;rw [dD];refine ⟨EqAt.int_int _ _ _ _,RcAt.int_int _ _ _ _,RcNeAt.int_int _ _ _ _,λ q=>?_⟩;injection q with q1 q2
    simpa using q1
   ·exact ac h
  ·revert h; refine ax ?_ λ h=>?_; rintro _ rfl h
   ·induction Vx using aG.casesOn; induction Vy using aG.casesOn;have e:=yY J h;subst e;refine ⟨EqAt.str_str _ _ _ _,RcAt.str_str _ _ _ _,RcNeAt.str_str _ _ _ _,λ q=>?_⟩;injection q with q1 q2
    rw [q1]; exact beq_self_eq_true _
   ·exact ac h
  ·revert h; refine eV ?_ λ h=>?_; rintro _ rfl h
   ·induction Vx using cM.casesOn with
    | tup g1 V1=>induction Vy using cM.casesOn with
     | tup g2 V2 =>
      rename_i a1 i1 n1 a2 i2 n2;have L1:s.heap.IsTuple a1 i1:=⟨_,g1.1,rfl,_,rfl⟩;have L2:s.heap.IsTuple a2 i2:=⟨_,g2.1,rfl,_,rfl⟩;have hu':A.units < cLine:=by exact Nat.lt_of_le_of_lt (Nat.le_add_right _ _) (by assumption)
      have fin:RcAt A s (.ref a1) (.ref a2) t->RcNeAt A s (.ref a1) (.ref a2) (!t)->(a1=a2->t=true)->jL σ A s (.ref a1) (.ref a2) t:=λ r1 r2 r3=>by
       refine ⟨?_,r1,r2,λ q=>r3 (by injection q)⟩
       by_cases hq:a1=a2
       ·rw [r3 hq,hq]; exact EqAt.same _
       ·exact EqAt.of_refs hq r1
      refine ai h λ hq h=>?_;obtain ⟨hs,e',c1,c2⟩:=seqs hq h V1 V2;have key:((List.range (min i1.size i2.size)).all e' && i1.size == i2.size)=t:=by
       rw [<-hs,Nat.min_self,c1]; simp
      rw [<-key];rw [<-key] at fin;refine fin (RcAt.tuples L1 L2 hu' λ j h1 h2=>(c2 j h1 h2).1) (RcNeAt.tuples L1 L2 hu' λ j h1 h2=>(c2 j h1 h2).1) λ q=>?_;rw [key,<-c1];have:i1=i2:=by
       subst q;have h1:=g1.1;rw [g2.1] at h1; cases h1; rfl
      subst this;rw [List.all_eq_true];intro j hj;rw [List.mem_range] at hj;exact (c2 j hj hj).2.2.2 rfl
   ·exact ac h
  ·refine aa h λ l e1 h=>?_;refine aa h λ r e2 h=>?_;exact lists e1 e2 h
theorem dX {a b:V} {t:Bool} {x y:Value} {S:Addr->Obj->Prop} (h:Hz a b=some t) (Vx:VR I S ρ a x) (Vy:VR I S ρ b y):plainIs x y=true∧(x == y)=t:=by
 unfold Hz at h;revert h; refine bj ?_ λ h=>?_; rintro rfl h
 ·induction Vy using be.casesOn
  (revert h; refine bj ?_ λ h=>?_; rotate_left; replace h:=ar h; revert h; refine bc ?_ λ h=>?_; rotate_left; replace h:=ar h; revert h; refine gV ?_ λ h=>?_; rotate_left; replace h:=ar h; revert h; refine ax ?_ λ h=>?_; rotate_left; replace h:=ar h; revert h; refine eW ?_ λ h=>?_; rotate_left; replace h:=ar h; revert h; refine cm ?_ λ h=>?_; rotate_left; replace h:=ar h; revert h; refine eV ?_ λ h=>?_; rintro _ rfl h; rotate_right; rintro _ rfl h; rotate_right; rintro _ rfl h; rotate_right; rintro _ rfl h; rotate_right; rintro _ rfl h; rotate_right; rintro _ rfl h; rotate_right; rintro rfl h)<;>first | (exact ac h; done) | skip
  all_goals induction h using sI; (first | induction Vx using be.casesOn | induction Vx using aH.casesOn | induction Vx using cC.casesOn | induction Vx using aG.casesOn | induction Vx using dw.casesOn | induction Vx using bV.casesOn | induction Vx using cM.casesOn); exact ⟨rfl,rfl⟩
 ·exact ac h
theorem vD (J:I.Inj) (op:CmpOp) (a b:V) (σ:List O) (t:Bool) (h:qX op a b σ=some t):aL hb prog w I (k+1) σ [a,b] (.bool t,σ) (t2 (compareOp op)):=by
 intro A s hid ρ xs Q E R H V q;refine ak (di V) ?_; rintro x y rfl Vx Vy;have hu:A.units+5 < cLine:=by have:=R.u; show A.units+5 < 9900; lia
 have fin:Q (.bool t) s:=aA.tok (n:=s.toks) H q (.bool _);induction op using CmpOp.casesOn with
 | Eq =>
  exact (lg J 5 h H Vx Vy hu).2.1 prog w E Q fin
 | NotEq =>
  refine az h ?_; rintro u h1 rfl;exact (lg J 5 h1 H Vx Vy hu).2.2.1 prog w E Q fin
 | Is =>
  refine ab (dX h Vx Vy) λ h1 h2=>?_;refine wpAny_is_plain h1 ?_;rw [h2]; exact fin
 | IsNot =>
  refine az h ?_; rintro u h1 rfl;refine ab (dX h1 Vx Vy) λ h1 h2=>?_;refine wpAny_isNot_plain h1 ?_;rw [h2]; exact fin
 | Lt =>
  refine ak (cQ h) ?_; rintro i j rfl rfl rfl;induction Vx using aH.casesOn; induction Vy using aH.casesOn;refine PySem.P.lt_int ?_;rw [<-fe]; exact fin
 | Gt =>
  refine ak (cQ h) ?_; rintro i j rfl rfl rfl;induction Vx using aH.casesOn; induction Vy using aH.casesOn;refine PySem.P.gt_int ?_;have e:decide (i > j)=yV j i:=(fe j i).symm;rw [e]; exact fin
 | GtE =>
  refine ak (cQ h) ?_; rintro i j rfl rfl rfl;induction Vx using aH.casesOn; induction Vy using aH.casesOn;refine PySem.P.ge_int ?_;have e:decide (i ≥ j)=!(yV i j):=by
   rw [fe,<-decide_not]; exact decide_eq_decide.mpr (by simp [*])
  rw [e]; exact fin
 | LtE =>
  refine ak (cQ h) ?_; rintro i j rfl rfl rfl;induction Vx using aH.casesOn; induction Vy using aH.casesOn;refine PySem.P.le_int ?_;have e:decide (i≤j)=!(yV j i):=by
   rw [fe,<-decide_not]; exact decide_eq_decide.mpr (by simp [*])
  rw [e]; exact fin
 | _ =>
  exact ac h
theorem vE {i:Int} {n k:Nat} (h:f8 i n=some k):(0≤i∧i.toNat=k∧k < n)∨(i < 0∧-(n:Int)≤i∧(i+n).toNat=k∧k < n):=by
 cases i with
 | ofNat m =>
  refine ai h λ h1 h2=>?_;have e:=Option.some.inj h2;have:=Nat.le_of_ble_eq_true h1;refine .inl ⟨by simp,by simpa using e,by lia⟩
 | negSucc m =>
  refine ai h λ h1 h2=>?_;have e:n - (m+1)=k:=Option.some.inj h2;have:=Nat.le_of_ble_eq_true h1;refine .inr ⟨by simp [*],by lia,by grind,by omega⟩
theorem lh {l:List V} {b:V} {r:V×List O} (h:uc l b σ=some r):∃ i k v,b=.int i∧vA i=true∧f8 i l.length=some k∧l[k]?=some v∧r=(v,σ):=by
 unfold uc at h;revert h; refine bc ?_ λ h=>?_; rintro _ rfl h
 ·refine ai h λ h1 h=>?_;refine aa h λ j h2 h=>?_;refine az h ?_; rintro v h3 rfl;rw [aE] at h3;exact ⟨_,j,v,rfl,h1,h2,h3,rfl⟩
 ·exact ac h
theorem fh:typeLookup (.type "list") "__getitem__" = pure (some (.builtin "list.__getitem__")):=slot_list_getitem.lookup
theorem mr:typeLookup (.type "tuple") "__getitem__" = pure (some (.builtin "tuple.__getitem__")):=PySem.F.slot_tuple_getitem.lookup
theorem jM (a b:V) (σ:List O) (r:V×List O) (h:ud a b σ=some r):∀ A s hid ρ x y Q E,aC A k->Sh hb prog w I hid ρ σ s.heap->VR I (ay hid ρ s.heap) ρ a x->VR I (ay hid ρ s.heap) ρ b y->aA hb prog w I hid ρ s r Q->SubscriptOn (model prog w) A x y Q E s:=by
 intro A s hid ρ x y Q E R H Vx Vy q;unfold ud at h;revert h; refine eV ?_ λ h=>?_; rintro _ rfl h
 ·induction Vx using cM.casesOn with
  | tup g1 V1 =>
   refine Dq (lh h) ?_; rintro i j v rfl h1 h2 h3 rfl;induction Vy using aH.casesOn;have ht:=i8 h1;refine ag (V1.get h3) λ z hz Vz=>?_;rw [Array.getElem?_toList] at hz;refine ⟨"tuple",_,mr,⟨_,g1.1,rfl⟩,PySem.P.getItem_tuple g1.1 (by lia) (by omega) (fg (by rw [V1.size]; exact h2)) hz ?_⟩
   exact aA.tok (n:=s.toks) H q Vz
 ·refine aa h λ l e1 h=>?_;refine ah λ G9 fin9=>?_;refine Dq (lh h) ?_; rintro i j v rfl h1 h2 h3 rfl;refine dK (dW e1 H Vx) ?_; rintro a1 i1 n1 rfl g1 V1;induction Vy using aH.casesOn;have L1:s.heap.IsList a1 i1:=⟨_,g1,rfl,_,rfl⟩;have ht:=i8 h1;refine ag (V1.get h3) λ z hz Vz=>?_;rw [Array.getElem?_toList] at hz;have fin:Q z s:=aA.tok (n:=s.toks) H q Vz;have z1:=V1.size;refine fin9 ?_; clear fin9 G9;refine ⟨"list",_,fh,⟨_,g1,rfl⟩,?_⟩;rcases vE h2 with ⟨p1,p2,p3⟩ | ⟨p1,p2,p3,p4⟩
  ·exact wpAny_getItem_list L1 p1 (by omega) (by rw [p2]; exact hz) fin
  ·exact wpAny_getItem_list_neg L1 p1 (by simp only [*]) (by lia) (by rw [z1,p3]; exact hz) fin
theorem ue {v:V} {o:Option Int} {x:Value} {S:Addr->Obj->Prop} (h:part v=some o) (Vx:VR I S ρ v x):IsPart x o:=by
 unfold part at h;revert h; refine bj ?_ λ h=>?_; rotate_left; replace h:=ar h; revert h; refine bc ?_ λ h=>?_; rintro _ rfl h; rotate_right; rintro rfl h
 ·induction h using sI; induction Vx using be.casesOn; exact .none
 ·induction h using sI; induction Vx using aH.casesOn; exact .int _ _
 ·exact ac h
theorem hG (a b c:V) (σ:List O) (r:V×List O) (h:EN a b c σ=some r):∀ A s hid ρ x l u Q E,aC A k->Sh hb prog w I hid ρ σ s.heap->VR I (ay hid ρ s.heap) ρ a x->VR I (ay hid ρ s.heap) ρ b l->VR I (ay hid ρ s.heap) ρ c u->aA hb prog w I hid ρ s r Q ->
  SubscriptOn (model prog w) A x (.ref s.heap.objs.size) Q E { s with heap:=s.heap.push (bp l u) }:=by
 intro A s hid ρ x lv uv Q E R H Vx Vb Vc q;refine ah λ G9 fin9=>?_;refine aa h λ l e1 h=>?_;refine ai h λ hl h=>?_;refine aa h λ lo e2 h=>?_;refine aa h λ hi e3 h=>?_;induction h using sI;have hl:=Nat.le_of_ble_eq_true hl;refine dK (dW e1 H Vx) ?_; rintro a1 i1 n1 rfl g1 V1;have z1:=V1.size;refine ab (H.alloc (bp lv uv)) λ x1 H1=>?_;have L1:(s.heap.push (bp lv uv)).IsList a1 i1:=⟨_,Heap.get?_push_of_some _ g1,rfl,_,rfl⟩;refine fin9 ?_; clear fin9 G9;refine ⟨"list",_,fh,⟨_,Heap.get?_push_of_some _ g1,rfl⟩,?_⟩;refine wpAny_getItem_list_slice (vl:=lv) (vu:=uv) (vs:=.none) L1 ⟨_,Heap.get?_push_size _ rfl,rfl,rfl⟩ (ue e2 Vb) (ue e3 Vc) .none (by simp) ?_ (by rw [z1]; unfold sizeLine; exact Nat.le_trans (by assumption) (by decide))
 rw [slicePick_plain];refine ab (H1.alloc { cls:=.type "list",data:=.seq ((i1.toList.drop (lo.elim 0 (clipAt i1.size))).take (hi.elim i1.size (clipAt i1.size) - lo.elim 0 (clipAt i1.size))).toArray }) λ x2 H2=>?_;refine q ρ _ s.toks s.gens _ (x1.trans0 x2) H2 (.lst (H1.stbNew rfl) ?_);rw [List.toList_toArray,<-z1];exact (((V1.ext x1).ext x2).drop _).take _
end
section
def oJ:List (AS×V)->AS->Option (Option V)
 | [],_=>some none
 | (k,v)::r,a=>au (FI k a) λ t=>aB t (some (some v)) (oJ r a)
def lj:List (Int×V)->Int->Option V
 | [],_=>none
 | (k,v)::r,a=>aB (oG k a) (some v) (lj r a)
noncomputable def Jq (o:Option V) (d:V):V:=Option.rec d id o
def uf (i:Nat) (v:V) (σ:List O):Option (V×List O):=au (aU σ i) λ o=>(fD none (λ l=>aB (km l) (some (.none,bF σ i (.list (l++[v])))) none) o)
def ug (i:Nat) (key d:V) (σ:List O):Option (V×List O):=au (aU σ i) λ o=>(iZ (aP (i3 (aP (gp none ((aV (aP (bv none (λ y390=>some (d,σ)) key)) (λ y390=>some (d,σ)) key)) o)) (λ l=>((bv none (λ j=>some (Jq (lj l j) d,σ)) key))) o)) (λ l=>((aV none (λ a=>(au (oJ l a) λ o=>some (Jq o d,σ))) key))) o)
def DK (i:Nat) (key d:V) (σ:List O):Option (V×List O):=au (aU σ i) λ o=>(iZ (aP (gp none ((aV none (λ a=>some (d,bF σ i (.smap [(a,d)]))) key)) o)) (λ l=>((aV none (λ a=>(aB (km l) (au (oJ l a) λ o=>(match o with | some v=>some (v,σ) | none=>some (d,bF σ i (.smap (l++[(a,d)]))))) none)) key))) o)
def DL (i:Nat) (key d:V) (σ:List O):Option (List O):=au (aU σ i) λ o=>(i3 (aP (gp none ((bv none (λ j=>some (bF σ i (.imap [(j,d)]))) key)) o)) (λ l=>((bv none (λ j=>(aB (km l) (match lj l j with | some _=>none | none=>some (bF σ i (.imap (l++[(j,d)])))) none)) key))) o)
end
structure gE (hb:Heap):Prop where
 nl:hb.NoLimit
section
variable {hb:Heap} {prog:Program} {w:World} {I:aZ} {k:Nat} {hid ρ ρ' ρ'':List Addr} {σ:List O} {A:Around} {s:Shared} {E:Value->Shared->Prop} {h h' h'':Heap}
theorem gE.mod (B:gE hb) (H:Sh hb prog w I hid ρ σ h) {a:Addr} (m:a∈ρ):(a == sysModules)=false:=by
 refine beq_eq_false_iff_ne.mpr λ q=>?_;exact H.sm.1 (q▸m)
theorem oK (J:I.Inj) {S:Addr->Obj->Prop} {a:AS} {l:List (AS×V)} {kvs:List (Str×Value)} {o:Option V} (K:io (den I) I S ρ l kvs) (h:oJ l a=some o):match (generalizing:=false) o with
  | none=>valueAt kvs (den I a)=none
  | some v=>∃ y,valueAt kvs (den I a)=some y∧VR I S ρ v y:=by
 induction K with
 | nil=>induction h using sI; rfl
 | @cons kk v y l rr V _ ih =>
  refine aa h λ t h1 h2=>?_;have e:=yY J h1;induction t using Bool.casesOn with
  | true =>
   induction h2 using sI;refine ⟨y,?_,V⟩;unfold valueAt;rw [List.find?_cons_of_pos (by simpa using beq_iff_eq.mp e)]; rfl
  | false =>
   have hne:¬den I kk=den I a:=by simpa using e
   have ev:valueAt ((den I kk,y)::rr) (den I a)=valueAt rr (den I a):=by
    unfold valueAt;rw [List.find?_cons_of_neg (by simpa using hne)]
   rw [ev]; exact ih h2
theorem oM {S:Addr->Obj->Prop} {a:Int} {l:List (Int×V)} {kvs:List (Int×Value)} (K:io id I S ρ l kvs):match lj l a with
  | none=>valueAt kvs a=none
  | some v=>∃ y,valueAt kvs a=some y∧VR I S ρ v y:=by
 induction K with
 | nil=>rfl
 | @cons kk v y l rr V _ ih =>
  unfold lj;rw [dD];by_cases hk:kk=a
  ·rw [decide_eq_true hk];refine ⟨y,?_,V⟩;unfold valueAt;rw [List.find?_cons_of_pos (by simpa using hk)]; rfl
  ·rw [decide_eq_false hk];have ev:valueAt ((id kk,y)::rr) a=valueAt rr a:=by
    unfold valueAt;rw [List.find?_cons_of_neg (by simpa using hk)]
   rw [ev]; exact ih
theorem isStr (x:Str) (t:Tok):(strKind prog w).is x (.str x t)=true:=beq_self_eq_true x
theorem qZ (x:Int) (t:Tok):(intKind prog w).is x (.int x t)=true:=beq_self_eq_true x
theorem y7 {S:Addr->Obj->Prop} {o:Option V} {v:Option Value} {d:V} {y:Value} (h:match o with
  | none=>v=none
  | some u=>∃ z,v=some z∧VR I S ρ u z) (V:VR I S ρ d y):VR I S ρ (Jq o d) (v.getD y):=by
 induction o using Option.casesOn with
 | none=>subst h; exact V
 | some u=>refine ag h ?_; clear h; rintro z rfl W; exact W
theorem uh {i:Nat} {l:List (AS×V)} (H:Sh hb prog w I hid ρ σ h) (e:σ[i]?=some (.smap l)):∃ a kvs,ρ[i]?=some a∧h.DictOf (strKind prog w) a kvs∧io (den I) I (ay hid ρ h) ρ l kvs:=by
 refine ak (H.ob i _ e) λ a b e1 e2 e3=>?_;cases e3 with
 | smap c1 c2 c3 c4 c5 c6=>exact ⟨a,_,e1,⟨b,_,_,e2,c1,c2,c3,c4,c5⟩,c6⟩
theorem ui {i:Nat} {l:List (Int×V)} (H:Sh hb prog w I hid ρ σ h) (e:σ[i]?=some (.imap l)):∃ a kvs,ρ[i]?=some a∧h.DictOf (intKind prog w) a kvs∧io id I (ay hid ρ h) ρ l kvs:=by
 refine ak (H.ob i _ e) λ a b e1 e2 e3=>?_;cases e3 with
 | imap c1 c2 c3 c4 c5 c6=>exact ⟨a,_,e1,⟨b,_,_,e2,c1,c2,c3,c4,c5⟩,c6⟩
theorem i9 {K:Type} [DecidableEq K] (knd:PySem.KeyKind prog w K) {i:Nat} (H:Sh hb prog w I hid ρ σ h) (e:σ[i]?=some .dnil):∃ a,ρ[i]?=some a∧h.DictOf knd a []:=by
 refine ak (H.ob i _ e) λ a b e1 e2 e3=>?_;cases e3 with
 | dnil c1 c2=>exact ⟨a,e1,b,_,_,e2,c1,c2,λ _ he=>by simp at he,.nil,.nil⟩
theorem io.len {κ κ':Type} {f:κ->κ'} {S:Addr->Obj->Prop}:∀ {l:List (κ×V)} {es:List (κ'×Value)},io f I S ρ l es->l.length=es.length:=by
 intro l r h;induction h with
 | nil=>rfl
 | cons _ _ ih=>rw [List.length_cons,List.length_cons,ih]
theorem io.snoc {κ κ':Type} {f:κ->κ'} {S:Addr->Obj->Prop} {k:κ} {v:V} {y:Value} (W:VR I S ρ v y):∀ {l:List (κ×V)} {es:List (κ'×Value)},io f I S ρ l es->io f I S ρ (l++[(k,v)]) (es++[(f k,y)]):=by
 intro l r h;induction h with
 | nil=>exact .cons W .nil
 | cons a _ ih=>exact .cons a ih
theorem jN {K:Type} [DecidableEq K] {kvs:List (K×Value)} {k:K} {v:Value} (h:valueAt kvs k=none):stored kvs k v=kvs++[(k,v)]:=by
 unfold stored;rw [if_neg];intro q;rw [List.any_eq_true] at q;refine ag q λ x hx hk=>?_; clear q;unfold valueAt at h;rw [Option.map_eq_none_iff,List.find?_eq_none] at h;exact h x hx hk
theorem aA.set {i:Nat} {a:Addr} {b:Obj} {o:O} {v:V} {x:Value} {h':Heap} {tk:Nat} {Q:Value->Shared->Prop} (H:Sh hb prog w I hid ρ σ s.heap) (hi:ρ[i]?=some a) (hs:∀ c,c≠a->h'.get? c=s.heap.get? c) (hg:h'.get? a=some b) (r:OR prog w I (ay hid ρ s.heap) ρ o b)
  (V:VR I (ay hid ρ s.heap) ρ v x) (q:aA hb prog w I hid ρ s (v,bF σ i o) Q):Q x { s with heap:=h',toks:=tk }:=by
 refine ab (H.set hi hs hg r) λ x1 H1=>?_;rw [<-cF] at H1;exact q ρ h' tk s.gens x x1 H1 (V.ext x1)
theorem ms {i:Nat} {v:V} {r:V×List O} (e:uf i v σ=some r):aL hb prog w I k σ [.val (.builtin "list.append"),.ref i,v] r aS:=by
 intro A s hid ρ xs Q E R H V q;refine aa e λ o e1 e=>?_;rw [aE] at e1;revert e; refine fX ?_ λ e=>?_; rintro _ rfl e
 ·rename_i l;refine ai e λ hl e=>?_;induction e using sI;induction V using aD.casesOn with
  | cons Vf V =>
   refine ak (di V) ?_; rintro x y rfl Vx Vy;induction Vf using aK.casesOn;induction Vx using bV.casesOn with
   | ref hr =>
    refine ak (H.ob _ _ e1) λ a b f1 f2 f3=>?_;rw [hr] at f1;induction f1 using sI;induction f3 using cD.casesOn with
    | list V =>
     rename_i items n;have hz:=cH hl;have hn:=V.length;refine wpAny_list_append_plain (items:=items.toArray) ⟨_,f2⟩ (λ h' hp hs=>?_) (by simp; unfold sizeLine; lia)
     refine aj hp ?_; clear hp; rintro m hp;refine aA.set (tk:=s.toks) H hr (λ c hc=>hs.2 c hc) hp ?_ .none q;have:items.toArray.push y=(items++[y]).toArray:=by simp
     rw [this];exact .list (V.append (.cons Vy .nil))
 ·exact ac e
theorem lm (B:gE hb) (J:I.Inj) {i:Nat} {key d:V} {r:V×List O} (e:ug i key d σ=some r) {a:Addr} {x y:Value} (hr:ρ[i]?=some a) (H:Sh hb prog w I hid ρ σ s.heap) (Vx:VR I (ay hid ρ s.heap) ρ key x) (Vy:VR I (ay hid ρ s.heap) ρ d y) :
  r.2=σ∧s.TypeIs (.ref a) "dict" ∧ ∃ S,MeetsIn prog w (Builtin.«dict.get» ⟨[.ref a,x,y],[]⟩) S∧∀ A R,(∀ v tk,VR I (ay hid ρ s.heap) ρ r.1 v->R (.ok (.ret v)) { s with toks:=tk })->S A R s:=by
 refine aa e λ o e1 e=>?_;rw [aE] at e1;have go:∀ {K:Type} [DecidableEq K] (knd:PySem.KeyKind prog w K) {kvs:List (K×Value)} {kk:K},s.heap.DictOf knd a kvs->knd.is kk x=true->VR I (ay hid ρ s.heap) ρ r.1 ((valueAt kvs kk).getD y) ->
   s.TypeIs (.ref a) "dict" ∧ ∃ S,MeetsIn prog w (Builtin.«dict.get» ⟨[.ref a,x,y],[]⟩) S∧∀ A R,(∀ v tk,VR I (ay hid ρ s.heap) ρ r.1 v->R (.ok (.ret v)) { s with toks:=tk })->S A R s:=by
  intro K _ knd kvs kk D hk W;exact ⟨D.typeIs,_,meets_dict_get_default knd a hk (B.mod H (List.mem_of_getElem? hr)) y,λ A R h=>⟨_,D.mapOf,h _ _ W⟩⟩
 revert e; refine ju ?_ λ e=>?_; rotate_left; replace e:=ar e; revert e; refine jv ?_ λ e=>?_; rotate_left; replace e:=ar e; revert e; refine fY ?_ λ e=>?_; rintro rfl e; rotate_right; rintro _ rfl e; rotate_right; rintro _ rfl e
 ·revert e; refine ax ?_ λ e=>?_; rintro _ rfl e
  ·refine aa e λ u e2 e=>?_;refine ah λ G9 fin9=>?_;induction e using sI;refine ak (uh H e1) λ a kvs c1 D KR=>?_;rw [hr] at c1;induction c1 using sI;induction Vx using aG.casesOn;refine fin9 ?_; clear fin9 G9;exact ⟨rfl,go (strKind prog w) D (isStr _ _) (y7 (oK J KR e2) Vy)⟩
  ·exact ac e
 ·revert e; refine bc ?_ λ e=>?_; rintro _ rfl e
  ·induction e using sI;refine ak (ui H e1) λ a kvs c1 D KR=>?_;rw [hr] at c1;induction c1 using sI;induction Vx using aH.casesOn;exact ⟨rfl,go (intKind prog w) D (qZ _ _) (y7 (oM KR) Vy)⟩
  ·exact ac e
 ·revert e; refine ax ?_ λ e=>?_; rotate_left; replace e:=ar e; revert e; refine bc ?_ λ e=>?_; rintro _ rfl e; rotate_right; rintro _ rfl e
  ·induction e using sI;refine ag (i9 (strKind prog w) H e1) λ a c1 D=>?_;rw [hr] at c1;induction c1 using sI;induction Vx using aG.casesOn;exact ⟨rfl,go (strKind prog w) D (isStr _ _) Vy⟩
  ·induction e using sI;refine ag (i9 (intKind prog w) H e1) λ a c1 D=>?_;rw [hr] at c1;induction c1 using sI;induction Vx using aH.casesOn;exact ⟨rfl,go (intKind prog w) D (qZ _ _) Vy⟩
  ·exact ac e
 ·exact ac e
theorem q0 (B:gE hb) (J:I.Inj) {i:Nat} {key d:V} {r:V×List O} (e:ug i key d σ=some r):aL hb prog w I k σ [.val (.builtin "dict.get"),.ref i,key,d] r aS:=by
 intro A s hid ρ xs Q E R H V q;induction V using aD.casesOn with
 | cons Vf V =>
  induction V using aD.casesOn with
  | cons Vr V =>
   refine ak (di V) ?_; rintro x y rfl Vx Vy;induction Vf using aK.casesOn;induction Vr using bV.casesOn with
   | ref hr =>
    obtain ⟨h1,h2,S,h3,h4⟩:=lm B J e hr H Vx Vy;obtain ⟨r1,r2⟩:=r;subst h1;exact call_meetsIn PySem.F.slot_dict_get h2 PySem.F.entry_dict_get (PySem.F.args_dict_get_3 _ _ _) h3 (h4 _ _ λ v tk W=>aA.tok H q W)
end
section
def EO (v:V) (σ:List O):Option (V×List O):=au (cB v σ) λ l=>aB (km l) (some (.int (.ofNat l.length),σ)) none
end
section
variable {hb:Heap} {prog:Program} {w:World} {I:aZ} {k:Nat} {hid ρ ρ' ρ'':List Addr} {σ:List O} {A:Around} {s:Shared} {E:Value->Shared->Prop} {h h' h'':Heap}
theorem OR.smapOf {l:List (AS×V)} {kvs:List (Str×Value)} {a:Addr} (D:h'.DictOf (strKind prog w) a kvs) {S:Addr->Obj->Prop} (K:io (den I) I S ρ l kvs):∃ b,h'.get? a=some b∧OR prog w I S ρ (.smap l) b:=by
 refine Dr D λ b es ep e c1 c2 c3 c4 c5=>?_; clear D;exact ⟨b,e,.smap c1 c2 c3 c4 c5 K⟩
theorem OR.imapOf {l:List (Int×V)} {kvs:List (Int×Value)} {a:Addr} (D:h'.DictOf (intKind prog w) a kvs) {S:Addr->Obj->Prop} (K:io id I S ρ l kvs):∃ b,h'.get? a=some b∧OR prog w I S ρ (.imap l) b:=by
 refine Dr D λ b es ep e c1 c2 c3 c4 c5=>?_; clear D;exact ⟨b,e,.imap c1 c2 c3 c4 c5 K⟩
theorem rb (B:gE hb) (J:I.Inj) {i:Nat} {key d:V} {r:V×List O} (e:DK i key d σ=some r):aL hb prog w I k σ [.val (.builtin "dict.setdefault"),.ref i,key,d] r aS:=by
 intro A s hid ρ xs Q E R H V q;refine aa e λ o e1 e=>?_;rw [aE] at e1;induction V using aD.casesOn with
 | cons Vf V =>
  induction V using aD.casesOn with
  | cons Vr V =>
   refine ak (di V) ?_; rintro x y rfl Vx Vy;induction Vf using aK.casesOn;induction Vr using bV.casesOn with
   | ref hr =>
    have go:∀ {a:Addr} {kvs:List (Str×Value)} {l:List (AS×Mine.V)} {kk:AS} {t:Tok} {o:Option Mine.V},ρ[i]?=some a->s.heap.DictOf (strKind prog w) a kvs->io (den I) I (ay hid ρ s.heap) ρ l kvs->l.length≤1000->oJ l kk=some o ->
      (r=match o with | some v=>(v,σ) | none=>(d,bF σ i (.smap (l++[(kk,d)]))))->x=.str (den I kk) t->wpAny (model prog w) A (aS [.builtin "dict.setdefault",.ref a,x,y]) Q E s:=by
     intro a kvs l kk t o ha D KR hl ho hr2 hx;subst hx;have W:=oK J KR ho;have hz:=KR.len;refine call_meetsIn PySem.F.slot_dict_setdefault D.typeIs PySem.F.entry_dict_setdefault (PySem.F.args_dict_setdefault_3 _ _ _) (kt_meets_setdefault (strKind prog w) a (isStr _ _) (B.mod H (List.mem_of_getElem? ha)) y) ⟨kvs,D,by unfold sizeLine; lia,λ v hv=>?_,λ hn h' D' hs=>?_⟩
     ·induction o using Option.casesOn with
      | none=>rw [show valueAt kvs (den I kk)=none from W] at hv; exact ac hv
      | some u =>
       refine ag W λ z hz' W'=>?_; clear W;rw [hz'] at hv;induction hv using sI;subst hr2;exact aA.tok H q W'
     ·induction o using Option.casesOn with
      | some u=>refine ag W λ z hz' W'=>?_; clear W; rw [hz'] at hn; cases hn
      | none =>
       subst hr2;rw [jN hn] at D';refine ag (OR.smapOf D' (KR.snoc (k:=kk) Vy)) λ b g1 g2=>?_;exact aA.set H ha (λ c hc=>hs.2 c hc) g1 g2 Vy q
    revert e; refine ju ?_ λ e=>?_; rotate_left; replace e:=ar e; revert e; refine fY ?_ λ e=>?_; rintro rfl e; rotate_right; rintro _ rfl e
    ·revert e; refine ax ?_ λ e=>?_; rintro _ rfl e
     ·refine ai e λ hl e=>?_;refine ah λ G9 fin9=>?_;refine aa e λ u e2 e=>?_;refine ak (uh H e1) λ a kvs c1 D KR=>?_;rw [hr] at c1;induction c1 using sI;induction Vx using aG.casesOn;refine fin9 ?_; clear fin9 G9;refine go hr D KR (cH hl) e2 ?_ rfl;induction u using Option.casesOn<;>(induction e using sI; rfl)
     ·exact ac e
    ·revert e; refine ax ?_ λ e=>?_; rintro _ rfl e
     ·induction e using sI;refine ag (i9 (strKind prog w) H e1) λ a c1 D=>?_;rw [hr] at c1;induction c1 using sI;induction Vx using aG.casesOn;exact go (l:=[]) (o:=none) hr D .nil (by simp) rfl rfl rfl
     ·exact ac e
    ·exact ac e
theorem rd (B:gE hb) {i:Nat} {key d:V} {r:List O} (e:DL i key d σ=some r):∀ A s hid ρ x z y Q E,aC A k->Sh hb prog w I hid ρ σ s.heap->VR I (ay hid ρ s.heap) ρ (.ref i) x->VR I (ay hid ρ s.heap) ρ key z->VR I (ay hid ρ s.heap) ρ d y->n5 hb prog w I hid ρ s r Q ->
  wpAny (model prog w) A (setItem x z y) Q E s:=by
 intro A s hid ρ x z y Q E R H Vr Vx Vy q;refine aa e λ o e1 e=>?_;rw [aE] at e1;induction Vr using bV.casesOn with
 | ref hr =>
  have go:∀ {a:Addr} {kvs:List (Int×Value)} {l:List (Int×Mine.V)} {kk:Int} {t:Tok},ρ[i]?=some a->s.heap.DictOf (intKind prog w) a kvs->io id I (ay hid ρ s.heap) ρ l kvs->l.length≤1000->lj l kk=none ->
    r=bF σ i (.imap (l++[(kk,d)]))->z=.int kk t->wpAny (model prog w) A (setItem (.ref a) z y) Q E s:=by
   intro a kvs l kk t ha D KR hl ho hr2 hx;subst hx;have W:=oM (a:=kk) KR;rw [ho] at W;have hz:=KR.len;refine wpAny_setItem_pairs (qZ kk t) D (λ h' D' hs=>?_) (by unfold sizeLine; lia)
   rw [jN W] at D';refine ag (OR.imapOf D' (KR.snoc (k:=kk) Vy)) λ b g1 g2=>?_;refine ab (H.set ha (λ c hc=>hs.2 c hc) g1 g2) λ x1 H1=>?_;rw [<-cF,<-hr2] at H1;exact q ρ h' _ s.gens x1 H1
  revert e; refine jv ?_ λ e=>?_; rotate_left; replace e:=ar e; revert e; refine fY ?_ λ e=>?_; rintro rfl e; rotate_right; rintro _ rfl e
  ·revert e; refine bc ?_ λ e=>?_; rintro _ rfl e
   ·refine ai e λ hl e=>?_;split at e
    ·exact ac e
    ·rename_i e2;refine ah λ G9 fin9=>?_;induction e using sI;refine ak (ui H e1) λ a kvs c1 D KR=>?_;rw [hr] at c1;induction c1 using sI;induction Vx using aH.casesOn;refine fin9 ?_; clear fin9 G9;exact go hr D KR (cH hl) e2 rfl rfl
   ·exact ac e
  ·revert e; refine bc ?_ λ e=>?_; rintro _ rfl e
   ·induction e using sI;refine ag (i9 (intKind prog w) H e1) λ a c1 D=>?_;rw [hr] at c1;induction c1 using sI;induction Vx using aH.casesOn;exact go (l:=[]) hr D .nil (by simp) rfl rfl rfl
   ·exact ac e
  ·exact ac e
theorem ln {v:V} {r:V×List O} (e:EO v σ=some r):aL hb prog w I k σ [.val (.builtin "len"),v] r aS:=by
 intro A s hid ρ xs Q E R H V q;refine ah λ G9 fin9=>?_;refine aa e λ l e1 e=>?_;refine ai e λ hl e=>?_;induction e using sI;refine ak (di V) ?_; rintro f x rfl Vf Vx;induction Vf using aK.casesOn;refine ak (dM e1 H Vx) ?_; rintro a items rfl L W;have hz:=cH hl;have hn:=W.size;refine fin9 ?_; clear fin9 G9;refine call_len_list L (by lia) ?_
 rw [hn];exact aA.tok H q (.int _ _)
theorem mt {b:Int}:aL hb prog w I k σ [.val (.type "range"),.int b] (.rng 0 b,σ) aS:=by
 intro A s hid ρ xs Q E R H V q;refine ak (di V) ?_; rintro f x rfl Vf Vx;induction Vf using aK.casesOn; induction Vx using aH.casesOn;refine call_range_1 ?_;obtain ⟨x2,H2⟩:=H.alloc { cls:=.type "range",data:=.fields #[.int 0 s.toks,.int b _,.int 1 (s.toks+1)] };exact q ρ _ _ s.gens _ x2 H2 (.rng (H.stbNew rfl))
theorem mu {a b:Int}:aL hb prog w I k σ [.val (.type "range"),.int a,.int b] (.rng a b,σ) aS:=by
 intro A s hid ρ xs Q E R H V q;induction V using aD.casesOn with
 | cons Vf V =>
  refine ak (di V) ?_; rintro y x rfl Vy Vx;induction Vf using aK.casesOn; induction Vx using aH.casesOn; induction Vy using aH.casesOn;refine call_range_2 ?_;obtain ⟨x2,H2⟩:=H.alloc { cls:=.type "range",data:=.fields #[.int a _,.int b _,.int 1 s.toks] };exact q ρ _ _ s.gens _ x2 H2 (.rng (H.stbNew rfl))
theorem rg:aL hb prog w I k σ [.val (.type "set")] (.eset,σ) aS:=by
 intro A s hid ρ xs Q E R H V q;refine ag (wx V) ?_; rintro f rfl Vf;induction Vf using aK.casesOn;refine call_set_0 λ led=>?_;refine ab (H.alloc { cls:=.type "set",dict:=none,data:=.set #[] 0 (.fresh 0 0 led) }) λ x2 H2=>?_;exact q ρ _ s.toks s.gens _ x2 H2 (.eset (H.stbNew rfl))
end
section
def gF:O->Bool:=λ x0=>(iZ (aP (i3 (aP (gp (false) (true) x0)) (λ y390=>true) x0)) (λ y390=>true) x0)
def uj:O->Bool:=λ x0=>(fD (false) (λ y390=>true) x0)
def y8 (o:V) (name:Str) (σ:List O):Option (V×List O):=(eK (aP (l5 none (aB (name == ("__contains__" : Str)) (some (.bm "set.__contains__" .eset,σ)) none) o)) (λ i=>aB (name == ("get" : Str)) (au (aU σ i) λ b=>aB (gF b) (some (.bm "dict.get" (.ref i),σ)) none) none) o)
def uk (o:V) (name:Str) (σ:List O):Option (V×List V):=(eK none (λ i=>au (aU σ i) λ b=>aB (gF b) (aB (name == ("get" : Str)) (some (.val (.builtin "dict.get"),[.ref i])) (aB (name == ("setdefault" : Str)) (some (.val (.builtin "dict.setdefault"),[.ref i])) none)) (aB (uj b && name == ("append" : Str)) (some (.val (.builtin "list.append"),[.ref i])) none)) o)
def EP:V->Bool:=λ x0=>(aV (false) (λ y390=>true) x0)
def rh (id:String) (x:V) (args:List V) (σ:List O):Option (V×List O):=(eK (aP (l5 none (aB (id == "set.__contains__") ((aR none (λ key y391=>aO (bg none (aB (EP key) (some (.bool false,σ)) none) y391)) args)) none) x)) (λ i=>aB (id == "dict.get") ((aR none (λ key y391=>aO (aR none (λ d y381=>aO (bg none (ug i key d σ) y381)) y391)) args)) none) x)
end
section
variable {hb:Heap} {prog:Program} {w:World} {I:aZ} {k:Nat} {hid ρ ρ' ρ'':List Addr} {σ:List O} {A:Around} {s:Shared} {E:Value->Shared->Prop} {h h' h'':Heap}
theorem hH {o:Obj} {es:Array DictEntry} {n:Nat} (e:o.ExactDict) (d:o.data=.dict es n):o={ cls:=.type "dict",data:=.dict es n }:=by
 obtain ⟨c,dd,dat,sl⟩:=o;refine c9 e λ e1 e2 e3=>?_; clear e;simp only at e1 e2 e3 d;subst e1 e2 e3 d;rfl
theorem jO {i:Nat} {b:O} (H:Sh hb prog w I hid ρ σ h) (e:σ[i]?=some b) (hd:gF b=true):∃ a es n,ρ[i]?=some a∧h.get? a=some { cls:=.type "dict",data:=.dict es n }:=by
 refine ak (H.ob i _ e) λ a o e1 e2 e3=>?_;induction b using O.casesOn with
 | smap _=>cases e3 with | smap c1 c2 c3 c4 c5 c6=>exact ⟨a,_,_,e1,by rw [e2,hH c1 c2]⟩
 | imap _=>cases e3 with | imap c1 c2 c3 c4 c5 c6=>exact ⟨a,_,_,e1,by rw [e2,hH c1 c2]⟩
 | dnil=>cases e3 with | dnil c1 c2=>exact ⟨a,_,_,e1,by rw [e2,hH c1 c2]⟩
 | _=>exact aT hd
theorem vF {i:Nat} {b:O} (H:Sh hb prog w I hid ρ σ h) (e:σ[i]?=some b) (hd:uj b=true):∃ a items n,ρ[i]?=some a∧h.get? a=some { cls:=.type "list",data:=.seq items n }:=by
 refine ak (H.ob i _ e) λ a o e1 e2 e3=>?_;induction b using O.casesOn<;>first | (exact aT hd; done) | skip
 induction e3 using cD.casesOn;exact ⟨a,_,_,e1,e2⟩
theorem dj {n m:Str} (h:(n == m)=true):n=m:=beq_iff_eq.mp h
theorem oN (o:V) (name:Str) (σ:List O) (r:V×List O) (e:y8 o name σ=some r):aL hb prog w I k σ [o] r (t1 λ x=>getAttr x name true):=by
 intro A s hid ρ xs Q E R H V q;refine ag (wx V) ?_; rintro x rfl Vx;unfold y8 at e;revert e; refine cm ?_ λ e=>?_; rotate_left; replace e:=ar e; revert e; refine kS ?_ λ e=>?_; rintro rfl e; rotate_right; rintro _ rfl e
 ·refine ai e λ hn e=>?_;refine aa e λ b e1 e=>?_;refine ai e λ hd e=>?_;induction e using sI;rw [aE] at e1;obtain rfl:=dj hn;induction Vx using bV.casesOn with
  | ref hr =>
   refine da (jO H e1 hd) λ a es n g1 g2=>?_;rw [hr] at g1;induction g1 using sI;refine fU g2 ?_;obtain ⟨x2,H2⟩:=H.alloc (eI "dict.get" (.ref _));exact q ρ _ _ s.gens _ x2 H2 (.bm (H.stbNew rfl) (.ref hr))
 ·refine ai e λ hn e=>?_;induction e using sI;obtain rfl:=dj hn;induction Vx using d9.casesOn with
  | eset g =>
   refine gj g.1 ?_;obtain ⟨x2,H2⟩:=H.alloc (eI "set.__contains__" (.ref _));exact q ρ _ _ s.gens _ x2 H2 (.bm (H.stbNew rfl) ((VR.eset g).ext x2))
 ·exact ac e
theorem oO (o:V) (n:Str) (σ:List O) (f:V) (first:List V) (e:uk o n σ=some (f,first)):∀ A s hid ρ x pl Q E,aC A k->Sh hb prog w I hid ρ σ s.heap->VR I (ay hid ρ s.heap) ρ o x ->
  (∀ h' tk fx fs,Ext [] ρ ρ s.heap h'->Sh hb prog w I hid ρ σ h'->VR I (ay hid ρ h') ρ f fx->VRs I (ay hid ρ h') ρ first fs->Q (fx,fs) { s with heap:=h',toks:=tk })->wpAny (model prog w) A (getMethod x n pl) Q E s:=by
 intro A s hid ρ x pl Q E R H Vx q;unfold uk at e;revert e; refine cm ?_ λ e=>?_; rintro _ rfl e
 ·rename_i i;refine aa e λ b e1 e=>?_;rw [aE] at e1;induction Vx using bV.casesOn with
  | ref hr =>
   rename_i a;have fin:∀ id,f=.val (.builtin id)->first=[.ref i]->Q (.builtin id,[.ref a]) s:=λ id h1 h2=>by
    subst h1 h2;exact q s.heap s.toks (.builtin id) [.ref a] (Ext.refl _ _ _) H (.val _) (.cons (.ref hr) .nil)
   cases hd:gF b with
   | true =>
    rw [hd] at e;refine da (jO H e1 hd) λ a' es n' g1 g2=>?_;rw [hr] at g1;induction g1 using sI;have hT:s.TypeIs (.ref a) "dict" := ⟨_,g2,rfl⟩;have hnd:∀ c,Value.ref a=.ref c->∃ o,s.heap.get? c=some o∧o.dict=none:=λ c hc=>by cases hc; exact ⟨_,g2,rfl⟩
    change aB (n == ("get" : Str)) _ _=_ at e;cases hn:(n == ("get" : Str)) with
    | true =>
     rw [hn] at e;cases e;obtain rfl:=dj hn;exact getMethod_builtin hT PySem.F.plainAttrs_dict PySem.F.slot_dict_get PySem.F.type_dict_get hnd (fin _ rfl rfl)
    | false =>
     rw [hn] at e;refine ai e λ hn e=>?_;cases e;obtain rfl:=dj hn;exact getMethod_builtin hT PySem.F.plainAttrs_dict PySem.F.slot_dict_setdefault PySem.F.type_dict_setdefault hnd (fin _ rfl rfl)
   | false =>
    refine ah λ G9 fin9=>?_;rw [hd] at e;refine ai e λ hn e=>?_;rw [Bool.and_eq_true] at hn;cases e;obtain rfl:=dj hn.2;refine da (vF H e1 hn.1) λ a' items n' g1 g2=>?_;rw [hr] at g1;induction g1 using sI;refine fin9 ?_; clear fin9 G9;exact getMethod_list_append g2 rfl rfl (fin _ rfl rfl)
 ·exact ac e
theorem BF {a:Addr} {led:Bool} (e:h.get? a=some { cls:=.type "set",dict:=none,data:=.set #[] 0 (.fresh 0 0 led) }):h.SetOf (strKind prog w) a (λ _=>false) 0 :=
 ⟨_,#[],0,_,e,⟨rfl,rfl,rfl⟩,rfl,λ x hx=>by simp at hx,λ k=>by simp,by decide,by induction led using Bool.casesOn<;>rfl,rfl⟩
theorem mw (B:gE hb) (J:I.Inj) {id:String} {v:V} {args:List V} {r:V×List O} (e:rh id v args σ=some r):aL hb prog w I k σ (.bm id v::args) r aS:=by
 intro A s hid ρ xs Q E R H V q;unfold rh at e;induction V using aD.casesOn with
 | cons Vf V =>
  induction Vf using jl.casesOn with
  | bm g Vx =>
   revert e; refine cm ?_ λ e=>?_; rotate_left; replace e:=ar e; revert e; refine kS ?_ λ e=>?_; rintro rfl e; rotate_right; rintro _ rfl e
   ·refine ai e λ h1 e2=>?_;clear e;have h2:=beq_iff_eq.mp h1;subst h2;clear h1;revert e2; refine av ?_ λ e2=>?_; rintro _ _ rfl e2; replace e2:=af e2; revert e2; refine av ?_ ac; rintro _ _ rfl e2; replace e2:=af e2; revert e2; refine aM ?_ ac; rintro rfl e2
    ·rename_i i args key d;refine ak (di V) ?_; rintro x y rfl Vk Vy;induction Vx using bV.casesOn with
     | ref hr =>
      refine ah λ G9 fin9=>?_;obtain ⟨g1,g2,S,g3,g4⟩:=lm B J e2 hr H Vk Vy;obtain ⟨r1,r2⟩:=r;subst g1;refine aa e2 λ o e3 e4=>?_;rw [aE] at e3;have hd:gF o=true:=by
       induction o using O.casesOn<;>first | rfl | exact ac e4
      refine da (jO H e3 hd) λ a' es n' c1 c2=>?_;rw [hr] at c1;induction c1 using sI;refine fin9 ?_; clear fin9 G9;exact wpAny_call (gk g.1 PySem.F.slot_dict_get.plain PySem.F.entry_dict_get (xU c2) (g3 A (λ r s'=>match r with | .ok (.ret v)=>Q v s' | .ok _=>False | .error e=>E e s') s (g4 _ _ λ v tk W=>aA.tok H q W)))
    ·exact ac e2
   ·refine ai e λ h1 e2=>?_;clear e;have h2:=beq_iff_eq.mp h1;subst h2;clear h1;revert e2; refine av ?_ λ e2=>?_; rintro _ _ rfl e2; replace e2:=af e2; revert e2; refine aM ?_ ac; rintro rfl e2
    ·refine ai e2 λ hs e3=>?_;clear e2;induction e3 using sI;refine ag (wx V) ?_; rintro y rfl Vy;rename_i key;induction key using Mine.V.casesOn<;>first | (exact aT hs; done) | skip
     induction Vy using aG.casesOn;induction Vx using d9.casesOn with
     | eset gs =>
      refine wpAny_call (gk g.1 PySem.F.slot_set_contains.plain entry_set_contains (Be gs.1) ?_);unfold Builtin.«frozenset.__contains__» Builtin.Frozenset.oneOther;simp only [List.isEmpty_nil,bind_assoc];unfold Builtin.Frozenset.addrOf Builtin.Frozenset.withSetAsKey setContains;refine wpAny_bind (wpAny_pure ?_);refine wpAny_bind (wpAny_pure ?_);refine wpAny_bind (wpAny_tryCatch ?_);refine wpAny_holding ?_;refine wpAny_bind ((strKind prog w).pyHash (isStr _ _) ?_);refine wpAny_bind (wpAny_setFind_of (s:={ s with toks:=s.toks+1 }) (isStr _ _) rfl (BF gs.1) λ r hr=>?_)
      refine wpAny_pure ?_;show wpAny _ _ (ret (Value.bool r.isSome)) _ _ _;rw [hr];exact wpAny_pure (aA.tok H q (.bool _))
    ·exact ac e2
   ·exact ac e
end
section
def iw:List (Str×V)->Str->Option V
 | [],_=>none
 | (k,v)::r,x=>aB (k == x) (some v) (iw r x)
def jP:List (Str×V)->Str->V->List (Str×V)
 | [],x,v=>[(x,v)]
 | (k,u)::r,x,v=>aB (k == x) ((k,v)::r) ((k,u)::jP r x v)
def mx:V->Bool:=λ x0=>(dB (true) (λ y390=>false) x0)
structure fj where
 C:Addr
 flds:List Str
 meths:List (Str×Addr)
 init:Addr
def HA (x:Str):List Str->Bool
 | []=>false
 | y::r=>aB (y == x) true (HA x r)
def my (x:Str):List (Str×Addr)->Option Addr
 | []=>none
 | (y,f)::r=>aB (y == x) (some f) (my x r)
def mz (σ:List O) (d:Nat):Option (List (Str×V)):=au (aU σ d) λ o=>(qB none (λ l=>some l) o)
def ul (S:fj) (o:V) (name:Str) (σ:List O):Option (V×List O):=(cW none (λ C d=>aB (Nat.beq C S.C && HA name S.flds) (au (mz σ d) λ l=>au (iw l name) λ v=>aB (mx v) (some (v,σ)) none) none) o)
def setI (S:fj) (o:V) (name:Str) (v:V) (σ:List O):Option (List O):=(cW none (λ C d=>aB (Nat.beq C S.C && HA name S.flds) (au (mz σ d) λ l=>aB (km l) (some (bF σ d (.fld (jP l name v)))) none) none) o)
def um (S:fj) (o:V) (name:Str) (σ:List O):Option (V×List V):=(cW none (λ C d=>aB (Nat.beq C S.C) (au (my name S.meths) λ f=>au (mz σ d) λ l=>match iw l name with | none=>some (.val (.ref f),[o]) | some _=>none) none) o)
end
structure SOKa (K:Frag) (S:fj):Prop where
 get:plainGet K S.C Str.empty=true
 has:hasDictIn K S.C=true
 fld:∀ x∈S.flds,∃ attr,findIn K (.ref S.C) x=some attr∧noGet K attr=true∧takerIn K S.C x=some none
 set:findIn K (.ref S.C) "__setattr__" = some (some (.builtin "object.__setattr__"))
 over:plainOver K S.C=true
 meth:∀ p∈S.meths,findIn K (.ref S.C) p.1=some (some (.ref p.2))∧isFn K (.ref p.2)=true
structure IS (K:Frag) (S:fj):Prop extends SOKa K S where
 makes:makesIn K S.C=true
 init:findIn K (.ref S.C) "__init__" = some (some (.ref S.init))
 fn:typeIn K (.ref S.init)=some (.type "function")
section
variable {hb:Heap} {prog:Program} {w:World} {I:aZ} {k:Nat} {hid ρ ρ' ρ'':List Addr} {σ:List O} {A:Around} {s:Shared} {E:Value->Shared->Prop} {h h' h'':Heap} {K:Frag} {S:fj}
theorem uo {x:Str}:∀ {l:List Str},HA x l=true->x∈l:=by
 intro l;induction l with
 | nil =>
  intro e;exact aT e
 | cons y r ih =>
  intro e;unfold HA at e;cases q:(y == x) with
  | true=>rw [beq_iff_eq.mp q]; exact List.mem_cons_self ..
  | false=>rw [q] at e; exact List.mem_cons_of_mem _ (ih e)
theorem ri {x:Str} {f:Addr}:∀ {l:List (Str×Addr)},my x l=some f->(x,f)∈l:=by
 intro l;induction l with
 | nil =>
  intro e;exact ac e
 | cons p9 r ih =>
  obtain ⟨y,g⟩:=p9;intro e;unfold my at e;cases q:(y == x) with
  | true=>rw [q] at e; induction e using sI; rw [beq_iff_eq.mp q]; exact List.mem_cons_self ..
  | false=>rw [q] at e; exact List.mem_cons_of_mem _ (ih e)
theorem ip.get {P:Params} {T:Addr->Obj->Prop} {x:Str} {v:V}:∀ {l:List (Str×V)} {es:List DictEntry},ip P I T ρ l es->iw l x=some v->∃ y,getL x es=some (some y)∧VR I T ρ v y:=by
 intro l es h;induction h with
 | nil=>intro e; exact ac e
 | @cons z t _ y _ _ W _ ih =>
  intro e;unfold iw at e;unfold getL;cases q:(z == x) with
  | true =>
   rw [q] at e;induction e using sI;rw [List.find?_cons_of_pos (by exact q)]
   exact ⟨y,rfl,W⟩
  | false =>
   rw [q] at e;have:=ih e;unfold getL at this;rw [List.find?_cons_of_neg (by rw [show (Value.str z t).isStr x=(z == x) from rfl,q]; decide),List.any_cons]
   exact this
theorem ip.miss {P:Params} {T:Addr->Obj->Prop} {x:Str}:∀ {l:List (Str×V)} {es:List DictEntry},ip P I T ρ l es->iw l x=none->getL x es=some none:=by
 intro l es h;induction h with
 | nil=>intro e; rfl
 | @cons z t _ y _ _ W _ ih =>
  intro e;unfold iw at e;unfold getL;cases q:(z == x) with
  | true=>rw [q] at e; cases e
  | false =>
   rw [q] at e;have:=ih e;unfold getL at this;rw [List.find?_cons_of_neg (by rw [show (Value.str z t).isStr x=(z == x) from rfl,q]; decide),List.any_cons]
   exact this
theorem ip.put {P:Params} {T:Addr->Obj->Prop} {x:Str} {t':Tok} {v:V} {y':Value} (W':VR I T ρ v y'):∀ {l:List (Str×V)} {es:List DictEntry},ip P I T ρ l es->ip P I T ρ (jP l x v) (putL x (PyData.keyHash P x) (.str x t') y' es):=by
 intro l es h;induction h with
 | nil=>exact .cons x t' W' .nil
 | @cons z t _ y _ _ W F ih =>
  unfold jP putL;cases q:(z == x) with
  | true =>
   rw [if_pos (by exact q)]
   exact .cons z t W' F
  | false =>
   rw [if_neg (by rw [show (Value.str z t).isStr x=(z == x) from rfl,q]; decide)]
   exact .cons z t W ih
theorem ip.len {P:Params} {T:Addr->Obj->Prop}:∀ {l:List (Str×V)} {es:List DictEntry},ip P I T ρ l es->l.length=es.length:=by
 intro l es h;induction h with
 | nil=>rfl
 | cons _ _ _ _ ih=>rw [List.length_cons,List.length_cons,ih]
theorem oP (x:Str) (v:V):∀ l:List (Str×V),(jP l x v).length≤l.length+1
 | []=>by simp [jP]
 | (k,u)::r=>by
  unfold jP;cases q:(k == x) with
  | true=>simp [aB]
  | false =>
   have:=oP x v r;show ((k,u)::jP r x v).length≤_;simp; omega
theorem mA {C:Addr} {d:Nat} {x:Value} {l:List (Str×V)} (H:Sh hb prog w I hid ρ σ h) (Vx:VR I (ay hid ρ h) ρ (.inst C d) x) (e:mz σ d=some l) :
  ∃ a dx es n,x=.ref a∧ρ[d]?=some dx∧InstAt h a (instObj C dx) C (some (dictOf es n))∧ip w.params I (ay hid ρ h) ρ l es∧h.get? dx=some (dictOf es n):=by
 refine aa e λ o e1 e2=>?_;rw [aE] at e1;revert e2; refine va ?_ λ e2=>?_; rintro _ rfl e2
 ·induction e2 using sI;induction Vx using ec.casesOn with
  | inst g hr =>
   refine ak (H.ob _ _ e1) λ dx b f1 f2 f3=>?_;rw [hr] at f1;induction f1 using sI;induction f3 using iq.casesOn with
   | fld F=>exact ⟨_,_,_,_,rfl,hr,⟨g.1,rfl,rfl,f2⟩,F,f2⟩
 ·exact ac e2
theorem lp {S:Addr->Obj->Prop}:∀ {v:V} {y:Value},VR I S ρ v y->mx v=true->handedIn y=true:=λ {v y} W hv=>by
 induction v using V.casesOn<;>first | (exact aT hv; done) | ((first | induction W using be.casesOn | induction W using cC.casesOn | induction W using aH.casesOn | induction W using aG.casesOn | induction W using du.casesOn | induction W using d9.casesOn | induction W using bV.casesOn | induction W using cM.casesOn | induction W using dw.casesOn | induction W using ii.casesOn | induction W using ec.casesOn | induction W using jl.casesOn | induction W using ij.casesOn | induction W using im.casesOn | induction W using fL.casesOn | induction W using jo.casesOn | induction W using dc.casesOn | induction W using cV.casesOn | induction W using ik.casesOn | induction W using il.casesOn | induction W using jm.casesOn); rfl)
theorem ix (X:K.In hb) (SO:SOKa K S) (o:V) (name:Str) (σ:List O) (r:V×List O) (e:ul S o name σ=some r):aL hb prog w I k σ [o] r (t1 λ x=>getAttr x name true):=by
 intro A s hid ρ xs Q E R H V q;refine ag (wx V) ?_; rintro x rfl Vx;unfold ul at e;revert e; refine bU ?_ λ e=>?_; rintro _ _ rfl e
 ·refine ai e λ hc c1=>?_;refine ah λ G9 fin9=>?_;clear e;rw [Bool.and_eq_true] at hc;obtain rfl:=Nat.eq_of_beq_eq_true hc.1;refine aa c1 λ l e1 c2=>?_;refine aa c2 λ v e2 c3=>?_;refine ai c3 λ hv c4=>?_;induction c4 using sI;refine xM (mA H Vx e1) ?_; rintro a dx es n rfl hr IA F D;refine ag (F.get e2) λ y g1 W=>?_;refine kP (SO.fld name (uo hc.2)) λ attr ha hn ht=>?_;have hh:=lp W hv;refine fin9 ?_; clear fin9 G9;exact get_value (X.keeps H.base) IA (plainGet_of SO.get).1 (findObj_own SO.has ha hn g1) hh (aA.tok H q W)
 ·exact ac e
theorem iy (X:K.In hb) (SO:SOKa K S) (o:V) (n:Str) (σ:List O) (f:V) (first:List V) (e:um S o n σ=some (f,first)):∀ A s hid ρ x pl Q E,aC A k->Sh hb prog w I hid ρ σ s.heap->VR I (ay hid ρ s.heap) ρ o x ->
  (∀ h' tk fx fs,Ext [] ρ ρ s.heap h'->Sh hb prog w I hid ρ σ h'->VR I (ay hid ρ h') ρ f fx->VRs I (ay hid ρ h') ρ first fs->Q (fx,fs) { s with heap:=h',toks:=tk })->wpAny (model prog w) A (getMethod x n pl) Q E s:=by
 intro A s hid ρ x pl Q E R H Vx q;unfold um at e;revert e; refine bU ?_ λ e=>?_; rintro _ _ rfl e
 ·refine ai e λ hc c1=>?_;clear e;obtain rfl:=Nat.eq_of_beq_eq_true hc;refine aa c1 λ g e0 c2=>?_;refine aa c2 λ l e1 c3=>?_;split at c3
  ·rename_i e2;cases c3;refine xM (mA H Vx e1) ?_; rintro a dx es m rfl hr IA F D;refine ab (SO.meth _ (ri e0)) λ h1 h2=>?_;refine method_fn (X.keeps H.base) IA (plainGet_of SO.get).1 (plainGet_of SO.get).2 h1 (beq_iff_eq.mp h2) (by show (lookIn n (dictOf es m)).map _=_; rw [lookIn_dict,F.miss e2]; rfl) ?_
   exact q s.heap s.toks _ [.ref a] (Ext.refl _ _ _) H (.val _) (.cons Vx .nil)
  ·exact ac c3
 ·exact ac e
theorem BG {x dx:Addr} {es:List DictEntry} {n:Nat} {name:Str} {v:Value} {Q:Unit->Shared->Prop} (X:K.In s.heap) (SO:SOKa K S) (IA:InstAt s.heap x (instObj S.C dx) S.C (some (dictOf es n))) (ht:takerIn K S.C name=some none)
  (D:s.heap.get? dx=some (dictOf es n)) (hl:(getL name es).isSome=true) (hz:(putL name (PyData.keyHash w.params name) (.str name (s.toks+1)) v es).length≤1002)
  (h:∀ h',(∀ c,c≠dx->h'.get? c=s.heap.get? c)->h'.get? dx=some (dictOf (putL name (PyData.keyHash w.params name) (.str name (s.toks+1)) v es) (putN name es n))->Q () { s with heap:=h',toks:=s.toks+2 }) :
  wpAny (model prog w) A (setAttr (.ref x) name v) Q E s:=by
 obtain ⟨hh,g,d,t,os⟩:=s;refine set_plain X IA SO.set (osa_open (s:=⟨hh,g,d,t+1,os⟩) X IA SO.over ht λ b=>?_);refine ag (any_some SO.has) λ cd hc hd'=>?_;have hx:=IA.at_;dsimp only at hx D hz ⊢;refine wpAny_bind (wpAny_pure (wpAny_bind (wpAny_bind (wpAny_loadPart hx (wpAny_bind (looks_clsIn (M:=model prog w) X hc _ _ _ _ (λ _ _ e=>e) ?_))))));rw [hd'];refine wpAny_pure (a:=some dx) (wpAny_bind (wpAny_pure (wpAny_bind ?_)));unfold nsSet;refine wpAny_bind (wpAny_bind (wpAny_askSetting (wpAny_pure (wpAny_bind (wpAny_mkText (wpAny_bind (wpAny_loadPart D ?_)))))));dsimp only;have c:(!es.toArray.any (·.key.isStr name) && es.toArray.any (·.refKey))=false:=by
  simp only [List.any_toArray];unfold getL at hl;split at hl
  ·rename_i en he;rw [List.any_eq_true.mpr ⟨en,List.mem_of_find?_eq_some he,List.find?_some he⟩]; rfl
  ·split at hl
   ·exact aT hl
   ·rename_i z; rw [Bool.not_eq_true] at z; rw [z,Bool.and_false]
 rw [aRefKeyMayBeTheName_at,c];refine wpAny_updatePart D ?_;have nf:(Obj.putName name (PyData.keyHash w.params name) (.str name (t+1)) v (dictOf es n)).isFreed=false:=by rw [putName_dict]; rfl
 have D':=Heap.get?_update_self (Obj.putName name (PyData.keyHash w.params name) (.str name (t+1)) v) D nf;rw [putName_dict] at D';refine wpAny_bind (wpAny_lookBehind D' (pastItsLine_dict (by rw [List.size_toArray,sizeLine_eq]; exact Nat.le_trans (by assumption) (by decide))) ?_)
 exact wpAny_pure (h _ (λ c hc=>Heap.get?_update_ne _ _ _ _ hc) D')
theorem jQ (X:K.In hb) (SO:SOKa K S) (o:V) (name:Str) (v:V) (σ:List O) (r:List O) (e:setI S o name v σ=some r):∀ A s hid ρ x y Q E,aC A k->Sh hb prog w I hid ρ σ s.heap->VR I (ay hid ρ s.heap) ρ o x->VR I (ay hid ρ s.heap) ρ v y->n5 hb prog w I hid ρ s r Q->wpAny (model prog w) A (setAttr x name y) Q E s:=by
 intro A s hid ρ x y Q E R H Vx Vy q;unfold setI at e;revert e; refine bU ?_ λ e=>?_; rintro _ _ rfl e
 ·refine ai e λ hc c1=>?_;refine ah λ G9 fin9=>?_;clear e;rw [Bool.and_eq_true] at hc;obtain rfl:=Nat.eq_of_beq_eq_true hc.1;refine aa c1 λ l e1 c2=>?_;refine ai c2 λ hf c3=>?_;induction c3 using sI;refine xM (mA H Vx e1) ?_; rintro a dx es n rfl hr IA F D;refine kP (SO.fld name (uo hc.2)) λ attr ha hn ht=>?_;have F':=F.put (x:=name) (t':=s.toks+1) Vy;have hl:(getL name es).isSome=true:=by
   cases q':iw l name with
   | none=>rw [F.miss q']; rfl
   | some u=>refine ag (F.get q') λ y' g _=>?_; rw [g]; rfl
  have hz:=cH hf;have hz':=oP name v l;have hz2:=F'.len;refine fin9 ?_; clear fin9 G9;refine BG (X.keeps H.base) SO IA ht D hl (by lia) λ h' hs hg=>?_
  refine ab (H.set hr hs hg (.fld F')) λ x1 H1=>?_;rw [<-cF] at H1;exact q ρ h' _ s.gens x1 H1
 ·exact ac e
theorem aC.under {C:Addr} {vals:List Value} (R:aC A (k+1)):aC (A.under (.builtin "type.__call__" ⟨.ref C::vals,[]⟩)) k :=
 ⟨R.hh,by have:=R.d; show A.depth+1+k < 1000; lia,by have:=R.u; show A.units+1+8 * k < 9900; lia⟩
theorem rj (X:K.In hb) (SO:IS K S) {args:List V} {σ':List O} (c:dR hb prog w I k (σ++[.fld []]) S.init (.inst S.C σ.length::args) (.none,σ')) :
  aL hb prog w I (k+1) σ (.val (.ref S.C)::args) (.inst S.C σ.length,σ') aS:=by
 intro A s hid ρ xs Q E R H V q;induction V using aD.casesOn with
 | cons Vf V =>
  rename_i xs;induction Vf using aK.casesOn;have XH:=X.keeps H.base;have Y:=makes_of (M:=model prog w) XH SO.makes;obtain ⟨hh,g,d,t,os⟩:=s;refine wpAny_call (make_core Y (looks_findIn XH SO.init) (λ self=>bind_fn XH self SO.fn) (.inl rfl) ?_);refine ab (H.push (b:=emptyDict) (o:=.fld []) rfl (.fld (n:=0) .nil)) λ x1 H1=>?_;refine ab (H1.alloc (instObj S.C hh.objs.size)) λ x2 H2=>?_;have x12:=x1.trans0 x2;have self:VR I (ay hid (ρ++[hh.objs.size]) ((hh.push emptyDict).push (instObj S.C hh.objs.size))) (ρ++[hh.objs.size]) (.inst S.C σ.length) (.ref (hh.objs.size+1)):=by
   have z:=H1.stbNew (b:=instObj S.C hh.objs.size) rfl;rw [Heap.size_push] at z;exact .inst z (by rw [<-H.len]; simp)
  refine c _ ⟨(hh.push emptyDict).push (instObj S.C hh.objs.size),g,d,t,os⟩ hid (ρ++[hh.objs.size]) _ _ (aC.under R) H2 (.cons self (V.ext x12)) λ ρ' h' tk gs x xe H' V'=>?_;induction V' using be.casesOn;exact ⟨rfl,q ρ' h' tk gs _ (x12.g.trans0 xe) H' (self.ext xe.toExt)⟩
end
section
variable {hb:Heap} {prog:Program} {w:World} {I:aZ} {k:Nat} {hid ρ ρ' ρ'':List Addr} {σ:List O} {A:Around} {s:Shared} {E:Value->Shared->Prop} {h h' h'':Heap} {K:Frag}
theorem oQ {C new:Addr} {args l:List V} {σ':List O} (hv:args≠[]) (MO:AN (model prog w) hb C new)
  (hn:∀ {A:Around} {Q:Value->Shared->Prop} {E:Value->Shared->Prop} {s:Shared},(∀ b o,hb.get? b=some o->s.heap.get? b=some o)->(∀ tk,Q (.ref new) { s with toks:=tk })->wpAny (model prog w) A (getAttr (.ref C) "__new__") Q E s)
  (c:dR hb prog w I k σ new (.val (.ref C)::args) (.mat C l,σ')):aL hb prog w I (k+1) σ (.val (.ref C)::args) (.mat C l,σ') aS:=by
 intro A s hid ρ xs Q E R H V q;induction V using aD.casesOn with
 | cons Vf V =>
  rename_i xs;induction Vf using aK.casesOn;have hx:xs≠[]:=by
   rintro rfl;exact hv (List.eq_nil_of_length_eq_zero V.length)
  refine wpAny_call (qv hx (MO.keeps H.base) (hn H.base) λ tk R' hR=>?_);refine c _ { s with toks:=tk } hid ρ _ _ (aC.under R) H (.cons (.val _) V) λ ρ' h' tk' gs x xe H' V'=>?_
  induction V' using ii.casesOn with
  | mat g1 g2 g3 g4=>exact hR _ _ h' tk' gs g1.1 g2 (MO.keeps H'.base) (q ρ' h' tk' gs _ xe H' (.mat g1 g2 g3 g4))
theorem rk {C new:Addr} {l:List V} (MO:AN (model prog w) hb C new) (hl:km l=true):aL hb prog w I k σ [.val (.builtin "tuple.__new__"),.val (.ref C),.tup l] (.mat C l,σ) aS:=by
 intro A s hid ρ xs Q E R H V q;induction V using aD.casesOn with
 | cons Vf V =>
  refine ak (di V) ?_; rintro x y rfl Vx Vy;induction Vf using aK.casesOn; induction Vx using aK.casesOn;induction Vy using cM.casesOn with
  | tup g W =>
   have hz:=W.size;have:=cH hl;refine wpAny_call (nK (MO.keeps H.base) g.1 (by simp only [*]) λ h' a o hk ha hf hc hd=>?_)
   refine ab (H.keeps hk) λ x1 H1=>?_;refine q ρ h' s.toks s.gens _ x1 H1 (.mat ⟨ha,λ m=>?_,λ m=>?_⟩ hc hd (W.ext x1))
   ·refine aj ((H.offH a m).2) λ o' e=>?_; rw [hf] at e; exact ac e
   ·refine aj ((H.off a m).2.2) λ o' e=>?_; rw [hf] at e; exact ac e
theorem vG (X:K.In hb):∀ A s hid ρ x pl Q E,aC A k->Sh hb prog w I hid ρ σ s.heap->VR I (ay hid ρ s.heap) ρ (.val (.type "tuple")) x ->
  (∀ h' tk fx fs,Ext [] ρ ρ s.heap h'->Sh hb prog w I hid ρ σ h'->VR I (ay hid ρ h') ρ (.val (.builtin "tuple.__new__")) fx->VRs I (ay hid ρ h') ρ [] fs->Q (fx,fs) { s with heap:=h',toks:=tk })->wpAny (model prog w) A (getMethod x (PySem.Str.ofString "__new__") pl) Q E s:=by
 intro A s hid ρ x pl Q E R H V q;induction V using aK.casesOn;exact ji (X.keeps H.base) (q s.heap (s.toks+1) _ [] (Ext.refl _ _ _) H (.val _) .nil)
end
end
end Mine
end
section
open PySem PySem.W PySem.Spec PySem.Calls PyProof.Rows PySem.SeqAt
open AutoSeq1 (wpAny_loadPart')
namespace Mine
noncomputable section
theorem fJ (m C:Addr) (o:Obj) (items:Array Value) (n:Nat) (hc:o.cls=.ref C) (hd:o.data=.seq items n) (hsz:items.size≤1000) :
  Meets (Builtin.«tuple.__new__» ⟨[.type "tuple",.ref m],[]⟩)
   (λ A R s=>A.handled=none∧(∀ prog w,iN (model prog w) s.heap C)∧s.heap.get? m=some o∧∀ (h':Heap) tk,(∀ b o',s.heap.get? b=some o'->h'.get? b=some o')->R (.ok (.ret (.ref h'.objs.size))) { s with heap:=h'.push { cls:=.type "tuple",data:=.seq items },toks:=tk }) :=
 .of_wp λ prog w A R s h=>by
  obtain ⟨hp,g,d,tk,os⟩:=s; refine eQ h ?_; clear h; rintro hA IO ht h;have hsub:=sub_tuple_self;have hinit:=init_tuple_lookup;have hmh:=madeHere_tuple;have IO1:=IO prog w;have t1:Looks (model prog w) hp (typeOf (.ref m)) (.ref C):=by
   refine (Looks.ld ht).andThen ?_;rw [hc]; exact .now
  have hw:∀ {Q:Value->Shared->Prop} {E:Value->Shared->Prop} {A:Around} ,Q (.ref C) ⟨hp,g,d,tk,os⟩->wpAny (model prog w) A (typeOf (.ref m)) Q E ⟨hp,g,d,tk,os⟩:=λ hq=>t1.here hq;have cl:∀ {Q:List Value->Shared->Prop} {E:Value->Shared->Prop},(∀ h' tk',(∀ b o,hp.get? b=some o->h'.get? b=some o)->Q items.toList ⟨h',g,d,tk',os⟩)->wpAny (model prog w) A.in1 (collect (.ref m)) Q E ⟨hp,g,d,tk,os⟩:=λ hq=>nM (s:=⟨hp,g,d,tk,os⟩) (A:=A.in1) hA IO1 ht hc hd hsz hq;wp_walk using wpAny_loadPart' ht,hw,cl;intro h' tk' hk;refine wpAny_bind (wpAny_pure ?_);show wpAny _ _ (Builtin.Tuple.tupleExact items.toList.toArray >>= λ v=>ret v) _ _ _;unfold Builtin.Tuple.tupleExact;refine wpAny_bind (wpAny_newObj_type ?_ (by show items.toList.toArray.size≤sizeLine; simp; unfold sizeLine; exact Nat.le_trans (by assumption) (by decide)))
  refine wpAny_pure ⟨_,rfl,?_⟩;have e:items.toList.toArray=items:=by simp
  rw [e];exact h h' tk' hk
section
variable {hb:Heap} {prog:Program} {w:World} {I:aZ} {k:Nat} {hid ρ:List Addr} {σ:List O}
theorem rl {C:Addr} {l:List V} (IO:∀ prog w,iN (model prog w) hb C) (hl:km l=true):aL hb prog w I k σ [.val (.type "tuple"),.mat C l] (.tup l,σ) aS:=by
 intro A s hid ρ xs Q E R H V q;induction V using aD.casesOn with
 | cons Vf V =>
  refine ag (wx V) ?_; rintro x rfl Vx;induction Vf using aK.casesOn;induction Vx using ii.casesOn with
  | mat g1 g2 g3 g4 =>
   rename_i m o items n;have hz:=g4.size;have:=cH hl;refine callType_new F.called_tuple (by decide) (F.typeCall_tuple_1 _) (F.newCall_tuple_1 _) (λ obj=>F.args_object_init_2 obj _) F.entry_tuple_new
    (fJ m C o items n g2 g3 (by simp only [*])) ⟨R.hh,λ prog w=>(IO prog w).keeps H.base,g1.1,λ h' tk hk=>?_⟩
   refine ⟨⟨_,Heap.get?_push_size _ rfl,rfl⟩,?_⟩;refine ab (H.keeps hk) λ x1 H1=>?_;refine ab (H1.alloc { cls:=.type "tuple",data:=.seq items }) λ x2 H2=>?_;exact q ρ _ tk s.gens _ (x1.trans0 x2) H2 (.tup (n:=0) (H1.stbNew rfl) ((g4.ext x1).ext x2))
end
end
end Mine
end
section
open PySem PySem.W PySem.Spec PySem.Calls PyProof.Rows PySem.SeqAt
namespace Mine
noncomputable section
section
inductive Fn where
 | plain (fi:i7) (cut:Bool)
 | cells (fi:i7) (cut:Bool)
 | cls (init:i7)
 | mat (new:Addr) (fi:i7)
 | prim (k:Nat)
structure gi where
 globs:List (Str×Value)
 fns:List (Addr×Fn)
 S:fj
 W:Nat
 D:Nat
 row:List Nat
 div:List (Nat×Int×Nat)
 mod:List (Nat×Int×V)
 add:List (Int×Nat×Nat)
 chi:List (Int×Nat)
 cha:List (Nat×Nat)
 scr:List V
def fk:List (Str×Value)->Str->Option V
 | [],_=>none
 | (y,v)::r,x=>aB (y == x) (some (.val v)) (fk r x)
def DM:List (Addr×Fn)->Addr->Option Fn
 | [],_=>none
 | (b,f)::r,a=>aB (Nat.beq b a) (some f) (DM r a)
def za:List (Nat×Int×Nat)->Nat->Int->Option Nat
 | [],_,_=>none
 | (a,i,c)::r,b,j=>aB (Nat.beq a b && oG i j) (some c) (za r b j)
def zb:List (Nat×Int×V)->Nat->Int->Option V
 | [],_,_=>none
 | (a,i,c)::r,b,j=>aB (Nat.beq a b && oG i j) (some c) (zb r b j)
def zc:List (Int×Nat×Nat)->Int->Nat->Option Nat
 | [],_,_=>none
 | (i,a,c)::r,j,b=>aB (Nat.beq a b && oG i j) (some c) (zc r j b)
def zd:List (Int×Nat)->Int->Option Nat
 | [],_=>none
 | (i,c)::r,j=>aB (oG i j) (some c) (zd r j)
def ze:List (Nat×Nat)->Nat->Option Nat
 | [],_=>none
 | (i,c)::r,j=>aB (Nat.beq i j) (some c) (ze r j)
def hK:List V->Option (List Nat)
 | []=>some []
 | v::r=>au (tJ v) λ k=>bs (hK r) λ l=>k::l
noncomputable def jR:List Nat->List Nat->Bool
 | [],[]=>true
 | a::l,b::r=>Nat.beq a b && jR l r
 | _,_=>false
noncomputable def kz:List Nat->List Nat->Bool
 | [],_=>true
 | a::l,b::r=>Nat.beq a b && kz l r
 | _::_,[]=>false
def oR (ws:List Nat):List Nat->Bool
 | []=>kz ws []
 | b::r=>aB (kz ws (b::r)) true (oR ws r)
noncomputable def iz (k:Nat):V:=.str [.at k]
def eC (o:Option O):Bool:=(l7 false (λ y390=>aO (gq false true y390)) o)
def iA (P:gi) (k:Nat) (args:List V) (σ:List O):Option (V×List O):=match k with
 | 0=>((aR none (λ y390 y391=>aO (jt none (λ l=>aO (bg none (au (hK l) λ ks=>aB (jR ks P.row && eC (aU σ 2)) (some (.lin,σ)) none) y391)) y390)) args))
 | 2=>((aR none (λ y390 y391=>aO (jt none (λ l=>aO (aR none (λ y370 y371=>aO (eT none (aO (bg none (au (hK l) λ ks=>aB (Nat.ble 1 ks.length && Nat.ble ks.length 20 && ks.all (λ k=>Nat.ble k 3) && eC (aU σ 1) && eC (aU σ 2)) (some (.bool (oR ks P.row),σ)) none) y371)) y370)) y391)) y390)) args))
 | _=>none
def uq (c:Bool) (n:Nat) (r:V×List O):Option (V×List O):=aB c (mo n r) (some r)
def DN (P:gi) (X:eM) (a:Addr) (args:List V) (σ:List O):Option (V×List O):=au (DM P.fns a) λ f=>match f with
 | .plain fi c=>au (cP X fi args σ) λ r=>uq c σ.length r
 | .cells fi c=>au (yR X fi none args σ) λ r=>uq c σ.length r
 | .cls fi=>aB (Nat.beq a P.S.C) (au (cP X fi (.inst P.S.C σ.length::args) (σ++[.fld []])) λ r=>(cg none (some (.inst P.S.C σ.length,r.2)) r.1)) none
 | .mat new fi=>match args with
  | []=>none
  | x::l=>au (cP X fi (.val (.ref a)::x::l) σ) λ r=>(yf none (λ C l=>aB (Nat.beq C a) (some (.mat a l,r.2)) none) r.1)
 | .prim k=>iA P k args σ
noncomputable def EQ (f:Fn):Option (Addr×i7):=by
 induction f using Fn.casesOn with
 | mat new fi=>exact some (new,fi)
 | _=>exact none
def HB (args:List V) (σ:List O):Option (V×List O):=au (ku args) λ v=>EO v σ
def HC (args:List V) (σ:List O):Option (V×List O):=au (xY args) λ a=>au (ye a.1) λ i=>uf i a.2 σ
def HD (args:List V) (σ:List O):Option (V×List O):=au (Bi args) λ a=>au (ye a.1) λ i=>ug i a.2.1 a.2.2 σ
def HE (args:List V) (σ:List O):Option (V×List O):=au (Bi args) λ a=>au (ye a.1) λ i=>DK i a.2.1 a.2.2 σ
def ER (P:gi) (C:Addr) (l:List V) (r:V×List O):Option (V×List O):=au (DM P.fns C) λ f=>au (EQ f) λ _=>aB (km l) (some r) none
def HF (args:List V) (P:gi) (σ:List O):Option (V×List O):=au (xY args) λ a=>au (yc a.1) λ x=>au (yA x) λ C=>au (nS a.2) λ l=>ER P C l (.mat C l,σ)
def HG (v:V) (P:gi) (σ:List O):Option (V×List O):=au (u8 v) λ i=>bs (zd P.chi i) λ k=>(iz k,σ)
def HH (v:V) (P:gi) (σ:List O):Option (V×List O):=au (Eu v) λ i=>bs (ze P.cha i) λ k=>(iz k,σ)
noncomputable def Jr {α:Type} (x y:Option α):Option α:=Option.rec y some x
def HI (args:List V) (P:gi) (σ:List O):Option (V×List O):=au (ku args) λ v=>Jr (HG v P σ) (HH v P σ)
def DO (id:String) (args:List V) (P:gi) (σ:List O):Option (V×List O) :=
 aB (id == "len") (HB args σ) (aB (id == "list.append") (HC args σ) (aB (id == "dict.get") (HD args σ) (aB (id == "dict.setdefault") (HE args σ) (aB (id == "tuple.__new__") (HF args P σ) (aB (id == "chr") (HI args P σ) none)))))
def DP (args:List V) (σ:List O):Option (V×List O):=au (ku args) λ v=>bs (u8 v) λ b=>(.rng 0 b,σ)
def DQ (args:List V) (σ:List O):Option (V×List O):=au (xY args) λ a=>au (u8 a.1) λ i=>bs (u8 a.2) λ j=>(.rng i j,σ)
def HJ (args:List V) (P:gi) (σ:List O):Option (V×List O):=au (ku args) λ v=>au (Es v) λ m=>ER P m.1 m.2 (.tup m.2,σ)
def zf (T:String) (args:List V) (P:gi) (σ:List O):Option (V×List O) :=
 aB (T == "range") (Jr (DP args σ) (DQ args σ)) (aB (T == "set") (bs (nR args) λ _=>(.eset,σ)) (aB (T == "tuple") (HJ args P σ) none))
theorem zg {α:Type} {x y:Option α} {r:α} {C:Prop} (h:Jr x y=some r) (k1:x=some r->C) (k2:y=some r->C):C:=by
 induction x using Option.casesOn with
 | none=>exact k2 h
 | some a=>exact k1 h
def oU (P:gi) (X:eM) (ev:Ev) (f:V) (args:List V) (σ:List O):Option (V×List O):=(dB (aP (Bl (aP (yi none (λ c=>au (Hu ev c args σ) λ r=>mo σ.length r) f)) (λ id x=>rh id x args σ) f)) (λ w2=>aO (em (aP (f0 (aP (dL none (λ T=>zf T args P σ) w2)) (λ id=>DO id args P σ) w2)) (λ a=>DN P X a args σ) w2)) f)
def zh (P:gi) (o:V) (n:Str) (σ:List O):Option (V×List V):=(cW (aP (dB (uk o n σ) (λ y390=>aO (dL (uk o n σ) (λ T=>aB (T == "tuple" && n == ("__new__" : Str)) (some (.val (.builtin "tuple.__new__"),[])) none) y390)) o)) (λ y390 y391=>um P.S o n σ) o)
def zi (P:gi) (o:V) (n:Str) (σ:List O):Option (V×List O):=(cW (y8 o n σ) (λ y390 y391=>ul P.S o n σ) o)
def ES (P:gi) (op:Operator) (a b:V) (σ:List O):Option (V×List O):=(yj (aP (bv (yW op a b σ) (λ i=>((yj (yW op a b σ) (λ k=>Jp (bs (zc P.add i k) λ c=>(.iat c,σ)) none none none none none op) b))) a)) (λ k=>((bv none (λ i=>Jp none none none (bs (zb P.mod k i) λ v=>(v,σ)) (bs (za P.div k i) λ c=>(.iat c,σ)) none op) b))) a)
def ET (P:gi) (a b c:V) (σ:List O):Option (V×List O):=(DA (EN a b c σ) ((cg none ((bv none (λ i=>aB (oG i 2) (some (.lst P.scr,σ)) none) c)) b)) a)
def zj (o i v:V) (σ:List O):Option (List O):=(eK none (λ d=>DL d i v σ) o)
def vH (P:gi) (n:Nat):eO:=Nat.rec
 ⟨λ _=>none,λ _ _ _=>none,λ _ _ _=>none,λ _ _ _=>none,λ _ _ _ _=>none,λ _ _ _=>none,λ _ _ _ _=>none,λ _ _=>none,λ _ _ _=>none,λ _ _ _ _=>none,λ _ _ _ _=>none,λ _ _ _ _=>none,λ _ _ _ _=>none⟩
 (λ _ ih=>⟨fk P.globs,oU P (qP ih P.W P.D) (k8 ih P.D),zh P,zi P,ES P,BD,qX,BE,ud,ET P,BC,setI P.S,zj⟩) n
def mB (l:List Stmt) (i:Nat):Stmt:=match aU l i with
 | some s=>s
 | none=>.Pass ⟨0,0,0,0⟩
def HK:V->Bool:=λ x0=>(eT (false) (true) x0)
def bb (P:gi) (n:Nat) (law:i7) (args:List V):Option (V×List O) :=
 aB (Nat.beq args.length law.ps.length) (au ((bY (qP (vH P n) P.W P.D) law.names (law.body.take 4)).f ⟨F.of ((iu law.names law.ps).map (aX args)),c7 law.names 3,some 0⟩ ([.tab [],.tabT,.tabT]++(ap law.names 0).map λ p=>.cell (aX args (bx law.ps p.1 0)))) λ p=>match p.1 with
  | .next=>au ((b9 (vH P n) law.names "line").f p.2.1 p.2.2) λ v=>aB (HK v) (au ((jA (vH P n) (k8 (vH P n) P.D) law.names (G7 (mB law.body 4)) (qA (mB law.body 4))).f p.2.1 p.2.2 (.lst (P.row.map iz))) λ q =>
   au ((bY (qP (vH P n) P.W P.D) law.names (law.body.drop 5)).f q.1 q.2) λ r=>match r.1 with
    | .ret v=>some (v,r.2.2)
    | _=>none) none
  | _=>none) none
end
noncomputable abbrev PL:Nat:=200
noncomputable def AP (n:Nat):Nat:=PL+3 * n
section
variable (hb:Heap) (prog:Program) (w:World) (I:aZ) (K:Frag) (P:gi)
def zk (a:Addr):Fn->Prop
 | .plain fi _=>bK hb I a fi
 | .cells fi _=>DJ hb a fi
 | .cls fi=>bK hb I P.S.init fi
 | .mat new fi=>AN (model prog w) hb a new∧bK hb I new fi∧(∀ prog w,iN (model prog w) hb a) ∧
  ∀ {A:Around} {Q:Value->Shared->Prop} {E:Value->Shared->Prop} {s:Shared},(∀ b o,hb.get? b=some o->s.heap.get? b=some o)->(∀ tk,Q (.ref new) { s with toks:=tk })->wpAny (model prog w) A (getAttr (.ref a) "__new__") Q E s
 | .prim k=>∀ args σ r,iA P k args σ=some r->aL hb prog w I PL σ (.val (.ref a)::args) r aS
structure bR:Prop where
 B:gE hb
 GO:cZ hb
 J:I.Inj
 X:K.In hb
 SO:IS K P.S
 globs:∀ x v,fk P.globs x=some v->∃ val mg,v=.val val∧hb.Ns mainGlobals mg∧(mg x=some val∨∃ mb,mg x=none∧hb.Ns builtinsNs mb∧mb x=some val)
 fns:∀ a f,DM P.fns a=some f->zk hb prog w I P a f∧∃ kp,Looks (model prog w) hb (keeperOf (.ref a)) kp
 div:∀ k i c,za P.div k i=some c->(1≤i∧i≤1000000)∧I.zs c=(I.zs k).fdiv i
 mod:∀ k i v,zb P.mod k i=some v->(1≤i∧i≤1000000)∧((∃ c,v=.iat c∧I.zs c=(I.zs k).fmod i)∨v=.int ((I.zs k).fmod i))
 add:∀ i k c,zc P.add i k=some c->I.zs c=i+I.zs k
 chi:∀ i k,zd P.chi i=some k->(0≤i∧i≤0x10FFFF)∧I.θ k=i.toNat
 scrN:I.scr.length≤1000
 scr:∀ {S:Addr->Obj->Prop} {ρ:List Addr} {vs:List Value},IntsAre vs I.scr->∃ l,P.scr=l.take 2∧l.length=vs.length∧VRs I S ρ l vs
 cha:∀ j k,ze P.cha j=some k->(0≤I.zs j∧I.zs j≤0x10FFFF)∧I.θ k=(I.zs j).toNat
end
section
variable {hb:Heap} {prog:Program} {w:World} {I:aZ} {k k':Nat} {hid ρ ρ' ρ'':List Addr} {σ:List O} {A:Around} {s:Shared} {E:Value->Shared->Prop} {h h' h'':Heap} {K:Frag} {P:gi}
theorem aC.low (R:aC A k') (l:k≤k'):aC A k:=⟨R.hh,by have:=R.d; lia,by have:=R.u; lia⟩
theorem aL.up {args:List V} {r:V×List O} {t:List Value->Sem Value} (o:aL hb prog w I k σ args r t) (l:k≤k'):aL hb prog w I k' σ args r t :=
 λ A s hid ρ xs Q E R H V q=>o A s hid ρ xs Q E (R.low l) H V q
theorem dR.up {f:Addr} {args:List V} {r:V×List O} (o:dR hb prog w I k σ f args r) (l:k≤k'):dR hb prog w I k' σ f args r :=
 λ A s hid ρ xs RR R H V q=>o A s hid ρ xs RR (R.low l) H V q
theorem oV {args:List V} {r r':V×List O} {c:Bool} {t:List Value->Sem Value} (o:aL hb prog w I k σ args r t) (e:uq c σ.length r=some r'):aL hb prog w I k σ args r' t:=by
 unfold uq at e;induction c using Bool.casesOn with
 | true=>exact o.trunc e
 | false=>induction e using sI; exact o
theorem zl {α:Type} {x y:α}:aB true x y=x:=rfl
theorem vI {α:Type} {x y:α}:aB false x y=y:=rfl
theorem ur {f:Fn} {q:Addr×i7} (h:EQ f=some q):f=.mat q.1 q.2:=by
 induction f using Fn.casesOn with
 | mat new fi=>obtain rfl:=Option.some.inj h; rfl
 | _=>exact ac h
theorem rm {args:List V} {r:V×List O} (e:HB args σ=some r):aL hb prog w I k σ (.val (.builtin "len")::args) r aS:=by
 refine aa e λ v e1 e=>?_;rw [dh e1];exact ln e
theorem rn {args:List V} {r:V×List O} (e:HC args σ=some r):aL hb prog w I k σ (.val (.builtin "list.append")::args) r aS:=by
 refine ah λ G9 fin9=>?_;refine aa e λ j00 e1 e=>?_; obtain ⟨a,v⟩:=j00;refine aa e λ i e2 e=>?_;cases i5 e1;cases iW e2;refine fin9 ?_; clear fin9 G9;exact ms e
theorem ro (G:bR hb prog w I K P) {args:List V} {r:V×List O} (e:HD args σ=some r):aL hb prog w I k σ (.val (.builtin "dict.get")::args) r aS:=by
 refine ah λ G9 fin9=>?_;refine aa e λ j00 e1 e=>?_; obtain ⟨a,v,d⟩:=j00;refine aa e λ i e2 e=>?_;cases l8 e1;cases iW e2;refine fin9 ?_; clear fin9 G9;exact q0 G.B G.J e
theorem rq (G:bR hb prog w I K P) {args:List V} {r:V×List O} (e:HE args σ=some r):aL hb prog w I k σ (.val (.builtin "dict.setdefault")::args) r aS:=by
 refine ah λ G9 fin9=>?_;refine aa e λ j00 e1 e=>?_; obtain ⟨a,v,d⟩:=j00;refine aa e λ i e2 e=>?_;cases l8 e1;cases iW e2;refine fin9 ?_; clear fin9 G9;exact rb G.B G.J e
theorem us {C:Addr} {l:List V} {r r':V×List O} (e:ER P C l r=some r'):∃ f m,DM P.fns C=some f∧EQ f=some m∧km l=true∧r'=r:=by
 refine aa e λ f e5 e=>?_;refine aa e λ m e6 e=>?_;refine ai e λ e7 e=>?_;exact ⟨f,m,e5,e6,e7,(Option.some.inj e).symm⟩
theorem rt (G:bR hb prog w I K P) {args:List V} {r:V×List O} (e:HF args P σ=some r):aL hb prog w I k σ (.val (.builtin "tuple.__new__")::args) r aS:=by
 refine ah λ G9 fin9=>?_;refine aa e λ j00 e1 e=>?_; obtain ⟨a,v⟩:=j00;refine aa e λ x e2 e=>?_;refine aa e λ C e3 e=>?_;refine aa e λ l e4 e=>?_;refine nH (us e) ?_; rintro f m e5 e6 e7 rfl;cases i5 e1;cases l0 e2;cases i4 e3;cases iX e4;cases ur e6;refine fin9 ?_; clear fin9 G9;exact rk (G.fns _ _ e5).1.1 e7
theorem ru (G:bR hb prog w I K P) {v:V} {r:V×List O} (e:HG v P σ=some r):aL hb prog w I k σ [.val (.builtin "chr"),v] r aS:=by
 refine ah λ G9 fin9=>?_;refine aa e λ i e0 e=>?_;refine az e ?_; rintro c e1 rfl;cases gn e0;refine ab (G.chi _ _ e1) λ j00 f3=>?_; refine ab j00 λ f1 f2=>?_; clear j00;refine fin9 ?_; clear fin9 G9;intro A s hid ρ xs Q E R H V q;refine ak (di V) ?_; rintro _ x rfl Vf Vx;induction Vf using aK.casesOn; induction Vx using aH.casesOn;refine PySem.P.chr_of_int (by simp; simp [*]) (aA.tok H q ?_)
 rw [<-f3];exact .str [.at c] _
theorem rv (G:bR hb prog w I K P) {v:V} {r:V×List O} (e:HH v P σ=some r):aL hb prog w I k σ [.val (.builtin "chr"),v] r aS:=by
 refine ah λ G9 fin9=>?_;refine aa e λ i e0 e=>?_;refine az e ?_; rintro c e1 rfl;cases tG e0;refine ab (G.cha _ _ e1) λ j00 f3=>?_; refine ab j00 λ f1 f2=>?_; clear j00;refine fin9 ?_; clear fin9 G9;intro A s hid ρ xs Q E R H V q;refine ak (di V) ?_; rintro _ x rfl Vf Vx;induction Vf using aK.casesOn; induction Vx using fL.casesOn;refine PySem.P.chr_of_int (by simp; simp [*]) (aA.tok H q ?_)
 rw [<-f3];exact .str [.at c] _
theorem ry (G:bR hb prog w I K P) {args:List V} {r:V×List O} (e:HI args P σ=some r):aL hb prog w I k σ (.val (.builtin "chr")::args) r aS:=by
 refine aa e λ v e1 e=>?_;rw [dh e1];exact zg e (ru G) (rv G)
theorem oW (G:bR hb prog w I K P) {id:String} {args:List V} {r:V×List O} (e:DO id args P σ=some r):aL hb prog w I k σ (.val (.builtin id)::args) r aS:=by
 refine f7 e ?_ ?_<;>clear e
 ·rintro rfl e; exact rm e
 intro e; refine f7 e ?_ ?_<;>clear e
 ·rintro rfl e; exact rn e
 intro e; refine f7 e ?_ ?_<;>clear e
 ·rintro rfl e; exact ro G e
 intro e; refine f7 e ?_ ?_<;>clear e
 ·rintro rfl e; exact rq G e
 intro e; refine f7 e ?_ ?_<;>clear e
 ·rintro rfl e; exact rt G e
 intro e; refine f7 e ?_ ?_<;>clear e
 ·rintro rfl e; exact ry G e
 exact ac
theorem oX {args:List V} {r:V×List O} (e:DP args σ=some r):aL hb prog w I k σ (.val (.type "range")::args) r aS:=by
 refine ah λ G9 fin9=>?_;refine aa e λ v e1 e=>?_;refine az e ?_; rintro b e2 rfl;cases dh e1;cases gn e2;refine fin9 ?_; clear fin9 G9;exact mt
theorem oY {args:List V} {r:V×List O} (e:DQ args σ=some r):aL hb prog w I k σ (.val (.type "range")::args) r aS:=by
 refine ah λ G9 fin9=>?_;refine aa e λ j00 e1 e=>?_; obtain ⟨a,b⟩:=j00;refine aa e λ i e2 e=>?_;refine az e ?_; rintro j e3 rfl;cases i5 e1;cases gn e2;cases gn e3;refine fin9 ?_; clear fin9 G9;exact mu
theorem rz (G:bR hb prog w I K P) {args:List V} {r:V×List O} (e:HJ args P σ=some r):aL hb prog w I k σ (.val (.type "tuple")::args) r aS:=by
 refine ah λ G9 fin9=>?_;refine aa e λ v e1 e=>?_;refine aa e λ j00 e2 e=>?_; obtain ⟨C,l⟩:=j00;refine nH (us e) ?_; rintro f m e3 e4 e5 rfl;cases dh e1;cases tF e2;cases ur e4;refine fin9 ?_; clear fin9 G9;exact rl (G.fns _ _ e3).1.2.2.1 e5
theorem mC (G:bR hb prog w I K P) {T:String} {args:List V} {r:V×List O} (e:zf T args P σ=some r):aL hb prog w I k σ (.val (.type T)::args) r aS:=by
 refine f7 e ?_ ?_<;>clear e
 ·rintro rfl e; exact zg e oX oY
 intro e; refine f7 e ?_ ?_<;>clear e
 ·rintro rfl e;refine az e ?_; rintro _ e1 rfl;cases ew e1;exact rg
 intro e; refine f7 e ?_ ?_<;>clear e
 ·rintro rfl e; exact rz G e
 exact ac
end
end
end Mine
end
section
open PySem PySem.W PySem.Spec PySem.Calls PyProof.Rows PySem.SeqAt
open AutoSeq1 (wpAny_loadPart')
namespace Mine
noncomputable section
theorem rA:mroOf (.type "collections.deque")=pure [.type "collections.deque",.type "object"]:=by rw [mroOf_type]; kernel_rfl
theorem kA:typeLookup (.type "collections.deque") "__new__" = pure (some (.builtin "collections.deque.__new__")):=by rw [typeLookup_type,builtinLookup_eq_fast]; kernel_rfl
theorem zm:isSubtype (.type "collections.deque") (.type "collections.deque")=pure true:=by rw [isSubtype_type]; kernel_rfl
theorem BH:Slot "collections.deque" "__init__" "collections.deque.__init__" :=
 .of (owner := "collections.deque") (n := "__init__") (by rw [typeLookup_type,builtinLookup_eq_fast]; kernel_rfl) (by decide +kernel) (by decide +kernel) (by decide +kernel)
  (by first | exact .inl (by decide +kernel) | exact .inr (by decide +kernel)) (by rw [isSubtype_type]; kernel_rfl)
theorem mD:Slot "collections.deque" "__len__" "collections.deque.__len__" :=
 .of (owner := "collections.deque") (n := "__len__") (by rw [typeLookup_type,builtinLookup_eq_fast]; kernel_rfl) (by decide +kernel) (by decide +kernel) (by decide +kernel)
  (by first | exact .inl (by decide +kernel) | exact .inr (by decide +kernel)) (by rw [isSubtype_type]; kernel_rfl)
theorem vJ:TypeCalled "collections.deque" "collections.deque.__new__" "collections.deque.__init__" :=
 ⟨by decide +kernel,by decide +kernel,⟨_,_,rA⟩,madeBy_type rA kA (by decide +kernel),by decide +kernel,zm,BH⟩
theorem oZ:checkTypeCall "collections.deque" ⟨[],[]⟩=pure ():=by kernel_rfl
theorem rB:checkBuiltinCall "collections.deque.__new__" ⟨[.type "collections.deque"],[]⟩=pure ():=by kernel_rfl
theorem mE:entryFor table "collections.deque.__new__" = some Builtin.«collections.deque.__new__» := entryFor_of_tree (by kernel_rfl)
theorem kB:entryFor table "collections.deque.__init__" = some Builtin.«collections.deque.__init__» := entryFor_of_tree (by kernel_rfl)
theorem mF:entryFor table "collections.deque.__len__" = some Builtin.«collections.deque.__len__» := entryFor_of_tree (by kernel_rfl)
theorem mG:plainId "collections.deque.__new__" = true:=by decide +kernel
theorem o5 (a:Value):argsOk "collections.deque.__init__" ⟨[a],[]⟩:=by unfold argsOk; kernel_rfl
theorem rC (a:Value):argsOk "collections.deque.__len__" ⟨[a],[]⟩:=by unfold argsOk; kernel_rfl
theorem lq:typeLookup (.type "collections.deque") "__bool__" = pure none:=by rw [typeLookup_type,builtinLookup_eq_fast]; kernel_rfl
section
variable {prog:Program} {w:World} {A:Around} {E:Value->Shared->Prop} {s:Shared}
noncomputable abbrev lr:Obj:={ cls:=.type "collections.deque",data:=.fields #[.none,rawInt 0] }
theorem o6 {Q₁:Value->Shared->Prop} (h:Q₁ (.ref s.heap.objs.size) { s with heap:=s.heap.push lr }) :
  codeAny (model prog w) A (.call (.builtin "collections.deque.__new__") ⟨[.type "collections.deque"],[]⟩) (wants Q₁ E) s:=by
 refine codeAny_call_builtin mG mE (wpAny_of_eq rB ?_);have hsub:=zm;have hmro:=rA;have hnd:typeHasDict (.type "collections.deque")=false:=by decide +kernel
 obtain ⟨hp,g,d,tk,os⟩:=s;unfold Builtin.«collections.deque.__new__» Builtin.Deque.newArgs;dsimp only [Builtin.Deque.ty];wp_walk;exact h
theorem BI {Q:Value->Shared->Prop} (h:∀ h',Heap.SameBut s.heap.objs.size (s.heap.push lr) h'->h'.get? s.heap.objs.size=some lr->Q (.ref s.heap.objs.size) { s with heap:=h' }):wpAny (model prog w) A (call (.type "collections.deque") []) Q E s:=by
 refine callType_codes (Q₁:=λ obj s₁=>obj=.ref s.heap.objs.size∧s₁={ s with heap:=s.heap.push lr }) vJ oZ kB (o6 ⟨rfl,rfl⟩) ?_
 rintro obj s₁ ⟨rfl,rfl⟩;have ho:(s.heap.push lr).get? s.heap.objs.size=some lr:=Heap.get?_push_size s.heap rfl;refine ⟨⟨_,ho,rfl⟩,o5 _,?_⟩;obtain ⟨hp,g,d,tk,os⟩:=s;unfold Builtin.«collections.deque.__init__»;refine wpAny_bind (wpAny_pure ?_);refine wpAny_bind (wpAny_pure ?_);refine wpAny_bind (wpAny_pure ?_);refine wpAny_bind (wpAny_setField ho rfl (by decide) ?_)
 have ho2:=Heap.get?_update_self (Obj.mapFields (λ fs=>fs.setIfInBounds 0 Value.none)) ho rfl;refine wpAny_bind ?_;unfold Builtin.Deque.clear Builtin.Deque.items;refine wpAny_bind (wpAny_bind (wpAny_fieldsOf ho2 rfl (wpAny_pure ?_)));rw [if_neg (by simp [Obj.mapFields])]
 refine wpAny_pure (wpAny_pure ⟨rfl,h _ (Heap.SameBut.update ..) ?_⟩);rw [ho2]; rfl
theorem o7 {l:Addr} {o:Obj} {vs:Array Value} {Q:Value->Shared->Prop} (ho:s.heap.get? l=some o) (hc:o.cls=.type "collections.deque") (hd:o.data=.fields vs) (hz:vs.size=2)
  (h:∀ tk tk',Q (.int 0 tk) { s with toks:=tk' }):wpAny (model prog w) A (Builtin.«len» ⟨[.ref l],[]⟩) (λ fin s'=>∃ r,fin=.done (.ret r)∧Q r s') E s:=by
 have hT:s.TypeIs (.ref l) "collections.deque" := ⟨o,ho,hc⟩;unfold Builtin.«len»;refine wpAny_bind (m:=oneArg "len" _) (wpAny_pure ?_);refine wpAny_bind (m:=callSpecial? (.ref l) (Str.ofString "__len__")) (wpAny_callSpecial?_slot (name:=Str.ofString "__len__") hT mD
  (wpAny_call_entry mD hT mF ?_ (rC _)))
 ·unfold Builtin.«collections.deque.__len__»;refine wpAny_bind (m:=slotArgs "__len__" 0 _) (wpAny_of_eq (a:=(Value.ref l,[])) (by first | rfl | kernel_rfl) ?_)
  dsimp only;unfold Builtin.Deque.size;refine wpAny_bind (wpAny_bind (wpAny_fieldsOf ho hd ?_));refine wpAny_pure ?_;unfold retInt;refine wpAny_bind (wpAny_mkInt (wpAny_pure ⟨_,rfl,?_⟩));refine wpAny_bind (wpAny_holding (wpAny_pure ?_));refine wpAny_bind (wpAny_letGo ?_);rw [hz];exact wpAny_bind (wpAny_mkInt (wpAny_pure ⟨_,rfl,h _ _⟩))
theorem vK {l:Addr} {o:Obj} {vs:Array Value} {Q:Bool->Shared->Prop} (ho:s.heap.get? l=some o) (hc:o.cls=.type "collections.deque") (hd:o.data=.fields vs) (hz:vs.size=2)
  (h:∀ tk',Q false { s with toks:=tk' }):wpAny (model prog w) A (truthy (.ref l)) Q E s:=by
 have hT:s.TypeIs (.ref l) "collections.deque" := ⟨o,ho,hc⟩;have key:wpAny (model prog w) A (runValue (.builtin "len" ⟨[.ref l],[]⟩)) (λ r s'=>(∃ tk,r=.int 0 tk)∧Q false s') E s:=by
  refine wpAny_runValue (codeAny_builtin entry_len ?_);rw [Around.under_plainId plain_len _];exact wpAny_mono (o7 (Q:=λ r s'=>(∃ tk,r=.int 0 tk)∧Q false s') ho hc hd hz λ tk tk'=>⟨⟨tk,rfl⟩,h tk'⟩)
   (λ fin s' h'=>by (refine ag h' ?_; clear h'; rintro r rfl hq); exact hq) λ _ _ e=>e
 unfold truthy;first
  | refine wpAny_bind (wpAny_callSpecial?_none (name:=Str.ofString "__bool__") hT lq ?_)
  | refine wpAny_bind (wpAny_pure (wpAny_bind (wpAny_callSpecial?_none (name:=Str.ofString "__bool__") hT lq ?_)))
 first
  | refine wpAny_bind (wpAny_specialOf (name:=Str.ofString "__len__") hT mD.lookup ?_)
  | refine wpAny_bind (wpAny_pure (wpAny_bind (wpAny_specialOf (name:=Str.ofString "__len__") hT mD.lookup ?_)))
 first
  | exact wpAny_bind (wpAny_mono key (λ r s' h'=>by (refine ab h' λ j00 hq=>?_; clear h'; refine aj j00 ?_; clear j00; rintro tk rfl); exact wpAny_pure hq) λ _ _ e=>e)
  | exact wpAny_bind (wpAny_pure (wpAny_bind (wpAny_mono key (λ r s' h'=>by obtain ⟨⟨tk,rfl⟩,hq⟩:=h'; exact wpAny_pure hq) λ _ _ e=>e)))
end
end
end Mine
end
section
open PySem PySem.W PySem.Spec PySem.Calls PyProof.Rows PySem.SeqAt
namespace Mine
noncomputable section
section
def fR:AS->Option (List Nat)
 | []=>some []
 | .lit n::r=>bs (fR r) λ l=>n::l
 | .at _::_=>none
def aW (c:Nat):List Nat->Bool
 | []=>false
 | d::r=>aB (Nat.beq c d) true (aW c r)
def HL:V->Bool:=λ x0=>(aV (false) (λ y390=>true) x0)
def rD {α:Type}:List α->Bool:=λ x0=>(bg (false) (true) x0)
def jS (a b:V) (σ:List O):Option (V×List O):=(aV none (λ x=>((aV none (λ y=>aB (Nat.ble (Nat.add x.length y.length) 3000) (some (.str (x++y),σ)) none) b))) a)
def o8 (ys:List Nat):List Nat->Option Bool
 | []=>none
 | c::r=>(match r with
  | []=>some (aW c ys)
  | _::_=>au (o8 ys r) λ b=>aB (aW c ys) (aB b (some true) none) (aB b none (some false)))
noncomputable def lu (cl:Nat->List Nat):AC->List Nat
 | .lit n=>[n]
 | .at k=>cl k
def IU (cl:Nat->List Nat) (c d:AC):Option Bool:=match d with
 | .lit m=>o8 [m] (lu cl c)
 | .at j=>(match c with
  | .lit n=>o8 [n] (cl j)
  | .at k=>aB (Nat.beq k j) (some true) none)
def HM (cl:Nat->List Nat):AS->AS->Option Bool
 | [],[]=>some true
 | [],_::_=>some false
 | _::_,[]=>some false
 | c::x,d::y=>au (IU cl c d) λ b=>aB b (HM cl x y) (some false)
def BJ (cl:Nat->List Nat) (a b:V):Option Bool:=(aV (aP (eU (aP (jt none (λ l=>((aV none (λ x=>aB (l.all HL) (anyA cl x l) none) a))) b)) (λ l=>((aV none (λ y390=>aO (aR none (λ y380 y381=>aO (kU none (λ c=>aO (bg none (anyS c l) y381)) y380)) y390)) a))) b)) (λ y=>((aV none (λ x=>((bg (aP (aR none (λ c y391=>aO (bg none (au (fR y) λ ys=>o8 ys (lu cl c)) y391)) x)) (some true) x))) a))) b)
where
 anyA (cl:Nat->List Nat) (x:AS):List V->Option Bool
  | []=>some false
  | .str y::r=>au (HM cl y x) λ b=>aB b (some true) (anyA cl x r)
  | _::_=>none
 anyS (c:Nat):List V->Option Bool
  | []=>some false
  | .str y::r=>au (fR y) λ ys=>au (anyS c r) λ u=>some (jR ys [c] || u)
  | _::_=>none
def BK (a:V):Option Bool:=(aV (aP (tH none (some false) a)) (λ x=>aB (Nat.ble x.length 3000) (some (!(rD x))) none) a)
def zn (a b:V) (σ:List O):Option (V×List O):=(aV none (λ x=>((bv none (λ i=>aB (vA i && Nat.ble x.length 3000) (au (f8 i x.length) λ k=>bs (aU x k) λ c=>(.str [c],σ)) none) b))) a)
def zo (a b c:V) (σ:List O):Option (V×List O):=(aV none (λ x=>((cg none ((bv none (λ i=>aB (oG i (-1) && Nat.ble 1 x.length && Nat.ble x.length 3000) (some (.str x.dropLast,σ)) none) c)) b))) a)
end
section
variable {hb:Heap} {prog:Program} {w:World} {I:aZ} {k k':Nat} {hid ρ ρ' ρ'':List Addr} {σ:List O} {A:Around} {s:Shared} {E:Value->Shared->Prop} {h h' h'':Heap}
theorem cL (x:AS):(den I x).length=x.length:=by
 show ((x.map (AC.den I)).toArray).size=_;simp
theorem mH (x y:AS):den I (x++y)=den I x++den I y:=by
 unfold den;rw [List.map_append];show (⟨_⟩:Str)=⟨_⟩;congr 1;simp
theorem dY:∀ {x:AS} {l:List Nat},fR x=some l->x=l.map .lit
 | [],l,h=>by induction h using sI; rfl
 | .lit n::r,l,h=>by
  refine az h ?_; rintro m h1 rfl;rw [List.map_cons,<-dY h1]
 | .at _::_,l,h=>by exact ac h
theorem cR (l:List Nat):den I (l.map .lit)=⟨l.toArray⟩:=by
 unfold den;rw [List.map_map];have:(AC.den I∘AC.lit)=id:=rfl;rw [this,List.map_id]
theorem bf (c:Nat):∀ l:List Nat,aW c l=decide (c∈l)
 | []=>by simp [aW]
 | d::r=>by
  unfold aW;rw [cx];by_cases q:c=d
  ·subst q; simp [aB]
  ·simp only [q,decide_false,List.mem_cons,false_or];exact bf c r
noncomputable def dZ (I:aZ) (cl:Nat->List Nat):Prop:=∀ k,cl k≠[]->I.θ k∈cl k
theorem zp {cl:Nat->List Nat} (C:dZ I cl) {c:AC} (h:lu cl c≠[]):c.den I∈lu cl c:=by
 cases c with
 | lit n=>exact List.mem_singleton.mpr rfl
 | «at» k=>exact C k h
theorem ut {ys:List Nat}:∀ {cs:List Nat} {b:Bool},o8 ys cs=some b->cs≠[]∧∀ c∈cs,aW c ys=b
 | [],b,h=>by exact ac h
 | [c],b,h=>by induction h using sI; exact ⟨by simp,λ d m=>by rw [List.mem_singleton.mp m]⟩
 | c::d::r,b,h=>by
  refine aa ((show au (o8 ys (d::r)) _=some b from h)) λ b' h1 h=>?_;refine ab (ut h1) λ _ h2=>?_;refine ⟨by simp,λ e m=>?_⟩
  have h3:b'=b∧aW c ys=b:=by
   cases q:aW c ys<;>induction b' using Bool.casesOn<;>rw [q] at h<;>first | ((first | induction h using sI | (have j9:=Option.some.inj h; clear h; subst j9)); exact ⟨rfl,rfl⟩) | (exact ac h; done)
  rcases List.mem_cons.mp m with rfl | m
  ·exact h3.2
  ·rw [h2 e m]; exact h3.1
theorem eD {cl:Nat->List Nat} (C:dZ I cl) {c:AC} {ys:List Nat} {b:Bool} (h:o8 ys (lu cl c)=some b):decide (c.den I∈ys)=b:=by
 refine ab (ut h) λ h1 h2=>?_;rw [<-bf];exact h2 _ (zp C h1)
theorem lw {cl:Nat->List Nat} (C:dZ I cl) {c d:AC} {b:Bool} (h:IU cl c d=some b):decide (c.den I=d.den I)=b:=by
 unfold IU at h;split at h
 ·rw [<-eD C h];exact decide_eq_decide.mpr (by simp [AC.den])
 ·split at h
  ·rename_i k _ n;have e1:o8 [n] (lu cl (.at k))=some b:=h;rw [<-eD C e1];refine decide_eq_decide.mpr ?_;show n=AC.den I (.at k)↔AC.den I (.at k)∈[n];simp [eq_comm]
  ·refine ai h λ h1 h=>?_;induction h using sI;rw [Nat.eq_of_beq_eq_true h1];simp
theorem lx {cl:Nat->List Nat} (C:dZ I cl):∀ {x y:AS} {b:Bool},HM cl x y=some b->decide (x.map (AC.den I)=y.map (AC.den I))=b:=by
 intro x9;induction x9 with
 | nil =>
  intro y9 b h;induction y9 using List.casesOn with
  | nil=>induction h using sI; rfl
  | cons _ _=>induction h using sI; simp
 | cons c x ih =>
  intro y9 b h;induction y9 using List.casesOn with
  | nil=>induction h using sI; simp
  | cons d y =>
   refine aa h λ b' h1 h=>?_;have h1:=lw C h1;induction b' using Bool.casesOn with
   | false =>
    induction h using sI;have:=of_decide_eq_false h1;simp [this]
   | true =>
    have h2:=ih (show HM cl x y=some b from h);have:=of_decide_eq_true h1;rw [<-h2];simp [this]
theorem uu {x y:AS}:den I x=den I y↔x.map (AC.den I)=y.map (AC.den I):=by
 unfold den;constructor
 ·intro h;have:=congrArg (λ z:Str=>z.cps.toList) h;simpa using this
 ·intro h; rw [h]
theorem Made.str_post {x:Str} {Q:Value->Shared->Prop} (hl:x.length≤sizeLine) (q:∀ t k,Q (.str x t) { s with toks:=k }):(Made.str x).post Q s:=⟨hl,q _ _⟩
theorem ly {f:Str->Tok->Str->Tok->Sem Value} (hf:∀ {x y:Str} {t u:Tok} {Q:Value->Shared->Prop},(if x.length == 0 then Made.val (.str y u) else if y.length == 0 then Made.val (.str x t) else Made.str (x++y)).post Q s->wpAny (model prog w) A (f x t y u) Q E s)
  {x y:AS} {t u:Tok} {Q:Value->Shared->Prop} (hl:Nat.ble (Nat.add x.length y.length) 3000=true) (H:Sh hb prog w I hid ρ σ s.heap) (q:aA hb prog w I hid ρ s (.str (x++y),σ) Q):wpAny (model prog w) A (f (den I x) t (den I y) u) Q E s:=by
 have hl:x.length+y.length≤3000:=Nat.le_of_ble_eq_true hl;refine hf ?_;rw [cL,cL];induction x using List.casesOn with
 | nil=>exact aA.tok (n:=s.toks) H q (.str y u)
 | cons a r =>
  induction y using List.casesOn with
  | nil =>
   rw [List.append_nil] at q;exact aA.tok (n:=s.toks) H q (.str (a::r) t)
  | cons b r' =>
   refine Made.str_post ?_ λ t k=>?_
   ·rw [<-mH,cL]; simp only [List.length_append]; unfold sizeLine; exact Nat.le_trans (by assumption) (by decide)
   ·rw [<-mH]; exact aA.tok (n:=k) H q (.str _ t)
theorem zq (a b:V) (σ:List O) (r:V×List O) (e:jS a b σ=some r):aL hb prog w I k σ [a,b] r (t2 (binaryOp .Add)):=by
 unfold jS at e;revert e; refine ax ?_ λ e=>?_; rintro _ rfl e
 ·revert e; refine ax ?_ λ e=>?_; rintro _ rfl e
  ·refine ai e λ hl e=>?_;induction e using sI;intro A s hid ρ xs Q E R H V q;refine ak (di V) ?_; rintro _ _ rfl Vx Vy;induction Vx using aG.casesOn; induction Vy using aG.casesOn;exact ly (f:=λ x t y u=>binaryOp .Add (.str x t) (.str y u)) PySem.P.add_str hl H q
  ·exact ac e
 ·exact ac e
theorem zr (a b:V) (σ:List O) (r:V×List O) (e:jS a b σ=some r):aL hb prog w I k σ [a,b] r (t2 (inplaceOp .Add)):=by
 unfold jS at e;revert e; refine ax ?_ λ e=>?_; rintro _ rfl e
 ·revert e; refine ax ?_ λ e=>?_; rintro _ rfl e
  ·refine ai e λ hl e=>?_;induction e using sI;intro A s hid ρ xs Q E R H V q;refine ak (di V) ?_; rintro _ _ rfl Vx Vy;induction Vx using aG.casesOn; induction Vy using aG.casesOn;exact ly (f:=λ x t y u=>inplaceOp .Add (.str x t) (.str y u)) PySem.P.iadd_str hl H q
  ·exact ac e
 ·exact ac e
theorem lz (x:Str):(!(Builtin.Str.occurrences x ⟨#[]⟩ 0 x.length 1).isEmpty)=true:=by
 rw [StrLaws.found_iff];refine ⟨0,by show 0+0≤x.length; simp [*],?_⟩
 unfold Builtin.Str.subAt;simp;left; rfl
theorem jT:∀ (a b:List Nat),jR a b=decide (a=b)
 | [],[]=>rfl
 | [],_::_=>rfl
 | _::_,[]=>rfl
 | x::a,y::b=>by
  show (Nat.beq x y && jR a b)=_;rw [cx,jT a b];by_cases h1:x=y<;>by_cases h2:a=b<;>simp [h1,h2]
theorem vL {cl:Nat->List Nat} (C:dZ I cl) (a b:V) (σ:List O) (t:Bool) (e:BJ cl a b=some t):aL hb prog w I k σ [a,b] (.bool t,σ) (t2 (compareOp .In)):=by
 intro A s hid ρ xs Q E R H V q;refine ak (di V) ?_; rintro _ _ rfl Vx Vy;clear V;unfold BJ at e;revert e; refine ax ?_ λ e=>?_; rotate_left; replace e:=ar e; revert e; refine eV ?_ λ e=>?_; rotate_left; replace e:=ar e; revert e; refine eW ?_ λ e=>?_; rintro _ rfl e; rotate_right; rintro _ rfl e; rotate_right; rintro _ rfl e
 ·rename_i y;revert e; refine ax ?_ λ e=>?_; rintro _ rfl e
  ·revert e; refine aM ?_ λ e=>?_; rotate_left; replace e:=ar e; revert e; refine av ?_ λ e=>?_; rintro _ _ rfl e; replace e:=af e; revert e; refine aM ?_ ac; rintro rfl e; rotate_right; rintro rfl e
   ·induction e using sI;induction Vx using aG.casesOn; induction Vy using aG.casesOn;refine PySem.P.in_str ?_;have:=lz (den I y);rw [show den I []=⟨#[]⟩ from rfl,this];exact aA.tok (n:=s.toks) H q (.bool _)
   ·rename_i c;refine aa e λ ys e1 e2=>?_;induction Vx using aG.casesOn; induction Vy using aG.casesOn;refine PySem.P.in_str ?_;rw [show den I [c]=⟨#[c.den I]⟩ from rfl,StrLaws.found_one,dY e1,cR];have:decide (c.den I∈(⟨ys.toArray⟩:Str).cps.toList)=t:=eD C e2;rw [this];exact aA.tok (n:=s.toks) H q (.bool _)
   ·exact ac e
  ·exact ac e
 ·rename_i l;revert e; refine ax ?_ λ e=>?_; rintro _ rfl e; replace e:=af e; revert e; refine av ?_ ac; rintro _ _ rfl e; replace e:=af e; revert e; refine gu ?_ ac; rintro _ rfl e; replace e:=af e; revert e; refine aM ?_ ac; rintro rfl e
  ·rename_i c;induction Vx using aG.casesOn;induction Vy using cM.casesOn with
   | tup g W =>
    rename_i tx a items n;have key:∀ {l:List Mine.V} {xs:List Value} {t:Bool},BJ.anyS c l=some t->VRs I (ay hid ρ s.heap) ρ l xs->(∀ y∈xs,∃ z u,y=.str z u)∧(xs.any λ y=>match y with | .str z _=>z == ⟨#[c]⟩ | _=>false)=t:=by
     intro l;induction l with
     | nil=>intro xs t h W; induction W using bQ.casesOn; induction h using sI; exact ⟨by simp,rfl⟩
     | cons v l ih =>
      intro xs t h W;induction W using aD.casesOn with
      | cons Va Wr =>
       induction v using V.casesOn<;>first | (exact ac h; done) | skip
       rename_i r y;refine aa h λ ys h1 h=>?_;refine aa h λ t2 h2 h=>?_;induction h using sI;refine ab (ih h2 Wr) λ i1 i2=>?_;induction Va using aG.casesOn;refine ⟨λ z m=>?_,?_⟩
       ·rcases List.mem_cons.mp m with rfl | m
        ·exact ⟨_,_,rfl⟩
        ·exact i1 z m
       ·rw [List.any_cons,i2];congr 1;rw [dY h1,cR];show ((⟨ys.toArray⟩:Str) == ⟨#[c]⟩)=_;rw [jT];by_cases q:ys=[c]
        ·subst q; simp
        ·rw [decide_eq_false q];refine beq_eq_false_iff_ne.mpr λ e=>q ?_;have:=congrArg (λ x:Str=>x.cps.toList) e;simpa using this
    refine ab (key e W) λ k1 k2=>?_;refine in_tupleAt (λ y=>match y with | .str z _=>z == ⟨#[c]⟩ | _=>false) ⟨_,g.1,rfl,_,rfl⟩ (λ y m=>?_) ?_
    ·refine bE (k1 y (by simpa using m)) ?_; rintro z u rfl
     exact EqAt.str_str z u ⟨#[c]⟩ tx
    ·rw [<-Array.any_toList,k2];exact aA.tok (n:=s.toks) H q (.bool _)
  ·exact ac e
 ·rename_i l;revert e; refine ax ?_ λ e=>?_; rintro _ rfl e
  ·rename_i x;induction Vx using aG.casesOn with
   | str tx =>
   induction Vy using dw.casesOn with
   | lst g W =>
    rename_i a items n;have key:∀ {l:List Mine.V} {xs:List Value} {t:Bool},BJ.anyA cl x l=some t->VRs I (ay hid ρ s.heap) ρ l xs->(xs.any λ y=>match y with | .str z _=>z == den I x | _=>false)=t∧(t=false->∀ y∈xs,∃ z u,y=.str z u):=by
     intro l;induction l with
     | nil=>intro xs t h W; induction W using bQ.casesOn; induction h using sI; exact ⟨rfl,by simp⟩
     | cons v l ih =>
      intro xs t h W;induction W using aD.casesOn with
      | cons Va Wr =>
       induction v using V.casesOn<;>first | (exact ac h; done) | skip
       rename_i r y;refine aa h λ b h1 h=>?_;have h1:=lx C h1;induction Va using aG.casesOn;have hb:(den I y == den I x)=b:=by
        rw [<-h1];by_cases q:den I y=den I x
        ·rw [decide_eq_true (uu.mp q)]; simp [q]
        ·rw [decide_eq_false λ e=>q (uu.mpr e)]; exact beq_eq_false_iff_ne.mpr q
       rw [List.any_cons];induction b using Bool.casesOn with
       | true =>
        induction h using sI;refine ⟨?_,λ e=>by cases e⟩
        show ((den I y == den I x) || _)=true
        rw [hb]; rfl
       | false =>
        refine ab (ih (show BJ.anyA cl x l=some t from h) Wr) λ i1 i2=>?_;refine ⟨?_,λ e y m=>?_⟩
        ·show ((den I y == den I x) || _)=t
         rw [hb,i1]; rfl
        ·rcases List.mem_cons.mp m with rfl | m
         ·exact ⟨_,_,rfl⟩
         ·exact i2 e y m
    have allS:∀ {l:List Mine.V} {xs:List Value},(∀ v∈l,HL v=true)->VRs I (ay hid ρ s.heap) ρ l xs->∀ y∈xs,∃ z u,y=.str z u:=by
     intro l;induction l with
     | nil=>intro xs _ W; induction W using bQ.casesOn; simp
     | cons v l ih =>
      intro xs h W y m;induction W using aD.casesOn with
      | cons Va Wr =>
       rcases List.mem_cons.mp m with rfl | m
       ·have:=h v (List.mem_cons_self ..);induction v using V.casesOn<;>first | (exact aT this; done) | skip
        induction Va using aG.casesOn; exact ⟨_,_,rfl⟩
       ·exact ih (λ v m=>h v (List.mem_cons_of_mem _ m)) Wr y m
    refine ai e λ hs e=>?_;refine ab (key e W) λ k2 _=>?_;refine in_listAt (λ y=>match y with | .str z _=>z == den I x | _=>false) ⟨_,g.1,rfl,_,rfl⟩ (λ y m=>?_) ?_
    ·refine bE (allS (λ v m=>List.all_eq_true.mp hs v m) W y (by simpa using m)) ?_; rintro z u rfl
     exact EqAt.str_str z u (den I x) tx
    ·rw [<-Array.any_toList,k2];exact aA.tok (n:=s.toks) H q (.bool _)
  ·exact ac e
 ·exact ac e
theorem jU (a:V) (σ:List O) (b:Bool) (e:BK a=some b):∀ A s hid ρ x Q E,aC A k->Sh hb prog w I hid ρ σ s.heap->VR I (ay hid ρ s.heap) ρ a x->df hb prog w I hid ρ s (b,σ) Q->wpAny (model prog w) A (truthy x) Q E s:=by
 intro A s hid ρ x Q E R H V q;have here:∀ tk,Q b { s with toks:=tk }:=λ tk=>q ρ s.heap tk s.gens (aI.refl _ _ _ _) H
 unfold BK at e;revert e; refine ax ?_ λ e=>?_; rotate_left; replace e:=ar e; revert e; refine nX ?_ λ e=>?_; rintro rfl e; rotate_right; rintro _ rfl e
 ·rename_i y;refine ai e λ hl e=>?_;induction e using sI;have hl:=Nat.le_of_ble_eq_true hl;induction V using aG.casesOn;refine PySem.P.truthy_str ?_ ?_
  ·rw [cL]; lia
  ·have:(((den I y).length:Int) != 0)=!(rD y):=by
    rw [cL];induction y using List.casesOn with
    | nil=>rfl
    | cons _ _ =>
     show ((((_+1:Nat):Int)) != 0)=true;simp; lia
   rw [this];exact here _
 ·induction e using sI;induction V using il.casesOn with
  | edq g hz=>exact vK g.1 rfl rfl hz here
 ·exact ac e
end
section
def BL (a b:V):Option Bool:=(eX (aP (ej none ((ej none (some true) b)) a)) (λ y390 ch e=>((ej none (aB (rD ch) (aB e (some true) none) (some false)) b))) a)
def EU (a b:V) (σ:List O):Option (V×List O):=(eX none (λ o y391 e=>aO (aR none (λ y370 r=>((bv none (λ i=>aB (oG i 1) (some (.pos (Nat.succ o) r e,σ)) none) b))) y391)) a)
def zt:Nat->AS->Option AS
 | 0,_=>some []
 | n+1,c::r=>bs (zt n r) λ l=>c::l
 | _+1,[]=>none
def EW (a b c:V) (σ:List O):Option (V×List O):=(eT none ((eX none (λ o ch e=>((eX (aP (ej none (aB e (some (.str ch,σ)) none) c)) (λ o' y391 y392=>aB (Nat.ble o o') (bs (zt (o' - o) ch) λ l=>(.str l,σ)) none) c))) b)) a)
def zu (a b:V) (σ:List O):Option (V×List O):=(eT none ((eX none (λ y390 y391 y392=>aO (aR none (λ c y371=>some (.str [c],σ)) y391)) b)) a)
inductive zv where
 | plain (fi:i7)
 | cls (S:fj) (init:i7) (n:Nat)
 | prim (r:List V->List O->Option (V×List O))
structure cI where
 cl:Nat->List Nat
 globs:List (Str×Value)
 fns:List (Addr×zv)
 clss:List fj
 props:List (Addr×Str×Addr)
 objs:List Addr
 news:List Addr
 bis:List (String×(List V->List O->Option (V×List O)))
 strm:List (Str×String)
 bms:V->String->List V->List O->Option (V×List O)
 att:V->Str->List O->Option (V×List O)
 W:Nat
 D:Nat
def EX {α:Type}:List (String×α)->String->Option α
 | [],_=>none
 | (b,f)::r,a=>aB (b == a) (some f) (EX r a)
def kD {α:Type}:List (Str×α)->Str->Option α
 | [],_=>none
 | (b,f)::r,a=>aB (b == a) (some f) (kD r a)
theorem uw {α:Type} {l:List (String×α)} {a:String} {f:α} (h:EX l a=some f):(a,f)∈l:=by
 induction l with
 | nil=>exact ac h
 | cons p r ih =>
  obtain ⟨b,g⟩:=p;unfold EX at h;cases q:b == a with
  | true=>rw [q] at h; induction h using sI; rw [beq_iff_eq.mp q]; exact List.mem_cons_self ..
  | false=>rw [q] at h; exact List.mem_cons_of_mem _ (ih h)
theorem zw {α:Type} {l:List (Str×α)} {a:Str} {f:α} (h:kD l a=some f):(a,f)∈l:=by
 induction l with
 | nil=>exact ac h
 | cons p r ih =>
  obtain ⟨b,g⟩:=p;unfold kD at h;cases q:b == a with
  | true=>rw [q] at h; induction h using sI; rw [beq_iff_eq.mp q]; exact List.mem_cons_self ..
  | false=>rw [q] at h; exact List.mem_cons_of_mem _ (ih h)
def vM:List (Addr×zv)->Addr->Option zv
 | [],_=>none
 | (b,f)::r,a=>aB (Nat.beq b a) (some f) (vM r a)
def rE:List fj->Addr->Option fj
 | [],_=>none
 | S::r,C=>aB (Nat.beq S.C C) (some S) (rE r C)
def ux:List (Addr×Str×Addr)->Addr->Str->Option Addr
 | [],_,_=>none
 | (D,y,f)::r,C,x=>aB (Nat.beq D C && y == x) (some f) (ux r C x)
def zx (P:cI) (X:eM) (a:Addr) (args:List V) (σ:List O):Option (V×List O):=au (vM P.fns a) λ f=>match f with
 | .plain fi=>cP X fi args σ
 | .cls S fi n=>aB (Nat.beq a S.C && Nat.beq args.length n) (au (cP X fi (.inst S.C σ.length::args) (σ++[.fld []])) λ r=>(cg none (some (.inst S.C σ.length,r.2)) r.1)) none
 | .prim r=>r args σ
def gG:V->Bool:=λ x0=>(aV (aP (eT (false) (true) x0)) (λ y390=>true) x0)
def o9:V->Bool:=λ x0=>(bv (aP (eX (aP (ej (false) (true) x0)) (λ y390 y391 y392=>true) x0)) (λ y390=>true) x0)
def rF (news:List Addr) (id:String) (args:List V) (σ:List O):Option (V×List O) :=
 aB (id == "len") ((aR none (λ v y391=>aO (bg none ((eT (EO v σ) (some (.pend,σ)) v)) y391)) args))
 (aB (id == "isinstance") ((aR none (λ v y391=>aO (aR none (λ y380 y381=>aO (dB none (λ y370=>aO (dL none (λ T=>aO (bg none (aB (gG v && T == "str") (some (.bool true,σ)) none) y381)) y370)) y380)) y391)) args))
 (aB (id == "object.__new__") ((aR none (λ y390 y391=>aO (dB none (λ y380=>aO (em none (λ C=>aO (bg none (aB (aW C news) (some (.inst C σ.length,σ++[.fld []])) none) y391)) y380)) y390)) args)) none))
def rG (T:String) (args:List V) (σ:List O):Option (V×List O) :=
 aB (T == "type") ((aR none (λ v y391=>aO (bg none (aB (gG v) (some (.val (.type "str"),σ)) (aB (o9 v) (some (.val (.type "int"),σ)) none)) y391)) args))
 (aB (T == "int") ((aR none (λ y390 y391=>aO (bv none (λ i=>aO (bg none (some (.int i,σ)) y391)) y390)) args))
 (aB (T == "collections.deque") ((bg none (some (.edq,σ)) args)) none))
def pb (P:cI) (X:eM) (f:V) (args:List V) (σ:List O):Option (V×List O):=(dB (aP (Bl none (λ id x=>P.bms x id args σ) f)) (λ w1=>aO (em (aP (f0 (aP (dL none (λ T=>rG T args σ) w1)) (λ id=>(match EX P.bis id with | some f=>f args σ | none=>rF P.news id args σ)) w1)) (λ a=>zx P X a args σ) w1)) f)
def pd (P:cI) (o:V) (n:Str) (σ:List O):Option (V×List V):=(cW (aP (aV (aP (dB none (λ y390=>aO (dL none (λ T=>aB (T == "object" && n == ("__new__" : Str)) (some (.val (.builtin "object.__new__"),[])) none) y390)) o)) (λ y390=>bs (kD P.strm n) λ id=>(.val (.builtin id),[o])) o)) (λ C y391=>au (rE P.clss C) λ S=>um S o n σ) o)
def zy (P:cI) (X:eM) (o:V) (n:Str) (σ:List O):Option (V×List O):=(cW (P.att o n σ) (λ C y391=>(match ux P.props C n with | some f=>au (vM P.fns f) λ g=>(match g with | .plain fi=>au (cP X fi [o] σ) λ r=>aB (mx r.1) (some r) none | _=>none) | none=>au (rE P.clss C) λ S=>ul S o n σ)) o)
def mI (op:Operator) (a b:V) (σ:List O):Option (V×List O):=match op with
 | .Add=>((aV (aP (eX (yW .Add a b σ) (λ y390 y391 y392=>EU a b σ) a)) (λ y390=>jS a b σ) a))
 | _=>yW op a b σ
def EY (op:Operator) (a b:V) (σ:List O):Option (V×List O):=match op with
 | .Add=>((aV (BC .Add a b σ) (λ y390=>jS a b σ) a))
 | _=>none
def IV (objs:List Addr) (a b:V):Option Bool:=(cg (aP (dB none (λ w0=>aO (dL (aP (em none (λ y=>((dB none (λ y390=>aO (em none (λ x=>aB (aW x objs && aW y objs) (some (Nat.beq x y)) none) y390)) a))) w0)) (λ T=>((dB none (λ y390=>aO (dL none (λ U=>some (U == T)) y390)) a))) w0)) b)) ((eT (aP (cW (aP (ym (Hz a b) (some false) a)) (λ y390 y391=>some false) a)) (some false) a)) b)
def BM (cl:Nat->List Nat) (a b:V):Option Bool:=(cg (aP (aV none (λ x=>((cg (aP (aV none (λ y=>HM cl x y) b)) (some false) b))) a)) ((cg (aP (aV none (λ y390=>some false) b)) (some true) b)) a)
def kE (objs:List Addr) (cl:Nat->List Nat) (op:CmpOp) (a b:V) (σ:List O):Option Bool:=IP (BM cl a b)
 (aV none (λ y390=>((aV none (λ y390=>bs (BM cl a b) λ t=>!t) b))) a)
 (eX (aP (ej (qX .Lt a b σ) (bs (BL a b) λ t=>!t) a)) (λ y390 y391 y392=>bs (BL a b) λ t=>!t) a) (qX .LtE a b σ) (qX .Gt a b σ)
 (eX (aP (ej (qX .GtE a b σ) (BL a b) a)) (λ y390 y391 y392=>BL a b) a) (IV objs a b) (bs (IV objs a b) λ t=>!t) (BJ cl a b) (aV none (λ y390=>bs (BJ cl a b) λ t=>!t) b) op
def uy (a:V) (σ:List O):Option Bool:=(aV (aP (tH (BE a σ) (BK a) a)) (λ y390=>BK a) a)
def hN (a b:V) (σ:List O):Option (V×List O):=(aV (aP (eT (ud a b σ) (zu a b σ) a)) (λ y390=>zn a b σ) a)
def pe (a b c:V) (σ:List O):Option (V×List O):=(aV (aP (eT (EN a b c σ) (EW a b c σ) a)) (λ y390=>zo a b c σ) a)
def zz (P:cI) (o:V) (n:Str) (v:V) (σ:List O):Option (List O):=(cW none (λ C y391=>au (rE P.clss C) λ S=>setI S o n v σ) o)
def hO (P:cI) (n:Nat):eO:=Nat.rec
 ⟨λ _=>none,λ _ _ _=>none,λ _ _ _=>none,λ _ _ _=>none,λ _ _ _ _=>none,λ _ _ _=>none,λ _ _ _ _=>none,λ _ _=>none,λ _ _ _=>none,λ _ _ _ _=>none,λ _ _ _ _=>none,λ _ _ _ _=>none,λ _ _ _ _=>none⟩
 (λ _ ih=>⟨fk P.globs,pb P (qP ih P.W P.D),pd P,zy P (qP ih P.W P.D),mI,BD,kE P.objs P.cl,uy,hN,pe,EY,zz P,λ _ _ _ _=>none⟩) n
end
section
variable {hb:Heap} {prog:Program} {w:World} {I:aZ} {k k':Nat} {hid ρ ρ' ρ'':List Addr} {σ:List O} {A:Around} {s:Shared} {E:Value->Shared->Prop} {h h' h'':Heap} {K:Frag} {P:gi} {X:eM} {ev:Ev}
theorem pg (G:bR hb prog w I K P) (hk:PL≤k) (SX:dQ hb prog w I k X) {a:Addr} {args:List V} {r:V×List O} (e:DN P X a args σ=some r):aL hb prog w I (k+2) σ (.val (.ref a)::args) r aS:=by
 refine aa e λ f e1 e=>?_;have ff:=(G.fns _ _ e1).1;split at e
 ·refine aa e λ r1 e2 e=>?_;exact oV ((cr ff G.B.nl SX e2).op.up (by simp [*])) e
 ·refine aa e λ r1 e2 e=>?_;exact oV ((yU ff G.B.nl SX e2).op.up (by simp [*])) e
 ·rename_i fi;refine ai e λ h1 e=>?_;refine aa e λ r1 e2 e=>?_;revert e; refine bj ?_ λ e=>?_; intro _ e
  ·rename_i er;refine ah λ G9 fin9=>?_;induction e using sI;have:=Nat.eq_of_beq_eq_true h1;subst this;obtain ⟨v1,σ1⟩:=r1;subst er;refine fin9 ?_; clear fin9 G9;exact rj G.X G.SO (cr ff G.B.nl SX e2)
  ·exact ac e
 ·rename_i new fi;refine eQ ff λ f1 f2 f3 f4=>?_; clear ff;split at e
  ·exact ac e
  ·rename_i x l;refine aa e λ r1 e2 e=>?_;revert e; refine yg ?_ λ e=>?_; intro _ _ _ e
   ·rename_i C l' er;refine ah λ G9 fin9=>?_;refine ai e λ h1 e=>?_;induction e using sI;have:=Nat.eq_of_beq_eq_true h1;subst this;obtain ⟨v1,σ1⟩:=r1;subst er;refine fin9 ?_; clear fin9 G9;exact oQ (by simp) f1 f4 (cr f2 G.B.nl SX e2)
   ·exact ac e
 ·exact (ff _ _ _ e).up (by exact Nat.le_trans (by assumption) (Nat.le_add_right _ _))
theorem pj (G:bR hb prog w I K P) (hk:PL≤k) (SE:eN hb prog w I k ev) (SX:dQ hb prog w I k X) {f:V} {args:List V} {r:V×List O} (e:oU P X ev f args σ=some r):aL hb prog w I (k+2) σ (f::args) r aS:=by
 unfold oU at e;revert e; refine bo ?_ λ e=>?_; rotate_left; replace e:=ar e; revert e; refine iY ?_ λ e=>?_; rotate_left; replace e:=ar e; revert e; refine nU ?_ λ e=>?_; rintro _ rfl e; rotate_right; rintro _ _ rfl e; rotate_right; rintro _ rfl e; replace e:=af e; revert e; refine bM ?_ λ e=>?_; rotate_left; replace e:=ar e; revert e; refine cK ?_ λ e=>?_; rotate_left; replace e:=ar e; revert e; refine bG ?_ ac; rintro _ rfl e; rotate_right; rintro _ rfl e; rotate_right; rintro _ rfl e
 ·exact pg G hk SX e
 ·exact oW G e
 ·exact mC G e
 ·exact mw G.B G.J e
 ·refine aa e λ r1 e1 e=>?_;exact ((vz G.B.nl SE e1).up (by simp [*])).trunc e
 ·exact ac e
theorem mJ (G:bR hb prog w I K P) {f:V} {args:List V} {r:V×List O} (e:oU P X ev f args σ=some r):∀ hid ρ h x,Sh hb prog w I hid ρ σ h->VR I (ay hid ρ h) ρ f x->∃ kp,Looks (model prog w) h (keeperOf x) kp:=by
 intro hid ρ h x H V;unfold oU at e;revert e; refine bo ?_ λ e=>?_; rotate_left; replace e:=ar e; revert e; refine iY ?_ λ e=>?_; rotate_left; replace e:=ar e; revert e; refine nU ?_ λ e=>?_; rintro _ rfl e; rotate_right; rintro _ _ rfl e; rotate_right; rintro _ rfl e; replace e:=af e; revert e; refine bM ?_ λ e=>?_; rotate_left; replace e:=ar e; revert e; refine cK ?_ λ e=>?_; rotate_left; replace e:=ar e; revert e; refine bG ?_ ac; rintro _ rfl e; rotate_right; rintro _ rfl e; rotate_right; rintro _ rfl e
 ·refine aa e λ f e1 e=>?_;refine aj ((G.fns _ _ e1).2) λ kp L=>?_;induction V using aK.casesOn;exact ⟨kp,L.keeps H.base⟩
 ·induction V using aK.casesOn; exact ⟨.machine,Looks.of_pure rfl⟩
 ·induction V using aK.casesOn; exact ⟨.machine,Looks.of_pure rfl⟩
 ·induction V using jl.casesOn with
  | bm g _=>exact ⟨.machine,(Looks.ld (part:=none) g.1).andThen .now⟩
 ·induction V using im.casesOn with
  | clo g=>exact ⟨.frame,(Looks.ld (part:=none) g.1).andThen .now⟩
 ·exact ac e
theorem rH (G:bR hb prog w I K P) (op:Operator) (a b:V) (σ:List O) (r:V×List O) (e:ES P op a b σ=some r):aL hb prog w I k σ [a,b] r (t2 (binaryOp op)):=by
 unfold ES at e;revert e; refine nW ?_ λ e=>?_; rotate_left; replace e:=ar e; revert e; refine bc ?_ λ e=>?_; rintro _ rfl e; rotate_right; rintro _ rfl e
 ·rename_i j;revert e; refine bc ?_ λ e=>?_; rintro _ rfl e
  ·rename_i i;induction op using Operator.casesOn with
   | FloorDiv =>
    refine az e ?_; rintro c e1 rfl;refine ab (G.div _ _ _ e1) λ j00 f3=>?_; refine ab j00 λ f1 f2=>?_; clear j00;intro A s hid ρ xs Q E R H V q;refine ak (di V) ?_; rintro _ _ rfl Vx Vy;induction Vx using fL.casesOn; induction Vy using aH.casesOn;refine floordiv_int (by lia) (aA.tok H q ?_) (.inl (PyProof.noPylong_small (by grind)))
    rw [<-f3]; exact .iat c _
   | Mod =>
    refine az e ?_; rintro v e1 rfl;refine ab (G.mod _ _ _ e1) λ j00 f3=>?_; refine ab j00 λ f1 f2=>?_; clear j00;intro A s hid ρ xs Q E R H V q;refine ak (di V) ?_; rintro _ _ rfl Vx Vy;induction Vx using fL.casesOn; induction Vy using aH.casesOn;refine mod_int' (by lia) (aA.tok H q ?_)
    rcases f3 with ⟨c,rfl,f4⟩ | rfl
    ·rw [<-f4]; exact .iat c _
    ·exact .int _ _
   | _=>exact ac e
  ·exact ac e
 ·rename_i i;revert e; refine nW ?_ λ e=>?_; rintro _ rfl e
  ·rename_i j;induction op using Operator.casesOn with
   | Add =>
    refine az e ?_; rintro c e1 rfl;have f3:=G.add _ _ _ e1;intro A s hid ρ xs Q E R H V q;refine ak (di V) ?_; rintro _ _ rfl Vx Vy;induction Vx using aH.casesOn; induction Vy using fL.casesOn;refine PySem.P.add_int (aA.tok H q ?_);rw [<-f3]; exact .iat c _
   | _=>exact ac e
  ·exact fG G.B.nl _ _ _ _ _ e
 ·exact fG G.B.nl _ _ _ _ _ e
theorem po (G:bR hb prog w I K P) (o:V) (n:Str) (σ:List O) (r:V×List O) (e:zi P o n σ=some r):aL hb prog w I k σ [o] r (t1 λ x=>getAttr x n true):=by
 unfold zi at e;revert e; refine bU ?_ λ e=>?_; rintro _ _ rfl e
 ·exact ix G.X G.SO.toSOKa _ _ _ _ e
 ·exact oN _ _ _ _ e
theorem pq (G:bR hb prog w I K P) (o:V) (n:Str) (σ:List O) (f:V) (first:List V) (e:zh P o n σ=some (f,first)):∀ A s hid ρ x pl Q E,aC A k->Sh hb prog w I hid ρ σ s.heap->VR I (ay hid ρ s.heap) ρ o x ->
  (∀ h' tk fx fs,Ext [] ρ ρ s.heap h'->Sh hb prog w I hid ρ σ h'->VR I (ay hid ρ h') ρ f fx->VRs I (ay hid ρ h') ρ first fs->Q (fx,fs) { s with heap:=h',toks:=tk })->wpAny (model prog w) A (getMethod x n pl) Q E s:=by
 unfold zh at e;revert e; refine bU ?_ λ e=>?_; rotate_left; replace e:=ar e; revert e; refine bo ?_ λ e=>?_; rintro _ rfl e; replace e:=af e; revert e; refine bG ?_ ac; rintro _ rfl e; rotate_right; rintro _ _ rfl e
 ·exact iy G.X G.SO.toSOKa _ _ _ _ _ e
 ·refine ai e λ h1 e=>?_;refine ah λ G9 fin9=>?_;refine ab (Bool.and_eq_true_iff.mp h1) λ h0 h1=>?_;obtain rfl:=beq_iff_eq.mp h0;obtain rfl:=dj h1;cases e;refine fin9 ?_; clear fin9 G9;exact vG G.X
 ·exact oO _ _ _ _ _ e
theorem rI (G:bR hb prog w I K P) (a b c:V) (σ:List O) (r:V×List O) (e:ET P a b c σ=some r):∀ A s hid ρ x l u Q E,aC A k->Sh hb prog w I hid ρ σ s.heap->VR I (ay hid ρ s.heap) ρ a x->VR I (ay hid ρ s.heap) ρ b l->VR I (ay hid ρ s.heap) ρ c u->aA hb prog w I hid ρ s r Q ->
  SubscriptOn (model prog w) A x (.ref s.heap.objs.size) Q E { s with heap:=s.heap.push (bp l u) }:=by
 unfold ET at e;revert e; refine yk ?_ λ e=>?_; rintro rfl e
 ·revert e; refine bj ?_ λ e=>?_; rintro rfl e
  ·revert e; refine bc ?_ λ e=>?_; rintro _ rfl e
   ·rename_i i;refine ai e λ e1 e=>?_;induction e using sI;rw [dD] at e1;have:=of_decide_eq_true e1;subst this;intro A s hid ρ x lv uv Q E R H Vx Vb Vc q;induction Vx using jo.casesOn with
    | scr a1 a2 =>
     obtain ⟨l,f1,f2,f3⟩:=G.scr a2;have hl:l.length≤1000:=by
      have:=G.scrN;have:∀ {vs:List Value} {ns:List Int},IntsAre vs ns->vs.length=ns.length:=λ h=>by induction h<;>simp [*]
      rw [f2,this a2]; assumption
     rw [f1] at q;refine hG (.lst l) .none (.int 2) σ (.lst (l.take 2),σ) ?_ A s hid ρ _ lv uv Q E R H (.lst a1 f3) Vb Vc q;show (aB (Nat.ble l.length 1000) _ none)=_;rw [Nat.ble_eq_true_of_le hl];show some (V.lst ((l.drop 0).take (clipAt l.length 2 - 0)),σ)=_;have h2:clipAt l.length 2=min 2 l.length:=by
      unfold clipAt;simp;grind
     rw [h2,List.drop_zero,Nat.sub_zero];have h3:l.take (min 2 l.length)=l.take 2:=by
      rcases Nat.le_total 2 l.length with h | h
      ·rw [Nat.min_eq_left h]
      ·rw [Nat.min_eq_right h,List.take_length,List.take_of_length_le h]
     rw [h3]
   ·exact ac e
  ·exact ac e
 ·exact hG a b c σ r e
theorem EZ (G:bR hb prog w I K P):∀ n,cN hb prog w I (AP n) (vH P n):=by
 intro n;induction n with
 | zero =>
  refine ⟨?_,?_,?_,?_,?_,?_,?_,?_,?_,?_,?_,?_,?_,?_⟩
  ·exact λ _ _ e=>nomatch (show none=some _ from e)
  ·exact λ _ _ _ _ e=>nomatch (show none=some _ from e)
  ·exact λ _ _ _ _ e=>nomatch (show none=some _ from e)
  ·exact λ _ _ _ _ _ e=>nomatch (show none=some _ from e)
  ·exact λ _ _ _ _ e=>nomatch (show none=some _ from e)
  ·exact λ _ _ _ _ _ e=>nomatch (show none=some _ from e)
  ·exact λ _ _ _ _ e=>nomatch (show none=some _ from e)
  ·exact λ _ _ _ _ _ e=>nomatch (show none=some _ from e)
  ·exact λ _ _ _ e=>nomatch (show none=some _ from e)
  ·exact λ _ _ _ _ e=>nomatch (show none=some _ from e)
  ·exact λ _ _ _ _ _ e=>nomatch (show none=some _ from e)
  ·exact λ _ _ _ _ _ e=>nomatch (show none=some _ from e)
  ·exact λ _ _ _ _ _ e=>nomatch (show none=some _ from e)
  ·exact λ _ _ _ _ _ e=>nomatch (show none=some _ from e)
 | succ n ih =>
  have OK:=ih;have SE:=(bl G.GO OK P.D).1;have SX:=aY G.GO OK P.W P.D;have hl:PL≤AP n:=Nat.le_add_right _ _;have h2:AP n+2≤AP (n+1):=by unfold AP; simp +arith
  have h3:∃ m,AP (n+1)=m+1:=⟨AP n+2,by unfold AP; exact (Nat.add_assoc _ _ _).symm⟩
  refine ⟨G.globs,?_,?_,?_,?_,?_,?_,?_,?_,?_,?_,?_,?_,?_⟩
  ·exact λ f args σ r e=>(pj G hl SE SX e).up h2
  ·exact λ f args σ r e=>mJ (ev:=k8 (vH P n) P.D) (X:=qP (vH P n) P.W P.D) G e
  ·exact λ o n σ f first e=>pq G o n σ f first e
  ·exact λ o n σ r e=>po G o n σ r e
  ·exact λ op a b σ r e=>rH G op a b σ r e
  ·exact λ op a σ r e=>lc op a σ r e
  ·intro op a b σ r e;refine aj h3 λ m hm=>?_; clear h3;rw [hm];exact vD G.J op a b σ r e
  ·exact λ a σ b e=>lf a σ b e
  ·exact λ a b σ r e=>jM a b σ r e
  ·exact λ a b c σ r e=>rI G a b c σ r e
  ·exact λ op a b σ r e=>lb op a b σ r e
  ·exact λ o n v σ r e=>jQ G.X G.SO.toSOKa o n v σ r e
  ·intro o i v σ r e;change zj o i v σ=some r at e;unfold zj at e;revert e; refine cm ?_ λ e=>?_; rintro _ rfl e
   ·exact rd G.B e
   ·exact ac e
end
structure BN (M:Model) (h:Heap) (C new ini:Addr):Prop where
 obj:∃ oc od cd sl,h.get? C=some ⟨oc,od,.cls cd,sl⟩∧cd.hasDel=false∧cd.abstract=false
 base:Looks M h (Bind.staticBase (.ref C)) (.type "object")
 made0:Looks M h (Bind.madeBy (.type "object")) (some "object.__new__")
 made:Looks M h (Bind.madeBy (.ref C)) none
 isty:Looks M h (isType (.ref C)) true
 obj0:Looks M h (isSubtype (.ref C) (.type "object")) true
 self:Looks M h (isSubtype (.ref C) (.ref C)) true
 here:Looks M h (Bind.madeHere "object.__new__" (.ref C)) ()
 init:Looks M h (typeLookup (.ref C) "__init__") (some (.ref ini))
 bind:∀ self,Looks M h (bindSpecial (.ref ini) self) (.ref ini,[self])
 mro:∃ l,Looks M h (mroOf (.ref C)) l∧l.isEmpty=false
 call:Looks M h (specialOf (.ref C) "__call__") (some (.builtin "type.__call__"))
 typ:Looks M h (isInstance (.ref C) (.type "type")) true
theorem BN.keeps {M:Model} {h h':Heap} {C new init:Addr} (m:BN M h C new init) (k:∀ b o,h.get? b=some o->h'.get? b=some o):BN M h' C new init:=by
 obtain ⟨⟨oc,od,cd,sl,hC,e1,e2⟩,b1,b2,a1,a2,a3,a4,a5,a6,a7,⟨l,a10,a11⟩,a12,a13⟩:=m;exact ⟨⟨oc,od,cd,sl,k _ _ hC,e1,e2⟩,b1.keeps k,b2.keeps k,a1.keeps k,a2.keeps k,a3.keeps k,a4.keeps k,a5.keeps k,a6.keeps k,λ self=>(a7 self).keeps k,⟨l,a10.keeps k,a11⟩,a12.keeps k,a13.keeps k⟩
section
variable {prog:Program} {w:World} {A:Around} {E:Value->Shared->Prop} {s:Shared} {K:Frag} {C new init:Addr}
theorem BP {R:Result->Shared->Prop} (Y:BN (model prog w) s.heap C new init)
  (hq:R (.ok (.ret (.ref (s.heap.objs.size+1)))) { s with heap:=(s.heap.push emptyDict).push (instObj C s.heap.objs.size) }) :
  codeAny (model prog w) A (.call (.builtin "object.__new__") ⟨[.ref C],[]⟩) R s:=by
 obtain ⟨h,g,d,t,os⟩:=s;obtain ⟨⟨oc,od,cd,sl,hC,e2,e1⟩,base,made0,made,isty,aw,self,here,init,bind,mro,call,typ⟩:=Y;have F:=PySem.F.objNew;refine codeAny_call_builtin_code (Code.quiet_builtin _ F.quiet) ?_;unfold checkBuiltinCall;rw [F.kind,F.split,F.row];dsimp only;have args:Bind.checkArgs "object.__new__" ⟨.hand, "object.__new__", "__new__",.cls,[]⟩ ⟨[.ref C],[]⟩=pure ():=by kernel_rfl
 rw [args];repeat (first | with_reducible refine eR rfl ?_ | with_reducible refine nJ rfl ?_ | with_reducible refine eR (bne_self_eq_false _) ?_ | lk)
 refine codeAny_builtin F.entry ?_;unfold Builtin.«object.__new__»;have fin:∀ A',wpAny (model prog w) A' (do
   let d <-if typeHasDict (.ref C) then some <$> alloc { cls:=.type "dict",data:=.dict #[] } else pure none
   ret (<-newObj (.ref C) .plain d)) (λ fin s'=>match fin with | .done f=>R (.ok f) s' | .again c'=>c'.quiet=true∧codeAny (model prog w) A c' R s') (λ e s'=>R (.error e) s') ⟨h,g,d,t,os⟩:=by
  intro A';show wpAny _ _ ((alloc emptyDict >>= λ x=>pure (some x)) >>= _) _ _ _;refine wpAny_bind (wpAny_bind (wpAny_alloc (wpAny_pure (wpAny_bind ?_))));show wpAny _ _ (newObjAsIs _ _ _) _ _ _;unfold newObjAsIs classHasDel;refine wpAny_bind (wpAny_alloc (wpAny_bind (wpAny_bind (wpAny_load (Heap.get?_push_of_some _ (Heap.get?_push_of_some _ hC)) (wpAny_pure ?_)))));rw [e2];refine wpAny_pure (wpAny_pure ?_);show R _ _;rw [Heap.size_push];exact hq
 repeat (first | exact fin _ | with_reducible refine eR e1 ?_ | with_reducible refine eR rfl ?_ | with_reducible refine nJ rfl ?_ | with_reducible refine eR (bne_self_eq_false _) ?_ | lk)
theorem zA {vals:List Value} {kw:List (Str×Value)} {R:Result->Shared->Prop} (Y:BN (model prog w) s.heap C new init)
  (hn:∀ {A:Around} {Q:Value->Shared->Prop} {E:Value->Shared->Prop},(∀ tk,Q (.ref new) { s with toks:=tk })->wpAny (model prog w) A (getAttr (.ref C) "__new__") Q E s)
  (hc:∀ tk (R':Result->Shared->Prop),(∀ (a dx:Addr) (h':Heap) tk gs,h'.get? a=some (instObj C dx)->BN (model prog w) h' C new init ->
   codeAny (model prog w) (A.under (.builtin "type.__call__" ⟨.ref C::vals,kw⟩)) (.call (.ref init) ⟨.ref a::vals,kw⟩) (InitBack a R) { s with heap:=h',toks:=tk,gens:=gs } ->
   R' (.ok (.ret (.ref a))) { s with heap:=h',toks:=tk,gens:=gs })->codeAny (model prog w) (A.under (.builtin "type.__call__" ⟨.ref C::vals,kw⟩)) (.call (.ref new) ⟨.ref C::vals,kw⟩) R' { s with toks:=tk }) :
  codeAny (model prog w) A (.call (.ref C) ⟨vals,kw⟩) R s:=by
 obtain ⟨⟨oc,od,cd,sl,hC,e2,e1⟩,base,made0,made,isty,aw,self,here,init',bind,⟨l,mro,e4⟩,call,typ⟩:=Y;obtain ⟨h,g,d,t,os⟩:=s;refine codeAny_of_tree ?_;show wpAny _ _ (callAny (.ref C) _) _ _ _;refine nd_load hC ?_;show wpAny _ _ (callAny.viaDunder (.ref C) _) _ _ _;unfold callAny.viaDunder;refine wpAny_bind (call.at ?_);dsimp only;rw [tc_bind];refine wpAny_bind (wpAny_pure (wpAny_bind (wpAny_pure ?_)));refine wpAny_pure (a:=Fin.again (.call (.builtin "type.__call__") ⟨.ref C::vals,kw⟩)) (And.intro rfl ?_);refine codeAny_call_builtin_at (Code.quiet_builtin _ (by decide +kernel)) entry_typeCall (check_slot tc_kind tc_split typ (tc_args _ _ _) ?_)
 unfold Builtin.«type.__call__»;repeat (first | with_reducible refine eR e4 ?_ | with_reducible refine eR rfl ?_ | with_reducible refine nJ rfl ?_ | with_reducible refine hn λ tk=>?_ | with_reducible refine wpAny_call ?_ | lk)
 refine hc _ _ λ a dx h' tk' gs ho hk hR=>?_;obtain ⟨_,_,_,m1,_,o1,s1,_,i1,b0,_,_,_⟩:=hk;have t1:Looks (model prog w) h' (typeOf (.ref a)) (.ref C):=(Looks.ld ho).andThen .now;have b1:=b0 (.ref a);dsimp only;unfold isInstance callSpecial? specialOf;repeat (first | with_reducible refine wpAny_call ?_ | lk)
 refine codeAny_mono hR λ r s' z=>?_;rcases r with e | (v | _ | _ | _)<;>first | exact z | exact z.elim | skip
 refine ab z ?_; clear z; rintro rfl z;exact wpAny_pure (wpAny_pure z)
end
section
variable {prog:Program} {w:World} {A:Around} {E:Value->Shared->Prop} {s:Shared} {K:Frag}
theorem iR (K:Frag):findCls K (.type "object") (.type "type") (PySem.Str.ofString "__new__")=some (.val (.builtin "object.__new__")):=by kernel_rfl
theorem iS {pl:Sem Bool} {Q:Value×List Value->Shared->Prop} (X:K.In s.heap) (h:Q (.builtin "object.__new__",[]) { s with toks:=s.toks+1 }) :
  wpAny (model prog w) A (getMethod (.type "object") (PySem.Str.ofString "__new__") pl) Q E s:=by
 have hstub:opaqueClassAbove (.type "object")=pure none:=by unfold opaqueClassAbove; dsimp only; rw [show Manifest.isStub "object" = false by decide +kernel]; rfl
 have ht:typeOf (.type "object")=pure (.type "type"):=by first | rfl | kernel_rfl
 have L0:Looks (model prog w) s.heap (typeOf (.type "object")) (.type "type"):=Looks.of_pure ht;have hg:findIn K (.type "type") "__getattribute__" = some (some (.builtin "type.__getattribute__")):=type_tga;unfold getMethod specialOf;refine wpAny_bind (wpAny_bind (L0.here ((looks_findIn X hg).here ?_)));dsimp only;rw [if_pos canon_tga];refine wpAny_bind (wpAny_mono (Q:=λ v=>Q (v,[])) (E:=E) ?_ (λ _ _ z=>wpAny_pure z) λ _ _ z=>z);have LO:Looks (model prog w) s.heap (opaqueClassAbove (.type "object")) none:=Looks.of_pure hstub;refine cls_open X LO L0 hg (looks_hook X (r:=none) (by rfl)) (by show subIn K _ _=_; rfl) (iR K) ?_
 exact wpAny_pure (handed_on rfl h)
end
theorem zB {α:Type} {K:Frag} {M:Model} {A:Around} {E:Value->Shared->Prop} {Q:α->Shared->Prop} {s:Shared} {o:Obj} (X:K.In s.heap) :
  ∀ (t:Sem α) (g:Addr->Sem α),peekA K ⟨M.prog,M.w.params⟩ t=some (o,g)->wpAny M A (g s.heap.objs.size) Q E { s with heap:=s.heap.push o }->wpAny M A t Q E s:=by
 intro t;induction t with
 | rule _ k ih=>intro g e q Γ p hΓ; exact ih () g e q Γ p hΓ
 | point _ k ih=>intro g e q Γ p hΓ; exact ih () g e q Γ p hΓ
 | ask k ih=>intro g e q Γ p hΓ; exact ih _ g e q Γ p hΓ
 | load a _ k ih =>
  intro g e q Γ p hΓ;simp only [peekA] at e;split at e
  ·rename_i ob ho; exact ⟨ob,X _ _ ho,ih ob g e q Γ p hΓ⟩
  ·exact ac e
 | alloc ob k _ =>
  intro g e q;have e:some (ob,k)=some (o,g):=e;refine ab (Prod.mk.inj (Option.some.inj e)) λ e1 e2=>?_;subst e1;subst e2;show wpAny M A (alloc ob >>= k) Q E s;exact wpAny_bind (wpAny_alloc q)
 | _=>intro g e; exact ac e
section
variable {hb:Heap} {prog:Program} {w:World} {I:aZ} {k:Nat} {Φ:eO} {ev:Ev} {X:eM} {hid ρ ρ' ρ'':List Addr} {σ:List O} {A:Around} {s:Shared} {env:Env} {N:aq} {ae:AE} {E:Value->Shared->Prop} {h h' h'':Heap}
theorem zC {names:aq} {ps:List Str} {vs:List V} {x:Str} {i:Nat} {kd:NameKind} {v:V} (hn:ps.Nodup) (hp:dy names x=some (i,kd)) (h:F.get i (F.of ((plan names ps).map (aX vs)))=some v):(ps.zip vs).reverse.lookup x=some v :=
 mi (fi:=⟨[],names,ps,[]⟩) hn hp h
theorem pu {f:Addr} {fd:FuncData} {body:List Stmt} {ps:List Str} {vs:List V} {xs:List Value} {p:Fl×AE×List O} {r:V×List O} {RR:Result->Shared->Prop} (NL:hb.NoLimit) (SX:dQ hb prog w I k X)
  (hg:fd.globals=mainGlobals) (hc:fd.closure=[]) (hu:fd.builtins=builtinsNs) (hk:fd.scope.kind=.function) (hnc:∀ x∈fd.scope.names,x.2≠.cell) (hloc:∀ q∈ps,fd.scope.names.lookup q=some .local) (hps:ps.Nodup)
  (e2:(bY X fd.scope.names body).f ⟨F.of ((plan fd.scope.names ps).map (aX vs)),[],none⟩ σ=some p) (e:(match p.1 with
   | .ret v=>some (v,p.2.2)
   | .next=>some (.none,p.2.2)
   | _=>none)=some r)
  (R:aC A (k+1)) (H:Sh hb prog w I hid ρ σ s.heap) (Vs:VRs I (ay hid ρ s.heap) ρ vs xs) (q:aA hb prog w I hid ρ s r (λ v s'=>RR (.ok (.ret v)) s')) :
  wpAny (model prog w) A.in1 (newFunctionEnv fd.scope fd.globals fd.closure (ps.zip xs) (fd.qualname ++ ".<locals>.") (some f) fd.code none fd.builtins)
   (λ env s₂=>s₂.heap.NoLimit∧codeAny (model prog w) A (.func body env) RR s₂) (λ e s'=>RR (.error e) s') s:=by
 have Lr:iQ I (ay hid ρ s.heap) ρ (ps.zip vs) (ps.zip xs):=iQ.zip Vs;rw [hc];refine wpAny_newFunctionEnv hnc (λ x hx=>hloc x.1 (List.of_mem_zip hx).1) (λ h₁ hns hsb=>⟨(NL.keeps H.base).fresh _ hsb,codeAny_func ?_⟩) hk;have hk₁:∀ b o,s.heap.get? b=some o->h₁.get? b=some o:=λ b o e=>hsb.extBut b o (Nat.ne_of_lt (Heap.lt_size e)) (Heap.get?_push_of_some _ e);have hn:=bh s.heap;refine da (id hns) λ o' es ep ho' _=>?_;refine ab (H.hideK hn hk₁ ⟨o',ho'⟩) λ H1 st1=>?_;have Y1:ao I fd.scope.names (newEnv fd.scope s.heap.objs.size fd.globals [] (fd.qualname ++ ".<locals>.") (some f) fd.code none fd.builtins) ⟨F.of ((plan fd.scope.names ps).map (aX vs)),[],none⟩ (s.heap.objs.size::hid) ρ h₁:=by
  refine ⟨hk,rfl,hg,hu,List.mem_cons_self ..,⟨_,hns,λ x i kd v hp hv=>?_⟩,λ x i kd c hp hi=>(by induction i using Nat.casesOn<;>exact ac hi),λ i e=>(by exact ac e)⟩
  refine ag (Lr.rev.look (zC hps hp hv)) λ y h1 h2=>?_;exact ⟨y,h1,h2.tr ⟨[],by exact dS⟩ st1⟩
 have hJ:s.heap.objs.size∉hid:=H.nextH;refine bi (s:={ s with heap:=h₁,toks:=s.toks+_ }) SX (R.deeper _) e2 Y1 H1 λ ρ2 h2 tk2 gs2 fl x2 H2 Y2 F2=>?_
 refine ab (H2.drop (h':=h2) hJ λ c o _ e=>e) λ H3 st3=>?_;have x3:aI I [] ρ ρ2 s.heap s.gens h2 gs2:=⟨⟨x2.pre,λ c o e n _=>x2.keep c o (hk₁ _ _ e) n (λ m=>bd e (List.mem_singleton.mp m)),λ a m n=>by
  have z:=x2.new a m n;cases q':s.heap.get? a with
  | none=>rfl
  | some o=>rw [hk₁ _ _ q'] at z; cases z⟩,x2.gb⟩
 obtain ⟨f',ae',σ'⟩:=p;cases F2 with
 | next=>induction e using sI; exact q ρ2 h2 tk2 gs2 _ x3 H3 .none
 | ret V=>induction e using sI; exact q ρ2 h2 tk2 gs2 _ x3 H3 (V.tr ⟨[],by exact dS⟩ st3)
 | brk=>exact ac e
 | cont=>exact ac e
end
section
variable (hb:Heap) (prog:Program) (w:World) (I:aZ) (K:Frag) (P:cI) (lv:Nat)
def zD (S:fj) (n:Nat):Prop:=∀ (k:Nat) (σ:List O) (args:List V) (σ':List O),lv≤k->args.length=n->dR hb prog w I k (σ++[.fld []]) S.init (.inst S.C σ.length::args) (.none,σ')->aL hb prog w I (k+1) σ (.val (.ref S.C)::args) (.inst S.C σ.length,σ') aS
def BQ (a:Addr):zv->Prop
 | .plain fi=>bK hb I a fi
 | .cls S fi n=>bK hb I S.init fi∧zD hb prog w I lv S n
 | .prim r=>∀ args σ v,r args σ=some v->aL hb prog w I lv σ (.val (.ref a)::args) v aS
structure zE (C:Addr) (n:Str) (f:Addr):Prop where
 get:plainGet K C n=true
 has:hasDictIn K C=true
 at_:∃ p rest,findIn K (.ref C) n=some (some (.ref p))∧specialIn K (.ref p) "__get__" = some (some (.builtin "property.__get__"))∧takesIn K (.ref p)=some true∧recIn K p "property" = some (.ref f::rest)
structure cy:Prop where
 B:gE hb
 GO:cZ hb
 C:dZ I P.cl
 LI:I.line.length≤3000
 X:K.In hb
 globs:∀ x v,fk P.globs x=some v->∃ val mg,v=.val val∧hb.Ns mainGlobals mg∧(mg x=some val∨∃ mb,mg x=none∧hb.Ns builtinsNs mb∧mb x=some val)
 fns:∀ a f,vM P.fns a=some f->BQ hb prog w I lv a f∧∃ kp,Looks (model prog w) hb (keeperOf (.ref a)) kp
 clss:∀ C S,rE P.clss C=some S->SOKa K S
 props:∀ C n f,ux P.props C n=some f->zE K C n f
 objs:∀ a,aW a P.objs=true->∃ o,hb.get? a=some o∧o.cls≠.type "tuple"
 news:∀ C,aW C P.news=true->∃ new ini,BN (model prog w) hb C new ini
 bis:∀ id f,EX P.bis id=some f->∀ args σ r,f args σ=some r->aL hb prog w I lv σ (.val (.builtin id)::args) r aS
 strm:∀ n id,kD P.strm n=some id->∀ {A:Around} {E:Value->Shared->Prop} {s:Shared} {x:Str} {t:Tok} {pl:Sem Bool} {Q:Value×List Value->Shared->Prop},Q (.builtin id,[.str x t]) s->wpAny (model prog w) A (getMethod (.str x t) n pl) Q E s
 bms:∀ v id args σ r,P.bms v id args σ=some r->aL hb prog w I lv σ (.bm id v::args) r aS
 att:∀ o n σ r,P.att o n σ=some r->aL hb prog w I lv σ [o] r (t1 λ x=>getAttr x n true)
end
section
variable {hb:Heap} {prog:Program} {w:World} {I:aZ} {k k':Nat} {hid ρ ρ' ρ'':List Addr} {σ:List O} {A:Around} {s:Shared} {E:Value->Shared->Prop} {h h' h'':Heap} {K:Frag} {P:cI} {X:eM} {ev:Ev}
theorem rJ (a b:V) (σ:List O) (r:V×List O) (e:EU a b σ=some r):aL hb prog w I k σ [a,b] r (t2 (binaryOp .Add)):=by
 unfold EU at e;revert e; refine cn ?_ λ e=>?_; rintro _ _ _ rfl e; replace e:=af e; revert e; refine av ?_ ac; rintro _ _ rfl e
 ·rename_i o fl c ch;revert e; refine bc ?_ λ e=>?_; rintro _ rfl e
  ·rename_i i;refine ai e λ e1 e=>?_;induction e using sI;rw [dD] at e1;have:=of_decide_eq_true e1;subst this;intro A s hid ρ xs Q E R H V q;refine ak (di V) ?_; rintro _ _ rfl Vx Vy;induction Vy using aH.casesOn;induction Vx using dc.casesOn with
   | pos t h1 h2 h3 =>
    refine PySem.P.add_int (aA.tok H q ?_);have hlt:I.base+o < I.line.cps.toList.length:=by
     refine aj h2 λ r' hr=>?_; clear h2;have:=congrArg List.length hr;simp only [List.length_append,List.map_cons,List.length_cons,List.length_drop] at this;grind
    have hd:I.line.cps.toList.drop (I.base+Nat.succ o)=(I.line.cps.toList.drop (I.base+o)).drop 1:=by rw [List.drop_drop]; rfl
    have e2:((I.base+o:Nat):Int)+1=((I.base+Nat.succ o:Nat):Int):=by push_cast; simp +arith
    rw [e2];refine .pos _ (by assumption) ?_ λ hf=>?_
    ·rw [hd];refine aj h2 λ r' hr=>?_; clear h2;rw [<-hr];exact ⟨r',by simp⟩
    ·rw [hd,h3 hf]; rfl
  ·exact ac e
 ·exact ac e
theorem rK {a b:V} {t:Bool} {x y:Value} {S:Addr->Obj->Prop} (e:BL a b=some t) (Vx:VR I S ρ a x) (Vy:VR I S ρ b y):∃ i j u v,x=.int i u∧y=.int j v∧t=decide (j≤i):=by
 unfold BL at e;revert e; refine cn ?_ λ e=>?_; rotate_left; replace e:=ar e; revert e; refine dq ?_ λ e=>?_; rintro rfl e; rotate_right; rintro _ _ _ rfl e
 ·rename_i o ch fl;revert e; refine dq ?_ λ e=>?_; rintro rfl e
  ·induction Vy using cV.casesOn with
   | pend v =>
   induction Vx using dc.casesOn with
   | pos u h1 h2 h3 =>
    refine ⟨_,_,_,_,rfl,rfl,?_⟩;induction ch using List.casesOn with
    | nil =>
     change aB true (aB fl (some true) none) (some false)=some t at e;refine ai e λ hf e=>?_;induction e using sI;have:=h3 hf;have hl:=congrArg List.length this;simp only [List.map_nil,List.length_drop,List.length_nil] at hl;exact (decide_eq_true (by omega)).symm
    | cons c r =>
     change aB false (aB fl (some true) none) (some false)=some t at e;induction e using sI;refine aj h2 λ r' hr=>?_; clear h2;have:=congrArg List.length hr;simp only [List.map_cons,List.length_append,List.length_cons,List.length_drop] at this;exact (decide_eq_false (by grind)).symm
  ·exact ac e
 ·revert e; refine dq ?_ λ e=>?_; rintro rfl e
  ·induction e using sI;induction Vx using cV.casesOn; induction Vy using cV.casesOn;exact ⟨_,_,_,_,rfl,rfl,by simp⟩
  ·exact ac e
 ·exact ac e
theorem pz:∀ {n:Nat} {ch l:AS},zt n ch=some l->n≤ch.length∧l=ch.take n
 | 0,ch,l,h=>by induction h using sI; exact ⟨Nat.zero_le _,rfl⟩
 | n+1,[],l,h=>by exact ac h
 | n+1,c::r,l,h=>by
  refine az h ?_; rintro m h1 rfl;refine ab (pz h1) λ h2 h3=>?_;exact ⟨Nat.succ_le_succ h2,by rw [h3]; rfl⟩
theorem BR (x:Str) (lo hi:Option Int) (l u:Option (Int×Tok)) (hl:l.map (·.1)=lo) (hu:u.map (·.1)=hi):(slicePicked x l u none).filterMap (x.cps[·]?)=(x.cps.toList.drop (lo.elim 0 (clipAt x.length))).take (hi.elim x.length (clipAt x.length) - lo.elim 0 (clipAt x.length)) ∧
  (slicePicked x l u none).length=hi.elim x.length (clipAt x.length) - lo.elim 0 (clipAt x.length):=by
 subst hl hu;have e:slicePicked x l u none=sliceRange ((((l.map (·.1)).elim 0 (clipAt x.length):Nat)):Int) ((((u.map (·.1)).elim x.length (clipAt x.length):Nat)):Int) 1:=by
  unfold slicePicked Builtin.Str.strSliceIndices;induction l using Option.casesOn<;>induction u using Option.casesOn<;>simp [clipAt_cast]
 rw [e,sliceRange_one];exact ⟨pick_run x.cps _ _,by simp⟩
theorem lA (n:Nat) (i:Int):clipAt n i≤n:=by
 have:=clipAt_cast n i;grind
theorem E1 {x:Str} {t:Tok} {lo hi:Option Int} {l u:Option (Int×Tok)} (hl:l.map (·.1)=lo) (hu:u.map (·.1)=hi) {Q:Value->Shared->Prop} {y:List Nat} (hz:x.length≤sizeLine)
  (hy:(x.cps.toList.drop (lo.elim 0 (clipAt x.length))).take (hi.elim x.length (clipAt x.length) - lo.elim 0 (clipAt x.length))=y) (q:∀ t k,Q (.str ⟨y.toArray⟩ t) { s with toks:=k }):(sliceMade x t l u none).post Q s:=by
 refine ab (BR x lo hi l u hl hu) λ h1 h2=>?_;unfold sliceMade;rw [h1,h2,hy];have hlo:lo.elim 0 (clipAt x.length)≤x.length:=by induction lo using Option.casesOn<;>simp [lA]
 have hhi:hi.elim x.length (clipAt x.length)≤x.length:=by induction hi using Option.casesOn<;>simp [lA]
 split
 ·rename_i hc;simp only [Option.map_none,Option.getD_none,Bool.and_eq_true,beq_iff_eq] at hc;have:y=x.cps.toList:=by
   rw [<-hy];have h3:lo.elim 0 (clipAt x.length)=0∧hi.elim x.length (clipAt x.length)=x.length:=by
    by_cases hz:x.length=0
    ·simp_all
    ·lia
   rw [h3.1,h3.2,List.drop_zero];exact List.take_of_length_le (by rw [Array.length_toList]; exact Nat.le_refl _)
  rw [this] at q;exact q t s.toks
 ·refine ⟨?_,q _ _⟩;show y.toArray.size≤sizeLine;rw [List.size_toArray,<-hy,List.length_take,List.length_drop,Array.length_toList];have:x.cps.size=x.length:=rfl;omega
theorem f9:typeLookup (.type "str") "__getitem__" = pure (some (.builtin "str.__getitem__")):=F.slot_str_getitem.lookup
theorem rL {x:Str} {t:Tok} {lv uv:Value} {Q:Value->Shared->Prop} {lo hi:Option Int} {l u:Option (Int×Tok)} (el:lv=partValue l) (eu:uv=partValue u) (hl:l.map (·.1)=lo) (hu:u.map (·.1)=hi) {y:List Nat} (hz:x.length≤sizeLine)
  (hy:(x.cps.toList.drop (lo.elim 0 (clipAt x.length))).take (hi.elim x.length (clipAt x.length) - lo.elim 0 (clipAt x.length))=y)
  (q:∀ t k,Q (.str ⟨y.toArray⟩ t) { s with heap:=s.heap.push (bp lv uv),toks:=k }):SubscriptOn (model prog w) A (.str x t) (.ref s.heap.objs.size) Q E { s with heap:=s.heap.push (bp lv uv) }:=by
 subst el eu;refine ⟨"str",_,f9,typeIs_str _ _ _,?_⟩;exact wpAny_getItem_str_slice (l:=l) (u:=u) (st:=none) ⟨_,Heap.get?_push_size _ rfl,rfl,rfl⟩ rfl (E1 (s:={ s with heap:=s.heap.push (bp (partValue l) (partValue u)) }) hl hu hz hy q)
theorem pB (a b c:V) (σ:List O) (r:V×List O) (e:zo a b c σ=some r):∀ A s hid ρ x l u Q E,aC A k->Sh hb prog w I hid ρ σ s.heap->VR I (ay hid ρ s.heap) ρ a x->VR I (ay hid ρ s.heap) ρ b l->VR I (ay hid ρ s.heap) ρ c u->aA hb prog w I hid ρ s r Q ->
  SubscriptOn (model prog w) A x (.ref s.heap.objs.size) Q E { s with heap:=s.heap.push (bp l u) }:=by
 unfold zo at e;revert e; refine ax ?_ λ e=>?_; rintro _ rfl e
 ·rename_i y;revert e; refine bj ?_ λ e=>?_; rintro rfl e
  ·revert e; refine bc ?_ λ e=>?_; rintro _ rfl e
   ·rename_i i;refine ah λ G9 fin9=>?_;refine ai e λ hc e=>?_;induction e using sI;rw [Bool.and_eq_true,Bool.and_eq_true,dD] at hc;refine ab hc λ j00 h3=>?_; clear hc; refine ab j00 λ h1 h2=>?_; clear j00;have h1:=of_decide_eq_true h1;have h2:=Nat.le_of_ble_eq_true h2;have h3:=Nat.le_of_ble_eq_true h3;subst h1;refine fin9 ?_; clear fin9 G9;intro A s hid ρ x lv uv Q E R H Vx Vb Vc q;induction Vx using aG.casesOn; induction Vb using be.casesOn; induction Vc using aH.casesOn;rename_i tx tu;refine ab (H.alloc (bp .none (.int (-1) tu))) λ x1 H1=>?_;refine rL (l:=none) (u:=some (-1,tu)) (lo:=none) (hi:=some (-1)) (y:=y.dropLast.map (AC.den I)) rfl rfl rfl rfl (by rw [cL]; unfold sizeLine; exact Nat.le_trans (by assumption) (by decide)) ?_ λ t k=>?_
    ·have e1:(some (-1:Int)).elim (den I y).length (clipAt (den I y).length)=y.length - 1:=by
      show clipAt (den I y).length (-1)=_;have:=clipAt_neg (den I y).length 1 (by exact Nat.le_of_ble_eq_true rfl)
      rw [cL] at this ⊢;exact this
     rw [e1];show (((y.map (AC.den I)).toArray.toList).drop 0).take (y.length - 1 - 0)=_;rw [List.drop_zero,Nat.sub_zero,List.toList_toArray,<-List.map_take,List.dropLast_eq_take]
    ·exact q ρ _ k s.gens _ x1.g H1 (.str y.dropLast t)
   ·exact ac e
  ·exact ac e
 ·exact ac e
theorem rM (hI:I.line.length≤3000) (a b c:V) (σ:List O) (r:V×List O) (e:EW a b c σ=some r):∀ A s hid ρ x l u Q E,aC A k->Sh hb prog w I hid ρ σ s.heap->VR I (ay hid ρ s.heap) ρ a x->VR I (ay hid ρ s.heap) ρ b l->VR I (ay hid ρ s.heap) ρ c u->aA hb prog w I hid ρ s r Q ->
  SubscriptOn (model prog w) A x (.ref s.heap.objs.size) Q E { s with heap:=s.heap.push (bp l u) }:=by
 have hsz:I.line.cps.toList.length=I.line.length:=Array.length_toList;unfold EW at e;revert e; refine dA ?_ λ e=>?_; rintro rfl e
 ·revert e; refine cn ?_ λ e=>?_; rintro _ _ _ rfl e
  ·rename_i o ch fl;revert e; refine cn ?_ λ e=>?_; rotate_left; replace e:=ar e; revert e; refine dq ?_ λ e=>?_; rintro rfl e; rotate_right; rintro _ _ _ rfl e
   ·rename_i o' ch' fl';refine ai e λ hc e=>?_;refine az e ?_; rintro l e1 rfl;have hc:=Nat.le_of_ble_eq_true hc;refine ab (pz e1) ?_; rintro hl1 rfl;intro A s hid ρ x lv uv Q E R H Vx Vb Vc q;induction Vx using du.casesOn;induction Vb using dc.casesOn with
    | pos t1 a1 a2 a3 =>
    induction Vc using dc.casesOn with
    | pos t2 b1 b2 b3 =>
    refine ab (H.alloc (bp (.int ((I.base+o:Nat):Int) t1) (.int ((I.base+o':Nat):Int) t2))) λ x1 H1=>?_;refine rL (l:=some (((I.base+o:Nat):Int),t1)) (u:=some (((I.base+o':Nat):Int),t2)) (lo:=some ((I.base+o:Nat):Int)) (hi:=some ((I.base+o':Nat):Int)) (y:=(ch.take (o' - o)).map (AC.den I)) rfl rfl rfl rfl (by unfold sizeLine; exact Nat.le_trans (by assumption) (by decide)) ?_ λ t k=>?_
    ·show (I.line.cps.toList.drop (clipAt I.line.length ((I.base+o:Nat):Int))).take (clipAt I.line.length ((I.base+o':Nat):Int) - clipAt I.line.length ((I.base+o:Nat):Int))=_;rw [clipAt_nat,clipAt_nat,Nat.min_eq_left (by assumption),Nat.min_eq_left (by assumption)]
     have:I.base+o' - (I.base+o)=o' - o:=by lia
     rw [this];refine aj a2 λ r' hr=>?_; clear a2;rw [<-hr,List.take_append_of_le_length (by rw [List.length_map]; exact hl1),List.map_take]
    ·exact q ρ _ k s.gens _ x1.g H1 (.str (ch.take (o' - o)) t)
   ·refine ai e λ hc e=>?_;induction e using sI;intro A s hid ρ x lv uv Q E R H Vx Vb Vc q;induction Vx using du.casesOn;induction Vc using cV.casesOn with
    | pend t2 =>
    induction Vb using dc.casesOn with
    | pos t1 a1 a2 a3 =>
    refine ab (H.alloc (bp (.int ((I.base+o:Nat):Int) t1) (.int (I.line.cps.toList.length:Int) t2))) λ x1 H1=>?_;refine rL (l:=some (((I.base+o:Nat):Int),t1)) (u:=some ((I.line.cps.toList.length:Int),t2)) (lo:=some ((I.base+o:Nat):Int)) (hi:=some (I.line.cps.toList.length:Int)) (y:=ch.map (AC.den I)) rfl rfl rfl rfl (by unfold sizeLine; exact Nat.le_trans (by assumption) (by decide)) ?_ λ t k=>?_
    ·show (I.line.cps.toList.drop (clipAt I.line.length ((I.base+o:Nat):Int))).take (clipAt I.line.length (I.line.cps.toList.length:Int) - clipAt I.line.length ((I.base+o:Nat):Int))=_;rw [clipAt_nat,clipAt_nat,Nat.min_eq_left (by exact Nat.le_of_eq (by assumption)),Nat.min_eq_left (by assumption),a3 hc]
     refine List.take_of_length_le ?_;rw [<-a3 hc,List.length_drop];exact Nat.le_refl _
    ·exact q ρ _ k s.gens _ x1.g H1 (.str ch t)
   ·exact ac e
  ·exact ac e
 ·exact ac e
theorem pC (hI:I.line.length≤3000) (a b:V) (σ:List O) (r:V×List O) (e:zu a b σ=some r):∀ A s hid ρ x y Q E,aC A k->Sh hb prog w I hid ρ σ s.heap->VR I (ay hid ρ s.heap) ρ a x->VR I (ay hid ρ s.heap) ρ b y->aA hb prog w I hid ρ s r Q->SubscriptOn (model prog w) A x y Q E s:=by
 have hsz:I.line.cps.toList.length=I.line.length:=Array.length_toList;unfold zu at e;revert e; refine dA ?_ λ e=>?_; rintro rfl e
 ·revert e; refine cn ?_ λ e=>?_; rintro _ _ _ rfl e; replace e:=af e; revert e; refine av ?_ ac; rintro _ _ rfl e
  ·rename_i o fl c ch;induction e using sI;intro A s hid ρ x y Q E R H Vx Vy q;induction Vx using du.casesOn;induction Vy using dc.casesOn with
   | pos t1 a1 a2 a3 =>
   have hlt:I.base+o < I.line.cps.toList.length∧I.line.cps.toList[I.base+o]?=some (c.den I):=by
    refine aj a2 λ r' hr=>?_; clear a2;have h1:=congrArg (·[0]?) hr;simp only [List.map_cons,List.cons_append,List.getElem?_cons_zero,List.getElem?_drop,Nat.add_zero] at h1;exact ⟨(List.getElem?_eq_some_iff.mp h1.symm).1,h1.symm⟩
   refine ⟨"str",_,f9,typeIs_str _ _ _,PySem.P.getItem_str (c:=c.den I) (by simp; lia) ?_ ?_⟩
   ·have:seqIndex? ((I.base+o:Nat):Int) I.line.length=some (I.base+o):=by
     unfold seqIndex?;simp;grind
    rw [this];simpa using hlt.2
   ·exact aA.tok (n:=s.toks+1) H q (.str [c] s.toks)
  ·exact ac e
 ·exact ac e
end
theorem fa {α:Type _} {p:α->Prop} {a:α} {l:List α} (h:p a) (t:∀ x∈l,p x):∀ x∈a::l,p x:=List.forall_mem_cons.mpr ⟨h,t⟩
theorem ja {α:Type _} {p:α->Prop}:∀ x∈([]:List α),p x:=λ _ m=>nomatch m
theorem bW {α β:Type _} {f g:α->β} {l:List α} (h:l.map f=l.map g):∀ x∈l,f x=g x:=List.map_inj_left.mp h
theorem BS {α:Type _} {p:α->Prop} (n:Nat) {l:List α} (h1:∀ x∈l.take n,p x) (h2:∀ x∈l.drop n,p x):∀ x∈l,p x:=λ x m=>(List.mem_append.mp ((List.take_append_drop n l).symm▸m)).elim (h1 x) (h2 x)
theorem DR {α β:Type _} {p:α->β->Prop} {l:List (α×β)} {a:α} {b:β} (m:(a,b)∈l) (h:∀ q∈l,p q.1 q.2):p a b:=h _ m
theorem Kt {α:Type _} {p:α->Prop} {l:List α} {a:α} (m:a∈l) (h:∀ q∈l,p q):p a:=h _ m
section
noncomputable abbrev am:Params->Frag:=kH
noncomputable def E2 (d:Data):Option (Array Value):=by
 induction d using Data.casesOn with
 | fields a=>exact some a
 | _=>exact none
theorem uz {d:Data} {x:Array Value} (h:E2 d=some x):d=.fields x:=by
 induction d using Data.casesOn with
 | fields a=>exact congrArg _ (Option.some.inj h)
 | _=>exact ac h
noncomputable def HN (d:Data):Option (ClassData):=by
 induction d using Data.casesOn with
 | cls a=>exact some a
 | _=>exact none
theorem BU {d:Data} {x:ClassData} (h:HN d=some x):d=.cls x:=by
 induction d using Data.casesOn with
 | cls a=>exact congrArg _ (Option.some.inj h)
 | _=>exact ac h
noncomputable def HO (d:Data):Option (FuncData):=by
 induction d using Data.casesOn with
 | func a=>exact some a
 | _=>exact none
theorem BV {d:Data} {x:FuncData} (h:HO d=some x):d=.func x:=by
 induction d using Data.casesOn with
 | func a=>exact congrArg _ (Option.some.inj h)
 | _=>exact ac h
noncomputable def vN (d:Data):Option (Array DictEntry):=by
 induction d using Data.casesOn with
 | dict a n=>exact some a
 | _=>exact none
theorem uB {d:Data} {x:Array DictEntry} (h:vN d=some x):∃ n,d=.dict x n:=by
 induction d using Data.casesOn with
 | dict a n=>exact ⟨n,by rw [Option.some.inj h]⟩
 | _=>exact ac h
noncomputable def HP (v:Value):Option Str:=by
 induction v using Value.casesOn with
 | str a n=>exact some a
 | _=>exact none
theorem BW {v:Value} {x:Str} (h:HP v=some x):∃ t,v=.str x t:=by
 induction v using Value.casesOn with
 | str a n=>exact ⟨n,by rw [Option.some.inj h]⟩
 | _=>exact ac h
noncomputable def E3 (d:FuncBody):Option (List Stmt):=by
 induction d using FuncBody.casesOn with
 | stmts a=>exact some a
 | _=>exact none
theorem BX {d:FuncBody} {x:List Stmt} (h:E3 d=some x):d=.stmts x:=by
 induction d using FuncBody.casesOn with
 | stmts a=>exact congrArg _ (Option.some.inj h)
 | _=>exact ac h
def rN (K:Frag) (f:Addr):Option FuncData:=au (K.lookup f) λ o=>HO o.data
def rP (fd:FuncData):List Stmt:=(E3 fd.body).getD []
def aJ (K:Frag) (f:Addr) (ds:List V):i7:=match rN K f with
 | some fd=>⟨rP fd,fd.scope.names,fd.params.posonlyargs.map (·.arg)++fd.params.args.map (·.arg),ds⟩
 | none=>⟨[],[],[],[]⟩
noncomputable def FK:fj:=⟨265,["isjunk", "a", "b", "autojunk", "matching_blocks", "opcodes", "fullbcount", "b2j", "bjunk", "bpopular"],[("set_seqs",190),("set_seq1",197),("set_seq2",204),("_SequenceMatcher__chain_b",211),("find_longest_match",219)],183⟩
noncomputable def gl:List (Str×Value):=[("len",.builtin "len"),("range",.type "range"),("enumerate",.type "enumerate"),("set",.type "set"),("tuple",.type "tuple"),("chr",.builtin "chr"),("SequenceMatcher",.ref 265),("Match",.ref 158),
 ("_law_matched",.ref 1044),("_law_longest",.ref 1051),("_law_found",.ref 1037),("_law_stands",.ref 1030),("_law_taken",.ref 1025),("join_shlex",.ref 1000),("split",.ref 993)]
def fl (K:Frag):List (Addr×Fn):=[(1051,.plain (aJ K 1051 []) true),(1044,.plain (aJ K 1044 []) true),(1030,.cells (aJ K 1030 []) true),(1025,.prim 2),
 (265,.cls (aJ K 183 [.none,.str [],.str [],.bool true])),(158,.mat 105 (aJ K 105 [])),
 (190,.plain (aJ K 190 []) false),(197,.plain (aJ K 197 []) false),(204,.plain (aJ K 204 []) false),(211,.plain (aJ K 211 []) false),
 (219,.plain (aJ K 219 [.int 0,.none,.int 0,.none]) false),(1037,.plain (aJ K 1037 []) false),(1000,.prim 0)]
def rQ (K:Frag) (row:List Nat) (div:List (Nat×Int×Nat)) (mod:List (Nat×Int×V)) (add:List (Int×Nat×Nat)) (chi:List (Int×Nat)) (cha:List (Nat×Nat)) (scr:List V):gi:=⟨gl,fl K,FK,100,16,row,div,mod,add,chi,cha,scr⟩
def cS (K:Frag) (p q:Nat):gi:=rQ K [p,q,0,1,0] [(100,4,10),(101,4,11)] [(10,23,.iat 20),(11,23,.iat 21),(100,4,.int p),(101,4,.int q)] [(33,20,30),(56,21,31),(102,20,33)] [(88,2)] [(30,0),(31,1),(33,3)] [.iat 100,.iat 101]
def kG (K:Frag) (p:Nat):gi:=rQ K [p,0,1,0] [(100,4,10)] [(10,23,.iat 20),(100,4,.int p)] [(33,20,30),(102,20,33)] [(65,1),(79,2)] [(30,0),(33,3)] [.iat 100]
def zF (K:Frag):gi:=rQ K [0,1,0] [] [] [] [(42,0),(56,1),(89,2),(111,3)] [] []
end
section
noncomputable def rR:fj:=⟨846,["_StringIO__newline", "_StringIO__buf", "_StringIO__pos"],[("_StringIO__translated",623),("_StringIO__check",630),("read",792)],616⟩
noncomputable def FL:fj:=⟨981,["instream", "infile", "posix", "eof", "commenters", "wordchars", "whitespace", "whitespace_split", "quotes", "escape", "escapedquotes", "state", "pushback", "lineno", "debug", "token", "filestack", "source", "_punctuation_chars"],[("get_token",942),("read_token",949)],905⟩
noncomputable def Km:List (Str×Value):=[("len",.builtin "len"),("isinstance",.builtin "isinstance"),("type",.type "type"),("str",.type "str"),("int",.type "int"),("bool",.type "bool"),("list",.type "list"),("StopIteration",.type "StopIteration"),("deque",.type "collections.deque"),("StringIO",.ref 846),("_index",.ref 312),("shlex",.ref 981)]
def Ku (K:Frag):List (Addr×zv):=[(792,.plain (aJ K 792 [.int (-1)])),(630,.plain (aJ K 630 [])),(312,.plain (aJ K 312 [])),(912,.plain (aJ K 912 [])),(942,.plain (aJ K 942 [])),(949,.plain (aJ K 949 [])),(623,.plain (aJ K 623 [])),(971,.plain (aJ K 971 [])),(978,.plain (aJ K 978 [])),
 (846,.cls rR (aJ K 616 [.str [],.str [.lit 10]]) 1)]
def zG (K:Frag) (cl:Nat->List Nat):cI:=⟨cl,Km,Ku K,[rR,FL],[(981, "punctuation_chars",912)],[],[],[],[],λ _ _ _ _=>none,λ _ _ _=>none,60,16⟩
end
section
variable {hb:Heap} {prog:Program} {w:World} {I:aZ} {k k':Nat} {hid ρ ρ' ρ'':List Addr} {σ:List O} {A:Around} {s:Shared} {E:Value->Shared->Prop} {h h' h'':Heap} {K:Frag} {P:cI} {lv:Nat} {X:eM} {ev:Ev}
theorem aC.in1 (R:aC A (k+1)):aC A.in1 k:=⟨R.hh,by have:=R.d; show A.depth+k < 1000; exact Nat.le_of_lt (by assumption),by have:=R.u; show A.units+1+8 * k < 9900; lia⟩
theorem pD (a b:V) (σ:List O) (r:V×List O) (e:zn a b σ=some r):∀ A s hid ρ x y Q E,aC A k->Sh hb prog w I hid ρ σ s.heap->VR I (ay hid ρ s.heap) ρ a x->VR I (ay hid ρ s.heap) ρ b y->aA hb prog w I hid ρ s r Q->SubscriptOn (model prog w) A x y Q E s:=by
 unfold zn at e;revert e; refine ax ?_ λ e=>?_; rintro _ rfl e
 ·rename_i x;revert e; refine bc ?_ λ e=>?_; rintro _ rfl e
  ·rename_i i;refine ai e λ h1 e=>?_;refine aa e λ kk h2 e=>?_;refine az e ?_; rintro c h3 rfl;rw [Bool.and_eq_true] at h1;rw [aE] at h3;intro A s hid ρ xv y Q E R H Vx Vy q;induction Vx using aG.casesOn; induction Vy using aH.casesOn;have ht:=i8 h1.1;refine ⟨"str",_,f9,typeIs_str _ _ _,PySem.P.getItem_str (c:=c.den I) (by simp; lia) ?_ (aA.tok (n:=s.toks+1) H q (.str [c] s.toks))⟩
   rw [cL,fg h2];show ((x.map (AC.den I)).toArray)[kk]?=_;rw [List.getElem?_toArray,List.getElem?_map,h3]; rfl
  ·exact ac e
 ·exact ac e
theorem E4 (U T:String):(Value.type U == Value.type T)=(U == T):=by
 by_cases q:U=T
 ·subst q; simp
 ·have h1:(U == T)=false:=beq_eq_false_iff_ne.mpr q;have h2:(Value.type U == Value.type T)=false:=beq_eq_false_iff_ne.mpr λ e=>q (by injection e)
  rw [h1,h2]
theorem lB {objs:List Addr} (OB:∀ a,aW a objs=true->∃ o,s.heap.get? a=some o∧o.cls≠.type "tuple") {a b:V} {t:Bool} {x y:Value} {S:Addr->Obj->Prop} (h:IV objs a b=some t) (Vx:VR I S ρ a x) (Vy:VR I S ρ b y) {Q:Value->Shared->Prop}:(Q (.bool t) s->wpAny (model prog w) A (compareOp .Is x y) Q E s)∧(Q (.bool (!t)) s->wpAny (model prog w) A (compareOp .IsNot x y) Q E s):=by
 have fin:plainIs x y=true∧(x == y)=t->(Q (.bool t) s->wpAny (model prog w) A (compareOp .Is x y) Q E s)∧(Q (.bool (!t)) s->wpAny (model prog w) A (compareOp .IsNot x y) Q E s):=λ ⟨h1,h2⟩=>⟨λ q=>wpAny_is_plain h1 (by rw [h2]; exact q),λ q=>wpAny_isNot_plain h1 (by rw [h2]; exact q)⟩
 unfold IV at h;revert h; refine bj ?_ λ h=>?_; rotate_left; replace h:=ar h; revert h; refine bo ?_ λ h=>?_; rintro _ rfl h; replace h:=af h; revert h; refine bG ?_ λ h=>?_; rotate_left; replace h:=ar h; revert h; refine bM ?_ ac; rintro _ rfl h; rotate_right; rintro _ rfl h; rotate_right; rintro rfl h
 ·revert h; refine dA ?_ λ h=>?_; rotate_left; replace h:=ar h; revert h; refine bU ?_ λ h=>?_; rotate_left; replace h:=ar h; revert h; refine yn ?_ λ h=>?_; rintro rfl h; rotate_right; rintro _ _ rfl h; rotate_right; rintro rfl h
  ·induction h using sI; induction Vx using du.casesOn; induction Vy using be.casesOn; exact fin ⟨rfl,rfl⟩
  ·induction h using sI; induction Vx using ec.casesOn; induction Vy using be.casesOn; exact fin ⟨rfl,rfl⟩
  ·induction h using sI; induction Vx using ik.casesOn; induction Vy using be.casesOn; exact fin ⟨rfl,rfl⟩
  ·exact fin (dX h Vx Vy)
 ·revert h; refine bo ?_ λ h=>?_; rintro _ rfl h; replace h:=af h; revert h; refine bG ?_ ac; rintro _ rfl h
  ·induction h using sI; induction Vx using aK.casesOn; induction Vy using aK.casesOn;exact fin ⟨rfl,E4 _ _⟩
  ·exact ac h
 ·rename_i y0;revert h; refine bo ?_ λ h=>?_; rintro _ rfl h; replace h:=af h; revert h; refine bM ?_ ac; rintro _ rfl h
  ·rename_i x0;refine ai h λ h1 h=>?_;induction h using sI;induction Vx using aK.casesOn; induction Vy using aK.casesOn;refine ab (Bool.and_eq_true_iff.mp h1) λ h1 h2=>?_;refine ag (OB _ h1) λ ox g1 g2=>?_;refine ag (OB _ h2) λ oy g3 g4=>?_;rw [cx];by_cases q:x0=y0
   ·subst q;simp only [decide_true,Bool.not_true];exact ⟨wpAny_is_ref_self,wpAny_isNot_ref_self⟩
   ·simp only [q,decide_false,Bool.not_false];exact ⟨wpAny_is_ref_other q g1 g3 g2,wpAny_isNot_ref_other q g1 g3 g2⟩
  ·exact ac h
 ·exact ac h
theorem zH (a b:List Nat):(a == b)=decide (a=b):=by
 by_cases q:a=b
 ·subst q; simp
 ·simp [q]
theorem gc (op:CmpOp) (n1:op≠.Eq) (n2:op≠.NotEq) (a b:V) (σ:List O) (t:Bool) (h:qX op a b σ=some t):aL hb prog w I k σ [a,b] (.bool t,σ) (t2 (compareOp op)):=by
 intro A s hid ρ xs Q E R H V q;refine ak (di V) ?_; rintro x y rfl Vx Vy;have fin:Q (.bool t) s:=aA.tok (n:=s.toks) H q (.bool _);induction op using CmpOp.casesOn with
 | Eq =>
  exact (n1 rfl).elim
 | NotEq =>
  exact (n2 rfl).elim
 | Is =>
  refine ab (dX h Vx Vy) λ h1 h2=>?_;refine wpAny_is_plain h1 ?_;rw [h2]; exact fin
 | IsNot =>
  refine az h ?_; rintro u h1 rfl;refine ab (dX h1 Vx Vy) λ h1 h2=>?_;refine wpAny_isNot_plain h1 ?_;rw [h2]; exact fin
 | Lt =>
  refine ak (cQ h) ?_; rintro i j rfl rfl rfl;induction Vx using aH.casesOn; induction Vy using aH.casesOn;refine PySem.P.lt_int ?_;rw [<-fe]; exact fin
 | Gt =>
  refine ak (cQ h) ?_; rintro i j rfl rfl rfl;induction Vx using aH.casesOn; induction Vy using aH.casesOn;refine PySem.P.gt_int ?_;have e:decide (i > j)=yV j i:=(fe j i).symm;rw [e]; exact fin
 | GtE =>
  refine ak (cQ h) ?_; rintro i j rfl rfl rfl;induction Vx using aH.casesOn; induction Vy using aH.casesOn;refine PySem.P.ge_int ?_;have e:decide (i ≥ j)=!(yV i j):=by
   rw [fe,<-decide_not]; exact decide_eq_decide.mpr (by simp [*])
  rw [e]; exact fin
 | LtE =>
  refine ak (cQ h) ?_; rintro i j rfl rfl rfl;induction Vx using aH.casesOn; induction Vy using aH.casesOn;refine PySem.P.le_int ?_;have e:decide (i≤j)=!(yV j i):=by
   rw [fe,<-decide_not]; exact decide_eq_decide.mpr (by simp [*])
  rw [e]; exact fin
 | _ =>
  exact ac h
theorem jV {cl:Nat->List Nat} (C:dZ I cl) {a b:V} {t:Bool} {x y:Value} {S:Addr->Obj->Prop} (h:BM cl a b=some t) (Vx:VR I S ρ a x) (Vy:VR I S ρ b y) :
  (∀ {Q:Value->Shared->Prop},Q (.bool t) s->wpAny (model prog w) A (compareOp .Eq x y) Q E s)∧((a=.none->False)->(b=.none->False)->∀ {Q:Value->Shared->Prop},Q (.bool (!t)) s->wpAny (model prog w) A (compareOp .NotEq x y) Q E s):=by
 have dl:∀ y:AS,(den I y).cps.toList=y.map (AC.den I):=λ y=>by unfold den; simp
 unfold BM at h;revert h; refine bj ?_ λ h=>?_; rotate_left; replace h:=ar h; revert h; refine ax ?_ λ h=>?_; rintro _ rfl h; rotate_right; rintro rfl h
 ·revert h; refine bj ?_ λ h=>?_; rotate_left; replace h:=ar h; revert h; refine ax ?_ λ h=>?_; rintro _ rfl h; rotate_right; rintro rfl h
  ·induction h using sI; induction Vx using be.casesOn; induction Vy using be.casesOn; exact ⟨λ q=>RcAt.none_none _ _ _ _ q,λ n=>(n rfl).elim⟩
  ·induction h using sI; induction Vx using be.casesOn; induction Vy using aG.casesOn; exact ⟨λ q=>RcAt.none_str _ _ _ _ _ _ q,λ n=>(n rfl).elim⟩
  ·exact ac h
 ·revert h; refine bj ?_ λ h=>?_; rotate_left; replace h:=ar h; revert h; refine ax ?_ λ h=>?_; rintro _ rfl h; rotate_right; rintro rfl h
  ·induction h using sI; induction Vx using aG.casesOn; induction Vy using be.casesOn; exact ⟨λ q=>RcAt.str_none _ _ _ _ _ _ q,λ _ n=>(n rfl).elim⟩
  ·have e:=lx C h;induction Vx using aG.casesOn; induction Vy using aG.casesOn;refine ⟨λ q=>PySem.P.eq_str ?_,λ _ _ _ q=>PySem.P.ne_str ?_⟩
   ·rw [dl,dl,zH];rw [<-e] at q;exact q
   ·rw [dl,dl];rw [<-e] at q;rw [show (List.map (AC.den I) _ != List.map (AC.den I) _)=!(List.map (AC.den I) _ == List.map (AC.den I) _) from rfl,zH];exact q
  ·exact ac h
 ·exact ac h
theorem vO {cl:Nat->List Nat} (C:dZ I cl) {a:V} {z:AS} {t:Bool} {x y:Value} {S:Addr->Obj->Prop} {Q:Value->Shared->Prop} (h:BJ cl a (.str z)=some t) (Vx:VR I S ρ a x) (Vy:VR I S ρ (.str z) y) (q:Q (.bool (!t)) s):wpAny (model prog w) A (compareOp .NotIn x y) Q E s:=by
 unfold BJ at h;replace h:=Bv h;revert h; refine ax ?_ λ h=>?_; rintro _ rfl h;rotate_left
 ·exact ac h
 revert h; refine aM ?_ λ h=>?_; rotate_left; replace h:=ar h; revert h; refine av ?_ λ h=>?_; rintro _ _ rfl h; replace h:=af h; revert h; refine aM ?_ ac; rintro rfl h; rotate_right; rintro rfl h
 ·induction h using sI;induction Vx using aG.casesOn; induction Vy using aG.casesOn;refine PySem.P.notIn_str ?_;have:=lz (den I z);rw [show den I []=⟨#[]⟩ from rfl,this];exact q
 ·refine aa h λ ys e1 e2=>?_;rename_i c;induction Vx using aG.casesOn; induction Vy using aG.casesOn;refine PySem.P.notIn_str ?_;rw [show den I [c]=⟨#[c.den I]⟩ from rfl,StrLaws.found_one,dY e1,cR];have:decide (c.den I∈(⟨ys.toArray⟩:Str).cps.toList)=t:=eD C e2;rw [this];exact q
 ·exact ac h
theorem cJ {objs:List Addr} (OB:∀ a,aW a objs=true->∃ o,hb.get? a=some o∧o.cls≠.type "tuple") {cl:Nat->List Nat} (C:dZ I cl) (op:CmpOp) (a b:V) (σ:List O) (t:Bool) (h:kE objs cl op a b σ=some t):aL hb prog w I (k+1) σ [a,b] (.bool t,σ) (t2 (compareOp op)):=by
 have ge:∀ {t:Bool},BL a b=some t->aL hb prog w I (k+1) σ [a,b] (.bool t,σ) (t2 (compareOp .GtE)):=λ h=>by
  intro A s hid ρ xs Q E R H V q;refine ak (di V) ?_; rintro x y rfl Vx Vy;refine xL (rK h Vx Vy) ?_; rintro i j u v rfl rfl rfl;exact PySem.P.ge_int (aA.tok (n:=s.toks) H q (.bool _))
 have lt:∀ {t:Bool},bs (BL a b) (λ t=>!t)=some t->aL hb prog w I (k+1) σ [a,b] (.bool t,σ) (t2 (compareOp .Lt)):=λ h=>by
  refine az h ?_; rintro u h1 rfl;intro A s hid ρ xs Q E R H V q;refine ak (di V) ?_; rintro x y rfl Vx Vy;refine xL (rK h1 Vx Vy) ?_; rintro i j u v rfl rfl rfl;refine PySem.P.lt_int ?_;have e:decide (i < j)=!(decide (j≤i)):=by rw [<-decide_not]; exact decide_eq_decide.mpr (by simp [*])
  rw [e];exact aA.tok (n:=s.toks) H q (.bool _)
 induction op using CmpOp.casesOn with
 | Is =>
  intro A s hid ρ xs Q E R H V q;refine ak (di V) ?_; rintro x y rfl Vx Vy;exact (lB (λ a m=>let ⟨o,e1,e2⟩:=OB a m; ⟨o,H.base _ _ e1,e2⟩) h Vx Vy).1 (aA.tok (n:=s.toks) H q (.bool _))
 | IsNot =>
  refine az h ?_; rintro u h1 rfl;intro A s hid ρ xs Q E R H V q;refine ak (di V) ?_; rintro x y rfl Vx Vy;exact (lB (λ a m=>let ⟨o,e1,e2⟩:=OB a m; ⟨o,H.base _ _ e1,e2⟩) h1 Vx Vy).2 (aA.tok (n:=s.toks) H q (.bool _))
 | In =>
  exact vL C a b σ t h
 | NotIn =>
  replace h:aV none _ b=some t:=h;revert h; refine ax ?_ λ h=>?_; rintro _ rfl h
  ·refine az h ?_; rintro u h1 rfl;intro A s hid ρ xs Q E R H V q;refine ak (di V) ?_; rintro x y rfl Vx Vy;exact vO C h1 Vx Vy (aA.tok (n:=s.toks) H q (.bool _))
  ·exact ac h
 | GtE =>
  unfold kE IP at h;dsimp only at h;revert h; refine cn ?_ λ h=>?_; rotate_left; replace h:=ar h; revert h; refine dq ?_ λ h=>?_; rintro rfl h; rotate_right; rintro _ _ _ rfl h
  ·exact ge h
  ·exact ge h
  ·exact gc _ (by decide) (by decide) a b σ t h
 | Lt =>
  unfold kE IP at h;dsimp only at h;revert h; refine cn ?_ λ h=>?_; rotate_left; replace h:=ar h; revert h; refine dq ?_ λ h=>?_; rintro rfl h; rotate_right; rintro _ _ _ rfl h
  ·exact lt h
  ·exact lt h
  ·exact gc _ (by decide) (by decide) a b σ t h
 | Eq =>
  intro A s hid ρ xs Q E R H V q;refine ak (di V) ?_; rintro x y rfl Vx Vy;exact (jV C h Vx Vy).1 (aA.tok (n:=s.toks) H q (.bool _))
 | NotEq =>
  replace h:aV none _ a=some t:=h;revert h; refine ax ?_ λ h=>?_; rintro _ rfl h
  ·revert h; refine ax ?_ λ h=>?_; rintro _ rfl h
   ·refine az h ?_; rintro u h1 rfl;intro A s hid ρ xs Q E R H V q;refine ak (di V) ?_; rintro x y rfl Vx Vy;exact (jV C h1 Vx Vy).2 (λ e=>nomatch e) (λ e=>nomatch e) (aA.tok (n:=s.toks) H q (.bool _))
   ·exact ac h
  ·exact ac h
 | _ =>
  exact gc _ (by decide) (by decide) a b σ t h
theorem zI:∀ {l:List fj} {C:Addr} {S:fj},rE l C=some S->S∈l∧S.C=C:=by
 intro l;induction l with
 | nil =>
  intro _ _ h;exact ac h
 | cons T r ih =>
  intro C S h;unfold rE at h;cases q:Nat.beq T.C C with
  | true=>rw [q] at h; induction h using sI; exact ⟨List.mem_cons_self ..,Nat.eq_of_beq_eq_true q⟩
  | false=>rw [q] at h; exact ⟨List.mem_cons_of_mem _ (ih h).1,(ih h).2⟩
theorem mK (G:cy hb prog w I K P lv) (hk:lv≤k) (SX:dQ hb prog w I k X) {a:Addr} {args:List V} {r:V×List O} (e:zx P X a args σ=some r):aL hb prog w I (k+2) σ (.val (.ref a)::args) r aS:=by
 refine aa e λ f e1 e=>?_;have ff:=(G.fns _ _ e1).1;split at e
 ·exact (cr ff G.B.nl SX e).op.up (by simp [*])
 ·refine ai e λ h1 e=>?_;refine aa e λ r1 e2 e=>?_;revert e; refine bj ?_ λ e=>?_; intro _ e
  ·rename_i er;refine ah λ G9 fin9=>?_;induction e using sI;refine ab (Bool.and_eq_true_iff.mp h1) λ h1 h2=>?_;have:=Nat.eq_of_beq_eq_true h1;subst this;obtain ⟨v1,σ1⟩:=r1;subst er;refine fin9 ?_; clear fin9 G9;exact ff.2 _ _ _ _ (by exact Nat.le_trans (by assumption) (Nat.le_add_right _ _)) (Nat.eq_of_beq_eq_true h2) (cr ff.1 G.B.nl SX e2)
  ·exact ac e
 ·exact (ff _ _ _ e).up (by exact Nat.le_trans (by assumption) (Nat.le_add_right _ _))
theorem iB {v:V} {x:Value} {S:Addr->Obj->Prop} (h:gG v=true) (Vx:VR I S ρ v x):∃ y t,x=.str y t:=by
 induction v using V.casesOn<;>first | (exact aT h; done) | skip
 ·induction Vx using aG.casesOn; exact ⟨_,_,rfl⟩
 ·induction Vx using du.casesOn; exact ⟨_,_,rfl⟩
theorem pE {v:V} {x:Value} {S:Addr->Obj->Prop} (h:o9 v=true) (Vx:VR I S ρ v x):∃ y t,x=.int y t:=by
 induction v using V.casesOn<;>first | (exact aT h; done) | skip
 ·induction Vx using aH.casesOn; exact ⟨_,_,rfl⟩
 ·induction Vx using dc.casesOn; exact ⟨_,_,rfl⟩
 ·induction Vx using cV.casesOn; exact ⟨_,_,rfl⟩
theorem pF:typeOf (.type "str")=pure (.type "type"):=by rfl
theorem mL:isSubtype (.type "str") (.type "str")=pure true:=by rw [isSubtype_type]; kernel_rfl
theorem mM (LI:I.line.length≤3000) {news:List Addr} (NO:∀ C,aW C news=true->∃ new ini,BN (model prog w) hb C new ini) {id:String} {args:List V} {r:V×List O} (e:rF news id args σ=some r):aL hb prog w I k σ (.val (.builtin id)::args) r aS:=by
 unfold rF at e;refine f7 e ?_ ?_<;>clear e
 ·intro h1 e; subst h1;revert e; refine av ?_ λ e=>?_; rintro _ _ rfl e; replace e:=af e; revert e; refine aM ?_ ac; rintro rfl e
  ·revert e; refine dA ?_ λ e=>?_; rintro rfl e
   ·induction e using sI;intro A s hid ρ xs Q E R H V q;refine ak (di V) ?_; rintro f x rfl Vf Vx;induction Vf using aK.casesOn; induction Vx using du.casesOn;refine PySem.P.len_str (by lia) (aA.tok H q ?_)
    exact .pend _
   ·exact ln e
  ·exact ac e
 intro e;refine f7 e ?_ ?_<;>clear e
 ·intro h2 e; subst h2;revert e; refine av ?_ λ e=>?_; rintro _ _ rfl e; replace e:=af e; revert e; refine av ?_ ac; rintro _ _ rfl e; replace e:=af e; revert e; refine bo ?_ ac; rintro _ rfl e; replace e:=af e; revert e; refine bG ?_ ac; rintro _ rfl e; replace e:=af e; revert e; refine aM ?_ ac; rintro rfl e
  ·rename_i v T;refine ai e λ h3 e=>?_;induction e using sI;refine ab (Bool.and_eq_true_iff.mp h3) λ h5 h6=>?_;have:=beq_iff_eq.mp h6; subst this;intro A s hid ρ xs Q E R H V q;induction V using aD.casesOn with
   | cons Vf V =>
   refine ak (di V) ?_; rintro x y rfl Vx Vy;induction Vf using aK.casesOn; induction Vy using aK.casesOn;refine bE (iB h5 Vx) ?_; rintro z t rfl;exact call_isinstance (isinstance_true pF mL) ⟨typeIs_str _ _ _,aA.tok (n:=s.toks) H q (.bool _)⟩
  ·exact ac e
 intro e;refine f7 e ?_ ?_<;>clear e
 ·intro h3 e; subst h3;revert e; refine av ?_ λ e=>?_; rintro _ _ rfl e; replace e:=af e; revert e; refine bo ?_ ac; rintro _ rfl e; replace e:=af e; revert e; refine bM ?_ ac; rintro _ rfl e; replace e:=af e; revert e; refine aM ?_ ac; rintro rfl e
  ·rename_i C;refine ai e λ h4 e=>?_;induction e using sI;refine bE (NO _ h4) λ new ini Y=>?_;intro A s hid ρ xs Q E R H V q;refine ak (di V) ?_; rintro f x rfl Vf Vx;induction Vf using aK.casesOn; induction Vx using aK.casesOn;refine ab (H.push (b:=emptyDict) (o:=.fld []) rfl (.fld (n:=0) .nil)) λ x1 H1=>?_;refine ab (H1.alloc (instObj C s.heap.objs.size)) λ x2 H2=>?_;have self:VR I (ay hid (ρ++[s.heap.objs.size]) ((s.heap.push emptyDict).push (instObj C s.heap.objs.size))) (ρ++[s.heap.objs.size]) (.inst C σ.length) (.ref (s.heap.objs.size+1)):=by
    have z:=H1.stbNew (b:=instObj C s.heap.objs.size) rfl;rw [Heap.size_push] at z;exact .inst z (by rw [<-H.len]; simp)
   exact wpAny_call (BP (Y.keeps H.base) (q _ _ s.toks s.gens _ (x1.trans0 x2).g H2 self))
  ·exact ac e
 intro e;exact ac e
theorem mN {T:String} {args:List V} {r:V×List O} (e:rG T args σ=some r):aL hb prog w I k σ (.val (.type T)::args) r aS:=by
 unfold rG at e;refine f7 e ?_ ?_<;>clear e
 ·intro h1 e; subst h1;revert e; refine av ?_ λ e=>?_; rintro _ _ rfl e; replace e:=af e; revert e; refine aM ?_ ac; rintro rfl e
  ·rename_i v;intro A s hid ρ xs Q E R H V q;refine ak (di V) ?_; rintro f x rfl Vf Vx;induction Vf using aK.casesOn;cases h2:gG v with
   | true =>
    rw [h2,zl] at e;induction e using sI;refine bE (iB h2 Vx) ?_; rintro z t rfl;exact call_type_of (typeIs_str _ _ _) (by decide) (aA.tok (n:=s.toks) H q (.val _))
   | false =>
    rw [h2,vI] at e;refine ai e λ h3 e=>?_;induction e using sI;refine bE (pE h3 Vx) ?_; rintro z t rfl;exact call_type_of (typeIs_int _ _ _) (by decide) (aA.tok (n:=s.toks) H q (.val _))
  ·exact ac e
 intro e;refine f7 e ?_ ?_<;>clear e
 ·intro h2 e; subst h2;revert e; refine av ?_ λ e=>?_; rintro _ _ rfl e; replace e:=af e; revert e; refine bc ?_ ac; rintro _ rfl e; replace e:=af e; revert e; refine aM ?_ ac; rintro rfl e
  ·induction e using sI;intro A s hid ρ xs Q E R H V q;refine ak (di V) ?_; rintro f x rfl Vf Vx;induction Vf using aK.casesOn; induction Vx using aH.casesOn;exact call_int_int (aA.tok (n:=s.toks) H q (.int _ _))
  ·exact ac e
 intro e;refine f7 e ?_ ?_<;>clear e
 ·intro h3 e; subst h3;revert e; refine aM ?_ λ e=>?_; rintro rfl e
  ·induction e using sI;intro A s hid ρ xs Q E R H V q;refine ag (wx V) ?_; rintro f rfl Vf;induction Vf using aK.casesOn;refine BI λ h' hs hg=>?_;have kp:∀ b o,s.heap.get? b=some o->h'.get? b=some o:=λ b o e=>(hs.2 b (bd e)).trans (Heap.get?_push_of_some _ e);refine ab (H.keeps kp) λ x1 H1=>?_;exact q ρ h' s.toks s.gens _ x1.g H1 (.edq ⟨hg,H.nextH,H.nextR⟩ rfl)
  ·exact ac e
 intro e;exact ac e
theorem pG (G:cy hb prog w I K P lv) (hk:lv≤k) (SX:dQ hb prog w I k X) {f:V} {args:List V} {r:V×List O} (e:pb P X f args σ=some r):aL hb prog w I (k+2) σ (f::args) r aS:=by
 unfold pb at e;revert e; refine bo ?_ λ e=>?_; rotate_left; replace e:=ar e; revert e; refine iY ?_ λ e=>?_; rintro _ _ rfl e; rotate_right; rintro _ rfl e; replace e:=af e; revert e; refine bM ?_ λ e=>?_; rotate_left; replace e:=ar e; revert e; refine cK ?_ λ e=>?_; rotate_left; replace e:=ar e; revert e; refine bG ?_ ac; rintro _ rfl e; rotate_right; rintro _ rfl e; rotate_right; rintro _ rfl e
 ·exact mK G hk SX e
 ·split at e
  ·rename_i f e1;exact (G.bis _ _ e1 _ _ _ e).up (by exact Nat.le_trans (by assumption) (Nat.le_add_right _ _))
  ·exact mM G.LI G.news e
 ·exact mN e
 ·exact (G.bms _ _ _ _ _ e).up (by exact Nat.le_trans (by assumption) (Nat.le_add_right _ _))
 ·exact ac e
theorem kI (G:cy hb prog w I K P lv) {f:V} {args:List V} {r:V×List O} (e:pb P X f args σ=some r):∀ hid ρ h x,Sh hb prog w I hid ρ σ h->VR I (ay hid ρ h) ρ f x->∃ kp,Looks (model prog w) h (keeperOf x) kp:=by
 intro hid ρ h x H V;unfold pb at e;revert e; refine bo ?_ λ e=>?_; rotate_left; replace e:=ar e; revert e; refine iY ?_ λ e=>?_; rintro _ _ rfl e; rotate_right; rintro _ rfl e; replace e:=af e; revert e; refine bM ?_ λ e=>?_; rotate_left; replace e:=ar e; revert e; refine cK ?_ λ e=>?_; rotate_left; replace e:=ar e; revert e; refine bG ?_ ac; rintro _ rfl e; rotate_right; rintro _ rfl e; rotate_right; rintro _ rfl e
 ·refine aa e λ f e1 e=>?_;refine aj ((G.fns _ _ e1).2) λ kp L=>?_;induction V using aK.casesOn;exact ⟨kp,L.keeps H.base⟩
 ·induction V using aK.casesOn; exact ⟨.machine,Looks.of_pure rfl⟩
 ·induction V using aK.casesOn; exact ⟨.machine,Looks.of_pure rfl⟩
 ·induction V using jl.casesOn with
  | bm g _=>exact ⟨.machine,(Looks.ld (part:=none) g.1).andThen .now⟩
 ·exact ac e
theorem fo (G:cy hb prog w I K P lv) (o:V) (n:Str) (σ:List O) (f:V) (first:List V) (e:pd P o n σ=some (f,first)):∀ A s hid ρ x pl Q E,aC A k->Sh hb prog w I hid ρ σ s.heap->VR I (ay hid ρ s.heap) ρ o x ->
  (∀ h' tk fx fs,Ext [] ρ ρ s.heap h'->Sh hb prog w I hid ρ σ h'->VR I (ay hid ρ h') ρ f fx->VRs I (ay hid ρ h') ρ first fs->Q (fx,fs) { s with heap:=h',toks:=tk })->wpAny (model prog w) A (getMethod x n pl) Q E s:=by
 unfold pd at e;revert e; refine bU ?_ λ e=>?_; rotate_left; replace e:=ar e; revert e; refine ax ?_ λ e=>?_; rotate_left; replace e:=ar e; revert e; refine bo ?_ λ e=>?_; rintro _ rfl e; replace e:=af e; revert e; refine bG ?_ ac; rintro _ rfl e; rotate_right; rintro _ rfl e; rotate_right; rintro _ _ rfl e
 ·refine aa e λ S e1 e=>?_;exact iy G.X (G.clss _ _ e1) _ _ _ _ _ e
 ·refine az e λ nid e1 e=>?_;cases e;intro A s hid ρ x pl Q E R H V q;cases id V with
  | str t=>exact G.strm _ _ e1 (q s.heap s.toks _ _ (Ext.refl _ _ _) H (.val _) (.cons V .nil))
 ·refine ai e λ h1 e=>?_;refine ah λ G9 fin9=>?_;refine ab (Bool.and_eq_true_iff.mp h1) λ h0 h1=>?_;obtain rfl:=beq_iff_eq.mp h0;obtain rfl:=dj h1;cases e;refine fin9 ?_; clear fin9 G9;intro A s hid ρ x pl Q E R H V q;induction V using aK.casesOn;exact iS (G.X.keeps H.base) (q s.heap (s.toks+1) _ [] (Ext.refl _ _ _) H (.val _) .nil)
 ·exact ac e
theorem pH (G:cy hb prog w I K P lv) (o:V) (n:Str) (v:V) (σ:List O) (r:List O) (e:zz P o n v σ=some r):∀ A s hid ρ x y Q E,aC A k->Sh hb prog w I hid ρ σ s.heap->VR I (ay hid ρ s.heap) ρ o x->VR I (ay hid ρ s.heap) ρ v y->n5 hb prog w I hid ρ s r Q->wpAny (model prog w) A (setAttr x n y) Q E s:=by
 unfold zz at e;revert e; refine bU ?_ λ e=>?_; rintro _ _ rfl e
 ·refine aa e λ S e1 e=>?_;exact jQ G.X (G.clss _ _ e1) _ _ _ _ _ e
 ·exact ac e
theorem pI (G:cy hb prog w I K P lv) (hk:lv≤k) (SX:dQ hb prog w I k X) (o:V) (n:Str) (σ:List O) (r:V×List O) (e:zy P X o n σ=some r):aL hb prog w I (k+3) σ [o] r (t1 λ x=>getAttr x n true):=by
 unfold zy at e;revert e; refine bU ?_ λ e=>?_; rintro _ _ rfl e
 ·rename_i C d;split at e
  ·rename_i f e1;refine aa e λ g0 e3 e=>?_;split at e;rotate_left
   ·exact ac e
   refine ah λ G9 fin9=>?_;refine aa e λ r1 e2 e=>?_;refine ai e λ h1 e=>?_;induction e using sI;obtain ⟨f1,f2,p,rest,f3,f4,f5,f6⟩:=G.props _ _ _ e1;have CF:=(cr ((G.fns _ _ e3).1) G.B.nl SX e2);refine fin9 ?_; clear fin9 G9;intro A s hid ρ xs Q E R H V q;refine ag (wx V) ?_; rintro x rfl Vx;cases id Vx with
   | inst g hr =>
   rename_i a dx;have hdx:∃ od,s.heap.get? dx=some od:=(H.off dx (List.mem_of_getElem? hr)).2.2;refine aj hdx λ od hd=>?_; clear hdx;have IA:InstAt s.heap a (instObj C dx) C (some od):=⟨g.1,rfl,rfl,hd⟩;have XH:=G.X.keeps H.base;have hf:findObj K C (some od) n=some (.bind (.builtin "property.__get__") (.ref p)):=by
    have hc:∃ cd,clsIn K C=some cd:=by
     unfold hasDictIn at f2;cases q:clsIn K C with
     | none=>rw [q] at f2; exact aT f2
     | some cd=>exact ⟨cd,rfl⟩
    refine aj hc ?_; clear hc; rintro cd hc;unfold findObj;rw [hc,f3];simp only [Option.bind_some,f4,f5]
   refine get_bind XH IA (plainGet_of f1).1 hf (plainGet_of f1).2 ?_;have R1:aC A.in1 (k+2):=R.in1;refine wpAny_call (prop_get (s:={ s with toks:=s.toks+1 }) XH f6 ?_)
   refine (CF.up (show k+1≤k+2 by simp [*])) _ { s with toks:=s.toks+1 } hid ρ _ _ R1 H (.cons Vx .nil) λ ρ' h' tk gs y x1 H1 V1=>?_
   have hh:=lp V1 h1;show wpAny _ _ (handedOut y) _ _ _;rw [handedOut_of hh];exact wpAny_pure (q ρ' h' tk gs y x1 H1 V1)
  ·refine aa e λ S e1 e=>?_;exact ix G.X (G.clss _ _ e1) _ _ _ _ e
 ·exact (G.att _ _ _ _ e).up (by exact Nat.le_trans (by assumption) (Nat.le_add_right _ _))
theorem rS (NL:hb.NoLimit) (op:Operator) (a b:V) (σ:List O) (r:V×List O) (e:mI op a b σ=some r):aL hb prog w I k σ [a,b] r (t2 (binaryOp op)):=by
 unfold mI at e;split at e
 ·revert e; refine ax ?_ λ e=>?_; rotate_left; replace e:=ar e; revert e; refine cn ?_ λ e=>?_; rintro _ _ _ rfl e; rotate_right; rintro _ rfl e
  ·exact zq _ _ _ _ e
  ·exact rJ _ _ _ _ e
  ·exact fG NL _ _ _ _ _ e
 ·exact fG NL _ _ _ _ _ e
theorem rT (op:Operator) (a b:V) (σ:List O) (r:V×List O) (e:EY op a b σ=some r):aL hb prog w I k σ [a,b] r (t2 (inplaceOp op)):=by
 unfold EY at e;split at e
 ·revert e; refine ax ?_ λ e=>?_; rintro _ rfl e
  ·exact zr _ _ _ _ e
  ·exact lb _ _ _ _ _ e
 ·exact ac e
theorem iC (a:V) (σ:List O) (b:Bool) (e:uy a σ=some b):∀ A s hid ρ x Q E,aC A k->Sh hb prog w I hid ρ σ s.heap->VR I (ay hid ρ s.heap) ρ a x->df hb prog w I hid ρ s (b,σ) Q->wpAny (model prog w) A (truthy x) Q E s:=by
 unfold uy at e;revert e; refine ax ?_ λ e=>?_; rotate_left; replace e:=ar e; revert e; refine nX ?_ λ e=>?_; rintro rfl e; rotate_right; rintro _ rfl e
 ·exact jU _ _ _ e
 ·exact jU _ _ _ e
 ·exact lf _ _ _ e
theorem gH (LI:I.line.length≤3000) (a b:V) (σ:List O) (r:V×List O) (e:hN a b σ=some r):∀ A s hid ρ x y Q E,aC A k->Sh hb prog w I hid ρ σ s.heap->VR I (ay hid ρ s.heap) ρ a x->VR I (ay hid ρ s.heap) ρ b y->aA hb prog w I hid ρ s r Q->SubscriptOn (model prog w) A x y Q E s:=by
 unfold hN at e;revert e; refine ax ?_ λ e=>?_; rotate_left; replace e:=ar e; revert e; refine dA ?_ λ e=>?_; rintro rfl e; rotate_right; rintro _ rfl e
 ·exact pD _ _ _ _ e
 ·exact pC LI _ _ _ _ e
 ·exact jM _ _ _ _ e
theorem pJ (LI:I.line.length≤3000) (a b c:V) (σ:List O) (r:V×List O) (e:pe a b c σ=some r):∀ A s hid ρ x l u Q E,aC A k->Sh hb prog w I hid ρ σ s.heap->VR I (ay hid ρ s.heap) ρ a x->VR I (ay hid ρ s.heap) ρ b l->VR I (ay hid ρ s.heap) ρ c u->aA hb prog w I hid ρ s r Q ->
  SubscriptOn (model prog w) A x (.ref s.heap.objs.size) Q E { s with heap:=s.heap.push (bp l u) }:=by
 unfold pe at e;revert e; refine ax ?_ λ e=>?_; rotate_left; replace e:=ar e; revert e; refine dA ?_ λ e=>?_; rintro rfl e; rotate_right; rintro _ rfl e
 ·exact pB _ _ _ _ _ e
 ·exact rM LI _ _ _ _ _ e
 ·exact hG _ _ _ _ _ e
noncomputable def bD (lv n:Nat):Nat:=lv+3 * n
theorem ce (G:cy hb prog w I K P lv):∀ n,cN hb prog w I (bD lv n) (hO P n):=by
 intro n;induction n with
 | zero =>
  refine ⟨?_,?_,?_,?_,?_,?_,?_,?_,?_,?_,?_,?_,?_,?_⟩
  ·exact λ _ _ e=>nomatch (show none=some _ from e)
  ·exact λ _ _ _ _ e=>nomatch (show none=some _ from e)
  ·exact λ _ _ _ _ e=>nomatch (show none=some _ from e)
  ·exact λ _ _ _ _ _ e=>nomatch (show none=some _ from e)
  ·exact λ _ _ _ _ e=>nomatch (show none=some _ from e)
  ·exact λ _ _ _ _ _ e=>nomatch (show none=some _ from e)
  ·exact λ _ _ _ _ e=>nomatch (show none=some _ from e)
  ·exact λ _ _ _ _ _ e=>nomatch (show none=some _ from e)
  ·exact λ _ _ _ e=>nomatch (show none=some _ from e)
  ·exact λ _ _ _ _ e=>nomatch (show none=some _ from e)
  ·exact λ _ _ _ _ _ e=>nomatch (show none=some _ from e)
  ·exact λ _ _ _ _ _ e=>nomatch (show none=some _ from e)
  ·exact λ _ _ _ _ _ e=>nomatch (show none=some _ from e)
  ·exact λ _ _ _ _ _ e=>nomatch (show none=some _ from e)
 | succ n ih =>
  have OK:=ih;have SX:=aY G.GO OK P.W P.D;have h1:lv≤bD lv n:=by unfold bD; simp [*]
  have h2:bD lv n+2≤bD lv (n+1):=by unfold bD; simp +arith
  have h3:bD lv (n+1)=bD lv n+3:=by unfold bD; exact (Nat.add_assoc _ _ _).symm
  refine ⟨G.globs,?_,?_,?_,?_,?_,?_,?_,?_,?_,?_,?_,?_,?_⟩
  ·exact λ f args σ r e=>(pG G h1 SX e).up h2
  ·exact λ f args σ r e=>kI (X:=qP (hO P n) P.W P.D) G e
  ·exact λ o n σ f first e=>fo G o n σ f first e
  ·intro o m σ r e;rw [h3];exact pI G h1 SX o m σ r e
  ·exact λ op a b σ r e=>rS G.B.nl op a b σ r e
  ·exact λ op a σ r e=>lc op a σ r e
  ·intro op a b σ r e;rw [h3];exact cJ G.objs G.C op a b σ r e
  ·exact λ a σ b e=>iC a σ b e
  ·exact λ a b σ r e=>gH G.LI a b σ r e
  ·exact λ a b c σ r e=>pJ G.LI a b c σ r e
  ·exact λ op a b σ r e=>rT op a b σ r e
  ·exact λ o n v σ r e=>pH G o n v σ r e
  ·exact λ o i v σ r e=>nomatch (show none=some _ from e)
end
section
variable {P:Params} {hb:Heap} {prog:Program} {w:World}
theorem Js (X:(am P).In hb) (prog:Program) (w:World):iN (model prog w) hb 158:=⟨Looks.of_peek X (by kernel_rfl),Looks.of_peek X (by kernel_rfl),Looks.of_peek X (by kernel_rfl)⟩
theorem Kv:IS (am P) FK:=⟨⟨by kernel_rfl,by kernel_rfl,λ x m=>⟨none,bW (f:=λ x=>findIn (am P) (.ref FK.C) x) (g:=λ _=>some none) (by kernel_rfl) x m,by kernel_rfl,bW (f:=λ x=>takerIn (am P) FK.C x) (g:=λ _=>some none) (by kernel_rfl) x m⟩,by kernel_rfl,by kernel_rfl,λ p m=>⟨bW (f:=λ p=>findIn (am P) (.ref FK.C) p.1) (g:=λ p=>some (some (.ref p.2))) (by kernel_rfl) p m,bW (f:=λ p=>isFn (am P) (.ref p.2)) (g:=λ _=>true) (by kernel_rfl) p m⟩⟩,by kernel_rfl,by kernel_rfl,by kernel_rfl⟩
def rU (K:Frag) (a:Addr):Option (Value×Option Addr×ClassData×Array (Option Value)):=au (K.lookup a) λ o=>au (HN o.data) λ cd=>some (o.cls,o.dict,cd,o.slots)
theorem mO {K:Frag} {a:Addr} {q:Value×Option Addr×ClassData×Array (Option Value)} (h:rU K a=some q):K.lookup a=some ⟨q.1,q.2.1,.cls q.2.2.1,q.2.2.2⟩:=by
 refine aa h λ o e h=>?_;refine aa h λ cd e1 h=>?_;rw [<-Option.some.inj h,<-BU e1];exact e
theorem Kw (X:(am P).In hb) (prog:Program) (w:World):AN (model prog w) hb 158 105:=by
 have h0:((rU (am P) 158).map λ q=>!q.2.2.1.hasDel && !q.2.2.1.abstract)=some true:=by kernel_rfl
 cases h1:rU (am P) 158 with
 | none=>rw [h1] at h0; exact ac h0
 | some q =>
  rw [h1] at h0;have h0:=Option.some.inj h0;simp only [Bool.and_eq_true,Bool.not_eq_true'] at h0;exact ⟨⟨_,_,_,_,X _ _ (mO h1),h0.1,h0.2⟩,Looks.of_peek X (by kernel_rfl),Looks.of_peek X (by kernel_rfl),Looks.of_peek X (by kernel_rfl),Looks.of_peek X (by kernel_rfl),Looks.of_peek X (by kernel_rfl),Looks.of_peek X (by kernel_rfl),Looks.of_peek X (by kernel_rfl),Looks.of_peek X (by kernel_rfl),Looks.of_peek X (by kernel_rfl),⟨[.ref 158,.type "tuple",.type "object"],Looks.of_peek X (by kernel_rfl),rfl⟩,Looks.of_peek X (by kernel_rfl),Looks.of_peek X (by kernel_rfl)⟩
theorem Jt (X:(am P).In hb) {A:Around} {Q:Value->Shared->Prop} {E:Value->Shared->Prop} {s:Shared} (k:∀ b o,hb.get? b=some o->s.heap.get? b=some o) (h:∀ tk,Q (.ref 105) { s with toks:=tk }):wpAny (model prog w) A (getAttr (.ref 158) "__new__") Q E s:=by
 have X':=X.keeps k;refine cls_open X' (mc:=.type "type") (Looks.of_peek X' (by kernel_rfl)) (Looks.of_peek X' (by kernel_rfl)) type_tga (looks_hook X' (r:=none) (by rfl)) (by show subIn (am P) _ _=_; kernel_rfl) (r:=.get (.builtin "staticmethod.__get__") (.ref 159) .none (.ref 158)) (by kernel_rfl) ?_
 show wpAny _ _ (do ret (<-holding [.ref 159] (call (.builtin "staticmethod.__get__") [.ref 159,.none,.ref 158]))) _ _ _
 refine wpAny_bind (wpAny_holding (wpAny_call (sm_get (s:={ s with toks:=s.toks+1 }) (f:=.ref 105) (rest:=[]) X' (by kernel_rfl) ?_)))
 exact wpAny_pure (handed_on rfl (h _))
def HQ (K:Frag) (fd:FuncData):Option Str:=au (yA fd.code) λ c=>au (K.lookup c) λ o=>au (E2 o.data) λ vs=>au (vs[1]?) HP
def DS (K:Frag) (fd:FuncData):Bool:=HQ K fd == some fd.qualname
theorem zJ {K:Frag} {fd:FuncData} (X:K.In hb) (h:DS K fd=true):hb.CodeRec fd.code fd.qualname:=by
 refine ah λ G9 fin9=>?_;refine aa ((beq_iff_eq.mp h)) λ c e1 h=>?_;refine aa h λ o e2 h=>?_;refine aa h λ vs e3 h=>?_;refine aa h λ v e4 h=>?_;refine aj (BW h) λ t e5=>?_;refine fin9 ?_; clear fin9 G9;exact ⟨c,o,vs,t,i4 e1,X _ _ e2,uz e3,by rw [<-e5]; exact e4⟩
def BY (fd:FuncData):Bool:=(E3 fd.body).isSome
noncomputable def E5 (k:ScopeKind):Bool:=decide (k=.function)
def HR {α:Type}:List α->Bool:=λ x0=>(bg (false) (true) x0)
def HS (K:Frag) (fd:FuncData):Bool:=BY fd && Nat.beq fd.globals mainGlobals && HR fd.closure && Nat.beq fd.builtins builtinsNs && E5 fd.scope.kind && !fd.scope.isCoroutine && !fd.scope.isGenerator && DS K fd
theorem gI {K:Frag} {f:Addr} {fd:FuncData} (X:K.In hb) (h:rN K f=some fd):∃ o,hb.get? f=some o∧o.data=.func fd:=by
 refine aa h λ o e h=>?_;exact ⟨o,X _ _ e,BV h⟩
theorem mP {K:Frag} {f:Addr} {fd:FuncData} {ds:List V} (X:K.In hb) (h:rN K f=some fd) (hq:HS K fd=true) :
  ∃ o,hb.get? f=some o∧o.data=.func fd∧fd.body=.stmts (aJ K f ds).body∧fd.scope.names=(aJ K f ds).names∧fd.globals=mainGlobals∧fd.closure=[]∧fd.builtins=builtinsNs∧fd.scope.kind=.function ∧
   fd.scope.isCoroutine=false∧fd.scope.isGenerator=false∧hb.CodeRec fd.code fd.qualname:=by
 refine ag (gI X h) λ o e1 e2=>?_;unfold HS at hq;simp only [Bool.and_eq_true,Bool.not_eq_true'] at hq;refine ab hq λ j00 q8=>?_; clear hq; refine ab j00 λ j10 q7=>?_; clear j00; refine ab j10 λ j20 q6=>?_; clear j10; refine ab j20 λ j30 q5=>?_; clear j20; refine ab j30 λ j40 q4=>?_; clear j30; refine ab j40 λ j50 q3=>?_; clear j40; refine ab j50 λ q1 q2=>?_; clear j50;refine ⟨o,e1,e2,?_,?_,Nat.eq_of_beq_eq_true q2,?_,Nat.eq_of_beq_eq_true q4,?_,q6,q7,zJ X q8⟩
 ·unfold aJ;rw [h];show fd.body=.stmts (rP fd);refine aj (Option.isSome_iff_exists.mp q1) λ b e=>?_;unfold rP;rw [e];exact BX e
 ·unfold aJ; rw [h]
 ·unfold HR at q3;revert q3; refine aM ?_ λ q3=>?_; intro _ q3
  ·assumption
  ·exact aT q3
 ·exact of_decide_eq_true q5
noncomputable def E6 (N:aq) (ps:List Str):Bool:=ps.all λ p=>decide (N.lookup p=some .local)
theorem uC {N:aq} {ps:List Str} (h:E6 N ps=true) (p:Str) (m:p∈ps):N.lookup p=some .local:=of_decide_eq_true (List.all_eq_true.mp h p m)
noncomputable def jb (N:aq):Bool:=N.all λ p=>match p.2 with
 | .cell=>false
 | _=>true
theorem eE {N:aq} (h:jb N=true):∀ x∈N,x.2≠.cell:=λ x m e=>by
 have:=List.all_eq_true.mp h x m;rw [e] at this; exact aT this
@[elab_as_elim] theorem up5 {α:Type} {p:List α->Prop} (xs:List α) (l1:xs.length≤5) (l2:5≤xs.length+4) (h1:∀ a,p [a]) (h2:∀ a b,p [a,b]) (h3:∀ a b c,p [a,b,c]) (h4:∀ a b c d,p [a,b,c,d]) (h5:∀ a b c d e,p [a,b,c,d,e]):p xs:=by
 match xs,l1,l2 with
 | [],_,l=>simp at l
 | [a],_,_=>exact h1 _
 | [a,b],_,_=>exact h2 _ _
 | [a,b,c],_,_=>exact h3 _ _ _
 | [a,b,c,d],_,_=>exact h4 _ _ _ _
 | [a,b,c,d,e],_,_=>exact h5 _ _ _ _ _
 | _::_::_::_::_::_::_,l,_=>simp at l
@[elab_as_elim] theorem up3 {α:Type} {p:List α->Prop} (xs:List α) (l1:xs.length≤3) (l2:3≤xs.length+2) (h1:∀ a,p [a]) (h2:∀ a b,p [a,b]) (h3:∀ a b c,p [a,b,c]):p xs:=by
 match xs,l1,l2 with
 | [],_,l=>simp at l
 | [a],_,_=>exact h1 _
 | [a,b],_,_=>exact h2 _ _
 | [a,b,c],_,_=>exact h3 _ _ _
 | _::_::_::_::_,l,_=>simp at l
@[elab_as_elim] theorem up2 {α:Type} {p:List α->Prop} (xs:List α) (l1:xs.length≤2) (l2:2≤xs.length+1) (h1:∀ a,p [a]) (h2:∀ a b,p [a,b]):p xs:=by
 match xs,l1,l2 with
 | [],_,l=>simp at l
 | [a],_,_=>exact h1 _
 | [a,b],_,_=>exact h2 _ _
 | _::_::_::_,l,_=>simp at l
theorem vP (I:aZ) {K:Frag} {f:Addr} {fd:FuncData} {ds:List V} (X:K.In hb) (h:rN K f=some fd) (hq:HS K fd=true) (h1:E6 (aJ K f ds).names (aJ K f ds).ps=true) (h2:decide (aJ K f ds).ps.Nodup=true) (h3:jb (aJ K f ds).names=true)
  (hb':∀ (s:Shared) (xs:List Value),(∀ b o,hb.get? b=some o->s.heap.get? b=some o)->xs.length≤(aJ K f ds).ps.length->(aJ K f ds).ps.length≤xs.length+ds.length ->
   ∃ dv:List Value,(∀ S ρ,VRs I S ρ ds dv)∧BindsTo s fd ⟨xs,[]⟩ ((aJ K f ds).ps.zip (xs++dv.drop (dv.length+xs.length - (aJ K f ds).ps.length)))):bK hb I f (aJ K f ds):=by
 refine aj (mP (ds:=ds) X h hq) λ o q=>?_;have e:(aJ K f ds).ds=ds:=by unfold aJ; rw [h]
 exact ⟨⟨o,fd,q.1,q.2.1,q.2.2.1,q.2.2.2.1,q.2.2.2.2.1,q.2.2.2.2.2.1,q.2.2.2.2.2.2.1,q.2.2.2.2.2.2.2.1,q.2.2.2.2.2.2.2.2.1,q.2.2.2.2.2.2.2.2.2.1,q.2.2.2.2.2.2.2.2.2.2,by rw [e]; exact hb'⟩,uC h1,of_decide_eq_true h2,eE h3⟩
theorem bS (I:aZ) {K:Frag} {f:Addr} {fd:FuncData} (X:K.In hb) (h:rN K f=some fd) (hq:HS K fd=true) (h1:E6 (aJ K f []).names (aJ K f []).ps=true) (h2:decide (aJ K f []).ps.Nodup=true) (h3:jb (aJ K f []).names=true)
  (hb':∀ (xs:List Value),xs.length=(aJ K f []).ps.length->bindArgs fd ⟨xs,[]⟩=pure ((aJ K f []).ps.zip xs)):bK hb I f (aJ K f []) :=
 vP I X h hq h1 h2 h3 λ s xs _ l1 l2=>⟨[],λ _ _=>.nil,by
  have e:xs.length=(aJ K f []).ps.length:=Nat.le_antisymm l1 l2;have:=hb' xs e;simp only [List.drop_nil,List.append_nil];exact BindsTo.of_eq this⟩
end
section
variable {P:Params} {hb:Heap} {prog:Program} {w:World}
noncomputable abbrev dk (P:Params) (f:Addr):FuncData:=(rN (am P) f).getD default
theorem HT (I:aZ) (X:(am P).In hb):bK hb I 1051 (aJ (am P) 1051 []):=by
 refine bS I (fd:=dk P 1051) X (by kernel_rfl) (by kernel_rfl) (by kernel_rfl) (by kernel_rfl) (by kernel_rfl) λ xs h=>?_
 have e:(aJ (am P) 1051 []).ps.length=2:=by kernel_rfl
 rw [e] at h;refine bE (nI h) ?_; rintro a b rfl;kernel_rfl
theorem HU (I:aZ) (X:(am P).In hb):bK hb I 1044 (aJ (am P) 1044 []):=by
 refine bS I (fd:=dk P 1044) X (by kernel_rfl) (by kernel_rfl) (by kernel_rfl) (by kernel_rfl) (by kernel_rfl) λ xs h=>?_
 have e:(aJ (am P) 1044 []).ps.length=3:=by kernel_rfl
 rw [e] at h;refine kQ (Ek h) ?_; rintro a b c rfl;kernel_rfl
theorem Ju (I:aZ) (X:(am P).In hb):bK hb I 105 (aJ (am P) 105 []):=by
 refine bS I (fd:=dk P 105) X (by kernel_rfl) (by kernel_rfl) (by kernel_rfl) (by kernel_rfl) (by kernel_rfl) λ xs h=>?_
 have e:(aJ (am P) 105 []).ps.length=4:=by kernel_rfl
 rw [e] at h;refine tB (Jg h) ?_; rintro a b c d rfl;kernel_rfl
theorem Jv (I:aZ) (X:(am P).In hb):bK hb I 190 (aJ (am P) 190 []):=by
 refine bS I (fd:=dk P 190) X (by kernel_rfl) (by kernel_rfl) (by kernel_rfl) (by kernel_rfl) (by kernel_rfl) λ xs h=>?_
 have e:(aJ (am P) 190 []).ps.length=3:=by kernel_rfl
 rw [e] at h;refine kQ (Ek h) ?_; rintro a b c rfl;kernel_rfl
theorem Jw (I:aZ) (X:(am P).In hb):bK hb I 197 (aJ (am P) 197 []):=by
 refine bS I (fd:=dk P 197) X (by kernel_rfl) (by kernel_rfl) (by kernel_rfl) (by kernel_rfl) (by kernel_rfl) λ xs h=>?_
 have e:(aJ (am P) 197 []).ps.length=2:=by kernel_rfl
 rw [e] at h;refine bE (nI h) ?_; rintro a b rfl;kernel_rfl
theorem Jx (I:aZ) (X:(am P).In hb):bK hb I 204 (aJ (am P) 204 []):=by
 refine bS I (fd:=dk P 204) X (by kernel_rfl) (by kernel_rfl) (by kernel_rfl) (by kernel_rfl) (by kernel_rfl) λ xs h=>?_
 have e:(aJ (am P) 204 []).ps.length=2:=by kernel_rfl
 rw [e] at h;refine bE (nI h) ?_; rintro a b rfl;kernel_rfl
theorem Jy (I:aZ) (X:(am P).In hb):bK hb I 211 (aJ (am P) 211 []):=by
 refine bS I (fd:=dk P 211) X (by kernel_rfl) (by kernel_rfl) (by kernel_rfl) (by kernel_rfl) (by kernel_rfl) λ xs h=>?_
 have e:(aJ (am P) 211 []).ps.length=1:=by kernel_rfl
 rw [e] at h;refine aj (gQ h) ?_; rintro a rfl;kernel_rfl
theorem HV (I:aZ) (X:(am P).In hb):bK hb I 1037 (aJ (am P) 1037 []):=by
 refine bS I (fd:=dk P 1037) X (by kernel_rfl) (by kernel_rfl) (by kernel_rfl) (by kernel_rfl) (by kernel_rfl) λ xs h=>?_
 have e:(aJ (am P) 1037 []).ps.length=2:=by kernel_rfl
 rw [e] at h;refine bE (nI h) ?_; rintro a b rfl;kernel_rfl
noncomputable def HW (N:aq) (ps:List Str):Bool:=ps.all λ p=>decide (N.lookup p=some .local) || decide (N.lookup p=some .cell)
theorem BZ {N:aq} {ps:List Str} (h:HW N ps=true) (p:Str) (m:p∈ps):N.lookup p=some .local∨N.lookup p=some .cell :=
 (Bool.or_eq_true_iff.mp (List.all_eq_true.mp h p m)).imp of_decide_eq_true of_decide_eq_true
theorem DT {K:Frag} {f:Addr} {fd:FuncData} (X:K.In hb) (h:rN K f=some fd) (hq:HS K fd=true) (h1:HW (aJ K f []).names (aJ K f []).ps=true) (h2:decide (aJ K f []).ps.Nodup=true) (h3:decide ((aJ K f []).names.map (·.1)).Nodup=true)
  (hb':∀ (xs:List Value),xs.length=(aJ K f []).ps.length->bindArgs fd ⟨xs,[]⟩=pure ((aJ K f []).ps.zip xs)):DJ hb f (aJ K f []):=by
 refine aj (mP (ds:=[]) X h hq) λ o q=>?_;exact ⟨⟨o,fd,q.1,q.2.1,q.2.2.1,q.2.2.2.1,q.2.2.2.2.1,q.2.2.2.2.2.1,q.2.2.2.2.2.2.1,q.2.2.2.2.2.2.2.1,q.2.2.2.2.2.2.2.2.1,q.2.2.2.2.2.2.2.2.2.1,q.2.2.2.2.2.2.2.2.2.2,hb'⟩,BZ h1,of_decide_eq_true h2,of_decide_eq_true h3⟩
theorem HX (X:(am P).In hb):DJ hb 1030 (aJ (am P) 1030 []):=by
 refine DT (fd:=dk P 1030) X (by kernel_rfl) (by kernel_rfl) (by kernel_rfl) (by kernel_rfl) (by kernel_rfl) λ xs h=>?_
 have e:(aJ (am P) 1030 []).ps.length=2:=by kernel_rfl
 rw [e] at h;refine bE (nI h) ?_; rintro a b rfl;kernel_rfl
theorem HY (X:(am P).In hb):DJ hb 1056 (aJ (am P) 1056 []):=by
 refine DT (fd:=dk P 1056) X (by kernel_rfl) (by kernel_rfl) (by kernel_rfl) (by kernel_rfl) (by kernel_rfl) λ xs h=>?_
 have e:(aJ (am P) 1056 []).ps.length=1:=by kernel_rfl
 rw [e] at h;refine aj (gQ h) ?_; rintro a rfl;kernel_rfl
theorem Jz (I:aZ) (X:(am P).In hb):bK hb I 183 (aJ (am P) 183 [.none,.str [],.str [],.bool true]):=by
 refine vP I (fd:=dk P 183) X (by kernel_rfl) (by kernel_rfl) (by kernel_rfl) (by kernel_rfl) (by kernel_rfl) λ s xs hk l1 l2=>?_
 have e:(aJ (am P) 183 [.none,.str [],.str [],.bool true]).ps.length=5:=by kernel_rfl
 rw [e] at l1 l2;refine ⟨[.none,.str "" 541,.str "" 542,.bool true],λ S ρ=>.cons .none (.cons (.str [] _) (.cons (.str [] _) (.cons (.bool _) .nil))),?_⟩;exact up5 xs l1 l2 (λ a=>λ M _ _ _ q=>(Looks.of_peek (M:=M) (X.keeps hk) (by kernel_rfl)).here q) (λ a b=>λ M _ _ _ q=>(Looks.of_peek (M:=M) (X.keeps hk) (by kernel_rfl)).here q) (λ a b c=>λ M _ _ _ q=>(Looks.of_peek (M:=M) (X.keeps hk) (by kernel_rfl)).here q) (λ a b c d=>λ M _ _ _ q=>(Looks.of_peek (M:=M) (X.keeps hk) (by kernel_rfl)).here q) (λ a b c d e=>λ M _ _ _ q=>(Looks.of_peek (M:=M) (X.keeps hk) (by kernel_rfl)).here q)
theorem JA (I:aZ) (X:(am P).In hb):bK hb I 219 (aJ (am P) 219 [.int 0,.none,.int 0,.none]):=by
 refine vP I (fd:=dk P 219) X (by kernel_rfl) (by kernel_rfl) (by kernel_rfl) (by kernel_rfl) (by kernel_rfl) λ s xs hk l1 l2=>?_
 have e:(aJ (am P) 219 [.int 0,.none,.int 0,.none]).ps.length=5:=by kernel_rfl
 rw [e] at l1 l2;refine ⟨[.int 0 601,.none,.int 0 602,.none],λ S ρ=>.cons (.int _ _) (.cons .none (.cons (.int _ _) (.cons .none .nil))),?_⟩;exact up5 xs l1 l2 (λ a=>λ M _ _ _ q=>(Looks.of_peek (M:=M) (X.keeps hk) (by kernel_rfl)).here q) (λ a b=>λ M _ _ _ q=>(Looks.of_peek (M:=M) (X.keeps hk) (by kernel_rfl)).here q) (λ a b c=>λ M _ _ _ q=>(Looks.of_peek (M:=M) (X.keeps hk) (by kernel_rfl)).here q) (λ a b c d=>λ M _ _ _ q=>(Looks.of_peek (M:=M) (X.keeps hk) (by kernel_rfl)).here q) (λ a b c d e=>λ M _ _ _ q=>(Looks.of_peek (M:=M) (X.keeps hk) (by kernel_rfl)).here q)
end
section
variable {P:Params} {hb:Heap} {prog:Program} {w:World} {mg mb:Str->Option Value}
def HZ (K:Frag) (a:Addr):Option (Array DictEntry):=au (K.lookup a) λ o=>vN o.data
def FM (K:Frag) (a:Addr) (x:Str):Option Value:=au (HZ K a) λ es=>nsFind es x
def B0 (K:Frag) (a:Addr):Bool:=(HZ K a).isSome
theorem Ia {K:Frag} {a:Addr} (X:K.In hb) (hg:hb.Ns a mg) (e:B0 K a=true) (x:Str):mg x=FM K a x:=by
 refine tz hg λ o es ep ho hd hk hm=>?_; clear hg;refine aj (Option.isSome_iff_exists.mp e) λ es' e=>?_;unfold FM;rw [e];refine aa e λ o' e1 e2=>?_;refine aj (uB e2) λ n e2=>?_;have h1:=X _ _ e1;rw [ho] at h1;rw [<-Option.some.inj h1,hd] at e2;cases e2;exact (hm x).symm
theorem dE {l:List (Str×Value)} (hg:hb.Ns mainGlobals mg) (hbn:hb.Ns builtinsNs mb) (key:∀ p∈l,mg p.1=some p.2∨(mg p.1=none∧mb p.1=some p.2)):∀ x v,fk l x=some v->∃ val mg,v=.val val∧hb.Ns mainGlobals mg∧(mg x=some val∨∃ mb,mg x=none∧hb.Ns builtinsNs mb∧mb x=some val):=by
 intro x v h;have go:∀ (l:List (Str×Value)),(∀ p∈l,mg p.1=some p.2∨(mg p.1=none∧mb p.1=some p.2))->fk l x=some v->∃ val,v=.val val∧(mg x=some val∨(mg x=none∧mb x=some val)):=by
  intro l;induction l with
  | nil=>intro _ h; exact ac h
  | cons p r ih =>
   intro hl h;obtain ⟨y,u⟩:=p;unfold fk at h;cases q:y == x with
   | true =>
    rw [q] at h;induction h using sI;have:=beq_iff_eq.mp q;subst this;exact ⟨u,rfl,hl _ (List.mem_cons_self ..)⟩
   | false=>rw [q] at h; exact ih (λ p m=>hl p (List.mem_cons_of_mem _ m)) h
 refine ag (go l key h) λ val e1 e2=>?_;refine ⟨val,mg,e1,hg,?_⟩;rcases e2 with e2 | ⟨e2,e3⟩
 ·exact .inl e2
 ·exact .inr ⟨mb,e2,hbn,e3⟩
theorem IW (X:(am P).In hb) (hg:hb.Ns mainGlobals mg) (hB:∀ x:Str,x ≠ "__name__" -> mb x=bootBuiltins x) {l:List (Str×Value)} (h1:l.map (λ p=>FM (am P) mainGlobals p.1)=l.map λ _=>none) (h2:l.map (λ p=>p.1 == ("__name__" : Str))=l.map λ _=>false) (h3:l.map (λ p=>bootBuiltins p.1)=l.map λ p=>some p.2):∀ p∈l,mg p.1=some p.2∨(mg p.1=none∧mb p.1=some p.2) :=
 λ p m=>.inr ⟨(Ia X hg (by kernel_rfl) _).trans (bW h1 p m),(hB _ (beq_eq_false_iff_ne.mp (bW h2 p m))).trans (bW h3 p m)⟩
theorem E7 (X:(am P).In hb) (hg:hb.Ns mainGlobals mg) {l:List (Str×Value)} (h:l.map (λ p=>FM (am P) mainGlobals p.1)=l.map λ p=>some p.2):∀ p∈l,mg p.1=some p.2∨(mg p.1=none∧mb p.1=some p.2) :=
 λ p m=>.inl ((Ia X hg (by kernel_rfl) _).trans (bW h p m))
theorem pK {a:Addr} (X:(am P).In hb) (e:keepIn (am P) (.ref a)=true):∃ kp,Looks (model prog w) hb (keeperOf (.ref a)) kp:=by
 refine ag (looks_keep (M:=model prog w) e X) λ k _ L=>?_;exact ⟨k,L⟩
theorem B1 (X:(am P).In hb) (hg:hb.Ns mainGlobals mg) (hbn:hb.Ns builtinsNs mb) (hB:∀ x:Str,x ≠ "__name__" -> mb x=bootBuiltins x):∀ x v,fk gl x=some v->∃ val mg,v=.val val∧hb.Ns mainGlobals mg∧(mg x=some val∨∃ mb,mg x=none∧hb.Ns builtinsNs mb∧mb x=some val):=dE hg hbn (BS 6 (IW X hg hB (by kernel_rfl) (by kernel_rfl) (by kernel_rfl)) (E7 X hg (by kernel_rfl)))
theorem B4:∀ {l:List (Addr×Fn)} {a:Addr} {f:Fn},DM l a=some f->(a,f)∈l:=by
 intro l;induction l with
 | nil =>
  intro _ _ h;exact ac h
 | cons p9 r ih =>
  obtain ⟨b,g⟩:=p9;intro a f h;unfold DM at h;cases q:Nat.beq b a with
  | true=>rw [q] at h; induction h using sI; rw [Nat.eq_of_beq_eq_true q]; exact List.mem_cons_self ..
  | false=>rw [q] at h; exact List.mem_cons_of_mem _ (ih h)
structure eF (hb:Heap) (prog:Program) (w:World) (I:aZ) (P:gi):Prop where
 join:∀ args σ r,iA P 0 args σ=some r->aL hb prog w I PL σ (.val (.ref 1000)::args) r aS
 taken:∀ args σ r,iA P 2 args σ=some r->aL hb prog w I PL σ (.val (.ref 1025)::args) r aS
theorem E8 (I:aZ) (Q:gi) (hQ:Q.fns=fl (am P)) (hS:Q.S=FK) (X:(am P).In hb) (PO:eF hb prog w I Q):∀ a f,DM Q.fns a=some f->zk hb prog w I Q a f∧∃ kp,Looks (model prog w) hb (keeperOf (.ref a)) kp:=by
 intro a f h;rw [hQ] at h;have m:=B4 h;refine ⟨DR m ?_,pK X (bW (f:=λ (q:Addr×Fn)=>keepIn (am P) (.ref q.1)) (g:=λ _=>true) (by kernel_rfl) (a,f) m)⟩
 exact fa (HT I X) <| fa (HU I X) <| fa (HX X) <| fa PO.taken <| fa (by show bK hb I Q.S.init _; rw [hS]; exact Jz I X) <| fa ⟨Kw X prog w,Ju I X,λ prog w=>Js X prog w,λ k h=>Jt X k h⟩ <| fa (Jv I X) <| fa (Jw I X) <| fa (Jx I X) <| fa (Jy I X) <| fa (JA I X) <| fa (HV I X) <| fa PO.join ja
end
section
variable {P:Params} {hb:Heap} {prog:Program} {w:World} {mg mb:Str->Option Value}
theorem JB (I:aZ) (X:(am P).In hb):bK hb I 630 (aJ (am P) 630 []):=by
 refine bS I (fd:=dk P 630) X (by kernel_rfl) (by kernel_rfl) (by kernel_rfl) (by kernel_rfl) (by kernel_rfl) λ xs h=>?_
 have e:(aJ (am P) 630 []).ps.length=1:=by kernel_rfl
 rw [e] at h;refine aj (gQ h) ?_; rintro a rfl;kernel_rfl
theorem JC (I:aZ) (X:(am P).In hb):bK hb I 312 (aJ (am P) 312 []):=by
 refine bS I (fd:=dk P 312) X (by kernel_rfl) (by kernel_rfl) (by kernel_rfl) (by kernel_rfl) (by kernel_rfl) λ xs h=>?_
 have e:(aJ (am P) 312 []).ps.length=2:=by kernel_rfl
 rw [e] at h;refine bE (nI h) ?_; rintro a b rfl;kernel_rfl
theorem JD (I:aZ) (X:(am P).In hb):bK hb I 912 (aJ (am P) 912 []):=by
 refine bS I (fd:=dk P 912) X (by kernel_rfl) (by kernel_rfl) (by kernel_rfl) (by kernel_rfl) (by kernel_rfl) λ xs h=>?_
 have e:(aJ (am P) 912 []).ps.length=1:=by kernel_rfl
 rw [e] at h;refine aj (gQ h) ?_; rintro a rfl;kernel_rfl
theorem JE (I:aZ) (X:(am P).In hb):bK hb I 942 (aJ (am P) 942 []):=by
 refine bS I (fd:=dk P 942) X (by kernel_rfl) (by kernel_rfl) (by kernel_rfl) (by kernel_rfl) (by kernel_rfl) λ xs h=>?_
 have e:(aJ (am P) 942 []).ps.length=1:=by kernel_rfl
 rw [e] at h;refine aj (gQ h) ?_; rintro a rfl;kernel_rfl
theorem JF (I:aZ) (X:(am P).In hb):bK hb I 949 (aJ (am P) 949 []):=by
 refine bS I (fd:=dk P 949) X (by kernel_rfl) (by kernel_rfl) (by kernel_rfl) (by kernel_rfl) (by kernel_rfl) λ xs h=>?_
 have e:(aJ (am P) 949 []).ps.length=1:=by kernel_rfl
 rw [e] at h;refine aj (gQ h) ?_; rintro a rfl;kernel_rfl
theorem JG (I:aZ) (X:(am P).In hb):bK hb I 623 (aJ (am P) 623 []):=by
 refine bS I (fd:=dk P 623) X (by kernel_rfl) (by kernel_rfl) (by kernel_rfl) (by kernel_rfl) (by kernel_rfl) λ xs h=>?_
 have e:(aJ (am P) 623 []).ps.length=2:=by kernel_rfl
 rw [e] at h;refine bE (nI h) ?_; rintro a b rfl;kernel_rfl
theorem Ib (I:aZ) (X:(am P).In hb):bK hb I 971 (aJ (am P) 971 []):=by
 refine bS I (fd:=dk P 971) X (by kernel_rfl) (by kernel_rfl) (by kernel_rfl) (by kernel_rfl) (by kernel_rfl) λ xs h=>?_
 have e:(aJ (am P) 971 []).ps.length=1:=by kernel_rfl
 rw [e] at h;refine aj (gQ h) ?_; rintro a rfl;kernel_rfl
theorem E9 (I:aZ) (X:(am P).In hb):bK hb I 978 (aJ (am P) 978 []):=by
 refine bS I (fd:=dk P 978) X (by kernel_rfl) (by kernel_rfl) (by kernel_rfl) (by kernel_rfl) (by kernel_rfl) λ xs h=>?_
 have e:(aJ (am P) 978 []).ps.length=1:=by kernel_rfl
 rw [e] at h;refine aj (gQ h) ?_; rintro a rfl;kernel_rfl
theorem JH (I:aZ) (X:(am P).In hb):bK hb I 792 (aJ (am P) 792 [.int (-1)]):=by
 refine vP I (fd:=dk P 792) X (by kernel_rfl) (by kernel_rfl) (by kernel_rfl) (by kernel_rfl) (by kernel_rfl) λ s xs hk l1 l2=>?_
 have e:(aJ (am P) 792 [.int (-1)]).ps.length=2:=by kernel_rfl
 rw [e] at l1 l2;refine ⟨[.int (-1) 1543],λ S ρ=>.cons (.int _ _) .nil,?_⟩;exact up2 xs l1 l2 (λ a=>λ M _ _ _ q=>(Looks.of_peek (M:=M) (X.keeps hk) (by kernel_rfl)).here q) (λ a b=>λ M _ _ _ q=>(Looks.of_peek (M:=M) (X.keeps hk) (by kernel_rfl)).here q)
theorem JI (I:aZ) (X:(am P).In hb):bK hb I 616 (aJ (am P) 616 [.str [],.str [.lit 10]]):=by
 refine vP I (fd:=dk P 616) X (by kernel_rfl) (by kernel_rfl) (by kernel_rfl) (by kernel_rfl) (by kernel_rfl) λ s xs hk l1 l2=>?_
 have e:(aJ (am P) 616 [.str [],.str [.lit 10]]).ps.length=3:=by kernel_rfl
 rw [e] at l1 l2;refine ⟨[.str "" 1350,.str ⟨#[10]⟩ 1351],λ S ρ=>.cons (.str [] _) (.cons (.str [.lit 10] _) .nil),?_⟩;exact up3 xs l1 l2 (λ a=>λ M _ _ _ q=>(Looks.of_peek (M:=M) (X.keeps hk) (by kernel_rfl)).here q) (λ a b=>λ M _ _ _ q=>(Looks.of_peek (M:=M) (X.keeps hk) (by kernel_rfl)).here q) (λ a b c=>λ M _ _ _ q=>(Looks.of_peek (M:=M) (X.keeps hk) (by kernel_rfl)).here q)
theorem B5:SOKa (am P) rR:=⟨by kernel_rfl,by kernel_rfl,λ x m=>⟨none,bW (f:=λ x=>findIn (am P) (.ref rR.C) x) (g:=λ _=>some none) (by kernel_rfl) x m,by kernel_rfl,bW (f:=λ x=>takerIn (am P) rR.C x) (g:=λ _=>some none) (by kernel_rfl) x m⟩,by kernel_rfl,by kernel_rfl,λ p m=>⟨bW (f:=λ p=>findIn (am P) (.ref rR.C) p.1) (g:=λ p=>some (some (.ref p.2))) (by kernel_rfl) p m,bW (f:=λ p=>isFn (am P) (.ref p.2)) (g:=λ _=>true) (by kernel_rfl) p m⟩⟩
theorem zK:SOKa (am P) FL:=⟨by kernel_rfl,by kernel_rfl,λ x m=>⟨none,bW (f:=λ x=>findIn (am P) (.ref FL.C) x) (g:=λ _=>some none) (by kernel_rfl) x m,by kernel_rfl,bW (f:=λ x=>takerIn (am P) FL.C x) (g:=λ _=>some none) (by kernel_rfl) x m⟩,by kernel_rfl,by kernel_rfl,λ p m=>⟨bW (f:=λ p=>findIn (am P) (.ref FL.C) p.1) (g:=λ p=>some (some (.ref p.2))) (by kernel_rfl) p m,bW (f:=λ p=>isFn (am P) (.ref p.2)) (g:=λ _=>true) (by kernel_rfl) p m⟩⟩
theorem jW:IS (am P) FL:=⟨zK,by kernel_rfl,by kernel_rfl,by kernel_rfl⟩
theorem Fa (X:(am P).In hb) (hg:hb.Ns mainGlobals mg) (hbn:hb.Ns builtinsNs mb) (hB:∀ x:Str,x ≠ "__name__" -> mb x=bootBuiltins x):∀ x v,fk Km x=some v->∃ val mg,v=.val val∧hb.Ns mainGlobals mg∧(mg x=some val∨∃ mb,mg x=none∧hb.Ns builtinsNs mb∧mb x=some val):=dE hg hbn (BS 8 (IW X hg hB (by kernel_rfl) (by kernel_rfl) (by kernel_rfl)) (E7 X hg (by kernel_rfl)))
end
section
noncomputable def fp {α:Type} (K:Frag) (S:Setting) (t:Sem α):Addr->Sem α:=match peekA K S t with
 | some (_,g)=>g
 | none=>λ _=>unsupported ""
noncomputable def lC {α:Type} (K:Frag) (S:Setting) (t:Sem α):Obj:=match peekA K S t with
 | some (o,_)=>o
 | none=>default
theorem gJ {α:Type} {K:Frag} {M:Model} {A:Around} {E:Value->Shared->Prop} {Q:α->Shared->Prop} {s:Shared} {o:Obj} (X:K.In s.heap) (t:Sem α) (e:(peekA K ⟨M.prog,M.w.params⟩ t).isSome=true) (eo:lC K ⟨M.prog,M.w.params⟩ t=o)
  (q:wpAny M A (fp K ⟨M.prog,M.w.params⟩ t s.heap.objs.size) Q E { s with heap:=s.heap.push o }):wpAny M A t Q E s:=by
 subst eo;unfold fp lC at q;cases h:peekA K ⟨M.prog,M.w.params⟩ t with
 | none=>rw [h] at e; exact aT e
 | some p =>
  obtain ⟨o,g⟩:=p;rw [h] at q;exact zB X t g h q
noncomputable def mQ:cI:=⟨λ _=>[],[("object",.type "object"),("BytesIO",.ref 599),("StringIO",.ref 846)],[],[],[],[599,846],[846],[],[],λ _ _ _ _=>none,λ _ _ _=>none,10,10⟩
def Ic (X:eM) (N:aq) (body:List Stmt) (ae:AE) (σ:List O):Option (V×List O):=au ((bY X N body).f ae σ) λ p=>match p.1 with
 | .ret v=>some (v,p.2.2)
 | .next=>some (.none,p.2.2)
 | _=>none
noncomputable def zL:List Str:=["cls", "args", "kwargs"]
end
section
variable {hb:Heap} {prog:Program} {w:World} {mg mb:Str->Option Value} {I:aZ}
theorem JJ (X:(am w.params).In hb):BN (model prog w) hb 846 339 616:=by
 have h0:((rU (am w.params) 846).map λ q=>!q.2.2.1.hasDel && !q.2.2.1.abstract)=some true:=by kernel_rfl
 cases h1:rU (am w.params) 846 with
 | none=>rw [h1] at h0; exact ac h0
 | some q =>
  rw [h1] at h0;have h0:=Option.some.inj h0;simp only [Bool.and_eq_true,Bool.not_eq_true'] at h0;refine ⟨⟨_,_,_,_,X _ _ (mO h1),h0.1,h0.2⟩,Looks.of_peek X (by kernel_rfl),Looks.of_peek X (by kernel_rfl),Looks.of_peek X (by kernel_rfl),Looks.of_peek X (by kernel_rfl),Looks.of_peek X (by kernel_rfl),Looks.of_peek X (by kernel_rfl),Looks.of_peek X (by kernel_rfl),Looks.of_peek X (by kernel_rfl),λ self=>bind_fn X self (by kernel_rfl),⟨[.ref 846,.ref 369,.ref 342,.type "object"],Looks.of_peek X (by kernel_rfl),rfl⟩,Looks.of_peek X (by kernel_rfl),Looks.of_peek X (by kernel_rfl)⟩
theorem JK (X:(am w.params).In hb) {A:Around} {Q:Value->Shared->Prop} {E:Value->Shared->Prop} {s:Shared} (k:∀ b o,hb.get? b=some o->s.heap.get? b=some o) (h:∀ tk,Q (.ref 339) { s with toks:=tk }):wpAny (model prog w) A (getAttr (.ref 846) "__new__") Q E s:=by
 have X':=X.keeps k;refine cls_open X' (mc:=.type "type") (Looks.of_peek X' (by kernel_rfl)) (Looks.of_peek X' (by kernel_rfl)) type_tga (looks_hook X' (r:=none) (by rfl)) (by show subIn (am w.params) _ _=_; kernel_rfl) (r:=.get (.builtin "staticmethod.__get__") (.ref 343) .none (.ref 846)) (by kernel_rfl) ?_
 show wpAny _ _ (do ret (<-holding [.ref 343] (call (.builtin "staticmethod.__get__") [.ref 343,.none,.ref 846]))) _ _ _
 refine wpAny_bind (wpAny_holding (wpAny_call (sm_get (s:={ s with toks:=s.toks+1 }) (f:=.ref 339) (rest:=[]) X' (by kernel_rfl) ?_)))
 exact wpAny_pure (handed_on rfl (h _))
theorem Fb (P:Params) (σ:List O):Ic (qP (hO mQ 2) 10 10) (aJ (am P) 339 []).names (aJ (am P) 339 []).body ⟨F.of ((plan (aJ (am P) 339 []).names zL).map (aX [.val (.ref 846),.obj,.obj])),[],none⟩ σ=some (.inst 846 σ.length,σ++[.fld []]):=by kernel_rfl
theorem vQ {hid:List Addr} (B:gE hb) (GO:cZ hb) (LI:I.line.length≤3000) (X:(am w.params).In hb) (hg:hb.Ns mainGlobals mg) (hbn:hb.Ns builtinsNs mb) (hB:∀ x:Str,x ≠ "__name__" -> mb x=bootBuiltins x):cy hb prog w I (am w.params) mQ 0:=by
 refine ⟨B,GO,λ k h=>(h rfl).elim,LI,X,dE hg hbn ?_,λ a f e=>(by exact ac e),λ C S e=>(by exact ac e),λ C n f e=>(by exact ac e),?_,?_,λ id f e=>(by exact ac e),λ n id e=>(by exact ac e),λ v id args σ r e=>(by exact ac e),λ o n σ r e=>(by exact ac e)⟩
 ·exact BS 1 (IW X hg hB (by kernel_rfl) (by kernel_rfl) (by kernel_rfl)) (E7 X hg (by kernel_rfl))
 ·intro a m;have:a=599∨a=846:=by
   rw [bf] at m;have:=of_decide_eq_true m;simpa [mQ] using this
  have key:∀ a:Addr,((rU (am w.params) a).map λ q=>q.1 == Value.type "type")=some true->∃ o,hb.get? a=some o∧o.cls≠.type "tuple" := λ a h0=>by
   cases h1:rU (am w.params) a with
   | none=>rw [h1] at h0; exact ac h0
   | some q =>
    rw [h1] at h0;have h0:=Option.some.inj h0;refine ⟨_,X _ _ (mO h1),?_⟩;show q.1≠_;rw [eq_of_beq h0];decide
  rcases this with rfl | rfl
  ·exact key _ (by kernel_rfl)
  ·exact key _ (by kernel_rfl)
 ·intro C m;have:C=846:=by
   rw [bf] at m;have:=of_decide_eq_true m;simpa [mQ] using this
  subst this;exact ⟨339,616,JJ X⟩
theorem B6 {A:Around} {s:Shared} {hid ρ:List Addr} {σ:List O} {v:Value} {k:Nat} {R':Result->Shared->Prop} (B:gE hb) (GO:cZ hb) (LI:I.line.length≤3000) (X:(am w.params).In hb) (hg:hb.Ns mainGlobals mg) (hbn:hb.Ns builtinsNs mb) (hB:∀ x:Str,x ≠ "__name__" -> mb x=bootBuiltins x)
  (hk:20≤k) (Ru:aC A k) (H:Sh hb prog w I hid ρ σ s.heap) (q:aA hb prog w I hid ρ s (.inst 846 σ.length,σ++[.fld []]) (λ v s'=>R' (.ok (.ret v)) s')):codeAny (model prog w) A (.call (.ref 339) ⟨[.ref 846,v],[]⟩) R' s:=by
 have XH:=X.keeps H.base;have j9:=mP (K:=am w.params) (f:=339) (fd:=dk w.params 339) (ds:=[]) X (by kernel_rfl) (by kernel_rfl); refine xJ j9 λ o q1 q2 q3 q4 q5 q6 q7 q8 q9 q10 q11=>?_; clear j9
 refine codeAny_call_function (by have:=Ru.d; show _ < 1000; exact Nat.lt_of_le_of_lt (Nat.le_add_right _ _) (by assumption)) (H.base _ _ q1) q2 q9 q10 q3 (q11.keeps H.base) ?_
 have b1:(peekA (am w.params) ⟨prog,w.params⟩ (bindArgs (dk w.params 339) ⟨[.ref 846,v],[]⟩)).isSome=true:=by kernel_rfl
 have b2:lC (am w.params) ⟨prog,w.params⟩ (bindArgs (dk w.params 339) ⟨[.ref 846,v],[]⟩)={ cls:=.type "tuple",data:=.seq #[v] }:=by kernel_rfl
 have b3:∀ a,(peekA (am w.params) ⟨prog,w.params⟩ (fp (am w.params) ⟨prog,w.params⟩ (bindArgs (dk w.params 339) ⟨[.ref 846,v],[]⟩) a)).isSome=true:=λ a=>by kernel_rfl
 have b4:∀ a,lC (am w.params) ⟨prog,w.params⟩ (fp (am w.params) ⟨prog,w.params⟩ (bindArgs (dk w.params 339) ⟨[.ref 846,v],[]⟩) a)=dictOf [] 0:=λ a=>by kernel_rfl
 have b5:∀ a b,fp (am w.params) ⟨prog,w.params⟩ (fp (am w.params) ⟨prog,w.params⟩ (bindArgs (dk w.params 339) ⟨[.ref 846,v],[]⟩) a) b=pure (zL.zip [.ref 846,.ref a,.ref b]):=λ a b=>by kernel_rfl
 have e:=Fb w.params σ;refine @aa _ _ _ _ _ _ e λ p e1 e2=>?_;have hl:∀ q∈zL,(dk w.params 339).scope.names.lookup q=some .local:=by
  exact bW (by kernel_rfl)
 have hnc:∀ x∈(dk w.params 339).scope.names,x.2≠.cell:=eE (by kernel_rfl)
 have PN:=vQ (prog:=prog) (I:=I) (hid:=hid) B GO LI X hg hbn hB;have SX:=aY PN.GO (ce PN 2) 10 10;rw [<-q4] at e1;generalize dk w.params 339=fd at *
 generalize (aJ (am w.params) 339 []).body=body at *
 generalize am w.params=K at *
 refine gJ XH _ b1 b2 ?_;refine ab (H.alloc { cls:=.type "tuple",data:=.seq #[v] }) λ x1 H1=>?_;have T1:=H.stbNew (b:={ cls:=.type "tuple",data:=.seq #[v] }) rfl;refine gJ (X.keeps H1.base) _ (b3 _) (b4 _) ?_;refine ab (H1.alloc (dictOf [] 0)) λ x2 H2=>?_;have T2:=H1.stbNew (b:=dictOf [] 0) rfl;refine wpAny_of_eq (b5 _ _) ?_;have Vs:VRs I (ay hid ρ ((s.heap.push { cls:=.type "tuple",data:=.seq #[v] }).push (dictOf [] 0))) ρ [.val (.ref 846),.obj,.obj] [.ref 846,.ref s.heap.objs.size,.ref (s.heap.push { cls:=.type "tuple",data:=.seq #[v] }).objs.size] :=
  .cons (.val _) (.cons ((VR.obj T1).ext x2) (.cons (.obj T2) .nil))
 have Rl:aC A (bD 0 2+1):=Ru.low (by unfold bD; lia)
 exact pu B.nl SX q5 q6 q7 q8 hnc hl (by decide) e1 e2 Rl H2 Vs λ ρ' h' tk' gs x x3 H3 V3=>q ρ' h' tk' gs x ((x1.trans0 x2).g.trans0 x3) H3 V3
theorem zM (B:gE hb) (GO:cZ hb) (LI:I.line.length≤3000) (X:(am w.params).In hb) (hg:hb.Ns mainGlobals mg) (hbn:hb.Ns builtinsNs mb) (hB:∀ x:Str,x ≠ "__name__" -> mb x=bootBuiltins x):zD hb prog w I 20 rR 1:=by
 intro k σ args σ' hk hlen c A s hid ρ xs Q E R H V q;induction V using aD.casesOn with
 | cons Vf V =>
  rename_i xs;induction Vf using aK.casesOn;have hx:∃ v,xs=[v]:=by
   exact List.length_eq_one_iff.mp (V.length.symm.trans hlen)
  refine aj hx ?_; clear hx; rintro v rfl;have XH:=X.keeps H.base;refine wpAny_call (zA ((JJ X).keeps H.base) (JK X H.base) λ tk R' hR=>?_);refine B6 B GO LI X hg hbn hB hk (aC.under R) (s:={ s with toks:=tk }) H λ ρ' h' tk' gs x x3 H3 V3=>?_
  cases id V3 with
  | inst g hr =>
  refine hR _ _ h' tk' gs g.1 ((JJ X).keeps H3.base) ?_;refine c _ { s with heap:=h',toks:=tk',gens:=gs } hid ρ' _ _ (aC.under R) H3 (.cons V3 (V.ext x3.toExt)) λ ρ2 h2 tk2 gs2 y x4 H4 V4=>?_
  induction V4 using be.casesOn;exact ⟨rfl,q ρ2 h2 tk2 gs2 _ (x3.trans0 x4) H4 (V3.ext x4.toExt)⟩
end
section
variable {hb:Heap} {prog:Program} {w:World} {mg mb:Str->Option Value} {I:aZ}
structure cz (w:World) (hb:Heap):Prop where
 X:(am w.params).In hb
 B:gE hb
 GO:cZ hb
 ns:∃ mg mb,hb.Ns mainGlobals mg∧hb.Ns builtinsNs mb∧∀ x:Str,x ≠ "__name__" -> mb x=bootBuiltins x
theorem B7 (K:Frag) (h:K=am w.params):zE K 981 "punctuation_chars" 912:=by
 subst h;exact ⟨by kernel_rfl,by kernel_rfl,913,[.none,.none,.none,.str "punctuation_chars" 1718,.bool false],by kernel_rfl,by kernel_rfl,by kernel_rfl,by kernel_rfl⟩
theorem fq:∀ {l:List (Addr×zv)} {a:Addr} {f:zv},vM l a=some f->(a,f)∈l:=by
 intro l;induction l with
 | nil =>
  intro _ _ h;exact ac h
 | cons p9 r ih =>
  obtain ⟨b,g⟩:=p9;intro a f h;unfold vM at h;cases q:Nat.beq b a with
  | true=>rw [q] at h; induction h using sI; rw [Nat.eq_of_beq_eq_true q]; exact List.mem_cons_self ..
  | false=>rw [q] at h; exact List.mem_cons_of_mem _ (ih h)
theorem d5 {cl:Nat->List Nat} (G:cz w hb) (C:dZ I cl) (LI:I.line.length≤3000):cy hb prog w I (am w.params) (zG (am w.params) cl) 20:=by
 refine ak G.ns λ mg mb hg hbn hB=>?_;refine ⟨G.B,G.GO,C,LI,G.X,Fa G.X hg hbn hB,λ a f e=>?_,λ C S e=>?_,λ C n f e=>?_,λ a m=>(by exact aT m),λ a m=>(by exact aT m),λ id f e=>(by exact ac e),λ n id e=>(by exact ac e),λ v id args σ r e=>(by exact ac e),λ o n σ r e=>(by exact ac e)⟩
 ·have m:=fq e;have X:=G.X;refine ⟨DR m ?_,pK X (bW (f:=λ (q:Addr×zv)=>keepIn (am w.params) (.ref q.1)) (g:=λ _=>true) (by kernel_rfl) (a,f) m)⟩
  exact fa (JH I X) <| fa (JB I X) <| fa (JC I X) <| fa (JD I X) <| fa (JE I X) <| fa (JF I X) <| fa (JG I X) <| fa (Ib I X) <| fa (E9 I X) <| fa ⟨JI I X,zM G.B G.GO LI X hg hbn hB⟩ ja
 ·refine ab (zI e) λ m _=>?_;exact Kt m (fa B5 <| fa zK ja)
 ·unfold zG at e;unfold ux at e;cases h1:Nat.beq 981 C && ("punctuation_chars" : Str) == n with
  | true =>
   rw [h1] at e;induction e using sI;refine ab (Bool.and_eq_true_iff.mp h1) λ h2 h3=>?_;rw [<-Nat.eq_of_beq_eq_true h2,<-beq_iff_eq.mp h3];exact B7 _ rfl
  | false=>rw [h1] at e; exact ac e
end
def vR:V->Bool:=λ x0=>(cg (aP (jr (aP (bv (aP (aV (aP (eT (aP (ej (aP (dB (aP (l5 (aP (eK (aP (cW (aP (nT (aP (ym (aP (tH (false) (true) x0)) (true) x0)) (λ y390 y391=>true) x0)) (λ y390 y391=>true) x0)) (λ y390=>true) x0)) (true) x0)) (λ y390=>true) x0)) (true) x0)) (true) x0)) (λ s=>s.all λ c=>match c with | .lit _=>true | .at _=>false) x0)) (λ y390=>true) x0)) (λ y390=>true) x0)) (true) x0)
def B8:List (Str×V)->Bool
 | []=>true
 | (_,v)::r=>vR v && B8 r
def Id:O->Bool:=λ x0=>(qB (aP (Bs (aP (gq (false) (true) x0)) (λ y390=>true) x0)) (λ l=>B8 l) x0)
section
variable {hb:Heap} {prog:Program} {w:World} {I J:aZ} {hid hid' ρ ρ':List Addr} {σ σ':List O} {h:Heap} {S S':Addr->Obj->Prop}
theorem jX {x:AS} (h:vR (.str x)=true):den I x=den J x:=by
 unfold den;have:x.map (AC.den I)=x.map (AC.den J):=List.map_congr_left λ c m=>by
  have:=List.all_eq_true.mp h c m;cases c with
  | lit n=>rfl
  | «at» k=>exact aT this
 rw [this]
theorem VR.re (hl:I.line=J.line) {v:V} {x:Value} (c:vR v=true) (a:VR I S ρ v x):VR J S ρ v x:=by
 induction v using V.casesOn with
 | none=>induction a using be.casesOn; exact .none
 | bool b=>induction a using cC.casesOn; exact .bool b
 | int i=>induction a using aH.casesOn; exact .int i _
 | str x=>induction a using aG.casesOn; rw [jX (J:=J) c]; exact .str x _
 | lin=>induction a using du.casesOn; rw [hl]; exact .lin _
 | val=>induction a using aK.casesOn; exact .val _
 | ref _=>induction a using bV.casesOn with | ref e=>exact .ref e
 | eset=>induction a using d9.casesOn with | eset e=>exact .eset e
 | inst _ _=>induction a using ec.casesOn with | inst a b=>exact .inst a b
 | rng _ _=>induction a using ij.casesOn with | rng a=>exact .rng a
 | pend=>induction a using cV.casesOn; rw [hl]; exact .pend _
 | obj=>induction a using ik.casesOn with | obj a=>exact .obj a
 | edq=>induction a using il.casesOn with | edq a b=>exact .edq a b
 | _=>exact aT c
theorem ip.re (hl:I.line=J.line) {P:Params} {l:List (Str×V)} {es:List DictEntry} (c:B8 l=true) (F:ip P I S ρ l es):ip P J S ρ l es:=by
 induction F with
 | nil=>exact .nil
 | cons x t a b ih =>
  refine ab (Bool.and_eq_true_iff.mp (show (vR _ && B8 _)=true from c)) λ c1 c2=>?_;exact .cons x t (a.re hl c1) (ih c2)
theorem OR.re (hl:I.line=J.line) {o:O} {b:Obj} (c:Id o=true) (a:OR prog w I S ρ o b):OR prog w J S ρ o b:=by
 induction o using O.casesOn with
 | fld _=>induction a using iq.casesOn with | fld F=>exact .fld (F.re hl c)
 | tabF _=>induction a using gS.casesOn with | tabF a b=>exact .tabF a b
 | tabT=>induction a using bO.casesOn with | tabT a=>exact .tabT a
 | _=>exact aT c
theorem Sh.rebase (H:Sh hb prog w I hid ρ σ h) (hlen:σ.length=σ'.length) (ho:∀ (i:Nat) (o o':O),σ[i]?=some o->σ'[i]?=some o'->∀ b,OR prog w I (ay hid ρ h) ρ o b->OR prog w J (ay hid ρ h) ρ o' b) (hf:J.fx=[]:=by rfl):Sh hb prog w J hid ρ σ' h :=
 ⟨⟨H.sm.1,H.sm.2.1,by rw [hf]; exact λ _ m=>nomatch m⟩,H.base,H.nd,H.len.trans hlen,H.off,H.offH,λ i o' e'=>by
  have hi:i < σ.length:=by rw [hlen]; exact (List.getElem?_eq_some_iff.mp e').1
  refine ak (H.ob i _ (List.getElem?_eq_getElem hi)) λ a b e1 e2 e3=>?_;exact ⟨a,b,e1,e2,ho i _ o' (List.getElem?_eq_getElem hi) e' b e3⟩⟩
theorem Sh.focus (H:Sh hb prog w I hid ρ σ h) {js:List Nat} {σs:List O} {ρs:List Addr} (hn:ρs.Nodup) (hs:∀ a∈ρs,a∈ρ) (hl:ρs.length=σs.length) (ho:∀ (i:Nat) (o:O),σs[i]?=some o->∃ a b,ρs[i]?=some a∧h.get? a=some b∧OR prog w J (ay (hid++ρ.filter λ a=>!ρs.contains a) ρs h) ρs o b) (hf:J.fx=[]:=by rfl) :
  Sh hb prog w J (hid++ρ.filter λ a=>!ρs.contains a) ρs σs h:=by
 refine ⟨⟨λ m=>H.sm.1 (hs _ m),H.sm.2.1,by rw [hf]; exact λ _ m=>nomatch m⟩,H.base,hn,hl,λ a m=>⟨(H.off a (hs a m)).1,λ q=>?_,(H.off a (hs a m)).2.2⟩,λ a m=>?_,ho⟩
 ·rcases List.mem_append.mp q with q | q
  ·exact (H.off a (hs a m)).2.1 q
  ·have:=(List.mem_filter.mp q).2;simp [m] at this
 ·rcases List.mem_append.mp m with m | m
  ·exact H.offH a m
  ·have m:=(List.mem_filter.mp m).1;exact ⟨(H.off a m).1,(H.off a m).2.2⟩
theorem lD {ρs:List Addr} (hs:∀ a∈ρs,a∈ρ):∀ a o,ay hid ρ h a o->ay (hid++ρ.filter λ a=>!ρs.contains a) ρs h a o:=λ a o q =>
 ⟨q.1,λ m=>by
  rcases List.mem_append.mp m with m | m
  ·exact q.2.1 m
  ·exact q.2.2 (List.mem_filter.mp m).1,λ m=>q.2.2 (hs a m)⟩
theorem Sh.unfocus {h':Heap} {ρs ρ2:List Addr} {σ2:List O} {I2:aZ} (H:Sh hb prog w I hid ρ σ h) (hs:∀ a∈ρs,a∈ρ) (x:Ext [] ρs ρ2 h h') (H2:Sh hb prog w I2 (hid++ρ.filter λ a=>!ρs.contains a) ρ2 σ2 h')
  (ho:∀ (i:Nat) (a:Addr) (o:O),ρ[i]?=some a->a∈ρs->σ[i]?=some o->(∀ c d,ay (hid++ρ.filter λ a=>!ρs.contains a) ρ2 h' c d->ay hid ρ h' c d)->∃ b,h'.get? a=some b∧OR prog w I (ay hid ρ h') ρ o b):Ext [] ρ ρ h h'∧Sh hb prog w I hid ρ σ h':=by
 have x1:Ext [] ρ ρ h h':=⟨⟨[],by exact dS⟩,λ b o e n _=>x.keep b o e (λ m=>n (hs b m)) (by simp),λ a m n=>absurd m n⟩
 have sub:∀ a∈ρs,a∈ρ2:=λ a m=>by refine aj x.pre λ r e=>?_; rw [e]; exact List.mem_append_left _ m
 have kp:∀ b o,b∉ρs->h.get? b=some o->h'.get? b=some o:=λ b o n e=>x.keep b o e n (by simp)
 have al:∀ a∈ρ,∃ o,h'.get? a=some o:=λ a m=>by
  by_cases q:a∈ρs
  ·exact (H2.off a (sub a q)).2.2
  ·refine aj ((H.off a m).2.2) λ o e=>?_;exact ⟨o,kp a o q e⟩
 have back:∀ c d,ay (hid++ρ.filter λ a=>!ρs.contains a) ρ2 h' c d->ay hid ρ h' c d:=λ c d q=>⟨q.1,λ m=>q.2.1 (List.mem_append_left _ m),λ m=>by
  by_cases qs:c∈ρs
  ·exact q.2.2 (sub c qs)
  ·exact q.2.1 (List.mem_append_right _ (List.mem_filter.mpr ⟨m,by simpa using qs⟩))⟩
 refine ⟨x1,⟨H.sm,λ b o e=>kp b o (λ m=>?_) (H.base b o e),H.nd,H.len,λ a m=>⟨(H.off a m).1,(H.off a m).2.1,al a m⟩,λ a m=>⟨(H.offH a m).1,?_⟩,λ i o e=>?_⟩⟩
 ·have:=(H.off b (hs b m)).1;rw [e] at this; cases this
 ·refine aj ((H.offH a m).2) λ o e=>?_;exact ⟨o,kp a o (λ q=>(H.off a (hs a q)).2.1 m) e⟩
 ·refine ak (H.ob i o e) λ a b e1 e2 e3=>?_;by_cases q:a∈ρs
  ·refine ag (ho i a o e1 q e back) λ b' f1 f2=>?_;exact ⟨a,b',e1,f1,f2⟩
  ·exact ⟨a,b,e1,kp a b q e2,e3.tr x1.pre (x1.stb jq)⟩
end
section
noncomputable def nj:List Nat:=[48,49,50,51,52,53,54,55,56,57,65,66,67,68,69,70,71,72,73,74,75,76,77,78,79,88,89,102,103,104,105,106,107,108,109,110,111,112,113,114,115,116,117,118,119,120,121,122]
noncomputable def nk:List Nat:=[64,37,43,61,58,44,46,47,45]
noncomputable def zN:List Nat:=[33,34,35,36,38,40,41,42,59,60,62,63,123,124]
noncomputable def cs (l:List Nat):Nat->List Nat:=λ _=>l
noncomputable def Kx:Str := "abcdfeghijklmnopqrstuvwxyzABCDEFGHIJKLMNOPQRSTUVWXYZ0123456789_ßàáâãäåæçèéêëìíîïðñòóôõöøùúûüýþÿÀÁÂÃÄÅÆÇÈÉÊËÌÍÎÏÐÑÒÓÔÕÖØÙÚÛÜÝÞ"
def cA (p st:V):List O:=[.fld [("instream",.inst 846 1),("infile",.none),("posix",.bool true),("eof",.none),("commenters",.str []),("wordchars",.str (fV Kx)),("whitespace",.str [.lit 32,.lit 9,.lit 13,.lit 10]),("whitespace_split",.bool true),
  ("quotes",.str [.lit 39,.lit 34]),("escape",.str [.lit 92]),("escapedquotes",.str [.lit 34]),("state",st),("pushback",.edq),("lineno",.int 1),("debug",.int 0),("token",.str []),("filestack",.edq),("source",.none),("_punctuation_chars",.str [])],
 .fld [("_StringIO__newline",.str [.lit 10]),("_StringIO__buf",.lin),("_StringIO__pos",p)]]
noncomputable abbrev sp:V:=.str [.lit 32]
def pL:List O:=match cA (.int 0) sp with
 | .fld l::r=>.fld (jP (jP l "whitespace_split" (.bool false)) "commenters" (.str [.lit 35]))::r
 | l=>l
def SX (P:cI):eM:=qP (hO P 7) P.W P.D
def rV (l:List Stmt) (i:Nat):Stmt:=match aU l i with
 | some s=>s
 | none=>.Pass ⟨0,0,0,0⟩
def gf (P:Params) (i:Nat):Stmt:=rV (aJ (am P) 993 []).body i
def bZ (P:Params) (lex:Option V):F:=match lex with
 | none=>F.of ((plan (aJ (am P) 993 []).names ["s", "comments", "posix"]).map (aX [.lin,.bool false,.bool true]))
 | some v=>F.of ((plan (aJ (am P) 993 []).names ["s", "comments", "posix", "lex"]).map (aX [.lin,.bool false,.bool true,v]))
def pW (P:Params) (l:List Nat):cI:=zG (am P) (cs l)
theorem B9 (P:Params):(aJ (am P) 993 []).body=[gf P 0,gf P 1,gf P 2,gf P 3,gf P 4,gf P 5]:=by kernel_rfl
theorem Ca (P:Params):Ic (SX (pW P [])) (aJ (am P) 905 []).names (aJ (am P) 905 []).body ⟨F.of ((plan (aJ (am P) 905 []).names (aJ (am P) 905 []).ps).map (aX [.inst 981 0,.lin,.none,.bool true,.bool false])),[],none⟩ [.fld []]=some (.none,pL):=by kernel_rfl
def zO (P:cI) (K:Frag) (p st:V):Option (V×List O):=cP (SX P) (aJ K 978 []) [.inst 981 0] (cA p st)
theorem Ky (P:Params) (p st:V):cP (SX (pW P [])) (aJ (am P) 971 []) [.inst 981 0] (cA p st)=some (.inst 981 0,cA p st):=by kernel_rfl
theorem tW (P:Params) (d:Nat):zO (pW P nj) (am P) (.pos 0 [.at 0,.lit 32,.lit d] false) sp=some (.str [.at 0],cA (.pos 2 [.lit d] false) sp):=by kernel_rfl
theorem tS (P:Params) (d:Nat):zO (pW P nk) (am P) (.pos 0 [.at 0,.lit 32,.lit d] false) sp=some (.str [.at 0],cA (.pos 2 [.lit d] false) sp):=by kernel_rfl
theorem tQ (P:Params) (d:Nat):zO (pW P zN) (am P) (.pos 0 [.lit 39,.at 0,.lit 39,.lit 32,.lit d] false) sp=some (.str [.at 0],cA (.pos 4 [.lit d] false) sp):=by kernel_rfl
theorem tA (P:Params) (d:Nat):zO (pW P [39]) (am P) (.pos 0 [.lit 39,.lit 39,.lit 34,.lit 39,.lit 34,.lit 39,.lit 39,.lit 32,.lit d] false) sp=some (.str [.lit 39],cA (.pos 8 [.lit d] false) sp):=by kernel_rfl
theorem uW (P:Params):zO (pW P nj) (am P) (.pos 0 [.at 0] true) sp=some (.str [.at 0],cA .pend .none):=by kernel_rfl
theorem uS (P:Params):zO (pW P nk) (am P) (.pos 0 [.at 0] true) sp=some (.str [.at 0],cA .pend .none):=by kernel_rfl
theorem uQ (P:Params):zO (pW P zN) (am P) (.pos 0 [.lit 39,.at 0,.lit 39] true) sp=some (.str [.at 0],cA .pend .none):=by kernel_rfl
theorem uA (P:Params):zO (pW P [39]) (am P) (.pos 0 [.lit 39,.lit 39,.lit 34,.lit 39,.lit 34,.lit 39,.lit 39] true) sp=some (.str [.lit 39],cA .pend .none):=by kernel_rfl
def rW (P:Params) (i:Nat):Stmt:=rV (aJ (am P) 978 []).body i
def jY (P:Params) (tok:Option V):F:=match tok with
 | none=>F.of ((plan (aJ (am P) 978 []).names ["self"]).map (aX [.inst 981 0]))
 | some v=>F.of ((plan (aJ (am P) 978 []).names ["self", "token"]).map (aX [.inst 981 0,v]))
theorem Cb (P:Params):(aJ (am P) 978 []).body=[rW P 0,rW P 1,rW P 2]:=by kernel_rfl
end
section
variable {hb:Heap} {prog:Program} {w:World} {I:aZ} {k:Nat} {Φ:eO} {ev:Ev} {X:eM} {hid ρ ρ' ρ'':List Addr} {σ:List O} {A:Around} {s:Shared} {env:Env} {N:aq} {ae:AE} {E:Value->Shared->Prop} {h h' h'':Heap}
theorem aC.underK {C:Addr} {vals:List Value} {kw:List (Str×Value)} (R:aC A (k+1)):aC (A.under (.builtin "type.__call__" ⟨.ref C::vals,kw⟩)) k :=
 ⟨R.hh,by have:=R.d; show A.depth+1+k < 1000; lia,by have:=R.u; show A.units+1+8 * k < 9900; lia⟩
theorem fH {f:Addr} {fi:i7} {loc:F} {args:List V} {xs:List Value} {RR:Result->Shared->Prop} (FO:bK hb I f fi) (NL:hb.NoLimit) (e1:dU fi args=some loc) (hd:A.depth < 1000) (H:Sh hb prog w I hid ρ σ s.heap) (Vs:VRs I (ay hid ρ s.heap) ρ args xs)
  (q:∀ h₁ tk env,env.locals=s.heap.objs.size->env.frame=some s.heap.objs.size->env.scope.kind=.function->s.heap.get? env.locals=none->env.locals∉hid->(∀ b o,s.heap.get? b=some o->h₁.get? b=some o)->Sh hb prog w I (env.locals::hid) ρ σ h₁->ao I fi.names env ⟨loc,[],none⟩ (env.locals::hid) ρ h₁->(xs≠[]->fi.ps≠[]->1≤tk)->(∃ o fd,hb.get? f=some o∧o.data=.func fd∧env.code=fd.code) ->
   wpAny (model prog w) (A.deeper env) (execs fi.body env) (λ f s'=>RR (.ok (.ret (match f with | .ret v=>v | _=>.none))) s')
    (λ e s'=>wpAny (model prog w) (A.deeper env) (leaving env e) (λ _ s''=>RR (.error e) s'') (λ e' s''=>RR (.error e') s'') s') { s with heap:=h₁,toks:=tk }) :
  codeAny (model prog w) A (.call (.ref f) ⟨xs,[]⟩) RR s:=by
 refine ah λ G9 fin9=>?_;unfold dU at e1;refine ai e1 λ hc e1=>?_;induction e1 using sI;rw [Bool.and_eq_true] at hc;have c1:=Nat.le_of_ble_eq_true hc.1;have c2:=Nat.le_of_ble_eq_true hc.2;refine qt FO.at_ λ o fd g1 g2 g3 g4 g5 g6 g7 g8 g9 g10 g11 g12=>?_;have hlen:=Vs.length;refine ag (g12 s xs H.base (by simp_all) (by simp_all)) λ dv g13 g14=>?_
 have hdl:=(g13 (λ _ _=>False) []).length;have Lr:iQ I (ay hid ρ s.heap) ρ (fi.ps.zip (args++fi.ds.drop (fi.ds.length+args.length - fi.ps.length))) (fi.ps.zip (xs++dv.drop (dv.length+xs.length - fi.ps.length))):=by
  refine iQ.zip (Vs.append ?_);rw [hdl,hlen];exact (g13 _ _).drop _
 refine fin9 ?_; clear fin9 G9;refine (codeAny_call_def hd (H.base _ _ g1) g2 (NL.keeps H.base) (g11.keeps H.base) g3 g14 (by rw [g4]; exact FO.nocell) ?_ (λ h₁ hns hk₁=>?_) g9 g10 g8)
 ·intro x hx;rw [g4];refine FO.loc x.1 ?_;exact (List.of_mem_zip hx).1
 ·have hn:=bh s.heap;refine da (id hns) λ o' es ep ho' _=>?_;refine ab (H.hideK hn hk₁ ⟨o',ho'⟩) λ H1 st1=>?_;have Y1:ao I fi.names (callEnv fd s.heap.objs.size f) ⟨F.of ((plan fi.names fi.ps).map (aX (args++fi.ds.drop (fi.ds.length+args.length - fi.ps.length)))),[],none⟩ (s.heap.objs.size::hid) ρ h₁:=by
   refine ⟨g8,g4,g5,g7,List.mem_cons_self ..,⟨_,hns,λ x i kd v hp hv=>?_⟩,λ x i kd c hp hi=>(by induction i using Nat.casesOn<;>exact ac hi),λ i e=>(by exact ac e)⟩
   refine ag (Lr.rev.look (mi FO.psn hp hv)) λ y h1 h2=>?_;exact ⟨y,h1,h2.tr ⟨[],by exact dS⟩ st1⟩
  refine q h₁ _ (callEnv fd s.heap.objs.size f) rfl rfl g8 hn H.nextH hk₁ H1 Y1 (λ n1 n2=>?_) ⟨o,fd,g1,g2,rfl⟩;have l1:0 < xs.length:=List.length_pos_iff.mpr n1;have l2:0 < fi.ps.length:=List.length_pos_iff.mpr n2;rw [List.length_zip,List.length_append];omega
theorem pM {f:Addr} {fi:i7} {loc:F} {args:List V} {xs:List Value} {RR:Result->Shared->Prop} (FO:bK hb I f fi) (NL:hb.NoLimit) (e1:dU fi args=some loc) (hd:A.depth < 1000) (H:Sh hb prog w I hid ρ σ s.heap) (Vs:VRs I (ay hid ρ s.heap) ρ args xs)
 (q:∀ h₁ tk env,env.locals=s.heap.objs.size->env.frame=some s.heap.objs.size->env.scope.kind=.function->s.heap.get? env.locals=none->env.locals∉hid->(∀ b o,s.heap.get? b=some o->h₁.get? b=some o)->Sh hb prog w I (env.locals::hid) ρ σ h₁->ao I fi.names env ⟨loc,[],none⟩ (env.locals::hid) ρ h₁ ->
  wpAny (model prog w) (A.deeper env) (execs fi.body env) (λ f s'=>RR (.ok (.ret (match f with | .ret v=>v | _=>.none))) s')
   (λ e s'=>wpAny (model prog w) (A.deeper env) (leaving env e) (λ _ s''=>RR (.error e) s'') (λ e' s''=>RR (.error e') s'') s') { s with heap:=h₁,toks:=tk }) :
 codeAny (model prog w) A (.call (.ref f) ⟨xs,[]⟩) RR s:=fH FO NL e1 hd H Vs λ h₁ tk env a b c d e f g h _ _=>q h₁ tk env a b c d e f g h
end
section
variable {hb:Heap} {prog:Program} {w:World} {I:aZ} {k:Nat} {hid ρ:List Addr} {σ:List O} {A:Around} {s:Shared} {E:Value->Shared->Prop}
theorem rX (G:cz w hb) (LI:I.line.length≤3000) {x y:Value} {Q:Value->Shared->Prop} (R:aC A 60) (H:Sh hb prog w I hid [] [] s.heap) (Vx:VR I (ay hid [] s.heap) [] .lin x) (Vy:VR I (ay hid [] s.heap) [] (.bool true) y) (q:aA hb prog w I hid [] s (.inst 981 0,pL) Q) :
  wpAny (model prog w) A (call (.ref 981) [x] [("posix",y)]) Q E s:=by
 refine ah λ G9 fin9=>?_;have XH:=G.X.keeps H.base;have Y:=makes_of (M:=model prog w) XH jW.makes;have PS:=d5 (prog:=prog) (I:=I) (cl:=cs []) G (λ k h=>(h rfl).elim) LI;have SX0:=aY PS.GO (ce PS 7) (pW w.params []).W (pW w.params []).D;induction Vy using cC.casesOn;have j9:=mP (K:=am w.params) (f:=905) (fd:=dk w.params 905) (ds:=[]) G.X (by kernel_rfl) (by kernel_rfl); refine xJ j9 λ o q1 q2 q3 q4 q5 q6 q7 q8 q9 q10 q11=>?_; clear j9
 refine ab (H.push (b:=emptyDict) (o:=.fld []) rfl (.fld (n:=0) .nil)) λ x1 H1=>?_;refine ab (H1.alloc (instObj 981 s.heap.objs.size)) λ x2 H2=>?_;have x12:=x1.trans0 x2;have self:VR I (ay hid ([]++[s.heap.objs.size]) ((s.heap.push emptyDict).push (instObj 981 s.heap.objs.size))) ([]++[s.heap.objs.size]) (.inst 981 0) (.ref (s.heap.objs.size+1)):=by
  have z:=H1.stbNew (b:=instObj 981 s.heap.objs.size) rfl;rw [Heap.size_push] at z;exact .inst z rfl
 have Ru:aC (A.under (.builtin "type.__call__" ⟨[.ref 981,x],[("posix",.bool true)]⟩)) 59:=aC.underK R;have X2:=G.X.keeps H2.base;have b1:∀ a,peek (am w.params) ⟨prog,w.params⟩ (bindArgs (dk w.params 905) ⟨[.ref a,x],[("posix",.bool true)]⟩)=some ((aJ (am w.params) 905 []).ps.zip [.ref a,x,.none,.bool true,.bool false]):=λ a=>by kernel_rfl
 have hl:∀ q∈(aJ (am w.params) 905 []).ps,(dk w.params 905).scope.names.lookup q=some .local:=by
  rw [q4];exact uC (by kernel_rfl)
 have hnc:∀ x∈(dk w.params 905).scope.names,x.2≠.cell:=eE (by kernel_rfl)
 have hps:(aJ (am w.params) 905 []).ps.Nodup:=of_decide_eq_true (by kernel_rfl)
 refine aa ((Ca w.params)) λ p e1 e2=>?_;rw [<-q4] at e1;have hI:=(jW (P:=w.params)).init;have hF:=(jW (P:=w.params)).fn;refine fin9 ?_; clear fin9 G9;generalize dk w.params 905=fd at *
 generalize (aJ (am w.params) 905 []).body=body at *
 obtain ⟨hh,g,d,t,os⟩:=s;refine wpAny_call (make_core Y (looks_findIn XH hI) (λ self=>bind_fn XH self hF) (.inl rfl) ?_);refine codeAny_call_function (by have:=Ru.d; show _ < 1000; exact Nat.lt_of_le_of_lt (Nat.le_add_right _ _) (by assumption)) (H2.base _ _ q1) q2 q9 q10 q3 (q11.keeps H2.base) ?_
 refine (Looks.of_peek (M:=model prog w) X2 (b1 _)).here ?_;have Rl:aC (A.under (.builtin "type.__call__" ⟨[.ref 981,x],[("posix",.bool true)]⟩)) (bD 20 7+1):=Ru.low (by unfold bD; simp [*])
 refine pu G.B.nl SX0 q5 q6 q7 q8 hnc hl hps e1 e2 Rl H2 (.cons self (.cons (Vx.ext x12) (.cons .none (.cons (.bool _) (.cons (.bool _) .nil))))) λ ρ' h' tk' gs z x3 H3 V3=>?_;induction V3 using be.casesOn;exact ⟨rfl,q ρ' h' tk' gs _ (x12.g.trans0 x3) H3 (self.ext x3.toExt)⟩
end
section
noncomputable def IT (L:Str) (c b:Nat):aZ:=⟨λ _=>c,L,λ _=>0,[],b,[],.bare,[]⟩
def aN (c:Nat):List Nat:=aB (Nat.beq c 39) [39,39,34,39,34,39,39] (aB (aW c nj || aW c nk) [c] [39,c,39])
def fr (c:Nat):Bool:=Nat.beq c 39 || aW c nj || aW c nk || aW c zN
def jn:List Nat->List Nat
 | []=>[]
 | c::r=>(match r with
  | []=>aN c
  | _::_=>aN c++32::jn r)
end
section
variable {hb:Heap} {prog:Program} {w:World} {L:Str} {c c' b b':Nat} {hid ρ:List Addr} {A:Around} {s:Shared} {E:Value->Shared->Prop} {h:Heap}
theorem mR {p p' st:V} (H:Sh hb prog w (IT L c b) hid ρ (cA p st) h) (hst:vR st=true) (hp:∀ S ρ x,VR (IT L c b) S ρ p x->VR (IT L c' b') S ρ p' x):Sh hb prog w (IT L c' b') hid ρ (cA p' st) h:=by
 refine H.rebase rfl λ i o o' e e' B hB=>?_;have hl:(IT L c b).line=(IT L c' b').line:=rfl;match i,e,e' with
 | 0,e,e' =>
  induction e using sI; induction e' using sI;exact hB.re hl ((show Id _=(vR st && true) by kernel_rfl).trans (by rw [hst]; rfl))
 | 1,e,e' =>
  induction e using sI; induction e' using sI;induction hB using iq.casesOn with
  | fld F =>
   cases F with
   | cons x1 t1 a1 F =>
   cases F with
   | cons x2 t2 a2 F =>
   cases F with
   | cons x3 t3 a3 F =>
   cases F;exact .fld (.cons _ _ (a1.re hl rfl) (.cons _ _ (a2.re hl rfl) (.cons _ _ (hp _ _ _ a3) .nil)))
 | _+2,e,e'=>exact ac e
noncomputable abbrev Cc:List O:=cA (.pos 0 [] false) sp
theorem zP {p:V} (H:Sh hb prog w (IT L 0 b) hid ρ Cc h) (hp:∀ t S ρ,VR (IT L c b) S ρ p (.int ((b:Nat):Int) t)):Sh hb prog w (IT L c b) hid ρ (cA p sp) h :=
 mR H rfl λ S ρ x V=>by
  induction V using dc.casesOn with
  | pos t h1 h2 h3=>exact hp t S ρ
theorem Fc {n:Nat} {ch:AS} {e:Bool} (H:Sh hb prog w (IT L c b) hid ρ (cA (.pos n ch e) sp) h):Sh hb prog w (IT L 0 (b+n)) hid ρ Cc h :=
 mR H rfl λ S ρ x V=>by
  induction V using dc.casesOn with
  | pos t h1 h2 h3 =>
   refine VR.pos (I:=IT L 0 (b+n)) (off:=0) t h1 ⟨_,rfl⟩ λ h=>by exact aT h
theorem eG (h:fr c=true):(c=39∧aN c=[39,39,34,39,34,39,39])∨(aW c nj=true∧aN c=[c])∨(aW c nk=true∧aN c=[c])∨(aW c zN=true∧aN c=[39,c,39]):=by
 by_cases h1:c=39
 ·subst h1; exact .inl ⟨rfl,rfl⟩
 have e1:Nat.beq c 39=false:=by rw [cx]; exact decide_eq_false h1
 unfold fr at h;unfold aN;rw [e1] at h ⊢;cases h2:aW c nj with
 | true=>exact .inr (.inl ⟨rfl,rfl⟩)
 | false =>
  cases h3:aW c nk with
  | true=>exact .inr (.inr (.inl ⟨rfl,rfl⟩))
  | false =>
   rw [h2,h3] at h;exact .inr (.inr (.inr ⟨by simpa using h,rfl⟩))
theorem iD {l:List Nat} (h:aW c l=true):dZ (IT L c b) (cs l):=λ k _=>by
 rw [bf] at h;exact of_decide_eq_true h
theorem cT {ρ':List Addr} {σ σ':List O} {I I':aZ} {h h':Heap} (H:Sh hb prog w I hid ρ σ h) (H':Sh hb prog w I' hid ρ' σ' h') (hl:σ.length=σ'.length) (x:∃ r,ρ'=ρ++r):ρ'=ρ:=by
 refine aj x λ r e=>?_; clear x;have h1:=H.len;have h2:=H'.len;rw [e,List.length_append] at h2;have:r=[]:=List.eq_nil_of_length_eq_zero (by simp_all)
 rw [e,this,List.append_nil]
theorem bC.next {N:aq} {env:Env} {σ':List O} {ae':AE} {Q:Flow->Shared->Prop} (hl:σ.length=σ'.length) (H:Sh hb prog w I hid ρ σ s.heap)
  (q:∀ h' tk gs,aI I [env.locals] ρ ρ s.heap s.gens h' gs->Sh hb prog w I hid ρ σ' h'->ao I N env ae' hid ρ h'->Q .next { s with heap:=h',toks:=tk,gens:=gs }):bC hb prog w I N hid ρ s env (.next,ae',σ') Q:=λ ρ' h' tk gs fl x H' Y F=>by
 cases F.nextE;cases cT H H' hl x.toExt.pre;exact q h' tk gs x H' Y
theorem aA.same {v:V} {σ':List O} {Q:Value->Shared->Prop} (hl:σ.length=σ'.length) (H:Sh hb prog w I hid ρ σ s.heap)
  (q:∀ h' tk gs x,aI I [] ρ ρ s.heap s.gens h' gs->Sh hb prog w I hid ρ σ' h'->VR I (ay hid ρ h') ρ v x->Q x { s with heap:=h',toks:=tk,gens:=gs }):aA hb prog w I hid ρ s (v,σ') Q:=λ ρ' h' tk gs y x H' V=>by
 cases cT H H' hl x.toExt.pre;exact q h' tk gs y x H' V
theorem nZ.same {v:List V} {σ':List O} {Q:List Value->Shared->Prop} (hl:σ.length=σ'.length) (H:Sh hb prog w I hid ρ σ s.heap)
  (q:∀ h' tk gs x,aI I [] ρ ρ s.heap s.gens h' gs->Sh hb prog w I hid ρ σ' h'->VRs I (ay hid ρ h') ρ v x->Q x { s with heap:=h',toks:=tk,gens:=gs }):nZ hb prog w I hid ρ s (v,σ') Q:=λ ρ' h' tk gs y x H' V=>by
 cases cT H H' hl x.toExt.pre;exact q h' tk gs y x H' V
theorem dT.same {N:aq} {env:Env} {σ':List O} {ae':AE} {Q:Unit->Shared->Prop} (hl:σ.length=σ'.length) (H:Sh hb prog w I hid ρ σ s.heap)
  (q:∀ h' tk gs,aI I [env.locals] ρ ρ s.heap s.gens h' gs->Sh hb prog w I hid ρ σ' h'->ao I N env ae' hid ρ h'->Q () { s with heap:=h',toks:=tk,gens:=gs }):dT hb prog w I N hid ρ s env (ae',σ') Q:=λ ρ' h' tk gs x H' Y=>by
 cases cT H H' hl x.toExt.pre;exact q h' tk gs x H' Y
theorem df.same {b:Bool} {σ':List O} {Q:Bool->Shared->Prop} (hl:σ.length=σ'.length) (H:Sh hb prog w I hid ρ σ s.heap)
  (q:∀ h' tk gs,aI I [] ρ ρ s.heap s.gens h' gs->Sh hb prog w I hid ρ σ' h'->Q b { s with heap:=h',toks:=tk,gens:=gs }):df hb prog w I hid ρ s (b,σ') Q:=λ ρ' h' tk gs x H'=>by
 cases cT H H' hl x.toExt.pre;exact q h' tk gs x H'
theorem d6 {S:Addr->Obj->Prop} {y:Value} (V:VR (IT L c b) S ρ (.str [.at 0]) y):∃ t,y=.str ⟨#[c]⟩ t:=by
 induction V using aG.casesOn; exact ⟨_,rfl⟩
theorem zQ {S:Addr->Obj->Prop} {y:Value} (V:VR (IT L c b) S ρ (.str [.lit 39]) y):∃ t,y=.str ⟨#[39]⟩ t:=by
 induction V using aG.casesOn; exact ⟨_,rfl⟩
theorem uD (G:cz w hb) (LI:L.length≤3000) {l:List Nat} {p p' st' v:V} {x:Value} {Q:Value->Shared->Prop} (C:dZ (IT L c b) (cs l)) (e:zO (pW w.params l) (am w.params) p sp=some (v,cA p' st')) (R:aC A 60)
  (H:Sh hb prog w (IT L c b) hid ρ (cA p sp) s.heap) (Vx:VR (IT L 0 b) (ay hid ρ s.heap) ρ (.inst 981 0) x) (hv:∀ {S:Addr->Obj->Prop} {y:Value},VR (IT L c b) S ρ v y->∃ t,y=.str ⟨#[c]⟩ t)
  (q:∀ h' tk gs t,aI (IT L 0 0) [] ρ ρ s.heap s.gens h' gs->Sh hb prog w (IT L c b) hid ρ (cA p' st') h'->Q (.str ⟨#[c]⟩ t) { s with heap:=h',toks:=tk,gens:=gs }):wpAny (model prog w) A (call (.ref 978) [x]) Q E s:=by
 have PS:=d5 (prog:=prog) (I:=IT L c b) (cl:=cs l) G C LI;have SX0:=aY PS.GO (ce PS 7) (pW w.params l).W (pW w.params l).D;refine (cr (E9 (IT L c b) G.X) G.B.nl SX0 e).op A s hid ρ [.ref 978,x] _ _ (R.low (by unfold bD; simp [*])) H (.cons (.val _) (.cons (VR.re (I:=IT L 0 b) (J:=IT L c b) rfl rfl Vx) .nil)) λ ρ' h' tk gs y x1 H1 V1=>?_
 have:=cT H H1 rfl x1.toExt.pre;subst this;refine aj (hv V1) ?_; rintro t rfl;exact q h' tk gs t ⟨x1.toExt,x1.gb⟩ H1
theorem Cd (G:cz w hb) (LI:L.length≤3000) {d:Nat} {r:List Nat} {x:Value} {Q:Value->Shared->Prop} (ok:fr c=true) (hL:L.cps.toList.drop b=aN c++32::d::r) (R:aC A 60) (H:Sh hb prog w (IT L 0 b) hid ρ Cc s.heap)
  (Vx:VR (IT L 0 b) (ay hid ρ s.heap) ρ (.inst 981 0) x) (q:∀ h' tk gs t,aI (IT L 0 0) [] ρ ρ s.heap s.gens h' gs->Sh hb prog w (IT L 0 (b+((aN c).length+1))) hid ρ Cc h'->Q (.str ⟨#[c]⟩ t) { s with heap:=h',toks:=tk,gens:=gs }):wpAny (model prog w) A (call (.ref 978) [x]) Q E s:=by
 have hle:b≤L.cps.toList.length:=by
  have:=congrArg List.length hL;simp only [List.length_drop,List.length_append,List.length_cons] at this;grind
 have go:∀ (l:List Nat) (xA:AS) (v:V) (n:Nat),dZ (IT L c b) (cs l)->xA.map (AC.den (IT L c b))=aN c->zO (pW w.params l) (am w.params) (.pos 0 (xA++[.lit 32,.lit d]) false) sp=some (v,cA (.pos n [.lit d] false) sp)->n=(aN c).length+1 ->
   (∀ {S:Addr->Obj->Prop} {y:Value},VR (IT L c b) S ρ v y->∃ t,y=.str ⟨#[c]⟩ t)->wpAny (model prog w) A (call (.ref 978) [x]) Q E s:=λ l xA v n C hx e hn hv=>by
  refine uD G LI C e R (zP H λ t S ρ=>VR.pos (I:=IT L c b) (off:=0) t hle ?_ λ h=>by exact aT h) Vx hv λ h' tk gs t x1 H1=>q h' tk gs t x1 ?_
  ·refine ⟨r,?_⟩;show _=L.cps.toList.drop b;rw [hL,List.map_append,hx];simp [AC.den]
  ·have:=Fc H1;rw [hn] at this;exact this
 rcases eG ok with ⟨rfl,e⟩ | ⟨m,e⟩ | ⟨m,e⟩ | ⟨m,e⟩
 ·exact go [39] [.lit 39,.lit 39,.lit 34,.lit 39,.lit 34,.lit 39,.lit 39] _ _ (iD (by rfl)) rfl (tA w.params d) rfl zQ
 ·exact go nj [.at 0] _ _ (iD m) (by rw [e]; rfl) (tW w.params d) (by rw [e]; rfl) d6
 ·exact go nk [.at 0] _ _ (iD m) (by rw [e]; rfl) (tS w.params d) (by rw [e]; rfl) d6
 ·exact go zN [.lit 39,.at 0,.lit 39] _ _ (iD m) (by rw [e]; rfl) (tQ w.params d) (by rw [e]; rfl) d6
noncomputable abbrev done:List O:=cA .pend .none
theorem vS (G:cz w hb) (LI:L.length≤3000) {x:Value} {Q:Value->Shared->Prop} (ok:fr c=true) (hL:L.cps.toList.drop b=aN c) (R:aC A 60) (H:Sh hb prog w (IT L 0 b) hid ρ Cc s.heap)
  (Vx:VR (IT L 0 b) (ay hid ρ s.heap) ρ (.inst 981 0) x) (q:∀ h' tk gs t,aI (IT L 0 0) [] ρ ρ s.heap s.gens h' gs->Sh hb prog w (IT L 0 0) hid ρ done h'->Q (.str ⟨#[c]⟩ t) { s with heap:=h',toks:=tk,gens:=gs }):wpAny (model prog w) A (call (.ref 978) [x]) Q E s:=by
 have hle:b≤L.cps.toList.length:=by
  have hp:0 < (aN c).length:=by
   rcases eG ok with ⟨rfl,e⟩ | ⟨m,e⟩ | ⟨m,e⟩ | ⟨m,e⟩<;>rw [e]<;>simp
  have:=congrArg List.length hL;simp only [List.length_drop] at this;grind
 have go:∀ (l:List Nat) (xA:AS) (v:V),dZ (IT L c b) (cs l)->xA.map (AC.den (IT L c b))=aN c->zO (pW w.params l) (am w.params) (.pos 0 xA true) sp=some (v,cA .pend .none) ->
   (∀ {S:Addr->Obj->Prop} {y:Value},VR (IT L c b) S ρ v y->∃ t,y=.str ⟨#[c]⟩ t)->wpAny (model prog w) A (call (.ref 978) [x]) Q E s:=λ l xA v C hx e hv=>by
  refine uD G LI C e R (zP H λ t S ρ=>VR.pos (I:=IT L c b) (off:=0) t hle ?_ λ _=>?_) Vx hv λ h' tk gs t x1 H1=>q h' tk gs t x1 (mR H1 rfl λ S ρ x V=>VR.re (I:=IT L c b) (J:=IT L 0 0) rfl rfl V)
  ·exact ⟨[],by rw [List.append_nil,hx]; exact hL.symm⟩
  ·rw [hx]; exact hL
 rcases eG ok with ⟨rfl,e⟩ | ⟨m,e⟩ | ⟨m,e⟩ | ⟨m,e⟩
 ·exact go [39] [.lit 39,.lit 39,.lit 34,.lit 39,.lit 34,.lit 39,.lit 39] _ (iD (by rfl)) rfl (uA w.params) zQ
 ·exact go nj [.at 0] _ (iD m) (by rw [e]; rfl) (uW w.params) d6
 ·exact go nk [.at 0] _ (iD m) (by rw [e]; rfl) (uS w.params) d6
 ·exact go zN [.lit 39,.at 0,.lit 39] _ (iD m) (by rw [e]; rfl) (uQ w.params) d6
end
section
theorem Ce (P:Params):∃ np rp pos,rW P 1=.If (qA (rW P 1)) [.Raise (some (.Name "StopIteration" np)) none rp] [] pos:=⟨_,_,_,rfl⟩
theorem Ie (P:Params):(SX (pW P []) (aJ (am P) 978 []).names (rW P 0)).f ⟨jY P none,[],none⟩ done=some (.next,⟨jY P (some .none),[],none⟩,done):=by kernel_rfl
theorem JL (P:Params):((k8 (hO (pW P []) 7) 15).T (aJ (am P) 978 []).names (qA (rW P 1))).f ⟨jY P (some .none),[],none⟩ done=some (true,done):=by kernel_rfl
theorem Cf (P:Params):dU (aJ (am P) 978 []) [.inst 981 0]=some (jY P none):=by kernel_rfl
theorem Ig (P:Params):(b9 (hO (pW P []) 7) (aJ (am P) 978 []).names "StopIteration").f ⟨jY P (some .none),[],none⟩ done=some (.val (.type "StopIteration")):=by kernel_rfl
def Ih (P:Params):Bool:=match dy (aJ (am P) 978 []).names "StopIteration" with
 | some (_,.globalImplicit)=>true
 | _=>false
theorem Fd (P:Params):Ih P=true:=by kernel_rfl
end
section
variable {hb:Heap} {prog:Program} {w:World} {L:Str} {c c' b b':Nat} {hid ρ:List Addr} {A:Around} {s:Shared} {E:Value->Shared->Prop} {h:Heap} {K:Frag} {x C f:Addr} {ox:Obj} {od:Option Obj} {M:Model}
theorem pN {Q:Option Value->Shared->Prop} (X:K.In s.heap) (I:InstAt s.heap x ox C od) (hs:findIn K (.ref C) "__next__" = some (some (.ref f))) (hf:typeIn K (.ref f)=some (.type "function"))
  (h:wpAny M A (call (.ref f) [.ref x]) (λ v s'=>Q (some v) s') (OwitStop M A Q E) s):wpAny M A (pyNext (.ref x)) Q E s:=by
 unfold pyNext;refine wpAny_bind (wpAny_attempt (special_fn (name := "__next__") (args:=[]) X I hs hf (wpAny_mono h (λ v s' hq=>?_) (λ e s' he=>?_))))
 ·exact wpAny_pure hq
 ·refine wpAny_bind (wpAny_mono he (λ b s₂ hb=>?_) λ _ _ z=>z);induction b using Bool.casesOn with
  | true=>exact wpAny_pure hb
  | false=>exact wpAny_throw hb
theorem rY {I:aZ} {k:Nat} {Φ:eO} {N:aq} {ae:AE} {σ:List O} {env:Env} {id:Str} {pos:Pos} {v:Value} (OK:cN hb prog w I k Φ) (h:(b9 Φ N id).f ae σ=some (.val v)) (hkd:(match dy N id with
  | some (_,.globalImplicit)=>true
  | _=>false)=true) (X:ao I N env ae hid ρ s.heap) (H:Sh hb prog w I hid ρ σ s.heap):wpAny (model prog w) A (eval (.Name id pos) env) (λ u s₁=>u=v∧s₁=s) E s:=by
 unfold b9 at h;refine ab (fW h) λ hd0 h=>?_;refine wpAny_Name ?_ (Bool.or_eq_false_iff.mp hd0).1;have hk:env.kindOf id=N.lookup id:=by unfold Env.kindOf; rw [X.names]
 split at hkd
 ·rename_i i hp;rw [hp] at h;refine ak (OK.glob id _ (show Φ.glob id=some (.val v) from h)) λ val mg e hg hv=>?_;cases e;have hg':s.heap.Ns env.globals mg:=by rw [X.gl]; exact hg.keeps H.base
  rw [cX X.kind (hk.trans (dz hp))];rcases hv with hv | ⟨mb,h1,h2,h3⟩
  ·exact loadGlobal_global hg' hv ⟨rfl,rfl⟩
  ·exact loadGlobal_builtin hg' h1 (by rw [X.bu]; exact h2.keeps H.base) h3 ⟨rfl,rfl⟩
 ·exact aT hkd
noncomputable def jZ (hid:List Addr) (h:Heap) (outer:List Env):Prop:=∀ e∈outer,e.scope.kind≠.module∧∃ L o,e.frame=some L∧L∈hid∧h.get? L=some o∧∀ vs,o.data≠.fields vs
theorem jZ.fun {outer:List Env} {h base:Heap} (F:jZ hid h outer) (hb:∀ e∈outer,∀ L,e.frame=some L->base.get? L=none):h.FunFrames base outer:=by
 induction outer with
 | nil=>trivial
 | cons e r ih =>
  obtain ⟨h1,L,o,h2,h3,h4,h5⟩:=F e (List.mem_cons_self ..);exact ⟨h1,⟨L,o,h2,hb e (List.mem_cons_self ..) L h2,h4,h5⟩,ih (λ e m=>F e (List.mem_cons_of_mem _ m)) λ e m=>hb e (List.mem_cons_of_mem _ m)⟩
theorem zR {outer:List Env} {xa:Addr} {Q:Option Value->Shared->Prop} (G:cz w hb) (LI:L.length≤3000) (hfr:A.frames=some outer) (F:jZ hid s.heap outer) (R:aC A 60) (H:Sh hb prog w (IT L 0 0) hid ρ done s.heap)
  (Vx:VR (IT L 0 0) (ay hid ρ s.heap) ρ (.inst 981 0) (.ref xa))
  (q:∀ h' tk gs,(∀ b o,b∉outer.filterMap (·.frame)->b∉ρ->s.heap.get? b=some o->h'.get? b=some o)->(∀ b o,b∈outer.filterMap (·.frame)->s.heap.get? b=some o->∃ sl,h'.get? b=some { o with slots:=sl })->(AllBare s.gens->AllBare gs)->Q none { s with heap:=h',toks:=tk,gens:=gs }) :
  wpAny (model prog w) A (pyNext (.ref xa)) Q E s:=by
 have PS:=d5 (prog:=prog) (I:=IT L 0 0) (cl:=cs []) G (λ k h=>(h rfl).elim) LI;have OK:=ce PS 7;have EV:=bl PS.GO OK 15;have SX0:=aY PS.GO OK (pW w.params []).W (pW w.params []).D;have Rl:∀ env,aC (A.deeper env) (bD 20 7):=λ env=>(R.low (show bD 20 7+1≤60 by unfold bD; simp [*])).deeper env
 cases id Vx with
 | inst g hr =>
 refine aj ((H.off _ (List.mem_of_getElem? hr)).2.2) λ od hod=>?_;refine pN (K:=am w.params) (C:=981) (f:=978) (G.X.keeps H.base) (od:=some od) ⟨g.1,rfl,rfl,hod⟩ (by kernel_rfl) (by kernel_rfl) ?_
 refine wpAny_call (pM (E9 (IT L 0 0) G.X) G.B.nl (Cf w.params) (by have:=R.d; exact Nat.lt_of_le_of_lt (Nat.le_add_right _ _) (by assumption)) H (.cons Vx .nil) λ h₁ tk env el ef ek en eh hk H1 Y1=>?_)
 rw [Cb];refine wpAny_execs_cons ?_;refine SX0 _ _ _ _ _ (Ie w.params) _ _ _ _ _ _ _ (Rl env) Y1 H1 (bC.next rfl H1 λ h2 tk2 gs2 x2 H2 Y2=>?_);refine wpAny_execs_cons ?_;refine kQ (Ce w.params) λ np rp pos hs1=>?_;rw [hs1];refine wpAny_If (EV.2 _ _ _ _ _ (JL w.params) _ { s with heap:=h2,toks:=tk2,gens:=gs2 } _ _ _ _ _ (Rl env) Y2 H2 (df.same rfl H2 λ h3 tk3 gs3 x3 H3=>?_))
 have Y3:=Y2.ext H2 x3.toExt;show wpAny _ _ (execs [_] env) _ _ _;refine wpAny_execs_cons ?_;refine owsi_raiseC R.hh (rY OK (Ig w.params) (Fd w.params) Y3 H3) λ h4 e hm=>?_;have hF0:jZ hid h₁ outer:=λ e m=>by
  obtain ⟨f1,L',o,f2,f3,f4,f5⟩:=F e m;exact ⟨f1,L',o,f2,f3,hk _ _ f4,f5⟩
 have k13:∀ b o,b≠env.locals->b∉ρ->h₁.get? b=some o->h3.get? b=some o:=λ b o n1 n2 e=>x3.toExt.keep b o (x2.toExt.keep b o e n2 (by simpa using n1)) n2 (by simp)
 have hF3:∀ e∈outer,e.scope.kind≠.module∧∃ L o,e.frame=some L∧L∈hid∧h4.get? L=some o∧∀ vs,o.data≠.fields vs:=λ e m=>by
  obtain ⟨f1,L',o,f2,f3,f4,f5⟩:=hF0 e m;refine ⟨f1,L',o,f2,f3,hm.keeps _ _ (k13 _ _ (λ q=>eh (q▸f3)) (λ q=>(H.off _ q).2.1 f3) f4),f5⟩
 refine ag Y3.loc λ m3 n3 _=>?_;refine dK n3 λ oL esL epL hoL hdL _=>?_; clear n3;have hE:∀ e∈env::outer,e.scope.kind≠.module∧∃ L o,e.frame=some L∧L∈(env.locals::hid)∧h4.get? L=some o∧∀ vs,o.data≠.fields vs:=λ e m=>by
  rcases List.mem_cons.mp m with rfl | m
  ·exact ⟨by rw [ek]; decide,_,oL,ef.trans (congrArg some el.symm),List.mem_cons_self ..,hm.keeps _ _ hoL,λ vs q=>by rw [hdL] at q; cases q⟩
  ·obtain ⟨f1,L',o,f2,f3,f4⟩:=hF3 e m;exact ⟨f1,L',o,f2,List.mem_cons_of_mem _ f3,f4⟩
 refine kP hm.there λ t ht htn _=>?_;have hfr':(A.deeper env).frames=some (env::outer):=by
  show (A.frames.map (env::·))=_;rw [hfr]; rfl
 have hbase:∀ e∈env::outer,∀ L,e.frame=some L->(hideAll h3 ((env::outer).filterMap (·.frame))).get? L=none:=λ e m L' f=>hideAll_none _ (List.mem_filterMap.mpr ⟨e,m,f⟩);refine wpAny_leaving_firstW (base:=hideAll h3 ((env::outer).filterMap (·.frame))) hfr' (jZ.fun (hid:=env.locals::hid) hE hbase) (ef.trans (congrArg some el.symm)) ht (λ b o e=>hm.keeps _ _ (of_hideAll _ e)) ?_ rfl rfl rfl λ h5 hl=>?_
 ·cases q:(hideAll h3 ((env::outer).filterMap (·.frame))).get? e with
  | none=>rfl
  | some o=>have:=of_hideAll _ q; rw [hm.new] at this; exact ac this
 refine eQ hl λ l1 l2 l3 l4=>?_; clear hl;have hT:∃ o,h5.get? e=some o∧o.cls=.type "StopIteration" := by
  refine GX l3 λ oe vs T oT ts f1 f2 _=>?_; clear l3;exact ⟨oe,f1,f2.1⟩
 unfold OwitStop;refine wpAny_isInstance (T := "StopIteration") (b:=true) hT owsi_facts.sub ?_;show (if true=true then _ else _)
 rw [if_pos rfl];have hnf:∀ b,b∉outer.filterMap (·.frame)->b≠env.locals->b∉(env::outer).filterMap (·.frame):=λ b n1 n2 m=>by
  rw [List.filterMap_cons,ef] at m;rcases List.mem_cons.mp m with m | m
  ·exact n2 (m.trans el.symm)
  ·exact n1 m
 have hnl:∀ b o,s.heap.get? b=some o->b≠env.locals:=λ b o e q=>by rw [q,en] at e; exact ac e
 have k03:∀ b o,s.heap.get? b=some o->b∉ρ->h3.get? b=some o:=λ b o e n=>k13 b o (hnl b o e) n (hk b o e);refine q h5 _ gs3 (λ b o n1 n2 e=>?_) (λ b o m e=>?_) λ g=>x3.gb (x2.gb g)
 ·exact l1 b o (hideAll_get _ (k03 b o e n2) (hnf b n1 (hnl b o e)))
 ·refine ag (List.mem_filterMap.mp m) λ ev m1 m2=>?_;obtain ⟨f1,L',o',f2,f3,f4,f5⟩:=F ev m1;rw [m2] at f2;induction f2 using sI;rw [e] at f4;induction f4 using sI;exact l4 b o (hm.keeps _ _ (k03 b o e λ q=>(H.off _ q).2.1 f3)) f5
end
inductive pP:List Value->List Nat->Prop
 | nil:pP [] []
 | cons {c:Nat} (t:Tok) {r:List Value} {l:List Nat}:pP r l->pP (.str ⟨#[c]⟩ t::r) (c::l)
theorem pP.snoc {c:Nat} (t:Tok):∀ {r:List Value} {l:List Nat},pP r l->pP (r++[.str ⟨#[c]⟩ t]) (l++[c]):=by
 intro r l h;induction h with
 | nil=>exact .cons t .nil
 | cons u _ ih=>exact .cons u ih
theorem pP.len:∀ {r:List Value} {l:List Nat},pP r l->r.length=l.length:=by
 intro r l h;induction h with
 | nil=>rfl
 | cons u _ ih=>rw [List.length_cons,List.length_cons,ih]
theorem rZ (c:Nat) (ok:fr c=true):∃ d r,aN c=d::r:=by
 rcases eG ok with ⟨rfl,e⟩ | ⟨m,e⟩ | ⟨m,e⟩ | ⟨m,e⟩<;>exact ⟨_,_,e⟩
theorem Cg (c:Nat) (r:List Nat) (ok:fr c=true):∃ d t,jn (c::r)=d::t:=by
 refine bE (rZ c ok) λ d t e=>?_;induction r using List.casesOn with
 | nil=>exact ⟨d,t,e⟩
 | cons a r=>exact ⟨d,t++32::jn (a::r),by show aN c++_=_; rw [e]; rfl⟩
section
variable {hb:Heap} {prog:Program} {w:World} {L:Str} {hid ρ:List Addr} {A:Around} {E:Value->Shared->Prop} {xa S:Addr} {outer:List Env} {res:Value}
noncomputable abbrev ft (acc:Array Value) (n:Nat):Obj:={ cls:=.type "list",dict:=none,data:=.seq acc n,slots:=#[] }
structure Rd (outer:List Env) (ρ:List Addr) (S:Addr) (h:Heap) (g:Array GenState) (h':Heap) (g':Array GenState):Prop where
 keep:∀ b o,b∉outer.filterMap (·.frame)->b∉ρ->b≠S->h.get? b=some o->h'.get? b=some o
 slots:∀ b o,b∈outer.filterMap (·.frame)->h.get? b=some o->∃ sl,h'.get? b=some { o with slots:=sl }
 gb:AllBare g->AllBare g'
theorem Rd.after {h h1 h':Heap} {g g1 g':Array GenState} (hf:∀ b∈outer.filterMap (·.frame),b∉ρ∧b≠S) (k:∀ b o,b∉ρ->b≠S->h.get? b=some o->h1.get? b=some o) (kg:AllBare g->AllBare g1) (x:Rd outer ρ S h1 g1 h' g'):Rd outer ρ S h g h' g' :=
 ⟨λ b o n1 n2 n3 e=>x.keep b o n1 n2 n3 (k b o n2 n3 e),λ b o m e=>x.slots b o m (k b o (hf b m).1 (hf b m).2 e),λ q=>x.gb (kg q)⟩
theorem r5 (G:cz w hb) (LI:L.length≤3000) (hfr:A.frames=some outer) (R:aC A 61) (hS:S∈hid) (hSf:S∉outer.filterMap (·.frame)):∀ (rest:List Nat) (b:Nat) (dn:List Nat) (acc:Array Value) (n:Nat) (s:Shared) (R':Result->Shared->Prop),(∀ c∈rest,fr c=true) ->
  (rest=[]->Sh hb prog w (IT L 0 0) hid ρ done s.heap)->(rest≠[]->L.cps.toList.drop b=jn rest∧Sh hb prog w (IT L 0 b) hid ρ Cc s.heap)->jZ hid s.heap outer->s.heap.get? S=some (ft acc n)->pP acc.toList dn->(dn++rest).length≤1000 ->
  VR (IT L 0 0) (ay hid ρ s.heap) ρ (.inst 981 0) (.ref xa) ->
  (∀ h' tk gs acc' n',Rd outer ρ S s.heap s.gens h' gs->h'.get? S=some (ft acc' n')->pP acc'.toList (dn++rest)->R' (.ok (.ret res)) { s with heap:=h',toks:=tk,gens:=gs }) ->
  codeAny (model prog w) A (.builtin "list.extend.loop" ⟨[.ref S,.ref xa,res],[]⟩) R' s:=by
 intro rest;induction rest with
 | nil =>
  intro b dn acc n s R' ok h0 _ F hl hg hz Vx q;refine codeAny_builtin PySem.F.entry_extend_loop ?_;rw [Around.under_plainId PySem.F.plain_extend_loop _];show wpAny _ A.in1 (pyNext (.ref xa) >>= _) _ _ s;refine wpAny_bind (zR (A:=A.in1) G LI hfr F R.in1 (h0 rfl) Vx λ h' tk gs k1 k2 kg=>wpAny_pure ?_);have hSr:S∉ρ:=λ m=>((h0 rfl).off S m).2.1 hS;exact q h' tk gs acc n ⟨λ b o n1 n2 _ e=>k1 b o n1 n2 e,k2,kg⟩ (k1 S _ hSf hSr hl) (by rw [List.append_nil]; exact hg)
 | cons c rest ih =>
  intro b dn acc n s R' ok h0 h1 F hl hg hz Vx q;refine ab (h1 (by simp)) λ hL H=>?_
  have hSr:S∉ρ:=λ m=>(H.off S m).2.1 hS;have hfn:∀ b∈outer.filterMap (·.frame),b∉ρ∧b≠S:=λ b m=>⟨λ m2=>by
   refine ag (List.mem_filterMap.mp m) λ ev m1 m3=>?_;obtain ⟨_,L',o',f2,f3,_⟩:=F ev m1;rw [m3] at f2; induction f2 using sI;exact (H.off b m2).2.1 f3,λ q=>hSf (q▸m)⟩
  have okc:=ok c (List.mem_cons_self ..);refine codeAny_builtin PySem.F.entry_extend_loop ?_;rw [Around.under_plainId PySem.F.plain_extend_loop _];show wpAny _ A.in1 (pyNext (.ref xa) >>= _) _ _ s;cases id Vx with
  | inst g hr =>
  refine aj ((H.off _ (List.mem_of_getElem? hr)).2.2) λ od hod=>?_;refine wpAny_bind (pN (K:=am w.params) (C:=981) (f:=978) (od:=some od) (G.X.keeps H.base) ⟨g.1,rfl,rfl,hod⟩ (by kernel_rfl) (by kernel_rfl) ?_)
  have step:∀ (h':Heap) (tk:Nat) (gs:Array GenState) (t:Tok) (b':Nat),aI (IT L 0 0) [] ρ ρ s.heap s.gens h' gs->(rest=[]->Sh hb prog w (IT L 0 0) hid ρ done h')->(rest≠[]->L.cps.toList.drop b'=jn rest∧Sh hb prog w (IT L 0 b') hid ρ Cc h') ->
    wpAny (model prog w) A.in1 (Builtin.List.listUpdate (.ref S) (·.push (.str ⟨#[c]⟩ t)) >>= λ _=>again (.builtin "list.extend.loop" ⟨[.ref S,.ref xa,res],[]⟩)) (λ fin s'=>match fin with | .done f=>R' (.ok f) s' | .again c'=>c'.quiet=true∧codeAny (model prog w) A c' R' s') (λ e s'=>R' (.error e) s') { s with heap:=h',toks:=tk,gens:=gs }:=by
   intro h' tk gs t b' x1 g0 g1;have hl':h'.get? S=some (ft acc n):=x1.toExt.keep S _ hl hSr (by simp)
   unfold Builtin.List.listUpdate;have hacc:acc.size=dn.length:=by rw [<-Array.length_toList]; exact hg.len
   rw [List.length_append,List.length_cons] at hz;refine wpAny_bind (wpAny_updateSeq hl' rfl (wpAny_pure ⟨plainId_quiet PySem.F.plain_extend_loop _,?_⟩) (by unfold sizeLine; lia) (by show (acc.push _).size≤sizeLine+1; rw [Array.size_push]; unfold sizeLine; lia))
   have hS2:=Heap.get?_update_self (Obj.mapSeq (·.push (Value.str ⟨#[c]⟩ t))) hl' rfl;have ko:∀ b o,b≠S->h'.get? b=some o->(h'.update S (Obj.mapSeq (·.push (Value.str ⟨#[c]⟩ t)))).get? b=some o:=λ b o n e=>(Heap.get?_update_other _ _ (Ne.symm n)).trans e;have mv:∀ {I:aZ} {σ:List O},Sh hb prog w I hid ρ σ h'->Sh hb prog w I hid ρ σ (h'.update S (Obj.mapSeq (·.push (Value.str ⟨#[c]⟩ t))))∧Ext [S] ρ ρ h' (h'.update S (Obj.mapSeq (·.push (Value.str ⟨#[c]⟩ t)))):=λ H'=>by
    refine ab (H'.move (mv:=[S]) (λ a m=>by rw [List.mem_singleton.mp m]; exact hS) (λ a m=>by rw [List.mem_singleton.mp m]; exact ⟨_,hS2⟩) (λ b o e n=>ko b o (by simpa using n) e)) λ y1 y2=>?_
    exact ⟨y2,y1⟩
   have kk:∀ b o,b∉ρ->b≠S->s.heap.get? b=some o->(h'.update S (Obj.mapSeq (·.push (Value.str ⟨#[c]⟩ t)))).get? b=some o:=λ b o n1 n2 e=>ko b o n2 (x1.toExt.keep b o e n1 (by simp))
   refine ih b' (dn++[c]) (acc.push (.str ⟨#[c]⟩ t)) _ { s with heap:=h'.update S (Obj.mapSeq (·.push (Value.str ⟨#[c]⟩ t))),toks:=tk,gens:=gs } R' (λ a m=>ok a (List.mem_cons_of_mem _ m)) (λ e=>(mv (g0 e)).1) (λ e=>⟨(g1 e).1,(mv (g1 e).2).1⟩) (λ ev m=>?_) hS2 ?_ ?_ ?_ λ h2 tk2 gs2 acc2 n2 y1 y2 y3=>?_
   ·obtain ⟨f1,L',o',f2,f3,f4,f5⟩:=F ev m;have m':L'∈outer.filterMap (·.frame):=List.mem_filterMap.mpr ⟨ev,m,f2⟩;exact ⟨f1,L',o',f2,f3,kk _ _ (hfn L' m').1 (hfn L' m').2 f4,f5⟩
   ·rw [Array.toList_push]; exact hg.snoc t
   ·rw [List.append_assoc]; simp only [List.length_append,List.length_cons,List.length_nil]; lia
   ·by_cases hr0:rest=[]
    ·exact ((Vx.ext x1.toExt).tr (mv (g0 hr0)).2.pre ((mv (g0 hr0)).2.stb (λ a m=>by rw [List.mem_singleton.mp m]; exact hS)))
    ·exact ((Vx.ext x1.toExt).tr (mv (g1 hr0).2).2.pre ((mv (g1 hr0).2).2.stb (λ a m=>by rw [List.mem_singleton.mp m]; exact hS)))
   ·rw [List.append_assoc] at y3;exact q h2 tk2 gs2 acc2 n2 (Rd.after hfn kk x1.gb y1) y2 y3
  have Vx0:VR (IT L 0 b) (ay hid ρ s.heap) ρ (.inst 981 0) (.ref xa):=VR.re (I:=IT L 0 0) (J:=IT L 0 b) rfl rfl Vx;induction rest using List.casesOn with
  | nil =>
   refine vS G LI okc hL R.in1 H Vx0 λ h' tk gs t x1 H1=>?_;exact step h' tk gs t 0 x1 (λ _=>H1) λ h=>(h rfl).elim
  | cons d rest =>
   refine bE (Cg d rest (ok d (by exact ni))) λ d0 t0 e0=>?_
   have hL':L.cps.toList.drop b=aN c++32::d0::t0:=by rw [<-e0]; exact hL
   refine Cd G LI okc hL' R.in1 H Vx0 λ h' tk gs t x1 H1=>?_;refine step h' tk gs t (b+((aN c).length+1)) x1 (λ h=>by cases h) λ _=>⟨?_,H1⟩
   rw [<-List.drop_drop,hL',e0];simp
end
section
variable {hb:Heap} {prog:Program} {w:World} {L:Str} {hid ρ:List Addr} {A:Around} {s:Shared} {E:Value->Shared->Prop} {xa S x C f:Addr} {outer:List Env} {K:Frag} {M:Model} {ox:Obj} {od:Option Obj}
theorem zS {Q:Value->Shared->Prop} (X:K.In s.heap) (I:InstAt s.heap x ox C od) (hs:findIn K (.ref C) "__iter__" = some (some (.ref f))) (hf:typeIn K (.ref f)=some (.type "function"))
  (h:wpAny M A (call (.ref f) [.ref x]) (OwitIt M A Q E) E s):wpAny M A (pyIter (.ref x)) Q E s:=by
 have fin:wpAny M A (call (.ref f) [.ref x] >>= λ v=>pure (some v)) (λ r s'=>∃ v,r=some v∧OwitIt M A Q E v s') E s :=
  wpAny_bind (wpAny_mono h (λ v s' h'=>wpAny_pure ⟨v,rfl,h'⟩) λ _ _ z=>z)
 have wx:∀ refuse:Sem Value,wpAny M A (callSpecialIfBoundUnlessNone? (.ref x) "__iter__" refuse) (λ r s'=>∃ v,r=some v∧OwitIt M A Q E v s') E s:=by
  intro refuse;delta callSpecialIfBoundUnlessNone? bindSpecialIfBound?;dsimp only;refine wpAny_holding (wpAny_bind (wpAny_bind (wpAny_bind (I.type.here ((looks_findIn X hs).here ?_)))));refine wpAny_bind (wpAny_askSetting (wpAny_ite ?_));have fin2:wpAny M A (if (Value.ref f == Value.none)=true then (refuse >>= λ v=>pure (some v)) else (call (.ref f) [.ref x] >>= λ v=>pure (some v))) (λ r s'=>∃ v,r=some v∧OwitIt M A Q E v s') E s:=by
   rw [if_neg (show ¬ ((Value.ref f == Value.none)=true) from Bool.false_ne_true)];exact fin
  split
  ·exact wpAny_bind ((bind_fn X _ hf).here (wpAny_pure (by exact fin2)))
  ·exact wpAny_tryCatch (wpAny_bind ((bind_fn X _ hf).here (wpAny_pure (by exact fin2))))
 unfold pyIter;refine wpAny_bind (wpAny_bind (I.type.here ((looks_findIn X hs).here ?_)));show wpAny M A (callSpecialIfBoundUnlessNone? (.ref x) "__iter__" _ >>= _) Q E s;refine wpAny_bind (wpAny_mono (wx _) (λ r s' hr=>?_) λ _ _ z=>z);refine ag hr ?_; clear hr; rintro v rfl hv;refine wpAny_bind (wpAny_mono hv (λ r s₂ hr=>?_) λ _ _ z=>z);induction r using Option.casesOn with
 | none=>exact hr.elim
 | some g=>exact wpAny_pure hr
theorem zT {cs:List Nat} {Q:Value->Shared->Prop} (G:cz w hb) (LI:L.length≤3000) (hfr:A.frames=some outer) (F:jZ hid s.heap outer) (R:aC A 64) (ok:∀ c∈cs,fr c=true) (hne:cs≠[]) (hL:L.cps.toList=jn cs) (hlen:cs.length≤1000)
  (H:Sh hb prog w (IT L 0 0) hid ρ Cc s.heap) (Vx:VR (IT L 0 0) (ay hid ρ s.heap) ρ (.inst 981 0) (.ref xa))
  (q:∀ h' tk gs acc' n' S,(∀ b o,b∉outer.filterMap (·.frame)->b∉ρ->s.heap.get? b=some o->h'.get? b=some o)->(∀ b o,b∈outer.filterMap (·.frame)->s.heap.get? b=some o->∃ sl,h'.get? b=some { o with slots:=sl })->(AllBare s.gens->AllBare gs) ->
   s.heap.get? S=none->h'.get? S=some (ft acc' n')->pP acc'.toList cs->Q (.ref S) { s with heap:=h',toks:=tk,gens:=gs }):wpAny (model prog w) A (call (.type "list") [.ref xa]) Q E s:=by
 have PS:=d5 (prog:=prog) (I:=IT L 0 0) (cl:=Mine.cs []) G (λ k h=>(h rfl).elim) LI;have SX0:=aY PS.GO (ce PS 7) (pW w.params []).W (pW w.params []).D;have hnS:=bh s.heap;refine callType_codes (Q₁:=λ obj s₁=>obj=.ref s.heap.objs.size∧s₁={ s with heap:=s.heap.push { cls:=.type "list",data:=.seq #[] } }) PySem.F.called_list (PySem.F.typeCall_list_1 _) PySem.F.entry_list_init
  (code_list_new _ ⟨rfl,rfl⟩) λ obj s₁ h₁=>?_
 refine ab h₁ ?_; clear h₁; rintro rfl rfl;have hS:(s.heap.push { cls:=.type "list",data:=.seq #[] }).get? s.heap.objs.size=some { cls:=.type "list",data:=.seq #[] }:=Heap.get?_push_size _ rfl;refine ab (H.hide (b:={ cls:=.type "list",data:=.seq #[] }) rfl) λ H1 st1=>?_;have kp1:∀ b o,s.heap.get? b=some o->(s.heap.push { cls:=.type "list",data:=.seq #[] }).get? b=some o:=λ b o e=>Heap.get?_push_of_some _ e;refine ⟨⟨_,hS,rfl⟩,PySem.F.args_list_init_2 _ _,?_⟩;have hnl:s.heap.objs.size∉hid:=H.nextH;have hSf:s.heap.objs.size∉outer.filterMap (·.frame):=λ m=>by
  refine ag (List.mem_filterMap.mp m) λ ev m1 m3=>?_;obtain ⟨_,L',o',f2,f3,_⟩:=F ev m1;rw [m3] at f2; induction f2 using sI;exact hnl f3
 have hSr:s.heap.objs.size∉ρ:=H.nextR;have Vx1:VR (IT L 0 0) (ay (s.heap.objs.size::hid) ρ (s.heap.push { cls:=.type "list",data:=.seq #[] })) ρ (.inst 981 0) (.ref xa):=Vx.tr ⟨[],by exact dS⟩ st1
 have F1:jZ (s.heap.objs.size::hid) (s.heap.push { cls:=.type "list",data:=.seq #[] }) outer:=λ ev m=>by
  obtain ⟨f1,L',o',f2,f3,f4,f5⟩:=F ev m;exact ⟨f1,L',o',f2,List.mem_cons_of_mem _ f3,kp1 _ _ f4,f5⟩
 have q1:∀ h' tk gs acc' n',Rd outer ρ s.heap.objs.size (s.heap.push { cls:=.type "list",data:=.seq #[] }) s.gens h' gs->h'.get? s.heap.objs.size=some (ft acc' n')->pP acc'.toList cs->Q (.ref s.heap.objs.size) { s with heap:=h',toks:=tk,gens:=gs }:=λ h' tk gs acc' n' y1 y2 y3 =>
  q h' tk gs acc' n' _ (λ b o n1 n2 e=>y1.keep b o n1 n2 (bd e) (kp1 _ _ e)) (λ b o m e=>y1.slots b o m (kp1 _ _ e)) y1.gb hnS y2 y3
 clear q;generalize s.heap.push { cls:=.type "list",data:=.seq #[] }=h1' at *
 generalize s.heap.objs.size=S at *
 show wpAny _ A.in1.in1 (do let old <-Builtin.List.listItems (.ref S); Builtin.List.listUpdate (.ref S) (λ _=>#[]); letGo old.toList.reverse; Builtin.List.listExtendWith (.ref S) (.ref xa) .none) _ _ _
 refine wpAny_bind ?_;unfold Builtin.List.listItems;refine wpAny_bind (wpAny_seqItems hS rfl (wpAny_pure ?_));show wpAny _ A.in1.in1 (updateSeq S (λ _=>#[]) >>= λ _=>letGo (#[]:Array Value).toList.reverse >>= λ _=>Builtin.List.listExtendWith (.ref S) (.ref xa) .none) _ _ _;refine wpAny_bind (wpAny_updateSeq hS rfl ?_);have hS₂:=Heap.get?_update_self (Obj.mapSeq (λ _=>(#[]:Array Value))) hS rfl;have mvS:∀ {h h':Heap} {I:aZ} {σ:List O} {g:Obj},Sh hb prog w I (S::hid) ρ σ h->h'.get? S=some g->(∀ b o,b≠S->h.get? b=some o->h'.get? b=some o)->Ext [S] ρ ρ h h'∧Sh hb prog w I (S::hid) ρ σ h':=λ H hg k =>
  H.move (mv:=[S]) (λ a m=>by rw [List.mem_singleton.mp m]; exact List.mem_cons_self ..) (λ a m=>by rw [List.mem_singleton.mp m]; exact ⟨_,hg⟩) (λ b o e n=>k b o (by simpa using n) e)
 have oS:∀ {h:Heap} (f:Obj->Obj) b o,b≠S->h.get? b=some o->(h.update S f).get? b=some o:=λ f b o n e=>(Heap.get?_update_other _ _ (Ne.symm n)).trans e;refine ab (mvS H1 hS₂ (oS _)) λ x2 H2=>?_;have sub1:∀ a∈[S],a∈S::hid:=λ a m=>by rw [List.mem_singleton.mp m]; exact List.mem_cons_self ..
 have Vx2:=Vx1.tr x2.pre (x2.stb sub1);have k2:∀ b o,b≠S->h1'.get? b=some o->(h1'.update S (Obj.mapSeq (λ _=>(#[]:Array Value)))).get? b=some o:=oS _;generalize h1'.update S (Obj.mapSeq (λ _=>(#[]:Array Value)))=h2 at *
 refine wpAny_bind (wpAny_letGo ?_);cases id Vx2 with
 | inst g hr =>
 refine aj ((H2.off _ (List.mem_of_getElem? hr)).2.2) λ od hod=>?_;have X2:=G.X.keeps H2.base;have IA:InstAt h2 xa _ 981 (some od):=⟨g.1,rfl,rfl,hod⟩;have hSx:S≠xa:=λ e=>g.2.1 (e▸List.mem_cons_self ..);unfold Builtin.List.listExtendWith;refine wpAny_bind (IA.type.here ?_);have h1:Builtin.List.listSameRef (.ref S) (.ref xa)=false:=by simp [Builtin.List.listSameRef,hSx]
 rw [if_neg (by rw [h1]; decide)]
 refine wpAny_bind (zS (K:=am w.params) (C:=981) (f:=971) (od:=some od) X2 IA (by kernel_rfl) (by kernel_rfl) ?_)
 refine (cr (Ib (IT L 0 0) G.X) G.B.nl SX0 (Ky w.params (.pos 0 [] false) sp)).op A.in1.in1 { s with heap:=h2 } (S::hid) ρ [.ref 971,.ref xa] _ _ ((show aC A.in1.in1 62 from R.in1.in1).low (by unfold bD; simp [*])) H2 (.cons (.val _) (.cons Vx2 .nil)) (aA.same rfl H2 λ h3 tk3 gs3 y x3 H3 V3=>?_)
 cases id V3 with
 | inst g3 hr3 =>
 rename_i xb dx3;refine aj ((H3.off _ (List.mem_of_getElem? hr3)).2.2) λ od3 hod3=>?_;have X3:=G.X.keeps H3.base;have IA3:InstAt h3 xb _ 981 (some od3):=⟨g3.1,rfl,rfl,hod3⟩;have hSn:S∉ρ:=hSr;have hS3:h3.get? S=some (ft #[] 0):=x3.toExt.keep S _ hS₂ hSn (by simp)
 unfold OwitIt;refine wpAny_bind (IA3.type.here ((looks_findIn X3 (show findIn (am w.params) (.ref 981) "__next__" = some (some (.ref 978)) by kernel_rfl)).here ?_))
 refine wpAny_bind (wpAny_holding ?_);unfold Builtin.List.listLengthHint;have Vx3:=Vx2.ext x3.toExt;cases id Vx3 with
 | inst g4 hr4 =>
 rename_i dx4;refine aj ((H3.off _ (List.mem_of_getElem? hr4)).2.2) λ od4 hod4=>?_;have IA4:InstAt h3 xa _ 981 (some od4):=⟨g4.1,rfl,rfl,hod4⟩;refine wpAny_bind ?_;unfold specialOf;refine wpAny_bind (IA4.type.here ((looks_findIn X3 (show findIn (am w.params) (.ref 981) "__len__" = some none by kernel_rfl)).here ?_))
 refine wpAny_bind (wpAny_bind (IA4.type.here ((looks_findIn X3 (show findIn (am w.params) (.ref 981) "__length_hint__" = some none by kernel_rfl)).here ?_)))
 refine wpAny_pure ?_;show wpAny _ A.in1.in1 (rule "list.extend.makes-room" >>= λ _=>Builtin.List.listTouch (.ref S) >>= λ _ =>
  again (.builtin "list.extend.loop" ⟨[.ref S,.ref xb,.none],[]⟩)) _ _ _
 refine wpAny_bind (wpAny_rule ?_);refine wpAny_bind ?_;show wpAny _ A.in1.in1 (updateSeq S (·.push .none) >>= λ _=>updateSeq S (·.pop)) _ _ _;refine wpAny_bind (wpAny_updateSeq hS3 rfl ?_);have hS4:=Heap.get?_update_self (Obj.mapSeq (·.push Value.none)) hS3 rfl;refine wpAny_updateSeq (hz:=by seq_fits) hS4 rfl ?_
 have hS5:=Heap.get?_update_self (Obj.mapSeq (·.pop)) hS4 rfl;have oth:∀ b o,b≠S->h3.get? b=some o->((h3.update S (Obj.mapSeq (·.push Value.none))).update S (Obj.mapSeq (·.pop))).get? b=some o:=λ b o n e=>oS _ b o n (oS _ b o n e);refine ab (mvS H3 hS5 oth) λ x5 H5=>?_;have Vx5:=V3.tr x5.pre (x5.stb sub1);have hfS:∀ b∈outer.filterMap (·.frame),b≠S:=λ b m e=>hSf (e▸m);have hfr0:∀ b∈outer.filterMap (·.frame),b∈S::hid:=λ b m=>by
  refine ag (List.mem_filterMap.mp m) λ ev m1 m3=>?_;obtain ⟨_,L',o',f2,f3,_⟩:=F ev m1;rw [m3] at f2; induction f2 using sI;exact List.mem_cons_of_mem _ f3
 have hfρ:∀ b∈outer.filterMap (·.frame),b∉ρ∧b≠S:=λ b m=>⟨λ m2=>(H3.off b m2).2.1 (hfr0 b m),hfS b m⟩;have k15:∀ b o,b∉ρ->b≠S->h1'.get? b=some o->((h3.update S (Obj.mapSeq (·.push Value.none))).update S (Obj.mapSeq (·.pop))).get? b=some o:=λ b o n1 n2 e=>oth b o n2 (x3.toExt.keep b o (k2 b o n2 e) n1 (by simp))
 refine wpAny_pure ⟨plainId_quiet PySem.F.plain_extend_loop _,?_⟩;refine r5 (A:=A.in1) (ρ:=ρ) (hid:=S::hid) G LI hfr (R.in1.low (by exact Nat.le_of_ble_eq_true rfl)) (List.mem_cons_self ..) hSf cs 0 [] #[] _ { s with heap:=(h3.update S (Obj.mapSeq (·.push Value.none))).update S (Obj.mapSeq (·.pop)),toks:=tk3,gens:=gs3 } _ ok (λ h=>(hne h).elim) (λ _=>⟨hL,H5⟩) (λ ev m=>?_) hS5 .nil (by simpa using hlen) Vx5 λ h' tk gs acc' n' y1 y2 y3=>?_
 ·obtain ⟨f1,L',o',f2,f3,f4,f5⟩:=F1 ev m;have m':L'∈outer.filterMap (·.frame):=List.mem_filterMap.mpr ⟨ev,m,f2⟩;exact ⟨f1,L',o',f2,f3,k15 _ _ (hfρ L' m').1 (hfρ L' m').2 f4,f5⟩
 ·exact ⟨rfl,q1 h' tk gs acc' n' (Rd.after hfρ k15 x3.gb y1) y2 y3⟩
end
section
noncomputable abbrev j3 (P:Params):aq:=(aJ (am P) 993 []).names
noncomputable abbrev O7 (P:Params):eO:=hO (pW P []) 7
theorem Ii (P:Params):∃ p1 p2 p3 p4 p5 p6 p7,gf P 2=.Assign [.Name "lex" p1] (.Call (.Name "shlex" p2) [.Name "s" p3] [⟨some "posix",.Name "posix" p4,p5⟩] p6) p7:=⟨_,_,_,_,_,_,_,rfl⟩
theorem Ij (P:Params):∃ p1 p2 p3 p4,gf P 5=.Return (some (.Call (.Name "list" p1) [.Name "lex" p2] [] p3)) p4:=⟨_,_,_,_,rfl⟩
theorem Ch (P:Params):dU (aJ (am P) 993 [.bool false,.bool true]) [.lin]=some (bZ P none):=by kernel_rfl
theorem uE (P:Params):(aJ (am P) 993 [.bool false,.bool true]).body=(aJ (am P) 993 []).body∧(aJ (am P) 993 [.bool false,.bool true]).names=j3 P:=⟨by kernel_rfl,by kernel_rfl⟩
theorem r0 (P:Params):(SX (pW P []) (j3 P) (gf P 0)).f ⟨bZ P none,[],none⟩ []=some (.next,⟨bZ P none,[],none⟩,[]):=by kernel_rfl
theorem r1 (P:Params):(SX (pW P []) (j3 P) (gf P 1)).f ⟨bZ P none,[],none⟩ []=some (.next,⟨bZ P none,[],none⟩,[]):=by kernel_rfl
theorem Kz (P:Params):gT (qA (gf P 2))=false:=by kernel_rfl
theorem KA (P:Params):(jA (O7 P) (k8 (O7 P) 15) (j3 P) (G7 (gf P 2)) (qA (gf P 2))).f ⟨bZ P none,[],none⟩ pL (.inst 981 0)=some (⟨bZ P (some (.inst 981 0)),[],none⟩,pL):=by kernel_rfl
theorem KB (P:Params):(b9 (O7 P) (j3 P) "shlex").f ⟨bZ P none,[],none⟩ []=some (.val (.ref 981)):=by kernel_rfl
theorem KC (P:Params) (p:Pos):(tL (k8 (O7 P) 15) (j3 P) [.Name "s" p]).f ⟨bZ P none,[],none⟩ []=some ([.lin],[]):=by kernel_rfl
theorem KD (P:Params):(b9 (O7 P) (j3 P) "posix").f ⟨bZ P none,[],none⟩ []=some (.bool true):=by kernel_rfl
def DU:List O:=match cA (.int 0) sp with
 | .fld l::r=>.fld (jP l "commenters" (.str [.lit 35]))::r
 | l=>l
theorem r3 (P:Params):(SX (pW P []) (j3 P) (gf P 3)).f ⟨bZ P (some (.inst 981 0)),[],none⟩ pL=some (.next,⟨bZ P (some (.inst 981 0)),[],none⟩,DU):=by kernel_rfl
theorem r4 (P:Params):(SX (pW P []) (j3 P) (gf P 4)).f ⟨bZ P (some (.inst 981 0)),[],none⟩ DU=some (.next,⟨bZ P (some (.inst 981 0)),[],none⟩,cA (.int 0) sp):=by kernel_rfl
theorem KF (P:Params):(b9 (O7 P) (j3 P) "list").f ⟨bZ P (some (.inst 981 0)),[],none⟩ (cA (.int 0) sp)=some (.val (.type "list")):=by kernel_rfl
theorem KG (P:Params) (p:Pos):(tL (k8 (O7 P) 15) (j3 P) [.Name "lex" p]).f ⟨bZ P (some (.inst 981 0)),[],none⟩ (cA (.int 0) sp)=some ([.inst 981 0],cA (.int 0) sp):=by kernel_rfl
end
section
variable {P:Params} {hb:Heap}
theorem JM (I:aZ) (X:(am P).In hb):bK hb I 993 (aJ (am P) 993 [.bool false,.bool true]):=by
 refine vP I (fd:=dk P 993) X (by kernel_rfl) (by kernel_rfl) (by kernel_rfl) (by kernel_rfl) (by kernel_rfl) λ s xs hk l1 l2=>?_
 have e:(aJ (am P) 993 [.bool false,.bool true]).ps.length=3:=by kernel_rfl
 rw [e] at l1 l2;refine ⟨[.bool false,.bool true],λ S ρ=>.cons (.bool _) (.cons (.bool _) .nil),?_⟩;exact up3 xs l1 l2 (λ a=>λ M _ _ _ q=>(Looks.of_peek (M:=M) (X.keeps hk) (by kernel_rfl)).here q) (λ a b=>λ M _ _ _ q=>(Looks.of_peek (M:=M) (X.keeps hk) (by kernel_rfl)).here q) (λ a b c=>λ M _ _ _ q=>(Looks.of_peek (M:=M) (X.keeps hk) (by kernel_rfl)).here q)
end
section
variable {hb:Heap} {prog:Program} {w:World} {L:Str} {hid:List Addr} {A:Around} {s:Shared} {E:Value->Shared->Prop} {outer:List Env}
theorem r6 {cs:List Nat} {t:Tok} {RR:Result->Shared->Prop} (G:cz w hb) (LI:L.length≤3000) (hfr:A.frames=some outer) (F:jZ hid s.heap outer) (R:aC A 70) (ok:∀ c∈cs,fr c=true) (hne:cs≠[]) (hL:L.cps.toList=jn cs) (hlen:cs.length≤1000)
  (H:Sh hb prog w (IT L 0 0) hid [] [] s.heap)
  (q:∀ h' tk gs acc' n' S,(∀ b o,b∉outer.filterMap (·.frame)->s.heap.get? b=some o->h'.get? b=some o)->(∀ b o,b∈outer.filterMap (·.frame)->s.heap.get? b=some o->∃ sl,h'.get? b=some { o with slots:=sl })->(AllBare s.gens->AllBare gs) ->
   s.heap.get? S=none->h'.get? S=some (ft acc' n')->pP acc'.toList cs->RR (.ok (.ret (.ref S))) { s with heap:=h',toks:=tk,gens:=gs }):codeAny (model prog w) A (.call (.ref 993) ⟨[.str L t],[]⟩) RR s:=by
 have PS:=d5 (prog:=prog) (I:=IT L 0 0) (cl:=Mine.cs []) G (λ k h=>(h rfl).elim) LI;have OK:=ce PS 7;have EV:=bl PS.GO OK 15;have SX0:=aY PS.GO OK (pW w.params []).W (pW w.params []).D;refine pM (JM (IT L 0 0) G.X) G.B.nl (Ch w.params) (by have:=R.d; exact Nat.lt_of_le_of_lt (Nat.le_add_right _ _) (by assumption)) H (.cons (VR.lin (I:=IT L 0 0) t) .nil) λ h₁ tk env el ef ek en eh hk H1 Y1=>?_
 rw [(uE w.params).1,B9];rw [(uE w.params).2] at Y1;have Rl:aC (A.deeper env) (bD 20 7):=(R.low (show bD 20 7+1≤70 by unfold bD; simp [*])).deeper env
 refine wpAny_execs_cons (SX0 _ _ _ _ _ (r0 w.params) _ _ _ _ _ _ _ Rl Y1 H1 (bC.next rfl H1 λ h2 tk2 gs2 x2 H2 Y2=>?_));refine wpAny_execs_cons (SX0 _ _ _ _ _ (r1 w.params) _ { s with heap:=h2,toks:=tk2,gens:=gs2 } _ _ _ _ _ Rl Y2 H2 (bC.next rfl H2 λ h3 tk3 gs3 x3 H3 Y3=>?_))
 refine wpAny_execs_cons ?_;have R69:aC (A.deeper env) 69:=R.deeper env;refine GY (Ii w.params) λ p1 p2 p3 p4 p5 p6 p7 hs2=>?_;have rc:=Kz w.params;have ra:=KA w.params;rw [hs2] at rc ra ⊢;refine fb rc _ (wpAny_Call_Name_kw (bI (s:={ s with heap:=h3,toks:=tk3,gens:=gs3 }) OK (KB w.params) Y3 H3 (aA.same rfl H3 λ h4 tk4 gs4 v x4 H4 V4=>?_)))
 induction V4 using aK.casesOn;have Y4:=Y3.ext H3 x4.toExt;have es:=KC w.params p3;refine fN (pos:=p6) (args:=backTo p6 (starEach [.Name "s" p3] env)) (kws:=backToKw p6 (keywordEach [⟨some "posix",.Name "posix" p4,p5⟩] env)) rfl (evalArgs_kw rfl ?_);refine cG (s:={ s with heap:=h4,toks:=tk4,gens:=gs4 }) EV.1 Rl es Y4 H4 (nZ.same rfl H4 λ h5 tk5 gs5 xs x5 H5 V5=>?_)
 induction V5 using aD.casesOn with
 | cons Vl Vn =>
 induction Vn using bQ.casesOn;have Y5:=Y4.ext H4 x5.toExt;refine wpAny_evalAll_cons (wpAny_bind (bI (s:={ s with heap:=h5,toks:=tk5,gens:=gs5 }) OK (KD w.params) Y5 H5 (aA.same rfl H5 λ h6 tk6 gs6 y x6 H6 V6=>wpAny_bind (wpAny_standAt (wpAny_pure (wpAny_evalAll_nil ?_))))))
 have Y6:=Y5.ext H5 x6.toExt;refine ⟨?_,?_⟩
 ·refine ag (looks_keep (M:=model prog w) (K:=am w.params) (f:=.ref 981) (by kernel_rfl) (G.X.keeps H6.base)) λ kp _ Lk=>?_
  exact ⟨kp,Lk⟩
 refine rX (s:={ s with heap:=h6,toks:=tk6,gens:=gs6 }) G LI (R69.low (by exact Nat.le_of_ble_eq_true rfl)) H6 (Vl.ext x6.toExt) V6 λ ρ7 h7 tk7 gs7 z x7 H7 V7=>?_
 refine ez (s:={ s with heap:=h7,toks:=tk7,gens:=gs7 }) OK EV.1 Rl ra (Y6.ext H6 x7.toExt) H7 V7 (dT.same rfl H7 λ h8 tk8 gs8 x8 H8 Y8=>?_)
 refine wpAny_execs_cons (SX0 _ _ _ _ _ (r3 w.params) _ { s with heap:=h8,toks:=tk8,gens:=gs8 } _ _ _ _ _ Rl Y8 H8 (bC.next (by rfl) H8 λ h9 tk9 gs9 x9 H9 Y9=>?_))
 refine wpAny_execs_cons (SX0 _ _ _ _ _ (r4 w.params) _ { s with heap:=h9,toks:=tk9,gens:=gs9 } _ _ _ _ _ Rl Y9 H9 (bC.next (by rfl) H9 λ h10 tk10 gs10 x10 H10 Y10=>?_))
 refine wpAny_execs_cons ?_;refine tB (Ij w.params) λ t1 t2 t3 t4 hs5=>?_;rw [hs5];refine wpAny_Return_some (wpAny_Call_Name_kw (bI (s:={ s with heap:=h10,toks:=tk10,gens:=gs10 }) OK (KF w.params) Y10 H10 (aA.same rfl H10 λ h11 tk11 gs11 v x11 H11 V11=>?_)))
 induction V11 using aK.casesOn;have Y11:=Y10.ext H10 x11.toExt;have es:=KG w.params t2;show wpAny _ _ (callWith t3 (.type "list") [] (backTo t3 (starEach [.Name "lex" t2] env)) []) _ _ _;refine bq (bH rfl) (br rfl (cG (s:={ s with heap:=h11,toks:=tk11,gens:=gs11 }) EV.1 Rl es Y11 H11 (nZ.same rfl H11 λ h12 tk12 gs12 xs x12 H12 V12=>⟨⟨.machine,Looks.of_pure rfl⟩,?_⟩)))
 induction V12 using aD.casesOn with
 | cons Vl2 Vn =>
 induction Vn using bQ.casesOn;cases id Vl2 with
 | inst gx hx =>
 have Hb:Sh hb prog w (IT L 0 0) (env.locals::hid) ρ7 Cc h12:=mR H12 rfl λ S ρ x V=>by
  induction V using aH.casesOn with
  | int t=>exact VR.pos (I:=IT L 0 0) (off:=0) t (Nat.zero_le _) ⟨_,rfl⟩ λ h=>by exact aT h
 have k6:∀ b o,b≠env.locals->h₁.get? b=some o->h6.get? b=some o:=λ b o n e =>
  x6.toExt.keep b o (x5.toExt.keep b o (x4.toExt.keep b o (x3.toExt.keep b o (x2.toExt.keep b o e (by simp) (by simpa using n)) (by simp) (by simpa using n)) (by simp) (by simp)) (by simp) (by simp)) (by simp) (by simp)
 have k7:∀ b o,b≠env.locals->h₁.get? b=some o->b∉ρ7∧h12.get? b=some o:=λ b o n e=>by
  have e6:=k6 b o n e;have nr:b∉ρ7:=λ m=>by rw [x7.toExt.new b m (by simp)] at e6; exact ac e6
  exact ⟨nr,x12.toExt.keep b o (x11.toExt.keep b o (x10.toExt.keep b o (x9.toExt.keep b o (x8.toExt.keep b o (x7.toExt.keep b o e6 (by simp) (by simp)) nr (by simpa using n)) nr (by simpa using n)) nr (by simpa using n)) nr (by simp)) nr (by simp)⟩
 have hF:jZ (env.locals::hid) h12 (env::outer):=λ ev m=>by
  rcases List.mem_cons.mp m with rfl | m
  ·refine ag ((Y11.ext H11 x12.toExt).loc) λ m3 n3 _=>?_;refine dK n3 λ oL esL epL hoL hdL _=>?_; clear n3;exact ⟨by rw [ek]; decide,_,oL,ef.trans (congrArg some el.symm),List.mem_cons_self ..,hoL,λ vs q=>by rw [hdL] at q; cases q⟩
  ·obtain ⟨f1,L',o,f2,f3,f4,f5⟩:=F ev m;exact ⟨f1,L',o,f2,List.mem_cons_of_mem _ f3,(k7 _ _ (λ q=>eh (q▸f3)) (hk _ _ f4)).2,f5⟩
 have hfr':(A.deeper env).frames=some (env::outer):=by
  show (A.frames.map (env::·))=_;rw [hfr]; rfl
 have nf:∀ b,b∈(env::outer).filterMap (·.frame)->b=env.locals∨b∈outer.filterMap (·.frame):=λ b m=>by
  rw [List.filterMap_cons,ef] at m;rcases List.mem_cons.mp m with m | m
  ·exact .inl (m.trans el.symm)
  ·exact .inr m
 have nl:∀ b o,s.heap.get? b=some o->b≠env.locals:=λ b o e q=>by rw [q,en] at e; exact ac e
 refine zT (s:={ s with heap:=h12,toks:=tk12,gens:=gs12 }) G LI hfr' hF (R69.low (by exact Nat.le_of_ble_eq_true rfl)) ok hne hL hlen Hb Vl2 λ h' tk' gs' acc' n' S y1 y2 y3 y4 y5 y6=>?_
 refine q h' tk' gs' acc' n' S (λ b o n1 e=>?_) (λ b o m e=>?_) (λ g=>y3 (x12.gb (x11.gb (x10.gb (x9.gb (x8.gb (x7.gb (x6.gb (x5.gb (x4.gb (x3.gb (x2.gb g))))))))))) ) ?_ y5 y6
 ·have:=k7 b o (nl b o e) (hk b o e);exact y1 b o (λ m=>(nf b m).elim (nl b o e) n1) this.1 this.2
 ·refine y2 b o ?_ (k7 b o (nl b o e) (hk b o e)).2;rw [List.filterMap_cons,ef];exact List.mem_cons_of_mem _ m
 ·cases e:s.heap.get? S with
  | none=>rfl
  | some o=>have:=(k7 S o (nl S o e) (hk S o e)).2; rw [y4] at this; exact ac this
end
section
def uF (cl:Nat->List Nat) (args:List V) (σ:List O):Option (V×List O):=(aR none (λ y390 y391=>aO (aV none (λ y380=>aO (aR none (λ c y371=>aO (bg none (aO (aR none (λ y350 y351=>aO (aV none (λ y340=>aO (aR none (λ y330 y331=>aO (kU none (λ n=>aO (bg none (aO (aR none (λ y300 y301=>aO (aV none (λ y290=>aO (bg none (au (IU cl c (.lit n)) λ b=>aB b none (some (.str [c],σ))) y301)) y300)) y351)) y331)) y330)) y340)) y350)) y391)) y371)) y380)) y390)) args)
def DV (un:Bool) (args:List V) (σ:List O):Option (V×List O):=au (ku args) λ v=>bs (tJ v) λ _=>(aB un .obj .none,σ)
noncomputable def KH:List (Str×Value):=[("_find_unsafe",.ref 1001)]
def j4 (cl:Nat->List Nat) (un:Bool):cI:=⟨cl,KH,[(1001,.prim (DV un))],[],[],[],[],[("str.replace",uF cl)],[("replace", "str.replace")],λ _ _ _ _=>none,λ _ _ _=>none,10,10⟩
def Fe (P:cI):eM:=qP (hO P 3) P.W P.D
theorem qW (P:Params):cP (Fe (j4 (cs nj) false)) (aJ (am P) 1008 []) [.str [.at 0]] []=some (.str [.at 0],[]):=by kernel_rfl
theorem qS (P:Params):cP (Fe (j4 (cs nk) false)) (aJ (am P) 1008 []) [.str [.at 0]] []=some (.str [.at 0],[]):=by kernel_rfl
theorem qQ (P:Params):cP (Fe (j4 (cs zN) true)) (aJ (am P) 1008 []) [.str [.at 0]] []=some (.str [.lit 39,.at 0,.lit 39],[]):=by kernel_rfl
noncomputable def Ik (f:PySem.Fin):Option Flow:=by
 induction f using PySem.Fin.casesOn with
 | done f=>exact some f
 | _=>exact none
theorem Ci {f:PySem.Fin} {x:Flow} (h:Ik f=some x):f=.done x:=by
 induction f using PySem.Fin.casesOn with
 | done f=>exact congrArg _ (Option.some.inj h)
 | _=>exact ac h
noncomputable def Il (f:Flow):Option Value:=by
 induction f using Flow.casesOn with
 | ret v=>exact some v
 | _=>exact none
theorem Cj {f:Flow} {x:Value} (h:Il f=some x):f=.ret x:=by
 induction f using Flow.casesOn with
 | ret v=>exact congrArg _ (Option.some.inj h)
 | _=>exact ac h
noncomputable def Im (v:Value):Option Unit:=by
 induction v using Value.casesOn with
 | none=>exact some ()
 | _=>exact none
theorem Ck {v:Value} {x:Unit} (h:Im v=some x):v=.none:=by
 induction v using Value.casesOn with
 | none=>rfl
 | _=>exact ac h
def uG (o:Option PySem.Fin):Option Unit:=au o λ f=>au (Ik f) λ f=>au (Il f) Im
theorem r7 {o:Option PySem.Fin} {x:Unit} (h:uG o=some x):o=some (.done (.ret .none)):=by
 refine aa h λ f h1 h=>?_;refine aa h λ g h2 h=>?_;refine aa h λ v h3 h=>?_;rw [h1,Ci h2,Cj h3,Ck h]
noncomputable def mS (P:Params) (prog:Program) (c:Nat) (t:Tok):Sem Fin:=Builtin.«re.Pattern.search» ⟨[.ref 298,.str ⟨#[c]⟩ t],[]⟩
theorem sW (P:Params) (prog:Program) (t:Tok):(nj++nk).all (λ c=>(uG (peek (am P) ⟨prog,P⟩ (mS P prog c t))).isSome)=true:=by kernel_rfl
def Cl (P:Params) (prog:Program) (c:Nat) (t:Tok):Bool:=(peekA (am P) ⟨prog,P⟩ (mS P prog c t)).isSome
noncomputable def wy:List Nat:=[39,33,34,35,36,38,40,41,42,59,60,62,63,123,124]
theorem KI (P:Params) (prog:Program) (t:Tok):wy.all (λ c=>Cl P prog c t)=true:=by kernel_rfl
theorem KJ (P:Params) (prog:Program) (t:Tok) (a:Addr):wy.all (λ c=>(peekA (am P) ⟨prog,P⟩ (fp (am P) ⟨prog,P⟩ (mS P prog c t) a)).isSome)=true:=by kernel_rfl
theorem KK (P:Params) (prog:Program) (t:Tok) (a:Addr):wy.all (λ c=>!(lC (am P) ⟨prog,P⟩ (fp (am P) ⟨prog,P⟩ (mS P prog c t) a)).isFreed)=true:=by kernel_rfl
theorem KL (P:Params) (prog:Program) (t:Tok) (a b:Addr):wy.map (λ c=>fp (am P) ⟨prog,P⟩ (fp (am P) ⟨prog,P⟩ (mS P prog c t) a) b)=wy.map (λ _=>pure (.done (.ret (.ref b)))):=by kernel_rfl
end
theorem j5 {α β:Type} {f g:α->β}:∀ {l:List α},l.map f=l.map g->∀ x∈l,f x=g x:=by
 intro l;induction l with
 | nil =>
  intro _ _ m;cases m
 | cons y l ih =>
  intro h x m;have h:=List.cons.inj h;rcases List.mem_cons.mp m with rfl | m
  ·exact h.1
  ·exact ih h.2 x m
section
variable {hb:Heap} {prog:Program} {w:World} {A:Around} {E:Value->Shared->Prop} {s:Shared} {c:Nat} {t:Tok}
theorem DW:plainId "re.Pattern.search" = true:=by decide +kernel
theorem pQ:entryFor table "re.Pattern.search" = some Builtin.«re.Pattern.search» := entryFor_of_tree (by kernel_rfl)
theorem r8 (P:Params):(am P).lookup 1001=some (eI "re.Pattern.search" (.ref 298)):=by kernel_rfl
theorem pR (P:Params) (prog:Program) (c:Nat) (t:Tok):peek (am P) ⟨prog,P⟩ (checkBoundCall "re.Pattern.search" ⟨[.ref 298,.str ⟨#[c]⟩ t],[]⟩)=some ():=by kernel_rfl
theorem Cm {Q:Value->Shared->Prop} (X:(am w.params).In s.heap) (hc:aW c (nj++nk)=true) (q:Q .none s):wpAny (model prog w) A (call (.ref 1001) [.str ⟨#[c]⟩ t]) Q E s:=by
 refine wpAny_call (gk (X _ _ (r8 _)) DW pQ (λ {A Q E} hq=>(Looks.of_peek (M:=model prog w) X (pR w.params prog c t)).here hq) ?_);have h1:=List.all_eq_true.mp (sW w.params prog t) c (by rw [bf] at hc; exact of_decide_eq_true hc)
 refine aj (Option.isSome_iff_exists.mp h1) λ _ h1=>?_;exact (Looks.of_peek (M:=model prog w) X (r7 h1)).here q
theorem zU {Q:Value->Shared->Prop} (X:(am w.params).In s.heap) (hc:aW c wy=true) (q:∀ o₁ o₂:Obj,o₂.isFreed=false->Q (.ref (s.heap.push o₁).objs.size) { s with heap:=(s.heap.push o₁).push o₂ }):wpAny (model prog w) A (call (.ref 1001) [.str ⟨#[c]⟩ t]) Q E s:=by
 have m:c∈wy:=by rw [bf] at hc; exact of_decide_eq_true hc
 refine wpAny_call (gk (X _ _ (r8 _)) DW pQ (λ {A Q E} hq=>(Looks.of_peek (M:=model prog w) X (pR w.params prog c t)).here hq) ?_);have h1:(peekA (am w.params) ⟨prog,w.params⟩ (mS w.params prog c t)).isSome=true:=List.all_eq_true.mp (KI w.params prog t) c m;have h2:=λ a=>List.all_eq_true.mp (KJ w.params prog t a) c m;have h3:=λ a b=>j5 (KL w.params prog t a b) c m;have h4:∀ a,(lC (am w.params) ⟨prog,w.params⟩ (fp (am w.params) ⟨prog,w.params⟩ (mS w.params prog c t) a)).isFreed=false:=λ a=>by
  have:=List.all_eq_true.mp (KK w.params prog t a) c m;simpa using this
 show wpAny (model prog w) A.in1 (mS w.params prog c t) _ _ s;generalize mS w.params prog c t=T at *
 generalize am w.params=K at *
 refine gJ X T h1 rfl ?_;refine gJ (X.keeps λ b o e=>Heap.get?_push_of_some _ e) _ (h2 _) rfl ?_;refine wpAny_of_eq (h3 _ _) ?_;exact q _ _ (h4 _)
end
section
noncomputable def IQ (c:Nat):aZ:=⟨λ _=>c,⟨#[]⟩,λ _=>0,[],0,[],.eq,[]⟩
end
section
variable {hb:Heap} {prog:Program} {w:World} {I:aZ} {k:Nat} {hid ρ:List Addr} {σ:List O} {A:Around} {E:Value->Shared->Prop} {s:Shared} {c:Nat} {t:Tok} {P:Params}
theorem DX (I:aZ) (X:(am P).In hb):bK hb I 1008 (aJ (am P) 1008 []):=by
 refine bS I (fd:=dk P 1008) X (by kernel_rfl) (by kernel_rfl) (by kernel_rfl) (by kernel_rfl) (by kernel_rfl) λ xs h=>?_
 have e:(aJ (am P) 1008 []).ps.length=1:=by kernel_rfl
 rw [e] at h;refine aj (gQ h) ?_; rintro a rfl;kernel_rfl
theorem Sh.bare {h:Heap} (X:(am w.params).In hb) (k:∀ b o,hb.get? b=some o->h.get? b=some o) (hf:I.fx=[]:=by rfl):Sh hb prog w I [] [] [] h:=by
 refine ⟨⟨by simp,?_,by rw [hf]; exact λ _ m=>nomatch m⟩,k,List.nodup_nil,rfl,λ a m=>(by cases m),λ a m=>(by cases m),λ i o e=>by exact ac e⟩
 refine aj (Option.isSome_iff_exists.mp (show ((am w.params).lookup 2).isSome=true by kernel_rfl)) λ o e=>?_
 exact ⟨o,X _ _ e⟩
theorem Co {a b:Nat} (h:a≠b):(Builtin.Str.occurrences ⟨#[a]⟩ ⟨#[b]⟩ 0 (⟨#[a]⟩:Str).length ((⟨#[a]⟩:Str).length+1)).isEmpty=true:=by
 have h0:¬ (0+(⟨#[b]⟩:Str).length≤(⟨#[a]⟩:Str).length∧Builtin.Str.subAt ⟨#[a]⟩ ⟨#[b]⟩ 0=true):=by
  rw [StrLaws.subAt_one];intro e;have:a=b:=Option.some.inj e;exact h this
 have h1:¬ (1+(⟨#[b]⟩:Str).length≤(⟨#[a]⟩:Str).length∧Builtin.Str.subAt ⟨#[a]⟩ ⟨#[b]⟩ 1=true):=λ e=>absurd e.1 (by show ¬ (1+1≤1); decide)
 rw [StrLaws.occ_eq];have hr:List.range' 0 ((⟨#[a]⟩:Str).length+1 - 0)=[0,1]:=rfl;have b0:StrLaws.occBody ⟨#[a]⟩ ⟨#[b]⟩ (⟨#[a]⟩:Str).length ((⟨#[a]⟩:Str).length+1) 0 (#[],0)=pure (ForInStep.yield (#[],0)):=by
  unfold StrLaws.occBody;rw [if_neg λ e=>h0 ⟨e.1.2,e.2⟩]
 have b1:StrLaws.occBody ⟨#[a]⟩ ⟨#[b]⟩ (⟨#[a]⟩:Str).length ((⟨#[a]⟩:Str).length+1) 1 (#[],0)=pure (ForInStep.yield (#[],0)):=by
  unfold StrLaws.occBody;rw [if_neg λ e=>h1 ⟨e.1.2,e.2⟩]
 rw [hr,List.forIn_cons,b0];simp only [pure_bind];rw [List.forIn_cons,b1];rfl
theorem iE {cl:Nat->List Nat} (C:dZ I cl) (args:List V) (σ:List O) (r:V×List O) (e:uF cl args σ=some r):aL hb prog w I k σ (.val (.builtin "str.replace")::args) r aS:=by
 unfold uF at e;revert e; refine av ?_ λ e=>?_; rintro _ _ rfl e; replace e:=af e; revert e; refine ax ?_ ac; rintro _ rfl e; replace e:=af e; revert e; refine av ?_ ac; rintro _ _ rfl e; replace e:=af e; revert e; refine aM ?_ ac; rintro rfl e; replace e:=af e; revert e; refine av ?_ ac; rintro _ _ rfl e; replace e:=af e; revert e; refine ax ?_ ac; rintro _ rfl e; replace e:=af e; revert e; refine av ?_ ac; rintro _ _ rfl e; replace e:=af e; revert e; refine gu ?_ ac; rintro _ rfl e; replace e:=af e; revert e; refine aM ?_ ac; rintro rfl e; replace e:=af e; revert e; refine av ?_ ac; rintro _ _ rfl e; replace e:=af e; revert e; refine ax ?_ ac; rintro _ rfl e; replace e:=af e; revert e; refine aM ?_ ac; rintro rfl e
 ·rename_i c n z;refine aa e λ b e1 e=>?_;induction b using Bool.casesOn with
  | true=>exact ac e
  | false =>
   induction e using sI;have hne:=of_decide_eq_false (lw C e1);intro A s hid ρ xs Q E R H V q;induction V using aD.casesOn with
   | cons Vf V =>
   induction V using aD.casesOn with
   | cons Vx V =>
   refine ak (di V) ?_; rintro _ _ rfl Vy Vz;induction Vf using aK.casesOn; induction Vx using aG.casesOn; induction Vy using aG.casesOn; induction Vz using aG.casesOn;have ho:(Builtin.Str.occurrences (den I [c]) (den I [.lit n]) 0 (den I [c]).length ((den I [c]).length+1)).isEmpty=true:=Co (a:=c.den I) (b:=n) hne;refine call_gives PySem.F.slot_str_replace (typeIs_str _ _ _) PySem.F.entry_str_replace (PySem.F.args_str_replace_3 _ _ _) (gives_str_replace _ _ _ _ _ _ λ h=>by rw [ho] at h; cases h) ?_
   rw [ho];exact aA.tok (n:=s.toks) H q (.str [c] _)
 ·exact ac e
theorem pS {un:Bool} (X:(am w.params).In hb) (hI:∀ j,I.θ j=c) (hc:(match un with | true=>aW c wy | false=>aW c (nj++nk))=true) (args:List V) (σ:List O) (r:V×List O) (e:DV un args σ=some r):aL hb prog w I k σ (.val (.ref 1001)::args) r aS:=by
 refine aa e λ v h1 e=>?_;refine az e ?_; rintro j h2 rfl;cases dh h1;cases tK h2
 ·clear e h1 h2;intro A s hid ρ xs Q E R H V q;refine ak (di V) ?_; rintro f x rfl Vf Vx;induction Vf using aK.casesOn; induction Vx using aG.casesOn;have hd':den I [.at j]=⟨#[c]⟩:=by show (⟨#[I.θ j]⟩:Str)=_; rw [hI]
  rw [hd'];induction un using Bool.casesOn with
  | false=>exact Cm (X.keeps H.base) hc (aA.tok (n:=s.toks) H q .none)
  | true =>
   refine zU (X.keeps H.base) hc λ o₁ o₂ hf=>?_;refine ab (H.alloc o₁) λ x1 H1=>?_;refine ab (H1.alloc o₂) λ x2 H2=>?_;exact q ρ _ s.toks s.gens _ (x1.trans0 x2).g H2 (.obj (H1.stbNew hf))
theorem uH {cl:Nat->List Nat} {un:Bool} (G:cz w hb) (C:dZ I cl) (hI:∀ j,I.θ j=c) (hl:I.line.length≤3000) (hc:(match un with | true=>aW c wy | false=>aW c (nj++nk))=true):cy hb prog w I (am w.params) (j4 cl un) 20:=by
 refine ak G.ns λ mg mb hg hbn hB=>?_;refine ⟨G.B,G.GO,C,hl,G.X,dE hg hbn ?_,λ a f e=>?_,λ C S e=>(by exact ac e),λ C n f e=>(by exact ac e),λ a m=>(by exact aT m),λ a m=>(by exact aT m),λ id f e=>?_,λ n id e=>?_,λ v id args σ r e=>(by exact ac e),λ o n σ r e=>(by exact ac e)⟩
 ·exact E7 G.X hg (by kernel_rfl)
 ·have m:=fq e;simp only [j4,List.mem_cons,List.not_mem_nil,or_false,Prod.mk.injEq] at m;refine ab m ?_; clear m; rintro rfl rfl;exact ⟨pS G.X hI hc,.machine,(Looks.ld (part:=none) (G.X _ _ (r8 _))).andThen .now⟩
 ·unfold j4 EX at e;cases h1:("str.replace" : String) == id with
  | true =>
   rw [h1] at e;induction e using sI;rw [<-beq_iff_eq.mp h1];exact λ args σ r e=>iE C args σ r e
  | false=>rw [h1] at e; exact ac e
 ·unfold j4 kD at e;cases h1:("replace" : Str) == n with
  | true =>
   rw [h1] at e;induction e using sI;rw [<-beq_iff_eq.mp h1];intros;exact GM.replace (by assumption)
  | false=>rw [h1] at e; exact ac e
theorem uI {l:List Nat} (h:aW c l=true):dZ (IQ c) (cs l):=λ k _=>by
 rw [bf] at h;exact of_decide_eq_true h
theorem pT {c:Nat} {l r:List Nat} (h:aW c l=true∨aW c r=true):aW c (l++r)=true:=by
 rw [bf] at *
 refine decide_eq_true (List.mem_append.mpr ?_);rcases h with h | h
 ·exact .inl (of_decide_eq_true h)
 ·rw [bf] at h; exact .inr (of_decide_eq_true h)
theorem Cp {c:Nat} (h:aW c zN=true):aW c wy=true:=by
 rw [bf] at h;exact List.all_eq_true.mp (show zN.all (λ c=>aW c wy)=true by kernel_rfl) c (of_decide_eq_true h)
theorem zV (G:cz w hb) (ok:fr c=true) (hne:c≠39) {Q:Value->Shared->Prop} (R:aC A 40) (kb:∀ b o,hb.get? b=some o->s.heap.get? b=some o)
  (q:∀ h' tk t',(∀ b o,s.heap.get? b=some o->h'.get? b=some o)->Q (.str ⟨(aN c).toArray⟩ t') { s with heap:=h',toks:=tk }):wpAny (model prog w) A (call (.ref 1008) [.str ⟨#[c]⟩ t]) Q E s:=by
 have H:Sh hb prog w (IQ c) [] [] [] s.heap:=Sh.bare G.X kb;have go:∀ (cl:List Nat) (un:Bool) (v:AS),dZ (IQ c) (cs cl)->(match un with | true=>aW c wy | false=>aW c (nj++nk))=true->cP (Fe (j4 (cs cl) un)) (aJ (am w.params) 1008 []) [.str [.at 0]] []=some (.str v,[])->v.map (AC.den (IQ c))=aN c->wpAny (model prog w) A (call (.ref 1008) [.str ⟨#[c]⟩ t]) Q E s:=λ cl un v C hc e hv=>by
  have PS:=uH (prog:=prog) (I:=IQ c) (c:=c) G C (λ _=>rfl) (by show 0≤3000; decide) hc
  have SX0:=aY PS.GO (ce PS 3) (j4 (cs cl) un).W (j4 (cs cl) un).D;refine (cr (DX (IQ c) G.X) G.B.nl SX0 e).op A s [] [] [.ref 1008,.str ⟨#[c]⟩ t] _ _ (R.low (by unfold bD; simp [*])) H (.cons (.val _) (.cons (VR.str (I:=IQ c) [.at 0] t) .nil)) (aA.same rfl H λ h' tk gs y x1 H1 V1=>?_)
  have hg:gs=s.gens:=x1.gb;subst hg;induction V1 using aG.casesOn;have:den (IQ c) v=⟨(aN c).toArray⟩:=by unfold den; rw [hv]
  rw [this];exact q h' tk _ λ b o e=>x1.toExt.keep b o e (by simp) (by simp)
 rcases eG ok with ⟨h,_⟩ | ⟨m,e⟩ | ⟨m,e⟩ | ⟨m,e⟩
 ·exact (hne h).elim
 ·exact go nj false _ (uI m) (pT (.inl m)) (qW w.params) (by rw [e]; rfl)
 ·exact go nk false _ (uI m) (pT (.inr m)) (qS w.params) (by rw [e]; rfl)
 ·exact go zN true _ (uI m) (Cp m) (qQ w.params) (by rw [e]; rfl)
end
section
open Sem (wp)
theorem pU (a:Addr):Builtin.«method_descriptor.__get__» ⟨[.builtin "list.append",.ref a,.type "list"],[]⟩ =
 ((isInstance (.ref a) (.type "list") >>= λ b=>if (!b)=true then (do
  rule "descr.get.wrong-instance"
  raiseError "TypeError" s!"descriptor '{("append" : Str).toString}' for '{← typeName (.type "list")}' objects doesn't apply to a '{← typeNameOf (.ref a)}' object") else pure ()) >>= λ _=>newFields "builtin_function_or_method" [.builtin "list.append",.ref a] >>= λ v=>ret v):=by kernel_rfl
theorem kJ:isSubtype (.type "list") (.type "list")=pure true:=by rw [isSubtype_type]; kernel_rfl
theorem kK:entryFor table "list.__getattribute__" = some Builtin.«object.__getattribute__» :=
 entryFor_alias (id' := "object.__getattribute__") (by kernel_rfl) (by decide +kernel) (by decide +kernel) (by kernel_rfl)
theorem mT:typeLookup (.type "list") "__getattr__" = pure none:=by rw [typeLookup_type,builtinLookup_eq_fast]; kernel_rfl
theorem hU (a:Addr) (items:Array Value) (n:Nat) (u:Tok) :
  Meets (Builtin.«object.__getattribute__» ⟨[.ref a,.str "append" u],[]⟩) (λ A R s=>s.heap.get? a=some { cls:=.type "list",data:=.seq items n }∧R (.ok (.ret (.ref s.heap.objs.size))) { s with heap:=s.heap.push (eI "list.append" (.ref a)) }) :=
 Meets.of_wp λ prog w A R s hs=>by
  obtain ⟨hp,g,d,tk,os⟩:=s;refine ab hs ?_; clear hs; rintro hx hs;have hT:(⟨hp,g,d,tk,os⟩:Shared).TypeIs (.ref a) "list" := ⟨_,hx,rfl⟩;have f1:=PySem.F.slot_list_append.lookup;have f2:=PySem.F.type_list_append;have f3:=lL;have f4:=qx;have f5:=qy;have f6:=kJ;unfold Builtin.«object.__getattribute__»;repeat (any_goals (first | assumption | wp_step))
  refine codeAny_call_builtin fz.plain jk (fz.check _ _ _ _ _ _ _ _ f2 (lM _ _ _) ?_);rw [pU];repeat (any_goals (first | assumption | wp_step))
  exact ⟨_,rfl,hs⟩
theorem gg {prog:Program} {w:World} {A:Around} {E:Value->Shared->Prop} {s:Shared} {a:Addr} {items:Array Value} {n:Nat} {Q:Value->Shared->Prop}
  (hx:s.heap.get? a=some { cls:=.type "list",data:=.seq items n }) (h:Q (.ref s.heap.objs.size) { s with heap:=s.heap.push (eI "list.append" (.ref a)),toks:=s.toks+1 }) :
  wpAny (model prog w) A (getAttr (.ref a) "append" true) Q E s:=by
 obtain ⟨hp,g,d,tk,os⟩:=s;have hT:∀ tk',(⟨hp,g,d,tk',os⟩:Shared).TypeIs (.ref a) "list" := λ _=>⟨_,hx,rfl⟩;have f3:=PySem.F.slot_list_getattribute.lookup;have f4:=PySem.F.slot_list_getattribute.bind (.ref a);have f5:=mT;unfold getAttr getAttrBy;repeat (any_goals (first | assumption | exact hT _ | ((with_reducible show wpAny _ _ (call (Value.builtin "list.__getattribute__") _ _) _ _ _); refine call_meets PySem.F.slot_list_getattribute (hT _) kK (PySem.F.args_list_getattribute_2 _ _) (hU a items n _) ⟨hx,?_⟩) | wp_step))
 exact handed_on rfl h
theorem zW:Manifest.signature? "list.append" = some ⟨.oneArg, "list.append", "append",.self,[⟨"object",.posOnly,true⟩]⟩:=by
 rw [signature?_of (id := "list.append") (n:=['d', 'n', 'e', 'p', 'p', 'a']) (o:=['t', 's', 'i', 'l']) (by kernel_rfl) PySem.F.owner_list]; kernel_rfl
theorem vT:builtinKind "list.append" = some .method:=by decide +kernel
theorem mU:isSubtype (.type "list") (.type "module")=pure false:=by rw [isSubtype_type]; kernel_rfl
theorem zX {M:Model} {A:Around} {E:Value->Shared->Prop} {s:Shared} {d:Addr} {x:Value} {items:Array Value} {n:Nat} {Q:Unit->Shared->Prop} (hx:s.heap.get? d=some { cls:=.type "list",data:=.seq items n }) (h:Q () s) :
  wpAny M A (checkBoundCall "list.append" ⟨[.ref d,x],[]⟩) Q E s:=by
 obtain ⟨hp,g,dr,tk,os⟩:=s;have hT:(⟨hp,g,dr,tk,os⟩:Shared).TypeIs (.ref d) "list" := ⟨_,hx,rfl⟩;have f1:=mU;unfold checkBoundCall;rw [zW,vT];dsimp only;rw [if_neg (by decide)]
 repeat (any_goals (first | assumption | wp_step))
end
section
noncomputable def AQ:List Nat:=[40,41,91,93,123,125,63,42,43,45,124,94,36,92,46,38,126,35,32,9,10,13,11,12]
def JN (o:Option Obj):Array DictEntry:=(au o λ o=>vN o.data).getD #[]
noncomputable abbrev pV (P:Params):Array DictEntry:=JN ((am P).lookup 276)
def Ff (o:Option Obj):Option (Array DictEntry):=au o λ o=>au (Hm o.cls) λ c=>aB (c == "dict" && (o.dict.isNone && o.slots.isEmpty)) (vN o.data) none
noncomputable def Io (v:Value) (f:Int->Bool):Bool:=by
 induction v using Value.casesOn with
 | int k _=>exact f k
 | _=>exact false
theorem Cq {v:Value} {f:Int->Bool} (h:Io v f=true):∃ k t,v=.int k t∧f k=true:=by
 induction v using Value.casesOn with
 | int k t=>exact ⟨k,t,rfl,h⟩
 | _=>exact aT h
noncomputable def Ip (v:Value) (f:Str->Bool):Bool:=by
 induction v using Value.casesOn with
 | str k _=>exact f k
 | _=>exact false
theorem uJ {v:Value} {f:Str->Bool} (h:Ip v f=true):∃ k t,v=.str k t∧f k=true:=by
 induction v using Value.casesOn with
 | str k t=>exact ⟨k,t,rfl,h⟩
 | _=>exact aT h
def Iq (es:Array DictEntry):Bool:=es.toList.all λ e=>Io e.key λ k=>e.hash == hashInt k
noncomputable def Fg (P:Params) (c:Nat):Option Value:=findBy Value.isInt (pV P) c
def JO (P:Params) (c:Nat):Bool:=Option.rec (!(aW c AQ)) (λ v=>Ip v λ x=>aW c AQ && decide (x=⟨#[92,c]⟩)) (Fg P c)
theorem JP (P:Params):(Ff ((am P).lookup 276)).isSome=true:=by kernel_rfl
theorem JQ (P:Params):Iq (pV P)=true:=by kernel_rfl
theorem Ir (P:Params):(List.range 128).all (JO P)=true:=by kernel_rfl
def JR (args:List V) (σ:List O):Option (V×List O):=(aR none (λ y390 y391=>aO (aV none (λ y380=>aO (aR none (λ y370 y371=>aO (kU none (λ c=>aO (bg none (aO (aR none (λ y340 y341=>aO (dB none (λ y330=>aO (em none (λ t=>aO (bg none (aB (Nat.beq t 276 && Nat.blt c 128) (aB (aW c AQ) (some (.str [.lit 92,.lit c],σ)) (some (.str [.lit c],σ))) none) y341)) y330)) y340)) y391)) y371)) y370)) y380)) y390)) args)
end
section
variable {hb:Heap} {prog:Program} {w:World} {I:aZ} {k:Nat} {hid ρ:List Addr} {σ:List O} {A:Around} {E:Value->Shared->Prop} {s:Shared} {P:Params} {h:Heap}
theorem zY (X:(am P).In h):h.MapOf (intKind prog w) 276 (findBy Value.isInt (pV P)):=by
 refine aj (Option.isSome_iff_exists.mp (JP P)) λ es h1=>?_;refine aa h1 λ o e h1=>?_;refine aa h1 λ c hc h1=>?_;refine ai h1 λ hb h1=>?_;refine ab (Bool.and_eq_true_iff.mp hb) λ b1 b2=>?_;refine ab (Bool.and_eq_true_iff.mp b2) λ b2 b3=>?_;refine aj (uB h1) λ n hd=>?_;have hes:pV P=es:=by
  show (au ((am P).lookup 276) λ o=>vN o.data).getD #[]=es;rw [e];show (vN o.data).getD #[]=es;rw [h1]; rfl
 refine ⟨o,pV P,n,X _ _ e,⟨by rw [qC hc,beq_iff_eq.mp b1],Option.isNone_iff_eq_none.mp b2,Array.isEmpty_iff.mp b3⟩,by rw [hes]; exact hd,λ en m=>?_,λ _=>rfl⟩
 have h2:=List.all_eq_true.mp (JQ P) en (by simpa using m)
 refine jg (Cq h2) λ kk tt e2 h3=>?_;exact ⟨kk,by rw [e2]; exact intKind_is _ _ _ _,beq_iff_eq.mp h3⟩
theorem j6:isSubtype (.type "KeyError") (.type "LookupError")=pure true:=by rw [isSubtype_type]; kernel_rfl
theorem pX {c:Nat} {Q:Builtin.Str.Mapped->Shared->Prop} (X:(am w.params).In s.heap) (hc:c < 128) (hm:aW c AQ=true) (q:∀ tk,Q (.text ⟨#[92,c]⟩) { s with toks:=tk }):wpAny (model prog w) A (Builtin.Str.tableLookup (.ref 276) c) Q E s:=by
 have h1:=List.all_eq_true.mp (Ir w.params) c (List.mem_range.mpr hc);unfold JO at h1;cases e:Fg w.params c with
 | none=>rw [e] at h1; replace h1:(!(aW c AQ))=true:=h1; rw [hm] at h1; exact aT h1
 | some v =>
  rw [e] at h1;refine jg (uJ h1) ?_; rintro x t rfl h1;refine ab (Bool.and_eq_true_iff.mp h1) λ _ h2=>?_;have:=of_decide_eq_true h2;subst this;unfold Builtin.Str.tableLookup;refine wpAny_bind (wpAny_attempt (wpAny_bind (wpAny_mkInt (wpAny_getItem_intMap (zY (prog:=prog) (w:=w) X).intMap e ?_))));exact wpAny_bind (wpAny_of_eq (a:=none) rfl (wpAny_bind (wpAny_of_eq (a:=some ⟨#[92,c]⟩) rfl (wpAny_pure (q _)))))
theorem vU {c:Nat} {Q:Builtin.Str.Mapped->Shared->Prop} (hh:A.handled=none) (X:(am w.params).In s.heap) (hc:c < 128) (hm:aW c AQ=false) (q:∀ h' tk,(∀ b o,s.heap.get? b=some o->h'.get? b=some o)->Q .keep { s with heap:=h',toks:=tk }):wpAny (model prog w) A (Builtin.Str.tableLookup (.ref 276) c) Q E s:=by
 have h1:=List.all_eq_true.mp (Ir w.params) c (List.mem_range.mpr hc);unfold JO at h1;cases e:Fg w.params c with
 | some v =>
  rw [e] at h1;refine jg (uJ h1) ?_; rintro x t rfl h1;rw [hm] at h1; exact aT h1
 | none =>
  unfold Builtin.Str.tableLookup;refine wpAny_bind (wpAny_attempt (wpAny_bind (wpAny_mkInt (wpAny_getItem_missing_of (intKind_is prog w _ _) (by decide) hh (zY (prog:=prog) (w:=w) X) e λ h' ea N=>?_))))
  refine ak N.there λ ob t e1 e2 e3=>?_;exact wpAny_bind (wpAny_isInstance (s:={ s with heap:=h',toks:=s.toks+1+1 }) ⟨ob,e1,e2⟩ j6 (wpAny_bind (wpAny_rule (wpAny_pure (q h' _ N.keeps)))))
theorem vV {α β:Type} {M:Model} {A:Around} {E:Value->Shared->Prop} {s:Shared} {x:α} {b:β} {f:α->β->Sem (ForInStep β)} {Q:β->Shared->Prop} (h:wpAny M A (f x b) (λ r s'=>Q (match r with | .yield b=>b | .done b=>b) s') E s):wpAny M A (forIn #[x] b f) Q E s:=by
 rw [<-Array.forIn_toList];show wpAny M A (forIn [x] b f) Q E s;rw [List.forIn_cons];refine wpAny_bind (wpAny_mono h (λ r s' h=>?_) λ _ _ z=>z);cases r with
 | done b=>exact wpAny_pure h
 | yield b =>
  show wpAny M A (forIn [] b f) Q E s';rw [List.forIn_nil];exact wpAny_pure h
theorem Cr {c:Nat} {t:Tok} {Q:Value->Shared->Prop} (hh:A.handled=none) (X:(am w.params).In s.heap) (hc:c < 128) (q:∀ h' tk t',(∀ b o,s.heap.get? b=some o->h'.get? b=some o)->Q (.str (match aW c AQ with | true=>⟨#[92,c]⟩ | false=>⟨#[c]⟩) t') { s with heap:=h',toks:=tk }) :
  wpAny (model prog w) A (Builtin.«str.translate» ⟨[.str ⟨#[c]⟩ t,.ref 276],[]⟩) (λ fin s'=>∃ v,fin=.done (.ret v)∧Q v s') E s:=by
 have h1:(⟨#[c]⟩:Str).cps.all (· < 128)=true:=by simp; exact hc
 have ht:Builtin.Str.tooLong 0=false:=by decide
 unfold Builtin.«str.translate»;refine wpAny_bind (wpAny_of_eq (a:=(.str ⟨#[c]⟩ t,⟨#[c]⟩,.ref 276)) rfl ?_);dsimp only;refine eR rfl ?_;refine wpAny_bind (vV ?_);refine eR ht ?_;rw [h1];refine nJ rfl ?_;dsimp only [List.lookup_nil];cases hm:aW c AQ with
 | true =>
  rw [hm] at q;refine wpAny_bind (pX X hc hm λ tk=>?_);dsimp only;rw [if_neg (show ¬ ((⟨#[92,c]⟩:Str).length == 1 && _)=true from Bool.false_ne_true)];refine wpAny_bind (wpAny_pure ?_);refine wpAny_bind (wpAny_rule (eR rfl (wpAny_bind (pX X hc hm λ tk=>wpAny_pure ?_))));refine eR (show Builtin.Str.tooLong 2=false by decide) ?_
  exact wpAny_bind (wpAny_mkStr (wpAny_pure ⟨_,rfl,q s.heap _ _ λ _ _ e=>e⟩) (by show 2≤sizeLine; decide))
 | false =>
  rw [hm] at q;refine wpAny_bind (vU hh X hc hm λ h' tk kp=>?_);refine wpAny_pure ?_;refine eR (show Builtin.Str.tooLong 1=false by decide) ?_
  exact wpAny_bind (wpAny_mkStr (wpAny_pure ⟨_,rfl,q h' _ _ kp⟩) (by show 1≤sizeLine; decide))
theorem vW (X:(am w.params).In hb) (args:List V) (σ:List O) (r:V×List O) (e:JR args σ=some r):aL hb prog w I k σ (.val (.builtin "str.translate")::args) r aS:=by
 unfold JR at e;revert e; refine av ?_ λ e=>?_; rintro _ _ rfl e; replace e:=af e; revert e; refine ax ?_ ac; rintro _ rfl e; replace e:=af e; revert e; refine av ?_ ac; rintro _ _ rfl e; replace e:=af e; revert e; refine gu ?_ ac; rintro _ rfl e; replace e:=af e; revert e; refine aM ?_ ac; rintro rfl e; replace e:=af e; revert e; refine av ?_ ac; rintro _ _ rfl e; replace e:=af e; revert e; refine bo ?_ ac; rintro _ rfl e; replace e:=af e; revert e; refine bM ?_ ac; rintro _ rfl e; replace e:=af e; revert e; refine aM ?_ ac; rintro rfl e
 ·rename_i c t;refine ai e λ h1 e2=>?_;clear e;refine ab (Bool.and_eq_true_iff.mp h1) λ h2 h3=>?_;have ht:=Nat.eq_of_beq_eq_true h2;subst ht;have hc:c < 128:=Nat.le_of_ble_eq_true h3;intro A s hid ρ xs Q E R H V q;induction V using aD.casesOn with
  | cons Vf V =>
  refine ak (di V) ?_; rintro _ _ rfl Vx Vy;induction Vf using aK.casesOn; induction Vx using aG.casesOn; induction Vy using aK.casesOn;refine wpAny_call_entry PySem.F.slot_str_translate (typeIs_str _ _ _) PySem.F.entry_str_translate ?_ (PySem.F.args_str_translate_2 _ _);refine Cr (A:=A.in1) (s:=s) R.hh (X.keeps H.base) hc λ h' tk t' kp=>?_;refine ab (H.keeps kp) λ x1 H1=>?_;cases hm:aW c AQ with
  | true =>
   rw [hm] at e2;induction e2 using sI;have:=q ρ h' tk s.gens (.str ⟨#[92,c]⟩ t') x1.g H1 (VR.str (I:=I) [.lit 92,.lit c] t');rw [show AC.den I (.lit c)=c from rfl,hm];exact this
  | false =>
   rw [hm] at e2;induction e2 using sI;have:=q ρ h' tk s.gens (.str ⟨#[c]⟩ t') x1.g H1 (VR.str (I:=I) [.lit c] t');rw [show AC.den I (.lit c)=c from rfl,hm];exact this
 ·exact ac e
end
theorem Fh:PlainAttrs "re.Pattern" :=
 ⟨⟨"object.__getattribute__",by rw [typeLookup_type,builtinLookup_eq_fast]; kernel_rfl,by decide +kernel⟩,by rw [typeLookup_type,builtinLookup_eq_fast]; kernel_rfl⟩
theorem j7:Slot "re.Pattern" "sub" "re.Pattern.sub" :=
 .of (owner := "re.Pattern") (n := "sub") (by rw [typeLookup_type,builtinLookup_eq_fast]; kernel_rfl) (by decide +kernel) (by decide +kernel) (by decide +kernel)
  (by first | exact .inl (by decide +kernel) | exact .inr (by decide +kernel)) (by rw [isSubtype_type]; kernel_rfl)
theorem zZ:typeOf (.builtin "re.Pattern.sub")=pure (.type "method_descriptor"):=by show builtinType _=_; rw [builtinType_eq_fast]; kernel_rfl
theorem vX:entryFor table "re.Pattern.sub" = some Builtin.«re.Pattern.sub» := entryFor_of_tree (by kernel_rfl)
theorem r9:entryFor table "re.Pattern.sub.loop" = some Builtin.«re.Pattern.sub.loop» := entryFor_of_tree (by kernel_rfl)
theorem z4 (a b c:Value):argsOk "re.Pattern.sub" ⟨[a,b,c],[]⟩:=by
 unfold argsOk; kernel_rfl
theorem Cs:typeLookup (.type "function") "__call__" = pure (some (.builtin "function.__call__")):=by rw [typeLookup_type,builtinLookup_eq_fast]; kernel_rfl
section
def Fi (args:List V) (σ:List O):Option (V×List O):=(aR none (λ y390 y391=>aO (dB none (λ y380=>aO (em none (λ p=>aO (aR none (λ y350 y351=>aO (DC none (aO (aR none (λ y330 y331=>aO (aV none (λ y320=>aO (aR none (λ y310 y311=>aO (kU none (λ c=>aO (bg none (aO (bg none (aB (Nat.beq p 274 && aW c [42,63]) (some (.str [.lit c],σ)) none) y331)) y311)) y310)) y320)) y330)) y351)) y350)) y391)) y380)) y390)) args)
def DY (P:Params) (prog:Program) (c:Nat) (t:Tok):Bool:=match peek (am P) ⟨prog,P⟩ (Builtin.Re.reWholeTarget (.ref 274) (.str ⟨#[c]⟩ t)) with
 | some T=>T.lim == 1 && (T.kind == 0 && (decide (T.text=#[c]) && ((l7 false (λ y390=>aO (tI false true y390)) (peek (am P) ⟨prog,P⟩ (Builtin.Re.reNextFound T 0 false))))))
 | none=>false
theorem Fj (P:Params) (prog:Program) (t:Tok):([42,63]:List Nat).all (λ c=>DY P prog c t)=true:=by kernel_rfl
end
section
variable {hb:Heap} {prog:Program} {w:World} {I:aZ} {k:Nat} {hid ρ:List Addr} {σ:List O} {A:Around} {E:Value->Shared->Prop} {s:Shared} {P:Params} {h:Heap}
theorem Fk {c:Nat} {t:Tok} (hc:aW c [42,63]=true):∃ T:Builtin.Re.ReTarget,peek (am w.params) ⟨prog,w.params⟩ (Builtin.Re.reWholeTarget (.ref 274) (.str ⟨#[c]⟩ t))=some T∧T.lim=1∧T.kind=0∧T.text=#[c]∧peek (am w.params) ⟨prog,w.params⟩ (Builtin.Re.reNextFound T 0 false)=some none:=by
 have h1:=List.all_eq_true.mp (Fj w.params prog t) c (by rw [bf] at hc; exact of_decide_eq_true hc)
 unfold DY at h1;split at h1
 ·rename_i T e;simp only [Bool.and_eq_true,beq_iff_eq,decide_eq_true_eq] at h1;refine eQ h1 λ e1 e2 e3 e4=>?_; clear h1;refine ⟨T,e,e1,e2,e3,?_⟩;revert e4; refine gX ?_ λ e4=>?_; intro _ _ e4; replace e4:=af e4; revert e4; refine qD ?_ aT; rintro rfl e4
  ·assumption
  ·exact aT e4
 ·exact aT h1
theorem JT (P:Params):(((am P).lookup 274).map λ o=>(o.cls,o.dict))=some (.type "re.Pattern",none):=by kernel_rfl
theorem DZ (X:(am P).In h):∃ o,h.get? 274=some o∧o.cls=.type "re.Pattern" ∧ o.dict=none:=by
 have h1:=JT P;cases e:(am P).lookup 274 with
 | none=>rw [e] at h1; exact ac h1
 | some o =>
  rw [e] at h1;have h2:=Option.some.inj h1;exact ⟨o,X _ _ e,congrArg Prod.fst h2,congrArg Prod.snd h2⟩
theorem sa:isSubtype (.type "str") (.type "bytearray")=pure false:=by rw [isSubtype_type]; kernel_rfl
theorem z6 {c:Nat} {t:Tok} {fa:Addr} {fd:FuncData} {Q:Value->Shared->Prop} (X:(am w.params).In s.heap) (hc:aW c [42,63]=true) (hf:s.heap.get? fa=some { cls:=.type "function",data:=.func fd })
  (q:∀ h' tk t',(∀ b o,s.heap.get? b=some o->h'.get? b=some o)->Q (.str ⟨#[c]⟩ t') { s with heap:=h',toks:=tk }):wpAny (model prog w) A (call (.builtin "re.Pattern.sub") [.ref 274,.ref fa,.str ⟨#[c]⟩ t]) Q E s:=by
 refine xI (Fk (w:=w) (prog:=prog) (t:=t) hc) λ T e1 e2 e3 e4 e5=>?_;obtain ⟨hp,g,dr,tk,os⟩:=s;dsimp only at X hf q;refine kP (DZ X) λ o o1 o2 o3=>?_;refine wpAny_call (codeAny_call_builtin j7.plain vX (j7.check _ _ _ _ _ _ _ _ ⟨o,o1,o2⟩ (z4 _ _ _) ?_));unfold Builtin.«re.Pattern.sub» Builtin.Re.reSubstitute;refine wpAny_bind (wpAny_of_eq (a:=[some (.ref fa),some (.str ⟨#[c]⟩ t),none]) rfl ?_);refine wpAny_bind (wpAny_pure ?_);refine wpAny_bind (wpAny_specialOf (T := "function") ⟨_,hf,rfl⟩ Cs ?_);refine nJ rfl (wpAny_bind (wpAny_pure (nJ rfl (wpAny_bind (wpAny_pure ?_)))));refine wpAny_bind (wpAny_holding ((Looks.of_peek (M:=model prog w) X e1).here ?_));refine nJ rfl ?_;unfold Builtin.Re.reNotHeld;refine wpAny_bind (wpAny_bind (wpAny_isInstance (typeIs_str _ _ _) sa ?_));refine eR rfl (wpAny_pure ?_);refine wpAny_bind (wpAny_newList ?_);refine wpAny_pure ⟨plainId_quiet (by decide +kernel) _,?_⟩
 refine codeAny_builtin r9 ?_;rw [Around.under_plainId (by decide +kernel)]
 unfold Builtin.«re.Pattern.sub.loop»;have k1:∀ b o,hp.get? b=some o->(hp.push { cls:=.type "list",data:=.seq #[] }).get? b=some o:=λ b o e=>Heap.get?_push_of_some _ e;have hD:(hp.push { cls:=.type "list",data:=.seq #[] }).get? hp.objs.size=some { cls:=.type "list",data:=.seq #[] }:=Heap.get?_push_size _ rfl;have X1:=X.keeps k1;have hDn:∀ b o,hp.get? b=some o->b≠hp.objs.size:=λ b o e=>bd e;show wpAny _ _ (Builtin.Re.reWholeTarget (.ref 274) (.str ⟨#[c]⟩ t) >>= _) _ _ ⟨hp.push { cls:=.type "list",data:=.seq #[] },g,dr,tk,os⟩;dsimp only;generalize hp.push { cls:=.type "list",data:=.seq #[] }=h1 at *
 generalize hp.objs.size=D at *
 refine wpAny_bind ((Looks.of_peek (M:=model prog w) X1 e1).here ?_);have hway:((1:Int) == 0)=false:=by decide
 have hcnt:((0:Int) != 0 && decide ((0:Int) ≥ 0))=false:=by decide
 refine eR rfl (wpAny_bind (eR rfl ?_));refine ((Looks.of_peek (M:=model prog w) X1 e5).here ?_);have hlt:(0:Int).toNat < T.lim:=by rw [e2]; decide
 show wpAny _ _ (if (0:Int).toNat < T.lim then _ else _) _ _ _
 rw [if_pos hlt];have hsl:∀ {b e:Nat},Builtin.Re.reSlice T.text T.kind b e=mkStr ⟨(#[c]:Array Nat).extract b e⟩:=λ {b e}=>by
  unfold Builtin.Re.reSlice;rw [e3,e4]; rfl
 rw [hsl,e2];refine wpAny_bind (wpAny_mkStr ?_ (by show 1≤sizeLine; decide))
 refine wpAny_bind (wpAny_updateSeq hD rfl ?_);rw [hsl];refine wpAny_bind (wpAny_mkStr ?_ (by show 0≤sizeLine; decide))
 dsimp only;have hu:=Heap.get?_update_self (Obj.mapSeq λ x=>x.push (.str ⟨(#[c]:Array Nat).extract (0:Int).toNat 1⟩ tk)) hD rfl;have hsb:Heap.SameBut D h1 (h1.update D (Obj.mapSeq λ x=>x.push (.str ⟨(#[c]:Array Nat).extract (0:Int).toNat 1⟩ tk))):=Heap.SameBut.update ..;generalize h1.update D (Obj.mapSeq λ x=>x.push (.str ⟨(#[c]:Array Nat).extract (0:Int).toNat 1⟩ tk))=h2 at *
 refine wpAny_bind (wpAny_seqItems (items:=#[.str ⟨#[c]⟩ tk]) hu rfl ?_);rw [if_neg (by simp),e3]
 refine wpAny_bind (call_meets PySem.F.slot_str_join (typeIs_str _ _ _) PySem.F.entry_str_join (PySem.F.args_str_join_2 _ _) (meets_str_join_list _ _ _ [(⟨#[c]⟩,tk)] (by rfl)) ⟨⟨_,hu,rfl,_,rfl⟩,?_⟩)
 exact wpAny_pure (q h2 _ _ λ b o e=>(hsb.2 b (hDn b o e)).trans (k1 b o e))
theorem sb (X:(am w.params).In hb) (args:List V) (σ:List O) (r:V×List O) (e:Fi args σ=some r):aL hb prog w I k σ (.val (.builtin "re.Pattern.sub")::args) r aS:=by
 unfold Fi at e;revert e; refine av ?_ λ e=>?_; rintro _ _ rfl e; replace e:=af e; revert e; refine bo ?_ ac; rintro _ rfl e; replace e:=af e; revert e; refine bM ?_ ac; rintro _ rfl e; replace e:=af e; revert e; refine av ?_ ac; rintro _ _ rfl e; replace e:=af e; revert e; refine yo ?_ ac; rintro rfl e; replace e:=af e; revert e; refine av ?_ ac; rintro _ _ rfl e; replace e:=af e; revert e; refine ax ?_ ac; rintro _ rfl e; replace e:=af e; revert e; refine av ?_ ac; rintro _ _ rfl e; replace e:=af e; revert e; refine gu ?_ ac; rintro _ rfl e; replace e:=af e; revert e; refine aM ?_ ac; rintro rfl e; replace e:=af e; revert e; refine aM ?_ ac; rintro rfl e
 ·rename_i p c;refine ah λ G9 fin9=>?_;refine ai e λ h1 e2=>?_;clear e;induction e2 using sI;refine ab (Bool.and_eq_true_iff.mp h1) λ h2 h3=>?_;have hp:=Nat.eq_of_beq_eq_true h2;subst hp;refine fin9 ?_; clear fin9 G9;intro A s hid ρ xs Q E R H V q;induction V using aD.casesOn with
  | cons Vf V =>
  induction V using aD.casesOn with
  | cons Vp V =>
  refine ak (di V) ?_; rintro _ _ rfl Vx Vy;induction Vf using aK.casesOn; induction Vp using aK.casesOn; induction Vy using aG.casesOn;induction Vx using jm.casesOn with
  | fnc g =>
  refine z6 (s:=s) (X.keeps H.base) h3 g.1 λ h' tk t' kp=>?_;refine ab (H.keeps kp) λ x1 H1=>?_;exact q ρ h' tk s.gens _ x1.g H1 (VR.str (I:=I) [.lit c] t')
 ·exact ac e
end
section
noncomputable def KM:List (Str×Value):=[("len",.builtin "len"),("isinstance",.builtin "isinstance"),("str",.type "str"),("escape",.ref 286),("twin_re_1_fnmatch",.ref 274),("_special_chars_map",.ref 276)]
def z7:O->Bool:=λ x0=>(fD (aP (jx (false) (λ y390=>true) x0)) (λ y390=>true) x0)
def Fm (o:V) (n:Str) (σ:List O):Option (V×List O):=(eK none (λ i=>aB (n == ("append" : Str)) (au (aU σ i) λ b=>aB (z7 b) (some (.bm "list.append" (.ref i),σ)) none) none) o)
def Fo (v:V) (id:String) (args:List V) (σ:List O):Option (V×List O):=(eK none (λ i=>aB (id == "list.append") ((aR none (λ x y391=>aO (bg none (au (aU σ i) λ o=>((fD (aP (jx none (λ l=>aB (km l) (some (.none,bF σ i (.acc (l++[x])))) none) o)) (λ l=>aB (km l) (some (.none,bF σ i (.list (l++[x])))) none) o))) y391)) args)) none) v)
def pY (K:Frag):cI:=⟨λ _=>[],KM,[(286,.plain (aJ K 286 []))],[],[],[],[],[("str.replace",uF λ _=>[]),("str.translate",JR),("re.Pattern.sub",Fi)],[("replace", "str.replace"),("translate", "str.translate")],Fo,Fm,12,20⟩
def z8 (P:cI) (o:V) (n:Str) (σ:List O):Option (V×List V):=(dB (pd P o n σ) (λ y390=>aO (em (pd P o n σ) (λ p=>aB (Nat.beq p 274 && n == ("sub" : Str)) (some (.val (.builtin "re.Pattern.sub"),[.val (.ref 274)])) none) y390)) o)
def jc {α:Type}:List α->Bool:=λ x0=>(bg (true) (false) x0)
def Fp (a:V) (σ:List O):Option Bool:=eK (uy a σ) (λ i=>au (aU σ i) λ o=>((fD (aP (jx none (λ l=>aB (jc l && km l) (some true) none) o)) (λ l=>aB (km l) (some (jc l)) none) o))) a
noncomputable def uK {α:Type}:List α->Option α
 | []=>none
 | a::r=>(match r with
  | []=>some a
  | _::_=>uK r)
def z9 (a b:V) (σ:List O):Option (V×List O):=eK (hN a b σ) (λ i=>((bv none (λ j=>aB (oG j (-1)) (au (aU σ i) λ o=>((jx none (λ l=>bs (uK l) λ v=>(v,σ)) o))) none) b))) a
def Fq (P:cI) (op:CmpOp) (a b:V) (σ:List O):Option Bool:=aB (decide (op=.Eq)) (eX (kE P.objs P.cl op a b σ) (λ _ _ _=>BL a b) a) (kE P.objs P.cl op a b σ)
def vY (P:cI):eO:={ hO P 3 with getM:=z8 P,tru:=Fp,item:=z9,cmp:=Fq P }
def dF (P:Params):aq:=(aJ (am P) 293 []).names
def IX (P:Params):eM:=qP (vY (pY (am P))) 12 20
def c8 (P:Params) (i:Nat):Stmt:=rV (aJ (am P) 293 []).body i
def dm (P:Params) (i:V):F:=F.of ((plan (dF P) ["pat", "STAR", "QUESTION_MARK", "res", "add", "i", "n"]).map (aX [.lin,.none,.str [.lit 46],.ref 1,.bm "list.append" (.ref 1),i,.pend]))
def It (P:Params):F:=F.of ((plan (dF P) ["pat", "STAR", "QUESTION_MARK"]).map (aX [.lin,.none,.str [.lit 46]]))
theorem Ct (P:Params):(aJ (am P) 293 []).body=[c8 P 0,c8 P 1,c8 P 2,c8 P 3,c8 P 4,c8 P 5]:=by kernel_rfl
theorem Cu (P:Params):dU (aJ (am P) 293 []) [.lin,.none,.str [.lit 46]]=some (It P):=by kernel_rfl
def keepF (N:aq) (xs:List Str) (e:F):F:=F.of (N.zip e.list |>.map λ p=>aB (xs.any λ x=>x == p.1.1) p.2 none)
noncomputable def JU:List Str:=["pat", "STAR", "QUESTION_MARK", "res", "add", "i", "n"]
def iF (P:Params) (i:V) (σ:List O):Option (F×List (Option Nat)×Option Nat×List O) :=
 au (((k8 (vY (pY (am P))) 19).T (dF P) (qA (c8 P 3))).f ⟨dm P i,[],some 0⟩ σ) λ p=>aB p.1
  (au ((bY (qP (vY (pY (am P))) 12 19) (dF P) (G6 (c8 P 3))).f ⟨dm P i,[],some 0⟩ p.2) λ q=>match q.1 with
   | .next=>some (keepF (dF P) JU q.2.1.loc,q.2.1.cel,q.2.1.tab,q.2.2)
   | _=>none) none
def Iu (P:Params) (i:V) (σ:List O):Option (Bool×List O):=((k8 (vY (pY (am P))) 19).T (dF P) (qA (c8 P 3))).f ⟨dm P i,[],some 0⟩ σ
theorem vZ (P:Params):iF P (.pos 0 [.lit 42] false) [.tabT,.list []]=some (dm P (.pos 1 [] false),[],some 0,[.tabT,.list [.none]]):=by kernel_rfl
theorem v7 (P:Params):iF P (.pos 0 [.lit 42] true) [.tabT,.acc [.str [.lit 92,.lit 32]]]=some (dm P (.pos 1 [] true),[],some 0,[.tabT,.acc [.str [.lit 92,.lit 32],.none]]):=by kernel_rfl
def j8:List Nat:=32::34::39::(nj++nk++[33,35,36,38,40,41,59,60,62,123,124])
def JV (c:Nat):List Nat:=aB (aW c [42,63]) [91,c,93] (aB (aW c AQ) [92,c] [c])
theorem v8 (P:Params):j8.map (λ c=>iF P (.pos 0 [.lit c] false) [.tabT,.acc []])=j8.map λ c=>some (dm P (.pos 1 [] false),[],some 0,[.tabT,.acc [.str ((JV c).map .lit)]]):=by kernel_rfl
theorem Fr (P:Params):[42,63].map (λ c=>iF P (.pos 0 [.lit 91,.lit c,.lit 93] false) [.tabT,.acc []])=[42,63].map λ c=>some (dm P (.pos 3 [] false),[],some 0,[.tabT,.acc [.str ((JV c).map .lit)]]):=by kernel_rfl
theorem Cv (P:Params):∃ pos,c8 P 3=.While (qA (c8 P 3)) (G6 (c8 P 3)) [] pos:=⟨_,rfl⟩
theorem Cw (P:Params):Iu P (.pos 0 [] true) [.tabT,.acc []]=some (false,[.tabT,.acc []]):=by kernel_rfl
theorem JW (P:Params):(bY (IX P) (dF P) [c8 P 4,c8 P 5]).f ⟨dm P (.pos 0 [] true),[],some 0⟩ [.tabT,.acc []]=some (.ret (.ref 1),⟨dm P (.pos 0 [] true),[],some 0⟩,[.tabT,.acc []]):=by kernel_rfl
end
section
variable {hb:Heap} {prog:Program} {w:World} {I:aZ} {k:Nat} {hid ρ:List Addr} {σ:List O} {A:Around} {E:Value->Shared->Prop} {s:Shared} {P:Params} {h:Heap}
theorem Cx {i:Nat} {b:O} (H:Sh hb prog w I hid ρ σ h) (e:σ[i]?=some b) (hd:z7 b=true):∃ a items n,ρ[i]?=some a∧h.get? a=some { cls:=.type "list",data:=.seq items n }:=by
 refine ak (H.ob i _ e) λ a o e1 e2 e3=>?_;induction b using O.casesOn<;>first | (exact aT hd; done) | skip
 ·induction e3 using cD.casesOn; exact ⟨a,_,_,e1,e2⟩
 ·induction e3 using eS.casesOn; exact ⟨a,_,_,e1,e2⟩
theorem se (o:V) (n:Str) (σ:List O) (r:V×List O) (e:Fm o n σ=some r):aL hb prog w I k σ [o] r (t1 λ x=>getAttr x n true):=by
 intro A s hid ρ xs Q E R H V q;refine ag (wx V) ?_; rintro x rfl Vx;unfold Fm at e;revert e; refine cm ?_ λ e=>?_; rintro _ rfl e
 ·refine ai e λ hn e=>?_;refine aa e λ b e1 e=>?_;refine ai e λ hd e=>?_;induction e using sI;rw [aE] at e1;obtain rfl:=dj hn;induction Vx using bV.casesOn with
  | ref hr =>
   refine da (Cx H e1 hd) λ a items n g1 g2=>?_;rw [hr] at g1;induction g1 using sI;refine gg g2 ?_;obtain ⟨x2,H2⟩:=H.alloc (eI "list.append" (.ref _));exact q ρ _ _ s.gens _ x2 H2 (.bm (H.stbNew rfl) (.ref hr))
 ·exact ac e
theorem pZ {l:Addr} {items:Array Value} {n:Nat} {x:Value} {R:Result->Shared->Prop} {ba:Addr} (hq:s.heap.get? ba=some (eI "list.append" (.ref l))) (hl:s.heap.get? l=some { cls:=.type "list",data:=.seq items n }) (hz:items.size≤100000)
  (h:∀ h' m,h'.get? l=some { cls:=.type "list",data:=.seq (items.push x) m }->Heap.SameBut l s.heap h'->R (.ok (.ret .none)) { s with heap:=h' }):codeAny (model prog w) A (.call (.ref ba) ⟨[x],[]⟩) R s:=by
 refine gk hq PySem.F.slot_list_append.plain PySem.F.entry_list_append (zX hl) ?_;show wpAny _ _ (updateSeq l (·.push x) >>= λ _=>ret .none) _ _ s;refine wpAny_bind ?_;refine wpAny_updateSeq hl rfl (wpAny_pure ?_) (by unfold sizeLine; exact Nat.le_trans (by assumption) (by decide)) (by show (items.push x).size≤sizeLine+1; rw [Array.size_push]; unfold sizeLine; exact Nat.lt_of_le_of_lt (by assumption) (by decide))
 exact h _ _ (Heap.get?_update_self _ hl rfl) (Heap.SameBut.update ..)
theorem sf (hI:I.pre.length≤2000) (v:V) (id:String) (args:List V) (σ:List O) (r:V×List O) (e:Fo v id args σ=some r):aL hb prog w I k σ (.bm id v::args) r aS:=by
 intro A s hid ρ xs Q E R H V q;unfold Fo at e;induction V using aD.casesOn with
 | cons Vf V =>
 induction Vf using jl.casesOn with
 | bm g Vx =>
 revert e; refine cm ?_ λ e=>?_; rintro _ rfl e;rotate_left
 ·exact ac e
 have h2:=beq_iff_eq.mp (tC e).1;replace e:=(tC e).2;subst h2;revert e; refine av ?_ λ e=>?_; rintro _ _ rfl e; replace e:=af e; revert e; refine aM ?_ ac; rintro rfl e;rotate_left
 ·exact ac e
 refine aa e λ o e1 e=>?_;rw [aE] at e1;refine ag (wx V) ?_; rintro y rfl Vy;induction Vx using bV.casesOn with
 | ref hr =>
 refine ak (H.ob _ _ e1) λ a b f1 f2 f3=>?_;rw [hr] at f1;induction f1 using sI;revert e; refine fX ?_ λ e=>?_; rotate_left; replace e:=ar e; revert e; refine gW ?_ λ e=>?_; rintro _ rfl e; rotate_right; rintro _ rfl e
 ·rename_i l;refine ai e λ hl e=>?_;induction e using sI;have hz:=cH hl;induction f3 using cD.casesOn with
  | list W =>
   rename_i items n;have hn:=W.length;refine wpAny_call (pZ (s:=s) g.1 f2 (by simp; lia) λ h' m hp hs=>?_)
   refine aA.set (tk:=s.toks) H hr (λ c hc=>hs.2 c hc) hp ?_ .none q;have:items.toArray.push y=(items++[y]).toArray:=by simp
   rw [this];exact .list (W.append (.cons Vy .nil))
 ·rename_i l;refine ai e λ hl e=>?_;induction e using sI;have hz:=cH hl;induction f3 using eS.casesOn with
  | acc W =>
   rename_i items n;have hn:=W.length;rw [List.length_append] at hn;refine wpAny_call (pZ (s:=s) g.1 f2 (by simp; lia) λ h' m hp hs=>?_)
   refine aA.set (tk:=s.toks) H hr (λ c hc=>hs.2 c hc) hp ?_ .none q;have:items.toArray.push y=(items++[y]).toArray:=by simp
   rw [this];refine .acc ?_;rw [<-List.append_assoc];exact W.append (.cons Vy .nil)
 ·exact ac e
theorem qa {P:cI} {lv:Nat} {K:Frag} (hX:∀ {h:Heap},K.In h->(am w.params).In h) (G:cy hb prog w I K P lv) (o:V) (n:Str) (σ:List O) (f:V) (first:List V) (e:z8 P o n σ=some (f,first)):∀ A s hid ρ x pl Q E,aC A k->Sh hb prog w I hid ρ σ s.heap->VR I (ay hid ρ s.heap) ρ o x ->
  (∀ h' tk fx fs,Ext [] ρ ρ s.heap h'->Sh hb prog w I hid ρ σ h'->VR I (ay hid ρ h') ρ f fx->VRs I (ay hid ρ h') ρ first fs->Q (fx,fs) { s with heap:=h',toks:=tk })->wpAny (model prog w) A (getMethod x n pl) Q E s:=by
 unfold z8 at e;revert e; refine bo ?_ λ e=>?_; rintro _ rfl e; replace e:=af e; revert e; refine bM ?_ λ e=>?_; rintro _ rfl e
 ·refine ai e λ h1 e=>?_;refine ah λ G9 fin9=>?_;cases e;refine ab (Bool.and_eq_true_iff.mp h1) λ h1 h2=>?_;have:=Nat.eq_of_beq_eq_true h1;subst this;obtain rfl:=dj h2;refine fin9 ?_; clear fin9 G9;intro A s hid ρ x pl Q E R H V q;induction V using aK.casesOn;refine kP (DZ (hX (G.X.keeps H.base))) λ ob o1 o2 o3=>?_;exact getMethod_builtin (T := "re.Pattern") ⟨ob,o1,o2⟩ Fh j7 zZ (λ c hc=>by cases hc; exact ⟨ob,o1,o3⟩) (q s.heap s.toks _ _ (Ext.refl _ _ _) H (.val _) (.cons (.val _) .nil))
 ·exact fo G _ _ _ _ _ e
 ·exact fo G _ _ _ _ _ e
theorem iG {α β:Type} {l:List α} {a:Array β} (h:l.length=a.size):(!a.isEmpty)=jc l:=by
 unfold Array.isEmpty;induction l using List.casesOn with
 | nil=>rw [<-h]; rfl
 | cons _ _=>rw [<-h]; rfl
theorem si (hI:I.pre.length≤2000) (a:V) (σ:List O) (b:Bool) (e:Fp a σ=some b):∀ A s hid ρ x Q E,aC A k->Sh hb prog w I hid ρ σ s.heap->VR I (ay hid ρ s.heap) ρ a x->df hb prog w I hid ρ s (b,σ) Q->wpAny (model prog w) A (truthy x) Q E s:=by
 unfold Fp at e;revert e; refine cm ?_ λ e=>?_; rintro _ rfl e
 ·refine aa e λ o e1 e=>?_;rw [aE] at e1;intro A s hid ρ x Q E R H V q;have here:∀ tk,Q b { s with toks:=tk }:=λ tk=>q ρ s.heap tk s.gens (aI.refl _ _ _ _) H
  induction V using bV.casesOn with
  | ref hr =>
  refine ak (H.ob _ _ e1) λ a ob f1 f2 f3=>?_;rw [hr] at f1;induction f1 using sI;revert e; refine fX ?_ λ e=>?_; rotate_left; replace e:=ar e; revert e; refine gW ?_ λ e=>?_; rintro _ rfl e; rotate_right; rintro _ rfl e
  ·refine ai e λ hl e=>?_;induction e using sI;induction f3 using cD.casesOn with
   | list W =>
    rename_i items n;have hn:=W.length;have hz:=cH hl;refine wpAny_truthy_list (items:=items.toArray) ⟨_,f2,rfl,_,rfl⟩ (by simp; lia) ?_
    rw [iG (by simpa using hn)]
    exact here _
  ·rename_i l;refine ai e λ hl e=>?_;induction e using sI;refine ab (Bool.and_eq_true_iff.mp hl) λ hl hz=>?_;have hz:=cH hz;induction f3 using eS.casesOn with
   | acc W =>
    rename_i items n;have hn:=W.length;rw [List.length_append] at hn;refine wpAny_truthy_list (items:=items.toArray) ⟨_,f2,rfl,_,rfl⟩ (by simp; lia) ?_
    have hc:jc (I.pre++l)=true:=by
     induction l using List.casesOn with
     | nil=>exact aT hl
     | cons _ _=>induction I.pre using List.casesOn<;>rfl
    rw [iG (l:=I.pre++l) (by simpa using hn),hc]
    exact here _
  ·exact ac e
 ·exact iC _ _ _ e
theorem qb {α:Type}:∀ {l:List α} {v:α},uK l=some v->∃ r,l=r++[v]
 | [],_,h=>by exact ac h
 | [a],v,h=>by induction h using sI; exact ⟨[],rfl⟩
 | a::b::r,v,h=>by
  refine aj (qb (show uK (b::r)=some v from h)) λ r' e=>?_;exact ⟨a::r',by rw [e]; rfl⟩
theorem qc (LI:I.line.length≤3000) (hI:I.pre.length≤2000) (a b:V) (σ:List O) (r:V×List O) (e:z9 a b σ=some r):∀ A s hid ρ x y Q E,aC A k->Sh hb prog w I hid ρ σ s.heap->VR I (ay hid ρ s.heap) ρ a x->VR I (ay hid ρ s.heap) ρ b y->aA hb prog w I hid ρ s r Q->SubscriptOn (model prog w) A x y Q E s:=by
 unfold z9 at e;revert e; refine cm ?_ λ e=>?_; rintro _ rfl e
 ·revert e; refine bc ?_ λ e=>?_; rintro _ rfl e
  ·rename_i i j;refine ai e λ h1 e=>?_;rw [dD] at h1;have:=of_decide_eq_true h1;subst this;refine aa e λ o e1 e=>?_;rw [aE] at e1;revert e; refine gW ?_ λ e=>?_; rintro _ rfl e
   ·rename_i l;refine az e ?_; rintro v e2 rfl;refine aj (qb e2) ?_; rintro l' rfl;intro A s hid ρ x y Q E R H Vx Vy q;induction Vx using bV.casesOn with
    | ref hr =>
    induction Vy using aH.casesOn;refine ak (H.ob _ _ e1) λ a ob f1 f2 f3=>?_;rw [hr] at f1;induction f1 using sI;induction f3 using eS.casesOn with
    | acc W =>
    rename_i items n;have hn:=W.length;refine ag (W.get (i:=items.length - 1) (v:=v) (by
     rw [<-hn,<-List.append_assoc];simp)) λ z hz Vz=>?_
    have hp:1≤items.length:=by rw [<-hn]; simp; exact Nat.le_of_ble_eq_true rfl
    refine ⟨"list",_,fh,⟨_,f2,rfl⟩,?_⟩;refine wpAny_getItem_list_neg (items:=items.toArray) ⟨_,f2,rfl,_,rfl⟩ (by decide) (by simp; lia) (by decide) ?_ (aA.tok (n:=s.toks) H q Vz)
    rw [List.getElem?_toArray,List.size_toArray];have:((-1:Int)+(items.length:Int)).toNat=items.length - 1:=by grind
    rw [this]; exact hz
   ·exact ac e
  ·exact ac e
 ·exact gH LI _ _ _ _ e
theorem JX {α:Type} {x y r:α} (h:aB true x y=r):x=r:=h
theorem sj {P:cI} (OB:∀ a,aW a P.objs=true->∃ o,hb.get? a=some o∧o.cls≠.type "tuple") (C:dZ I P.cl) (op:CmpOp) (a b:V) (σ:List O) (t:Bool) (h:Fq P op a b σ=some t):aL hb prog w I (k+1) σ [a,b] (.bool t,σ) (t2 (compareOp op)):=by
 unfold Fq at h;cases hq:decide (op=.Eq) with
 | true =>
  rw [hq] at h;cases of_decide_eq_true hq;replace h:=JX h;revert h; refine cn ?_ λ h=>?_; rintro _ _ _ rfl h
  ·rename_i off ch fl;intro A s hid ρ xs Q E R H V q;refine ak (di V) ?_; rintro x y rfl Vx Vy;refine xL (rK h Vx Vy) ?_; rintro i j u v rfl rfl rfl;have hb:b=.pend:=by
    induction b using Mine.V.casesOn<;>first | rfl | exact ac h
   subst hb;cases Vx with
   | pos t h1 h2 h3 =>
   cases Vy with
   | pend t2 =>
   refine PySem.P.eq_int ?_;have:(((I.base+off:Nat):Int) == (I.line.cps.toList.length:Int))=decide ((I.line.cps.toList.length:Int)≤((I.base+off:Nat):Int)):=by
    rw [Bool.eq_iff_iff];simp only [beq_iff_eq,decide_eq_true_eq];omega
   rw [this];exact aA.tok (n:=s.toks) H q (.bool _)
  ·exact cJ OB C .Eq a b σ t h
 | false =>
  rw [hq] at h;exact cJ OB C op a b σ t h
end
section
variable {hb:Heap} {prog:Program} {w:World} {I:aZ} {mg mb:Str->Option Value}
theorem JY {P:Params} (I:aZ) (X:(am P).In hb):bK hb I 286 (aJ (am P) 286 []):=by
 refine bS I (fd:=dk P 286) X (by kernel_rfl) (by kernel_rfl) (by kernel_rfl) (by kernel_rfl) (by kernel_rfl) λ xs h=>?_
 have e:(aJ (am P) 286 []).ps.length=1:=by kernel_rfl
 rw [e] at h;refine aj (gQ h) ?_; rintro a rfl;kernel_rfl
theorem mV {M:Model} {A:Around} {E:Value->Shared->Prop} {s:Shared} {x:Str} {t:Tok} {pl:Sem Bool} {Q:Value×List Value->Shared->Prop} (h:Q (.builtin "str.translate",[.str x t]) s):wpAny M A (getMethod (.str x t) "translate" pl) Q E s:=by
 with_reducible exact GM.of (.str x t) (typeIs_str _ _ _) PySem.F.slot_str_translate PySem.F.type_str_translate GM.noRef h
theorem Cy (G:cz w hb) (hI:I.pre.length≤2000) (hl:I.line.length≤3000):cy hb prog w I (am w.params) (pY (am w.params)) 20:=by
 refine ak G.ns λ mg mb hg hbn hB=>?_;refine ⟨G.B,G.GO,λ k h=>(h rfl).elim,hl,G.X,dE hg hbn ?_,λ a f e=>?_,λ C S e=>(by exact ac e),λ C n f e=>(by exact ac e),λ a m=>(by exact aT m),λ a m=>(by exact aT m),λ id f e=>?_,λ n id e=>?_,λ v id args σ r e=>sf hI v id args σ r e,λ o n σ r e=>se o n σ r e⟩
 ·exact BS 3 (IW G.X hg hB (by kernel_rfl) (by kernel_rfl) (by kernel_rfl)) (E7 G.X hg (by kernel_rfl))
 ·have m:=fq e;exact ⟨DR m (fa (JY I G.X) ja),pK G.X (bW (f:=λ (q:Addr×zv)=>keepIn (am w.params) (.ref q.1)) (g:=λ _=>true) (by kernel_rfl) (a,f) m)⟩
 ·exact DR (p:=λ (id:String) f=>∀ args σ r,f args σ=some r->aL hb prog w I _ σ (.val (.builtin id)::args) r aS) (uw e) (fa (λ args σ r e=>iE (λ k h=>(h rfl).elim) args σ r e) <| fa (λ args σ r e=>vW G.X args σ r e) <| fa (λ args σ r e=>sb G.X args σ r e) ja)
 ·unfold pY kD at e;cases h1:("replace" : Str) == n with
  | true =>
   rw [h1] at e;induction e using sI;rw [<-beq_iff_eq.mp h1];intros;exact GM.replace (by assumption)
  | false =>
   rw [h1] at e;change kD [("translate", "str.translate")] n=some id at e;unfold kD at e;cases h2:("translate" : Str) == n with
   | true =>
    rw [h2] at e;induction e using sI;rw [<-beq_iff_eq.mp h2];intros;exact mV (by assumption)
   | false=>rw [h2] at e; exact ac e
theorem jd (G:cz w hb) (hI:I.pre.length≤2000) (hl:I.line.length≤3000):cN hb prog w I (bD 20 3) (vY (pY (am w.params))):=by
 have PS:=Cy (prog:=prog) G hI hl;have OK:=ce PS 3;exact ⟨OK.glob,OK.call,OK.keeper,λ o n σ f first e=>qa (λ h=>h) PS o n σ f first e,OK.attr,OK.bin,OK.una,λ op a b σ r e=>sj PS.objs PS.C op a b σ r e,λ a σ b e=>si hI a σ b e,λ a b σ r e=>qc hl hI a b σ r e,OK.cut,OK.inp,OK.setA,OK.setI⟩
end
section
noncomputable def IR (L:Str) (pre:List V) (b:Nat):aZ:=⟨λ _=>0,L,λ _=>0,[],b,pre,.bare,[]⟩
def fK:V->Bool:=λ x0=>(cg (aP (aV (false) (λ s=>s.all λ c=>match c with | .lit _=>true | .at _=>false) x0)) (true) x0)
end
section
variable {I J:aZ} {S S':Addr->Obj->Prop} {ρ ρ':List Addr}
theorem VR.txt {v:V} {x:Value} (c:fK v=true) (a:VR I S ρ v x):VR J S' ρ' v x:=by
 induction v using V.casesOn with
 | none=>induction a using be.casesOn; exact .none
 | str x=>induction a using aG.casesOn; rw [jX (J:=J) c]; exact .str x _
 | _=>exact aT c
theorem VRs.txt:∀ {l:List V} {xs:List Value},l.all fK=true->VRs I S ρ l xs->VRs J S' ρ' l xs:=by
 intro l;induction l with
 | nil =>
  intro _ _ W;induction W using bQ.casesOn; exact .nil
 | cons _ _ ih =>
  intro _ c W;induction W using aD.casesOn with
  | cons a b =>
  rw [List.all_cons,Bool.and_eq_true] at c;exact .cons (a.txt c.1) (ih c.2 b)
theorem F.lt_of {i:Nat} {e:F} {v:V} (h:F.get i e=some v):i < 24:=by
 by_cases q:i < 24
 ·exact q
 ·have:∃ n,i=n+24:=⟨i - 24,by simp_all⟩
  refine aj this ?_; clear this; rintro n rfl;exact ac h
theorem F.rel {pl:List (Option Nat)} {vals vals':List V} {R:V->V->Prop} (h:∀ (j:Nat) (v':V),vals'[j]?=some v'->∃ v:V,vals[j]?=some v∧R v v'):∀ (k:Nat) (v':V),F.get k (F.of (pl.map (aX vals')))=some v'->∃ v,F.get k (F.of (pl.map (aX vals)))=some v∧R v v':=by
 intro k v' e;have hk:=F.lt_of e;have e:=F.get_of _ _ e;rw [List.getElem?_map] at e;cases q:pl[k]? with
 | none=>rw [q] at e; exact ac e
 | some o =>
  rw [q] at e;have e:aX vals' o=some v':=Option.some.inj e;refine aa e ?_; rintro j rfl e3;rw [aE] at e3;refine ag (h j v' e3) λ v e1 e2=>?_;refine ⟨v,?_,e2⟩;rw [F.get_of_eq _ _ hk,aE,List.getElem?_map,q];show aX vals (some j)=some v;show aU vals j=some v;rw [aE]; exact e1
theorem Aa {N:aq} {xs:List Str} {e:F} {k:Nat} {v:V} (h:F.get k (keepF N xs e)=some v):F.get k e=some v:=by
 unfold keepF at h;have h:=F.get_of _ _ h;rw [List.getElem?_map] at h;cases q:(N.zip e.list)[k]? with
 | none=>rw [q] at h; exact ac h
 | some p =>
  rw [q] at h;obtain ⟨a,b⟩:=p;have h:=Option.some.inj h;refine ai h λ _ h=>?_;rw [List.getElem?_zip_eq_some] at q;rw [F.get_list,q.2,show b=some v from h]; rfl
end
section
variable {hb:Heap} {prog:Program} {w:World} {I J:aZ} {L:Str} {N:aq} {env:Env} {hid ρ:List Addr} {σ:List O} {A:Around} {E:Value->Shared->Prop} {s:Shared} {P:Params} {h:Heap} {cel:List (Option Nat)} {tab:Option Nat} {loc loc':F}
theorem ao.re (Y:ao I N env ⟨loc,[],tab⟩ hid ρ h) (hl:∀ k v',F.get k loc'=some v'->∃ v,F.get k loc=some v∧∀ x,VR I (ay hid ρ h) ρ v x->VR J (ay hid ρ h) ρ v' x):ao J N env ⟨loc',[],tab⟩ hid ρ h:=by
 refine ⟨Y.kind,Y.names,Y.gl,Y.bu,Y.hidL,?_,λ x i k c e0 e=>(by induction i using Nat.casesOn<;>exact ac e),Y.code⟩
 refine ag Y.loc λ m hn hm=>?_;refine ⟨m,hn,λ x i k v e0 e=>?_⟩;refine ag (hl i v e) λ u e1 e2=>?_;refine ag (hm x i k u e0 e1) λ val e3 e4=>?_;exact ⟨val,e3,e2 _ e4⟩
theorem ao.keepF {xs:List Str} (Y:ao I N env ⟨loc,[],tab⟩ hid ρ h):ao I N env ⟨Mine.keepF N xs loc,[],tab⟩ hid ρ h :=
 Y.re λ k v e=>⟨v,Aa e,λ _ a=>a⟩
theorem ao.reT {i i':V} (hl:I.line=J.line) (Y:ao I (dF P) env ⟨dm P i,[],tab⟩ hid ρ h) (hi:∀ S ρ x,VR I S ρ i x->VR J S ρ i' x):ao J (dF P) env ⟨dm P i',[],tab⟩ hid ρ h:=by
 refine Y.re (F.rel λ j v' e=>?_);match j,e with
 | 0,e=>induction e using sI; exact ⟨_,rfl,λ x a=>a.re hl rfl⟩
 | 1,e=>induction e using sI; exact ⟨_,rfl,λ x a=>a.re hl rfl⟩
 | 2,e=>induction e using sI; exact ⟨_,rfl,λ x a=>a.re hl rfl⟩
 | 3,e=>induction e using sI; exact ⟨_,rfl,λ x a=>a.re hl rfl⟩
 | 4,e =>
  induction e using sI;refine ⟨_,rfl,λ x a=>?_⟩;induction a using jl.casesOn with
  | bm g a=>exact .bm g (a.re hl rfl)
 | 5,e=>induction e using sI; exact ⟨_,rfl,λ x a=>hi _ _ _ a⟩
 | 6,e=>induction e using sI; exact ⟨_,rfl,λ x a=>a.re hl rfl⟩
 | n+7,e=>simp at e
theorem Cz (OK:cN hb prog w I (bD 20 3) (vY (pY (am w.params)))) (GO:cZ hb) {i i':V} {σ':List O} {K:Shared->Prop} {B:Shared->Prop} {V:Value->Shared->Prop} {W:Shared->Prop} (e:iF w.params i σ=some (dm w.params i',[],some 0,σ')) (R:aC A (bD 20 3))
  (Y:ao I (dF w.params) env ⟨dm w.params i,[],some 0⟩ hid ρ s.heap) (H:Sh hb prog w I hid ρ σ s.heap)
  (q:∀ ρ' h' tk gs,aI I [env.locals] ρ ρ' s.heap s.gens h' gs->Sh hb prog w I hid ρ' σ' h'->ao I (dF w.params) env ⟨dm w.params i',[],some 0⟩ hid ρ' h'->K { s with heap:=h',toks:=tk,gens:=gs }) :
  wpAny (model prog w) A (isTrue (qA (c8 w.params 3)) env (eval (qA (c8 w.params 3)) env)) (λ b s₂=>if b=true then wpAny (model prog w) A (execs (G6 (c8 w.params 3)) env) (λ f s₃=>match f with
   | .next=>K s₃ | .cont=>K s₃ | .brk=>B s₃ | .ret v=>V v s₃) E s₂ else W s₂) E s:=by
 unfold iF at e;refine aa e λ p e1 e=>?_;refine ai e λ hp e=>?_;refine aa e λ r e2 e=>?_;obtain ⟨fl,ae,σ2⟩:=r;cases fl<;>first | (exact ac e; done) | skip
 have e:=Option.some.inj e;injection e with g1 e
 injection e with g2 e
 injection e with g3 g4
 dsimp only at g1 g2 g3 g4;subst g4;have EV:=bl GO OK 19;have SX:=aY GO OK 12 19;refine EV.2 _ _ _ _ _ e1 _ _ _ _ _ _ _ R Y H λ ρ2 h2 tk2 gs2 x2 H2=>?_;rw [hp];simp only [if_true];refine bi (s:={ s with heap:=h2,toks:=tk2,gens:=gs2 }) SX R e2 (Y.ext H x2.toExt) H2 λ ρ3 h3 tk3 gs3 fl x3 H3 Y3 F3=>?_
 (have j9:=vn.nextE F3; clear F3; subst j9)
 obtain ⟨loc3,cel3,tab3⟩:=ae;dsimp only at g1 g2 g3;subst g2 g3;refine q ρ3 h3 tk3 gs3 ((x2.wk).trans x3 (Y.ext H x2.toExt).alive) H3 ?_;rw [<-g1];exact Y3.keepF
end
section
noncomputable def AR:Str:=⟨#[39]⟩
noncomputable def sk:Str:=⟨#[39,34,39,34,39]⟩
def iH (P:Params) (i:Nat):Stmt:=rV (aJ (am P) 1008 []).body i
def dN (P:Params):F:=F.of ((plan (aJ (am P) 1008 []).names ["s"]).map (aX [.str [.at 0]]))
noncomputable abbrev pA:cI:=j4 (cs [39]) true
theorem Ab (P:Params):(aJ (am P) 1008 []).body=[iH P 0,iH P 1,iH P 2,iH P 3]:=by kernel_rfl
theorem Ac (P:Params):dU (aJ (am P) 1008 []) [.str [.at 0]]=some (dN P):=by kernel_rfl
theorem Fs (P:Params):(aJ (am P) 1008 []).ps=[("s" : Str)]:=by kernel_rfl
theorem z0 (P:Params):(Fe pA (aJ (am P) 1008 []).names (iH P 0)).f ⟨dN P,[],none⟩ []=some (.next,⟨dN P,[],none⟩,[]):=by kernel_rfl
theorem z1 (P:Params):(Fe pA (aJ (am P) 1008 []).names (iH P 1)).f ⟨dN P,[],none⟩ []=some (.next,⟨dN P,[],none⟩,[]):=by kernel_rfl
theorem z2 (P:Params):(Fe pA (aJ (am P) 1008 []).names (iH P 2)).f ⟨dN P,[],none⟩ []=some (.next,⟨dN P,[],none⟩,[]):=by kernel_rfl
theorem z3 (P:Params):∃ k1 p1 p2 p3 k2 p4 k3 p5 p6 p7 k4 p8 p9 p10,iH P 3=.Return (some (.BinOp (.BinOp (.Constant (.str AR) k1 p1) .Add (.Call (.Attribute (.Name "s" p2) "replace" p3) [.Constant (.str AR) k2 p4,.Constant (.str sk) k3 p5] [] p6) p7) .Add (.Constant (.str AR) k4 p8) p9)) p10∧(p3.endLine == p6.line)=true:=⟨_,_,_,_,_,_,_,_,_,_,_,_,_,_,rfl,rfl⟩
theorem KN (P:Params):(b9 (hO pA 3) (aJ (am P) 1008 []).names "s").f ⟨dN P,[],none⟩ []=some (.str [.at 0]):=by kernel_rfl
theorem Iv:Txt.replace AR AR sk=sk:=by decide +kernel
end
section
variable {hb:Heap} {prog:Program} {w:World} {A:Around} {E:Value->Shared->Prop} {s:Shared} {t:Tok}
theorem uL {x y z:Str} {u v:Tok} {Q:Value->Shared->Prop} (h1:x.length≠0) (h2:y.length≠0) (hz:x++y=z) (h3:z.length≤100) (q:∀ t k,Q (.str z t) { s with toks:=k }):wpAny (model prog w) A (binaryOp .Add (.str x u) (.str y v)) Q E s:=by
 refine PySem.P.add_str ?_;rw [if_neg (by simpa using h1),if_neg (by simpa using h2),hz]
 exact Made.str_post (by unfold sizeLine; exact Nat.le_trans (by assumption) (by decide)) q
theorem Ad (G:cz w hb) {Q:Value->Shared->Prop} (R:aC A 40) (kb:∀ b o,hb.get? b=some o->s.heap.get? b=some o)
  (q:∀ h' tk t',(∀ b o,s.heap.get? b=some o->h'.get? b=some o)->Q (.str ⟨(aN 39).toArray⟩ t') { s with heap:=h',toks:=tk }):wpAny (model prog w) A (call (.ref 1008) [.str ⟨#[39]⟩ t]) Q E s:=by
 have H:Sh hb prog w (IQ 39) [] [] [] s.heap:=Sh.bare G.X kb;have PS:=uH (prog:=prog) (I:=IQ 39) (c:=39) (cl:=cs [39]) (un:=true) G (uI (by rfl)) (λ _=>rfl) (by show 0≤3000; decide) (by rfl)
 have OK:=ce PS 3;have SX0:=aY PS.GO OK pA.W pA.D;refine wpAny_call (fH (DX (IQ 39) G.X) G.B.nl (Ac w.params) (by have:=R.d; exact Nat.lt_of_le_of_lt (Nat.le_add_right _ _) (by assumption)) H (.cons (VR.str (I:=IQ 39) [.at 0] t) .nil) λ h₁ tk env el ef ek en eh hk H1 Y1 htk _=>?_)
 have htk:=htk (by simp) (by rw [Fs]; simp)
 rw [Ab];have Rl:aC (A.deeper env) (bD 20 3):=(R.low (show bD 20 3+1≤40 by unfold bD; simp [*])).deeper env
 refine wpAny_execs_cons (wpAny_with_toks (n:=1) htk (SX0 _ _ _ _ _ (z0 w.params) _ _ _ _ _ _ _ Rl Y1 H1 (bC.next rfl H1 λ h2 tk2 gs2 x2 H2 Y2=>λ htk2=>?_)));refine wpAny_execs_cons (wpAny_with_toks (n:=1) htk2 (SX0 _ _ _ _ _ (z1 w.params) _ { s with heap:=h2,toks:=tk2,gens:=gs2 } _ _ _ _ _ Rl Y2 H2 (bC.next rfl H2 λ h3 tk3 gs3 x3 H3 Y3=>λ htk3=>?_)))
 refine wpAny_execs_cons (wpAny_with_toks (n:=1) htk3 (SX0 _ _ _ _ _ (z2 w.params) _ { s with heap:=h3,toks:=tk3,gens:=gs3 } _ _ _ _ _ Rl Y3 H3 (bC.next rfl H3 λ h4 tk4 gs4 x4 H4 Y4=>λ htk4=>?_)))
 have hg:gs4=s.gens:=(x4.gb).trans ((x3.gb).trans x2.gb);subst hg;have kp:∀ b o,s.heap.get? b=some o->h4.get? b=some o:=λ b o e=>by
  have nl:b≠env.locals:=λ q=>by rw [q,en] at e; exact ac e
  exact x4.toExt.keep b o (x3.toExt.keep b o (x2.toExt.keep b o (hk b o e) (by simp) (by simpa using nl)) (by simp) (by simpa using nl)) (by simp) (by simpa using nl)
 refine wpAny_execs_cons ?_;obtain ⟨k1,p1,p2,p3,k2,p4,k3,p5,p6,p7,k4,p8,p9,p10,hs3,hline⟩:=z3 w.params;rw [hs3];refine wpAny_Return_some (wpAny_BinOp (wpAny_BinOp (Calls.Constant_str ?_)));rw [arm_eval_Call,ex (by rfl)]
 refine wpAny_bind (wpAny_with_toks (n:=1) (by show 1≤tk4+1; simp [*]) (bI (s:={ s with heap:=h4,toks:=tk4+1 }) OK (KN w.params) Y4 H4 (aA.same rfl H4 λ h5 tk5 gs5 v x5 H5 V5=>λ htk5=>?_)))
 have hg:gs5=s.gens:=x5.gb;subst hg;induction V5 using aG.casesOn;refine wpAny_bind (wpAny_standAt ?_);have hfew:methodCallForm (([.Constant (.str AR) k2 p4,.Constant (.str sk) k3 p5]:List Expr).length+([]:List Keyword).length) (backTo p6 (starEach [.Constant (.str AR) k2 p4,.Constant (.str sk) k3 p5] env)) (backToKw p6 (keywordEach [] env))=true:=by rfl
 unfold methodCall calleeOf methodCallPos;rw [hfew];simp only [if_true,hline,Bool.not_true,Bool.false_or];refine wpAny_bind (wpAny_holding (GM.replace ?_));refine wpAny_bind (wpAny_pure ?_);show wpAny (model prog w) _ (callWith p6 (.builtin "str.replace") [.str (den (IQ 39) [.at 0]) _] (backTo p6 (starEach [.Constant (.str AR) k2 p4,.Constant (.str sk) k3 p5] env)) []) _ _ _;refine bq (bH rfl) (br rfl ?_);refine wpAny_items_cons (Calls.Constant_str (wpAny_items_cons (Calls.Constant_str (wpAny_items_nil ?_)) rfl)) rfl;refine ⟨⟨.machine,Looks.of_pure rfl⟩,?_⟩;refine SC.replace (x:=AR) (y:=AR) (z:=sk) (Nat.ne_of_gt htk5) (Nat.succ_ne_zero _) (Nat.ne_of_lt (Nat.lt_succ_self _)) (by decide) (by decide) λ t' k'=>?_
 rw [Iv];refine uL (z:=⟨#[39,39,34,39,34,39]⟩) (by decide) (by decide) rfl (by decide) λ t2 k5=>?_
 refine Calls.Constant_str ?_;refine uL (z:=⟨(aN 39).toArray⟩) (by decide) (by decide) rfl (by decide) λ t6 k6=>?_
 exact q h5 k6 t6 λ b o e=>x5.toExt.keep b o (kp b o e) (by simp) (by simp)
theorem Ae {c:Nat} (G:cz w hb) (ok:fr c=true) {Q:Value->Shared->Prop} (R:aC A 40) (kb:∀ b o,hb.get? b=some o->s.heap.get? b=some o)
  (q:∀ h' tk t',(∀ b o,s.heap.get? b=some o->h'.get? b=some o)->Q (.str ⟨(aN c).toArray⟩ t') { s with heap:=h',toks:=tk }):wpAny (model prog w) A (call (.ref 1008) [.str ⟨#[c]⟩ t]) Q E s:=by
 by_cases h:c=39
 ·subst h; exact Ad G R kb q
 ·exact zV G ok h R kb q
end
section
variable {M:Model} {A:Around} {E:Value->Shared->Prop} {s:Shared}
theorem Af {env:Env} {c P:Addr} {ps:Array Value} {pos:Pos} {qualname:Str} {scope:Scope} {Q:Value->Shared->Prop} (hc:env.code=.ref c) (hcd:CodeHd s.heap c P) (hP:s.heap.get? P=some (tabObj ps)) (htr:TriplesOk ps.toList)
  (hQ:∀ code h' tk ps',Heap.ExtBut P s.heap h'->h'.get? P=some (tabObj ps')->TriplesOk ps'.toList->Q code { s with heap:=h',toks:=tk }) :
  wpAny M A (genexprCode env pos qualname scope) Q E s:=by
 obtain ⟨o,vs,file,tf,flags,tg,inF,text,tt,ho,hcl,hd,h11,h11',h2,h7,h9,h10,hne⟩:=id hcd;unfold genexprCode codeAt;rw [hc,if_neg (show ¬ ((Value.ref c == Value.none)=true) from Bool.false_ne_true)];refine wpAny_bind (wpAny_fieldsOf ho hd ?_);rw [h11'];refine wpAny_bind (wpAny_fieldsOf hP rfl ?_);cases hnf:codeAmong pos ps.toList with
 | some cv=>exact wpAny_pure (hQ cv s.heap s.toks ps (Heap.ExtBut.refl _ _) hP htr)
 | none =>
  rw [h2,h7,h9,h10];refine wpAny_bind (wpAny_newCode λ c' P' h' tk hk hc' hP' hcode' hrec'=>?_);have hop':=hk _ _ hP;refine wpAny_bind (wpAny_updateFieldsOfTheText hop' rfl ?_);have hnew:(Obj.mapFields (λ vs=>if (codeAmong pos vs.toList).isSome=true then vs else vs++#[rawInt pos.line,rawInt pos.col,.ref c']) (tabObj ps))=tabObj (ps++#[rawInt pos.line,rawInt pos.col,.ref c']):=by
   show (⟨.none,none,.fields (if (codeAmong pos ps.toList).isSome=true then ps else ps++#[rawInt pos.line,rawInt pos.col,.ref c']),#[]⟩:Obj)=_
   rw [hnf]; rfl
  have hget:=Heap.get?_update_self (h:=h') (λ o=>Obj.mapFields (λ vs=>if (codeAmong pos vs.toList).isSome=true then vs else
   vs++#[rawInt pos.line,rawInt pos.col,.ref c']) o) hop' (by rw [hnew]; rfl)
  rw [hnew] at hget;refine wpAny_bind (wpAny_fieldsOf hget rfl ?_);have hl:(ps++#[rawInt pos.line,rawInt pos.col,Value.ref c']).toList=ps.toList++[rawInt pos.line,rawInt pos.col,.ref c']:=by simp
  rw [hl,codeAmong_snoc _ htr hnf];exact wpAny_pure (hQ _ _ _ (ps++#[rawInt pos.line,rawInt pos.col,.ref c']) (λ b o' hb e=>((Heap.SameBut.update ..).extBut b o' hb (hk b o' e))) hget (by rw [hl]; exact TriplesOk_snoc _ _ _ _ htr))
end
section
def uM (P:Params) (i:Nat):Stmt:=rV (aJ (am P) 1000 []).body i
def je (P:Params) (l:List V):F:=F.of ((plan (aJ (am P) 1000 []).names ["split_command"]).map (aX [.lst l]))
theorem Ag (P:Params):(aJ (am P) 1000 []).body=[uM P 0,uM P 1]:=by kernel_rfl
theorem Ah (P:Params) (l:List V):dU (aJ (am P) 1000 []) [.lst l]=some (je P l):=by kernel_rfl
theorem j0 (P:Params) (l:List V):(SX (pW P []) (aJ (am P) 1000 []).names (uM P 0)).f ⟨je P l,[],none⟩ [.tabT]=some (.next,⟨je P l,[],none⟩,[.tabT]):=by kernel_rfl
theorem KO (P:Params) (l:List V):(b9 (hO (pW P []) 7) (aJ (am P) 1000 []).names "split_command").f ⟨je P l,[],none⟩ [.tabT]=some (.lst l):=by kernel_rfl
noncomputable def Ai (sc:Scope):List (Option Nat):=sc.names.map λ _=>none
structure JS (P:Params) (sc:Scope):Prop where
 plan:cq (aJ (am P) 1000 []).names sc.names=some (Ai sc)
 cels:fc [] (Ai sc)=some (Ai sc |>.map λ _=>none)
 co:sc.isCoroutine=false
 kind:sc.kind=.function
 cell:jb sc.names=true
 it:sc.names.lookup (".0" : Str)=some NameKind.local
 arg:sc.names.lookup ("arg" : Str)=some NameKind.local
 quote:sc.names.lookup ("quote" : Str)=some NameKind.globalImplicit
theorem j1 (P:Params):∃ sc k1 p1 p2 p3 p4 p5 p6 p7 p8 p9 p10,uM P 1=.Return (some (.Call (.Attribute (.Constant (.str ⟨#[32]⟩) k1 p1) "join" p2) [.GeneratorExp (.Call (.Name "quote" p3) [.Name "arg" p4] [] p5) [⟨.Name "arg" p6,.Name "split_command" p7,[],0⟩] sc p8] [] p9)) p10∧(p2.endLine == p9.line)=true∧JS P sc:=⟨_,_,_,_,_,_,_,_,_,_,_,_,rfl,rfl,by kernel_rfl,by kernel_rfl,by kernel_rfl,by kernel_rfl,by kernel_rfl,by kernel_rfl,by kernel_rfl,by kernel_rfl⟩
end
section
variable {P:Params} {hb:Heap}
theorem Iw (I:aZ) (X:(am P).In hb):bK hb I 1000 (aJ (am P) 1000 []):=by
 refine bS I (fd:=dk P 1000) X (by kernel_rfl) (by kernel_rfl) (by kernel_rfl) (by kernel_rfl) (by kernel_rfl) λ xs h=>?_
 have e:(aJ (am P) 1000 []).ps.length=1:=by kernel_rfl
 rw [e] at h;refine aj (gQ h) ?_; rintro a rfl;kernel_rfl
end
section
variable {hb:Heap} {prog:Program} {w:World} {hid:List Addr} {A:Around} {s:Shared} {E:Value->Shared->Prop}
theorem Ft {I:aZ} {S:Addr->Obj->Prop} {ρ:List Addr}:∀ {ws:List Nat} {xs:List Value},VRs I S ρ (ws.map λ c=>.str [.lit c]) xs->pP xs ws:=by
 intro ws;induction ws with
 | nil =>
  intro _ W;induction W using bQ.casesOn; exact .nil
 | cons c ws ih =>
  intro _ W;induction W using aD.casesOn with
  | cons a b =>
  induction a using aG.casesOn;exact .cons _ (ih b)
theorem pP.get {r:List Value} {l:List Nat} (h:pP r l):∀ {i:Nat} {v:Value},r[i]?=some v->∃ c t,l[i]?=some c∧v=.str ⟨#[c]⟩ t:=by
 induction h with
 | nil=>intro i v e; simp at e
 | cons t _ ih =>
  intro i v e;induction i using Nat.casesOn with
  | zero=>simp at e; exact ⟨_,t,rfl,e.symm⟩
  | succ i=>simpa using ih (by simpa using e)
theorem iI (n:Nat):passing (λ _=>true) n 0=List.range n:=by
 unfold passing;rw [List.drop_zero];exact List.filter_eq_self.mpr λ _ _=>rfl
theorem uN (a b:List Nat):(⟨a.toArray⟩:Str)++(⟨b.toArray⟩:Str)=⟨(a++b).toArray⟩:=by
 show (⟨a.toArray++b.toArray⟩:Str)=_;simp
theorem iJ:∀ ws:List Nat,Str.join ⟨#[32]⟩ (ws.map λ c=>⟨(aN c).toArray⟩)=⟨(jn ws).toArray⟩
 | []=>rfl
 | [c]=>rfl
 | c::d::r=>by
  have ih:=iJ (d::r);show (⟨(aN c).toArray⟩:Str)++⟨#[32]⟩++Str.join ⟨#[32]⟩ ((d::r).map λ c=>⟨(aN c).toArray⟩)=_;rw [ih];show (⟨(aN c).toArray⟩:Str)++(⟨([32]:List Nat).toArray⟩:Str)++_=_;rw [uN,uN];show _=(⟨(aN c++32::jn (d::r)).toArray⟩:Str);simp
theorem hV (c:Nat):(aN c).length≤7:=by
 unfold aN;cases Nat.beq c 39<;>cases (aW c nj || aW c nk)<;>simp [aB]
theorem mW {l:List (Str×Tok)} {ws:List Nat} {n:Nat} (hn:n=ws.length) (hacc:ItemsOf (λ j y=>∃ i,(passing (λ _=>true) n 0)[j]?=some i∧∃ c t,ws[i]?=some c∧y=.str ⟨(aN c).toArray⟩ t) (strValues l).toArray (passing (λ _=>true) n 0).length):l.map (·.1)=ws.map λ c=>⟨(aN c).toArray⟩:=by
 rw [iI] at hacc;refine ab hacc λ h1 h2=>?_; clear hacc;have hlen:l.length=ws.length:=by
  have:(strValues l).length=l.length:=by simp [strValues]
  rw [List.size_toArray,this,List.length_range] at h1;exact Eq.trans (by assumption) (by assumption)
 apply List.ext_getElem?;intro j;by_cases hj:j < l.length
 ·have hv:(strValues l).toArray[j]?=some (.str l[j].1 l[j].2):=by simp [strValues,List.getElem?_eq_getElem hj]
  obtain ⟨i,e1,c,t,e2,e3⟩:=h2 j _ hv;have hij:j=i:=by
   rw [List.getElem?_range (by lia)] at e1
   exact Option.some.inj e1
  subst hij;injection e3 with e4 _
  rw [List.getElem?_map,List.getElem?_map,e2,List.getElem?_eq_getElem hj];show some l[j].1=some _;rw [e4]
 ·rw [List.getElem?_eq_none (by simpa using hj),List.getElem?_eq_none (by simp; simp_all)]
theorem v9 {ws:List Nat} (h:ws.length≤100):JoinOk ⟨#[32]⟩ (ws.map λ c=>⟨(aN c).toArray⟩)=true:=by
 unfold JoinOk;rw [Bool.not_eq_true'];refine StrLaws.joinFits (B:=7) (λ y m=>?_) ?_
 ·refine ag (List.mem_map.mp m) ?_; rintro c _ rfl;show (aN c).toArray.size≤7;rw [List.size_toArray]; exact hV c
 ·rw [List.length_map];show ws.length * 7+ws.length * 1≤_;lia
theorem Fu (G:cz w hb) {scope:Scope} {cl:List (Str×Addr)} {Ld:Addr} {code:Value} {env:Env} {m:Str->Option Value} {p3 p4 p5:Pos} {c:Nat} {t:Tok} (hkind:scope.kind=.function) (harg:scope.names.lookup ("arg" : Str)=some NameKind.local) (hquote:scope.names.lookup ("quote" : Str)=some NameKind.globalImplicit)
  (hgl:env.globals=mainGlobals) (hn:s.heap.Ns Ld m) (hm:m "arg" = some (.str ⟨#[c]⟩ t)) (ok:fr c=true) (R:aC A 41) (kb:∀ b o,hb.get? b=some o->s.heap.get? b=some o) {Q:Value->Shared->Prop}
  (q:∀ h' tk t',(∀ b o,s.heap.get? b=some o->h'.get? b=some o)->Q (.str ⟨(aN c).toArray⟩ t') { s with heap:=h',toks:=tk }) :
  wpAny (model prog w) A (eval (.Call (.Name "quote" p3) [.Name "arg" p4] [] p5) (genEnv scope cl Ld code builtinsNs env)) Q E s:=by
 refine ak G.ns λ mg mb hg hbn hB=>?_;refine wpAny_Call_Name_kw (wpAny_Name ?_ (by decide))
 have hg':s.heap.Ns (genEnv scope cl Ld code builtinsNs env).globals mg:=by
  show s.heap.Ns env.globals mg;rw [hgl]; exact hg.keeps kb
 have hv:mg "quote" = some (.ref 1008):=(Ia G.X hg (by kernel_rfl) _).trans (by kernel_rfl)
 rw [cX (show (genEnv scope cl Ld code builtinsNs env).scope.kind=.function from hkind) (show (genEnv scope cl Ld code builtinsNs env).kindOf "quote" = some .globalImplicit from hquote)];refine loadGlobal_global hg' hv ?_;show wpAny _ _ (callWith p5 (.ref 1008) [] (backTo p5 (starEach [.Name "arg" p4] _)) []) _ _ _;refine bq (bH rfl) (br rfl (wpAny_items_cons (wpAny_Name (wpAny_loadName_local hkind harg hn hm ?_) (by decide)) rfl))
 refine wpAny_items_nil ⟨?_,?_⟩
 ·refine ag (looks_keep (M:=model prog w) (K:=am w.params) (f:=.ref 1008) (by kernel_rfl) (G.X.keeps kb)) λ kp _ Lk=>?_
  exact ⟨kp,Lk⟩
 ·exact Ae G ok (R.low (by exact Nat.le_of_ble_eq_true rfl)) kb q
theorem JZ {a1 a2 a3 a4 a5 a6 a7 a8:Type} {P:a1->a2->a3->a4->a5->a6->a7->a8->Prop} (x1:a1) (x2:a2) (x3:a3) (x4:a4) (x5:a5) (x6:a6) (x7:a7) (x8:a8) (h:P x1 x2 x3 x4 x5 x6 x7 x8):∃ x1 x2 x3 x4 x5 x6 x7 x8,P x1 x2 x3 x4 x5 x6 x7 x8:=⟨x1,x2,x3,x4,x5,x6,x7,x8,h⟩
theorem wa (G:cz w hb) {la:Addr} {items:Array Value} {n:Nat} {ws:List Nat} {RR:Result->Shared->Prop} (R:aC A 60) (H:Sh hb prog w (IT ⟨#[]⟩ 0 0) hid [995] [.tabT] s.heap) (ok:∀ c∈ws,fr c=true) (hlen:ws.length≤100)
  (Vl:VR (IT ⟨#[]⟩ 0 0) (ay hid [995] s.heap) [995] (.lst (ws.map λ c=>.str [.lit c])) (.ref la))
  (q:∀ h' tk gs t,Ext [] [995] [995] s.heap h'->Sh hb prog w (IT ⟨#[]⟩ 0 0) hid [995] [.tabT] h'->(AllBare s.gens->AllBare gs)->RR (.ok (.ret (.str ⟨(jn ws).toArray⟩ t))) { s with heap:=h',toks:=tk,gens:=gs }) :
  codeAny (model prog w) A (.call (.ref 1000) ⟨[.ref la],[]⟩) RR s:=by
 have PS:=d5 (prog:=prog) (I:=IT ⟨#[]⟩ 0 0) (cl:=Mine.cs []) G (λ k h=>(h rfl).elim) (by show 0≤3000; decide)
 have OK:=ce PS 7;have SX0:=aY PS.GO OK (pW w.params []).W (pW w.params []).D;refine fH (Iw (IT ⟨#[]⟩ 0 0) G.X) G.B.nl (Ah w.params (ws.map λ c=>.str [.lit c])) (by have:=R.d; exact Nat.lt_of_le_of_lt (Nat.le_add_right _ _) (by assumption)) H (.cons Vl .nil) λ h₁ tk env el ef ek en eh hk H1 Y1 _ hcode=>?_
 rw [Ag];have Rl:aC (A.deeper env) (bD 20 7):=(R.low (show bD 20 7+1≤60 by unfold bD; simp [*])).deeper env
 have R59:aC (A.deeper env) 59:=R.deeper env;refine wpAny_execs_cons (SX0 _ _ _ _ _ (j0 w.params _) _ _ _ _ _ _ _ Rl Y1 H1 (bC.next rfl H1 λ h2 tk2 gs2 x2 H2 Y2=>?_));refine wpAny_execs_cons ?_;obtain ⟨sc,k1,p1,p2,p3,p4,p5,p6,p7,p8,p9,p10,hs1,hline,js⟩:=j1 w.params;have hcode':env.code=.ref 999:=by
  refine ak hcode λ o fd c1 c2 c3=>?_; clear hcode;refine ag (gI G.X (f:=1000) (fd:=dk w.params 1000) (by kernel_rfl)) λ o' d1 d2=>?_
  rw [c1] at d1; induction d1 using sI;rw [c2] at d2; cases d2;rw [c3]; kernel_rfl
 rw [hs1];refine wpAny_Return_some ?_;rw [arm_eval_Call,ex (by rfl)]
 refine wpAny_bind (Calls.Constant_str ?_);refine wpAny_bind (wpAny_standAt ?_);have hfew:methodCallForm (([.GeneratorExp (.Call (.Name "quote" p3) [.Name "arg" p4] [] p5) [⟨.Name "arg" p6,.Name "split_command" p7,[],0⟩] sc p8]:List Expr).length+([]:List Keyword).length) (backTo p9 (starEach [.GeneratorExp (.Call (.Name "quote" p3) [.Name "arg" p4] [] p5) [⟨.Name "arg" p6,.Name "split_command" p7,[],0⟩] sc p8] env)) (backToKw p9 (keywordEach [] env))=true:=by rfl
 unfold methodCall calleeOf methodCallPos;rw [hfew];simp only [if_true,hline,Bool.not_true,Bool.false_or];refine wpAny_bind (wpAny_holding (GM.join ?_));refine wpAny_bind (wpAny_pure ?_);show wpAny (model prog w) _ (callWith p9 (.builtin "str.join") [.str ⟨#[32]⟩ _] (backTo p9 (starEach [.GeneratorExp (.Call (.Name "quote" p3) [.Name "arg" p4] [] p5) [⟨.Name "arg" p6,.Name "split_command" p7,[],0⟩] sc p8] env)) []) _ _ _;refine bq (bH rfl) (br rfl ?_);refine wpAny_items_cons ?_ rfl;refine ag (i6 js.plan js.cels Y2) λ cl hcl _=>?_;refine wpAny_GeneratorExp_walksQD R59.hh js.co hcl (eE js.cell) js.it js.arg js.kind (by have:=R59.d; show _ < 1000; exact Nat.lt_of_le_of_lt (Nat.le_add_right _ _) (by assumption)) ?_ (λ x=>rfl)
 refine bI (s:={ s with heap:=h2,toks:=tk2+1,gens:=gs2 }) OK (KO w.params _) Y2 H2 (aA.same rfl H2 λ h3 tk3 gs3 v x3 H3 V3=>?_)
 have Y3:=Y2.ext H2 x3.toExt;induction V3 using dw.casesOn with
 | lst g W =>
 rename_i a items' n';have hsg:=Ft W;have hl:h3.IsList a items':=⟨_,g.1,rfl,_,rfl⟩;have hal:=Heap.lt_size g.1;refine ab (H3.alloc { cls:=.type "list_iterator",data:=.fields #[.ref a,.int 0 0] }) λ x4 H4=>?_;have k4:∀ b o,h3.get? b=some o->(h3.push { cls:=.type "list_iterator",data:=.fields #[.ref a,.int 0 0] }).get? b=some o:=λ b o e=>Heap.get?_push_of_some _ e;have hJ4:(h3.push { cls:=.type "list_iterator",data:=.fields #[.ref a,.int 0 0] }).get? h3.objs.size=some { cls:=.type "list_iterator",data:=.fields #[.ref a,.int 0 0] }:=Heap.get?_push_size _ rfl;have hJn:∀ b o,h3.get? b=some o->b≠h3.objs.size:=λ b o e=>bd e;have hsz4:(h3.push { cls:=.type "list_iterator",data:=.fields #[.ref a,.int 0 0] }).objs.size=h3.objs.size+1:=Heap.size_push ..;refine wpAny_pyIter_list hl ⟨G.B.nl.keeps H4.base,?_⟩;generalize hJ:h3.objs.size=J at *
 generalize h3.push { cls:=.type "list_iterator",data:=.fields #[.ref a,.int 0 0] }=h4 at *
 refine ak (H4.ob 0 _ rfl) λ a0 b0 o1 o2 o3=>?_;induction o1 using sI;induction o3 using bO.casesOn with
 | tabT htr =>
 rename_i ps;have hch4:CodeHd h4 999 995:=codeHd_of_K (G.X.keeps H4.base) (by kernel_rfl)
 refine Af hcode' hch4 o2 htr λ code h5 tk5 ps' hx hP' htr'=>?_;have nb:∀ b o,hb.get? b=some o->b≠995:=λ b o e q=>by
  have:=(H4.off 995 (by exact kR)).1
  rw [<-q,e] at this; cases this
 have kb5:∀ b o,hb.get? b=some o->h5.get? b=some o:=λ b o e=>hx b o (nb b o e) (H4.base b o e);have hJ995:J≠995:=λ q=>by
  refine aj ((H3.off 995 (by exact kR)).2.2) λ oo eo=>?_
  exact hJn _ _ eo q.symm
 have ha995:a≠995:=λ q=>g.2.2 (by rw [q]; exact kR)
 have hJ5:=hx _ _ hJ995 hJ4;have hl5:h5.IsList a items':=⟨_,hx _ _ ha995 (k4 _ _ g.1),rfl,_,rfl⟩;refine xK G.GO.at_ λ mg0 bm ob w1 w2 w3 w4 w5 w6 w7 w8=>?_;refine wpAny_builtinsFor (m:=mg0) (bm:=bm) (o:=ob) (by rw [Y3.gl]; exact w1.keeps kb5) w2 w3 (kb5 _ _ w5) w6 w7 w8 ?_
 have hnl5:=G.B.nl.keeps kb5;have hsz5:∀ b o,h5.get? b=some o->b < h5.objs.size:=λ b o e=>Heap.lt_size e;have hJb:hb.get? J=none:=by
  cases q:hb.get? J with
  | none=>rfl
  | some o=>exact (hJn _ _ (H3.base _ _ q) rfl).elim
 have hcs:cStatics < h5.objs.size∧cStatics≠J:=by
  refine ag G.B.nl λ _ hn0 _=>?_;refine da hn0 λ o0 _ _ e0 _=>?_; clear hn0;exact ⟨hsz5 _ _ (kb5 _ _ e0),hJn _ _ (H3.base _ _ e0)⟩
 refine JZ J [J,a] [J] items'.size (λ i v=>items'[i]?=some v) (λ i h=>h.IsListIter J a i∧h.IsList a items') (λ _=>true) (λ i y=>∃ c t,ws[i]?=some c∧y=.str ⟨(aN c).toArray⟩ t) ⟨rfl,(λ A' hA=>Walks.list hA J a (hJn _ _ g.1) items'),⟨⟨_,hJ5,rfl,rfl⟩,hl5⟩,λ b m=>?_,hnl5,λ m=>hcs.2 (List.mem_singleton.mp m),λ href hh=>⟨?_,?_⟩,?_⟩
 ·rcases List.mem_cons.mp m with rfl | m
  ·exact hsz5 _ _ hJ5
  ·rw [List.mem_singleton.mp m];exact hsz5 _ _ (hx _ _ ha995 (k4 _ _ g.1))
 ·intro A' E' i v s₂ m₂ hA hdp hun hP hn hm hk2;exact wpAny_tests_nil ⟨rfl,s₂.heap,s₂.toks,rfl,λ _ _ e=>e⟩
 ·intro A' E' i v s₂ m₂ hA hdp hun hP _ hn hm hk2;refine jg (hsg.get (by rw [Array.getElem?_toList]; exact hP)) ?_; rintro c t e1 rfl
  have okc:=ok c (List.mem_of_getElem? e1);refine Fu G js.kind js.arg js.quote Y3.gl hn hm okc ⟨hA,by have:=R59.d; lia,by have:=R59.u; lia⟩ (λ b o e=>hk2 b (List.mem_range.mpr (hsz5 _ _ (kb5 _ _ e))) (λ m=>by rw [List.mem_singleton.mp m,hJb] at e; exact ac e) o (hh _ _ (kb5 _ _ e))) λ h' tk t' k=>⟨⟨c,t',e1,rfl⟩,h',tk,rfl,k⟩
 ·intro ga h6 tk gs hgb hag hsz6 hk6 W6 hat;refine wpAny_items_nil ⟨⟨.machine,Looks.of_pure rfl⟩,?_⟩;refine SC.joinGen W6.in4_2 (λ i s' st=>st.1.typeIs) hat (λ b m=>?_) (List.mem_cons_self ..) (λ i v hv=>?_) (λ s' l hm hacc=>?_) ?_
  ·show b < h6.objs.size;rw [hsz6];rcases List.mem_cons.mp m with rfl | m
   ·exact Nat.lt_succ_self _
   ·rcases List.mem_cons.mp m with rfl | m
    ·exact Nat.lt_succ_of_lt hag
    ·exact Nat.lt_succ_of_lt (Nat.lt_trans (List.mem_range.mp m) hag)
  ·obtain ⟨i,_,c,t,_,rfl⟩:=hv;exact ⟨_,_,rfl⟩
  ·have hn:items'.size=ws.length:=by rw [<-Array.length_toList]; exact hsg.len
   have hpc:=mW hn hacc;rw [hpc];refine ⟨v9 hlen,λ t' k'=>?_⟩;have hjn:Txt.join ⟨#[32]⟩ (ws.map λ c=>⟨(aN c).toArray⟩)=⟨(jn ws).toArray⟩:=(StrLaws.glued_eq_join _ _).trans (iJ ws);rw [hjn];have hwr:∀ b o,h5.get? b=some o->b≠J->b∉h5.objs.size::[J]:=λ b o e n m=>by
    rcases List.mem_cons.mp m with q | m
    ·exact absurd (hsz5 _ _ e) (by rw [q]; exact Nat.lt_irrefl _)
    ·exact n (List.mem_singleton.mp m)
   have kF:∀ b o,h5.get? b=some o->b≠J->s'.heap.get? b=some o:=λ b o e n=>hm.heap b o (hwr b o e n) (hk6 b o e);have k2:∀ b o,b≠995->h2.get? b=some o->s'.heap.get? b=some o:=λ b o n e=>by
    have e3:=x3.toExt.keep b o e (by simpa using n) (by simp)
    exact kF b o (hx b o n (k4 b o e3)) (hJn _ _ e3)
   have h995:=kF 995 _ hP' (λ q=>hJ995 q.symm);refine ab (H2.setE (i:=0) (a:=995) rfl (λ b o n e=>k2 b o n e) h995 (.tabT htr')) λ x9 H9=>?_;refine ab (H9.drop (h':=s'.heap) eh λ b o _ e=>e) λ H10 _=>?_;have hEx:Ext [] [995] [995] s.heap s'.heap:=⟨⟨[],by exact dS⟩,λ b o e n _=>by
    have nl:b≠env.locals:=λ q=>by rw [q,en] at e; exact ac e
    exact k2 b o (by simpa using n) (x2.toExt.keep b o (hk b o e) n (by simpa using nl)),λ a m n=>absurd m n⟩
   have hgens:AllBare s.gens->AllBare s'.gens:=λ g0=>((AllBare.push (x3.gb (x2.gb g0)) hgb).moved hm.gens);have:=q s'.heap k' s'.gens t' hEx H10 hgens;have e1:s'.drawn=s.drawn:=hm.drawn;have e2:s'.os=s.os:=hm.os;obtain ⟨sh,sg,sd,stk,sos⟩:=s';dsimp only at e1 e2;subst e1 e2;exact this
  ·rw [iI,List.length_range];have hn:items'.size=ws.length:=by rw [<-Array.length_toList]; exact hsg.len
   rw [hn];unfold sizeLine; exact Nat.le_trans (by assumption) (by decide)
end
section
def wr (c:Nat):List Nat:=aB (aW c [42,63]) [91,c,93] [c]
def fu (c:Nat):V:=.str ((JV c).map .lit)
def CA (c:Nat):Bool:=aW c j8 || aW c [42,63]
def cj (M:List Nat):List V:=.none::(M.map fu++[.none])
end
theorem uO (l:List Nat):fK (.str (l.map .lit))=true:=by
 show List.all _ _=true;rw [List.all_map];exact List.all_eq_true.mpr λ _ _=>rfl
theorem eH:∀ l:List Nat,(l.map fu).all fK=true
 | []=>rfl
 | c::l=>by
  rw [List.map_cons,List.all_cons,eH l];show (fK (.str _) && true)=true;rw [uO]; rfl
section
variable {prog:Program} {w:World} {I J:aZ} {L:Str} {S S':Addr->Obj->Prop} {ρ ρ':List Addr} {ob:Obj} {l l':List V}
theorem jf (h:I.pre++l=J.pre++l') (c:(I.pre++l).all fK=true) (a:OR prog w I S ρ (.acc l) ob):OR prog w J S ρ (.acc l') ob:=by
 induction a using eS.casesOn with
 | acc W=>exact .acc (by rw [<-h]; exact W.txt c)
theorem Aj (h:I.pre++l=l') (c:l'.all fK=true) (a:OR prog w I S ρ (.acc l) ob):OR prog w J S ρ (.list l') ob:=by
 induction a using eS.casesOn with
 | acc W=>exact .list (by rw [<-h] at c ⊢; exact W.txt c)
theorem qd (h:l=J.pre++l') (c:l.all fK=true) (a:OR prog w I S ρ (.list l) ob):OR prog w J S ρ (.acc l') ob:=by
 induction a using cD.casesOn with
 | list W=>exact .acc (by rw [<-h]; exact W.txt c)
theorem gh {pre pre1:List V} {b n:Nat} {ch ch2:AS} {e e2:Bool} {x:Value} (h:L.cps.toList.drop (b+n)=ch2.map (AC.den (IR L pre1 (b+n)))++(match e2 with | true=>[] | false=>L.cps.toList.drop (b+n+ch2.length))) (a:VR (IR L pre b) S ρ (.pos n ch e) x):VR (IR L pre1 (b+n)) S ρ (.pos 0 ch2 e2) x:=by
 induction a using dc.casesOn with
 | pos t h1 h2 h3 =>
  refine VR.pos (I:=IR L pre1 (b+n)) (off:=0) t h1 ⟨_,h.symm⟩ λ he=>?_;subst he;rw [List.append_nil] at h;exact h
end
section
variable {hb:Heap} {prog:Program} {w:World} {L:Str} {env:Env} {hid ρ:List Addr} {A:Around} {E:Value->Shared->Prop} {s:Shared}
theorem Ak {pre pre1:List V} {b b1:Nat} {o o1:O} {h:Heap} (H:Sh hb prog w (IR L pre b) hid ρ [.tabT,o] h) (ho:∀ S ρ ob,OR prog w (IR L pre b) S ρ o ob->OR prog w (IR L pre1 b1) S ρ o1 ob):Sh hb prog w (IR L pre1 b1) hid ρ [.tabT,o1] h :=
 H.rebase rfl λ i a a' e e' B hB=>by
  match i,e,e' with
  | 0,e,e'=>induction e using sI; induction e' using sI; exact OR.re (I:=IR L pre b) (J:=IR L pre1 b1) rfl rfl hB
  | 1,e,e'=>induction e using sI; induction e' using sI; exact ho _ _ _ hB
  | _+2,e,e'=>exact ac e
theorem mX (G:cz w hb) (LI:L.length≤3000) {pre pre1 pre2:List V} {b b2:Nat} {o o':O} {i i':V} {K:Shared->Prop} {B:Shared->Prop} {V:Value->Shared->Prop} {W:Shared->Prop} (e:iF w.params i [.tabT,o]=some (dm w.params i',[],some 0,[.tabT,o'])) (hz:pre1.length≤2000) (R:aC A (bD 20 3))
  (hin:∀ S ρ ob,OR prog w (IR L pre b) S ρ (.acc []) ob->OR prog w (IR L pre1 b) S ρ o ob) (hi:∀ S ρ x,VR (IR L pre b) S ρ (.pos 0 [] false) x->VR (IR L pre1 b) S ρ i x)
  (hout:∀ S ρ ob,OR prog w (IR L pre1 b) S ρ o' ob->OR prog w (IR L pre2 b2) S ρ (.acc []) ob) (hi':∀ S ρ x,VR (IR L pre1 b) S ρ i' x->VR (IR L pre2 b2) S ρ (.pos 0 [] false) x)
  (Y:ao (IR L pre b) (dF w.params) env ⟨dm w.params (.pos 0 [] false),[],some 0⟩ hid ρ s.heap) (H:Sh hb prog w (IR L pre b) hid ρ [.tabT,.acc []] s.heap)
  (q:∀ h' tk gs,aI (IR L [] 0) [env.locals] ρ ρ s.heap s.gens h' gs->Sh hb prog w (IR L pre2 b2) hid ρ [.tabT,.acc []] h'->ao (IR L pre2 b2) (dF w.params) env ⟨dm w.params (.pos 0 [] false),[],some 0⟩ hid ρ h'->K { s with heap:=h',toks:=tk,gens:=gs }) :
  wpAny (model prog w) A (isTrue (qA (c8 w.params 3)) env (eval (qA (c8 w.params 3)) env)) (λ b s₂=>if b=true then wpAny (model prog w) A (execs (G6 (c8 w.params 3)) env) (λ f s₃=>match f with
   | .next=>K s₃ | .cont=>K s₃ | .brk=>B s₃ | .ret v=>V v s₃) E s₂ else W s₂) E s:=by
 have OK:=jd (prog:=prog) (I:=IR L pre1 b) G hz LI;refine Cz OK G.GO e R (ao.reT (I:=IR L pre b) (J:=IR L pre1 b) rfl Y hi) (Ak H hin) λ ρ' h' tk gs x1 H1 Y1=>?_;have:=cT H H1 rfl x1.toExt.pre;subst this;exact q h' tk gs ⟨x1.toExt,x1.gb⟩ (Ak H1 hout) (ao.reT (I:=IR L pre1 b) (J:=IR L pre2 b2) rfl Y1 hi')
inductive D0 (hb:Heap) (prog:Program) (w:World) (L:Str) (M:List Nat) (hid ρ:List Addr) (env:Env) (s:Shared) (pre:List Mine.V) (b:Nat) (s':Shared):Prop
 | mk (h':Heap) (tk:Nat) (gs:Array GenState) (e:s'={ s with heap:=h',toks:=tk,gens:=gs }) (x:aI (IR L [] 0) [env.locals] ρ ρ s.heap s.gens h' gs) (H:Sh hb prog w (IR L pre b) hid ρ [.tabT,.acc []] h') (Y:ao (IR L pre b) (dF w.params) env ⟨dm w.params (.pos 0 [] false),[],some 0⟩ hid ρ h'):D0 hb prog w L M hid ρ env s pre b s'
def D1 (hb:Heap) (prog:Program) (w:World) (L:Str) (M:List Nat) (hid ρ:List Addr) (env:Env) (s:Shared) (m:Nat) (s':Shared):Prop :=
 ∃ (pre:List Mine.V) (b:Nat),D0 hb prog w L M hid ρ env s pre b s' ∧
  ((m=M.length+2∧pre=[]∧b=0)∨(∃ dn rest,M=dn++rest∧m=rest.length+1∧pre=.none::dn.map fu∧L.cps.toList.drop b=rest.flatMap wr++[42])∨(m=0∧pre=cj M∧L.cps.toList.drop b=[]))
theorem CB (G:cz w hb) (LI:L.length≤3000) {M M':List Nat} (hL:L.cps.toList=42::(M.flatMap wr++[42])) (ok:∀ c∈M,CA c=true) (hM:M=M'++[32]) (hlen:M.length≤1000) {RR:Result->Shared->Prop} (R:aC A (bD 20 3))
  (Y0:ao (IR L [] 0) (dF w.params) env ⟨dm w.params (.pos 0 [] false),[],some 0⟩ hid ρ s.heap) (H0:Sh hb prog w (IR L [] 0) hid ρ [.tabT,.acc []] s.heap)
  (q:∀ h' tk gs b,aI (IR L [] 0) [env.locals] ρ ρ s.heap s.gens h' gs->Sh hb prog w (IR L (cj M) b) hid ρ [.tabT,.acc []] h'->ao (IR L (cj M) b) (dF w.params) env ⟨dm w.params (.pos 0 [] true),[],some 0⟩ hid ρ h'->RR (.ok .next) { s with heap:=h',toks:=tk,gens:=gs }) :
  codeAny (model prog w) A (.whileLoop (qA (c8 w.params 3)) (G6 (c8 w.params 3)) [] env) RR s:=by
 refine codeAny_whileLoop (D1 hb prog w L M hid ρ env s) ?_ (M.length+2)
  ⟨[],0,⟨s.heap,s.toks,s.gens,rfl,aI.refl _ _ _ _,H0,Y0⟩,.inl ⟨rfl,rfl,rfl⟩⟩
 rintro m s' ⟨pre,b,⟨h1,tk1,gs1,rfl,x1,H1,Y1⟩,ph⟩;rcases ph with ⟨rfl,rfl,rfl⟩ | ⟨dn,rest,hd1,rfl,rfl,hd2⟩ | ⟨rfl,rfl,hd2⟩
 ·refine mX (s:={ s with heap:=h1,toks:=tk1,gens:=gs1 }) G LI (pre1:=[]) (pre2:=[.none]) (b2:=0+1) (vZ w.params) (by simp) R (λ S ρ ob a=>Aj rfl rfl a) (λ S ρ x a=>gh (n:=0) ?_ a) (λ S ρ ob a=>qd rfl rfl a) (λ S ρ x a=>gh ?_ a) Y1 H1 λ h2 tk2 gs2 x2 H2 Y2=>?_
  ·show L.cps.toList.drop 0=[42]++L.cps.toList.drop 1;rw [hL]; rfl
  ·rfl
  ·refine ⟨M.length+1,by simp +arith,[.none],0+1,⟨h2,tk2,gs2,rfl,x1.trans x2 Y1.alive,H2,Y2⟩,.inr (.inl ⟨[],M,rfl,rfl,rfl,?_⟩)⟩
   rw [hL]; rfl
 ·induction rest using List.casesOn with
  | nil =>
   rw [List.append_nil] at hd1;subst hd1;have hdM:M.map fu=M'.map fu++[.str [.lit 92,.lit 32]]:=by
    rw [hM,List.map_append]; rfl
   refine mX (s:={ s with heap:=h1,toks:=tk1,gens:=gs1 }) G LI (pre1:=Mine.V.none::M'.map fu) (pre2:=cj M) (b2:=b+1) (v7 w.params) (by have:=congrArg List.length hM; simp at this ⊢; lia) R (λ S ρ ob a=>jf ?_ ?_ a) (λ S ρ x a=>gh (n:=0) ?_ a) (λ S ρ ob a=>jf ?_ ?_ a) (λ S ρ x a=>gh ?_ a) Y1 H1 λ h2 tk2 gs2 x2 H2 Y2=>?_
   ·show (Mine.V.none::M.map fu)++[]=(Mine.V.none::M'.map fu)++[.str [.lit 92,.lit 32]];rw [hdM]; simp
   ·show ((Mine.V.none::M.map fu)++[]).all fK=true;rw [List.append_nil,List.all_cons,eH]; rfl
   ·show L.cps.toList.drop b=[42]++[];rw [hd2]; rfl
   ·show (Mine.V.none::M'.map fu)++[Mine.V.str [.lit 92,.lit 32],Mine.V.none]=cj M++[];rw [List.append_nil];unfold cj;rw [hdM]; simp
   ·show ((Mine.V.none::M'.map fu)++[Mine.V.str [.lit 92,.lit 32],Mine.V.none]).all fK=true;rw [List.all_append,List.all_cons,eH]; rfl
   ·rfl
   ·refine ⟨0,by simp,cj M,b+1,⟨h2,tk2,gs2,rfl,x1.trans x2 Y1.alive,H2,Y2⟩,.inr (.inr ⟨rfl,rfl,?_⟩)⟩
    rw [<-List.drop_drop,hd2]; rfl
  | cons c r =>
   have okc:=ok c (by rw [hd1]; simp)
   have hpre:((Mine.V.none::dn.map fu)++[fu c]).all fK=true:=by
    rw [List.all_append,List.all_cons,eH];show (_ && (fK (.str _) && true))=true;rw [uO]; rfl
   have hpre0:((Mine.V.none::dn.map fu)++[]).all fK=true:=by
    rw [List.append_nil,List.all_cons,eH]; rfl
   have hln:dn.length≤1000:=by have:=congrArg List.length hd1; simp at this; grind
   have go:∀ (n:Nat) (ch:AS),(wr c).length=n->(ch.map (AC.den (IR L (Mine.V.none::dn.map fu) b))=wr c)->iF w.params (.pos 0 ch false) [.tabT,.acc []]=some (dm w.params (.pos n [] false),[],some 0,[.tabT,.acc [fu c]])->_:=λ n ch hn hch e=>by
    refine mX (s:={ s with heap:=h1,toks:=tk1,gens:=gs1 }) (E:=notedBy (model prog w) A env λ e s'=>RR (.error e) s') (K:=λ s₃=>∃ m,m < (c::r).length+1∧D1 hb prog w L M hid ρ env s m s₃) (B:=λ s₃=>RR (.ok .next) s₃) (V:=λ v s₃=>RR (.ok (.ret v)) s₃) (W:=λ s₂=>wpAny (model prog w) A (execs [] env) (λ f s₃=>RR (.ok f) s₃) (notedBy (model prog w) A env λ e s'=>RR (.error e) s') s₂) G LI (pre1:=Mine.V.none::dn.map fu) (pre2:=Mine.V.none::(dn++[c]).map fu) (b2:=b+n) e (by simp; exact Nat.le_trans (by assumption) (by decide)) R (λ S ρ ob a=>jf rfl hpre0 a) (λ S ρ x a=>gh (n:=0) ?_ a) (λ S ρ ob a=>jf ?_ hpre a) (λ S ρ x a=>gh ?_ a) Y1 H1 λ h2 tk2 gs2 x2 H2 Y2=>?_
    ·show L.cps.toList.drop b=ch.map (AC.den (IR L (Mine.V.none::dn.map fu) b))++L.cps.toList.drop (b+ch.length);rw [hch,<-List.drop_drop,hd2,List.flatMap_cons,List.append_assoc];have:ch.length=(wr c).length:=by rw [<-hch,List.length_map]
     rw [this,List.drop_left]
    ·show (Mine.V.none::dn.map fu)++[fu c]=(Mine.V.none::(dn++[c]).map fu)++[];simp
    ·rfl
    ·refine ⟨r.length+1,by simp,Mine.V.none::(dn++[c]).map fu,b+n,⟨h2,tk2,gs2,rfl,x1.trans x2 Y1.alive,H2,Y2⟩,.inr (.inl ⟨dn++[c],r,by rw [hd1]; simp,rfl,rfl,?_⟩)⟩
     rw [<-List.drop_drop,hd2,List.flatMap_cons,List.append_assoc,<-hn,List.drop_left]
   rcases Bool.or_eq_true_iff.mp okc with hp | hp
   ·rw [bf] at hp;have hm:=of_decide_eq_true hp;have hw:wr c=[c]:=by
     unfold wr;have:aW c [42,63]=false:=by
      have:=List.all_eq_true.mp (show j8.all (λ c=>!(aW c [42,63]))=true by decide) c hm
      simpa using this
     rw [this]; rfl
    exact go 1 [.lit c] (by rw [hw]; rfl) (by rw [hw]; rfl) (j5 (v8 w.params) c hm)
   ·have hw:wr c=[91,c,93]:=by unfold wr; rw [hp]; rfl
    rw [bf] at hp;exact go 3 [.lit 91,.lit c,.lit 93] (by rw [hw]; rfl) (by rw [hw]; rfl) (j5 (Fr w.params) c (of_decide_eq_true hp))
 ·have hz:(cj M).length≤2000:=by unfold cj; simp; exact Nat.le_trans (by assumption) (by decide)
  have OK:=jd (prog:=prog) (I:=IR L (cj M) b) G hz LI;have EV:=bl G.GO OK 19;have Y1':ao (IR L (cj M) b) (dF w.params) env ⟨dm w.params (.pos 0 [] true),[],some 0⟩ hid ρ h1:=ao.reT (I:=IR L (cj M) b) (J:=IR L (cj M) b) rfl Y1 λ S ρ x a=>gh (n:=0) (e2:=true) (by rw [Nat.add_zero,hd2]; rfl) a
  refine EV.2 _ _ _ _ _ (Cw w.params) _ { s with heap:=h1,toks:=tk1,gens:=gs1 } _ _ _ _ _ R Y1' H1 (df.same rfl H1 λ h2 tk2 gs2 x2 H2=>?_)
  simp only [Bool.false_eq_true,if_false];exact wpAny_execs_nil (q h2 tk2 gs2 b (x1.trans ⟨x2.toExt.wk,x2.gb⟩ Y1.alive) H2 (Y1'.ext H1 x2.toExt))
end
section
def Ix (P:Params):F:=F.of ((plan (dF P) ["pat", "STAR", "QUESTION_MARK", "res"]).map (aX [.lin,.none,.str [.lit 46],.ref 1]))
def Iy (P:Params):F:=F.of ((plan (dF P) ["pat", "STAR", "QUESTION_MARK", "res", "add"]).map (aX [.lin,.none,.str [.lit 46],.ref 1,.bm "list.append" (.ref 1)]))
theorem v0 (P:Params):(IX P (dF P) (c8 P 0)).f ⟨It P,[],some 0⟩ [.tabT]=some (.next,⟨Ix P,[],some 0⟩,[.tabT,.list []]):=by kernel_rfl
theorem v1 (P:Params):(IX P (dF P) (c8 P 1)).f ⟨Ix P,[],some 0⟩ [.tabT,.list []]=some (.next,⟨Iy P,[],some 0⟩,[.tabT,.list []]):=by kernel_rfl
theorem v2 (P:Params):(IX P (dF P) (c8 P 2)).f ⟨Iy P,[],some 0⟩ [.tabT,.list []]=some (.next,⟨dm P (.int 0),[],some 0⟩,[.tabT,.list []]):=by kernel_rfl
end
section
variable {hb:Heap} {prog:Program} {w:World} {L:Str} {hid ρ:List Addr} {A:Around} {E:Value->Shared->Prop} {s:Shared} {P:Params}
theorem J0 (I:aZ) (X:(am P).In hb):bK hb I 293 (aJ (am P) 293 []):=by
 refine bS I (fd:=dk P 293) X (by kernel_rfl) (by kernel_rfl) (by kernel_rfl) (by kernel_rfl) (by kernel_rfl) λ xs h=>?_
 have e:(aJ (am P) 293 []).ps.length=3:=by kernel_rfl
 rw [e] at h;refine kQ (Ek h) ?_; rintro a b c rfl;kernel_rfl
theorem ao.tab {I:aZ} {N:aq} {env:Env} {h:Heap} {loc:F} {c T:Addr} {i:Nat} (Y:ao I N env ⟨loc,[],none⟩ hid ρ h) (hc:env.code=.ref c) (hcd:CodeHd h c T) (h1:c∉hid) (h2:c∉ρ) (h3:ρ[i]?=some T):ao I N env ⟨loc,[],some i⟩ hid ρ h:=by
 refine ⟨Y.kind,Y.names,Y.gl,Y.bu,Y.hidL,Y.loc,λ x i k c e0 e=>(by induction i using Nat.casesOn<;>exact ac e),λ j e=>?_⟩
 induction e using sI;obtain ⟨o,vs,file,tf,flags,tg,inF,text,tt,e,r⟩:=hcd;exact ⟨c,T,o,hc,⟨e,h1,h2⟩,⟨vs,file,tf,flags,tg,inF,text,tt,r⟩,h3⟩
theorem ka (G:cz w hb) (LI:L.length≤3000) {M M':List Nat} (hL:L.cps.toList=42::(M.flatMap wr++[42])) (ok:∀ c∈M,CA c=true) (hM:M=M'++[32]) (hlen:M.length≤1000) {RR:Result->Shared->Prop} (R:aC A 60) {t t2:Tok}
  (H:Sh hb prog w (IR L [] 0) hid [288] [.tabT] s.heap)
  (q:∀ h' tk gs lo,Ext [] [288] [288] s.heap h'->(∀ J,J.fx=[]->Sh hb prog w J hid [288] [.tabT] h')->(AllBare s.gens->AllBare gs)->(∀ J,VR J (ay hid [288] h') [288] (.lst (cj M)) (.ref lo))->RR (.ok (.ret (.ref lo))) { s with heap:=h',toks:=tk,gens:=gs }) :
  codeAny (model prog w) A (.call (.ref 293) ⟨[.str L t,.none,.str ⟨#[46]⟩ t2],[]⟩) RR s:=by
 have OK:=jd (prog:=prog) (I:=IR L [] 0) G (by show 0≤2000; decide) LI
 have SX0:=aY G.GO OK 12 20;refine fH (J0 (IR L [] 0) G.X) G.B.nl (Cu w.params) (by have:=R.d; exact Nat.lt_of_le_of_lt (Nat.le_add_right _ _) (by assumption)) H (.cons (VR.lin (I:=IR L [] 0) t) (.cons .none (.cons (VR.str (I:=IR L [] 0) [.lit 46] t2) .nil))) λ h₁ tk env el ef ek en eh hk H1 Y1 _ hcode=>?_
 rw [Ct];have Rl:aC (A.deeper env) (bD 20 3):=(R.low (show bD 20 3+1≤60 by unfold bD; simp [*])).deeper env
 have hcode':env.code=.ref 292:=by
  refine ak hcode λ o fd c1 c2 c3=>?_; clear hcode;refine ag (gI G.X (f:=293) (fd:=dk w.params 293) (by kernel_rfl)) λ o' d1 d2=>?_
  rw [c1] at d1; induction d1 using sI;rw [c2] at d2; cases d2;rw [c3]; kernel_rfl
 have hch1:CodeHd h₁ 292 288:=codeHd_of_K (G.X.keeps H1.base) (by kernel_rfl)
 have hc292:∃ o,hb.get? 292=some o:=by
  refine aj (Option.isSome_iff_exists.mp (show ((am w.params).lookup 292).isSome=true by kernel_rfl)) λ o e=>?_
  exact ⟨o,G.X _ _ e⟩
 have Y1':=Y1.tab (i:=0) hcode' hch1 (λ m=>by (refine aj hc292 λ o e=>?_; clear hc292); have:=(H1.offH _ m).1; rw [e] at this; cases this) (by decide) rfl
 refine wpAny_execs_cons (SX0 _ _ _ _ _ (v0 w.params) _ _ _ _ _ _ _ Rl Y1' H1 λ ρ2 h2 tk2 gs2 fl x2 H2 Y2 F2=>?_)
 (have j9:=vn.nextE F2; clear F2; subst j9)
 refine wpAny_execs_cons (SX0 _ _ _ _ _ (v1 w.params) _ { s with heap:=h2,toks:=tk2,gens:=gs2 } _ _ _ _ _ Rl Y2 H2 (bC.next rfl H2 λ h3 tk3 gs3 x3 H3 Y3=>?_))
 refine wpAny_execs_cons (SX0 _ _ _ _ _ (v2 w.params) _ { s with heap:=h3,toks:=tk3,gens:=gs3 } _ _ _ _ _ Rl Y3 H3 (bC.next rfl H3 λ h4 tk4 gs4 x4 H4 Y4=>?_))
 refine wpAny_execs_cons ?_;refine aj (Cv w.params) λ pos hw=>?_;rw [hw];have Y5:ao (IR L [] 0) (dF w.params) env ⟨dm w.params (.pos 0 [] false),[],some 0⟩ (env.locals::hid) ρ2 h4:=ao.reT (I:=IR L [] 0) (J:=IR L [] 0) rfl Y4 λ S ρ x a=>by
  induction a using aH.casesOn with
  | int t=>exact VR.pos (I:=IR L [] 0) (off:=0) t (Nat.zero_le _) ⟨_,rfl⟩ λ h=>by exact aT h
 have H5:Sh hb prog w (IR L [] 0) (env.locals::hid) ρ2 [.tabT,.acc []] h4:=Ak H4 λ S ρ ob a=>qd rfl rfl a;refine wpAny_While (CB (s:={ s with heap:=h4,toks:=tk4,gens:=gs4 }) G LI hL ok hM hlen Rl Y5 H5 λ h6 tk6 gs6 b x6 H6 Y6=>?_)
 have OK2:=jd (prog:=prog) (I:=IR L (cj M) b) G (by show (cj M).length≤2000; unfold cj; simp; exact Nat.le_trans (by assumption) (by decide)) LI
 have SX2:=aY G.GO OK2 12 20;refine bi (s:={ s with heap:=h6,toks:=tk6,gens:=gs6 }) SX2 Rl (JW w.params) Y6 H6 λ ρ7 h7 tk7 gs7 fl x7 H7 Y7 F7=>?_
 have:=cT H6 H7 rfl x7.toExt.pre;subst this;cases F7 with
 | ret Vx =>
 induction Vx using bV.casesOn with
 | ref hr =>
 rename_i lo;have hρ:ρ7=[288,lo]:=by
  refine aj x2.toExt.pre λ r e=>?_;have:=H7.len;rw [e] at this hr ⊢;match r,this with
  | [y],_=>induction hr using sI; rfl
 subst hρ;refine ab (H7.drop (h':=h7) eh λ b o _ e=>e) λ H8 _=>?_;have H9:=(oF (n:=1) (r:=(.none,[.tabT,.acc []])) (r':=(.none,[.tabT])) (by kernel_rfl) H8 (x:=.none) .none λ _ m=>by cases m).2.1
 have xx:=((((x2.toExt.trans x3.toExt Y2.alive).trans x4.toExt Y3.alive).trans x6.toExt Y4.alive).trans x7.toExt Y6.alive);refine q h7 tk7 gs7 lo ⟨⟨[],by exact dS⟩,λ b o e n _=>?_,λ a m n=>absurd m n⟩ (λ J hJ=>H9.rebase (hf:=hJ) rfl λ i o o' e e' B hB=>?_) (λ g=>x7.gb (x6.gb (x4.gb (x3.gb (x2.gb g))))) λ J=>?_
 ·have nl:b≠env.locals:=λ q=>by rw [q,en] at e; exact ac e
  exact xx.keep b o (hk b o e) n (by simpa using nl)
 ·match i,e,e' with
  | 0,e,e' =>
   induction e using sI; induction e' using sI;induction hB using bO.casesOn with
   | tabT a=>exact .tabT a
  | _+1,e,e'=>exact ac e
 ·refine ak (H8.ob 1 _ rfl) λ a ob e1 e2 e3=>?_;induction e1 using sI;induction e3 using eS.casesOn with
  | acc W =>
  rename_i items n;have W:VRs (IR L (cj M) b) (ay hid [288,lo] h7) [288,lo] (cj M++[]) items:=W;rw [List.append_nil] at W;have hne:lo∉[288]:=λ m=>by
   have:=H8.nd;rw [List.mem_singleton.mp m] at this;simp at this
  refine .lst (items:=items.toArray) (n:=n) ⟨e2,(H8.off lo (by exact ni)).2.1,hne⟩ (W.txt ?_)
  show List.all (Mine.V.none::(M.map fu++[Mine.V.none])) fK=true;rw [List.all_cons,List.all_append,eH]; rfl
end
section
def gK:List V->Option AS
 | []=>some []
 | .str y::r=>aB (Nat.ble y.length 7) (bs (gK r) λ z=>y++z) none
 | _::_=>none
def d7 (args:List V) (σ:List O):Option (V×List O):=(aR none (λ y390 y391=>aO (aV none (λ y380=>aO (bg none (aO (aR none (λ y360 y361=>aO (jt none (λ l=>aO (bg none (aB (km l) (bs (gK l) λ z=>(.str z,σ)) none) y361)) y360)) y391)) y380)) y390)) args)
def gL:List Nat:=j8++[42,63]
end
section
variable {hb:Heap} {prog:Program} {w:World} {I:aZ} {k:Nat} {hid ρ:List Addr} {σ:List O} {A:Around} {E:Value->Shared->Prop} {s:Shared} {P:Params}
theorem Al {S:Addr->Obj->Prop}:∀ {l:List V} {z:AS} {xs:List Value},gK l=some z->VRs I S ρ l xs->∃ ps:List (Str×Tok),xs=strValues ps∧ps.length=l.length∧(∀ p∈ps,p.1.length≤7)∧Str.join ⟨#[]⟩ (ps.map (·.1))=den I z∧z.length≤7 * l.length:=by
 intro l;induction l with
 | nil =>
  intro z _ h W;induction W using bQ.casesOn; induction h using sI; exact ⟨[],rfl,rfl,by simp,rfl,by simp⟩
 | cons v l ih =>
  intro z _ h W;induction W using aD.casesOn with
  | cons Va Vr =>
  induction v using V.casesOn<;>first | (exact ac h; done) | skip
  rename_i y;refine ai h λ h1 h=>?_;refine az h ?_; rintro z' h2 rfl;have h1:=Nat.le_of_ble_eq_true h1;refine xI (ih h2 Vr) λ ps e1 e2 e3 e4 e5=>?_;induction Va using aG.casesOn with
  | str t =>
  refine ⟨(den I y,t)::ps,by rw [e1]; rfl,by simp [e2],λ p m=>?_,?_,by simp; lia⟩
  ·rcases List.mem_cons.mp m with rfl | m
   ·show (den I y).length≤7;rw [cL]; exact h1
   ·exact e3 p m
  ·rw [mH,<-e4,List.map_cons];induction ps using List.casesOn with
   | nil =>
    show den I y=den I y++(⟨#[]⟩:Str);show den I y=(⟨(den I y).cps++#[]⟩:Str);rw [Array.append_empty]
   | cons p r =>
    show den I y++(⟨#[]⟩:Str)++Str.join ⟨#[]⟩ _=_;show (⟨(den I y).cps++#[]⟩:Str)++Str.join ⟨#[]⟩ _=_;rw [Array.append_empty]
theorem qe (args:List V) (σ:List O) (r:V×List O) (e:d7 args σ=some r):aL hb prog w I k σ (.val (.builtin "str.join")::args) r aS:=by
 unfold d7 at e;revert e; refine av ?_ λ e=>?_; rintro _ _ rfl e; replace e:=af e; revert e; refine ax ?_ ac; rintro _ rfl e; replace e:=af e; revert e; refine aM ?_ ac; rintro rfl e; replace e:=af e; revert e; refine av ?_ ac; rintro _ _ rfl e; replace e:=af e; revert e; refine eW ?_ ac; rintro _ rfl e; replace e:=af e; revert e; refine aM ?_ ac; rintro rfl e
 ·rename_i l;refine ai e λ h1 e=>?_;refine az e ?_; rintro z h2 rfl;have h1:=cH h1;intro A s hid ρ xs Q E R H V q;induction V using aD.casesOn with
  | cons Vf V =>
  refine ak (di V) ?_; rintro _ _ rfl Vx Vy;induction Vf using aK.casesOn; induction Vx using aG.casesOn;induction Vy using dw.casesOn with
  | lst g W =>
  rename_i t a items n;refine xI (Al h2 W) λ ps e1 e2 e3 e4 e5=>?_;have hf:Builtin.Str.tooLong ((ps.map (·.1)).toArray.foldl (λ a p=>a+p.length+(⟨#[]⟩:Str).length) 0)=false:=StrLaws.joinFits (B:=7) (λ y m=>by
   refine ag (List.mem_map.mp m) ?_; rintro p m2 rfl;exact e3 p m2) (by rw [List.length_map]; show ps.length * 7+ps.length * 0≤_; lia)
  refine call_meets PySem.F.slot_str_join (typeIs_str _ _ _) PySem.F.entry_str_join (PySem.F.args_str_join_2 _ _) (meets_str_join_list ⟨#[]⟩ _ _ ps hf) ⟨⟨_,g.1,rfl,n,by rw [<-e1]⟩,?_⟩
  have fin:∀ tk t',Q (.str (Str.join ⟨#[]⟩ (ps.map (·.1))) t') { s with toks:=tk }:=λ tk t'=>by
   rw [e4];exact aA.tok (n:=tk) H q (.str z t')
  match ps,fin,e4 with
  | [],fin,_=>exact Made.str_post (by show 0≤_; exact Nat.zero_le _) λ t k=>fin k t
  | [p],fin,_=>exact fin s.toks p.2
  | p::p2::r,fin,e4 =>
   show (Made.str (Builtin.Str.glued ⟨#[]⟩ ((p::p2::r).map (·.1)))).post _ _;rw [StrLaws.glued_eq_join];refine Made.str_post ?_ λ t k=>fin k t;rw [e4,cL];unfold sizeLine;lia
 ·exact ac e
end
section
noncomputable abbrev bP:List O:=[.tabT,.tabT]
def Iz (K:Frag):cI:=⟨λ _=>[],[("_law_sign",.ref 1020)],[(1020,.plain (aJ K 1020 []))],[],[],[],[],[("str.join",d7)],[("join", "str.join")],λ _ _ _ _=>none,λ _ _ _=>none,10,12⟩
def Am (P:Params):eO:=hO (Iz (am P)) 4
def dg (P:Params):aq:=(aJ (am P) 1013 []).names
def IB (P:Params):eM:=qP (Am P) 10 12
def kc (P:Params) (i:Nat):Stmt:=rV (aJ (am P) 1013 []).body i
def cf (P:Params) (l:List V):F:=F.of ((plan (dg P) ["parts"]).map (aX [.lst l]))
theorem An (P:Params):(aJ (am P) 1013 []).body=[kc P 0,kc P 1]:=by kernel_rfl
theorem Ao (P:Params) (l:List V):dU (aJ (am P) 1013 []) [.lst l]=some (cf P l):=by kernel_rfl
theorem p0 (P:Params) (l:List V):(IB P (dg P) (kc P 0)).f ⟨cf P (.none::l),[],none⟩ bP =
 au (au (au (hN (.lst (.none::l)) (.int (-1)) bP) λ q=>bs (kE [] (λ _=>[]) .IsNot q.1 .none q.2) λ b=>(b,q.2)) λ p=>aB p.1 (some (true,p.2)) (some (false,p.2))) λ p=>aB p.1 (some (.ret (.str (fV "none")),⟨cf P (.none::l),[],none⟩,p.2)) (some (.next,⟨cf P (.none::l),[],none⟩,p.2)):=by kernel_rfl
def uP (e:Expr):Scope:=by
 induction e using Expr.casesOn with
 | ListComp _ _ s _=>exact s
 | _=>exact (qG []).scope
def NC (N:aq) (e:Expr):aq:=cb (uP e).names N
def mY (N:aq) (e:Expr):List (Option Nat):=match au (cq N (uP e).names) λ p=>fc [] p with
 | some l=>l
 | none=>[]
noncomputable abbrev dG (P:Params):Expr:=Dv (qA (kc P 1))
def wb (P:Params) (v:Option V):AE:=match v with
 | none=>⟨F.of [],mY (dg P) (dG P),none⟩
 | some v=>⟨F.of ((plan (NC (dg P) (dG P)) ["part"]).map (aX [v])),mY (dg P) (dG P),none⟩
theorem p1 (P:Params) (l:List V):(IB P (dg P) (kc P 1)).f ⟨cf P l,[],none⟩ bP =
 bs (au (au (au (pe (.lst l) (.int 1) (.int (-1)) bP) λ p=>au (bw p.1 p.2) λ m=>bs (dC (bX (NC (dg P) (dG P)) "part") ⟨λ _ σ=>some (true,σ)⟩ ((k8 (Am P) 9).E (NC (dg P) (dG P)) (ir (dG P))) p.1 m.length m.length (wb P none) p.2 []) λ q=>(.lst q.1,q.2)) λ p=>some ([p.1],p.2)) λ q=>d7 (.str []::q.1) q.2) λ p=>(.ret p.1,⟨cf P l,[],none⟩,p.2):=by kernel_rfl
theorem KP (P:Params) (o:Option V) (y:V):(bX (NC (dg P) (dG P)) "part").f (wb P o) bP y=some (wb P (some y),bP):=by
 induction o using Option.casesOn<;>kernel_rfl
theorem KQ (P:Params):gL.map (λ c=>((k8 (Am P) 9).E (NC (dg P) (dG P)) (ir (dG P))).f (wb P (some (fu c))) bP)=gL.map λ c=>some (.str [.lit c],bP):=by kernel_rfl
end
theorem kf (n:Nat):Nat.beq n n=true:=by rw [cx]; exact decide_eq_true rfl
theorem hW {α:Type} {Pt:lX V} {T:eJ (Bool×List O)} {B:eJ (V×List O)} {v:V} {σ:List O} {f g:α->V} {m:List α} {Ev:Option V->AE} (hv:bw v σ=some (m.map f)) (hl:m.length≤1000) (hT:∀ e,T.f e σ=some (true,σ)) (hP:∀ o y,Pt.f (Ev o) σ y=some (Ev (some y),σ)) (hB:∀ c∈m,B.f (Ev (some (f c))) σ=some (g c,σ)) :
  ∀ (r:Nat) (dn rest:List α) (o:Option V),m=dn++rest->rest.length=r->dC Pt T B v m.length r (Ev o) σ (dn.map g)=some (m.map g,σ)
 | 0,dn,rest,o,h1,h2=>by
  have:rest=[]:=List.eq_nil_of_length_eq_zero h2;subst this;rw [List.append_nil] at h1;subst h1;unfold dC;rw [hv];show aB (Nat.beq (m.map f).length m.length) _ none=_;rw [List.length_map,kf]; rfl
 | r+1,dn,[],o,h1,h2=>by simp at h2
 | r+1,dn,c::rest,o,h1,h2=>by
  have h3:rest.length=r:=by simpa using h2
  have hn:aU (m.map f) (m.length - (r+1))=some (f c):=by
   rw [aE,h1];have:(dn++c::rest).length - (r+1)=dn.length:=by simp; simp [*]
   rw [this]; simp
  have hf:km (dn.map g)=true:=Nat.ble_eq_true_of_le (by
   have:=congrArg List.length h1;simp at this ⊢; lia)
  have ih:=hW hv hl hT hP hB r (dn++[c]) rest (some (f c)) (by rw [h1]; simp) h3
  unfold dC;rw [hv];show aB (Nat.beq (m.map f).length m.length) (au (aU (m.map f) (m.length - (r+1))) _) none=_;rw [List.length_map,kf,hn];show au (Pt.f (Ev o) σ (f c)) _=_;rw [hP];show au (T.f (Ev (some (f c))) σ) _=_;rw [hT];show au (B.f (Ev (some (f c))) σ) _=_;rw [hB c (by rw [h1]; simp)]
  show aB (km (dn.map g)) (dC Pt T B v m.length r (Ev (some (f c))) σ (dn.map g++[g c])) none=_;rw [hf];rw [List.map_append] at ih;exact ih
theorem uR {X:eM} {fi:i7} {args:List V} {σ σ':List O} {loc:F} {v:V} {ae:AE} (h1:dU fi args=some loc) (h2:(bY X fi.names fi.body).f ⟨loc,[],none⟩ σ=some (.ret v,ae,σ')):cP X fi args σ=some (v,σ'):=by
 unfold cP;rw [h1];show au ((bY X fi.names fi.body).f ⟨loc,[],none⟩ σ) _=_;rw [h2]; rfl
theorem Ap {X:eM} {N:aq} {st:Stmt} {r:List Stmt} {ae ae':AE} {σ σ':List O} {R:Fl×AE×List O} (h1:(X N st).f ae σ=some (.next,ae',σ')) (h2:(bY X N r).f ae' σ'=some R):(bY X N (st::r)).f ae σ=some R:=by
 show au ((X N st).f ae σ) _=_;rw [h1]; exact h2
theorem Aq {X:eM} {N:aq} {st:Stmt} {r:List Stmt} {ae ae':AE} {σ σ':List O} {v:V} (h1:(X N st).f ae σ=some (.ret v,ae',σ')):(bY X N (st::r)).f ae σ=some (.ret v,ae',σ'):=by
 show au ((X N st).f ae σ) _=_;rw [h1]; rfl
theorem qg:∀ M:List Nat,gK (M.map λ c=>V.str [.lit c])=some (M.map .lit)
 | []=>rfl
 | c::M=>by
  show aB true (bs (gK (M.map λ c=>V.str [.lit c])) λ z=>[AC.lit c]++z) none=_;rw [qg M]; rfl
theorem wc (v:V) (l:List V):hN (.lst (v::(l++[.none]))) (.int (-1)) bP=some (.none,bP):=by
 show au (f8 (-1) (v::(l++[.none])).length) (λ k=>bs (aU (v::(l++[.none])) k) λ v=>(v,bP))=_;have:f8 (-1) (v::(l++[.none])).length=some (l.length+1):=by
  show aB (Nat.ble 1 (v::(l++[V.none])).length) (some (Nat.sub (v::(l++[V.none])).length 1)) none=_;rw [Nat.ble_eq_true_of_le (by simp)]
  show some (Nat.sub _ 1)=_;congr 1;simp
 rw [this];show bs (aU (v::(l++[.none])) (l.length+1)) _=_;rw [aE];simp [bs]
theorem CC (v:V) (l:List V) (h:l.length≤990):pe (.lst (v::(l++[.none]))) (.int 1) (.int (-1)) bP=some (.lst l,bP):=by
 show aB (Nat.ble (v::(l++[V.none])).length 1000) _ none=_;rw [Nat.ble_eq_true_of_le (by simp; exact Nat.le_trans (by assumption) (by decide))]
 show some (V.lst (((v::(l++[V.none])).drop (clipAt (v::(l++[V.none])).length 1)).take (clipAt (v::(l++[V.none])).length (-1) - clipAt (v::(l++[V.none])).length 1)),bP)=_;have h1:clipAt (v::(l++[V.none])).length 1=1:=by
  unfold clipAt; simp; lia
 have h2:clipAt (v::(l++[V.none])).length (-1)=l.length+1:=by
  unfold clipAt; simp; lia
 rw [h1,h2];simp
theorem KS (P:Params) (l:List V):(IB P (dg P) (kc P 0)).f ⟨cf P (.none::(l++[.none])),[],none⟩ bP=some (.next,⟨cf P (.none::(l++[.none])),[],none⟩,bP):=by
 rw [p0,wc]; rfl
theorem KT (P:Params) (M:List Nat) (ok:∀ c∈M,c∈gL) (hlen:M.length≤990):(IB P (dg P) (kc P 1)).f ⟨cf P (.none::(M.map fu++[.none])),[],none⟩ bP=some (.ret (.str (M.map .lit)),⟨cf P (.none::(M.map fu++[.none])),[],none⟩,bP):=by
 rw [p1,CC _ _ (by simpa using hlen)]
 have hc:=hW (Pt:=bX (NC (dg P) (dG P)) "part") (T:=⟨λ _ σ=>some (true,σ)⟩) (B:=(k8 (Am P) 9).E (NC (dg P) (dG P)) (ir (dG P))) (v:=.lst (M.map fu)) (σ:=bP) (m:=M) (f:=fu) (g:=λ c=>.str [.lit c]) (Ev:=wb P)
  rfl (by exact Nat.le_trans (by assumption) (by decide)) (λ _=>rfl) (KP P) (λ c m=>j5 (KQ P) c (ok c m)) M.length [] M none rfl rfl
 have hj:d7 [.str [],.lst (M.map λ c=>V.str [.lit c])] bP=some (.str (M.map .lit),bP):=by
  show aB (km (M.map λ c=>V.str [.lit c])) (bs (gK (M.map λ c=>V.str [.lit c])) _) none=_;rw [qg,show km (M.map λ c=>V.str [.lit c])=true from Nat.ble_eq_true_of_le (by simp; lia)]
  rfl
 generalize bX (NC (dg P) (dG P)) "part" = Pt at *
 generalize (k8 (Am P) 9).E (NC (dg P) (dG P)) (ir (dG P))=B at *
 generalize cf P (.none::(M.map fu++[.none]))=loc at *
 generalize wb P none=E0 at *
 show bs (au (au (bs (dC Pt _ B (.lst (M.map fu)) (M.map fu).length (M.map fu).length E0 bP []) λ q=>(.lst q.1,q.2)) λ p=>some ([p.1],p.2)) λ q=>d7 (.str []::q.1) q.2) _=_;rw [List.length_map,show dC Pt _ B (.lst (M.map fu)) M.length M.length E0 bP []=_ from hc];show bs (d7 [.str [],.lst (M.map λ c=>V.str [.lit c])] bP) _=_;rw [hj]; rfl
theorem Ar (P:Params) (M:List Nat) (ok:∀ c∈M,CA c=true) (hlen:M.length≤990):cP (IB P) (aJ (am P) 1013 []) [.lst (cj M)] bP=some (.str (M.map .lit),bP):=by
 have hs:∀ c∈M,c∈gL:=λ c m=>by
  rcases Bool.or_eq_true_iff.mp (ok c m) with h | h
  ·rw [bf] at h; exact List.mem_append_left _ (of_decide_eq_true h)
  ·rw [bf] at h; exact List.mem_append_right _ (of_decide_eq_true h)
 refine uR (ae:=⟨cf P (cj M),[],none⟩) (Ao P (cj M)) ?_;rw [An];exact Ap (KS P (M.map fu)) (Aq (KT P M hs hlen))
section
open Classical in
noncomputable def iK (a:List V) (v:V):List V->List O->Option (V×List O):=λ args σ=>if args=a∧σ=bP then some (v,σ) else none
noncomputable abbrev Pr:=List V->List O->Option (V×List O)
def wd (J T C:Pr):cI:=⟨λ _=>[],[("join_shlex",.ref 1000),("_translate",.ref 293),("_law_piece",.ref 1013)],[(1000,.prim J),(293,.prim T),(1013,.prim C)],[],[],[],[],[("str.join",d7)],[("join", "str.join")],λ _ _ _ _=>none,λ _ _ _=>none,10,12⟩
def we (P:cI) (op:CmpOp) (a b:V) (σ:List O):Option Bool:=aB (decide (op=.In)) (aV (kE P.objs P.cl op a b σ) (λ x=>aV (kE P.objs P.cl op a b σ) (λ y=>au (fR x) λ u=>bs (fR y) λ v=>oR u v) b) a) (kE P.objs P.cl op a b σ)
def wf (J T C:Pr):eO:={ hO (wd J T C) 2 with cmp:=we (wd J T C) }
def cU (P:Params):aq:=(aJ (am P) 1025 []).names
def IC (J T C:Pr):eM:=qP (wf J T C) 10 12
def kh (P:Params) (i:Nat):Stmt:=rV (aJ (am P) 1025 []).body i
def mZ (P:Params) (wl:List V) (ll:AS):F:=F.of ((plan (cU P) ["words", "line"]).map (aX [.lst wl,.str ll]))
def m8 (P:Params) (wl:List V) (ll:AS) (v:V):F:=F.of ((plan (cU P) ["words", "line", "written"]).map (aX [.lst wl,.str ll,v]))
theorem As (P:Params):(aJ (am P) 1025 []).body=[kh P 0,kh P 1]:=by kernel_rfl
theorem At (P:Params) (wl:List V) (ll:AS):dU (aJ (am P) 1025 []) [.lst wl,.str ll]=some (mZ P wl ll):=by kernel_rfl
noncomputable abbrev dH (P:Params):Expr:=Dv (qA (kh P 0))
def wg (P:Params) (v:Option V):AE:=match v with
 | none=>⟨F.of [],mY (cU P) (dH P),none⟩
 | some v=>⟨F.of ((plan (NC (cU P) (dH P)) ["sign"]).map (aX [v])),mY (cU P) (dH P),none⟩
theorem k0 (P:Params) (J T C:Pr) (wl:List V) (ll:AS):(IC J T C (cU P) (kh P 0)).f ⟨mZ P wl ll,[],none⟩ bP =
 au (au (au (au (J [.lst wl] bP) λ p=>au (bw p.1 p.2) λ m=>bs (dC (bX (NC (cU P) (dH P)) "sign") ⟨λ _ σ=>some (true,σ)⟩ ((k8 (wf J T C) 9).E (NC (cU P) (dH P)) (ir (dH P))) p.1 m.length m.length (wg P none) p.2 []) λ q=>(.lst q.1,q.2)) λ p=>some ([p.1],p.2)) λ q=>d7 (.str []::q.1) q.2) λ p=>some (.next,⟨m8 P wl ll p.1,[],none⟩,p.2):=by kernel_rfl
theorem KU (P:Params) (o:Option V) (y:V):(bX (NC (cU P) (dH P)) "sign").f (wg P o) bP y=some (wg P (some y),bP):=by
 induction o using Option.casesOn<;>kernel_rfl
theorem KV (P:Params) (J T C:Pr):gL.map (λ c=>((k8 (wf J T C) 9).E (NC (cU P) (dH P)) (ir (dH P))).f (wg P (some (.str [.lit c]))) bP)=gL.map λ c=>some (.str ((wr c).map .lit),bP):=by kernel_rfl
theorem k1 (P:Params) (J T C:Pr) (wl:List V) (ll W:AS):(IC J T C (cU P) (kh P 1)).f ⟨m8 P wl ll (.str W),[],none⟩ bP =
 bs (au (au (au (au (au (au (jS (.str [.lit 42,.lit 32]) (.str W) bP) λ p=>mI .Add p.1 (.str [.lit 32,.lit 42]) p.2) λ p=>some ([p.1,.none,.str [.lit 46]],p.2)) λ q=>T q.1 q.2) λ p=>some ([p.1],p.2)) λ q=>C q.1 q.2)
  λ p=>au (au (jS (.str [.lit 32]) (.str ll) p.2) λ p=>mI .Add p.1 (.str [.lit 32]) p.2) λ q=>bs (we (wd J T C) .In p.1 q.1 q.2) λ b=>(.bool b,q.2)) λ p=>(.ret p.1,⟨m8 P wl ll (.str W),[],none⟩,p.2):=by kernel_rfl
def iT (T:List Nat):List Nat:=42::((32::(T++[32])).flatMap wr++[42])
noncomputable def kM (c:Nat):V:=.str [.lit c]
def Jn (ws:List Nat):Pr:=iK [.lst (ws.map kM)] (.str ((jn ws).map .lit))
def Tn (ws:List Nat):Pr:=iK [.str ((iT (jn ws)).map .lit),.none,.str [.lit 46]] (.lst (cj (32::(jn ws++[32]))))
def Cn (ws:List Nat):Pr:=iK [.lst (cj (32::(jn ws++[32])))] (.str ((32::(jn ws++[32])).map .lit))
end
theorem Au (c:Nat):(wr c).length≤3:=by
 unfold wr;cases aW c [42,63]<;>simp [aB]
theorem uT:∀ T:List Nat,gK (T.map λ c=>V.str ((wr c).map .lit))=some ((T.flatMap wr).map .lit)
 | []=>rfl
 | c::T=>by
  show aB (Nat.ble ((wr c).map AC.lit).length 7) (bs (gK (T.map λ c=>V.str ((wr c).map .lit))) λ z=>(wr c).map AC.lit++z) none=_;rw [uT T,Nat.ble_eq_true_of_le (by rw [List.length_map]; have:=Au c; lia),List.flatMap_cons,List.map_append]
  rfl
theorem iL (T:List Nat):(T.flatMap wr).length≤3 * T.length:=by
 induction T with
 | nil=>simp
 | cons c T ih =>
  rw [List.flatMap_cons,List.length_append,List.length_cons];have:=Au c;lia
theorem hZ:∀ l:List Nat,fR (l.map .lit)=some l
 | []=>rfl
 | c::l=>by
  show bs (fR (l.map .lit)) (λ r=>c::r)=_;rw [hZ l]; rfl
theorem m9 {x y:AS} {σ:List O} (h:x.length+y.length≤3000):jS (.str x) (.str y) σ=some (.str (x++y),σ):=by
 show aB (Nat.ble (Nat.add x.length y.length) 3000) _ none=_;rw [show Nat.ble (Nat.add x.length y.length) 3000=true from Nat.ble_eq_true_of_le h]; rfl
theorem KW (P:Params) {ws:List Nat} {ll:AS} {T C:Pr} (ok:∀ c∈jn ws,c∈gL) (hlen:(jn ws).length≤900):(IC (Jn ws) T C (cU P) (kh P 0)).f ⟨mZ P (ws.map kM) ll,[],none⟩ bP=some (.next,⟨m8 P (ws.map kM) ll (.str (((jn ws).flatMap wr).map .lit)),[],none⟩,bP):=by
 rw [k0];have hc:=hW (Pt:=bX (NC (cU P) (dH P)) "sign") (T:=⟨λ _ σ=>some (true,σ)⟩) (B:=(k8 (wf (Jn ws) T C) 9).E (NC (cU P) (dH P)) (ir (dH P))) (v:=.str ((jn ws).map .lit)) (σ:=bP) (m:=jn ws) (f:=λ c=>.str [.lit c]) (g:=λ c=>.str ((wr c).map .lit)) (Ev:=wg P)
  (by show some _=some _; rw [List.map_map]; rfl) (by exact Nat.le_trans (by assumption) (by decide)) (λ _=>rfl) (KU P) (λ c m=>j5 (KV P _ T C) c (ok c m)) (jn ws).length [] (jn ws) none rfl rfl
 have hJ:Jn ws [.lst (ws.map kM)] bP=some (.str ((jn ws).map .lit),bP):=by
  unfold Jn iK; rw [if_pos ⟨rfl,rfl⟩]
 have hj:d7 [.str [],.lst ((jn ws).map λ c=>V.str ((wr c).map .lit))] bP=some (.str (((jn ws).flatMap wr).map .lit),bP):=by
  show aB (km ((jn ws).map λ c=>V.str ((wr c).map .lit))) (bs (gK ((jn ws).map λ c=>V.str ((wr c).map .lit))) _) none=_;rw [uT,show km ((jn ws).map λ c=>V.str ((wr c).map .lit))=true from Nat.ble_eq_true_of_le (by simp; lia)]
  rfl
 rw [hJ];generalize bX (NC (cU P) (dH P)) "sign" = Pt at *
 generalize (k8 (wf (Jn ws) T C) 9).E (NC (cU P) (dH P)) (ir (dH P))=B at *
 generalize wg P none=E0 at *
 generalize m8 P (ws.map kM) ll=loc at *
 show au (au (au (bs (dC Pt _ B (.str ((jn ws).map .lit)) (((jn ws).map AC.lit).map λ c=>V.str [c]).length (((jn ws).map AC.lit).map λ c=>V.str [c]).length E0 bP []) λ q=>(.lst q.1,q.2)) λ p=>some ([p.1],p.2)) λ q=>d7 (.str []::q.1) q.2) _=_;rw [List.length_map,List.length_map,show dC Pt _ B (.str ((jn ws).map .lit)) (jn ws).length (jn ws).length E0 bP []=_ from hc];show au (d7 [.str [],.lst ((jn ws).map λ c=>V.str ((wr c).map .lit))] bP) _=_;rw [hj]; rfl
theorem CD (T:List Nat):([AC.lit 42,.lit 32]++(T.flatMap wr).map AC.lit)++[.lit 32,.lit 42]=(iT T).map .lit:=by
 unfold iT;rw [List.flatMap_cons,List.flatMap_append];show _=List.map AC.lit (42::([32]++(T.flatMap wr++[32])++[42]));simp
theorem KY (P:Params) {ws R:List Nat} {wl:List V} {J:Pr} (hlen:(jn ws).length≤900) (hR:R.length≤900):(IC J (Tn ws) (Cn ws) (cU P) (kh P 1)).f ⟨m8 P wl (R.map .lit) (.str (((jn ws).flatMap wr).map .lit)),[],none⟩ bP =
  some (.ret (.bool (oR (32::(jn ws++[32])) (32::(R++[32])))),⟨m8 P wl (R.map .lit) (.str (((jn ws).flatMap wr).map .lit)),[],none⟩,bP):=by
 have hf:=iL (jn ws);rw [k1,m9 (by simp [-List.length_flatMap]; lia)]
 generalize m8 P wl (R.map .lit) (.str (((jn ws).flatMap wr).map .lit))=loc at *
 have h2:mI .Add (.str ([AC.lit 42,.lit 32]++((jn ws).flatMap wr).map AC.lit)) (.str [.lit 32,.lit 42]) bP=some (.str ((iT (jn ws)).map .lit),bP):=by
  rw [<-CD];exact m9 (by simp [-List.length_flatMap]; lia)
 have h3:Tn ws [.str ((iT (jn ws)).map .lit),.none,.str [.lit 46]] bP=some (.lst (cj (32::(jn ws++[32]))),bP):=by
  unfold Tn iK; rw [if_pos ⟨rfl,rfl⟩]
 have h4:Cn ws [.lst (cj (32::(jn ws++[32])))] bP=some (.str ((32::(jn ws++[32])).map .lit),bP):=by
  unfold Cn iK; rw [if_pos ⟨rfl,rfl⟩]
 have h5:jS (.str [.lit 32]) (.str (R.map .lit)) bP=some (.str ([AC.lit 32]++R.map .lit),bP):=m9 (by simp; lia)
 have h6:mI .Add (.str ([AC.lit 32]++R.map .lit)) (.str [.lit 32]) bP=some (.str ((32::(R++[32])).map .lit),bP):=by
  have:(32::(R++[32])).map AC.lit=([AC.lit 32]++R.map .lit)++[.lit 32]:=by simp
  rw [this];exact m9 (by simp; exact Nat.le_trans (by assumption) (by decide))
 have h7:we (wd J (Tn ws) (Cn ws)) .In (.str ((32::(jn ws++[32])).map .lit)) (.str ((32::(R++[32])).map .lit)) bP=some (oR (32::(jn ws++[32])) (32::(R++[32]))):=by
  show au (fR ((32::(jn ws++[32])).map .lit)) (λ u=>bs (fR ((32::(R++[32])).map .lit)) λ v=>oR u v)=_;rw [hZ,hZ]; rfl
 generalize (iT (jn ws)).map AC.lit=pt at *
 generalize cj (32::(jn ws++[32]))=ot at *
 show bs (au (au (au (au (au (mI .Add (.str ([AC.lit 42,.lit 32]++((jn ws).flatMap wr).map AC.lit)) (.str [.lit 32,.lit 42]) bP) _) _) _) _) _) _=_;rw [h2];show bs (au (au (au (Tn ws [.str pt,.none,.str [.lit 46]] bP) _) _) _) _=_;rw [h3];show bs (au (Cn ws [.lst ot] bP) _) _=_;rw [h4];show bs (au (au (jS (.str [.lit 32]) (.str (R.map .lit)) bP) _) _) _=_;rw [h5];show bs (au (mI .Add (.str ([AC.lit 32]++R.map .lit)) (.str [.lit 32]) bP) _) _=_;rw [h6];show bs (bs (we (wd J (Tn ws) (Cn ws)) .In _ _ bP) _) _=_;rw [h7]; rfl
theorem Av (P:Params) {ws R:List Nat} (ok:∀ c∈jn ws,c∈gL) (hlen:(jn ws).length≤900) (hR:R.length≤900):cP (IC (Jn ws) (Tn ws) (Cn ws)) (aJ (am P) 1025 []) [.lst (ws.map kM),.str (R.map .lit)] bP=some (.bool (oR (32::(jn ws++[32])) (32::(R++[32]))),bP):=by
 refine uR (ae:=⟨m8 P (ws.map kM) (R.map .lit) (.str (((jn ws).flatMap wr).map .lit)),[],none⟩) (At P _ _) ?_;rw [As];exact Ap (KW P ok hlen) (Aq (KY P hlen hR))
theorem ki:∀ {a b:List Nat},kz a b=true↔a <+: b
 | [],b=>by simp [kz]
 | x::a,[]=>by simp [kz]
 | x::a,y::b=>by
  show (Nat.beq x y && kz a b)=true↔_;rw [Bool.and_eq_true,cx,decide_eq_true_eq,ki,List.cons_prefix_cons]
theorem gM {u:List Nat}:∀ {v:List Nat},oR u v=true↔u <:+: v:=by
 intro v;induction v with
 | nil =>
  show kz u []=true↔_;rw [ki,List.prefix_nil,List.infix_nil]
 | cons b r ih =>
  rw [List.infix_cons_iff,<-ih,<-ki];show aB (kz u (b::r)) true (oR u r)=true↔_;cases kz u (b::r)<;>simp [aB]
theorem Aw {u v:List Nat}:u <:+: v↔∃ i,i+u.length≤v.length∧(v.drop i).take u.length=u:=by
 constructor
 ·rintro ⟨s,t,rfl⟩;refine ⟨s.length,by simp,?_⟩
  rw [List.append_assoc,List.drop_left,List.take_left]
 ·rintro ⟨i,h1,h2⟩;refine ⟨v.take i,(v.drop i).drop u.length,?_⟩;rw [List.append_assoc];conv=>lhs; rw [show u++(v.drop i).drop u.length=(v.drop i).take u.length++(v.drop i).drop u.length by rw [h2]]
  rw [List.take_append_drop,List.take_append_drop]
def lE (l:List Nat):List Nat:=l.flatMap λ c=>32::aN c
theorem sn:∀ {l:List Nat},l≠[]->32::jn l=lE l
 | [c],_=>by
  show 32::aN c=32::aN c++[];exact dS
 | c::d::r,_=>by
  have ih:=sn (l:=d::r) (by simp)
  show 32::(aN c++32::jn (d::r))=(32::aN c)++lE (d::r);rw [ih]; rfl
theorem fv {c:Nat} (ok:fr c=true):32∉aN c∧aN c≠[]:=by
 have h:c≠32:=by rintro rfl; revert ok; decide
 rcases eG ok with ⟨rfl,e⟩ | ⟨m,e⟩ | ⟨m,e⟩ | ⟨m,e⟩<;>rw [e]<;>simp<;>lia
theorem wh {c d:Nat} (oc:fr c=true) (od:fr d=true) (h:aN c=aN d):c=d:=by
 rcases eG oc with ⟨rfl,e⟩ | ⟨m,e⟩ | ⟨m,e⟩ | ⟨m,e⟩<;>rcases eG od with ⟨rfl,e'⟩ | ⟨m',e'⟩ | ⟨m',e'⟩ | ⟨m',e'⟩<;>first | rfl | (rw [e,e'] at h; simpa using h)
theorem lF:∀ {a b x y:List Nat},32∉a->32∉b->a++32::x <+: b++32::y->a=b∧x <+: y
 | [],[],x,y,_,_,h=>⟨rfl,(List.cons_prefix_cons.mp h).2⟩
 | [],c::b,x,y,_,hb,h=>by
  have:=(List.cons_prefix_cons.mp h).1;exact (hb (by rw [this]; exact kR)).elim
 | c::a,[],x,y,ha,_,h=>by
  have:=(List.cons_prefix_cons.mp h).1;exact (ha (by rw [<-this]; exact kR)).elim
 | c::a,d::b,x,y,ha,hb,h=>by
  refine ab (List.cons_prefix_cons.mp h) λ h1 h2=>?_;refine ab (lF (λ m=>ha (List.mem_cons_of_mem _ m)) (λ m=>hb (List.mem_cons_of_mem _ m)) h2) λ h3 h4=>?_;exact ⟨by rw [h1,h3],h4⟩
theorem gN (l:List Nat):∃ x,lE l++[32]=32::x:=by
 induction l using List.casesOn with
 | nil=>exact ⟨[],rfl⟩
 | cons c r=>exact ⟨aN c++(lE r++[32]),by
  show ((32::aN c)++lE r)++[32]=_;simp⟩
theorem d8 (c:Nat) (r:List Nat):lE (c::r)++[32]=32::(aN c++(lE r++[32])):=by
 show ((32::aN c)++lE r)++[32]=_;simp
theorem uU:∀ {ws rs:List Nat},(∀ c∈ws,fr c=true)->(∀ c∈rs,fr c=true)->lE ws++[32] <+: lE rs++[32]->ws <+: rs
 | [],rs,_,_,_=>List.nil_prefix
 | w::ws,[],h1,_,h=>by
  have hp:=(fv (h1 w (List.mem_cons_self ..))).2;rw [d8] at h;have h:=(List.cons_prefix_cons.mp (show 32::(aN w++(lE ws++[32])) <+: 32::[] from h)).2;have:=List.prefix_nil.mp h;exact (hp (List.append_eq_nil_iff.mp this).1).elim
 | w::ws,r::rs,h1,h2,h=>by
  rw [d8,d8] at h;have h:=(List.cons_prefix_cons.mp h).2;refine aj (gN ws) λ x hx=>?_;refine aj (gN rs) λ y hy=>?_;rw [hx,hy] at h;have ow:=h1 w (List.mem_cons_self ..);have or':=h2 r (List.mem_cons_self ..);refine ab (lF (fv ow).1 (fv or').1 h) λ h3 h4=>?_;have ih:=uU (ws:=ws) (rs:=rs) (λ c m=>h1 c (List.mem_cons_of_mem _ m)) (λ c m=>h2 c (List.mem_cons_of_mem _ m)) (by rw [hx,hy]; exact List.cons_prefix_cons.mpr ⟨rfl,h4⟩)
  exact List.cons_prefix_cons.mpr ⟨wh ow or' h3,ih⟩
theorem CE {u r:List Nat}:∀ {l:List Nat},32∉l->32::u <:+: l++r->32::u <:+: r:=by
 intro l;induction l with
 | nil =>
  intro _ h;exact h
 | cons c l ih =>
  intro hn h;rcases List.infix_cons_iff.mp h with h | h
  ·have:=(List.cons_prefix_cons.mp h).1;exact (hn (by rw [this]; exact kR)).elim
  ·exact ih (λ m=>hn (List.mem_cons_of_mem _ m)) h
theorem Fv {ws:List Nat} (hne:ws≠[]) (ow:∀ c∈ws,fr c=true):∀ {rs:List Nat},(∀ c∈rs,fr c=true)->(lE ws++[32] <:+: lE rs++[32]↔ws <:+: rs):=by
 intro rs hr;constructor
 ·intro h;induction rs with
  | nil =>
   match ws,hne,ow,h with
   | w::ws,_,ow,h =>
    rw [d8] at h;have:=h.length_le;have hp:=(fv (ow w (List.mem_cons_self ..))).2;have hz:0 < (aN w).length:=List.length_pos_iff.mpr hp;simp [lE] at this
  | cons r rs ih =>
   rw [d8 r rs] at h;rcases List.infix_cons_iff.mp h with h | h
   ·rw [<-d8] at h;exact (uU ow hr h).isInfix
   ·refine aj (gN ws) λ x hx=>?_;rw [hx] at h;have h:=CE (fv (hr r (List.mem_cons_self ..))).1 h;rw [<-hx] at h;exact List.infix_cons_iff.mpr (.inr (ih (λ c m=>hr c (List.mem_cons_of_mem _ m)) h))
 ·rintro ⟨a,b,rfl⟩;refine aj (gN b) λ x hx=>?_;refine ⟨lE a,x,?_⟩;have e:lE (a++ws++b)++[32]=lE a++(lE ws++(lE b++[32])):=by
   unfold lE;rw [List.flatMap_append,List.flatMap_append];simp
  rw [e,hx];simp
theorem wi {ws rs:List Nat} (hne:ws≠[]) (hrn:rs≠[]) (ow:∀ c∈ws,fr c=true) (or':∀ c∈rs,fr c=true):oR (32::(jn ws++[32])) (32::(jn rs++[32]))=oR ws rs:=by
 rw [Bool.eq_iff_iff,gM,gM,<-List.cons_append,<-List.cons_append,sn hne,sn hrn];exact Fv hne ow or'
theorem CG {f:Nat->Nat} (hf:∀ x y,f x=f y->x=y) (u v:List Nat):oR (u.map f) (v.map f)=oR u v:=by
 rw [Bool.eq_iff_iff,gM,gM];constructor
 ·rintro ⟨s,t,e⟩;refine ak (List.map_eq_append_iff.mp e.symm) ?_; rintro v1 v2 rfl e1 e2;refine ak (List.map_eq_append_iff.mp e1) ?_; rintro v3 v4 rfl e3 e4;have:=(List.map_inj_right hf).mp e4;subst this;exact ⟨v3,v2,rfl⟩
 ·exact λ h=>h.map f
section
noncomputable def IK:aZ:=⟨λ _=>0,⟨#[]⟩,λ _=>0,[],0,[],.bare,[(0,288),(1,995)]⟩
end
theorem qh {c:Nat} (ok:fr c=true):∀ d∈aN c,CA d=true:=by
 have h:CA c=true:=by
  have all:(39::(nj++nk++zN)).all CA=true:=by decide
  refine List.all_eq_true.mp all c ?_;unfold fr at ok;simp only [Bool.or_eq_true,bf,decide_eq_true_eq,cx] at ok;simp only [List.mem_cons,List.mem_append];rcases ok with ((h | h) | h) | h
  ·exact .inl h
  ·exact .inr (.inl (.inl h))
  ·exact .inr (.inl (.inr h))
  ·exact .inr (.inr h)
 have h39:CA 39=true:=by decide
 have h34:CA 34=true:=by decide
 rcases eG ok with ⟨rfl,e⟩ | ⟨m,e⟩ | ⟨m,e⟩ | ⟨m,e⟩<;>rw [e]<;>intro d m<;>simp at m
 ·rcases m with rfl | rfl | rfl | rfl | rfl<;>assumption
 ·rw [m]; exact h
 ·rw [m]; exact h
 ·rcases m with rfl | rfl | rfl<;>assumption
theorem uV:∀ {ws:List Nat},(∀ c∈ws,fr c=true)->∀ d∈jn ws,CA d=true
 | [],_,d,m=>by cases m
 | [c],h,d,m=>qh (h c (by exact kR)) d m
 | c::e::r,h,d,m=>by
  have m:d∈aN c++32::jn (e::r):=m;rcases List.mem_append.mp m with m | m
  ·exact qh (h c (by exact kR)) d m
  ·rcases List.mem_cons.mp m with rfl | m
   ·decide
   ·exact uV (λ c m=>h c (List.mem_cons_of_mem _ m)) d m
theorem ia:∀ ws:List Nat,(jn ws).length≤8 * ws.length
 | []=>by simp [jn]
 | [c]=>by
  show (aN c).length≤8;have:=hV c;exact Nat.le_trans (by assumption) (by decide)
 | c::e::r=>by
  show (aN c++32::jn (e::r)).length≤_;have:=hV c;have:=ia (e::r);simp only [List.length_append,List.length_cons] at this ⊢;lia
section
variable {hb:Heap} {prog:Program} {w:World} {I J:aZ} {k:Nat} {hid ρ:List Addr} {σ:List O} {A:Around} {E:Value->Shared->Prop} {s:Shared} {h h':Heap} {a:Addr} {i:Nat}
theorem lG (H:Sh hb prog w I hid ρ σ h) (e1:ρ[i]?=some a) (e2:σ[i]?=some .tabT) (hf:J.fx=[]):Sh hb prog w J (hid++ρ.filter λ b=>!([a]:List Addr).contains b) [a] [.tabT] h:=by
 refine H.focus (js:=[]) (ρs:=[a]) (σs:=[.tabT]) (by simp) (λ b m=>by rw [List.mem_singleton.mp m]; exact List.mem_of_getElem? e1) rfl (λ j o e=>?_) hf
 match j,e with
 | 0,e =>
  induction e using sI;refine ak (H.ob i _ e2) λ a' b f1 f2 f3=>?_;rw [e1] at f1; induction f1 using sI;induction f3 using bO.casesOn with
  | tabT t=>exact ⟨_,_,rfl,f2,.tabT t⟩
 | _+1,e=>exact ac e
theorem iM (H:Sh hb prog w I hid ρ σ h) (e1:ρ[i]?=some a) (e2:σ[i]?=some .tabT) (x:Ext [] [a] [a] h h') (H2:Sh hb prog w J (hid++ρ.filter λ b=>!([a]:List Addr).contains b) [a] [.tabT] h'):Ext [] ρ ρ h h'∧Sh hb prog w I hid ρ σ h':=by
 refine H.unfocus (ρs:=[a]) (λ b m=>by rw [List.mem_singleton.mp m]; exact List.mem_of_getElem? e1) x H2 λ j b o f1 m f2 _=>?_
 have:=List.mem_singleton.mp m;subst this;have:=dp H.nd f1 e1;subst this;rw [e2] at f2; induction f2 using sI;refine ak (H2.ob 0 _ rfl) λ a' ob g1 g2 g3=>?_;induction g1 using sI;induction g3 using bO.casesOn with
 | tabT t=>exact ⟨_,g2,.tabT t⟩
theorem uX (G:cz w hb) {ws:List Nat} (ok:∀ c∈ws,fr c=true) (hlen:ws.length≤100) (hgr:I.gr=.bare) (e1:ρ[i]?=some 995) (e2:σ[i]?=some .tabT) (R:aC A 60) (H:Sh hb prog w I hid ρ σ s.heap) {la:Addr} {items:Array Value} {n:Nat} {Q:Value->Shared->Prop}
  (g:ay hid ρ s.heap la { cls:=.type "list",data:=.seq items n }) (W:∀ S ρ',VRs (IT ⟨#[]⟩ 0 0) S ρ' (ws.map kM) items.toList) (q:∀ h' tk gs t,aI I [] ρ ρ s.heap s.gens h' gs->Sh hb prog w I hid ρ σ h'->Q (.str ⟨(jn ws).toArray⟩ t) { s with heap:=h',toks:=tk,gens:=gs }) :
  wpAny (model prog w) A (call (.ref 1000) [.ref la]) Q E s:=by
 have hs:∀ b∈([995]:List Addr),b∈ρ:=λ b m=>by rw [List.mem_singleton.mp m]; exact List.mem_of_getElem? e1
 refine wpAny_call (wa (items:=items) (n:=n) G R (lG (J:=IT ⟨#[]⟩ 0 0) H e1 e2 rfl) ok hlen (.lst (lD hs _ _ g) (W _ _)) λ h' tk gs t x1 H1 kg=>?_);refine ab (iM H e1 e2 x1 H1) λ x2 H2=>?_;exact q h' tk gs t ⟨x2,by rw [hgr]; exact kg⟩ H2
theorem na (G:cz w hb) {ws:List Nat} (ok:∀ c∈ws,fr c=true) (hlen:ws.length≤100) (hgr:I.gr=.bare) (e1:ρ[i]?=some 288) (e2:σ[i]?=some .tabT) (R:aC A 60) (H:Sh hb prog w I hid ρ σ s.heap) {t t2:Tok} {Q:Value->Shared->Prop}
  (q:∀ h' tk gs lo,aI I [] ρ ρ s.heap s.gens h' gs->Sh hb prog w I hid ρ σ h'->VR I (ay hid ρ h') ρ (.lst (cj (32::(jn ws++[32])))) (.ref lo)->Q (.ref lo) { s with heap:=h',toks:=tk,gens:=gs }) :
  wpAny (model prog w) A (call (.ref 293) [.str ⟨(iT (jn ws)).toArray⟩ t,.none,.str ⟨#[46]⟩ t2]) Q E s:=by
 have hj:=ia ws;have hf:=iL (32::(jn ws++[32]));have hs:∀ b∈([288]:List Addr),b∈ρ:=λ b m=>by rw [List.mem_singleton.mp m]; exact List.mem_of_getElem? e1
 have LI:(⟨(iT (jn ws)).toArray⟩:Str).length≤3000:=by
  show (iT (jn ws)).toArray.size≤3000;rw [List.size_toArray];unfold iT;simp only [List.length_cons,List.length_append,List.length_nil] at hf ⊢;lia
 refine wpAny_call (ka (M:=32::(jn ws++[32])) (M':=32::jn ws) G LI (by simp [iT]) (λ c m=>?_) (by simp) (by simp; lia) R (lG (J:=IR ⟨(iT (jn ws)).toArray⟩ [] 0) H e1 e2 rfl) λ h' tk gs lo x1 H1 kg V1=>?_)
 ·simp only [List.mem_cons,List.mem_append,List.not_mem_nil,or_false] at m;rcases m with rfl | m | rfl
  ·decide
  ·exact uV ok c m
  ·decide
 ·refine ab (iM H e1 e2 x1 (H1 (IR ⟨#[]⟩ [] 0) rfl)) λ x2 H2=>?_;refine q h' tk gs lo ⟨x2,by rw [hgr]; exact kg⟩ H2 ?_
  cases V1 I with
  | lst g W =>
   have hc:(cj (32::(jn ws++[32]))).all fK=true:=by
    unfold cj;rw [List.all_cons,List.all_append,eH]; rfl
   refine .lst ⟨g.1,λ m=>g.2.1 (List.mem_append_left _ m),λ m=>?_⟩ (W.txt hc);by_cases q:lo∈([288]:List Addr)
   ·exact g.2.2 q
   ·exact g.2.1 (List.mem_append_right _ (List.mem_filter.mpr ⟨m,by simpa using q⟩))
end
noncomputable def kj (l:List Int) (j:Nat):Int:=(l.take 2++[36,1,40]).getD j 0
def Ax (l:List Int) (k:Nat):Int:=33+23 * (k:Int)+((kj l (k % 3)).fdiv 4).fmod 23
def bL (l:List Int) (k:Nat):Nat:=if k < 4 then (Ax l k).toNat else 1000+k
noncomputable def ib (l:List Int) (k:Nat):Int :=
 if k=10 then (l.getD 0 0).fdiv 4 else if k=11 then (l.getD 1 0).fdiv 4 else
 if k=20 then ((l.getD 0 0).fdiv 4).fmod 23 else if k=21 then ((l.getD 1 0).fdiv 4).fmod 23 else
 if k=30 then 33+((l.getD 0 0).fdiv 4).fmod 23 else if k=31 then 56+((l.getD 1 0).fdiv 4).fmod 23 else
 if k=33 then 102+((l.getD 0 0).fdiv 4).fmod 23 else l.getD (k - 100) 0
def fI (l:List Int) (line:Str):aZ:=⟨bL l,line,ib l,l,0,[],.bare,[(1,288),(2,995)]⟩
theorem fm (x:Int):0≤x.fmod 23∧x.fmod 23 < 23:=by rw [Int.fmod_eq_emod_of_nonneg _ (by decide)]; lia
theorem gP (l:List Int) (k:Nat) (h:k < 4):33+23 * k≤bL l k∧bL l k≤55+23 * k:=by
 have:=fm ((kj l (k % 3)).fdiv 4);unfold bL Ax;rw [if_pos h];lia
theorem Ay (l:List Int) (line:Str):(fI l line).Inj:=by
 intro i j e;have e:bL l i=bL l j:=e;by_cases hi:i < 4<;>by_cases hj:j < 4
 ·have:=gP l i hi; have:=gP l j hj; lia
 ·have:=gP l i hi;have:bL l j=1000+j:=if_neg hj;lia
 ·have:=gP l j hj;have:bL l i=1000+i:=if_neg hi;lia
 ·have h1:bL l i=1000+i:=if_neg hi;have h2:bL l j=1000+j:=if_neg hj;simp_all
theorem CH (line:Str) {S:Addr->Obj->Prop} {ρ:List Addr} (l:List Int) {vs:List Value} {ns:List Int} (j:Nat) (hi:IntsAre vs ns) (e:l.drop j=ns):VRs (fI l line) S ρ ((List.range ns.length).map λ i=>.iat (100+(j+i))) vs:=by
 induction hi generalizing j with
 | nil=>exact .nil
 | @cons n t vs ns h ih =>
  rw [List.length_cons,List.range_succ_eq_map,List.map_cons,List.map_map];refine .cons ?_ ?_
  ·have h2:l[j]?=some n:=by
    have q:(l.drop j)[0]?=some n:=by rw [e]; rfl
    rwa [List.getElem?_drop] at q
   have:(fI l line).zs (100+(j+0))=n:=by
    show ib l (100+(j+0))=n;unfold ib;rw [if_neg (by simp +arith),if_neg (by simp +arith),if_neg (by simp +arith),if_neg (by simp +arith),if_neg (by simp +arith),if_neg (by simp +arith),if_neg (by simp +arith)]
    rw [List.getD_eq_getElem?_getD,Nat.add_sub_cancel_left,Nat.add_zero,h2]; rfl
   rw [<-this]; exact .iat _ _
  ·have:=ih (j+1) (by rw [<-List.drop_drop,e]; rfl)
   have e2:((λ i=>V.iat (100+(j+i)))∘Nat.succ)=λ i=>V.iat (100+(j+1+i)):=by
    funext i; exact congrArg (λ x=>V.iat (100+x)) (Nat.succ_add_eq_add_succ j i).symm
   rw [e2]; exact this
theorem Fw (line:Str) (l:List Int) {S:Addr->Obj->Prop} {ρ:List Addr} {vs:List Value} (h:IntsAre vs l):∃ m:List V,m=((List.range l.length).map λ i=>V.iat (100+i))∧m.length=vs.length∧VRs (fI l line) S ρ m vs:=by
 have:=CH line (S:=S) (ρ:=ρ) l 0 h rfl;simp only [Nat.zero_add] at this;exact ⟨_,rfl,this.length,this⟩
structure FN (P:Params) (hb:Heap):Prop where
 X:(am P).In hb
 B:gE hb
 GO:cZ hb
 globs:∀ x v,fk gl x=some v->∃ val mg,v=.val val∧hb.Ns mainGlobals mg∧(mg x=some val∨∃ mb,mg x=none∧hb.Ns builtinsNs mb∧mb x=some val)
section
variable {P:Params} {hb:Heap} {prog:Program} {w:World}
theorem Az:∀ {t:List (Nat×Int×Nat)} {k:Nat} {i:Int} {c:Nat},za t k i=some c->(k,i,c)∈t:=by
 intro t;induction t with
 | nil =>
  intro _ _ _ h;exact ac h
 | cons p9 r ih =>
  obtain ⟨a,j,d⟩:=p9;intro k i c h;unfold za at h;cases q:Nat.beq a k && oG j i with
  | true =>
   rw [q] at h; induction h using sI;refine ab (Bool.and_eq_true_iff.mp q) λ q1 q2=>?_;rw [dD] at q2;rw [Nat.eq_of_beq_eq_true q1,of_decide_eq_true q2]; exact List.mem_cons_self ..
  | false=>rw [q] at h; exact List.mem_cons_of_mem _ (ih h)
theorem AA:∀ {t:List (Nat×Int×V)} {k:Nat} {i:Int} {c:V},zb t k i=some c->(k,i,c)∈t:=by
 intro t;induction t with
 | nil =>
  intro _ _ _ h;exact ac h
 | cons p9 r ih =>
  obtain ⟨a,j,d⟩:=p9;intro k i c h;unfold zb at h;cases q:Nat.beq a k && oG j i with
  | true =>
   rw [q] at h; induction h using sI;refine ab (Bool.and_eq_true_iff.mp q) λ q1 q2=>?_;rw [dD] at q2;rw [Nat.eq_of_beq_eq_true q1,of_decide_eq_true q2]; exact List.mem_cons_self ..
  | false=>rw [q] at h; exact List.mem_cons_of_mem _ (ih h)
theorem AB:∀ {t:List (Int×Nat×Nat)} {i:Int} {k:Nat} {c:Nat},zc t i k=some c->(i,k,c)∈t:=by
 intro t;induction t with
 | nil =>
  intro _ _ _ h;exact ac h
 | cons p9 r ih =>
  obtain ⟨j,a,d⟩:=p9;intro i k c h;unfold zc at h;cases q:Nat.beq a k && oG j i with
  | true =>
   rw [q] at h; induction h using sI;refine ab (Bool.and_eq_true_iff.mp q) λ q1 q2=>?_;rw [dD] at q2;rw [Nat.eq_of_beq_eq_true q1,of_decide_eq_true q2]; exact List.mem_cons_self ..
  | false=>rw [q] at h; exact List.mem_cons_of_mem _ (ih h)
theorem AD:∀ {t:List (Int×Nat)} {i:Int} {c:Nat},zd t i=some c->(i,c)∈t:=by
 intro t;induction t with
 | nil =>
  intro _ _ h;exact ac h
 | cons p9 r ih =>
  obtain ⟨j,d⟩:=p9;intro i c h;unfold zd at h;cases q:oG j i with
  | true=>rw [q] at h; induction h using sI; rw [dD] at q; rw [of_decide_eq_true q]; exact List.mem_cons_self ..
  | false=>rw [q] at h; exact List.mem_cons_of_mem _ (ih h)
theorem AF:∀ {t:List (Nat×Nat)} {i:Nat} {c:Nat},ze t i=some c->(i,c)∈t:=by
 intro t;induction t with
 | nil =>
  intro _ _ h;exact ac h
 | cons p9 r ih =>
  obtain ⟨j,d⟩:=p9;intro i c h;unfold ze at h;cases q:Nat.beq j i with
  | true=>rw [q] at h; induction h using sI; rw [Nat.eq_of_beq_eq_true q]; exact List.mem_cons_self ..
  | false=>rw [q] at h; exact List.mem_cons_of_mem _ (ih h)
theorem AG (G:FN P hb) (l:List Int) (line:Str) (hl:l.length≤1000) {row:List Nat} {div:List (Nat×Int×Nat)} {mod:List (Nat×Int×V)} {add:List (Int×Nat×Nat)} {chi:List (Int×Nat)} {cha:List (Nat×Nat)} {scr:List V}
  (PO:eF hb prog w (fI l line) (rQ (am P) row div mod add chi cha scr))
  (h1:∀ q∈div,(1≤q.2.1∧q.2.1≤1000000)∧ib l q.2.2=(ib l q.1).fdiv q.2.1)
  (h2:∀ q∈mod,(1≤q.2.1∧q.2.1≤1000000)∧((∃ c,q.2.2=.iat c∧ib l c=(ib l q.1).fmod q.2.1)∨q.2.2=.int ((ib l q.1).fmod q.2.1)))
  (h3:∀ q∈add,ib l q.2.2=q.1+ib l q.2.1)
  (h4:∀ q∈chi,(0≤q.1∧q.1≤0x10FFFF)∧bL l q.2=q.1.toNat)
  (h5:∀ q∈cha,(0≤ib l q.1∧ib l q.1≤0x10FFFF)∧bL l q.2=(ib l q.1).toNat)
  (h6:scr=((List.range l.length).map λ i=>V.iat (100+i)).take 2) :
  bR hb prog w (fI l line) (am P) (rQ (am P) row div mod add chi cha scr):=by
 refine ⟨G.B,G.GO,Ay l line,G.X,Kv,G.globs,E8 _ _ rfl rfl G.X PO,λ k i c e=>h1 _ (Az e),λ k i v e=>h2 _ (AA e),λ i k c e=>h3 _ (AB e),λ i k e=>h4 _ (AD e),hl,λ h=>?_,λ j k e=>h5 _ (AF e)⟩;obtain ⟨m,e1,e2,e3⟩:=Fw line l h;exact ⟨m,by rw [e1]; exact h6,e2,e3⟩
theorem ID {c:Int} (x:Int) (h1:0≤c) (h2:c≤1000):0≤c+x.fmod 23∧c+x.fmod 23≤0x10FFFF:=by
 have:=fm x;lia
theorem d4:(1:Int)≤4∧(4:Int)≤1000000:=by decide
theorem J1:(1:Int)≤23∧(23:Int)≤1000000:=by decide
theorem Fx (G:FN P hb) (a b:Int) (r:List Int) (line:Str) (hl:r.length≤900) {p q:Nat} (hp:a.fmod 4=p) (hq:b.fmod 4=q) (PO:eF hb prog w (fI (a::b::r) line) (cS (am P) p q)):bR hb prog w (fI (a::b::r) line) (am P) (cS (am P) p q) :=
 AG G _ _ (by simp; exact Nat.le_trans (by assumption) (by decide)) PO (fa ⟨d4,rfl⟩ <| fa ⟨d4,rfl⟩ ja)
  (fa ⟨J1,.inl ⟨20,rfl,rfl⟩⟩ <| fa ⟨J1,.inl ⟨21,rfl,rfl⟩⟩ <| fa ⟨d4,.inr (congrArg V.int hp.symm)⟩ <| fa ⟨d4,.inr (congrArg V.int hq.symm)⟩ ja)
  (fa rfl <| fa rfl <| fa rfl ja) (fa ⟨by decide,rfl⟩ ja)
  (fa ⟨ID (c:=33) (a.fdiv 4) (by decide) (by decide),rfl⟩ <| fa ⟨ID (c:=56) (b.fdiv 4) (by decide) (by decide),rfl⟩ <| fa ⟨ID (c:=102) (a.fdiv 4) (by decide) (by decide),rfl⟩ ja) (by simp [List.range_succ_eq_map])
theorem Fy (G:FN P hb) (a:Int) (line:Str) {p:Nat} (hp:a.fmod 4=p) (PO:eF hb prog w (fI [a] line) (kG (am P) p)):bR hb prog w (fI [a] line) (am P) (kG (am P) p) :=
 AG G _ _ (by simp) PO (fa ⟨d4,rfl⟩ ja) (fa ⟨J1,.inl ⟨20,rfl,rfl⟩⟩ <| fa ⟨d4,.inr (congrArg V.int hp.symm)⟩ ja) (fa rfl <| fa rfl ja)
  (fa ⟨by decide,rfl⟩ <| fa ⟨by decide,rfl⟩ ja) (fa ⟨ID (c:=33) (a.fdiv 4) (by decide) (by decide),rfl⟩ <| fa ⟨ID (c:=102) (a.fdiv 4) (by decide) (by decide),rfl⟩ ja) (by simp [List.range_succ_eq_map])
theorem Fz (G:FN P hb) (line:Str) (PO:eF hb prog w (fI [] line) (zF (am P))):bR hb prog w (fI [] line) (am P) (zF (am P)) :=
 AG G _ _ (by simp) PO ja ja ja (fa ⟨by decide,by decide⟩ <| fa ⟨by decide,by decide⟩ <| fa ⟨by decide,by decide⟩ <| fa ⟨by decide,by decide⟩ ja) ja (by simp)
end
section
def fS (r:Option (V×List O)):Bool:=(l7 false (λ y390=>aO (yG false (λ y380 y381=>aO (jr false (λ y370=>aO (yF false (aO (aR false (λ y350 y351=>aO (yx false (λ y340=>aO (aR false (λ y330 y331=>aO (gq false (aO (aR false (λ y310 y311=>aO (gq false true y310)) y331)) y330)) y351)) y350)) y381)) y370)) y380)) y390)) r)
noncomputable abbrev bt (P:Params):i7:=aJ (am P) 1056 []
end
theorem FA {r:Option (V×List O)} (h:fS r=true):∃ l σ,r=some (.bool true,.tab l::.tabT::.tabT::σ):=by
 unfold fS at h;revert h; refine gX ?_ λ h=>?_; rintro _ rfl h; replace h:=af h; revert h; refine vj ?_ aT; rintro _ _ rfl h; replace h:=af h; revert h; refine gV ?_ aT; rintro _ rfl h; replace h:=af h; revert h; refine vi ?_ aT; rintro rfl h; replace h:=af h; revert h; refine av ?_ aT; rintro _ _ rfl h; replace h:=af h; revert h; refine vf ?_ aT; rintro _ rfl h; replace h:=af h; revert h; refine av ?_ aT; rintro _ _ rfl h; replace h:=af h; revert h; refine fZ ?_ aT; rintro rfl h; replace h:=af h; revert h; refine av ?_ aT; rintro _ _ rfl h; replace h:=af h; revert h; refine fZ ?_ aT; rintro rfl h
 ·exact ⟨_,_,rfl⟩
 ·exact aT h
theorem J2 (P:Params):fS (bb (zF (am P)) 14 (bt P) [.scr])=true:=by kernel_rfl
theorem FB (P:Params):fS (bb (kG (am P) 0) 14 (bt P) [.scr])=true:=by kernel_rfl
theorem FC (P:Params):fS (bb (kG (am P) 1) 14 (bt P) [.scr])=true:=by kernel_rfl
theorem FD (P:Params):fS (bb (kG (am P) 2) 14 (bt P) [.scr])=true:=by kernel_rfl
theorem FE (P:Params):fS (bb (kG (am P) 3) 14 (bt P) [.scr])=true:=by kernel_rfl
theorem CI (P:Params):fS (bb (cS (am P) 0 0) 14 (bt P) [.scr])=true:=by kernel_rfl
theorem CJ (P:Params):fS (bb (cS (am P) 0 1) 14 (bt P) [.scr])=true:=by kernel_rfl
theorem CK (P:Params):fS (bb (cS (am P) 0 2) 14 (bt P) [.scr])=true:=by kernel_rfl
theorem CL (P:Params):fS (bb (cS (am P) 0 3) 14 (bt P) [.scr])=true:=by kernel_rfl
theorem CM (P:Params):fS (bb (cS (am P) 1 0) 14 (bt P) [.scr])=true:=by kernel_rfl
theorem CN (P:Params):fS (bb (cS (am P) 1 1) 14 (bt P) [.scr])=true:=by kernel_rfl
theorem CO (P:Params):fS (bb (cS (am P) 1 2) 14 (bt P) [.scr])=true:=by kernel_rfl
theorem CP (P:Params):fS (bb (cS (am P) 1 3) 14 (bt P) [.scr])=true:=by kernel_rfl
theorem CQ (P:Params):fS (bb (cS (am P) 2 0) 14 (bt P) [.scr])=true:=by kernel_rfl
theorem CR (P:Params):fS (bb (cS (am P) 2 1) 14 (bt P) [.scr])=true:=by kernel_rfl
theorem CS (P:Params):fS (bb (cS (am P) 2 2) 14 (bt P) [.scr])=true:=by kernel_rfl
theorem CT (P:Params):fS (bb (cS (am P) 2 3) 14 (bt P) [.scr])=true:=by kernel_rfl
theorem CU (P:Params):fS (bb (cS (am P) 3 0) 14 (bt P) [.scr])=true:=by kernel_rfl
theorem CV (P:Params):fS (bb (cS (am P) 3 1) 14 (bt P) [.scr])=true:=by kernel_rfl
theorem CW (P:Params):fS (bb (cS (am P) 3 2) 14 (bt P) [.scr])=true:=by kernel_rfl
theorem CX (P:Params):fS (bb (cS (am P) 3 3) 14 (bt P) [.scr])=true:=by kernel_rfl
theorem wj {C:Nat->Prop} (h0:C 0) (h1:C 1) (h2:C 2) (h3:C 3) (p:Nat) (h:p < 4):C p :=
 match p,h with
 | 0,_=>h0
 | 1,_=>h1
 | 2,_=>h2
 | 3,_=>h3
theorem J3 (P:Params) (p:Nat) (h:p < 4):fS (bb (kG (am P) p) 14 (bt P) [.scr])=true:=wj (C:=λ p=>fS (bb (kG (am P) p) 14 (bt P) [.scr])=true) (FB P) (FC P) (FD P) (FE P) p h
theorem J4 (P:Params) (p q:Nat) (hp:p < 4) (hq:q < 4):fS (bb (cS (am P) p q) 14 (bt P) [.scr])=true:=by
 revert q;refine wj (C:=λ p=>∀ q,q < 4->fS (bb (cS (am P) p q) 14 (bt P) [.scr])=true) ?_ ?_ ?_ ?_ p hp
 ·exact wj (C:=λ q=>fS (bb (cS (am P) 0 q) 14 (bt P) [.scr])=true) (CI P) (CJ P) (CK P) (CL P)
 ·exact wj (C:=λ q=>fS (bb (cS (am P) 1 q) 14 (bt P) [.scr])=true) (CM P) (CN P) (CO P) (CP P)
 ·exact wj (C:=λ q=>fS (bb (cS (am P) 2 q) 14 (bt P) [.scr])=true) (CQ P) (CR P) (CS P) (CT P)
 ·exact wj (C:=λ q=>fS (bb (cS (am P) 3 q) 14 (bt P) [.scr])=true) (CU P) (CV P) (CW P) (CX P)
section
variable {P:Params} {base:Heap} {prog:Program} {w:World}
theorem CY (X:(am P).In base):(am P).In (hideAll base [288,1053,995]):=λ a o e=>hideAll_get _ (X a o e) λ m=>ac ((qu (P:=λ a=>(am P).lookup a=none) (by kernel_rfl) (by kernel_rfl) (by kernel_rfl) _ m).symm.trans e)
theorem KZ {p:Program} {loose:List Str} {mean:ExcName->Option Value} {mg mb:Str->Option Value} (X:(am P).In (hideAll base [288,1053,995])) (T:Top p loose mean mg mb (hideAll base [288,1053,995])):FN P (hideAll base [288,1053,995]):=by
 refine GV T.bmain λ bm ob b1 b2 b3 b4 b5 b6=>?_;refine ⟨X,⟨T.nolimit⟩,⟨mg,bm,ob,T.g,b1,b2,?_,b3,b4,b5,b6⟩,B1 X T.g T.b T.builtins⟩;rintro rfl;refine dK T.g λ o es ep e hd _=>?_;rw [e] at b3; induction b3 using sI; rw [hd] at b6; cases b6
theorem FF:((am P).lookup 2).isSome=true:=by kernel_rfl
theorem start (I:aZ) (X:(am P).In (hideAll base [288,1053,995])) (h8:∀ a∈([288,1053,995]:List Addr),base.get? a=some (tabObj #[])) (hf:I.fx=[(1,288),(2,995)]:=by rfl):Sh (hideAll base [288,1053,995]) prog w I [] [1053,288,995] [.tab [],.tabT,.tabT] base:=by
 refine ⟨⟨by decide,?_,?_⟩,λ b o e=>of_hideAll _ e,by decide,rfl,λ a m=>?_,λ a m=>(by cases m),λ i o e=>?_⟩
 ·refine aj (Option.isSome_iff_exists.mp (FF (P:=P))) λ o e=>?_;exact ⟨o,X _ _ e⟩
 ·rw [hf]; decide
 ·have m':a∈([288,1053,995]:List Addr):=by
   simp only [List.mem_cons,List.not_mem_nil,or_false] at m ⊢;rcases m with m | m | m<;>simp [m]
  exact ⟨hideAll_none _ m',by simp,_,h8 a m'⟩
 ·match i,e with
  | 0,e =>
   induction e using sI;exact ⟨1053,_,rfl,h8 _ (by exact ni),.tab (by exact True.intro) λ _ _=>rfl⟩
  | 1,e =>
   induction e using sI;exact ⟨288,_,rfl,h8 _ (by exact kR),.tabT (by exact True.intro)⟩
  | 2,e =>
   induction e using sI;exact ⟨995,_,rfl,h8 _ (by exact G2),.tabT (by exact True.intro)⟩
  | _+3,e=>simp at e
end
section
theorem wm (P:Params):∃ p1 p2 p3 p4 p5,mB (bt P).body 4=.Assign [.Name "read" p1] (.Call (.Name "split" p2) [.Name "line" p3] [] p4) p5:=⟨_,_,_,_,_,rfl⟩
theorem AH (P:Params):(bt P).body=(bt P).body.take 4++mB (bt P).body 4::(bt P).body.drop 5:=by kernel_rfl
end
section
variable {hb:Heap} {prog:Program} {w:World} {I:aZ} {k:Nat} {X:eM} {hid ρ ρ':List Addr} {σ:List O} {A:Around} {s:Shared} {env:Env} {N:aq} {ae:AE} {E:Value->Shared->Prop} {h h':Heap}
theorem wn (SX:dQ hb prog w I k X) (R:aC A k) {b:List Stmt} {ae':AE} {σ':List O} {Q:Flow->Shared->Prop}:∀ {a:List Stmt} {ae:AE} {σ:List O} {ρ:List Addr} {s:Shared},(bY X N a).f ae σ=some (.next,ae',σ')->ao I N env ae hid ρ s.heap->Sh hb prog w I hid ρ σ s.heap ->
  (∀ ρ' h' tk gs,aI I [env.locals] ρ ρ' s.heap s.gens h' gs->Sh hb prog w I hid ρ' σ' h'->ao I N env ae' hid ρ' h'->wpAny (model prog w) A (execs b env) Q E { s with heap:=h',toks:=tk,gens:=gs })->wpAny (model prog w) A (execs (a++b) env) Q E s:=by
 intro a;induction a with
 | nil =>
  intro ae σ ρ s e Y H q;cases e;exact q ρ s.heap s.toks s.gens (aI.refl _ _ _ _) H Y
 | cons st body ih =>
  intro ae σ ρ s e Y H q;change (au ((X N st).f ae σ) λ p=>match p.1 with
   | .next=>(bY X N body).f p.2.1 p.2.2
   | f=>some (f,p.2))=some (.next,ae',σ') at e
  refine aa e λ p e1 e2=>?_;refine wpAny_execs_cons (SX _ _ _ _ _ e1 _ _ _ _ _ _ _ R Y H λ ρ1 h1 tk gs fl x1 H1 Y1 F1=>?_);obtain ⟨f,ae1,σ1⟩:=p;cases F1 with
  | next=>exact ih e2 Y1 H1 λ ρ' h' tk' gs' x2 H2 Y2=>q ρ' h' tk' gs' (x1.trans x2 Y1.alive) H2 Y2
  | brk=>cases e2
  | cont=>cases e2
  | ret V=>cases e2
theorem ao.slots {o:Obj} {sl:Array (Option Value)} (Y:ao I N env ae hid ρ h) (e1:h.get? env.locals=some o) (e2:h'.get? env.locals=some { o with slots:=sl }) (k:∀ b o,b≠env.locals->h.get? b=some o->h'.get? b=some o):ao I N env ae hid ρ h':=by
 have st:∀ a o,ay hid ρ h a o->ay hid ρ h' a o:=λ a o z=>⟨k a o (λ q=>z.2.1 (q▸Y.hidL)) z.1,z.2⟩;refine ⟨Y.kind,Y.names,Y.gl,Y.bu,Y.hidL,?_,Y.cel,Y.code.tr ⟨[],by exact dS⟩ st⟩
 refine ag Y.loc λ m j01 hl=>?_; refine dK j01 λ o' es ep g1 g2 g3=>?_; clear j01;rw [e1] at g1; induction g1 using sI;refine ⟨m,⟨_,es,ep,e2,g2,g3⟩,λ x i kd v e0 e=>?_⟩;refine ag (hl x i kd v e0 e) λ val f1 f2=>?_;exact ⟨val,f1,f2.tr ⟨[],by exact dS⟩ st⟩
theorem CZ {l:List Int} {line:Str} {S:Addr->Obj->Prop} {vs:List Value} {ks:List Nat} (h:pP vs (ks.map (bL l))):VRs (fI l line) S ρ (ks.map iz) vs:=by
 induction ks generalizing vs with
 | nil=>cases h; exact .nil
 | cons k ks ih=>cases h with | cons t h=>exact .cons (VR.str (I:=fI l line) [.at k] t) (ih h)
theorem AI {l:List Int} {line:Str} {P:gi} {n:Nat} {f:Addr} {args:List V} {r:V×List O} (G:bR hb prog w (fI l line) (am w.params) P) (GS:cz w hb) (LI:line.length≤3000) (ok:∀ k∈P.row,fr (bL l k)=true) (hne:P.row≠[]) (hL:line.cps.toList=jn (P.row.map (bL l))) (hlen:P.row.length≤1000)
  (hs:∀ ae σ,(b9 (vH P n) (bt w.params).names "split").f ae σ=some (.val (.ref 993))) (FO:DJ hb f (bt w.params)) (e:bb P n (bt w.params) args=some r) {xs:List Value} {RR:Result->Shared->Prop}
  (htab:t8 hb f (some 0) ρ) (hfr:A.frames=some []) (R:aC A (AP n+1)) (H:Sh hb prog w (fI l line) hid ρ [.tab [],.tabT,.tabT] s.heap) (Vs:VRs (fI l line) (ay hid ρ s.heap) ρ args xs) (q:aA hb prog w (fI l line) hid ρ s r (λ v s'=>RR (.ok (.ret v)) s')) :
  codeAny (model prog w) A (.call (.ref f) ⟨xs,[]⟩) RR s:=by
 have OK:=EZ G n;have EV:=bl G.GO OK P.D;have SX:=aY G.GO OK P.W P.D;refine ai e λ hl e=>?_;refine aa e λ p e1 e=>?_;obtain ⟨fl,aeA,σA⟩:=p;cases fl<;>first | (exact ac e; done) | skip
 refine ah λ G9 fin9=>?_;refine aa e λ vl e2 e=>?_;refine ai e λ hvl e=>?_;have:vl=.lin:=by induction vl using V.casesOn<;>first | rfl | exact aT hvl
 subst this;refine aa e λ qq e3 e=>?_;obtain ⟨aeB,σB⟩:=qq;refine aa e λ rr e4 e=>?_;refine fin9 ?_; clear fin9 G9;refine k9 FO G.B.nl (Nat.eq_of_beq_eq_true hl) htab (by have:=R.d; exact Nat.lt_of_le_of_lt (Nat.le_add_right _ _) (by assumption)) H Vs λ h1 tk1 env ρ1 el ef ek hJ hn hp hnew kp H1 Y1=>?_
 have Rl:aC (A.deeper env) (AP n):=R.deeper env;rw [AH];refine wn (s:={ s with heap:=h1,toks:=tk1 }) SX Rl e1 Y1 H1 λ ρ2 h2 tk2 gs2 x2 H2 Y2=>?_
 refine wpAny_execs_cons ?_;refine Ds (wm w.params) λ p1 p2 p3 p4 p5 hs4=>?_;rw [hs4] at e3 ⊢;refine fb rfl _ (wpAny_Call_Name_kw (bI (s:={ s with heap:=h2,toks:=tk2,gens:=gs2 }) OK (hs _ _) Y2 H2 (aA.same rfl H2 λ h3 tk3 gs3 v x3 H3 V3=>?_)))
 induction V3 using aK.casesOn;have Y3:=Y2.ext H2 x3.toExt;show wpAny _ _ (callWith p4 (.ref 993) [] (backTo p4 (starEach [.Name "line" p3] env)) []) _ _ _;refine bq (bH rfl) (br rfl (wpAny_items_cons (bI (s:={ s with heap:=h3,toks:=tk3,gens:=gs3 }) OK e2 Y3 H3 (aA.same rfl H3 λ h4 tk4 gs4 v x4 H4 V4=>?_)) rfl))
 have Y4:=Y3.ext H3 x4.toExt;refine wpAny_items_nil ⟨?_,?_⟩
 ·refine ag (looks_keep (M:=model prog w) (K:=am w.params) (f:=.ref 993) (by kernel_rfl) (G.X.keeps H4.base)) λ kp _ Lk=>?_
  exact ⟨kp,Lk⟩
 induction V4 using du.casesOn;rename_i tl;have Hf:Sh hb prog w (IT line 0 0) ((env.locals::hid)++ρ2.filter λ a=>!([]:List Addr).contains a) [] [] h4:=H4.focus (js:=[]) (σs:=[]) (ρs:=[]) List.nodup_nil (λ a m=>nomatch m) rfl λ i o e=>by exact ac e
 refine ag (id Y4.loc) λ m4 j01 _=>?_; refine dK j01 λ oL esL epL hoL hdL hkL=>?_; clear j01;have hF:jZ ((env.locals::hid)++ρ2.filter λ a=>!([]:List Addr).contains a) h4 [env]:=λ ev m=>by
  rw [List.mem_singleton.mp m];exact ⟨by rw [ek]; decide,env.locals,oL,ef.trans (congrArg some el.symm),List.mem_append_left _ (List.mem_cons_self ..),hoL,λ vs q=>by rw [hdL] at q; cases q⟩
 have hfr':(A.deeper env).frames=some [env]:=by
  show (A.frames.map (env::·))=_;rw [hfr]; rfl
 have hfm:([env]:List Env).filterMap (·.frame)=[env.locals]:=by
  rw [List.filterMap_cons,ef,el]; rfl
 refine wpAny_call (r6 (s:={ s with heap:=h4,toks:=tk4,gens:=gs4 }) (cs:=P.row.map (bL l)) GS LI hfr' hF (Rl.low (by show 70≤200+3 * n; simp +arith)) (λ c m=>?_) (by simpa using hne) hL (by simpa using hlen) Hf λ h5 tk5 gs5 acc' n' S k1 k2 kg hSn hS hSg=>?_)
 ·refine ag (List.mem_map.mp m) ?_; rintro k m2 rfl;exact ok k m2
 rw [hfm] at k1 k2;refine aj (k2 env.locals oL (List.mem_singleton.mpr rfl) hoL) λ sl hsl=>?_;have kk:∀ b o,b≠env.locals->h4.get? b=some o->h5.get? b=some o:=λ b o n e=>k1 b o (by simpa using n) e
 refine ab (H4.move (h':=h5) (mv:=[env.locals]) Y4.sub (λ a m=>by rw [List.mem_singleton.mp m]; exact ⟨_,hsl⟩) λ b o e n=>kk b o (by simpa using n) e) λ x5 H5=>?_
 have Y5:ao (fI l line) (bt w.params).names env aeA (env.locals::hid) ρ2 h5:=Y4.slots hoL hsl kk;have hSn:h4.get? S=none:=hSn;have nS1:S∉env.locals::hid:=λ m=>by
  refine aj ((H4.offH S m).2) λ o e=>?_;rw [hSn] at e; exact ac e
 have nS2:S∉ρ2:=λ m=>by
  refine aj ((H4.off S m).2.2) λ o e=>?_;rw [hSn] at e; exact ac e
 have hSS:ay (env.locals::hid) ρ2 h5 S (ft acc' n'):=⟨hS,nS1,nS2⟩;have V5:VR (fI l line) (ay (env.locals::hid) ρ2 h5) ρ2 (.lst (P.row.map iz)) (.ref S):=.lst hSS (CZ hSg);refine ez (s:={ s with heap:=h5,toks:=tk5,gens:=gs5 }) OK EV.1 Rl e3 Y5 H5 V5 λ ρ6 h6 tk6 gs6 x6 H6 Y6=>?_
 refine bi (s:={ s with heap:=h6,toks:=tk6,gens:=gs6 }) SX Rl e4 Y6 H6 λ ρ7 h7 tk7 gs7 fl x7 H7 Y7 F7=>?_
 refine ab (H7.drop (h':=h7) hJ λ c o _ e=>e) λ H8 st8=>?_;have xx:aI (fI l line) [env.locals] ρ1 ρ7 h1 s.gens h7 gs7:=by
  refine ((((x2.trans ⟨x3.toExt.wk,x3.gb⟩ Y2.alive).trans ⟨x4.toExt.wk,x4.gb⟩ Y3.alive).trans (⟨x5,λ g=>kg g⟩:aI (fI l line) [env.locals] ρ2 ρ2 h4 gs4 h5 gs5) Y4.alive).trans x6 Y5.alive).trans x7 Y6.alive
 have x8:aI (fI l line) [] ρ ρ7 s.heap s.gens h7 gs7:=by
  refine aj hp λ r hr=>?_; clear hp;refine ⟨⟨?_,λ c o e n _=>xx.keep c o (kp _ _ e) (λ m=>?_) (λ m=>?_),λ a m n=>?_⟩,xx.gb⟩
  ·refine aj xx.pre λ r' e'=>?_;exact ⟨r++r',by rw [e',hr,List.append_assoc]⟩
  ·have:=hnew c m n;rw [e] at this; cases this
  ·rw [List.mem_singleton.mp m,hn] at e; exact ac e
  ·by_cases hm:a∈ρ1
   ·exact hnew a hm n
   ·have z:=xx.new a m hm;cases q':s.heap.get? a with
    | none=>rfl
    | some o=>rw [kp _ _ q'] at z; cases z
 obtain ⟨f',ae',σ'⟩:=rr;cases F7 with
 | ret V=>induction e using sI; exact q ρ7 h7 tk7 gs7 _ x8 H8 (V.tr ⟨[],by exact dS⟩ st8)
 | next=>exact ac e
 | brk=>exact ac e
 | cont=>exact ac e
end
section
variable {hb:Heap} {prog:Program} {w:World} {I J:aZ} {k:Nat} {hid ρ:List Addr} {σ:List O} {A:Around} {E:Value->Shared->Prop} {s:Shared} {h h':Heap} {P:Params} {ws:List Nat}
theorem IE (I:aZ) (X:(am P).In hb):bK hb I 1020 (aJ (am P) 1020 []):=by
 refine bS I (fd:=dk P 1020) X (by kernel_rfl) (by kernel_rfl) (by kernel_rfl) (by kernel_rfl) (by kernel_rfl) λ xs h=>?_
 have e:(aJ (am P) 1020 []).ps.length=1:=by kernel_rfl
 rw [e] at h;refine aj (gQ h) ?_; rintro a rfl;kernel_rfl
theorem IF (I:aZ) (X:(am P).In hb):bK hb I 1013 (aJ (am P) 1013 []):=by
 refine bS I (fd:=dk P 1013) X (by kernel_rfl) (by kernel_rfl) (by kernel_rfl) (by kernel_rfl) (by kernel_rfl) λ xs h=>?_
 have e:(aJ (am P) 1013 []).ps.length=1:=by kernel_rfl
 rw [e] at h;refine aj (gQ h) ?_; rintro a rfl;kernel_rfl
theorem IG (I:aZ) (X:(am P).In hb):bK hb I 1025 (aJ (am P) 1025 []):=by
 refine bS I (fd:=dk P 1025) X (by kernel_rfl) (by kernel_rfl) (by kernel_rfl) (by kernel_rfl) (by kernel_rfl) λ xs h=>?_
 have e:(aJ (am P) 1025 []).ps.length=2:=by kernel_rfl
 rw [e] at h;refine bE (nI h) ?_; rintro a b rfl;kernel_rfl
theorem qi {lv:Nat} {id:String} {f:List V->List O->Option (V×List O)} (e:EX [("str.join",d7)] id=some f):∀ args σ r,f args σ=some r->aL hb prog w I lv σ (.val (.builtin id)::args) r aS:=DR (p:=λ (id:String) f=>∀ args σ r,f args σ=some r->aL hb prog w I lv σ (.val (.builtin id)::args) r aS) (uw e) (fa (λ args σ r e=>qe args σ r e) ja)
theorem lH {n:Str} {id:String} (e:kD [("join", "str.join")] n=some id) {A:Around} {E:Value->Shared->Prop} {s:Shared} {x:Str} {t:Tok} {pl:Sem Bool} {Q:Value×List Value->Shared->Prop} (h:Q (.builtin id,[.str x t]) s):wpAny (model prog w) A (getMethod (.str x t) n pl) Q E s :=
 DR (p:=λ n id=>Q (.builtin id,[.str x t]) s->wpAny (model prog w) A (getMethod (.str x t) n pl) Q E s) (zw e) (fa (λ h=>GM.join h) ja) h
theorem C0 (G:cz w hb) (hl:I.line.length≤3000):cy hb prog w I (am w.params) (Iz (am w.params)) 20:=by
 refine ak G.ns λ mg mb hg hbn hB=>?_;refine ⟨G.B,G.GO,λ k h=>(h rfl).elim,hl,G.X,dE hg hbn ?_,λ a f e=>?_,λ C S e=>(by exact ac e),λ C n f e=>(by exact ac e),λ a m=>(by exact aT m),λ a m=>(by exact aT m),λ id f e=>qi e,λ n id e=>lH e,λ v id args σ r e=>(by exact ac e),λ o n σ r e=>(by exact ac e)⟩
 ·exact E7 G.X hg (by kernel_rfl)
 ·have m:=fq e;exact ⟨DR m (fa (IE I G.X) ja),pK G.X (bW (f:=λ (q:Addr×zv)=>keepIn (am w.params) (.ref q.1)) (g:=λ _=>true) (by kernel_rfl) (a,f) m)⟩
theorem nc {a:List V} {v:V} {args:List V} {r:V×List O} (e:iK a v args σ=some r):args=a∧σ=bP∧r=(v,bP):=by
 unfold iK at e;split at e
 ·rename_i h;refine ab h ?_; clear h; rintro rfl rfl;induction e using sI;exact ⟨rfl,rfl,rfl⟩
 ·exact ac e
theorem C1 (G:cz w hb) (ok:∀ c∈ws,fr c=true) (hlen:ws.length≤100):cy hb prog w IK (am w.params) (wd (Jn ws) (Tn ws) (Cn ws)) 60:=by
 refine ak G.ns λ mg mb hg hbn hB=>?_;refine ⟨G.B,G.GO,λ k h=>(h rfl).elim,by show 0≤3000; decide,G.X,dE hg hbn ?_,λ a f e=>?_,λ C S e=>(by exact ac e),λ C n f e=>(by exact ac e),λ a m=>(by exact aT m),λ a m=>(by exact aT m),λ id f e=>qi e,λ n id e=>lH e,λ v id args σ r e=>(by exact ac e),λ o n σ r e=>(by exact ac e)⟩
 ·exact E7 G.X hg (by kernel_rfl)
 ·have m:=fq e;refine ⟨DR m (fa ?_ <| fa ?_ <| fa ?_ ja),pK G.X (bW (f:=λ (q:Addr×zv)=>keepIn (am w.params) (.ref q.1)) (g:=λ _=>true) (by kernel_rfl) (a,f) m)⟩
  ·intro args σ r e;refine c9 (nc e) ?_; rintro rfl rfl rfl;intro A s hid ρ xs Q E R H V q;refine ak (di V) ?_; rintro f x rfl Vf Vx;induction Vf using aK.casesOn;induction Vx using dw.casesOn with
   | lst g W =>
   have hc:(ws.map kM).all fK=true:=by
    rw [List.all_map];exact List.all_eq_true.mpr λ _ _=>rfl
   refine uX (i:=1) G ok hlen rfl (H.sm.2.2 (1,995) (by simp [IK])) rfl R H g (λ S ρ'=>W.txt hc) λ h' tk gs t x1 H1=>q ρ h' tk gs _ x1 H1 ?_
   have:=VR.str (I:=IK) (S:=ay hid ρ h') (ρ:=ρ) ((jn ws).map .lit) t;rw [cR] at this;exact this
  ·intro args σ r e;refine c9 (nc e) ?_; rintro rfl rfl rfl;intro A s hid ρ xs Q E R H V q;induction V using aD.casesOn with
   | cons Vf V =>
   induction V using aD.casesOn with
   | cons Vp V =>
   refine ak (di V) ?_; rintro x y rfl Vx Vy;induction Vf using aK.casesOn; induction Vp using aG.casesOn; induction Vx using be.casesOn; induction Vy using aG.casesOn;rw [cR];exact na (i:=0) G ok hlen rfl (H.sm.2.2 (0,288) (by simp [IK])) rfl R H λ h' tk gs lo x1 H1 V1=>q ρ h' tk gs _ x1 H1 V1
  ·intro args σ r e;refine c9 (nc e) ?_; rintro rfl rfl rfl;have PS:=C0 (prog:=prog) (I:=IK) G (by show 0≤3000; decide)
   have hj:=ia ws;refine (cr (IF IK G.X) G.B.nl (aY PS.GO (ce PS 4) 10 12) (Ar w.params (32::(jn ws++[32])) (λ c m=>?_) (by simp; lia))).op.up (show bD 20 4+1≤60 by unfold bD; simp [*])
   simp only [List.mem_cons,List.mem_append,List.not_mem_nil,or_false] at m;rcases m with rfl | m | rfl
   ·decide
   ·exact uV ok c m
   ·decide
theorem AJ (u v:List Nat):(!(Builtin.Str.occurrences ⟨v.toArray⟩ ⟨u.toArray⟩ 0 (⟨v.toArray⟩:Str).length 1).isEmpty)=oR u v:=by
 rw [Bool.eq_iff_iff,StrLaws.found_iff,gM,Aw];have e:∀ i,Builtin.Str.subAt ⟨v.toArray⟩ ⟨u.toArray⟩ i=true↔(v.drop i).take u.length=u:=λ i=>by
  rw [StrLaws.subAt_eq,beq_iff_eq];show ((v.toArray.toList.drop i).take u.toArray.size=u.toArray.toList)↔_;simp
 have l:∀ x:List Nat,(⟨x.toArray⟩:Str).length=x.length:=λ x=>by show x.toArray.size=_; simp
 simp only [e,l]
theorem IH {α:Type} {x y r:α} (h:aB true x y=r):x=r:=h
theorem so {P:cI} (OB:∀ a,aW a P.objs=true->∃ o,hb.get? a=some o∧o.cls≠.type "tuple") (C:dZ I P.cl) (op:CmpOp) (a b:V) (σ:List O) (t:Bool) (h:we P op a b σ=some t):aL hb prog w I (k+1) σ [a,b] (.bool t,σ) (t2 (compareOp op)):=by
 unfold we at h;cases hq:decide (op=.In) with
 | true =>
  rw [hq] at h;cases of_decide_eq_true hq;replace h:=IH h;revert h; refine ax ?_ λ h=>?_; rintro _ rfl h
  ·revert h; refine ax ?_ λ h=>?_; rintro _ rfl h
   ·refine aa h λ u h1 h=>?_;refine az h ?_; rintro v h2 rfl;intro A s hid ρ xs Q E R H V q;refine ak (di V) ?_; rintro x y rfl Vx Vy;induction Vx using aG.casesOn; induction Vy using aG.casesOn;refine PySem.P.in_str ?_;rw [dY h1,dY h2,cR,cR,AJ];exact aA.tok (n:=s.toks) H q (.bool _)
   ·exact cJ OB C .In _ _ σ t h
  ·exact cJ OB C .In _ _ σ t h
 | false =>
  rw [hq] at h;exact cJ OB C _ _ _ σ t h
theorem C2 (G:cz w hb) (ok:∀ c∈ws,fr c=true) (hlen:ws.length≤100):cN hb prog w IK (bD 60 2) (wf (Jn ws) (Tn ws) (Cn ws)):=by
 have PS:=C1 (prog:=prog) G ok hlen;have OK:=ce PS 2;exact ⟨OK.glob,OK.call,OK.keeper,OK.getM,OK.attr,OK.bin,OK.una,λ op a b σ r e=>so PS.objs PS.C op a b σ r e,OK.tru,OK.item,OK.cut,OK.inp,OK.setA,OK.setI⟩
end
def fw (l:List Int) (row:List Nat):Str:=⟨(jn (row.map (bL l))).toArray⟩
theorem ng (l:List Int) (k:Nat) (h:k < 4):fr (bL l k)=true:=by
 have r1:(List.range' 33 46).all fr=true:=by decide
 have r2:(List.range' 102 23).all fr=true:=by decide
 have hs:=gP l k h;by_cases h2:k=2
 ·subst h2;have e:kj l 2=36∨kj l 2=1∨kj l 2=40:=by
   match l with
   | []=>right; right; rfl
   | [a]=>right; left; rfl
   | a::b::r=>left; simp [kj]
  have e2:bL l 2=(33+23 * (2:Int)+((kj l 2).fdiv 4).fmod 23).toNat:=rfl;rw [e2];rcases e with e | e | e<;>rw [e]<;>decide
 ·have hk:k=0∨k=1∨k=3:=by lia
  rcases hk with rfl | rfl | rfl
  ·exact List.all_eq_true.mp r1 _ (List.mem_range'.mpr ⟨bL l 0 - 33,by omega,by simp [*]⟩)
  ·exact List.all_eq_true.mp r1 _ (List.mem_range'.mpr ⟨bL l 1 - 33,by simp +arith [*],by lia⟩)
  ·exact List.all_eq_true.mp r2 _ (List.mem_range'.mpr ⟨bL l 3 - 102,by simp +arith [*],by simp [*]⟩)
theorem AK {v:V} {k:Nat} (h:tJ v=some k):v=iz k:=tK h
theorem lI:∀ {l:List V} {ks:List Nat},hK l=some ks->l=ks.map iz:=by
 intro l;induction l with
 | nil =>
  intro ks h;induction h using sI; rfl
 | cons v l ih =>
  intro ks h;refine aa h λ k h1 h=>?_;refine az h ?_; rintro r h2 rfl;rw [AK h1,ih h2]; rfl
theorem ig {o:Option O} (h:eC o=true):o=some .tabT:=by
 unfold eC at h;revert h; refine gX ?_ λ h=>?_; rintro _ rfl h; replace h:=af h; revert h; refine fZ ?_ aT; rintro rfl h
 ·rfl
 ·exact aT h
theorem wo {P:gi} {args:List V} {σ:List O} {r:V×List O} (e:iA P 0 args σ=some r):∃ l ks,args=[.lst l]∧hK l=some ks∧(jR ks P.row && eC (aU σ 2))=true∧r=(.lin,σ):=by
 simp only [iA] at e;revert e; refine av ?_ λ e=>?_; rintro _ _ rfl e; replace e:=af e; revert e; refine eW ?_ ac; rintro _ rfl e; replace e:=af e; revert e; refine aM ?_ ac; rintro rfl e
 ·rename_i l;refine aa e λ ks h1 e=>?_;refine ai e λ h2 e=>?_;induction e using sI;exact ⟨l,ks,rfl,h1,h2,rfl⟩
 ·exact ac e
theorem wq {P:gi} {args:List V} {σ:List O} {r:V×List O} (e:iA P 2 args σ=some r):∃ l ks,args=[.lst l,.lin]∧hK l=some ks∧(Nat.ble 1 ks.length && Nat.ble ks.length 20 && ks.all (λ k=>Nat.ble k 3) && eC (aU σ 1) && eC (aU σ 2))=true∧r=(.bool (oR ks P.row),σ):=by
 simp only [iA] at e;revert e; refine av ?_ λ e=>?_; rintro _ _ rfl e; replace e:=af e; revert e; refine eW ?_ ac; rintro _ rfl e; replace e:=af e; revert e; refine av ?_ ac; rintro _ _ rfl e; replace e:=af e; revert e; refine dA ?_ ac; rintro rfl e; replace e:=af e; revert e; refine aM ?_ ac; rintro rfl e
 ·rename_i l;refine aa e λ ks h1 e=>?_;refine ai e λ h2 e=>?_;induction e using sI;exact ⟨l,ks,rfl,h1,h2,rfl⟩
 ·exact ac e
section
variable {hb:Heap} {prog:Program} {w:World} {I J:aZ} {hid ρ:List Addr} {σ:List O} {h h':Heap} {l:List Int} {line:Str}
theorem qj {S S':Addr->Obj->Prop} {ρ':List Addr}:∀ {ks:List Nat} {xs:List Value},VRs (fI l line) S ρ (ks.map iz) xs->VRs J S' ρ' ((ks.map (bL l)).map kM) xs:=by
 intro ks;induction ks with
 | nil =>
  intro _ W;induction W using bQ.casesOn; exact .nil
 | cons k ks ih =>
  intro _ W;induction W using aD.casesOn with
  | cons a b =>
  refine .cons ?_ (ih b);induction a using aG.casesOn with
  | str t=>exact VR.str (I:=J) [.lit (bL l k)] t
theorem wt (H:Sh hb prog w I hid ρ σ h) (e1:ρ[1]?=some 288) (e2:ρ[2]?=some 995) (f1:σ[1]?=some .tabT) (f2:σ[2]?=some .tabT):Sh hb prog w IK (hid++ρ.filter λ b=>!([288,995]:List Addr).contains b) [288,995] bP h:=by
 have tabAt:∀ {i a},ρ[i]?=some a->σ[i]?=some O.tabT->∃ ps:Array Value,h.get? a=some (tabObj ps)∧TriplesOk ps.toList:=λ {i a} e f=>by
  refine ak (H.ob i _ f) λ a' b g1 g2 g3=>?_;rw [e] at g1; induction g1 using sI;induction g3 using bO.casesOn with
  | tabT t=>exact ⟨_,g2,t⟩
 have hs:∀ b∈([288,995]:List Addr),b∈ρ:=kn (List.mem_of_getElem? e1) (List.mem_of_getElem? e2);have H0:Sh hb prog w (IR ⟨#[]⟩ [] 0) (hid++ρ.filter λ b=>!([288,995]:List Addr).contains b) [288,995] bP h:=by
  refine H.focus (js:=[]) (ρs:=[288,995]) (σs:=bP) (by decide) hs rfl (λ j o e=>?_) rfl
  match j,e with
  | 0,e=>induction e using sI; refine ag (tabAt e1 f1) λ ps g1 g2=>?_; exact ⟨_,_,rfl,g1,.tabT g2⟩
  | 1,e=>induction e using sI; refine ag (tabAt e2 f2) λ ps g1 g2=>?_; exact ⟨_,_,rfl,g1,.tabT g2⟩
  | _+2,e=>exact ac e
 refine ⟨⟨H0.sm.1,H0.sm.2.1,by decide⟩,H0.base,H0.nd,H0.len,H0.off,H0.offH,λ i o e=>?_⟩
 refine ak (H0.ob i o e) λ a b g1 g2 g3=>?_;refine ⟨a,b,g1,g2,?_⟩;match i,e with
 | 0,e=>induction e using sI; induction g3 using bO.casesOn with | tabT t=>exact .tabT t
 | 1,e=>induction e using sI; induction g3 using bO.casesOn with | tabT t=>exact .tabT t
 | _+2,e=>exact ac e
theorem ql (H:Sh hb prog w I hid ρ σ h) (e1:ρ[1]?=some 288) (e2:ρ[2]?=some 995) (f1:σ[1]?=some .tabT) (f2:σ[2]?=some .tabT) (x:Ext [] [288,995] [288,995] h h') (H2:Sh hb prog w IK (hid++ρ.filter λ b=>!([288,995]:List Addr).contains b) [288,995] bP h'):Ext [] ρ ρ h h'∧Sh hb prog w I hid ρ σ h':=by
 have hs:∀ b∈([288,995]:List Addr),b∈ρ:=kn (List.mem_of_getElem? e1) (List.mem_of_getElem? e2);refine H.unfocus hs x H2 λ j b o g1 m g2 _=>?_;replace m:=G0 m;rcases m with rfl | rfl
 ·have:=dp H.nd g1 e1;subst this;rw [f1] at g2; induction g2 using sI;refine ak (H2.ob 0 _ rfl) λ a' ob k1 k2 k3=>?_;induction k1 using sI;induction k3 using bO.casesOn with
  | tabT t=>exact ⟨_,k2,.tabT t⟩
 ·have:=dp H.nd g1 e2;subst this;rw [f2] at g2; induction g2 using sI;refine ak (H2.ob 1 _ rfl) λ a' ob k1 k2 k3=>?_;induction k1 using sI;induction k3 using bO.casesOn with
  | tabT t=>exact ⟨_,k2,.tabT t⟩
theorem II (G:cz w hb) (l:List Int) {row:List Nat} (hr:∀ k∈row,k < 4) (hne:row≠[]) (hlen:row.length≤5) (div:List (Nat×Int×Nat)) (mod:List (Nat×Int×V)) (add:List (Int×Nat×Nat)) (chi:List (Int×Nat)) (cha:List (Nat×Nat)) (scr:List V) :
  eF hb prog w (fI l (fw l row)) (rQ (am w.params) row div mod add chi cha scr):=by
 have okr:∀ c∈row.map (bL l),fr c=true:=λ c m=>by
  refine ag (List.mem_map.mp m) ?_; rintro k m2 rfl;exact ng l k (hr k m2)
 refine ⟨λ args σ r e=>?_,λ args σ r e=>?_⟩
 ·refine nH (wo e) ?_; rintro l' ks rfl h1 h2 rfl
  ·have h2:(jR ks row && eC (aU σ 2))=true:=h2;refine ab (Bool.and_eq_true_iff.mp h2) λ h2 h3=>?_;have hk:ks=row:=by rw [jT] at h2; exact of_decide_eq_true h2
   subst hk;rw [aE] at h3;have h3:=ig h3;have:=lI h1;subst this;intro A s hid ρ xs Q E R H V q;refine ak (di V) ?_; rintro f x rfl Vf Vx;induction Vf using aK.casesOn;induction Vx using dw.casesOn with
   | lst g W =>
   exact uX (i:=2) G okr (by simp; exact Nat.le_trans (by assumption) (by decide)) rfl (H.sm.2.2 (2,995) (by simp [fI])) h3 (R.low (by decide)) H g (λ S ρ'=>qj W) λ h' tk gs t x1 H1=>q ρ h' tk gs _ x1 H1 (VR.lin (I:=fI l (fw l ks)) t)
 ·refine nH (wq e) ?_; rintro l' ks rfl h1 h2 rfl
  ·skip
   simp only [Bool.and_eq_true] at h2;refine ab h2 λ j00 h6=>?_; clear h2; refine ab j00 λ j10 h5=>?_; clear j00; refine ab j10 λ j20 h4=>?_; clear j10; refine ab j20 λ h2 h3=>?_; clear j20;have h2:=Nat.le_of_ble_eq_true h2;have h3:=Nat.le_of_ble_eq_true h3;rw [aE] at h5 h6;have h5:=ig h5;have h6:=ig h6;have:=lI h1;subst this;have hk4:∀ k∈ks,k < 4:=λ k m=>by
    have:=Nat.le_of_ble_eq_true (List.all_eq_true.mp h4 k m);exact Nat.lt_of_le_of_lt (by assumption) (by decide)
   have okw:∀ c∈ks.map (bL l),fr c=true:=λ c m=>by
    refine ag (List.mem_map.mp m) ?_; rintro k m2 rfl;exact ng l k (hk4 k m2)
   have hwn:ks.map (bL l)≠[]:=by
    intro h;have:=congrArg List.length h;simp at this;rw [this] at h2;simp at h2
   have hj:=ia (ks.map (bL l));have hjr:=ia (row.map (bL l));rw [List.length_map] at hj hjr;intro A s hid ρ xs Q E R H V q;induction V using aD.casesOn with
   | cons Vf V =>
   refine ak (di V) ?_; rintro x y rfl Vx Vy;induction Vf using aK.casesOn; induction Vy using du.casesOn;rename_i tl;induction Vx using dw.casesOn with
   | lst g W =>
   have e1:ρ[1]?=some 288:=H.sm.2.2 (1,288) (by simp [fI])
   have e2:ρ[2]?=some 995:=H.sm.2.2 (2,995) (by simp [fI])
   have hs:∀ b∈([288,995]:List Addr),b∈ρ:=kn (List.mem_of_getElem? e1) (List.mem_of_getElem? e2);have H0:=wt H e1 e2 h5 h6;have hx:∀ c∈jn (ks.map (bL l)),c∈gL:=λ c m=>by
    rcases Bool.or_eq_true_iff.mp (uV okw c m) with h | h
    ·rw [bf] at h; exact List.mem_append_left _ (of_decide_eq_true h)
    ·rw [bf] at h; exact List.mem_append_right _ (of_decide_eq_true h)
   have Vl:VR IK (ay (hid++ρ.filter λ b=>!([288,995]:List Addr).contains b) [288,995] s.heap) [288,995] (.str ((jn (row.map (bL l))).map .lit)) (.str (fI l (fw l row)).line tl):=by
    have:=VR.str (I:=IK) (S:=ay (hid++ρ.filter λ b=>!([288,995]:List Addr).contains b) [288,995] s.heap) (ρ:=[288,995]) ((jn (row.map (bL l))).map .lit) tl;rw [cR] at this;exact this
   have OK:=C2 (prog:=prog) G okw (by simp; exact Nat.le_trans (by assumption) (by decide))
   refine wpAny_call (cr (IG IK G.X) G.B.nl (aY G.GO OK 10 12) (Av w.params hx (by lia) (by lia)) A s _ [288,995] _ _ (R.low (by unfold bD; decide)) H0 (.cons (.lst (lD hs _ _ g) (qj W)) (.cons Vl .nil)) (aA.same rfl H0 λ h' tk gs z x1 H1 V1=>?_))
   refine ab (ql H e1 e2 h5 h6 x1.toExt H1) λ x2 H2=>?_;induction V1 using cC.casesOn;refine q ρ h' tk gs _ ⟨x2,x1.gb⟩ H2 ?_;have:oR (32::(jn (ks.map (bL l))++[32])) (32::(jn (row.map (bL l))++[32]))=oR ks row:=by
    rw [wi hwn (by simpa using hne) okw okr]
    exact CG (λ x y e=>Ay l ⟨#[]⟩ x y e) ks row
   rw [this];exact .bool _
end
section
variable {prog:Program} {w:World}
def AL (K:Frag) (c:Addr):Option Addr:=au (K.lookup c) λ o=>au (E2 o.data) λ vs=>au (vs[11]?) yA
theorem wu {K:Frag} {c P:Addr} (h:AL K c=some P):∃ o vs,K.lookup c=some o∧o.data=.fields vs∧vs[11]?=some (.ref P):=by
 refine aa h λ o e h=>?_;refine aa h λ vs e1 h=>?_;refine aa h λ v e2 h=>?_;exact ⟨o,vs,e,uz e1,by rw [e2,i4 h]⟩
theorem FG {h:Heap} {loose:List Str} {mean:ExcName->Option Value} {mg mb:Str->Option Value} {P:Params} (X:(am P).In h) (T:Top (bz pw) loose mean mg mb h):h.get? 995=some (tabObj #[]):=by
 refine ah λ G9 fin9=>?_;have h1:((recsOf (bz pw)).any (λ d=>d.name == "join"))=true:=by kernel_rfl
 refine ag (List.any_eq_true.mp h1) λ d hd1 hd2=>?_;have hn:=beq_iff_eq.mp hd2;refine Dt (T.tab d hd1) λ a o fd c Pl e1 e2 e3 e4 e5 e6=>?_;rw [hn,Ia X T.g (by kernel_rfl)] at e1
 have:FM (am P) mainGlobals "join" = some (.ref 1000):=by kernel_rfl
 rw [this] at e1;cases e1;refine ag (gI X (f:=1000) (fd:=dk P 1000) (by kernel_rfl)) λ o' f1 f2=>?_
 refine fin9 ?_; clear fin9 G9;rw [f1] at e2; induction e2 using sI;rw [f2] at e3; cases e3;have hc:(dk P 1000).code=.ref 999:=by kernel_rfl
 rw [hc] at e4; cases e4;refine ab e6 λ j00 g5=>?_; clear e6; refine nH j00 λ oc vs g1 g2 g3 g4=>?_; clear j00;refine ak (wu (show AL (am P) 999=some 995 by kernel_rfl)) λ oc2 vs2 k1 k2 k3=>?_
 have k4:=X _ _ k1;rw [g1] at k4; induction k4 using sI;rw [g3] at k2; cases k2;rw [g4] at k3; cases k3;exact g5
theorem C3 {P:Params} {h:Heap} {vs:List Value} {l:List Int} (q:WellAll P h vs (ofPys (l.map PyData.int))):IntsAre vs l:=by
 induction l generalizing vs with
 | nil=>cases q; exact .nil
 | cons i l ih =>
  cases q with
  | cons a b =>
   cases a;exact .cons _ _ (ih b)
theorem C4 {hb:Heap} {P:Params} {ρ:List Addr} (X:(am P).In hb) (hp:ρ[0]?=some 1053) (hc:CodeHd hb 1055 1053):t8 hb 1056 (some 0) ρ:=by
 intro i e;induction e using sI;refine ag (gI X (f:=1056) (fd:=dk P 1056) (by kernel_rfl)) λ o' f1 f2=>?_
 obtain ⟨oc,vs,file,tf,flags,tg,inF,text,tt,e1,r⟩:=hc;exact ⟨o',_,1055,1053,oc,f1,f2,by kernel_rfl,e1,⟨vs,file,tf,flags,tg,inF,text,tt,r⟩,hp⟩
noncomputable abbrev Qt (s₁:Shared) (v:Value) (s':Shared):Prop:=v=.bool true∧OldK s₁.heap s'.heap∧s'.os=s₁.os∧AllBare s'.gens
theorem K0 (P:Params) (ae:AE) (σ:List O):(b9 (vH (zF (am P)) 14) (bt P).names "split").f ae σ=some (.val (.ref 993)):=by kernel_rfl
theorem K1 (P:Params) (p:Nat) (ae:AE) (σ:List O):(b9 (vH (kG (am P) p) 14) (bt P).names "split").f ae σ=some (.val (.ref 993)):=by kernel_rfl
theorem K2 (P:Params) (p q:Nat) (ae:AE) (σ:List O):(b9 (vH (cS (am P) p q) 14) (bt P).names "split").f ae σ=some (.val (.ref 993)):=by kernel_rfl
theorem fin {s₁:Shared} {loose:List Str} {mean:ExcName->Option Value} {mg mb:Str->Option Value} {l:List Int} {L fa:Addr} {E:Value->Shared->Prop} (X:(am w.params).In s₁.heap) (T:Top (bz pw) loose mean mg mb s₁.heap)
  (h9:TabsAt [(292,288),(1055,1053)] s₁.heap) (hmg:mg "law" = some (.ref fa)) (hw:Well w.params s₁.heap (.ref L) (ofPy (.list (l.map .int)))) (hl:l.length≤63) (hg:s₁.gens=#[]):wpAny (model prog w) callerA (call (.ref fa) [.ref L]) (Qt s₁) E s₁:=by
 have h5:=FG X T;rw [Ia X T.g (by kernel_rfl)] at hmg
 rw [show FM (am w.params) mainGlobals "law" = some (.ref 1056) by kernel_rfl] at hmg
 cases hmg;have h9':TabsAt [(292,288),(1055,1053),(999,995)] s₁.heap:=qu (h9 _ (by exact kR)) (h9 _ (by exact ni)) ⟨codeHd_of_K X (by kernel_rfl),h5⟩
 have T':=ghost_top h9' T;have X':(am w.params).In (hideAll s₁.heap [288,1053,995]):=CY X;have G:FN w.params (hideAll s₁.heap [288,1053,995]):=KZ X' T';have h8:∀ a∈([288,1053,995]:List Addr),s₁.heap.get? a=some (tabObj #[]):=qu (h9 (292,288) (by exact kR)).2 (h9 (1055,1053) (by exact ni)).2 h5
 have ic:∀ a∈([288,1053,995]:List Addr),isCodeTable s₁.heap a:=qu ((h9' (292,288) (by exact kR)).1.tab (h8 _ (by exact kR))).isCodeTable ((h9' (1055,1053) (by exact ni)).1.tab (h8 _ (by exact ni))).isCodeTable ((h9' (999,995) (by exact G2)).1.tab (h8 _ (by exact G2))).isCodeTable
 have hch:CodeHd (hideAll s₁.heap [288,1053,995]) 1055 1053:=codeHd_of_K X' (by kernel_rfl)
 cases hw with
 | list hL hI =>
 have hI:=C3 hI;have GS:cz w (hideAll s₁.heap [288,1053,995]):=⟨X',G.B,G.GO,mg,mb,T'.g,T'.b,T'.builtins⟩;have go:∀ (row:List Nat) (Q:gi),(∀ k∈row,k < 4)->row≠[]->row.length≤5->Q.row=row->(∀ ae σ,(b9 (vH Q 14) (bt w.params).names "split").f ae σ=some (.val (.ref 993))) ->
   ((∀ (div:List (Nat×Int×Nat)) (mod:List (Nat×Int×V)) (add:List (Int×Nat×Nat)) (chi:List (Int×Nat)) (cha:List (Nat×Nat)) (scr:List V),
   eF (hideAll s₁.heap [288,1053,995]) prog w (fI l (fw l row)) (rQ (am w.params) row div mod add chi cha scr))->bR (hideAll s₁.heap [288,1053,995]) prog w (fI l (fw l row)) (am w.params) Q)->fS (bb Q 14 (bt w.params) [.scr])=true ->
   wpAny (model prog w) callerA (call (.ref 1056) [.ref L]) (Qt s₁) E s₁:=λ row Q hr hne hr5 hQ hsp hP hrun=>by
  have PO:=hP λ div mod add chi cha scr=>II GS l hr hne hr5 div mod add chi cha scr;refine bE (FA hrun) λ tl σ hrun=>?_;have S0:=start (prog:=prog) (w:=w) (fI l (fw l row)) X' h8;have hj:=ia (row.map (bL l));rw [List.length_map] at hj;have LI:(fw l row).length≤3000:=by
   show (jn (row.map (bL l))).toArray.size≤3000;rw [List.size_toArray]; lia
  generalize hline:fw l row=line at *
  have hL':line.cps.toList=jn (Q.row.map (bL l)):=by
   rw [<-hline,hQ];show (jn (row.map (bL l))).toArray.toList=_;simp
  refine wpAny_call (AI PO GS LI (λ k m=>ng l k (hr k (hQ▸m))) (by rw [hQ]; exact hne) hL' (by rw [hQ]; exact Nat.le_trans (by assumption) (by decide)) hsp (HY X') hrun (C4 X' rfl hch) rfl ⟨rfl,by decide,by decide⟩ S0 (.cons (.scr (n:=0) ⟨hL,by simp,λ m=>?_⟩ hI) .nil) λ ρ' h' tk gs x x1 H1 V1=>?_)
  ·have m':L∈([288,1053,995]:List Addr):=by
    simp only [List.mem_cons,List.not_mem_nil,or_false] at m ⊢;rcases m with m | m | m<;>simp [m]
   rw [h8 L m'] at hL;cases hL
  ·induction V1 using cC.casesOn;refine aj x1.pre λ rr hrr=>?_;have at_:∀ (i:Nat) (o:O),(O.tab tl::.tabT::.tabT::σ)[i]?=some o->(∀ {S:Addr->Obj->Prop} {b:Obj},OR prog w (fI l line) S ρ' o b->∃ ps,b=tabObj ps)->∀ a,ρ'[i]?=some a->∃ ps,h'.get? a=some (tabObj ps):=λ i o e ho a ha=>by
    refine ak (H1.ob i o e) λ a' b' e1 e2 e3=>?_;rw [ha] at e1; induction e1 using sI;refine aj (ho e3) ?_; rintro ps rfl;exact ⟨ps,e2⟩
   have tb:∀ b∈([288,1053,995]:List Addr),∃ ps,h'.get? b=some (tabObj ps):=qu (at_ 1 _ rfl (λ h=>by induction h using bO.casesOn; exact ⟨_,rfl⟩) _ (by rw [hrr]; rfl)) (at_ 0 _ rfl (λ h=>by induction h using jp.casesOn; exact ⟨_,rfl⟩) _ (by rw [hrr]; rfl)) (at_ 2 _ rfl (λ h=>by induction h using bO.casesOn; exact ⟨_,rfl⟩) _ (by rw [hrr]; rfl))
   have kp:∀ b o,b∉([288,1053,995]:List Addr)->s₁.heap.get? b=some o->h'.get? b=some o:=λ b o n e=>x1.keep b o e (λ m=>n (by
    simp only [List.mem_cons,List.not_mem_nil,or_false] at m ⊢;rcases m with m | m | m<;>simp [m])) (by simp)
   refine ⟨rfl,⟨λ b o e=>?_,λ b o e=>?_⟩,rfl,x1.gb (by rw [hg]; exact AllBare.empty)⟩
   ·by_cases hm:b∈([288,1053,995]:List Addr)
    ·refine aj (tb b hm) λ ps hps=>?_;rw [h8 b hm] at e;induction e using sI;exact .inr (.inl ⟨ic b hm,rfl,#[],ps,rfl,by rw [Array.empty_append]; exact hps⟩)
    ·exact .inl (kp b o hm e)
   ·by_cases hm:b∈([288,1053,995]:List Addr)
    ·refine aj (tb b hm) λ ps hps=>?_;exact ⟨_,hps⟩
    ·exact ⟨o,kp b o hm e⟩
 have m4:∀ a:Int,∃ p:Nat,p < 4∧a.fmod 4=p:=λ a=>⟨(a.fmod 4).toNat,by rw [Int.fmod_eq_emod_of_nonneg _ (by decide)]; lia,by rw [Int.fmod_eq_emod_of_nonneg _ (by decide)]; lia⟩
 induction l using List.casesOn with
 | nil=>exact go [0,1,0] (zF _) (by decide) (by simp) (by decide) rfl (K0 w.params) (λ hp=>Fz G _ (hp _ _ _ _ _ _)) (J2 _)
 | cons a l =>
 induction l using List.casesOn with
 | nil =>
  refine ag (m4 a) λ p hp4 hp=>?_;exact go [p,0,1,0] (kG _ p) (by simp; omega) (by simp) (by simp) rfl (K1 w.params p) (λ h=>Fy G a _ hp (h _ _ _ _ _ _)) (J3 _ p hp4)
 | cons b r =>
  refine ag (m4 a) λ p hp4 hp=>?_;refine ag (m4 b) λ q hq4 hq=>?_;exact go [p,q,0,1,0] (cS _ p q) (by simp; simp [*]) (by simp) (by simp) rfl (K2 w.params p q) (λ h=>Fx G a b r _ (by simp at hl; exact Nat.le_trans (by assumption) (by decide)) hp hq (h _ _ _ _ _ _)) (J4 _ p q hp4 hq4)
end
end
end Mine
end
section
open PySem PySem.W PySem.Spec PySem.Calls PyProof.Rows PySem.SeqAt
theorem PySem.Challenge.cw_ku0033_01_holds : PySem.Challenge.rw_ku0033_01.Holds := by
 exact hd (by
 k_fill
 intro w s₀ s₁ mg mb G Y fa o pm cd doc dV kV ho hd hcd hD hmg hg args vals as hpre hlay hrd hwl hlo;have KX:=km_in_of Y;km_tabs Y;have X:=(Ground.X G).1;have V:=(Ground.X G).2;refine Ground.open G ?_;intro T B D TE TW;try (refine guard_noD D (by decide +kernel) ?_; clear D)
 have hT9:TabsAt ([(292,288),(1055,1053)]:List (Addr×Addr)) _:=List.forall_mem_cons.mpr ⟨⟨codeHd_of_K (c:=292) (P:=288) KX (by kernel_rfl),hT8 288 (by k_mem)⟩,List.forall_mem_cons.mpr ⟨⟨codeHd_of_K (c:=1055) (P:=1053) KX (by kernel_rfl),hT8 1053 (by k_mem)⟩,λ _ h=>nomatch h⟩⟩
 wrow_args hpre hlay hrd hwl hlo
 rename_i l hs hl0 hL1 hr1 hl2 as1 as2 L vs as3 hL ra hw r0 hI hr hc1 hc2;have hl:l.length≤63:=by omega
 refine wpAny_mono (Mine.fin KX T hT9 hmg hw hl hg) (λ v s' h=>?_) λ _ _ h=>h;obtain ⟨rfl,h2,h3,h4⟩:=h;exact ⟨.inl ⟨.bool true,.bool true,[],rfl,λ _=>rfl,.bool _,by kernel_rfl,λ _=>⟨List.nodup_nil,λ _ m=>nomatch m⟩⟩,h2,h3,h4⟩)
end
