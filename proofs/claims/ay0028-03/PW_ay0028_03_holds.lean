import PyProof.Rows.All
import OpenK.AllK
import Open.Pieces
import KE.KNestM
import Wide.All
import Wide.FinOn
import PyProof.IsiTupleAll
import PyProof.IsiHeapPairs
import PyProof.IsiPairs
import PyProof.EqKinds
import PyProof.TupleIter
import PyProof.StrCalls6
import PyProof.GenQ
import PyProof.GenCompD
import PyProof.TupleOfGen
import PyProof.Rows.ZipGen
import KE.KDictList
import PyProof.Rows.SortStr
import KE.KIsAll
import PyProof.TupleOfSeq
import PyProof.StrLawsTight
import PyProof.StrLawsLast
import PyProof.StrLawsIdx
import PyProof.ListIndexNeg
import PyProof.SliceMore
import PyProof.Rows.SeqIn
import Lean
import PySem.Challenge.RW_ay0028_03
open PySem PySem.W PyProof.Rows PySem.Calls
open PySem.Str renaming ofString → zz
open PySem renaming wpAny_bind → wb9, wpAny_pure → wp_, Value → Vl, Addr → Ad, Shared → Sh, wpAny → wA, wpAny_holding → wh_, wpAny_standAt → ws_, Around → Ar, FuncData → Fd_
open _root_.List renaming mem_singleton → ms_, length_map → lm_, mem_of_getElem? → mg_, mem_cons → mc_, not_mem_nil → nn_, getElem?_eq_some_iff → ge_, mem_append → ma_, length_append → la_, mem_append_left → ml_, mem_append_right → mr_, length_cons → lc_, forall_mem_cons → fc_, nodup_cons → nc_, getElem?_map → gm_, lookup_cons → kc_
open _root_.Option renaming bind_eq_some_iff → bs_, map_eq_some_iff → mq_, isSome_iff_exists → is_
open PySem.Heap renaming get?_push_of_some → gp_, get?_push_size → gz_
set_option Elab.async false
set_option maxRecDepth 100000
set_option linter.all false
set_option maxHeartbeats 8000000
set_option compiler.extract_closed false
set_option bootstrap.genMatcherCode false
set_option tactic.hygienic false
namespace Mine.Tactic
noncomputable abbrev pg:Program:=PySem.Challenge.pw_ay0028_03
noncomputable def Ql (i:Nat):Stmt:=pg.main.body.getD i (.Pass default)
noncomputable def Qb (i j:Nat):Stmt:=match Ql i with
 |.ClassDef _ _ _ b ..=>b.getD j (.Pass default)
 |s=>s
noncomputable def QZ (s:Stmt) (q:Str) (dV kV doc pm:Vl) (an:Option Ad) (cd ct:Vl):Fd_:=match s with
 |.FunctionDef name args body _ _ _ scope _ _ _=>{ name:=name,qualname:=q,params:=args,body:=.stmts body,scope:=scope,globals:=mainGlobals,closure:=[],defaults:=dV,kwdefaults:=kV,doc:=doc,pyModule:=pm,annotations:=an,code:=cd,closureTuple:=ct,builtins:=builtinsNs }
 |_=>default
noncomputable abbrev Qln (s:Stmt) (q:Str) (dV kV doc pm:Vl) (an:Option Ad) (cd ct:Vl):Data:=.func (QZ s q dV kV doc pm an cd ct)
noncomputable abbrev Qlo (n:String) (cl:Ad) (s:Stmt) (q:Str) (dV kV doc pm:Vl) (an:Option Ad) (cd ct:Vl):Data:=.func { QZ s q dV kV doc pm an cd ct with closure:=[(zz n,cl)] }
noncomputable def QnH (s:Stmt) (q:Str):Data:=match s with
 |.FunctionDef name args body _ _ _ scope _ _ _=>.func { name:=name,qualname:=q,params:=args,body:=.stmts body,scope:=scope,globals:=0,closure:=[],defaults:=.none,kwdefaults:=.none }
 |_=>.plain
noncomputable def ent (P:Params) (x:Str) (t:Tok) (v:Vl):DictEntry:=⟨PyData.keyHash P x,.str x t,v⟩
noncomputable abbrev sv (x:String) (t:Tok):Vl:=.str (zz x) t
noncomputable abbrev iv (i:Int):Vl:=.int i 0
noncomputable def QdQ:List Obj->List Obj
 | []=>[]
 | [a]=>[a]
 |a::_::r=>a::QdQ r
noncomputable def QeN:List Obj->List Obj
 | []=>[]
 | [_]=>[]
 |_::b::r=>b::QeN r
noncomputable def mkT:Nat->List Obj->BT
 | 0,_=>.nil
 |_,[]=>.nil
 |n+1,v::r=>.node v (mkT n (QdQ r)) (mkT n (QeN r))
noncomputable abbrev TE:=Params->DictEntry
noncomputable abbrev TB:=Params->Obj
noncomputable def er (k:String) (t a:Nat):TE:=λP=>ent P k t (.ref a)
noncomputable def eb (k:String) (t:Nat) (v:String):TE:=λP=>ent P k t (.builtin v)
noncomputable def en (k:String) (t:Nat):TE:=eb k t k
noncomputable def es (k:String) (t:Nat) (v:String) (u:Nat):TE:=λP=>ent P k t (sv v u)
noncomputable def ev (k:String) (t:Nat) (v:Vl):TE:=λP=>ent P k t v
noncomputable def eN:Nat->List String->List TE
 |_,[]=>[]
 |t,k::r=>en k t::eN (t+1) r
noncomputable def eH (a b:String):Nat->List String->List TE
 |_,[]=>[]
 |t,k::r=>eb k t (a++k++b)::eH a b (t+1) r
noncomputable def ob (o:Obj):TB:=λ_=>o
noncomputable def di (n:Nat) (l:List TE):TB:=λP=>⟨.type "dict",none,.dict (l.map (· P)).toArray n,#[]⟩
noncomputable def dn (n:Nat) (l:List TE):TB:=λP=>⟨.none,none,.dict (l.map (· P)).toArray n,#[]⟩
noncomputable def qt (l:List Vl):TB:=ob ⟨.type "tuple",none,.seq l.toArray 0,#[]⟩
noncomputable def q0:TB:=qt []
noncomputable def qf (l:List Vl):TB:=ob ⟨.none,none,.fields l.toArray,#[]⟩
noncomputable def f0:TB:=qf []
noncomputable def nv:Nat->List String->List Vl
 |_,[]=>[]
 |t,x::r=>sv x t::nv (t+1) r
noncomputable def nt (t:Nat) (l:List String):TB:=qt (nv t l)
noncomputable def tb (s:Stmt) (q:String):TB:=ob ⟨.none,none,QnH s q,#[]⟩
noncomputable def xo (c:String) (l:List Vl):TB:=ob ⟨.type c,none,.fields l.toArray,#[]⟩
noncomputable def bm (f:String) (v:Vl):TB:=xo "builtin_function_or_method" [.builtin f,v]
noncomputable def gd (t:Nat) (v:Vl):TB:=xo "getset_descriptor" [sv "__dict__" t,v,.builtin "function.__dict__",.builtin "function.__dict__#set"]
noncomputable def gw (t:Nat) (v:Vl):TB:=xo "getset_descriptor" [sv "__weakref__" t,v,.builtin "ExceptionGroup.__weakref__",.none]
noncomputable def su (v:Vl):TB:=xo "super" [v,v,v]
noncomputable def cdo (n:Vl) (q:String) (t:Nat) (l ar k fl:Int) (r1:Ad) (b:Bool) (w1 w2 w3:Vl) (t3:Nat):TB :=
 xo "code" [n,sv q (t+1),sv "/claim/cut.py" (t+2),iv l,iv ar,iv 0,iv k,iv fl,.ref r1,.bool b,iv 377,.ref (r1+1),.none,w1,w2,w3,iv t3,iv l,sv "/claim/cut.py" (t3+1)]
noncomputable def cc (n q:String) (t:Nat) (l:Int) (r1:Ad) (t3:Nat):TB:=cdo (sv n t) q t l 0 0 0 r1 false .none .none .none t3
noncomputable def fm (a b:Ad) (m:String) (t:Nat):TB:=ob ⟨.type "frame",none,.plain,#[some (.ref a),some (.ref 3),some (.ref b),none,some (sv m t),none,some (.ref 0)]⟩
noncomputable def ty (n:String) (bs mro:List Vl) (ns:Ad) (sub:List Vl) (sl:List (Option Vl)):TB:=ob ⟨.type "type",none,.cls { name:=n,bases:=bs,mro:=mro,ns:=ns,qualname:=n,hasDict:=true,slotNames:=[],subclasses:=sub,abstract:=false,collection:=none,hasDel:=false },sl.toArray⟩
noncomputable def snm:Stmt->Str
 |.FunctionDef n _ _ _ _ _ _ _ _ _=>n
 |_=>default
noncomputable def du (s:Stmt) (q:String) (a t:Nat) (l ar k fl:Int) (ns cs:List String) (mo dv:Vl) (an:Option Ad):List TB :=
 let e:=ns.isEmpty&&ar != 0
 let c:=if e then a+3 else a+5
 let n:=ns.length
 [q0,f0]++(if e then [] else [nt (t+3) ns,nt (t+3+n) cs])++[tb s q,
  cdo (.str (snm s) t) q t l ar k fl a true (if e then .none else .ref (a+2)) (if e then .none else .ref (a+3)) (.ref (c - 1)) (t+3+n+cs.length),
  ob ⟨.type "function",none,Qln s q dv .none .none mo an (.ref c) .none,#[]⟩]
noncomputable def mr:Vl:=sv "jsonrows" 390
noncomputable def mp:Vl:=sv "jsonpointer" 498
noncomputable def mj:Vl:=sv "jsonpatch" 904
noncomputable def ml:Vl:=sv "law_ay0028_03" 2276
noncomputable def mm:Vl:=sv "__main__" 164
noncomputable def e3:List TE:=[ev "__doc__" 166 .none,ev "__package__" 167 .none,eb "__loader__" 168 "__main__.__loader__#opaque",ev "__spec__" 169 .none,er "__annotations__" 170 6,er "__builtins__" 171 4,es "__file__" 173 "/claim/cut.py" 172,ev "__cached__" 174 .none,er "_sre" 275 12,eb "bisect_left" 373 "_bisect.bisect_left",eb "bisect_right" 376 "_bisect.bisect_right",er "_wall" 389 59,ev "Mapping" 392 (.type "dict"),ev "MutableMapping" 393 (.type "dict"),ev "MutableSequence" 394 (.type "list"),er "Sequence" 395 60,er "copied" 401 65,er "_ESCAPES" 423 66,er "_escaped" 430 73,er "dumps" 436 78,er "SequenceMatcher" 497 115,er "_twin_re_1" 538 124,er "_twin_re_2" 577 129,er "_nothing" 578 130,ev "VERBOSE_EXCEPTIONS" 579 (.bool false),er "JsonPointerException" 599 140,er "EndOfList" 635 167,er "JsonPointer" 889 333,er "escape" 896 344,er "unescape" 903 351,ev "_ST_ADD" 907 (.int 0 906),ev "_ST_REMOVE" 909 (.int 1 908),ev "_EXACT_MATCH_LIMIT" 913 (.int 250000 912),er "JsonPatchException" 945 370,er "InvalidJsonPatch" 961 383,er "JsonPatchConflict" 977 395,er "JsonPatchPathNotFound" 993 407,er "JsonPatchTestFailed" 1011 419,er "path_join" 1019 429,er "_NullJournal" 1121 479,er "_NO_JOURNAL" 1122 485,er "_Journal" 1202 537,er "_undo_setitem" 1211 548,er "_undo_delitem" 1219 555,er "_undo_insert" 1228 562,er "_reorder" 1234 567,er "PatchOperation" 1350 659,er "RemoveOperation" 1379 680,er "AddOperation" 1417 707,er "ReplaceOperation" 1446 726,er "MoveOperation" 1521 784,er "TestOperation" 1551 803,er "CopyOperation" 1581 822,er "_restore" 1592 831,er "_JOURNALED_OPERATIONS" 1593 832,er "_supports_journal" 1600 839,er "JsonPatch" 1771 945,er "DiffBuilder" 2039 1110,er "_cost" 2057 1121,er "_positional_cost" 2067 1128,er "_json_equal" 2077 1135,er "_sorted_members" 2083 1140,er "_ArrayItem" 2124 1164,er "_ArrayItems" 2216 1223,er "_path_join" 2224 1234,er "_to_pointer" 2231 1241,er "_is_prefix" 2239 1248,er "_is_inside" 2247 1255,er "_shift" 2256 1262,er "_without_item" 2265 1269,er "_to_existing_last" 2275 1276,er "_law_plain" 2283 1283,er "_law_names" 2292 1284,er "_law_grown" 2306 1291,er "_law_anew" 2312 1296,er "_law_value" 2319 1303,er "_law_places" 2331 1310,er "_law_taken" 2340 1317,er "_law_put" 2351 1324,er "_law_target" 2357 1329,er "_law_text" 2363 1334,er "_law_paired" 2369 1339,er "law" 2394 1346]
noncomputable def o3v (n:String) (t k:Nat):TB:=di k (es "__name__" 165 n t::e3.take (k - 1))
noncomputable def e2:List TE:=[ev "\x69mport.loaded._sre" 183 (.bool true),er "class._frozen_importlib.BuiltinImporter" 185 14,er "watched.\x69mport" 206 18,er "class._frozen_importlib.ModuleSpec" 216 22,ev "sys.modules.booked-epoch" 245 (iv 4),ev "\x69mport.later-laid._sre" 270 (.bool true),er "watched.library" 272 27,es "watched.library-objects" 0 "\x0c\x1e" 0,es "watched.library-deep._sre" 273 "\x04\x00\x00\x0b\x04\x00\x00\x0b\x04\x00\x00\x03\x04\x00\x00\x0b\x08\x04dict\x02" 0,ev "\x69mport.loaded._bisect" 281 (.bool true),er "class._frozen_importlib_external._LoaderBasics" 286 33,er "class._frozen_importlib_external.FileLoader" 302 38,er "class._frozen_importlib_external.ExtensionFileLoader" 323 43,ev "\x69mport.later-laid._bisect" 366 (.bool true),ev "type.__subclasses__.Exception.0" 596 (iv 140),ev "type.__subclasses__.Exception.n" 597 (iv 2),ev "type.__subclasses__.Exception.1" 942 (iv 370),ev "type.__subclasses__.AssertionError.0" 1008 (iv 419),ev "type.__subclasses__.AssertionError.n" 1009 (iv 1)]
noncomputable def e50:List Vl:=[(iv 3),(iv 0),(.ref 58),(iv 10),(iv 0),(.ref 64),(iv 17),(iv 0),(.ref 72),(iv 23),(iv 0),(.ref 77),(iv 33),(iv 0),(.ref 84),(iv 61),(iv 0),(.ref 136),(iv 63),(iv 0),(.ref 149),(iv 70),(iv 0),(.ref 177),(iv 246),(iv 0),(.ref 343),(iv 248),(iv 0),(.ref 350),(iv 254),(iv 0),(.ref 358),(iv 259),(iv 0),(.ref 379),(iv 261),(iv 0),(.ref 391),(iv 263),(iv 0),(.ref 403),(iv 265),(iv 0),(.ref 415),(iv 267),(iv 0),(.ref 428),(iv 269),(iv 0),(.ref 435),(iv 287),(iv 0),(.ref 491),(iv 333),(iv 0),(.ref 547),(iv 335),(iv 0),(.ref 554),(iv 337),(iv 0),(.ref 561),(iv 339),(iv 0),(.ref 566),(iv 344),(iv 0),(.ref 573),(iv 409),(iv 0),(.ref 669),(iv 425),(iv 0),(.ref 688),(iv 453),(iv 0),(.ref 715),(iv 477),(iv 0),(.ref 734),(iv 523),(iv 0),(.ref 792),(iv 541),(iv 0),(.ref 811),(iv 556),(iv 0),(.ref 830),(iv 570),(iv 0),(.ref 838),(iv 572),(iv 0),(.ref 845),(iv 667),(iv 0),(.ref 955),(iv 892),(iv 0),(.ref 1120),(iv 894),(iv 0),(.ref 1127),(iv 902),(iv 0),(.ref 1134),(iv 910),(iv 0),(.ref 1139),(iv 918),(iv 0),(.ref 1146),(iv 928),(iv 0),(.ref 1174),(iv 989),(iv 0),(.ref 1233),(iv 993),(iv 0),(.ref 1240),(iv 995),(iv 0),(.ref 1247),(iv 997),(iv 0),(.ref 1254),(iv 999),(iv 0),(.ref 1261),(iv 1001),(iv 0),(.ref 1268),(iv 1006),(iv 0),(.ref 1275),(iv 1012),(iv 0),(.ref 1282),(iv 1015),(iv 0),(.ref 1290),(iv 1032),(iv 0),(.ref 1295),(iv 1038),(iv 0),(.ref 1302),(iv 1040),(iv 0),(.ref 1309),(iv 1049),(iv 0),(.ref 1316),(iv 1053),(iv 0),(.ref 1323),(iv 1064),(iv 0),(.ref 1328),(iv 1072),(iv 0),(.ref 1333),(iv 1077),(iv 0),(.ref 1338),(iv 1096),(iv 0),(.ref 1345)]
noncomputable def XE (k:Nat):TB:=qf (e50.take k)
noncomputable def al2:List (List TB):=[[di 159 ([es "__name__" 1 "builtins" 160]++eH "builtins." ":str#opaque" 2 ["__doc__","__package__"]++[eb "__loader__" 4 "builtins.__loader__:shared#opaque",eb "__spec__" 5 "builtins.__spec__#opaque"]++eN 6 ["__build_class__","__import__","abs","all","any","ascii","bin","breakpoint","callable","chr","compile","delattr","dir","divmod","eval","exec","format","getattr","globals","hasattr","hash","hex","id","input","isinstance","issubclass","iter","aiter","len","locals","max","min","next","anext","oct","ord","pow","print","repr","round","setattr","sorted","sum","vars"]++[ev "None" 50 .none,ev "Ellipsis" 51 .ellipsis,ev "NotImplemented" 52 .notImplemented,ev "False" 53 (.bool false),ev "True" 54 (.bool true),ev "bool" 55 (.type "bool"),ev "memoryview" 56 (.type "memoryview"),ev "bytearray" 57 (.type "bytearray"),ev "bytes" 58 (.type "bytes"),ev "classmethod" 59 (.type "classmethod"),ev "complex" 60 (.type "complex"),ev "dict" 61 (.type "dict"),ev "enumerate" 62 (.type "enumerate"),ev "filter" 63 (.type "filter"),ev "float" 64 (.type "float"),ev "frozenset" 65 (.type "frozenset"),ev "property" 66 (.type "property"),ev "int" 67 (.type "int"),ev "list" 68 (.type "list"),ev "map" 69 (.type "map"),ev "object" 70 (.type "object"),ev "range" 71 (.type "range"),ev "reversed" 72 (.type "reversed"),ev "set" 73 (.type "set"),ev "slice" 74 (.type "slice"),ev "staticmethod" 75 (.type "staticmethod"),ev "str" 76 (.type "str"),ev "super" 77 (.type "super"),ev "tuple" 78 (.type "tuple"),ev "type" 79 (.type "type"),ev "zip" 80 (.type "zip"),ev "__debug__" 81 (.bool true),ev "BaseException" 82 (.type "BaseException"),ev "BaseExceptionGroup" 83 (.type "BaseExceptionGroup"),ev "Exception" 84 (.type "Exception"),ev "GeneratorExit" 85 (.type "GeneratorExit"),ev "KeyboardInterrupt" 86 (.type "KeyboardInterrupt"),ev "SystemExit" 87 (.type "SystemExit"),ev "ArithmeticError" 88 (.type "ArithmeticError"),ev "AssertionError" 89 (.type "AssertionError"),ev "AttributeError" 90 (.type "AttributeError"),ev "BufferError" 91 (.type "BufferError"),ev "EOFError" 92 (.type "EOFError"),ev "ImportError" 93 (.type "ImportError"),ev "LookupError" 94 (.type "LookupError"),ev "MemoryError" 95 (.type "MemoryError"),ev "NameError" 96 (.type "NameError"),ev "OSError" 97 (.type "OSError"),ev "ReferenceError" 98 (.type "ReferenceError"),ev "RuntimeError" 99 (.type "RuntimeError"),ev "StopAsyncIteration" 100 (.type "StopAsyncIteration"),ev "StopIteration" 101 (.type "StopIteration"),ev "SyntaxError" 102 (.type "SyntaxError"),ev "SystemError" 103 (.type "SystemError"),ev "TypeError" 104 (.type "TypeError"),ev "ValueError" 105 (.type "ValueError"),ev "Warning" 106 (.type "Warning"),ev "FloatingPointError" 107 (.type "FloatingPointError"),ev "OverflowError" 108 (.type "OverflowError"),ev "ZeroDivisionError" 109 (.type "ZeroDivisionError"),ev "BytesWarning" 110 (.type "BytesWarning"),ev "DeprecationWarning" 111 (.type "DeprecationWarning"),ev "EncodingWarning" 112 (.type "EncodingWarning"),ev "FutureWarning" 113 (.type "FutureWarning"),ev "ImportWarning" 114 (.type "ImportWarning"),ev "PendingDeprecationWarning" 115 (.type "PendingDeprecationWarning"),ev "ResourceWarning" 116 (.type "ResourceWarning"),ev "RuntimeWarning" 117 (.type "RuntimeWarning"),ev "SyntaxWarning" 118 (.type "SyntaxWarning"),ev "UnicodeWarning" 119 (.type "UnicodeWarning"),ev "UserWarning" 120 (.type "UserWarning"),ev "BlockingIOError" 121 (.type "BlockingIOError"),ev "ChildProcessError" 122 (.type "ChildProcessError"),ev "ConnectionError" 123 (.type "ConnectionError"),ev "FileExistsError" 124 (.type "FileExistsError"),ev "FileNotFoundError" 125 (.type "FileNotFoundError"),ev "InterruptedError" 126 (.type "InterruptedError"),ev "IsADirectoryError" 127 (.type "IsADirectoryError"),ev "NotADirectoryError" 128 (.type "NotADirectoryError"),ev "PermissionError" 129 (.type "PermissionError"),ev "ProcessLookupError" 130 (.type "ProcessLookupError"),ev "TimeoutError" 131 (.type "TimeoutError"),ev "IndentationError" 132 (.type "IndentationError"),ev "_IncompleteInputError" 133 (.type "_IncompleteInputError"),ev "IndexError" 134 (.type "IndexError"),ev "KeyError" 135 (.type "KeyError"),ev "ModuleNotFoundError" 136 (.type "ModuleNotFoundError"),ev "NotImplementedError" 137 (.type "NotImplementedError"),ev "PythonFinalizationError" 138 (.type "PythonFinalizationError"),ev "RecursionError" 139 (.type "RecursionError"),ev "UnboundLocalError" 140 (.type "UnboundLocalError"),ev "UnicodeError" 141 (.type "UnicodeError"),ev "BrokenPipeError" 142 (.type "BrokenPipeError"),ev "ConnectionAbortedError" 143 (.type "ConnectionAbortedError"),ev "ConnectionRefusedError" 144 (.type "ConnectionRefusedError"),ev "ConnectionResetError" 145 (.type "ConnectionResetError"),ev "TabError" 146 (.type "TabError"),ev "UnicodeDecodeError" 147 (.type "UnicodeDecodeError"),ev "UnicodeEncodeError" 148 (.type "UnicodeEncodeError"),ev "UnicodeTranslateError" 149 (.type "UnicodeTranslateError"),ev "ExceptionGroup" 150 (.type "ExceptionGroup"),ev "EnvironmentError" 151 (.type "OSError"),ev "IOError" 152 (.type "OSError"),en "open" 153]++eH "builtins." "#opaque" 154 ["quit","exit","copyright","credits","license","help"]),di 4 [er "builtins" 162 4,er "__main__" 163 5,er "_sre" 244 12,er "_bisect" 352 30],dn 19 e2,o3v "law_ay0028_03" 2276 84,ob ⟨(.type "module"),some 0,.plain,[].toArray⟩,ob ⟨(.type "module"),some 3,.plain,[].toArray⟩,di 0 [],q0,f0,ob ⟨(.type "code"),none,(.fields [(sv "<module>" 176),(sv "<module>" 177),(sv "/claim/cut.py" 178),(iv 1),(iv 0),(iv 0),(iv 0),(iv 0),(.ref 7),(.bool false),(iv 175),(.ref 8),.none,.none,.none,.none,(iv 179),(iv 1),(sv "/claim/cut.py" 180)].toArray),[].toArray⟩,fm 9 3 "__main__" 164,di 17 ([es "__name__" 247 "_sre" 246,ev "__doc__" 248 .none,es "__package__" 250 "" 249]++eH "off-the-table:_sre." ":shared#opaque" 251 ["__loader__","__spec__"]++[eb "compile" 253 "_sre.compile"]++eH "off-the-table:_sre." ":shared#opaque" 254 ["template","getcodesize","ascii_iscased","unicode_iscased","ascii_tolower","unicode_tolower"]++[ev "MAGIC" 261 (.int 20230612 260),ev "CODESIZE" 263 (.int 4 262),ev "MAXREPEAT" 265 (.int 4294967295 264),ev "MAXGROUPS" 267 (.int 1073741823 266),es "copyright" 269 " SRE 2.2.2 Copyright (c) 1997-2002 by Secret Labs AB " 268]),ob ⟨(.type "module"),some 11,.plain,[].toArray⟩,di 14 ([es "__module__" 189 "_frozen_importlib" 186,ev "__firstlineno__" 190 (.int 971 187),eb "__doc__" 191 "_frozen_importlib.BuiltinImporter.__doc__:str#opaque",es "_ORIGIN" 192 "built-in" 188]++eH "_frozen_importlib.BuiltinImporter." "#opaque" 193 ["find_spec","create_module","exec_module","get_code","get_source","is_package","load_module"]++[er "__static_attributes__" 200 15,er "__dict__" 202 16,er "__weakref__" 204 17]),ty "BuiltinImporter" [(.type "object")] [(.ref 14),(.type "object")] 13 [] [],q0,gd 201 (.ref 14),gw 203 (.ref 14),ob ⟨.none,none,(.seq [(iv 13),(.str (Str.mk #[6,189,10,95,95,109,111,100,117,108,101,95,95,6,186,17,95,102,114,111,122,101,110,95,105,109,112,111,114,116,108,105,98,6,190,15,95,95,102,105,114,115,116,108,105,110,101,110,111,95,95,4,187,0,971,6,191,7,95,95,100,111,99,95,95,9,52,95,102,114,111,122,101,110,95,105,109,112,111,114,116,108,105,98,46,66,117,105,108,116,105,110,73,109,112,111,114,116,101,114,46,95,95,100,111,99,95,95,58,115,116,114,35,111,112,97,113,117,101,6,192,7,95,79,82,73,71,73,78,6,188,8,98,117,105,108,116,45,105,110,6,193,9,102,105,110,100,95,115,112,101,99,9,50,95,102,114,111,122,101,110,95,105,109,112,111,114,116,108,105,98,46,66,117,105,108,116,105,110,73,109,112,111,114,116,101,114,46,102,105,110,100,95,115,112,101,99,35,111,112,97,113,117,101,6,194,13,99,114,101,97,116,101,95,109,111,100,117,108,101,9,54,95,102,114,111,122,101,110,95,105,109,112,111,114,116,108,105,98,46,66,117,105,108,116,105,110,73,109,112,111,114,116,101,114,46,99,114,101,97,116,101,95,109,111,100,117,108,101,35,111,112,97,113,117,101,6,195,11,101,120,101,99,95,109,111,100,117,108,101,9,52,95,102,114,111,122,101,110,95,105,109,112,111,114,116,108,105,98,46,66,117,105,108,116,105,110,73,109,112,111,114,116,101,114,46,101,120,101,99,95,109,111,100,117,108,101,35,111,112,97,113,117,101,6,196,8,103,101,116,95,99,111,100,101,9,49,95,102,114,111,122,101,110,95,105,109,112,111,114,116,108,105,98,46,66,117,105,108,116,105,110,73,109,112,111,114,116,101,114,46,103,101,116,95,99,111,100,101,35,111,112,97,113,117,101,6,197,10,103,101,116,95,115,111,117,114,99,101,9,51,95,102,114,111,122,101,110,95,105,109,112,111,114,116,108,105,98,46,66,117,105,108,116,105,110,73,109,112,111,114,116,101,114,46,103,101,116,95,115,111,117,114,99,101,35,111,112,97,113,117,101,6,198,10,105,115,95,112,97,99,107,97,103,101,9,51,95,102,114,111,122,101,110,95,105,109,112,111,114,116,108,105,98,46,66,117,105,108,116,105,110,73,109,112,111,114,116,101,114,46,105,115,95,112,97,99,107,97,103,101,35,111,112,97,113,117,101,6,199,11,108,111,97,100,95,109,111,100,117,108,101,9,52,95,102,114,111,122,101,110,95,105,109,112,111,114,116,108,105,98,46,66,117,105,108,116,105,110,73,109,112,111,114,116,101,114,46,108,111,97,100,95,109,111,100,117,108,101,35,111,112,97,113,117,101,6,200,21,95,95,115,116,97,116,105,99,95,97,116,116,114,105,98,117,116,101,115,95,95,4,0,0,15,6,202,8,95,95,100,105,99,116,95,95,4,0,0,16,6,204,11,95,95,119,101,97,107,114,101,102,95,95,4,0,0,17]) 0),(.bool true),(.bool true),(sv "" 205),(iv 21),(.str (Str.mk #[6,227,10,95,95,109,111,100,117,108,101,95,95,6,217,17,95,102,114,111,122,101,110,95,105,109,112,111,114,116,108,105,98,6,228,15,95,95,102,105,114,115,116,108,105,110,101,110,111,95,95,4,218,0,562,6,229,7,95,95,100,111,99,95,95,9,47,95,102,114,111,122,101,110,95,105,109,112,111,114,116,108,105,98,46,77,111,100,117,108,101,83,112,101,99,46,95,95,100,111,99,95,95,58,115,116,114,35,111,112,97,113,117,101,6,230,8,95,95,105,110,105,116,95,95,9,44,95,102,114,111,122,101,110,95,105,109,112,111,114,116,108,105,98,46,77,111,100,117,108,101,83,112,101,99,46,95,95,105,110,105,116,95,95,35,111,112,97,113,117,101,6,231,8,95,95,114,101,112,114,95,95,9,44,95,102,114,111,122,101,110,95,105,109,112,111,114,116,108,105,98,46,77,111,100,117,108,101,83,112,101,99,46,95,95,114,101,112,114,95,95,35,111,112,97,113,117,101,6,232,6,95,95,101,113,95,95,9,42,95,102,114,111,122,101,110,95,105,109,112,111,114,116,108,105,98,46,77,111,100,117,108,101,83,112,101,99,46,95,95,101,113,95,95,35,111,112,97,113,117,101,6,233,6,99,97,99,104,101,100,9,42,95,102,114,111,122,101,110,95,105,109,112,111,114,116,108,105,98,46,77,111,100,117,108,101,83,112,101,99,46,99,97,99,104,101,100,35,111,112,97,113,117,101,6,234,6,112,97,114,101,110,116,9,42,95,102,114,111,122,101,110,95,105,109,112,111,114,116,108,105,98,46,77,111,100,117,108,101,83,112,101,99,46,112,97,114,101,110,116,35,111,112,97,113,117,101,6,235,12,104,97,115,95,108,111,99,97,116,105,111,110,9,48,95,102,114,111,122,101,110,95,105,109,112,111,114,116,108,105,98,46,77,111,100,117,108,101,83,112,101,99,46,104,97,115,95,108,111,99,97,116,105,111,110,35,111,112,97,113,117,101,6,236,21,95,95,115,116,97,116,105,99,95,97,116,116,114,105,98,117,116,101,115,95,95,4,0,0,23,6,238,8,95,95,100,105,99,116,95,95,4,0,0,24,6,240,11,95,95,119,101,97,107,114,101,102,95,95,4,0,0,25,6,241,8,95,95,104,97,115,104,95,95,0]) 0),(.bool true),(.bool true),(sv "" 242),(iv 32),(.str (Str.mk #[6,289,10,95,95,109,111,100,117,108,101,95,95,6,287,26,95,102,114,111,122,101,110,95,105,109,112,111,114,116,108,105,98,95,101,120,116,101,114,110,97,108,6,290,15,95,95,102,105,114,115,116,108,105,110,101,110,111,95,95,4,288,0,1001,6,291,7,95,95,100,111,99,95,95,9,59,95,102,114,111,122,101,110,95,105,109,112,111,114,116,108,105,98,95,101,120,116,101,114,110,97,108,46,95,76,111,97,100,101,114,66,97,115,105,99,115,46,95,95,100,111,99,95,95,58,115,116,114,35,111,112,97,113,117,101,6,292,10,105,115,95,112,97,99,107,97,103,101,9,58,95,102,114,111,122,101,110,95,105,109,112,111,114,116,108,105,98,95,101,120,116,101,114,110,97,108,46,95,76,111,97,100,101,114,66,97,115,105,99,115,46,105,115,95,112,97,99,107,97,103,101,35,111,112,97,113,117,101,6,293,13,99,114,101,97,116,101,95,109,111,100,117,108,101,9,61,95,102,114,111,122,101,110,95,105,109,112,111,114,116,108,105,98,95,101,120,116,101,114,110,97,108,46,95,76,111,97,100,101,114,66,97,115,105,99,115,46,99,114,101,97,116,101,95,109,111,100,117,108,101,35,111,112,97,113,117,101,6,294,11,101,120,101,99,95,109,111,100,117,108,101,9,59,95,102,114,111,122,101,110,95,105,109,112,111,114,116,108,105,98,95,101,120,116,101,114,110,97,108,46,95,76,111,97,100,101,114,66,97,115,105,99,115,46,101,120,101,99,95,109,111,100,117,108,101,35,111,112,97,113,117,101,6,295,11,108,111,97,100,95,109,111,100,117,108,101,9,59,95,102,114,111,122,101,110,95,105,109,112,111,114,116,108,105,98,95,101,120,116,101,114,110,97,108,46,95,76,111,97,100,101,114,66,97,115,105,99,115,46,108,111,97,100,95,109,111,100,117,108,101,35,111,112,97,113,117,101,6,296,21,95,95,115,116,97,116,105,99,95,97,116,116,114,105,98,117,116,101,115,95,95,4,0,0,34,6,298,8,95,95,100,105,99,116,95,95,4,0,0,35,6,300,11,95,95,119,101,97,107,114,101,102,95,95,4,0,0,36]) 0),(.bool true),(.bool true),(sv "" 301),(iv 37),(.str (Str.mk #[6,307,10,95,95,109,111,100,117,108,101,95,95,6,303,26,95,102,114,111,122,101,110,95,105,109,112,111,114,116,108,105,98,95,101,120,116,101,114,110,97,108,6,308,15,95,95,102,105,114,115,116,108,105,110,101,110,111,95,95,4,304,0,1176,6,309,7,95,95,100,111,99,95,95,9,56,95,102,114,111,122,101,110,95,105,109,112,111,114,116,108,105,98,95,101,120,116,101,114,110,97,108,46,70,105,108,101,76,111,97,100,101,114,46,95,95,100,111,99,95,95,58,115,116,114,35,111,112,97,113,117,101,6,310,8,95,95,105,110,105,116,95,95,9,53,95,102,114,111,122,101,110,95,105,109,112,111,114,116,108,105,98,95,101,120,116,101,114,110,97,108,46,70,105,108,101,76,111,97,100,101,114,46,95,95,105,110,105,116,95,95,35,111,112,97,113,117,101,6,311,6,95,95,101,113,95,95,9,51,95,102,114,111,122,101,110,95,105,109,112,111,114,116,108,105,98,95,101,120,116,101,114,110,97,108,46,70,105,108,101,76,111,97,100,101,114,46,95,95,101,113,95,95,35,111,112,97,113,117,101,6,312,8,95,95,104,97,115,104,95,95,9,53,95,102,114,111,122,101,110,95,105,109,112,111,114,116,108,105,98,95,101,120,116,101,114,110,97,108,46,70,105,108,101,76,111,97,100,101,114,46,95,95,104,97,115,104,95,95,35,111,112,97,113,117,101,6,313,11,108,111,97,100,95,109,111,100,117,108,101,9,56,95,102,114,111,122,101,110,95,105,109,112,111,114,116,108,105,98,95,101,120,116,101,114,110,97,108,46,70,105,108,101,76,111,97,100,101,114,46,108,111,97,100,95,109,111,100,117,108,101,35,111,112,97,113,117,101,6,314,12,103,101,116,95,102,105,108,101,110,97,109,101,9,57,95,102,114,111,122,101,110,95,105,109,112,111,114,116,108,105,98,95,101,120,116,101,114,110,97,108,46,70,105,108,101,76,111,97,100,101,114,46,103,101,116,95,102,105,108,101,110,97,109,101,35,111,112,97,113,117,101,6,315,8,103,101,116,95,100,97,116,97,9,53,95,102,114,111,122,101,110,95,105,109,112,111,114,116,108,105,98,95,101,120,116,101,114,110,97,108,46,70,105,108,101,76,111,97,100,101,114,46,103,101,116,95,100,97,116,97,35,111,112,97,113,117,101,6,316,19,103,101,116,95,114,101,115,111,117,114,99,101,95,114,101,97,100,101,114,9,64,95,102,114,111,122,101,110,95,105,109,112,111,114,116,108,105,98,95,101,120,116,101,114,110,97,108,46,70,105,108,101,76,111,97,100,101,114,46,103,101,116,95,114,101,115,111,117,114,99,101,95,114,101,97,100,101,114,35,111,112,97,113,117,101,6,317,21,95,95,115,116,97,116,105,99,95,97,116,116,114,105,98,117,116,101,115,95,95,4,0,0,39,6,319,8,95,95,100,105,99,116,95,95,4,0,0,40,6,321,11,95,95,119,101,97,107,114,101,102,95,95,4,0,0,41]) 0),(.bool true),(.bool true),(sv "" 322),(iv 42),(.str (Str.mk #[6,328,10,95,95,109,111,100,117,108,101,95,95,6,324,26,95,102,114,111,122,101,110,95,105,109,112,111,114,116,108,105,98,95,101,120,116,101,114,110,97,108,6,329,15,95,95,102,105,114,115,116,108,105,110,101,110,111,95,95,4,325,0,1296,6,330,7,95,95,100,111,99,95,95,9,65,95,102,114,111,122,101,110,95,105,109,112,111,114,116,108,105,98,95,101,120,116,101,114,110,97,108,46,69,120,116,101,110,115,105,111,110,70,105,108,101,76,111,97,100,101,114,46,95,95,100,111,99,95,95,58,115,116,114,35,111,112,97,113,117,101,6,331,8,95,95,105,110,105,116,95,95,9,62,95,102,114,111,122,101,110,95,105,109,112,111,114,116,108,105,98,95,101,120,116,101,114,110,97,108,46,69,120,116,101,110,115,105,111,110,70,105,108,101,76,111,97,100,101,114,46,95,95,105,110,105,116,95,95,35,111,112,97,113,117,101,6,332,6,95,95,101,113,95,95,9,60,95,102,114,111,122,101,110,95,105,109,112,111,114,116,108,105,98,95,101,120,116,101,114,110,97,108,46,69,120,116,101,110,115,105,111,110,70,105,108,101,76,111,97,100,101,114,46,95,95,101,113,95,95,35,111,112,97,113,117,101,6,333,8,95,95,104,97,115,104,95,95,9,62,95,102,114,111,122,101,110,95,105,109,112,111,114,116,108,105,98,95,101,120,116,101,114,110,97,108,46,69,120,116,101,110,115,105,111,110,70,105,108,101,76,111,97,100,101,114,46,95,95,104,97,115,104,95,95,35,111,112,97,113,117,101,6,334,13,99,114,101,97,116,101,95,109,111,100,117,108,101,9,67,95,102,114,111,122,101,110,95,105,109,112,111,114,116,108,105,98,95,101,120,116,101,114,110,97,108,46,69,120,116,101,110,115,105,111,110,70,105,108,101,76,111,97,100,101,114,46,99,114,101,97,116,101,95,109,111,100,117,108,101,35,111,112,97,113,117,101,6,335,11,101,120,101,99,95,109,111,100,117,108,101,9,65,95,102,114,111,122,101,110,95,105,109,112,111,114,116,108,105,98,95,101,120,116,101,114,110,97,108,46,69,120,116,101,110,115,105,111,110,70,105,108,101,76,111,97,100,101,114,46,101,120,101,99,95,109,111,100,117,108,101,35,111,112,97,113,117,101,6,336,10,105,115,95,112,97,99,107,97,103,101,9,64,95,102,114,111,122,101,110,95,105,109,112,111,114,116,108,105,98,95,101,120,116,101,114,110,97,108,46,69,120,116,101,110,115,105,111,110,70,105,108,101,76,111,97,100,101,114,46,105,115,95,112,97,99,107,97,103,101,35,111,112,97,113,117,101,6,337,8,103,101,116,95,99,111,100,101,9,62,95,102,114,111,122,101,110,95,105,109,112,111,114,116,108,105,98,95,101,120,116,101,114,110,97,108,46,69,120,116,101,110,115,105,111,110,70,105,108,101,76,111,97,100,101,114,46,103,101,116,95,99,111,100,101,35,111,112,97,113,117,101,6,338,10,103,101,116,95,115,111,117,114,99,101,9,64,95,102,114,111,122,101,110,95,105,109,112,111,114,116,108,105,98,95,101,120,116,101,114,110,97,108,46,69,120,116,101,110,115,105,111,110,70,105,108,101,76,111,97,100,101,114,46,103,101,116,95,115,111,117,114,99,101,35,111,112,97,113,117,101,6,339,12,103,101,116,95,102,105,108,101,110,97,109,101,9,66,95,102,114,111,122,101,110,95,105,109,112,111,114,116,108,105,98,95,101,120,116,101,114,110,97,108,46,69,120,116,101,110,115,105,111,110,70,105,108,101,76,111,97,100,101,114,46,103,101,116,95,102,105,108,101,110,97,109,101,35,111,112,97,113,117,101,6,340,21,95,95,115,116,97,116,105,99,95,97,116,116,114,105,98,117,116,101,115,95,95,4,0,0,44]) 0),(.bool true),(.bool true),(sv "" 341)].toArray 4),[].toArray⟩,ob ⟨(.type "list"),none,(.seq [].toArray 0),[].toArray⟩,di 9 [es "name" 208 "_sre" 207,er "loader" 209 14,es "origin" 210 "built-in" 184,ev "loader_state" 211 .none,ev "submodule_search_locations" 212 .none,er "_uninitialized_submodules" 213 19,ev "_set_fileattr" 214 (.bool false),ev "_cached" 215 .none,ev "_initializing" 243 (.bool false)],di 13 ([es "__module__" 227 "_frozen_importlib" 217,ev "__firstlineno__" 228 (.int 562 218),eb "__doc__" 229 "_frozen_importlib.ModuleSpec.__doc__:str#opaque"]++eH "_frozen_importlib.ModuleSpec." "#opaque" 230 ["__init__","__repr__","__eq__","cached","parent","has_location"]++[er "__static_attributes__" 236 23,er "__dict__" 238 24,er "__weakref__" 240 25,ev "__hash__" 241 .none]),ty "ModuleSpec" [(.type "object")] [(.ref 22),(.type "object")] 21 [] [],nt 219 ["_cached","_set_fileattr","_uninitialized_submodules","loader","loader_state","name","origin","submodule_search_locations"],gd 237 (.ref 22),gw 239 (.ref 22),ob ⟨(.ref 22),some 20,.plain,[].toArray⟩,ob ⟨.none,none,(.seq [(iv 11),(.str (Str.mk #[6,247,8,95,95,110,97,109,101,95,95,6,246,4,95,115,114,101,6,248,7,95,95,100,111,99,95,95,0,6,250,11,95,95,112,97,99,107,97,103,101,95,95,6,249,0,6,251,10,95,95,108,111,97,100,101,114,95,95,4,0,0,14,6,252,8,95,95,115,112,101,99,95,95,4,0,0,26,6,253,7,99,111,109,112,105,108,101,9,12,95,115,114,101,46,99,111,109,112,105,108,101,6,254,8,116,101,109,112,108,97,116,101,9,13,95,115,114,101,46,116,101,109,112,108,97,116,101,6,255,11,103,101,116,99,111,100,101,115,105,122,101,9,16,95,115,114,101,46,103,101,116,99,111,100,101,115,105,122,101,6,256,13,97,115,99,105,105,95,105,115,99,97,115,101,100,9,18,95,115,114,101,46,97,115,99,105,105,95,105,115,99,97,115,101,100,6,257,15,117,110,105,99,111,100,101,95,105,115,99,97,115,101,100,9,20,95,115,114,101,46,117,110,105,99,111,100,101,95,105,115,99,97,115,101,100,6,258,13,97,115,99,105,105,95,116,111,108,111,119,101,114,9,18,95,115,114,101,46,97,115,99,105,105,95,116,111,108,111,119,101,114,6,259,15,117,110,105,99,111,100,101,95,116,111,108,111,119,101,114,9,20,95,115,114,101,46,117,110,105,99,111,100,101,95,116,111,108,111,119,101,114,6,261,5,77,65,71,73,67,4,260,0,20230612,6,263,8,67,79,68,69,83,73,90,69,4,262,0,4,6,265,9,77,65,88,82,69,80,69,65,84,4,264,0,4294967295,6,267,9,77,65,88,71,82,79,85,80,83,4,266,0,1073741823,6,269,9,99,111,112,121,114,105,103,104,116,6,268,53,32,83,82,69,32,50,46,50,46,50,32,67,111,112,121,114,105,103,104,116,32,40,99,41,32,49,57,57,55,45,50,48,48,50,32,98,121,32,83,101,99,114,101,116,32,76,97,98,115,32,65,66,32]) 0),(.bool true),(.bool false),(sv "_sre" 271),(iv 29),(.str (Str.mk #[6,355,8,95,95,110,97,109,101,95,95,6,354,7,95,98,105,115,101,99,116,6,356,7,95,95,100,111,99,95,95,9,26,95,98,105,115,101,99,116,46,95,95,100,111,99,95,95,58,115,116,114,35,111,112,97,113,117,101,6,358,11,95,95,112,97,99,107,97,103,101,95,95,6,357,0,6,359,10,95,95,108,111,97,100,101,114,95,95,4,0,0,45,6,360,8,95,95,115,112,101,99,95,95,4,0,0,48,6,361,12,98,105,115,101,99,116,95,114,105,103,104,116,9,20,95,98,105,115,101,99,116,46,98,105,115,101,99,116,95,114,105,103,104,116,6,362,12,105,110,115,111,114,116,95,114,105,103,104,116,9,20,95,98,105,115,101,99,116,46,105,110,115,111,114,116,95,114,105,103,104,116,6,363,11,98,105,115,101,99,116,95,108,101,102,116,9,19,95,98,105,115,101,99,116,46,98,105,115,101,99,116,95,108,101,102,116,6,364,11,105,110,115,111,114,116,95,108,101,102,116,9,19,95,98,105,115,101,99,116,46,105,110,115,111,114,116,95,108,101,102,116,6,365,8,95,95,102,105,108,101,95,95,6,282,126,47,110,105,120,47,115,116,111,114,101,47,119,106,49,102,53,54,113,107,121,52,112,109,106,99,55,108,48,114,54,98,54,108,55,119,104,110,110,119,55,104,112,54,45,112,121,116,104,111,110,51,45,51,46,49,51,46,49,53,47,108,105,98,47,112,121,116,104,111,110,51,46,49,51,47,108,105,98,45,100,121,110,108,111,97,100,47,95,98,105,115,101,99,116,46,99,112,121,116,104,111,110,45,51,49,51,45,120,56,54,95,54,52,45,108,105,110,117,120,45,103,110,117,46,115,111]) 0),(.bool true),(.bool false),(sv "_bisect" 367)].toArray 1),[].toArray⟩,nt 277 ["bisect_left","bisect_right"],di 10 ([es "__name__" 355 "_bisect" 354,eb "__doc__" 356 "off-the-table:_bisect.__doc__:shared#opaque",es "__package__" 358 "" 357]++eH "off-the-table:_bisect." ":shared#opaque" 359 ["__loader__","__spec__"]++eH "_bisect." "" 361 ["bisect_right","insort_right","bisect_left","insort_left"]++[ev "__file__" 365 (.str (Str.mk #[47,110,105,120,47,115,116,111,114,101,47,119,106,49,102,53,54,113,107,121,52,112,109,106,99,55,108,48,114,54,98,54,108,55,119,104,110,110,119,55,104,112,54,45,112,121,116,104,111,110,51,45,51,46,49,51,46,49,53,47,108,105,98,47,112,121,116,104,111,110,51,46,49,51,47,108,105,98,45,100,121,110,108,111,97,100,47,95,98,105,115,101,99,116,46,99,112,121,116,104,111,110,45,51,49,51,45,120,56,54,95,54,52,45,108,105,110,117,120,45,103,110,117,46,115,111]) 282)]),ob ⟨(.type "module"),some 29,.plain,[].toArray⟩,di 2 [es "name" 284 "_bisect" 283,ev "path" 285 (.str (Str.mk #[47,110,105,120,47,115,116,111,114,101,47,119,106,49,102,53,54,113,107,121,52,112,109,106,99,55,108,48,114,54,98,54,108,55,119,104,110,110,119,55,104,112,54,45,112,121,116,104,111,110,51,45,51,46,49,51,46,49,53,47,108,105,98,47,112,121,116,104,111,110,51,46,49,51,47,108,105,98,45,100,121,110,108,111,97,100,47,95,98,105,115,101,99,116,46,99,112,121,116,104,111,110,45,51,49,51,45,120,56,54,95,54,52,45,108,105,110,117,120,45,103,110,117,46,115,111]) 282)],di 10 ([es "__module__" 289 "_frozen_importlib_external" 287,ev "__firstlineno__" 290 (.int 1001 288),eb "__doc__" 291 "_frozen_importlib_external._LoaderBasics.__doc__:str#opaque"]++eH "_frozen_importlib_external._LoaderBasics." "#opaque" 292 ["is_package","create_module","exec_module","load_module"]++[er "__static_attributes__" 296 34,er "__dict__" 298 35,er "__weakref__" 300 36]),ty "_LoaderBasics" [(.type "object")] [(.ref 33),(.type "object")] 32 [(.ref 43)] [],q0,gd 297 (.ref 33),gw 299 (.ref 33),di 13 ([es "__module__" 307 "_frozen_importlib_external" 303,ev "__firstlineno__" 308 (.int 1176 304),eb "__doc__" 309 "_frozen_importlib_external.FileLoader.__doc__:str#opaque"]++eH "_frozen_importlib_external.FileLoader." "#opaque" 310 ["__init__","__eq__","__hash__","load_module","get_filename","get_data","get_resource_reader"]++[er "__static_attributes__" 317 39,er "__dict__" 319 40,er "__weakref__" 321 41]),ty "FileLoader" [(.type "object")] [(.ref 38),(.type "object")] 37 [(.ref 43)] [],nt 305 ["name","path"],gd 318 (.ref 38),gw 320 (.ref 38),di 13 ([es "__module__" 328 "_frozen_importlib_external" 324,ev "__firstlineno__" 329 (.int 1296 325),eb "__doc__" 330 "_frozen_importlib_external.ExtensionFileLoader.__doc__:str#opaque"]++eH "_frozen_importlib_external.ExtensionFileLoader." "#opaque" 331 ["__init__","__eq__","__hash__","create_module","exec_module","is_package","get_code","get_source","get_filename"]++[er "__static_attributes__" 340 44]),ty "ExtensionFileLoader" [(.ref 38),(.ref 33)] [(.ref 43),(.ref 38),(.ref 33),(.type "object")] 42 [] [],nt 326 ["name","path"],ob ⟨(.ref 43),some 31,.plain,[].toArray⟩,ob ⟨(.type "list"),none,(.seq [].toArray 0),[].toArray⟩,di 9 [es "name" 343 "_bisect" 342,er "loader" 344 45,ev "origin" 345 (.str (Str.mk #[47,110,105,120,47,115,116,111,114,101,47,119,106,49,102,53,54,113,107,121,52,112,109,106,99,55,108,48,114,54,98,54,108,55,119,104,110,110,119,55,104,112,54,45,112,121,116,104,111,110,51,45,51,46,49,51,46,49,53,47,108,105,98,47,112,121,116,104,111,110,51,46,49,51,47,108,105,98,45,100,121,110,108,111,97,100,47,95,98,105,115,101,99,116,46,99,112,121,116,104,111,110,45,51,49,51,45,120,56,54,95,54,52,45,108,105,110,117,120,45,103,110,117,46,115,111]) 282),ev "loader_state" 346 .none,ev "submodule_search_locations" 347 .none,er "_uninitialized_submodules" 348 46,ev "_set_fileattr" 349 (.bool true),ev "_cached" 350 .none,ev "_initializing" 351 (.bool false)],ob ⟨(.ref 22),some 47,.plain,[].toArray⟩,q0,XE 171,cc "<module>" "<module>" 378 1 49 381,fm 51 3 "__main__" 164],du (Ql 2) "_wall" 53 383 3 1 0 3 ["k"] [] mm .none none,[qt [(.type "list"),(.type "tuple"),(.type "str"),(.type "bytes")]],du (Ql 7) "copied" 61 396 10 1 0 3 [] [] mr .none none,[di 7 [es "\"" 402 "\\\"" 403,es "\\" 404 "\\\\" 405,es "\n" 406 "\\n" 407,es "\x0d" 408 "\\r" 409,es "\t" 410 "\\t" 411,es "\x0c" 412 "\\f" 413,es "\x08" 414 "\\b" 415]],du (Ql 9) "_escaped" 67 424 17 1 0 3 ["sign"] [] mr .none none,du (Ql 10) "dumps" 74 431 23 1 0 3 [] [] mr .none none,[q0,bm "type.__prepare__" (.type "type"),di 8 [es "__module__" 444 "jsonrows" 390,es "__qualname__" 446 "SequenceMatcher" 445,ev "__firstlineno__" 448 (.int 33 447),er "__init__" 459 93,er "find_longest_match" 465 98,er "opcodes" 480 105,er "get_opcodes" 487 112,er "__static_attributes__" 490 113],q0,qf [(iv 35),(iv 4),(.ref 92),(iv 38),(iv 4),(.ref 97),(iv 47),(iv 4),(.ref 104),(iv 54),(iv 4),(.ref 111)],cc "SequenceMatcher" "SequenceMatcher" 439 33 82 442,fm 84 81 "jsonrows" 390,qt [(.bool true)]],du (Qb 11 0) "SequenceMatcher.__init__" 87 449 35 5 0 3 ["self","isjunk","a","b","autojunk"] [] mr (.ref 86) none,du (Qb 11 1) "SequenceMatcher.find_longest_match" 94 460 38 5 0 3 [] [] mr .none none,du (Qb 11 2) "SequenceMatcher.opcodes" 99 466 47 5 0 3 ["self","alo","ahi","blo","bhi","i","j","size","tag"] [] mr .none none,du (Qb 11 3) "SequenceMatcher.get_opcodes" 106 481 54 1 0 3 ["self"] [] mr .none none,[nt 488 ["a","b"],di 4 [es "__module__" 444 "jsonrows" 390,ev "__firstlineno__" 448 (.int 33 447),er "__init__" 459 93,er "find_longest_match" 465 98,er "opcodes" 480 105,er "get_opcodes" 487 112,er "__static_attributes__" 490 113,er "__dict__" 492 116,er "__weakref__" 494 117,ev "__doc__" 495 .none],ty "SequenceMatcher" [(.type "object")] [(.ref 115),(.type "object")] 114 [] [none,none,some (sv "SequenceMatcher" 437),some (sv "SequenceMatcher" 445),some (.builtin "object.__new__"),some (.bool true)],gd 491 (.ref 115),gw 493 (.ref 115),su (.ref 115),bm "object.__init_subclass__" (.ref 115),ob ⟨(.type "list"),none,(.seq [(.int 14 503),(.int 4 504),(.int 0 505),(.int 1 506),(.int 4294967295 507),(.int 7 508),(.int 5 509),(.int 16 510),(.int 48 511),(.int 15 512),(.int 22 513),(.int 20 514),(.int 13 515),(.int 5 516),(.int 22 517),(.int 49 518),(.int 57 519),(.int 0 520),(.int 24 521),(.int 10 522),(.int 0 523),(.int 4294967295 524),(.int 13 525),(.int 5 526),(.int 22 527),(.int 48 528),(.int 57 529),(.int 0 530),(.int 1 531),(.int 15 532),(.int 2 533),(.int 0 534),(.int 1 535)].toArray 0),[].toArray⟩,di 0 [],qt [.none],qt [(iv 14),(iv 4),(iv 0),(iv 1),(iv 4294967295),(iv 7),(iv 5),(iv 16),(iv 48),(iv 15),(iv 22),(iv 20),(iv 13),(iv 5),(iv 22),(iv 49),(iv 57),(iv 0),(iv 24),(iv 10),(iv 0),(iv 4294967295),(iv 13),(iv 5),(iv 22),(iv 48),(iv 57),(iv 0),(iv 1),(iv 15),(iv 2),(iv 0),(iv 1)],ob ⟨(.type "re.Pattern"),none,(.fields [(sv "0|[1-9][0-9]*" 501),(.int 32 537),(iv 0),.none,.none,(.ref 123),(iv 0)].toArray),[].toArray⟩,ob ⟨(.type "list"),none,(.seq [(.int 14 542),(.int 8 543),(.int 1 544),(.int 1 545),(.int 2 546),(.int 1 547),(.int 0 548),(.int 126 549),(.int 0 550),(.int 17 551),(.int 0 552),(.int 16 553),(.int 126 554),(.int 7 555),(.int 10 556),(.int 13 557),(.int 6 558),(.int 21 559),(.int 22 560),(.int 48 561),(.int 49 562),(.int 0 563),(.int 15 564),(.int 7 565),(.int 5 566),(.int 6 567),(.int 5 568),(.int 15 569),(.int 2 570),(.int 0 571),(.int 17 572),(.int 1 573),(.int 1 574)].toArray 0),[].toArray⟩,di 0 [],qt [.none,.none],qt [(iv 14),(iv 8),(iv 1),(iv 1),(iv 2),(iv 1),(iv 0),(iv 126),(iv 0),(iv 17),(iv 0),(iv 16),(iv 126),(iv 7),(iv 10),(iv 13),(iv 6),(iv 21),(iv 22),(iv 48),(iv 49),(iv 0),(iv 15),(iv 7),(iv 5),(iv 6),(iv 5),(iv 15),(iv 2),(iv 0),(iv 17),(iv 1),(iv 1)],ob ⟨(.type "re.Pattern"),none,(.fields [(sv "(~[^01]|~$)" 540),(.int 32 576),(iv 1),.none,.none,(.ref 128),(iv 0)].toArray),[].toArray⟩,ob ⟨(.type "object"),none,.plain,[].toArray⟩,qt [(.type "Exception")],bm "type.__prepare__" (.type "type"),di 4 [es "__module__" 587 "jsonpointer" 498,es "__qualname__" 589 "JsonPointerException" 588,ev "__firstlineno__" 591 (.int 61 590),er "__static_attributes__" 592 138],q0,f0,cc "JsonPointerException" "JsonPointerException" 582 61 134 585,fm 136 133 "jsonpointer" 498,q0,di 3 [es "__module__" 587 "jsonpointer" 498,ev "__firstlineno__" 591 (.int 61 590),er "__static_attributes__" 592 138,er "__weakref__" 594 141,ev "__doc__" 595 .none],ty "JsonPointerException" [(.type "Exception")] [(.ref 140),(.type "Exception"),(.type "BaseException"),(.type "object")] 139 [] [some (.ref 131),none,some (sv "JsonPointerException" 580),some (sv "JsonPointerException" 588),some (.builtin "Exception.__new__"),some (.bool true)],gw 593 (.ref 140),su (.ref 140),bm "object.__init_subclass__" (.ref 140),q0,bm "type.__prepare__" (.type "type"),di 6 [es "__module__" 607 "jsonpointer" 498,es "__qualname__" 609 "EndOfList" 608,ev "__firstlineno__" 611 (.int 63 610),er "__init__" 619 157,er "__repr__" 626 164,er "__static_attributes__" 628 165],q0,qf [(iv 65),(iv 4),(.ref 156),(iv 68),(iv 4),(.ref 163)],cc "EndOfList" "EndOfList" 602 63 147 605,fm 149 146 "jsonpointer" 498],du (Qb 18 0) "EndOfList.__init__" 151 612 65 2 0 3 ["self","list_"] [] mp .none none,du (Qb 18 1) "EndOfList.__repr__" 158 620 68 1 0 3 ["self"] [] mp .none none,[nt 627 ["list_"],di 4 [es "__module__" 607 "jsonpointer" 498,ev "__firstlineno__" 611 (.int 63 610),er "__init__" 619 157,er "__repr__" 626 164,er "__static_attributes__" 628 165,er "__dict__" 630 168,er "__weakref__" 632 169,ev "__doc__" 633 .none],ty "EndOfList" [(.type "object")] [(.ref 167),(.type "object")] 166 [] [none,none,some (sv "EndOfList" 600),some (sv "EndOfList" 608),some (.builtin "object.__new__"),some (.bool true)],gd 629 (.ref 167),gw 631 (.ref 167),su (.ref 167),bm "object.__init_subclass__" (.ref 167),q0,bm "type.__prepare__" (.type "type"),di 27 [es "__module__" 643 "jsonpointer" 498,es "__qualname__" 645 "JsonPointer" 644,ev "__firstlineno__" 647 (.int 70 646),er "_RE_ARRAY_INDEX" 648 124,er "_RE_INVALID_ESCAPE" 649 129,er "__init__" 655 183,er "to_last" 664 190,er "resolve" 674 198,er "get" 675 198,er "set" 691 206,er "_get_create_part" 712 215,er "_is_missing" 732 225,er "_set_child" 754 235,er "get_part" 776 245,er "get_parts" 783 253,er "walk" 792 260,er "contains" 800 267,er "__contains__" 808 274,er "join" 818 281,er "__truediv__" 826 288,er "path" 833 294,er "__eq__" 841 301,er "__hash__" 848 308,er "__str__" 855 315,er "__repr__" 862 322,er "from_parts" 880 329,er "__static_attributes__" 882 331],q0,qf [(iv 74),(iv 4),(.ref 182),(iv 86),(iv 4),(.ref 189),(iv 93),(iv 4),(.ref 197),(iv 105),(iv 4),(.ref 205),(iv 130),(iv 4),(.ref 212),(iv 137),(iv 4),(.ref 222),(iv 145),(iv 4),(.ref 232),(iv 160),(iv 4),(.ref 242),(iv 179),(iv 4),(.ref 252),(iv 182),(iv 4),(.ref 259),(iv 201),(iv 4),(.ref 266),(iv 204),(iv 4),(.ref 273),(iv 207),(iv 4),(.ref 280),(iv 219),(iv 4),(.ref 287),(iv 223),(iv 4),(.ref 292),(iv 227),(iv 4),(.ref 300),(iv 232),(iv 4),(.ref 307),(iv 235),(iv 4),(.ref 314),(iv 238),(iv 4),(.ref 321),(iv 242),(iv 4),(.ref 326)],cc "JsonPointer" "JsonPointer" 638 70 175 641,fm 177 174 "jsonpointer" 498],du (Qb 19 2) "JsonPointer.__init__" 179 650 74 2 0 3 [] [] mp .none none,du (Qb 19 3) "JsonPointer.to_last" 184 656 86 2 0 3 ["self","doc","part"] [] mp .none none,[qt [(.ref 130)]],du (Qb 19 4) "JsonPointer.resolve" 192 665 93 3 0 3 ["self","doc","default","part"] [] mp (.ref 191) none,[qt [(.bool true),(.bool false)]],du (Qb 19 6) "JsonPointer.set" 200 676 105 5 0 3 ["self","doc","value","inplace","create","parent","i","part","child","missing"] [] mp (.ref 199) none,du (Qb 19 7) "JsonPointer._get_create_part" 207 692 129 3 0 3 ["cls","doc","part"] [] mp .none (some 216),[di 5 [es "__module__" 701 "jsonpointer" 498,es "__name__" 704 "_get_create_part" 703,es "__qualname__" 707 "JsonPointer._get_create_part" 706,ev "__doc__" 709 .none,er "__annotations__" 711 216],ob ⟨(.type "classmethod"),some 214,(.fields [(.ref 213),(.bool false)].toArray),[].toArray⟩,di 0 []],du (Qb 19 8) "JsonPointer._is_missing" 217 713 136 2 0 3 ["doc","part"] [] mp .none (some 226),[di 5 [es "__module__" 721 "jsonpointer" 498,es "__name__" 724 "_is_missing" 723,es "__qualname__" 727 "JsonPointer._is_missing" 726,ev "__doc__" 729 .none,er "__annotations__" 731 226],ob ⟨(.type "staticmethod"),some 224,(.fields [(.ref 223),(.bool false)].toArray),[].toArray⟩,di 0 []],du (Qb 19 9) "JsonPointer._set_child" 227 733 144 3 0 3 ["parent","part","value","e"] [] mp .none (some 236),[di 5 [es "__module__" 743 "jsonpointer" 498,es "__name__" 746 "_set_child" 745,es "__qualname__" 749 "JsonPointer._set_child" 748,ev "__doc__" 751 .none,er "__annotations__" 753 236],ob ⟨(.type "staticmethod"),some 234,(.fields [(.ref 233),(.bool false)].toArray),[].toArray⟩,di 0 []],du (Qb 19 10) "JsonPointer.get_part" 237 755 159 3 0 3 ["cls","doc","part","e"] [] mp .none (some 246),[di 5 [es "__module__" 765 "jsonpointer" 498,es "__name__" 768 "get_part" 767,es "__qualname__" 771 "JsonPointer.get_part" 770,ev "__doc__" 773 .none,er "__annotations__" 775 246],ob ⟨(.type "classmethod"),some 244,(.fields [(.ref 243),(.bool false)].toArray),[].toArray⟩,di 0 []],du (Qb 19 11) "JsonPointer.get_parts" 247 777 179 1 0 3 ["self"] [] mp .none none,du (Qb 19 12) "JsonPointer.walk" 254 784 182 3 0 3 ["self","doc","part"] [] mp .none none,du (Qb 19 13) "JsonPointer.contains" 261 793 201 2 0 3 ["self","ptr"] [] mp .none none,du (Qb 19 14) "JsonPointer.__contains__" 268 801 204 2 0 3 ["self","item"] [] mp .none none,du (Qb 19 15) "JsonPointer.join" 275 809 207 2 0 3 ["self","suffix","suffix_parts","e"] [] mp .none none,du (Qb 19 16) "JsonPointer.__truediv__" 282 819 219 2 0 3 ["self","suffix"] [] mp .none none,du (Qb 19 17) "JsonPointer.path" 289 827 222 1 0 3 [] [] mp .none none,[ob ⟨(.type "property"),none,(.fields [(.ref 293),.none,.none,.none,(sv "path" 833),(.bool false)].toArray),[].toArray⟩],du (Qb 19 18) "JsonPointer.__eq__" 295 834 227 2 0 3 ["self","other"] [] mp .none none,du (Qb 19 19) "JsonPointer.__hash__" 302 842 232 1 0 3 ["self"] [] mp .none none,du (Qb 19 20) "JsonPointer.__str__" 309 849 235 1 0 3 ["self"] [] mp .none none,du (Qb 19 21) "JsonPointer.__repr__" 316 856 238 1 0 3 ["self"] [] mp .none none,du (Qb 19 22) "JsonPointer.from_parts" 323 863 241 2 0 3 [] [] mp .none (some 330),[di 5 [es "__module__" 869 "jsonpointer" 498,es "__name__" 872 "from_parts" 871,es "__qualname__" 875 "JsonPointer.from_parts" 874,ev "__doc__" 877 .none,er "__annotations__" 879 330],ob ⟨(.type "classmethod"),some 328,(.fields [(.ref 327),(.bool false)].toArray),[].toArray⟩,di 0 [],nt 881 ["parts"],di 4 [es "__module__" 643 "jsonpointer" 498,ev "__firstlineno__" 647 (.int 70 646),er "_RE_ARRAY_INDEX" 648 124,er "_RE_INVALID_ESCAPE" 649 129,er "__init__" 655 183,er "to_last" 664 190,er "resolve" 674 198,er "get" 675 198,er "set" 691 206,er "_get_create_part" 712 215,er "_is_missing" 732 225,er "_set_child" 754 235,er "get_part" 776 245,er "get_parts" 783 253,er "walk" 792 260,er "contains" 800 267,er "__contains__" 808 274,er "join" 818 281,er "__truediv__" 826 288,er "path" 833 294,er "__eq__" 841 301,er "__hash__" 848 308,er "__str__" 855 315,er "__repr__" 862 322,er "from_parts" 880 329,er "__static_attributes__" 882 331,er "__dict__" 884 334,er "__weakref__" 886 335,ev "__doc__" 887 .none],ty "JsonPointer" [(.type "object")] [(.ref 333),(.type "object")] 332 [] [none,none,some (sv "JsonPointer" 636),some (sv "JsonPointer" 644),some (.builtin "object.__new__"),some (.bool true)],gd 883 (.ref 333),gw 885 (.ref 333),su (.ref 333),bm "object.__init_subclass__" (.ref 333)],du (Ql 20) "escape" 338 890 246 1 0 3 ["s"] [] mp .none none,du (Ql 21) "unescape" 345 897 248 1 0 3 ["s"] [] mp .none none,[qt [(.type "Exception")],bm "type.__prepare__" (.type "type"),di 6 [es "__module__" 921 "jsonpatch" 904,es "__qualname__" 923 "JsonPatchException" 922,ev "__firstlineno__" 925 (.int 254 924),er "__init__" 935 367,er "__static_attributes__" 937 368,er "__classcell__" 938 355],ob ⟨(.type "cell"),none,(.cell (some (.ref 370))),[].toArray⟩,q0,qf [(iv 256),(iv 4),(.ref 366)],cc "JsonPatchException" "JsonPatchException" 916 254 356 919,fm 358 354 "jsonpatch" 904,qt [(.ref 355)],nt 929 ["__class__"],f0,nt 930 ["self","args","kwargs"],q0,tb (Qb 26 0) "JsonPatchException.__init__",ob ⟨(.type "code"),none,(.fields [(sv "__init__" 926),(sv "JsonPatchException.__init__" 927),(sv "/claim/cut.py" 928),(iv 256),(iv 1),(iv 0),(iv 0),(iv 15),(.ref 361),(.bool true),(iv 377),(.ref 362),.none,(.ref 363),(.ref 364),(.ref 365),(iv 933),(iv 256),(sv "/claim/cut.py" 934)].toArray),[].toArray⟩,ob ⟨(.type "function"),none,(Qlo "__class__" 355 (Qb 26 0) "JsonPatchException.__init__" .none .none .none (sv "jsonpatch" 904) none (.ref 366) (.ref 360)),[].toArray⟩,nt 936 ["op"],di 4 [es "__module__" 921 "jsonpatch" 904,ev "__firstlineno__" 925 (.int 254 924),er "__init__" 935 367,er "__static_attributes__" 937 368,er "__weakref__" 940 371,ev "__doc__" 941 .none],ty "JsonPatchException" [(.type "Exception")] [(.ref 370),(.type "Exception"),(.type "BaseException"),(.type "object")] 369 [(.ref 383),(.ref 395),(.ref 419)] [some (.ref 352),none,some (sv "JsonPatchException" 914),some (sv "JsonPatchException" 922),some (.builtin "Exception.__new__"),some (.bool true)],gw 939 (.ref 370),su (.ref 370),bm "object.__init_subclass__" (.ref 370),qt [(.ref 370)],bm "type.__prepare__" (.type "type"),di 4 [es "__module__" 953 "jsonpatch" 904,es "__qualname__" 955 "InvalidJsonPatch" 954,ev "__firstlineno__" 957 (.int 259 956),er "__static_attributes__" 958 381],q0,f0,cc "InvalidJsonPatch" "InvalidJsonPatch" 948 259 377 951,fm 379 376 "jsonpatch" 904,q0,di 2 [es "__module__" 953 "jsonpatch" 904,ev "__firstlineno__" 957 (.int 259 956),er "__static_attributes__" 958 381,ev "__doc__" 959 .none],ty "InvalidJsonPatch" [(.ref 370)] [(.ref 383),(.ref 370),(.type "Exception"),(.type "BaseException"),(.type "object")] 382 [] [some (.ref 374),none,some (sv "InvalidJsonPatch" 946),some (sv "InvalidJsonPatch" 954),some (.builtin "Exception.__new__"),some (.bool true)],su (.ref 383),bm "object.__init_subclass__" (.ref 383),qt [(.ref 370)],bm "type.__prepare__" (.type "type"),di 4 [es "__module__" 969 "jsonpatch" 904,es "__qualname__" 971 "JsonPatchConflict" 970,ev "__firstlineno__" 973 (.int 261 972),er "__static_attributes__" 974 393],q0,f0,cc "JsonPatchConflict" "JsonPatchConflict" 964 261 389 967,fm 391 388 "jsonpatch" 904,q0,di 2 [es "__module__" 969 "jsonpatch" 904,ev "__firstlineno__" 973 (.int 261 972),er "__static_attributes__" 974 393,ev "__doc__" 975 .none],ty "JsonPatchConflict" [(.ref 370)] [(.ref 395),(.ref 370),(.type "Exception"),(.type "BaseException"),(.type "object")] 394 [(.ref 407)] [some (.ref 386),none,some (sv "JsonPatchConflict" 962),some (sv "JsonPatchConflict" 970),some (.builtin "Exception.__new__"),some (.bool true)],su (.ref 395),bm "object.__init_subclass__" (.ref 395),qt [(.ref 395)],bm "type.__prepare__" (.type "type"),di 4 [es "__module__" 985 "jsonpatch" 904,es "__qualname__" 987 "JsonPatchPathNotFound" 986,ev "__firstlineno__" 989 (.int 263 988),er "__static_attributes__" 990 405],q0,f0,cc "JsonPatchPathNotFound" "JsonPatchPathNotFound" 980 263 401 983,fm 403 400 "jsonpatch" 904,q0,di 2 [es "__module__" 985 "jsonpatch" 904,ev "__firstlineno__" 989 (.int 263 988),er "__static_attributes__" 990 405,ev "__doc__" 991 .none],ty "JsonPatchPathNotFound" [(.ref 395)] [(.ref 407),(.ref 395),(.ref 370),(.type "Exception"),(.type "BaseException"),(.type "object")] 406 [] [some (.ref 398),none,some (sv "JsonPatchPathNotFound" 978),some (sv "JsonPatchPathNotFound" 986),some (.builtin "Exception.__new__"),some (.bool true)],su (.ref 407),bm "object.__init_subclass__" (.ref 407),qt [(.ref 370),(.type "AssertionError")],bm "type.__prepare__" (.type "type"),di 4 [es "__module__" 1001 "jsonpatch" 904,es "__qualname__" 1003 "JsonPatchTestFailed" 1002,ev "__firstlineno__" 1005 (.int 265 1004),er "__static_attributes__" 1006 417],q0,f0,cc "JsonPatchTestFailed" "JsonPatchTestFailed" 996 265 413 999,fm 415 412 "jsonpatch" 904,q0,di 2 [es "__module__" 1001 "jsonpatch" 904,ev "__firstlineno__" 1005 (.int 265 1004),er "__static_attributes__" 1006 417,ev "__doc__" 1007 .none],ty "JsonPatchTestFailed" [(.ref 370),(.type "AssertionError")] [(.ref 419),(.ref 370),(.type "AssertionError"),(.type "Exception"),(.type "BaseException"),(.type "object")] 418 [] [some (.ref 410),none,some (sv "JsonPatchTestFailed" 994),some (sv "JsonPatchTestFailed" 1002),some (.builtin "Exception.__new__"),some (.bool true)],su (.ref 419),bm "object.__init_subclass__" (.ref 419),qt [(.ref 333)]],du (Ql 31) "path_join" 423 1012 267 2 0 3 ["parts","pointer_cls"] [] mj (.ref 422) none,[q0,bm "type.__prepare__" (.type "type"),di 8 [es "__module__" 1027 "jsonpatch" 904,es "__qualname__" 1029 "_NullJournal" 1028,ev "__firstlineno__" 1031 (.int 269 1030),er "setitem" 1052 445,er "delitem" 1072 455,er "insert" 1093 465,er "append" 1113 475,er "__static_attributes__" 1114 477],q0,qf [(iv 272),(iv 4),(.ref 442),(iv 276),(iv 4),(.ref 452),(iv 280),(iv 4),(.ref 462),(iv 284),(iv 4),(.ref 472)],cc "_NullJournal" "_NullJournal" 1022 269 433 1025,fm 435 432 "jsonpatch" 904],du (Qb 32 0) "_NullJournal.setitem" 437 1032 271 3 0 3 ["container","key","value"] [] mj .none (some 446),[di 5 [es "__module__" 1041 "jsonpatch" 904,es "__name__" 1044 "setitem" 1043,es "__qualname__" 1047 "_NullJournal.setitem" 1046,ev "__doc__" 1049 .none,er "__annotations__" 1051 446],ob ⟨(.type "staticmethod"),some 444,(.fields [(.ref 443),(.bool false)].toArray),[].toArray⟩,di 0 []],du (Qb 32 1) "_NullJournal.delitem" 447 1053 275 2 0 3 ["container","key"] [] mj .none (some 456),[di 5 [es "__module__" 1061 "jsonpatch" 904,es "__name__" 1064 "delitem" 1063,es "__qualname__" 1067 "_NullJournal.delitem" 1066,ev "__doc__" 1069 .none,er "__annotations__" 1071 456],ob ⟨(.type "staticmethod"),some 454,(.fields [(.ref 453),(.bool false)].toArray),[].toArray⟩,di 0 []],du (Qb 32 2) "_NullJournal.insert" 457 1073 279 3 0 3 ["container","index","value"] [] mj .none (some 466),[di 5 [es "__module__" 1082 "jsonpatch" 904,es "__name__" 1085 "insert" 1084,es "__qualname__" 1088 "_NullJournal.insert" 1087,ev "__doc__" 1090 .none,er "__annotations__" 1092 466],ob ⟨(.type "staticmethod"),some 464,(.fields [(.ref 463),(.bool false)].toArray),[].toArray⟩,di 0 []],du (Qb 32 3) "_NullJournal.append" 467 1094 283 2 0 3 ["container","value"] [] mj .none (some 476),[di 5 [es "__module__" 1102 "jsonpatch" 904,es "__name__" 1105 "append" 1104,es "__qualname__" 1108 "_NullJournal.append" 1107,ev "__doc__" 1110 .none,er "__annotations__" 1112 476],ob ⟨(.type "staticmethod"),some 474,(.fields [(.ref 473),(.bool false)].toArray),[].toArray⟩,di 0 [],q0,di 4 [es "__module__" 1027 "jsonpatch" 904,ev "__firstlineno__" 1031 (.int 269 1030),er "setitem" 1052 445,er "delitem" 1072 455,er "insert" 1093 465,er "append" 1113 475,er "__static_attributes__" 1114 477,er "__dict__" 1116 480,er "__weakref__" 1118 481,ev "__doc__" 1119 .none],ty "_NullJournal" [(.type "object")] [(.ref 479),(.type "object")] 478 [] [none,none,some (sv "_NullJournal" 1020),some (sv "_NullJournal" 1028),some (.builtin "object.__new__"),some (.bool true)],gd 1115 (.ref 479),gw 1117 (.ref 479),su (.ref 479),bm "object.__init_subclass__" (.ref 479),di 0 [],ob ⟨(.ref 479),some 484,.plain,[].toArray⟩,q0,bm "type.__prepare__" (.type "type"),di 10 [es "__module__" 1130 "jsonpatch" 904,es "__qualname__" 1132 "_Journal" 1131,ev "__firstlineno__" 1134 (.int 287 1133),er "__init__" 1141 499,er "setitem" 1152 506,er "delitem" 1163 513,er "insert" 1173 520,er "append" 1182 527,er "rollback" 1192 534,er "__static_attributes__" 1195 535],q0,qf [(iv 289),(iv 4),(.ref 498),(iv 293),(iv 4),(.ref 505),(iv 302),(iv 4),(.ref 512),(iv 318),(iv 4),(.ref 519),(iv 322),(iv 4),(.ref 526),(iv 326),(iv 4),(.ref 533)],cc "_Journal" "_Journal" 1125 287 489 1128,fm 491 488 "jsonpatch" 904],du (Qb 34 0) "_Journal.__init__" 493 1135 289 1 0 3 ["self"] [] mj .none none,du (Qb 34 1) "_Journal.setitem" 500 1142 293 4 0 3 ["self","container","key","value","old"] [] mj .none none,du (Qb 34 2) "_Journal.delitem" 507 1153 302 3 0 3 ["self","container","key","old"] ["container"] mj .none none,du (Qb 34 3) "_Journal.insert" 514 1164 318 4 0 3 ["self","container","index","value"] [] mj .none none,du (Qb 34 4) "_Journal.append" 521 1174 322 3 0 3 ["self","container","value"] [] mj .none none,du (Qb 34 5) "_Journal.rollback" 528 1183 326 1 0 3 ["self","step","mapping","keys"] [] mj .none none,[nt 1193 ["_orders","_undo"],di 4 [es "__module__" 1130 "jsonpatch" 904,ev "__firstlineno__" 1134 (.int 287 1133),er "__init__" 1141 499,er "setitem" 1152 506,er "delitem" 1163 513,er "insert" 1173 520,er "append" 1182 527,er "rollback" 1192 534,er "__static_attributes__" 1195 535,er "__dict__" 1197 538,er "__weakref__" 1199 539,ev "__doc__" 1200 .none],ty "_Journal" [(.type "object")] [(.ref 537),(.type "object")] 536 [] [none,none,some (sv "_Journal" 1123),some (sv "_Journal" 1131),some (.builtin "object.__new__"),some (.bool true)],gd 1196 (.ref 537),gw 1198 (.ref 537),su (.ref 537),bm "object.__init_subclass__" (.ref 537)],du (Ql 35) "_undo_setitem" 542 1203 333 3 0 3 ["container","key","value"] [] mj .none none,du (Ql 36) "_undo_delitem" 549 1212 335 2 0 3 ["container","key"] [] mj .none none,du (Ql 37) "_undo_insert" 556 1220 337 3 0 3 ["container","index","value"] [] mj .none none,du (Ql 38) "_reorder" 563 1229 339 2 0 3 [] [] mj .none none,[q0,bm "type.__prepare__" (.type "type"),di 14 [es "__module__" 1242 "jsonpatch" 904,es "__qualname__" 1244 "PatchOperation" 1243,ev "__firstlineno__" 1246 (.int 344 1245),er "__init__" 1255 582,er "_from_pointer" 1263 589,er "apply" 1271 596,er "_apply" 1280 603,er "__hash__" 1287 610,er "__eq__" 1295 617,er "path" 1303 625,er "key" 1311 642,er "get_part" 1329 649,er "set_part" 1338 656,er "__static_attributes__" 1343 657],q0,qf [(iv 346),(iv 4),(.ref 581),(iv 361),(iv 4),(.ref 588),(iv 373),(iv 4),(.ref 595),(iv 376),(iv 4),(.ref 602),(iv 379),(iv 4),(.ref 609),(iv 382),(iv 4),(.ref 616),(iv 388),(iv 4),(.ref 623),(iv 392),(iv 4),(.ref 631),(iv 396),(iv 4),(.ref 640),(iv 399),(iv 4),(.ref 648),(iv 405),(iv 4),(.ref 655)],cc "PatchOperation" "PatchOperation" 1237 344 571 1240,fm 573 570 "jsonpatch" 904,qt [(.ref 333)]],du (Qb 39 0) "PatchOperation.__init__" 576 1247 346 3 0 3 ["self","operation","pointer_cls"] [] mj (.ref 575) none,du (Qb 39 1) "PatchOperation._from_pointer" 583 1256 361 1 0 3 ["self","from_ptr"] [] mj .none none,du (Qb 39 2) "PatchOperation.apply" 590 1264 373 2 0 3 ["self","obj"] [] mj .none none,du (Qb 39 3) "PatchOperation._apply" 597 1272 376 3 0 3 ["self","obj","journal"] [] mj .none none,du (Qb 39 4) "PatchOperation.__hash__" 604 1281 379 1 0 3 ["self"] [] mj .none none,du (Qb 39 5) "PatchOperation.__eq__" 611 1288 382 2 0 3 ["self","other"] [] mj .none none,du (Qb 39 6) "PatchOperation.path" 618 1296 387 1 0 3 ["self"] [] mj .none none,[ob ⟨(.type "property"),none,(.fields [(.ref 624),.none,.none,.none,(sv "path" 1303),(.bool false)].toArray),[].toArray⟩],du (Qb 39 7) "PatchOperation.key" 626 1304 391 1 0 3 ["self"] [] mj .none none,[ob ⟨(.type "property"),none,(.fields [(.ref 632),.none,.none,.none,(iv 0),(.bool false)].toArray),[].toArray⟩,bm "property.setter" (.ref 633)],du (Qb 39 8) "PatchOperation.key" 635 1313 395 2 0 3 ["self","value"] [] mj .none none,[ob ⟨(.type "property"),none,(.fields [(.ref 632),(.ref 641),.none,.none,(sv "key" 1311),(.bool false)].toArray),[].toArray⟩],du (Qb 39 9) "PatchOperation.get_part" 643 1322 399 2 0 3 ["self","index"] [] mj .none none,du (Qb 39 10) "PatchOperation.set_part" 650 1330 405 3 0 3 ["self","index","value"] [] mj .none none,[nt 1339 ["location","operation","pointer","pointer_cls"],di 4 [es "__module__" 1242 "jsonpatch" 904,ev "__firstlineno__" 1246 (.int 344 1245),er "__init__" 1255 582,er "_from_pointer" 1263 589,er "apply" 1271 596,er "_apply" 1280 603,er "__hash__" 1287 610,er "__eq__" 1295 617,er "path" 1303 625,er "key" 1311 642,er "get_part" 1329 649,er "set_part" 1338 656,er "__static_attributes__" 1343 657,er "__dict__" 1345 660,er "__weakref__" 1347 661,ev "__doc__" 1348 .none],ty "PatchOperation" [(.type "object")] [(.ref 659),(.type "object")] 658 [(.ref 680),(.ref 707),(.ref 726),(.ref 784),(.ref 803),(.ref 822)] [none,none,some (sv "PatchOperation" 1235),some (sv "PatchOperation" 1243),some (.builtin "object.__new__"),some (.bool true)],gd 1344 (.ref 659),gw 1346 (.ref 659),su (.ref 659),bm "object.__init_subclass__" (.ref 659),qt [(.ref 659)],bm "type.__prepare__" (.type "type"),di 5 [es "__module__" 1358 "jsonpatch" 904,es "__qualname__" 1360 "RemoveOperation" 1359,ev "__firstlineno__" 1362 (.int 409 1361),er "_apply" 1375 677,er "__static_attributes__" 1376 678],q0,qf [(iv 411),(iv 4),(.ref 676)],cc "RemoveOperation" "RemoveOperation" 1353 409 667 1356,fm 669 666 "jsonpatch" 904],du (Qb 40 0) "RemoveOperation._apply" 671 1363 411 3 0 3 ["self","obj","journal","subobj","part","msg","ex"] [] mj .none none,[q0,di 2 [es "__module__" 1358 "jsonpatch" 904,ev "__firstlineno__" 1362 (.int 409 1361),er "_apply" 1375 677,er "__static_attributes__" 1376 678,ev "__doc__" 1377 .none],ty "RemoveOperation" [(.ref 659)] [(.ref 680),(.ref 659),(.type "object")] 679 [] [some (.ref 664),none,some (sv "RemoveOperation" 1351),some (sv "RemoveOperation" 1359),some (.builtin "object.__new__"),some (.bool true)],su (.ref 680),bm "object.__init_subclass__" (.ref 680),qt [(.ref 659)],bm "type.__prepare__" (.type "type"),di 6 [es "__module__" 1387 "jsonpatch" 904,es "__qualname__" 1389 "AddOperation" 1388,ev "__firstlineno__" 1391 (.int 425 1390),er "_apply" 1401 696,er "_add" 1413 704,er "__static_attributes__" 1414 705],q0,qf [(iv 427),(iv 4),(.ref 695),(iv 437),(iv 4),(.ref 703)],cc "AddOperation" "AddOperation" 1382 425 686 1385,fm 688 685 "jsonpatch" 904],du (Qb 41 0) "AddOperation._apply" 690 1392 427 3 0 3 ["self","obj","journal","value"] [] mj .none none,[qt [(.ref 485)]],du (Qb 41 1) "AddOperation._add" 698 1402 437 4 0 3 ["self","obj","value","journal","subobj","part"] [] mj (.ref 697) none,[q0,di 2 [es "__module__" 1387 "jsonpatch" 904,ev "__firstlineno__" 1391 (.int 425 1390),er "_apply" 1401 696,er "_add" 1413 704,er "__static_attributes__" 1414 705,ev "__doc__" 1415 .none],ty "AddOperation" [(.ref 659)] [(.ref 707),(.ref 659),(.type "object")] 706 [] [some (.ref 683),none,some (sv "AddOperation" 1380),some (sv "AddOperation" 1388),some (.builtin "object.__new__"),some (.bool true)],su (.ref 707),bm "object.__init_subclass__" (.ref 707),qt [(.ref 659)],bm "type.__prepare__" (.type "type"),di 5 [es "__module__" 1425 "jsonpatch" 904,es "__qualname__" 1427 "ReplaceOperation" 1426,ev "__firstlineno__" 1429 (.int 453 1428),er "_apply" 1442 723,er "__static_attributes__" 1443 724],q0,qf [(iv 455),(iv 4),(.ref 722)],cc "ReplaceOperation" "ReplaceOperation" 1420 453 713 1423,fm 715 712 "jsonpatch" 904],du (Qb 42 0) "ReplaceOperation._apply" 717 1430 455 3 0 3 ["self","obj","journal","value","subobj","part","msg"] [] mj .none none,[q0,di 2 [es "__module__" 1425 "jsonpatch" 904,ev "__firstlineno__" 1429 (.int 453 1428),er "_apply" 1442 723,er "__static_attributes__" 1443 724,ev "__doc__" 1444 .none],ty "ReplaceOperation" [(.ref 659)] [(.ref 726),(.ref 659),(.type "object")] 725 [] [some (.ref 710),none,some (sv "ReplaceOperation" 1418),some (sv "ReplaceOperation" 1426),some (.builtin "object.__new__"),some (.bool true)],su (.ref 726),bm "object.__init_subclass__" (.ref 726),qt [(.ref 659)],bm "type.__prepare__" (.type "type"),di 9 [es "__module__" 1454 "jsonpatch" 904,es "__qualname__" 1456 "MoveOperation" 1455,ev "__firstlineno__" 1458 (.int 477 1457),er "_apply" 1472 742,er "from_path" 1480 750,er "from_key" 1488 767,er "get_from_part" 1507 774,er "set_from_part" 1517 781,er "__static_attributes__" 1518 782],q0,qf [(iv 479),(iv 4),(.ref 741),(iv 501),(iv 4),(.ref 748),(iv 505),(iv 4),(.ref 756),(iv 509),(iv 4),(.ref 765),(iv 512),(iv 4),(.ref 773),(iv 519),(iv 4),(.ref 780)],cc "MoveOperation" "MoveOperation" 1449 477 732 1452,fm 734 731 "jsonpatch" 904],du (Qb 43 0) "MoveOperation._apply" 736 1459 479 3 0 3 ["self","obj","journal","from_ptr","subobj","part","value","ex"] [] mj .none none,du (Qb 43 1) "MoveOperation.from_path" 743 1473 500 1 0 3 ["self"] [] mj .none none,[ob ⟨(.type "property"),none,(.fields [(.ref 749),.none,.none,.none,(sv "from_path" 1480),(.bool false)].toArray),[].toArray⟩],du (Qb 43 2) "MoveOperation.from_key" 751 1481 504 1 0 3 ["self"] [] mj .none none,[ob ⟨(.type "property"),none,(.fields [(.ref 757),.none,.none,.none,(iv 0),(.bool false)].toArray),[].toArray⟩,bm "property.setter" (.ref 758)],du (Qb 43 3) "MoveOperation.from_key" 760 1490 508 2 0 3 ["self","value"] [] mj .none none,[ob ⟨(.type "property"),none,(.fields [(.ref 757),(.ref 766),.none,.none,(sv "from_key" 1488),(.bool false)].toArray),[].toArray⟩],du (Qb 43 4) "MoveOperation.get_from_part" 768 1499 512 2 0 3 ["self","index","from_ptr"] [] mj .none none,du (Qb 43 5) "MoveOperation.set_from_part" 775 1508 519 3 0 3 ["self","index","value","from_ptr"] [] mj .none none,[q0,di 2 [es "__module__" 1454 "jsonpatch" 904,ev "__firstlineno__" 1458 (.int 477 1457),er "_apply" 1472 742,er "from_path" 1480 750,er "from_key" 1488 767,er "get_from_part" 1507 774,er "set_from_part" 1517 781,er "__static_attributes__" 1518 782,ev "__doc__" 1519 .none],ty "MoveOperation" [(.ref 659)] [(.ref 784),(.ref 659),(.type "object")] 783 [] [some (.ref 729),none,some (sv "MoveOperation" 1447),some (sv "MoveOperation" 1455),some (.builtin "object.__new__"),some (.bool true)],su (.ref 784),bm "object.__init_subclass__" (.ref 784),qt [(.ref 659)],bm "type.__prepare__" (.type "type"),di 5 [es "__module__" 1529 "jsonpatch" 904,es "__qualname__" 1531 "TestOperation" 1530,ev "__firstlineno__" 1533 (.int 523 1532),er "_apply" 1547 800,er "__static_attributes__" 1548 801],q0,qf [(iv 525),(iv 4),(.ref 799)],cc "TestOperation" "TestOperation" 1524 523 790 1527,fm 792 789 "jsonpatch" 904],du (Qb 44 0) "TestOperation._apply" 794 1534 525 3 0 3 ["self","obj","journal","subobj","part","val","ex","value"] [] mj .none none,[q0,di 2 [es "__module__" 1529 "jsonpatch" 904,ev "__firstlineno__" 1533 (.int 523 1532),er "_apply" 1547 800,er "__static_attributes__" 1548 801,ev "__doc__" 1549 .none],ty "TestOperation" [(.ref 659)] [(.ref 803),(.ref 659),(.type "object")] 802 [] [some (.ref 787),none,some (sv "TestOperation" 1522),some (sv "TestOperation" 1530),some (.builtin "object.__new__"),some (.bool true)],su (.ref 803),bm "object.__init_subclass__" (.ref 803),qt [(.ref 659)],bm "type.__prepare__" (.type "type"),di 5 [es "__module__" 1559 "jsonpatch" 904,es "__qualname__" 1561 "CopyOperation" 1560,ev "__firstlineno__" 1563 (.int 541 1562),er "_apply" 1577 819,er "__static_attributes__" 1578 820],q0,qf [(iv 543),(iv 4),(.ref 818)],cc "CopyOperation" "CopyOperation" 1554 541 809 1557,fm 811 808 "jsonpatch" 904],du (Qb 45 0) "CopyOperation._apply" 813 1564 543 3 0 3 ["self","obj","journal","from_ptr","subobj","part","value","ex"] [] mj .none none,[q0,di 2 [es "__module__" 1559 "jsonpatch" 904,ev "__firstlineno__" 1563 (.int 541 1562),er "_apply" 1577 819,er "__static_attributes__" 1578 820,ev "__doc__" 1579 .none],ty "CopyOperation" [(.ref 659)] [(.ref 822),(.ref 659),(.type "object")] 821 [] [some (.ref 806),none,some (sv "CopyOperation" 1552),some (sv "CopyOperation" 1560),some (.builtin "object.__new__"),some (.bool true)],su (.ref 822),bm "object.__init_subclass__" (.ref 822)],du (Ql 46) "_restore" 825 1582 556 2 0 3 ["obj","saved","key","item","saved_item"] [] mj .none none,[qt [(.ref 680),(.ref 707),(.ref 726),(.ref 784),(.ref 803),(.ref 822)]],du (Ql 48) "_supports_journal" 833 1594 570 1 0 3 ["operation"] [] mj .none none,[q0,bm "type.__prepare__" (.type "type"),di 17 [es "__module__" 1608 "jsonpatch" 904,es "__qualname__" 1610 "JsonPatch" 1609,ev "__firstlineno__" 1612 (.int 572 1611),er "json_dumper" 1631 855,er "operations" 1644 857,er "__init__" 1655 865,er "__str__" 1662 872,er "__bool__" 1669 879,er "__iter__" 1676 886,er "__hash__" 1683 893,er "__eq__" 1691 900,er "from_diff" 1719 910,er "to_string" 1728 919,er "_ops" 1736 927,er "apply" 1751 935,er "_get_operation" 1761 942,er "__static_attributes__" 1764 943],q0,qf [(iv 575),(iv 4),(.ref 852),(iv 579),(iv 4),(.ref 864),(iv 594),(iv 4),(.ref 871),(iv 597),(iv 4),(.ref 878),(iv 600),(iv 4),(.ref 885),(iv 603),(iv 4),(.ref 892),(iv 606),(iv 4),(.ref 899),(iv 612),(iv 4),(.ref 907),(iv 619),(iv 4),(.ref 918),(iv 624),(iv 4),(.ref 925),(iv 627),(iv 4),(.ref 934),(iv 655),(iv 4),(.ref 941)],cc "JsonPatch" "JsonPatch" 1603 572 843 1606,fm 845 842 "jsonpatch" 904],du (Qb 49 0) "JsonPatch.json_dumper" 847 1613 574 1 0 3 ["value"] [] mj .none (some 856),[di 5 [es "__module__" 1620 "jsonpatch" 904,es "__name__" 1623 "json_dumper" 1622,es "__qualname__" 1626 "JsonPatch.json_dumper" 1625,ev "__doc__" 1628 .none,er "__annotations__" 1630 856],ob ⟨(.type "staticmethod"),some 854,(.fields [(.ref 853),(.bool false)].toArray),[].toArray⟩,di 0 [],di 6 [er "remove" 1632 680,er "add" 1633 707,er "replace" 1634 726,er "move" 1635 784,er "test" 1636 803,er "copy" 1637 822],qt [(.ref 333)]],du (Qb 49 2) "JsonPatch.__init__" 859 1645 579 3 0 3 ["self","patch","pointer_cls","index","op"] [] mj (.ref 858) none,du (Qb 49 3) "JsonPatch.__str__" 866 1656 594 1 0 3 ["self"] [] mj .none none,du (Qb 49 4) "JsonPatch.__bool__" 873 1663 597 1 0 3 ["self"] [] mj .none none,du (Qb 49 5) "JsonPatch.__iter__" 880 1670 600 1 0 3 ["self"] [] mj .none none,du (Qb 49 6) "JsonPatch.__hash__" 887 1677 603 1 0 3 ["self"] [] mj .none none,du (Qb 49 7) "JsonPatch.__eq__" 894 1684 606 2 0 3 ["self","other"] [] mj .none none,[qt [(.bool true),.none,(.ref 333),(.bool false)]],du (Qb 49 8) "JsonPatch.from_diff" 902 1692 611 7 0 3 ["cls","src","dst","optimization","dumps","pointer_cls","generate_test_ops","json_dumper","builder","ops"] [] mj (.ref 901) (some 911),[di 5 [es "__module__" 1708 "jsonpatch" 904,es "__name__" 1711 "from_diff" 1710,es "__qualname__" 1714 "JsonPatch.from_diff" 1713,ev "__doc__" 1716 .none,er "__annotations__" 1718 911],ob ⟨(.type "classmethod"),some 909,(.fields [(.ref 908),(.bool false)].toArray),[].toArray⟩,di 0 [],qt [.none]],du (Qb 49 9) "JsonPatch.to_string" 913 1720 619 2 0 3 ["self","dumps","json_dumper"] [] mj (.ref 912) none,du (Qb 49 10) "JsonPatch._ops" 920 1729 623 1 0 3 ["self"] [] mj .none none,[ob ⟨(.type "property"),none,(.fields [(.ref 926),.none,.none,.none,(sv "_ops" 1736),(.bool false)].toArray),[].toArray⟩,qt [(.bool false),(.bool false)]],du (Qb 49 11) "JsonPatch.apply" 929 1737 627 4 0 3 ["self","obj","in_place","atomic","ops","operation","saved","original","journal"] [] mj (.ref 928) none,du (Qb 49 12) "JsonPatch._get_operation" 936 1752 655 2 0 3 ["self","operation","op","cls"] [] mj .none none,[nt 1762 ["patch","pointer_cls"],di 4 [es "__module__" 1608 "jsonpatch" 904,ev "__firstlineno__" 1612 (.int 572 1611),er "json_dumper" 1631 855,er "operations" 1644 857,er "__init__" 1655 865,er "__str__" 1662 872,er "__bool__" 1669 879,er "__iter__" 1676 886,er "__hash__" 1683 893,er "__eq__" 1691 900,er "from_diff" 1719 910,er "to_string" 1728 919,er "_ops" 1736 927,er "apply" 1751 935,er "_get_operation" 1761 942,er "__static_attributes__" 1764 943,er "__dict__" 1766 946,er "__weakref__" 1768 947,ev "__doc__" 1769 .none],ty "JsonPatch" [(.type "object")] [(.ref 945),(.type "object")] 944 [] [none,none,some (sv "JsonPatch" 1601),some (sv "JsonPatch" 1609),some (.builtin "object.__new__"),some (.bool true)],gd 1765 (.ref 945),gw 1767 (.ref 945),su (.ref 945),bm "object.__init_subclass__" (.ref 945),q0,bm "type.__prepare__" (.type "type"),di 26 [es "__module__" 1779 "jsonpatch" 904,es "__qualname__" 1781 "DiffBuilder" 1780,ev "__firstlineno__" 1783 (.int 667 1782),er "__init__" 1797 964,er "_move_key" 1805 971,er "store_index" 1816 978,er "take_index" 1826 985,er "insert" 1836 992,er "remove" 1847 999,er "__iter__" 1856 1006,er "execute" 1869 1013,er "_replay" 1879 1020,er "_array_items" 1888 1027,er "_location" 1898 1034,er "_new_location" 1908 1041,er "_parts" 1916 1048,er "_set_present" 1926 1055,er "_item_added" 1942 1062,er "_item_removed" 1959 1069,er "_insert_test" 1968 1076,er "_item_replaced" 1980 1083,er "_compare_dicts" 1986 1088,er "_differing_runs" 1992 1093,er "_compare_lists" 2010 1100,er "_compare_values" 2021 1107,er "__static_attributes__" 2032 1108],q0,qf [(iv 669),(iv 4),(.ref 963),(iv 682),(iv 4),(.ref 970),(iv 685),(iv 4),(.ref 977),(iv 691),(iv 4),(.ref 984),(iv 698),(iv 4),(.ref 991),(iv 704),(iv 4),(.ref 998),(iv 710),(iv 4),(.ref 1005),(iv 717),(iv 4),(.ref 1012),(iv 734),(iv 4),(.ref 1019),(iv 749),(iv 4),(.ref 1026),(iv 756),(iv 4),(.ref 1033),(iv 764),(iv 4),(.ref 1040),(iv 770),(iv 4),(.ref 1047),(iv 773),(iv 4),(.ref 1054),(iv 781),(iv 4),(.ref 1061),(iv 800),(iv 4),(.ref 1068),(iv 821),(iv 4),(.ref 1075),(iv 825),(iv 4),(.ref 1082),(iv 830),(iv 4),(.ref 1087),(iv 841),(iv 4),(.ref 1092),(iv 864),(iv 4),(.ref 1099),(iv 883),(iv 4),(.ref 1106)],cc "DiffBuilder" "DiffBuilder" 1774 667 953 1777,fm 955 952 "jsonpatch" 904,qt [(.ref 78),(.ref 333),(.bool true),(.bool false)]],du (Qb 50 0) "DiffBuilder.__init__" 958 1784 669 7 0 3 ["self","src_doc","dst_doc","dumps","pointer_cls","optimization","generate_test_ops","root"] [] mj (.ref 957) none,du (Qb 50 1) "DiffBuilder._move_key" 965 1798 682 2 0 3 ["self","value"] [] mj .none none,du (Qb 50 2) "DiffBuilder.store_index" 972 1806 685 4 0 3 ["self","value","index","st","storage"] [] mj .none none,du (Qb 50 3) "DiffBuilder.take_index" 979 1817 691 3 0 3 ["self","value","st","stored"] [] mj .none none,du (Qb 50 4) "DiffBuilder.insert" 986 1827 698 2 0 3 ["self","op","root","last"] [] mj .none none,du (Qb 50 5) "DiffBuilder.remove" 993 1837 704 2 0 3 ["self","index","link_prev","link_next","_"] [] mj .none none,du (Qb 50 6) "DiffBuilder.__iter__" 1000 1848 710 1 0 35 ["self","root","curr"] [] mj .none none,du (Qb 50 7) "DiffBuilder.execute" 1007 1857 717 1 0 35 ["self","operations","i","op_first","op_second","operation","member"] [] mj .none none,du (Qb 50 8) "DiffBuilder._replay" 1014 1870 734 1 0 35 ["self","items","op","operation"] [] mj .none none,du (Qb 50 9) "DiffBuilder._array_items" 1021 1880 749 2 0 3 ["self","location","items"] [] mj .none none,du (Qb 50 10) "DiffBuilder._location" 1028 1889 756 2 0 3 ["self","parts","location","part"] [] mj .none none,du (Qb 50 11) "DiffBuilder._new_location" 1035 1899 764 3 0 3 ["self","path","key","location"] [] mj .none none,du (Qb 50 12) "DiffBuilder._parts" 1042 1909 770 2 0 3 ["self","location"] [] mj .none none,du (Qb 50 13) "DiffBuilder._set_present" 1049 1917 773 3 0 3 ["self","location","present","item"] [] mj .none none,du (Qb 50 14) "DiffBuilder._item_added" 1056 1927 781 4 0 3 ["self","path","key","item","target","removed","source","test_index","new_index"] ["index"] mj .none none,du (Qb 50 15) "DiffBuilder._item_removed" 1063 1943 800 4 0 3 ["self","path","key","item","source","location","index","added_location","added","test_index","new_index"] [] mj .none none,du (Qb 50 16) "DiffBuilder._insert_test" 1070 1960 821 3 0 3 ["self","location","value"] [] mj .none none,du (Qb 50 17) "DiffBuilder._item_replaced" 1077 1969 825 5 0 3 ["self","path","key","item","old_item","location"] [] mj .none none,du (Qb 50 18) "DiffBuilder._compare_dicts" 1084 1981 830 4 0 3 [] [] mj .none none,du (Qb 50 19) "DiffBuilder._differing_runs" 1089 1987 841 3 0 3 [] [] mj .none none,du (Qb 50 20) "DiffBuilder._compare_lists" 1094 1993 864 4 0 3 ["self","path","src","dst","i1","i2","j1","j2","paired","key","old","new"] [] mj .none none,du (Qb 50 21) "DiffBuilder._compare_values" 1101 2011 883 5 0 3 ["self","path","key","src","dst"] [] mj .none none,[nt 2022 ["__root","arrays","dst_doc","dumps","generate_test_ops","index_storage","optimization","pointer_cls","remove_tests","src_doc"],di 4 [es "__module__" 1779 "jsonpatch" 904,ev "__firstlineno__" 1783 (.int 667 1782),er "__init__" 1797 964,er "_move_key" 1805 971,er "store_index" 1816 978,er "take_index" 1826 985,er "insert" 1836 992,er "remove" 1847 999,er "__iter__" 1856 1006,er "execute" 1869 1013,er "_replay" 1879 1020,er "_array_items" 1888 1027,er "_location" 1898 1034,er "_new_location" 1908 1041,er "_parts" 1916 1048,er "_set_present" 1926 1055,er "_item_added" 1942 1062,er "_item_removed" 1959 1069,er "_insert_test" 1968 1076,er "_item_replaced" 1980 1083,er "_compare_dicts" 1986 1088,er "_differing_runs" 1992 1093,er "_compare_lists" 2010 1100,er "_compare_values" 2021 1107,er "__static_attributes__" 2032 1108,er "__dict__" 2034 1111,er "__weakref__" 2036 1112,ev "__doc__" 2037 .none],ty "DiffBuilder" [(.type "object")] [(.ref 1110),(.type "object")] 1109 [] [none,none,some (sv "DiffBuilder" 1772),some (sv "DiffBuilder" 1780),some (.builtin "object.__new__"),some (.bool true)],gd 2033 (.ref 1110),gw 2035 (.ref 1110),su (.ref 1110),bm "object.__init_subclass__" (.ref 1110)],du (Ql 51) "_cost" 1115 2040 892 8 0 3 ["src","dst","src_keys","dst_keys","i1","i2","j1","j2"] ["src","dst","src_keys","dst_keys"] mj .none none,du (Ql 52) "_positional_cost" 1122 2058 894 2 0 3 ["old","new"] ["old","new"] mj .none none,du (Ql 53) "_json_equal" 1129 2068 902 2 0 3 ["first","second"] ["first","second"] mj .none none,du (Ql 54) "_sorted_members" 1136 2078 910 1 0 3 [] [] mj .none none,[q0,bm "type.__prepare__" (.type "type"),di 6 [es "__module__" 2091 "jsonpatch" 904,es "__qualname__" 2093 "_ArrayItem" 2092,ev "__firstlineno__" 2095 (.int 918 2094),er "__init__" 2105 1154,er "index" 2112 1161,er "__static_attributes__" 2117 1162],q0,qf [(iv 920),(iv 4),(.ref 1153),(iv 926),(iv 4),(.ref 1160)],cc "_ArrayItem" "_ArrayItem" 2086 918 1144 2089,fm 1146 1143 "jsonpatch" 904],du (Qb 55 0) "_ArrayItem.__init__" 1148 2096 920 4 0 3 ["self","array","label","initial"] [] mj .none none,du (Qb 55 1) "_ArrayItem.index" 1155 2106 926 1 0 3 ["self"] [] mj .none none,[nt 2113 ["array","initial","label","number"],di 4 [es "__module__" 2091 "jsonpatch" 904,ev "__firstlineno__" 2095 (.int 918 2094),er "__init__" 2105 1154,er "index" 2112 1161,er "__static_attributes__" 2117 1162,er "__dict__" 2119 1165,er "__weakref__" 2121 1166,ev "__doc__" 2122 .none],ty "_ArrayItem" [(.type "object")] [(.ref 1164),(.type "object")] 1163 [] [none,none,some (sv "_ArrayItem" 2084),some (sv "_ArrayItem" 2092),some (.builtin "object.__new__"),some (.bool true)],gd 2118 (.ref 1164),gw 2120 (.ref 1164),su (.ref 1164),bm "object.__init_subclass__" (.ref 1164),q0,bm "type.__prepare__" (.type "type"),di 13 [es "__module__" 2132 "jsonpatch" 904,es "__qualname__" 2134 "_ArrayItems" 2133,ev "__firstlineno__" 2136 (.int 928 2135),ev "step" 2140 (.int 65536 2139),ev "gap" 2144 (.int 4294967296 2143),er "__init__" 2151 1182,er "at" 2161 1189,er "insert" 2174 1196,er "_relabel" 2180 1201,er "add" 2189 1208,er "remove" 2198 1215,er "reset" 2204 1220,er "__static_attributes__" 2209 1221],q0,qf [(iv 932),(iv 4),(.ref 1181),(iv 938),(iv 4),(.ref 1188),(iv 948),(iv 4),(.ref 1195),(iv 970),(iv 4),(.ref 1200),(iv 976),(iv 4),(.ref 1207),(iv 981),(iv 4),(.ref 1214),(iv 986),(iv 4),(.ref 1219)],cc "_ArrayItems" "_ArrayItems" 2127 928 1172 2130,fm 1174 1171 "jsonpatch" 904],du (Qb 56 2) "_ArrayItems.__init__" 1176 2145 932 1 0 3 ["self"] [] mj .none none,du (Qb 56 3) "_ArrayItems.at" 1183 2152 938 2 0 3 ["self","index","label","item"] [] mj .none none,du (Qb 56 4) "_ArrayItems.insert" 1190 2162 948 2 0 3 ["self","index","position","label","low","high","item"] [] mj .none none,du (Qb 56 5) "_ArrayItems._relabel" 1197 2175 970 1 0 3 [] [] mj .none none,du (Qb 56 6) "_ArrayItems.add" 1202 2181 976 2 0 3 ["self","item","position"] [] mj .none none,du (Qb 56 7) "_ArrayItems.remove" 1209 2190 981 2 0 3 ["self","item","position"] [] mj .none none,du (Qb 56 8) "_ArrayItems.reset" 1216 2199 986 1 0 3 [] [] mj .none none,[nt 2205 ["items","labels","present","present_labels"],di 4 [es "__module__" 2132 "jsonpatch" 904,ev "__firstlineno__" 2136 (.int 928 2135),ev "step" 2140 (.int 65536 2139),ev "gap" 2144 (.int 4294967296 2143),er "__init__" 2151 1182,er "at" 2161 1189,er "insert" 2174 1196,er "_relabel" 2180 1201,er "add" 2189 1208,er "remove" 2198 1215,er "reset" 2204 1220,er "__static_attributes__" 2209 1221,er "__dict__" 2211 1224,er "__weakref__" 2213 1225,ev "__doc__" 2214 .none],ty "_ArrayItems" [(.type "object")] [(.ref 1223),(.type "object")] 1222 [] [none,none,some (sv "_ArrayItems" 2125),some (sv "_ArrayItems" 2133),some (.builtin "object.__new__"),some (.bool true)],gd 2210 (.ref 1223),gw 2212 (.ref 1223),su (.ref 1223),bm "object.__init_subclass__" (.ref 1223)],du (Ql 57) "_path_join" 1228 2217 989 2 0 3 ["path","key"] [] mj .none none,du (Ql 58) "_to_pointer" 1235 2225 993 1 0 3 ["path"] [] mj .none none,du (Ql 59) "_is_prefix" 1242 2232 995 2 0 3 ["sub_parts","parts"] [] mj .none none,du (Ql 60) "_is_inside" 1249 2240 997 2 0 3 ["parts","container"] [] mj .none none,du (Ql 61) "_shift" 1256 2248 999 3 0 3 ["parts","depth","offset"] [] mj .none none,du (Ql 62) "_without_item" 1263 2257 1001 2 0 3 ["parts","location","depth"] [] mj .none none,du (Ql 63) "_to_existing_last" 1270 2266 1006 2 0 3 ["pointer","doc","subobj","part"] [] mj .none none,du (Ql 65) "_law_plain" 1277 2278 1012 0 0 3 [] [] ml .none none,[ob ⟨(.type "list"),none,(.seq [(sv "a" 2284),(sv "0" 2285),(sv "~" 2286),(sv "a/b" 2287),(sv "" 2288),(sv "-" 2289),(sv "b~1" 2290),(sv "1" 2291)].toArray 0),[].toArray⟩],du (Ql 67) "_law_grown" 1285 2293 1015 2 0 3 ["root","numbers","row","number","deed","rest","value","inner"] [] ml .none none,du (Ql 68) "_law_anew" 1292 2307 1032 1 0 3 [] [] ml .none none,du (Ql 69) "_law_value" 1297 2313 1038 1 0 3 ["number"] [] ml .none none,du (Ql 70) "_law_places" 1304 2320 1040 3 0 3 ["value","path","rows","name","k","one"] [] ml .none none,du (Ql 71) "_law_taken" 1311 2332 1049 2 0 3 ["doc","path","key"] [] ml .none none,du (Ql 72) "_law_put" 1318 2341 1053 3 0 3 ["doc","path","value","inner","key"] [] ml .none none,du (Ql 73) "_law_target" 1325 2352 1064 2 0 3 [] [] ml .none none,du (Ql 74) "_law_text" 1330 2358 1072 2 0 3 [] [] ml .none none,du (Ql 75) "_law_paired" 1335 2364 1077 3 0 3 [] [] ml .none none,du (Ql 76) "law" 1340 2370 1096 1 0 3 ["script","head","plain","work","whole","pairs","others","rows","number","deed","rest","places","path","there","far","row","target","end","found"] [] ml .none none]
noncomputable def al:List TB:=al2.flatten
noncomputable def hx (n:Nat) (m:List (Nat × TB)) (P:Params):List Obj:=((m.foldr (λp l=>l.set p.1 p.2) al).take n).map (· P)
noncomputable def v0:TB:=dn 14 (e2.take 14)
noncomputable def v1:TB:=o3v "__main__" 164 12
noncomputable def v2:TB:=di 17 ([es "__name__" 247 "_sre" 246,ev "__doc__" 248 .none,es "__package__" 250 "" 249,er "__loader__" 251 14,er "__spec__" 252 26]++eH "_sre." "" 253 ["compile","template","getcodesize","ascii_iscased","unicode_iscased","ascii_tolower","unicode_tolower"]++[ev "MAGIC" 261 (.int 20230612 260),ev "CODESIZE" 263 (.int 4 262),ev "MAXREPEAT" 265 (.int 4294967295 264),ev "MAXGROUPS" 267 (.int 1073741823 266),es "copyright" 269 " SRE 2.2.2 Copyright (c) 1997-2002 by Secret Labs AB " 268])
noncomputable def v3:TB:=di 10 ([es "__name__" 355 "_bisect" 354,eb "__doc__" 356 "_bisect.__doc__:str#opaque",es "__package__" 358 "" 357,er "__loader__" 359 45,er "__spec__" 360 48]++eH "_bisect." "" 361 ["bisect_right","insort_right","bisect_left","insort_left"]++[ev "__file__" 365 (.str (Str.mk #[47,110,105,120,47,115,116,111,114,101,47,119,106,49,102,53,54,113,107,121,52,112,109,106,99,55,108,48,114,54,98,54,108,55,119,104,110,110,119,55,104,112,54,45,112,121,116,104,111,110,51,45,51,46,49,51,46,49,53,47,108,105,98,47,112,121,116,104,111,110,51,46,49,51,47,108,105,98,45,100,121,110,108,111,97,100,47,95,98,105,115,101,99,116,46,99,112,121,116,104,111,110,45,51,49,51,45,120,56,54,95,54,52,45,108,105,110,117,120,45,103,110,117,46,115,111]) 282)])
noncomputable def v4:TB:=XE 0
noncomputable def v5:TB:=o3v "jsonrows" 390 18
noncomputable def v6:TB:=XE 6
noncomputable def v7:TB:=o3v "jsonrows" 390 19
noncomputable def v8:TB:=dn 16 (e2.take 15++[ev "type.__subclasses__.Exception.n" 597 (iv 1)])
noncomputable def v9:TB:=o3v "jsonpointer" 498 28
noncomputable def v10:TB:=XE 21
noncomputable def v11:TB:=o3v "jsonpointer" 498 29
noncomputable def v12:TB:=XE 24
noncomputable def v13:TB:=o3v "jsonpatch" 904 40
noncomputable def v14:TB:=XE 48
noncomputable def v15:TB:=o3v "jsonpatch" 904 47
noncomputable def v16:TB:=XE 66
noncomputable def v17:TB:=o3v "jsonpatch" 904 51
noncomputable def v18:TB:=XE 78
noncomputable def v19:TB:=ty "PatchOperation" [(.type "object")] [(.ref 659),(.type "object")] 658 [(.ref 680),(.ref 707),(.ref 726)] [none,none,some (sv "PatchOperation" 1235),some (sv "PatchOperation" 1243),some (.builtin "object.__new__"),some (.bool true)]
noncomputable def v20:TB:=o3v "jsonpatch" 904 57
noncomputable def v21:TB:=XE 93
noncomputable def v22:TB:=o3v "jsonpatch" 904 58
noncomputable def v23:TB:=XE 96
noncomputable def v24:TB:=o3v "jsonpatch" 904 59
noncomputable def v25:TB:=XE 99
noncomputable def v26:TB:=o3v "jsonpatch" 904 72
noncomputable def v27:TB:=XE 138
noncomputable def hE:Params->List Obj:=hx 49 [(2,v0),(3,v1),(11,v2),(29,v3)]
noncomputable def h0:Params->List Obj:=hx 49 [(2,v0),(3,v1)]
noncomputable def hA:Params->List Obj:=hx 53 [(2,v0),(3,v1),(50,v4)]
noncomputable def hB:Params->List Obj:=hx 53 [(2,v0),(3,v1),(50,v4)]
noncomputable def h5:Params->List Obj:=hx 66 [(2,v0),(3,v5),(50,v6)]
noncomputable def h6:Params->List Obj:=hx 67 [(2,v0),(3,v7),(50,v6)]
noncomputable def h16:Params->List Obj:=hx 172 [(2,v8),(3,v9),(50,v10)]
noncomputable def h17:Params->List Obj:=hx 338 [(2,v8),(3,v11),(50,v12)]
noncomputable def h29:Params->List Obj:=hx 430 [(3,v13),(50,v14)]
noncomputable def h36:Params->List Obj:=hx 568 [(3,v15),(50,v16)]
noncomputable def h40:Params->List Obj:=hx 729 [(3,v17),(50,v18),(659,v19)]
noncomputable def h46:Params->List Obj:=hx 840 [(3,v20),(50,v21)]
noncomputable def h47:Params->List Obj:=hx 950 [(3,v22),(50,v23)]
noncomputable def h48:Params->List Obj:=hx 1115 [(3,v24),(50,v25)]
noncomputable def h61:Params->List Obj:=hx 1277 [(3,v26),(50,v27)]
noncomputable def h74:Params->List Obj:=hx 1347 []
noncomputable def Qy:Stmt->List Stmt
 |.FunctionDef _ _ b _ _ _ _ _ _ _=>b
 |_=>[]
noncomputable abbrev o4:Obj:=⟨.type "module",some 0,.plain,#[]⟩
noncomputable abbrev o1 (P:Params):Obj:=⟨(.type "dict"),none,(.dict #[ent P "builtins" 162 (.ref 4),ent P "__main__" 163 (.ref 5),ent P "_sre" 244 (.ref 12),ent P "_bisect" 352 (.ref 30)] 4),#[]⟩
noncomputable abbrev QmN:Obj:=⟨(.type "tuple"),none,(.seq #[(iv 14),(iv 4),(iv 0),(iv 1),(iv 4294967295),(iv 7),(iv 5),(iv 16),(iv 48),(iv 15),(iv 22),(iv 20),(iv 13),(iv 5),(iv 22),(iv 49),(iv 57),(iv 0),(iv 24),(iv 10),(iv 0),(iv 4294967295),(iv 13),(iv 5),(iv 22),(iv 48),(iv 57),(iv 0),(iv 1),(iv 15),(iv 2),(iv 0),(iv 1)] 0),#[]⟩
noncomputable abbrev QeJ:Obj:=⟨(.type "re.Pattern"),none,(.fields #[(sv "0|[1-9][0-9]*" 501),(.int (32) 537),(iv 0),.none,.none,(.ref 123),(iv 0)]),#[]⟩
noncomputable abbrev QmO:Obj:=⟨(.type "tuple"),none,(.seq #[(iv 14),(iv 8),(iv 1),(iv 1),(iv 2),(iv 1),(iv 0),(iv 126),(iv 0),(iv 17),(iv 0),(iv 16),(iv 126),(iv 7),(iv 10),(iv 13),(iv 6),(iv 21),(iv 22),(iv 48),(iv 49),(iv 0),(iv 15),(iv 7),(iv 5),(iv 6),(iv 5),(iv 15),(iv 2),(iv 0),(iv 17),(iv 1),(iv 1)] 0),#[]⟩
noncomputable abbrev QmP:Obj:=⟨(.type "re.Pattern"),none,(.fields #[(sv "(~[^01]|~$)" 540),(.int (32) 576),(iv 1),.none,.none,(.ref 128),(iv 0)]),#[]⟩
noncomputable abbrev QeK:Obj:=⟨(.type "dict"),none,(.dict #[] 0),#[]⟩
noncomputable abbrev QaP:Obj:=⟨(.ref 479),(some 484),.plain,#[]⟩
noncomputable abbrev QeM (P:Params):Obj:=⟨(.type "dict"),none,(.dict #[ent P "remove" 1632 (.ref 680),ent P "add" 1633 (.ref 707),ent P "replace" 1634 (.ref 726),ent P "move" 1635 (.ref 784),ent P "test" 1636 (.ref 803),ent P "copy" 1637 (.ref 822)] 6),#[]⟩
noncomputable abbrev QeL:Obj:=⟨.type "code",none,.fields #[sv "delitem" 1153,sv "_Journal.delitem" 1154,sv "/claim/cut.py" 1155,iv 302,iv 3,iv 0,iv 0,iv 3,.ref 507,.bool true,iv 377,.ref 508,.none,(.ref 509),(.ref 510),(.ref 511),iv 1161,iv 302,sv "/claim/cut.py" 1162],#[]⟩
noncomputable abbrev QeI:Obj:=⟨.type "code",none,.fields #[sv "_json_equal" 2068,sv "_json_equal" 2069,sv "/claim/cut.py" 2070,iv 902,iv 2,iv 0,iv 0,iv 3,.ref 1129,.bool true,iv 377,.ref 1130,.none,(.ref 1131),(.ref 1132),(.ref 1133),iv 2075,iv 902,sv "/claim/cut.py" 2076],#[]⟩
noncomputable def xk (i j:Nat) (P:Params):Obj:=(al2.getD i []).getD j q0 P
noncomputable def K03 (P:Params):Frag:=[(1,xk 0 1 P),(2,xk 0 2 P),(3,xk 0 3 P),(4,xk 0 4 P),(60,xk 2 0 P),(64,xk 3 3 P),(65,xk 3 4 P),(123,xk 12 10 P),(124,xk 12 11 P),(128,xk 12 15 P),(129,xk 12 16 P),(182,xk 16 3 P),(183,xk 16 4 P),(189,xk 17 5 P),(190,xk 17 6 P),(214,xk 23 0 P),(215,xk 23 1 P),(216,xk 23 2 P),(224,xk 25 0 P),(225,xk 25 1 P),(226,xk 25 2 P),(234,xk 27 0 P),(235,xk 27 1 P),(236,xk 27 2 P),(242,xk 28 5 P),(243,xk 28 6 P),(244,xk 29 0 P),(245,xk 29 1 P),(246,xk 29 2 P),(259,xk 31 5 P),(260,xk 31 6 P),(266,xk 32 5 P),(267,xk 32 6 P),(294,xk 37 0 P),(300,xk 38 5 P),(301,xk 38 6 P),(328,xk 43 0 P),(329,xk 43 1 P),(330,xk 43 2 P),(331,xk 43 3 P),(332,xk 43 4 P),(333,xk 43 5 P),(334,xk 43 6 P),(335,xk 43 7 P),(350,xk 45 5 P),(351,xk 45 6 P),(442,xk 49 5 P),(443,xk 49 6 P),(444,xk 50 0 P),(445,xk 50 1 P),(446,xk 50 2 P),(452,xk 51 5 P),(453,xk 51 6 P),(454,xk 52 0 P),(455,xk 52 1 P),(456,xk 52 2 P),(462,xk 53 5 P),(463,xk 53 6 P),(464,xk 54 0 P),(465,xk 54 1 P),(466,xk 54 2 P),(472,xk 55 5 P),(473,xk 55 6 P),(474,xk 56 0 P),(475,xk 56 1 P),(476,xk 56 2 P),(477,xk 56 3 P),(478,xk 56 4 P),(479,xk 56 5 P),(480,xk 56 6 P),(481,xk 56 7 P),(484,xk 56 10 P),(485,xk 56 11 P),(498,xk 57 5 P),(499,xk 57 6 P),(505,xk 58 5 P),(506,xk 58 6 P),(512,xk 59 5 P),(513,xk 59 6 P),(519,xk 60 5 P),(520,xk 60 6 P),(526,xk 61 5 P),(527,xk 61 6 P),(535,xk 63 0 P),(536,xk 63 1 P),(537,xk 63 2 P),(538,xk 63 3 P),(539,xk 63 4 P),(575,xk 68 7 P),(581,xk 69 5 P),(582,xk 69 6 P),(588,xk 70 5 P),(589,xk 70 6 P),(595,xk 71 5 P),(596,xk 71 6 P),(625,xk 76 0 P),(642,xk 80 0 P),(657,xk 83 0 P),(658,xk 83 1 P),(659,xk 83 2 P),(660,xk 83 3 P),(661,xk 83 4 P),(664,xk 83 7 P),(676,xk 84 5 P),(677,xk 84 6 P),(678,xk 85 0 P),(679,xk 85 1 P),(680,xk 85 2 P),(683,xk 85 5 P),(695,xk 86 5 P),(696,xk 86 6 P),(697,xk 87 0 P),(703,xk 88 5 P),(704,xk 88 6 P),(705,xk 89 0 P),(706,xk 89 1 P),(707,xk 89 2 P),(710,xk 89 5 P),(722,xk 90 5 P),(723,xk 90 6 P),(724,xk 91 0 P),(725,xk 91 1 P),(726,xk 91 2 P),(729,xk 91 5 P),(741,xk 92 5 P),(742,xk 92 6 P),(750,xk 94 0 P),(767,xk 98 0 P),(782,xk 101 0 P),(783,xk 101 1 P),(784,xk 101 2 P),(787,xk 101 5 P),(799,xk 102 5 P),(800,xk 102 6 P),(801,xk 103 0 P),(802,xk 103 1 P),(803,xk 103 2 P),(806,xk 103 5 P),(818,xk 104 5 P),(819,xk 104 6 P),(820,xk 105 0 P),(821,xk 105 1 P),(822,xk 105 2 P),(832,xk 107 0 P),(838,xk 108 5 P),(839,xk 108 6 P),(854,xk 111 0 P),(855,xk 111 1 P),(856,xk 111 2 P),(857,xk 111 3 P),(858,xk 111 4 P),(864,xk 112 5 P),(865,xk 112 6 P),(909,xk 120 0 P),(910,xk 120 1 P),(911,xk 120 2 P),(925,xk 122 5 P),(926,xk 122 6 P),(927,xk 123 0 P),(928,xk 123 1 P),(934,xk 124 5 P),(935,xk 124 6 P),(941,xk 125 5 P),(942,xk 125 6 P),(943,xk 126 0 P),(944,xk 126 1 P),(945,xk 126 2 P),(946,xk 126 3 P),(947,xk 126 4 P),(1134,xk 152 5 P),(1135,xk 152 6 P),(1275,xk 172 5 P),(1276,xk 172 6 P),(1282,xk 173 5 P),(1283,xk 173 6 P),(1284,xk 174 0 P),(1290,xk 175 5 P),(1291,xk 175 6 P),(1295,xk 176 3 P),(1296,xk 176 4 P),(1302,xk 177 5 P),(1303,xk 177 6 P),(1309,xk 178 5 P),(1310,xk 178 6 P),(1316,xk 179 5 P),(1317,xk 179 6 P),(1323,xk 180 5 P),(1324,xk 180 6 P),(1328,xk 181 3 P),(1329,xk 181 4 P),(1333,xk 182 3 P),(1334,xk 182 4 P),(1338,xk 183 3 P),(1339,xk 183 4 P),(1345,xk 184 5 P),(1346,xk 184 6 P)]
noncomputable def A03:List Ad:=[1,2,3,4,60,64,65,123,124,128,129,182,183,189,190,214,215,216,224,225,226,234,235,236,242,243,244,245,246,259,260,266,267,294,300,301,328,329,330,331,332,333,334,335,350,351,442,443,444,445,446,452,453,454,455,456,462,463,464,465,466,472,473,474,475,476,477,478,479,480,481,484,485,498,499,505,506,512,513,519,520,526,527,535,536,537,538,539,575,581,582,588,589,595,596,625,642,657,658,659,660,661,664,676,677,678,679,680,683,695,696,697,703,704,705,706,707,710,722,723,724,725,726,729,741,742,750,767,782,783,784,787,799,800,801,802,803,806,818,819,820,821,822,832,838,839,854,855,856,857,858,864,865,909,910,911,925,926,927,928,934,935,941,942,943,944,945,946,947,1134,1135,1275,1276,1282,1283,1284,1290,1291,1295,1296,1302,1303,1309,1310,1316,1317,1323,1324,1328,1329,1333,1334,1338,1339,1345,1346]
noncomputable def QbI:Option (SharedT × Thread)->Option SharedT
 |some (s,t)=>match t.atExitBegin with
  |some []=>some s
  |_=>none
 |none=>none
theorem pO (w:World):(λos:OsState=>QbI (PySem.W.Fast.tw14789777615569096658 PySem.W.Fast.tw14364793385576792824 (opening pg) w 1337 ⟨.nil,0,{},#[],{},1,os⟩ (PySem.W.Fast.tw1435165496053646825 (opening pg)).2))
 = λos=>some ⟨mkT 12 (hE w.params),49,{},#[],{},377,os⟩:=by kernel_rfl
noncomputable def Qax:Env:={ scope:=pg.main.scope,locals:=mainNs,globals:=mainNs,cells:=[],code:=.ref 51,frame:=some 52 }
noncomputable abbrev cdT:Code:=.body (behindTheImports pg) Qax
noncomputable def Xm (i n:Nat):List Stmt:=((behindTheImports pg).drop i).take n
noncomputable abbrev shT (w:World) (h:Params->List Obj) (n k:Nat) (os:OsState):SharedT:=⟨mkT 12 (h w.params),n,{},#[],{},k,os⟩
def PP (steps i n:Nat) (a:Params->List Obj) (na ka:Nat) (pa:Pos) (b:Params->List Obj) (nb kb:Nat) (pb:Pos) (w:World):Prop :=
 (λos:OsState=>PySem.W.Fast.tw10110043849684766642 PySem.W.Fast.tw14364793385576792824 pg w 49 (some (.ref 6)) 1 steps (shT w a na ka os) (piecesOf (Xm i n) Qax cdT pa [topFrame ⟨0,0,0,0⟩]))
 = λos=>some (.next,shT w b nb kb os,cdT,pb)
theorem p5 (w:World):PP 116 0 6 hB 53 383 ⟨0,0,0,0⟩ h5 66 402 ⟨10,0,15,16⟩ w:=by unfold PP;kernel_rfl
theorem p6f (w:World):PP 116 6 1 h5 66 402 ⟨10,0,15,16⟩ h6 67 424 ⟨16,0,16,8⟩ (w.withFollow "special-get-raises" false):=by unfold PP;kernel_rfl
theorem p6t (w:World):PP 116 6 1 h5 66 402 ⟨10,0,15,16⟩ h6 67 424 ⟨16,0,16,8⟩ (w.withFollow "special-get-raises" true):=by unfold PP;kernel_rfl
theorem p6 (w:World):PP 116 6 1 h5 66 402 ⟨10,0,15,16⟩ h6 67 424 ⟨16,0,16,8⟩ w:=byRow2 "special-get-raises" (P:=λw=>PP 116 6 1 h5 66 402 ⟨10,0,15,16⟩ h6 67 424 ⟨16,0,16,8⟩ w) (p6f) (p6t) w
theorem p16 (w:World):PP 1037 7 10 h6 67 424 ⟨16,0,16,8⟩ h16 172 636 ⟨63,0,69,87⟩ w:=by unfold PP;kernel_rfl
theorem p17 (w:World):PP 1600 17 1 h16 172 636 ⟨63,0,69,87⟩ h17 338 890 ⟨70,0,245,18⟩ w:=by unfold PP;kernel_rfl
theorem p29 (w:World):PP 1258 18 12 h17 338 890 ⟨70,0,245,18⟩ h29 430 1020 ⟨267,0,268,29⟩ w:=by unfold PP;kernel_rfl
theorem p36 (w:World):PP 1414 30 7 h29 430 1020 ⟨267,0,268,29⟩ h36 568 1235 ⟨339,0,343,39⟩ w:=by unfold PP;kernel_rfl
theorem p40 (w:World):PP 1534 37 4 h36 568 1235 ⟨339,0,343,39⟩ h40 729 1447 ⟨453,0,476,18⟩ w:=by unfold PP;kernel_rfl
theorem p46 (w:World):PP 1193 41 6 h40 729 1447 ⟨453,0,476,18⟩ h46 840 1601 ⟨570,0,571,55⟩ w:=by unfold PP;kernel_rfl
theorem QmU (w:World):PP 1046 47 1 h46 840 1601 ⟨570,0,571,55⟩ h47 950 1772 ⟨572,0,666,59⟩ (w.withFollow "special-get-raises" false):=by unfold PP;kernel_rfl
theorem QmV (w:World):PP 1046 47 1 h46 840 1601 ⟨570,0,571,55⟩ h47 950 1772 ⟨572,0,666,59⟩ (w.withFollow "special-get-raises" true):=by unfold PP;kernel_rfl
theorem p47 (w:World):PP 1046 47 1 h46 840 1601 ⟨570,0,571,55⟩ h47 950 1772 ⟨572,0,666,59⟩ w:=byRow2 "special-get-raises" (P:=λw=>PP 1046 47 1 h46 840 1601 ⟨570,0,571,55⟩ h47 950 1772 ⟨572,0,666,59⟩ w) (QmU) (QmV) w
theorem p48 (w:World):PP 971 48 1 h47 950 1772 ⟨572,0,666,59⟩ h48 1115 2040 ⟨667,0,891,52⟩ w:=by unfold PP;kernel_rfl
theorem p61 (w:World):PP 1051 49 13 h48 1115 2040 ⟨667,0,891,52⟩ h61 1277 2276 ⟨1006,0,1010,25⟩ w:=by unfold PP;kernel_rfl
theorem p74 (w:World):PP 370 62 13 h61 1277 2276 ⟨1006,0,1010,25⟩ h74 1347 2395 ⟨1096,0,1152,44⟩ w:=by unfold PP;kernel_rfl
set_option tactic.hygienic true in
theorem Qkt {r:Option (SharedT × Thread)}{s:SharedT}(h:QbI r=some s):∃t,r=some (s,t)/\t.atExitBegin=some []:=by
 unfold QbI at h
 split at h
 ·rename_i s' t
  split at h
  ·rename_i e
   cases h
   exact⟨t,rfl,e⟩
  ·cases h
 ·cases h
theorem hO (w:World):importEnds treeTable (opening pg) w 1338 (start (opening pg)).1 (start (opening pg)).2=some ⟨absHeap (mkT 12 (hE w.params)) 49 {},#[],{},377,(start (opening pg)).1.os⟩:=by
 have h:=congrFun (pO w) (start (opening pg)).1.os
 rw[<- PySem.W.Fast.te14789777615569096658,<- PySem.W.Fast.te14364793385576792824,<- PySem.W.Fast.te1435165496053646825] at h
 obtain⟨t,e,x⟩:=Qkt h
 have g:=impGo_of e
 refine imp_go (n:=1337) (N:=1) g ?_
 unfold importEnds
 rw[x]
 rfl
noncomputable abbrev H0 (P:Params):Heap:=absHeap (mkT 12 (h0 P)) 49 {}
noncomputable abbrev H1 (P:Params):Heap:=absHeap (mkT 12 (h74 P)) 1347 {}
set_option profiler true in
theorem hF (w:World):(λos=>(fenceModules? pg ⟨absHeap (mkT 12 (hE w.params)) 49 {},#[],{},377,os⟩).map (λs=>(s.heap,s.gens,s.drawn,s.toks)))=λ_=>some (H0 w.params,#[],{},377):=by kernel_rfl
theorem PP.run {steps i n na ka nb kb:Nat}{a b:Params->List Obj}{pa pb:Pos}{w:World}(h:PP steps i n a na ka pa b nb kb pb w) (os:OsState) :
  segRun treeTable pg w 49 (some (.ref 6)) 1 steps (shT w a na ka os).abs (piecesOf (Xm i n) Qax cdT pa [topFrame ⟨0,0,0,0⟩])=some (.next,(shT w b nb kb os).abs,cdT,pb):=by
 have e:=congrFun h os
 rw[<- PySem.W.Fast.te10110043849684766642,<- PySem.W.Fast.te14364793385576792824] at e
 exact segRun_of e
theorem QmY (w:World):(λos:OsState=>PySem.W.Fast.tw15667345088766844465 PySem.W.Fast.tw14364793385576792824 pg w 49 (some (.ref 6)) 12 ⟨H0 w.params,#[],{},377,os⟩ (topStub pg))
 = λos=>some ((shT w hA 53 383 os).abs,⟨PySem.W.Fast.tw11892475500146522536 PySem.W.Fast.tw14364793385576792824 cdT,cdT,⟨0,0,0,0⟩,[topFrame ⟨0,0,0,0⟩]⟩):=by kernel_rfl
theorem QmW (w:World):(λos:OsState=>PySem.W.Fast.tw14374325043358763698 PySem.W.Fast.tw14364793385576792824 pg w 49 (some (.ref 6)) 1 1 (shT w hA 53 383 os).abs (blockOf (behindTheImports pg) Qax cdT ⟨0,0,0,0⟩ [topFrame ⟨0,0,0,0⟩]))
 = λos=>some (.next,(shT w hB 53 383 os).abs,cdT,⟨0,0,0,0⟩):=by kernel_rfl
theorem bti:behindTheImports pg=Xm 0 6++(Xm 6 1++(Xm 7 10++(Xm 17 1++(Xm 18 12++(Xm 30 7++(Xm 37 4++(Xm 41 6++(Xm 47 1++(Xm 48 1++(Xm 49 13++(Xm 62 13++[]))))))))))):=by kernel_rfl
theorem QmX (w:World) (os:OsState):topRun treeTable pg w 49 (some (.ref 6)) 2 (shT w h74 1347 2395 os).abs ⟨doneF .next,cdT,⟨1096,0,1152,44⟩,[topFrame ⟨0,0,0,0⟩]⟩=some (shT w h74 1347 2395 os).abs:=by kernel_rfl
theorem Qnj (w:World) (os:OsState):topRun treeTable pg w 49 (some (.ref 6)) (12+(1+(116+(116+(1037+(1600+(1258+(1414+(1534+(1193+(1046+(971+(1051+(370+2)))))))))))))) ⟨H0 w.params,#[],{},377,os⟩ (topStub pg)=some ⟨H1 w.params,#[],{},2395,os⟩:=by
 have e:=congrFun (QmY w) os
 rw[<- PySem.W.Fast.te15667345088766844465,<- PySem.W.Fast.te14364793385576792824,<- PySem.W.Fast.te11892475500146522536] at e
 have b:=congrFun (QmW w) os
 rw[<- PySem.W.Fast.te14374325043358763698,<- PySem.W.Fast.te14364793385576792824] at b
 refine go_top e (piece_block b ?_)
 rw[bti]
 refine piece_app ((p5 w).run os) ?_
 refine piece_app ((p6 w).run os) ?_
 refine piece_app ((p16 w).run os) ?_
 refine piece_app ((p17 w).run os) ?_
 refine piece_app ((p29 w).run os) ?_
 refine piece_app ((p36 w).run os) ?_
 refine piece_app ((p40 w).run os) ?_
 refine piece_app ((p46 w).run os) ?_
 refine piece_app ((p47 w).run os) ?_
 refine piece_app ((p48 w).run os) ?_
 refine piece_app ((p61 w).run os) ?_
 refine piece_app ((p74 w).run os) ?_
 exact piece_nil (QmX w os)
theorem t1':PySem.W.Fast.tw11788848310118352699 pg.main=true:=by kernel_rfl
theorem t1:sreFenced pg.main=true:=(congrFun PySem.W.Fast.te11788848310118352699 _).trans t1'
theorem t2:((moduleNames pg.main.body).isEmpty||lookedIntoSs (moduleNames pg.main.body) pg.main.body)=true:=by kernel_rfl
theorem t4:pg.boundNames.all (λn=>!worldNames.contains n)=true:=by kernel_rfl
theorem t5':PySem.W.Fast.tw8326940854005059898 { strict:=!(importedModules pg.main.body).all cThrough.contains,foot:=none,bare:=(["vars","dir","locals"]:List Str).filter (PySem.W.Fast.tw13343964577679436407 pg pg.main.body) } pg.main.body=true:=by kernel_rfl
theorem t5:noRoadLSs { strict:=!(importedModules pg.main.body).all cThrough.contains,foot:=none,bare:=(["vars","dir","locals"]:List Str).filter (readsOut pg pg.main.body) } pg.main.body=true :=
 (congrFun (congrFun PySem.W.Fast.te8326940854005059898 _) _).trans ((congrArg (λf:Program->List Stmt->Str->Bool=>PySem.W.Fast.tw8326940854005059898 { strict:=!(importedModules pg.main.body).all cThrough.contains,foot:=none,bare:=(["vars","dir","locals"]:List Str).filter (f pg pg.main.body) } pg.main.body) PySem.W.Fast.te13343964577679436407).trans t5')
theorem t6':PySem.W.Fast.tw17119622794617984870 pg pg.main.body (λ_ n=>PySem.W.Fast.tw17868728402115742887 n)=true:=by kernel_rfl
theorem t6:namesMeet pg pg.main.body (λ_ n=>attrL n)=true :=
 (congrFun (congrFun (congrFun PySem.W.Fast.te17119622794617984870 _) _) _).trans ((congrArg (λf:Str->Bool=>PySem.W.Fast.tw17119622794617984870 pg pg.main.body (λ_ n=>f n)) PySem.W.Fast.te17868728402115742887).trans t6')
theorem t3':PySem.W.Fast.tw8377067652309620493 pg=true:=by kernel_rfl
theorem t3:namesResolve pg=true:=(congrFun PySem.W.Fast.te8377067652309620493 _).trans t3'
theorem QlC:looksOpen pg=true:=by
 unfold looksOpen
 with_reducible refine look_both (look_both (look_both (look_both (look_both t1 t2) t3) t4) t5) t6
noncomputable abbrev rw0:=PySem.Challenge.rw_ay0028_03
theorem hPg:rw0.row.prog=pg:=by kernel_rfl
theorem QlD:rw0.row.partSaid=true:=by
 unfold OpenRow.partSaid
 iterate 13 (with_reducible refine look_both ?_ ?_)
 ·with_reducible exact(congrArg looksOpen hPg).trans QlC
 all_goals kernel_rfl
theorem QlE:rw0.row.wellSaid=true:=by
 unfold OpenRow.wellSaid
 with_reducible refine look_both (look_both QlD ?_) ?_
 all_goals kernel_rfl
theorem QlF:rw0.wellSaid=true:=by
 unfold OpenLaw.wellSaid
 iterate 18 (with_reducible refine look_both ?_ ?_)
 ·with_reducible exact QlE
 all_goals kernel_rfl
noncomputable def vw:Program:={ pg with main:={ pg.main with body:=pg.main.body.drop 76 } }
noncomputable def ls:List Str:=pg.boundNames.filter (· != zz "law")
noncomputable abbrev hk:Hook:=kmHook K03 A03 (λ_=>by kernel_rfl) [508,1130]
noncomputable abbrev xt (s:Sh):Bool:=xlAt vw [] s&&recOk (RowW.records rw0.row.toRowW) s
noncomputable abbrev sE (w:World) (os:OsState):Sh:=⟨H1 w.params,#[],{},2395,os⟩
theorem QlG (w:World):((H0 w.params).isNs mainGlobals&&(#[]:Array GenState).size==0,(H0 w.params).objs.size,(H0 w.params).nsMap mainGlobals "__annotations__")=(true,49,some (.ref 6)):=by kernel_rfl
theorem Qly (w:World):(λos:OsState=>(staticsOk (importedModules pg.main.body) (H0 w.params) (H1 w.params)&&namesBound pg (H1 w.params)&&gensDone (sE w os)&&laidKept (H0 w.params) (H1 w.params)))=λ_=>true:=by kernel_rfl
theorem Qlz (w:World):(λos:OsState=>openSeen vw ls (importedModules pg.main.body) xt true (sE w os))=λ_=>openGood vw ls:=by kernel_rfl
theorem QlA (w:World):(λos:OsState=>hk.obs (sE w os))=λ_=>hk.val w:=by kernel_rfl
theorem QlB (w:World):(λos:OsState=>((staticsOk (importedModules pg.main.body) (H0 w.params) (H1 w.params)&&namesBound pg (H1 w.params)&&gensDone (sE w os)&&laidKept (H0 w.params) (H1 w.params)),openSeen vw ls (importedModules pg.main.body) xt true (sE w os),hk.obs (sE w os)))=λ_=>(true,openGood vw ls,hk.val w) :=
 funext λos=>by rw[show (_&&_)=true from congrFun (Qly w) os,show openSeen _ _ _ _ _ _=_ from congrFun (Qlz w) os,show hk.obs _=_ from congrFun (QlA w) os]
theorem Qlx:LeftO pg vw ls xt hk.obs hk.val 30000 :=
 LeftO.of_pieces (open_cut (He:=λP=>absHeap (mkT 12 (hE P)) 49 {}) hO rfl hF) QlG Qnj rfl QlB
noncomputable def dl:DefRec × List (Str × Expr):=match defOf vw (zz "law") with
 |some p=>p
 |none=>(⟨default,default,default,default,default⟩,[])
theorem Qlw:defOf vw rw0.row.toRowW.name=some (dl.1,dl.2):=by kernel_rfl
theorem QlH:rw0.row.prog.theDef rw0.row.toRowW.name=some (dl.1.params,dl.1.body,dl.1.scope):=by kernel_rfl
theorem hKw:kwWritten? dl.1.params.kwonlyargs dl.1.params.kw_defaults=some dl.2:=by kernel_rfl
theorem hOk:(chainsOk vw&&opensWell pg&&(frees rw0.row.toRowW&&rw0.row.within.isEmpty))=true:=by kernel_rfl
theorem hd (call:WalkO vw ls (XL vw []) hk.says rw0.row.toRowW dl.1 dl.2 λf vs=>PySem.call f vs):rw0.Holds:=by
 refine holds_law QlF λsaid=>?_
 refine holds_open (q:=vw) (loose:=ls) (Xt:=xt) (XP:=XL vw []) (N:=30000) Qlx hk.of hk.keeps (λs e=>xl_of s (Bool.and_eq_true_iff.mp e).1) XL.keeps Qlw QlH hKw (λs e=>recFacts_of (Bool.and_eq_true_iff.mp e).2) (by rfl) said hOk ⟨rfl,rfl,rfl,rfl,rfl,by decide +kernel⟩ ?hw call
 case hw=>exact⟨[.list []],by kernel_rfl,by kernel_rfl⟩
theorem e02 {p q:Prop}{G:Prop}(h:p/\q) (k:p->q->G):G:=k h.1 h.2
theorem i02 {p q:Prop}(h0:p) (h1:q):p/\q:=⟨h0,h1⟩
theorem e03 {p q r:Prop}{G:Prop}(h:p/\q/\r) (k:p->q->r->G):G:=k h.1 h.2.1 h.2.2
theorem i03 {p q r:Prop}(h0:p) (h1:q) (h2:r):p/\q/\r:=⟨h0,h1,h2⟩
theorem e04 {p q r s:Prop}{G:Prop}(h:p/\q/\r/\s) (k:p->q->r->s->G):G:=k h.1 h.2.1 h.2.2.1 h.2.2.2
theorem i04 {p q r s:Prop}(h0:p) (h1:q) (h2:r) (h3:s):p/\q/\r/\s:=⟨h0,h1,h2,h3⟩
theorem e05 {p q r s a:Prop}{G:Prop}(h:p/\q/\r/\s/\a) (k:p->q->r->s->a->G):G:=k h.1 h.2.1 h.2.2.1 h.2.2.2.1 h.2.2.2.2
theorem i05 {p q r s a:Prop}(h0:p) (h1:q) (h2:r) (h3:s) (h4:a):p/\q/\r/\s/\a:=⟨h0,h1,h2,h3,h4⟩
theorem e06 {p q r s a b:Prop}{G:Prop}(h:p/\q/\r/\s/\a/\b) (k:p->q->r->s->a->b->G):G:=k h.1 h.2.1 h.2.2.1 h.2.2.2.1 h.2.2.2.2.1 h.2.2.2.2.2
theorem i06 {p q r s a b:Prop}(h0:p) (h1:q) (h2:r) (h3:s) (h4:a) (h5:b):p/\q/\r/\s/\a/\b:=⟨h0,h1,h2,h3,h4,h5⟩
theorem e07 {p q r s a b c:Prop}{G:Prop}(h:p/\q/\r/\s/\a/\b/\c) (k:p->q->r->s->a->b->c->G):G:=k h.1 h.2.1 h.2.2.1 h.2.2.2.1 h.2.2.2.2.1 h.2.2.2.2.2.1 h.2.2.2.2.2.2
theorem i07 {p q r s a b c:Prop}(h0:p) (h1:q) (h2:r) (h3:s) (h4:a) (h5:b) (h6:c):p/\q/\r/\s/\a/\b/\c:=⟨h0,h1,h2,h3,h4,h5,h6⟩
theorem e11 {α:Type}{p:α->Prop}{G:Prop}(h:∃x,p x) (k:∀x,p x->G):G:=h.elim λx h=>k x h
theorem i11 {α:Type}{p:α->Prop}(x:α) (h0:p x):∃x,p x:=⟨x,h0⟩
theorem e12 {α:Type}{p q:α->Prop}{G:Prop}(h:∃x,p x/\q x) (k:∀x,p x->q x->G):G:=h.elim λx h=>k x h.1 h.2
theorem i12 {α:Type}{p q:α->Prop}(x:α) (h0:p x) (h1:q x):∃x,p x/\q x:=⟨x,h0,h1⟩
theorem e13 {α:Type}{p q r:α->Prop}{G:Prop}(h:∃x,p x/\q x/\r x) (k:∀x,p x->q x->r x->G):G:=h.elim λx h=>k x h.1 h.2.1 h.2.2
theorem i13 {α:Type}{p q r:α->Prop}(x:α) (h0:p x) (h1:q x) (h2:r x):∃x,p x/\q x/\r x:=⟨x,h0,h1,h2⟩
theorem e14 {α:Type}{p q r s:α->Prop}{G:Prop}(h:∃x,p x/\q x/\r x/\s x) (k:∀x,p x->q x->r x->s x->G):G:=h.elim λx h=>k x h.1 h.2.1 h.2.2.1 h.2.2.2
theorem i14 {α:Type}{p q r s:α->Prop}(x:α) (h0:p x) (h1:q x) (h2:r x) (h3:s x):∃x,p x/\q x/\r x/\s x:=⟨x,h0,h1,h2,h3⟩
theorem e15 {α:Type}{p q r s a:α->Prop}{G:Prop}(h:∃x,p x/\q x/\r x/\s x/\a x) (k:∀x,p x->q x->r x->s x->a x->G):G:=h.elim λx h=>k x h.1 h.2.1 h.2.2.1 h.2.2.2.1 h.2.2.2.2
theorem i15 {α:Type}{p q r s a:α->Prop}(x:α) (h0:p x) (h1:q x) (h2:r x) (h3:s x) (h4:a x):∃x,p x/\q x/\r x/\s x/\a x:=⟨x,h0,h1,h2,h3,h4⟩
theorem e17 {α:Type}{p q r s a b c:α->Prop}{G:Prop}(h:∃x,p x/\q x/\r x/\s x/\a x/\b x/\c x) (k:∀x,p x->q x->r x->s x->a x->b x->c x->G):G:=h.elim λx h=>k x h.1 h.2.1 h.2.2.1 h.2.2.2.1 h.2.2.2.2.1 h.2.2.2.2.2.1 h.2.2.2.2.2.2
theorem e21 {α β:Type}{p:α->β->Prop}{G:Prop}(h:∃x y,p x y) (k:∀x y,p x y->G):G:=h.elim λx h=>h.elim λy h=>k x y h
theorem i21 {α β:Type}{p:α->β->Prop}(x:α) (y:β) (h0:p x y):∃x y,p x y:=⟨x,y,h0⟩
theorem e22 {α β:Type}{p q:α->β->Prop}{G:Prop}(h:∃x y,p x y/\q x y) (k:∀x y,p x y->q x y->G):G:=h.elim λx h=>h.elim λy h=>k x y h.1 h.2
theorem i22 {α β:Type}{p q:α->β->Prop}(x:α) (y:β) (h0:p x y) (h1:q x y):∃x y,p x y/\q x y:=⟨x,y,h0,h1⟩
theorem e23 {α β:Type}{p q r:α->β->Prop}{G:Prop}(h:∃x y,p x y/\q x y/\r x y) (k:∀x y,p x y->q x y->r x y->G):G:=h.elim λx h=>h.elim λy h=>k x y h.1 h.2.1 h.2.2
theorem i23 {α β:Type}{p q r:α->β->Prop}(x:α) (y:β) (h0:p x y) (h1:q x y) (h2:r x y):∃x y,p x y/\q x y/\r x y:=⟨x,y,h0,h1,h2⟩
theorem e24 {α β:Type}{p q r s:α->β->Prop}{G:Prop}(h:∃x y,p x y/\q x y/\r x y/\s x y) (k:∀x y,p x y->q x y->r x y->s x y->G):G:=h.elim λx h=>h.elim λy h=>k x y h.1 h.2.1 h.2.2.1 h.2.2.2
theorem i24 {α β:Type}{p q r s:α->β->Prop}(x:α) (y:β) (h0:p x y) (h1:q x y) (h2:r x y) (h3:s x y):∃x y,p x y/\q x y/\r x y/\s x y:=⟨x,y,h0,h1,h2,h3⟩
theorem e25 {α β:Type}{p q r s a:α->β->Prop}{G:Prop}(h:∃x y,p x y/\q x y/\r x y/\s x y/\a x y) (k:∀x y,p x y->q x y->r x y->s x y->a x y->G):G:=h.elim λx h=>h.elim λy h=>k x y h.1 h.2.1 h.2.2.1 h.2.2.2.1 h.2.2.2.2
theorem i25 {α β:Type}{p q r s a:α->β->Prop}(x:α) (y:β) (h0:p x y) (h1:q x y) (h2:r x y) (h3:s x y) (h4:a x y):∃x y,p x y/\q x y/\r x y/\s x y/\a x y:=⟨x,y,h0,h1,h2,h3,h4⟩
theorem e26 {α β:Type}{p q r s a b:α->β->Prop}{G:Prop}(h:∃x y,p x y/\q x y/\r x y/\s x y/\a x y/\b x y) (k:∀x y,p x y->q x y->r x y->s x y->a x y->b x y->G):G:=h.elim λx h=>h.elim λy h=>k x y h.1 h.2.1 h.2.2.1 h.2.2.2.1 h.2.2.2.2.1 h.2.2.2.2.2
theorem e28 {α β:Type}{p q r s a b c d:α->β->Prop}{G:Prop}(h:∃x y,p x y/\q x y/\r x y/\s x y/\a x y/\b x y/\c x y/\d x y) (k:∀x y,p x y->q x y->r x y->s x y->a x y->b x y->c x y->d x y->G):G:=h.elim λx h=>h.elim λy h=>k x y h.1 h.2.1 h.2.2.1 h.2.2.2.1 h.2.2.2.2.1 h.2.2.2.2.2.1 h.2.2.2.2.2.2.1 h.2.2.2.2.2.2.2
theorem i28 {α β:Type}{p q r s a b c d:α->β->Prop}(x:α) (y:β) (h0:p x y) (h1:q x y) (h2:r x y) (h3:s x y) (h4:a x y) (h5:b x y) (h6:c x y) (h7:d x y):∃x y,p x y/\q x y/\r x y/\s x y/\a x y/\b x y/\c x y/\d x y:=⟨x,y,h0,h1,h2,h3,h4,h5,h6,h7⟩
theorem e31 {α β γ:Type}{p:α->β->γ->Prop}{G:Prop}(h:∃x y z,p x y z) (k:∀x y z,p x y z->G):G:=h.elim λx h=>h.elim λy h=>h.elim λz h=>k x y z h
theorem i31 {α β γ:Type}{p:α->β->γ->Prop}(x:α) (y:β) (z:γ) (h0:p x y z):∃x y z,p x y z:=⟨x,y,z,h0⟩
theorem e32 {α β γ:Type}{p q:α->β->γ->Prop}{G:Prop}(h:∃x y z,p x y z/\q x y z) (k:∀x y z,p x y z->q x y z->G):G:=h.elim λx h=>h.elim λy h=>h.elim λz h=>k x y z h.1 h.2
theorem i32 {α β γ:Type}{p q:α->β->γ->Prop}(x:α) (y:β) (z:γ) (h0:p x y z) (h1:q x y z):∃x y z,p x y z/\q x y z:=⟨x,y,z,h0,h1⟩
theorem e33 {α β γ:Type}{p q r:α->β->γ->Prop}{G:Prop}(h:∃x y z,p x y z/\q x y z/\r x y z) (k:∀x y z,p x y z->q x y z->r x y z->G):G:=h.elim λx h=>h.elim λy h=>h.elim λz h=>k x y z h.1 h.2.1 h.2.2
theorem i33 {α β γ:Type}{p q r:α->β->γ->Prop}(x:α) (y:β) (z:γ) (h0:p x y z) (h1:q x y z) (h2:r x y z):∃x y z,p x y z/\q x y z/\r x y z:=⟨x,y,z,h0,h1,h2⟩
theorem e34 {α β γ:Type}{p q r s:α->β->γ->Prop}{G:Prop}(h:∃x y z,p x y z/\q x y z/\r x y z/\s x y z) (k:∀x y z,p x y z->q x y z->r x y z->s x y z->G):G:=h.elim λx h=>h.elim λy h=>h.elim λz h=>k x y z h.1 h.2.1 h.2.2.1 h.2.2.2
theorem i34 {α β γ:Type}{p q r s:α->β->γ->Prop}(x:α) (y:β) (z:γ) (h0:p x y z) (h1:q x y z) (h2:r x y z) (h3:s x y z):∃x y z,p x y z/\q x y z/\r x y z/\s x y z:=⟨x,y,z,h0,h1,h2,h3⟩
theorem e35 {α β γ:Type}{p q r s a:α->β->γ->Prop}{G:Prop}(h:∃x y z,p x y z/\q x y z/\r x y z/\s x y z/\a x y z) (k:∀x y z,p x y z->q x y z->r x y z->s x y z->a x y z->G):G:=h.elim λx h=>h.elim λy h=>h.elim λz h=>k x y z h.1 h.2.1 h.2.2.1 h.2.2.2.1 h.2.2.2.2
theorem e36 {α β γ:Type}{p q r s a b:α->β->γ->Prop}{G:Prop}(h:∃x y z,p x y z/\q x y z/\r x y z/\s x y z/\a x y z/\b x y z) (k:∀x y z,p x y z->q x y z->r x y z->s x y z->a x y z->b x y z->G):G:=h.elim λx h=>h.elim λy h=>h.elim λz h=>k x y z h.1 h.2.1 h.2.2.1 h.2.2.2.1 h.2.2.2.2.1 h.2.2.2.2.2
theorem i36 {α β γ:Type}{p q r s a b:α->β->γ->Prop}(x:α) (y:β) (z:γ) (h0:p x y z) (h1:q x y z) (h2:r x y z) (h3:s x y z) (h4:a x y z) (h5:b x y z):∃x y z,p x y z/\q x y z/\r x y z/\s x y z/\a x y z/\b x y z:=⟨x,y,z,h0,h1,h2,h3,h4,h5⟩
theorem i38 {α β γ:Type}{p q r s a b c d:α->β->γ->Prop}(x:α) (y:β) (z:γ) (h0:p x y z) (h1:q x y z) (h2:r x y z) (h3:s x y z) (h4:a x y z) (h5:b x y z) (h6:c x y z) (h7:d x y z):∃x y z,p x y z/\q x y z/\r x y z/\s x y z/\a x y z/\b x y z/\c x y z/\d x y z:=⟨x,y,z,h0,h1,h2,h3,h4,h5,h6,h7⟩
theorem e41 {α β γ δ:Type}{p:α->β->γ->δ->Prop}{G:Prop}(h:∃x y z u,p x y z u) (k:∀x y z u,p x y z u->G):G:=h.elim λx h=>h.elim λy h=>h.elim λz h=>h.elim λu h=>k x y z u h
theorem e42 {α β γ δ:Type}{p q:α->β->γ->δ->Prop}{G:Prop}(h:∃x y z u,p x y z u/\q x y z u) (k:∀x y z u,p x y z u->q x y z u->G):G:=h.elim λx h=>h.elim λy h=>h.elim λz h=>h.elim λu h=>k x y z u h.1 h.2
theorem e43 {α β γ δ:Type}{p q r:α->β->γ->δ->Prop}{G:Prop}(h:∃x y z u,p x y z u/\q x y z u/\r x y z u) (k:∀x y z u,p x y z u->q x y z u->r x y z u->G):G:=h.elim λx h=>h.elim λy h=>h.elim λz h=>h.elim λu h=>k x y z u h.1 h.2.1 h.2.2
theorem i43 {α β γ δ:Type}{p q r:α->β->γ->δ->Prop}(x:α) (y:β) (z:γ) (u:δ) (h0:p x y z u) (h1:q x y z u) (h2:r x y z u):∃x y z u,p x y z u/\q x y z u/\r x y z u:=⟨x,y,z,u,h0,h1,h2⟩
theorem e44 {α β γ δ:Type}{p q r s:α->β->γ->δ->Prop}{G:Prop}(h:∃x y z u,p x y z u/\q x y z u/\r x y z u/\s x y z u) (k:∀x y z u,p x y z u->q x y z u->r x y z u->s x y z u->G):G:=h.elim λx h=>h.elim λy h=>h.elim λz h=>h.elim λu h=>k x y z u h.1 h.2.1 h.2.2.1 h.2.2.2
theorem i44 {α β γ δ:Type}{p q r s:α->β->γ->δ->Prop}(x:α) (y:β) (z:γ) (u:δ) (h0:p x y z u) (h1:q x y z u) (h2:r x y z u) (h3:s x y z u):∃x y z u,p x y z u/\q x y z u/\r x y z u/\s x y z u:=⟨x,y,z,u,h0,h1,h2,h3⟩
theorem e45 {α β γ δ:Type}{p q r s a:α->β->γ->δ->Prop}{G:Prop}(h:∃x y z u,p x y z u/\q x y z u/\r x y z u/\s x y z u/\a x y z u) (k:∀x y z u,p x y z u->q x y z u->r x y z u->s x y z u->a x y z u->G):G:=h.elim λx h=>h.elim λy h=>h.elim λz h=>h.elim λu h=>k x y z u h.1 h.2.1 h.2.2.1 h.2.2.2.1 h.2.2.2.2
theorem e48 {α β γ δ:Type}{p q r s a b c d:α->β->γ->δ->Prop}{G:Prop}(h:∃x y z u,p x y z u/\q x y z u/\r x y z u/\s x y z u/\a x y z u/\b x y z u/\c x y z u/\d x y z u) (k:∀x y z u,p x y z u->q x y z u->r x y z u->s x y z u->a x y z u->b x y z u->c x y z u->d x y z u->G):G:=h.elim λx h=>h.elim λy h=>h.elim λz h=>h.elim λu h=>k x y z u h.1 h.2.1 h.2.2.1 h.2.2.2.1 h.2.2.2.2.1 h.2.2.2.2.2.1 h.2.2.2.2.2.2.1 h.2.2.2.2.2.2.2
theorem e51 {α β γ δ ε:Type}{p:α->β->γ->δ->ε->Prop}{G:Prop}(h:∃x y z u v,p x y z u v) (k:∀x y z u v,p x y z u v->G):G:=h.elim λx h=>h.elim λy h=>h.elim λz h=>h.elim λu h=>h.elim λv h=>k x y z u v h
theorem i51 {α β γ δ ε:Type}{p:α->β->γ->δ->ε->Prop}(x:α) (y:β) (z:γ) (u:δ) (v:ε) (h0:p x y z u v):∃x y z u v,p x y z u v:=⟨x,y,z,u,v,h0⟩
theorem e52 {α β γ δ ε:Type}{p q:α->β->γ->δ->ε->Prop}{G:Prop}(h:∃x y z u v,p x y z u v/\q x y z u v) (k:∀x y z u v,p x y z u v->q x y z u v->G):G:=h.elim λx h=>h.elim λy h=>h.elim λz h=>h.elim λu h=>h.elim λv h=>k x y z u v h.1 h.2
theorem e54 {α β γ δ ε:Type}{p q r s:α->β->γ->δ->ε->Prop}{G:Prop}(h:∃x y z u v,p x y z u v/\q x y z u v/\r x y z u v/\s x y z u v) (k:∀x y z u v,p x y z u v->q x y z u v->r x y z u v->s x y z u v->G):G:=h.elim λx h=>h.elim λy h=>h.elim λz h=>h.elim λu h=>h.elim λv h=>k x y z u v h.1 h.2.1 h.2.2.1 h.2.2.2
theorem i54 {α β γ δ ε:Type}{p q r s:α->β->γ->δ->ε->Prop}(x:α) (y:β) (z:γ) (u:δ) (v:ε) (h0:p x y z u v) (h1:q x y z u v) (h2:r x y z u v) (h3:s x y z u v):∃x y z u v,p x y z u v/\q x y z u v/\r x y z u v/\s x y z u v:=⟨x,y,z,u,v,h0,h1,h2,h3⟩
theorem e55 {α β γ δ ε:Type}{p q r s a:α->β->γ->δ->ε->Prop}{G:Prop}(h:∃x y z u v,p x y z u v/\q x y z u v/\r x y z u v/\s x y z u v/\a x y z u v) (k:∀x y z u v,p x y z u v->q x y z u v->r x y z u v->s x y z u v->a x y z u v->G):G:=h.elim λx h=>h.elim λy h=>h.elim λz h=>h.elim λu h=>h.elim λv h=>k x y z u v h.1 h.2.1 h.2.2.1 h.2.2.2.1 h.2.2.2.2
theorem i55 {α β γ δ ε:Type}{p q r s a:α->β->γ->δ->ε->Prop}(x:α) (y:β) (z:γ) (u:δ) (v:ε) (h0:p x y z u v) (h1:q x y z u v) (h2:r x y z u v) (h3:s x y z u v) (h4:a x y z u v):∃x y z u v,p x y z u v/\q x y z u v/\r x y z u v/\s x y z u v/\a x y z u v:=⟨x,y,z,u,v,h0,h1,h2,h3,h4⟩
theorem e56 {α β γ δ ε:Type}{p q r s a b:α->β->γ->δ->ε->Prop}{G:Prop}(h:∃x y z u v,p x y z u v/\q x y z u v/\r x y z u v/\s x y z u v/\a x y z u v/\b x y z u v) (k:∀x y z u v,p x y z u v->q x y z u v->r x y z u v->s x y z u v->a x y z u v->b x y z u v->G):G:=h.elim λx h=>h.elim λy h=>h.elim λz h=>h.elim λu h=>h.elim λv h=>k x y z u v h.1 h.2.1 h.2.2.1 h.2.2.2.1 h.2.2.2.2.1 h.2.2.2.2.2
theorem i56 {α β γ δ ε:Type}{p q r s a b:α->β->γ->δ->ε->Prop}(x:α) (y:β) (z:γ) (u:δ) (v:ε) (h0:p x y z u v) (h1:q x y z u v) (h2:r x y z u v) (h3:s x y z u v) (h4:a x y z u v) (h5:b x y z u v):∃x y z u v,p x y z u v/\q x y z u v/\r x y z u v/\s x y z u v/\a x y z u v/\b x y z u v:=⟨x,y,z,u,v,h0,h1,h2,h3,h4,h5⟩
theorem e57 {α β γ δ ε:Type}{p q r s a b c:α->β->γ->δ->ε->Prop}{G:Prop}(h:∃x y z u v,p x y z u v/\q x y z u v/\r x y z u v/\s x y z u v/\a x y z u v/\b x y z u v/\c x y z u v) (k:∀x y z u v,p x y z u v->q x y z u v->r x y z u v->s x y z u v->a x y z u v->b x y z u v->c x y z u v->G):G:=h.elim λx h=>h.elim λy h=>h.elim λz h=>h.elim λu h=>h.elim λv h=>k x y z u v h.1 h.2.1 h.2.2.1 h.2.2.2.1 h.2.2.2.2.1 h.2.2.2.2.2.1 h.2.2.2.2.2.2
theorem i57 {α β γ δ ε:Type}{p q r s a b c:α->β->γ->δ->ε->Prop}(x:α) (y:β) (z:γ) (u:δ) (v:ε) (h0:p x y z u v) (h1:q x y z u v) (h2:r x y z u v) (h3:s x y z u v) (h4:a x y z u v) (h5:b x y z u v) (h6:c x y z u v):∃x y z u v,p x y z u v/\q x y z u v/\r x y z u v/\s x y z u v/\a x y z u v/\b x y z u v/\c x y z u v:=⟨x,y,z,u,v,h0,h1,h2,h3,h4,h5,h6⟩
theorem e59 {α β γ δ ε:Type}{p q r s a b c d e:α->β->γ->δ->ε->Prop}{G:Prop}(h:∃x y z u v,p x y z u v/\q x y z u v/\r x y z u v/\s x y z u v/\a x y z u v/\b x y z u v/\c x y z u v/\d x y z u v/\e x y z u v) (k:∀x y z u v,p x y z u v->q x y z u v->r x y z u v->s x y z u v->a x y z u v->b x y z u v->c x y z u v->d x y z u v->e x y z u v->G):G:=h.elim λx h=>h.elim λy h=>h.elim λz h=>h.elim λu h=>h.elim λv h=>k x y z u v h.1 h.2.1 h.2.2.1 h.2.2.2.1 h.2.2.2.2.1 h.2.2.2.2.2.1 h.2.2.2.2.2.2.1 h.2.2.2.2.2.2.2.1 h.2.2.2.2.2.2.2.2
theorem QeH {α:Type}{a:α}{G:Prop}(h:some a=none):G:=nomatch h
theorem Qo1 {α:Type}{a:α}{G:Prop}(h:none=some a):G:=nomatch h
theorem t_f {G:Prop}(h:true=false):G:=nomatch h
theorem f_t {G:Prop}(h:false=true):G:=nomatch h
theorem Qo0 {α:Type}{a:α}{G:Prop}(h:a∈([]:List α)):G:=nomatch h
theorem c_n {α:Type}{a:α}{l:List α}{G:Prop}(h:a::l=[]):G:=nomatch h
theorem n_c {α:Type}{a:α}{l:List α}{G:Prop}(h:[]=a::l):G:=nomatch h
theorem sn2 {α:Type}{x:Option α}{a:α}{G:Prop}(h:x=some a) (h':x=none):G:=QeH (h.symm.trans h')
theorem ns2 {α:Type}{x:Option α}{a:α}{G:Prop}(h:x=none) (h':x=some a):G:=sn2 h' h
theorem ss2 {α:Type}{x:Option α}{a b:α}(h:x=some a) (h':x=some b):a=b:=Option.some.inj (h.symm.trans h')
theorem tf2 {x:Bool}{G:Prop}(h:x=true) (h':x=false):G:=t_f (h.symm.trans h')
theorem ft2 {x:Bool}{G:Prop}(h:x=false) (h':x=true):G:=tf2 h' h
theorem m_0 {α:Type}{a:α}{l:List α}:a∈a::l:=.head _
theorem m_1 {α:Type}{a b:α}{l:List α}:a∈b::a::l:=.tail _ m_0
theorem m_2 {α:Type}{a b c:α}{l:List α}:a∈b::c::a::l:=.tail _ m_1
theorem m_3 {α:Type}{a b c d:α}{l:List α}:a∈b::c::d::a::l:=.tail _ m_2
theorem QoZ {a b c:Nat}(h:a < b) (h2:b<=c):a<=c:=Nat.le_of_lt (Nat.lt_of_lt_of_le h h2)
theorem le3 {a b c d:Nat}(h:a<=b) (h2:b<=c) (h3:c<=d):a<=d:=Nat.le_trans h (Nat.le_trans h2 h3)
theorem ls1 {n i k:Nat}(h:n - i=k+1):n - (i+1)=k:=congrArg Nat.pred h
theorem ls0 {n i:Nat}(h:n - i=0) (hi:i<=n):i=n:=Nat.le_antisymm hi (Nat.sub_eq_zero_iff_le.mp h)
theorem ls3 {n i k:Nat}(h:n - i=k+1):k=n - 1 - i:=((Nat.sub_right_comm n 1 i).trans (congrArg Nat.pred h)).symm
theorem ls4 {n i:Nat}(h:i < n):n - i=n - i - 1+1:=(Nat.sub_add_cancel (Nat.sub_pos_of_lt h)).symm
theorem ls5 {n i j k:Nat}(h1:n - i=k+1) (h2:j < n) (h3:k=n - 1 - j):j=i :=
 (Nat.sub_sub_self (Nat.le_sub_one_of_lt h2)).symm.trans ((congrArg (n - 1 - ·) (h3.symm.trans (ls3 h1))).trans (Nat.sub_sub_self (Nat.le_sub_one_of_lt (Nat.lt_of_sub_eq_succ h1))))
theorem snq {n i j:Nat}(h1:n=i) (h2:¬ j < n) (h3:j - n=0):j=i:=(Nat.le_antisymm (Nat.sub_eq_zero_iff_le.mp h3) (Nat.not_lt.mp h2)).trans h1
theorem fmT {a:Int}{n:Nat}(h:0 < n):(a.fmod n).toNat < n:=(Int.toNat_lt' h).mpr (Int.fmod_lt_of_pos _ (Int.natCast_pos.mpr h))
theorem fm8 {a:Int}:(a.fmod 8).toNat < 8:=fmT (n:=8) (by decide)
theorem fm4 {a:Int}:(a.fmod 4).toNat < 4:=fmT (n:=4) (by decide)
theorem fmS {a:Int}:a.fmod 8 < 2 ^ 60:=Int.lt_trans (Int.fmod_lt_of_pos _ (by decide)) (by decide)
theorem QoU {a:Int}:a.fmod 4 < 2 ^ 60:=Int.lt_trans (Int.fmod_lt_of_pos _ (by decide)) (by decide)
theorem lt4 {i:Nat}(h:i < 4):i=0\/i=1\/i=2\/i=3:=(show ∀i,i < 4->i=0\/i=1\/i=2\/i=3 by decide +kernel) i h
theorem QoX {a b c d:Nat}(h:a=b) (h2:b<=c) (h3:c<=d):a<=d:=h▸Nat.le_trans h2 h3
theorem sz1 {l s z b:Nat}(h:l<=s) (h2:z=1+s) (h3:z < b):l < b:=Nat.lt_of_le_of_lt (h2▸Nat.le_trans h (Nat.le_add_left ..)) h3
theorem sz2 {l s z b d:Nat}(h:l<=s) (h2:1+s<=z) (h3:z<=b) (h4:b<=d):l<=d:=Nat.le_trans h (Nat.le_trans (Nat.le_add_left ..) (Nat.le_trans h2 (Nat.le_trans h3 h4)))
theorem ltt {i l s:Nat}(h:i < l) (h2:l<=s):i<=s:=Nat.le_trans (Nat.le_of_lt h) h2
theorem sle {a b c:Nat}(h:a<=b) (h2:b<=c):a - 1<=c:=Nat.le_trans (Nat.sub_le ..) (Nat.le_trans h h2)
theorem nn0 {α:Type}{b x:α}{l:List α}(h:b∉x::l):b≠x:=λq=>h (q▸.head _)
theorem nnt {α:Type}{b x:α}{l:List α}(h:b∉x::l):b∉l:=λq=>h (.tail _ q)
theorem nn1 {α:Type}{b x y:α}{l:List α}(h:b∉y::x::l):b≠x:=nn0 (nnt h)
theorem nn2 {α:Type}{b x y z:α}{l:List α}(h:b∉z::y::x::l):b≠x:=nn1 (nnt h)
theorem nn3 {α:Type}{b x y z u:α}{l:List α}(h:b∉u::z::y::x::l):b≠x:=nn2 (nnt h)
theorem Qav {α:Type}{xs:List α}{i:Nat}(h:i < xs.length):xs.toArray[i]?=some xs[i]:=(List.getElem?_toArray ..).trans (List.getElem?_eq_getElem h)
theorem Qdw {α:Type}{xs:List α}:xs.toArray[xs.length]?=none:=(List.getElem?_toArray ..).trans (List.getElem?_eq_none (Nat.le_refl _))
theorem fa0 {α:Type}{p:α->Prop}:∀x∈([]:List α),p x:=λ_ h=>nomatch h
theorem fa1 {α:Type}{l:List α}{a:α}{p:α->Prop}(h:l=[a]) (q:p a):∀x∈l,p x:=λx hx=>by rw[h] at hx;exact ms_.mp hx▸q
theorem fa2 {α:Type}{l:List α}{a b:α}{p:α->Prop}(h:l=[a,b]) (q:p a) (r:p b):∀x∈l,p x:=λx hx=>by rw[h] at hx;exact(mc_.mp hx).elim (λe=>e▸q) (λh=>fa1 rfl r x h)
theorem nd1 {α:Type}{l:List α}{a:α}(h:l=[a]):l.Nodup:=h▸nc_.mpr ⟨λh=>(nomatch h),List.nodup_nil⟩
theorem nd2 {α:Type}{l:List α}{a b:α}(h:l=[a,b]) (q:a≠b):l.Nodup:=h▸nc_.mpr ⟨λh=>q (ms_.mp h),nd1 rfl⟩
theorem sb1 {n m:Nat}(h:n<=m):m=n+(m - n):=(Nat.add_sub_cancel' h).symm
theorem sb2 {n m:Nat}(h:¬ m<=n):m=n+(m - n):=sb1 (Nat.le_of_lt (Nat.not_le.mp h))
theorem sb3 {l n:Nat}(h:l=n+1):l - 1=n:=h▸rfl
theorem sb4 {N k:Nat}(h:k<=N):N=N - k+k:=(Nat.sub_add_cancel h).symm
theorem pw1 {x i:Nat}(h:x<=(11*2 ^ i - 4+4)*2 ^ 1) (hp:1<=2 ^ i):x<=11*(2 ^ i*2):=by
 rw[Nat.sub_add_cancel (Nat.le_trans (by decide) (Nat.mul_le_mul_left 11 hp)),Nat.pow_one,Nat.mul_assoc] at h;exact h
theorem pw2 {i W:Nat}(h:11*2 ^ i<=176) (h2:W+4<=11*2 ^ i):(11*2 ^ i - 4+4)*2 ^ 1<=404:=by
 rw[Nat.sub_add_cancel (Nat.le_trans (Nat.le_add_left 4 W) h2),Nat.pow_one];exact Nat.le_trans (Nat.mul_le_mul_right 2 h) (by decide)
theorem nab {j:Nat}(h:j < 2 ^ 20):(j:Int).natAbs < 1073741824:=Nat.lt_trans h (by decide)
theorem lns {l j:Nat}(h:l=j+1):((-1:Int)+(l:Int)).toNat=j:=by subst h;show (-1+((j:Int)+1)).toNat=j;rw[Int.add_comm,Int.add_assoc];exact Int.toNat_natCast j
theorem mnl {l j:Nat}(h:l=j+(0+1)):l - 1=min j l:=by subst h;exact(Nat.min_eq_left (Nat.le_add_right ..)).symm
theorem kl9 {l p z:Nat}(h:l=p) (h2:p+z<=10000):l<=19999:=h▸Nat.le_trans (Nat.le_add_right ..) (Nat.le_trans h2 (by decide))
theorem mlr {a b c d:Nat}(h:b<=c) (h2:c<=d):min a b<=d:=Nat.le_trans (Nat.min_le_right ..) (Nat.le_trans h h2)
theorem QoY {j p q:Nat}(h:j < p) (h2:p=q):j < min p q:=by subst h2;rw[Nat.min_self];exact h
theorem dep {d N k:Nat}(h:d+N < k):d < k:=Nat.lt_of_le_of_lt (Nat.le_add_right ..) h
theorem rm1 {a M N k:Nat}(h:M<=N) (h2:a+N < k):a+M < k:=Nat.lt_of_le_of_lt (Nat.add_le_add_left h a) h2
theorem Qo3 {a M N k:Nat}(h:M<=N) (h2:a+20*N < k):a+20*M < k:=Nat.lt_of_le_of_lt (Nat.add_le_add_left (Nat.mul_le_mul_left 20 h) a) h2
theorem QoT {x:Int}{n b:Nat}(h:x < n) (h2:n<=b) (h3:b<=100000):x < 2 ^ 60:=Int.lt_of_lt_of_le h (Int.le_trans (Int.ofNat_le.mpr (Nat.le_trans h2 h3)) (by decide))
theorem sb6 {s N:Nat}(h:1<=s) (h2:s<=N):s - 1+1<=N:=(Nat.sub_add_cancel h).symm▸h2
theorem sb7 {Y N:Nat}(h:4*Y+4<=N) (h2:1<=Y):N=N - 6+6:=sb4 (Nat.le_trans (Nat.add_le_add_right (Nat.mul_le_mul_left 4 h2) 2) (Nat.le_trans (Nat.add_le_add_left (by decide:2<=4) _) h))
theorem jq {q n M:Nat}(h:4*n+4<=M+6) (h2:q < n):4*q+4<=M+2:=Nat.le_of_add_le_add_right (b:=4) (Nat.le_trans (Nat.add_le_add_right (Nat.mul_le_mul_left 4 h2) 4) h)
theorem wt {w:Int}{n p:Nat}(h:w < n) (h1:n=p) (h2:1<=p):w.toNat < n:=(Int.toNat_lt' (h1▸h2)).mpr h
theorem pj {i j:Nat}(h:¬ j < i) (h2:¬ j=i):i < j:=Nat.lt_of_le_of_ne (Nat.not_lt.mp h) (Ne.symm h2)
theorem pj1 {i j:Nat}(h:¬ j < i) (h2:¬ j=i):1<=j:=Nat.lt_of_le_of_lt (Nat.zero_le i) (pj h h2)
theorem sb8 {i j:Nat}(h:¬ j < i) (h2:¬ j=i):j=j - 1+1:=(Nat.sub_add_cancel (pj1 h h2)).symm
theorem sb9 {i j:Nat}(h:¬ j < i) (h2:¬ j=i):¬ j - 1 < i:=Nat.not_lt.mpr (Nat.le_sub_one_of_lt (pj h h2))
theorem ls2 {n i k:Nat}(h:n - i=k+1):i < n:=Nat.lt_of_sub_eq_succ h
theorem ls6 {n i:Nat}(h:n - i=0):n<=i:=Nat.sub_eq_zero_iff_le.mp h
theorem Qeu {α:Type}{l:List α}{x y:α}(h:x∈l) (h2:y∉l):x≠y:=λe=>h2 (e▸h)
theorem lmL {α β:Type}{f:α->β}{l:List α}{n:Nat}(h:l.length<=n):(l.map f).length<=n:=lm_ f▸h
theorem lmT {α β:Type}{f:α->β}{l:List α}{n:Nat}(h:l.length < n):(l.map f).length < n:=lm_ f▸h
theorem nsg {α:Type}{a b:α}(h:a≠b):a∉[b]:=λhm=>h (ms_.mp hm)
@[elab_as_elim] theorem memS {α:Type}{a b:α}{p:α->Prop}(hb:b∈[a]) (h:p a):p b:=ms_.mp hb▸h
theorem QoW {α:Type}{l:List α}{x:α}{n:Nat}(h:l.length+1<=n):(l++[x]).length<=n:=by rw[la_];exact h
abbrev Sx := Lean.Syntax
def zN (k : String) (l : List Sx) : Sx := .node .none (.str `Lean.Parser.Tactic k) l.toArray
def zM (k : String) (l : List Sx) : Sx := .node .none (.str `Lean.Parser.Term k) l.toArray
def zA (s : String) : Sx := .atom .none s
def zL (l : List Sx) : Sx := .node .none `null l.toArray
def zI (n : Lean.Name) : Sx := Lean.mkIdent n
def zs (s : String) : Sx := zI s.toName
def zmap (f : Sx -> Sx) : List Sx -> List Sx
 | []=>[]
 | a :: r => f a :: zmap f r
def zsemi : List Sx -> List Sx
 | []=>[]
 | a :: r => a :: (if r.isEmpty then [] else zA ";" :: zsemi r)
def zQ (l : List Sx) : Sx := zN "tacticSeq" [zN "tacticSeq1Indented" [zL (zsemi l)]]
def zP (l : List Sx) : Sx := zN "paren" [zA "(", zQ l, zA ")"]
def zF (l : List Sx) : Sx := zN "first" [zA "first", zL (zmap (λ a => .node .none `group #[zA "|", zQ [a]]) l)]
def zW (t : Sx) : Sx := zN "withReducible" [zA "with_reducible", zQ [t]]
def zT (k : String) (l : List Sx) : Sx := zN k (zA k :: l)
def zH (n : Sx) : Sx := zM "syntheticHole" [zA "?", n]
def zU : Sx := zM "hole" [zA "_"]
def zB (t : Sx) : Sx := zM "byTactic" [zA "by", zQ [t]]
def zO (l : List Sx) : Sx := zN "optConfig" [zL l]
def zX (f : Sx) (l : List Sx) : Sx := if l.isEmpty then f else zM "app" [f, zL l]
def zG (t : Sx) : Sx := zN "failIfSuccess" [zA "fail_if_success", zQ [zN "failIfSuccess" [zA "fail_if_success", zQ [t]]]]
def zC (s : String) : Sx := zO [zN "configItem" [zN "posConfigItem" [zA "+", zs s]]]
def zK (s : String) : Sx := zN "fail" [zA "fail", zL [Lean.Syntax.mkStrLit s]]
def zV (s : String) : Sx :=
 if s == "rfl" then zT "exact" [zs "rfl"] else if s == "k" then .node .none `tacticKernel_rfl #[zA "kernel_rfl"]
 else if s == "dec" then zT "decide" [zO []] else if s == "as" then zT "assumption" []
 else if s == "asr" then zW (zT "assumption" []) else if s == "lia" then zT "lia" [zO []] else if s == "omega" then zT "omega" [zC "splitNatSub"] else zK s
def ztm : List String -> List (List Sx) -> Sx
 | [],(a::_)::_=>a
 | "(" :: r, st => ztm r ([] :: st)
 | ")" :: r, l :: m :: st => ztm r (((match l.reverse with | f :: x => zX f x | [] => zU) :: m) :: st)
 | w :: r, l :: st => ztm r (((if w == "_" then zU else zs w) :: l) :: st)
 | _, _ => zU
def zalt (g : Lean.Name -> Lean.Name) : List String -> List Sx -> List Sx -> Sx × List Sx
 | [], as, ps => (zL as.reverse, ps.reverse)
 | w::r,as,ps =>
  if w == "_" then zalt g r (zH (zA "_") :: as) ps
  else if w == "." then zalt g r (zU :: as) ps
  else if w == "a" then zalt g r (zB (zT "assumption" []) :: as) ps
  else if w == "d" then zalt g r (zB (zT "decide" [zC "kernel"]) :: as) ps
  else if w == ";" then zalt g r as (zT "intro" [zL [zs "zt"]] :: ps)
  else match w.splitOn ":" with
   | [x, _] => zalt g r (zM "namedArgument" [zA "(", zs x, zA ":=", zH (zI (g x.toName)), zA ")"] :: as) ps
   | _=>match w.splitOn "=" with
    | [x,v] =>
     let h := zI (g x.toName)
     zalt g r (zH h :: as) (zT "case" [zL [zN "caseArg" [.node .none `Lean.binderIdent #[h], zL []]], zA "=>", zQ [zV v]] :: ps)
    | _ => zalt g r as ps
def zdo (g : Lean.Name -> Lean.Name) (s : String) : Sx :=
 match s.splitOn " > " with
 | [t, k] => zP [zG (zW (zT "show" [ztm (("(" :: t.splitOn " ") ++ [")"]) [[]]])), zV k]
 | _=>match s.splitOn " " with
  | ["=", k] => zV k
  | ["*", k] => .node .none `Lean.Parser.Tactic.tacticRepeat_ #[zA "repeat", zQ [zV k]]
  | n :: r => let q := zalt g r [] []; zP (zW (zT "refine" [zM "app" [zs n, q.1]]) :: q.2)
  | [] => zL []
def zrow (g : Lean.Name -> Lean.Name) : List String -> List Sx
 | []=>[]
 | a :: r => zdo g a :: zrow g r
def zfind (k : String) : List String -> Option String
 | []=>none
 | l::r=>match l.splitOn "@" with
  | [x, y] => if x == k then some y else zfind k r
  | _ => zfind k r
def ztab (T k : String) : Lean.MacroM (Lean.TSyntax `tactic) := do
 let m <- Lean.MonadQuotation.getContext
 let s <- Lean.MonadQuotation.getCurrMacroScope
 match zfind k (T.splitOn "\n") with
 | some y => pure ⟨zF (zrow (Lean.addMacroScope m · s) (y.splitOn " | "))⟩
 | none => Lean.Macro.throwUnsupported
def zargs (s : Sx) : List Sx := s.getSepArgs.toList
def zpat (q : Sx) : Option Sx := match q[1].isNone, zargs q[0][0] with
 | true, [a] => if a.getKind == `Lean.Parser.Tactic.rcasesPat.ignore then some zU else if a.getKind == `Lean.Parser.Tactic.rcasesPat.one && a[0].getId != `rfl then some a[0] else none
 | _,_=>none
def zob (p e : Sx) : Sx := zT "obtain" [zL [p], zL [], zL [zA ":=", zL [e]]]
def zcom : List Sx -> List Sx
 | []=>[]
 | a :: r => a :: (if r.isEmpty then [] else zA "," :: zcom r)
def ztup (l : List Sx) : Sx := zN "rcasesPatMed" [zL [.node .none `Lean.Parser.Tactic.rcasesPat.tuple #[zA "⟨", zL (zcom l), zA "⟩"]]]
def zmed (l : List Sx) : Sx := match l with
 | [a]=>a[0]
 | _ => ztup l
def zlem (p : String) (x n : Nat) : Sx := zs (p ++ toString x ++ toString n)
def zbnd (u v : Sx) : List Sx -> List Sx × List Sx
 | []=>([],[])
 | p :: r => match zpat p with
  | some b => let q := zbnd u v r; (b :: q.1, q.2)
  | none=>match r with
   | [] => ([u], [zob p[0] u])
   | r => match r, zpat r.head! with
    | [_], some b => ([u, b], [zob p[0] u])
    | r, _ => ([u, v], [zob p[0] u, zob (zmed r) v])
def zup (f : Nat -> Sx) : Nat -> List Sx
 | 0=>[]
 | n + 1 => zup f n ++ [f n]
def zdown (f : Nat -> List Sx) : Nat -> List Sx
 | 0=>[]
 | n + 1 => f n ++ zdown f n
def zobt (u v : Sx) (ps : List Sx) (e : Sx) : Sx :=
 let B := zbnd u v ps
 let k:=B.1.length
 let clr := if e.isIdent then [zT "try" [zQ [zT "clear" [zL [e]]]]] else []
 let clr := match clr with | [c] => [Lean.Syntax.node .none `Lean.Parser.Tactic.tacticTry_ c.getArgs] | l => l
 let alts (f : Sx -> Sx) : List Sx := zdown (λ i =>
  let m:=i+2
  let b:=if m==k then B.1 else B.1.take (m - 1)++[v]
  let po := if m == k then B.2 else [zob (ztup (ps.drop (m - 1))) v]
  zup (λ x =>
   let r := zT "refine" [zM "app" [zlem "e" x (m - x), zL [e, zH (zA "_")]]]
   zP (f r :: clr ++ zT "intro" [zL b] :: po)) (min m 6)) (k - 1)
 zF ((if e.isIdent then alts zW else []) ++ alts id
  ++ [zT "rcases" [zL [zN "elimTarget" [zL [], e]], zL [zA "with", zN "rcasesPatLo" [ztup ps, zL []]]]])
def zsc : Lean.MacroM (Lean.Name -> Lean.Name) := do
 let m <- Lean.MonadQuotation.getContext
 let s <- Lean.MonadQuotation.getCurrMacroScope
 pure (Lean.addMacroScope m · s)
def zrin (u : Sx) : List Sx -> List Sx -> List Sx
 | [],[]=>[]
 | [], c => [zT "intro" [zL c.reverse]]
 | p::r,c =>
  let q:=p[0]
  if q.getKind == `Lean.Parser.Tactic.rcasesPat.ignore then zrin u r (zU :: c)
  else if q.getKind == `Lean.Parser.Tactic.rcasesPat.one && q[0].getId != `rfl then zrin u r (q[0] :: c)
  else zT "intro" [zL (u :: c).reverse] :: zob (zN "rcasesPatMed" [zL [q]]) u :: zrin u r []
def zan (k : String) (xs : List Sx) : Sx :=
 let go (p : Nat) (q : Nat) : Sx := zF (zdown (λ i =>
  let m:=i+2
  let as := if m == xs.length then xs else xs.take (m - 1) ++ [zM "anonymousCtor" [zA "⟨", zL (zcom (xs.drop (m - 1))), zA "⟩"]]
  if q == 0 then [zT k [zM "app" [zlem "i" 0 m, zL as]]] else
  zup (λ x => zT k [zM "app" [zlem "i" (x + 1) (m - x - 1), zL as]]) (min (m - 1) 5)) (xs.length - 1))
 let t := zM "anonymousCtor" [zA "⟨", zL (zcom xs), zA "⟩"]
 let tr (n l : String) (h : Nat) : Sx := zP [zG (zW (zT "show" [zX (zs n) (List.replicate h zU)])), zT k [zM "app" [zs l, zL xs]]]
 zF ((if xs.length == 9 then [tr "ForTurns" "frI" 10, tr "CompTurns" "ctI" 12] else []) ++ [zP [zG (zW (zT "show" [zX (zs "And") [zU, zU]])), go 0 0], zP [zG (zT "show" [zX (zs "Exists") [zU]]), go 1 1],
  zT k [zM "paren" [zM "hygienicLParen" [zA "(", .node .none `hygieneInfo #[zI .anonymous]], t, zA ")"]]])
def zno (x : Sx) : List Sx := zmap (λ l => zW (zT "exact" [zX l [x]])) [zs "ns_ne", zs "ne_ns", zs "t_f", zs "f_t", zs "m_nil", zs "c_n", zs "n_c"]
local macro_rules
 | `(tactic| cases $x:ident) => do pure (zF (zno x ++ [(<- `(tactic| with_reducible (replace $x:ident := Option.some.inj $x; subst $x:ident))).raw, (<- `(tactic| cases ($x))).raw]))
 | `(nomatch $x:ident) => do pure (zM "byTactic" [zA "by", zQ [zF (zno x ++ [zT "exact" [(<- `(nomatch ($x))).raw]])]])
local macro_rules
 | `(tactic| cases $x:term, $y:ident) => `(tactic| first | with_reducible exact sn2 $x $y | with_reducible exact ns2 $x $y | with_reducible exact tf2 $x $y | with_reducible exact ft2 $x $y | with_reducible (replace $y:ident := ss2 $x $y; subst $y:ident) | (rw [$x:term] at $y:ident; cases $y:ident))
local macro_rules
 | `(tactic| obtain ⟨$ps,*⟩ := $e:term) => do
  let g <- zsc
  pure (zobt (zI (g `h1)) (zI (g `h2)) (zargs (zL ps.elemsAndSeps.toList)) e)
 | `(tactic| rintro $ps*) => do
  let g <- zsc
  if ps.any (λ p => p.raw.getKind != `Lean.Parser.Tactic.rintroPat.one) then Lean.Macro.throwUnsupported
  pure (zP (zrin (zI (g `h1)) (ps.toList.map (·.raw)) []))
 | `(tactic| refine ⟨$xs,*⟩) => if xs.getElems.size < 2 then Lean.Macro.throwUnsupported else pure (zan "refine" (zargs (zL xs.elemsAndSeps.toList)))
 | `(tactic| exact ⟨$xs,*⟩) => if xs.getElems.size < 2 then Lean.Macro.throwUnsupported else pure (zan "exact" (zargs (zL xs.elemsAndSeps.toList)))
 | `(tactic| omega) => pure (zK "om")
 | `(tactic| simp) => do pure (zF [zK "simp", (<- `(tactic| simp +proj)).raw])
def zT0 : String := "w-look@= rfl | = as | upd_skip h=w-look d | = no
w-name@QgF v: a hx=rfl ht=rfl _ | QgV v: h=w-look _ d d
ev@Qn2 a hx=rfl ht=rfl | Qn3 h=w-look d d | Qn4 | Qn0 | Qn1 f: v: u: hf=ev h1=ev h2=ev hc=callee hr=rc hs=rfl
rc@Qn7 a | Qn9 a | Qn8 a | Qoa a
tst@Tst_not h=tst | Qoi h=tsta | Qoj h=ev he=rfl
tsta@TstA_and0 | TstA_or0 | Qoh x: h=tst hb=rfl | TstA_andT x: h=tst hb=rfl h2=tsta | TstA_orT x: h=tst hb=rfl | TstA_orF x: h=tst hb=rfl h2=tsta
callee@YA | QoS | QoR hck=rfl
w-eval@Tactic.W _ _ _ _ _ ( PySem.eval ( PySem.Expr.Name _ _ ) _ ) _ > w-name | Qov hs=rfl _ | QoA hs=rfl _ | Qbz _ ; | Yd _ ; | Qop f: v: hf=ev h1=ev hc=callee _ hs=rfl | Qgq f: v: u: hf=ev h1=ev h2=ev hc=callee _ hs=rfl | Qoq f: v: u: t: hf=ev h1=ev h2=ev h3=ev hc=callee _ hs=rfl | Qbh f: hf=ev _ hs=rfl | Qgp hs=rfl _ | Qow v: hs=rfl h1=ev _ hb=rfl hl=rfl hn=dec | Qbj hs=rfl _ hb=rfl hl=rfl hn=dec | Qom v: h1=ev _ hb=rfl | Qgo _ hb=rfl | Qoy v: u: h1=ev h2=ev _ | Qoz v: h1=ev _ | QcU _ | Qos v: u: h1=ev h2=ev _ hm=rfl | Qot v: h1=ev _ hm=rfl | QcQ _ hm=rfl | Qon v: u: h1=ev h2=ev _ | Qoo v: h1=ev _ | QcP _ | QgZ _ | Qgw _ | Qou _ | Qok _ | Qol _ | W_Or2 _ | W_Not _ | Qor hs=rfl hk=rfl _ | Qox hs=rfl hk=rfl _ hb=rfl hl=rfl hn=dec
w-exec@Qdq _ hsw=rfl | QoM x: h=tst hb=rfl _ | Qhk x: h=tst hb=rfl _ | X1 _ | Qhl v: h1=ev _ | Qdr _ | Qhg v: a hl=rfl h1=ev _ hsw=rfl | Qau a hl=rfl _ hsw=rfl | Qhj _ hi=rfl hsw=rfl | QoK _ hsw=rfl | QoL _ hsw=rfl | X_AsgCell a hl=rfl _ hsw=rfl | X_Pass _
w-true@Qoe _ | Qgi _ | Qoc v: u: h1=ev h2=ev _ hm=rfl | Qod v: h1=ev _ hm=rfl | QcN _ hm=rfl | Qgl v: h1=ev _ he=rfl | Qgk _ he=rfl
w-args@QfA v: h1=ev _ | QfB v: u: h1=ev h2=ev _ | QfC v: u: x: h1=ev h2=ev h3=ev _ | A_1 _ | A_2 _ | A_0 _ | A_3 _ | A_4 _ | A_6 _ | A_8 _
seqk@Qo4
w-call@QgM a _ | QgL a _ | Qdc a _ | Qdb a _ | QoE a _ | QoB a _ | QoC a _ | QoD a h=seqk _
w-and@And.intro h=callee _ | Qje hb=rfl _ | Qdy hb=rfl _ | QoQ hb=rfl _ | QoP hb=rfl _
w1@Tactic.W _ _ _ _ _ ( PySem.eval _ _ ) _ > w-eval | And _ _ > w-and | Zm _ _ _ _ _ _ _ _ > w-args | Tactic.W _ _ _ _ _ ( PySem.isTrue _ _ _ ) _ > w-true | Tactic.W _ _ _ _ _ ( PySem.call _ _ _ ) _ > w-call | Qgj _ | Xa _ | Qgn _ | QoF v: a hl=rfl h1=ev _ hsw=rfl | QoG a hl=rfl _ hsw=rfl | QoI v: h1=ev _ | QoJ _ | QoH y: h=tst hb=rfl _ | XS_expr _ hi=rfl hs=rfl | Qm _ | Tactic.W _ _ _ _ _ ( PySem.exec _ _ ) _ > w-exec | Qgh _ | Qob _ | Qof _ | Qog _ | ZV _ | Qn5 _ | Qn6 _
ww@* w1
w2@Tactic.W _ _ _ _ _ ( PySem.compareOp _ _ _ ) _ > w-cmp | = w1
w-cmp@Yv _
wu@* w2
stay@= rfl | QnL a d h=stay
own@= as | Qa . . . | Qo2 a h=own
ext@= as | Ext.refl | Ext.putRN h=ext a
fn@fnW a hF=fnat | fnC a hF=fnat | QoV a hF=fnat | QdV a hF=fnat
fnat@Qaf.mk h1=fnb h2=k h3=k h4=k h5=k h6=rfl h7=rfl h8=rfl h9=rfl x1=rfl x2=rfl x3=rfl
fnb@QoN h=rfl | QoO T: o: items: n: k: h1=rfl h2=rfl h3=rfl h4=rfl h5=rfl
om@= asr | lmL h=om | lmT h=om | QoW h=om | lapT h=om | ls1 a | ls2 a | ls0 a a | ls3 a | ls6 a | sb1 a | sb2 a | sb3 a | sb6 a a | sb7 a a | sb4 h=nle | sb8 a a | sb9 a a | pj1 a a | Nat.le_sub_one_of_lt a | snq a a a | fm8 | fm4 | fmS | QoU | fmT a | lteq a a | QoX a a h=ble | leqe a a h=ble | sz1 a a a | sz2 a a a h=ble | ltt a a | sle a h=ble | Nat.le_trans a h=ble | Nat.le_add_right . . | Nat.add_le_add_left h=ble . | Nat.lt_of_lt_of_le a h=ble | Nat.lt_of_le_of_lt a h=ble | QoZ a h=ble | Nat.succ_le_succ a | Nat.succ_pos . | Nat.le_succ_of_le a | Nat.add_le_add_right a . | le3 a a h=ble | Nat.le_sub_of_add_le a | pw1 a a | pw2 a a | nab a | lns a | mnl a | kl9 a a | mlr a h=ble | mnr a | QoY a a | ltm a a | dep a | rm1 a a | Qo3 a a | QoT a a h=ble | jq a a | wt a a a | = lia | = omega
nle@= as | Nat.le_trans h=ble a | Nat.le_trans h=lal a
lal@Nat.le_add_left . .
simp@Nat.le_of_ble_eq_true h=rfl | m_0 | m_1 | m_2 | m_3
ble@Nat.le_of_ble_eq_true h=rfl"
local macro_rules | `(tactic| walk_at $s:str) => ztab zT0 s.getString
local macro_rules | `(tactic| left) => `(tactic| fail "ww")
local macro_rules | `(tactic| right) => `(tactic| fail "wu")
local macro_rules | `(tactic| nofun) => `(tactic| fail "w-look")
local macro_rules | `(tactic| ac_rfl) => `(tactic| decide +kernel)
local macro_rules | `(tactic| symm) => `(tactic| kernel_rfl)
local macro_rules | `(tactic| fail $s:str) => ztab zT0 s.getString
noncomputable abbrev Own:=Ad->Option Obj
noncomputable abbrev Loc:=Str->Option Vl
noncomputable abbrev KV:=Vl->Loc->Own->Prop
noncomputable abbrev KO:=Vl->Own->Prop
noncomputable abbrev KF_:=Flow->Loc->Own->Prop
noncomputable abbrev KB_:=Bool->Loc->Own->Prop
noncomputable abbrev KU_:=Unit->Loc->Own->Prop
noncomputable abbrev KL_:=List Vl->Loc->Own->Prop
noncomputable abbrev KQ_:=Vl->Sh->Prop
noncomputable abbrev LV:=List (Str × Vl)
def F0:Vl->Sh->Prop:=λx_ x_=>False
noncomputable def Own.put (oh:Own) (a:Ad) (o:Obj):Own:=λb=>if b=a then some o else oh b
noncomputable def upd (m:Loc) (x:Str) (v:Vl):Loc:=λy=>if y=x then some v else m y
theorem Qa (oh:Own) (a:Ad) (o:Obj):oh.put a o a=some o:=by simp[Own.put]
theorem Qi {oh:Own}{a b:Ad}{o:Obj}(h:b≠a):oh.put a o b=oh b:=by simp[Own.put,h]
theorem QE {oh:Own}{a b:Ad}{o o':Obj}(hn:oh a=none) (h:oh b=some o'):oh.put a o b=some o':=by
 rw[Qi (by rintro rfl;cases hn,h)];exact h
def Qgm (o:Obj):Prop:=∃ps,o={ cls:=.none,data:=.fields ps }/\TriplesOk ps.toList
noncomputable abbrev Tab:={ o:Obj // Qgm o }
structure QfI (K:Frag) (H:Heap) (tabs:List Ad):Prop where
 inK:K.In H
 ktab:∀T∈tabs,K.lookup T=none
 mg:∃mg,H.Ns mainGlobals mg
 mgT:mainGlobals∉tabs
 mb:∃mb,H.Ns builtinsNs mb/\∀x:Str,x≠"__name__"->mb x=bootBuiltins x
 mbT:builtinsNs∉tabs
 nolimit:H.NoLimit
 nlT:cStatics∉tabs
 tab:∀T∈tabs,∃vs:Tab,H.get? T=some vs.1
structure Cx where
 prog:Program
 w:World
 H:Heap
 os:OsState
 tabs:List Ad
 base:QfI (K03 w.params) H tabs
noncomputable abbrev Cx.K (c:Cx):Frag:=K03 c.w.params
def Qu (N:Nat) (A:Ar):Prop:=A.depth+N < recursionLimit/\A.units+20*N < cLine/\A.handled=none
theorem Qu.le {N M:Nat}{A:Ar}(h:Qu N A) (hl:M<=N):Qu M A:=⟨by have:=h.1;omega,by have:=h.2.1;omega,h.2.2⟩
theorem Qu.deeper {N:Nat}{A:Ar}{ou:Env}(h:Qu (N+1) A):Qu N (A.deeper ou):=⟨by have:=h.1;show A.depth+1+N < _;omega,by have:=h.2.1;rw[Around.deeper_units];omega,h.2.2⟩
theorem Qu.in1 {N:Nat}{A:Ar}(h:Qu (N+1) A):Qu N A.in1:=⟨by have:=h.1;show A.depth+N < _;omega,by have:=h.2.1;rw[Around.in1_units];omega,h.2.2⟩
structure Sg (c:Cx) (oh fr:Own) (s:Sh):Prop where
 base:∀a o,c.H.get? a=some o->a∉c.tabs->oh a=some o
 has:∀a o,oh a=some o->s.heap.get? a=some o
 hfr:∀a o,fr a=some o->s.heap.get? a=some o
 dj:∀a o,oh a=some o->fr a=none
 tab:∀T∈c.tabs,(∃vs:Tab,s.heap.get? T=some vs.1)/\oh T=none/\fr T=none
 os:s.os=c.os
 gens:AllBare s.gens
def QQ (ou:Env) (a:Ad):Prop:=a=ou.locals\/∃x,ou.cells.lookup x=some a
structure Fm (ou:Env) (m:Loc) (h:Heap):Prop where
 kf:ou.scope.kind = .function
 gl:ou.globals=mainGlobals
 bt:ou.builtins=builtinsNs
 ml:∃ml,h.Ns ou.locals ml/\∀x v,m x=some v->ou.kindOf x=some .local->ml x=some v
 kd:∀x v,m x=some v->ou.kindOf x=some .local\/((ou.kindOf x=some .cell\/ou.kindOf x=some .free)/\∃c,ou.cells.lookup x=some c/\h.IsCell c (some v))
 cl:∀x,ou.kindOf x=some .cell\/ou.kindOf x=some .free->∃c v,ou.cells.lookup x=some c/\h.IsCell c v
 cc:∀x c,ou.cells.lookup x=some c->∃v,h.IsCell c v
 ap:∀x y c,ou.cells.lookup x=some c->ou.cells.lookup y=some c->x=y
 lc:∀x c,ou.cells.lookup x=some c->c≠ou.locals
structure St (c:Cx) (ou:Env) (m:Loc) (oh fr:Own) (s:Sh):Prop where
 sg:Sg c oh fr s
 fm:Fm ou m s.heap
 dl:∀a,QQ ou a->oh a=none/\fr a=none/\a∉c.tabs
def CW (c:Cx) (N:Nat) (oh:Own) {α:Type}(t:Sem α) (k:α->Own->Prop):Prop :=
 ∀ (A:Ar) (s:Sh) (fr:Own) (Q:α->Sh->Prop),Qu N A->Sg c oh fr s->0 < s.toks ->
  (∀a oo s',k a oo->Sg c oo fr s'->Q a s')->wA (model c.prog c.w) A t Q F0 s
def CC (c:Cx) (N:Nat) (oh:Own) (code:Code) (k:KO):Prop :=
 ∀ (A:Ar) (s:Sh) (fr:Own) (R:Result->Sh->Prop),Qu N A->Sg c oh fr s->0 < s.toks ->
  (∀v oo s',k v oo->Sg c oo fr s'->R (.ok (.ret v)) s')->codeAny (model c.prog c.w) A code R s
theorem Qa0 {c:Cx}{N:Nat}{oh:Own}{f:Vl}{args:Args}{k:KO}(h:CC c N oh (.call f args) k):CW c N oh (call f args.pos args.kw) k :=
 λA s fr Q hA S P hQ=>wpAny_call (h A s fr _ hA S P λv o' s' hk S'=>hQ v o' s' hk S')
theorem Qcq {c:Cx}{N M:Nat}{oh:Own}{code:Code}{k:KO}(h:CC c M oh code k) (hl:M<=N):CC c N oh code k :=
 λA s fr Q hA S P hQ=>h A s fr Q (hA.le hl) S P hQ
def W (c:Cx) (N:Nat) (ou:Env) (m:Loc) (oh:Own) {α:Type}(t:Sem α) (k:α->Loc->Own->Prop):Prop :=
 ∀ (A:Ar) (s:Sh) (fr:Own) (Q:α->Sh->Prop),Qu N A->St c ou m oh fr s->0 < s.toks ->
  (∀a m' oo s',k a m' oo->St c ou m' oo fr s'->Q a s')->wA (model c.prog c.w) A t Q F0 s
theorem QaS {α:Type}{M:Model}{A:Ar}{t:Sem α}{Q:α->Sh->Prop}{s:Sh}(P:0 < s.toks) (h:wA M A t (λa s'=>0 < s'.toks->Q a s') F0 s):wA M A t Q F0 s :=
 wpAny_with_toks (n:=1) P (wpAny_mono h (λx_ x_ z=>z) λx_ x_ z=>z.elim)
theorem W.run {c:Cx}{N:Nat}{ou:Env}{m:Loc}{oh fr:Own}{α:Type}{t:Sem α}{k:α->Loc->Own->Prop}(h:W c N ou m oh t k) {A:Ar}{s:Sh}{Q:α->Sh->Prop}(hA:Qu N A) (S:St c ou m oh fr s) (P:0 < s.toks)
  (hQ:∀a m' oo s',k a m' oo->St c ou m' oo fr s'->0 < s'.toks->Q a s'):wA (model c.prog c.w) A t Q F0 s :=
 wpAny_with_toks (n:=1) P (wpAny_mono (h A s fr (λa s'=>1<=s'.toks->Q a s') hA S P λa m' o' s' hk S'=>hQ a m' o' s' hk S') (λx_ x_ z=>z) λx_ x_ z=>z.elim)
theorem CW.run {c:Cx}{N:Nat}{oh fr:Own}{α:Type}{t:Sem α}{k:α->Own->Prop}(h:CW c N oh t k) {A:Ar}{s:Sh}{Q:α->Sh->Prop}(hA:Qu N A) (S:Sg c oh fr s) (P:0 < s.toks)
  (hQ:∀a oo s',k a oo->Sg c oo fr s'->0 < s'.toks->Q a s'):wA (model c.prog c.w) A t Q F0 s :=
 wpAny_with_toks (n:=1) P (wpAny_mono (h A s fr (λa s'=>1<=s'.toks->Q a s') hA S P λa o' s' hk S'=>hQ a o' s' hk S') (λx_ x_ z=>z) λx_ x_ z=>z.elim)
structure New (c:Cx) (o:Own) (D:Ad):Prop where
 own:o D=none
 base:c.H.get? D=none
section
variable {c:Cx}{oh fr:Own}{s:Sh}{ou:Env}{m:Loc}
theorem Sg.kIn (S:Sg c oh fr s):c.K.In s.heap:=λa o e =>
 S.has a o (S.base a o (c.base.inK a o e) (λht=>by cases (c.base.ktab a ht),e))
theorem Sg.low (S:Sg c oh fr s) {a:Ad}{o:Obj}(h:oh a=some o):a < s.heap.objs.size:=Heap.lt_size (S.has a o h)
theorem Sg.fresh (S:Sg c oh fr s):oh s.heap.objs.size=none:=by
 cases e:oh s.heap.objs.size with
 |none=>rfl
 |some o=>exact absurd (Heap.lt_size (S.has _ _ e)) (Nat.lt_irrefl _)
theorem Sg.aH (S:Sg c oh fr s):fr s.heap.objs.size=none:=by
 cases e:fr s.heap.objs.size with
 |none=>rfl
 |some o=>exact absurd (Heap.lt_size (S.hfr _ _ e)) (Nat.lt_irrefl _)
theorem Sg.aA (S:Sg c oh fr s):c.H.get? s.heap.objs.size=none:=by
 cases e:c.H.get? s.heap.objs.size with
 |none=>rfl
 |some o =>
  by_cases hT:s.heap.objs.size∈c.tabs
  ·obtain⟨⟨vs,e'⟩,_⟩:=S.tab _ hT
   exact absurd (Heap.lt_size e') (Nat.lt_irrefl _)
  ·exact absurd (Heap.lt_size (S.has _ _ (S.base _ _ e hT))) (Nat.lt_irrefl _)
theorem Sg.aj (S:Sg c oh fr s) {T:Ad}(h:T∈c.tabs):T < s.heap.objs.size:=by
 obtain⟨⟨vs,e⟩,_⟩:=S.tab T h
 exact Heap.lt_size e
theorem qg {H h:Heap}{a:Ad}{m:Str->Option Vl}(hn:H.Ns a m) (hk:∀o,H.get? a=some o->h.get? a=some o):h.Ns a m :=
 let ⟨o,es,ep,e,r⟩:=hn;⟨o,es,ep,hk _ e,r⟩
theorem Sg.mg (S:Sg c oh fr s):∃mg,s.heap.Ns mainGlobals mg :=
 let ⟨mg,h⟩:=c.base.mg;⟨mg,qg h λo e=>S.has _ o (S.base _ o e c.base.mgT)⟩
theorem Sg.mb (S:Sg c oh fr s):∃mb,s.heap.Ns builtinsNs mb/\∀x:Str,x≠"__name__"->mb x=bootBuiltins x :=
 let ⟨mb,h,r⟩:=c.base.mb;⟨mb,qg h (λo e=>S.has _ o (S.base _ o e c.base.mbT)),r⟩
theorem Sg.nolimit (S:Sg c oh fr s):s.heap.NoLimit :=
 let ⟨mc,h,r⟩:=c.base.nolimit;⟨mc,qg h (λo e=>S.has _ o (S.base _ o e c.base.nlT)),r⟩
theorem Sg.tok (S:Sg c oh fr s) (t:Nat):Sg c oh fr { s with toks:=t }:=⟨S.base,S.has,S.hfr,S.dj,S.tab,S.os,S.gens⟩
theorem Sg.push (S:Sg c oh fr s) (o:Obj) (t:Nat) (hf:o.isFreed=false):Sg c (oh.put s.heap.objs.size o) fr { s with heap:=s.heap.push o,toks:=t }:=by
 refine⟨λa o' e ht=>QE S.fresh (S.base a o' e ht),λa o' e=>?_,λa o' e=>gp_ _ (S.hfr a o' e),λa o' e=>?_,λT hT=>?_,S.os,S.gens⟩
 ·by_cases h:a=s.heap.objs.size
  ·subst h;cases (Qa ..),e;exact gz_ _ hf
  ·rw[Qi h] at e;exact gp_ _ (S.has a o' e)
 ·by_cases h:a=s.heap.objs.size
  ·subst h;exact S.aH
  ·rw[Qi h] at e;exact S.dj a o' e
 ·obtain⟨⟨vs,e⟩,h1,h2⟩:=S.tab T hT
  exact⟨⟨vs,gp_ _ e⟩,by rw[Qi (Nat.ne_of_lt (S.aj hT))];exact h1,h2⟩
theorem Sg.aS (S:Sg c oh fr s) (o:Obj) (t:Nat):Sg c oh fr { s with heap:=s.heap.push o,toks:=t } :=
 ⟨S.base,λa o' e=>gp_ _ (S.has a o' e),λa o' e=>gp_ _ (S.hfr a o' e),S.dj,
  λT hT=>let ⟨⟨vs,e⟩,r⟩:=S.tab T hT;⟨⟨vs,gp_ _ e⟩,r⟩,S.os,S.gens⟩
theorem Sg.same (S:Sg c oh fr s) {a:Ad}{o o':Obj}{h':Heap}(t:Nat) (ho:oh a=some o) (hb:c.H.get? a=none) (hs:Heap.SameBut a s.heap h') (he:h'.get? a=some o') :
  Sg c (oh.put a o') fr { s with heap:=h',toks:=t }:=by
 refine⟨λb ob e ht=>?_,λb ob e=>?_,λb ob e=>?_,λb ob e=>?_,λT hT=>?_,S.os,S.gens⟩
 ·rw[Qi (by rintro rfl;cases hb,e)];exact S.base b ob e ht
 ·by_cases h:b=a
  ·subst h;cases (Qa ..),e;exact he
  ·rw[Qi h] at e;exact(hs.2 b h).trans (S.has b ob e)
 ·have:b≠a:=by rintro rfl;cases (S.dj _ _ ho),e
  exact(hs.2 b this).trans (S.hfr b ob e)
 ·by_cases h:b=a
  ·subst h;exact S.dj _ _ ho
  ·rw[Qi h] at e;exact S.dj b ob e
 ·obtain⟨⟨vs,e⟩,h1,h2⟩:=S.tab T hT
  have:T≠a:=by rintro rfl;cases h1,ho
  exact⟨⟨vs,(hs.2 T this).trans e⟩,by rw[Qi this];exact h1,h2⟩
open Classical in
noncomputable def ZX (ou:Env) (h:Heap) (fr:Own):Own:=λa=>if QQ ou a then h.get? a else fr a
theorem Fm.at {h h':Heap}(F:Fm ou m h) (hk:∀a o,QQ ou a->h.get? a=some o->h'.get? a=some o):Fm ou m h':=by
 obtain⟨kf,gl,bt,⟨ml,hn,hm⟩,kd,cl,cc,ap,lc⟩:=F
 have hc:∀x c v,ou.cells.lookup x=some c->h.IsCell c v->h'.IsCell c v:=λx c v e ⟨o,ho,hd⟩=>⟨o,hk c o (.inr ⟨x,e⟩) ho,hd⟩
 exact⟨kf,gl,bt,⟨ml,qg hn λo e=>hk _ o (.inl rfl) e,hm⟩,λx v e=>(kd x v e).imp id λ ⟨k,c,h1,h2⟩=>⟨k,c,h1,hc x c _ h1 h2⟩,
  λx e=>let ⟨c,v,h1,h2⟩:=cl x e;⟨c,v,h1,hc x c v h1 h2⟩,λx c e=>let ⟨v,h⟩:=cc x c e;⟨v,hc x c v e h⟩,ap,lc⟩
theorem Fm.there {h:Heap}(F:Fm ou m h) {a:Ad}(ha:QQ ou a):∃o,h.get? a=some o:=by
 rcases ha with rfl|⟨x,e⟩
 ·obtain⟨_,⟨o,_,_,ho,_⟩,_⟩:=F.ml;exact⟨o,ho⟩
 ·obtain⟨_,o,ho,_⟩:=F.cc x a e;exact⟨o,ho⟩
set_option tactic.hygienic true in
theorem St.apart (S:St c ou m oh fr s):Sg c oh (ZX ou s.heap fr) s:=by
 refine⟨S.sg.base,S.sg.has,λa o e=>?_,λa o e=>?_,λT hT=>?_,S.sg.os,S.sg.gens⟩
 ·unfold ZX at e
  split at e
  ·exact e
  ·exact S.sg.hfr a o e
 ·unfold ZX
  split
  ·rename_i h;cases ((S.dl a h).1),e
  ·exact S.sg.dj a o e
 ·obtain⟨h0,h1,h2⟩:=S.sg.tab T hT
  refine⟨h0,h1,?_⟩
  unfold ZX
  split
  ·rename_i h;exact absurd hT (S.dl T h).2.2
  ·exact h2
set_option tactic.hygienic true in
theorem St.back {oo:Own}{s':Sh}(S:St c ou m oh fr s) (S':Sg c oo (ZX ou s.heap fr) s'):St c ou m oo fr s':=by
 refine⟨⟨S'.base,S'.has,λa o e=>?_,λa o e=>?_,λT hT=>?_,S'.os,S'.gens⟩,S.fm.at λa o ha e=>S'.hfr a o (by unfold ZX;rw[if_pos ha];exact e),λa ha=>?_⟩
 ·refine S'.hfr a o ?_
  unfold ZX
  split
  ·rename_i h;cases ((S.dl a h).2.1),e
  ·exact e
 ·have:=S'.dj a o e
  unfold ZX at this
  split at this
  ·rename_i h;exact(S.dl a h).2.1
  ·exact this
 ·obtain⟨h0,h1,h2⟩:=S'.tab T hT
  exact⟨h0,h1,(S.sg.tab T hT).2.2⟩
 ·refine⟨?_,(S.dl a ha).2⟩
  cases e:oo a with
  |none=>rfl
  |some o =>
   obtain⟨o',ho'⟩:=S.fm.there ha
   have:=S'.dj a o e
   unfold ZX at this
   rw[if_pos ha,ho'] at this;cases this
end
section
variable {c:Cx}{N:Nat}{ou:Env}{m:Loc}{oh:Own}{α β:Type}
theorem Qf {t:Sem α}{k:α->Loc->Own->Prop}(h:CW c N oh t λa o=>k a m o):W c N ou m oh t k :=
 λA s fr Q hA S P hQ=>h A s (ZX ou s.heap fr) Q hA S.apart P λa o s' hk S'=>hQ a m o s' hk (S.back S')
theorem Qk {t:Sem α}{k k':α->Loc->Own->Prop}(h:W c N ou m oh t k) (hk:∀a m o,k a m o->k' a m o):W c N ou m oh t k' :=
 λA s fr Q hA S P hQ=>h A s fr Q hA S P λa m' o s' h'=>hQ a m' o s' (hk a m' o h')
theorem ZT {t:Sem α}{k k':α->Own->Prop}(h:CW c N oh t k) (hk:∀a o,k a o->k' a o):CW c N oh t k' :=
 λA s fr Q hA S P hQ=>h A s fr Q hA S P λa o s' h'=>hQ a o s' (hk a o h')
theorem Zt {M:Nat}{t:Sem α}{k:α->Own->Prop}(h:CW c M oh t k) (hl:M<=N):CW c N oh t k :=
 λA s fr Q hA S P hQ=>h A s fr Q (hA.le hl) S P hQ
theorem Qs {a:α}{k:α->Loc->Own->Prop}(h:k a m oh):W c N ou m oh (pure a) k :=
 λx_ s x_ x_ x_ S x_ hQ=>wp_ (hQ a m oh s h S)
theorem Qc {t:Sem α}{f:α->Sem β}{k:β->Loc->Own->Prop}(h:W c N ou m oh t λa m' o'=>W c N ou m' o' (f a) k):W c N ou m oh (t >>= f) k :=
 λA s fr Q hA S P hQ=>wb9 (W.run h hA S P λx_ x_ x_ s' hk S' P'=>hk A s' fr Q hA S' P' hQ)
end
abbrev QaK (c:Cx) (N:Nat) (ou:Env) (k:KB_):Vl->Loc->Own->Prop:=λv m o=>W c N ou m o (truthy v) k
abbrev Qmb (k:KB_):Bool->Loc->Own->Prop:=λb m o=>k (!b) m o
abbrev Qee (c:Cx) (N:Nat) (ou:Env) (op:Operator) (k:KV) (a:Vl):Vl->Loc->Own->Prop:=λb m o=>W c N ou m o (binaryOp op a b) k
abbrev Ql4 (c:Cx) (N:Nat) (ou:Env) (op:Operator) (r:Expr) (k:KV):Vl->Loc->Own->Prop:=λa m o=>W c N ou m o (eval r ou) (Qee c N ou op k a)
abbrev QbR (c:Cx) (N:Nat) (ou:Env) (op:CmpOp) (k:KV) (a:Vl):Vl->Loc->Own->Prop:=λb m o=>W c N ou m o (compareOp op a b) k
abbrev Qeg (c:Cx) (N:Nat) (ou:Env) (op:CmpOp) (r:Expr) (k:KV):Vl->Loc->Own->Prop:=λa m o=>W c N ou m o (eval r ou) (QbR c N ou op k a)
abbrev kIf {α:Type}(c:Cx) (N:Nat) (ou:Env) (P Q:Sem α) (k:α->Loc->Own->Prop):Bool->Loc->Own->Prop:=λx m w=>(x=true->W c N ou m w P k)/\(x=false->W c N ou m w Q k)
abbrev Ql1 (c:Cx) (N:Nat) (ou:Env) (P:Sem Vl) (k:KV) (v:Vl):Bool->Loc->Own->Prop:=λt m o=>(t=true->W c N ou m o P k)/\(t=false->k v m o)
abbrev Qec (c:Cx) (N:Nat) (ou:Env) (P:Sem Vl) (k:KV):Vl->Loc->Own->Prop:=λv m o=>W c N ou m o (truthy v) (Ql1 c N ou P k v)
abbrev kAl (c:Cx) (N:Nat) (ou:Env) (r:List Expr) (k:KB_):Bool->Loc->Own->Prop:=λb m o=>(b=true->W c N ou m o (allTrue .And r ou) k)/\(b=false->k false m o)
abbrev kOl (c:Cx) (N:Nat) (ou:Env) (r:List Expr) (k:KB_):Bool->Loc->Own->Prop:=λb m o=>(b=false->W c N ou m o (allTrue .Or r ou) k)/\(b=true->k true m o)
abbrev Qei (k:KF_):Vl->Loc->Own->Prop:=λv m o=>k (.ret v) m o
abbrev Qma (k:KF_):Vl->Loc->Own->Prop:=λx_ m o=>k .next m o
abbrev Qed (x:Str) (k:KF_):Vl->Loc->Own->Prop:=λv m w=>k .next (upd m x v) w
abbrev Ql3 (c:Cx) (N:Nat) (ou:Env) (a:Str) (k:KV):Vl->Loc->Own->Prop:=λv m w=>W c N ou m w (getAttr v a true) k
abbrev Qek (c:Cx) (N:Nat) (ou:Env) (i:Expr) (k:KV) (v j:Vl):Bool->Loc->Own->Prop:=λb m w=>W c N ou m w (subscripted i b v j) k
abbrev Qej (c:Cx) (N:Nat) (ou:Env) (i:Expr) (k:KV) (v:Vl):Vl->Loc->Own->Prop:=λj m w=>W c N ou m w (getitemInPython v) (Qek c N ou i k v j)
abbrev Qmc (c:Cx) (N:Nat) (ou:Env) (i:Expr) (k:KV):Vl->Loc->Own->Prop:=λv m w=>W c N ou m w (eval i ou) (Qej c N ou i k v)
variable {c:Cx}{N:Nat}{oh fr:Own}{ou:Env}{m:Loc}{s:Sh}{sc:Scope}{a:Ad}{k:KV}{x:Str}{v:Vl}{n:Nat}{d:Bool}{p:Pos}{xs:List Vl}{t:Tok}{i:Nat}{o:Obj}{A:Ar}{vs:List Vl}
section
variable {α β:Type}
theorem Q1 {k:KU_}(h:k () m oh):W c N ou m oh (standAt p) k:=λx_ s x_ x_ x_ S x_ hQ=>ws_ (hQ () m oh s h S)
theorem Qg6 {t:String}{k:KU_}(h:k () m oh):W c N ou m oh (rule t) k:=λx_ s x_ x_ x_ S x_ hQ=>wpAny_rule (hQ () m oh s h S)
theorem Q9 {t:Sem α}{k:α->Loc->Own->Prop}(h:W c N ou m oh t k):W c N ou m oh (holding vs t) k :=
 λA s fr Q hA S P hQ=>wh_ (h A s fr Q hA S P hQ)
theorem XZ {t:Sem Vl}(h:W c N ou m oh t k):W c N ou m oh (operate vs t) k :=
 λA s fr Q hA S P hQ=>λ Γ p hΓ=>by rw[Sem.wp_operate];exact h A s fr Q hA S P hQ Γ p hΓ
theorem Qby {vs ks:List Vl}{k:KU_}(h:k () m oh):W c N ou m oh (release vs ks) k :=
 λx_ s x_ x_ x_ S x_ hQ=>λ Γ p hΓ=>by rw[Sem.wp_release];exact hQ () m oh s h S
theorem QgU (h:m x=some v) (hk:k v m oh) (hx:(x==("__classdict__":Str))=false):W c N ou m oh (loadName ou x) k:=by
 intro A s fr Q hA S P hQ
 have q:=hQ v m oh s hk S
 rcases S.fm.kd x v h with hl|⟨hl,cl,hc,hv⟩
 ·obtain⟨ml,hn,hm⟩:=S.fm.ml
  exact wpAny_loadName_local S.fm.kf hl hn (hm x v h hl) q
 ·rcases hl with hl|hl
  ·exact wpAny_loadName_cell S.fm.kf hl hc hv q
  ·exact wpAny_loadName_free S.fm.kf hl hc hv q hx
theorem QgW {p:Pos}(h:m x=some v) (hk:k v m oh) (hd:(x==("__debug__":Str))=false:=by ac_rfl) (hx:(x==("__classdict__":Str))=false:=by ac_rfl) :
  W c N ou m oh (eval (.Name x p) ou) k:=by
 rw[arm_eval_Name,hd]
 exact Qc (Q1 (QgU h hk hx))
theorem QgD {p:Pos}(hg:nsIn c.K mainGlobals x=some (some v)) (hk:k v m oh) (hx:ou.kindOf x=some .globalImplicit) (hd:(x==("__debug__":Str))=false:=by ac_rfl) :
  W c N ou m oh (eval (.Name x p) ou) k:=by
 intro A s fr Q hA S P hQ
 obtain⟨mg,G⟩:=S.sg.mg
 have e:=mg_of S.sg.kIn G hg
 refine Name_function_global S.fm.kf hx (loadGlobal_global (by rw[S.fm.gl];exact G) e (hQ v m oh s hk S)) hd
theorem Qgv {p:Pos}(hg:nsIn c.K mainGlobals x=some none) (hb:bootBuiltins x=some v) (hk:k v m oh) (hx:ou.kindOf x=some .globalImplicit) (hn:x≠"__name__") (hd:(x==("__debug__":Str))=false:=by ac_rfl) :
  W c N ou m oh (eval (.Name x p) ou) k:=by
 intro A s fr Q hA S P hQ
 obtain⟨mg,G⟩:=S.sg.mg
 obtain⟨mb,B,hB⟩:=S.sg.mb
 have e:=mg_none_of S.sg.kIn G hg
 refine Name_function_global S.fm.kf hx (loadGlobal_builtin (by rw[S.fm.gl];exact G) e (by rw[S.fm.bt];exact B) ((hB x hn).trans hb) (hQ v m oh s hk S)) hd
theorem Zf (m:Loc) (x:Str) (v:Vl):upd m x v x=some v:=by simp[upd]
theorem QnL {m m0:Loc}{l:List Str}{x y:Str}(hy:y∈l) (hx:l.contains x=false) (h:m y=m0 y):upd m x v y=m0 y :=
 (if_neg λe:y=x=>by subst e;rw[List.contains_iff_mem.mpr hy] at hx;cases hx).trans h
theorem XF {x y:Str}(h:y≠x):upd m x v y=m y:=by simp[upd,h]
theorem Fm.local {h h':Heap}{ml:Loc}(F:Fm ou m h) (hl:ou.kindOf x=some .local) (hn:h'.Ns ou.locals (λy=>if y=x then some v else ml y))
  (hml:∀y w,m y=some w->ou.kindOf y=some .local->ml y=some w) (hs:Heap.SameBut ou.locals h h'):Fm ou (upd m x v) h':=by
 have hc:∀y cc w,ou.cells.lookup y=some cc->h.IsCell cc w->h'.IsCell cc w:=λy cc w e q=>q.sameBut hs (F.lc y cc e)
 refine⟨F.kf,F.gl,F.bt,⟨_,hn,λy w e k=>?_⟩,λy w e=>?_,λy e=>?_,λy cc e=>?_,F.ap,F.lc⟩
 ·by_cases hy:y=x
  ·subst hy;rw[Zf] at e;simpa using e
  ·rw[XF hy] at e;simpa [hy] using hml y w e k
 ·by_cases hy:y=x
  ·subst hy;exact .inl hl
  ·rw[XF hy] at e
   exact(F.kd y w e).imp id λ ⟨k,cc,h1,h2⟩=>⟨k,cc,h1,hc y cc _ h1 h2⟩
 ·obtain⟨cc,w,h1,h2⟩:=F.cl y e;exact⟨cc,w,h1,hc y cc w h1 h2⟩
 ·obtain⟨w,h2⟩:=F.cc y cc e;exact⟨w,hc y cc w e h2⟩
theorem St.frame {fr:Own}{m':Loc}{h':Heap}{t:Nat}(S:St c ou m oh fr s) (ha:QQ ou a) (hs:Heap.SameBut a s.heap h') (F:Fm ou m' h'):St c ou m' oh fr { s with heap:=h',toks:=t }:=by
 have d:=S.dl a ha
 refine⟨⟨S.sg.base,λb o e=>?_,λb o e=>?_,S.sg.dj,λT hT=>?_,S.sg.os,S.sg.gens⟩,F,S.dl⟩
 ·exact(hs.2 b (by rintro rfl;cases (d.1),e)).trans (S.sg.has b o e)
 ·exact(hs.2 b (by rintro rfl;cases (d.2.1),e)).trans (S.sg.hfr b o e)
 ·obtain⟨⟨vs,e⟩,r⟩:=S.sg.tab T hT
  exact⟨⟨vs,(hs.2 T (by rintro rfl;exact d.2.2 hT)).trans e⟩,r⟩
theorem Y9 {k:KU_}(hl:ou.kindOf x=some .local) (hk:k () (upd m x v) oh):W c N ou m oh (storeName ou x v) k:=by
 intro A s fr Q hA S P hQ
 obtain⟨ml,hn,hm⟩:=S.fm.ml
 exact wpAny_storeName_local hl hn (λh' hn' hs'=>hQ () _ oh _ hk (S.frame (.inl rfl) hs' (S.fm.local hl hn' hm hs'))) (by rw[S.fm.kf];rfl)
theorem Y2 {k:KU_}(h:W c N ou m oh (storeName ou x v) k):W c N ou m oh (bindName ou x v) k :=
 λA s fr Q hA S P hQ=>wpAny_bindName (h A s fr Q hA S P hQ)
theorem Yd {i:Int}(h:∀t,k (.int i t) m oh):W c N ou m oh (eval (.Constant (.int i) n p) ou) k :=
 λx_ s x_ x_ x_ S x_ hQ=>wpAny_Constant_int (hQ _ m oh _ (h _) ⟨S.sg.tok _,S.fm,S.dl⟩)
theorem Qbz (h:∀t,k (.str x t) m oh):W c N ou m oh (eval (.Constant (.str x) n p) ou) k :=
 λx_ s x_ x_ x_ S x_ hQ=>wpAny_Constant_str (hQ _ m oh _ (h _) ⟨S.sg.tok _,S.fm,S.dl⟩)
theorem QgZ (h:k .none m oh):W c N ou m oh (eval (.Constant .none n p) ou) k :=
 λx_ s x_ x_ x_ S x_ hQ=>wpAny_Constant_none (hQ _ m oh _ h S)
theorem Qgw {b:Bool}(h:k (.bool b) m oh):W c N ou m oh (eval (.Constant (.bool b) n p) ou) k :=
 λx_ s x_ x_ x_ S x_ hQ=>wpAny_Constant_bool (hQ _ m oh _ h S)
theorem QcP {l r:Expr}{op:Operator}
  (h:W c N ou m oh (eval l ou) (Ql4 c N ou op r k)):W c N ou m oh (eval (.BinOp l op r p) ou) k:=by
 rw[arm_eval_BinOp]
 exact Qc (Qk h λa m o h=>Qc (Q9 (Qk h λb m o h=>Qc (Q1 (XZ h)))))
theorem Qou {t b o:Expr}
  (h:W c N ou m oh (isTrue t ou (eval t ou)) (kIf c N ou (eval b ou) (eval o ou) k)):W c N ou m oh (eval (.IfExp t b o p) ou) k:=by
 rw[arm_eval_IfExp]
 refine Qc (Qk h λx m w h=>?_)
 cases x
 ·exact h.2 rfl
 ·exact h.1 rfl
theorem QcQ {l r:Expr}{op:CmpOp}
  (h:W c N ou m oh (eval l ou) (Qeg c N ou op r k)) (hm:behindInMarks op r=false:=by rfl):W c N ou m oh (eval (.Compare l [op] [r] p) ou) k:=by
 rw[eval_Compare1,markedBehindIn_of_false hm]
 exact Qc (Qk h λa m o h=>Qc (Q9 (Qk h λb m o h=>Qc (Q1 (XZ h)))))
theorem Qok {x y:Expr}
  (h:W c N ou m oh (eval x ou) (Qec c N ou (eval y ou) k)):W c N ou m oh (eval (.BoolOp .And [x,y] p) ou) k:=by
 show W c N ou m oh (do
  let v <- eval x ou
  standAt p
  let t <- holding [v] (truthy v)
  match BoolOp.And,t with
  |.And,false|.Or,true=>pure v
  |_,_=>boolOp p .And [eval y ou]) k
 refine Qc (Qk h λv m o h=>Qc (Q1 (Qc (Q9 (Qk h λt m o h=>?_)))))
 cases t
 ·exact Qs (h.2 rfl)
 ·exact h.1 rfl
theorem Qol {x y z:Expr}
  (h:W c N ou m oh (eval x ou) (Qec c N ou (eval (.BoolOp .And [y,z] p) ou) k)):W c N ou m oh (eval (.BoolOp .And [x,y,z] p) ou) k:=by
 show W c N ou m oh (do
  let v <- eval x ou
  standAt p
  let t <- holding [v] (truthy v)
  match BoolOp.And,t with
  |.And,false|.Or,true=>pure v
  |_,_=>boolOp p .And [eval y ou,eval z ou]) k
 refine Qc (Qk h λv m o h=>Qc (Q1 (Qc (Q9 (Qk h λt m o h=>?_)))))
 cases t
 ·exact Qs (h.2 rfl)
 ·exact h.1 rfl
theorem Qgk {e:Expr}{t:Sem Vl}{k:KB_}(h:W c N ou m oh t (QaK c N ou k))
  (he:isTrue e ou t=(do let v <- t;standAt e.pos;holding [v] (truthy v)):=by rfl):W c N ou m oh (isTrue e ou t) k:=by
 rw[he]
 exact Qc (Qk h λv m o h=>Qc (Q1 (Q9 h)))
theorem Qoe {x:Expr}{t:Sem Vl}{k:KB_}(h:W c N ou m oh (isTrue x ou (eval x ou)) (Qmb k)):W c N ou m oh (isTrue (.UnaryOp .Not x p) ou t) k:=by
 rw[arm_isTrue_UnaryOp]
 exact Qc (Qk h λv m o h=>Qs h)
theorem Qgi {op:BoolOp}{vs:List Expr}{t:Sem Vl}{k:KB_}(h:W c N ou m oh (allTrue op vs ou) k):W c N ou m oh (isTrue (.BoolOp op vs p) ou t) k:=by
 rw[arm_isTrue_BoolOp];exact h
theorem Qob {k:KB_}(h:k true m oh):W c N ou m oh (allTrue .And [] ou) k:=Qs h
theorem Qog {k:KB_}(h:k false m oh):W c N ou m oh (allTrue .Or [] ou) k:=Qs h
theorem Qgh {x:Expr}{r:List Expr}{k:KB_}(h:W c N ou m oh (isTrue x ou (eval x ou)) (kAl c N ou r k)):W c N ou m oh (allTrue .And (x::r) ou) k:=by
 show W c N ou m oh (do match BoolOp.And,<- isTrue x ou (eval x ou) with|.And,false=>pure false|.Or,true=>pure true|_,_=>allTrue .And r ou) k
 refine Qc (Qk h λb m o h=>?_)
 cases b
 ·exact Qs (h.2 rfl)
 ·exact h.1 rfl
theorem Qof {x:Expr}{r:List Expr}{k:KB_}(h:W c N ou m oh (isTrue x ou (eval x ou)) (kOl c N ou r k)):W c N ou m oh (allTrue .Or (x::r) ou) k:=by
 show W c N ou m oh (do match BoolOp.Or,<- isTrue x ou (eval x ou) with|.And,false=>pure false|.Or,true=>pure true|_,_=>allTrue .Or r ou) k
 refine Qc (Qk h λb m o h=>?_)
 cases b
 ·exact h.1 rfl
 ·exact Qs (h.2 rfl)
theorem QcN {l r:Expr}{op:CmpOp}{t:Sem Vl}{k:KB_}
  (h:W c N ou m oh (eval l ou) (Qeg c N ou op r (QaK c N ou k))) (hm:behindInMarks op r=false:=by rfl):W c N ou m oh (isTrue (.Compare l [op] [r] p) ou t) k:=by
 rw[isTrue_Compare1,markedBehindIn_of_false hm]
 exact Qc (Qk h λa m o h=>Qc (Q9 (Qk h λb m o h=>Qc (Q1 (Qc (XZ (Qk h λv m o h=>Q9 h)))))))
theorem Qgj {b:Bool}{k:KB_}(h:k b m oh):W c N ou m oh (truthy (.bool b)) k:=λx_ s x_ x_ x_ S x_ hQ=>wpAny_truthy_bool (hQ b m oh s h S)
def Qbf (c:Cx) (N:Nat) (ou:Env) (rest:List Stmt) (k:KF_) (f:Flow) (m:Loc) (o:Own):Prop :=
 match f with|.next=>W c N ou m o (execs rest ou) k|f=>k f m o
theorem ZV {k:KF_}(h:k .next m oh):W c N ou m oh (execs [] ou) k:=Qs h
theorem Qm {st:Stmt}{rest:List Stmt}{k:KF_}(h:W c N ou m oh (exec st ou) (Qbf c N ou rest k)):W c N ou m oh (execs (st::rest) ou) k:=by
 rw[execs_cons]
 refine Qc (Qk h λf m o h=>?_)
 cases f
 ·exact h
 all_goals exact Qs h
theorem X1 {t:Expr}{b o:List Stmt}{k:KF_}
  (h:W c N ou m oh (isTrue t ou (eval t ou)) (kIf c N ou (execs b ou) (execs o ou) k)):W c N ou m oh (exec (.If t b o p) ou) k:=by
 rw[arm_exec_If]
 refine Qc (Q1 (Qc (Qk h λx m w h=>?_)))
 cases x
 ·exact h.2 rfl
 ·exact h.1 rfl
theorem Qdr {e:Expr}{k:KF_}(h:W c N ou m oh (eval e ou) (Qei k)):W c N ou m oh (exec (.Return (some e) p) ou) k:=by
 rw[exec_Return_some]
 exact Qc (Q1 (Qc (Qk h λv m o h=>Qs h)))
theorem QnV {M:Model}{t:Sem Vl}{Q:Unit->Sh->Prop}{E:KQ_}(h:wA M A (do let _ <- t) Q E s):wA M A t (λx_ s'=>Q () s') E s:=by
 intro Γ p hΓ
 have z:=h Γ p hΓ
 rw[Sem.wp_bind'] at z
 exact z
theorem Qar {base:Expr}{o r:Vl}{k:KU_}(h:k () m oh):W c N ou m oh (letTemporaryGo base o r) k :=
 λA s fr Q hA S P hQ=>wpAny_letTemporaryGo (hQ () m oh s h S)
theorem QgR {k:KU_}(h:k () m oh):W c N ou m oh (do let _ <- runValue (.builtin "proto.let_go" {})) k :=
 Qar (base:=.Constant .none 0 default) (o:=.ref 0) (r:=.none) h
theorem Qgy {e:Expr}{k:KF_}(h:k .next m oh):W c N ou m oh (dropValue e p v) k:=by
 have pr:W c N ou m oh (pure Flow.next) k:=Qs h
 have lg:W c N ou m oh (do standAt p;let _ <- runValue (.builtin "proto.let_go" {});pure Flow.next) k:=by
  refine Qc (Q1 ?_)
  have:=QgR (c:=c) (N:=N) (ou:=ou) (m:=m) (oh:=oh) (k:=λx_ m o=>k .next m o) h
  intro A s fr Q hA S P hQ
  have z:=this A s fr (λx_ s'=>Q .next s') hA S P λx_ m' o' s' hk S'=>hQ .next m' o' s' hk S'
  refine wb9 (wpAny_mono (QnV z) (λx_ x_ q=>wp_ q) λx_ x_ q=>q)
 cases e<;>induction v<;>first|exact pr|exact lg
theorem Qhj {e:Expr}{k:KF_}(h:W c N ou m oh (eval e ou) (Qma k)) (hi:interactive ou=false) (hs:swapsWith e none p.line ou=pure false:=by rfl) :
  W c N ou m oh (exec (.Expr e p) ou) k:=by
 rw[exec_Expr ou e p hi hs]
 exact Qc (Q1 (Qc (Qk h λv m o h=>Qgy h)))
end
section
variable {α β:Type}
theorem QfE {k:KL_}(h:k [] m oh):W c N ou m oh (spliced []) k:=Qs h
theorem Qfy {x:Sem Vl}{r:List (Bool × Sem Vl)}{k:KL_}
  (h:W c N ou m oh x λv m o=>W c N ou m o (spliced r) λvs m o=>k (v::vs) m o):W c N ou m oh (spliced ((false,x)::r)) k:=by
 rw[spliced]
 refine Qc (Qk h λv m o h=>?_)
 simp only[Bool.false_eq_true,if_false]
 exact Qc (Qs (Qc (Q9 (Qk h λvs m o h=>Qs h))))
noncomputable def Zm (c:Cx) (N:Nat) (ou:Env):List Expr->List Vl->(List Vl->Loc->Own->Prop)->Loc->Own->Prop
 | [],acc,k,m,o=>k acc m o
 |e::r,acc,k,m,o=>W c N ou m o (eval e ou) λv m o=>Zm c N ou r (acc++[v]) k m o
noncomputable def Zx:List Expr->Bool
 | []=>true
 |.Starred _ _::_=>false
 |_::r=>Zx r
theorem Qfg {r:List Expr}(e:Expr) (h:Zx (e::r)=true):Zx r=true/\starEach (e::r) ou=(false,eval e ou)::starEach r ou:=by
 cases e<;>first|exact⟨h,rfl⟩|cases h
theorem Yt {es:List Expr}(h:Zx es=true) (ou:Env):starEach es ou=es.map λe=>(false,eval e ou):=by
 induction es with
 |nil=>rfl
 |cons e r ih =>
  rw[(Qfg e h).2,ih (Qfg (ou:=ou) e h).1];rfl
theorem X4:∀ {es:List Expr}{ou:Env},backTo p (es.map λe=>(false,eval e ou))=es.map λe=>(false,eval e ou)
 | [],_=>rfl
 |e::r,ou=>by
  show (false,_)::backTo p _=_
  rw[X4];rfl
theorem Qcf {es:List Expr}:∀ {acc:List Vl}{m:Loc}{oh:Own}{k:KL_},Zm c N ou es acc k m oh ->
  W c N ou m oh (spliced (es.map λe=>(false,eval e ou))) λvs m o=>k (acc++vs) m o:=by
 induction es with
 |nil=>intro acc m oh k h;exact QfE (by rw[List.append_nil];exact h)
 |cons e r ih =>
  intro acc m oh k h
  refine Qfy (Qk h λv m o h=>Qk (ih h) λvs m o h=>?_)
  rw[List.append_assoc] at h;exact h
theorem Qky {f:Vl}{es:List Expr}{k:Args->Loc->Own->Prop}(hs:Zx es=true) (h:Zm c N ou es [] (λvs m o=>k ⟨vs,[]⟩ m o) m oh) :
  W c N ou m oh (evalArgs f true (backTo p (starEach es ou)) []) k:=by
 rw[Yt hs,X4]
 have z:=Qcf h
 cases es with
 |nil =>
  unfold evalArgs
  show W c N ou m oh (spliced [] >>= _) k
  refine Qc (Qk z λvs m o h=>Q9 ?_)
  rw[List.nil_append] at h
  exact Qc (Qs (Qc (Qs (Qs h))))
 |cons e r =>
  unfold evalArgs
  show W c N ou m oh (spliced ((false,eval e ou)::r.map λe=>(false,eval e ou)) >>= _) k
  refine Qc (Qk z λvs m o h=>Q9 ?_)
  rw[List.nil_append] at h
  exact Qc (Qs (Qc (Qs (Qs h))))
noncomputable def Ya (c:Cx) (N:Nat) (ou:Env):List Keyword->List Vl->(List Vl->Loc->Own->Prop)->Loc->Own->Prop
 | [],acc,k,m,o=>k acc m o
 |q::r,acc,k,m,o=>W c N ou m o (eval q.value ou) λv m o=>Ya c N ou r (acc++[v]) k m o
theorem QaL:∀ {ks:List Keyword},backToKw p (keywordEach ks ou)=ks.map λq=>(q.arg,(do let v <- eval q.value ou;standAt p;pure v:Sem Vl))
 | []=>rfl
 |⟨n,e,_⟩::r=>by
  show (n,_)::backToKw p _=_
  rw[QaL];rfl
theorem Qkw:∀ {ks:List Keyword}{acc:List Vl}{m:Loc}{oh:Own}{k:KL_},Ya c N ou ks acc k m oh ->
  W c N ou m oh (evalAll (ks.map λq=>(do let v <- eval q.value ou;standAt p;pure v:Sem Vl))) λvs m o=>k (acc++vs) m o:=by
 intro ks
 induction ks with
 |nil=>intro acc m oh k h;exact Qs (by rw[List.append_nil];exact h)
 |cons q r ih =>
  intro acc m oh k h
  show W c N ou m oh (evalAll ((do let v <- eval q.value ou;standAt p;pure v:Sem Vl)::r.map _)) _
  rw[evalAll]
  refine Qc (Qc (Qk h λv m o h=>Qc (Q1 (Qs (Qc (Q9 (Qk (ih h) λvs m o h=>Qs ?_)))))))
  rw[List.append_assoc] at h;exact h
theorem Qkx {f:Vl}{es:List Expr}{ks:List Keyword}{k:Args->Loc->Own->Prop}(hs:Zx es=true) (hk:ks.all (·.arg.isSome)=true)
  (h:Zm c N ou es [] (λvs m o=>Ya c N ou ks [] (λkw m o=>k ⟨vs,(ks.filterMap (·.arg)).zip kw⟩ m o) m o) m oh) :
  W c N ou m oh (evalArgs f true (backTo p (starEach es ou)) (backToKw p (keywordEach ks ou))) k:=by
 rw[Yt hs,X4,QaL]
 have z:=Qcf h
 have e1:(ks.map λq=>(q.arg,(do let v <- eval q.value ou;standAt p;pure v:Sem Vl))).all (·.1.isSome)=true:=by rw[List.all_map];exact hk
 have e2:(ks.map λq=>(q.arg,(do let v <- eval q.value ou;standAt p;pure v:Sem Vl))).filterMap (·.1)=ks.filterMap (·.arg):=by rw[List.filterMap_map];rfl
 have e3:(ks.map λq=>(q.arg,(do let v <- eval q.value ou;standAt p;pure v:Sem Vl))).map (·.2)=ks.map λq=>(do let v <- eval q.value ou;standAt p;pure v:Sem Vl):=by rw[List.map_map];rfl
 have tl:∀vs m o,Ya c N ou ks [] (λkw m o=>k ⟨[]++vs,(ks.filterMap (·.arg)).zip kw⟩ m o) m o->W c N ou m o (do
   let kw:=((ks.map λq=>(q.arg,(do let v <- eval q.value ou;standAt p;pure v:Sem Vl))).filterMap (·.1)).zip (<- evalAll ((ks.map λq=>(q.arg,(do let v <- eval q.value ou;standAt p;pure v:Sem Vl))).map (·.2)))
   return (⟨<- pure vs,kw⟩:Args)) k:=by
  intro vs m o h
  rw[e2,e3]
  refine Qc (Qk (Qkw h) λkw m o h=>Qc (Qs (Qs ?_)))
  simpa only[List.nil_append] using h
 cases es with
 |nil =>
  unfold evalArgs
  show W c N ou m oh (spliced [] >>= _) k
  refine Qc (Qk z λvs m o h=>Q9 ?_)
  simp only[e1,if_true]
  exact tl vs m o h
 |cons e r =>
  unfold evalArgs
  show W c N ou m oh (spliced ((false,eval e ou)::r.map λe=>(false,eval e ou)) >>= _) k
  refine Qc (Qk z λvs m o h=>Q9 ?_)
  simp only[e1,if_true]
  exact tl vs m o h
def Q0 (c:Cx) (oh:Own) (f:Vl):Prop:=∀ (fr:Own) (s:Sh),Sg c oh fr s->∃k,(k=Keeper.frame\/k=Keeper.machine\/k=Keeper.boundFrame)/\Looks (model c.prog c.w) s.heap (keeperOf f) k
theorem Zg {f:Vl}(h:keepIn c.K f=true):Q0 c oh f:=λfr s S=>keeps_K h s.heap S.kIn
end
abbrev Qef (c:Cx) (N:Nat) (ou:Env) (f:Vl) (k:KV):List Vl->Loc->Own->Prop:=λvs m o=>Q0 c o f/\W c N ou m o (call f vs) k
abbrev Ql5 (c:Cx) (N:Nat) (ou:Env) (es:List Expr) (k:KV):Vl->Loc->Own->Prop:=λf m o=>Zm c N ou es [] (Qef c N ou f k) m o
abbrev Ql7 (c:Cx) (N:Nat) (ou:Env) (k:KV) (f:Vl) (first:List Vl):List Vl->Loc->Own->Prop:=λvs m w=>Q0 c w f/\W c N ou m w (call f (first++vs)) k
abbrev Qeh (c:Cx) (N:Nat) (ou:Env) (es:List Expr) (k:KV):Vl->List Vl->Loc->Own->Prop:=λf first m w=>Zm c N ou es [] (Ql7 c N ou k f first) m w
section
variable {α β:Type}
theorem YA {id:String}:Q0 c oh (.builtin id):=λfr s S=>⟨.machine,.inr (.inl rfl),Looks.of_pure rfl⟩
theorem QoS {id:String}:Q0 c oh (.type id):=λfr s S=>⟨.machine,.inr (.inl rfl),Looks.of_pure rfl⟩
theorem QcX {f:Vl}{first:List Vl}{es:List Expr}(hs:Zx es=true)
  (h:Zm c N ou es [] (λvs m o=>Q0 c o f/\W c N ou m o (call f (first++vs)) k) m oh) :
  W c N ou m oh (callWith p f first (backTo p (starEach es ou)) []) k:=by
 have hz:(backTo p (starEach es ou)).any (·.1)=false:=by rw[Yt hs,X4];simp
 intro A s fr Q hA S P hQ
 refine callWith_of (P:=λh=>∃k,(k=Keeper.frame\/k=Keeper.machine\/k=Keeper.boundFrame)/\Looks (model c.prog c.w) h (keeperOf f) k) (by rw[hz];rfl) (λh x=>x)
  (Qky (k:=λa m o=>Q0 c o f/\W c N ou m o (call f (first++a.pos) a.kw) k) hs h |>.run hA S P λa m' o' s' hk S' P'=>⟨hk.1 _ _ S'.sg,hk.2 A s' fr Q hA S' P' hQ⟩)
theorem QcW {f:Vl}{first:List Vl}{es:List Expr}{ks:List Keyword}(hs:Zx es=true) (hk:ks.all (·.arg.isSome)=true)
  (h:Zm c N ou es [] (λvs m o=>Ya c N ou ks [] (λkw m o=>Q0 c o f/\W c N ou m o (call f (first++vs) ((ks.filterMap (·.arg)).zip kw)) k) m o) m oh) :
  W c N ou m oh (callWith p f first (backTo p (starEach es ou)) (backToKw p (keywordEach ks ou))) k:=by
 have hz:(backTo p (starEach es ou)).any (·.1)=false:=by rw[Yt hs,X4];simp
 have hy:(backToKw p (keywordEach ks ou)).any (·.1.isNone)=false:=by
  rw[QaL,List.any_map,List.any_eq_false]
  intro q hq
  have:=List.all_eq_true.mp hk q hq
  simp only[Function.comp_apply]
  cases e:q.arg with
  |none=>cases e,this
  |some _=>simp
 intro A s fr Q hA S P hQ
 refine callWith_of (P:=λh=>∃k,(k=Keeper.frame\/k=Keeper.machine\/k=Keeper.boundFrame)/\Looks (model c.prog c.w) h (keeperOf f) k) (by rw[hz,hy];rfl) (λh x=>x)
  (Qkx (k:=λa m o=>Q0 c o f/\W c N ou m o (call f (first++a.pos) a.kw) k) hs hk h |>.run hA S P λa m' o' s' hk S' P'=>⟨hk.1 _ _ S'.sg,hk.2 A s' fr Q hA S' P' hQ⟩)
theorem Qgp {p q:Pos}{es:List Expr}(hs:Zx es=true)
  (h:W c N ou m oh (eval (.Name x q) ou) (Ql5 c N ou es k)):W c N ou m oh (eval (.Call (.Name x q) es [] p) ou) k:=by
 show W c N ou m oh (do callWith p (<- eval (.Name x q) ou) [] (backTo p (starEach es ou)) (backToKw p (keywordEach [] ou))) k
 exact Qc (Qk h λf m o h=>QcX (first:=[]) hs h)
theorem Qor {p q:Pos}{es:List Expr}{ks:List Keyword}(hs:Zx es=true) (hk:ks.all (·.arg.isSome)=true)
  (h:W c N ou m oh (eval (.Name x q) ou) λf m o=>Zm c N ou es [] (λvs m o=>Ya c N ou ks [] (λkw m o=>Q0 c o f/\W c N ou m o (call f vs ((ks.filterMap (·.arg)).zip kw)) k) m o) m o) :
  W c N ou m oh (eval (.Call (.Name x q) es ks p) ou) k:=by
 show W c N ou m oh (do callWith p (<- eval (.Name x q) ou) [] (backTo p (starEach es ou)) (backToKw p (keywordEach ks ou))) k
 exact Qc (Qk h λf m o h=>QcW (first:=[]) hs hk h)
end
theorem QbF (kf:Str->Option NameKind) (x:Str) (hx:kf x=some .local):∀ (bs:LV) (m0:Loc),bindL kf bs m0 x=(bs.reverse.lookup x).or (m0 x)
 | [],m0=>by simp[bindL]
 |(n,v)::r,m0=>by
  unfold bindL
  rw[QbF kf x hx r]
  simp only[List.reverse_cons,List.lookup_append,kc_,List.lookup_nil,Option.or_assoc]
  congr 1
  by_cases h:x=n
  ·subst h;simp[hx]
  ·have hb:(x==n)=false:=beq_eq_false_iff_ne.mpr h
   rw[hb]
   split
   ·simp[h]
   ·simp
theorem QbE (kf:Str->Option NameKind) (x:Str) (hx:kf x≠some .local):∀ (bs:LV) (m0:Loc),bindC kf bs m0 x=(bs.reverse.lookup x).or (m0 x)
 | [],m0=>by simp[bindC]
 |(n,v)::r,m0=>by
  unfold bindC
  rw[QbE kf x hx r]
  simp only[List.reverse_cons,List.lookup_append,kc_,List.lookup_nil,Option.or_assoc]
  congr 1
  by_cases h:x=n
  ·subst h;simp[hx]
  ·have hb:(x==n)=false:=beq_eq_false_iff_ne.mpr h
   rw[hb]
   split
   ·simp
   ·simp[h]
theorem Qev {bs:LV}(h:bs.reverse.lookup x=some v):∃p∈bs,p.1=x:=by
 have:∀l:List (Str × Vl),l.lookup x=some v->∃p∈l,p.1=x:=by
  intro l
  induction l with
  |nil=>intro h;cases h
  |cons p r ih =>
   intro h
   rw[kc_] at h
   by_cases hp:x=p.1
   ·exact⟨p,.head _,hp.symm⟩
   ·have hb:(x==p.1)=false:=beq_eq_false_iff_ne.mpr hp
    rw[hb] at h
    obtain⟨q,hq,e⟩:=ih h
    exact⟨q,.tail _ hq,e⟩
 obtain⟨p,hp,e⟩:=this _ h
 exact⟨p,List.mem_reverse.mp hp,e⟩
theorem Yo {α:Type}{l:List (Str × α)}{a:α}(h:l.lookup x=some a):(x,a)∈l:=by
 induction l with
 |nil=>cases h
 |cons q r ih =>
  rw[kc_] at h
  by_cases hq:x=q.1
  ·have:(x==q.1)=true:=by simpa using hq
   cases this,h
   rw[hq];exact .head _
  ·have:(x==q.1)=false:=beq_eq_false_iff_ne.mpr hq
   rw[this] at h;exact .tail _ (ih h)
noncomputable def YP:Flow->Vl
 |.ret v=>v
 |_=>.none
section
variable {α β:Type}
theorem QfL {f:Ad}{fd:Fd_}{body:List Stmt}{args:Args}{binds:LV}{oc:Vl}{od:Option Ad}{osl:Array (Option Vl)}{k:KO}
  (hK:c.K.lookup f=some ⟨oc,od,.func fd,osl⟩) (hb:fd.body = .stmts body) (hclo:fd.closure=[]) (hgl:fd.globals=mainGlobals) (hbt:fd.builtins=builtinsNs)
  (hcd:codeIn c.K fd.code fd.qualname=true) (hbind:∀s,c.K.In s.heap->BindsTo s fd args binds)
  (bp:(binds.all λy=>fd.scope.names.lookup y.1==some .local||fd.scope.names.lookup y.1==some .cell)=true)
  (hnf:fd.scope.names.all (λq=>q.2 != .free)=true) (hco:fd.scope.isCoroutine=false) (hgen:fd.scope.isGenerator=false) (hk:fd.scope.kind = .function)
  (h:∀ou:Env,ou.scope=fd.scope->ou.code=fd.code->W c N ou (λx=>binds.reverse.lookup x) oh (execs body ou) λfl x_ o=>k (YP fl) o) :
  CC c (N+1) oh (.call (.ref f) args) k:=by
 intro A s fr Q hA S P hQ
 have hd:A.depth < recursionLimit:=by have:=hA.1;omega
 refine(codeAny_call_function (args:=args) hd (S.kIn _ _ hK) rfl hco hgen hb (codeRec_of S.kIn hcd) (hbind s S.kIn _ _ _ _ ?_))
 rw[hclo,hgl,hbt]
 refine wpAny_with_toks (n:=1) P (wpAny_newFunctionEnv_cells hk (kindsX bp _) λou he s' x P'=>⟨S.nolimit.keeps x.toInCall.keep,codeAny_func ?_⟩)
 have hsc:ou.scope=fd.scope:=by rw[he];rfl
 obtain⟨h',tk,hs'⟩:=x.toInCall.same
 have ko:∀x,ou.kindOf x=fd.scope.names.lookup x:=λx=>by unfold Env.kindOf;rw[hsc]
 have cs:ou.cells=cellsFrom (s.heap.objs.size+1) fd.scope.names []:=by rw[he];rfl
 have fm:Fm ou (λx=>binds.reverse.lookup x) s'.heap:=by
  refine⟨by rw[hsc];exact hk,by rw[he];rfl,by rw[he];rfl,⟨_,x.toInCall.ns,λy v e hl=>?_⟩,λy v e=>?_,λy e=>?_,λy cc e=>⟨_,x.cell y cc e⟩,λy z cc e1 e2=>name_of_addr x.apart (mem_of_lookup e1) (mem_of_lookup e2),
   λy cc e=>Nat.ne_of_gt (x.above y cc (mem_of_lookup e))⟩
  ·rw[QbF _ _ hl,e];rfl
  ·obtain⟨p,hp,rfl⟩:=Qev e
   have hkk:=List.all_eq_true.mp bp p hp
   rw[Bool.or_eq_true,beq_iff_eq,beq_iff_eq] at hkk
   rcases hkk with q|q
   ·exact .inl (by rw[ko];exact q)
   ·refine .inr ⟨.inl (by rw[ko];exact q),?_⟩
    obtain⟨cc,hc⟩:=is_.mp (cellsFrom_some fd.scope.names (s.heap.objs.size+1) [] (.inl q))
    rw[<- cs] at hc
    refine⟨cc,hc,?_⟩
    have:=x.cell _ cc hc
    rw[QbE _ _ (by rw[ko,q];intro z;cases z),e] at this
    exact this
  ·rw[ko] at e
   replace e:fd.scope.names.lookup y=some .cell:=e.resolve_right λq=>by
    have:=List.all_eq_true.mp hnf _ (Yo q)
    simp at this
   obtain⟨cc,hc⟩:=is_.mp (cellsFrom_some fd.scope.names (s.heap.objs.size+1) [] (.inl e))
   rw[<- cs] at hc
   exact⟨cc,_,hc,x.cell y cc hc⟩
 have big:∀a,QQ ou a->s.heap.objs.size<=a:=λa ha=>by
  rcases ha with rfl|⟨y,e⟩
  ·exact x.toInCall.fresh
  ·exact Nat.le_trans x.toInCall.fresh (Nat.le_of_lt (x.above y a (mem_of_lookup e)))
 have S':St c ou (λx=>binds.reverse.lookup x) oh fr s':=by
  refine⟨⟨S.base,λa o e=>x.toInCall.keep a o (S.has a o e),λa o e=>x.toInCall.keep a o (S.hfr a o e),S.dj,λT hT=>?_,?_,?_⟩,fm,λa ha=>⟨?_,?_,λhT=>?_⟩⟩
  ·obtain⟨⟨vs,e⟩,r⟩:=S.tab T hT
   exact⟨⟨vs,x.toInCall.keep _ _ e⟩,r⟩
  ·rw[hs'];exact S.os
  ·rw[hs'];exact S.gens
  ·cases e:oh a with
   |none=>rfl
   |some o=>exact absurd (Heap.lt_size (S.has a o e)) (Nat.not_lt.mpr (big a ha))
  ·cases e:fr a with
   |none=>rfl
   |some o=>exact absurd (Heap.lt_size (S.hfr a o e)) (Nat.not_lt.mpr (big a ha))
  ·exact absurd (S.aj hT) (Nat.not_lt.mpr (big a ha))
 refine wpAny_mono (h ou hsc (by rw[he];rfl) (A.deeper ou) s' fr (λfl s''=>Q (.ok (.ret (YP fl))) s'') hA.deeper S' P' λfl m' o' s'' hkk S''=>hQ _ o' s'' hkk S''.sg) (λfl s'' q=>?_) λx_ x_ q=>q.elim
 induction fl<;>exact q
def ZB (c:Cx) (N:Nat) (ou:Env) (m:Loc) (oh:Own) (ov:Vl) (name:Str) (k:Vl->List Vl->Loc->Own->Prop):Prop :=
 ∀pl,W c N ou m oh (getMethod ov name pl) λp m o=>k p.1 p.2 m o
abbrev Ql6 (c:Cx) (N:Nat) (ou:Env) (name:Str) (es:List Expr) (k:KV):Vl->Loc->Own->Prop:=λov m w=>ZB c N ou m w ov name (Qeh c N ou es k)
theorem Qbj {o:Expr}{name:Str}{apos p:Pos}{es:List Expr}(hs:Zx es=true)
  (h:W c N ou m oh (eval o ou) (Ql6 c N ou name es k))
  (aM:attributeBase o name ou (eval o ou)=eval o ou:=by rfl) (aY:(apos.endLine==p.line)=true:=by rfl) (hn:es.length < 30:=by decide) :
  W c N ou m oh (eval (.Call (.Attribute o name apos) es [] p) ou) k:=by
 rw[arm_eval_Call,aM]
 have hf:methodCallForm (es.length+([]:List Keyword).length) (backTo p (starEach es ou)) (backToKw p (keywordEach [] ou))=true:=by
  rw[Yt hs,X4]
  show ((es.map λe=>(false,eval e ou)).all (!·.1)&&true&&decide (es.length+0+0 < 30))=true
  have e:((es.map λe=>(false,eval e ou)).all (!·.1))=true:=by rw[List.all_map];exact List.all_eq_true.mpr λx_ x_=>rfl
  rw[e];exact decide_eq_true hn
 refine Qc (Qk h λov m w h=>Qc (Q1 ?_))
 unfold methodCall
 rw[hf]
 refine Qc (Q9 ?_)
 refine Qk (h _) λq m w h=>?_
 obtain⟨f,first⟩:=q
 have hp:methodCallPos true o ou apos p=pure p:=by unfold methodCallPos;exact if_pos aY
 rw[hp]
 exact Qc (Qs (QcX hs h))
theorem Qox {o:Expr}{name:Str}{apos p:Pos}{es:List Expr}{ks:List Keyword}(hs:Zx es=true) (hk:ks.all (·.arg.isSome)=true)
  (h:W c N ou m oh (eval o ou) λov m w=>ZB c N ou m w ov name λf first m w =>
   Zm c N ou es [] (λvs m w=>Ya c N ou ks [] (λkw m w=>Q0 c w f/\W c N ou m w (call f (first++vs) ((ks.filterMap (·.arg)).zip kw)) k) m w) m w)
  (aM:attributeBase o name ou (eval o ou)=eval o ou:=by rfl) (aY:(apos.endLine==p.line)=true:=by rfl) (hn:es.length+ks.length < 29:=by decide) :
  W c N ou m oh (eval (.Call (.Attribute o name apos) es ks p) ou) k:=by
 rw[arm_eval_Call,aM]
 have hf:methodCallForm (es.length+ks.length) (backTo p (starEach es ou)) (backToKw p (keywordEach ks ou))=true:=by
  rw[Yt hs,X4,QaL]
  simp only[methodCallForm,List.all_map,Bool.and_eq_true,decide_eq_true_eq]
  refine⟨⟨by rw[List.all_eq_true];intro _ _;rfl,hk⟩,?_⟩
  split<;>omega
 refine Qc (Qk h λov m w h=>Qc (Q1 ?_))
 unfold methodCall
 rw[hf]
 refine Qc (Q9 ?_)
 refine Qk (h _) λq m w h=>?_
 obtain⟨f,first⟩:=q
 have hp:methodCallPos true o ou apos p=pure p:=by unfold methodCallPos;exact if_pos aY
 rw[hp]
 exact Qc (Qs (QcW hs hk h))
theorem Qgo {o:Expr}{a:Str}(h:W c N ou m oh (eval o ou) (Ql3 c N ou a k))
  (aM:attributeBase o a ou (eval o ou)=eval o ou:=by rfl):W c N ou m oh (eval (.Attribute o a p) ou) k:=by
 rw[arm_eval_Attribute,aM]
 exact Qc (Qk h λv m w h=>Qc (Q1 (Qc (Q9 (Qk h λr m w h=>Qc (Qar (Qs h)))))))
theorem QcU {o i:Expr}(h:W c N ou m oh (eval o ou) (Qmc c N ou i k)) :
  W c N ou m oh (eval (.Subscript o i p) ou) k:=by
 rw[arm_eval_Subscript]
 exact Qc (Qk h λv m w h=>Qc (Q9 (Qk h λj m w h=>Qc (Q1 (Qc (Qk h λb m w h=>Qc (Qk h λr m w h=>Qc (Qar (Qs h)))))))))
theorem Qhi {q p:Pos}{e:Expr}{k:KF_}(hl:ou.kindOf x=some .local) (h:W c N ou m oh (eval e ou) (Qed x k))
  (hsw:swapsWith e (some (.Name x q)) p.line ou=pure false:=by rfl):W c N ou m oh (exec (.Assign [.Name x q] e p) ou) k:=by
 rw[exec_Assign_Name ou x q e p hsw]
 exact Qc (Q1 (Qc (Qk h λv m w h=>Qc (Q1 (Qc (Y2 (Y9 hl (Qs h))))))))
theorem Qkz (ou:Env) (o i:Expr) (q p:Pos) (e:Expr):∃rel:Vl->Vl->Vl->List Vl,exec (.Assign [.Subscript o i q] e p) ou=(do
   standAt p
   if <- swapsWith e (some (.Subscript o i q)) p.line ou then do
    evalThenUse e ou λv=>assignAll v ((assignEach [.Subscript o i q] ou).map (·.2))
    pure .next
   else do
    let v <- eval e ou
    assignStores ou v none [λv=>do
     let ov <- holding [v] (eval o ou)
     let iv <- holding [v,ov] (eval i ou)
     standAt q
     holding [v,ov,iv] (setItem ov iv v)
     release (rel v ov iv) []]):=⟨_,rfl⟩
theorem QoL {o i:Expr}{q p:Pos}{e:Expr}{k:KF_}
  (h:W c N ou m oh (eval e ou) λv m w=>W c N ou m w (eval o ou) λov m w=>W c N ou m w (eval i ou) λiv m w=>W c N ou m w (setItem ov iv v) λx_ m w=>k .next m w)
  (hsw:swapsWith e (some (.Subscript o i q)) p.line ou=pure false:=by rfl):W c N ou m oh (exec (.Assign [.Subscript o i q] e p) ou) k:=by
 obtain⟨rel,e1⟩:=Qkz ou o i q p e
 rw[e1,hsw]
 refine Qc (Q1 (Qc (Qs (Qc (Qk h λv m w h=>?_)))))
 refine Qc (Qc (Q9 (Qk h λov m w h=>Qc (Q9 (Qk h λiv m w h=>Qc (Q1 (Qc (Q9 (Qk h λx_ m w h=>Qby (Qs h))))))))))
theorem QoK {o:Expr}{a:Str}{q p:Pos}{e:Expr}{k:KF_}
  (h:W c N ou m oh (eval e ou) λv m w=>W c N ou m w (eval o ou) λov m w=>W c N ou m w (setAttr ov a v) λx_ m w=>k .next m w)
  (hsw:swapsWith e (some (.Attribute o a q)) p.line ou=pure false:=by rfl):W c N ou m oh (exec (.Assign [.Attribute o a q] e p) ou) k:=by
 have e1:exec (.Assign [.Attribute o a q] e p) ou=(do
   standAt p
   if <- swapsWith e (some (.Attribute o a q)) p.line ou then do
    evalThenUse e ou λv=>assignAll v ((assignEach [.Attribute o a q] ou).map (·.2))
    pure .next
   else do
    let v <- eval e ou
    assignStores ou v none [λv=>do
     let ov <- holding [v] (eval o ou)
     standAt q.atName
     holding [v,ov] (setAttr ov a v)
     release [v,ov] []]):=by rfl
 rw[e1,hsw]
 refine Qc (Q1 (Qc (Qs (Qc (Qk h λv m w h=>?_)))))
 exact Qc (Qc (Q9 (Qk h λov m w h=>Qc (Q1 (Qc (Q9 (Qk h λx_ m w h=>Qby (Qs h))))))))
end
open Classical in
noncomputable def hide (wr:List Ad) (h:Heap) (fr:Own):Own:=λa=>if a∈wr then h.get? a else fr a
noncomputable def QaQ:List String:=["enumerate","zip","dict_itemiterator","dict_reverseitemiterator","odict_iterator","itertools.zip_longest","itertools.pairwise"]
def Src (c:Cx) (A:Ar) (oh fr:Own) (I:Ad) (n:Nat) (P:Nat->Vl->Prop) (dep:List (Ad × Obj)) (s:Sh):Prop :=
 ∃fp wr StW,(∀A':Ar,A'.handled=none->Walks c.prog c.w A' I fp wr n P StW)/\StW 0 s.heap/\(∀b∈wr,oh b=none/\fr b=none/\b∉c.tabs/\∃o,s.heap.get? b=some o) /\
  (∀b∈fp,b∈wr\/∃o,(b,o)∈dep)/\(∀i h,StW i h->∃o cl,h.get? I=some o/\o.cls = .type cl/\QaQ.contains cl=false)/\(∀i h,StW i h->∀b∈wr,∃o,h.get? b=some o)
def Itr (c:Cx) (N:Nat) (oh:Own) (x:Vl) (n:Nat) (P:Nat->Vl->Prop) (dep:List (Ad × Obj)):Prop :=
 ∀ (A:Ar) (s:Sh) (fr:Own) (Q:KQ_),Qu N A->Sg c oh fr s->0 < s.toks ->
  (∀I s',Src c A oh fr I n P dep s'->Sg c oh fr s'->Q (.ref I) s')->wA (model c.prog c.w) A (pyIter x) Q F0 s
section
set_option tactic.hygienic true in
theorem Sg.hide {wr:List Ad}(S:Sg c oh fr s) (hw:∀b∈wr,oh b=none/\fr b=none/\b∉c.tabs):Sg c oh (hide wr s.heap fr) s:=by
 refine⟨S.base,S.has,λa o e=>?_,λa o e=>?_,λT hT=>?_,S.os,S.gens⟩
 ·unfold Tactic.hide at e
  split at e
  ·exact e
  ·exact S.hfr a o e
 ·unfold Tactic.hide
  split
  ·rename_i h;cases ((hw a h).1),e
  ·exact S.dj a o e
 ·obtain⟨h0,h1,h2⟩:=S.tab T hT
  refine⟨h0,h1,?_⟩
  unfold Tactic.hide
  split
  ·rename_i h;exact absurd hT (hw T h).2.2
  ·exact h2
set_option tactic.hygienic true in
theorem St.moved {wr:List Ad}{h0 h':Heap}{t:Nat}(S:St c ou m oh (hide wr h0 fr) s) (hw:∀b∈wr,fr b=none/\b∉c.tabs/\¬ QQ ou b) (hex:∀b∈wr,∃o,h0.get? b=some o)
  (hk:∀b o,b∉wr->s.heap.get? b=some o->h'.get? b=some o):St c ou m oh (hide wr h' fr) { s with heap:=h',toks:=t }:=by
 have now:∀a o,oh a=some o->a∉wr:=λa o e hm=>by
  have:=S.sg.dj a o e
  unfold Tactic.hide at this
  rw[if_pos hm] at this
  obtain⟨o',ho'⟩:=hex a hm
  cases ho',this
 refine⟨⟨S.sg.base,λa o e=>hk a o (now a o e) (S.sg.has a o e),λa o e=>?_,λa o e=>?_,λT hT=>?_,S.sg.os,S.sg.gens⟩,S.fm.at λa o ha e=>hk a o (λhm=>(hw a hm).2.2 ha) e,λa ha=>?_⟩
 ·unfold Tactic.hide at e
  split at e
  ·exact e
  ·rename_i hn
   refine hk a o hn (S.sg.hfr a o ?_)
   unfold Tactic.hide;rw[if_neg hn];exact e
 ·unfold Tactic.hide
  rw[if_neg (now a o e)]
  have:=S.sg.dj a o e
  unfold Tactic.hide at this
  rw[if_neg (now a o e)] at this;exact this
 ·obtain⟨⟨vs,e⟩,h1,h2⟩:=S.sg.tab T hT
  have hn:T∉wr:=λhm=>(hw T hm).2.1 hT
  refine⟨⟨vs,hk T _ hn e⟩,h1,?_⟩
  unfold Tactic.hide at h2 ⊢
  rw[if_neg hn] at h2 ⊢;exact h2
 ·obtain⟨d1,d2,d3⟩:=S.dl a ha
  refine⟨d1,?_,d3⟩
  have hn:a∉wr:=λhm=>(hw a hm).2.2 ha
  unfold Tactic.hide at d2 ⊢
  rw[if_neg hn] at d2 ⊢;exact d2
set_option tactic.hygienic true in
theorem St.show {wr:List Ad}{h0:Heap}(S:St c ou m oh (hide wr h0 fr) s) (hw:∀b∈wr,fr b=none):St c ou m oh fr s:=by
 refine⟨⟨S.sg.base,S.sg.has,λa o e=>S.sg.hfr a o ?_,λa o e=>?_,λT hT=>?_,S.sg.os,S.sg.gens⟩,S.fm,λa ha=>⟨(S.dl a ha).1,?_,(S.dl a ha).2.2⟩⟩
 ·unfold Tactic.hide
  rw[if_neg (λhm=>by cases (hw a hm),e)];exact e
 ·have:=S.sg.dj a o e
  unfold Tactic.hide at this
  split at this
  ·rename_i hm;exact hw a hm
  ·exact this
 ·obtain⟨h0,h1,h2⟩:=S.sg.tab T hT
  refine⟨h0,h1,?_⟩
  unfold Tactic.hide at h2
  split at h2
  ·rename_i hm;exact hw T hm
  ·exact h2
 ·have:=(S.dl a ha).2.1
  unfold Tactic.hide at this
  split at this
  ·rename_i hm;exact hw a hm
  ·exact this
theorem XD {wr:List Ad}{h:Heap}{b:Ad}(hm:b∈wr):hide wr h fr b=h.get? b:=by unfold Tactic.hide;rw[if_pos hm]
theorem QnS {it v:Vl}{Q:Unit->Sh->Prop}{E:KQ_}{M:Model}(h:Q () s):wA M A (letOwnedTupleGo (.Name x p) it v) Q E s:=wp_ h
set_option tactic.hygienic true in
theorem Qfw {t:Expr}{I:Ad}{cl:String}{Q:Unit->Sh->Prop}{E:KQ_}{M:Model}(ho:s.heap.get? I=some o) (hc:o.cls = .type cl) (hn:QaQ.contains cl=false) (h:Q () s) :
  wA M A (letOwnedTupleGo t (.ref I) v) Q E s:=by
 have hn':(["enumerate","zip","dict_itemiterator","dict_reverseitemiterator","odict_iterator","itertools.zip_longest","itertools.pairwise"].contains cl)=false:=hn
 have go:wA M A (match (Value.ref I,v) with
   |(.ref r,.ref a)=>(do
    let o <- load r
    match o.cls,o.data with
    |.type n,.fields vs =>
     if ["enumerate","zip","dict_itemiterator","dict_reverseitemiterator","odict_iterator","itertools.zip_longest","itertools.pairwise"].contains n&&vs[0]?==some (rawInt a) then
      rule "for.unpacks-the-owned-tuple"
      updateField r 0 .none
    |_,_=>pure ():Sem Unit)
   |_=>pure ()) Q E s:=by
  induction v<;>try exact wp_ h
  rename_i a
  refine wb9 (wpAny_load ho ?_)
  rw[hc]
  cases hd:o.data<;>try exact wp_ h
  dsimp only
  rw[hn',Bool.false_and,if_neg (by decide)]
  exact wp_ h
 cases t<;>first|exact wp_ h|exact go
def Qbg (k:KF_) (J:Loc->Own->Prop) (f:Flow) (m:Loc) (o:Own):Prop:=match f with
 |.next=>J m o
 |.cont=>J m o
 |.brk=>k .next m o
 |.ret v=>k (.ret v) m o
def ForTurns (c:Cx) (N:Nat) (ou:Env) (target:Expr) (body orelse:List Stmt) (k:KF_) (x:Vl) (m:Loc) (o:Own):Prop :=
 ∃ (n:Nat) (P:Nat->Vl->Prop) (dep:List (Ad × Obj)) (J:Nat->Loc->Own->Prop),Itr c N o x n P dep/\J 0 m o /\
   (∀i m o,J i m o->∀q∈dep,o q.1=some q.2) /\
   (∀i v m o,i < n->P i v->J i m o->W c N ou m o (assign target ou v) λx_ m o=>W c N ou m o (execs body ou) (Qbg k (J (i+1)))) /\
   (∀m o,J n m o->W c N ou m o (execs orelse ou) k)
theorem frI {target:Expr}{body orelse:List Stmt}{k:KF_}{x:Vl}{o:Own}(n:Nat) (P:Nat->Vl->Prop) (dep:List (Ad × Obj)) (J:Nat->Loc->Own->Prop) (h1:Itr c N o x n P dep) (h2:J 0 m o)
   (h3:∀i m o,J i m o->∀q∈dep,o q.1=some q.2)
   (h4:∀i v m o,i < n->P i v->J i m o->W c N ou m o (assign target ou v) λx_ m o=>W c N ou m o (execs body ou) (Qbg k (J (i+1))))
   (h5:∀m o,J n m o->W c N ou m o (execs orelse ou) k):ForTurns c N ou target body orelse k x m o:=(⟨n,P,dep,J,h1,h2,h3,h4,h5⟩)
end
noncomputable abbrev lst (xs:List Vl) (n:Nat):Obj:={ cls:=.type "list",data:=.seq xs.toArray n }
noncomputable abbrev tup (xs:List Vl):Obj:={ cls:=.type "tuple",data:=.seq xs.toArray }
theorem Qe6 {xs ys:List Vl}{n m:Nat}(h:(Data.seq xs.toArray n) = .seq ys.toArray m):xs=ys:=congrArg Array.toList (Data.seq.inj h).1
theorem QbW {xs ys:List Vl}{n m:Nat}(h:some (lst xs n)=some (lst ys m)):xs=ys:=Qe6 (congrArg Obj.data (Option.some.inj h))
theorem Qfm {xs ys:List Vl}(h:some (tup xs)=some (tup ys)):xs=ys:=Qe6 (congrArg Obj.data (Option.some.inj h))
theorem Qci {a b c d:Vl}(h:some (tup [a,b])=some (tup [c,d])):a=c/\b=d:=⟨Option.some.inj (congrArg (λl:List Vl=>l[0]?) (Qfm h)),Option.some.inj (congrArg (λl:List Vl=>l[1]?) (Qfm h))⟩
theorem Qfl {a b c d:Ad}(h:some (tup [.ref a,.ref b])=some (tup [.ref c,.ref d])):a=c/\b=d:=⟨Value.ref.inj (Qci h).1,Value.ref.inj (Qci h).2⟩
abbrev IsD (c:Cx) (o:Obj) (oj:LV):Prop:=o.IsDictOf (strKind c.prog c.w) oj
section
theorem Sg.lst (S:Sg c oh fr s) (h:oh a=some (lst xs n)):s.heap.IsList a xs.toArray:=⟨_,S.has _ _ h,rfl,n,rfl⟩
theorem Sg.tup (S:Sg c oh fr s) (h:oh a=some (tup xs)):s.heap.IsTuple a xs.toArray:=⟨_,S.has _ _ h,rfl,0,rfl⟩
theorem Sg.dct (S:Sg c oh fr s) {oj:LV}(h:oh a=some o) (hd:IsD c o oj):s.heap.DictOf (strKind c.prog c.w) a oj:=Heap.dictOf_iff.mpr ⟨o,S.has _ _ h,hd⟩
theorem Src.made {P:Nat->Vl->Prop}{dep:List (Ad × Obj)}{src:List Ad}{StW:Nat->Heap->Prop}{t:Nat}(S:Sg c oh fr s)
  (Wk:∀A':Ar,A'.handled=none->Walks c.prog c.w A' s.heap.objs.size (s.heap.objs.size::src) [s.heap.objs.size] n P StW) (h0:StW 0 (s.heap.push o)) (hsrc:∀b∈src,∃o,(b,o)∈dep) (hf:o.isFreed=false)
  (hcl:∀i h,StW i h->∃o cl,h.get? s.heap.objs.size=some o/\o.cls = .type cl/\QaQ.contains cl=false) :
  Src c A oh fr s.heap.objs.size n P dep { s with heap:=s.heap.push o,toks:=t }:=by
 refine⟨_,_,StW,Wk,h0,λb hb=>?_,λb hb=>?_,hcl,λi h hst b hb=>?_⟩
 ·rw[ms_.mp hb]
  exact⟨S.fresh,S.aH,λhT=>Nat.lt_irrefl _ (S.aj hT),_,gz_ _ hf⟩
 ·rcases mc_.mp hb with rfl|hb
  ·exact .inl (.head _)
  ·exact .inr (hsrc b hb)
 ·rw[ms_.mp hb]
  obtain⟨o',_,ho',_⟩:=hcl i h hst
  exact⟨o',ho'⟩
theorem Xv (h:oh a=some (lst xs n)):Itr c N oh (.ref a) xs.length (λi v=>xs[i]?=some v) [(a,lst xs n)]:=by
 intro A s fr Q hA S P hQ
 have hl:=S.lst h
 have ne:a≠s.heap.objs.size:=Nat.ne_of_lt (S.low h)
 have Wk (A':Ar) (hA':A'.handled=none):Walks c.prog c.w A' s.heap.objs.size [s.heap.objs.size,a] [s.heap.objs.size] xs.length (λi v=>xs[i]?=some v) (λi h=>h.IsListIter s.heap.objs.size a i/\h.IsList a xs.toArray):=by
  simpa using Walks.list hA' s.heap.objs.size a ne xs.toArray
 refine wpAny_pyIter_list hl (hQ _ _ (Src.made (t:=s.toks) (src:=[a]) S Wk ⟨⟨_,gz_ _ rfl,rfl,rfl⟩,hl.push _⟩ (λb hb=>⟨lst xs n,by refine memS hb ?_;exact .head _⟩) rfl λi h hst=>?_) (S.aS _ _))
 obtain⟨⟨o,ho,hc,_⟩,_⟩:=hst
 exact⟨o,_,ho,hc,by decide⟩
theorem qu (h:oh a=some (tup xs)):Itr c N oh (.ref a) xs.length (λi v=>xs[i]?=some v) [(a,tup xs)]:=by
 intro A s fr Q hA S P hQ
 have hl:=S.tup h
 have ne:a≠s.heap.objs.size:=Nat.ne_of_lt (S.low h)
 have hp:(s.heap.push { cls:=.type "tuple_iterator",data:=.fields #[.ref a,.int 0 0] }).IsTuple a xs.toArray:=hl.at λo e=>gp_ _ e
 have Wk (A':Ar) (hA':A'.handled=none):Walks c.prog c.w A' s.heap.objs.size [s.heap.objs.size,a] [s.heap.objs.size] xs.length (λi v=>xs[i]?=some v) (λi h=>h.IsTupleIter s.heap.objs.size a i/\h.IsTuple a xs.toArray):=by
  simpa using Walks.tuple hA' s.heap.objs.size a ne xs.toArray
 refine wpAny_pyIter_tuple hl (hQ _ _ (Src.made (t:=s.toks) (src:=[a]) S Wk ⟨⟨_,gz_ _ rfl,rfl,rfl⟩,hp⟩ (λb hb=>⟨tup xs,by refine memS hb ?_;exact .head _⟩) rfl λi h hst=>?_) (S.aS _ _))
 obtain⟨⟨o,ho,hc,_⟩,_⟩:=hst
 exact⟨o,_,ho,hc,by decide⟩
theorem qr {oj:LV}(h:oh a=some o) (hd:IsD c o oj) (hs:(a==sysModules)=false) :
  Itr c N oh (.ref a) oj.length (λi v=>∃k x t,oj[i]?=some (k,x)/\v = .str k t) [(a,o)]:=by
 intro A s fr Q hA S P hQ
 obtain⟨ep,hm⟩:=(S.dct h hd).dictAt
 have ne:a≠s.heap.objs.size:=Nat.ne_of_lt (S.low h)
 have Wk' (A':Ar) (hA':A'.handled=none):Walks c.prog c.w A' s.heap.objs.size [s.heap.objs.size,a] [s.heap.objs.size] oj.length (λi v=>∃k x t,oj[i]?=some (k,x)/\v = .str k t)
   (λi h=>h.IsKeyIter s.heap.objs.size a i oj.length ep/\h.DictAt (strKind c.prog c.w) a oj ep) :=
  let Wk:=Walks.dictKeys (knd:=strKind c.prog c.w) hA' s.heap.objs.size a ne oj ep
  {sub:=Wk.sub,frame:=Wk.frame,done:=Wk.done,self:=Wk.self,
   item:=λi s Q E hi st hQ=>Wk.item i s Q E hi st λv h' tk hP=>hQ v h' tk (by
    obtain⟨k,x,e,hk⟩:=hP
    obtain⟨t,rfl⟩:=Value.isStrOf_shape hk
    exact⟨k,x,t,e,rfl⟩) }
 refine wpAny_pyIter_dict hs hm (hQ _ _ (Src.made (t:=s.toks) (src:=[a]) S Wk' ⟨⟨_,gz_ _ rfl,rfl,rfl⟩,hm.push _⟩ (λb hb=>⟨o,by refine memS hb ?_;exact .head _⟩) rfl λi h hst=>?_) (S.aS _ _))
 obtain⟨⟨o,ho,hc,_⟩,_⟩:=hst
 exact⟨o,_,ho,hc,by decide⟩
theorem Qgg:Itr c N oh (.str x t) x.cps.size (λi v=>∃d u,x.cps[i]?=some d/\v = .str ⟨#[d]⟩ u) []:=by
 intro A s fr Q hA S P hQ
 cases ha:x.cps.all (· < 128)
 ·refine wpAny_pyIter_wide ha (hQ _ _ (Src.made (t:=s.toks) (src:=[]) S (λA' hA'=>Walks.strWide hA' s.heap.objs.size x t) ⟨_,gz_ _ rfl,rfl,rfl⟩ (λb hb=>nomatch hb) rfl λi h hst=>?_) (S.aS _ _))
  obtain⟨o,ho,hc,_⟩:=hst
  exact⟨o,_,ho,hc,by decide⟩
 ·refine wpAny_pyIter_ascii ha (hQ _ _ (Src.made (t:=s.toks) (src:=[]) S (λA' hA'=>Walks.strAscii hA' s.heap.objs.size x t) ⟨_,gz_ _ rfl,rfl,rfl⟩ (λb hb=>nomatch hb) rfl λi h hst=>?_) (S.aS _ _))
  obtain⟨o,ho,hc,_⟩:=hst
  exact⟨o,_,ho,hc,by decide⟩
end
noncomputable def Qz (names:List (Str × NameKind)) (ou:Env):List (Str × Ad):=(names.filterMap λq=>if q.2==.free then (ou.cells.lookup q.1).map (q.1,·) else none).reverse
theorem QdD {scope:Scope}(h:∀n,(n,NameKind.free)∈scope.names->(ou.cells.lookup n).isSome=true):closureFor scope ou=pure (Qz scope.names ou):=by
 have key:∀ (names:List (Str × NameKind)) (acc:List (Str × Ad)),(∀n,(n,NameKind.free)∈names->(ou.cells.lookup n).isSome=true) ->
   (forIn names acc λx r=>match x with
    |(name,kind)=>if (kind==NameKind.free)=true then (do let a <- cellOf ou name;pure (ForInStep.yield ((name,a)::r))) else pure (ForInStep.yield r):Sem (List (Str × Ad))) =
    pure (Qz names ou++acc):=by
  intro names
  induction names with
  |nil=>intro acc _;rw[List.forIn_nil];rfl
  |cons q r ih =>
   intro acc h
   obtain⟨n,k⟩:=q
   rw[List.forIn_cons]
   have hr:=λacc=>ih acc λn hn=>h n (.tail _ hn)
   by_cases hk:(k==NameKind.free)=true
   ·have e:k = .free:=by simpa using hk
    subst e
    obtain⟨a,ha⟩:=is_.mp (h n (.head _))
    have e1:Qz ((n,NameKind.free)::r) ou=Qz r ou++[(n,a)]:=by simp[Qz,ha]
    have e2:cellOf ou n=pure a:=by unfold cellOf;rw[ha]
    dsimp only
    rw[if_pos hk,e2,e1,List.append_assoc]
    exact hr ((n,a)::acc)
   ·have e1:Qz ((n,k)::r) ou=Qz r ou:=by simp only[Qz,List.filterMap_cons];rw[if_neg hk]
    dsimp only
    rw[if_neg hk,e1]
    exact hr acc
 have:=key scope.names [] h
 rw[List.append_nil] at this
 unfold closureFor
 simp only[bind_pure]
 exact this
theorem QdC {names:List (Str × NameKind)}(h:(x,a)∈Qz names ou):ou.cells.lookup x=some a:=by
 unfold Qz at h
 rw[List.mem_reverse,List.mem_filterMap] at h
 obtain⟨q,_,e⟩:=h
 split at e
 ·obtain⟨b,hb,e⟩:=mq_.mp e
  cases e;exact hb
 ·cases e
theorem YO {names:List (Str × NameKind)}(h:(Qz names ou).lookup x=some a):ou.cells.lookup x=some a:=QdC (mem_of_lookup h)
theorem Qml {l:List (Str × Ad)}(h:(x,a)∈l) (hu:∀b,(x,b)∈l->b=a):l.lookup x=some a:=by
 induction l with
 |nil=>cases h
 |cons q r ih =>
  rw[kc_]
  by_cases hq:x=q.1
  ·have:(x==q.1)=true:=by simpa using hq
   rw[this]
   have:q.2=a:=hu q.2 (by rw[hq];exact .head _)
   dsimp only;rw[this]
  ·have:(x==q.1)=false:=beq_eq_false_iff_ne.mpr hq
   rw[this]
   rcases mc_.mp h with rfl|h
   ·exact absurd rfl hq
   ·exact ih h λb hb=>hu b (.tail _ hb)
theorem Qjw {names:List (Str × NameKind)}(h:names.lookup x=some .free) (ha:ou.cells.lookup x=some a):(Qz names ou).lookup x=some a:=by
 refine Qml ?_ λb hb=>?_
 ·unfold Qz
  rw[List.mem_reverse,List.mem_filterMap]
  exact⟨(x,.free),Yo h,by simp[ha]⟩
 ·have:=QdC hb;cases ha,this;rfl
theorem QaT:∀ {names:List (Str × NameKind)}{x:Str},names.lookup x=some .free ->
  (names.map λ (n,k)=>if (k==NameKind.free&&ou.scope.kind==.function&&ou.kindOf n==some .cell) then (n,NameKind.cell) else (n,k)).lookup x=some .cell \/
  (names.map λ (n,k)=>if (k==NameKind.free&&ou.scope.kind==.function&&ou.kindOf n==some .cell) then (n,NameKind.cell) else (n,k)).lookup x=some .free
 | [],_,h=>by cases h
 |(n,k)::r,x,h=>by
  rw[kc_] at h
  by_cases hq:x=n
  ·have e:(x==n)=true:=by simpa using hq
   cases e,h
   simp only[List.map_cons]
   split
   ·rw[kc_];simp[e]
   ·rw[kc_];simp[e]
  ·have e:(x==n)=false:=beq_eq_false_iff_ne.mpr hq
   rw[e] at h
   simp only[List.map_cons]
   split<;>(rw[kc_];simp only[e];exact QaT h)
set_option tactic.hygienic true in
theorem Qe1:∀ {names:List (Str × NameKind)}{x:Str},(∀q∈names,q.2≠.cell) ->
  (names.map λ (n,k)=>if (k==NameKind.free&&ou.scope.kind==.function&&ou.kindOf n==some .cell) then (n,NameKind.cell) else (n,k)).lookup x=some .cell->names.lookup x=some .free
 | [],_,_,h=>by cases h
 |(n,k)::r,x,hc,h=>by
  simp only[List.map_cons] at h
  by_cases hq:x=n
  ·have e:(x==n)=true:=by simpa using hq
   split at h
   ·rename_i hk
    rw[kc_];simp only[e]
    simp only[Bool.and_eq_true,beq_iff_eq] at hk
    rw[hk.1.1]
   ·rw[kc_] at h;simp only[e] at h;cases h
    exact absurd rfl (hc _ (.head _))
  ·have e:(x==n)=false:=beq_eq_false_iff_ne.mpr hq
   rw[kc_];simp only[e]
   split at h<;>(rw[kc_] at h;simp only[e] at h;exact Qe1 (λq hq=>hc q (.tail _ hq)) h)
noncomputable def XO (scope:Scope) (m:Loc):Loc:=λy=>if scope.names.lookup y=some .free then m y else none
def Cap (scope:Scope) (m mc:Loc):Prop:=∀y v,scope.names.lookup y=some .free->m y=some v->mc y=some v
theorem Zj {scope:Scope}{m mc:Loc}(hx:scope.names.lookup x=some .local) (h:Cap scope m mc):Cap scope m (upd mc x v):=λy w hy e=>by
 rw[XF (by rintro rfl;cases hx,hy)];exact h y w hy e
theorem QcD {scope:Scope}:Cap scope m (XO scope m):=λy w hy e=>by unfold XO;rw[if_pos hy];exact e
open Classical in
noncomputable def Zw (ou:Env) (cl:List (Str × Ad)) (h:Heap) (fr:Own):Own:=λa=>if QQ ou a/\∀x,cl.lookup x≠some a then h.get? a else fr a
structure ZN (scope:Scope) (ou:Env):Prop where
 kind:scope.kind = .function
 cell:∀q∈scope.names,q.2≠.cell
 free:∀n,(n,NameKind.free)∈scope.names->ou.kindOf n=some .cell\/ou.kindOf n=some .free
 names:∀x∈scope.names,x.2 = .local->scope.names.lookup x.1=some .local
 uniq:∀n,(n,NameKind.free)∈scope.names->scope.names.lookup n=some .free
section
variable {scope:Scope}
theorem ZN.some (K:ZN scope ou) {h:Heap}(F:Fm ou m h) (n:Str) (hn:(n,NameKind.free)∈scope.names):(ou.cells.lookup n).isSome=true:=by
 obtain⟨cc,v,e,_⟩:=F.cl n (K.free n hn)
 rw[e];rfl
theorem Qlq {wr:List Ad}{cl:List (Str × Ad)}{h h':Heap}(hk:∀b o,h.get? b=some o->h'.get? b=some o) (hf:∀a o,fr a=some o->h.get? a=some o) (e:hide wr h' (Zw ou cl h fr) a=some o):h'.get? a=some o:=by
 unfold Tactic.hide at e
 split at e
 ·exact e
 ·unfold Zw at e
  split at e
  ·exact hk a o e
  ·exact hk a o (hf a o e)
theorem QaA {wr:List Ad}{cl:List (Str × Ad)}{h h':Heap}(hm:a∉wr) (hf:¬ (QQ ou a/\∀x,cl.lookup x≠some a)) (hn:fr a=none):hide wr h' (Zw ou cl h fr) a=none:=by
 unfold Tactic.hide
 rw[if_neg hm]
 unfold Zw
 rw[if_neg hf]
 exact hn
theorem Qnd {names:List (Str × NameKind)}(h:(names.map λ (n,k)=>if (k==NameKind.free&&ou.scope.kind==.function&&ou.kindOf n==some .cell) then (n,NameKind.cell) else (n,k)).lookup x=some .free):names.lookup x=some .free:=by
 induction names with
 |nil=>cases h
 |cons q r ih =>
  obtain⟨n,k⟩:=q
  simp only[List.map_cons] at h
  by_cases hq:x=n
  ·have z:(x==n)=true:=by simpa using hq
   split at h
   ·rw[kc_] at h;simp only[z] at h;cases h
   ·rw[kc_] at h ⊢;simp only[z] at h ⊢;exact h
  ·have z:(x==n)=false:=beq_eq_false_iff_ne.mpr hq
   rw[kc_];simp only[z]
   split at h<;>(rw[kc_] at h;simp only[z] at h;exact ih h)
set_option tactic.hygienic true in
theorem Fm.into {E2:Env}{h h':Heap}(K:ZN scope ou) (F:Fm ou m h) (hcl:E2.cells=Qz scope.names ou) (kf:E2.scope.kind = .function) (gl:E2.globals=mainGlobals) (bt:E2.builtins=builtinsNs)
  (ml:∃ml,h'.Ns E2.locals ml/\∀x v,XO scope m x=some v->E2.kindOf x=some .local->ml x=some v) (kx:∀x,scope.names.lookup x=some .free->E2.kindOf x=some .cell\/E2.kindOf x=some .free)
  (ky:∀x,E2.kindOf x=some .cell\/E2.kindOf x=some .free->scope.names.lookup x=some .free) (hk:∀b o,h.get? b=some o->h'.get? b=some o) (hl:h.objs.size<=E2.locals):Fm E2 (XO scope m) h':=by
 have clf:∀x a,E2.cells.lookup x=some a->ou.cells.lookup x=some a:=λx a e=>YO (hcl▸e)
 have ci:∀x,scope.names.lookup x=some .free->∃a,ou.cells.lookup x=some a/\E2.cells.lookup x=some a:=λx hx=>by
  obtain⟨a,ha⟩:=is_.mp (K.some F x (Yo hx))
  exact⟨a,ha,by rw[hcl];exact Qjw hx ha⟩
 have cells:∀a v,h.IsCell a v->h'.IsCell a v:=λa v ⟨o,ho,hd⟩=>⟨o,hk a o ho,hd⟩
 refine⟨kf,gl,bt,ml,λx v e=>?_,λx e=>?_,λx cc e=>?_,λx y cc e1 e2=>F.ap x y cc (clf x cc e1) (clf y cc e2),λx cc e=>?_⟩
 ·unfold XO at e
  split at e
  ·rename_i hx
   refine .inr ⟨kx x hx,?_⟩
   obtain⟨a,ha,ha'⟩:=ci x hx
   rcases F.kd x v e with q|⟨_,cc,h1,h2⟩
   ·rcases K.free x (Yo hx) with z|z<;>(cases q,z)
   ·cases ha,h1
    exact⟨a,ha',cells _ _ h2⟩
  ·cases e
 ·obtain⟨a,ha,ha'⟩:=ci x (ky x e)
  obtain⟨v,hv⟩:=F.cc x a ha
  exact⟨a,v,ha',cells _ _ hv⟩
 ·obtain⟨v,hv⟩:=F.cc x cc (clf x cc e)
  exact⟨v,cells _ _ hv⟩
 ·obtain⟨v,o,ho,_⟩:=F.cc x cc (clf x cc e)
  exact Nat.ne_of_lt (Nat.lt_of_lt_of_le (Heap.lt_size ho) hl)
theorem St.into {E2:Env}{wr:List Ad}{h':Heap}{t:Nat}{d:Ad}{gens:Array GenState}(K:ZN scope ou) (S:St c ou m oh (hide wr s.heap fr) s)
  (hw:∀b∈wr,oh b=none/\fr b=none/\b∉c.tabs/\¬ QQ ou b/\∃o,s.heap.get? b=some o) (hcl:E2.cells=Qz scope.names ou) (F:Fm E2 (XO scope m) h') (hg:AllBare gens)
  (hk:∀b o,s.heap.get? b=some o->h'.get? b=some o) (hl:s.heap.objs.size<=E2.locals) (hd:s.heap.objs.size<=d) (hne:E2.locals≠d) :
  St c E2 (XO scope m) oh (hide (d::wr) h' (Zw ou (Qz scope.names ou) s.heap fr)) { s with heap:=h',toks:=t,gens:=gens }:=by
 have S0:St c ou m oh fr s:=S.show λb hb=>(hw b hb).2.1
 have aI:∀a,QQ ou a->a < s.heap.objs.size:=λa ha=>let ⟨o,ho⟩:=S.fm.there ha;Heap.lt_size ho
 have ofLow:∀a,a < s.heap.objs.size->a∉wr->a∉d::wr:=λa ha hn hm=>(mc_.mp hm).elim (λz=>absurd ha (by rw[z];exact Nat.not_lt.mpr hd)) hn
 refine⟨⟨S.sg.base,λa o e=>hk a o (S.sg.has a o e),λa o e=>Qlq hk S0.sg.hfr e,λa o e=>?_,λT hT=>?_,S.sg.os,hg⟩,F,λa ha=>?_⟩
 ·exact QaA (ofLow a (S.sg.low e) λhm=>by cases ((hw a hm).1),e) (λz=>by cases ((S.dl a z.1).1),e) (S0.sg.dj a o e)
 ·obtain⟨⟨vs,e⟩,h1,h2⟩:=S0.sg.tab T hT
  exact⟨⟨vs,hk T _ e⟩,h1,QaA (ofLow T (S0.sg.aj hT) λz=>(hw T z).2.2.1 hT) (λz=>(S.dl T z.1).2.2 hT) h2⟩
 ·rcases ha with rfl|⟨x,e⟩
  ·refine⟨?_,QaA (λhm=>(mc_.mp hm).elim hne λz=>by obtain⟨_,_,_,_,o,ho⟩:=hw _ z;exact absurd (Heap.lt_size ho) (Nat.not_lt.mpr hl)) (λz=>absurd (aI _ z.1) (Nat.not_lt.mpr hl)) ?_,λhT=>absurd (S0.sg.aj hT) (Nat.not_lt.mpr hl)⟩
   ·cases q:oh E2.locals with
    |none=>rfl
    |some o=>exact absurd (S.sg.low q) (Nat.not_lt.mpr hl)
   ·cases q:fr E2.locals with
    |none=>rfl
    |some o=>exact absurd (Heap.lt_size (S0.sg.hfr _ o q)) (Nat.not_lt.mpr hl)
  ·rw[hcl] at e
   have hf:QQ ou a:=.inr ⟨x,YO e⟩
   exact⟨(S.dl a hf).1,QaA (ofLow a (aI a hf) λz=>(hw a z).2.2.2.1 hf) (λz=>z.2 x e) (S0.dl a hf).2.1,(S.dl a hf).2.2⟩
set_option tactic.hygienic true in
theorem St.toComp {wr:List Ad}{h':Heap}{t:Nat}{Do:Obj}(K:ZN scope ou) (S:St c ou m oh (hide wr s.heap fr) s)
  (hw:∀b∈wr,oh b=none/\fr b=none/\b∉c.tabs/\¬ QQ ou b/\∃o,s.heap.get? b=some o) (hDf:Do.isFreed=false)
  (hn:h'.Ns (s.heap.objs.size+1) (λx_=>none)) (hk:∀b o,s.heap.get? b=some o->h'.get? b=some o) (hD:h'.get? s.heap.objs.size=some Do) :
  St c (compEnvC scope (Qz scope.names ou) (s.heap.objs.size+1) ou) (XO scope m) oh (hide (s.heap.objs.size::wr) h' (Zw ou (Qz scope.names ou) s.heap fr)) { s with heap:=h',toks:=t }:=by
 refine St.into K S hw rfl (Fm.into K S.fm rfl K.kind S.fm.gl S.fm.bt ⟨_,hn,λx v e hl=>?_⟩ (λx=>QaT (ou:=ou)) (λx e=>?_) hk (Nat.le_succ _)) S.sg.gens hk (Nat.le_succ _) (Nat.le_refl _) (Nat.succ_ne_self _)
 ·unfold XO at e
  split at e
  ·rename_i hx
   rcases QaT (ou:=ou) hx with q|q<;>(exfalso;have hl':(scope.names.map λ (n,k)=>if (k==NameKind.free&&ou.scope.kind==.function&&ou.kindOf n==some .cell) then (n,NameKind.cell) else (n,k)).lookup x=some .local:=hl;rw[q] at hl';cases hl')
  ·cases e
 ·rcases e with e|e
  ·exact Qe1 K.cell e
  ·exact Qnd e
end
section
variable {scope:Scope}
theorem Qme:∀ {names:List (Str × NameKind)}{x:Str},names.lookup x=some .free ->
  (names.map λ (n,k)=>if (k==NameKind.free&&ou.scope.kind==.function&&ou.kindOf n==some .cell) then (n,NameKind.cell) else (n,k)).lookup x≠some .local:=by
 intro names x h e
 rcases QaT (ou:=ou) h with q|q<;>(cases q,e)
set_option tactic.hygienic true in
theorem Qjx {names:List (Str × NameKind)}(e:(Qz names ou).lookup x=some a):(x,NameKind.free)∈names:=by
 have hm:(x,a)∈Qz names ou:=mem_of_lookup e
 unfold Qz at hm
 rw[List.mem_reverse,List.mem_filterMap] at hm
 obtain⟨q,hq,e2⟩:=hm
 split at e2
 ·rename_i hk
  obtain⟨b,hb,e3⟩:=mq_.mp e2
  cases e3
  have hk':q.2 = .free:=by simpa using hk
  rw[<- hk'];exact hq
 ·cases e2
set_option tactic.hygienic true in
theorem QdW {wr:List Ad}{cl:List (Str × Ad)}{h h':Heap}(hm:a∉wr) (F:Fm ou m h) (e:hide wr h' (Zw ou cl h fr) a=none):¬ (QQ ou a/\∀x,cl.lookup x≠some a)/\fr a=none:=by
 unfold Tactic.hide at e
 rw[if_neg hm] at e
 unfold Zw at e
 split at e
 ·rename_i hf
  obtain⟨ox,hx⟩:=F.there hf.1
  cases hx,e
 ·rename_i hf;exact⟨hf,e⟩
theorem Fm.back {E2:Env}{mc:Loc}{h h2 h':Heap}(K:ZN scope ou) (F:Fm ou m h) (F2:Fm E2 mc h2) (hcl:E2.cells=Qz scope.names ou) (hC:Cap scope m mc) (kb:∀x,scope.names.lookup x=some .free->E2.kindOf x≠some .local)
  (pl:∀a o,QQ ou a->(∀x,(Qz scope.names ou).lookup x≠some a)->h.get? a=some o->h'.get? a=some o) (ce:∀a v,QQ ou a->h2.IsCell a v->h'.IsCell a v):Fm ou m h':=by
 have capd:∀x a,ou.cells.lookup x=some a->(∃y,(Qz scope.names ou).lookup y=some a)->(Qz scope.names ou).lookup x=some a:=λx a e ⟨y,hy⟩=>by
  have:=F.ap x y a e (YO hy);subst this;exact hy
 have cell:∀x cc v,ou.cells.lookup x=some cc->h.IsCell cc v->∃v',h'.IsCell cc v':=λx cc v e ⟨o,ho,hd⟩=>by
  by_cases ac:∃y,(Qz scope.names ou).lookup y=some cc
  ·obtain⟨v',hv'⟩:=F2.cc x cc (hcl▸capd x cc e ac)
   exact⟨v',ce _ _ (.inr ⟨x,e⟩) hv'⟩
  ·exact⟨v,o,pl cc o (.inr ⟨x,e⟩) (λy z=>ac ⟨y,z⟩) ho,hd⟩
 refine⟨F.kf,F.gl,F.bt,?_,λx v e=>?_,λx e=>?_,λx cc e=>?_,F.ap,F.lc⟩
 ·obtain⟨ml,hn,hm⟩:=F.ml
  exact⟨ml,qg hn λo e=>pl _ o (.inl rfl) (λx z=>F.lc x _ (YO z) rfl) e,hm⟩
 ·rcases F.kd x v e with q|⟨q,cc,h1,h2⟩
  ·exact .inl q
  ·refine .inr ⟨q,cc,h1,?_⟩
   by_cases ac:∃y,(Qz scope.names ou).lookup y=some cc
   ·have hx:=capd x cc h1 ac
    have ch:=K.uniq x (Qjx hx)
    rcases F2.kd x v (hC x v ch e) with z|⟨_,cc',h1',h2'⟩
    ·exact absurd z (kb x ch)
    ·rw[hcl] at h1';cases hx,h1'
     exact ce _ _ (.inr ⟨x,h1⟩) h2'
   ·obtain⟨o,ho,hd⟩:=h2
    exact⟨o,pl cc o (.inr ⟨x,h1⟩) (λy z=>ac ⟨y,z⟩) ho,hd⟩
 ·obtain⟨cc,v,h1,h2⟩:=F.cl x e
  obtain⟨v',hv⟩:=cell x cc v h1 h2
  exact⟨cc,v',h1,hv⟩
 ·obtain⟨v,h2⟩:=F.cc x cc e
  exact cell x cc v e h2
theorem St.cb {wr:List Ad}{h' hX:Heap}{s':Sh}{t:Nat}{Do:Obj}{mc:Loc}{o':Own}(K:ZN scope ou) (S:St c ou m oh (hide wr s.heap fr) s)
  (hw:∀b∈wr,oh b=none/\fr b=none/\b∉c.tabs/\¬ QQ ou b/\∃o,s.heap.get? b=some o)
  (S':St c (compEnvC scope (Qz scope.names ou) (s.heap.objs.size+1) ou) mc o' (hide (s.heap.objs.size::wr) hX (Zw ou (Qz scope.names ou) s.heap fr)) s')
  (hid:∀a o,o' a=some o->a∉s.heap.objs.size::wr) (hC:Cap scope m mc)
  (hD:s'.heap.get? s.heap.objs.size=some Do) (hs:Heap.SameBut (s.heap.objs.size+1) s'.heap h') :
  St c ou m (o'.put s.heap.objs.size Do) fr { s' with heap:=h',toks:=t }/\o' s.heap.objs.size=none:=by
 have S0:St c ou m oh fr s:=S.show λb hb=>(hw b hb).2.1
 have aI:∀a,QQ ou a->a < s.heap.objs.size:=λa ha=>let ⟨o,ho⟩:=S.fm.there ha;Heap.lt_size ho
 have hDn:o' s.heap.objs.size=none:=by
  cases e:o' s.heap.objs.size with
  |none=>rfl
  |some o=>exact absurd (.head _) (hid _ o e)
 have hCn:o' (s.heap.objs.size+1)=none:=(S'.dl _ (.inl rfl)).1
 have frOf:∀a o,o' a=some o->¬ (QQ ou a/\∀x,(Qz scope.names ou).lookup x≠some a)/\fr a=none:=λa o e=>QdW (hid a o e) S.fm (S'.sg.dj a o e)
 have kept:∀a o,a∉s.heap.objs.size::wr->Zw ou (Qz scope.names ou) s.heap fr a=some o->s'.heap.get? a=some o:=λa o hm e=>S'.sg.hfr a o (by unfold Tactic.hide;rw[if_neg hm];exact e)
 have cg:∀a,QQ ou a->a∉s.heap.objs.size::wr:=λa ha hm=>(mc_.mp hm).elim (λz=>absurd (aI a ha) (by rw[z];exact Nat.lt_irrefl _)) (λz=>(hw a z).2.2.2.1 ha)
 refine⟨⟨⟨λa o e ht=>QE hDn (S'.sg.base a o e ht),λa o e=>?_,λa o e=>?_,λa o e=>?_,λT hT=>?_,S'.sg.os,S'.sg.gens⟩,Fm.back K S.fm S'.fm rfl hC (λx=>Qme) (λa o ha hn e=>?_) (λa v ha ⟨o,ho,hd⟩=>⟨o,(hs.2 a (Nat.ne_of_lt (Nat.lt_succ_of_lt (aI a ha)))).trans ho,hd⟩),λa ha=>⟨?_,(S0.dl a ha).2⟩⟩,hDn⟩
 ·by_cases h:a=s.heap.objs.size
  ·subst h;cases (Qa ..),e
   exact(hs.2 _ (Nat.ne_of_lt (Nat.lt_succ_self _))).trans hD
  ·rw[Qi h] at e
   exact(hs.2 a (by rintro rfl;cases hCn,e)).trans (S'.sg.has a o e)
 ·have hl:a < s.heap.objs.size:=Heap.lt_size (S0.sg.hfr a o e)
  rw[hs.2 a (Nat.ne_of_lt (Nat.lt_succ_of_lt hl))]
  refine kept a o (λhm=>(mc_.mp hm).elim (λz=>absurd hl (by rw[z];exact Nat.lt_irrefl _)) (λz=>by cases ((hw a z).2.1),e)) ?_
  unfold Zw
  rw[if_neg (λz=>by cases ((S0.dl a z.1).2.1),e)];exact e
 ·by_cases h:a=s.heap.objs.size
  ·subst h;exact S0.sg.aH
  ·rw[Qi h] at e;exact(frOf a o e).2
 ·obtain⟨⟨vs,e⟩,h1,h2⟩:=S'.sg.tab T hT
  have hl:=S0.sg.aj hT
  exact⟨⟨vs,(hs.2 T (Nat.ne_of_lt (Nat.lt_succ_of_lt hl))).trans e⟩,by rw[Qi (Nat.ne_of_lt hl)];exact h1,(S0.sg.tab T hT).2.2⟩
 ·rw[hs.2 a (Nat.ne_of_lt (Nat.lt_succ_of_lt (aI a ha)))]
  exact kept a o (cg a ha) (by unfold Zw;rw[if_pos ⟨ha,hn⟩];exact e)
 ·rw[Qi (Nat.ne_of_lt (aI a ha))]
  cases q:o' a with
  |none=>rfl
  |some o =>
   have h1:=(frOf a o q).1
   by_cases ac:∃y,(Qz scope.names ou).lookup y=some a
   ·obtain⟨y,hy⟩:=ac
    cases ((S'.dl a (.inr ⟨y,hy⟩)).1),q
   ·exact absurd ⟨ha,λy z=>ac ⟨y,z⟩⟩ h1
end
section
variable {scope:Scope}{α:Type}
noncomputable def YB (ifs:List Expr) (ou:Env):Sem Bool:=forIn ifs true λc r=>if r=true then do let ok <- isTrue c ou (eval c ou);pure (ForInStep.yield ok) else pure (ForInStep.yield r)
theorem Yy {k:KB_}(h:k true m oh):W c N ou m oh (YB [] ou) k:=Qs h
theorem Qbt {x:Expr}{k:KB_}(h:W c N ou m oh (isTrue x ou (eval x ou)) k):W c N ou m oh (YB [x] ou) k:=by
 have e:YB [x] ou=(isTrue x ou (eval x ou) >>= λb=>pure b):=by
  unfold YB
  simp only[List.forIn_cons,List.forIn_nil,if_true,bind_assoc,pure_bind]
 rw[e]
 exact Qc (Qk h λb m o h=>Qs h)
structure Qad (c:Cx) (e target iter:Expr) (ifs:List Expr) (aV:Sem Vl) (aB:α->Obj->Prop) (a0:α) (BW:Nat->Env->Loc->Own->α->(α->Loc->Own->Prop)->Prop) (D0:Obj) (bg:Ad->Env->Sem Unit):Prop where
 cl:clausesOf e=[⟨target,iter,ifs,0⟩]
 start:∀ {A R s it acc ou},codeAny (model c.prog c.w) A (.compLoop e 0 it acc ou) R s ->
  wA (model c.prog c.w) A (pyIter it) (λit' s'=>codeAny (model c.prog c.w) A (.compLoop e 0 it' acc ou) R s') (notedBy (model c.prog c.w) A ou λx s'=>R (.error x) s') s ->
  codeAny (model c.prog c.w) A (.compStart e 0 it acc ou) R s
 loop:∀ {A:Ar}{R:Result->Sh->Prop}{s:Sh}{it:Vl}{D:Ad}{ou:Env}(I:Nat->Sh->Prop),
  (∀n s,I n s->wA (model c.prog c.w) A (pyNext it) (λr s₁=>match r with
   |none=>R (.ok .next) s₁
   |some v=>wA (model c.prog c.w) A (letOwnedTupleGo target it v) (λx_ s₁=>wA (model c.prog c.w) A (assign target ou v) (λx_ s₂=>wA (model c.prog c.w) A (YB ifs ou) (λok s₃ =>
      if ok=true then wA (model c.prog c.w) A (bg D ou) (λx_ s₅=>∃m,m < n/\I m s₅) F0 s₃ else ∃m,m < n/\I m s₃) F0 s₂) F0 s₁) F0 s₁) F0 s) ->
  ∀n,I n s->codeAny (model c.prog c.w) A (.compLoop e 0 it (.ref D) ou) R s
 acc0:aB a0 D0
 bF:D0.isFreed=false
 new:∀ {A s Q},Q (.ref s.heap.objs.size) { s with heap:=s.heap.push D0 }->wA (model c.prog c.w) A aV Q F0 s
 body:∀ {N oq mc o ys kk},BW N oq mc o ys kk->∀A (s:Sh) fr (Q:Unit->Sh->Prop) D Do,Qu N A->St c oq mc o fr s->0 < s.toks->fr D=some Do->aB ys Do ->
  (∀ys' mc' o' s' h' Do' t,kk ys' mc' o'->St c oq mc' o' fr s'->Heap.SameBut D s'.heap h'->h'.get? D=some Do'->aB ys' Do'->Q () { s' with heap:=h',toks:=t })->wA (model c.prog c.w) A (bg D oq) Q F0 s
def CompTurns (c:Cx) (N:Nat) (ou:Env) (scope:Scope) (target:Expr) (ifs:List Expr) (BW:Nat->Env->Loc->Own->α->(α->Loc->Own->Prop)->Prop) (a0:α) (x:Vl) (m:Loc) (o:Own) (fin:α->Own->Prop):Prop :=
 ∃ (n:Nat) (P:Nat->Vl->Prop) (dep:List (Ad × Obj)) (J:Nat->α->Own->Prop),Itr c N o x n P dep/\J 0 a0 o/\(∀i ys o,J i ys o->∀q∈dep,o q.1=some q.2) /\
  (∀i v ys o oq mc,i < n->P i v->J i ys o->Cap scope m mc->oq.scope=relabel scope ou->(∀x,scope.names.lookup x=some .local->oq.kindOf x=some .local) ->
   W c N oq mc o (assign target oq v) λx_ mc o=>W c N oq mc o (YB ifs oq) λok mc o =>
    (ok=true->BW N oq mc o ys λys' mc o=>Cap scope m mc/\J (i+1) ys' o)/\(ok=false->Cap scope m mc/\J (i+1) ys o)) /\
  (∀ys o,J n ys o->fin ys o)
theorem ctI {scope:Scope}{target:Expr}{ifs:List Expr}{BW:Nat->Env->Loc->Own->α->(α->Loc->Own->Prop)->Prop}{a0:α}{x:Vl}{o:Own}{fin:α->Own->Prop}(n:Nat) (P:Nat->Vl->Prop) (dep:List (Ad × Obj)) (J:Nat->α->Own->Prop) (h1:Itr c N o x n P dep) (h2:J 0 a0 o) (h3:∀i ys o,J i ys o->∀q∈dep,o q.1=some q.2)
  (h4:∀i v ys o oq mc,i < n->P i v->J i ys o->Cap scope m mc->oq.scope=relabel scope ou->(∀x,scope.names.lookup x=some .local->oq.kindOf x=some .local) ->
   W c N oq mc o (assign target oq v) λx_ mc o=>W c N oq mc o (YB ifs oq) λok mc o =>
    (ok=true->BW N oq mc o ys λys' mc o=>Cap scope m mc/\J (i+1) ys' o)/\(ok=false->Cap scope m mc/\J (i+1) ys o)) (h5:∀ys o,J n ys o->fin ys o):CompTurns c N ou scope target ifs BW a0 x m o fin:=(⟨n,P,dep,J,h1,h2,h3,h4,h5⟩)
theorem CompTurns.mono {scope:Scope}{target:Expr}{ifs:List Expr}{BW:Nat->Env->Loc->Own->α->(α->Loc->Own->Prop)->Prop}{a0:α}{x:Vl}{o:Own}{fin fin':α->Own->Prop}(h:CompTurns c N ou scope target ifs BW a0 x m o fin) (hk:∀ys o,fin ys o->fin' ys o):CompTurns c N ou scope target ifs BW a0 x m o fin':=by
 obtain⟨n,P,dep,J,h1,h2,h3,h4,h5⟩:=(h)
 exact ctI n P dep J h1 h2 h3 h4 λys o hJ=>hk _ _ (h5 ys o hJ)
theorem St.hid {wr:List Ad}(S:St c ou m oh fr s) (hw:∀b∈wr,oh b=none/\fr b=none/\b∉c.tabs/\¬ QQ ou b):St c ou m oh (hide wr s.heap fr) s:=by
 refine⟨S.sg.hide λb hb=>⟨(hw b hb).1,(hw b hb).2.1,(hw b hb).2.2.1⟩,S.fm,λa ha=>⟨(S.dl a ha).1,?_,(S.dl a ha).2.2⟩⟩
 unfold Tactic.hide
 rw[if_neg λhm=>(hw a hm).2.2.2 ha];exact(S.dl a ha).2.1
theorem Src.hidden {A:Ar}{I:Ad}{n:Nat}{P:Nat->Vl->Prop}{dep:List (Ad × Obj)}{wr:List Ad}{s₂:Sh}(S₁:St c ou m oh fr s)
  (hwr:∀b∈wr,oh b=none/\ZX ou s.heap fr b=none/\b∉c.tabs/\∃o,s₂.heap.get? b=some o):∀b∈wr,oh b=none/\fr b=none/\b∉c.tabs/\¬ QQ ou b/\∃o,s₂.heap.get? b=some o:=λb hb=>by
 obtain⟨w1,w2,w3,w4⟩:=hwr b hb
 unfold ZX at w2
 by_cases hf:QQ ou b
 ·rw[if_pos hf] at w2
  obtain⟨o,ho⟩:=S₁.fm.there hf
  cases ho,w2
 ·rw[if_neg hf] at w2;exact⟨w1,w2,w3,hf,w4⟩
structure CI (c:Cx) (J:Nat->α->Own->Prop) (scope:Scope) (m₁:Loc) (oq:Env) (frc:Own) (D:Ad) (wr:List Ad) (StW:Nat->Heap->Prop) (aB:α->Obj->Prop) (i:Nat) (ys:α) (mc:Loc) (o:Own) (Do:Obj) (s:Sh):Prop where
 j:J i ys o
 cap:Cap scope m₁ mc
 st:St c oq mc o (hide (D::wr) s.heap frc) s
 tk:0 < s.toks
 w:StW i s.heap
 ex:∀b∈D::wr,∃o,s.heap.get? b=some o
 d:s.heap.get? D=some Do
 acc:aB ys Do
def CIs (c:Cx) (J:Nat->α->Own->Prop) (scope:Scope) (m₁:Loc) (oq:Env) (frc:Own) (D:Ad) (wr:List Ad) (StW:Nat->Heap->Prop) (aB:α->Obj->Prop) (n q:Nat) (s:Sh):Prop :=
 ∃i,q=n - i/\i<=n/\∃ys mc o Do,CI c J scope m₁ oq frc D wr StW aB i ys mc o Do s
theorem QjB {e target iter:Expr}{ifs:List Expr}{aV:Sem Vl}{aB:α->Obj->Prop}{a0:α}{BW:Nat->Env->Loc->Own->α->(α->Loc->Own->Prop)->Prop}{D0:Obj}{bg:Ad->Env->Sem Unit}{m₁:Loc}{oq:Env}{frc:Own}{I D:Ad}{fp wr:List Ad}{P:Nat->Vl->Prop}{dep:List (Ad × Obj)}{J:Nat->α->Own->Prop}{StW:Nat->Heap->Prop}{R:Result->Sh->Prop}
  (CK:Qad c e target iter ifs aV aB a0 BW D0 bg) (hA:Qu N A) (Wk:Walks c.prog c.w A I fp wr n P StW) (hfp:∀b∈fp,b∈wr\/∃o,(b,o)∈dep)
  (hcl:∀i h,StW i h->∃o cl,h.get? I=some o/\o.cls = .type cl/\QaQ.contains cl=false) (aL:∀i h,StW i h->∀b∈wr,∃o,h.get? b=some o) (notD:D∉wr)
  (comW:∀b∈D::wr,frc b=none/\b∉c.tabs/\¬ QQ oq b) (aD:∀i ys o,J i ys o->∀q∈dep,o q.1=some q.2)
  (aW:∀i v ys o mc,i < n->P i v->J i ys o->Cap scope m₁ mc->W c N oq mc o (assign target oq v) λx_ mc o=>W c N oq mc o (YB ifs oq) λok mc o =>
    (ok=true->BW N oq mc o ys λys' mc o=>Cap scope m₁ mc/\J (i+1) ys' o)/\(ok=false->Cap scope m₁ mc/\J (i+1) ys o))
  (fin:∀ys mc o Do hX s,J n ys o->Cap scope m₁ mc->St c oq mc o (hide (D::wr) hX frc) s->0 < s.toks->s.heap.get? D=some Do->aB ys Do->(∀a ob,o a=some ob->a∉D::wr)->R (.ok .next) s)
  {s:Sh}(h:CIs c J scope m₁ oq frc D wr StW aB n n s):codeAny (model c.prog c.w) A (.compLoop e 0 (.ref I) (.ref D) oq) R s:=by
 refine CK.loop (CIs c J scope m₁ oq frc D wr StW aB n) (λq s' hq=>?_) n h
 obtain⟨i,rfl,hi,ys,mc,o',Do,C⟩:=(hq)
 by_cases hlt:i < n
 ·refine wpAny_with_toks (n:=1) C.tk (Wk.item i s' _ _ hlt C.w λv h₂ tk hP bA hk Ptk=>?_)
  have hD₂:h₂.get? D=some Do:=hk _ _ notD C.d
  have b9:∀b∈D::wr,∃o,h₂.get? b=some o:=λb hb=>(mc_.mp hb).elim (λe=>⟨_,e▸hD₂⟩) (aL _ _ bA b)
  have S₁:=C.st.moved (t:=tk) comW C.ex λb o hb e=>hk b o (λhm=>hb (.tail _ hm)) e
  obtain⟨oI,cl,hoI,hcI,hnI⟩:=hcl _ _ bA
  refine Qfw hoI hcI hnI ?_
  have nxt:∀ys' mc' o'' s₅ h₅ Do' t,J (i+1) ys' o''->Cap scope m₁ mc'->St c oq mc' o'' (hide (D::wr) h₂ frc) s₅->Heap.SameBut D s₅.heap h₅->h₅.get? D=some Do'->aB ys' Do'->0 < t ->
    ∃mm,mm < n - i/\CIs c J scope m₁ oq frc D wr StW aB n mm { s₅ with heap:=h₅,toks:=t }:=λys' mc' o'' s₅ h₅ Do' t hJ' hcap' S₅ hsb hD' hacc' Pt=>by
   have same:∀b∈D::wr,s₅.heap.get? b=h₂.get? b:=λb hb=>by
    obtain⟨o,ho⟩:=b9 b hb
    rw[ho];exact S₅.sg.hfr b o (by rw[XD hb];exact ho)
   have S₆:=S₅.moved (t:=t) (h':=h₅) comW b9 λb o hb e=>(hsb.2 b (λz=>hb (z▸.head _))).trans e
   refine⟨n - (i+1),Nat.sub_lt_sub_left hlt (Nat.lt_succ_self i),i+1,rfl,hlt,ys',mc',o'',Do',hJ',hcap',S₆,Pt,Wk.frame _ _ _ bA λb hb o e=>?_,λb hb=>?_,hD',hacc'⟩
   ·rcases hfp b hb with hw' | hd
    ·rw[hsb.2 b (λz=>notD (z▸hw')),same b (.tail _ hw')];exact e
    ·obtain⟨ob,hd⟩:=hd
     have e3:=S₁.sg.has _ _ (aD _ _ _ C.j _ hd)
     exact S₆.sg.has _ _ ((aD _ _ _ hJ' _ hd).trans (e3.symm.trans e))
   ·by_cases hbD:b=D
    ·exact⟨_,hbD▸hD'⟩
    ·obtain⟨o,ho⟩:=b9 b hb;exact⟨o,((hsb.2 b hbD).trans (same b hb)).trans ho⟩
  refine(aW i v ys o' mc hlt hP C.j C.cap).run hA S₁ Ptk λx_ mc₂ o₂ s₃ hb S₃ P₃=>?_
  refine hb.run hA S₃ P₃ λok mc₃ o₃ s₄ hok S₄ P₄=>?_
  rcases ok with _|_
  ·rw[if_neg (by decide)]
   exact nxt ys mc₃ o₃ s₄ s₄.heap Do s₄.toks (hok.2 rfl).2 (hok.2 rfl).1 S₄ ⟨rfl,λx_ x_=>rfl⟩ (S₄.sg.hfr _ _ (by rw[XD (.head _)];exact hD₂)) C.acc P₄
  ·rw[if_pos rfl]
   exact QaS P₄ (CK.body (hok.1 rfl) A s₄ _ _ _ Do hA S₄ P₄ (by rw[XD (.head _)];exact hD₂) C.acc λys' mc' o'' s₅ h₅ Do' t hkk S₅ hsb hD' hacc' Pt=>nxt ys' mc' o'' s₅ h₅ Do' t hkk.2 hkk.1 S₅ hsb hD' hacc' Pt)
 ·have e:i=n:=Nat.le_antisymm hi (Nat.not_lt.mp hlt)
  refine wpAny_with_toks (n:=1) C.tk (Wk.done s' _ _ (e▸C.w) λh₂ tk hk Ptk=>?_)
  refine fin ys mc o' Do _ _ (e▸C.j) C.cap (C.st.moved (t:=tk) comW C.ex λb o hb e=>hk b o (λhm=>hb (.tail _ hm)) e) Ptk (hk _ _ notD C.d) C.acc λa o ea hm=>?_
  have:=C.st.sg.dj a o ea
  rw[XD hm] at this
  obtain⟨ox,hx⟩:=C.ex a hm
  exact QeH (hx.symm.trans this)
theorem Qbm {e target iter:Expr}{ifs:List Expr}{aV first:Sem Vl}{aB:α->Obj->Prop}{a0:α}{BW:Nat->Env->Loc->Own->α->(α->Loc->Own->Prop)->Prop}{D0:Obj}{bg:Ad->Env->Sem Unit}{pos:Pos}{use:Option (Vl->Sem Unit)}
  (CK:Qad c e target iter ifs aV aB a0 BW D0 bg) (K:ZN scope ou)
  (h:W c N ou m oh first λx m o=>CompTurns c N ou scope target ifs BW a0 x m o λys o=>∀D Do,New c o D->aB ys Do->match use with
   |none=>k (.ref D) m (o.put D Do)
   |some u=>W c N ou m (o.put D Do) (u (.ref D)) λx_ m o=>k .none m o)
  (hs:∀x,foldedSetIterable iter ou x=pure x):W c N ou m oh (comprehension e scope ou pos aV false first use) k:=by
 intro A s fr Q hA S P hQ
 refine wpAny_comprehension_free (use:=use) CK.cl hs (QdD λn hn=>K.some S.fm n hn) K.kind K.names ?_
 refine h.run hA S P λx m₁ o₁ s₁ hx S₁ P₁=>?_
 obtain⟨n,P,dep,J,hit,hJ0,aD,aW,hend⟩:=(hx)
 refine QaS P₁ (hit A s₁ (ZX ou s₁.heap fr) _ hA S₁.apart P₁ λI s₂ hsrc S₂ P₂=>?_)
 obtain⟨fp,wr,StW,WkA,hst,hwr,hfp,hcl,aL⟩:=(hsrc)
 have Wk:=WkA A hA.2.2
 have T₂:=S₁.back S₂
 have hw:=Src.hidden (A:=A) (I:=I) (n:=n) (P:=P) (dep:=dep) S₁ hwr
 have start:St c ou m₁ o₁ (hide wr s₂.heap fr) s₂:=T₂.hid λb hb=>⟨(hw b hb).1,(hw b hb).2.1,(hw b hb).2.2.1,(hw b hb).2.2.2.1⟩
 refine CK.new ?_
 refine wpAny_newFunctionEnv K.cell (by intro y hy;simp at hy) (λh₁ b8 bP=>?_) K.kind
 dsimp only at b8 bP ⊢
 have hC:(s₂.heap.push D0).objs.size=s₂.heap.objs.size+1:=Heap.size_push ..
 rw[hC] at b8 bP ⊢
 have bN:∀b o,s₂.heap.get? b=some o->b < s₂.heap.objs.size:=λb o e=>Heap.lt_size e
 have old:∀b o,s₂.heap.get? b=some o->h₁.get? b=some o:=λb o e =>
  bP.extBut b o (Nat.ne_of_lt (Nat.lt_succ_of_lt (bN b o e))) (gp_ _ (gp_ _ e))
 have hD₁:h₁.get? s₂.heap.objs.size=some D0:=bP.extBut _ _ (Nat.ne_of_lt (Nat.lt_succ_self _)) (gp_ _ (gz_ _ CK.bF))
 have S₃:=St.toComp (t:=s₂.toks+([]:LV).length) K start hw CK.bF b8 old hD₁
 have T0:St c ou m₁ o₁ fr s₂:=start.show λb hb=>(hw b hb).2.1
 have aI:∀a,QQ ou a->a < s₂.heap.objs.size:=λa ha=>by obtain⟨o,ho⟩:=T0.fm.there ha;exact Heap.lt_size ho
 have notD:s₂.heap.objs.size∉wr:=λhm=>by obtain⟨_,_,_,_,o,ho⟩:=hw _ hm;exact Nat.lt_irrefl _ (bN _ o ho)
 have hcs:(compEnvC scope (Qz scope.names ou) (s₂.heap.objs.size+1) ou).scope=relabel scope ou:=rfl
 have hcf:∀b,QQ (compEnvC scope (Qz scope.names ou) (s₂.heap.objs.size+1) ou) b->b=s₂.heap.objs.size+1\/QQ ou b:=λb hf=>hf.imp id λq=>by
  obtain⟨x,q⟩:=q;exact .inr ⟨x,YO q⟩
 have hloc:(compEnvC scope (Qz scope.names ou) (s₂.heap.objs.size+1) ou).locals=s₂.heap.objs.size+1:=rfl
 have hcl':QQ (compEnvC scope (Qz scope.names ou) (s₂.heap.objs.size+1) ou) (s₂.heap.objs.size+1):=.inl rfl
 have hfc:∀b,¬ QQ ou b->Zw ou (Qz scope.names ou) s₂.heap fr b=fr b:=λb hb=>if_neg λz=>hb z.1
 have hlk:∀x,scope.names.lookup x=some .local->(compEnvC scope (Qz scope.names ou) (s₂.heap.objs.size+1) ou).kindOf x=some .local:=λx hx=>lookup_relabel_local hx
 have back:=λ {hX h' s' t Do mc o'}=>St.cb (hX:=hX) (h':=h') (s':=s') (t:=t) (Do:=Do) (mc:=mc) (o':=o') (m:=m₁) K start hw
 suffices key:codeAny (model c.prog c.w) A (.compLoop e 0 (.ref I) (.ref s₂.heap.objs.size) (compEnvC scope (Qz scope.names ou) (s₂.heap.objs.size+1) ou)) (compPost (model c.prog c.w) A F0 use Q (.ref s₂.heap.objs.size) (s₂.heap.objs.size+1)) { s₂ with heap:=h₁,toks:=s₂.toks+([]:LV).length } from
  CK.start key (Wk.self 0 _ _ _ (Wk.frame _ _ _ hst λb x_ o e=>old b o e) key)
 generalize compEnvC scope (Qz scope.names ou) (s₂.heap.objs.size+1) ou=oq at S₃ hcs hcf hcl' hlk hloc back ⊢
 generalize Zw ou (Qz scope.names ou) s₂.heap fr=frc at S₃ hfc back ⊢
 have comW:∀b∈s₂.heap.objs.size::wr,frc b=none/\b∉c.tabs/\¬ QQ oq b:=λb hb=>by
  have z:fr b=none/\b∉c.tabs/\¬ QQ ou b/\b≠s₂.heap.objs.size+1:=by
   rcases mc_.mp hb with rfl|hb
   ·exact⟨T0.sg.aH,λhT=>Nat.lt_irrefl _ (T0.sg.aj hT),λhf=>Nat.lt_irrefl _ (aI _ hf),(Nat.succ_ne_self _).symm⟩
   ·obtain⟨w1,w2,w3,w4,o,ho⟩:=hw b hb
    exact⟨w2,w3,w4,Nat.ne_of_lt (Nat.lt_succ_of_lt (bN b o ho))⟩
  exact⟨(hfc b z.2.2.1).trans z.1,z.2.1,λhf=>(hcf b hf).elim z.2.2.2 z.2.2.1⟩
 refine QjB CK hA Wk hfp hcl aL notD comW aD (λi v ys o mc hlt hP hJ ac=>aW i v ys o oq mc hlt hP hJ ac hcs hlk) (λys mc o' Do hX s' hJ ac S' Ptk hDo aN hid=>?_)
  ⟨0,rfl,Nat.zero_le _,a0,_,o₁,D0,hJ0,QcD,S₃,P₂,Wk.frame _ _ _ hst λb x_ o e=>old b o e,λb hb=>?_,hD₁,CK.acc0⟩
 ·obtain⟨mC,hmC,_⟩:=S'.fm.ml
  rw[hloc] at hmC
  rcases use with _|u
  ·refine⟨mC,hmC,λh₃ hs₃=>?_⟩
   obtain⟨S₄,hDn⟩:=back (t:=s'.toks) S' hid ac hDo hs₃
   exact hQ _ _ _ _ (hend ys o' hJ _ Do ⟨hDn,T0.sg.aA⟩ aN) S₄
  ·obtain⟨S₄,hDn⟩:=back (t:=s'.toks) (h':=s'.heap) S' hid ac hDo ⟨rfl,λx_ x_=>rfl⟩
   have ownC:(o'.put s₂.heap.objs.size Do) (s₂.heap.objs.size+1)=none:=(Qi (Nat.succ_ne_self _)).trans (S'.dl _ hcl').1
   have hwC:∀b∈[s₂.heap.objs.size+1],fr b=none/\b∉c.tabs/\¬ QQ ou b:=λb hb=>by
    rw[ms_.mp hb]
    refine⟨?_,λhT=>Nat.not_lt.mpr (Nat.le_succ _) (T0.sg.aj hT),λhf=>Nat.not_lt.mpr (Nat.le_succ _) (aI _ hf)⟩
    rcases e:fr (s₂.heap.objs.size+1) with _|o
    ·rfl
    ·exact absurd (bN _ o (T0.sg.hfr _ o e)) (Nat.not_lt.mpr (Nat.le_succ _))
   have S₅:=S₄.hid (wr:=[s₂.heap.objs.size+1]) λb hb=>⟨by refine memS hb ?_;exact ownC,hwC b hb⟩
   refine wpAny_mono (hend ys o' hJ _ Do ⟨hDn,T0.sg.aA⟩ aN A _ _ (λx_ s''=>∃mm,s''.heap.Ns (s₂.heap.objs.size+1) mm/\∀h',Heap.SameBut (s₂.heap.objs.size+1) s''.heap h'->Q .none { s'' with heap:=h' }) hA S₅ Ptk λx_ m₃ o₃ s₆ hk₆ S₆=>?_) (λx_ x_ z=>z) λx_ x_ z=>z
   refine⟨mC,qg hmC λo e=>S₆.sg.hfr _ o (by rw[XD (.head _)];exact e),λh₃ hs₃=>hQ _ _ _ _ hk₆ ?_⟩
   obtain⟨oC,_,_,hoC,_⟩:=hmC
   exact(S₆.moved (t:=s₆.toks) hwC (λb hb=>by refine memS hb ?_;exact⟨_,hoC⟩) (λb o hb e=>(hs₃.2 b (λz=>hb (by rw[z];exact .head _))).trans e)).show λb hb=>(hwC b hb).1
 ·rcases mc_.mp hb with rfl|hb
  ·exact⟨_,hD₁⟩
  ·obtain⟨_,_,_,_,o,ho⟩:=hw b hb;exact⟨o,old b o ho⟩
end
section
variable {scope:Scope}{α:Type}
theorem Z8 {M:Model}{t:Sem α}{Q Q':α->Sh->Prop}{E:KQ_}(h:wA M A t Q' F0 s) (hQ:∀a s,Q' a s->Q a s):wA M A t Q E s:=wpAny_mono h hQ λx_ x_ f=>f.elim
abbrev Qah (c:Cx) (elt:Expr) (N:Nat) (oq:Env) (mc:Loc) (o:Own) (ys:List Vl) (kk:KL_):Prop :=
 ys.length<=sizeLine/\W c N oq mc o (eval elt oq) λy mc o=>kk (ys++[y]) mc o
abbrev IsL (ys:List Vl) (o:Obj):Prop:=∃ep,o=lst ys ep
theorem Qen (c:Cx) (elt target iter:Expr) (ifs:List Expr) (scope:Scope) (pos:Pos):Qad c (.ListComp elt [⟨target,iter,ifs,0⟩] scope pos) target iter ifs (newList []) IsL [] (Qah c elt) (lst [] 0) (λD ou=>do
  let x <- eval elt ou
  let _ <- call (.builtin "list.append") [.ref D,x]
  pure ()) where
 cl:=rfl
 start:=λh0 h=>codeAny_compStart_list h0 h
 loop:=λ {A R s it D ou} I turn n h=>by
  refine codeAny_loop rfl I (λn s hI=>?_) n h
  show wA _ A ((compTurn (.ListComp elt [⟨target,iter,ifs,0⟩] scope pos) 0 it (.ref D) ou).onRaise (λx=>do noteFrame x ou;theTreesLotGoes x)) _ _ s
  refine wpAny_noted ?_
  rw[compTurn_list]
  refine wb9 (ws_ (wb9 (Z8 (turn n s hI) (λr s₁ h₁=>?_))))
  cases r with
  |none=>exact wp_ h₁
  |some v =>
   refine wb9 (Z8 h₁ λx_ s₂ h₂=>wb9 (Z8 h₂ λx_ s₃ h₃=>wb9 (Z8 h₃ λok s₄ h₄=>?_)))
   cases ok with
   |false=>exact wp_ ⟨rfl,h₄⟩
   |true =>
    rw[if_pos rfl] at h₄
    have e:(do let x <- eval elt ou;let _ <- call (.builtin "list.append") [.ref D,x];pure ():Sem Unit)=(do let _ <- call (.builtin "list.append") [.ref D,<- eval elt ou]:Sem Unit):=by rfl
    rw[if_pos rfl,<- e]
    exact wb9 (Z8 h₄ λx_ s₅ h₅=>wp_ ⟨rfl,h₅⟩)
 acc0:=⟨0,rfl⟩
 bF:=rfl
 new:=λh=>wpAny_newObj_type h
 body:=λ {N oq mc o ys kk} hB A s fr Q D Do hA S P hD he hQ=>by
  obtain⟨hsz,hb⟩:=hB
  obtain⟨ep,rfl⟩:=he
  refine wb9 (hb.run hA S P λy mc' o' s' hk S' P'=>?_)
  have hD':s'.heap.get? D=some (lst ys ep):=S'.sg.hfr _ _ hD
  refine wb9 (wpAny_list_append_plain ⟨ep,hD'⟩ (λh' hh hs'=>wp_ ?_) (by simpa using hsz))
  obtain⟨n',hn'⟩:=hh
  refine hQ (ys++[y]) mc' o' s' h' (lst (ys++[y]) n') s'.toks hk S' hs' ?_ ⟨n',rfl⟩
  rw[hn'];simp[lst]
abbrev QcE (c:Cx) (kx vx:Expr) (N:Nat) (oq:Env) (mc:Loc) (o:Own) (ys:LV) (kk:List (Str × Vl)->Loc->Own->Prop):Prop :=
 ys.length<=sizeLine/\W c N oq mc o (eval kx oq) λkv mc o=>∃key,kv.isStrOf key=true/\W c N oq mc o (eval vx oq) λvv mc o=>kk (stored ys key vv) mc o
theorem QjN (c:Cx) (kx vx target iter:Expr) (ifs:List Expr) (scope:Scope) (pos:Pos):Qad c (.DictComp kx vx [⟨target,iter,ifs,0⟩] scope pos) target iter ifs newDict (λys o=>IsD c o ys) [] (QcE c kx vx) ({ cls:=.type "dict",data:=.dict #[] }) (λD ou=>do
  let kv <- eval kx ou
  let vv <- holding [kv] (eval vx ou)
  standAt { kx.pos with endLine:=vx.pos.endLine,endCol:=vx.pos.endCol }
  holding [kv,vv] (dictSet D kv vv)) where
 cl:=rfl
 start:=λh0 h=>codeAny_compStart_dict h0 h
 loop:=λ {A R s it D ou} I turn n h=>by
  refine codeAny_loop rfl I (λn s hI=>?_) n h
  show wA _ A ((compTurn (.DictComp kx vx [⟨target,iter,ifs,0⟩] scope pos) 0 it (.ref D) ou).onRaise (λx=>do noteFrame x ou;theTreesLotGoes x)) _ _ s
  refine wpAny_noted ?_
  rw[compTurn_dict]
  refine wb9 (ws_ (wb9 (Z8 (turn n s hI) (λr s₁ h₁=>?_))))
  cases r with
  |none=>exact wp_ h₁
  |some v =>
   refine wb9 (Z8 h₁ λx_ s₂ h₂=>wb9 (Z8 h₂ λx_ s₃ h₃=>wb9 (Z8 h₃ λok s₄ h₄=>?_)))
   cases ok with
   |false=>exact wp_ ⟨rfl,h₄⟩
   |true =>
    rw[if_pos rfl] at h₄
    rw[if_pos rfl]
    exact wb9 (Z8 h₄ λx_ s₅ h₅=>wp_ ⟨rfl,h₅⟩)
 acc0:=⟨#[],0,⟨rfl,rfl,rfl⟩,rfl,λx_ he=>by simp at he,Pairs.nil,List.nodup_nil⟩
 bF:=rfl
 new:=λh=>wpAny_newObj_type h
 body:=λ {N oq mc o ys kk} hB A s fr Q D Do hA S P hD hDo hQ=>by
  obtain⟨hsz,hb⟩:=hB
  refine wb9 (hb.run hA S P λkv mc' o' s' hkk S' P'=>?_)
  obtain⟨key,hkey,hk⟩:=hkk
  refine(wb9 (wh_ (hk.run hA S' P' λvv mc₂ o₂ s₂ hk₂ S₂ P₂=>wb9 (ws_ (wh_ ?_)))))
  have hD':s₂.heap.get? D=some Do:=S₂.sg.hfr _ _ hD
  refine wpAny_dictSet_pairs (knd:=strKind c.prog c.w) hkey (Heap.dictOf_iff.mpr ⟨Do,hD',hDo⟩) (λh' hd' hs'=>?_) hsz
  obtain⟨Do',e',hd'⟩:=Heap.dictOf_iff.mp hd'
  exact hQ (stored ys key vv) mc₂ o₂ s₂ h' Do' (s₂.toks+1) hk₂ S₂ hs' e' hd'
theorem qv {elt target iter:Expr}{ifs:List Expr}{pos:Pos}(K:ZN scope ou)
  (h:W c N ou m oh (eval iter ou) λx m o=>CompTurns c N ou scope target ifs (Qah c elt) [] x m o λys o=>∀D ep,New c o D->k (.ref D) m (o.put D (lst ys ep)))
  (hs:∀x,foldedSetIterable iter ou x=pure x:=by intro _;rfl):W c N ou m oh (eval (.ListComp elt [⟨target,iter,ifs,0⟩] scope pos) ou) k:=by
 rw[eval_ListComp]
 refine Qbm (use:=none) (Qen c elt target iter ifs scope pos) K (Qk h λx m o t=>t.mono λys o hf D Do hD hA=>?_) hs
 obtain⟨ep,rfl⟩:=hA
 exact hf D ep hD
theorem QcS {kx vx target iter:Expr}{ifs:List Expr}{pos:Pos}(K:ZN scope ou)
  (h:W c N ou m oh (eval iter ou) λx m o=>CompTurns c N ou scope target ifs (QcE c kx vx) [] x m o λys o=>∀D Do,New c o D->IsD c Do ys->k (.ref D) m (o.put D Do))
  (hs:∀x,foldedSetIterable iter ou x=pure x:=by intro _;rfl):W c N ou m oh (eval (.DictComp kx vx [⟨target,iter,ifs,0⟩] scope pos) ou) k:=by
 rw[arm_eval_DictComp]
 exact Qbm (use:=none) (QjN c kx vx target iter ifs scope pos) K h hs
theorem Qhh {elt target iter:Expr}{ifs:List Expr}{px pos p:Pos}{k:KF_}(K:ZN scope ou) (hl:ou.kindOf x=some .local)
  (h:W c N ou m oh (eval iter ou) λv m o=>CompTurns c N ou scope target ifs (Qah c elt) [] v m o λys o=>∀D ep,New c o D->k .next (upd m x (.ref D)) (o.put D (lst ys ep)))
  (hs:∀x,foldedSetIterable iter ou x=pure x:=by intro _;rfl) (hsw:swapsWith (.ListComp elt [⟨target,iter,ifs,0⟩] scope pos) (some (.Name x px)) p.line ou=pure true:=by rfl) :
  W c N ou m oh (exec (.Assign [.Name x px] (.ListComp elt [⟨target,iter,ifs,0⟩] scope pos) p) ou) k:=by
 rw[exec_Assign_Name_used _ _ _ _ hsw]
 refine Qc (Q1 (Qc ?_))
 show W c N ou m oh (do let _ <- comprehension (.ListComp elt [⟨target,iter,ifs,0⟩] scope pos) scope ou _ (newList []) false (eval iter ou) (some (assign (.Name x px) ou))) _
 refine Qc (Qk (Qbm (use:=some (assign (.Name x px) ou)) (k:=λx_ m o=>k .next m o) (Qen c elt target iter ifs scope pos) K (Qk h λv m o t=>t.mono λys o hf D Do hD hA=>?_) hs) λx_ m o hk=>Qs (Qs hk))
 obtain⟨ep,rfl⟩:=hA
 show W c N ou m (o.put D (lst ys ep)) (assign (.Name x px) ou (.ref D)) λx_ m o=>k .next m o
 show W c N ou m (o.put D (lst ys ep)) (do standAt px;bindName ou x (.ref D)) λx_ m o=>k .next m o
 exact Qc (Q1 (Y2 (Y9 hl (hf D ep hD))))
end
inductive Kd|none|bool|int|str|list|dict|tuple
noncomputable def Kd.name:Kd->String
 |.none=>"NoneType" |.bool=>"bool" |.int=>"int" |.str=>"str" |.list=>"list" |.dict=>"dict" |.tuple=>"tuple"
inductive Qv (oh:Own):Vl->Kd->Prop
 |none:Qv oh .none .none
 |bool {b:_}:Qv oh (.bool b) .bool
 |int {i t:_}:Qv oh (.int i t) .int
 |str {x t:_}:Qv oh (.str x t) .str
 |list {a o:_}:oh a=some o->o.cls = .type "list"->Qv oh (.ref a) .list
 |dict {a o:_}:oh a=some o->o.cls = .type "dict"->Qv oh (.ref a) .dict
 |tuple {a o:_}:oh a=some o->o.cls = .type "tuple"->Qv oh (.ref a) .tuple
noncomputable def Qn (kd:Kd) (T:String):Bool:=kd.name==T||(kd.name=="bool"&&T=="int")
theorem Qv.typeIs {kd:Kd}(S:Sg c oh fr s) (h:Qv oh v kd):s.TypeIs v kd.name:=by
 induction h with
 |none=>rfl
 |bool=>rfl
 |int=>rfl
 |str=>rfl
 |list h1 h2=>exact⟨_,S.has _ _ h1,h2⟩
 |dict h1 h2=>exact⟨_,S.has _ _ h1,h2⟩
 |tuple h1 h2=>exact⟨_,S.has _ _ h1,h2⟩
noncomputable def qc:List String:=["list","dict","bool","int","str","tuple","bytes"]
theorem QiI:Answers (λs=>s.TypeIs .none "NoneType") .none (.type "list") false:=by with_reducible exact Answers.of_false_none (by ac_rfl) F.isi_meta_list F.sub_NoneType_list
theorem QiG:Answers (λs=>s.TypeIs .none "NoneType") .none (.type "dict") false:=by with_reducible exact Answers.of_false_none (by ac_rfl) F.isi_meta_dict F.sub_NoneType_dict
theorem QiE:Answers (λs=>s.TypeIs .none "NoneType") .none (.type "bool") false:=by with_reducible exact Answers.of_false_none (by ac_rfl) F.isi_meta_bool F.sub_NoneType_bool
theorem QiH:Answers (λs=>s.TypeIs .none "NoneType") .none (.type "int") false:=by with_reducible exact Answers.of_false_none (by ac_rfl) F.isi_meta_int F.sub_NoneType_int
theorem QiJ:Answers (λs=>s.TypeIs .none "NoneType") .none (.type "str") false:=by with_reducible exact Answers.of_false_none (by ac_rfl) F.isi_meta_str F.sub_NoneType_str
theorem QiK:Answers (λs=>s.TypeIs .none "NoneType") .none (.type "tuple") false:=by with_reducible exact Answers.of_false_none (by ac_rfl) F.isi_meta_tuple F.sub_NoneType_tuple
theorem QiF:Answers (λs=>s.TypeIs .none "NoneType") .none (.type "bytes") false:=by with_reducible exact Answers.of_false_none (by ac_rfl) F.isi_meta_bytes F.sub_NoneType_bytes
theorem Qig {b:Bool}:Answers (λs=>s.TypeIs (.bool b) "bool") (.bool b) (.type "list") false:=by with_reducible exact Answers.of_false_bool (by ac_rfl) F.isi_meta_list F.sub_bool_list
theorem Qie {b:Bool}:Answers (λs=>s.TypeIs (.bool b) "bool") (.bool b) (.type "dict") false:=by with_reducible exact Answers.of_false_bool (by ac_rfl) F.isi_meta_dict F.sub_bool_dict
theorem Qic {b:Bool}:Answers (λs=>s.TypeIs (.bool b) "bool") (.bool b) (.type "bool") true:=by with_reducible exact Answers.of_true F.isi_meta_bool F.sub_bool_bool
theorem Qif {b:Bool}:Answers (λs=>s.TypeIs (.bool b) "bool") (.bool b) (.type "int") true:=by with_reducible exact Answers.of_true F.isi_meta_int F.sub_bool_int
theorem Qih {b:Bool}:Answers (λs=>s.TypeIs (.bool b) "bool") (.bool b) (.type "str") false:=by with_reducible exact Answers.of_false_bool (by ac_rfl) F.isi_meta_str F.sub_bool_str
theorem Qii {b:Bool}:Answers (λs=>s.TypeIs (.bool b) "bool") (.bool b) (.type "tuple") false:=by with_reducible exact Answers.of_false_bool (by ac_rfl) F.isi_meta_tuple F.sub_bool_tuple
theorem Qid {b:Bool}:Answers (λs=>s.TypeIs (.bool b) "bool") (.bool b) (.type "bytes") false:=by with_reducible exact Answers.of_false_bool (by ac_rfl) F.isi_meta_bytes F.sub_bool_bytes
theorem Qiu {i:Int}:Answers (λs=>s.TypeIs (.int i t) "int") (.int i t) (.type "list") false:=by with_reducible exact Answers.of_false_int (by ac_rfl) F.isi_meta_list F.sub_int_list
theorem Qis {i:Int}:Answers (λs=>s.TypeIs (.int i t) "int") (.int i t) (.type "dict") false:=by with_reducible exact Answers.of_false_int (by ac_rfl) F.isi_meta_dict F.sub_int_dict
theorem Qiq {i:Int}:Answers (λs=>s.TypeIs (.int i t) "int") (.int i t) (.type "bool") false:=by with_reducible exact Answers.of_false_int (by ac_rfl) F.isi_meta_bool F.sub_int_bool
theorem Qit {i:Int}:Answers (λs=>s.TypeIs (.int i t) "int") (.int i t) (.type "int") true:=by with_reducible exact Answers.of_true F.isi_meta_int F.sub_int_int
theorem Qiv {i:Int}:Answers (λs=>s.TypeIs (.int i t) "int") (.int i t) (.type "str") false:=by with_reducible exact Answers.of_false_int (by ac_rfl) F.isi_meta_str F.sub_int_str
theorem Qiw {i:Int}:Answers (λs=>s.TypeIs (.int i t) "int") (.int i t) (.type "tuple") false:=by with_reducible exact Answers.of_false_int (by ac_rfl) F.isi_meta_tuple F.sub_int_tuple
theorem Qir {i:Int}:Answers (λs=>s.TypeIs (.int i t) "int") (.int i t) (.type "bytes") false:=by with_reducible exact Answers.of_false_int (by ac_rfl) F.isi_meta_bytes F.sub_int_bytes
theorem QiP:Answers (λs=>s.TypeIs (.str x t) "str") (.str x t) (.type "list") false:=by with_reducible exact Answers.of_false_str (by ac_rfl) F.isi_meta_list F.sub_str_list
theorem QiN:Answers (λs=>s.TypeIs (.str x t) "str") (.str x t) (.type "dict") false:=by with_reducible exact Answers.of_false_str (by ac_rfl) F.isi_meta_dict F.sub_str_dict
theorem QiL:Answers (λs=>s.TypeIs (.str x t) "str") (.str x t) (.type "bool") false:=by with_reducible exact Answers.of_false_str (by ac_rfl) F.isi_meta_bool F.sub_str_bool
theorem QiO:Answers (λs=>s.TypeIs (.str x t) "str") (.str x t) (.type "int") false:=by with_reducible exact Answers.of_false_str (by ac_rfl) F.isi_meta_int F.sub_str_int
theorem QiQ:Answers (λs=>s.TypeIs (.str x t) "str") (.str x t) (.type "str") true:=by with_reducible exact Answers.of_true F.isi_meta_str F.sub_str_str
theorem QiR:Answers (λs=>s.TypeIs (.str x t) "str") (.str x t) (.type "tuple") false:=by with_reducible exact Answers.of_false_str (by ac_rfl) F.isi_meta_tuple F.sub_str_tuple
theorem QiM:Answers (λs=>s.TypeIs (.str x t) "str") (.str x t) (.type "bytes") false:=by with_reducible exact Answers.of_false_str (by ac_rfl) F.isi_meta_bytes F.sub_str_bytes
theorem QiB:Answers (λs=>s.TypeIs (.ref a) "list") (.ref a) (.type "list") true:=by with_reducible exact Answers.of_true F.isi_meta_list F.sub_list_list
theorem Qiz:Answers (λs=>s.TypeIs (.ref a) "list") (.ref a) (.type "dict") false:=by with_reducible exact Answers.of_false_list (by ac_rfl) F.isi_meta_dict F.sub_list_dict
theorem Qix:Answers (λs=>s.TypeIs (.ref a) "list") (.ref a) (.type "bool") false:=by with_reducible exact Answers.of_false_list (by ac_rfl) F.isi_meta_bool F.sub_list_bool
theorem QiA:Answers (λs=>s.TypeIs (.ref a) "list") (.ref a) (.type "int") false:=by with_reducible exact Answers.of_false_list (by ac_rfl) F.isi_meta_int F.sub_list_int
theorem QiC:Answers (λs=>s.TypeIs (.ref a) "list") (.ref a) (.type "str") false:=by with_reducible exact Answers.of_false_list (by ac_rfl) F.isi_meta_str F.sub_list_str
theorem QiD:Answers (λs=>s.TypeIs (.ref a) "list") (.ref a) (.type "tuple") false:=by with_reducible exact Answers.of_false_list (by ac_rfl) F.isi_meta_tuple F.sub_list_tuple
theorem Qiy:Answers (λs=>s.TypeIs (.ref a) "list") (.ref a) (.type "bytes") false:=by with_reducible exact Answers.of_false_list (by ac_rfl) F.isi_meta_bytes F.sub_list_bytes
theorem Qin:Answers (λs=>s.TypeIs (.ref a) "dict") (.ref a) (.type "list") false:=by with_reducible exact Answers.of_false_dict (by ac_rfl) F.isi_meta_list F.sub_dict_list
theorem Qil:Answers (λs=>s.TypeIs (.ref a) "dict") (.ref a) (.type "dict") true:=by with_reducible exact Answers.of_true F.isi_meta_dict F.sub_dict_dict
theorem Qij:Answers (λs=>s.TypeIs (.ref a) "dict") (.ref a) (.type "bool") false:=by with_reducible exact Answers.of_false_dict (by ac_rfl) F.isi_meta_bool F.sub_dict_bool
theorem Qim:Answers (λs=>s.TypeIs (.ref a) "dict") (.ref a) (.type "int") false:=by with_reducible exact Answers.of_false_dict (by ac_rfl) F.isi_meta_int F.sub_dict_int
theorem Qio:Answers (λs=>s.TypeIs (.ref a) "dict") (.ref a) (.type "str") false:=by with_reducible exact Answers.of_false_dict (by ac_rfl) F.isi_meta_str F.sub_dict_str
theorem Qip:Answers (λs=>s.TypeIs (.ref a) "dict") (.ref a) (.type "tuple") false:=by with_reducible exact Answers.of_false_dict (by ac_rfl) F.isi_meta_tuple F.sub_dict_tuple
theorem Qik:Answers (λs=>s.TypeIs (.ref a) "dict") (.ref a) (.type "bytes") false:=by with_reducible exact Answers.of_false_dict (by ac_rfl) F.isi_meta_bytes F.sub_dict_bytes
theorem QiW:Answers (λs=>s.TypeIs (.ref a) "tuple") (.ref a) (.type "list") false:=by with_reducible exact Answers.of_false_tuple (by ac_rfl) F.isi_meta_list F.sub_tuple_list
theorem QiU:Answers (λs=>s.TypeIs (.ref a) "tuple") (.ref a) (.type "dict") false:=by with_reducible exact Answers.of_false_tuple (by ac_rfl) F.isi_meta_dict F.sub_tuple_dict
theorem QiS:Answers (λs=>s.TypeIs (.ref a) "tuple") (.ref a) (.type "bool") false:=by with_reducible exact Answers.of_false_tuple (by ac_rfl) F.isi_meta_bool F.sub_tuple_bool
theorem QiV:Answers (λs=>s.TypeIs (.ref a) "tuple") (.ref a) (.type "int") false:=by with_reducible exact Answers.of_false_tuple (by ac_rfl) F.isi_meta_int F.sub_tuple_int
theorem QiX:Answers (λs=>s.TypeIs (.ref a) "tuple") (.ref a) (.type "str") false:=by with_reducible exact Answers.of_false_tuple (by ac_rfl) F.isi_meta_str F.sub_tuple_str
theorem QiY:Answers (λs=>s.TypeIs (.ref a) "tuple") (.ref a) (.type "tuple") true:=by with_reducible exact Answers.of_true F.isi_meta_tuple F.sub_tuple_tuple
theorem QiT:Answers (λs=>s.TypeIs (.ref a) "tuple") (.ref a) (.type "bytes") false:=by with_reducible exact Answers.of_false_tuple (by ac_rfl) F.isi_meta_bytes F.sub_tuple_bytes
theorem QhV:Qn .none "list"=false:=by ac_rfl
theorem Qht:Qn .bool "list"=false:=by ac_rfl
theorem QhH:Qn .int "list"=false:=by ac_rfl
theorem Qh2:Qn .str "list"=false:=by ac_rfl
theorem QhO:Qn .list "list"=true:=by ac_rfl
theorem QhA:Qn .dict "list"=false:=by ac_rfl
theorem Qh9:Qn .tuple "list"=false:=by ac_rfl
theorem QhT:Qn .none "dict"=false:=by ac_rfl
theorem Qhr:Qn .bool "dict"=false:=by ac_rfl
theorem QhF:Qn .int "dict"=false:=by ac_rfl
theorem Qh0:Qn .str "dict"=false:=by ac_rfl
theorem QhM:Qn .list "dict"=false:=by ac_rfl
theorem Qhy:Qn .dict "dict"=true:=by ac_rfl
theorem Qh7:Qn .tuple "dict"=false:=by ac_rfl
theorem QhR:Qn .none "bool"=false:=by ac_rfl
theorem Qhp:Qn .bool "bool"=true:=by ac_rfl
theorem QhD:Qn .int "bool"=false:=by ac_rfl
theorem QhY:Qn .str "bool"=false:=by ac_rfl
theorem QhK:Qn .list "bool"=false:=by ac_rfl
theorem Qhw:Qn .dict "bool"=false:=by ac_rfl
theorem Qh5:Qn .tuple "bool"=false:=by ac_rfl
theorem QhU:Qn .none "int"=false:=by ac_rfl
theorem Qhs:Qn .bool "int"=true:=by ac_rfl
theorem QhG:Qn .int "int"=true:=by ac_rfl
theorem Qh1:Qn .str "int"=false:=by ac_rfl
theorem QhN:Qn .list "int"=false:=by ac_rfl
theorem Qhz:Qn .dict "int"=false:=by ac_rfl
theorem Qh8:Qn .tuple "int"=false:=by ac_rfl
theorem QhW:Qn .none "str"=false:=by ac_rfl
theorem Qhu:Qn .bool "str"=false:=by ac_rfl
theorem QhI:Qn .int "str"=false:=by ac_rfl
theorem Qh3:Qn .str "str"=true:=by ac_rfl
theorem QhP:Qn .list "str"=false:=by ac_rfl
theorem QhB:Qn .dict "str"=false:=by ac_rfl
theorem Qia:Qn .tuple "str"=false:=by ac_rfl
theorem QhX:Qn .none "tuple"=false:=by ac_rfl
theorem Qhv:Qn .bool "tuple"=false:=by ac_rfl
theorem QhJ:Qn .int "tuple"=false:=by ac_rfl
theorem Qh4:Qn .str "tuple"=false:=by ac_rfl
theorem QhQ:Qn .list "tuple"=false:=by ac_rfl
theorem QhC:Qn .dict "tuple"=false:=by ac_rfl
theorem Qib:Qn .tuple "tuple"=true:=by ac_rfl
theorem QhS:Qn .none "bytes"=false:=by ac_rfl
theorem Qhq:Qn .bool "bytes"=false:=by ac_rfl
theorem QhE:Qn .int "bytes"=false:=by ac_rfl
theorem QhZ:Qn .str "bytes"=false:=by ac_rfl
theorem QhL:Qn .list "bytes"=false:=by ac_rfl
theorem Qhx:Qn .dict "bytes"=false:=by ac_rfl
theorem Qh6:Qn .tuple "bytes"=false:=by ac_rfl
theorem Qi3 {kd:Kd}(h:Qv oh v kd):Answers (λs=>s.TypeIs v kd.name) v (.type "list") (Qn kd "list"):=by
 induction h with
 |none=>rw[QhV,show Kd.name .none = "NoneType" from rfl];with_reducible exact QiI
 |bool=>rw[Qht,show Kd.name .bool = "bool" from rfl];with_reducible exact Qig
 |int=>rw[QhH,show Kd.name .int = "int" from rfl];with_reducible exact Qiu
 |str=>rw[Qh2,show Kd.name .str = "str" from rfl];with_reducible exact QiP
 |list _ _=>rw[QhO,show Kd.name .list = "list" from rfl];with_reducible exact QiB
 |dict _ _=>rw[QhA,show Kd.name .dict = "dict" from rfl];with_reducible exact Qin
 |tuple _ _=>rw[Qh9,show Kd.name .tuple = "tuple" from rfl];with_reducible exact QiW
theorem Qi1 {kd:Kd}(h:Qv oh v kd):Answers (λs=>s.TypeIs v kd.name) v (.type "dict") (Qn kd "dict"):=by
 induction h with
 |none=>rw[QhT,show Kd.name .none = "NoneType" from rfl];with_reducible exact QiG
 |bool=>rw[Qhr,show Kd.name .bool = "bool" from rfl];with_reducible exact Qie
 |int=>rw[QhF,show Kd.name .int = "int" from rfl];with_reducible exact Qis
 |str=>rw[Qh0,show Kd.name .str = "str" from rfl];with_reducible exact QiN
 |list _ _=>rw[QhM,show Kd.name .list = "list" from rfl];with_reducible exact Qiz
 |dict _ _=>rw[Qhy,show Kd.name .dict = "dict" from rfl];with_reducible exact Qil
 |tuple _ _=>rw[Qh7,show Kd.name .tuple = "tuple" from rfl];with_reducible exact QiU
theorem QiZ {kd:Kd}(h:Qv oh v kd):Answers (λs=>s.TypeIs v kd.name) v (.type "bool") (Qn kd "bool"):=by
 induction h with
 |none=>rw[QhR,show Kd.name .none = "NoneType" from rfl];with_reducible exact QiE
 |bool=>rw[Qhp,show Kd.name .bool = "bool" from rfl];with_reducible exact Qic
 |int=>rw[QhD,show Kd.name .int = "int" from rfl];with_reducible exact Qiq
 |str=>rw[QhY,show Kd.name .str = "str" from rfl];with_reducible exact QiL
 |list _ _=>rw[QhK,show Kd.name .list = "list" from rfl];with_reducible exact Qix
 |dict _ _=>rw[Qhw,show Kd.name .dict = "dict" from rfl];with_reducible exact Qij
 |tuple _ _=>rw[Qh5,show Kd.name .tuple = "tuple" from rfl];with_reducible exact QiS
theorem Qi2 {kd:Kd}(h:Qv oh v kd):Answers (λs=>s.TypeIs v kd.name) v (.type "int") (Qn kd "int"):=by
 induction h with
 |none=>rw[QhU,show Kd.name .none = "NoneType" from rfl];with_reducible exact QiH
 |bool=>rw[Qhs,show Kd.name .bool = "bool" from rfl];with_reducible exact Qif
 |int=>rw[QhG,show Kd.name .int = "int" from rfl];with_reducible exact Qit
 |str=>rw[Qh1,show Kd.name .str = "str" from rfl];with_reducible exact QiO
 |list _ _=>rw[QhN,show Kd.name .list = "list" from rfl];with_reducible exact QiA
 |dict _ _=>rw[Qhz,show Kd.name .dict = "dict" from rfl];with_reducible exact Qim
 |tuple _ _=>rw[Qh8,show Kd.name .tuple = "tuple" from rfl];with_reducible exact QiV
theorem Qi4 {kd:Kd}(h:Qv oh v kd):Answers (λs=>s.TypeIs v kd.name) v (.type "str") (Qn kd "str"):=by
 induction h with
 |none=>rw[QhW,show Kd.name .none = "NoneType" from rfl];with_reducible exact QiJ
 |bool=>rw[Qhu,show Kd.name .bool = "bool" from rfl];with_reducible exact Qih
 |int=>rw[QhI,show Kd.name .int = "int" from rfl];with_reducible exact Qiv
 |str=>rw[Qh3,show Kd.name .str = "str" from rfl];with_reducible exact QiQ
 |list _ _=>rw[QhP,show Kd.name .list = "list" from rfl];with_reducible exact QiC
 |dict _ _=>rw[QhB,show Kd.name .dict = "dict" from rfl];with_reducible exact Qio
 |tuple _ _=>rw[Qia,show Kd.name .tuple = "tuple" from rfl];with_reducible exact QiX
theorem Qi5 {kd:Kd}(h:Qv oh v kd):Answers (λs=>s.TypeIs v kd.name) v (.type "tuple") (Qn kd "tuple"):=by
 induction h with
 |none=>rw[QhX,show Kd.name .none = "NoneType" from rfl];with_reducible exact QiK
 |bool=>rw[Qhv,show Kd.name .bool = "bool" from rfl];with_reducible exact Qii
 |int=>rw[QhJ,show Kd.name .int = "int" from rfl];with_reducible exact Qiw
 |str=>rw[Qh4,show Kd.name .str = "str" from rfl];with_reducible exact QiR
 |list _ _=>rw[QhQ,show Kd.name .list = "list" from rfl];with_reducible exact QiD
 |dict _ _=>rw[QhC,show Kd.name .dict = "dict" from rfl];with_reducible exact Qip
 |tuple _ _=>rw[Qib,show Kd.name .tuple = "tuple" from rfl];with_reducible exact QiY
theorem Qi0 {kd:Kd}(h:Qv oh v kd):Answers (λs=>s.TypeIs v kd.name) v (.type "bytes") (Qn kd "bytes"):=by
 induction h with
 |none=>rw[QhS,show Kd.name .none = "NoneType" from rfl];with_reducible exact QiF
 |bool=>rw[Qhq,show Kd.name .bool = "bool" from rfl];with_reducible exact Qid
 |int=>rw[QhE,show Kd.name .int = "int" from rfl];with_reducible exact Qir
 |str=>rw[QhZ,show Kd.name .str = "str" from rfl];with_reducible exact QiM
 |list _ _=>rw[QhL,show Kd.name .list = "list" from rfl];with_reducible exact Qiy
 |dict _ _=>rw[Qhx,show Kd.name .dict = "dict" from rfl];with_reducible exact Qik
 |tuple _ _=>rw[Qh6,show Kd.name .tuple = "tuple" from rfl];with_reducible exact QiT
theorem Qdv {kd:Kd}{T:String}(h:Qv oh v kd) (hT:qc.contains T=true):Answers (λs=>s.TypeIs v kd.name) v (.type T) (Qn kd T):=by
 have hm:T∈qc:=List.contains_iff_mem.mp hT
 rw[qc,mc_,mc_,mc_,mc_,mc_,mc_,ms_] at hm
 rcases hm with e|e|e|e|e|e|e<;>subst e
 ·exact Qi3 h
 ·exact Qi1 h
 ·exact QiZ h
 ·exact Qi2 h
 ·exact Qi4 h
 ·exact Qi5 h
 ·exact Qi0 h
theorem Qdu {kd:Kd}(h:Qv oh v kd):∀ {Ts:List String},Ts.all (qc.contains ·)=true->AnswersAll (λs=>s.TypeIs v kd.name) v (Ts.map .type) (Ts.map (Qn kd))
 | [],_=>trivial
 |T::r,hT=>by
  rw[List.all_cons,Bool.and_eq_true] at hT
  exact⟨Qdv h hT.1,Qdu h hT.2⟩
section
def Has (c:Cx) (oh:Own) (a:Ad) (o:Obj):Prop:=∀fr s,Sg c oh fr s->s.heap.get? a=some o
theorem ZY (h:oh a=some o):Has c oh a o:=λx_ x_ S=>S.has _ _ h
theorem XC (h:c.K.lookup a=some o):Has c oh a o:=λx_ x_ S=>S.kIn _ _ h
theorem qA {kd:Kd}{T:String}(h:Qv oh v kd) (hk:k (.bool (Qn kd T)) m oh) (hT:qc.contains T=true:=by ac_rfl) :
  W c N ou m oh (call (.builtin "isinstance") [v,.type T]) k:=by
 intro A s fr Q hA S P hQ
 refine call_isinstance (λprog w A E s hs=>isinstance_outer (Qdv h hT 0 0 prog w A E s hs) (Shared.TypeIs.not_mainsLoader hs.1)) ?_
 exact⟨h.typeIs S.sg,λtk=>hQ _ _ _ _ hk ⟨S.sg.tok _,S.fm,S.dl⟩⟩
theorem Qaq {kd:Kd}{tp:Ad}{Ts:List String}(h:Qv oh v kd) (ht:Has c oh tp (tup (Ts.map .type))) (hk:k (.bool ((Ts.map (Qn kd)).any id)) m oh)
  (hT:Ts.all (qc.contains ·)=true:=by ac_rfl):W c N ou m oh (call (.builtin "isinstance") [v,.ref tp]) k:=by
 intro A s fr Q hA S P hQ
 exact IsiPair.tupleOf (Qdu h hT) (h.typeIs S.sg) (ht _ _ S.sg) λtk=>hQ _ _ _ _ hk ⟨S.sg.tok _,S.fm,S.dl⟩
noncomputable def Kd.isL:Kd->Bool|.list=>true|_=>false
noncomputable def Kd.isD:Kd->Bool|.dict=>true|_=>false
noncomputable def Kd.isB:Kd->Bool|.bool=>true|_=>false
noncomputable def Kd.isI:Kd->Bool|.int=>true|.bool=>true|_=>false
noncomputable def Kd.isS:Kd->Bool|.str=>true|_=>false
noncomputable def Kd.isSeq:Kd->Bool|.list=>true|.tuple=>true|.str=>true|_=>false
noncomputable def Kd.bV:Kd->Bool|.list=>true|.dict=>true|_=>false
noncomputable def Kd.isSD:Kd->Bool|.str=>true|.dict=>true|_=>false
variable {v:Vl}{kd:Kd}{tp:Ad}{k:KV}
theorem Qdc (h:Qv oh v kd) (hk:k (.bool kd.isL) m oh):W c N ou m oh (call (.builtin "isinstance") [v,.type "list"]) k:=qA h (by rw[show Qn kd "list"=kd.isL by induction kd<;>ac_rfl];exact hk)
theorem Qdb (h:Qv oh v kd) (hk:k (.bool kd.isD) m oh):W c N ou m oh (call (.builtin "isinstance") [v,.type "dict"]) k:=qA h (by rw[show Qn kd "dict"=kd.isD by induction kd<;>ac_rfl];exact hk)
theorem QoB (h:Qv oh v kd) (hk:k (.bool kd.isB) m oh):W c N ou m oh (call (.builtin "isinstance") [v,.type "bool"]) k:=qA h (by rw[show Qn kd "bool"=kd.isB by induction kd<;>ac_rfl];exact hk)
theorem QoC (h:Qv oh v kd) (hk:k (.bool kd.isI) m oh):W c N ou m oh (call (.builtin "isinstance") [v,.type "int"]) k:=qA h (by rw[show Qn kd "int"=kd.isI by induction kd<;>ac_rfl];exact hk)
theorem QoE (h:Qv oh v kd) (hk:k (.bool kd.isS) m oh):W c N ou m oh (call (.builtin "isinstance") [v,.type "str"]) k:=qA h (by rw[show Qn kd "str"=kd.isS by induction kd<;>ac_rfl];exact hk)
theorem QoD (h:Qv oh v kd) (ht:Has c oh tp (tup [.type "list",.type "tuple",.type "str",.type "bytes"])) (hk:k (.bool kd.isSeq) m oh):W c N ou m oh (call (.builtin "isinstance") [v,.ref tp]) k :=
 Qaq (Ts:=["list","tuple","str","bytes"]) h ht (by rw[show (["list","tuple","str","bytes"].map (Qn kd)).any id=kd.isSeq by induction kd<;>ac_rfl];exact hk)
theorem Qda (h:Qv oh v kd) (ht:Has c oh tp (tup [.type "dict",.type "list"])) (hk:k (.bool kd.bV) m oh):W c N ou m oh (call (.builtin "isinstance") [v,.ref tp]) k :=
 Qaq (Ts:=["dict","list"]) h ht (by rw[show (["dict","list"].map (Qn kd)).any id=kd.bV by induction kd<;>ac_rfl];exact hk)
theorem qB (h:Qv oh v kd) (ht:Has c oh tp (tup [.type "str",.type "bytes"])) (hk:k (.bool kd.isS) m oh):W c N ou m oh (call (.builtin "isinstance") [v,.ref tp]) k :=
 Qaq (Ts:=["str","bytes"]) h ht (by rw[show (["str","bytes"].map (Qn kd)).any id=kd.isS by induction kd<;>ac_rfl];exact hk)
theorem QgN (h:Qv oh v kd) (ht:Has c oh tp (tup [.type "str",.type "bytes",.type "dict"])) (hk:k (.bool kd.isSD) m oh):W c N ou m oh (call (.builtin "isinstance") [v,.ref tp]) k :=
 Qaq (Ts:=["str","bytes","dict"]) h ht (by rw[show (["str","bytes","dict"].map (Qn kd)).any id=kd.isSD by induction kd<;>ac_rfl];exact hk)
end
inductive J where
 |atom (v:Vl)
 |node (a:Ad) (d:Bool) (oj:List (Str × J))
 deriving Inhabited
noncomputable abbrev LJ:=List (Str × J)
variable {oj:LJ}
noncomputable def J.val:J->Vl
 |.atom v=>v
 |.node a _ _=>.ref a
mutual
noncomputable def J.addrs:J->List Ad
 |.atom _=>[]
 |.node a _ oj=>a::J.aa oj
noncomputable def J.aa:List (Str × J)->List Ad
 | []=>[]
 |(_,x)::r=>x.addrs++J.aa r
end
theorem J.m0:a∈(J.node a d oj).addrs:=by rw[J.addrs];exact .head _
theorem J.mL {a b:Ad}(h:b∈J.aa oj):b∈(J.node a d oj).addrs:=by rw[J.addrs];exact .tail _ h
mutual
noncomputable def J.size:J->Nat
 |.atom _=>1
 |.node _ _ oj=>1+J.ab oj
noncomputable def J.ab:List (Str × J)->Nat
 | []=>0
 |(_,x)::r=>x.size+J.ab r
end
theorem J.size_pos (j:J):1<=j.size:=by cases j<;>simp[J.size]
theorem J.size_le {p:Str × J}:∀ {oj:LJ},p∈oj->p.2.size<=J.ab oj
 |q::r,h=>by
  obtain⟨k,x⟩:=q
  rw[J.ab]
  rcases mc_.mp h with rfl|h
  ·exact Nat.le_add_right _ _
  ·exact Nat.le_trans (J.size_le h) (Nat.le_add_left _ _)
theorem J.am {p:Str × J}(h:p∈oj):p.2.size < (J.node a d oj).size:=by
 rw[J.size];have:=J.size_le h;omega
theorem J.length_le:∀ {oj:LJ},oj.length<=J.ab oj
 | []=>Nat.le_refl _
 |(_,x)::r=>by rw[J.ab,lc_];have:=J.length_le (oj:=r);have:=x.size_pos;omega
theorem J.ad:∀ {oj:LJ}{p:Str × J}{a:Ad},p∈oj->a∈p.2.addrs->a∈J.aa oj
 |q::r,p,a,h,ha=>by
  obtain⟨k,x⟩:=q
  rw[J.aa,ma_]
  rcases mc_.mp h with rfl|h
  ·exact .inl ha
  ·exact .inr (J.ad h ha)
theorem J.aE:∀ {oj:LJ}{a:Ad},a∈J.aa oj->∃p∈oj,a∈p.2.addrs
 |(k,x)::r,a,h=>by
  rw[J.aa,ma_] at h
  rcases h with h|h
  ·exact⟨_,.head _,h⟩
  ·obtain⟨p,hp,e⟩:=J.aE h;exact⟨p,.tail _ hp,e⟩
theorem J.ah:∀ {l r:LJ},J.aa (l++r)=J.aa l++J.aa r
 | [],_=>rfl
 |(_,x)::l,r=>by rw[List.cons_append,J.aa,J.aa,J.ah,List.append_assoc]
theorem J.ao:∀ {l r:LJ},J.ab (l++r)=J.ab l+J.ab r
 | [],_=>by simp[J.ab]
 |(_,x)::l,r=>by rw[List.cons_append,J.ab,J.ab,J.ao,Nat.add_assoc]
inductive ZA:Vl->Prop
 |none:ZA .none
 |bool {b:_}:ZA (.bool b)
 |int {i t:_}:ZA (.int i t)
 |str {x t:_}:ZA (.str x t)
def Q8 (c:Cx) (oh:Own) (a:Ad) (d:Bool) (oj:LJ):Prop:=match d with
 |true=>∃o,oh a=some o/\IsD c o (oj.map λp=>(p.1,p.2.val))
 |false=>∃n,oh a=some (lst (oj.map (·.2.val)) n)
structure Z9 (c:Cx) (oh:Own) (a:Ad) (d:Bool) (oj:LJ):Prop where
 base:c.H.get? a=none
 obj:Q8 c oh a d oj
inductive Ok (c:Cx) (oh:Own):J->Prop
 |atom {v:_}:ZA v->Ok c oh (.atom v)
 |node {a d oj:_}:Z9 c oh a d oj->(∀p∈oj,Ok c oh p.2)->Ok c oh (.node a d oj)
def Ext (oh oo:Own):Prop:=∀a o,oh a=some o->oo a=some o
theorem Ext.refl:Ext oh oh:=λx_ x_ h=>h
theorem Ext.trans {o1 o2 o3:Own}(h:Ext o1 o2) (h':Ext o2 o3):Ext o1 o3:=λa o e=>h' a o (h a o e)
theorem Ext.put (h:oh a=none):Ext oh (oh.put a o):=λx_ x_ e=>QE h e
theorem Ext.ai {oh oo:Own}(x:Ext oh oo) (h:oo a=none):Ext oh (oo.put a o):=λx_ x_ e=>QE h (x _ _ e)
theorem Ext.none {oh oo:Own}(h:Ext oh oo) (e:oo a=none):oh a=none:=by
 cases q:oh a with
 |none=>rfl
 |some o=>cases (h a o q),e
theorem Z9.ext {oh oo:Own}(h:Z9 c oh a d oj) (x:∀o,oh a=some o->oo a=some o):Z9 c oo a d oj:=by
 cases d with
 |true=>obtain⟨hb,o,h1,h2⟩:=h;exact⟨hb,o,x _ h1,h2⟩
 |false=>obtain⟨hb,n,h1⟩:=h;exact⟨hb,n,x _ h1⟩
theorem Z9.there (h:Z9 c oh a d oj):∃o,oh a=some o:=by
 cases d with
 |true=>obtain⟨_,o,h1,h2⟩:=h;exact⟨o,h1⟩
 |false=>obtain⟨_,n,h1⟩:=h;exact⟨_,h1⟩
theorem Ok.on {oh oo:Own}{j:J}(h:Ok c oh j) (x:∀a∈j.addrs,∀o,oh a=some o->oo a=some o):Ok c oo j:=by
 induction h with
 |atom h=>exact .atom h
 |@node a d oj hn hk ih=>exact .node (hn.ext (x a (by rw[J.addrs];exact .head _))) λp hp=>ih p hp λb hb=>x b (by rw[J.addrs];exact .tail _ (J.ad hp hb))
theorem Ok.ext {oh oo:Own}{j:J}(h:Ok c oh j) (x:Ext oh oo):Ok c oo j:=h.on λa x_ o=>x a o
theorem Ok.there {j:J}(h:Ok c oh j):∀a∈j.addrs,∃o,oh a=some o:=by
 induction h with
 |atom h=>intro a ha;cases ha
 |node hn hk ih =>
  intro b hb
  rw[J.addrs] at hb
  rcases mc_.mp hb with rfl|hb
  ·exact hn.there
  ·obtain⟨p,hp,e⟩:=J.aE hb;exact ih p hp b e
theorem Ok.kid (h:Ok c oh (.node a d oj)) {p:Str × J}(hp:p∈oj):Ok c oh p.2:=by cases h with|node _ h=>exact h p hp
theorem Ok.ae (h:Ok c oh (.node a d oj)):Z9 c oh a d oj:=by cases h with|node h _=>exact h
noncomputable def J.kd:J->Kd
 |.atom .none=>.none
 |.atom (.bool _)=>.bool
 |.atom (.int _ _)=>.int
 |.atom (.str _ _)=>.str
 |.atom _=>.tuple
 |.node _ true _=>.dict
 |.node _ false _=>.list
theorem Ok.kdOf {j:J}(h:Ok c oh j):Qv oh j.val j.kd:=by
 cases h with
 |atom h=>cases h<;>constructor
 |@node a d oj h _ =>
  cases d with
  |true=>obtain⟨_,o,h1,es,ep,h2,_⟩:=h;exact .dict h1 h2.1
  |false=>obtain⟨_,n,h1⟩:=h;exact .list h1 rfl
inductive Cp:J->J->Prop
 |atom {v:_}:Cp (.atom v) (.atom v)
 |node {a b d oj ot:_}:oj.map (·.1)=ot.map (·.1)->(∀ (i:Nat) (p q:Str × J),oj[i]?=some p->ot[i]?=some q->Cp p.2 q.2)->Cp (.node a d oj) (.node b d ot)
structure Z3 (oh:Own) (j:J):Prop where
 new:∀a∈j.addrs,oh a=none
 nodup:j.addrs.Nodup
theorem Z3.mono {oh oo:Own}{j:J}(x:Ext oh oo) (h:Z3 oo j):Z3 oh j:=⟨λa ha=>x.none (h.new a ha),h.nodup⟩
abbrev kA1 (k:KL_):Vl->Loc->Own->Prop:=λv m o=>k [v] m o
abbrev QlY (k:KL_) (v:Vl):Vl->Loc->Own->Prop:=λu m o=>k [v,u] m o
abbrev kA2 (c:Cx) (N:Nat) (ou:Env) (f:Expr) (k:KL_):Vl->Loc->Own->Prop:=λv m o=>W c N ou m o (eval f ou) (QlY k v)
abbrev Ql0 (k:KL_) (v u:Vl):Vl->Loc->Own->Prop:=λx m o=>k [v,u,x] m o
abbrev QlZ (c:Cx) (N:Nat) (ou:Env) (g:Expr) (k:KL_) (v:Vl):Vl->Loc->Own->Prop:=λu m o=>W c N ou m o (eval g ou) (Ql0 k v u)
abbrev kA3 (c:Cx) (N:Nat) (ou:Env) (f g:Expr) (k:KL_):Vl->Loc->Own->Prop:=λv m o=>W c N ou m o (eval f ou) (QlZ c N ou g k v)
abbrev Ql2 (c:Cx) (N:Nat) (ou:Env) (x:Str) (rest:List Stmt) (k:KF_):Vl->Loc->Own->Prop:=λv m w=>W c N ou (upd m x v) w (execs rest ou) k
theorem XU (h:c.H.get? a=none):(a==sysModules)=false:=by
 rw[beq_eq_false_iff_ne]
 rintro rfl
 have e:=c.base.inK sysModules (o1 c.w.params) (by symm)
 cases e,h
def KF (ou:Env) (sc:Scope):Prop:=∀x k,k≠NameKind.free->sc.names.lookup x=some k->ou.kindOf x=some k
theorem qJ (h:ou.scope=sc):KF ou sc:=λx k x_ e=>by unfold Env.kindOf;rw[h];exact e
theorem Qe2:∀ {names:List (Str × NameKind)}{x:Str}{k:NameKind},k≠.free->names.lookup x=some k ->
  (names.map λ (n,k)=>if (k==NameKind.free&&ou.scope.kind==.function&&ou.kindOf n==some .cell) then (n,NameKind.cell) else (n,k)).lookup x=some k
 | [],_,_,_,h=>by cases h
 |(n,k0)::r,x,k,hk,h=>by
  rw[kc_] at h
  simp only[List.map_cons]
  by_cases hq:x=n
  ·have e:(x==n)=true:=by simpa using hq
   rw[e] at h
   have e0:k0=k:=by simpa using h
   subst e0
   have:(k0==NameKind.free)=false:=by simpa using hk
   rw[this];simp only[Bool.false_and,Bool.false_eq_true,if_false]
   rw[kc_,e]
  ·have e:(x==n)=false:=beq_eq_false_iff_ne.mpr hq
   rw[e] at h
   split<;>(rw[kc_];simp only[e];exact Qe2 hk h)
theorem XS {ou oq:Env}(h:oq.scope=relabel sc ou):KF oq sc:=λx k hk e=>by unfold Env.kindOf;rw[h];exact Qe2 hk e
noncomputable def QdF (scope sc:Scope):Bool :=
 scope.kind==.function&&scope.names.all λq=>q.2 != .cell&&(q.2 != .free||(sc.names.lookup q.1==some .cell&&scope.names.lookup q.1==some .free))&&(q.2 != .local||scope.names.lookup q.1==some .local)
theorem Xj {scope sc:Scope}(he:KF ou sc) (h:QdF scope sc=true):ZN scope ou:=by
 unfold QdF at h
 simp only[Bool.and_eq_true,List.all_eq_true,beq_iff_eq,bne_iff_ne,Bool.or_eq_true] at h
 obtain⟨h0,h⟩:=h
 refine⟨h0,λq hq=>(h q hq).1.1,λn hn=>?_,λx hx hl=>?_,λn hn=>?_⟩
 ·rcases(h _ hn).1.2 with z|z
  ·exact absurd rfl z
  ·exact .inl (he _ _ (by intro z;cases z) z.1)
 ·rcases(h _ hx).2 with z|z
  ·exact absurd hl z
  ·exact z
 ·rcases(h _ hn).1.2 with z|z
  ·exact absurd rfl z
  ·exact z.2
section
theorem Xa {rest:List Stmt}{k:KF_}(h:W c N ou m oh (execs rest ou) k):Qbf c N ou rest k .next m oh:=h
theorem Qgn {rest:List Stmt}{k:KF_}(h:k (.ret v) m oh):Qbf c N ou rest k (.ret v) m oh:=h
theorem X3 {st:Stmt}{rest:List Stmt}{R:Loc->Own->Prop}{k:KF_}(h1:W c N ou m oh (exec st ou) λfl m o=>fl = .next/\R m o) (h2:∀m o,R m o->W c N ou m o (execs rest ou) k):W c N ou m oh (execs (st::rest) ou) k :=
 Qm (Qk h1 λfl m o h=>by obtain⟨rfl,h⟩:=h;exact Xa (h2 m o h))
theorem A_0 {k:KL_}(h:k [] m oh):Zm c N ou [] [] k m oh:=h
theorem A_1 {e:Expr}{k:KL_}(h:W c N ou m oh (eval e ou) (kA1 k)):Zm c N ou [e] [] k m oh:=h
theorem A_2 {e f:Expr}{k:KL_}(h:W c N ou m oh (eval e ou) (kA2 c N ou f k)):Zm c N ou [e,f] [] k m oh:=h
theorem A_3 {e f g:Expr}{k:KL_}(h:W c N ou m oh (eval e ou) (kA3 c N ou f g k)):Zm c N ou [e,f,g] [] k m oh:=h
theorem Qn5 {e:Keyword}{k:KL_}(h:W c N ou m oh (eval e.value ou) λv m o=>k [v] m o):Ya c N ou [e] [] k m oh:=h
theorem Qn6 {e f:Keyword}{k:KL_}(h:W c N ou m oh (eval e.value ou) λv m o=>W c N ou m o (eval f.value ou) λu m o=>k [v,u] m o):Ya c N ou [e,f] [] k m oh:=h
theorem QgV (h:m x=some v) (hk:k v m oh) (hd:(x==("__debug__":Str))=false) (hx:(x==("__classdict__":Str))=false) :
  W c N ou m oh (eval (.Name x p) ou) k:=QgW h hk hd hx
theorem QgE (kf:KF ou sc) (hx:sc.names.lookup x=some .globalImplicit) (hg:nsIn (K03 c.w.params) mainGlobals x=some (some v)) (hk:k v m oh) (hd:(x==("__debug__":Str))=false) :
  W c N ou m oh (eval (.Name x p) ou) k:=QgD (hg) hk (kf _ _ (by intro z;cases z) hx) hd
theorem Qgu (kf:KF ou sc) (hx:sc.names.lookup x=some .globalImplicit) (hg:nsIn (K03 c.w.params) mainGlobals x=some none) (hb:bootBuiltins x=some v) (hk:k v m oh) (hn:x≠"__name__") (hd:(x==("__debug__":Str))=false) :
  W c N ou m oh (eval (.Name x p) ou) k:=Qgv (hg) hb hk (kf _ _ (by intro z;cases z) hx) hn hd
theorem Qau {q p:Pos}{e:Expr}{k:KF_}(kf:KF ou sc) (hl:sc.names.lookup x=some .local) (h:W c N ou m oh (eval e ou) (Qed x k))
  (hsw:swapsWith e (some (.Name x q)) p.line ou=pure false):W c N ou m oh (exec (.Assign [.Name x q] e p) ou) k:=Qhi (kf _ _ (by intro z;cases z) hl) h hsw
theorem Qje {b:Bool}{P Q:Prop}(hb:b=true) (h:P):(b=true->P)/\(b=false->Q):=⟨λx_=>h,λe=>(by cases hb,e)⟩
theorem Qdy {b:Bool}{P Q:Prop}(hb:b=false) (h:Q):(b=true->P)/\(b=false->Q):=⟨λe=>(by cases hb,e),λx_=>h⟩
theorem QoQ {b:Bool}{P Q:Prop}(hb:b=true) (h:P):(b=false->Q)/\(b=true->P):=⟨λe=>(by cases hb,e),λx_=>h⟩
theorem QoP {b:Bool}{P Q:Prop}(hb:b=false) (h:Q):(b=false->Q)/\(b=true->P):=⟨λx_=>h,λe=>(by cases hb,e)⟩
theorem Zv {k:KU_}(kf:KF ou sc) (hl:sc.names.lookup x=some .local) (h:k () (upd m x v) oh):W c N ou m oh (assign (.Name x p) ou v) k:=by
 show W c N ou m oh (do standAt p;bindName ou x v) k
 exact Qc (Q1 (Y2 (Y9 (kf _ _ (by intro z;cases z) hl) h)))
end
noncomputable def QaI:List (Str × Vl):=[(zz "isinstance",.builtin "isinstance"),(zz "len",.builtin "len"),(zz "list",.type "list"),(zz "str",.type "str"),(zz "dict",.type "dict"),(zz "MutableMapping",(.type "dict")),(zz "MutableSequence",(.type "list")),(zz "Sequence",(.ref 60)),(zz "Mapping",(.type "dict")),(zz "int",.type "int"),(zz "bool",.type "bool"),(zz "tuple",.type "tuple"),(zz "copied",(.ref 65)),(zz "JsonPointer",(.ref 333)),(zz "unescape",(.ref 351)),(zz "EndOfList",(.ref 167)),(zz "VERBOSE_EXCEPTIONS",(.bool false)),(zz "_NO_JOURNAL",(.ref 485)),(zz "_Journal",(.ref 537)),(zz "RemoveOperation",(.ref 680)),(zz "AddOperation",(.ref 707)),(zz "_JOURNALED_OPERATIONS",(.ref 832)),(zz "_supports_journal",(.ref 839)),(zz "JsonPatch",(.ref 945)),(zz "_json_equal",(.ref 1135)),(zz "_to_existing_last",(.ref 1276)),(zz "_undo_delitem",(.ref 555)),(zz "_undo_setitem",(.ref 548)),(zz "_undo_insert",(.ref 562)),(zz "_law_plain",(.ref 1283)),(zz "_law_names",(.ref 1284)),(zz "_law_grown",(.ref 1291)),(zz "_law_anew",(.ref 1296)),(zz "_law_value",(.ref 1303)),(zz "_law_places",(.ref 1310)),(zz "_law_taken",(.ref 1317)),(zz "_law_put",(.ref 1324)),(zz "_law_target",(.ref 1329)),(zz "_law_text",(.ref 1334)),(zz "_law_paired",(.ref 1339)),(zz "all",.builtin "all"),(zz "any",.builtin "any"),(zz "sorted",.builtin "sorted"),(zz "enumerate",.type "enumerate"),(zz "zip",.type "zip"),(zz "map",.type "map"),(zz "bytes",.type "bytes")]
theorem Qlv (P:Params):∀p∈QaI,nsIn (K03 P) mainGlobals p.1=some (some p.2)\/nsIn (K03 P) mainGlobals p.1=some none/\bootBuiltins p.1=some p.2/\p.1≠"__name__":=by
 refine fc_.mpr ⟨.inr ⟨?_,?_,?_⟩,fc_.mpr ⟨.inr ⟨?_,?_,?_⟩,fc_.mpr ⟨.inr ⟨?_,?_,?_⟩,fc_.mpr ⟨.inr ⟨?_,?_,?_⟩,fc_.mpr ⟨.inr ⟨?_,?_,?_⟩,fc_.mpr ⟨.inl ?_,fc_.mpr ⟨.inl ?_,fc_.mpr ⟨.inl ?_,fc_.mpr ⟨.inl ?_,fc_.mpr ⟨.inr ⟨?_,?_,?_⟩,fc_.mpr ⟨.inr ⟨?_,?_,?_⟩,fc_.mpr ⟨.inr ⟨?_,?_,?_⟩,fc_.mpr ⟨.inl ?_,fc_.mpr ⟨.inl ?_,fc_.mpr ⟨.inl ?_,fc_.mpr ⟨.inl ?_,fc_.mpr ⟨.inl ?_,fc_.mpr ⟨.inl ?_,fc_.mpr ⟨.inl ?_,fc_.mpr ⟨.inl ?_,fc_.mpr ⟨.inl ?_,fc_.mpr ⟨.inl ?_,fc_.mpr ⟨.inl ?_,fc_.mpr ⟨.inl ?_,fc_.mpr ⟨.inl ?_,fc_.mpr ⟨.inl ?_,fc_.mpr ⟨.inl ?_,fc_.mpr ⟨.inl ?_,fc_.mpr ⟨.inl ?_,fc_.mpr ⟨.inl ?_,fc_.mpr ⟨.inl ?_,fc_.mpr ⟨.inl ?_,fc_.mpr ⟨.inl ?_,fc_.mpr ⟨.inl ?_,fc_.mpr ⟨.inl ?_,fc_.mpr ⟨.inl ?_,fc_.mpr ⟨.inl ?_,fc_.mpr ⟨.inl ?_,fc_.mpr ⟨.inl ?_,fc_.mpr ⟨.inl ?_,fc_.mpr ⟨.inr ⟨?_,?_,?_⟩,fc_.mpr ⟨.inr ⟨?_,?_,?_⟩,fc_.mpr ⟨.inr ⟨?_,?_,?_⟩,fc_.mpr ⟨.inr ⟨?_,?_,?_⟩,fc_.mpr ⟨.inr ⟨?_,?_,?_⟩,fc_.mpr ⟨.inr ⟨?_,?_,?_⟩,fc_.mpr ⟨.inr ⟨?_,?_,?_⟩,List.forall_mem_nil _⟩⟩⟩⟩⟩⟩⟩⟩⟩⟩⟩⟩⟩⟩⟩⟩⟩⟩⟩⟩⟩⟩⟩⟩⟩⟩⟩⟩⟩⟩⟩⟩⟩⟩⟩⟩⟩⟩⟩⟩⟩⟩⟩⟩⟩⟩⟩
 all_goals first|boot_fast|(intro e;exact absurd e (by decide))|symm
theorem Qd5:∀p∈QaI,(p.1==("__debug__":Str))=false:=by ac_rfl
section
theorem QgF (kf:KF ou sc) (hx:sc.names.lookup x=some .globalImplicit) (ht:QaI.lookup x=some v) (hk:k v m oh):W c N ou m oh (eval (.Name x p) ou) k :=
 (Qlv c.w.params _ (Yo ht)).elim (λh=>QgE kf hx h hk (Qd5 _ (Yo ht))) λh=>Qgu kf hx h.1 h.2.1 hk h.2.2 (Qd5 _ (Yo ht))
end
section
def Ev (c:Cx) (N:Nat) (ou:Env) (m:Loc) (oh:Own) (e:Expr) (v:Vl):Prop:=∀k:Vl->Loc->Own->Prop,k v m oh->W c N ou m oh (eval e ou) k
theorem Qn3 (h:m x=some v) (hd:(x==("__debug__":Str))=false) (hx:(x==("__classdict__":Str))=false):Ev c N ou m oh (.Name x p) v:=λx_ hk=>QgV h hk hd hx
theorem Qn2 (kf:KF ou sc) (hx:sc.names.lookup x=some .globalImplicit) (ht:QaI.lookup x=some v):Ev c N ou m oh (.Name x p) v:=λx_ hk=>QgF kf hx ht hk
theorem Qn4:Ev c N ou m oh (.Constant .none n p) .none:=λx_ hk=>QgZ hk
theorem Qn0 {b:Bool}:Ev c N ou m oh (.Constant (.bool b) n p) (.bool b):=λx_ hk=>Qgw hk
theorem QfA {e:Expr}{k:KL_}(h:Ev c N ou m oh e v) (hk:k [v] m oh):Zm c N ou [e] [] k m oh:=A_1 (h _ hk)
theorem QfB {e f:Expr}{v u:Vl}{k:KL_}(h:Ev c N ou m oh e v) (h2:Ev c N ou m oh f u) (hk:k [v,u] m oh):Zm c N ou [e,f] [] k m oh:=A_2 (h _ (h2 _ hk))
theorem QfC {e f g:Expr}{v u x:Vl}{k:KL_}(h:Ev c N ou m oh e v) (h2:Ev c N ou m oh f u) (h3:Ev c N ou m oh g x) (hk:k [v,u,x] m oh):Zm c N ou [e,f,g] [] k m oh:=A_3 (h _ (h2 _ (h3 _ hk)))
section
variable {x:Str}{p q:Pos}{e e2 e3:Expr}{f v u t:Vl}{k:KV}
theorem Qbh {es:List Expr}(hf:Ev c N ou m oh (.Name x q) f) (h:Zm c N ou es [] (Qef c N ou f k) m oh) (hs:Zx es=true):W c N ou m oh (eval (.Call (.Name x q) es [] p) ou) k:=Qgp hs (hf _ h)
theorem Qop (hf:Ev c N ou m oh (.Name x q) f) (h1:Ev c N ou m oh e v) (hc:Q0 c oh f) (h:W c N ou m oh (call f [v]) k) (hs:Zx [e]=true):W c N ou m oh (eval (.Call (.Name x q) [e] [] p) ou) k:=Qbh hf (QfA h1 ⟨hc,h⟩) hs
theorem Qgq (hf:Ev c N ou m oh (.Name x q) f) (h1:Ev c N ou m oh e v) (h2:Ev c N ou m oh e2 u) (hc:Q0 c oh f) (h:W c N ou m oh (call f [v,u]) k) (hs:Zx [e,e2]=true):W c N ou m oh (eval (.Call (.Name x q) [e,e2] [] p) ou) k:=Qbh hf (QfB h1 h2 ⟨hc,h⟩) hs
theorem Qoq (hf:Ev c N ou m oh (.Name x q) f) (h1:Ev c N ou m oh e v) (h2:Ev c N ou m oh e2 u) (h3:Ev c N ou m oh e3 t) (hc:Q0 c oh f) (h:W c N ou m oh (call f [v,u,t]) k) (hs:Zx [e,e2,e3]=true):W c N ou m oh (eval (.Call (.Name x q) [e,e2,e3] [] p) ou) k:=Qbh hf (QfC h1 h2 h3 ⟨hc,h⟩) hs
theorem Qos {op:CmpOp}(h1:Ev c N ou m oh e v) (h2:Ev c N ou m oh e2 u) (h:W c N ou m oh (compareOp op v u) k) (hm:behindInMarks op e2=false):W c N ou m oh (eval (.Compare e [op] [e2] p) ou) k:=QcQ (h1 _ (h2 _ h)) hm
theorem Qot {op:CmpOp}(h1:Ev c N ou m oh e v) (h:W c N ou m oh (eval e2 ou) (QbR c N ou op k v)) (hm:behindInMarks op e2=false):W c N ou m oh (eval (.Compare e [op] [e2] p) ou) k:=QcQ (h1 _ h) hm
theorem Qon {op:Operator}(h1:Ev c N ou m oh e v) (h2:Ev c N ou m oh e2 u) (h:W c N ou m oh (binaryOp op v u) k):W c N ou m oh (eval (.BinOp e op e2 p) ou) k:=QcP (h1 _ (h2 _ h))
theorem Qoo {op:Operator}(h1:Ev c N ou m oh e v) (h:W c N ou m oh (eval e2 ou) (Qee c N ou op k v)):W c N ou m oh (eval (.BinOp e op e2 p) ou) k:=QcP (h1 _ h)
theorem Qoy (h1:Ev c N ou m oh e v) (h2:Ev c N ou m oh e2 u) (h:W c N ou m oh (getitemInPython v) (Qek c N ou e2 k v u)):W c N ou m oh (eval (.Subscript e e2 p) ou) k:=QcU (h1 _ (h2 _ h))
theorem Qoz (h1:Ev c N ou m oh e v) (h:W c N ou m oh (eval e2 ou) (Qej c N ou e2 k v)):W c N ou m oh (eval (.Subscript e e2 p) ou) k:=QcU (h1 _ h)
theorem Qom (h1:Ev c N ou m oh e v) (h:W c N ou m oh (getAttr v x true) k) (aM:attributeBase e x ou (eval e ou)=eval e ou):W c N ou m oh (eval (.Attribute e x p) ou) k:=Qgo (h1 _ h) aM
theorem Qow {es:List Expr}(hs:Zx es=true) (h1:Ev c N ou m oh e v)
  (h:ZB c N ou m oh v x (Qeh c N ou es k))
  (aM:attributeBase e x ou (eval e ou)=eval e ou) (aY:(q.endLine==p.line)=true) (hn:es.length < 30):W c N ou m oh (eval (.Call (.Attribute e x q) es [] p) ou) k:=Qbj hs (h1 _ h) aM aY hn
end
theorem Qoc {l r:Expr}{op:CmpOp}{v u:Vl}{t:Sem Vl}{k:KB_}(h1:Ev c N ou m oh l v) (h2:Ev c N ou m oh r u) (h:W c N ou m oh (compareOp op v u) (QaK c N ou k)) (hm:behindInMarks op r=false):W c N ou m oh (isTrue (.Compare l [op] [r] p) ou t) k:=QcN (h1 _ (h2 _ h)) hm
theorem Qod {l r:Expr}{op:CmpOp}{t:Sem Vl}{k:KB_}(h1:Ev c N ou m oh l v) (h:W c N ou m oh (eval r ou) (QbR c N ou op (QaK c N ou k) v)) (hm:behindInMarks op r=false):W c N ou m oh (isTrue (.Compare l [op] [r] p) ou t) k:=QcN (h1 _ h) hm
theorem Qgl {e:Expr}{k:KB_}(h1:Ev c N ou m oh e v) (h:W c N ou m oh (truthy v) k) (he:isTrue e ou (eval e ou)=(do let v <- eval e ou;standAt e.pos;holding [v] (truthy v))):W c N ou m oh (isTrue e ou (eval e ou)) k:=Qgk (h1 _ h) he
theorem Qhl {e:Expr}{k:KF_}(h1:Ev c N ou m oh e v) (h:k (.ret v) m oh):W c N ou m oh (exec (.Return (some e) p) ou) k:=Qdr (h1 _ h)
theorem Qhg {q p:Pos}{e:Expr}{k:KF_}(kf:KF ou sc) (hl:sc.names.lookup x=some .local) (h1:Ev c N ou m oh e v) (h:k .next (upd m x v) oh)
  (hsw:swapsWith e (some (.Name x q)) p.line ou=pure false):W c N ou m oh (exec (.Assign [.Name x q] e p) ou) k:=Qau kf hl (h1 _ h) hsw
end
section
def Rc (c:Cx) (N:Nat) (ou:Env) (m:Loc) (oh:Own) (f:Vl) (vs:List Vl) (r:Vl):Prop:=∀k:Vl->Loc->Own->Prop,k r m oh->W c N ou m oh (call f vs []) k
theorem Qn9 {kd:Kd}(h:Qv oh v kd):Rc c N ou m oh (.builtin "isinstance") [v,.type "list"] (.bool kd.isL):=λx_ hk=>Qdc h hk
theorem Qn7 {kd:Kd}(h:Qv oh v kd):Rc c N ou m oh (.builtin "isinstance") [v,.type "dict"] (.bool kd.isD):=λx_ hk=>Qdb h hk
theorem ZA.kd (h:ZA v):∃kd,Qv oh v kd/\kd.isL=false/\kd.isD=false:=by
 cases h<;>exact⟨_,by constructor,rfl,rfl⟩
theorem QgM (h:ZA v) (hk:k (.bool false) m oh):W c N ou m oh (call (.builtin "isinstance") [v,.type "list"]) k:=by
 obtain⟨kd,h1,h2,_⟩:=h.kd (oh:=oh)
 exact Qdc h1 (h2▸hk)
theorem QgL (h:ZA v) (hk:k (.bool false) m oh):W c N ou m oh (call (.builtin "isinstance") [v,.type "dict"]) k:=by
 obtain⟨kd,h1,_,h2⟩:=h.kd (oh:=oh)
 exact Qdb h1 (h2▸hk)
theorem Qoa (h:ZA v):Rc c N ou m oh (.builtin "isinstance") [v,.type "list"] (.bool false):=λx_ hk=>QgM h hk
theorem Qn8 (h:ZA v):Rc c N ou m oh (.builtin "isinstance") [v,.type "dict"] (.bool false):=λx_ hk=>QgL h hk
theorem Qn1 {p q:Pos}{e e2:Expr}{f v u r:Vl}(hf:Ev c N ou m oh (.Name x q) f) (h1:Ev c N ou m oh e v) (h2:Ev c N ou m oh e2 u) (hc:Q0 c oh f) (hr:Rc c N ou m oh f [v,u] r) (hs:Zx [e,e2]=true):Ev c N ou m oh (.Call (.Name x q) [e,e2] [] p) r:=λx_ hk=>Qgq hf h1 h2 hc (hr _ hk) hs
def Tst (c:Cx) (N:Nat) (ou:Env) (m:Loc) (oh:Own) (e:Expr) (b:Bool):Prop:=∀k:Bool->Loc->Own->Prop,k b m oh->W c N ou m oh (isTrue e ou (eval e ou)) k
def QcO (c:Cx) (N:Nat) (ou:Env) (m:Loc) (oh:Own) (op:BoolOp) (es:List Expr) (b:Bool):Prop:=∀k:Bool->Loc->Own->Prop,k b m oh->W c N ou m oh (allTrue op es ou) k
section
variable {t e:Expr}{r:List Expr}{p:Pos}{x y:Bool}{b o:List Stmt}
theorem Qoj (h:Ev c N ou m oh e (.bool x)) (he:isTrue e ou (eval e ou)=(do let v <- eval e ou;standAt e.pos;holding [v] (truthy v))):Tst c N ou m oh e x:=λx_ hk=>Qgl h (Qgj hk) he
theorem Qoi {op:BoolOp}(h:QcO c N ou m oh op r x):Tst c N ou m oh (.BoolOp op r p) x:=λx_ hk=>Qgi (h _ hk)
theorem Qoh (h:Tst c N ou m oh e x) (hb:x=false):QcO c N ou m oh .And (e::r) false:=λx_ hk=>Qgh (h _ (Qdy hb hk))
theorem QoM {k:KF_}(h:Tst c N ou m oh t x) (hb:x=true) (hk:W c N ou m oh (execs b ou) k):W c N ou m oh (exec (.If t b o p) ou) k:=X1 (h _ (Qje hb hk))
theorem Qhk {k:KF_}(h:Tst c N ou m oh t x) (hb:x=false) (hk:W c N ou m oh (execs o ou) k):W c N ou m oh (exec (.If t b o p) ou) k:=X1 (h _ (Qdy hb hk))
end
end
section
variable {x:Str}{q p:Pos}{e t:Expr}{v:Vl}{y:Bool}{b rest:List Stmt}{k:KF_}
theorem QoF (kf:KF ou sc) (hl:sc.names.lookup x=some .local) (h1:Ev c N ou m oh e v) (h:W c N ou (upd m x v) oh (execs rest ou) k) (hsw:swapsWith e (some (.Name x q)) p.line ou=pure false):W c N ou m oh (execs (.Assign [.Name x q] e p::rest) ou) k:=Qm (Qhg kf hl h1 (Xa h) hsw)
theorem QoG (kf:KF ou sc) (hl:sc.names.lookup x=some .local) (h:W c N ou m oh (eval e ou) (Ql2 c N ou x rest k)) (hsw:swapsWith e (some (.Name x q)) p.line ou=pure false):W c N ou m oh (execs (.Assign [.Name x q] e p::rest) ou) k:=Qm (Qau kf hl h hsw)
theorem QoI (h1:Ev c N ou m oh e v) (h:k (.ret v) m oh):W c N ou m oh (execs (.Return (some e) p::rest) ou) k:=Qm (Qhl h1 (Qgn h))
theorem QoJ (h:W c N ou m oh (eval e ou) (Qei k)):W c N ou m oh (execs (.Return (some e) p::rest) ou) k:=Qm (Qdr h)
theorem QoH (h:Tst c N ou m oh t y) (hb:y=false) (hk:W c N ou m oh (execs rest ou) k):W c N ou m oh (execs (.If t b [] p::rest) ou) k:=Qm (Qhk h hb (ZV (Xa hk)))
end
section
theorem St.tok (S:St c ou m oh fr s) (t:Nat):St c ou m oh fr { s with toks:=t }:=⟨S.sg.tok t,S.fm,S.dl⟩
theorem Q6 {α:Type}{t:Sem α}{a:α}{k:α->Loc->Own->Prop}(h:∀A s fr (Q:α->Sh->Prop),Qu N A->St c ou m oh fr s->0 < s.toks->(∀tk,Q a { s with toks:=tk })->wA (model c.prog c.w) A t Q F0 s) (hk:k a m oh):W c N ou m oh t k :=
 λA s fr Q hA S P hQ=>h A s fr Q hA S P λtk=>hQ a m oh _ hk (S.tok tk)
theorem Qcu {α:Type}{t:Sem α}{a:α}{k:α->Own->Prop}(h:∀A s fr (Q:α->Sh->Prop),Qu N A->Sg c oh fr s->0 < s.toks->(∀tk,Q a { s with toks:=tk })->wA (model c.prog c.w) A t Q F0 s) (hk:k a oh):CW c N oh t k :=
 λA s fr Q hA S P hQ=>h A s fr Q hA S P λtk=>hQ a oh _ hk (S.tok tk)
theorem Y4 {T:String}{k:KB_}(h:oh a=some o) (hT:o.cls = .type T) (hs:T = "list"\/T = "dict"\/T = "tuple") (hk:k false m oh):W c N ou m oh (getitemInPython (.ref a)) k:=by
 refine Q6 (a:=false) (λA s fr Q hA S P hQ=>?_) hk
 rw[getitemInPython_of_ne (by intro e;cases e)]
 have hty:s.TypeIs (.ref a) T:=⟨o,S.sg.has _ _ h,hT⟩
 rcases hs with rfl|rfl|rfl
 ·exact wb9 (wpAny_specialOf hty F.slot_list_getitem.lookup (wp_ (hQ _)))
 ·exact wb9 (wpAny_specialOf hty F.slot_dict_getitem.lookup (wp_ (hQ _)))
 ·exact wb9 (wpAny_specialOf hty F.slot_tuple_getitem.lookup (wp_ (hQ _)))
theorem Zs {oj:LV}{se:Expr}(h:oh a=some o) (hd:IsD c o oj) (hv:valueAt oj x=some v) (hk:k v m oh)
  (hs:subscripted se false (.ref a) (.str x t)=operate [.ref a,.str x t] (getItem (.ref a) (.str x t)):=by rfl) :
  W c N ou m oh (getitemInPython (.ref a)) λb m w=>W c N ou m w (subscripted se b (.ref a) (.str x t)) k:=by
 have hcls:o.cls = .type "dict":=by obtain⟨es,ep,h2,_⟩:=hd;exact h2.1
 refine Y4 h hcls (.inr (.inl rfl)) ?_
 rw[hs]
 refine XZ (Q6 (a:=v) (λA s fr Q hA S P hQ=>?_) hk)
 exact wpAny_getItem_of (knd:=strKind c.prog c.w) (strKind_is _ _ x t) (S.sg.dct h hd).mapOf hv (hQ _)
theorem Qao {se:Expr}(h:oh a=some (lst xs n)) (hv:xs[i]?=some v) (hi:i < 2 ^ 60) (hk:k v m oh)
  (hs:subscripted se false (.ref a) (.int i t)=operate [.ref a,.int i t] (getItem (.ref a) (.int i t)):=by rfl) :
  W c N ou m oh (getitemInPython (.ref a)) λb m w=>W c N ou m w (subscripted se b (.ref a) (.int i t)) k:=by
 refine Y4 h rfl (.inl rfl) ?_
 rw[hs]
 refine XZ (Q6 (a:=v) (λA s fr Q hA S P hQ=>?_) hk)
 exact wpAny_getItem_list (S.sg.lst h) (by omega) (by have:(i:Int) < 2 ^ 60:=(by exact_mod_cast hi);omega) (by simpa using hv) (hQ s.toks)
end
section
variable {k:KO}
abbrev Bd (c:Cx) (N:Nat) (oh:Own) (fd:Fd_) (b:List Stmt) (bs:LV) (k:KO):Prop:=∀ou,KF ou fd.scope->W c N ou (λx=>bs.reverse.lookup x) oh (execs b ou) λfl x_ o=>k (YP fl) o
abbrev Bdc (c:Cx) (N:Nat) (oh:Own) (fd:Fd_) (b:List Stmt) (bs:LV) (k:KO):Prop:=∀ou,KF ou fd.scope->ou.code=fd.code->W c N ou (λx=>bs.reverse.lookup x) oh (execs b ou) λfl x_ o=>k (YP fl) o
section
variable {f:Ad}{fd:Fd_}{b:List Stmt}{args:Args}{bs:LV}{pos:List Vl}{kw:LV}
structure Qaf (c:Cx) (f:Ad) (fd:Fd_) (b:List Stmt) (args:Args) (bs:LV):Prop where
 bind:∀s,c.K.In s.heap->BindsTo s fd args bs
 at_:(K03 c.w.params).lookup f=some ⟨.type "function",none,.func fd,#[]⟩
 code:codeIn (K03 c.w.params) fd.code fd.qualname=true
 kinds:(bs.all λy=>fd.scope.names.lookup y.1==some .local||fd.scope.names.lookup y.1==some .cell)=true
 noFree:fd.scope.names.all (λq=>q.2 != .free)=true
 body:fd.body = .stmts b
 clo:fd.closure=[]
 gl:fd.globals=mainGlobals
 bt:fd.builtins=builtinsNs
 co:fd.scope.isCoroutine=false
 gen:fd.scope.isGenerator=false
 kind:fd.scope.kind = .function
theorem QdV (h:Bdc c N oh fd b bs k) (F:Qaf c f fd b args bs):CC c (N+1) oh (.call (.ref f) args) k :=
 QfL (F.at_) F.body F.clo F.gl F.bt (F.code) F.bind F.kinds F.noFree F.co F.gen F.kind λou hsc hcd=>h ou (qJ hsc) hcd
theorem fnC (h:Bd c N oh fd b bs k) (F:Qaf c f fd b args bs):CC c (N+1) oh (.call (.ref f) args) k:=QdV (λou kf x_=>h ou kf) F
theorem QoV (h:Bdc c N oh fd b bs k) (F:Qaf c f fd b ⟨pos,kw⟩ bs):CW c (N+1) oh (call (.ref f) pos kw) k:=Qa0 (args:=⟨pos,kw⟩) (QdV h F)
theorem fnW (h:Bd c N oh fd b bs k) (F:Qaf c f fd b ⟨pos,kw⟩ bs):CW c (N+1) oh (call (.ref f) pos kw) k:=Qa0 (args:=⟨pos,kw⟩) (fnC h F)
end
end
theorem QoN {fd:Fd_}{args:Args}{bs:LV}(h:bindArgs fd args=pure bs):∀s:Sh,c.K.In s.heap->BindsTo s fd args bs:=λx_ x_=>BindsTo.of_eq h
theorem QoO {fd:Fd_}{args:Args}{bs:LV}{T:Ad}{items:Array Vl}{k:Option (Array Vl)->Sem (List (Str × Vl))}(hd:fd.defaults = .ref T) (ho:c.K.lookup T=some o) (hs:o.data = .seq items n)
  (h₁:bindArgs fd args=seqItems? fd.defaults >>= k) (h₂:k (some items)=pure bs):∀s:Sh,c.K.In s.heap->BindsTo s fd args bs:=λx_ X=>binds_K X hd ho hs h₁ h₂
section
variable {k:KO}
noncomputable abbrev QkX:Fd_:=QZ (Ql 7) (zz "copied") .none .none .none (.str (zz "jsonrows") 390) none (.ref 64) .none
theorem Qjp:Q0 c oh (.ref 65):=Zg (by symm)
theorem Qj8 {v0:Vl}(h:Bd c N oh QkX (Qy (Ql 7)) [(zz "value",v0)] k):CW c (N+1) oh (call (.ref 65) [v0] []) k:=by walk_at "fn"
noncomputable abbrev QkL:Fd_:=QZ (Qb 19 2) (zz "JsonPointer.__init__") .none .none .none (.str (zz "jsonpointer") 498) none (.ref 182) .none
theorem QjT {v0 v1:Vl}(h:Bd c N oh QkL (Qy (Qb 19 2)) [(zz "self",v0),(zz "pointer",v1)] k):CC c (N+1) oh (.call (.ref 183) ⟨[v0,v1],[]⟩) k:=by walk_at "fn"
noncomputable abbrev QkO:Fd_:=QZ (Qb 19 3) (zz "JsonPointer.to_last") .none .none .none (.str (zz "jsonpointer") 498) none (.ref 189) .none
theorem QdM {v0 v1:Vl}(h:Bd c N oh QkO (Qy (Qb 19 3)) [(zz "self",v0),(zz "doc",v1)] k):CW c (N+1) oh (call (.ref 190) [v0,v1] []) k:=by walk_at "fn"
noncomputable abbrev QkN:Fd_:=QZ (Qb 19 10) (zz "JsonPointer.get_part") .none .none .none (.str (zz "jsonpointer") 498) (some 246) (.ref 242) .none
theorem QjU {v0 v1 v2:Vl}(h:Bd c N oh QkN (Qy (Qb 19 10)) [(zz "cls",v0),(zz "doc",v1),(zz "part",v2)] k):CC c (N+1) oh (.call (.ref 243) ⟨[v0,v1,v2],[]⟩) k:=by walk_at "fn"
noncomputable abbrev QkP:Fd_:=QZ (Qb 19 12) (zz "JsonPointer.walk") .none .none .none (.str (zz "jsonpointer") 498) none (.ref 259) .none
theorem Qj2 {v0 v1 v2:Vl}(h:Bd c N oh QkP (Qy (Qb 19 12)) [(zz "self",v0),(zz "doc",v1),(zz "part",v2)] k):CW c (N+1) oh (call (.ref 260) [v0,v1,v2] []) k:=by walk_at "fn"
noncomputable abbrev QkM:Fd_:=QZ (Qb 19 13) (zz "JsonPointer.contains") .none .none .none (.str (zz "jsonpointer") 498) none (.ref 266) .none
theorem Qj1 {v0 v1:Vl}(h:Bd c N oh QkM (Qy (Qb 19 13)) [(zz "self",v0),(zz "ptr",v1)] k):CW c (N+1) oh (call (.ref 267) [v0,v1] []) k:=by walk_at "fn"
noncomputable abbrev QkK:Fd_:=QZ (Qb 19 18) (zz "JsonPointer.__eq__") .none .none .none (.str (zz "jsonpointer") 498) none (.ref 300) .none
theorem QjS {v0 v1:Vl}(h:Bd c N oh QkK (Qy (Qb 19 18)) [(zz "self",v0),(zz "other",v1)] k):CC c (N+1) oh (.call (.ref 301) ⟨[v0,v1],[]⟩) k:=by walk_at "fn"
noncomputable abbrev Qli:Fd_:=QZ (Ql 21) (zz "unescape") .none .none .none (.str (zz "jsonpointer") 498) none (.ref 350) .none
theorem Qkr {v0:Vl}(h:Bd c N oh Qli (Qy (Ql 21)) [(zz "s",v0)] k):CW c (N+1) oh (call (.ref 351) [v0] []) k:=by walk_at "fn"
noncomputable abbrev Qk6:Fd_:=QZ (Qb 32 0) (zz "_NullJournal.setitem") .none .none .none (.str (zz "jsonpatch") 904) (some 446) (.ref 442) .none
theorem Qjh:Q0 c oh (.ref 443):=Zg (by symm)
theorem Qkg {v0 v1 v2:Vl}(h:Bd c N oh Qk6 (Qy (Qb 32 0)) [(zz "container",v0),(zz "key",v1),(zz "value",v2)] k):CW c (N+1) oh (call (.ref 443) [v0,v1,v2] []) k:=by walk_at "fn"
noncomputable abbrev Qk4:Fd_:=QZ (Qb 32 1) (zz "_NullJournal.delitem") .none .none .none (.str (zz "jsonpatch") 904) (some 456) (.ref 452) .none
theorem Qji:Q0 c oh (.ref 453):=Zg (by symm)
theorem Qke {v0 v1:Vl}(h:Bd c N oh Qk4 (Qy (Qb 32 1)) [(zz "container",v0),(zz "key",v1)] k):CW c (N+1) oh (call (.ref 453) [v0,v1] []) k:=by walk_at "fn"
noncomputable abbrev Qk5:Fd_:=QZ (Qb 32 2) (zz "_NullJournal.insert") .none .none .none (.str (zz "jsonpatch") 904) (some 466) (.ref 462) .none
theorem Qjj:Q0 c oh (.ref 463):=Zg (by symm)
theorem Qkf {v0 v1 v2:Vl}(h:Bd c N oh Qk5 (Qy (Qb 32 2)) [(zz "container",v0),(zz "index",v1),(zz "value",v2)] k):CW c (N+1) oh (call (.ref 463) [v0,v1,v2] []) k:=by walk_at "fn"
noncomputable abbrev Qk3:Fd_:=QZ (Qb 32 3) (zz "_NullJournal.append") .none .none .none (.str (zz "jsonpatch") 904) (some 476) (.ref 472) .none
theorem Qjk:Q0 c oh (.ref 473):=Zg (by symm)
theorem Qkd {v0 v1:Vl}(h:Bd c N oh Qk3 (Qy (Qb 32 3)) [(zz "container",v0),(zz "value",v1)] k):CW c (N+1) oh (call (.ref 473) [v0,v1] []) k:=by walk_at "fn"
noncomputable abbrev QkY:Fd_:=QZ (Qb 34 0) (zz "_Journal.__init__") .none .none .none (.str (zz "jsonpatch") 904) none (.ref 498) .none
theorem QjW {v0:Vl}(h:Bd c N oh QkY (Qy (Qb 34 0)) [(zz "self",v0)] k):CC c (N+1) oh (.call (.ref 499) ⟨[v0],[]⟩) k:=by walk_at "fn"
noncomputable abbrev Qk2:Fd_:=QZ (Qb 34 1) (zz "_Journal.setitem") .none .none .none (.str (zz "jsonpatch") 904) none (.ref 505) .none
theorem Qjl:Q0 c oh (.ref 506):=Zg (by symm)
theorem Qkc {v0 v1 v2 v3:Vl}(h:Bd c N oh Qk2 (Qy (Qb 34 1)) [(zz "self",v0),(zz "container",v1),(zz "key",v2),(zz "value",v3)] k):CW c (N+1) oh (call (.ref 506) [v0,v1,v2,v3] []) k:=by walk_at "fn"
noncomputable abbrev Qk0:Fd_:=QZ (Qb 34 2) (zz "_Journal.delitem") .none .none .none (.str (zz "jsonpatch") 904) none (.ref 512) .none
theorem Qjm:Q0 c oh (.ref 513):=Zg (by symm)
theorem Qka {v0 v1 v2:Vl}(h:Bdc c N oh Qk0 (Qy (Qb 34 2)) [(zz "self",v0),(zz "container",v1),(zz "key",v2)] k):CW c (N+1) oh (call (.ref 513) [v0,v1,v2] []) k:=by walk_at "fn"
noncomputable abbrev Qk1:Fd_:=QZ (Qb 34 3) (zz "_Journal.insert") .none .none .none (.str (zz "jsonpatch") 904) none (.ref 519) .none
theorem Qjn:Q0 c oh (.ref 520):=Zg (by symm)
theorem Qkb {v0 v1 v2 v3:Vl}(h:Bd c N oh Qk1 (Qy (Qb 34 3)) [(zz "self",v0),(zz "container",v1),(zz "index",v2),(zz "value",v3)] k):CW c (N+1) oh (call (.ref 520) [v0,v1,v2,v3] []) k:=by walk_at "fn"
noncomputable abbrev QkZ:Fd_:=QZ (Qb 34 4) (zz "_Journal.append") .none .none .none (.str (zz "jsonpatch") 904) none (.ref 526) .none
theorem Qjo:Q0 c oh (.ref 527):=Zg (by symm)
theorem Qj9 {v0 v1 v2:Vl}(h:Bd c N oh QkZ (Qy (Qb 34 4)) [(zz "self",v0),(zz "container",v1),(zz "value",v2)] k):CW c (N+1) oh (call (.ref 527) [v0,v1,v2] []) k:=by walk_at "fn"
noncomputable abbrev QkS:Fd_:=QZ (Qb 39 0) (zz "PatchOperation.__init__") (.ref 575) .none .none (.str (zz "jsonpatch") 904) none (.ref 581) .none
theorem QjV {v0 v1 v2:Vl}(h:Bd c N oh QkS (Qy (Qb 39 0)) [(zz "self",v0),(zz "operation",v1),(zz "pointer_cls",v2)] k):CC c (N+1) oh (.call (.ref 582) ⟨[v0,v1],[(zz "pointer_cls",v2)]⟩) k:=by walk_at "fn"
noncomputable abbrev QkR:Fd_:=QZ (Qb 39 1) (zz "PatchOperation._from_pointer") .none .none .none (.str (zz "jsonpatch") 904) none (.ref 588) .none
theorem Qj4 {v0:Vl}(h:Bd c N oh QkR (Qy (Qb 39 1)) [(zz "self",v0)] k):CW c (N+1) oh (call (.ref 589) [v0] []) k:=by walk_at "fn"
noncomputable abbrev QkT:Fd_:=QZ (Qb 39 2) (zz "PatchOperation.apply") .none .none .none (.str (zz "jsonpatch") 904) none (.ref 595) .none
theorem Qj5 {v0 v1:Vl}(h:Bd c N oh QkT (Qy (Qb 39 2)) [(zz "self",v0),(zz "obj",v1)] k):CW c (N+1) oh (call (.ref 596) [v0,v1] []) k:=by walk_at "fn"
noncomputable abbrev QkU:Fd_:=QZ (Qb 40 0) (zz "RemoveOperation._apply") .none .none .none (.str (zz "jsonpatch") 904) none (.ref 676) .none
theorem Qjq:Q0 c oh (.ref 677):=Zg (by symm)
theorem Qj6 {v0 v1 v2:Vl}(h:Bd c N oh QkU (Qy (Qb 40 0)) [(zz "self",v0),(zz "obj",v1),(zz "journal",v2)] k):CW c (N+1) oh (call (.ref 677) [v0,v1,v2] []) k:=by walk_at "fn"
noncomputable abbrev QkE:Fd_:=QZ (Qb 41 0) (zz "AddOperation._apply") .none .none .none (.str (zz "jsonpatch") 904) none (.ref 695) .none
theorem Qjr:Q0 c oh (.ref 696):=Zg (by symm)
theorem QjY {v0 v1 v2:Vl}(h:Bd c N oh QkE (Qy (Qb 41 0)) [(zz "self",v0),(zz "obj",v1),(zz "journal",v2)] k):CW c (N+1) oh (call (.ref 696) [v0,v1,v2] []) k:=by walk_at "fn"
noncomputable abbrev QbK:Fd_:=QZ (Qb 41 1) (zz "AddOperation._add") (.ref 697) .none .none (.str (zz "jsonpatch") 904) none (.ref 703) .none
theorem QjX {v0 v1 v2:Vl}(h:Bd c N oh QbK (Qy (Qb 41 1)) [(zz "self",v0),(zz "obj",v1),(zz "value",v2),(zz "journal",(.ref 485))] k):CW c (N+1) oh (call (.ref 704) [v0,v1,v2] []) k:=by walk_at "fn"
theorem QbH {v0 v1 v2 v3:Vl}(h:Bd c N oh QbK (Qy (Qb 41 1)) [(zz "self",v0),(zz "obj",v1),(zz "value",v2),(zz "journal",v3)] k):CW c (N+1) oh (call (.ref 704) [v0,v1,v2,v3] []) k:=by walk_at "fn"
noncomputable abbrev QkV:Fd_:=QZ (Qb 42 0) (zz "ReplaceOperation._apply") .none .none .none (.str (zz "jsonpatch") 904) none (.ref 722) .none
theorem QdA:Q0 c oh (.ref 723):=Zg (by symm)
theorem QdN {v0 v1 v2:Vl}(h:Bd c N oh QkV (Qy (Qb 42 0)) [(zz "self",v0),(zz "obj",v1),(zz "journal",v2)] k):CW c (N+1) oh (call (.ref 723) [v0,v1,v2] []) k:=by walk_at "fn"
noncomputable abbrev QkQ:Fd_:=QZ (Qb 43 0) (zz "MoveOperation._apply") .none .none .none (.str (zz "jsonpatch") 904) none (.ref 741) .none
theorem Qjs:Q0 c oh (.ref 742):=Zg (by symm)
theorem Qj3 {v0 v1 v2:Vl}(h:Bd c N oh QkQ (Qy (Qb 43 0)) [(zz "self",v0),(zz "obj",v1),(zz "journal",v2)] k):CW c (N+1) oh (call (.ref 742) [v0,v1,v2] []) k:=by walk_at "fn"
noncomputable abbrev QkW:Fd_:=QZ (Qb 44 0) (zz "TestOperation._apply") .none .none .none (.str (zz "jsonpatch") 904) none (.ref 799) .none
theorem Qjt:Q0 c oh (.ref 800):=Zg (by symm)
theorem Qj7 {v0 v1 v2:Vl}(h:Bd c N oh QkW (Qy (Qb 44 0)) [(zz "self",v0),(zz "obj",v1),(zz "journal",v2)] k):CW c (N+1) oh (call (.ref 800) [v0,v1,v2] []) k:=by walk_at "fn"
noncomputable abbrev QkF:Fd_:=QZ (Qb 45 0) (zz "CopyOperation._apply") .none .none .none (.str (zz "jsonpatch") 904) none (.ref 818) .none
theorem Qju:Q0 c oh (.ref 819):=Zg (by symm)
theorem QjZ {v0 v1 v2:Vl}(h:Bd c N oh QkF (Qy (Qb 45 0)) [(zz "self",v0),(zz "obj",v1),(zz "journal",v2)] k):CW c (N+1) oh (call (.ref 819) [v0,v1,v2] []) k:=by walk_at "fn"
noncomputable abbrev Qlj:Fd_:=QZ (Ql 48) (zz "_supports_journal") .none .none .none (.str (zz "jsonpatch") 904) none (.ref 838) .none
theorem Qks {v0:Vl}(h:Bd c N oh Qlj (Qy (Ql 48)) [(zz "operation",v0)] k):CW c (N+1) oh (call (.ref 839) [v0] []) k:=by walk_at "fn"
noncomputable abbrev QkI:Fd_:=QZ (Qb 49 2) (zz "JsonPatch.__init__") (.ref 858) .none .none (.str (zz "jsonpatch") 904) none (.ref 864) .none
theorem QjR {v0 v1:Vl}(h:Bd c N oh QkI (Qy (Qb 49 2)) [(zz "self",v0),(zz "patch",v1),(zz "pointer_cls",(.ref 333))] k):CC c (N+1) oh (.call (.ref 865) ⟨[v0,v1],[]⟩) k:=by walk_at "fn"
noncomputable abbrev QkH:Fd_:=QZ (Qb 49 10) (zz "JsonPatch._ops") .none .none .none (.str (zz "jsonpatch") 904) none (.ref 925) .none
theorem QjQ {v0:Vl}(h:Bd c N oh QkH (Qy (Qb 49 10)) [(zz "self",v0)] k):CC c (N+1) oh (.call (.ref 926) ⟨[v0],[]⟩) k:=by walk_at "fn"
noncomputable abbrev QkJ:Fd_:=QZ (Qb 49 11) (zz "JsonPatch.apply") (.ref 928) .none .none (.str (zz "jsonpatch") 904) none (.ref 934) .none
theorem Qj0 {v0 v1 v2 v3:Vl}(h:Bd c N oh QkJ (Qy (Qb 49 11)) [(zz "self",v0),(zz "obj",v1),(zz "in_place",v2),(zz "atomic",v3)] k):CW c (N+1) oh (call (.ref 935) [v0,v1] [(zz "in_place",v2),(zz "atomic",v3)]) k:=by walk_at "fn"
noncomputable abbrev QkG:Fd_:=QZ (Qb 49 12) (zz "JsonPatch._get_operation") .none .none .none (.str (zz "jsonpatch") 904) none (.ref 941) .none
theorem QjP {v0 v1:Vl}(h:Bd c N oh QkG (Qy (Qb 49 12)) [(zz "self",v0),(zz "operation",v1)] k):CC c (N+1) oh (.call (.ref 942) ⟨[v0,v1],[]⟩) k:=by walk_at "fn"
noncomputable abbrev Qk7:Fd_:=QZ (Ql 53) (zz "_json_equal") .none .none .none (.str (zz "jsonpatch") 904) none (.ref 1134) .none
theorem Qjg:Q0 c oh (.ref 1135):=Zg (by symm)
theorem Qkh {v0 v1:Vl}(h:Bdc c N oh Qk7 (Qy (Ql 53)) [(zz "first",v0),(zz "second",v1)] k):CW c (N+1) oh (call (.ref 1135) [v0,v1] []) k:=by walk_at "fn"
noncomputable abbrev Qlk:Fd_:=QZ (Ql 63) (zz "_to_existing_last") .none .none .none (.str (zz "jsonpatch") 904) none (.ref 1275) .none
theorem QdP {v0 v1:Vl}(h:Bd c N oh Qlk (Qy (Ql 63)) [(zz "pointer",v0),(zz "doc",v1)] k):CW c (N+1) oh (call (.ref 1276) [v0,v1] []) k:=by walk_at "fn"
noncomputable abbrev Qlc:Fd_:=QZ (Ql 65) (zz "_law_plain") .none .none .none (.str (zz "law_ay0028_03") 2276) none (.ref 1282) .none
theorem Qkm (h:Bd c N oh Qlc (Qy (Ql 65)) [] k):CW c (N+1) oh (call (.ref 1283) [] []) k:=by walk_at "fn"
noncomputable abbrev Qk9:Fd_:=QZ (Ql 67) (zz "_law_grown") .none .none .none (.str (zz "law_ay0028_03") 2276) none (.ref 1290) .none
theorem Qkj {v0 v1:Vl}(h:Bd c N oh Qk9 (Qy (Ql 67)) [(zz "root",v0),(zz "numbers",v1)] k):CW c (N+1) oh (call (.ref 1291) [v0,v1] []) k:=by walk_at "fn"
noncomputable abbrev Qk8:Fd_:=QZ (Ql 68) (zz "_law_anew") .none .none .none (.str (zz "law_ay0028_03") 2276) none (.ref 1295) .none
theorem Qki {v0:Vl}(h:Bd c N oh Qk8 (Qy (Ql 68)) [(zz "value",v0)] k):CW c (N+1) oh (call (.ref 1296) [v0] []) k:=by walk_at "fn"
noncomputable abbrev Qlh:Fd_:=QZ (Ql 69) (zz "_law_value") .none .none .none (.str (zz "law_ay0028_03") 2276) none (.ref 1302) .none
theorem Qkq {v0:Vl}(h:Bd c N oh Qlh (Qy (Ql 69)) [(zz "number",v0)] k):CW c (N+1) oh (call (.ref 1303) [v0] []) k:=by walk_at "fn"
noncomputable abbrev Qlb:Fd_:=QZ (Ql 70) (zz "_law_places") .none .none .none (.str (zz "law_ay0028_03") 2276) none (.ref 1309) .none
theorem Qkl {v0 v1 v2:Vl}(h:Bd c N oh Qlb (Qy (Ql 70)) [(zz "value",v0),(zz "path",v1),(zz "rows",v2)] k):CW c (N+1) oh (call (.ref 1310) [v0,v1,v2] []) k:=by walk_at "fn"
noncomputable abbrev Qle:Fd_:=QZ (Ql 71) (zz "_law_taken") .none .none .none (.str (zz "law_ay0028_03") 2276) none (.ref 1316) .none
theorem Qkn {v0 v1:Vl}(h:Bd c N oh Qle (Qy (Ql 71)) [(zz "doc",v0),(zz "path",v1)] k):CW c (N+1) oh (call (.ref 1317) [v0,v1] []) k:=by walk_at "fn"
noncomputable abbrev Qld:Fd_:=QZ (Ql 72) (zz "_law_put") .none .none .none (.str (zz "law_ay0028_03") 2276) none (.ref 1323) .none
theorem QdO {v0 v1 v2:Vl}(h:Bd c N oh Qld (Qy (Ql 72)) [(zz "doc",v0),(zz "path",v1),(zz "value",v2)] k):CW c (N+1) oh (call (.ref 1324) [v0,v1,v2] []) k:=by walk_at "fn"
noncomputable abbrev Qlf:Fd_:=QZ (Ql 73) (zz "_law_target") .none .none .none (.str (zz "law_ay0028_03") 2276) none (.ref 1328) .none
theorem Qko {v0 v1:Vl}(h:Bd c N oh Qlf (Qy (Ql 73)) [(zz "doc",v0),(zz "number",v1)] k):CW c (N+1) oh (call (.ref 1329) [v0,v1] []) k:=by walk_at "fn"
noncomputable abbrev Qlg:Fd_:=QZ (Ql 74) (zz "_law_text") .none .none .none (.str (zz "law_ay0028_03") 2276) none (.ref 1333) .none
theorem Qkp {v0 v1:Vl}(h:Bd c N oh Qlg (Qy (Ql 74)) [(zz "path",v0),(zz "end",v1)] k):CW c (N+1) oh (call (.ref 1334) [v0,v1] []) k:=by walk_at "fn"
noncomputable abbrev Qla:Fd_:=QZ (Ql 75) (zz "_law_paired") .none .none .none (.str (zz "law_ay0028_03") 2276) none (.ref 1338) .none
theorem Qkk {v0 v1 v2:Vl}(h:Bd c N oh Qla (Qy (Ql 75)) [(zz "plain",v0),(zz "work",v1),(zz "pairs",v2)] k):CW c (N+1) oh (call (.ref 1339) [v0,v1,v2] []) k:=by walk_at "fn"
noncomputable abbrev ZW:Fd_:=QZ (Ql 76) (zz "law") .none .none .none (.str (zz "law_ay0028_03") 2276) none (.ref 1345) .none
noncomputable def QdU:List Ad:=[65,183,190,243,260,267,301,351,443,453,463,473,499,506,513,520,527,582,589,596,677,696,704,723,742,800,819,839,865,926,935,942,1135,1276,1283,1291,1296,1303,1310,1317,1324,1329,1334,1339,1346]
theorem Qlm (P:Params):(QdU.all λa=>keepIn (K03 P) (.ref a))=true:=by symm
theorem QoR (h:QdU.contains a=true):Q0 c oh (.ref a):=Zg (List.all_eq_true.mp (Qlm _) a (List.contains_iff_mem.mp h))
end
section
theorem Xh {α:Type}{t:Sem α}{f:Tok->α}{k:α->Loc->Own->Prop}(h:∀A s fr (Q:α->Sh->Prop),Qu N A->St c ou m oh fr s->0 < s.toks->(∀u tk,Q (f u) { s with toks:=tk })->wA (model c.prog c.w) A t Q F0 s) (hk:∀u,k (f u) m oh):W c N ou m oh t k :=
 λA s fr Q hA S P hQ=>h A s fr Q hA S P λu tk=>hQ (f u) m oh _ (hk u) (S.tok tk)
theorem Y5 {t:Sem Vl}{k:KV}(h:∀A s fr (Q:KQ_),Qu N A->St c ou m oh fr s->0 < s.toks->(∀tk,Q (.ref s.heap.objs.size) { s with heap:=s.heap.push o,toks:=tk })->wA (model c.prog c.w) A t Q F0 s)
  (hf:o.isFreed=false) (hk:∀D,New c oh D->k (.ref D) m (oh.put D o)):W c N ou m oh t k :=
 λA s fr Q hA S P hQ=>h A s fr Q hA S P λtk=>hQ _ m _ _ (hk _ ⟨S.sg.fresh,S.sg.aA⟩) (S.back (S.apart.push o tk hf))
theorem XY {α:Type}{t:Sem α}{r:α}{P:Obj->Prop}{k:α->Loc->Own->Prop}(ho:oh a=some o) (hb:c.H.get? a=none)
  (h:∀A s fr (Q:α->Sh->Prop),Qu N A->St c ou m oh fr s->0 < s.toks->(∀h' o' tk,Heap.SameBut a s.heap h'->h'.get? a=some o'->P o'->Q r { s with heap:=h',toks:=tk })->wA (model c.prog c.w) A t Q F0 s)
  (hk:∀o',P o'->k r m (oh.put a o')):W c N ou m oh t k :=
 λA s fr Q hA S P hQ=>h A s fr Q hA S P λh' o' tk hs he hP=>hQ r m _ _ (hk o' hP) (S.back (S.apart.same tk ho hb hs he))
theorem qV (h:n<=sizeLine):(n:Int) < 2 ^ 63:=by unfold sizeLine at h;omega
theorem ZI (h:oh a=some (lst xs n)) (hz:xs.length<=sizeLine) (hk:∀t,k (.int xs.length t) m oh):W c N ou m oh (call (.builtin "len") [.ref a]) k :=
 Xh (f:=λt=>.int xs.length t) (λA s fr Q hA S P hQ=>call_len_list (S.sg.lst h) (by simpa using qV hz) (by simpa using hQ _ _)) hk
theorem Qbw {oj:LV}(h:oh a=some o) (hd:IsD c o oj) (hb:c.H.get? a=none) (hz:oj.length<=sizeLine) (hk:∀t,k (.int oj.length t) m oh):W c N ou m oh (call (.builtin "len") [.ref a]) k :=
 Xh (f:=λt=>.int oj.length t) (λA s fr Q hA S P hQ=>call_len_dict (knd:=strKind c.prog c.w) (XU hb) (S.sg.dct h hd) (qV hz) (hQ _ _)) hk
theorem Qc7 (hk:k (.bool true) m oh):W c N ou m oh (compareOp .Is (.ref a) (.ref a)) k :=
 Q6 (a:=.bool true) (λA s fr Q hA S P hQ=>wpAny_is_ref_self (hQ s.toks)) hk
theorem Qc8 {a b:Ad}(h:a=b) (hk:k (.bool true) m oh):W c N ou m oh (compareOp .Is (.ref a) (.ref b)) k:=h▸Qc7 hk
theorem Qap {a b:Ad}{oa ob:Obj}(hab:a≠b) (ha:Has c oh a oa) (hb:Has c oh b ob) (hnt:oa.cls≠.type "tuple") (hk:k (.bool false) m oh):W c N ou m oh (compareOp .Is (.ref a) (.ref b)) k :=
 Q6 (a:=.bool false) (λA s fr Q hA S P hQ=>wpAny_is_ref_other hab (ha _ _ S.sg) (hb _ _ S.sg) hnt (hQ s.toks)) hk
theorem QgK (hk:k (.bool false) m oh):W c N ou m oh (compareOp .IsNot (.ref a) (.ref a)) k :=
 Q6 (a:=.bool false) (λA s fr Q hA S P hQ=>wpAny_isNot_ref_self (hQ s.toks)) hk
theorem XN {a b:Vl}(hp:plainIs a b=true) (hk:k (.bool (a==b)) m oh):W c N ou m oh (compareOp .Is a b) k :=
 Q6 (a:=.bool (a==b)) (λA s fr Q hA S P hQ=>wpAny_is_plain hp (hQ s.toks)) hk
theorem Qbv (hk:k (.bool true) m oh):W c N ou m oh (compareOp .Is .none .none) k:=XN rfl hk
theorem Yc {a b:Vl}{r:Bool}(h:∀A s fr,Qu N A->Sg c oh fr s->SeqAt.RcAt A s a b r) (hk:k (.bool r) m oh):W c N ou m oh (compareOp .Eq a b) k :=
 Q6 (a:=.bool r) (λA s fr Q hA S P hQ=>h A s fr hA S.sg _ _ _ _ (hQ s.toks)) hk
theorem Yv {i j:Int}{t u:Tok}(hk:k (.bool (i==j)) m oh):W c N ou m oh (compareOp .Eq (.int i t) (.int j u)) k:=Yc (λA s fr x_ x_=>SeqAt.RcAt.int_int i t j u) hk
theorem Yw {x y:Str}{t u:Tok}(hk:k (.bool (x==y)) m oh):W c N ou m oh (compareOp .Eq (.str x t) (.str y u)) k:=Yc (λA s fr x_ x_=>SeqAt.RcAt.str_str x t y u) hk
theorem Qbn {x y:Bool}(hk:k (.bool (x==y)) m oh):W c N ou m oh (compareOp .Eq (.bool x) (.bool y)) k:=Yc (λA s fr x_ x_=>SeqAt.RcAt.bool_bool x y) hk
theorem Qc0 (hk:k (.bool true) m oh):W c N ou m oh (compareOp .Eq .none .none) k:=Yc (λA s fr x_ x_=>SeqAt.RcAt.none_none) hk
theorem Qc5 {oj:LV}(h:oh a=some o) (hd:IsD c o oj) (hb:c.H.get? a=none) (hk:k (.bool (valueAt oj x).isSome) m oh):W c N ou m oh (compareOp .In (.str x t) (.ref a)) k :=
 Q6 (a:=.bool (valueAt oj x).isSome) (λA s fr Q hA S P hQ=>wpAny_in_of (knd:=strKind c.prog c.w) (strKind_is _ _ x t) (XU hb) (S.sg.dct h hd).mapOf (hQ _)) hk
theorem Y6 {oj:LV}(h:oh a=some o) (hd:IsD c o oj) (hb:c.H.get? a=none) (hk:k (.bool (!(valueAt oj x).isSome)) m oh):W c N ou m oh (compareOp .NotIn (.str x t) (.ref a)) k :=
 Q6 (a:=.bool (!(valueAt oj x).isSome)) (λA s fr Q hA S P hQ=>wpAny_notIn_of (knd:=strKind c.prog c.w) (strKind_is _ _ x t) (XU hb) (S.sg.dct h hd).mapOf (hQ _)) hk
theorem Qal {i j:Int}{t u:Tok}(hk:∀t,k (.int (i+j) t) m oh):W c N ou m oh (binaryOp .Add (.int i t) (.int j u)) k :=
 Xh (f:=λt=>.int (i+j) t) (λA s fr Q hA S P hQ=>wpAny_add_int (hQ _ _)) hk
theorem Xp {i j:Int}{t u:Tok}(hj:j≠0) (hk:∀t,k (.int (i.fmod j) t) m oh):W c N ou m oh (binaryOp .Mod (.int i t) (.int j u)) k :=
 Xh (f:=λt=>.int (i.fmod j) t) (λA s fr Q hA S P hQ=>mod_int hj (hQ _ _)) hk
theorem Qbl {x y:Str}{t u:Tok}(hz:x.length+y.length<=sizeLine) (hk:∀t,k (.str (x++y) t) m oh):W c N ou m oh (binaryOp .Add (.str x t) (.str y u)) k :=
 Xh (f:=λt=>.str (x++y) t) (λA s fr Q hA S P hQ=>PySem.SB.add (λt' tk=>hQ t' tk) hz) hk
theorem Qdk {es:List Expr}{k:KL_}(hs:Zx es=true) (h:Zm c N ou es [] k m oh):W c N ou m oh (spliced (backTo p (starEach es ou))) k:=by
 rw[Yt hs,X4]
 exact Qk (Qcf h) λvs m o h=>by rw[List.nil_append] at h;exact h
abbrev Ql8 (c:Cx) (k:KV):List Vl->Loc->Own->Prop:=λvs m o=>vs.length<=sizeLine/\∀D,New c o D->k (.ref D) m (o.put D (lst vs 0))
abbrev Ql9 (c:Cx) (k:KV):List Vl->Loc->Own->Prop:=λvs m o=>vs.length<=sizeLine/\∀D,New c o D->k (.ref D) m (o.put D (tup vs))
theorem Qov {es:List Expr}(hs:Zx es=true) (h:Zm c N ou es [] (Ql8 c k) m oh):W c N ou m oh (eval (.List es p) ou) k:=by
 rw[arm_eval_List]
 refine Qc (Q1 (Qc (Qk (Qdk hs h) λvs m o h=>?_)))
 exact Y5 (λA s fr Q hA S P hQ=>wpAny_newList (hQ _) h.1) rfl h.2
theorem QoA {es:List Expr}{x:Nat}(hs:Zx es=true) (h:Zm c N ou es [] (Ql9 c k) m oh):W c N ou m oh (eval (.Tuple es x p) ou) k:=by
 rw[arm_eval_Tuple]
 refine Qc (Q1 (Qc (Qk (Qdk hs h) λvs m o h=>?_)))
 exact Y5 (λA s fr Q hA S P hQ=>wpAny_newTuple (hQ _) h.1) rfl h.2
theorem Yb {i:Int}{j:Nat}{t u:Tok}(hj:j≠0) (hz:j < 2 ^ 20) (hk:∀t,k (.int (i.fdiv j) t) m oh):W c N ou m oh (binaryOp .FloorDiv (.int i t) (.int j u)) k :=
 Xh (f:=λt=>.int (i.fdiv j) t) (λA s fr Q hA S P hQ=>floordiv_int (by omega) (hQ _ _) (.inl (PyProof.noPylong_small (by omega)))) hk
theorem Qbk {a b:Ad}{xs ys:List Vl}{n n':Nat}(ha:oh a=some (lst xs n)) (hb:oh b=some (lst ys n')) (hz:xs.length+ys.length<=sizeLine) (hk:∀D,New c oh D->k (.ref D) m (oh.put D (lst (xs++ys) 0))) :
  W c N ou m oh (binaryOp .Add (.ref a) (.ref b)) k:=by
 refine Y5 (o:=lst (xs++ys) 0) (λA s fr Q hA S P hQ=>?_) rfl hk
 have e:xs.toArray++ys.toArray=(xs++ys).toArray:=by simp
 refine concat_meets ⟨_,S.sg.has _ _ ha,rfl⟩ ⟨_,S.sg.has _ _ hb,rfl⟩ noFill_list_add seq_list_add PySem.F.slot_list_add PySem.F.entry_list_add (PySem.F.args_list_add_2 _ _)
  (list_addW a b xs.toArray ys.toArray n n' none none #[] #[] (by simpa using hz)) ⟨S.sg.has _ _ ha,S.sg.has _ _ hb,?_⟩
 rw[e]
 exact hQ _
theorem Qam {a b:Ad}{xs ys:List Vl}(ha:oh a=some (tup xs)) (hb:oh b=some (tup ys)) (hz:xs.length+ys.length<=sizeLine)
  (hk:∀D o',Ext oh o'->o' D=some (tup (xs++ys))->k (.ref D) m o'):W c N ou m oh (binaryOp .Add (.ref a) (.ref b)) k:=by
 intro A s fr Q hA S P hQ
 have e:xs.toArray++ys.toArray=(xs++ys).toArray:=by simp
 have oa:=S.sg.has _ _ ha
 have ob:=S.sg.has _ _ hb
 by_cases hv:xs=[]
 ·exact concat_meets ⟨_,oa,rfl⟩ ⟨_,ob,rfl⟩ noFill_tuple_add seq_tuple_add PySem.F.slot_tuple_add PySem.F.entry_tuple_add (PySem.F.args_tuple_add_2 _ _)
   (tuple_addW0 a b xs.toArray ys.toArray 0 0 none none #[] #[] (by simp[hv])) ⟨oa,ob,hQ _ m oh _ (hk b oh .refl (by rw[hb,hv];rfl)) S⟩
 ·by_cases hw:ys=[]
  ·exact concat_meets ⟨_,oa,rfl⟩ ⟨_,ob,rfl⟩ noFill_tuple_add seq_tuple_add PySem.F.slot_tuple_add PySem.F.entry_tuple_add (PySem.F.args_tuple_add_2 _ _)
    (tuple_addW1 a b xs.toArray ys.toArray 0 0 none none #[] #[] (by simpa using hv) (by simp[hw])) ⟨oa,ob,hQ _ m oh _ (hk a oh .refl (by rw[ha,hw,List.append_nil])) S⟩
  ·refine concat_meets ⟨_,oa,rfl⟩ ⟨_,ob,rfl⟩ noFill_tuple_add seq_tuple_add PySem.F.slot_tuple_add PySem.F.entry_tuple_add (PySem.F.args_tuple_add_2 _ _)
    (tuple_addW2 a b xs.toArray ys.toArray 0 0 none none #[] #[] (by simpa using hv) (by simpa using hw) (by rw[List.size_toArray,List.size_toArray];exact hz)) ⟨oa,ob,?_⟩
   rw[e]
   exact hQ _ m _ _ (hk _ _ (.put S.sg.fresh) (Qa ..)) (S.back (S.apart.push _ s.toks rfl))
theorem ZU (ha:oh a=some (lst xs n)) (hb:c.H.get? a=none) (hz:xs.length<=sizeLine) (hk:∀n',k .none m (oh.put a (lst (xs++[v]) n'))) :
  W c N ou m oh (call (.builtin "list.append") [.ref a,v]) k:=by
 refine XY (P:=λo=>∃n',o=lst (xs++[v]) n') ha hb (λA s fr Q hA S P hQ=>?_) λo' ⟨n',e⟩=>e▸hk n'
 refine wpAny_list_append_plain ⟨n,S.sg.has _ _ ha⟩ (λh' ⟨n',hn'⟩ hs=>hQ h' _ s.toks hs hn' ⟨n',by simp[lst]⟩) (by simpa using hz)
theorem Y8 {oj:LV}{k:KU_}(ha:oh a=some o) (hd:IsD c o oj) (hb:c.H.get? a=none) (hz:oj.length<=sizeLine) (hk:∀o',IsD c o' (stored oj x v)->k () m (oh.put a o')) :
  W c N ou m oh (setItem (.ref a) (.str x t) v) k:=by
 refine XY (P:=λo=>IsD c o (stored oj x v)) ha hb (λA s fr Q hA S P hQ=>?_) hk
 refine wpAny_setItem_pairs (knd:=strKind c.prog c.w) (strKind_is _ _ x t) (S.sg.dct ha hd) (λh' hd' hs=>?_) hz
 obtain⟨o',e,hd'⟩:=Heap.dictOf_iff.mp hd'
 exact hQ h' o' _ hs e hd'
theorem Qe5 {i n:Nat}(h:i < n):seqIndex? (i:Int) n=some i:=by
 unfold seqIndex?
 have:¬ (i:Int) < 0:=by omega
 simp[this];omega
theorem Qay (h:i < 2 ^ 60):Builtin.List.listFitsIndex (i:Int)=true:=fitsIndex_of (by omega) (by omega)
theorem QcZ {n i:Nat}{k:KU_}(ha:oh a=some (lst xs n)) (hb:c.H.get? a=none) (hz:xs.length<=sizeLine) (hi:i < xs.length) (hk:∀n',k () m (oh.put a (lst (xs.eraseIdx i) n'))) :
  W c N ou m oh (delItem (.ref a) (.int i t)) k:=by
 refine XY (P:=λo=>∃n',o=lst (xs.eraseIdx i) n') ha hb (λA s fr Q hA S P hQ=>?_) λo' ⟨n',e⟩=>e▸hk n'
 refine wpAny_delItem_plain (k:=i) ⟨n,S.sg.has _ _ ha⟩ (Qay (by unfold sizeLine at hz;omega)) (by simpa using Qe5 hi) (λh' ⟨n',hn'⟩ hs=>hQ h' _ s.toks hs hn' ⟨n',by simp[lst,Array.eraseIdxIfInBounds,hi]⟩) (by simpa using hz)
theorem QcY {oj:LV}{k:KU_}(ha:oh a=some o) (hd:IsD c o oj) (hb:c.H.get? a=none) (hz:oj.length<=sizeLine) (hx:(valueAt oj x).isSome=true) (hk:∀o',IsD c o' (without oj x)->k () m (oh.put a o')) :
  W c N ou m oh (delItem (.ref a) (.str x t)) k:=by
 refine XY (P:=λo=>IsD c o (without oj x)) ha hb (λA s fr Q hA S P hQ=>?_) hk
 have hD:=S.sg.dct ha hd
 unfold delItem
 try with_reducible refine wh_ ?_
 refine wb9 (wpAny_sequenceKey hD.typeIs (by decide) ?_)
 refine wb9 (wpAny_callSpecial?_slot (name:=zz "__delitem__") hD.typeIs PySem.F.slot_dict_delitem
  (call_meetsIn PySem.F.slot_dict_delitem hD.typeIs PySem.F.entry_dict_delitem (PySem.F.args_dict_delitem_2 _ _) (meets_dict_delitem_pairs (strKind c.prog c.w) a (strKind_is _ _ x t)) ⟨oj,hD,hz,hx,λh' hmm hs=>?_⟩))
 obtain⟨o',e,hd'⟩:=Heap.dictOf_iff.mp hmm
 exact wp_ (hQ h' o' _ hs e hd')
theorem Qg1 {oj:LV}(ha:oh a=some o) (hd:IsD c o oj) (hb:c.H.get? a=none) (hz:oj.length<=sizeLine) (hx:valueAt oj x=some v) (hk:∀o',IsD c o' (without oj x)->k v m (oh.put a o')) :
  W c N ou m oh (call (.builtin "dict.pop") [.ref a,.str x t]) k:=by
 refine XY (P:=λo=>IsD c o (without oj x)) ha hb (λA s fr Q hA S P hQ=>?_) hk
 have hD:=S.sg.dct ha hd
 refine call_meetsIn PySem.F.slot_dict_pop hD.typeIs PySem.F.entry_dict_pop (PySem.F.args_dict_pop_2 _ _) (meets_dict_pop_there (strKind c.prog c.w) a (strKind_is _ _ x t) [] (.inl rfl) rfl) ⟨oj,v,hD,hz,hx,λh' hmm hs=>?_⟩
 obtain⟨o',e,hd'⟩:=Heap.dictOf_iff.mp hmm
 exact hQ h' o' _ hs e hd'
theorem QmC (a:Ad) (items:Array Vl) (n:Nat) (x:Int) (u:Tok) (y:Vl) (h0:0<=x) (f1:Builtin.List.listFitsIndex x=true) (hk:x.toNat < items.size) :
  Meets (Builtin.«list.__setitem__» ⟨[.ref a,.int x u,y],[]⟩) (λx_ R s=>s.heap.get? a=some { cls:=.type "list",dict:=none,data:=.seq items n,slots:=#[] }/\R (.ok (.ret .none)) { s with heap:=s.heap.update a (Obj.mapSeq (·.setIfInBounds x.toNat y)) }) :=
 .of_wp λprog w A R s h=>by
  obtain⟨hp,g,d,tk,os⟩:=s
  obtain⟨hl,h⟩:=h
  have f3:=AutoSeq1.idx_int
  have hf:¬ (!Builtin.List.listFitsIndex x)=true:=by simp[f1]
  wp_walk using AutoSeq1.wpAny_loadPart' hl
  clear hf f1
  obtain⟨k,rfl⟩:=Int.eq_ofNat_of_zero_le h0
  have hk':k < items.size:=hk
  have hx:items[k]?=some items[k]:=Array.getElem?_eq_getElem hk'
  show wA _ _ (seqItemAt a k >>= λr=>pure (r.map (k,·))) _ _ _
  refine wb9 (wpAny_seqItemAt hl rfl (wp_ ?_))
  rw[hx]
  show wA _ _ (setSeqItemAt a k y >>= _) _ _ _
  exact wb9 (wpAny_setSeqItemAt hl rfl (wp_ ⟨.none,rfl,h⟩))
theorem QnY {prog:Program}{w:World}{E:KQ_}{items:Array Vl}{j:Int}{Q:Unit->Sh->Prop}(hl:s.heap.PlainList a items) (h0:0<=j) (f1:Builtin.List.listFitsIndex j=true)
  (f2:j.toNat < items.size) (hQ:∀h',h'.PlainList a (items.setIfInBounds j.toNat v)->Heap.SameBut a s.heap h'->Q () { s with heap:=h' }):wA (model prog w) A (setItem (.ref a) (.int j t) v) Q E s:=by
 obtain⟨n,ho⟩:=hl
 have hT:s.TypeIs (.ref a) "list":=⟨_,ho,rfl⟩
 unfold setItem
 refine wh_ (wb9 (wpAny_sequenceKey hT (by decide) ?_))
 exact wb9 (wpAny_callSpecial?_slot (name:=zz "__setitem__") hT PySem.F.slot_list_setitem (call_meets PySem.F.slot_list_setitem hT PySem.F.entry_list_setitem (PySem.F.args_list_setitem_3 _ _ _)
  (QmC a items n j t v h0 f1 f2) ⟨ho,wp_ (hQ _ ⟨_,PySem.IsL.update (n:=n) ho _⟩ (Heap.SameBut.update ..))⟩))
theorem Qdi {n i:Nat}{k:KU_}(ha:oh a=some (lst xs n)) (hb:c.H.get? a=none) (hz:xs.length<=sizeLine) (hi:i < xs.length) (hk:∀n',k () m (oh.put a (lst (xs.set i v) n'))) :
  W c N ou m oh (setItem (.ref a) (.int i t) v) k:=by
 refine XY (P:=λo=>∃n',o=lst (xs.set i v) n') ha hb (λA s fr Q hA S P hQ=>?_) λo' ⟨n',e⟩=>e▸hk n'
 exact QnY ⟨n,S.sg.has _ _ ha⟩ (by omega) (Qay (by unfold sizeLine at hz;omega)) (by simpa using hi) λh' ⟨n',hn'⟩ hs=>hQ h' _ s.toks hs hn' ⟨n',by simp[lst]⟩
theorem QnX {prog:Program}{w:World}{E:KQ_}{items:Array Vl}{j:Int}{Q:KQ_}(hl:s.heap.PlainList a items) (f1:Builtin.List.listFitsIndex j=true) (f2:seqIndex? j items.size=some i)
  (f3:items[i]?=some v) (f4:items.size<=sizeLine) (hQ:∀h',h'.PlainList a (items.eraseIdxIfInBounds i)->Heap.SameBut a s.heap h'->Q v { s with heap:=h' }):wA (model prog w) A (call (.builtin "list.pop") [.ref a,.int j t]) Q E s:=by
 obtain⟨n,ho⟩:=hl
 exact call_meets PySem.F.slot_list_pop (show s.TypeIs (.ref a) "list" from ⟨_,ho,rfl⟩) PySem.F.entry_list_pop (PySem.F.args_list_pop_2 _ _) (MeetsSeq.list_pop_at a items n j t i v f1 f2 f3 f4) ⟨ho,hQ _ ⟨_,PySem.IsL.update (n:=n) ho _⟩ (Heap.SameBut.update ..)⟩
theorem Qdg {n i:Nat}(ha:oh a=some (lst xs n)) (hb:c.H.get? a=none) (hz:xs.length<=sizeLine) (hv:xs[i]?=some v) (hk:∀n',k v m (oh.put a (lst (xs.eraseIdx i) n'))) :
  W c N ou m oh (call (.builtin "list.pop") [.ref a,.int i t]) k:=by
 have hi:i < xs.length:=(ge_.mp hv).1
 refine XY (P:=λo=>∃n',o=lst (xs.eraseIdx i) n') ha hb (λA s fr Q hA S P hQ=>?_) λo' ⟨n',e⟩=>e▸hk n'
 refine QnX (i:=i) ⟨n,S.sg.has _ _ ha⟩ (Qay (by unfold sizeLine at hz;omega)) (by simpa using Qe5 hi) (by simpa using hv) (by simpa using hz) (λh' ⟨n',hn'⟩ hs=>hQ h' _ s.toks hs hn' ⟨n',by simp[lst,Array.eraseIdxIfInBounds,hi]⟩)
theorem QnW {prog:Program}{w:World}{E:KQ_}{items:Array Vl}{Q:KQ_}(hl:s.heap.PlainList a items)
  (f3:items[items.size - 1]?=some v) (f4:items.size<=sizeLine) (hQ:∀h',h'.PlainList a (items.eraseIdxIfInBounds (items.size - 1))->Heap.SameBut a s.heap h'->Q v { s with heap:=h' }):wA (model prog w) A (call (.builtin "list.pop") [.ref a]) Q E s:=by
 obtain⟨n,ho⟩:=hl
 exact call_meets PySem.F.slot_list_pop (show s.TypeIs (.ref a) "list" from ⟨_,ho,rfl⟩) PySem.F.entry_list_pop (PySem.F.args_list_pop_1 _) (MeetsSeq.list_pop_last a items n v f3 f4) ⟨ho,hQ _ ⟨_,PySem.IsL.update (n:=n) ho _⟩ (Heap.SameBut.update ..)⟩
theorem Qg2 (ha:oh a=some (lst (xs++[v]) n)) (hb:c.H.get? a=none) (hz:xs.length+1<=sizeLine) (hk:∀n',k v m (oh.put a (lst xs n'))) :
  W c N ou m oh (call (.builtin "list.pop") [.ref a]) k:=by
 refine XY (P:=λo=>∃n',o=lst xs n') ha hb (λA s fr Q hA S P hQ=>?_) λo' ⟨n',e⟩=>e▸hk n'
 refine QnW ⟨n,S.sg.has _ _ ha⟩ (by simp) (by simpa using hz) (λh' ⟨n',hn'⟩ hs=>hQ h' _ s.toks hs hn' ⟨n',by simp[lst,Array.eraseIdxIfInBounds,List.eraseIdx_append_of_length_le]⟩)
theorem QnU {prog:Program}{w:World}{E:KQ_}{items:Array Vl}{j:Int}{Q:KQ_}(hl:s.heap.PlainList a items) (f1:Builtin.List.listFitsIndex j=true)
  (f4:items.size<=sizeLine) (hQ:∀h',h'.PlainList a (have k:=if j < 0 then (j+(items.size:Int)).toNat else min j.toNat items.size;(items.extract 0 k).push v++items.extract k)->Heap.SameBut a s.heap h'->Q .none { s with heap:=h' }):wA (model prog w) A (call (.builtin "list.insert") [.ref a,.int j t,v]) Q E s:=by
 obtain⟨n,ho⟩:=hl
 exact call_meets PySem.F.slot_list_insert (show s.TypeIs (.ref a) "list" from ⟨_,ho,rfl⟩) PySem.F.entry_list_insert (PySem.F.args_list_insert_3 _ _ _) (PySem.AutoSeq1.list_insert_list_int_val_1 a items n j t v (by simp[f1]) f4) ⟨ho,hQ _ ⟨_,PySem.IsL.update (n:=n) ho _⟩ (Heap.SameBut.update ..)⟩
theorem Qbu {n i:Nat}(ha:oh a=some (lst xs n)) (hb:c.H.get? a=none) (hz:xs.length<=sizeLine) (hi:i<=xs.length) (hk:∀n',k .none m (oh.put a (lst (xs.take i++v::xs.drop i) n'))) :
  W c N ou m oh (call (.builtin "list.insert") [.ref a,.int i t,v]) k:=by
 refine XY (P:=λo=>∃n',o=lst (xs.take i++v::xs.drop i) n') ha hb (λA s fr Q hA S P hQ=>?_) λo' ⟨n',e⟩=>e▸hk n'
 refine QnU ⟨n,S.sg.has _ _ ha⟩ (Qay (by unfold sizeLine at hz;omega)) (by simpa using hz) (λh' ⟨n',hn'⟩ hs=>hQ h' _ s.toks hs hn' ⟨n',?_⟩)
 have h0:¬ (i:Int) < 0:=by omega
 have h1:min i xs.length=i:=by omega
 have h2:(i:Int).toNat=i:=by omega
 congr 1
 congr 1
 apply Array.ext'
 simp[h0,h1,h2]
 exact List.take_of_length_le (by simp)
end
section
noncomputable abbrev Xu (vl vu:Vl):Obj:={ cls:=.type "slice",data:=.fields #[vl,vu,.none] }
theorem Yi {lo hi:Option Expr}(h:W c N ou m oh (evalPart lo ou) λvl m o=>W c N ou m o (evalPart hi ou) λvu m o=>∀D,New c o D->k (.ref D) m (o.put D (Xu vl vu))) :
  W c N ou m oh (eval (.Slice lo hi none p) ou) k:=by
 intro A s fr Q hA S P hQ
 refine wpAny_Slice (h.run hA S P λvl m₁ o₁ s₁ h₁ S₁ P₁=>h₁.run hA S₁ P₁ λvu m₂ o₂ s₂ h₂ S₂ P₂=>?_)
 rw[evalPart_none]
 refine wp_ ?_
 exact hQ _ m₂ _ _ (h₂ _ ⟨S₂.sg.fresh,S₂.sg.aA⟩) (S₂.back (S₂.apart.push _ s₂.toks rfl))
theorem Y7 (h:k .none m oh):W c N ou m oh (evalPart none ou) k:=Qs h
theorem XA {e:Expr}(h:W c N ou m oh (eval e ou) k):W c N ou m oh (evalPart (some e) ou) k:=h
theorem qy {a sl:Ad}{xs ys:List Vl}{vl vu:Vl}{lo hi:Option Int}{le ue:Option Expr}(h:oh a=some (lst xs n)) (hs:oh sl=some (Xu vl vu)) (pl:IsPart vl lo) (pu:IsPart vu hi)
  (hz:xs.length<=sizeLine) (e:(slicePick xs.toArray lo hi none).toList=ys) (hk:∀D,New c oh D->k (.ref D) m (oh.put D (lst ys 0))) :
  W c N ou m oh (getitemInPython (.ref a)) λb m w=>W c N ou m w (subscripted (.Slice le ue none p) b (.ref a) (.ref sl)) k:=by
 refine Y4 h rfl (.inl rfl) ?_
 show W c N ou m oh (operate [.ref sl,.ref a] (getItem (.ref a) (.ref sl))) k
 refine XZ (Y5 (o:=lst ys 0) (λA s fr Q hA S P hQ=>?_) rfl hk)
 refine wpAny_getItem_list_slice (S.sg.lst h) ⟨_,S.sg.has _ _ hs,rfl,rfl⟩ pl pu .none (by simp) ?_ (by simpa using hz)
 have e':slicePick xs.toArray lo hi none=ys.toArray:=by rw[<- e]
 rw[e']
 exact hQ s.toks
theorem Yx {i:Int}{j:Nat}{se:Expr}(h:oh a=some (tup xs)) (hi:seqIndex? i xs.length=some j) (hv:xs[j]?=some v) (hlo:-2 ^ 63<=i) (hhi:i < 2 ^ 63) (hk:k v m oh)
  (hs:subscripted se false (.ref a) (.int i t)=operate [.ref a,.int i t] (getItem (.ref a) (.int i t)):=by rfl) :
  W c N ou m oh (getitemInPython (.ref a)) λb m w=>W c N ou m w (subscripted se b (.ref a) (.int i t)) k:=by
 refine Y4 h rfl (.inr (.inr rfl)) ?_
 rw[hs]
 refine XZ (Q6 (a:=v) (λA s fr Q hA S P hQ=>?_) hk)
 have ho:=S.sg.has _ _ h
 exact getItem_meets (show s.TypeIs (.ref a) "tuple" from ⟨_,ho,rfl⟩) (by decide) PySem.F.slot_tuple_getitem PySem.F.entry_tuple_getitem (PySem.F.args_tuple_getitem_2 _ _)
  (MeetsSeq.tuple_getitem_at a xs.toArray 0 i t j v hlo hhi (by simpa using hi) (by simpa using hv)) ⟨ho,hQ s.toks⟩
noncomputable def Yj (n:Nat) (j:Int):Nat:=if j < 0 then (j+n).toNat else min j.toNat n
theorem Qm7 (xs:List Vl) (k:Nat):((List.range k).filterMap λ (i:Nat)=>xs.toArray[((0:Int)+(i:Int)*1).toNat]?)=xs.take k:=by
 have e:(λ (i:Nat)=>xs.toArray[((0:Int)+(i:Int)*1).toNat]?)=λ (i:Nat)=>xs[i]?:=by funext i;simp
 rw[e]
 induction k with
 |zero=>simp
 |succ k ih =>
  rw[List.range_succ,List.filterMap_append,ih,List.take_add_one]
  cases h:xs[k]? with
  |none=>rw[List.filterMap_cons_none h];rfl
  |some v=>rw[List.filterMap_cons_some h];rfl
theorem Qhm (n:Nat) (j:Int):Builtin.Slice.sliceAdjust none (some j) 1 n=(0,(Yj n j:Int)):=by
 show ((0:Int),if j < 0 then max (j+n) 0 else min j n)=_
 unfold Yj
 by_cases hj:j < 0
 ·rw[if_pos hj,if_pos hj,Int.toNat_eq_max]
 ·rw[if_neg hj,if_neg hj,<- Int.toNat_of_nonneg (Int.not_lt.mp hj),Int.toNat_natCast]
  by_cases h:j.toNat<=n
  ·rw[Nat.min_eq_left h,Int.min_eq_left (Int.ofNat_le.mpr h)]
  ·rw[Nat.min_eq_right (Nat.le_of_not_le h),Int.min_eq_right (Int.ofNat_le.mpr (Nat.le_of_not_le h))]
theorem Qm8 (r:Nat):Builtin.Slice.slicePlaces 0 (r:Int) 1=r:=by
 show Int.toNat (if (0:Int) < r then ((r:Int) - 0 - 1) / 1+1 else 0)=r
 by_cases h:(0:Int) < r
 ·rw[if_pos h,Int.ediv_one,Int.sub_add_cancel,Int.sub_zero,Int.toNat_natCast]
 ·rw[if_neg h];exact(Nat.eq_zero_of_not_pos λx=>h (Int.natCast_pos.mpr x)).symm
theorem QmD (a sl:Ad) (xs:List Vl) (j:Int) (u:Tok) (r:Nat) (hr:r=Yj xs.length j) (hz:xs.length<=sizeLine) :
  Meets (Builtin.«tuple.__getitem__» ⟨[.ref a,.ref sl],[]⟩) (λx_ R s=>s.heap.get? a=some (tup xs)/\s.heap.get? sl=some (Xu .none (.int j u)) /\
   (r=xs.length->R (.ok (.ret (.ref a))) s)/\(r≠xs.length->R (.ok (.ret (.ref s.heap.objs.size))) { s with heap:=s.heap.push (tup (xs.take r)) })) :=
 .of_wp λprog w A R s h=>by
  obtain⟨hp,g,d,tk,os⟩:=s
  obtain⟨ha,hs,h1,h2⟩:=h
  have hT:(⟨hp,g,d,tk,os⟩:Sh).TypeIs (.ref sl) "slice":=⟨_,hs,rfl⟩
  have hT':(⟨hp,g,d,tk,os⟩:Sh).TypeIs (.ref a) "tuple":=⟨_,ha,rfl⟩
  have f1:=AutoSeq1.idx_int
  wp_walk using AutoSeq1.wpAny_loadPart' ha
  have e1:=Qhm xs.length j
  rw[<- hr] at e1
  simp only[List.size_toArray,Option.getD_none,e1,Qm8]
  by_cases hw:r=xs.length
  ·rw[if_pos (by simp[hw])]
   unfold Builtin.Tuple.tupleIsExact
   wp_walk
   exact⟨_,rfl,h1 hw⟩
  ·rw[if_neg (by simp[hw])]
   rw[Qm7]
   unfold Builtin.Tuple.tupleExact
   refine wb9 (wpAny_newObj_type ?_ (by show (xs.take r).toArray.size<=sizeLine;simp<;>omega))
   exact wp_ ⟨_,rfl,h2 hw⟩
theorem QbA {a sl:Ad}{j:Int}{u:Tok}{le:Option Expr}{ue:Option Expr}(h:oh a=some (tup xs)) (hs:oh sl=some (Xu .none (.int j u))) (hz:xs.length<=sizeLine)
  (hk:∀D o',Ext oh o'->o' D=some (tup (xs.take (Yj xs.length j)))->k (.ref D) m o') :
  W c N ou m oh (getitemInPython (.ref a)) λb m w=>W c N ou m w (subscripted (.Slice le ue none p) b (.ref a) (.ref sl)) k:=by
 refine Y4 h rfl (.inr (.inr rfl)) ?_
 show W c N ou m oh (operate [.ref sl,.ref a] (getItem (.ref a) (.ref sl))) k
 refine XZ λA s fr Q hA S P hQ=>?_
 have ho:=S.sg.has _ _ h
 refine getItem_meets (show s.TypeIs (.ref a) "tuple" from ⟨_,ho,rfl⟩) (by decide) PySem.F.slot_tuple_getitem PySem.F.entry_tuple_getitem (PySem.F.args_tuple_getitem_2 _ _)
  (QmD a sl xs j u _ rfl hz) ⟨ho,S.sg.has _ _ hs,λe=>?_,λe=>?_⟩
 ·exact hQ _ m _ _ (hk a oh .refl (by rw[e,List.take_length];exact h)) S
 ·exact hQ _ m _ _ (hk _ _ (.put S.sg.fresh) (Qa ..)) (S.back (S.apart.push _ s.toks rfl))
end
section
theorem Sg.grow (S:Sg c oh fr s) {h':Heap}{t:Nat}(hk:∀b o,s.heap.get? b=some o->h'.get? b=some o):Sg c oh fr { s with heap:=h',toks:=t } :=
 ⟨S.base,λa o e=>hk a o (S.has a o e),λa o e=>hk a o (S.hfr a o e),S.dj,λT hT=>let ⟨⟨vs,e⟩,r⟩:=S.tab T hT;⟨⟨vs,hk _ _ e⟩,r⟩,S.os,S.gens⟩
theorem St.grow (S:St c ou m oh fr s) {h':Heap}{t:Nat}(hk:∀b o,s.heap.get? b=some o->h'.get? b=some o):St c ou m oh fr { s with heap:=h',toks:=t } :=
 ⟨S.sg.grow hk,S.fm.at λa o x_=>hk a o,S.dl⟩
theorem QkB {h h':Heap}(x:Heap.ExtBut h.objs.size h h'):∀b o,h.get? b=some o->h'.get? b=some o:=λb o e=>x b o (Nat.ne_of_lt (Heap.lt_size e)) e
theorem Qdp {T:Ad}{k:KL_}(h:oh T=some (tup xs)) (hn:n=xs.length) (hk:k xs m oh):W c N ou m oh (unpackItems (.ref T) n none) k:=by
 intro A s fr Q hA S P hQ
 have:=wpAny_unpackItems_tuple (prog:=c.prog) (w:=c.w) (A:=A) (E:=F0) (Q:=Q) hA.2.2 (S.sg.tup h) λh' hx=>hQ _ m oh { s with heap:=h' } hk (S.grow (QkB hx))
 rw[hn];simpa using this
theorem Qc6 {f g:Vl->Sem Unit}{x y:Vl}{k:KU_}(h:W c N ou m oh (f x) λx_ m o=>W c N ou m o (g y) k):W c N ou m oh (assignInOrder [f,g] [x,y]) k:=by
 show W c N ou m oh (holding [y] (f x) >>= λx_=>holding [] (g y) >>= λx_=>pure ()) k
 exact Qc (Q9 (Qk h λx_ m o h=>Qc (Q9 (Qk h λx_ m o h=>Qs h))))
theorem YM {a b:Str}{pa pb p:Pos}{x1:Nat}{T:Ad}{x y:Vl}{k:KU_}(kf:KF ou sc) (ha:sc.names.lookup a=some .local) (hb:sc.names.lookup b=some .local) (h:oh T=some (tup [x,y])) (hk:k () (upd (upd m a x) b y) oh) :
  W c N ou m oh (assign (.Tuple [.Name a pa,.Name b pb] x1 p) ou (.ref T)) k:=by
 rw[arm_assign_Tuple]
 refine Qc (Q1 ?_)
 show W c N ou m oh (do assignInOrder [assign (.Name a pa) ou,assign (.Name b pb) ou] (<- holding [.ref T] (unpackItems (.ref T) 2 none))) k
 exact Qc (Q9 (Qdp h rfl (Qc6 (Zv kf ha (Zv kf hb hk)))))
theorem QkA (ou:Env) (es:List Expr) (x1:Nat) (q p:Pos) (e:Expr) (hsw:swapsWith e (some (.Tuple es x1 q)) p.line ou=pure false) (hs:swappedStores [.Tuple es x1 q] e ou=pure none) :
  exec (.Assign [.Tuple es x1 q] e p) ou=(do standAt p;let v <- eval e ou;assign (.Tuple es x1 q) ou v;pure .next):=by
 have e1:exec (.Assign [.Tuple es x1 q] e p) ou=(do
   standAt p
   if <- swapsWith e (some (.Tuple es x1 q)) p.line ou then do
    evalThenUse e ou λv=>assignAll v ((assignEach [.Tuple es x1 q] ou).map (·.2))
    pure .next
   else do
    let v <- eval e ou
    assignStores ou v (<- swappedStores [.Tuple es x1 q] e ou) [assign (.Tuple es x1 q) ou]):=rfl
 rw[e1,hsw,hs]
 rfl
theorem Xi {a b:Str}{pa pb q p:Pos}{x1:Nat}{e:Expr}{k:KF_}(kf:KF ou sc) (ha:sc.names.lookup a=some .local) (hb:sc.names.lookup b=some .local)
  (h:W c N ou m oh (eval e ou) λv m o=>∃T x y,v = .ref T/\o T=some (tup [x,y])/\k .next (upd (upd m a x) b y) o)
  (hsw:swapsWith e (some (.Tuple [.Name a pa,.Name b pb] x1 q)) p.line ou=pure false) (hs:swappedStores [.Tuple [.Name a pa,.Name b pb] x1 q] e ou=pure none) :
  W c N ou m oh (exec (.Assign [.Tuple [.Name a pa,.Name b pb] x1 q] e p) ou) k:=by
 rw[QkA ou _ x1 q p e hsw hs]
 refine Qc (Q1 (Qc (Qk h λv m o h=>?_)))
 obtain⟨T,x,y,rfl,hT,hk⟩:=h
 exact Qc (YM kf ha hb hT (Qs hk))
theorem Qhf {a b:Str}{pa pb q p:Pos}{x1:Nat}{e:Expr}{k:KF_}(kf:KF ou sc) (ha:sc.names.lookup a=some .local) (hb:sc.names.lookup b=some .local)
  (h:W c N ou m oh (eval e ou) λv m o=>∃T x y,v = .ref T/\o T=some (tup [x,y])/\k .next (upd (upd m b y) a x) o)
  (hsw:swapsWith e (some (.Tuple [.Name a pa,.Name b pb] x1 q)) p.line ou=pure false) (hs:swappedStores [.Tuple [.Name a pa,.Name b pb] x1 q] e ou=pure (some [a,b])) :
  W c N ou m oh (exec (.Assign [.Tuple [.Name a pa,.Name b pb] x1 q] e p) ou) k:=by
 have e1:exec (.Assign [.Tuple [.Name a pa,.Name b pb] x1 q] e p) ou=(do
   standAt p
   if <- swapsWith e (some (.Tuple [.Name a pa,.Name b pb] x1 q)) p.line ou then do
    evalThenUse e ou λv=>assignAll v ((assignEach [.Tuple [.Name a pa,.Name b pb] x1 q] ou).map (·.2))
    pure .next
   else do
    let v <- eval e ou
    assignStores ou v (<- swappedStores [.Tuple [.Name a pa,.Name b pb] x1 q] e ou) [assign (.Tuple [.Name a pa,.Name b pb] x1 q) ou]):=rfl
 rw[e1,hsw,hs]
 refine Qc (Q1 (Qc (Qs (Qc (Qk h λv m o h=>?_)))))
 obtain⟨T,x,y,rfl,hT,hk⟩:=h
 refine Qc (Qs ?_)
 show W c N ou m o (do rule "assign.swapped-stores";let items <- unpackItems (.ref T) 2 none;assignInOrder [λv=>bindName ou b v,λv=>bindName ou a v] items.reverse;pure .next) k
 refine Qc (Qg6 (Qc (Qdp hT rfl (Qc (Qc6 ?_)))))
 exact Y2 (Y9 (kf _ _ (by intro z;cases z) hb) (Y2 (Y9 (kf _ _ (by intro z;cases z) ha) (Qs hk))))
theorem Qc1 {k:List (Vl × Vl)->Loc->Own->Prop}(h:k [] m oh):W c N ou m oh (evalPairs []) k:=Qs h
theorem Qbq {x y:Sem Vl}{r:List (Sem Vl × Sem Vl)}{k:List (Vl × Vl)->Loc->Own->Prop}(h:W c N ou m oh x λa m o=>W c N ou m o y λb m o=>W c N ou m o (evalPairs r) λvs m o=>k ((a,b)::vs) m o):W c N ou m oh (evalPairs ((x,y)::r)) k:=by
 rw[evalPairs]
 exact Qc (Qk h λa m o h=>Qc (Q9 (Qk h λb m o h=>Qc (Q9 (Qk h λvs m o h=>Qs h)))))
theorem St.adopt (S:St c ou m oh fr s) {D:Ad}{Do:Obj}(h0:oh D=none) (hf:fr D=none) (hT:D∉c.tabs) (hn:¬ QQ ou D) (hD:s.heap.get? D=some Do):St c ou m (oh.put D Do) fr s:=by
 refine⟨⟨λa o e ht=>QE h0 (S.sg.base a o e ht),λa o e=>?_,S.sg.hfr,λa o e=>?_,λT h=>?_,S.sg.os,S.sg.gens⟩,S.fm,λa ha=>⟨?_,(S.dl a ha).2⟩⟩
 ·by_cases h:a=D
  ·subst h;cases (Qa ..),e;exact hD
  ·rw[Qi h] at e;exact S.sg.has a o e
 ·by_cases h:a=D
  ·subst h;exact hf
  ·rw[Qi h] at e;exact S.sg.dj a o e
 ·obtain⟨h1,h2,h3⟩:=S.sg.tab T h
  exact⟨h1,by rw[Qi (by rintro rfl;exact hT h)];exact h2,h3⟩
 ·rw[Qi (by rintro rfl;exact hn ha)];exact(S.dl a ha).1
theorem QcR {keys:List (Option Expr)}{values:List Expr}{pairs:List (Sem Vl × Sem Vl)}
  (hshape:(evalEachOpt keys ou).zip ((evalEach values ou).map λv=>do let x <- v;standAt p;pure x)=pairs.map λq=>(some q.1,q.2)) (h0:pairs≠[]) (hlen:pairs.length<=15)
  (h:W c N ou m oh (evalPairs pairs) λvs m o=>∃oj,Carries (strKind c.prog c.w) vs oj/\∀D Do,New c o D->IsD c Do (merged [] oj)->k (.ref D) m (o.put D Do)):W c N ou m oh (eval (.Dict keys values p) ou) k:=by
 intro A s fr Q hA S P hQ
 refine wpAny_Dict_pairs (knd:=strKind c.prog c.w) hshape h0 hlen ?_
 have D_own:=S.sg.fresh
 have D_fr:=S.sg.aH
 have D_H:=S.sg.aA
 have D_tab:s.heap.objs.size∉c.tabs:=λhT=>Nat.lt_irrefl _ (S.sg.aj hT)
 have D_env:¬ QQ ou s.heap.objs.size:=λha=>by obtain⟨o,ho⟩:=S.fm.there ha;exact Nat.lt_irrefl _ (Heap.lt_size ho)
 have S1:St c ou m oh fr { s with heap:=s.heap.push { cls:=.type "dict",data:=.dict #[] } }:=S.grow (t:=s.toks) λb o e=>gp_ _ e
 have S2:=S1.hid (wr:=[s.heap.objs.size]) λb hb=>by refine memS hb ?_;exact⟨D_own,D_fr,D_tab,D_env⟩
 have live:(s.heap.push { cls:=.type "dict",data:=.dict #[] }).get? s.heap.objs.size=some { cls:=.type "dict",data:=.dict #[] }:=gz_ _ rfl
 refine h.run hA S2 P λvs m₁ o₁ s₁ ⟨oj,hc,hk⟩ S₁ P₁=>?_
 have D1:s₁.heap.get? s.heap.objs.size=some { cls:=.type "dict",data:=.dict #[] }:=S₁.sg.hfr _ _ (by rw[XD (.head _)];exact live)
 have D1own:o₁ s.heap.objs.size=none:=by
  cases e:o₁ s.heap.objs.size with
  |none=>rfl
  |some o =>
   have:=S₁.sg.dj _ _ e
   rw[XD (.head _)] at this
   have live':=live
   dsimp only at this
   cases live',this
 refine⟨oj,hc,Heap.dictOf_iff.mpr ⟨_,D1,#[],0,⟨rfl,rfl,rfl⟩,rfl,λx_ he=>by simp at he,Pairs.nil,List.nodup_nil⟩,λh' hd' hs=>?_⟩
 obtain⟨Do,hDo,hdd⟩:=Heap.dictOf_iff.mp hd'
 have wrF:∀b∈[s.heap.objs.size],fr b=none/\b∉c.tabs/\¬ QQ ou b:=λb hb=>by refine memS hb ?_;exact⟨D_fr,D_tab,D_env⟩
 have S3:=(S₁.moved (t:=s₁.toks+vs.length) (h':=h') wrF (λb hb=>by refine memS hb ?_;exact⟨_,live⟩) λb o hb e=>(hs.2 b (λz=>hb (by rw[z];exact .head _))).trans e).show λb hb=>(wrF b hb).1
 exact hQ _ _ _ _ (hk _ Do ⟨D1own,D_H⟩ hdd) (S3.adopt D1own D_fr D_tab D_env hDo)
theorem Qbi (h:∀D Do,New c oh D->IsD c Do []->k (.ref D) m (oh.put D Do)):W c N ou m oh (eval (.Dict [] [] p) ou) k:=by
 rw[arm_eval_Dict]
 refine Qc (Q1 ?_)
 show W c N ou m oh newDict k
 exact Y5 (o:={ cls:=.type "dict",data:=.dict #[] }) (λA s fr Q hA S P hQ=>wpAny_newObj_type (hQ s.toks)) rfl λD hD=>h D _ hD ⟨#[],0,⟨rfl,rfl,rfl⟩,rfl,λx_ he=>by simp at he,Pairs.nil,List.nodup_nil⟩
theorem Qdn {k:KB_}(h:oh a=some (lst xs n)) (hz:xs.length<=sizeLine) (hk:k (!xs.isEmpty) m oh):W c N ou m oh (truthy (.ref a)) k :=
 Q6 (a:=!xs.isEmpty) (λA s fr Q hA S P hQ=>wpAny_truthy_list (S.sg.lst h) (by simpa using qV hz) (by simpa using hQ _)) hk
theorem Qhd {k:KB_}(hk:k false m oh):W c N ou m oh (truthy .none) k:=Q6 (a:=false) (λA s fr Q hA S P hQ=>λx_ x_ x_=>hQ s.toks) hk
end
inductive Xf:List DictEntry->List (Str × Vl)->Prop
 |nil:Xf [] []
 |cons {h x t v r oj:_}:Xf r oj->Xf (⟨h,.str x t,v⟩::r) ((x,v)::oj)
def Yu (o:Obj) (oj:LV):Prop:=∃es n,o=dictOf es n/\Xf es oj
noncomputable def Yr (name:Str) (v:Vl):List (Str × Vl)->List (Str × Vl)
 | []=>[(name,v)]
 |p::r=>if p.1=name then (p.1,v)::r else p::Yr name v r
theorem Qd9 (x name:Str) (t:Tok):(Value.str x t).isStr name=decide (name=x):=by
 by_cases h:name=x
 ·subst h;simp[Value.isStr]
 ·have h':x≠name:=λe=>h e.symm
  simp[Value.isStr,h,h']
theorem Xf.noRef {es:List DictEntry}{oj:LV}(h:Xf es oj):es.any (·.refKey)=false:=by
 induction h with
 |nil=>rfl
 |cons _ ih=>rw[List.any_cons,ih];rfl
theorem Xf.look {name:Str}:∀ {es:List DictEntry}{oj:LV},Xf es oj->getL name es=some (oj.lookup name)
 |_,_,.nil=>rfl
 |_,_,.cons (x:=x) (t:=t) (v:=v) (r:=r) (oj:=oj) h=>by
  have ih:=h.look (name:=name)
  have nr:=h.noRef
  unfold getL at ih ⊢
  rw[nr] at ih
  rw[List.any_cons,nr,List.find?_cons,kc_]
  dsimp only
  rw[Qd9]
  by_cases hx:name=x
  ·have:(name==x)=true:=by simpa using hx
   rw[decide_eq_true hx,this]
  ·have:(name==x)=false:=by simpa using hx
   rw[decide_eq_false hx,this]
   exact ih
theorem Xf.put {name:Str}{hsh:Int}{t0:Tok}{v0:Vl}:∀ {es:List DictEntry}{oj:LV},Xf es oj->Xf (putL name hsh (.str name t0) v0 es) (Yr name v0 oj)
 |_,_,.nil=>.cons .nil
 |_,_,.cons (x:=x) (t:=t) (v:=v) (r:=r) (oj:=oj) h=>by
  unfold putL Yr
  dsimp only
  rw[Qd9]
  by_cases hx:x=name
  ·rw[if_pos hx,decide_eq_true hx.symm,if_pos rfl];exact .cons h
  ·rw[if_neg hx,decide_eq_false (λe=>hx e.symm),if_neg (by decide)];exact .cons h.put
theorem Xf.len:∀ {es:List DictEntry}{oj:LV},Xf es oj->es.length=oj.length
 |_,_,.nil=>rfl
 |_,_,.cons h=>by rw[lc_,lc_,h.len]
theorem Qe7 (name:Str) (v:Vl):∀oj:List (Str × Vl),(Yr name v oj).length<=oj.length+1
 | []=>Nat.le_refl _
 |p::r=>by
  unfold Yr
  split
  ·simp
  ·have:=Qe7 name v r;simp only[lc_];omega
theorem Yu.look {oj:LV}(h:Yu o oj) (name:Str):lookIn name o=some (oj.lookup name):=by
 obtain⟨es,n,rfl,he⟩:=h
 exact he.look
section
structure ZO (oh:Own) (x C:Ad) (oj:LV):Prop where
 obj:∃dx od,oh x=some (instObj C dx)/\oh dx=some od/\Yu od oj
theorem ZO.at {x C:Ad}{oj:LV}(I:ZO oh x C oj) (S:Sg c oh fr s):∃dx od,Yu od oj/\InstAt s.heap x (instObj C dx) C (some od):=by
 obtain⟨dx,od,h1,h2,h3⟩:=I.obj
 exact⟨dx,od,h3,⟨S.has _ _ h1,rfl,rfl,S.has _ _ h2⟩⟩
theorem Qni {args:Args}{C:Ad}(h:Qu (N+1) A):Qu N (A.under (.builtin "type.__call__" ⟨.ref C::args.pos,args.kw⟩)):=by
 have w:(Code.builtin "type.__call__" ⟨.ref C::args.pos,args.kw⟩).weight=1:=by
  unfold Code.weight
  have h1:(Code.builtin "type.__call__" ⟨.ref C::args.pos,args.kw⟩).frames=0:=rfl
  have h2:(Code.builtin "type.__call__" ⟨.ref C::args.pos,args.kw⟩).isCreation=true:=rfl
  have h3:(Code.builtin "type.__call__" ⟨.ref C::args.pos,args.kw⟩).isGuard=false:=by show guardIds.contains "type.__call__"=false;ac_rfl
  have h4:(Code.builtin "type.__call__" ⟨.ref C::args.pos,args.kw⟩).isCaller=false:=rfl
  rw[h1,h2,h3,h4];rfl
 have u:(Code.builtin "type.__call__" ⟨.ref C::args.pos,args.kw⟩).cUnits=1:=rfl
 refine⟨?_,?_,h.2.2⟩
 ·show A.depth+(Code.builtin "type.__call__" ⟨.ref C::args.pos,args.kw⟩).weight+N < _
  rw[w];have:=h.1;omega
 ·show A.units+(Code.builtin "type.__call__" ⟨.ref C::args.pos,args.kw⟩).cUnits+20*N < _
  rw[u];have:=h.2.1;omega
theorem qX {C fI:Ad}{rest:List Vl}{kw:LV}{k:KO}(hm:makesIn c.K C=true) (hi:findIn c.K (.ref C) "__init__"=some (some (.ref fI))) (hf:typeIn c.K (.ref fI)=some (.type "function"))
  (h:∀D X,New c oh D->New c (oh.put D emptyDict) X->CC c N ((oh.put D emptyDict).put X (instObj C D)) (.call (.ref fI) ⟨.ref X::rest,kw⟩) λr o'=>r = .none/\k (.ref X) o'):CW c (N+1) oh (call (.ref C) rest kw) k:=by
 intro A s fr Q hA S P hQ
 obtain⟨hh,g,d,t,os⟩:=s
 have S1:=S.push emptyDict t rfl
 have S2:=S1.push (instObj C hh.objs.size) t rfl
 have e:({ heap:=hh.push emptyDict,gens:=g,drawn:=d,toks:=t,os:=os }:Sh).heap.objs.size=hh.objs.size+1:=Heap.size_push ..
 refine wpAny_call (make_core (makes_of S.kIn hm) (looks_findIn S.kIn hi) (λself=>bind_fn S.kIn self hf) (.inl rfl) ?_)
 have hX:New c (oh.put hh.objs.size emptyDict) (hh.objs.size+1):=by
  have a:=S1.fresh;have b:=S1.aA
  dsimp only at a b
  rw[Heap.size_push] at a b
  exact⟨a,b⟩
 have S2':Sg c ((oh.put hh.objs.size emptyDict).put (hh.objs.size+1) (instObj C hh.objs.size)) fr ⟨(hh.push emptyDict).push (instObj C hh.objs.size),g,d,t,os⟩:=by
  have:=S2
  dsimp only at this
  rwa [Heap.size_push] at this
 exact h _ _ ⟨S.fresh,S.aA⟩ hX _ _ fr _ (Qni (args:=⟨rest,kw⟩) hA) S2' P λv o' s' hk S'=>⟨hk.1,hQ _ _ _ hk.2 S'⟩
theorem Zc {x C:Ad}{oj:LV}{name:Str}{attr:Option Vl}{expr:Bool}(I:ZO oh x C oj) (hga:findIn c.K (.ref C) "__getattribute__"=some (some (.builtin "object.__getattribute__")))
  (hh:hasDictIn c.K C=true) (ha:findIn c.K (.ref C) name=some attr) (hn:noGet c.K attr=true) (hl:oj.lookup name=some v) (hv:handedIn v=true) (hk:k v m oh):W c N ou m oh (getAttr (.ref x) name expr) k:=by
 refine Q6 (a:=v) (λA s fr Q hA S P hQ=>?_) hk
 obtain⟨dx,od,hd,I'⟩:=I.at S.sg
 exact get_value S.sg.kIn I' hga (findObj_own hh ha hn (by rw[hd.look,hl])) hv (hQ _)
theorem Zo {x C f:Ad}{oj:LV}{name:Str}{k:Vl->List Vl->Loc->Own->Prop}(I:ZO oh x C oj) (hga:findIn c.K (.ref C) "__getattribute__"=some (some (.builtin "object.__getattribute__"))) (hk:findIn c.K (.ref C) "__getattr__"=some none)
  (hf:findIn c.K (.ref C) name=some (some (.ref f))) (ht:typeIn c.K (.ref f)=some (.type "function")) (hl:oj.lookup name=none) (h:k (.ref f) [.ref x] m oh):ZB c N ou m oh (.ref x) name k:=by
 intro pl
 refine Q6 (a:=(.ref f,[.ref x])) (λA s fr Q hA S P hQ=>?_) h
 obtain⟨dx,od,hd,I'⟩:=I.at S.sg
 exact method_fn S.sg.kIn I' hga hk hf ht (by show (lookIn name od).map (·.isSome)=some false;rw[hd.look,hl];rfl) (hQ s.toks)
theorem QbN {K:Frag}{C:Ad}(h:hasDictIn K C=true):∃cd,clsIn K C=some cd/\cd.hasDict=true:=any_some h
theorem QlI {name:Str}{es:List DictEntry}{oj:LV}(h:Xf es oj):(!es.any (·.key.isStr name)&&es.any (·.refKey))=false:=by rw[h.noRef,Bool.and_false]
theorem Qg8 {x C dx:Ad}{od:Obj}{oj:LV}{name:Str}{k:KU_}(ho:oh x=some (instObj C dx)) (hd:oh dx=some od) (ha:Yu od oj) (hb:c.H.get? dx=none) (hz:oj.length<=900)
  (hs:findIn c.K (.ref C) "__setattr__"=some (some (.builtin "object.__setattr__"))) (hp:plainOver c.K C=true) (ht:takerIn c.K C name=some none) (hh:hasDictIn c.K C=true)
  (hk:∀od',Yu od' (Yr name v oj)->k () m (oh.put dx od')):W c N ou m oh (setAttr (.ref x) name v) k:=by
 obtain⟨es,n,rfl,he⟩:=ha
 refine XY (P:=λo=>Yu o (Yr name v oj)) hd hb (λA s fr Q hA S P hQ=>?_) hk
 have hx:=S.sg.has _ _ ho
 have D:=S.sg.has _ _ hd
 have X:=S.sg.kIn
 have I:InstAt s.heap x (instObj C dx) C (some (dictOf es n)):=⟨hx,rfl,rfl,D⟩
 obtain⟨cd,hc,hcd⟩:=QbN hh
 obtain⟨H,g,dr,tk,os⟩:=s
 dsimp only at hx D X I hQ
 refine set_plain X I hs (osa_open X I hp ht λb=>?_)
 refine wb9 (wp_ (wb9 (wb9 (wpAny_loadPart hx (wb9 ((looks_clsIn X hc).at ?_))))))
 rw[hcd]
 refine wp_ (a:=some dx) (wb9 (wp_ (wb9 ?_)))
 unfold nsSet
 refine wb9 (wb9 (wpAny_askSetting (wp_ (wb9 (wpAny_mkText (wb9 (wpAny_loadPart D ?_)))))))
 dsimp only
 have hit:(!es.toArray.any (·.key.isStr name)&&es.toArray.any (·.refKey))=false:=by
  rw[<- Array.any_toList,<- Array.any_toList];exact QlI he
 rw[aRefKeyMayBeTheName_at,hit]
 have D':=Heap.get?_update_self (Obj.putName name (PyData.keyHash c.w.params name) (.str name (tk+1)) v) D (by rw[putName_dict];rfl)
 rw[putName_dict] at D'
 have hl:=(he.put (name:=name) (hsh:=PyData.keyHash c.w.params name) (t0:=tk+1) (v0:=v)).len
 refine wpAny_updatePart D ?_
 refine wb9 (wpAny_lookBehind D' (pastItsLine_dict (by rw[List.size_toArray,sizeLine_eq,hl];have:(Yr name v oj).length<=oj.length+1:=Qe7 ..;omega)) ?_)
 exact wp_ (hQ _ _ _ (Heap.SameBut.update ..) D' ⟨_,_,rfl,he.put⟩)
end
theorem QdS {K:Frag}{C:Ad}{od:Obj}{name:Str}{a g:Vl}(hh:hasDictIn K C=true) (ha:findIn K (.ref C) name=some (some a)) (hg:specialIn K a "__get__"=some (some g)) (ht:takesIn K a=some false)
  (hn:copiedNames.contains name=false) (hl:lookIn name od=some none):findObj K C (some od) name=some (.bind g a):=by
 obtain⟨cd,hc,hd⟩:=QbN hh
 unfold findObj
 rw[hc,Option.bind_some,ha,Option.bind_some]
 have ho:W.ownOf cd (some od) name=some none:=by unfold W.ownOf;rw[if_pos hd];exact hl
 show (specialIn K a "__get__").bind _=_
 rw[hg]
 show (takesIn K a).bind _=_
 rw[ht]
 show (W.ownOf cd (some od) name).bind _=_
 rw[ho]
 show (if (copiedNames.contains name&&_)=true then _ else _)=_
 rw[hn]
 rfl
section
theorem Qbr {x C:Ad}{oj:LV}{name:Str}{a:Vl}{expr:Bool}(I:ZO oh x C oj) (hga:findIn c.K (.ref C) "__getattribute__"=some (some (.builtin "object.__getattribute__")))
  (hh:hasDictIn c.K C=true) (ha:findIn c.K (.ref C) name=some (some a)) (hn:specialIn c.K a "__get__"=some none) (hv:handedIn a=true) (hc:copiedNames.contains name=false) (hl:oj.lookup name=none) (hk:k a m oh):W c N ou m oh (getAttr (.ref x) name expr) k:=by
 refine Q6 (a:=a) (λA s fr Q hA S P hQ=>?_) hk
 obtain⟨dx,od,hd,I'⟩:=I.at S.sg
 exact get_value S.sg.kIn I' hga (findObj_cls hh ha hn hv hc (by rw[hd.look,hl])) hv (hQ _)
theorem QgC {x C p fget:Ad}{rest:List Vl}{oj:LV}{name:Str}{expr:Bool}(I:ZO oh x C oj) (hga:findIn c.K (.ref C) "__getattribute__"=some (some (.builtin "object.__getattribute__")))
  (hgt:findIn c.K (.ref C) "__getattr__"=some none) (hh:hasDictIn c.K C=true) (ha:findIn c.K (.ref C) name=some (some (.ref p))) (hn:specialIn c.K (.ref p) "__get__"=some (some (.builtin "property.__get__"))) (ht:takesIn c.K (.ref p)=some true)
  (hp:recIn c.K p "property"=some (.ref fget::rest)) (h:CC c N oh (.call (.ref fget) ⟨[.ref x],[]⟩) λv o=>handedIn v=true/\k v m o):W c (N+1) ou m oh (getAttr (.ref x) name expr) k:=by
 intro A s fr Q hA S P hQ
 obtain⟨dx,od,hd,I'⟩:=I.at S.sg
 obtain⟨cd,hc,_⟩:=QbN hh
 refine get_bind S.sg.kIn I' hga (findObj_data (by rw[hc];rfl) ha hn ht) hgt (wpAny_call (prop_get (s:={ s with toks:=s.toks+1 }) S.sg.kIn hp ?_))
 exact h A.in1 _ _ _ hA.in1 (S.tok (s.toks+1)).apart (Nat.succ_pos _) λv o' s' hk S'=>handed_on hk.1 (hQ _ _ _ _ hk.2 ((S.tok (s.toks+1)).back S'))
theorem Qf8 {C p:Ad}{mc f:Vl}{rest:List Vl}{name:Str}{k:Vl->List Vl->Loc->Own->Prop}(hg:specialIn c.K (.ref C) "__getattribute__"=some (some (.builtin "type.__getattribute__"))) (hr:readsIn c.K C mc=true)
  (e:findCls c.K (.ref C) mc name=some (.get (.builtin "classmethod.__get__") (.ref p) .none (.ref C))) (hp:recIn c.K p "classmethod"=some (f::rest))
  (h:∀q,New c oh q->k (.ref q) [] m (oh.put q (methodObj f (.ref C)))):ZB c N ou m oh (.ref C) name k:=by
 intro pl A s fr Q hA S P hQ
 refine method_cls S.sg.kIn hg (cls_bind S.sg.kIn hr e (wpAny_call (cm_get (s:={ s with toks:=s.toks+1 }) S.sg.kIn hp (handed_on rfl ?_))))
 exact hQ _ m _ _ (h _ ⟨S.sg.fresh,S.sg.aA⟩) (S.back (S.apart.push _ (s.toks+1) rfl))
theorem Qdz {q f:Ad}{self:Vl}(hq:oh q=some (methodObj (.ref f) self)) (hf:fnIn c.K f=true):Q0 c oh (.ref q):=λfr s S=>keeps_M hf s.heap ⟨S.has _ _ hq,S.kIn⟩
theorem QaZ {q:Ad}{f self:Vl}{pos:List Vl}{kw:LV}{k:KO}(hq:oh q=some (methodObj f self)) (h:CC c N oh (.call f ⟨self::pos,kw⟩) k):CW c N oh (call (.ref q) pos kw) k :=
 λA s fr Q hA S P hQ=>wpAny_call (method_call (S.has _ _ hq) (h A s fr _ hA S P λv o' s' hk S'=>hQ v o' s' hk S'))
theorem Qge {x C p:Ad}{f:Vl}{rest:List Vl}{oj:LV}{name:Str}{k:Vl->List Vl->Loc->Own->Prop}(I:∀fr s,Sg c oh fr s->∃ox od,(∀n,lookIn n od=some (oj.lookup n))/\InstAt s.heap x ox C (some od))
  (hga:findIn c.K (.ref C) "__getattribute__"=some (some (.builtin "object.__getattribute__"))) (hgt:findIn c.K (.ref C) "__getattr__"=some none) (hh:hasDictIn c.K C=true)
  (ha:findIn c.K (.ref C) name=some (some (.ref p))) (hty:((typeIn c.K (.ref p)).any λt=>t != .type "function"&&t != .type "method_descriptor"&&t != .type "wrapper_descriptor")=true)
  (hn:specialIn c.K (.ref p) "__get__"=some (some (.builtin "staticmethod.__get__"))) (ht:takesIn c.K (.ref p)=some false) (hcn:copiedNames.contains name=false) (hl:oj.lookup name=none)
  (hp:recIn c.K p "staticmethod"=some (f::rest)) (hv:handedIn f=true) (h:k f [] m oh):ZB c N ou m oh (.ref x) name k:=by
 intro pl A s fr Q hA S P hQ
 obtain⟨ox,od,hlk,I'⟩:=I _ _ S.sg
 refine method_usual S.sg.kIn I' hga hgt ha hty (get_bind S.sg.kIn I' hga (QdS hh ha hn ht hcn (by rw[hlk,hl])) hgt (wpAny_call (sm_get (s:={ s with toks:=s.toks+1 }) S.sg.kIn hp (handed_on hv ?_))))
 exact hQ _ m _ _ h (S.tok _)
theorem QgB {x C p:Ad}{oj:LV}{name:Str}{expr:Bool}(I:ZO oh x C oj) (hga:findIn c.K (.ref C) "__getattribute__"=some (some (.builtin "object.__getattribute__")))
  (hgt:findIn c.K (.ref C) "__getattr__"=some none) (hh:hasDictIn c.K C=true) (ha:findIn c.K (.ref C) name=some (some (.ref p))) (hn:specialIn c.K (.ref p) "__get__"=some (some (.builtin "function.__get__"))) (ht:takesIn c.K (.ref p)=some false)
  (hty:typeIn c.K (.ref p)=some (.type "function")) (hcn:copiedNames.contains name=false) (hl:oj.lookup name=none) (hk:∀q,New c oh q->k (.ref q) m (oh.put q (methodObj (.ref p) (.ref x)))):W c N ou m oh (getAttr (.ref x) name expr) k:=by
 refine Y5 (o:=methodObj (.ref p) (.ref x)) (λA s fr Q hA S P hQ=>?_) rfl hk
 obtain⟨dx,od,hd,I'⟩:=I.at S.sg
 exact get_bind S.sg.kIn I' hga (QdS hh ha hn ht hcn (by rw[hd.look,hl])) hgt (wpAny_call (fn_get (s:={ s with toks:=s.toks+1 }) S.sg.kIn hty (handed_on rfl (hQ _))))
end
section
open PySem.Builtin.Str
section
theorem Qnb {M:Model}{A:Ar}{E:KQ_}{y z:Str}{n1 n2:Nat}{p1 p2:Pos}{Q:List Vl->Sh->Prop}(h:Q [.str y s.toks,.str z (s.toks+1)] { s with toks:=s.toks+1+1 }) :
  wA M A (spliced [(false,eval (.Constant (.str y) n1 p1) ou),(false,eval (.Constant (.str z) n2 p2) ou)]) Q E s:=by
 unfold spliced
 refine wb9 (wpAny_Constant_str ?_)
 simp only[Bool.false_eq_true,if_false]
 refine wb9 (wp_ (wb9 (wh_ ?_)))
 unfold spliced
 refine wb9 (wpAny_Constant_str ?_)
 simp only[Bool.false_eq_true,if_false]
 refine wb9 (wp_ (wb9 (wh_ ?_)))
 unfold spliced
 exact wp_ (wp_ (wp_ h))
theorem Qna {M:Model}{A:Ar}{E:KQ_}{y z:Str}{n1 n2:Nat}{p1 p2 p:Pos}{f:Vl}{Q:Args->Sh->Prop}(h:Q ⟨[.str y s.toks,.str z (s.toks+1)],[]⟩ { s with toks:=s.toks+1+1 }) :
  wA M A (evalArgs f true (backTo p (starEach [.Constant (.str y) n1 p1,.Constant (.str z) n2 p2] ou)) []) Q E s:=by
 rw[Yt rfl,X4]
 unfold evalArgs
 show wA _ _ (spliced [(false,eval (.Constant (.str y) n1 p1) ou),(false,eval (.Constant (.str z) n2 p2) ou)] >>= _) _ _ _
 refine wb9 (Qnb (wb9 (wp_ (wh_ ?_))))
 exact wb9 (wp_ (wb9 (wp_ (wp_ h))))
theorem Qa7 {name:Str}{id:String}{k:Vl->List Vl->Loc->Own->Prop}(hg:∀ (M:Model) (A:Ar) (E:KQ_) (s:Sh) (pl:Sem Bool) (Q:Vl × List Vl->Sh->Prop),Q (.builtin id,[.str x t]) s->wA M A (getMethod (.str x t) name pl) Q E s)
  (h:k (.builtin id) [.str x t] m oh):ZB c N ou m oh (.str x t) name k:=λpl=>by
 with_reducible refine Q6 (a:=(.builtin id,[.str x t])) (λA s fr Q hA S P hQ=>?_) h
 with_reducible exact hg _ _ _ _ _ _ (hQ s.toks)
theorem Qgf {k:Vl->List Vl->Loc->Own->Prop}(h:k (.builtin "str.split") [.str x t] m oh):ZB c N ou m oh (.str x t) (zz "split") k:=by with_reducible exact Qa7 (λx_ x_ x_ x_ x_ x_ h=>by with_reducible exact GM.split h) h
theorem Qgc {k:Vl->List Vl->Loc->Own->Prop}(h:k (.builtin "str.join") [.str x t] m oh):ZB c N ou m oh (.str x t) (zz "join") k:=by with_reducible exact Qa7 (λx_ x_ x_ x_ x_ x_ h=>by with_reducible exact GM.join h) h
theorem Qgd {k:Vl->List Vl->Loc->Own->Prop}(h:k (.builtin "str.rfind") [.str x t] m oh):ZB c N ou m oh (.str x t) (zz "rfind") k:=by with_reducible exact Qa7 (λx_ x_ x_ x_ x_ x_ h=>by with_reducible exact GM.rfind h) h
theorem Qdh {o:Expr}{apos p p1 p2:Pos}{y z:Str}{n1 n2:Nat}
  (h:W c N ou m oh (eval o ou) λv m w=>∃x t,v = .str x t/\x.length<=1048576/\∀t',k (.str (Txt.replace x y z) t') m w) (hyz:(y==z)=false) (hz:z.length<=14)
  (aM:attributeBase o (zz "replace") ou (eval o ou)=eval o ou) (aY:(apos.endLine==p.line)=true) :
  W c N ou m oh (eval (.Call (.Attribute o (zz "replace") apos) [.Constant (.str y) n1 p1,.Constant (.str z) n2 p2] [] p) ou) k:=by
 rw[arm_eval_Call,aM]
 have hf:methodCallForm ([Expr.Constant (.str y) n1 p1,.Constant (.str z) n2 p2].length+([]:List Keyword).length) (backTo p (starEach [.Constant (.str y) n1 p1,.Constant (.str z) n2 p2] ou)) (backToKw p (keywordEach [] ou))=true:=rfl
 refine Qc (Qk h λov m w h=>Qc (Q1 ?_))
 obtain⟨x,t,rfl,hx,hk⟩:=h
 unfold methodCall
 rw[hf]
 refine Qc (Q9 ?_)
 with_reducible refine Q6 (a:=(.builtin "str.replace",[.str x t])) (λA s fr Q hA S P hQ=>?hg) ?_
 case hg=>exact GM.replace (hQ s.toks)
 have hp:methodCallPos true o ou apos p=pure p:=by unfold methodCallPos;exact if_pos aY
 rw[hp]
 refine Qc (Qs ?_)
 intro A s fr Q hA S P hQ
 refine callWith_of (P:=λx_=>True) rfl (λx_ x_=>⟨.machine,.inr (.inl rfl),Looks.of_pure rfl⟩) (Qna ⟨trivial,?_⟩)
 have h1:s.toks≠0:=Nat.ne_of_gt P
 exact SC.replaceW h1 (Nat.succ_ne_zero _) (Nat.ne_of_lt (Nat.lt_succ_self _)) hyz hx hz λt' k'=>hQ _ m w _ (hk t') (S.tok k')
theorem Qnc {prog:Program}{w:World}{E:KQ_}{x y:Str}{t u:Tok}{Q:KQ_}(hy:(y.length==0)=false) (hz:x.length<=sizeLine) (hz2:(Txt.split x y).length<=sizeLine)
  (hQ:∀l tk,l.map (·.1)=Txt.split x y->Q (.ref s.heap.objs.size) { s with toks:=tk,heap:=s.heap.push (lst (strValues l) 0) }):wA (model prog w) A (call (.builtin "str.split") [.str x t,.str y u]) Q E s:=by
 cases h1:(decide (x.length < y.length)||decide (PySem.Builtin.Str.strKind x < PySem.Builtin.Str.strKind y))
 ·cases hf:(occurrences x y 0 x.length (x.length+1)).isEmpty
  ·have e:Txt.split x y=partsBetween x (occurrences x y 0 x.length (x.length+1)) y.length:=(if_neg (ne_true_of_eq_false h1)).trans (if_neg (ne_true_of_eq_false hf))
   refine call_meets F.slot_str_split (typeIs_str _ _ _) F.entry_str_split (F.args_str_split_2 _ _) (meets_str_split_sep x y t u h1 hy hf hz (by rw[<- e];exact hz2)) ?_
   show wants Q E _ { s with toks:=_,heap:=s.heap.push { cls:=.type "list",data:=.seq (strsFrom s.toks (partsBetween x (occurrences x y 0 x.length (x.length+1)) y.length)).toArray } }
   rw[strsFrom_eq]
   exact hQ (numbered s.toks _) _ ((numbered_texts _ _).trans e.symm)
  ·have e:Txt.split x y=[x]:=(if_neg (ne_true_of_eq_false h1)).trans (if_pos hf)
   exact call_meets F.slot_str_split (typeIs_str _ _ _) F.entry_str_split (F.args_str_split_2 _ _) (meets_str_split_not_found x y t u h1 hy hf) (hQ [(x,t)] s.toks e.symm)
 ·have e:Txt.split x y=[x]:=if_pos h1
  exact call_meets F.slot_str_split (typeIs_str _ _ _) F.entry_str_split (F.args_str_split_2 _ _) (meets_str_split_cannot_occur x y t u h1) (hQ [(x,t)] s.toks e.symm)
theorem Qg9 {x y:Str}{t u:Tok}(hy:(y.length==0)=false) (hz:x.length<=sizeLine) (hz2:(Txt.split x y).length<=sizeLine)
  (hk:∀D l,New c oh D->l.map (·.1)=Txt.split x y->k (.ref D) m (oh.put D (lst (strValues l) 0))):W c N ou m oh (call (.builtin "str.split") [.str x t,.str y u]) k :=
 λA s fr Q hA S P hQ=>Qnc hy hz hz2 λl tk e=>hQ _ m _ _ (hk _ l ⟨S.sg.fresh,S.sg.aA⟩ e) (S.back (S.apart.push _ tk rfl))
end
end
theorem YS {g:Nat}{x:GenState}:(s.setGen g x).gens.size=s.gens.size:=by simp[Shared.setGen]
theorem Qcb {M:Model}{Γ:Ctx}{t:Sem Fin}{fs:List Frame}{s s':Sh}{e:End}(h:Runs M Γ p t fs s e s'):s.gens.size<=s'.gens.size:=by
 induction h<;>(try simp only[YS,Array.size_push] at *)<;>omega
theorem QnO {M:Model}{Γ:Ctx}{g:Nat}{r:Resume}{s s':Sh}{res:GenResult}(h:Wakes M Γ p g r s res s'):s.gens.size<=s'.gens.size:=by
 unfold Wakes at h
 split at h
 ·exact h.elim
 ·split at h
  ·obtain⟨e₁,s₁,hr,_,_,rfl⟩:=h;rw[YS];have:=Qcb hr;rwa [YS] at this
  ·rw[h.2];exact Nat.le_refl _
  ·rw[h.2,YS];exact Nat.le_refl _
 ·obtain⟨e₁,s₁,hr,_,_,rfl⟩:=h;rw[YS];have:=Qcb hr;rwa [YS] at this
 ·rw[h.2];exact Nat.le_refl _
 ·rw[h.2];exact Nat.le_refl _
theorem QnZ {α:Type}(M:Model) (Γ:Ctx) (n:Nat) (t:Sem α):∀ (Q:α->Pos->Sh->Prop) (E:Vl->Pos->Sh->Prop) (p:Pos) (s:Sh),n<=s.gens.size->Sem.wp M Γ t Q E p s ->
  Sem.wp M Γ t (λa p' s'=>n<=s'.gens.size/\Q a p' s') (λe p' s'=>n<=s'.gens.size/\E e p' s') p s:=by
 induction t with
 |pure a=>intro Q E p s hn h;exact⟨hn,h⟩
 |raise e=>intro Q E p s hn h;exact⟨hn,h⟩
 |unsupported _=>intro Q E p s _ h;exact h
 |finish _=>intro Q E p s _ h;exact h
 |rule _ k ih=>intro Q E p s hn h;exact ih () Q E p s hn h
 | «at» p' k ih=>intro Q E p s hn h;exact ih () Q E p' s hn h
 |load a _ k ih=>intro Q E p s hn h;obtain⟨o,ho,h⟩:=h;exact⟨o,ho,ih o Q E p s hn h⟩
 |update a _ f k ih=>intro Q E p s hn h;exact⟨h.1,ih () Q E p _ hn h.2⟩
 |loadIfAlive a k ih=>intro Q E p s hn h;exact ih _ Q E p s hn h
 |point _ k ih=>intro Q E p s hn h;exact ih () Q E p s hn h
 |register _ _=>intro Q E p s _ h;exact h
 |alloc o k ih=>intro Q E p s hn h;exact ih _ Q E p _ hn h
 |fresh k ih=>intro Q E p s hn h;exact ih _ Q E p _ hn h
 |ask k ih=>intro Q E p s hn h;exact ih _ Q E p s hn h
 |choose src m k ih=>intro Q E p s hn h;exact⟨h.1,ih _ Q E p _ hn h.2⟩
 |os q _ k ih=>intro Q E p s hn h;exact ih _ Q E p _ hn h
 |call c hd _ _ k ih=>intro Q E p s hn h;obtain⟨r,s',hr,h⟩:=h;exact⟨r,s',hr,ih r Q E p s' (Nat.le_trans hn (Qcb hr)) h⟩
 |handled oh k ih=>intro Q E p s hn h;exact ih _ Q E p s hn h
 |genState g k ih=>intro Q E p s hn h;obtain⟨st,hs,h⟩:=h;exact⟨st,hs,ih _ Q E p s hn h⟩
 |newGen c k ih=>intro Q E p s hn h;exact ih _ Q E p _ (by simp only[Array.size_push];omega) h
 |resume g r _ k ih=>intro Q E p s hn h;obtain⟨res,s',hw,h⟩:=h;exact⟨res,s',hw,ih res Q E p s' (Nat.le_trans hn (QnO hw)) h⟩
 |yield _ _ _ _=>intro Q E p s _ h;exact h
 |stack k ih=>intro Q E p s hn h;exact ih _ Q E p s hn h
 |fork _ _=>intro Q E p s _ h;exact h
 |thread k ih=>intro Q E p s hn h;exact ih _ Q E p s hn h
 |await _ _ _ _ _=>intro Q E p s _ h;exact h
theorem QnR {α:Type}{M:Model}{t:Sem α}{Q:α->Sh->Prop}{E:KQ_}(hn:n<=s.gens.size) (h:wA M A t Q E s) :
  wA M A t (λa s'=>n<=s'.gens.size/\Q a s') (λe s'=>n<=s'.gens.size/\E e s') s :=
 λ Γ p hΓ=>QnZ M Γ n t _ _ p s hn (h Γ p hΓ)
theorem QnQ {α:Type}{M:Model}{t:Sem α}{Q:α->Sh->Prop}{E:KQ_}(hn:n<=s.gens.size)
  (h:wA M A t (λa s'=>n<=s'.gens.size->Q a s') (λe s'=>n<=s'.gens.size->E e s') s):wA M A t Q E s :=
 wpAny_mono (QnR hn h) (λx_ x_ x=>x.2 x.1) (λx_ x_ x=>x.2 x.1)
structure Gs (c:Cx) (target:Expr) (I:Ad) (fp wr:List Ad) (n:Nat) (P:Nat->Vl->Option (List Vl)->Prop) (St:Nat->Heap->Prop):Prop where
 sub:∀b∈wr,b∈fp
 frame:∀i h h',St i h->(∀b∈fp,∀o,h.get? b=some o->h'.get? b=some o)->St i h'
 live:∀i h,St i h->∀b∈wr,∃o,h.get? b=some o
 item:∀ (A:Ar) i (s:Sh) (Q:Option Vl->Sh->Prop) (E:KQ_),A.handled=none->i < n->St i s.heap ->
  (∀v x h' tk,P i v x->(∀xs,x=some xs->∃T,v = .ref T/\s.heap.objs.size<=T/\h'.get? T=some (tup xs))->(∀b o,b∉wr->s.heap.get? b=some o->h'.get? b=some o)->0 < tk ->
   (∀ (A':Ar) (Q':Unit->Sh->Prop) (E':KQ_),(∀h'',St (i+1) h''->(∀b o,b∉wr->h'.get? b=some o->h''.get? b=some o)->Q' () { s with heap:=h'',toks:=tk }) ->
    wA (model c.prog c.w) A' (letOwnedTupleGo target (.ref I) v) Q' E' { s with heap:=h',toks:=tk })->Q (some v) { s with heap:=h',toks:=tk }) ->
  0 < s.toks->wA (model c.prog c.w) A (pyNext (.ref I)) Q E s
 done:∀ (A:Ar) (s:Sh) (Q:Option Vl->Sh->Prop) (E:KQ_),A.handled=none->St n s.heap ->
  (∀h' tk,(∀b o,b∉wr->s.heap.get? b=some o->h'.get? b=some o)->0 < tk->Q none { s with heap:=h',toks:=tk })->0 < s.toks->wA (model c.prog c.w) A (pyNext (.ref I)) Q E s
 self:∀ (A:Ar) i (s:Sh) (Q:KQ_) (E:KQ_),A.handled=none->St i s.heap->Q (.ref I) s->wA (model c.prog c.w) A (pyIter (.ref I)) Q E s
def Qf7 (c:Cx) (target:Expr) (oh fr:Own) (I:Ad) (n:Nat) (P:Nat->Vl->Option (List Vl)->Prop) (dep:List (Ad × Obj)) (s:Sh):Prop :=
 ∃fp wr StW,Gs c target I fp wr n P StW/\StW 0 s.heap/\(∀b∈wr,oh b=none/\fr b=none/\b∉c.tabs/\∃o,s.heap.get? b=some o)/\(∀b∈fp,b∈wr\/∃o,(b,o)∈dep)
def qo (c:Cx) (N:Nat) (oh ak:Own) (x:Vl) (target:Expr) (n:Nat) (P:Nat->Vl->Option (List Vl)->Prop) (dep:List (Ad × Obj)):Prop :=
 ∀ (A:Ar) (s:Sh) (fr:Own) (Q:KQ_),Qu N A->Sg c oh fr s->0 < s.toks ->
  (∀I s',Qf7 c target ak fr I n P dep s'->Sg c ak fr s'->Q (.ref I) s')->wA (model c.prog c.w) A (pyIter x) Q F0 s
section
variable {scope:Scope}
theorem Qa5 {x:Vl}{target:Expr}{P:Nat->Vl->Prop}{dep:List (Ad × Obj)}(h:Itr c N oh x n P dep):qo c N oh oh x target n (λi v o=>P i v/\o=none) dep:=by
 intro A s fr Q hA S P hQ
 refine h A s fr Q hA S P λI s' hs S'=>?_
 obtain⟨fp,wr,StW,Wk,hst,hwr,hfp,hcl,aL⟩:=(hs)
 refine hQ I s' ⟨fp,wr,StW,⟨(Wk A hA.2.2).sub,(Wk A hA.2.2).frame,aL,λA' i s₁ Q₁ E₁ hh hi bG hQ₁ PP=>?_,λA' s₁ Q₁ E₁ hh bG hQ₁ PP=>?_,λA' i s₁ Q₁ E₁ hh bG hQ₁=>(Wk A' hh).self i s₁ _ _ bG hQ₁⟩,hst,hwr,hfp⟩ S'
 ·refine wpAny_with_toks (n:=1) PP ((Wk A' hh).item i s₁ _ _ hi bG λv h' tk hP bA hk Ptk=>hQ₁ v none h' tk ⟨hP,rfl⟩ (λxs e=>nomatch e) hk Ptk λA'' Q' E' hQ'=>?_)
  obtain⟨oI,cl,hoI,hcI,hnI⟩:=hcl _ _ bA
  exact Qfw hoI hcI hnI (hQ' h' bA λx_ x_ x_ e=>e)
 ·exact wpAny_with_toks (n:=1) PP ((Wk A' hh).done s₁ _ _ bG λh' tk hk Ptk=>hQ₁ h' tk hk Ptk)
set_option tactic.hygienic true in
theorem St.toGen {wr:List Ad}{h':Heap}{t:Nat}{go:Obj}{it code:Vl}{gens:Array GenState}(K:ZN scope ou) (S:St c ou m oh (hide wr s.heap fr) s)
  (hw:∀b∈wr,oh b=none/\fr b=none/\b∉c.tabs/\¬ QQ ou b/\∃o,s.heap.get? b=some o) (hg:AllBare gens)
  (hn:h'.Ns s.heap.objs.size (λy=>if y = ".0" then some it else none)) (hk:∀b o,s.heap.get? b=some o->h'.get? b=some o) (hgo:h'.get? (s.heap.objs.size+1)=some go) :
  St c (genEnv scope (Qz scope.names ou) s.heap.objs.size code builtinsNs ou) (XO scope m) oh (hide ((s.heap.objs.size+1)::wr) h' (Zw ou (Qz scope.names ou) s.heap fr)) { s with heap:=h',toks:=t,gens:=gens }:=by
 refine St.into K S hw rfl (Fm.into K S.fm rfl K.kind S.fm.gl rfl ⟨_,hn,λx v e hl=>?_⟩ (λx=>.inr) (λx e=>?_) hk (Nat.le_refl _)) hg hk (Nat.le_refl _) (Nat.le_succ _) (Nat.succ_ne_self _).symm
 ·unfold XO at e
  split at e
  ·rename_i hx
   exfalso
   have hl':scope.names.lookup x=some .local:=hl
   rw[hx] at hl';cases hl'
  ·cases e
 ·rcases e with e|e
  ·exact absurd rfl (K.cell _ (Yo e))
  ·exact e
theorem St.fromGen {wr:List Ad}{hX:Heap}{s':Sh}{mc:Loc}{o':Own}{code:Vl}(K:ZN scope ou) (S:St c ou m oh (hide wr s.heap fr) s)
  (hw:∀b∈wr,oh b=none/\fr b=none/\b∉c.tabs/\¬ QQ ou b/\∃o,s.heap.get? b=some o)
  (S':St c (genEnv scope (Qz scope.names ou) s.heap.objs.size code builtinsNs ou) mc o' (hide ((s.heap.objs.size+1)::wr) hX (Zw ou (Qz scope.names ou) s.heap fr)) s')
  (hid:∀a o,o' a=some o->a∉(s.heap.objs.size+1)::wr) (hC:Cap scope m mc):St c ou m o' fr s':=by
 have S0:St c ou m oh fr s:=S.show λb hb=>(hw b hb).2.1
 have aI:∀a,QQ ou a->a < s.heap.objs.size:=λa ha=>let ⟨o,ho⟩:=S.fm.there ha;Heap.lt_size ho
 have frOf:∀a o,o' a=some o->¬ (QQ ou a/\∀x,(Qz scope.names ou).lookup x≠some a)/\fr a=none:=λa o e=>QdW (hid a o e) S.fm (S'.sg.dj a o e)
 have kept:∀a o,a∉(s.heap.objs.size+1)::wr->Zw ou (Qz scope.names ou) s.heap fr a=some o->s'.heap.get? a=some o:=λa o hm e=>S'.sg.hfr a o (by unfold Tactic.hide;rw[if_neg hm];exact e)
 have cg:∀a,QQ ou a->a∉(s.heap.objs.size+1)::wr:=λa ha hm=>(mc_.mp hm).elim (λz=>absurd (aI a ha) (by rw[z];exact Nat.not_lt.mpr (Nat.le_succ _))) (λz=>(hw a z).2.2.2.1 ha)
 refine⟨⟨λa o e ht=>S'.sg.base a o e ht,λa o e=>S'.sg.has a o e,λa o e=>?_,λa o e=>(frOf a o e).2,λT hT=>?_,S'.sg.os,S'.sg.gens⟩,Fm.back K S.fm S'.fm rfl hC (λx hx z=>?_) (λa o ha hn e=>kept a o (cg a ha) (by unfold Zw;rw[if_pos ⟨ha,hn⟩];exact e)) (λa v x_ h=>h),λa ha=>⟨?_,(S0.dl a ha).2⟩⟩
 ·have hl:a < s.heap.objs.size:=Heap.lt_size (S0.sg.hfr a o e)
  refine kept a o (λhm=>(mc_.mp hm).elim (λz=>absurd hl (by rw[z];exact Nat.not_lt.mpr (Nat.le_succ _))) (λz=>by cases ((hw a z).2.1),e)) ?_
  unfold Zw
  rw[if_neg (λz=>by cases ((S0.dl a z.1).2.1),e)];exact e
 ·obtain⟨⟨vs,e⟩,h1,h2⟩:=S'.sg.tab T hT
  exact⟨⟨vs,e⟩,h1,(S0.sg.tab T hT).2.2⟩
 ·have z':scope.names.lookup x=some .local:=z
  rw[hx] at z';cases z'
 ·cases q:o' a with
  |none=>rfl
  |some o =>
   have h1:=(frOf a o q).1
   by_cases ac:∃y,(Qz scope.names ou).lookup y=some a
   ·obtain⟨y,hy⟩:=ac
    cases ((S'.dl a (.inr ⟨y,hy⟩)).1),q
   ·exact absurd ⟨ha,λy z=>ac ⟨y,z⟩⟩ h1
end
section
variable {scope:Scope}
theorem AllBare.set {a:Array GenState}(h:AllBare a) {g:Nat}{x:GenState}(hx:x.bare=true):AllBare (a.setIfInBounds g x):=λy hy=>by
 rcases Array.mem_or_eq_of_mem_setIfInBounds hy with q|q
 ·exact h y q
 ·rw[q];exact hx
theorem St.gen (S:St c ou m oh fr s) {gens:Array GenState}(h:AllBare gens):St c ou m oh fr { s with gens:=gens }:=⟨⟨S.sg.base,S.sg.has,S.sg.hfr,S.sg.dj,S.sg.tab,S.sg.os,h⟩,S.fm,S.dl⟩
theorem Sg.be (S:Sg c oh fr s) {T:Ad}(hT:s.heap.objs.size<=T):c.H.get? T=none:=by
 cases e:c.H.get? T with
 |none=>rfl
 |some o =>
  by_cases ht:T∈c.tabs
  ·obtain⟨⟨vs,e'⟩,_⟩:=S.tab _ ht
   exact absurd (Heap.lt_size e') (Nat.not_lt.mpr hT)
  ·exact absurd (Heap.lt_size (S.has _ _ (S.base _ _ e ht))) (Nat.not_lt.mpr hT)
theorem Sg.bu (S:Sg c oh fr s) {T:Ad}(hT:s.heap.objs.size<=T):oh T=none:=by
 cases e:oh T with
 |none=>rfl
 |some o=>exact absurd (Heap.lt_size (S.has _ _ e)) (Nat.not_lt.mpr hT)
theorem Sg.bf (S:Sg c oh fr s) {T:Ad}(hT:s.heap.objs.size<=T):fr T=none:=by
 cases e:fr T with
 |none=>rfl
 |some o=>exact absurd (Heap.lt_size (S.hfr _ _ e)) (Nat.not_lt.mpr hT)
set_option tactic.hygienic true in
theorem qI {wr:List Ad}{h h':Heap}(hex:∀b∈wr,∃o,h.get? b=some o) (hk:∀b o,b∈wr->h.get? b=some o->h'.get? b=some o):hide wr h' fr=hide wr h fr:=funext λb=>by
 unfold Tactic.hide
 split
 ·rename_i hb;obtain⟨o,ho⟩:=hex b hb;rw[ho,hk b o hb ho]
 ·rfl
end
theorem Qfv {α:Type}{M:Model}{t:Sem α}{Q:α->Sh->Prop}(hn:n<=s.gens.size) (h:wA M A t (λa s'=>n<=s'.gens.size->Q a s') F0 s):wA M A t Q F0 s :=
 QnQ hn (wpAny_mono h (λx_ x_ z=>z) λx_ x_ z=>z.elim)
def GI (c:Cx) (scope:Scope) (m₁:Loc) (oq:Env) (frc:Own) (a:Ad) (g:Nat) (wr:List Ad) (J:Own->Prop) (StW:Nat->Heap->Prop) (i:Nat) (s:Sh):Prop :=
 ∃o mc,J o/\Cap scope m₁ mc/\St c oq mc o (hide (a::wr) s.heap frc) s/\StW i s.heap/\0 < s.toks/\(∀b∈a::wr,∃ob,s.heap.get? b=some ob)/\s.heap.IsGen a g/\g < s.gens.size
def GE (c:Cx) (scope:Scope) (m₁:Loc) (oq:Env) (frc:Own) (a:Ad) (wr:List Ad) (J:Own->Prop) (s:Sh):Prop :=
 ∃o mc hX,J o/\Cap scope m₁ mc/\St c oq mc o (hide (a::wr) hX frc) s/\∀b ob,o b=some ob->b∉a::wr
structure GX (c:Cx) (N:Nat) (scope:Scope) (m₁:Loc) (oq:Env) (frc:Own) (elt target:Expr) (I a:Ad) (g:Nat) (fp wr:List Ad) (n:Nat) (P:Nat->Vl->Option (List Vl)->Prop) (dep:List (Ad × Obj)) (StW:Nat->Heap->Prop) (J:Own->Prop) (b:Nat->Bool):Prop where
 gs:Gs c target I fp wr n P StW
 fpd:∀b∈fp,b∈wr\/∃o,(b,o)∈dep
 jdep:∀o,J o->∀q∈dep,o q.1=some q.2
 jput:∀o T xs,J o->New c o T->J (o.put T (tup xs))
 hw:∀b∈a::wr,frc b=none/\b∉c.tabs/\¬ QQ oq b
 aw:a∉wr
 body:∀i v x o mc,i < n->P i v x->J o->Cap scope m₁ mc->(∀xs,x=some xs->∃T,v = .ref T/\o T=some (tup xs)) ->
  W c N oq mc o (assign target oq v) λx_ mc o=>W c N oq mc o (eval elt oq) λv' mc o=>v' = .bool (b i)/\Cap scope m₁ mc/\J o
 co:oq.scope.isCoroutine=false
section
variable {scope:Scope}{m₁:Loc}{oq:Env}{frc:Own}{elt target iter:Expr}{ax:Pos}{I a:Ad}{g:Nat}{fp wr:List Ad}{n:Nat}{P:Nat->Vl->Option (List Vl)->Prop}{dep:List (Ad × Obj)}{StW:Nat->Heap->Prop}{J:Own->Prop}{b:Nat->Bool}
theorem GI.ends (h:GI c scope m₁ oq frc a g wr J StW i s):GE c scope m₁ oq frc a wr J s:=by
 obtain⟨o,mc,h1,h2,h3,h4,h5,h6,h7,h8⟩:=(h)
 refine⟨o,mc,_,h1,h2,h3,λb ob e hm=>?_⟩
 have:=h3.sg.dj b ob e
 rw[XD hm] at this
 obtain⟨oc,q⟩:=h6 b hm
 cases q,this
theorem GE.grow {h':Heap}{gens:Array GenState}(h:GE c scope m₁ oq frc a wr J s) (hg:AllBare gens) (hk:∀b o,s.heap.get? b=some o->h'.get? b=some o):GE c scope m₁ oq frc a wr J { s with heap:=h',gens:=gens }:=by
 obtain⟨o,mc,hX,h1,h2,h3,h4⟩:=(h)
 exact⟨o,mc,hX,h1,h2,(h3.grow (t:=s.toks) hk).gen hg,h4⟩
theorem GI.gen {x:GenState}(h:GI c scope m₁ oq frc a g wr J StW i s) (hx:x.bare=true):GI c scope m₁ oq frc a g wr J StW i (s.setGen g x):=by
 obtain⟨o,mc,h1,h2,h3,h4,h5,h6,h7,h8⟩:=(h)
 exact⟨o,mc,h1,h2,h3.gen (AllBare.set h3.sg.gens hx),h4,h5,h6,h7,by rw[YS];exact h8⟩
theorem GI.grow {h':Heap}(X:GX c N scope m₁ oq frc elt target I a g fp wr n P dep StW J b) (h:GI c scope m₁ oq frc a g wr J StW i s) (hk:∀b o,s.heap.get? b=some o->h'.get? b=some o):GI c scope m₁ oq frc a g wr J StW i { s with heap:=h' }:=by
 obtain⟨o,mc,h1,h2,h3,h4,h5,h6,h7,h8⟩:=(h)
 refine⟨o,mc,h1,h2,?_,X.gs.frame _ _ _ h4 λb x_ ob e=>hk b ob e,h5,λb hb=>let ⟨ob,e⟩:=h6 b hb;⟨ob,hk b ob e⟩,h7.keeps hk,h8⟩
 show St c oq mc o (hide (a::wr) h' frc) _
 rw[qI h6 λb o x_ e=>hk b o e]
 exact h3.grow hk
noncomputable abbrev gxe (elt target iter:Expr) (scope:Scope) (ax:Pos):Expr:=.GeneratorExp elt [⟨target,iter,[],0⟩] scope ax
noncomputable abbrev gR (c:Cx) (scope:Scope) (m₁:Loc) (oq:Env) (frc:Own) (a:Ad) (g:Nat) (wr:List Ad) (J:Own->Prop) (StW:Nat->Heap->Prop) (n:Nat):GenEnd:=λk s₀ r s₁=>r = .ok .next/\(k=0/\GE c scope m₁ oq frc a wr J s₁)
noncomputable abbrev gY (c:Cx) (scope:Scope) (m₁:Loc) (oq:Env) (frc:Own) (a:Ad) (g:Nat) (wr:List Ad) (J:Own->Prop) (StW:Nat->Heap->Prop) (n:Nat) (b:Nat->Bool):Protocol:=λk s₀ v s kap =>
 ∃i,i < n/\k=n - 1 - i/\v = .bool (b i)/\GI c scope m₁ oq frc a g wr J StW (i+1) s/\∀s'',GI c scope m₁ oq frc a g wr J StW (i+1) s''->kap (.send .none) s''
theorem Qnh {it:Vl}(h:Qu (N+1) A):Qu N (A.over (.compLoop (gxe elt target iter scope ax) 0 it .none oq) []) :=
 ⟨by show A.depth+1+N < _;have:=h.1;omega,by show A.units+3+20*N < _;have:=h.2.1;omega,h.2.2⟩
theorem Qnl (X:GX c N scope m₁ oq frc elt target I a g fp wr n P dep StW J b) (hA:Qu (N+1) A):∀ (k i:Nat) (s₀ s:Sh),n - i=k->i<=n->GI c scope m₁ oq frc a g wr J StW i s ->
  Seg (model c.prog c.w) A (gR c scope m₁ oq frc a g wr J StW n) (gY c scope m₁ oq frc a g wr J StW n b) k s₀ (.compLoop (gxe elt target iter scope ax) 0 (.ref I) .none oq)
   ((model c.prog c.w).den (.compLoop (gxe elt target iter scope ax) 0 (.ref I) .none oq)) [] s:=by
 have hAo:Qu N (A.over (.compLoop (gxe elt target iter scope ax) 0 (.ref I) .none oq) []):=Qnh hA
 intro k
 induction k with
 |zero =>
  intro i s₀ s hk hi hG
  have:i=n:=by omega
  subst this
  obtain⟨o,mc,h1,h2,h3,h4,h5,h6,h7,h8⟩:=(hG)
  show Seg _ A _ _ _ s₀ _ ((compTurn (.GeneratorExp elt [⟨target,iter,[],0⟩] scope ax) 0 (.ref I) .none oq).onRaise (leaving oq)) [] s
  rw[compTurn_gen,Sem.onRaise_eq_wrap]
  refine seg_bind_wrap (ws_ ?_)
  refine seg_bind_wrap (X.gs.done _ s _ _ hAo.2.2 h4 (λh' tk hk' Ptk=>?_) h5)
  refine seg_end (.ok .next) ⟨rfl,rfl,o,mc,h',h1,h2,h3.moved X.hw h6 λb ob hb e=>hk' b ob (λz=>hb (.tail _ z)) e,λb ob e hm=>?_⟩
  have:=h3.sg.dj b ob e
  rw[XD hm] at this
  obtain⟨oc,q⟩:=h6 b hm
  cases q,this
 |succ k ih =>
  intro i s₀ s hk hi hG
  have hlt:i < n:=by omega
  obtain⟨o,mc,h1,h2,h3,h4,h5,h6,h7,h8⟩:=(hG)
  show Seg _ A _ _ _ s₀ _ ((compTurn (.GeneratorExp elt [⟨target,iter,[],0⟩] scope ax) 0 (.ref I) .none oq).onRaise (leaving oq)) [] s
  rw[compTurn_gen,Sem.onRaise_eq_wrap]
  refine seg_bind_wrap (ws_ ?_)
  refine seg_bind_wrap (X.gs.item _ i s _ _ hAo.2.2 hlt h4 (λv x h' tk hP hx hk' Ptk hgo=>?_) h5)
  refine seg_bind_wrap (hgo _ _ _ λh'' bj hk''=>?_)
  have low:∀b∈a::wr,b < s.heap.objs.size:=λb hb=>let ⟨ob,e⟩:=h6 b hb;Heap.lt_size e
  have old'':∀b ob,b∉a::wr->s.heap.get? b=some ob->h''.get? b=some ob:=λb ob hb e=>hk'' b ob (λz=>hb (.tail _ z)) (hk' b ob (λz=>hb (.tail _ z)) e)
  have S₁:St c oq mc o (hide (a::wr) h'' frc) { s with heap:=h'',toks:=tk }:=h3.moved X.hw h6 old''
  obtain⟨ga,hga⟩:=h6 a (.head _)
  have ga'':h''.get? a=some ga:=hk'' a ga X.aw (hk' a ga X.aw hga)
  have bD:∀b∈a::wr,∃ob,h''.get? b=some ob:=λb hb=>by
   rcases mc_.mp hb with rfl|hb
   ·exact⟨ga,ga''⟩
   ·exact X.gs.live _ _ bj b hb
  have gen'':h''.IsGen a g:=let ⟨og,nm,qn,e,r⟩:=h7;⟨og,nm,qn,by cases hga,e;exact ga'',r⟩
  have adopt:∃o₂,J o₂/\(∀xs,x=some xs->∃T,v = .ref T/\o₂ T=some (tup xs))/\St c oq mc o₂ (hide (a::wr) h'' frc) { s with heap:=h'',toks:=tk }:=by
   induction x with
   |none=>exact⟨o,h1,(λxs e=>nomatch e),S₁⟩
   |some xs =>
    obtain⟨T,rfl,hT,hTo⟩:=hx xs rfl
    have hTw:T∉a::wr:=λz=>absurd (low T z) (Nat.not_lt.mpr hT)
    have nT:New c o T:=⟨h3.sg.bu hT,h3.sg.be hT⟩
    refine⟨o.put T (tup xs),X.jput _ _ _ h1 nT,λys e=>⟨T,rfl,by cases e;exact Qa ..⟩,S₁.adopt nT.own ?_ (λz=>absurd (h3.sg.aj z) (Nat.not_lt.mpr hT)) (λz=>?_) (hk'' T _ (λz=>hTw (.tail _ z)) hTo)⟩
    ·have q:=h3.sg.bf hT
     unfold Tactic.hide at q ⊢
     rw[if_neg hTw] at q ⊢;exact q
    ·obtain⟨ob,e⟩:=h3.fm.there z;exact absurd (Heap.lt_size e) (Nat.not_lt.mpr hT)
  obtain⟨o₂,J₂,hx₂,S₂⟩:=adopt
  have fin:∀ (mc':Loc) (o':Own) (s':Sh),Cap scope m₁ mc'->J o'->St c oq mc' o' (hide (a::wr) h'' frc) s'->0 < s'.toks->g < s'.gens.size->GI c scope m₁ oq frc a g wr J StW (i+1) s':=λmc' o' s' hC hJ S' P' hg=>by
   have same:∀b ob,b∈a::wr->h''.get? b=some ob->s'.heap.get? b=some ob:=λb ob hb e=>S'.sg.hfr b ob (by rw[XD hb];exact e)
   refine⟨o',mc',hJ,hC,by rw[qI bD same];exact S',X.gs.frame _ _ _ bj λb hb ob e=>?_,P',λb hb=>let ⟨ob,e⟩:=bD b hb;⟨ob,same b ob hb e⟩,?_,hg⟩
   ·rcases X.fpd b hb with z|⟨od,hd⟩
    ·exact same b ob (.tail _ z) e
    ·have e1:=S₂.sg.has _ _ (X.jdep _ J₂ _ hd)
     dsimp only at e1
     cases e,e1
     exact S'.sg.has _ _ (X.jdep _ hJ _ hd)
   ·obtain⟨og,nm,qn,e,r⟩:=gen'';exact⟨og,nm,qn,same a og (.head _) e,r⟩
  refine seg_bind_wrap (Z8 (Qfv (n:=g+1) h8 (W.run (X.body i v x o₂ mc hlt hP J₂ h2 hx₂) hAo S₂ Ptk (Q:=λx_ s₃=>g+1<=s₃.gens.size->∃mc₃ o₃,W c N oq mc₃ o₃ (eval elt oq) (λv' mc o=>v' = .bool (b i)/\Cap scope m₁ mc/\J o)/\St c oq mc₃ o₃ (hide (a::wr) h'' frc) s₃/\0 < s₃.toks/\g+1<=s₃.gens.size) λx_ mc₃ o₃ s₃ hb S₃ P₃ h8'=>⟨mc₃,o₃,hb,S₃,P₃,h8'⟩)) ?_)
  rintro _ s₃ ⟨mc₃,o₃,hb,S₃,P₃,h8'⟩
  refine seg_bind_wrap (wpAny_of_eq (a:=true) (by rw[List.forIn_nil]) ?_)
  simp only[if_true]
  have hy:∀v,yieldOut oq v=yieldValue v:=λv=>by simp only[yieldOut,X.co,Bool.false_eq_true,if_false]
  simp only[hy]
  rw[Sem.bind_eq_wrap',Sem.bind_eq_wrap',Sem.wrap_wrap,Sem.wrap_wrap]
  refine seg_wrap (Z8 (Qfv (n:=g+1) h8' (W.run hb hAo S₃ P₃ (Q:=λv s₄=>g+1<=s₄.gens.size->v = .bool (b i)/\GI c scope m₁ oq frc a g wr J StW (i+1) s₄) λv mc₄ o₄ s₄ hv S₄ P₄ h8'=>⟨hv.1,fin mc₄ o₄ s₄ hv.2.1 hv.2.2 S₄ P₄ h8'⟩)) ?_)
  rintro v s₄ ⟨rfl,hG⟩
  exact seg_at (seg_yield rfl rfl rfl ⟨i,hlt,by omega,rfl,hG,λs'' hG''=>seg_again rfl (ih (i+1) s'' s'' (by omega) hlt hG'')⟩)
theorem Qnm (X:GX c N scope m₁ oq frc elt target I a g fp wr n P dep StW J b) (hA:Qu (N+1) A) (s₀ s:Sh) (hG:GI c scope m₁ oq frc a g wr J StW 0 s) :
  Seg (model c.prog c.w) A (gR c scope m₁ oq frc a g wr J StW n) (gY c scope m₁ oq frc a g wr J StW n b) n s₀ (.compStart (gxe elt target iter scope ax) 0 (.ref I) .none oq)
   ((model c.prog c.w).den (.compStart (gxe elt target iter scope ax) 0 (.ref I) .none oq)) [] s:=by
 have loop:=Qnl (iter:=iter) (ax:=ax) X hA n 0 s₀ s (Nat.sub_zero _) (Nat.zero_le _) hG
 have hh:(A.over (.compStart (gxe elt target iter scope ax) 0 (.ref I) .none oq) []).handled=none:=hA.2.2
 obtain⟨o,mc,h1,h2,h3,h4,h5⟩:=(hG)
 show Seg _ A _ _ _ s₀ _ ((compStart (gxe elt target iter scope ax) 0 (.ref I) .none oq).onRaise (leaving oq)) [] s
 unfold compStart
 rw[Sem.onRaise_eq_wrap]
 show Seg _ A _ _ _ s₀ _ ((ask >>= _).wrap _ _ _ _) [] s
 refine seg_bind_wrap (wpAny_askSetting ?_)
 split
 ·exact seg_again rfl loop
 ·first
   |exact seg_bind_wrap (wpAny_rule (seg_bind_wrap (ws_ (seg_bind_wrap (X.gs.self _ 0 s _ _ hh h4 (seg_again rfl loop))))))
   |(refine seg_bind_wrap (wpAny_rule ?_);show Seg _ A _ _ _ s₀ _ ((standAt iter.pos >>= _).wrap _ _ _ _) [] s;exact seg_bind_wrap (ws_ (seg_bind_wrap (X.gs.self _ 0 s _ _ hh h4 (seg_again rfl loop)))))
def DI (c:Cx) (A:Ar) (scope:Scope) (m₁:Loc) (oq:Env) (frc:Own) (a:Ad) (g:Nat) (wr:List Ad) (J:Own->Prop) (StW:Nat->Heap->Prop) (n:Nat) (b:Nat->Bool) (i:Nat) (s:Sh):Prop :=
 GI c scope m₁ oq frc a g wr J StW i s/\∃gs,s.gens[g]?=some gs/\gs.bare=true /\
  ∀s'',GI c scope m₁ oq frc a g wr J StW i s''->gs.Goes (model c.prog c.w) A (gR c scope m₁ oq frc a g wr J StW n) (gY c scope m₁ oq frc a g wr J StW n b) (n - i) (.send .none) s''
theorem QdZ {Q:Option Vl->Sh->Prop}{E:KQ_}(X:GX c N scope m₁ oq frc elt target I a g fp wr n P dep StW J b) (hA:Qu (N+2) A) (hi:i < n) (D:DI c A.in1 scope m₁ oq frc a g wr J StW n b i s)
  (hQ:∀s',DI c A.in1 scope m₁ oq frc a g wr J StW n b (i+1) s'->Q (some (.bool (b i))) s'):wA (model c.prog c.w) A (pyNext (.ref a)) Q E s:=by
 obtain⟨hG,gs,hgs,hb,hgo⟩:=(D)
 obtain⟨k,hk⟩:∃k,n - i=k+1:=⟨n - i - 1,ls4 hi⟩
 rw[hk] at hgo
 have hG0:=hG
 obtain⟨o,mc,h1,h2,h3,h4,h5,h6,h7,h8⟩:=(hG)
 refine wpAny_pyNext_genexpQ (P:=λk s₀ s₁=>k=0/\GE c scope m₁ oq frc a wr J s₁) hA.2.2 h3.sg.nolimit (by have:=hA.1;omega) h7 hgs (hgo _ (hG0.gen rfl)) (λv s₁ gs' hb' hv=>?_) (λs₁ hp=>nomatch hp.1)
 obtain⟨i',hi',e1,rfl,hG',hkap⟩:=hv
 have:i'=i:=ls5 hk hi' e1
 subst this
 refine hQ _ ⟨hG'.gen hb',gs',?_,hb',?_⟩
 ·obtain⟨_,_,_,_,_,_,_,_,_,h8'⟩:=(hG')
  simp[Shared.setGen,h8']
 ·have e2:n - (i'+1)=k:=by omega
  rw[e2]
  exact hkap
theorem QdY {Q:Option Vl->Sh->Prop}{E:KQ_}(X:GX c N scope m₁ oq frc elt target I a g fp wr n P dep StW J b) (hA:Qu (N+2) A) (D:DI c A.in1 scope m₁ oq frc a g wr J StW n b n s)
  (hQ:∀s',GE c scope m₁ oq frc a wr J s'->Q none s'):wA (model c.prog c.w) A (pyNext (.ref a)) Q E s:=by
 obtain⟨hG,gs,hgs,hb,hgo⟩:=(D)
 rw[Nat.sub_self] at hgo
 have hG0:=hG
 obtain⟨o,mc,h1,h2,h3,h4,h5,h6,h7,h8⟩:=(hG)
 refine wpAny_pyNext_genexpQ (P:=λk s₀ s₁=>k=0/\GE c scope m₁ oq frc a wr J s₁) hA.2.2 h3.sg.nolimit (by have:=hA.1;omega) h7 hgs (hgo _ (hG0.gen rfl)) (λv s₁ gs' hb' hv=>?_) (λs₁ hp h' hk=>?_)
 ·obtain⟨i',hi',e1,rfl,hG',hkap⟩:=hv
  exact(hkap _ hG').elim
 ·obtain⟨_,hE⟩:=hp
  have hg:AllBare s₁.gens:=by obtain⟨_,_,_,_,_,hS,_⟩:=hE;exact hS.sg.gens
  exact hQ _ (hE.grow (AllBare.set hg rfl) hk)
theorem Qhn {R:Result->Sh->Prop}(X:GX c N scope m₁ oq frc elt target I a g fp wr n P dep StW J b) (hA:Qu (N+3) A):∀ (k i:Nat) (s:Sh),n - i=k->i<=n->DI c A.in1.in1 scope m₁ oq frc a g wr J StW n b i s ->
  (∀s',GE c scope m₁ oq frc a wr J s'->R (.ok (.ret (.bool (((List.range n).drop i).all b)))) s')->codeAny (model c.prog c.w) A (.builtin "all.loop" ⟨[.ref a],[]⟩) R s:=by
 have hA1:Qu (N+2) A.in1:=hA.in1
 intro k
 induction k with
 |zero =>
  intro i s hk hi D hR
  have hin:i=n:=by omega
  subst hin
  refine codeAny_builtin F.entry_all_loop ?_
  rw[Around.under_plainId F.plain_all_loop _]
  show wA _ A.in1 (pyNext (.ref a) >>= _) _ _ s
  refine wb9 (QdY X hA1 D λs' hE=>?_)
  refine wb9 (wpAny_rule (wp_ ?_))
  have:=hR s' hE
  rw[List.drop_of_length_le (by simp)] at this
  exact this
 |succ k ih =>
  intro i s hk hi D hR
  have hlt:i < n:=by omega
  have hd:(List.range n).drop i=i::(List.range n).drop (i+1):=by
   rw[List.drop_eq_getElem_cons (by simpa using hlt)];simp
  refine codeAny_builtin F.entry_all_loop ?_
  rw[Around.under_plainId F.plain_all_loop _]
  show wA _ A.in1 (pyNext (.ref a) >>= _) _ _ s
  refine wb9 (QdZ X hA1 hlt D λs' D'=>?_)
  refine wb9 (wh_ (wpAny_truthy_bool ?_))
  refine wb9 (wpAny_letGo ?_)
  cases hb:b i with
  |true =>
   simp only[if_true]
   refine wp_ ⟨plainId_quiet F.plain_all_loop _,ih (i+1) _ (by omega) hlt D' λs'' hm'=>?_⟩
   have:=hR s'' hm'
   rw[hd,List.all_cons,hb,Bool.true_and] at this
   exact this
  |false =>
   simp only[Bool.false_eq_true,if_false]
   refine wb9 (wpAny_rule (wp_ ?_))
   have:=hR s' D'.1.ends
   rw[hd,List.all_cons,hb,Bool.false_and] at this
   exact this
theorem Qi7 {R:Result->Sh->Prop}(X:GX c N scope m₁ oq frc elt target I a g fp wr n P dep StW J b) (hA:Qu (N+3) A):∀ (k i:Nat) (s:Sh),n - i=k->i<=n->DI c A.in1.in1 scope m₁ oq frc a g wr J StW n b i s ->
  (∀s',GE c scope m₁ oq frc a wr J s'->R (.ok (.ret (.bool (((List.range n).drop i).any b)))) s')->codeAny (model c.prog c.w) A (.builtin "any.loop" ⟨[.ref a],[]⟩) R s:=by
 have hA1:Qu (N+2) A.in1:=hA.in1
 intro k
 induction k with
 |zero =>
  intro i s hk hi D hR
  have hin:i=n:=by omega
  subst hin
  refine codeAny_builtin F.entry_any_loop ?_
  rw[Around.under_plainId F.plain_any_loop _]
  show wA _ A.in1 (pyNext (.ref a) >>= _) _ _ s
  refine wb9 (QdY X hA1 D λs' hE=>?_)
  refine wb9 (wpAny_rule (wp_ ?_))
  have:=hR s' hE
  rw[List.drop_of_length_le (by simp)] at this
  exact this
 |succ k ih =>
  intro i s hk hi D hR
  have hlt:i < n:=by omega
  have hd:(List.range n).drop i=i::(List.range n).drop (i+1):=by
   rw[List.drop_eq_getElem_cons (by simpa using hlt)];simp
  refine codeAny_builtin F.entry_any_loop ?_
  rw[Around.under_plainId F.plain_any_loop _]
  show wA _ A.in1 (pyNext (.ref a) >>= _) _ _ s
  refine wb9 (QdZ X hA1 hlt D λs' D'=>?_)
  refine wb9 (wh_ (wpAny_truthy_bool ?_))
  refine wb9 (wpAny_letGo ?_)
  cases hb:b i with
  |false =>
   simp only[Bool.false_eq_true,if_false]
   refine wp_ ⟨plainId_quiet F.plain_any_loop _,ih (i+1) _ (by omega) hlt D' λs'' hm'=>?_⟩
   have:=hR s'' hm'
   rw[hd,List.any_cons,hb,Bool.false_or] at this
   exact this
  |true =>
   simp only[if_true]
   refine wb9 (wpAny_rule (wp_ ?_))
   have:=hR s' D'.1.ends
   rw[hd,List.any_cons,hb,Bool.true_or] at this
   exact this
end
def YL (K:Frag) (cd P:Ad):Prop:=∃o vs file tf flags tg inF text tt,K.lookup cd=some o/\o.data = .fields vs/\vs.getD 11 .none = .ref P/\vs.getD 18 .none = .str file tf /\
 vs.getD 7 .none = .int flags tg/\vs.getD 9 .none = .bool inF/\vs.getD 10 .none = .int text tt/\o.cls = .type "code"
structure qk (K:Frag):Prop where
 at_:∃bm o,nsIn K mainGlobals "__builtins__"=some (some (.ref bm))/\bm≠builtinsNs/\K.lookup bm=some o/\o.cls = .type "module"/\o.dict=some builtinsNs/\o.data = .plain
section
variable {scope:Scope}
theorem YL.isCode {cd P:Ad}(h:YL c.K cd P) (hP:P∈c.tabs) (S:Sg c oh fr s):∃ps,s.heap.IsCode cd P ps/\s.heap.TableAt cd P ps:=by
 obtain⟨o,vs,file,tf,flags,tg,inF,text,tt,hK,h1,h2,h3,h4,h5,h6,h7⟩:=(h)
 obtain⟨⟨⟨op,ps,e1,e2⟩,ep⟩,_⟩:=S.tab P hP
 have ep':s.heap.get? P=some { cls:=.none,data:=.fields ps }:=by rw[<- e1];exact ep
 have h2':vs[11]?=some (.ref P):=by
  rw[Array.getD_eq_getD_getElem?] at h2
  cases hv:vs[11]? with
  |none=>cases hv,h2
  |some v=>rw[hv] at h2;exact congrArg some h2
 exact⟨ps,⟨o,vs,file,tf,flags,tg,inF,text,tt,_,S.kIn _ _ hK,h1,h2,h3,h4,h5,h6,ep',rfl,e2,λe=>by have:=c.base.ktab P hP;rw[<- e,hK] at this;cases this⟩,
  ⟨o,vs,S.kIn _ _ hK,h7,h1,h2'⟩,ep'⟩
theorem Qls {M:Model}{E:KQ_}{cd P:Ad}{ps:Array Vl}{pos:Pos}{qualname:Str}{Q:KQ_}(hc:ou.code = .ref cd) (hok:s.heap.IsCode cd P ps) (htab:s.heap.TableAt cd P ps)
  (hQ:∀code h' tk ps',Heap.ExtBut P s.heap h'->h'.IsCode cd P ps'->h'.TableAt cd P ps'->Q code { s with heap:=h',toks:=tk }):wA M A (genexprCode ou pos qualname scope) Q E s:=by
 cases hf:codeAmong pos ps.toList with
 |some c'=>exact wpAny_genexprCode_hit hc hok hf (hQ c' s.heap s.toks ps (λx_ x_ x_ e=>e) hok htab)
 |none=>exact wpAny_genexprCodeX hc hok htab hf λc' h' tk h1 x_ x_ h2 x_ h3 x_=>hQ _ h' tk _ h1 h2 h3
theorem St.tabled {P:Ad}{cd:Ad}{h':Heap}{t:Nat}{ps:Array Vl}(S:St c ou m oh fr s) (hP:P∈c.tabs) (hs:Heap.ExtBut P s.heap h') (hc:h'.IsCode cd P ps) (ht:h'.TableAt cd P ps):St c ou m oh fr { s with heap:=h',toks:=t }:=by
 obtain⟨_,_,_,_,_,_,_,_,_,op,_,_,_,_,_,_,_,e1,e2,e3,_⟩:=(hc)
 obtain⟨_,e4⟩:=ht
 have tP:=S.sg.tab P hP
 refine⟨⟨S.sg.base,λa o e=>hs a o (λz=>by rw[z,tP.2.1] at e;cases e) (S.sg.has a o e),λa o e=>hs a o (λz=>by rw[z,tP.2.2] at e;cases e) (S.sg.hfr a o e),S.sg.dj,λT hT=>?_,S.sg.os,S.sg.gens⟩,
  S.fm.at λa o ha e=>hs a o (λz=>(S.dl a ha).2.2 (z▸hP)) e,S.dl⟩
 by_cases hTP:T=P
 ·subst hTP;exact⟨⟨⟨_,ps,rfl,e3⟩,e4⟩,tP.2⟩
 ·obtain⟨⟨vs,e⟩,r⟩:=S.sg.tab T hT
  exact⟨⟨vs,hs T _ hTP e⟩,r⟩
theorem QeZ {M:Model}{E:KQ_}{e:Expr}{f:Vl}{Q:Args->Sh->Prop}(hs:Zx [e]=true) (h:wA M A (eval e ou) (λv s'=>Q ⟨[v],[]⟩ s') E s) :
  wA M A (evalArgs f true (backTo p (starEach [e] ou)) []) Q E s:=by
 rw[Yt hs,X4]
 unfold evalArgs
 show wA _ _ (spliced [(false,eval e ou)] >>= _) _ _ _
 refine wb9 ?_
 unfold spliced
 refine wb9 (wpAny_mono h (λv s' h=>?_) λx_ x_ z=>z)
 simp only[Bool.false_eq_true,if_false]
 refine wb9 (wp_ (wb9 (wh_ ?_)))
 unfold spliced
 exact wp_ (wp_ (wb9 (wp_ (wh_ (wb9 (wp_ (wb9 (wp_ (wp_ h)))))))))
def Qa8 (c:Cx) (N:Nat) (scope:Scope) (elt target:Expr) (x:Vl) (m₁:Loc) (o₁:Own) (n:Nat) (b:Nat->Bool) (J:Own->Prop):Prop :=
 ∃P dep ak,qo c (N+3) o₁ ak x target n P dep/\J ak/\(∀o,J o->∀q∈dep,o q.1=some q.2)/\(∀o T xs,J o->New c o T->J (o.put T (tup xs))) /\
  ∀oq i v x o mc,oq.scope=scope->i < n->P i v x->J o->Cap scope m₁ mc->(∀xs,x=some xs->∃T,v = .ref T/\o T=some (tup xs)) ->
   W c N oq mc o (assign target oq v) λx_ mc o=>W c N oq mc o (eval elt oq) λv' mc o=>v' = .bool (b i)/\Cap scope m₁ mc/\J o
theorem Qd0 {elt target iter:Expr}{ax:Pos}{cd P:Ad}{Q:KQ_}(hA:Qu (N+3) A) (S:St c ou m oh fr s) (PP:0 < s.toks) (K:ZN scope ou) (hco:scope.isCoroutine=false) (h0:scope.names.lookup (".0":Str)=some NameKind.local)
  (hcd:ou.code = .ref cd) (ct:YL c.K cd P) (hP:P∈c.tabs) (B:qk c.K) (hs:∀x,genFold iter ou x=pure x) {fin:Nat->(Nat->Bool)->(Own->Prop)->Loc->Prop}
  (h:W c (N+3) ou m oh (eval iter ou) λx m₁ o₁=>∃n b J,Qa8 c N scope elt target x m₁ o₁ n b J/\fin n b J m₁)
  (hQ:∀m₁ oq frc I a g fp wr n P dep StW J b s',fin n b J m₁->GX c N scope m₁ oq frc elt target I a g fp wr n P dep StW J b->DI c A.in1.in1 scope m₁ oq frc a g wr J StW n b 0 s' ->
   (∀s'',GE c scope m₁ oq frc a wr J s''->∃o',J o'/\St c ou m₁ o' fr s'')->Q (.ref a) s'):wA (model c.prog c.w) A (eval (gxe elt target iter scope ax) ou) Q F0 s:=by
 refine wpAny_GeneratorExp_make hco (QdD λn hn=>K.some S.fm n hn) K.cell h0 K.kind (by have:=hA.1;omega) ?_ hs
 refine h.run hA S PP λx m₁ o₁ s₁ hx S₁ P₁=>?_
 obtain⟨n,b,J,⟨PI,dep,ak,hit,J0,aD,hput,hbody⟩,hfin⟩:=(hx)
 refine QaS P₁ (hit A s₁ (ZX ou s₁.heap fr) _ hA S₁.apart P₁ λI s₂ hsrc S₂ P₂=>?_)
 obtain⟨fp,wr,StW,gs,hst,hwr,hfpd⟩:=(hsrc)
 have T₂:=S₁.back S₂
 have hw:∀b∈wr,ak b=none/\fr b=none/\b∉c.tabs/\¬ QQ ou b/\∃o,s₂.heap.get? b=some o:=λb hb=>by
  obtain⟨w1,w2,w3,w4⟩:=hwr b hb
  unfold ZX at w2
  by_cases hf:QQ ou b
  ·rw[if_pos hf] at w2
   obtain⟨o,ho⟩:=S₁.fm.there hf
   cases ho,w2
  ·rw[if_neg hf] at w2;exact⟨w1,w2,w3,hf,w4⟩
 have start:St c ou m₁ ak (hide wr s₂.heap fr) s₂:=T₂.hid λb hb=>⟨(hw b hb).1,(hw b hb).2.1,(hw b hb).2.2.1,(hw b hb).2.2.2.1⟩
 obtain⟨ps,hok,htb⟩:=ct.isCode hP T₂.sg
 refine⟨T₂.sg.nolimit,wpAny_with_toks (n:=1) P₂ (Qls hcd hok htb λcode h₃ tk₃ ps' hs₃ hc₃ ht₃ P₃=>?_)⟩
 have hw₃:∀b∈wr,ak b=none/\fr b=none/\b∉c.tabs/\¬ QQ ou b/\∃o,h₃.get? b=some o:=λb hb=>by
  obtain⟨w1,w2,w3,w4,o,w5⟩:=hw b hb
  exact⟨w1,w2,w3,w4,o,hs₃ b o (λz=>w3 (z▸hP)) w5⟩
 have S₃:St c ou m₁ ak (hide wr h₃ fr) { s₂ with heap:=h₃,toks:=tk₃ }:=by
  rw[qI (λb hb=>(hw b hb).2.2.2.2) λb o hb e=>hs₃ b o (λz=>(hw b hb).2.2.1 (z▸hP)) e]
  exact start.tabled hP hs₃ hc₃ ht₃
 obtain⟨bm,bo,b1,b2,b3,b4,b5,b6⟩:=B.at_
 obtain⟨mg,G⟩:=S₃.sg.mg
 refine wpAny_builtinsFor (by rw[S₃.fm.gl];exact G) (mg_of S₃.sg.kIn G b1) b2 (S₃.sg.kIn _ _ b3) b4 b5 b6 ?_
 intro h' hn' hs'
 dsimp only at hn' hs' ⊢
 have hsz:h'.objs.size=h₃.objs.size+1:=by rw[hs'.1,Heap.size_push]
 have old₃:∀b o,h₃.get? b=some o->h'.get? b=some o:=λb o e=>hs'.extBut b o (Nat.ne_of_lt (Heap.lt_size e)) (gp_ _ e)
 rw[hsz]
 generalize hgo:({ cls:=.type "generator",data:=.fields #[.int s₂.gens.size 0,.str "<genexpr>" (tk₃+1),.str (ou.qual++"<genexpr>") (tk₃+1+1)] }:Obj)=go
 have gob:(h'.push go).get? (h₃.objs.size+1)=some go:=by rw[<- hsz];exact gz_ _ (by rw[<- hgo];rfl)
 have b7:∀b o,h₃.get? b=some o->(h'.push go).get? b=some o:=λb o e=>gp_ _ (old₃ b o e)
 generalize hgc:(GenState.fresh (.compStart (.GeneratorExp elt [⟨target,iter,[],0⟩] scope ax) 0 (.ref I) .none (genEnv scope (Qz scope.names ou) h₃.objs.size code builtinsNs ou)))=gst
 have hbare:AllBare (s₂.gens.push gst):=AllBare.push S₃.sg.gens (by rw[<- hgc];rfl)
 have S₅:=St.toGen (s:={ s₂ with heap:=h₃,toks:=tk₃ }) (fr:=fr) (m:=m₁) (oh:=ak) (wr:=wr) (code:=code) (t:=tk₃+1+1+1) K S₃ hw₃ hbare (it:=.ref I) (hn'.push go) b7 gob
 dsimp only at S₅
 have low₃:∀b∈wr,b < h₃.objs.size:=λb hb=>let ⟨_,_,_,_,o,ho⟩:=hw₃ b hb;Heap.lt_size ho
 have T0:St c ou m₁ ak fr { s₂ with heap:=h₃,toks:=tk₃ }:=S₃.show λb hb=>(hw₃ b hb).2.1
 have aI:∀a,QQ ou a->a < h₃.objs.size:=λa ha=>let ⟨o,ho⟩:=T0.fm.there ha;Heap.lt_size ho
 have X:GX c N scope m₁ (genEnv scope (Qz scope.names ou) h₃.objs.size code builtinsNs ou) (Zw ou (Qz scope.names ou) h₃ fr) elt target I (h₃.objs.size+1) s₂.gens.size fp wr n PI dep StW J b:=by
  refine⟨gs,hfpd,aD,hput,λq hq=>?_,λhm=>absurd (low₃ _ hm) (Nat.not_lt.mpr (Nat.le_succ _)),λi v x o mc hi hP hJ hC hx=>hbody _ i v x o mc rfl hi hP hJ hC hx,hco⟩
  rcases mc_.mp hq with rfl|hq
  ·refine⟨?_,λhT=>absurd (T0.sg.aj hT) (Nat.not_lt.mpr (Nat.le_succ _)),λhf=>?_⟩
   ·unfold Zw
    rw[if_neg λz=>absurd (aI _ z.1) (Nat.not_lt.mpr (Nat.le_succ _))];exact T0.sg.bf (Nat.le_succ _)
   ·rcases hf with q|⟨y,q⟩
    ·exact absurd q (Nat.succ_ne_self _)
    ·exact absurd (aI _ (.inr ⟨y,YO q⟩)) (Nat.not_lt.mpr (Nat.le_succ _))
  ·obtain⟨w1,w2,w3,w4,o,ho⟩:=hw₃ q hq
   refine⟨?_,w3,λhf=>?_⟩
   ·unfold Zw
    rw[if_neg λz=>w4 z.1];exact w2
   ·rcases hf with e|⟨y,e⟩
    ·have:=low₃ q hq
     rw[show q=h₃.objs.size from e] at this;exact absurd this (Nat.lt_irrefl _)
    ·exact w4 (.inr ⟨y,YO e⟩)
 refine hQ _ _ _ _ _ _ _ _ _ _ _ _ _ _ _ hfin X ⟨⟨ak,_,J0,QcD,S₅,?_,Nat.succ_pos _,λq hq=>?_,?_,?_⟩,gst,?_,by rw[<- hgc];rfl,λs'' hG=>?_⟩ λs'' hE=>?_
 ·refine gs.frame _ _ _ hst λq hq o e=>b7 q o (hs₃ q o (λz=>?_) e)
  rcases hfpd q hq with y|⟨od,hd⟩
  ·exact(hw q y).2.2.1 (z▸hP)
  ·have:=aD _ J0 _ hd
   rw[show q=P from z,(T₂.sg.tab P hP).2.1] at this;cases this
 ·rcases mc_.mp hq with rfl|hq
  ·exact⟨go,gob⟩
  ·obtain⟨_,_,_,_,o,ho⟩:=hw₃ q hq;exact⟨o,b7 q o ho⟩
 ·subst hgo
  exact⟨_,_,_,gob,rfl,rfl,rfl⟩
 ·show s₂.gens.size < (s₂.gens.push gst).size
  rw[Array.size_push];exact Nat.lt_succ_self _
 ·exact Array.getElem?_push_size ..
 ·subst hgc
  exact⟨rfl,Qnm (iter:=iter) (ax:=ax) X (hA.le (by omega)).in1.in1 s'' s'' hG⟩
 ·obtain⟨o',mc,hX,hJ,hC,hS,hid⟩:=(hE)
  exact⟨o',hJ,St.fromGen (s:={ s₂ with heap:=h₃,toks:=tk₃ }) (wr:=wr) (oh:=ak) (code:=code) K S₃ hw₃ hS hid hC⟩
theorem QcV {q p:Pos}{elt target iter:Expr}{ax:Pos}{cd P:Ad}(K:ZN scope ou) (hco:scope.isCoroutine=false) (h0:scope.names.lookup (".0":Str)=some NameKind.local)
  (hcd:ou.code = .ref cd) (ct:YL c.K cd P) (hP:P∈c.tabs) (B:qk c.K) (hs:∀x,genFold iter ou x=pure x)
  (h:W c (N+5) ou m oh (eval (.Name x q) ou) λf m o=>f = .builtin "all"/\W c (N+5) ou m o (eval iter ou) λx m₁ o₁=>∃n b J,Qa8 c (N+2) scope elt target x m₁ o₁ n b J/\∀o,J o->k (.bool ((List.range n).all b)) m₁ o) :
  W c (N+5) ou m oh (eval (.Call (.Name x q) [gxe elt target iter scope ax] [] p) ou) k:=by
 show W c (N+5) ou m oh (do callWith p (<- eval (.Name x q) ou) [] (backTo p (starEach [gxe elt target iter scope ax] ou)) (backToKw p (keywordEach [] ou))) k
 refine Qc (Qk h λf m o h=>?_)
 obtain⟨rfl,h⟩:=h
 intro A s fr Q hA S PP hQ
 refine callWith_of (P:=λx_=>True) rfl (λx_ x_=>⟨.machine,.inr (.inl rfl),Looks.of_pure rfl⟩) (QeZ rfl (Qd0 (N:=N+2) (fin:=λn b J m₁=>∀o,J o->k (.bool ((List.range n).all b)) m₁ o) hA S PP K hco h0 hcd ct hP B hs h λm₁ oq frc I a g fp wr n P dep StW J b s' hfin X D back=>⟨trivial,?_⟩))
 show wA _ _ (call (.builtin "all") [.ref a]) _ _ _
 refine call_function_tree F.kind_all F.plain_all F.entry_all (F.args_all1 _) ?_
 unfold Builtin.«all»
 refine wb9 (m:=oneArg "all" _) (wp_ ?_)
 have hg:s'.heap.IsGen a g:=by obtain⟨⟨_,_,_,_,_,_,_,_,h7,_⟩,_⟩:=D;exact h7
 refine wb9 (wpAny_pyIter_gen hg (wp_ ⟨plainId_quiet F.plain_all_loop _,Qhn X hA n 0 s' (Nat.sub_zero _) (Nat.zero_le _) D λs'' hE=>?_⟩))
 obtain⟨o',hJ,S'⟩:=back s'' hE
 rw[List.drop_zero]
 exact hQ _ _ _ _ (hfin o' hJ) S'
theorem Qgt {q p:Pos}{elt target iter:Expr}{ax:Pos}{cd P:Ad}(K:ZN scope ou) (hco:scope.isCoroutine=false) (h0:scope.names.lookup (".0":Str)=some NameKind.local)
  (hcd:ou.code = .ref cd) (ct:YL c.K cd P) (hP:P∈c.tabs) (B:qk c.K) (hs:∀x,genFold iter ou x=pure x)
  (h:W c (N+5) ou m oh (eval (.Name x q) ou) λf m o=>f = .builtin "any"/\W c (N+5) ou m o (eval iter ou) λx m₁ o₁=>∃n b J,Qa8 c (N+2) scope elt target x m₁ o₁ n b J/\∀o,J o->k (.bool ((List.range n).any b)) m₁ o) :
  W c (N+5) ou m oh (eval (.Call (.Name x q) [gxe elt target iter scope ax] [] p) ou) k:=by
 show W c (N+5) ou m oh (do callWith p (<- eval (.Name x q) ou) [] (backTo p (starEach [gxe elt target iter scope ax] ou)) (backToKw p (keywordEach [] ou))) k
 refine Qc (Qk h λf m o h=>?_)
 obtain⟨rfl,h⟩:=h
 intro A s fr Q hA S PP hQ
 refine callWith_of (P:=λx_=>True) rfl (λx_ x_=>⟨.machine,.inr (.inl rfl),Looks.of_pure rfl⟩) (QeZ rfl (Qd0 (N:=N+2) (fin:=λn b J m₁=>∀o,J o->k (.bool ((List.range n).any b)) m₁ o) hA S PP K hco h0 hcd ct hP B hs h λm₁ oq frc I a g fp wr n P dep StW J b s' hfin X D back=>⟨trivial,?_⟩))
 show wA _ _ (call (.builtin "any") [.ref a]) _ _ _
 refine call_function_tree F.kind_any F.plain_any F.entry_any (F.args_any1 _) ?_
 unfold Builtin.«any»
 refine wb9 (m:=oneArg "any" _) (wp_ ?_)
 have hg:s'.heap.IsGen a g:=by obtain⟨⟨_,_,_,_,_,_,_,_,h7,_⟩,_⟩:=D;exact h7
 refine wb9 (wpAny_pyIter_gen hg (wp_ ⟨plainId_quiet F.plain_any_loop _,Qi7 X hA n 0 s' (Nat.sub_zero _) (Nat.zero_le _) D λs'' hE=>?_⟩))
 obtain⟨o',hJ,S'⟩:=back s'' hE
 rw[List.drop_zero]
 exact hQ _ _ _ _ (hfin o' hJ) S'
end
abbrev XI (h:Heap) (z TI TO:Ad) (f0:Vl) (f1:Bool):Prop :=
 h.get? z=some { cls:=.type "zip",dict:=none,data:=.fields #[f0,.bool f1,.bool false,.ref TI,.ref TO],slots:=#[] }
def Xb (z TI TO i1 i2 l1 l2:Ad) (xs ys:Array Vl) (i:Nat) (h:Heap):Prop :=
 (∃f0 f1,(f0 = .none\/∃T:Ad,f0=rawInt T)/\XI h z TI TO f0 f1)/\IsPair h TI (.ref i1) (.ref i2)/\(∃a b,IsPair h TO a b)/\h.IsListIter i1 l1 i/\h.IsListIter i2 l2 i/\h.IsList l1 xs/\h.IsList l2 ys
section
variable {prog:Program}{w:World}{A:Ar}{E:KQ_}
theorem QnT {M:Model}{Q:Option Obj->Sh->Prop}(h:Q (s.heap.get? a) s):wA M A (loadIfAlive a) Q E s:=λx_ x_ x_=>h
theorem Qfu {M:Model}{α:Type}{x y:Sem α}{Q:α->Sh->Prop} [d:Decidable (true=true)] (h:wA M A x Q E s):wA M A (if true=true then x else y) Q E s:=(if_pos (c:=true=true) (t:=x) (e:=y) rfl).symm▸h
theorem Qft {M:Model}{α:Type}{x y:Sem α}{Q:α->Sh->Prop} [d:Decidable (false=true)] (h:wA M A y Q E s):wA M A (if false=true then x else y) Q E s:=(if_neg (c:=false=true) (t:=x) (e:=y) Bool.false_ne_true).symm▸h
theorem qj {M:Model}{α β:Type}{a:α}{l:List α}{b:β}{f:α->β->Sem (ForInStep β)}{Q:β->Sh->Prop}(h:wA M A (f a b >>= λr=>match r with|.done x=>pure x|.yield x=>forIn l x f) Q E s):wA M A (forIn (a::l) b f) Q E s:=by rw[List.forIn_cons];exact h
theorem Qfs {M:Model}{α β:Type}{b:β}{f:α->β->Sem (ForInStep β)}{Q:β->Sh->Prop}(h:Q b s):wA M A (forIn ([]:List α) b f) Q E s:=wp_ h
theorem Qfr {M:Model}{α β:Type}{l:List α}{b:β}{f:α->β->Sem (ForInStep β)}{Q:β->Sh->Prop}(h:wA M A (forIn l b f) Q E s):wA M A (forIn l.toArray b f) Q E s:=by rw[<- Array.forIn_toList];exact h
theorem zip_isFree {z TI TO:Ad}{f0:Vl}{f1:Bool}{Q:Bool->Sh->Prop}(hf:f0 = .none\/∃T:Ad,f0=rawInt T) (hz:XI s.heap z TI TO f0 f1)
  (h1:Q true s) (h2:∀h',XI h' z TI TO f0 true->Heap.SameBut z s.heap h'->Q false { s with heap:=h' }):wA (model prog w) A (Builtin.SmallTypes.ownedTupleIsFree (.ref z)) Q E s:=by
 unfold Builtin.SmallTypes.ownedTupleIsFree
 refine wb9 (wpAny_field hz rfl (x:=f0) rfl ?_)
 rcases hf with rfl|⟨T,rfl⟩
 ·exact wp_ h1
 ·show wA _ _ (loadIfAlive (Int.toNat (T:Int)) >>= _) _ _ _
  refine wb9 (QnT ?_)
  cases hl:s.heap.get? (Int.toNat (T:Int)) with
  |none=>exact wp_ h1
  |some o =>
   show wA _ _ (field (.ref z) 1 >>= _) _ _ _
   refine wb9 (wpAny_field hz rfl (x:=.bool f1) rfl ?_)
   induction f1 with
   |true=>exact wp_ (h2 s.heap hz ⟨rfl,λx_ x_=>rfl⟩)
   |false =>
    show wA _ _ (setField (.ref z) 1 (.bool true) >>= _) _ _ _
    exact wb9 (wpAny_setField_rec hz (by simp) λh' hz' hs'=>wp_ (h2 h' hz' hs'))
theorem zip_item {z TI TO i1 i2 l1 l2:Ad}{k:Nat}{xs ys:Array Vl}{x y:Vl}{Q:KQ_}(D:ZipApart z TI TO i1 i2 l1 l2) (hst:Xb z TI TO i1 i2 l1 l2 xs ys k s.heap) (hx:xs[k]?=some x) (hy:ys[k]?=some y)
  (hQ:∀h' T,Xb z TI TO i1 i2 l1 l2 xs ys (k+1) h'->s.heap.objs.size<=T->h'.get? T=some (tup [x,y])->(∀c o,c≠z->c≠TO->c≠i1->c≠i2->s.heap.get? c=some o->h'.get? c=some o)->Q (.ref T) { s with heap:=h' }) :
  wA (model prog w) A (Builtin.«zip.__next__» ⟨[.ref z],[]⟩) (λfin s'=>∃v,fin = .done (.ret v)/\Q v s') E s:=by
 obtain⟨⟨f0,f1,hf,hz⟩,hTI,⟨a,b,hTO⟩,h1,h2,hl1,hl2⟩:=hst
 show wA _ _ (field (.ref z) 2 >>= _) _ _ _
 refine wb9 (wpAny_field hz rfl (x:=.bool false) rfl ?_)
 show wA _ _ (field (.ref z) 3 >>= _) _ _ _
 refine wb9 (wpAny_field hz rfl (x:=.ref TI) rfl ?_)
 refine wb9 (wpAny_seqItems hTI rfl ?_)
 show wA _ _ (Builtin.SmallTypes.ownedTupleIsFree (.ref z) >>= _) _ _ _
 refine wb9 (zip_isFree hf hz ?_ λh₁ hz₁ hs₁=>?_)
 ·refine Qfu (wb9 (wpAny_rule ?_))
  refine wb9 (wpAny_field hz rfl (x:=.ref TO) rfl ?_)
  refine wb9 (wpAny_setField_rec hz (by simp) λh₁ hz₁ hs₁=>?_)
  replace hz₁:XI h₁ z TI TO .ellipsis f1:=hz₁
  refine wb9 ?_
  refine qj (wb9 (wb9 (wpAny_onRaise ?_)))
  show wA _ _ (Builtin.SmallTypes.nextOf (.ref i1) >>= _) _ _ _
  refine wb9 (wpAny_nextOf_list_item (h1.extBut hs₁.extBut D.i1z) (hl1.extBut hs₁.extBut D.l1z) hx λh₂ h1₂ hs₂=>wp_ ?_)
  have cq:IsPair h₂ TO a b:=hs₂.extBut _ _ D.TOi1 (hs₁.extBut _ _ D.TOz hTO)
  refine wb9 (wpAny_seqItems cq rfl ?_)
  refine wb9 (wpAny_updateSeq_pair cq λh₃ ca hs₃=>?_)
  replace ca:IsPair h₃ TO x b:=ca
  refine wb9 (wpAny_letGo (wp_ ?_))
  refine qj (wb9 (wb9 (wpAny_onRaise ?_)))
  show wA _ _ (Builtin.SmallTypes.nextOf (.ref i2) >>= _) _ _ _
  refine wb9 (wpAny_nextOf_list_item (((h2.extBut hs₁.extBut D.i2z).extBut hs₂.extBut D.i12.symm).extBut hs₃.extBut D.TOi2.symm)
   (((hl2.extBut hs₁.extBut D.l2z).extBut hs₂.extBut D.l2i1).extBut hs₃.extBut D.l2TO) hy λh₄ h2₄ hs₄=>wp_ ?_)
  have cn:IsPair h₄ TO x b:=hs₄.extBut _ _ D.TOi2 ca
  refine wb9 (wpAny_seqItems cn rfl ?_)
  refine wb9 (wpAny_updateSeq_pair cn λh₅ bQ hs₅=>?_)
  replace bQ:IsPair h₅ TO x y:=bQ
  refine wb9 (wpAny_letGo (wp_ (Qfs ?_)))
  refine wb9 (wpAny_seqItems bQ rfl ?_)
  refine wb9 (wpAny_newTuple ?_)
  have hsz:h₅.objs.size=s.heap.objs.size:=by rw[hs₅.1,hs₄.1,hs₃.1,hs₂.1,hs₁.1]
  have hz₅:XI h₅ z TI TO .ellipsis f1:=hs₅.extBut _ _ D.TOz.symm (hs₄.extBut _ _ D.i2z.symm (hs₃.extBut _ _ D.TOz.symm (hs₂.extBut _ _ D.i1z.symm hz₁)))
  have hk₅:∀c o,c≠z->c≠TO->c≠i1->c≠i2->s.heap.get? c=some o->h₅.get? c=some o:=λc o c1 c2 c3 c4 e =>
   hs₅.extBut _ _ c2 (hs₄.extBut _ _ c4 (hs₃.extBut _ _ c2 (hs₂.extBut _ _ c3 (hs₁.extBut _ _ c1 e))))
  have h1₅:h₅.IsListIter i1 l1 (k+1):=((h1₂.extBut hs₃.extBut D.TOi1.symm).extBut hs₄.extBut D.i12).extBut hs₅.extBut D.TOi1.symm
  have h2₅:h₅.IsListIter i2 l2 (k+1):=h2₄.extBut hs₅.extBut D.TOi2.symm
  have hzlt:z < h₅.objs.size:=Heap.lt_size hz₅
  show wA _ _ (Builtin.SmallTypes.ownedTupleHandOut (.ref z) (.ref h₅.objs.size) >>= _) _ _ _
  refine wb9 ?_
  unfold Builtin.SmallTypes.ownedTupleHandOut
  have hz₆:XI (h₅.push { cls:=.type "tuple",data:=.seq #[x,y] }) z TI TO .ellipsis f1:=gp_ _ hz₅
  refine wb9 (wpAny_setField_rec hz₆ (by simp) λh₇ hz₇ hs₇=>?_)
  replace hz₇:XI h₇ z TI TO (rawInt h₅.objs.size) f1:=hz₇
  refine wpAny_setField_rec hz₇ (by simp) λh₈ hz₈ hs₈=>?_
  replace hz₈:XI h₈ z TI TO (rawInt h₅.objs.size) false:=hz₈
  have up:∀c o,c≠z->h₅.get? c=some o->h₈.get? c=some o:=λc o c1 e=>hs₈.extBut _ _ c1 (hs₇.extBut _ _ c1 (gp_ _ e))
  have hT₈:IsPair h₈ h₅.objs.size x y:=hs₈.extBut _ _ (Nat.ne_of_gt hzlt) (hs₇.extBut _ _ (Nat.ne_of_gt hzlt) (gz_ _ rfl))
  refine wp_ ⟨_,rfl,?_⟩
  exact hQ h₈ _ ⟨⟨_,_,.inr ⟨_,rfl⟩,hz₈⟩,up _ _ D.TIz (hk₅ _ _ D.TIz D.TITO D.TIi1 D.TIi2 hTI),⟨_,_,up _ _ D.TOz bQ⟩,h1₅.at λo e=>up _ o D.i1z e,h2₅.at λo e=>up _ o D.i2z e,hl1.at λo e=>up _ o D.l1z (hk₅ _ o D.l1z D.l1TO D.l1i1 D.l1i2 e),hl2.at λo e=>up _ o D.l2z (hk₅ _ o D.l2z D.l2TO D.l2i1 D.l2i2 e)⟩ (Nat.le_of_eq hsz.symm) hT₈
   λc o c1 c2 c3 c4 e=>up c o c1 (hk₅ c o c1 c2 c3 c4 e)
 ·refine Qft ?_
  have hTO₁:IsPair h₁ TO a b:=hs₁.extBut _ _ D.TOz hTO
  refine wb9 ?_
  refine Qfr (qj (wb9 (wb9 (wh_ ?_))))
  show wA _ _ (Builtin.SmallTypes.nextOf (.ref i1) >>= _) _ _ _
  refine wb9 (wpAny_nextOf_list_item (h1.extBut hs₁.extBut D.i1z) (hl1.extBut hs₁.extBut D.l1z) hx λh₂ h1₂ hs₂=>wp_ (wp_ ?_))
  refine qj (wb9 (wb9 (wh_ ?_)))
  show wA _ _ (Builtin.SmallTypes.nextOf (.ref i2) >>= _) _ _ _
  refine wb9 (wpAny_nextOf_list_item ((h2.extBut hs₁.extBut D.i2z).extBut hs₂.extBut D.i12.symm) ((hl2.extBut hs₁.extBut D.l2z).extBut hs₂.extBut D.l2i1) hy λh₃ h2₃ hs₃=>wp_ (wp_ (Qfs ?_)))
  dsimp only
  refine wb9 (wpAny_newTuple ?_ (by simp<;>decide))
  have hk₃:∀c o,c≠z->c≠i1->c≠i2->s.heap.get? c=some o->h₃.get? c=some o:=λc o c1 c3 c4 e=>hs₃.extBut _ _ c4 (hs₂.extBut _ _ c3 (hs₁.extBut _ _ c1 e))
  have hsz:h₃.objs.size=s.heap.objs.size:=by rw[hs₃.1,hs₂.1,hs₁.1]
  have hz₃:XI h₃ z TI TO f0 true:=hs₃.extBut _ _ D.i2z.symm (hs₂.extBut _ _ D.i1z.symm hz₁)
  have up:∀c o,c≠z->c≠i1->c≠i2->s.heap.get? c=some o->(h₃.push (tup [x,y])).get? c=some o:=λc o c1 c3 c4 e=>gp_ _ (hk₃ c o c1 c3 c4 e)
  refine wp_ ⟨_,rfl,hQ _ _ ⟨⟨f0,true,hf,gp_ _ hz₃⟩,up _ _ D.TIz D.TIi1 D.TIi2 hTI,⟨a,b,up _ _ D.TOz D.TOi1 D.TOi2 hTO⟩,(h1₂.extBut hs₃.extBut D.i12).at λo e=>gp_ _ e,h2₃.at λo e=>gp_ _ e,hl1.at λo e=>up _ o D.l1z D.l1i1 D.l1i2 e,hl2.at λo e=>up _ o D.l2z D.l2i1 D.l2i2 e⟩ (Nat.le_of_eq hsz.symm) (gz_ _ rfl) λc o c1 c2 c3 c4 e=>up c o c1 c3 c4 e⟩
theorem zip_end {z TI TO i1 i2 l1 l2:Ad}{k:Nat}{xs ys:Array Vl}{Q:Fin->Sh->Prop}(hh:A.handled=none) (D:ZipApart z TI TO i1 i2 l1 l2) (hst:Xb z TI TO i1 i2 l1 l2 xs ys k s.heap) (hx:xs[k]?=none)
  (hE:∀h' e,(∀c o,c≠z->c≠TO->c≠i1->c≠i2->s.heap.get? c=some o->h'.get? c=some o)->(∃o,h'.get? e=some o/\o.cls = .type "StopIteration")->E (.ref e) { s with heap:=h' }) :
  wA (model prog w) A (Builtin.«zip.__next__» ⟨[.ref z],[]⟩) Q E s:=by
 obtain⟨⟨f0,f1,hf,hz⟩,hTI,⟨a,b,hTO⟩,h1,h2,hl1,hl2⟩:=hst
 show wA _ _ (field (.ref z) 2 >>= _) _ _ _
 refine wb9 (wpAny_field hz rfl (x:=.bool false) rfl ?_)
 show wA _ _ (field (.ref z) 3 >>= _) _ _ _
 refine wb9 (wpAny_field hz rfl (x:=.ref TI) rfl ?_)
 refine wb9 (wpAny_seqItems hTI rfl ?_)
 show wA _ _ (Builtin.SmallTypes.ownedTupleIsFree (.ref z) >>= _) _ _ _
 refine wb9 (zip_isFree hf hz ?_ λh₁ hz₁ hs₁=>?_)
 ·refine Qfu (wb9 (wpAny_rule ?_))
  refine wb9 (wpAny_field hz rfl (x:=.ref TO) rfl ?_)
  refine wb9 (wpAny_setField_rec hz (by simp) λh₁ hz₁ hs₁=>?_)
  replace hz₁:XI h₁ z TI TO .ellipsis f1:=hz₁
  refine wb9 ?_
  refine qj (wb9 (wb9 (wpAny_onRaise ?_)))
  show wA _ _ (Builtin.SmallTypes.nextOf (.ref i1) >>= _) _ _ _
  refine wb9 (wpAny_nextOf_list_end hh (h1.extBut hs₁.extBut D.i1z) (hl1.extBut hs₁.extBut D.l1z) hx λh₂ e hs₂ he=>?_)
  obtain⟨oe,hoe,hce⟩:=he
  have hz₂:XI h₂ z TI TO .ellipsis f1:=hs₂ _ _ D.i1z.symm hz₁
  have hez:e≠z:=λx=>by subst x;cases hz₂,hoe;simp at hce
  refine wpAny_setField_rec hz₂ (by simp) λh₃ x_ hs₃=>hE h₃ e (λc o c1 x_ c3 x_ x=>hs₃.extBut _ _ c1 (hs₂ _ _ c3 (hs₁.extBut _ _ c1 x))) ⟨oe,hs₃.extBut _ _ hez hoe,hce⟩
 ·refine Qft ?_
  refine wb9 ?_
  refine Qfr (qj (wb9 (wb9 (wh_ ?_))))
  show wA _ _ (Builtin.SmallTypes.nextOf (.ref i1) >>= _) _ _ _
  exact wb9 (wpAny_nextOf_list_end hh (h1.extBut hs₁.extBut D.i1z) (hl1.extBut hs₁.extBut D.l1z) hx λh₂ e hs₂ he=>hE h₂ e (λc o c1 x_ c3 x_ x=>hs₂ _ _ c3 (hs₁.extBut _ _ c1 x)) he)
theorem Qez {z TI TO i1 i2 l1 l2:Ad}{k:Nat}{xs ys:Array Vl}{x y:Vl}{Q:Option Vl->Sh->Prop}(D:ZipApart z TI TO i1 i2 l1 l2) (hst:Xb z TI TO i1 i2 l1 l2 xs ys k s.heap) (hx:xs[k]?=some x) (hy:ys[k]?=some y)
  (hQ:∀h' T,Xb z TI TO i1 i2 l1 l2 xs ys (k+1) h'->s.heap.objs.size<=T->h'.get? T=some (tup [x,y])->(∀c o,c≠z->c≠TO->c≠i1->c≠i2->s.heap.get? c=some o->h'.get? c=some o)->Q (some (.ref T)) { s with heap:=h' }) :
  wA (model prog w) A (pyNext (.ref z)) Q E s:=by
 have hT:s.TypeIs (.ref z) "zip":=by obtain⟨⟨_,_,_,hz⟩,_⟩:=hst;exact⟨_,hz,rfl⟩
 unfold pyNext
 exact wb9 (wpAny_attempt (wpAny_callSpecial?_slot (name:=zz "__next__") hT F.slot_zip_next
  (wpAny_call_entry F.slot_zip_next hT F.entry_zip_next (zip_item D hst hx hy λh' T a1 a2 a3 a4=>wp_ (hQ h' T a1 a2 a3 a4)) (F.args_zip_next_1 _))))
theorem QeA {z TI TO i1 i2 l1 l2:Ad}{k:Nat}{xs ys:Array Vl}{Q:Option Vl->Sh->Prop}(hh:A.handled=none) (D:ZipApart z TI TO i1 i2 l1 l2) (hst:Xb z TI TO i1 i2 l1 l2 xs ys k s.heap) (hx:xs[k]?=none)
  (hQ:∀h',(∀c o,c≠z->c≠TO->c≠i1->c≠i2->s.heap.get? c=some o->h'.get? c=some o)->Q none { s with heap:=h' }):wA (model prog w) A (pyNext (.ref z)) Q E s:=by
 have hT:s.TypeIs (.ref z) "zip":=by obtain⟨⟨_,_,_,hz⟩,_⟩:=hst;exact⟨_,hz,rfl⟩
 unfold pyNext
 refine wb9 (wpAny_attempt (wpAny_callSpecial?_slot (name:=zz "__next__") hT F.slot_zip_next
  (wpAny_call_entry F.slot_zip_next hT F.entry_zip_next (zip_end hh D hst hx λh' e hk he=>?_) (F.args_zip_next_1 _))))
 obtain⟨o,ho,hc⟩:=he
 refine wb9 (wpAny_isInstance (T:="StopIteration") (b:=true) ⟨o,ho,hc⟩ isSubtype_stop ?_)
 exact wp_ (hQ _ hk)
theorem QbP {z TI TO i1 i2 l1 l2:Ad}{k:Nat}{xs ys:Array Vl}{Q:KQ_}(hst:Xb z TI TO i1 i2 l1 l2 xs ys k s.heap) (h:Q (.ref z) s):wA (model prog w) A (pyIter (.ref z)) Q E s:=by
 have hT:s.TypeIs (.ref z) "zip":=by obtain⟨⟨_,_,_,hz⟩,_⟩:=hst;exact⟨_,hz,rfl⟩
 refine wpAny_pyIter_slot hT F.slot_zip_iter (wpAny_call_entry F.slot_zip_iter hT F.entry_zip_iter ?_ (F.args_zip_iter_1 _))
 show wA _ _ (ret (.ref z)) _ _ s
 exact wp_ ⟨_,rfl,"zip",_,hT,F.slot_zip_next.lookup,h⟩
end
section
theorem Sg.now {wr:List Ad}{h0:Heap}(S:Sg c oh (Tactic.hide wr h0 fr) s) (hex:∀b∈wr,∃o,h0.get? b=some o):∀a o,oh a=some o->a∉wr:=λa o e hm=>by
 have:=S.dj a o e
 unfold Tactic.hide at this
 rw[if_pos hm] at this
 obtain⟨o',ho'⟩:=hex a hm
 cases ho',this
set_option tactic.hygienic true in
theorem Sg.moved {wr:List Ad}{h0 h':Heap}{t:Nat}(S:Sg c oh (Tactic.hide wr h0 fr) s) (hw:∀b∈wr,b∉c.tabs) (hex:∀b∈wr,∃o,h0.get? b=some o)
  (hk:∀b o,b∉wr->s.heap.get? b=some o->h'.get? b=some o):Sg c oh (Tactic.hide wr h' fr) { s with heap:=h',toks:=t }:=by
 have now:=S.now hex
 refine⟨S.base,λa o e=>hk a o (now a o e) (S.has a o e),λa o e=>?_,λa o e=>?_,λT hT=>?_,S.os,S.gens⟩
 ·unfold Tactic.hide at e
  split at e
  ·exact e
  ·rename_i hn
   refine hk a o hn (S.hfr a o ?_)
   unfold Tactic.hide;rw[if_neg hn];exact e
 ·unfold Tactic.hide
  rw[if_neg (now a o e)]
  have:=S.dj a o e
  unfold Tactic.hide at this
  rw[if_neg (now a o e)] at this;exact this
 ·obtain⟨⟨vs,e⟩,h1,h2⟩:=S.tab T hT
  have hn:T∉wr:=λhm=>hw T hm hT
  refine⟨⟨vs,hk T _ hn e⟩,h1,?_⟩
  unfold Tactic.hide at h2 ⊢
  rw[if_neg hn] at h2 ⊢;exact h2
set_option tactic.hygienic true in
theorem Sg.shown {wr:List Ad}{h0:Heap}(S:Sg c oh (Tactic.hide wr h0 fr) s) (hw:∀b∈wr,fr b=none):Sg c oh fr s:=by
 refine⟨S.base,S.has,λa o e=>S.hfr a o ?_,λa o e=>?_,λT hT=>?_,S.os,S.gens⟩
 ·unfold Tactic.hide
  rw[if_neg (λhm=>by cases (hw a hm),e)];exact e
 ·have:=S.dj a o e
  unfold Tactic.hide at this
  split at this
  ·rename_i hm;exact hw a hm
  ·exact this
 ·obtain⟨h0,h1,h2⟩:=S.tab T hT
  refine⟨h0,h1,?_⟩
  unfold Tactic.hide at h2
  split at h2
  ·rename_i hm;exact hw T hm
  ·exact h2
set_option tactic.hygienic true in
theorem Sg.kept {wr:List Ad}{D:Ad}{ob ob':Obj}{h':Heap}{t:Nat}(S:Sg c oh (Tactic.hide wr s.heap (fr.put D ob)) s) (hD:D∉wr) (hT:D∉c.tabs) (hs:Heap.SameBut D s.heap h') (he:h'.get? D=some ob') :
  Sg c oh (Tactic.hide wr h' (fr.put D ob')) { s with heap:=h',toks:=t }:=by
 have oD:oh D=none:=by
  cases e:oh D with
  |none=>rfl
  |some o =>
   have:=S.dj D o e
   unfold Tactic.hide at this
   rw[if_neg hD,Qa] at this;cases this
 refine⟨S.base,λa o e=>(hs.2 a (λz=>by rw[z,oD] at e;cases e)).trans (S.has a o e),λa o e=>?_,λa o e=>?_,λT hT'=>?_,S.os,S.gens⟩
 ·unfold Tactic.hide at e
  split at e
  ·exact e
  ·rename_i hn
   by_cases h:a=D
   ·subst h;cases (Qa ..),e;exact he
   ·rw[Qi h] at e
    refine(hs.2 a h).trans (S.hfr a o ?_)
    unfold Tactic.hide;rw[if_neg hn,Qi h];exact e
 ·have h:a≠D:=λz=>by rw[z,oD] at e;cases e
  have:=S.dj a o e
  unfold Tactic.hide at this ⊢
  split at this
  ·rename_i hm;rw[if_pos hm,hs.2 a h];exact this
  ·rename_i hm;rw[if_neg hm,Qi h];rw[Qi h] at this;exact this
 ·obtain⟨⟨vs,e⟩,h1,h2⟩:=S.tab T hT'
  have h:T≠D:=λz=>hT (z▸hT')
  refine⟨⟨vs,(hs.2 T h).trans e⟩,h1,?_⟩
  unfold Tactic.hide at h2 ⊢
  split at h2
  ·rename_i hm;rw[if_pos hm,hs.2 T h];exact h2
  ·rename_i hm;rw[if_neg hm,Qi h];rw[Qi h] at h2;exact h2
theorem Sg.cm {D:Ad}{ob:Obj}(S:Sg c oh (fr.put D ob) s) (hf:fr D=none) (hT:D∉c.tabs):Sg c (oh.put D ob) fr s/\oh D=none:=by
 have oD:oh D=none:=by
  cases e:oh D with
  |none=>rfl
  |some o=>have:=S.dj D o e;cases (Qa ..),this
 refine⟨⟨λa o e ht=>QE oD (S.base a o e ht),λa o e=>?_,λa o e=>S.hfr a o (by rw[Qi (λz=>by rw[z,hf] at e;cases e)];exact e),λa o e=>?_,λT hT'=>?_,S.os,S.gens⟩,oD⟩
 ·by_cases h:a=D
  ·subst h;cases (Qa ..),e;exact S.hfr _ _ (Qa ..)
  ·rw[Qi h] at e;exact S.has a o e
 ·by_cases h:a=D
  ·subst h;exact hf
  ·rw[Qi h] at e;have:=S.dj a o e;rw[Qi h] at this;exact this
 ·obtain⟨h0,h1,h2⟩:=S.tab T hT'
  have h:T≠D:=λz=>hT (z▸hT')
  exact⟨h0,by rw[Qi h];exact h1,by rw[Qi h] at h2;exact h2⟩
set_option tactic.hygienic true in
theorem Sg.bI {wr:List Ad}{h0:Heap}{ob:Obj}{t:Nat}(S:Sg c oh (Tactic.hide wr h0 fr) s) (hex:∀b∈wr,∃o,s.heap.get? b=some o) (hob:ob.isFreed=false) (hh:∀b∈wr,h0.get? b=s.heap.get? b) :
  Sg c oh (Tactic.hide wr (s.heap.push ob) (fr.put s.heap.objs.size ob)) { s with heap:=s.heap.push ob,toks:=t }:=by
 have nw:s.heap.objs.size∉wr:=λhm=>let ⟨o,e⟩:=hex _ hm;absurd (Heap.lt_size e) (Nat.lt_irrefl _)
 refine⟨S.base,λa o e=>gp_ _ (S.has a o e),λa o e=>?_,λa o e=>?_,λT hT=>?_,S.os,S.gens⟩
 ·unfold Tactic.hide at e
  split at e
  ·exact e
  ·rename_i hn
   by_cases h:a=s.heap.objs.size
   ·subst h;cases (Qa ..),e;exact gz_ _ hob
   ·rw[Qi h] at e
    refine gp_ _ (S.hfr a o ?_)
    unfold Tactic.hide;rw[if_neg hn];exact e
 ·have hl:a≠s.heap.objs.size:=Nat.ne_of_lt (S.low e)
  have:=S.dj a o e
  unfold Tactic.hide at this ⊢
  split at this
  ·rename_i hm
   obtain⟨o',e'⟩:=hex a hm
   rw[hh a hm,e'] at this;cases this
  ·rename_i hm;rw[if_neg hm,Qi hl];exact this
 ·obtain⟨⟨vs,e⟩,h1,h2⟩:=S.tab T hT
  have hl:T≠s.heap.objs.size:=Nat.ne_of_lt (S.aj hT)
  refine⟨⟨vs,gp_ _ e⟩,h1,?_⟩
  unfold Tactic.hide at h2 ⊢
  split at h2
  ·rename_i hm
   obtain⟨o',e'⟩:=hex T hm
   rw[hh T hm,e'] at h2;cases h2
  ·rename_i hm;rw[if_neg hm,Qi hl];exact h2
end
structure Dr (c:Cx) (N:Nat) (T:String) (I:Ad) (wr:List Ad) (dep:List (Ad × Obj)) (n:Nat) (J:Nat->List Vl->Own->Prop) (StW:Nat->Heap->Prop):Prop where
 ty:∀i h,StW i h->∃o,h.get? I=some o/\o.cls = .type T
 iw:I∈wr
 frame:∀i h h',StW i h->(∀b∈wr,∀o,h.get? b=some o->h'.get? b=some o)->(∀q∈dep,h.get? q.1=some q.2->h'.get? q.1=some q.2)->StW i h'
 live:∀i h,StW i h->∀b∈wr,∃o,h.get? b=some o
 jdep:∀i acc o,J i acc o->∀q∈dep,o q.1=some q.2
 step:∀ (A:Ar) i (s:Sh) o fr acc (Q:Option Vl->Sh->Prop),Qu N A->i < n->J i acc o->Sg c o (Tactic.hide wr s.heap fr) s->(∀b∈wr,fr b=none/\b∉c.tabs)->StW i s.heap->0 < s.toks ->
  (∀v o' s',J (i+1) (acc++[v]) o'->Sg c o' (Tactic.hide wr s'.heap fr) s'->StW (i+1) s'.heap->0 < s'.toks->Q (some v) s')->wA (model c.prog c.w) A (pyNext (.ref I)) Q F0 s
 done:∀ (A:Ar) (s:Sh) o fr acc (Q:Option Vl->Sh->Prop),Qu N A->J n acc o->Sg c o (Tactic.hide wr s.heap fr) s->(∀b∈wr,fr b=none/\b∉c.tabs)->StW n s.heap->0 < s.toks ->
  (∀s',Sg c o (Tactic.hide wr s'.heap fr) s'->0 < s'.toks->Q none s')->wA (model c.prog c.w) A (pyNext (.ref I)) Q F0 s
 self:∀ (A:Ar) i (s:Sh) (Q:KQ_) (E:KQ_),A.handled=none->StW i s.heap->Q (.ref I) s->wA (model c.prog c.w) A (pyIter (.ref I)) Q E s
section
variable {T:String}{I:Ad}{wr:List Ad}{dep:List (Ad × Obj)}{n:Nat}{J:Nat->List Vl->Own->Prop}{StW:Nat->Heap->Prop}
theorem Dr.at {acc:List Vl}{o:Own}(D:Dr c N T I wr dep n J StW) (hJ:J i acc o) (hst:StW i s.heap) (S:Sg c o fr s) {h':Heap}(hk:∀b ob,(b∈wr\/o b=some ob)->s.heap.get? b=some ob->h'.get? b=some ob):StW i h' :=
 D.frame i _ _ hst (λb hb ob e=>hk b ob (.inl hb) e) λq hq e=>hk q.1 q.2 (.inr (D.jdep _ _ _ hJ q hq)) e
theorem QkC {R:Result->Sh->Prop}{res:Vl}{L:Ad}(D:Dr c N T I wr dep n J StW) (hA:Qu (N+1) A) (hw:∀b∈wr,fr b=none/\b∉c.tabs) (hL:L∉wr) (hLt:L∉c.tabs) (hLf:fr L=none) (hn:n<=sizeLine) :
  ∀ (k i:Nat) (s:Sh) (acc:List Vl) (ep:Nat) (o:Own),n - i=k->i<=n->acc.length=i->J i acc o->Sg c o (Tactic.hide wr s.heap (fr.put L (lst acc ep))) s->StW i s.heap->0 < s.toks ->
  (∀s' au ep' o',au.length=n->J n au o'->Sg c o' (fr.put L (lst au ep')) s'->0 < s'.toks->R (.ok (.ret res)) s')->codeAny (model c.prog c.w) A (.builtin "list.extend.loop" ⟨[.ref L,.ref I,res],[]⟩) R s:=by
 have hA1:Qu N A.in1:=hA.in1
 have hwL:∀acc ep,∀b∈wr,(fr.put L (lst acc ep)) b=none/\b∉c.tabs:=λacc ep b hb=>⟨by rw[Qi (λz=>hL (by rw[<- z];exact hb))];exact(hw b hb).1,(hw b hb).2⟩
 intro k
 induction k with
 |zero =>
  intro i s acc ep o hk hi hlen hJ S hst P hR
  have hin:i=n:=by omega
  subst hin
  refine codeAny_builtin F.entry_extend_loop ?_
  rw[Around.under_plainId F.plain_extend_loop _]
  show wA _ A.in1 (pyNext (.ref I) >>= _) _ _ s
  refine wb9 (Z8 (D.done _ s o _ acc (λr s'=>r=none/\Sg c o (Tactic.hide wr s'.heap (fr.put L (lst acc ep))) s'/\0 < s'.toks) hA1 hJ S (hwL _ _) hst P λs' S' P'=>⟨rfl,S',P'⟩) ?_)
  rintro _ s' ⟨rfl,S',P'⟩
  exact wp_ (hR s' acc ep o hlen hJ (S'.shown λb hb=>(hwL _ _ b hb).1) P')
 |succ k ih =>
  intro i s acc ep o hk hi hlen hJ S hst P hR
  have hlt:i < n:=by omega
  refine codeAny_builtin F.entry_extend_loop ?_
  rw[Around.under_plainId F.plain_extend_loop _]
  show wA _ A.in1 (pyNext (.ref I) >>= _) _ _ s
  refine wb9 (Z8 (D.step _ i s o _ acc (λr s'=>∃v o',r=some v/\J (i+1) (acc++[v]) o'/\Sg c o' (Tactic.hide wr s'.heap (fr.put L (lst acc ep))) s'/\StW (i+1) s'.heap/\0 < s'.toks) hA1 hlt hJ S (hwL _ _) hst P λv o' s' h1 h2 h3 h4=>⟨v,o',rfl,h1,h2,h3,h4⟩) ?_)
  rintro _ s' ⟨v,o',rfl,hJ',S',hst',P'⟩
  have hS':s'.heap.get? L=some (lst acc ep):=S'.hfr L _ (by unfold Tactic.hide;rw[if_neg hL,Qa])
  show wA _ A.in1 (updateSeq L (·.push v) >>= _) _ _ _
  refine wb9 ?_
  have hsb:=Heap.SameBut.update (h:=s'.heap) L (Obj.mapSeq (·.push v))
  have hget:(s'.heap.update L (Obj.mapSeq (·.push v))).get? L=some (lst (acc++[v]) (ep+1)):=by
   rw[Heap.get?_update_self _ hS' rfl];simp[Obj.mapSeq,lst]
  refine wpAny_updateSeq hS' rfl (wp_ ⟨plainId_quiet F.plain_extend_loop _,ih (i+1) _ (acc++[v]) _ o' (by omega) hlt (by simp[hlen]) hJ' (S'.kept hL hLt hsb hget) ?_ P' hR⟩) (by simp[hlen];omega)
  refine D.at hJ' hst' S' λb ob hb e=>(hsb.2 b ?_).trans e
  rcases hb with hb|hb
  ·exact λz=>hL (by rw[<- z];exact hb)
  ·rintro rfl
   have:=S'.dj _ _ hb
   unfold Tactic.hide at this
   rw[if_neg hL,Qa] at this;cases this
structure YW (T:String):Prop where
 len:typeLookup (.type T) "__len__"=pure none
 hint:typeLookup (.type T) "__length_hint__"=pure none
 nl:(Value.type T==Value.type "list")=false
 nt:(Value.type T==Value.type "tuple")=false
theorem QdR {R:Result->Sh->Prop}{E:KQ_}{res:Vl}{L:Ad}{ep:Nat}{o:Own}(X:YW T) (D:Dr c N T I wr dep n J StW) (hA:Qu (N+1) A) (hw:∀b∈wr,fr b=none/\b∉c.tabs) (hL:L∉wr) (hLt:L∉c.tabs) (hLf:fr L=none) (hn:n<=sizeLine)
  (hJ:J 0 [] o) (S:Sg c o (Tactic.hide wr s.heap (fr.put L (lst [] ep))) s) (hst:StW 0 s.heap) (P:0 < s.toks)
  (hR:∀s' au ep' o',au.length=n->J n au o'->Sg c o' (fr.put L (lst au ep')) s'->0 < s'.toks->R (.ok (.ret res)) s') :
  wA (model c.prog c.w) A.in1 (Builtin.List.listExtendWith (.ref L) (.ref I) res)
   (λfin s'=>match fin with|.done f=>R (.ok f) s' | .again c'=>c'.quiet=true/\codeAny (model c.prog c.w) A c' R s') E s:=by
 have hS:s.heap.get? L=some (lst [] ep):=S.hfr L _ (by unfold Tactic.hide;rw[if_neg hL,Qa])
 have hLI:L≠I:=λz=>hL (z▸D.iw)
 have hT:s.TypeIs (.ref I) T:=D.ty 0 _ hst
 unfold Builtin.List.listExtendWith
 refine wb9 (wpAny_typeOf hT ?_)
 have h1:Builtin.List.listSameRef (.ref L) (.ref I)=false:=by simp[Builtin.List.listSameRef,hLI]
 simp only[h1,X.nl,X.nt,Bool.or_false,Bool.false_eq_true,if_false]
 refine wb9 (D.self _ 0 _ _ _ hA.2.2 hst ?_)
 refine wb9 (wh_ ?_)
 unfold Builtin.List.listLengthHint
 refine wb9 (wpAny_specialOf hT X.len ?_)
 show wA _ A.in1 (specialOf (Value.ref I) (zz "__length_hint__") >>= _) _ _ _
 refine wb9 (wpAny_specialOf hT X.hint ?_)
 refine wp_ ?_
 show wA _ A.in1 (rule "list.extend.makes-room" >>= λx_=>Builtin.List.listTouch (.ref L) >>= λx_ =>
  again (.builtin "list.extend.loop" ⟨[.ref L,.ref I,res],[]⟩)) _ _ _
 refine wb9 (wpAny_rule ?_)
 refine wb9 ?_
 show wA _ A.in1 (updateSeq L (·.push .none) >>= λx_=>updateSeq L (·.pop)) _ _ _
 refine wb9 (wpAny_updateSeq hS rfl ?_)
 have hS₂:=Heap.get?_update_self (Obj.mapSeq (·.push Value.none)) hS rfl
 refine wpAny_updateSeq hS₂ rfl ?_
 have hS₃:((s.heap.update L (Obj.mapSeq (·.push Value.none))).update L (Obj.mapSeq (·.pop))).get? L=some (lst [] (ep+1+1)):=by
  rw[Heap.get?_update_self (Obj.mapSeq (·.pop)) hS₂ rfl];simp[Obj.mapSeq,lst]
 have sb:Heap.SameBut L s.heap ((s.heap.update L (Obj.mapSeq (·.push Value.none))).update L (Obj.mapSeq (·.pop))) :=
  ⟨by rw[(Heap.SameBut.update ..).1,(Heap.SameBut.update ..).1],λb hb=>((Heap.SameBut.update ..).2 b hb).trans ((Heap.SameBut.update ..).2 b hb)⟩
 refine wp_ ⟨plainId_quiet F.plain_extend_loop _,QkC D hA hw hL hLt hLf hn n 0 _ [] _ o rfl (Nat.zero_le _) rfl hJ (S.kept hL hLt sb hS₃) ?_ P hR⟩
 refine D.at hJ hst S λb ob hb e=>(sb.2 b ?_).trans e
 rcases hb with hb|hb
 ·exact λz=>hL (by rw[<- z];exact hb)
 ·rintro rfl
  have:=S.dj _ _ hb
  unfold Tactic.hide at this
  rw[if_neg hL,Qa] at this;cases this
theorem Qjf {o:Own}{Q:KQ_}(X:YW T) (D:Dr c N T I wr dep n J StW) (hA:Qu (N+3) A) (hw:∀b∈wr,fr b=none/\b∉c.tabs) (hn:n<=sizeLine)
  (hJ:J 0 [] o) (S:Sg c o (Tactic.hide wr s.heap fr) s) (hst:StW 0 s.heap) (P:0 < s.toks)
  (hQ:∀s' au ep' o' L,au.length=n->J n au o'->New c o' L->Sg c (o'.put L (lst au ep')) fr s'->0 < s'.toks->Q (.ref L) s'):wA (model c.prog c.w) A (call (.type "list") [.ref I]) Q F0 s:=by
 have aL:=D.live 0 _ hst
 have S0:Sg c o fr s:=S.shown λb hb=>(hw b hb).1
 have hL:s.heap.objs.size∉wr:=λz=>let ⟨ob,e⟩:=aL _ z;absurd (Heap.lt_size e) (Nat.lt_irrefl _)
 have hLt:s.heap.objs.size∉c.tabs:=λz=>Nat.lt_irrefl _ (S0.aj z)
 refine callType_codes (Q₁:=λobj s₁=>obj = .ref s.heap.objs.size/\s₁={ s with heap:=s.heap.push { cls:=.type "list",data:=.seq #[] } }) F.called_list (F.typeCall_list_1 _) F.entry_list_init
  (code_list_new _ ⟨rfl,rfl⟩) λobj s₁ h₁=>?_
 obtain⟨rfl,rfl⟩:=h₁
 have hS:(s.heap.push { cls:=.type "list",data:=.seq #[] }).get? s.heap.objs.size=some { cls:=.type "list",data:=.seq #[] }:=gz_ _ rfl
 refine⟨⟨_,hS,rfl⟩,F.args_list_init_2 _ _,?_⟩
 show wA _ A.in1.in1 (do let old <- Builtin.List.listItems (.ref s.heap.objs.size);Builtin.List.listUpdate (.ref s.heap.objs.size) (λx_=>#[]);letGo old.toList.reverse;Builtin.List.listExtendWith (.ref s.heap.objs.size) (.ref I) .none) _ _ _
 refine wb9 ?_
 unfold Builtin.List.listItems
 refine wb9 (wpAny_seqItems hS rfl (wp_ ?_))
 show wA _ A.in1.in1 (updateSeq s.heap.objs.size (λx_=>#[]) >>= λx_=>letGo (#[]:Array Vl).toList.reverse >>= λx_=>Builtin.List.listExtendWith (.ref s.heap.objs.size) (.ref I) .none) _ _ _
 refine wb9 (wpAny_updateSeq hS rfl ?_)
 have hget:((s.heap.push { cls:=.type "list",data:=.seq #[] }).update s.heap.objs.size (Obj.mapSeq (λx_=>(#[]:Array Vl)))).get? s.heap.objs.size=some (lst [] 0):=by
  rw[Heap.get?_update_self (Obj.mapSeq (λx_=>(#[]:Array Vl))) hS rfl];simp[Obj.mapSeq,lst]
 have S₁:Sg c o (Tactic.hide wr (s.heap.push (lst [] 0)) (fr.put s.heap.objs.size (lst [] 0))) { s with heap:=s.heap.push (lst [] 0) }:=S.bI (t:=s.toks) aL rfl λx_ x_=>rfl
 refine wb9 (wpAny_letGo ?_)
 have hsb:=Heap.SameBut.update (h:=s.heap.push { cls:=.type "list",data:=.seq #[] }) s.heap.objs.size (Obj.mapSeq (λx_=>(#[]:Array Vl)))
 have S₂:=Sg.kept (s:={ s with heap:=s.heap.push { cls:=.type "list",data:=.seq #[] } }) (t:=s.toks) S₁ hL hLt hsb hget
 refine QdR X D (hA.le (by omega)).in1 hw hL hLt S0.aH hn hJ S₂ ?_ P λs' au ep' o' h1 h2 S' P'=>?_
 ·refine D.at hJ hst S0 λb ob hb e=>(hsb.2 b (Nat.ne_of_lt (Heap.lt_size e))).trans (gp_ _ e)
 ·obtain⟨S₃,oD⟩:=S'.cm S0.aH hLt
  exact⟨rfl,hQ s' au ep' o' _ h1 h2 ⟨oD,S0.aA⟩ S₃ P'⟩
end
theorem Sg.weak {oh fr fr':Own}(S:Sg c oh fr' s) (h:∀a o,fr a=some o->fr' a=some o):Sg c oh fr s:=by
 have z:∀a,fr' a=none->fr a=none:=λa e=>by
  cases q:fr a with
  |none=>rfl
  |some o=>cases (h a o q),e
 exact⟨S.base,S.has,λa o e=>S.hfr a o (h a o e),λa o e=>z a (S.dj a o e),λT hT=>let ⟨h0,h1,h2⟩:=S.tab T hT;⟨h0,h1,z T h2⟩,S.os,S.gens⟩
theorem Qet:Slot "map" "__iter__" "map.__iter__" :=
 .of (owner:="map") (n:="__iter__") (by rw[typeLookup_type,builtinLookup_eq_fast];symm) (by ac_rfl) (by ac_rfl) (by ac_rfl)
  (by first|exact .inl (by ac_rfl)|exact .inr (by ac_rfl)) (by rw[isSubtype_type];symm)
theorem qN:Slot "map" "__next__" "map.__next__" :=
 .of (owner:="map") (n:="__next__") (by rw[typeLookup_type,builtinLookup_eq_fast];symm) (by ac_rfl) (by ac_rfl) (by ac_rfl)
  (by first|exact .inl (by ac_rfl)|exact .inr (by ac_rfl)) (by rw[isSubtype_type];symm)
theorem Qmw:Slot "map" "__init__" "object.__init__" :=
 .of (owner:="object") (n:="__init__") (by rw[typeLookup_type,builtinLookup_eq_fast];symm) (by ac_rfl) (by ac_rfl) (by ac_rfl)
  (by first|exact .inl (by ac_rfl)|exact .inr (by ac_rfl)) (by rw[isSubtype_type];symm)
theorem Qer:mroOf (.type "map")=pure [.type "map",.type "object"]:=by rw[mroOf_type];symm
theorem Qmt:typeLookup (.type "map") "__new__"=pure (some (.builtin "map.__new__")):=by rw[typeLookup_type,builtinLookup_eq_fast];symm
theorem Qmn:TypeCalled "map" "map.__new__" "object.__init__" :=
 ⟨by ac_rfl,by ac_rfl,⟨_,_,Qer⟩,madeBy_type Qer Qmt (by ac_rfl),by ac_rfl,by rw[isSubtype_type];symm,Qmw⟩
theorem Qmy (a b:Vl):checkTypeCall "map" ⟨[a,b],[]⟩=pure ():=by symm
theorem Qmu (a b:Vl):checkBuiltinCall "map.__new__" ⟨[.type "map",a,b],[]⟩=pure ():=by symm
theorem Qmq:entryFor table "map.__new__"=some Builtin.«map.__new__»:=entryFor_of_tree (by symm)
theorem Qeq:entryFor table "map.__next__"=some Builtin.«map.__next__»:=entryFor_of_tree (by symm)
theorem Qmp:entryFor table "map.__iter__"=some Builtin.«dict_keyiterator.__iter__» :=
 entryFor_alias (id':="dict_keyiterator.__iter__") (by symm) (by first|rfl|ac_rfl|(unfold String.splitOn;simp +decide [String.splitOnAux])) (by ac_rfl) (by symm)
theorem Qmr:YW "map":=⟨by rw[typeLookup_type,builtinLookup_eq_fast];symm,by rw[typeLookup_type,builtinLookup_eq_fast];symm,by decide,by decide⟩
theorem zip_ext:YW "zip":=⟨by rw[typeLookup_type,builtinLookup_eq_fast];symm,by rw[typeLookup_type,builtinLookup_eq_fast];symm,by decide,by decide⟩
theorem Qmx:isSubtype (.type "map") (.type "map")=pure true:=by rw[isSubtype_type];symm
theorem QeR:Manifest.owners.lookup (String.ofList ['p','a','m'].reverse)=some Manifest.sig_map:=by symm
theorem Qep (a:Vl):argsOk "map.__next__" ⟨[a],[]⟩:=by
 unfold argsOk;rw[signature?_of (id:="map.__next__") (n:=['_','_','t','x','e','n','_','_']) (o:=['p','a','m']) (by symm) QeR];symm
theorem Qmm (a:Vl):argsOk "map.__iter__" ⟨[a],[]⟩:=by
 unfold argsOk;rw[signature?_of (id:="map.__iter__") (n:=['_','_','r','e','t','i','_','_']) (o:=['p','a','m']) (by symm) QeR];symm
def SIt (tp:Bool) (h:Heap) (it l:Ad) (i:Nat):Prop:=if tp=true then h.IsTupleIter it l i else h.IsListIter it l i
def SOf (tp:Bool) (h:Heap) (l:Ad) (xs:Array Vl):Prop:=if tp=true then h.IsTuple l xs else h.IsList l xs
theorem SIt.live {tp:Bool}{h:Heap}{it l:Ad}(x:SIt tp h it l i):∃o,h.get? it=some o:=by
 unfold SIt at x
 split at x<;>(obtain⟨o,e,_⟩:=x;exact⟨o,e⟩)
set_option tactic.hygienic true in
theorem SIt.at {tp:Bool}{h h':Heap}{it l:Ad}(x:SIt tp h it l i) (hk:∀o,h.get? it=some o->h'.get? it=some o):SIt tp h' it l i:=by
 unfold SIt at x ⊢
 split at x
 ·rename_i e;rw[if_pos e];obtain⟨o,e1,r⟩:=x;exact⟨o,hk o e1,r⟩
 ·rename_i e;rw[if_neg e];exact x.at hk
section
variable {prog:Program}{w:World}{A:Ar}{E:KQ_}
theorem QmJ {it t:Ad}{items:Array Vl}{x:Vl}{Q:KQ_}(hit:s.heap.IsTupleIter it t i)
  (ht:s.heap.IsTuple t items) (hx:items[i]?=some x)
  (hQ:∀h',h'.IsTupleIter it t (i+1)->Heap.SameBut it s.heap h'->Q x { s with heap:=h' }) :
  wA (model prog w) A (Builtin.SmallTypes.nextOf (.ref it)) Q E s:=by
 obtain⟨o,ho,hc,hd⟩:=id hit
 obtain⟨ol,hol,_,nl,hdl⟩:=ht
 unfold Builtin.SmallTypes.nextOf
 refine wb9 (wpAny_callSpecial?_slot (name:=zz "__next__") hit.typeIs F.slot_tuple_iterator_next
  (wpAny_call_entry F.slot_tuple_iterator_next hit.typeIs F.entry_tuple_iterator_next ?_ (F.args_tuple_iterator_next_1 _)))
 show wA _ _ (field (.ref it) 0 >>= _) _ _ s
 refine wb9 (wpAny_field ho hd (x:=.ref t) rfl ?_)
 show wA _ _ (if (Value.ref t==Value.none)=true then _ else _) _ _ s
 rw[if_neg (show ¬ ((Value.ref t==Value.none)=true) from Bool.false_ne_true)]
 show wA _ _ (field (.ref it) 1 >>= _) _ _ s
 refine wb9 (wpAny_field ho hd (x:=.int i 0) rfl ?_)
 show wA _ _ (seqItems? (.ref t) >>= _) _ _ s
 refine wb9 (wpAny_seqItems hol hdl ?_)
 simp only[Int.toNat_natCast,hx]
 refine wb9 (wpAny_setField ho hd (by simp) (wp_ ⟨x,rfl,wp_ (hQ _ ?_ (Heap.SameBut.update ..))⟩))
 exact⟨_,Heap.get?_update_self _ ho (Obj.isFreed_of_fields (Obj.data_mapFields hd _)),(Obj.cls_mapFields ..).trans hc,by
  rw[Obj.data_mapFields hd];simp[rawInt]⟩
theorem QmI {it t:Ad}{items:Array Vl}{Q:KQ_}(hh:A.handled=none)
  (hit:s.heap.IsTupleIter it t i) (ht:s.heap.IsTuple t items) (hx:items[i]?=none)
  (hE:∀h' e,Heap.ExtBut it s.heap h'->(∃o,h'.get? e=some o/\o.cls = .type "StopIteration")->E (.ref e) { s with heap:=h' }):wA (model prog w) A (Builtin.SmallTypes.nextOf (.ref it)) Q E s:=by
 obtain⟨o,ho,hc,hd⟩:=id hit
 obtain⟨ol,hol,_,nl,hdl⟩:=ht
 unfold Builtin.SmallTypes.nextOf
 refine wb9 (wpAny_callSpecial?_slot (name:=zz "__next__") hit.typeIs F.slot_tuple_iterator_next
  (wpAny_call_entry F.slot_tuple_iterator_next hit.typeIs F.entry_tuple_iterator_next ?_ (F.args_tuple_iterator_next_1 _)))
 show wA _ _ (field (.ref it) 0 >>= _) _ _ s
 refine wb9 (wpAny_field ho hd (x:=.ref t) rfl ?_)
 show wA _ _ (if (Value.ref t==Value.none)=true then _ else _) _ _ s
 rw[if_neg (show ¬ ((Value.ref t==Value.none)=true) from Bool.false_ne_true)]
 show wA _ _ (field (.ref it) 1 >>= _) _ _ s
 refine wb9 (wpAny_field ho hd (x:=.int i 0) rfl ?_)
 show wA _ _ (seqItems? (.ref t) >>= _) _ _ s
 refine wb9 (wpAny_seqItems hol hdl ?_)
 simp only[Int.toNat_natCast,hx]
 refine wb9 (wpAny_rule (wb9 (wpAny_setField ho hd (by simp) ?_)))
 show wA _ _ (newExc (.type "StopIteration") [] >>= _) _ _ _
 refine wb9 ?_
 simp only[newExc,newTuple]
 refine wb9 (wpAny_newObj_type ?_ (by size_fits))
 refine wb9 (m:=firstArgMember _ _) (wpAny_of_eq (a:=Value.none) (by first|rfl|(simp only[firstArgMember];rfl)) ?_)
 refine wpAny_newObj_type ?_ (by size_fits)
 unfold raiseNew
 refine wb9 (wpAny_handled ?_)
 first|rw[show A.in1.handled=none from hh]|rw[hh]
 refine wb9 (wp_ (wpAny_throw ?_))
 exact hE _ _ (((Heap.SameBut.update ..).extBut.push _).push _) ⟨_,gz_ _ rfl,rfl⟩
theorem QmH {tp:Bool}{it l:Ad}{items:Array Vl}{x:Vl}{Q:KQ_}(hit:SIt tp s.heap it l i) (hl:SOf tp s.heap l items) (hx:items[i]?=some x)
  (hQ:∀h',SIt tp h' it l (i+1)->Heap.SameBut it s.heap h'->Q x { s with heap:=h' }):wA (model prog w) A (Builtin.SmallTypes.nextOf (.ref it)) Q E s:=by
 unfold SIt at hit;unfold SOf at hl
 by_cases e:tp=true
 ·rw[if_pos e] at hit hl;exact QmJ hit hl hx λh' a=>hQ h' (by unfold SIt;rw[if_pos e];exact a)
 ·rw[if_neg e] at hit hl;exact wpAny_nextOf_list_item hit hl hx λh' a=>hQ h' (by unfold SIt;rw[if_neg e];exact a)
theorem QmG {tp:Bool}{it l:Ad}{items:Array Vl}{Q:KQ_}(hh:A.handled=none) (hit:SIt tp s.heap it l i) (hl:SOf tp s.heap l items) (hx:items[i]?=none)
  (hE:∀h' e,Heap.ExtBut it s.heap h'->(∃o,h'.get? e=some o/\o.cls = .type "StopIteration")->E (.ref e) { s with heap:=h' }):wA (model prog w) A (Builtin.SmallTypes.nextOf (.ref it)) Q E s:=by
 unfold SIt at hit;unfold SOf at hl
 by_cases e:tp=true
 ·rw[if_pos e] at hit hl;exact QmI hh hit hl hx hE
 ·rw[if_neg e] at hit hl;exact wpAny_nextOf_list_end hh hit hl hx hE
noncomputable abbrev ZQ (TI:Ad) (f:Vl):Obj:={ cls:=.type "map",dict:=none,data:=.fields #[.ref TI,f],slots:=#[] }
theorem Qms {tp:Bool}{z TI it l:Ad}{f:Vl}{items:Array Vl}{x:Vl}{Q:KQ_}(hz:s.heap.get? z=some (ZQ TI f)) (hTI:s.heap.get? TI=some (tup [.ref it])) (hzi:z≠it)
  (hit:SIt tp s.heap it l i) (hl:SOf tp s.heap l items) (hx:items[i]?=some x)
  (h:∀h',SIt tp h' it l (i+1)->Heap.SameBut it s.heap h'->wA (model prog w) A (call f [x]) Q E { s with heap:=h' }) :
  wA (model prog w) A (Builtin.«map.__next__» ⟨[.ref z],[]⟩) (λfin s'=>∃v,fin = .done (.ret v)/\Q v s') E s:=by
 show wA _ _ (field (.ref z) 0 >>= _) _ _ _
 refine wb9 (wpAny_field hz rfl (x:=.ref TI) rfl ?_)
 refine wb9 (wpAny_seqItems hTI rfl ?_)
 dsimp only
 refine wb9 ?_
 rw[<- Array.forIn_toList]
 simp only[List.forIn_cons,List.forIn_nil]
 refine wb9 (wb9 (wh_ (QmH hit hl hx λh' a1 a2=>wp_ (wp_ ?_))))
 have hz':h'.get? z=some (ZQ TI f):=(a2.2 z hzi).trans hz
 refine wb9 (wpAny_field hz' rfl (x:=f) rfl ?_)
 refine wb9 (wh_ ?_)
 exact wpAny_mono (h h' a1 a2) (λv s' q=>wb9 (wpAny_letGo (wp_ ⟨v,rfl,q⟩))) λx_ x_ z=>z
theorem Qmo {tp:Bool}{z TI it l:Ad}{f:Vl}{items:Array Vl}{Q:Fin->Sh->Prop}(hh:A.handled=none) (hz:s.heap.get? z=some (ZQ TI f)) (hTI:s.heap.get? TI=some (tup [.ref it]))
  (hit:SIt tp s.heap it l i) (hl:SOf tp s.heap l items) (hx:items[i]?=none)
  (hE:∀h' e,Heap.ExtBut it s.heap h'->(∃o,h'.get? e=some o/\o.cls = .type "StopIteration")->E (.ref e) { s with heap:=h' }) :
  wA (model prog w) A (Builtin.«map.__next__» ⟨[.ref z],[]⟩) Q E s:=by
 show wA _ _ (field (.ref z) 0 >>= _) _ _ _
 refine wb9 (wpAny_field hz rfl (x:=.ref TI) rfl ?_)
 refine wb9 (wpAny_seqItems hTI rfl ?_)
 dsimp only
 refine wb9 ?_
 rw[<- Array.forIn_toList]
 simp only[List.forIn_cons,List.forIn_nil]
 exact wb9 (wb9 (wh_ (QmG hh hit hl hx hE)))
theorem QmK {tp:Bool}{z TI it l:Ad}{f:Vl}{items:Array Vl}{x:Vl}{Q:Option Vl->Sh->Prop}(hz:s.heap.get? z=some (ZQ TI f)) (hTI:s.heap.get? TI=some (tup [.ref it])) (hzi:z≠it)
  (hit:SIt tp s.heap it l i) (hl:SOf tp s.heap l items) (hx:items[i]?=some x)
  (h:∀h',SIt tp h' it l (i+1)->Heap.SameBut it s.heap h'->wA (model prog w) A.in1 (call f [x]) (λv s'=>Q (some v) s') F0 { s with heap:=h' }) :
  wA (model prog w) A (pyNext (.ref z)) Q E s:=by
 have hT:s.TypeIs (.ref z) "map":=⟨_,hz,rfl⟩
 unfold pyNext
 exact wb9 (wpAny_attempt (wpAny_callSpecial?_slot (name:=zz "__next__") hT qN
  (wpAny_call_entry qN hT Qeq (Qms hz hTI hzi hit hl hx λh' a1 a2=>wpAny_mono (h h' a1 a2) (λv s' q=>wp_ q) λx_ x_ z=>z.elim) (Qep _))))
theorem QmL {tp:Bool}{z TI it l:Ad}{f:Vl}{items:Array Vl}{Q:Option Vl->Sh->Prop}(hh:A.handled=none) (hz:s.heap.get? z=some (ZQ TI f)) (hTI:s.heap.get? TI=some (tup [.ref it]))
  (hit:SIt tp s.heap it l i) (hl:SOf tp s.heap l items) (hx:items[i]?=none)
  (hQ:∀h',Heap.ExtBut it s.heap h'->Q none { s with heap:=h' }):wA (model prog w) A (pyNext (.ref z)) Q E s:=by
 have hT:s.TypeIs (.ref z) "map":=⟨_,hz,rfl⟩
 unfold pyNext
 refine wb9 (wpAny_attempt (wpAny_callSpecial?_slot (name:=zz "__next__") hT qN
  (wpAny_call_entry qN hT Qeq (Qmo hh hz hTI hit hl hx λh' e hk he=>?_) (Qep _))))
 obtain⟨o,ho,hc⟩:=he
 refine wb9 (wpAny_isInstance (T:="StopIteration") (b:=true) ⟨o,ho,hc⟩ isSubtype_stop ?_)
 exact wp_ (hQ _ hk)
theorem QlN {z TI:Ad}{f:Vl}{Q:KQ_}(hz:s.heap.get? z=some (ZQ TI f)) (h:Q (.ref z) s):wA (model prog w) A (pyIter (.ref z)) Q E s:=by
 have hT:s.TypeIs (.ref z) "map":=⟨_,hz,rfl⟩
 refine wpAny_pyIter_slot hT Qet (wpAny_call_entry Qet hT Qmp ?_ (Qmm _))
 show wA _ _ (ret (.ref z)) _ _ s
 exact wp_ ⟨_,rfl,"map",_,hT,qN.lookup,h⟩
theorem Qm9 {tp:Bool}{l:Ad}{xs:Array Vl}{Q:KQ_}(hl:SOf tp s.heap l xs)
  (hQ:∀o,o.isFreed=false->(∀ (h:Heap) (it:Ad),h.get? it=some o->SIt tp h it l 0)->Q (.ref s.heap.objs.size) { s with heap:=s.heap.push o }):wA (model prog w) A (pyIter (.ref l)) Q E s:=by
 unfold SOf at hl
 by_cases e:tp=true
 ·rw[if_pos e] at hl;exact wpAny_pyIter_tuple hl (hQ _ rfl λh it e1=>by unfold SIt;rw[if_pos e];exact⟨_,e1,rfl,rfl⟩)
 ·rw[if_neg e] at hl;exact wpAny_pyIter_list hl (hQ _ rfl λh it e1=>by unfold SIt;rw[if_neg e];exact⟨_,e1,rfl,rfl⟩)
end
theorem QmB (tp:Bool) (f:Vl) (l:Ad) (xs:Array Vl) :
  Meets (Builtin.«map.__new__» ⟨[.type "map",f,.ref l],[]⟩) (λx_ R s=>SOf tp s.heap l xs/\∀o,o.isFreed=false->(∀ (h:Heap) (it:Ad),h.get? it=some o->SIt tp h it l 0) ->
   R (.ok (.ret (.ref ((s.heap.push o).push (tup [.ref s.heap.objs.size])).objs.size))) { s with heap:=((s.heap.push o).push (tup [.ref s.heap.objs.size])).push (ZQ (s.heap.push o).objs.size f) }) :=
 .of_wp λprog w A R s h=>by
  obtain⟨hp,g,d,tk,os⟩:=s;obtain⟨hl,h⟩:=h
  have aG:=Qmx
  have hL:SOf tp (Shared.heap ⟨hp,g,d,tk,os⟩) l xs:=hl
  wp_walk using Qm9 hL
  intro o hf hs
  wp_walk
  exact⟨_,rfl,h o hf hs⟩
noncomputable def Own.drop (oh:Own) (wr:List Ad):Own:=λb=>if b∈wr then none else oh b
theorem Yk {wr:List Ad}{b:Ad}(h:b∉wr):oh.drop wr b=oh b:=by simp[Own.drop,h]
theorem QdL {wr:List Ad}{b:Ad}(h:b∈wr):oh.drop wr b=none:=by simp[Own.drop,h]
section
set_option tactic.hygienic true in
theorem Sg.dropped {wr:List Ad}(S:Sg c oh fr s) (hb:∀b∈wr,c.H.get? b=none) (ho:∀b∈wr,∃o,oh b=some o):Sg c (oh.drop wr) (Tactic.hide wr s.heap fr) s/\∀b∈wr,fr b=none/\b∉c.tabs:=by
 have q:∀b∈wr,fr b=none/\b∉c.tabs:=λb h=>by
  obtain⟨o,e⟩:=ho b h
  exact⟨S.dj b o e,λhT=>by cases ((S.tab b hT).2.1),e⟩
 refine⟨⟨λa o e ht=>?_,λa o e=>?_,λa o e=>?_,λa o e=>?_,λT hT=>?_,S.os,S.gens⟩,q⟩
 ·rw[Yk (λh=>by cases (hb a h),e)];exact S.base a o e ht
 ·unfold Own.drop at e
  split at e
  ·cases e
  ·exact S.has a o e
 ·unfold Tactic.hide at e
  split at e
  ·exact e
  ·exact S.hfr a o e
 ·unfold Own.drop at e
  split at e
  ·cases e
  ·rename_i h;unfold Tactic.hide;rw[if_neg h];exact S.dj a o e
 ·obtain⟨h0,h1,h2⟩:=S.tab T hT
  have h:T∉wr:=λz=>(q T z).2 hT
  refine⟨h0,by rw[Yk h];exact h1,?_⟩
  unfold Tactic.hide;rw[if_neg h];exact h2
structure qm (c:Cx) (N:Nat) (oh:Own) (T:String) (I:Ad) (n:Nat) (J:Nat->List Vl->Own->Prop):Prop where
 at_:∃wr dep StW,Dr c N T I wr dep n J StW/\(∀fr s,Sg c oh fr s->StW 0 s.heap)/\(∀b∈wr,c.H.get? b=none)/\(∀b∈wr,∃o,oh b=some o)/\J 0 [] (oh.drop wr)
theorem QfR {T:String}{I:Ad}{J:Nat->List Vl->Own->Prop}{k:KO}(X:YW T) (D:qm c N oh T I n J) (hn:n<=sizeLine)
  (hk:∀L acc ep o,acc.length=n->J n acc o->New c o L->k (.ref L) (o.put L (lst acc ep))):CW c (N+3) oh (call (.type "list") [.ref I]) k:=by
 intro A s fr Q hA S P hQ
 obtain⟨wr,dep,StW,d,hst,hb,ho,hJ⟩:=D.at_
 obtain⟨S₁,hw⟩:=S.dropped hb ho
 exact Qjf X d hA hw hn hJ S₁ (hst _ _ S) P λs' acc ep o' L h1 h2 h3 S' P'=>hQ _ _ _ (hk L acc ep o' h1 h2 h3) S'
theorem Qjz {T:String}{I:Ad}{wr:List Ad}{dep:List (Ad × Obj)}{J:Nat->List Vl->Own->Prop}{StW:Nat->Heap->Prop}{o:Own}{Q:List Vl->Sh->Prop}{E:KQ_}(X:YW T) (D:Dr c N T I wr dep n J StW) (hA:Qu (N+1) A) (hw:∀b∈wr,fr b=none/\b∉c.tabs) (hn:n<=sizeLine)
  (hJ:J 0 [] o) (S:Sg c o (Tactic.hide wr s.heap fr) s) (hst:StW 0 s.heap) (P:0 < s.toks)
  (hQ:∀s' au o',au.length=n->J n au o'->Sg c o' fr s'->0 < s'.toks->Q au s'):wA (model c.prog c.w) A (collect (.ref I)) Q E s:=by
 have aL:=D.live 0 _ hst
 have S0:Sg c o fr s:=S.shown λb hb=>(hw b hb).1
 have hL:s.heap.objs.size∉wr:=λz=>let ⟨ob,e⟩:=aL _ z;absurd (Heap.lt_size e) (Nat.lt_irrefl _)
 have hLt:s.heap.objs.size∉c.tabs:=λz=>Nat.lt_irrefl _ (S0.aj z)
 unfold collect
 refine wb9 (wpAny_runValue (codeAny_builtin F.entry_proto_collect ?_))
 rw[Around.under_plainId F.plain_proto_collect _]
 show wA _ A.in1 (newList [] >>= λl=>again (.builtin "list.__iadd__" ⟨[l,.ref I],[]⟩)) _ _ s
 refine wb9 (wpAny_newObj_type ?_)
 refine wp_ ⟨plainId_quiet F.plain_list_iadd _,codeAny_builtin F.entry_list_iadd ?_⟩
 rw[Around.under_plainId F.plain_list_iadd _]
 have S₁:Sg c o (Tactic.hide wr (s.heap.push (lst [] 0)) (fr.put s.heap.objs.size (lst [] 0))) { s with heap:=s.heap.push (lst [] 0) }:=S.bI (t:=s.toks) aL rfl λx_ x_=>rfl
 show wA _ A.in1 (Builtin.List.listExtendWith (.ref s.heap.objs.size) (.ref I) (.ref s.heap.objs.size)) _ _ _
 refine QdR (R:=λr s'=>match r with|Except.ok (Flow.ret v)=>wA (model c.prog c.w) A ((λv=>match v with|Value.ref a=>(do match (<- load a).data with|Data.seq xs epoch=>pure xs.toList|x=>unsupported "internal:collect")|x=>unsupported "internal:collect":Vl->Sem (List Vl)) v) Q E s' | Except.ok a=>False|Except.error e=>E e s') (E:=E) (s:={ s with heap:=s.heap.push (lst [] 0) }) X D hA hw hL hLt S0.aH hn hJ S₁ ?_ P λs' au ep' o' h1 h2 S' P'=>?_
 ·exact D.at hJ hst S0 λb ob hb e=>gp_ _ e
 ·have hS':s'.heap.get? s.heap.objs.size=some (lst au ep'):=S'.hfr _ _ (Qa ..)
  show wA _ A (load s.heap.objs.size >>= _) _ _ s'
  refine wb9 (wpAny_load hS' ?_)
  exact wp_ (hQ s' au o' h1 h2 (S'.weak λa ob e=>by rw[Qi (λz=>by rw[z,S0.aH] at e;cases e)];exact e) P')
theorem Qjy {I:Ad}{wr:List Ad}{dep:List (Ad × Obj)}{J:Nat->List Vl->Own->Prop}{StW:Nat->Heap->Prop}{o:Own}{Q₁:KQ_}{E:KQ_}(D:Dr c N "map" I wr dep n J StW) (hA:Qu (N+2) A) (hw:∀b∈wr,fr b=none/\b∉c.tabs) (hn:n<=sizeLine)
  (hJ:J 0 [] o) (S:Sg c o (Tactic.hide wr s.heap fr) s) (hst:StW 0 s.heap) (P:0 < s.toks)
  (hQ:∀s' au o',au.length=n->J n au o'->Sg c o' fr s'->0 < s'.toks->Q₁ (.ref s'.heap.objs.size) { s' with heap:=s'.heap.push (tup au) }) :
  codeAny (model c.prog c.w) A (.call (.builtin "tuple.__new__") ⟨[.type "tuple",.ref I],[]⟩) (wants Q₁ E) s:=by
 refine codeAny_of_tree ?_
 show wA _ A.in1 (do checkBuiltinCall "tuple.__new__" ⟨[.type "tuple",.ref I],[]⟩;again (.builtin "tuple.__new__" ⟨[.type "tuple",.ref I],[]⟩)) _ _ s
 refine wb9 (wpAny_of_eq (F.newCall_tuple_1 _) (wp_ ⟨plainId_quiet F.plain_tuple_new _,codeAny_builtin F.entry_tuple_new ?_⟩))
 rw[Around.under_plainId F.plain_tuple_new _]
 have aG:=sub_tuple_self
 have hinit:=init_tuple_lookup
 have hmh:=madeHere_tuple
 have hTI:=D.ty 0 _ hst
 have hTI':s.TypeIs (.ref I) "map":=hTI
 wp_walk using wpAny_typeOf hTI',Qjz Qmr D hA.in1 hw hn hJ S hst P
 intro s' acc o' h1 h2 S' P'
 show wA _ _ (Builtin.Tuple.tupleExact acc.toArray >>= λv=>ret v) _ _ _
 unfold Builtin.Tuple.tupleExact
 refine wb9 (wpAny_newObj_type ?_ (by show acc.toArray.size<=sizeLine;simp[h1];exact hn))
 exact wp_ (hQ s' acc o' h1 h2 S' P')
theorem QfT {I:Ad}{J:Nat->List Vl->Own->Prop}{k:KO}(D:qm c N oh "map" I n J) (hn:n<=sizeLine)
  (hk:∀L acc o,acc.length=n->J n acc o->New c o L->k (.ref L) (o.put L (tup acc))):CW c (N+3) oh (call (.type "tuple") [.ref I]) k:=by
 intro A s fr Q hA S P hQ
 obtain⟨wr,dep,StW,d,hst,hb,ho,hJ⟩:=D.at_
 obtain⟨S₁,hw⟩:=S.dropped hb ho
 refine callType_codes (Q₁:=λobj s₁=>s₁.TypeIs obj "tuple"/\Q obj s₁) F.called_tuple (F.typeCall_tuple_1 _) F.entry_object_init
  (Qjy d hA.in1 hw hn hJ S₁ (hst _ _ S) P λs' acc o' h1 h2 S' P'=>⟨⟨_,gz_ _ rfl,rfl⟩,hQ _ _ _ (hk _ acc o' h1 h2 ⟨S'.fresh,S'.aA⟩) (S'.push _ s'.toks rfl)⟩) λobj s₁ h₁=>?_
 exact⟨h₁.1,F.args_object_init_2 obj _,object_init_meets F.called_tuple.init.lookup F.called_tuple.made (by decide) c.prog c.w A.in1 _ s₁ ⟨h₁.1,rfl,h₁.2⟩⟩
theorem Qho {T:String}{I:Ad}{wr:List Ad}{dep:List (Ad × Obj)}{J:Nat->List Vl->Own->Prop}{StW:Nat->Heap->Prop}{R:Result->Sh->Prop}(D:Dr c N T I wr dep n J StW) (hA:Qu (N+1) A) (hw:∀b∈wr,fr b=none/\b∉c.tabs)
  (htr:∀i acc v o,J i (acc++[v]) o->v = .bool true):∀ (k i:Nat) (s:Sh) (acc:List Vl) (o:Own),n - i=k->i<=n->J i acc o->Sg c o (Tactic.hide wr s.heap fr) s->StW i s.heap->0 < s.toks ->
  (∀s' au o',J n au o'->Sg c o' fr s'->R (.ok (.ret (.bool true))) s')->codeAny (model c.prog c.w) A (.builtin "all.loop" ⟨[.ref I],[]⟩) R s:=by
 have hA1:Qu N A.in1:=hA.in1
 intro k
 induction k with
 |zero =>
  intro i s acc o hk hi hJ S hst P hR
  have hin:i=n:=by omega
  subst hin
  refine codeAny_builtin F.entry_all_loop ?_
  rw[Around.under_plainId F.plain_all_loop _]
  show wA _ A.in1 (pyNext (.ref I) >>= _) _ _ s
  refine wb9 (Z8 (D.done _ s o _ acc (λr s'=>r=none/\Sg c o (Tactic.hide wr s'.heap fr) s') hA1 hJ S hw hst P λs' S' P'=>⟨rfl,S'⟩) ?_)
  rintro _ s' ⟨rfl,S'⟩
  exact wb9 (wpAny_rule (wp_ (hR s' acc o hJ (S'.shown λb hb=>(hw b hb).1))))
 |succ k ih =>
  intro i s acc o hk hi hJ S hst P hR
  have hlt:i < n:=by omega
  refine codeAny_builtin F.entry_all_loop ?_
  rw[Around.under_plainId F.plain_all_loop _]
  show wA _ A.in1 (pyNext (.ref I) >>= _) _ _ s
  refine wb9 (Z8 (D.step _ i s o _ acc (λr s'=>∃v o',r=some v/\J (i+1) (acc++[v]) o'/\Sg c o' (Tactic.hide wr s'.heap fr) s'/\StW (i+1) s'.heap/\0 < s'.toks) hA1 hlt hJ S hw hst P λv o' s' h1 h2 h3 h4=>⟨v,o',rfl,h1,h2,h3,h4⟩) ?_)
  rintro _ s' ⟨v,o',rfl,hJ',S',hst',P'⟩
  have hv:=htr _ _ _ _ hJ'
  subst hv
  refine wb9 (wh_ (wpAny_truthy_bool ?_))
  refine wb9 (wpAny_letGo ?_)
  simp only[if_true]
  exact wp_ ⟨plainId_quiet F.plain_all_loop _,ih (i+1) s' _ o' (by omega) hlt hJ' S' hst' P' hR⟩
theorem QfN {T:String}{I:Ad}{J:Nat->List Vl->Own->Prop}{k:KO}(D:qm c N oh T I n J) (htr:∀i acc v o,J i (acc++[v]) o->v = .bool true)
  (hk:∀acc o,J n acc o->k (.bool true) o):CW c (N+2) oh (call (.builtin "all") [.ref I]) k:=by
 intro A s fr Q hA S P hQ
 obtain⟨wr,dep,StW,d,hst,hb,ho,hJ⟩:=D.at_
 obtain⟨S₁,hw⟩:=S.dropped hb ho
 refine call_function_tree F.kind_all F.plain_all F.entry_all (F.args_all1 _) ?_
 unfold Builtin.«all»
 refine wb9 (m:=oneArg "all" _) (wp_ ?_)
 refine wb9 (d.self _ 0 s _ _ hA.2.2 (hst _ _ S) (wp_ ⟨plainId_quiet F.plain_all_loop _,Qho d (hA.le (by omega)) hw htr n 0 s [] _ (Nat.sub_zero _) (Nat.zero_le _) hJ S₁ (hst _ _ S) P λs' acc o' h1 S'=>?_⟩))
 exact hQ _ _ _ (hk acc o' h1) S'
end
section
noncomputable def seqO (tp:Bool) (xs:List Vl) (n:Nat):Obj:=if tp=true then tup xs else lst xs n
theorem Sg.seqO (S:Sg c oh fr s) {tp:Bool}{l:Ad}(h:oh l=some (seqO tp xs n)):SOf tp s.heap l xs.toArray:=by
 unfold Tactic.seqO at h;unfold SOf
 by_cases e:tp=true
 ·rw[if_pos e] at h ⊢;exact S.tup h
 ·rw[if_neg e] at h ⊢;exact S.lst h
theorem Qct {tp:Bool}{f:Vl}{l:Ad}{k:KO}(hl:oh l=some (seqO tp xs n))
  (hk:∀o it TI z,o.isFreed=false->(∀ (h:Heap) (a:Ad),h.get? a=some o->SIt tp h a l 0)->New c oh it->New c (oh.put it o) TI->New c ((oh.put it o).put TI (tup [.ref it])) z ->
   k (.ref z) (((oh.put it o).put TI (tup [.ref it])).put z (ZQ TI f))):CW c (N+1) oh (call (.type "map") [f,.ref l]) k:=by
 intro A s fr Q hA S P hQ
 refine callType_new Qmn (by decide) (Qmy _ _) (Qmu _ _) (λobj=>F.args_object_init_3 obj _ _) Qmq (QmB tp f l xs.toArray) ⟨S.seqO hl,λo hf hi=>?_⟩
 have S₁:=S.push o s.toks hf
 have S₂:=S₁.push (tup [.ref s.heap.objs.size]) s.toks rfl
 have S₃:=S₂.push (ZQ (s.heap.push o).objs.size f) s.toks rfl
 dsimp only at S₁ S₂ S₃
 exact⟨⟨_,gz_ _ rfl,rfl⟩,hQ _ _ _ (hk o s.heap.objs.size (s.heap.push o).objs.size ((s.heap.push o).push (tup [.ref s.heap.objs.size])).objs.size hf hi ⟨S.fresh,S.aA⟩ ⟨S₁.fresh,S₁.aA⟩ ⟨S₂.fresh,S₂.aA⟩) S₃⟩
theorem QcF {tp:Bool}{f:Vl}{l it TI z:Ad}{J:Nat->List Vl->Own->Prop}(hz:oh z=some (ZQ TI f)) (hTI:oh TI=some (tup [.ref it])) (hit:oh it=some o) (hl:oh l=some (seqO tp xs n))
  (ho:∀ (h:Heap) (a:Ad),h.get? a=some o->SIt tp h a l 0) (hzi:z≠it) (bz:c.H.get? z=none) (bi:c.H.get? it=none)
  (hJ0:J 0 [] (oh.drop [z,it])) (aD:∀i acc o,J i acc o->o TI=some (tup [.ref it])/\o l=some (seqO tp xs n))
  (bv:∀i x acc o,xs[i]?=some x->J i acc o->CW c N o (call f [x] []) λv o'=>J (i+1) (acc++[v]) o'):qm c (N+1) oh "map" z xs.length J:=by
 refine⟨[z,it],[(TI,tup [.ref it]),(l,seqO tp xs n)],λi h=>h.get? z=some (ZQ TI f)/\h.get? TI=some (tup [.ref it])/\h.get? l=some (seqO tp xs n)/\SIt tp h it l i,?_,λfr s S=>⟨S.has _ _ hz,S.has _ _ hTI,S.has _ _ hl,ho _ _ (S.has _ _ hit)⟩,?_,?_,hJ0⟩
 ·refine⟨λi h st=>⟨_,st.1,rfl⟩,.head _,λi h h' st hw hd=>⟨hw z (.head _) _ st.1,hd _ (.head _) st.2.1,hd _ (.tail _ (.head _)) st.2.2.1,st.2.2.2.at λo e=>hw it (.tail _ (.head _)) o e⟩,λi h st b hb=>?_,λi acc o h q hq=>?_,?_,?_,λA i s Q E hh st hQ=>QlN st.1 hQ⟩
  ·rcases mc_.mp hb with rfl|hb
   ·exact⟨_,st.1⟩
   ·refine memS hb ?_;exact st.2.2.2.live
  ·rcases mc_.mp hq with rfl|hq
   ·exact(aD _ _ _ h).1
   ·refine memS hq ?_;exact(aD _ _ _ h).2
  ·intro A i s o' fr acc Q hA hi hJ S hw st P hQ
   have hx:xs.toArray[i]?=some xs[i]:=by simp[hi]
   have hs:SOf tp s.heap l xs.toArray:=by
    have e:=st.2.2.1
    unfold Tactic.seqO at e;unfold SOf
    by_cases h:tp=true
    ·rw[if_pos h] at e ⊢;exact⟨_,e,rfl,0,rfl⟩
    ·rw[if_neg h] at e ⊢;exact⟨_,e,rfl,n,rfl⟩
   refine QmK st.1 st.2.1 hzi st.2.2.2 hs hx λh' a1 a2=>?_
   have hex:∀b∈[z,it],∃ob,s.heap.get? b=some ob:=λb hb=>by
    rcases mc_.mp hb with rfl|hb
    ·exact⟨_,st.1⟩
    ·refine memS hb ?_;exact st.2.2.2.live
   have S₁:=S.moved (t:=s.toks) (h':=h') (λb hb=>(hw b hb).2) hex λb ob hb e=>(a2.2 b λq=>hb (q▸.tail _ (.head _))).trans e
   have hz':h'.get? z=some (ZQ TI f):=(a2.2 z hzi).trans st.1
   have hex':∀b∈[z,it],∃ob,h'.get? b=some ob:=λb hb=>by
    rcases mc_.mp hb with rfl|hb
    ·exact⟨_,hz'⟩
    ·refine memS hb ?_;exact a1.live
   refine CW.run (bv i xs[i] acc o' (by simp[hi]) hJ) hA.in1 S₁ P λv o'' s' hJ' S' P'=>?_
   have keep:∀b ob,b∈[z,it]->h'.get? b=some ob->s'.heap.get? b=some ob:=λb ob hb e=>S'.hfr b ob (by rw[XD hb];exact e)
   refine hQ v o'' s' hJ' (by rw[qI hex' keep];exact S') ⟨keep z _ (.head _) hz',S'.has _ _ (aD _ _ _ hJ').1,S'.has _ _ (aD _ _ _ hJ').2,a1.at λob e=>keep it ob (.tail _ (.head _)) e⟩ P'
  ·intro A s o' fr acc Q hA hJ S hw st P hQ
   have hx:xs.toArray[xs.length]?=none:=by simp
   have hs:SOf tp s.heap l xs.toArray:=by
    have e:=st.2.2.1
    unfold Tactic.seqO at e;unfold SOf
    by_cases h:tp=true
    ·rw[if_pos h] at e ⊢;exact⟨_,e,rfl,0,rfl⟩
    ·rw[if_neg h] at e ⊢;exact⟨_,e,rfl,n,rfl⟩
   refine QmL hA.2.2 st.1 st.2.1 st.2.2.2 hs hx λh' hk=>?_
   have hex:∀b∈[z,it],∃ob,s.heap.get? b=some ob:=λb hb=>by
    rcases mc_.mp hb with rfl|hb
    ·exact⟨_,st.1⟩
    ·refine memS hb ?_;exact st.2.2.2.live
   exact hQ _ (S.moved (t:=s.toks) (h':=h') (λb hb=>(hw b hb).2) hex λb ob hb e=>hk b ob (λq=>hb (q▸.tail _ (.head _))) e) P
 ·intro b hb
  rcases mc_.mp hb with rfl|hb
  ·exact bz
  ·refine memS hb ?_;exact bi
 ·intro b hb
  rcases mc_.mp hb with rfl|hb
  ·exact⟨_,hz⟩
  ·refine memS hb ?_;exact⟨_,hit⟩
end
section
theorem Sg.adopt (S:Sg c oh fr s) {D:Ad}{Do:Obj}(h0:oh D=none) (hf:fr D=none) (hT:D∉c.tabs) (hD:s.heap.get? D=some Do):Sg c (oh.put D Do) fr s:=by
 refine⟨λa o e ht=>QE h0 (S.base a o e ht),λa o e=>?_,S.hfr,λa o e=>?_,λT h=>?_,S.os,S.gens⟩
 ·by_cases h:a=D
  ·subst h;cases (Qa ..),e;exact hD
  ·rw[Qi h] at e;exact S.has a o e
 ·by_cases h:a=D
  ·subst h;exact hf
  ·rw[Qi h] at e;exact S.dj a o e
 ·obtain⟨h1,h2,h3⟩:=S.tab T h
  exact⟨h1,by rw[Qi (by rintro rfl;exact hT h)];exact h2,h3⟩
abbrev zipO (TI TO:Ad):Obj:={ cls:=.type "zip",dict:=none,data:=.fields #[.none,.bool false,.bool false,.ref TI,.ref TO],slots:=#[] }
structure Xq (c:Cx) (oh oo:Own) (n l1 l2:Ad):Prop where
 low:∀a o,oh a=some o->a < n
 hi:∀a,n<=a->c.H.get? a=none
 old:∀a,a < n->oo a=oh a
 it1:∃o,oo n=some o/\∀h:Heap,h.get? n=some o->h.IsListIter n l1 0
 it2:∃o,oo (n+1)=some o/\∀h:Heap,h.get? (n+1)=some o->h.IsListIter (n+1) l2 0
 ti:oo (n+2)=some (tup [.ref n,.ref (n+1)])
 to:oo (n+3)=some (tup [.none,.none])
 z:oo (n+4)=some (zipO (n+2) (n+3))
theorem Qcv {l1 l2:Ad}{xs ys:List Vl}{n1 n2:Nat}{k:KO}(h1:oh l1=some (lst xs n1)) (h2:oh l2=some (lst ys n2))
  (hk:∀n oo,Xq c oh oo n l1 l2->k (.ref (n+4)) oo):CW c N oh (call (.type "zip") [.ref l1,.ref l2]) k:=by
 intro A s fr Q hA S P hQ
 refine call_zip_2 (S.lst h1) (S.lst h2) λh' a1 a2 a3 a4 a5 a6 hk'=>?_
 obtain⟨o1,e1,c1,d1⟩:=a4
 obtain⟨o2,e2,c2,d2⟩:=a5
 have S':Sg c oh fr { s with heap:=h' }:=S.grow (t:=s.toks) hk'
 have ge:∀j,c.H.get? (s.heap.objs.size+j)=none:=λj=>S.be (Nat.le_add_right _ _)
 have gO:∀j,oh (s.heap.objs.size+j)=none:=λj=>S.bu (Nat.le_add_right _ _)
 have gF:∀j,fr (s.heap.objs.size+j)=none:=λj=>S.bf (Nat.le_add_right _ _)
 have gT:∀j,s.heap.objs.size+j∉c.tabs:=λj h=>absurd (S.aj h) (Nat.not_lt.mpr (Nat.le_add_right _ _))
 have ne:∀i j:Nat,i≠j->s.heap.objs.size+i≠s.heap.objs.size+j:=λi j h e=>h (Nat.add_left_cancel e)
 have S₀:=S'.adopt (gO 0) (gF 0) (gT 0) e1
 have S₁:=S₀.adopt (D:=s.heap.objs.size+1) (by rw[Qi (ne 1 0 (by decide))];exact gO 1) (gF 1) (gT 1) e2
 have S₂:=S₁.adopt (D:=s.heap.objs.size+2) (by rw[Qi (ne 2 1 (by decide)),Qi (ne 2 0 (by decide))];exact gO 2) (gF 2) (gT 2) a2
 have S₃:=S₂.adopt (D:=s.heap.objs.size+3) (by rw[Qi (ne 3 2 (by decide)),Qi (ne 3 1 (by decide)),Qi (ne 3 0 (by decide))];exact gO 3) (gF 3) (gT 3) a3
 have S₄:=S₃.adopt (D:=s.heap.objs.size+4) (by rw[Qi (ne 4 3 (by decide)),Qi (ne 4 2 (by decide)),Qi (ne 4 1 (by decide)),Qi (ne 4 0 (by decide))];exact gO 4) (gF 4) (gT 4) a1
 refine hQ _ _ _ (hk s.heap.objs.size _ ⟨λa o e=>S.low e,λa h=>S.be h,λa h=>?_,⟨o1,?_,λh e=>⟨o1,e,c1,d1⟩⟩,⟨o2,?_,λh e=>⟨o2,e,c2,d2⟩⟩,?_,?_,Qa ..⟩) S₄
 ·have lt:∀j,a≠s.heap.objs.size+j:=λj e=>absurd h (by rw[e];exact Nat.not_lt.mpr (Nat.le_add_right _ _))
  rw[Qi (lt 4),Qi (lt 3),Qi (lt 2),Qi (lt 1),Qi (lt 0)]
 ·have n0:∀j:Nat,0≠j->s.heap.objs.size≠s.heap.objs.size+j:=λj hj=>ne 0 j hj
  rw[Qi (n0 4 (by decide)),Qi (n0 3 (by decide)),Qi (n0 2 (by decide)),Qi (n0 1 (by decide))];exact Qa ..
 ·rw[Qi (ne 1 4 (by decide)),Qi (ne 1 3 (by decide)),Qi (ne 1 2 (by decide))];exact Qa ..
 ·rw[Qi (ne 2 4 (by decide)),Qi (ne 2 3 (by decide))];exact Qa ..
 ·rw[Qi (ne 3 4 (by decide))];exact Qa ..
theorem Xq.st {oo:Own}{n l1 l2:Ad}{xs ys:List Vl}{n1 n2:Nat}(Z:Xq c oh oo n l1 l2) (h1:oh l1=some (lst xs n1)) (h2:oh l2=some (lst ys n2)) (S:Sg c oo fr s) :
  Xb (n+4) (n+2) (n+3) n (n+1) l1 l2 xs.toArray ys.toArray 0 s.heap:=by
 obtain⟨o1,e1,i1⟩:=Z.it1
 obtain⟨o2,e2,i2⟩:=Z.it2
 exact⟨⟨_,_,.inl rfl,S.has _ _ Z.z⟩,S.has _ _ Z.ti,⟨_,_,S.has _ _ Z.to⟩,i1 _ (S.has _ _ e1),i2 _ (S.has _ _ e2),S.lst ((Z.old _ (Z.low _ _ h1)).trans h1),S.lst ((Z.old _ (Z.low _ _ h2)).trans h2)⟩
theorem Xb.live {z TI TO i1 i2 l1 l2:Ad}{xs ys:Array Vl}{h:Heap}(x:Xb z TI TO i1 i2 l1 l2 xs ys i h):∀b∈[z,TO,i1,i2],∃o,h.get? b=some o:=λb hb=>by
 obtain⟨⟨_,_,_,e1⟩,_,⟨_,_,e2⟩,⟨_,e3,_⟩,⟨_,e4,_⟩,_⟩:=x
 simp only[mc_,nn_,or_false] at hb
 rcases hb with rfl|rfl|rfl|rfl
 ·exact⟨_,e1⟩
 ·exact⟨_,e2⟩
 ·exact⟨_,e3⟩
 ·exact⟨_,e4⟩
theorem Xb.at {z TI TO i1 i2 l1 l2:Ad}{xs ys:Array Vl}{h h':Heap}(x:Xb z TI TO i1 i2 l1 l2 xs ys i h) (hk:∀b∈[z,TO,i1,i2],∀o,h.get? b=some o->h'.get? b=some o)
  (hT:∀o,h.get? TI=some o->h'.get? TI=some o) (h1:∀o,h.get? l1=some o->h'.get? l1=some o) (h2:∀o,h.get? l2=some o->h'.get? l2=some o):Xb z TI TO i1 i2 l1 l2 xs ys i h':=by
 obtain⟨⟨f0,f1,hf,e1⟩,e5,⟨a,b,e2⟩,e3,e4,e6,e7⟩:=x
 exact⟨⟨f0,f1,hf,hk _ (by simp) _ e1⟩,hT _ e5,⟨a,b,hk _ (by simp) _ e2⟩,e3.at λo e=>hk _ (by simp) o e,e4.at λo e=>hk _ (by simp) o e,e6.at h1,e7.at h2⟩
theorem zw_mem {n b:Ad}(h:b∈[n+4,n+3,n,n+1]):n<=b/\b≠n+2:=by
 simp only[mc_,nn_,or_false] at h
 rcases h with rfl|rfl|rfl|rfl
 ·exact⟨Nat.le_add_right _ _,λe=>absurd (Nat.add_left_cancel e) (by decide)⟩
 ·exact⟨Nat.le_add_right _ _,λe=>absurd (Nat.add_left_cancel e) (by decide)⟩
 ·exact⟨Nat.le_refl _,Nat.ne_of_lt (Nat.lt_add_of_pos_right (by decide))⟩
 ·exact⟨Nat.le_add_right _ _,λe=>absurd (Nat.add_left_cancel e) (by decide)⟩
theorem Xq.there {oo:Own}{n l1 l2:Ad}(Z:Xq c oh oo n l1 l2):∀b∈[n+4,n+3,n,n+1],∃o,oo b=some o:=λb hb=>by
 simp only[mc_,nn_,or_false] at hb
 obtain⟨o1,e1,_⟩:=Z.it1
 obtain⟨o2,e2,_⟩:=Z.it2
 rcases hb with rfl|rfl|rfl|rfl
 ·exact⟨_,Z.z⟩
 ·exact⟨_,Z.to⟩
 ·exact⟨_,e1⟩
 ·exact⟨_,e2⟩
theorem Xq.ext {oo:Own}{n l1 l2:Ad}(Z:Xq c oh oo n l1 l2):Ext oh (oo.drop [n+4,n+3,n,n+1]):=λa o e=>by
 have hl:=Z.low a o e
 rw[Yk (λh=>absurd hl (Nat.not_lt.mpr (zw_mem h).1)),Z.old a hl];exact e
theorem Xq.ti' {oo:Own}{n l1 l2:Ad}(Z:Xq c oh oo n l1 l2):(oo.drop [n+4,n+3,n,n+1]) (n+2)=some (tup [.ref n,.ref (n+1)]):=by
 rw[Yk (λh=>(zw_mem h).2 rfl)];exact Z.ti
theorem Xq.apart {oo:Own}{n l1 l2:Ad}{o1 o2:Obj}(Z:Xq c oh oo n l1 l2) (h1:oh l1=some o1) (h2:oh l2=some o2):ZipApart (n+4) (n+2) (n+3) n (n+1) l1 l2:=zipApart_new (Z.low _ _ h1) (Z.low _ _ h2)
theorem Qf6 {oo:Own}{n l1 l2:Ad}{xs ys:List Vl}{n1 n2:Nat}{px:Pos}(Z:Xq c oh oo n l1 l2) (h1:oh l1=some (lst xs n1)) (h2:oh l2=some (lst ys n2)) (hlen:xs.length=ys.length) :
  qo c N oo (oo.drop [n+4,n+3,n,n+1]) (.ref (n+4)) (.Name x px) xs.length (λi v q=>∃a b,xs[i]?=some a/\ys[i]?=some b/\q=some [a,b]) [(n+2,tup [.ref n,.ref (n+1)]),(l1,lst xs n1),(l2,lst ys n2)]:=by
 intro A s fr Q hA S P hQ
 have st:=Z.st h1 h2 S
 have D:=Z.apart h1 h2
 obtain⟨S₁,hw⟩:=S.dropped (wr:=[n+4,n+3,n,n+1]) (λb hb=>Z.hi b (zw_mem hb).1) Z.there
 refine QbP st (hQ _ s ⟨[n+2,l1,l2]++[n+4,n+3,n,n+1],[n+4,n+3,n,n+1],Xb (n+4) (n+2) (n+3) n (n+1) l1 l2 xs.toArray ys.toArray,⟨λb hb=>mr_ _ hb,λi h h' x hk=>x.at (λb hb o e=>hk b (mr_ _ hb) o e) (λo e=>hk _ (by simp) o e) (λo e=>hk _ (by simp) o e) (λo e=>hk _ (by simp) o e),λi h x=>x.live,?_,?_,λA' i s Q E hh x hQ=>QbP x hQ⟩,st,λb hb=>⟨QdL hb,(hw b hb).1,(hw b hb).2,let ⟨o,e⟩:=Z.there b hb;⟨o,S.has _ _ e⟩⟩,λb hb=>?_⟩ (S₁.shown λb hb=>(hw b hb).1))
 ·intro A' i s₁ Q₁ E₁ hh hi x hQ₁ PP
  have hx:xs.toArray[i]?=some xs[i]:=Qav hi
  have hy:ys.toArray[i]?=some (ys[i]'(hlen▸hi)):=Qav (hlen▸hi)
  refine Qez D x hx hy λh' T a1 a2 a3 a4=>?_
  exact hQ₁ (.ref T) (some [xs[i],ys[i]'(hlen▸hi)]) h' s₁.toks ⟨_,_,List.getElem?_eq_getElem hi,List.getElem?_eq_getElem (hlen▸hi),rfl⟩ (λzs e=>⟨T,rfl,a2,by cases e;exact a3⟩) (λb o hb e=>a4 b o (nn0 hb) (nn1 hb) (nn2 hb) (nn3 hb) e) PP
   λA'' Q' E' hQ'=>QnS (hQ' h' a1 λx_ x_ x_ e=>e)
 ·intro A' s₁ Q₁ E₁ hh x hQ₁ PP
  refine QeA hh D x Qdw λh' hk=>hQ₁ h' s₁.toks (λb o hb e=>hk b o (nn0 hb) (nn1 hb) (nn2 hb) (nn3 hb) e) PP
 ·rcases ma_.mp hb with hb|hb
  ·simp only[mc_,nn_,or_false] at hb
   rcases hb with rfl|rfl|rfl
   ·exact .inr ⟨_,.head _⟩
   ·exact .inr ⟨_,.tail _ (.head _)⟩
   ·exact .inr ⟨_,.tail _ (.tail _ (.head _))⟩
  ·exact .inl hb
theorem Qf5 {oo:Own}{n l1 l2:Ad}{xs ys:List Vl}{n1 n2:Nat}{J:Nat->List Vl->Own->Prop}(Z:Xq c oh oo n l1 l2) (h1:oh l1=some (lst xs n1)) (h2:oh l2=some (lst ys n2)) (hlen:xs.length=ys.length)
  (hJ0:J 0 [] (oo.drop [n+4,n+3,n,n+1])) (hext:∀i acc o,J i acc o->Ext (oo.drop [n+4,n+3,n,n+1]) o)
  (hstep:∀i a b acc o T,xs[i]?=some a->ys[i]?=some b->J i acc o->New c o T->J (i+1) (acc++[.ref T]) (o.put T (tup [a,b]))):qm c N oo "zip" (n+4) xs.length J:=by
 have D:=Z.apart h1 h2
 have dl1:(oo.drop [n+4,n+3,n,n+1]) l1=some (lst xs n1):=Z.ext _ _ h1
 have dl2:(oo.drop [n+4,n+3,n,n+1]) l2=some (lst ys n2):=Z.ext _ _ h2
 refine⟨[n+4,n+3,n,n+1],[(n+2,tup [.ref n,.ref (n+1)]),(l1,lst xs n1),(l2,lst ys n2)],λi h=>Xb (n+4) (n+2) (n+3) n (n+1) l1 l2 xs.toArray ys.toArray i h/\h.get? l1=some (lst xs n1)/\h.get? l2=some (lst ys n2),?_,λfr s S=>⟨Z.st h1 h2 S,S.has _ _ ((Z.old _ (Z.low _ _ h1)).trans h1),S.has _ _ ((Z.old _ (Z.low _ _ h2)).trans h2)⟩,λb hb=>Z.hi b (zw_mem hb).1,Z.there,hJ0⟩
 refine⟨λi h x=>?_,.head _,λi h h' x hk hd=>⟨x.1.at hk (λo e=>?_) (λo e=>?_) (λo e=>?_),hd _ (.tail _ (.head _)) x.2.1,hd _ (.tail _ (.tail _ (.head _))) x.2.2⟩,λi h x=>x.1.live,λi acc o hJ q hq=>?_,?_,?_,λA' i s Q E hh x hQ=>QbP x.1 hQ⟩
 ·obtain⟨⟨⟨f0,f1,hf,e1⟩,_⟩,_⟩:=x
  exact⟨_,e1,rfl⟩
 ·have:=x.1.2.1;cases this,e;exact hd _ (.head _) this
 ·cases (x.2.1),e;exact hd _ (.tail _ (.head _)) x.2.1
 ·cases (x.2.2),e;exact hd _ (.tail _ (.tail _ (.head _))) x.2.2
 ·have E:=hext _ _ _ hJ
  simp only[mc_,nn_,or_false] at hq
  rcases hq with rfl|rfl|rfl
  ·exact E _ _ Z.ti'
  ·exact E _ _ dl1
  ·exact E _ _ dl2
 ·intro A i s o fr acc Q hA hi hJ S hw x P hQ
  have hx:xs.toArray[i]?=some xs[i]:=Qav hi
  have hy:ys.toArray[i]?=some (ys[i]'(hlen▸hi)):=Qav (hlen▸hi)
  refine Qez D x.1 hx hy λh' T a1 a2 a3 a4=>?_
  have hex:=x.1.live
  have old:∀b ob,b∉[n+4,n+3,n,n+1]->s.heap.get? b=some ob->h'.get? b=some ob:=λb ob hb e=>a4 b ob (nn0 hb) (nn1 hb) (nn2 hb) (nn3 hb) e
  have S₁:=S.moved (t:=s.toks) (h':=h') (λb hb=>(hw b hb).2) hex old
  have nT:New c o T:=⟨S.bu a2,S.be a2⟩
  have hTw:T∉[n+4,n+3,n,n+1]:=λz=>let ⟨ob,e⟩:=hex T z;absurd (Heap.lt_size e) (Nat.not_lt.mpr a2)
  have S₂:=S₁.adopt (D:=T) nT.own (by
   have q:=S.bf a2
   unfold Tactic.hide at q ⊢
   rw[if_neg hTw] at q ⊢;exact q) (λz=>absurd (S.aj z) (Nat.not_lt.mpr a2)) a3
  have E:=hext _ _ _ hJ
  exact hQ _ _ _ (hstep i _ _ acc o T (List.getElem?_eq_getElem hi) (List.getElem?_eq_getElem (hlen▸hi)) hJ nT) S₂ ⟨a1,S₁.has _ _ (E _ _ dl1),S₁.has _ _ (E _ _ dl2)⟩ P
 ·intro A s o fr acc Q hA hJ S hw x P hQ
  refine QeA hA.2.2 D x.1 Qdw λh' hk=>?_
  exact hQ _ (S.moved (t:=s.toks) (h':=h') (λb hb=>(hw b hb).2) x.1.live λb ob hb e=>hk b ob (nn0 hb) (nn1 hb) (nn2 hb) (nn3 hb) e) P
end
section
noncomputable abbrev Qku (it:Ad):Obj:={ cls:=.type "enumerate",dict:=none,data:=.fields #[.none,.bool false,.ref it,rawInt 0,.none,.none],slots:=#[] }
structure Qae (c:Cx) (oh oo:Own) (n l:Ad):Prop where
 low:∀a o,oh a=some o->a < n
 hi:∀a,n<=a->c.H.get? a=none
 old:∀a,a < n->oo a=oh a
 it:∃o,oo n=some o/\∀h:Heap,h.get? n=some o->h.IsListIter n l 0
 e:oo (n+1)=some (Qku n)
theorem Qcs {l:Ad}{n1:Nat}{k:KO}(h1:oh l=some (lst xs n1)) (hk:∀n oo,Qae c oh oo n l->k (.ref (n+1)) oo):CW c N oh (call (.type "enumerate") [.ref l]) k:=by
 intro A s fr Q hA S P hQ
 refine call_enumerate_1 (S.has _ _ h1) λh' a1 a2 a3 hk'=>?_
 obtain⟨o1,e1,c1,d1⟩:=a2
 have S':Sg c oh fr { s with heap:=h' }:=S.grow (t:=s.toks) hk'
 have S₀:=S'.adopt (D:=s.heap.objs.size) S.fresh S.aH (λh=>Nat.lt_irrefl _ (S.aj h)) e1
 have S₁:=S₀.adopt (D:=s.heap.objs.size+1) (by rw[Qi (Nat.succ_ne_self _)];exact S.bu (Nat.le_succ _)) (S.bf (Nat.le_succ _)) (λh=>absurd (S.aj h) (Nat.not_lt.mpr (Nat.le_succ _))) a1
 refine hQ _ _ _ (hk s.heap.objs.size _ ⟨λa o e=>S.low e,λa h=>S.be h,λa h=>?_,⟨o1,?_,λh e=>⟨o1,e,c1,d1⟩⟩,Qa ..⟩) S₁
 ·rw[Qi (Nat.ne_of_lt (Nat.lt_succ_of_lt h)),Qi (Nat.ne_of_lt h)]
 ·rw[Qi (Nat.ne_of_lt (Nat.lt_succ_self _))];exact Qa ..
theorem Qae.ext {oo:Own}{n l:Ad}(Z:Qae c oh oo n l):Ext oh (oo.drop [n+1,n]):=λa o e=>by
 have hl:=Z.low a o e
 rw[Yk,Z.old a hl]
 ·exact e
 ·intro h
  simp only[mc_,nn_,or_false] at h
  rcases h with rfl|rfl
  ·exact absurd hl (Nat.not_lt.mpr (Nat.le_succ _))
  ·exact absurd hl (Nat.lt_irrefl _)
def QcG (e it l:Ad) (xs:Array Vl) (i:Nat) (h:Heap):Prop:=(∃old,IsEnum h e it i old)/\h.IsListIter it l i/\h.IsList l xs
theorem QcH {oo:Own}{n l:Ad}{n1:Nat}{es:List Expr}{kx:Nat}{px:Pos}(Z:Qae c oh oo n l) (h1:oh l=some (lst xs n1)) :
  qo c N oo (oo.drop [n+1,n]) (.ref (n+1)) (.Tuple es kx px) xs.length (λi v q=>∃a t,xs[i]?=some a/\q=some [.int i t,a]) [(l,lst xs n1)]:=by
 intro A s fr Q hA S P hQ
 have hl0:=S.has _ _ ((Z.old _ (Z.low _ _ h1)).trans h1)
 have hln:l≠n:=Nat.ne_of_lt (Z.low _ _ h1)
 have hln1:l≠n+1:=Nat.ne_of_lt (Nat.lt_succ_of_lt (Z.low _ _ h1))
 obtain⟨o1,e1,i1⟩:=Z.it
 have there:∀b∈[n+1,n],∃o,oo b=some o:=λb hb=>by
  simp only[mc_,nn_,or_false] at hb
  rcases hb with rfl|rfl
  ·exact⟨_,Z.e⟩
  ·exact⟨_,e1⟩
 obtain⟨S₁,hw⟩:=S.dropped (wr:=[n+1,n]) (λb hb=>Z.hi b (by
  simp only[mc_,nn_,or_false] at hb
  rcases hb with rfl|rfl
  ·exact Nat.le_succ _
  ·exact Nat.le_refl _)) there
 have st0:QcG (n+1) n l xs.toArray 0 s.heap:=⟨⟨_,S.has _ _ Z.e⟩,i1 _ (S.has _ _ e1),⟨_,hl0,rfl,_,rfl⟩⟩
 have ne:n+1≠n:=Nat.succ_ne_self _
 refine wpAny_pyIter_enum (S.has _ _ Z.e) (hQ _ s ⟨[n+1,n,l],[n+1,n],QcG (n+1) n l xs.toArray,⟨λb hb=>?_,λi h h' x hk=>?_,λi h x b hb=>?_,?_,?_,λA' i s Q E hh x hQ=>let ⟨⟨old,he⟩,_⟩:=x;wpAny_pyIter_enum he hQ⟩,st0,λb hb=>⟨QdL hb,(hw b hb).1,(hw b hb).2,let ⟨o,e⟩:=there b hb;⟨o,S.has _ _ e⟩⟩,λb hb=>?_⟩ (S₁.shown λb hb=>(hw b hb).1))
 ·simp only[mc_,nn_,or_false] at hb ⊢
  rcases hb with h|h
  ·exact .inl h
  ·exact .inr (.inl h)
 ·obtain⟨⟨old,a1⟩,a2,a3⟩:=x
  exact⟨⟨old,hk _ (by simp) _ a1⟩,a2.at λo e=>hk _ (by simp) o e,a3.at λo e=>hk _ (by simp) o e⟩
 ·obtain⟨⟨old,a1⟩,⟨o,a2,_⟩,a3⟩:=x
  simp only[mc_,nn_,or_false] at hb
  rcases hb with rfl|rfl
  ·exact⟨_,a1⟩
  ·exact⟨_,a2⟩
 ·intro A' i s₁ Q₁ E₁ hh hi x hQ₁ PP
  obtain⟨⟨old,a1⟩,a2,a3⟩:=x
  have hx:xs.toArray[i]?=some xs[i]:=by simp[hi]
  refine wpAny_pyNext_enum_item a1 a2 a3 hx ne λh' b1 b2 b3 b4 b5=>?_
  refine hQ₁ (.ref s₁.heap.objs.size) (some [.int i s₁.toks,xs[i]]) h' (s₁.toks+1) ⟨_,_,by simp[hi],rfl⟩ (λzs e=>⟨_,rfl,Nat.le_refl _,by cases e;exact b3⟩) (λb o hb e=>b5 b o (λq=>hb (by simp[q])) (λq=>hb (by simp[q])) e) (Nat.succ_pos _) λA'' Q' E' hQ'=>?_
  have l1:h'.IsList l xs.toArray:=a3.at λo e=>b5 _ o hln1 hln e
  refine wpAny_letOwnedTupleGo_enum b1 λh'' c1 c2=>hQ' h'' ⟨⟨_,by simpa using c1⟩,b2.extBut c2.extBut ne.symm,l1.extBut c2.extBut hln1⟩ λb o hb e=>(c2.2 b λq=>hb (by simp[q])).trans e
 ·intro A' s₁ Q₁ E₁ hh x hQ₁ PP
  obtain⟨⟨old,a1⟩,a2,a3⟩:=x
  exact wpAny_pyNext_enum_end hh a1 a2 a3 (by simp) λh' hk=>hQ₁ h' s₁.toks (λb o hb e=>hk b o (λq=>hb (by simp[q])) e) PP
 ·simp only[mc_,nn_,or_false] at hb
  rcases hb with rfl|rfl|rfl
  ·exact .inl (.head _)
  ·exact .inl (.tail _ (.head _))
  ·exact .inr ⟨_,.head _⟩
structure FI (c:Cx) (ou:Env) (fr:Own) (wr:List Ad) (J:Nat->Loc->Own->Prop) (StW:Nat->Heap->Prop) (i:Nat) (m:Loc) (o:Own) (s:Sh):Prop where
 j:J i m o
 st:St c ou m o (hide wr s.heap fr) s
 tk:0 < s.toks
 w:StW i s.heap
def FIs (c:Cx) (ou:Env) (fr:Own) (wr:List Ad) (n:Nat) (J:Nat->Loc->Own->Prop) (StW:Nat->Heap->Prop) (q:Nat) (s:Sh):Prop:=∃i,q=n - i/\i<=n/\∃m o,FI c ou fr wr J StW i m o s
theorem QbC {target iter:Expr}{body orelse:List Stmt}{k:KF_}
  (h:W c N ou m oh (eval iter ou) λx m o=>∃ (n:Nat) (P:Nat->Vl->Option (List Vl)->Prop) (dep:List (Ad × Obj)) (ak:Own) (J:Nat->Loc->Own->Prop),qo c N o ak x target n P dep/\J 0 m ak /\
   (∀i m o,J i m o->∀q∈dep,o q.1=some q.2) /\
   (∀i v x m o o₂,i < n->P i v x->J i m o->(x=none->o₂=o)->(∀xs,x=some xs->∃T,v = .ref T/\New c o T/\o₂=o.put T (tup xs))->W c N ou m o₂ (assign target ou v) λx_ m o=>W c N ou m o (execs body ou) (Qbg k (J (i+1)))) /\
   (∀m o,J n m o->W c N ou m o (execs orelse ou) k))
  (hs:∀x,foldedSetIterable iter ou x=pure x:=by intro _;rfl):W c N ou m oh (exec (.For target iter body orelse p) ou) k:=by
 intro A s fr Q hA S P hQ
 refine wpAny_For (h.run hA S P λx m₁ o₁ s₁ hx S₁ P₁=>?_) hs
 obtain⟨n,PI,dep,ak,J,hit,hJ0,aD,aW,hend⟩:=(hx)
 refine QaS P₁ (hit A s₁ (ZX ou s₁.heap fr) _ hA S₁.apart P₁ λI s₂ hsrc S₂ P₂=>?_)
 obtain⟨fp,wr,StW,gs,hst,hwr,hfp⟩:=(hsrc)
 have T₂:=S₁.back S₂
 have wrF:∀b∈wr,fr b=none/\b∉c.tabs/\¬ QQ ou b:=λb hb=>by
  obtain⟨_,w2,w3,_⟩:=hwr b hb
  unfold ZX at w2
  by_cases hf:QQ ou b
  ·rw[if_pos hf] at w2
   obtain⟨o,ho⟩:=S₁.fm.there hf
   cases ho,w2
  ·rw[if_neg hf] at w2;exact⟨w2,w3,hf⟩
 have start:St c ou m₁ ak (hide wr s₂.heap fr) s₂:=T₂.hid λb hb=>⟨(hwr b hb).1,(wrF b hb).1,(wrF b hb).2.1,(wrF b hb).2.2⟩
 refine codeAny_forLoop_any (FIs c ou fr wr n J StW) (λq s' hq=>?_) n ⟨0,rfl,Nat.zero_le _,m₁,ak,hJ0,start,P₂,hst⟩
 obtain⟨i,rfl,hi,m',o',hJ,S',PP,hst'⟩:=(hq)
 have hex:=gs.live _ _ hst'
 by_cases hlt:i < n
 ·refine gs.item A i s' _ _ hA.2.2 hlt hst' (λv x h' tk hP hx hk' Ptk hgo=>?_) PP
  refine hgo _ _ _ λh'' bj hk''=>?_
  have low:∀b∈wr,b < s'.heap.objs.size:=λb hb=>let ⟨ob,e⟩:=hex b hb;Heap.lt_size e
  have bD:=gs.live _ _ bj
  have S₁':=S'.moved (t:=tk) (h':=h'') wrF hex λb ob hb e=>hk'' b ob hb (hk' b ob hb e)
  have adopt:∃o₂,(x=none->o₂=o')/\(∀xs,x=some xs->∃T,v = .ref T/\New c o' T/\o₂=o'.put T (tup xs))/\St c ou m' o₂ (hide wr h'' fr) { s' with heap:=h'',toks:=tk }/\∀b o,o' b=some o->o₂ b=some o:=by
   induction x with
   |none=>exact⟨o',(λx_=>rfl),(λxs e=>nomatch e),S₁',λx_ x_ e=>e⟩
   |some xs =>
    obtain⟨T,rfl,hT,hTo⟩:=hx xs rfl
    have hTw:T∉wr:=λz=>absurd (low T z) (Nat.not_lt.mpr hT)
    have nT:New c o' T:=⟨S'.sg.bu hT,S'.sg.be hT⟩
    refine⟨o'.put T (tup xs),(λe=>nomatch e),(λys e=>⟨T,rfl,nT,by cases e;rfl⟩),S₁'.adopt nT.own ?_ (λz=>absurd (S'.sg.aj z) (Nat.not_lt.mpr hT)) (λz=>?_) (hk'' T _ hTw hTo),λb o e=>QE nT.own e⟩
    ·have q:=S'.sg.bf hT
     unfold Tactic.hide at q ⊢
     rw[if_neg hTw] at q ⊢;exact q
    ·obtain⟨ob,e⟩:=S'.fm.there z;exact absurd (Heap.lt_size e) (Nat.not_lt.mpr hT)
  obtain⟨o₂,hn₂,hx₂,S₂',hext⟩:=adopt
  refine wpAny_mono (W.run (aW i v x m' o' o₂ hlt hP hJ hn₂ hx₂) (Q:=λx_ s₃=>wA (model c.prog c.w) A (execs body ou) (λf s₃=>match f with
      |.next|.cont=>∃mm,mm < n - i/\FIs c ou fr wr n J StW mm s₃
      |.brk=>Q .next s₃
      |.ret v=>Q (.ret v) s₃) F0 s₃) hA S₂' Ptk λx_ m₂ o₂' s₃ hb S₃ P₃=>hb.run hA S₃ P₃ λf m₃ o₃ s₄ hf S₄ P₄=>?_) (λx_ s₃ z=>wpAny_mono z (λf s₄ z=>z) λx_ x_ z=>z.elim) λx_ x_ z=>z.elim
  have same:∀b ob,b∈wr->h''.get? b=some ob->s₄.heap.get? b=some ob:=λb ob hb e=>S₄.sg.hfr b ob (by rw[XD hb];exact e)
  have out:St c ou m₃ o₃ fr s₄:=S₄.show λb hb=>(wrF b hb).1
  have nxt:J (i+1) m₃ o₃->∃mm,mm < n - i/\FIs c ou fr wr n J StW mm s₄:=λhJ'=>by
   refine⟨n - (i+1),Nat.sub_lt_sub_left hlt (Nat.lt_succ_self i),i+1,rfl,hlt,m₃,o₃,hJ',by rw[qI bD same];exact S₄,P₄,gs.frame _ _ _ bj λb hb o e=>?_⟩
   rcases hfp b hb with hw|⟨ob,hd⟩
   ·exact same b o hw e
   ·have e1:=hext _ _ (aD _ _ _ hJ _ hd)
    have e2:=aD _ _ _ hJ' _ hd
    exact S₄.sg.has _ _ (e2.trans ((S₂'.sg.has _ _ e1).symm.trans e))
  induction f with
  |next=>exact nxt hf
  |cont=>exact nxt hf
  |brk=>exact hQ _ _ _ _ hf out
  |ret v=>exact hQ _ _ _ _ hf out
 ·have:i=n:=by omega
  subst this
  refine gs.done A s' _ _ hA.2.2 hst' (λh₁ tk hk Ptk=>?_) PP
  have S₁':=(S'.moved (t:=tk) (h':=h₁) wrF hex hk).show λb hb=>(wrF b hb).1
  exact wpAny_mono (hend m' o' hJ A _ fr _ hA S₁' Ptk hQ) (λx_ x_ z=>z) λx_ x_ z=>z.elim
theorem X0 {target iter:Expr}{body orelse:List Stmt}{k:KF_}
  (h:W c N ou m oh (eval iter ou) (ForTurns c N ou target body orelse k))
  (hs:∀x,foldedSetIterable iter ou x=pure x:=by intro _;rfl):W c N ou m oh (exec (.For target iter body orelse p) ou) k :=
 QbC (Qk h λx m o t=>by
  obtain⟨n,P,dep,J,hit,hJ0,aD,aW,hend⟩:=(t)
  exact⟨n,λi v o=>P i v/\o=none,dep,o,J,Qa5 hit,hJ0,aD,λi v x m o o₂ hi hP hJ e1 x_=>by rw[e1 hP.2];exact aW i v m _ hi hP.1 hJ,hend⟩) hs
end
section
open PySem.Builtin.Str
section
theorem QgP {D:Ad}{l:List (Str × Tok)}{texts:List Str}(hD:oh D=some (lst (strValues l) n)) (ht:l.map (·.1)=texts) (hok:JoinOk x texts=true) (hk:∀t',k (.str (Txt.join x texts) t') m oh) :
  W c N ou m oh (call (.builtin "str.join") [.str x t,.ref D]) k :=
 Xh (f:=λt=>.str (Txt.join x texts) t) (λA s fr Q hA S P hQ=>SC.join (S.sg.lst hD) ht hok λt' k'=>hQ t' k') hk
noncomputable def qR (x y:Str):Int:=match lastOccurrence x y 0 x.length with|some i=>(i:Int)|none=>-1
theorem Qg5 {x y:Str}{t u:Tok}(hk:∀t',k (.int (qR x y) t') m oh):W c N ou m oh (call (.builtin "str.rfind") [.str x t,.str y u]) k :=
 Xh (f:=λt=>.int (qR x y) t) (λA s fr Q hA S P hQ=>call_gives F.slot_str_rfind (typeIs_str _ _ _) F.entry_str_rfind (F.args_str_rfind_2 _ _) (gives_str_rfind x y t u) (show (Made.int (qR x y)).post Q s from hQ s.toks (s.toks+1))) hk
theorem Qhb {sl:Ad}{j:Int}{u:Tok}{le ue:Option Expr}(hs:oh sl=some (Xu .none (.int j u))) (hz:x.length<=sizeLine) (hk:∀t',k (.str (Txt.slice x none (some j)) t') m oh) :
  W c N ou m oh (getitemInPython (.str x t)) λb m w=>W c N ou m w (subscripted (.Slice le ue none p) b (.str x t) (.ref sl)) k:=by
 refine Q6 (a:=false) (λA s fr Q hA S P hQ=>?_) ?_
 ·rw[getitemInPython_of_ne (by intro e;cases e)]
  exact wb9 (wpAny_specialOf (typeIs_str _ _ _) F.slot_str_getitem.lookup (wp_ (hQ _)))
 ·show W c N ou m oh (operate [.ref sl,.str x t] (getItem (.str x t) (.ref sl))) k
  exact XZ (Xh (f:=λt=>.str (Txt.slice x none (some j)) t) (λA s fr Q hA S P hQ=>wpAny_getItem_str_slice (l:=none) (u:=some (j,u)) (st:=none) ⟨_,S.sg.has _ _ hs,rfl,rfl⟩ rfl
   (post_val_or_str ⟨Nat.le_trans (Txt.slice_le x _ _) hz,λt' k'=>hQ t' k'⟩)) hk)
theorem Qha {i:Int}(hi:i.natAbs.log2 < 1920) (hk:∀t,k (.str (zz (toString i)) t) m oh):W c N ou m oh (call (.type "str") [.int i t]) k :=
 Xh (f:=λt=>.str (zz (toString i)) t) (λA s fr Q hA S P hQ=>PySem.P.str_of_int hi (hQ _ _)) hk
theorem Qdm (hk:k (.str x t) m oh):W c N ou m oh (call (.type "str") [.str x t]) k :=
 Q6 (a:=.str x t) (λA s fr Q hA S P hQ=>PySem.P.str_of_str (hQ s.toks)) hk
theorem QgI {n:Int}(h0:0<=n) (h1:n < 10 ^ 10) (hk:∀t,k (.int n t) m oh):W c N ou m oh (call (.type "int") [.str (zz (toString n)) t]) k :=
 Xh (f:=λt=>.int n t) (λA s fr Q hA S P hQ=>KIN.call_num h0 h1 (hQ _ _)) hk
theorem Qas {a b:Vl}{r:Bool}(h:∀A s fr,Qu N A->Sg c oh fr s->SeqAt.RcNeAt A s a b r) (hk:k (.bool r) m oh):W c N ou m oh (compareOp .NotEq a b) k :=
 Q6 (a:=.bool r) (λA s fr Q hA S P hQ=>h A s fr hA S.sg _ _ _ _ (hQ s.toks)) hk
theorem QgY {x y:Str}{t u:Tok}(hk:k (.bool (!(x==y))) m oh):W c N ou m oh (compareOp .NotEq (.str x t) (.str y u)) k:=Qas (λA s fr x_ x_=>SeqAt.RcNeAt.str_str x t y u) hk
theorem QgX {i j:Int}{t u:Tok}(hk:k (.bool (!(i==j))) m oh):W c N ou m oh (compareOp .NotEq (.int i t) (.int j u)) k:=Qas (λA s fr x_ x_=>SeqAt.RcNeAt.int_int i t j u) hk
inductive KEq:Vl->Vl->Bool->Prop
 |int (i t j u):KEq (.int i t) (.int j u) (i==j)
 |str (x t y u):KEq (.str x t) (.str y u) (x==y)
 |is (i t y u):KEq (.int i t) (.str y u) false
 |si (x t j u):KEq (.str x t) (.int j u) false
theorem KEq.at {a b:Vl}{r:Bool}(h:KEq a b r) (A:Ar) (s:Sh):SeqAt.EqAt A s a b r:=by
 induction h with
 |int i t j u=>exact SeqAt.EqAt.int_int i t j u
 |str x t y u=>exact SeqAt.EqAt.str_str x t y u
 |is i t y u=>exact SeqAt.EqAt.int_str i t y u
 |si x t j u=>exact SeqAt.EqAt.str_int x t j u
theorem YK (h:Qu N A):A.units < cLine:=by have:=h.2.1;omega
theorem Qan {a b:Ad}{xs ys:List Vl}{e:Nat->Bool}(ha:oh a=some (tup xs)) (hb:oh b=some (tup ys)) (he:∀ (j:Nat) (x y:Vl),xs[j]?=some x->ys[j]?=some y->KEq x y (e j))
  (hk:k (.bool ((List.range (min xs.length ys.length)).all e&&xs.length==ys.length)) m oh):W c N ou m oh (compareOp .Eq (.ref a) (.ref b)) k :=
 Yc (λA s fr hA S=>by
  have:=SeqAt.RcAt.tuples (A:=A) (e:=e) (S.tup ha) (S.tup hb) (YK hA) λj h1 h2=>(he j _ _ (by simp at h1;simp[h1]) (by simp at h2;simp[h2])).at _ _
  simpa using this) hk
theorem Qde {a b:Ad}{xs ys:List Vl}{e:Nat->Bool}(ha:oh a=some (tup xs)) (hb:oh b=some (tup ys)) (he:∀ (j:Nat) (x y:Vl),xs[j]?=some x->ys[j]?=some y->KEq x y (e j))
  (hk:k (.bool (!((List.range (min xs.length ys.length)).all e&&xs.length==ys.length))) m oh):W c N ou m oh (compareOp .NotEq (.ref a) (.ref b)) k :=
 Qas (λA s fr hA S=>by
  have:=SeqAt.RcNeAt.tuples (A:=A) (e:=e) (S.tup ha) (S.tup hb) (YK hA) λj h1 h2=>(he j _ _ (by simp at h1;simp[h1]) (by simp at h2;simp[h2])).at _ _
  simpa using this) hk
theorem Qbo {a b:Ad}{xs ys:List Vl}{n n':Nat}{e:Nat->Bool}(ha:oh a=some (lst xs n)) (hb:oh b=some (lst ys n')) (hl:xs.length=ys.length) (he:∀ (j:Nat) (x y:Vl),xs[j]?=some x->ys[j]?=some y->KEq x y (e j))
  (hk:k (.bool ((List.range xs.length).all e)) m oh):W c N ou m oh (compareOp .Eq (.ref a) (.ref b)) k :=
 Yc (λA s fr hA S=>by
  have:=SeqAt.RcAt.lists (A:=A) (e:=e) (S.lst ha) (S.lst hb) (by simpa using hl) (YK hA) λj h1 h2=>(he j _ _ (by simp at h1;simp[h1]) (by simp at h2;simp[h2])).at _ _
  simpa using this) hk
theorem Qbp {a b:Ad}{xs ys:List Vl}{n n':Nat}(ha:oh a=some (lst xs n)) (hb:oh b=some (lst ys n')) (hl:xs.length≠ys.length)
  (hk:k (.bool false) m oh):W c N ou m oh (compareOp .Eq (.ref a) (.ref b)) k :=
 Yc (λA s fr hA S=>SeqAt.RcAt.lists_lengths (S.lst ha) (S.lst hb) (by simpa using hl) (YK hA)) hk
theorem Qdd {a b:Ad}{xs ys:List Vl}{n n':Nat}{e:Nat->Bool}(ha:oh a=some (lst xs n)) (hb:oh b=some (lst ys n')) (hl:xs.length=ys.length) (he:∀ (j:Nat) (x y:Vl),xs[j]?=some x->ys[j]?=some y->KEq x y (e j))
  (hk:k (.bool (!(List.range xs.length).all e)) m oh):W c N ou m oh (compareOp .NotEq (.ref a) (.ref b)) k :=
 Qas (λA s fr hA S=>by
  have:=SeqAt.RcNeAt.lists (A:=A) (e:=e) (S.lst ha) (S.lst hb) (by simpa using hl) (YK hA) λj h1 h2=>(he j _ _ (by simp at h1;simp[h1]) (by simp at h2;simp[h2])).at _ _
  simpa using this) hk
theorem Qbs {t:Sem Vl}{k:KV}{P:Obj->Prop}(h:∀A s fr (Q:KQ_),Qu N A->St c ou m oh fr s->0 < s.toks ->
   (∀h' tk D o,s.heap.get? D=none->P o->h'.get? D=some o->(∀b ob,s.heap.get? b=some ob->h'.get? b=some ob)->Q (.ref D) { s with heap:=h',toks:=tk })->wA (model c.prog c.w) A t Q F0 s)
  (hk:∀D o,New c oh D->P o->k (.ref D) m (oh.put D o)):W c N ou m oh t k :=
 λA s fr Q hA S P hQ=>h A s fr Q hA S P λh' tk D o hD hP e hk'=>by
  have n1:oh D=none:=by cases q:oh D with|none=>rfl|some o=>cases (S.sg.has _ _ q),hD
  have n2:fr D=none:=by cases q:fr D with|none=>rfl|some o=>cases (S.sg.hfr _ _ q),hD
  have n3:D∉c.tabs:=λz=>by obtain⟨⟨vs,e⟩,_⟩:=S.sg.tab D z;cases e,hD
  have n4:c.H.get? D=none:=by cases q:c.H.get? D with|none=>rfl|some o=>cases (S.sg.has _ _ (S.sg.base _ _ q n3)),hD
  exact hQ _ _ _ _ (hk D o ⟨n1,n4⟩ hP) ((S.grow (t:=tk) hk').adopt n1 n2 n3 (λz=>by obtain⟨ob,e⟩:=S.fm.there z;cases e,hD) e)
theorem Qfk {oj:LV}(hl:vs.length=oj.length) (h:∀ (j:Nat) v,vs[j]?=some v->∃k x,oj[j]?=some (k,x)/\(strKind c.prog c.w).is k v=true):∃l:List (Str × Tok),vs=strValues l/\l.map (·.1)=oj.map (·.1):=by
 induction oj generalizing vs with
 |nil=>exact⟨[],by simpa [strValues] using hl,rfl⟩
 |cons q r ih =>
  induction vs with
  |nil=>simp at hl
  |cons v vs =>
   obtain⟨k,x,e,hs⟩:=h 0 v rfl
   obtain⟨t,rfl⟩:=Value.isStrOf_shape hs
   obtain⟨l,e1,e2⟩:=ih (vs:=vs) (by simpa using hl) λj v hv=>h (j+1) v (by simpa using hv)
   simp at e
   refine⟨(k,t)::l,by rw[e1];rfl,?_⟩
   rw[List.map_cons,List.map_cons,e2,e]
theorem QgS {oj:LV}(hs:(a==sysModules)=false) (h:oh a=some o) (hd:IsD c o oj) (hz:oj.length<=sizeLine)
  (hk:∀D l n,New c oh D->l.map (·.1)=oj.map (·.1)->k (.ref D) m (oh.put D (lst (strValues l) n))):W c N ou m oh (call (.type "list") [.ref a]) k:=by
 refine Qbs (P:=λo=>∃l n,o=lst (strValues l) n/\l.map (·.1)=oj.map (·.1)) (λA s fr Q hA S P hQ=>?_) λD o hD ⟨l,n,e1,e2⟩=>e1▸hk D l n hD e2
 obtain⟨ep,hat⟩:=(S.sg.dct h hd).dictAt
 refine kdl_call (kdl_dict (knd:=strKind c.prog c.w) hs) hA.2.2 hat hz λh' tk acc c' hk' hD aN=>?_
 obtain⟨l,e1,e2⟩:=Qfk (c:=c) (oj:=oj) (vs:=acc.toList) (by rw[Array.length_toList];exact aN.1) λj v e=>aN.2 j v (by rw[<- Array.getElem?_toList];exact e)
 exact hQ h' tk _ _ (Heap.get?_none_of_le (Nat.le_refl _)) ⟨l,c',rfl,e2⟩ (by rw[hD,<- e1]) hk'
theorem QjA {E:KQ_}{T:String}{r d:Ad}{P:Nat->Vl->Prop}{OK:Heap->Prop}{Q:List Vl->Sh->Prop}(K:KdlSrc c.prog c.w T r d n P OK) (hh:A.handled=none) (hok:OK s.heap) (hn:n<=sizeLine)
  (hQ:∀h' tk acc,(∀b o,s.heap.get? b=some o->h'.get? b=some o)->ItemsOf P acc n->Q acc.toList { s with heap:=h',toks:=tk }):wA (model c.prog c.w) A (collect (.ref r)) Q E s:=by
 have ht:=K.there _ hok
 unfold collect
 refine wb9 (wpAny_runValue (codeAny_builtin F.entry_proto_collect ?_))
 rw[Around.under_plainId F.plain_proto_collect _]
 show wA _ A.in1 (newList [] >>= λl=>again (.builtin "list.__iadd__" ⟨[l,.ref r],[]⟩)) _ _ s
 refine wb9 (wpAny_newObj_type ?_)
 refine wp_ ⟨plainId_quiet F.plain_list_iadd _,codeAny_builtin F.entry_list_iadd ?_⟩
 rw[Around.under_plainId F.plain_list_iadd _]
 show wA _ A.in1 (Builtin.List.listExtendWith (.ref s.heap.objs.size) (.ref r) (.ref s.heap.objs.size)) _ _ _
 have hS:(s.heap.push (lst [] 0)).get? s.heap.objs.size=some (lst [] 0):=gz_ _ rfl
 refine kdl_extend (R:=λr s'=>match r with|Except.ok (Flow.ret v)=>wA (model c.prog c.w) A ((λv=>match v with|Value.ref a=>(do match (<- load a).data with|Data.seq xs epoch=>pure xs.toList|x=>unsupported "internal:collect")|x=>unsupported "internal:collect":Vl->Sem (List Vl)) v) Q E s' | Except.ok a=>False|Except.error e=>E e s')
  (s:={ s with heap:=s.heap.push (lst [] 0) }) K hh (K.keep _ _ hok λb x_ o e=>gp_ _ e) _ (Nat.ne_of_gt ht.1) (Nat.ne_of_gt ht.2) _ _ hS (λh' tk acc c' hk hL aN=>?_) hn
 show wA _ A (load s.heap.objs.size >>= _) _ _ _
 refine wb9 (wpAny_load hL ?_)
 exact wp_ (hQ h' tk acc (λb o e=>hk b o (Nat.ne_of_lt (Heap.lt_size e)) (gp_ _ e)) aN)
theorem Qfj:∀l:List (Str × Tok),StrsAre (strValues l) (l.map (·.1))
 | []=>.nil
 |(x,t)::r=>.cons x t (Qfj r)
theorem QnN {ss:List Str}(h:StrsAre vs ss):∃l:List (Str × Tok),vs=strValues l/\l.map (·.1)=ss:=by
 induction h with
 |nil=>exact⟨[],rfl,rfl⟩
 |cons x t _ ih =>
  obtain⟨l,e1,e2⟩:=ih
  exact⟨(x,t)::l,by rw[e1];rfl,by rw[List.map_cons,e2]⟩
theorem Qdj {oj:LV}(hs:(a==sysModules)=false) (h:oh a=some o) (hd:IsD c o oj) (hz:oj.length < 64)
  (hk:∀D l n,New c oh D->(l.map (·.1)).Perm (oj.map (·.1))->sortedS (l.map (·.1))=true->k (.ref D) m (oh.put D (lst (strValues l) n))):W c N ou m oh (call (.builtin "sorted") [.ref a]) k:=by
 refine Qbs (P:=λo=>∃l n,o=lst (strValues l) n/\(l.map (·.1)).Perm (oj.map (·.1))/\sortedS (l.map (·.1))=true) (λA s fr Q hA S P hQ=>?_) λD o hD h=>by obtain⟨l,n,rfl,e2,e3⟩:=h;exact hk D l n hD e2 e3
 obtain⟨ep,hat⟩:=(S.sg.dct h hd).dictAt
 refine Calls.call_function_entry kind_sorted plain_sorted entry_sorted (args_sorted1 _) ?_
 unfold Builtin.«sorted»
 refine wb9 (m:=checkCount "sorted" 1 1 _) (wp_ ?_)
 have h20:oj.length<=sizeLine:=by unfold sizeLine;omega
 refine wb9 (QjA (kdl_dict (knd:=PySem.strKind c.prog c.w) hs) hA.2.2 hat h20 λh1 tk acc hk1 aN=>?_)
 obtain⟨l,e1,e2⟩:=Qfk (c:=c) (oj:=oj) (vs:=acc.toList) (by rw[Array.length_toList];exact aN.1) λj v e=>aN.2 j v (by rw[<- Array.getElem?_toList];exact e)
 rw[e1]
 have hlen:(strValues l).length < 64:=by rw[<- e1,Array.length_toList,aN.1];exact hz
 have hS:=Qfj l
 refine wb9 (wpAny_newList ?_ (by unfold sizeLine;omega))
 have hoL:(h1.push (seqObj "list" (strValues l).toArray 0)).get? h1.objs.size=some (seqObj "list" (strValues l).toArray 0):=gz_ _ rfl
 refine wb9 (wh_ (wpAny_call_entry slot_list_sort ⟨_,hoL,rfl⟩ entry_list_sort (list_sort_treeK strKind_oneLt (s:={ s with heap:=h1.push (seqObj "list" (strValues l).toArray 0),toks:=tk }) hoL hS.keysOf (λv₁ v₂ rest e=>keyKind_strs (by rw[<- e];exact hS)) hlen λst' a1 a2=>⟨_,rfl,?_⟩) (args_list_sort _)))
 obtain⟨ss',h2,h3,h4⟩:=sorted_out_str hS a1 a2
 obtain⟨l',e3,e4⟩:=QnN h2
 obtain⟨ep',hout⟩:=sortedHeap_at (out:=(arrOf st').map (·.2)) hoL
 have hD1:s.heap.get? h1.objs.size=none:=by
  cases q:s.heap.get? h1.objs.size with
  |none=>rfl
  |some ob=>exact absurd (Heap.lt_size (hk1 _ _ q)) (Nat.lt_irrefl _)
 refine wp_ ⟨_,rfl,hQ _ _ _ _ hD1 ⟨l',ep',rfl,by rw[e4,<- e2];exact h3,by rw[e4];exact h4⟩ ?_ λb ob e=>?_⟩
 ·rw[hout]
  congr 1
  show seqObj "list" _ _=lst _ _
  unfold seqObj lst
  congr 1
  rw[<- e3]
 ·have hb:b < h1.objs.size:=Heap.lt_size (hk1 _ _ e)
  rw[sortedHeap_old (Nat.ne_of_lt hb) (by rw[Heap.size_push];exact Nat.lt_succ_of_lt hb)]
  exact gp_ _ (hk1 _ _ e)
theorem Qe3:∀ (l:List Str) (p:Str),risingS p l=true->(p::l).Pairwise (λa b=>¬ b.cps.toList < a.cps.toList)
 | [],p,_=>List.pairwise_singleton _ _
 |x::r,p,h=>by
  have h':(!Spec.ltCps x.cps.toList p.cps.toList&&risingS x r)=true:=h
  rw[Bool.and_eq_true,Bool.not_eq_true',ltCps_eq,decide_eq_false_iff_not] at h'
  have ih:=Qe3 r x h'.2
  refine List.pairwise_cons.mpr ⟨λy hy=>?_,ih⟩
  rcases mc_.mp hy with rfl|hy
  ·exact h'.1
  ·have h2:=List.rel_of_pairwise_cons ih hy
   rw[List.not_lt] at *
   exact List.le_trans h'.1 h2
theorem Qfd {l:List Str}(h:sortedS l=true):l.Pairwise (λa b=>¬ b.cps.toList < a.cps.toList):=by
 induction l with
 |nil=>exact .nil
 |cons x r=>exact Qe3 r x h
theorem Qnr {l l':List Str}(h:sortedS l=true) (h':sortedS l'=true) (hp:l.Perm l'):l=l' :=
 List.Perm.eq_of_pairwise (λa b x_ x_ h1 h2=>str_of_list (List.le_antisymm (List.not_lt.mp h1) (List.not_lt.mp h2))) (Qfd h) (Qfd h') hp
end
end
section
theorem Qc9 {C:Ad}{b:Bool}(h:kitOne c.K (.type "str") (.ref C)=some b) (hk:k (.bool b) m oh):W c N ou m oh (call (.builtin "isinstance") [.str x t,.ref C]) k :=
 Q6 (a:=.bool b) (λA s fr Q hA S P hQ=>kia_one kitx_str S.sg.kIn trivial h (by intro e;cases e) λtk=>hQ tk) hk
theorem QfP {x D:Ad}{oj:LV}{cc:Vl}{b:Bool}{k:KO}(I:ZO oh x D oj) (h:kitOne c.K (.ref D) cc=some b) (hg:plainGet c.K D "__class__"=true) (hdct:hasDictIn c.K D=true) (ha:findIn c.K (.ref D) "__class__"=some (some (.builtin "object.__class__")))
  (hn:specialIn c.K (.builtin "object.__class__") "__get__"=some (some (.builtin "getset_descriptor.__get__"))) (htk:takesIn c.K (.builtin "object.__class__")=some true) (hm:mroIn c.K D (.type "object")=some true)
  (hk:k (.bool b) oh):CW c N oh (call (.builtin "isinstance") [.ref x,cc]) k :=
 Qcu (a:=.bool b) (λA s fr Q hA S P hQ=>by
  obtain⟨dx,od,hd,I'⟩:=I.at S
  exact kia_one (kitx_own hg hdct ha hn htk hm) S.kIn I' h (by intro e;cases e) λtk=>hQ tk) hk
theorem QfQ {x D tp:Ad}{its:List Vl}{oj:LV}{b:Bool}{k:KO}(I:ZO oh x D oj) (ht:Has c oh tp (tup its)) (h:kitAny c.K (.ref D) its=some b) (hg:plainGet c.K D "__class__"=true) (hdct:hasDictIn c.K D=true) (ha:findIn c.K (.ref D) "__class__"=some (some (.builtin "object.__class__")))
  (hn:specialIn c.K (.builtin "object.__class__") "__get__"=some (some (.builtin "getset_descriptor.__get__"))) (htk:takesIn c.K (.builtin "object.__class__")=some true) (hm:mroIn c.K D (.type "object")=some true)
  (hk:k (.bool b) oh):CW c N oh (call (.builtin "isinstance") [.ref x,.ref tp]) k :=
 Qcu (a:=.bool b) (λA s fr Q hA S P hQ=>by
  obtain⟨dx,od,hd,I'⟩:=I.at S
  exact kia_tup (kitx_own hg hdct ha hn htk hm) S.kIn I' (ht _ _ S) h (by intro e;cases e) λtk=>hQ tk) hk
abbrev Qmd (c:Cx) (N:Nat) (ou:Env) (orelse:List Stmt) (k:KF_):Flow->Loc->Own->Prop:=λf m o=>match f with|.next=>W c N ou m o (execs orelse ou) k|f=>k f m o
theorem ZE {body orelse:List Stmt}{h₀:ExceptHandler}{hs:List ExceptHandler}{pos:Pos}{k:KF_}(h:W c N ou m oh (execs body ou) (Qmd c N ou orelse k)) :
  W c N ou m oh (exec (.Try body (h₀::hs) orelse [] pos) ou) k:=by
 intro A s fr Q hA S P hQ
 refine wpAny_Try_except (wpAny_mono (W.run h hA S P (Q:=λf s₁=>match f with|.next=>wA (model c.prog c.w) A (execs orelse ou) Q F0 s₁|f=>Q f s₁) λf m' o' s' hk S' P'=>?_) (λx_ x_ z=>z) λx_ x_ z=>z.elim)
 induction f with
 |next=>exact W.run hk hA S' P' λa m'' o'' s'' h'' S'' x_=>hQ a m'' o'' s'' h'' S''
 |brk=>exact hQ _ _ _ _ hk S'
 |cont=>exact hQ _ _ _ _ hk S'
 |ret v=>exact hQ _ _ _ _ hk S'
theorem QbB {o i:Expr}{q p:Pos}{k:KF_}(h:W c N ou m oh (eval o ou) λov m w=>W c N ou m w (eval i ou) λiv m w=>W c N ou m w (delItem ov iv) λx_ m w=>k .next m w) :
  W c N ou m oh (exec (.Delete [.Subscript o i q] p) ou) k:=by
 rw[arm_exec_Delete,arm_deleteEach_cons,arm_deleteEach_nil,arm_delete_Subscript]
 exact Qc (Q1 (Qc (Qc (Qc (Qk h λov m w h=>Qc (Q9 (Qk h λiv m w h=>Qc (Q1 (Qc (Q9 (Qk h λx_ m w h=>Qby (Qs (Qs h)))))))))))))
theorem QgT (h:oh a=some (lst xs n)) (hz:xs.length<=sizeLine) (hk:∀D n',New c oh D->k (.ref D) m (oh.put D (lst xs n'))):W c N ou m oh (call (.type "list") [.ref a]) k:=by
 refine Qbs (P:=λo=>∃n',o=lst xs n') (λA s fr Q hA S P hQ=>?_) λD o hD ⟨n',e⟩=>e▸hk D n' hD
 refine call_list_seq a (T:="list") (.inl rfl) (S.sg.has _ _ h) rfl rfl (λh' c' hk' hD=>hQ h' s.toks _ _ (Heap.get?_none_of_le (Nat.le_refl _)) ⟨c',rfl⟩ hD hk') (by simpa using hz)
theorem Qgs (h:oh a=some (lst xs n)) (hx:∀v∈xs,v = .bool true) (hk:k (.bool true) m oh):W c N ou m oh (call (.builtin "all") [.ref a]) k:=by
 intro A s fr Q hA S P hQ
 have hl:=S.sg.lst h
 have ne:a≠s.heap.objs.size:=Nat.ne_of_lt (S.sg.low h)
 have hh:A.in1.handled=none:=hA.2.2
 refine call_all_walk (wpAny_pyIter_list hl ⟨s.heap.objs.size,_,_,_,_,_,λx_=>true,rfl,Walks.list hh s.heap.objs.size a ne xs.toArray,⟨⟨_,gz_ _ rfl,rfl,rfl⟩,hl.push _⟩,λi v A' s' Q' hP hQ'=>?_,λh' tk hk'=>?_⟩)
 ·have:v = .bool true:=hx v (by
   have e:xs.toArray[i]?=some v:=hP
   rw[List.getElem?_toArray] at e
   exact mg_ e)
  subst this
  exact wpAny_truthy_bool hQ'
 ·have e:(List.range xs.toArray.size).all (λx_=>true)=true:=by simp
  rw[e]
  refine hQ _ m oh _ hk (S.grow (t:=tk) λb ob hb=>?_)
  exact hk' b ob (λhm=>by rw[ms_.mp hm] at hb;exact absurd (Heap.lt_size hb) (Nat.lt_irrefl _)) (gp_ _ hb)
theorem QdE {prog:Program}{w:World}{E:KQ_}{K:Frag}{op:CmpOp}{x y C:Ad}{ox oy:Obj}{od od':Option Obj}{Q:KQ_}(hu:A.units < cLine) (X:K.In s.heap) (I:InstAt s.heap x ox C od) (J:InstAt s.heap y oy C od')
  (one:wA (model prog w) A (tryCompare (.ref x) (cmpInfo op).2.1 (.ref y)) (λr s'=>∃v,r=some v/\Q v s') E s):wA (model prog w) A (richCompare op (.ref x) (.ref y)) Q E s:=by
 unfold richCompare
 rw[oneThing_ref]
 refine wh_ (wb9 (wpAny_cRoomFor hu ?_))
 refine wb9 (I.type.here (wb9 (J.type.here ?_)))
 rw[if_neg (by simp)]
 refine wb9 (wp_ ?_)
 show wA _ _ (if false=true then _ else _) _ _ _
 rw[if_neg Bool.false_ne_true]
 refine wb9 (wpAny_mono one (λr s' z=>?_) λx_ x_ e=>e)
 obtain⟨v,rfl,hq⟩:=z
 exact wp_ hq
theorem QfO {x y C f:Ad}{kx ky:LV}{k:Bool->Own->Prop}(I:ZO oh x C kx) (J:ZO oh y C ky) (hs:findIn c.K (.ref C) (cmpInfo .Eq).2.1=some (some (.ref f))) (hf:isFn c.K (.ref f)=true)
  (h:CC c N oh (.call (.ref f) ⟨[.ref x,.ref y],[]⟩) λv o=>∃b,v = .bool b/\k b o):CW c N oh (richCompare .Eq (.ref x) (.ref y)) (λv o=>∃b,v = .bool b/\k b o):=by
 intro A s fr Q hA S P hQ
 obtain⟨dx,od,hd,I'⟩:=I.at S
 obtain⟨dy,od',hd',J'⟩:=J.at S
 refine QdE (YK hA) S.kIn I' J' ?_
 unfold tryCompare
 refine wb9 (ifBound_K S.kIn I' hs hf (wpAny_call (h A s fr _ hA S P λv o' s' hk S'=>?_)))
 obtain⟨b,rfl,hk⟩:=hk
 exact wp_ ⟨.bool b,rfl,hQ _ _ _ ⟨b,rfl,hk⟩ S'⟩
theorem QfS {x y C f:Ad}{kx ky:LV}{k:Bool->Own->Prop}(I:ZO oh x C kx) (J:ZO oh y C ky) (hs:findIn c.K (.ref C) (cmpInfo .Eq).2.1=some (some (.ref f))) (hf:isFn c.K (.ref f)=true) (hne:findIn c.K (.ref C) (cmpInfo .NotEq).2.1=some (some (.builtin "object.__ne__"))) (hm:mroIn c.K C (.type "object")=some true)
  (h:CC c N oh (.call (.ref f) ⟨[.ref x,.ref y],[]⟩) λv o=>∃b,v = .bool b/\k b o):CW c (N+1) oh (richCompare .NotEq (.ref x) (.ref y)) (λv o=>∃b,v = .bool (!b)/\k b o):=by
 intro A s fr Q hA S P hQ
 obtain⟨dx,od,hd,I'⟩:=I.at S
 obtain⟨dy,od',hd',J'⟩:=J.at S
 refine QdE (YK hA) S.kIn I' J' ?_
 have sub:Looks (model c.prog c.w) s.heap (isInstance (.ref x) (.type "object")) true:=I'.type.andThen (looks_mroIn S.kIn hm)
 have fin:wA (model c.prog c.w) A (call (.builtin "object.__ne__") ([.ref x]++[.ref y]) >>= λv=>pure (some v)) (λr s'=>∃b o',r=some (.bool (!b))/\k b o'/\Sg c o' fr s') F0 s:=by
  refine wb9 (wpAny_call (codeAny_call_builtin F.slot_object_ne.plain F.entry_object_ne (@check_slot (model c.prog c.w) _ _ s "object.__ne__" "object" "__ne__" (.ref x) [.ref y] [] _ (by ac_rfl) (by ac_rfl) sub (F.args_object_ne_2 _ _) ?_)))
  show wA _ A.in1 (cRoomFor "comparison" [.ref x,.ref y] >>= _) _ _ _
  refine wb9 (wpAny_cRoomFor (YK hA.in1) ?_)
  refine wb9 (ifBound_K S.kIn I' hs hf (wpAny_call (h A.in1 s fr _ hA.in1 S P λv o' s' hk S'=>?_)))
  obtain⟨b,rfl,hk⟩:=hk
  refine wb9 (wpAny_truthy_bool (wp_ ?_))
  exact wp_ ⟨b,o',rfl,hk,S'⟩
 unfold tryCompare
 refine wb9 (wpAny_mono (Q:=λr s'=>∃b o',r=some (.bool (!b))/\k b o'/\Sg c o' fr s') (E:=F0) ?_ (λr s' h'=>?_) λx_ x_ z=>z)
 ·unfold callSpecialIfBound? bindSpecialIfBound?
  refine wh_ (wb9 (wb9 (wb9 (I'.type.here ((looks_findIn S.kIn hne).here ?_)))))
  refine wb9 (wpAny_askSetting (wpAny_ite ?_))
  split
  ·rw[F.slot_object_ne.bind]
   exact wb9 (wp_ (wp_ (by exact fin)))
  ·rw[F.slot_object_ne.bind]
   exact wpAny_tryCatch (wb9 (wp_ (wp_ (by exact fin))))
 ·obtain⟨b,o',rfl,hk,S'⟩:=h'
  exact wp_ ⟨.bool (!b),rfl,hQ _ _ _ ⟨b,rfl,hk⟩ S'⟩
end
section
theorem Qgx {T:Ad}{k:KL_}(h:oh T=some (tup xs)) (hz:xs.length<=sizeLine) (hk:k xs m oh):W c N ou m oh (collect (.ref T)) k:=by
 intro A s fr Q hA S P hQ
 refine wpAny_collect_seq T (T:="tuple") (.inr rfl) (S.sg.has _ _ h) rfl rfl (λh' hk'=>?_) (by simpa using hz)
 have:=hQ xs m oh { s with heap:=h' } hk (S.grow (t:=s.toks) hk')
 simpa using this
theorem QgO {T:Ad}{k:KB_}(h:oh T=some (tup xs)) (hk:k false m oh):W c N ou m oh (notIterableAtAll (.ref T)) k:=by
 refine Q6 (a:=false) (λA s fr Q hA S P hQ=>?_) hk
 have hT:s.TypeIs (.ref T) "tuple":=⟨_,S.sg.has _ _ h,rfl⟩
 unfold notIterableAtAll
 exact wb9 (wpAny_specialOf hT F.slot_tuple_iter.lookup (wp_ (hQ s.toks)))
theorem Qgr {e:Expr}{sx:Nat}{q p sp:Pos}
  (h:W c N ou m oh (eval (.Name x q) ou) λf m o=>W c N ou m o (eval e ou) λv m o=>∃T xs,v = .ref T/\o T=some (tup xs)/\xs.length<=sizeLine/\Q0 c o f/\W c N ou m o (call f xs) k) :
  W c N ou m oh (eval (.Call (.Name x q) [.Starred e sp] [] p) ou) k:=by
 show W c N ou m oh (do callWith p (<- eval (.Name x q) ou) [] (backTo p (starEach [.Starred e sp] ou)) (backToKw p (keywordEach [] ou))) k
 refine Qc (Qk h λf m o h=>?_)
 unfold callWith
 have ha:W c N ou m o (evalArgs f true (backTo p (starEach [.Starred e sp] ou)) (backToKw p (keywordEach [] ou))) λa m o=>a.kw=[]/\Q0 c o f/\W c N ou m o (call f a.pos) k:=by
  unfold evalArgs
  show W c N ou m o ((do let v <- eval e ou;standAt p;pure v:Sem Vl) >>= _) _
  refine Qc (Qc (Qk h λv m o h=>Qc (Q1 (Qs ?_))))
  obtain⟨T,xs,rfl,hT,hz,hc,bv⟩:=h
  refine Qc (Qs (Q9 ?_))
  show W c N ou m o (evalAll [] >>= _) _
  refine Qc (Qs ?_)
  refine Qc (Qc (QgO hT ?_))
  dsimp only
  rw[if_neg (by decide)]
  exact Q9 (Qgx hT hz (Qs ⟨rfl,hc,bv⟩))
 refine Qc (Q9 (Qk ha λa m o ha=>Qc (Q1 ?_)))
 obtain⟨hkw,hc,bv⟩:=ha
 intro A s fr Q hA S P hQ
 obtain⟨kp,hkp,L⟩:=hc _ _ S.sg
 refine wb9 (L.here ?_)
 rw[hkw]
 have body:wA (model c.prog c.w) A (call f a.pos) (λr s₂=>wA (model c.prog c.w) A (holding [r] point >>= λx_=>pure r) Q F0 s₂) F0 s :=
  wpAny_mono (bv A s fr Q hA S P hQ) (λr s₂ hr=>wb9 (wh_ (wpAny_point (wp_ hr)))) λx_ x_ x=>x
 rcases hkp with rfl|rfl|rfl
 ·show wA _ _ (callMarked starredCall f ([]++a.pos) [] >>= _) _ _ _
  refine wb9 ?_
  unfold callMarked
  exact Calls.wpAny_keep body
 ·show wA _ _ (operate _ (call f ([]++a.pos) []) >>= _) _ _ _
  exact wb9 λ Γ p hΓ=>by rw[Sem.wp_operate];exact body Γ p hΓ
 ·show wA _ _ (operate _ (call f ([]++a.pos) []) >>= _) _ _ _
  exact wb9 λ Γ p hΓ=>by rw[Sem.wp_operate];exact body Γ p hΓ
end
section
open PySem.Sre
noncomputable def steps:Nat->Sre.M->Sre.M
 | 0,m=>m
 |n+1,m=>steps n m.step
theorem QnD {m:Sre.M}(h:m.outcome.isSome=true):m.step=m:=by unfold Sre.M.step;rw[if_pos h]
theorem qU {m:Sre.M}(h:m.outcome.isSome=true):∀n,steps n m=m
 | 0=>rfl
 |n+1=>by rw[steps,QnD h,qU h n]
theorem QaW:∀ (a b:Nat) (m:Sre.M),steps (a+b) m=steps b (steps a m)
 | 0,b,m=>by rw[Nat.zero_add];rfl
 |a+1,b,m=>by rw[Nat.add_right_comm,steps,steps,QaW a b]
theorem Qca:∀ (n:Nat) (m:Sre.M),Sre.M.runFor n m=steps n m
 | 0,_=>rfl
 |n+1,m=>by
  unfold Sre.M.runFor
  by_cases h:m.outcome.isSome=true
  ·rw[if_pos h,qU h]
  ·rw[if_neg h,Qca n,steps]
theorem QjO {M:Model}{E:KQ_}{Q:Sre.M->Sh->Prop}:∀ (t n:Nat) (m:Sre.M),n<=4*t->(steps n m).outcome.isSome=true->Q (steps n m) s->wA M A (Builtin.Re.reDrive (t+1) m) Q E s:=by
 intro t
 induction t with
 |zero =>
  intro n m hn ho hQ
  have:n=0:=by omega
  subst this
  show wA M A (if (Sre.M.runFor 4 m).outcome.isSome=true then pure (Sre.M.runFor 4 m) else _) Q E s
  have ho':m.outcome.isSome=true:=ho
  rw[Qca,qU ho',if_pos ho']
  exact wp_ hQ
 |succ t ih =>
  intro n m hn ho hQ
  show wA M A (if (Sre.M.runFor 4 m).outcome.isSome=true then pure (Sre.M.runFor 4 m) else do rule "sre.turn";Builtin.Re.reDrive (t+1) (Sre.M.runFor 4 m)) Q E s
  rw[Qca]
  by_cases h4:n<=4
  ·obtain⟨d,hd⟩:∃d,4=n+d:=⟨4 - n,by omega⟩
   have e:steps 4 m=steps n m:=by rw[hd,QaW,qU ho]
   rw[e,if_pos ho]
   exact wp_ hQ
  ·obtain⟨d,rfl⟩:∃d,n=4+d:=⟨n - 4,by omega⟩
   rw[QaW] at ho hQ
   by_cases h:(steps 4 m).outcome.isSome=true
   ·rw[if_pos h]
    rw[qU h] at hQ
    exact wp_ hQ
   ·rw[if_neg h]
    exact wb9 (wpAny_rule (ih d _ (by omega) ho hQ))
theorem Qb9 {M:Model}{E:KQ_}{Q:Unit->Sh->Prop}{f:Nat->Bool}{g:Nat->String}(h:Q () s):∀l:List Nat,wA M A (forIn l () λi x_=>do
  if f i=true then rule (g i)
  pure (ForInStep.yield ())) Q E s
 | []=>by rw[List.forIn_nil];exact wp_ h
 |i::r=>by
  rw[List.forIn_cons]
  refine wb9 ?_
  split
  ·exact wb9 (wpAny_rule (wp_ (Qb9 h r)))
  ·exact wp_ (Qb9 h r)
theorem Qe4 {M:Model}{E:KQ_}{Q:Option Sre.M->Sh->Prop}{m:Sre.M}(hn:n<=1000000) {b:Bool}(ho:(steps n m).outcome=some (if b then .matched else .failed))
  (hQ:Q (if b then some (steps n m) else none) s):wA M A (Builtin.Re.reRunToEnd m) Q E s:=by
 unfold Builtin.Re.reRunToEnd
 refine wb9 (QjO (2 ^ 64 - 1) n m (Nat.le_trans hn (by decide)) (by rw[ho];rfl) ?_)
 refine wb9 ?_
 have key:wA M A (forIn (List.range Sre.names.size) () λi x_=>do
   if (steps n m).seen.has i=true then rule (Sre.names.getD i "")
   pure (ForInStep.yield ())) (λx_ s'=>wA M A (match (steps n m).outcome with
    |some .matched=>pure (some (steps n m))
    |some .failed=>pure none
    |some (.stuck why)=>unsupported s!"_sre:{why}"
    |none=>unsupported "internal:sre:no-outcome") Q E s') E s:=Qb9 (by
  rw[ho]
  cases b
  ·exact wp_ hQ
  ·exact wp_ hQ) _
 exact key
end
section
open PySem.Sre
noncomputable def XB:Array Nat:=#[14,8,1,1,2,1,0,126,0,17,0,16,126,7,10,13,6,21,22,48,49,0,15,7,5,6,5,15,2,0,17,1,1]
noncomputable def mk2 (t:Array Nat) (s:Nat) (om fo:Bool) (st hd:Nat) (mk:Array (Option Nat)) (sn:Sre.Seen):Sre.M :=
 {code:=XB,text:=t,lim:=t.size,start:=st,lastStart:=t.size,pc:=9,pos:=s,handed:=hd,outermost:=om,marks:=mk,frames:=[{ wait:=.nextStart,pc:=9,pos:=s,outermost:=fo }],weight:=1,seen:=sn }
section
variable {t:Array Nat}{s:Nat}{om fo:Bool}{st hd:Nat}{mk:Array (Option Nat)}{sn:Sre.Seen}
noncomputable def mkA (t:Array Nat) (s:Nat) (om fo:Bool) (st hd:Nat) (mk:Array (Option Nat)) (sn:Sre.Seen):Sre.M :=
 {code:=XB,text:=t,lim:=t.size,start:=st,lastStart:=t.size,pc:=11,pos:=s,handed:=hd,outermost:=om,marks:=mk,lastmark:=0,frames:=[{ wait:=.nextStart,pc:=9,pos:=s,outermost:=fo }],weight:=1,seen:=sn }
theorem Qcg:(mk2 t s om fo st hd mk sn).step=mkA t s om fo st hd (mk.setIfInBounds 0 (some s)) (sn.add 17):=by rfl
noncomputable def mkN (t:Array Nat) (s pc pos:Nat) (om fo:Bool) (st hd:Nat) (mk:Array (Option Nat)) (sn:Sre.Seen):Sre.M :=
 {code:=XB,text:=t,lim:=t.size,start:=st,lastStart:=t.size,pc:=pc,pos:=pos,handed:=hd,outermost:=om,marks:=mk,lastmark:=0,frames:=[{ wait:=.nextStart,pc:=9,pos:=s,outermost:=fo }],weight:=1,answer:=some false,seen:=sn }
theorem Qnz (h:t.size<=s):(mkA t s om fo st hd mk sn).step=mkN t s 11 s om fo st hd mk (sn.add 16):=by
 show (if s ≥ t.size then _ else _)=_
 rw[if_pos h];rfl
theorem QnA (h:s < t.size) (hc:(t.getD s 0==126)=false):∃sn',(mkA t s om fo st hd mk sn).step=mkN t s 11 s om fo st hd mk sn':=by
 refine⟨sn.add 16,?_⟩
 show (if s ≥ t.size then _ else match (Except.ok (t.getD s 0==126,sn.add 16):Except String (Bool × Sre.Seen)) with
  |.error why=>_
  |.ok (false,seen)=>_
  |.ok (true,seen)=>_)=_
 rw[if_neg (Nat.not_le.mpr h),hc];rfl
theorem Qff (h:s < t.size) {pc pos:Nat}:(mkN t s pc pos om fo st hd mk sn).step=mk2 t (s+1) false false (s+1) (s+1) mk sn:=by
 show (if s < t.size then _ else _)=_
 rw[if_pos h];rfl
theorem Qny (h:t.size<=s) {pc pos:Nat}:((mkN t s pc pos om fo st hd mk sn).step.step).outcome=some .failed:=by
 have:(mkN t s pc pos om fo st hd mk sn).step={ mkN t s pc pos om fo st hd mk sn with answer:=some false,frames:=[],weight:=0,pc:=9,pos:=s,outermost:=fo }:=by
  show (if s < t.size then _ else _)=_
  rw[if_neg (Nat.not_lt.mpr h)];rfl
 rw[this];rfl
noncomputable def mkF (t:Array Nat) (s pc:Nat) (an:Option Bool) (om fo:Bool) (st hd:Nat) (mk:Array (Option Nat)) (sn:Sre.Seen) (fr:List Sre.Frame) (w:Nat):Sre.M :=
 {code:=XB,text:=t,lim:=t.size,start:=st,lastStart:=t.size,pc:=pc,pos:=s+1,handed:=hd,outermost:=om,marks:=mk,lastmark:=0,frames:=fr++[{ wait:=.nextStart,pc:=9,pos:=s,outermost:=fo }],weight:=w,answer:=an,seen:=sn }
noncomputable def brF (s pc:Nat) (om:Bool):Sre.Frame:={ wait:=.nextBranch,pc:=pc,pos:=s+1,outermost:=om,kept:={ lastmark:=0 } }
theorem QnB (h:s < t.size) (hc:(t.getD s 0==126)=true):(mkA t s om fo st hd mk sn).step=mkF t s 13 none om fo st hd mk (sn.add 16) [] 1:=by
 show (if s ≥ t.size then _ else match (Except.ok (t.getD s 0==126,sn.add 16):Except String (Bool × Sre.Seen)) with
  |.error why=>_
  |.ok (false,seen)=>_
  |.ok (true,seen)=>_)=_
 rw[if_neg (Nat.not_le.mpr h),hc];rfl
theorem Qnu:(mkF t s 13 none om fo st hd mk sn [] 1).step=mkF t s 15 none om fo st (s+1) mk (sn.add 7) [brF s 14 om] 2:=by rfl
theorem QlL {c:Nat}{sn:Sre.Seen}(h:c=48\/c=49):∃sn',Sre.inSet XB c 33 17 true sn = .ok (false,sn'):=by
 rcases h with rfl|rfl
 ·exact⟨_,rfl⟩
 ·exact⟨_,rfl⟩
theorem Qnx (h:s+1 < t.size) (hc:t.getD (s+1) 0=48\/t.getD (s+1) 0=49):∃sn',(mkF t s 15 none om fo st hd mk sn [brF s 14 om] 2).step=mkF t s 15 (some false) om fo st hd mk sn' [brF s 14 om] 2:=by
 obtain⟨sn',e⟩:=QlL (sn:=sn.add 13) hc
 refine⟨sn',?_⟩
 show (if s+1 ≥ t.size then _ else match Sre.inSet XB (t.getD (s+1) 0) 33 17 true (sn.add 13) with
  |.error why=>_
  |.ok (false,seen)=>_
  |.ok (true,seen)=>_)=_
 rw[if_neg (Nat.not_le.mpr h),e];rfl
theorem Qnv:(mkF t s 15 (some false) om fo st hd mk sn [brF s 14 om] 2).step=mkF t s 25 none om fo st (s+1) mk sn [brF s 24 om] 2:=by rfl
theorem Qnt (h:s+1 < t.size) (hc:t.getD (s+1) 0=48\/t.getD (s+1) 0=49):∃sn',(mkF t s 25 none om fo st hd mk sn [brF s 24 om] 2).step=mkF t s 25 (some false) om fo st hd mk sn' [brF s 24 om] 2:=by
 have h1:(s+1==t.size)=false:=by simp<;>omega
 have h2:(t.getD (s+1) 0==10)=false:=by rcases hc with e|e<;>rw[e]<;>rfl
 refine⟨(sn.add 6).add (43+5),?_⟩
 show (if (s+1==t.size||(s+1+1==t.size&&t.getD (s+1) 0==10))=true then _ else _)=_
 rw[h1,h2,Bool.and_false,Bool.or_false,if_neg (by decide)];rfl
theorem Qnw:(mkF t s 25 (some false) om fo st hd mk sn [brF s 24 om] 2).step=mkN t s 24 (s+1) om fo st hd mk sn:=by rfl
noncomputable def Z0:List Nat->Bool
 | []=>true
 |a::r=>(a != 126||(match r with|b::_=>b==48||b==49 | []=>false))&&Z0 r
theorem QeO:∀ {l:List Nat}{i:Nat},Z0 l=true->l[i]?=some 126->l[i+1]?=some 48\/l[i+1]?=some 49
 |a::r,0,h,e=>by
  simp only[List.getElem?_cons_zero,Option.some.injEq] at e
  subst e
  induction r with
  |nil=>simp[Z0] at h
  |cons b r =>
   simp only[Z0,bne_self_eq_false,Bool.false_or,Bool.and_eq_true,Bool.or_eq_true,beq_iff_eq] at h
   rcases h.1 with rfl|rfl
   ·exact .inl rfl
   ·exact .inr rfl
 |a::r,i+1,h,e=>by
  unfold Z0 at h
  rw[Bool.and_eq_true] at h
  exact QeO (i:=i) h.2 (by simpa using e)
theorem QnJ (ht:Z0 t.toList=true) (h:s < t.size):∃n,n<=10/\∃mk' sn',steps n (mk2 t s om fo st hd mk sn)=mk2 t (s+1) false false (s+1) (s+1) mk' sn':=by
 cases hc:(t.getD s 0==126) with
 |false =>
  obtain⟨sn',e⟩:=QnA (om:=om) (fo:=fo) (st:=st) (hd:=hd) (mk:=mk.setIfInBounds 0 (some s)) (sn:=sn.add 17) h hc
  exact⟨3,by omega,_,_,by show (((mk2 t s om fo st hd mk sn).step.step).step)=_;rw[Qcg,e,Qff h]⟩
 |true =>
  have e0:t.toList[s]?=some 126:=by
   have:t.getD s 0=126:=by simpa using hc
   simp[h] at this ⊢;exact this
  have e1:=QeO ht e0
  have h1:s+1 < t.size:=by
   rcases e1 with e|e
   ·have:=(ge_.mp e).1;simpa using this
   ·have:=(ge_.mp e).1;simpa using this
  have hd1:t.getD (s+1) 0=48\/t.getD (s+1) 0=49:=by
   rcases e1 with e|e
   ·refine .inl ?_;simp[h1] at e ⊢;exact e
   ·refine .inr ?_;simp[h1] at e ⊢;exact e
  obtain⟨sn1,e4⟩:=Qnx (om:=om) (fo:=fo) (st:=st) (hd:=s+1) (mk:=mk.setIfInBounds 0 (some s)) (sn:=((sn.add 17).add 16).add 7) h1 hd1
  obtain⟨sn2,e6⟩:=Qnt (om:=om) (fo:=fo) (st:=st) (hd:=s+1) (mk:=mk.setIfInBounds 0 (some s)) (sn:=sn1) h1 hd1
  refine⟨8,by omega,mk.setIfInBounds 0 (some s),sn2,?_⟩
  show (((((((mk2 t s om fo st hd mk sn).step.step).step).step).step).step).step).step=_
  rw[Qcg,QnB h hc,Qnu,e4,Qnv,e6,Qnw,Qff h]
theorem QnI (ht:Z0 t.toList=true):∀ (k s:Nat) (om fo:Bool) (st hd:Nat) (mk:Array (Option Nat)) (sn:Sre.Seen),t.size - s=k->s<=t.size->∃n,n<=10*k+10/\(steps n (mk2 t s om fo st hd mk sn)).outcome=some .failed:=by
 intro k
 induction k with
 |zero =>
  intro s om fo st hd mk sn hk hs
  refine⟨4,by omega,?_⟩
  show ((((mk2 t s om fo st hd mk sn).step.step).step).step).outcome=_
  rw[Qcg,Qnz (by omega)]
  exact Qny (by omega)
 |succ k ih =>
  intro s om fo st hd mk sn hk hs
  obtain⟨n,hn,mk',sn',e⟩:=QnJ (om:=om) (fo:=fo) (st:=st) (hd:=hd) (mk:=mk) (sn:=sn) ht (s:=s) (by omega)
  obtain⟨n',hn',e'⟩:=ih (s+1) false false (s+1) (s+1) mk' sn' (by omega) (by omega)
  exact⟨n+n',by omega,by rw[QaW,e];exact e'⟩
theorem Qnk (ht:Z0 t.toList=true):∃n,n<=10*t.size+10/\(steps n (Sre.forSearch XB t 1 0 t.size false)).outcome=some .failed:=by
 by_cases h0:t.size=0
 ·refine⟨1,by omega,?_⟩
  have e:Sre.forSearch XB t 1 0 t.size false=(Sre.forSearch XB t 1 0 0 false):=by rw[h0]
  rw[e];rfl
 ·obtain⟨n,hn,e⟩:=QnI ht t.size 0 true true 0 0 (Array.replicate 2 none) (({}:Sre.Seen).add 14) (by omega) (by omega)
  refine⟨n,hn,?_⟩
  have e':Sre.forSearch XB t 1 0 t.size false=mk2 t 0 true true 0 0 (Array.replicate 2 none) (({}:Sre.Seen).add 14):=by
   show (if 0 > t.size||t.size - 0 < 1 then _ else _)=_
   rw[if_neg (by intro hh;rw[Bool.or_eq_true,decide_eq_true_eq,decide_eq_true_eq] at hh;omega)];rfl
  rw[e'];exact e
end
end
section
open PySem.Builtin.Re
theorem QeV:Slot "re.Pattern" "search" "re.Pattern.search" :=
 .of (owner:="re.Pattern") (n:="search") (by rw[typeLookup_type,builtinLookup_eq_fast];symm) (by ac_rfl) (by ac_rfl) (by ac_rfl)
  (by first|exact .inl (by ac_rfl)|exact .inr (by ac_rfl)) (by rw[isSubtype_type];symm)
theorem Qb6:Slot "re.Pattern" "fullmatch" "re.Pattern.fullmatch" :=
 .of (owner:="re.Pattern") (n:="fullmatch") (by rw[typeLookup_type,builtinLookup_eq_fast];symm) (by ac_rfl) (by ac_rfl) (by ac_rfl)
  (by first|exact .inl (by ac_rfl)|exact .inr (by ac_rfl)) (by rw[isSubtype_type];symm)
theorem Qm3:entryFor table "re.Pattern.search"=some Builtin.«re.Pattern.search»:=entryFor_of_tree (by symm)
theorem Qm2:entryFor table "re.Pattern.fullmatch"=some Builtin.«re.Pattern.fullmatch»:=entryFor_of_tree (by symm)
theorem Qm4:typeOf (.builtin "re.Pattern.search")=pure (.type "method_descriptor"):=by show builtinType _=_;rw[builtinType_eq_fast];symm
theorem QeW:typeOf (.builtin "re.Pattern.fullmatch")=pure (.type "method_descriptor"):=by show builtinType _=_;rw[builtinType_eq_fast];symm
noncomputable def Qaw:Array Nat:=#[14,4,0,1,4294967295,7,5,16,48,15,22,20,13,5,22,49,57,0,24,10,0,4294967295,13,5,22,48,57,0,1,15,2,0,1]
noncomputable def idx (i:Nat):Str:=zz (toString (i:Int))
noncomputable def QdX (m:Sre.M):Bool:=match m.outcome with|some .matched=>true|_=>false
theorem Qlr:∀i < 64,QdX (steps 24 (Sre.forMatch Qaw (idx i).cps 0 0 (idx i).cps.size true false))=true:=by ac_rfl
theorem Qb5:PlainAttrs "re.Pattern" :=
 ⟨⟨"object.__getattribute__",by rw[typeLookup_type,builtinLookup_eq_fast];symm,by ac_rfl⟩,by rw[typeLookup_type,builtinLookup_eq_fast];symm⟩
theorem QmF (v:Vl):reNamed "re.Pattern.search" "search" ["string","pos","endpos"] 1 [v] []=pure [some v,none,none]:=by rfl
theorem QmE (v:Vl):reNamed "re.Pattern.fullmatch" "fullmatch" ["string","pos","endpos"] 1 [v] []=pure [some v,none,none]:=by rfl
theorem QeS:Manifest.owners.lookup (String.ofList ['n','r','e','t','t','a','P','.','e','r'].reverse)=some Manifest.sig_re_Pattern:=by symm
theorem Qm1 (a b:Vl):argsOk "re.Pattern.search" ⟨[a,b],[]⟩:=by
 unfold argsOk;rw[signature?_of (id:="re.Pattern.search") (n:=['h','c','r','a','e','s']) (o:=['n','r','e','t','t','a','P','.','e','r']) (by symm) QeS];symm
theorem Qm0 (a b:Vl):argsOk "re.Pattern.fullmatch" ⟨[a,b],[]⟩:=by
 unfold argsOk;rw[signature?_of (id:="re.Pattern.fullmatch") (n:=['h','c','t','a','m','l','l','u','f']) (o:=['n','r','e','t','t','a','P','.','e','r']) (by symm) QeS];symm
theorem QlK (i:Nat) (h:i < 64):(idx i).cps.size<=1000000:=by
 have:∀i < 64,(idx i).cps.size<=1000000:=by ac_rfl
 exact this i h
section
variable {M:Model}{A:Ar}{E:KQ_}
theorem Qe0 {id f:String}{p tc:Ad}{pv fl:Vl}{g:Nat}{cs:List Vl}{Q:ReTarget->Sh->Prop}(hn:∀v:Vl,reNamed id f ["string","pos","endpos"] 1 [v] []=pure [some v,none,none])
  (hp:s.heap.get? p=some { cls:=.type "re.Pattern",dict:=none,data:=.fields [pv,fl,.int g 0,.none,.none,.ref tc,.int 0 0].toArray,slots:=[].toArray }) (ht:s.heap.get? tc=some (tup cs)) (hx:x.cps.size<=1000000)
  (h:Q { pattern:=.ref p,string:=.str x t,code:=(cs.toArray.map reRawOf).map (·.toNat),text:=x.cps,kind:=0,groups:=g,pos:=0,lim:=x.cps.size } s):wA M A (reTarget id f ⟨[.ref p,.str x t],[]⟩) Q E s:=by
 unfold reTarget
 show wA M A (reNamed id f ["string","pos","endpos"] 1 [.str x t] [] >>= _) Q E s
 rw[hn]
 refine wb9 (wp_ ?_)
 dsimp only
 refine wb9 (wp_ (wb9 (wp_ ?_)))
 refine wb9 (wpAny_fieldsOf hp rfl ?_)
 refine wb9 ?_
 unfold reTextOf
 refine wb9 (m:=asStr? (.str x t)) (wp_ ?_)
 refine wp_ ?_
 dsimp only
 refine wpAny_ite_split (λh=>absurd h (show ¬ ((true&&false)=true) from Bool.false_ne_true)) λx_=>?_
 refine wpAny_ite_split (λh=>absurd h (show ¬ ((false&&true)=true) from Bool.false_ne_true)) λx_=>?_
 refine wb9 ?_
 unfold reNoCollectionInside
 rw[if_neg (by decide)]
 refine wp_ (wb9 ?_)
 unfold reRawItems
 refine wb9 (m:=seqItems? (.ref tc)) (wpAny_seqItems ht rfl (wp_ (wp_ ?_)))
 have e:min ((2:Int) ^ 63 - 1).toNat x.cps.size=x.cps.size:=Nat.min_eq_right (Nat.le_trans hx (by decide))
 rw[e]
 exact h
end
section
theorem qp {T:String}{name:Str}{id:String}{k:Vl->List Vl->Loc->Own->Prop}(pa:PlainAttrs T) (slot:Slot T name id) (hty:typeOf (.builtin id)=pure (.type "method_descriptor")) (h:Has c oh a o) (hc:o.cls = .type T) (hd:o.dict=none)
  (hk:k (.builtin id) [.ref a] m oh):ZB c N ou m oh (.ref a) name k:=λpl =>
 Q6 (a:=(.builtin id,[.ref a])) (λA s fr Q hA S P hQ=>getMethod_builtin ⟨o,h _ _ S.sg,hc⟩ pa slot hty (λb e=>by cases e;exact⟨o,h _ _ S.sg,hd⟩) (hQ s.toks)) hk
noncomputable abbrev QeU (pv fl:Vl) (g:Nat) (tc:Ad):Obj:={ cls:=.type "re.Pattern",dict:=none,data:=.fields [pv,fl,.int g 0,.none,.none,.ref tc,.int 0 0].toArray,slots:=[].toArray }
theorem Qg7 {p tc:Ad}{pv fl:Vl}{cs:List Vl}(hp:Has c oh p (QeU pv fl 1 tc)) (ht:Has c oh tc (tup cs)) (hcs:(cs.toArray.map reRawOf).map (·.toNat)=XB) (hx:x.cps.size<=10000) (ho:Z0 x.cps.toList=true)
  (hk:k .none m oh):W c N ou m oh (call (.builtin "re.Pattern.search") [.ref p,.str x t]) k:=by
 refine Q6 (a:=.none) (λA s fr Q hA S P hQ=>?_) hk
 have hT:s.TypeIs (.ref p) "re.Pattern":=⟨_,hp _ _ S.sg,rfl⟩
 refine wpAny_call_entry QeV hT Qm3 ?_ (Qm1 _ _)
 show wA _ _ (reTarget "re.Pattern.search" "search" ⟨[.ref p,.str x t],[]⟩ >>= _) _ _ _
 refine wb9 (Qe0 (λv=>QmF v) (hp _ _ S.sg) (ht _ _ S.sg) (by omega) ?_)
 rw[hcs]
 obtain⟨n,hn,e⟩:=Qnk ho
 show wA _ _ (reRunToEnd (Sre.forSearch XB x.cps 1 0 x.cps.size false) >>= _) _ _ _
 refine wb9 (Qe4 (n:=n) (b:=false) (by omega) e ?_)
 exact wp_ ⟨_,rfl,hQ s.toks⟩
theorem Qc2 {p tc:Ad}{pv fl:Vl}{cs:List Vl}(hp:Has c oh p (QeU pv fl 0 tc)) (ht:Has c oh tc (tup cs)) (hcs:(cs.toArray.map reRawOf).map (·.toNat)=Qaw) (hi:i < 64)
  (hk:∀D o o',Ext oh o'->o' D=some o->o.cls = .type "re.Match"->k (.ref D) m o'):W c N ou m oh (call (.builtin "re.Pattern.fullmatch") [.ref p,.str (idx i) t]) k:=by
 intro A s fr Q hA S P hQ
 have hT:s.TypeIs (.ref p) "re.Pattern":=⟨_,hp _ _ S.sg,rfl⟩
 refine wpAny_call_entry Qb6 hT Qm2 ?_ (Qm0 _ _)
 show wA _ _ (reTarget "re.Pattern.fullmatch" "fullmatch" ⟨[.ref p,.str (idx i) t],[]⟩ >>= _) _ _ _
 refine wb9 (Qe0 (λv=>QmE v) (hp _ _ S.sg) (ht _ _ S.sg) (QlK i hi) ?_)
 rw[hcs]
 have hf:=Qlr i hi
 show wA _ _ (reRunToEnd (Sre.forMatch Qaw (idx i).cps 0 0 (idx i).cps.size true false) >>= _) _ _ _
 generalize Sre.forMatch Qaw (idx i).cps 0 0 (idx i).cps.size true false=M0 at hf
 have e:(steps 24 M0).outcome=some .matched:=by
  unfold QdX at hf
  split at hf
  ·assumption
  ·cases hf
 refine wb9 (Qe4 (n:=24) (b:=true) (by decide) e ?_)
 show wA _ _ (reNewMatch (.ref p) (.str (idx i) t) 0 0 (idx i).cps.size (steps 24 M0) >>= ret) _ _ _
 refine wb9 ?_
 unfold reNewMatch
 rw[if_neg (by rw[List.range_zero];exact Bool.false_ne_true)]
 refine wb9 (wpAny_newTuple ?_ (by simp<;>decide))
 refine wpAny_newObj_type (wp_ ⟨_,rfl,?_⟩) (by size_fits)
 have S₁:=S.apart.push (tup [rawInt (steps 24 M0).start,rawInt (steps 24 M0).handed]) s.toks rfl
 have n1:=S.sg.fresh
 have S₂:=S₁.push { cls:=.type "re.Match",data:=.fields #[.str (idx i) t,.ref p,rawInt ((0:Nat):Int),rawInt (idx i).cps.size,rawInt (steps 24 M0).lastindex,.ref s.heap.objs.size] } s.toks rfl
 exact hQ _ m _ _ (hk _ _ _ ((Ext.put n1).trans (Ext.put S₁.fresh)) (Qa ..) rfl) (S.back S₂)
theorem Qmz:typeLookup (.type "re.Match") "__bool__"=pure none:=by rw[typeLookup_type,builtinLookup_eq_fast];symm
theorem QmA:typeLookup (.type "re.Match") "__len__"=pure none:=by rw[typeLookup_type,builtinLookup_eq_fast];symm
theorem Qdo {k:KB_}(h:oh a=some o) (hc:o.cls = .type "re.Match") (hk:k true m oh):W c N ou m oh (truthy (.ref a)) k:=by
 refine Q6 (a:=true) (λA s fr Q hA S P hQ=>?_) hk
 have hT:s.TypeIs (.ref a) "re.Match":=⟨o,S.sg.has _ _ h,hc⟩
 unfold truthy
 refine wb9 ?_
 unfold callSpecial?
 refine wb9 (wpAny_specialOf hT Qmz (wp_ ?_))
 dsimp only
 refine wb9 ?_
 refine wpAny_specialOf hT QmA ?_
 rw[if_pos (by rfl)]
 exact wp_ (hQ s.toks)
end
end
noncomputable abbrev Q3 (oj:LJ):List Vl:=oj.map (·.2.val)
noncomputable abbrev Q2 (oj:LJ):List (Str × Vl):=oj.map λp=>(p.1,p.2.val)
structure CpL (c:Cx) (oh:Own) (oj:LJ) (i:Nat) (ot:LJ) (o:Own):Prop where
 keys:ot.map (·.1)=(oj.take i).map (·.1)
 cp:∀ (n:Nat) (p q:Str × J),oj[n]?=some p->ot[n]?=some q->Cp p.2 q.2
 ok:∀q∈ot,Ok c o q.2
 ext:Ext oh o
 new:∀a∈J.aa ot,oh a=none
 nodup:(J.aa ot).Nodup
section
variable {oh o o':Own}{oj ot:LJ}{i:Nat}
theorem CpL.nil:CpL c oh oj 0 [] oh:=⟨by simp,λn p q x_ h=>by simp at h,λq h=>by simp at h,.refl,λa h=>by simp[J.aa] at h,List.nodup_nil⟩
theorem CpL.len (h:CpL c oh oj i ot o) (hi:i<=oj.length):ot.length=i:=by
 have:=congrArg List.length h.keys
 simp at this;omega
set_option tactic.hygienic true in
theorem CpL.snoc (h:CpL c oh oj i ot o) {p:Str × J}{j':J}(hp:oj[i]?=some p) (hc:Cp p.2 j') (hok:Ok c o' j') (hx:Ext o o') (hf:Z3 o j'):CpL c oh oj (i+1) (ot++[(p.1,j')]) o':=by
 have hlt:i < oj.length:=(ge_.mp hp).1
 have hl:=h.len (Nat.le_of_lt hlt)
 refine⟨?_,λn p' q h1 h2=>?_,λq hq=>?_,h.ext.trans hx,λa ha=>?_,?_⟩
 ·rw[List.map_append,h.keys,List.take_add_one,hp];simp
 ·rw[List.getElem?_append] at h2
  split at h2
  ·exact h.cp n p' q h1 h2
  ·rename_i hn
   have:n=i:=by
    have:=(ge_.mp h2).1
    simp at this;omega
   subst this
   cases hp,h1
   rw[hl,Nat.sub_self] at h2
   simp at h2;subst h2;exact hc
 ·rcases ma_.mp hq with hq|hq
  ·exact(h.ok q hq).ext hx
  ·refine memS hq ?_;exact hok
 ·rw[J.ah,ma_] at ha
  rcases ha with ha|ha
  ·exact h.new a ha
  ·simp[J.aa] at ha
   exact h.ext.none (hf.new a ha)
 ·rw[J.ah]
  refine List.nodup_append.mpr ⟨h.nodup,by simpa [J.aa] using hf.nodup,λa ha b hb e=>?_⟩
  subst e
  simp[J.aa] at hb
  obtain⟨q,hq,hqa⟩:=J.aE ha
  obtain⟨ob,hob⟩:=(h.ok q hq).there a hqa
  cases (hf.new a hb),hob
theorem CpL.node (h:CpL c oh oj oj.length ot o) {a D:Ad}{Do:Obj}(hD:New c o D) (hn:Q8 c (o.put D Do) D d ot) :
  Cp (.node a d oj) (.node D d ot)/\Ok c (o.put D Do) (.node D d ot)/\Ext oh (o.put D Do)/\Z3 oh (.node D d ot):=by
 refine⟨.node (by rw[h.keys,List.take_length]) h.cp,.node ⟨hD.base,hn⟩ λp hp=>(h.ok p hp).ext (.put hD.own),h.ext.ai hD.own,λb hb=>?_,?_⟩
 ·rw[J.addrs] at hb
  rcases mc_.mp hb with rfl|hb
  ·exact h.ext.none hD.own
  ·exact h.new b hb
 ·rw[J.addrs,nc_]
  refine⟨λhm=>?_,h.nodup⟩
  obtain⟨q,hq,hqa⟩:=J.aE hm
  obtain⟨ob,hob⟩:=(h.ok q hq).there D hqa
  cases (hD.own),hob
theorem QeD {D:Ad}{ep:Nat}:Q8 c (o.put D (lst (Q3 ot) ep)) D false ot:=⟨ep,Qa ..⟩
theorem QeC {D:Ad}{Do:Obj}(h:IsD c Do (Q2 ot)):Q8 c (o.put D Do) D true ot:=⟨Do,Qa ..,h⟩
theorem Xd {oj:LJ}:(Q2 oj).map (·.1)=oj.map (·.1):=by simp[Function.comp_def]
theorem IsD.nodup {o:Obj}{oj:LV}(h:IsD c o oj):(oj.map (·.1)).Nodup:=by obtain⟨_,_,_,_,_,_,h⟩:=h;exact h
theorem Qfp {oj:LJ}{i:Nat}{p:Str × J}(hn:((Q2 oj).map (·.1)).Nodup) (h:oj[i]?=some p):valueAt (Q2 oj) p.1=some p.2.val :=
 valueAt_of_get hn (i:=i) (by simp[h])
theorem Qfi {oj:LV}(h:x∉oj.map (·.1)):stored oj x v=oj++[(x,v)]:=by
 unfold stored
 rw[if_neg]
 simp only[Bool.not_eq_true,List.any_eq_false,decide_eq_true_eq]
 intro p hp e
 exact h (List.mem_map.mpr ⟨p,hp,e⟩)
theorem QeG {oj:LJ}{i:Nat}{p:Str × J}(hn:(oj.map (·.1)).Nodup) (h:oj[i]?=some p):p.1∉(oj.take i).map (·.1):=by
 intro hm
 obtain⟨q,hq,e⟩:=List.mem_map.mp hm
 obtain⟨n,hn1,hn2⟩:=List.getElem_of_mem hq
 have hlt:i < oj.length:=(ge_.mp h).1
 have hni:n < i:=by simp at hn1;omega
 have hp:oj[i]=p:=(ge_.mp h).2
 have hq':oj[n]'(by omega)=q:=by rw[<- hn2];simp
 have:=List.pairwise_iff_getElem.mp hn n i (by simp<;>omega) (by simpa using hlt) hni
 exact this (by simp[hq',hp,e])
end
abbrev YV (c:Cx) (oh:Own) (j:J) (r:Vl) (oo:Own):Prop:=∃j',r=j'.val/\Cp j j'/\Ok c oo j'/\Ext oh oo/\Z3 oh j'
theorem qZ {j:J}(h:Ok c oh j) (hN:j.size<=N) (hz:j.size<=1000) :
  CW c N oh (call (.ref 65) [j.val] []) (YV c oh j):=by
 induction hn:j.size using Nat.strongRecOn generalizing oh N j with|_ n ih =>
 subst hn
 replace ih:∀ {N:Nat}{oh:Own}{j':J},Ok c oh j'->j'.size<=N->j'.size < j.size->CW c N oh (call (.ref 65) [j'.val] []) (YV c oh j'):=λh h1 h2=>ih _ h2 h h1 (by omega) rfl
 have hp:=j.size_pos
 refine Zt (M:=(j.size - 1)+1) ?_ (by omega)
 refine Qj8 λou kf=>?_
 have kd:=h.kdOf
 cases j with
 |atom v =>
  have h0:=h
  cases h with|atom h =>
  have fin:YV c oh (.atom v) v oh:=⟨.atom v,rfl,.atom,h0,.refl,λa ha=>(nomatch ha),List.nodup_nil⟩
  have h:ZA (J.atom v).val:=h
  clear kd
  refine Qm ?_
  left
  exact fin
 |node a d oj =>
  have hk:∀p∈oj,p.2.size<=(J.node a d oj).size - 1:=λp hp=>by have:=J.am (a:=a) (d:=d) hp;omega
  induction d with
  |false =>
   obtain⟨hb,n,ho⟩:=h.ae
   refine Qm ?_
   left
   refine qv (Xj kf rfl) ?_
   left
   refine⟨_,_,_,λi ys o=>∃ot,ys=Q3 ot/\CpL c oh oj i ot o,Xv ho,⟨[],rfl,.nil⟩,λi ys o ⟨ot,_,hJ⟩ q hq=>?_,?_,?_⟩
   ·refine memS hq ?_;exact hJ.ext _ _ ho
   ·rintro i v ys o oq mc hi hP ⟨ot,rfl,hJ⟩ ac aC _
    have kf:=XS aC
    rw[gm_] at hP
    obtain⟨p,hp',rfl⟩:=mq_.mp hP
    have hpm:=mg_ hp'
    refine Zv kf rfl (Yy ⟨λx_=>⟨?_,?_⟩,λz=>nomatch z⟩)
    ·have:=J.length_le (oj:=oj)
     have:=hJ.len (Nat.le_of_lt (ge_.mp hp').1)
     have:=(ge_.mp hp').1
     rw[J.size] at hz
     simp only[lm_]
     exact Nat.le_trans (by omega:ot.length<=1000) (by decide)
    ·left
     refine Qf (ZT (ih ((h.kid hpm).ext hJ.ext) (hk p hpm) (J.am hpm)) ?_)
     rintro r o' ⟨j',rfl,hc,hok,hx,hf⟩
     exact⟨Zj rfl ac,ot++[(p.1,j')],by simp[Q3],hJ.snoc hp' hc hok hx hf⟩
   ·rintro ys o ⟨ot,rfl,hJ⟩ D ep hD
    rw[lm_] at hJ
    obtain⟨h1,h2,h3,h4⟩:=hJ.node (a:=a) hD (d:=false) (Do:=lst (Q3 ot) ep) QeD
    exact⟨_,rfl,h1,h2,h3,h4⟩
  |true =>
   obtain⟨hb,Do,ho,hd⟩:=h.ae
   have hnd:=IsD.nodup hd
   have hnd':(oj.map (·.1)).Nodup:=by rw[<- Xd];exact hnd
   refine Qm ?_
   left
   refine QcS (Xj kf rfl) ?_
   left
   refine⟨_,_,_,λi ys o=>∃ot,ys=Q2 ot/\CpL c oh oj i ot o,qr ho hd (XU hb),⟨[],rfl,.nil⟩,λi ys o ⟨ot,_,hJ⟩ q hq=>?_,?_,?_⟩
   ·refine memS hq ?_;exact hJ.ext _ _ ho
   ·rintro i v ys o oq mc hi ⟨x,xv,t,hP,rfl⟩ ⟨ot,rfl,hJ⟩ ac aC _
    have kf:=XS aC
    have hv:=ac (zz "value") _ rfl rfl
    rw[gm_] at hP
    obtain⟨p,hp',e⟩:=mq_.mp hP
    cases e
    have hpm:=mg_ hp'
    refine Zv kf rfl (Yy ⟨λx_=>⟨?_,?_⟩,λz=>nomatch z⟩)
    ·have:=J.length_le (oj:=oj)
     have:=hJ.len (Nat.le_of_lt (ge_.mp hp').1)
     have:=(ge_.mp hp').1
     rw[J.size] at hz
     simp only[lm_]
     exact Nat.le_trans (by omega:ot.length<=1000) (by decide)
    ·left
     refine⟨p.1,strKind_is c.prog c.w p.1 t,?_⟩
     left
     refine Zs (hJ.ext _ _ ho) hd (Qfp hnd hp') ?_
     left
     refine Qf (ZT (ih ((h.kid hpm).ext hJ.ext) (hk p hpm) (J.am hpm)) ?_)
     rintro r o' ⟨j',rfl,hc,hok,hx,hf⟩
     refine⟨Zj rfl ac,ot++[(p.1,j')],?_,hJ.snoc hp' hc hok hx hf⟩
     rw[Qfi (by rw[Xd,hJ.keys];exact QeG hnd' hp')]
     simp[Q2]
   ·rintro ys o ⟨ot,rfl,hJ⟩ D Do' hD hd'
    rw[lm_] at hJ
    obtain⟨h1,h2,h3,h4⟩:=hJ.node (a:=a) hD (d:=true) (Do:=Do') (QeC hd')
    exact⟨_,rfl,h1,h2,h3,h4⟩
theorem qY {j:J}(h:Ok c oh j) (hN:j.size<=N) (hz:j.size<=1000) :
  CW c N oh (call (.ref 1296) [j.val] []) (YV c oh j):=by
 induction hn:j.size using Nat.strongRecOn generalizing oh N j with|_ n ih =>
 subst hn
 replace ih:∀ {N:Nat}{oh:Own}{j':J},Ok c oh j'->j'.size<=N->j'.size < j.size->CW c N oh (call (.ref 1296) [j'.val] []) (YV c oh j'):=λh h1 h2=>ih _ h2 h h1 (by omega) rfl
 have hp:=j.size_pos
 refine Zt (M:=(j.size - 1)+1) ?_ (by omega)
 refine Qki λou kf=>?_
 have kd:=h.kdOf
 cases j with
 |atom v =>
  have h0:=h
  cases h with|atom h =>
  have fin:YV c oh (.atom v) v oh:=⟨.atom v,rfl,.atom,h0,.refl,λa ha=>(nomatch ha),List.nodup_nil⟩
  have h:ZA (J.atom v).val:=h
  clear kd
  refine Qm ?_
  left
  exact fin
 |node a d oj =>
  have hk:∀p∈oj,p.2.size<=(J.node a d oj).size - 1:=λp hp=>by have:=J.am (a:=a) (d:=d) hp;omega
  induction d with
  |false =>
   obtain⟨hb,n,ho⟩:=h.ae
   refine Qm ?_
   left
   refine qv (Xj kf rfl) ?_
   left
   refine⟨_,_,_,λi ys o=>∃ot,ys=Q3 ot/\CpL c oh oj i ot o,Xv ho,⟨[],rfl,.nil⟩,λi ys o ⟨ot,_,hJ⟩ q hq=>?_,?_,?_⟩
   ·refine memS hq ?_;exact hJ.ext _ _ ho
   ·rintro i v ys o oq mc hi hP ⟨ot,rfl,hJ⟩ ac aC _
    have kf:=XS aC
    rw[gm_] at hP
    obtain⟨p,hp',rfl⟩:=mq_.mp hP
    have hpm:=mg_ hp'
    refine Zv kf rfl (Yy ⟨λx_=>⟨?_,?_⟩,λz=>nomatch z⟩)
    ·have:=J.length_le (oj:=oj)
     have:=hJ.len (Nat.le_of_lt (ge_.mp hp').1)
     have:=(ge_.mp hp').1
     rw[J.size] at hz
     simp only[lm_]
     exact Nat.le_trans (by omega:ot.length<=1000) (by decide)
    ·left
     refine Qf (ZT (ih ((h.kid hpm).ext hJ.ext) (hk p hpm) (J.am hpm)) ?_)
     rintro r o' ⟨j',rfl,hc,hok,hx,hf⟩
     exact⟨Zj rfl ac,ot++[(p.1,j')],by simp[Q3],hJ.snoc hp' hc hok hx hf⟩
   ·rintro ys o ⟨ot,rfl,hJ⟩ D ep hD
    rw[lm_] at hJ
    obtain⟨h1,h2,h3,h4⟩:=hJ.node (a:=a) hD (d:=false) (Do:=lst (Q3 ot) ep) QeD
    exact⟨_,rfl,h1,h2,h3,h4⟩
  |true =>
   obtain⟨hb,Do,ho,hd⟩:=h.ae
   have hnd:=IsD.nodup hd
   have hnd':(oj.map (·.1)).Nodup:=by rw[<- Xd];exact hnd
   refine Qm ?_
   left
   refine QcS (Xj kf rfl) ?_
   left
   refine⟨_,_,_,λi ys o=>∃ot,ys=Q2 ot/\CpL c oh oj i ot o,qr ho hd (XU hb),⟨[],rfl,.nil⟩,λi ys o ⟨ot,_,hJ⟩ q hq=>?_,?_,?_⟩
   ·refine memS hq ?_;exact hJ.ext _ _ ho
   ·rintro i v ys o oq mc hi ⟨x,xv,t,hP,rfl⟩ ⟨ot,rfl,hJ⟩ ac aC _
    have kf:=XS aC
    have hv:=ac (zz "value") _ rfl rfl
    rw[gm_] at hP
    obtain⟨p,hp',e⟩:=mq_.mp hP
    cases e
    have hpm:=mg_ hp'
    refine Zv kf rfl (Yy ⟨λx_=>⟨?_,?_⟩,λz=>nomatch z⟩)
    ·have:=J.length_le (oj:=oj)
     have:=hJ.len (Nat.le_of_lt (ge_.mp hp').1)
     have:=(ge_.mp hp').1
     rw[J.size] at hz
     simp only[lm_]
     exact Nat.le_trans (by omega:ot.length<=1000) (by decide)
    ·left
     refine⟨p.1,strKind_is c.prog c.w p.1 t,?_⟩
     left
     refine Zs (hJ.ext _ _ ho) hd (Qfp hnd hp') ?_
     left
     refine Qf (ZT (ih ((h.kid hpm).ext hJ.ext) (hk p hpm) (J.am hpm)) ?_)
     rintro r o' ⟨j',rfl,hc,hok,hx,hf⟩
     refine⟨Zj rfl ac,ot++[(p.1,j')],?_,hJ.snoc hp' hc hok hx hf⟩
     rw[Qfi (by rw[Xd,hJ.keys];exact QeG hnd' hp')]
     simp[Q2]
   ·rintro ys o ⟨ot,rfl,hJ⟩ D Do' hD hd'
    rw[lm_] at hJ
    obtain⟨h1,h2,h3,h4⟩:=hJ.node (a:=a) hD (d:=true) (Do:=Do') (QeC hd')
    exact⟨_,rfl,h1,h2,h3,h4⟩
theorem Qf3 {k:KO}(hx:x.length<=100000) (hx2:(Txt.replace x (zz "~1") (zz "/")).length<=1048576)
  (hk:∀t',k (.str (Txt.replace (Txt.replace x (zz "~1") (zz "/")) (zz "~0") (zz "~")) t') oh):CW c (N+1) oh (call (.ref 351) [.str x t] []) k:=by
 refine Qkr λou kf=>?_
 refine Qm ?_
 walk_at "w1"
 refine Qdh ?_ (by ac_rfl) (by ac_rfl) rfl rfl
 refine Qdh ?_ (by ac_rfl) (by ac_rfl) rfl rfl
 left
 refine⟨x,t,rfl,by omega,λt1=>⟨_,t1,rfl,hx2,λt2=>?_⟩⟩
 left
 exact hk t2
inductive Qh|name (x:Str)|idx (i:Nat)
 deriving DecidableEq
noncomputable abbrev Qe:=List Qh
noncomputable abbrev qe:Str:=zz ""
noncomputable def Qj:List (Str × J)->Str->Option J
 | [],_=>none
 |(m,y)::r,n=>if m=n then some y else Qj r n
noncomputable def Qx:List (Str × J)->Nat->Option J
 | [],_=>none
 |(m,y)::r,0=>some y
 |_::r,i+1=>Qx r i
noncomputable def Qw:Bool->List (Str × J)->Qh->Option J
 |true,oj,.name x=>Qj oj x
 |false,oj,.idx i=>Qx oj i
 |_,_,_=>none
noncomputable def Ze:List (Str × J)->Str->J->List (Str × J)
 | [],_,_=>[]
 |(m,y)::r,n,x=>if m=n then (m,x)::r else (m,y)::Ze r n x
noncomputable def X7:List (Str × J)->Nat->J->List (Str × J)
 | [],_,_=>[]
 |(m,y)::r,0,x=>(m,x)::r
 |p::r,i+1,x=>p::X7 r i x
noncomputable def Zh (oj:LJ) (k:Qh) (x:J):List (Str × J):=match k with
 |.name n=>Ze oj n x
 |.idx i=>X7 oj i x
noncomputable def ZK:List (Str × J)->Nat->J->List (Str × J)
 |l,0,x=>(qe,x)::l
 | [],_+1,x=>[(qe,x)]
 |p::r,i+1,x=>p::ZK r i x
noncomputable def Qp (oj:LJ) (k:Qh) (x:J):List (Str × J):=match k with
 |.name n=>if (Qj oj n).isSome then Ze oj n x else oj++[(n,x)]
 |.idx i=>ZK oj i x
noncomputable def Xr (oj:LJ) (n:Str):List (Str × J):=oj.filter λp=>decide (p.1≠n)
noncomputable def Qo (oj:LJ) (k:Qh):List (Str × J):=match k with
 |.name n=>Xr oj n
 |.idx i=>oj.eraseIdx i
noncomputable def look:Qe->J->Option J
 | [],j=>some j
 |k::p,.node _ d oj=>(Qw d oj k).bind (look p)
 |_::_,.atom _=>none
noncomputable def Qg (f:List (Str × J)->List (Str × J)):Qe->J->J
 | [],.node a d oj=>.node a d (f oj)
 |k::p,.node a d oj=>match Qw d oj k with
  |some x=>.node a d (Zh oj k (Qg f p x))
  |none=>.node a d oj
 |_,.atom v=>.atom v
theorem XQ:∀ {oj:LJ}{i:Nat},Qx oj i=(oj[i]?).map (·.2)
 | [],_=>rfl
 |_::_,0=>rfl
 |p::r,i+1=>by rw[Qx,XQ,List.getElem?_cons_succ]
set_option tactic.hygienic true in
theorem qb:∀ {oj:LJ}{n:Str}{x:J},Qj oj n=some x->(n,x)∈oj
 |(m,y)::r,n,x,h=>by
  unfold Qj at h
  split at h
  ·rename_i e;cases h;subst e;exact .head _
  ·exact .tail _ (qb h)
set_option tactic.hygienic true in
theorem qG:∀ {oj:LJ}{n:Str},Qj oj n=none↔n∉oj.map (·.1)
 | [],n=>by simp[Qj]
 |(m,y)::r,n=>by
  unfold Qj
  split
  ·rename_i e;simp[e]
  ·rename_i e;rw[qG,List.map_cons,mc_,not_or];exact⟨λh=>⟨λz=>e z.symm,h⟩,λh=>h.2⟩
theorem QaF:∀ {oj:LJ}{n:Str}{x:J},(oj.map (·.1)).Nodup->(n,x)∈oj->Qj oj n=some x
 |(m,y)::r,n,x,hn,h=>by
  rw[List.map_cons,nc_] at hn
  unfold Qj
  rcases mc_.mp h with e|h
  ·cases e;rw[if_pos rfl]
  ·rw[if_neg]
   ·exact QaF hn.2 h
   ·rintro rfl;exact hn.1 (List.mem_map.mpr ⟨_,h,rfl⟩)
theorem Xc {k:Qh}{x:J}(h:Qw d oj k=some x):∃n,(n,x)∈oj:=by
 rcases d with _|_<;>rcases k with n|i
 ·cases h
 ·have h':Qx oj i=some x:=h
  rw[XQ] at h'
  obtain⟨p,hp,rfl⟩:=mq_.mp h'
  exact⟨p.1,mg_ hp⟩
 ·exact⟨_,qb h⟩
 ·cases h
structure At (d:Bool) (oj:LJ) (k:Qh) (x:J) (l:LJ) (n:Str) (r:LJ):Prop where
 eq:oj=l++(n,x)::r
 set:∀y,Zh oj k y=l++(n,y)::r
 del:(Qo oj k).Sublist (l++r)
set_option tactic.hygienic true in
theorem QbD:∀ {oj:LJ}{n:Str}{x:J},Qj oj n=some x->∃l r,At true oj (.name n) x l n r
 |(m,y)::q,n,x,h=>by
  unfold Qj at h
  split at h
  ·rename_i e;cases h;subst e
   exact⟨[],q,rfl,λy=>(by show Ze _ _ _=_;simp[Ze]),(by show (Xr _ _).Sublist _;unfold Xr;rw[List.filter_cons_of_neg (by simp)];exact List.filter_sublist)⟩
  ·rename_i e
   obtain⟨l,r,h1,h2,h3⟩:=QbD h
   refine⟨(m,y)::l,r,by rw[h1];rfl,λz=>?_,?_⟩
   ·show Ze _ _ _=_
    rw[Ze,if_neg e]
    exact congrArg _ (h2 z)
   ·show (Xr _ _).Sublist _
    unfold Xr
    rw[List.filter_cons_of_pos (by simpa using e)]
    exact h3.cons_cons _
theorem Qdx:∀ {oj:LJ}{i:Nat}{x:J},Qx oj i=some x->∃l n r,At false oj (.idx i) x l n r/\l.length=i
 |(m,y)::q,0,x,h=>by cases h;exact⟨[],m,q,⟨rfl,λy=>rfl,List.Sublist.refl _⟩,rfl⟩
 |p::q,i+1,x,h=>by
  obtain⟨l,n,r,⟨h1,h2,h4⟩,h3⟩:=Qdx (oj:=q) (i:=i) h
  exact⟨p::l,n,r,⟨by rw[h1];rfl,λz=>congrArg _ (h2 z),h4.cons_cons _⟩,by rw[lc_,h3]⟩
theorem XR {k:Qh}{x:J}(h:Qw d oj k=some x):∃l n r,At d oj k x l n r:=by
 rcases d with _|_<;>rcases k with n|i
 ·cases h
 ·obtain⟨l,n,r,h,_⟩:=Qdx h;exact⟨l,n,r,h⟩
 ·obtain⟨l,r,h⟩:=QbD h;exact⟨l,n,r,h⟩
 ·cases h
theorem QbM:∀ {oj:LJ}{n m:Str}{x:J},(Qj oj n).isSome=true->Qj (Ze oj n x) m=if m=n then some x else Qj oj m
 |(q,y)::r,n,m,x,h=>by
  unfold Qj at h
  by_cases e:q=n
  ·subst e
   rw[Ze,if_pos rfl,Qj,Qj]
   by_cases e':m=q
   ·subst e';simp
   ·rw[if_neg (Ne.symm e'),if_neg e',if_neg (Ne.symm e')]
  ·rw[if_neg e] at h
   rw[Ze,if_neg e,Qj,Qj,QbM h]
   by_cases e':q=m
   ·subst e';rw[if_pos rfl,if_neg e,if_pos rfl]
   ·rw[if_neg e',if_neg e']
theorem Qd1:∀ {oj:LJ}{i j:Nat}{x:J},(Qx oj i).isSome=true->Qx (X7 oj i x) j=if j=i then some x else Qx oj j
 |(q,y)::r,0,0,x,h=>rfl
 |(q,y)::r,0,j+1,x,h=>rfl
 |(q,y)::r,i+1,0,x,h=>rfl
 |(q,y)::r,i+1,j+1,x,h=>by
  show Qx (X7 r i x) j=_
  rw[Qd1 (oj:=r) h]
  simp only[Nat.add_right_cancel_iff];rfl
theorem X6 {k k':Qh}{x y:J}(h:Qw d oj k=some y):Qw d (Zh oj k x) k'=if k'=k then some x else Qw d oj k':=by
 rcases d with _|_<;>rcases k with n|i<;>rcases k' with m|j
 ·cases h
 ·cases h
 ·rfl
 ·have h':Qx oj i=some y:=h
  show Qx (X7 oj i x) j=_
  rw[Qd1 (by rw[h'];rfl)]
  simp only[Qh.idx.injEq];rfl
 ·have h':Qj oj n=some y:=h
  show Qj (Ze oj n x) m=_
  rw[QbM (by rw[h'];rfl)]
  simp only[Qh.name.injEq];rfl
 ·rfl
 ·cases h
 ·cases h
theorem Qd3:∀ {l r:LJ}{n:Str},Qj (l++r) n=(Qj l n).or (Qj r n)
 | [],_,_=>rfl
 |(m,y)::l,r,n=>by
  rw[List.cons_append,Qj,Qj]
  split
  ·rfl
  ·exact Qd3
set_option tactic.hygienic true in
theorem QaE {n m:Str}{x:J}:Qj (Qp oj (.name n) x) m=if m=n then some x else Qj oj m:=by
 show Qj (if (Qj oj n).isSome then Ze oj n x else oj++[(n,x)]) m=_
 split
 ·rename_i h;exact QbM h
 ·rename_i h
  rw[Qd3]
  by_cases e:m=n
  ·subst e
   rw[if_pos rfl]
   cases q:Qj oj m with
   |none=>simp[Qj]
   |some z=>rw[q] at h;exact absurd rfl h
  ·rw[if_neg e]
   cases Qj oj m with
   |none=>simp[Qj,Ne.symm e]
   |some z=>rfl
theorem qF:∀ {oj:LJ}{i j:Nat}{x:J},i<=oj.length->Qx (ZK oj i x) j=if j < i then Qx oj j else if j=i then some x else Qx oj (j - 1)
 |oj,0,0,x,h=>by unfold ZK;simp[Qx]
 |oj,0,j+1,x,h=>by unfold ZK;simp[Qx]
 |p::r,i+1,0,x,h=>by unfold ZK;simp[Qx]
 |p::r,i+1,j+1,x,h=>by
  show Qx (ZK r i x) j=_
  rw[qF (by simpa using h)]
  simp only[Nat.add_lt_add_iff_right,Nat.add_right_cancel_iff,Nat.add_sub_cancel]
  by_cases h1:j < i
  ·rw[if_pos h1,if_pos h1];rfl
  ·rw[if_neg h1,if_neg h1]
   by_cases h2:j=i
   ·rw[if_pos h2,if_pos h2]
   ·rw[if_neg h2,if_neg h2]
    obtain⟨j',rfl⟩:∃j',j=j'+1:=⟨j - 1,by omega⟩
    rfl
theorem QaD:∀ {oj:LJ}{n m:Str},Qj (Xr oj n) m=if m=n then none else Qj oj m
 | [],n,m=>by simp[Xr,Qj]
 |(q,y)::r,n,m=>by
  have ih:=QaD (oj:=r) (n:=n) (m:=m)
  unfold Xr at ih ⊢
  rw[List.filter_cons]
  by_cases e:q=n
  ·subst e
   simp only[ne_eq,not_true_eq_false,decide_false,Bool.false_eq_true,if_false]
   rw[ih,Qj]
   by_cases e':m=q
   ·rw[if_pos e',if_pos e']
   ·rw[if_neg e',if_neg e',if_neg (Ne.symm e')]
  ·simp only[ne_eq,e,not_false_iff,decide_true,if_true]
   rw[Qj,Qj,ih]
   by_cases e':q=m
   ·subst e';rw[if_pos rfl,if_neg e,if_pos rfl]
   ·rw[if_neg e',if_neg e']
theorem qE:∀ {oj:LJ}{i j:Nat},Qx (oj.eraseIdx i) j=if j < i then Qx oj j else Qx oj (j+1)
 | [],i,j=>by simp[Qx]
 |p::r,0,j=>by simp[Qx]
 |p::r,i+1,0=>by simp[Qx]
 |p::r,i+1,j+1=>by
  rw[List.eraseIdx_cons_succ]
  show Qx (r.eraseIdx i) j=_
  rw[qE]
  simp only[Nat.add_lt_add_iff_right]
  rfl
theorem YD:(Qx oj i).isSome=decide (i < oj.length):=by
 rw[XQ,Option.isSome_map]
 by_cases h:i < oj.length
 ·simp[h]
 ·simp[h]
theorem QaM:∀ {p q:Qe}{X:J},look (p++q) X=(look p X).bind (look q)
 | [],_,_=>rfl
 |k::p,q,.atom v=>rfl
 |k::p,q,.node a d oj=>by
  show (Qw d oj k).bind (look (p++q))=((Qw d oj k).bind (look p)).bind (look q)
  cases Qw d oj k with
  |none=>rfl
  |some x=>exact QaM
theorem ZM {p:Qe}{k:Qh}{X x:J}(h:look (p++[k]) X=some x):∃a d oj,look p X=some (.node a d oj)/\Qw d oj k=some x:=by
 rw[QaM] at h
 obtain⟨y,hy,h⟩:=bs_.mp h
 cases y with
 |atom v=>cases h
 |node a d oj =>
  refine⟨a,d,oj,hy,?_⟩
  obtain⟨z,hz,h⟩:=bs_.mp h
  cases h;exact hz
theorem qL {p:Qe}{k:Qh}{X x:J}(h:look p X=some (.node a d oj)) (hk:Qw d oj k=some x):look (p++[k]) X=some x:=by
 rw[QaM,h]
 show (Qw d oj k).bind (look [])=_
 rw[hk];rfl
theorem Zb:∀ {p:Qe}{X x:J},look p X=some x->∀a∈x.addrs,a∈X.addrs
 | [],X,x,h,a,ha=>by cases h;exact ha
 |k::p,.atom v,x,h,a,ha=>by cases h
 |k::p,.node b d oj,x,h,a,ha=>by
  obtain⟨y,hy,h⟩:=bs_.mp h
  obtain⟨n,hm⟩:=Xc hy
  rw[J.addrs]
  exact .tail _ (J.ad hm (Zb h a ha))
theorem ZL:∀ {p:Qe}{X x:J},look p X=some x->x.size<=X.size
 | [],X,x,h=>by cases h;exact Nat.le_refl _
 |k::p,.atom v,x,h=>by cases h
 |k::p,.node b d oj,x,h=>by
  obtain⟨y,hy,h⟩:=bs_.mp h
  obtain⟨n,hm⟩:=Xc hy
  exact Nat.le_trans (ZL h) (Nat.le_of_lt (J.am hm))
theorem YH:∀ {p:Qe}{X x:J},look p X=some x->p.length < X.size
 | [],X,x,h=>X.size_pos
 |k::p,.atom v,x,h=>by cases h
 |k::p,.node b d oj,x,h=>by
  obtain⟨y,hy,h⟩:=bs_.mp h
  obtain⟨n,hm⟩:=Xc hy
  have h1:=YH h
  have h2:=J.am (a:=b) (d:=d) hm
  simp only[lc_] at *
  omega
theorem Z7:∀ {p:Qe}{X x:J},look p X=some x->Ok c oh X->Ok c oh x
 | [],X,x,h,o=>by cases h;exact o
 |k::p,.atom v,x,h,o=>by cases h
 |k::p,.node b d oj,x,h,o=>by
  obtain⟨y,hy,h⟩:=bs_.mp h
  obtain⟨n,hm⟩:=Xc hy
  exact Z7 h (o.kid hm)
theorem QeF {p:Str × J}(h:(J.aa oj).Nodup) (hp:p∈oj):p.2.addrs.Nodup:=by
 obtain⟨l,r,rfl⟩:=List.append_of_mem hp
 rw[J.ah] at h
 obtain⟨n,x⟩:=p
 exact(List.nodup_append.mp (List.nodup_append.mp h).2.1).1
theorem QaN:∀ {p:Qe}{X x:J},look p X=some x->X.addrs.Nodup->x.addrs.Nodup
 | [],X,x,h,o=>by cases h;exact o
 |k::p,.atom v,x,h,o=>by cases h
 |k::p,.node b d oj,x,h,o=>by
  obtain⟨y,hy,h⟩:=bs_.mp h
  obtain⟨n,hm⟩:=Xc hy
  rw[J.addrs,nc_] at o
  exact QaN h (QeF o.2 hm)
section
variable {f g:List (Str × J)->List (Str × J)}{oh oo:Own}
theorem ZZ:∀ {p:Qe}{X:J},(Qg f p X).val=X.val
 | [],.atom v=>rfl
 |k::p,.atom v=>rfl
 | [],.node a d _=>rfl
 |k::p,.node a d oj=>by
  unfold Qg
  split<;>rfl
theorem Xl {k:Qh}{p:Qe}{x:J}(h:Qw d oj k=some x):Qg f (k::p) (.node a d oj) = .node a d (Zh oj k (Qg f p x)):=by
 show (match Qw d oj k with|some x=>J.node a d (Zh oj k (Qg f p x))|none=>.node a d oj)=_
 rw[h]
theorem qM:∀ {p:Qe}{X:J}{a:Ad}{d:Bool}{oj:LJ},look p X=some (.node a d oj)->look p (Qg f p X)=some (.node a d (f oj))
 | [],X,a,d,oj,h=>by cases h;rfl
 |k::p,.atom v,a,d,oj,h=>by cases h
 |k::p,.node b d' af,a,d,oj,h=>by
  obtain⟨y,hy,h⟩:=bs_.mp h
  rw[Xl hy]
  show (Qw d' (Zh af k (Qg f p y)) k).bind (look p)=_
  rw[X6 hy,if_pos rfl]
  exact qM h
theorem Qno {k:Qh}{x y z:J}(h:Qw d oj k=some x):Zh (Zh oj k y) k z=Zh oj k z:=by
 have h1:Qw d (Zh oj k y) k=some y:=by rw[X6 h,if_pos rfl]
 rcases d with _|_<;>rcases k with n|i
 ·cases h
 ·show X7 (X7 oj i y) i z=X7 oj i z
  clear h h1
  induction oj generalizing i with
  |nil=>rfl
  |cons p r ih=>induction i with
   |zero=>rfl
   |succ i=>exact congrArg _ (ih i)
 ·show Ze (Ze oj n y) n z=Ze oj n z
  clear h h1
  induction oj with
  |nil=>rfl
  |cons p r ih =>
   obtain⟨m,w⟩:=p
   by_cases e:m=n
   ·simp[Ze,e]
   ·simp[Ze,e,ih]
 ·cases h
theorem QbX:∀ {p:Qe}{X:J}{a:Ad}{d:Bool}{oj:LJ},look p X=some (.node a d oj)->Qg g p (Qg f p X)=Qg (λl=>g (f l)) p X
 | [],X,a,d,oj,h=>by cases h;rfl
 |k::p,.atom v,a,d,oj,h=>by cases h
 |k::p,.node b d' af,a,d,oj,h=>by
  obtain⟨y,hy,h⟩:=bs_.mp h
  rw[Xl hy,Xl hy,Xl (x:=Qg f p y) (by rw[X6 hy,if_pos rfl]),Qno hy,QbX h]
theorem QbZ:∀ {p:Qe}{X:J}{a:Ad}{d:Bool}{oj:LJ},look p X=some (.node a d oj)->(Qg f p X).size+J.ab oj=X.size+J.ab (f oj)
 | [],X,a,d,oj,h=>by cases h;show 1+J.ab (f oj)+_=1+J.ab oj+_;omega
 |k::p,.atom v,a,d,oj,h=>by cases h
 |k::p,.node b d' af,a,d,oj,h=>by
  obtain⟨y,hy,hq⟩:=bs_.mp h
  obtain⟨l,n,r,h1,h2,_⟩:=XR hy
  rw[Xl hy,J.size,J.size,h2]
  have e:=congrArg J.ab h1
  rw[J.ao,J.ab] at e
  rw[J.ao,J.ab]
  have:=QbZ hq
  omega
theorem qO:∀ {p:Qe}{X:J}{a b:Ad}{d:Bool}{oj:LJ},X.addrs.Nodup->look p X=some (.node a d oj)->b∈(Qg f p X).addrs->(b∈X.addrs/\b∉J.aa oj)\/b∈J.aa (f oj)
 | [],X,a,b,d,oj,hn,h,hb=>by
  cases h
  rw[J.addrs,nc_] at hn
  rw[show Qg f [] (.node a d oj) = .node a d (f oj) from rfl,J.addrs,mc_] at hb
  rcases hb with rfl|hb
  ·exact .inl ⟨J.m0,hn.1⟩
  ·exact .inr hb
 |k::p,.atom v,a,b,d,oj,hn,h,hb=>by cases h
 |k::p,.node e d' af,a,b,d,oj,hn,h,hb=>by
  obtain⟨y,hy,hq⟩:=bs_.mp h
  obtain⟨l,n,r,h1,h2,_⟩:=XR hy
  rw[Xl hy,J.addrs,h2,J.ah,J.aa] at hb
  subst h1
  rw[J.addrs,J.ah,J.aa,nc_,List.nodup_append,List.nodup_append] at hn
  obtain⟨n1,n2,⟨n3,n4,n5⟩,n6⟩:=hn
  have sub:∀z∈J.aa oj,z∈y.addrs:=λz hz=>Zb hq z (J.mL hz)
  simp only[ma_,not_or] at n1 n6
  rw[J.addrs,J.ah,J.aa]
  simp only[mc_,ma_] at hb ⊢
  rcases hb with rfl|hb|hb|hb
  ·exact .inl ⟨.inl rfl,λhz=>n1.2.1 (sub _ hz)⟩
  ·exact .inl ⟨.inr (.inl hb),λhz=>n6 b hb b (.inl (sub _ hz)) rfl⟩
  ·rcases qO n3 hq hb with ⟨q1,q2⟩|q
   ·exact .inl ⟨.inr (.inr (.inl q1)),q2⟩
   ·exact .inr q
  ·exact .inl ⟨.inr (.inr (.inr hb)),λhz=>n5 b (sub _ hz) b hb rfl⟩
theorem QaO:∀ {p:Qe}{X:J}{a:Ad}{d:Bool}{oj:LJ},X.addrs.Nodup->look p X=some (.node a d oj)->(J.aa (f oj)).Nodup->(∀b∈J.aa (f oj),b∈J.aa oj\/b∉X.addrs)->(Qg f p X).addrs.Nodup
 | [],X,a,d,oj,hn,h,hk,hs=>by
  cases h
  rw[J.addrs,nc_] at hn
  rw[show Qg f [] (.node a d oj) = .node a d (f oj) from rfl,J.addrs,nc_]
  refine⟨λha=>?_,hk⟩
  rcases hs a ha with h|h
  ·exact hn.1 h
  ·exact h J.m0
 |k::p,.atom v,a,d,oj,hn,h,hk,hs=>by cases h
 |k::p,.node e d' af,a,d,oj,hn,h,hk,hs=>by
  obtain⟨y,hy,hq⟩:=bs_.mp h
  obtain⟨l,n,r,h1,h2,_⟩:=XR hy
  rw[Xl hy,J.addrs,h2,J.ah,J.aa]
  subst h1
  rw[J.addrs,J.ah,J.aa] at hs hn
  rw[nc_,List.nodup_append,List.nodup_append] at hn
  obtain⟨n1,n2,⟨n3,n4,n5⟩,n6⟩:=hn
  have sub:∀z∈J.aa oj,z∈y.addrs:=λz hz=>Zb hq z (J.mL hz)
  simp only[ma_,not_or] at n1 n6
  simp only[mc_,ma_,not_or] at hs
  have hin:∀b∈(Qg f p y).addrs,b∈y.addrs\/(b≠e/\b∉J.aa l/\b∉J.aa r):=λb hb=>by
   rcases qO n3 hq hb with ⟨q1,q2⟩|q
   ·exact .inl q1
   ·rcases hs b q with z|z
    ·exact .inl (sub _ z)
    ·exact .inr ⟨z.1,z.2.1,z.2.2.2⟩
  rw[nc_,List.nodup_append,List.nodup_append]
  refine⟨?_,n2,⟨QaO n3 hq hk λb hb=>(hs b hb).imp id λz=>z.2.2.1,n4,λb hb b' hb' ee=>?_⟩,λb hb b' hb' ee=>?_⟩
  ·simp only[ma_,not_or]
   refine⟨n1.1,λhb=>?_,n1.2.2⟩
   rcases hin e hb with z|z
   ·exact n1.2.1 z
   ·exact z.1 rfl
  ·subst ee
   rcases hin b hb with z|z
   ·exact n5 b z b hb' rfl
   ·exact z.2.2 hb'
  ·subst ee
   rcases ma_.mp hb' with hb' | hb'
   ·rcases hin b hb' with z|z
    ·exact n6 b hb b (.inl z) rfl
    ·exact z.2.1 hb
   ·exact n6 b hb b (.inr hb') rfl
theorem QnM {k:Qh}{x y:J}(h:Qw d oj k=some x) (hv:y.val=x.val):Q3 (Zh oj k y)=Q3 oj/\Q2 (Zh oj k y)=Q2 oj:=by
 obtain⟨l,n,r,h1,h2,_⟩:=XR h
 rw[h2]
 conv=>rhs;rw[h1]
 conv=>lhs;rw[h1]
 simp[hv]
theorem QbY:∀ {p:Qe}{X:J}{a:Ad}{d:Bool}{oj:LJ},Ok c oh X->X.addrs.Nodup->look p X=some (.node a d oj)->Z9 c oo a d (f oj)->(∀q∈f oj,Ok c oo q.2) ->
  (∀b∈X.addrs,b≠a->∀o,oh b=some o->oo b=some o)->Ok c oo (Qg f p X)
 | [],X,a,d,oj,ho,hn,h,hi,hk,hx=>by cases h;exact .node hi hk
 |k::p,.atom v,a,d,oj,ho,hn,h,hi,hk,hx=>by cases h
 |k::p,.node e d' af,a,d,oj,ho,hn,h,hi,hk,hx=>by
  obtain⟨y,hy,hq⟩:=bs_.mp h
  obtain⟨l,n,r,h1,h2,_⟩:=XR hy
  have hv:=QnM hy (y:=Qg f p y) ZZ
  have hni:=ho.ae
  have hk':=λq hq=>ho.kid (p:=q) hq
  rw[Xl hy]
  have ha:a∈y.addrs:=Zb hq a J.m0
  subst h1
  rw[J.addrs,J.ah,J.aa] at hx hn
  rw[nc_,List.nodup_append,List.nodup_append] at hn
  obtain⟨n1,n2,⟨n3,n4,n5⟩,n6⟩:=hn
  simp only[ma_,not_or] at n1 n6
  simp only[mc_,ma_,not_or] at hx
  have hne:e≠a:=by rintro rfl;exact n1.2.1 ha
  refine .node ?_ λq hm=>?_
  ·have hn':Z9 c oo e d' (l++(n,y)::r):=hni.ext (hx e (.inl rfl) hne)
   refine⟨hn'.base,?_⟩
   have:=hn'.obj
   induction d' with
   |true=>obtain⟨o,q1,q2⟩:=this;exact⟨o,q1,by show IsD c o (Q2 _);rw[hv.2];exact q2⟩
   |false=>obtain⟨o,q1⟩:=this;exact⟨o,by show oo e=some (lst (Q3 _) o);rw[hv.1];exact q1⟩
  ·rw[h2] at hm
   rcases ma_.mp hm with hm|hm
   ·refine(hk' q (ml_ _ hm)).on λb hb o=>hx b (.inr (.inl (J.ad hm hb))) ?_ o
    rintro rfl
    exact n6 b (J.ad hm hb) b (.inl ha) rfl
   ·rcases mc_.mp hm with rfl|hm
    ·exact QbY (hk' (n,y) (mr_ _ (.head _))) n3 hq hi hk λb hb hne=>hx b (.inr (.inr (.inl hb))) hne
    ·refine(hk' q (mr_ _ (.tail _ hm))).on λb hb o=>hx b (.inr (.inr (.inr (J.ad hm hb)))) ?_ o
     rintro rfl
     exact n5 b ha b (J.ad hm hb) rfl
end
inductive ZS:Vl->Vl->Prop
 |none:ZS .none .none
 |bool {b:_}:ZS (.bool b) (.bool b)
 |int {i t u:_}:ZS (.int i t) (.int i u)
 |str {x t u:_}:ZS (.str x t) (.str x u)
theorem ZS.kind {v w:Vl}(h:ZS v w):ZA v/\ZA w/\∃kd,Qv oh v kd/\Qv oh w kd:=by
 cases h<;>exact⟨by constructor,by constructor,_,by constructor,by constructor⟩
inductive Qr (R:Ad->Ad->Prop):J->J->Prop
 |atom {v w:_}:ZS v w->Qr R (.atom v) (.atom w)
 |node {a b d oj ot:_}:R a b->(∀k,(Qw d oj k).isSome=(Qw d ot k).isSome)->(∀k x y,Qw d oj k=some x->Qw d ot k=some y->Qr R x y)->Qr R (.node a d oj) (.node b d ot)
noncomputable abbrev Sim:=Qr λx_ x_=>True
def OS (R:Ad->Ad->Prop) (o o':Option J):Prop:=o.isSome=o'.isSome/\∀x y,o=some x->o'=some y->Qr R x y
def Zk (R:Ad->Ad->Prop) (d:Bool) (oj ot:LJ):Prop:=∀k,OS R (Qw d oj k) (Qw d ot k)
section
variable {R S:Ad->Ad->Prop}{a b:Ad}{d:Bool}{oj ot:LJ}{x y X Y P W:J}
theorem OS.none:OS R none none:=⟨rfl,λx_ x_ h=>by cases h⟩
theorem OS.some (h:Qr R x y):OS R (some x) (some y):=⟨rfl,λx_ x_ h1 h2=>by cases h1;cases h2;exact h⟩
theorem Qr.aK (h:R a b) (hk:Zk R d oj ot):Qr R (.node a d oj) (.node b d ot):=.node h (λk=>(hk k).1) λk=>(hk k).2
theorem Qr.inv {Y:J}(h:Qr R (.node a d oj) Y):∃b ot,Y = .node b d ot/\R a b/\Zk R d oj ot:=by
 cases h with
 |node h1 h2 h3=>exact⟨_,_,rfl,h1,λk=>⟨h2 k,h3 k⟩⟩
theorem Qr.rel (h:Qr R (.node a d oj) (.node b d ot)):R a b/\Zk R d oj ot:=by
 cases h with
 |node h1 h2 h3=>exact⟨h1,λk=>⟨h2 k,h3 k⟩⟩
theorem Qr.mono (h:Qr R X Y) (hs:∀a b,R a b->S a b):Qr S X Y:=by
 induction h with
 |atom h=>exact .atom h
 |node h1 h2 h3 ih=>exact .node (hs _ _ h1) h2 ih
theorem Qr.top (h:Qr R X Y):Sim X Y:=h.mono λx_ x_ x_=>trivial
theorem ZS.symm {v w:Vl}(h:ZS v w):ZS w v:=by induction h<;>constructor
theorem ZS.trans {u v w:Vl}(h:ZS u v) (h':ZS v w):ZS u w:=by induction h<;>cases h'<;>constructor
theorem ZS.refl (h:ZA v):ZS v v:=by induction h<;>constructor
theorem Sim.symm (h:Sim X Y):Sim Y X:=by
 induction h with
 |atom h=>exact .atom h.symm
 |node h1 h2 h3 ih=>exact .node trivial (λk=>(h2 k).symm) λk x y e1 e2=>ih k y x e2 e1
theorem Sim.trans (h:Sim X Y):∀ {Z:J},Sim Y Z->Sim X Z:=by
 induction h with
 |atom h=>intro Z h';cases h' with|atom h'=>exact .atom (h.trans h')
 |node h1 h2 h3 ih =>
  intro Z h'
  cases h' with|node g1 g2 g3 =>
  refine .node trivial (λk=>(h2 k).trans (g2 k)) λk x z e1 e2=>?_
  have:=h2 k
  rw[e1] at this
  obtain⟨y,hy⟩:=is_.mp this.symm
  exact ih k x y e1 hy (g3 k y z hy e2)
theorem Qr.look {p:Qe}:∀ {X Y x:J},Qr R X Y->Tactic.look p X=some x->∃y,Tactic.look p Y=some y/\Qr R x y:=by
 induction p with
 |nil=>intro X Y x h e;cases e;exact⟨Y,rfl,h⟩
 |cons k p ih =>
  intro X Y x h e
  induction h with
  |atom h=>cases e
  |@node a b d oj ot h1 h2 h3 =>
   obtain⟨z,hz,e⟩:=bs_.mp e
   have:=h2 k
   rw[hz] at this
   obtain⟨y,hy⟩:=is_.mp this.symm
   obtain⟨w,hw,hs⟩:=ih (h3 k z y hz hy) e
   refine⟨w,?_,hs⟩
   show (Qw d ot k).bind (Tactic.look p)=_
   rw[hy];exact hw
theorem Qr.aQ {p:Qe}(h:Qr R X Y) (e:Tactic.look p X=some (.node a d oj)):∃b ot,Tactic.look p Y=some (.node b d ot)/\R a b/\Zk R d oj ot:=by
 obtain⟨y,hy,hs⟩:=h.look e
 obtain⟨b,ot,rfl,h1,h2⟩:=hs.inv
 exact⟨b,ot,hy,h1,h2⟩
theorem Qr.mod {f g:List (Str × J)->List (Str × J)}{p:Qe}:∀ {X Y:J}{oj ot:LJ},Qr R X Y->Tactic.look p X=some (.node a d oj)->Tactic.look p Y=some (.node b d ot)->Zk R d (f oj) (g ot)->Qr R (Qg f p X) (Qg g p Y):=by
 induction p with
 |nil =>
  intro X Y oj ot h e1 e2 hk
  cases e1;cases e2
  exact .aK h.rel.1 hk
 |cons k p ih =>
  intro X Y oj ot h e1 e2 hk
  induction h with
  |atom h=>cases e1
  |@node a' b' d' af lvs' h1 h2 h3 =>
   obtain⟨z,hz,e1⟩:=bs_.mp e1
   obtain⟨w,hw,e2⟩:=bs_.mp e2
   rw[Xl hz,Xl hw]
   refine .aK h1 λk'=>?_
   rw[X6 hz,X6 hw]
   split
   ·exact .some (ih (h3 k z w hz hw) e1 e2 hk)
   ·exact⟨h2 k',h3 k'⟩
theorem Zk.len (h:Zk R false oj ot):oj.length=ot.length:=by
 have h1:=(h (.idx ot.length)).1
 have h2:=(h (.idx oj.length)).1
 simp only[Qw,YD,decide_eq_decide] at h1 h2
 omega
def Ins (d:Bool) (oj:LJ) (k:Qh) (e:Bool):Prop:=match d,k with
 |true,.name n=>e=false
 |false,.idx i=>i<=oj.length/\(e=true->i=oj.length)
 |_,_=>False
theorem Ins.same {k:Qh}{e:Bool}(h:Ins d oj k e) (hk:Zk R d oj ot):Ins d ot k e:=by
 induction d<;>induction k
 ·exact h
 ·have:=hk.len;exact⟨by have:=h.1;omega,λq=>by have:=h.2 q;omega⟩
 ·exact h
 ·exact h
set_option tactic.hygienic true in
theorem Zk.ins {k:Qh}{e:Bool}(hk:Zk R d oj ot) (h:Ins d oj k e) (hs:Qr R x y):Zk R d (Qp oj k x) (Qp ot k y):=by
 intro k'
 have h':=h.same hk
 induction d<;>induction k
 ·exact h.elim
 ·rename_i i
  induction k' with
  |name m=>exact .none
  |idx j =>
   show OS R (Qx (ZK oj i x) j) (Qx (ZK ot i y) j)
   rw[qF h.1,qF h'.1]
   split
   ·exact hk (.idx j)
   ·split
    ·exact .some hs
    ·exact hk (.idx (j - 1))
 ·rename_i n
  induction k' with
  |name m =>
   show OS R (Qj _ m) (Qj _ m)
   rw[QaE,QaE]
   split
   ·exact .some hs
   ·exact hk (.name m)
  |idx j=>exact .none
 ·exact h.elim
set_option tactic.hygienic true in
theorem Zk.del {k:Qh}(hk:Zk R d oj ot) (h:Qw d oj k=some x):Zk R d (Qo oj k) (Qo ot k):=by
 intro k'
 induction d<;>induction k
 ·cases h
 ·rename_i i
  induction k' with
  |name m=>exact .none
  |idx j =>
   show OS R (Qx (oj.eraseIdx i) j) (Qx (ot.eraseIdx i) j)
   rw[qE,qE]
   split
   ·exact hk (.idx j)
   ·exact hk (.idx (j+1))
 ·rename_i n
  induction k' with
  |name m =>
   show OS R (Qj (Xr _ _) m) (Qj (Xr _ _) m)
   rw[QaD,QaD]
   split
   ·exact .none
   ·exact hk (.name m)
  |idx j=>exact .none
 ·cases h
theorem Zk.there {k:Qh}(hk:Zk R d oj ot) (h:Qw d oj k=some x):∃y,Qw d ot k=some y/\Qr R x y:=by
 have:=(hk k).1
 rw[h] at this
 obtain⟨y,hy⟩:=is_.mp this.symm
 exact⟨y,hy,(hk k).2 x y h hy⟩
set_option tactic.hygienic true in
theorem Qd2 {k k':Qh}{z:J}(h:Qw d oj k=some z):Qw d (Qp (Qo oj k) k x) k'=if k'=k then some x else Qw d oj k':=by
 induction d<;>induction k
 ·cases h
 ·rename_i i
  induction k' with
  |name m=>rfl
  |idx j =>
   have hi:i < oj.length:=by
    have h':Qx oj i=some z:=h
    have:=YD (oj:=oj) (i:=i)
    rw[h'] at this
    simpa using this.symm
   show Qx (ZK (oj.eraseIdx i) i x) j=_
   rw[qF (by rw[List.length_eraseIdx_of_lt hi];omega),qE,qE]
   simp only[Qh.idx.injEq]
   by_cases h1:j < i
   ·rw[if_pos h1,if_pos h1,if_neg (by omega)];rfl
   ·rw[if_neg h1]
    by_cases h2:j=i
    ·rw[if_pos h2,if_pos h2]
    ·rw[if_neg h2,if_neg h2,if_neg (by omega),Nat.sub_add_cancel (by omega)];rfl
 ·rename_i n
  induction k' with
  |name m =>
   show Qj _ m=_
   rw[QaE]
   simp only[Qh.name.injEq]
   split
   ·rfl
   ·rename_i hn
    show Qj (Xr oj n) m=_
    rw[QaD,if_neg hn];rfl
  |idx j=>rfl
 ·cases h
theorem Zk.replace {k:Qh}{z:J}(hk:Zk R d oj ot) (h:Qw d oj k=some z) (hs:Qr R x y):Zk R d (Qp (Qo oj k) k x) (Zh ot k y):=by
 intro k'
 obtain⟨w,hw,_⟩:=hk.there h
 rw[Qd2 h,X6 hw]
 split
 ·exact .some hs
 ·exact hk k'
set_option tactic.hygienic true in
theorem Zk.self {k:Qh}(hk:Zk R d oj ot) (h:Qw d oj k=some x):Zk R d (Qp (Qo oj k) k x) ot:=by
 intro k'
 rw[Qd2 h]
 split
 ·rename_i e;subst e;rw[<- h];exact hk k'
 ·exact hk k'
set_option tactic.hygienic true in
theorem Ins.bM {k:Qh}{z:J}(h:Qw d oj k=some z):Ins d (Qo oj k) k false:=by
 induction d<;>induction k
 ·cases h
 ·rename_i i
  have hi:i < oj.length:=by
   have h':Qx oj i=some z:=h
   have:=YD (oj:=oj) (i:=i)
   rw[h'] at this
   simpa using this.symm
  exact⟨by show i<=(oj.eraseIdx i).length;rw[List.length_eraseIdx_of_lt hi];omega,λz=>nomatch z⟩
 ·rfl
 ·cases h
theorem Qel:∀ {oj ot:LJ},oj.map (·.1)=ot.map (·.1)->∀n,(Qj oj n=none/\Qj ot n=none)\/∃ (i:Nat) (p q:Str × J),oj[i]?=some p/\ot[i]?=some q/\Qj oj n=some p.2/\Qj ot n=some q.2
 | [],[],_,n=>.inl ⟨rfl,rfl⟩
 | [],q::r,h,n=>by simp at h
 |q::r,[],h,n=>by simp at h
 |(m,x)::r,(m',y)::r',h,n=>by
  simp only[List.map_cons,List.cons.injEq] at h
  obtain⟨rfl,h⟩:=h
  rw[Qj,Qj]
  by_cases e:m=n
  ·rw[if_pos e,if_pos e]
   exact .inr ⟨0,(m,x),(m,y),rfl,rfl,rfl,rfl⟩
  ·rw[if_neg e,if_neg e]
   rcases Qel h n with z|⟨i,p,q,h1,h2,h3⟩
   ·exact .inl z
   ·exact .inr ⟨i+1,p,q,by simpa using h1,by simpa using h2,h3⟩
set_option tactic.hygienic true in
theorem Cp.sim {x y:J}(h:Cp x y) (hx:Ok c oh x):Sim x y:=by
 induction h with
 |@atom v=>cases hx with|atom h=>exact .atom (.refl h)
 |@node a b d oj ot hk hc ih =>
  have hl:oj.length=ot.length:=by simpa using congrArg List.length hk
  refine .aK trivial λk=>?_
  induction d<;>induction k
  ·exact .none
  ·rename_i i
   show OS _ (Qx oj i) (Qx ot i)
   rw[XQ,XQ]
   cases h1:oj[i]? with
   |none=>rw[List.getElem?_eq_none (by have:=List.getElem?_eq_none_iff.mp h1;omega)];exact .none
   |some p =>
    have hi:i < oj.length:=(ge_.mp h1).1
    have h2:ot[i]?=some ot[i]:=List.getElem?_eq_getElem (by omega)
    rw[h2]
    exact .some (ih i p _ h1 h2 (hx.kid (mg_ h1)))
  ·rename_i n
   show OS _ (Qj oj n) (Qj ot n)
   rcases Qel hk n with ⟨e1,e2⟩|⟨i,p,q,h1,h2,e1,e2⟩
   ·rw[e1,e2];exact .none
   ·rw[e1,e2];exact .some (ih i p q h1 h2 (hx.kid (mg_ h1)))
  ·exact .none
theorem Qe9:∀ {oj ot:LJ},oj.length=ot.length->(∀ (i:Nat) (p q:Str × J),oj[i]?=some p->ot[i]?=some q->q.2.size=p.2.size)->J.ab ot=J.ab oj
 | [],[],_,_=>rfl
 | [],q::r,h,_=>by simp at h
 |q::r,[],h,_=>by simp at h
 |(m,x)::r,(m',y)::r',h,hk=>by
  rw[J.ab,J.ab,hk 0 (m,x) (m',y) rfl rfl,Qe9 (by simpa using h) λi p q h1 h2=>hk (i+1) p q (by simpa using h1) (by simpa using h2)]
theorem Cp.size {x y:J}(h:Cp x y):y.size=x.size:=by
 induction h with
 |@atom v=>rfl
 |@node a b d oj ot hk hc ih=>rw[J.size,J.size,Qe9 (by simpa using congrArg List.length hk) ih]
def Pr (X Y:J) (a b:Ad):Prop:=∃p d d' oj ot,look p X=some (.node a d oj)/\look p Y=some (.node b d' ot)
theorem Sim.pairs (h:Sim X Y):Qr (Pr X Y) X Y:=by
 have:∀ {x y:J},Sim x y->∀p,look p X=some x->look p Y=some y->Qr (Pr X Y) x y:=by
  intro x y h
  induction h with
  |atom h=>intro p _ _;exact .atom h
  |node h1 h2 h3 ih =>
   intro p e1 e2
   exact .node ⟨p,_,_,_,_,e1,e2⟩ h2 λk x y k1 k2=>ih k x y k1 k2 (p++[k]) (qL e1 k1) (qL e2 k2)
 exact this h [] rfl rfl
theorem QmT {l r:LJ}{k k':Qh}{n:Str}(h:At d oj k x l n r) (hx:Qw d oj k=some x) (hk:k'≠k) (hy:Qw d oj k'=some y) (ha:a∈y.addrs):∃n',(n',y)∈l++r:=by
 have h1:=X6 (x:=.atom .none) (k':=k') hx
 rw[if_neg hk,hy,h.set] at h1
 obtain⟨n',hm⟩:=Xc h1
 rcases ma_.mp hm with hm|hm
 ·exact⟨n',ml_ _ hm⟩
 ·rcases mc_.mp hm with e|hm
  ·cases e;cases ha
  ·exact⟨n',mr_ _ hm⟩
theorem QbV:∀ {p q:Qe}{X:J}{a:Ad}{d d':Bool}{oj ot:LJ},X.addrs.Nodup->look p X=some (.node a d oj)->look q X=some (.node a d' ot)->p=q
 | [],[],_,_,_,_,_,_,_,_,_=>rfl
 | [],k::q,X,a,d,d',oj,ot,hn,h1,h2=>by
  cases h1
  obtain⟨y,hy,h2⟩:=bs_.mp h2
  obtain⟨n,hm⟩:=Xc hy
  rw[J.addrs,nc_] at hn
  exact absurd (J.ad hm (Zb h2 a J.m0)) hn.1
 |k::q,[],X,a,d,d',oj,ot,hn,h1,h2=>by
  cases h2
  obtain⟨y,hy,h1⟩:=bs_.mp h1
  obtain⟨n,hm⟩:=Xc hy
  rw[J.addrs,nc_] at hn
  exact absurd (J.ad hm (Zb h1 a J.m0)) hn.1
 |k::p,k'::q,.atom v,a,d,d',oj,ot,hn,h1,h2=>by cases h1
 |k::p,k'::q,.node e de kvs0,a,d,d',oj,ot,hn,h1,h2=>by
  obtain⟨y,hy,g1⟩:=bs_.mp h1
  obtain⟨z,hz,g2⟩:=bs_.mp h2
  rw[J.addrs,nc_] at hn
  have ha1:=Zb g1 a J.m0
  have ha2:=Zb g2 a J.m0
  by_cases hk:k'=k
  ·subst hk
   cases hy,hz
   obtain⟨n,hm⟩:=Xc hy
   exact congrArg _ (QbV (QeF hn.2 hm) g1 g2)
  ·exfalso
   obtain⟨l,n,r,hat⟩:=XR hy
   obtain⟨n',hm⟩:=QmT hat hy hk hz ha2
   have hn2:=hn.2
   rw[hat.eq,J.ah,J.aa,List.nodup_append,List.nodup_append] at hn2
   obtain⟨_,⟨_,_,h5⟩,h6⟩:=hn2
   rcases ma_.mp hm with hm|hm
   ·exact h6 a (J.ad hm ha2) a (ml_ _ ha1) rfl
   ·exact h5 a ha1 a (J.ad hm ha2) rfl
structure Bij (R:Ad->Ad->Prop) (D E:Ad->Prop):Prop where
 fn:∀ {a b b'},R a b->R a b'->b=b'
 inj:∀ {a a' b},R a b->R a' b->a=a'
 dom:∀ {a b},R a b->D a
 ran:∀ {a b},R a b->E b
theorem Pr.mem (h:Pr X Y a b):a∈X.addrs/\b∈Y.addrs:=by
 obtain⟨p,d,d',oj,ot,h1,h2⟩:=h
 exact⟨Zb h1 a J.m0,Zb h2 b J.m0⟩
theorem Bij.add {D E:Ad->Prop}(B:Bij R D E) (hx:X.addrs.Nodup) (hy:Y.addrs.Nodup) (hD:∀a∈X.addrs,¬ D a) (hE:∀b∈Y.addrs,¬ E b) :
  Bij (λa b=>R a b\/Pr X Y a b) (λa=>D a\/a∈X.addrs) (λb=>E b\/b∈Y.addrs):=by
 refine⟨λh h'=>?_,λh h'=>?_,λh=>?_,λh=>?_⟩
 ·rcases h with h|h<;>rcases h' with h' | h'
  ·exact B.fn h h'
  ·exact absurd (B.dom h) (hD _ h'.mem.1)
  ·exact absurd (B.dom h') (hD _ h.mem.1)
  ·obtain⟨p,d,d',oj,ot,h1,h2⟩:=h
   obtain⟨q,e,e',af,lvs',g1,g2⟩:=h'
   have:=QbV hx h1 g1
   subst this
   cases h2,g2;rfl
 ·rcases h with h|h<;>rcases h' with h' | h'
  ·exact B.inj h h'
  ·exact absurd (B.ran h) (hE _ h'.mem.2)
  ·exact absurd (B.ran h') (hE _ h.mem.2)
  ·obtain⟨p,d,d',oj,ot,h1,h2⟩:=h
   obtain⟨q,e,e',af,lvs',g1,g2⟩:=h'
   have:=QbV hy h2 g2
   subst this
   cases h1,g1;rfl
 ·exact h.imp B.dom λh=>h.mem.1
 ·exact h.imp B.ran λh=>h.mem.2
inductive Op
 |add (h:Qe) (k:Qh) (e:Bool) (V:J)
 |remove (h:Qe) (k:Qh)
 |replace0 (V:J)
 |replace (h:Qe) (k:Qh) (V:J)
 |move (fh:Qe) (fk:Qh) (h:Qe) (k:Qh) (e:Bool)
 |copy (f:Qe) (h:Qe) (k:Qh) (e:Bool)
 |test (p:Qe) (V:J)
def ZC (h:Qe) (k:Qh) (e:Bool) (X:J):Prop:=∃a d oj,look h X=some (.node a d oj)/\Ins d oj k e
noncomputable def Pre:Op->J->Prop
 |.add h k e V,X=>ZC h k e X
 |.remove h k,X=>∃z,look (h++[k]) X=some z
 |.replace0 V,X=>True
 |.replace h k V,X=>∃z,look (h++[k]) X=some z
 |.move fh fk h k e,X=>(∃z,look (fh++[fk]) X=some z)/\((h=fh/\k=fk/\e=false)\/ZC h k e (Qg (Qo · fk) fh X))
 |.copy f h k e,X=>(∃z,look f X=some z)/\ZC h k e X
 |.test p V,X=>∃z,look p X=some z/\Sim z V
noncomputable def XH:Op->J->J->Prop
 |.add h k e V,X,x=>Sim V x
 |.remove h k,X,x=>x = .atom .none
 |.replace0 V,X,x=>Sim V x
 |.replace h k V,X,x=>Sim V x
 |.move fh fk h k e,X,x=>look (fh++[fk]) X=some x
 |.copy f h k e,X,x=>∃z,look f X=some z/\Sim z x
 |.test p V,X,x=>x = .atom .none
noncomputable def Op.makes:Op->Bool
 |.move ..=>false
 |_=>true
noncomputable def ZR:Op->J->J->J
 |.add h k e V,x,X=>Qg (Qp · k x) h X
 |.remove h k,_,X=>Qg (Qo · k) h X
 |.replace0 V,x,X=>x
 |.replace h k V,x,X=>Qg (Qp · k x) h (Qg (Qo · k) h X)
 |.move fh fk h k e,x,X=>Qg (Qp · k x) h (Qg (Qo · fk) fh X)
 |.copy f h k e,x,X=>Qg (Qp · k x) h X
 |.test p V,_,X=>X
noncomputable def ZG:Op->J->J->J
 |.replace h k V,x,X=>Qg (Zh · k x) h X
 |.move fh fk h k e,x,X=>if h=fh/\k=fk/\e=false then X else Qg (Qp · k x) h (Qg (Qo · fk) fh X)
 |o,x,X=>ZR o x X
theorem ZC.same {h:Qe}{k:Qh}{e:Bool}(hs:Qr R X Y) (hi:ZC h k e X):ZC h k e Y:=by
 obtain⟨a,d,oj,h1,h2⟩:=hi
 obtain⟨b,ot,h3,_,h4⟩:=hs.aQ h1
 exact⟨b,d,ot,h3,h2.same h4⟩
theorem Qr.delAt {h:Qe}{k:Qh}{z:J}(hs:Qr R X Y) (hz:Tactic.look (h++[k]) X=some z):Qr R (Qg (Qo · k) h X) (Qg (Qo · k) h Y):=by
 obtain⟨a,d,oj,h1,h2⟩:=ZM hz
 obtain⟨b,ot,h3,_,h4⟩:=hs.aQ h1
 exact hs.mod h1 h3 (h4.del h2)
theorem Qr.insAt {h:Qe}{k:Qh}{e:Bool}(hs:Qr R X Y) (hi:ZC h k e X) (hx:Qr R x y):Qr R (Qg (Qp · k x) h X) (Qg (Qp · k y) h Y):=by
 obtain⟨a,d,oj,h1,h2⟩:=hi
 obtain⟨b,ot,h3,_,h4⟩:=hs.aQ h1
 exact hs.mod h1 h3 (h4.ins h2 hx)
theorem Pre.same {o:Op}(hs:Qr R X Y) (h:Pre o X):Pre o Y:=by
 induction o with
 |add h k e V=>exact ZC.same hs h
 |remove h' k=>obtain⟨z,hz⟩:=h;obtain⟨y,hy,_⟩:=hs.look hz;exact⟨y,hy⟩
 |replace0 V=>trivial
 |replace h' k V=>obtain⟨z,hz⟩:=h;obtain⟨y,hy,_⟩:=hs.look hz;exact⟨y,hy⟩
 |move fh fk h' k e =>
  obtain⟨⟨z,hz⟩,hi⟩:=h
  obtain⟨y,hy,_⟩:=hs.look hz
  exact⟨⟨y,hy⟩,hi.imp id λhi=>hi.same (hs.delAt hz)⟩
 |copy f h' k e =>
  obtain⟨⟨z,hz⟩,hi⟩:=h
  obtain⟨y,hy,_⟩:=hs.look hz
  exact⟨⟨y,hy⟩,hi.same hs⟩
 |test p V =>
  obtain⟨z,hz,hv⟩:=h
  obtain⟨y,hy,h'⟩:=hs.look hz
  exact⟨y,hy,h'.top.symm.trans hv⟩
set_option tactic.hygienic true in
theorem Qr.res {o:Op}(hs:Qr R P W) (hp:Pre o P) (hx:XH o P x) (hxy:Qr R x y):Qr R (ZR o x P) (ZG o y W):=by
 induction o with
 |add h k e V=>exact hs.insAt hp hxy
 |remove h k=>obtain⟨z,hz⟩:=hp;exact hs.delAt hz
 |replace0 V=>exact hxy
 |replace h k V =>
  obtain⟨z,hz⟩:=hp
  obtain⟨a,d,oj,h1,h2⟩:=ZM hz
  obtain⟨b,ot,h3,_,h4⟩:=hs.aQ h1
  show Qr R (Qg (Qp · k x) h (Qg (Qo · k) h P)) (Qg (Zh · k y) h W)
  rw[QbX h1]
  exact hs.mod h1 h3 (h4.replace h2 hxy)
 |move fh fk h k e =>
  obtain⟨⟨z,hz⟩,hi⟩:=hp
  have hx':Tactic.look (fh++[fk]) P=some x:=hx
  obtain⟨a,d,oj,h1,h2⟩:=ZM hx'
  show Qr R _ (if h=fh/\k=fk/\e=false then W else _)
  split
  ·rename_i he
   obtain⟨rfl,rfl,rfl⟩:=he
   obtain⟨b,ot,h3,h5,h4⟩:=hs.aQ h1
   show Qr R (Qg (Qp · k x) h (Qg (Qo · k) h P)) W
   rw[QbX h1]
   have:=hs.mod (f:=λl=>Qp (Qo l k) k x) (g:=λl=>l) h1 h3 (h4.self h2)
   rwa [show Qg (λl=>l) h W=W from ?_] at this
   clear hs hz hx hx' h1 h2 h4 hi hxy this
   induction h generalizing W with
   |nil=>cases h3;rfl
   |cons k' p ih =>
    cases W with
    |atom v=>rfl
    |node a' d' af =>
     obtain⟨y',hy',h3⟩:=bs_.mp h3
     rw[Xl hy',ih h3]
     obtain⟨l,n,r,e1,e2,_⟩:=XR hy'
     rw[e2,e1]
  ·rename_i he
   exact(hs.delAt hz).insAt (hi.resolve_left he) hxy
 |copy f h k e=>exact hs.insAt hp.2 hxy
 |test p V=>exact hs
theorem Qr.step {o:Op}{D E:Ad->Prop}(hs:Qr R P W) (B:Bij R D E) (hp:Pre o P) (hx:XH o P x) (hy:XH o W y) (nx:x.addrs.Nodup) (ny:y.addrs.Nodup)
  (fx:o.makes=true->∀a∈x.addrs,¬ D a) (fy:o.makes=true->∀a∈y.addrs,¬ E a) :
  ∃R':Ad->Ad->Prop,(∀a b,R a b->R' a b)/\(∀a b,R' a b->R a b\/(o.makes=true/\a∈x.addrs/\b∈y.addrs))/\Bij R' (λa=>D a\/(o.makes=true/\a∈x.addrs)) (λb=>E b\/(o.makes=true/\b∈y.addrs))/\Qr R' (ZR o x P) (ZG o y W):=by
 have new:o.makes=true->Sim x y->∃R':Ad->Ad->Prop,(∀a b,R a b->R' a b)/\(∀a b,R' a b->R a b\/(o.makes=true/\a∈x.addrs/\b∈y.addrs))/\Bij R' (λa=>D a\/(o.makes=true/\a∈x.addrs)) (λb=>E b\/(o.makes=true/\b∈y.addrs))/\Qr R' (ZR o x P) (ZG o y W):=by
  intro hm h
  refine⟨λa b=>R a b\/Pr x y a b,λa b=>.inl,λa b z=>z.imp id λz=>⟨hm,z.mem⟩,?_,?_⟩
  ·simp only[hm,true_and]
   exact B.add nx ny (fx hm) (fy hm)
  ·exact(hs.mono λa b=>Or.inl).res hp hx (h.pairs.mono λa b=>Or.inr)
 induction o with
 |add h k e V=>exact new rfl (Sim.trans (Sim.symm hx) hy)
 |remove h k=>cases hx;cases hy;exact new rfl (.atom .none)
 |replace0 V=>exact new rfl (Sim.trans (Sim.symm hx) hy)
 |replace h k V=>exact new rfl (Sim.trans (Sim.symm hx) hy)
 |move fh fk h k e =>
  refine⟨R,λx_ x_=>id,λx_ x_=>.inl,⟨B.fn,B.inj,λh=>.inl (B.dom h),λh=>.inl (B.ran h)⟩,hs.res hp hx ?_⟩
  obtain⟨w,hw,h'⟩:=hs.look (show Tactic.look (fh++[fk]) P=some x from hx)
  have hy':Tactic.look (fh++[fk]) W=some y:=hy
  rw[hw] at hy';cases hy';exact h'
 |copy f h k e =>
  obtain⟨z,hz,h1⟩:=hx
  obtain⟨w,hw,h2⟩:=hy
  obtain⟨w',hw',h3⟩:=hs.look hz
  rw[hw] at hw';cases hw'
  exact new rfl (h1.symm.trans (h3.top.trans h2))
 |test p V=>cases hx;cases hy;exact new rfl (.atom .none)
end
inductive Xy:Qh->Vl->Prop
 |name {x t:_}:Xy (.name x) (.str x t)
 |idx {i t:_}:Xy (.idx i) (.int (i:Nat) t)
inductive Zd:Qe->List Vl->Prop
 |nil:Zd [] []
 |cons {k v p vs:_}:Xy k v->Zd p vs->Zd (k::p) (v::vs)
theorem Zd.snoc {p:Qe}{k:Qh}(h:Zd p vs) (hk:Xy k v):Zd (p++[k]) (vs++[v]):=by
 induction h with
 |nil=>exact .cons hk .nil
 |cons h1 _ ih=>exact .cons h1 ih
theorem Zd.len {p:Qe}(h:Zd p vs):vs.length=p.length:=by
 induction h with
 |nil=>rfl
 |cons _ _ ih=>exact congrArg Nat.succ ih
theorem Zd.at {p:Qe}{k:Qh}(h:Zd p vs) (e:p[i]?=some k):∃v,vs[i]?=some v/\Xy k v:=by
 induction h generalizing i with
 |nil=>simp at e
 |cons h1 _ ih =>
  rcases i with _|i
  ·cases e;exact⟨_,rfl,h1⟩
  ·exact ih e
theorem Zd.take {p:Qe}(h:Zd p vs):Zd (p.take n) (vs.take n):=by
 induction h generalizing n with
 |nil=>rw[List.take_nil,List.take_nil];exact .nil
 |cons h1 _ ih =>
  rcases n with _|n
  ·exact .nil
  ·exact .cons h1 ih
def ExtBut (a:Ad) (oh oo:Own):Prop:=∀b o,b≠a->oh b=some o->oo b=some o
theorem ExtBut.refl:ExtBut a oh oh:=λx_ x_ x_ h=>h
theorem Ext.but {oh oo:Own}(h:Ext oh oo):ExtBut a oh oo:=λb o x_ e=>h b o e
theorem ExtBut.trans {o1 o2 o3:Own}(h:ExtBut a o1 o2) (h':ExtBut a o2 o3):ExtBut a o1 o3:=λb o hb e=>h' b o hb (h b o hb e)
theorem ExtBut.put:ExtBut a oh (oh.put a o):=λb ob hb e=>by rw[Qi hb];exact e
structure Doc (c:Cx) (oh:Own) (X:J):Prop where
 ok:Ok c oh X
 nd:X.addrs.Nodup
theorem Doc.ext {oh oo:Own}{X:J}(h:Doc c oh X) (x:Ext oh oo):Doc c oo X:=⟨h.ok.ext x,h.nd⟩
theorem Doc.look {X x:J}{p:Qe}(h:Doc c oh X) (e:Tactic.look p X=some x):Doc c oh x:=⟨Z7 e h.ok,QaN e h.nd⟩
theorem Z1:∀ {oj:LJ}{n:Str},valueAt (Q2 oj) n=(Qj oj n).map J.val
 | [],n=>rfl
 |(m,x)::r,n=>by
  have ih:=Z1 (oj:=r) (n:=n)
  unfold valueAt at ih ⊢
  rw[show Q2 ((m,x)::r)=(m,x.val)::Q2 r from rfl,List.find?_cons,Qj]
  by_cases e:m=n
  ·simp[e]
  ·rw[if_neg e,<- ih];simp[e]
theorem QaY:(Q3 oj)[i]?=(Qx oj i).map J.val:=by
 rw[XQ,gm_,Option.map_map];rfl
theorem Qi6 {n:Str}:((Q2 oj).any λkv=>decide (kv.1=n))=(Qj oj n).isSome:=by
 induction oj with
 |nil=>rfl
 |cons p r ih =>
  obtain⟨m,x⟩:=p
  rw[show Q2 ((m,x)::r)=(m,x.val)::Q2 r from rfl,List.any_cons,ih,Qj]
  by_cases e:m=n
  ·simp[e]
  ·simp[e]
theorem Qmv {n:Str}{x:J}(hn:(oj.map (·.1)).Nodup):((Q2 oj).map λkv=>if kv.1=n then (kv.1,x.val) else kv)=Q2 (Ze oj n x):=by
 induction oj with
 |nil=>rfl
 |cons p r ih =>
  obtain⟨m,y⟩:=p
  rw[List.map_cons,nc_] at hn
  rw[Ze,show Q2 ((m,y)::r)=(m,y.val)::Q2 r from rfl,List.map_cons]
  by_cases e:m=n
  ·subst e
   rw[if_pos rfl,if_pos rfl]
   show _=(m,x.val)::Q2 r
   congr 1
   rw[List.map_map]
   refine List.map_congr_left λq hq=>?_
   simp only[Function.comp]
   rw[if_neg]
   rintro rfl
   exact hn.1 (List.mem_map.mpr ⟨q,hq,rfl⟩)
  ·rw[if_neg e,if_neg e,ih hn.2];rfl
theorem QaX {n:Str}{x:J}(hn:(oj.map (·.1)).Nodup):stored (Q2 oj) n x.val=Q2 (Qp oj (.name n) x):=by
 unfold stored
 show _=Q2 (if (Qj oj n).isSome then Ze oj n x else oj++[(n,x)])
 rw[Qi6]
 by_cases e:(Qj oj n).isSome=true
 ·rw[if_pos e,if_pos e];exact Qmv hn
 ·rw[if_neg e,if_neg e];simp[Q2]
theorem Qcl {n:Str}:without (Q2 oj) n=Q2 (Xr oj n):=by
 unfold without Xr
 rw[List.filter_map];rfl
theorem qi:∀ {oj:LJ}{i:Nat}{x:J},i<=oj.length->Q3 (ZK oj i x)=(Q3 oj).take i++x.val::(Q3 oj).drop i
 |oj,0,x,_=>by unfold ZK;rfl
 |p::r,i+1,x,h=>by
  show p.2.val::Q3 (ZK r i x)=_
  rw[qi (by simpa using h)];rfl
theorem Qck:∀ {oj:LJ}{i:Nat}{x:J},Q3 (X7 oj i x)=(Q3 oj).set i x.val
 | [],_,_=>rfl
 |p::r,0,x=>rfl
 |p::r,i+1,x=>by
  show p.2.val::Q3 (X7 r i x)=_
  rw[Qck];rfl
theorem Qcj:(Q3 oj).eraseIdx i=Q3 (oj.eraseIdx i):=by
 induction oj generalizing i with
 |nil=>rfl
 |cons p r ih=>induction i with
  |zero=>rfl
  |succ i=>exact congrArg _ ih
def Fit (x:J) (oj af:LJ):Prop:=af.Sublist oj\/∃l n r,af=l++(n,x)::r/\(l++r).Sublist oj
theorem Qd7:∀ {oj:LJ}{i:Nat}{x:J},∃l r,ZK oj i x=l++(qe,x)::r/\(l++r).Sublist oj
 |oj,0,x=>⟨[],oj,by unfold ZK;rfl,List.Sublist.refl _⟩
 | [],i+1,x=>⟨[],[],rfl,List.Sublist.refl _⟩
 |p::r,i+1,x=>by
  obtain⟨l,q,h1,h2⟩:=Qd7 (oj:=r) (i:=i) (x:=x)
  exact⟨p::l,q,by rw[ZK,h1];rfl,h2.cons_cons p⟩
theorem Qnp {n:Str}{x y:J}(h:Qj oj n=some y):∃l r,Ze oj n x=l++(n,x)::r/\(l++r).Sublist oj:=by
 obtain⟨l,r,h1,h2,_⟩:=QbD h
 exact⟨l,r,h2 x,by rw[h1];exact List.Sublist.append (List.Sublist.refl _) (List.sublist_cons_self _ _)⟩
theorem ZF {k:Qh}{x:J}:Fit x oj (Qp oj k x):=by
 refine .inr ?_
 induction k with
 |idx i=>obtain⟨l,r,h1,h2⟩:=Qd7 (oj:=oj) (i:=i) (x:=x);exact⟨l,_,r,h1,h2⟩
 |name n =>
  show ∃l m r,(if (Qj oj n).isSome then Ze oj n x else oj++[(n,x)])=l++(m,x)::r/\_
  cases h:Qj oj n with
  |some y=>obtain⟨l,r,h1,h2⟩:=Qnp (x:=x) h;exact⟨l,_,r,h1,h2⟩
  |none=>exact⟨oj,n,[],rfl,by simp⟩
theorem Xs {k:Qh}:Fit (.atom .none) oj (Qo oj k):=by
 refine .inl ?_
 induction k with
 |idx i=>exact List.eraseIdx_sublist ..
 |name n=>exact List.filter_sublist
theorem QaU {k:Qh}{x y:J}(h:Qw d oj k=some y):Fit x oj (Zh oj k x):=by
 obtain⟨l,n,r,h1,h2,_⟩:=XR h
 exact .inr ⟨l,n,r,h2 x,by rw[h1];exact List.Sublist.append (List.Sublist.refl _) (List.sublist_cons_self _ _)⟩
theorem qD {l r:LJ}(h:l.Sublist r):(J.aa l).Sublist (J.aa r):=by
 induction h with
 |slnil=>exact List.Sublist.refl _
 |cons p h ih=>obtain⟨n,x⟩:=p;rw[J.aa];exact ih.trans (List.sublist_append_right ..)
 |cons_cons p h ih=>obtain⟨n,x⟩:=p;rw[J.aa,J.aa];exact List.Sublist.append (List.Sublist.refl _) ih
theorem qS {l r:LJ}(h:l.Sublist r):J.ab l<=J.ab r:=by
 induction h with
 |slnil=>exact Nat.le_refl _
 |cons p h ih=>obtain⟨n,x⟩:=p;rw[J.ab];omega
 |cons_cons p h ih=>obtain⟨n,x⟩:=p;rw[J.ab,J.ab];omega
section
variable {x:J}{oj af:LJ}{f:List (Str × J)->List (Str × J)}{X:J}{p:Qe}{a:Ad}{d:Bool}{oh oo:Own}
theorem Fit.size (h:Fit x oj af):J.ab af<=J.ab oj+x.size:=by
 rcases h with h|⟨l,n,r,rfl,h⟩
 ·have:=qS h;omega
 ·have:=qS h
  rw[J.ao] at this
  rw[J.ao,J.ab];omega
theorem Fit.addrs (h:Fit x oj af) {b:Ad}(hb:b∈J.aa af):b∈J.aa oj\/b∈x.addrs:=by
 rcases h with h|⟨l,n,r,rfl,h⟩
 ·exact .inl ((qD h).subset hb)
 ·have:=(qD h).subset (a:=b)
  rw[J.ah,J.aa] at *
  simp only[ma_] at *
  rcases hb with hb|hb|hb
  ·exact .inl (this (.inl hb))
  ·exact .inr hb
  ·exact .inl (this (.inr hb))
theorem Fit.nodup (h:Fit x oj af) (hn:(J.aa oj).Nodup) (hx:x.addrs.Nodup) (hd:∀b∈x.addrs,b∉J.aa oj):(J.aa af).Nodup:=by
 rcases h with h|⟨l,n,r,rfl,h⟩
 ·exact(qD h).nodup hn
 ·have h1:=(qD h).nodup hn
  have h2:=(qD h).subset
  rw[J.ah,J.aa] at *
  rw[List.nodup_append] at h1 ⊢
  rw[List.nodup_append]
  refine⟨h1.1,⟨hx,h1.2.1,λb hb b' hb' e=>hd b hb (h2 (mr_ _ (e▸hb')))⟩,λb hb b' hb' e=>?_⟩
  rcases ma_.mp hb' with hb' | hb'
  ·exact hd b' hb' (h2 (ml_ _ (e▸hb)))
  ·exact h1.2.2 b hb b' hb' e
theorem Fit.kids (h:Fit x oj af) {q:Str × J}(hq:q∈af):q∈oj\/q.2=x:=by
 rcases h with h|⟨l,n,r,rfl,h⟩
 ·exact .inl (h.subset hq)
 ·rcases ma_.mp hq with hq|hq
  ·exact .inl (h.subset (ml_ _ hq))
  ·rcases mc_.mp hq with rfl|hq
   ·exact .inr rfl
   ·exact .inl (h.subset (mr_ _ hq))
theorem Doc.mod (D:Doc c oh X) (h:Tactic.look p X=some (.node a d oj)) (hf:Fit x oj (f oj)) (hx:Ok c oo x) (hn:x.addrs.Nodup) (hd:∀b∈x.addrs,b∉X.addrs) (ha:Q8 c oo a d (f oj)) (hE:ExtBut a oh oo):Doc c oo (Qg f p X):=by
 have bn:=(D.look h).ok
 have hnd:=(D.look h).nd
 have aG:∀b∈J.aa oj,b∈X.addrs:=λb hb=>Zb h b (J.mL hb)
 rw[J.addrs,nc_] at hnd
 refine⟨QbY D.ok D.nd h ⟨bn.ae.base,ha⟩ (λq hq=>?_) λb hb hne o e=>hE b o hne e,QaO D.nd h (hf.nodup hnd.2 hn λb hb hb'=>hd b hb (aG b hb')) λb hb=>(hf.addrs hb).imp id (hd b)⟩
 rcases hf.kids hq with hq|e
 ·refine(bn.kid hq).on λb hb o e=>hE b o ?_ e
  rintro rfl
  exact hnd.1 (J.ad hq hb)
 ·rw[e];exact hx
theorem XT (h:Tactic.look p X=some (.node a d oj)) (hf:Fit x oj (f oj)):(Qg f p X).size<=X.size+x.size:=by
 have:=QbZ (f:=f) h
 have:=hf.size
 omega
theorem Xe (D:Doc c oh X) (h:Tactic.look p X=some (.node a d oj)) (hf:Fit x oj (f oj)) {b:Ad}(hb:b∈(Qg f p X).addrs):b∈X.addrs\/b∈x.addrs:=by
 have aG:∀b∈J.aa oj,b∈X.addrs:=λb hb=>Zb h b (J.mL hb)
 rcases qO D.nd h hb with z|z
 ·exact .inl z.1
 ·exact(hf.addrs z).imp (aG b) id
theorem QdJ {k:Qh}{z:J}(D:Doc c oh X) (hz:Tactic.look (p++[k]) X=some z) {b:Ad}(hb:b∈z.addrs):b∉(Qg (Qo · k) p X).addrs:=by
 obtain⟨a,d,oj,h1,h2⟩:=ZM hz
 intro hm
 have hnd:=(D.look h1).nd
 rw[J.addrs,nc_] at hnd
 rcases qO D.nd h1 hm with ⟨_,q⟩|q
 ·obtain⟨n,hm⟩:=Xc h2
  exact q (J.ad hm hb)
 ·obtain⟨l,n,r,hat⟩:=XR h2
  obtain⟨q',hq',hbq⟩:=J.aE q
  have hn2:=hnd.2
  rw[hat.eq,J.ah,J.aa,List.nodup_append,List.nodup_append] at hn2
  obtain⟨_,⟨_,_,h5⟩,h6⟩:=hn2
  have hin:q'∈l++r:=hat.del.subset hq'
  rcases ma_.mp hin with hq' | hq'
  ·exact h6 b (J.ad hq' hbq) b (ml_ _ hb) rfl
  ·exact h5 b hb b (J.ad hq' hbq) rfl
end
theorem Qd (h:n<=1000):n<=sizeLine:=Nat.le_trans h (by decide)
section
theorem A_4 {e f g h':Expr}{k:KL_}(h:W c N ou m oh (eval e ou) λv m o=>W c N ou m o (eval f ou) λu m o=>W c N ou m o (eval g ou) λx m o=>W c N ou m o (eval h' ou) λy m o=>k [v,u,x,y] m o):Zm c N ou [e,f,g,h'] [] k m oh:=h
theorem A_6 {e1 e2 e3 e4 e5 e6:Expr}{k:KL_}(h:W c N ou m oh (eval e1 ou) λv1 m o=>W c N ou m o (eval e2 ou) λv2 m o=>W c N ou m o (eval e3 ou) λv3 m o=>W c N ou m o (eval e4 ou) λv4 m o=>W c N ou m o (eval e5 ou) λv5 m o=>W c N ou m o (eval e6 ou) λv6 m o=>k [v1,v2,v3,v4,v5,v6] m o):Zm c N ou [e1,e2,e3,e4,e5,e6] [] k m oh:=h
theorem A_8 {e1 e2 e3 e4 e5 e6 e7 e8:Expr}{k:KL_}(h:W c N ou m oh (eval e1 ou) λv1 m o=>W c N ou m o (eval e2 ou) λv2 m o=>W c N ou m o (eval e3 ou) λv3 m o=>W c N ou m o (eval e4 ou) λv4 m o=>W c N ou m o (eval e5 ou) λv5 m o=>W c N ou m o (eval e6 ou) λv6 m o=>W c N ou m o (eval e7 ou) λv7 m o=>W c N ou m o (eval e8 ou) λv8 m o=>k [v1,v2,v3,v4,v5,v6,v7,v8] m o) :
  Zm c N ou [e1,e2,e3,e4,e5,e6,e7,e8] [] k m oh:=h
end
theorem New.back {oh oo:Own}{D:Ad}(x:Ext oh oo) (h:New c oo D):New c oh D:=⟨x.none h.own,h.base⟩
theorem New.ne {D b:Ad}(h:New c oh D) (e:oh b=some o):D≠b:=by rintro rfl;cases (h.own),e
theorem New.ne' {D b:Ad}(h:New c oh D) (e:oh b=some o):b≠D:=λz=>h.ne e z.symm
theorem Qo2 {a b:Ad}{o o':Obj}(h:New c oh a) (k:oh b=some o'):oh.put a o b=some o':=QE h.own k
theorem Ext.putRN {oh oo:Own}(x:Ext oh oo) (h:New c oo a):Ext oh (oo.put a o):=x.ai h.own
theorem Ok.lst (hb:c.H.get? a=none) (h:oh a=some (Tactic.lst xs n)) (hk:∀p∈oj,Ok c oh p.2) (hx:xs=Q3 oj:=by rfl):Ok c oh (.node a false oj):=.node ⟨hb,n,by subst hx;exact h⟩ hk
theorem Ok.dct {xs:LV}(hb:c.H.get? a=none) (h:oh a=some o) (hd:IsD c o xs) (hk:∀p∈oj,Ok c oh p.2) (hx:xs=Q2 oj:=by rfl):Ok c oh (.node a true oj):=.node ⟨hb,o,h,by subst hx;exact hd⟩ hk
inductive XM:Nat->J->Prop
 |s0 {a:_}:XM 0 (.node a false [])
 |s1 {a b t u x y z:_}:XM 1 (.node a false [(x,.atom (.int 1 t)),(y,.node b false [(z,.atom (.int 2 u))])])
 |s2 {a b:_}:XM 2 (.node a true [(zz "a",.node b true [])])
 |s3 {a:_}:XM 3 (.node a true [(zz "0",.atom (.bool true))])
theorem Qf0 {k:KO}(hk:∀D xs,New c oh D->xs.length=8->(∀v∈xs,ZA v)->k (.ref D) (oh.put D (lst xs 0))):CW c (N+1) oh (call (.ref 1283) [] []) k:=by
 refine Qkm λou kf=>?_
 refine Qm ?_
 left
 refine⟨Qd (by simp),λD hD=>?_⟩
 left
 refine hk D _ hD rfl λv hv=>?_
 simp only[mc_,nn_,or_false] at hv
 rcases hv with rfl|rfl|rfl|rfl|rfl|rfl|rfl|rfl<;>constructor
section
theorem Xz {i:Int}{se:Expr}(h:oh a=some (lst xs n)) (h0:0<=i) (hv:xs[i.toNat]?=some v) (hi:i < 2 ^ 60) (hk:k v m oh)
  (hs:subscripted se false (.ref a) (.int i t)=operate [.ref a,.int i t] (getItem (.ref a) (.int i t)):=by rfl) :
  W c N ou m oh (getitemInPython (.ref a)) λb m w=>W c N ou m w (subscripted se b (.ref a) (.int i t)) k:=by
 obtain⟨j,rfl⟩:=Int.eq_ofNat_of_zero_le h0
 exact Qao h (by simpa using hv) (by omega) hk hs
theorem QcT {n:Str}{e:Expr}{z:Nat}{q p:Pos}(h:W c N ou m oh (eval e ou) λv m o=>∀D Do,New c o D->IsD c Do [(n,v)]->k (.ref D) m (o.put D Do)) :
  W c N ou m oh (eval (.Dict [some (.Constant (.str n) z q)] [e] p) ou) k:=by
 refine QcR (pairs:=[(eval (.Constant (.str n) z q) ou,do let x <- eval e ou;standAt p;pure x)]) rfl (by simp) (by simp) ?_
 refine Qbq (Qbz λt=>Qc (Qk h λv m o h=>Qc (Q1 (Qs (Qc1 ?_)))))
 exact⟨[(n,v)],⟨strKind_is _ _ n t,rfl,trivial⟩,λD Do hD hd=>h D Do hD hd⟩
theorem Qak {n1 n2:Str}{e1 e2:Expr}{z1 z2:Nat}{q1 q2 p:Pos}(hn:n1≠n2) (h:W c N ou m oh (eval e1 ou) λv m o=>W c N ou m o (eval e2 ou) λu m o=>∀D Do,New c o D->IsD c Do [(n1,v),(n2,u)]->k (.ref D) m (o.put D Do)) :
  W c N ou m oh (eval (.Dict [some (.Constant (.str n1) z1 q1),some (.Constant (.str n2) z2 q2)] [e1,e2] p) ou) k:=by
 refine QcR (pairs:=[(eval (.Constant (.str n1) z1 q1) ou,do let x <- eval e1 ou;standAt p;pure x),(eval (.Constant (.str n2) z2 q2) ou,do let x <- eval e2 ou;standAt p;pure x)]) rfl (by simp) (by simp) ?_
 refine Qbq (Qbz λt=>Qc (Qk h λv m o h=>Qc (Q1 (Qs ?_))))
 refine Qbq (Qbz λt'=>Qc (Qk h λu m o h=>Qc (Q1 (Qs (Qc1 ?_)))))
 refine⟨[(n1,v),(n2,u)],⟨strKind_is _ _ n1 t,rfl,strKind_is _ _ n2 t',rfl,trivial⟩,λD Do hD hd=>h D Do hD ?_⟩
 have e:merged [] [(n1,v),(n2,u)]=[(n1,v),(n2,u)]:=by
  simp[merged,stored,hn]
 rw[e] at hd;exact hd
theorem Ym {i:Int}{j:Nat}(hj:0 < j):0<=i.fmod j:=Int.fmod_nonneg_of_pos _ (by omega)
theorem Yl {i:Int}{j:Nat}(hj:0 < j):i.fmod j < j:=Int.fmod_lt_of_pos _ (by omega)
end
theorem YU {i:Int}{k:KO}(hk:∀j oo,XM (i.fmod 4).toNat j->Ok c oo j->Ext oh oo->Z3 oh j->k j.val oo):CW c (N+1) oh (call (.ref 1303) [.int i t] []) k:=by
 refine Qkq λou kf=>?_
 refine Qm ?_
 left
 refine⟨Qd (by simp),λD0 hD0=>?_⟩
 walk_at "w1"
 walk_at "w1"
 refine Yd λt1=>?_
 walk_at "w1"
 walk_at "w1"
 refine Yd λt2=>?_
 refine⟨Qd (by simp),λD1 hD1=>?_⟩
 left
 refine⟨Qd (by simp),λD2 hD2=>?_⟩
 left
 refine QcT ?_
 refine Qbi λD3 o3 hD3 hd3=>?_
 intro D4 o4 hD4 hd4
 refine QcT ?_
 left
 intro D5 o5 hD5 hd5
 refine⟨Qd (by simp),λD6 hD6=>?_⟩
 left
 refine Xp (by decide) λu=>?_
 have h0:0<=i.fmod 4:=Ym (i:=i) (j:=4) (by decide)
 have h4:i.fmod 4 < 4:=Yl (i:=i) (j:=4) (by decide)
 have hc:(i.fmod 4).toNat=0\/(i.fmod 4).toNat=1\/(i.fmod 4).toNat=2\/(i.fmod 4).toNat=3:=lt4 fm4
 have hi:i.fmod 4 < 2 ^ 60:=by omega
 have n1:New c oh D1:=hD1.back (by walk_at "ext")
 have n2:New c oh D2:=hD2.back (by walk_at "ext")
 have n3:New c oh D3:=hD3.back (by walk_at "ext")
 have n4:New c oh D4:=hD4.back (by walk_at "ext")
 have n5:New c oh D5:=hD5.back (by walk_at "ext")
 rcases hc with e|e|e|e
 ·refine Xz (by walk_at "own") h0 (by rw[e];rfl) hi ?_
  left
  refine hk (.node D0 false []) _ (by rw[e];exact .s0) (Ok.lst hD0.base (by walk_at "own") fa0) (by walk_at "ext") ⟨fa1 rfl hD0.own,nd1 rfl⟩
 ·refine Xz (by walk_at "own") h0 (by rw[e];rfl) hi ?_
  left
  refine hk (.node D2 false [(qe,.atom (.int 1 t1)),(qe,.node D1 false [(qe,.atom (.int 2 t2))])]) _ (by rw[e];exact .s1) (Ok.lst n2.base (by walk_at "own") ?_) (by walk_at "ext") ⟨?_,?_⟩
  ·exact fa2 rfl (.atom .int) (Ok.lst n1.base (by walk_at "own") (fa1 rfl (.atom .int)))
  ·exact fa2 rfl n2.own n1.own
  ·exact nd2 rfl (hD2.ne (Qa ..))
 ·refine Xz (by walk_at "own") h0 (by rw[e];rfl) hi ?_
  left
  refine hk (.node D4 true [(zz "a",.node D3 true [])]) _ (by rw[e];exact .s2) (Ok.dct n4.base (by walk_at "own") hd4 ?_) (by walk_at "ext") ⟨?_,?_⟩
  ·exact fa1 rfl (Ok.dct n3.base (by walk_at "own") hd3 fa0)
  ·exact fa2 rfl n4.own n3.own
  ·exact nd2 rfl (hD4.ne (Qa ..))
 ·refine Xz (by walk_at "own") h0 (by rw[e];rfl) hi ?_
  left
  refine hk (.node D5 true [(zz "0",.atom (.bool true))]) _ (by rw[e];exact .s3) (Ok.dct n5.base (by walk_at "own") hd5 ?_) (by walk_at "ext") ⟨?_,?_⟩
  ·exact fa1 rfl (.atom .bool)
  ·exact fa1 rfl n5.own
  ·exact nd1 rfl
structure Upd (oh oo:Own) (S:List Ad):Prop where
 keep:∀b o,b∉S->oh b=some o->oo b=some o
 cls:∀b o,oh b=some o->∃o',oo b=some o'/\o'.cls=o.cls
theorem Upd.live {oh oo:Own}{S:List Ad}(h:Upd oh oo S):∀b,(oh b).isSome=true->(oo b).isSome=true:=λb e=>by
 obtain⟨o,ho⟩:=is_.mp e
 obtain⟨o',ho',_⟩:=h.cls b o ho
 rw[ho'];rfl
theorem Upd.none {oh oo:Own}{S:List Ad}(h:Upd oh oo S) {b:Ad}(e:oo b=none):oh b=none:=by
 cases q:oh b with
 |none=>rfl
 |some o=>obtain⟨o',h',_⟩:=h.cls b o q;rw[e] at h';cases h'
theorem Ext.upd {oh oo:Own}{S:List Ad}(x:Ext oh oo):Upd oh oo S:=⟨λb o x_ e=>x b o e,λb o e=>⟨o,x b o e,rfl⟩⟩
theorem Upd.refl {S:List Ad}:Upd oh oh S:=Ext.refl.upd
theorem Upd.trans {o1 o2 o3:Own}{S S':List Ad}(h:Upd o1 o2 S) (h':Upd o2 o3 S') (hs:∀b∈S',b∈S\/o1 b=Option.none):Upd o1 o3 S :=
 ⟨λb o hb e=>h'.keep b o (λhb'=>(hs b hb').elim hb λz=>by cases z,e) (h.keep b o hb e),λb o e=>let ⟨o',e1,e2⟩:=h.cls b o e;let ⟨o'',e3,e4⟩:=h'.cls b o' e1;⟨o'',e3,e4.trans e2⟩⟩
theorem Upd.put {oh oo:Own}{S:List Ad}(h:Upd oh oo S) (ha:a∈S\/oh a=Option.none) (hc:∀o0,oo a=some o0->o.cls=o0.cls):Upd oh (oo.put a o) S:=by
 refine⟨λb ob hb e=>?_,λb ob e=>?_⟩
 ·rw[Qi]
  ·exact h.keep b ob hb e
  ·rintro rfl;exact ha.elim hb λz=>by cases z,e
 ·obtain⟨o',e1,e2⟩:=h.cls b ob e
  by_cases hb:b=a
  ·subst hb;exact⟨o,Qa ..,(hc _ e1).trans e2⟩
  ·exact⟨o',by rw[Qi hb];exact e1,e2⟩
theorem Q8.cls (h:Q8 c oh a d oj) (e:oh a=some o):o.cls = .type (if d then "dict" else "list"):=by
 induction d with
 |true=>obtain⟨o',h1,es,ep,h2,_⟩:=h;cases e,h1;exact h2.1
 |false=>obtain⟨n,h1⟩:=h;cases e,h1;rfl
theorem Q8.aJ {o:Own}{oj af:LJ}{ob:Obj}(h:Q8 c (o.put a ob) a d af) (h0:Q8 c o a d oj):∀o0,o a=some o0->ob.cls=o0.cls:=λo0 e=>(h.cls (Qa ..)).trans (h0.cls e).symm
theorem Upd.ok {oh oo:Own}{S:List Ad}{X:J}(h:Upd oh oo S) (hX:Ok c oh X) (hd:∀b∈X.addrs,b∉S):Ok c oo X:=hX.on λb hb o e=>h.keep b o (hd b hb) e
theorem Upd.doc {oh oo:Own}{S:List Ad}{X:J}(h:Upd oh oo S) (hX:Doc c oh X) (hd:∀b∈X.addrs,b∉S):Doc c oo X:=⟨h.ok hX.ok hd,hX.nd⟩
theorem Zd.split {h:Qe}{k:Qh}(H:Zd (h++[k]) vs):∃hv kv,vs=hv++[kv]/\Zd h hv/\Xy k kv:=by
 induction h generalizing vs with
 |nil =>
  generalize hp:([]++[k]:Qe)=p at H
  induction H with
  |nil=>cases hp
  |cons h1 h2 _ =>
   injection hp with e1 e2
   subst e1
   induction h2 with
   |nil=>exact⟨[],_,rfl,.nil,h1⟩
   |cons _ _ _=>cases e2
 |cons s h ih =>
  generalize hp:(s::h++[k]:Qe)=p at H
  induction H with
  |nil=>cases hp
  |cons h1 h2 _ =>
   injection hp with e1 e2
   subst e1 e2
   obtain⟨hv,kv,rfl,h3,h4⟩:=ih h2
   exact⟨_::hv,kv,rfl,.cons h1 h3,h4⟩
section
theorem Ye {i:Int}{z:Nat}{p q:Pos}(hk:∀t,k (.int (-i) t) m oh):W c N ou m oh (eval (.UnaryOp .USub (.Constant (.int i) z p) q) ou) k :=
 Xh (f:=λt=>.int (-i) t) (λA s fr Q hA S P hQ=>UnaryOp_ (wpAny_Constant_int (PyProof.Rows.neg_int (hQ _ _)))) hk
theorem Qdq {e:Expr}{k:KF_}(h:W c N ou m oh (eval e ou) λv m o=>k .next m o) (hs:swapsWith e none p.line ou=pure false:=by rfl):W c N ou m oh (exec (.Expr e p) ou) k :=
 λA s fr Q hA S P hQ=>Qhj h (by unfold interactive;rw[S.fm.kf];rfl) hs A s fr Q hA S P hQ
theorem Zq {name:Str}{id:String}{k:Vl->List Vl->Loc->Own->Prop}(slot:Slot "list" name id) (hty:typeOf (.builtin id)=pure (.type "method_descriptor")) (h:oh a=some (lst xs n))
  (hk:k (.builtin id) [.ref a] m oh):ZB c N ou m oh (.ref a) name k:=qp F.plainAttrs_list slot hty (ZY h) rfl rfl hk
theorem Qf9 {oj:LV}{name:Str}{id:String}{k:Vl->List Vl->Loc->Own->Prop}(slot:Slot "dict" name id) (hty:typeOf (.builtin id)=pure (.type "method_descriptor")) (h:oh a=some o) (hd:IsD c o oj)
  (hk:k (.builtin id) [.ref a] m oh):ZB c N ou m oh (.ref a) name k:=qp F.plainAttrs_dict slot hty (ZY h) (by obtain⟨_,_,h2,_⟩:=hd;exact h2.1) (by obtain⟨_,_,h2,_⟩:=hd;exact h2.2.1) hk
set_option tactic.hygienic true in
theorem Y3 {k:Qh}{x:J}{se:Expr}{q:KV}(h:Ok c oh (.node a d oj)) (hz:(J.node a d oj).size<=1000) (hv:Xy k v) (hx:Qw d oj k=some x) (hq:q x.val m oh)
  (h1:∀x t,subscripted se false (.ref a) (.str x t)=operate [.ref a,.str x t] (getItem (.ref a) (.str x t)):=by intro _ _;rfl)
  (h2:∀i t,subscripted se false (.ref a) (.int i t)=operate [.ref a,.int i t] (getItem (.ref a) (.int i t)):=by intro _ _;rfl) :
  W c N ou m oh (getitemInPython (.ref a)) λb m w=>W c N ou m w (subscripted se b (.ref a) v) q:=by
 have hn:=h.ae
 induction d<;>induction hv
 ·cases hx
 ·rename_i i t
  obtain⟨n,ho⟩:=hn.obj
  have hx':Qx oj i=some x:=hx
  have hi:i < oj.length:=by
   have:=YD (oj:=oj) (i:=i)
   rw[hx'] at this;simpa using this.symm
  have hl:=J.length_le (oj:=oj)
  rw[J.size] at hz
  exact Qao ho (v:=x.val) (by show (Q3 oj)[i]?=_;rw[QaY,hx'];rfl) (by omega) hq (h2 _ _)
 ·rename_i n t
  obtain⟨o,ho,hd⟩:=hn.obj
  have hx':Qj oj n=some x:=hx
  exact Zs ho hd (v:=x.val) (by show valueAt (Q2 oj) n=_;rw[Z1,hx'];rfl) hq (h1 _ _)
 ·cases hx
end
theorem QdH {α:Type}{xs:List α}{x:α}:(xs++[x]).take (Yj (xs++[x]).length (-1))=xs:=by
 have:Yj (xs++[x]).length (-1)=xs.length:=by unfold Yj;simp<;>omega
 rw[this,List.take_left]
theorem QbU {p:Qe}{X x:J}(h:look p X=some x) {k:Qh}(hk:p[i]?=some k):∃a d oj y,look (p.take i) X=some (.node a d oj)/\Qw d oj k=some y/\look (p.take (i+1)) X=some y:=by
 have hi:i < p.length:=(ge_.mp hk).1
 have e:p.take (i+1)=p.take i++[k]:=by rw[List.take_add_one,hk];rfl
 have h':look (p.take (i+1)++p.drop (i+1)) X=some x:=by rw[List.take_append_drop];exact h
 rw[QaM] at h'
 obtain⟨y,hy,_⟩:=bs_.mp h'
 rw[e] at hy
 obtain⟨a,d,oj,h1,h2⟩:=ZM hy
 exact⟨a,d,oj,y,h1,h2,by rw[e];exact hy⟩
abbrev QW (o1:Own) (h:Qe) (P:J) (T:Ad) (i:Nat) (m:Loc) (o:Own):Prop:=(∃X,look (h.take i) P=some X/\m "doc"=some X.val)/\m "path"=some (.ref T)/\o=o1
theorem Qa2 {P x:J}{h:Qe}{s:Qh}{T:Ad}{k:KO}(D:Doc c oh P) (hz:P.size<=1000) (hT:oh T=some (tup vs)) (hw:Zd (h++[s]) vs)
  (hx:look (h++[s]) P=some x) (hk:∀o',Doc c o' (Qg (Qo · s) h P)->Ok c o' x->Upd oh o' P.addrs->k x.val o'):CW c (N+1) oh (call (.ref 1317) [P.val,.ref T] []) k:=by
 refine Qkn λou kf=>?_
 obtain⟨hv,kv,rfl,hv1,hv2⟩:=hw.split
 obtain⟨a,d,oj,hl,hg⟩:=ZM hx
 have hlen:=hv1.len
 have hll:=YH hl
 refine Qm ?_
 refine X0 ?_
 left
 refine Yi (Y7 (XA (Ye λt=>?_)))
 intro sl hsl
 refine QbA (xs:=hv++[kv]) (by walk_at "own") (Qa ..) (Qd (by simp<;>omega)) λD1 o1 hx1 hD1=>?_
 rw[QdH] at hD1
 replace hx1:Ext oh o1:=Ext.trans (Ext.put hsl.own) hx1
 have D':=D.ext hx1
 refine⟨_,_,_,(QW o1 h P T),qu hD1,⟨⟨P,rfl,rfl⟩,rfl,rfl⟩,λi m o J q hq=>?_,λi v m o hi hP J=>?_,λm o J=>?_⟩
 ·rw[ms_.mp hq,J.2.2];exact hD1
 ·obtain⟨⟨X,hX,hm⟩,hp,rfl⟩:=J
  have hki:∃s',h[i]?=some s':=⟨h[i]'(by omega),List.getElem?_eq_getElem _⟩
  obtain⟨s',hs'⟩:=hki
  obtain⟨v',hv',sv⟩:=hv1.at hs'
  replace hP:hv[i]?=some v:=hP;cases hv',hP
  obtain⟨a',d',af,y,l1,l2,l3⟩:=QbU hl hs'
  cases hX,l1
  refine Zv kf rfl ?_
  left
  refine Y3 (D'.look hX).ok (Nat.le_trans (ZL hX) hz) sv l2 ?_
  refine ZV ?_
  exact⟨⟨y,l3,Zf ..⟩,by nofun,rfl⟩
 ·obtain⟨⟨X,hX,hm⟩,hp,rfl⟩:=J
  rw[List.take_of_length_le (by omega),hl] at hX;cases hX
  have Dn:=D'.look hl
  have hzn:=Nat.le_trans (ZL hl) hz
  have hll:=J.length_le (oj:=oj)
  have hnx:=(Dn.ok).ae
  have ha:a∈P.addrs:=Zb hl a J.m0
  have fin:∀o',Q8 c (o.put a o') a d (Qo oj s)->k x.val (o.put a o'):=λo' hn=>by
   refine hk _ (D'.mod (x:=.atom .none) hl Xs (.atom .none) List.nodup_nil (λb hb=>nomatch hb) hn ExtBut.put) ?_ (hx1.upd.put (.inl ha) (hn.aJ hnx.obj))
   refine(Z7 hx D'.ok).on λb hb ob e=>?_
   rw[Qi]
   ·exact e
   ·rintro rfl
    obtain⟨n,hm⟩:=Xc hg
    have:=Dn.nd
    rw[J.addrs,nc_] at this
    exact this.1 (J.ad hm hb)
  rw[J.size] at hzn
  left
  induction d with
  |false =>
   obtain⟨n,ho⟩:=hnx.obj
   induction s with|name n=>cases hg|idx i =>
   have hg':Qx oj i=some x:=hg
   refine Zq F.slot_list_pop F.type_list_pop ho ?_
   left
   refine Ye λt'=>?_
   refine Yx (hx1 _ _ hT) (j:=hv.length) (v:=kv) (by unfold seqIndex?;simp<;>omega) (by simp) (by decide) (by decide) ?_
   cases hv2
   left
   refine Qdg ho hnx.base (Qd (by omega)) (v:=x.val) (by show (Q3 oj)[i]?=_;rw[QaY,hg'];rfl) λn'=>?_
   left
   exact fin _ ⟨n',by rw[Qa];exact congrArg (λz=>some (lst z n')) Qcj⟩
  |true =>
   obtain⟨o',ho,hd⟩:=hnx.obj
   induction s with|idx i=>cases hg|name n =>
   have hg':Qj oj n=some x:=hg
   refine Qf9 F.slot_dict_pop F.type_dict_pop ho hd ?_
   left
   refine Ye λt'=>?_
   refine Yx (hx1 _ _ hT) (j:=hv.length) (v:=kv) (by unfold seqIndex?;simp<;>omega) (by simp) (by decide) (by decide) ?_
   cases hv2
   left
   refine Qg1 ho hd hnx.base (Qd (by omega)) (v:=x.val) (by show valueAt (Q2 oj) n=_;rw[Z1,hg'];rfl) λo'' hd''=>?_
   left
   exact fin _ ⟨o'',Qa ..,by have:=hd'';rw[Qcl] at this;exact this⟩
theorem Doc.put {o:Own}{P x:J}{h:Qe}{f:List (Str × J)->List (Str × J)}{o':Obj}(D:Doc c o P) (hl:Tactic.look h P=some (.node a d oj)) (hf:Fit x oj (f oj)) (hx:Doc c o x) (hd:∀b∈x.addrs,b∉P.addrs)
  (hn:Q8 c (o.put a o') a d (f oj)):Doc c (o.put a o') (Qg f h P):=by
 refine D.mod hl hf (hx.ok.on λb hb ob e=>?_) hx.nd hd hn ExtBut.put
 rw[Qi]
 ·exact e
 ·rintro rfl
  exact hd b hb (Zb hl b J.m0)
theorem Qf1 {u v:Vl}{T:Ad}{k:KO}(hT:oh T=some (tup [])) (hk:∀o',Ext oh o'->k v o'):CW c (N+1) oh (call (.ref 1324) [u,.ref T,v] []) k:=by
 refine QdO λou kf=>?_
 refine Qm ?_
 left
 refine⟨Qd (by simp),λD0 hD0=>?_⟩
 refine Qan (e:=λx_=>true) (xs:=[]) (ys:=[]) (by walk_at "own") (by walk_at "own") (λj x y h=>by simp at h) ?_
 left
 exact hk _ (by walk_at "ext")
abbrev QO (o1:Own) (h:Qe) (P x:J) (T:Ad) (i:Nat) (m:Loc) (o:Own):Prop:=(∃X,look (h.take i) P=some X/\m "inner"=some X.val)/\m "path"=some (.ref T)/\m "doc"=some P.val/\m "value"=some x.val/\o=o1
theorem Qaa {P x:J}{h:Qe}{s:Qh}{e:Bool}{T:Ad}{k:KO}(D:Doc c oh P) (hz:P.size<=1000) (hT:oh T=some (tup vs)) (hw:Zd (h++[s]) vs)
  (hi:ZC h s e P) (Dx:Doc c oh x) (hd:∀b∈x.addrs,b∉P.addrs) (hk:∀o',Doc c o' (Qg (Qp · s x) h P)->Upd oh o' P.addrs->k P.val o'):CW c (N+1) oh (call (.ref 1324) [P.val,.ref T,x.val] []) k:=by
 refine QdO λou kf=>?_
 obtain⟨hv,kv,rfl,hv1,hv2⟩:=hw.split
 obtain⟨a,d,oj,hl,hg⟩:=hi
 have hlen:=hv1.len
 have hll:=YH hl
 refine Qm ?_
 left
 refine⟨Qd (by simp),λD0 hD0=>?_⟩
 refine Qan (e:=λx_=>true) (xs:=hv++[kv]) (ys:=[]) (by walk_at "own") (by walk_at "own") (λj x y h h'=>by simp at h') ?_
 rw[show ((List.range (min (hv++[kv]).length ([]:List Vl).length)).all (λx_=>true)&&(hv++[kv]).length==([]:List Vl).length)=false by simp]
 left
 refine X0 ?_
 left
 refine Yi (Y7 (XA (Ye λt=>?_)))
 intro sl hsl
 refine QbA (xs:=hv++[kv]) (by walk_at "own") (Qa ..) (Qd (by simp<;>omega)) λD1 o1 hx1 hD1=>?_
 rw[QdH] at hD1
 replace hx1:Ext oh o1:=Ext.trans (by walk_at "ext") hx1
 have D':=D.ext hx1
 have Dx':=Dx.ext hx1
 refine⟨_,_,_,(QO o1 h P x T),qu hD1,⟨⟨P,rfl,rfl⟩,rfl,rfl,rfl,rfl⟩,λi m o J q hq=>?_,λi v m o hi hP J=>?_,λm o J=>?_⟩
 ·rw[ms_.mp hq,J.2.2.2.2];exact hD1
 ·obtain⟨⟨X,hX,hm⟩,hp,hp2,hp3,rfl⟩:=J
  have hki:∃s',h[i]?=some s':=⟨h[i]'(by omega),List.getElem?_eq_getElem _⟩
  obtain⟨s',hs'⟩:=hki
  obtain⟨v',hv',sv⟩:=hv1.at hs'
  replace hP:hv[i]?=some v:=hP;cases hv',hP
  obtain⟨a',d',af,y,l1,l2,l3⟩:=QbU hl hs'
  cases hX,l1
  refine Zv kf rfl ?_
  left
  refine Y3 (D'.look hX).ok (Nat.le_trans (ZL hX) hz) sv l2 ?_
  refine ZV ?_
  exact⟨⟨y,l3,Zf ..⟩,by nofun,by nofun,by nofun,rfl⟩
 ·obtain⟨⟨X,hX,hm⟩,hp,hp2,hp3,rfl⟩:=J
  rw[List.take_of_length_le (by omega),hl] at hX;cases hX
  have Dn:=D'.look hl
  have hzn:=Nat.le_trans (ZL hl) hz
  have hll:=J.length_le (oj:=oj)
  have hnx:=(Dn.ok).ae
  have ha:a∈P.addrs:=Zb hl a J.m0
  have fin:∀o',Q8 c (o.put a o') a d (Qp oj s x)->k P.val (o.put a o'):=λo' hn=>hk _ (D'.put (x:=x) hl ZF Dx' hd hn) (hx1.upd.put (.inl ha) (hn.aJ hnx.obj))
  rw[J.size] at hzn
  have kd:=(Dn.ok).kdOf
  refine ZV ?_
  left
  induction d with
  |false =>
   obtain⟨n,ho⟩:=hnx.obj
   induction s with|name n=>exact hg.elim|idx i =>
   left
   refine Zq F.slot_list_insert F.type_list_insert ho ?_
   left
   refine Ye λt'=>?_
   refine Yx (hx1 _ _ hT) (j:=hv.length) (v:=kv) (by unfold seqIndex?;simp<;>omega) (by simp) (by decide) (by decide) ?_
   cases hv2
   left
   refine Qbu ho hnx.base (Qd (by omega)) (by rw[lm_];exact hg.1) λn'=>?_
   left
   exact fin _ ⟨n',by rw[Qa];exact congrArg (λz=>some (lst z n')) (qi hg.1).symm⟩
  |true =>
   obtain⟨o',ho,hd'⟩:=hnx.obj
   induction s with|idx i=>exact hg.elim|name n =>
   left
   refine Ye λt'=>?_
   refine Yx (hx1 _ _ hT) (j:=hv.length) (v:=kv) (by unfold seqIndex?;simp<;>omega) (by simp) (by decide) (by decide) ?_
   cases hv2
   refine Y8 ho hd' hnx.base (Qd (by omega)) λo'' hd''=>?_
   left
   refine fin _ ⟨o'',Qa ..,?_⟩
   have:=hd''
   rw[QaX (by have:=IsD.nodup hd';rwa [Xd] at this)] at this
   exact this
structure XX (o:Own) (P:J) (t:Vl) (q:Qe) (j:J):Prop where
 is:∃r T vs,t = .ref r/\o r=some (tup [.ref T,j.val])/\o T=some (tup vs)/\Zd q vs
 there:look q P=some j
theorem qd {xs ys:List Vl}:lst xs n≠tup ys:=by
 intro h
 have:=congrArg Obj.cls h
 simp at this
theorem XX.ext {o o':Own}{P:J}{t:Vl}{q:Qe}{j:J}(h:XX o P t q j) (hx:∀a xs,o a=some (tup xs)->o' a=some (tup xs)):XX o' P t q j:=by
 obtain⟨⟨r,T,vs,h1,h2,h3,h4⟩,h5⟩:=h
 exact⟨⟨r,T,vs,h1,hx _ _ h2,hx _ _ h3,h4⟩,h5⟩
theorem ExtBut.tups {L:Ad}{o o':Own}(h:ExtBut L o o') (hL:o L=some (lst xs n)):∀a ys,o a=some (tup ys)->o' a=some (tup ys):=λa ys e=>h a _ (by
 rintro rfl
 rw[hL] at e
 exact qd (Option.some.inj e)) e
structure Xx (c:Cx) (oh o:Own) (P:J) (L:Ad) (rs:List Vl) (n:Nat) (p:Qe) (X:J):Prop where
 ext:ExtBut L oh o
 is:∃ts ep,o L=some (lst (rs++ts) ep)/\ts.length=n/\(∀t∈ts,∃q j,XX o P t q j)/\∃t,ts[0]?=some t/\XX o P t p X
theorem Xx.add {oh o o' o2:Own}{P X Y:J}{L:Ad}{rs ts:List Vl}{n ep m:Nat}{p q:Qe}(hx:ExtBut L oh o) (ho:o L=some (lst (rs++ts) ep)) (hl:ts.length=n) (hr:∀t∈ts,∃q j,XX o P t q j) (hh:∃t,ts[0]?=some t/\XX o P t p X)
  (x:Ext o o') (R:Xx c o' o2 P L (rs++ts) m q Y):Xx c oh o2 P L rs (n+m) p X:=by
 obtain⟨ts',ep',h1,h2,h3,_⟩:=R.is
 have ho':=x _ _ ho
 have tr:∀a xs,o a=some (tup xs)->o2 a=some (tup xs):=λa xs e=>R.ext.tups ho' a xs (x _ _ e)
 refine⟨(hx.trans x.but).trans R.ext,ts++ts',ep',by rw[h1,List.append_assoc],by rw[la_,hl,h2],λt ht=>?_,?_⟩
 ·rcases ma_.mp ht with ht|ht
  ·obtain⟨q,j,h⟩:=hr t ht;exact⟨q,j,h.ext tr⟩
  ·exact h3 t ht
 ·obtain⟨t,h,h'⟩:=hh
  exact⟨t,by rw[List.getElem?_append_left (ge_.mp h).1];exact h,h'.ext tr⟩
theorem Qfa {p:Str × J}(h:oj[i]?=some p):J.ab (oj.take (i+1))=J.ab (oj.take i)+p.2.size:=by
 rw[List.take_add_one,h,J.ao]
 obtain⟨n,x⟩:=p
 simp[J.ab]
abbrev QL (c:Cx) (oh:Own) (P:J) (a T L:Ad) (rs:List Vl) (oj:LJ) (p:Qe) (i:Nat) (m:Loc) (o:Own):Prop:=m "value"=some (.ref a)/\m "path"=some (.ref T)/\m "rows"=some (.ref L)/\Xx c oh o P L rs (1+J.ab (oj.take i)) p (.node a true oj)
theorem Qa1 {P X:J}{p:Qe}{T L:Ad}{vs rs:List Vl}{n0:Nat}{k:KO}(h:Ok c oh X) (hz:X.size+rs.length<=10000) (hp:p.length+X.size<=10000) (hX:look p P=some X) (hT:oh T=some (tup vs)) (hv:Zd p vs)
  (hL:oh L=some (lst rs n0)) (hb:c.H.get? L=none) (hXL:L∉X.addrs) (hN:X.size<=N) (hk:∀o',Xx c oh o' P L rs X.size p X->k (.ref L) o'):CW c N oh (call (.ref 1310) [X.val,.ref T,.ref L] []) k:=by
 induction hn:X.size using Nat.strongRecOn generalizing oh N X p T vs rs n0 k with|_ n ih =>
 subst hn
 replace ih:∀ {N:Nat}{oh:Own}{X':J}{p:Qe}{T:Ad}{vs rs:List Vl}{n0:Nat}{k:KO},Ok c oh X'->X'.size+rs.length<=10000->p.length+X'.size<=10000->look p P=some X'->oh T=some (tup vs)->Zd p vs->oh L=some (lst rs n0)->L∉X'.addrs->X'.size<=N->X'.size < X.size ->
  (∀o',Xx c oh o' P L rs X'.size p X'->k (.ref L) o')->CW c N oh (call (.ref 1310) [X'.val,.ref T,.ref L] []) k:=λh a1 a2 a3 a4 a5 a6 a7 a8 a9 a10=>ih _ a9 h a1 a2 a3 a4 a5 a6 a7 a8 a10 rfl
 have hps:=X.size_pos
 have hvl:=hv.len
 refine Zt (M:=(X.size - 1)+1) ?_ (by omega)
 refine Qkl λou kf=>?_
 have kd:∀o,Ext oh o->Qv o X.val X.kd:=λo x=>(h.ext x).kdOf
 refine Qm ?_
 left
 refine Zq F.slot_list_append F.type_list_append hL ?_
 left
 refine⟨Qd (by simp),λD0 hD0=>?_⟩
 left
 refine ZU (xs:=rs) (by walk_at "own") hb (Nat.le_trans (by omega:rs.length<=10000) (by decide)) λn'=>?_
 left
 have hLT:T≠L:=by rintro rfl;rw[hL] at hT;exact qd (Option.some.inj hT)
 have hLD:D0≠L:=hD0.ne hL
 have x1:ExtBut L oh ((oh.put D0 (tup [Value.ref T,X.val])).put L (lst (rs++[Value.ref D0]) n')):=λb o hb e=>by
  rw[Qi hb];exact QE hD0.own e
 have R1:Xx c oh ((oh.put D0 (tup [Value.ref T,X.val])).put L (lst (rs++[Value.ref D0]) n')) P L rs 1 p X:=by
  have row:XX ((oh.put D0 (tup [Value.ref T,X.val])).put L (lst (rs++[Value.ref D0]) n')) P (.ref D0) p X :=
   ⟨⟨D0,T,vs,rfl,by rw[Qi hLD];exact Qa ..,x1 _ _ hLT hT,hv⟩,hX⟩
  refine⟨x1,[.ref D0],n',Qa ..,rfl,λt ht=>?_,_,rfl,row⟩
  refine memS ht ?_;exact⟨_,_,row⟩
 generalize (oh.put D0 (tup [Value.ref T,X.val])).put L (lst (rs++[Value.ref D0]) n')=o1 at x1 R1 ⊢
 have h1:Ok c o1 X:=h.on λb hb o e=>x1 b o (λz=>hXL (z▸hb)) e
 have hT1:o1 T=some (tup vs):=x1 _ _ hLT hT
 have kd:=h1.kdOf
 cases X with
 |atom v =>
  cases h1 with|atom h1 =>
  have h1:ZA (J.atom v).val:=h1
  clear kd
  left
  exact hk _ R1
 |node a d oj =>
  have hka:∀q∈oj,q.2.size<=(J.node a d oj).size - 1:=λq hq=>by have:=J.am (a:=a) (d:=d) hq;omega
  have hkl:∀q∈oj,L∉q.2.addrs:=λq hq hm=>hXL (J.mL (J.ad hq hm))
  have hll:=J.length_le (oj:=oj)
  have hsz:(J.node a d oj).size=1+J.ab oj:=by rw[J.size]
  have haL:a≠L:=λz=>hXL (by rw[J.addrs,z];exact .head _)
  have nodeJ:∀ {i:Nat}{q:Str × J}{st:Qh}{v:Vl}{o:Own}{m:Loc}{e:Expr},oj[i]?=some q->Qw d oj st=some q.2->Xy st v->Xx c oh o P L rs (1+J.ab (oj.take i)) p (.node a d oj) ->
    ∀ (kk:KO),(∀o2,Xx c oh o2 P L rs (1+J.ab (oj.take (i+1))) p (.node a d oj)->kk (.ref L) o2)->∀ (N':Nat),(J.node a d oj).size - 1<=N'->∀ (D2:Ad) (o':Own),Ext o o'->o' D2=some (tup (vs++[v])) ->
    CW c N' o' (call (.ref 1310) [q.2.val,.ref D2,.ref L] []) kk:=by
   intro i q st v o m e hq hg sv R kk hkk N' hN' D2 o' xx hD2
   have hqm:=mg_ hq
   obtain⟨ts,ep,e1,e2,e3,e4⟩:=R.is
   have okq:Ok c o q.2:=(h.kid hqm).on λb hb ob e=>R.ext b ob (λz=>hkl q hqm (z▸hb)) e
   have hs:=Qfa hq
   have aG:=J.size_le hqm
   have htk:J.ab (oj.take i)+q.2.size<=J.ab oj:=by rw[<- hs];exact qS (List.take_sublist ..)
   refine ih (okq.ext xx) (by rw[la_,e2];omega) (p:=p++[st]) (by rw[la_];have:=hka q hqm;simp<;>omega) (qL hX hg) hD2 (hv.snoc sv) (xx _ _ e1) (hkl q hqm) (by have:=hka q hqm;omega) (J.am hqm) λo2 R2=>hkk o2 ?_
   rw[hs,<- Nat.add_assoc]
   exact Xx.add R.ext e1 e2 e3 e4 xx R2
  induction d with
  |true =>
   obtain⟨hba,Do,ho,hd⟩:=h.ae
   have ho1:o1 a=some Do:=x1 _ _ haL ho
   have hnd':(oj.map (·.1)).Nodup:=by rw[<- Xd];exact IsD.nodup hd
   left
   refine X0 ?_
   left
   refine⟨_,_,_,(QL c oh P a T L rs oj p),qr ho1 hd (XU hba),⟨rfl,rfl,rfl,R1⟩,λi m o J q hq=>?_,λi v m o hi hP J=>?_,λm o J=>?_⟩
   ·refine memS hq ?_;exact J.2.2.2.ext _ _ haL ho
   ·obtain⟨j1,j2,j3,R⟩:=J
    obtain⟨x,xv,t,hP,rfl⟩:=hP
    rw[gm_] at hP
    obtain⟨q,hq,e⟩:=mq_.mp hP
    cases e
    have hgn:Qj oj q.1=some q.2:=QaF hnd' (mg_ hq)
    refine Zv kf rfl ?_
    left
    refine Zs (R.ext _ _ haL ho) hd (v:=q.2.val) (by show valueAt (Q2 oj) _=_;rw[Z1,hgn];rfl) ?_
    left
    refine⟨Qd (by simp),λD1 hD1=>?_⟩
    refine Qam (xs:=vs) (ys:=[.str q.1 t]) (QE hD1.own (R.ext _ _ hLT hT)) (Qa ..) (Nat.le_trans (by simp<;>omega:_<=20000) (by decide)) λD2 o2 hx2 hD2=>?_
    left
    refine Qf (nodeJ (st:=.name q.1) (m:=m) (e:=.Name (zz "k") ⟨0,0,0,0⟩) hq hgn .name R _ (λo2 R2=>?_) _ (Nat.le_refl _) D2 o2 (Ext.trans (Ext.put hD1.own) hx2) hD2)
    refine ZV ?_
    exact⟨by nofun,by nofun,by nofun,R2⟩
   ·obtain⟨j1,j2,j3,R⟩:=J
    rw[lm_,List.take_length] at R
    have kd:Qv o (.ref a) .dict:=.dict (R.ext _ _ haL ho) (by obtain⟨_,_,h2,_⟩:=hd;exact h2.1)
    refine ZV ?_
    left
    exact hk _ (by rw[hsz];exact R)
  |false =>
   obtain⟨hba,n1,ho⟩:=h.ae
   have ho1:o1 a=some (lst (Q3 oj) n1):=x1 _ _ haL ho
   left
   refine QbC ?_
   left
   refine Qf (Qcs ho1 λn o' Z=>?_)
   have xe:=Z.ext
   have R1':Xx c oh (o'.drop [n+1,n]) P L rs 1 p (.node a false oj):=by
    obtain⟨ts,ep,e1,e2,e3,t0,e4,e5⟩:=R1.is
    have tr:∀a xs,o1 a=some (tup xs)->(o'.drop [n+1,n]) a=some (tup xs):=λa xs e=>xe _ _ e
    exact⟨R1.ext.trans xe.but,ts,ep,xe _ _ e1,e2,λt ht=>let ⟨q,j,h⟩:=e3 t ht;⟨q,j,h.ext tr⟩,t0,e4,e5.ext tr⟩
   refine⟨_,_,_,_,λi m o=>m "value"=some (.ref a)/\m "path"=some (.ref T)/\m "rows"=some (.ref L)/\Xx c oh o P L rs (1+J.ab (oj.take i)) p (.node a false oj),QcH Z ho1,⟨rfl,rfl,rfl,R1'⟩,λi m o J q hq=>?_,λi v xq m o o₂ hi hP J hx1 hx2=>?_,λm o J=>?_⟩
   ·refine memS hq ?_;exact J.2.2.2.ext _ _ haL ho
   ·obtain⟨j1,j2,j3,R⟩:=J
    obtain⟨w,t,hP,rfl⟩:=hP
    obtain⟨T',rfl,hT',rfl⟩:=hx2 _ rfl
    rw[gm_] at hP
    obtain⟨q,hq,rfl⟩:=mq_.mp hP
    have hgn:Qx oj i=some q.2:=by rw[XQ,hq];rfl
    refine YM kf rfl rfl (Qa ..) ?_
    left
    refine⟨Qd (by simp),λD1 hD1=>?_⟩
    refine Qam (xs:=vs) (ys:=[.int i t]) (QE hD1.own (QE hT'.own (R.ext _ _ hLT hT))) (Qa ..) (Nat.le_trans (by simp<;>omega:_<=20000) (by decide)) λD2 o2 hx2 hD2=>?_
    left
    refine Qf (nodeJ (st:=.idx i) (m:=m) (e:=.Name (zz "k") ⟨0,0,0,0⟩) hq hgn .idx R _ (λo2 R2=>?_) _ (Nat.le_refl _) D2 o2 (Ext.trans (Ext.put hT'.own) (Ext.trans (Ext.put hD1.own) hx2)) hD2)
    refine ZV ?_
    exact⟨by nofun,by nofun,by nofun,R2⟩
   ·obtain⟨j1,j2,j3,R⟩:=J
    rw[lm_,List.take_length] at R
    refine ZV ?_
    left
    exact hk _ (by rw[hsz];exact R)
noncomputable def Xo:List Str:=[zz "a",zz "0",zz "~",zz "a/b",zz "",zz "-",zz "b~1",zz "1"]
noncomputable def Z4:Qh->Prop
 |.name n=>n∈Xo
 |.idx i=>i < 64
section
theorem Qbx {α:Type}{t:Sem α}{k:α->Loc->Own->Prop}(hk:c.K.lookup a=some o) (h:oh a=some o->W c N ou m oh t k):W c N ou m oh t k :=
 λA s fr Q hA S P hQ=>h (S.sg.base a o (c.base.inK a o hk) λht=>by cases (c.base.ktab a ht),hk) A s fr Q hA S P hQ
end
section
variable {sc scope:Scope}
theorem Qat {elt target iter:Expr}{ifs:List Expr}{px pos p:Pos}{k:KF_}(kf:KF ou sc) (hl:sc.names.lookup x=some .local) (K:ZN scope ou)
  (hn:((px.line==pos.line)&&!(scope.names.any λ (n,k)=>n==x&&(k==.local||k==.cell)))=true)
  (h:W c N ou m oh (eval iter ou) λv m o=>CompTurns c N ou scope target ifs (Qah c elt) [] v m o λys o=>∀D ep,New c o D->k .next (upd m x (.ref D)) (o.put D (lst ys ep)))
  (hs:∀x,foldedSetIterable iter ou x=pure x:=by intro _;rfl) :
  W c N ou m oh (exec (.Assign [.Name x px] (.ListComp elt [⟨target,iter,ifs,0⟩] scope pos) p) ou) k :=
 λA s fr Q hA S P hQ=>Qhh K (kf _ _ (by intro z;cases z) hl) h hs (by
  show (pure (ou.blockKind==.function&&ou.kindOf x==some .local&&px.line==pos.line&&!(scope.names.any λ (n,k)=>n==x&&(k==.local||k==.cell))):Sem Bool)=pure true
  have h1:ou.blockKind = .function:=by have:=S.fm.kf;unfold Env.blockKind;first|exact this|simp[this]
  have h2:=kf _ _ (by intro z;cases z) hl
  simp only[Bool.and_eq_true] at hn
  rw[h1,h2,hn.1,hn.2];rfl) A s fr Q hA S P hQ
end
noncomputable def Qb0:List Vl:=[.str (zz "a") 2284,.str (zz "0") 2285,.str (zz "~") 2286,.str (zz "a/b") 2287,.str (zz "") 2288,.str (zz "-") 2289,.str (zz "b~1") 2290,.str (zz "1") 2291]
noncomputable def QbO:Option Vl->Bool
 |some (.str n _)=>Xo.contains n
 |_=>false
theorem QlM {v:Option Vl}(h:QbO v=true):∃n u,v=some (.str n u)/\n∈Xo:=by
 unfold QbO at h
 split at h
 ·exact⟨_,_,rfl,List.contains_iff_mem.mp h⟩
 ·cases h
theorem Qex (i:Nat) (h:i < 8):∃n u,Qb0[i]?=some (.str n u)/\n∈Xo:=QlM ((show ∀i,i < 8->QbO Qb0[i]?=true by ac_rfl) i h)
theorem Qey:c.K.lookup 1284=some (lst Qb0 0):=by symm
structure Qbe (o:Own) (P:J) (v:Vl) (h:Qe) (s:Qh) (e:Bool):Prop where
 is:∃r T vs,v = .ref r/\o r=some (tup [.ref T,.bool e])/\o T=some (tup vs)/\Zd (h++[s]) vs
 ins:ZC h s e P
 good:∀n,s = .name n->n∈Xo
noncomputable def J.isNode:J->Bool
 |.node ..=>true
 |_=>false
theorem Qd8 {j:J}(h:Ok c oh j):j.kd.bV=j.isNode:=by
 induction h with
 |atom h=>induction h<;>rfl
 |@node a d oj _ _=>induction d<;>rfl
abbrev QU (o1:Own) (P:J) (i:Nat) (ys:List Vl) (o:Own):Prop:=Ext o1 o/\(∀t∈ys,∃q j,XX o P t q j/\j.isNode=true)/\ys.length<=i/\(1<=i->ys≠[])
theorem Qa3 {P:J}{i:Int}{k:KO}(D:Doc c oh P) (hz:P.size<=1000) (hN:P.size<=N) (hP:P.isNode=true)
  (hk:∀o' v h s e,Qbe o' P v h s e->Ext oh o'->k v o'):CW c (N+1) oh (call (.ref 1329) [P.val,.int i t] []) k:=by
 refine Qko λou kf=>?_
 refine Qm ?_
 refine Qat kf rfl (Xj kf rfl) rfl ?_
 left
 refine⟨Qd (by simp),λD0 hD0=>?_⟩
 left
 refine⟨Qd (by simp),λD1 hD1=>?_⟩
 have x1:Ext oh ((oh.put D0 (tup [])).put D1 (lst [] 0)):=by walk_at "ext"
 left
 refine Qf (Qa1 (P:=P) (X:=P) (p:=[]) (vs:=[]) (rs:=[]) (D.ok.ext x1) (by simp<;>omega) (by simp<;>omega) rfl (by walk_at "own") .nil (by walk_at "own") hD1.base (λhm=>?_) hN λo1 R=>?_)
 ·obtain⟨ob,hob⟩:=(D.ok.ext (Ext.put hD0.own:Ext oh (oh.put D0 (tup [])))).there _ hm
  cases (hD1.own),hob
 have xo:Ext oh o1:=λb o e=>R.ext b o (hD1.ne' (QE hD0.own e)) (x1 b o e)
 obtain⟨ts,ep,hL,hlen,bl,t0,ht0,hrow0⟩:=R.is
 rw[List.nil_append] at hL
 have okP:=D.ok.ext xo
 refine⟨_,_,_,(QU o1 P),Xv hL,⟨.refl,λt h=>absurd h (by simp),Nat.le_refl _,λh=>absurd h (by omega)⟩,λi ys o J q hq=>?_,?_,?_⟩
 ·refine memS hq ?_;exact J.1 _ _ hL
 ·rintro i v ys o oq mc hi hPv ⟨j1,j2,j3,j4⟩ ac aC _
  have kf:=XS aC
  obtain⟨q,j,hr⟩:=bl v (mg_ hPv)
  obtain⟨⟨r,T,vs,rfl,hr1,hr2,hr3⟩,hlk⟩:=hr
  refine Zv kf rfl (Qbt ?_)
  left
  refine Yx (j1 _ _ hr1) (j:=1) (v:=j.val) (by unfold seqIndex?;simp) rfl (by decide) (by decide) ?_
  left
  refine⟨Qd (by simp),λD2 hD2=>?_⟩
  have okj:=(Z7 hlk okP).ext (j1.trans (Ext.put (o:=tup [.type "dict",.type "list"]) hD2.own))
  refine⟨YA,?_⟩
  refine Qda okj.kdOf (ZY (Qa ..)) ?_
  left
  rw[Qd8 okj]
  have xD:=Ext.put (o:=tup [.type "dict",.type "list"]) hD2.own
  have aT:XX (o.put D2 (tup [.type "dict",.type "list"])) P (.ref r) q j:=⟨⟨r,T,vs,rfl,xD _ _ (j1 _ _ hr1),xD _ _ (j1 _ _ hr2),hr3⟩,hlk⟩
  have hil:ts.length<=1000:=by omega
  refine⟨λhj=>⟨Qd (by omega),?_⟩,λhj=>⟨Zj rfl ac,j1.trans xD,λt ht=>let ⟨q,j,h,h'⟩:=j2 t ht;⟨q,j,h.ext λa xs e=>xD _ _ e,h'⟩,by omega,λh1=>?_⟩⟩
  ·left
   refine⟨Zj rfl ac,j1.trans xD,λt ht=>?_,by omega,λx_=>by simp⟩
   rcases ma_.mp ht with ht|ht
   ·obtain⟨q,j,h,h'⟩:=j2 t ht
    exact⟨q,j,h.ext λa xs e=>xD _ _ e,h'⟩
   ·rw[ms_.mp ht]
    exact⟨q,j,aT,hj⟩
  ·by_cases h0:i=0
   ·exfalso
    subst h0
    rw[ht0] at hPv
    obtain⟨⟨r',T',vs',e1,e2,e3,e4⟩,e5⟩:=hrow0
    cases e1,hPv
    rw[hr1] at e2
    have e6:j.val=P.val:=(Qci e2).2
    cases j with
    |node=>cases hj
    |atom v =>
     cases P with
     |atom=>cases hP
     |node a d oj =>
      cases okj with|atom ha =>
      have e7:v=Value.ref a:=e6
      subst e7
      cases ha
   ·exact j4 (by omega)
 ·rintro ys o ⟨j1,j2,j3,j4⟩ D2 ep2 hD2
  have hne:ys≠[]:=j4 (by rw[hlen];exact P.size_pos)
  have hpos:0 < ys.length:=List.length_pos_iff.mpr hne
  have hyl:ys.length<=1000:=by omega
  have hj0:(ys.length:Int)≠0:=by omega
  have f0:0<=i.fmod ys.length:=Ym (j:=ys.length) hpos
  have f1:i.fmod ys.length < ys.length:=Yl (j:=ys.length) hpos
  have hlt:(i.fmod ys.length).toNat < ys.length:=fmT (Nat.pos_of_ne_zero λe=>hj0 (congrArg _ e))
  have hget:ys[(i.fmod ys.length).toNat]?=some ys[(i.fmod ys.length).toNat]:=List.getElem?_eq_getElem hlt
  obtain⟨q,j,⟨⟨r,T,vs,hr,hr1,hr2,hr3⟩,hlk⟩,hjn⟩:=j2 _ (mg_ hget)
  have hqs:=ZL hlk
  have hql:=YH hlk
  have hvl:=hr3.len
  have xo':Ext oh o:=xo.trans j1
  left
  refine Xi kf rfl rfl ?_ rfl rfl
  left
  refine ZI (xs:=ys) (by walk_at "own") (Qd hyl) λt1=>?_
  refine Xp hj0 λt2=>?_
  refine Xz (xs:=ys) (by walk_at "own") f0 hget (by omega) ?_
  refine⟨r,.ref T,j.val,hr,QE hD2.own hr1,?_⟩
  left
  refine ZI (xs:=ys) (by walk_at "own") (Qd hyl) λt1=>?_
  refine Yb (j:=ys.length) (by omega) (by omega) λt2=>?_
  left
  have xD:=Ext.put (o:=lst ys ep2) hD2.own
  have okj:=(Z7 hlk okP).ext (j1.trans xD)
  have kd:=okj.kdOf
  cases j with
  |atom=>cases hjn
  |node a d oj =>
   have hkl:=J.length_le (oj:=oj)
   rw[J.size] at hqs
   have hnd:=okj.ae
   induction d with
   |true =>
    left
    refine Xp (by decide) λt3=>?_
    have m0:0<=(i.fdiv ys.length).fmod 8:=Ym (j:=8) (by decide)
    have m1:(i.fdiv ys.length).fmod 8 < 8:=Yl (j:=8) (by decide)
    obtain⟨n,u,hn1,hn2⟩:=Qex ((i.fdiv ys.length).fmod 8).toNat (by omega)
    refine Qbx (Qey) λhNm=>?_
    refine Xz hNm m0 hn1 (by omega) ?_
    refine⟨Qd (by simp),λD3 hD3=>?_⟩
    refine Qam (xs:=vs) (ys:=[.str n u]) (QE hD3.own (xD _ _ hr2)) (Qa ..) (Qd (by simp<;>omega)) λD4 o4 hx4 hD4=>?_
    left
    refine⟨Qd (by simp),λD5 hD5=>?_⟩
    left
    have hx4':Ext o o4:=xD.trans (Ext.trans (Ext.put hD3.own) hx4)
    exact hk _ _ q (.name n) false ⟨⟨D5,D4,_,rfl,Qa ..,QE hD5.own hD4,hr3.snoc .name⟩,⟨a,true,oj,hlk,rfl⟩,λm e=>by cases e;exact hn2⟩ (Ext.ai (xo'.trans hx4') hD5.own)
   |false =>
    obtain⟨n1,ho⟩:=hnd.obj
    left
    refine ZI ho (Qd (by omega)) λt3=>?_
    left
    refine Qal λt4=>?_
    refine Xp (by omega) λt5=>?_
    have m0:0<=(i.fdiv ys.length).fmod ((oj.length+1:Nat):Int):=Ym (j:=oj.length+1) (by omega)
    have m1:(i.fdiv ys.length).fmod ((oj.length+1:Nat):Int) < ((oj.length+1:Nat):Int):=Yl (j:=oj.length+1) (by omega)
    rw[show (((List.map (λx:Str × J=>x.snd.val) oj).length:Int)+1)=((oj.length+1:Nat):Int) by simp] at *
    generalize hkk:(i.fdiv ys.length).fmod ((oj.length+1:Nat):Int)=kk at m0 m1 ⊢
    obtain⟨jk,rfl⟩:=Int.eq_ofNat_of_zero_le m0
    left
    refine⟨Qd (by simp),λD3 hD3=>?_⟩
    refine Qam (xs:=vs) (ys:=[.int jk t5]) (QE hD3.own (xD _ _ hr2)) (Qa ..) (Qd (by simp<;>omega)) λD4 o4 hx4 hD4=>?_
    have hx4':Ext o o4:=xD.trans (Ext.trans (Ext.put hD3.own) hx4)
    have fin:∀ (e:Bool) (o5:Own) (D5:Ad),Ext o4 o5->New c o5 D5->(e=true->jk=oj.length)->k (.ref D5) (o5.put D5 (tup [.ref D4,.bool e])):=λe o5 D5 x5 hD5 he =>
     hk _ _ q (.idx jk) e ⟨⟨D5,D4,_,rfl,Qa ..,QE hD5.own (x5 _ _ hD4),hr3.snoc .idx⟩,⟨a,false,oj,hlk,by omega,he⟩,λm e=>by cases e⟩ (Ext.ai ((xo'.trans hx4').trans x5) hD5.own)
    left
    refine ZI ((Ext.trans (Ext.put hD3.own) hx4) _ _ ho) (Qd (by omega)) λt6=>?_
    refine Yv ?_
    left
    refine⟨λhb=>?_,λhb=>?_⟩
    ·have hjk:jk=oj.length:=by have h:(jk:Int)=oj.length:=(by simpa using hb);omega
     left
     refine ZI ((Ext.trans (Ext.put hD3.own) hx4) _ _ ho) (Qd (by omega)) λt7=>?_
     left
     refine Qal λt8=>?_
     rw[show (((List.map (λx:Str × J=>x.snd.val) oj).length:Int)+1)=((oj.length+1:Nat):Int) by simp]
     refine Yb (by omega) (by omega) λt9=>?_
     left
     refine Xp (by decide) λt10=>?_
     left
     refine Yv ?_
     refine⟨Qd (by simp),λD5 hD5=>?_⟩
     left
     exact fin _ _ _ .refl hD5 λx_=>hjk
    ·refine⟨Qd (by simp),λD5 hD5=>?_⟩
     left
     exact fin _ _ _ .refl hD5 λh=>by cases h,hb
noncomputable abbrev ZH:Str:=zz "/"
noncomputable def YC (x:Str):Str:=if x==zz "~" then zz "~0" else if x==zz "/" then zz "~1" else x
noncomputable def ZP (x:Str):Str:=Txt.join (zz "") (x.cps.toList.map λd=>YC ⟨#[d]⟩)
noncomputable def Qq:Qh->Str
 |.name n=>n
 |.idx i=>idx i
noncomputable def Z6:List Str:=Xo++(List.range 64).map idx
theorem YQ {k:Qh}(h:Z4 k):Qq k∈Z6:=by
 induction k with
 |name n=>exact ml_ _ h
 |idx i=>exact mr_ _ (List.mem_map.mpr ⟨i,List.mem_range.mpr h,rfl⟩)
noncomputable def Qt (ps:List Str):Str:=Str.join ZH (Str.empty::ps.map ZP)
noncomputable def QeT (s:Str):Bool:=!(ZP s).cps.toList.contains 47&&(Txt.replace (Txt.replace (ZP s) (zz "~1") (zz "/")) (zz "~0") (zz "~")==s)&&decide ((ZP s).length<=8)&&decide (s.length<=8)&&Z0 (ZP s).cps.toList
 && JoinOk (zz "") (s.cps.toList.map λd=>YC ⟨#[d]⟩)&&decide ((Txt.replace (ZP s) (zz "~1") (zz "/")).length<=8)
theorem QkD:∀s∈Z6,QeT s=true:=by ac_rfl
theorem qT:ZH=⟨#[47]⟩:=by ac_rfl
theorem Qfb {α:Type}{P:List α->Prop}(nil:P []) (snoc:∀ (l:List α) (a:α),P l->P (l++[a])) (l:List α):P l:=by
 have:∀ (n:Nat) (l:List α),l.length=n->P l:=by
  intro n
  induction n with
  |zero=>intro l h;rw[List.length_eq_zero_iff.mp h];exact nil
  |succ n ih =>
   intro l h
   have hne:l≠[]:=by rintro rfl;cases h
   rw[<- List.dropLast_concat_getLast hne]
   exact snoc _ _ (ih _ (by rw[List.length_dropLast];omega))
 exact this _ l rfl
theorem QnG:Qt []=zz "":=by ac_rfl
theorem Qeb (sep e:Str):∀ (x:Str) (r:List Str),Str.join sep (x::(r++[e]))=Str.join sep (x::r)++sep++e
 |x,[]=>rfl
 |x,y::r=>by
  show x++sep++Str.join sep (y::(r++[e]))=(x++sep++Str.join sep (y::r))++sep++e
  rw[Qeb sep e y r]
  simp only[Str.append_assoc]
theorem YT (ps:List Str) (p:Str):Qt (ps++[p])=Qt ps++ZH++ZP p:=by
 unfold Qt
 rw[List.map_append]
 exact Qeb _ _ _ _
theorem Qch {a b:Str}(h:a.cps.toList=b.cps.toList):a=b:=Str.ext' (Array.toList_inj.mp h)
theorem toList_append {a b:Str}:(a++b).cps.toList=a.cps.toList++b.cps.toList:=by rw[Str.cps_append,Array.toList_append]
theorem QdI:∀ {a b r s:List Nat},47∉a->47∉b->a++47::r=b++47::s->a=b/\r=s
 | [],[],r,s,_,_,h=>by simpa using h
 | [],y::b,r,s,_,hb,h=>by simp at h;exact absurd (h.1▸List.mem_cons_self) hb
 |x::a,[],r,s,ha,_,h=>by simp at h;exact absurd (h.1▸List.mem_cons_self) ha
 |x::a,y::b,r,s,ha,hb,h=>by
  simp only[List.cons_append,List.cons.injEq] at h
  obtain⟨e1,e2⟩:=QdI (λz=>ha (.tail _ z)) (λz=>hb (.tail _ z)) h.2
  exact⟨by rw[h.1,e1],e2⟩
theorem QbQ (x y:Str) (r:List Str):(Str.join ZH (x::y::r)).cps.toList=x.cps.toList++47::(Str.join ZH (y::r)).cps.toList:=by
 show (x++ZH++Str.join ZH (y::r)).cps.toList=_
 rw[toList_append,toList_append,qT,List.append_assoc];rfl
theorem Qea {x y z:Str}{r:List Str}(hx:47∉x.cps.toList) (h:Str.join ZH [x]=Str.join ZH (y::z::r)):False:=by
 have h:x.cps.toList=_:=congrArg (λs:Str=>s.cps.toList) h
 rw[QbQ] at h
 exact hx (h▸mr_ _ (.head _))
theorem QlU {ps qs:List Str}(hp:∀p∈ps,47∉p.cps.toList) (hq:∀p∈qs,47∉p.cps.toList) (h1:ps≠[]) (h2:qs≠[]) (h:Str.join ZH ps=Str.join ZH qs):ps=qs:=by
 induction ps generalizing qs with
 |nil=>exact absurd rfl h1
 |cons x r ih =>
  rcases qs with _|⟨y,s⟩
  ·exact absurd rfl h2
  rcases r with _|⟨x',r⟩<;>rcases s with _|⟨y',s⟩
  ·rw[show x=y from h]
  ·exact(Qea (hp x (.head _)) h).elim
  ·exact(Qea (hq y (.head _)) h.symm).elim
  ·have h:_=_:=congrArg (λs:Str=>s.cps.toList) h
   rw[QbQ,QbQ] at h
   obtain⟨e1,e2⟩:=QdI (hp x (.head _)) (hq y (.head _)) h
   rw[Qch e1,ih (λp h=>hp p (.tail _ h)) (λp h=>hq p (.tail _ h)) (λz=>nomatch z) (λz=>nomatch z) (Qch e2)]
theorem Qns (x y:Str):Txt.split x y≠[]:=by
 unfold Txt.split
 split
 ·simp
 ·split
  ·simp
  ·rw[StrLaws.partsBetween_eq]
   obtain⟨p,r,e⟩:=StrLaws.partsFrom_ne x y.length 0 (Builtin.Str.occurrences x y 0 x.length (x.length+1))
   rw[e];simp
theorem pf {p:Str}(h:p∈Z6):47∉(ZP p).cps.toList/\Txt.replace (Txt.replace (ZP p) (zz "~1") (zz "/")) (zz "~0") (zz "~")=p/\(ZP p).length<=8/\p.length<=8/\Z0 (ZP p).cps.toList=true/\JoinOk (zz "") (p.cps.toList.map λd=>YC ⟨#[d]⟩)=true /\
  (Txt.replace (ZP p) (zz "~1") (zz "/")).length<=8:=by
 have:=QkD p h
 unfold QeT at this
 simp only[Bool.and_eq_true,beq_iff_eq,decide_eq_true_eq,Bool.not_eq_true',List.contains_eq_mem,decide_eq_false_iff_not] at this
 obtain⟨⟨⟨⟨⟨⟨a,b⟩,c⟩,d⟩,e⟩,f⟩,g⟩:=this
 exact⟨a,b,c,d,e,f,g⟩
theorem Qfe {ps:List Str}(h:∀p∈ps,p∈Z6):Txt.split (Qt ps) ZH=Str.empty::ps.map ZP:=by
 have hs:=StrLaws.split_free (Qt ps) 47
 rw[<- qT] at hs
 refine QlU hs (λp hp=>?_) (Qns _ _) (by simp) (StrLaws.join_split _ _)
 rcases mc_.mp hp with rfl|hp
 ·simp[Str.empty]
 ·obtain⟨q,hq,rfl⟩:=List.mem_map.mp hp
  exact(pf (h q hq)).1
theorem Qb1:∀ {a b:List Nat},Z0 a=true->Z0 b=true->Z0 (a++b)=true
 | [],b,_,h=>h
 |x::a,b,ha,hb=>by
  simp only[Z0.eq_def (x::a),Bool.and_eq_true] at ha
  rw[List.cons_append]
  simp only[Z0.eq_def (x::(a++b)),Bool.and_eq_true]
  refine⟨?_,Qb1 ha.2 hb⟩
  induction a with
  |nil =>
   have:=ha.1
   simp only[Bool.or_false] at this
   rw[this];rfl
  |cons y a=>exact ha.1
theorem QmQ:∀ {ps:List Str},(∀p∈ps,p∈Z6)->Z0 (Qt ps).cps.toList=true:=by
 intro ps
 induction ps using Qfb with
 |nil=>intro _;rfl
 |snoc ps p ih =>
  intro h
  rw[YT,toList_append,toList_append]
  refine Qb1 (Qb1 (ih λq hq=>h q (ml_ _ hq)) (by ac_rfl)) (pf (h p (by simp))).2.2.2.2.1
theorem QbS:∀ {ps:List Str},(∀p∈ps,p∈Z6)->(Qt ps).length<=9*ps.length:=by
 intro ps
 induction ps using Qfb with
 |nil=>intro _;ac_rfl
 |snoc ps p ih =>
  intro h
  have h1:=ih λq hq=>h q (ml_ _ hq)
  have h2:=(pf (h p (by simp))).2.2.1
  rw[YT,Str.length_append,Str.length_append,la_]
  have:ZH.length=1:=by ac_rfl
  simp only[lc_,List.length_nil]
  omega
theorem Qng {ps:List Str}{p:Str}(h:p∈Z6):qR (Qt (ps++[p])) ZH=(Qt ps).length:=by
 have hf:=(pf h).1
 have hl:(Qt (ps++[p])).cps.toList=(Qt ps).cps.toList++47::(ZP p).cps.toList:=by
  rw[YT,toList_append,toList_append,qT,List.append_assoc];rfl
 have hn:(Qt ps).length=(Qt ps).cps.toList.length:=by simp[Str.length]
 have hat:∀i,StrLaws.At (Qt (ps++[p])) ZH (Qt (ps++[p])).length i↔(Qt (ps++[p])).cps.toList[i]?=some 47:=λi=>by
  rw[qT];exact StrLaws.subAt_one _ 47 i
 unfold qR
 rcases StrLaws.last_spec (Qt (ps++[p])) ZH with ⟨_,h2⟩|⟨i,h1,h2,h3⟩
 ·exact absurd ((hat (Qt ps).length).mpr (by rw[hl,hn];simp)) (h2 _)
 ·rw[h1]
  have h2:=(hat i).mp h2
  have key:i=(Qt ps).length:=by
   rcases Nat.lt_trichotomy i (Qt ps).length with hlt|he|hgt
   ·exact absurd ((hat (Qt ps).length).mpr (by rw[hl,hn];simp)) (h3 _ hlt)
   ·exact he
   ·exfalso
    rw[hl,List.getElem?_append_right (by omega)] at h2
    obtain⟨j,hj⟩:∃j,i - (Qt ps).cps.toList.length=j+1:=⟨i - (Qt ps).cps.toList.length - 1,ls4 (by rw[<- hn];exact hgt)⟩
    rw[hj,List.getElem?_cons_succ] at h2
    exact hf (mg_ h2)
  rw[key]
theorem Qnq {ps:List Str}{p:Str}:Txt.slice (Qt (ps++[p])) none (some ((Qt ps).length:Int))=Qt ps:=by
 have hl:(Qt (ps++[p])).cps.toList=(Qt ps).cps.toList++47::(ZP p).cps.toList:=by
  rw[YT,toList_append,toList_append,qT,List.append_assoc];rfl
 have hn:(Qt ps).length=(Qt ps).cps.toList.length:=by simp[Str.length]
 show StrLaws.sliceText _ _ _=_
 rw[StrLaws.sliceText_to ⟨by omega,by rw[hl,la_,hn];omega⟩]
 refine Qch ?_
 show (((Qt (ps++[p])).cps.toList.drop 0).take (((Qt ps).length:Int) - 0).toNat)=_
 rw[hl,List.drop_zero,hn]
 simp
noncomputable def QY (h:Qe) (k:Qh) (e:Bool):List Str:=h.map Qq++[if e then zz "-" else Qq k]
theorem Qkv:ZP (zz "-")=zz "-":=by ac_rfl
theorem QjE:zz "-"∈Z6:=by ac_rfl
theorem Qd6:∀i < 64,idx i≠zz "-":=by ac_rfl
theorem QlJ:∀i < 64,∀j < 64,idx i=idx j->i=j:=by ac_rfl
inductive Zi:List Vl->List Str->Prop
 |nil:Zi [] []
 |cons {x t vs xs:_}:Zi vs xs->Zi (.str x t::vs) (x::xs)
theorem Zi.snoc {xs:List Str}(h:Zi vs xs):Zi (vs++[.str x t]) (xs++[x]):=by
 induction h with
 |nil=>exact .cons .nil
 |cons _ ih=>exact .cons ih
theorem Zi.len {xs:List Str}(h:Zi vs xs):vs.length=xs.length:=by
 induction h with
 |nil=>rfl
 |cons _ ih=>rw[lc_,lc_,ih]
theorem Zi.values {xs:List Str}(h:Zi vs xs):∃l:List (Str × Tok),vs=strValues l/\l.map (·.1)=xs:=by
 induction h with
 |nil=>exact⟨[],rfl,rfl⟩
 |@cons x t vs xs _ ih =>
  obtain⟨l,h1,h2⟩:=ih
  exact⟨(x,t)::l,by rw[h1];rfl,by rw[List.map_cons,h2]⟩
theorem Qdl {st:Qh}(h:Xy st v) (g:Z4 st) (hk:∀t,k (.str (Qq st) t) m oh):W c N ou m oh (call (.type "str") [v]) k:=by
 induction h with
 |name=>exact Qdm (hk _)
 |@idx i t =>
  refine Qha ?_ hk
  have h:i < 64:=g
  have h1:((i:Int)).natAbs=i:=by simp
  rw[h1]
  have:=Nat.log2_le_self i
  omega
theorem QbJ (d:Nat):YC ⟨#[d]⟩=if (⟨#[d]⟩:Str)==zz "~" then zz "~0" else if (⟨#[d]⟩:Str)==zz "/" then zz "~1" else ⟨#[d]⟩:=rfl
abbrev QT (oh:Own) (p:Qe) (e:Bool) (i:Nat) (m:Loc) (o:Own):Prop:=(∃t,m "told"=some (.str (Qt ((p.take i).map Qq)) t))/\m "end"=some (.bool e)/\Ext oh o
theorem Qab {p:Qe}{e:Bool}{T:Ad}{k:KO}(hT:oh T=some (tup vs)) (hv:Zd p vs) (hg:∀s∈p,Z4 s) (hl:p.length<=1000)
  (hk:∀o' t,Ext oh o'->k (.str (Qt (if e then p.dropLast.map Qq++[zz "-"] else p.map Qq)) t) o') (he:e=true->p≠[]):CW c (N+1) oh (call (.ref 1334) [.ref T,.bool e] []) k:=by
 refine Qkp λou kf=>?_
 refine Qm ?_
 left
 refine X0 ?_
 left
 refine⟨_,_,_,(QT oh p e),qu hT,⟨⟨_,by rw[List.take_zero,List.map_nil,QnG];exact Zf ..⟩,rfl,.refl⟩,λi m o J q hq=>?_,λi v m o hi hP J=>?_,λm o J=>?_⟩
 ·refine memS hq ?_;exact J.2.2 _ _ hT
 ·obtain⟨⟨t,j1⟩,j2,j3⟩:=J
  have hi':i < p.length:=by rw[<- hv.len];exact hi
  have hs:p[i]?=some p[i]:=List.getElem?_eq_getElem hi'
  obtain⟨v',hv',sv⟩:=hv.at hs
  replace hP:vs[i]?=some v:=hP;cases hv',hP
  have gs:=hg _ (List.getElem_mem hi')
  generalize hst:p[i]=st at hs sv gs
  refine Zv kf rfl ?_
  left
  have hgp:=pf (YQ gs)
  have aZ:∀q∈(p.take i).map Qq,q∈Z6:=λq hq=>by
   obtain⟨s,hs,rfl⟩:=List.mem_map.mp hq
   exact YQ (hg s (List.mem_of_mem_take hs))
  have hlt:=QbS aZ
  have hl1:((p.take i).map Qq).length<=1000:=by rw[lm_,List.length_take];omega
  have hsl:ZH.length=1:=by ac_rfl
  refine Qbl (Nat.le_trans (by rw[hsl];omega:_<=10000) (by decide)) λt1=>?_
  left
  with_reducible refine Qgc ?_
  walk_at "w1"
  refine qv (Xj kf rfl) ?_
  left
  refine Qdl sv gs λt2=>?_
  refine⟨_,_,_,λi ys o'=>Zi ys (((Qq st).cps.toList.take i).map λd=>YC ⟨#[d]⟩)/\o'=o,Qgg,⟨.nil,rfl⟩,λi ys o' J q hq=>absurd hq (by simp),?_,?_⟩
  ·rintro i' v' ys o' oq mc hi' ⟨d,u,hd,rfl⟩ ⟨hB,rfl⟩ ac aC _
   have kf:=XS aC
   have hsz:(Qq st).cps.size<=8:=hgp.2.2.2.1
   refine Zv kf rfl (Yy ⟨λx_=>⟨Qd (by rw[hB.len];simp<;>omega),?_⟩,λz=>nomatch z⟩)
   have fin:∀ {w:Str}{t:Tok},w=YC ⟨#[d]⟩->Zi (ys++[.str w t]) (((Qq st).cps.toList.take (i'+1)).map λd=>YC ⟨#[d]⟩):=by
    intro w t hw
    have:(Qq st).cps.toList[i']?=some d:=by rw[<- hd];simp
    rw[List.take_add_one,this,List.map_append,hw]
    exact hB.snoc
   left
   refine Yw ?_
   left
   refine⟨λhb=>?_,λhb=>?_⟩
   ·left
    exact⟨Zj rfl ac,fin (by rw[QbJ,hb];rfl),rfl⟩
   ·left
    refine Yw ?_
    left
    refine⟨λhb'=>?_,λhb'=>?_⟩
    ·left
     exact⟨Zj rfl ac,fin (by rw[QbJ,hb,hb'];rfl),rfl⟩
    ·left
     exact⟨Zj rfl ac,fin (by rw[QbJ,hb,hb'];rfl),rfl⟩
  ·rintro ys o' ⟨hB,rfl⟩ D ep hD
   rw[List.take_of_length_le (by simp)] at hB
   obtain⟨l,rfl,hl2⟩:=hB.values
   left
   refine QgP (Qa ..) hl2 hgp.2.2.2.2.2.1 λt3=>?_
   refine Qbl (Nat.le_trans (?_:_<=10000) (by decide)) λt4=>?_
   ·have h8:(Txt.join (zz "") ((Qq st).cps.toList.map λd=>YC ⟨#[d]⟩)).length<=8:=hgp.2.2.1
    rw[Str.length_append,hsl];omega
   ·left
    refine⟨⟨t4,?_⟩,by nofun,j3.ai hD.own⟩
    rw[List.take_add_one,hs,List.map_append]
    show _=some (Value.str (Qt (List.map Qq (List.take i p)++[Qq st])) t4)
    rw[YT]
    exact Zf ..
 ·obtain⟨⟨t,j1⟩,j2,j3⟩:=J
  rw[List.take_of_length_le (by rw[hv.len];exact Nat.le_refl _)] at j1
  refine ZV ?_
  left
  induction e with
  |false =>
   left
   exact hk _ _ j3
  |true =>
   have hne:=he rfl
   have hp2:p=p.dropLast++[p.getLast hne]:=(List.dropLast_concat_getLast hne).symm
   have gl:=YQ (hg _ (List.getLast_mem hne))
   have hm:p.map Qq=p.dropLast.map Qq++[Qq (p.getLast hne)]:=(congrArg (List.map Qq) hp2).trans (by rw[List.map_append];rfl)
   rw[hm] at j1
   have aZ:∀q∈p.dropLast.map Qq,q∈Z6:=λq hq=>by
    obtain⟨s,hs,rfl⟩:=List.mem_map.mp hq
    exact YQ (hg s (List.dropLast_subset _ hs))
   have hlt:=QbS aZ
   have hpl:(p.dropLast.map Qq).length<=1000:=by rw[lm_,List.length_dropLast];omega
   have hl8:=(pf gl).2.2.1
   have hsl:ZH.length=1:=by ac_rfl
   left
   refine Yi (Y7 (XA ?_))
   left
   with_reducible refine Qgd ?_
   left
   refine Qg5 λt5=>?_
   rw[Qng gl]
   intro sl hsl2
   refine Qhb (Qa ..) (Nat.le_trans (?_:_<=10000) (by decide)) λt6=>?_
   ·rw[YT,Str.length_append,Str.length_append,hsl];omega
   rw[Qnq]
   left
   refine Qbl (Nat.le_trans (?_:_<=10000) (by decide)) λt7=>?_
   ·rw[show (zz "/-").length=2 by ac_rfl];omega
   left
   rw[show (zz "/-")=ZH++zz "-" by ac_rfl,<- Str.append_assoc]
   have e1:Qt (if true=true then p.dropLast.map Qq++[zz "-"] else p.map Qq)=Qt (p.dropLast.map Qq)++ZH++zz "-":=by rw[if_pos rfl,YT,Qkv]
   rw[e1] at hk
   exact hk _ t7 (j3.ai hsl2.own)
theorem Qeo {f:List (Str × J)->List (Str × J)}:∀ {q r:Qe}{X y:J},look (q++r) X=some y->look q (Qg f (q++r) X)=(look q X).map (Qg f r)
 | [],r,X,y,h=>rfl
 |k::q,r,.atom v,y,h=>by cases h
 |k::q,r,.node a d oj,y,h=>by
  obtain⟨z,hz,h'⟩:=bs_.mp h
  rw[List.cons_append,Xl hz]
  show (Qw d (Zh oj k _) k).bind (look q)=((Qw d oj k).bind (look q)).map _
  rw[X6 hz,if_pos rfl,hz]
  exact Qeo h'
theorem Qew {f:List (Str × J)->List (Str × J)}{p:Qe}:∃af,Qg f p (.node a d oj) = .node a d af:=by
 induction p with
 |nil=>exact⟨_,rfl⟩
 |cons k p =>
  unfold Qg
  split<;>exact⟨_,rfl⟩
inductive Q4:J->Prop
 |atom {v:_}:Q4 (.atom v)
 |node {a d oj:_}:(d=true->∀p∈oj,p.1∈Xo)->(∀p∈oj,Q4 p.2)->Q4 (.node a d oj)
theorem Q4.inv (h:Q4 (.node a d oj)):(d=true->∀p∈oj,p.1∈Xo)/\∀p∈oj,Q4 p.2:=by
 cases h with|node h1 h2=>exact⟨h1,h2⟩
theorem Q4.look:∀ {p:Qe}{X x:J},Q4 X->Tactic.look p X=some x->Q4 x
 | [],X,x,g,h=>by cases h;exact g
 |k::p,.atom v,x,g,h=>by cases h
 |k::p,.node b d oj,x,g,h=>by
  obtain⟨y,hy,h⟩:=bs_.mp h
  obtain⟨n,hm⟩:=Xc hy
  exact Q4.look (g.inv.2 _ hm) h
theorem Qnn {k:Qh}{x y:J}(h:Qw d oj k=some x):(Zh oj k y).map (·.1)=oj.map (·.1):=by
 obtain⟨l,n,r,h1,h2,_⟩:=XR h
 have:=h2 y
 rw[this]
 conv=>rhs;rw[h1]
 simp
theorem Yp {f:List (Str × J)->List (Str × J)}:∀ {p:Qe}{X:J}{a:Ad}{d:Bool}{oj:LJ},Q4 X->look p X=some (.node a d oj)->Q4 (.node a d (f oj))->Q4 (Qg f p X)
 | [],X,a,d,oj,g,h,h'=>by cases h;exact h'
 |k::p,.atom v,a,d,oj,g,h,h'=>by cases h
 |k::p,.node e d' af,a,d,oj,g,h,h'=>by
  obtain⟨y,hy,hq⟩:=bs_.mp h
  rw[Xl hy]
  obtain⟨g1,g2⟩:=g.inv
  refine .node (λhd q hm=>?_) λq hm=>?_
  ·have:q.1∈af.map (·.1):=by rw[<- Qnn (y:=Qg f p y) hy];exact List.mem_map.mpr ⟨q,hm,rfl⟩
   obtain⟨q',h1,h2⟩:=List.mem_map.mp this
   rw[<- h2];exact g1 hd q' h1
  ·obtain⟨n,hmm⟩:=Xc hy
   rcases(QaU (x:=Qg f p y) hy).kids hm with h1|h1
   ·exact g2 q h1
   ·rw[h1];exact Yp (g2 _ hmm) hq h'
theorem Qe8:∀ {oj:LJ}{n:Str}{x:J},(Ze oj n x).map (·.1)=oj.map (·.1)
 | [],_,_=>rfl
 |(m,y)::r,n,x=>by
  rw[Ze]
  split
  ·rfl
  ·rw[List.map_cons,List.map_cons,Qe8]
theorem qH {k:Qh}{e:Bool}{x:J}(g:Q4 (.node a d oj)) (hi:Ins d oj k e) (hk:∀n,k = .name n->n∈Xo) (gx:Q4 x):Q4 (.node a d (Qp oj k x)):=by
 obtain⟨g1,g2⟩:=g.inv
 refine .node (λhd q hm=>?_) λq hm=>?_
 ·subst hd
  induction k with
  |idx i=>exact hi.elim
  |name n =>
   have hm':q∈(if (Qj oj n).isSome then Ze oj n x else oj++[(n,x)]):=hm
   split at hm'
   ·have:q.1∈oj.map (·.1):=by rw[<- Qe8 (n:=n) (x:=x)];exact List.mem_map.mpr ⟨q,hm',rfl⟩
    obtain⟨q',h1,h2⟩:=List.mem_map.mp this
    rw[<- h2];exact g1 rfl q' h1
   ·rcases ma_.mp hm' with h|h
    ·exact g1 rfl q h
    ·refine memS h ?_;exact hk n rfl
 ·rcases ZF.kids hm with h|h
  ·exact g2 q h
  ·rw[h];exact gx
theorem QaG {k:Qh}(g:Q4 (.node a d oj)):Q4 (.node a d (Qo oj k)):=by
 obtain⟨g1,g2⟩:=g.inv
 have hs:(Qo oj k).Sublist oj:=by
  induction k with
  |idx i=>exact List.eraseIdx_sublist ..
  |name n=>exact List.filter_sublist
 exact .node (λhd q hm=>g1 hd q (hs.subset hm)) λq hm=>g2 q (hs.subset hm)
set_option tactic.hygienic true in
theorem QaH:∀ {p:Qe}{X x:J},Q4 X->X.size<=64->look p X=some x->∀k∈p,Z4 k
 | [],X,x,g,hz,h=>λk hk=>nomatch hk
 |k::p,.atom v,x,g,hz,h=>by cases h
 |k::p,.node b d oj,x,g,hz,h=>by
  obtain⟨y,hy,h⟩:=bs_.mp h
  obtain⟨n,hm⟩:=Xc hy
  intro k' hk'
  rcases mc_.mp hk' with rfl|hk'
  ·induction d<;>cases k'
   ·cases hy
   ·rename_i i
    have hy':Qx oj i=some y:=hy
    have h1:i < oj.length:=by
     have:=YD (oj:=oj) (i:=i)
     rw[hy'] at this;simpa using this.symm
    have h2:=J.length_le (oj:=oj)
    rw[J.size] at hz
    show i < 64
    omega
   ·rename_i m
    exact g.inv.1 rfl _ (qb hy)
   ·cases hy
  ·exact QaH (g.inv.2 _ hm) (Nat.le_trans (Nat.le_of_lt (J.am (a:=b) (d:=d) hm)) hz) h k' hk'
theorem Qlt {x y:J}(h:Cp x y) (g:Q4 x):Q4 y:=by
 induction h with
 |atom=>exact .atom
 |@node a b d oj ot hk hc ih =>
  have hl:oj.length=ot.length:=by simpa using congrArg List.length hk
  refine .node (λhd q hm=>?_) λq hm=>?_
  ·have:q.1∈oj.map (·.1):=by rw[hk];exact List.mem_map.mpr ⟨q,hm,rfl⟩
   obtain⟨q',h1,h2⟩:=List.mem_map.mp this
   rw[<- h2];exact g.inv.1 hd q' h1
  ·obtain⟨i,hi,e⟩:=List.getElem_of_mem hm
   have h1:oj[i]?=some (oj[i]'(by omega)):=List.getElem?_eq_getElem _
   exact ih i _ q h1 (by rw[<- e];exact List.getElem?_eq_getElem hi) (g.inv.2 _ (mg_ h1))
theorem Qcc {j:J}(h:XM n j):Q4 j:=by
 induction h with
 |s0=>exact .node (λh=>nomatch h) λp hp=>nomatch hp
 |s1 =>
  refine .node (λh=>nomatch h) λp hp=>?_
  simp only[mc_,nn_,or_false] at hp
  rcases hp with rfl|rfl
  ·exact .atom
  ·refine .node (λh=>nomatch h) λp hp=>?_
   simp only[mc_,nn_,or_false] at hp
   rw[hp];exact .atom
 |s2 =>
  refine .node (λx_ p hp=>?_) λp hp=>?_
  ·simp only[mc_,nn_,or_false] at hp
   rw[hp];simp[Xo]
  ·simp only[mc_,nn_,or_false] at hp
   rw[hp];exact .node (λx_ p hp=>nomatch hp) λp hp=>nomatch hp
 |s3 =>
  refine .node (λx_ p hp=>?_) λp hp=>?_
  ·simp only[mc_,nn_,or_false] at hp
   rw[hp];simp[Xo]
  ·simp only[mc_,nn_,or_false] at hp
   rw[hp];exact .atom
theorem Ys {j:J}(h:XM n j):j.size<=4:=by
 induction h<;>simp[J.size,J.ab]
theorem Qcd {i j:J}(h:XM n i) (h':XM n j):Sim i j:=by
 have nl:∀ {a b:Ad},Sim (.node a false []) (.node b false []):=.aK trivial λk=>by induction k<;>exact⟨rfl,λx y h=>nomatch h⟩
 have nd:∀ {a b:Ad},Sim (.node a true []) (.node b true []):=.aK trivial λk=>by induction k<;>exact⟨rfl,λx y h=>nomatch h⟩
 induction h<;>cases h'
 ·exact nl
 ·refine .aK trivial λk=>?_
  induction k with
  |name n=>exact .none
  |idx i =>
   show OS _ (Qx _ i) (Qx _ i)
   match i with
   | 0=>exact .some (.atom .int)
   | 1 =>
    refine .some (.aK trivial λk=>?_)
    induction k with
    |name n=>exact .none
    |idx i =>
     match i with
     | 0=>exact .some (.atom .int)
     |i+1=>exact .none
   |i+2=>exact .none
 ·refine .aK trivial λk=>?_
  induction k with
  |idx i=>exact .none
  |name n =>
   show OS _ (Qj _ n) (Qj _ n)
   unfold Qj
   split
   ·exact .some nd
   ·exact .none
 ·refine .aK trivial λk=>?_
  induction k with
  |idx i=>exact .none
  |name n =>
   show OS _ (Qj _ n) (Qj _ n)
   unfold Qj
   split
   ·exact .some (.atom .bool)
   ·exact .none
def Zz (X:J) (p:Qe) (rows:List Vl):Prop:=rows.length=p.length+1/\∀i≤p.length,∃a d oj,rows[i]?=some (.ref a)/\look (p.take i) X=some (.node a d oj)
structure XW (c:Cx) (S:List Ad) (oh o:Own) (a0:Ad) (n:Nat) (X:J):Prop where
 doc:Doc c o X
 good:Q4 X
 size:X.size<=1+n
 root:X.val = .ref a0
 upd:Upd oh o S
 inS:a0∈S
 new:∀b∈X.addrs,b=a0\/oh b=none
section
theorem Qc4 {n j:Nat}{se:Expr}(h:oh a=some (lst xs n)) (hl:xs.length=j+1) (hv:xs[j]?=some v) (hk:k v m oh)
  (hs:subscripted se false (.ref a) (.int (-1) t)=operate [.ref a,.int (-1) t] (getItem (.ref a) (.int (-1) t)):=by rfl) :
  W c N ou m oh (getitemInPython (.ref a)) λb m w=>W c N ou m w (subscripted se b (.ref a) (.int (-1) t)) k:=by
 refine Y4 h rfl (.inl rfl) ?_
 rw[hs]
 refine XZ (Q6 (a:=v) (λA s fr Q hA S P hQ=>?_) hk)
 exact wpAny_getItem_list_neg (S.sg.lst h) (by decide) (by simp<;>omega) (by decide) (by
  have:((-1:Int)+(xs.toArray.size:Int)).toNat=j:=by simp<;>omega
  rw[this];simpa using hv) (hQ s.toks)
theorem qz {i j:Int}{t u:Tok}(hk:k (.bool (decide (j < i))) m oh):W c N ou m oh (compareOp .Gt (.int i t) (.int j u)) k:=Q6 (a:=.bool (decide (j < i))) (λA s fr Q hA S P hQ=>PyProof.Rows.gt_int (hQ s.toks)) hk
theorem qC {i j:Int}{t u:Tok}(hk:k (.bool (decide (i < j))) m oh):W c N ou m oh (compareOp .Lt (.int i t) (.int j u)) k:=Q6 (a:=.bool (decide (i < j))) (λA s fr Q hA S P hQ=>PyProof.Rows.lt_int (hQ s.toks)) hk
theorem QgA {i j:Int}{t u:Tok}(hk:k (.bool (decide (j<=i))) m oh):W c N ou m oh (compareOp .GtE (.int i t) (.int j u)) k:=Q6 (a:=.bool (decide (j<=i))) (λA s fr Q hA S P hQ=>PyProof.Rows.ge_int (hQ s.toks)) hk
end
theorem QnK {b:Bool}{p A B:Prop}(h:B) (h':B->b=true->p):(b=true->p)/\(b=false->(false=true->A)/\(false=false->B)):=⟨h' h,λx_=>⟨λz=>(nomatch z),λx_=>h⟩⟩
theorem Zz.mod {f:List (Str × J)->List (Str × J)}{X:J}{p:Qe}{rows:List Vl}(h:Zz X p rows):Zz (Qg f p X) p rows:=by
 refine⟨h.1,λi hi=>?_⟩
 obtain⟨a,d,oj,h1,h2⟩:=h.2 i hi
 obtain⟨a',d',af,_,h4⟩:=h.2 p.length (Nat.le_refl _)
 rw[List.take_length] at h4
 have e:p=p.take i++p.drop i:=(List.take_append_drop i p).symm
 have:=Qeo (f:=f) (q:=p.take i) (r:=p.drop i) (X:=X) (y:=.node a' d' af) (by rw[<- e];exact h4)
 rw[<- e,h2] at this
 obtain⟨kvs'',h5⟩:=Qew (f:=f) (p:=p.drop i) (a:=a) (d:=d) (oj:=oj)
 exact⟨a,d,kvs'',h1,by rw[this,Option.map_some,h5]⟩
theorem Zz.snoc {X:J}{p:Qe}{rows:List Vl}{s:Qh}(h:Zz X p rows) (hl:look (p++[s]) X=some (.node a d oj)):Zz X (p++[s]) (rows++[.ref a]):=by
 refine⟨(by rw[la_,la_,h.1];rfl),λi hi=>?_⟩
 by_cases he:i<=p.length
 ·obtain⟨a',d',af,h1,h2⟩:=h.2 i he
  exact⟨a',d',af,(by rw[List.getElem?_append_left (by have:=h.1;omega)];exact h1),(by rw[List.take_append_of_le_length he];exact h2)⟩
 ·have:i=p.length+1:=by rw[la_] at hi;simp at hi;omega
  subst this
  exact⟨a,d,oj,(by rw[<- h.1];simp),(by rw[List.take_of_length_le (by simp)];exact hl)⟩
theorem Zz.pop {X:J}{p:Qe}{rows:List Vl}(h:Zz X p rows) (hp:1 < rows.length):∃r' v,rows=r'++[v]/\Zz X p.dropLast r':=by
 have hne:rows≠[]:=by rintro rfl;simp at hp
 have hp1:1<=p.length:=Nat.le_of_lt_succ (Nat.lt_of_lt_of_eq hp h.1)
 refine⟨rows.dropLast,rows.getLast hne,(List.dropLast_concat_getLast hne).symm,(by rw[List.length_dropLast,List.length_dropLast,h.1];exact(Nat.sub_add_cancel hp1).symm),λi hi=>?_⟩
 rw[List.length_dropLast] at hi
 obtain⟨a,d,oj,h1,h2⟩:=h.2 i (Nat.le_trans hi (Nat.sub_le ..))
 refine⟨a,d,oj,?_,?_⟩
 ·rw[List.getElem?_dropLast,if_pos (by rw[h.1];exact Nat.lt_of_le_of_lt hi (Nat.sub_lt hp1 Nat.one_pos))];exact h1
 ·rw[List.dropLast_eq_take,List.take_take,Nat.min_eq_left hi];exact h2
theorem Zz.last {X:J}{p:Qe}{rows:List Vl}(h:Zz X p rows):∃a d oj,rows[p.length]?=some (.ref a)/\look p X=some (.node a d oj):=by
 obtain⟨a,d,oj,h1,h2⟩:=h.2 _ (Nat.le_refl _)
 rw[List.take_length] at h2
 exact⟨a,d,oj,h1,h2⟩
set_option tactic.hygienic true in
theorem QbT {p:Qe}{s:Qh}{e:Bool}{X x:J}(h:look p X=some (.node a d oj)) (hi:Ins d oj s e):look (p++[s]) (Qg (Qp · s x) p X)=some x:=by
 refine qL (qM h) ?_
 induction d<;>induction s
 ·exact hi.elim
 ·rename_i i
  show Qx (ZK oj i x) i=_
  rw[qF hi.1,if_neg (by omega),if_pos rfl]
 ·rename_i n
  show Qj _ n=_
  rw[QaE,if_pos rfl]
 ·exact hi.elim
theorem XW.put {S:List Ad}{oh o o':Own}{a0 a:Ad}{X x:J}{p:Qe}{s:Qh}{e d:Bool}{ob:Obj}(G:XW c S oh o a0 n X) (hl:look p X=some (.node a d oj)) (hi:Ins d oj s e) (hk:∀n,s = .name n->n∈Xo) (gx:Q4 x) (hx:x.size=1)
  (xo:Ext o o') (Dx:Doc c o' x) (fx:∀b∈x.addrs,o b=none) (hn:Q8 c (o'.put a ob) a d (Qp oj s x)):XW c S oh (o'.put a ob) a0 (n+1) (Qg (Qp · s x) p X):=by
 have ha:a∈X.addrs:=Zb hl a J.m0
 have hd:∀b∈x.addrs,b∉X.addrs:=λb hb hm=>by
  obtain⟨o1,h1⟩:=G.doc.ok.there b hm
  cases (fx b hb),h1
 have hxn:∀b∈x.addrs,oh b=none:=λb hb=>by
  cases q:oh b with
  |none=>rfl
  |some z =>
   have:=G.upd.live b (by rw[q];rfl)
   cases (fx b hb),this
 refine⟨(G.doc.ext xo).put hl ZF Dx hd hn,Yp G.good hl (qH (G.good.look hl) hi hk gx),?_,by rw[ZZ];exact G.root,?_,G.inS,λb hb=>?_⟩
 ·have:=XT (f:=(Qp · s x)) hl ZF
  have:=G.size
  omega
 ·refine Upd.put (Upd.trans G.upd (xo.upd (S:=[])) λb hb=>nomatch hb) ?_ (hn.aJ ((G.doc.ext xo).look hl).ok.ae.obj)
  rcases G.new a ha with h|h
  ·exact .inl (by rw[h];exact G.inS)
  ·exact .inr h
 ·rcases Xe G.doc hl (ZF (x:=x)) hb with h|h
  ·exact G.new b h
  ·exact .inr (hxn b h)
theorem XW.row {oh o:Own}{a0 D:Ad}{X:J}{ob:Obj}(G:XW c [a0,D] oh o a0 n X) (hD:D∉X.addrs) (hc:∀o0,o D=some o0->ob.cls=o0.cls):XW c [a0,D] oh (o.put D ob) a0 n X :=
 ⟨⟨G.doc.ok.on λb hb o' e=>(by rw[Qi (by rintro rfl;exact hD hb)];exact e),G.doc.nd⟩,G.good,G.size,G.root,G.upd.put (.inl (by simp)) hc,G.inS,G.new⟩
theorem Q4.empty:Q4 (.node a d []):=.node (λx_ p hp=>(nomatch hp)) λp hp=>(nomatch hp)
abbrev QF (c:Cx) (oh:Own) (a0 D0:Ad) (i:Nat) (m:Loc) (o:Own):Prop:=m "root"=some (.ref a0)/\m "row"=some (.ref D0)/\∃X p rows ep,XW c [a0,D0] (oh.put D0 (lst [.ref a0] 0)) o a0 i X/\o D0=some (lst rows ep)/\Zz X p rows/\p.length<=2
abbrev QG (c:Cx) (oh:Own) (m':Loc) (x:J) (a a0 D0:Ad) (i:Nat) (rows:List Vl) (ep:Nat) (p:Qe) (z:Int) (m2:Loc) (o2:Own):Prop:=m2=upd (upd m' "value" x.val) "inner" (.ref a)/\∃X p',XW c [a0,D0] (oh.put D0 (lst [.ref a0] 0)) o2 a0 (i+1) X/\o2 D0=some (lst rows ep)/\Zz X p rows/\(3 < z.fmod 8->∃r,x.val = .ref r/\p'.length=p.length+1/\Zz X p' (rows++[.ref r]))
abbrev QH (c:Cx) (o:Own) (m1:Loc) (z:Int) (v:Vl) (m':Loc) (o':Own):Prop:=m'=m1/\∃x,v=x.val/\Ext o o'/\Doc c o' x/\Q4 x/\x.size=1/\(∀b∈x.addrs,o b=none)/\(3 < z.fmod 8->x.isNode=true)
theorem Qcz {a0 L:Ad}{d0:Bool}{ns:List Vl}{n0:Nat}{k:KO}(D:Doc c oh (.node a0 d0 [])) (hL:oh L=some (lst ns n0)) (hi:∀v∈ns,∃i t,v = .int i t) (hl:ns.length<=60) (hne:L≠a0)
  (hk:∀o' X,XW c [a0] oh o' a0 ns.length X->k (.ref a0) o'):CW c (N+2) oh (call (.ref 1291) [.ref a0,.ref L] []) k:=by
 refine Qkj λou kf=>?_
 refine Qm ?_
 left
 refine⟨Qd (by simp),λD0 hD0=>?_⟩
 left
 refine X0 ?_
 left
 have xr:Ext oh (oh.put D0 (lst [.ref a0] 0)):=by walk_at "ext"
 refine⟨_,_,_,(QF c oh a0 D0),Xv (QE hD0.own hL),⟨rfl,rfl,.node a0 d0 [],[],[.ref a0],0,⟨D.ext xr,.empty,by simp[J.size,J.ab],rfl,.refl,by simp,λb hb=>?_⟩,Qa ..,⟨rfl,λi hi=>?_⟩,by simp⟩,λi m o J q hq=>?_,λi v m o hi' hP J=>?_,λm o J=>?_⟩
 ·simp[J.addrs,J.aa] at hb;exact .inl hb
 ·have:i=0:=by simpa using hi
  subst this
  exact⟨a0,d0,[],rfl,rfl⟩
 ·obtain⟨j1,j2,X,p,rows,ep,G,_⟩:=J
  rw[ms_.mp hq]
  exact G.upd.keep _ _ (by simp[hne,hD0.ne' hL]) (QE hD0.own hL)
 ·obtain⟨j1,j2,X,p,rows,ep,G,hr,⟨o1,o2⟩,hp2⟩:=J
  obtain⟨z,t,rfl⟩:=hi v (mg_ hP)
  have hrl:rows.length<=3:=by omega
  refine Zv kf rfl ?_
  left
  refine Xp (by decide) λt1=>?_
  left
  refine Yb (j:=8) (by decide) (by decide) λt2=>?_
  left
  refine Yv ?_
  left
  obtain⟨a,d,oj,hra,hla⟩:=Zz.last ⟨o1,o2⟩
  have Dn:=G.doc.look hla
  have hkl:=J.length_le (oj:=oj)
  have hXs:=ZL hla
  have hXz:=G.size
  rw[J.size] at hXs
  have e0:0<=z.fmod 8:=Ym (j:=8) (by decide)
  have e8:z.fmod 8 < 8:=Yl (j:=8) (by decide)
  have hD0n:D0≠a0:=by
   obtain⟨ob,hob⟩:=D.ok.there a0 J.m0
   exact hD0.ne hob
  have hD0a:D0∉X.addrs:=λhm=>by
   rcases G.new D0 hm with h|h
   ·exact hD0n h
   ·cases (Qa ..),h
  generalize hm:upd (upd (upd m _ _) _ _) (zz "rest") _=m1
  have f1:m1 "deed"=some (.int (z.fmod 8) t1):=by rw[<- hm];nofun
  have f2:m1 "rest"=some (.int (z.fdiv 8) t2):=by rw[<- hm];nofun
  have f3:m1 "root"=some (.ref a0):=by rw[<- hm];nofun
  have f4:m1 "row"=some (.ref D0):=by rw[<- hm];nofun
  clear hm
  refine QnK ?_ λhB h7=>?_
  ·refine Qm ?_
   refine Qau kf rfl ?_ rfl
   refine Qk (k:=(QH c o m1 z)) ?_ ?_
   ·left
    refine qC ?_
    left
    have empty:∀ (D1:Ad) (ob:Obj) (dd:Bool),New c o D1->Q8 c (o.put D1 ob) D1 dd []->∃x,Value.ref D1=x.val/\Ext o (o.put D1 ob)/\Doc c (o.put D1 ob) x/\Q4 x/\x.size=1/\(∀b∈x.addrs,o b=none)/\(3 < z.fmod 8->x.isNode=true):=λD1 ob dd hD1 hn =>
     ⟨.node D1 dd [],rfl,Ext.put hD1.own,⟨.node ⟨hD1.base,hn⟩ λp hp=>(nomatch hp),nd1 rfl⟩,.empty,rfl,fa1 rfl hD1.own,λx_=>rfl⟩
    refine⟨λhb=>?_,λhb=>?_⟩
    ·left
     refine Qf (Qf0 λD1 xs hD1 hx8 hxa=>?_)
     left
     refine Qal λt3=>?_
     left
     refine Xp (by decide) λt4=>?_
     have q0:0<=(z.fmod 8+z.fdiv 8).fmod 8:=Ym (j:=8) (by decide)
     have q8:(z.fmod 8+z.fdiv 8).fmod 8 < 8:=Yl (j:=8) (by decide)
     have hq:((z.fmod 8+z.fdiv 8).fmod 8).toNat < xs.length:=hx8▸fm8
     refine Xz (Qa ..) q0 (List.getElem?_eq_getElem hq) (by omega) ?_
     have ha:=hxa _ (List.getElem_mem hq)
     exact⟨rfl,.atom _,rfl,Ext.put hD1.own,⟨.atom ha,List.nodup_nil⟩,.atom,rfl,λb hb=>(nomatch hb),λh=>absurd (by simpa using hb:z.fmod 8 < 4) (Int.not_lt.mpr h)⟩
    ·left
     refine Yv ?_
     left
     refine⟨λhb=>?_,λhb=>?_⟩
     ·left
      refine⟨Qd (by simp),λD1 hD1=>?_⟩
      exact⟨rfl,empty D1 _ false hD1 ⟨0,Qa ..⟩⟩
     ·refine Qbi λD1 ob hD1 hd1=>?_
      exact⟨rfl,empty D1 _ true hD1 ⟨ob,Qa ..,hd1⟩⟩
   ·rintro v m' o' ⟨rfl,x,rfl,xo,Dx,gx,hx,fx,hxn⟩
    left
    refine Ye λt3=>?_
    refine Qc4 (xo _ _ hr) o1 hra ?_
    have hDa:D0≠a:=λh=>hD0a (h▸Zb hla a J.m0)
    have okn:=(Dn.ext xo).ok
    have hnx:=okn.ae
    have kd:Qv o' (.ref a) (J.node a d oj).kd:=okn.kdOf
    have tail:∀ (s:Qh) (e:Bool) (ob:Obj),Ins d oj s e->(∀n,s = .name n->n∈Xo)->Q8 c (o'.put a ob) a d (Qp oj s x)->∃X p',XW c [a0,D0] (oh.put D0 (lst [.ref a0] 0)) (o'.put a ob) a0 (i+1) X/\(o'.put a ob) D0=some (lst rows ep)/\Zz X p rows/\(3 < z.fmod 8->∃r,x.val = .ref r/\p'.length=p.length+1/\Zz X p' (rows++[.ref r])):=by
     intro s e ob his hin hn
     refine⟨_,p++[s],G.put hla his hin gx hx xo Dx fx hn,by rw[Qi hDa];exact xo _ _ hr,Zz.mod ⟨o1,o2⟩,λh3=>?_⟩
     have:=hxn h3
     cases x with
     |atom v=>cases this
     |node b bd bk=>exact⟨b,rfl,by simp,Zz.snoc (Zz.mod ⟨o1,o2⟩) (QbT hla his)⟩
    refine Xa (X3 (R:=(QG c oh m' x a a0 D0 i rows ep p z)) ?_ ?_)
    ·induction d with
     |false =>
      obtain⟨n1,ho⟩:=hnx.obj
      left
      refine Zq F.slot_list_append F.type_list_append ho ?_
      left
      refine ZU ho hnx.base (Qd (by omega)) λn'=>?_
      left
      exact⟨rfl,rfl,tail (.idx oj.length) false (lst (Q3 oj++[x.val]) n') ⟨Nat.le_refl _,λh=>nomatch h⟩ (λn h=>nomatch h) ⟨n',by rw[Qa];exact congrArg (λz=>some (lst z n')) (by show _=Q3 (ZK oj oj.length x);rw[qi (Nat.le_refl _),List.take_of_length_le (by simp),List.drop_eq_nil_of_le (by simp)])⟩⟩
     |true =>
      obtain⟨ob,ho,hd⟩:=hnx.obj
      left
      refine Qbw ho hd hnx.base (Qd (by omega)) λt4=>?_
      left
      refine Yb (j:=8) (by decide) (by decide) λt5=>?_
      refine Qal λt6=>?_
      left
      refine Xp (by decide) λt7=>?_
      generalize hw:((List.map (λp:Str × J=>(p.1,p.2.val)) oj).length:Int)+(z.fdiv 8).fdiv 8=w
      have q0:0<=w.fmod 8:=Ym (j:=8) (by decide)
      have q8:w.fmod 8 < 8:=Yl (j:=8) (by decide)
      obtain⟨n,u,hn1,hn2⟩:=Qex (w.fmod 8).toNat (by omega)
      refine Qbx (Qey) λhNm=>?_
      refine Xz hNm q0 hn1 (by omega) ?_
      refine Y8 ho hd hnx.base (Qd (by omega)) λob' hd'=>?_
      left
      refine⟨rfl,rfl,tail (.name n) false ob' rfl (λm h=>by cases h;exact hn2) ⟨ob',Qa ..,?_⟩⟩
      have:=hd'
      rw[QaX (by have:=IsD.nodup hd;rwa [Xd] at this)] at this
      exact this
    ·rintro m2 o2 ⟨rfl,X2,p2,G2,hr2,hop2,hnew⟩
     have fin:i+1=i+1:=rfl
     left
     refine qz ?_
     left
     refine⟨λhb=>?_,λhb=>⟨λh=>(nomatch h),λx_=>?_⟩⟩
     ·have h3:3 < z.fmod 8:=by simpa using hb
      obtain⟨r,hxr,hpl,hop3⟩:=hnew h3
      left
      refine ZI hr2 (Qd (by omega)) λt8=>?_
      left
      refine qC ?_
      left
      refine⟨λhb2=>?_,λhb2=>?_⟩
      ·left
       refine Zq F.slot_list_append F.type_list_append hr2 ?_
       left
       refine ZU hr2 hD0.base (Qd (by omega)) λn'=>?_
       left
       have hD2:D0∉X2.addrs:=λhm=>by
        rcases G2.new D0 hm with h|h
        ·exact hD0n h
        ·cases (Qa ..),h
       have hlt:rows.length < 3:=by have:(rows.length:Int) < 3:=(by simpa using hb2);omega
       refine⟨by nofun,by nofun,X2,p2,rows++[x.val],n',G2.row hD2 (λo0 e=>by cases hr2,e;rfl),Qa ..,by rw[hxr];exact hop3,by omega⟩
      ·left
       exact⟨by nofun,by nofun,X2,p,rows,ep,G2,hr2,hop2,hp2⟩
     ·left
      exact⟨by nofun,by nofun,X2,p,rows,ep,G2,hr2,hop2,hp2⟩
  ·left
   refine ZI hr (Qd (by omega)) λt8=>?_
   left
   refine qz ?_
   left
   refine⟨λhb=>?_,λx_=>⟨λh=>(nomatch h),λx_=>hB⟩⟩
   have hlt:1 < rows.length:=by have:(1:Int) < rows.length:=(by simpa using hb);omega
   obtain⟨r',v',rfl,hop⟩:=Zz.pop ⟨o1,o2⟩ hlt
   left
   refine Zq F.slot_list_pop F.type_list_pop hr ?_
   left
   refine Qg2 hr hD0.base (Qd (by simp at hrl;omega)) λn'=>?_
   left
   have G1:=G.row (ob:=lst r' n') hD0a (λo0 e=>by cases hr,e;rfl)
   exact⟨f3,f4,X,p.dropLast,r',n',⟨G1.doc,G1.good,by omega,G1.root,G1.upd,G1.inS,G1.new⟩,Qa ..,hop,by rw[List.length_dropLast];omega⟩
 ·obtain⟨j1,j2,X,p,rows,ep,G,hr,hop,hp2⟩:=J
  refine ZV ?_
  left
  exact hk _ X ⟨G.doc,G.good,G.size,G.root,Upd.trans xr.upd G.upd (λb hb=>by
   simp only[mc_,nn_,or_false] at hb
   rcases hb with h|h
   ·exact .inl (by rw[h];exact .head _)
   ·exact .inr (by rw[h];exact hD0.own)),by simp,λb hb=>(G.new b hb).imp id λh=>xr.none h⟩
structure Fn (S Q:Ad->Ad->Prop):Prop where
 fn:∀ {a b b'},S a b->Q a b'->b=b'
 inj:∀ {a a' b},S a b->Q a' b->a=a'
 sub:∀ {a b},S a b->Q a b
structure Pairs (c:Cx) (oh:Own) (L:Ad) (Q:Ad->Ad->Prop) (B:Nat):Prop where
 base:c.H.get? L=none
 is:∃rs n,oh L=some (lst rs n)/\rs.length<=B/\∀t∈rs,∃r x y ox oy,t = .ref r/\oh r=some (tup [.ref x,.ref y])/\Q x y/\oh x=some ox/\oh y=some oy/\ox.cls≠.type "tuple"/\oy.cls≠.type "tuple"
inductive YZ (c:Cx) (o:Own) (Q:Ad->Ad->Prop) (L:Ad):Vl->J->Prop
 |mk {r x y:_}:o r=some (tup [x.val,y.val])->Qr Q x y->Ok c o x->Ok c o y->L∉x.addrs->L∉y.addrs->YZ c o Q L (.ref r) x
theorem YZ.ext {o o':Own}{Q:Ad->Ad->Prop}{L:Ad}{t:Vl}{x:J}(h:YZ c o Q L t x) (hx:ExtBut L o o') (hL:∃xs n,o L=some (lst xs n)):YZ c o' Q L t x:=by
 obtain⟨xs,n,hL⟩:=hL
 induction h with
 |mk h1 h2 h3 h4 h5 h6=>exact .mk (hx.tups hL _ _ h1) h2 (h3.on λb hb ob e=>hx b ob (by rintro rfl;exact h5 hb) e) (h4.on λb hb ob e=>hx b ob (by rintro rfl;exact h6 hb) e) h5 h6
structure X8 (c:Cx) (o:Own) (Q:Ad->Ad->Prop) (oj:LJ) (L:Ad) (ks:List Vl) (i:Nat):Prop where
 len:ks.length=i
 row:∀ (j:Nat) (t:Vl),ks[j]?=some t->∃q:Str × J,oj[j]?=some q/\YZ c o Q L t q.2
set_option tactic.hygienic true in
theorem X8.snoc {o o':Own}{Q:Ad->Ad->Prop}{L:Ad}{ks:List Vl}{t:Vl}{q:Str × J}(h:X8 c o Q oj L ks i) (hx:Ext o o') (hL:∃xs n,o L=some (lst xs n)) (hq:oj[i]?=some q) (ht:YZ c o' Q L t q.2):X8 c o' Q oj L (ks++[t]) (i+1):=by
 refine⟨by rw[la_,h.len];rfl,λj u hu=>?_⟩
 rw[List.getElem?_append] at hu
 split at hu
 ·obtain⟨q',h1,h2⟩:=h.row j u hu
  exact⟨q',h1,h2.ext hx.but hL⟩
 ·rename_i hlt
  have hlen:=h.len
  have:j=i:=by
   have:=(ge_.mp hu).1
   simp at this;omega
  subst this
  rw[hlen,Nat.sub_self] at hu
  cases hu
  exact⟨q,hq,ht⟩
theorem QnE {l l':List (Str × Tok)}(h:l.map (·.1)=l'.map (·.1)) {j:Nat}{x y:Vl}(hx:(strValues l)[j]?=some x) (hy:(strValues l')[j]?=some y):KEq x y true:=by
 unfold strValues at hx hy
 rw[gm_] at hx hy
 obtain⟨p,hp,rfl⟩:=mq_.mp hx
 obtain⟨q,hq,rfl⟩:=mq_.mp hy
 have h1:=congrArg (·[j]?) h
 simp only[gm_,hp,hq,Option.map_some,Option.some.injEq] at h1
 have:=KEq.str p.1 p.2 q.1 q.2
 rw[h1,beq_self_eq_true] at this
 rw[h1];exact this
theorem ExtBut.cj {L:Ad}{o o':Own}(h:ExtBut L o o') (hL:o L=some (lst xs n)):∀a ys,o a=some (tup ys)->o' a=some (tup ys):=h.tups hL
theorem Qgz {v w:Vl}(h:ZS v w) (hk:k (.bool true) m oh):W c N ou m oh (compareOp .Eq v w) k:=by
 cases h
 ·exact Qc0 hk
 ·exact Qbn (by rw[beq_self_eq_true];exact hk)
 ·exact Yv (by rw[beq_self_eq_true];exact hk)
 ·exact Yw (by rw[beq_self_eq_true];exact hk)
theorem Q8.bw {o:Own}(h:Q8 c o a d oj):∀ob,o a=some ob->ob.cls≠.type "tuple":=λob e=>by rw[h.cls e];induction d<;>decide
abbrev QA (c:Cx) (oh:Own) (S:Ad->Ad->Prop) (L a b:Ad) (oj:LJ) (m2:Loc) (o2:Own):Prop:=∃KL,KL≠L/\m2 "kids"=some (.ref KL)/\m2 "plain"=some (.ref a)/\m2 "work"=some (.ref b)/\m2 "pairs"=some (.ref L)/\Ext oh o2/\∃ks n,o2 KL=some (lst ks n)/\X8 c o2 S oj L ks oj.length
abbrev QB (o2 oh:Own) (a b:Ad) (rs:List Vl) (i:Nat) (ys:List Vl) (o:Own):Prop:=o=o2/\ys.length<=i/\(∀v∈ys,v = .ref b)/\(ys=[]->∀t∈rs.take i,∀r x y,t = .ref r->oh r=some (tup [.ref x,.ref y])->x≠a)
abbrev QC (c:Cx) (oh:Own) (S Q:Ad->Ad->Prop) (B:Nat) (L KL:Ad) (oj:LJ) (ks:List Vl) (nk:Nat) (m3:Loc) (o3:Own):Prop:=m3 "kids"=some (.ref KL)/\m3 "pairs"=some (.ref L)/\ExtBut L oh o3/\Pairs c o3 L Q (B+1)/\o3 KL=some (lst ks nk)/\X8 c o3 S oj L ks oj.length
abbrev QD (c:Cx) (oh:Own) (S Q:Ad->Ad->Prop) (B:Nat) (L KL:Ad) (oj:LJ) (ks:List Vl) (nk:Nat) (i:Nat) (ys:List Vl) (o:Own):Prop:=ExtBut L oh o/\Pairs c o L Q (B+1+J.ab (oj.take i))/\o KL=some (lst ks nk)/\X8 c o S oj L ks oj.length/\ys.length=i/\∀v∈ys,v = .bool true
theorem q9 {P W:J}{L:Ad}{S Q:Ad->Ad->Prop}{B:Nat}{k:KO}(hP:Ok c oh P) (hW:Ok c oh W) (hs:Qr S P W) (hf:Fn S Q) (hp:Pairs c oh L Q B) (hB:B+P.size<=10000)
  (hz:P.size < 64) (hN:P.size+4<=N) (hLP:L∉P.addrs) (hLW:L∉W.addrs) (hk:∀o',ExtBut L oh o'->Pairs c o' L Q (B+P.size)->k (.bool true) o'):CW c N oh (call (.ref 1339) [P.val,W.val,.ref L] []) k:=by
 induction hn:P.size using Nat.strongRecOn generalizing oh N P W B k with|_ n ih =>
 subst hn
 replace ih:∀ {N:Nat}{oh:Own}{P' W':J}{B:Nat}{k:KO},Ok c oh P'->Ok c oh W'->Qr S P' W'->Pairs c oh L Q B->B+P'.size<=10000->P'.size < 64->P'.size+4<=N->L∉P'.addrs->L∉W'.addrs->P'.size < P.size ->
  (∀o',ExtBut L oh o'->Pairs c o' L Q (B+P'.size)->k (.bool true) o')->CW c N oh (call (.ref 1339) [P'.val,W'.val,.ref L] []) k:=λh1 h2 h3 h4 h5 h6 h7 h8 h9 h10 h11=>ih _ h10 h1 h2 h3 h4 h5 h6 h7 h8 h9 h11 rfl
 have hps:=P.size_pos
 obtain⟨M,rfl⟩:∃M,N=M+3+1:=⟨N - 4,by omega⟩
 refine Qkk λou kf=>?_
 have kdP:=hP.kdOf
 have kdW:=hW.kdOf
 cases hs with
 |@atom v w hv =>
  have fin:=hk oh .refl ⟨hp.base,let ⟨rs,n,h1,h2,h3⟩:=hp.is;⟨rs,n,h1,by omega,h3⟩⟩
  clear kdP kdW
  obtain⟨av,aw,kd,kv,kw⟩:ZA (J.atom v).val/\ZA (J.atom w).val/\∃kd,Qv oh (J.atom v).val kd/\Qv oh (J.atom w).val kd:=hv.kind
  refine Qm ?_
  left
  refine Qbn ?_
  rw[beq_self_eq_true]
  left
  refine Qgz hv ?_
  left
  exact fin
 |@node a b d oj ot hQ hk1 hk2 =>
  have bc:Zk S d oj ot:=λk=>⟨hk1 k,hk2 k⟩
  have hkl:=J.length_le (oj:=oj)
  have hszP:(J.node a d oj).size=1+J.ab oj:=by rw[J.size]
  have hka:∀q∈oj,q.2.size < (J.node a d oj).size:=λq hq=>J.am hq
  refine X3 (R:=(QA c oh S L a b oj)) ?_ ?_
  ·cases d with
   |true =>
    obtain⟨hba,oa,ha,hda⟩:=hP.ae
    obtain⟨hbb,ob,hb,hdb⟩:=hW.ae
    left
    have na:(oj.map (·.1)).Nodup:=by rw[<- Xd];exact IsD.nodup hda
    have nb:(ot.map (·.1)).Nodup:=by rw[<- Xd];exact IsD.nodup hdb
    have perm:(oj.map (·.1)).Perm (ot.map (·.1)):=by
     refine(List.perm_ext_iff_of_nodup na nb).mpr λn=>?_
     have h1:(Qj oj n).isSome=(Qj ot n).isSome:=hk1 (.name n)
     have h2:=qG (oj:=oj) (n:=n)
     have h3:=qG (oj:=ot) (n:=n)
     cases q1:Qj oj n<;>cases q2:Qj ot n<;>rw[q1,q2] at h1<;>simp[q1,q2] at h1 h2 h3 ⊢<;>simp_all
    have hll:ot.length=oj.length:=by simpa using perm.length_eq.symm
    refine Qdj (XU hba) ha hda (by omega) λD1 l1 n1 hD1 pl1 sl1=>?_
    left
    refine Qdj (XU hbb) (QE hD1.own hb) hdb (by omega) λD2 l2 n2 hD2 pl2 sl2=>?_
    have el:l1.map (·.1)=l2.map (·.1):=Qnr sl1 sl2 (pl1.trans (by rw[Xd];exact perm.trans (by rw[<- Xd];exact pl2.symm)))
    have ell:(strValues l1).length=(strValues l2).length:=by have:=congrArg List.length el;simpa [strValues] using this
    refine Qdd (e:=λx_=>true) (QE hD2.own (Qa ..)) (Qa ..) ell (λj x y h1 h2=>QnE el h1 h2) ?_
    rw[show (!(List.range (strValues l1).length).all λx=>true)=false by simp]
    left
    refine Qat kf rfl (Xj kf rfl) rfl ?_
    left
    have x2:Ext oh ((oh.put D1 (lst (strValues l1) n1)).put D2 (lst (strValues l2) n2)):=by walk_at "ext"
    obtain⟨rs,nL,hL,_⟩:=hp.is
    refine⟨_,_,_,λi ys o=>Ext oh o/\X8 c o S oj L ys i,qr (x2 _ _ ha) hda (XU hba),⟨x2,rfl,λj t h=>by simp at h⟩,λi ys o J q hq=>?_,?_,?_⟩
    ·refine memS hq ?_;exact J.1 _ _ ha
    ·rintro i v ys o oq mc hi ⟨x,xv,t,hPv,rfl⟩ ⟨jx,jr⟩ ac aC _
     have kf:=XS aC
     have hv1:=ac (zz "plain") _ rfl rfl
     have hv2:=ac (zz "work") _ rfl rfl
     rw[gm_] at hPv
     obtain⟨q,hq,e⟩:=mq_.mp hPv
     cases e
     have hgn:Qj oj q.1=some q.2:=QaF na (mg_ hq)
     obtain⟨y,hy,hsy⟩:=bc.there (k:=.name q.1) hgn
     have hy':Qj ot q.1=some y:=hy
     have hil:ys.length < 64:=by rw[jr.len];rw[lm_] at hi;omega
     refine Zv kf rfl (Yy ⟨λx_=>⟨Qd (by omega),?_⟩,λz=>nomatch z⟩)
     left
     refine Zs (jx _ _ ha) hda (v:=q.2.val) (by show valueAt (Q2 oj) _=_;rw[Z1,hgn];rfl) ?_
     left
     refine Zs (jx _ _ hb) hdb (v:=y.val) (by show valueAt (Q2 ot) _=_;rw[Z1,hy'];rfl) ?_
     refine⟨Qd (by simp),λD3 hD3=>?_⟩
     have x3:=jx.ai (o:=tup [q.2.val,y.val]) hD3.own
     refine⟨Zj rfl ac,x3,jr.snoc (Ext.put hD3.own) ⟨rs,nL,jx _ _ hL⟩ hq (.mk (Qa ..) hsy ((hP.kid (mg_ hq)).ext x3) ((hW.kid (qb hy')).ext x3) (λhm=>hLP ?_) λhm=>hLW ?_)⟩
     ·rw[J.addrs];exact .tail _ (J.ad (mg_ hq) hm)
     ·rw[J.addrs];exact .tail _ (J.ad (qb hy') hm)
    ·rintro ys o ⟨jx,jr⟩ D3 ep hD3
     rw[lm_] at jr
     obtain⟨jl,jrr⟩:=jr
     refine ZV ?_
     refine⟨rfl,D3,hD3.ne (jx _ _ hL),Zf ..,by nofun,by nofun,by nofun,jx.ai hD3.own,ys,ep,Qa ..,jl,λj t h=>?_⟩
     obtain⟨q',h1,h2⟩:=jrr j t h
     exact⟨q',h1,h2.ext (Ext.put hD3.own).but ⟨rs,nL,jx _ _ hL⟩⟩
   |false =>
    obtain⟨hba,na,ha⟩:=hP.ae
    obtain⟨hbb,nb,hb⟩:=hW.ae
    have hll:=bc.len
    obtain⟨rs,nL,hL,_⟩:=hp.is
    left
    refine ZI ha (Qd (by omega)) λt1=>?_
    left
    refine ZI hb (Qd (by omega)) λt2=>?_
    refine QgX ?_
    rw[show (!(((List.map (λx:Str × J=>x.2.val) oj).length:Int)==(List.map (λx:Str × J=>x.2.val) ot).length))=false by simp[hll]]
    left
    refine Qf (Qcv ha hb λn o' Z=>?_)
    left
    have xz:=Z.ext
    refine Qf (QfR zip_ext (Qf5 (J:=λi acc o=>Ext (o'.drop [n+4,n+3,n,n+1]) o/\X8 c o S oj L acc i) Z ha hb (by rw[lm_,lm_];exact hll) ⟨.refl,rfl,λj t h=>by simp at h⟩ (λi acc o J=>J.1) λi x y acc o T hx hy J hT=>?_) (Qd (by omega)) λKL acc ep o aN J hKL=>?_)
    ·obtain⟨jx,jr⟩:=J
     rw[gm_] at hx hy
     obtain⟨q,hq,rfl⟩:=mq_.mp hx
     obtain⟨q',hq',rfl⟩:=mq_.mp hy
     have hsy:Qr S q.2 q'.2:=hk2 (.idx i) _ _ (by show Qx oj i=_;rw[XQ,hq];rfl) (by show Qx ot i=_;rw[XQ,hq'];rfl)
     have x3:=(xz.trans jx).ai (o:=tup [q.2.val,q'.2.val]) hT.own
     refine⟨jx.ai hT.own,jr.snoc (Ext.put hT.own) ⟨rs,nL,(xz.trans jx) _ _ hL⟩ hq (.mk (Qa ..) hsy ((hP.kid (mg_ hq)).ext x3) ((hW.kid (mg_ hq')).ext x3) (λhm=>hLP ?_) λhm=>hLW ?_)⟩
     ·rw[J.addrs];exact .tail _ (J.ad (mg_ hq) hm)
     ·rw[J.addrs];exact .tail _ (J.ad (mg_ hq') hm)
    ·obtain⟨jx,jr⟩:=J
     left
     have xk:=Ext.put (o:=lst acc ep) hKL.own
     obtain⟨jl,jrr⟩:=jr
     refine⟨rfl,KL,hKL.ne ((xz.trans jx) _ _ hL),Zf ..,by nofun,by nofun,by nofun,(xz.trans jx).trans xk,acc,ep,Qa ..,by rw[jl,lm_],λj t h=>?_⟩
     obtain⟨q',h1,h2⟩:=jrr j t h
     exact⟨q',h1,h2.ext xk.but ⟨rs,nL,(xz.trans jx) _ _ hL⟩⟩
  ·rintro m2 o2 ⟨KL,hKLL,m_k,m_p,m_w,m_l,xo,ks,nk,hKL,KR⟩
   obtain⟨rs,nL,hL,hrl,hrs⟩:=hp.is
   obtain⟨oa,hoa⟩:=hP.there a J.m0
   obtain⟨ob,hob⟩:=hW.there b J.m0
   have noRef:∀ (x:Ad),x≠a->¬ (x=a):=λx h=>h
   left
   refine Qat kf rfl (Xj kf rfl) rfl ?_
   left
   refine⟨_,_,_,(QB o2 oh a b rs),Xv (xo _ _ hL),⟨rfl,Nat.le_refl _,λv h=>(nomatch h),λx_ t h=>by simp at h⟩,λi ys o J q hq=>?_,?_,?_⟩
   ·rw[ms_.mp hq,J.1];exact xo _ _ hL
   ·rintro i v ys o oq mc hi hPv ⟨rfl,jl,jb,jn⟩ ac aC _
    have kf:=XS aC
    have hv1:=ac (zz "plain") _ rfl m_p
    obtain⟨r,x,y,ox,oy,rfl,hr,hQxy,hx,hy,nx,ny⟩:=hrs v (mg_ hPv)
    refine YM kf rfl rfl (xo _ _ hr) ?_
    refine Qbt ?_
    left
    have hrl':ys.length<=10000:=by omega
    by_cases hxa:x=a
    ·refine Qc8 hxa ?_
     left
     refine⟨Nat.le_trans hrl' (by decide),?_⟩
     left
     refine⟨Zj rfl (Zj rfl ac),rfl,by omega,λv hv=>?_,λh=>by simp at h⟩
     rcases ma_.mp hv with h|h
     ·exact jb v h
     ·rw[ms_.mp h,hf.fn hQ (hxa▸hQxy)]
    ·refine Qap hxa (ZY (xo _ _ hx)) (ZY (xo _ _ hoa)) nx ?_
     left
     refine⟨Zj rfl (Zj rfl ac),rfl,by omega,jb,λh t ht r' x' y' e1 e2=>?_⟩
     rw[List.take_add_one,hPv] at ht
     rcases ma_.mp ht with ht|ht
     ·exact jn h t ht r' x' y' e1 e2
     ·have:=ms_.mp (by simpa using ht)
      cases this,e1
      exact λe=>hxa ((Qfl (hr.symm.trans e2)).1.trans e)
   ·rintro ys o ⟨rfl,jl,jb,jn⟩ D1 ep1 hD1
    rw[List.take_length] at jn
    have hrl':ys.length<=10000:=by omega
    have xD1:=Ext.put (o:=lst ys ep1) hD1.own
    have xo1:=xo.trans xD1
    have rowsO:∀ {o3:Own},ExtBut L (o.put D1 (lst ys ep1)) o3->o3 KL=some (lst ks nk)/\X8 c o3 S oj L ks oj.length:=λh3=>by
     refine⟨h3 _ _ hKLL (xD1 _ _ hKL),KR.len,λj t h=>?_⟩
     obtain⟨q,h1,h2⟩:=KR.row j t h
     exact⟨q,h1,(h2.ext xD1.but ⟨rs,nL,xo _ _ hL⟩).ext h3 ⟨rs,nL,xo1 _ _ hL⟩⟩
    refine X3 (R:=(QC c oh S Q B L KL oj ks nk)) ?_ ?_
    ·left
     refine⟨Qd (by simp),λD2 hD2=>?_⟩
     have xD2:=Ext.put (o:=lst [] 0) hD2.own
     by_cases hys:ys=[]
     ·refine Qbo (e:=λx_=>true) (QE hD2.own (Qa ..)) (Qa ..) (by rw[hys]) (λj x y h=>by rw[hys] at h;cases h) ?_
      rw[show ((List.range ys.length).all λx_=>true)=true by rw[hys];rfl]
      left
      refine qv (Xj kf rfl) ?_
      left
      have hLD:((o.put D1 (lst ys ep1)).put D2 (lst [] 0)) L=some (lst rs nL):=(xo1.trans xD2) _ _ hL
      refine⟨_,_,_,λi zs o'=>o'=(o.put D1 (lst ys ep1)).put D2 (lst [] 0)/\zs=[],Xv hLD,⟨rfl,rfl⟩,λi zs o' J q hq=>?_,?_,?_⟩
      ·rw[ms_.mp hq,J.1];exact hLD
      ·rintro i v zs o' oq mc hi hPv ⟨rfl,rfl⟩ ac aC _
       have kf:=XS aC
       have hv1:=ac (zz "work") _ rfl m_w
       obtain⟨r,x,y,ox,oy,rfl,hr,hQxy,hx,hy,nx,ny⟩:=hrs v (mg_ hPv)
       refine YM kf rfl rfl ((xo1.trans xD2) _ _ hr) ?_
       refine Qbt ?_
       left
       have hyb:y≠b:=λe=>jn hys _ (mg_ hPv) r x y rfl hr ((hf.inj hQ (e▸hQxy)).symm)
       refine Qap hyb (ZY ((xo1.trans xD2) _ _ hy)) (ZY ((xo1.trans xD2) _ _ hob)) ny ?_
       left
       exact⟨Zj rfl (Zj rfl ac),rfl,rfl⟩
      ·rintro zs o' ⟨rfl,rfl⟩ D3 ep3 hD3
       left
       refine⟨Qd (by simp),λD4 hD4=>?_⟩
       refine Qdd (e:=λx_=>true) (QE hD4.own (Qa ..)) (Qa ..) rfl (λj x y h=>by simp at h) ?_
       rw[show (!(List.range ([]:List Vl).length).all λx_=>true)=false by simp]
       left
       have x4:Ext oh ((((o.put D1 (lst ys ep1)).put D2 (lst [] 0)).put D3 (lst [] ep3)).put D4 (lst [] 0)):=((xo1.trans xD2).ai hD3.own).ai hD4.own
       refine Zq F.slot_list_append F.type_list_append (x4 _ _ hL) ?_
       left
       refine⟨Qd (by simp),λD5 hD5=>?_⟩
       left
       have x5:=x4.ai (o:=tup [.ref a,.ref b]) hD5.own
       refine ZU (x5 _ _ hL) hp.base (Nat.le_trans (by omega:rs.length<=10000) (by decide)) λn'=>?_
       left
       have y5:ExtBut L (o.put D1 (lst ys ep1)) ((((((o.put D1 (lst ys ep1)).put D2 (lst [] 0)).put D3 (lst [] ep3)).put D4 (lst [] 0)).put D5 (tup [.ref a,.ref b])).put L (lst (rs++[.ref D5]) n')):=(((xD2.ai hD3.own).ai hD4.own).ai hD5.own).but.trans .put
       obtain⟨r1,r2⟩:=rowsO y5
       have e5:=x5.but (a:=L) |>.trans (.put (o:=lst (rs++[.ref D5]) n'))
       have hLa:a≠L:=Qeu J.m0 hLP
       have hLb:b≠L:=Qeu J.m0 hLW
       have ta:oa.cls≠.type "tuple":=hP.ae.obj.bw oa hoa
       have tb:ob.cls≠.type "tuple":=hW.ae.obj.bw ob hob
       refine⟨rfl,by nofun,by nofun,e5,⟨hp.base,rs++[.ref D5],n',Qa ..,by omega,λt ht=>?_⟩,r1,r2⟩
       rcases ma_.mp ht with ht|ht
       ·obtain⟨r,x,y,ox,oy,h1,h2,h3,h4,h5,h6,h7⟩:=hrs t ht
        have hne:∀ {w:Ad}{ow:Obj},oh w=some ow->∃ow',((((((o.put D1 (lst ys ep1)).put D2 (lst [] 0)).put D3 (lst [] ep3)).put D4 (lst [] 0)).put D5 (tup [.ref a,.ref b])).put L (lst (rs++[.ref D5]) n')) w=some ow'/\ow'.cls=ow.cls:=λ {w ow} hw=>by
         by_cases hwL:w=L
         ·rw[hwL] at hw;cases hL,hw;exact⟨lst (rs++[.ref D5]) n',by rw[hwL];exact Qa ..,rfl⟩
         ·exact⟨ow,e5 _ _ hwL hw,rfl⟩
        obtain⟨ox',g1,g2⟩:=hne h4
        obtain⟨oy',g3,g4⟩:=hne h5
        exact⟨r,x,y,ox',oy',h1,e5.cj hL _ _ h2,h3,g1,g3,by rw[g2];exact h6,by rw[g4];exact h7⟩
       ·rw[ms_.mp ht]
        refine⟨D5,a,b,oa,ob,rfl,?_,hf.sub hQ,e5 _ _ hLa hoa,e5 _ _ hLb hob,ta,tb⟩
        rw[Qi]
        ·exact Qa ..
        ·exact hD5.ne (x4 _ _ hL)
     ·refine Qbp (QE hD2.own (Qa ..)) (Qa ..) (by simpa using hys) ?_
      left
      have h0:0 < ys.length:=List.length_pos_iff.mpr hys
      have hg0:ys[0]?=some (.ref b):=by
       rw[List.getElem?_eq_getElem h0,jb _ (List.getElem_mem h0)]
      refine Xz (xs:=ys) (QE hD2.own (Qa ..)) (by decide) hg0 (by decide) ?_
      left
      refine QgK ?_
      left
      have x3:=xo1.trans xD2
      obtain⟨r1,r2⟩:=rowsO xD2.but
      refine⟨rfl,by nofun,by nofun,x3.but,⟨hp.base,rs,nL,x3 _ _ hL,by omega,λt ht=>?_⟩,r1,r2⟩
      obtain⟨r,x,y,ox,oy,h1,h2,h3,h4,h5,h6⟩:=hrs t ht
      exact⟨r,x,y,ox,oy,h1,x3 _ _ h2,h3,x3 _ _ h4,x3 _ _ h5,h6⟩
    ·rintro m3 o3 ⟨k1,k2,k3,k4,k5,k6⟩
     left
     refine qv (Xj kf rfl) ?_
     left
     have hks:ks.length=oj.length:=k6.len
     refine⟨_,_,_,(QD c oh S Q B L KL oj ks nk),Xv k5,⟨k3,k4,k5,k6,rfl,λv h=>(nomatch h)⟩,λi ys o J q hq=>?_,?_,?_⟩
     ·refine memS hq ?_;exact J.2.2.1
     ·rintro i v ys o oq mc hi hPv ⟨l1,l2,l3,l4,l5,l6⟩ ac aC _
      have kf:=XS aC
      have hv1:=ac (zz "pairs") _ rfl k2
      obtain⟨q,hq,aT⟩:=l4.row i v hPv
      have hqs:=Qfa hq
      have aG:J.ab (oj.take (i+1))<=J.ab oj:=qS (List.take_sublist ..)
      have hqk:=hka q (mg_ hq)
      have hqp:=q.2.size_pos
      generalize q.2=qx at aT hqs hqk hqp
      cases aT with
      |@mk r _ y r1 r2 r3 r4 r5 r6 =>
      refine YM kf rfl rfl r1 (Yy ⟨λx_=>⟨Qd (by rw[l5];omega),?_⟩,λz=>nomatch z⟩)
      left
      refine Qf (ih r3 r4 r2 l2 (by omega) (by omega) (by omega) r5 r6 hqk λo4 e4 p4=>?_)
      obtain⟨rs4,nL4,hL4,_⟩:=l2.is
      refine⟨Zj rfl (Zj rfl ac),l1.trans e4,by rw[hqs,<- Nat.add_assoc];exact p4,e4 _ _ hKLL l3,⟨l4.len,λj t h=>?_⟩,by rw[la_,l5];rfl,λv hv=>?_⟩
      ·obtain⟨q',h1,h2⟩:=l4.row j t h
       exact⟨q',h1,h2.ext e4 ⟨rs4,nL4,hL4⟩⟩
      ·rcases ma_.mp hv with h|h
       ·exact l6 v h
       ·exact ms_.mp h
     ·rintro ys o ⟨l1,l2,l3,l4,l5,l6⟩ D3 ep3 hD3
      rw[hks,List.take_length] at l2
      left
      refine Qgs (Qa ..) l6 ?_
      left
      have xD3:=Ext.put (o:=lst ys ep3) hD3.own
      refine hk _ (l1.trans xD3.but) ⟨hp.base,?_⟩
      obtain⟨rs4,nL4,h1,h2,h3⟩:=l2.is
      refine⟨rs4,nL4,xD3 _ _ h1,by omega,λt ht=>?_⟩
      obtain⟨r,x,y,ox,oy,q1,q2,q3,q4,q5,q6⟩:=h3 t ht
      exact⟨r,x,y,ox,oy,q1,xD3 _ _ q2,q3,xD3 _ _ q4,xD3 _ _ q5,q6⟩
structure Q5 (c:Cx) (oh:Own) (x C dx:Ad) (oj:LV):Prop where
 o:oh x=some (instObj C dx)
 d:∃od,oh dx=some od/\Yu od oj
 b:c.H.get? dx=none
 bx:c.H.get? x=none
theorem Q5.inst {x C dx:Ad}{oj:LV}(I:Q5 c oh x C dx oj):ZO oh x C oj:=let ⟨od,h1,h2⟩:=I.d;⟨dx,od,I.o,h1,h2⟩
theorem Q5.ext {oh oo:Own}{x C dx:Ad}{oj:LV}(I:Q5 c oh x C dx oj) (h:Ext oh oo):Q5 c oo x C dx oj:=let ⟨od,h1,h2⟩:=I.d;⟨h _ _ I.o,⟨od,h _ _ h1,h2⟩,I.b,I.bx⟩
theorem Q5.keep {oh oo:Own}{S:List Ad}{x C dx:Ad}{oj:LV}(I:Q5 c oh x C dx oj) (h:Upd oh oo S) (hx:x∉S) (hd:dx∉S):Q5 c oo x C dx oj:=let ⟨od,h1,h2⟩:=I.d;⟨h.keep _ _ hx I.o,⟨od,h.keep _ _ hd h1,h2⟩,I.b,I.bx⟩
theorem QaJ {C D X:Ad}(hD:New c oh D) (hX:New c (oh.put D emptyDict) X):Q5 c ((oh.put D emptyDict).put X (instObj C D)) X C D [] :=
 ⟨Qa ..,⟨emptyDict,QE hX.own (Qa ..),⟨[],0,rfl,.nil⟩⟩,hD.base,hX.base⟩
theorem Yg {x C dx:Ad}{oj:LV}{name:Str}{k:KU_}(I:Q5 c oh x C dx oj) (hz:oj.length<=900)
  (hs:findIn c.K (.ref C) "__setattr__"=some (some (.builtin "object.__setattr__"))) (hp:plainOver c.K C=true) (ht:takerIn c.K C name=some none) (hh:hasDictIn c.K C=true)
  (hk:∀oo,Q5 c oo x C dx (Yr name v oj)->ExtBut dx oh oo->(∀o0,oh dx=some o0->∃o1,oo dx=some o1/\o1.cls=o0.cls)->k () m oo):W c N ou m oh (setAttr (.ref x) name v) k:=by
 obtain⟨od,h1,h2⟩:=I.d
 refine Qg8 I.o h1 h2 I.b hz hs hp ht hh λod' h3=>hk _ ⟨?_,⟨od',Qa ..,h3⟩,I.b,I.bx⟩ .put λo0 e=>⟨od',Qa ..,?_⟩
 ·by_cases e:x=dx
  ·subst e
   exfalso
   have h4:=I.o
   cases h1,h4
   obtain⟨es,n,e1,_⟩:=h2
   have:=congrArg Obj.cls e1
   simp at this
  ·rw[Qi e];exact I.o
 ·obtain⟨es,n,e1,_⟩:=h3
  cases h1,e
  obtain⟨es',n',e2,_⟩:=h2
  rw[e1,e2]
structure Zl (c:Cx) (o:Own) (X:Ad) (ps:List Str):Prop where
 is:∃dx Lp vs n,Q5 c o X 333 dx [(zz "parts",.ref Lp)]/\o Lp=some (lst vs n)/\Zi vs ps
theorem Zl.ext {oh oo:Own}{X:Ad}{ps:List Str}(I:Zl c oh X ps) (h:Ext oh oo):Zl c oo X ps:=⟨by obtain⟨dx,Lp,vs,n,h1,h2,h3⟩:=I.is;exact⟨dx,Lp,vs,n,h1.ext h,h _ _ h2,h3⟩⟩
noncomputable def QjC:List Vl:=match QmO.data with|.seq a _=>a.toList|_=>[]
theorem QcB {ps:List Str}{k:KO}(hg:∀p∈ps,p∈Z6) (hl:ps.length<=900) (hk:∀X dx Lp vs n o',Q5 c o' X 333 dx [(zz "parts",.ref Lp)]->o' Lp=some (lst vs n)->Zi vs ps->Ext oh o'->oh X=none->oh dx=none->oh Lp=none->k (.ref X) o') :
  CW c (N+3) oh (call (.ref 333) [.str (Qt ps) t] []) k:=by
 have hlt:=QbS hg
 refine qX (fI:=183) (by symm) (by symm) (by symm) λD X hD hX=>?_
 refine QjT λou kf=>?_
 have I:=QaJ (C:=333) hD hX
 have x1:Ext oh ((oh.put D emptyDict).put X (instObj 333 D)):=by walk_at "ext"
 have nX:oh X=none:=(Ext.put hD.own).none hX.own
 generalize ho1:(oh.put D emptyDict).put X (instObj 333 D)=o1 at I x1 ⊢
 have kd:Qv o1 (.str (Qt ps) t) .str:=.str
 refine Qm ?_
 left
 refine Qbr (a:=.ref 129) I.inst (by symm) (by symm) (by symm) (by symm) rfl (by ac_rfl) rfl ?_
 refine qp Qb5 QeV Qm4 (XC (o:=QmP) (by symm)) rfl rfl ?_
 left
 have hsz:(Qt ps).cps.size<=10000:=by show (Qt ps).length<=10000;omega
 refine Qg7 (p:=129) (tc:=128) (pv:=.str (zz "(~[^01]|~$)") 540) (fl:=.int 32 576) (cs:=QjC) (XC (by symm)) (XC (by symm)) (by ac_rfl) hsz (QmQ hg) ?_
 left
 refine Qhd ?_
 left
 with_reducible refine Qgf ?_
 left
 refine Qg9 (by ac_rfl) (Nat.le_trans hsz (by decide)) (by rw[Qfe hg];exact Nat.le_trans (by simp<;>omega:_<=1001) (by decide)) λD1 l hD1 hl1=>?_
 rw[Qfe hg] at hl1
 obtain⟨⟨e0,t0⟩,l',rfl⟩:∃p r,l=p::r:=by
  cases l with
  |nil=>cases hl1
  |cons p r=>exact⟨p,r,rfl⟩
 simp only[List.map_cons,List.cons.injEq] at hl1
 obtain⟨rfl,hl1⟩:=hl1
 have hll:l'.length=ps.length:=by simpa using congrArg List.length hl1
 left
 refine Zq F.slot_list_pop F.type_list_pop (Qa ..) ?_
 walk_at "w1"
 refine Yd λt1=>?_
 left
 refine Qdg (i:=0) (Qa ..) hD1.base (Qd (by simp[strValues];omega)) (v:=.str Str.empty t0) rfl λn'=>?_
 left
 refine QgY ?_
 rw[show (!(Str.empty==zz ""))=false by ac_rfl]
 left
 have hev:(strValues ((Str.empty,t0)::l')).eraseIdx 0=strValues l':=rfl
 rw[hev]
 have x2:Ext o1 ((o1.put D1 (lst (strValues ((Str.empty,t0)::l')) 0)).put D1 (lst (strValues l') n')):=λb o e=>by
  have hb:b≠D1:=hD1.ne' e
  rw[Qi hb,Qi hb];exact e
 have hd1:=Qa (o1.put D1 (lst (strValues ((Str.empty,t0)::l')) 0)) D1 (lst (strValues l') n')
 generalize (o1.put D1 (lst (strValues ((Str.empty,t0)::l')) 0)).put D1 (lst (strValues l') n')=o2 at x2 hd1 ⊢
 refine Qat kf rfl (Xj kf rfl) rfl ?_
 left
 refine⟨_,_,_,λi ys o=>o=o2/\Zi ys (ps.take i),Xv hd1,⟨rfl,.nil⟩,λi ys o J q hq=>?_,?_,?_⟩
 ·rw[ms_.mp hq,J.1];exact hd1
 ·rintro i v ys o oq mc hi hPv ⟨rfl,jb⟩ ac aC _
  have kf:=XS aC
  unfold strValues at hPv
  rw[gm_] at hPv
  obtain⟨⟨e,te⟩,he,rfl⟩:=mq_.mp hPv
  have hpi:∃p,ps[i]?=some p/\e=ZP p:=by
   have h1:=congrArg (·[i]?) hl1
   simp only[gm_,he,Option.map_some] at h1
   obtain⟨p,hp,e1⟩:=mq_.mp h1.symm
   exact⟨p,hp,e1.symm⟩
  obtain⟨p,hp,rfl⟩:=hpi
  obtain⟨f1,f2,f3,f4,f5,f6,f7⟩:=pf (hg p (mg_ hp))
  have hyl:=jb.len
  rw[List.length_take] at hyl
  refine Zv kf rfl (Yy ⟨λx_=>⟨Qd (by omega),?_⟩,λz=>nomatch z⟩)
  left
  refine Qf (Qf3 (x:=ZP p) (Nat.le_trans f3 (by decide)) (Nat.le_trans f7 (by decide)) λt'=>?_)
  rw[f2]
  refine⟨Zj rfl ac,rfl,?_⟩
  rw[List.take_add_one,hp]
  exact jb.snoc
 ·rintro ys o ⟨rfl,jb⟩ D3 ep3 hD3
  rw[List.take_of_length_le (by simp[strValues];omega)] at jb
  left
  have x3:=x2.ai (o:=lst ys ep3) hD3.own
  refine Yg (I.ext x3) (by simp) (by symm) (by symm) (by symm) (by symm) λo' I' hx' x_=>?_
  left
  have hne:D≠D3:=hD3.ne' (x2 _ _ (I.d.choose_spec.1))
  refine⟨rfl,hk X D D3 ys ep3 _ I' (hx' _ _ hne.symm (Qa ..)) jb (λb o e=>hx' b o ?_ ((x1.trans x3) b o e)) nX hD.own ((x1.trans x2).none hD3.own)⟩
  rintro rfl
  cases (hD.own),e
section
theorem Qc3 {C:Ad}{mc v:Vl}{name:Str}{expr:Bool}(hr:readsIn c.K C mc=true) (e:findCls c.K (.ref C) mc name=some (.val v)) (hh:handedIn v=true) (hk:k v m oh):W c N ou m oh (getAttr (.ref C) name expr) k :=
 Q6 (a:=v) (λA s fr Q hA S P hQ=>cls_value S.sg.kIn hr e hh (hQ _)) hk
end
theorem Qo4:Has c oh 60 (tup [.type "list",.type "tuple",.type "str",.type "bytes"]):=XC (by symm)
noncomputable def QdG:List Vl:=match QmN.data with|.seq a _=>a.toList|_=>[]
theorem QgH {n:Int}(hk:k (.int n t) m oh):W c N ou m oh (call (.type "int") [.int n t]) k :=
 Q6 (a:=.int n t) (λA s fr Q hA S P hQ=>call_int_int (hQ s.toks)) hk
theorem qw {i:Int}{t u:Tok}(hk:k (.bool false) m oh):W c N ou m oh (compareOp .Eq (.int i t) (.str x u)) k:=Yc (λA s fr x_ x_=>SeqAt.RcAt.int_str i t x u) hk
inductive Xw:Bool->List (Str × J)->Vl->Qh->Bool->Prop
 |dict {oj n t:_}:Xw true oj (.str n t) (.name n) false
 |idx {oj i t:_}:i < 64->Xw false oj (.str (idx i) t) (.idx i) false
 |int {oj i t:_}:i < 64->Xw false oj (.int (i:Nat) t) (.idx i) false
 |dash {oj t:_}:Xw false oj (.str (zz "-") t) (.idx oj.length) true
inductive XJ:Bool->List (Str × J)->Qh->Bool->Vl->Prop
 |dict {oj n t:_}:XJ true oj (.name n) false (.str n t)
 |idx {oj i t:_}:i < 64->XJ false oj (.idx i) false (.int (i:Nat) t)
 |dash {oj t:_}:XJ false oj (.idx oj.length) true (.str (zz "-") t)
theorem XJ.inp {s:Qh}{e:Bool}(h:XJ d oj s e v):Xw d oj v s e:=by
 induction h with
 |dict=>exact .dict
 |idx h=>exact .int h
 |dash=>exact .dash
theorem Qcp {s:Qh}{e:Bool}{p:Vl}{k:KO}(h:Ok c oh (.node a d oj)) (hp:Xw d oj p s e)
  (hk:∀o' v,XJ d oj s e v->Ext oh o'->k v o'):CC c (N+1) oh (.call (.ref 243) ⟨[.ref 333,.ref a,p],[]⟩) k:=by
 refine QjU λou kf=>?_
 have kd:Qv oh (.ref a) (J.node a d oj).kd:=h.kdOf
 refine Qm ?_
 induction hp with
 |dict =>
  left
  exact hk _ _ .dict .refl
 |@idx _ i _ hi =>
  have hne:(idx i==zz "-")=false:=by simpa using Qd6 i hi
  left
  refine Yw ?_
  rw[hne]
  left
  refine Qc3 (mc:=.type "type") (v:=.ref 124) (by symm) (by symm) rfl ?_
  refine qp Qb5 Qb6 QeW (XC (o:=QeJ) (by symm)) rfl rfl ?_
  left
  refine Qdm ?_
  left
  refine Qc2 (p:=124) (tc:=123) (pv:=.str (zz "0|[1-9][0-9]*") 501) (fl:=.int 32 537) (cs:=QdG) (XC (by symm)) (XC (by symm)) (by ac_rfl) hi λD oD o' hx hD hc=>?_
  refine Qdo hD hc ?_
  left
  refine ZE ?_
  left
  refine QgI (n:=(i:Int)) (by omega) (by omega) λt'=>?_
  left
  exact hk _ _ (.idx hi) hx
 |@int _ i _ hi =>
  left
  refine qw ?_
  left
  refine Qc3 (mc:=.type "type") (v:=.ref 124) (by symm) (by symm) rfl ?_
  refine qp Qb5 Qb6 QeW (XC (o:=QeJ) (by symm)) rfl rfl ?_
  left
  refine Qdl (st:=.idx i) .idx hi λt1=>?_
  left
  refine Qc2 (p:=124) (tc:=123) (pv:=.str (zz "0|[1-9][0-9]*") 501) (fl:=.int 32 537) (cs:=QdG) (XC (by symm)) (XC (by symm)) (by ac_rfl) hi λD oD o' hx hD hc=>?_
  refine Qdo hD hc ?_
  left
  refine ZE ?_
  left
  refine QgH ?_
  left
  exact hk _ _ (.idx hi) hx
 |dash =>
  left
  refine Yw ?_
  rw[beq_self_eq_true]
  left
  exact hk _ _ .dash .refl
theorem QcI {k:Vl->List Vl->Loc->Own->Prop}(hk:∀q,New c oh q->k (.ref q) [] m (oh.put q (methodObj (.ref 243) (.ref 333)))):ZB c N ou m oh (.ref 333) (zz "get_part") k :=
 Qf8 (mc:=.type "type") (p:=245) (f:=.ref 243) (rest:=[.bool false]) (by symm) (by symm) (by symm) (by symm) hk
theorem QcC {X a:Ad}{s:Qh}{p:Vl}{x:J}{k:KO}(h:Ok c oh (.node a d oj)) (hz:(J.node a d oj).size<=1000) (hp:Xw d oj p s false) (hx:Qw d oj s=some x)
  (hk:∀o',Ext oh o'->k x.val o'):CW c (N+2) oh (call (.ref 260) [.ref X,.ref a,p] []) k:=by
 refine Qj2 λou kf=>?_
 refine Qm ?_
 left
 refine QcI λq hq=>?_
 left
 have h1:Ok c (oh.put q (methodObj (.ref 243) (.ref 333))) (.node a d oj):=h.ext (.put hq.own)
 refine⟨Qdz (Qa ..) (by symm),Qf (QaZ (Qa ..) (Qcp h1 hp λo' v hv hx'=>?_))⟩
 have xo:Ext oh o':=Ext.trans (Ext.put hq.own) hx'
 have h2:=h.ext xo
 have kd:Qv o' (.ref a) (J.node a d oj).kd:=h2.kdOf
 cases hv with
 |dict =>
  obtain⟨hb,oa,ha,hd⟩:=h2.ae
  left
  refine ZE ?_
  left
  have hx1:Qj oj _=some x:=hx
  refine Y6 ha hd hb ?_
  rw[Z1,hx1]
  left
  refine Y3 h2 hz .name hx ?_
  left
  exact hk _ xo
 |idx hi =>
  left
  refine qw ?_
  left
  refine ZE ?_
  left
  refine Y3 h2 hz .idx hx ?_
  left
  exact hk _ xo
theorem Zl.at {o:Own}{X:Ad}{ps:List Str}(I:Zl c o X ps):∃dx Lp vs n,Q5 c o X 333 dx [(zz "parts",.ref Lp)]/\o Lp=some (lst vs n)/\Zi vs ps:=I.is
theorem Yf {X dx Lp:Ad}{expr:Bool}(I:Q5 c oh X 333 dx [(zz "parts",.ref Lp)]) (hk:k (.ref Lp) m oh):W c N ou m oh (getAttr (.ref X) (zz "parts") expr) k :=
 Zc (attr:=none) I.inst (by symm) (by symm) (by symm) rfl rfl rfl hk
theorem Zi.at {ps:List Str}(h:Zi vs ps):∀ {i:Nat}{p:Str},ps[i]?=some p->∃t,vs[i]?=some (.str p t):=by
 induction h with
 |nil=>intro i p h;simp at h
 |cons _ ih =>
  intro i p h
  induction i with
  |zero=>simp at h;exact⟨_,by simp[h];rfl⟩
  |succ i=>obtain⟨t,ht⟩:=ih (i:=i) (by simpa using h);exact⟨t,by simpa using ht⟩
theorem Zi.take {ps:List Str}(h:Zi vs ps):∀n,Zi (vs.take n) (ps.take n):=by
 induction h with
 |nil=>intro n;simp<;>exact .nil
 |cons _ ih =>
  intro n
  induction n with
  |zero=>exact .nil
  |succ n=>exact .cons (ih n)
theorem Qa4 {X:Ad}{k:KO}(I:Zl c oh X []) (hk:∀R o',o' R=some (tup [v,.none])->Ext oh o'->k (.ref R) o'):CW c (N+1) oh (call (.ref 190) [.ref X,v] []) k:=by
 refine QdM λou kf=>?_
 obtain⟨dx,Lp,vs,n,hI,hL,hB⟩:=I.at
 cases hB
 refine Qm ?_
 left
 refine Yf hI ?_
 left
 refine Qdn hL (Qd (by simp)) ?_
 left
 refine⟨Qd (by simp),λD hD=>?_⟩
 left
 exact hk _ _ (Qa ..) (.put hD.own)
abbrev QV (o1:Own) (h:Qe) (W:J) (X:Ad) (i:Nat) (m:Loc) (o:Own):Prop:=(∃Y,look (h.take i) W=some Y/\m "doc"=some Y.val)/\m "self"=some (.ref X)/\Ext o1 o
theorem ql {X:Ad}{W:J}{h:Qe}{lp:Str}{s:Qh}{e:Bool}{k:KO}(I:Zl c oh X (h.map Qq++[lp])) (hW:Ok c oh W) (hz:W.size<=1000) (hg:∀s∈h,Z4 s)
  (hl:look h W=some (.node a d oj)) (hp:∀t,Xw d oj (.str lp t) s e) (hk:∀R o' v,o' R=some (tup [.ref a,v])->XJ d oj s e v->Ext oh o'->k (.ref R) o'):CW c (N+3) oh (call (.ref 190) [.ref X,W.val] []) k:=by
 refine QdM λou kf=>?_
 obtain⟨dx,Lp,vs,n,hI,hL,hB⟩:=I.at
 have hlen:=hB.len
 have hll:=YH hl
 rw[la_,lm_] at hlen
 simp only[lc_,List.length_nil] at hlen
 refine Qm ?_
 left
 refine Yf hI ?_
 left
 refine Qdn hL (Qd (by omega)) ?_
 rw[show vs.isEmpty=false by induction vs with|nil=>simp at hlen|cons=>rfl]
 left
 refine X0 ?_
 left
 refine Yf hI ?_
 left
 refine Yi (Y7 (XA (Ye λt=>?_)))
 intro sl hsl
 have hvs:vs=vs.take h.length++vs.drop h.length:=(List.take_append_drop _ _).symm
 have hBt:Zi (vs.take h.length) (h.map Qq):=by
  have h1:=hB.take h.length
  have h2:(h.map Qq++[lp]).take h.length=h.map Qq:=by
   have:=List.take_left (l₁:=h.map Qq) (l₂:=[lp])
   rwa [lm_] at this
  rw[h2] at h1;exact h1
 have hpick:(slicePick vs.toArray none (some (-1)) none).toList=vs.take h.length:=by
  have:=slicePick_butLast vs.toArray 1 (Nat.le_refl 1)
  rw[show (-((1:Nat):Int))=-1 by rfl] at this
  rw[this]
  simp;congr 1;omega
 refine qy (xs:=vs) (by walk_at "own") (Qa ..) .none (.int _ _) (Qd (by omega)) hpick λD1 hD1=>?_
 have x1:Ext oh ((oh.put sl (Xu Value.none (Value.int (-1) t))).put D1 (lst (vs.take h.length) 0)):=by walk_at "ext"
 have hd1:=Qa (oh.put sl (Xu Value.none (Value.int (-1) t))) D1 (lst (vs.take h.length) 0)
 generalize (oh.put sl (Xu Value.none (Value.int (-1) t))).put D1 (lst (vs.take h.length) 0)=o1 at x1 hd1 ⊢
 refine⟨_,_,_,(QV o1 h W X),Xv hd1,⟨⟨W,rfl,rfl⟩,rfl,.refl⟩,λi m o J q hq=>?_,λi v m o hi hP J=>?_,λm o J=>?_⟩
 ·refine memS hq ?_;exact J.2.2 _ _ hd1
 ·obtain⟨⟨Y,hY,hm⟩,hs,xo⟩:=J
  have hi':i < h.length:=by rw[List.length_take] at hi;omega
  have hs':h[i]?=some h[i]:=List.getElem?_eq_getElem hi'
  obtain⟨tt,htt⟩:=hBt.at (i:=i) (p:=Qq h[i]) (by rw[gm_,hs'];rfl)
  replace hP:(vs.take h.length)[i]?=some v:=hP;cases htt,hP
  obtain⟨a',d',af,y,l1,l2,l3⟩:=QbU hl hs'
  cases hY,l1
  have gs:=hg _ (List.getElem_mem hi')
  generalize h[i]=st at htt hs' l2 gs
  have hpi:Xw d' af (.str (Qq st) tt) st false:=by
   induction d'<;>cases st
   ·cases l2
   ·exact .idx gs
   ·exact .dict
   ·cases l2
  have okY:=(Z7 hY hW).ext (x1.trans xo)
  have hzY:=Nat.le_trans (ZL hY) hz
  refine Zv kf rfl ?_
  left
  refine Zo (f:=260) (hI.ext (x1.trans xo)).inst (by symm) (by symm) (by symm) (by symm) rfl ?_
  left
  refine Qf (QcC okY hzY hpi l2 λo' hx'=>?_)
  left
  exact⟨⟨y,l3,Zf ..⟩,by nofun,xo.trans hx'⟩
 ·obtain⟨⟨Y,hY,hm⟩,hs,xo⟩:=J
  rw[List.take_of_length_le (by rw[List.length_take];omega),hl] at hY;cases hY
  have x2:=x1.trans xo
  have okn:=(Z7 hl hW).ext x2
  refine ZV ?_
  left
  refine QcI λq hq=>?_
  left
  have x3:=x2.ai (o:=methodObj (.ref 243) (.ref 333)) hq.own
  refine Yf (hI.ext x3) ?_
  refine Ye λt2=>?_
  obtain⟨tl,htl⟩:=hB.at (i:=h.length) (p:=lp) (by simp)
  refine Qc4 (j:=h.length) (x3 _ _ hL) (by omega) htl ?_
  refine⟨Qdz (Qa ..) (by symm),Qf (QaZ (Qa ..) (Qcp (okn.ext (.put hq.own)) (hp tl) λo' v hv hx'=>?_))⟩
  refine⟨Qd (by simp),λD2 hD2=>?_⟩
  left
  exact hk _ _ v (Qa ..) hv ((x3.trans hx').ai hD2.own)
theorem Zi.keq {vs ws:List Vl}{ps qs:List Str}(h:Zi vs ps) (h':Zi ws qs) {j:Nat}{x y:Vl}(hx:vs[j]?=some x) (hy:ws[j]?=some y):KEq x y (ps[j]?==qs[j]?):=by
 induction h generalizing ws qs j with
 |nil=>simp at hx
 |@cons a t vs ps h ih =>
  induction h' with
  |nil=>simp at hy
  |@cons b u ws qs h' =>
   induction j with
   |zero=>simp at hx hy;subst hx;subst hy;simpa using KEq.str a t b u
   |succ j=>simpa using ih h' (j:=j) (by simpa using hx) (by simpa using hy)
theorem Qds {ps qs:List Str}(hl:ps.length=qs.length):((List.range ps.length).all λj=>ps[j]?==qs[j]?)=decide (ps=qs):=by
 rw[Bool.eq_iff_iff]
 simp only[List.all_eq_true,List.mem_range,beq_iff_eq,decide_eq_true_eq]
 refine⟨λh=>List.ext_getElem? λj=>?_,λh j x_=>by rw[h]⟩
 by_cases hj:j < ps.length
 ·exact h j hj
 ·rw[List.getElem?_eq_none (by omega),List.getElem?_eq_none (by omega)]
theorem QfV {X Y:Ad}{ps qs:List Str}{k:KO}(I:Zl c oh X ps) (I':Zl c oh Y qs) (hp:ps.length<=900) (hq:qs.length<=900)
  (hk:∀o',Ext oh o'->k (.bool (decide (ps.take qs.length=qs))) o'):CW c (N+2) oh (call (.ref 267) [.ref X,.ref Y] []) k:=by
 refine Qj1 λou kf=>?_
 obtain⟨dx,Lp,vs,n,hI,hL,hB⟩:=I.at
 obtain⟨dy,Lq,ws,n',hI',hL',hB'⟩:=I'.at
 have l1:=hB.len
 have l2:=hB'.len
 refine Qm ?_
 left
 refine Yf hI ?_
 refine Yi (Y7 (XA ?_))
 left
 refine Yf hI' ?_
 left
 refine ZI hL' (Qd (by omega)) λt=>?_
 intro sl hsl
 have hpick:(slicePick vs.toArray none (some ((ws.length:Nat):Int)) none).toList=vs.take ws.length:=by rw[slicePick_upto']
 refine qy (xs:=vs) (by walk_at "own") (Qa ..) .none (.int _ _) (Qd (by omega)) hpick λD1 hD1=>?_
 have x1:Ext oh ((oh.put sl (Xu Value.none (Value.int (ws.length:Nat) t))).put D1 (lst (vs.take ws.length) 0)):=by walk_at "ext"
 left
 refine Yf (hI'.ext x1) ?_
 have hB1:=hB.take ws.length
 by_cases hlen:(vs.take ws.length).length=ws.length
 ·have hl2:(ps.take ws.length).length=qs.length:=by rw[<- hB1.len,hlen,l2]
  refine Qbo (Qa ..) (x1 _ _ hL') hlen (λj x y h1 h2=>hB1.keq hB' h1 h2) ?_
  rw[hB1.len,Qds hl2,show ps.take ws.length=ps.take qs.length by rw[l2]]
  left
  exact hk _ x1
 ·refine Qbp (Qa ..) (x1 _ _ hL') hlen ?_
  left
  have:decide (ps.take qs.length=qs)=false:=by
   rw[decide_eq_false_iff_not]
   intro h
   apply hlen
   rw[hB1.len,l2,h]
  have h2:=hk _ x1
  rw[this] at h2
  exact h2
theorem Qcr {X Y:Ad}{ps qs:List Str}{k:KO}(I:Zl c oh X ps) (I':Zl c oh Y qs) (hp:ps.length<=900) (hq:qs.length<=900)
  (hk:k (.bool (decide (ps=qs))) oh):CC c (N+2) oh (.call (.ref 301) ⟨[.ref X,.ref Y],[]⟩) k:=by
 refine QjS λou kf=>?_
 obtain⟨dx,Lp,vs,n,hI,hL,hB⟩:=I.at
 obtain⟨dy,Lq,ws,n',hI',hL',hB'⟩:=I'.at
 have l1:=hB.len
 have l2:=hB'.len
 refine Qm ?_
 left
 refine Qf (QfP (b:=true) hI'.inst (by symm) (by symm) (by symm) (by symm) (by symm) (by symm) (by symm) ?_)
 left
 refine Yf hI ?_
 left
 refine Yf hI' ?_
 by_cases hlen:vs.length=ws.length
 ·refine Qbo hL hL' hlen (λj x y h1 h2=>hB.keq hB' h1 h2) ?_
  rw[l1,Qds (by omega)]
  left
  exact hk
 ·refine Qbp hL hL' hlen ?_
  left
  have:decide (ps=qs)=false:=by
   rw[decide_eq_false_iff_not]
   rintro rfl
   omega
  rw[this] at hk
  exact hk
theorem QfW {X:Ad}{W:J}{k:KO}(I:Zl c oh X []) (hk:∀R o',o' R=some (tup [W.val,.none])->Ext oh o'->k (.ref R) o'):CW c (N+3) oh (call (.ref 1276) [.ref X,W.val] []) k:=by
 refine QdP λou kf=>?_
 refine Qm (Xi kf rfl rfl ?_ rfl rfl)
 left
 obtain⟨dx,Lp,vs,n,hI,hL,hB⟩:=I.at
 refine Zo (f:=190) hI.inst (by symm) (by symm) (by symm) (by symm) rfl ?_
 left
 refine Qf (Qa4 I λR o' hR hx=>?_)
 refine⟨R,W.val,.none,rfl,hR,?_⟩
 left
 refine Yc (λA s fr x_ x_=>SeqAt.RcAt.none_str _ _) ?_
 left
 refine⟨Qd (by simp),λD hD=>?_⟩
 left
 exact hk _ _ (Qa ..) (hx.ai hD.own)
theorem Qcx {X:Ad}{W:J}{h:Qe}{lp:Str}{s:Qh}{k:KO}(I:Zl c oh X (h.map Qq++[lp])) (hW:Ok c oh W) (hz:W.size<=1000) (hg:∀s∈h,Z4 s)
  (hl:look h W=some (.node a d oj)) (hp:∀t,Xw d oj (.str lp t) s false) (hk:∀R o' v,o' R=some (tup [.ref a,v])->XJ d oj s false v->Ext oh o'->k (.ref R) o'):CW c (N+4) oh (call (.ref 1276) [.ref X,W.val] []) k:=by
 refine QdP λou kf=>?_
 refine Qm (Xi kf rfl rfl ?_ rfl rfl)
 left
 obtain⟨dx,Lp,vs,n,hI,hL,hB⟩:=I.at
 refine Zo (f:=190) hI.inst (by symm) (by symm) (by symm) (by symm) rfl ?_
 left
 refine Qf (ql I hW hz hg hl hp λR o' v hR hv hx=>?_)
 refine⟨R,.ref a,v,rfl,hR,?_⟩
 have okn:=(Z7 hl hW).ext hx
 have kd:Qv o' (.ref a) (J.node a d oj).kd:=okn.kdOf
 cases hv with
 |@dict _ n t =>
  left
  refine Yw ?_
  left
  refine⟨λx_=>?_,λx_=>⟨λh=>(nomatch h),λx_=>?_⟩⟩
  ·left
   refine⟨Qd (by simp),λD hD=>?_⟩
   left
   exact hk _ _ _ (Qa ..) .dict (hx.ai hD.own)
  ·left
   refine⟨Qd (by simp),λD hD=>?_⟩
   left
   exact hk _ _ _ (Qa ..) .dict (hx.ai hD.own)
 |idx hi =>
  left
  refine qw ?_
  left
  refine⟨Qd (by simp),λD hD=>?_⟩
  left
  exact hk _ _ _ (Qa ..) (.idx hi) (hx.ai hD.own)
structure Zp (c:Cx) (oh:Own) (j dj U O:Ad) (B:Nat):Prop where
 inst:Q5 c oh j 537 dj [(zz "_undo",.ref U),(zz "_orders",.ref O)]
 undo:∃us n,oh U=some (lst us n)/\us.length<=B
 orders:∃os n,oh O=some (lst os n)/\os.length<=B/\∀t∈os,∃r x y ox,t = .ref r/\oh r=some (tup [.ref x,.ref y])/\oh x=some ox/\ox.cls≠.type "tuple"
 bU:c.H.get? U=none
 bO:c.H.get? O=none
 ne:U≠O/\U≠dj/\O≠dj
inductive JOk (c:Cx) (oh:Own):Vl->List Ad->Nat->Prop
 |nul {B:_}:JOk c oh (.ref 485) [] B
 |jr {j dj U O B:_}:Zp c oh j dj U O B->JOk c oh (.ref j) [j,dj,U,O] B
theorem JOk.j {j dj U O:Ad}{B:Nat}(h:JOk c oh (.ref j) [j,dj,U,O] B):Zp c oh j dj U O B:=by cases h with|jr J=>exact J
theorem JOk.mono {jv:Vl}{JS:List Ad}{B B':Nat}(h:JOk c oh jv JS B) (hB:B<=B'):JOk c oh jv JS B':=by
 cases h with
 |nul=>exact .nul
 |jr J =>
  obtain⟨us,n,h1,h2⟩:=J.undo
  obtain⟨os,n',h3,h4,h5⟩:=J.orders
  exact .jr ⟨J.inst,⟨us,n,h1,by omega⟩,⟨os,n',h3,by omega,h5⟩,J.bU,J.bO,J.ne⟩
theorem Zp.keep {oh oo:Own}{j dj U O:Ad}{B:Nat}{S:List Ad}(J:Zp c oh j dj U O B) (h:Upd oh oo S) (hS:∀b∈S,b∉[j,dj,U,O]) (ht:∀b∈S,∀o,oh b=some o->o.cls≠.type "tuple"):Zp c oo j dj U O B:=by
 have k:∀b∈[j,dj,U,O],b∉S:=λb hb hm=>hS b hm hb
 obtain⟨us,n,h1,h2⟩:=J.undo
 obtain⟨os,n',h3,h4,h5⟩:=J.orders
 refine⟨J.inst.keep h (k _ (by simp)) (k _ (by simp)),⟨us,n,h.keep _ _ (k _ (by simp)) h1,h2⟩,⟨os,n',h.keep _ _ (k _ (by simp)) h3,h4,λt ht'=>?_⟩,J.bU,J.bO,J.ne⟩
 obtain⟨r,x,y,ox,e1,e2,e3,e4⟩:=h5 t ht'
 obtain⟨ox',e5,e6⟩:=h.cls x ox e3
 exact⟨r,x,y,ox',e1,h.keep _ _ (λhm=>ht r hm _ e2 rfl) e2,e5,by rw[e6];exact e4⟩
theorem JOk.keep {oh oo:Own}{jv:Vl}{JS:List Ad}{B:Nat}{S:List Ad}(J:JOk c oh jv JS B) (h:Upd oh oo S) (hS:∀b∈S,b∉JS) (ht:∀b∈S,∀o,oh b=some o->o.cls≠.type "tuple"):JOk c oo jv JS B:=by
 cases J with
 |nul=>exact .nul
 |jr J=>exact .jr (J.keep h hS ht)
theorem JOk.ext {oh oo:Own}{jv:Vl}{JS:List Ad}{B:Nat}(J:JOk c oh jv JS B) (h:Ext oh oo):JOk c oo jv JS B:=J.keep (h.upd (S:=[])) (λb hb=>nomatch hb) λb hb=>nomatch hb
structure ZD (c:Cx) (oh o':Own) (jv:Vl) (JS:List Ad) (B:Nat) (a:Ad) (d:Bool) (af:LJ):Prop where
 node:Q8 c o' a d af
 upd:Upd oh o' (a::JS)
 j:JOk c o' jv JS B
theorem ZD.up {oh o':Own}{jv:Vl}{JS:List Ad}{B B':Nat}{af:LJ}(h:ZD c oh o' jv JS B a d af) (hB:B<=B'):ZD c oh o' jv JS B' a d af:=⟨h.node,h.upd,h.j.mono hB⟩
theorem Zp.pushU {j dj U O:Ad}{B:Nat}{us:List Vl}{n n':Nat}(J:Zp c oh j dj U O B) (hU:oh U=some (lst us n)) (hl:us.length<=B):Zp c (oh.put U (lst (us++[v]) n')) j dj U O (B+1):=by
 obtain⟨os,m,h3,h4,h5⟩:=J.orders
 have hU':Upd oh (oh.put U (lst (us++[v]) n')) [U]:=Upd.refl.put (.inl (by simp)) λo0 e=>by cases hU,e;rfl
 have hjU:j≠U:=λe=>by have:=J.inst.o;rw[e] at this;cases hU,this
 obtain⟨ne1,ne2,ne3⟩:=J.ne
 refine⟨J.inst.keep hU' (nsg hjU) (nsg ne2.symm),⟨_,n',Qa ..,by omega⟩,⟨os,m,hU'.keep _ _ (nsg ne1.symm) h3,by omega,λt ht=>?_⟩,J.bU,J.bO,J.ne⟩
 obtain⟨r,x,y,ox,e1,e2,e3,e4⟩:=h5 t ht
 obtain⟨ox',e5,e6⟩:=hU'.cls x ox e3
 refine⟨r,x,y,ox',e1,hU'.keep _ _ ?_ e2,e5,by rw[e6];exact e4⟩
 refine nsg λe=>?_
 rw[e,hU] at e2;exact qd (Option.some.inj e2)
section
theorem QmM:∀fr s,Sg c oh fr s->∃ox od,(∀n,lookIn n od=some (([]:LV).lookup n))/\InstAt s.heap 485 ox 479 (some od):=λfr s S=>by
 have h1:=S.kIn 485 QaP (by symm)
 have h2:=S.kIn 484 QeK (by symm)
 exact⟨QaP,QeK,λn=>rfl,⟨h1,rfl,rfl,h2⟩⟩
theorem Qag {nm:Str}{fN pN fJ:Ad}{rest:List Vl}{jv:Vl}{JS:List Ad}{B:Nat}{k:Vl->List Vl->Loc->Own->Prop}(J:JOk c oh jv JS B)
  (n1:findIn c.K (.ref 479) nm=some (some (.ref pN))) (n2:((typeIn c.K (.ref pN)).any λt=>t != .type "function"&&t != .type "method_descriptor"&&t != .type "wrapper_descriptor")=true)
  (n3:specialIn c.K (.ref pN) "__get__"=some (some (.builtin "staticmethod.__get__"))) (n4:takesIn c.K (.ref pN)=some false) (n5:copiedNames.contains nm=false) (n6:recIn c.K pN "staticmethod"=some (.ref fN::rest))
  (j1:findIn c.K (.ref 537) nm=some (some (.ref fJ))) (j2:typeIn c.K (.ref fJ)=some (.type "function")) (j3:([(zz "_undo",Value.none),(zz "_orders",Value.none)]:LV).lookup nm=none)
  (h1:jv = .ref 485->JS=[]->k (.ref fN) [] m oh) (h2:∀j dj U O,Zp c oh j dj U O B->jv = .ref j->JS=[j,dj,U,O]->k (.ref fJ) [.ref j] m oh):ZB c N ou m oh jv nm k:=by
 cases J with
 |nul=>exact Qge (oj:=[]) (QmM) (by symm) (by symm) (by symm) n1 n2 n3 n4 n5 rfl n6 rfl (h1 rfl rfl)
 |jr J =>
  refine Zo J.inst.inst (by symm) (by symm) j1 j2 ?_ (h2 _ _ _ _ J rfl rfl)
  simp only[kc_] at j3 ⊢
  split at j3
  ·cases j3
  ·split at j3
   ·cases j3
   ·simp_all
end
noncomputable def qh (d:Bool) (oj:LJ) (s:Qh) (x:J):List (Str × J):=if d then Qp oj s x else Zh oj s x
def Qbc (c:Cx) (N:Nat) (oh:Own) (jv:Vl) (JS:List Ad) (B:Nat) (f:Vl) (first:List Vl):Prop :=
 ∀ (a:Ad) (d:Bool) (oj:LJ) (s:Qh) (v:Vl) (x:J) (k:KO),Z9 c oh a d oj->oj.length<=900->a∉JS->Xy s v->(d=true\/∃z,Qw d oj s=some z)->(∀n,s = .name n->d=true)->(∀i,s = .idx i->d=false) ->
  (∀o',ZD c oh o' jv JS (B+2) a d (qh d oj s x)->k .none o')->CW c N oh (call f (first++[.ref a,v,x.val]) []) k
theorem QlX {B:Nat}:Qbc c (N+1) oh (.ref 485) [] B (.ref 443) []:=by
 intro a d oj s v x k hn hl ha sv hk hd1 hd2 hq
 refine Qkg λou kf=>?_
 have fin:∀o',Q8 c (oh.put a o') a d (qh d oj s x)->k .none (oh.put a o'):=λo' h=>hq _ ⟨h,Upd.refl.put (.inl (by simp)) (h.aJ hn.obj),.nul⟩
 refine Qm ?_
 left
 cases d with
 |true =>
  obtain⟨o,ho,hdd⟩:=hn.obj
  cases sv with
  |idx=>exact absurd (hd2 _ rfl) (by simp)
  |@name n t =>
  refine Y8 ho hdd hn.base (Qd (by omega)) λo' hd'=>?_
  left
  refine fin o' ⟨o',Qa ..,?_⟩
  have:=hd'
  rw[QaX (by have:=IsD.nodup hdd;rwa [Xd] at this)] at this
  exact this
 |false =>
  obtain⟨n1,ho⟩:=hn.obj
  cases sv with
  |name=>exact absurd (hd1 _ rfl) (by simp)
  |@idx i t =>
  obtain⟨z,hz⟩:=hk.resolve_left (by simp)
  have hz':Qx oj i=some z:=hz
  have hi:i < oj.length:=by
   have:=YD (oj:=oj) (i:=i)
   rw[hz'] at this;simpa using this.symm
  refine Qdi ho hn.base (Qd (by omega)) (by rw[lm_];exact hi) λn'=>?_
  left
  exact fin _ ⟨n',by rw[Qa];exact congrArg (λz=>some (lst z n')) Qck.symm⟩
theorem Q8.ext {o o':Own}(h:Q8 c o a d oj) (hx:∀ob,o a=some ob->o' a=some ob):Q8 c o' a d oj:=by
 induction d with
 |true=>obtain⟨ob,h1,h2⟩:=h;exact⟨ob,hx _ h1,h2⟩
 |false=>obtain⟨n,h1⟩:=h;exact⟨n,hx _ h1⟩
theorem Xk {oh ak:Own}{j dj U O a:Ad}{B:Nat}{oj af:LJ}{ob:Obj}(J:Zp c oh j dj U O B) (hn:Z9 c oh a d oj) (ha:a∉[j,dj,U,O]) (h1:Q8 c (oh.put a ob) a d af) (x:Ext (oh.put a ob) ak) :
  ∃us n,ak U=some (lst us n)/\us.length<=B/\∀v n',ZD c oh (ak.put U (lst (us++[v]) n')) (.ref j) [j,dj,U,O] (B+1) a d af:=by
 have ua:Upd oh (oh.put a ob) [a]:=Upd.refl.put (.inl (by simp)) (h1.aJ hn.obj)
 have J1:Zp c (oh.put a ob) j dj U O B:=J.keep ua (λb hb=>by refine memS hb ?_;exact ha) (λb hb=>by refine memS hb ?_;exact hn.obj.bw)
 have J2:Zp c ak j dj U O B:=((JOk.jr J1).ext x).j
 obtain⟨us,n,h2,h3⟩:=J2.undo
 have haU:a≠U:=nn2 ha
 refine⟨us,n,h2,h3,λv n'=>⟨h1.ext λob' e=>by rw[Qi haU];exact x _ _ e,?_,JOk.jr (J2.pushU h2 h3)⟩⟩
 refine Upd.put (Upd.trans (S:=a::[j,dj,U,O]) (Upd.trans ua .refl (S':=[]) (λb hb=>(nomatch hb)) |> λh=>⟨λb o hb e=>h.keep b o (λhm=>hb (by refine memS hm ?_;exact .head _)) e,h.cls⟩) (x.upd (S:=[])) λb hb=>(nomatch hb)) (.inl (by simp)) λo0 e=>?_
 cases h2,e;rfl
section
theorem YN {j dj U O:Ad}{expr:Bool}(I:Q5 c oh j 537 dj [(zz "_undo",.ref U),(zz "_orders",.ref O)]) (hk:k (.ref U) m oh):W c N ou m oh (getAttr (.ref j) (zz "_undo") expr) k :=
 Zc (attr:=none) I.inst (by symm) (by symm) (by symm) rfl rfl rfl hk
theorem Qdf {j dj U O:Ad}{expr:Bool}(I:Q5 c oh j 537 dj [(zz "_undo",.ref U),(zz "_orders",.ref O)]) (hk:k (.ref O) m oh):W c N ou m oh (getAttr (.ref j) (zz "_orders") expr) k :=
 Zc (attr:=none) I.inst (by symm) (by symm) (by symm) rfl rfl rfl hk
end
theorem YR {oh ak:Own}{j dj U O a:Ad}{B:Nat}{ob:Obj}(J:Zp c oh j dj U O B) (ha:a∉[j,dj,U,O]) (x:Ext (oh.put a ob) ak):Q5 c ak j 537 dj [(zz "_undo",.ref U),(zz "_orders",.ref O)]:=by
 obtain⟨od,h1,h2⟩:=J.inst.d
 have hj:j≠a:=(nn0 ha).symm
 have hd:dj≠a:=(nn1 ha).symm
 exact⟨x _ _ (by rw[Qi hj];exact J.inst.o),⟨od,x _ _ (by rw[Qi hd];exact h1),h2⟩,J.inst.b,J.inst.bx⟩
theorem QlW {j dj U O:Ad}{B:Nat}(jr:Zp c oh j dj U O B) (hB:B<=900):Qbc c (N+1) oh (.ref j) [j,dj,U,O] B (.ref 506) [.ref j]:=by
 intro a d oj s v x k hn hl ha sv hk hd1 hd2 hq
 refine Qkc λou kf=>?_
 have kd:Qv oh (.ref a) (J.node a d oj).kd:=by
  induction d with
  |true=>obtain⟨o,h1,hd⟩:=hn.obj;exact .dict h1 (by obtain⟨_,_,h2,_⟩:=hd;exact h2.1)
  |false=>obtain⟨n,h1⟩:=hn.obj;exact .list h1 rfl
 refine Qm ?_
 induction d with
 |true =>
  obtain⟨o,ho,hdd⟩:=hn.obj
  have hnd:(oj.map (·.1)).Nodup:=by have:=IsD.nodup hdd;rwa [Xd] at this
  induction sv with
  |idx=>exact absurd (hd2 _ rfl) (by simp)
  |@name n t =>
  have fin:∀o',IsD c o' (stored (Q2 oj) n x.val)->Q8 c (oh.put a o') a true (qh true oj (.name n) x):=λo' h=>⟨o',Qa ..,by rw[QaX hnd] at h;exact h⟩
  left
  refine Y6 ho hdd hn.base ?_
  rw[Z1]
  cases hg:Qj oj n with
  |none =>
   left
   refine Y8 ho hdd hn.base (Qd (by omega)) λo' hd'=>?_
   left
   refine YN (YR jr ha .refl) ?_
   obtain⟨us0,n0,hU0,hl0,_⟩:=Xk jr hn ha (fin o' hd') .refl
   refine Zq F.slot_list_append F.type_list_append hU0 ?_
   left
   refine⟨Qd (by simp),λD hD=>?_⟩
   left
   obtain⟨us,n1,hU,hl1,post⟩:=Xk jr hn ha (fin o' hd') (Ext.put (o:=tup [.ref 555,.ref a,.str n t]) hD.own)
   refine ZU hU jr.bU (Qd (by omega)) λn'=>?_
   left
   exact hq _ ((post _ n').up (by omega))
  |some z =>
   left
   refine Zs ho hdd (v:=z.val) (by show valueAt (Q2 oj) n=_;rw[Z1,hg];rfl) ?_
   left
   refine Y8 ho hdd hn.base (Qd (by omega)) λo' hd'=>?_
   left
   refine YN (YR jr ha .refl) ?_
   obtain⟨us0,n0,hU0,hl0,_⟩:=Xk jr hn ha (fin o' hd') .refl
   refine Zq F.slot_list_append F.type_list_append hU0 ?_
   left
   refine⟨Qd (by simp),λD hD=>?_⟩
   left
   obtain⟨us,n1,hU,hl1,post⟩:=Xk jr hn ha (fin o' hd') (Ext.put (o:=tup [.ref 548,.ref a,.str n t,z.val]) hD.own)
   refine ZU hU jr.bU (Qd (by omega)) λn'=>?_
   left
   exact hq _ ((post _ n').up (by omega))
 |false =>
  obtain⟨n1,ho⟩:=hn.obj
  induction sv with
  |name=>exact absurd (hd1 _ rfl) (by simp)
  |@idx i t =>
  obtain⟨z,hz⟩:=hk.resolve_left (by simp)
  have hz':Qx oj i=some z:=hz
  have hi:i < oj.length:=by
   have:=YD (oj:=oj) (i:=i)
   rw[hz'] at this;simpa using this.symm
  left
  refine Qao ho (v:=z.val) (by show (Q3 oj)[i]?=_;rw[QaY,hz'];rfl) (by omega) ?_
  left
  refine Qdi ho hn.base (Qd (by omega)) (by rw[lm_];exact hi) λn'=>?_
  left
  have h1:Q8 c (oh.put a (lst ((Q3 oj).set i x.val) n')) a false (qh false oj (.idx i) x):=⟨n',by rw[Qa];exact congrArg (λz=>some (lst z n')) Qck.symm⟩
  refine YN (YR jr ha .refl) ?_
  obtain⟨us0,n0,hU0,hl0,_⟩:=Xk jr hn ha h1 .refl
  refine Zq F.slot_list_append F.type_list_append hU0 ?_
  left
  refine⟨Qd (by simp),λD hD=>?_⟩
  left
  obtain⟨us,n1,hU,hl1,post⟩:=Xk jr hn ha h1 (Ext.put (o:=tup [.ref 548,.ref a,.int (i:Nat) t,z.val]) hD.own)
  refine ZU hU jr.bU (Qd (by omega)) λn'=>?_
  left
  exact hq _ ((post _ n').up (by omega))
def Qba (c:Cx) (N:Nat) (oh:Own) (jv:Vl) (JS:List Ad) (B:Nat) (f:Vl) (first:List Vl):Prop :=
 ∀ (a:Ad) (d:Bool) (oj:LJ) (s:Qh) (v:Vl) (z:J) (k:KO),Z9 c oh a d oj->oj.length<=900->a∉JS->Xy s v->Qw d oj s=some z ->
  (∀o',ZD c oh o' jv JS (B+2) a d (Qo oj s)->k .none o')->CW c N oh (call f (first++[.ref a,v]) []) k
def Qbb (c:Cx) (N:Nat) (oh:Own) (jv:Vl) (JS:List Ad) (B:Nat) (f:Vl) (first:List Vl):Prop :=
 ∀ (a:Ad) (oj:LJ) (i:Nat) (t:Tok) (x:J) (k:KO),Z9 c oh a false oj->oj.length<=900->a∉JS->i<=oj.length ->
  (∀o',ZD c oh o' jv JS (B+2) a false (Qp oj (.idx i) x)->k .none o')->CW c N oh (call f (first++[.ref a,.int i t,x.val]) []) k
def Qa9 (c:Cx) (N:Nat) (oh:Own) (jv:Vl) (JS:List Ad) (B:Nat) (f:Vl) (first:List Vl):Prop :=
 ∀ (a:Ad) (oj:LJ) (x:J) (k:KO),Z9 c oh a false oj->oj.length<=900->a∉JS ->
  (∀o',ZD c oh o' jv JS (B+2) a false (Qp oj (.idx oj.length) x)->k .none o')->CW c N oh (call f (first++[.ref a,x.val]) []) k
theorem Qhc {i j:Int}{t u:Tok}(hk:∀t,k (.int (i - j) t) m oh):W c N ou m oh (binaryOp .Sub (.int i t) (.int j u)) k :=
 Xh (f:=λt=>.int (i - j) t) (λA s fr Q hA S P hQ=>PyProof.Rows.sub_int' (hQ _ _)) hk
theorem QbL {z:J}(h:Qx oj i=some z):i < oj.length:=by
 have:=YD (oj:=oj) (i:=i)
 rw[h] at this;simpa using this.symm
theorem Qfn {x:J}:Q3 (Qp oj (.idx oj.length) x)=Q3 oj++[x.val]:=by
 show Q3 (ZK oj oj.length x)=_
 rw[qi (Nat.le_refl _),List.take_of_length_le (by simp),List.drop_eq_nil_of_le (by simp)]
theorem QlR {B:Nat}:Qba c (N+1) oh (.ref 485) [] B (.ref 453) []:=by
 intro a d oj s v z k hn hl ha sv hz hq
 refine Qke λou kf=>?_
 have fin:∀o',Q8 c (oh.put a o') a d (Qo oj s)->k .none (oh.put a o'):=λo' h=>hq _ ⟨h,Upd.refl.put (.inl (by simp)) (h.aJ hn.obj),.nul⟩
 refine Qm (QbB ?_)
 left
 induction d with
 |true =>
  obtain⟨o,ho,hdd⟩:=hn.obj
  induction sv with
  |idx=>cases hz
  |@name n t =>
  have hz':Qj oj n=some z:=hz
  refine QcY ho hdd hn.base (Qd (by omega)) (by show (valueAt (Q2 oj) n).isSome=true;rw[Z1,hz'];rfl) λo' hd'=>?_
  left
  exact fin o' ⟨o',Qa ..,by have:=hd';rw[Qcl] at this;exact this⟩
 |false =>
  obtain⟨n1,ho⟩:=hn.obj
  induction sv with
  |name=>cases hz
  |@idx i t =>
  refine QcZ ho hn.base (Qd (by omega)) (by rw[lm_];exact QbL hz) λn'=>?_
  left
  exact fin _ ⟨n',by rw[Qa];exact congrArg (λz=>some (lst z n')) Qcj⟩
theorem QlT {B:Nat}:Qbb c (N+1) oh (.ref 485) [] B (.ref 463) []:=by
 intro a oj i t x k hn hl ha hi hq
 refine Qkf λou kf=>?_
 obtain⟨n1,ho⟩:=hn.obj
 refine Qm ?_
 left
 refine Zq F.slot_list_insert F.type_list_insert ho ?_
 left
 refine Qbu ho hn.base (Qd (by omega)) (by rw[lm_];exact hi) λn'=>?_
 left
 have h:Q8 c (oh.put a (lst ((Q3 oj).take i++x.val::(Q3 oj).drop i) n')) a false (Qp oj (.idx i) x):=⟨n',by rw[Qa];exact congrArg (λz=>some (lst z n')) (qi hi).symm⟩
 exact hq _ ⟨h,Upd.refl.put (.inl (by simp)) (h.aJ hn.obj),.nul⟩
theorem QlP {B:Nat}:Qa9 c (N+1) oh (.ref 485) [] B (.ref 473) []:=by
 intro a oj x k hn hl ha hq
 refine Qkd λou kf=>?_
 obtain⟨n1,ho⟩:=hn.obj
 refine Qm ?_
 left
 refine Zq F.slot_list_append F.type_list_append ho ?_
 left
 refine ZU ho hn.base (Qd (by omega)) λn'=>?_
 left
 have h:Q8 c (oh.put a (lst (Q3 oj++[x.val]) n')) a false (Qp oj (.idx oj.length) x):=⟨n',by rw[Qa];exact congrArg (λz=>some (lst z n')) Qfn.symm⟩
 exact hq _ ⟨h,Upd.refl.put (.inl (by simp)) (h.aJ hn.obj),.nul⟩
theorem QlS {j dj U O:Ad}{B:Nat}(jr:Zp c oh j dj U O B) (hB:B<=900):Qbb c (N+1) oh (.ref j) [j,dj,U,O] B (.ref 520) [.ref j]:=by
 intro a oj i t x k hn hl ha hi hq
 refine Qkb λou kf=>?_
 obtain⟨n1,ho⟩:=hn.obj
 refine Qm ?_
 left
 refine Zq F.slot_list_insert F.type_list_insert ho ?_
 left
 refine Qbu ho hn.base (Qd (by omega)) (by rw[lm_];exact hi) λn'=>?_
 left
 have h1:Q8 c (oh.put a (lst ((Q3 oj).take i++x.val::(Q3 oj).drop i) n')) a false (Qp oj (.idx i) x):=⟨n',by rw[Qa];exact congrArg (λz=>some (lst z n')) (qi hi).symm⟩
 refine YN (YR jr ha .refl) ?_
 obtain⟨us0,n0,hU0,hl0,_⟩:=Xk jr hn ha h1 .refl
 refine Zq F.slot_list_append F.type_list_append hU0 ?_
 left
 refine⟨Qd (by simp),λD hD=>?_⟩
 left
 obtain⟨us,n1,hU,hl1,post⟩:=Xk jr hn ha h1 (Ext.put (o:=tup [.ref 555,.ref a,.int (i:Nat) t]) hD.own)
 refine ZU hU jr.bU (Qd (by omega)) λn'=>?_
 left
 exact hq _ ((post _ n').up (by omega))
theorem QlO {j dj U O:Ad}{B:Nat}(jr:Zp c oh j dj U O B) (hB:B<=900):Qa9 c (N+1) oh (.ref j) [j,dj,U,O] B (.ref 527) [.ref j]:=by
 intro a oj x k hn hl ha hq
 refine Qj9 λou kf=>?_
 obtain⟨n1,ho⟩:=hn.obj
 refine Qm ?_
 left
 refine Zq F.slot_list_append F.type_list_append ho ?_
 left
 refine ZU ho hn.base (Qd (by omega)) λn'=>?_
 left
 have h1:Q8 c (oh.put a (lst (Q3 oj++[x.val]) n')) a false (Qp oj (.idx oj.length) x):=⟨n',by rw[Qa];exact congrArg (λz=>some (lst z n')) Qfn.symm⟩
 refine YN (YR jr ha .refl) ?_
 obtain⟨us0,n0,hU0,hl0,_⟩:=Xk jr hn ha h1 .refl
 refine Zq F.slot_list_append F.type_list_append hU0 ?_
 left
 refine ZI (Qa ..) (Qd (by simp<;>omega)) λt1=>?_
 left
 refine Qhc λt2=>?_
 refine⟨Qd (by simp),λD hD=>?_⟩
 left
 obtain⟨us,n1,hU,hl1,post⟩:=Xk jr hn ha h1 (Ext.put (o:=tup [.ref 555,.ref a,.int (((List.map (λx:Str × J=>x.2.val) oj++[x.val]).length:Nat) - 1) t2]) hD.own)
 refine ZU hU jr.bU (Qd (by omega)) λn'=>?_
 left
 exact hq _ ((post _ n').up (by omega))
theorem Zp.pushO {j dj U O a r y:Ad}{B:Nat}{os:List Vl}{n n':Nat}{oa:Obj}(jr:Zp c oh j dj U O B) (hO:oh O=some (lst os n)) (hr:oh r=some (tup [.ref a,.ref y])) (ha:oh a=some oa) (hc:oa.cls≠.type "tuple"):Zp c (oh.put O (lst (os++[.ref r]) n')) j dj U O (B+1):=by
 obtain⟨us,m,h1,h2⟩:=jr.undo
 obtain⟨os',m',h3,h4,h5⟩:=jr.orders
 rw[hO] at h3
 have e3:os=os':=QbW h3
 subst e3
 have hO':Upd oh (oh.put O (lst (os++[.ref r]) n')) [O]:=Upd.refl.put (.inl (by simp)) λo0 e=>by cases hO,e;rfl
 have hjO:j≠O:=λe=>by have:=jr.inst.o;rw[e] at this;cases hO,this
 obtain⟨ne1,ne2,ne3⟩:=jr.ne
 have tk:∀b xs,oh b=some (tup xs)->(oh.put O (lst (os++[.ref r]) n')) b=some (tup xs):=λb xs e=>hO'.keep _ _ (nsg λq=>by rw[q,hO] at e;exact qd (Option.some.inj e)) e
 refine⟨jr.inst.keep hO' (nsg hjO) (nsg ne3.symm),⟨us,m,hO'.keep _ _ (nsg ne1) h1,by omega⟩,⟨_,n',Qa ..,by omega,λt ht=>?_⟩,jr.bU,jr.bO,jr.ne⟩
 rcases ma_.mp ht with ht|ht
 ·obtain⟨r,x,y,ox,e1,e2,e3,e4⟩:=h5 t ht
  obtain⟨ox',e5,e6⟩:=hO'.cls x ox e3
  exact⟨r,x,y,ox',e1,tk _ _ e2,e5,by rw[e6];exact e4⟩
 ·rw[ms_.mp ht]
  obtain⟨oa',e5,e6⟩:=hO'.cls a oa ha
  exact⟨r,a,y,oa',rfl,tk _ _ hr,e5,by rw[e6];exact hc⟩
theorem ZD.pre {oh own1 o':Own}{jv:Vl}{JS:List Ad}{B:Nat}{af:LJ}(h:ZD c own1 o' jv JS B a d af) (u:Upd oh own1 JS):ZD c oh o' jv JS B a d af :=
 ⟨h.node,Upd.trans ⟨λb o hb e=>u.keep b o (λhm=>hb (.tail _ hm)) e,u.cls⟩ h.upd λb hb=>.inl hb,h.j⟩
abbrev QI (c:Cx) (oh:Own) (j dj U O a:Ad) (n:Str) (t:Tok) (z:J) (o:Obj) (B:Nat) (m3:Loc) (o3:Own):Prop:=m3=upd (λy=>[(zz "self",Value.ref j),(zz "container",Value.ref a),(zz "key",Value.str n t)].reverse.lookup y) (zz "old") z.val/\Upd oh o3 [j,dj,U,O]/\o3 a=some o/\Zp c o3 j dj U O (B+1)
theorem QlQ (ht:508∈c.tabs) {j dj U O:Ad}{B:Nat}(jr:Zp c oh j dj U O B) (hB:B<=900):Qba c (N+6) oh (.ref j) [j,dj,U,O] B (.ref 513) [.ref j]:=by
 intro a d oj s v z k hn hl ha sv hz hq
 refine Qka λou kf bE=>?_
 have kd:Qv oh (.ref a) (J.node a d oj).kd:=by
  induction d with
  |true=>obtain⟨o,h1,hd⟩:=hn.obj;exact .dict h1 (by obtain⟨_,_,h2,_⟩:=hd;exact h2.1)
  |false=>obtain⟨n,h1⟩:=hn.obj;exact .list h1 rfl
 refine Qm ?_
 induction d with
 |false =>
  obtain⟨n1,ho⟩:=hn.obj
  induction sv with
  |name=>cases hz
  |@idx i t =>
  have hz':Qx oj i=some z:=hz
  have hi:=QbL hz'
  left
  refine Qao ho (v:=z.val) (by show (Q3 oj)[i]?=_;rw[QaY,hz'];rfl) (by omega) ?_
  left
  refine QbB ?_
  left
  refine QcZ ho hn.base (Qd (by omega)) (by rw[lm_];exact hi) λn'=>?_
  left
  have h1:Q8 c (oh.put a (lst ((Q3 oj).eraseIdx i) n')) a false (Qo oj (.idx i)):=⟨n',by rw[Qa];exact congrArg (λz=>some (lst z n')) Qcj⟩
  refine YN (YR jr ha .refl) ?_
  obtain⟨us0,n0,hU0,hl0,_⟩:=Xk jr hn ha h1 .refl
  refine Zq F.slot_list_append F.type_list_append hU0 ?_
  left
  refine⟨Qd (by simp),λD hD=>?_⟩
  left
  obtain⟨us,n1,hU,hl1,post⟩:=Xk jr hn ha h1 (Ext.put (o:=tup [.ref 562,.ref a,.int (i:Nat) t,z.val]) hD.own)
  refine ZU hU jr.bU (Qd (by omega)) λn'=>?_
  left
  exact hq _ ((post _ n').up (by omega))
 |true =>
  obtain⟨o,ho,hdd⟩:=hn.obj
  induction sv with
  |idx=>cases hz
  |@name n t =>
  have hz':Qj oj n=some z:=hz
  left
  refine Y6 ho hdd hn.base ?_
  rw[Z1,hz']
  left
  refine Zs ho hdd (v:=z.val) (by show valueAt (Q2 oj) n=_;rw[Z1,hz'];rfl) ?_
  iterate 4 walk_at "w1"
  refine X3 (R:=(QI c oh j dj U O a n t z o B)) ?_ ?_
  ·iterate 9 walk_at "w1"
   obtain⟨os,no,hO,hol,hos⟩:=jr.orders
   have hbi:qk c.K:=⟨4,o4,by symm,by decide,by symm,rfl,rfl,rfl⟩
   have hct:YL c.K 512 508:=⟨QeL,_,_,_,_,_,_,_,_,by symm,rfl,rfl,rfl,rfl,rfl,rfl,rfl⟩
   refine Qgt (Xj kf rfl) rfl rfl bE hct ht hbi (λx=>rfl) ?_
   left
   refine⟨rfl,?_⟩
   left
   refine Qdf jr.inst ?_
   classical
   refine⟨os.length,λi=>decide (∃r x y,os[i]?=some (.ref r)/\oh r=some (tup [.ref x,.ref y])/\x=a),λo'=>Ext oh o',⟨_,_,oh,Qa5 (Xv hO),.refl,λo' hx q hq=>?_,λo' T xs hx hT=>hx.ai hT.own,?_⟩,λo' hx=>?_⟩
   ·refine memS hq ?_;exact hx _ _ hO
   ·rintro oq i v x o' mc hsc hi ⟨hPv,rfl⟩ hx ac _
    have kf:=qJ hsc
    have hv1:=ac (zz "container") _ rfl rfl
    obtain⟨r,x,y,ox,rfl,hr,hxo,hxc⟩:=hos v (mg_ hPv)
    refine YM kf rfl rfl (hx _ _ hr) ?_
    left
    by_cases hxa:x=a
    ·refine Qc8 hxa ?_
     refine⟨?_,Zj rfl (Zj rfl ac),hx⟩
     exact congrArg Value.bool (decide_eq_true ⟨r,x,y,hPv,hr,hxa⟩).symm
    ·refine Qap hxa (ZY (hx _ _ hxo)) (ZY (hx _ _ ho)) hxc ?_
     refine⟨?_,Zj rfl (Zj rfl ac),hx⟩
     refine congrArg Value.bool (decide_eq_false ?_).symm
     rintro⟨r',x',y',e1,e2,e3⟩
     cases hPv,e1
     exact hxa ((Qfl (hr.symm.trans e2)).1.trans e3)
   ·have jx:Zp c o' j dj U O B:=((JOk.jr jr).ext hx).j
    have nop:Upd oh o' [j,dj,U,O]:=hx.upd
    left
    refine⟨λhb=>?_,λhb=>?_⟩
    ·left
     refine Qdf jx.inst ?_
     refine Zq F.slot_list_append F.type_list_append (hx _ _ hO) ?_
     left
     refine QgS (XU hn.base) (hx _ _ ho) hdd (Qd (by omega)) λD1 l1 n1 hD1 x_=>?_
     refine⟨Qd (by simp),λD2 hD2=>?_⟩
     left
     have x2:Ext o' ((o'.put D1 (lst (strValues l1) n1)).put D2 (tup [.ref a,.ref D1])):=by walk_at "ext"
     have j2:Zp c ((o'.put D1 (lst (strValues l1) n1)).put D2 (tup [.ref a,.ref D1])) j dj U O B:=((JOk.jr jx).ext x2).j
     refine ZU (x2 _ _ (hx _ _ hO)) jr.bO (Qd (by omega)) λn'=>?_
     left
     have hOa:a≠O:=nn3 ha
     have hoc:o.cls≠.type "tuple":=hn.obj.bw o ho
     refine⟨rfl,rfl,?_,by rw[Qi hOa];exact x2 _ _ (hx _ _ ho),j2.pushO (x2 _ _ (hx _ _ hO)) (Qa ..) (x2 _ _ (hx _ _ ho)) hoc⟩
     exact Upd.put ((hx.trans x2).upd) (.inl (by simp)) λo0 e=>by cases (x2 _ _ (hx _ _ hO)),e;rfl
    ·left
     refine⟨rfl,rfl,nop,hx _ _ ho,?_⟩
     exact((JOk.jr jx).mono (B':=B+1) (by omega)).j
  ·rintro m3 o3 ⟨rfl,u3,h3,j3⟩
   have hn3:Z9 c o3 a true oj:=⟨hn.base,o,h3,hdd⟩
   refine Xa (Qm (QbB ?_))
   left
   refine QcY h3 hdd hn.base (Qd (by omega)) (by show (valueAt (Q2 oj) n).isSome=true;rw[Z1,hz'];rfl) λo' hd'=>?_
   left
   have h1:Q8 c (o3.put a o') a true (Qo oj (.name n)):=⟨o',Qa ..,by have:=hd';rw[Qcl] at this;exact this⟩
   refine YN (YR j3 ha .refl) ?_
   obtain⟨us0,n0,hU0,hl0,_⟩:=Xk j3 hn3 ha h1 .refl
   refine Zq F.slot_list_append F.type_list_append hU0 ?_
   left
   refine⟨Qd (by simp),λD hD=>?_⟩
   left
   obtain⟨us,n1,hU,hl1,post⟩:=Xk j3 hn3 ha h1 (Ext.put (o:=tup [.ref 548,.ref a,.str n t,z.val]) hD.own)
   refine ZU hU j3.bU (Qd (by omega)) λn'=>?_
   left
   exact hq _ ((post _ n').pre u3)
section
theorem QcK {x C:Ad}{oj:LV}{name:Str}{k:Vl->List Vl->Loc->Own->Prop}(I:ZO oh x C oj) (hga:findIn c.K (.ref C) "__getattribute__"=some (some (.builtin "object.__getattribute__"))) (hgt:findIn c.K (.ref C) "__getattr__"=some none)
  (hh:hasDictIn c.K C=true) (ha:findIn c.K (.ref C) name=some none) (hl:oj.lookup name=some v) (hv:handedIn v=true) (hk:k v [] m oh):ZB c N ou m oh (.ref x) name k:=by
 intro pl
 refine Q6 (a:=(v,[])) (λA s fr Q hA S P hQ=>?_) hk
 obtain⟨dx,od,hd,I'⟩:=I.at S.sg
 exact method_usual S.sg.kIn I' hga hgt ha rfl (get_value S.sg.kIn I' hga (findObj_own hh ha rfl (by rw[hd.look,hl])) hv (hQ _))
end
def Y0 (C:Ad):Prop:=C=680\/C=707\/C=726\/C=784\/C=803\/C=822
theorem oc {C:Ad}(h:([680,707,726,784,803,822]:List Nat).contains C=true):Y0 C:=by
 have h:=List.contains_iff_mem.mp h
 simp only[mc_,nn_,or_false] at h
 exact h
structure Qf4 (c:Cx) (C:Ad):Prop where
 mks:makesIn c.K C=true
 ini:findIn c.K (.ref C) "__init__"=some (some (.ref 582))
 ga:findIn c.K (.ref C) "__getattribute__"=some (some (.builtin "object.__getattribute__"))
 gt:findIn c.K (.ref C) "__getattr__"=some none
 hd:hasDictIn c.K C=true
 sa:findIn c.K (.ref C) "__setattr__"=some (some (.builtin "object.__setattr__"))
 po:plainOver c.K C=true
 a1:findIn c.K (.ref C) "pointer_cls"=some none/\takerIn c.K C "pointer_cls"=some none
 a2:findIn c.K (.ref C) "location"=some none/\takerIn c.K C "location"=some none
 a3:findIn c.K (.ref C) "pointer"=some none/\takerIn c.K C "pointer"=some none
 a4:findIn c.K (.ref C) "operation"=some none/\takerIn c.K C "operation"=some none
 fp:findIn c.K (.ref C) "_from_pointer"=some (some (.ref 589))
 ap:findIn c.K (.ref C) "apply"=some (some (.ref 596))
theorem Z5 {C:Ad}(h:Y0 C):Qf4 c C:=by
 rcases h with rfl|rfl|rfl|rfl|rfl|rfl <;>
  exact⟨by symm,by symm,by symm,by symm,by symm,by symm,by symm,
   ⟨by symm,by symm⟩,⟨by symm,by symm⟩,⟨by symm,by symm⟩,⟨by symm,by symm⟩,by symm,by symm⟩
structure Za (c:Cx) (oh:Own) (r:Ad) (oj:LV):Prop where
 o:∃o,oh r=some o/\IsD c o oj
 b:c.H.get? r=none
theorem Za.ext {oh oo:Own}{r:Ad}{oj:LV}(h:Za c oh r oj) (x:Ext oh oo):Za c oo r oj:=let ⟨o,h1,h2⟩:=h.o;⟨⟨o,x _ _ h1,h2⟩,h.b⟩
structure Zy (c:Cx) (oh:Own) (x C:Ad) (ps:List Str) (r:Ad):Prop where
 is:∃dx Pp t,Q5 c oh x C dx [(zz "pointer_cls",.ref 333),(zz "location",.str (Qt ps) t),(zz "pointer",.ref Pp),(zz "operation",.ref r)]/\Zl c oh Pp ps
theorem Zy.ext {oh oo:Own}{x C:Ad}{ps:List Str}{r:Ad}(h:Zy c oh x C ps r) (e:Ext oh oo):Zy c oo x C ps r:=⟨by obtain⟨dx,Pp,t,h1,h2⟩:=h.is;exact⟨dx,Pp,t,h1.ext e,h2.ext e⟩⟩
theorem Qac {C:Ad}(hC:Y0 C) {r:Ad}{oj:LV}{ps:List Str}{k:KO}(R:Za c oh r oj) (hp:valueAt oj (zz "path")=some (.str (Qt ps) t)) (hg:∀p∈ps,p∈Z6) (hl:ps.length<=900)
  (hk:∀X o' (L:List Ad),Zy c o' X C ps r->Ext oh o'->(∀b∈L,oh b=none/\∃ob,o' b=some ob)->(∀o'',(∀b∈L,∀o,o' b=some o->o'' b=some o)->Zy c o'' X C ps r)->k (.ref X) o'):CW c (N+6) oh (call (.ref C) [.ref r] [(zz "pointer_cls",.ref 333)]) k:=by
 have cl:=Z5 (c:=c) hC
 refine qX (fI:=582) cl.mks cl.ini (by symm) λD X hD hX=>?_
 refine QjV λou kf=>?_
 have I:=QaJ (C:=C) hD hX
 have x1:Ext oh ((oh.put D emptyDict).put X (instObj C D)):=by walk_at "ext"
 have nD:oh D=none:=hD.own
 have nX:oh X=none:=(Ext.put nD).none hX.own
 generalize ho1:(oh.put D emptyDict).put X (instObj C D)=o1 at I x1 ⊢
 have R1:=R.ext x1
 obtain⟨ro,hr1,hr2⟩:=R1.o
 have kdr:∀o,o r=some ro->Qv o (.ref r) .dict:=λo e=>.dict e (by obtain⟨_,_,h2,_⟩:=hr2;exact h2.1)
 refine Qm ?_
 left
 refine Yg I (by simp) cl.sa cl.po cl.a1.2 cl.hd λo2 I2 e2 c2=>?_
 replace I2:Q5 c o2 X C D [(zz "pointer_cls",.ref 333)]:=I2
 have hrD:r≠D:=by
  rintro rfl
  obtain⟨ro',h1,_⟩:=R.o
  cases nD,h1
 have hr2':o2 r=some ro:=e2 _ _ hrD hr1
 left
 refine Y6 hr2' hr2 R.b ?_
 rw[hp]
 left
 refine Zs hr2' hr2 hp ?_
 left
 refine Zc (attr:=none) I2.inst cl.ga cl.hd cl.a1.1 rfl rfl rfl ?_
 left
 refine Qc9 (b:=false) (by symm) ?_
 left
 refine Zs hr2' hr2 hp ?_
 left
 refine Yg I2 (by simp) cl.sa cl.po cl.a2.2 cl.hd λo3 I3 e3 c3=>?_
 replace I3:Q5 c o3 X C D [(zz "pointer_cls",.ref 333),(zz "location",.str (Qt ps) t)]:=I3
 left
 refine ZE ?_
 left
 refine QcK I3.inst cl.ga cl.gt cl.hd cl.a1.1 rfl rfl ?_
 left
 refine Zc (attr:=none) I3.inst cl.ga cl.hd cl.a2.1 rfl rfl rfl ?_
 refine⟨Zg (by symm),?_⟩
 refine Qf (QcB hg hl λPp dp Lp vs nv o4 Ip hLp hB x4 q1 q2 q3=>?_)
 left
 refine Yg (I3.ext x4) (by simp) cl.sa cl.po cl.a3.2 cl.hd λo5 I5 e5 c5=>?_
 replace I5:Q5 c o5 X C D [(zz "pointer_cls",.ref 333),(zz "location",.str (Qt ps) t),(zz "pointer",.ref Pp)]:=I5
 left
 have hr5:o5 r=some ro:=e5 _ _ hrD (x4 _ _ (e3 _ _ hrD hr2'))
 have kd:=kdr o5 hr5
 left
 refine Yg I5 (by simp) cl.sa cl.po cl.a4.2 cl.hd λo6 I6 e6 c6=>?_
 left
 have nD':∀b,oh b≠none->b≠D:=λb hb h=>hb (h▸nD)
 have xo:Ext oh o6:=λb o e=>by
  have hb:=nD' b (by rw[e];simp)
  exact e6 _ _ hb (e5 _ _ hb (x4 _ _ (e3 _ _ hb (e2 _ _ hb (x1 _ _ e)))))
 obtain⟨od3,hd3,_⟩:=I3.d
 have nb:∀b,o3 b=none->b≠D:=λb hb h=>by rw[h,hd3] at hb;cases hb
 have n3:∀b,o3 b=none->oh b=none:=λb hb=>by
  cases q:oh b with
  |none=>rfl
  |some ob =>
   have hbD:=nD' b (by rw[q];simp)
   cases (e3 _ _ hbD (e2 _ _ hbD (x1 _ _ q))),hb
 obtain⟨odp,hp1,hp2⟩:=Ip.d
 obtain⟨od6,hd6,hd7⟩:=I6.d
 have i1:=e6 _ _ (nb _ q1) (e5 _ _ (nb _ q1) Ip.o)
 have i2:=e6 _ _ (nb _ q2) (e5 _ _ (nb _ q2) hp1)
 have i3:=e6 _ _ (nb _ q3) (e5 _ _ (nb _ q3) hLp)
 have all:∀o'',(∀b∈[X,D,Pp,dp,Lp],∀o,o6 b=some o->o'' b=some o)->Zy c o'' X C ps r:=λo'' h =>
  ⟨D,Pp,t,⟨h _ (by simp) _ I6.o,⟨od6,h _ (by simp) _ hd6,hd7⟩,I6.b,I6.bx⟩,⟨dp,Lp,vs,nv,⟨h _ (by simp) _ i1,⟨odp,h _ (by simp) _ i2,hp2⟩,Ip.b,Ip.bx⟩,h _ (by simp) _ i3,hB⟩⟩
 refine⟨rfl,hk X o6 [X,D,Pp,dp,Lp] (all o6 λx_ x_ x_ h=>h) xo (λb hb=>?_) all⟩
 simp only[mc_,nn_,or_false] at hb
 rcases hb with rfl|rfl|rfl|rfl|rfl
 ·exact⟨nX,_,I6.o⟩
 ·exact⟨nD,_,hd6⟩
 ·exact⟨n3 _ q1,_,i1⟩
 ·exact⟨n3 _ q2,_,i2⟩
 ·exact⟨n3 _ q3,_,i3⟩
theorem Doc.modw {x:J}{f:List (Str × J)->List (Str × J)}{X:J}{p:Qe}{oh oo:Own}(D:Doc c oh X) (h:Tactic.look p X=some (.node a d oj)) (hf:Fit x oj (f oj)) (hx:Ok c oo x) (hn:x.addrs.Nodup) (hd:∀b∈x.addrs,b∉X.addrs) (ha:Q8 c oo a d (f oj))
  (hE:∀b o,b∈X.addrs->b≠a->oh b=some o->oo b=some o):Doc c oo (Qg f p X):=by
 have bn:=(D.look h).ok
 have hnd:=(D.look h).nd
 have aG:∀b∈J.aa oj,b∈X.addrs:=λb hb=>Zb h b (J.mL hb)
 rw[J.addrs,nc_] at hnd
 refine⟨QbY D.ok D.nd h ⟨bn.ae.base,ha⟩ (λq hq=>?_) λb hb hne o e=>hE b o hb hne e,QaO D.nd h (hf.nodup hnd.2 hn λb hb hb'=>hd b hb (aG b hb')) λb hb=>(hf.addrs hb).imp id (hd b)⟩
 rcases hf.kids hq with hq|e
 ·refine(bn.kid hq).on λb hb o e=>hE b o (aG b (J.ad hq hb)) ?_ e
  rintro rfl
  exact hnd.1 (J.ad hq hb)
 ·rw[e];exact hx
section
variable {jv:Vl}{JS:List Ad}{B:Nat}
theorem Qa6 (J:JOk c oh jv JS B) (hB:B<=900) {k:Vl->List Vl->Loc->Own->Prop}(hk:∀f first,Q0 c oh f->Qbc c (N+6) oh jv JS B f first->k f first m oh):ZB c (N+6) ou m oh jv (zz "setitem") k :=
 Qag (fN:=443) (pN:=445) (fJ:=506) (rest:=[.bool false]) J (by symm) (by symm) (by symm) (by symm) (by ac_rfl) (by symm) (by symm) (by symm) (by ac_rfl)
  (λe e'=>by subst e;subst e';exact hk _ _ (Qjh) (QlX (N:=N+5))) (λj dj U O jr e1 e2=>by subst e1;subst e2;exact hk _ _ (Qjl) (QlW (N:=N+5) jr hB))
theorem QcJ (ht:508∈c.tabs) (J:JOk c oh jv JS B) (hB:B<=900) {k:Vl->List Vl->Loc->Own->Prop}(hk:∀f first,Q0 c oh f->Qba c (N+6) oh jv JS B f first->k f first m oh):ZB c (N+6) ou m oh jv (zz "delitem") k :=
 Qag (fN:=453) (pN:=455) (fJ:=513) (rest:=[.bool false]) J (by symm) (by symm) (by symm) (by symm) (by ac_rfl) (by symm) (by symm) (by symm) (by ac_rfl)
  (λe e'=>by subst e;subst e';exact hk _ _ (Qji) (QlR (N:=N+5))) (λj dj U O jr e1 e2=>by subst e1;subst e2;exact hk _ _ (Qjm) (QlQ ht (N:=N) jr hB))
theorem Qgb (J:JOk c oh jv JS B) (hB:B<=900) {k:Vl->List Vl->Loc->Own->Prop}(hk:∀f first,Q0 c oh f->Qbb c (N+6) oh jv JS B f first->k f first m oh):ZB c (N+6) ou m oh jv (zz "insert") k :=
 Qag (fN:=463) (pN:=465) (fJ:=520) (rest:=[.bool false]) J (by symm) (by symm) (by symm) (by symm) (by ac_rfl) (by symm) (by symm) (by symm) (by ac_rfl)
  (λe e'=>by subst e;subst e';exact hk _ _ (Qjj) (QlT (N:=N+5))) (λj dj U O jr e1 e2=>by subst e1;subst e2;exact hk _ _ (Qjn) (QlS (N:=N+5) jr hB))
theorem Qga (J:JOk c oh jv JS B) (hB:B<=900) {k:Vl->List Vl->Loc->Own->Prop}(hk:∀f first,Q0 c oh f->Qa9 c (N+6) oh jv JS B f first->k f first m oh):ZB c (N+6) ou m oh jv (zz "append") k :=
 Qag (fN:=473) (pN:=475) (fJ:=527) (rest:=[.bool false]) J (by symm) (by symm) (by symm) (by symm) (by ac_rfl) (by symm) (by symm) (by symm) (by ac_rfl)
  (λe e'=>by subst e;subst e';exact hk _ _ (Qjk) (QlP (N:=N+5))) (λj dj U O jr e1 e2=>by subst e1;subst e2;exact hk _ _ (Qjo) (QlO (N:=N+5) jr hB))
end
noncomputable def YF (k:Qh) (e:Bool):Str:=if e then zz "-" else Qq k
set_option tactic.hygienic true in
theorem QmZ {k:Qh}{e:Bool}(h:Ins d oj k e) (g:Z4 k) (t:Tok):Xw d oj (.str (YF k e) t) k e:=by
 induction d<;>induction k
 ·exact h.elim
 ·rename_i i
  induction e with
  |false=>exact .idx g
  |true=>have:=h.2 rfl;subst this;exact .dash
 ·have:e=false:=h
  subst this;exact .dict
 ·exact h.elim
theorem qP {k:Qh}{z:J}(h:Qw d oj k=some z) (g:Z4 k) (t:Tok):Xw d oj (.str (YF k false) t) k false:=by
 induction d<;>induction k
 ·cases h
 ·exact .idx g
 ·exact .dict
 ·cases h
theorem XJ.step {s:Qh}(h:XJ d oj s false v):Xy s v:=by
 cases h<;>constructor
theorem ZD.applied {oh own1 o':Own}{W x:J}{jv:Vl}{JS:List Ad}{B:Nat}{h:Qe}{f:List (Str × J)->List (Str × J)}(p:ZD c own1 o' jv JS B a d (f oj)) (D:Doc c oh W) (x1:Ext oh own1) (hl:Tactic.look h W=some (.node a d oj)) (hf:Fit x oj (f oj))
  (Dx:Doc c own1 x) (hx:∀b∈x.addrs,b∉W.addrs) (jW:∀b∈W.addrs,b∉JS) (jx:∀b∈x.addrs,b∉JS):Doc c o' (Qg f h W)/\Upd oh o' (W.addrs++JS):=by
 have ha:a∈W.addrs:=Zb hl a J.m0
 refine⟨(D.ext x1).modw hl hf (p.upd.ok Dx.ok λb hb=>?_) Dx.nd hx p.node λb o hb hne e=>p.upd.keep b o ?_ e,?_⟩
 ·rw[mc_,not_or]
  exact⟨by rintro rfl;exact hx _ hb ha,jx b hb⟩
 ·rw[mc_,not_or]
  exact⟨hne,jW b hb⟩
 ·refine Upd.trans x1.upd p.upd λb hb=>.inl ?_
  rcases mc_.mp hb with rfl|hb
  ·exact ml_ _ ha
  ·exact mr_ _ hb
theorem Zy.at {x C:Ad}{ps:List Str}{r:Ad}(h:Zy c oh x C ps r):∃dx Pp t,Q5 c oh x C dx [(zz "pointer_cls",.ref 333),(zz "location",.str (Qt ps) t),(zz "pointer",.ref Pp),(zz "operation",.ref r)]/\Zl c oh Pp ps:=h.is
theorem qW {x r:Ad}{W y:J}{h:Qe}{k:Qh}{e:Bool}{jv:Vl}{JS:List Ad}{B:Nat}{K:KF_}(kf:KF ou QbK.scope) (O:Zy c oh x 707 (QY h k e) r) (D:Doc c oh W) (hz:W.size<=900)
  (hg:∀s∈h++[k],Z4 s) (hi:ZC h k e W) (Dy:Doc c oh y) (hy:∀b∈y.addrs,b∉W.addrs) (jo:JOk c oh jv JS B) (hB:B<=900) (jW:∀b∈W.addrs,b∉JS) (jy:∀b∈y.addrs,b∉JS)
  (hK:∀m o',Doc c o' (Qg (Qp · k y) h W)->Upd oh o' (W.addrs++JS)->JOk c o' jv JS (B+2)->K (.ret W.val) m o') :
  Tactic.W c (N+6) ou (λz=>[(zz "self",.ref x),(zz "obj",W.val),(zz "value",y.val),(zz "journal",jv)].reverse.lookup z) oh (execs (Qy (Qb 41 1)) ou) K:=by
 obtain⟨dx,Pp,t,hI,hP⟩:=O.at
 obtain⟨a,d,oj,hl,hins⟩:=hi
 have cl:=Z5 (c:=c) (C:=707) (oc rfl)
 have hkl:=J.length_le (oj:=oj)
 have hsz:=ZL hl
 rw[J.size] at hsz
 have gk:=hg k (by simp)
 refine Qm (Xi kf rfl rfl ?_ rfl rfl)
 left
 refine Zc (attr:=none) hI.inst cl.ga cl.hd cl.a3.1 rfl rfl rfl ?_
 obtain⟨dp,Lp,vs,nv,hIp,hLp,hBp⟩:=hP.at
 refine Zo (f:=190) hIp.inst (by symm) (by symm) (by symm) (by symm) rfl ?_
 left
 refine Qf (ql (N:=N+3) hP D.ok (by omega) (λs hs=>hg s (ml_ _ hs)) hl (QmZ hins gk) λR o1 v hR hv x1=>?_)
 refine⟨R,.ref a,v,rfl,hR,?_⟩
 have okn:=(Z7 hl D.ok).ext x1
 have kd:Qv o1 (.ref a) (J.node a d oj).kd:=okn.kdOf
 have jo1:=jo.ext x1
 have ha:a∈W.addrs:=Zb hl a J.m0
 have haJ:=jW a ha
 have Dy1:=Dy.ext x1
 have fin:∀ {o'} ,ZD c o1 o' jv JS (B+2) a d (Qp oj k y)->Doc c o' (Qg (Qp · k y) h W)/\Upd oh o' (W.addrs++JS)/\JOk c o' jv JS (B+2):=λp=>by
  obtain⟨q1,q2⟩:=ZD.applied (f:=(Qp · k y)) p D x1 hl ZF Dy1 hy jW jy
  exact⟨q1,q2,p.j⟩
 cases hv with
 |@dict _ n t' =>
  left
  refine XN rfl ?_
  left
  refine Qa6 jo1 hB λf first cf js=>?_
  left
  refine⟨cf,Qf (js a true oj (.name n) _ y _ okn.ae (by omega) haJ .name (.inl rfl) (λx_ x_=>rfl) (λi h=>(nomatch h)) λo' p=>?_)⟩
  left
  obtain⟨q1,q2,q3⟩:=fin p
  exact hK _ _ q1 q2 q3
 |@idx _ i t' hi =>
  left
  refine XN rfl ?_
  left
  obtain⟨n1,ho⟩:=okn.ae.obj
  refine qw ?_
  left
  refine ZI ho (Qd (by omega)) λt3=>?_
  refine qz ?_
  rw[show decide (((List.map (λx:Str × J=>x.2.val) oj).length:Int) < (i:Int))=false by have:=hins.1;simp<;>omega]
  left
  refine qC ?_
  rw[show decide ((i:Int) < 0)=false by simp]
  left
  refine Qgb jo1 hB λf first cf js=>?_
  left
  refine⟨cf,Qf (js a oj i _ y _ okn.ae (by omega) haJ hins.1 λo' p=>?_)⟩
  left
  obtain⟨q1,q2,q3⟩:=fin p
  exact hK _ _ q1 q2 q3
 |@dash _ t' =>
  left
  refine XN rfl ?_
  left
  refine Yw ?_
  rw[beq_self_eq_true]
  left
  refine Qga jo1 hB λf first cf js=>?_
  left
  refine⟨cf,Qf (js a oj y _ okn.ae (by omega) haJ λo' p=>?_)⟩
  left
  obtain⟨q1,q2,q3⟩:=fin p
  exact hK _ _ q1 q2 q3
noncomputable def Op.path:Op->List Str
 |.add h k e _=>QY h k e
 |.remove h k=>QY h k false
 |.replace0 _=>[]
 |.replace h k _=>QY h k false
 |.move _ _ h k e=>QY h k e
 |.copy _ h k e=>QY h k e
 |.test p _=>p.map Qq
noncomputable def Op.frm:Op->Option (List Str)
 |.move fh fk _ _ _=>some (QY fh fk false)
 |.copy f _ _ _=>some (f.map Qq)
 |_=>none
noncomputable def Op.val:Op->Option J
 |.add _ _ _ V=>some V
 |.replace0 V=>some V
 |.replace _ _ V=>some V
 |.test _ V=>some V
 |_=>none
noncomputable def Op.cls:Op->Ad
 |.add ..=>707
 |.remove ..=>680
 |.replace0 ..=>726
 |.replace ..=>726
 |.move ..=>784
 |.copy ..=>822
 |.test ..=>803
noncomputable def Op.name:Op->Str
 |.add ..=>zz "add"
 |.remove ..=>zz "remove"
 |.replace0 ..=>zz "replace"
 |.replace ..=>zz "replace"
 |.move ..=>zz "move"
 |.copy ..=>zz "copy"
 |.test ..=>zz "test"
def Zu (p:Qe):Prop:=(∀s∈p,Z4 s)/\p.length<=100
noncomputable def Op.good:Op->Prop
 |.add h k _ V=>Zu (h++[k])/\V.size<=4
 |.remove h k=>Zu (h++[k])
 |.replace0 V=>V.size<=4
 |.replace h k V=>Zu (h++[k])/\V.size<=4
 |.move fh fk h k e=>Zu (fh++[fk])/\Zu (h++[k])/\((h=fh/\k=fk/\e=false)\/(QY h k e).take (QY fh fk false).length≠QY fh fk false)
 |.copy f h k _=>Zu f/\Zu (h++[k])
 |.test p _=>Zu p
theorem qa (o:Op):Y0 o.cls:=by induction o<;>exact oc rfl
theorem YE {h:Qe}{k:Qh}{e:Bool}(g:Zu (h++[k])):(∀p∈QY h k e,p∈Z6)/\(QY h k e).length<=101:=by
 refine⟨λp hp=>?_,by have:=g.2;rw[la_] at this;show (h.map Qq++[_]).length<=101;rw[la_,lm_];simp at this ⊢;omega⟩
 rcases ma_.mp hp with hp|hp
 ·obtain⟨s,hs,rfl⟩:=List.mem_map.mp hp
  exact YQ (g.1 s (ml_ _ hs))
 ·rw[ms_.mp hp]
  induction e with
  |false=>exact YQ (g.1 k (by simp))
  |true=>exact QjE
theorem Qd4 {h:Qe}(g:Zu h):(∀p∈h.map Qq,p∈Z6)/\(h.map Qq).length<=101:=by
 refine⟨λp hp=>?_,by rw[lm_];have:=g.2;omega⟩
 obtain⟨s,hs,rfl⟩:=List.mem_map.mp hp
 exact YQ (g.1 s hs)
theorem Qlu (o:Op) (g:o.good):(∀p∈o.path,p∈Z6)/\o.path.length<=101:=by
 induction o with
 |add h k e V=>exact YE g.1
 |remove h k=>exact YE g
 |replace0 V=>exact⟨λp hp=>(nomatch hp),by simp[Op.path]⟩
 |replace h k V=>exact YE g.1
 |move fh fk h k e=>exact YE g.2.1
 |copy f h k e=>exact YE g.2
 |test p V=>exact Qd4 g
structure Zr (c:Cx) (oh:Own) (r:Ad) (o:Op):Prop where
 is:∃oj,Za c oh r oj/\(∃t,valueAt oj (zz "op")=some (.str o.name t))/\(∃t,valueAt oj (zz "path")=some (.str (Qt o.path) t))/\(∀F,o.frm=some F->∃t,valueAt oj (zz "from")=some (.str (Qt F) t)) /\
  (∀V,o.val=some V->valueAt oj (zz "value")=some V.val)
 val:∀V,o.val=some V->Ok c oh V/\V.size<=100
theorem Zr.ext {oh oo:Own}{r:Ad}{o:Op}(h:Zr c oh r o) (x:Ext oh oo):Zr c oo r o :=
 let ⟨oj,h1,h2⟩:=h.is;⟨⟨oj,h1.ext x,h2⟩,λV e=>⟨(h.val V e).1.ext x,(h.val V e).2⟩⟩
theorem JOk.owned {jv:Vl}{JS:List Ad}{B:Nat}(J:JOk c oh jv JS B):∀b∈JS,∃o,oh b=some o:=by
 induction J with
 |nul=>intro b hb;cases hb
 |jr J =>
  obtain⟨od,h1,_⟩:=J.inst.d
  obtain⟨us,n,h2,_⟩:=J.undo
  obtain⟨os,n',h3,_⟩:=J.orders
  intro b hb
  simp only[mc_,nn_,or_false] at hb
  rcases hb with rfl|rfl|rfl|rfl
  ·exact⟨_,J.inst.o⟩
  ·exact⟨_,h1⟩
  ·exact⟨_,h2⟩
  ·exact⟨_,h3⟩
theorem QaC {W y:J}(f:Z3 oh y) (D:Ok c oh W):∀b∈y.addrs,b∉W.addrs:=λb hb hm=>by
 obtain⟨o,h⟩:=D.there b hm
 cases (f.new b hb),h
theorem QaB {y:J}{jv:Vl}{JS:List Ad}{B:Nat}(f:Z3 oh y) (J:JOk c oh jv JS B):∀b∈y.addrs,b∉JS:=λb hb hm=>by
 obtain⟨o,h⟩:=J.owned b hm
 cases (f.new b hb),h
structure Z2 (c:Cx) (oh o':Own) (W:J) (op:Op) (y:J) (jv:Vl) (JS:List Ad) (B:Nat):Prop where
 br:XH op W y
 doc:Doc c o' (ZG op y W)
 nd:y.addrs.Nodup
 fresh:op.makes=true->∀b∈y.addrs,oh b=none
 upd:Upd oh o' (W.addrs++JS)
 j:JOk c o' jv JS B
 size:(ZG op y W).size<=2*W.size+4
structure XK (c:Cx) (oh:Own) (W:J) (op:Op) (x r:Ad) (jv:Vl) (JS:List Ad) (B:Nat):Prop where
 inst:Zy c oh x op.cls op.path r
 row:Zr c oh r op
 doc:Doc c oh W
 size:W.size<=400
 pre:Pre op W
 good:op.good
 j:JOk c oh jv JS B
 jB:B<=800
 jW:∀b∈W.addrs,b∉JS
 stay:∃L:List Ad,(∀b∈L,b∉W.addrs/\b∉JS)/\∀o'',(∀b∈L,∀o,oh b=some o->o'' b=some o)->Zy c o'' x op.cls op.path r
section
variable {jv:Vl}{JS:List Ad}{B:Nat}{W:J}{op:Op}{x r:Ad}
theorem Qcm (ht:508∈c.tabs) {h:Qe}{k:Qh}{K:KO}{z:J}(R:XK c oh W (.remove h k) x r jv JS B) (hz:look (h++[k]) W=some z) (hK:∀o',Z2 c oh o' W (.remove h k) (.atom .none) jv JS (B+4)->Doc c o' z->K W.val o'):CW c (N+7) oh (call (.ref 677) [.ref x,W.val,jv] []) K:=by
 refine Qj6 λou kf=>?_
 obtain⟨dx,Pp,t,hI,hP⟩:=R.inst.at
 obtain⟨a,d,oj,hl,hgk⟩:=ZM hz
 have hg:Zu (h++[k]):=R.good
 have cl:=Z5 (c:=c) (C:=680) (oc rfl)
 have hkl:=J.length_le (oj:=oj)
 have hsz:=ZL hl
 have hWz:=R.size
 rw[J.size] at hsz
 have gk:=hg.1 k (by simp)
 refine Qm (Xi kf rfl rfl ?_ rfl rfl)
 left
 refine Zc (attr:=none) hI.inst cl.ga cl.hd cl.a3.1 rfl rfl rfl ?_
 obtain⟨dp,Lp,vs,nv,hIp,hLp,hBp⟩:=hP.at
 refine Zo (f:=190) hIp.inst (by symm) (by symm) (by symm) (by symm) rfl ?_
 left
 refine Qf (ql (N:=N+3) hP R.doc.ok (by omega) (λs hs=>hg.1 s (ml_ _ hs)) hl (qP hgk gk) λRt o1 v hR hv x1=>?_)
 refine⟨Rt,.ref a,v,rfl,hR,?_⟩
 have okn:=(Z7 hl R.doc.ok).ext x1
 have kd:Qv o1 (.ref a) (J.node a d oj).kd:=okn.kdOf
 have jo1:=R.j.ext x1
 have ha:a∈W.addrs:=Zb hl a J.m0
 have haJ:=R.jW a ha
 have fin:∀ {o'} ,ZD c o1 o' jv JS (B+2) a d (Qo oj k)->K W.val o':=λp=>by
  obtain⟨q1,q2⟩:=ZD.applied (f:=(Qo · k)) p R.doc x1 hl Xs ⟨.atom .none,List.nodup_nil⟩ (λb hb=>(nomatch hb)) R.jW (λb hb=>(nomatch hb))
  refine hK _ ⟨rfl,q1,List.nodup_nil,λx_ b hb=>(nomatch hb),q2,p.j.mono (by omega),?_⟩ (p.upd.doc ((R.doc.ext x1).look hz) λb hb=>?_)
  rotate_left
  ·rw[mc_,not_or]
   refine⟨?_,R.jW b (Zb hz b hb)⟩
   rintro rfl
   obtain⟨nn,hm⟩:=Xc hgk
   have:=(R.doc.look hl).nd
   rw[J.addrs,nc_] at this
   exact this.1 (J.ad hm hb)
  have:=XT (f:=(Qo · k)) hl Xs
  rw[J.size] at this
  show (Qg (Qo · k) h W).size<=_
  omega
 have sv:=hv.step
 cases hv with
 |@dict _ n t' =>
  left
  refine XN rfl ?_
  left
  refine ZE ?_
  left
  refine QcJ ht jo1 (by have:=R.jB;omega) λf first cf js=>?_
  left
  refine⟨cf,Qf (js a true oj (.name n) _ z _ okn.ae (by omega) haJ sv hgk λo' p=>?_)⟩
  left
  exact fin p
 |@idx _ i t' hi =>
  have kdi:Qv o1 (.int (i:Nat) t') .int:=.int
  left
  refine XN rfl ?_
  left
  refine ZE ?_
  left
  refine QcJ ht jo1 (by have:=R.jB;omega) λf first cf js=>?_
  left
  refine⟨cf,Qf (js a false oj (.idx i) _ z _ okn.ae (by omega) haJ sv hgk λo' p=>?_)⟩
  left
  exact fin p
end
section
variable {jv:Vl}{JS:List Ad}{B:Nat}{W:J}{op:Op}{x r:Ad}
theorem Zr.value (R:Zr c oh r op) {V:J}(h:op.val=some V):∃o oj,oh r=some o/\IsD c o oj/\c.H.get? r=none/\valueAt oj (zz "value")=some V.val/\Ok c oh V/\V.size<=100:=by
 obtain⟨oj,⟨⟨o,h1,h2⟩,h3⟩,_,_,_,h4⟩:=R.is
 exact⟨o,oj,h1,h2,h3,h4 V h,R.val V h⟩
theorem Zr.from_ (R:Zr c oh r op) {F:List Str}(h:op.frm=some F):∃o oj t,oh r=some o/\IsD c o oj/\c.H.get? r=none/\valueAt oj (zz "from")=some (.str (Qt F) t):=by
 obtain⟨oj,⟨⟨o,h1,h2⟩,h3⟩,_,_,h4,_⟩:=R.is
 obtain⟨t,ht⟩:=h4 F h
 exact⟨o,oj,t,h1,h2,h3,ht⟩
theorem QgJ (J:JOk c oh jv JS B) (h1:jv = .ref 485->JS=[]->k (.bool true) m oh) (h2:k (.bool false) m oh):Tactic.W c N ou m oh (compareOp .Is jv (.ref 485)) k:=by
 induction J with
 |nul=>exact Qc7 (h1 rfl rfl)
 |@jr j dj U O B J =>
  by_cases h:j=485
  ·intro A s fr Q hA S P hQ
   exfalso
   have e1:=S.sg.has _ _ J.inst.o
   have e2:=S.sg.kIn 485 QaP (by symm)
   rw[h,e2] at e1
   have:=congrArg Obj.cls (Option.some.inj e1)
   simp at this
  ·exact Qap h (ZY J.inst.o) (XC (o:=QaP) (by symm)) (by intro h;cases h) h2
theorem Qfx {h:Qe}{k:Qh}{e:Bool}{V:J}{K:KO}(R:XK c oh W (.add h k e V) x r jv JS B) (hK:∀o' y,Z2 c oh o' W (.add h k e V) y jv JS (B+4)->K W.val o'):CW c (N+101) oh (call (.ref 696) [.ref x,W.val,jv] []) K:=by
 refine QjY λou kf=>?_
 obtain⟨dx,Pp,t,hI,hP⟩:=R.inst.at
 obtain⟨ro,oj,hr1,hr2,hr3,hv,okV,hVs⟩:=R.row.value (V:=V) rfl
 have cl:=Z5 (c:=c) (C:=707) (oc rfl)
 have hg:Zu (h++[k]):=R.good.1
 have hV4:V.size<=4:=R.good.2
 have hWz:=R.size
 refine Qm (ZE ?_)
 left
 refine Zc (attr:=none) hI.inst cl.ga cl.hd cl.a4.1 rfl rfl rfl ?_
 left
 refine Zs hr1 hr2 hv ?_
 left
 refine Qf (ZT (qZ okV (by omega) (by omega)) ?_)
 rintro _ o1 ⟨y,rfl,hcp,oky,x1,fy⟩
 left
 have jo1:=R.j.ext x1
 have hi:ZC h k e W:=R.pre
 have fin:∀ {o'},Doc c o' (Qg (Qp · k y) h W)->Upd o1 o' (W.addrs++JS)->JOk c o' jv JS (B+2)->K W.val o':=λq1 q2 q3=>by
  refine hK _ y ⟨hcp.sim okV,q1,fy.nodup,λx_=>fy.new,Upd.trans x1.upd q2 λb hb=>.inl hb,q3.mono (by omega),?_⟩
  obtain⟨a,d,kv,hl,_⟩:=hi
  have:=XT (f:=(Qp · k y)) (x:=y) hl ZF
  have:=hcp.size
  show (Qg (Qp · k y) h W).size<=_
  omega
 have O1:Zy c o1 x 707 (QY h k e) r:=R.inst.ext x1
 refine QgJ jo1 (λe1 e2=>?_) ?_
 ·left
  subst e1 e2
  refine Zo (f:=704) (R.inst.ext x1 |>.at |>.choose_spec.choose_spec.choose_spec.1.inst) cl.ga cl.gt (by symm) (by symm) rfl ?_
  left
  refine Qf (QjX (N:=N+99) λenv' kf'=>qW (N:=N+93) kf' O1 (R.doc.ext x1) (by omega) hg.1 hi ⟨oky,fy.nodup⟩ (QaC fy R.doc.ok) jo1 (by have:=R.jB;omega) R.jW (QaB fy R.j) λm o' q1 q2 q3=>?_)
  left
  exact fin q1 q2 q3
 ·left
  refine Zo (f:=704) (R.inst.ext x1 |>.at |>.choose_spec.choose_spec.choose_spec.1.inst) cl.ga cl.gt (by symm) (by symm) rfl ?_
  left
  refine Qf (QbH (N:=N+99) λenv' kf'=>qW (N:=N+93) kf' O1 (R.doc.ext x1) (by omega) hg.1 hi ⟨oky,fy.nodup⟩ (QaC fy R.doc.ok) jo1 (by have:=R.jB;omega) R.jW (QaB fy R.j) λm o' q1 q2 q3=>?_)
  left
  exact fin q1 q2 q3
theorem QfG {V:J}{K:KO}(R:XK c oh W (.replace0 V) x r jv JS B) (hK:∀o' y,Z2 c oh o' W (.replace0 V) y jv JS (B+4)->K y.val o'):CW c (N+101) oh (call (.ref 723) [.ref x,W.val,jv] []) K:=by
 refine QdN λou kf=>?_
 obtain⟨dx,Pp,t,hI,hP⟩:=R.inst.at
 obtain⟨ro,oj,hr1,hr2,hr3,hv,okV,hVs⟩:=R.row.value (V:=V) rfl
 have hV4:V.size<=4:=R.good
 have cl:=Z5 (c:=c) (C:=726) (oc rfl)
 refine Qm (ZE ?_)
 left
 refine Zc (attr:=none) hI.inst cl.ga cl.hd cl.a4.1 rfl rfl rfl ?_
 left
 refine Zs hr1 hr2 hv ?_
 left
 refine Qf (ZT (qZ okV (by omega) (by omega)) ?_)
 rintro _ o1 ⟨y,rfl,hcp,oky,x1,fy⟩
 left
 refine Xi kf rfl rfl ?_ rfl rfl
 left
 refine Zc (attr:=none) (hI.ext x1).inst cl.ga cl.hd cl.a3.1 rfl rfl rfl ?_
 have hP1:=hP.ext x1
 obtain⟨dp,Lp,vs,nv,hIp,hLp,hBp⟩:=hP1.at
 refine Zo (f:=190) hIp.inst (by symm) (by symm) (by symm) (by symm) rfl ?_
 left
 refine Qf (Qa4 (N:=N+99) hP1 λRt o2 hR x2=>?_)
 refine⟨Rt,W.val,.none,rfl,hR,?_⟩
 left
 refine Qbv ?_
 left
 refine hK _ y ⟨hcp.sim okV,⟨oky.ext x2,fy.nodup⟩,fy.nodup,λx_=>fy.new,(x1.trans x2).upd,(R.j.ext (x1.trans x2)).mono (by omega),?_⟩
 have:=hcp.size
 show y.size<=_
 omega
set_option tactic.hygienic true in
theorem QfF {h:Qe}{k:Qh}{V:J}{K:KO}(R:XK c oh W (.replace h k V) x r jv JS B) (hK:∀o' y,Z2 c oh o' W (.replace h k V) y jv JS (B+4)->K W.val o'):CW c (N+101) oh (call (.ref 723) [.ref x,W.val,jv] []) K:=by
 refine QdN λou kf=>?_
 obtain⟨dx,Pp,t,hI,hP⟩:=R.inst.at
 obtain⟨ro,rkv,hr1,hr2,hr3,hv,okV,hVs⟩:=R.row.value (V:=V) rfl
 obtain⟨z,hz⟩:∃z,look (h++[k]) W=some z:=R.pre
 obtain⟨a,d,oj,hl,hgk⟩:=ZM hz
 have hg:Zu (h++[k]):=R.good.1
 have hV4:V.size<=4:=R.good.2
 have cl:=Z5 (c:=c) (C:=726) (oc rfl)
 have hkl:=J.length_le (oj:=oj)
 have hsz:=ZL hl
 have hWz:=R.size
 rw[J.size] at hsz
 have gk:=hg.1 k (by simp)
 refine Qm (ZE ?_)
 left
 refine Zc (attr:=none) hI.inst cl.ga cl.hd cl.a4.1 rfl rfl rfl ?_
 left
 refine Zs hr1 hr2 hv ?_
 left
 refine Qf (ZT (qZ okV (by omega) (by omega)) ?_)
 rintro _ o1 ⟨y,rfl,hcp,oky,x1,fy⟩
 left
 refine Xi kf rfl rfl ?_ rfl rfl
 left
 refine Zc (attr:=none) (hI.ext x1).inst cl.ga cl.hd cl.a3.1 rfl rfl rfl ?_
 have hP1:=hP.ext x1
 obtain⟨dp,Lp,vs,nv,hIp,hLp,hBp⟩:=hP1.at
 refine Zo (f:=190) hIp.inst (by symm) (by symm) (by symm) (by symm) rfl ?_
 left
 have D1:=R.doc.ext x1
 refine Qf (ql (N:=N+97) hP1 D1.ok (by omega) (λs hs=>hg.1 s (ml_ _ hs)) hl (qP hgk gk) λRt o2 v hR hvp x2=>?_)
 refine⟨Rt,.ref a,v,rfl,hR,?_⟩
 have okn:=(Z7 hl D1.ok).ext x2
 have kd:Qv o2 (.ref a) (J.node a d oj).kd:=okn.kdOf
 have x12:=x1.trans x2
 have jo2:=R.j.ext x12
 have ha:a∈W.addrs:=Zb hl a J.m0
 have haJ:=R.jW a ha
 have Dy2:Doc c o2 y:=⟨oky.ext x2,fy.nodup⟩
 have hres:∀ {f:List (Str × J)->List (Str × J)},Fit y oj (f oj)->(∀ {o'},ZD c o2 o' jv JS (B+2) a d (f oj)->Doc c o' (Qg f h W)/\Upd oh o' (W.addrs++JS)):=λhf x_ p =>
  ZD.applied p R.doc x12 hl hf Dy2 (QaC fy R.doc.ok) R.jW (QaB fy R.j)
 have hput:qh d oj k y=Zh oj k y:=by
  induction d<;>induction k
  ·rfl
  ·rfl
  ·rename_i n
   have hgk':Qj oj n=some z:=hgk
   show (if (Qj oj n).isSome then Ze oj n y else oj++[(n,y)])=Ze oj n y
   rw[hgk'];rfl
  ·cases hgk
 have fin:∀ {o'},ZD c o2 o' jv JS (B+2) a d (qh d oj k y)->K W.val o':=λp=>by
  rw[hput] at p
  obtain⟨q1,q2⟩:=hres (f:=(Zh · k y)) (QaU hgk) p
  refine hK _ y ⟨hcp.sim okV,q1,fy.nodup,λx_=>fy.new,q2,p.j.mono (by omega),?_⟩
  have:=XT (f:=(Zh · k y)) (x:=y) hl (QaU hgk)
  have:=hcp.size
  show (Qg (Zh · k y) h W).size<=_
  omega
 have sv:=hvp.step
 cases hvp with
 |@dict _ n t' =>
  obtain⟨hb,on,hon,hdn⟩:=okn.ae
  have hgk':Qj oj n=some z:=hgk
  left
  refine XN rfl ?_
  left
  refine Y6 hon hdn hb ?_
  rw[Z1,hgk']
  left
  refine Qa6 (N:=N+94) jo2 (by have:=R.jB;omega) λf first cf js=>?_
  left
  refine⟨cf,Qf (js a true oj (.name n) _ y _ okn.ae (by omega) haJ sv (.inl rfl) (λx_ x_=>rfl) (λi h=>(nomatch h)) λo' p=>?_)⟩
  left
  exact fin p
 |@idx _ i t' hi =>
  obtain⟨hb,n1,hon⟩:=okn.ae
  have hik:=QbL (oj:=oj) (i:=i) (z:=z) hgk
  left
  refine XN rfl ?_
  left
  refine qw ?_
  left
  refine ZI hon (Qd (by omega)) λt3=>?_
  refine QgA ?_
  rw[show decide (((List.map (λx:Str × J=>x.2.val) oj).length:Int)<=(i:Int))=false by simp<;>omega]
  left
  refine qC ?_
  rw[show decide ((i:Int) < 0)=false by simp]
  left
  refine Qa6 (N:=N+94) jo2 (by have:=R.jB;omega) λf first cf js=>?_
  left
  refine⟨cf,Qf (js a false oj (.idx i) _ y _ okn.ae (by omega) haJ sv (.inr ⟨z,hgk⟩) (λn h=>(nomatch h)) (λx_ x_=>rfl) λo' p=>?_)⟩
  left
  exact fin p
end
section
variable {jv:Vl}{JS:List Ad}{B:Nat}{W:J}{op:Op}{x r:Ad}
theorem Qcy {C:Ad}(hC:Y0 C) {ps F:List Str}{K:KO}(O:Zy c oh x C ps r) (R:Zr c oh r op) (hF:op.frm=some F) (hg:∀p∈F,p∈Z6) (hl:F.length<=900)
  (hK:∀Q o',Zl c o' Q F->Ext oh o'->K (.ref Q) o'):CW c (N+4) oh (call (.ref 589) [.ref x] []) K:=by
 refine Qj4 λou kf=>?_
 obtain⟨dx,Pp,t,hI,hP⟩:=O.at
 obtain⟨ro,oj,tf,hr1,hr2,hr3,hv⟩:=R.from_ hF
 have cl:=Z5 (c:=c) hC
 refine Qm (ZE ?_)
 left
 refine Zc (attr:=none) hI.inst cl.ga cl.hd cl.a4.1 rfl rfl rfl ?_
 left
 refine Zs hr1 hr2 hv ?_
 left
 refine Zc (attr:=none) hI.inst cl.ga cl.hd cl.a1.1 rfl rfl rfl ?_
 refine⟨YA,?_⟩
 refine Qc9 (b:=false) (by symm) ?_
 left
 refine ZE ?_
 left
 refine QcK hI.inst cl.ga cl.gt cl.hd cl.a1.1 rfl rfl ?_
 left
 refine⟨Zg (by symm),?_⟩
 refine Qf (QcB hg hl λQ dp Lp vs nv o4 Ip hLp hB x4 x_ x_ x_=>?_)
 left
 exact hK _ _ ⟨dp,Lp,vs,nv,Ip,hLp,hB⟩ x4
theorem Qfc (p:Qe):p=[]\/∃h k,p=h++[k]:=by
 rcases List.eq_nil_or_concat p with h|⟨h,k,e⟩
 ·exact .inl h
 ·exact .inr ⟨h,k,by rw[e,List.concat_eq_append]⟩
theorem Qes {h:Qe}{k:Qh}:(h++[k]).map Qq=QY h k false:=by rw[List.map_append];rfl
abbrev QK (c:Cx) (o2:Own) (x:Ad) (W z:J) (jv:Vl) (m3:Loc) (o3:Own):Prop:=m3 "self"=some (.ref x)/\m3 "obj"=some W.val/\m3 "journal"=some jv/\Ext o2 o3/\∃y,m3 "value"=some y.val/\Cp z y/\Ok c o3 y/\Z3 o2 y
theorem Qfz {f h:Qe}{k:Qh}{e:Bool}{K:KO}(R:XK c oh W (.copy f h k e) x r jv JS B) (hK:∀o' y,Z2 c oh o' W (.copy f h k e) y jv JS (B+4)->K W.val o'):CW c (N+421) oh (call (.ref 819) [.ref x,W.val,jv] []) K:=by
 refine QjZ λou kf=>?_
 obtain⟨dx,Pp,t,hI,hP⟩:=R.inst.at
 have cl:=Z5 (c:=c) (C:=822) (oc rfl)
 have hg:Zu f/\Zu (h++[k]):=R.good
 obtain⟨hpz,hi⟩:(∃z,look f W=some z)/\ZC h k e W:=R.pre
 obtain⟨z,hz⟩:=hpz
 have hWz:=R.size
 have hzs:=ZL hz
 have gm:=Qd4 hg.1
 refine Qm ?_
 left
 refine Zo (f:=589) hI.inst cl.ga cl.gt cl.fp (by symm) rfl ?_
 left
 refine Qf (Qcy (N:=N+416) (C:=822) (oc rfl) R.inst R.row (F:=f.map Qq) rfl gm.1 (by have:=gm.2;omega) λQ o1 hQ x1=>?_)
 left
 have D1:=R.doc.ext x1
 have okz:=Z7 hz R.doc.ok
 refine Qk (k:=λfl m2 o2=>fl = .next/\m2 "self"=some (.ref x)/\m2 "obj"=some W.val/\m2 "journal"=some jv/\Ext o1 o2 /\
  ((z=W/\m2 "subobj"=some W.val/\m2 "part"=some .none)\/∃a d oj fk v,m2 "subobj"=some (.ref a)/\m2 "part"=some v/\XJ d oj fk false v/\Ok c oh (.node a d oj)/\(J.node a d oj).size<=400/\Qw d oj fk=some z)) ?_ ?_
 ·refine Xi kf rfl rfl ?_ rfl rfl
  left
  rcases Qfc f with rfl|⟨fh,fk,rfl⟩
  ·cases hz
   refine Qf (QfW (N:=N+417) hQ λRt o2 hR x2=>?_)
   exact⟨Rt,W.val,.none,rfl,hR,rfl,rfl,rfl,rfl,x2,.inl ⟨rfl,rfl,rfl⟩⟩
  ·obtain⟨a,d,oj,hl,hgk⟩:=ZM hz
   have gk:=hg.1.1 fk (by simp)
   have hQ':Zl c o1 Q (fh.map Qq++[YF fk false]):=by rw[Qes] at hQ;exact hQ
   refine Qf (Qcx (N:=N+416) hQ' D1.ok (by omega) (λs hs=>hg.1.1 s (ml_ _ hs)) hl (qP hgk gk) λRt o2 v hR hvp x2=>?_)
   exact⟨Rt,.ref a,v,rfl,hR,rfl,rfl,rfl,rfl,x2,.inr ⟨a,d,oj,fk,v,rfl,rfl,hvp,Z7 hl R.doc.ok,Nat.le_trans (ZL hl) hWz,hgk⟩⟩
 ·rintro fl m2 o2 ⟨rfl,k1,k2,k3,x2,hcase⟩
  have x12:=x1.trans x2
  refine Xa (X3 (R:=(QK c o2 x W z jv)) ?_ ?_)
  ·refine ZE ?_
   have cop:∀ {o':Own}{K2:KO},Ext o2 o'->(∀o3 y,Cp z y->Ok c o3 y->Ext o2 o3->Z3 o2 y->K2 y.val o3)->CW c (N+420) o' (call (.ref 65) [z.val] []) K2:=λxx h=>by
    refine ZT (qZ (okz.ext (x12.trans xx)) (by omega) (by omega)) ?_
    rintro _ o3 ⟨y,rfl,hcp,oky,x3,fy⟩
    exact h o3 y hcp oky (xx.trans x3) (fy.mono xx)
   rcases hcase with ⟨rfl,c1,c2⟩|⟨a,d,oj,fk,v,c1,c2,hvp,okn,hns,hgk⟩
   ·left
    refine Qbv ?_
    left
    refine Qf (cop .refl λo3 y h1 h2 h3 h4=>?_)
    left
    exact⟨rfl,by nofun,by nofun,by nofun,h3,y,Zf ..,h1,h2,h4⟩
   ·have sv:=hvp.step
    left
    refine XN (by cases hvp<;>rfl) ?_
    rw[show (v==Value.none)=false by cases hvp<;>rfl]
    left
    refine Y3 (okn.ext x12) (by omega) sv hgk ?_
    refine⟨Qjp,?_⟩
    refine Qf (cop .refl λo3 y h1 h2 h3 h4=>?_)
    left
    exact⟨rfl,by nofun,by nofun,by nofun,h3,y,Zf ..,h1,h2,h4⟩
  ·rintro m3 o3 ⟨k1,k2,k3,x3,y,k4,hcp,oky,fy⟩
   have x13:=x12.trans x3
   refine Xa (Qm (ZE ?_))
   left
   with_reducible refine Qak (by ac_rfl) ?_
   left
   refine Zc (attr:=none) (hI.ext x13).inst cl.ga cl.hd cl.a2.1 rfl rfl rfl ?_
   intro D4 d4 hD4 hd4
   have x4:=Ext.put (o:=d4) hD4.own
   left
   refine Zc (attr:=none) (hI.ext (x13.trans x4)).inst cl.ga cl.hd cl.a1.1 rfl rfl rfl ?_
   refine⟨Zg (by symm),?_⟩
   have gp:=YE (e:=e) hg.2
   have RD:Za c (o3.put D4 d4) D4 [(zz "op",.str (zz "add") _),(zz "path",.str (Qt (QY h k e)) t)]:=⟨⟨d4,Qa ..,hd4⟩,hD4.base⟩
   refine Qf (Qac (N:=N+414) (C:=707) (oc rfl) RD (t:=t) rfl gp.1 (by have:=gp.2;omega) λX5 o5 L hO5 x5 x_ x_=>?_)
   have x15:=(x13.trans x4).trans x5
   have cl7:=Z5 (c:=c) (C:=707) (oc rfl)
   obtain⟨dx7,Pp7,t7,hI7,_⟩:=hO5.at
   refine Zo (f:=704) hI7.inst cl7.ga cl7.gt (by symm) (by symm) rfl ?_
   left
   have fy':Z3 oh y:=fy.mono x12
   have jo5:=R.j.ext x15
   refine Qf (QbH (N:=N+419) λenv' kf'=>qW (N:=N+413) kf' hO5 (R.doc.ext x15) (by omega) hg.2.1 hi ⟨oky.ext (x4.trans x5),fy.nodup⟩ (QaC fy' R.doc.ok) jo5 (by have:=R.jB;omega) R.jW (QaB fy' R.j) λm o' q1 q2 q3=>?_)
   left
   refine hK _ y ⟨⟨z,hz,hcp.sim okz⟩,q1,fy.nodup,λx_=>fy'.new,Upd.trans x15.upd q2 λb hb=>.inl hb,q3.mono (by omega),?_⟩
   obtain⟨a,d,kv,hl,_⟩:=hi
   have:=XT (f:=(Qp · k y)) (x:=y) hl ZF
   have:=hcp.size
   show (Qg (Qp · k y) h W).size<=_
   omega
end
section
variable {jv:Vl}{JS:List Ad}{B:Nat}{W:J}{op:Op}{x r:Ad}
theorem Qg4 {X Y:Ad}{ps qs:List Str}(I:Zl c oh X ps) (I':Zl c oh Y qs) (hp:ps.length<=900) (hq:qs.length<=900) (hk:k (.bool (!decide (ps=qs))) m oh):Tactic.W c (N+3) ou m oh (compareOp .NotEq (.ref X) (.ref Y)) k:=by
 obtain⟨dx,Lp,vs,n,hI,hL,hB⟩:=I.at
 obtain⟨dy,Lq,ws,n',hI',hL',hB'⟩:=I'.at
 refine Qf (ZT (QfS (N:=N+2) (k:=λb o=>b=decide (ps=qs)/\o=oh) hI.inst hI'.inst (f:=301) (by symm) (by symm) (by symm) (by symm) (Qcr I I' hp hq ⟨_,rfl,rfl,rfl⟩)) ?_)
 rintro _ _ ⟨_,rfl,rfl,rfl⟩
 exact hk
theorem Qg3 {X Y:Ad}{ps qs:List Str}(I:Zl c oh X ps) (I':Zl c oh Y qs) (hp:ps.length<=900) (hq:qs.length<=900) (hk:k (.bool (decide (ps=qs))) m oh):Tactic.W c (N+3) ou m oh (compareOp .Eq (.ref X) (.ref Y)) k:=by
 obtain⟨dx,Lp,vs,n,hI,hL,hB⟩:=I.at
 obtain⟨dy,Lq,ws,n',hI',hL',hB'⟩:=I'.at
 refine Qf (ZT (QfO (N:=N+3) (k:=λb o=>b=decide (ps=qs)/\o=oh) hI.inst hI'.inst (f:=301) (by symm) (by symm) (Qcq (Qcr (N:=N) I I' hp hq ⟨_,rfl,rfl,rfl⟩) (by omega))) ?_)
 rintro _ _ ⟨_,rfl,rfl,rfl⟩
 exact hk
abbrev QS (o1:Own) (x Q:Ad) (W:J) (jv:Vl) (m2:Loc) (o2:Own):Prop:=m2 "self"=some (.ref x)/\m2 "obj"=some W.val/\m2 "journal"=some jv/\m2 "from_ptr"=some (.ref Q)/\Ext o1 o2
theorem QfD (ht:508∈c.tabs) {fh h:Qe}{fk k:Qh}{e:Bool}{K:KO}(R:XK c oh W (.move fh fk h k e) x r jv JS B) (hK:∀o' y,Z2 c oh o' W (.move fh fk h k e) y jv JS (B+8)->K W.val o'):CW c (N+101) oh (call (.ref 742) [.ref x,W.val,jv] []) K:=by
 refine Qj3 λou kf=>?_
 obtain⟨dx,Pp,t,hI,hP⟩:=R.inst.at
 have cl:=Z5 (c:=c) (C:=784) (oc rfl)
 have hg:Zu (fh++[fk])/\Zu (h++[k])/\_:=R.good
 obtain⟨hpz,hpi⟩:(∃z,look (fh++[fk]) W=some z)/\((h=fh/\k=fk/\e=false)\/ZC h k e (Qg (Qo · fk) fh W)):=R.pre
 obtain⟨z,hz⟩:=hpz
 obtain⟨a,d,oj,hl,hgk⟩:=ZM hz
 have gk:=hg.1.1 fk (by simp)
 have hWz:=R.size
 have hzs:=ZL hz
 have gpF:=YE (e:=false) hg.1
 have gpT:=YE (e:=e) hg.2.1
 refine Qm ?_
 left
 refine Zo (f:=589) hI.inst cl.ga cl.gt cl.fp (by symm) rfl ?_
 left
 refine Qf (Qcy (N:=N+96) (C:=784) (oc rfl) R.inst R.row (F:=QY fh fk false) rfl gpF.1 (by have:=gpF.2;omega) λQ o1 hQ x1=>?_)
 have D1:=R.doc.ext x1
 have hI1:=hI.ext x1
 have hP1:Zl c o1 Pp (QY h k e):=hP.ext x1
 refine Xa (X3 (R:=(QS o1 x Q W jv)) ?_ ?_)
 ·left
  refine Zc (attr:=none) hI1.inst cl.ga cl.hd cl.a3.1 rfl rfl rfl ?_
  left
  refine Qg4 (N:=N+97) hP1 hQ (by have:=gpT.2;omega) (by have:=gpF.2;omega) ?_
  rcases hg.2.2 with ⟨e1,e2,e3⟩|hne
  ·rw[show (!decide (QY h k e=QY fh fk false))=false by rw[e1,e2,e3];simp]
   left
   exact⟨rfl,rfl,rfl,rfl,rfl,.refl⟩
  ·rw[show (!decide (QY h k e=QY fh fk false))=true by simp;rintro h0;exact hne (by rw[h0,List.take_length])]
   left
   refine Zc (attr:=none) hI1.inst cl.ga cl.hd cl.a3.1 rfl rfl rfl ?_
   obtain⟨dp,Lp,vs,nv,hIp,hLp,hBp⟩:=hP1.at
   refine Zo (f:=267) hIp.inst (by symm) (by symm) (by symm) (by symm) rfl ?_
   left
   refine Qf (QfV (N:=N+98) hP1 hQ (by have:=gpT.2;omega) (by have:=gpF.2;omega) λo2 x2=>?_)
   rw[decide_eq_false hne]
   left
   exact⟨rfl,rfl,rfl,rfl,rfl,x2⟩
 ·rintro m2 o2 ⟨k1,k2,k3,k4,x2⟩
  refine Xa (Qm ?_)
  refine Xi kf rfl rfl ?_ rfl rfl
  left
  have hQ':Zl c o2 Q (fh.map Qq++[YF fk false]):=hQ.ext x2
  refine Qf (Qcx (N:=N+96) hQ' (D1.ext x2).ok (by omega) (λs hs=>hg.1.1 s (ml_ _ hs)) hl (qP hgk gk) λRt o3 v hR hvp x3=>?_)
  refine⟨Rt,.ref a,v,rfl,hR,?_⟩
  have sv:=hvp.step
  have x13:=(x1.trans x2).trans x3
  left
  refine XN (by cases hvp<;>rfl) ?_
  rw[show (v==Value.none)=false by cases hvp<;>rfl]
  left
  refine ZE ?_
  left
  refine Y3 ((Z7 hl R.doc.ok).ext x13) (Nat.le_trans (ZL hl) (by omega)) sv hgk ?_
  left
  have hI3:=hI.ext x13
  have hP3:Zl c o3 Pp (QY h k e):=hP.ext x13
  have okz:=(R.doc.look hz)
  refine Zc (attr:=none) hI3.inst cl.ga cl.hd cl.a3.1 rfl rfl rfl ?_
  left
  refine Qg3 (N:=N+97) hP3 (hQ.ext (x2.trans x3)) (by have:=gpT.2;omega) (by have:=gpF.2;omega) ?_
  by_cases aX:h=fh/\k=fk/\e=false
  ·rw[show decide (QY h k e=QY fh fk false)=true by rw[aX.1,aX.2.1,aX.2.2];simp]
   left
   have hres:ZG (.move fh fk h k e) z W=W:=if_pos aX
   exact hK _ z ⟨hz,by rw[hres];exact R.doc.ext x13,okz.nd,λh=>(nomatch h),x13.upd,(R.j.ext x13).mono (by omega),by rw[hres];omega⟩
  ·have hne:=hg.2.2.resolve_left aX
   have hins:=hpi.resolve_left aX
   rw[show decide (QY h k e=QY fh fk false)=false by rw[decide_eq_false_iff_not];intro h0;exact hne (by rw[h0,List.take_length])]
   left
   refine ZE ?_
   obtain⟨ro,rkv,tf,hr1,hr2,hr3,hrv⟩:=R.row.from_ (F:=QY fh fk false) rfl
   left
   with_reducible refine Qak (by ac_rfl) ?_
   left
   refine Zc (attr:=none) hI3.inst cl.ga cl.hd cl.a4.1 rfl rfl rfl ?_
   left
   refine Zs (x13 _ _ hr1) hr2 hrv ?_
   intro D4 d4 hD4 hd4
   have x4:=Ext.put (o:=d4) hD4.own
   left
   refine Zc (attr:=none) (hI3.ext x4).inst cl.ga cl.hd cl.a1.1 rfl rfl rfl ?_
   refine⟨Zg (by symm),?_⟩
   have RD:Za c (o3.put D4 d4) D4 [(zz "op",.str (zz "remove") _),(zz "path",.str (Qt (QY fh fk false)) tf)]:=⟨⟨d4,Qa ..,hd4⟩,hD4.base⟩
   refine Qf (Qac (N:=N+94) (C:=680) (oc rfl) RD (t:=tf) rfl gpF.1 (by have:=gpF.2;omega) λX5 o5 L5 hO5 x5 hL5 hst5=>?_)
   have x15:=(x13.trans x4).trans x5
   have cl6:=Z5 (c:=c) (C:=680) (oc rfl)
   obtain⟨dx6,Pp6,t6,hI6,_⟩:=hO5.at
   have jo5:=R.j.ext x15
   have D5:=R.doc.ext x15
   have RR:XK c o5 W (.remove fh fk) X5 D4 jv JS B:=by
    refine⟨hO5,⟨⟨_,RD.ext x5,⟨_,rfl⟩,⟨_,rfl⟩,λF h=>(nomatch h),λV h=>(nomatch h)⟩,λV h=>(nomatch h)⟩,D5,R.size,⟨z,hz⟩,hg.1,jo5,R.jB,R.jW,L5,λb hb=>⟨λhm=>?_,λhm=>?_⟩,hst5⟩
    ·obtain⟨ob,hob⟩:=(R.doc.ext (x13.trans x4)).ok.there b hm
     cases ((hL5 b hb).1),hob
    ·obtain⟨ob,hob⟩:=(R.j.ext (x13.trans x4)).owned b hm
     cases ((hL5 b hb).1),hob
   refine Zo (f:=677) hI6.inst cl6.ga cl6.gt (by symm) (by symm) rfl ?_
   left
   refine Qf (Qcm ht (N:=N+93) RR hz λo6 A6 Dz6=>?_)
   have DW1:Doc c o6 (Qg (Qo · fk) fh W):=A6.doc
   have u16:Upd oh o6 (W.addrs++JS):=Upd.trans x15.upd A6.upd λb hb=>.inl hb
   obtain⟨L0,hL0,hst0⟩:=R.stay
   have O6:Zy c o6 x 784 (QY h k e) r:=hst0 o6 λb hb ob e=>u16.keep b ob (λhm=>(ma_.mp hm).elim (hL0 b hb).1 (hL0 b hb).2) e
   obtain⟨dx7,Pp7,t7,hI7,hP7⟩:=O6.at
   left
   with_reducible refine Qak (by ac_rfl) ?_
   left
   refine Zc (attr:=none) hI7.inst cl.ga cl.hd cl.a2.1 rfl rfl rfl ?_
   intro D8 d8 hD8 hd8
   have x8:=Ext.put (o:=d8) hD8.own
   left
   refine Zc (attr:=none) (hI7.ext x8).inst cl.ga cl.hd cl.a1.1 rfl rfl rfl ?_
   refine⟨Zg (by symm),?_⟩
   have RD8:Za c (o6.put D8 d8) D8 [(zz "op",.str (zz "add") _),(zz "path",.str (Qt (QY h k e)) t7)]:=⟨⟨d8,Qa ..,hd8⟩,hD8.base⟩
   refine Qf (Qac (N:=N+94) (C:=707) (oc rfl) RD8 (t:=t7) rfl gpT.1 (by have:=gpT.2;omega) λX9 o9 L9 hO9 x9 x_ x_=>?_)
   have x89:=x8.trans x9
   have cl9:=Z5 (c:=c) (C:=707) (oc rfl)
   obtain⟨dx9,Pp9,t9,hI9,_⟩:=hO9.at
   refine Zo (f:=704) hI9.inst cl9.ga cl9.gt (by symm) (by symm) rfl ?_
   left
   have eW:W.val=(Qg (Qo · fk) fh W).val:=ZZ.symm
   have aG:∀b∈(Qg (Qo · fk) fh W).addrs,b∈W.addrs:=λb hb=>by
    rcases Xe (f:=(Qo · fk)) R.doc hl Xs hb with h|h
    ·exact h
    ·cases h
   have hs1:=XT (f:=(Qo · fk)) hl Xs
   rw[show (J.atom Value.none).size=1 by rfl] at hs1
   rw[eW]
   refine Qf (QbH (N:=N+99) λenv' kf'=>qW (N:=N+93) kf' hO9 (DW1.ext x89) (by omega) hg.2.1.1 hins (Dz6.ext x89) (λb hb=>QdJ R.doc hz hb) (A6.j.ext x89) (by have:=R.jB;omega) (λb hb=>R.jW b (aG b hb)) (λb hb=>R.jW b (Zb hz b hb)) λm o' q1 q2 q3=>?_)
   left
   have hres:ZG (.move fh fk h k e) z W=Qg (Qp · k z) h (Qg (Qo · fk) fh W):=if_neg aX
   rw[<- eW]
   refine hK _ z ⟨hz,by rw[hres];exact q1,okz.nd,λh=>(nomatch h),?_,q3.mono (by omega),?_⟩
   ·refine Upd.trans (u16.trans x89.upd (S':=[]) λb hb=>(nomatch hb)) q2 λb hb=>.inl ?_
    rcases ma_.mp hb with hb|hb
    ·exact ml_ _ (aG b hb)
    ·exact mr_ _ hb
   ·rw[hres]
    obtain⟨a',d',kv',hl',_⟩:=hins
    have:=XT (f:=(Qp · k z)) (x:=z) hl' ZF
    omega
end
theorem Qm5 {R:Ad->Ad->Prop}{oj ot:LJ}(na:(oj.map (·.1)).Nodup) (nb:(ot.map (·.1)).Nodup) (h:Zk R true oj ot):(oj.map (·.1)).Perm (ot.map (·.1)):=by
 refine(List.perm_ext_iff_of_nodup na nb).mpr λn=>?_
 have h1:(Qj oj n).isSome=(Qj ot n).isSome:=(h (.name n)).1
 have h2:=qG (oj:=oj) (n:=n)
 have h3:=qG (oj:=ot) (n:=n)
 cases q1:Qj oj n<;>cases q2:Qj ot n<;>rw[q1,q2] at h1<;>simp[q1,q2] at h1 h2 h3 ⊢<;>simp_all
theorem QfY (ht:1130∈c.tabs) {X Y:J}(hX:Ok c oh X) (hY:Ok c oh Y) (hs:Sim X Y) (hz:Y.size<=100) (hN:4*Y.size+4<=N):CW c N oh (call (.ref 1135) [X.val,Y.val] []) λv o=>v = .bool true/\Ext oh o:=by
 induction hn:Y.size using Nat.strongRecOn generalizing oh N X Y with|_ n ih =>
 subst hn
 replace ih:∀ {N:Nat}{oh:Own}{X' Y':J},Ok c oh X'->Ok c oh Y'->Sim X' Y'->Y'.size < Y.size->4*Y'.size+4<=N->CW c N oh (call (.ref 1135) [X'.val,Y'.val] []) λv o=>v = .bool true/\Ext oh o:=λh1 h2 h3 h4 h5=>ih _ h4 h1 h2 h3 (by omega) h5 rfl
 have hps:=Y.size_pos
 obtain⟨M,rfl⟩:∃M,N=M+6:=⟨N - 6,by omega⟩
 refine Qkh λou kf bE=>?_
 have kdX:=hX.kdOf
 have kdY:=hY.kdOf
 have hbi:qk c.K:=⟨4,o4,by symm,by decide,by symm,rfl,rfl,rfl⟩
 have hct:YL c.K 1134 1130:=⟨QeI,_,_,_,_,_,_,_,_,by symm,rfl,rfl,rfl,rfl,rfl,rfl,rfl⟩
 refine Qm ?_
 cases hs with
 |atom hv =>
  cases hv
  ·left
   refine Qc0 ?_
   left
   exact⟨rfl,.refl⟩
  ·left
   refine Qbn ?_
   left
   rw[beq_self_eq_true]
   exact⟨rfl,.refl⟩
  ·left
   refine Yv ?_
   left
   rw[beq_self_eq_true]
   exact⟨rfl,.refl⟩
  ·left
   refine⟨Qd (by simp),λD hD=>?_⟩
   have xD:=Ext.put (o:=tup [.type "str",.type "bytes"]) hD.own
   refine⟨YA,?_⟩
   refine qB (hX.ext xD).kdOf (ZY (Qa ..)) ?_
   left
   refine Yw ?_
   left
   rw[beq_self_eq_true]
   exact⟨rfl,xD⟩
 |@node a b d oj ot _ hk1 hk2 =>
  have bc:Zk (λx_ x_=>True) d oj ot:=λk=>⟨hk1 k,hk2 k⟩
  have hll:=J.length_le (oj:=ot)
  have hsz:(J.node b d ot).size=1+J.ab ot:=by rw[J.size]
  have hka:∀q∈ot,q.2.size < (J.node b d ot).size:=λq hq=>J.am hq
  cases d with
  |true =>
   obtain⟨hba,oa,ha,hda⟩:=hX.ae
   obtain⟨hbb,ob,hb,hdb⟩:=hY.ae
   have na:(oj.map (·.1)).Nodup:=by have:=IsD.nodup hda;rwa [Xd] at this
   have nb:(ot.map (·.1)).Nodup:=by have:=IsD.nodup hdb;rwa [Xd] at this
   have hlen:oj.length=ot.length:=by simpa using (Qm5 na nb bc).length_eq
   left
   refine Qbw ha hda hba (Qd (by omega)) λt1=>?_
   left
   refine Qbw hb hdb hbb (Qd (by omega)) λt2=>?_
   refine Yv ?_
   rw[show (((List.map (λp:Str × J=>(p.1,p.2.val)) oj).length:Int)==(List.map (λp:Str × J=>(p.1,p.2.val)) ot).length)=true by simp[hlen]]
   walk_at "w1"
   walk_at "w1"
   refine QcV (Xj kf rfl) rfl rfl bE hct ht hbi (λx=>rfl) ?_
   left
   refine⟨rfl,?_⟩
   left
   refine⟨_,λx_=>true,λo'=>Ext oh o',⟨_,_,oh,Qa5 (qr ha hda (XU hba)),.refl,λo' hx q hq=>?_,λo' T xs hx hT=>hx.ai hT.own,?_⟩,λo' hx=>?_⟩
   ·refine memS hq ?_;exact hx _ _ ha
   ·rintro oq i v x o' mc hsc hi ⟨⟨kx,xv,t,hPv,rfl⟩,rfl⟩ hx ac _
    have kf:=qJ hsc
    have hv1:=ac (zz "first") _ rfl rfl
    have hv2:=ac (zz "second") _ rfl rfl
    rw[gm_] at hPv
    obtain⟨q,hq,e⟩:=mq_.mp hPv
    cases e
    have hgn:Qj oj q.1=some q.2:=QaF na (mg_ hq)
    obtain⟨y,hy,hsy⟩:=bc.there (k:=.name q.1) hgn
    have hy':Qj ot q.1=some y:=hy
    have hym:=qb hy'
    refine Zv kf rfl ?_
    left
    refine Qc5 (hx _ _ hb) hdb hbb ?_
    rw[Z1,hy']
    left
    refine Zs (hx _ _ ha) hda (v:=q.2.val) (by show valueAt (Q2 oj) _=_;rw[Z1,hgn];rfl) ?_
    left
    refine Zs (hx _ _ hb) hdb (v:=y.val) (by show valueAt (Q2 ot) _=_;rw[Z1,hy'];rfl) ?_
    left
    refine Qf (ZT (ih ((hX.kid (mg_ hq)).ext hx) ((hY.kid hym).ext hx) hsy (hka _ hym) (by have h0:y.size < (J.node b true ot).size:=hka _ hym;omega)) ?_)
    rintro _ o4 ⟨rfl,x4⟩
    exact⟨rfl,Zj rfl ac,hx.trans x4⟩
   ·left
    exact⟨congrArg Value.bool (by simp),hx⟩
  |false =>
   obtain⟨hba,na,ha⟩:=hX.ae
   obtain⟨hbb,nb,hb⟩:=hY.ae
   have hlen:=bc.len
   left
   refine⟨Qd (by simp),λD hD=>?_⟩
   have xD:=Ext.put (o:=tup [.type "str",.type "bytes"]) hD.own
   refine⟨YA,?_⟩
   refine qB (hX.ext xD).kdOf (ZY (Qa ..)) ?_
   left
   refine⟨Qd (by simp),λD' hD'=>?_⟩
   have xD':=xD.ai (o:=tup [.type "str",.type "bytes"]) hD'.own
   refine⟨YA,?_⟩
   refine qB (hY.ext xD').kdOf (ZY (Qa ..)) ?_
   left
   refine ZI (xD' _ _ ha) (Qd (by omega)) λt1=>?_
   left
   refine ZI (xD' _ _ hb) (Qd (by omega)) λt2=>?_
   refine Yv ?_
   rw[show (((List.map (λx:Str × J=>x.2.val) oj).length:Int)==(List.map (λx:Str × J=>x.2.val) ot).length)=true by simp[hlen]]
   walk_at "w1"
   walk_at "w1"
   refine QcV (Xj kf rfl) rfl rfl bE hct ht hbi (λx=>rfl) ?_
   left
   refine⟨rfl,?_⟩
   left
   refine Qf (Qcv (xD' _ _ ha) (xD' _ _ hb) λn o' Z=>?_)
   have xz:=Z.ext
   have x0:=xD'.trans xz
   refine⟨_,λx_=>true,λo2=>Ext (o'.drop [n+4,n+3,n,n+1]) o2,⟨_,_,_,Qf6 Z (xD' _ _ ha) (xD' _ _ hb) (by rw[lm_,lm_];exact hlen),.refl,λo2 hx q hq=>?_,λo' T xs hx hT=>hx.ai hT.own,?_⟩,λo2 hx=>?_⟩
   ·simp only[mc_,nn_,or_false] at hq
    rcases hq with rfl|rfl|rfl
    ·have h2:(o'.drop [n+4,n+3,n,n+1]) (n+2)=some (tup [.ref n,.ref (n+1)]):=Z.ti'
     exact hx _ _ h2
    ·exact(x0.trans hx) _ _ ha
    ·exact(x0.trans hx) _ _ hb
   ·rintro oq i v x o2 mc hsc hi ⟨va,vb,h1,h2,rfl⟩ hx ac hTx
    obtain⟨T,rfl,hT⟩:=hTx _ rfl
    have kf:=qJ hsc
    rw[gm_] at h1 h2
    obtain⟨q,hq,rfl⟩:=mq_.mp h1
    obtain⟨q',hq',rfl⟩:=mq_.mp h2
    have hsy:Sim q.2 q'.2:=hk2 (.idx i) _ _ (by show Qx oj i=_;rw[XQ,hq];rfl) (by show Qx ot i=_;rw[XQ,hq'];rfl)
    have hym:=mg_ hq'
    refine Zv kf rfl (Qgr (sx:=0) ?_)
    left
    refine⟨T,[q.2.val,q'.2.val],rfl,hT,Qd (by simp),Qjg,?_⟩
    refine Qf (ZT (ih ((hX.kid (mg_ hq)).ext (x0.trans hx)) ((hY.kid hym).ext (x0.trans hx)) hsy (hka _ hym) (by have:=hka _ hym;omega)) ?_)
    rintro _ o4 ⟨rfl,x4⟩
    exact⟨rfl,Zj rfl ac,hx.trans x4⟩
   ·left
    exact⟨congrArg Value.bool (by simp),x0.trans hx⟩
section
variable {jv:Vl}{JS:List Ad}{B:Nat}{W:J}{op:Op}{x r:Ad}
abbrev QX (oh:Own) (x:Ad) (W z:J) (m2:Loc) (o2:Own):Prop:=m2 "self"=some (.ref x)/\m2 "obj"=some W.val/\m2 "val"=some z.val/\Ext oh o2
theorem QfH (ht:1130∈c.tabs) {p:Qe}{V:J}{K:KO}(R:XK c oh W (.test p V) x r jv JS B) (hK:∀o',Z2 c oh o' W (.test p V) (.atom .none) jv JS (B+4)->K W.val o'):CW c (N+421) oh (call (.ref 800) [.ref x,W.val,jv] []) K:=by
 refine Qj7 λou kf=>?_
 obtain⟨dx,Pp,t,hI,hP⟩:=R.inst.at
 obtain⟨ro,rkv,hr1,hr2,hr3,hv,okV,hVs⟩:=R.row.value (V:=V) rfl
 have cl:=Z5 (c:=c) (C:=803) (oc rfl)
 have hg:Zu p:=R.good
 obtain⟨z,hz,hsim⟩:∃z,look p W=some z/\Sim z V:=R.pre
 have hWz:=R.size
 have okz:=Z7 hz R.doc.ok
 have fin:∀ {o'},Ext oh o'->K W.val o':=λhx=>hK _ ⟨rfl,R.doc.ext hx,List.nodup_nil,λx_ b hb=>(nomatch hb),hx.upd,(R.j.ext hx).mono (by omega),by show W.size<=_;omega⟩
 refine X3 (R:=(QX oh x W z)) ?_ ?_
 ·refine ZE ?_
  refine Qm (Xi kf rfl rfl ?_ rfl rfl)
  left
  refine Zc (attr:=none) hI.inst cl.ga cl.hd cl.a3.1 rfl rfl rfl ?_
  obtain⟨dp,Lp,vs,nv,hIp,hLp,hBp⟩:=hP.at
  refine Zo (f:=190) hIp.inst (by symm) (by symm) (by symm) (by symm) rfl ?_
  left
  rcases Qfc p with rfl|⟨h,k,rfl⟩
  ·cases hz
   refine Qf (Qa4 (N:=N+419) hP λRt o2 hR x2=>?_)
   refine⟨Rt,W.val,.none,rfl,hR,?_⟩
   left
   refine Qbv ?_
   left
   exact⟨rfl,by nofun,by nofun,Zf ..,x2⟩
  ·obtain⟨a,d,oj,hl,hgk⟩:=ZM hz
   have gk:=hg.1 k (by simp)
   have hP':Zl c oh Pp (h.map Qq++[YF k false]):=by
    have h1:(Op.test (h++[k]) V).path=QY h k false:=Qes
    rw[h1] at hP;exact hP
   refine Qf (ql (N:=N+417) hP' R.doc.ok (by omega) (λs hs=>hg.1 s (ml_ _ hs)) hl (qP hgk gk) λRt o2 v hR hvp x2=>?_)
   refine⟨Rt,.ref a,v,rfl,hR,?_⟩
   left
   refine XN (by cases hvp<;>rfl) ?_
   rw[show (v==Value.none)=false by cases hvp<;>rfl]
   left
   refine Zc (attr:=none) (hI.ext x2).inst cl.ga cl.hd cl.a3.1 rfl rfl rfl ?_
   refine Zo (f:=260) (hIp.ext x2).inst (by symm) (by symm) (by symm) (by symm) rfl ?_
   left
   refine Qf (QcC (N:=N+418) ((Z7 hl R.doc.ok).ext x2) (Nat.le_trans (ZL hl) (by omega)) hvp.inp hgk λo3 x3=>?_)
   left
   exact⟨rfl,by nofun,by nofun,Zf ..,x2.trans x3⟩
 ·rintro m2 o2 ⟨k1,k2,k3,x2⟩
  refine Xa (Qm (ZE ?_))
  left
  refine Zc (attr:=none) (hI.ext x2).inst cl.ga cl.hd cl.a4.1 rfl rfl rfl ?_
  left
  refine Zs (x2 _ _ hr1) hr2 hv ?_
  left
  refine Qf (ZT (QfY ht (N:=N+420) (okz.ext x2) (okV.ext x2) hsim hVs (by omega)) ?_)
  rintro _ o3 ⟨rfl,x3⟩
  left
  exact fin (x2.trans x3)
end
noncomputable def YJ:List (Str × Vl):=[(zz "remove",.ref 680),(zz "add",.ref 707),(zz "replace",.ref 726),(zz "move",.ref 784),(zz "test",.ref 803),(zz "copy",.ref 822)]
theorem QeQ (c:Cx):IsD c (QeM c.w.params) YJ:=by
 refine⟨_,_,⟨rfl,rfl,rfl⟩,rfl,?_,?_,by ac_rfl⟩
 ·intro e he
  simp only[List.mem_toArray,mc_,nn_,or_false] at he
  rcases he with rfl|rfl|rfl|rfl|rfl|rfl<;>exact⟨_,strKind_is _ _ _ _,rfl⟩
 ·exact .cons (strKind_is _ _ _ _) rfl (.cons (strKind_is _ _ _ _) rfl (.cons (strKind_is _ _ _ _) rfl (.cons (strKind_is _ _ _ _) rfl (.cons (strKind_is _ _ _ _) rfl (.cons (strKind_is _ _ _ _) rfl .nil)))))
theorem QeP (o:Op):valueAt YJ o.name=some (.ref o.cls):=by
 have h1:valueAt YJ (zz "add")=some (.ref 707):=by ac_rfl
 have h2:valueAt YJ (zz "remove")=some (.ref 680):=by ac_rfl
 have h3:valueAt YJ (zz "replace")=some (.ref 726):=by ac_rfl
 have h4:valueAt YJ (zz "move")=some (.ref 784):=by ac_rfl
 have h5:valueAt YJ (zz "copy")=some (.ref 822):=by ac_rfl
 have h6:valueAt YJ (zz "test")=some (.ref 803):=by ac_rfl
 cases o
 ·exact h1
 ·exact h2
 ·exact h3
 ·exact h3
 ·exact h4
 ·exact h5
 ·exact h6
theorem Qjv (o:Op):Q0 c oh (.ref o.cls):=by
 rcases qa o with h|h|h|h|h|h<;>rw[h]<;>exact Zg (by symm)
section
variable {jv:Vl}{JS:List Ad}{B:Nat}{W:J}{op:Op}{x r:Ad}
theorem Qg0 {oj:LV}{x:Str}(hs:(a==sysModules)=false) (h:oh a=some o) (hd:IsD c o oj) (hk:k (.bool (!(valueAt oj x).isSome)) m oh):Tactic.W c N ou m oh (compareOp .NotIn (.str x t) (.ref a)) k :=
 Q6 (a:=.bool (!(valueAt oj x).isSome)) (λA s fr Q hA S P hQ=>wpAny_notIn_of (knd:=strKind c.prog c.w) (strKind_is _ _ x t) hs (S.sg.dct h hd).mapOf (hQ _)) hk
theorem Qco {X dX Pl:Ad}{K:KO}(I:Q5 c oh X 945 dX [(zz "pointer_cls",.ref 333),(zz "patch",.ref Pl)]\/Q5 c oh X 945 dX [(zz "pointer_cls",.ref 333)]) (R:Zr c oh r op) (hg:op.good)
  (hK:∀Y o' (L:List Ad),Zy c o' Y op.cls op.path r->Ext oh o'->(∀b∈L,oh b=none/\∃ob,o' b=some ob)->(∀o'',(∀b∈L,∀o,o' b=some o->o'' b=some o)->Zy c o'' Y op.cls op.path r)->K (.ref Y) o'):CC c (N+7) oh (.call (.ref 942) ⟨[.ref X,.ref r],[]⟩) K:=by
 refine QjP λou kf=>?_
 obtain⟨oj,⟨⟨o,hr1,hr2⟩,hr3⟩,⟨to,hop⟩,⟨tp,hpath⟩,_⟩:=R.is
 have kd:Qv oh (.ref r) .dict:=.dict hr1 (by obtain⟨_,_,h2,_⟩:=hr2;exact h2.1)
 have gp:=Qlu op hg
 have hI:∃kv,ZO oh X 945 kv/\kv.lookup (zz "pointer_cls")=some (.ref 333)/\kv.lookup (zz "operations")=none:=by
  rcases I with I|I
  ·exact⟨_,I.inst,rfl,rfl⟩
  ·exact⟨_,I.inst,rfl,rfl⟩
 obtain⟨kv,I,hpc,hno⟩:=hI
 refine Qm ?_
 left
 refine Y6 hr1 hr2 hr3 ?_
 rw[hop]
 left
 refine Zs hr1 hr2 hop ?_
 left
 refine⟨Qd (by simp),λD hD=>?_⟩
 have xD:=Ext.put (o:=tup [.type "str",.type "bytes"]) hD.own
 refine⟨YA,?_⟩
 refine qB (kd:=.str) .str (ZY (Qa ..)) ?_
 left
 have ID:ZO (oh.put D (tup [.type "str",.type "bytes"])) X 945 kv:=by
  obtain⟨dx,od,h1,h2,h3⟩:=I.obj
  exact⟨dx,od,xD _ _ h1,xD _ _ h2,h3⟩
 refine Qbr (a:=.ref 857) ID (by symm) (by symm) (by symm) (by symm) rfl (by ac_rfl) hno ?_
 refine Qbx (a:=857) (o:=QeM c.w.params) (by symm) λhO=>?_
 refine Qg0 (by decide) hO (QeQ c) ?_
 rw[QeP]
 left
 refine Qbr (a:=.ref 857) ID (by symm) (by symm) (by symm) (by symm) rfl (by ac_rfl) hno ?_
 left
 refine Zs hO (QeQ c) (QeP op) ?_
 left
 refine Zc (attr:=none) ID (by symm) (by symm) (by symm) rfl hpc rfl ?_
 refine⟨Qjv op,?_⟩
 refine Qf (Qac (N:=N) (qa op) (⟨⟨o,xD _ _ hr1,hr2⟩,hr3⟩:Za c _ r oj) hpath gp.1 (by have:=gp.2;omega) λY o' L h1 h2 h3 h4=>?_)
 left
 exact hK Y o' L h1 (xD.trans h2) (λb hb=>⟨xD.none (h3 b hb).1,(h3 b hb).2⟩) h4
theorem QfX {X dX Pl:Ad}{K:KO}(I:Q5 c oh X 945 dX [(zz "pointer_cls",.ref 333),(zz "patch",.ref Pl)]\/Q5 c oh X 945 dX [(zz "pointer_cls",.ref 333)]) (R:Zr c oh r op) (hg:op.good)
  (hK:∀Y o' (L:List Ad),Zy c o' Y op.cls op.path r->Ext oh o'->(∀b∈L,oh b=none/\∃ob,o' b=some ob)->(∀o'',(∀b∈L,∀o,o' b=some o->o'' b=some o)->Zy c o'' Y op.cls op.path r)->K (.ref Y) o'):CW c (N+7) oh (call (.ref 942) [.ref X,.ref r] []) K :=
 Qa0 (args:=⟨[.ref X,.ref r],[]⟩) (Qco I R hg hK)
end
noncomputable def Op.fn:Op->Ad
 |.add ..=>696
 |.remove ..=>677
 |.replace0 ..=>723
 |.replace ..=>723
 |.move ..=>742
 |.copy ..=>819
 |.test ..=>800
theorem Z2.mono {oh o':Own}{W:J}{op:Op}{y:J}{jv:Vl}{JS:List Ad}{B B':Nat}(h:Z2 c oh o' W op y jv JS B) (hB:B<=B'):Z2 c oh o' W op y jv JS B':=⟨h.br,h.doc,h.nd,h.fresh,h.upd,h.j.mono hB,h.size⟩
section
variable {jv:Vl}{JS:List Ad}{B:Nat}{W:J}{op:Op}{x r:Ad}
structure Y1 (c:Cx):Prop where
 t1:508∈c.tabs
 t2:1130∈c.tabs
theorem Qcw (T:Y1 c) {K:KO}(R:XK c oh W op x r jv JS B) (hK:∀o' y,Z2 c oh o' W op y jv JS (B+8)->K (ZG op y W).val o'):CW c (N+421) oh (call (.ref op.fn) [.ref x,W.val,jv] []) K:=by
 induction op with
 |add h k e V =>
  refine Zt (Qfx (N:=N) R λo' y A=>?_) (by omega)
  have:=hK o' y (A.mono (by omega))
  rwa [show (ZG (.add h k e V) y W).val=W.val from ZZ] at this
 |remove h k =>
  obtain⟨z,hz⟩:∃z,look (h++[k]) W=some z:=R.pre
  refine Zt (Qcm T.t1 (N:=N) R hz λo' A x_=>?_) (by omega)
  have:=hK o' _ (A.mono (by omega))
  rwa [show (ZG (.remove h k) (.atom .none) W).val=W.val from ZZ] at this
 |replace0 V =>
  exact Zt (QfG (N:=N) R λo' y A=>hK o' y (A.mono (by omega))) (by omega)
 |replace h k V =>
  refine Zt (QfF (N:=N) R λo' y A=>?_) (by omega)
  have:=hK o' y (A.mono (by omega))
  rwa [show (ZG (.replace h k V) y W).val=W.val from ZZ] at this
 |move fh fk h k e =>
  refine Zt (QfD T.t1 (N:=N) R λo' y A=>?_) (by omega)
  have:=hK o' y A
  have e1:(ZG (.move fh fk h k e) y W).val=W.val:=by
   show (if _ then W else _).val=W.val
   split
   ·rfl
   ·rw[ZZ,ZZ]
  rwa [e1] at this
 |copy f h k e =>
  refine Qfz R λo' y A=>?_
  have:=hK o' y (A.mono (by omega))
  rwa [show (ZG (.copy f h k e) y W).val=W.val from ZZ] at this
 |test p V=>exact QfH T.t2 R λo' A=>hK o' _ (A.mono (by omega))
theorem QdT (op:Op):findIn c.K (.ref op.cls) "_apply"=some (some (.ref op.fn))/\typeIn c.K (.ref op.fn)=some (.type "function")/\fnIn c.K op.fn=true:=by
 have h (C f:Ad) (h1:findIn (K03 c.w.params) (.ref C) "_apply"=some (some (.ref f))) (h2:typeIn (K03 c.w.params) (.ref f)=some (.type "function")) (h3:fnIn (K03 c.w.params) f=true):findIn c.K (.ref C) "_apply"=some (some (.ref f))/\typeIn c.K (.ref f)=some (.type "function")/\fnIn c.K f=true:=⟨h1,h2,h3⟩
 induction op with
 |add=>exact h 707 696 (by symm) (by symm) (by symm)
 |remove=>exact h 680 677 (by symm) (by symm) (by symm)
 |replace0=>exact h 726 723 (by symm) (by symm) (by symm)
 |replace=>exact h 726 723 (by symm) (by symm) (by symm)
 |move=>exact h 784 742 (by symm) (by symm) (by symm)
 |copy=>exact h 822 819 (by symm) (by symm) (by symm)
 |test=>exact h 803 800 (by symm) (by symm) (by symm)
theorem QdB (op:Op):Q0 c oh (.ref op.fn):=by
 induction op with
 |add=>exact Qjr
 |remove=>exact Qjq
 |replace0=>exact QdA
 |replace=>exact QdA
 |move=>exact Qjs
 |copy=>exact Qju
 |test=>exact Qjt
theorem QfU (T:Y1 c) {K:KO}(R:XK c oh W op x r (.ref 485) [] B) (hK:∀o' y,Z2 c oh o' W op y (.ref 485) [] (B+8)->K (ZG op y W).val o'):CW c (N+422) oh (call (.ref 596) [.ref x,W.val] []) K:=by
 refine Qj5 λou kf=>?_
 obtain⟨dx,Pp,t,hI,hP⟩:=R.inst.at
 have cl:=Z5 (c:=c) (qa op)
 have fa:=QdT (c:=c) op
 refine Qm ?_
 left
 refine Zo (f:=op.fn) hI.inst cl.ga cl.gt fa.1 fa.2.1 rfl ?_
 left
 refine⟨QdB op,Qf (Qcw T R λo' y A=>?_)⟩
 left
 exact hK o' y A
theorem QcA {Lr:Ad}{rows:List (Ad × Op)}{K:KO}(hL:oh Lr=some (lst (rows.map λp=>.ref p.1) n)) (hR:∀p∈rows,Zr c oh p.1 p.2/\p.2.good) (hl:rows.length<=60)
  (hK:∀X dX Pl n' o',Q5 c o' X 945 dX [(zz "pointer_cls",.ref 333),(zz "patch",.ref Pl)]->o' Pl=some (lst (rows.map λp=>.ref p.1) n')->Ext oh o'->K (.ref X) o'):CW c (N+20) oh (call (.ref 945) [.ref Lr] []) K:=by
 refine qX (fI:=865) (by symm) (by symm) (by symm) λD X hD hX=>?_
 refine QjR λou kf=>?_
 have I:=QaJ (C:=945) hD hX
 have x1:Ext oh ((oh.put D emptyDict).put X (instObj 945 D)):=by walk_at "ext"
 have nD:oh D=none:=hD.own
 generalize ho1:(oh.put D emptyDict).put X (instObj 945 D)=o1 at I x1 ⊢
 have nD':∀b,oh b≠none->b≠D:=λb hb h=>hb (h▸nD)
 have kL:∀o,o Lr=some (lst (rows.map λp=>.ref p.1) n)->Qv o (.ref Lr) .list:=λo e=>.list e rfl
 have hLD:=nD' Lr (by rw[hL];simp)
 refine Qm ?_
 left
 refine Yg I (by simp) (by symm) (by symm) (by symm) (by symm) λo2 I2 e2 c2=>?_
 replace I2:Q5 c o2 X 945 D [(zz "pointer_cls",.ref 333)]:=I2
 left
 refine⟨Qd (by simp),λD1 hD1=>?_⟩
 have hL2:o2 Lr=some (lst (rows.map λp=>.ref p.1) n):=e2 _ _ hLD (x1 _ _ hL)
 have xD1:=Ext.put (o:=tup [.type "str",.type "bytes",.type "dict"]) hD1.own
 refine⟨YA,?_⟩
 refine QgN (kL _ (xD1 _ _ hL2)) (ZY (Qa ..)) ?_
 left
 refine ZE ?_
 left
 refine QgT (xD1 _ _ hL2) (Qd (by omega)) λPl n' hPl=>?_
 left
 have x3:=xD1.ai (o:=lst (rows.map λp=>.ref p.1) n') hPl.own
 refine Yg (I2.ext x3) (by simp) (by symm) (by symm) (by symm) (by symm) λo4 I4 e4 c4=>?_
 replace I4:Q5 c o4 X 945 D [(zz "pointer_cls",.ref 333),(zz "patch",.ref Pl)]:=I4
 obtain⟨od2,hd2,_⟩:=I2.d
 have hPlD:Pl≠D:=hPl.ne (xD1 _ _ hd2)
 have hP4:o4 Pl=some (lst (rows.map λp=>.ref p.1) n'):=e4 _ _ hPlD (Qa ..)
 have xo4:Ext oh o4:=λb o e=>by
  have hb:=nD' b (by rw[e];simp)
  exact e4 _ _ hb (x3 _ _ (e2 _ _ hb (x1 _ _ e)))
 left
 refine QbC ?_
 left
 refine Zc (attr:=none) I4.inst (by symm) (by symm) (by symm) rfl rfl rfl ?_
 left
 refine Qf (Qcs hP4 λne o' Z=>?_)
 have xe:=Z.ext
 refine⟨_,_,_,_,λi m o=>m "self"=some (.ref X)/\Ext o4 o,QcH Z hP4,⟨rfl,xe⟩,λi m o J q hq=>?_,λi v xq m o o₂ hi hP J hx1 hx2=>?_,λm o J=>?_⟩
 ·refine memS hq ?_;exact J.2 _ _ hP4
 ·obtain⟨j1,jx⟩:=J
  obtain⟨w,t,hP,rfl⟩:=hP
  obtain⟨T',rfl,hT',rfl⟩:=hx2 _ rfl
  rw[gm_] at hP
  obtain⟨q,hq,rfl⟩:=mq_.mp hP
  obtain⟨aT,aZ⟩:=hR q (mg_ hq)
  have xT:=jx.ai (o:=tup [.int i t,.ref q.1]) hT'.own
  have hrow':=(aT.ext xo4).ext xT
  obtain⟨rkv,⟨⟨ro,hr1,hr2⟩,hr3⟩,_⟩:=hrow'.is
  have kdr:∀o,o q.1=some ro->Qv o (.ref q.1) .dict:=λo e=>.dict e (by obtain⟨_,_,h2,_⟩:=hr2;exact h2.1)
  refine YM kf rfl rfl (Qa ..) ?_
  left
  refine⟨Qd (by simp),λD2 hD2=>?_⟩
  have x5:=Ext.put (o:=tup [.type "str",.type "bytes"]) hD2.own
  refine⟨YA,?_⟩
  refine qB (kdr _ (x5 _ _ hr1)) (ZY (Qa ..)) ?_
  left
  refine Zo (f:=942) ((I4.ext xT).ext x5).inst (by symm) (by symm) (by symm) (by symm) rfl ?_
  left
  refine Qf (QfX (N:=N+11) (.inl ((I4.ext xT).ext x5)) (hrow'.ext x5) aZ λY o6 L h1 x6 h3 h4=>?_)
  left
  have kd:=kdr o6 (x6 _ _ (x5 _ _ hr1))
  left
  exact⟨by nofun,(xT.trans x5).trans x6⟩
 ·obtain⟨j1,jx⟩:=J
  refine ZV ?_
  left
  exact⟨rfl,hK X D Pl n' o (I4.ext jx) (jx _ _ hP4) (xo4.trans jx)⟩
end
section
variable {jv:Vl}{JS:List Ad}{B:Nat}{W:J}{op:Op}{x r:Ad}
structure Qai (c:Cx) (ay o:Own) (p:Ad × Op) (y:Vl):Prop where
 is:∃ (Y:Ad) (L:List Ad),y = .ref Y/\(∀b∈L,ay b=none)/\(∀b∈L,∃ob,o b=some ob)/\∀o'',(∀b∈L,∀ob,o b=some ob->o'' b=some ob)->Zy c o'' Y p.2.cls p.2.path p.1
theorem Qai.keep {ay o o':Own}{p:Ad × Op}{y:Vl}(h:Qai c ay o p y) (hk:∀b ob,ay b=none->o b=some ob->o' b=some ob):Qai c ay o' p y:=by
 obtain⟨Y,L,h1,h2,h3,h4⟩:=h.is
 refine⟨Y,L,h1,h2,λb hb=>?_,λo'' h''=>h4 o'' λb hb ob e=>h'' b hb ob (hk b ob (h2 b hb) e)⟩
 obtain⟨ob,e⟩:=h3 b hb
 exact⟨ob,hk b ob (h2 b hb) e⟩
structure qq (c:Cx) (ay o:Own) (rows:List (Ad × Op)) (ys:List Vl):Prop where
 len:ys.length<=rows.length
 at_:∀ (j:Nat) (y:Vl),ys[j]?=some y->∃p,rows[j]?=some p/\Qai c ay o p y
theorem qq.keep {ay o o':Own}{rows:List (Ad × Op)}{ys:List Vl}(h:qq c ay o rows ys) (hk:∀b ob,ay b=none->o b=some ob->o' b=some ob):qq c ay o' rows ys :=
 ⟨h.len,λj y e=>let ⟨p,h1,h2⟩:=h.at_ j y e;⟨p,h1,h2.keep hk⟩⟩
set_option tactic.hygienic true in
theorem QfM {X dX Pl:Ad}{rows:List (Ad × Op)}{K:KO}(I:Q5 c oh X 945 dX [(zz "pointer_cls",.ref 333),(zz "patch",.ref Pl)]) (hPl:oh Pl=some (lst (rows.map λp=>.ref p.1) n)) (hR:∀p∈rows,Zr c oh p.1 p.2/\p.2.good) (hl:rows.length<=60)
  (hK:∀T ys o',o' T=some (tup ys)->ys.length=rows.length->qq c oh o' rows ys->Ext oh o'->oh T=none->K (.ref T) o'):CC c (N+30) oh (.call (.ref 926) ⟨[.ref X],[]⟩) K:=by
 refine QjQ λou kf=>?_
 refine Qm ?_
 left
 refine QgB (p:=942) I.inst (by symm) (by symm) (by symm) (by symm) (by symm) (by symm) (by symm) (by ac_rfl) rfl λq hq=>?_
 have xq:=Ext.put (o:=methodObj (.ref 942) (.ref X)) hq.own
 left
 refine Zc (attr:=none) (I.ext xq).inst (by symm) (by symm) (by symm) rfl rfl rfl ?_
 left
 refine Qf (Qct (tp:=false) (xs:=rows.map λ (p:Ad × Op)=>Value.ref p.1) (n:=n) (show _=some (seqO false _ _) from xq _ _ hPl) λoi it TI z hof hoS hit hTI hz=>?_)
 left
 have zt:z≠it:=hz.ne (by rw[Qi (hTI.ne' (Qa ..))];exact Qa ..)
 have bq:=hq.base
 generalize hob:(oh.put q (methodObj (.ref 942) (.ref X)))=ob at xq hit hTI hz
 have hqo:ob q=some (methodObj (.ref 942) (.ref X)):=by rw[<- hob];exact Qa ..
 have xd:Ext ob ((((ob.put it oi).put TI (tup [.ref it])).put z (ZQ TI (.ref q))).drop [z,it]):=λb o e=>by
  have h1:b≠it:=hit.ne' e
  have h2:b≠TI:=hTI.ne' (QE hit.own e)
  have h3:b≠z:=hz.ne' (QE hTI.own (QE hit.own e))
  rw[Yk (by simp[h1,h3]),Qi h3,Qi h2,Qi h1];exact e
 have hTIz:TI≠z:=hz.ne' (Qa ..)
 have hTIi:TI≠it:=hTI.ne (Qa ..)
 have dTI:((((ob.put it oi).put TI (tup [.ref it])).put z (ZQ TI (.ref q))).drop [z,it]) TI=some (tup [.ref it]):=by
  rw[Yk (by simp[hTIz,hTIi]),Qi hTIz];exact Qa ..
 have x0:=xq.trans xd
 refine Qf (QfT (N:=N+26) (QcF (N:=N+25) (tp:=false) (f:=.ref q) (l:=Pl) (it:=it) (TI:=TI) (xs:=rows.map λ (p:Ad × Op)=>Value.ref p.1) (n:=n) (o:=oi)
  (J:=λi acc o=>Ext ((((ob.put it oi).put TI (tup [.ref it])).put z (ZQ TI (.ref q))).drop [z,it]) o/\acc.length=i/\qq c oh o rows acc) (Qa ..) (by rw[Qi hTIz];exact Qa ..) ?_ ?_ hoS zt hz.base hit.base ⟨.refl,rfl,Nat.zero_le _,λj y h=>by simp at h⟩ (λi acc o J=>⟨J.1 _ _ dTI,J.1 _ _ (xd _ _ (xq _ _ hPl))⟩) λi x acc o hx J=>?_) (Qd (by omega)) λT acc o aN J hT=>?_)
 ·rw[Qi zt.symm,Qi hTIi.symm];exact Qa ..
 ·exact(QE hz.own (QE hTI.own (QE hit.own (xq _ _ hPl))))
 ·obtain⟨jx,jl,ji⟩:=J
  rw[gm_] at hx
  obtain⟨p,hp,rfl⟩:=mq_.mp hx
  obtain⟨aT,aZ⟩:=hR p (mg_ hp)
  have xo:=x0.trans jx
  refine QaZ (jx _ _ (xd _ _ hqo)) (Qco (N:=N+18) (.inl (I.ext xo)) (aT.ext xo) aZ λY o' L h1 x6 h3 h4=>?_)
  refine⟨jx.trans x6,by rw[la_,jl];rfl,?_,λj y hy=>?_⟩
  ·have:i < rows.length:=(ge_.mp hp).1
   rw[la_,jl];simp<;>omega
  ·rw[List.getElem?_append] at hy
   split at hy
   ·obtain⟨p',e1,e2⟩:=ji.at_ j y hy
    exact⟨p',e1,e2.keep λb ob' x_ e=>x6 _ _ e⟩
   ·rename_i hlt
    have hji:j=i:=by
     have:=(ge_.mp hy).1
     simp at this;omega
    subst hji
    rw[jl,Nat.sub_self] at hy
    cases hy
    exact⟨p,hp,Y,L,rfl,λb hb=>xo.none (h3 b hb).1,λb hb=>(h3 b hb).2,h4⟩
 ·obtain⟨jx,jl,ji⟩:=J
  left
  have xT:=Ext.put (o:=tup acc) hT.own
  refine hK T acc _ (Qa ..) (by rw[aN,lm_]) (ji.keep λb ob' x_ e=>xT _ _ e) ((x0.trans jx).trans xT) ((x0.trans jx).none hT.own)
end
theorem Zr.keep {oh oo:Own}{r:Ad}{op:Op}{S:List Ad}(R:Zr c oh r op) (u:Upd oh oo S) (hr:r∉S) (hV:∀V,op.val=some V->∀b∈V.addrs,b∉S):Zr c oo r op:=by
 obtain⟨oj,⟨⟨o,h1,h2⟩,h3⟩,h4⟩:=R.is
 exact⟨⟨oj,⟨⟨o,u.keep _ _ hr h1,h2⟩,h3⟩,h4⟩,λV e=>⟨u.ok (R.val V e).1 (hV V e),(R.val V e).2⟩⟩
set_option tactic.hygienic true in
theorem Qne {W y:J}{op:Op}(D:Doc c oh W) (hp:Pre op W) (hb:XH op W y) {b:Ad}(h:b∈(ZG op y W).addrs):b∈W.addrs\/b∈y.addrs:=by
 induction op with
 |add h' k e V =>
  obtain⟨a,d,oj,hl,_⟩:ZC h' k e W:=hp
  exact Xe (f:=(Qp · k y)) D hl ZF h
 |remove h' k =>
  obtain⟨z,hz⟩:∃z,look (h'++[k]) W=some z:=hp
  obtain⟨a,d,oj,hl,_⟩:=ZM hz
  rcases Xe (f:=(Qo · k)) D hl Xs h with h|h
  ·exact .inl h
  ·cases h
 |replace0 V=>exact .inr h
 |replace h' k V =>
  obtain⟨z,hz⟩:∃z,look (h'++[k]) W=some z:=hp
  obtain⟨a,d,oj,hl,hg⟩:=ZM hz
  exact Xe (f:=(Zh · k y)) D hl (QaU hg) h
 |move fh fk h' k e =>
  obtain⟨⟨z,hz⟩,hi⟩:(∃z,look (fh++[fk]) W=some z)/\_:=hp
  have h0:b∈(if h'=fh/\k=fk/\e=false then W else Qg (Qp · k y) h' (Qg (Qo · fk) fh W)).addrs:=h
  split at h0
  ·exact .inl h0
  ·rename_i hne
   obtain⟨a,d,oj,hl,hg⟩:=ZM hz
   obtain⟨a',d',af,hl',_⟩:=hi.resolve_left hne
   have hbr:look (fh++[fk]) W=some y:=hb
   have D1nd:(Qg (Qo · fk) fh W).addrs.Nodup:=by
    have hnd:=(D.look hl).nd
    rw[J.addrs,nc_] at hnd
    refine QaO D.nd hl ((Xs (k:=fk)).nodup hnd.2 List.nodup_nil λb hb=>(nomatch hb)) λb hb=>.inl ?_
    rcases(Xs (oj:=oj) (k:=fk)).addrs hb with h|h
    ·exact h
    ·cases h
   rcases qO (f:=(Qp · k y)) D1nd hl' h0 with ⟨h1,_⟩|h1
   ·rcases Xe (f:=(Qo · fk)) D hl Xs h1 with h|h
    ·exact .inl h
    ·cases h
   ·rcases(ZF (k:=k) (x:=y)).addrs h1 with h2|h2
    ·have h3:b∈(Qg (Qo · fk) fh W).addrs:=Zb hl' b (J.mL h2)
     rcases Xe (f:=(Qo · fk)) D hl Xs h3 with h|h
     ·exact .inl h
     ·cases h
    ·exact .inr h2
 |copy f h' k e =>
  obtain⟨_,a,d,oj,hl,_⟩:_/\ZC h' k e W:=hp
  exact Xe (f:=(Qp · k y)) D hl ZF h
 |test p V=>exact .inl h
structure Run (c:Cx) (ob:Own) (W:J) (rows:List (Ad × Op)) (ys:List Vl) (jv:Vl) (JS:List Ad) (Φ:Nat->Own->J->Prop):Prop where
 ba:∀p∈rows,Zr c ob p.1 p.2/\p.2.good/\p.1∉W.addrs++JS/\∀V,p.2.val=some V->∀b∈V.addrs,b∉W.addrs++JS
 len:ys.length=rows.length
 short:rows.length<=60
 insts:∀ (j:Nat) (y:Vl),ys[j]?=some y->∃ (p:Ad × Op) (Y:Ad) (L:List Ad),rows[j]?=some p/\y = .ref Y/\(∀b∈L,b∉W.addrs++JS/\∃x,ob b=some x)/\∀o'',(∀b∈L,∀x,ob b=some x->o'' b=some x)->Zy c o'' Y p.2.cls p.2.path p.1
 jW:∀b∈W.addrs,b∉JS
 jO:∀b∈JS,∃x,ob b=some x
 pre:∀i o Wi p,rows[i]?=some p->Φ i o Wi->Pre p.2 Wi/\Wi.size<=400
 step:∀i o o' Wi p y jv JS B,rows[i]?=some p->Φ i o Wi->Z2 c o o' Wi p.2 y jv JS B->Φ (i+1) o' (ZG p.2 y Wi)
structure Inv (c:Cx) (ob:Own) (W:J) (jv:Vl) (JS:List Ad) (Φ:Nat->Own->J->Prop) (i:Nat) (o:Own) (Wi:J):Prop where
 phi:Φ i o Wi
 doc:Doc c o Wi
 upd:Upd ob o (W.addrs++JS)
 new:∀b∈Wi.addrs,b∈W.addrs\/ob b=none
 j:JOk c o jv JS (8*i)
section
variable {ob:Own}{W:J}{rows:List (Ad × Op)}{ys:List Vl}{jv:Vl}{JS:List Ad}{Φ:Nat->Own->J->Prop}{i:Nat}{o:Own}{Wi:J}
theorem Inv.ready (R:Run c ob W rows ys jv JS Φ) (I:Inv c ob W jv JS Φ i o Wi) {y:Vl}(hy:ys[i]?=some y):∃p Y,rows[i]?=some p/\y = .ref Y/\XK c o Wi p.2 Y p.1 jv JS (8*i):=by
 obtain⟨p,Y,L,hp,rfl,hL,hkeep⟩:=R.insts i y hy
 obtain⟨r1,r2,r3,r4⟩:=R.ba p (mg_ hp)
 have hi:i < rows.length:=(ge_.mp hp).1
 have hlen:=R.short
 obtain⟨q1,q2⟩:=R.pre i o Wi p hp I.phi
 have jWi:∀b∈Wi.addrs,b∉JS:=λb hb hm=>by
  rcases I.new b hb with h|h
  ·exact R.jW b h hm
  ·obtain⟨x,hx⟩:=R.jO b hm
   cases h,hx
 have k0:∀b∈L,∀x,ob b=some x->o b=some x:=λb hb x e=>I.upd.keep b x (hL b hb).1 e
 refine⟨p,Y,hp,rfl,hkeep o k0,r1.keep I.upd r3 r4,I.doc,q2,q1,r2,I.j,by omega,jWi,L,λb hb=>⟨λhm=>?_,λhm=>(hL b hb).1 (mr_ _ hm)⟩,λo'' h''=>hkeep o'' λb hb x e=>h'' b hb x (k0 b hb x e)⟩
 rcases I.new b hm with h|h
 ·exact(hL b hb).1 (ml_ _ h)
 ·obtain⟨x,hx⟩:=(hL b hb).2
  cases h,hx
theorem Inv.next (R:Run c ob W rows ys jv JS Φ) (I:Inv c ob W jv JS Φ i o Wi) {p:Ad × Op}(hp:rows[i]?=some p) {o':Own}{y:J}(A:Z2 c o o' Wi p.2 y jv JS (8*i+8)):Inv c ob W jv JS Φ (i+1) o' (ZG p.2 y Wi):=by
 have hpre:=(R.pre i o Wi p hp I.phi).1
 refine⟨R.step i o o' Wi p y jv JS _ hp I.phi A,A.doc,Upd.trans I.upd A.upd λb hb=>?_,λb hb=>?_,A.j.mono (by omega)⟩
 ·rcases ma_.mp hb with h|h
  ·rcases I.new b h with h|h
   ·exact .inl (ml_ _ h)
   ·exact .inr h
  ·exact .inl (mr_ _ h)
 ·rcases Qne I.doc hpre A.br hb with h|h
  ·exact I.new b h
  ·cases hm:p.2.makes with
   |true=>exact .inr (I.upd.none (A.fresh hm b h))
   |false =>
    generalize hop:p.2=op at *
    induction op with
    |move fh fk h' k e =>
     have hbr:look (fh++[fk]) Wi=some y:=A.br
     exact I.new b (Zb hbr b h)
    |_=>cases hm
end
section
variable {jv:Vl}{JS:List Ad}{B:Nat}{W:J}{op:Op}{x r:Ad}
theorem QlV:Has c oh 832 (tup [.ref 680,.ref 707,.ref 726,.ref 784,.ref 803,.ref 822]):=XC (by symm)
theorem Qf2 {C:Ad}(hC:Y0 C) {kv:LV}{K:KO}(I:ZO oh x C kv) (hK:K (.bool true) oh):CW c (N+2) oh (call (.ref 839) [.ref x] []) K:=by
 refine Qks λou kf=>?_
 refine Qm ?_
 left
 rcases hC with rfl|rfl|rfl|rfl|rfl|rfl <;>
 ·refine Qf (QfQ (b:=true) I (QlV) (by symm) (by symm) (by symm) (by symm) (by symm) (by symm) (by symm) ?_)
  left
  exact hK
theorem QfZ {K:KO}(hK:∀j dj U O o',Zp c o' j dj U O 0->Ext oh o'->(∀b∈[j,dj,U,O],oh b=none)->K (.ref j) o'):CW c (N+4) oh (call (.ref 537) [] []) K:=by
 refine qX (fI:=499) (by symm) (by symm) (by symm) λD X hD hX=>?_
 refine QjW λou kf=>?_
 have I:=QaJ (C:=537) hD hX
 have x1:Ext oh ((oh.put D emptyDict).put X (instObj 537 D)):=by walk_at "ext"
 have nD:oh D=none:=hD.own
 have nX:oh X=none:=(Ext.put nD).none hX.own
 generalize ho1:(oh.put D emptyDict).put X (instObj 537 D)=o1 at I x1 ⊢
 refine Qm ?_
 left
 refine⟨Qd (by simp),λU hU=>?_⟩
 left
 have xU:=Ext.put (o:=lst [] 0) hU.own
 refine Yg (I.ext xU) (by simp) (by symm) (by symm) (by symm) (by symm) λo2 I2 e2 c2=>?_
 replace I2:Q5 c o2 X 537 D [(zz "_undo",.ref U)]:=I2
 left
 refine⟨Qd (by simp),λO hO=>?_⟩
 left
 have xO:=Ext.put (o:=lst [] 0) hO.own
 refine Yg (I2.ext xO) (by simp) (by symm) (by symm) (by symm) (by symm) λo3 I3 e3 c3=>?_
 replace I3:Q5 c o3 X 537 D [(zz "_undo",.ref U),(zz "_orders",.ref O)]:=I3
 left
 obtain⟨od1,hd1,_⟩:=I.d
 obtain⟨od2,hd2,_⟩:=I2.d
 have hUD:U≠D:=hU.ne hd1
 have hOD:O≠D:=hO.ne hd2
 have hU2:o2 U=some (lst [] 0):=e2 _ _ hUD (Qa ..)
 have hOU:O≠U:=hO.ne hU2
 have nD':∀b,oh b≠none->b≠D:=λb hb h=>hb (h▸nD)
 have x2:Ext oh o2:=λb o e=>by
  have hb:=nD' b (by rw[e];simp)
  exact e2 _ _ hb (xU _ _ (x1 _ _ e))
 have x3:Ext oh o3:=λb o e=>by
  have hb:=nD' b (by rw[e];simp)
  exact e3 _ _ hb (xO _ _ (x2 _ _ e))
 refine⟨rfl,hK X D U O o3 ⟨I3,⟨[],0,e3 _ _ hUD (xO _ _ hU2),Nat.zero_le _⟩,⟨[],0,e3 _ _ hOD (Qa ..),Nat.zero_le _,λt ht=>(nomatch ht)⟩,hU.base,hO.base,hOU.symm,hUD,hOD⟩ x3 λb hb=>?_⟩
 simp only[mc_,nn_,or_false] at hb
 rcases hb with rfl|rfl|rfl|rfl
 ·exact nX
 ·exact nD
 ·exact x1.none hU.own
 ·exact x2.none hO.own
structure QcL (c:Cx) (oh:Own) (W:J) (rows:List (Ad × Op)) (Φ:Nat->Own->J->Prop):Prop where
 ba:∀p∈rows,Zr c oh p.1 p.2/\p.2.good/\p.1∉W.addrs/\∀V,p.2.val=some V->∀b∈V.addrs,b∉W.addrs
 short:rows.length<=60
 doc:Doc c oh W
 start:∀ob,Ext oh ob->Φ 0 ob W
 mono:∀i o o' Wi,Φ i o Wi->Ext o o'->Φ i o' Wi
 pre:∀i o Wi p,rows[i]?=some p->Φ i o Wi->Pre p.2 Wi/\Wi.size<=400
 step:∀i o o' Wi p y jv JS B,rows[i]?=some p->Φ i o Wi->Z2 c o o' Wi p.2 y jv JS B->Φ (i+1) o' (ZG p.2 y Wi)
abbrev QP (c:Cx) (o3:Own) (W:J) (Φ:Nat->Own->J->Prop) (ys:List Vl) (j dj U O Tu:Ad) (i:Nat) (m:Loc) (o:Own):Prop:=∃Wi,m "obj"=some Wi.val/\m "journal"=some (.ref j)/\o Tu=some (tup ys)/\Inv c o3 W (.ref j) [j,dj,U,O] Φ i o Wi
abbrev QR (c:Cx) (o1:Own) (W:J) (Φ:Nat->Own->J->Prop) (ys:List Vl) (Tu:Ad) (i:Nat) (m:Loc) (o:Own):Prop:=∃Wi,m "obj"=some Wi.val/\o Tu=some (tup ys)/\Inv c o1 W (.ref 485) [] Φ i o Wi
theorem Qcn (T:Y1 c) {X dX Pl:Ad}{rows:List (Ad × Op)}{at_:Bool}{Φ:Nat->Own->J->Prop}{K:KO}(P:QcL c oh W rows Φ) (I:Q5 c oh X 945 dX [(zz "pointer_cls",.ref 333),(zz "patch",.ref Pl)]) (hPl:oh Pl=some (lst (rows.map λp=>.ref p.1) n))
  (hK:∀o' W',Φ rows.length o' W'->Doc c o' W'->Upd oh o' W.addrs->(∀b∈W'.addrs,b∈W.addrs\/oh b=none)->K W'.val o'):CW c (N+431) oh (call (.ref 935) [.ref X,W.val] [(zz "in_place",.bool true),(zz "atomic",.bool at_)]) K:=by
 refine Qj0 λou kf=>?_
 refine Qm ?_
 left
 refine QgC (N:=N+429) (p:=927) (fget:=926) (rest:=[.none,.none,.none,.str (zz "_ops") 1736,.bool false]) I.inst (by symm) (by symm) (by symm) (by symm) (by symm) (by symm) (by symm) ?_
 refine Qcq (QfM (N:=N) I hPl (λp hp=>⟨(P.ba p hp).1,(P.ba p hp).2.1⟩) P.short λTu ys o1 hT hyl hys x1 nTu=>⟨rfl,?_⟩) (by omega)
 have u0:=λ (o':Own) (JS:List Ad) (h:Upd o1 o' (W.addrs++JS)) (hJ:∀b∈JS,oh b=none)=>(Upd.trans (x1.upd (S:=W.addrs)) h λb hb=>(ma_.mp hb).imp id (hJ b):Upd oh o' W.addrs)
 have kT:∀o',Ext o1 o'->o' Tu=some (tup ys):=λo' h=>h _ _ hT
 have row1:∀ (ob:Own) (JS:List Ad),Ext oh ob->(∀b∈JS,oh b=none)->∀p∈rows,Zr c ob p.1 p.2/\p.2.good/\p.1∉W.addrs++JS/\∀V,p.2.val=some V->∀b∈V.addrs,b∉W.addrs++JS:=λob JS h hJ p hp=>by
  obtain⟨r1,r2,r3,r4⟩:=P.ba p hp
  refine⟨r1.ext h,r2,λhm=>?_,λV e b hb hm=>?_⟩
  ·rcases ma_.mp hm with hm|hm
   ·exact r3 hm
   ·obtain⟨oj,⟨⟨o,h1,_⟩,_⟩,_⟩:=r1.is
    cases (hJ _ hm),h1
  ·rcases ma_.mp hm with hm|hm
   ·exact r4 V e b hb hm
   ·obtain⟨o,h1⟩:=(r1.val V e).1.there b hb
    cases (hJ _ hm),h1
 have ins1:∀ (ob:Own) (JS:List Ad),Ext o1 ob->(∀b∈JS,o1 b=none)->∀ (j:Nat) (y:Vl),ys[j]?=some y->∃ (p:Ad × Op) (Y:Ad) (L:List Ad),rows[j]?=some p/\y = .ref Y/\(∀b∈L,b∉W.addrs++JS/\∃x,ob b=some x)/\∀o'',(∀b∈L,∀x,ob b=some x->o'' b=some x)->Zy c o'' Y p.2.cls p.2.path p.1:=λob JS h hJ j y hy=>by
  obtain⟨p,h1,h2⟩:=hys.at_ j y hy
  obtain⟨Y,L,e1,e2,e3,e4⟩:=h2.is
  refine⟨p,Y,L,h1,e1,λb hb=>?_,λo'' h''=>e4 o'' λb hb x e=>h'' b hb x (h _ _ e)⟩
  obtain⟨x,hx⟩:=e3 b hb
  refine⟨λhm=>?_,x,h _ _ hx⟩
  rcases ma_.mp hm with hm|hm
  ·obtain⟨o,h1⟩:=P.doc.ok.there b hm
   cases (e2 b hb),h1
  ·cases (hJ b hm),hx
 induction at_ with
 |false =>
  have RN:Run c o1 W rows ys (.ref 485) [] Φ:=⟨row1 o1 [] x1 (λb hb=>(nomatch hb)),hyl,P.short,ins1 o1 [] .refl (λb hb=>(nomatch hb)),λb x_ hm=>(nomatch hm),λb hb=>(nomatch hb),P.pre,P.step⟩
  left
  refine X0 ?_
  left
  refine⟨_,_,_,(QR c o1 W Φ ys Tu),qu hT,⟨W,rfl,hT,P.start _ x1,P.doc.ext x1,.refl,λb hb=>.inl hb,.nul⟩,λi m o J q hq=>?_,λi v m o hi hPv J=>?_,λm o J=>?_⟩
  ·refine memS hq ?_;exact J.choose_spec.2.1
  ·obtain⟨Wi,hm,hTu,IV⟩:=J
   obtain⟨p,Y,hp,rfl,RD⟩:=IV.ready RN hPv
   have cl:=Z5 (c:=c) (qa p.2)
   obtain⟨dx,Pp,tt,hI,hPp⟩:=RD.inst.at
   refine Zv kf rfl ?_
   left
   refine Zo (f:=596) hI.inst cl.ga cl.gt cl.ap (by symm) rfl ?_
   left
   refine Qf (QfU (N:=N+8) T RD λo' y A=>?_)
   left
   have hTW:Tu∉Wi.addrs:=λhm=>by
    rcases IV.new Tu hm with h|h
    ·obtain⟨o0,h0⟩:=P.doc.ok.there Tu h
     cases nTu,h0
    ·cases hT,h
   exact⟨_,Zf ..,A.upd.keep _ _ (by simpa using hTW) hTu,IV.next RN hp A⟩
  ·obtain⟨Wi,hm,hTu,IV⟩:=J
   rw[hyl] at IV
   refine ZV ?_
   left
   refine hK o Wi IV.phi IV.doc (u0 _ [] IV.upd λb hb=>(nomatch hb)) λb hb=>(IV.new b hb).imp id λh=>x1.none h
 |true =>
  left
  refine Qf (Qct (N:=N+429) (tp:=true) (xs:=ys) (n:=0) (show _=some (seqO true _ _) from hT) λoi it TI z hof hoS hit hTI hz=>?_)
  left
  have zt:z≠it:=hz.ne (by rw[Qi (hTI.ne' (Qa ..))];exact Qa ..)
  have xd:Ext o1 ((((o1.put it oi).put TI (tup [.ref it])).put z (ZQ TI (.ref 839))).drop [z,it]):=λb o e=>by
   have h1:b≠it:=hit.ne' e
   have h2:b≠TI:=hTI.ne' (QE hit.own e)
   have h3:b≠z:=hz.ne' (QE hTI.own (QE hit.own e))
   rw[Yk (by simp[h1,h3]),Qi h3,Qi h2,Qi h1];exact e
  have hTIz:TI≠z:=hz.ne' (Qa ..)
  have hTIi:TI≠it:=hTI.ne (Qa ..)
  have dTI:((((o1.put it oi).put TI (tup [.ref it])).put z (ZQ TI (.ref 839))).drop [z,it]) TI=some (tup [.ref it]):=by
   rw[Yk (by simp[hTIz,hTIi]),Qi hTIz];exact Qa ..
  refine Qf (QfN (N:=N+428) (QcF (N:=N+427) (tp:=true) (f:=.ref 839) (l:=Tu) (it:=it) (TI:=TI) (xs:=ys) (n:=0) (o:=oi)
   (J:=λi acc o=>Ext ((((o1.put it oi).put TI (tup [.ref it])).put z (ZQ TI (.ref 839))).drop [z,it]) o/\∀v∈acc,v = .bool true) (Qa ..) (by rw[Qi hTIz];exact Qa ..) (by rw[Qi zt.symm,Qi hTIi.symm];exact Qa ..) (show _=some (seqO true _ _) from QE hz.own (QE hTI.own (QE hit.own hT))) hoS zt hz.base hit.base ⟨.refl,λv h=>(nomatch h)⟩ (λi acc o J=>⟨J.1 _ _ dTI,J.1 _ _ (xd _ _ hT)⟩) λi x acc o hx J=>?_) (λi acc v o J=>J.2 v (by simp)) λacc o2 J=>?_)
  ·obtain⟨jx,jb⟩:=J
   obtain⟨p,Y,L,hp,rfl,hL,hop⟩:=ins1 o [] (xd.trans jx) (λb hb=>(nomatch hb)) i x hx
   obtain⟨dx,Pp,tt,hI,_⟩:=(hop o λx_ x_ x_ e=>e).at
   refine Zt (Qf2 (N:=N) (qa p.2) hI.inst ⟨jx,λv hv=>?_⟩) (by omega)
   rcases ma_.mp hv with h|h
   ·exact jb v h
   ·exact ms_.mp h
  ·have x2:=xd.trans J.1
   left
   refine⟨Zg (by symm),?_⟩
   refine Qf (QfZ (N:=N+426) λj dj U O o3 hJ x3 hJn=>?_)
   have x13:=x2.trans x3
   have hJn1:∀b∈[j,dj,U,O],o1 b=none:=λb hb=>x2.none (hJn b hb)
   have hJn0:∀b∈[j,dj,U,O],oh b=none:=λb hb=>x1.none (hJn1 b hb)
   have jW:∀b∈W.addrs,b∉[j,dj,U,O]:=λb hb hm=>by
    obtain⟨o0,h0⟩:=P.doc.ok.there b hb
    cases (hJn0 b hm),h0
   have RN:Run c o3 W rows ys (.ref j) [j,dj,U,O] Φ:=⟨row1 o3 _ (x1.trans x13) hJn0,hyl,P.short,ins1 o3 _ x13 hJn1,jW,(JOk.jr hJ).owned,P.pre,P.step⟩
   left
   refine ZE ?_
   refine Qm (X0 ?_)
   left
   refine⟨_,_,_,(QP c o3 W Φ ys j dj U O Tu),qu (x13 _ _ hT),⟨W,rfl,Zf ..,x13 _ _ hT,P.start _ (x1.trans x13),P.doc.ext (x1.trans x13),.refl,λb hb=>.inl hb,(JOk.jr hJ).mono (by omega)⟩,λi m o J q hq=>?_,λi v m o hi hPv J=>?_,λm o J=>?_⟩
   ·refine memS hq ?_;exact J.choose_spec.2.2.1
   ·obtain⟨Wi,hm,hjm,hTu,IV⟩:=J
    obtain⟨p,Y,hp,rfl,RD⟩:=IV.ready RN hPv
    have cl:=Z5 (c:=c) (qa p.2)
    have fa:=QdT (c:=c) p.2
    obtain⟨dx,Pp,tt,hI,hPp⟩:=RD.inst.at
    refine Zv kf rfl ?_
    left
    refine Zo (f:=p.2.fn) hI.inst cl.ga cl.gt fa.1 fa.2.1 rfl ?_
    left
    refine⟨QdB p.2,Qf (Qcw (N:=N+9) T RD λo' y A=>?_)⟩
    left
    have hTW:Tu∉Wi.addrs++[j,dj,U,O]:=λhm=>by
     rcases ma_.mp hm with hm|hm
     ·rcases IV.new Tu hm with h|h
      ·obtain⟨o0,h0⟩:=P.doc.ok.there Tu h
       cases nTu,h0
      ·cases (x13 _ _ hT),h
     ·have:=hJn1 Tu hm
      cases hT,this
    exact⟨_,Zf ..,by nofun,A.upd.keep _ _ hTW hTu,IV.next RN hp A⟩
   ·obtain⟨Wi,hm,hjm,hTu,IV⟩:=J
    rw[hyl] at IV
    refine ZV ?_
    left
    refine hK o Wi IV.phi IV.doc (Upd.trans ((x1.trans x13).upd (S:=W.addrs)) IV.upd λb hb=>(ma_.mp hb).imp id (hJn0 b)) λb hb=>(IV.new b hb).imp id λh=>(x1.trans x13).none h
end
theorem Ext.lives {oh oo:Own}(h:Ext oh oo):∀b,(oh b).isSome=true->(oo b).isSome=true:=(h.upd (S:=[])).live
noncomputable def ZJ (op:Op) (x:J) (ev:List Ad):List Ad:=if op.makes then x.addrs++ev else ev
inductive Fut:J->List Ad->List Op->J->List Ad->Prop
 |nil {P ev:_}:Fut P ev [] P ev
 |cons {P ev op x ops Q evQ:_}:Pre op P->XH op P x->x.addrs.Nodup->(op.makes=true->∀a∈x.addrs,a∉ev)->Fut (ZR op x P) (ZJ op x ev) ops Q evQ->Fut P ev (op::ops) Q evQ
theorem Fut.snoc {P:J}{ev:List Ad}{ops:List Op}{Q:J}{evQ:List Ad}(h:Fut P ev ops Q evQ) {op:Op}{x:J}(h1:Pre op Q) (h2:XH op Q x) (h3:x.addrs.Nodup) (h4:op.makes=true->∀a∈x.addrs,a∉evQ):Fut P ev (ops++[op]) (ZR op x Q) (ZJ op x evQ):=by
 induction h with
 |nil=>exact .cons h1 h2 h3 h4 .nil
 |cons a b c d _ ih=>exact .cons a b c d (ih h1 h2 h4)
structure Phi (ops:List Op) (Pn:J) (evn:List Ad) (R0:Ad->Ad->Prop) (jy:List Ad) (s:Nat) (i:Nat) (o:Own) (V:J):Prop where
 is:∃Pi evi R,Fut Pi evi (ops.drop i) Pn evn/\Qr R Pi V/\Bij R (·∈evi) (λb=>(o b).isSome=true)/\(∀a b,R0 a b->R a b)/\(∀a b,R a b->b∉jy)
 size:V.size+4<=(s+4)*2 ^ i
 jy:∀b∈jy,(o b).isSome=true
theorem Phi.mono {ops:List Op}{Pn:J}{evn:List Ad}{R0:Ad->Ad->Prop}{jy:List Ad}{s i:Nat}{o o':Own}{V:J}(h:Phi ops Pn evn R0 jy s i o V) (hx:∀b,(o b).isSome=true->(o' b).isSome=true):Phi ops Pn evn R0 jy s i o' V:=by
 obtain⟨Pi,evi,R,h1,h2,h3,h4,h5⟩:=h.is
 exact⟨⟨Pi,evi,R,h1,h2,⟨h3.fn,h3.inj,h3.dom,λq=>hx _ (h3.ran q)⟩,h4,h5⟩,h.size,λb hb=>hx b (h.jy b hb)⟩
theorem Qmk {h:Qe}{k:Qh}{X x z:J}(hz:look (h++[k]) X=some z):look (h++[k]) (Qg (Zh · k x) h X)=some x:=by
 obtain⟨a,d,oj,hl,hg⟩:=ZM hz
 exact qL (qM hl) (by rw[X6 hg,if_pos rfl])
theorem Qnf {op:Op}{W y:J}(hp:Pre op W) (hb:XH op W y) (hm:op.makes=true) {b:Ad}(h:b∈y.addrs):b∈(ZG op y W).addrs:=by
 induction op with
 |add h' k e V =>
  obtain⟨a,d,oj,hl,hi⟩:ZC h' k e W:=hp
  exact Zb (QbT (x:=y) hl hi) b h
 |remove h' k=>have:y = .atom .none:=hb;subst this;cases h
 |replace0 V=>exact h
 |replace h' k V =>
  obtain⟨z,hz⟩:∃z,look (h'++[k]) W=some z:=hp
  exact Zb (Qmk (x:=y) hz) b h
 |move fh fk h' k e=>cases hm
 |copy f h' k e =>
  obtain⟨_,a,d,oj,hl,hi⟩:_/\ZC h' k e W:=hp
  exact Zb (QbT (x:=y) hl hi) b h
 |test p V=>have:y = .atom .none:=hb;subst this;cases h
theorem QdK {α:Type}{l:List α}{a:α}(h:l[i]?=some a):l.drop i=a::l.drop (i+1):=by
 have hi:i < l.length:=(ge_.mp h).1
 rw[List.drop_eq_getElem_cons hi,(ge_.mp h).2]
theorem Phi.pre {ops:List Op}{Pn:J}{evn:List Ad}{R0:Ad->Ad->Prop}{jy:List Ad}{s i:Nat}{o:Own}{V:J}(h:Phi ops Pn evn R0 jy s i o V) {op:Op}(hi:ops[i]?=some op):Pre op V:=by
 obtain⟨Pi,evi,R,h1,h2,_⟩:=h.is
 rw[QdK hi] at h1
 cases h1 with
 |cons a b c d e=>exact a.same h2
theorem Phi.step {ops:List Op}{Pn:J}{evn:List Ad}{R0:Ad->Ad->Prop}{jy:List Ad}{s i:Nat}{o o':Own}{V:J}(h:Phi ops Pn evn R0 jy s i o V) {op:Op}(hi:ops[i]?=some op) {y:J}{jv:Vl}{JS:List Ad}{B:Nat}(A:Z2 c o o' V op y jv JS B) :
  Phi ops Pn evn R0 jy s (i+1) o' (ZG op y V):=by
 have hpre:=h.pre hi
 obtain⟨Pi,evi,R,h1,h2,h3,h4,h5⟩:=h.is
 rw[QdK hi] at h1
 cases h1 with
 |@cons _ _ _ x _ _ _ a b d e f =>
 obtain⟨R',r1,r2,r3,r4⟩:=h2.step h3 a b A.br d A.nd e (λhm q hq hs=>by cases (A.fresh hm q hq),hs)
 refine⟨⟨_,_,R',f,r4,⟨r3.fn,r3.inj,λq=>?_,λq=>?_⟩,λq q' hq=>r1 _ _ (h4 _ _ hq),λp q hq hm=>?_⟩,?_,λq hq=>A.upd.live q (h.jy q hq)⟩
 ·show _∈ZJ op x evi
  unfold ZJ
  rcases r3.dom q with h|⟨hm,h⟩
  ·split
   ·exact mr_ _ h
   ·exact h
  ·rw[if_pos hm];exact ml_ _ h
 ·rcases r3.ran q with h|⟨hm,h⟩
  ·exact A.upd.live _ h
  ·obtain⟨ob,hob⟩:=A.doc.ok.there _ (Qnf hpre A.br hm h)
   rw[hob];rfl
 ·rcases r2 p q hq with h6|⟨hm,_,h6⟩
  ·exact h5 p q h6 hm
  ·have:=h.jy q (by assumption)
   cases (A.fresh hm q h6),this
 ·have:=h.size
  have:=A.size
  rw[Nat.pow_succ,<- Nat.mul_assoc]
  omega
theorem QeX {V P0:J}{rows:List (Ad × Op)}{Pn:J}{ev0 evn:List Ad}{R0:Ad->Ad->Prop}{jy:List Ad}{s:Nat}(hr:∀p∈rows,Zr c oh p.1 p.2/\p.2.good/\p.1∉V.addrs/\∀U,p.2.val=some U->∀b∈U.addrs,b∉V.addrs) (hl:rows.length<=5) (D:Doc c oh V)
  (hf:Fut P0 ev0 (rows.map (·.2)) Pn evn) (hs:Qr R0 P0 V) (hB:Bij R0 (·∈ev0) (λb=>(oh b).isSome=true)) (hj:∀a b,R0 a b->b∉jy) (hjy:∀b∈jy,(oh b).isSome=true) (hz:V.size<=s) (hsz:(s+4)*2 ^ rows.length<=404):QcL c oh V rows (Phi (rows.map (·.2)) Pn evn R0 jy s):=by
 refine⟨hr,by omega,D,λob hx=>Phi.mono (o:=oh) ⟨⟨P0,ev0,R0,hf,hs,hB,λx_ x_ h=>h,hj⟩,by rw[Nat.pow_zero];omega,hjy⟩ (hx:Ext _ _).lives,λi o o' Wi h hx=>h.mono (hx:Ext _ _).lives,λi o Wi p hp h=>⟨h.pre (by rw[gm_,hp];rfl),?_⟩,λi o o' Wi p y jv JS B hp h A=>h.step (by rw[gm_,hp];rfl) A⟩
 have h1:=h.size
 have hi:i < rows.length:=(ge_.mp hp).1
 have h2:2 ^ i<=2 ^ rows.length:=Nat.pow_le_pow_right (by decide) (by omega)
 have h3:=Nat.mul_le_mul_left (s+4) h2
 omega
noncomputable def YX:Bool->Qh->Prop
 |true,.name _=>True
 |false,.idx _=>True
 |_,_=>False
theorem Qaz {s:Qh}{x:J}(h:Qw d oj s=some x):YX d s:=by
 induction d<;>induction s<;>first|trivial|cases h
theorem Qll {s:Qh}{e:Bool}(h:Ins d oj s e):YX d s:=by
 induction d<;>induction s<;>first|trivial|exact h.elim
set_option tactic.hygienic true in
theorem Qb3 {s s':Qh}(h:YX d s) (h':YX d s') (g:Z4 s) (g':Z4 s') (e:Qq s=Qq s'):s=s':=by
 induction d<;>induction s<;>induction s'<;>first|exact h.elim|exact h'.elim|skip
 ·rename_i i j
  exact congrArg Qh.idx (QlJ i g j g' e)
 ·exact congrArg Qh.name e
set_option tactic.hygienic true in
theorem Qmg {s s':Qh}{e:Bool}(h:Ins d oj s e) (h':YX d s') (g:Z4 s) (g':Z4 s') (q:YF s e=Qq s'):s=s':=by
 induction e with
 |false=>exact Qb3 (Qll h) h' g g' q
 |true =>
  exfalso
  induction d<;>induction s<;>induction s'<;>first|exact h.elim|exact h'.elim|skip
  ·rename_i i j
   exact Qd6 j g' q.symm
  ·cases h
theorem QeY {f:List (Str × J)->List (Str × J)}{fk k:Qh}{e:Bool}:∀ {fh:Qe}{P:J}{h:Qe}{a:Ad}{d:Bool}{oj:LJ},look fh P=some (.node a d oj)->YX d fk->ZC h k e (Qg f fh P)->(∀s∈h++[k],Z4 s)->(∀s∈fh++[fk],Z4 s) ->
  (QY h k e).take (fh.length+1)=(fh++[fk]).map Qq->(h++[k]).take (fh.length+1)=fh++[fk]
 | [],P,h,a,d,oj,hl,hf,⟨b,d',kv',hl',hi⟩,g1,g2,hp=>by
  cases hl
  induction h with
  |nil =>
   have hl2:some (J.node a d (f oj))=some (J.node b d' kv'):=hl'
   cases hl2
   have hq:YF k e=Qq fk:=by simpa [QY,YF] using hp
   have:=Qmg hi hf (g1 k (by simp)) (g2 fk (by simp)) hq
   subst this;rfl
  |cons s h =>
   have hl2:(Qw d (f oj) s).bind (look h)=some (.node b d' kv'):=hl'
   obtain⟨y,hy,_⟩:=bs_.mp hl2
   have hq:Qq s=Qq fk:=by simpa [QY] using hp
   have:=Qb3 (Qaz hy) hf (g1 s (by simp)) (g2 fk (by simp)) hq
   subst this;rfl
 |s0::fh,.atom v,h,a,d,oj,hl,hf,hi,g1,g2,hp=>by cases hl
 |s0::fh,.node a0 d0 kvs0,h,a,d,oj,hl,hf,⟨b,d',kv',hl',hi⟩,g1,g2,hp=>by
  obtain⟨y,hy,hl0⟩:=bs_.mp hl
  rw[Xl hy] at hl'
  induction h with
  |nil =>
   exfalso
   have:=congrArg List.length hp
   simp[QY] at this
  |cons s h =>
   have hl2:(Qw d0 (Zh kvs0 s0 (Qg f fh y)) s).bind (look h)=some (.node b d' kv'):=hl'
   obtain⟨w,hw,hl3⟩:=bs_.mp hl2
   have hp':Qq s::(QY h k e).take (fh.length+1)=Qq s0::(fh++[fk]).map Qq:=hp
   obtain⟨q1,q2⟩:=List.cons.inj hp'
   have:=Qb3 (Qaz hw) (Qaz hy) (g1 s (by simp)) (g2 s0 (by simp)) q1
   subst this
   rw[X6 hy,if_pos rfl] at hw
   cases hw
   have:=QeY hl0 hf ⟨b,d',kv',hl3,hi⟩ (λt ht=>g1 t (.tail _ ht)) (λt ht=>g2 t (.tail _ ht)) q2
   show s::(h++[k]).take (fh.length+1)=s::(fh++[fk])
   rw[this]
set_option tactic.hygienic true in
theorem Qfo {p q:Qe}{vs ws:List Vl}(h:Zd p vs) (h':Zd q ws) {j:Nat}{x y:Vl}(hx:vs[j]?=some x) (hy:ws[j]?=some y):KEq x y (decide (p[j]?=q[j]?)):=by
 induction h generalizing q ws j with
 |nil=>simp at hx
 |@cons k v p vs hk h ih =>
  cases h' with
  |nil=>simp at hy
  |@cons k' w q ws hk' h' =>
   induction j with
   |zero =>
    simp only[List.getElem?_cons_zero,Option.some.injEq] at hx hy
    subst hx;subst hy
    simp only[List.getElem?_cons_zero,Option.some.injEq]
    induction hk<;>cases hk'
    ·rename_i a t b u
     have:=KEq.str a t b u
     by_cases e:a=b
     ·simpa [e] using this
     ·rw[show (a==b)=false from beq_eq_false_iff_ne.mpr e] at this
      simpa [e] using this
    ·rename_i a t i u
     have:=KEq.si a t (i:Int) u
     simpa using this
    ·rename_i i t b u
     have:=KEq.is (i:Int) t b u
     simpa using this
    ·rename_i i t i' u
     have:=KEq.int (i:Int) t (i':Int) u
     by_cases e:i=i'
     ·simpa [e] using this
     ·have e2:((i:Int)==(i':Int))=false:=by simp<;>omega
      rw[e2] at this
      simpa [e] using this
   |succ j =>
    simp only[List.getElem?_cons_succ] at hx hy ⊢
    exact ih h' hx hy
theorem Qdt {p q:Qe}:((List.range (min p.length q.length)).all (λj=>decide (p[j]?=q[j]?))&&p.length==q.length)=decide (p=q):=by
 rw[Bool.eq_iff_iff]
 simp only[Bool.and_eq_true,List.all_eq_true,List.mem_range,decide_eq_true_eq,beq_iff_eq]
 refine⟨λ ⟨h,hl⟩=>List.ext_getElem? λj=>?_,λh=>by subst h;exact⟨λj x_=>rfl,rfl⟩⟩
 by_cases hj:j < p.length
 ·exact h j (by omega)
 ·rw[List.getElem?_eq_none (by omega),List.getElem?_eq_none (by omega)]
theorem Ok.clsAt {j:J}(h:Ok c oh j):∀a∈j.addrs,∃o,oh a=some o/\o.cls≠.type "tuple":=by
 induction h with
 |atom h=>intro a ha;cases ha
 |@node a d oj hn hk ih =>
  intro b hb
  rw[J.addrs] at hb
  rcases mc_.mp hb with rfl|hb
  ·obtain⟨o,ho⟩:=hn.there
   refine⟨o,ho,?_⟩
   rw[hn.obj.cls ho]
   induction d<;>decide
  ·obtain⟨p,hp,e⟩:=J.aE hb;exact ih p hp b e
theorem Doc.aF {X:J}(D:Doc c oh X) (h:oh a=some (tup xs)):a∉X.addrs:=λhm=>by
 obtain⟨o,ho,hc⟩:=D.ok.clsAt a hm
 cases h,ho
 exact hc rfl
def Lv (o:Own) (b:Ad):Prop:=(o b).isSome=true
theorem Lv.of {o:Own}{b:Ad}{x:Obj}(h:o b=some x):Lv o b:=by unfold Lv;rw[h];rfl
theorem Lv.not {o:Own}{b:Ad}(h:o b=none):¬ Lv o b:=by unfold Lv;rw[h];simp
theorem Lv.upd {o o':Own}{S:List Ad}{b:Ad}(h:Lv o b) (u:Upd o o' S):Lv o' b:=u.live b h
theorem Doc.live {o:Own}{X:J}(D:Doc c o X):∀b∈X.addrs,Lv o b:=λb hb=>let ⟨x,hx⟩:=D.ok.there b hb;.of hx
structure Zn (c:Cx) (o:Own) (reg:Ad->Nat) (P W H:J) (Rl:Ad) (rl rows:List (Ad × Op)) (jy ev:List Ad) (dp:List (Ad × Obj)):Prop where
 dP:Doc c o P
 dW:Doc c o W
 dH:Doc c o H
 rP:∀b∈P.addrs,reg b=1
 rW:∀b∈W.addrs,reg b=2
 rH:∀b∈H.addrs,reg b=3
 rR:reg Rl=6
 live:∀b,reg b≠0->Lv o b
 hRl:∃n,o Rl=some (lst (rl.map λp=>.ref p.1) n)
 bRl:c.H.get? Rl=none
 row:∀p∈rows,Zr c o p.1 p.2/\p.2.good/\reg p.1=7/\∀U,p.2.val=some U->∀b∈U.addrs,reg b=7
 jl:∀b∈jy,Lv o b
 el:∀b∈ev,Lv o b
 hdp:∀q∈dp,reg q.1=8/\o q.1=some q.2
section
variable {o o':Own}{reg:Ad->Nat}{P W H P' W':J}{Rl:Ad}{rl rows:List (Ad × Op)}{jy ev:List Ad}{S:List Ad}{dp:List (Ad × Obj)}
theorem Zn.keep (h:Zn c o reg P W H Rl rl rows jy ev dp) (u:Upd o o' S) (hS:∀b∈S,reg b=0\/reg b=4\/reg b=5):Zn c o' reg P W H Rl rl rows jy ev dp:=by
 have ne:∀b n,reg b=n->n≠0->n≠4->n≠5->b∉S:=λb n e h0 h4 h5 hm=>by
  rcases hS b hm with h|h|h<;>rw[e] at h
  ·exact h0 h
  ·exact h4 h
  ·exact h5 h
 obtain⟨n,hn⟩:=h.hRl
 exact⟨u.doc h.dP λb hb=>ne b 1 (h.rP b hb) (by decide) (by decide) (by decide),u.doc h.dW λb hb=>ne b 2 (h.rW b hb) (by decide) (by decide) (by decide),u.doc h.dH λb hb=>ne b 3 (h.rH b hb) (by decide) (by decide) (by decide),
  h.rP,h.rW,h.rH,h.rR,λb hb=>(h.live b hb).upd u,⟨n,u.keep _ _ (ne Rl 6 h.rR (by decide) (by decide) (by decide)) hn⟩,h.bRl,
  λp hp=>let ⟨r1,r2,r3,r4⟩:=h.row p hp;⟨r1.keep u (ne _ 7 r3 (by decide) (by decide) (by decide)) λV e b hb=>ne b 7 (r4 V e b hb) (by decide) (by decide) (by decide),r2,r3,r4⟩,
  λb hb=>(h.jl b hb).upd u,λb hb=>(h.el b hb).upd u,λq hq=>⟨(h.hdp q hq).1,u.keep _ _ (ne _ 8 (h.hdp q hq).1 (by decide) (by decide) (by decide)) (h.hdp q hq).2⟩⟩
theorem Zn.ext (h:Zn c o reg P W H Rl rl rows jy ev dp) (x:Ext o o'):Zn c o' reg P W H Rl rl rows jy ev dp:=h.keep (S:=[]) x.upd λb hb=>nomatch hb
noncomputable def wth (reg:Ad->Nat) (L:List Ad) (n:Nat):Ad->Nat:=λb=>if b∈L then n else reg b
theorem XG {L:List Ad}{b:Ad}(h:b∈L):wth reg L n b=n:=if_pos h
theorem Q7 {L:List Ad}{b:Ad}(h:b∉L):wth reg L n b=reg b:=if_neg h
theorem Zn.deed (h:Zn c o reg P W H Rl rl rows jy ev dp) (u:Upd o o' P.addrs) (D:Doc c o' P') (hn:∀b∈P'.addrs,b∈P.addrs\/o b=none) {F:List Ad}(hF:∀b∈F,o b=none/\b∉P'.addrs/\Lv o' b) {ev':List Ad}(he:∀b∈ev',b∈ev\/Lv o' b) :
  ∃bb,Zn c o' bb P' W H Rl rl rows jy ev' dp/\(∀b∈F,bb b=7)/\∀b,Lv o b->bb b=reg b:=by
 have agree:∀b,Lv o b->wth (wth reg P'.addrs 1) F 7 b=reg b:=λb hb=>by
  rw[Q7 λhm=>(Lv.not (hF b hm).1) hb]
  by_cases hm:b∈P'.addrs
  ·rw[XG hm]
   rcases hn b hm with h1|h1
   ·exact(h.rP b h1).symm
   ·exact absurd hb (Lv.not h1)
  ·exact Q7 hm
 have lv:∀b n,reg b=n->n≠0->Lv o b:=λb n e hn=>h.live b (by rw[e];exact hn)
 have ne:∀b n,reg b=n->n≠1->b∉P.addrs:=λb n e hn hm=>hn (e.symm.trans (h.rP b hm))
 have ag:∀b n,reg b=n->n≠0->wth (wth reg P'.addrs 1) F 7 b=n:=λb n e hn=>(agree b (lv b n e hn)).trans e
 obtain⟨n,hn'⟩:=h.hRl
 refine⟨wth (wth reg P'.addrs 1) F 7,⟨D,u.doc h.dW λb hb=>ne b 2 (h.rW b hb) (by decide),u.doc h.dH λb hb=>ne b 3 (h.rH b hb) (by decide),λb hb=>?_,λb hb=>ag b 2 (h.rW b hb) (by decide),λb hb=>ag b 3 (h.rH b hb) (by decide),ag _ 6 h.rR (by decide),λb hb=>?_,
  ⟨n,u.keep _ _ (ne Rl 6 h.rR (by decide)) hn'⟩,h.bRl,λp hp=>?_,λb hb=>(h.jl b hb).upd u,λb hb=>?_,λq hq=>⟨ag _ 8 (h.hdp q hq).1 (by decide),u.keep _ _ (ne _ 8 (h.hdp q hq).1 (by decide)) (h.hdp q hq).2⟩⟩,λb hb=>XG hb,agree⟩
 ·rw[Q7 λhm=>(hF b hm).2.1 hb];exact XG hb
 ·by_cases hm:b∈F
  ·exact(hF b hm).2.2
  ·rw[Q7 hm] at hb
   by_cases hm':b∈P'.addrs
   ·exact D.live b hm'
   ·rw[Q7 hm'] at hb;exact(h.live b hb).upd u
 ·obtain⟨r1,r2,r3,r4⟩:=h.row p hp
  exact⟨r1.keep u (ne _ 7 r3 (by decide)) λV e b hb=>ne b 7 (r4 V e b hb) (by decide),r2,ag _ 7 r3 (by decide),λU e b hb=>ag b 7 (r4 U e b hb) (by decide)⟩
 ·rcases he b hb with h1|h1
  ·exact(h.el b h1).upd u
  ·exact h1
theorem Zn.addRow (h:Zn c o reg P W H Rl rl rows jy ev dp) {r:Ad}{op:Op}(R:Zr c o r op) (hg:op.good) (hr:reg r=7) (hV:∀U,op.val=some U->∀b∈U.addrs,reg b=7):Zn c o reg P W H Rl rl (rows++[(r,op)]) jy ev dp :=
 ⟨h.dP,h.dW,h.dH,h.rP,h.rW,h.rH,h.rR,h.live,h.hRl,h.bRl,λp hp=>by
  rcases ma_.mp hp with hp|hp
  ·exact h.row p hp
  ·refine memS hp ?_;exact⟨R,hg,hr,hV⟩,h.jl,h.el,h.hdp⟩
theorem Zn.putRow (h:Zn c o reg P W H Rl rl rows jy ev dp) {r:Ad}{op:Op}:Zn c (o.put Rl (lst ((rl.map λp=>Value.ref p.1)++[.ref r]) n)) reg P W H Rl (rl++[(r,op)]) rows jy ev dp:=by
 obtain⟨n0,h0⟩:=h.hRl
 have u:Upd o (o.put Rl (lst ((rl.map λp=>Value.ref p.1)++[.ref r]) n)) [Rl]:=Upd.put .refl (.inl (by simp)) λo0 e=>by cases h0,e;rfl
 have ne:∀b n,reg b=n->n≠6->b∉[Rl]:=λb n e hn hm=>by
  rw[ms_.mp hm,h.rR] at e;exact hn e.symm
 exact⟨u.doc h.dP λb hb=>ne b 1 (h.rP b hb) (by decide),u.doc h.dW λb hb=>ne b 2 (h.rW b hb) (by decide),u.doc h.dH λb hb=>ne b 3 (h.rH b hb) (by decide),h.rP,h.rW,h.rH,h.rR,λb hb=>(h.live b hb).upd u,
  ⟨n,by rw[Qa,List.map_append];rfl⟩,h.bRl,λp hp=>let ⟨r1,r2,r3,r4⟩:=h.row p hp;⟨r1.keep u (ne _ 7 r3 (by decide)) λV e b hb=>ne b 7 (r4 V e b hb) (by decide),r2,r3,r4⟩,λb hb=>(h.jl b hb).upd u,λb hb=>(h.el b hb).upd u,λq hq=>⟨(h.hdp q hq).1,u.keep _ _ (ne _ 8 (h.hdp q hq).1 (by decide)) (h.hdp q hq).2⟩⟩
theorem Zn.setW (h:Zn c o reg P W H Rl rl rows jy ev dp) (u:Upd o o' W.addrs) (D:Doc c o' W') (hn:∀b∈W'.addrs,b∈W.addrs\/o b=none) :
  ∃bb,Zn c o' bb P W' H Rl rl rows jy ev dp/\∀b,Lv o b->bb b=reg b:=by
 have agree:∀b,Lv o b->wth reg W'.addrs 2 b=reg b:=λb hb=>by
  by_cases hm:b∈W'.addrs
  ·rw[XG hm]
   rcases hn b hm with h1|h1
   ·exact(h.rW b h1).symm
   ·exact absurd hb (Lv.not h1)
  ·exact Q7 hm
 have lv:∀b n,reg b=n->n≠0->Lv o b:=λb n e hn=>h.live b (by rw[e];exact hn)
 have ne:∀b n,reg b=n->n≠2->b∉W.addrs:=λb n e hn hm=>hn (e.symm.trans (h.rW b hm))
 have ag:∀b n,reg b=n->n≠0->wth reg W'.addrs 2 b=n:=λb n e hn=>(agree b (lv b n e hn)).trans e
 obtain⟨n,hn'⟩:=h.hRl
 refine⟨wth reg W'.addrs 2,⟨u.doc h.dP λb hb=>ne b 1 (h.rP b hb) (by decide),D,u.doc h.dH λb hb=>ne b 3 (h.rH b hb) (by decide),λb hb=>ag b 1 (h.rP b hb) (by decide),λb hb=>XG hb,λb hb=>ag b 3 (h.rH b hb) (by decide),ag _ 6 h.rR (by decide),λb hb=>?_,
  ⟨n,u.keep _ _ (ne Rl 6 h.rR (by decide)) hn'⟩,h.bRl,λp hp=>?_,λb hb=>(h.jl b hb).upd u,λb hb=>(h.el b hb).upd u,λq hq=>⟨ag _ 8 (h.hdp q hq).1 (by decide),u.keep _ _ (ne _ 8 (h.hdp q hq).1 (by decide)) (h.hdp q hq).2⟩⟩,agree⟩
 ·by_cases hm':b∈W'.addrs
  ·exact D.live b hm'
  ·rw[Q7 hm'] at hb;exact(h.live b hb).upd u
 ·obtain⟨r1,r2,r3,r4⟩:=h.row p hp
  exact⟨r1.keep u (ne _ 7 r3 (by decide)) λV e b hb=>ne b 7 (r4 V e b hb) (by decide),r2,ag _ 7 r3 (by decide),λU e b hb=>ag b 7 (r4 U e b hb) (by decide)⟩
end
def QJ (R:Ad->Ad->Prop) (Es jy:List Ad):Ad->Ad->Prop:=λa b=>R a b\/(a∈Es/\b∈jy)
theorem Pairs.mono {o:Own}{L:Ad}{Q Q':Ad->Ad->Prop}{B B':Nat}(h:Pairs c o L Q B) (hq:∀a b,Q a b->Q' a b) (hB:B<=B'):Pairs c o L Q' B':=by
 obtain⟨rs,n,h1,h2,h3⟩:=h.is
 refine⟨h.base,rs,n,h1,Nat.le_trans h2 hB,λt ht=>?_⟩
 obtain⟨r,x,y,ox,oy,q1,q2,q3,q4⟩:=h3 t ht
 exact⟨r,x,y,ox,oy,q1,q2,hq _ _ q3,q4⟩
theorem Pairs.upd {o o':Own}{L:Ad}{Q:Ad->Ad->Prop}{B:Nat}{S:List Ad}(h:Pairs c o L Q B) (u:Upd o o' S) (hL:L∉S) (hS:∀b xs,o b=some (tup xs)->b∉S):Pairs c o' L Q B:=by
 obtain⟨rs,n,h1,h2,h3⟩:=h.is
 refine⟨h.base,rs,n,u.keep _ _ hL h1,h2,λt ht=>?_⟩
 obtain⟨r,x,y,ox,oy,q1,q2,q3,q4,q5,q6,q7⟩:=h3 t ht
 obtain⟨ox',e1,e2⟩:=u.cls x ox q4
 obtain⟨oy',e3,e4⟩:=u.cls y oy q5
 exact⟨r,x,y,ox',oy',q1,u.keep _ _ (hS r _ q2) q2,q3,e1,e3,by rw[e2];exact q6,by rw[e4];exact q7⟩
theorem Pairs.ext {o o':Own}{L:Ad}{Q:Ad->Ad->Prop}{B:Nat}(h:Pairs c o L Q B) (x:Ext o o'):Pairs c o' L Q B:=h.upd (S:=[]) x.upd (by simp) λx_ x_ x_=>by simp
theorem Pairs.lst {o:Own}{L:Ad}{Q:Ad->Ad->Prop}{B:Nat}(h:Pairs c o L Q B):∃xs n,o L=some (Tactic.lst xs n):=by obtain⟨rs,n,h1,_⟩:=h.is;exact⟨rs,n,h1⟩
theorem Pairs.app {o:Own}{L:Ad}{Q:Ad->Ad->Prop}{B n':Nat}{rs:List Vl}(h:Pairs c o L Q B) (hL:o L=some (Tactic.lst rs n)) {D x y:Ad}{ox oy:Obj}(hD:o D=some (tup [.ref x,.ref y])) (hq:Q x y) (hx:o x=some ox) (hy:o y=some oy) (cx:ox.cls≠.type "tuple") (cy:oy.cls≠.type "tuple") :
  Pairs c (o.put L (Tactic.lst (rs++[.ref D]) n')) L Q (B+1):=by
 have u:Upd o (o.put L (Tactic.lst (rs++[.ref D]) n')) [L]:=Upd.put .refl (.inl (by simp)) λo0 e=>by cases hL,e;rfl
 have nt:∀b xs,o b=some (tup xs)->b∉[L]:=λb xs e hm=>by
  rw[ms_.mp hm,hL] at e
  exact qd (Option.some.inj e)
 obtain⟨rs',n1,h1,h2,h3⟩:=h.is
 rw[hL] at h1
 have e1:rs'=rs:=(QbW h1).symm
 subst e1
 refine⟨h.base,_,n',Qa ..,by omega,λt ht=>?_⟩
 have go:∀r x y ox oy,t = .ref r->o r=some (tup [.ref x,.ref y])->Q x y->o x=some ox->o y=some oy->ox.cls≠.type "tuple"->oy.cls≠.type "tuple" ->
   ∃r x y ox oy,t = .ref r/\(o.put L (Tactic.lst (rs'++[.ref D]) n')) r=some (tup [.ref x,.ref y])/\Q x y/\(o.put L (Tactic.lst (rs'++[.ref D]) n')) x=some ox/\(o.put L (Tactic.lst (rs'++[.ref D]) n')) y=some oy/\ox.cls≠.type "tuple"/\oy.cls≠.type "tuple" :=
  λr x y ox oy q1 q2 q3 q4 q5 q6 q7=>by
   obtain⟨ox',e1,e2⟩:=u.cls x ox q4
   obtain⟨oy',e3,e4⟩:=u.cls y oy q5
   exact⟨r,x,y,ox',oy',q1,u.keep _ _ (nt r _ q2) q2,q3,e1,e3,by rw[e2];exact q6,by rw[e4];exact q7⟩
 rcases ma_.mp ht with ht|ht
 ·obtain⟨r,x,y,ox,oy,q1,q2,q3,q4,q5,q6,q7⟩:=h3 t ht
  exact go r x y ox oy q1 q2 q3 q4 q5 q6 q7
 ·exact go D x y ox oy (ms_.mp ht) hD hq hx hy cx cy
theorem fnQ {R:Ad->Ad->Prop}{D E:Ad->Prop}{Es jy:List Ad}(B:Bij R D E) (h1:∀a∈Es,¬ D a) (h2:∀a b,R a b->b∉jy):Fn R (QJ R Es jy) :=
 ⟨λh h'=>h'.elim (B.fn h) λz=>absurd (B.dom h) (h1 _ z.1),λh h'=>h'.elim (B.inj h) λz=>absurd z.2 (h2 _ _ h),.inl⟩
structure YY (o:Own) (P W H:J) (ops:List Op) (P0:J) (ev0 ev jy Es:List Ad) (R R0:Ad->Ad->Prop):Prop where
 fut:Fut P0 ev0 ops P ev
 sW:Qr R P W
 bW:Bij R (·∈ev) (Lv o)
 jW:∀a b,R a b->b∉jy
 sH:Qr R0 P0 H
 bH:Bij R0 (·∈ev0) (Lv o)
 jH:∀a b,R0 a b->b∉jy
 zW:W.size+4<=11*2 ^ ops.length
 zH:H.size<=7
 esE:∀a∈Es,a∉ev/\Lv o a
 ev0E:∀a∈ev0,a∈ev
section
variable {o o':Own}{P W H:J}{ops:List Op}{P0:J}{ev0 ev jy Es:List Ad}{R R0:Ad->Ad->Prop}
theorem YY.fut1 {op:Op}{x:J}(h:YY o P W H ops P0 ev0 ev jy Es R R0) (he:∀b∈ev,Lv o b) (h1:Pre op P) (h2:XH op P x) (h3:x.addrs.Nodup) (h4:op.makes=true->∀a∈x.addrs,¬ Lv o a):Fut P ev [op] (ZR op x P) (ZJ op x ev) :=
 .cons h1 h2 h3 (λhm a ha hev=>h4 hm a ha (he a hev)) .nil
set_option tactic.hygienic true in
theorem YY.step {op:Op}{x W':J}{jy' Es':List Ad}{R':Ad->Ad->Prop}(h:YY o P W H ops P0 ev0 ev jy Es R R0) (he:∀b∈ev,Lv o b) (h1:Pre op P) (h2:XH op P x) (h3:x.addrs.Nodup) (h4:op.makes=true->∀a∈x.addrs,¬ Lv o a)
  (jn:∀b∈jy',b∈jy\/¬ Lv o b) (hE:∀a∈Es',a∈Es\/a∉ZJ op x ev) (hl:∀a∈Es',Lv o' a) (hlv:∀b,Lv o b->Lv o' b)
  (s1:Qr R' (ZR op x P) W') (b1:Bij R' (·∈ZJ op x ev) (Lv o')) (j1:∀a b,R' a b->b∉jy') (z:W'.size+4<=11*2 ^ (ops.length+1)):YY o' (ZR op x P) W' H (ops++[op]) P0 ev0 (ZJ op x ev) jy' Es' R' R0:=by
 refine⟨h.fut.snoc h1 h2 h3 λhm a ha hev=>h4 hm a ha (he a hev),s1,b1,j1,h.sH,⟨h.bH.fn,h.bH.inj,h.bH.dom,λq=>hlv _ (h.bH.ran q)⟩,λa b q hb=>?_,by rw[la_];exact z,h.zH,λa ha=>⟨?_,hl a ha⟩,λa ha=>?_⟩
 ·rcases jn b hb with h5|h5
  ·exact h.jH a b q h5
  ·exact h5 (h.bH.ran q)
 ·rcases hE a ha with h5|h5
  ·obtain⟨q1,q2⟩:=h.esE a h5
   unfold ZJ
   split
   ·rename_i hm
    exact λhq=>(ma_.mp hq).elim (λhq=>h4 hm a hq q2) q1
   ·exact q1
  ·exact h5
 ·unfold ZJ
  split
  ·exact mr_ _ (h.ev0E a ha)
  ·exact h.ev0E a ha
theorem Phi.done {ops:List Op}{Pn:J}{evn jy:List Ad}{s n:Nat}{V:J}(h:Phi ops Pn evn R0 jy s n o V) (hn:n=ops.length):∃R,Qr R Pn V/\Bij R (·∈evn) (Lv o)/\(∀a b,R0 a b->R a b)/\(∀a b,R a b->b∉jy)/\V.size+4<=(s+4)*2 ^ ops.length:=by
 subst hn
 obtain⟨Pi,evi,R,h1,h2,h3,h4,h5⟩:=h.is
 rw[List.drop_length] at h1
 cases h1 with
 |nil=>exact⟨R,h2,h3,h4,h5,h.size⟩
end
structure Xn (c:Cx) (o0 o1:Own) (P P':J) (op:Op) (x:J) (r:Ad) (oj:LV):Prop where
 pre:Pre op P
 br:XH op P x
 nd:x.addrs.Nodup
 fx:op.makes=true->∀a∈x.addrs,o0 a=none
 xl:op.makes=true->∀a∈x.addrs,Lv o1 a
 eq:P'=ZR op x P
 doc:Doc c o1 P'
 upd:Upd o0 o1 (r::P.addrs)
 new:∀b∈P'.addrs,b∈P.addrs\/o0 b=none
 node:P'.isNode=true
 good:Q4 P'
 size:P'.size<=P.size+4\/(P.size<=9/\P'.size<=18)
 rowD:Za c o1 r oj
 row:Zr c o1 r op
 og:op.good
 hv:valueAt oj (zz "value")=op.val.map J.val
 rn:r∉P'.addrs
 vn:∀U,op.val=some U->Doc c o1 U/\∀b∈U.addrs,o0 b=none/\b∉P'.addrs
noncomputable def Qlp:Stmt->List Stmt
 |.For _ _ b _ _=>b
 |_=>[]
noncomputable def qK:List Stmt:=Qlp ((Qy (Ql 76)).getD 9 (.Pass default))
noncomputable def YG:Stmt:=qK.getD 7 (.Pass default)
section
theorem QgG {l:Ad}{ns:List Int}{i:Int}(h:oh l=some (lst vs n)) (hi:IntsAre vs ns) (hk:k (.bool (ns.any (·==i))) m oh):W c N ou m oh (compareOp .In (.int i t) (.ref l)) k :=
 Q6 (a:=.bool (ns.any (·==i))) (λA s fr Q hA S P hQ=>in_list_ints (S.sg.lst h) hi (hQ _)) hk
end
theorem Yh {r:Ad}{oj:LV}{n:Str}{k:KU_}(R:Za c oh r oj) (hz:oj.length<=100) (hk:∀o',Za c o' r (stored oj n v)->ExtBut r oh o'->Upd oh o' [r]->k () m o') :
  W c N ou m oh (setItem (.ref r) (.str n t) v) k:=by
 obtain⟨o,h1,h2⟩:=R.o
 refine Y8 h1 h2 R.b (Qd (by omega)) λo' hd'=>hk _ ⟨⟨o',Qa ..,hd'⟩,R.b⟩ .put (Upd.put .refl (.inl (by simp)) λo0 e=>?_)
 cases h1,e
 obtain⟨_,_,e1,_⟩:=h2
 obtain⟨_,_,e2,_⟩:=hd'
 exact e2.1.trans e1.1.symm
structure XV (c:Cx) (oh:Own) (m:Loc) (P:J) (p:Qe) (z:J) (rest far:Int) (Tp r:Ad) (vs:List Vl):Prop where
 dP:Doc c oh P
 gP:Q4 P
 nP:P.isNode=true
 zP:P.size<=50
 plain:m "plain"=some P.val
 mrest:∃t,m "rest"=some (.int rest t)
 mfar:∃t,m "far"=some (.int far t)
 bC:m "path"=some (.ref Tp)
 there:m "there"=some z.val
 row:m "row"=some (.ref r)
 hT:oh Tp=some (tup vs)
 hv:Zd p vs
 hz:look p P=some z
 rP:r∉P.addrs
noncomputable def stay:List Str:=[zz "head",zz "work",zz "whole",zz "pairs",zz "others",zz "rows",zz "row",zz "deed"]
theorem YI {f:List (Str × J)->List (Str × J)}{p:Qe}{X:J}(h:X.isNode=true):(Qg f p X).isNode=true:=by
 cases X with
 |atom v=>cases h
 |node a d oj =>
  obtain⟨af,e⟩:=Qew (f:=f) (p:=p) (a:=a) (d:=d) (oj:=oj)
  rw[e];rfl
theorem Qbe.aR {o:Own}{P:J}{h:Qe}{s:Qh}{e:Bool}(T:Qbe o P v h s e) (g:Q4 P) (hz:P.size<=60):Zu (h++[s]):=by
 obtain⟨a,d,oj,hl,hi⟩:=T.ins
 have hlen:=YH hl
 refine⟨λk hk=>?_,by omega⟩
 rcases ma_.mp hk with hk|hk
 ·exact QaH g (by omega) hl k hk
 ·rw[ms_.mp hk]
  induction s with
  |name n=>exact T.good n rfl
  |idx i =>
   induction d with
   |true=>exact hi.elim
   |false =>
    have h1:=hi.1
    have h2:=J.length_le (oj:=oj)
    have h3:=ZL hl
    rw[J.size] at h3
    show i < 64
    omega
theorem XV.aR {P:J}{p:Qe}{z:J}{rest far:Int}{Tp r:Ad}(B:XV c oh m P p z rest far Tp r vs):Zu p :=
 ⟨QaH B.gP (by have:=B.zP;omega) B.hz,by have:=YH B.hz;have:=B.zP;omega⟩
theorem Upd.sub {o o':Own}{S S':List Ad}(h:Upd o o' S) (hs:∀b∈S,b∈S'):Upd o o' S':=⟨λb ob hb e=>h.keep b ob (λhm=>hb (hs b hm)) e,h.cls⟩
noncomputable abbrev Yq (n:String) (t1:Tok) (p:Qe) (t2:Tok):List (Str × Vl):=[(zz "op",.str (zz n) t1),(zz "path",.str (Qt (p.map Qq)) t2)]
theorem Qb4 {h:Qe}{s:Qh}{e:Bool}:(if e then (h++[s]).dropLast.map Qq++[zz "-"] else (h++[s]).map Qq)=QY h s e:=by
 cases e
 ·simp[QY]
 ·simp[QY]
theorem XM.node {j:J}(h:XM n j):j.isNode=true:=by induction h<;>rfl
theorem Z3.doc {oh oo:Own}{j:J}(h:Z3 oh j) (hk:Ok c oo j):Doc c oo j:=⟨hk,h.nodup⟩
theorem Z3.out {j:J}(h:Z3 oh j) {b:Ad}(hb:Lv oh b):b∉j.addrs:=λhm=>Lv.not (h.new b hm) hb
theorem Za.live {r:Ad}{oj:LV}(R:Za c oh r oj):Lv oh r:=let ⟨o,h,_⟩:=R.o;.of h
theorem Za.keep {oh oo:Own}{r:Ad}{oj:LV}{S:List Ad}(R:Za c oh r oj) (u:Upd oh oo S) (h:r∉S):Za c oo r oj:=let ⟨o,h1,h2⟩:=R.o;⟨⟨o,u.keep _ _ h h1,h2⟩,R.b⟩
theorem Za.aF {r:Ad}{oj:LV}(R:Za c oh r oj) {T:Ad}(h:oh T=some (tup xs)):T≠r:=by
 rintro rfl
 obtain⟨o,h1,h2⟩:=R.o
 cases h,h1
 obtain⟨_,_,e,_⟩:=h2
 exact absurd e.1 (by simp)
theorem QjF {P:J}{p:Qe}{z:J}{rest far:Int}{Tp r:Ad}{t1 t2 td:Tok}{k:KF_}(kf:KF ou ZW.scope) (B:XV c oh m P p z rest far Tp r vs)
  (aq:m "deed"=some (.int 0 td)) (R:Za c oh r (Yq "add" t1 p t2)) (hN:60<=N)
  (hk:∀m' o' P' op x oj,(∀y∈stay,m' y=m y)->m' "plain"=some P'.val->Xn c oh o' P P' op x r oj->k .next m' o'):W c N ou m oh (exec YG ou) k:=by
 obtain⟨tr,m_rest⟩:=B.mrest
 obtain⟨M,rfl⟩:∃M,N=M+1:=⟨N - 1,by omega⟩
 have az:=B.plain
 have aP:=B.row
 have zP:=B.zP
 refine X1 ?_
 right
 refine Xi kf rfl rfl ?_ rfl rfl
 right
 refine Yb (j:=4) (by decide) (by decide) λtx=>?_
 right
 refine Qf (Qa3 B.dP (by omega) (by omega) B.nP λo1 v h st e Tg x1=>?_)
 obtain⟨rt,Tt,ws,rfl,hrt,hTt,hws⟩:=Tg.is
 refine⟨rt,_,_,rfl,hrt,?_⟩
 right
 have gp:=Tg.aR B.gP (by omega)
 refine Qf (Qab hTt hws gp.1 (by have:=gp.2;omega) (λo2 tt x2=>?_) (λx_=>by simp))
 rw[Qb4]
 right
 have x12:=x1.trans x2
 refine Yh (R.ext x12) (by simp) λo3 R3 e3 u3=>?_
 right
 refine Qf (YU λV o4 shV okV x4 fV=>?_)
 right
 refine Yh (R3.ext x4) (by simp[stored]) λo5 R5 e5 u5=>?_
 right
 refine Qf (YU λx o6 shx okx x6 fx=>?_)
 have U3:Upd oh o3 [r]:=Upd.trans x12.upd u3 λb hb=>.inl hb
 have U4:Upd oh o4 [r]:=Upd.trans U3 x4.upd λb hb=>.inl hb
 have U5:Upd oh o5 [r]:=Upd.trans U4 u5 λb hb=>.inl hb
 have U6:Upd oh o6 [r]:=Upd.trans U5 x6.upd λb hb=>.inl hb
 have rl:=R.live
 have rP1:∀b∈P.addrs,b∉[r]:=λb hb hm=>B.rP (ms_.mp hm▸hb)
 have D6:=U6.doc B.dP rP1
 have Tt2:Tt∉[r]:=λhm=>(R.ext x12).aF (x2 _ _ hTt) (ms_.mp hm)
 have hT6:o6 Tt=some (tup ws):=x6 _ _ (u5.keep _ _ Tt2 (x4 _ _ (u3.keep _ _ Tt2 (x2 _ _ hTt))))
 have fxP:∀b∈x.addrs,b∉P.addrs:=λb hb hm=>fx.out (Lv.upd (B.dP.live b hm) U5) hb
 have Dx:Doc c o6 x:=fx.doc okx
 right
 refine Qf (Qaa D6 (by omega) hT6 hws Tg.ins Dx fxP λo7 D7 u7=>?_)
 right
 have U7:Upd oh o7 (r::P.addrs):=(U6.sub λb hb=>by refine memS hb ?_;exact .head _).trans u7 λb hb=>.inl (.tail _ hb)
 obtain⟨a,d,kv,hl,hi⟩:=Tg.ins
 have fV':∀b∈V.addrs,oh b=none/\b∉P.addrs/\b≠r/\Lv o5 b:=λb hb=>by
  have h3:=fV.new b hb
  refine⟨U3.none h3,λhm=>fV.out (Lv.upd (B.dP.live b hm) U3) hb,?_,Lv.upd ((fV.doc okV).live b hb) u5⟩
  rintro rfl
  exact fV.out R3.live hb
 have new:∀b∈(Qg (Qp · st x) h P).addrs,b∈P.addrs\/b∈x.addrs:=λb hb=>Xe D6 hl (ZF (x:=x)) hb
 have shp:=Ys shx
 have R7:Za c o7 r _:=(R5.ext x6).keep u7 B.rP
 have DV:Doc c o7 V:=u7.doc ((u5.doc (fV.doc okV) λb hb hm=>(fV' b hb).2.2.1 (ms_.mp hm)).ext x6) λb hb=>(fV' b hb).2.1
 refine hk _ o7 (Qg (Qp · st x) h P) (.add h st e V) x _ (λy hy=>?_) ?_ ⟨Tg.ins,Qcd shV shx,fx.nodup,λx_ b hb=>U5.none (fx.new b hb),λx_ b hb=>Lv.upd (Dx.live b hb) u7,rfl,D7,U7,λb hb=>(new b hb).imp id λh=>U5.none (fx.new b h),
  YI B.nP,Yp B.gP hl (qH (B.gP.look hl) hi Tg.good (Qcc shx)),.inl ?_,R7,⟨⟨_,R7,⟨t1,rfl⟩,⟨tt,rfl⟩,λF hF=>(nomatch hF),λV' hV=>by cases hV;rfl⟩,λV' hV=>by cases hV;exact⟨DV.ok,by have:=Ys shV;omega⟩⟩,⟨gp,Ys shV⟩,rfl,λhm=>?_,λV' hV=>?_⟩
 ·walk_at "stay"
 ·rw[Zf];exact congrArg some ZZ.symm
 ·have:=XT (f:=(Qp · st x)) hl (ZF (x:=x));omega
 ·rcases new r hm with h1|h1
  ·exact B.rP h1
  ·exact fx.out (Lv.upd rl U5) h1
 ·cases hV
  refine⟨DV,λb hb=>⟨(fV' b hb).1,λhm=>?_⟩⟩
  rcases new b hm with h1|h1
  ·exact(fV' b hb).2.1 h1
  ·exact fx.out (fV' b hb).2.2.2 h1
theorem Qce {α:Type}{l:List α}(h:l≠[]):∃q a,l=q++[a]:=⟨l.dropLast,l.getLast h,(List.dropLast_concat_getLast h).symm⟩
theorem QbG {h:Qe}{s:Qh}{P z:J}(hz:look (h++[s]) P=some z):(Qg (Qo · s) h P).size+z.size<=P.size:=by
 obtain⟨a,d,oj,hl,hg⟩:=ZM hz
 obtain⟨l,n,r,hat⟩:=XR hg
 have h1:=QbZ (f:=(Qo · s)) hl
 have h2:=qS hat.del
 have h3:J.ab oj=J.ab (l++r)+z.size:=by
  rw[hat.eq,J.ao,J.ab,J.ao];omega
 omega
theorem QaR {h:Qe}{s:Qh}:QY h s false=(h++[s]).map Qq:=by simp[QY]
section
variable {P:J}{p:Qe}{z:J}{rest far:Int}{Tp r:Ad}{vs:List Vl}{t1 t2 td:Tok}{k:KF_}
theorem QjJ (kf:KF ou ZW.scope) (B:XV c oh m P p z rest far Tp r vs) (hp:p≠[])
  (aq:m "deed"=some (.int 1 td)) (R:Za c oh r (Yq "remove" t1 p t2)) (hN:60<=N)
  (hk:∀m' o' P' op x oj,(∀y∈stay,m' y=m y)->m' "plain"=some P'.val->Xn c oh o' P P' op x r oj->k .next m' o'):W c N ou m oh (exec YG ou) k:=by
 obtain⟨M,rfl⟩:∃M,N=M+1:=⟨N - 1,by omega⟩
 obtain⟨h,s,rfl⟩:=Qce hp
 have az:=B.plain
 have bJ:=B.bC
 have zP:=B.zP
 have hz:=B.hz
 obtain⟨a,d,kv,hl,hg⟩:=ZM hz
 refine X1 ?_
 right
 refine Qf (Qa2 B.dP (by omega) B.hT B.hv hz λo1 D1 ok1 u1=>?_)
 right
 have new:∀b∈(Qg (Qo · s) h P).addrs,b∈P.addrs:=λb hb=>(Xe B.dP hl Xs hb).resolve_right λq=>by cases q
 have R1:=R.keep u1 B.rP
 refine hk _ o1 _ (.remove h s) (.atom .none) _ (λy hy=>rfl) (az.trans (congrArg some ZZ.symm)) ⟨⟨z,hz⟩,rfl,List.nodup_nil,λx_ b hb=>(nomatch hb),λx_ b hb=>(nomatch hb),rfl,D1,u1.sub λb hb=>.tail _ hb,λb hb=>.inl (new b hb),
  YI B.nP,Yp B.gP hl (QaG (B.gP.look hl)),.inl (by have:=QbG hz;omega),R1,⟨⟨_,R1,⟨t1,rfl⟩,⟨t2,?_⟩,λF hF=>(nomatch hF),λV' hV=>(nomatch hV)⟩,λV' hV=>(nomatch hV)⟩,B.aR,rfl,λhm=>B.rP (new r hm),λV' hV=>(nomatch hV)⟩
 show some _=some (Value.str (Qt (QY h s false)) t2)
 rw[QaR]
theorem QjM (kf:KF ou ZW.scope) (B:XV c oh m P p z rest far Tp r vs)
  (aq:m "deed"=some (.int 5 td)) (R:Za c oh r (Yq "test" t1 p t2)) (hN:60<=N)
  (hk:∀m' o' P' op x oj,(∀y∈stay,m' y=m y)->m' "plain"=some P'.val->Xn c oh o' P P' op x r oj->k .next m' o'):W c N ou m oh (exec YG ou) k:=by
 have az:=B.plain
 have bK:=B.there
 have aP:=B.row
 have zP:=B.zP
 have hz:=B.hz
 have hzs:=ZL hz
 refine X1 ?_
 right
 refine Qf (ZT (qY (B.dP.look hz).ok (by omega) (by omega)) λv o1 C=>?_)
 obtain⟨V,rfl,cp,okV,x1,fV⟩:=C
 right
 refine Yh (R.ext x1) (by simp) λo2 R2 e2 u2=>?_
 right
 have U2:Upd oh o2 [r]:=Upd.trans x1.upd u2 λb hb=>.inl hb
 have rP1:∀b∈P.addrs,b∉[r]:=λb hb hm=>B.rP (ms_.mp hm▸hb)
 have rV:r∉V.addrs:=fV.out R.live
 have DV:Doc c o2 V:=u2.doc (fV.doc okV) λb hb hm=>rV (ms_.mp hm▸hb)
 have sm:=cp.sim (B.dP.look hz).ok
 have szV:=cp.size
 refine hk _ o2 P (.test p V) (.atom .none) _ (λy hy=>rfl) az ⟨⟨z,hz,sm⟩,rfl,List.nodup_nil,λx_ b hb=>(nomatch hb),λx_ b hb=>(nomatch hb),rfl,U2.doc B.dP rP1,U2.sub λb hb=>(by refine memS hb ?_;exact .head _),λb hb=>.inl hb,
  B.nP,B.gP,.inl (by omega),R2,⟨⟨_,R2,⟨t1,rfl⟩,⟨t2,rfl⟩,λF hF=>(nomatch hF),λV' hV=>by cases hV;rfl⟩,λV' hV=>by cases hV;exact⟨DV.ok,by omega⟩⟩,B.aR,rfl,B.rP,λV' hV=>?_⟩
 cases hV
 exact⟨DV,λb hb=>⟨fV.new b hb,λhm=>fV.out (B.dP.live b hm) hb⟩⟩
end
theorem Qfh {oj:LV}{n:Str}:(stored oj n v).length<=oj.length+1:=by
 unfold stored
 split
 ·rw[lm_];omega
 ·rw[la_];exact Nat.le_refl _
section
theorem QgQ (h:oh a=some (tup xs)) (hz:xs.length<=sizeLine) (hk:∀t,k (.int xs.length t) m oh):W c N ou m oh (call (.builtin "len") [.ref a]) k :=
 Xh (f:=λt=>.int xs.length t) (λA s fr Q hA S P hQ=>PySem.P.len_tuple (n:=0) (items:=xs.toArray) (S.sg.has _ _ h) (by have:=qV hz;simp<;>omega) (by simpa using hQ _ _)) hk
end
section
variable {P:J}{p:Qe}{z:J}{rest far:Int}{Tp r:Ad}{vs:List Vl}{t1 t2 td:Tok}{k:KF_}
theorem QjH (kf:KF ou ZW.scope) (B:XV c oh m P p z rest far Tp r vs) (h9:P.size<=9)
  (aq:m "deed"=some (.int 4 td)) (R:Za c oh r (Yq "copy" t1 p t2)) (hN:60<=N)
  (hk:∀m' o' P' op x oj,(∀y∈stay,m' y=m y)->m' "plain"=some P'.val->Xn c oh o' P P' op x r oj->k .next m' o'):W c N ou m oh (exec YG ou) k:=by
 obtain⟨tf,bT⟩:=B.mfar
 obtain⟨M,rfl⟩:∃M,N=M+1:=⟨N - 1,by omega⟩
 have az:=B.plain
 have bK:=B.there
 have aP:=B.row
 have hz:=B.hz
 have hzs:=ZL hz
 refine X1 ?_
 right
 refine Xi kf rfl rfl ?_ rfl rfl
 right
 refine Qf (Qa3 B.dP (by omega) (by omega) B.nP λo1 v h st e Tg x1=>?_)
 obtain⟨rt,Tt,ws,rfl,hrt,hTt,hws⟩:=Tg.is
 refine⟨rt,_,_,rfl,hrt,?_⟩
 right
 have R1:=R.ext x1
 obtain⟨ro,hr1,hr2⟩:=R1.o
 refine Zs hr1 hr2 (v:=.str (Qt (p.map Qq)) t2) rfl ?_
 right
 refine Yh R1 (by simp) λo2 R2 e2 u2=>?_
 right
 have Tt1:Tt∉[r]:=λhm=>R1.aF hTt (ms_.mp hm)
 have hTt2:=u2.keep _ _ Tt1 hTt
 have gp:=Tg.aR B.gP (by omega)
 refine Qf (Qab hTt2 hws gp.1 (by have:=gp.2;omega) (λo3 tt x3=>?_) (λx_=>by simp))
 rw[Qb4]
 right
 refine Yh (R2.ext x3) (Nat.le_trans Qfh (by simp)) λo4 R4 e4 u4=>?_
 right
 have U1:Upd oh o1 [r]:=x1.upd
 have U2:Upd oh o2 [r]:=Upd.trans U1 u2 λb hb=>.inl hb
 have U3:Upd oh o3 [r]:=Upd.trans U2 x3.upd λb hb=>.inl hb
 have U4:Upd oh o4 [r]:=Upd.trans U3 u4 λb hb=>.inl hb
 have rl:=R.live
 have rP1:∀b∈P.addrs,b∉[r]:=λb hb hm=>B.rP (ms_.mp hm▸hb)
 have D4:=U4.doc B.dP rP1
 refine Qf (ZT (qY (D4.look hz).ok (by omega) (by omega)) λv o5 C=>?_)
 obtain⟨x,rfl,cp,okx,x5,fx⟩:=C
 have U5:Upd oh o5 [r]:=Upd.trans U4 x5.upd λb hb=>.inl hb
 have D5:=D4.ext x5
 have hT5:o5 Tt=some (tup ws):=x5 _ _ (u4.keep _ _ Tt1 (x3 _ _ hTt2))
 have fxP:∀b∈x.addrs,b∉P.addrs:=λb hb hm=>fx.out (D4.live b hm) hb
 have Dx:Doc c o5 x:=fx.doc okx
 have sm:=cp.sim (D4.look hz).ok
 have szx:=cp.size
 right
 refine Qf (Qaa D5 (by omega) hT5 hws Tg.ins Dx fxP λo6 D6 u6=>?_)
 right
 have U6:Upd oh o6 (r::P.addrs):=(U5.sub λb hb=>by refine memS hb ?_;exact .head _).trans u6 λb hb=>.inl (.tail _ hb)
 obtain⟨a,d,kv,hl,hi⟩:=Tg.ins
 have new:∀b∈(Qg (Qp · st x) h P).addrs,b∈P.addrs\/b∈x.addrs:=λb hb=>Xe D5 hl (ZF (x:=x)) hb
 have R6:=(R4.ext x5).keep u6 B.rP
 refine hk _ o6 (Qg (Qp · st x) h P) (.copy p h st e) x _ (λy hy=>by walk_at "stay") ?_ ⟨⟨⟨z,hz⟩,Tg.ins⟩,⟨z,hz,sm⟩,fx.nodup,λx_ b hb=>U4.none (fx.new b hb),λx_ b hb=>Lv.upd (Dx.live b hb) u6,rfl,D6,U6,λb hb=>(new b hb).imp id λh=>U4.none (fx.new b h),
  YI B.nP,Yp B.gP hl (qH (B.gP.look hl) hi Tg.good (Qlt cp (B.gP.look hz))),.inr ⟨h9,?_⟩,R6,⟨⟨_,R6,⟨t1,rfl⟩,⟨tt,rfl⟩,λF hF=>(by cases hF;exact⟨t2,rfl⟩),λV' hV=>(nomatch hV)⟩,λV' hV=>(nomatch hV)⟩,⟨B.aR,gp⟩,rfl,λhm=>?_,λV' hV=>(nomatch hV)⟩
 ·rw[Zf];exact congrArg some ZZ.symm
 ·have:=XT (f:=(Qp · st x)) hl (ZF (x:=x));omega
 ·rcases new r hm with h1|h1
  ·exact B.rP h1
  ·exact fx.out (Lv.upd rl U4) h1
theorem QjL (kf:KF ou ZW.scope) (B:XV c oh m P [] z rest far Tp r vs)
  (aq:m "deed"=some (.int 2 td)) (R:Za c oh r (Yq "replace" t1 [] t2)) (hN:60<=N)
  (hk:∀m' o' P' op x oj,(∀y∈stay,m' y=m y)->m' "plain"=some P'.val->Xn c oh o' P P' op x r oj->k .next m' o'):W c N ou m oh (exec YG ou) k:=by
 obtain⟨tf,bT⟩:=B.mfar
 obtain⟨M,rfl⟩:∃M,N=M+1:=⟨N - 1,by omega⟩
 have az:=B.plain
 have bJ:=B.bC
 have aP:=B.row
 have hT:=B.hT
 have hvs:vs=[]:=by have:=B.hv;cases this;rfl
 subst hvs
 refine X1 ?_
 right
 refine Qf (YU λV o1 shV okV x1 fV=>?_)
 right
 refine Yh (R.ext x1) (by simp) λo2 R2 e2 u2=>?_
 right
 have Tp1:Tp∉[r]:=λhm=>R.aF hT (ms_.mp hm)
 have hT2:o2 Tp=some (tup []):=u2.keep _ _ Tp1 (x1 _ _ hT)
 refine⟨Qd (by simp),λD0 hD0=>?_⟩
 have x3:=Ext.put (o:=tup []) hD0.own
 refine Qde (e:=λx_=>true) (xs:=[]) (ys:=[]) (x3 _ _ hT2) (Qa ..) (λj x y h=>by simp at h) ?_
 rw[show (!((List.range (min ([]:List Vl).length ([]:List Vl).length)).all (λx_=>true)&&([]:List Vl).length==([]:List Vl).length))=false by simp]
 right
 refine Qf (YU λx o4 shx okx x4 fx=>?_)
 right
 refine Qf (Qf1 (x4 _ _ (x3 _ _ hT2)) λo5 x5=>?_)
 right
 have U2:Upd oh o2 [r]:=Upd.trans x1.upd u2 λb hb=>.inl hb
 have x25:=x3.trans (x4.trans x5)
 have U5:Upd oh o5 [r]:=Upd.trans U2 x25.upd λb hb=>.inl hb
 have U3:Upd oh (o2.put D0 (tup [])) [r]:=Upd.trans U2 x3.upd λb hb=>.inl hb
 have rV:r∉V.addrs:=fV.out R.live
 have DV:Doc c o2 V:=u2.doc (fV.doc okV) λb hb hm=>rV (ms_.mp hm▸hb)
 refine hk _ o5 x (.replace0 V) x _ (λy hy=>by walk_at "stay") ?_ ⟨trivial,Qcd shV shx,fx.nodup,λx_ b hb=>U3.none (fx.new b hb),λx_ b hb=>((fx.doc okx).ext x5).live b hb,rfl,(fx.doc okx).ext x5,U5.sub λb hb=>(by refine memS hb ?_;exact .head _),λb hb=>.inr (U3.none (fx.new b hb)),
  shx.node,Qcc shx,.inl (by have:=Ys shx;omega),R2.ext x25,⟨⟨_,R2.ext x25,⟨t1,rfl⟩,⟨t2,rfl⟩,λF hF=>(nomatch hF),λV' hV=>by cases hV;rfl⟩,λV' hV=>by cases hV;exact⟨(DV.ext x25).ok,by have:=Ys shV;omega⟩⟩,Ys shV,rfl,fx.out (Lv.upd R.live U3),λV' hV=>?_⟩
 any_goals fail "w-look"
 cases hV
 exact⟨DV.ext x25,λb hb=>⟨fV.new b hb,fx.out ((DV.ext x3).live b hb)⟩⟩
theorem QjK (kf:KF ou ZW.scope) (B:XV c oh m P p z rest far Tp r vs) (hp:p≠[])
  (aq:m "deed"=some (.int 2 td)) (R:Za c oh r (Yq "replace" t1 p t2)) (hN:60<=N)
  (hk:∀m' o' P' op x oj,(∀y∈stay,m' y=m y)->m' "plain"=some P'.val->Xn c oh o' P P' op x r oj->k .next m' o'):W c N ou m oh (exec YG ou) k:=by
 obtain⟨tf,bT⟩:=B.mfar
 obtain⟨M,rfl⟩:∃M,N=M+1:=⟨N - 1,by omega⟩
 obtain⟨h,s,rfl⟩:=Qce hp
 have az:=B.plain
 have bJ:=B.bC
 have aP:=B.row
 have hT:=B.hT
 have zP:=B.zP
 have hz:=B.hz
 have gp:=B.aR
 obtain⟨a,d,kv,hl,hg⟩:=ZM hz
 refine X1 ?_
 right
 refine Qf (YU λV o1 shV okV x1 fV=>?_)
 right
 refine Yh (R.ext x1) (by simp) λo2 R2 e2 u2=>?_
 right
 have Tp1:Tp∉[r]:=λhm=>R.aF hT (ms_.mp hm)
 have hT2:o2 Tp=some (tup vs):=u2.keep _ _ Tp1 (x1 _ _ hT)
 refine⟨Qd (by simp),λD0 hD0=>?_⟩
 have x3:=Ext.put (o:=tup []) hD0.own
 have hvl:vs.length=h.length+1:=by have:=B.hv.len;simpa using this
 refine Qde (e:=λx_=>true) (xs:=vs) (ys:=[]) (x3 _ _ hT2) (Qa ..) (λj x y h h'=>by simp at h') ?_
 rw[show (!((List.range (min vs.length ([]:List Vl).length)).all (λx_=>true)&&vs.length==([]:List Vl).length))=true by simp[hvl]]
 right
 have U2:Upd oh o2 [r]:=Upd.trans x1.upd u2 λb hb=>.inl hb
 have U3:Upd oh (o2.put D0 (tup [])) [r]:=Upd.trans U2 x3.upd λb hb=>.inl hb
 have rP1:∀b∈P.addrs,b∉[r]:=λb hb hm=>B.rP (ms_.mp hm▸hb)
 have D3:=U3.doc B.dP rP1
 refine Qf (Qa2 D3 (by omega) (x3 _ _ hT2) B.hv hz λo4 D4 ok4 u4=>?_)
 right
 refine Qf (YU λx o5 shx okx x5 fx=>?_)
 have nP1:∀b∈(Qg (Qo · s) h P).addrs,b∈P.addrs:=λb hb=>(Xe B.dP hl Xs hb).resolve_right λq=>by cases q
 have hl1:look h (Qg (Qo · s) h P)=some (.node a d (Qo kv s)):=qM hl
 have hi1:Ins d (Qo kv s) s false:=Ins.bM hg
 have dz:=QbG hz
 have U4:Upd oh o4 (r::P.addrs):=(U3.sub λb hb=>by refine memS hb ?_;exact .head _).trans u4 λb hb=>.inl (.tail _ hb)
 have fxP:∀b∈x.addrs,b∉(Qg (Qo · s) h P).addrs:=λb hb hm=>fx.out (D4.live b hm) hb
 have hT4:o4 Tp=some (tup vs):=u4.keep _ _ (B.dP.aF hT) (x3 _ _ hT2)
 have Dx:Doc c o5 x:=fx.doc okx
 right
 rw[show P.val=(Qg (Qo · s) h P).val from ZZ.symm]
 refine Qf (Qaa (D4.ext x5) (by omega) (x5 _ _ hT4) B.hv ⟨a,d,_,hl1,hi1⟩ Dx fxP λo6 D6 u6=>?_)
 right
 have u6':=u6.sub (S':=P.addrs) nP1
 have U6:Upd oh o6 (r::P.addrs):=(Upd.trans U4 x5.upd λb hb=>.inl hb:Upd oh o5 (r::P.addrs)).trans u6' λb hb=>.inl (.tail _ hb)
 have new:∀b∈(Qg (Qp · s x) h (Qg (Qo · s) h P)).addrs,b∈P.addrs\/b∈x.addrs:=λb hb=>(Xe (D4.ext x5) hl1 (ZF (x:=x)) hb).imp (nP1 b) id
 have rV:r∉V.addrs:=fV.out R.live
 have fV':∀b∈V.addrs,b∉P.addrs:=λb hb hm=>fV.out (B.dP.live b hm) hb
 have DV3:Doc c (o2.put D0 (tup [])) V:=(u2.doc (fV.doc okV) λb hb hm=>rV (ms_.mp hm▸hb)).ext x3
 have DV4:Doc c o4 V:=u4.doc DV3 fV'
 have DV6:Doc c o6 V:=u6'.doc (DV4.ext x5) fV'
 have R6:=((R2.ext x3).keep u4 B.rP |>.ext x5).keep u6' B.rP
 refine hk _ o6 _ (.replace h s V) x _ (λy hy=>by walk_at "stay") ?_ ⟨⟨z,hz⟩,Qcd shV shx,fx.nodup,λx_ b hb=>U4.none (fx.new b hb),λx_ b hb=>Lv.upd (Dx.live b hb) u6,rfl,D6,U6,λb hb=>(new b hb).imp id λh=>U4.none (fx.new b h),
  YI (YI B.nP),Yp (Yp B.gP hl (QaG (B.gP.look hl))) hl1 (qH (QaG (B.gP.look hl)) hi1 (λn e=>by have:=gp.1 s (by simp);rw[e] at this;exact this) (Qcc shx)),.inl ?_,R6,⟨⟨_,R6,⟨t1,rfl⟩,⟨t2,?_⟩,λF hF=>(nomatch hF),λV' hV=>by cases hV;rfl⟩,λV' hV=>by cases hV;exact⟨DV6.ok,by have:=Ys shV;omega⟩⟩,⟨gp,Ys shV⟩,rfl,λhm=>?_,λV' hV=>?_⟩
 ·rw[Zf];exact congrArg some ZZ.symm
 ·show (Qg (Qp · s x) h (Qg (Qo · s) h P)).size<=P.size+4
  have:=XT (f:=(Qp · s x)) hl1 (ZF (x:=x));have:=Ys shx;omega
 ·show some _=some (Value.str (Qt (QY h s false)) t2)
  rw[QaR]
 ·rcases new r hm with h1|h1
  ·exact B.rP h1
  ·exact fx.out (Lv.upd R.live U4) h1
 ·cases hV
  refine⟨DV6,λb hb=>⟨fV.new b hb,λhm=>?_⟩⟩
  rcases new b hm with h1|h1
  ·exact fV' b hb h1
  ·exact fx.out (DV4.live b hb) h1
end
noncomputable def swC (bk:ScopeKind) (names:List Str) (b1 b2 b3:Bool):Sem (Option (List Str)):=do
 if !(2==2||2==3)||2 != 2||bk != .function then return none
 if b1 then return none
 if names.length != 2||names.eraseDups.length != names.length then return none
 if b2 then return none
 if b3 then unsupported "assign.tuple-of-constant-expressions:order-of-the-stores"
 return some names
theorem QnF {a b x:Str}{pa pb q px pc p:Pos}{n1 n2 n3:Nat}(h1:ou.blockKind = .function) (h2:ou.kindOf a=some .local) (h3:ou.kindOf b=some .local) (hl:pb.line=pa.line) (hab:(b==a)=false) (hf:foldedForSure 8 (.Name x px)=false) (hc:constantsAlone 8 (.Name x px)=false) :
  swappedStores [.Tuple [.Name a pa,.Name b pb] n1 q] (.Tuple [.Name x px,.Constant (.bool false) n2 pc] n3 p) ou=pure (some [a,b]):=by
 show swC ou.blockKind ([Expr.Name a pa,.Name b pb].filterMap _) false (foldedForSure 8 (.Name x px)&&_) (constantsAlone 8 (.Name x px)&&_)=_
 have hw:∀ {y:Str}{l:Nat},ou.kindOf y=some .local->l=pa.line->(ou.kindOf y==some .local&&l==pa.line)=true:=λe e2=>by rw[e,e2];exact beq_self_eq_true pa.line
 rw[List.filterMap_cons_some (b:=a),List.filterMap_cons_some (b:=b),h1,hf,hc]
 ·have e:[a,b].eraseDups=[a,b]:=by
   rw[List.eraseDups_cons]
   show a::(List.filter (λb=>!b==a) [b]).eraseDups=_
   rw[List.filter_cons_of_pos (by rw[hab];rfl)];rfl
  show (if (_||[a,b].eraseDups.length != _)=true then _ else _)=_
  rw[e]
  rfl
 ·exact if_pos (hw h3 hl)
 ·exact if_pos (hw h2 rfl)
theorem Qhe {a b x:Str}{pa pb q px pc p' p:Pos}{n1 n2 n3:Nat}{k:KF_}(kf:KF ou sc) (ha:sc.names.lookup a=some .local) (hb:sc.names.lookup b=some .local)
  (h:W c N ou m oh (eval (.Tuple [.Name x px,.Constant (.bool false) n2 pc] n3 p') ou) λv m o=>∃T x y,v = .ref T/\o T=some (tup [x,y])/\k .next (upd (upd m b y) a x) o) (hl:pb.line=pa.line) (hab:(b==a)=false) (hx:x≠zz "__debug__") :
  W c N ou m oh (exec (.Assign [.Tuple [.Name a pa,.Name b pb] n1 q] (.Tuple [.Name x px,.Constant (.bool false) n2 pc] n3 p') p) ou) k:=λA s fr Q hA S P hQ =>
 Qhf kf ha hb h rfl (QnF (by have:=S.fm.kf;unfold Env.blockKind;first|exact this|simp[this]) (kf _ _ (by intro z;cases z) ha) (kf _ _ (by intro z;cases z) hb) hl hab rfl (beq_eq_false_iff_ne.mpr hx)) A s fr Q hA S P hQ
section
variable {P:J}{p:Qe}{z:J}{rest far:Int}{Tp r:Ad}{vs:List Vl}{t1 t2 td:Tok}{k:KF_}
theorem QjD {n j:Nat}:Yj n (j:Int)=min j n:=by unfold Yj;rw[if_neg (by omega)];simp
theorem QjI (kf:KF ou ZW.scope) (B:XV c oh m P p z rest far Tp r vs) (hp:p≠[])
  (aq:m "deed"=some (.int 3 td)) (R:Za c oh r (Yq "move" t1 p t2)) (hN:60<=N)
  (hk:∀m' o' P' op x oj,(∀y∈stay,m' y=m y)->m' "plain"=some P'.val->Xn c oh o' P P' op x r oj->k .next m' o'):W c N ou m oh (exec YG ou) k:=by
 obtain⟨tf,bT⟩:=B.mfar
 obtain⟨M,rfl⟩:∃M,N=M+1:=⟨N - 1,by omega⟩
 obtain⟨fh,fk,rfl⟩:=Qce hp
 have az:=B.plain
 have bJ:=B.bC
 have bK:=B.there
 have aP:=B.row
 have hT:=B.hT
 have zP:=B.zP
 have hz:=B.hz
 have gp:=B.aR
 obtain⟨a,d,kv,hl,hg⟩:=ZM hz
 have dz:=QbG hz
 have nP1:∀b∈(Qg (Qo · fk) fh P).addrs,b∈P.addrs:=λb hb=>(Xe B.dP hl Xs hb).resolve_right λq=>by cases q
 have hl1:look fh (Qg (Qo · fk) fh P)=some (.node a d (Qo kv fk)):=qM hl
 have hi1:Ins d (Qo kv fk) fk false:=Ins.bM hg
 have g1:Q4 (Qg (Qo · fk) fh P):=Yp B.gP hl (QaG (B.gP.look hl))
 have zadd:∀b∈z.addrs,b∈P.addrs:=λb hb=>Zb hz b hb
 refine X1 ?_
 right
 refine Qf (Qa2 B.dP (by omega) hT B.hv hz λo1 D1 ok1 u1=>?_)
 right
 refine Xi kf rfl rfl ?_ rfl rfl
 right
 rw[show P.val=(Qg (Qo · fk) fh P).val from ZZ.symm]
 refine Qf (Qa3 D1 (by omega) (by omega) (YI B.nP) λo2 v h s e Tg x2=>?_)
 obtain⟨rt,Tt,ws,rfl,hrt,hTt,hws⟩:=Tg.is
 refine⟨rt,_,_,rfl,hrt,?_⟩
 have hT1:o1 Tp=some (tup vs):=u1.keep _ _ (B.dP.aF hT) hT
 have hT2:=x2 _ _ hT1
 have hwl:=hws.len
 have hvl:=B.hv.len
 have gt:=Tg.aR g1 (by omega)
 have hwl2:=gt.2
 have hvl2:=gp.2
 refine Xa (X3 (R:=λm' o'=>Ext o2 o'/\(∃Tx ex hx sx wx,m' "target"=some (.ref Tx)/\m' "end"=some (.bool ex)/\o' Tx=some (tup wx)/\Zd (hx++[sx]) wx/\ZC hx sx ex (Qg (Qo · fk) fh P)/\Zu (hx++[sx]) /\
  ((hx=fh/\sx=fk/\ex=false)\/(QY hx sx ex).take (QY fh fk false).length≠QY fh fk false))/\(∀y∈stay,m' y=m y)/\m' "plain"=some P.val/\m' "there"=some z.val) ?_ ?_)
 ·right
  refine Yi (Y7 (XA ?_))
  right
  refine QgQ hT2 (Qd (by omega)) λt3=>?_
  intro sl hsl
  refine QbA (xs:=ws) (QE hsl.own hTt) (Qa ..) (Qd (by omega)) λD3 o3 hx3 hD3=>?_
  rw[QjD] at hD3
  have x23:Ext o2 o3:=Ext.trans (Ext.put hsl.own) hx3
  right
  generalize hn:min vs.length ws.length=n at hD3
  have vt:Zd ((h++[s]).take n) (ws.take n):=hws.take
  refine Qan (e:=λj=>decide (((h++[s]).take n)[j]?=(fh++[fk])[j]?)) hD3 (x23 _ _ hT2) (λj x y hx hy=>Qfo vt B.hv hx hy) ?_
  rw[vt.len,hvl,Qdt]
  right
  refine⟨λhb=>?_,λhb=>?_⟩
  ·right
   refine Qhe kf rfl rfl ?_ rfl (by ac_rfl) (by ac_rfl)
   right
   refine⟨Qd (by simp),λD4 hD4=>?_⟩
   refine⟨D4,_,_,rfl,Qa ..,?_⟩
   right
   have x24:=x23.ai (o:=tup [.ref Tp,.bool false]) hD4.own
   refine⟨rfl,x24,⟨Tp,false,fh,fk,vs,by nofun,by nofun,x24 _ _ hT2,B.hv,⟨a,d,_,hl1,hi1⟩,gp,.inl ⟨rfl,rfl,rfl⟩⟩,(λy hy=>by walk_at "stay"),?_,?_⟩
   all_goals nofun
  ·right
   refine⟨rfl,x23,⟨Tt,e,h,s,ws,by nofun,by nofun,x23 _ _ hTt,hws,Tg.ins,gt,.inr λhq=>?_⟩,(λy hy=>by walk_at "stay"),?_,?_⟩
   ·have hq':(QY h s e).take (fh.length+1)=(fh++[fk]).map Qq:=by
     rw[<- QaR,<- hq]
     congr 1
     simp[QY]
    have:=QeY hl (Qaz hg) Tg.ins gt.1 gp.1 hq'
    refine of_decide_eq_false hb ?_
    rw[<- hn,hvl,hwl,la_ (as:=fh),List.length_singleton,<- this]
    rw[List.take_eq_take_iff]
    simp
   all_goals nofun
 ·rintro m' o3 ⟨x23,⟨Tx,ex,hx,sx,wx,f1,f2,f3,f4,f5,f6,f7⟩,f8,f9,f10⟩
  have m_row':m' "row"=some (.ref r):=(f8 _ (by ac_rfl)).trans aP
  have x13:=x2.trans x23
  have R3:Za c o3 r _:=(R.keep u1 B.rP).ext x13
  right
  obtain⟨ro,hr1,hr2⟩:=R3.o
  refine Zs hr1 hr2 (v:=.str (Qt ((fh++[fk]).map Qq)) t2) rfl ?_
  right
  refine Yh R3 (by simp) λo4 R4 e4 u4=>?_
  right
  have Tx1:Tx∉[r]:=λhm=>R3.aF f3 (ms_.mp hm)
  have hTx4:=u4.keep _ _ Tx1 f3
  refine Qf (Qab hTx4 f4 f6.1 (by have:=f6.2;omega) (λo5 tt x5=>?_) (λx_=>by simp))
  rw[Qb4]
  right
  refine Yh (R4.ext x5) (Nat.le_trans Qfh (by simp)) λo6 R6 e6 u6=>?_
  right
  have V3:Upd oh o3 P.addrs:=Upd.trans u1 x13.upd λb hb=>.inl hb
  have V4:Upd oh o4 (r::P.addrs):=(V3.sub λb hb=>.tail _ hb).trans u4 λb hb=>.inl (by refine memS hb ?_;exact .head _)
  have V5:Upd oh o5 (r::P.addrs):=Upd.trans V4 x5.upd λb hb=>.inl hb
  have V6:Upd oh o6 (r::P.addrs):=V5.trans u6 λb hb=>.inl (by refine memS hb ?_;exact .head _)
  have u16:Upd o1 o6 [r]:=Upd.trans (Upd.trans (Upd.trans (x13.upd (S:=[r])) u4 λb hb=>.inl hb) (x5.upd (S:=[r])) λb hb=>.inl hb) u6 λb hb=>.inl hb
  have D6:Doc c o6 (Qg (Qo · fk) fh P):=u16.doc D1 λb hb hm=>B.rP (ms_.mp hm▸nP1 b hb)
  have Dz:Doc c o6 z:=u16.doc ⟨ok1,QaN hz B.dP.nd⟩ λb hb hm=>B.rP (ms_.mp hm▸zadd b hb)
  have hTx6:=u6.keep _ _ Tx1 (x5 _ _ hTx4)
  rw[show P.val=(Qg (Qo · fk) fh P).val from ZZ.symm]
  refine Qf (Qaa D6 (by omega) hTx6 f4 f5 Dz (λb hb=>QdJ B.dP hz hb) λo7 D7 u7=>?_)
  right
  obtain⟨a',d',kv',hl',hi'⟩:=f5
  have u7':=u7.sub (S':=P.addrs) nP1
  have V7:Upd oh o7 (r::P.addrs):=V6.trans u7' λb hb=>.inl (.tail _ hb)
  have new:∀b∈(Qg (Qp · sx z) hx (Qg (Qo · fk) fh P)).addrs,b∈P.addrs:=λb hb=>(Xe D6 hl' (ZF (x:=z)) hb).elim (nP1 b) (zadd b)
  have R7:=R6.keep u7' B.rP
  refine hk _ o7 (Qg (Qp · sx z) hx (Qg (Qo · fk) fh P)) (.move fh fk hx sx ex) z _ (λy hy=>?_) ?_ ⟨⟨⟨z,hz⟩,.inr ⟨a',d',kv',hl',hi'⟩⟩,hz,QaN hz B.dP.nd,λh=>(nomatch h),λh=>(nomatch h),rfl,D7,V7,λb hb=>.inl (new b hb),
   YI (YI B.nP),Yp g1 hl' (qH (g1.look hl') hi' (λn e=>by have:=f6.1 sx (by simp);rw[e] at this;exact this) (B.gP.look hz)),.inl ?_,R7,⟨⟨_,R7,⟨t1,rfl⟩,⟨tt,rfl⟩,λF hF=>(by cases hF;exact⟨t2,by rw[QaR];rfl⟩),λV' hV=>(nomatch hV)⟩,λV' hV=>(nomatch hV)⟩,⟨gp,f6,f7⟩,rfl,λhm=>B.rP (new r hm),λV' hV=>(nomatch hV)⟩
  ·exact QnL hy (by ac_rfl) (f8 y hy)
  ·rw[Zf];exact congrArg some ZZ.symm
  ·have:=XT (f:=(Qp · sx z)) hl' (ZF (x:=z));omega
end
noncomputable def Qb2 (d:Int):String:=if d=0 then "add" else if d=1 then "remove" else if d=2 then "replace" else if d=3 then "move" else if d=4 then "copy" else "test"
section
variable {P:J}{p:Qe}{z:J}{rest far:Int}{Tp r:Ad}{vs:List Vl}{t1 t2 td:Tok}{k:KF_}
theorem Xn.before {ay o1:Own}{P' x:J}{op:Op}{oj:LV}(h:Xn c oh o1 P P' op x r oj) (e:Ext ay oh):Xn c ay o1 P P' op x r oj :=
 ⟨h.pre,h.br,h.nd,λhm a ha=>e.none (h.fx hm a ha),h.xl,h.eq,h.doc,Upd.trans (e.upd (S:=r::P.addrs)) h.upd λb hb=>.inl hb,λb hb=>(h.new b hb).imp id e.none,h.node,h.good,h.size,h.rowD,h.row,h.og,h.hv,h.rn,λU hU=>⟨(h.vn U hU).1,λb hb=>⟨e.none ((h.vn U hU).2 b hb).1,((h.vn U hU).2 b hb).2⟩⟩⟩
theorem di6 {d:Int}(h0:0<=d) (h5:d<=5):d=0\/d=1\/d=2\/d=3\/d=4\/d=5:=by omega
theorem QjG (kf:KF ou ZW.scope) (B:XV c oh m P p z rest far Tp r vs) {d:Int}(h0:0<=d) (h5:d<=5) (h13:p=[]->d≠1/\d≠3) (h4:d=4->P.size<=9)
  (aq:m "deed"=some (.int d td)) (R:Za c oh r (Yq (Qb2 d) t1 p t2)) (hN:60<=N)
  (hk:∀m' o' P' op x oj,(∀y∈stay,m' y=m y)->m' "plain"=some P'.val->Xn c oh o' P P' op x r oj->k .next m' o'):W c N ou m oh (exec YG ou) k:=by
 rcases di6 h0 h5 with rfl|rfl|rfl|rfl|rfl|rfl
 ·exact QjF kf B aq R hN hk
 ·exact QjJ kf B (λh=>(h13 h).1 rfl) aq R hN hk
 ·by_cases hp:p=[]
  ·subst hp;exact QjL kf B aq R hN hk
  ·exact QjK kf B hp aq R hN hk
 ·exact QjI kf B (λh=>(h13 h).2 rfl) aq R hN hk
 ·exact QjH kf B (h4 rfl) aq R hN hk
 ·exact QjM kf B aq R hN hk
noncomputable def QaV:List Str:=[zz "head",zz "work",zz "whole",zz "pairs",zz "others",zz "rows"]
theorem QmS (d:Int) (h0:0<=d) (h5:d<=5) {a0 a1 a2 a3 a4 a5:Tok}:∃t,[Value.str (zz "add") a0,.str (zz "remove") a1,.str (zz "replace") a2,.str (zz "move") a3,.str (zz "copy") a4,.str (zz "test") a5][d.toNat]?=some (.str (zz (Qb2 d)) t):=by
 rcases di6 h0 h5 with rfl|rfl|rfl|rfl|rfl|rfl<;>exact⟨_,rfl⟩
abbrev QJ5 (o1:Own) (m1:Loc) (p:Qe) (P:J) (m':Loc) (o':Own):Prop:=Ext o1 o'/\∃d td,m' "deed"=some (.int d td)/\0<=d/\d<=5/\(p=[]->d≠1/\d≠3)/\(d=4->P.size<=9)/\∀y,y≠zz "deed"->m' y=m1 y
theorem Qjb (kf:KF ou ZW.scope) {i:Int}{ti:Tok}(D:Doc c oh P) (gP:Q4 P) (nP:P.isNode=true) (zP:P.size<=50) (az:m "plain"=some P.val) (m_number:m "number"=some (.int i ti)) (hN:60<=N)
  (hk:∀m' o' P' op x r oj d td,(∀y∈QaV,m' y=m y)->m' "plain"=some P'.val->m' "row"=some (.ref r)->m' "deed"=some (.int d td)->oh r=none->Xn c oh o' P P' op x r oj->W c N ou m' o' (execs (qK.drop 8) ou) k):W c N ou m oh (execs qK ou) k:=by
 have hps:=P.size_pos
 obtain⟨M,rfl⟩:∃M,N=M+1:=⟨N - 1,by omega⟩
 refine Qm ?_
 right
 refine Xp (by decide) λtA=>?_
 right
 refine Yb (j:=6) (by decide) (by decide) λtB=>?_
 right
 refine⟨Qd (by simp),λD0 hD0=>?_⟩
 right
 refine⟨Qd (by simp),λD1 hD1=>?_⟩
 right
 have x1:Ext oh ((oh.put D0 (tup [])).put D1 (lst [] 0)):=by walk_at "ext"
 refine Qf (Qa1 (P:=P) (X:=P) (p:=[]) (vs:=[]) (rs:=[]) (D.ok.ext x1) (by simp<;>omega) (by simp<;>omega) rfl (by walk_at "own") .nil (by walk_at "own") hD1.base (λhm=>?_) (by omega) λo1 R=>?_)
 ·obtain⟨ob,hob⟩:=(D.ok.ext (Ext.put hD0.own:Ext oh (oh.put D0 (tup [])))).there _ hm
  cases (hD1.own),hob
 have xo:Ext oh o1:=λb o e=>R.ext b o (hD1.ne' (QE hD0.own e)) (x1 b o e)
 obtain⟨ts,ep,hL,hlen,bl,_⟩:=R.is
 rw[List.nil_append] at hL
 refine Xa (Qm (Xi kf rfl rfl ?_ rfl rfl))
 right
 refine ZI hL (Qd (by omega)) λtC=>?_
 refine Xp (by omega) λtD=>?_
 have q0:0<=(i.fdiv (6:Nat)).fmod (ts.length:Int):=Ym (by omega)
 have q8:(i.fdiv (6:Nat)).fmod (ts.length:Int) < ts.length:=Yl (by omega)
 generalize (i.fdiv (6:Nat)).fmod (ts.length:Int)=w at q0 q8 ⊢
 have hw:ts[w.toNat]?=some (ts[w.toNat]'(by omega)):=List.getElem?_eq_getElem _
 obtain⟨p,z,⟨r0,Tp,vs,ht,hr0,hT,hv⟩,hz⟩:=bl _ (mg_ hw)
 rw[ht] at hw
 refine Xz hL q0 hw (by omega) ?_
 refine⟨r0,_,_,rfl,hr0,?_⟩
 right
 refine ZI hL (Qd (by omega)) λtE=>?_
 refine Yb (j:=ts.length) (by omega) (by omega) λtF=>?_
 generalize (i.fdiv (6:Nat)).fdiv (ts.length:Int)=far
 generalize i.fdiv (6:Nat)=rest
 have hd0:0<=i.fmod 6:=Ym (j:=6) (by decide)
 have hd6:i.fmod 6 < 6:=Yl (j:=6) (by decide)
 generalize i.fmod 6=d0 at hd0 hd6 ⊢
 show W c _ ou _ _ (execs _ ou) k
 generalize hm1:upd (upd (upd (upd (upd (upd m "deed" (.int d0 tA)) "rest" (.int rest tB)) "places" (.ref D1)) "path" (.ref Tp)) "there" z.val) "far" (.int far tF)=m1
 have f_deed:m1 "deed"=some (.int d0 tA):=by subst hm1;nofun
 have f_rest:m1 "rest"=some (.int rest tB):=by subst hm1;nofun
 have f_places:m1 "places"=some (.ref D1):=by subst hm1;nofun
 have f_path:m1 "path"=some (.ref Tp):=by subst hm1;nofun
 have f_there:m1 "there"=some z.val:=by subst hm1;nofun
 have f_far:m1 "far"=some (.int far tF):=by subst hm1;nofun
 have bL:m1 "plain"=some P.val:=by subst hm1;nofun
 have f_stay:∀y∈QaV,m1 y=m y:=λy hy=>by subst hm1;walk_at "stay"
 clear hm1
 refine Xa (X3 (R:=(QJ5 o1 m1 p P)) ?_ ?_)
 ·right
  refine⟨Qd (by simp),λD2 hD2=>?_⟩
  have x2:=Ext.put (o:=tup []) hD2.own
  refine Qan (e:=λj=>decide (p[j]?=([]:Qe)[j]?)) (x2 _ _ hT) (Qa ..) (λj x y hx hy=>Qfo hv .nil hx hy) ?_
  rw[hv.len,show ([]:List Vl).length=([]:Qe).length from rfl,Qdt]
  right
  refine⟨λhp=>?_,λhp=>?_⟩
  ·right
   refine⟨Qd (by simp),λD3 hD3=>?_⟩
   have x5:∀ob,Ext o1 ((o1.put D2 (tup [])).put D3 ob):=λob=>x2.ai hD3.own
   refine QgG (ns:=[1,3]) (Qa ..) (.cons _ _ (.cons _ _ .nil)) ?_
   right
   refine⟨λhin=>?_,λhin=>?_⟩
   ·right
    exact⟨rfl,x5 _,5,_,Zf ..,by decide,by decide,λx_=>⟨by decide,by decide⟩,λh=>absurd h (by decide),λy hy=>XF hy⟩
   have hf:p=[]->d0≠1/\d0≠3:=λx_=>by
    simp only[List.any_cons,List.any_nil,Bool.or_false,Bool.or_eq_false_iff,beq_eq_false_iff_ne] at hin
    exact⟨λh=>hin.1 h.symm,λh=>hin.2 h.symm⟩
   right
   refine⟨λh4=>?_,λh4=>?_⟩
   ·right
    refine ZI (x5 _ _ _ hL) (Qd (by omega)) λtE=>?_
    right
    refine qz ?_
    right
    refine⟨λh9=>?_,λh9=>?_⟩
    ·right
     exact⟨rfl,x5 _,5,_,Zf ..,by decide,by decide,λx_=>⟨by decide,by decide⟩,λh=>absurd h (by decide),λy hy=>XF hy⟩
    ·right
     refine⟨rfl,x5 _,_,_,by nofun,hd0,by omega,hf,λx_=>?_,λy hy=>rfl⟩
     have:¬ ((9:Int) < ts.length):=by simpa using h9
     omega
   ·right
    exact⟨rfl,x5 _,_,_,by nofun,hd0,by omega,hf,λh=>absurd h (by simpa using h4),λy hy=>rfl⟩
  ·have hf:p=[]->d0≠1/\d0≠3:=λh=>absurd h (by simpa using hp)
   have x5:=x2
   right
   refine⟨λh4=>?_,λh4=>?_⟩
   ·right
    refine ZI (x5 _ _ hL) (Qd (by omega)) λtE=>?_
    right
    refine qz ?_
    right
    refine⟨λh9=>?_,λh9=>?_⟩
    ·right
     exact⟨rfl,x5,5,_,Zf ..,by decide,by decide,λx_=>⟨by decide,by decide⟩,λh=>absurd h (by decide),λy hy=>XF hy⟩
    ·right
     refine⟨rfl,x5,_,_,by nofun,hd0,by omega,hf,λx_=>?_,λy hy=>rfl⟩
     have:¬ ((9:Int) < ts.length):=by simpa using h9
     omega
   ·right
    exact⟨rfl,x5,_,_,by nofun,hd0,by omega,hf,λh=>absurd h (by simpa using h4),λy hy=>rfl⟩
 ·rintro m2 o2 ⟨x2,d,td,n_deed,hd0',hd5,h13,h4,same⟩
  have g2:∀y,y≠zz "deed"->m2 y=m1 y:=same
  have n_path:m2 "path"=some (.ref Tp):=(same _ (by ac_rfl)).trans f_path
  have n_there:m2 "there"=some z.val:=(same _ (by ac_rfl)).trans f_there
  have n_plain:m2 "plain"=some P.val:=(same _ (by ac_rfl)).trans bL
  have n_rest:m2 "rest"=some (.int rest tB):=(same _ (by ac_rfl)).trans f_rest
  have n_far:m2 "far"=some (.int far tF):=(same _ (by ac_rfl)).trans f_far
  with_reducible refine Qm ?_
  walk_at "w2"
  with_reducible refine Qak ?hn ?_
  case hn=>ac_rfl
  right
  refine⟨Qd (by simp),λD4 hD4=>?_⟩
  right
  obtain⟨tN,hN'⟩:=QmS d hd0' hd5
  refine Xz (Qa ..) hd0' hN' (by omega) ?_
  right
  have x3':∀ob,Ext o1 (o2.put D4 ob):=λob=>x2.ai hD4.own
  have gp:Zu p:=⟨QaH gP (by omega) hz,by have:=YH hz;omega⟩
  refine Qf (Qab (e:=false) (x3' _ _ _ hT) hv gp.1 (by have:=gp.2;omega) (λo5 tt x5=>?_) (λh=>(nomatch h)))
  intro D6 Do6 hD6 hd6'
  have x6:Ext o1 (o5.put D6 Do6):=((x3' _).trans x5).ai hD6.own
  have R6:Za c (o5.put D6 Do6) D6 (Yq (Qb2 d) tN p tt):=⟨⟨_,Qa ..,hd6'⟩,hD6.base⟩
  have xall:Ext oh (o5.put D6 Do6):=xo.trans x6
  have rn:oh D6=none:=(xo.trans ((x3' _).trans x5)).none hD6.own
  have rP:D6∉P.addrs:=λhm=>by
   obtain⟨ob,hob⟩:=D.ok.there _ hm
   cases rn,hob
  with_reducible refine Xa ?_
  with_reducible refine Qm ?_
  refine QjG kf (z:=z) (rest:=rest) (far:=far) (Tp:=Tp) (vs:=vs) ⟨D.ext xall,gP,nP,zP,?_,⟨tB,?_⟩,⟨tF,?_⟩,?_,?_,Zf ..,x6 _ _ hT,hv,hz,rP⟩ hd0' hd5 h13 h4 (td:=td) ?_ R6 hN λm' o' P' op x oj hs hp hD=>?_
  any_goals fail "w-look"
  with_reducible refine Xa ?_
  have st:∀y∈stay,y≠zz "row"->y≠zz "deed"->m' y=m1 y:=λy hy h1 h2=>(hs y hy).trans ((XF h1).trans (same y h2))
  refine hk m' o' P' op x D6 oj d td (λy hy=>?_) hp ((hs _ (by ac_rfl)).trans (Zf ..)) ((hs _ (by ac_rfl)).trans ((XF (by ac_rfl)).trans n_deed)) rn (hD.before xall)
  rw[<- f_stay y hy]
  have q:=(show ∀y∈QaV,y∈stay/\y≠zz "row"/\y≠zz "deed" by ac_rfl) y hy
  exact st _ q.1 q.2.1 q.2.2
end
noncomputable def Qmh:Stmt:=qK.getD 8 (.Pass default)
theorem Upd.drop {o o':Own}{S:List Ad}{r:Ad}(h:Upd o o' (r::S)) (hr:o r=Option.none):Upd o o' S :=
 ⟨λb ob hb e=>h.keep b ob (λhm=>(mc_.mp hm).elim (λz=>by rw[z,hr] at e;cases e) hb) e,h.cls⟩
theorem ExtBut.upd {L:Ad}{o o':Own}{xs ys:List Vl}{n n':Nat}(h:ExtBut L o o') (h1:o L=some (lst xs n)) (h2:o' L=some (lst ys n')):Upd o o' [L] :=
 ⟨λb ob hb e=>h b ob (λz=>hb (z▸.head _)) e,λb ob e=>by
  by_cases hb:b=L
  ·subst hb;cases h1,e;exact⟨_,h2,rfl⟩
  ·exact⟨ob,h b ob hb e,rfl⟩⟩
structure Xg (c:Cx) (o1 o:Own) (L1 L2:Ad) (R R0:Ad->Ad->Prop) (Es jy ev:List Ad) (B:Nat) (Es' jy':List Ad):Prop where
 upd:Upd o1 o [L1,L2]
 p1:Pairs c o L1 (QJ R Es' jy') B
 p2:Pairs c o L2 (QJ R0 Es' jy') B
 esE:∀a∈Es',a∈Es\/a∉ev
 esL:∀a∈Es',Lv o a
theorem Xg.ext {o1 o o':Own}{L1 L2:Ad}{R R0:Ad->Ad->Prop}{Es jy ev:List Ad}{B:Nat}{Es' jy':List Ad}(h:Xg c o1 o L1 L2 R R0 Es jy ev B Es' jy') (x:Ext o o'):Xg c o1 o' L1 L2 R R0 Es jy ev B Es' jy' :=
 ⟨Upd.trans h.upd (x.upd (S:=[L1,L2])) λb hb=>.inl hb,h.p1.ext x,h.p2.ext x,h.esE,λa ha=>Lv.upd (h.esL a ha) (x.upd (S:=[]))⟩
theorem Xg.le {o1 o:Own}{L1 L2:Ad}{R R0:Ad->Ad->Prop}{Es jy ev:List Ad}{B B':Nat}{Es' jy':List Ad}(h:Xg c o1 o L1 L2 R R0 Es jy ev B Es' jy') (hB:B<=B'):Xg c o1 o L1 L2 R R0 Es jy ev B' Es' jy' :=
 ⟨h.upd,h.p1.mono (λx_ x_ h=>h) hB,h.p2.mono (λx_ x_ h=>h) hB,h.esE,h.esL⟩
theorem QJ.mono {R:Ad->Ad->Prop}{Es Es' jy jy':List Ad}(h1:∀a∈Es,a∈Es') (h2:∀b∈jy,b∈jy'):∀a b,QJ R Es jy a b->QJ R Es' jy' a b:=λa b h=>h.imp id λ ⟨x,y⟩=>⟨h1 _ x,h2 _ y⟩
theorem Yn {o:Own}{L:Ad}{rs xs:List Vl}{b:Ad}(hL:o L=some (lst rs n)) (e:o b=some (tup xs)):b≠L:=by
 rintro rfl
 rw[hL] at e
 exact qd (Option.some.inj e)
section
variable {o1 o:Own}{L1 L2:Ad}{R R0:Ad->Ad->Prop}{Es jy ev:List Ad}{B:Nat}{Es' jy':List Ad}{E D b:Ad}{ob:Obj}{rs:List Vl}{n n':Nat}
theorem Xg.app1 (h:Xg c o1 o L1 L2 R R0 Es jy ev B Es' jy') (hE:o E=some (lst [] 0)) (hD:o D=some (tup [.ref E,.ref b])) (hb:b∈jy') (hbo:o b=some ob) (hc:ob.cls≠.type "tuple") (hEe:E∉ev) (hL:L1≠L2) (h1:o L1=some (lst rs n)) :
  Xg c o1 (o.put L1 (lst (rs++[.ref D]) n')) L1 L2 R R0 Es jy ev (B+1) (E::Es') jy':=by
 have u:Upd o (o.put L1 (lst (rs++[.ref D]) n')) [L1]:=Upd.put .refl (.inl (by simp)) λo0 e=>by cases h1,e;rfl
 have mono:∀a∈Es',a∈E::Es':=λa ha=>.tail _ ha
 refine⟨h.upd.trans u λb hb=>.inl (by rw[ms_.mp hb];simp),(h.p1.mono (QJ.mono mono λx_ h=>h) (Nat.le_refl _)).app h1 hD (.inr ⟨.head _,hb⟩) hE hbo (by simp) hc,(h.p2.upd u (by simpa using hL.symm) λb xs e hm=>Yn h1 e (ms_.mp hm)).mono (QJ.mono mono λx_ h=>h) (by omega),λa ha=>?_,λa ha=>?_⟩
 ·rcases mc_.mp ha with rfl|ha
  ·exact .inr hEe
  ·exact h.esE a ha
 ·rcases mc_.mp ha with rfl|ha
  ·exact Lv.upd (.of hE) u
  ·exact Lv.upd (h.esL a ha) u
theorem Xg.app2 (h:Xg c o1 o L1 L2 R R0 Es jy ev B Es' jy') (hE:o E=some (lst [] 0)) (hD:o D=some (tup [.ref E,.ref b])) (hb:b∈jy') (hbo:o b=some ob) (hc:ob.cls≠.type "tuple") (hEe:E∉ev) (hL:L1≠L2) (h1:o L2=some (lst rs n)) :
  Xg c o1 (o.put L2 (lst (rs++[.ref D]) n')) L1 L2 R R0 Es jy ev (B+1) (E::Es') jy':=by
 have u:Upd o (o.put L2 (lst (rs++[.ref D]) n')) [L2]:=Upd.put .refl (.inl (by simp)) λo0 e=>by cases h1,e;rfl
 have mono:∀a∈Es',a∈E::Es':=λa ha=>.tail _ ha
 refine⟨h.upd.trans u λb hb=>.inl (by rw[ms_.mp hb];simp),(h.p1.upd u (by simpa using hL) λb xs e hm=>Yn h1 e (ms_.mp hm)).mono (QJ.mono mono λx_ h=>h) (by omega),(h.p2.mono (QJ.mono mono λx_ h=>h) (Nat.le_refl _)).app h1 hD (.inr ⟨.head _,hb⟩) hE hbo (by simp) hc,λa ha=>?_,λa ha=>?_⟩
 ·rcases mc_.mp ha with rfl|ha
  ·exact .inr hEe
  ·exact h.esE a ha
 ·rcases mc_.mp ha with rfl|ha
  ·exact Lv.upd (.of hE) u
  ·exact Lv.upd (h.esL a ha) u
end
section
variable {k:KF_}
theorem Qi9 (kf:KF ou ZW.scope) {L r0 b:Ad}{tq:Vl}{rs:List Vl}{n n1 n2:Nat}{p1 p2 p3 p4 p5 p6 p7 p8 p9:Pos}(aU:m "pairs"=some (.ref L)) (ck:m "found"=some (.ref r0)) (hr0:oh r0=some (tup [tq,.ref b])) (hL:oh L=some (lst rs n)) (hb:c.H.get? L=none) (hz:rs.length<=6000)
  (hl1:(p2.endLine==p8.line)=true) (hk:∀E D n' o3,Ext oh o3->oh E=none->o3 E=some (lst [] 0)->o3 D=some (tup [.ref E,.ref b])->k .next m (o3.put L (lst (rs++[.ref D]) n'))) :
  W c N ou m oh (exec (.Expr (.Call (.Attribute (.Name (zz "pairs") p1) (zz "append") p2) [.Tuple [.List [] p3,.Subscript (.Name (zz "found") p4) (.Constant (.int 1) n1 p5) p6] n2 p7] [] p8) p9) ou) k:=by
 refine Qdq ?_ rfl
 refine Qbj rfl ?_ rfl hl1 (by show 1 < 30;decide)
 right
 refine Zq F.slot_list_append F.type_list_append hL ?_
 right
 refine⟨Qd (by simp),λE1 hE1=>?_⟩
 have xE1:=Ext.put (o:=lst [] 0) hE1.own
 right
 refine Yx (xE1 _ _ hr0) (j:=1) (v:=.ref b) rfl rfl (by decide) (by decide) ?_
 refine⟨Qd (by simp),λT3 hT3=>?_⟩
 have xT3:=Ext.put (o:=tup [.ref E1,.ref b]) hT3.own
 right
 refine ZU (xT3 _ _ (xE1 _ _ hL)) hb (Nat.le_trans hz (by decide)) λn'=>?_
 exact hk E1 T3 n' _ (xE1.trans xT3) hE1.own (xT3 _ _ (Qa ..)) (Qa ..)
theorem Qi8 (kf:KF ou ZW.scope) {L r0 b:Ad}{tq:Vl}{rs:List Vl}{n n1 n2:Nat}{p1 p2 p3 p4 p5 p6 p7 p8 p9:Pos}(aO:m "others"=some (.ref L)) (ck:m "found"=some (.ref r0)) (hr0:oh r0=some (tup [tq,.ref b])) (hL:oh L=some (lst rs n)) (hb:c.H.get? L=none) (hz:rs.length<=6000)
  (hl1:(p2.endLine==p8.line)=true) (hk:∀E D n' o3,Ext oh o3->oh E=none->o3 E=some (lst [] 0)->o3 D=some (tup [.ref E,.ref b])->k .next m (o3.put L (lst (rs++[.ref D]) n'))) :
  W c N ou m oh (exec (.Expr (.Call (.Attribute (.Name (zz "others") p1) (zz "append") p2) [.Tuple [.List [] p3,.Subscript (.Name (zz "found") p4) (.Constant (.int 1) n1 p5) p6] n2 p7] [] p8) p9) ou) k:=by
 refine Qdq ?_ rfl
 refine Qbj rfl ?_ rfl hl1 (by show 1 < 30;decide)
 right
 refine Zq F.slot_list_append F.type_list_append hL ?_
 right
 refine⟨Qd (by simp),λE1 hE1=>?_⟩
 have xE1:=Ext.put (o:=lst [] 0) hE1.own
 right
 refine Yx (xE1 _ _ hr0) (j:=1) (v:=.ref b) rfl rfl (by decide) (by decide) ?_
 refine⟨Qd (by simp),λT3 hT3=>?_⟩
 have xT3:=Ext.put (o:=tup [.ref E1,.ref b]) hT3.own
 right
 refine ZU (xT3 _ _ (xE1 _ _ hL)) hb (Nat.le_trans hz (by decide)) λn'=>?_
 exact hk E1 T3 n' _ (xE1.trans xT3) hE1.own (xT3 _ _ (Qa ..)) (Qa ..)
theorem Qjd (kf:KF ou ZW.scope) {r L1 L2:Ad}{oj:LV}{op:Op}{d:Int}{td:Tok}{R R0:Ad->Ad->Prop}{Es jy ev:List Ad}{B:Nat}
  (aP:m "row"=some (.ref r)) (aq:m "deed"=some (.int d td)) (aU:m "pairs"=some (.ref L1)) (aO:m "others"=some (.ref L2)) (RD:Za c oh r oj) (hv:valueAt oj (zz "value")=op.val.map J.val)
  (hV:∀U,op.val=some U->Doc c oh U/\U.size<=100/\L1∉U.addrs/\L2∉U.addrs) (p1:Pairs c oh L1 (QJ R Es jy) B) (p2:Pairs c oh L2 (QJ R0 Es jy) B) (hL:L1≠L2) (hB:B<=5000) (esL:∀a∈Es,Lv oh a) (evL:∀a∈ev,Lv oh a) (hN:100<=N)
  (hk:∀m' o' Es' jy',(∀y,y≠zz "found"->m' y=m y)->Xg c oh o' L1 L2 R R0 Es jy ev (B+200) Es' jy'->(jy'=jy\/∃U,op.val=some U/\jy'=U.addrs++jy)->k .next m' o'):W c N ou m oh (exec Qmh ou) k:=by
 obtain⟨ro,hr1,hr2⟩:=RD.o
 have skip:k .next m oh:=hk m oh Es jy (λy hy=>rfl) ⟨.refl,p1.mono (λx_ x_ h=>h) (by omega),p2.mono (λx_ x_ h=>h) (by omega),λa ha=>.inl ha,esL⟩ (.inl rfl)
 refine X1 ?_
 right
 refine Qc5 hr1 hr2 RD.b ?_
 rw[hv]
 right
 cases hop:op.val with
 |none =>
  right
  exact skip
 |some V =>
  right
  refine qC ?_
  right
  refine⟨λhd=>?_,λhd=>?_⟩
  ·right
   refine X0 ?_
   right
   obtain⟨DV,zV,v1,v2⟩:=hV V hop
   refine Zs hr1 hr2 (v:=V.val) (by rw[hv,hop];rfl) ?_
   right
   refine⟨Qd (by simp),λD0 hD0=>?_⟩
   right
   refine⟨Qd (by simp),λD1 hD1=>?_⟩
   have x1:Ext oh ((oh.put D0 (tup [])).put D1 (lst [] 0)):=by walk_at "ext"
   have hps:=V.size_pos
   right
   refine Qf (Zt (M:=100) (Qa1 (P:=V) (X:=V) (p:=[]) (vs:=[]) (rs:=[]) (N:=100) (DV.ok.ext x1) (by simp<;>omega) (by simp<;>omega) rfl (by walk_at "own") .nil (by walk_at "own") hD1.base (λhm=>?_) (by omega) λo1 RL=>?_) hN)
   ·obtain⟨ob,hob⟩:=(DV.ok.ext (Ext.put hD0.own:Ext oh (oh.put D0 (tup [])))).there _ hm
    cases (hD1.own),hob
   have xo:Ext oh o1:=λb o e=>RL.ext b o (hD1.ne' (QE hD0.own e)) (x1 b o e)
   obtain⟨ts,ep,hLL,hlen,bl,_⟩:=RL.is
   rw[List.nil_append] at hLL
   have nL:o1 D1≠none:=by rw[hLL];simp
   have D1L:D1∉[L1,L2]:=λhm=>by
    simp only[mc_,nn_,or_false] at hm
    obtain⟨a1,b1,e1⟩:=p1.lst
    obtain⟨a2,b2,e2⟩:=p2.lst
    have hn:=(Ext.put (o:=tup []) hD0.own).none hD1.own
    rcases hm with rfl|rfl
    ·cases hn,e1
    ·cases hn,e2
   have DV1:=DV.ext xo
   have p1':=p1.ext xo
   have p2':=p2.ext xo
   refine⟨_,_,_,λi m' o'=>(∀y,y≠zz "found"->m' y=m y)/\∃Es',Xg c oh o' L1 L2 R R0 Es jy ev (B+2*i) Es' (V.addrs++jy)/\Upd o1 o' [L1,L2],Xv hLL,⟨λy hy=>rfl,Es,⟨xo.upd,p1'.mono (QJ.mono (λx_ h=>h) λb hb=>mr_ _ hb) (by omega),p2'.mono (QJ.mono (λx_ h=>h) λb hb=>mr_ _ hb) (by omega),λa ha=>.inl ha,λa ha=>Lv.upd (esL a ha) (xo.upd (S:=[]))⟩,.refl⟩,λi m o J q hq=>?_,λi v m' o hi hP J=>?_,λm' o J=>?_⟩
   ·obtain⟨_,Es',_,u⟩:=J
    rw[ms_.mp hq]
    exact u.keep _ _ D1L hLL
   ·obtain⟨jm,Es',LD,u⟩:=J
    obtain⟨q,j,⟨r0,Tq,vs,rfl,hr0,hTq,hvq⟩,hlk⟩:=bl v (mg_ hP)
    obtain⟨rs1,n1,hl1⟩:=p1'.lst
    obtain⟨rs2,n2,hl2⟩:=p2'.lst
    have kt:∀a xs,o1 a=some (tup xs)->o a=some (tup xs):=λa xs e=>u.keep _ _ (λhm=>by
     simp only[mc_,nn_,or_false] at hm
     exact hm.elim (Yn hl1 e) (Yn hl2 e)) e
    have hro:=kt _ _ hr0
    have DVo:Doc c o V:=u.doc DV1 λb hb hm=>by
     simp only[mc_,nn_,or_false] at hm
     rcases hm with rfl|rfl
     ·exact v1 hb
     ·exact v2 hb
    have Dj:=DVo.look hlk
    refine Zv kf rfl ?_
    have m_pairs':m' "pairs"=some (.ref L1):=(jm _ (by ac_rfl)).trans aU
    have m_others':m' "others"=some (.ref L2):=(jm _ (by ac_rfl)).trans aO
    right
    refine Yx hro (j:=1) (v:=j.val) rfl rfl (by decide) (by decide) ?_
    right
    refine⟨Qd (by simp),λT2 hT2=>?_⟩
    have xT:=Ext.put (o:=tup [.type "dict",.type "list"]) hT2.own
    right
    refine Qda (Dj.ext xT).ok.kdOf (ZY (Qa ..)) ?_
    rw[Qd8 Dj.ok]
    have fin0:=LD.ext xT
    cases j with
    |atom a =>
     right
     exact⟨λy hy=>(XF hy).trans (jm y hy),Es',fin0.le (by omega),Upd.trans u (xT.upd (S:=[])) λb hb=>nomatch hb⟩
    |node b dd kv =>
     have hbV:b∈V.addrs++jy:=ml_ _ (Zb hlk b J.m0)
     obtain⟨obb,hbo,hbc⟩:=Dj.ok.clsAt b J.m0
     have evo:∀ {E:Ad}{o':Own},(∀b,Lv o b->Lv o' b)->o' E=none->E∉ev:=λhl hE hm=>Lv.not hE (hl _ (Lv.upd (evL _ hm) LD.upd))
     have xTl:∀b,Lv o b->Lv (o.put T2 (tup [.type "dict",.type "list"])) b:=λb h=>Lv.upd h (xT.upd (S:=[]))
     obtain⟨ra,na,hla⟩:=fin0.p1.lst
     have hlen1:∀ {L:Ad}{Q:Ad->Ad->Prop}{o':Own}{rs:List Vl}{n:Nat},Pairs c o' L Q (B+2*i+1)->o' L=some (lst rs n)->rs.length<=6000:=λhp h=>by
      obtain⟨rs',n',h1,h2,_⟩:=hp.is
      have:=QbW (h.symm.trans h1)
      rw[this];omega
     have bX:upd m' "found" (.ref r0) "pairs"=some (.ref L1):=by nofun
     have bS:upd m' "found" (.ref r0) "others"=some (.ref L2):=by nofun
     walk_at "w2"
     walk_at "w2"
     walk_at "w2"
     refine Qi9 kf bX (by nofun) (xT _ _ hro) hla p1.base (hlen1 (fin0.p1.mono (λx_ x_ h=>h) (by omega)) hla) rfl λE1 D1 n' o3 x3 nE hE hD=>?_
     have xo3:Ext o o3:=xT.trans x3
     have hla3:=x3 _ _ hla
     have fin2:=(fin0.ext x3).app1 (n':=n') hE hD hbV (xo3 _ _ hbo) hbc (evo xTl nE) hL hla3
     generalize ho4:o3.put L1 (lst (ra++[.ref D1]) n')=o4 at fin2 ⊢
     have u4:Upd o3 o4 [L1]:=by
      subst ho4
      exact Upd.put .refl (.inl (by simp)) λo0 e=>by cases hla3,e;rfl
     have hro4:=u4.keep _ _ (λhm=>Yn hla3 (xo3 _ _ hro) (ms_.mp hm)) (xo3 _ _ hro)
     obtain⟨ob4,hbo4,hbc4⟩:=u4.cls b obb (xo3 _ _ hbo)
     have lv4:∀y,Lv o y->Lv o4 y:=λy h=>by
      obtain⟨x,hx⟩:=is_.mp h
      exact Lv.upd (.of (xo3 y x hx)) u4
     obtain⟨rb,nb,hlb⟩:=fin2.p2.lst
     walk_at "w2"
     walk_at "w2"
     refine Qi8 kf bS (by nofun) hro4 hlb p2.base (hlen1 fin2.p2 hlb) rfl λE2 D2 n2' o5 x5 nE2 hE2 hD2=>?_
     have fin4:=(fin2.ext x5).app2 (n':=n2') hE2 hD2 hbV (x5 _ _ hbo4) (by rw[hbc4];exact hbc) (evo lv4 nE2) hL (x5 _ _ hlb)
     have u6:Upd o5 (o5.put L2 (lst (rb++[.ref D2]) n2')) [L2]:=Upd.put .refl (.inl (by simp)) λo0 e=>by cases (x5 _ _ hlb),e;rfl
     have m1:∀y∈[L1],y∈[L1,L2]:=λy hy=>by rw[ms_.mp hy];simp
     have m2:∀y∈[L2],y∈[L1,L2]:=λy hy=>by rw[ms_.mp hy];simp
     have v1:Upd o1 o3 [L1,L2]:=Upd.trans u (xo3.upd (S:=[])) λb hb=>nomatch hb
     have v2:Upd o1 o4 [L1,L2]:=v1.trans u4 λb hb=>.inl (m1 b hb)
     have v3:Upd o1 o5 [L1,L2]:=Upd.trans v2 (x5.upd (S:=[])) λb hb=>nomatch hb
     have v4:Upd o1 _ [L1,L2]:=v3.trans u6 λb hb=>.inl (m2 b hb)
     right
     exact⟨λy hy=>(XF hy).trans (jm y hy),_,fin4.le (by omega),v4⟩
   ·obtain⟨jm,Es',LD,u⟩:=J
    refine ZV ?_
    right
    exact hk m' o Es' _ jm (LD.le (by omega)) (.inr ⟨V,hop,rfl⟩)
  ·right
   exact skip
end
structure Qaj (c:Cx) (H:J) (L1 L2 Rl:Ad) (P0:J) (ev0:List Ad) (R0:Ad->Ad->Prop) (dp:List (Ad × Obj)) (i:Nat) (o:Own) (reg:Ad->Nat) (P W:J) (rows:List (Ad × Op)) (jy ev Es:List Ad) (R:Ad->Ad->Prop):Prop where
 core:Zn c o reg P W H Rl rows rows jy ev dp
 hang:YY o P W H (rows.map (·.2)) P0 ev0 ev jy Es R R0
 p1:Pairs c o L1 (QJ R Es jy) (300*(i+1))
 p2:Pairs c o L2 (QJ R0 Es jy) (300*(i+1))
 r1:reg L1=4
 r2:reg L2=5
 len:rows.length=i
 good:Q4 P
 node:P.isNode=true
 size:P.size<=18+4*i
structure Qbd (m:Loc) (hd:Int) (P W H:J) (L1 L2 Rl:Ad):Prop where
 head:∃t,m "head"=some (.int hd t)
 plain:m "plain"=some P.val
 work:m "work"=some W.val
 whole:m "whole"=some H.val
 pairs:m "pairs"=some (.ref L1)
 others:m "others"=some (.ref L2)
 rows:m "rows"=some (.ref Rl)
theorem Zn.setJy {o:Own}{reg:Ad->Nat}{P W H:J}{Rl:Ad}{rl rows:List (Ad × Op)}{jy jy' ev:List Ad}{dp:List (Ad × Obj)}(h:Zn c o reg P W H Rl rl rows jy ev dp) (hj:∀b∈jy',Lv o b):Zn c o reg P W H Rl rl rows jy' ev dp:={ h with jl:=hj }
section
variable {ay oh:Own}{k:KF_}
set_option tactic.hygienic true in
theorem Qjc (T:Y1 c) (kf:KF ou ZW.scope) {hd d:Int}{td:Tok}{H P W x:J}{L1 L2 Rl r:Ad}{P0:J}{ev0:List Ad}{R0 R:Ad->Ad->Prop}{dp:List (Ad × Obj)}{reg:Ad->Nat}{rows:List (Ad × Op)}{jy ev Es:List Ad}{op:Op}{oj:LV}
  (TT:Qaj c H L1 L2 Rl P0 ev0 R0 dp i ay reg P W rows jy ev Es R) (D:Xn c ay oh P (ZR op x P) op x r oj) (rn:ay r=none) (M:Qbd m hd (ZR op x P) W H L1 L2 Rl) (aP:m "row"=some (.ref r)) (aq:m "deed"=some (.int d td)) (hi:i<=4) (hN:431<=N)
  (hk:∀m' o' bb W' rows' jy' Es' R',Qaj c H L1 L2 Rl P0 ev0 R0 dp (i+1) o' bb (ZR op x P) W' rows' jy' (ZJ op x ev) Es' R'->Qbd m' hd (ZR op x P) W' H L1 L2 Rl->k .next m' o'):Tactic.W c N ou m oh (execs (qK.drop 8) ou) k:=by
 obtain⟨C,Hg,p1,p2,r1,r2,rlen,gP,nP,zP⟩:=TT
 obtain⟨th,bZ⟩:=M.head
 have az:=M.plain
 have m_work:=M.work
 have aU:=M.pairs
 have aO:=M.others
 have bY:=M.rows
 have u0:=D.upd.drop rn
 have lL1:Lv ay L1:=C.live _ (by rw[r1];decide)
 have lL2:Lv ay L2:=C.live _ (by rw[r2];decide)
 have lRl:Lv ay Rl:=C.live _ (by rw[C.rR];decide)
 have hL:L1≠L2:=λe=>by rw[e] at r1;cases r1,r2
 have n1P:L1∉P.addrs:=λhm=>by have:=C.rP _ hm;cases r1,this
 have n2P:L2∉P.addrs:=λhm=>by have:=C.rP _ hm;cases r2,this
 have ev'L:∀b∈ZJ op x ev,b∈ev\/Lv oh b:=λb hb=>by
  unfold ZJ at hb
  split at hb
  ·rename_i hm
   exact(ma_.mp hb).elim (λh=>.inr (D.xl hm b h)) .inl
  ·exact .inl hb
 have ev'E:∀a∈Es,a∉ZJ op x ev:=λa ha=>by
  obtain⟨q1,q2⟩:=Hg.esE a ha
  unfold ZJ
  split
  ·rename_i hm
   exact λhq=>(ma_.mp hq).elim (λhq=>Lv.not (D.fx hm a hq) q2) q1
  ·exact q1
 obtain⟨reg1,C1,hF,ag1⟩:=C.deed u0 D.doc D.new (F:=r::(match op.val with|some U=>U.addrs|none=>[])) (λb hb=>by
  rcases mc_.mp hb with rfl|hb
  ·exact⟨rn,D.rn,D.rowD.live⟩
  ·split at hb
   ·rename_i U hU
    obtain⟨v1,v2⟩:=D.vn U hU
    exact⟨(v2 b hb).1,(v2 b hb).2,v1.live b hb⟩
   ·cases hb) ev'L
 have hFr:reg1 r=7:=hF r (.head _)
 have hFU:∀U,op.val=some U->∀b∈U.addrs,reg1 b=7:=λU hU b hb=>hF b (.tail _ (by rw[hU];exact hb))
 have q1:reg1 L1=4:=(ag1 _ lL1).trans r1
 have q2:reg1 L2=5:=(ag1 _ lL2).trans r2
 replace C1:=C1.addRow D.row D.og hFr hFU
 have pp1:=p1.upd u0 n1P λb xs e=>C.dP.aF e
 have pp2:=p2.upd u0 n2P λb xs e=>C.dP.aF e
 have hpz:P.size<=34:=by omega
 refine Qm ?_
 refine Qjd kf (op:=op) (Es:=Es) (jy:=jy) (ev:=ZJ op x ev) (B:=300*(i+1)) aP aq aU aO D.rowD D.hv (λU hU=>⟨(D.vn U hU).1,(D.row.val U hU).2,λhm=>?_,λhm=>?_⟩) pp1 pp2 hL (by omega) (λa ha=>Lv.upd (Hg.esE a ha).2 u0) (λa ha=>(ev'L a ha).elim (λh=>Lv.upd (C.el a h) u0) id) (by omega) λm1 o1 Es' jy' same LD hjy=>?_
 ·have:=hFU U hU _ hm;cases q1,this
 ·have:=hFU U hU _ hm;cases q2,this
 have hjn:∀b∈jy',b∈jy\/ay b=none:=λb hb=>by
  rcases hjy with rfl|⟨U,hU,rfl⟩
  ·exact .inl hb
  ·exact(ma_.mp hb).elim (λh=>.inr ((D.vn U hU).2 b h).1) .inl
 have u01:Upd oh o1 [L1,L2]:=LD.upd
 have hjl:∀b∈jy',Lv o1 b:=λb hb=>by
  rcases hjy with rfl|⟨U,hU,rfl⟩
  ·exact Lv.upd (C1.jl b hb) u01
  ·exact(ma_.mp hb).elim (λh=>Lv.upd ((D.vn U hU).1.live b h) u01) λh=>Lv.upd (C1.jl b h) u01
 have C2:Zn c o1 reg1 (ZR op x P) W H Rl rows (rows++[(r,op)]) jy' (ZJ op x ev) dp:=(C1.keep u01 λb hb=>by
  simp only[mc_,nn_,or_false] at hb
  rcases hb with rfl|rfl
  ·exact .inr (.inl q1)
  ·exact .inr (.inr q2)).setJy hjl
 have f_row:m1 "row"=some (.ref r):=(same _ (by ac_rfl)).trans aP
 have f_head:m1 "head"=some (.int hd th):=(same _ (by ac_rfl)).trans bZ
 have bL:m1 "plain"=some (ZR op x P).val:=(same _ (by ac_rfl)).trans az
 have f_work:m1 "work"=some W.val:=(same _ (by ac_rfl)).trans m_work
 have f_pairs:m1 "pairs"=some (.ref L1):=(same _ (by ac_rfl)).trans aU
 have f_others:m1 "others"=some (.ref L2):=(same _ (by ac_rfl)).trans aO
 have f_rows:m1 "rows"=some (.ref Rl):=(same _ (by ac_rfl)).trans bY
 have f_whole:m1 "whole"=some H.val:=(same _ (by ac_rfl)).trans M.whole
 obtain⟨nR,hRl⟩:=C2.hRl
 right
 refine Zq F.slot_list_append F.type_list_append hRl ?_
 right
 refine ZU hRl C2.bRl (Qd (by omega)) λn'=>?_
 have C3:=C2.putRow (r:=r) (op:=op) (n:=n')
 have u3:Upd o1 (o1.put Rl (lst ((rows.map λp=>Value.ref p.1)++[.ref r]) n')) [Rl]:=Upd.put .refl (.inl (by simp)) λo0 e=>by cases hRl,e;rfl
 generalize ho3:o1.put Rl (lst ((rows.map λp=>Value.ref p.1)++[.ref r]) n')=o3 at C3 u3 ⊢
 have neR:∀ {L:Ad}{n:Nat},reg1 L=n->n≠6->L∉[Rl]:=λe hn hm=>by
  rw[ms_.mp hm,C1.rR] at e;exact hn e.symm
 have s1:=LD.p1.upd u3 (neR q1 (by decide)) λb xs e hm=>Yn hRl e (ms_.mp hm)
 have s2:=LD.p2.upd u3 (neR q2 (by decide)) λb xs e hm=>Yn hRl e (ms_.mp hm)
 right
 refine⟨Qd (by simp),λLr hLr=>?_⟩
 have x4:=Ext.put (o:=lst [.ref r] 0) hLr.own
 have C4:=C3.ext x4
 have rowr:=C4.row (r,op) (by simp)
 refine⟨Zg (by symm),?_⟩
 refine Qf (Zt (M:=20+20) (QcA (N:=20) (rows:=[(r,op)]) (n:=0) (Qa ..) (λp hp=>?_) (by simp) λX dX Pl nP o5 I hPl x5=>?_) (by omega))
 ·refine memS hp ?_;exact⟨rowr.1,rowr.2.1⟩
 have C5:=C4.ext x5
 right
 refine Zo (f:=935) I.inst (by symm) (by symm) (by symm) (by symm) rfl ?_
 right
 refine Yb (j:=2) (by decide) (by decide) λtA=>?_
 right
 refine Xp (by decide) λtB=>?_
 right
 have lv05:∀b,Lv ay b->Lv o5 b:=λb hb=>Lv.upd (Lv.upd (Lv.upd (Lv.upd (Lv.upd hb u0) u01) u3) (x4.upd (S:=[]))) (x5.upd (S:=[]))
 have fm4:op.makes=true->∀a∈x.addrs,¬ Lv ay a:=λhm a ha=>Lv.not (D.fx hm a ha)
 have jR:∀a b,R a b->b∉jy':=λa b hab hb=>by
  rcases hjn b hb with h|h
  ·exact Hg.jW a b hab h
  ·exact Lv.not h (Hg.bW.ran hab)
 have hpow:11*2 ^ i<=176:=by
  have:2 ^ i<=2 ^ 4:=Nat.pow_le_pow_right (by decide) hi
  omega
 have zW:=Hg.zW
 rw[lm_,rlen] at zW
 have bB:=C5.row (r,op) (by simp)
 have PO:=QeX (c:=c) (oh:=o5) (V:=W) (P0:=P) (rows:=[(r,op)]) (Pn:=ZR op x P) (ev0:=ev) (evn:=ZJ op x ev) (R0:=R) (jy:=jy') (s:=11*2 ^ i - 4) (λp hp=>by
   rw[ms_.mp hp]
   refine⟨bB.1,bB.2.1,λhm=>?_,λU hU b hb hm=>?_⟩
   ·have h1:=C5.rW _ hm
    have h2:=bB.2.2.1
    cases h1,h2
   ·have h1:=C5.rW _ hm
    have h2:=bB.2.2.2 U hU b hb
    cases h1,h2) (by simp) C5.dW (Hg.fut1 C.el D.pre D.br D.nd fm4) Hg.sW ⟨Hg.bW.fn,Hg.bW.inj,Hg.bW.dom,λq=>lv05 _ (Hg.bW.ran q)⟩ jR C5.jl (by omega) (by show (11*2 ^ i - 4+4)*2 ^ 1<=404;omega)
 refine Qf (Zt (M:=0+431) (Qcn T PO I hPl λo6 W' Φ D6 U6 new6=>?_) hN)
 obtain⟨R',s6,b6,sub6,j6,z6⟩:=Φ.done rfl
 obtain⟨reg6,C6,ag6⟩:=C5.setW U6 D6 new6
 have lv56:∀b,Lv o5 b->Lv o6 b:=λb hb=>Lv.upd hb U6
 have t1:=((s1.ext x4).ext x5).upd U6 (λhm=>by have:=C5.rW _ hm;cases q1,this) (λb xs e=>C5.dW.aF e) |>.mono (B':=300*(i+1)+200) (Q':=QJ R' Es' jy') (λa b h=>h.imp (sub6 a b) id) (Nat.le_refl _)
 have t2:=((s2.ext x4).ext x5).upd U6 (λhm=>by have:=C5.rW _ hm;cases q2,this) (λb xs e=>C5.dW.aF e)
 have l5:∀b,Lv oh b->Lv o5 b:=λb hb=>Lv.upd (Lv.upd (Lv.upd (Lv.upd hb u01) u3) (x4.upd (S:=[]))) (x5.upd (S:=[]))
 have r61:reg6 L1=4:=(ag6 _ (lv05 _ lL1)).trans q1
 have r62:reg6 L2=5:=(ag6 _ (lv05 _ lL2)).trans q2
 have esE':∀a∈Es',a∉ZJ op x ev:=λa ha=>(LD.esE a ha).elim (ev'E a) id
 have zP':(ZR op x P).size<=18+4*(i+1):=by have:=D.size;omega
 right
 refine Qf (Zt (M:=100) (q9 (N:=100) (S:=R') (Q:=QJ R' Es' jy') C6.dP.ok C6.dW.ok s6 (fnQ b6 esE' j6) t1 (by omega) (by omega) (by omega) (λhm=>?_) (λhm=>?_) λo7 e7 t7=>?_) (by omega))
 ·have:=C6.rP _ hm;cases r61,this
 ·have:=C6.rW _ hm;cases r61,this
 right
 obtain⟨xs6,n6,hL6⟩:=t1.lst
 obtain⟨xs7,n7,hL7⟩:=t7.lst
 have u7:=e7.upd hL6 hL7
 have C7:=C6.keep u7 λb hb=>by refine memS hb ?_;exact .inr (.inl r61)
 have H7:=Hg.step (o':=o7) C.el D.pre D.br D.nd fm4 (jy':=jy') (λb hb=>(hjn b hb).imp id Lv.not) (Es':=Es') (λa ha=>.inr (esE' a ha)) (λa ha=>Lv.upd (lv56 _ (Lv.upd (Lv.upd (Lv.upd (LD.esL a ha) u3) (x4.upd (S:=[]))) (x5.upd (S:=[])))) u7)
  (λb hb=>Lv.upd (lv56 _ (lv05 b hb)) u7) s6 ⟨b6.fn,b6.inj,b6.dom,λq=>Lv.upd (b6.ran q) u7⟩ j6 (by
   rw[lm_,rlen,Nat.pow_succ]
   have z6':W'.size+4<=(11*2 ^ i - 4+4)*2 ^ 1:=z6
   have:1<=2 ^ i:=Nat.one_le_two_pow
   omega)
 have e:(rows++[(r,op)]).map (λx:Ad × Op=>x.2)=rows.map (λx:Ad × Op=>x.2)++[op]:=by rw[List.map_append];rfl
 refine hk _ o7 reg6 W' (rows++[(r,op)]) jy' Es' R' ⟨C7,by rw[e];exact H7,t7.mono (λx_ x_ h=>h) (by omega),(t2.upd u7 (λhm=>by rw[ms_.mp hm,r61] at r62;cases r62) λb xs e hm=>Yn hL6 e (ms_.mp hm)).mono (λx_ x_ h=>h) (by omega),r61,r62,by rw[la_,rlen];rfl,D.good,D.node,zP'⟩ ⟨⟨th,?_⟩,?_,Zf ..,?_,?_,?_,?_⟩
 all_goals nofun
end
theorem Qm6 {a b lo hi:Int}(ha:a=max 0 (min lo n)) (hb:b=max 0 (min hi n)) (h1:0<=hi) (hl:a < b):(b - a+1 - 1).toNat<=(hi - lo).toNat:=by
 have b1:b<=hi:=hb▸Int.max_le.mpr ⟨h1,Int.min_le_left ..⟩
 have b2:b<=n:=hb▸Int.max_le.mpr ⟨Int.natCast_nonneg _,Int.min_le_right ..⟩
 have a1:min lo n<=a:=ha▸Int.le_max_right ..
 have a2:lo<=a:=(Int.le_total lo n).elim (λh=>Int.min_eq_left h▸a1) λh=>absurd (Int.le_trans b2 (Int.min_eq_right h▸a1)) (Int.not_le.mpr hl)
 rw[Int.add_sub_cancel]
 exact Int.toNat_le_toNat (Int.sub_le_sub b1 a2)
theorem Qb7 {lo hi:Int}(h0:0<=lo) (h1:0<=hi):(slicePick xs.toArray (some lo) (some hi) none).toList.length<=(hi - lo).toNat:=by
 unfold slicePick
 refine Nat.le_trans (List.length_filterMap_le _ _) ?_
 have hb:∀n:Nat,sliceBounds (some lo) (some hi) none n=(max 0 (min lo n),max 0 (min hi n),1):=λn=>by
  unfold sliceBounds
  show (max 0 (min (if lo < 0 then _ else lo) (n:Int)),max 0 (min (if hi < 0 then _ else hi) (n:Int)),(1:Int))=_
  rw[if_neg (Int.not_lt.mpr h0),if_neg (Int.not_lt.mpr h1)]
 rw[hb]
 unfold sliceRange
 rw[lm_,List.length_range,if_pos (show (1:Int) > 0 by decide)]
 split
 ·next h=>rw[Int.ediv_one];exact Qm6 rfl rfl h1 h
 ·exact Nat.zero_le _
theorem Qb8 {lo hi:Option Int}(h:v∈(slicePick xs.toArray lo hi none).toList):v∈xs:=by
 unfold slicePick at h
 rw[List.toList_toArray] at h
 obtain⟨i,_,hi⟩:=List.mem_filterMap.mp h
 exact mg_ (by simpa using hi)
theorem QnC {o:Own}{P W H:J}{L1 L2 Rl Ld:Ad}{dl:Obj}(dP:Doc c o P) (dW:Doc c o W) (dH:Doc c o H) (hPW:∀b∈W.addrs,b∉P.addrs) (hPH:∀b∈H.addrs,b∉P.addrs/\b∉W.addrs)
  (h1:L1∉P.addrs/\L1∉W.addrs/\L1∉H.addrs) (h2:L2∉P.addrs/\L2∉W.addrs/\L2∉H.addrs/\L2≠L1) (hR:Rl∉P.addrs/\Rl∉W.addrs/\Rl∉H.addrs/\Rl≠L1/\Rl≠L2) (hD:Ld∉P.addrs/\Ld∉W.addrs/\Ld∉H.addrs/\Ld≠L1/\Ld≠L2/\Ld≠Rl)
  (l1:Lv o L1) (l2:Lv o L2) (oR:o Rl=some (lst [] n)) (bR:c.H.get? Rl=none) (oD:o Ld=some dl):∃reg,Zn c o reg P W H Rl [] [] [] P.addrs [(Ld,dl)]/\reg L1=4/\reg L2=5:=by
 refine⟨wth (wth (wth (wth (wth (wth (wth (λx_=>0) [Ld] 8) [Rl] 6) [L2] 5) [L1] 4) H.addrs 3) W.addrs 2) P.addrs 1,⟨dP,dW,dH,λb hb=>XG hb,λb hb=>?_,λb hb=>?_,?_,λb hb=>?_,⟨n,oR⟩,bR,λp hp=>(nomatch hp),λb hb=>(nomatch hb),dP.live,λq hq=>?_⟩,?_,?_⟩
 ·rw[Q7 (hPW b hb),XG hb]
 ·rw[Q7 (hPH b hb).1,Q7 (hPH b hb).2,XG hb]
 ·rw[Q7 hR.1,Q7 hR.2.1,Q7 hR.2.2.1,Q7 (nsg hR.2.2.2.1),Q7 (nsg hR.2.2.2.2),XG (by simp)]
 ·by_cases q1:b∈P.addrs
  ·exact dP.live b q1
  rw[Q7 q1] at hb
  by_cases q2:b∈W.addrs
  ·exact dW.live b q2
  rw[Q7 q2] at hb
  by_cases q3:b∈H.addrs
  ·exact dH.live b q3
  rw[Q7 q3] at hb
  by_cases q4:b∈[L1]
  ·refine memS q4 ?_;exact l1
  rw[Q7 q4] at hb
  by_cases q5:b∈[L2]
  ·refine memS q5 ?_;exact l2
  rw[Q7 q5] at hb
  by_cases q6:b∈[Rl]
  ·refine memS q6 ?_;exact .of oR
  rw[Q7 q6] at hb
  by_cases q7:b∈[Ld]
  ·refine memS q7 ?_;exact .of oD
  rw[Q7 q7] at hb
  exact absurd rfl hb
 ·rw[ms_.mp hq]
  refine⟨?_,oD⟩
  rw[Q7 hD.1,Q7 hD.2.1,Q7 hD.2.2.1,Q7 (nsg hD.2.2.2.1),Q7 (nsg hD.2.2.2.2.1),Q7 (nsg hD.2.2.2.2.2),XG (by simp)]
 ·rw[Q7 h1.1,Q7 h1.2.1,Q7 h1.2.2,XG (by simp)]
 ·rw[Q7 h2.1,Q7 h2.2.1,Q7 h2.2.2.1,Q7 (nsg h2.2.2.2),XG (by simp)]
theorem qQ {X Y:J}{o:Own}(hx:X.addrs.Nodup) (hy:Y.addrs.Nodup) (hl:∀b∈Y.addrs,Lv o b):Bij (Pr X Y) (·∈X.addrs) (Lv o):=by
 have B:=Bij.add (R:=λx_ x_=>False) (D:=λx_=>False) (E:=λx_=>False) ⟨λh=>h.elim,λh=>h.elim,λh=>h,λh=>h⟩ hx hy (λx_ x_ h=>h) λx_ x_ h=>h
 exact⟨λh h'=>B.fn (.inr h) (.inr h'),λh h'=>B.inj (.inr h) (.inr h'),λh=>h.mem.1,λh=>hl _ h.mem.2⟩
theorem QeB {o:Own}{L:Ad}{Q:Ad->Ad->Prop}(hb:c.H.get? L=none) (h:o L=some (lst [] n)):Pairs c o L Q 0:=⟨hb,[],n,h,Nat.le_refl _,λt ht=>(nomatch ht)⟩
theorem Ext.b0 {o0 o1 o2:Own}{S:List Ad}(x:Ext o0 o1) (u:Upd o1 o2 S) (h:∀b∈S,o0 b=Option.none):Ext o0 o2:=λb ob e=>u.keep b ob (λhm=>by cases (h b hm),e) (x b ob e)
theorem QeE {o:Own}{X:J}(h:Ok c o X) (e:X.val = .ref a):X.isNode=true:=by
 induction h with
 |atom h=>induction h<;>cases e
 |node _ _=>rfl
section
abbrev QM (c:Cx) (hd:Int) (P H:J) (L1 L2 Rl Ld:Ad) (ns:List Vl) (i:Nat) (m:Loc) (o:Own):Prop:=∃P' Wd' reg rows jy ev Es R,Qaj c H L1 L2 Rl P P.addrs (Pr P H) [(Ld,lst ns 0)] i o reg P' Wd' rows jy ev Es R/\Qbd m hd P' Wd' H L1 L2 Rl
abbrev QN (c:Cx) (m0:Loc) (o0:Own) (m':Loc) (o':Own):Prop:=∃P,m'=upd m0 "plain" P.val/\Ext o0 o'/\Doc c o' P/\Q4 P/\P.size<=7/\P.isNode=true
set_option tactic.hygienic true in
theorem Qmj (T:Y1 c) {m0:Loc}{o0:Own}{Ls:Ad}{nx:Nat}{hd:Int}{th:Tok}(kf:KF ou ZW.scope) (hL:o0 Ls=some (lst xs nx)) (hi:∀v∈xs,∃i t,v = .int i t) (hl:xs.length<=63) (hN:431<=N)
  (bZ:m0 "head"=some (.int hd th)) (bh:m0 "script"=some (.ref Ls)):W c N ou m0 o0 (execs ((Qy (Ql 76)).drop 1) ou) (λfl x_ o=>YP fl = .bool true):=by
 refine(X3 (R:=(QN c m0 o0)) ?_ ?_)
 ·with_reducible refine Qau (by assumption) ?hl ?_ ?hsw
  case hl=>exact rfl
  case hsw=>exact rfl
  right
  refine Xp (by decide) λtA=>?_
  right
  refine⟨λhb=>?_,λhb=>?_⟩
  ·
   refine Qbi λa0 oa hna hda=>?_
   have na:o0 a0=none:=hna.own
   have xa:=Ext.put (o:=oa) na
   have Da:Doc c (o0.put a0 oa) (.node a0 true []):=⟨Ok.dct hna.base (Qa ..) hda fa0,nd1 rfl⟩
   generalize hown:o0.put a0 oa=own0' at xa Da ⊢
   right
   refine Yi (XA (Yd λt1=>XA (Yd λt2=>?_)))
   intro sl hsl
   refine qy (xs:=xs) (QE hsl.own (xa _ _ hL)) (Qa ..) (.int _ _) (.int _ _) (Qd (by omega)) rfl λD1 hD1=>?_
   right
   refine⟨Qd (by simp),λD2 hD2=>?_⟩
   have pl:=Qb7 (xs:=xs) (lo:=1) (hi:=3) (by decide) (by decide)
   have pl2:(slicePick xs.toArray (some 1) (some 3) none).toList.length<=2:=pl
   refine Qbk (QE hD2.own (Qa ..)) (Qa ..) (Qd (by simp only[lc_,List.length_nil];omega)) λD3 hD3=>?_
   have xs2:=Ext.put (o:=Xu (.int 1 t1) (.int 3 t2)) hsl.own
   have xs3:=Ext.put (o:=lst (slicePick xs.toArray (some 1) (some 3) none).toList 0) hD1.own
   have x02:=λob=>Ext.ai (o:=ob) ((xa.trans xs2).trans xs3) hD2.own
   have xa2:=λob=>Ext.ai (o:=ob) (xs2.trans xs3) hD2.own
   have x03:=λob'=>Ext.ai (o:=ob') (x02 _) hD3.own
   have xa3:=λob'=>Ext.ai (o:=ob') (xa2 _) hD3.own
   have a3:D3≠a0:=by
    obtain⟨oa,hoa⟩:=Da.ok.there a0 J.m0
    exact hD3.ne ((xa2 _) _ _ hoa)
   right
   refine Qf (Zt (M:=2+2) (Qcz (N:=2) (Da.ext (xa3 _)) (Qa ..) (λv hv=>?_) (by simp only[la_,lc_,List.length_nil];omega) a3 λo' X G=>?_) (by omega))
   ·rcases ma_.mp hv with h|h
    ·exact hi v (Qb8 h)
    ·simp only[mc_,nn_,or_false] at h
     rcases h with rfl|rfl|rfl|rfl<;>exact⟨_,_,rfl⟩
   ·have hz:=G.size
    simp only[la_,lc_,List.length_nil] at hz
    exact⟨rfl,X,by rw[G.root],(x03 _).b0 G.upd λb hb=>by refine memS hb ?_;exact na,G.doc,G.good,by omega,QeE G.doc.ok G.root⟩
  ·
   right
   refine⟨Qd (by simp),λa0 hna=>?_⟩
   have na:o0 a0=none:=hna.own
   have xa:=Ext.put (o:=lst [] 0) na
   have Da:Doc c (o0.put a0 (lst [] 0)) (.node a0 false []):=⟨Ok.lst hna.base (Qa ..) fa0,nd1 rfl⟩
   generalize hown:o0.put a0 (lst [] 0)=own0' at xa Da ⊢
   right
   refine Yi (XA (Yd λt1=>XA (Yd λt2=>?_)))
   intro sl hsl
   refine qy (xs:=xs) (QE hsl.own (xa _ _ hL)) (Qa ..) (.int _ _) (.int _ _) (Qd (by omega)) rfl λD1 hD1=>?_
   right
   refine⟨Qd (by simp),λD2 hD2=>?_⟩
   have pl:=Qb7 (xs:=xs) (lo:=1) (hi:=3) (by decide) (by decide)
   have pl2:(slicePick xs.toArray (some 1) (some 3) none).toList.length<=2:=pl
   refine Qbk (QE hD2.own (Qa ..)) (Qa ..) (Qd (by simp only[lc_,List.length_nil];omega)) λD3 hD3=>?_
   have xs2:=Ext.put (o:=Xu (.int 1 t1) (.int 3 t2)) hsl.own
   have xs3:=Ext.put (o:=lst (slicePick xs.toArray (some 1) (some 3) none).toList 0) hD1.own
   have x02:=λob=>Ext.ai (o:=ob) ((xa.trans xs2).trans xs3) hD2.own
   have xa2:=λob=>Ext.ai (o:=ob) (xs2.trans xs3) hD2.own
   have x03:=λob'=>Ext.ai (o:=ob') (x02 _) hD3.own
   have xa3:=λob'=>Ext.ai (o:=ob') (xa2 _) hD3.own
   have a3:D3≠a0:=by
    obtain⟨oa,hoa⟩:=Da.ok.there a0 J.m0
    exact hD3.ne ((xa2 _) _ _ hoa)
   right
   refine Qf (Zt (M:=2+2) (Qcz (N:=2) (Da.ext (xa3 _)) (Qa ..) (λv hv=>?_) (by simp only[la_,lc_,List.length_nil];omega) a3 λo' X G=>?_) (by omega))
   ·rcases ma_.mp hv with h|h
    ·exact hi v (Qb8 h)
    ·simp only[mc_,nn_,or_false] at h
     rcases h with rfl|rfl|rfl|rfl<;>exact⟨_,_,rfl⟩
   ·have hz:=G.size
    simp only[la_,lc_,List.length_nil] at hz
    exact⟨rfl,X,by rw[G.root],(x03 _).b0 G.upd λb hb=>by refine memS hb ?_;exact na,G.doc,G.good,by omega,QeE G.doc.ok G.root⟩
 rintro m1 o1 ⟨P,rfl,x1,DP,gP,zP,nP⟩
 have pz:=P.size_pos
 right
 refine Qf (Zt (M:=10) (ZT (qY (N:=10) DP.ok (by omega) (by omega)) λv o2 CC=>?_) (by omega))
 obtain⟨Wd,rfl,cpW,okW,x2,fW⟩:=CC
 right
 have DP2:=DP.ext x2
 have DW2:Doc c o2 Wd:=fW.doc okW
 refine Qf (Zt (M:=10) (ZT (qY (N:=10) DP2.ok (by omega) (by omega)) λv o3 CC=>?_) (by omega))
 obtain⟨H,rfl,cpH,okH,x3,fH⟩:=CC
 have DP3:=DP2.ext x3
 have DW3:=DW2.ext x3
 have DH3:Doc c o3 H:=fH.doc okH
 right
 refine⟨Qd (by simp),λL1 hL1=>?_⟩
 have xL1:=Ext.put (o:=lst [] 0) hL1.own
 right
 refine⟨Qd (by simp),λL2 hL2=>?_⟩
 have xL2:=Ext.put (o:=lst [] 0) hL2.own
 have x5:Ext o3 ((o3.put L1 (lst [] 0)).put L2 (lst [] 0)):=xL1.trans xL2
 have l1P:L1∉P.addrs:=λhm=>Lv.not hL1.own (DP3.live _ hm)
 have l1W:L1∉Wd.addrs:=λhm=>Lv.not hL1.own (DW3.live _ hm)
 have l1H:L1∉H.addrs:=λhm=>Lv.not hL1.own (DH3.live _ hm)
 have hL2':=xL1.none hL2.own
 have l2P:L2∉P.addrs:=λhm=>Lv.not hL2' (DP3.live _ hm)
 have l2W:L2∉Wd.addrs:=λhm=>Lv.not hL2' (DW3.live _ hm)
 have l2H:L2∉H.addrs:=λhm=>Lv.not hL2' (DH3.live _ hm)
 have l21:L2≠L1:=hL2.ne (Qa ..)
 have hPW:∀b∈Wd.addrs,b∉P.addrs:=λb hb hm=>fW.out (DP.live b hm) hb
 have hPH:∀b∈H.addrs,b∉P.addrs/\b∉Wd.addrs:=λb hb=>⟨λhm=>fH.out (DP2.live b hm) hb,λhm=>fH.out (DW2.live b hm) hb⟩
 have sW:=(cpW.sim DP.ok).pairs
 have sH:=(cpH.sim DP2.ok).pairs
 have e1:((o3.put L1 (lst [] 0)).put L2 (lst [] 0)) L1=some (lst [] 0):=xL2 _ _ (Qa ..)
 have e2:((o3.put L1 (lst [] 0)).put L2 (lst [] 0)) L2=some (lst [] 0):=Qa ..
 generalize ho5:(o3.put L1 (lst [] 0)).put L2 (lst [] 0)=o5 at x5 e1 e2 ⊢
 have DP5:=DP3.ext x5
 have DW5:=DW3.ext x5
 have DH5:=DH3.ext x5
 have bW:Bij (Pr P Wd) (·∈P.addrs) (Lv o5):=qQ DP.nd DW5.nd DW5.live
 have bH:Bij (Pr P H) (·∈P.addrs) (Lv o5):=qQ DP.nd DH5.nd DH5.live
 right
 refine Qf (Zt (M:=20) (q9 (N:=20) (S:=Pr P Wd) (Q:=QJ (Pr P Wd) [] []) (B:=0) DP5.ok DW5.ok sW (fnQ bW (λa ha=>(nomatch ha)) λa b x_ hb=>(nomatch hb)) (QeB hL1.base e1) (by omega) (by omega) (by omega) l1P l1W λo6 E6 p6=>?_) (by omega))
 obtain⟨xs6,n6,hl6⟩:=p6.lst
 have u6:Upd o5 o6 [L1]:=E6.upd e1 hl6
 have DP6:=u6.doc DP5 λb hb hm=>l1P (ms_.mp hm▸hb)
 have DW6:=u6.doc DW5 λb hb hm=>l1W (ms_.mp hm▸hb)
 have DH6:=u6.doc DH5 λb hb hm=>l1H (ms_.mp hm▸hb)
 have e26:o6 L2=some (lst [] 0):=u6.keep _ _ (nsg l21) e2
 have bH6:Bij (Pr P H) (·∈P.addrs) (Lv o6):=qQ DP.nd DH6.nd DH6.live
 right
 refine Qf (Zt (M:=20) (q9 (N:=20) (S:=Pr P H) (Q:=QJ (Pr P H) [] []) (B:=0) DP6.ok DH6.ok sH (fnQ bH6 (λa ha=>(nomatch ha)) λa b x_ hb=>(nomatch hb)) (QeB hL2.base e26) (by omega) (by omega) (by omega) l2P l2H λo7 E7 p7=>?_) (by omega))
 obtain⟨xs7,n7,hl7⟩:=p7.lst
 have u7:Upd o6 o7 [L2]:=E7.upd e26 hl7
 have DP7:=u7.doc DP6 λb hb hm=>l2P (ms_.mp hm▸hb)
 have DW7:=u7.doc DW6 λb hb hm=>l2W (ms_.mp hm▸hb)
 have DH7:=u7.doc DH6 λb hb hm=>l2H (ms_.mp hm▸hb)
 have p67:=p6.upd u7 (nsg l21.symm) λb xs e hm=>Yn e26 e (ms_.mp hm)
 right
 refine⟨Qd (by simp),λRl hRl=>?_⟩
 have xR:=Ext.put (o:=lst [] 0) hRl.own
 have lvL1:Lv o7 L1:=Lv.upd (.of hl6) u7
 have lvL2:Lv o7 L2:=.of hl7
 right
 have hLs3:o3 Ls=some (lst xs nx):=x3 _ _ (x2 _ _ (x1 _ _ hL))
 have hLs5:=x5 _ _ hLs3
 have ls1:Ls≠L1:=hL1.ne' hLs3
 have ls2:Ls≠L2:=hL2.ne' (xL1 _ _ hLs3)
 have hLs7:o7 Ls=some (lst xs nx):=u7.keep _ _ (nsg ls2) (u6.keep _ _ (nsg ls1) hLs5)
 refine X0 ?_
 right
 refine Yi (XA (Yd λt1=>XA (Yd λt2=>?_)))
 intro sl hsl
 refine qy (xs:=xs) (QE hsl.own (xR _ _ hLs7)) (Qa ..) (.int _ _) (.int _ _) (Qd (by omega)) rfl λD1 hD1=>?_
 right
 rename_i ta
 refine⟨Qd (by simp),λD2 hD2=>?_⟩
 have pl:(slicePick xs.toArray (some 3) (some 6) none).toList.length<=3:=Qb7 (xs:=xs) (lo:=3) (hi:=6) (by decide) (by decide)
 refine Qbk (QE hD2.own (Qa ..)) (Qa ..) (Qd (by simp only[lc_,List.length_nil];omega)) λLd hLd=>?_
 have xs2:=Ext.put (o:=Xu (.int 3 t1) (.int 6 t2)) hsl.own
 have xs3:=Ext.put (o:=lst (slicePick xs.toArray (some 3) (some 6) none).toList 0) hD1.own
 have y82:=Ext.ai (o:=lst [.int 10 ta,.int 21 zt] 0) (xs2.trans xs3) hD2.own
 have x82:=xR.trans y82
 have hLd0:=hLd.own
 have aG:∀v∈(slicePick xs.toArray (some 3) (some 6) none).toList++[Value.int 10 ta,Value.int 21 zt],∃i t,v = .int i t:=λv hv=>by
  rcases ma_.mp hv with h|h
  ·exact hi v (Qb8 h)
  ·simp only[mc_,nn_,or_false] at h
   rcases h with rfl|rfl<;>exact⟨_,_,rfl⟩
 have hlen:((slicePick xs.toArray (some 3) (some 6) none).toList++[Value.int 10 ta,Value.int 21 zt]).length<=5:=by rw[la_];simp only[lc_,List.length_nil];omega
 generalize ((slicePick xs.toArray (some 3) (some 6) none).toList++[Value.int 10 ta,Value.int 21 zt])=ns at aG hlen ⊢
 have y8:=Ext.ai (o:=lst ns 0) y82 hLd.own
 have x8:=xR.trans y8
 have nLd:∀ {b:Ad},Lv o7 b->b≠Ld:=λ {b} hb e=>by
  obtain⟨ob,hob⟩:=is_.mp hb
  have:=x82 _ _ hob
  rw[e,hLd0] at this;cases this
 have nRl:∀ {b:Ad},Lv o7 b->b≠Rl:=λ {b} hb e=>by
  obtain⟨ob,hob⟩:=is_.mp hb
  rw[e,hRl.own] at hob;cases hob
 have RlLd:Ld≠Rl:=λe=>by
  have:=y82 Rl _ (Qa ..)
  rw[e] at hLd0
  cases hLd0,this
 have oR8:=y8 Rl _ (Qa ..)
 generalize ho8:((((o7.put Rl (lst [] 0)).put sl (Xu (.int 3 t1) (.int 6 t2))).put D1 (lst (slicePick xs.toArray (some 3) (some 6) none).toList 0)).put D2 (lst [.int 10 ta,.int 21 zt] 0)).put Ld (lst ns 0)=o8 at x8 oR8 ⊢
 have oLd:o8 Ld=some (lst ns 0):=by rw[<- ho8];exact Qa ..
 clear ho8 y8
 have DP8:=DP7.ext x8
 have DW8:=DW7.ext x8
 have DH8:=DH7.ext x8
 obtain⟨reg,C8,r81,r82⟩:=QnC (L1:=L1) (L2:=L2) DP8 DW8 DH8 hPW hPH ⟨l1P,l1W,l1H⟩ ⟨l2P,l2W,l2H,l21⟩ ⟨λhm=>nRl (DP7.live _ hm) rfl,λhm=>nRl (DW7.live _ hm) rfl,λhm=>nRl (DH7.live _ hm) rfl,(nRl lvL1).symm,(nRl lvL2).symm⟩
  ⟨λhm=>nLd (DP7.live _ hm) rfl,λhm=>nLd (DW7.live _ hm) rfl,λhm=>nLd (DH7.live _ hm) rfl,(nLd lvL1).symm,(nLd lvL2).symm,RlLd⟩ (Lv.upd lvL1 (x8.upd (S:=[]))) (Lv.upd lvL2 (x8.upd (S:=[]))) oR8 hRl.base oLd
 have szW:=cpW.size
 have szH:=cpH.size
 have T0:Qaj c H L1 L2 Rl P P.addrs (Pr P H) [(Ld,lst ns 0)] 0 o8 reg P Wd [] [] P.addrs [] (Pr P Wd) :=
  ⟨C8,⟨.nil,sW,qQ DP.nd DW8.nd DW8.live,λa b x_ hb=>(nomatch hb),sH,qQ DP.nd DH8.nd DH8.live,λa b x_ hb=>(nomatch hb),by show Wd.size+4<=11*2 ^ 0;omega,by omega,λa ha=>(nomatch ha),λa ha=>ha⟩,(p67.ext x8).mono (λx_ x_ h=>h) (by omega),(p7.ext x8).mono (λx_ x_ h=>h) (by omega),r81,r82,rfl,gP,nP,by omega⟩
 refine⟨_,_,_,(QM c hd P H L1 L2 Rl Ld ns),Xv oLd,⟨P,Wd,reg,[],[],P.addrs,[],Pr P Wd,T0,⟨⟨th,?_⟩,?_,?_,?_,?_,?_,?_⟩⟩,λi m o J q hq=>?_,λi v m o hi' hPv J=>?_,λm o J=>?_⟩
 iterate 7 (· nofun)
 ·obtain⟨P',Wd',reg,rows,jy,ev,Es,R,TT,_⟩:=J
  exact(TT.core.hdp q hq).2
 ·obtain⟨P',Wd',reg,rows,jy,ev,Es,R,TT,MM⟩:=J
  obtain⟨z,tz,rfl⟩:=aG v (mg_ hPv)
  refine Zv kf rfl ?_
  have hsz:=TT.size
  refine Qjb kf (i:=z) (ti:=tz) TT.core.dP TT.good TT.node (by omega) ((XF (by ac_rfl)).trans MM.plain) (Zf ..) (by omega) λm' o' P'' op x r oj d td hst hpl aT hdeed rn DD=>?_
  obtain rfl:=DD.eq
  have st:∀y∈QaV,y≠zz "number"->m' y=m y:=λy hy hne=>(hst y hy).trans (XF hne)
  obtain⟨th',MMh⟩:=MM.head
  refine Qjc T kf TT DD rn ⟨⟨th',(st _ (by ac_rfl) (by ac_rfl)).trans MMh⟩,hpl,(st _ (by ac_rfl) (by ac_rfl)).trans MM.work,(st _ (by ac_rfl) (by ac_rfl)).trans MM.whole,(st _ (by ac_rfl) (by ac_rfl)).trans MM.pairs,(st _ (by ac_rfl) (by ac_rfl)).trans MM.others,(st _ (by ac_rfl) (by ac_rfl)).trans MM.rows⟩ aT hdeed (by omega) hN λm2 o2 reg2 W2 rows2 jy2 Es2 R2 TT2 MM2=>?_
  exact⟨_,W2,reg2,rows2,jy2,_,Es2,R2,TT2,MM2⟩
 ·obtain⟨P',Wd',reg,rows,jy,ev,Es,R,TT,MM⟩:=J
  refine ZV ?_
  obtain⟨th',m_head'⟩:=MM.head
  have bY:=MM.rows
  have m_whole:=MM.whole
  have az:=MM.plain
  have aO:=MM.others
  have C:=TT.core
  have Hg:=TT.hang
  have rlen:=TT.len
  obtain⟨nR,hRl'⟩:=C.hRl
  right
  refine⟨Zg (by symm),?_⟩
  refine Qf (Zt (M:=20+20) (QcA (N:=20) (rows:=rows) hRl' (λp hp=>⟨(C.row p hp).1,(C.row p hp).2.1⟩) (by omega) λX dX Pl nP' o9 I hPl x9=>?_) (by omega))
  have C9:=C.ext x9
  right
  refine Zo (f:=935) I.inst (by symm) (by symm) (by symm) (by symm) rfl ?_
  right
  refine Yb (j:=4) (by decide) (by decide) λtA=>?_
  right
  refine Xp (by decide) λtB=>?_
  right
  have l9:∀b,Lv o b->Lv o9 b:=λb hb=>Lv.upd hb (x9.upd (S:=[]))
  have PO:=QeX (c:=c) (oh:=o9) (V:=H) (P0:=P) (rows:=rows) (Pn:=P') (ev0:=P.addrs) (evn:=ev) (R0:=Pr P H) (jy:=jy) (s:=7) (λp hp=>by
    obtain⟨q1,q2,q3,q4⟩:=C9.row p hp
    refine⟨q1,q2,λhm=>?_,λU hU b hb hm=>?_⟩
    ·have h1:=C9.rH _ hm
     cases q3,h1
    ·have h1:=C9.rH _ hm
     cases (q4 U hU b hb),h1) (by omega) C9.dH Hg.fut Hg.sH ⟨Hg.bH.fn,Hg.bH.inj,Hg.bH.dom,λq=>l9 _ (Hg.bH.ran q)⟩ Hg.jH C9.jl Hg.zH (by
    have:2 ^ rows.length<=2 ^ 5:=Nat.pow_le_pow_right (by decide) (by omega)
    omega)
  refine Qf (Zt (M:=0+431) (Qcn T PO I hPl λo10 H' Φ D10 U10 new10=>?_) hN)
  obtain⟨R',s10,b10,sub10,j10,_⟩:=Φ.done (by rw[lm_])
  have r1:=TT.r1
  have r2:=TT.r2
  have t2:=(TT.p2.ext x9).upd U10 (λhm=>by have:=C9.rH _ hm;cases r2,this) (λb xs e=>C9.dH.aF e) |>.mono (B':=300*(ns.length+1)) (Q':=QJ R' Es jy) (λa b h=>h.imp (sub10 a b) id) (Nat.le_refl _)
  have DP10:=U10.doc C9.dP λb hb hm=>by
   have h1:=C9.rH _ hm
   cases (C9.rP b hb),h1
  have zP':=TT.size
  right
  refine Qf (Zt (M:=100) (q9 (N:=100) (S:=R') (Q:=QJ R' Es jy) DP10.ok D10.ok s10 (fnQ b10 (λa ha=>(Hg.esE a ha).1) j10) t2 (by omega) (by omega) (by omega) (λhm=>?_) (λhm=>?_) λo11 e11 t11=>?_) (by omega))
  ·have:=C9.rP _ hm;cases r2,this
  ·rcases new10 _ hm with h|h
   ·have:=C9.rH _ h;cases r2,this
   ·exact Lv.not h (C9.live _ (by rw[r2];decide))
  right
  rfl
end
section
theorem QcM {A:Ar}{p:Pos}{Q:KQ_}(S:St c ou m oh fr s) (h:m x=some v) (hQ:Q v s) (hd:(x==("__debug__":Str))=false:=by ac_rfl) (hx:(x==("__classdict__":Str))=false:=by ac_rfl) :
  wA (model c.prog c.w) A (eval (.Name x p) ou) Q F0 s:=by
 rw[arm_eval_Name,hd]
 refine wb9 (ws_ ?_)
 rcases S.fm.kd x v h with hl|⟨hl,cl,hc,hv⟩
 ·obtain⟨ml,hn,hm⟩:=S.fm.ml
  exact wpAny_loadName_local S.fm.kf hl hn (hm x v h hl) hQ
 ·rcases hl with hl|hl
  ·exact wpAny_loadName_cell S.fm.kf hl hc hv hQ
  ·exact wpAny_loadName_free S.fm.kf hl hc hv hQ hx
theorem Qmi {Ls:Ad}{nx n1 n2:Nat}{q p1 p2 p3 p4 p5 p6 p:Pos}{Q:Flow->Sh->Prop}(kf:KF ou ZW.scope) (hA:Qu N A) (S:St c ou m oh fr s) (bh:m "script"=some (.ref Ls)) (hL:oh Ls=some (lst xs nx)) (hi:∀v∈xs,∃i t,v = .int i t) (hl:xs.length<=63)
  (hQ:∀hd t s',St c ou (upd m "head" (.int hd t)) oh fr s'->0 < s'.toks->Q .next s') :
  wA (model c.prog c.w) A (exec (.Assign [.Name (zz "head") q] (.IfExp (.Name (zz "script") p1) (.Subscript (.Name (zz "script") p2) (.Constant (.int 0) n1 p3) p4) (.Constant (.int 0) n2 p5) p6) p) ou) Q F0 s:=by
 have hloc:ou.kindOf (zz "head")=some .local:=kf _ _ (by intro z;cases z) rfl
 rw[exec_Assign_Name ou _ q _ p rfl]
 refine wb9 (ws_ (wb9 ?_))
 have tail:∀ (i:Int) (t:Tok) (s':Sh) (pos:Pos),St c ou m oh fr s'->0 < s'.toks->wA (model c.prog c.w) A (do standAt pos;bindName ou (zz "head") (.int i t);pure Flow.next) Q F0 s':=by
  intro i t s' pos S' P'
  refine W.run (c:=c) (N:=N) (ou:=ou) (m:=m) (oh:=oh) (fr:=fr) (k:=λ (fl:Flow) m' o'=>fl = .next/\m'=upd m "head" (.int i t)/\o'=oh) ?_ hA S' P' ?_
  ·exact Qc (Q1 (Qc (Y2 (Y9 hloc (Qs ⟨rfl,rfl,rfl⟩)))))
  ·rintro fl m' o' s'' ⟨e1,e2,e3⟩ S'' P''
   subst e1;subst e2;subst e3
   exact hQ i t s'' S'' P''
 rw[arm_eval_IfExp]
 refine wb9 ?_
 show wA _ _ (do let v <- eval (.Name (zz "script") p1) ou;standAt _;holding [v] (truthy v)) _ _ _
 refine wb9 (QcM S bh (wb9 (ws_ (wh_ ?_))))
 refine wpAny_truthy_list (S.sg.lst hL) (by simpa using qV (Qd (by omega))) ?_
 cases xs with
 |nil =>
  show wA _ _ (eval (.Constant (.int 0) n2 p5) ou) _ _ _
  refine wpAny_Constant_int ?_
  exact tail _ _ _ _ ⟨S.sg.tok _,S.fm,S.dl⟩ (Nat.succ_pos _)
 |cons v r =>
  show wA _ _ (eval (.Subscript (.Name (zz "script") p2) (.Constant (.int 0) n1 p3) p4) ou) _ _ _
  obtain⟨i,t,rfl⟩:=hi _ (.head _)
  rw[arm_eval_Subscript]
  refine wb9 (QcM ⟨S.sg.tok _,S.fm,S.dl⟩ bh (wb9 (wh_ (wpAny_Constant_int ?_))))
  refine W.run (c:=c) (N:=N) (ou:=ou) (m:=m) (oh:=oh) (fr:=fr) (k:=λv m' o'=>v = .int i t/\m'=m/\o'=oh) ?_ hA ⟨S.sg.tok _,S.fm,S.dl⟩ (Nat.succ_pos _) λv m' o' s' ⟨e1,e2,e3⟩ S' P'=>?_
  ·exact Qc (Q1 (Qc (Qk (Xz hL (by decide) (v:=.int i t) rfl (by decide) ⟨rfl,rfl,rfl⟩) λb m w h=>Qc (Qk h λr m w h=>Qc (Qar (Qs h))))))
  ·subst e1;subst e2;subst e3;exact tail _ _ _ _ S' P'
end
section
variable {α β:Type}
theorem QfJ {f:Ad}{fd:Fd_}{body:List Stmt}{args:Args}{binds:LV}{oc:Vl}{od:Option Ad}{osl:Array (Option Vl)}{k:KO}
  (hK:c.K.lookup f=some ⟨oc,od,.func fd,osl⟩) (hb:fd.body = .stmts body) (hclo:fd.closure=[]) (hgl:fd.globals=mainGlobals) (hbt:fd.builtins=builtinsNs)
  (hcd:codeIn c.K fd.code fd.qualname=true) (hbind:∀s,c.K.In s.heap->BindsTo s fd args binds)
  (bp:(binds.all λy=>fd.scope.names.lookup y.1==some .local||fd.scope.names.lookup y.1==some .cell)=true)
  (hnf:fd.scope.names.all (λq=>q.2 != .free)=true) (hco:fd.scope.isCoroutine=false) (hgen:fd.scope.isGenerator=false) (hk:fd.scope.kind = .function)
  {A:Ar}{s:Sh}{fr:Own}{Q:Result->Sh->Prop}(hA:Qu (N+1) A) (S:Sg c oh fr s)
  (h:∀ (ou:Env) (A:Ar) (s':Sh) (Q':Flow->Sh->Prop),ou.scope=fd.scope->ou.code=fd.code->Qu N A->St c ou (λx=>binds.reverse.lookup x) oh fr s'->(∀fl m' o' s'',k (YP fl) o'->St c ou m' o' fr s''->Q' fl s'')->wA (model c.prog c.w) A (execs body ou) Q' F0 s')
  (hQ:∀v oo s',k v oo->Sg c oo fr s'->Q (.ok (.ret v)) s'):codeAny (model c.prog c.w) A (.call (.ref f) args) Q s:=by
 have hd:A.depth < recursionLimit:=by have:=hA.1;omega
 refine(codeAny_call_function (args:=args) hd (S.kIn _ _ hK) rfl hco hgen hb (codeRec_of S.kIn hcd) (hbind s S.kIn _ _ _ _ ?_))
 rw[hclo,hgl,hbt]
 refine wpAny_newFunctionEnv_cells hk (kindsX bp _) λou he s' x=>⟨S.nolimit.keeps x.toInCall.keep,codeAny_func ?_⟩
 have hsc:ou.scope=fd.scope:=by rw[he];rfl
 obtain⟨h',tk,hs'⟩:=x.toInCall.same
 have ko:∀x,ou.kindOf x=fd.scope.names.lookup x:=λx=>by unfold Env.kindOf;rw[hsc]
 have cs:ou.cells=cellsFrom (s.heap.objs.size+1) fd.scope.names []:=by rw[he];rfl
 have fm:Fm ou (λx=>binds.reverse.lookup x) s'.heap:=by
  refine⟨by rw[hsc];exact hk,by rw[he];rfl,by rw[he];rfl,⟨_,x.toInCall.ns,λy v e hl=>?_⟩,λy v e=>?_,λy e=>?_,λy cc e=>⟨_,x.cell y cc e⟩,λy z cc e1 e2=>name_of_addr x.apart (mem_of_lookup e1) (mem_of_lookup e2),
   λy cc e=>Nat.ne_of_gt (x.above y cc (mem_of_lookup e))⟩
  ·rw[QbF _ _ hl,e];rfl
  ·obtain⟨p,hp,rfl⟩:=Qev e
   have hkk:=List.all_eq_true.mp bp p hp
   rw[Bool.or_eq_true,beq_iff_eq,beq_iff_eq] at hkk
   rcases hkk with q|q
   ·exact .inl (by rw[ko];exact q)
   ·refine .inr ⟨.inl (by rw[ko];exact q),?_⟩
    obtain⟨cc,hc⟩:=is_.mp (cellsFrom_some fd.scope.names (s.heap.objs.size+1) [] (.inl q))
    rw[<- cs] at hc
    refine⟨cc,hc,?_⟩
    have:=x.cell _ cc hc
    rw[QbE _ _ (by rw[ko,q];intro z;cases z),e] at this
    exact this
  ·rw[ko] at e
   replace e:fd.scope.names.lookup y=some .cell:=e.resolve_right λq=>by
    have:=List.all_eq_true.mp hnf _ (Yo q)
    simp at this
   obtain⟨cc,hc⟩:=is_.mp (cellsFrom_some fd.scope.names (s.heap.objs.size+1) [] (.inl e))
   rw[<- cs] at hc
   exact⟨cc,_,hc,x.cell y cc hc⟩
 have big:∀a,QQ ou a->s.heap.objs.size<=a:=λa ha=>by
  rcases ha with rfl|⟨y,e⟩
  ·exact x.toInCall.fresh
  ·exact Nat.le_trans x.toInCall.fresh (Nat.le_of_lt (x.above y a (mem_of_lookup e)))
 have S':St c ou (λx=>binds.reverse.lookup x) oh fr s':=by
  refine⟨⟨S.base,λa o e=>x.toInCall.keep a o (S.has a o e),λa o e=>x.toInCall.keep a o (S.hfr a o e),S.dj,λT hT=>?_,?_,?_⟩,fm,λa ha=>⟨?_,?_,λhT=>?_⟩⟩
  ·obtain⟨⟨vs,e⟩,r⟩:=S.tab T hT
   exact⟨⟨vs,x.toInCall.keep _ _ e⟩,r⟩
  ·rw[hs'];exact S.os
  ·rw[hs'];exact S.gens
  ·cases e:oh a with
   |none=>rfl
   |some o=>exact absurd (Heap.lt_size (S.has a o e)) (Nat.not_lt.mpr (big a ha))
  ·cases e:fr a with
   |none=>rfl
   |some o=>exact absurd (Heap.lt_size (S.hfr a o e)) (Nat.not_lt.mpr (big a ha))
  ·exact absurd (S.aj hT) (Nat.not_lt.mpr (big a ha))
 refine wpAny_mono (h ou (A.deeper ou) s' (λfl s''=>Q (.ok (.ret (YP fl))) s'') hsc (by rw[he];rfl) hA.deeper S' λfl m' o' s'' hkk S''=>hQ _ o' s'' hkk S''.sg) (λfl s'' q=>?_) λx_ x_ q=>q.elim
 cases fl<;>exact q
theorem QfK (T:Y1 c) {fr:Own}{Q:Result->Sh->Prop}{Ls:Ad}{nx:Nat}(hA:Qu (N+1) A) (S:Sg c oh fr s) (hL:oh Ls=some (lst xs nx)) (hi:∀v∈xs,∃i t,v = .int i t) (hl:xs.length<=63) (hN:431<=N)
  (hQ:∀oo s',Sg c oo fr s'->Q (.ok (.ret (.bool true))) s'):codeAny (model c.prog c.w) A (.call (.ref 1346) ⟨[.ref Ls],[]⟩) Q s:=by
 refine QfJ (oc:=.type "function") (od:=none) (osl:=#[]) (f:=1346) (args:=⟨[.ref Ls],[]⟩) (fd:=ZW) (body:=Qy (Ql 76)) (binds:=[(zz "script",.ref Ls)]) (k:=λv o=>v = .bool true) (by symm) rfl rfl rfl rfl (by symm) (λs X=>BindsTo.of_eq rfl) (by symm) (by symm) rfl rfl rfl hA S (λou A' s' Q' hsc x_ hA' S' hQ'=>?_) λv o' s' hv S'=>by subst hv;exact hQ o' s' S'
 have kf:KF ou ZW.scope:=qJ hsc
 show wA _ _ (execs ((Qy (Ql 76)).head (by ac_rfl)::(Qy (Ql 76)).drop 1) ou) _ _ _
 rw[execs_cons]
 refine wb9 ?_
 refine Qmi kf hA' S' rfl hL hi hl λhd t s'' S'' P''=>?_
 exact Qmj T kf hL hi hl hN (Zf ..) rfl A' s'' fr Q' hA' S'' P'' λfl m' o' s3 hk S3=>hQ' fl m' o' s3 hk S3
end
noncomputable abbrev Qem:List Ad:=[508,1130]
theorem QmR (S:Sg c oh fr s) (hT:∀T∈c.tabs,c.H.get? T=some (tabObj #[])/\isCodeTable c.H T):OldK c.H s.heap:=by
 refine⟨λb o e=>?_,λb o e=>?_⟩
 ·by_cases hb:b∈c.tabs
  ·obtain⟨h1,h2⟩:=hT b hb
   cases h1,e
   obtain⟨⟨⟨x,ps,rfl,_⟩,h3⟩,_⟩:=S.tab b hb
   exact .inr (.inl ⟨h2,rfl,#[],ps,rfl,by rw[h3];simp⟩)
  ·exact .inl (S.has b o (S.base b o e hb))
 ·by_cases hb:b∈c.tabs
  ·obtain⟨⟨x,h3⟩,_⟩:=S.tab b hb
   exact⟨_,h3⟩
  ·exact⟨o,S.has b o (S.base b o e hb)⟩
theorem Qmf (P:Params):∀T∈Qem,(K03 P).lookup T=none:=by
 intro T hT
 simp only[mc_,nn_,or_false] at hT
 rcases hT with rfl|rfl<;>symm
theorem Qfq {P:Params}{h:Heap}:∀ {ns:List Int}{vs:List Vl},WellAll P h vs (ofPys (ns.map PyData.int))->vs.length=ns.length/\∀v∈vs,∃i t,v=Value.int i t
 | [],vs,w=>by
  cases w
  exact⟨rfl,λv hv=>(nomatch hv)⟩
 |i::r,vs,w=>by
  have w':WellAll P h vs (WData.int i::ofPys (r.map PyData.int)):=w
  cases w' with
  |cons h1 h2 =>
   obtain⟨e1,e2⟩:=Qfq h2
   refine⟨by rw[lc_,lc_,e1],λv hv=>?_⟩
   rcases mc_.mp hv with rfl|hv
   ·cases h1;exact⟨_,_,rfl⟩
   ·exact e2 v hv
theorem QnP {P:Params}{h:Heap}{L:Ad}{ns:List Int}(w:Well P h (.ref L) (ofPy (PyData.list (ns.map PyData.int)))):∃vs,h.get? L=some (lst vs 0)/\vs.length=ns.length/\∀v∈vs,∃i t,v=Value.int i t:=by
 have w':Well P h (.ref L) (.list (ofPys (ns.map PyData.int))):=w
 cases w' with
 |list h1 h2=>exact⟨_,h1,Qfq h2⟩
noncomputable def Yz (H:Heap) (tabs:List Ad):Own:=λa=>if a∈tabs then none else H.get? a
theorem Qja (hH:s.heap=c.H) (hos:s.os=c.os) (hg:s.gens=#[]):Sg c (Yz c.H c.tabs) (λx_=>none) s:=by
 have hi:∀ {a:Ad}{o:Obj},Yz c.H c.tabs a=some o->c.H.get? a=some o:=λ {a o} e=>by
  unfold Yz at e
  split at e
  ·cases e
  ·exact e
 refine⟨λa o e hT=>by unfold Yz;rw[if_neg hT];exact e,λa o e=>by rw[hH];exact hi e,λa o e=>(nomatch e),λa o e=>rfl,λT hT=>⟨?_,by unfold Yz;rw[if_pos hT],rfl⟩,hos,AllBare.of_eq hg⟩
 rw[hH];exact c.base.tab T hT
set_option tactic.hygienic true in
theorem wl {q:Program}{loose:List Str}{XP:(Str->Option Vl)->Heap->Prop}{d:DefRec}{kwd:List (Str × Expr)}(hdn:d.name=zz "law"):WalkO q loose XP (kmHook K03 A03 (λx_=>by symm) [508,1130]).says PySem.Challenge.rw_ay0028_03.row.toRowW d kwd (λf vs=>PySem.call f vs):=by
 intro w s₀ s₁ mg mb G Y a o pm cd doc dV kV ho hd hcd hD hmg hg args vals as hpre hlay hrd hwl hlo
 have KX:=km_in_of Y
 have TX:=km_tabs_of Y
 wrow_args hpre hlay hrd hwl hlo
 rename_i ns hs hlay0 hL1 hr1 hl2 wa wb Ls vs wc hLs ra w1 r0 hI hr hc1 hc2
 have ha:a=1346:=by
  have e:=mg_of KX G.T.g (n:=zz "law") (v:=.ref 1346) (by symm)
  rw[hdn,e] at hmg
  cases hmg;rfl
 subst ha
 refine enter_call ?_
 obtain⟨us,hLo,hlen,hint⟩:=QnP w1
 let c:Cx:=⟨PySem.Challenge.rw_ay0028_03.row.prog,w,s₁.heap,s₁.os,Qem,
  ⟨KX,Qmf _,⟨mg,G.T.g⟩,by decide,⟨mb,G.T.b,G.T.builtins⟩,by decide,G.T.nolimit,by decide,λT hT=>⟨⟨tabObj #[],#[],rfl,trivial⟩,TX T hT⟩⟩⟩
 have Sg0:Sg c (Yz c.H c.tabs) (λx_=>none) s₁:=Qja rfl rfl hg
 have tabs:∀T∈c.tabs,c.H.get? T=some (tabObj #[])/\isCodeTable c.H T:=λT hT=>⟨TX T hT,by
  simp only[c,mc_,nn_,or_false] at hT
  rcases hT with rfl|rfl
  ·exact⟨512,QeL,_,KX _ _ (by symm),rfl,rfl,rfl⟩
  ·exact⟨1134,QeI,_,KX _ _ (by symm),rfl,rfl,rfl⟩⟩
 have hLown:Yz c.H c.tabs Ls=some (lst us 0):=by
  unfold Yz
  rw[if_neg]
  ·exact hLo
  ·intro hT
   have:=(tabs Ls hT).1
   cases (show c.H.get? Ls=some (lst us 0) from hLo),this
 refine QfK (c:=c) (N:=431) (A:=callerA) ⟨by simp[c],by simp[c]⟩ ⟨by ac_rfl,by ac_rfl,rfl⟩ Sg0 hLown hint (by omega) (Nat.le_refl _) λoo s' S'=>?_
 refine⟨.inl ⟨.bool true,.bool true,[],rfl,λx_=>rfl,.bool true,?_,λx_=>⟨List.nodup_nil,λa ha=>nomatch ha⟩⟩,QmR S' tabs,S'.os,S'.gens⟩
 wrow_post
theorem done:PySem.Challenge.rw_ay0028_03.Holds:=hd (wl (by symm))
end Mine.Tactic
theorem PySem.Challenge.cw_ay0028_03_holds : PySem.Challenge.rw_ay0028_03.Holds :=
 Mine.Tactic.done
